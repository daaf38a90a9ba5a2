import PyProof.Rows.All
import Wide.All
import OpenK.AllK
import Wide.FinOn
import PyProof.Commute
import KE.KLam
import Lean
import PySem.Challenge.RW_wy0043_01
open Array renaming getElem?_eq_getElem->oG,length_toList->uY,getElem?_toList->xw,toList->JU,toList_inj->JV,toList_append->TB,ext'->TC,size_reverse->Uv,getElem?_eq_none->UB,getElem?_eq_some_iff->Vq,toArray_toList->amt,toList_reverse->anb,size_map->ane,any_toList->an3,forIn_toList->aoN
open Bool renaming false_ne_true->bT,and_eq_true_iff->il,eq_false_iff->px,false_eq_true->pA,or_eq_false_iff->sL,eq_iff_iff->xr,and_eq_true->AU,not_eq_true'->DF,or_eq_true_iff->JE,or_eq_true->JX,not_eq_true->J1,false_and->J4,and_false->UN,true_and->amG,false_or->anF,and_eq_false_iff->aox
open Classical renaming byContradiction->apu
open Eq renaming trans->AZ
open ForInStep renaming yield->amQ
open Iff renaming trans->Vw
open Int renaming natCast_nonneg->cx,ofNat_le->dh,le_trans->dn,ofNat_lt->fA,toNat_natCast->jU,not_lt->lr,one_mul->nF,ne_of_gt->pC,add_sub_cancel->qF,natCast_add->tC,add_comm->vk,ofNat_sub->xW,toNat_of_nonneg->AH,lt_of_lt_of_le->AI,le_of_lt->AJ,eq_ofNat_of_zero_le->A0,negSucc->Bf,neg_mul->Bh,natCast_mul->Dk,fmod_nonneg_of_pos->DU,natAbs_natCast->DW,not_le->JD,le_sub_one_of_lt->JG,mul_one->JY,sub_zero->JZ,sub_eq_add_neg->KR,lt_of_le_of_lt->Tw,lt_irrefl->TF,le_antisymm->T3,le_refl->T5,toNat_le->Ue,natCast_pos->UU,fmod_lt_of_pos->UW,fdiv->U0,natCast_pow->U1,mul_comm->U3,natCast_one->Vs,sub_sub->Vu,neg_add->VC,natAbs_neg->VD,zero_add->VG,lt_trans->alO,min_le_right->al9,add_zero->amH,toNat_lt->aoh,le_toNat->aok,fdiv_eq_ediv_of_nonneg->aor,add_mul->ao6,neg_sub->ao7,sub_mul->apb,fmod_eq_emod_of_nonneg->apg,natAbs_pos->apn,neg_fdiv_neg->apo,neg_fmod_neg->apq,mul_assoc->apw,add_assoc->apJ
open List renaming range->bc,mem_cons_self->bk,mem_cons->br,all_eq_true->bA,length_map->bK,length_append->bQ,mem_cons_of_mem->bS,size_toArray->bU,replicate->bZ,mem_singleton->b4,lookup_cons->cD,mem_map->dy,mem_of_getElem?->dZ,append_assoc->fu,map_map->fO,getElem?_map->gL,not_mem_nil->gM,nodup_cons->hH,getElem?_eq_getElem->iu,mem_range->iw,getElem?_eq_some_iff->iR,contains_iff_mem->jq,map_inj_left->jW,append_nil->kq,length_range->kr,map_append->mD,mem_append_right->mE,toArray->oE,length_reverse->pz,map_cons->qk,map_reverse->qw,getElem?_zip_eq_some->qA,length_replicate->qG,map_congr_left->sU,of_mem_zip->sX,mem_iff_getElem?->sY,foldl_append->tD,getElem?_toArray->uX,pairwise_cons->u6,mem_append->u7,getElem?_eq_none->ve,length->vx,any_eq_true->xi,forIn_nil->xE,forIn_cons->xF,length_drop->AM,mem_append_left->AV,mem_reverse->AW,isEmpty_iff->A9,all_cons->Be,length_take->Dt,any_cons->Dw,map_id->DD,mem_filter->DE,zip_cons_cons->DI,getElem?_append_right->DL,getElem?_range->DN,ext_getElem?->DO,map_nil->DV,append_toArray->JF,toList_toArray->JJ,filterMap_cons->J2,drop_length->J6,length_set->Ke,isEmpty_nil->Kt,filter_cons->KP,reverse_cons->Ts,replicate_succ->Tz,find?_cons->TS,pairwise_singleton->T2,getElem_range->Ug,push_toArray->Ur,pairwise_reverse->Ux,filter_eq_self->Uz,mem_of_find?_eq_some->UK,find?_some->UL,take_append_drop->U6,length_filter_le->Vp,foldl_cons->alG,flatten_cons->alH,length_flatten->alJ,map_replicate->alK,sum_replicate_nat->alL,cons_append->amL,getElem?_set_ne->amU,findIdx?_eq_none_iff->amX,map_fst_zip->amY,map_snd_zip->amZ,getElem?_eq_none_iff->am2,reverse_perm->anc,getElem_mem->anl,length_filterMap_le->anm,reverse->anq,setIfInBounds_toArray->anD,length_zip->anO,drop_zero->anP,getElem?_append_left->anS,getD_eq_getElem?_getD->anV,isEmpty_cons->an0,mem_of_mem_take->aoj,length_eq_one_iff->aow,map_set->aoz,drop_drop->aoV,length_nil->apm,filter_cons_of_pos->aps,filter_cons_of_neg->apt,lookup->apx,getLast?_eq_none_iff->apz,length_singleton->apI
open List.Pairwise renaming nil->amN
open List.Perm renaming of_eq->amn
open Nat renaming le_trans->aD,le_refl->bj,lt_of_lt_of_le->bG,lt_of_le_of_lt->bI,le_of_eq->bO,le_add_right->bX,le_of_lt->cE,add_le_add_right->cR,ne_of_lt->cW,succ_le_succ->cX,zero_le->dP,add_le_add->eA,add_comm->eE,succ_pos->eG,not_lt->eX,lt_irrefl->eY,two_pow_pos->fB,add_le_add_left->f6,le_succ->gy,add_assoc->g6,mul_comm->g8,lt_succ_self->iq,ne_of_gt->iS,mod_lt->iU,le_add_left->jQ,zero_add->jV,mul_le_mul_left->ko,add_right_comm->ku,sub_le->mA,succ_mul->nB,mul_le_mul_right->nG,le_of_succ_le->oF,le_of_lt_succ->oJ,pow_add->oL,sub_add_cancel->pD,lt_trans->qg,sub_lt->qp,div_lt_iff_lt_mul->qI,le_succ_of_le->u9,lt_succ_of_lt->va,lt_add_of_pos_right->vc,mul_succ->vg,add_sub_cancel'->vh,div_add_mod->vj,pow_le_pow_right->vn,not_le->xq,one_pos->xB,succ_ne_self->xI,div_le_self->xU,add_lt_add_right->xV,mul_assoc->xX,add_lt_add_left->ya,mul_le_mul->yb,le_of_ble_eq_true->yc,lt_succ_of_le->AX,mul_one->Ba,le_mul_of_pos_right->Bb,one_mul->Bc,min_eq_left->Du,le_antisymm->DB,not_lt_zero->DT,two_mul->DX,sub_self->DY,add_mul->D4,ble->D5,sub_le_sub_right->JS,lt_of_succ_le->J3,mul_add->KA,log2_lt->KD,div_eq_of_lt->KG,mul_zero->KH,pow_zero->KJ,max_le->KS,min_le_right->TK,succ_add->UC,le_div_iff_mul_le->UJ,lt_of_succ_lt_succ->UX,le_sub_of_add_le->U5,div_le_div_right->U8,add_sub_assoc->U9,add_pos_left->Va,add_zero->Vb,le_mul_of_pos_left->Vc,lt_add_right->Vj,mul_pos->Vv,pow_succ->Vx,mul_two->Vy,mul_lt_mul_of_pos_right->Vz,mod_eq_of_lt->VA,blt->VE,add_sub_cancel->VH,add_lt_add_of_lt_of_le->alC,le_sub_one_of_lt->amo,lt_or_eq_of_le->am5,min_le_left->anf,lt_one_iff->anh,succ_lt_succ->anQ,div_div_eq_div_mul->aol,eq_of_testBit_eq->aom,testBit_and->aon,testBit_shiftLeft->aoo,shiftLeft_eq->aoq,mul_add_div->aos,lt_of_le_of_ne->aot,div_lt_self->aou,strongRecOn->aov,div_pos->aoy,lt_of_add_lt_add_right->ao8,succ_eq_add_one->ao9,sub_le_of_le_add->apa,lt_of_add_lt_add_left->apc,add_sub_cancel_left->apd,sub_mul->ape,add_lt_add->apf,sub_add_comm->aph,mod_two_eq_zero_or_one->api,le_of_not_lt->apj,add_mul_div_left->apk,add_mul_mod_self_left->apl,sub_lt_left_of_lt_add->apr,not_succ_le_zero->apv,succ_ne_zero->apA,max_eq_right->apC,not_le_of_lt->apH
open Option renaming isSome_iff_exists->mC,bind_eq_some_iff->nH,map_some->AO,map->alP,getD_some->ame,some->ab,none->ae
open Option.some renaming injEq->auE
open PyProof.Rows renaming seqObj->nE,pairsOf->xJ,arrOf->xK,StrsAre->DC,pairsOf_size->J8,listUpdate_at->Ut,seqEpoch_at->Uu,len_list->amu,bitOr_and->aop,add_int->aqH,add_str->aqI,mul_int->aq1,sub_int->aq2,floordiv_int->aq3,mod_int->aq4,pow_int->aq5,lshift_int->aq6,rshift_int->aq7,and_int->aq8,or_int->aq9,xor_int->ara,eq_str->arh,getItem_tuple->arF,invert_int->ar0,not_of->ar2,sorted_ints->atm,len_tuple->atn,len_str->ato,divmod_int->atp,ilshift_int->avT,irshift_int->avU,split_le->aAJ,part_short->aAK,len_capitalize->aAP
open PyProof.Rows.F renaming plain_set_update_loop->Vk,entry_set_update_loop->aoW
open PyProof.Rows.SortSt renaming mk'->ang
open PyProof.Rows.StrsAre renaming length->ank
open PySem renaming Value->ay,Shared->az,wpAny->aA,wpAny_bind->aG,Around->aM,wpAny_pure->aQ,Expr->aW,execs->bL,wpAny_holding->dN,Params->dY,Scope->d9,wpAny_mono->eF,Builtin->eP,cellsFrom->fy,seqIndex?->f9,mainGlobals->gJ,Program->gK,codeAny->gN,FuncData->gY,World->gZ,pyNext->iQ,DictEntry->jj,builtinsNs->jm,NameKind->jo,typeLookup_type->jr,builtinLookup_eq_fast->jt,Paired->jP,pyIter->jR,rawInt->jS,starEach->jT,letOwnedTupleGo->lA,wpAny_standAt->lB,wpAny_field->lO,GenState->mx,Model->my,backTo->mz,isSubtype_type->mF,argsOk->mG,JoinOk->nA,strValues->nC,closureFor->oH,Result->oI,field->oK,sizeLine->pq,spliced->pw,wpAny_call->pB,sysModules->qf,compareOp->qh,numAt->qo,callWith_type->qq,codeAny_mono->qt,wpAny_Return_some->qB,Builtin->qD,Moved->qH,cStatics->sE,call_meets->sM,getAttr->sO,typeLookup->sP,typeIs_str->sQ,wpAny_newObj_type->sR,pushCells->sT,wpAny_assign_Name->sW,wpAny_callSpecial?_slot->tj,wpAny_call_entry->tm,entryFor->tw,table->tA,strKind_is->uZ,WalksS->vp,Arguments->xh,clipAt->xm,binaryOp->xo,getItem->xt,isTrue->xx,standAt->xy,storeName->xD,relabel->xG,unpackItems->xH,wpAny_Assign_Name->xM,wpAny_seqItems->xN,callEnvC->xP,wpAny_loadPart->xR,codeAny_call_builtin->xS,specialOf->xT,codeAny_builtin->xY,Spec->AD,codeAmong->AF,wpAny_pyIter_list->AK,compPost->AL,wpAny_loadPart'->AQ,wants->AR,wpAny_of_eq->AS,swappedStores->AY,instanceDict->A6,entryFor_of_tree->A7,TriplesOk->Dg,cLine->Dh,CmpOp->Dl,valueAt->Dm,callWith->Dq,wpAny_UnaryOp->Ds,Meets->Dv,getMethod_builtin->Dy,compTurn->Dz,wpAny_rule->DA,constantsAlone->DG,bindName->DH,wpAny_Expr_any->DJ,setAttr->DP,wpAny_attempt->DS,plainId_quiet->DZ,scanBound->D0,passing->D1,PyData->JA,typeIs_int->JH,getMethod->JL,holding->JM,wpAny_Constant_int->JN,wpAny_BinOp->JO,wpAny_List->JP,wpAny_specialOf->JQ,callType_new->JT,cellOf->J0,noteFrame->J5,Comprehension->J7,wpAny_If->J9,swapsWith->Ka,setItem->Kb,wpAny_For->Kf,IsEnum->Kh,seqItems?->Kk,wpAny_setField->Kl,newExc->Kq,firstArgMember->Kr,bindArgs->Ks,isSubtype->Ky,isInstance->Kz,ItemsOf->KL,wpAny_isInstance->KN,slot_listiter_next->KO,FuncBody->Tr,Operator->Tx,wpAny_load->TL,wpAny_loadName_local->TN,wpAny_Constant_none->TO,wpAny_Tuple->TR,wpAny_letTemporaryGo->TU,sliceBounds->TV,Ctx->TX,unsupported->TY,wpAny_typeOf->TZ,intItems->T4,strKind->T9,newFunctionEnv->Uh,codeAny_loop->Uj,theTreesLotGoes->Uk,wpAny_noted->Um,foldedSetIterable->Uo,codeAny_of_tree->Up,wpAny_list_append_plain->Uq,sizeLine_eq->Uw,wpAny_Assign_Subscript->Uy,wpAny_mkText->UM,dictMade->UQ,plainObj_wpAny_Assign_Attribute->UR,qualnameIn->U7,wpAny_updateSeq->Ve,entryFor_alias->Vh,wpAny_loadName_cell->alS,wpAny_loadName_free->alU,wpAny_Constant_bool->alY,wpAny_Constant_str->alZ,wpAny_isTrue_BoolOp->al1,wpAny_allTrue_And_cons->al2,wpAny_allTrue_Or_cons->al3,sliceBounds_plain->al7,wpAny_getItem_list_slice->ama,wpAny_getItem_str_slice->amb,arm_eval_Attribute->amE,wpAny_pyIter_revIter->amK,pushCells_keeps->amO,wpAny_askSetting->amS,wpAny_tests_nil->amT,codeAny_compStart_list->am4,slot_list_setitem->ans,wpAny_pyIter_tuple->anG,wpAny_builtinsFor->anZ,wpAny_newTextTuple->an1,getAttrByItsOwn->aoc,callGetattribute->aod,checkBuiltinCall->aoM,wpAny_pyIter_slot->aoP,entry_listiter_next->aoT,args_listiter_next->aoU
open PySem.Around renaming under_plainId->Bd
open PySem.AutoIntOps renaming imul_0->avS
open PySem.AutoSeq1 renaming list_extend_list_list_0->anB,wpAny_loadPart'->aoR
open PySem.Builtin renaming divisionGoesByPylong->xk,bitAnd->Di,bitNot->Dj,bitXor->Tu
open PySem.Builtin.Frozenset renaming updateFrom->ayJ,oneOther->ayT,addrOf->ayU,withSetAsKey->ayV
open PySem.Builtin.Int renaming intBits->ba
open PySem.Builtin.List renaming listTooLong->TH,listExtendWith->Vd,listSameRef->aoA,listFitsIndex->aqZ,listSubscript?->avI,listLengthHint->axP,listTouch->axQ,listItems->ax0
open PySem.Builtin.Range renaming rangeFitsLong->Uc,rangeSize->Ud
open PySem.Builtin.SmallTypes renaming nextOf->Ki
open PySem.Builtin.Str renaming strSliceIndices->AN,occurrences->JC,partsBetween->Tv,tooLong->amw,strKind->amx
open PySem.Builtin.Tuple renaming tupleExact->amm
open PySem.Calls renaming spliced_cons->eZ,spliced_nil->gb,callWith_builtin->xC,evalArgs_plain->AP,callWith_function->A4,Name_function_global->alV,loadGlobal_global->alW,loadGlobal_builtin->alX
open PySem.Challenge renaming pw_wy0043_01->aqu,rw_wy0043_01->aBm
open PySem.Env renaming kindOf->qi
open PySem.Expr renaming Name->qu
open PySem.F renaming called_set->vy,slot_str_join->Dx,slot_str_split->JW,slot_list_extend->Kc,slot_tuple_iterator_next->Kj,type_set_contains->KQ,entry_str_split->T6,args_str_split_2->T7,plainAttrs_str->T8,plainAttrs_list->Ua,type_str_join->Ub,slot_set_contains->Vm,slot_set_getattribute->Vn,slot_int_rmul->alM,slot_dict_get->amy,slot_int_bit_length->amz,slot_list_append->anv,type_list_append->anw,type_list_extend->anx,entry_list_extend->anz,args_list_extend_2->anA,slot_list_reverse->anC,entry_tuple_iterator_next->anH,args_tuple_iterator_next_1->anI,store_object->an4,plain_list_iadd->aoE
open PySem.Heap renaming get?_push_size->cB,get?_push_of_some->cS,size_push->fk,dictOf_iff->sN,SameBut->sZ,lt_size->xj,size_update->xA,get?_update_self->xO,ExtBut->Ko,get?_update_other->Vf,PlainList->alB,get?_push_ne->am9,get?_update_ne->an6,IsList->aoQ
open PySem.Heap.SameBut renaming update->qC
open PySem.Moved renaming trans->Vg,refl->aoB
open PySem.NameKind renaming free->g9,cell->sS
open PySem.Obj renaming mapSeq->lL,data_mapFields->Km,isFreed_of_fields->anJ,cls_mapFields->anK
open PySem.P renaming neg_int->TQ
open PySem.PyData renaming keyHash->qe,eqv->JB,list->alD,shown->alE
open PySem.SeqAt renaming shaped->sG,canLay_of_shaped->alQ,eqv_refl->aAY
open PySem.Shared renaming heap->Kg,TypeIs->aml
open PySem.Str renaming ofString->bP,length_append->sJ,mk->AG,join->Bg
open PySem.StrLaws renaming At->apy,join_split->apF,split_free->aAL,glued_eq_join->aAM
open PySem.Txt renaming join->fm,lower->pn,contains->sH,rfind->xn,capitalize->xZ,capitalized->Vi
open PySem.Unicode renaming lowerAt->KU,titleOf->VF,lowerOf->apD
open PySem.Value renaming int->sD,bool->Tq,isStr->UG,builtin->alA
open PySem.W renaming findIn->dQ,dictOf->lP,instObj->ny,tabObj->oD,Looks->qE,emptyDict->tB,looks_findIn->vf,hasDictIn->xQ,CodeHd->AE,typeIn->A5,plainOver->Ku,takerIn->Kv,makesIn->KC,handedIn->UI,instObj->anT,get_value->anU
open PySem.W.Frag renaming In->DQ
open PySem.W.Looks renaming here->tu,of_pure->DR,ld->UO,now->UP
open PySem.W.WData renaming int->Vr
open PySem.Walks renaming list->Dn
open String renaming splitOn->aoG,splitOnAux->aoH
namespace Mine
def af:=@congrArg
def ah:=@if_pos
def ai:=@if_neg
def aj:=@absurd
def ao:=@eq_of_beq
def aq:=@of_decide_eq_true
def ar:=@decide_eq_true
def av:=@decide_eq_false
def aw:=@beq_iff_eq
def ax:=@beq_self_eq_true
end Mine
set_option Elab.async false
set_option tactic.hygienic false
set_option linter.unusedVariables false
set_option linter.unusedSectionVars false
set_option maxRecDepth 100000
set_option genInjectivity false
set_option genSizeOf false
open PySem PySem.Spec PySem.W PyProof.Rows
set_option linter.defProp false
namespace Mine
noncomputable def iy(i:Nat):Stmt:=aqu.main.body.getD i default
noncomputable def VI(s:Stmt):List Stmt:=if h:s.ctorIdx=2 then Stmt.ClassDef.elim s h λz z z b z z z z z z z=>b else[]
noncomputable def oM(c i:Nat):Stmt:=(VI (iy c)).getD i default
noncomputable def sV(x:String)(n:Nat):ay:=.str (bP x) n
noncomputable def eH(st:Stmt)(f t u:Nat)(q:Str)(m:ay)(d:ay):List (Addr×Obj):=if h:st.ctorIdx=0 then Stmt.FunctionDef.elim st h λnm as bd z z z sc z z p=>
  let x:ay:=sV "/claim/cut.py" (t+2)
  [(f - 1,{cls:=.type "code",data:=.fields (([ay.str nm t,ay.str q (t+1),x,sD p.line 0,sD as.args.length 0,sD 0 0,sD 0 0,sD 3 0]++
    (if sc.more.isEmpty then[ay.ref (f - 6),Tq true,sD 181 0,ay.ref (f - 5),.none,.ref (f - 4),.ref (f - 3)]else[ay.ref (f - 4),Tq true,sD 181 0,.ref (f - 3),.none,.none,.none])++
    [ay.ref (f - 2),sD u 0,sD p.line 0,sV "/claim/cut.py" (u+1)]).toArray)}),
   (f,{cls:=.type "function",data:=.func {name:=nm,qualname:=q,params:=as,body:=.stmts bd,scope:=sc,globals:=gJ,closure:=[],defaults:=d,kwdefaults:=.none,pyModule:=m,code:=.ref (f - 1)}})]
 else[]
noncomputable def dE(P:dY)(x:String)(n:Nat)(v:ay):jj:={hash:=qe P (bP x),key:=sV x n,val:=v}
noncomputable def dO(P:dY)(n:Nat)(l:List (String×Nat×ay)):Obj:={cls:=.type "dict",data:=.dict (l.map λx=>dE P x.1 x.2.1 x.2.2).toArray n}
noncomputable def cO(a:Addr)(x:String)(t u:Nat):Obj:={cls:=.type "type",data:=.cls {name:=bP x,bases:=[.type "object"],mro:=[.ref a,.type "object"],ns:=a - 1,qualname:=bP x},slots:= #[ae,ae,ab (sV x t),ab (sV x u),ab (.builtin "object.__new__"),ab (.bool true)]}
@[irreducible] noncomputable def KK (P:dY):Frag:=
 let m1:=sV "cpy313.tabnanny" 187
 let m2:=sV "cpy313._pylong" 304
 let m3:=sV "cpy313.urllib.robotparser" 396
 let m4:=sV "law_wy0043_01" 469
 [(2,{cls:=.none,data:=.dict #[]}),
  (3,dO P 29 [("__name__",165,m4),("__doc__",166,.none),("__package__",167,.none),("__loader__",168,.builtin "__main__.__loader__#opaque"),("__spec__",169,.none),("__annotations__",170,.ref 6),("__builtins__",171,.ref 4),("__file__",173,sV "/claim/cut.py" 172),("__cached__",174,.none),("Whitespace",294,.ref 76),("format_witnesses",303,.ref 87),("_DIV_LIMIT",307,.int 4000 306),("_div2n1n",324,.ref 94),("_div3n2n",338,.ref 101),("_int2digits",349,.ref 108),("_digits2int",360,.ref 115),("_divmod_pos",375,.ref 122),("int_divmod",385,.ref 129),("capwords",395,.ref 137),("Entry",459,.ref 175),("merge_entries",468,.ref 186),("_law_rule",480,.ref 193),("_law_record",486,.ref 198),("_law_places",492,.ref 203),("_law_taken",501,.ref 210),("_law_picked",507,.ref 215),("_law_ways",513,.ref 220),("_law_run",527,.ref 227),("law",533,.ref 232)]),
  (75,dO P 4 [("__module__",196,m1),("__firstlineno__",200,.int 2 199),("S",204,sV " " 202),("T",205,sV "\t" 203),("__init__",220,.ref 31),("longest_run_of_spaces",229,.ref 38),("indent_level",241,.ref 45),("equal",249,.ref 52),("not_equal_witness",260,.ref 59),("less",270,.ref 66),("not_less_witness",281,.ref 73),("__static_attributes__",287,.ref 74),("__dict__",289,.ref 77),("__weakref__",291,.ref 78),("__doc__",292,.none)]),
  (76,cO 76 "Whitespace" 189 197),
  (130,{cls:=.type "tuple",data:=.seq #[.none]}),
  (174,dO P 4 [("__module__",405,m3),("__firstlineno__",409,.int 153 408),("__init__",416,.ref 151),("__str__",426,.ref 158),("applies_to",435,.ref 165),("allowance",447,.ref 172),("__static_attributes__",452,.ref 173),("__dict__",454,.ref 176),("__weakref__",456,.ref 177),("__doc__",457,.none)]),
  (175,cO 175 "Entry" 398 406)]++
 eH (oM 1 1) 31 206 218 "Whitespace.__init__" m1 .none++eH (oM 1 2) 38 221 227 "Whitespace.longest_run_of_spaces" m1 .none++
 eH (oM 1 3) 45 230 239 "Whitespace.indent_level" m1 .none++eH (oM 1 4) 52 242 247 "Whitespace.equal" m1 .none++
 eH (oM 1 5) 59 250 258 "Whitespace.not_equal_witness" m1 .none++eH (oM 1 6) 66 261 268 "Whitespace.less" m1 .none++
 eH (oM 1 7) 73 271 279 "Whitespace.not_less_witness" m1 .none++eH (iy 2) 87 295 301 "format_witnesses" m1 .none++
 eH (iy 5) 94 308 322 "_div2n1n" m2 .none++eH (iy 6) 101 325 336 "_div3n2n" m2 .none++
 eH (iy 7) 108 339 347 "_int2digits" m2 .none++eH (iy 8) 115 350 358 "_digits2int" m2 .none++
 eH (iy 9) 122 361 373 "_divmod_pos" m2 .none++eH (iy 10) 129 376 383 "int_divmod" m2 .none++
 eH (iy 12) 137 388 393 "capwords" (sV "cpy313.string" 386) (.ref 130)++eH (oM 14 0) 151 410 414 "Entry.__init__" m3 .none++
 eH (oM 14 2) 165 427 433 "Entry.applies_to" m3 .none++eH (oM 14 3) 172 436 445 "Entry.allowance" m3 .none++
 eH (iy 15) 186 460 466 "merge_entries" m3 .none++eH (iy 17) 193 471 478 "_law_rule" m4 .none++
 eH (iy 18) 198 481 484 "_law_record" m4 .none++eH (iy 19) 203 487 490 "_law_places" m4 .none++
 eH (iy 20) 210 493 499 "_law_taken" m4 .none++eH (iy 21) 215 502 505 "_law_picked" m4 .none++
 eH (iy 22) 220 508 511 "_law_ways" m4 .none++eH (iy 23) 227 514 525 "_law_run" m4 .none++eH (iy 24) 232 528 531 "law" m4 .none
noncomputable def as0:List Addr:=[2,3,75,76,130,174,175,30,31,37,38,44,45,51,52,58,59,65,66,72,73,86,87,93,94,100,101,107,108,114,115,121,122,128,129,136,137,150,151,164,165,171,172,185,186,192,193,197,198,202,203,209,210,214,215,219,220,226,227,231,232]
def as0_K(P:dY):as0=(KK P).map (·.1):=by kernel_rfl
noncomputable section
noncomputable def P0:dY:={strHash:=λz=>0,shareClass:=λz=>0,mergeTok:=id,idOf:=λz=>0,idOfShared:=λz z=>0,followText:=λz=>true,idOfImm:=λz=>0}
noncomputable def ob(P:dY)(a:Addr):Obj:=((KK P).lookup a).getD {cls:=.none,data:=.plain}
noncomputable def bC(a:Addr):gY:=match(ob P0 a).data with
 |.func fd=>fd
 |_=>default
noncomputable def body(a:Addr):List Stmt:=match(bC a).body with
 |.stmts l=>l
 |_=>[]
noncomputable def s_(x:String):Str:=bP x
noncomputable def globT:List (Str×ay):=[("_div2n1n",94),("_div3n2n",101),("_int2digits",108),("_digits2int",115),("_divmod_pos",122),("int_divmod",129),("capwords",137),("merge_entries",186),("_law_record",198),("_law_places",203),("_law_taken",210),("_law_picked",215),("_law_ways",220),("_law_run",227),("format_witnesses",87),("Whitespace",76),("Entry",175),("_law_rule",193)].map (λp:String×Nat=>(s_ p.1,ay.ref p.2))++[(s_ "_DIV_LIMIT",.int 4000 306)]
noncomputable def Bi:List (Str×ay):=["len","max","min","sorted","divmod","repr"].map (λx=>(s_ x,alA x))++["str","tuple","list","range","reversed","enumerate","map","filter","set"].map λx=>(s_ x,ay.type x)
noncomputable def d4(x:Str):Option ay:=(globT++Bi).lookup x
noncomputable def nI(f:Nat):Option Str:=(["_div2n1n","_div3n2n","_int2digits","_digits2int","_divmod_pos","int_divmod","capwords","merge_entries","_law_record","_law_places","_law_taken","_law_picked","_law_ways","_law_run","format_witnesses","Whitespace","Entry","_law_rule"][f]?).map s_
noncomputable def tE(f:Nat):Option Str:=if f<20 then ae else(["longest_run_of_spaces","indent_level","equal","not_equal_witness","less","not_less_witness","applies_to","allowance","applies_to"][f - 20]?).map s_
noncomputable def Bj(x:Str):Option Int:=if x==s_ "_DIV_LIMIT"then ab 4000 else ae
noncomputable def D6(x n:Str):Option Str:=if x==s_ "Whitespace"then(if n==s_ "S"then ab (s_ " ")else if n==s_ "T"then ab (s_ "\t")else ae)else ae
structure VJ where
 at_:Addr
 names:List Str
noncomputable def dR(c:Nat):VJ:=if c=1 then⟨175,["useragents","rulelines","delay","req_rate"].map s_⟩else if c=0 then⟨76,["raw","n","nt","norm","is_simple"].map s_⟩else if c=5 then⟨76,[s_ "raw"]⟩else⟨76,[]⟩
noncomputable def oN(i:Nat):Str:=if i=100 then s_ "allowance"else((dR (i/10)).names[i%10]?).getD (s_ "?")
def iA(o:Obj):Prop:=o.cls=.type "code"/\∃vs,o.data=.fields vs
def iB(o:Obj):Prop:=((∃vs,o.data=.fields vs)/\(o.cls=.none∨o.cls=.type "code"))∨(o.cls=.type "module"/\o.data=.plain)
def ky(h:Heap)(cv:ay)(q:Str):Prop:=∃c' oc vs t,cv=.ref c'/\h.get? c'=ab oc/\oc.cls=.type "code"/\oc.data=.fields vs/\vs[1]?=ab (.str q t)
def VK(h:Heap)(c P:Addr)(q:Str):Prop:=AE h c P/\∃ps,h.get? P=ab (oD ps)/\Dg ps.toList/\∀pos cv,AF pos ps.toList=ab cv->ky h cv q
def KV(mg:Str->Option ay)(h:Heap):Prop:=∃bm ob,mg "__builtins__"=ab (.ref bm)/\bm≠jm/\bm≠gJ/\h.get? bm=ab ob/\ob.cls=.type "module"/\ob.dict=ab jm/\ob.data=.plain
noncomputable def Bk:Str:=s_ "_int2digits.<locals>.inner"
noncomputable def Bl:Str:=s_ "_digits2int.<locals>.inner"
noncomputable def oO:Str:=s_ "_law_rule.<locals>.<lambda>"
noncomputable def vz:Str:=s_ "format_witnesses.<locals>.<genexpr>"
noncomputable def iD:List (Addr×Addr×Str):=[(107,103,Bk),(114,110,Bl),(192,188,oO),(86,82,vz)]
noncomputable def aV:List Addr:=[188,110,103,82]
def kz(mg:Str->Option ay)(h:Heap):Prop:=KV mg h/\∀e∈iD,VK h e.1 e.2.1 e.2.2
noncomputable def qJ(mg:Str->Option ay)(name q:Str)(p:xh)(body:Tr)(sc:d9)(kA:List (Str×Addr))(cv ct:ay):gY:=
 {name:=name,qualname:=q,params:=p,body:=body,scope:=sc,globals:=gJ,closure:=kA,defaults:=.none,kwdefaults:=.none,doc:=.none,pyModule:=(mg "__name__").getD .none,annotations:=ae,code:=cv,closureTuple:=ct,builtins:=jm}
noncomputable def jX(x:Expr):xh×Expr×d9:=if h:x.ctorIdx=4 then Expr.Lambda.elim x h λa b s z=>(a,b,s)else default
noncomputable def aT(s:Stmt):Expr:=if h:s.ctorIdx=5 then Stmt.Assign.elim s h λz v z=>v else default
noncomputable def D7(l:List Stmt):xh×Expr×d9:=jX (aT (l.getD 1 default))
def KW(mg:Str->Option ay)(gd:gY):Prop:=∃kA cv ct,gd=qJ mg (s_ "<lambda>") oO (D7 (body 193)).1 (.expr (D7 (body 193)).2.1) (D7 (body 193)).2.2 kA cv ct
end
def VL(P:dY):aV.all (λa=>((KK P).lookup a).isNone)=true:=by kernel_rfl
def KX:aV.all (λa=>iD.any λe=>e.2.1==a)=true:=by kernel_rfl
def KY:iD.all (λe=>aV.contains e.2.1)=true:=by kernel_rfl
def ky.keep{h h':Heap}{cv:ay}{q:Str}(x:ky h cv q)(k:∀b o,iA o->h.get? b=ab o->h'.get? b=ab o):ky h' cv q:=by
 obtain⟨c',oc,vs,t,e,e1,e2,e3,e4⟩:=x
 exact⟨c',oc,vs,t,e,k _ _ ⟨e2,vs,e3⟩ e1,e2,e3,e4⟩
def AE.Bm{h h':Heap}{c P:Addr}(x:AE h c P)(k:∀b o,iA o->h.get? b=ab o->h'.get? b=ab o):AE h' c P:=by
 have q:h'.get? c=h.get? c:=by
  obtain⟨o,vs,_,_,_,_,_,_,_,e,e1,e2,_⟩:=x
  exact(k _ _ ⟨e1,vs,e2⟩ e).trans e.symm
 unfold AE
 rw[q];exact x
def D8{o:Obj}(h:iA o):iB o:=.inl ⟨h.2,.inr h.1⟩
def yd{mg:Str->Option ay}{h h':Heap}(k:∀b o,iB o->h.get? b=ab o->h'.get? b=ab o)(x:kz mg h):kz mg h':=by
 have kc:∀b o,iA o->h.get? b=ab o->h'.get? b=ab o:=λb o c=>k b o (D8 c)
 refine⟨?_,λe he=>?_⟩
 ·obtain⟨bm,ob,e1,e2,e3,e4,e5,e6,e7⟩:=x.1
  exact⟨bm,ob,e1,e2,e3,k _ _ (.inr ⟨e5,e7⟩) e4,e5,e6,e7⟩
 ·obtain⟨a,ps,e,ht,r⟩:=x.2 e he
  exact⟨AE.Bm a kc,ps,k _ _ (.inl ⟨⟨ps,rfl⟩,.inl rfl⟩) e,ht,λpos cv q=>(r pos cv q).keep kc⟩
def VM{mg:Str->Option ay}{h:Heap}(x:kz mg h)(a:Addr)(ha:a∈aV)(o:Obj)(e:h.get? a=ab o):o.cls=.none:=by
 obtain⟨t,ht,q⟩:=xi.mp (bA.mp KX a ha)
 obtain⟨_,ps,e1,_⟩:=x.2 t ht
 rw[ao q,e]at e1;cases e1;rfl
def nJ{o:Obj}{T:String}(e:o.cls=.type T)(h:T≠"code"/\T≠"module"):¬iB o:=λq=>
 q.elim (λq=>q.2.elim (λq=>ay.noConfusion (e.symm.trans q)) λq=>h.1 (ay.type.inj (e.symm.trans q))) λq=>h.2 (ay.type.inj (e.symm.trans q.1))
noncomputable def D9:Data->Bool
 |.dict ..|.cell ..|.seq ..|.func ..=>true
 |_=>false
def oP{o:Obj}{d:Data}(e:o.data=d)(h:D9 d=true):¬iB o:=λq=>
 q.elim (λq=>q.1.elim λvs q=>bT ((af D9 (e.symm.trans q)).symm.trans h)) λq=>bT ((af D9 (e.symm.trans q.2)).symm.trans h)
def VN:gJ∉aV:=by decide
def VO:jm∉aV:=by decide
def VP:sE∉aV:=by decide
def VQ{P:dY}{a:Addr}{o:Obj}(e:(KK P).lookup a=ab o):a∉aV:=λq=>by
 have:=bA.mp (VL P) a q
 rw[e]at this;cases this
section
inductive T where
 |none|bool (b:Bool)|int (i:Int)|str (x:Str)
 |tup (l:List T)|lst (l:List T)
 |aY (l:List (Str×Int))
 |ins (c:Nat) (l:List T)
 |eI (mid v:Str)
 |ptr (a:Nat)
noncomputable def lim:Nat:=65536
noncomputable def T.obj:T->Bool
 |.lst _|.aY _=>true
 |_=>false
structure Kx where
 prog:gK
 w:gZ
 mg:Str->Option ay
 mb:Str->Option ay
noncomputable abbrev Kx.K(X:Kx):Frag:=KK X.w.params
inductive gf:List Str->List ay->List jj->Prop
 |nil:gf [] [] []
 |cons {n v h t ns vs es}:gf ns vs es->gf (n::ns) (v::vs) (⟨h,.str n t,v⟩::es)
def jY(h:Heap)(a:Addr)(items:Array ay):Prop:=∃n,h.get? a=ab {cls:=.type "tuple",data:=.seq items n}
def jY.isTup{h:Heap}{a:Addr}{items:Array ay}(x:jY h a items):IsTup h a items:=x.elim λn e=>⟨_,e,rfl,n,rfl⟩
abbrev DK(p:Str×Int)(q:Str×ay):Prop:=p.1=q.1/\p.1.length<=lim/\∃t,q.2=.int p.2 t
section
variable(X:Kx)
mutual
inductive VR(N:Addr->Prop)(h:Heap):T->ay->Prop
 |none:VR N h .none .none
 |bool (b:Bool):VR N h (.bool b) (.bool b)
 |int (i:Int) (t:Tok):VR N h (.int i) (.int i t)
 |str (x:Str) (t:Tok) (hx:x.length<=lim):VR N h (.str x) (.str x t)
 |tup {a:Addr} {vs:List ay} {ts:List T} (ho:jY h a vs.toArray) (hN:¬N a) (hz:ts.length<=lim) (hs:aL N h ts vs):VR N h (.tup ts) (.ref a)
 |lst {a:Addr} {vs:List ay} {ts:List T} (ho:h.PlainList a vs.toArray) (hN:¬N a) (hz:ts.length<=lim) (hs:aL N h ts vs):VR N h (.lst ts) (.ref a)
 |aY {a:Addr} {o:Obj} {l:List (Str×Int)} {aZ:List (Str×ay)} (ho:h.get? a=ab o) (hd:o.IsDictOf (strKind X.prog X.w) aZ) (hN:¬N a)
   (hz:l.length<=lim) (hq:(a==qf)=false) (hs:jP DK l aZ):VR N h (.aY l) (.ref a)
 |ins {a dA:Addr} {c:Nat} {es:List jj} {n:Nat} {vs:List ay} {ts:List T} (ho:h.get? a=ab (ny (dR c).at_ dA))
   (hd:h.get? dA=ab {cls:=.type "dict",data:=.dict es.toArray n}) (hN:¬N a) (hM:¬N dA)
   (he:gf (dR c).names vs es) (hs:aL N h ts vs):VR N h (.ins c ts) (.ref a)
 |eI {a dA g c cd:Addr} {mid v:Str} {fd gd:gY} {es:List jj} {n:Nat} {t u:Tok} {oc:Obj} {cv:Array ay} {ct:Tok}
   (ho:h.get? a=ab {cls:=.type "function",dict:=ab dA,data:=.func fd}) (hN:¬N a)
   (hd:h.get? dA=ab {cls:=.type "dict",data:=.dict es.toArray n}) (hM:¬N dA)
   (he:gf [s_ "applies_to",s_ "allowance"] [.ref g,.str v t] es)
   (hg:h.get? g=ab {cls:=.type "function",data:=.func gd}) (hO:¬N g) (hl:KW X.mg gd) (hc:gd.closure=[(s_ "middle",c)])
   (hm:h.IsCell c (ab (.str mid u))) (hP:¬N c) (hz:mid.length<=lim) (hy:v.length<=lim)
   (iE:gd.code=.ref cd) (nK:h.get? cd=ab oc) (lQ:oc.data=.fields cv) (mH:cv[1]?=ab (.str gd.qualname ct)) (hR:oc.cls=.type "code"):VR N h (.eI mid v) (.ref a)
 |ptr (a:Addr):VR N h (.ptr a) (.ref a)
inductive aL(N:Addr->Prop)(h:Heap):List T->List ay->Prop
 |nil:aL N h [] []
 |cons {t v ts vs}:VR N h t v->aL N h ts vs->aL N h (t::ts) (v::vs)
end
end
inductive yf(X:Kx)(N:Addr->Prop)(h:Heap)(P:Addr->Array ay->Prop)(ts:List T):ay->Prop
 |mk {a vs} (ho:P a (oE vs)) (hN:¬N a) (hz:ts.length<=lim) (hs:aL X N h ts vs):yf X N h P ts (.ref a)
inductive vA(X:Kx)(N:Addr->Prop)(h:Heap)(l:List (Str×Int)):ay->Prop
 |mk {a o aZ} (ho:h.get? a=ab o) (hd:o.IsDictOf (strKind X.prog X.w) aZ) (hN:¬N a) (hz:l.length<=lim) (hq:(a==qf)=false) (hs:jP DK l aZ):vA X N h l (.ref a)
inductive Ea(i:Int):ay->Prop
 |mk (t):Ea i (.int i t)
inductive Bn(x:Str):ay->Prop
 |mk (t) (hx:x.length<=lim):Bn x (.str x t)
noncomputable def VS(X:Kx)(N:Addr->Prop)(h:Heap):T->ay->Prop
 |.none=>λv=>v=.none
 |.bool b=>λv=>v=.bool b
 |.int i=>Ea i
 |.str x=>Bn x
 |.tup ts=>yf X N h (jY h) ts
 |.lst ts=>yf X N h (alB h) ts
 |.aY l=>vA X N h l
 |.ptr a=>λv=>v=.ref a
 |_=>λz=>True
def VR.inv{X:Kx}{N:Addr->Prop}{h:Heap}{t:T}{v:ay}(x:VR X N h t v):VS X N h t v:=by
 cases x with
 |none=>rfl
 |bool=>rfl
 |int=>exact .mk _
 |str _ _ hx=>exact .mk _ hx
 |tup ho hN hz hs=>exact .mk ho hN hz hs
 |lst ho hN hz hs=>exact .mk ho hN hz hs
 |aY ho hd hN hz hq hs=>exact .mk ho hd hN hz hq hs
 |ins=>trivial
 |eI=>trivial
 |ptr=>rfl
inductive Eb(X:Kx)(N:Addr->Prop)(h:Heap)(t:T)(ts:List T):List ay->Prop
 |mk {v vs} (a:VR X N h t v) (b:aL X N h ts vs):Eb X N h t ts (v::vs)
noncomputable def VT(X:Kx)(N:Addr->Prop)(h:Heap):List T->List ay->Prop
 |[]=>λvs=>vs=[]
 |t::ts=>Eb X N h t ts
def aL.inv{X:Kx}{N:Addr->Prop}{h:Heap}{t:List T}{v:List ay}(x:aL X N h t v):VT X N h t v:=by
 cases x with
 |nil=>rfl
 |cons a b=>exact .mk a b
section
variable{X:Kx}{N N':Addr->Prop}{h h':Heap}
def bw{a:Addr}{o:Obj}(e:h.get? a=ab o):a<h.objs.size:=xj e
def bx{P:Prop}{a b:Nat}(h:a<b)(h':b<=a):P:=aj h (eX.mpr h')
def VR.move(hN:∀a,N' a->N a∨h.objs.size<=a)(k:∀b o,(¬N b∨iA o)->h.get? b=ab o->h'.get? b=ab o){t:T}{v:ay}(x:VR X N h t v):VR X N' h' t v:=
 have nn:∀{a o},h.get? a=ab o->¬N a->¬N' a:=λe n q=>(hN _ q).elim n λl=>bx (bw e) l
 have kk:∀{b o},h.get? b=ab o->¬N b->h'.get? b=ab o:=λe n=>k _ _ (.inl n) e
 VR.rec (motive_1:=λt v z=>VR X N' h' t v) (motive_2:=λt v z=>aL X N' h' t v) .none .bool .int .str
  (λho hn hz z r=>ho.elim λn e=>.tup ⟨n,kk e hn⟩ (nn e hn) hz r)
  (λho hn hz z r=>ho.elim λn e=>.lst ⟨n,kk e hn⟩ (nn e hn) hz r)
  (λho hd hn hz hq hs=>.aY (kk ho hn) hd (nn ho hn) hz hq hs)
  (λho hd hn hm he z r=>.ins (kk ho hn) (kk hd hm) (nn ho hn) (nn hd hm) he r)
  (λho hn hd hm he hg hO hl hc VU hp hz hy iE nK lQ mH hr=>VU.elim λo q=>.eI (kk ho hn) (nn ho hn) (kk hd hm) (nn hd hm) he (kk hg hO) (nn hg hO) hl hc ⟨o,kk q.1 hp,q.2⟩ (nn q.1 hp) hz hy iE (k _ _ (.inr ⟨hr,_,lQ⟩) nK) lQ mH hr)
  .ptr .nil (λz z a b=>.cons a b) x
def aL.move(hN:∀a,N' a->N a∨h.objs.size<=a)(k:∀b o,(¬N b∨iA o)->h.get? b=ab o->h'.get? b=ab o){t:List T}{v:List ay}(x:aL X N h t v):aL X N' h' t v:=by
 induction t generalizing v with
 |nil=>cases x;exact .nil
 |cons t ts ih=>cases x with|cons a b=>exact .cons (a.move hN k) (ih b)
def VR.keep(k:∀b o,(¬N b∨iA o)->h.get? b=ab o->h'.get? b=ab o){t:T}{v:ay}(x:VR X N h t v):VR X N h' t v:=x.move (λz=>.inl) k
def aL.keep(k:∀b o,(¬N b∨iA o)->h.get? b=ab o->h'.get? b=ab o){t:List T}{v:List ay}(x:aL X N h t v):aL X N h' t v:=x.move (λz=>.inl) k
def VR.mono(hN:∀a,N' a->N a){t:T}{v:ay}(x:VR X N h t v):VR X N' h t v:=x.move (λa q=>.inl (hN a q)) λz z z e=>e
def aL.mono(hN:∀a,N' a->N a){t:List T}{v:List ay}(x:aL X N h t v):aL X N' h t v:=x.move (λa q=>.inl (hN a q)) λz z z e=>e
def aL.length{ts:List T}{vs:List ay}(x:aL X N h ts vs):vs.length=ts.length:=by
 induction ts generalizing vs with
 |nil=>cases x;rfl
 |cons t ts ih=>cases x with|cons a b=>exact af (· +1) (ih b)
def aL.get{ts:List T}{vs:List ay}(x:aL X N h ts vs){i:Nat}{t:T}(e:ts[i]?=ab t):∃v,vs[i]?=ab v/\VR X N h t v:=by
 induction ts generalizing vs i with
 |nil=>cases e
 |cons a ts ih=>
  cases x with
  |cons p q=>
   cases i with
   |zero=>cases e;exact⟨_,rfl,p⟩
   |succ i=>exact ih q e
def aL.app{ts us:List T}{vs ws:List ay}(x:aL X N h ts vs)(y:aL X N h us ws):aL X N h (ts++us) (vs++ws):=by
 induction ts generalizing vs with
 |nil=>cases x;exact y
 |cons a ts ih=>cases x with|cons p q=>exact .cons p (ih q)
def aL.one{t:T}{v:ay}(x:VR X N h t v):aL X N h [t] [v]:=.cons x .nil
def aL.rev{ts:List T}{vs:List ay}(x:aL X N h ts vs):aL X N h ts.reverse vs.reverse:=by
 induction ts generalizing vs with
 |nil=>cases x;exact .nil
 |cons a ts ih=>cases x with|cons p q=>rw[Ts,Ts];exact(ih q).app (.one p)
def aL.drop{ts:List T}{vs:List ay}(n:Nat)(x:aL X N h ts vs):aL X N h (ts.drop n) (vs.drop n):=by
 induction n generalizing ts vs with
 |zero=>exact x
 |succ n ih=>cases x with|nil=>exact .nil|cons p q=>exact ih q
def aL.take{ts:List T}{vs:List ay}(n:Nat)(x:aL X N h ts vs):aL X N h (ts.take n) (vs.take n):=by
 induction n generalizing ts vs with
 |zero=>exact .nil
 |succ n ih=>cases x with|nil=>exact .nil|cons p q=>exact .cons p (ih q)
def aL.set{ts:List T}{vs:List ay}{t:T}{v:ay}(n:Nat)(x:aL X N h ts vs)(y:VR X N h t v):aL X N h (ts.set n t) (vs.set n v):=by
 induction n generalizing ts vs with
 |zero=>cases x with|nil=>exact .nil|cons p q=>exact .cons y q
 |succ n ih=>cases x with|nil=>exact .nil|cons p q=>exact .cons p (ih q)
inductive VB(X:Kx)(N:Addr->Prop)(h:Heap):T->ay->Prop
 |of {t v} (x:VR X N h t v):VB X N h t v
 |lst {a:Addr} {vs:List ay} {ts:List T} (ho:h.PlainList a vs.toArray) (hz:ts.length<=lim) (hs:aL X N h ts vs):VB X N h (.lst ts) (.ref a)
 |aY {a:Addr} {o:Obj} {l:List (Str×Int)} {aZ:List (Str×ay)} (ho:h.get? a=ab o) (hd:o.IsDictOf (strKind X.prog X.w) aZ)
   (hz:l.length<=lim) (hq:(a==qf)=false) (hs:jP DK l aZ):VB X N h (.aY l) (.ref a)
@[elab_as_elim] theorem aL.tF {P:List ay->Prop} {u:T} {ts:List T} {vs:List ay} (x:aL X N h (u::ts) vs) (k:∀v ws,VR X N h u v->aL X N h ts ws->P (v::ws)):P vs:=by
 have y:Eb X N h u ts vs:=x.inv
 cases y with|mk a b=>exact k _ _ a b
@[elab_as_elim] theorem aL.qK {P:List ay->Prop} {vs:List ay} (x:aL X N h [] vs) (k:P []):P vs:=by
 have y:vs=[]:=x.inv
 rw[y];exact k
@[elab_as_elim] theorem aL.oQ {P:List ay->Prop} {u:T} {vs:List ay} (x:aL X N h [u] vs) (k:∀v,VR X N h u v->P [v]):P vs:=x.tF λv ws a b=>b.qK (k v a)
@[elab_as_elim] theorem aL.Ec {P:List ay->Prop} {u t:T} {vs:List ay} (x:aL X N h [u,t] vs) (k:∀v w,VR X N h u v->VR X N h t w->P [v,w]):P vs:=x.tF λv ws a b=>b.oQ λw c=>k v w a c
@[elab_as_elim] theorem VR.fb {P:ay->Prop} {ts:List T} {v:ay} (x:VR X N h (.tup ts) v) (k:∀a vs,jY h a vs.toArray->¬N a->ts.length<=lim->aL X N h ts vs->P (.ref a)):P v:=by
 have y:yf X N h (jY h) ts v:=x.inv
 cases y with|mk ho hN hz hs=>exact k _ _ ho hN hz hs
@[elab_as_elim] theorem VR.eQ {P:ay->Prop} {ts:List T} {v:ay} (x:VR X N h (.lst ts) v) (k:∀a vs,h.PlainList a vs.toArray->¬N a->ts.length<=lim->aL X N h ts vs->P (.ref a)):P v:=by
 have y:yf X N h (alB h) ts v:=x.inv
 cases y with|mk ho hN hz hs=>exact k _ _ ho hN hz hs
@[elab_as_elim] theorem VR.VV {P:ay->Prop} {l:List (Str×Int)} {v:ay} (x:VR X N h (.aY l) v) (k:∀a o aZ,h.get? a=ab o->o.IsDictOf (strKind X.prog X.w) aZ->¬N a->l.length<=lim->(a==qf)=false->jP DK l aZ->P (.ref a)):P v:=by
 have y:vA X N h l v:=x.inv
 cases y with|mk ho hd hN hz hq hs=>exact k _ _ _ ho hd hN hz hq hs
@[elab_as_elim] theorem VR.eR {P:ay->Prop} {i:Int} {v:ay} (x:VR X N h (.int i) v) (k:∀t,P (.int i t)):P v:=by
 have y:Ea i v:=x.inv
 cases y with|mk t=>exact k t
@[elab_as_elim] theorem VR.c6 {P:ay->Prop} {y:Str} {v:ay} (x:VR X N h (.str y) v) (k:∀t,y.length<=lim->P (.str y t)):P v:=by
 have y:Bn y v:=x.inv
 cases y with|mk t hx=>exact k t hx
def VB.vr{t:T}{v:ay}(x:VB X N h t v)(q:t.obj=false):VR X N h t v:=by
 cases x with
 |of x=>exact x
 |lst=>exact aj q.symm bT
 |aY=>exact aj q.symm bT
inductive Bo(X:Kx)(N:Addr->Prop)(h:Heap)(ts:List T):ay->Prop
 |mk {a vs} (ho:h.PlainList a (oE vs)) (hz:ts.length<=lim) (hs:aL X N h ts vs):Bo X N h ts (.ref a)
noncomputable def KZ(X:Kx)(N:Addr->Prop)(h:Heap):T->ay->Prop
 |.lst ts=>Bo X N h ts
 |.aY l=>vA X (λz=>False) h l
 |_=>λz=>True
def VR.j{t:T}{v:ay}(x:VR X N h t v):KZ X N h t v:=by
 cases x with
 |lst ho hN hz hs=>exact .mk ho hz hs
 |aY ho hd hN hz hq hs=>exact .mk ho hd id hz hq hs
 |_=>trivial
def VB.j{t:T}{v:ay}(x:VB X N h t v):KZ X N h t v:=by
 cases x with
 |of x=>exact x.j
 |lst ho hz hs=>exact .mk ho hz hs
 |aY ho hd hz hq hs=>exact .mk ho hd id hz hq hs
@[elab_as_elim] theorem VB.list {P:ay->Prop} {ts:List T} {v:ay} (x:VB X N h (.lst ts) v) (k:∀a vs,h.PlainList a vs.toArray->ts.length<=lim->aL X N h ts vs->P (.ref a)):P v:=by
 have y:Bo X N h ts v:=x.j
 cases y with|mk ho hz hs=>exact k _ _ ho hz hs
def VB.isList{ts:List T}{v:ay}(x:VB X N h (.lst ts) v):∃a vs,v=.ref a/\h.PlainList a vs.toArray/\ts.length<=lim/\aL X N h ts vs:=x.list λa vs h1 h2 h3=>⟨a,vs,rfl,h1,h2,h3⟩
@[elab_as_elim] theorem VB.dict {P:ay->Prop} {l:List (Str×Int)} {v:ay} (x:VB X N h (.aY l) v) (k:∀a o aZ,h.get? a=ab o->o.IsDictOf (strKind X.prog X.w) aZ->l.length<=lim->(a==qf)=false->jP DK l aZ->P (.ref a)):P v:=by
 have y:vA X (λz=>False) h l v:=x.j
 cases y with|mk ho hd _ hz hq hs=>exact k _ _ _ ho hd hz hq hs
@[elab_as_elim] theorem VB.La {P:ay->Prop} {ts:List T} {v:ay} (x:VB X N h (.tup ts) v) (k:∀a vs,jY h a vs.toArray->ts.length<=lim->aL X N h ts vs->P (.ref a)):P v:=(x.vr rfl).fb λa vs h1 z h2 h3=>k a vs h1 h2 h3
@[elab_as_elim] theorem VB.eR {P:ay->Prop} {i:Int} {v:ay} (x:VB X N h (.int i) v) (k:∀t,P (.int i t)):P v:=(x.vr rfl).eR k
@[elab_as_elim] theorem VB.c6 {P:ay->Prop} {y:Str} {v:ay} (x:VB X N h (.str y) v) (k:∀t,y.length<=lim->P (.str y t)):P v:=(x.vr rfl).c6 k
def VB.str{x:Str}{v:ay}(q:VB X N h (.str x) v):∃t,v=.str x t/\x.length<=lim:=q.c6 λt h=>⟨t,rfl,h⟩
def nL(a b:Array mx):Prop:=(AllBare a->AllBare b)/\∀(i:Nat)x,a[i]?=ab x->b[i]?=ab x
def nL.refl(a:Array mx):nL a a:=⟨id,λz z e=>e⟩
def nL.trans{a b c:Array mx}(x:nL a b)(y:nL b c):nL a c:=⟨λg=>y.1 (x.1 g),λi z e=>y.2 i z (x.2 i z e)⟩
structure Mv(X:Kx)(M:Addr->Prop)(s s':az):Prop where
 old:∀b o,¬M b->b∉aV->s.heap.get? b=ab o->s'.heap.get? b=ab o
 size:s.heap.objs.size<=s'.heap.objs.size
 tabs:kz X.mg s.heap->kz X.mg s'.heap
 os:s'.os=s.os
 gens:nL s.gens s'.gens
 code:∀b o,iA o->s.heap.get? b=ab o->s'.heap.get? b=ab o
structure Kp(X:Kx)(s s':az):Prop where
 old:∀b o,b∉aV->s.heap.get? b=ab o->s'.heap.get? b=ab o
 size:s.heap.objs.size<=s'.heap.objs.size
 tabs:kz X.mg s.heap->kz X.mg s'.heap
 os:s'.os=s.os
 gens:nL s.gens s'.gens
 code:∀b o,iA o->s.heap.get? b=ab o->s'.heap.get? b=ab o
def Kp.refl(s:az):Kp X s s:=⟨λz z z e=>e,bj _,id,rfl,.refl _,λz z z e=>e⟩
def Kp.trans{a b c:az}(x:Kp X a b)(y:Kp X b c):Kp X a c:=
 ⟨λz z n e=>y.old _ _ n (x.old _ _ n e),aD x.size y.size,λt=>y.tabs (x.tabs t),y.os.trans x.os,x.gens.trans y.gens,λb o c e=>y.code _ _ c (x.code _ _ c e)⟩
def Kp.kc{s s':az}(k:Kp X s s')(n:∀a∈aV,N a)(b o)(q:¬N b∨iA o)(e:s.heap.get? b=ab o):s'.heap.get? b=ab o:=
 q.elim (λq=>k.old b o (λz=>q (n b z)) e) λc=>k.code b o c e
structure Wd(X:Kx)(h:Heap):Prop where
 K:X.K.In h
 g:h.Ns gJ X.mg
 b:h.Ns jm X.mb
 nolimit:h.NoLimit
 nodigits:∃mc,h.Ns sE mc/\mc "sys.int_max_str_digits"=ae
 tabs:kz X.mg h
 gl:∀x v,d4 x=ab v->X.mg x=ab v∨(X.mg x=ae/\X.mb x=ab v)
structure NG(X:Kx)(N:Addr->Prop)(h:Heap):Prop where
 tb:∀a∈aV,N a
 lt:∀a,N a->a<h.objs.size
 wd:∀a,N a->a∉aV->X.K.lookup a=ae/\a≠gJ/\a≠jm/\a≠sE
structure RA(k:Nat)(A:aM):Prop where
 handled:A.handled=ae
 guards:A.guards=ab []
 depth:A.depth+k<900
 units:A.units+8*k<9000
def RA.mono{k j:Nat}{A:aM}(x:RA k A)(h:j<=k):RA j A:=⟨x.handled,x.guards,bI (f6 h _) x.depth,bI (f6 (ko _ h) _) x.units⟩
def RA.room{k:Nat}{A:aM}(x:RA k A):A.depth<recursionLimit:=bI (bX _ _) (qg x.depth (by decide))
def RA.Lb{k n:Nat}{A:aM}(x:RA k A)(h:n<=800:=by decide):A.units+n<Dh:=bG (alC (bI (bX _ _) x.units) h) (by decide)
def RA.deeper{k:Nat}{A:aM}{env:Env}(x:RA (k+1) A):RA k (A.deeper env):=
 ⟨x.handled,x.guards,bI (bO ((g6 ..).trans (af _ (eE ..)))) x.depth,
  bI (aD (bO (g6 ..)) (f6 (aD (cR (by decide:3<=8) _) (bO (eE ..))) _)) x.units⟩
section
variable{s s':az}{M M':Addr->Prop}
def Kp.of{h':Heap}{tk:Nat}(k:∀b o,s.heap.get? b=ab o->h'.get? b=ab o)(z:s.heap.objs.size<=h'.objs.size):Kp X s {s with heap:=h',toks:=tk}:=
 ⟨λb o y e=>k b o e,z,yd (λb o y e=>k b o e),rfl,.refl _,λb o y e=>k b o e⟩
def Kp.tok{tk:Nat}:Kp X s {s with toks:=tk}:=Kp.of (λz z e=>e) (bj _)
def Kp.push{o:Obj}{tk:Nat}:Kp X s {s with heap:=s.heap.push o,toks:=tk}:=Kp.of (λb o e=>cS _ e) (by rw[fk];exact gy _)
def Wd.to(x:Wd X s.heap)(k:∀b o,(b=gJ∨b=jm∨b=sE∨X.K.lookup b=ab o)->s.heap.get? b=ab o->s'.heap.get? b=ab o)(t:kz X.mg s'.heap):Wd X s'.heap:=
 ⟨λa o e=>k _ _ (.inr (.inr (.inr e))) (x.K a o e),x.g.at' λo e=>k _ _ (.inl rfl) e,x.b.at' λo e=>k _ _ (.inr (.inl rfl)) e,
  x.nolimit.elim λmc q=>⟨mc,q.1.at' λo e=>k _ _ (.inr (.inr (.inl rfl))) e,q.2⟩,x.nodigits.elim λmc q=>⟨mc,q.1.at' λo e=>k _ _ (.inr (.inr (.inl rfl))) e,q.2⟩,t,x.gl⟩
def Ed{b:Addr}{o:Obj}(q:b=gJ∨b=jm∨b=sE∨X.K.lookup b=ab o):b∉aV:=by
 rcases q with rfl|rfl|rfl|q
 ·exact VN
 ·exact VO
 ·exact VP
 ·exact VQ q
def Wd.kp(x:Wd X s.heap)(k:Kp X s s'):Wd X s'.heap:=x.to (λb o q e=>k.old _ _ (Ed q) e) (k.tabs x.tabs)
def NG.kp(x:NG X N s.heap)(k:Kp X s s'):NG X N s'.heap:=⟨x.tb,λa q=>bG (x.lt a q) k.size,x.wd⟩
def VR.kp(n:NG X N s.heap)(k:Kp X s s'){t:T}{v:ay}(x:VR X N s.heap t v):VR X N s'.heap t v:=x.keep (k.kc n.tb)
def aL.kp(n:NG X N s.heap)(k:Kp X s s'){t:List T}{v:List ay}(x:aL X N s.heap t v):aL X N s'.heap t v:=x.keep (k.kc n.tb)
def Mv.refl(s:az):Mv X M s s:=⟨λz z z z e=>e,bj _,id,rfl,.refl _,λz z z e=>e⟩
def Mv.kc(k:Mv X M s s')(n:∀a∈aV,N a)(h:∀a,M a->N a)(b o)(q:¬N b∨iA o)(e:s.heap.get? b=ab o):s'.heap.get? b=ab o:=
 q.elim (λq=>k.old b o (λz=>q (h b z)) (λz=>q (n b z)) e) λc=>k.code b o c e
def Mv.of(k:Kp X s s'):Mv X M s s':=⟨λb o z n e=>k.old b o n e,k.size,k.tabs,k.os,k.gens,k.code⟩
def Mv.kp(k:Mv X M s s')(h:∀a,¬M a):Kp X s s':=⟨λb o n e=>k.old b o (h b) n e,k.size,k.tabs,k.os,k.gens,k.code⟩
def Mv.trans{a b c:az}(x:Mv X M a b)(y:Mv X M' b c)(h:∀d,M' d->M d∨a.heap.objs.size<=d):Mv X M a c:=
 ⟨λd o m n e=>y.old _ _ (λq=>(h d q).elim m λl=>bx (bw e) l) n (x.old _ _ m n e),aD x.size y.size,λt=>y.tabs (x.tabs t),y.os.trans x.os,x.gens.trans y.gens,λb o c e=>y.code _ _ c (x.code _ _ c e)⟩
def Mv.weak(x:Mv X M s s')(h:∀d,M d->M' d∨s.heap.objs.size<=d):Mv X M' s s':=(Mv.of (.refl s)).trans x h
def Mv.sub(x:Mv X M s s')(h:∀a,M a->M' a):Mv X M' s s':=x.weak λd q=>.inl (h d q)
def NG.mv(x:NG X N s.heap)(k:Mv X M s s'):NG X N s'.heap:=⟨x.tb,λa q=>bG (x.lt a q) k.size,x.wd⟩
def Wd.mv(x:Wd X s.heap)(n:NG X N s.heap)(k:Mv X M s s')(h:∀a,M a->N a):Wd X s'.heap:=
 x.to (λb o q e=>k.old _ _ (λm=>by
  have w:=n.wd b (h b m) (Ed q)
  rcases q with q|q|q|q
  ·exact w.2.1 q
  ·exact w.2.2.1 q
  ·exact w.2.2.2 q
  ·exact aj (w.1.symm.trans q) nofun) (Ed q) e) (k.tabs x.tabs)
def VR.mv(n:NG X N s.heap)(k:Mv X M s s')(h:∀a,M a->N a){t:T}{v:ay}(x:VR X N s.heap t v):VR X N s'.heap t v:=x.keep (k.kc n.tb h)
def aL.mv(n:NG X N s.heap)(k:Mv X M s s')(h:∀a,M a->N a){t:List T}{v:List ay}(x:aL X N s.heap t v):aL X N s'.heap t v:=x.keep (k.kc n.tb h)
def NG.more(x:NG X N s.heap){h':Heap}(hN:∀a,N a->N' a)(w:Wd X s.heap)(hz:s.heap.objs.size<=h'.objs.size)(hn:∀a,N' a->N a∨(s.heap.objs.size<=a/\a<h'.objs.size)):NG X N' h' where
 tb:=λa q=>hN _ (x.tb a q)
 lt:=λa q=>(hn a q).elim (λz=>bG (x.lt a z) hz) (·.2)
 wd:=λa q nt=>(hn a q).elim (λz=>x.wd a z nt) λz=>by
  have lt:∀b,b<s.heap.objs.size->a≠b:=λb l e=>bx l (e▸z.1)
  have ns:∀{b m},s.heap.Ns b m->a≠b:=λq=>by obtain⟨_,_,_,e,_⟩:=q;exact lt _ (bw e)
  refine⟨?_,ns w.g,ns w.b,w.nolimit.elim λy q=>ns q.1⟩
  cases e:X.K.lookup a with
  |none=>rfl
  |some o=>exact aj rfl (lt a (bw (w.K a o e)))
def Apart(h:Heap):Prop:=∀a∈aV,∀o,h.get? a=ab o->o.cls=.none
def Wd.apart(x:Wd X s.heap):Apart s.heap:=λa ha o e=>VM x.tabs a ha o e
def dict_cls{a:Addr}{o:Obj}{aZ:List (Str×ay)}(hd:o.IsDictOf (strKind X.prog X.w) aZ):o.cls=.type "dict":=by obtain⟨es,ep,ex,_⟩:=hd;exact ex.1
def mI(ap:Apart h){a:Addr}{o:Obj}{T:String}(e:h.get? a=ab o)(c:o.cls=.type T):a∉aV:=λz=>nomatch (ap _ z _ e).symm.trans c
def VB.move(hN:∀a,N' a->N a∨h.objs.size<=a)(k:∀b o,(¬N b∨iA o)->h.get? b=ab o->h'.get? b=ab o)(kt:∀b o T,o.cls=.type T->h.get? b=ab o->h'.get? b=ab o){t:T}{v:ay}(x:VB X N h t v):VB X N' h' t v:=by
 cases x with
 |of x=>exact .of (x.move hN k)
 |lst ho hz hs=>exact ho.elim λn e=>.lst ⟨n,kt _ _ _ rfl e⟩ hz (hs.move hN k)
 |aY ho hd hz hq hs=>exact .aY (kt _ _ _ (dict_cls (a:=0) hd) ho) hd hz hq hs
def VB.kp(n:NG X N s.heap)(k:Kp X s s')(ap:Apart s.heap){t:T}{v:ay}(x:VB X N s.heap t v):VB X N s'.heap t v:=
 x.move (λz=>.inl) (k.kc n.tb) λb o T c e=>k.old b o (mI ap e c) e
end
end
end
end Mine
section
open PySem PySem.Spec PyProof.Rows
noncomputable section
namespace Mine
section
variable{α:Type}
noncomputable def bp(f:Int->Option α):T->Option α
 |.int i=>f i
 |_=>ae
noncomputable def cG(f:Str->Option α):T->Option α
 |.str x=>f x
 |_=>ae
noncomputable def bH(f:List T->Option α):T->Option α
 |.tup l=>f l
 |_=>ae
noncomputable def cH(f:List T->Option α):T->Option α
 |.lst l=>f l
 |_=>ae
noncomputable def vB(f:List (Str×Int)->Option α):T->Option α
 |.aY l=>f l
 |_=>ae
noncomputable def a0(f:Option α):List T->Option α
 |[]=>f
 |_=>ae
noncomputable def a1(f:T->Option α):List T->Option α
 |[x]=>f x
 |_=>ae
noncomputable def a2(f:T->T->Option α):List T->Option α
 |[x,y]=>f x y
 |_=>ae
end
mutual
noncomputable def T.py:T->Option JA
 |.none=>ab .none
 |.bool b=>ab (.bool b)
 |.int i=>ab (.int i)
 |.str x=>ab (.str x)
 |.tup l=>(T.pE l).map .tuple
 |.lst l=>(T.pE l).map .list
 |.aY _=>Option.none
 |.ins _ _=>Option.none
 |.eI _ _=>Option.none
 |.ptr _=>Option.none
noncomputable def T.pE:List T->Option (List JA)
 |[]=>ab []
 |t::ts=>(T.py t).bind λa=>(T.pE ts).bind λb=>ab (a::b)
end
noncomputable def T.truth:T->Bool
 |.none=>false
 |.bool b=>b
 |.int i=>i !=0
 |.str x=>x.length !=0
 |.tup l=>!l.isEmpty
 |.lst l=>!l.isEmpty
 |_=>true
noncomputable def T.plain:T->Bool
 |.none|.bool _|.int _|.str _|.lst _=>true
 |_=>false
inductive iG where
 |add|sub|mul|fdiv|mod|pow|shl|shr|band|bor|bxor
 deriving DecidableEq
inductive qL where
 |eq|ne|lt|le|gt|ge
noncomputable def yg(x:Str)(n:Nat):Str:=⟨(bZ n x.cps.toList).flatten.toArray⟩
noncomputable def i2{α:Type}(f:Int->Int->Option α)(x y:T):Option α:=bp (λa=>bp (f a) y) x
noncomputable def tG:T->T->Option T
 |.int a=>bp λb=>ab (.int (a+b))
 |.str x=>cG λy=>if x.length+y.length<=lim then ab (.str (x++y))else ae
 |.lst x=>cH λy=>if x.length+y.length<=lim then ab (.lst (x++y))else ae
 |_=>λz=>ae
noncomputable def Lc:T->T->Option T
 |.int a=>bp λb=>if(ba a:Int)+ba b<=1000000 then ab (.int (a*b))else ae
 |.str x=>bp λn=>if 0<=n/\(x.length+1)*n.toNat<=lim then ab (.str (yg x n.toNat))else ae
 |.lst l=>bp λn=>if 0<=n/\(l.length+1)*n.toNat<=lim then ab (.lst (bZ n.toNat l).flatten)else ae
 |_=>λz=>ae
noncomputable def a8:iG->T->T->Option T
 |.add=>tG
 |.mul=>Lc
 |.sub=>i2 λa b=>ab (.int (a - b))
 |.fdiv=>i2 λa b=>if b≠0/\xk a b=false then ab (.int (a.fdiv b))else ae
 |.mod=>i2 λa b=>if b≠0 then ab (.int (a.fmod b))else ae
 |.pow=>i2 λa n=>if 0<=n/\(ba a:Int)*n<=1000000 then ab (.int (a^n.toNat))else ae
 |.shl=>i2 λa n=>if 0<=n/\(ba a:Int)+n<=1000000 then ab (.int (a*2^n.toNat))else ae
 |.shr=>i2 λa n=>if 0<=n then ab (.int (a.fdiv (2^n.toNat)))else ae
 |.band=>i2 λa b=>ab (.int (Di a b))
 |.bor=>i2 λa b=>ab (.int (eP.bitOr a b))
 |.bxor=>i2 λa b=>ab (.int (Tu a b))
noncomputable def yh:T->T->Option Bool
 |.int a=>bp λb=>ab (a==b)
 |.str x=>cG λy=>ab (x==y)
 |.aY l=>vB λm=>match l,m with
  |[p],[q]=>ab (p.1==q.1&&p.2==q.2)
  |_,_=>ae
 |_=>λz=>ae
noncomputable def Ld(a b:T):Option Bool:=a.py.bind λx=>b.py.bind λy=>if sG x=true/\sG y=true then ab (JB x y)else ae
noncomputable def eqT(a b:T):Option Bool:=(yh a b).elim (Ld a b) ab
noncomputable def qM:qL->T->T->Option Bool
 |.eq=>eqT
 |.ne=>λa b=>(eqT a b).map not
 |.lt=>i2 λa b=>ab (decide (a<b))
 |.le=>i2 λa b=>ab (decide (a<=b))
 |.gt=>i2 λa b=>ab (decide (a>b))
 |.ge=>i2 λa b=>ab (decide (a≥b))
noncomputable def kB:T->T->Option T
 |.lst l=>bp λi=>(f9 i l.length).bind (l[·]?)
 |.tup l=>bp λi=>(f9 i l.length).bind (l[·]?)
 |.str x=>bp λi=>(Txt.charAt x i).map λc=>.str ⟨#[c]⟩
 |.aY l=>cG λk=>(l.lookup k).map .int
 |_=>λz=>ae
noncomputable def yj:T->Option (Option Int)
 |.none=>ab ae
 |.int i=>if -1000000000<=i/\i<=1000000000 then ab (ab i)else ae
 |_=>ae
noncomputable def gA{α:Type}(xs:List α)(lo hi:Option Int):List α:=
 let n:=xs.length
 let a:=lo.elim 0 (xm n)
 let b:=hi.elim n (xm n)
 (xs.drop a).take (b - a)
noncomputable def Ee(rev:Bool)(a b:T)(f:Option Int->Option Int->T)(g:T):Option T:=
 (yj a).bind λlo=>(yj b).bind λhi=>if rev=false then ab (f lo hi)else if lo=ae/\hi=ae then ab g else ae
noncomputable def mJ(rev:Bool)(x a b:T):Option T:=match x with
 |.lst l=>Ee rev a b (λlo hi=>.lst (gA l lo hi)) (.lst l.reverse)
 |.str x=>Ee rev a b (λlo hi=>.str ⟨(gA x.cps.toList lo hi).toArray⟩) (.str ⟨x.cps.toList.reverse.toArray⟩)
 |_=>ae
noncomputable def Le(x y:T):Option Bool:=match y with
 |.str y=>cG (λx=>ab (sH y x)) x
 |.lst l=>x.py.bind λx=>(T.pE l).bind λys=>if sG x=true/\sG (.list ys)=true then ab (ys.any λy=>JB y x)else ae
 |_=>ae
noncomputable def chars(x:Str):List T:=x.cps.toList.map λc=>.str ⟨#[c]⟩
noncomputable def fe:T->Option (List T)
 |.lst l=>ab l
 |.str x=>ab (chars x)
 |.aY l=>ab (l.map λp=>.str p.1)
 |_=>ae
noncomputable def qN:T->Option (List T)
 |.lst l=>ab l
 |.tup l=>ab l
 |_=>ae
noncomputable def qO:T->Option (Option Bool)
 |.none=>ab ae
 |.bool b=>ab (ab b)
 |_=>ae
noncomputable def isOk:T->Bool
 |.none|.bool _|.int _|.str _|.lst _=>true
 |_=>false
noncomputable def Lf(no:Bool)(x c:T):Option T:=if isOk x=true then(qO c).bind λd=>ab (.bool (decide (qO x=ab d) !=no))else ae
inductive Prim where
 |len|qP|max2|min1|qQ|divmod|repr|str1|tuple1|list1
noncomputable def mL:List T->Option (List Int)
 |[]=>ab []
 |t::r=>bp (λi=>(mL r).map (i::·)) t
noncomputable def insI(x:Int):List Int->List Int
 |[]=>[x]
 |y::r=>if x<=y then x::y::r else y::insI x r
noncomputable def sortI:List Int->List Int
 |[]=>[]
 |x::r=>insI x (sortI r)
noncomputable def hU:List T->Option (List Str)
 |[]=>ab []
 |t::r=>cG (λx=>(hU r).map (x::·)) t
noncomputable def yk:List Str->Option (List Nat)
 |[]=>ab []
 |x::r=>match x.cps.toList with
  |[c]=>(yk r).map (c::·)
  |_=>ae
noncomputable def tH(x:Nat):List Nat->List Nat
 |[]=>[x]
 |y::r=>if y<=x then x::y::r else y::tH x r
noncomputable def vC:List Nat->List Nat
 |[]=>[]
 |x::r=>tH x (vC r)
noncomputable def VW:T->Option T
 |.lst l=>ab (.int l.length)
 |.tup l=>ab (.int l.length)
 |.str x=>ab (.int x.length)
 |_=>ae
noncomputable def Bp(f:Int->Int->Int):List Int->Option T
 |[]=>ae
 |x::r=>ab (.int (r.foldl f x))
noncomputable def gO:Prim->List T->Option T
 |.len=>a1 VW
 |.qP=>a1 (cH λl=>(mL l).bind (Bp max))
 |.min1=>a1 (cH λl=>(mL l).bind (Bp min))
 |.max2=>a2 (i2 λa b=>ab (.int (if b>a then b else a)))
 |.qQ=>a1 (cH λl=>(mL l).bind λns=>if ns.length<64 then ab (.lst ((sortI ns).map .int))else ae)
 |.divmod=>a2 (i2 λa b=>if b≠0/\xk a b=false then ab (.tup [.int (a.fdiv b),.int (a.fmod b)])else ae)
 |.repr=>a1 (cH λl=>(T.pE l).bind λys=>if JA.showable (.list ys)=true/\JA.hasDict (.list ys)=false/\(alD ys).depth<=8/\(alE (.list ys)).length<=lim then ab (.str (alE (.list ys)))else ae)
 |.str1=>a1 (bp λi=>if i.natAbs.log2<1920/\(bP (toString i)).length<=lim then ab (.str (bP (toString i)))else ae)
 |.tuple1=>a1 (cH λl=>ab (.tup l))
 |.list1=>a1 λx=>(qN x).bind λl=>ab (.lst l)
inductive SM where
 |split1|lower|upper|count|rfind|find|join|pF|yl|vD
noncomputable def iV(m:SM)(x:T)(args:List T):Option T:=match m with
 |.split1=>cG (λx=>a1 (cG λy=>if(y.length==0)=false/\(Tv x (JC x y 0 x.length (x.length+1)) y.length).length<=lim/\(Txt.split x y).length<=lim/\(Txt.split x y).all (λz=>decide (z.length<=lim))=true
   then ab (.lst ((Txt.split x y).map .str))else ae) args) x
 |.lower=>cG (λx=>a0 (if(pn x).length<=lim then ab (.str (pn x))else ae) args) x
 |.upper=>cG (λx=>a0 (if(Txt.upper x).length<=lim then ab (.str (Txt.upper x))else ae) args) x
 |.count=>cG (λx=>a1 (cG λy=>ab (.int (Txt.count x y))) args) x
 |.rfind=>cG (λx=>a1 (cG λy=>ab (.int (xn x y))) args) x
 |.find=>cG (λx=>a1 (cG λy=>ab (.int (Txt.find x y))) args) x
 |.join=>cG (λx=>a1 (cH λl=>(hU l).bind λys=>if nA x ys=true/\(fm x ys).length<=lim then ab (.str (fm x ys))else ae) args) x
 |.pF=>bp (λa=>a0 (ab (.int (ba a))) args) x
 |.yl=>cH (λl=>a1 (bp λa=>(mL l).bind λns=>ab (.int ((ns.filter (· ==a)).length))) args) x
 |.vD=>vB (λl=>a2 (λk d=>cG (λk=>bp (λd=>ab (.int ((l.lookup k).getD d))) d) k) args) x
inductive E where
 |var (i:Nat)|lit (t:T)
 |bin (o:iG) (a b:E)|neg (a:E)|inv (a:E)|mM (a:E)
 |cmp (o:qL) (a b:E)|qR (no:Bool) (a:E) (c:T)|oR (a b:E)
 |ju (a b:E)|vE (a b:E)|ite (c a b:E)
 |idx (a b:E)|cY (rev:Bool) (a lo hi:E)|absent
 |nil|cons (a b:E)|tup (a:E)|lst (a:E)|jZ (k v:E)
 |comp (k:Nat) (elt src cond:E)|j0 (ks:List Nat) (elt src cond:E)|ym (j k:Nat) (elt s1 s2:E)
 |call (f:Nat) (args:E)|bE (f:Nat) (obj args:E)
 |attr (a:E) (i:Nat)
 |prim (p:Prim) (args:E)|sm (m:SM) (a args:E)
 |hY (a:E)|mN (a b:E)|Bq (a:E)|yn (a:E)|vF (a:E)
noncomputable def E.isNil:E->Bool
 |.nil=>true
 |_=>false
abbrev aE:=List (Option T)
noncomputable def put(r:aE)(k:Nat)(t:T):aE:=r.rec (motive:=λz=>Nat->aE) (λz=>[]) (λx xs ih k=>k.rec (ab t::xs) λm z=>x::ih m) k
noncomputable def putAll(r:aE):List Nat->List T->Option aE
 |[],ts=>match ts with
  |[]=>ab r
  |_=>ae
 |k::ks,ts=>match ts with
  |[]=>ae
  |t::ts=>putAll (put r k t) ks ts
noncomputable def get(r:aE)(k:Nat):Option T:=r.rec (motive:=λz=>Nat->Option T) (λz=>ae) (λx z ih k=>k.rec x λm z=>ih m) k
noncomputable def gather(f:T->Option (Option T)):List T->Option (List T)
 |[]=>ab []
 |x::r=>(f x).bind λo=>(gather f r).bind λl=>ab (o.elim l (· ::l))
noncomputable def yo(f:T->Option (List T)):List T->Option (List T)
 |[]=>ab []
 |x::r=>(f x).bind λa=>(yo f r).bind λb=>ab (a++b)
noncomputable def pG(a b:Int):List T:=(bc (b - a).toNat).map λi=>.int (a+(i:Nat))
noncomputable def yp(i:Nat):T->Option T
 |.ins c l=>if i/10=c then l[i%10]? else ae
 |.eI m v=>if i=100 then ab (.str v)else ae
 |_=>ae
section
variable(F:Nat->List T->Option T)
noncomputable def ev:E->aE->Option T
 |.var i,r=>get r i
 |.lit t,_=>ab t
 |.bin o a b,r=>(ev a r).bind λx=>(ev b r).bind λy=>a8 o x y
 |.neg a,r=>(ev a r).bind (bp λi=>ab (.int (-i)))
 |.inv a,r=>(ev a r).bind (bp λi=>ab (.int (Dj i)))
 |.mM a,r=>(ev a r).bind λt=>if t.plain=true then ab (.bool (!t.truth))else ae
 |.cmp o a b,r=>(ev a r).bind λx=>(ev b r).bind λy=>(qM o x y).map .bool
 |.qR no a c,r=>(ev a r).bind λx=>Lf no x c
 |.oR a b,r=>(ev a r).bind λx=>(ev b r).bind λy=>(Le x y).map .bool
 |.ju a b,r=>(ev a r).bind λx=>if x.plain=true then(if x.truth then ev b r else ab x)else ae
 |.vE a b,r=>(ev a r).bind λx=>if x.plain=true then(if x.truth then ab x else ev b r)else ae
 |.ite c a b,r=>(ev c r).bind λx=>if x.plain=true then(if x.truth then ev a r else ev b r)else ae
 |.idx a b,r=>(ev a r).bind λx=>(ev b r).bind λy=>kB x y
 |.cY rv a lo hi,r=>(ev a r).bind λx=>(ev lo r).bind λy=>(ev hi r).bind λz=>mJ rv x y z
 |.absent,_=>ab .none
 |.nil,_=>ab (.tup [])
 |.cons a b,r=>(ev a r).bind λx=>(ev b r).bind (bH λl=>ab (.tup (x::l)))
 |.tup a,r=>(ev a r).bind (bH λl=>if l.length<=lim then ab (.tup l)else ae)
 |.lst a,r=>(ev a r).bind (bH λl=>if l.length<=lim then ab (.lst l)else ae)
 |.jZ a b,r=>if a.isNil=true then ab (.aY [])else(ev a r).bind (cG λk=>(ev b r).bind (bp λv=>ab (.aY [(k,v)])))
 |.comp k elt src cond,r=>(ev src r).bind λx=>(fe x).bind λl=>(gather (λy=>(ab (put r k y)).bind λr'=>(ev cond r').bind λc=>if c.plain=true then(if c.truth then(ev elt r').map ab else ab ae)else ae) l).map .lst
 |.j0 ks elt src cond,r=>(ev src r).bind λx=>(fe x).bind λl=>(gather (λy=>(bH (putAll r ks) y).bind λr'=>(ev cond r').bind λc=>if c.plain=true then(if c.truth then(ev elt r').map ab else ab ae)else ae) l).map .lst
 |.ym j k elt s1 s2,r=>(ev s1 r).bind λx=>(fe x).bind λl=>(yo (λy=>(ev s2 ((put r j y).set k ae)).bind λz=>(fe z).bind λm=>gather (λu=>(ev elt (put ((put r j y).set k ae) k u)).map ab) m) l).bind λq=>if q.length<=lim then ab (.lst q)else ae
 |.call f a,r=>(ev a r).bind (bH (F f))
 |.bE f o a,r=>(ev o r).bind λx=>(ev a r).bind (bH λl=>F f (x::l))
 |.attr a i,r=>(ev a r).bind (yp i)
 |.prim p a,r=>(ev a r).bind (bH (gO p))
 |.sm m o a,r=>(ev o r).bind λx=>(ev a r).bind (bH (iV m x))
 |.hY a,r=>(ev a r).bind (bp λn=>if -1000000<=n/\n<=lim then ab (.lst (pG 0 n))else ae)
 |.mN a b,r=>(ev a r).bind (bp λm=>(ev b r).bind (bp λn=>if -1000000<=m/\m<=1000000/\ -1000000<=n/\n - m<=lim/\n<=1000000 then ab (.lst (pG m n))else ae))
 |.Bq a,r=>(ev a r).bind (cH λl=>ab (.lst l.reverse))
 |.vF a,r=>(ev a r).bind (cH λl=>ab (.int l.length))
 |.yn a,r=>(ev a r).bind (cH λl=>(hU l).bind λys=>(yk ys).bind λcs=>if cs.length<64 then ab (.lst ((vC cs).map λc=>.str ⟨#[c]⟩))else ae)
inductive Tg where
 |one (k:Nat)|many (ks:List Nat)
noncomputable def Tg.ks:Tg->List Nat
 |.one k=>[k]
 |.many ks=>ks
noncomputable def qS:List Tg->List T->Option (List T)
 |[],ts=>match ts with
  |[]=>ab []
  |_=>ae
 |g::r,ts=>match ts with
  |[]=>ae
  |x::xs=>match g with
   |.one _=>(qS r xs).map (x::·)
   |.many ks=>(qN x).bind λys=>if ks.length=ys.length then(qS r xs).map (ys++·)else ae
inductive S where
 |asg (k:Nat) (e:E)|own (k:Nat) (e:E)|fC (ks:List Nat) (e:E)|fP (ks:List Nat) (es:List (Option E))|pH (ks:List Nat) (e:E)|nest (ts:List Tg) (e:E)|move (k j:Nat)
 |aug (k:Nat) (o:iG) (e:E)
 |app (k:Nat) (e:E)|ext (k:Nat) (e:E)|rev (k:Nat)
 |yq (k:Nat) (i e:E)|oS (k:Nat) (i:E) (o:iG) (e:E)|tI (k:Nat) (i e:E)
 |bN (c:E) (a b:S)|skip|seq (a b:S)|gh (ks:List Nat) (a:S)
 |eV (k:Nat) (src:E) (body:S)|hZ (ks:List Nat) (src:E) (body:S)|lT (ks:List Nat) (src:E) (body:S)
 |wh (n:Nat) (c:E) (body:S)
 |ret (fz:List Nat) (e:E)|brk|dead
inductive Fl where
 |next|brk|ret (t:T)
noncomputable def nN(go:aE->Option (Fl×aE))(p:Fl×aE):Option (Fl×aE):=match p.1 with
 |.next=>go p.2
 |.brk=>ab (.next,p.2)
 |.ret t=>ab (.ret t,p.2)
noncomputable def b6(f:T->aE->Option (Fl×aE)):List T->aE->Option (Fl×aE)
 |[],r=>ab (.next,r)
 |x::l,r=>(f x r).bind (nN (b6 f l))
noncomputable def nO(c:aE->Option Bool)(f:aE->Option (Fl×aE)):Nat->aE->Option (Fl×aE)
 |0,_=>ae
 |n+1,r=>(c r).bind λb=>if b=true then(f r).bind (nN (nO c f n))else ab (.next,r)
noncomputable def dput(l:List (Str×Int))(k:Str)(v:Int):List (Str×Int):=match l with
 |[]=>[(k,v)]
 |p::r=>if p.1=k then(k,v)::r else p::dput r k v
noncomputable def a9(e:E)(r:aE):Option Bool:=(ev F e r).bind λx=>if x.plain=true then ab x.truth else ae
noncomputable def VX(o:iG):T->Bool
 |.int _=>match o with
  |.add|.sub|.mul|.shl|.shr=>true
  |_=>false
 |.str _=>match o with
  |.add=>true
  |_=>false
 |_=>false
noncomputable def oT(o:iG)(x y:T):Option T:=if VX o x=true then a8 o x y else ae
noncomputable def pI(r:aE):List (Option E)->Option (List T)
 |[]=>ab []
 |o::l=>(o.elim (ab (.lst [])) λe=>ev F e r).bind λt=>(pI r l).map (t::·)
noncomputable def lU(l:List T):List T:=(l.zip (bc l.length)).map λp=>.tup [.int (p.2:Nat),p.1]
noncomputable def mO(go:aE->Option (Fl×aE))(p:Fl×aE):Option (Fl×aE):=match p.1 with
 |.next=>go p.2
 |_=>ab p
noncomputable def b8(r:aE):Option (Fl×aE):=ab (.next,r)
noncomputable def ex:S->aE->Option (Fl×aE)
 |.asg k e,r=>(ev F e r).bind λt=>b8 (put r k t)
 |.own k e,r=>(ev F e r).bind λt=>if t.obj=true then b8 (put r k t)else ae
 |.fC ks e,r=>(ev F e r).bind (bH λl=>(putAll r ks l).bind b8)
 |.fP ks es,r=>(pI F r es).bind λl=>if l.length<=lim then(putAll r ks l).bind b8 else ae
 |.pH ks e,r=>(ev F e r).bind λt=>(putAll r ks (ks.map λw=>t)).bind b8
 |.nest ts e,r=>(ev F e r).bind (bH λl=>(qS ts l).bind λxs=>(putAll r (ts.flatMap Tg.ks) xs).bind b8)
 |.move k j,r=>(get r j).bind λt=>b8 ((put r k t).set j ae)
 |.aug k o e,r=>(get r k).bind λx=>(ev F e r).bind λy=>(oT o x y).bind λz=>b8 (put r k z)
 |.app k e,r=>(get r k).bind (cH λl=>(ev F e r).bind λy=>if l.length+1<=lim then b8 (put r k (.lst (l++[y])))else ae)
 |.ext k e,r=>(get r k).bind (cH λl=>(ev F e r).bind (cH λm=>if l.length+m.length<=lim then b8 (put r k (.lst (l++m)))else ae))
 |.rev k,r=>(get r k).bind (cH λl=>b8 (put r k (.lst l.reverse)))
 |.yq k i e,r=>(get r k).bind (cH λl=>(ev F e r).bind λy=>(ev F i r).bind (bp λj=>if 0<=j/\j<l.length then b8 (put r k (.lst (l.set j.toNat y)))else ae))
 |.oS k i o e,r=>(get r k).bind (cH λl=>(ev F i r).bind (bp λj=>if 0<=j/\j<l.length then(l[j.toNat]?).bind λx=>(ev F e r).bind λy=>(oT o x y).bind λz=>b8 (put r k (.lst (l.set j.toNat z)))else ae))
 |.tI k i e,r=>(get r k).bind (vB λl=>(ev F e r).bind (bp λy=>(ev F i r).bind (cG λs=>if l.length+1<=lim/\s.length<=lim then b8 (put r k (.aY (dput l s y)))else ae)))
 |.bN c a b,r=>(a9 F c r).bind λt=>if t=true then ex a r else ex b r
 |.skip,r=>b8 r
 |.seq a b,r=>(ex a r).bind (mO (ex b))
 |.gh _ a,r=>ex a r
 |.eV k src body,r=>(ev F src r).bind λx=>(fe x).bind λl=>b6 (λy r'=>(ab (put r' k y)).bind (ex body)) l r
 |.hZ ks src body,r=>(ev F src r).bind λx=>(fe x).bind λl=>b6 (λy r'=>(bH (putAll r' ks) y).bind (ex body)) l r
 |.lT ks src body,r=>(ev F src r).bind λx=>(qN x).bind λl=>b6 (λy r'=>(bH (putAll r' ks) y).bind (ex body)) (lU l) r
 |.wh n c body,r=>nO (a9 F c) (ex body) n r
 |.ret _ e,r=>(ev F e r).bind λt=>ab (.ret t,r)
 |.brk,r=>ab (.brk,r)
 |.dead,_=>ae
end
end Mine
end
end
namespace Mine
section
variable{X:Kx}{N:Addr->Prop}{s:az}{A:aM}{E:ay->az->Prop}
def Res(X:Kx)(N:Addr->Prop)(s:az)(t:T)(y:ay)(s':az):Prop:=Kp X s s'/\VR X N s'.heap t y
def mP(X:Kx)(N:Addr->Prop)(s:az)(t:T)(y:ay)(s':az):Prop:=Kp X s s'/\VR X N s'.heap t y/\∃a,y=.ref a/\s.heap.objs.size<=a/\(t.obj=true->VB X (λb=>N b∨b=a) s'.heap t y)
def mP.res{t:T}{y:ay}{s':az}(x:mP X N s t y s'):Res X N s t y s':=⟨x.1,x.2.1⟩
def dS{n:Nat}(h:n<=lim):n<=pq:=aD h (by decide)
def kC{n:Nat}(h:n<=lim):(n:Int)<2^63:=Tw (dh.mpr h) (by decide)
def vG{i:Int}{t:Tok}{tk:Nat}:Res X N s (.int i) (.int i t) {s with toks:=tk}:=⟨Kp.tok,.int i t⟩
def Ef{x:Str}{t:Tok}{tk:Nat}(h:x.length<=lim):Res X N s (.str x) (.str x t) {s with toks:=tk}:=⟨Kp.tok,.str x t h⟩
def yr(n:NG X N s.heap):¬N s.heap.objs.size:=λq=>eY _ (n.lt _ q)
def qT{vs:List ay}{ts:List T}{tk:Nat}(n:NG X N s.heap)(hs:aL X N s.heap ts vs)(hz:ts.length<=lim){e:Nat}:
  mP X N s (.lst ts) (.ref s.heap.objs.size) {s with heap:=s.heap.push {cls:=.type "list",data:=.seq vs.toArray e},toks:=tk}:=
 ⟨Kp.push,.lst ⟨e,cB _ rfl⟩ (yr n) hz (hs.kp n (Kp.push (tk:=tk))),_,rfl,bj _,λz=>.lst ⟨e,cB _ rfl⟩ hz
  (hs.move (N':=λb=>N b∨b=s.heap.objs.size) (λb q=>q.imp id λe=>bO e.symm) λb o z e=>cS _ e)⟩
def Lg{vs:List ay}{ts:List T}{tk:Nat}(n:NG X N s.heap)(hs:aL X N s.heap ts vs)(hz:ts.length<=lim){e:Nat}:
  mP X N s (.tup ts) (.ref s.heap.objs.size) {s with heap:=s.heap.push {cls:=.type "tuple",data:=.seq vs.toArray e},toks:=tk}:=
 ⟨Kp.push,.tup ⟨e,cB _ rfl⟩ (yr n) hz (hs.kp n (Kp.push (tk:=tk))),_,rfl,bj _,nofun⟩
def mulOk_of{a b:Int}(h:(ba a:Int)+ba b<=1000000):IntMulOk a b:=λq=>by
 have q:=aq (il.mp q).2
 exact aj (dn h (by decide)) (JD.mpr q)
noncomputable def iG.py:iG->Tx
 |.add=>.Add|.sub=>.Sub|.mul=>.Mult|.fdiv=>.FloorDiv|.mod=>.Mod|.pow=>.Pow
 |.shl=>.LShift|.shr=>.RShift|.band=>.BitAnd|.bor=>.BitOr|.bxor=>.BitXor
def VY{c:Array Nat}:∀(k:Nat)(acc:Array Nat),((bZ k c).foldl (· ++·) acc).toList=acc.toList++(bZ k c.toList).flatten:=by
 intro k
 induction k with
 |zero=>exactλacc=>(kq _).symm
 |succ k ih=>
  intro acc
  rw[Tz,alG,ih,Tz,alH,TB,fu]
theorem Lh:∀k:Nat,(bZ k ([]:List Nat)).flatten=[]
 |0=>rfl
 |k+1=>Lh k
def VZ(x:Str)(n:Int)(hn:0<=n):Txt.mul x n=yg x n.toNat:=by
 obtain⟨c⟩:=x
 unfold Txt.mul yg
 split
 ·rename_i h
  rw[show n.toNat=0 from Int.toNat_eq_zero.mpr (Int.le_of_lt_add_one h)];rfl
 ·split
  ·rename_i h
   rcases JE.mp h with h|h
   ·rw[show n=1 from ao h];exact af AG (TC (by simp))
   ·have h0:c.size=0:=ao h
    have:c= #[]:=Array.eq_empty_of_size_eq_zero h0
    rw[this];exact af AG (TC (Lh _).symm)
  ·exact af AG (TC (by rw[VY];rfl))
def V0(x:Str)(n:Nat):(yg x n).length=n*x.length:=by
 show(oE _).size=_
 rw[bU,alJ,alK,alL];rfl
def lX(X:Kx)(N:Addr->Prop)(s:az)(t:T)(y:ay)(s':az):Prop:=Res X N s t y s'/\((∃l,t=.lst l)->∃a,y=.ref a/\s.heap.objs.size<=a/\VB X (λb=>N b∨b=a) s'.heap t y)
def lX.of{t:T}{y:ay}{s':az}(x:Res X N s t y s')(h:t.obj=false):lX X N s t y s':=⟨x,λ⟨_,e⟩=>by subst e;cases h⟩
def lX.new{t:T}{y:ay}{s':az}(x:mP X N s t y s'):lX X N s t y s':=⟨x.res,λq=>x.2.2.elim λa z=>⟨a,z.1,z.2.1,z.2.2 (q.elim λl e=>by rw[e];rfl)⟩⟩
theorem Li{ts:List T}{vs:List ay}{h:Heap}(hs:aL X N h ts vs):∀k:Nat,aL X N h (bZ k ts).flatten (bZ k vs).flatten
 |0=>.nil
 |k+1=>hs.app (Li hs k)
def aN{α:Type}{z:α}{P:Prop}(h:ae=ab z):P:=nomatch h
def ifs{α:Type}{p:Prop}[Decidable p]{a t:α}{P:Prop}(h:(if p then ab a else ae)=ab t)(k:p->a=t->P):P:=by
 by_cases q:p
 ·exact k q (Option.some.inj ((ah q).symm.trans h))
 ·exact aN ((ai q).symm.trans h)
def gi{α:Type}{p:Prop}[Decidable p]{o:Option α}{t:α}{P:Prop}(h:(if p then o else ae)=ab t)(k:p->o=ab t->P):P:=by
 by_cases q:p
 ·exact k q ((ah q).symm.trans h)
 ·exact aN ((ai q).symm.trans h)
def aO{α β:Type}{o:Option α}{f:α->Option β}{y:β}{P:Prop}(e:o.bind f=ab y)(k:∀x,o=ab x->f x=ab y->P):P:=by
 cases o with
 |none=>exact aN e
 |some x=>exact k x rfl e
def map_some{α β:Type}{o:Option α}{f:α->β}{y:β}{P:Prop}(e:o.map f=ab y)(k:∀x,o=ab x->f x=y->P):P:=by
 cases o with
 |none=>exact aN e
 |some x=>exact k x rfl (Option.some.inj e)
section
variable{α:Type}{t:T}{z:α}{h:Heap}{v:ay}{vs:List ay}{P:Prop}{R:ay->Prop}{U:List ay->Prop}
def ff{f:Int->Option α}(e:bp f t=ab z)(k:∀i,t=.int i->f i=ab z->P):P:=by cases t with|int i=>exact k i rfl e|_=>exact aN e
def ia{f:Str->Option α}(e:cG f t=ab z)(k:∀i,t=.str i->f i=ab z->P):P:=by cases t with|str i=>exact k i rfl e|_=>exact aN e
def kH{f:List T->Option α}(e:bH f t=ab z)(k:∀i,t=.tup i->f i=ab z->P):P:=by cases t with|tup i=>exact k i rfl e|_=>exact aN e
def eW{f:List T->Option α}(e:cH f t=ab z)(k:∀i,t=.lst i->f i=ab z->P):P:=by cases t with|lst i=>exact k i rfl e|_=>exact aN e
def Br{f:List (Str×Int)->Option α}(e:vB f t=ab z)(k:∀i,t=.aY i->f i=ab z->P):P:=by cases t with|aY i=>exact k i rfl e|_=>exact aN e
@[elab_as_elim] theorem VB.bp {f:Int->Option α} (hv:VB X N h t v) (e:bp f t=ab z) (k:∀i u,f i=ab z->R (.int i u)):R v:=ff e λi q e=>VB.eR (P:=R) (q▸hv) λu=>k i u e
@[elab_as_elim] theorem VB.cG {f:Str->Option α} (hv:VB X N h t v) (e:cG f t=ab z) (k:∀i u,i.length<=lim->f i=ab z->R (.str i u)):R v:=ia e λi q e=>VB.c6 (P:=R) (q▸hv) λu l=>k i u l e
@[elab_as_elim] theorem VB.cH {f:List T->Option α} (hv:VB X N h t v) (e:cH f t=ab z) (k:∀l a vs,f l=ab z->h.PlainList a vs.toArray->l.length<=lim->aL X N h l vs->R (.ref a)):R v:=eW e λi q e=>VB.list (P:=R) (q▸hv) λa vs h1 h2 h3=>k i a vs e h1 h2 h3
def Lj{f:Option α}{l:List T}(e:a0 f l=ab z)(k:l=[]->f=ab z->P):P:=by cases l with|nil=>exact k rfl e|cons=>exact aN e
def tJ{f:T->Option α}{l:List T}(e:a1 f l=ab z)(k:∀x,l=[x]->f x=ab z->P):P:=by
 cases l with
 |nil=>exact aN e
 |cons x l=>cases l with|nil=>exact k x rfl e|cons=>exact aN e
def qU{f:T->T->Option α}{l:List T}(e:a2 f l=ab z)(k:∀x y,l=[x,y]->f x y=ab z->P):P:=by
 cases l with
 |nil=>exact aN e
 |cons x l=>cases l with
  |nil=>exact aN e
  |cons y l=>cases l with|nil=>exact k x y rfl e|cons=>exact aN e
@[elab_as_elim] theorem aL.oU {f:T->Option α} {l:List T} (hv:aL X N h l vs) (e:a1 f l=ab z) (k:∀x v,VR X N h x v->f x=ab z->U [v]):U vs:=tJ e λx q e=>aL.oQ (P:=U) (q▸hv) λv a=>k x v a e
@[elab_as_elim] theorem aL.Lk {f:T->T->Option α} {l:List T} (hv:aL X N h l vs) (e:a2 f l=ab z) (k:∀x y v w,VR X N h x v->VR X N h y w->f x y=ab z->U [v,w]):U vs:=qU e λx y q e=>aL.Ec (P:=U) (q▸hv) λv w a b=>k x y v w a b e
end
def Ll(a:Nat){k:Nat}(h:(a+1)*k<=lim):a*k<=lim/\k<=lim:=by
 rw[nB]at h
 exact⟨aD (bX _ _) h,aD (jQ _ _) h⟩
variable{z:T}{Q:ay->az->Prop}
def pJ{o:Tx}{f:Int->Int->Option T}{x y:T}{v u:ay}(h:i2 f x y=ab z)(hv:VB X N s.heap x v)(hu:VB X N s.heap y u)
  (k:∀a b t t',f a b=ab z->aA (model X.prog X.w) A (xo o (.int a t) (.int b t')) (lX X N s z) E s):aA (model X.prog X.w) A (xo o v u) (lX X N s z) E s:=
 hv.bp h λa t h=>hu.bp h λb t' e=>k a b t t' e
def rI{i:Int}(h:(.int i:T)=z)(t:Tok)(tk:Nat):lX X N s z (.int i t) {s with toks:=tk}:=h▸.of vG rfl
def V1{x y:T}{v u:ay}(h:tG x y=ab z)(hv:VB X N s.heap x v)(hu:VB X N s.heap y u)(n:NG X N s.heap):
  aA (model X.prog X.w) A (xo .Add v u) (lX X N s z) E s:=by
 cases x with
 |int a=>exact hv.eR λt=>hu.bp h λb t' e=>aqH (rI (Option.some.inj e) _ _)
 |str x=>exact hv.c6 λt l1=>hu.cG h λy t' l2 e=>ifs e λhz e=>e▸aqI (hsz:=dS hz) λt' tk=>.of (Ef (by rw[sJ];exact hz)) rfl
 |lst x=>
  refine hv.list λa vs hl z1 r1=>hu.cH h λy b ws e hm z2 r2=>hl.elim λn1 e1=>hm.elim λn2 e2=>ifs e λhz e=>e▸?_
  refine P.add_list e1 e2 (hsz:=by rw[bU,bU,r1.length,r2.length];exact dS hz) ?_
  rw[show vs.toArray++ws.toArray=(vs++ws).toArray from JF ..]
  exact .new (qT n (r1.app r2) (by rw[bQ];exact hz))
 |_=>exact aN h
def mul_str{q:Str}{k:Int}{t t':Tok}(hz:0<=k/\(q.length+1)*k.toNat<=lim):aA (model X.prog X.w) A (xo .Mult (.str q t) (.int k t')) (lX X N s (.str (yg q k.toNat))) E s:=by
 have hm:=Ll _ hz.2
 have yu:k<2^63:=by
  have:=kC hm.2
  rw[AH hz.1]at this;exact this
 refine SB.mul ⟨?_,?_,?_⟩ λt' tk=>?_
 ·exact sL.mpr ⟨av (lr.mpr (dn (by decide) hz.1)),av (lr.mpr (JG yu))⟩
 ·intro h1 _ h2
  have h3:(q.length:Int)*k<2^63:=by
   have:=kC hm.1
   rw[Dk,AH hz.1]at this;exact this
  exact aj (AI ((Int.ediv_lt_iff_lt_mul (AI Int.zero_lt_one (lr.mp h1))).mp h2) (JG h3)) (TF _)
 ·intro _ _
  exact av (eX.mpr (dS hm.1))
 ·rw[VZ _ _ hz.1]
  exact .of (Ef (by rw[V0,g8];exact hm.1)) rfl
def mul_list{l:List T}{k:Int}{a:Addr}{vs:List ay}{t':Tok}(hz:0<=k/\(l.length+1)*k.toNat<=lim)(hl:s.heap.PlainList a vs.toArray)(r1:aL X N s.heap l vs)(n:NG X N s.heap):
  aA (model X.prog X.w) A (xo .Mult (.ref a) (.int k t')) (lX X N s (.lst (bZ k.toNat l).flatten)) E s:=by
 have hm:=Ll _ hz.2
 refine hl.elim λn1 e1=>?_
 have Lm:vs.toArray.size*k.toNat<=lim:=by rw[bU,r1.length];exact hm.1
 have nP:¬TH (vs.toArray.size*k.toNat)=true:=λq=>aj (dS Lm) (xq.mpr (aq q))
 have hk:k<2^63:=by
  have:=kC hm.2
  rw[AH hz.1]at this;exact this
 refine wpAny_binaryOp_repeat_ref (T:="list") (U:="int") (by decide) ⟨_,e1,rfl⟩ (λs'=>JH s' k t') noFill_list_mul F.fills_int_mul alM repeat_list F.slot_int_index.lookup
  (sM alM (JH s k t') F.entry_int_rmul (F.args_int_rmul_2 _ _) (lm_int_rmul_list_any k t' a vs.toArray n1 ae #[])
   ⟨e1,rfl,⟨_,e1,rfl⟩,sM F.slot_list_mul ⟨_,e1,rfl⟩ F.entry_list_mul (F.args_list_mul_2 _ _)
    (lm_list_mul_any a vs.toArray n1 ae #[] k t' (λq=>by rw[show aqZ k=true from il.mpr ⟨ar (dn (by decide) hz.1),ar hk⟩]at q;exact aj q bT) (eX.mpr (aD Lm (by decide))) nP)
    ⟨e1,?_⟩⟩)
 rw[listMul_foldl_if]
 exact .new (qT n (Li r1 _) (by rw[alJ,alK,alL,g8];exact hm.1))
def V2{x y:T}{v u:ay}(h:Lc x y=ab z)(hv:VB X N s.heap x v)(hu:VB X N s.heap y u)(n:NG X N s.heap):
  aA (model X.prog X.w) A (xo .Mult v u) (lX X N s z) E s:=by
 cases x with
 |int a=>exact hv.eR λt=>hu.bp h λb t' e=>ifs e λhz e=>aq1 (rI e _ _) (mulOk_of hz)
 |str x=>exact hv.c6 λt l1=>hu.bp h λk t' e=>ifs e λhz e=>e▸mul_str hz
 |lst x=>exact hv.list λa vs hl z1 r1=>hu.bp h λk t' e=>ifs e λhz e=>e▸mul_list hz hl r1 n
 |_=>exact aN h
def Bs{o:iG}{x y:T}{v u:ay}(h:a8 o x y=ab z)(hv:VB X N s.heap x v)(hu:VB X N s.heap y u)(n:NG X N s.heap):
  aA (model X.prog X.w) A (xo o.py v u) (lX X N s z) E s:=by
 cases o with
 |add=>exact V1 h hv hu n
 |mul=>exact V2 h hv hu n
 |sub=>exact pJ h hv hu λa b t t' e=>aq2 (rI (Option.some.inj e) _ _)
 |fdiv=>exact pJ h hv hu λa b t t' e=>ifs e λhz e=>aq3 hz.1 (rI e _ _) (.inl hz.2)
 |mod=>exact pJ h hv hu λa b t t' e=>ifs e λhz e=>aq4 hz (rI e _ _)
 |pow=>exact pJ h hv hu λa b t t' e=>ifs e λhz e=>aq5 hz.1 (dn hz.2 (by decide)) (rI e _ _)
 |shl=>exact pJ h hv hu λa b t t' e=>ifs e λhz e=>aq6 hz.1 (dn hz.2 (by decide)) (rI e _ _)
 |shr=>exact pJ h hv hu λa b t t' e=>ifs e λhz e=>aq7 hz (rI e _ _)
 |band=>exact pJ h hv hu λa b t t' e=>aq8 (rI (Option.some.inj e) _ _)
 |bor=>exact pJ h hv hu λa b t t' e=>aq9 (rI (Option.some.inj e) _ _)
 |bxor=>exact pJ h hv hu λa b t t' e=>ara (rI (Option.some.inj e) _ _)
end
section
variable{X:Kx}{N:Addr->Prop}{h:Heap}
def Ln(h:Heap)(v:ay)(d:JA):Prop:=∃as,Reads h v d as
def VR.Eg{t:T}{v:ay}(x:VR X N h t v):∀d,t.py=ab d->Ln h v d:=
 VR.rec (motive_1:=λt v z=>∀d,t.py=ab d->Ln h v d) (motive_2:=λts vs z=>∀ds,T.pE ts=ab ds->∃as,ReadsAll h vs ds as)
  (λd e=>Option.some.inj (show ab JA.none=ab d from e)▸⟨_,.none⟩) (λb d e=>Option.some.inj e▸⟨_,.bool b⟩) (λi t d e=>Option.some.inj e▸⟨_,.int i t⟩) (λx t z d e=>Option.some.inj e▸⟨_,.str x t⟩)
  (λho z z z ih d e=>map_some e λds e1 e2=>e2▸(ih ds e1).elim λas r=>ho.elim λn e=>⟨_,.tuple e rfl rfl (by rw[JJ];exact r)⟩)
  (λho z z z ih d e=>map_some e λds e1 e2=>e2▸(ih ds e1).elim λas r=>ho.elim λn e=>⟨_,.list e rfl rfl (by rw[JJ];exact r)⟩)
  (λz z z z z z d e=>aN e) (λz z z z z z z d e=>aN e) (λz z z z z z z z z z z z z z z z z z d e=>aN e) (λa d e=>aN e)
  (λd e=>Option.some.inj e▸⟨_,.nil⟩)
  (λz z i1 i2 d e=>aO e λa q1 e=>aO e λb q2 e=>Option.some.inj e▸(i1 a q1).elim λas r1=>(i2 b q2).elim λbs r2=>⟨_,.cons r1 r2⟩) x
def VB.reads{t:T}{v:ay}{d:JA}(x:VB X N h t v)(e:t.py=ab d):∃as,Reads h v d as:=by
 cases x with
 |of x=>exact x.Eg d e
 |lst ho hz hs=>exact(VR.lst (N:=λz=>False) ho id hz (hs.mono λz=>False.elim)).Eg d e
 |aY=>exact aN e
noncomputable def qL.py:qL->Dl
 |.eq=>.Eq|.ne=>.NotEq|.lt=>.Lt|.le=>.LtE|.gt=>.Gt|.ge=>.GtE
end
section
variable{X:Kx}{N:Addr->Prop}{s:az}{A:aM}{E:ay->az->Prop}{x y z:T}{v u:ay}{Q:ay->az->Prop}
def Lo{p:Str×Int}{aZ:List (Str×ay)}(h:jP DK [p] aZ):∃t,aZ=[(p.1,.int p.2 t)]:=by
 cases h with
 | @cons _ kv _ _ f1 f2=>
  cases f2
  exact f1.2.2.elim λt e=>⟨t,by rw[f1.1,<-e]⟩
def V3{p q:Str×Int}{t u:Tok}:KeqHits A.in1 s [(q.1,.int q.2 u)] [(p.1,.int p.2 t)] (p.1==q.1&&p.2==q.2):=by
 cases h:p.1==q.1 with
 |true=>
  rw[show(true&&p.2==q.2)=((p.2==q.2)&&true)by rw[Bool.and_comm],ao h]
  exact .hit (y:=.int q.2 u) (by simp [Dm]) (SeqAt.EqAt.int_int _ _ _ _) .nil
 |false=>exact .miss (by simp [Dm,Ne.symm (beq_eq_false_iff_ne.mp h)])
def V4{l m:List (Str×Int)}{aZ nQ:List (Str×ay)}{r:Bool}(e:yh (.aY l) (.aY m)=ab r)(h1:jP DK l aZ)(h2:jP DK m nQ):aZ.length=1/\nQ.length=1/\KeqHits A.in1 s nQ aZ r:=by
 cases l with
 |nil=>exact aN e
 |cons p l=>cases l with
  |cons=>cases m<;>exact aN e
  |nil=>cases m with
   |nil=>exact aN e
   |cons q m=>cases m with
    |cons=>exact aN e
    |nil=>exact(Lo h1).elim λt e1=>(Lo h2).elim λu e2=>by rw[e1,e2];exact⟨rfl,rfl,Option.some.inj e▸V3⟩
def Lq{o:Dl}{b:Bool}(h:eqT x y=ab b)(hv:VB X N s.heap x v)(hu:VB X N s.heap y u)
  (ki:∀i j t t',b=(i==j)->aA (model X.prog X.w) A (qh o (.int i t) (.int j t')) Q E s)
  (ks:∀i j t t',b=(i==j)->aA (model X.prog X.w) A (qh o (.str i t) (.str j t')) Q E s)
  (kd:∀a c aZ nQ,(a==qf)=false->(c==qf)=false->s.heap.DictOf (strKind X.prog X.w) a aZ->s.heap.DictOf (strKind X.prog X.w) c nQ->aZ.length=1->nQ.length=1->KeqHits A.in1 s nQ aZ b->aA (model X.prog X.w) A (qh o (.ref a) (.ref c)) Q E s)
  (kg:∀d d' as Eh,b=JB d d'->sG d=true->sG d'=true->Reads s.heap v d as->Reads s.heap u d' Eh->aA (model X.prog X.w) A (qh o v u) Q E s):
  aA (model X.prog X.w) A (qh o v u) Q E s:=by
 cases e:yh x y with
 |none=>
  have h:Ld x y=ab b:=by rw[<-h,eqT,e];rfl
  exact aO h λa e1 h=>aO h λc e2 h=>ifs h λhs e=>(hv.reads e1).elim λas r1=>(hu.reads e2).elim λbs r2=>kg _ _ _ _ e.symm hs.1 hs.2 r1 r2
 |some r=>
  have h:r=b:=by rw[eqT,e]at h;exact Option.some.inj h
  subst h
  clear kg
  cases x with
  |int=>exact hv.eR λt=>hu.bp e λz t' e=>ki _ _ _ _ (Option.some.inj e).symm
  |str=>exact hv.c6 λt z=>hu.cG e λz t' z e=>ks _ _ _ _ (Option.some.inj e).symm
  |aY l=>
   refine Br e λm q z=>?_
   subst q
   refine hv.dict λa o aZ ho hd z hq hs=>hu.dict λc o' nQ V5 oV z V6 cb=>?_
   have H:=V4 (A:=A) (s:=s) e hs cb
   exact kd a c aZ nQ hq V6 (sN.mpr ⟨o,ho,hd⟩) (sN.mpr ⟨o',V5,oV⟩) H.1 H.2.1 H.2.2
  |_=>exact aN e
def Bt{f:Int->Int->Bool}{b:Bool}(h:i2 (λa b=>ab (f a b)) x y=ab b)(hv:VB X N s.heap x v)(hu:VB X N s.heap y u){o:Dl}(q:Q (.bool b) s)
  (k:∀i j t t',Q (.bool (f i j)) s->aA (model X.prog X.w) A (qh o (.int i t) (.int j t')) Q E s):aA (model X.prog X.w) A (qh o v u) Q E s:=
 hv.bp h λi t h=>hu.bp h λj t' e=>k _ _ _ _ (by rw[Option.some.inj e];exact q)
def un{n m:Nat}(h:A.units+m<Dh)(q:n<=m:=by decide):A.units+n<Dh:=bI (f6 q _) h
def V7{o:qL}{b:Bool}(h:qM o x y=ab b)(hv:VB X N s.heap x v)(hu:VB X N s.heap y u)(hc:A.units+64<Dh)(q:Q (.bool b) s):
  aA (model X.prog X.w) A (qh o.py v u) Q E s:=by
 cases o with
 |eq=>
  exact Lq (o:=.Eq) h hv hu (λi j t t' e=>P.eq_int (e▸q)) (λi j t t' e=>arh (e▸q))
   (λa c aZ nQ q1 q2 d1 d2 l1 l2 hh=>PySem.W.keq_eq q1 q2 d1 d2 (bI (bX _ _) hc) (λr=>hh) (by rw[l1,l2];exact q)) λd d' as Eh e s1 s2 r1 r2=>eq_dataH r1 r2 s1 s2 hc (e▸q)
 |ne=>
  exact map_some (show(eqT x y).map not=ab b from h) λc h e=>Lq (o:=.NotEq) h hv hu (λi j t t' z=>P.ne_int (by rw[z]at e;rw[<-e]at q;exact q)) (λi j t t' z=>P.ne_str (by rw[ne_meets];rw[z]at e;rw[<-e]at q;exact q))
   (λa c aZ nQ q1 q2 d1 d2 l1 l2 hh=>PySem.W.keq_ne q1 q2 d1 d2 (bI (bX _ _) hc) (λr=>hh) (by rw[l1,l2];exact e▸q)) λd d' as Eh z s1 s2 r1 r2=>ne_dataH r1 r2 s1 s2 hc (by rw[z]at e;rw[<-e]at q;exact q)
 |lt=>exact Bt (f:=λa b=>decide (a<b)) (o:=.Lt) h hv hu q λi j t t' q=>P.lt_int q
 |le=>exact Bt (f:=λa b=>decide (a<=b)) (o:=.LtE) h hv hu q λi j t t' q=>P.le_int q
 |gt=>exact Bt (f:=λa b=>decide (a>b)) (o:=.Gt) h hv hu q λi j t t' q=>P.gt_int q
 |ge=>exact Bt (f:=λa b=>decide (a≥b)) (o:=.GtE) h hv hu q λi j t t' q=>P.ge_int q
def Bu{x:T}{v:ay}{Q:Bool->az->Prop}(h:x.plain=true)(hv:VB X N s.heap x v)(q:∀s',Kp X s s'->Q x.truth s'):
  aA (model X.prog X.w) A (truthy v) Q E s:=by
 cases x with
 |none=>rw[show v=.none from(hv.vr rfl).inv];exact aQ (q s (.refl s))
 |bool b=>rw[show v=.bool b from(hv.vr rfl).inv];exact aQ (q s (.refl s))
 |int i=>exact hv.eR λt=>P.truthy_int (q s (.refl s))
 |str x=>
  refine hv.c6 λt hz=>P.truthy_str (JD.mpr (kC hz)) ?_
  rw[show((x.length:Int) !=0)=(T.str x).truth by show _=(x.length !=0);rw[xr];simp]
  exact q _ Kp.tok
 |lst l=>
  refine hv.list λa vs hl hz r=>wpAny_truthy_list hl.isList (by rw[bU,r.length];exact kC hz) ?_
  rw[show(!vs.toArray.isEmpty)=(T.lst l).truth by
   show _=(!l.isEmpty)
   rw[List.isEmpty_toArray]
   cases r<;>rfl]
  exact q _ Kp.tok
 |_=>exact aj h bT
def Lr{i:Int}{n j:Nat}(h:f9 i n=ab j):(0<=i/\i<n/\j=i.toNat)∨(i<0/\ -(n:Int)<=i/\j=(i+n).toNat):=by
 unfold f9 at h
 by_cases h0:i<0
 ·simp only[h0,if_true]at h
  exact ifs h λh1 e=>.inr ⟨h0,Int.le_of_sub_nonneg (by rw[Int.sub_neg];exact aq (il.mp h1).1),e.symm⟩
 ·simp only[h0,if_false]at h
  exact ifs h λh1 e=>have h1:=il.mp h1;.inl ⟨aq h1.1,aq h1.2,e.symm⟩
def V8{i:Int}{n j:Nat}(h:f9 i n=ab j): -(n:Int)<=i/\i<n:=
 (Lr h).elim (λq=>⟨dn (Int.neg_nonpos_of_nonneg (cx _)) q.1,q.2.1⟩) λq=>⟨q.2.1,AI q.1 (cx _)⟩
def Ei{i:Int}{n j:Nat}(h:f9 i n=ab j)(hz:n<=lim): -2^63<=i/\i<2^63:=by
 have b:=V8 h
 exact⟨dn (Int.neg_le_neg (AJ (kC hz))) b.1,alO b.2 (kC hz)⟩
def Ls{l:List T}{vs:List ay}{i:Int}(h:(f9 i l.length).bind (l[·]?)=ab z)(r:aL X N s.heap l vs){P:Prop}(k:∀j w,f9 i l.length=ab j->vs[j]?=ab w->VR X N s.heap z w->P):P:=
 aO h λj e1 e2=>(r.get e2).elim λw q=>k j w e1 q.1 q.2
def Lu(h:kB x y=ab z)(hv:VB X N s.heap x v)(hu:VB X N s.heap y u)
  (q:∀s' r,Kp X s s'->VR X N s'.heap z r->Q r s') (kd:∀l k d t o aZ i,s.heap.get? d=ab o->o.IsDictOf (strKind X.prog X.w) aZ->jP DK l aZ->l.lookup k=ab i->(∀u s',Kp X s s'->Q (.int i u) s')->aA (model X.prog X.w) A (xt (.ref d) (.str k t)) Q E s):
  aA (model X.prog X.w) A (xt v u) Q E s:=by
 cases x with
 |lst l=>
  refine hu.bp h λi t' h=>hv.list λa vs hl hz r=>Ls h r λj w e1 e3 e4=>?_
  have b:=Ei e1 hz
  have e5:vs.toArray[j]?=ab w:=by rw[uX];exact e3
  rcases Lr e1 with⟨h0,h1,rfl⟩|⟨h0,h1,rfl⟩
  ·exact wpAny_getItem_list hl.isList h0 b.2 e5 (q s _ (.refl s) e4)
  ·rw[<-r.length,<-bU]at h1 e5
   exact wpAny_getItem_list_neg hl.isList h0 h1 b.1 e5 (q s _ (.refl s) e4)
 |tup l=>
  refine hu.bp h λi t' h=>hv.La λa vs ho hz r=>Ls h r λj w e1 e3 e4=>?_
  have b:=Ei e1 hz
  exact arF ho.isTup b.1 b.2 (by rw[bU,r.length];exact e1) (by rw[uX];exact e3) (q s _ (.refl s) e4)
 |str x=>
  refine hu.bp h λi t' h=>hv.c6 λt hz=>map_some h λc e1 e=>?_
  refine aO (show(f9 i x.cps.size).bind _=ab c from e1) λj e3 p=>?_
  have b:=Ei e3 hz
  exact P.getItem_str (c:=c) (sL.mpr ⟨av (lr.mpr b.1),av (lr.mpr (JG b.2))⟩) e1 (q _ _ Kp.tok (e▸.str _ _ (by show 1<=lim;decide)))
 |aY l=>exact hu.cG h λk t p h=>map_some h λi e1 e=>hv.dict λa o aZ ho hd p p hs=>kd l k a t o aZ i ho hd hs e1 λu s' kp=>q s' _ kp (e▸.int i u)
 |_=>exact aN h
def V9{b:Bool}(h:Le x y=ab b)(hv:VB X N s.heap x v)(hu:VB X N s.heap y u)(hc:A.units+200<Dh)(q:Q (.bool b) s):
  aA (model X.prog X.w) A (qh .In v u) Q E s:=by
 cases y with
 |str y=>exact hv.cG h λx t z h=>hu.c6 λt' z=>SB.contains (Option.some.inj h▸q)
 |lst l=>
  refine aO h λa e1 h=>aO h λys e2 h=>ifs h λhs e=>(hv.reads e1).elim λas r1=>(hu.reads (d:=.list ys) (af (alP _) e2)).elim λbs r2=>?_
  exact SeqAt.in_list_reads r2 r1 (by simpa [JA.canLay0] using alQ hs.2) (alQ hs.1)
   (bI (f6 (aD (TK _ _) (SeqAt.depth_of_shaped hs.1)) _) (un hc)) (e▸q)
 |_=>exact aN h
end
def qV(h:Heap)(o:Obj):h.objs.size<=(h.push o).objs.size:=by rw[fk];exact gy _
def Bv(h:Heap)(o:Obj):h.objs.size<(h.push o).objs.size:=by rw[fk];exact iq _
section
variable{X:Kx}{N:Addr->Prop}{s s':az}{M:my}{A:aM}{E:ay->az->Prop}
def Mv.wr{h':Heap}{tk:Nat}{wr:Addr->Prop}(c:∀b,wr b->∃o,s.heap.get? b=ab o/\¬iB o)
  (k:∀b o,¬wr b->s.heap.get? b=ab o->h'.get? b=ab o) (z:s.heap.objs.size<=h'.objs.size):Mv X wr s {s with heap:=h',toks:=tk}:=
 have kt:∀b o,iB o->s.heap.get? b=ab o->h'.get? b=ab o:=λb o t e=>k b o (λq=>(c b q).elim λo' z=>z.2 (Option.some.inj (z.1.symm.trans e)▸t)) e
 ⟨λb o m y e=>k b o m e,z,yd kt,rfl,.refl _,λb o c=>kt b o (D8 c)⟩
def Mv.put{h':Heap}{tk:Nat}{a:Addr}{o:Obj}(e:s.heap.get? a=ab o)(hc:¬iB o)
  (k:∀b o,b≠a->s.heap.get? b=ab o->h'.get? b=ab o) (z:s.heap.objs.size<=h'.objs.size):Mv X (λb=>b=a) s {s with heap:=h',toks:=tk}:=
 Mv.wr (λb q=>⟨o,q▸e,hc⟩) k z
structure It(X:Kx)(N:Addr->Prop)(h₂:Heap)(l:List T)(tp:Bool)(I:Addr)(fp wr:List Addr)(St:Nat->Heap->Prop)(eJ:Nat->ay->Heap->Prop):Prop where
 sub:∀b∈wr,b∈fp
 lt:∀b∈fp,b<h₂.objs.size
 nt:∀b∈fp,b∉aV
 z:l.length<=lim
 frame:∀i h h',St i h->(∀b∈fp,∀o,h.get? b=ab o->h'.get? b=ab o)->St i h'
 cls:∀i h,St i h->∀b∈wr,∃o,h.get? b=ab o/\¬iB o
 Lv:∀i v h,eJ i v h->∀b∈wr,∃o,h.get? b=ab o/\¬iB o
 item:∀A:aM,A.handled=ae->∀i t(s:az)(N':Addr->Prop)(Q:Option ay->az->Prop)(E:ay->az->Prop),l[i]?=ab t->St i s.heap->
  (∀b o,(¬N b∨iA o)->b∉wr->h₂.get? b=ab o->s.heap.get? b=ab o)->(∀a,N' a->N a∨a∈wr∨h₂.objs.size<=a)->(∀a,N' a->a<s.heap.objs.size)->
  (∀v h' tk,eJ i v h'->VR X N' h' t v->(∀b o,b∉wr->s.heap.get? b=ab o->h'.get? b=ab o)->Q (ab v) {s with heap:=h',toks:=tk})->
  aA (model X.prog X.w) A (iQ (.ref I)) Q E s
 lg:∀(A:aM)i v target(s:az)(Q:Unit->az->Prop)(E:ay->az->Prop),(tp=true->∃es k p,target=.Tuple es k p)->eJ i v s.heap->
  (∀h' tk,St (i+1) h'->(∀b o,b∉wr->s.heap.get? b=ab o->h'.get? b=ab o)->Q () {s with heap:=h',toks:=tk})->aA (model X.prog X.w) A (lA target (.ref I) v) Q E s
 done:∀A:aM,A.handled=ae->∀(s:az)(Q:Option ay->az->Prop)(E:ay->az->Prop),St l.length s.heap->
  (∀h' tk,(∀b o,b∉wr->s.heap.get? b=ab o->h'.get? b=ab o)->Q ae {s with heap:=h',toks:=tk})->aA (model X.prog X.w) A (iQ (.ref I)) Q E s
 self:∀(A:aM)(s:az)(Q:ay->az->Prop)(E:ay->az->Prop),St 0 s.heap->Q (.ref I) s->aA (model X.prog X.w) A (jR (.ref I)) Q E s
def kJ(X:Kx)(N:Addr->Prop)(l:List T)(tp:Bool)(own:Option Addr)(aB:az)(it:ay)(s₂:az):Prop:=
 Kp X aB s₂/\∃I fp wr St eJ,it=.ref I/\It X N s₂.heap l tp I fp wr St eJ/\St 0 s₂.heap/\(∀b∈wr,aB.heap.objs.size<=b)/\(∀b∈fp,b∉wr->¬N b∨own=ab b)
def vH{h:Heap}(n:NG X N h):h.objs.size∉aV:=λq=>eY _ (n.lt _ (n.tb _ q))
noncomputable def owners:List String:=["enumerate","zip","dict_itemiterator","dict_reverseitemiterator","odict_iterator","itertools.zip_longest","itertools.pairwise"]
def Wa(target:Expr)(it v:ay):lA target it v=pure ()∨lA target it v=lA (.List [] default) it v:=by cases target<;>first|exact .inl rfl|exact .inr rfl
def Wb{I:Addr}(v:ay):lA (.List [] default) (.ref I) v=pure ()∨∃a,v=.ref a:=by cases v<;>first|exact .inl rfl|exact .inr ⟨_,rfl⟩
def Wc{r:Addr}{T:String}{d:Data}{x:ay}{Q:Unit->az->Prop}(h:owners.contains T=false)(q:Q () s):
  aA M A (match ay.type T,d with|.type n,.fields vs=>if owners.contains n&&vs[0]?==ab x then(do rule "for.unpacks-the-owned-tuple";updateField r 0 .none)else pure ()|_,_=>pure ()) Q E s:=by
 cases d with
 |fields vs=>dsimp only;rw[h];exact aQ q
 |_=>exact aQ q
def We{I:Addr}{target:Expr}{v:ay}{o:Obj}{T:String}{Q:Unit->az->Prop}(e:s.heap.get? I=ab o)(c:o.cls=.type T)(h:owners.contains T=false)(q:Q () s):
  aA M A (lA target (.ref I) v) Q E s:=by
 rcases Wa target (.ref I) v with z|z
 ·rw[z];exact aQ q
 ·rw[z]
  rcases Wb (I:=I) v with z|⟨a,rfl⟩
  ·rw[z];exact aQ q
  ·refine aG (TL e ?_)
   rw[c]
   exact Wc (r:=I) (x:=jS a) (d:=o.data) h q
def It.walk{A₀:aM}(vI:A₀.handled=ae){h₂:Heap}{l:List T}{I:Addr}{fp wr:List Addr}{St:Nat->Heap->Prop}{P:Nat->ay->Prop}
  (W:∀A:aM,A.handled=ae->Walks X.prog X.w A I fp wr l.length P St) (lt:∀b∈fp,b<h₂.objs.size) (nt:∀b∈fp,b∉aV) (z:l.length<=lim)
  (cls:∀i h,St i h->∃T,(∃o,h.get? I=ab o/\o.cls=.type T)/\T≠"code"/\T≠"module"/\owners.contains T=false) (hw:∀b∈wr,b=I)
  (val:∀i v t(h':Heap)(N':Addr->Prop),P i v->l[i]?=ab t->(∀b o,(¬N b∨iA o)->b∉wr->h₂.get? b=ab o->h'.get? b=ab o)->(∀a,N' a->N a∨a∈wr∨h₂.objs.size<=a)->VR X N' h' t v)
  (self:∀(A:aM)(s:az)(Q:ay->az->Prop)(E:ay->az->Prop),St 0 s.heap->Q (.ref I) s->aA (model X.prog X.w) A (jR (.ref I)) Q E s):
  It X N h₂ l false I fp wr St (λi v h=>P i v/\St (i+1) h):=
 have cl:∀i h,St i h->∀b∈wr,∃o,h.get? b=ab o/\¬iB o:=λi h st b hb=>by
  obtain⟨T,⟨o,e,c⟩,n1,n2,_⟩:=cls i h st
  exact⟨o,(hw b hb)▸e,nJ c ⟨n1,n2⟩⟩
 {sub:=(W A₀ vI).sub,lt:=lt,nt:=nt,z:=z,cls:=cl,Lv:=λi v h m=>cl (i+1) h m.2,frame:=(W A₀ vI).frame,self:=self
  item:=λA hA i t s N' Q E ht st keep hN dp hQ=>(W A hA).item i s Q E (iR.mp ht).1 st λv h' tk p dU k=>hQ v h' tk ⟨p,dU⟩ (val i v t h' N' p ht (λb o nb hw e=>k b o hw (keep b o nb hw e)) hN) k
  lg:=λA i v target s Q E y m hQ=>by
   obtain⟨T,⟨o,e,c⟩,_,_,n⟩:=cls _ _ m.2
   exact We e c n (hQ s.heap s.toks m.2 λy y y e=>e)
  done:=λA hA s Q E st hQ=>(W A hA).done s Q E st hQ}
def pK{a b:Addr}{P:Prop}(h:b∈[a])(k:b=a->P):P:=k (b4.mp h)
def vJ{a b c:Addr}{P:Addr->Prop}(h:b∈[a,c])(k:P a)(k':P c):P b:=by
 rcases br.mp h with rfl|h
 ·exact k
 ·rw[b4.mp h];exact k'
section
variable{A:aM}{l:List T}{x:Addr}{vs:List ay}{own:Option Addr}
def Ej(hh:A.handled=ae)(n:NG X N s.heap){o:Obj}{tk:Nat}{x:Addr}(lx:x<s.heap.objs.size)(hx:x∉aV){St:Nat->Heap->Prop}{P:Nat->ay->Prop}{D:Addr}(hD:D=s.heap.objs.size)
  (W:∀A:aM,A.handled=ae->Walks X.prog X.w A D [D,x] [D] l.length P St) (z:l.length<=lim) {T:String} (hT:T≠"code"/\T≠"module"/\owners.contains T=false)
  (cls:∀i h,St i h->∃o,h.get? D=ab o/\o.cls=.type T) (st:St 0 (s.heap.push o)) (ho:¬N x∨own=ab x)
  (val:∀i v t(h':Heap)(N':Addr->Prop),P i v->l[i]?=ab t->(∀a,N' a->N a∨s.heap.objs.size<=a)->(∀b o,(¬N b∨iA o)->s.heap.get? b=ab o->h'.get? b=ab o)->VR X N' h' t v)
  (self:∀(A:aM)(s:az)(Q:ay->az->Prop)(E:ay->az->Prop),St 0 s.heap->Q (.ref D) s->aA (model X.prog X.w) A (jR (.ref D)) Q E s):
  kJ X N l false own s (.ref D) {s with heap:=s.heap.push o,toks:=tk}:=by
 subst hD
 refine⟨Kp.push,s.heap.objs.size,[s.heap.objs.size,x],[s.heap.objs.size],St,_,rfl,It.walk hh W ?_ ?_ z (λi h st=>⟨T,cls i h st,hT⟩) (λb hb=>b4.mp hb) ?_ self,st,?_,?_⟩
 ·exactλb hb=>vJ (P:=λb=>b<(s.heap.push o).objs.size) hb (Bv _ _) (bG lx (qV _ _))
 ·exactλb hb=>vJ (P:=λb=>b∉aV) hb (vH n) hx
 ·exactλi v t h' N' hp ht keep hN=>val i v t h' N' hp ht (λa q=>(hN a q).imp id λq=>q.elim (λq=>pK q λe=>bO e.symm) (aD (qV _ _)))
   λb o hb e=>keep b o hb (λq=>pK q λq=>eY _ (q▸bw e)) (cS _ e)
 ·exactλb hb=>pK hb λe=>bO e.symm
 ·exactλb hb hw=>vJ (P:=λb=>b∉[s.heap.objs.size]->¬N b∨own=ab b) hb (λq=>aj (b4.mpr rfl) q) (λy=>ho) hw
def Lw(hh:A.handled=ae)(n:NG X N s.heap)(ap:Apart s.heap)(hl:s.heap.PlainList x vs.toArray)(hz:l.length<=lim)(hs:aL X N s.heap l vs)(ho:¬N x∨own=ab x):
  aA (model X.prog X.w) A (jR (.ref x)) (kJ X N l false own s) E s:=by
 have lx:x<s.heap.objs.size:=hl.elim λz e=>bw e
 have len:vs.toArray.size=l.length:=by rw[bU,hs.length]
 refine AK hl.isList (Ej hh n lx (hl.elim λz e=>mI ap e rfl) rfl (λA hA=>len▸Dn hA s.heap.objs.size x (cW lx) vs.toArray) hz (T:="list_iterator") (by decide)
  (λi h st=>st.1.elim λo q=>⟨o,q.1,q.2.1⟩) ⟨⟨_,cB _ rfl,rfl,rfl⟩,hl.isList.push _⟩ ho (λi v t h' N' hj ht hN keep=>?_) λA s Q E st q=>wpAny_pyIter_listiter st.1 q)
 obtain⟨w,e1,e2⟩:=hs.get ht
 rw[uX,e1]at hj;cases hj
 exact e2.move hN keep
def Ly(hh:A.handled=ae)(n:NG X N s.heap){x:Str}{t:Tok}(hz:x.length<=lim):
  aA (model X.prog X.w) A (jR (.str x t)) (kJ X N (chars x) false own s) E s:=by
 have len:x.cps.size=(chars x).length:=by unfold chars;rw[bK,uY]
 have main:∀{ty:String}{h₂:Heap}{o:Obj},ty≠"code"/\ty≠"module"/\owners.contains ty=false->h₂=s.heap.push o->(s.heap.push o).IsStrIter s.heap.objs.size ty x t 0->(∀A:aM,A.handled=ae->Walks X.prog X.w A s.heap.objs.size [s.heap.objs.size] [s.heap.objs.size] x.cps.size (SignAt x) (λi h=>h.IsStrIter s.heap.objs.size ty x t i))->
   (∀(A:aM)(s':az)(Q:ay->az->Prop)(E:ay->az->Prop),s'.heap.IsStrIter s.heap.objs.size ty x t 0->Q (.ref s.heap.objs.size) s'->aA (model X.prog X.w) A (jR (.ref s.heap.objs.size)) Q E s')->kJ X N (chars x) false own s (.ref s.heap.objs.size) {s with heap:=h₂}:=by
  intro ty h₂ o Wf e st W self
  subst e
  refine⟨Kp.push,s.heap.objs.size,[s.heap.objs.size],[s.heap.objs.size],_,_,rfl,It.walk hh (λA hA=>len▸W A hA) (λb hb=>pK hb λe=>e▸Bv _ _) (λb hb=>pK hb λe=>e▸vH n) (len▸hz) (λi h st=>⟨ty,st.elim λo q=>⟨o,q.1,q.2.1⟩,Wf⟩) (λb hb=>b4.mp hb) ?_ self,st,
   λb hb=>pK hb λe=>bO e.symm,λb hb hw=>aj hb hw⟩
  intro i v t h' N' hj ht keep hN
  obtain⟨c,u,e,rfl⟩:=hj
  unfold chars at ht
  rw[gL,xw,e]at ht
  cases ht
  exact .str _ _ (by show 1<=lim;decide)
 cases ha:x.cps.all (· <128)
 ·exact wpAny_pyIter_wide ha (main (by decide) rfl ⟨_,cB _ rfl,rfl,rfl⟩ (λA hA=>Walks.strWide hA _ x t) λA s Q E=>wpAny_pyIter_striter_wide)
 ·exact wpAny_pyIter_ascii ha (main (by decide) rfl ⟨_,cB _ rfl,rfl,rfl⟩ (λA hA=>Walks.strAscii hA _ x t) λA s Q E=>wpAny_pyIter_striter_ascii)
def Wg{l:List (Str×Int)}{aZ:List (Str×ay)}(h:jP DK l aZ):∀{i:Nat}{p:Str×Int}{k:Str}{x:ay},l[i]?=ab p->aZ[i]?=ab (k,x)->p.1=k/\p.1.length<=lim:=by
 induction h with
 |nil=>intro i p k x e;cases e
 |cons a b ih=>
  intro i p k x e1 e2
  cases i with
  |zero=>cases e1;cases e2;exact⟨a.1,a.2.1⟩
  |succ i=>exact ih e1 e2
def Lz(hh:A.handled=ae)(n:NG X N s.heap)(ap:Apart s.heap){d:Addr}{o:Obj}{l:List (Str×Int)}{aZ:List (Str×ay)}(ho:s.heap.get? d=ab o)(hd:o.IsDictOf (strKind X.prog X.w) aZ)
  (hz:l.length<=lim) (hq:(d==qf)=false) (hs:jP DK l aZ) (hw:¬N d∨own=ab d):
  aA (model X.prog X.w) A (jR (.ref d)) (kJ X N (l.map λp=>.str p.1) false own s) E s:=by
 obtain⟨es,ep,hx⟩:=id hd
 have da:s.heap.DictAt (strKind X.prog X.w) d aZ ep:=⟨o,es,ho,hx⟩
 have len:aZ.length=(l.map λp=>T.str p.1).length:=by rw[bK,hs.length]
 refine wpAny_pyIter_dict hq da (Ej (St:=λi h=>h.IsKeyIter s.heap.objs.size d i aZ.length ep/\h.DictAt (strKind X.prog X.w) d aZ ep) hh n (bw ho) (mI ap ho (dict_cls (a:=0) hd)) rfl (λA hA=>by rw[<-len];exact Walks.dictKeys hA _ d (cW (bw ho)) aZ ep) (by rw[bK];exact hz) (T:="dict_keyiterator") (by decide)
  (λi h st=>st.1.elim λo q=>⟨o,q.1,q.2.1⟩) ⟨⟨_,cB _ rfl,rfl,rfl⟩,da.push _⟩ hw (λi v t h' N' hj ht hN keep=>?_) λA s Q E st q=>wpAny_pyIter_keyiter st.1 q)
 obtain⟨k,x,e1,e2⟩:=hj
 obtain⟨u,rfl⟩:=ay.isStrOf_shape e2
 rw[gL]at ht
 refine map_some ht λp e3 e4=>?_
 have:=Wg hs e3 e1
 rw[<-e4,<-this.1]
 exact .str _ _ this.2
noncomputable def yv:ay->Option Addr
 |.ref a=>ab a
 |_=>ae
def Wh(hh:A.handled=ae)(n:NG X N s.heap)(ap:Apart s.heap){t:T}{l:List T}{v:ay}(hv:VB X N s.heap t v)(h:fe t=ab l):
  aA (model X.prog X.w) A (jR v) (kJ X N l false (yv v) s) E s:=by
 cases t with
 |lst=>cases h;exact hv.list λa vs hl hz hs=>Lw hh n ap hl hz hs (.inr rfl)
 |str=>cases h;exact hv.c6 λt hz=>Ly hh n hz
 |aY=>cases h;exact hv.dict λa o aZ ho hd hz hq hs=>Lz hh n ap ho hd hz hq hs (.inr rfl)
 |_=>exact aN h
def LA(hh:A.handled=ae)(n:NG X N s.heap)(ap:Apart s.heap){t:T}{l:List T}{v:ay}(hv:VR X N s.heap t v)(h:fe t=ab l):
  aA (model X.prog X.w) A (jR v) (kJ X N l false ae s) E s:=by
 cases t with
 |lst=>cases h;exact hv.eQ λa vs hl hN hz hs=>Lw hh n ap hl hz hs (.inl hN)
 |str=>cases h;exact hv.c6 λt hz=>Ly hh n hz
 |aY=>cases h;exact hv.VV λa o aZ ho hd hN hz hq hs=>Lz hh n ap ho hd hz hq hs (.inl hN)
 |_=>exact aN h
end
end
abbrev Ex:=Mine.E
structure Sc where
 names:List (Str×jo)
 slots:List (Str×Nat)
 own:List Nat
def Rd(env:Env)(h:Heap)(x:Str)(v:ay):Prop:=
 (env.kindOf x=ab .local/\∃m,h.Ns env.locals m/\m x=ab v)∨
 ((env.kindOf x=ab .cell∨env.kindOf x=ab .free)/\∃a,env.cells.lookup x=ab a/\h.IsCell a (ab v))
def Fr(env:Env)(b:Addr):Prop:=b=env.locals∨∃x,env.cells.lookup x=ab b
def Vo(X:Kx)(N:Addr->Prop)(h:Heap)(own:Bool)(t:T)(v:ay):Prop:=if own then VB X N h t v else VR X N h t v
structure EC(X:Kx)(env:Env)(c:Sc)(N:Addr->Prop)(r:aE)(h:Heap):Prop where
 kind:env.scope.kind=.function
 names:env.scope.names=c.names
 globals:env.globals=gJ
 builtins:env.builtins=jm
 vK:env.locals∉aV
 jv:∀x a,env.cells.lookup x=ab a->a∉aV
 has:∀x,env.kindOf x=ab .cell∨env.kindOf x=ab .free->∃a,env.cells.lookup x=ab a
 dz:∀x a,env.cells.lookup x=ab a->(∃v,h.IsCell a v)/\a≠env.locals
 inj:∀x y a,env.cells.lookup x=ab a->env.cells.lookup y=ab a->x=y
 rd:∀x i t,c.slots.lookup x=ab i->get r i=ab t->∃v,Rd env h x v/\Vo X N h (c.own.contains i) t v
structure At(X:Kx)(k:Nat)(A:aM)(env:Env)(c:Sc)(N:Addr->Prop)(r:aE)(s:az):Prop where
 ec:EC X env c N r s.heap
 wd:Wd X s.heap
 ng:NG X N s.heap
 ra:RA k A
section
variable{X:Kx}{k:Nat}{A:aM}{env:Env}{c c':Sc}{N N':Addr->Prop}{r r':aE}{s s':az}{h h':Heap}{t:T}{v:ay}
def Vo.bor{o:Bool}(x:Vo X N h o t v):VB X N h t v:=by
 cases o with
 |true=>exact x
 |false=>exact .of x
def Vo.map{o:Bool}(x:Vo X N h o t v)(f:VB X N h t v->VB X N' h' t v)(g:VR X N h t v->VR X N' h' t v):Vo X N' h' o t v:=by
 cases o with
 |true=>exact f x
 |false=>exact g x
def Rd.to{x:Str}{v:ay}(q:Rd env h x v)(k:∀b o,(b=env.locals∨env.cells.lookup x=ab b)->h.get? b=ab o->h'.get? b=ab o):Rd env h' x v:=
 q.imp (λq=>⟨q.1,q.2.elim λm z=>⟨m,z.1.at' λo e=>k _ _ (.inl rfl) e,z.2⟩⟩) λq=>⟨q.1,q.2.elim λa z=>⟨a,z.1,z.2.elim λo w=>⟨o,k _ _ (.inr z.1) w.1,w.2⟩⟩⟩
def EC.nt(a:EC X env c N r h){b:Addr}(q:Fr env b):b∉aV:=by
 rcases q with rfl|⟨x,e⟩
 ·exact a.vK
 ·exact a.jv x b e
def EC.to(a:EC X env c N r h)(k:∀b o,Fr env b->h.get? b=ab o->h'.get? b=ab o)
  (rd:∀x i t,c'.slots.lookup x=ab i->get r' i=ab t->(∀v,Rd env h x v->Rd env h' x v)->∃v,Rd env h' x v/\Vo X N' h' (c'.own.contains i) t v) (hn:c'.names=c.names:=by rfl):EC X env c' N' r' h':=
 ⟨a.kind,a.names.trans hn.symm,a.globals,a.builtins,a.vK,a.jv,a.has,λx b e=>⟨(a.dz x b e).1.elim λv q=>q.elim λo z=>⟨v,o,k b o (.inr ⟨x,e⟩) z.1,z.2⟩,(a.dz x b e).2⟩,a.inj,
  λx i t h1 h2=>rd x i t h1 h2 λv q=>q.to λb o hb e=>k b o (hb.imp id λz=>⟨x,z⟩) e⟩
def EC.move(a:EC X env c N r h)(k:∀b o,Fr env b->h.get? b=ab o->h'.get? b=ab o)(f:∀{t v},VB X N h t v->VB X N' h' t v)(g:∀{t v},VR X N h t v->VR X N' h' t v):EC X env c N' r h':=
 a.to k λx i t h1 h2 q=>(a.rd x i t h1 h2).elim λv z=>⟨v,q v z.1,z.2.map f g⟩
def At.kp(a:At X k A env c N r s)(q:Kp X s s'):At X k A env c N r s':=
 ⟨a.ec.move (λb o z e=>q.old b o (a.ec.nt z) e) (λx=>x.kp a.ng q a.wd.apart) λx=>x.kp a.ng q,a.wd.kp q,a.ng.kp q,a.ra⟩
def At.apart(a:At X k A env c N r s):Apart s.heap:=a.wd.apart
def gC{E:ay->az->Prop}{Q:ay->az->Prop}{x:Str}{v:ay}{p:Pos}(a:At X k A env c N r s)(h:Rd env s.heap x v)(hd:(x==("__debug__":Str))=false)(hc:(x==("__classdict__":Str))=false)(q:Q v s):
  aA (model X.prog X.w) A (eval (.Name x p) env) Q E s:=by
 refine wpAny_Name ?_ hd
 rcases h with⟨e,m,e1,e2⟩|⟨e,b,e1,e2⟩
 ·exact TN a.ec.kind e e1 e2 q
 ·rcases e with e|e
  ·exact alS a.ec.kind e e1 e2 q
  ·exact alU a.ec.kind e e1 e2 q hc
def jw{E:ay->az->Prop}{Q:ay->az->Prop}{x:Str}{v:ay}{p:Pos}
  (a:At X k A env c N r s) (h:d4 x=ab v) (hk:c.names.lookup x=ab .globalImplicit) (hd:(x==("__debug__":Str))=false) (q:Q v s):
  aA (model X.prog X.w) A (eval (.Name x p) env) Q E s:=by
 refine alV a.ec.kind (by unfold qi;rw[a.ec.names];exact hk) ?_ hd
 have g:s.heap.Ns env.globals X.mg:=by rw[a.ec.globals];exact a.wd.g
 exact(a.wd.gl x v h).elim (λe=>alW g e q) λe=>alX g e.1 (by rw[a.ec.builtins];exact a.wd.b) e.2 q
end
structure Cx where
 X:Kx
 F:Nat->List T->Option T
inductive Mode where
 |val|bor|a9|src|ib|chain|own|use
 deriving DecidableEq
noncomputable def Mode.v:Mode->Bool
 |.val|.bor|.a9|.src|.ib=>true
 |_=>false
noncomputable def Mode.b:Mode->Bool
 |.bor|.a9|.src=>true
 |_=>false
noncomputable def Mode.vo:Mode->Bool
 |.chain|.use=>false
 |_=>true
noncomputable def yw:T->Const->Bool
 |.none,.none=>true
 |.bool b,.bool d=>b==d
 |.int i,.int j=>i==j
 |.str x,.str y=>x==y&&decide (x.length<=lim)
 |_,_=>false
noncomputable def iW(x:Str):Bool:=!(x==("__debug__":Str))&&!(x==("__classdict__":Str))
noncomputable def gj(x:aW):Bool:=x.ctorIdx !=7
noncomputable def notStar(x:aW):Bool:=x.ctorIdx !=22
noncomputable def isCall(x:aW):Bool:=x.ctorIdx==16
noncomputable def tK:Prim->Str×ay
 |.len=>(s_ "len",.builtin "len")|.qP=>(s_ "max",.builtin "max")|.max2=>(s_ "max",.builtin "max")|.min1=>(s_ "min",.builtin "min")
 |.qQ=>(s_ "sorted",.builtin "sorted")|.divmod=>(s_ "divmod",.builtin "divmod")|.repr=>(s_ "repr",.builtin "repr")
 |.str1=>(s_ "str",.type "str")|.tuple1=>(s_ "tuple",.type "tuple")|.list1=>(s_ "list",.type "list")
noncomputable def Ek:SM->Str
 |.split1=>s_ "split"|.lower=>s_ "lower"|.upper=>s_ "upper"|.count=>s_ "count"|.rfind=>s_ "rfind"|.find=>s_ "find"
 |.join=>s_ "join"|.pF=>s_ "bit_length"|.yl=>s_ "count"|.vD=>s_ "get"
noncomputable def qW(c:Sc)(sc:d9)(ts:List (Str×Nat)):Option Sc:=
 if decide (sc.kind=.function)&&
   sc.names.all (λp=>match p.2 with
    |.local=>(p.1==s_ ".0"||(ts.lookup p.1).isSome)&&sc.names.lookup p.1==ab .local
    |.cell=>(ts.lookup p.1).isSome&&sc.names.lookup p.1==ab .cell
    |.free=>(c.slots.lookup p.1).isSome&&(c.names.lookup p.1==ab .cell||c.names.lookup p.1==ab .free)&&(ts.lookup p.1).isNone&&sc.names.lookup p.1==ab .free
    |.globalImplicit=>(ts.lookup p.1).isNone&&sc.names.lookup p.1==ab .globalImplicit
    |_=>false)&&
   ts.all (λp=>sc.names.lookup p.1==ab .local||sc.names.lookup p.1==ab .cell)&&decide ((ts.map (·.1)).Nodup)&&decide ((ts.map (·.2)).Nodup)&&
   ts.all (λp=>c.slots.all λq=>q.2 !=p.2)&&ts.all (λp=>!c.own.contains p.2)
 then ab {names:=sc.names.map λ(n,k)=>if(k==.free&&c.names.lookup n==ab .cell)then(n,.cell)else(n,k),slots:=ts++(sc.names.filterMap λp=>if p.2==.free then(c.slots.lookup p.1).map (p.1,·)else ae),own:=c.own}
 else ae
noncomputable def nameOf(x:aW):Option Str:=if h:x.ctorIdx=23 then qu.elim x h λn z=>ab n else ae
noncomputable def yx:List aW->List Nat->Option (List (Str×Nat))
 |[],ks=>match ks with
  |[]=>ab []
  |_=>ae
 |e::es,ks=>match ks with
  |[]=>ae
  |k::ks=>(nameOf e).bind λx=>(yx es ks).map ((x,k)::·)
def qX(c:Sc)(x y:Str)(v:ay):Prop:=x=y/\d4 x=ab v/\iW x=true/\c.names.lookup x=ab .globalImplicit
section
variable(X:Kx)(N:Addr->Prop)(s:az)
def Bw(t:T)(y:ay)(s':az):Prop:=Kp X s s'/\VB X N s'.heap t y
def yy(strict:Bool)(l:List T)(xv:ay)(aB:az):Prop:=
 ∃own:Option Addr,(strict=true->own=ae)/\Kp X s aB/\∀(A:aM)E,A.handled=ae->aA (model X.prog X.w) A (jR xv) (kJ X N l false own s) E aB
end
def Res.b{X:Kx}{N:Addr->Prop}{s s':az}{t:T}{y:ay}(h:Res X N s t y s'):Bw X N s t y s':=⟨h.1,.of h.2⟩
def Wj(X:Kx)(A:aM)(env:Env)(N:Addr->Prop)(s:az)(t:T)(x:aW):Prop:=
 ∀(u:ay->Sem Unit)(Q:ay->az->Prop)(E:ay->az->Prop),(∀D K s' m',Kp X s s'->VR X (λb=>N b∨b=K) s'.heap t (.ref D)->VB X (λb=>(N b∨b=D)∨b=K) s'.heap t (.ref D)->s.heap.objs.size<=D->D≠K->s.heap.objs.size<=K->s'.heap.Ns K m'->AL (model X.prog X.w) A E (ab u) Q (.ref D) K (.ok .next) s')->
  aA (model X.prog X.w) A (evalThenUse x env u) (λz s'=>Q .none s') E s
noncomputable def Out(X:Kx)(A:aM)(env:Env)(N:Addr->Prop)(s:az)(t:T):Mode->List aW->Prop
 |.chain=>λxs=>∀l,t=.tup l->∀pos E,aA (model X.prog X.w) A (pw (mz pos (jT xs env))) (λvs s'=>Kp X s s'/\aL X N s'.heap l vs) E s
 |m=>λxs=>match xs with
  |[x]=>match m with
   |.val=>∀E,aA (model X.prog X.w) A (eval x env) (Res X N s t) E s
   |.bor=>∀E,aA (model X.prog X.w) A (eval x env) (Bw X N s t) E s
   |.a9=>t.plain=true->∀E,aA (model X.prog X.w) A (xx x env (eval x env)) (λb s'=>b=t.truth/\Kp X s s') E s
   |.src=>∀l,fe t=ab l->∀E,aA (model X.prog X.w) A (eval x env) (yy X N s false l) E s
   |.ib=>∀l,fe t=ab l->∀E,aA (model X.prog X.w) A (eval x env) (yy X N s true l) E s
   |.own=>t.obj=true->∀E,aA (model X.prog X.w) A (eval x env) (mP X N s t) E s
   |.use=>Wj X A env N s t x
   |.chain=>True
  |_=>True
def oW(X:Kx)(j:Nat)(fv:ay)(G:List T->Option T):Prop:=
 ∀A N s pos trees ts t E,RA j A->Wd X s.heap->NG X N s.heap->trees.any (·.1)=false->G ts=ab t->
  (∀E,aA (model X.prog X.w) A (pw trees) (λvs s'=>Kp X s s'/\aL X N s'.heap ts vs) E s)->
  aA (model X.prog X.w) A (Dq pos fv [] trees []) (Res X N s t) E s
def qY(X:Kx)(j:Nat)(nm:Str)(G:List T->Option T):Prop:=
 ∀A N s pos pl trees x ov ts t E,RA j A->Wd X s.heap->NG X N s.heap->VR X N s.heap x ov->trees.any (·.1)=false->G (x::ts)=ab t->
  (∀aB,Kp X s aB->∀E,aA (model X.prog X.w) A (pw trees) (λvs s'=>Kp X aB s'/\aL X N s'.heap ts vs) E aB)->
  aA (model X.prog X.w) A (JL ov nm pl) (λfx aB=>aA (model X.prog X.w) A (Dq pos fx.1 fx.2 trees []) (Res X N s t) E aB) E s
def tL(X:Kx)(i:Nat)(nm:Str):Prop:=
 ∀A N s x ov t Q E,Wd X s.heap->NG X N s.heap->VR X N s.heap x ov->yp i x=ab t->(∀s' v,Kp X s s'->VR X N s'.heap t v->Q v s')->
  aA (model X.prog X.w) A (sO ov nm true) Q E s
def El(X:Kx):Prop:=∀x n v,D6 x n=ab v->∀k A env c N r s(E:ay->az->Prop)(Q:ay->az->Prop)p p',At X k A env c N r s->c.names.lookup x=ab .globalImplicit->
 (∀s' u,Kp X s s'->Q (.str v u) s')->aA (model X.prog X.w) A (eval (.Attribute (.Name x p) n p') env) Q E s
structure Ok(C:Cx)(k:Nat):Prop where
 cat:El C.X
 fns:∀f x v,nI f=ab x->d4 x=ab v->oW C.X k v (C.F f)
 yz:∀f x,tE f=ab x->qY C.X k x (C.F f)
 nR:∀i,tL C.X i (oN i)
def Gd(e:Ex)(m:Mode)(c:Sc)(xs:List aW):Prop:=∀{C k},Ok C k->∀{A env N r s t},At C.X k A env c N r s->ev C.F e r=ab t->Out C.X A env N s t m xs
section
variable{X:Kx}{k:Nat}{A:aM}{env:Env}{c:Sc}{N:Addr->Prop}{r:aE}{s s':az}{E:ay->az->Prop}{t:T}{x:aW}{m:Mode}{Q:ay->az->Prop}
def mo{α:Type}{M:my}{P:α->az->Prop}{Q:α->az->Prop}{y:Sem α}(h:aA M A y P E s)(k:∀v s',P v s'->Q v s'):aA M A y Q E s:=eF h k λx x z=>z
def vl(h:Out X A env N s t .val [x])(k:∀v s',Kp X s s'->VR X N s'.heap t v->Q v s'):aA (model X.prog X.w) A (eval x env) Q E s:=mo (h E) λv s' z=>k v s' z.1 z.2
def bl(h:Out X A env N s t .bor [x])(k:∀v s',Kp X s s'->VB X N s'.heap t v->Q v s'):aA (model X.prog X.w) A (eval x env) Q E s:=mo (h E) λv s' z=>k v s' z.1 z.2
def tl{Q:Bool->az->Prop}(h:Out X A env N s t .a9 [x])(hp:t.plain=true)(k:∀s',Kp X s s'->Q t.truth s'):aA (model X.prog X.w) A (xx x env (eval x env)) Q E s:=mo (h hp E) λv s' z=>z.1▸k s' z.2
def cl{xs:List aW}{l:List T}{pos:Pos}{Q:List ay->az->Prop}(h:Out X A env N s (.tup l) .chain xs)(k:∀vs s',Kp X s s'->aL X N s'.heap l vs->Q vs s'):aA (model X.prog X.w) A (pw (mz pos (jT xs env))) Q E s:=mo (h l rfl pos E) λv s' z=>k v s' z.1 z.2
def kJ.base{l:List T}{tp:Bool}{own:Option Addr}{aP aB s₂:az}{it:ay}(k:Kp X aP aB)(h:kJ X N l tp own aB it s₂):kJ X N l tp own aP it s₂:=by
 obtain⟨k',I,fp,wr,St,eJ,e,i,st,w,f⟩:=h
 exact⟨k.trans k',I,fp,wr,St,eJ,e,i,st,λb hb=>aD k.size (w b hb),f⟩
def Em(env:Env)(x:aW):Prop:=xx x env (eval x env)=(do let v <-eval x env;xy x.pos;JM [v] (truthy v))
def LB(a:At X k A env c N r s)(h:∀E,aA (model X.prog X.w) A (eval x env) (Bw X N s t) E s)(hm:m.b=true)(he:m=.a9->Em env x):Out X A env N s t m [x]:=by
 cases m with
 |bor=>exact h
 |a9=>exactλhp E=>wpAny_isTrue_value (mo (h E) λv aB z=>Bu hp z.2 λs' k'=>⟨rfl,z.1.trans k'⟩) (he rfl)
 |src=>exactλl hl E=>mo (h E) λv aB z=>⟨yv v,nofun,z.1,λA E hh=>mo (Wh hh (a.kp z.1).ng (a.kp z.1).apart z.2 hl) λy y q=>q.base z.1⟩
 |_=>exact aj hm bT
def fQ(a:At X k A env c N r s)(hm:m.v=true)(h:∀E,aA (model X.prog X.w) A (eval x env) (Res X N s t) E s)(he:m=.a9->Em env x):Out X A env N s t m [x]:=by
 cases m with
 |val=>exact h
 |ib=>exactλl hl E=>mo (h E) λv aB z=>⟨ae,λy=>rfl,z.1,λA E hh=>mo (LA hh (a.kp z.1).ng (a.kp z.1).apart z.2 hl) λy y q=>q.base z.1⟩
 |chain=>exact aj hm bT
 |own=>exact aj hm bT
 |use=>exact aj hm bT
 |_=>exact LB a (λE=>mo (h E) λy y z=>z.b) rfl he
def Bx(a:At X k A env c N r s)(hm:m.vo=true)(h:∀E,aA (model X.prog X.w) A (eval x env) (mP X N s t) E s)(he:m=.a9->Em env x):Out X A env N s t m [x]:=by
 cases m with
 |own=>exactλy=>h
 |chain=>exact aj hm bT
 |use=>exact aj hm bT
 |_=>exact fQ a rfl (λE=>mo (h E) λy y z=>z.res) he
end
section
variable{o:iG}{a b e:Ex}{m:Mode}{c:Sc}{l q x y:aW}{p:Pos}{es:List aW}{n:Str}
def Wl:Gd .nil .chain c []:=λz z z z z s t a e=>by
 cases e
 exactλl hl pos E=>by cases hl;exact gb ⟨.refl s,.nil⟩
def yA{env:Env}{xs:List aW}(hs:notStar x=true):jT (x::xs) env=(false,eval x env)::jT xs env:=by cases x<;>first|rfl|exact aj hs bT
def Wm(hs:notStar x=true)(h1:Gd a .val c [x])(h2:Gd b .chain c es):Gd (.cons a b) .chain c (x::es):=λH z z z z z z at_ e=>by
 refine aO e λtx e1 ea=>aO ea λtl e2 eb=>kH eb λl q ez=>?_
 clear e ea eb
 cases ez;subst q
 intro l' hl pos E
 cases hl
 rw[yA hs]
 exact eZ (vl (h1 H at_ e1) λv aB k₁ bD=>cl (h2 H (at_.kp k₁) e2) λvs s₂ k₂ ic=>⟨k₁.trans k₂,.cons (bD.kp (at_.kp k₁).ng k₂) ic⟩)
def iX(h:iW n=true):(n==("__debug__":Str))=false/\(n==("__classdict__":Str))=false:=by
 have h:=il.mp h
 exact⟨by simpa using h.1,by simpa using h.2⟩
def Wn{i:Nat}(hm:m.v=true)(hx:c.slots.lookup n=ab i)(hn:iW n=true)(ho:(m.b||!c.own.contains i)=true):Gd (.var i) m c [.Name n p]:=λH z z z z s t a e=>by
 obtain⟨v,h3,h4⟩:=a.ec.rd n i t hx e
 have hn:=iX hn
 cases q:c.own.contains i with
 |false=>rw[q]at h4;exact fQ a hm (λE=>gC a h3 hn.1 hn.2 ⟨.refl s,h4⟩) λz=>rfl
 |true=>
  rw[q]at ho
  exact LB a (λE=>gC a h3 hn.1 hn.2 ⟨.refl s,h4.bor⟩) ((JE.mp ho).resolve_right bT) λz=>rfl
noncomputable def LC:T->ay->ay
 |.none,_=>.none
 |.bool b,_=>.bool b
 |_,v=>v
def LD{X:Kx}{A:aM}{env:Env}{s:az}{E:ay->az->Prop}{t:T}{d:Const}{j:Nat}(h:yw t d=true){Q:ay->az->Prop}(q:∀s' v,Kp X s s'->(∀N h,VR X N h t v)->v=LC t v->Q v s'):
  aA (model X.prog X.w) A (eval (.Constant d j p) env) Q E s:=by
 cases t with
 |none=>cases d with
  |none=>exact TO (q _ _ (.refl s) (λz z=>.none) rfl)
  |_=>exact aj h bT
 |bool b=>cases d with
  |bool d=>exact alY (ao (show(b==d)=true from h)▸q _ _ (.refl s) (λz z=>.bool _) rfl)
  |_=>exact aj h bT
 |int i=>cases d with
  |int d=>exact JN (ao (show(i==d)=true from h)▸q _ _ Kp.tok (λz z=>.int _ _) rfl)
  |_=>exact aj h bT
 |str x=>cases d with
  |str d=>
   have h:=il.mp (show(x==d&&decide (x.length<=lim))=true from h)
   exact alZ (ao h.1▸q _ _ Kp.tok (λz z=>.str _ _ (aq h.2)) rfl)
  |_=>exact aj h bT
 |_=>exact aj h bT
def Wo{t:T}{d:Const}{j:Nat}(hm:m.v=true)(h:yw t d=true):Gd (.lit t) m c [.Constant d j p]:=λH z z z z z z a e=>by
 cases e;exact fQ a hm (λE=>LD h λs' v k' hv z=>⟨k',hv _ _⟩) λz=>rfl
def Wq{i:Int}(h:Bj n=ab i):d4 n=ab (.int i 306):=by
 unfold Bj at h
 by_cases q:(n==s_ "_DIV_LIMIT")=true
 ·rw[ah q]at h;cases h;rw[ao q];kernel_rfl
 ·rw[ai q]at h;exact aN h
def Wr{i:Int}(hm:m.v=true)(hc:Bj n=ab i)(hn:iW n=true)(hk:c.names.lookup n=ab .globalImplicit):Gd (.lit (.int i)) m c [.Name n p]:=λH z z z z s z a e=>by
 cases e;exact fQ a hm (λE=>jw a (Wq hc) hk (iX hn).1 ⟨.refl s,.int _ _⟩) λz=>rfl
def Wt{z:Str}{q:Pos}{n':Str}(hm:m.v=true)(hc:D6 n n'=ab z)(hz:z.length<=lim)(hk:c.names.lookup n=ab .globalImplicit):Gd (.lit (.str z)) m c [.Attribute (.Name n p) n' q]:=λH y y y y y y a e=>by
 cases e;exact fQ a hm (λE=>H.cat _ _ _ hc _ _ _ _ _ _ _ _ _ _ _ a hk λs' u k'=>⟨k',.str _ _ hz⟩) λy=>rfl
def two{X:Kx}{k:Nat}{A:aM}{env:Env}{N:Addr->Prop}{r:aE}{s:az}{E:ay->az->Prop}{tx ty:T}{Q:ay->ay->az->Prop}(a:At X k A env c N r s)(h1:Out X A env N s tx .bor [l])(h2:∀{s},At X k A env c N r s->Out X A env N s ty .bor [q])
  (hQ:∀v u s₂,Kp X s s₂->At X k A env c N r s₂->VB X N s₂.heap tx v->VB X N s₂.heap ty u->Q v u s₂):
  aA (model X.prog X.w) A (eval l env) (λv aB=>aA (model X.prog X.w) A (eval q env) (λu s₂=>Q v u s₂) E aB) E s:=
 bl h1 λv aB k₁ bD=>have a1:=a.kp k₁;bl (h2 a1) λu s₂ k₂ ic=>hQ v u s₂ (k₁.trans k₂) (a1.kp k₂) (bD.kp a1.ng k₂ a1.apart) ic
def LF(h:Gd e .val c [x]):Gd e .bor c [x]:=λH y y y y y y a e E=>mo (h H a e E) λy y z=>z.b
def Wu(hm:m.v=true∨(m=.own/\(o=.add∨o=.mul)))(h1:Gd a .bor c [l])(h2:Gd b .bor c [q]):Gd (.bin o a b) m c [.BinOp l o.py q p]:=λ{C k}H A env N r s t at_ e=>by
 refine aO e λtx e1 e=>aO e λty e2 e=>?_
 have main:∀E,aA (model C.X.prog C.X.w) A (eval (.BinOp l o.py q p) env) (lX C.X N s t) E s:=λE=>
  JO (two at_ (h1 H at_ e1) (λa=>h2 H a e2) λv u s₂ k₂ vL hv hu=>mo (Bs e hv hu vL.ng) λw aX z=>⟨⟨k₂.trans z.1.1,z.1.2⟩,λq=>(z.2 q).elim λb w=>⟨b,w.1,aD k₂.size w.2.1,w.2.2⟩⟩)
 rcases hm with hm|⟨rfl,hm⟩
 ·exact fQ at_ hm (λE=>mo (main E) λy y z=>z.1) λy=>rfl
 ·have ho:t.obj=true->∃l,t=.lst l:=λq=>by
   cases t with
   |lst l=>exact⟨l,rfl⟩
   |aY l=>exact(hm.elim (λh=>by subst h;cases tx<;>first|exact aN e|exact ff e λy y e=>nomatch e|exact ia e λy y e=>ifs e λy e=>nomatch e|exact eW e λy y e=>ifs e λy e=>nomatch e)
     λh=>by subst h;cases tx<;>first|exact aN e|exact ff e λy y e=>ifs e λy e=>nomatch e)
   |_=>exact aj q bT
  exactλq E=>mo (main E) λv s' z=>⟨z.1.1,z.1.2,(z.2 (ho q)).elim λb w=>⟨b,w.1,w.2.1,λy=>w.2.2⟩⟩
def Wv(hm:m.v=true)(h1:Gd a .val c [l]):Gd (.neg a) m c [.UnaryOp .USub l p]:=λH z z z z z z at_ e=>by
 refine aO e λtx e1 ea=>ff ea λi q ez=>?_
 clear e ea
 cases ez;subst q
 exact fQ at_ hm (λE=>Ds (vl (h1 H at_ e1) λv aB k₁ bD=>bD.eR λu=>TQ ⟨k₁.trans Kp.tok,.int _ _⟩)) λz=>rfl
def Ww(hm:m.v=true)(h1:Gd a .val c [l]):Gd (.inv a) m c [.UnaryOp .Invert l p]:=λH z z z z z z at_ e=>by
 refine aO e λtx e1 ea=>ff ea λi q ez=>?_
 clear e ea
 cases ez;subst q
 exact fQ at_ hm (λE=>Ds (vl (h1 H at_ e1) λv aB k₁ bD=>bD.eR λu=>ar0 ⟨k₁.trans Kp.tok,.int _ _⟩)) λz=>rfl
def Wx(h1:Gd a .a9 c [l]):Gd (.mM a) .a9 c [.UnaryOp .Not l p]:=λH z z z z z z at_ e=>by
 refine aO e λtx e1 ea=>ifs ea λhp ez=>?_
 clear e ea
 cases ez
 exactλz E=>wpAny_isTrue_Not (tl (h1 H at_ e1) hp λs' k'=>⟨rfl,k'⟩)
def Wy(hm:m.v=true)(ht:m≠.a9)(h1:Gd a .bor c [l]):Gd (.mM a) m c [.UnaryOp .Not l p]:=λH y y y y y y at_ e=>by
 refine aO e λtx e1 ea=>ifs ea λhp ez=>?_
 clear e ea
 cases ez
 exact fQ at_ hm (λE=>Ds (bl (h1 H at_ e1) λv aB k₁ bD=>ar2 (Bu hp bD λs' k'=>⟨k₁.trans k',.bool _⟩))) λz=>aj z ht
def LG{o:Dl}(h:gj q=true):behindInMarks o q=false:=by cases q<;>first|rfl|(cases o<;>rfl)|exact aj h bT
def En{X:Kx}{k:Nat}{A:aM}{env:Env}{N:Addr->Prop}{r:aE}{s:az}{b:Bool}{op:Dl}(at_:At X k A env c N r s)(hm:m.v=true)(hq:behindInMarks op q=false)
  (h:∀E Q,(∀s₂,Kp X s s₂->Q (.bool b) s₂)->aA (model X.prog X.w) A (eval l env) (λv aB=>aA (model X.prog X.w) A (eval q env) (λu s₂=>aA (model X.prog X.w) A (qh op v u) Q E s₂) E aB) E s):Out X A env N s (.bool b) m [.Compare l [op] [q] p]:=by
 by_cases qm:m=.a9
 ·subst qm
  exactλy E=>wpAny_isTrue_Compare1 (h E _ λs₂ k₂=>aQ ⟨rfl,k₂⟩) hq
 ·exact fQ at_ hm (λE=>wpAny_Compare1 (h E _ λs₂ k₂=>⟨k₂,.bool _⟩) hq) λz=>aj z qm
def Wz{o:qL}(hm:m.v=true)(hq:gj q=true)(h1:Gd a .bor c [l])(h2:Gd b .bor c [q]):Gd (.cmp o a b) m c [.Compare l [o.py] [q] p]:=λH y y y y y y at_ e=>by
 refine aO e λtx e1 ea=>aO ea λty e2 eb=>map_some eb λz e3 ez=>?_
 clear e ea eb
 subst ez
 exact En at_ hm (LG hq) λE Q hQ=>two at_ (h1 H at_ e1) (λa=>h2 H a e2) λv u s₂ k₂ vL hv hu=>V7 e3 hv hu vL.ra.Lb (hQ s₂ k₂)
def WA(hm:m.v=true)(hq:gj q=true)(h1:Gd a .val c [l])(h2:Gd b .bor c [q]):Gd (.oR a b) m c [.Compare l [.In] [q] p]:=λH y y y y y y at_ e=>by
 refine aO e λtx e1 ea=>aO ea λty e2 eb=>map_some eb λz e3 ez=>?_
 clear e ea eb
 subst ez
 exact En at_ hm (LG hq) λE Q hQ=>two at_ (LF h1 H at_ e1) (λa=>h2 H a e2) λv u s₂ k₂ vL hv hu=>V9 e3 hv hu vL.ra.Lb (hQ s₂ k₂)
def WB{X:Kx}{N:Addr->Prop}{h:Heap}{t:T}{v:ay}(ht:isOk t=true)(hv:VB X N h t v){d:Option Bool}{u:ay}(hu:u=d.elim .none .bool):plainIs v u=true/\(v==u)=decide (qO t=ab d):=by
 subst hu
 cases t with
 |none=>rw[show v=.none from(hv.vr rfl).inv];cases d with|none=>exact⟨rfl,rfl⟩|some b=>exact⟨rfl,rfl⟩
 |bool b=>rw[show v=.bool b from(hv.vr rfl).inv];cases d with|none=>exact⟨rfl,rfl⟩|some d=>cases b<;>cases d<;>exact⟨rfl,rfl⟩
 |int i=>exact hv.eR λu=>by cases d<;>exact⟨rfl,rfl⟩
 |str i=>exact hv.c6 λu z=>by cases d<;>exact⟨rfl,rfl⟩
 |lst i=>exact hv.list λa vs z z z=>by cases d<;>exact⟨rfl,rfl⟩
 |_=>exact aj ht bT
def WC{t:T}{u:ay}{d:Option Bool}(h:qO t=ab d)(hu:u=LC t u):u=d.elim .none .bool:=by
 cases t with
 |none=>cases h;exact hu
 |bool=>cases h;exact hu
 |_=>exact aN h
def WD{no:Bool}{t:T}{d:Const}{j:Nat}{p':Pos}(hm:m.v=true)(hl:yw t d=true)(h1:Gd a .bor c [l]):Gd (.qR no a t) m c [.Compare l [if no then .IsNot else .Is] [.Constant d j p'] p]:=λH z z z z z z at_ e=>by
 refine aO e λtx e1 ea=>gi ea λho eb=>aO eb λdd e2 ez=>?_
 clear e ea eb
 cases ez
 refine En at_ hm (by cases no<;>rfl) λE Q hQ=>bl (h1 H at_ e1) λv aB k₁ bD=>LD hl λs₂ u k₂ z hu=>?_
 have a1:=at_.kp k₁
 have g:=WB ho (bD.kp a1.ng k₂ a1.apart) (WC e2 hu)
 cases no with
 |true=>exact wpAny_isNot_plain g.1 (by rw[g.2,show(!decide (qO tx=ab dd))=(decide (qO tx=ab dd) !=true)from(Bool.bne_true _).symm];exact hQ s₂ (k₁.trans k₂))
 |false=>exact wpAny_is_plain g.1 (by rw[g.2,show decide (qO tx=ab dd)=(decide (qO tx=ab dd) !=false)from(Bool.bne_false _).symm];exact hQ s₂ (k₁.trans k₂))
def WE(h1:Gd a .a9 c [l])(h2:Gd b .a9 c [q]):Gd (.ju a b) .a9 c [.BoolOp .And [l,q] p]:=λH z z z z z z at_ e=>by
 refine aO e λtx e1 e=>gi e λhp e nS E=>al1 (al2 (tl (h1 H at_ e1) hp λaB k₁=>?_))
 cases ht:tx.truth with
 |true=>
  rw[ht,ah rfl]at e
  refine al2 (tl (h2 H (at_.kp k₁) e) nS λs₂ k₂=>?_)
  split
  ·exact wpAny_allTrue_And_nil ⟨Eq.symm ‹_›,k₁.trans k₂⟩
  ·exact⟨(px.mpr ‹_›).symm,k₁.trans k₂⟩
 |false=>rw[ht]at e;cases e;exact⟨ht.symm,k₁⟩
def WG(hm:m.v=true)(ht:m≠.a9)(h1:Gd a .val c [l])(h2:Gd b .val c [q]):Gd (.ju a b) m c [.BoolOp .And [l,q] p]:=λH y y y y y y at_ e=>by
 refine aO e λtx e1 e=>gi e λhp e=>fQ at_ hm (λE=>wpAny_And2 (vl (h1 H at_ e1) λv aB k₁ bD=>Bu hp (.of bD) λs₂ k₂=>?_)) λz=>aj z ht
 have a1:=at_.kp k₁
 cases hh:tx.truth with
 |true=>rw[hh,ah rfl]at e;exact vl (h2 H (a1.kp k₂) e) λu aX fR tM=>⟨(k₁.trans k₂).trans fR,tM⟩
 |false=>rw[hh]at e;cases e;exact⟨k₁.trans k₂,bD.kp a1.ng k₂⟩
def WH(h1:Gd a .a9 c [l])(h2:Gd b .a9 c [q]):Gd (.vE a b) .a9 c [.BoolOp .Or [l,q] p]:=λH z z z z z z at_ e=>by
 refine aO e λtx e1 e=>gi e λhp e nS E=>al1 (al3 (tl (h1 H at_ e1) hp λaB k₁=>?_))
 cases ht:tx.truth with
 |true=>rw[ht]at e;cases e;exact⟨ht.symm,k₁⟩
 |false=>
  rw[ht]at e
  refine al3 (tl (h2 H (at_.kp k₁) e) nS λs₂ k₂=>?_)
  split
  ·exact⟨Eq.symm ‹_›,k₁.trans k₂⟩
  ·exact wpAny_allTrue_Or_nil ⟨(px.mpr ‹_›).symm,k₁.trans k₂⟩
def WI(hm:m.v=true)(ht:m≠.a9)(h1:Gd a .val c [l])(h2:Gd b .val c [q]):Gd (.vE a b) m c [.BoolOp .Or [l,q] p]:=λH y y y y y y at_ e=>by
 refine aO e λtx e1 e=>gi e λhp e=>fQ at_ hm (λE=>wpAny_Or2 (vl (h1 H at_ e1) λv aB k₁ bD=>Bu hp (.of bD) λs₂ k₂=>?_)) λz=>aj z ht
 have a1:=at_.kp k₁
 cases hh:tx.truth with
 |true=>rw[hh]at e;cases e;exact⟨k₁.trans k₂,bD.kp a1.ng k₂⟩
 |false=>rw[hh]at e;exact vl (h2 H (a1.kp k₂) e) λu aX fR tM=>⟨(k₁.trans k₂).trans fR,tM⟩
def WJ(hm:m.v=true)(ht:m≠.a9)(h1:Gd e .a9 c [l])(h2:Gd a .val c [x])(h3:Gd b .val c [y]):Gd (.ite e a b) m c [.IfExp l x y p]:=λH w w w w w w at_ e=>by
 refine aO e λtx e1 e=>gi e λhp e=>fQ at_ hm (λE=>wpAny_IfExp (tl (h1 H at_ e1) hp λaB k₁=>?_)) λz=>aj z ht
 cases hh:tx.truth with
 |true=>rw[hh,ah rfl]at e;exact vl (h2 H (at_.kp k₁) e) λu aX fR tM=>⟨k₁.trans fR,tM⟩
 |false=>rw[hh]at e;exact vl (h3 H (at_.kp k₁) e) λu aX fR tM=>⟨k₁.trans fR,tM⟩
def WK{j:Nat}(hm:m.v=true)(h1:Gd a .chain c es):Gd (.tup a) m c [.Tuple es j p]:=λH z z z z z z at_ e=>by
 refine aO e λtx e1 ea=>kH ea λl q eb=>ifs eb λhz ez=>?_
 clear e ea eb
 subst ez;subst q
 exact fQ at_ hm (λE=>TR (cl (h1 H at_ e1) λvs aB k₁ bD=>
  have n:=Lg (at_.kp k₁).ng bD hz (tk:=aB.toks) (e:=0);⟨by rw[bD.length];exact dS hz,k₁.trans n.1,n.2.1⟩)) λz=>rfl
def mP.base{X:Kx}{N:Addr->Prop}{s aB s₂:az}{t:T}{v:ay}(k:Kp X s aB)(x:mP X N aB t v s₂):mP X N s t v s₂:=⟨k.trans x.1,x.2.1,x.2.2.elim λb z=>⟨b,z.1,aD k.size z.2.1,z.2.2⟩⟩
def WL(hm:m.vo=true)(h1:Gd a .chain c es):Gd (.lst a) m c [.List es p]:=λH z z z z z z at_ e=>by
 refine aO e λtx e1 ea=>kH ea λl q eb=>ifs eb λhz ez=>?_
 clear e ea eb
 subst ez;subst q
 exact Bx at_ hm (λE=>JP (cl (h1 H at_ e1) λvs aB k₁ bD=>⟨by rw[bD.length];exact dS hz,(qT (at_.kp k₁).ng bD hz (tk:=aB.toks) (e:=0)).base k₁⟩)) λz=>rfl
end
def LH{l:List (Str×Int)}{aZ:List (Str×ay)}(hp:jP DK l aZ)(k:Str):(∀v,l.lookup k=ab v->∃t,Dm aZ k=ab (.int v t))/\(l.lookup k=ae->Dm aZ k=ae):=by
 induction hp with
 |nil=>exact⟨λy e=>aN e,λy=>rfl⟩
 | @cons a b Eo Ep h _ ih=>
  obtain⟨k1,v1⟩:=a
  obtain⟨k2,v2⟩:=b
  obtain⟨e1,hz,t,e2⟩:=h
  dsimp only at e1 e2
  subst e1;subst e2
  unfold Dm at ih ⊢
  rw[cD,TS]
  by_cases q:k1=k
  ·subst q;simp
  ·have q':(k==k1)=false:=beq_eq_false_iff_ne.mpr λz=>q z.symm
   rw[q',av q]
   exact ih
section
variable{X:Kx}{k:Nat}{A:aM}{env:Env}{c:Sc}{N:Addr->Prop}{r:aE}{s s':az}{E:ay->az->Prop}{t x y z:T}{v u:ay}{Q:ay->az->Prop}
def Er(s:az)(o:ay):Prop:=∃T id,sP (.type T) "__getitem__"=pure (ab (.builtin id))/\s.TypeIs o T
noncomputable def Es:T->Bool
 |.lst _|.tup _|.str _|.aY _=>true
 |_=>false
def LI(h:Es x=true)(hv:VB X N s.heap x v):Er s v:=by
 cases x with
 |lst l=>exact hv.list λa vs hl z z=>⟨"list",_,list_getitem_lookup,hl.isList.typeIs⟩
 |tup l=>exact hv.La λa vs ho z z=>⟨"tuple",_,F.slot_tuple_getitem.lookup,ho.isTup.typeIs⟩
 |str x=>exact hv.c6 λu z=>⟨"str",_,F.slot_str_getitem.lookup,sQ _ _ _⟩
 |aY l=>exact hv.dict λa o aZ ho hd z z z=>⟨"dict",_,slot_dict_getitem.lookup,(sN.mpr ⟨o,ho,hd⟩).typeIs⟩
 |_=>exact aj h bT
def WM{slice:aW}{o i:ay}:∃ops,subscripted slice false o i=operate ops (xt o i):=by
 cases slice with
 |Slice a b st p=>cases st<;>exact⟨_,rfl⟩
 |_=>exact⟨_,rfl⟩
def Et{value slice:aW}{pos:Pos}
  (h:aA (model X.prog X.w) A (eval value env) (λo aB=>aA (model X.prog X.w) A (eval slice env) (λi s₂=>Er s₂ o/\aA (model X.prog X.w) A (xt o i) Q E s₂) E aB) E s):
  aA (model X.prog X.w) A (eval (.Subscript value slice pos) env) Q E s:=by
 rw[eval_Subscript]
 refine aG (mo h λo aB bJ=>aG (dN (mo bJ λi s₂ h₂=>aG (lB ?_))))
 obtain⟨⟨T,id,hl,hT⟩,hg⟩:=h₂
 refine aG ?_
 rw[getitemInPython_of_ne hT.not_modules]
 refine aG (JQ hT hl ?_)
 have fin:aA (model X.prog X.w) A (subscripted slice false o i) (λr aX=>aA (model X.prog X.w) A (letTemporaryGo value o r>>=λz=>pure r) Q E aX) E s₂:=
  (WM (slice:=slice) (o:=o) (i:=i)).elim λops hs=>by
   rw[hs];exact wpAny_operating (mo hg λr aX j1=>aG (TU (aQ j1)))
 first
  |exact aQ (aG fin)
  |exact aG (aQ (aG fin))
  |exact aG fin
def LK{l:List (Str×Int)}{k:Str}{d:Addr}{t:Tok}{o:Obj}{aZ:List (Str×ay)}{i:Int}(ho:s.heap.get? d=ab o)(hd:o.IsDictOf (strKind X.prog X.w) aZ)(hs:jP DK l aZ)(e:l.lookup k=ab i)(q:∀u s',Kp X s s'->Q (.int i u) s'):
  aA (model X.prog X.w) A (xt (.ref d) (.str k t)) Q E s:=
 ((LH hs k).1 i e).elim λu e2=>wpAny_getItem_of (uZ X.prog X.w k t) (sN.mpr ⟨o,ho,hd⟩).mapOf e2 (q _ _ Kp.tok)
def WN(e:kB x y=ab z):Es x=true:=by cases x<;>first|rfl|exact aN e
def WO{a b:Ex}{m:Mode}{l q:aW}{p:Pos}(hm:m.v=true)(h1:Gd a .bor c [l])(h2:Gd b .val c [q]):Gd (.idx a b) m c [.Subscript l q p]:=λH z z z z z z at_ e=>by
 refine aO e λtx e1 e=>aO e λty e2 e=>fQ at_ hm (λE=>Et (two at_ (h1 H at_ e1) (λa=>LF h2 H a e2) λv u s₂ k₂ vL hv hu=>⟨LI (WN e) hv,Lu e hv hu (λs' r fR j1=>⟨k₂.trans fR,j1⟩) λl k d t o aZ i=>LK⟩)) λz=>rfl
def vM{h:Heap}{o:Option Int}(e:yj x=ab o)(hv:VB X N h x v):IsPart v o/\∃p:Option (Int×Tok),v=partValue p/\p.map (·.1)=o:=by
 cases x with
 |none=>cases e;rw[show v=.none from(hv.vr rfl).inv];exact⟨.none,ae,rfl,rfl⟩
 |int i=>exact ifs e λz e=>e▸hv.eR λt=>⟨.int _ _,ab (_,t),rfl,rfl⟩
 |_=>exact aN e
def LL{α:Type}(xs:List α)(lo hi:Option Int):(gA xs lo hi).length<=xs.length:=aD (List.length_take_le' _ _) (by rw[AM];exact mA _ _)
def WR{h:Heap}{ts:List T}{vs:List ay}(x:aL X N h ts vs)(lo hi:Option Int):aL X N h (gA ts lo hi) (gA vs lo hi):=by
 unfold gA
 rw[x.length]
 exact(x.drop _).take _
def WS(vs:List ay)(lo hi:Option Int):slicePick vs.toArray lo hi ae=(gA vs lo hi).toArray:=by
 rw[slicePick_plain];unfold gA;simp
def LM(lo hi:Option Int)(n:Nat):AN lo hi 1 n=sliceRange (TV lo hi ae n).1 (TV lo hi ae n).2.1 (TV lo hi ae n).2.2:=by
 cases lo<;>cases hi<;>rfl
def WT(n:Nat):AN ae ae (-1) n=sliceRange ((n:Int) - 1) (-1) (-1):=by
 first
 |rfl
 |simp [AN]
def WU(x:Str)(lo hi:Option Int):(AN lo hi 1 x.length).filterMap (x.cps[·]?)=gA x.cps.toList lo hi:=by
 rw[LM,al7]
 simp only[sliceRange_one,pick_run]
 unfold gA Str.length
 simp
def WV(x:Str):(AN ae ae (-1) x.length).filterMap (x.cps[·]?)=x.cps.toList.reverse:=by
 rw[WT,W.krv_sliceRange,W.krv_range,List.filterMap_reverse]
 exact af _ (W.krv_all x.cps)
def WW{α:Type}(xs:List α)(lo hi:Option Int)(h:(gA xs lo hi).length=xs.length):gA xs lo hi=xs:=by
 have hs:(gA xs lo hi).Sublist xs:=(List.take_sublist _ _).trans (List.drop_sublist _ _)
 exact hs.eq_of_length h
def WX(n:Nat)(o:Option Int):o.elim n (xm n)<=n:=by
 cases o with
 |none=>exact bj _
 |some i=>
  refine dh.mp ?_
  show((xm n i:Nat):Int)<=n
  rw[clipAt_cast]
  exact Int.max_le.mpr ⟨cx _,al9 _ _⟩
def str_len(x:Str)(lo hi:Option Int):(AN lo hi 1 x.length).length=(gA x.cps.toList lo hi).length:=by
 rw[LM,al7]
 simp only[sliceRange_one,bK,kr]
 unfold gA
 rw[Dt,AM,uY]
 exact(Du (JS (WX x.cps.size hi) _)).symm
def LN{l:List Nat}{t:Tok}{tk:Nat}(h:l.length<=lim):Res X N s (.str ⟨l.toArray⟩) (.str ⟨l.toArray⟩ t) {s with toks:=tk}:=⟨Kp.tok,.str _ _ (by show(oE _).size<=lim;rw[bU];exact h)⟩
def WY{rv:Bool}{Bz BA:T}{qZ vN w:ay}{I:Addr}(h:mJ rv x Bz BA=ab z)(hv:VB X N s.heap x v)(h1:VB X N s.heap Bz qZ)(h2:VB X N s.heap BA vN)(n:NG X N s.heap)
  (hs:s.heap.IsSliceOf I qZ vN w) (hw:if rv then∃t,w=.int (-1) t else w=.none):aA (model X.prog X.w) A (xt v (.ref I)) (Res X N s z) E s:=by
 have hp:∀{f:Option Int->Option Int->T}{g:T},Ee rv Bz BA f g=ab z->∃lo hi,yj Bz=ab lo/\yj BA=ab hi/\(if rv then lo=ae/\hi=ae/\g=z else f lo hi=z):=λe=>aO e λlo e1 e=>aO e λhi e2 e=>⟨lo,hi,e1,e2,by
  cases rv with
  |false=>exact Option.some.inj e
  |true=>exact ifs e λq e=>⟨q.1,q.2,e⟩⟩
 cases x with
 |lst l=>
  obtain⟨lo,hi,e1,e2,e⟩:=hp h
  refine hv.list λa vs hl hz r=>?_
  have LP:vs.toArray.size<=pq:=by rw[bU,r.length];exact dS hz
  cases rv with
  |false=>
   cases hw
   refine ama hl.isList hs (vM e1 h1).1 (vM e2 h2).1 .none (by simp) ?_ LP
   rw[WS,<-show T.lst (gA l lo hi)=z from e]
   exact(qT n (WR r lo hi) (aD (LL _ _ _) hz) (tk:=s.toks) (e:=0)).res
  |true=>
   obtain⟨rfl,rfl,rfl⟩:=e
   refine hw.elim λt e=>?_
   subst e
   refine ama hl.isList hs (vM e1 h1).1 (vM e2 h2).1 (.int (-1) t) (by simp) ?_ LP
   rw[W.krv_pick]
   exact(qT n r.rev (by rw[pz];exact hz) (tk:=s.toks) (e:=0)).res
 |str x=>
  obtain⟨lo,hi,e1,e2,e⟩:=hp h
  refine hv.c6 λt hz=>?_
  have iH:x.cps.toList.length<=lim:=by rw[uY];exact hz
  obtain⟨_,p1,rfl,f1⟩:=vM e1 h1
  obtain⟨_,p2,rfl,f2⟩:=vM e2 h2
  cases rv with
  |false=>
   cases hw
   refine amb (l:=p1) (u:=p2) (st:=ae) hs rfl ?_
   unfold sliceMade slicePicked
   simp only[Option.map_none,Option.getD_none]
   rw[WU,f1,f2,str_len,<-show T.str ⟨(gA x.cps.toList lo hi).toArray⟩=z from e]
   by_cases q:(gA x.cps.toList lo hi).length=x.length
   ·rw[ah (by simp [q]),WW x.cps.toList lo hi (q.trans (uY ..).symm)]
    exact⟨.refl s,.str _ _ hz⟩
   ·rw[ai (by simp [q])]
    have l1:=aD (LL x.cps.toList lo hi) iH
    exact⟨dS (by show(oE _).size<=lim;rw[bU];exact l1),LN l1⟩
  |true=>
   obtain⟨rfl,rfl,rfl⟩:=e
   refine hw.elim λt e=>?_
   subst e
   refine amb (l:=p1) (u:=p2) (st:=ab (-1,t)) hs rfl ?_
   unfold sliceMade slicePicked
   simp only[AO,ame,f1,f2]
   rw[WV,ai (by simp)]
   have l1:x.cps.toList.reverse.length<=lim:=by rw[pz];exact iH
   exact⟨dS (by show(oE _).size<=lim;rw[bU];exact l1),LN l1⟩
 |_=>exact aN h
def Pd(e:Ex)(c:Sc)(o:Option aW):Prop:=∀{C k},Ok C k->∀{A env N r s t},At C.X k A env c N r s->ev C.F e r=ab t->∀E,aA (model C.X.prog C.X.w) A (evalPart o env) (Bw C.X N s t) E s
def WZ{c:Sc}:Pd .absent c ae:=λH z z z z s t a e E=>by cases e;exact aQ ⟨.refl s,.of .none⟩
def W0{e:Ex}{c:Sc}{x:aW}(h:Gd e .val c [x]):Pd e c (ab x):=λH y y y y s t a e E=>mo (h H a e E) λy y z=>z.b
def W2{rv:Bool}{x a b z:T}(e:mJ rv x a b=ab z):Es x=true:=by cases x<;>first|rfl|exact aN e
def W3{rv:Bool}{a lo hi:Ex}{m:Mode}{l:aW}{y z w:Option aW}{p p':Pos}(hm:m.v=true)(h1:Gd a .bor c [l])(h2:Pd lo c y)(h3:Pd hi c z)
  (hw:if rv then∃j sq sr,w=ab (.UnaryOp .USub (.Constant (.int 1) j sq) sr)else w=ae):Gd (.cY rv a lo hi) m c [.Subscript l (.Slice y z w p) p']:=λ{C k}H A env N r s t at_ e=>by
 refine aO e λtx e1 e=>aO e λty e2 e=>aO e λtz e3 e=>fQ at_ hm (λE=>Et (bl (h1 H at_ e1) λv aB k₁ bD=>?_)) λx=>rfl
 have a1:=at_.kp k₁
 refine wpAny_Slice (mo (h2 H a1 e2 E) λqZ s₂ nT=>?_)
 have a2:=a1.kp nT.1
 refine mo (h3 H a2 e3 E) λvN aX oX=>?_
 have a3:=a2.kp oX.1
 have LQ:=nT.1.trans oX.1
 have fin:∀(aS:az)(w:ay),Kp C.X aX aS->(if rv then∃t,w=.int (-1) t else w=.none)->
   Er {aS with heap:=aS.heap.push {cls:=.type "slice",data:=.fields #[qZ,vN,w]}} v/\
   aA (model C.X.prog C.X.w) A (xt v (.ref aS.heap.objs.size)) (Res C.X N s t) E {aS with heap:=aS.heap.push {cls:=.type "slice",data:=.fields #[qZ,vN,w]}}:=by
  intro aS w W4 hw
  have iI:=W4.trans (Kp.push (s:=aS) (o:={cls:=.type "slice",data:=.fields #[qZ,vN,w]}) (tk:=aS.toks))
  have a5:=a3.kp iI
  have v5:=bD.kp a1.ng (LQ.trans iI) a1.apart
  exact⟨LI (W2 e) v5,mo (WY e v5 (nT.2.kp a2.ng (oX.1.trans iI) a2.apart) (oX.2.kp a3.ng iI a3.apart) a5.ng (Heap.IsSliceOf.new ..) hw) λw' nU LR=>⟨((k₁.trans LQ).trans iI).trans LR.1,LR.2⟩⟩
 cases rv with
 |false=>cases hw;exact aQ (fin aX .none (.refl aX) rfl)
 |true=>
  obtain⟨j,sq,sr,rfl⟩:=hw
  first
   |exact Ds (JN (TQ (fin _ (.int (-1) _) Kp.tok ⟨_,rfl⟩)))
   |exact Ds (JN (TQ (fin _ _ Kp.tok ⟨_,rfl⟩)))
end
def Eu{M:my}{Γ:TX}{p:Pos}{t:Sem Fin}{fs:List Frame}{s s':az}{e:End}(h:Runs M Γ p t fs s e s'):s.heap.objs.size<=s'.heap.objs.size:=by
 induction h<;>(try simp only[az.setGen,fk,xA]at*)<;>first|assumption|exact bj _|exact aD (by assumption) (by assumption)|exact oF (by assumption)|omega
def W7{M:my}{Γ:TX}{p:Pos}{g:Nat}{r:Resume}{s s':az}{res:GenResult}(h:Wakes M Γ p g r s res s'):s.heap.objs.size<=s'.heap.objs.size:=by
 unfold Wakes at h
 cases hg:s.gens[g]? with
 |none=>rw[hg]at h;exact h.elim
 |some y=>
  rw[hg]at h
  cases y with
  |fresh c=>
   cases r with
   |send v=>cases v with
    |none=>obtain⟨mQ,aB,hr,_,_,rfl⟩:=h;exact(Eu hr:(s.setGen g .running).heap.objs.size<=aB.heap.objs.size)
    |_=>exact bO (af (λs=>s.heap.objs.size) h.2.symm)
   |throw x=>exact bO (af (λs=>s.heap.objs.size) h.2.symm)
  |suspended k₀ _ c₀ apK fs _=>obtain⟨mQ,aB,hr,_,_,rfl⟩:=h;exact(Eu hr:(s.setGen g .running).heap.objs.size<=aB.heap.objs.size)
  |running=>exact bO (af (λs=>s.heap.objs.size) h.2.symm)
  |finished=>exact bO (af (λs=>s.heap.objs.size) h.2.symm)
def W8{α:Type}(M:my)(Γ:TX)(n:Nat)(t:Sem α):∀(Q:α->Pos->az->Prop)(E:ay->Pos->az->Prop)(p:Pos)(s:az),n<=s.heap.objs.size->Sem.wp M Γ t Q E p s->
  Sem.wp M Γ t (λa p' s'=>n<=s'.heap.objs.size/\Q a p' s') (λe p' s'=>n<=s'.heap.objs.size/\E e p' s') p s:=by
 induction t with
 |pure a=>intro Q E p s hn h;exact⟨hn,h⟩
 |raise e=>intro Q E p s hn h;exact⟨hn,h⟩
 |unsupported _=>intro Q E p s _ h;exact h
 |finish _=>intro Q E p s _ h;exact h
 |rule _ k ih=>intro Q E p s hn h;exact ih () Q E p s hn h
 |«at» p' k ih=>intro Q E p s hn h;exact ih () Q E p' s hn h
 |load a _ k ih=>intro Q E p s hn h;exact h.elim λo z=>⟨o,z.1,ih o Q E p s hn z.2⟩
 |update a _ f k ih=>intro Q E p s hn h;exact⟨h.1,ih () Q E p _ (by show n<=(s.heap.update a f).objs.size;rw[xA];exact hn) h.2⟩
 |loadIfAlive a k ih=>intro Q E p s hn h;exact ih _ Q E p s hn h
 |point _ k ih=>intro Q E p s hn h;exact ih () Q E p s hn h
 |register _ _=>intro Q E p s _ h;exact h
 |alloc o k ih=>intro Q E p s hn h;exact ih _ Q E p _ (aD hn (qV _ _)) h
 |fresh k ih=>intro Q E p s hn h;exact ih _ Q E p _ hn h
 |ask k ih=>intro Q E p s hn h;exact ih _ Q E p s hn h
 |choose src m k ih=>intro Q E p s hn h;exact⟨h.1,ih _ Q E p _ hn h.2⟩
 |os q _ k ih=>intro Q E p s hn h;exact ih _ Q E p _ hn h
 |call c hd _ _ k ih=>intro Q E p s hn h;exact h.elim λr h=>h.elim λs' z=>⟨r,s',z.1,ih r Q E p s' (aD hn (Eu z.1)) z.2⟩
 |handled own k ih=>intro Q E p s hn h;exact ih _ Q E p s hn h
 |genState g k ih=>intro Q E p s hn h;exact h.elim λst z=>⟨st,z.1,ih _ Q E p s hn z.2⟩
 |newGen c k ih=>intro Q E p s hn h;exact ih _ Q E p _ hn h
 |resume g r _ k ih=>intro Q E p s hn h;exact h.elim λres h=>h.elim λs' z=>⟨res,s',z.1,ih res Q E p s' (aD hn (W7 z.1)) z.2⟩
 |yield _ _ _ _=>intro Q E p s _ h;exact h
 |stack k ih=>intro Q E p s hn h;exact ih _ Q E p s hn h
 |fork _ _=>intro Q E p s _ h;exact h
 |thread k ih=>intro Q E p s hn h;exact ih _ Q E p s hn h
 |await _ _ _ _ _=>intro Q E p s _ h;exact h
def fg{α:Type}{M:my}{A:aM}{s:az}{t:Sem α}{Q:α->az->Prop}{E:ay->az->Prop}
  (h:aA M A t (λa s'=>s.heap.objs.size<=s'.heap.objs.size->Q a s') E s):aA M A t Q E s:=
 have k:aA M A t (λa s'=>s.heap.objs.size<=s'.heap.objs.size/\(s.heap.objs.size<=s'.heap.objs.size->Q a s')) (λe s'=>s.heap.objs.size<=s'.heap.objs.size/\E e s') s:=
  λΓ p Ew=>W8 M Γ s.heap.objs.size t _ _ p s (bj _) (h Γ p Ew)
 eF k (λz z x=>x.2 x.1) (λz z x=>x.2)
section
variable{M:my}{A:aM}{E:ay->az->Prop}{s:az}
def ie{f:ay}{args:List (Bool×Sem ay)}{Q:Args->az->Prop}(hp:args.any (·.1)=false)(h:aA M A (pw args) (λvs s'=>Q ⟨vs,[]⟩ s') E s):aA M A (evalArgs f true args []) Q E s:=by
 cases args with
 |nil=>
  unfold evalArgs
  show aA M A (pw []>>=_) Q E s
  refine aG (eF h (λvs s' h'=>aG (aQ ?_)) λz z x=>x)
  refine dN ?_
  exact aG (aQ (aG (aQ (aQ h'))))
 |cons p r=>
  obtain⟨b,x⟩:=p
  cases b with
  |false=>exact AP h
  |true=>exact aj hp Bool.noConfusion
end
section
open AutoSeq1 (wpAny_loadPart')
def W9{prog:gK}{w:gZ}{A:aM}{E:ay->az->Prop}{s:az}{Q:List ay->az->Prop}(it:Addr){T:String}{o:Obj}{items:Array ay}{n:Nat}(hT:T="list"∨T="tuple")
  (ho:s.heap.get? it=ab o) (hc:o.cls=.type T) (hd:o.data=.seq items n)
  (hQ:∀h',(∀b o',s.heap.get? b=ab o'->h'.get? b=ab o')->s.heap.objs.size<=h'.objs.size->Q items.toList {s with heap:=h'}) (hsz:items.size<=pq:=by size_fits):
  aA (model prog w) A (collect (.ref it)) Q E s:=
 fg (wpAny_collect_seq (hsz:=hsz) it hT ho hc hd λh' hk z=>hQ h' hk z)
def Xa(l:Addr)(o:Obj)(items:Array ay)(n:Nat)(hc:o.cls=.type "list")(hd:o.data=.seq items n)(hsz:items.size<=pq:=by size_fits):
  Dv (eP.«tuple.__new__» ⟨[.type "tuple",.ref l],[]⟩)
   (λz R s=>s.heap.get? l=ab o/\∀h':Heap,(∀b o',s.heap.get? b=ab o'->h'.get? b=ab o')->s.heap.objs.size<=h'.objs.size->R (.ok (.ret (.ref h'.objs.size))) {s with heap:=h'.push {cls:=.type "tuple",data:=.seq items}}):=
 .of_wp λprog w A R s h=>by
  obtain⟨hp,g,d,tk,os⟩:=s;obtain⟨ht,h⟩:=h
  have tN:=sub_tuple_self
  have apL:=init_tuple_lookup
  have hmh:=madeHere_tuple
  have hT:aml ⟨hp,g,d,tk,os⟩ (.ref l) "list":=⟨o,ht,hc⟩
  wp_walk using AQ ht,TZ hT,W9 (hsz:=hsz) l (.inl rfl) ht hc hd
  intro h' hk hz
  show aA _ _ (amm items.toList.toArray>>=λv=>ret v) _ _ _
  unfold amm
  refine aG (sR ?_ (by show items.toList.toArray.size<=pq;simpa using hsz))
  refine aQ ⟨_,rfl,?_⟩
  have e:items.toList.toArray=items:=by simp
  rw[e]
  exact h h' hk hz
def tuple_list{prog:gK}{w:gZ}{A:aM}{E:ay->az->Prop}{s:az}{l:Addr}{items:Array ay}{Q:ay->az->Prop}(hl:s.heap.IsList l items)
  (h:∀h':Heap,(∀b o',s.heap.get? b=ab o'->h'.get? b=ab o')->s.heap.objs.size<=h'.objs.size->Q (.ref h'.objs.size) {s with heap:=h'.push {cls:=.type "tuple",data:=.seq items}})
  (hsz:items.size<=pq:=by size_fits):
  aA (model prog w) A (call (.type "tuple") [.ref l]) Q E s:=by
 obtain⟨o,ho,hc,n,hd⟩:=hl
 exact JT PySem.F.called_tuple (by decide) (PySem.F.typeCall_tuple_1 _) (PySem.F.newCall_tuple_1 _) (λobj=>PySem.F.args_object_init_2 obj _) PySem.F.entry_tuple_new
  (Xa l o items n hc hd hsz) ⟨ho,λh' hk hz=>⟨⟨_,cB _ rfl,rfl⟩,h h' hk hz⟩⟩
end
def Xb(pos:Pos)(l:List (Bool×Sem ay)):(mz pos l).any (·.1)=l.any (·.1):=by unfold mz;rw[List.any_map];rfl
def Xc(env:Env):∀{es:List aW},es.all notStar=true->(jT es env).any (·.1)=false:=by
 intro es
 induction es with
 |nil=>exactλh=>rfl
 |cons x xs ih=>
  intro h
  have h:=il.mp h
  rw[yA h.1,Dw,ih h.2];rfl
def jx(env:Env)(pos:Pos){es:List aW}(h:es.all notStar=true):(mz pos (jT es env)).any (·.1)=false:=by rw[Xb];exact Xc env h
def BB{X:Kx}{N:Addr->Prop}{h:Heap}:∀{l:List T}{vs:List ay}{ns:List Int},mL l=ab ns->aL X N h l vs->IntsAre vs ns:=by
 intro l
 induction l with
 |nil=>exactλe x=>Option.some.inj e▸x.qK .nil
 |cons t ts ih=>
  intro vs ns e x
  refine x.tF λv ws a b=>ff e λi q ea=>map_some ea λms e1 ez=>?_
  clear e ea x
  subst ez;subst q
  exact a.eR λu=>.cons _ _ (ih e1 b)
def Xd:∀{l:List T}{ns:List Int},mL l=ab ns->l=ns.map .int:=by
 intro l
 induction l with
 |nil=>exactλe=>Option.some.inj e▸rfl
 |cons t ts ih=>exactλe=>ff e λi q e=>map_some e λms e1 e=>by rw[<-e,q,ih e1];rfl
def Xe{X:Kx}{N:Addr->Prop}{h:Heap}{vs:List ay}{ns:List Int}(x:IntsAre vs ns):aL X N h (ns.map .int) vs:=by
 induction x with
 |nil=>exact .nil
 |cons n t r ih=>exact .cons (.int n t) ih
def insI_perm(x:Int)(l:List Int):(insI x l).Perm (x::l):=by
 induction l with
 |nil=>exact .refl _
 |cons y r ih=>
  by_cases q:x<=y
  ·exact .of_eq (ah q)
  ·exact(amn (ai q)).trans ((ih.cons y).trans (.swap x y r))
theorem sortI_perm:∀l,(sortI l).Perm l
 |[]=>.refl _
 |x::r=>(insI_perm x _).trans ((sortI_perm r).cons x)
def Xf(x:Int)(l:List Int)(h:l.Pairwise (· <=·)):(insI x l).Pairwise (· <=·):=by
 induction l with
 |nil=>exact T2 _ x
 |cons y r ih=>
  have hp:=u6.mp h
  by_cases q:x<=y
  ·rw[show insI x (y::r)=x::y::r from ah q]
   refine u6.mpr ⟨λz hz=>?_,h⟩
   rcases br.mp hz with rfl|hz
   ·exact q
   ·exact dn q (hp.1 z hz)
  ·rw[show insI x (y::r)=y::insI x r from ai q]
   refine u6.mpr ⟨λz hz=>?_,ih hp.2⟩
   rcases br.mp ((insI_perm x r).mem_iff.mp hz)with rfl|hz
   ·exact AJ (JD.mp q)
   ·exact hp.1 z hz
theorem LS:∀l,(sortI l).Pairwise (· <=·)
 |[]=>.nil
 |x::r=>Xf x _ (LS r)
def Xg{a b:List Int}(p:a.Perm b)(ha:a.Pairwise (· <=·))(hb:b.Pairwise (· <=·)):a=b:=p.eq_of_pairwise (λz z z z=>T3) ha hb
def Xh{f:Int->Int->Int}{le:Int->Int->Prop}(rf:∀a,le a a)(tr:∀{a b c},le a b->le b c->le a c)(h1:∀a b,le (f a b) a)(h2:∀a b,le (f a b) b)(h3:∀a b,f a b=a∨f a b=b)(l:List Int):∀a:Int,le (l.foldl f a) a/\(∀x∈l,le (l.foldl f a) x)/\(l.foldl f a=a∨l.foldl f a∈l):=by
 induction l with
 |nil=>exactλa=>⟨rf a,λz h=>aj h gM,.inl rfl⟩
 |cons y r ih=>
  intro a
  have ih:=ih (f a y)
  rw[alG]
  refine⟨tr ih.1 (h1 a y),λx hx=>?_,?_⟩
  ·rcases br.mp hx with rfl|hx
   ·exact tr ih.1 (h2 a _)
   ·exact ih.2.1 x hx
  ·rcases ih.2.2 with q|q
   ·rw[q];exact(h3 a y).imp id λe=>by rw[e];exact bk
   ·exact .inr (bS _ q)
section
variable{X:Kx}{N:Addr->Prop}{s:az}{A:aM}{E:ay->az->Prop}{t:T}
def LU{ns:List Int}{vs:List ay}(hi:IntsAre vs ns):∃xs:Array (Int×Tok),T4 xs=vs.toArray/\xs.toList.map (·.1)=ns:=by
 induction hi with
 |nil=>exact⟨#[],by simp [T4],rfl⟩
 |cons n t _ ih=>
  obtain⟨xs,e1,e2⟩:=ih
  refine⟨((n,t)::xs.toList).toArray,?_,by rw[JJ,qk,e2]⟩
  have:=af JU e1
  simp only[T4,Array.toList_map]at this ⊢
  apply JV.mp
  simp [this]
def Xi{xs:Array (Int×Tok)}{i:Nat}(h:i<xs.size):qo xs i∈xs.toList.map (·.1):=by
 unfold qo
 rw[oG h]
 simp only[AO,ame]
 exact dy.mpr ⟨xs[i],by simp,rfl⟩
def Xj{xs:Array (Int×Tok)}{x:Int}(h:x∈xs.toList.map (·.1)):∃i,i<xs.size/\qo xs i=x:=by
 obtain⟨p,hp,rfl⟩:=dy.mp h
 obtain⟨i,hi,e⟩:=List.mem_iff_getElem.mp hp
 refine⟨i,by simpa using hi,?_⟩
 unfold qo
 rw[oG (by simpa using hi)]
 simp only[Array.getElem_toList]at e
 rw[e];rfl
def LV{f:Int->Int->Int}{le:Int->Int->Prop}(rf:∀a,le a a)(tr:∀{a b c},le a b->le b c->le a c)(as:∀{a b},le a b->le b a->a=b)(h1:∀a b,le (f a b) a)(h2:∀a b,le (f a b) b)(h3:∀a b,f a b=a∨f a b=b)
  {xs:Array (Int×Tok)} {x:Int} {r:List Int} (e:xs.toList.map (·.1)=x::r) {i:Nat} (hi:i<xs.size) (hb:∀j,j<=xs.size - 1->le (qo xs i) (qo xs j)):qo xs i=r.foldl f x:=by
 obtain⟨g1,g2,g3⟩:=Xh rf tr h1 h2 h3 r x
 have m1:=Xi hi
 rw[e]at m1
 have lo:le (r.foldl f x) (qo xs i):=(br.mp m1).elim (λq=>q▸g1) (g2 _)
 have mem:r.foldl f x∈xs.toList.map (·.1):=by
  rw[e];exact g3.elim (λq=>by rw[q];exact bk) (bS _)
 obtain⟨j,hj,e4⟩:=Xj mem
 exact as (e4▸hb j (amo hj)) lo
def Xk{i j:Int}{u v:Tok}(a:RA 0 A):aA (model X.prog X.w) A (call (.builtin "max") [.int i u,.int j v]) (Res X N s (.int (if j>i then j else i))) E s:=by
 refine fg (max_two_ints a.handled λh' tk hk hsz=>?_)
 split
 ·exact⟨Kp.of hk hsz,.int _ _⟩
 ·exact⟨Kp.of hk hsz,.int _ _⟩
def LW{tp:String}{vs:List ay}{l:List T}{h':Heap}{c:Nat}(n:NG X N s.heap)(hk:∀b o,s.heap.get? b=ab o->h'.get? b=ab o)(hsz:s.heap.objs.size<=h'.objs.size)(hD:h'.get? s.heap.objs.size=ab {cls:=.type "list",data:=.seq vs.toArray c})(hz:l.length<=lim)(hs:aL X N s.heap l vs):
  Res X N s (.lst l) (.ref s.heap.objs.size) {s with heap:=h'}:=⟨Kp.of hk hsz,.lst ⟨c,hD⟩ (yr n) hz (hs.kp n (Kp.of (tk:=s.toks) hk hsz))⟩
def Xl{l:List T}{ns:List Int}{v:ay}(a:RA 0 A)(e:mL l=ab ns)(h:Bp max ns=ab t)(hv:VR X N s.heap (.lst l) v):aA (model X.prog X.w) A (call (.builtin "max") [v]) (Res X N s t) E s:=by
 cases ns with
 |nil=>exact aN h
 |cons x r=>
  cases h
  refine hv.eQ λa' vs ho hN hz hs=>(LU (BB e hs)).elim λxs q=>?_
  have iY:0<xs.size:=by rw[<-uY,<-bK (f:=(·.1)),q.2];exact eG _
  refine fg (max_intList a.handled (q.1▸ho.isList) iY λv h' tk hv hk hsz=>?_)
  obtain⟨u,rfl⟩:=intItems_at hv
  obtain⟨h1,h2⟩:=argBest_gt (qo xs) (xs.size - 1)
  rw[LV (le:=λa b=>b<=a) (λz=>T5 _) (λp q=>dn q p) (λp q=>T3 q p) (λa b=>Int.le_max_left a b) (λa b=>Int.le_max_right a b) (λa b=>by rw[Int.max_def];split<;>first|exact .inr rfl|exact .inl rfl) q.2 (bI h1 (qp iY xB)) λj hj=>lr.mp (by simpa using h2 j hj)]
  exact⟨Kp.of hk hsz,.int _ _⟩
def Xm{l:List T}{ns:List Int}{v:ay}(a:RA 0 A)(e:mL l=ab ns)(h:Bp min ns=ab t)(hv:VR X N s.heap (.lst l) v):aA (model X.prog X.w) A (call (.builtin "min") [v]) (Res X N s t) E s:=by
 cases ns with
 |nil=>exact aN h
 |cons x r=>
  cases h
  refine hv.eQ λa' vs ho hN hz hs=>(LU (BB e hs)).elim λxs q=>?_
  have iY:0<xs.size:=by rw[<-uY,<-bK (f:=(·.1)),q.2];exact eG _
  refine fg (min_intList a.handled (q.1▸ho.isList) iY λv h' tk hv hk hsz=>?_)
  obtain⟨u,rfl⟩:=intItems_at hv
  obtain⟨h1,h2⟩:=argBest_lt (qo xs) (xs.size - 1)
  rw[LV (le:=λa b=>a<=b) (λz=>T5 _) (λp q=>dn p q) (λp q=>T3 p q) (λa b=>Int.min_le_left a b) (λa b=>al9 a b) (λa b=>by rw[Int.min_def];split<;>first|exact .inl rfl|exact .inr rfl) q.2 (bI h1 (qp iY xB)) λj hj=>lr.mp (by simpa using h2 j hj)]
  exact⟨Kp.of hk hsz,.int _ _⟩
def Xn{l:List T}{ns:List Int}{v:ay}(n:NG X N s.heap)(e:mL l=ab ns)(kK:ns.length<64)(hv:VR X N s.heap (.lst l) v):aA (model X.prog X.w) A (call (.builtin "sorted") [v]) (Res X N s (.lst ((sortI ns).map .int))) E s:=by
 refine hv.eQ λa' vs ho hN hz hs=>?_
 have hI:=BB e hs
 refine fg (atm ho.isList hI (by rw[hI.length];exact kK) λout nV h1 h2 h3 hsz=>?_)
 have es:nV=sortI ns:=Xg (h2.trans (sortI_perm ns).symm) h3 (LS ns)
 obtain⟨ep,he⟩:=sortedAll_at s.heap _ out
 refine⟨Kp.of (λb o e=>sortedAll_old e) hsz,?_⟩
 rw[<-es]
 refine .lst (vs:=out.toList) ⟨ep,by rw[amt];exact he⟩ (λq=>aj (n.lt _ q) (eX.mpr (gy _))) ?_ (Xe h1)
 rw[bK,h2.length_eq,<-bK (f:=T.int),<-Xd e];exact hz
def Xo{p:Prim}{args:List T}{vs:List ay}(a:RA 0 A)(n:NG X N s.heap)(h:gO p args=ab t)(hv:aL X N s.heap args vs):
  aA (model X.prog X.w) A (call (tK p).2 vs) (Res X N s t) E s:=by
 cases p with
 |len=>
  refine hv.oU h λx v hx e=>?_
  cases x with
  |lst l=>cases e;exact hx.eQ λa vs ho hN hz hs=>amu ho.isList (by rw[bU,hs.length];exact kC hz) (by rw[bU,hs.length];exact⟨Kp.tok,.int _ _⟩)
  |tup l=>cases e;exact hx.fb λa vs ho hN hz hs=>atn ho.isTup (by rw[bU,hs.length];exact kC hz) (by rw[bU,hs.length];exact⟨Kp.tok,.int _ _⟩)
  |str x=>cases e;exact hx.c6 λu hz=>ato (by first|exact JD.mpr (kC hz)|exact JG (kC hz)|exact kC hz) ⟨Kp.tok,.int _ _⟩
  |_=>exact aN e
 |qP=>exact hv.oU h λx v hx e=>eW e λl q e=>aO e λns e1 e=>Xl a e1 e (q▸hx)
 |min1=>exact hv.oU h λx v hx e=>eW e λl q e=>aO e λns e1 e=>Xm a e1 e (q▸hx)
 |max2=>exact hv.Lk h λx y v w hx hy e=>(VB.of hx).bp e λi u e=>(VB.of hy).bp e λj u' e=>by cases e;exact Xk a
 |qQ=>exact hv.oU h λx v hx e=>eW e λl q e=>aO e λns e1 e=>ifs e λkK e=>e▸Xn n e1 kK (q▸hx)
 |divmod=>exact hv.Lk h λx y v w hx hy e=>(VB.of hx).bp e λi u e=>(VB.of hy).bp e λj u' e=>ifs e λhb e=>e▸atp hb.1 (Lg n (.cons (.int _ _) (.cons (.int _ _) .nil)) (show 2<=lim by decide) (e:=0)).res (.inl hb.2)
 |repr=>
  refine hv.oU h λx v hx e=>eW e λl q ea=>aO ea λys e1 eb=>ifs eb λhb ez=>?_
  clear e ea eb
  subst ez;subst q
  refine hx.eQ λb ws ho hN hz hs=>((VR.lst ho hN hz hs).Eg (.list ys) (af (alP _) e1)).elim λas rd=>fg (repr_of_reads' rd hb.1 (λq=>aj (hb.2.1.symm.trans q) bT) a.guards ?_ (λz z e=>e) (λh' u tk hk hsz=>⟨Kp.of hk hsz,.str _ _ hb.2.2.2⟩) (dS hb.2.2.2))
  have u:A.units<9000:=a.units
  have hd:=hb.2.2.1
  clear hb e1 rd hs ho hN hz hx hv h
  show A.units+_<9900
  exact bG (alC u (cX hd)) (by decide)
 |str1=>exact hv.oU h λx v hx e=>(VB.of hx).bp e λi u e=>ifs e λhb e=>e▸P.str_of_int hb.1 ⟨Kp.tok,.str _ _ hb.2⟩
 |tuple1=>
  refine hv.oU h λx v hx e=>eW e λl q e=>?_
  cases e;subst q
  refine hx.eQ λa vs ho hN hz hs=>fg (tuple_list ho.isList (λh' hk h2 hsz=>?_) (by rw[bU,hs.length];exact dS hz))
  have k:Kp X s {s with heap:=h'.push {cls:=.type "tuple",data:=.seq _}}:=Kp.of (λb o e=>cS _ (hk b o e)) hsz
  exact⟨k,.tup ⟨0,cB _ rfl⟩ (λq=>bx (n.lt _ q) h2) hz (hs.kp n k)⟩
 |list1=>
  refine hv.oU h λx v hx e=>aO e λl e1 e=>?_
  cases e
  cases x with
  |lst l=>cases e1;exact hx.eQ λa vs ho hN hz hs=>ho.elim λe ho=>fg (call_list_seq _ (.inl rfl) ho rfl rfl (λh' c' hk hD hsz=>LW (tp:="") n hk hsz hD hz hs) (by rw[bU,hs.length];exact dS hz))
  |tup l=>cases e1;exact hx.fb λa vs ho hN hz hs=>ho.elim λe ho=>fg (call_list_seq _ (.inr rfl) ho rfl rfl (λh' c' hk hD hsz=>LW (tp:="") n hk hsz hD hz hs) (by rw[bU,hs.length];exact dS hz))
  |_=>exact aN e1
end
def Ey{n:Nat}(h:n<=lim):amw n=false:=av (eX.mpr (dS h))
def yB{X:Kx}{N:Addr->Prop}{h:Heap}{l:List T}:∀{vs:List ay}{ys:List Str},hU l=ab ys->aL X N h l vs->∃q:List (Str×Tok),vs=nC q/\q.map (·.1)=ys:=by
 induction l with
 |nil=>exactλe x=>x.qK (by cases e;exact⟨[],rfl,rfl⟩)
 |cons t ts ih=>
  intro _ ys e x
  refine x.tF λv ws a b=>?_
  refine ia e λy q ea=>map_some ea λms e1 ez=>(ih e1 b).elim λz w=>?_
  clear e ea
  subst ez;subst q
  exact a.c6 λu s=>⟨(y,u)::z,by rw[w.1];rfl,by rw[qk,w.2]⟩
def Xq{X:Kx}{N:Addr->Prop}{h:Heap}{q:List (Str×Tok)}:∀{ys:List Str},q.map (·.1)=ys->ys.all (λz=>decide (z.length<=lim))=true->aL X N h (ys.map .str) (nC q):=by
 induction q with
 |nil=>intro _ e _;cases e;exact .nil
 |cons p q ih=>
  intro _ e hz
  obtain⟨x,t⟩:=p
  cases e
  have hz:=il.mp hz
  exact .cons (.str x t (aq hz.1)) (ih rfl hz.2)
section
variable{X:Kx}{N:Addr->Prop}{s:az}{A:aM}{E:ay->az->Prop}{t:T}
def Xr{x y:Str}{tx u:Tok}(n:NG X N s.heap)(hx:x.length<=lim)(hy:(y.length==0)=false)(Ez:(Tv x (JC x y 0 x.length (x.length+1)) y.length).length<=lim)
  (q7:(Txt.split x y).length<=lim) (rb:(Txt.split x y).all (λz=>decide (z.length<=lim))=true):
  aA (model X.prog X.w) A (call (.builtin "str.split") [.str x tx,.str y u]) (Res X N s (.lst ((Txt.split x y).map .str))) E s:=by
 have fin:∀(q:List (Str×Tok))(e tk:Nat),q.map (·.1)=Txt.split x y->Res X N s (.lst ((Txt.split x y).map .str)) (.ref s.heap.objs.size) {s with toks:=tk,heap:=s.heap.push {cls:=.type "list",data:=.seq (nC q).toArray e}}:=by
  intro q e tk hq
  exact(qT n (Xq hq rb) (by simpa using q7)).res
 cases h1:(decide (x.length<y.length)||decide (amx x<amx y))
 ·cases hf:(JC x y 0 x.length (x.length+1)).isEmpty
  ·refine sM JW (sQ _ _ _) T6 (T7 _ _) (meets_str_split_sep x y tx u h1 hy hf (dS hx) (dS Ez)) ?_
   show AR _ E _ {s with toks:=_,heap:=s.heap.push {cls:=.type "list",data:=.seq (strsFrom s.toks (Tv x (JC x y 0 x.length (x.length+1)) y.length)).toArray}}
   rw[strsFrom_eq]
   exact fin (numbered s.toks _) _ _ ((numbered_texts _ _).trans ((ai (ne_true_of_eq_false h1)).trans (ai (ne_true_of_eq_false hf))).symm)
  ·exact sM JW (sQ _ _ _) T6 (T7 _ _) (meets_str_split_not_found x y tx u h1 hy hf)
    (fin [(x,tx)] _ _ ((ai (ne_true_of_eq_false h1)).trans (ah hf)).symm)
 ·exact sM JW (sQ _ _ _) T6 (T7 _ _) (meets_str_split_cannot_occur x y tx u h1)
   (fin [(x,tx)] _ _ (ah h1).symm)
inductive EA(X:Kx)(N:Addr->Prop)(s:az)(nm:Str)(x:T)(ov:ay)(args:List T)(t:T):Prop
 |mk {T id} (pa:PlainAttrs T) (sl:Slot T nm id) (ty:typeOf (.builtin id)=pure (.type "method_descriptor")) (hT:s.TypeIs ov T) (hd:∀a,ov=.ref a->∃ob,s.heap.get? a=ab ob/\ob.dict=ae)
   (go:∀A s' vs E,RA 0 A->NG X N s'.heap->VB X N s'.heap x ov->aL X N s'.heap args vs->aA (model X.prog X.w) A (call (.builtin id) (ov::vs)) (Res X N s' t) E s')
def tO{nm:Str}{x:Str}{u:Tok}{args:List T}{id:String}(sl:Slot "str" nm id)(ty:typeOf (.builtin id)=pure (.type "method_descriptor"))
  (go:∀A s' vs E,NG X N s'.heap->x.length<=lim->aL X N s'.heap args vs->aA (model X.prog X.w) A (call (.builtin id) (.str x u::vs)) (Res X N s' t) E s'):EA X N s nm (.str x) (.str x u) args t:=
 .mk T8 sl ty (sQ _ _ _) nofun λA s' vs E a n hx ha=>go A s' vs E n (by have y:Bn x (.str x u):=(hx.vr rfl).inv;cases y with|mk _ h=>exact h) ha
def LX{d:Addr}{o:Obj}{aZ:List (Str×ay)}(ho:s.heap.get? d=ab o)(hd:o.IsDictOf (strKind X.prog X.w) aZ):s.TypeIs (.ref d) "dict"/\(∃ob,s.heap.get? d=ab ob/\ob.dict=ae)/\s.heap.DictOf (strKind X.prog X.w) d aZ:=by
 have hD:=sN.mpr ⟨o,ho,hd⟩
 obtain⟨es,ep,⟨_,hx,_⟩,_⟩:=hd
 exact⟨hD.typeIs,⟨o,ho,hx⟩,hD⟩
def Xs{l:List (Str×Int)}{k:Str}{i:Int}{ov:ay}(hv:VB X N s.heap (.aY l) ov):EA X N s (s_ "get") (.aY l) ov [.str k,.int i] (.int ((l.lookup k).getD i)):=by
 refine hv.dict λd o aZ ho hd z z z=>?_
 have D:=LX (s:=s) ho hd
 refine .mk PySem.F.plainAttrs_dict amy PySem.F.type_dict_get D.1 (λa q=>ay.ref.inj q▸D.2.1) λA s' j2 E a n hx ha=>?_
 have y:vA X (λz=>False) s'.heap l (.ref d):=hx.j
 cases y with|mk ho hd _ hz hq hs=>
 have D:=LX (s:=s') ho hd
 refine ha.Ec λv w a1 a2=>a1.c6 λtk z=>a2.eR λti=>?_
 refine call_meetsIn amy D.1 PySem.F.entry_dict_get (PySem.F.args_dict_get_3 _ _ _) (meets_dict_get_default (T9 X.prog X.w) d (uZ X.prog X.w k tk) hq (.int i ti)) ⟨_,D.2.2.mapOf,?_⟩
 have f:=LH hs k
 cases q:l.lookup k with
 |some v=>exact(f.1 v q).elim λt' e=>by rw[e];exact⟨Kp.tok,.int _ _⟩
 |none=>rw[f.2 q];exact⟨Kp.tok,.int _ _⟩
def Xt{m:SM}{x:T}{args:List T}{ov:ay}(h:iV m x args=ab t)(hv:VB X N s.heap x ov):EA X N s (Ek m) x ov args t:=by
 cases m with
 |pF=>
  refine ff h λi q h=>Lj h λq' h=>?_
  cases h;subst q;subst q'
  exact hv.eR λu=>.mk PySem.F.plainAttrs_int amz PySem.F.type_int_bit_length (JH _ _ _) nofun λA s' vs E a n hx ha=>ha.qK
   (call_gives amz (JH _ _ _) PySem.F.entry_int_bit_length (PySem.F.args_int_bit_length_1 _) (AutoIntG2.int_bit_length_int_0 _ _) ⟨Kp.tok,.int _ _⟩)
 |yl=>
  refine eW h λl q h=>tJ h λy q2 h=>ff h λi q3 h=>aO h λns e h=>?_
  cases h;subst q;subst q2;subst q3
  refine hv.list λb vs hl r r=>.mk Ua PySem.F.slot_list_count PySem.F.type_list_count hl.isList.typeIs (λa q=>ay.ref.inj q▸hl.elim λr e=>⟨_,e,rfl⟩) λA s' j2 E a n hx ha=>?_
  have y:Bo X N s'.heap l (.ref b):=hx.j
  cases y with|mk rg _ hs=>
  refine ha.oQ λv a=>a.eR λu=>count_list_ints rg.isList (BB e hs) ?_
  rw[List.count_eq_countP,List.countP_eq_length_filter]
  exact⟨Kp.tok,.int _ _⟩
 |vD=>
  refine Br h λl q h=>qU h λy z q2 h=>ia h λk q3 h=>ff h λi q4 h=>?_
  cases h;subst q;subst q2;subst q3;subst q4
  exact Xs hv
 |_=>
  refine ia h λx q h=>?_
  subst q
  refine hv.c6 λu r=>?_
  clear hv
  first
   |(refine Lj h λq h=>ifs h λhb e=>?_
     subst q;subst e
     first
      |exact tO PySem.F.slot_str_lower PySem.F.type_str_lower λA s' vs E n hz ha=>ha.qK (SC.lower (Ey hb) ⟨Kp.tok,.str _ _ hb⟩)
      |exact tO PySem.F.slot_str_upper PySem.F.type_str_upper λA s' vs E n hz ha=>ha.qK (SC.upper (Ey hb) ⟨Kp.tok,.str _ _ hb⟩))
   |(refine tJ h λy q h=>ia h λz q' h=>ifs h λhb e=>?_
     subst q;subst q';subst e
     exact tO JW PySem.F.type_str_split λA s' vs E n hz ha=>ha.oQ λv a=>a.c6 λu r=>Xr n hz hb.1 hb.2.1 hb.2.2.1 hb.2.2.2)
   |(refine tJ h λy q h=>eW h λl q' h=>aO h λys e h=>ifs h λhb e'=>?_
     subst q;subst q';subst e'
     exact tO Dx Ub λA s' vs E n hz ha=>ha.oQ λv a=>a.eQ λd ws ho r r hs=>(yB e hs).elim λq w=>SC.join (w.1▸ho.isList) w.2 hb.1 λt' k=>⟨Kp.tok,.str _ _ hb.2⟩)
   |(refine tJ h λy q h=>ia h λz q' h=>?_
     cases h;subst q;subst q'
     first
      |exact tO PySem.F.slot_str_count PySem.F.type_str_count λA s' vs E n hz ha=>ha.oQ λv a=>a.c6 λu r=>SC.count ⟨Kp.tok,.int _ _⟩
      |exact tO PySem.F.slot_str_rfind PySem.F.type_str_rfind λA s' vs E n hz ha=>ha.oQ λv a=>a.c6 λu r=>SC.rfind ⟨Kp.tok,.int _ _⟩
      |exact tO PySem.F.slot_str_find PySem.F.type_str_find λA s' vs E n hz ha=>ha.oQ λv a=>a.c6 λu r=>SC.find ⟨Kp.tok,.int _ _⟩)
end
section
variable{X:Kx}{k:Nat}{A:aM}{env:Env}{c:Sc}{N:Addr->Prop}{r:aE}{s s':az}{E:ay->az->Prop}{t:T}{m:Mode}{p pos:Pos}{es:List aW}{n x:Str}{o y bg mQ:aW}{Q:ay->az->Prop}{a b:Ex}
def jy(h:aA (model X.prog X.w) A (eval (.Name x p) env) (λf aB=>aA (model X.prog X.w) A (Dq pos f [] (mz pos (jT es env)) []) Q E aB) E s):
  aA (model X.prog X.w) A (eval (.Call (.Name x p) es [] pos) env) Q E s:=aG h
def LY{w:Sem ay}(h:isCall o=false):attributeBase o n env w=w:=by cases o<;>first|rfl|exact aj h.symm bT
def vO{apos:Pos}(hb:isCall o=false)(hl:apos.endLine=pos.line)(hn:es.length<20)(hp:es.all notStar=true)
  (h:aA (model X.prog X.w) A (eval o env) (λov aB=>aA (model X.prog X.w) A (JL ov n (do return (<-importBound o env).getD true))
   (λfx s₂=>aA (model X.prog X.w) A (Dq pos fx.1 fx.2 (mz pos (jT es env)) []) Q E s₂) E aB) E s):
  aA (model X.prog X.w) A (eval (.Call (.Attribute o n apos) es [] pos) env) Q E s:=by
 rw[arm_eval_Call,LY hb]
 refine aG (mo h λov aB bJ=>aG (lB ?_))
 have Xu:methodCallForm (es.length+([]:List Keyword).length) (mz pos (jT es env)) (backToKw pos (keywordEach [] env))=true:=by
  refine il.mpr ⟨il.mpr ⟨bA.mpr λx hx=>?_,rfl⟩,ar (bG (bI (bj _) hn) (by decide))⟩
  have:=List.any_eq_false.mp (jx env pos hp) x hx
  simpa using this
 have Xv:methodCallPos true o env apos pos=pure pos:=by unfold methodCallPos;simp [hl]
 unfold methodCall
 rw[Xu]
 refine aG (dN ?_)
 show aA _ _ (JL ov n _) _ _ _
 exact mo bJ λfx s₂ h₂=>aG (AS Xv h₂)
def BC(hb:isCall o=false)(h:aA (model X.prog X.w) A (eval o env) (λov aB=>aA (model X.prog X.w) A (sO ov n true) Q E aB) E s):
  aA (model X.prog X.w) A (eval (.Attribute o n pos) env) Q E s:=by
 rw[amE,LY hb]
 exact aG (mo h λo aB bJ=>aG (lB (aG (dN (mo bJ λr s₂ h₂=>aG (TU (aQ h₂)))))))
def Xw{f:Nat}{v:ay}(hm:m.v=true)(hf:nI f=ab x)(hg:d4 x=ab v)(hn:iW x=true)(hk:c.names.lookup x=ab .globalImplicit)(hs:es.all notStar=true)(h1:Gd a .chain c es):Gd (.call f a) m c [.Call (.Name x p) es [] pos]:=λH z z z z z z at_ e=>by
 refine aO e λtx e1 ea=>kH ea λl q ez=>?_
 clear e ea
 subst q
 exact fQ at_ hm (λE=>jy (jw at_ hg hk (iX hn).1 (H.fns f x v hf hg _ _ _ pos _ l _ E at_.ra at_.wd at_.ng (jx _ pos hs) ez λE=>h1 H at_ e1 l rfl pos E))) λz=>rfl
def Xx{f:Nat}{u:Pos}{o':Ex}(hm:m.v=true)(hf:tE f=ab n)(hl:u.endLine=pos.line)(hz:es.length<20)(hb:isCall y=false)(hs:es.all notStar=true)(h1:Gd o' .val c [y])(h2:Gd a .chain c es):Gd (.bE f o' a) m c [.Call (.Attribute y n u) es [] pos]:=λH z z z z z z at_ e=>by
 refine aO e λtx e1 ea=>aO ea λtl e2 eb=>kH eb λl q ez=>?_
 clear e ea eb
 subst q
 refine fQ at_ hm (λE=>vO hb hl hz hs (vl (h1 H at_ e1) λov aB k₁ bD=>?_)) λz=>rfl
 have a1:=at_.kp k₁
 exact mo (H.yz f n hf _ _ aB pos _ _ tx ov l _ E a1.ra a1.wd a1.ng bD (jx _ pos hs) ez λs₂ k₂ E=>h2 H (a1.kp k₂) e2 l rfl pos E) λfx s₂ nT=>mo nT λv aX oX=>⟨k₁.trans oX.1,oX.2⟩
def Xy{i:Nat}(hm:m.v=true)(hb:isCall y=false)(h1:Gd a .val c [y]):Gd (.attr a i) m c [.Attribute y (oN i) p]:=λH z z z z z z at_ e=>by
 refine aO e λtx e1 e=>fQ at_ hm (λE=>BC hb (vl (h1 H at_ e1) λov aB k₁ bD=>?_)) λz=>rfl
 have a1:=at_.kp k₁
 exact H.nR i _ _ aB tx ov _ _ E a1.wd a1.ng bD e λs' v k' hv=>⟨k₁.trans k',hv⟩
def Xz{p':Prim}(hm:m.v=true)(hg:qX c x (tK p').1 (tK p').2)(hs:es.all notStar=true)(h1:Gd a .chain c es):Gd (.prim p' a) m c [.Call (.Name x p) es [] pos]:=λ{C k}H A env N r s t at_ e=>by
 refine aO e λtx e1 ea=>kH ea λl q ez=>?_
 clear e ea
 subst q
 have hp:=jx env pos hs
 refine fQ at_ hm (λE=>jy (jw at_ hg.2.1 hg.2.2.2 (iX hg.2.2.1).1 ?_)) λz=>rfl
 have args:aA (model C.X.prog C.X.w) A (pw (mz pos (jT es env))) (λvs aB=>aA (model C.X.prog C.X.w) A (call (tK p').2 vs) (Res C.X N s t) E aB) E s:=
  cl (h1 H at_ e1) λvs aB k₁ bD=>mo (Xo ((at_.kp k₁).ra.mono (dP _)) (at_.kp k₁).ng ez bD) λv s₂ nT=>⟨k₁.trans nT.1,nT.2⟩
 cases p'<;>first|exact xC hp (ie hp args)|exact qq hp (ie hp args)
def XA{p':SM}{u:Pos}{o':Ex}(hm:m.v=true)(hl:u.endLine=pos.line)(hz:es.length<20)(hb:isCall y=false)(hs:es.all notStar=true)(h1:Gd o' .bor c [y])(h2:Gd a .chain c es):Gd (.sm p' o' a) m c [.Call (.Attribute y (Ek p') u) es [] pos]:=λ{C k}H A env N r s t at_ e=>by
 refine aO e λtx e1 ea=>aO ea λtl e2 eb=>kH eb λl q ez=>?_
 clear e ea eb
 subst q
 refine fQ at_ hm (λE=>vO hb hl hz hs (bl (h1 H at_ e1) λov aB k₁ bD=>?_)) λz=>rfl
 have a1:=at_.kp k₁
 have nW:=jx env pos hs
 cases Xt ez bD with|mk pa sl ty hT hd go=>
 refine Dy hT pa sl ty hd (xC nW (ie nW (cl (h2 H a1 e2) λvs s₂ k₂ ic=>?_)))
 have a2:=a1.kp k₂
 exact mo (go A s₂ vs E (a2.ra.mono (dP _)) a2.ng (bD.kp a1.ng k₂ a1.apart) ic) λv aX oX=>⟨(k₁.trans k₂).trans oX.1,oX.2⟩
def fits{z:Int}(h1: -3000000<=z)(h2:z<=3000000):Uc z=true:=by
 unfold Uc
 exact il.mpr ⟨ar (dn (by decide) h1),ar (by first|exact Tw h2 (by decide)|exact dn h2 (by decide))⟩
def XB{m n:Int}(h1: -1000000<=m)(h3:n<=1000000)(h4:m<=1000000)(h5: -1000000<=n):eP.Range.small m n 1=true:=by
 have hz:Ud m n 1=((n - m).toNat:Int):=rangeSize_nat m n
 have f:∀z:Int, -3000000<=z/\z<=3000000->Uc z=true:=λz h=>fits h.1 h.2
 unfold eP.Range.small
 simp only[f m ⟨dn (by decide) h1,dn h4 (by decide)⟩,f n ⟨dn (by decide) h5,dn h3 (by decide)⟩,f 1 (by decide),amG,AU,JX]
 refine⟨f _ (by rw[hz];exact⟨dn (by decide) (cx _),dh.mpr (Ue.mpr (dn (Int.sub_le_sub h3 h1) (by decide)))⟩),.inr ?_⟩
 rw[ah (by decide)]
 rw[show n+(1 - 1)=n from amH n]
 exact f n ⟨dn (by decide) h5,dn h3 (by decide)⟩
def LZ{iZ lY:Int}{a₀:Addr}{XC qZ bD:Tok}(h1: -1000000<=iZ)(h2:lY - iZ<=lim)(h3:lY<=1000000)(h4:iZ<=1000000)(h5: -1000000<=lY)(hr:IsRange s.heap a₀ iZ lY 1 XC qZ bD)(hh:A.handled=ae)(ng:NG X N s.heap):
  aA (model X.prog X.w) A (jR (.ref a₀)) (kJ X N (pG iZ lY) false ae s) E s:=by
 have len:(pG iZ lY).length=(lY - iZ).toNat:=by unfold pG;rw[bK,kr]
 have e:Ud iZ lY 1=((lY - iZ).toNat:Int):=rangeSize_nat iZ lY
 refine wpAny_pyIter_range hr (XB h1 h3 h4 h5) ?_
 refine⟨Kp.push,s.heap.objs.size,[s.heap.objs.size],[s.heap.objs.size],(λi h=>IsRangeIter h s.heap.objs.size (iZ+(i:Nat)*1) (((lY - iZ).toNat:Nat) - (i:Nat)) 1),_,rfl,
  It.walk hh (P:=λi v=>∃t,v=.int (iZ+i*1) t) (λA hA=>len▸Walks.range hA _ iZ 1 _) (λb hb=>pK hb λe=>e▸Bv _ _) (λb hb=>pK hb λe=>e▸vH ng) ?_ (λi h st=>⟨"range_iterator",⟨_,st,rfl⟩,by decide⟩) (λb hb=>b4.mp hb) ?_ λA s Q E st q=>wpAny_pyIter_rangeiter st q,?_,λb hb=>pK hb λe=>bO e.symm,λb hb hw=>aj hb hw⟩
 ·rw[len];exact Ue.mpr h2
 ·intro i v t h' N' hj ht keep hN
  obtain⟨u,rfl⟩:=hj
  unfold pG at ht
  rw[gL]at ht
  refine map_some ht λk e1 e2=>?_
  obtain⟨dp,e⟩:=iR.mp e1
  rw[Ug]at e
  rw[<-e2,<-e,JY]
  exact .int _ _
 ·have:=cB s.heap (o:={cls:=.type "range_iterator",data:=.fields #[jS iZ,jS (Ud iZ lY 1),jS 1]}) rfl
  rw[e]at this ⊢
  simpa [IsRangeIter] using this
def EB(hm:m=.src∨m=.ib)(h:∀b l,fe t=ab l->∀E,aA (model X.prog X.w) A (eval y env) (yy X N s b l) E s):Out X A env N s t m [y]:=by
 rcases hm with rfl|rfl
 ·exact h false
 ·exact h true
def j3(ns:notStar bg=true):jT [bg] env=[(false,eval bg env)]:=yA ns
def yC(ns:notStar bg=true)(rh:notStar mQ=true):jT [bg,mQ] env=[(false,eval bg env),(false,eval mQ env)]:=by rw[yA ns,j3 rh]
def XD(hm:m=.src∨m=.ib)(hg:qX c x (s_ "range") (.type "range"))(ns:notStar bg=true)(h1:Gd a .val c [bg]):Gd (.hY a) m c [.Call (.Name x p) [bg] [] pos]:=λH y y y y y y at_ e=>by
 refine aO e λtx e1 ea=>ff ea λn q eb=>ifs eb λhn ez=>?_
 clear e ea eb
 subst ez;subst q
 refine EB hm λb l hl E=>?_
 cases hl
 refine jy (jw at_ hg.2.1 hg.2.2.2 (iX hg.2.2.1).1 ?_)
 rw[j3 ns]
 refine qq rfl (AP (eZ (vl (h1 H at_ e1) λv aB k₁ bD=>gb ?_)))
 refine bD.eR λu=>call_range_1 ⟨ae,λy=>rfl,k₁.trans Kp.push,λA E hh=>?_⟩
 exact mo (LZ (by decide) (by rw[JZ];exact hn.2) (dn hn.2 (by decide)) (by decide) hn.1 (IsRange.new ..) hh ((at_.kp k₁).ng.kp Kp.push)) λy y z=>z.base (k₁.trans Kp.push)
def XE(hm:m=.src∨m=.ib)(hg:qX c x (s_ "range") (.type "range"))(ns:notStar bg=true)(rh:notStar mQ=true)(h1:Gd a .val c [bg])(h2:Gd b .val c [mQ]):Gd (.mN a b) m c [.Call (.Name x p) [bg,mQ] [] pos]:=λH y y y y y y at_ e=>by
 refine aO e λtx e1 ea=>ff ea λiZ q eb=>aO eb λty e2 ec=>ff ec λlY q' ed=>ifs ed λhn ez=>?_
 clear e ea eb ec ed
 subst ez;subst q;subst q'
 refine EB hm λb l hl E=>?_
 cases hl
 refine jy (jw at_ hg.2.1 hg.2.2.2 (iX hg.2.2.1).1 ?_)
 rw[yC ns rh]
 refine qq rfl (AP (eZ (vl (h1 H at_ e1) λv aB k₁ bD=>eZ (vl (h2 H (at_.kp k₁) e2) λv s₂ k₂ ic=>gb ?_))))
 refine bD.eR λu=>ic.eR λu'=>call_range_2 ⟨ae,λy=>rfl,(k₁.trans k₂).trans Kp.push,λA E hh=>?_⟩
 exact mo (LZ hn.1 hn.2.2.2.1 hn.2.2.2.2 hn.2.1 hn.2.2.1 (IsRange.new ..) hh (((at_.kp k₁).kp k₂).ng.kp Kp.push)) λy y z=>z.base ((k₁.trans k₂).trans Kp.push)
def XF(ng:NG X N s.heap){l:List T}{x D:Addr}{vs:List ay}(hh:A.handled=ae)(hl:s.heap.PlainList x vs.toArray)(hN:¬N x)(hz:l.length<=lim)(hs:aL X N s.heap l vs)
  {bJ:Heap} {tk:Nat} (hD:D=s.heap.objs.size) (yD:bJ=s.heap.push (revObj x ((vs.length:Int) - 1))):
  aA (model X.prog X.w) A (jR (.ref D)) (kJ X N l.reverse false ae s) E {s with heap:=bJ,toks:=tk}:=by
 subst yD
 have lx:x<s.heap.objs.size:=hl.elim λz e=>bw e
 have iY:x≠D:=hD▸cW lx
 have hi:(s.heap.push (revObj x ((vs.length:Int) - 1))).IsRevIter D x ((vs.length:Int) - 1):=hD▸⟨_,cB _ rfl,rfl,rfl⟩
 refine amK hi ?_
 have len:vs.toArray.size=l.reverse.length:=by rw[bU,pz,hs.length]
 refine Ej (St:=λi h=>i<=vs.toArray.size/\h.IsRevIter D x ((vs.toArray.size:Int) - 1 - (i:Int))/\h.IsList x vs.toArray) hh ng lx (λq=>hN (ng.tb _ q)) hD (λA hA=>by rw[<-len];exact Walks.listRev (prog:=X.prog) (w:=X.w) (A:=A) hA D x iY vs.toArray) (by rw[pz];exact hz) (T:="list_reverseiterator") (by decide)
  (λi h st=>st.2.1.elim λo q=>⟨o,q.1,q.2.1⟩) ⟨dP _,by simpa using hi,hl.isList.push _⟩ (.inl hN) (λi v t h' N' hj ht ED keep=>?_) λA s Q E st q=>amK st.2.1 q
 have dp:i<l.reverse.length:=(iR.mp ht).1
 obtain⟨w,e1,e2⟩:=hs.rev.get ht
 rw[List.getElem?_reverse (by rw[<-len,bU]at dp;exact dp)]at e1
 rw[bU,uX,e1]at hj;cases hj
 exact e2.move ED keep
def XG(hm:m=.src∨m=.ib)(hg:qX c x (s_ "reversed") (.type "reversed"))(ns:notStar bg=true)(h1:Gd a .val c [bg]):Gd (.Bq a) m c [.Call (.Name x p) [bg] [] pos]:=λH y y y y y y at_ e=>by
 refine aO e λtx e1 ea=>eW ea λl q ez=>?_
 clear e ea
 cases ez;subst q
 refine EB hm λb l' hl E=>?_
 cases hl
 refine jy (jw at_ hg.2.1 hg.2.2.2 (iX hg.2.2.1).1 ?_)
 rw[j3 ns]
 refine qq rfl (AP (eZ (vl (h1 H at_ e1) λv aB k₁ bD=>gb (bD.eQ λa' vs ho hN hz hs=>?_))))
 refine call_reversed_list ho.isList ⟨ae,λy=>rfl,k₁.trans Kp.push,λA E hh=>mo (XF (at_.kp k₁).ng hh ho hN hz hs rfl (by rw[bU])) λy y z=>z.base k₁⟩
end
def Ns.uniq{h:Heap}{a:Addr}{m m':Str->Option ay}(x:h.Ns a m)(y:h.Ns a m')(k:Str):m k=m' k:=by
 obtain⟨o,es,ep,e1,e2,_,e3⟩:=x
 obtain⟨o',iJ,XH,f1,f2,_,f3⟩:=y
 rw[e1]at f1;cases f1
 rw[e2]at f2;cases f2
 rw[<-e3,<-f3]
abbrev cJ(X:Kx)(env:Env)(M:Addr->Prop)(own:Str->Prop)(h:Heap):Prop:=(env.scope.kind=.function)/\(M env.locals/\∃m,h.Ns env.locals m)/\(∀x,own x->env.kindOf x=ab .local∨(env.kindOf x=ab .cell/\∃a,env.cells.lookup x=ab a/\M a/\∃v,h.IsCell a v))/\(∀x y a,env.cells.lookup x=ab a->env.cells.lookup y=ab a->x=y)/\(∀x a,env.cells.lookup x=ab a->a≠env.locals)
section
variable(h:cJ X env M own h)
def cJ.kind:=h.1
def cJ.loc:=h.2.1
def cJ.dz:=h.2.2.1
def cJ.inj:=h.2.2.2.1
def cJ.ne:=h.2.2.2.2
end
section
variable{X:Kx}{env:Env}{M:Addr->Prop}{own:Str->Prop}{s:az}{A:aM}{E:ay->az->Prop}
def IsCell.to{h h':Heap}{a:Addr}(x:∃v,h.IsCell a v)(k:∀o,h.get? a=ab o->h'.get? a=ab o):∃v,h'.IsCell a v:=x.elim λv q=>q.elim λo z=>⟨v,o,k o z.1,z.2⟩
def cJ.mv{s':az}(F:cJ X env M own s.heap)(k:∀b o,Fr env b->s.heap.get? b=ab o->s'.heap.get? b=ab o):cJ X env M own s'.heap:=
 ⟨F.kind,⟨F.loc.1,F.loc.2.elim λm hm=>⟨m,hm.at' λo e=>k _ _ (.inl rfl) e⟩⟩,λx hx=>(F.dz x hx).imp id λq=>⟨q.1,q.2.elim λa z=>⟨a,z.1,z.2.1,IsCell.to z.2.2 λo e=>k _ _ (.inr ⟨x,z.1⟩) e⟩⟩,F.inj,F.ne⟩
def BD(F:cJ X env M own s.heap){x:Str}{v:ay}(hx:own x){Q:Unit->az->Prop}
  (q:∀s' b,M b->(b=env.locals∨(env.cells.lookup x=ab b/\s'.heap.IsCell b (ab v)))->Mv X (λa=>a=b) s s'->Rd env s'.heap x v->(∀y u,y≠x->Rd env s.heap y u->Rd env s'.heap y u)->cJ X env M own s'.heap->Q () s'):
  aA (model X.prog X.w) A (xD env x v) Q E s:=by
 refine F.loc.2.elim λm hm=>?_
 rcases F.dz x hx with h|⟨h,a,e1,e2,v0,L1⟩
 ·refine fg (wpAny_storeName_local h hm (λh' hn hs hz=>?_) (by rw[F.kind];rfl))
  have kp:∀b o,b≠env.locals->s.heap.get? b=ab o->h'.get? b=ab o:=λb o hb e=>hs.extBut b o hb e
  refine q _ env.locals F.loc.1 (.inl rfl) (by obtain⟨o,es,ep,f1,f2,_⟩:=hm;exact Mv.put f1 (oP f2 rfl) kp hz) (.inl ⟨h,_,hn,by simp⟩)
   (λy u hy hu=>hu.imp (λf=>⟨f.1,f.2.elim λm' g=>⟨_,hn,by rw[ai hy,Ns.uniq hm g.1];exact g.2⟩⟩) λf=>⟨f.1,f.2.elim λb g=>⟨b,g.1,g.2.elim λo w=>⟨o,kp _ _ (F.ne _ _ g.1) w.1,w.2⟩⟩⟩)
   ⟨F.kind,⟨F.loc.1,_,hn⟩,λy hy=>(F.dz y hy).imp id λg=>⟨g.1,g.2.elim λb z=>⟨b,z.1,z.2.1,IsCell.to z.2.2 λo e=>kp _ _ (F.ne _ _ z.1) e⟩⟩,F.inj,F.ne⟩
 ·refine fg (wpAny_storeName_cell F.kind h e1 L1 λh' hc hs hz=>?_)
  have kp:∀b o,b≠a->s.heap.get? b=ab o->h'.get? b=ab o:=λb o hb e=>hs.extBut b o hb e
  have nl:env.locals≠a:=λe=>F.ne _ _ e1 e.symm
  refine q _ a e2 (.inr ⟨e1,hc⟩) (by obtain⟨o,f1,f2⟩:=L1;exact Mv.put f1 (oP f2 rfl) kp hz) (.inr ⟨.inl h,a,e1,hc⟩)
   (λy u hy hu=>hu.imp (λf=>⟨f.1,f.2.elim λm' g=>⟨m',g.1.at' λo e=>kp _ _ nl e,g.2⟩⟩) λf=>⟨f.1,f.2.elim λb g=>⟨b,g.1,g.2.elim λo w=>⟨o,kp _ _ (λe=>hy (F.inj _ _ _ g.1 (e▸e1))) w.1,w.2⟩⟩⟩)
   ⟨F.kind,⟨F.loc.1,m,hm.at' λo e=>kp _ _ nl e⟩,λy hy=>(F.dz y hy).imp id λg=>⟨g.1,g.2.elim λb z=>⟨b,z.1,z.2.1,?_⟩⟩,F.inj,F.ne⟩
  by_cases q:b=a
  ·subst q;exact⟨_,hc⟩
  ·exact IsCell.to z.2.2 λo e=>kp _ _ q e
end
def ri{env:Env}{x:Str}{a:Addr}(h:env.cells.lookup x=ab a):J0 env x=pure a:=by unfold J0;rw[h]
def XI{env:Env}(f:Str×jo->List (Str×Addr)->Sem (ForInStep (List (Str×Addr))))
  (hf:∀name kind cells,f (name,kind) cells=if kind==.free then(do let a <-J0 env name;pure (.yield ((name,a)::cells)))else pure (.yield cells))
  (names:List (Str×jo)):∀(acc:List (Str×Addr)),(∀p∈names,p.2=.free->∃a,env.cells.lookup p.1=ab a)->(∀x a,acc.lookup x=ab a->env.cells.lookup x=ab a)->
   ∃cl,forIn names acc f=pure cl/\(∀x a,cl.lookup x=ab a->env.cells.lookup x=ab a)/\(∀p∈names,p.2=.free->(cl.lookup p.1).isSome)/\(∀x,(acc.lookup x).isSome->(cl.lookup x).isSome):=by
 induction names with
 |nil=>exactλacc z ha=>⟨acc,by rw[xE],ha,λp h z=>(gM h).elim,λz h=>h⟩
 |cons p r ih=>
  intro acc hn ha
  obtain⟨name,kind⟩:=p
  by_cases q:kind=.free
  ·subst q
   obtain⟨a,e⟩:=hn (name,.free) bk rfl
   have BE:∀x b,((name,a)::acc).lookup x=ab b->env.cells.lookup x=ab b:=by
    intro x b h
    rw[cD]at h
    by_cases q:(x==name)=true
    ·rw[q]at h;cases h;rw[ao q];exact e
    ·simp only[J1]at q;rw[q]at h;exact ha x b h
   obtain⟨cl,c1,c2,c3,c4⟩:=ih ((name,a)::acc) (λp hp=>hn p (bS _ hp)) BE
   refine⟨cl,?_,c2,λp hp hk=>?_,λx h=>c4 x ?_⟩
   ·rw[xF,hf]
    rw[ah (show(g9==g9)=true from rfl),ri e]
    exact c1
   ·rcases br.mp hp with rfl|hp
    ·exact c4 _ (by rw[cD];simp)
    ·exact c3 p hp hk
   ·rw[cD];cases x==name with
    |true=>rfl
    |false=>exact h
  ·obtain⟨cl,c1,c2,c3,c4⟩:=ih acc (λp hp=>hn p (bS _ hp)) ha
   refine⟨cl,?_,c2,λp hp hk=>?_,c4⟩
   ·rw[xF,hf,ai (by simpa using q)]
    exact c1
   ·rcases br.mp hp with rfl|hp
    ·exact aj hk q
    ·exact c3 p hp hk
def XJ{env:Env}{sc:d9}(h:∀p∈sc.names,p.2=.free->∃a,env.cells.lookup p.1=ab a):
  ∃cl,oH sc env=pure cl/\(∀x a,cl.lookup x=ab a->env.cells.lookup x=ab a)/\(∀p∈sc.names,p.2=.free->(cl.lookup p.1).isSome):=by
 obtain⟨cl,c1,c2,c3,_⟩:=XI (env:=env) (λx cs=>if(x.snd==g9)=true then(do let a <-J0 env x.fst;pure (.yield ((x.fst,a)::cs)))else pure (.yield cs))
  (λz z z=>rfl) sc.names [] h (λx a h=>by cases h)
 refine⟨cl,?_,c2,c3⟩
 unfold oH
 simp only[]
 rw[c1]
 rfl
def L5(n:Nat):∀(names:List (Str×jo))(acc:List (Str×Addr)),fy n names acc=fy n names []++acc:=by
 intro names
 induction names generalizing n with
 |nil=>intro acc;rfl
 |cons p r ih=>
  intro acc
  obtain⟨x,k⟩:=p
  unfold fy
  split
  ·rw[ih (n+1) ((x,n)::acc),ih (n+1) [(x,n)],fu];rfl
  ·exact ih n acc
def EE(names:List (Str×jo)):∀(n:Nat)(acc:List (Str×Addr))(x:Str),((x,sS)∈names∨(acc.lookup x).isSome=true)->((fy n names acc).lookup x).isSome=true:=by
 induction names with
 |nil=>exactλn acc x h=>h.elim (λh=>aj h gM) id
 |cons p r ih=>
  intro n acc x h
  obtain⟨y,k⟩:=p
  unfold fy
  split
  ·refine ih _ _ x ?_
   rcases h with h|h
   ·rcases br.mp h with e|h
    ·cases e;exact .inr (by rw[cD];simp)
    ·exact .inl h
   ·refine .inr ?_
    rw[cD];cases x==y with
    |true=>rfl
    |false=>exact h
  ·rename_i hk
   refine ih _ _ x ?_
   rcases h with h|h
   ·rcases br.mp h with e|h
    ·cases e;exact aj rfl hk
    ·exact .inl h
   ·exact .inr h
def XK(names:List (Str×jo)):∀(n:Nat)(acc:List (Str×Addr))(x:Str)(a:Addr),(fy n names acc).lookup x=ab a->(x,sS)∈names∨acc.lookup x=ab a:=by
 induction names with
 |nil=>exactλn acc x a h=>.inr h
 |cons p r ih=>
  intro n acc x a h
  obtain⟨y,k⟩:=p
  unfold fy at h
  split at h
  ·rename_i hk
   have EF:k=.cell:=by simpa using hk
   subst EF
   rcases ih _ _ x a h with h|h
   ·exact .inl (bS _ h)
   ·rw[cD]at h
    cases q:x==y with
    |true=>rw[ao q];exact .inl bk
    |false=>rw[q]at h;exact .inr h
  ·rcases ih _ _ x a h with h|h
   ·exact .inl (bS _ h)
   ·exact .inr h
section
variable{M:my}{A:aM}{E:ay->az->Prop}{s:az}
noncomputable def compEnv(sc:d9)(cl:List (Str×Addr))(C:Addr)(env:Env):Env:=
 {scope:=sc,locals:=C,globals:=env.globals,cells:=fy (C+1) sc.names cl,qual:=env.qual,func:=ae,code:=env.code,frame:=env.frame,builtins:=env.builtins}
def XM{sc:d9}{env:Env}{cl:List (Str×Addr)}{Q:Env->az->Prop}
  (hQ:Q (compEnv sc cl s.heap.objs.size env) {s with heap:=sT (s.heap.push {cls:=.type "dict",data:=.dict #[]}) sc.names}):
  aA M A (Uh sc env.globals cl [] env.qual ae .none (ab env)) Q E s:=by
 simp only[Uh,Option.isSome_some,if_true]
 refine aG (wpAny_alloc ?_)
 refine aG (wpAny_layCells _ (λname kind cells=>by cases XN:kind==sS<;>simp [XN]) _ _ _ _ ?_)
 rw[show({s with heap:=s.heap.push {cls:=.type "dict",data:=.dict #[]}}:az).heap.objs.size=s.heap.objs.size+1 from fk ..]
 simp only[xE]
 exact aG (aQ (aQ hQ))
end
def EG:∀(names:List (Str×jo))(h:Heap),h.objs.size<=(sT h names).objs.size:=by
 intro names
 induction names with
 |nil=>exactλh=>bj _
 |cons p r ih=>
  intro h
  unfold sT
  split
  ·exact aD (qV _ _) (ih _)
  ·exact ih h
def lookup_mem{α:Type}:∀{l:List (Str×α)}{n:Str}{c:α},l.lookup n=ab c->(n,c)∈l:=PySem.mem_of_lookup
def EH{α:Type}(x:Str):∀(a b:List (Str×α)),(a++b).lookup x=(match a.lookup x with|some v=>ab v|none=>b.lookup x):=by
 intro a b
 induction a with
 |nil=>rfl
 |cons p r ih=>
  rw[amL,cD,cD]
  cases x==p.1 with
  |true=>rfl
  |false=>exact ih
def XO{α β:Type}(f:Str->α->β)(x:Str):∀(l:List (Str×α)),(l.map λp=>(p.1,f p.1 p.2)).lookup x=(l.lookup x).map (f x):=by
 intro l
 induction l with
 |nil=>rfl
 |cons p r ih=>
  rw[qk,cD,cD]
  cases h:x==p.1 with
  |true=>exact af ab (af (λz=>f z p.2) (ao h).symm)
  |false=>exact ih
def XP(P:Str->Bool)(x:Str)(l:List (Str×jo)):(l.map λ(n,k)=>if(k==.free&&P n)then(n,sS)else(n,k)).lookup x=(l.lookup x).map λk=>if(k==.free&&P x)then .cell else k:=by
 rw[<-XO (λn k=>if(k==g9&&P n)=true then sS else k) x l]
 congr 1
 apply sU
 intro p _
 obtain⟨n,k⟩:=p
 by_cases q:(k==g9&&P n)=true
 ·simp only[q,if_true]
 ·simp only[q];rfl
def XQ(g:Str->Option Nat)(x:Str)(l:List (Str×jo))(i:Nat)(h:(l.filterMap λp=>if p.2==.free then(g p.1).map (p.1,·)else ae).lookup x=ab i):(x,g9)∈l/\g x=ab i:=by
 induction l with
 |nil=>exact aN h
 |cons p r ih=>
  obtain⟨n,k⟩:=p
  rw[J2]at h
  by_cases q:k=.free
  ·subst q
   simp only[ax,if_true]at h
   cases hg:g n with
   |none=>
    rw[hg]at h
    obtain⟨a,b⟩:=ih h
    exact⟨bS _ a,b⟩
   |some j=>
    rw[hg]at h
    simp only[AO]at h
    rw[cD]at h
    cases hx:x==n with
    |true=>
     rw[hx]at h;cases h
     have:=ao hx;subst this
     exact⟨bk,hg⟩
    |false=>
     rw[hx]at h
     obtain⟨a,b⟩:=ih h
     exact⟨bS _ a,b⟩
  ·have:(k==g9)=false:=by simpa using q
   simp only[this,pA,if_false]at h
   obtain⟨a,b⟩:=ih h
   exact⟨bS _ a,b⟩
abbrev gm(c:Sc)(sc:d9)(ts:List (Str×Nat))(c':Sc):Prop:=(sc.kind=.function)/\(c'.names=sc.names.map λ(n,k)=>if(k==.free&&c.names.lookup n==ab .cell)then(n,.cell)else(n,k))/\(∀x∈sc.names,x.2=.local->sc.names.lookup x.1=ab .local)/\(∀x,(x,sS)∈sc.names->(ts.lookup x).isSome=true/\sc.names.lookup x=ab .cell)/\(∀x,(x,g9)∈sc.names->(∃i,c.slots.lookup x=ab i)/\(c.names.lookup x=ab .cell∨c.names.lookup x=ab .free)/\ts.lookup x=ae/\sc.names.lookup x=ab .free)/\(∀x i,ts.lookup x=ab i->sc.names.lookup x=ab .local∨sc.names.lookup x=ab .cell)/\(∀x i,c'.slots.lookup x=ab i->ts.lookup x=ab i∨(ts.lookup x=ae/\(x,g9)∈sc.names/\c.slots.lookup x=ab i))/\(∀x i,c.slots.lookup x=ab i->∀p∈ts,i≠p.2)/\c'.own=c.own/\(∀p∈ts,c.own.contains p.2=false)/\(ts.map (·.1)).Nodup/\(ts.map (·.2)).Nodup
section
variable(h:gm c sc ts c')
def gm.kind:=h.1
def gm.names:=h.2.1
def gm.XR:=h.2.2.1
def gm.cell:=h.2.2.2.1
def gm.free:=h.2.2.2.2.1
def gm.XS:=h.2.2.2.2.2.1
def gm.slot:=h.2.2.2.2.2.2.1
def gm.apart:=h.2.2.2.2.2.2.2.1
def gm.own:=h.2.2.2.2.2.2.2.2.1
def gm.XT:=h.2.2.2.2.2.2.2.2.2.1
def gm.nd:=h.2.2.2.2.2.2.2.2.2.2.1
def gm.cL:=h.2.2.2.2.2.2.2.2.2.2.2
end
def band{a b:Bool}{P:Prop}(h:(a&&b)=true)(k:a=true->b=true->P):P:=k (il.mp h).1 (il.mp h).2
def bor{a b:Bool}{P:Prop}(h:(a||b)=true)(k:a=true->P)(k':b=true->P):P:=(JE.mp h).elim k k'
def EI{c:Sc}{sc:d9}{ts:List (Str×Nat)}{c':Sc}(h:qW c sc ts=ab c'):gm c sc ts c':=by
 unfold qW at h
 refine ifs h λhc e=>band hc λhc h7=>band hc λhc h6=>band hc λhc h5=>band hc λhc h4=>band hc λhc h3=>band hc λh1 h2=>?_
 subst e
 have h2:=bA.mp h2
 refine⟨aq h1,rfl,λx hx hl=>?_,λx hx=>band (h2 _ hx) λa b=>⟨a,ao b⟩,λx hx=>?_,λx i hx=>bor (bA.mp h3 _ (lookup_mem hx)) (λq=>.inl (ao q)) λq=>.inr (ao q),λx i hx=>?_,
  λx i hx p hp=>?_,rfl,λp hp=>by simpa using bA.mp h7 p hp,aq h4,aq h5⟩
 ·obtain⟨n,kk⟩:=x
  cases hl
  exact band (h2 _ hx) λy q=>ao q
 ·exact band (h2 _ hx) λq e=>band q λq d=>band q λa b=>⟨mC.mp a,bor b (λq=>.inl (ao q)) (λq=>.inr (ao q)),by simpa using d,ao e⟩
 ·rw[EH]at hx
  cases q:ts.lookup x with
  |some j=>rw[q]at hx;cases hx;exact .inl rfl
  |none=>
   rw[q]at hx
   have z:=XQ (λn=>c.slots.lookup n) x sc.names i hx
   exact .inr ⟨rfl,z.1,z.2⟩
 ·have:=bA.mp (bA.mp h6 p hp) _ (lookup_mem hx)
  simpa using this
abbrev kL(env aU:Env)(c:Sc)(sc:d9)(ts:List (Str×Nat))(c':Sc)(lo:Nat):Prop:=(aU.scope.kind=.function)/\aU.scope.names=c'.names/\aU.globals=env.globals/\aU.builtins=env.builtins/\lo<=aU.locals/\(∀x,(x,g9)∈sc.names->aU.cells.lookup x=env.cells.lookup x)/\(∀x,aU.kindOf x=ab .cell∨aU.kindOf x=ab .free->∃a,aU.cells.lookup x=ab a)/\(∀x a,aU.cells.lookup x=ab a->env.cells.lookup x=ab a∨((x,sS)∈sc.names/\lo<=a))/\(∀x y a,aU.cells.lookup x=ab a->aU.cells.lookup y=ab a->x=y)/\(∀x a,aU.cells.lookup x=ab a->a≠aU.locals)
section
variable{lo:Nat}(h:kL env aU c sc ts c' lo)
def kL.kind:=h.1
def kL.names:=h.2.1
def kL.globals:=h.2.2.1
def kL.builtins:=h.2.2.2.1
def kL.loc:=h.2.2.2.2.1
def kL.free:=h.2.2.2.2.2.1
def kL.has:=h.2.2.2.2.2.2.1
def kL.cells:=h.2.2.2.2.2.2.2.1
def kL.inj:=h.2.2.2.2.2.2.2.2.1
def kL.ne:=h.2.2.2.2.2.2.2.2.2
end
def yE{c:Sc}{sc:d9}{ts:List (Str×Nat)}{c':Sc}(H:gm c sc ts c')(x:Str):c'.names.lookup x=(sc.names.lookup x).map λk=>if(k==.free&&c.names.lookup x==ab .cell)then .cell else k:=by
 rw[H.names]
 exact XP (λn=>c.names.lookup n==ab .cell) x sc.names
section
variable{X:Kx}{k:Nat}{A:aM}{env aU:Env}{c c':Sc}{sc:d9}{ts:List (Str×Nat)}{N N' M':Addr->Prop}{r r':aE}{aP s':az}{lo:Nat}
def XU(a:At X k A env c N r aP)(H:gm c sc ts c')(e:kL env aU c sc ts c' lo)(kp:Kp X aP s')(F:cJ X aU M' (λx=>(ts.lookup x).isSome=true) s'.heap)(ng:NG X N' s'.heap)
  (hN:∀b,N' b->N b∨aP.heap.objs.size<=b) (BF:aP.heap.objs.size<=lo)
  (ht:∀x i t,ts.lookup x=ab i->get r' i=ab t->∃v,Rd aU s'.heap x v/\VR X N' s'.heap t v)
  (hr:∀i,(∀p∈ts,i≠p.2)->get r' i=get r i):At X k A aU c' N' r' s':=by
 have a':=a.kp kp
 have L7:∀b,aP.heap.objs.size<=b->b∉aV:=λb hb q=>bx (a.ng.lt b (a.ng.tb b q)) hb
 refine⟨⟨e.kind,e.names,e.globals.trans a.ec.globals,e.builtins.trans a.ec.builtins,L7 _ (aD BF e.loc),λx b hb=>(e.cells x b hb).elim (a.ec.jv x b) λq=>L7 _ (aD BF q.2),e.has,λx b hb=>⟨?_,e.ne x b hb⟩,e.inj,λx i t h1 h2=>?_⟩,a'.wd,ng,a.ra⟩
 ·refine(e.cells x b hb).elim (λq=>(a'.ec.dz x b q).1) λq=>(F.dz x (H.cell x q.1).1).elim (λg=>?_) λg=>g.2.elim λb' g=>Option.some.inj (hb.symm.trans g.1)▸g.2.2
  have h1:=yE H x
  rw[(H.cell x q.1).2,<-e.names,show aU.scope.names.lookup x=ab .local from g]at h1
  cases h1
 ·rcases H.slot x i h1 with q|⟨_,q1,q2⟩
  ·have z:=ht x i t q h2
   rw[H.own,H.XT (x,i) (lookup_mem q)]
   exact z
  ·rw[hr i (H.apart x i q2)]at h2
   obtain⟨v,g1,g2⟩:=a.ec.rd x i t q2 h2
   obtain⟨_,hk,_,hl⟩:=H.free x q1
   have kc:env.kindOf x=ab .cell∨env.kindOf x=ab .free:=by unfold qi;rw[a.ec.names];exact hk
   have XW:aU.kindOf x=ab .cell∨aU.kindOf x=ab .free:=by
    unfold qi
    rw[e.names,yE H x,hl,AO]
    split
    ·exact .inl rfl
    ·exact .inr rfl
   have keep:=kp.kc a.ng.tb
   refine⟨v,.inr ⟨XW,?_⟩,H.own▸g2.map (λx=>x.move hN keep λb o T c e=>kp.old b o (mI a.apart e c) e) λx=>x.move hN keep⟩
   rcases g1 with⟨g,_⟩|⟨g,b,g2,o,g3,g4⟩
   ·exact aj (kc.elim (λq=>(g.symm.trans q:ab jo.local=ab .cell)) λq=>nomatch g.symm.trans q) nofun
   ·exact⟨b,(e.free x q1).trans g2,o,kp.old _ _ (a.ec.jv _ _ g2) g3,g4⟩
end
def XX{X:Kx}{k:Nat}{A:aM}{env:Env}{c c':Sc}{sc:d9}{ts:List (Str×Nat)}{N:Addr->Prop}{r:aE}{aP:az}(a:At X k A env c N r aP)(H:gm c sc ts c')
  {cl:List (Str×Addr)} (c2:∀x b,cl.lookup x=ab b->env.cells.lookup x=ab b) (c3:∀p∈sc.names,p.2=.free->(cl.lookup p.1).isSome=true) {h:Heap} (hz:aP.heap.objs.size<=h.objs.size)
  {bJ:Heap} (hh:bJ=sT (h.push {cls:=.type "dict",data:=.dict #[]}) sc.names):
  kL env {compEnv sc cl h.objs.size env with scope:=xG sc env} c sc ts c' h.objs.size/\
  cJ X {compEnv sc cl h.objs.size env with scope:=xG sc env} (λb=>h.objs.size<=b/\b<bJ.objs.size) (λx=>(ts.lookup x).isSome=true) bJ/\(∀b o,h.get? b=ab o->bJ.get? b=ab o):=by
 subst hh
 have ok:=cellsFrom_ok sc.names (h.push {cls:=.type "dict",data:=.dict #[]}) (h.objs.size+1) [] ⟨λw w hm=>(nomatch hm),amN⟩ (by rw[fk];exact bj _)
 rw[fk]at ok
 have ec:∀x,(fy (h.objs.size+1) sc.names cl).lookup x=(match(fy (h.objs.size+1) sc.names []).lookup x with|some v=>ab v|none=>cl.lookup x):=λx=>by rw[L5,EH];cases (fy (h.objs.size+1) sc.names []).lookup x<;>rfl
 have own:∀x b,(fy (h.objs.size+1) sc.names []).lookup x=ab b->(x,sS)∈sc.names:=λx b e=>(XK _ _ _ _ _ e).elim id λq=>by cases q
 have old:∀x b,env.cells.lookup x=ab b->b<h.objs.size:=λx b e=>by obtain⟨⟨v,o,e1,_⟩,_⟩:=a.ec.dz x b e;exact bG (bw e1) hz
 have nm:(xG sc env).names=c'.names:=by
  rw[H.names]
  unfold xG
  simp only[]
  apply sU
  intro p _
  obtain⟨n,kk⟩:=p
  have:env.kindOf n=c.names.lookup n:=by unfold qi;rw[a.ec.names]
  simp only[this,a.ec.kind]
  simp
 have keep:∀b o,h.get? b=ab o->(sT (h.push {cls:=.type "dict",data:=.dict #[]}) sc.names).get? b=ab o:=λb o e=>amO _ _ _ _ (cS _ e)
 have gn:∀x b,(fy (h.objs.size+1) sc.names cl).lookup x=ab b->(env.cells.lookup x=ab b/\b<h.objs.size)∨((fy (h.objs.size+1) sc.names []).lookup x=ab b/\h.objs.size+1<=b):=λx b e=>by
  rw[ec]at e
  split at e
  ·rename_i q;cases e;exact .inr ⟨q,(ok.empty x b (lookup_mem q)).2⟩
  ·exact .inl ⟨c2 x b e,old x b (c2 x b e)⟩
 have inj:∀x y b,(fy (h.objs.size+1) sc.names cl).lookup x=ab b->(fy (h.objs.size+1) sc.names cl).lookup y=ab b->x=y:=λx y b e1 e2=>by
  rcases gn x b e1 with⟨p1,p2⟩|⟨p1,p2⟩<;>rcases gn y b e2 with⟨q1,q2⟩|⟨q1,q2⟩
  ·exact a.ec.inj x y b p1 q1
  ·exact(eY _ (qg (J3 q2) p2)).elim
  ·exact(eY _ (qg (J3 p2) q2)).elim
  ·exact name_of_addr ok.apart (lookup_mem p1) (lookup_mem q1)
 have ne:∀x b,(fy (h.objs.size+1) sc.names cl).lookup x=ab b->b≠h.objs.size:=λx b e=>by
  rcases gn x b e with⟨_,q⟩|⟨_,q⟩
  ·exact cW q
  ·exact iS (J3 q)
 have frees:∀x,(x,g9)∈sc.names->(fy (h.objs.size+1) sc.names []).lookup x=ae:=λx hx=>by
  cases q:(fy (h.objs.size+1) sc.names []).lookup x with
  |none=>rfl
  |some b=>
   have h1:=(H.cell x (own x b q)).2
   have h2:=(H.free x hx).2.2.2
   rw[h1]at h2;cases h2
 refine⟨⟨H.kind,nm,rfl,rfl,bj _,λx hx=>?_,λx hx=>?_,λx b e=>?_,inj,ne⟩,⟨H.kind,⟨⟨bj _,?_⟩,_,(Heap.Ns.new h (.type "dict")).keeps (amO _ _)⟩,λx hx=>?_,inj,ne⟩,keep⟩
 ·show(fy (h.objs.size+1) sc.names cl).lookup x=_
  rw[ec,frees x hx]
  obtain⟨b,e⟩:=mC.mp (c3 (x,.free) hx rfl)
  rw[e,c2 x b e]
 ·have nX:c'.names.lookup x=ab .cell∨c'.names.lookup x=ab .free:=by
   have:∀q,qi {compEnv sc cl h.objs.size env with scope:=xG sc env} x=q->c'.names.lookup x=q:=λq e=>by rw[<-nm];exact e
   exact hx.imp (this _) (this _)
  show∃b,(fy (h.objs.size+1) sc.names cl).lookup x=ab b
  rw[yE H x]at nX
  cases q:sc.names.lookup x with
  |none=>rw[q]at nX;rcases nX with z|z<;>cases z
  |some kk=>
   rw[q]at nX
   have m:=lookup_mem q
   have:kk=.cell∨kk=.free:=by
    simp only[AO,auE]at nX
    by_cases f:kk=.free
    ·exact .inr f
    ·have:(kk==g9)=false:=by simpa using f
     simp only[this,J4,pA,if_false]at nX
     exact nX
   rcases this with rfl|rfl
   ·exact mC.mp (EE _ _ _ _ (.inl m))
   ·rw[ec,frees x m]
    exact mC.mp (c3 _ m rfl)
 ·rcases gn x b e with⟨q,_⟩|⟨q,z⟩
  ·exact .inl q
  ·exact .inr ⟨own x b q,oF z⟩
 ·exact bG (by rw[fk];exact iq _) (EG _ _)
 ·obtain⟨i,hi⟩:=mC.mp hx
  have kd:∀q,c'.names.lookup x=q->qi {compEnv sc cl h.objs.size env with scope:=xG sc env} x=q:=λq e=>by rw[<-nm]at e;exact e
  rcases H.XS x i hi with q|q
  ·exact .inl (kd _ (by rw[yE H x,q];rfl))
  ·refine .inr ⟨kd _ (by rw[yE H x,q];rfl),?_⟩
   obtain⟨b,hb⟩:=mC.mp (EE sc.names (h.objs.size+1) [] x (.inl (lookup_mem q)))
   obtain⟨ce,lo⟩:=ok.empty x b (lookup_mem hb)
   refine⟨b,?_,⟨oF lo,?_⟩,_,ce⟩
   ·show(fy (h.objs.size+1) sc.names cl).lookup x=ab b
    rw[ec,hb]
   ·obtain⟨o,e,_⟩:=ce;exact bw e
section
variable{prog:gK}{w:gZ}{A:aM}{E:ay->az->Prop}{R:oI->az->Prop}
noncomputable def BG(ifs:List Expr)(env:Env):Sem Bool:=forIn ifs true λc r=>if r=true then do let ok <-xx c env (eval c env);pure (amQ ok)else pure (amQ r)
def XY{elt target iter:Expr}{ifs:List Expr}{scope:d9}{pos:Pos}{it acc:ay}{env:Env}(I:Nat->az->Prop)
  (turn:∀n s(E:ay->az->Prop),I n s->aA (model prog w) A (iQ it) (λr aB=>match r with
   |none=>R (.ok .next) aB
   |some v=>aA (model prog w) A (lA target it v) (λz jz=>aA (model prog w) A (assign target env v) (λz s₂=>
     aA (model prog w) A (BG ifs env) (λok aX=>
      if ok=true then aA (model prog w) A (eval elt env) (λx aS=>
       aA (model prog w) A (call (.builtin "list.append") [acc,x]) (λz dC=>∃m,m<n/\I m dC) E aS) E aX
      else∃m,m<n/\I m aX) E s₂) E jz) E aB) E s)
  (n:Nat) {s:az} (h:I n s):
  gN (model prog w) A (.compLoop (.ListComp elt [⟨target,iter,ifs,0⟩] scope pos) 0 it acc env) R s:=by
 refine Uj rfl I (λn s hI=>?_) n h
 show aA _ A ((Dz (.ListComp elt [⟨target,iter,ifs,0⟩] scope pos) 0 it acc env).onRaise (λx=>do J5 x env;Uk x)) _ _ s
 refine Um ?_
 rw[compTurn_list]
 refine aG (lB (aG (eF (turn n s _ hI) (λr aB bJ=>?_) λz z h'=>h')))
 cases r with
 |none=>exact aQ bJ
 |some v=>
  refine aG (eF bJ (λz jz yF=>?_) λz z h'=>h')
  refine aG (eF yF (λz s₂ h₂=>aG (eF h₂ (λok aX j1=>?_) λz z h'=>h')) λz z h'=>h')
  cases ok with
  |false=>exact aQ ⟨rfl,j1⟩
  |true=>
   exact aG (aG (eF j1 (λx aS yG=>aG (eF yG (λz dC vP=>aQ (aQ ⟨rfl,vP⟩)) λz z h'=>h')) λz z h'=>h'))
def XZ(elt t0 i0 target iter:Expr)(scope:d9)(pos:Pos)(it acc:ay)(env:Env):
  Dz (.ListComp elt [⟨t0,i0,[],0⟩,⟨target,iter,[],0⟩] scope pos) 1 it acc env=(do
   xy iter.pos
   match<-iQ it with
   |none=>pure (.done .next)
   |some v=>
    lA target it v
    assign target env v
    let mut ok:=true
    for c in([]:List Expr) do
     if ok then ok <-xx c env (eval c env)
    if ok then
     (do let _ <-call (.builtin "list.append") [acc,<-eval elt env])
    again (.compLoop (.ListComp elt [⟨t0,i0,[],0⟩,⟨target,iter,[],0⟩] scope pos) 1 it acc env)):=by rfl
def X0(elt t0 i0 target iter:Expr)(scope:d9)(pos:Pos)(it acc:ay)(env:Env):
  Dz (.ListComp elt [⟨t0,i0,[],0⟩,⟨target,iter,[],0⟩] scope pos) 0 it acc env=(do
   xy i0.pos
   match<-iQ it with
   |none=>pure (.done .next)
   |some v=>
    lA t0 it v
    assign t0 env v
    let mut ok:=true
    for c in([]:List Expr) do
     if ok then ok <-xx c env (eval c env)
    if ok then
     let x <-eval iter env
     xy iter.pos
     let x <-Uo iter env x
     let _ <-runOwn (.compStart (.ListComp elt [⟨t0,i0,[],0⟩,⟨target,iter,[],0⟩] scope pos) 1 (<-JM [x] (jR x)) acc env) env
    again (.compLoop (.ListComp elt [⟨t0,i0,[],0⟩,⟨target,iter,[],0⟩] scope pos) 0 it acc env)):=by rfl
def X1{elt t0 i0 target iter:Expr}{scope:d9}{pos:Pos}{it acc:ay}{env:Env}(I:Nat->az->Prop)
  (turn:∀n s(E:ay->az->Prop),I n s->aA (model prog w) A (iQ it) (λr aB=>match r with
   |none=>R (.ok .next) aB
   |some v=>aA (model prog w) A (lA target it v) (λz jz=>aA (model prog w) A (assign target env v) (λz s₂=>
     aA (model prog w) A (BG [] env) (λok aX=>
      if ok=true then aA (model prog w) A (eval elt env) (λx aS=>
       aA (model prog w) A (call (.builtin "list.append") [acc,x]) (λz dC=>∃m,m<n/\I m dC) E aS) E aX
      else∃m,m<n/\I m aX) E s₂) E jz) E aB) E s)
  (n:Nat) {s:az} (h:I n s):
  gN (model prog w) A (.compLoop (.ListComp elt [⟨t0,i0,[],0⟩,⟨target,iter,[],0⟩] scope pos) 1 it acc env) R s:=by
 refine Uj rfl I (λn s hI=>?_) n h
 show aA _ A ((Dz (.ListComp elt [⟨t0,i0,[],0⟩,⟨target,iter,[],0⟩] scope pos) 1 it acc env).onRaise (λx=>do J5 x env;Uk x)) _ _ s
 refine Um ?_
 rw[XZ]
 refine aG (lB (aG (eF (turn n s _ hI) (λr aB bJ=>?_) λz z h'=>h')))
 cases r with
 |none=>exact aQ bJ
 |some v=>
  refine aG (eF bJ (λz jz yF=>?_) λz z h'=>h')
  refine aG (eF yF (λz s₂ h₂=>aG (eF h₂ (λok aX j1=>?_) λz z h'=>h')) λz z h'=>h')
  cases ok with
  |false=>exact aQ ⟨rfl,j1⟩
  |true=>exact aG (aG (eF j1 (λx aS yG=>aG (eF yG (λz dC vP=>aQ (aQ ⟨rfl,vP⟩)) λz z h'=>h')) λz z h'=>h'))
def X2{elt t0 i0 target iter:Expr}{scope:d9}{pos:Pos}{it acc:ay}{env:Env}{s:az}
  (h0:gN (model prog w) A (.compLoop (.ListComp elt [⟨t0,i0,[],0⟩,⟨target,iter,[],0⟩] scope pos) 1 it acc env) R s)
  (h:∀E,aA (model prog w) A (jR it) (λyH s'=>gN (model prog w) A (.compLoop (.ListComp elt [⟨t0,i0,[],0⟩,⟨target,iter,[],0⟩] scope pos) 1 yH acc env) R s') E s):
  gN (model prog w) A (.compStart (.ListComp elt [⟨t0,i0,[],0⟩,⟨target,iter,[],0⟩] scope pos) 1 it acc env) R s:=by
 refine Up ?_
 show aA _ _ ((compStart (.ListComp elt [⟨t0,i0,[],0⟩,⟨target,iter,[],0⟩] scope pos) 1 it acc env).onRaise (λx=>do J5 x env;xy theWindowsPlace)) _ _ s
 refine wpAny_notedAt ?_
 unfold compStart
 show aA _ _ (ask>>=_) _ _ s
 refine aG (amS (wpAny_ite ?_))
 split
 ·exact aG (aQ (aQ (And.intro rfl h0)))
 ·refine aG (DA ?_)
  show aA _ _ (xy iter.pos>>=_) _ _ s
  exact aG (lB (aG (eF (h _) (λyH s' h'=>aQ (And.intro rfl h')) λz z x=>x)))
def X3{elt t0 i0 target iter:Expr}{scope:d9}{pos:Pos}{it acc:ay}{env:Env}(hf:∀x,Uo iter env x=pure x)(I:Nat->az->Prop)
  (turn:∀n s(E:ay->az->Prop),I n s->aA (model prog w) A (iQ it) (λr aB=>match r with
   |none=>R (.ok .next) aB
   |some v=>aA (model prog w) A (lA t0 it v) (λz jz=>aA (model prog w) A (assign t0 env v) (λz s₂=>
     aA (model prog w) A (eval iter env) (λx aX=>aA (model prog w) A (jR x) (λyH aS=>
      ∀(E':ay->az->Prop),gN (model prog w) (A.mark ae) (.compStart (.ListComp elt [⟨t0,i0,[],0⟩,⟨target,iter,[],0⟩] scope pos) 1 yH acc env) (λr dC=>match r with|.ok _=>∃m,m<n/\I m dC|.error e=>E' e dC) aS) E aX) E s₂) E jz) E aB) E s)
  (n:Nat) {s:az} (h:I n s):
  gN (model prog w) A (.compLoop (.ListComp elt [⟨t0,i0,[],0⟩,⟨target,iter,[],0⟩] scope pos) 0 it acc env) R s:=by
 refine Uj rfl I (λn s hI=>?_) n h
 show aA _ A ((Dz (.ListComp elt [⟨t0,i0,[],0⟩,⟨target,iter,[],0⟩] scope pos) 0 it acc env).onRaise (λx=>do J5 x env;Uk x)) _ _ s
 refine Um ?_
 rw[X0]
 refine aG (lB (aG (eF (turn n s _ hI) (λr aB bJ=>?_) λz z h'=>h')))
 cases r with
 |none=>exact aQ bJ
 |some v=>
  refine aG (eF bJ (λz jz yF=>?_) λz z h'=>h')
  refine aG (eF yF (λz s₂ h₂=>aG (amT ?_)) λz z h'=>h')
  refine aG (eF h₂ (λx aX j1=>aG (lB (aG (AS (hf x) (aG (dN (eF j1 (λyH aS yG=>?_) λz z h'=>h'))))))) λz z h'=>h')
  exact aG (wpAny_runOwn (qt (yG _) λr dC vP=>by
   cases r with
   |ok f=>exact aQ ⟨rfl,vP⟩
   |error e=>exact vP))
end
def get_eq{r:aE}{i:Nat}:get r i=(r[i]?).elim ae id:=by
 induction r generalizing i with
 |nil=>rfl
 |cons x r ih=>cases i with|zero=>rfl|succ i=>exact ih
def BH{r:aE}{k:Nat}{t:T}:put r k t=r.set k (ab t):=by
 induction r generalizing k with
 |nil=>rfl
 |cons x r ih=>cases k with|zero=>rfl|succ k=>exact af (x::·) ih
def get_set{r:aE}{i j:Nat}{o:Option T}{t:T}(h:get (r.set j o) i=ab t):(i=j/\o=ab t)∨(i≠j/\get r i=ab t):=by
 by_cases q:i=j
 ·subst q
  refine .inl ⟨rfl,?_⟩
  rw[get_eq,List.getElem?_set_self']at h
  cases e:r[i]? with
  |none=>rw[e]at h;exact aN h
  |some z=>rw[e]at h;exact h
 ·refine .inr ⟨q,?_⟩
  rw[get_eq,amU (λe=>q e.symm),<-get_eq]at h
  exact h
def yI{r:aE}{i j:Nat}{t x:T}(h:get (put r j x) i=ab t):(i=j/\t=x)∨(i≠j/\get r i=ab t):=(get_set (BH▸h)).imp (λq=>⟨q.1,(Option.some.inj q.2).symm⟩) id
def X4{r:aE}{i j:Nat}{t:T}(h:get (r.set j ae) i=ab t):i≠j/\get r i=ab t:=(get_set h).elim (λq=>aN q.2) id
def EJ{r:aE}{i j:Nat}{o:Option T}(q:i≠j):get (r.set j o) i=get r i:=by rw[get_eq,get_eq,amU λe=>q e.symm]
def lZ{r:aE}{i j:Nat}{x:T}(q:i≠j):get (put r j x) i=get r i:=BH▸EJ q
def vQ{i:Nat}{ks:List Nat}:∀{xs:List T}{r r':aE},putAll r ks xs=ab r'->i∉ks->get r' i=get r i:=by
 induction ks with
 |nil=>intro xs _ _ h _;cases xs with|nil=>cases h;rfl|cons=>exact aN h
 |cons k ks ih=>
  intro xs r r' h n
  cases xs with
  |nil=>exact aN h
  |cons x xs=>exact(ih (r:=put r k x) h λq=>n (bS _ q)).trans (lZ λe=>n (by rw[e];exact bk))
def EK{i:Nat}{t:T}{ks:List Nat}:∀{xs:List T}{r r':aE}{j:Nat},putAll r ks xs=ab r'->ks.Nodup->ks[j]?=ab i->get r' i=ab t->xs[j]?=ab t:=by
 induction ks with
 |nil=>exactλz z h z=>aN h
 |cons k ks ih=>
  intro xs r r' j h nd e g
  cases xs with
  |nil=>exact aN h
  |cons x xs=>
   have cT:=hH.mp nd
   cases j with
   |zero=>
    cases e
    rw[vQ (r:=put r i x) h cT.1]at g
    exact(yI g).elim (λq=>af ab q.2.symm) λq=>aj rfl q.1
   |succ j=>exact ih (r:=put r k x) (j:=j) h cT.2 e g
def BI{ks:List Nat}:∀{xs:List T}{r r':aE},putAll r ks xs=ab r'->ks.length=xs.length:=by
 induction ks with
 |nil=>intro xs _ _ h;cases xs with|nil=>rfl|cons=>exact aN h
 |cons k ks ih=>intro xs r r' h;cases xs with|nil=>exact aN h|cons x xs=>exact af (· +1) (ih (r:=put r k x) h)
def X5{e:aW}{x:Str}(h:nameOf e=ab x):∃p,e=.Name x p:=by
 unfold nameOf at h
 split at h
 ·rename_i q
  revert h
  exact qu.elim (motive_1:=λe=>∀q:e.ctorIdx=23,qu.elim e q (λn z=>ab n)=ab x->∃p,e=.Name x p) e q (λn p z h=>⟨p,by rw[<-Option.some.inj h]⟩) q
 ·exact aN h
def X6{es:List aW}:∀{ks:List Nat}{ts:List (Str×Nat)},yx es ks=ab ts->∃ps:List (Str×Pos),es=ps.map (λp=>.Name p.1 p.2)/\ts=(ps.map (·.1)).zip ks/\ps.length=ks.length:=by
 induction es with
 |nil=>intro ks _ h;cases ks with|nil=>cases h;exact⟨[],rfl,rfl,rfl⟩|cons=>exact aN h
 |cons e es ih=>
  intro ks ts h
  cases ks with
  |nil=>exact aN h
  |cons k ks=>
   refine aO h λx e1 h=>map_some h λBJ h1 h2=>(X5 e1).elim λp e2=>(ih h1).elim λps z=>?_
   exact⟨(x,p)::ps,by rw[e2,z.1];rfl,by rw[<-h2,z.2.1];rfl,af Nat.succ z.2.2⟩
def L8(env:Env):∀(ps:List (Str×Pos)),assignEach (ps.map λp=>qu p.1 p.2) env=ps.map λp=>(false,assign (.Name p.1 p.2) env):=by
 intro ps
 induction ps with
 |nil=>rfl
 |cons p ps ih=>rw[qk,qk,<-ih];rfl
section
variable{X:Kx}{env:Env}{M N:Addr->Prop}{own:Str->Prop}{s:az}{A:aM}{E:ay->az->Prop}
structure fD(X:Kx)(env:Env)(M:Addr->Prop)(own:Str->Prop)(l:List ((Str×Pos)×ay))(s s':az):Prop where
 mv:Mv X (λb=>M b/\Fr env b) s s'
 ck:cJ X env M own s'.heap
 dz:∀x b,env.cells.lookup x=ab b->b∉aV->(∃v,s.heap.IsCell b v)->∃v,s'.heap.IsCell b v
 rd:∀e∈l,Rd env s'.heap e.1.1 e.2
 fS:∀y u,y∉l.map (·.1.1)->Rd env s.heap y u->Rd env s'.heap y u
variable{l l':List ((Str×Pos)×ay)}{s' cj:az}
def fD.keep(F:cJ X env M own s.heap){h':Heap}{tk:Nat}(k:∀b o,s.heap.get? b=ab o->h'.get? b=ab o)(z:s.heap.objs.size<=h'.objs.size):fD X env M own [] s {s with heap:=h',toks:=tk}:=
 ⟨Mv.of (Kp.of k z),F.mv λb o w e=>k b o e,λx b w w q=>IsCell.to q λo e=>k b o e,λw h=>(gM h).elim,λy u w q=>q.to λb o w e=>k b o e⟩
def fD.app(a:fD X env M own l s s')(b:fD X env M own l' s' cj)(h:∀e∈l,e.1.1∉l'.map (·.1.1)):fD X env M own (l++l') s cj:=
 ⟨a.mv.trans b.mv λw h=>.inl h,b.ck,λx d e n q=>b.dz x d e n (a.dz x d e n q),λe he=>(u7.mp he).elim (λq=>b.fS _ _ (h e q) (a.rd e q)) (b.rd e),
  λy u hy q=>by rw[mD]at hy;exact b.fS y u (λz=>hy (mE _ z)) (a.fS y u (λz=>hy (AV _ z)) q)⟩
def fD.rev(a:fD X env M own l.reverse s s'):fD X env M own l s s':=⟨a.mv,a.ck,a.dz,λe h=>a.rd e (AW.mpr h),λy u h=>a.fS y u λz=>h (by rw[qw]at z;exact AW.mp z)⟩
def fD.m(a:fD X env M own l s s'):Mv X M s s':=a.mv.sub λz h=>h.1
def EL(F:cJ X env M own s.heap){x:Str}{p:Pos}{v:ay}(hx:own x){Q:Unit->az->Prop}(q:∀s',fD X env M own [((x,p),v)] s s'->Q () s'):aA (model X.prog X.w) A (xD env x v) Q E s:=by
 refine BD F hx λs' b hb hw mv rd fS F'=>q s' ⟨mv.sub λa e=>⟨e▸hb,?_⟩,F',λy d e n q=>?_,λe he=>?_,λy u hy hu=>fS y u (λz=>hy (b4.mpr z)) hu⟩
 ·rw[e];exact hw.imp id λz=>⟨x,z.1⟩
 ·by_cases z:d=b
  ·exact hw.elim (λw=>aj (z.trans w) (F.ne y d e)) λw=>⟨_,z▸w.2⟩
  ·exact IsCell.to q λo e=>mv.old d o z n e
 ·rw[b4.mp he];exact rd
noncomputable def Run(M:my)(A:aM)(E:ay->az->Prop)(Q:Unit->az->Prop)(l:List (Sem Unit)):az->Prop:=l.foldr (λf k s=>aA M A f (λz s'=>k s') E s) (Q ())
def EM{M:my}{Q:Unit->az->Prop}:∀{l:List ((ay->Sem Unit)×ay)}{s:az},Run M A E Q (l.map λe=>e.1 e.2) s->aA M A (assignInOrder (l.map (·.1)) (l.map (·.2))) Q E s:=by
 intro l
 induction l with
 |nil=>exactλh=>aQ h
 |cons e l ih=>exactλh=>aG (dN (eF h (λy y z=>ih z) λy y z=>z))
def EO{g:Str->Pos->ay->Sem Unit}(hg:∀x p v(Q:Unit->az->Prop)(s:az),aA (model X.prog X.w) A (xD env x v) Q E s->aA (model X.prog X.w) A (g x p v) Q E s):
  ∀{l:List ((Str×Pos)×ay)}{s:az}{Q:Unit->az->Prop},cJ X env M own s.heap->(∀e∈l,own e.1.1)->(l.map (·.1.1)).Nodup->(∀s',fD X env M own l s s'->Q () s')->Run (model X.prog X.w) A E Q (l.map λe=>g e.1.1 e.1.2 e.2) s:=by
 intro l
 induction l with
 |nil=>exactλF z z q=>q _ ⟨.refl _,F,λz z z z h=>h,λz h=>(gM h).elim,λz z z h=>h⟩
 |cons e l ih=>
  intro s Q F ho nd q
  have cT:=hH.mp nd
  exact hg _ _ _ _ _ (EL F (ho e bk) λs' a=>ih a.ck (λe h=>ho e (bS _ h)) cT.2 λcj b=>q cj (a.app b λe' he=>by rw[b4.mp he];exact cT.1))
def X7{t:Addr}{items:Array ay}{Q:List ay->az->Prop}(hh:A.handled=ae)(ht:IsTup s.heap t items)
  (hQ:∀h',(∀b o,s.heap.get? b=ab o->h'.get? b=ab o)->s.heap.objs.size<=h'.objs.size->Q items.toList {s with heap:=h'}):aA (model X.prog X.w) A (xH (.ref t) items.size ae) Q E s:=
 fg (unpackItems_tuple hh ht λh' he hz=>hQ h' (λb o e=>he b o (cW (bw e)) e) hz)
def L9:∀x p v(Q:Unit->az->Prop)(s:az),aA (model X.prog X.w) A (xD env x v) Q E s->aA (model X.prog X.w) A (assign (.Name x p) env v) Q E s:=λz z z z z h=>sW h
def X8(ps:List (Str×Pos)):(ps.map λp=>(false,assign (qu p.1 p.2) env)).findIdx? (·.1)=ae:=by
 rw[amX]
 intro x hx
 obtain⟨p,_,rfl⟩:=dy.mp hx
 rfl
def EP{α β:Type}{l:List α}{m:List β}(h:l.length=m.length):(l.zip m).map (·.1)=l:=amY (bO h)
def zip2{α β:Type}{l:List α}{m:List β}(h:l.length=m.length):(l.zip m).map (·.2)=m:=amZ (bO h.symm)
def tP{α β γ:Type}{f:α->γ}{l:List α}{m:List β}(h:l.length=m.length):(l.zip m).map (λe=>f e.1)=l.map f:=by rw[<-EP (m:=m) h,fO,EP h];rfl
def BK{ps:List (Str×Pos)}{kk:Nat}{pos:Pos}{v:ay}{vs:List ay}{Q:Unit->az->Prop}(hl:ps.length=vs.length)
  (h:aA (model X.prog X.w) A (xH v vs.length ae) (λws s'=>ws=vs/\fD X env M own [] s s') E s) (ho:∀p∈ps,own p.1) (nd:(ps.map (·.1)).Nodup) (q:∀s',fD X env M own (ps.zip vs) s s'->Q () s'):
  aA (model X.prog X.w) A (assign (.Tuple (ps.map λp=>.Name p.1 p.2) kk pos) env v) Q E s:=by
 rw[assign_Tuple]
 refine aG (lB ?_)
 unfold unpack
 rw[L8,bK,X8,hl]
 refine aG (dN (eF h (λws s' z=>?_) λy y z=>z))
 rw[z.1,fO]
 have e:ps.map ((λx=>x.2)∘λp=>(false,assign (qu p.1 p.2) env))=((ps.zip vs).map λe=>((λv=>assign (qu e.1.1 e.1.2) env v),e.2)).map (·.1):=by rw[fO];exact(tP (f:=λp=>assign (qu p.1 p.2) env) hl).symm
 have e2:vs=((ps.zip vs).map λe=>((λv=>assign (qu e.1.1 e.1.2) env v),e.2)).map (·.2):=by rw[fO];exact(zip2 hl).symm
 rw[e]
 conv=>arg 3;arg 2;rw[e2]
 refine EM ?_
 rw[fO]
 exact EO (g:=λx p v=>assign (.Name x p) env v) L9 z.2.ck (λe he=>ho e.1 (sX he).1) (by rw[show((ps.zip vs).map λe=>e.1.1)=ps.map (·.1)from tP hl];exact nd) λcj b=>q cj (z.2.app b λy h=>(gM h).elim)
def vR{vs:List ay}{a:Addr}(hh:A.handled=ae)(F:cJ X env M own s.heap)(hp:IsTup s.heap a vs.toArray):aA (model X.prog X.w) A (xH (.ref a) vs.length ae) (λws s'=>ws=vs/\fD X env M own [] s s') E s:=by
 have e:vs.toArray.size=vs.length:=bU ..
 rw[<-e]
 exact X7 hh hp λh' k z=>⟨rfl,fD.keep F k z⟩
inductive LstAt(X:Kx)(N:Addr->Prop)(h:Heap)(us:List T)(D:Addr):Prop
 |mk {ys} (pl:h.PlainList D (oE ys)) (hs:aL X N h us ys)
def LstAt.to{h h':Heap}{us:List T}{D:Addr}{N':Addr->Prop}(x:LstAt X N h us D)(k:∀o,h.get? D=ab o->h'.get? D=ab o)(f:∀{ys},aL X N h us ys->aL X N' h' us ys):LstAt X N' h' us D:=by
 cases x with|mk pl hs=>exact .mk (pl.at k) (f hs)
def LstAt.nt{h:Heap}{us:List T}{D:Addr}(x:LstAt X N h us D)(ap:Apart h):D∉aV:=by cases x with|mk pl hs=>exact pl.elim λz e=>mI ap e rfl
def LstAt.kp{us:List T}{D:Addr}{s':az}(x:LstAt X N s.heap us D)(n:NG X N s.heap)(ap:Apart s.heap)(k:Kp X s s'):LstAt X N s'.heap us D:=x.to (λo e=>k.old _ _ (x.nt ap) e) λq=>q.kp n k
def LstAt.mv{us:List T}{D:Addr}{s':az}(x:LstAt X N s.heap us D)(n:NG X N s.heap)(ap:Apart s.heap)(k:Mv X M s s')(h:∀a,M a->N a)(hD:¬M D):LstAt X N s'.heap us D:=x.to (λo e=>k.old _ _ hD (x.nt ap) e) λq=>q.mv n k h
def X9{us:List T}{D:Addr}{te:T}{ye:ay}{Q:ay->az->Prop}(L:LstAt X N s.heap us D)(hz:us.length<=lim)(ng:NG X N s.heap)(hD:N D)(hv:VR X N s.heap te ye)(k:∀v s',Mv X (λb=>b=D) s s'->LstAt X N s'.heap (us++[te]) D->Q v s'):
  aA (model X.prog X.w) A (call (.builtin "list.append") [.ref D,ye]) Q E s:=by
 cases L with| @mk ys pl hs=>
 refine fg (Uq (hsz:=by rw[bU,hs.length];exact dS hz) pl λh6 Ya BL yJ=>?_)
 have m6:Mv X (λb=>b=D) s {s with heap:=h6}:=pl.elim λe he=>Mv.put he (nJ rfl (by decide)) (λb o hb e=>BL.extBut b o hb e) yJ
 refine k _ _ m6 (.mk (ys:=ys++[ye]) ?_ ((hs.app (aL.one hv)).mv ng m6 λb e=>e▸hD))
 rw[<-Ur];exact Ya
def It.next{N':Addr->Prop}{l:List T}{tp:Bool}{I:Addr}{fp wr:List Addr}{St:Nat->Heap->Prop}{eJ:Nat->ay->Heap->Prop}{h₂:Heap}(it:It X N h₂ l tp I fp wr St eJ)(hA:A.handled=ae){i:Nat}(ng:NG X N' s.heap)(hw:∀b∈wr,N' b)(st:St i s.heap)(hi:i<=l.length)
  (keep:∀b o,(¬N b∨iA o)->b∉wr->h₂.get? b=ab o->s.heap.get? b=ab o) (hN:∀a,N' a->N a∨a∈wr∨h₂.objs.size<=a) {tg:aW} (ht:tp=true->∃es k p,tg=.Tuple es k p)
  {Qn:az->Prop} {G:ay->az->Prop}
  (hn:i=l.length->∀s',Mv X (λb=>b∈wr) s s'->Qn s')
  (hs:∀y v s',l[i]?=ab y->Mv X (λb=>b∈wr) s s'->St (i+1) s'.heap->VR X N' s'.heap y v->G v s'):
  aA (model X.prog X.w) A (iQ (.ref I)) (λr aB=>match r with
   |none=>Qn aB
   |some v=>aA (model X.prog X.w) A (lA tg (.ref I) v) (λz jz=>G v jz) E aB) E s:=by
 cases hx:l[i]? with
 |none=>
  have yK:i=l.length:=DB hi (am2.mp hx)
  exact fg (it.done A hA s _ E (yK▸st) λh' tk kk hz=>hn yK _ (Mv.wr (it.cls _ _ st) kk hz))
 |some y=>
  refine fg (it.item A hA i y s N' _ E hx st keep hN (λb h=>ng.lt b h) λv h' tk mid hv kk hz=>?_)
  have mw:Mv X (λb=>b∈wr) s {s with heap:=h',toks:=tk}:=Mv.wr (it.cls _ _ st) kk hz
  refine fg (it.lg A i v tg _ _ E ht mid λYb Yc dU Yd iH=>?_)
  have Ma:Mv X (λb=>b∈wr) {s with heap:=h',toks:=tk} {s with heap:=Yb,toks:=Yc}:=Mv.wr (it.Lv _ _ _ mid) Yd iH
  exact hs y v _ hx (mw.trans Ma λd h=>.inl h) dU (hv.mv (ng.mv mw) Ma hw)
end
def Md{α:Type}{l:List (Str×α)}:∀{j:Nat}{x:Str}{i:α},(l.map (·.1)).Nodup->l[j]?=ab (x,i)->l.lookup x=ab i:=by
 induction l with
 |nil=>exactλz h=>aN h
 |cons p r ih=>
  intro j x i nd h
  obtain⟨y,k⟩:=p
  have cT:=hH.mp nd
  rw[cD]
  cases j with
  |zero=>cases h;rw[ax]
  |succ j=>
   have h:r[j]?=ab (x,i):=h
   rw[beq_eq_false_iff_ne.mpr λ(e:x=y)=>cT.1 (e▸dy.mpr ⟨_,(dZ h),rfl⟩)]
   exact ih cT.2 h
def lookup_at{α:Type}{l:List (Str×α)}{x:Str}{i:α}(h:l.lookup x=ab i):∃j:Nat,l[j]?=ab (x,i):=by
 induction l with
 |nil=>exact aN h
 |cons p r ih=>
  obtain⟨y,k⟩:=p
  rw[cD]at h
  cases q:x==y with
  |true=>rw[q]at h;cases h;rw[ao q];exact⟨0,rfl⟩
  |false=>rw[q]at h;exact(ih h).elim λj e=>⟨j+1,e⟩
def kN(X:Kx)(N:Addr->Prop)(env:Env)(ts:List (Str×Nat))(K:Str->Prop)(r:aE)(h:Heap):Prop:=∀y i t,K y->ts.lookup y=ab i->get r i=ab t->∃u,Rd env h y u/\VR X N h t u
noncomputable def no:Str->Prop:=λz=>False
noncomputable def al:Str->Prop:=λz=>True
abbrev ow(ts:List (Str×Nat))(x:Str):Prop:=(ts.lookup x).isSome=true
structure tQ(X:Kx)(A:aM)(ts:List (Str×Nat))(r:aE)(tg:aW)(K:Str->Prop)(ρ:T->Option aE):Prop where
 keep:∀x r',ρ x=ab r'->∀i,(∀p∈ts,i≠p.2)->get r' i=get r i
 kk:∀x r' y i t,ρ x=ab r'->K y->ts.lookup y=ab i->get r i=ab t->get r' i=ab t
 put:∀(aU:Env)(M' N':Addr->Prop)s' x v r' Q E,(∀a,M' a->N' a)->cJ X aU M' (ow ts) s'.heap->NG X N' s'.heap->VR X N' s'.heap x v->kN X N' aU ts K r s'.heap->ρ x=ab r'->
  (∀cj,Mv X M' s' cj->cJ X aU M' (ow ts) cj.heap->kN X N' aU ts al r' cj.heap->Q () cj)->
  aA (model X.prog X.w) A (assign tg aU v) Q E s'
section
variable{X:Kx}{A:aM}{r:aE}
def Ye{n:Str}{j:Nat}{p:Pos}{ts:List (Str×Nat)}(l4:ts=[(n,j)]):tQ X A ts r (.Name n p) no (λy=>ab (put r j y)) where
 keep:=λx r' e i h=>by cases e;exact lZ (h (n,j) (l4▸bk))
 kk:=λw w w w w w f=>f.elim
 put:=λaU M' N' s' x v r' Q E l5 F ng hv w e q=>by
  subst l4
  cases e
  refine sW (BD F (by rw[ow,cD,ax];rfl) λcj b hb hw mv rd fS F'=>?_)
  have l6:Mv X M' s' cj:=mv.sub λa e=>e▸hb
  refine q cj l6 F' λy i t w hy ht=>?_
  rw[cD]at hy
  cases qy:y==n with
  |false=>rw[qy]at hy;exact aN hy
  |true=>
   rw[qy]at hy;cases hy
   rw[ao qy]
   exact(yI ht).elim (λz=>⟨v,rd,z.2▸hv.mv ng l6 l5⟩) λz=>aj rfl z.1
def Yf{ns:List aW}{js:List Nat}{kk:Nat}{p:Pos}{ts:List (Str×Nat)}(hh:A.handled=ae)(h:yx ns js=ab ts)(nd:(ts.map (·.1)).Nodup)(cL:(ts.map (·.2)).Nodup):
  tQ X A ts r (.Tuple ns kk p) no (bH (putAll r js)):=by
 obtain⟨ps,rfl,rfl,hl⟩:=X6 h
 have rg:(ps.map (·.1)).length=js.length:=by rw[bK,hl]
 have e1:((ps.map (·.1)).zip js).map (·.1)=ps.map (·.1):=amY (bO rg)
 have e2:((ps.map (·.1)).zip js).map (·.2)=js:=amZ (bO rg.symm)
 rw[e2]at cL
 refine⟨λx r' e i hi=>kH e λys q e=>vQ e λhm=>?_,λz z z z z z f=>f.elim,λaU M' N' s' x v r' Q E l5 F ng hv z e q=>kH e λys q' e=>?_⟩
 ·rw[<-e2]at hm
  obtain⟨q,hq,e3⟩:=dy.mp hm
  exact hi q hq e3.symm
 ·subst q'
  have pl:=BI e
  refine hv.fb λa vs hp hN hz hs=>BK (hl.trans (pl.trans hs.length.symm)) (vR hh F hp.isTup) (λq hq=>?_) (e1▸nd) λcj S=>q cj S.m S.ck λy i t z hy ht=>?_
  ·obtain⟨j,hj⟩:=sY.mp hq
   have gp:j<js.length:=hl▸(iR.mp hj).1
   have:((ps.map (·.1)).zip js)[j]?=ab (q.1,js[j]'(gp)):=qA.mpr ⟨by rw[gL,hj];rfl,iu gp⟩
   rw[ow,Md nd this];rfl
  ·obtain⟨j,hj⟩:=lookup_at hy
   have hj:=qA.mp hj
   obtain⟨v,e3,e4⟩:=hs.get (EK e cL hj.2 ht)
   have h1:=hj.1
   rw[gL]at h1
   refine map_some h1 λp h2 h3=>⟨v,?_,e4.mv ng S.m l5⟩
   exact(show p.1=y from h3)▸S.rd (p,v) (dZ (qA.mpr ⟨h2,e3⟩))
end
noncomputable def condT(F:Nat->List T->Option T)(elt cond:Ex)(r':aE):Option (Option T):=(ev F cond r').bind λc=>if c.plain=true then(if c.truth then(ev F elt r').map ab else ab ae)else ae
def rj(cond:Ex)(c:Sc)(fs:List aW):Prop:=∀{C k},Ok C k->∀{A env N r s t},At C.X k A env c N r s->ev C.F cond r=ab t->t.plain=true->∀E,aA (model C.X.prog C.X.w) A (BG fs env) (λb s'=>b=t.truth/\Kp C.X s s') E s
def Me{c:Sc}:rj (.lit (.bool true)) c []:=λH z z z z s t a e z E=>by cases e;exact amT ⟨rfl,.refl _⟩
def Yg{e:Ex}{c:Sc}{f:aW}(h:Gd e .a9 c [f]):rj e c [f]:=λH z z z z z z a e hp E=>wpAny_tests_one (h H a e hp E)
def vS{y:aW}(h:gj y=true)(env:Env)(x:ay):Uo y env x=pure x:=by cases y<;>first|rfl|exact aj h bT
section
variable{X:Kx}{k:Nat}{A:aM}{env:Env}{c c':Sc}{sc:d9}{ts:List (Str×Nat)}{N:Addr->Prop}{r:aE}{aP s₂:az}{E:ay->az->Prop}
def Mf(D hi b:Addr):Prop:=D+1<=b/\b<hi
def Mc(D hi:Addr)(W:Addr->Prop)(b:Addr):Prop:=(D<=b/\b<hi)∨W b
def NN(N:Addr->Prop)(D hi:Addr)(W:Addr->Prop)(b:Addr):Prop:=N b∨Mc D hi W b
abbrev CF(X:Kx)(k:Nat)(A:aM)(env:Env)(c:Sc)(sc:d9)(ts:List (Str×Nat))(c':Sc)(N:Addr->Prop)(r:aE)(aP:az)(W:Addr->Prop)(aU:Env)(D hi:Addr)(aS:az):Prop:=At X k A env c N r aP/\gm c sc ts c'/\kL env aU c sc ts c' (D+1)/\Kp X aP aS/\aP.heap.objs.size<=D/\D<hi/\hi<=aS.heap.objs.size/\aU.locals=D+1/\aU.locals<hi/\(∀x b,aU.cells.lookup x=ab b->b<hi)/\(∀b,W b->b<aS.heap.objs.size)/\(∀b,W b->¬(D<=b/\b<hi))/\(∀b,W b->aP.heap.objs.size<=b)
section
variable(h:CF X k A env c sc ts c' N r aP W aU D hi aS)
def CF.a:=h.1
def CF.H:=h.2.1
def CF.yL:=h.2.2.1
def CF.ER:=h.2.2.2.1
def CF.rm:=h.2.2.2.2.1
def CF.yM:=h.2.2.2.2.2.1
def CF.kO:=h.2.2.2.2.2.2.1
def CF.loc:=h.2.2.2.2.2.2.2.1
def CF.Mg:=h.2.2.2.2.2.2.2.2.1
def CF.Mh:=h.2.2.2.2.2.2.2.2.2.1
def CF.pL:=h.2.2.2.2.2.2.2.2.2.2.1
def CF.wn:=h.2.2.2.2.2.2.2.2.2.2.2.1
def CF.w0:=h.2.2.2.2.2.2.2.2.2.2.2.2
end
section
variable{W:Addr->Prop}{aU:Env}{D hi:Addr}{aS s:az}(F:CF X k A env c sc ts c' N r aP W aU D hi aS)
include F
theorem CF.fc{b:Addr}(h:Mf D hi b):Mc D hi W b:=.inl ⟨oF h.1,h.2⟩
theorem CF.dc:Mc D hi W D:=.inl ⟨bj _,F.yM⟩
theorem CF.ES{b:Addr}(h:Mc D hi W b):aP.heap.objs.size<=b:=h.elim (λh=>aD F.rm h.1) (F.w0 b)
theorem CF.Yh{b:Addr}(h:NN N D hi W b):N b∨aP.heap.objs.size<=b:=h.imp id F.ES
theorem CF.nD:¬Mf D hi D:=λq=>eY _ q.1
theorem CF.dw:¬W D:=λq=>F.wn D q ⟨bj _,F.yM⟩
theorem CF.ng(hs:aS.heap.objs.size<=s.heap.objs.size):NG X (NN N D hi W) s.heap:=
 F.a.ng.more (λb h=>.inl h) F.a.wd (aD F.ER.size hs) λb h=>h.imp id λq=>⟨F.ES q,bG (q.elim (λq=>bG q.2 F.kO) (F.pL b)) hs⟩
theorem CF.kp(mv:Mv X (Mc D hi W) aS s):Kp X aP s:=((Mv.of (M:=λz=>False) F.ER).trans mv λd q=>.inr (F.ES q)).kp λz q=>q
theorem CF.fr{b:Addr}(h:Fr aU b):b≠D/\¬W b/\b∉aV:=by
 have nt:aP.heap.objs.size<=b->b∉aV:=λl q=>bx (F.a.ng.lt b (F.a.ng.tb b q)) l
 have new:D+1<=b->b<hi->b≠D/\¬W b/\b∉aV:=λl l'=>⟨λe=>iS l e,λq=>F.wn _ q ⟨oF l,l'⟩,nt (aD F.rm (oF l))⟩
 rcases h with rfl|⟨z,hz⟩
 ·exact new (bO F.loc.symm) F.Mg
 ·rcases F.yL.cells z b hz with q|⟨_,q⟩
  ·obtain⟨⟨_,_,e,_⟩,_⟩:=F.a.ec.dz z b q
   have l:b<aP.heap.objs.size:=bw e
   exact⟨λe=>bx l (e.symm▸F.rm),λw=>bx l (F.w0 b w),F.a.ec.jv z b q⟩
  ·exact new q (F.Mh z b hz)
theorem CF.ap(mv:Mv X (Mc D hi W) aS s):Apart s.heap:=(F.a.kp (F.kp mv)).apart
theorem CF.at_{r':aE}(mv:Mv X (Mc D hi W) aS s)(f:cJ X aU (Mf D hi) (ow ts) s.heap)(ht:kN X (NN N D hi W) aU ts al r' s.heap)
  (hr:∀i,(∀p∈ts,i≠p.2)->get r' i=get r i):At X k A aU c' (NN N D hi W) r' s:=
 XU F.a F.H F.yL (F.kp mv) f (F.ng mv.size) (λb=>F.Yh) (u9 F.rm) (λx i t=>ht x i t trivial) hr
theorem CF.more{V:Addr->Prop}{s':az}(q:Kp X aP s')(z:aS.heap.objs.size<=s'.heap.objs.size)(hV:∀b,V b->aS.heap.objs.size<=b/\b<s'.heap.objs.size):CF X k A env c sc ts c' N r aP (λb=>W b∨V b) aU D hi s':=
 ⟨F.a,F.H,F.yL,q,F.rm,F.yM,aD F.kO z,F.loc,F.Mg,F.Mh,λb h=>h.elim (λh=>bG (F.pL b h) z) λh=>(hV b h).2,λb h=>h.elim (F.wn b) λh q=>eY _ (bG q.2 (aD F.kO (hV b h).1)),
  λb h=>h.elim (F.w0 b) λh=>aD F.ER.size (hV b h).1⟩
theorem CF.done{out:List T}{RR:ay->Addr->oI->az->Prop}(mv:Mv X (Mc D hi W) aS s)(f:cJ X aU (Mf D hi) (ow ts) s.heap)(L:LstAt X (NN N D hi W) s.heap out D)(hz:out.length<=lim)
  (Yi:∀D K s' m',Kp X aP s'->VR X (λb=>N b∨b=K) s'.heap (.lst out) (.ref D)->VB X (λb=>(N b∨b=D)∨b=K) s'.heap (.lst out) (.ref D)->aP.heap.objs.size<=D->D≠K->aP.heap.objs.size<=K->s'.heap.Ns K m'->RR (.ref D) K (.ok .next) s'):RR (.ref D) aU.locals (.ok .next) s:=by
 have dk:D≠aU.locals:=λq=>xI D (F.loc.symm.trans q.symm)
 have lN:=F.fc f.loc.1
 cases L with|mk pl hs=>
 exact f.loc.2.elim λm hm=>Yi D _ s m (F.kp mv) (.lst pl (λq=>q.elim (λq=>bx (F.a.ng.lt D q) F.rm) dk) hz (hs.mono λb(h:N b∨b=aU.locals)=>h.imp id λe=>by rw[e];exact lN))
  (.lst pl hz (hs.mono λb(h:(N b∨b=D)∨b=aU.locals)=>h.elim (λh=>h.imp id λe=>by rw[e];exact F.dc) λe=>.inr (by rw[e];exact lN))) F.rm dk (by rw[F.loc];exact u9 F.rm) hm
end
def Yj(a:At X k A env c N r aP)(H:gm c sc ts c'){cl:List (Str×Addr)}(c2:∀x b,cl.lookup x=ab b->env.cells.lookup x=ab b){h:Heap}(hz:aP.heap.objs.size<=h.objs.size){x:Str}{b:Addr}
  (e:(fy (h.objs.size+1) sc.names cl).lookup x=ab b):b<(sT (h.push {cls:=.type "dict",data:=.dict #[]}) sc.names).objs.size:=by
 have ok:=cellsFrom_ok sc.names (h.push {cls:=.type "dict",data:=.dict #[]}) (h.objs.size+1) [] ⟨λy y hm=>(nomatch hm),amN⟩ (by rw[fk];exact bj _)
 rw[fk]at ok
 rw[L5,EH]at e
 cases q:(fy (h.objs.size+1) sc.names []).lookup x with
 |some v=>
  rw[q]at e;cases e
  exact(ok.empty x b (lookup_mem q)).1.elim λo z=>bw z.1
 |none=>
  rw[q]at e
  obtain⟨⟨_,_,e1,_⟩,_⟩:=a.ec.dz x b (c2 x b e)
  exact bG (bw e1) (aD hz (aD (qV _ _) (EG _ _)))
def Yk(a:At X k A env c N r aP)(H:gm c sc ts c'){cl:List (Str×Addr)}(c2:∀x b,cl.lookup x=ab b->env.cells.lookup x=ab b)(c3:∀p∈sc.names,p.2=.free->(cl.lookup p.1).isSome=true)
  (fE:Kp X aP s₂) {W:Addr->Prop} (pL:∀b,W b->b<s₂.heap.objs.size) (fF:∀b,W b->aP.heap.objs.size<=b) {Q:ay->Env->az->Prop}
  (hQ:∀aU D aS,CF X k A env c sc ts c' N r aP W aU D aS.heap.objs.size aS->Kp X s₂ aS->(∀b o,s₂.heap.get? b=ab o->aS.heap.get? b=ab o)->D=s₂.heap.objs.size->cJ X aU (Mf D aS.heap.objs.size) (ow ts) aS.heap->LstAt X (λz=>True) aS.heap [] D->Q (.ref D) aU aS):
  aA (model X.prog X.w) A (newList []) (λacc aX=>aA (model X.prog X.w) A (Uh sc env.globals cl [] env.qual ae .none (ab env)) (λcenv aS=>Q acc {cenv with scope:=xG sc env} aS) E aX) E s₂:=by
 refine sR (XM ?_)
 have hz:(s₂.heap.push {cls:=.type "list",dict:=ae,data:=.seq ([]:List ay).toArray}).objs.size=s₂.heap.objs.size+1:=fk ..
 generalize Mi:s₂.heap.push {cls:=.type "list",dict:=ae,data:=.seq ([]:List ay).toArray}=H3 at hz
 obtain⟨yL,Mj,Ml⟩:=XX (X:=X) a H c2 c3 (h:=H3) (by rw[hz];exact u9 fE.size) rfl
 have Mm:H3.objs.size<=(sT (H3.push {cls:=.type "dict",data:=.dict #[]}) sc.names).objs.size:=aD (qV _ _) (EG _ _)
 have kk:∀b o,s₂.heap.get? b=ab o->(sT (H3.push {cls:=.type "dict",data:=.dict #[]}) sc.names).get? b=ab o:=λb o e=>Ml b o (Mi▸cS _ e)
 have yN:Kp X s₂ {s₂ with heap:=sT (H3.push {cls:=.type "dict",data:=.dict #[]}) sc.names}:=Kp.of kk (aD (hz▸gy _) Mm)
 refine hQ _ _ _ ⟨a,H,hz▸yL,fE.trans yN,fE.size,bG (by rw[hz];exact iq _) Mm,bj _,hz,Mj.loc.1.2,λx b e=>?_,λb w=>bG (pL b w) yN.size,λb w q=>bx (pL b w) q.1,fF⟩ yN kk rfl (hz▸Mj) (.mk (ys:=[]) ⟨_,Ml _ _ (Mi▸cB _ rfl)⟩ .nil)
 exact Yj a H c2 (aD fE.size (oF (bO hz.symm))) e
end
def ET{f:T->Option (Option T)}{x:T}{l out:List T}{P:Prop}(h:gather f (x::l)=ab out)(k:∀o rest,f x=ab o->gather f l=ab rest->out=o.elim rest (· ::rest)->P):P:=
 aO h λo e1 h=>aO h λrest e2 h=>k o rest e1 e2 (Option.some.inj h).symm
def Yl{f:T->Option (List T)}{x:T}{l out:List T}{P:Prop}(h:yo f (x::l)=ab out)(k:∀a rest,f x=ab a->yo f l=ab rest->out=a++rest->P):P:=
 aO h λo e1 h=>aO h λrest e2 h=>k o rest e1 e2 (Option.some.inj h).symm
def BM{α:Type}{l:List α}{j:Nat}{y:α}(h:l[j]?=ab y):j<l.length/\l.drop j=y::l.drop (j+1):=by
 obtain⟨h1,h2⟩:=iR.mp h
 exact⟨h1,by rw[List.drop_eq_getElem_cons h1,h2]⟩
def less{a b:Nat}(h:b<a):a - (b+1)<a - b:=Nat.sub_lt_sub_left h (iq b)
def kN.to{X:Kx}{N N':Addr->Prop}{env:Env}{ts:List (Str×Nat)}{K:Str->Prop}{r:aE}{h h':Heap}(q:kN X N env ts K r h)(k:∀b o,Fr env b->h.get? b=ab o->h'.get? b=ab o)(f:∀t v,VR X N h t v->VR X N' h' t v):kN X N' env ts K r h':=
 λy i t a b c=>(q y i t a b c).elim λu z=>⟨u,z.1.to λb o hb e=>k b o (hb.imp id λq=>⟨y,q⟩) e,f _ _ z.2⟩
section
variable{C:Cx}{k:Nat}{A:aM}{env aU:Env}{c c':Sc}{sc:d9}{ts:List (Str×Nat)}{N fG W:Addr->Prop}{K:Str->Prop}{r:aE}{aP s₂ aS s s':az}{E:ay->az->Prop}{D hi:Addr}
 {l out us:List T} {I:Addr} {fp wr:List Addr} {St:Nat->Heap->Prop} {eJ:Nat->ay->Heap->Prop} {R:oI->az->Prop} {G:List T->List T->Prop} {j:Nat}
inductive Lp(X:Kx)(N:Addr->Prop)(aU:Env)(ts:List (Str×Nat))(K:Str->Prop)(r:aE)(W:Addr->Prop)(wr:List Addr)(D hi:Addr)(aS:az)(St:Nat->Heap->Prop)(l:List T)(out:List T)(G:List T->List T->Prop)(j:Nat)(s:az):Prop
 |mk {us rest} (mv:Mv X (Mc D hi (λb=>b∈wr)) aS s) (st:St j s.heap) (F:cJ X aU (Mf D hi) (ow ts) s.heap) (rk:kN X (NN N D hi W) aU ts K r s.heap) (hj:j<=l.length)
   (L:LstAt X (NN N D hi W) s.heap us D) (hg:G (l.drop j) rest) (ho:us++rest=out)
structure Ap(X:Kx)(fG N W:Addr->Prop)(D hi:Addr)(s₂ aS:az)(fp wr:List Addr):Prop where
 k:Kp X s₂ aS
 w:∀b∈wr,W b
 nn:∀a,NN N D hi W a->fG a∨a∈wr∨s₂.heap.objs.size<=a
 tb:∀b∈aV,fG b
 fp:∀b∈fp,b≠D/\¬Mf D hi b
def Ap.sub(ap:Ap C.X fG N W D hi s₂ aS fp wr)(m:Mv C.X (Mc D hi (λb=>b∈wr)) aS s):Mv C.X (Mc D hi W) aS s:=m.sub λb h=>h.imp id (ap.w b)
section
variable(gP:CF C.X k A env c sc ts c' N r aP W aU D hi aS)(it:It C.X fG s₂.heap l false I fp wr St eJ)(ap:Ap C.X fG N W D hi s₂ aS fp wr)
include gP it ap
theorem Mn{l7:aE}(hk:∀i,(∀p∈ts,i≠p.2)->get l7 i=get r i){tg:aW}{ρ:T->Option aE}(TG:tQ C.X A ts l7 tg K ρ)(hI:Lp C.X N aU ts K l7 W wr D hi aS St l out G j s)
  {Qn:az->Prop} {B:Unit->az->Prop}
  (EU:∀s',Mv C.X (Mc D hi (λb=>b∈wr)) aS s'->cJ C.X aU (Mf D hi) (ow ts) s'.heap->kN C.X (NN N D hi W) aU ts K l7 s'.heap->∀us rest,LstAt C.X (NN N D hi W) s'.heap us D->G [] rest->us++rest=out->Qn s')
  (ro:∀y xs rest,G (y::xs) rest->∃r',ρ y=ab r')
  (hs:∀y r' s3 us rest,ρ y=ab r'->j<l.length->G (y::l.drop (j+1)) rest->us++rest=out->Mv C.X (Mc D hi (λb=>b∈wr)) aS s3->St (j+1) s3.heap->cJ C.X aU (Mf D hi) (ow ts) s3.heap->kN C.X (NN N D hi W) aU ts al r' s3.heap->
   LstAt C.X (NN N D hi W) s3.heap us D->At C.X k A aU c' (NN N D hi W) r' s3->B () s3):
  aA (model C.X.prog C.X.w) A (iQ (.ref I)) (λr aB=>match r with
   |none=>Qn aB
   |some v=>aA (model C.X.prog C.X.w) A (lA tg (.ref I) v) (λx jz=>aA (model C.X.prog C.X.w) A (assign tg aU v) B E jz) E aB) E s:=by
 cases hI with| @mk us rest mv st F rk hj L hg ho=>
 have ng:=gP.ng mv.size
 have go:∀s',Mv C.X (λb=>b∈wr) s s'->Mv C.X (Mc D hi (λb=>b∈wr)) aS s'/\cJ C.X aU (Mf D hi) (ow ts) s'.heap/\kN C.X (NN N D hi W) aU ts K l7 s'.heap/\LstAt C.X (NN N D hi W) s'.heap us D:=λs' mw=>
  have kf:∀b o,Fr aU b->s.heap.get? b=ab o->s'.heap.get? b=ab o:=λb o hb e=>mw.old b o (λq=>(gP.fr hb).2.1 (ap.w b q)) (gP.fr hb).2.2 e
  ⟨mv.trans mw λd h=>.inl (.inr h),F.mv kf,rk.to kf λx x q=>q.mv ng mw λb h=>.inr (.inr (ap.w b h)),L.mv ng (gP.ap (ap.sub mv)) mw (λb h=>.inr (.inr (ap.w b h))) λq=>gP.dw (ap.w D q)⟩
 refine it.next gP.a.ra.handled ng (λb w=>.inr (.inr (ap.w b w))) st hj (λb ob hb hw e=>?_) ap.nn nofun (λgp s' mw=>?_) λy v s1 hx mw dU hv=>?_
 ·refine hb.elim (λhb=>mv.old b ob (λq=>?_) (λz=>hb (ap.tb b z)) (ap.k.old b ob (λz=>hb (ap.tb b z)) e)) λc=>mv.code b ob c (ap.k.code b ob c e)
  exact(ap.nn b (.inr (q.imp id (ap.w b)))).elim hb λq=>q.elim hw λq=>bx (bw e) q
 ·subst gp
  rw[J6]at hg
  have g:=go s' mw
  exact EU s' g.1 g.2.1 g.2.2.1 us rest g.2.2.2 hg ho
 ·obtain⟨gp,dj⟩:=BM hx
  rw[dj]at hg
  refine(ro _ _ _ hg).elim λr' hr=>?_
  have g:=go s1 mw
  refine TG.put aU _ _ s1 y v r' _ E (λb h=>.inr (gP.fc h)) g.2.1 (gP.ng g.1.size) hv g.2.2.1 hr λs3 cM F3 rp=>?_
  have Mo:=g.1.trans cM λd h=>.inl (.inl ⟨oF h.1,h.2⟩)
  exact hs y r' s3 us rest hr gp hg ho Mo (it.frame _ _ _ dU λb hb o e=>cM.old b o (ap.fp b hb).2 (it.nt b hb) e) F3 rp
   (g.2.2.2.mv (gP.ng g.1.size) (gP.ap (ap.sub g.1)) cM (λb h=>.inr (gP.fc h)) gP.nD) (gP.at_ (ap.sub Mo) F3 rp λi hi=>(TG.keep y r' hr i hi).trans (hk i hi))
theorem Mp(H:Ok C k){l7:aE}(hk:∀i,(∀p∈ts,i≠p.2)->get l7 i=get r i){tg x:aW}{fs:List aW}{ρ:T->Option aE}(TG:tQ C.X A ts l7 tg K ρ){elt cond:Ex}(ge:Gd elt .val c' [x])(gc:rj cond c' fs)(hz:out.length<=lim)
  (EU:∀s',Mv C.X (Mc D hi (λb=>b∈wr)) aS s'->cJ C.X aU (Mf D hi) (ow ts) s'.heap->kN C.X (NN N D hi W) aU ts K l7 s'.heap->LstAt C.X (NN N D hi W) s'.heap out D->R (.ok .next) s')
  (hI:Lp C.X N aU ts K l7 W wr D hi aS St l out (λxs rest=>gather (λy=>(ρ y).bind (condT C.F elt cond)) xs=ab rest) j s):
  aA (model C.X.prog C.X.w) A (iQ (.ref I)) (λr aB=>match r with
   |none=>R (.ok .next) aB
   |some v=>aA (model C.X.prog C.X.w) A (lA tg (.ref I) v) (λz jz=>aA (model C.X.prog C.X.w) A (assign tg aU v) (λz s₂=>
     aA (model C.X.prog C.X.w) A (BG fs aU) (λok aX=>
      if ok=true then aA (model C.X.prog C.X.w) A (eval x aU) (λx tR=>
       aA (model C.X.prog C.X.w) A (call (.builtin "list.append") [.ref D,x]) (λz dC=>∃m,m<l.length - j/\∃j,m=l.length - j/\Lp C.X N aU ts K l7 W wr D hi aS St l out (λxs rest=>gather (λy=>(ρ y).bind (condT C.F elt cond)) xs=ab rest) j dC) E tR) E aX
      else∃m,m<l.length - j/\∃j,m=l.length - j/\Lp C.X N aU ts K l7 W wr D hi aS St l out (λxs rest=>gather (λy=>(ρ y).bind (condT C.F elt cond)) xs=ab rest) j aX) E s₂) E jz) E aB) E s:=by
 refine Mn gP it ap hk TG hI (λs' m F rk us rest L hg ho=>?_) (λy xs rest hg=>ET hg λo EV hf z z=>aO hf λr' ro z=>⟨r',ro⟩) λy r' s3 us rest ro gp hg ho cM EW F3 rp L3 nY=>?_
 ·cases hg
  rw[kq]at ho
  subst ho
  exact EU s' m F rk L
 ·refine ET hg λo EV hf EX hr=>?_
  rw[ro]at hf
  refine aO (show condT C.F elt cond r'=ab o from hf) λtc ec hf=>gi hf λhp hf=>?_
  have fin:∀s6 EY,Mv C.X (λb=>b=D) s3 s6->LstAt C.X (NN N D hi W) s6.heap EY D->EY++EV=out->∃m,m<l.length - j/\∃j,m=l.length - j/\Lp C.X N aU ts K l7 W wr D hi aS St l out (λxs rest=>gather (λy=>(ρ y).bind (condT C.F elt cond)) xs=ab rest) j s6:=λs6 EY m6 L6 e6=>
   have kf:∀b o,Fr aU b->s3.heap.get? b=ab o->s6.heap.get? b=ab o:=λb o hb e=>m6.old b o (gP.fr hb).1 (gP.fr hb).2.2 e
   ⟨_,less gp,j+1,rfl,.mk (cM.trans m6 λd e=>.inl (e.symm▸.inl ⟨bj _,gP.yM⟩)) (it.frame _ _ _ EW λb hb o e=>m6.old b o (ap.fp b hb).1 (it.nt b hb) e)
    (F3.mv kf) (kN.to (λy i t hK hy ht=>rp y i t trivial hy (TG.kk _ _ _ _ _ ro hK hy ht)) kf λz z q=>q.mv nY.ng m6 λb e=>.inr (e▸gP.dc)) gp L6 EX e6⟩
  refine mo (gc H nY ec hp E) λb s4 h4=>?_
  rw[h4.1]
  cases ht:tc.truth with
  |false=>
   rw[ht]at hf;cases hf
   exact fin s4 us (Mv.of h4.2) (L3.kp nY.ng nY.apart h4.2) (by rw[<-ho,hr];rfl)
  |true=>
   rw[ht,ah rfl]at hf
   refine map_some hf λte ee eo=>vl (ge H (nY.kp h4.2) ee) λye s5 Ym Yn=>?_
   have iI:=h4.2.trans Ym
   refine X9 (L3.kp nY.ng nY.apart iI) (by rw[<-ho,bQ]at hz;exact aD (bX _ _) hz) (nY.kp iI).ng (.inr gP.dc) Yn λz s6 m6 L6=>?_
   exact fin s6 _ ((Mv.of (M:=λb=>b=D) iI).trans m6 λd h=>.inl h) L6 (by rw[<-ho,hr,<-eo,fu];rfl)
end
end
section
variable{X:Kx}{N:Addr->Prop}{aP s':az}{t:T}{D K:Addr}
def Yo{m':Str->Option ay}(ng:NG X N aP.heap)(k':Kp X aP s')(ap:Apart s'.heap)(v:VR X (λb=>N b∨b=K) s'.heap t (.ref D))(vb:VB X (λb=>(N b∨b=D)∨b=K) s'.heap t (.ref D))(rq:D≠K)(hD:aP.heap.objs.size<=D)(hK:aP.heap.objs.size<=K)
  (ho:t.obj=true) (hn:s'.heap.Ns K m') {h':Heap} (hs:sZ K s'.heap h'):mP X N aP t (.ref D) {s' with heap:=h'}:=by
 have kk:∀b o,b≠K->s'.heap.get? b=ab o->h'.get? b=ab o:=λb o hb e=>hs.extBut b o hb e
 have m:Mv X (λb=>b=K) s' {s' with heap:=h'}:=by obtain⟨o,es,ep,e1,e2,_⟩:=hn;exact Mv.put e1 (oP e2 rfl) kk (bO hs.1.symm)
 refine⟨((Mv.of (M:=λy=>False) k').trans m λd h=>.inr (h▸hK)).kp λy q=>q,(v.keep (m.kc (λb z=>.inl (ng.tb b z)) λb q=>.inr q)).mono λb h=>.inl h,D,rfl,hD,λy=>?_⟩
 have kv:=m.kc (N:=λb=>(N b∨b=D)∨b=K) (λb z=>.inl (.inl (ng.tb b z))) λb q=>.inr q
 cases vb with
 |of x=>exact .of ((x.keep kv).mono λb h=>.inl h)
 |lst pl hz cb=>exact .lst (pl.at λo e=>kk _ _ rq e) hz ((cb.keep kv).mono λb h=>.inl h)
 |aY ho hd hz hq cb=>exact .aY (kk _ _ rq ho) hd hz hq cb
end
def Yp(X:Kx)(N:Addr->Prop)(aP:az)(t:T)(RR:ay->Addr->oI->az->Prop):Prop:=
 ∀D K s' m',Kp X aP s'->VR X (λb=>N b∨b=K) s'.heap t (.ref D)->VB X (λb=>(N b∨b=D)∨b=K) s'.heap t (.ref D)->aP.heap.objs.size<=D->D≠K->aP.heap.objs.size<=K->s'.heap.Ns K m'->RR (.ref D) K (.ok .next) s'
section
variable{X:Kx}{k:Nat}{A:aM}{env:Env}{c c':Sc}{sc:d9}{ts:List (Str×Nat)}{N:Addr->Prop}{r:aE}{aP:az}{m:Mode}{l out:List T}{x y tg:aW}{fs:List aW}{gs:List J7}{p:Pos}
def Mq(a:At X k A env c N r aP)(hm:m≠.chain)(h:∀{use Q E},Yp X N aP (.lst out) (AL (model X.prog X.w) A E use Q)->aA (model X.prog X.w) A (comprehension (.ListComp x (⟨tg,y,fs,0⟩::gs) sc p) sc env y.pos (newList []) false (eval y env) use) Q E aP):
  Out X A env N aP (.lst out) m [.ListComp x (⟨tg,y,fs,0⟩::gs) sc p]:=by
 have val:∀E,aA (model X.prog X.w) A (eval (.ListComp x (⟨tg,y,fs,0⟩::gs) sc p) env) (mP X N aP (.lst out)) E aP:=λE=>
  h (use:=ae) λD K s' m' k' v vb hD rq hK hn=>⟨m',hn,λh' cb=>Yo a.ng k' (a.kp k').apart v vb rq hD hK rfl hn cb⟩
 cases m with
 |chain=>exact aj rfl hm
 |use=>exactλu Q E hQ=>aG (mo (h (Q:=λv s'=>Q .none s') λD K s' m' k' v vb hD rq hK hn=>hQ D K s' m' k' v vb hD rq hK hn) λt t z=>aQ z)
 |_=>exact Bx a rfl val λt=>rfl
def Mr(a:At X k A env c N r aP)(H:gm c sc ts c')(hy:gj y=true)(hs:∀E,aA (model X.prog X.w) A (eval y env) (yy X N aP false l) E aP){use:Option (ay->Sem Unit)}{Q:ay->az->Prop}{E:ay->az->Prop}
  (h:∀{s₂ aU D aS I fp wr St eJ},l.length<=lim->CF X k A env c sc ts c' N r aP (λb=>b∈wr) aU D aS.heap.objs.size aS->It X N s₂.heap l false I fp wr St eJ->Ap X N N (λb=>b∈wr) D aS.heap.objs.size s₂ aS fp wr->St 0 aS.heap->cJ X aU (Mf D aS.heap.objs.size) (ow ts) aS.heap->LstAt X (λv=>True) aS.heap [] D->
   gN (model X.prog X.w) A (.compStart (.ListComp x (⟨tg,y,fs,0⟩::gs) sc p) 0 (.ref I) (.ref D) aU) (AL (model X.prog X.w) A E use Q (.ref D) aU.locals) aS):
  aA (model X.prog X.w) A (comprehension (.ListComp x (⟨tg,y,fs,0⟩::gs) sc p) sc env y.pos (newList []) false (eval y env) use) Q E aP:=by
 have Yq:∀p∈sc.names,p.2=.free->∃b,env.cells.lookup p.1=ab b:=λp hp hk=>by
  obtain⟨n,kk⟩:=p
  subst hk
  exact a.ec.has n (by unfold qi;rw[a.ec.names];exact(H.free n hp).2.1)
 obtain⟨cl,c1,c2,c3⟩:=XJ Yq
 refine wpAny_comprehension_free (g:=⟨tg,y,fs,0⟩) (gs:=gs) rfl (vS hy env) c1 H.kind (λp hp hl=>H.XR p hp hl) (mo (hs E) λxv aB bJ=>?_)
 obtain⟨own,_,k₁,hi⟩:=bJ
 refine mo (hi A E a.ra.handled) λtS s₂ h₂=>?_
 obtain⟨i4,I,fp,wr,St,eJ,rfl,it,st,fF,_⟩:=h₂
 refine Yk (Q:=λacc e s=>gN (model X.prog X.w) A (.compStart (.ListComp x (⟨tg,y,fs,0⟩::gs) sc p) 0 (.ref I) acc e) (AL (model X.prog X.w) A E use Q acc e.locals) s) a H c2 c3 i4 (λb w=>it.lt b (it.sub b w)) fF λaU D aS F yN kk hD f4 L4=>?_
 refine h it.z F it ⟨yN,λb h=>h,λb h=>h.imp id λq=>q.elim (λq=>.inr (hD▸q.1)) .inl,a.ng.tb,λb hb=>?_⟩ (it.frame _ _ _ st λb hb o e=>kk b o e) f4 L4
 have lt:b<D:=hD▸it.lt b hb
 exact⟨cW lt,λq=>bx lt (oF q.1)⟩
end
def Yr{f:T->Option (Option T)}:∀{l out:List T},gather f l=ab out->out.length<=l.length:=by
 intro l
 induction l with
 |nil=>intro out h;cases h;exact bj _
 |cons x l ih=>
  intro out h
  refine ET h λo rest z h2 e=>?_
  rw[e]
  cases o with
  |none=>exact u9 (ih h2)
  |some y=>exact cX (ih h2)
section
variable{c c':Sc}{m:Mode}{elt src cond s1 s2:Ex}{ts:List (Str×Nat)}{x y z tg:aW}{sc:d9}{p q p':Pos}{fs:List aW}
def LstAt.start{X:Kx}{N:Addr->Prop}{h:Heap}{D:Addr}(L:LstAt X (λz=>True) h [] D):LstAt X N h [] D:=L.to (λo e=>e) λq=>q.mono λz z=>trivial
def Ms{C:Cx}{k:Nat}{A:aM}{env:Env}{N:Addr->Prop}{r:aE}{aP:az}{l out:List T}(H:Ok C k)(a:At C.X k A env c N r aP)(hm:m≠.chain)(S:gm c sc ts c')(hy:gj y=true)
  (hs:∀E,aA (model C.X.prog C.X.w) A (eval y env) (yy C.X N aP false l) E aP) {ρ:T->Option aE} (TG:tQ C.X A ts r tg no ρ) (ge:Gd elt .val c' [x]) (gc:rj cond c' fs) (ho:gather (λy=>(ρ y).bind (condT C.F elt cond)) l=ab out):
  Out C.X A env N aP (.lst out) m [.ListComp x [⟨tg,y,fs,0⟩] sc q]:=by
 refine Mq a hm λ{use Q E}hQ=>Mr a S hy hs λ{s₂ aU D aS I fp wr St eJ}hz F it ap st f L=>?_
 have hz:=aD (Yr ho) hz
 have loop:=XY (R:=AL (model C.X.prog C.X.w) A E use Q (.ref D) aU.locals) (pos:=q) (iter:=y) (scope:=sc) (λn s=>∃j,n=l.length - j/\Lp C.X N aU ts no r (λb=>b∈wr) wr D aS.heap.objs.size aS St l out (λxs rest=>gather (λy=>(ρ y).bind (condT C.F elt cond)) xs=ab rest) j s) (λn s E h=>h.elim λj h=>by
  rw[h.1]
  exact Mp F it ap H (λz z=>rfl) TG ge gc hz (λs' mv F' rk L'=>F.done mv F' L' hz hQ) h.2) _ ⟨0,rfl,.mk (.refl _) st f (λz z z h=>h.elim) (dP _) L.start ho rfl⟩
 exact am4 loop (it.self A _ _ _ st loop)
def Ys{j:Nat}{n:Str}(hm:m≠.chain)(hy:gj y=true)(h1:Gd src .src c [y])(hc:qW c sc [(n,j)]=ab c')(h2:Gd elt .val c' [x])(h3:rj cond c' fs):Gd (.comp j elt src cond) m c [.ListComp x [⟨.Name n p,y,fs,0⟩] sc q]:=λH z z z z z z a e=>by
 refine aO e λtx e1 ea=>aO ea λl e2 eb=>map_some eb λout ho ez=>?_
 clear e ea eb
 subst ez
 exact Ms H a hm (EI hc) hy (λE=>h1 H a e1 l e2 E) (Ye rfl) h2 h3 ho
def Yt{js:List Nat}{ns:List aW}{kk:Nat}(hm:m≠.chain)(hy:gj y=true)(h1:Gd src .src c [y])(ht:yx ns js=ab ts)(hc:qW c sc ts=ab c')(h2:Gd elt .val c' [x])(h3:rj cond c' fs):Gd (.j0 js elt src cond) m c [.ListComp x [⟨.Tuple ns kk p,y,fs,0⟩] sc q]:=λH z z z z z z a e=>by
 refine aO e λtx e1 ea=>aO ea λl e2 eb=>map_some eb λout ho ez=>?_
 clear e ea eb
 subst ez
 have S:=EI hc
 exact Ms H a hm S hy (λE=>h1 H a e1 l e2 E) (Yf a.ra.handled ht S.nd S.cL) h2 h3 ho
end
section
variable{n o:Str}{i j:Nat}{ts:List (Str×Nat)}{X:Kx}{A:aM}{r:aE}{p:Pos}
def vT{α:Type}{a b:α}{y:Str}{x:α}{P:Prop}(h:[(n,a),(o,b)].lookup y=ab x)(k:y=n->x=a->P)(k':y=o->x=b->P):P:=by
 rw[cD]at h
 cases q:y==n with
 |true=>rw[q]at h;exact k (ao q) (Option.some.inj h).symm
 |false=>
  rw[q]at h
  have h:(match y==o with|true=>ab b|false=>ae)=ab x:=h
  cases q':y==o with
  |true=>rw[q']at h;exact k' (ao q') (Option.some.inj h).symm
  |false=>rw[q']at h;exact aN h
def EZ{α:Type}{a b:α}:[(n,a),(o,b)].lookup n=ab a:=by rw[cD,ax]
def Yu{α:Type}{a b:α}(h:n≠o):[(n,a),(o,b)].lookup o=ab b:=by rw[cD,beq_eq_false_iff_ne.mpr h.symm,cD,ax]
def Yv(hn:n≠o)(hi:i≠j)(l4:ts=[(n,i),(o,j)]):tQ X A ts r (.Name n p) no (λy=>ab ((put r i y).set j ae)) where
 keep:=λx r' e idx h=>by
  subst l4
  cases e
  exact(EJ (h (o,j) (bS _ bk))).trans (lZ (h (n,i) bk))
 kk:=λw w w w w w f=>f.elim
 put:=λaU M' N' s' x v r' Q E l5 F ng hv w e q=>by
  subst l4
  cases e
  refine sW (BD F (by rw[ow,EZ];rfl) λcj b hb hw mv rd fS F'=>?_)
  have l6:Mv X M' s' cj:=mv.sub λa e=>e▸hb
  refine q cj l6 F' λy idx t w hy ht=>vT hy (λe1 e2=>?_) λe1 e2=>?_
  ·subst e1;subst e2
   rw[EJ hi]at ht
   exact(yI ht).elim (λz=>⟨v,rd,z.2▸hv.mv ng l6 l5⟩) λz=>aj rfl z.1
  ·subst e2
   exact(X4 ht).elim λh w=>aj rfl h
def Yw(hn:n≠o)(hi:i≠j)(l4:ts=[(n,i),(o,j)]):tQ X A ts r (.Name o p) (λy=>y=n) (λu=>ab (put r j u)) where
 keep:=λx r' e idx h=>by
  subst l4
  cases e
  exact lZ (h (o,j) (bS _ bk))
 kk:=λx r' y idx t e hK hy ht=>by
  subst l4;subst hK
  cases e
  rw[EZ]at hy
  cases hy
  rw[lZ hi];exact ht
 put:=λaU M' N' s' x v r' Q E l5 F ng hv rk e q=>by
  subst l4
  cases e
  refine sW (BD F (by rw[ow,Yu hn];rfl) λcj b hb hw mv rd fS F'=>?_)
  have l6:Mv X M' s' cj:=mv.sub λa e=>e▸hb
  refine q cj l6 F' λy idx t w hy ht=>vT hy (λe1 e2=>?_) λe1 e2=>?_
  ·subst e1;subst e2
   rw[lZ hi]at ht
   exact(rk y idx t rfl hy ht).elim λu z=>⟨u,fS y u hn z.1,z.2.mv ng l6 l5⟩
  ·subst e1;subst e2
   exact(yI ht).elim (λz=>⟨v,rd,z.2▸hv.mv ng l6 l5⟩) λz=>aj rfl z.1
end
section
variable{C:Cx}{k:Nat}{A:aM}{env aU:Env}{c c':Sc}{sc:d9}{N:Addr->Prop}{r:aE}{aP s₂ aS s3 s4 s5 s:az}{E:ay->az->Prop}{D hi:Addr}{n o:Str}{i j:Nat}{m:Mode}{elt s1 s2:Ex}{x y z:aW}{p q po:Pos}
 {l out us:List T} {fp wr:List Addr} {St:Nat->Heap->Prop} {eJ:Nat->ay->Heap->Prop} {tS:ay} {R:oI->az->Prop} {ts:List (Str×Nat)}
def Yx(H:Ok C k)(F:CF C.X k A env c sc ts c' N r aP (λb=>b∈wr) aU D hi aS)(hn:n≠o)(E0:i≠j)(l4:ts=[(n,i),(o,j)]){r1:aE}(hr:∀idx,(∀p∈ts,idx≠p.2)->get r1 idx=get r idx)
  (cM:Mv C.X (Mc D hi (λb=>b∈wr)) aS s3) (f3:cJ C.X aU (Mf D hi) (ow ts) s3.heap) (rp:kN C.X (NN N D hi (λb=>b∈wr)) aU ts al r1 s3.heap) (L3:LstAt C.X (NN N D hi (λb=>b∈wr)) s3.heap us D)
  (a3:At C.X k A aU c' (NN N D hi (λb=>b∈wr)) r1 s3) (j4:Kp C.X s3 s4) (hit:kJ C.X (NN N D hi (λb=>b∈wr)) l false ae s3 tS s5)
  (ge:Gd elt .val c' [x]) {ys:List T} (ho:gather (λu=>(ab (put r1 j u)).bind (condT C.F elt (.lit (.bool true)))) l=ab ys) (hz:(us++ys).length<=lim) {t0 i0:aW}
  (hR:∀s',Mv C.X (λb=>D<=b/\b<hi) s3 s'->cJ C.X aU (Mf D hi) (ow ts) s'.heap->LstAt C.X (NN N D hi (λb=>b∈wr)) s'.heap (us++ys) D->R (.ok .next) s'):
  gN (model C.X.prog C.X.w) A (.compStart (.ListComp x [⟨t0,i0,[],0⟩,⟨.Name o po,z,[],0⟩] sc q) 1 tS (.ref D) aU) R s5:=by
 obtain⟨iI,I,Yy,rt,Yz,apN,rfl,it,st,E1,ig⟩:=hit
 have new:∀b∈rt,aS.heap.objs.size<=b/\b<s5.heap.objs.size:=λb hb=>⟨aD cM.size (E1 b hb),it.lt b (it.sub b hb)⟩
 have F':=F.more (V:=λb=>b∈rt) ((F.kp cM).trans iI) (aD cM.size iI.size) new
 have old:∀{b},(D<=b/\b<hi)->b∉rt:=λ{b}h q=>bx (bG h.2 F.kO) (new b q).1
 have a5:=a3.kp iI
 have kf:∀b ob,Fr aU b->s3.heap.get? b=ab ob->s5.heap.get? b=ab ob:=λb ob hb e=>iI.old b ob (F.fr hb).2.2 e
 have nn:∀a,NN N D hi (λb=>b∈wr∨b∈rt) a->NN N D hi (λb=>b∈wr) a∨s3.heap.objs.size<=a:=λa h=>h.elim (λh=>.inl (.inl h)) λh=>h.elim (λh=>.inl (.inr (.inl h))) λh=>h.elim (λh=>.inl (.inr (.inr h))) λh=>.inr (E1 a h)
 have ap:Ap C.X (NN N D hi (λb=>b∈wr)) N (λb=>b∈wr∨b∈rt) D hi s5 s5 Yy rt:=by
  refine⟨.refl _,λb h=>.inr h,λa h=>?_,a3.ng.tb,λb hb=>?_⟩
  ·exact h.elim (λh=>.inl (.inl h)) λh=>h.elim (λh=>.inl (.inr (.inl h))) λh=>h.elim (λh=>.inl (.inr (.inr h))) λh=>.inr (.inl h)
  ·have:¬(D<=b/\b<hi):=λq=>(ig b hb (old q)).elim (λw=>w (.inr (.inl q))) nofun
   exact⟨λe=>this ⟨bO e.symm,bI (bO e) F.yM⟩,λq=>this ⟨oF q.1,q.2⟩⟩
 have loop:=X1 (R:=R) (t0:=t0) (i0:=i0) (pos:=q) (iter:=z) (scope:=sc) (target:=.Name o po) (λn' s=>∃j',n'=l.length - j'/\Lp C.X N aU ts (λy=>y=n) r1 (λb=>b∈wr∨b∈rt) rt D hi s5 Yz l (us++ys) (λxs rest=>gather (λu=>(ab (put r1 j u)).bind (condT C.F elt (.lit (.bool true)))) xs=ab rest) j' s) (λn' s E h=>h.elim λj' h=>by
  rw[h.1]
  refine Mp F' it ap H hr (Yw hn E0 l4) ge Me hz (λs' mv f rk L=>?_) h.2
  exact hR s' ((Mv.of (M:=λb=>D<=b/\b<hi) iI).trans mv λd h=>h.imp id (E1 d)) f (L.to (λo e=>e) λq=>q.mono λb h=>h.imp id λh=>h.imp id .inl)) _
  ⟨0,rfl,.mk (.refl _) st (f3.mv kf) (kN.to (λy i t m=>rp y i t trivial) kf λt v q=>q.move nn (iI.kc a3.ng.tb)) (dP _) (L3.to (λo e=>iI.old _ _ (L3.nt a3.apart) e) λq=>q.move nn (iI.kc a3.ng.tb)) ho rfl⟩
 exact X2 loop λE=>it.self A _ _ _ st loop
def G2(F:Nat->List T->Option T)(r:aE)(i j:Nat)(elt s2:Ex)(xs rest:List T):Prop:=yo (λy=>(ev F s2 ((put r i y).set j ae)).bind λz=>(fe z).bind λm=>gather (λu=>(ev F elt (put ((put r i y).set j ae) j u)).map ab) m) xs=ab rest
def YA(hm:m≠.chain)(hy:gj y=true)(hz:gj z=true)(h1:Gd s1 .src c [y])(hc:qW c sc [(n,i),(o,j)]=ab c')(h2:Gd s2 .ib c' [z])(h3:Gd elt .val c' [x]):
  Gd (.ym i j elt s1 s2) m c [.ListComp x [⟨.Name n p,y,[],0⟩,⟨.Name o po,z,[],0⟩] sc q]:=λ{C k}H A env N r s t a e=>by
 refine aO e λtx e1 e=>aO e λl e2 e=>aO e λout ho e=>ifs e λE2 e=>?_
 subst e
 have S:=EI hc
 have nd:n≠o:=λe=>(hH.mp S.nd).1 (e▸bk)
 have cL:i≠j:=λe=>(hH.mp S.cL).1 (e▸bk)
 refine Mq a hm λ{use Q E}hQ=>Mr a S hy (λE=>h1 H a e1 l e2 E) λ{s₂ aU D aS I fp wr St eJ}v F it ap st f L=>?_
 have TG:=Yv (X:=C.X) (A:=A) (r:=r) (p:=p) nd cL rfl
 have loop:=X3 (R:=AL (model C.X.prog C.X.w) A E use Q (.ref D) aU.locals) (pos:=q) (i0:=y) (t0:=.Name n p) (target:=.Name o po) (elt:=x) (acc:=.ref D) (it:=.ref I) (scope:=sc) (vS hz aU) (λn' s=>∃j',n'=l.length - j'/\Lp C.X N aU [(n,i),(o,j)] no r (λb=>b∈wr) wr D aS.heap.objs.size aS St l out (G2 C.F r i j elt s2) j' s) (λn' s E h=>h.elim λj' h=>by
  rw[h.1]
  refine Mn F it ap (λv v=>rfl) TG h.2 (λs' mv f rk us rest L hg ho=>?_) (λy xs rest hg=>⟨_,rfl⟩) λyt r' s3 us rest hr gp hg ho cM EW F3 rp L3 nY=>?_
  ·cases hg
   rw[kq]at ho
   subst ho
   exact F.done (ap.sub mv) f L E2 hQ
  ·cases hr
   refine Yl hg λys EV hf EX hr=>aO hf λtz ez hf=>aO hf λlz YB hf=>?_
   refine mo (h2 H nY ez lz YB E) λxv s4 h4=>?_
   obtain⟨own,E3,j4,hit⟩:=h4
   cases E3 rfl
   refine mo (hit A E a.ra.handled) λtS s5 h5=>?_
   intro E'
   have key:=Yx (C:=C) (A:=A) (R:=λYC dC=>match YC with|.ok _=>∃m,m<l.length - j'/\∃j',m=l.length - j'/\Lp C.X N aU [(n,i),(o,j)] no r (λb=>b∈wr) wr D aS.heap.objs.size aS St l out (G2 C.F r i j elt s2) j' dC|.error e=>E' e dC) (z:=z) (q:=q) (po:=po) (t0:=.Name n p) (i0:=y) H F nd cL rfl (TG.keep _ _ rfl) cM F3 rp L3 nY j4 h5 h3 hf (by rw[<-ho,hr,<-fu,bQ]at E2;exact aD (bX _ _) E2) λs6 vU F6 L6=>?_
   ·exact key
   ·exact⟨_,less gp,j'+1,rfl,.mk (cM.trans (vU.sub λd h=>.inl h) λd h=>.inl h) (it.frame _ _ _ EW λb hb o e=>vU.old b o (λw=>(am5 w.1).elim (λl=>(ap.fp b hb).2 ⟨l,w.2⟩) λe=>(ap.fp b hb).1 e.symm) (it.nt b hb) e) F6 (λv v v h=>h.elim) gp L6 EX (by rw[<-ho,hr,fu])⟩) _ ⟨0,rfl,.mk (.refl _) st f (λv v v h=>h.elim) (dP _) L.start ho rfl⟩
 exact am4 loop (it.self A _ _ _ st loop)
end
def YD{α:Type}{l:List α}(h:2<=l.length):∃a b r,l=a::b::r:=by
 cases l with
 |nil=>exact aj h (by simp)
 |cons a l=>cases l with
  |nil=>exact aj h (by simp)
  |cons b r=>exact⟨a,b,r,rfl⟩
section
variable{prog:gK}{w:gZ}{A:aM}{E:ay->az->Prop}{s:az}
def YE{a:Addr}{vs:List ay}{n:Nat}{P:Fin->az->Prop}(ho:s.heap.get? a=ab (nE "list" vs.toArray n))
  (h0:KeysOf strKind (xJ vs)) (YF:∀bD ic rest,vs=bD::ic::rest->keyKind' (bD::ic::rest).toArray=pure oneType') (kK:vs.length<64)
  (h:∀dU:SortSt,(xK dU).Perm (xJ vs)->SortedToK strKind (xK dU) (xJ vs).size->P (.done (.ret .none)) {s with heap:=sortedHeap s.heap a vs ((xK dU).map (·.2)).reverse}):
  aA (model prog w) A (eP.«list.sort» ⟨[.ref a],[(bP "reverse",.bool true)]⟩) P E s:=by
 rw[list_sort_rev]
 have ha:a<s.heap.objs.size:=xj ho
 refine aG (listItems_at ho rfl ?_)
 refine aG (Ut ho rfl ?_)
 obtain⟨e1,Mt⟩:∃e1,(s.heap.update a (lL λz=> #[])).get? a=ab (nE "list" #[] e1):=⟨_,get?_update_seq ho (λz=> #[])⟩
 refine aG (Uu Mt rfl ?_)
 refine aG (wpAny_newTuple ?_)
 refine aG (wpAny_newList ?_)
 refine dN ?_
 have BN:(((s.heap.update a (lL λz=> #[])).push (nE "tuple" vs.toArray 0)).push (nE "list" #[] 0)).get? a=ab (nE "list" #[] e1):=by
  rw[am9 _ _ _ (by rw[size_push',xA];exact cW (va ha)),am9 _ _ _ (by rw[xA];exact cW ha)]
  exact Mt
 show aA (model prog w) A _ P E {s with heap:=((s.heap.update a (lL λz=> #[])).push (nE "tuple" vs.toArray 0)).push (nE "list" #[] 0)}
 have hsz:vs.toArray.size=vs.length:=by simp
 have fin:=h
 have Mu:(vs.toArray.zip vs.toArray).reverse.Perm (xJ vs):=Array.perm_iff_toList_perm.mpr (by rw[anb];exact anc _)
 dsimp only
 rw[ah rfl]
 refine aG (DA ?_)
 by_cases h2:vs.toArray.size<2
 ·rw[ah h2,ah h2]
  refine aG (aQ ?_)
  rw[StateT.run_pure]
  refine aG (aQ ?_)
  dsimp only
  refine aG (Uu BN rfl ?_)
  refine aG (Ut BN rfl ?_ (hsz2:=by
   simp only[if_true,Uv,ane];show(vs.toArray.zip vs.toArray).reverse.size<=_;rw[Uv,Array.size_zip,Uw];exact aD (anf _ _) (aD (cE h2) (by decide))))
  simp only[bne_self_eq_false,pA,if_false]
  refine aQ (fin (ang general' (vs.toArray.zip vs.toArray).reverse #[] 7 ae) Mu ?_)
  intro i j YG hj
  have:i=j:=by
   rw[J8]at hj
   have Mw:j=0:=anh.mp (bG hj (oJ (hsz▸h2)))
   exact(Nat.le_zero.mp (Mw▸YG)).trans Mw.symm
  subst this;exact KeyOrd.kle_refl _
 ·rw[ai h2,ai h2]
  rw[hsz]at h2
  obtain⟨bD,ic,rest,rfl⟩:=YD (eX.mp h2)
  rw[YF _ _ _ rfl]
  refine aG (aQ ?_)
  refine aG (eF (wpS_sortRunsK (κ:=strKind) strKind_oneLt (a₀:=xJ (bD::ic::rest)) (st:=ang oneType' ((bD::ic::rest).toArray.zip (bD::ic::rest).toArray).reverse #[] 7 ae)
   (Q:=λz dU=>(xK dU).Perm (xJ (bD::ic::rest))/\failedOf dU=ae/\SortedToK strKind (xK dU) (xJ (bD::ic::rest)).size)
   h0 ⟨Mu,rfl,rfl,rfl⟩ (by rw[J8];simp) (by rw[J8];exact kK) λdU a1 a2 a3=>⟨a1,a2,a3⟩) ?_ λz z e=>e)
  rintro ⟨⟨⟩,dU⟩ s' ⟨rfl,hp,hf,hs⟩
  dsimp only
  refine aG (Uu BN rfl ?_)
  refine aG (Ut BN rfl ?_ (hsz2:=by
   have e:(Array.map (λx=>x.snd) (xK dU)).size<=pq+1:=by
    refine aD (bO ((ane ..).trans (hp.size_eq.trans (J8 _)))) ?_;rw[Uw];exact aD (cE kK) (by decide)
   rw[ah rfl,Uv];exact e))
  rw[hf]
  simp only[bne_self_eq_false,pA,if_false]
  exact aQ (fin dU hp hs)
def YH{l:Addr}{vs:List ay}{ss:List Str}{Q:ay->az->Prop}(hl:s.heap.IsList l vs.toArray)(hS:DC vs ss)(kK:vs.length<64)
  (h:∀(out:Array ay)(vV:List Str),DC out.toList vV->vV.Perm ss->sortedS vV.reverse=true->Q (.ref (s.heap.objs.size+1)) {s with heap:=sortedAll s.heap vs out}):
  aA (model prog w) A (call (.builtin "sorted") [.ref l] [(bP "reverse",.bool true)]) Q E s:=by
 refine call_function_entry_kw kind_sorted plain_sorted entry_sorted (args_sorted_rev _ _) ?_
 unfold eP.«sorted»
 refine aG (m:=checkCount "sorted" 1 1 _) (aQ ?_)
 refine aG (collect_list hl ?_)
 refine aG (wpAny_newList ?_)
 have hsz:((s.heap.push (nE "list" #[] 0)).update s.heap.objs.size (lL (· ++vs.toArray))).objs.size=s.heap.objs.size+1:=by
  rw[xA,size_push']
 have Mx:(((s.heap.push (nE "list" #[] 0)).update s.heap.objs.size (lL (· ++vs.toArray))).push (nE "list" vs.toArray 0)).get? (s.heap.objs.size+1)=ab (nE "list" vs.toArray 0):=by
  rw[<-hsz];exact cB _ rfl
 show aA _ _ _ _ _ {s with heap:=((s.heap.push (nE "list" #[] 0)).update s.heap.objs.size (lL (· ++vs.toArray))).push (nE "list" vs.toArray 0)}
 rw[hsz]
 refine aG (dN (wpAny_call_entry_kw slot_list_sort ⟨_,Mx,rfl⟩ entry_list_sort (YE Mx hS.keysOf (λbD ic rest e=>keyKind_strs (by rw[<-e];exact hS)) kK λdU a1 a2=>⟨_,rfl,?_⟩) (args_list_sort_rev _ _)))
 obtain⟨vV,h1,h2,h3⟩:=sorted_out_str hS a1 a2
 refine aQ ⟨_,rfl,h _ vV.reverse ?_ ((anc _).trans h2) (by rw[List.reverse_reverse];exact h3)⟩
 rw[anb]
 have h4:=strsAre_map ((xK dU).map (·.2)).toList.reverse (λv hv=>h1.all v (AW.mp hv))
 rwa [qw,h1.strs]at h4
end
def YI{ys:List Str}:∀{cs:List Nat},yk ys=ab cs->ys=cs.map λc=>⟨#[c]⟩:=by
 induction ys with
 |nil=>intro cs h;cases h;rfl
 |cons x r ih=>
  intro cs h
  obtain⟨a⟩:=x
  obtain⟨l⟩:=a
  cases l with
  |nil=>exact aN h
  |cons c l=>cases l with
   |nil=>exact map_some (show(yk r).map (c::·)=ab cs from h) λds e1 e2=>by rw[<-e2,ih e1];rfl
   |cons=>exact aN h
def My(x:Nat)(l:List Nat):(tH x l).Perm (x::l):=by
 induction l with
 |nil=>exact .refl _
 |cons y r ih=>
  by_cases q:y<=x
  ·exact .of_eq (ah q)
  ·exact(amn (ai q)).trans ((ih.cons y).trans (.swap x y r))
theorem Mz:∀l,(vC l).Perm l
 |[]=>.refl _
 |x::r=>(My x _).trans ((Mz r).cons x)
def YJ(x:Nat)(l:List Nat)(h:l.Pairwise (· ≥·)):(tH x l).Pairwise (· ≥·):=by
 induction l with
 |nil=>exact T2 _ x
 |cons y r ih=>
  have hp:=u6.mp h
  by_cases q:y<=x
  ·rw[show tH x (y::r)=x::y::r from ah q]
   refine u6.mpr ⟨λz hz=>?_,h⟩
   rcases br.mp hz with rfl|hz
   ·exact q
   ·exact aD (hp.1 z hz) q
  ·rw[show tH x (y::r)=y::tH x r from ai q]
   refine u6.mpr ⟨λz hz=>?_,ih hp.2⟩
   rcases br.mp ((My x r).mem_iff.mp hz)with rfl|hz
   ·exact cE (xq.mp q)
   ·exact hp.1 z hz
theorem MA:∀l,(vC l).Pairwise (· ≥·)
 |[]=>.nil
 |x::r=>YJ x _ (MA r)
def YK{a b:List Nat}(p:a.Perm b)(ha:a.Pairwise (· ≥·))(hb:b.Pairwise (· ≥·)):a=b:=p.eq_of_pairwise (λz z z z h g=>DB g h) ha hb
def YL:∀(p:Nat)(cs:List Nat),risingS ⟨#[p]⟩ (cs.map λc=>⟨#[c]⟩)=true->(p::cs).Pairwise (· <=·):=by
 intro p cs
 induction cs generalizing p with
 |nil=>exactλh=>T2 _ p
 |cons x r ih=>
  intro h
  rw[qk]at h
  unfold risingS at h
  rw[AU]at h
  have h1:p<=x:=by
   have:=h.1
   simp only[ltCps]at this
   simp at this
   omega
  have ih:=ih x h.2
  have ip:=u6.mp ih
  refine u6.mpr ⟨λz hz=>?_,ih⟩
  rcases br.mp hz with rfl|hz
  ·exact h1
  ·exact aD h1 (ip.1 z hz)
def YM(cs:List Nat)(h:sortedS (cs.map λc=>(⟨#[c]⟩:Str))=true):cs.Pairwise (· <=·):=by
 cases cs with
 |nil=>exact .nil
 |cons p r=>exact YL p r h
def YN:∀{ys:List Str}{cs:List Nat},ys.Perm (cs.map λc=>⟨#[c]⟩)->∃ds:List Nat,ys=ds.map (λc=>⟨#[c]⟩)/\ds.Perm cs:=by
 intro ys cs h
 have hm:∀y∈ys,∃c:Nat,y=⟨#[c]⟩:=λy hy=>by
  obtain⟨c,_,e⟩:=dy.mp (h.mem_iff.mp hy);exact⟨c,e.symm⟩
 refine⟨ys.map λy=>y.cps.toList.headD 0,?_,?_⟩
 ·rw[fO]
  conv=>lhs;rw[<-DD ys]
  apply sU
  intro y hy
  obtain⟨c,rfl⟩:=hm y hy
  rfl
 ·have:=h.map λy:Str=>y.cps.toList.headD 0
  rw[fO]at this
  refine this.trans (.of_eq ?_)
  conv=>rhs;rw[<-DD cs]
  exact sU λc z=>rfl
section
variable{X:Kx}{N:Addr->Prop}
def MB{ys:List Str}:∀{q:List (Str×Tok)},q.map (·.1)=ys->DC (nC q) ys:=by
 intro q e
 subst e
 induction q with
 |nil=>exact .nil
 |cons a q ih=>exact .cons _ _ ih
def YO{h:Heap}:∀{vs:List ay}{cs:List Nat},DC vs (cs.map λc=>⟨#[c]⟩)->aL X N h (cs.map λc=>.str ⟨#[c]⟩) vs:=by
 intro vs cs hS
 induction cs generalizing vs with
 |nil=>cases hS;exact .nil
 |cons c cs ih=>cases hS with|cons y t r=>exact .cons (.str _ _ (by show 1<=lim;decide)) (ih r)
def BO{h:Heap}(wd:Wd X h):(h.objs.size==qf)=false:=by
 obtain⟨_,_,_,e,_⟩:=wd.g
 exact beq_eq_false_iff_ne.mpr (iS (bI (by decide) (bw e)))
end
section
variable{m:Mode}{c:Sc}{a b:Ex}{x:Str}{p pos kp jp:Pos}{ji:Nat}{bg mQ:aW}
def YP(hm:m.v=true)(hg:qX c x (s_ "sorted") (.builtin "sorted"))(ns:notStar bg=true)(h1:Gd a .val c [bg]):Gd (.yn a) m c [.Call (.Name x p) [bg] [⟨ab (bP "reverse"),.Constant (.bool true) ji jp,kp⟩] pos]:=λ{C k}H A env N r s t at' e=>by
 refine aO e λtx e1 ea=>eW ea λl q eb=>aO eb λys e2 ec=>aO ec λcs e3 ed=>ifs ed λkK ez=>?_
 clear e ea eb ec ed
 subst ez;subst q
 refine fQ at' hm (λE=>aG (jw at' hg.2.1 hg.2.2.2 (iX hg.2.2.1).1 ?_)) λz=>rfl
 refine callWith_builtin_kwB (keywords:=backToKw pos (keywordEach [⟨ab (bP "reverse"),.Constant (.bool true) ji jp,kp⟩] env)) (by rw[j3 ns];rfl) rfl ?_
 rw[j3 ns]
 refine evalArgs_kwB rfl (eZ (vl (h1 H at' e1) λv aB k₁ hv=>gb (kws_cons (alY (kws_nil ?_)))))
 refine hv.eQ λad vs ho hN hz hs=>?_
 have n1:=at'.ng.kp k₁
 obtain⟨q,rfl,eq⟩:=yB e2 hs
 have hS:=MB eq
 have ey:=YI e3
 have hl:ys.length=cs.length:=by rw[ey,bK]
 have vW:l.length=ys.length:=by rw[<-hs.length];exact ank hS
 refine fg (YH ho.isList hS (by rw[ank hS,hl];exact kK) λout vV q1 q2 q3 hsz=>?_)
 rw[ey]at q2
 obtain⟨ds,rfl,pd⟩:=YN q2
 rw[<-qw]at q3
 have q5:ds=vC cs:=YK (pd.trans (Mz cs).symm) (Ux.mp (YM _ q3)) (MA cs)
 obtain⟨ep,he⟩:=sortedAll_at aB.heap (nC q) out
 refine⟨k₁.trans (Kp.of (λb o e=>sortedAll_old e) hsz),?_⟩
 rw[<-q5]
 exact .lst (vs:=out.toList) ⟨ep,by rw[amt];exact he⟩ (λq=>aj (n1.lt _ q) (eX.mpr (gy _))) (by rw[bK,pd.length_eq,<-hl,<-vW];exact hz) (YO q1)
def YQ(hm:m.v=true)(hg:qX c x (s_ "len") (.builtin "len"))(ns:notStar bg=true)(h1:Gd a .bor c [bg]):Gd (.vF a) m c [.Call (.Name x p) [bg] [] pos]:=λ{C k}H A env N r s t at' e=>by
 refine aO e λtx e1 ea=>eW ea λl q ez=>?_
 clear e ea
 cases ez;subst q
 refine fQ at' hm (λE=>jy (jw at' hg.2.1 hg.2.2.2 (iX hg.2.2.1).1 ?_)) λz=>rfl
 rw[j3 ns]
 refine xC rfl (AP (eZ (bl (h1 H at' e1) λv aB k₁ hv=>gb ?_)))
 refine hv.list λad vs ho hz hs=>amu ho.isList (by rw[bU,hs.length];exact kC hz) ?_
 rw[bU,hs.length]
 exact⟨k₁.trans Kp.tok,.int _ _⟩
def YR(hm:m.vo=true)(h:a.isNil=true):Gd (.jZ a b) m c [.Dict [] [] p]:=λ{C k}H A env N r s t at_ e=>by
 cases (ah h).symm.trans e
 obtain⟨o,ho,hd⟩:=sN.mp (Heap.DictOf.new (knd:=strKind C.X.prog C.X.w) s.heap)
 exact Bx at_ hm (λE=>wpAny_Dict_empty ⟨Kp.push,.aY ho hd (yr at_.ng) (dP _) (BO at_.wd) .nil,_,rfl,bj _,λz=>.aY ho hd (dP _) (BO at_.wd) .nil⟩) λz=>rfl
def YS(hm:m.vo=true)(h:a.isNil=false)(h1:Gd a .val c [bg])(h2:Gd b .val c [mQ]):Gd (.jZ a b) m c [.Dict [ab bg] [mQ] p]:=λ{C k}H A env N r s t at_ e=>by
 refine aO ((ai (by rw[h];exact bT)).symm.trans e) λtk e1 e=>ia e λks q ea=>aO ea λtv e2 eb=>ff eb λvi q' ez=>?_
 clear e ea eb
 cases ez;subst q;subst q'
 have k0:Kp C.X s {s with heap:=s.heap.push {cls:=.type "dict",data:=.dict #[]}}:=Kp.push
 refine Bx at_ hm (λE=>wpAny_Dict_pairs (knd:=strKind C.X.prog C.X.w) (pairs:=[(eval bg env,do let x <-eval mQ env;xy p;pure x)]) rfl (List.cons_ne_nil _ _) (by show 1<=15;decide) (evalPairs_cons ?_)) λz=>rfl
 have a0:=at_.kp k0
 refine vl (h1 H a0 e1) λkv aB k₁ bD=>aG (vl (h2 H (a0.kp k₁) e2) λvv s₂ k₂ ic=>aG (lB (aQ (evalPairs_nil ?_))))
 have fE:=k₁.trans k₂
 refine bD.c6 λkt kl=>ic.eR λvt=>⟨[(ks,.int vi vt)],⟨uZ _ _ _ _,rfl,trivial⟩,?_,λh' hd hs=>?_⟩
 ·exact(Heap.DictOf.new (knd:=strKind C.X.prog C.X.w) s.heap).at λo eo=>fE.old _ _ (vH at_.ng) eo
 ·obtain⟨o,ho,hd⟩:=sN.mp hd
  have mv:Mv C.X (λb=>b=s.heap.objs.size) s₂ {s₂ with heap:=h',toks:=s₂.toks+1}:=Mv.put (fE.old _ _ (vH at_.ng) (cB s.heap rfl)) (oP rfl rfl) (λb o hb e=>(hs.2 b hb).trans e) (bO hs.1.symm)
  have kk:Kp C.X s {s₂ with heap:=h',toks:=s₂.toks+1}:=((Mv.of (M:=λz=>False) (k0.trans fE)).trans mv λd h=>.inr (bO h.symm)).kp λz q=>q
  exact⟨kk,.aY ho hd (yr at_.ng) (show 1<=65536 by decide) (BO at_.wd) (.cons ⟨rfl,kl,vt,rfl⟩ .nil),_,rfl,bj _,λz=>.aY ho hd (show 1<=65536 by decide) (BO at_.wd) (.cons ⟨rfl,kl,vt,rfl⟩ .nil)⟩
end
def Ow(o:List Nat)(r:aE)(i:Nat):Prop:=o.contains i=true/\(get r i).isSome=true
structure Fw(X:Kx)(env:Env)(c:Sc)(aH M N:Addr->Prop)(ad:Nat->Addr)(r:aE)(h:Heap):Prop where
 ck:cJ X env M (ow c.slots) h
 mn:∀a,M a->N a
 m0:∀a,M a->¬aH a
 n0:∀a,aH a->N a
 nd:(c.slots.map (·.1)).Nodup
 cL:(c.slots.map (·.2)).Nodup
 adr:∀i,Ow c.own r i->M (ad i)/\¬Fr env (ad i)
 own:∀x i t,c.slots.lookup x=ab i->c.own.contains i=true->get r i=ab t->t.obj=true/\Rd env h x (.ref (ad i))
 gn:∀i j,Ow c.own r i->Ow c.own r j->ad i=ad j->i=j
noncomputable def YT(X:Kx)(N:Addr->Prop)(h:Heap):Fl->Flow->Prop
 |.next,f=>f=.next
 |.brk,f=>f=.brk
 |.ret t,f=>∃v,f=.ret v/\VR X N h t v
noncomputable def Fl.E4:Fl->Bool
 |.ret _=>true
 |_=>false
noncomputable def cy(c:Sc)(o:List Nat):Sc:={c with own:=o}
inductive Left(X:Kx)(k:Nat)(A:aM)(env:Env)(c:Sc)(aH M N:Addr->Prop)(s:az)(fl:Fl)(r':aE)(f:Flow)(s':az):Prop
 |mk {M' N' ad} (fo:YT X N' s'.heap fl f) (mv:Mv X M s s') (n0:∀a,aH a->N' a) (m:∀a,M' a->M a∨s.heap.objs.size<=a) (n:∀a,N' a->N a∨s.heap.objs.size<=a)
  (o:fl.E4=true∨(At X k A env c N' r' s'/\Fw X env c aH M' N' ad r' s'.heap))
def Rd.uniq{env:Env}{h:Heap}{x:Str}{v u:ay}(a:Rd env h x v)(b:Rd env h x u):v=u:=by
 rcases a with a|a
 ·rcases b with b|b
  ·obtain⟨_,m,n,e⟩:=a
   obtain⟨_,m',n',e'⟩:=b
   exact Option.some.inj (e.symm.trans ((Ns.uniq n n' x).trans e'))
  ·exact b.1.elim (λq=>nomatch a.1.symm.trans q) λq=>nomatch a.1.symm.trans q
 ·rcases b with b|b
  ·exact a.1.elim (λq=>nomatch b.1.symm.trans q) λq=>nomatch b.1.symm.trans q
  ·obtain⟨_,c,l,o,e1,e2⟩:=a
   obtain⟨_,c',l',o',YU,E5⟩:=b
   cases l.symm.trans l'
   cases e1.symm.trans YU
   cases e2.symm.trans E5
   rfl
def BP:∀{l:List (Str×Nat)}{x y:Str}{i:Nat},(l.map (·.2)).Nodup->l.lookup x=ab i->l.lookup y=ab i->x=y:=by
 intro l x y i
 induction l with
 |nil=>exactλz h z=>aN h
 |cons p l ih=>
  intro nd h1 h2
  have cT:=hH.mp nd
  rw[cD]at h1 h2
  cases q1:x==p.1<;>cases q2:y==p.1<;>rw[q1]at h1<;>rw[q2]at h2
  ·exact ih cT.2 h1 h2
  ·exact(cT.1 (dy.mpr ⟨_,lookup_mem h1,(Option.some.inj h2).symm⟩)).elim
  ·exact(cT.1 (dy.mpr ⟨_,lookup_mem h2,(Option.some.inj h1).symm⟩)).elim
  ·rw[ao q1,ao q2]
inductive MC(X:Kx)(env:Env)(c:Sc)(N V:Addr->Prop)(ad ad':Nat->Addr)(o':List Nat)(r:aE)(s s':az)(x:Str)(i:Nat)(t:T):Prop
 |old (g:get r i=ab t) (rd:∀v,Rd env s.heap x v->Rd env s'.heap x v) (h:c.own.contains i=true->¬V (ad i)/\ad' i=ad i) (ho:o'.contains i=c.own.contains i)
 |new {v} (rd:Rd env s'.heap x v) (hv:Vo X N s'.heap (o'.contains i) t v) (h:o'.contains i=true->t.obj=true/\v=.ref (ad' i))
section
variable{X:Kx}{k:Nat}{A:aM}{env:Env}{c:Sc}{aH M N V:Addr->Prop}{ad ad':Nat->Addr}{o':List Nat}{r r':aE}{s s':az}{E:ay->az->Prop}{t:T}{v:ay}
def VB.MD{N':Addr->Prop}(n:NG X N s.heap)(ap:Apart s.heap)(q:Mv X V s s')(h:∀a,V a->N a)(up:∀a,N' a->N a∨s.heap.objs.size<=a)(x:VB X N s.heap t v)(hv:∀a,v=.ref a->¬V a):VB X N' s'.heap t v:=by
 have k:=q.kc n.tb h
 cases x with
 |of x=>exact .of (x.move up k)
 |lst ho hz hs=>exact .lst (ho.elim λo e=>⟨o,q.old _ _ (hv _ rfl) (mI ap e rfl) e⟩) hz (hs.move up k)
 |aY ho hd hz hq hs=>exact .aY (q.old _ _ (hv _ rfl) (mI ap ho (dict_cls (a:=0) hd)) ho) hd hz hq hs
def VB.mv(n:NG X N s.heap)(ap:Apart s.heap)(q:Mv X V s s')(h:∀a,V a->N a)(x:VB X N s.heap t v)(hv:∀a,v=.ref a->¬V a):VB X N s'.heap t v:=x.MD n ap q h (λz=>.inl) hv
def VB.sub{N':Addr->Prop}{h:Heap}(hN:∀a,N' a->N a∨h.objs.size<=a)(x:VB X N h t v):VB X N' h t v:=x.move hN (λz z z e=>e) λz z z z e=>e
def VB.fz{N':Addr->Prop}{h:Heap}(hN:∀a,N' a->N a)(hd:∀d,v=.ref d->¬N' d)(x:VB X N h t v):VR X N' h t v:=by
 cases x with
 |of x=>exact x.mono hN
 |lst ho hz hs=>exact .lst ho (hd _ rfl) hz (hs.mono hN)
 |aY ho oV hz hq hs=>exact .aY ho oV (hd _ rfl) hz hq hs
def ME{h:Heap}{d:Addr}(ho:t.obj=true)(x:VB X N h t (.ref d)):∃o T,h.get? d=ab o/\o.cls=.type T:=by
 cases t with
 |lst l=>exact VB.list (P:=λv=>∀d,v=.ref d->∃o T,h.get? d=ab o/\o.cls=.type T) x (λa vs h1 z z d e=>by cases e;exact h1.elim λz e=>⟨_,_,e,rfl⟩) d rfl
 |aY l=>exact VB.dict (P:=λv=>∀d,v=.ref d->∃o T,h.get? d=ab o/\o.cls=.type T) x (λa o aZ h1 h2 z z z d e=>by cases e;exact⟨o,_,h1,dict_cls (a:=0) h2⟩) d rfl
 |_=>exact aj ho bT
def VB.nt{h:Heap}{d:Addr}(ap:Apart h)(ho:t.obj=true)(x:VB X N h t (.ref d)):d∉aV:=(ME ho x).elim λy z=>z.elim λy z=>mI ap z.1 z.2
def VB.lt{h:Heap}{d:Addr}(ho:t.obj=true)(x:VB X N h t (.ref d)):d<h.objs.size:=(ME ho x).elim λy z=>z.elim λy z=>bw z.1
def Fw.kp(F:Fw X env c aH M N ad r s.heap)(a:At X k A env c N r s)(q:Kp X s s'):Fw X env c aH M N ad r s'.heap:=
 have kk:∀b o,Fr env b->s.heap.get? b=ab o->s'.heap.get? b=ab o:=λb o hb e=>q.old b o (a.ec.nt hb) e
 ⟨F.ck.mv kk,F.mn,F.m0,F.n0,F.nd,F.cL,F.adr,λx i t h1 h2 h3=>(F.own x i t h1 h2 h3).imp id λz=>z.to λb o hb e=>kk b o (hb.imp id λq=>⟨x,q⟩) e,F.gn⟩
def At.grow{N':Addr->Prop}(a:At X k A env c N r s)(q:Kp X s s')(ng:NG X N' s'.heap)(hN:∀b,N' b->N b∨s.heap.objs.size<=b):At X k A env c N' r s':=
 have keep:=q.kc a.ng.tb
 ⟨a.ec.move (λb o z e=>q.old b o (a.ec.nt z) e) (λx=>x.move hN keep λb o T c e=>q.old b o (mI a.apart e c) e) λx=>x.move hN keep,a.wd.kp q,ng,a.ra⟩
def Fw.grow{M' N' tT:Addr->Prop}{h:Heap}(F:Fw X env c aH M N ad r h)(hM:∀a,M a->M' a)(mn:∀a,M' a->N' a)(m0:∀a,M' a->¬tT a)(n0:∀a,tT a->N' a):Fw X env c tT M' N' ad r h:=
 ⟨⟨F.ck.kind,F.ck.loc.imp (hM _) id,λx hx=>(F.ck.dz x hx).imp id λz=>⟨z.1,z.2.elim λa q=>⟨a,q.1,hM _ q.2.1,q.2.2⟩⟩,F.ck.inj,F.ck.ne⟩,mn,m0,n0,F.nd,F.cL,λi h=>(F.adr i h).imp (hM _) id,F.own,F.gn⟩
def MG{N':Addr->Prop}(up:∀a,N' a->N a∨s.heap.objs.size<=a)(nn:∀b,N b->N' b)(ng:NG X N' s'.heap)(a:At X k A env c N r s)(F:Fw X env c aH M N ad r s.heap)(mv:Mv X V s s')(hN:∀b,V b->N b)(ck:cJ X env M (ow c.slots) s'.heap)
  (dz:∀x b,env.cells.lookup x=ab b->b∉aV->(∃v,s.heap.IsCell b v)->∃v,s'.heap.IsCell b v) (st:∀x i t,c.slots.lookup x=ab i->get r' i=ab t->MC X env c N' V ad ad' o' r s s' x i t)
  (adr:∀i,Ow o' r' i->M (ad' i)/\¬Fr env (ad' i)) (gn:∀i j,Ow o' r' i->Ow o' r' j->ad' i=ad' j->i=j):
  At X k A env (cy c o') N' r' s'/\Fw X env (cy c o') aH M N' ad' r' s'.heap:=by
 refine⟨⟨⟨a.ec.kind,a.ec.names,a.ec.globals,a.ec.builtins,a.ec.vK,a.ec.jv,a.ec.has,λx b e=>(a.ec.dz x b e).imp (dz x b e (a.ec.jv x b e)) id,a.ec.inj,λx i t h1 h2=>?_⟩,a.wd.mv a.ng mv hN,ng,a.ra⟩,
  ⟨ck,λb h=>nn b (F.mn b h),F.m0,λb h=>nn b (F.n0 b h),F.nd,F.cL,adr,λx i t h1 h2 h3=>?_,gn⟩⟩
 ·cases st x i t h1 h2 with
  |new rd hv h=>exact⟨_,rd,hv⟩
  |old g rd h ho=>
   refine(a.ec.rd x i t h1 g).elim λv z=>⟨v,rd v z.1,?_⟩
   show Vo X N' s'.heap (o'.contains i) t v
   rw[ho]
   cases q:c.own.contains i with
   |false=>exact(q▸z.2:Vo X N s.heap false t v).move up (mv.kc a.ng.tb hN)
   |true=>
    refine VB.MD a.ng a.apart mv hN up (q▸z.2:Vo X N s.heap true t v) λb e=>?_
    cases (Rd.uniq z.1 (F.own x i t h1 q g).2).symm.trans e
    exact(h q).1
 ·cases st x i t h1 h3 with
  |new rd hv h=>exact⟨(h h2).1,(h h2).2▸rd⟩
  |old g rd h ho=>
   have h2:=ho.symm.trans h2
   rw[(h h2).2]
   exact(F.own x i t h1 h2 g).imp id (rd _)
def upd(a:At X k A env c N r s)(F:Fw X env c aH M N ad r s.heap)(mv:Mv X V s s')(hN:∀b,V b->N b)(ck:cJ X env M (ow c.slots) s'.heap)
  (dz:∀x b,env.cells.lookup x=ab b->b∉aV->(∃v,s.heap.IsCell b v)->∃v,s'.heap.IsCell b v) (st:∀x i t,c.slots.lookup x=ab i->get r' i=ab t->MC X env c N V ad ad' o' r s s' x i t)
  (adr:∀i,Ow o' r' i->M (ad' i)/\¬Fr env (ad' i)) (gn:∀i j,Ow o' r' i->Ow o' r' j->ad' i=ad' j->i=j):
  At X k A env (cy c o') N r' s'/\Fw X env (cy c o') aH M N ad' r' s'.heap:=
 MG (λz=>.inl) (λz=>id) (a.ng.mv mv) a F mv hN ck dz st adr gn
noncomputable def d5(o ks:List Nat):List Nat:=o.filter λi=>!ks.contains i
def pM(o ks:List Nat)(i:Nat):(d5 o ks).contains i=true↔o.contains i=true/\ks.contains i=false:=by
 unfold d5
 rw[jq,DE,jq,DF]
def freeze(a:At X k A env c N r s)(F:Fw X env c aH M N ad r s.heap)(fz:List Nat):
  ∃M' N',(∀b,M' b->M b)/\(∀b,N' b->N b)/\(∀b,aH b->N' b)/\At X k A env (cy c (d5 c.own fz)) N' r s/\Fw X env (cy c (d5 c.own fz)) aH M' N' ad r s.heap:=by
 have vb:∀{x i t},c.slots.lookup x=ab i->c.own.contains i=true->get r i=ab t->VB X N s.heap t (.ref (ad i))/\t.obj=true:=λ{x i t}h1 q g=>
  (a.ec.rd x i t h1 g).elim λv z=>have f:=F.own x i t h1 q g;⟨(z.1.uniq f.2)▸(q▸z.2:Vo X N s.heap true t v),f.1⟩
 obtain⟨Fz,hF⟩:∃Fz:Addr->Prop,∀b,Fz b↔∃x i t,c.slots.lookup x=ab i/\c.own.contains i=true/\get r i=ab t/\fz.contains i=true/\b=ad i:=⟨_,λy=>Iff.rfl⟩
 have yO:∀b,Fz b->(M b/\¬Fr env b)/\b∉aV:=λb h=>by
  obtain⟨x,i,t,h1,h2,h3,_,rfl⟩:=(hF b).mp h
  exact⟨F.adr i ⟨h2,by rw[h3];rfl⟩,VB.nt a.apart (vb h1 h2 h3).2 (vb h1 h2 h3).1⟩
 have nf:∀i,Ow (d5 c.own fz) r i->¬Fz (ad i):=λi h q=>by
  obtain⟨x,j,t,h1,h2,h3,h4,e⟩:=(hF _).mp q
  have d:=(pM c.own fz i).mp h.1
  cases F.gn i j ⟨d.1,h.2⟩ ⟨h2,by rw[h3];rfl⟩ e
  exact nomatch d.2.symm.trans h4
 have sub:∀i,Ow (d5 c.own fz) r i->Ow c.own r i:=λi h=>⟨((pM c.own fz i).mp h.1).1,h.2⟩
 refine⟨λb=>M b/\¬Fz b,λb=>N b/\¬Fz b,λb h=>h.1,λb h=>h.1,λb h=>⟨F.n0 b h,λq=>F.m0 b (yO b q).1.1 h⟩,
  ⟨a.ec.to (λy y y e=>e) λx i t h1 h2 y=>?_,a.wd,⟨λb hb=>⟨a.ng.tb b hb,λq=>(yO b q).2 hb⟩,λb h=>a.ng.lt b h.1,λb h=>a.ng.wd b h.1⟩,a.ra⟩,
  ⟨⟨F.ck.kind,⟨⟨F.ck.loc.1,λq=>(yO _ q).1.2 (.inl rfl)⟩,F.ck.loc.2⟩,λx hx=>(F.ck.dz x hx).imp id λz=>⟨z.1,z.2.elim λb q=>⟨b,q.1,⟨q.2.1,λw=>(yO _ w).1.2 (.inr ⟨x,q.1⟩)⟩,q.2.2⟩⟩,F.ck.inj,F.ck.ne⟩,
   λb h=>⟨F.mn b h.1,h.2⟩,λb h=>F.m0 b h.1,λb h=>⟨F.n0 b h,λq=>F.m0 b (yO b q).1.1 h⟩,F.nd,F.cL,λi h=>⟨⟨(F.adr i (sub i h)).1,nf i h⟩,(F.adr i (sub i h)).2⟩,λx i t h1 h2=>F.own x i t h1 ((pM c.own fz i).mp h2).1,λi j h1 h2=>F.gn i j (sub i h1) (sub j h2)⟩⟩
 refine(a.ec.rd x i t h1 h2).elim λv z=>⟨v,z.1,?_⟩
 show Vo X (λb=>N b/\¬Fz b) s.heap ((d5 c.own fz).contains i) t v
 cases q:(d5 c.own fz).contains i with
 |true=>
  have d:=((pM c.own fz i).mp q).1
  exact VB.sub (λb h=>.inl h.1) (d▸z.2:Vo X N s.heap true t v)
 |false=>
  cases q':c.own.contains i with
  |false=>exact(q'▸z.2:Vo X N s.heap false t v).mono λb h=>h.1
  |true=>
   refine VB.fz (λb h=>h.1) (λd e h=>h.2 ((hF d).mpr ⟨x,i,t,h1,q',h2,?_,?_⟩)) (q'▸z.2:Vo X N s.heap true t v)
   ·cases w:fz.contains i with
    |true=>rfl
    |false=>exact aj ((pM c.own fz i).mpr ⟨q',w⟩) (by rw[q];exact bT)
   ·cases (z.1.uniq (F.own x i t h1 q' h2).2).symm.trans e;rfl
end
noncomputable def BQ(o:List Nat)(k:Nat):List Nat:=if o.contains k=true then o else k::o
noncomputable def j5(b:Bool)(o:List Nat)(k:Nat):List Nat:=if b then BQ o k else d5 o [k]
noncomputable def nZ(v:ay):Addr:=(yv v).getD 0
def MH(o:List Nat)(k i:Nat):(BQ o k).contains i=true↔i=k∨o.contains i=true:=by
 unfold BQ
 by_cases h:o.contains k=true
 ·rw[ah h];exact⟨.inr,λz=>z.elim (λe=>e.symm▸h) id⟩
 ·rw[ai h,List.contains_cons,JX,aw]
def BR(b:Bool)(o:List Nat)(k:Nat):(j5 b o k).contains k=b:=by
 cases b with
 |true=>exact(MH o k k).mpr (.inl rfl)
 |false=>exact px.mpr λq=>nomatch ((pM o [k] k).mp q).2.symm.trans (jq.mpr (b4.mpr rfl))
def MI{a b:Bool}(h:a=true↔b=true):a=b:=xr.mpr h
def MJ{o ks:List Nat}{i:Nat}(h:i∉ks):(d5 o ks).contains i=o.contains i:=MI ((pM o ks i).trans ⟨λz=>z.1,λz=>⟨z,px.mpr λq=>h (jq.mp q)⟩⟩)
def vX{b:Bool}{o:List Nat}{k i:Nat}(h:i≠k):(j5 b o k).contains i=o.contains i:=by
 cases b with
 |true=>exact MI ((MH o k i).trans ⟨λz=>z.resolve_left h,.inr⟩)
 |false=>exact MJ λq=>h (b4.mp q)
section
variable{X:Kx}{k:Nat}{A:aM}{env:Env}{c:Sc}{aH M N:Addr->Prop}{ad ad':Nat->Addr}{o':List Nat}{r r':aE}{s s' aB:az}{E:ay->az->Prop}{t:T}{v:ay}{x:Str}{k₀:Nat}
def E6(a:At X k A env c N r s)(F:Fw X env c aH M N ad r s.heap){ps:List (Str×Pos)}{ks:List Nat}{xs:List T}{vs:List ay}(hs:∀(j:Nat)(p:Str×Pos)i,ps[j]?=ab p->ks[j]?=ab i->c.slots.lookup p.1=ab i)(hl:ps.length=ks.length)(nd:ks.Nodup)
  (hp:putAll r ks xs=ab r') (S:fD X env M (ow c.slots) (ps.zip vs) s s') (hv:∀(j:Nat)i t,ks[j]?=ab i->xs[j]?=ab t->∃v,vs[j]?=ab v/\Vo X N s'.heap (o'.contains i) t v/\(o'.contains i=true->t.obj=true/\v=.ref (ad' i)))
  (ho:∀i,i∉ks->o'.contains i=c.own.contains i/\ad' i=ad i) (adr:∀i,Ow o' r' i->M (ad' i)/\¬Fr env (ad' i)) (gn:∀i j,Ow o' r' i->Ow o' r' j->ad' i=ad' j->i=j):
  At X k A env (cy c o') N r' s'/\Fw X env (cy c o') aH M N ad' r' s'.heap:=by
 refine upd a F S.mv (λb h=>F.mn b h.1) S.ck S.dz (λx i t h1 h2=>?_) adr gn
 by_cases q:i∈ks
 ·obtain⟨j,hj⟩:=sY.mp q
  have jl:j<ps.length:=hl.symm▸(iR.mp hj).1
  obtain⟨v,e1,e2,e3⟩:=hv j i t hj (EK hp nd hj h2)
  have e:=BP F.cL h1 (hs j _ i (iu jl) hj)
  exact .new (e▸S.rd (ps[j]'(jl),v) (dZ (qA.mpr ⟨iu jl,e1⟩))) e2 e3
 ·refine .old ((vQ hp q).symm.trans h2) (λv w=>S.fS x v (λz=>?_) w) (λw=>⟨λz=>(F.adr i ⟨w,?_⟩).2 z.2,(ho i q).2⟩) (ho i q).1
  ·obtain⟨e,he,e1⟩:=dy.mp z
   obtain⟨j,hj⟩:=sY.mp he
   have hj:=qA.mp hj
   have jl:j<ks.length:=hl▸(iR.mp hj.1).1
   have h3:=hs j _ _ hj.1 (iu jl)
   rw[e1,h1]at h3
   exact q (Option.some.inj h3▸anl jl)
  ·rw[<-vQ hp q,h2];rfl
def yP(a:At X k A env c N r s)(F:Fw X env c aH M N ad r s.heap){ps:List (Str×Pos)}{ks:List Nat}{xs:List T}{vs:List ay}(hs:∀(j:Nat)(p:Str×Pos)i,ps[j]?=ab p->ks[j]?=ab i->c.slots.lookup p.1=ab i)(hl:ps.length=ks.length)(nd:ks.Nodup)
  (hp:putAll r ks xs=ab r') (S:fD X env M (ow c.slots) (ps.zip vs) s s') (hv:aL X N s.heap xs vs):At X k A env (cy c (d5 c.own ks)) N r' s'/\Fw X env (cy c (d5 c.own ks)) aH M N ad r' s'.heap:=by
 have out:∀{i},(d5 c.own ks).contains i=true->i∉ks:=λ{i}h q=>nomatch ((pM _ _ _).mp h).2.symm.trans (jq.mpr q)
 have sub:∀i,Ow (d5 c.own ks) r' i->Ow c.own r i:=λi h=>⟨((pM _ _ _).mp h.1).1,vQ hp (out h.1)▸h.2⟩
 refine E6 a F hs hl nd hp S (λj i t h1 h2=>?_) (λi h=>⟨MJ h,rfl⟩) (λi h=>F.adr i (sub i h)) λi j h1 h2=>F.gn i j (sub i h1) (sub j h2)
 obtain⟨v,e1,e2⟩:=hv.get h2
 have no:(d5 c.own ks).contains i=false:=px.mpr λq=>out q (dZ h1)
 exact⟨v,e1,by rw[no];exact e2.mv a.ng S.m F.mn,λq=>nomatch no.symm.trans q⟩
def l8(o:Bool)(a:At X k A env c N r s)(F:Fw X env c aH M N ad r s.heap)(hx:c.slots.lookup x=ab k₀)(hv:Vo X N s.heap o t v)(ho:o=true->t.obj=true/\∃b,v=.ref b/\M b/\¬Fr env b/\∀i,Ow c.own r i->ad i≠b){Q:Unit->az->Prop}
  (q:∀s' ad',Mv X M s s'->At X k A env (cy c (j5 o c.own k₀)) N (put r k₀ t) s'->Fw X env (cy c (j5 o c.own k₀)) aH M N ad' (put r k₀ t) s'.heap->Q () s'):aA (model X.prog X.w) A (xD env x v) Q E s:=by
 have hs:∀{p:Pos},∀(j:Nat)(p':Str×Pos)i,[(x,p)][j]?=ab p'->[k₀][j]?=ab i->c.slots.lookup p'.1=ab i:=λ{p}j p' i h1 h2=>by
  cases j with
  |zero=>cases h1;cases h2;exact hx
  |succ j=>exact aN h2
 refine EL (p:=default) F.ck (by rw[ow,hx];rfl) λs' S=>?_
 have U:=E6 (o':=j5 o c.own k₀) (ad':=λi=>if i=k₀ then nZ v else ad i) (ps:=[(x,default)]) (ks:=[k₀]) (xs:=[t]) (vs:=[v]) (r':=put r k₀ t) a F hs rfl (hH.mpr ⟨gM,.nil⟩) rfl S (λj i u h1 h2=>?_) (λi h=>?_) (λi h=>?_) λi j h1 h2 e=>?_
 ·exact q s' _ S.m U.1 U.2
 ·cases j with
  |succ j=>exact aN h2
  |zero=>
   cases h1;cases h2
   rw[BR]
   refine⟨v,rfl,hv.map (λz=>?_) λz=>z.mv a.ng S.m F.mn,λw=>⟨(ho w).1,?_⟩⟩
   ·cases o with
    |false=>exact .of ((hv:VR X N s.heap t v).mv a.ng S.m F.mn)
    |true=>
     obtain⟨_,b',e',_,n,_⟩:=ho rfl
     refine VB.mv a.ng a.apart S.mv (λb h=>F.mn b h.1) z λb e w=>?_
     cases e.symm.trans e'
     exact n w.2
   ·obtain⟨_,b',e',_⟩:=ho w
    rw[ah rfl,e'];rfl
 ·have n:i≠k₀:=λe=>h (b4.mpr e)
  exact⟨vX n,ai n⟩
 ·by_cases e:i=k₀
  ·subst e
   obtain⟨_,b',e',m,n,_⟩:=ho ((BR o c.own i).symm.trans h.1)
   rw[ah rfl,e'];exact⟨m,n⟩
  ·rw[ai e];exact F.adr i ⟨(vX e).symm.trans h.1,lZ e▸h.2⟩
 ·have aux:∀j,Ow (j5 o c.own k₀) (put r k₀ t) k₀->Ow (j5 o c.own k₀) (put r k₀ t) j->j≠k₀->nZ v=ad j->False:=λj w1 w2 n e=>by
   obtain⟨_,b',e',_,_,f⟩:=ho ((BR o c.own k₀).symm.trans w1.1)
   rw[e']at e
   exact f j ⟨(vX n).symm.trans w2.1,lZ n▸w2.2⟩ e.symm
  by_cases e1:i=k₀<;>by_cases e2:j=k₀
  ·exact e1.trans e2.symm
  ·rw[ah e1,ai e2]at e;exact(aux j (e1▸h1) h2 e2 e).elim
  ·rw[ai e1,ah e2]at e;exact(aux i (e2▸h2) h1 e1 e.symm).elim
  ·rw[ai e1,ai e2]at e
   exact F.gn i j ⟨(vX e1).symm.trans h1.1,lZ e1▸h1.2⟩ ⟨(vX e2).symm.trans h2.1,lZ e2▸h2.2⟩ e
def MK{P Pm:Addr->Prop}(a:At X k A env c N r s)(F:Fw X env c aH M N ad r s.heap)(k₁:Kp X s aB)(hP:∀b,P b->s.heap.objs.size<=b/\b<aB.heap.objs.size)(hm:∀b,Pm b->P b):
  At X k A env c (λb=>N b∨P b) r aB/\Fw X env c aH (λb=>M b∨Pm b) (λb=>N b∨P b) ad r aB.heap:=
 ⟨a.grow k₁ (a.ng.more (λb h=>.inl h) a.wd k₁.size λb q=>q.imp id (hP b)) λb q=>q.imp id λq=>(hP b q).1,
  (F.kp a k₁).grow (λb h=>.inl h) (λb h=>h.imp (F.mn b) (hm b)) (λb h q=>h.elim (λh=>F.m0 b h q) λh=>bx (a.ng.lt b (F.n0 b q)) (hP b (hm b h)).1) λb h=>.inl (F.n0 b h)⟩
def n7(a:At X k A env c N r s)(F:Fw X env c aH M N ad r s.heap){b:Addr}(h:s.heap.objs.size<=b):¬Fr env b/\∀i,Ow c.own r i->ad i≠b:=by
 refine⟨λq=>?_,λi w e=>bx (a.ng.lt _ (F.mn _ (F.adr i w).1)) (e▸h)⟩
 rcases q with rfl|⟨y,e⟩
 ·exact bx (a.ng.lt _ (F.mn _ F.ck.loc.1)) h
 ·exact(a.ec.dz y b e).1.elim λv z=>z.elim λo z=>bx (bw z.1) h
def other{V:Addr->Prop}(a:At X k A env c N r s)(F:Fw X env c aH M N ad r s.heap)(mv:Mv X V s s')(hN:∀b,V b->N b)(hf:∀b,Fr env b->¬V b)(hM:∀b,M b->¬V b):At X k A env c N r s'/\Fw X env c aH M N ad r s'.heap:=
 have kf:∀b o,Fr env b->s.heap.get? b=ab o->s'.heap.get? b=ab o:=λb o hb e=>mv.old b o (hf b hb) (a.ec.nt hb) e
 upd (o':=c.own) a F mv hN (F.ck.mv kf) (λx b e n q=>IsCell.to q λo z=>kf b o (.inr ⟨x,e⟩) z) (λx i t h1 h2=>.old h2 (λv w=>w.to λb o hb e=>kf b o (hb.imp id λz=>⟨x,z⟩) e) (λw=>⟨hM _ (F.adr i ⟨w,by rw[h2];rfl⟩).1,rfl⟩) rfl) F.adr F.gn
def Left.nx{M' N':Addr->Prop}(mv:Mv X M s s')(m:∀a,M' a->M a∨s.heap.objs.size<=a)(n:∀a,N' a->N a∨s.heap.objs.size<=a)(U:At X k A env c N' r' s'/\Fw X env c aH M' N' ad r' s'.heap):Left X k A env c aH M N s .next r' .next s':=.mk rfl mv U.2.n0 m n (.inr U)
def Left.eq(mv:Mv X M s s')(U:At X k A env c N r' s'/\Fw X env c aH M N ad r' s'.heap):Left X k A env c aH M N s .next r' .next s':=.nx mv (λz=>.inl) (λz=>.inl) U
end
noncomputable def S.mR:S->Bool
 |.ret ..|.dead=>true
 |.seq a b=>a.mR||b.mR
 |.gh _ a=>a.mR
 |.bN _ a b=>a.mR&&b.mR
 |_=>false
noncomputable def S.j6:S->Bool
 |.brk=>true
 |.seq a b=>a.j6||b.j6
 |.gh _ a=>a.j6
 |.bN _ a b=>a.j6||b.j6
 |_=>false
def Nb(o:Option (Fl×aE)):Prop:=∀r',o≠ab (.brk,r')
section
variable{α:Type}{o:Option α}{f:α->Option (Fl×aE)}{p:Prop}[Decidable p]{a b:Option (Fl×aE)}{r:aE}{t:T}
def pN:Nb ae:=λz e=>aN e
def iK:Nb (b8 r):=by intro r' e;cases e
def ML:Nb (ab (.ret t,r)):=by intro r' e;cases e
def b5(h:∀x,Nb (f x)):Nb (o.bind f):=λr' e=>aO e λx z e=>h x r' e
def pO(h:Nb a)(k:Nb b):Nb (if p then a else b):=by by_cases q:p;rw[ah q];exact h;rw[ai q];exact k
def E7{f:Int->Option (Fl×aE)}(h:∀x,Nb (f x)):Nb (bp f t):=λr' e=>ff e λx z e=>h x r' e
def YV{f:Str->Option (Fl×aE)}(h:∀x,Nb (f x)):Nb (cG f t):=λr' e=>ia e λx z e=>h x r' e
def MM{f:List T->Option (Fl×aE)}(h:∀x,Nb (f x)):Nb (bH f t):=λr' e=>kH e λx z e=>h x r' e
def vY{f:List T->Option (Fl×aE)}(h:∀x,Nb (f x)):Nb (cH f t):=λr' e=>eW e λx z e=>h x r' e
def YW{f:List (Str×Int)->Option (Fl×aE)}(h:∀x,Nb (f x)):Nb (vB f t):=λr' e=>Br e λx z e=>h x r' e
def MN{go:aE->Option (Fl×aE)}(h:∀r,Nb (go r))(x:Fl×aE):Nb (nN go x):=by
 obtain⟨f,r⟩:=x
 cases f with
 |next=>exact h r
 |brk=>exact iK
 |ret t=>exact ML
def E8{f:T->aE->Option (Fl×aE)}:∀{l:List T}{r:aE},Nb (b6 f l r):=by
 intro l
 induction l with
 |nil=>exact iK
 |cons x l ih=>exact b5 (MN λz=>ih)
def YX{c:aE->Option Bool}{f:aE->Option (Fl×aE)}:∀{n:Nat}{r:aE},Nb (nO c f n r):=by
 intro n
 induction n with
 |zero=>exact pN
 |succ n ih=>exact b5 λz=>pO (b5 (MN λz=>ih)) iK
end
def tf{P:Prop}(h:true=false):P:=aj h.symm bT
def ft{P:Prop}(h:false=true):P:=aj h bT
def MO{F:Nat->List T->Option T}{σ:S}:∀{r:aE},σ.j6=false->Nb (ex F σ r):=by
 induction σ with
 |brk=>exact tf
 |skip=>exactλz=>iK
 |dead=>exactλz=>pN
 |ret=>exactλz=>b5 λz=>ML
 |seq a b cP dF=>
  refineλ{r}h=>?_
  have h:=sL.mp h
  intro r' e
  refine aO e λx e1 e2=>?_
  obtain⟨f,r1⟩:=x
  cases f with
  |next=>exact dF h.2 r' e2
  |brk=>exact cP h.1 r1 e1
  |ret t=>cases e2
 |gh ks a ih=>exactλh=>ih h
 |bN t a b cP dF=>exactλh=>b5 λz=>pO (cP (sL.mp h).1) (dF (sL.mp h).2)
 |eV=>exactλz=>b5 λz=>b5 λz=>E8
 |hZ=>exactλz=>b5 λz=>b5 λz=>E8
 |lT=>exactλz=>b5 λz=>b5 λz=>E8
 |wh=>exactλz=>YX
 |asg=>exactλz=>b5 λz=>iK
 |own=>exactλz=>b5 λz=>pO iK pN
 |fC=>exactλz=>b5 λz=>MM λz=>b5 λz=>iK
 |fP=>exactλz=>b5 λz=>pO (b5 λz=>iK) pN
 |pH=>exactλz=>b5 λz=>b5 λz=>iK
 |nest=>exactλz=>b5 λz=>MM λz=>b5 λz=>b5 λz=>iK
 |move=>exactλz=>b5 λz=>iK
 |aug=>exactλz=>b5 λz=>b5 λz=>b5 λz=>iK
 |app=>exactλz=>b5 λz=>vY λz=>b5 λz=>pO iK pN
 |ext=>exactλz=>b5 λz=>vY λz=>b5 λz=>vY λz=>pO iK pN
 |rev=>exactλz=>b5 λz=>vY λz=>iK
 |yq=>exactλz=>b5 λz=>vY λz=>b5 λz=>b5 λz=>E7 λz=>pO iK pN
 |oS=>exactλz=>b5 λz=>vY λz=>b5 λz=>E7 λz=>pO (b5 λz=>b5 λz=>b5 λz=>iK) pN
 |tI=>exactλz=>b5 λz=>YW λz=>b5 λz=>E7 λz=>b5 λz=>YV λz=>pO iK pN
def MP{F:Nat->List T->Option T}{σ:S}:∀{r r':aE}{fl:Fl},σ.mR=true->σ.j6=false->ex F σ r=ab (fl,r')->fl.E4=true:=by
 induction σ with
 |ret fz bg=>exactλz z e=>aO e λt z e=>by cases e;rfl
 |dead=>exactλz z e=>aN e
 |gh ks a ih=>exactλh h' e=>ih h h' e
 |seq a b cP dF=>
  intro r r' fl h h' e
  have h':=sL.mp h'
  refine aO e λx e1 e2=>?_
  obtain⟨f,r1⟩:=x
  cases f with
  |next=>exact(JE.mp h).elim (λq=>ft (cP q h'.1 e1)) λq=>dF q h'.2 e2
  |brk=>exact(MO h'.1 _ e1).elim
  |ret t=>cases e2;rfl
 |bN t a b cP dF=>
  intro r r' fl h h' e
  have h':=sL.mp h'
  have h:=il.mp h
  refine aO e λx e1 e2=>?_
  cases x with
  |true=>exact cP h.1 h'.1 e2
  |false=>exact dF h.2 h'.2 e2
 |_=>exact ft
def bR(σ:S)(c:Sc)(xs:List Stmt)(o':List Nat):Prop:=∀{C k},Ok C k->∀{A env aH M N ad r s fl r'},At C.X k A env c N r s->Fw C.X env c aH M N ad r s.heap->ex C.F σ r=ab (fl,r')->
 ∀E,aA (model C.X.prog C.X.w) A (bL xs env) (Left C.X k A env (cy c o') aH M N s fl r') E s
section
variable{X:Kx}{k:Nat}{A:aM}{env:Env}{c:Sc}{aH M N tU fG:Addr->Prop}{ad:Nat->Addr}{r r':aE}{s s' aB:az}{E:ay->az->Prop}{fl:Fl}{f:Flow}{Q:Flow->az->Prop}
def c8{x:Stmt}(h:aA (model X.prog X.w) A (exec x env) Q E s):aA (model X.prog X.w) A (bL [x] env) Q E s:=by
 refine aG (mo h λf s' h'=>?_)
 cases f<;>exact aQ h'
def execs_cons{x:Stmt}{rest:List Stmt}(h:aA (model X.prog X.w) A (bL [x] env) (λf aB=>(f=.next->aA (model X.prog X.w) A (bL rest env) Q E aB)/\(f≠.next->Q f aB)) E s):aA (model X.prog X.w) A (bL (x::rest) env) Q E s:=by
 have e:bL (x::rest) env=(bL [x] env>>=λf=>match f with|.next=>bL rest env|f=>pure f):=by
  show(exec x env>>=λf=>match f with|.next=>bL rest env|f=>pure f)=((exec x env>>=λf=>match f with|.next=>bL [] env|f=>pure f)>>=_)
  rw[bind_assoc]
  congr 1
  funext f
  cases f<;>rfl
 rw[e]
 refine aG (mo h λf s' h'=>?_)
 cases f with
 |next=>exact h'.1 rfl
 |_=>exact aQ (h'.2 (by intro e;cases e))
def Left.trans(mv:Mv X M s aB)(m:∀a,tU a->M a∨s.heap.objs.size<=a)(n:∀a,fG a->N a∨s.heap.objs.size<=a)(L:Left X k A env c aH tU fG aB fl r' f s'):Left X k A env c aH M N s fl r' f s':=by
 cases L with|mk fo l6 n0 m' n' o=>
 exact .mk fo (mv.trans l6 m) n0 (λa h=>(m' a h).elim (m a) λz=>.inr (aD mv.size z)) (λa h=>(n' a h).elim (n a) λz=>.inr (aD mv.size z)) o
def Left.kp(k₁:Kp X s aB)(L:Left X k A env c aH M N aB fl r' f s'):Left X k A env c aH M N s fl r' f s':=L.trans (Mv.of k₁) (λz=>.inl) λz=>.inl
def Left.any{fT pP:List Nat}(h:fT=pP∨fl.E4=true)(L:Left X k A env (cy c fT) aH M N s fl r' f s'):Left X k A env (cy c pP) aH M N s fl r' f s':=by
 cases L with|mk fo mv n0 m n o=>
 exact .mk (ad:= ‹_›) fo mv n0 m n (h.elim (λe=>e▸o) .inl)
end
section
variable{c:Sc}{o o' fT pP:List Nat}{x y:S}{st:Stmt}{rest xs ys:List Stmt}{t bg:Ex}{fz:List Nat}{p:Pos}{v:aW}
def YY:bR .skip c [] c.own:=λH z z z z z ad z s z z a F e E=>by cases e;exact aQ (Left.eq (.refl s) ⟨a,F⟩)
def YZ:bR .dead c xs c.own:=λH z z z z z ad z s z z a F e E=>aN e
def Y0:bR .brk c [.Break p] c.own:=λH z z z z z ad z s z z a F e E=>by cases e;exact c8 (wpAny_Break (Left.mk rfl (.refl s) F.n0 (λz=>.inl) (λz=>.inl) (.inr ⟨a,F⟩)))
def Y1(hx:bR x c [st] o)(hy:bR y (cy c o) rest o')(h:x.j6=false∨o=o'):bR (.seq x y) c (st::rest) o':=λH z z z z z ad z s z z a F e E=>by
 refine aO e λp e1 e=>execs_cons (mo (hx H a F e1 E) λf aB L=>?_)
 obtain⟨f1,r1⟩:=p
 cases f1 with
 |next=>
  cases L with|mk fo mv n0 m n o=>
  cases fo
  refine⟨λz=>?_,λq=>(q rfl).elim⟩
  exact o.elim ft λU=>mo (hy H U.1 U.2 e E) λf s₂ L=>L.trans mv m n
 |brk=>
  cases e
  have e:o=o':=h.resolve_left λq=>MO q _ e1
  have nf:f≠.next:=by cases L with|mk fo=>cases fo;intro e;cases e
  refine⟨λq=>(nf q).elim,λz=>?_⟩
  exact L.any (.inl e)
 |ret t=>
  cases e
  have nf:f≠.next:=by cases L with|mk fo=>obtain⟨v,rfl,_⟩:=fo;intro e;cases e
  refine⟨λq=>(nf q).elim,λz=>?_⟩
  exact L.any (.inr rfl)
def Y2(hx:bR x (cy c (d5 c.own fz)) xs o'):bR (.gh fz x) c xs o':=λH z z z z z ad z s z z a F e E=>by
 obtain⟨M',N',m,n,n0,a',F'⟩:=freeze a F fz
 exact mo (hx H a' F' e E) λf aB L=>L.trans (.refl s) (λd q=>.inl (m d q)) λd q=>.inl (n d q)
def Y3(he:Gd bg .val (cy c (d5 c.own fz)) [v]):bR (.ret fz bg) c [.Return (ab v) p] c.own:=λH z z z z z ad z s z z a F e E=>by
 refine aO e λt e1 e=>?_
 cases e
 obtain⟨M',N',m,n,n0,a',F'⟩:=freeze a F fz
 exact c8 (qB (vl (he H a' e1) λv aB k₁ hv=>Left.mk (ad:=ad) ⟨v,rfl,hv⟩ (Mv.of k₁) n0 (λd q=>.inl (m d q)) (λd q=>.inl (n d q)) (.inl rfl)))
def E9(ht:Gd t .a9 c [v])(hx:bR x c xs fT)(hy:bR y c ys pP)(h1:fT=o'∨(x.mR=true/\x.j6=false))(h2:pP=o'∨(y.mR=true/\y.j6=false)):bR (.bN t x y) c [.If v xs ys p] o':=λH w w w w w ad w s w w a F e E=>by
 refine aO e λb e1 e=>aO e1 λtt et e1=>ifs e1 λhp e1=>?_
 refine c8 (J9 (mo (ht H a et hp E) λb' aB z=>?_))
 have a1:=a.kp z.2
 have F1:=F.kp a z.2
 rw[z.1,e1]
 cases b with
 |true=>rw[ah rfl];exact mo (hx H a1 F1 e E) λf s₂ L=>(L.kp z.2).any (h1.imp id λq=>MP q.1 q.2 e)
 |false=>rw[ai bT];exact mo (hy H a1 F1 e E) λf s₂ L=>(L.kp z.2).any (h2.imp id λq=>MP q.1 q.2 e)
end
noncomputable def vZ(x:aW):Bool:=x.ctorIdx==8
noncomputable def cZ(x:aW):Bool:=x.ctorIdx !=8&&x.ctorIdx !=9&&x.ctorIdx !=10
section
variable{X:Kx}{k:Nat}{A:aM}{env:Env}{c:Sc}{aH M N P Pm:Addr->Prop}{ad ad':Nat->Addr}{r:aE}{s s' aB:az}{E:ay->az->Prop}{t:T}{v:ay}{x:Str}{k₀:Nat}{Q:Unit->az->Prop}
def MQ(o:Bool)(a:At X k A env c N r s)(F:Fw X env c aH M N ad r s.heap)(k₁:Kp X s aB)(hP:∀b,P b->s.heap.objs.size<=b/\b<aB.heap.objs.size)(hm:∀b,Pm b->P b)(hx:c.slots.lookup x=ab k₀)
  (hv:Vo X (λb=>N b∨P b) aB.heap o t v) (ho:o=true->t.obj=true/\∃b,v=.ref b/\Pm b)
  (q:∀s' ad',Mv X (λb=>M b∨Pm b) aB s'->Mv X M s s'->At X k A env (cy c (j5 o c.own k₀)) (λb=>N b∨P b) (put r k₀ t) s'->Fw X env (cy c (j5 o c.own k₀)) aH (λb=>M b∨Pm b) (λb=>N b∨P b) ad' (put r k₀ t) s'.heap->Q () s'):
  aA (model X.prog X.w) A (xD env x v) Q E aB:=by
 have U:=MK a F k₁ hP hm
 refine l8 o U.1 U.2 hx hv (λw=>⟨(ho w).1,(ho w).2.elim λb z=>⟨b,z.1,.inr z.2,n7 a F (hP b (hm b z.2)).1⟩⟩) λs' ad' mv a' F'=>q s' ad' mv ((Mv.of k₁).trans mv λd h=>h.imp id λh=>(hP d (hm d h)).1) a' F'
def mS{v:aW}{t:Option aW}{l:Nat}(h:cZ v=true):Ka v t l env=pure false:=by
 cases v with
 |ListComp=>exact ft h
 |SetComp=>exact ft h
 |DictComp=>exact ft h
 |_=>rfl
def Y4{v:aW}(h:vZ v=true):∃x gs sc p,v=.ListComp x gs sc p:=by
 exact Expr.ListComp.elim (motive_1:=λv=>v.ctorIdx=8->∃x gs sc p,v=.ListComp x gs sc p) v (ao h) (λx gs sc p z=>⟨x,gs,sc,p,rfl⟩) (ao h)
end
section
variable{c:Sc}{bg:Ex}{v:aW}{x:Str}{k₀:Nat}{p pos:Pos}
def MR(o:Bool){C:Cx}{k:Nat}{A:aM}{env:Env}{aH M N:Addr->Prop}{ad:Nat->Addr}{r:aE}{s:az}{t:T}{E:ay->az->Prop}(H:Ok C k)(a:At C.X k A env c N r s)(F:Fw C.X env c aH M N ad r s.heap)(hx:c.slots.lookup x=ab k₀)
  (hg:Gd bg (if o then .own else .val) c [v]) (hp:cZ v=true∨(vZ v=true/\Gd bg .use c [v])) (ee:ev C.F bg r=ab t) (ru:o=true->t.obj=true):
  aA (model C.X.prog C.X.w) A (bL [.Assign [.Name x p] v pos] env) (Left C.X k A env (cy c (j5 o c.own k₀)) aH M N s .next (put r k₀ t)) E s:=by
 refine c8 ?_
 have plain:Ka v (ab (.Name x p)) pos.line env=pure false->aA (model C.X.prog C.X.w) A (exec (.Assign [.Name x p] v pos) env) (Left C.X k A env (cy c (j5 o c.own k₀)) aH M N s .next (put r k₀ t)) E s:=λhs=>by
  cases o with
  |false=>exact xM (vl (hg H a ee) λval aB k₁ hv=>l8 false (a.kp k₁) (F.kp a k₁) hx hv ft λs' ad' mv a' F'=>Left.eq ((Mv.of k₁).trans mv λu=>.inl) ⟨a',F'⟩) hs
  |true=>
   refine xM (mo (hg H a ee (ru rfl) E) λval aB z=>?_) hs
   obtain⟨k₁,_,D,rfl,hD,hb⟩:=z
   have vb:=hb (ru rfl)
   have hP:∀b,b=D->s.heap.objs.size<=b/\b<aB.heap.objs.size:=λb e=>e.symm▸⟨hD,VB.lt (ru rfl) vb⟩
   exact MQ (Pm:=λb=>b=D) true a F k₁ hP (λu=>id) hx vb (λu=>⟨ru rfl,D,rfl,rfl⟩) λs' ad' u mv a' F'=>Left.nx mv (λb q=>q.imp id λq=>(hP b q).1) (λb q=>q.imp id λq=>(hP b q).1) ⟨a',F'⟩
 refine hp.elim (λh=>plain (mS h)) λh=>?_
 obtain⟨y,gs,sc,lp,rfl⟩:=Y4 h.1
 obtain⟨b,hs⟩:∃b,Ka (.ListComp y gs sc lp) (ab (.Name x p)) pos.line env=pure b:=⟨_,rfl⟩
 cases b with
 |false=>exact plain hs
 |true=>
  rw[exec_Assign_Name_used _ _ _ _ hs]
  refine aG (lB (aG (mo (h.2 H a ee _ (λu s'=>Left C.X k A env (cy c (j5 o c.own k₀)) aH M N s .next (put r k₀ t) .next s') E λD K aB m' k₁ Y5 MS hD rq hK hn=>?_) λu u z=>aQ z)))
  have hP:∀b,(b=K∨(o=true/\b=D))->s.heap.objs.size<=b/\b<aB.heap.objs.size:=λb e=>e.elim (λe=>e.symm▸⟨hK,hn.lt⟩) λe=>e.2.symm▸⟨hD,VB.lt (ru e.1) MS⟩
  refine sW (MQ (P:=λb=>b=K∨(o=true/\b=D)) (Pm:=λb=>o=true/\b=D) o a F k₁ hP (λu=>.inr) hx ?_ (λw=>⟨ru w,D,rfl,w,rfl⟩) λs' ad' l6 mv a' F'=>?_)
  ·cases o with
   |true=>exact VB.sub (λb q=>.inl (q.elim (λq=>.inl (.inl q)) λq=>q.elim .inr λq=>.inl (.inr q.2))) MS
   |false=>exact Y5.mono λb q=>q.imp id λq=>q.elim id λq=>ft q.1
  ·have nM:¬(M K∨(o=true/\K=D)):=λq=>q.elim (λq=>bx (a.ng.lt K (F.mn K q)) hK) λq=>rq q.2.symm
   have yQ:s'.heap.Ns K m':=hn.at' λob e=>l6.old K ob nM (λq=>bx (a.ng.lt K (a.ng.tb K q)) hK) e
   refine⟨m',yQ,λh' cb=>?_⟩
   have mK:Mv C.X (λb=>b=K) s' {s' with heap:=h'}:=by obtain⟨ob,es,ep,e1,e2,_⟩:=yQ;exact Mv.put e1 (oP e2 rfl) (λb o hb e=>cb.extBut b o hb e) (bO cb.1.symm)
   have U:=other a' F' mK (λb q=>.inr (.inl q)) (λb hb q=>(n7 a F hK).1 (q▸hb)) λb hb q=>nM (q▸hb)
   exact Left.nx (mv.trans mK λd q=>.inr (q.symm▸hK)) (λb q=>q.imp id λq=>(hP b (.inr q)).1) (λb q=>q.imp id λq=>(hP b q).1) U
def Y6(hx:c.slots.lookup x=ab k₀)(hg:Gd bg .val c [v])(hp:cZ v=true∨(vZ v=true/\Gd bg .use c [v])):bR (.asg k₀ bg) c [.Assign [.Name x p] v pos] (d5 c.own [k₀]):=λH z z z z z ad z s z z a F e E=>by
 refine aO e λt et e=>?_
 cases e
 exact MR false H a F hx hg hp et ft
def Y7(hx:c.slots.lookup x=ab k₀)(hg:Gd bg .own c [v])(hp:cZ v=true∨(vZ v=true/\Gd bg .use c [v])):bR (.own k₀ bg) c [.Assign [.Name x p] v pos] (BQ c.own k₀):=λH z z z z z ad z s z z a F e E=>by
 refine aO e λt et ea=>gi ea λho ez=>?_
 clear e ea
 cases ez
 exact MR true H a F hx hg hp et λz=>ho
end
abbrev jA(c:Sc)(ps:List (Str×Pos))(ks:List Nat):Prop:=ps.length=ks.length/\(∀(j:Nat)(p:Str×Pos)i,ps[j]?=ab p->ks[j]?=ab i->c.slots.lookup p.1=ab i)/\(ps.map (·.1)).Nodup/\ks.Nodup
section
variable(h:jA c ps ks)
def jA.hl:=h.1
def jA.hs:=h.2.1
def jA.nd:=h.2.2.1
def jA.cL:=h.2.2.2
end
def jA.own{c:Sc}{ps:List (Str×Pos)}{ks:List Nat}(g:jA c ps ks):∀p∈ps,ow c.slots p.1:=λp hp=>by
 obtain⟨j,hj⟩:=sY.mp hp
 have jl:j<ks.length:=g.hl▸(iR.mp hj).1
 rw[ow,g.hs j p _ hj (iu jl)];rfl
def filter_all{f:aW->Option Str}{cnd:Str->Pos->Bool}(hf:∀x p,f (.Name x p)=if cnd x p=true then ab x else ae){ps:List (Str×Pos)}:((ps.map λp=>qu p.1 p.2).filterMap f).length=ps.length->(ps.map λp=>qu p.1 p.2).filterMap f=ps.map (·.1):=by
 induction ps with
 |nil=>intro _;rfl
 |cons p ps ih=>
  intro h
  rw[qk,J2,hf]at h ⊢
  by_cases q:cnd p.1 p.2=true
  ·rw[ah q]at h ⊢
   exact af (p.1::·) (ih (Nat.succ.inj h))
  ·rw[ai q]at h
   refine aj h (cW (AX ?_))
   have:=anm f (ps.map λp=>qu p.1 p.2)
   rw[bK]at this;exact this
def wa(ps:List (Str×Pos))(v:aW):Prop:=∀j tp env,∃o,AY [.Tuple (ps.map λp=>.Name p.1 p.2) j tp] v env=pure o/\(o=ae∨o=ab (ps.map (·.1)))
def Fb{ps:List (Str×Pos)}{vs:List aW}{i:Nat}{q:Pos}(h':vs.all (DG 8)=false):wa ps (.Tuple vs i q):=λj tp env=>by
 unfold AY
 dsimp only
 split
 ·exact⟨ae,rfl,.inl rfl⟩
 ·split
  ·exact⟨ae,rfl,.inl rfl⟩
  ·split
   ·exact⟨ae,rfl,.inl rfl⟩
   ·rename_i hl
    split
    ·exact⟨ae,rfl,.inl rfl⟩
    ·rw[ai (by rw[h'];decide)]
     refine⟨_,rfl,.inr (af ab (filter_all (cnd:=λid pos=>env.kindOf id==ab .local&&pos.line==_) (λz z=>rfl) ?_))⟩
     have:=bne_eq_false_iff_eq.mp (sL.mp (J1 _▸hl)).1
     exact AZ this (bK ..)
noncomputable def tV(x:aW):Bool:=x.ctorIdx==25
def Y8{ps:List (Str×Pos)}{v:aW}(h:tV v=false):wa ps v:=λj tp env=>by
 refine⟨ae,?_,.inl rfl⟩
 cases v with
 |Tuple=>exact tf h
 |_=>rfl
section
variable{X:Kx}{k:Nat}{A:aM}{env:Env}{own:Str->Prop}{s:az}{E:ay->az->Prop}{ps:List (Str×Pos)}{v:aW}{j:Nat}{tp pos:Pos}{Q:Flow->az->Prop}
def Y9{es:List aW}{l:Nat}:swapsWithSole [.Tuple es j tp] v l env=pure false:=by
 show Ka v (ab (.Tuple es j tp)) l env=_
 cases v<;>rfl
def Fc(sw:wa ps v)(hh:A.handled=ae)(ho:∀p∈ps,own p.1)(nd:(ps.map (·.1)).Nodup)
  (he:aA (model X.prog X.w) A (eval v env) (λval s=>∃M a vs,val=.ref a/\IsTup s.heap a (oE vs)/\ps.length=vs.length/\cJ X env M own s.heap/\∀s',fD X env M own (ps.zip vs) s s'->Q .next s') E s):
  aA (model X.prog X.w) A (exec (.Assign [.Tuple (ps.map λp=>.Name p.1 p.2) j tp] v pos) env) Q E s:=by
 have h0:swapsWithSole [.Tuple (ps.map λp=>.Name p.1 p.2) j tp] v pos.line env=pure false:=Y9
 obtain⟨o,e1,e2⟩:=sw j tp env
 rcases e2 with rfl|rfl
 ·refine Assign_Tuple (mo he λval s z=>?_) h0 e1
  obtain⟨M,a,vs,rfl,hp,hl,F,q⟩:=z
  exact BK hl (vR hh F hp) ho nd q
 ·refine Assign_Tuple_swapped (mo he λval s z=>?_) h0 e1
  obtain⟨M,a,vs,rfl,hp,hl,F,q⟩:=z
  rw[bK,hl]
  refine mo (vR hh F hp) λws s' z=>?_
  rw[z.1]
  have f1:(ps.map (·.1)).reverse.map (λn=>DH env n)=((ps.zip vs).reverse.map λe=>(DH env e.1.1,e.2)).map (·.1):=by
   rw[<-qw,fO,fO,qw,qw]
   exact af anq (tP (f:=λp:Str×Pos=>DH env p.1) hl).symm
  have f2:vs.reverse=((ps.zip vs).reverse.map λe=>(DH env e.1.1,e.2)).map (·.2):=by
   rw[fO]
   exact(af anq (zip2 hl)).symm.trans qw.symm
  rw[f1]
  conv=>arg 3;arg 2;rw[f2]
  refine EM ?_
  rw[fO]
  refine EO (g:=λx y v=>DH env x v) (λx p v Q s h=>wpAny_bindName h) z.2.ck (λe he=>ho e.1 (sX (AW.mp he)).1) ?_ λcj b=>q cj (z.2.app b.rev λy h=>(gM h).elim)
  rw[qw,show((ps.zip vs).map λe=>e.1.1)=ps.map (·.1)from tP hl]
  exact Ux.mpr (nd.imp λh e=>h e.symm)
end
section
variable{c:Sc}{bg:Ex}{v n₁ yR:aW}{ns:List aW}{x:Str}{k₀ j:Nat}{p tp pos:Pos}{ks:List Nat}{ts:List (Str×Nat)}
def Za{ps:List (Str×Pos)}(g:jA c ps ks)(sw:wa ps v)(hg:Gd bg .val c [v]):bR (.fC ks bg) c [.Assign [.Tuple (ps.map λp=>.Name p.1 p.2) j tp] v pos] (d5 c.own ks):=λ{C}{k}H A env aH M N ad r s fl r' a F e E=>by
 refine aO e λt et ea=>kH ea λl q eb=>aO eb λr1 hp ez=>?_
 clear e ea eb
 cases ez;subst q
 have pl:=BI hp
 refine c8 (Fc (X:=C.X) (own:=ow c.slots) sw a.ra.handled g.own g.nd (vl (hg H a et) λval aB k₁ hv=>hv.fb λb vs yS hN hz j7=>⟨M,b,vs,rfl,yS.isTup,g.hl.trans (pl.trans j7.length.symm),(F.kp a k₁).ck,λs' S=>?_⟩))
 exact Left.eq ((Mv.of k₁).trans S.m λz=>.inl) (yP (a.kp k₁) (F.kp a k₁) g.hs g.hl g.cL hp S j7)
def Fd{X:Kx}{A:aM}{E:ay->az->Prop}{v:ay}{Q:Unit->az->Prop}:∀{l:List (ay->Sem Unit)}{s:az},Run (model X.prog X.w) A E Q (l.map λf=>f v) s->aA (model X.prog X.w) A (assignAll v l) Q E s:=by
 intro l
 induction l with
 |nil=>exactλh=>aQ h
 |cons f l ih=>
  intro s h
  cases l with
  |nil=>exact h
  |cons g l=>exact aG (dN (mo h λy y z=>ih z))
def Zb{X:Kx}{N:Addr->Prop}{h:Heap}{t:T}{v:ay}(hv:VR X N h t v):∀ks:List Nat,aL X N h (ks.map λz=>t) (ks.map λz=>v):=by
 intro ks
 induction ks with
 |nil=>exact .nil
 |cons k ks ih=>exact .cons hv ih
def Zc{ps:List (Str×Pos)}(h2:n₁::yR::ns=ps.map λp=>.Name p.1 p.2)(g:jA c ps ks)(hw:∀env,AY (n₁::yR::ns) v env=pure ae)(hg:Gd bg .val c [v]):bR (.pH ks bg) c [.Assign (n₁::yR::ns) v pos] (d5 c.own ks):=λ{C}{k}H A env aH M N ad r s fl r' a F e E=>by
 refine aO e λt et ea=>aO ea λr1 hp ez=>?_
 clear e ea
 cases ez
 refine c8 (wpAny_Assign_stores (vl (hg H a et) λval aB k₁ hv=>?_) rfl (hw env))
 rw[h2,L8,fO]
 refine Fd ?_
 have hl:ps.length=(ks.map λz=>val).length:=by rw[bK,g.hl]
 have e:(ps.map ((λx=>x.2)∘λp=>(false,assign (qu p.1 p.2) env))).map (λf=>f val)=(ps.zip (ks.map λz=>val)).map λe=>assign (.Name e.1.1 e.1.2) env e.2:=by
  rw[fO]
  refine AZ (tP (f:=λp:Str×Pos=>assign (.Name p.1 p.2) env val) hl).symm ?_
  refine sU λe he=>?_
  obtain⟨_,_,h⟩:=dy.mp (sX he).2
  rw[<-h]
 rw[e]
 exact EO (X:=C.X) (g:=λx p v=>assign (.Name x p) env v) L9 (F.kp a k₁).ck (λe he=>g.own e.1 (sX he).1) (by rw[show((ps.zip (ks.map λz=>val)).map λe=>e.1.1)=ps.map (·.1)from tP hl];exact g.nd) λs' S=>
  Left.eq ((Mv.of k₁).trans S.m λz=>.inl) (yP (a.kp k₁) (F.kp a k₁) g.hs g.hl g.cL hp S (Zb hv ks))
end
inductive l9(c:Sc):List (Option Ex)->List aW->Prop
 |nil:l9 c [] []
 |some {e es v vs} (hs:notStar v=true) (h:Gd e .val c [v]) (r:l9 c es vs):l9 c (ab e::es) (v::vs)
 |none {es p vs} (r:l9 c es vs):l9 c (ae::es) (.List [] p::vs)
inductive Vals(X:Kx)(N M:Addr->Prop)(h:Heap):Nat->List (Option Ex)->List T->List ay->Prop
 |nil {z}:Vals X N M h z [] [] []
 |v {z e es t v ts vs} (hv:VR X N h t v) (r:Vals X N M h z es ts vs):Vals X N M h z (ab e::es) (t::ts) (v::vs)
 |o {z es b ts vs} (hv:VB X N h (.lst []) (.ref b)) (hm:M b) (hz:z<=b) (r:Vals X N M h (b+1) es ts vs):Vals X N M h z (ae::es) (.lst []::ts) (.ref b::vs)
noncomputable def ry(o:List Nat)(ks:List Nat)(es:List (Option Ex)):List Nat:=(ks.zip es).foldl (λo p=>j5 p.2.isNone o p.1) o
noncomputable def rA(ad:Nat->Addr)(l:List (Nat×ay))(i:Nat):Addr:=(l.lookup i).elim (ad i) nZ
section
variable{X:Kx}{N M:Addr->Prop}{h:Heap}{es:List (Option Ex)}{xs:List T}{vs:List ay}{z j:Nat}{ks o:List Nat}{i:Nat}
def Vals.weak(q:Vals X N M h z es xs vs){y:Nat}(hy:y<=z):Vals X N M h y es xs vs:=by
 induction q generalizing y with
 |nil=>exact .nil
 |v hv r ih=>exact .v hv (ih hy)
 |o hv hm hz r ih=>exact .o hv hm (aD hy hz) r
def Vals.len(q:Vals X N M h z es xs vs):vs.length=xs.length/\es.length=xs.length:=by
 induction q with
 |nil=>exact⟨rfl,rfl⟩
 |v hv r ih=>exact⟨af (· +1) ih.1,af (· +1) ih.2⟩
 |o hv hm hz r ih=>exact⟨af (· +1) ih.1,af (· +1) ih.2⟩
inductive Fe(X:Kx)(N M:Addr->Prop)(h:Heap)(z:Nat):Option Ex->T->ay->Prop
 |v {e t v} (hv:VR X N h t v):Fe X N M h z (ab e) t v
 |o {b} (hv:VB X N h (.lst []) (.ref b)) (hm:M b) (hz:z<=b):Fe X N M h z ae (.lst []) (.ref b)
def Vals.get(q:Vals X N M h z es xs vs){t:T}(e:xs[j]?=ab t):∃o v,es[j]?=ab o/\vs[j]?=ab v/\Fe X N M h z o t v:=by
 induction q generalizing j with
 |nil=>exact aN e
 |v hv r ih=>
  cases j with
  |zero=>cases e;exact⟨_,_,rfl,rfl,.v hv⟩
  |succ j=>exact ih e
 |o hv hm hz r ih=>
  cases j with
  |zero=>cases e;exact⟨_,_,rfl,rfl,.o hv hm hz⟩
  |succ j=>
   obtain⟨o,v,e1,e2,w⟩:=ih e
   refine⟨o,v,e1,e2,?_⟩
   cases w with
   |v hv=>exact .v hv
   |o hv hm iH=>exact .o hv hm (aD hz (oF iH))
def Vals.inc(q:Vals X N M h z es xs vs):∀{j j':Nat}{v v':ay},es[j]?=ab ae->es[j']?=ab ae->vs[j]?=ab v->vs[j']?=ab v'->nZ v=nZ v'->j=j':=by
 have lo:∀{z:Nat}{es:List (Option Ex)}{xs:List T}{vs:List ay},Vals X N M h z es xs vs->∀{j:Nat}{v:ay},es[j]?=ab ae->vs[j]?=ab v->z<=nZ v:=λq j v e1 e2=>by
  obtain⟨t,ht⟩:∃t,_=ab t:=⟨_,iu (q.len.1▸(iR.mp e2).1)⟩
  obtain⟨o,v',f1,f2,w⟩:=q.get ht
  cases f1.symm.trans e1
  cases f2.symm.trans e2
  cases w with|o hv hm hz=>exact hz
 induction q with
 |nil=>exactλe y y y y=>aN e
 |v hv r ih=>
  intro j j' v v' e1 e2 e3 e4 e
  cases j with
  |zero=>cases e1
  |succ j=>cases j' with
   |zero=>cases e2
   |succ j'=>exact af (· +1) (ih e1 e2 e3 e4 e)
 | @o z es b ts vs hv hm hz r ih=>
  intro j j' v v' e1 e2 e3 e4 e
  cases j with
  |zero=>cases j' with
   |zero=>rfl
   |succ j'=>cases e3;have w:b+1<=nZ v':=lo r e2 e4;rw[<-e]at w;exact(eY b w).elim
  |succ j=>cases j' with
   |zero=>cases e4;have w:b+1<=nZ v:=lo r e1 e3;rw[e]at w;exact(eY b w).elim
   |succ j'=>exact af (· +1) (ih e1 e2 e3 e4 e)
def Ff:∀{ks:List Nat}{es:List (Option Ex)}{o:List Nat},i∉ks->(ry o ks es).contains i=o.contains i:=by
 intro ks
 induction ks with
 |nil=>intro es o _;rfl
 |cons k ks ih=>
  intro es o h
  cases es with
  |nil=>rfl
  |cons e es=>exact(ih λq=>h (bS _ q)).trans (vX λe=>h (by rw[e];exact bk))
def Fg:∀{ks:List Nat}{es:List (Option Ex)}{o:List Nat}{j:Nat}{e:Option Ex},ks.Nodup->ks[j]?=ab i->es[j]?=ab e->(ry o ks es).contains i=e.isNone:=by
 intro ks
 induction ks with
 |nil=>intro es o j e _ h;exact aN h
 |cons k ks ih=>
  intro es o j e nd h1 h2
  have cT:=hH.mp nd
  cases es with
  |nil=>exact aN h2
  |cons e' es=>cases j with
   |zero=>cases h1;cases h2;exact(Ff cT.1).trans (BR _ _ _)
   |succ j=>exact ih cT.2 h1 h2
def yT{ad:Nat->Addr}:∀{ks:List Nat}{vs:List ay},i∉ks->rA ad (ks.zip vs) i=ad i:=by
 intro ks
 induction ks with
 |nil=>intro vs _;rfl
 |cons k ks ih=>
  intro vs h
  cases vs with
  |nil=>rfl
  |cons v vs=>
   have q:(i==k)=false:=beq_eq_false_iff_ne.mpr λe=>h (by rw[e];exact bk)
   have:=ih (vs:=vs) λq=>h (bS _ q)
   unfold rA at this ⊢
   rw[DI,cD,q];exact this
def yU{ad:Nat->Addr}:∀{ks:List Nat}{vs:List ay}{j:Nat}{v:ay},ks.Nodup->ks[j]?=ab i->vs[j]?=ab v->rA ad (ks.zip vs) i=nZ v:=by
 intro ks
 induction ks with
 |nil=>intro vs j v _ h;exact aN h
 |cons k ks ih=>
  intro vs j v nd h1 h2
  have cT:=hH.mp nd
  cases vs with
  |nil=>exact aN h2
  |cons w vs=>cases j with
   |zero=>cases h1;cases h2;unfold rA;rw[DI,cD,ax];rfl
   |succ j=>
    have q:(i==k)=false:=beq_eq_false_iff_ne.mpr λe=>cT.1 (e▸dZ h1)
    have:=ih (vs:=vs) cT.2 h1 h2
    unfold rA at this ⊢
    rw[DI,cD,q];exact this
end
inductive MT(X:Kx)(k:Nat)(A:aM)(env:Env)(c:Sc)(aH M N:Addr->Prop)(ad:Nat->Addr)(r:aE)(s:az)(es:List (Option Ex))(xs:List T)(vals:List ay)(s':az):Prop
 |mk {N' M'} (k₁:Kp X s s') (a:At X k A env c N' r s') (F:Fw X env c aH M' N' ad r s'.heap) (hv:Vals X N' M' s'.heap s.heap.objs.size es xs vals) (m:∀b,M' b->M b∨s.heap.objs.size<=b) (n:∀b,N' b->N b∨s.heap.objs.size<=b) (mm:∀b,M b->M' b)
def Zd{c:Sc}{pos:Pos}{es:List (Option Ex)}{vs:List aW}(L:l9 c es vs):∀{C k},Ok C k->∀{A env aH M N ad r s},At C.X k A env c N r s->Fw C.X env c aH M N ad r s.heap->∀{xs},pI C.F r es=ab xs->∀E,
  aA (model C.X.prog C.X.w) A (pw (mz pos (jT vs env))) (MT C.X k A env c aH M N ad r s es xs) E s:=by
 induction L with
 |nil=>exactλH y y y y y y y y a F y e E=>by cases e;exact gb (MT.mk (.refl _) a F .nil (λy=>.inl) (λy=>.inl) λy=>id)
 | @some e es v vs hs h r ih=>
  intro C k H A env aH M N ad r s a F xs e E
  refine aO e λt e1 ea=>map_some ea λys e2 ez=>?_
  clear e ea
  subst ez
  rw[yA hs]
  refine eZ (vl (h H a e1) λval aB k₁ hv=>mo (ih H (a.kp k₁) (F.kp a k₁) e2 E) λvals s₂ z=>?_)
  cases z with|mk k₂ a' F' vv m n mm=>
  exact .mk (k₁.trans k₂) a' F' (.v (hv.move n (k₂.kc a.ng.tb)) (vv.weak k₁.size)) (λb h=>(m b h).imp id (aD k₁.size)) (λb h=>(n b h).imp id (aD k₁.size)) mm
 | @none es p vs r ih=>
  intro C k H A env aH M N ad r s a F xs e E
  refine map_some e λys e2 e=>?_
  subst e
  show aA _ _ (pw ((false,eval (.List [] p) env)::mz pos (jT vs env))) _ _ _
  refine eZ (JP (gb ⟨dP _,?_⟩))
  obtain⟨k₁,hv,D,hD,hDs,vb⟩:=qT (ts:=[]) (vs:=[]) (tk:=s.toks) (e:=0) a.ng .nil (dP _)
  cases hD
  have vb:=vb rfl
  have hP:∀b,b=s.heap.objs.size->s.heap.objs.size<=b/\b<(s.heap.push {cls:=.type "list",data:=.seq ([]:List ay).toArray}).objs.size:=λb e=>by subst e;exact⟨bj _,Bv _ _⟩
  have U:=MK (Pm:=λb=>b=s.heap.objs.size) a F k₁ hP λy=>id
  refine mo (ih H U.1 U.2 e2 E) λvals s₂ z=>?_
  cases z with|mk k₂ a' F' vv m n mm=>
  have lo:∀{P:Addr->Prop}{b:Addr},(P b∨b=s.heap.objs.size)∨(s.heap.push {cls:=.type "list",data:=.seq ([]:List ay).toArray}).objs.size<=b->P b∨s.heap.objs.size<=b:=λh=>h.elim (λh=>h.imp id λe=>bO e.symm) λq=>.inr (aD (qV _ _) q)
  exact .mk (k₁.trans k₂) a' F' (.o (vb.move n (k₂.kc U.1.ng.tb) λb o T cl e=>k₂.old b o (mI U.1.apart e cl) e) (mm _ (.inr rfl)) (bj _) (vv.weak (bO (fk ..).symm))) (λb h=>lo (m b h)) (λb h=>lo (n b h)) λb h=>mm b (.inl h)
def Ze{c:Sc}{es:List (Option Ex)}{vs:List aW}{ks:List Nat}{j j':Nat}{tp Zf pos:Pos}{ps:List (Str×Pos)}(g:jA c ps ks)(L:l9 c es vs)(sw:vs.all (DG 8)=false):
  bR (.fP ks es) c [.Assign [.Tuple (ps.map λp=>.Name p.1 p.2) j tp] (.Tuple vs j' Zf) pos] (ry c.own ks es):=λ{C}{k}H A env aH M N ad r s fl r' a F e E=>by
 refine aO e λxs e1 ea=>gi ea λhz eb=>aO eb λr1 hp ez=>?_
 clear e ea eb
 cases ez
 have pl:=BI hp
 refine c8 (Fc (X:=C.X) (own:=ow c.slots) (Fb sw) a.ra.handled g.own g.nd (TR (mo (Zd L H a F e1 E) λvals aB z=>?_)))
 cases z with| @mk N' M' k₁ a' F' vv m n mm=>
 have hl:=vv.len
 refine⟨by rw[hl.1];exact dS hz,M',aB.heap.objs.size,vals,rfl,jY.isTup ⟨0,cB _ rfl⟩,g.hl.trans (pl.trans hl.1.symm),?_,λs' S=>?_⟩
 ·exact(F'.kp a' Kp.push).ck
 ·have k2:Kp C.X aB {aB with heap:=aB.heap.push {cls:=.type "tuple",data:=.seq vals.toArray}}:=Kp.push
  have a2:=a'.kp k2
  have F2:=F'.kp a' k2
  have own:∀{i},i∈ks->Ow (ry c.own ks es) r' i->∃j v,ks[j]?=ab i/\vals[j]?=ab v/\es[j]?=ab ae/\M' (nZ v)/\s.heap.objs.size<=nZ v:=λ{i}hi w=>by
   obtain⟨j,hj⟩:=sY.mp hi
   obtain⟨t,ht⟩:=mC.mp w.2
   obtain⟨o,v,f1,f2,f3⟩:=vv.get (EK hp g.cL hj ht)
   have e:=(Fg g.cL hj f1).symm.trans w.1
   cases f3 with
   |v=>exact ft e
   |o hv hm hz=>exact⟨j,_,hj,f2,f1,hm,hz⟩
  have old:∀{i},i∉ks->Ow (ry c.own ks es) r' i->Ow c.own r i:=λhi w=>⟨(Ff hi).symm.trans w.1,vQ hp hi▸w.2⟩
  refine Left.nx ((Mv.of (k₁.trans k2)).trans S.m m) m n (E6 (ad':=rA ad (ks.zip vals)) a2 F2 g.hs g.hl g.cL hp S (λj i t h1 h2=>?_) (λi hi=>⟨Ff hi,yT hi⟩) (λi w=>?_) λi j w1 w2 e=>?_)
  ·obtain⟨o,v,f1,f2,f3⟩:=vv.get h2
   refine⟨v,f2,?_,λw=>?_⟩
   ·rw[Fg g.cL h1 f1]
    cases f3 with
    |v hv=>exact(hv.kp a'.ng k2).mv a2.ng S.m F2.mn
    |o hv hm hz=>exact VB.mv a2.ng a2.apart S.mv (λb h=>F2.mn b h.1) (hv.kp a'.ng k2 a'.apart) λb e w=>by cases e;exact(n7 a F hz).1 w.2
   ·rw[Fg g.cL h1 f1]at w
    cases f3 with
    |v=>exact ft w
    |o hv hm hz=>exact⟨rfl,by rw[yU g.cL h1 f2];rfl⟩
  ·by_cases hi:i∈ks
   ·obtain⟨j,v,h1,h2,_,h3,h4⟩:=own hi w
    rw[yU g.cL h1 h2]
    exact⟨h3,(n7 a F h4).1⟩
   ·rw[yT hi];exact F'.adr i (old hi w)
  ·have no:∀{i j},i∈ks->j∉ks->Ow (ry c.own ks es) r' i->Ow (ry c.own ks es) r' j->rA ad (ks.zip vals) i=rA ad (ks.zip vals) j->False:=λ{i j}hi hj w1 w2 e=>by
    obtain⟨p,v,h1,h2,_,h3,h4⟩:=own hi w1
    rw[yU g.cL h1 h2,yT hj]at e
    exact(n7 a F h4).2 j (old hj w2) e.symm
   by_cases hi:i∈ks<;>by_cases hj:j∈ks
   ·obtain⟨p,v,h1,h2,h3,_⟩:=own hi w1
    obtain⟨q,v',f1,f2,f3,_⟩:=own hj w2
    rw[yU g.cL h1 h2,yU g.cL f1 f2]at e
    cases vv.inc h3 f3 h2 f2 e
    exact Option.some.inj (h1.symm.trans f1)
   ·exact(no hi hj w1 w2 e).elim
   ·exact(no hj hi w2 w1 e.symm).elim
   ·rw[yT hi,yT hj]at e;exact F'.gn i j (old hi w1) (old hj w2) e
section
variable{prog:gK}{w:gZ}{A:aM}{E:ay->az->Prop}{s:az}
def MU{l:Addr}{items:Array ay}{k:Int}{t:Tok}{v:ay}{Q:Unit->az->Prop}(hl:s.heap.PlainList l items)
  (h0:0<=k) (BS:k<2^63) (hn:k<items.size)
  (hQ:∀h',h'.PlainList l (items.setIfInBounds k.toNat v)->sZ l s.heap h'->Q () {s with heap:=h'}):
  aA (model prog w) A (Kb (.ref l) (.int k t) v) Q E s:=by
 obtain⟨ne,ho⟩:=id hl
 have hT:s.TypeIs (.ref l) "list":=⟨_,ho,rfl⟩
 unfold Kb
 try with_reducible refine dN ?_
 first|refine aG (aQ ?_)|skip
 refine aG (wpAny_sequenceKey hT (by decide) ?_)
 refine aG (tj (name:=bP "__setitem__") hT ans
  (tm ans hT entry_list_setitem ?_ (args_list_setitem _ _ _)))
 show aA _ _ (avI (.int k t)>>=_) _ _ s
 refine aG (wpAny_listSubscript_int (fitsIndex_of h0 BS) ?_)
 obtain⟨j,rfl⟩:=A0 h0
 have hj:j<items.size:=fA.mp hn
 show aA _ _ ((seqItemAt l j>>=λr=>pure (r.map (j,·)))>>=_) _ _ s
 refine aG (aG (wpAny_seqItemAt ho rfl (aQ ?_)))
 rw[oG hj]
 show aA _ _ (setSeqItemAt l j v>>=_) _ _ s
 have MV:(s.heap.update l (lL (·.setIfInBounds j v))).PlainList l (items.setIfInBounds j v):=⟨_,IsL.update ho _⟩
 refine aG (wpAny_setSeqItemAt ho rfl ?_)
 first
  |exact aG (aQ (aQ ⟨.none,rfl,aQ (hQ _ MV (qC ..))⟩))
  |exact aQ ⟨.none,rfl,aQ (hQ _ MV (qC ..))⟩
end
section
variable{X:Kx}{k:Nat}{A:aM}{env:Env}{c:Sc}{aH M N:Addr->Prop}{ad:Nat->Addr}{r:aE}{s s' aP:az}{E:ay->az->Prop}{t t':T}{x:Str}{k₀:Nat}{l:List T}
def MW{o:iG}{x y z:T}{v u:ay}(h:oT o x y=ab z)(hv:VB X N s.heap x v)(hu:VB X N s.heap y u):aA (model X.prog X.w) A (inplaceOp o.py v u) (Res X N s z) E s:=by
 refine gi h λhk h=>?_
 cases x with
 |int a=>
  refine hv.eR λt=>?_
  cases o with
  |add=>exact hu.bp h λb t' e=>by cases e;exact P.iadd_int vG
  |sub=>exact hu.bp h λb t' e=>by cases e;exact P.isub_int vG
  |mul=>exact hu.bp h λb t' e=>ifs e λhz e=>by cases e;exact avS vG (mulOk_of hz)
  |shl=>exact hu.bp h λb t' e=>ifs e λhz e=>by cases e;exact avT hz.1 (dn hz.2 (by decide)) vG
  |shr=>exact hu.bp h λb t' e=>ifs e λhz e=>by cases e;exact avU hz vG
  |_=>exact ft hk
 |str x=>
  cases o with
  |add=>exact hv.c6 λt l1=>hu.cG h λy t' l2 e=>ifs e λhz e=>by cases e;exact SB.iadd (hsz:=dS hz) λt' tk=>Ef (by rw[sJ];exact hz)
  |_=>exact ft hk
 |_=>exact ft hk
def yV(a:At X k A env c N r s):interactive env=false:=by
 unfold interactive
 rw[a.ec.kind];rfl
structure j8(c:Sc)(x:Str)(k₀:Nat):Prop where
 hx:c.slots.lookup x=ab k₀
 ho:c.own.contains k₀=true
 hn:iW x=true
def j8.vb(o:j8 c x k₀)(a:At X k A env c N r s)(F:Fw X env c aH M N ad r s.heap)(hr:get r k₀=ab t):VB X N s.heap t (.ref (ad k₀)):=
 (a.ec.rd x k₀ t o.hx hr).elim λv z=>(z.1.uniq (F.own x k₀ t o.hx o.ho hr).2)▸(o.ho▸z.2:Vo X N s.heap true t v)
def j8.name{p:Pos}{Q:ay->az->Prop}(o:j8 c x k₀)(a:At X k A env c N r s)(F:Fw X env c aH M N ad r s.heap)(hr:get r k₀=ab t)(q:Q (.ref (ad k₀)) s):aA (model X.prog X.w) A (eval (.Name x p) env) Q E s:=
 gC a (F.own x k₀ t o.hx o.ho hr).2 (iX o.hn).1 (iX o.hn).2 q
def MX(o:j8 c x k₀)(k₁:Kp X aP s)(a:At X k A env c N r s)(F:Fw X env c aH M N ad r s.heap)(hr:get r k₀=ab t)(mv:Mv X (λb=>b=ad k₀) s s')(vb:VB X N s'.heap t' (.ref (ad k₀)))(ru:t'.obj=true):
  Left X k A env (cy c c.own) aH M N aP .next (put r k₀ t') .next s':=by
 have w:Ow c.own r k₀:=⟨o.ho,by rw[hr];rfl⟩
 have ak:=F.adr k₀ w
 have kf:∀b ob,Fr env b->s.heap.get? b=ab ob->s'.heap.get? b=ab ob:=λb ob hb e=>mv.old b ob (λq=>ak.2 (q▸hb)) (a.ec.nt hb) e
 have rd:∀y v,Rd env s.heap y v->Rd env s'.heap y v:=λy v z=>z.to λb ob hb e=>kf b ob (hb.imp id λz=>⟨y,z⟩) e
 have Fh:∀i,Ow c.own (put r k₀ t') i->Ow c.own r i:=λi h=>by
  by_cases q:i=k₀
  ·exact q▸w
  ·exact⟨h.1,lZ q▸h.2⟩
 refine Left.eq ((Mv.of k₁).trans mv λd h=>.inl (h▸ak.1)) (upd (o':=c.own) (ad':=ad) a F mv (λb e=>e▸F.mn _ ak.1) (F.ck.mv kf) (λx b e n q=>IsCell.to q λo z=>kf b o (.inr ⟨x,e⟩) z) (λy i u h1 h2=>?_) (λi h=>F.adr i (Fh i h)) λi j h1 h2=>F.gn i j (Fh i h1) (Fh j h2))
 rcases yI h2 with⟨e,e'⟩|⟨n,h2⟩
 ·subst e;subst e'
  exact .new (rd y _ (F.own y i t h1 o.ho hr).2) (by rw[o.ho];exact vb) λp=>⟨ru,rfl⟩
 ·exact .old h2 (rd y) (λh=>⟨λe=>n (F.gn i k₀ ⟨h,by rw[h2];rfl⟩ w e),rfl⟩) rfl
def BU{vs:List ay}{l':List T}{h':Heap}{tk:Nat}(o:j8 c x k₀)(k₁:Kp X aP s)(a:At X k A env c N r s)(F:Fw X env c aH M N ad r s.heap)(hr:get r k₀=ab (.lst l))(hs:sZ (ad k₀) s.heap h')
  (pl:h'.PlainList (ad k₀) (oE vs)) (hz:l'.length<=lim) (hv:aL X N s.heap l' vs):Left X k A env (cy c c.own) aH M N aP .next (put r k₀ (.lst l')) .next {s with heap:=h',toks:=tk}:=by
 have mv:Mv X (λb=>b=ad k₀) s {s with heap:=h',toks:=tk}:=by
  obtain⟨b,ws,e,⟨n,rB⟩,_⟩:=(o.vb a F hr).isList
  cases e
  exact Mv.put rB (nJ rfl (by decide)) (λb ob hb e=>hs.extBut b ob hb e) (bO hs.1.symm)
 exact MX o k₁ a F hr mv (.lst pl hz (hv.mv a.ng mv λb e=>e▸F.mn _ (F.adr k₀ ⟨o.ho,by rw[hr];rfl⟩).1)) rfl
def Fj{u p q pos:Pos}{nm:Str}{id:String}{es:List aW}{Q:Flow->az->Prop}(o:j8 c x k₀)(a:At X k A env c N r s)(F:Fw X env c aH M N ad r s.heap)(hr:get r k₀=ab (.lst l))
  (hl:p.endLine=q.line) (hz:es.length<20) (hp:es.all notStar=true) (slot:Slot "list" nm id) (ty:typeOf (.builtin id)=pure (.type "method_descriptor"))
  (h:aA (model X.prog X.w) A (pw (mz q (jT es env))) (λvs s'=>aA (model X.prog X.w) A (call (.builtin id) (.ref (ad k₀)::vs)) (λz=>Q .next) E s') E s):
  aA (model X.prog X.w) A (bL [.Expr (.Call (.Attribute (.Name x u) nm p) es [] q) pos] env) Q E s:=by
 refine c8 (DJ (vO rfl hl hz hp (o.name a F hr ?_)) (yV a) rfl)
 obtain⟨b,vs,e,pl,_⟩:=(o.vb a F hr).isList
 cases e
 have nW:=jx env q hp
 exact Dy pl.isList.typeIs Ua slot ty (λb e=>by cases e;exact pl.elim λz e=>⟨_,e,rfl⟩) (xC nW (ie nW h))
end
section
variable{c:Sc}{bg wb:Ex}{v iv:aW}{x:Str}{k₀:Nat}{u p q pos:Pos}{o:iG}
def rh(h:notStar v=true):[v].all notStar=true:=il.mpr ⟨h,rfl⟩
def Zg(O:j8 c x k₀)(hl:p.endLine=q.line)(hn:notStar v=true)(hg:Gd bg .val c [v]):bR (.app k₀ bg) c [.Expr (.Call (.Attribute (.Name x u) (bP "append") p) [v] [] q) pos] c.own:=λ{C}{k}H A env aH M N ad r s fl r' a F e E=>by
 refine aO e λt hr ea=>eW ea λl h eb=>aO eb λy et ec=>ifs ec λhz ez=>?_
 clear e ea eb ec
 cases ez;subst h
 refine Fj O a F hr hl (by show 1<20;decide) (rh hn) anv anw ?_
 rw[j3 hn]
 refine eZ (vl (hg H a et) λval aB k₁ hv=>gb ?_)
 have a1:=a.kp k₁
 obtain⟨b,vs,e,pl,iH,hs⟩:=(O.vb a1 (F.kp a k₁) hr).isList
 cases e
 refine Uq (hsz:=by rw[bU,hs.length];exact dS iH) pl λh' rg cb=>BU O k₁ a1 (F.kp a k₁) hr cb (vs:=vs++[val]) ?_ (by rw[bQ];exact hz) (hs.app (.one hv))
 rw[<-Ur];exact rg
def Fm{h:Heap}{b:Addr}{vs ws:List ay}{n:Nat}{f:Array ay->Array ay}(o:h.get? b=ab {cls:=.type "list",dict:=ae,data:=.seq vs.toArray n,slots:= #[]})(e:f vs.toArray=ws.toArray):(h.update b (lL f)).PlainList b ws.toArray:=⟨_,e▸IsL.update o f⟩
def Zh(O:j8 c x k₀)(hl:p.endLine=q.line)(hn:notStar v=true)(hg:Gd bg .val c [v]):bR (.ext k₀ bg) c [.Expr (.Call (.Attribute (.Name x u) (bP "extend") p) [v] [] q) pos] c.own:=λ{C}{k}H A env aH M N ad r s fl r' a F e E=>by
 refine aO e λt hr ea=>eW ea λl h eb=>aO eb λy et ec=>eW ec λm h' ed=>ifs ed λhz ez=>?_
 clear e ea eb ec ed
 cases ez;subst h;subst h'
 refine Fj O a F hr hl (by show 1<20;decide) (rh hn) Kc anx ?_
 rw[j3 hn]
 refine eZ (vl (hg H a et) λval aB k₁ hv=>gb (hv.eQ λb' ws rC z q7 yW=>?_))
 have a1:=a.kp k₁
 obtain⟨b,vs,e,⟨n1,o1⟩,iH,hs⟩:=(O.vb a1 (F.kp a k₁) hr).isList
 cases e
 obtain⟨n2,o2⟩:=rC
 have l1:vs.toArray.size=l.length:=(bU ..).trans hs.length
 have rb:vs.toArray.size+ws.toArray.size<=lim:=by rw[l1,show ws.toArray.size=m.length from(bU ..).trans yW.length];exact hz
 have tl:¬(!vs.toArray.isEmpty&&TH (vs.toArray.size+ws.toArray.size))=true:=λh=>by
  have h:=aq (il.mp h).2
  exact aj (aD rb (by decide)) (xq.mpr h)
 exact sM Kc ⟨_,o1,rfl⟩ anz (anA _ _) (anB _ _ n1 b' _ n2 tl (by rw[l1];exact dS iH) (u9 (dS rb)))
  ⟨o1,o2,BU O k₁ a1 (F.kp a k₁) hr (qC ..) (Fm o1 (JF ..)) (by rw[bQ];exact hz) (hs.app yW)⟩
def Zi(O:j8 c x k₀)(hl:p.endLine=q.line):bR (.rev k₀) c [.Expr (.Call (.Attribute (.Name x u) (bP "reverse") p) [] [] q) pos] c.own:=λ{C}{k}H A env aH M N ad r s fl r' a F e E=>by
 refine aO e λt hr ea=>eW ea λl h ez=>?_
 clear e ea
 cases ez;subst h
 refine Fj O a F hr hl (by show 0<20;decide) rfl anC PySem.F.type_list_reverse (gb ?_)
 obtain⟨b,vs,e,⟨n1,o1⟩,iH,hs⟩:=(O.vb a F hr).isList
 cases e
 exact sM anC ⟨_,o1,rfl⟩ PySem.F.entry_list_reverse (PySem.F.args_list_reverse_1 _) (AutoSeq1.list_reverse_list_0 _ _ n1 (by rw[bU,hs.length];exact dS iH))
  ⟨o1,BU O (.refl s) a F hr (qC ..) (Fm (ws:=vs.reverse) o1 (List.reverse_toArray ..)) (by rw[pz];exact iH) hs.rev⟩
def MY{X:Kx}{k:Nat}{A:aM}{env:Env}{aH M N:Addr->Prop}{ad:Nat->Addr}{r:aE}{s aP:az}{E:ay->az->Prop}{l:List T}{y:T}{val:ay}{j:Int}{w:Tok}(O:j8 c x k₀)(k₁:Kp X aP s)(a:At X k A env c N r s)(F:Fw X env c aH M N ad r s.heap)(hr:get r k₀=ab (.lst l))(hj:0<=j/\j<l.length)(hv:VR X N s.heap y val):
  aA (model X.prog X.w) A (Kb (.ref (ad k₀)) (.int j w) val) (λz=>Left X k A env (cy c c.own) aH M N aP .next (put r k₀ (.lst (l.set j.toNat y))) .next) E s:=by
 obtain⟨b,vs,e,pl,iH,hs⟩:=(O.vb a F hr).isList
 cases e
 have l1:vs.toArray.size=l.length:=(bU ..).trans hs.length
 refine MU pl hj.1 (alO hj.2 (kC iH)) (by rw[l1];exact hj.2) λh' rB cb=>BU O k₁ a F hr cb (vs:=vs.set j.toNat val) ?_ (by rw[Ke];exact iH) (hs.set _ hv)
 rw[<-anD];exact rB
def Zj(O:j8 c x k₀)(hp:cZ v=true)(hg:Gd bg .val c [v])(hi:Gd wb .val c [iv]):bR (.yq k₀ wb bg) c [.Assign [.Subscript (.Name x u) iv p] v pos] c.own:=λ{C}{k}H A env aH M N ad r s fl r' a F e E=>by
 refine aO e λt hr ea=>eW ea λl h eb=>aO eb λy et ec=>aO ec λti ei ed=>ff ed λj h' ee=>ifs ee λhj ez=>?_
 clear e ea eb ec ed ee
 cases ez;subst h;subst h'
 refine c8 (Uy (vl (hg H a et) λval aB k₁ hv=>?_) (mS hp))
 have a1:=a.kp k₁
 refine O.name a1 (F.kp a k₁) hr (vl (hi H a1 ei) λMZ s₂ k₂ hi=>hi.eR λw=>?_)
 exact MY O (k₁.trans k₂) (a1.kp k₂) ((F.kp a k₁).kp a1 k₂) hr hj (hv.kp a1.ng k₂)
def Zk(O:j8 c x k₀)(ha:∀ov i new,augStore iv ov i new=(do JM [new,ov,i] (Kb ov i new);release [new,ov,i] [];pure .next))(hg:Gd bg .val c [v])(hi:Gd wb .val c [iv]):bR (.oS k₀ wb o bg) c [.AugAssign (.Subscript (.Name x u) iv p) o.py v pos] c.own:=λ{C}{k}H A env aH M N ad r s fl r' a F e E=>by
 refine aO e λt hr ea=>eW ea λl h eb=>aO eb λti ei ec=>ff ec λj h' ed=>gi ed λhj ee=>aO ee λy0 Zl ef=>aO ef λy et eg=>aO eg λz0 Fo ez=>?_
 clear e ea eb ec ed ee ef eg
 cases ez;subst h;subst h'
 refine c8 (wpAny_AugAssign_Subscript_any (O.name a F hr (vl (hi H a ei) λMZ aB k₁ hi=>hi.eR λw=>?_)) ha)
 have a1:=a.kp k₁
 have F1:=F.kp a k₁
 have Zm:kB (.lst l) (.int j)=ab y0:=by
  have q:f9 j l.length=ab j.toNat:=by
   unfold f9
   rw[ai (lr.mpr hj.1)]
   exact ah (il.mpr ⟨ar hj.1,ar hj.2⟩)
  show(f9 j l.length).bind (l[·]?)=ab y0
  rw[q];exact Zl
 refine Lu Zm (O.vb a1 F1 hr) (.of (.int j w)) (λs₂ old k₂ hold=>?_) λl k d t o aZ i ho hd hs e q=>LK ho hd hs e q
 have a2:=a1.kp k₂
 refine vl (hg H a2 et) λval aX fR hv=>mo (MW Fo (.of (hold.kp a2.ng fR)) (.of hv)) λnv aS z=>?_
 exact MY O (((k₁.trans k₂).trans fR).trans z.1) ((a2.kp fR).kp z.1) (((F1.kp a1 k₂).kp a2 fR).kp (a2.kp fR) z.1) hr hj z.2
def Zn(hx:c.slots.lookup x=ab k₀)(hn:iW x=true)(ho:c.own.contains k₀=false)(hg:Gd bg .val c [v]):bR (.aug k₀ o bg) c [.AugAssign (.Name x u) o.py v pos] (d5 c.own [k₀]):=λ{C}{k}H A env aH M N ad r s fl r' a F e E=>by
 refine aO e λx0 hr ea=>aO ea λy et eb=>aO eb λz0 Fo ez=>?_
 clear e ea eb
 cases ez
 obtain⟨v0,g1,g2⟩:=a.ec.rd x k₀ x0 hx hr
 rw[ho]at g2
 have ld:∀{Q:ay->az->Prop},Q v0 s->aA (model C.X.prog C.X.w) A (loadName env x) Q E s:=λ{Q}q=>by
  rcases g1 with⟨f,m,e1,e2⟩|⟨f,b,e1,e2⟩
  ·exact TN a.ec.kind f e1 e2 q
  ·rcases f with f|f
   ·exact alS a.ec.kind f e1 e2 q
   ·exact alU a.ec.kind f e1 e2 q (iX hn).2
 refine c8 (wpAny_AugAssign_Name (ld (vl (hg H a et) λval aB k₁ hv=>mo (MW Fo (.of ((g2:VR C.X N s.heap x0 v0).kp a.ng k₁)) (.of hv)) λnv s₂ z=>?_)))
 have i4:=k₁.trans z.1
 exact l8 false (a.kp i4) (F.kp a i4) hx z.2 ft λs' ad' mv a' F'=>Left.eq ((Mv.of i4).trans mv λt=>.inl) ⟨a',F'⟩
noncomputable def yX(l:List (Str×ay))(k:Str)(v:ay):List (Str×ay):=match l with
 |[]=>[(k,v)]
 |p::r=>if p.1=k then(k,v)::r else p::yX r k v
def Zo{k:Str}{v:ay}{aZ:List (Str×ay)}:(aZ.map (·.1)).Nodup->stored aZ k v=yX aZ k v:=by
 induction aZ with
 |nil=>exactλy=>rfl
 |cons q r ih=>
  intro nd
  have cT:=hH.mp nd
  have ih:=ih cT.2
  show _=if q.1=k then(k,v)::r else q::yX r k v
  unfold stored at ih ⊢
  by_cases e:q.1=k
  ·rw[ah e,ah (by rw[Dw,ar e];rfl),qk,ah e,e]
   refine af ((k,v)::·) ((sU λkv Zp=>ai λz=>cT.1 (dy.mpr ⟨kv,Zp,z.trans e.symm⟩)).trans (DD r))
  ·rw[ai e,<-ih,Dw,av e,anF]
   by_cases h:(r.any λkv=>decide (kv.1=k))=true
   ·rw[ah h,ah h,qk,ai e]
   ·rw[ai h,ai h];rfl
def Zq{k:Str}{i:Int}{t:Tok}(hk:k.length<=lim){l:List (Str×Int)}{aZ:List (Str×ay)}(h:jP DK l aZ):jP DK (dput l k i) (yX aZ k (.int i t)):=by
 induction h with
 |nil=>exact .cons ⟨rfl,hk,t,rfl⟩ .nil
 | @cons a b Eo Ep h1 h2 ih=>
  show jP _ (if a.1=k then(k,i)::Eo else a::dput Eo k i) (if b.1=k then(k,.int i t)::Ep else b::yX Ep k (.int i t))
  by_cases e:a.1=k
  ·rw[ah e,ah (h1.1.symm.trans e)]
   exact .cons ⟨rfl,hk,t,rfl⟩ h2
  ·rw[ai e,ai (λz=>e (h1.1.trans z))]
   exact .cons h1 ih
def Zr(k:Str)(i:Int){l:List (Str×Int)}:(dput l k i).length<=l.length+1:=by
 induction l with
 |nil=>exact bj _
 |cons p r ih=>
  show(if p.1=k then(k,i)::r else p::dput r k i).length<=_
  by_cases e:p.1=k
  ·rw[ah e];exact gy _
  ·rw[ai e];exact cX ih
def Zs(O:j8 c x k₀)(hp:cZ v=true)(hg:Gd bg .val c [v])(hi:Gd wb .val c [iv]):bR (.tI k₀ wb bg) c [.Assign [.Subscript (.Name x u) iv p] v pos] c.own:=λ{C}{k}H A env aH M N ad r s fl r' a F e E=>by
 refine aO e λt hr ea=>Br ea λl h eb=>aO eb λy et ec=>ff ec λyi hy ed=>aO ed λti ei ee=>ia ee λkx h' ef=>ifs ef λhj ez=>?_
 clear e ea eb ec ed ee ef
 cases ez;subst h;subst h';subst hy
 refine c8 (Uy (vl (hg H a et) λval aB k₁ hv=>?_) (mS hp))
 have a1:=a.kp k₁
 refine O.name a1 (F.kp a k₁) hr (vl (hi H a1 ei) λMZ s₂ k₂ hi=>hi.c6 λut z=>hv.eR λw=>?_)
 have a2:=a1.kp k₂
 have F2:=(F.kp a k₁).kp a1 k₂
 obtain⟨b,o,aZ,e1,ho,hd,iH,hq,hs⟩:∃b o aZ,ay.ref (ad k₀)=.ref b/\s₂.heap.get? b=ab o/\o.IsDictOf (strKind C.X.prog C.X.w) aZ/\l.length<=lim/\(b==qf)=false/\jP DK l aZ:=(O.vb a2 F2 hr).dict λa o aZ h1 h2 h3 h4 h5=>⟨a,o,aZ,rfl,h1,h2,h3,h4,h5⟩
 cases e1
 refine fg (wpAny_setItem_pairs (hsz:=by rw[<-hs.length];exact dS iH) (uZ C.X.prog C.X.w kx ut) (sN.mpr ⟨o,ho,hd⟩) λh' oV cb yY=>?_)
 obtain⟨o2,Zt,hd2⟩:=sN.mp oV
 obtain⟨es,ep,e3,tW,_,e4,nd⟩:=hd
 rw[Zo nd]at hd2
 exact MX O (k₁.trans k₂) a2 F2 hr (Mv.put ho (oP tW rfl) (λb o hb e=>cb.extBut b o hb e) yY) (.aY Zt hd2 (aD (Zr _ _) hj.1) hq (Zq hj.2 hs)) rfl
end
section
variable{C:Cx}{k:Nat}{A:aM}{env:Env}{c:Sc}{aH M N P:Addr->Prop}{ad:Nat->Addr}{r r' fH:aE}{s s' aB s₂:az}{E:ay->az->Prop}{fl:Fl}{f:Flow}
def Left.brk(L:Left C.X k A env c aH M N s .brk r' f s'):f=.brk/\Left C.X k A env c aH M N s .next r' .next s':=by
 cases L with|mk fo mv n0 m n o=>
 exact⟨fo,.mk rfl mv n0 m n (o.elim ft .inr)⟩
def Left.ret{t:T}(L:Left C.X k A env c aH M N s (.ret t) r' f s'):∃v,f=.ret v:=by
 cases L with|mk fo mv n0 m n o=>
 exact fo.elim λv z=>⟨v,z.1⟩
def Left.b8(L:Left C.X k A env c aH M N s .next r' f s'):f=.next:=by
 cases L with|mk fo mv n0 m n o=>exact fo
def Fp(I:Prop)(R:Flow->Prop)(f:Flow):Prop:=match f with
 |.next|.cont=>I
 |.brk=>R .next
 |.ret v=>R (.ret v)
def Zu{R:oI->az->Prop}{test:aW}{body:List Stmt}(I:Nat->az->Prop) (turn:∀n s(E:ay->az->Prop),I n s->aA (model C.X.prog C.X.w) A (xx test env (eval test env)) (λb s₂=>
  if b then aA (model C.X.prog C.X.w) A (bL body env) (λf aX=>Fp (∃m,m<n/\I m aX) (λf=>R (.ok f) aX) f) E s₂ else R (.ok .next) s₂) E s) (n:Nat) (h:I n s):gN (model C.X.prog C.X.w) A (.whileLoop test body [] env) R s:=
 codeAny_whileLoop I (λn s h=>mo (turn n s _ h) λb s₂ z=>by cases b with|false=>exact aQ z|true=>exact z) n h
def M0{R:oI->az->Prop}{tg:aW}{it:ay}{body:List Stmt}(I:Nat->az->Prop) (turn:∀n s(E:ay->az->Prop),I n s->aA (model C.X.prog C.X.w) A (iQ it) (λr aB=>match r with
   |none=>R (.ok .next) aB
   |some v=>aA (model C.X.prog C.X.w) A (lA tg it v) (λy jz=>aA (model C.X.prog C.X.w) A (assign tg env v) (λy s₂=>aA (model C.X.prog C.X.w) A (bL body env) (λf aX=>Fp (∃m,m<n/\I m aX) (λf=>R (.ok f) aX) f) E s₂) E jz) E aB) E s) (n:Nat) (h:I n s):
  gN (model C.X.prog C.X.w) A (.forLoop tg it body [] env) R s:=
 codeAny_forLoop_any I (λn s h=>mo (turn n s _ h) λr s₂ z=>by cases r with|none=>exact aQ z|some v=>exact z) n h
def M1{go:aE->Option (Fl×aE)}{p:Fl×aE}{q:Fl×aE}(h:nN go p=ab q){R:Flow->Prop}{I:Prop}(L:Left C.X k A env c aH M N s p.1 p.2 f s')(hn:go p.2=ab q->Left C.X k A env c aH M N s .next p.2 .next s'->I)
  (hr:∀f',Left C.X k A env c aH M N s q.1 q.2 f' s'->R f'):Fp I R f:=by
 obtain⟨fl,r⟩:=p
 cases fl with
 |next=>cases L.b8;exact hn h L
 |brk=>cases h;cases L.brk.1;exact hr _ L.brk.2
 |ret t=>cases h;obtain⟨v,rfl⟩:=L.ret;exact hr _ L
def Turn(C:Cx)(k:Nat)(A:aM)(env:Env)(c:Sc)(tg:aW)(body:List Stmt)(f:T->aE->Option (Fl×aE)):Prop:=
 ∀{aH M N:Addr->Prop}{ad s y v r p},At C.X k A env c N r s->Fw C.X env c aH M N ad r s.heap->VR C.X N s.heap y v->f y r=ab p->∀E,
  aA (model C.X.prog C.X.w) A (assign tg env v) (λz s₂=>aA (model C.X.prog C.X.w) A (bL body env) (Left C.X k A env c aH M N s p.1 p.2) E s₂) E s
def Fi(C:Cx)(k:Nat)(A:aM)(env:Env)(c:Sc)(aH M N:Addr->Prop)(wr:List Addr)(s₂:az)(l:List T)(St:Nat->Heap->Prop)(f:T->aE->Option (Fl×aE))(p:Fl×aE)(n:Nat)(aB:az):Prop:=∃j fH,n=l.length - j/\Left C.X k A env c (λb=>aH b∨b∈wr) (λb=>M b∨b∈wr) (λb=>N b∨b∈wr) s₂ .next fH .next aB/\St j aB.heap/\j<=l.length/\b6 f (l.drop j) fH=ab p
def Fq{tg:aW}{tp:Bool}(Fs:tp=true->∃es kk p,tg=.Tuple es kk p){body:List Stmt}{f:T->aE->Option (Fl×aE)}(hT:Turn C k A env c tg body f)(a:At C.X k A env c N r s)(F:Fw C.X env c aH M N ad r s.heap){l:List T}{I:Addr}{fp wr:List Addr}{St:Nat->Heap->Prop}{eJ:Nat->ay->Heap->Prop}
  (it:It C.X N s₂.heap l tp I fp wr St eJ) (yZ:St 0 s₂.heap) (fE:Kp C.X s s₂) (fF:∀b∈wr,s.heap.objs.size<=b) (ig:∀b∈fp,b∉wr->¬N b) {p:Fl×aE} (hl:b6 f l r=ab p)
  {R:oI->az->Prop} (hR:∀fw s',Left C.X k A env c aH M N s p.1 p.2 fw s'->R (.ok fw) s'):
  gN (model C.X.prog C.X.w) A (.forLoop tg (.ref I) body [] env) R s₂:=by
 have pL:∀b,b∈wr->s.heap.objs.size<=b/\b<s₂.heap.objs.size:=λb h=>⟨fF b h,it.lt b (it.sub b h)⟩
 have a0:At C.X k A env c (λb=>N b∨b∈wr) r s₂:=a.grow fE (a.ng.more (λb h=>.inl h) a.wd fE.size λb q=>q.imp id (pL b)) λb q=>q.imp id (fF b)
 have F0:Fw C.X env c (λb=>aH b∨b∈wr) M (λb=>N b∨b∈wr) ad r s₂.heap:=(F.kp a fE).grow (λx=>id) (λb h=>.inl (F.mn b h)) (λb h q=>q.elim (F.m0 b h) λq=>bx (a.ng.lt b (F.mn b h)) (fF b q)) λb h=>h.imp (F.n0 b) id
 have out:∀{fl r' fw s'},Left C.X k A env c (λb=>aH b∨b∈wr) (λb=>M b∨b∈wr) (λb=>N b∨b∈wr) s₂ fl r' fw s'->Left C.X k A env c aH M N s fl r' fw s':=λL=>by
  cases L with|mk fo mv n0 m n o=>
  have up:∀{P:Addr->Prop}{b:Addr},(P b∨b∈wr)∨s₂.heap.objs.size<=b->P b∨s.heap.objs.size<=b:=λ{P b}h=>h.elim (λh=>h.imp id (fF b)) λq=>.inr (aD fE.size q)
  exact .mk fo ((Mv.of fE).trans mv λd q=>q.imp id (fF d)) (λb h=>n0 b (.inl h)) (λb h=>up (m b h)) (λb h=>up (n b h)) (o.imp id λo=>⟨o.1,o.2.grow (λx=>id) o.2.mn (λb h q=>o.2.m0 b h (.inl q)) λb h=>o.2.n0 b (.inl h)⟩)
 refine M0 (Fi C k A env c aH M N wr s₂ l St f p) (λn aB E hI=>?_) (l.length - 0)
  ⟨0,r,rfl,.mk rfl (.refl _) F0.n0 (λb h=>.inl (.inl h)) (λx=>.inl) (.inr ⟨a0,F0⟩),yZ,dP _,hl⟩
 obtain⟨j,fH,rfl,L,st,hj,j9⟩:=hI
 cases L with| @mk tU fG tX _ mv n0 m n o=>
 obtain⟨mT,rD⟩:At C.X k A env c fG fH aB/\Fw C.X env c (λb=>aH b∨b∈wr) tU fG tX fH aB.heap:=o.elim ft id
 have fS:∀s',Mv C.X (λb=>b∈wr) aB s'->At C.X k A env c fG fH s'/\Fw C.X env c (λb=>aH b∨b∈wr) tU fG tX fH s'.heap:=λs' mw=>other mT rD mw (λb h=>n0 b (.inr h)) (λb hb q=>(n7 a F (fF b q)).1 hb) λb h q=>rD.m0 b h (.inr q)
 have y1:∀{s'},Mv C.X (λb=>b∈wr) aB s'->Mv C.X (λb=>M b∨b∈wr) s₂ s':=λmw=>mv.trans mw λd h=>.inl (.inr h)
 refine it.next a.ra.handled mT.ng (λb h=>n0 b (.inr h)) st hj (λb ob hb hw e=>?_) (λb h=>(n b h).elim (λq=>q.imp id .inl) λq=>.inr (.inr q)) Fs (λgp s' mw=>?_) λy v s' hx mw dU hv=>?_
 ·exact hb.elim (λhb=>mv.old b ob (λq=>q.elim (λq=>hb (F.mn b q)) hw) (λz=>hb (a.ng.tb b z)) e) λc=>mv.code b ob c e
 ·subst gp
  rw[J6]at j9
  cases j9
  exact hR _ _ (out (.mk rfl (y1 mw) n0 m n (.inr (fS s' mw))))
 ·obtain⟨gp,dj⟩:=BM hx
  rw[dj]at j9
  refine aO j9 λM3 hf j9=>?_
  have U:=fS s' mw
  refine mo (hT U.1 U.2 hv hf _) λx aX j1=>mo j1 λfw aS L=>?_
  have Ft:St (j+1) aS.heap:=by
   cases L with|mk fo n9=>
   refine it.frame _ _ _ dU λb hb ob e=>n9.old b ob (λq=>?_) (it.nt b hb) e
   by_cases hw:b∈wr
   ·exact rD.m0 b q (.inr hw)
   ·exact(m b q).elim (λq=>q.elim (λq=>ig b hb hw (F.mn b q)) hw) λq=>bx (it.lt b hb) q
  have L2:=L.trans (y1 mw) (λb h=>m b h) λb h=>n b h
  exact M1 j9 (R:=λf=>R (.ok f) aS) (I:=∃m,m<l.length - j/\Fi C k A env c aH M N wr s₂ l St f p m aS) L2 (λe L=>⟨_,less gp,j+1,_,rfl,L,Ft,gp,e⟩) λf' L=>hR _ _ (out L)
def M4{tg x:aW}{src:Ex}{body:List Stmt}{pos:Pos}{f:T->aE->Option (Fl×aE)}(H:Ok C k)(a:At C.X k A env c N r s)(F:Fw C.X env c aH M N ad r s.heap)(hT:Turn C k A env c tg body f)(hs:gj x=true)(hg:Gd src .ib c [x]){p:Fl×aE}
  (e:((ev C.F src r).bind λx=>(fe x).bind λl=>b6 f l r)=ab p):aA (model C.X.prog C.X.w) A (bL [.For tg x body [] pos] env) (Left C.X k A env c aH M N s p.1 p.2) E s:=by
 refine aO e λtx et e=>aO e λl el e=>?_
 refine c8 (Kf (mo (hg H a et l el E) λxv aB bJ=>?_) (vS hs env))
 obtain⟨own,ho,k₁,hi⟩:=bJ
 cases ho rfl
 refine mo (hi A E a.ra.handled) λtS s₂ h₂=>?_
 obtain⟨fE,I,fp,wr,St,eJ,rfl,it,st,fF,ig⟩:=h₂
 exact Fq (λq=>ft q) hT a F it st fE fF (λb hb hw=>(ig b hb hw).elim id λq=>aN q) e λfw s' L=>L
end
def M5{o ks:List Nat}(h:ks.all (λi=>!o.contains i)=true):d5 o ks=o:=by
 unfold d5
 refine Uz.mpr λi hi=>?_
 rw[DF]
 refine px.mpr λq=>?_
 have:=bA.mp h i (jq.mp q)
 rw[jq.mpr hi]at this
 exact ft this
section
variable{c:Sc}{t src:Ex}{v tg wc:aW}{x:Str}{k₀ kk n:Nat}{p tp pos:Pos}{jB:S}{body:List Stmt}{ks:List Nat}
def M6{C:Cx}{k:Nat}{A:aM}{env:Env}(H:Ok C k)(hh:A.handled=ae){ps:List (Str×Pos)}(g:jA c ps ks)(ho:ks.all (λi=>!c.own.contains i)=true)(hb:bR jB c body c.own):
  Turn C k A env c (.Tuple (ps.map λp=>.Name p.1 p.2) kk tp) body (λy r=>(bH (putAll r ks) y).bind (ex C.F jB)):=λ{aH M N ad s y v r p}a F hv hf E=>by
 obtain⟨fl,r'⟩:=p
 refine aO hf λr2 hp Zv=>kH hp λys q pQ=>?_
 subst q
 refine hv.fb λtv vs yS hN hz j7=>?_
 refine BK (X:=C.X) (own:=ow c.slots) (g.hl.trans ((BI pQ).trans j7.length.symm)) (vR hh F.ck yS.isTup) g.own g.nd λs' S=>?_
 have U:=yP a F g.hs g.hl g.cL pQ S j7
 rw[M5 ho]at U
 exact mo (hb H U.1 U.2 Zv E) λfw aX L=>L.trans S.m (λz=>.inl) λz=>.inl
def Zw(hx:c.slots.lookup x=ab k₀)(ho:c.own.contains k₀=false)(hs:gj wc=true)(hg:Gd src .ib c [wc])(hb:bR jB c body c.own):bR (.eV k₀ src jB) c [.For (.Name x p) wc body [] pos] c.own:=λ{C}{k}H A env aH M N ad r s fl r' a F e E=>
 M4 H a F (λ{aH M N ad s y v r p}a F hv hf E=>sW (l8 false a F hx hv ft λs' ad' mv a' F'=>by
  rw[show j5 false c.own k₀=c.own from M5 (by show(!c.own.contains k₀&&true)=true;rw[ho];rfl)]at a' F'
  exact mo (hb H a' F' hf E) λfw aX L=>L.trans mv (λz=>.inl) λz=>.inl)) hs hg e
def Zx{ps:List (Str×Pos)}(g:jA c ps ks)(ho:ks.all (λi=>!c.own.contains i)=true)(hs:gj wc=true)(hg:Gd src .ib c [wc])(hb:bR jB c body c.own):bR (.hZ ks src jB) c [.For (.Tuple (ps.map λp=>.Name p.1 p.2) kk tp) wc body [] pos] c.own:=λ{C}{k}H A env aH M N ad r s fl r' a F e E=>
 M4 H a F (M6 H a.ra.handled g ho hb) hs hg e
def Wi(C:Cx)(k:Nat)(A:aM)(env:Env)(c:Sc)(aH M N:Addr->Prop)(s:az)(t:Ex)(jB:S)(p:Fl×aE)(m:Nat)(aB:az):Prop:=∃fH,Left C.X k A env c aH M N s .next fH .next aB/\nO (a9 C.F t) (ex C.F jB) m fH=ab p
def Zy(ht:Gd t .a9 c [v])(hb:bR jB c body c.own):bR (.wh n t jB) c [.While v body [] pos] c.own:=λ{C}{k}H A env aH M N ad r s fl r' a F e E=>by
 refine c8 (wpAny_While (Zu (Wi C k A env c aH M N s t jB (fl,r')) (λm aB E hI=>?_) n ⟨r,Left.eq (.refl s) ⟨a,F⟩,e⟩))
 obtain⟨fH,L,hl⟩:=hI
 cases L with| @mk tU fG tX _ mv n0 m' n' o=>
 obtain⟨mT,rD⟩:At C.X k A env c fG fH aB/\Fw C.X env c aH tU fG tX fH aB.heap:=o.elim ft id
 cases m with
 |zero=>exact aN hl
 |succ m=>
  refine aO hl λb e1 hl=>aO e1 λtt et e1=>ifs e1 λhp e1=>?_
  refine mo (ht H mT et hp _) λb' s₂ z=>?_
  have n9:=mv.trans (Mv.of (M:=M) z.2) λd h=>.inl h
  rw[z.1,e1]
  cases b with
  |false=>cases hl;exact(Left.nx n9 m' n' ⟨mT.kp z.2,rD.kp mT z.2⟩)
  |true=>
   refine aO (show((ex C.F jB fH).bind _)=ab (fl,r')from hl) λp hf hl=>?_
   exact mo (hb H (mT.kp z.2) (rD.kp mT z.2) hf _) λfw aX L=>M1 hl (R:=λf=>Left C.X k A env c aH M N s fl r' f aX) (I:=∃m',m'<m+1/\Wi C k A env c aH M N s t jB (fl,r') m' aX) (L.trans n9 m' n') (λe L=>⟨m,iq _,_,L,e⟩) λf' L=>L
end
end Mine
section
open AutoSeq1 (wpAny_loadPart')
namespace Mine
def Zz{α:Type}{M:my}{A:aM}{b:α}{Q:α->az->Prop}{E:ay->az->Prop}{s:az}(h:∀b,Q b s):aA M A (pure b) Q E s:=aQ (h b)
def ZA(l:Addr)(items:Array ay)(n:Nat):
  Dv (eP.«enumerate.__new__» ⟨[.type "enumerate",.ref l],[]⟩) (λz R s=>s.heap.get? l=ab {cls:=.type "tuple",data:=.seq items n}/\
   R (.ok (.ret (.ref (s.heap.push {cls:=.type "tuple_iterator",data:=.fields #[.ref l,.int 0 0]}).objs.size)))
    {s with heap:=(s.heap.push {cls:=.type "tuple_iterator",data:=.fields #[.ref l,.int 0 0]}).push {cls:=.type "enumerate",data:=.fields #[.none,.bool false,.ref s.heap.objs.size,jS 0,.none,.none]}}):=
 .of_wp λprog w A R s h=>by
  obtain⟨hp,g,d,tk,os⟩:=s;obtain⟨hl,h⟩:=h
  have tN:=sub_enumerate
  have hL:Heap.IsTuple (Kg ⟨hp,g,d,tk,os⟩) l items:=⟨_,hl,rfl,n,rfl⟩
  wp_walk using AQ hl
  refine wpAny_stack_any λst=>Zz λb=>?_
  cases b
  ·wp_walk using AQ hl,anG hL
   exact⟨_,rfl,h⟩
  ·wp_walk using AQ hl,anG hL
   exact⟨_,rfl,h⟩
section
variable{prog:gK}{w:gZ}{A:aM}{E:ay->az->Prop}{s:az}
def ZC{l:Addr}{items:Array ay}{Q:ay->az->Prop}(hL:jY s.heap l items)
  (h:∀h',Kh h' (s.heap.objs.size+1) s.heap.objs.size 0 .none->h'.IsTupleIter s.heap.objs.size l 0->h'.objs.size=s.heap.objs.size+2->
   (∀b o,s.heap.get? b=ab o->h'.get? b=ab o)->Q (.ref (s.heap.objs.size+1)) {s with heap:=h'}):
  aA (model prog w) A (call (.type "enumerate") [.ref l]) Q E s:=by
 obtain⟨n,hl⟩:=hL
 refine JT F.called_enumerate (by decide) (F.typeCall_enumerate_1 _) (F.newCall_enumerate_1 _) (λobj=>F.args_object_init_2 obj _) F.entry_enumerate_new
  (ZA l items n) ⟨hl,?_⟩
 have hz:(s.heap.push {cls:=.type "tuple_iterator",data:=.fields #[.ref l,.int 0 0]}).objs.size=s.heap.objs.size+1:=fk ..
 show _/\_
 rw[hz]
 have he:Kh ((s.heap.push {cls:=.type "tuple_iterator",data:=.fields #[.ref l,.int 0 0]}).push
   {cls:=.type "enumerate",data:=.fields #[.none,.bool false,.ref s.heap.objs.size,jS 0,.none,.none]}) (s.heap.objs.size+1) s.heap.objs.size 0 .none:=by
  have:=cB (s.heap.push {cls:=.type "tuple_iterator",data:=.fields #[.ref l,.int 0 0]})
   (o:={cls:=.type "enumerate",data:=.fields #[.none,.bool false,.ref s.heap.objs.size,jS 0,.none,.none]}) rfl
  rw[hz]at this;exact this
 refine⟨⟨_,he,rfl⟩,h _ he ⟨_,cS _ (cB _ rfl),rfl,rfl⟩ (by rw[fk,hz]) λb o x=>cS _ (cS _ x)⟩
def ZD{it l:Addr}{i:Nat}{items}{x:ay}{Q:ay->az->Prop}(hit:s.heap.IsTupleIter it l i)
  (hl:s.heap.IsTuple l items) (hx:items[i]?=ab x)
  (hQ:∀h',h'.IsTupleIter it l (i+1)->sZ it s.heap h'->Q x {s with heap:=h'}):
  aA (model prog w) A (Ki (.ref it)) Q E s:=by
 obtain⟨o,ho,hc,hd⟩:=id hit
 obtain⟨ol,tY,_,nl,gD⟩:=hl
 unfold Ki
 refine aG (tj (name:=bP "__next__") hit.typeIs Kj
  (tm Kj hit.typeIs anH ?_ (anI _)))
 show aA _ _ (oK (.ref it) 0>>=_) _ _ s
 refine aG (lO ho hd (x:=.ref l) rfl ?_)
 show aA _ _ (if(ay.ref l==ay.none)=true then _ else _) _ _ s
 rw[ai (show¬((ay.ref l==ay.none)=true)from bT)]
 show aA _ _ (oK (.ref it) 1>>=_) _ _ s
 refine aG (lO ho hd (x:=.int i 0) rfl ?_)
 show aA _ _ (Kk (.ref l)>>=_) _ _ s
 refine aG (xN tY gD ?_)
 simp only[jU,hx]
 refine aG (Kl ho hd (by simp) (aQ ⟨x,rfl,aQ (hQ _ ?_ (qC ..))⟩))
 exact⟨_,xO _ ho (anJ (Km hd _)),(anK ..).trans hc,by
  rw[Km hd];simp [jS]⟩
def ZE{it l:Addr}{i:Nat}{items}{Q:ay->az->Prop}(hh:A.handled=ae)
  (hit:s.heap.IsTupleIter it l i) (hl:s.heap.IsTuple l items) (hx:items[i]?=ae)
  (hE:∀h' e,Ko it s.heap h'->(∃o,h'.get? e=ab o/\o.cls=.type "StopIteration")->E (.ref e) {s with heap:=h'}):
  aA (model prog w) A (Ki (.ref it)) Q E s:=by
 obtain⟨o,ho,hc,hd⟩:=id hit
 obtain⟨ol,tY,_,nl,gD⟩:=hl
 unfold Ki
 refine aG (tj (name:=bP "__next__") hit.typeIs Kj
  (tm Kj hit.typeIs anH ?_ (anI _)))
 show aA _ _ (oK (.ref it) 0>>=_) _ _ s
 refine aG (lO ho hd (x:=.ref l) rfl ?_)
 show aA _ _ (if(ay.ref l==ay.none)=true then _ else _) _ _ s
 rw[ai (show¬((ay.ref l==ay.none)=true)from bT)]
 show aA _ _ (oK (.ref it) 1>>=_) _ _ s
 refine aG (lO ho hd (x:=.int i 0) rfl ?_)
 show aA _ _ (Kk (.ref l)>>=_) _ _ s
 refine aG (xN tY gD ?_)
 simp only[jU,hx]
 refine aG (DA (aG (Kl ho hd (by simp) ?_)))
 show aA _ _ (Kq (.type "StopIteration") []>>=_) _ _ _
 refine aG ?_
 simp only[Kq,newTuple]
 refine aG (sR ?_ (by size_fits))
 refine aG (m:=Kr _ _) (AS (a:=ay.none) (by first|rfl|(simp only[Kr];rfl)) ?_)
 refine sR ?_ (by size_fits)
 refine aG (wpAny_handled ?_)
 first|rw[show A.in1.handled=ae from hh]|rw[hh]
 refine aG (aQ (wpAny_throw ?_))
 exact hE _ _ (((qC ..).extBut.push _).push _) ⟨_,cB _ rfl,rfl⟩
end
def ZF{prog:gK}{w:gZ}{A:aM}(hh:A.handled=ae)(it l:Addr)(iY:l≠it)(items:Array ay):
  Draws prog w A it [it,l] items.size (λi v=>items[i]?=ab v) (λi h=>h.IsTupleIter it l i/\h.IsTuple l items) where
 live:=λy y st=>st.1.elim λo z=>⟨o,z.1⟩
 frame:=λy y y st hk=>⟨st.1.elim λo z=>⟨o,hk it bk o z.1,z.2⟩,st.2.elim λo z=>⟨o,hk l (bS _ bk) o z.1,z.2⟩⟩
 item:=λi s Q E hi st hQ=>ZD st.1 st.2 (oG hi) λh' rE cb=>hQ _ h' s.toks (oG hi) ⟨rE,st.2.extBut cb.extBut iY⟩ cb
 done:=λs Q E st hE=>ZE hh st.1 st.2 (UB (bj _)) hE
def M7(l:List T):(lU l).length=l.length:=by unfold lU;rw[bK,anO,kr,Nat.min_self]
def ZG{l:List T}{i:Nat}{t:T}(h:(lU l)[i]?=ab t):∃y,l[i]?=ab y/\t=.tup [.int (i:Nat),y]:=by
 unfold lU at h
 rw[gL]at h
 refine map_some h λp e e'=>?_
 have e:=qA.mp e
 refine⟨p.1,e.1,?_⟩
 rw[<-e',<-(iR.mp e.2).2,Ug]
def ZH{A₀:aM}(vI:A₀.handled=ae){X:Kx}{N:Addr->Prop}{h₀ h₂:Heap}{l:List T}{vs:List ay}{e it:Addr}{fp:List Addr}{St:Nat->Heap->Prop}
  (D:∀A:aM,A.handled=ae->Draws X.prog X.w A.in1 it fp vs.toArray.size (λi v=>vs.toArray[i]?=ab v) St) (M8:e≠it) (Fu:e∉fp) (ZI:it∈fp)
  (lt:∀b∈e::fp,b<h₂.objs.size) (nt:∀b∈e::fp,b∉aV) (z:l.length<=lim) (hs:aL X N h₀ l vs) (hk:∀b o,h₀.get? b=ab o->h₂.get? b=ab o) (hz:h₀.objs.size<=h₂.objs.size)
  (hw:∀b∈[e,it],h₀.objs.size<=b) (cl:∀i h,St i h->∃o,h.get? it=ab o/\¬iB o):
  It X N h₂ (lU l) true e (e::fp) [e,it] (λi h=>(∃old,Kh h e it i old)/\St i h)
   (λi v h=>∃T,v=.ref T/\(∃x,IsEnumOut h e it ((i:Int)+1) x T)/\St (i+1) h/\T≠e/\T≠it):=by
 have len:vs.toArray.size=(lU l).length:=by rw[M7,bU,hs.length]
 have W:∀A:aM,A.handled=ae->_:=λA hA=>WalksT.enumerateD (prog:=X.prog) (w:=X.w) (A:=A) (D A hA) e M8 Fu ZI
 have M9:∀(h:Heap)b(o:Obj),h.get? b=ab o->o.cls=.type "enumerate"->∃o,h.get? b=ab o/\¬iB o:=λh b o eo ec=>⟨o,eo,nJ ec (by decide)⟩
 refine⟨(W A₀ vI).sub,lt,nt,by rw[M7];exact z,(W A₀ vI).frame,λi h st b hb=>?_,λi v h m b hb=>?_,λA hA i t s N' Q E ht st keep hN dp hQ=>?_,λA i v target s Q E ZJ m hQ=>?_,λA hA s Q E st hQ=>?_,λA s Q E st hQ=>?_⟩
 ·rcases br.mp hb with rfl|hb
  ·obtain⟨old,he⟩:=st.1;exact M9 _ _ _ he rfl
  ·rw[b4.mp hb];exact cl i h st.2
 ·obtain⟨T,rfl,⟨x,ho⟩,fK,_⟩:=m
  rcases br.mp hb with rfl|hb
  ·exact M9 _ _ _ ho rfl
  ·rw[b4.mp hb];exact cl _ h fK
 ·obtain⟨y,e1,rfl⟩:=ZG ht
  obtain⟨⟨old,he⟩,fK⟩:=st
  have hi:i<vs.toArray.size:=by rw[len];exact(iR.mp ht).1
  refine wpAny_pyNext_enum_itemD (D A hA) he fK hi M8 Fu λx h' tk hP ho cb hT hsz EF=>?_
  have ZK:e<s.heap.objs.size:=xj he
  have ZL:it<s.heap.objs.size:=by obtain⟨_,q⟩:=(D A hA).live _ _ fK;exact xj q
  obtain⟨v,e2,e3⟩:=hs.get e1
  have ZM:vs[i]?=ab x:=by simpa using hP
  rw[ZM]at e2;cases e2
  have ext:∀b o,b∉[e,it]->s.heap.get? b=ab o->h'.get? b=ab o:=λb o hb q=>EF b o (λz=>hb (by simp [z])) (λz=>hb (by simp [z])) q
  refine hQ _ h' (tk+1) ⟨_,rfl,⟨x,ho⟩,cb,iS ZK,iS ZL⟩ ?_ ext
  refine .tup (vs:=[.int i tk,x]) ⟨0,hT⟩ (λq=>eY _ (dp _ q)) (show 2<=65536 by decide) (.cons (.int _ _) (.cons ?_ .nil))
  refine e3.move (λb q=>(hN b q).imp id λq=>q.elim (hw b) (aD hz)) λb o hb q=>?_
  have Nc:b∉[e,it]:=λz=>eY _ (bG (bw q) (hw b z))
  exact ext b o Nc (keep b o hb Nc (hk b o q))
 ·obtain⟨T,rfl,m⟩:=m
  obtain⟨es,kk,p,rfl⟩:=ZJ rfl
  intro Γ p' Ew
  have hq:∀h',_->_->Q () {s with heap:=h'}:=λh' a b=>hQ h' s.toks a b
  obtain⟨⟨x,ho⟩,fK,hTe,hTi⟩:=m
  refine wpAny_letOwnedTupleGo_enum ho (λh' ZN cb=>hq h' ⟨⟨x,by simpa using ZN⟩,(D A₀ vI).frame _ _ _ fK λb hb o y=>(cb.2 b λq=>Fu (q▸hb)).trans y⟩ λb o hb y=>?_) Γ p' Ew
  exact(cb.2 b λe'=>hb (by simp [e'])).trans y
 ·rw[<-len]at st
  exact(W A hA).done s Q E st hQ
 ·obtain⟨⟨old,he⟩,_⟩:=st
  exact wpAny_pyIter_enum he hQ
section
variable{X:Kx}{A:aM}{N:Addr->Prop}{s:az}{E:ay->az->Prop}
def Fv{a b c d:Addr}{P:Addr->Prop}(h:b∈[a,c,d])(k:P a)(k':P c)(ZO:P d):P b:=by
 rcases br.mp h with rfl|h
 ·exact k
 ·exact vJ h k' ZO
def Nd(X:Kx)(N:Addr->Prop)(s:az)(l:List T)(u:ay)(s':az):Prop:=∃I fp wr St eJ,u=.ref I/\Kp X s s'/\It X N s'.heap (lU l) true I fp wr St eJ/\St 0 s'.heap/\(∀b∈wr,s.heap.objs.size<=b)/\(∀b∈fp,b∉wr->¬N b)
def Nf(hh:A.handled=ae)(n:NG X N s.heap){l:List T}{vs:List ay}{a D:Addr}(hD:D=s.heap.objs.size)(lx:a<D)(hN:¬N a)(hz:l.length<=lim)(hs:aL X N s.heap l vs){St:Nat->Heap->Prop}
  (Dr:∀A:aM,A.handled=ae->Draws X.prog X.w A.in1 D [D,a] vs.toArray.size (λi v=>vs.toArray[i]?=ab v) St) (cl:∀i h,St i h->∃o T,h.get? D=ab o/\o.cls=.type T/\T≠"code"/\T≠"module") {h':Heap} (he:Kh h' (D+1) D 0 .none) (st:St 0 h') (hsz:h'.objs.size=D+2)
  (hk:∀b o,s.heap.get? b=ab o->h'.get? b=ab o):Nd X N s l (.ref (D+1)) {s with heap:=h'}:=by
 subst hD
 have kp:Kp X s {s with heap:=h'}:=Kp.of hk (by rw[hsz];exact bX _ _)
 have tb:∀{b},s.heap.objs.size<=b->b∉aV:=λ{b}hb q=>bx (n.lt b (n.tb b q)) hb
 have w:∀b∈[s.heap.objs.size+1,s.heap.objs.size],s.heap.objs.size<=b:=λb hb=>vJ (P:=λb=>s.heap.objs.size<=b) hb (gy _) (bj _)
 refine⟨_,_,_,_,_,rfl,kp,ZH hh (h₂:=h') Dr (xI _) (λq=>?_) bk (λb hb=>?_) (λb hb=>?_) hz hs hk kp.size w λi h st=>?_,⟨⟨_,he⟩,st⟩,w,λb hb hw=>?_⟩
 ·exact vJ (P:=λb=>b=s.heap.objs.size+1->False) q (λe=>xI _ e.symm) (λe=>eY _ (qg (iq _) (e▸lx))) rfl
 ·rw[hsz]
  exact Fv (P:=λb=>b<s.heap.objs.size+2) hb (iq _) (va (iq _)) (va (va lx))
 ·exact Fv (P:=λb=>b∉aV) hb (tb (gy _)) (tb (bj _)) λq=>hN (n.tb _ q)
 ·obtain⟨o,T,e,c,n1⟩:=cl i h st
  exact⟨o,e,nJ c n1⟩
 ·exact Fv (P:=λb=>b∉[s.heap.objs.size+1,s.heap.objs.size]->¬N b) hb (λq=>aj bk q) (λq=>aj (bS _ bk) q) (λz=>hN) hw
def ZP(hh:A.handled=ae)(n:NG X N s.heap){t:T}{l:List T}{v:ay}(ht:qN t=ab l)(hv:VR X N s.heap t v):aA (model X.prog X.w) A (call (.type "enumerate") [v]) (Nd X N s l) E s:=by
 cases t with
 |lst=>
  cases ht
  refine hv.eQ λa vs ho hN hz hs=>?_
  have lx:a<s.heap.objs.size:=ho.elim λy e=>bw e
  exact call_enumerate_list ho.isList λh' he hi hsz hk=>Nf hh n rfl lx hN hz hs (St:=λi h=>h.IsListIter s.heap.objs.size a i/\h.IsList a vs.toArray) (λA hA=>Draws.list (prog:=X.prog) (w:=X.w) (A:=A.in1) (show A.in1.handled=ae from hA) s.heap.objs.size a (cW lx) vs.toArray)
   (λi h st=>st.1.elim λo z=>⟨o,_,z.1,z.2.1,by decide⟩) he ⟨hi,ho.isList.at λo e=>hk _ _ e⟩ hsz hk
 |tup=>
  cases ht
  refine hv.fb λa vs ho hN hz hs=>?_
  have lx:a<s.heap.objs.size:=ho.elim λy e=>bw e
  exact ZC ho λh' he hi hsz hk=>Nf hh n rfl lx hN hz hs (St:=λi h=>h.IsTupleIter s.heap.objs.size a i/\h.IsTuple a vs.toArray) (λA hA=>ZF (prog:=X.prog) (w:=X.w) (A:=A.in1) (show A.in1.handled=ae from hA) s.heap.objs.size a (cW lx) vs.toArray)
   (λi h st=>st.1.elim λo z=>⟨o,_,z.1,z.2.1,by decide⟩) he ⟨hi,ho.elim λk e=>⟨_,hk _ _ e,rfl,k,rfl⟩⟩ hsz hk
 |_=>exact aN ht
end
section
variable{c:Sc}{src:Ex}{bg:aW}{x:Str}{kk:Nat}{xp cp tp pos:Pos}{jB:S}{body:List Stmt}{ks:List Nat}
def ZQ{ps:List (Str×Pos)}(g:jA c ps ks)(ho:ks.all (λi=>!c.own.contains i)=true)(hg:qX c x (s_ "enumerate") (.type "enumerate"))(hn:notStar bg=true)(h1:Gd src .val c [bg])(hb:bR jB c body c.own):
  bR (.lT ks src jB) c [.For (.Tuple (ps.map λp=>.Name p.1 p.2) kk tp) (.Call (.Name x xp) [bg] [] cp) body [] pos] c.own:=λ{C}{k}H A env aH M N ad r s fl r' a F e E=>by
 refine aO e λt et e=>aO e λl ht e=>?_
 refine c8 (Kf (jy (jw a hg.2.1 hg.2.2.2 (iX hg.2.2.1).1 ?_)) (vS rfl env))
 rw[j3 hn]
 refine qq rfl (AP (eZ (vl (h1 H a et) λv aB k₁ hv=>gb (mo (ZP a.ra.handled (a.kp k₁).ng ht hv) λu s₂ z=>?_))))
 obtain⟨I,fp,wr,St,eJ,rfl,k₂,it,st,fF,ig⟩:=z
 exact it.self A s₂ _ E st (Fq (λq=>⟨_,_,_,rfl⟩) (M6 H a.ra.handled g ho hb) a F it st (k₁.trans k₂) (λb hb=>aD k₁.size (fF b hb)) ig e λfw s' L=>L)
end
end Mine
end
namespace Mine
section
variable{prog:gK}{w:gZ}{A:aM}{E:ay->az->Prop}
def ZR{it l:Addr}(hh:A.handled=ae)(iY:l≠it){items:Array ay}{n:Nat}:∀{i:Nat}{s:az}{Q:List ay->az->Prop},s.heap.IsListIter it l i->s.heap.IsList l items->i+n<=items.size->
  (∀h' tk,h'.IsListIter it l (i+n)->h'.IsList l items->(∀b o,b≠it->s.heap.get? b=ab o->h'.get? b=ab o)->Q ((items.toList.drop i).take n) {s with heap:=h',toks:=tk})->aA (model prog w) A (draw (.ref it) n) Q E s:=by
 induction n with
 |zero=>exactλ{i s Q}hit hl z hQ=>aQ (hQ s.heap s.toks hit hl λz z z e=>e)
 |succ n ih=>
  intro i s Q hit hl hle hQ
  have dp:i<items.size:=bG (vc (eG n)) hle
  refine aG ((Dn (prog:=prog) (w:=w) (A:=A) hh it l iY items).item i s _ _ dp ⟨hit,hl⟩ λv bJ tk hP st kk=>?_)
  refine aG (dN (ih (s:={s with heap:=bJ,toks:=tk}) st.1 st.2 (by rw[UC];exact hle) λh₂ rF Ng ZS k₂=>aQ ?_))
  have hd:items.toList.drop i=v::items.toList.drop (i+1):=(BM (by rw[xw];exact hP)).2
  have:=hQ h₂ rF (by rw[UC]at Ng;exact Ng) ZS λb o hb e=>k₂ b o hb (kk b o (λq=>hb (b4.mp q)) e)
  rw[hd,List.take_succ_cons]at this
  exact this
def ZT{s:az}{l:Addr}{items:Array ay}{Q:List ay->az->Prop}(hh:A.handled=ae)(hl:s.heap.IsList l items)
  (hQ:∀h' tk,(∀b o,s.heap.get? b=ab o->h'.get? b=ab o)->s.heap.objs.size<=h'.objs.size->Q items.toList {s with heap:=h',toks:=tk}):aA (model prog w) A (xH (.ref l) items.size ae) Q E s:=by
 have dp:l≠s.heap.objs.size:=by obtain⟨o,ho,_⟩:=hl;exact cW (xj ho)
 have main:aA (model prog w) A (xH (.ref l) items.size ae) (λv s'=>s.heap.objs.size<=s'.heap.objs.size->Q v s') E s:=by
  unfold xH
  refine aG ?_
  ·unfold notIterableAtAll
   refine aG (JQ hl.typeIs slot_list_iter.lookup ?_)
   refine aQ ?_
   rw[ai bT]
   refine aG (dN (AK hl ?_))
   have ZU:(s.heap.push {cls:=.type "list_iterator",data:=.fields #[.ref l,.int 0 0]}).IsListIter s.heap.objs.size l 0:=⟨_,cB _ rfl,rfl,rfl⟩
   refine aG (dN (ZR hh dp (n:=items.size) ZU (hl.push _) (by rw[jV];exact bj _) λbJ apR Nh j9 k₁=>?_))
   rw[anP,List.take_of_length_le (bO (uY ..)),ai (by rw[uY];exact eY _)]
   rw[jV]at Nh
   refine aG (dN ((Dn (prog:=prog) (w:=w) (A:=A) hh s.heap.objs.size l dp items).done _ _ _ ⟨Nh,j9⟩ λh₂ rF k₂=>?_))
   refine aQ (λhz=>hQ h₂ rF (λb o e=>?_) hz)
   have hb:b≠s.heap.objs.size:=cW (bw e)
   exact k₂ b o (λq=>hb (b4.mp q)) (k₁ b o hb (cS _ e))
 exact fg main
end
def ZV{α β:Type}{f:α->Option β}{l:List α}(h:∃e∈l,f e=ae):(l.filterMap f).length<l.length:=by
 induction l with
 |nil=>exact h.elim λe z=>(gM z.1).elim
 |cons a l ih=>
  rw[J2]
  cases q:f a with
  |none=>exact AX (anm f l)
  |some b=>
   obtain⟨e,h1,h2⟩:=h
   exact anQ (ih ⟨e,(br.mp h1).resolve_left λz=>aN ((z▸h2).symm.trans q),h2⟩)
def ZW{e:aW}(h:tV e=true):∃es k p,e=.Tuple es k p:=
 Expr.Tuple.elim (motive_1:=λe=>e.ctorIdx=25->∃es k p,e=.Tuple es k p) e (ao h) (λes k p z=>⟨es,k,p,rfl⟩) (ao h)
def ZX{es vs:List aW}{j i:Nat}{tp q:Pos}{env:Env}(h:es.any tV=true):AY [.Tuple es j tp] (.Tuple vs i q) env=pure ae:=by
 unfold AY
 dsimp only
 split
 ·rfl
 ·split
  ·rfl
  ·split
   ·rfl
   ·rename_i hl
    obtain⟨e,h1,h2⟩:=xi.mp h
    have:=bne_eq_false_iff_eq.mp (sL.mp (J1 _▸hl)).1
    refine aj this (cW (ZV ⟨e,h1,?_⟩))
    obtain⟨_,_,_,rfl⟩:=ZW h2
    rfl
inductive NT:List aW->List Tg->List (Str×Pos)->Prop
 |nil:NT [] [] []
 |one {x p k es ts ps} (r:NT es ts ps):NT (.Name x p::es) (.one k::ts) ((x,p)::ps)
 |many {qs kk pp ks es ts ps} (hq:qs.length=ks.length) (r:NT es ts ps):NT (.Tuple (qs.map λq=>.Name q.1 q.2) kk pp::es) (.many ks::ts) (qs++ps)
section
variable{X:Kx}{k:Nat}{A:aM}{env:Env}{own:Str->Prop}{N M:Addr->Prop}{s aP:az}{E:ay->az->Prop}{es:List aW}{ts:List Tg}{ps:List (Str×Pos)}{t:T}{ys:List T}{v:ay}
def NT.each(h:NT es ts ps):assignEach es env=es.map λe=>(false,assign e env):=by
 induction h with
 |nil=>rfl
 |one r ih=>exact af (_::·) ih
 |many hq r ih=>exact af (_::·) ih
def ZY(ap:Apart s.heap)(l5:∀a,M a->N a)(ht:qN t=ab ys)(hv:VR X N s.heap t v):∃a vs,v=.ref a/\aL X N s.heap ys vs/\∀{s'},Mv X M s s'->A.handled=ae->cJ X env M own s'.heap->aA (model X.prog X.w) A (xH (.ref a) vs.length ae) (λws cj=>ws=vs/\fD X env M own [] s' cj) E s':=by
 cases t with
 |lst=>
  cases ht
  refine hv.eQ λa vs ho hN hz hs=>⟨a,vs,rfl,hs,λ{s'}mv hh F=>?_⟩
  have e:vs.toArray.size=vs.length:=bU ..
  rw[<-e]
  exact ZT hh (ho.at λo e=>mv.old _ _ (λq=>hN (l5 _ q)) (ho.elim λn e=>mI ap e rfl) e).isList λh' tk kk z=>⟨rfl,fD.keep F kk z⟩
 |tup=>
  cases ht
  exact hv.fb λa vs ho hN hz hs=>⟨a,vs,rfl,hs,λ{s'}mv hh F=>vR hh F (jY.isTup (ho.elim λn e=>⟨n,mv.old _ _ (λq=>hN (l5 _ q)) (mI ap e rfl) e⟩))⟩
 |_=>exact aN ht
def Ni{l:List (Str×Pos)}{vs:List ay}{x:Str}(h:x∈(l.zip vs).map (·.1.1)):x∈l.map (·.1):=by
 obtain⟨e,he,e'⟩:=dy.mp h
 exact dy.mpr ⟨e.1,(sX he).1,e'⟩
def ZZ(hh:A.handled=ae)(l5:∀a,M a->N a)(ap:Apart aP.heap)(h:NT es ts ps):∀{xs vs flat},aL X N aP.heap xs vs->qS ts xs=ab flat->(∀p∈ps,own p.1)->(ps.map (·.1)).Nodup->
  ∃tZ,aL X N aP.heap flat tZ/\es.length=vs.length/\∀{s:az}{Q:Unit->az->Prop},Mv X M aP s->cJ X env M own s.heap->(∀s',fD X env M own (ps.zip tZ) s s'->Q () s')->Run (model X.prog X.w) A E Q ((es.zip vs).map λe=>assign e.1 env e.2) s:=by
 induction h with
 |nil=>
  intro xs vs flat hv h _ _
  cases hv with
  |nil=>cases h;exact⟨[],.nil,rfl,λ{s Q}y F q=>q s (fD.keep F (λy y e=>e) (bj _))⟩
  |cons _ _=>exact aN h
 | @one x p k es ts ps r ih=>
  intro xs vs flat hv h ho nd
  have cT:=hH.mp nd
  cases hv with
  |nil=>exact aN h
  | @cons t v BJ ws h1 h2=>
   refine map_some (show(qS ts BJ).map (t::·)=ab flat from h) λfx e1 e2=>?_
   obtain⟨tZ,g1,g2,g3⟩:=ih h2 e1 (λp hp=>ho p (bS _ hp)) cT.2
   exact⟨v::tZ,e2▸.cons h1 g1,af (· +1) g2,λ{s Q}mv F q=>sW (EL F (ho _ bk) λs' S=>g3 (mv.trans S.m λy=>.inl) S.ck λcj S'=>q cj (S.app S' λe he=>by rw[b4.mp he];exactλz=>cT.1 (Ni z)))⟩
 | @many qs kk pp ks es ts ps hq r ih=>
  intro xs vs flat hv h ho nd
  rw[mD]at nd
  have Fx:=List.nodup_append.mp nd
  cases hv with
  |nil=>exact aN h
  | @cons t v BJ ws h1 h2=>
   refine aO (show((qN t).bind λys=>if ks.length=ys.length then(qS ts BJ).map (ys++·)else ae)=ab flat from h) λys ht h=>gi h λhl h=>map_some h λfx e1 e2=>?_
   obtain⟨tZ,g1,g2,g3⟩:=ih h2 e1 (λp hp=>ho p (mE _ hp)) Fx.2.1
   obtain⟨a,us,rfl,f1,f2⟩:=ZY (A:=A) (E:=E) (env:=env) (own:=own) ap l5 ht h1
   have lu:qs.length=us.length:=hq.trans (hl.trans f1.length.symm)
   refine⟨us++tZ,e2▸f1.app g1,af (· +1) g2,λ{s Q}mv F q=>BK lu (f2 mv hh F) (λp hp=>ho p (AV _ hp)) Fx.1 λs' S=>g3 (mv.trans S.m λy=>.inl) S.ck λcj S'=>q cj ?_⟩
   rw[List.zip_append lu]
   exact S.app S' λe he z=>Fx.2.2 _ (dy.mpr ⟨e.1,(sX he).1,rfl⟩) _ (Ni z) rfl
end
section
variable{c:Sc}{bg:Ex}{es vs:List aW}{ts:List Tg}{j i:Nat}{tp q pos:Pos}{ps:List (Str×Pos)}
def Z0(g:jA c ps (ts.flatMap Tg.ks))(hn:NT es ts ps)(ht:es.any tV=true)(hg:Gd bg .val c [.Tuple vs i q]):bR (.nest ts bg) c [.Assign [.Tuple es j tp] (.Tuple vs i q) pos] (d5 c.own (ts.flatMap Tg.ks)):=λ{C}{k}H A env aH M N ad r s fl r' a F e E=>by
 refine aO e λt et ea=>kH ea λl q eb=>aO eb λflat ef ec=>aO ec λr1 hp ez=>?_
 clear e ea eb ec
 cases ez;subst q
 refine c8 (Assign_Tuple (vl (hg H a et) λval aB k₁ hv=>hv.fb λb ws yS hN hz j7=>?_) rfl (ZX ht))
 have a1:=a.kp k₁
 have F1:=F.kp a k₁
 obtain⟨tZ,g1,g2,g3⟩:=ZZ (X:=C.X) (A:=A) (E:=E) (env:=env) (own:=ow c.slots) a.ra.handled F.mn a1.apart hn j7 ef g.own g.nd
 rw[assign_Tuple]
 refine aG (lB ?_)
 unfold unpack
 rw[hn.each,bK,g2,show(es.map λe=>(false,assign e env)).findIdx? (·.1)=ae by
  rw[amX];intro x hx;obtain⟨p,_,rfl⟩:=dy.mp hx;rfl]
 refine aG (dN (mo (vR a.ra.handled F1.ck yS.isTup) λus s₂ z=>?_))
 rw[z.1,fO]
 have f1:es.map ((λx=>x.2)∘λe=>(false,assign e env))=((es.zip ws).map λe=>(assign e.1 env,e.2)).map (·.1):=by rw[fO];exact(tP (f:=λe=>assign e env) g2).symm
 have f2:ws=((es.zip ws).map λe=>(assign e.1 env,e.2)).map (·.2):=by rw[fO];exact(zip2 g2).symm
 rw[f1]
 conv=>arg 3;arg 2;rw[f2]
 refine EM ?_
 rw[fO]
 refine g3 z.2.m z.2.ck λaX S=>?_
 have S2:=z.2.app S λy h=>(gM h).elim
 exact Left.eq ((Mv.of k₁).trans S2.m λy=>.inl) (yP a1 F1 g.hs g.hl g.cL hp S2 g1)
end
inductive Mb(p:Prop):Type
 |no
 |yes (h:p)
abbrev Xp:=aW
noncomputable def Mb.ok{p:Prop}(x:Mb p):Bool:=Mb.rec (motive:=λz=>Bool) false (λz=>true) x
def Mb.get{p:Prop}(x:Mb p)(h:x.ok=true):p:=by cases x with|no=>exact ft h|yes q=>exact q
noncomputable def Mb.bind{p q:Prop}(x:Mb p)(k:p->Mb q):Mb q:=Mb.rec (motive:=λz=>Mb q) .no k x
noncomputable def bV{q:Prop}(b:Bool)(k:b=true->Mb q):Mb q:=Bool.rec (motive:=λc=>(c=true->Mb q)->Mb q) (λz=>.no) (λk=>k rfl) b k
noncomputable def Fy{p q:Prop}(x:Mb p)(k:p->q)(y:Mb q):Mb q:=Mb.rec (motive:=λz=>Mb q) y (λh=>.yes (k h)) x
noncomputable def opt{α:Type}{q:Prop}(o:Option α)(k:∀v,o=ab v->Mb q):Mb q:=Option.rec (motive:=λc=>(∀v,c=ab v->Mb q)->Mb q) (λz=>.no) (λv k=>k v rfl) o k
noncomputable def ol{α:Type}{P:List α->Prop}(xs:List α)(n:Mb (P []))(k:∀x r,Mb (P (x::r))):Mb (P xs):=List.casesOn (motive:=λl=>Mb (P l)) xs n k
noncomputable def o1{α:Type}{P:List α->Prop}(xs:List α)(k:∀x,Mb (P [x])):Mb (P xs):=ol xs .no λx r=>ol (P:=λr=>P (x::r)) r (k x) λz z=>.no
noncomputable def oo{α:Type}{P:Option α->Prop}(o:Option α)(n:Mb (P ae))(k:∀x,Mb (P (ab x))):Mb (P o):=Option.casesOn (motive:=λl=>Mb (P l)) o n k
section
variable{P:Xp->Prop}(x:Xp)
noncomputable def we(k:∀n p,Mb (P (.Name n p))):Mb (P x):=if h:x.ctorIdx=23 then qu.elim (motive_1:=λx=>Mb (P x)) x h k else .no
noncomputable def BV(k:∀n j p,Mb (P (.Constant n j p))):Mb (P x):=if h:x.ctorIdx=19 then Expr.Constant.elim (motive_1:=λx=>Mb (P x)) x h k else .no
noncomputable def Nj(k:∀y n p,Mb (P (.Attribute y n p))):Mb (P x):=if h:x.ctorIdx=20 then Expr.Attribute.elim (motive_1:=λx=>Mb (P x)) x h k else .no
noncomputable def Z1(k:∀l o r p,Mb (P (.BinOp l o r p))):Mb (P x):=if h:x.ctorIdx=2 then Expr.BinOp.elim (motive_1:=λx=>Mb (P x)) x h k else .no
noncomputable def Nk(k:∀o r p,Mb (P (.UnaryOp o r p))):Mb (P x):=if h:x.ctorIdx=3 then Expr.UnaryOp.elim (motive_1:=λx=>Mb (P x)) x h k else .no
noncomputable def Z2(k:∀o r p,Mb (P (.BoolOp o r p))):Mb (P x):=if h:x.ctorIdx=0 then Expr.BoolOp.elim (motive_1:=λx=>Mb (P x)) x h k else .no
noncomputable def Z3(k:∀a b c p,Mb (P (.IfExp a b c p))):Mb (P x):=if h:x.ctorIdx=5 then Expr.IfExp.elim (motive_1:=λx=>Mb (P x)) x h k else .no
noncomputable def Z4(k:∀a b p,Mb (P (.Dict a b p))):Mb (P x):=if h:x.ctorIdx=6 then Expr.Dict.elim (motive_1:=λx=>Mb (P x)) x h k else .no
noncomputable def Nl(k:∀a b c p,Mb (P (.ListComp a b c p))):Mb (P x):=if h:x.ctorIdx=8 then Expr.ListComp.elim (motive_1:=λx=>Mb (P x)) x h k else .no
noncomputable def Z5(k:∀a b c p,Mb (P (.Compare a b c p))):Mb (P x):=if h:x.ctorIdx=15 then Expr.Compare.elim (motive_1:=λx=>Mb (P x)) x h k else .no
noncomputable def FA(k:∀a b c p,Mb (P (.Call a b c p))):Mb (P x):=if h:x.ctorIdx=16 then Expr.Call.elim (motive_1:=λx=>Mb (P x)) x h k else .no
noncomputable def Z6(k:∀a b p,Mb (P (.Subscript a b p))):Mb (P x):=if h:x.ctorIdx=21 then Expr.Subscript.elim (motive_1:=λx=>Mb (P x)) x h k else .no
noncomputable def Nm(k:∀a p,Mb (P (.List a p))):Mb (P x):=if h:x.ctorIdx=24 then Expr.List.elim (motive_1:=λx=>Mb (P x)) x h k else .no
noncomputable def FC(k:∀a j p,Mb (P (.Tuple a j p))):Mb (P x):=if h:x.ctorIdx=25 then Expr.Tuple.elim (motive_1:=λx=>Mb (P x)) x h k else .no
noncomputable def Z7(k:∀a b c p,Mb (P (.Slice a b c p))):Mb (P x):=if h:x.ctorIdx=26 then Expr.Slice.elim (motive_1:=λx=>Mb (P x)) x h k else .no
end
section
variable{e:Ex}{m:Mode}{c:Sc}(xs:List Xp)
noncomputable def hX(k:∀x,Mb (Gd e m c [x])):Mb (Gd e m c xs):=o1 (P:=Gd e m c) xs k
noncomputable def hName(k:∀n p,Mb (Gd e m c [.Name n p])):Mb (Gd e m c xs):=hX xs λx=>we (P:=λx=>Gd e m c [x]) x k
noncomputable def Z8(k:∀n j p,Mb (Gd e m c [.Constant n j p])):Mb (Gd e m c xs):=hX xs λx=>BV (P:=λx=>Gd e m c [x]) x k
noncomputable def Nn(k:∀y n p,Mb (Gd e m c [.Attribute y n p])):Mb (Gd e m c xs):=hX xs λx=>Nj (P:=λx=>Gd e m c [x]) x k
noncomputable def Z9(k:∀n p n' q,Mb (Gd e m c [.Attribute (.Name n p) n' q])):Mb (Gd e m c xs):=Nn xs λy n' q=>we (P:=λy=>Gd e m c [.Attribute y n' q]) y λn p=>k n p n' q
noncomputable def aaa(k:∀l o r p,Mb (Gd e m c [.BinOp l o r p])):Mb (Gd e m c xs):=hX xs λx=>Z1 (P:=λx=>Gd e m c [x]) x k
noncomputable def FD(k:∀o r p,Mb (Gd e m c [.UnaryOp o r p])):Mb (Gd e m c xs):=hX xs λx=>Nk (P:=λx=>Gd e m c [x]) x k
noncomputable def Np(k:∀o l r p,Mb (Gd e m c [.BoolOp o [l,r] p])):Mb (Gd e m c xs):=hX xs λx=>Z2 (P:=λx=>Gd e m c [x]) x λo ls p=>ol (P:=λls=>Gd e m c [.BoolOp o ls p]) ls .no λl r=>o1 (P:=λr=>Gd e m c [.BoolOp o (l::r) p]) r λr=>k o l r p
noncomputable def hIf(k:∀l y z p,Mb (Gd e m c [.IfExp l y z p])):Mb (Gd e m c xs):=hX xs λx=>Z3 (P:=λx=>Gd e m c [x]) x k
noncomputable def FE(k:∀l o q p,Mb (Gd e m c [.Compare l [o] [q] p])):Mb (Gd e m c xs):=hX xs λx=>Z5 (P:=λx=>Gd e m c [x]) x λl os qs p=>o1 (P:=λos=>Gd e m c [.Compare l os qs p]) os λo=>o1 (P:=λqs=>Gd e m c [.Compare l [o] qs p]) qs λq=>k l o q p
noncomputable def BW(k:∀n q es p,Mb (Gd e m c [.Call (.Name n q) es [] p])):Mb (Gd e m c xs):=hX xs λx=>FA (P:=λx=>Gd e m c [x]) x λf es kw p=>we (P:=λf=>Gd e m c [.Call f es kw p]) f λn q=>ol (P:=λkw=>Gd e m c [.Call (.Name n q) es kw p]) kw (k n q es p) λz z=>.no
noncomputable def FF(k:∀n q y p,Mb (Gd e m c [.Call (.Name n q) [y] [] p])):Mb (Gd e m c xs):=BW xs λn q es p=>o1 (P:=λes=>Gd e m c [.Call (.Name n q) es [] p]) es λy=>k n q y p
noncomputable def Nq(k:∀y n u es p,Mb (Gd e m c [.Call (.Attribute y n u) es [] p])):Mb (Gd e m c xs):=hX xs λx=>FA (P:=λx=>Gd e m c [x]) x λf es kw p=>Nj (P:=λf=>Gd e m c [.Call f es kw p]) f λy n u=>ol (P:=λkw=>Gd e m c [.Call (.Attribute y n u) es kw p]) kw (k y n u es p) λz z=>.no
noncomputable def hSub(k:∀l q p,Mb (Gd e m c [.Subscript l q p])):Mb (Gd e m c xs):=hX xs λx=>Z6 (P:=λx=>Gd e m c [x]) x k
noncomputable def Nr(k:∀x tg y fs sc q,Mb (Gd e m c [.ListComp x [⟨tg,y,fs,0⟩] sc q])):Mb (Gd e m c xs):=hX xs λx=>Nl (P:=λx=>Gd e m c [x]) x λx gs sc q=>o1 (P:=λgs=>Gd e m c [.ListComp x gs sc q]) gs λg=>J7.casesOn (motive_3:=λg=>Mb (Gd e m c [.ListComp x [g] sc q])) g λtg y fs a=>bV (decide (a=0)) λh=>Mb.bind (k x tg y fs sc q) λw=>.yes (aq h▸w)
noncomputable def Nt{P:J7->Prop}(g:J7)(k:∀n p y,Mb (P ⟨.Name n p,y,[],0⟩)):Mb (P g):=J7.casesOn (motive_3:=λg=>Mb (P g)) g λtg y fs a=>we (P:=λtg=>P ⟨tg,y,fs,a⟩) tg λn p=>ol (P:=λfs=>P ⟨.Name n p,y,fs,a⟩) fs (bV (decide (a=0)) λh=>Mb.bind (k n p y) λw=>.yes (aq h▸w)) λz z=>.no
noncomputable def aac(k:∀x n p y o q z sc q',Mb (Gd e m c [.ListComp x [⟨.Name n p,y,[],0⟩,⟨.Name o q,z,[],0⟩] sc q'])):Mb (Gd e m c xs):=hX xs λx=>Nl (P:=λx=>Gd e m c [x]) x λx gs sc q'=>ol (P:=λgs=>Gd e m c [.ListComp x gs sc q']) gs .no λg r=>o1 (P:=λr=>Gd e m c [.ListComp x (g::r) sc q']) r λg'=>
 Nt (P:=λg=>Gd e m c [.ListComp x [g,g'] sc q']) g λn p y=>Nt (P:=λg'=>Gd e m c [.ListComp x [⟨.Name n p,y,[],0⟩,g'] sc q']) g' λo q z=>k x n p y o q z sc q'
noncomputable def aad(k:∀n q y ji jp kp p,Mb (Gd e m c [.Call (.Name n q) [y] [⟨ab (bP "reverse"),.Constant (.bool true) ji jp,kp⟩] p])):Mb (Gd e m c xs):=hX xs λx=>FA (P:=λx=>Gd e m c [x]) x λf es kw p=>we (P:=λf=>Gd e m c [.Call f es kw p]) f λn q=>o1 (P:=λes=>Gd e m c [.Call (.Name n q) es kw p]) es λy=>o1 (P:=λkw=>Gd e m c [.Call (.Name n q) [y] kw p]) kw λw=>
 Keyword.casesOn (motive_7:=λw=>Mb (Gd e m c [.Call (.Name n q) [y] [w] p])) w λa v kp=>BV (P:=λv=>Gd e m c [.Call (.Name n q) [y] [⟨a,v,kp⟩] p]) v λd ji jp=>bV (a==ab (bP "reverse")&&decide (d=.bool true)) λh=>Mb.bind (k n q y ji jp kp p) λw=>.yes (band h λh1 h2=>by rw[ao h1,aq h2];exact w)
end
noncomputable def aae(e:Ex):Mb (e=.absent):=by cases e with|absent=>exact .yes rfl|_=>exact .no
noncomputable def aaf(e:Ex):Mb (e=.lit (.bool true)):=by
 cases e with
 |lit t=>cases t with
  |bool b=>cases b with
   |true=>exact .yes rfl
   |false=>exact .no
  |_=>exact .no
 |_=>exact .no
noncomputable def Nu{e:Ex}(ih:∀m c xs,Mb (Gd e m c xs))(c:Sc)(fs:List Xp):Mb (rj e c fs):=
 ol fs ((aaf e).bind λh=>.yes (h▸Me)) λf r=>ol (P:=λr=>rj e c (f::r)) r ((ih .a9 c [f]).bind λh=>.yes (Yg h)) λz z=>.no
noncomputable def Nv{e:Ex}(ih:∀m c xs,Mb (Gd e m c xs))(c:Sc)(o:Option Xp):Mb (Pd e c o):=
 oo o ((aae e).bind λh=>.yes (h▸WZ)) λx=>(ih .val c [x]).bind λh=>.yes (W0 h)
noncomputable def gB(c:Sc)(x y:Str):Bool:=x==y&&iW x&&c.names.lookup x==ab .globalImplicit
def t5{c:Sc}{x y:Str}{v:ay}(hv:d4 y=ab v)(h:gB c x y=true):qX c x y v:=band h λh h3=>band h λh1 h2=>⟨ao h1,ao h1▸hv,h2,ao h3⟩
def FG(p:Prim):d4 (tK p).1=ab (tK p).2:=by cases p<;>kernel_rfl
def Nw:d4 (s_ "range")=ab (.type "range"):=by kernel_rfl
def aag:d4 (s_ "reversed")=ab (.type "reversed"):=by kernel_rfl
def aah:d4 (s_ "enumerate")=ab (.type "enumerate"):=by kernel_rfl
noncomputable def Nx(m:Mode)(o:iG):Bool:=m.v||(decide (m=.own)&&(decide (o=.add)||decide (o=.mul)))
def aai{m:Mode}{o:iG}(h:Nx m o=true):m.v=true∨(m=.own/\(o=.add∨o=.mul)):=bor h .inl λh=>band h λh1 h2=>.inr ⟨aq h1,bor h2 (λq=>.inl (aq q)) λq=>.inr (aq q)⟩
noncomputable def BX(m:Mode):Bool:=decide (m=.src)||decide (m=.ib)
def FH{m:Mode}(h:BX m=true):m=.src∨m=.ib:=bor h (λq=>.inl (aq q)) λq=>.inr (aq q)
def not_of{b:Bool}(h:(!b)=true):b=false:=by cases b with|false=>rfl|true=>exact ft h
def FI{m:Mode}(h:(!decide (m=.chain))=true):m≠.chain:=of_decide_eq_false (not_of h)
def y2(rv:Bool)(w:Option Xp):Prop:=if rv then∃j sq sr,w=ab (.UnaryOp .USub (.Constant (.int 1) j sq) sr)else w=ae
noncomputable def slW(rv:Bool)(w:Option Xp):Mb (y2 rv w):=by
 cases rv with
 |false=>exact oo (P:=y2 false) w (.yes rfl) λz=>.no
 |true=>exact oo (P:=y2 true) w .no λx=>Nk (P:=λx=>y2 true (ab x)) x λo r p=>BV (P:=λr=>y2 true (ab (.UnaryOp o r p))) r λd j q=>bV (decide (o=.USub)&&decide (d=.int 1)) λh=>.yes (band h λh1 h2=>⟨j,q,p,by rw[aq h1,aq h2]⟩)
section
variable{a b e:Ex}{m:Mode}{c:Sc}{l q:Xp}{p:Pos}{o:iG}{op:Tx}
noncomputable def ma(m:Mode)(n:Mode):Mode:=if m=.a9 then .a9 else n
def aak{o:BoolOp}(ho:o=.And)(hm:m.v=true)(h1:Gd a (ma m .val) c [l])(h2:Gd b (ma m .val) c [q]):Gd (.ju a b) m c [.BoolOp o [l,q] p]:=by
 subst ho
 unfold ma at h1 h2
 by_cases h:m=.a9
 ·rw[ah h]at h1 h2;exact h▸WE h1 h2
 ·rw[ai h]at h1 h2;exact WG hm h h1 h2
def orW{o:BoolOp}(ho:o=.Or)(hm:m.v=true)(h1:Gd a (ma m .val) c [l])(h2:Gd b (ma m .val) c [q]):Gd (.vE a b) m c [.BoolOp o [l,q] p]:=by
 subst ho
 unfold ma at h1 h2
 by_cases h:m=.a9
 ·rw[ah h]at h1 h2;exact h▸WH h1 h2
 ·rw[ai h]at h1 h2;exact WI hm h h1 h2
def aam{o:UnaryOp}(ho:o=.Not)(hm:m.v=true)(h1:Gd a (ma m .bor) c [l]):Gd (.mM a) m c [.UnaryOp o l p]:=by
 subst ho
 unfold ma at h1
 by_cases h:m=.a9
 ·rw[ah h]at h1;exact h▸Wx h1
 ·rw[ai h]at h1;exact Wy hm h h1
end
noncomputable def bo(e:Ex):∀m c xs,Mb (Gd e m c xs):=by
 induction e with
 |nil=>exactλm c xs=>ol (P:=Gd .nil m c) xs (bV (decide (m=.chain)) λh=>.yes (aq h▸Wl)) λs s=>.no
 |cons a b cP dF=>exactλm c xs=>ol (P:=Gd (.cons a b) m c) xs .no λx r=>bV (decide (m=.chain)&&notStar x) λh=>(cP .val c [x]).bind λh1=>(dF .chain c r).bind λh2=>.yes (band h λh3 h4=>aq h3▸Wm h4 h1 h2)
 |var i=>exactλm c xs=>hName xs λn p=>bV (m.v&&c.slots.lookup n==ab i&&iW n&&(m.b||!c.own.contains i)) λh=>.yes (band h λh h4=>band h λh h3=>band h λh1 h2=>Wn h1 (ao h2) h3 h4)
 |lit t=>exactλm c xs=>Fy (Z8 xs λd j p=>bV (m.v&&yw t d) λh=>.yes (band h λh1 h2=>Wo h1 h2)) id (by
   cases t with
   |int i=>exact hName xs λn p=>bV (m.v&&Bj n==ab i&&iW n&&c.names.lookup n==ab .globalImplicit) λh=>.yes (band h λh h4=>band h λh h3=>band h λh1 h2=>Wr h1 (ao h2) h3 (ao h4))
   |str z=>exact Z9 xs λn p n' q=>bV (m.v&&D6 n n'==ab z&&decide (z.length<=lim)&&c.names.lookup n==ab .globalImplicit) λh=>.yes (band h λh h4=>band h λh h3=>band h λh1 h2=>Wt h1 (ao h2) (aq h3) (ao h4))
   |_=>exact .no)
 |bin o a b cP dF=>exactλm c xs=>aaa xs λl op r p=>bV (Nx m o&&decide (o.py=op)) λh=>(cP .bor c [l]).bind λh1=>(dF .bor c [r]).bind λh2=>.yes (band h λh3 h4=>aq h4▸Wu (aai h3) h1 h2)
 |neg a ih=>exactλm c xs=>FD xs λo r p=>bV (m.v&&decide (o=.USub)) λh=>(ih .val c [r]).bind λh1=>.yes (band h λh3 h4=>aq h4▸Wv h3 h1)
 |inv a ih=>exactλm c xs=>FD xs λo r p=>bV (m.v&&decide (o=.Invert)) λh=>(ih .val c [r]).bind λh1=>.yes (band h λh3 h4=>aq h4▸Ww h3 h1)
 |mM a ih=>exactλm c xs=>FD xs λo r p=>bV (m.v&&decide (o=.Not)) λh=>(ih (ma m .bor) c [r]).bind λh1=>.yes (band h λh3 h4=>aam (aq h4) h3 h1)
 |cmp o a b cP dF=>exactλm c xs=>FE xs λl op r p=>bV (m.v&&decide (o.py=op)&&gj r) λh=>(cP .bor c [l]).bind λh1=>(dF .bor c [r]).bind λh2=>.yes (band h λh h5=>band h λh3 h4=>aq h4▸Wz h3 h5 h1 h2)
 |oR a b cP dF=>exactλm c xs=>FE xs λl op r p=>bV (m.v&&decide (op=.In)&&gj r) λh=>(cP .val c [l]).bind λh1=>(dF .bor c [r]).bind λh2=>.yes (band h λh h5=>band h λh3 h4=>aq h4▸WA h3 h5 h1 h2)
 |qR no a t ih=>exactλm c xs=>FE xs λl op r p=>BV (P:=λr=>Gd (.qR no a t) m c [.Compare l [op] [r] p]) r λd j q=>bV (m.v&&decide (op=if no then .IsNot else .Is)&&yw t d) λh=>(ih .bor c [l]).bind λh1=>.yes (band h λh h5=>band h λh3 h4=>aq h4▸WD h3 h5 h1)
 |ju a b cP dF=>exactλm c xs=>Np xs λo l r p=>bV (m.v&&decide (o=.And)) λh=>(cP (ma m .val) c [l]).bind λh1=>(dF (ma m .val) c [r]).bind λh2=>.yes (band h λh3 h4=>aak (aq h4) h3 h1 h2)
 |vE a b cP dF=>exactλm c xs=>Np xs λo l r p=>bV (m.v&&decide (o=.Or)) λh=>(cP (ma m .val) c [l]).bind λh1=>(dF (ma m .val) c [r]).bind λh2=>.yes (band h λh3 h4=>orW (aq h4) h3 h1 h2)
 |ite t a b iht cP dF=>exactλm c xs=>hIf xs λl y z p=>bV (m.v&&!decide (m=.a9)) λh=>(iht .a9 c [l]).bind λh1=>(cP .val c [y]).bind λh2=>(dF .val c [z]).bind λh3=>.yes (band h λh4 h5=>WJ h4 (of_decide_eq_false (not_of h5)) h1 h2 h3)
 |idx a b cP dF=>exactλm c xs=>hSub xs λl r p=>bV m.v λh=>(cP .bor c [l]).bind λh1=>(dF .val c [r]).bind λh2=>.yes (WO h h1 h2)
 |cY rv a lo hi cP ihl ihh=>exactλm c xs=>hSub xs λl r p=>Z7 (P:=λr=>Gd (.cY rv a lo hi) m c [.Subscript l r p]) r λy z w q=>bV m.v λh=>(cP .bor c [l]).bind λh1=>(Nv ihl c y).bind λh2=>(Nv ihh c z).bind λh3=>(slW rv w).bind λh4=>.yes (W3 h h1 h2 h3 h4)
 |tup a ih=>exactλm c xs=>hX xs λx=>FC (P:=λx=>Gd (.tup a) m c [x]) x λes j p=>bV m.v λh=>(ih .chain c es).bind λh1=>.yes (WK h h1)
 |lst a ih=>exactλm c xs=>hX xs λx=>Nm (P:=λx=>Gd (.lst a) m c [x]) x λes p=>bV m.vo λh=>(ih .chain c es).bind λh1=>.yes (WL h h1)
 |jZ a b cP dF=>exactλm c xs=>hX xs λx=>Z4 (P:=λx=>Gd (.jZ a b) m c [x]) x λks vs p=>ol (P:=λks=>Gd (.jZ a b) m c [.Dict ks vs p]) ks (ol (P:=λvs=>Gd (.jZ a b) m c [.Dict [] vs p]) vs (bV (m.vo&&a.isNil) λh=>.yes (band h λh1 h2=>YR h1 h2)) λs s=>.no) λy r=>oo (P:=λy=>Gd (.jZ a b) m c [.Dict (y::r) vs p]) y .no λy=>ol (P:=λr=>Gd (.jZ a b) m c [.Dict (ab y::r) vs p]) r (o1 (P:=λvs=>Gd (.jZ a b) m c [.Dict [ab y] vs p]) vs λv=>bV (m.vo&&!a.isNil) λh=>(cP .val c [y]).bind λh1=>(dF .val c [v]).bind λh2=>.yes (band h λh3 h4=>YS h3 (not_of h4) h1 h2)) λs s=>.no
 |comp j elt src cond y3 FJ FK=>exactλm c xs=>Nr xs λx tg y fs sc q=>we (P:=λtg=>Gd (.comp j elt src cond) m c [.ListComp x [⟨tg,y,fs,0⟩] sc q]) tg λn p=>bV (!decide (m=.chain)&&gj y) λh=>(FJ .src c [y]).bind λh1=>opt (qW c sc [(n,j)]) λc' hc=>(y3 .val c' [x]).bind λh2=>(Nu FK c' fs).bind λh3=>.yes (band h λh4 h5=>Ys (FI h4) h5 h1 hc h2 h3)
 |j0 js elt src cond y3 FJ FK=>exactλm c xs=>Nr xs λx tg y fs sc q=>FC (P:=λtg=>Gd (.j0 js elt src cond) m c [.ListComp x [⟨tg,y,fs,0⟩] sc q]) tg λns kk p=>bV (!decide (m=.chain)&&gj y) λh=>(FJ .src c [y]).bind λh1=>opt (yx ns js) λts ht=>opt (qW c sc ts) λc' hc=>(y3 .val c' [x]).bind λh2=>(Nu FK c' fs).bind λh3=>.yes (band h λh4 h5=>Yt (FI h4) h5 h1 ht hc h2 h3)
 |ym i j elt s1 s2 y3 ih1 ih2=>exactλm c xs=>aac xs λx n p y o q z sc q'=>bV (!decide (m=.chain)&&gj y&&gj z) λh=>(ih1 .src c [y]).bind λh1=>opt (qW c sc [(n,i),(o,j)]) λc' hc=>(ih2 .ib c' [z]).bind λh2=>(y3 .val c' [x]).bind λh3=>.yes (band h λh h6=>band h λh4 h5=>YA (FI h4) h5 h6 h1 hc h2 h3)
 |call f a ih=>exactλm c xs=>BW xs λn q es p=>bV (m.v&&iW n&&c.names.lookup n==ab .globalImplicit&&es.all notStar&&nI f==ab n) λh=>opt (d4 n) λv hv=>(ih .chain c es).bind λh1=>.yes (band h λh h6=>band h λh h5=>band h λh h4=>band h λh2 h3=>Xw h2 (ao h6) hv h3 (ao h4) h5 h1)
 |bE f o a FL cP=>exactλm c xs=>Nq xs λy n u es p=>bV (m.v&&decide (u.endLine=p.line)&&decide (es.length<20)&&!isCall y&&es.all notStar&&tE f==ab n) λh=>(FL .val c [y]).bind λh1=>(cP .chain c es).bind λh2=>.yes (band h λh h8=>band h λh h7=>band h λh h6=>band h λh h5=>band h λh3 h4=>Xx h3 (ao h8) (aq h4) (aq h5) (not_of h6) h7 h1 h2)
 |attr a i ih=>exactλm c xs=>Nn xs λy n p=>bV (m.v&&oN i==n&&!isCall y) λh=>(ih .val c [y]).bind λh1=>.yes (band h λh h4=>band h λh2 h3=>ao h3▸Xy h2 (not_of h4) h1)
 |prim p' a ih=>exactλm c xs=>BW xs λn q es p=>bV (m.v&&gB c n (tK p').1&&es.all notStar) λh=>(ih .chain c es).bind λh1=>.yes (band h λh h4=>band h λh2 h3=>Xz h2 (t5 (FG p') h3) h4 h1)
 |sm p' o a FL cP=>exactλm c xs=>Nq xs λy n u es p=>bV (m.v&&decide (u.endLine=p.line)&&decide (es.length<20)&&!isCall y&&es.all notStar&&Ek p'==n) λh=>(FL .bor c [y]).bind λh1=>(cP .chain c es).bind λh2=>.yes (band h λh h8=>band h λh h7=>band h λh h6=>band h λh h5=>band h λh3 h4=>ao h8▸XA h3 (aq h4) (aq h5) (not_of h6) h7 h1 h2)
 |hY a ih=>exactλm c xs=>FF xs λn q y p=>bV (BX m&&gB c n (s_ "range")&&notStar y) λh=>(ih .val c [y]).bind λh1=>.yes (band h λh h4=>band h λh2 h3=>XD (FH h2) (t5 Nw h3) h4 h1)
 |mN a b cP dF=>exactλm c xs=>BW xs λn q es p=>ol (P:=λes=>Gd (.mN a b) m c [.Call (.Name n q) es [] p]) es .no λy r=>o1 (P:=λr=>Gd (.mN a b) m c [.Call (.Name n q) (y::r) [] p]) r λz=>bV (BX m&&gB c n (s_ "range")&&notStar y&&notStar z) λh=>(cP .val c [y]).bind λh1=>(dF .val c [z]).bind λh2=>.yes (band h λh h6=>band h λh h5=>band h λh3 h4=>XE (FH h3) (t5 Nw h4) h5 h6 h1 h2)
 |Bq a ih=>exactλm c xs=>FF xs λn q y p=>bV (BX m&&gB c n (s_ "reversed")&&notStar y) λh=>(ih .val c [y]).bind λh1=>.yes (band h λh h4=>band h λh2 h3=>XG (FH h2) (t5 aag h3) h4 h1)
 |vF a ih=>exactλm c xs=>FF xs λn q y p=>bV (m.v&&gB c n (s_ "len")&&notStar y) λh=>(ih .bor c [y]).bind λh1=>.yes (band h λh h4=>band h λh2 h3=>YQ h2 (t5 (FG .len) h3) h4 h1)
 |yn a ih=>exactλm c xs=>aad xs λn q y ji jp kp p=>bV (m.v&&gB c n (s_ "sorted")&&notStar y) λh=>(ih .val c [y]).bind λh1=>.yes (band h λh h4=>band h λh2 h3=>YP h2 (t5 (FG .qQ) h3) h4 h1)
 |absent=>exactλm c xs=>.no
inductive Db(α:Type)(P:α->Prop):Type
 |no
 |yes (a:α) (h:P a)
section
variable{α:Type}{P:α->Prop}
noncomputable def dB{p:Prop}(x:Mb p)(k:p->Db α P):Db α P:=Mb.rec (motive:=λz=>Db α P) .no k x
noncomputable def dG(b:Bool)(k:b=true->Db α P):Db α P:=Bool.rec (motive:=λc=>(c=true->Db α P)->Db α P) (λz=>.no) (λk=>k rfl) b k
noncomputable def dD{β:Type}{Q:β->Prop}(x:Db β Q)(k:∀b,Q b->Db α P):Db α P:=Db.rec (motive:=λz=>Db α P) .no k x
noncomputable def Db.ok(x:Db α P):Bool:=Db.rec (motive:=λz=>Bool) false (λz z=>true) x
def Db.get(x:Db α P)(h:x.ok=true):∃a,P a:=by cases x with|no=>exact ft h|yes a q=>exact⟨a,q⟩
end
section
variable{R:Xp->Type}(x:Xp)(d:R x)
noncomputable def oY(k:∀n p,R (.Name n p)):R x:=if h:x.ctorIdx=23 then qu.elim (motive_1:=R) x h k else d
noncomputable def wg(k:∀a j p,R (.Tuple a j p)):R x:=if h:x.ctorIdx=25 then Expr.Tuple.elim (motive_1:=R) x h k else d
noncomputable def Ny(k:∀a b p,R (.Subscript a b p)):R x:=if h:x.ctorIdx=21 then Expr.Subscript.elim (motive_1:=R) x h k else d
noncomputable def Nz(k:∀a b c p,R (.Call a b c p)):R x:=if h:x.ctorIdx=16 then Expr.Call.elim (motive_1:=R) x h k else d
noncomputable def aas(k:∀y n p,R (.Attribute y n p)):R x:=if h:x.ctorIdx=20 then Expr.Attribute.elim (motive_1:=R) x h k else d
noncomputable def aat(k:∀l o r p,R (.BinOp l o r p)):R x:=if h:x.ctorIdx=2 then Expr.BinOp.elim (motive_1:=R) x h k else d
end
noncomputable def gl{α:Type}{R:List α->Type}(xs:List α)(n:R [])(k:∀x r,R (x::r)):R xs:=List.casesOn (motive:=R) xs n k
section
variable{R:Stmt->Type}(x:Stmt)(d:R x)
noncomputable def NA(k:∀ts v p,R (.Assign ts v p)):R x:=if h:x.ctorIdx=5 then Stmt.Assign.elim (motive_2:=R) x h k else d
noncomputable def aau(k:∀t o v p,R (.AugAssign t o v p)):R x:=if h:x.ctorIdx=7 then Stmt.AugAssign.elim (motive_2:=R) x h k else d
noncomputable def aav(k:∀t i b e p,R (.For t i b e p)):R x:=if h:x.ctorIdx=9 then Stmt.For.elim (motive_2:=R) x h k else d
noncomputable def tWh(k:∀t b e p,R (.While t b e p)):R x:=if h:x.ctorIdx=11 then Stmt.While.elim (motive_2:=R) x h k else d
noncomputable def tIf(k:∀t b e p,R (.If t b e p)):R x:=if h:x.ctorIdx=12 then Stmt.If.elim (motive_2:=R) x h k else d
noncomputable def tEx(k:∀v p,R (.Expr v p)):R x:=if h:x.ctorIdx=24 then Stmt.Expr.elim (motive_2:=R) x h k else d
noncomputable def aaz(k:∀v p,R (.Return v p)):R x:=if h:x.ctorIdx=3 then Stmt.Return.elim (motive_2:=R) x h k else d
noncomputable def aaA(k:∀p,R (.Break p)):R x:=if h:x.ctorIdx=26 then Stmt.Break.elim (motive_2:=R) x h k else d
end
abbrev SD(σ:S)(c:Sc)(xs:List Stmt):Type:=Db (List Nat) (bR σ c xs)
section
variable{σ:S}{c:Sc}(xs:List Stmt)
noncomputable def s1(k:∀x,SD σ c [x]):SD σ c xs:=gl (R:=SD σ c) xs .no λx r=>gl (R:=λr=>SD σ c (x::r)) r (k x) λz z=>.no
noncomputable def FN(k:∀t v p,SD σ c [.Assign [t] v p]):SD σ c xs:=s1 xs λx=>NA (R:=λx=>SD σ c [x]) x .no λts v p=>gl (R:=λts=>SD σ c [.Assign ts v p]) ts .no λt r=>gl (R:=λr=>SD σ c [.Assign (t::r) v p]) r (k t v p) λz z=>.no
noncomputable def NB(k:∀x q v p,SD σ c [.Assign [.Name x q] v p]):SD σ c xs:=FN xs λt v p=>oY (R:=λt=>SD σ c [.Assign [t] v p]) t .no λx q=>k x q v p
noncomputable def FO(k:∀ns j q v p,SD σ c [.Assign [.Tuple ns j q] v p]):SD σ c xs:=FN xs λt v p=>wg (R:=λt=>SD σ c [.Assign [t] v p]) t .no λns j q=>k ns j q v p
noncomputable def NC(k:∀x u iv q v p,SD σ c [.Assign [.Subscript (.Name x u) iv q] v p]):SD σ c xs:=FN xs λt v p=>Ny (R:=λt=>SD σ c [.Assign [t] v p]) t .no λl iv q=>oY (R:=λl=>SD σ c [.Assign [.Subscript l iv q] v p]) l .no λx u=>k x u iv q v p
noncomputable def ND(k:∀t o v p,SD σ c [.AugAssign t o v p]):SD σ c xs:=s1 xs λx=>aau (R:=λx=>SD σ c [x]) x .no k
noncomputable def NF(k:∀x u nm p es q pos,SD σ c [.Expr (.Call (.Attribute (.Name x u) nm p) es [] q) pos]):SD σ c xs:=s1 xs λx=>tEx (R:=λx=>SD σ c [x]) x .no λv pos=>Nz (R:=λv=>SD σ c [.Expr v pos]) v .no λf es kw q=>gl (R:=λkw=>SD σ c [.Expr (.Call f es kw q) pos]) kw (aas (R:=λf=>SD σ c [.Expr (.Call f es [] q) pos]) f .no λy nm p=>oY (R:=λy=>SD σ c [.Expr (.Call (.Attribute y nm p) es [] q) pos]) y .no λx u=>k x u nm p es q pos) λz z=>.no
noncomputable def NH(k:∀x u nm p v q pos,SD σ c [.Expr (.Call (.Attribute (.Name x u) nm p) [v] [] q) pos]):SD σ c xs:=NF xs λx u nm p es q pos=>gl (R:=λes=>SD σ c [.Expr (.Call (.Attribute (.Name x u) nm p) es [] q) pos]) es .no λv r=>gl (R:=λr=>SD σ c [.Expr (.Call (.Attribute (.Name x u) nm p) (v::r) [] q) pos]) r (k x u nm p v q pos) λz z=>.no
noncomputable def FP(k:∀t i b p,SD σ c [.For t i b [] p]):SD σ c xs:=s1 xs λx=>aav (R:=λx=>SD σ c [x]) x .no λt i b e p=>gl (R:=λe=>SD σ c [.For t i b e p]) e (k t i b p) λz z=>.no
end
noncomputable abbrev NI(ps:List (Str×Pos)):List Xp:=ps.map λp=>.Name p.1 p.2
noncomputable def wi:∀ns:List Xp,Db (List (Str×Pos)) (λps=>ns=NI ps):=by
 intro ns
 induction ns with
 |nil=>exact .yes [] rfl
 |cons e r ih=>exact oY (R:=λe=>Db (List (Str×Pos)) (λps=>e::r=NI ps)) e .no λx p=>dD ih λps h=>.yes ((x,p)::ps) (af (_::·) h)
noncomputable def t6(c:Sc)(ps:List (Str×Pos))(ks:List Nat):Bool:=decide (ps.length=ks.length)&&(ps.zip ks).all (λe=>c.slots.lookup e.1.1==ab e.2)&&decide ((ps.map (·.1)).Nodup)&&decide ks.Nodup
def wj{c:Sc}{ps:List (Str×Pos)}{ks:List Nat}(h:t6 c ps ks=true):jA c ps ks:=band h λh h4=>band h λh h3=>band h λh1 h2=>
 ⟨aq h1,λj p i e1 e2=>ao (bA.mp h2 (p,i) (dZ (qA.mpr ⟨e1,e2⟩))),aq h3,aq h4⟩
noncomputable def swM(v:Xp):Mb (∀ps,wa ps v):=Fy (p:=tV v=false) (bV (!tV v) λh=>.yes (not_of h)) (λh ps=>Y8 h) (FC (P:=λv=>∀ps,wa ps v) v λvs i q=>bV (!vs.all (DG 8)) λh=>.yes λps=>Fb (not_of h))
noncomputable def NJ(e:Ex)(c:Sc)(v:Xp):Mb (cZ v=true∨(vZ v=true/\Gd e .use c [v])):=Fy (p:=cZ v=true) (bV (cZ v) .yes) .inl (bV (vZ v) λh=>(bo e .use c [v]).bind λh1=>.yes (.inr ⟨h,h1⟩))
noncomputable def aaC(c:Sc)(es:List (Option Ex)):∀vs,Mb (l9 c es vs):=by
 induction es with
 |nil=>exactλvs=>ol (P:=l9 c []) vs (.yes .nil) λz z=>.no
 |cons o es ih=>
  cases o with
  |none=>exactλvs=>ol (P:=l9 c (ae::es)) vs .no λv r=>Nm (P:=λv=>l9 c (ae::es) (v::r)) v λl p=>ol (P:=λl=>l9 c (ae::es) (.List l p::r)) l ((ih r).bind λh=>.yes (.none h)) λz z=>.no
  |some e=>exactλvs=>ol (P:=l9 c (ab e::es)) vs .no λv r=>bV (notStar v) λh1=>(bo e .val c [v]).bind λh2=>(ih r).bind λh3=>.yes (.some h1 h2 h3)
noncomputable def ntD(ts:List Tg):∀es,Db (List (Str×Pos)) (NT es ts):=by
 induction ts with
 |nil=>exactλes=>gl (R:=λes=>Db _ (NT es [])) es (.yes [] .nil) λz z=>.no
 |cons t ts ih=>
  cases t with
  |one k=>exactλes=>gl (R:=λes=>Db _ (NT es (.one k::ts))) es .no λe r=>oY (R:=λe=>Db _ (NT (e::r) (.one k::ts))) e .no λx p=>dD (ih r) λps h=>.yes ((x,p)::ps) (.one h)
  |many ks=>exactλes=>gl (R:=λes=>Db _ (NT es (.many ks::ts))) es .no λe r=>wg (R:=λe=>Db _ (NT (e::r) (.many ks::ts))) e .no λns j p=>dD (wi ns) λqs hq=>dG (decide (qs.length=ks.length)) λhl=>dD (ih r) λps h=>.yes (qs++ps) (by rw[hq];exact .many (aq hl) h)
def aaE{yR v:Xp}{ns:List Xp}{x:Str}{p:Pos}(env:Env):AY (.Name x p::yR::ns) v env=pure ae:=rfl
noncomputable def t7(c:Sc)(x:Str)(k:Nat):Bool:=c.slots.lookup x==ab k&&c.own.contains k&&iW x
def wk{c:Sc}{x:Str}{k:Nat}(h:t7 c x k=true):j8 c x k:=band h λh h3=>band h λh1 h2=>⟨ao h1,h2,h3⟩
noncomputable def NK{α:Type}{P:α->Prop}(b:Bool)(k:b=true->Db α P)(d:Db α P):Db α P:=Bool.rec (motive:=λc=>(c=true->Db α P)->Db α P) (λz=>d) (λk=>k rfl) b k
def NL{σ:S}(h:(σ.mR&&!σ.j6)=true):σ.mR=true/\σ.j6=false:=band h λh1 h2=>⟨h1,not_of h2⟩
noncomputable def oZ(σ:S):∀c xs,SD σ c xs:=by
 induction σ with
 |asg k e=>exactλc xs=>NB xs λx q v p=>dG (c.slots.lookup x==ab k) λh=>dB (bo e .val c [v]) λh1=>dB (NJ e c v) λh2=>.yes _ (Y6 (ao h) h1 h2)
 |own k e=>exactλc xs=>NB xs λx q v p=>dG (c.slots.lookup x==ab k) λh=>dB (bo e .own c [v]) λh1=>dB (NJ e c v) λh2=>.yes _ (Y7 (ao h) h1 h2)
 |fC ks e=>exactλc xs=>FO xs λns j q v p=>dD (wi ns) λps hn=>dG (t6 c ps ks) λh=>dB (swM v) λh1=>dB (bo e .val c [v]) λh2=>.yes (d5 c.own ks) (hn▸Za (wj h) (h1 ps) h2)
 |fP ks es=>exactλc xs=>FO xs λns j q v p=>dD (wi ns) λps hn=>wg (R:=λv=>SD (.fP ks es) c [.Assign [.Tuple ns j q] v p]) v .no λvs i q'=>dG (t6 c ps ks&&!vs.all (DG 8)) λh=>dB (aaC c es vs) λh1=>.yes (ry c.own ks es) (hn▸band h λh2 h3=>Ze (wj h2) h1 (not_of h3))
 |nest ts e=>exactλc xs=>FO xs λns j q v p=>dD (ntD ts ns) λps hn=>wg (R:=λv=>SD (.nest ts e) c [.Assign [.Tuple ns j q] v p]) v .no λvs i q'=>dG (t6 c ps (ts.flatMap Tg.ks)&&ns.any tV) λh=>dB (bo e .val c [.Tuple vs i q']) λh1=>.yes _ (band h λh2 h3=>Z0 (wj h2) hn h3 h1)
 |aug k o e=>exactλc xs=>ND xs λt op v p=>oY (R:=λt=>SD (.aug k o e) c [.AugAssign t op v p]) t .no λx u=>dG (c.slots.lookup x==ab k&&iW x&&!c.own.contains k&&decide (o.py=op)) λh=>dB (bo e .val c [v]) λh1=>.yes (d5 c.own [k]) (band h λh h5=>band h λh h4=>band h λh2 h3=>aq h5▸Zn (ao h2) h3 (not_of h4) h1)
 |pH ks e=>exactλc xs=>s1 xs λx=>NA (R:=λx=>SD (.pH ks e) c [x]) x .no λts v p=>gl (R:=λts=>SD (.pH ks e) c [.Assign ts v p]) ts .no λt r=>oY (R:=λt=>SD (.pH ks e) c [.Assign (t::r) v p]) t .no λx q=>gl (R:=λr=>SD (.pH ks e) c [.Assign (.Name x q::r) v p]) r .no λt2 r=>dD (wi (.Name x q::t2::r)) λps hn=>dG (t6 c ps ks) λh=>dB (bo e .val c [v]) λh1=>.yes _ (Zc hn (wj h) aaE h1)
 |app k e=>exactλc xs=>NH xs λx u nm p v q pos=>dG (t7 c x k&&decide (p.endLine=q.line)&&notStar v&&nm==bP "append") λh=>dB (bo e .val c [v]) λh1=>.yes c.own (band h λh h5=>band h λh h4=>band h λh2 h3=>ao h5▸Zg (wk h2) (aq h3) h4 h1)
 |ext k e=>exactλc xs=>NH xs λx u nm p v q pos=>dG (t7 c x k&&decide (p.endLine=q.line)&&notStar v&&nm==bP "extend") λh=>dB (bo e .val c [v]) λh1=>.yes c.own (band h λh h5=>band h λh h4=>band h λh2 h3=>ao h5▸Zh (wk h2) (aq h3) h4 h1)
 |rev k=>exactλc xs=>NF xs λx u nm p es q pos=>gl (R:=λes=>SD (.rev k) c [.Expr (.Call (.Attribute (.Name x u) nm p) es [] q) pos]) es (dG (t7 c x k&&decide (p.endLine=q.line)&&nm==bP "reverse") λh=>.yes c.own (band h λh h5=>band h λh2 h3=>ao h5▸Zi (wk h2) (aq h3))) λs s=>.no
 |yq k i e=>exactλc xs=>NC xs λx u iv q v p=>dG (t7 c x k&&cZ v) λh=>dB (bo e .val c [v]) λh1=>dB (bo i .val c [iv]) λh2=>.yes _ (band h λh3 h4=>Zj (wk h3) h4 h1 h2)
 |tI k i e=>exactλc xs=>NC xs λx u iv q v p=>dG (t7 c x k&&cZ v) λh=>dB (bo e .val c [v]) λh1=>dB (bo i .val c [iv]) λh2=>.yes _ (band h λh3 h4=>Zs (wk h3) h4 h1 h2)
 |oS k i o e=>exactλc xs=>ND xs λt op v p=>Ny (R:=λt=>SD (.oS k i o e) c [.AugAssign t op v p]) t .no λl iv q=>oY (R:=λl=>SD (.oS k i o e) c [.AugAssign (.Subscript l iv q) op v p]) l .no λx u=>aat (R:=λiv=>SD (.oS k i o e) c [.AugAssign (.Subscript (.Name x u) iv q) op v p]) iv .no λy z w r=>dG (t7 c x k&&decide (o.py=op)) λh=>dB (bo e .val c [v]) λh1=>dB (bo i .val c [.BinOp y z w r]) λh2=>.yes c.own (band h λh3 h4=>aq h4▸Zk (wk h3) (λs s s=>rfl) h1 h2)
 |bN t a b cP dF=>exactλc xs=>s1 xs λx=>tIf (R:=λx=>SD (.bN t a b) c [x]) x .no λv y z p=>dB (bo t .a9 c [v]) λh=>dD (cP c y) λfT h1=>dD (dF c z) λpP h2=>NK (a.mR&&!a.j6) (λq=>.yes pP (E9 h h1 h2 (.inr (NL q)) (.inl rfl))) (NK (b.mR&&!b.j6) (λq=>.yes fT (E9 h h1 h2 (.inl rfl) (.inr (NL q)))) (dG (decide (fT=pP)) λq=>.yes pP (E9 h h1 h2 (.inl (aq q)) (.inl rfl))))
 |skip=>exactλc xs=>gl (R:=SD .skip c) xs (.yes _ YY) λs s=>.no
 |seq a b cP dF=>exactλc xs=>gl (R:=SD (.seq a b) c) xs .no λx r=>dD (cP c [x]) λo h1=>dD (dF (cy c o) r) λo' h2=>dG (!a.j6||decide (o=o')) λh=>.yes o' (Y1 h1 h2 (bor h (λq=>.inl (not_of q)) λq=>.inr (aq q)))
 |gh ks a ih=>exactλc xs=>dD (ih (cy c (d5 c.own ks)) xs) λo h=>.yes o (Y2 h)
 |eV k src body ih=>exactλc xs=>FP xs λt i b p=>oY (R:=λt=>SD (.eV k src body) c [.For t i b [] p]) t .no λx q=>dG (c.slots.lookup x==ab k&&!c.own.contains k&&gj i) λh=>dB (bo src .ib c [i]) λh1=>dD (ih c b) λo h2=>dG (decide (o=c.own)) λe=>.yes c.own (band h λh h5=>band h λh3 h4=>Zw (ao h3) (not_of h4) h5 h1 (aq e▸h2))
 |hZ ks src body ih=>exactλc xs=>FP xs λt i b p=>wg (R:=λt=>SD (.hZ ks src body) c [.For t i b [] p]) t .no λns j q=>dD (wi ns) λps hn=>dG (t6 c ps ks&&ks.all (λi=>!c.own.contains i)&&gj i) λh=>dB (bo src .ib c [i]) λh1=>dD (ih c b) λo h2=>dG (decide (o=c.own)) λe=>.yes c.own (hn▸band h λh h5=>band h λh3 h4=>Zx (wj h3) h4 h5 h1 (aq e▸h2))
 |lT ks src body ih=>exactλc xs=>FP xs λt i b p=>wg (R:=λt=>SD (.lT ks src body) c [.For t i b [] p]) t .no λns j q=>dD (wi ns) λps hn=>Nz (R:=λi=>SD (.lT ks src body) c [.For (.Tuple ns j q) i b [] p]) i .no λf es kw cp=>gl (R:=λkw=>SD (.lT ks src body) c [.For (.Tuple ns j q) (.Call f es kw cp) b [] p]) kw (oY (R:=λf=>SD (.lT ks src body) c [.For (.Tuple ns j q) (.Call f es [] cp) b [] p]) f .no λx xp=>gl (R:=λes=>SD (.lT ks src body) c [.For (.Tuple ns j q) (.Call (.Name x xp) es [] cp) b [] p]) es .no λbg r=>gl (R:=λr=>SD (.lT ks src body) c [.For (.Tuple ns j q) (.Call (.Name x xp) (bg::r) [] cp) b [] p]) r (dG (t6 c ps ks&&ks.all (λi=>!c.own.contains i)&&gB c x (s_ "enumerate")&&notStar bg) λh=>dB (bo src .val c [bg]) λh1=>dD (ih c b) λo h2=>dG (decide (o=c.own)) λe=>.yes c.own (hn▸band h λh h6=>band h λh h5=>band h λh3 h4=>ZQ (wj h3) h4 (t5 aah h5) h6 h1 (aq e▸h2))) λs s=>.no) λs s=>.no
 |wh n t body ih=>exactλc xs=>s1 xs λx=>tWh (R:=λx=>SD (.wh n t body) c [x]) x .no λv b e p=>gl (R:=λe=>SD (.wh n t body) c [.While v b e p]) e (dB (bo t .a9 c [v]) λh1=>dD (ih c b) λo h2=>dG (decide (o=c.own)) λe=>.yes c.own (Zy h1 (aq e▸h2))) λs s=>.no
 |ret fz e=>exactλc xs=>s1 xs λx=>aaz (R:=λx=>SD (.ret fz e) c [x]) x .no λv p=>Option.casesOn (motive:=λv=>SD (.ret fz e) c [.Return v p]) v .no λv=>dB (bo e .val (cy c (d5 c.own fz)) [v]) λh=>.yes _ (Y3 h)
 |brk=>exactλc xs=>s1 xs λx=>aaA (R:=λx=>SD .brk c [x]) x .no λp=>.yes _ Y0
 |dead=>exactλc xs=>.yes _ YZ
 |move=>exactλc xs=>.no
noncomputable def FQ(ns:List (Str×jo))(l:List (Str×Nat))(ps:List Str):Bool:=
 ns.all (λp=>p.2 !=.free)&&(ps.zip (bc ps.length)).all (λp=>l.lookup p.1==ab p.2)&&l.all (λp=>ns.lookup p.1==ab .local||ns.lookup p.1==ab .cell)&&decide ((l.map (·.1)).Nodup)&&decide ((l.map (·.2)).Nodup)&&decide ps.Nodup
abbrev iL(X:Kx)(a:Addr)(fd:gY)(bd:List Stmt)(l:List (Str×Nat))(ps:List Str):Prop:=(∃o,X.K.lookup a=ab o/\o.data=.func fd)/\fd.body=.stmts bd/\fd.closure=[]/\fd.globals=gJ/\fd.builtins=jm/\(fd.scope.kind=.function)/\fd.scope.isCoroutine=false/\fd.scope.isGenerator=false/\(∃cd oc vs t,fd.code=.ref cd/\X.K.lookup cd=ab oc/\oc.data=.fields vs/\vs[1]?=ab (.str fd.qualname t))/\(∀vals:List ay,vals.length=ps.length->Ks fd ⟨vals,[]⟩=pure (ps.zip vals))/\FQ fd.scope.names l ps=true
section
variable(h:iL X a fd bd l ps)
def iL.at_:=h.1
def iL.body:=h.2.1
def iL.za:=h.2.2.1
def iL.glob:=h.2.2.2.1
def iL.bi:=h.2.2.2.2.1
def iL.kind:=h.2.2.2.2.2.1
def iL.co:=h.2.2.2.2.2.2.1
def iL.gen:=h.2.2.2.2.2.2.2.1
def iL.code:=h.2.2.2.2.2.2.2.2.1
def iL.bind:=h.2.2.2.2.2.2.2.2.2.1
def iL.sc:=h.2.2.2.2.2.2.2.2.2.2
end
noncomputable def start(n:Nat)(ts:List T):aE:=ts.map ab++bZ n ae
def NM{n:Nat}{ts:List T}{i:Nat}{t:T}(h:get (start n ts) i=ab t):ts[i]?=ab t:=by
 rw[get_eq]at h
 unfold start at h
 by_cases q:i<ts.length
 ·rw[anS (by rw[bK];exact q),gL]at h
  cases e:ts[i]? with
  |none=>rw[e]at h;exact aN h
  |some z=>rw[e]at h;exact h
 ·rw[DL (by rw[bK];exact eX.mp q),List.getElem?_replicate]at h
  by_cases w:i - (ts.map ab).length<n
  ·rw[ah w]at h;exact aN h
  ·rw[ai w]at h;exact aN h
noncomputable def cn(p:Fl×aE):Option T:=match p.1 with
 |.ret t=>ab t
 |.next=>ab .none
 |.brk=>ae
noncomputable def kP(F:Nat->List T->Option T)(σ:S)(n m:Nat)(ts:List T):Option T:=if ts.length=m then(ex F σ (start n ts)).bind cn else ae
def aaF{kindOf:Str->Option jo}{ps:List Str}:∀{vs:List ay}{m:Str->Option ay},ps.Nodup->ps.length=vs.length->(∀y,y∉ps->bindL kindOf (ps.zip vs) m y=m y)/\
  (∀(j:Nat)x v,ps[j]?=ab x->vs[j]?=ab v->kindOf x=ab .local->bindL kindOf (ps.zip vs) m x=ab v):=by
 induction ps with
 |nil=>exactλz z=>⟨λy z=>rfl,λj x v h=>aN h⟩
 |cons p ps ih=>
  intro vs m nd h
  cases vs with
  |nil=>cases h
  |cons v vs=>
   have cT:=hH.mp nd
   have ih:=λm=>ih (vs:=vs) (m:=m) cT.2 (Nat.succ.inj h)
   rw[DI]
   unfold bindL
   refine⟨λy hy=>?_,λj x w h1 h2 h3=>?_⟩
   ·have iY:y≠p:=λe=>hy (by rw[e];exact bk)
    rw[(ih _).1 y λe=>hy (bS _ e)]
    by_cases q:kindOf p=ab .local
    ·rw[ah q];exact ai iY
    ·rw[ai q]
   ·cases j with
    |zero=>
     cases h1;cases h2
     rw[(ih _).1 p cT.1,ah h3];exact ah rfl
    |succ j=>exact(ih _).2 j x w h1 h2 h3
def aaG{kindOf:Str->Option jo}{ps:List Str}:∀{vs:List ay}{m:Str->Option ay},ps.Nodup->ps.length=vs.length->(∀y,y∉ps->bindC kindOf (ps.zip vs) m y=m y)/\
  (∀(j:Nat)x v,ps[j]?=ab x->vs[j]?=ab v->kindOf x=ab .cell->bindC kindOf (ps.zip vs) m x=ab v):=by
 induction ps with
 |nil=>exactλz z=>⟨λy z=>rfl,λj x v h=>aN h⟩
 |cons p ps ih=>
  intro vs m nd h
  cases vs with
  |nil=>cases h
  |cons v vs=>
   have cT:=hH.mp nd
   have ih:=λm=>ih (vs:=vs) (m:=m) cT.2 (Nat.succ.inj h)
   rw[DI]
   unfold bindC
   refine⟨λy hy=>?_,λj x w h1 h2 h3=>?_⟩
   ·have iY:y≠p:=λe=>hy (by rw[e];exact bk)
    rw[(ih _).1 y λe=>hy (bS _ e)]
    by_cases q:kindOf p=ab .local
    ·rw[ah q]
    ·rw[ai q];exact ai iY
   ·cases j with
    |zero=>
     cases h1;cases h2
     rw[(ih _).1 p cT.1,ai (by rw[h3];intro e;cases e)];exact ah rfl
    |succ j=>exact(ih _).2 j x w h1 h2 h3
def BY{names:List (Str×jo)}{n:Nat}{x:Str}(h:names.lookup x=ab .cell):((fy n names []).lookup x).isSome=true:=EE names n [] x (.inl (lookup_mem h))
abbrev rG(ns:List (Str×jo))(l:List (Str×Nat))(ps:List Str):Prop:=(∀p∈ns,p.2≠.free)/\(∀(j:Nat)x,ps[j]?=ab x->l.lookup x=ab j)/\(∀x i,l.lookup x=ab i->ns.lookup x=ab .local∨ns.lookup x=ab .cell)/\(l.map (·.1)).Nodup/\(l.map (·.2)).Nodup/\ps.Nodup
section
variable(h:rG ns l ps)
def rG.aaH:=h.1
def rG.slot:=h.2.1
def rG.kinds:=h.2.2.1
def rG.nd:=h.2.2.2.1
def rG.cL:=h.2.2.2.2.1
def rG.BZ:=h.2.2.2.2.2
end
def aaI{ns:List (Str×jo)}{l:List (Str×Nat)}{ps:List Str}(h:FQ ns l ps=true):rG ns l ps:=band h λh h6=>band h λh h5=>band h λh h4=>band h λh h3=>band h λh1 h2=>
 ⟨λp hp e=>ft ((show(p.2 !=.free)=false by rw[e];rfl).symm.trans (bA.mp h1 p hp)),λj x hj=>ao (bA.mp h2 (x,j) (dZ (qA.mpr ⟨hj,DN (iR.mp hj).1⟩))),
  λx i hx=>bor (bA.mp h3 (x,i) (lookup_mem hx)) (λq=>.inl (ao q)) λq=>.inr (ao q),aq h4,aq h5,aq h6⟩
section
variable{C:Cx}{k:Nat}{A:aM}{N:Addr->Prop}{s:az}{E:ay->az->Prop}
abbrev mV(X:Kx)(k:Nat)(A:aM)(fd:gY)(l:List (Str×Nat))(N:Addr->Prop)(r:aE)(s:az)(env:Env)(M N':Addr->Prop)(aB:az):Prop:=env.code=fd.code/\env.scope=fd.scope/\env.frame=ab env.locals/\env.qual=fd.qualname++".<locals>."/\env.cells=fy (s.heap.objs.size+1) fd.scope.names []/\At X k (A.deeper env) env ⟨fd.scope.names,l,[]⟩ N' r aB/\(Fw X env ⟨fd.scope.names,l,[]⟩ N M N' (λz=>0) r aB.heap)/\Kp X s aB/\(∀b,M b->s.heap.objs.size<=b)/\(∀b,N' b->N b∨s.heap.objs.size<=b)/\(∀b,Fr env b->s.heap.objs.size<=b)
section
variable(h:mV X k A fd l N r s env M N' aB)
def mV.code:=h.1
def mV.qual:=h.2.2.2.1
def mV.cells:=h.2.2.2.2.1
def mV.a:=h.2.2.2.2.2.1
def mV.F:=h.2.2.2.2.2.2.1
def mV.kp:=h.2.2.2.2.2.2.2.1
def mV.hM:=h.2.2.2.2.2.2.2.2.1
def mV.hN:=h.2.2.2.2.2.2.2.2.2.1
def mV.fr:=h.2.2.2.2.2.2.2.2.2.2
end
noncomputable def zb:Flow->ay
 |.ret v=>v
 |_=>.none
def NO{X:Kx}{a:Addr}{fd:gY}{body:List Stmt}{l:List (Str×Nat)}{ps:List Str}(n:Nat)(f:iL X a fd body l ps){ts:List T}{vals:List ay}
  (ra:RA (k+1) A) (wd:Wd X s.heap) (ng:NG X N s.heap) (hv:aL X N s.heap ts vals) (hl:ts.length=ps.length) {Q:ay->az->Prop}
  (h:∀{env aB M N'},mV X k A fd l N (start n ts) s env M N' aB->aA (model X.prog X.w) (A.deeper env) (bL body env) (λg s'=>Q (zb g) s') (λu u=>False) aB):
  gN (model X.prog X.w) A (.call (.ref a) ⟨vals,[]⟩) (λr s'=>match r with|.ok (.ret v)=>Q v s'|_=>False) s:=by
 have zc:vals.length=ps.length:=by rw[hv.length,hl]
 obtain⟨o,ho,hd⟩:=f.at_
 obtain⟨cd,oc,vs,ct,iE,nK,lQ,hq⟩:=f.code
 have S:=aaI f.sc
 refine codeAny_call_cells ra.room (wd.K _ _ ho) hd wd.nolimit ⟨cd,oc,vs,ct,iE,wd.K _ _ nK,lQ,hq⟩ f.body (f.bind vals zc) f.za (λx hx=>?_) (λaB hi=>?_) f.co f.gen f.kind
 ·obtain⟨j,hj⟩:=sY.mp (sX hx).1
  exact(S.kinds _ _ (S.slot j _ hj)).imp id λq=>⟨q,BY q⟩
 ·generalize hL:s.heap.objs.size=L at hi
  obtain⟨bJ,tk,rfl⟩:=hi.toInCall.same
  have keep:=hi.toInCall.keep
  have gQ:=hi.toInCall.ns
  have wm:L<bJ.objs.size:=gQ.lt
  have kp:Kp X s {s with heap:=bJ,toks:=tk}:=Kp.of keep (by rw[hL];exact cE wm)
  have NP:∀{b:Addr},L<=b->b∉aV:=λ{b}h q=>bx (ng.lt b (ng.tb b q)) (hL.symm▸h)
  have ka:∀{x b},(xP fd L a).cells.lookup x=ab b->L<b/\(∃v,bJ.IsCell b v):=λ{x b}hb=>⟨hi.above x b (lookup_mem hb),_,hi.cell x b hb⟩
  have inj:∀x y b,(xP fd L a).cells.lookup x=ab b->(xP fd L a).cells.lookup y=ab b->x=y:=λx y b h1 h2=>name_of_addr hi.apart (lookup_mem h1) (lookup_mem h2)
  have NQ:∀b,(N b∨(L<=b/\b<bJ.objs.size))->N b∨s.heap.objs.size<=b:=λb q=>q.imp id λz=>hL.symm▸z.1
  have o4:aL X (λb=>N b∨(L<=b/\b<bJ.objs.size)) bJ ts vals:=hv.move NQ λb o q eb=>keep b o eb
  have ne:∀x b,(xP fd L a).cells.lookup x=ab b->b≠L:=λx b hb=>iS (ka hb).1
  have kb:At X k (A.deeper (xP fd L a)) (xP fd L a) ⟨fd.scope.names,l,[]⟩ (λb=>N b∨(L<=b/\b<bJ.objs.size)) (start n ts) {s with heap:=bJ,toks:=tk}:=by
   refine⟨⟨f.kind,rfl,f.glob,f.bi,NP (bj _),λx b hb=>NP (cE (ka hb).1),λx hx=>?_,λx b hb=>⟨(ka hb).2,ne x b hb⟩,inj,λx i t h1 h2=>?_⟩,wd.kp kp,ng.more (λb q=>.inl q) wd (by rw[hL];exact cE wm) (λb q=>q.imp id λz=>⟨hL.symm▸z.1,z.2⟩),ra.deeper⟩
   ·exact hx.elim (λhx=>mC.mp (BY hx)) λhx=>aj rfl (S.aaH _ (lookup_mem hx))
   ·have h3:=NM h2
    obtain⟨v,h4,h5⟩:=o4.get h3
    have dp:i<ps.length:=hl▸(iR.mp h3).1
    have hy:ps[i]?=ab ps[i]:=iu dp
    cases BP S.cL h1 (S.slot i _ hy)
    refine⟨v,(S.kinds _ i h1).imp (λq=>⟨q,_,gQ,(aaF S.BZ zc.symm).2 i _ v hy h4 q⟩) λq=>?_,h5⟩
    obtain⟨b,hb⟩:=mC.mp (BY (n:=L+1) q)
    have hc:=hi.cell _ b hb
    rw[(aaG (m:=λu=>ae) S.BZ zc.symm).2 i _ v hy h4 q]at hc
    exact⟨.inl q,b,hb,hc⟩
  have FR:Fw X (xP fd L a) ⟨fd.scope.names,l,[]⟩ N (λb=>L<=b/\b<bJ.objs.size) (λb=>N b∨(L<=b/\b<bJ.objs.size)) (λu=>0) (start n ts) bJ:=by
   refine⟨⟨f.kind,⟨⟨bj _,wm⟩,_,gQ⟩,λx hx=>?_,inj,ne⟩,λb q=>.inr q,λb q z=>bx (ng.lt b z) (hL.symm▸q.1),λb q=>.inl q,S.nd,S.cL,λi w=>ft w.1,λx i t h1 h2=>ft h2,λi j w=>ft w.1⟩
   obtain⟨i,E0⟩:=mC.mp hx
   refine(S.kinds x i E0).imp id λq=>?_
   obtain⟨b,hb⟩:=mC.mp (BY (n:=L+1) q)
   exact⟨q,b,hb,⟨cE (ka hb).1,(ka hb).2.elim λv z=>z.elim λo z=>bw z.1⟩,(ka hb).2⟩
  refine eF (h ⟨rfl,rfl,rfl,rfl,by rw[hL];rfl,kb,FR,kp,λb q=>hL.symm▸q.1,NQ,λb q=>hL.symm▸q.elim (λe=>bO e.symm) λz=>z.elim λx hb=>cE (ka hb).1⟩) (λg s' hg=>?_) λu u z=>z.elim
  cases g<;>exact hg
def t8{X:Kx}{a:Addr}{fd:gY}{body:List Stmt}{l:List (Str×Nat)}{ps:List Str}(n:Nat)(f:iL X a fd body l ps){ts:List T}{vals:List ay}
  (ra:RA (k+1) A) (wd:Wd X s.heap) (ng:NG X N s.heap) (hv:aL X N s.heap ts vals) (hl:ts.length=ps.length) {Q:ay->az->Prop}
  (h:∀{env aB M N'},mV X k A fd l N (start n ts) s env M N' aB->aA (model X.prog X.w) (A.deeper env) (bL body env) (λg s'=>Q (zb g) s') (λz z=>False) aB):
  aA (model X.prog X.w) A (call (.ref a) vals) Q E s:=by
 refine pB (qt (NO n f ra wd ng hv hl h) λr s' hr=>?_)
 cases r with
 |error e=>exact hr.elim
 |ok fl=>cases fl<;>first|exact hr|exact hr.elim
def aaJ(H:Ok C k){a:Addr}{fd:gY}{body:List Stmt}{l:List (Str×Nat)}{ps:List Str}{σ:S}{n:Nat}{o':List Nat}(f:iL C.X a fd body l ps)(hc:bR σ ⟨fd.scope.names,l,[]⟩ body o'){ts:List T}{vals:List ay}{t:T}
  (ra:RA (k+1) A) (wd:Wd C.X s.heap) (ng:NG C.X N s.heap) (hv:aL C.X N s.heap ts vals) (e:kP C.F σ n ps.length ts=ab t):aA (model C.X.prog C.X.w) A (call (.ref a) vals) (Res C.X N s t) E s:=by
 refine gi e λhl e=>aO e λp hex he=>t8 n f ra wd ng hv hl λ{env aB M N'}c=>?_
 refine eF (hc H (fl:=p.1) (r':=p.2) c.a c.F hex λy y=>False) (λg s' L'=>?_) λy y z=>z.elim
 cases L' with|mk fo mv n0 _ _ _=>
 have k':Kp C.X s s':=((Mv.of (M:=λy=>False) c.kp).trans mv λd q=>.inr (c.hM d q)).kp λy q=>q
 obtain⟨fl,r'⟩:=p
 cases fl with
 |next=>cases fo;cases he;exact⟨k',.none⟩
 |ret u=>obtain⟨v,rfl,hv⟩:=fo;cases he;exact⟨k',hv.mono n0⟩
 |brk=>exact aN he
end
def dq(X:Kx)(k:Nat)(a:Addr)(G:List T->Option T):Prop:=
 ∀⦃A N s ts vals t⦄E,RA k A->Wd X s.heap->NG X N s.heap->aL X N s.heap ts vals->G ts=ab t->aA (model X.prog X.w) A (call (.ref a) vals) (Res X N s t) E s
def dq.sub{X:Kx}{k:Nat}{a:Addr}{G G':List T->Option T}(h:dq X k a G)(q:∀ts t,G' ts=ab t->G ts=ab t):dq X k a G':=λA N s ts vals t E ra wd ng hv e=>h E ra wd ng hv (q _ _ e)
def NR{C:Cx}{k:Nat}(H:Ok C k){a:Addr}{fd:gY}{body:List Stmt}{l:List (Str×Nat)}{ps:List Str}(σ:S)(n:Nat){o':List Nat}(f:iL C.X a fd body l ps)(hc:bR σ ⟨fd.scope.names,l,[]⟩ body o'):dq C.X (k+1) a (kP C.F σ n ps.length):=
 λA N s ts vals t E ra wd ng hv e=>aaJ H f hc ra wd ng hv e
section
variable{X:Kx}
def dq.call{k:Nat}{a:Addr}{fd:gY}{G:List T->Option T}(h:dq X k a G)(ho:∃o,X.K.lookup a=ab o/\o.data=.func fd):oW X k (.ref a) G:=λA N s pos trees ts t E ra wd ng hp e args=>by
 obtain⟨o,ho,hd⟩:=ho
 exact A4 (o:=o) (fd:=fd) (ie hp (mo (args E) λvs aB z=>⟨⟨(wd.kp z.1).K _ _ ho,hd⟩,mo (h E ra (wd.kp z.1) (ng.kp z.1) z.2 e) λv s₂ q=>⟨z.1.trans q.1,q.2⟩⟩))
def NS{m n:Str}{t:Tok}{v:ay}{hh:Int}{es:List jj}(q:m≠n):getL n (⟨hh,.str m t,v⟩::es)=getL n es:=by
 have:(m==n)=false:=beq_eq_false_iff_ne.mpr q
 unfold getL
 rw[TS]
 simp only[UG,this]
 rw[Dw]
 simp only[jj.refKey,anF]
 rfl
def t9{n:Str}{ns:List Str}{vs:List ay}{es:List jj}(h:gf ns vs es):(n∉ns->getL n es=ab ae)/\(∀i:Nat,ns.Nodup->ns[i]?=ab n->getL n es=ab vs[i]?):=by
 induction h with
 |nil=>exact⟨λz=>rfl,λi z h=>aN h⟩
 |cons r ih=>
  refine⟨λh=>?_,λi nd h=>?_⟩
  ·rw[NS λe=>h (by rw[e];exact bk)]
   exact ih.1 λq=>h (bS _ q)
  ·have cT:=hH.mp nd
   cases i with
   |zero=>
    cases h
    unfold getL
    simp [TS,UG]
   |succ i=>
    rw[NS λe=>cT.1 (by rw[e];exact dZ h)]
    exact ih.2 i cT.2 h
def dq.bE{k c f:Nat}{fd:gY}{nm:Str}{G:List T->Option T}(h:dq X k f G)(ho:∃o,X.K.lookup f=ab o/\o.data=.func fd)
  (FT:dQ X.K (.ref (dR c).at_) "__getattribute__"=ab (ab (.builtin "object.__getattribute__"))) (hk:dQ X.K (.ref (dR c).at_) "__getattr__"=ab ae)
  (hf:dQ X.K (.ref (dR c).at_) nm=ab (ab (.ref f))) (ht:A5 X.K (.ref f)=ab (.type "function")) (hn:nm∉(dR c).names)
  (hG:∀x ts t,G (x::ts)=ab t->∃l,x=.ins c l):qY X k nm G:=by
 intro A N s pos pl trees x ov ts t E ra wd ng hx hp e args
 obtain⟨l,rfl⟩:=hG _ _ _ e
 obtain⟨o,ho,hd⟩:=ho
 have FU:=hx
 cases hx with
 | @ins a dA _ es n vs _ h1 h2 h3 h4 h5 h6=>
  refine PySem.W.method_fn (prog:=X.prog) (w:=X.w) wd.K (C:=(dR c).at_) (ox:=anT (dR c).at_ dA) (od:=ab {cls:=.type "dict",data:=.dict es.toArray n}) ⟨h1,rfl,rfl,h2⟩ FT hk hf ht ?_ ?_
  ·show(lookIn nm _).map _=_
   rw[show lookIn nm ({cls:=.type "dict",data:=.dict es.toArray n}:Obj)=getL nm es from rfl,(t9 (n:=nm) h5).1 hn];rfl
  ·exact A4 (o:=o) (fd:=fd) (ie hp (mo (args s (Kp.refl s) E) λvs aB z=>⟨⟨(wd.kp z.1).K _ _ ho,hd⟩,mo (h E ra (wd.kp z.1) (ng.kp z.1) (.cons (FU.kp ng z.1) z.2) e) λv s₂ q=>⟨z.1.trans q.1,q.2⟩⟩))
def handed{N:Addr->Prop}{h:Heap}{t:T}{v:ay}(x:VR X N h t v):UI v=true:=by cases x<;>rfl
def aaK{i:Nat}{nm:Str}(hi:(dR (i/10)).names[i%10]?=ab nm)(pR:(dR (i/10)).names.Nodup)
  (FT:dQ X.K (.ref (dR (i/10)).at_) "__getattribute__"=ab (ab (.builtin "object.__getattribute__")))
  (hh:xQ X.K (dR (i/10)).at_=true) {attr:Option ay} (ha:dQ X.K (.ref (dR (i/10)).at_) nm=ab attr) (hn:noGet X.K attr=true) (ub:i≠100):tL X i nm:=by
 intro A N s x ov t Q E wd ng hx e q
 cases hx with
 | @ins a dA c es n vs _ h1 h2 h3 h4 h5 h6=>
  refine gi (show(if i/10=c then _ else ae)=ab t from e) λhc e'=>?_
  subst hc
  obtain⟨v,e1,e2⟩:=h6.get e'
  have hl:=(t9 (n:=nm) h5).2 _ pR hi
  rw[e1]at hl
  exact anU (prog:=X.prog) (w:=X.w) wd.K (C:=(dR (i/10)).at_) (ox:=anT (dR (i/10)).at_ dA) (od:=ab {cls:=.type "dict",data:=.dict es.toArray n}) ⟨h1,rfl,rfl,h2⟩ FT
   (PySem.W.findObj_own hh ha hn hl) (handed e2) (q _ v Kp.tok (e2.kp ng Kp.tok))
 |eI=>exact ifs e λw z=>aj w ub
 |_=>exact aN e
end
structure Row where
 a:Addr
 f:Nat
 c:Nat
 σ:S
 l:List (Str×Nat)
 n:Nat
 m:Nat
noncomputable def slots(l:List String):List (Str×Nat):=(l.map s_).zip (bc l.length)
noncomputable def q0:S:=(.seq (.bN (.cmp .le (.bin .sub (.sm .pF (.var 0) .nil) (.var 2)) (.lit (.int 4000))) (.seq (.ret [] (.prim .divmod (.cons (.var 0) (.cons (.var 1) .nil)))) .skip) .skip) (.seq (.asg 3 (.bin .band (.var 2) (.lit (.int 1)))) (.seq (.bN (.var 3) (.seq (.aug 0 .shl (.lit (.int 1))) (.seq (.aug 1 .shl (.lit (.int 1))) (.seq (.aug 2 .add (.lit (.int 1))) .skip))) .skip) (.seq (.asg 4 (.bin .shr (.var 2) (.lit (.int 1)))) (.seq (.asg 5 (.bin .sub (.bin .shl (.lit (.int 1)) (.var 4)) (.lit (.int 1)))) (.seq (.fP [6,7] [ab (.bin .shr (.var 1) (.var 4)),ab (.bin .band (.var 1) (.var 5))]) (.seq (.fC [8,9] (.call 1 (.cons (.bin .shr (.var 0) (.var 2)) (.cons (.bin .band (.bin .shr (.var 0) (.var 4)) (.var 5)) (.cons (.var 1) (.cons (.var 6) (.cons (.var 7) (.cons (.var 4) .nil)))))))) (.seq (.fC [10,9] (.call 1 (.cons (.var 9) (.cons (.bin .band (.var 0) (.var 5)) (.cons (.var 1) (.cons (.var 6) (.cons (.var 7) (.cons (.var 4) .nil)))))))) (.seq (.bN (.var 3) (.seq (.aug 9 .shr (.lit (.int 1))) .skip) .skip) (.seq (.ret [] (.tup (.cons (.bin .bor (.bin .shl (.var 8) (.var 4)) (.var 10)) (.cons (.var 9) .nil)))) .skip))))))))))
noncomputable def w0:List (Str×Nat):=slots ["a","b","n","pad","half_n","mask","b1","b2","q1","r","q2"]
noncomputable def q1:S:=(.seq (.bN (.cmp .eq (.bin .shr (.var 0) (.var 5)) (.var 3)) (.seq (.fP [6,7] [ab (.bin .sub (.bin .shl (.lit (.int 1)) (.var 5)) (.lit (.int 1))),ab (.bin .add (.bin .sub (.var 0) (.bin .shl (.var 3) (.var 5))) (.var 3))]) .skip) (.seq (.fC [6,7] (.call 0 (.cons (.var 0) (.cons (.var 3) (.cons (.var 5) .nil))))) .skip)) (.seq (.asg 7 (.bin .sub (.bin .bor (.bin .shl (.var 7) (.var 5)) (.var 1)) (.bin .mul (.var 6) (.var 4)))) (.seq (.wh 100000 (.cmp .lt (.var 7) (.lit (.int 0))) (.seq (.aug 6 .sub (.lit (.int 1))) (.seq (.aug 7 .add (.var 2)) .skip))) (.seq (.ret [] (.tup (.cons (.var 6) (.cons (.var 7) .nil)))) .skip))))
noncomputable def w1:List (Str×Nat):=slots ["a12","a3","b","b1","b2","n","q","r"]
noncomputable def q4:S:=(.seq (.asg 2 (.sm .pF (.var 1) .nil)) (.seq (.asg 3 (.call 2 (.cons (.var 0) (.cons (.var 2) .nil)))) (.seq (.asg 4 (.lit (.int 0))) (.seq (.own 5 (.lst .nil)) (.seq (.eV 6 (.Bq (.var 3)) (.seq (.fC [7,4] (.call 0 (.cons (.bin .add (.bin .shl (.var 4) (.var 2)) (.var 6)) (.cons (.var 1) (.cons (.var 2) .nil))))) (.seq (.app 5 (.var 7)) .skip))) (.seq (.rev 5) (.gh [5] (.seq (.asg 8 (.call 3 (.cons (.var 5) (.cons (.var 2) .nil)))) (.seq (.ret [] (.tup (.cons (.var 8) (.cons (.var 4) .nil)))) .skip)))))))))
noncomputable def w4:List (Str×Nat):=slots ["a","b","n","a_digits","r","q_digits","a_digit","q_digit","q"]
noncomputable def q5:S:=(.seq (.bN (.cmp .eq (.var 1) (.lit (.int 0))) (.seq .dead .skip) (.seq (.bN (.cmp .lt (.var 1) (.lit (.int 0))) (.seq (.fC [2,3] (.call 5 (.cons (.neg (.var 0)) (.cons (.neg (.var 1)) .nil)))) (.seq (.ret [] (.tup (.cons (.var 2) (.cons (.neg (.var 3)) .nil)))) .skip)) (.seq (.bN (.cmp .lt (.var 0) (.lit (.int 0))) (.seq (.fC [2,3] (.call 5 (.cons (.inv (.var 0)) (.cons (.var 1) .nil)))) (.seq (.ret [] (.tup (.cons (.inv (.var 2)) (.cons (.bin .add (.var 1) (.inv (.var 3))) .nil)))) .skip)) (.seq (.ret [] (.call 4 (.cons (.var 0) (.cons (.var 1) .nil)))) .skip)) .skip)) .skip)) .skip)
noncomputable def w5:List (Str×Nat):=slots ["a","b","q","r"]
noncomputable def q9:S:=(.seq (.ret [] (.comp 2 (.var 2) (.hY (.bin .sub (.lit (.int 8)) (.var 1))) (.ju (.cmp .eq (.idx (.var 0) (.var 2)) (.lit (.str (s_ "r")))) (.cmp .eq (.idx (.var 0) (.bin .add (.var 2) (.var 1))) (.lit (.str (s_ "u"))))))) .skip)
noncomputable def w9:List (Str×Nat):=slots ["text","t"]
noncomputable def B0:S:=(.seq (.ret [] (.tup (.cons (.bin .add (.bin .add (.bin .add (.bin .add (.cY false (.var 0) .absent (.var 1)) (.lit (.str (s_ "u")))) (.cY false (.var 0) (.bin .add (.var 1) (.lit (.int 1))) (.bin .add (.var 1) (.var 2)))) (.lit (.str (s_ "r")))) (.cY false (.var 0) (.bin .add (.bin .add (.var 1) (.var 2)) (.lit (.int 1))) .absent)) (.cons (.bin .pow (.neg (.lit (.int 1))) (.sm .count (.cY false (.var 0) (.var 1) (.bin .add (.var 1) (.var 2))) (.cons (.lit (.str (s_ "u"))) .nil))) .nil)))) .skip)
noncomputable def w10:List (Str×Nat):=slots ["text","i","t"]
noncomputable def zd:S:=(.seq (.fP [3,4,5] [ab (.call 9 (.cons (.var 0) (.cons (.var 1) .nil))),ab (.lit (.int 1)),ae]) (.seq (.wh 100000 (.cmp .ne (.var 3) (.lst .nil)) (.seq (.fC [2,6] (.call 5 (.cons (.var 2) (.cons (.prim .len (.cons (.var 3) .nil)) .nil)))) (.seq (.app 5 (.tup (.cons (.idx (.var 3) (.var 6)) (.cons (.prim .len (.cons (.var 3) .nil)) (.cons (.var 6) .nil))))) (.seq (.fC [0,7] (.call 10 (.cons (.var 0) (.cons (.idx (.var 3) (.var 6)) (.cons (.var 1) .nil))))) (.seq (.fP [3,4] [ab (.call 9 (.cons (.var 0) (.cons (.var 1) .nil))),ab (.bin .mul (.var 4) (.var 7))]) .skip))))) (.gh [5] (.seq (.hZ [8,9,6] (.cY true (.var 5) .absent .absent) (.seq (.asg 2 (.bin .add (.bin .mul (.var 2) (.var 9)) (.bin .mod (.var 6) (.var 9)))) .skip)) (.seq (.ret [] (.tup (.cons (.var 0) (.cons (.var 4) (.cons (.prim .qQ (.cons (.j0 [10,11,12] (.var 10) (.var 5) (.lit (.bool true))) .nil)) (.cons (.var 2) .nil)))))) .skip)))))
noncomputable def NU:List (Str×Nat):=slots ["text","t","order","places","sign","steps","pick","one","place","many"]
noncomputable def ze:S:=(.seq (.asg 3 (.jZ (.var 0) (.lit (.int 1)))) (.seq (.eV 4 (.hY (.var 2)) (.seq (.own 5 (.jZ .nil .nil)) (.seq (.eV 6 (.var 3) (.seq (.hZ [7,8] (.comp 9 (.call 10 (.cons (.var 6) (.cons (.var 9) (.cons (.var 1) .nil)))) (.call 9 (.cons (.var 6) (.cons (.var 1) .nil))) (.lit (.bool true))) (.seq (.tI 5 (.var 7) (.bin .add (.sm .vD (.var 5) (.cons (.var 7) (.cons (.lit (.int 0)) .nil))) (.bin .mul (.var 8) (.idx (.var 3) (.var 6))))) .skip)) .skip)) (.gh [5] (.seq (.asg 3 (.var 5)) .skip))))) (.seq (.ret [] (.var 3)) .skip)))
noncomputable def NV:List (Str×Nat):=slots ["text","t","strips","front","turn","back","word","new","one"]
noncomputable def uc:S:=(.seq (.fP [3,4,5] [ab (.lit (.int 1)),ae,ae]) (.seq (.eV 6 (.hY (.lit (.int 14))) (.seq (.app 5 (.bE 26 (.var 0) (.cons (.bin .add (.bin .add (.lit (.str (s_ "*"))) (.call 6 (.cons (.var 1) (.cons (.lit (.str (s_ "r"))) .nil)))) (.lit (.str (s_ "/ruuuu/")))) .nil))) (.seq (.asg 7 (.bE 27 (.var 0) (.cons (.var 1) .nil))) (.seq (.bN (.qR false (.var 7) (.bool true)) (.seq .brk .skip) .skip) (.seq (.app 4 (.sm .rfind (.var 1) (.cons (.bin .add (.bin .add (.lit (.str (s_ "r"))) (.cY false (.var 7) (.lit (.int 1)) (.neg (.lit (.int 1))))) (.lit (.str (s_ "u")))) .nil))) (.seq (.asg 1 (.bin .add (.bin .add (.cY false (.var 1) .absent (.idx (.var 4) (.neg (.lit (.int 1))))) (.var 7)) (.cY false (.var 1) (.bin .add (.bin .add (.idx (.var 4) (.neg (.lit (.int 1)))) (.var 2)) (.lit (.int 1))) .absent))) (.seq (.aug 3 .mul (.bin .pow (.neg (.lit (.int 1))) (.sm .count (.cY false (.var 7) (.lit (.int 1)) (.neg (.lit (.int 1)))) (.cons (.lit (.str (s_ "u"))) .nil)))) .skip))))))) (.gh [5,4] (.seq (.ret [] (.tup (.cons (.var 1) (.cons (.var 3) (.cons (.var 4) (.cons (.var 5) .nil)))))) .skip))))
noncomputable def NW:List (Str×Nat):=slots ["machine","text","t","sign","way","told","turn","verdict"]
noncomputable def NX:S:=(.seq (.fC [1,2] (.attr (.var 0) 3)) (.seq (.ret [] (.prim .max2 (.cons (.bin .sub (.prim .len (.cons (.var 1) .nil)) (.lit (.int 1))) (.cons (.var 2) .nil)))) .skip))
noncomputable def NY:List (Str×Nat):=slots ["self","count","trailing"]
noncomputable def NZ:S:=(.seq (.fC [2,3] (.attr (.var 0) 3)) (.seq (.asg 4 (.lit (.int 0))) (.seq (.eV 5 (.mN (.var 1) (.prim .len (.cons (.var 2) .nil))) (.seq (.asg 4 (.bin .add (.var 4) (.bin .mul (.bin .fdiv (.var 5) (.var 1)) (.idx (.var 2) (.var 5))))) .skip)) (.seq (.ret [] (.bin .add (.var 3) (.bin .mul (.var 1) (.bin .add (.var 4) (.attr (.var 0) 2))))) .skip))))
noncomputable def N0:List (Str×Nat):=slots ["self","tabsize","count","trailing","il","i"]
noncomputable def q22:S:=(.seq (.ret [] (.cmp .eq (.attr (.var 0) 3) (.attr (.var 1) 3))) .skip)
noncomputable def w22:List (Str×Nat):=slots ["self","other"]
noncomputable def N1:S:=(.seq (.asg 2 (.bin .add (.prim .max2 (.cons (.bE 20 (.var 0) .nil) (.cons (.bE 20 (.var 1) .nil) .nil))) (.lit (.int 1)))) (.seq (.own 3 (.lst .nil)) (.seq (.eV 4 (.mN (.lit (.int 1)) (.bin .add (.var 2) (.lit (.int 1)))) (.seq (.bN (.cmp .ne (.bE 21 (.var 0) (.cons (.var 4) .nil)) (.bE 21 (.var 1) (.cons (.var 4) .nil))) (.seq (.app 3 (.tup (.cons (.var 4) (.cons (.bE 21 (.var 0) (.cons (.var 4) .nil)) (.cons (.bE 21 (.var 1) (.cons (.var 4) .nil)) .nil))))) .skip) .skip) .skip)) (.gh [3] (.seq (.ret [] (.var 3)) .skip)))))
noncomputable def N6:List (Str×Nat):=slots ["self","other","n","a","ts"]
noncomputable def N7:S:=(.seq (.bN (.cmp .ge (.attr (.var 0) 1) (.attr (.var 1) 1)) (.seq (.ret [] (.lit (.bool false))) .skip) .skip) (.seq (.bN (.ju (.attr (.var 0) 4) (.attr (.var 1) 4)) (.seq (.ret [] (.cmp .le (.attr (.var 0) 2) (.attr (.var 1) 2))) .skip) .skip) (.seq (.asg 2 (.bin .add (.prim .max2 (.cons (.bE 20 (.var 0) .nil) (.cons (.bE 20 (.var 1) .nil) .nil))) (.lit (.int 1)))) (.seq (.eV 3 (.mN (.lit (.int 2)) (.bin .add (.var 2) (.lit (.int 1)))) (.seq (.bN (.cmp .ge (.bE 21 (.var 0) (.cons (.var 3) .nil)) (.bE 21 (.var 1) (.cons (.var 3) .nil))) (.seq (.ret [] (.lit (.bool false))) .skip) .skip) .skip)) (.seq (.ret [] (.lit (.bool true))) .skip)))))
noncomputable def N8:List (Str×Nat):=slots ["self","other","n","ts"]
noncomputable def N9:S:=(.seq (.asg 2 (.bin .add (.prim .max2 (.cons (.bE 20 (.var 0) .nil) (.cons (.bE 20 (.var 1) .nil) .nil))) (.lit (.int 1)))) (.seq (.own 3 (.lst .nil)) (.seq (.eV 4 (.mN (.lit (.int 1)) (.bin .add (.var 2) (.lit (.int 1)))) (.seq (.bN (.cmp .ge (.bE 21 (.var 0) (.cons (.var 4) .nil)) (.bE 21 (.var 1) (.cons (.var 4) .nil))) (.seq (.app 3 (.tup (.cons (.var 4) (.cons (.bE 21 (.var 0) (.cons (.var 4) .nil)) (.cons (.bE 21 (.var 1) (.cons (.var 4) .nil)) .nil))))) .skip) .skip) .skip)) (.gh [3] (.seq (.ret [] (.var 3)) .skip)))))
noncomputable def Oa:List (Str×Nat):=slots ["self","other","n","a","ts"]
noncomputable def Ob:S:=(.seq (.bN (.qR false (.var 1) .none) (.seq (.ret [] (.oR (.lit (.str (s_ "*"))) (.attr (.var 0) 10))) .skip) .skip) (.seq (.asg 1 (.sm .lower (.idx (.sm .split1 (.var 1) (.cons (.lit (.str (s_ "/"))) .nil)) (.lit (.int 0))) .nil)) (.seq (.eV 2 (.attr (.var 0) 10) (.seq (.bN (.cmp .ne (.var 2) (.lit (.str (s_ "*")))) (.seq (.asg 2 (.sm .lower (.var 2) .nil)) (.seq (.bN (.oR (.var 2) (.var 1)) (.seq (.ret [] (.lit (.bool true))) .skip) .skip) .skip)) .skip) .skip)) (.seq (.ret [] (.lit (.bool false))) .skip))))
noncomputable def Oc:List (Str×Nat):=slots ["self","useragent","agent"]
noncomputable def Od:S:=(.seq (.asg 2 (.neg (.lit (.int 1)))) (.seq (.asg 3 (.lit (.bool true))) (.seq (.eV 4 (.attr (.var 0) 11) (.seq (.asg 5 (.bE 28 (.var 4) (.cons (.var 1) .nil))) (.seq (.bN (.var 5) (.seq (.bN (.cmp .gt (.var 5) (.var 2)) (.seq (.asg 2 (.var 5)) (.seq (.asg 3 (.attr (.var 4) 100)) .skip)) (.seq (.bN (.ju (.cmp .eq (.var 5) (.var 2)) (.mM (.var 3))) (.seq (.asg 3 (.attr (.var 4) 100)) .skip) .skip) .skip)) .skip) .skip) .skip))) (.seq (.ret [] (.var 3)) .skip))))
noncomputable def Oe:List (Str×Nat):=slots ["self","filename","best_match","allowance","line","m"]
noncomputable def rows:List Row:=[⟨94,0,9,q0,w0,8,3⟩,⟨101,1,9,q1,w1,2,6⟩,⟨122,4,9,q4,w4,7,2⟩,⟨129,5,9,q5,w5,2,2⟩,⟨203,9,9,q9,w9,1,2⟩,⟨210,10,9,B0,w10,0,3⟩,⟨215,11,9,zd,NU,10,3⟩,⟨220,12,9,ze,NV,7,3⟩,⟨227,13,9,uc,NW,5,3⟩,⟨38,20,0,NX,NY,2,1⟩,⟨45,21,0,NZ,N0,4,2⟩,⟨52,22,0,q22,w22,0,2⟩,⟨59,23,0,N1,N6,3,2⟩,⟨66,24,0,N7,N8,2,2⟩,⟨73,25,0,N9,Oa,3,2⟩,⟨165,26,1,Ob,Oc,1,2⟩,⟨172,27,1,Od,Oe,4,2⟩]
noncomputable def FV:ay->Option Str
 |.str x _=>ab x
 |_=>ae
noncomputable def Of:Data->Option (Array ay)
 |.fields v=>ab v
 |_=>ae
noncomputable def codeOf(K:Frag)(fd:gY):Option Str:=(yv fd.code).bind λcd=>(K.lookup cd).bind λoc=>(Of oc.data).bind λvs=>(vs[1]?).bind FV
noncomputable def bt:List (Addr×List (Str×Nat)×Nat):=rows.map (λr=>(r.a,r.l,r.m))++[(193,slots ["middle","verdict","rule"],2),(151,slots ["self"],1),(198,slots ["t","mute","turn","middles","step","record","middle"],3),(108,slots ["a","n","a_digits","inner"],2),
 (115,slots ["digits","n","inner"],2),(31,slots ["self","ws","S","T","count","b","n","nt","ch"],2),(186,slots ["e1","e2","entry"],2),(87,slots ["w","firsts","prefix"],1),(232,slots ["script","cells","k","x","number","z","w","shift","order","t","e","mute","bits","text","typed","due","asked","first","second","agents","more","machine","core","sign","way","told","spots","calm","floor","runner","line","base","tall","low","spare","where","nothing","tally","rows","table","hooks","near","far","wide","mirror","size","column","h","named","asks","above","under","often","count","rest"],1)]
noncomputable def rH(l:List (Str×Nat))(m:Nat):List Str:=(l.take m).map (·.1)
def aaO(P:dY):bt.map (λr=>(KK P).lookup r.1)=bt.map λr=>ab (ob P r.1):=by kernel_rfl
def aaP(P:dY):bt.map (λr=>(ob P r.1).data)=bt.map λr=>.func (bC r.1):=by kernel_rfl
def aaQ:bt.map (λr=>(bC r.1).body)=bt.map λr=>.stmts (body r.1):=by kernel_rfl
def aaR:bt.map (λr=>((bC r.1).closure,(bC r.1).globals,(bC r.1).builtins,(bC r.1).scope.kind,(bC r.1).scope.isCoroutine,(bC r.1).scope.isGenerator))=bt.map λz=>([],gJ,jm,.function,false,false):=by kernel_rfl
def aaS(g:Nat->ay):bt.map (λr=>Ks (bC r.1) ⟨(bc r.2.2).map g,[]⟩)=bt.map λr=>pure ((rH r.2.1 r.2.2).zip ((bc r.2.2).map g)):=by kernel_rfl
def aaT(P:dY):bt.map (λr=>codeOf (KK P) (bC r.1))=bt.map λr=>ab (bC r.1).qualname:=by kernel_rfl
def Og:bt.all (λr=>FQ (bC r.1).scope.names r.2.1 (rH r.2.1 r.2.2)&&decide ((rH r.2.1 r.2.2).length=r.2.2))=true:=by kernel_rfl
def aaU:rows.all (λr=>(oZ r.σ ⟨(bC r.a).scope.names,r.l,[]⟩ (body r.a)).ok)=true:=by kernel_rfl
def aaV{v:ay}{x:Str}(h:FV v=ab x):∃t,v=.str x t:=by cases v with|str y t=>cases h;exact⟨t,rfl⟩|_=>exact aN h
def aaW{v:ay}{a:Addr}(h:yv v=ab a):v=.ref a:=by cases v with|ref b=>cases h;rfl|_=>exact aN h
def aaX{d:Data}{a:Array ay}(h:Of d=ab a):d=.fields a:=by cases d with|fields b=>cases h;rfl|_=>exact aN h
def Oh{K:Frag}{fd:gY}(h:codeOf K fd=ab fd.qualname):∃cd oc vs t,fd.code=.ref cd/\K.lookup cd=ab oc/\oc.data=.fields vs/\vs[1]?=ab (.str fd.qualname t):=
 aO h λcd h1 h=>aO h λoc h2 h=>aO h λvs h3 h=>aO h λv h4 h=>(aaV h).elim λt e=>⟨cd,oc,vs,t,aaW h1,h2,aaX h3,e▸h4⟩
def Oi{vals:List ay}:vals=(bc vals.length).map λi=>vals.getD i default:=by
 refine DO λi=>?_
 rw[gL]
 by_cases h:i<vals.length
 ·rw[DN h,iu h,AO,anV,iu h];rfl
 ·rw[ve (eX.mp h),ve (by rw[kr];exact eX.mp h)];rfl
def iM{X:Kx}{a:Addr}{l:List (Str×Nat)}{m:Nat}(h:(a,l,m)∈bt):iL X a (bC a) (body a) l (rH l m):=by
 have q:=jW.mp aaR _ h
 have z:=bA.mp Og _ h
 refine⟨⟨_,jW.mp (aaO _) _ h,jW.mp (aaP _) _ h⟩,jW.mp aaQ _ h,af (·.1) q,af (·.2.1) q,af (·.2.2.1) q,af (·.2.2.2.1) q,af (·.2.2.2.2.1) q,af (·.2.2.2.2.2) q,Oh (jW.mp (aaT _) _ h),λvals hv=>?_,band z λa y=>a⟩
 have e:=jW.mp (aaS λi=>vals.getD i default) _ h
 have hm:m=vals.length:=(band z λy b=>aq b).symm.trans hv.symm
 subst hm
 rw[<-Oi]at e
 exact e
def B1{r:Row}(h:r∈rows):(r.a,r.l,r.m)∈bt:=AV _ (dy.mpr ⟨r,h,rfl⟩)
def Oj{C:Cx}{k:Nat}(H:Ok C k){r:Row}(h:r∈rows):dq C.X (k+1) r.a (kP C.F r.σ r.n r.m):=by
 obtain⟨o,hc⟩:=Db.get _ (bA.mp aaU r h)
 have e:dq C.X (k+1) r.a (kP C.F r.σ r.n (rH r.l r.m).length):=NR H r.σ r.n (iM (B1 h)) hc
 rw[show(rH r.l r.m).length=r.m from band (bA.mp Og _ (B1 h)) λz b=>aq b]at e
 exact e
noncomputable def zf(c:Nat):List T->Bool
 |.ins d _::_=>d==c
 |_=>false
noncomputable def rowOf(f:Nat):Option Row:=rows.find? λr=>r.f==f
noncomputable def ud:List Nat:=[2,3,6,7,8,14,15,16,17,28]
noncomputable def Fn(sp:Nat->List T->Option T):Nat->Nat->List T->Option T
 |0=>λz z=>ae
 |n+1=>λf ts=>(rowOf f).elim (if ud.contains f=true then sp f ts else ae) λr=>if(r.c==9||zf r.c ts)=true then kP (Fn sp n) r.σ r.n r.m ts else ae
def aaY:(rows.filter (·.c==9)).map (λr=>(nI r.f).bind d4)=(rows.filter (·.c==9)).map λr=>ab (.ref r.a):=by kernel_rfl
def Ol:rows.all (λr=>(r.c==9&&(tE r.f).isNone)||(r.c !=9&&(nI r.f).isNone&&(tE r.f).all λx=>!(dR r.c).names.contains x))=true:=by kernel_rfl
def aaZ(P:dY):(rows.filter (·.c !=9)).map (λr=>((tE r.f).bind λx=>dQ (KK P) (.ref (dR r.c).at_) x,A5 (KK P) (.ref r.a),dQ (KK P) (.ref (dR r.c).at_) "__getattribute__",dQ (KK P) (.ref (dR r.c).at_) "__getattr__"))=(rows.filter (·.c !=9)).map λr=>(ab (ab (.ref r.a)),ab (.type "function"),ab (ab (.builtin "object.__getattribute__")),ab ae):=by kernel_rfl
def aa0:ud.all (λf=>f==28||(tE f).isNone)=true:=by kernel_rfl
noncomputable def wq:List Nat:=[0,1,2,3,4,10,11,12,13,50]
def Om(P:dY):wq.map (λi=>(dQ (KK P) (.ref (dR (i/10)).at_) (oN i),xQ (KK P) (dR (i/10)).at_,dQ (KK P) (.ref (dR (i/10)).at_) "__getattribute__",(dR (i/10)).names[i%10]?))=wq.map λi=>(ab ae,true,ab (ab (.builtin "object.__getattribute__")),ab (oN i)):=by kernel_rfl
def aa1:wq.all (λi=>decide ((dR (i/10)).names.Nodup))=true:=by kernel_rfl
def aa2:(bc 60).all (λi=>((dR (i/10)).names[i%10]?).isNone||wq.contains i)=true:=by kernel_rfl
section
variable{X:Kx}{k k0 n:Nat}{sp:Nat->List T->Option T}
def gf.len{ns:List Str}{vs:List ay}{es:List jj}(h:gf ns vs es):vs.length=ns.length:=by
 induction h with
 |nil=>rfl
 |cons r ih=>exact af (· +1) ih
def aa3{i:Nat}{nm:Str}(h:(dR (i/10)).names[i%10]?=ae)(ub:i≠100):tL X i nm:=by
 intro A N s x ov t Q E wd ng hx e q
 refine False.elim ?_
 clear q wd ng
 cases hx with
 | @ins a dA c es n vs ts h1 h2 h3 h4 h5 h6=>
  refine gi (show(if i/10=c then _ else ae)=ab t from e) λhc e'=>?_
  subst hc
  have l1:=(iR.mp e').1
  rw[<-h6.length,h5.len]at l1
  exact aj l1 (eX.mpr (am2.mp h))
 |eI=>exact ifs e λw z=>aj w ub
 |_=>exact aN e
def B2(hr:tL X 100 (oN 100))(i:Nat):tL X i (oN i):=by
 by_cases ub:i=100
 ·exact ub▸hr
 ·cases e:(dR (i/10)).names[i%10]? with
  |none=>exact aa3 e ub
  |some nm=>
   have hi:i∈wq:=by
    by_cases h:i<60
    ·exact bor (bA.mp aa2 i (iw.mpr h)) (λq=>by rw[e]at q;exact ft q) jq.mp
    ·have h6:6<=i/10:=(UJ (by decide)).mpr (eX.mp h)
     unfold dR at e
     rw[ai (λq=>aj (q▸h6:6<=_) (by decide)),ai (λq=>aj (q▸h6:6<=_) (by decide)),ai (λq=>aj (q▸h6:6<=_) (by decide))]at e
     exact aN e
   have f:=jW.mp (Om X.w.params) i hi
   exact aaK (af (·.2.2.2) f) (aq (bA.mp aa1 i hi)) (af (·.2.2.1) f) (af (·.2.1) f) (af (·.1) f) rfl ub
def oW.mono{j:Nat}{v:ay}{G:List T->Option T}(h:oW X j v G)(q:j<=k):oW X k v G:=λA N s pos trees ts t E ra=>h A N s pos trees ts t E (ra.mono q)
def qY.mono{j:Nat}{nm:Str}{G:List T->Option T}(h:qY X j nm G)(q:j<=k):qY X k nm G:=λA N s pos pl trees x ov ts t E ra=>h A N s pos pl trees x ov ts t E (ra.mono q)
structure FW(X:Kx)(sp:Nat->List T->Option T)(k0:Nat):Prop where
 call:∀f x v,f∈ud->nI f=ab x->d4 x=ab v->oW X k0 v (sp f)
 Oo:qY X k0 (s_ "applies_to") (sp 28)
 FX:tL X 100 (oN 100)
 cat:El X
def Oq{f:Nat}{ts:List T}:Fn sp (n+1) f ts=(rowOf f).elim (if ud.contains f=true then sp f ts else ae) λr=>if(r.c==9||zf r.c ts)=true then kP (Fn sp n) r.σ r.n r.m ts else ae:=rfl
def B3{f:Nat}{ts:List T}(h:rowOf f=ae):Fn sp (n+1) f ts=if ud.contains f=true then sp f ts else ae:=by rw[Oq,h];rfl
def B4{f:Nat}{ts:List T}{r:Row}(h:rowOf f=ab r):Fn sp (n+1) f ts=if(r.c==9||zf r.c ts)=true then kP (Fn sp n) r.σ r.n r.m ts else ae:=by rw[Oq,h];rfl
def aa4{c:Nat}{x:T}{ts:List T}(h:zf c (x::ts)=true):∃l,x=.ins c l:=by cases x with|ins d l=>exact⟨l,by rw[ao h]⟩|_=>exact ft h
def aa5(S:FW X sp k0):Ok ⟨X,Fn sp 0⟩ k where
 cat:=S.cat
 fns:=λf x v z z A N s pos trees ts t E z z z z e=>aN e
 yz:=λf x z A N s pos pl trees x ov ts t E z z z z z e=>aN e
 nR:=B2 S.FX
def step(S:FW X sp k0)(hk:k0<=k+1)(H:Ok ⟨X,Fn sp n⟩ k):Ok ⟨X,Fn sp (n+1)⟩ (k+1) where
 cat:=S.cat
 nR:=B2 S.FX
 yz:=λf x e=>by
  cases q:rowOf f with
  |none=>
   by_cases h:f∈ud
   ·have h28:f=28:=bor (bA.mp aa0 f h) ao λz=>by rw[e]at z;exact ft z
    subst h28
    cases e
    exactλA N s pos pl trees x ov ts t E ra wd ng hx hp e=>S.Oo.mono hk A N s pos pl trees x ov ts t E ra wd ng hx hp ((ah (jq.mpr h)).symm.trans ((B3 (n:=n) q).symm.trans e))
   ·exactλA N s pos pl trees x ov ts t E ra wd ng hx hp e=>aN ((ai λz=>h (jq.mp z)).symm.trans ((B3 (n:=n) q).symm.trans e))
  |some r=>
   have hm:=UK q
   have hf:r.f=f:=ao (UL (p:=λr:Row=>r.f==f) q)
   rw[<-hf]at e
   refine bor (bA.mp Ol r hm) (λz=>band z λy z=>by rw[e]at z;exact ft z) λz=>band z λz z3=>band z λz1 z2=>?_
   have g:=jW.mp (aaZ X.w.params) r (DE.mpr ⟨hm,z1⟩)
   have g1:=af (·.1) g
   rw[e]at z3 g1
   refine dq.bE (c:=r.c) (f:=r.a) (fd:=bC r.a) (dq.sub (Oj H hm) λts t e=>?_) (iM (B1 hm)).at_ (af (·.2.2.1) g) (af (·.2.2.2) g) g1 (af (·.2.1) g) (λw=>ft ((not_of z3).symm.trans (jq.mpr w))) λx ts t e=>?_
   ·exact gi ((B4 q).symm.trans e) λy e=>e
   ·exact gi ((B4 q).symm.trans e) λw y=>bor w (λw=>ft ((bne_eq_false_iff_eq.mpr (ao w)).symm.trans z1)) aa4
 fns:=λf x v e hv=>by
  cases q:rowOf f with
  |none=>
   by_cases h:f∈ud
   ·exactλA N s pos trees ts t E ra wd ng hp e'=>(S.call f x v h e hv).mono hk A N s pos trees ts t E ra wd ng hp ((ah (jq.mpr h)).symm.trans ((B3 (n:=n) q).symm.trans e'))
   ·exactλA N s pos trees ts t E ra wd ng hp e=>aN ((ai λz=>h (jq.mp z)).symm.trans ((B3 (n:=n) q).symm.trans e))
  |some r=>
   have hm:=UK q
   have hf:r.f=f:=ao (UL (p:=λr:Row=>r.f==f) q)
   rw[<-hf]at e
   refine bor (bA.mp Ol r hm) (λz=>band z λz1 y=>?_) λz=>band z λz y=>band z λy z=>by rw[e]at z;exact ft z
   have g:=jW.mp aaY r (DE.mpr ⟨hm,z1⟩)
   rw[e]at g
   cases (show d4 x=_ from g).symm.trans hv
   exact dq.call (dq.sub (Oj H hm) λts t e=>gi ((B4 q).symm.trans e) λy e=>e) (iM (B1 hm)).at_
end
def ky.ue{h:Heap}{cv:ay}{q:Str}(x:ky h cv q):h.CodeRec cv q:=by
 obtain⟨c',oc,vs,t,e,e1,_,e3,e4⟩:=x
 exact⟨c',oc,vs,t,e,e1,e3,e4⟩
def aa7:iD.all (λe=>iD.all λe'=>e.2.1 !=e'.2.1||e.2.2==e'.2.2)=true:=by kernel_rfl
def aa8{pos:Pos}{l:List ay}{a b:Int}{c cv:ay}(ht:Dg l):AF pos (l++[jS a,jS b,c])=ab cv->AF pos l=ab cv∨cv=c:=by
 fun_induction Dg l with
 |case1=>
  intro h
  refine ifs (show(if _ then ab c else ae)=ab cv from h) λy e=>.inr e.symm
 |case2 a' t b' u x rest ih=>
  intro h
  by_cases q:(a'==(pos.line:Int)&&b'==(pos.col:Int))=true
  ·exact .inl ((ah q).trans ((ah q).symm.trans h))
  ·exact(ih ht ((ai q).symm.trans h)).imp (λz=>(ai q).trans z) id
 |case3 l h1 h2=>exact ht.elim
section
variable{X:Kx}{s:az}{A:aM}{E:ay->az->Prop}{M:my}{c P:Addr}{q:Str}{env:Env}{pos:Pos}{fl:Nat}{name:Str}{p:xh}{sc:d9}{body:Tr}
def Ot(hm:(c,P,q)∈iD)(ht:kz X.mg s.heap){ps:Array ay}(hP:s.heap.get? P=ab (oD ps))(jC:Dg ps.toList)
  (hq:∀pos cv,AF pos ps.toList=ab cv->ky s.heap cv q) {c' P':Addr} {h':Heap} {tk:Nat} {a b:Int} (hx:Ko P s.heap h') (rJ:s.heap.objs.size<=c') (dp:c'<h'.objs.size) (zg:h'.CodeRec (.ref c') q)
  (kQ:h'.get? P=ab (oD (ps++ #[jS a,jS b,.ref c']))) (zh:h'.TableAt c' P' #[]):Kp X s {s with heap:=h',toks:=tk}/\ky h' (.ref c') q:=by
 have rK:ky h' (.ref c') q:=by
  obtain⟨c₂,oc,vs,t,e,e1,e2,e3⟩:=zg
  cases e
  obtain⟨⟨o,j2,f1,f2,f3,_⟩,_⟩:=zh
  cases e1.symm.trans f1
  exact⟨_,_,vs,t,rfl,e1,f2,e2,e3⟩
 have hc:∀b o,iA o->s.heap.get? b=ab o->h'.get? b=ab o:=λb o cl e=>hx b o (λz=>by cases (z▸e).symm.trans hP;cases cl.1) e
 have hl:(ps++ #[jS a,jS b,ay.ref c']).toList=ps.toList++[jS a,jS b,.ref c']:=TB
 refine⟨⟨λb o nb e=>hx b o (λz=>nb (z▸jq.mp (bA.mp KY _ hm))) e,cE (bI rJ dp),λy=>⟨?_,λe he=>?_⟩,rfl,.refl _,hc⟩,rK⟩
 ·obtain⟨bm,ob,e1,e2,E5,e3,e4,e5,e6⟩:=ht.1
  exact⟨bm,ob,e1,e2,E5,hx _ _ (λz=>by cases (z▸e3).symm.trans hP;cases e4) e3,e4,e5,e6⟩
 ·obtain⟨a1,ps1,p1,p2,p3⟩:=ht.2 e he
  refine⟨AE.Bm a1 hc,?_⟩
  by_cases z:e.2.1=P
  ·have eq:e.2.2=q:=bor (bA.mp (bA.mp aa7 e he) _ hm) (λw=>by rw[z]at w;exact ft ((bne_self_eq_false P).symm.trans w)) ao
   rw[z]at p1 ⊢
   cases p1.symm.trans hP
   refine⟨_,kQ,?_,λpos cv mH=>?_⟩
   ·rw[hl];exact TriplesOk_snoc _ _ _ _ jC
   ·rw[hl]at mH
    rw[eq]
    exact(aa8 jC mH).elim (λz=>(hq pos cv z).keep hc) λz=>z▸rK
  ·exact⟨ps1,hx _ _ z p1,p2,λpos cv mH=>(p3 pos cv mH).keep hc⟩
def aba(hm:(c,P,q)∈iD)(ht:kz X.mg s.heap)(hc:env.code=.ref c):aA M A (functionCode env pos fl name q p sc body) (λcv s'=>Kp X s s'/\ky s'.heap cv q) E s:=by
 obtain⟨hd,ps,hP,jC,hq⟩:=ht.2 _ hm
 cases e:AF pos ps.toList with
 |some cv=>exact wpAny_functionCode_hit hc (hd.code hP jC) e ⟨.refl s,hq _ _ e⟩
 |none=>
  refine wpAny_functionCodeX hc (hd.code hP jC) (hd.tab hP) e λc' h' tk hx rJ dp z zg kQ FY=>?_
  obtain⟨P',_,_,zh⟩:=FY
  exact Ot hm ht hP jC hq hx rJ dp zg kQ.2 zh
def abb(hm:(c,P,q)∈iD)(ht:kz X.mg s.heap)(hc:env.code=.ref c):aA M A (genexprCode env pos q sc) (λcv s'=>Kp X s s'/\ky s'.heap cv q) E s:=by
 obtain⟨hd,ps,hP,jC,hq⟩:=ht.2 _ hm
 cases e:AF pos ps.toList with
 |some cv=>exact wpAny_codeAt_hit hc (hd.code hP jC) e ⟨.refl s,hq _ _ e⟩
 |none=>
  refine wpAny_genexprCodeX hc (hd.code hP jC) (hd.tab hP) e λc' h' tk hx rJ dp z zg kQ FY=>?_
  obtain⟨P',_,_,zh⟩:=FY
  exact Ot hm ht hP jC hq hx rJ dp zg kQ.2 zh
noncomputable def Ou:Tr->Bool
 |.stmts b=>(docOf b).isNone
 |.expr _=>true
def FZ(hm:(c,P,q)∈iD)(wd:Wd X s.heap)(hc:env.code=.ref c)(hg:env.globals=gJ){kA:List (Str×Addr)}(ka:oH sc env=pure kA)(pR:Ou body=true){Q:ay->az->Prop}
  (h:∀s' fa cv ct,Kp X s s'->s.heap.objs.size<=fa->s'.heap.get? fa=ab {cls:=.type "function",data:=.func (qJ X.mg name q p body sc kA cv ct)}->ky s'.heap cv q->Q (.ref fa) s'):
  aA M A (makeFunction name q p body sc env [] [] [] pos fl) Q E s:=by
 rw[makeFunction_eq]
 simp only[List.zip_nil_right,List.filterMap_nil,Kt,if_true,pure_bind]
 unfold makeTail
 rw[ka,hg]
 refine aG (aQ ?_)
 have mid:∀(aB:az)(F7:ay)(K:ay->Addr->Option ay->Sem ay),Kp X s aB->
   (∀cv,K cv jm (X.mg "__name__")=newObj (.type "function") (.func (qJ X.mg name q p body sc kA cv F7)))->
   aA M A (functionCode env pos fl name q p sc body>>=λcv=>builtinsFor gJ env.builtins>>=λbi=>nsGet gJ "__name__">>=λnm=>K cv bi nm) Q E aB:=by
  intro aB F7 K k₁ hK
  have B5:=wd.kp k₁
  refine aG (mo (aba hm B5.tabs hc) λcv s₂ z=>?_)
  have F8:=B5.kp z.1
  obtain⟨bm,ob,F9,Ga,_,Gb,Ge,Gf,Gg⟩:=F8.tabs.1
  refine aG (anZ F8.g F9 Ga Gb Ge Gf Gg (aG (wpAny_nsGet F8.g ?_)))
  rw[hK]
  exact sR (h _ s₂.heap.objs.size cv F7 ((k₁.trans z.1).trans Kp.push) (aD k₁.size z.1.size) (cB _ rfl) (z.2.keep λb o y e=>cS _ e)) (by size_fits)
 cases body with
 |expr e=>
  cases kA with
  |nil=>
   simp only[Kt,if_true]
   exact aG (aQ (mid s _ _ (.refl s) λcv=>rfl))
  |cons a r=>
   simp only[an0,pA,if_false]
   exact aG (an1 (mid _ _ _ Kp.push λcv=>rfl))
 |stmts b=>
  have hd:docOf b=ae:=Option.isNone_iff_eq_none.mp pR
  dsimp only
  rw[hd]
  cases kA with
  |nil=>
   simp only[Kt,if_true]
   exact aG (aQ (mid s _ _ (.refl s) λcv=>rfl))
  |cons a r=>
   simp only[an0,pA,if_false]
   exact aG (an1 (mid _ _ _ Kp.push λcv=>rfl))
end
end Mine
section
open PySem PySem.Spec PySem.W PyProof.Rows PySem.Builtin PySem.Builtin.ObjectAttr
namespace Mine
def Ov{m nm:Str}{t:Tok}{hs hh:Int}{tk:Tok}{u v:ay}{es:List jj}(q:m≠nm):putL nm hs (.str nm tk) v (⟨hh,.str m t,u⟩::es)=⟨hh,.str m t,u⟩::putL nm hs (.str nm tk) v es:=by
 rw[putL];exact ai λz=>q (ao z)
def rL{nm:Str}{hs:Int}{tk:Tok}{v:ay}{ns:List Str}{vs:List ay}{es:List jj}(h:gf ns vs es):
  (nm∉ns->gf (ns++[nm]) (vs++[v]) (putL nm hs (.str nm tk) v es))/\(∀i:Nat,ns.Nodup->ns[i]?=ab nm->gf ns (vs.set i v) (putL nm hs (.str nm tk) v es)):=by
 induction h with
 |nil=>exact⟨λz=>.cons .nil,λi z h=>aN h⟩
 |cons r ih=>
  refine⟨λh=>?_,λi nd h=>?_⟩
  ·rw[Ov λe=>h (by rw[e];exact bk)]
   exact .cons (ih.1 λq=>h (bS _ q))
  ·have cT:=hH.mp nd
   cases i with
   |zero=>
    cases h
    rw[putL,ah (show UG (.str nm _) nm=true from ax nm)]
    exact .cons r
   |succ i=>
    rw[Ov λe=>cT.1 (by rw[e];exact dZ h),List.set_cons_succ]
    exact .cons (ih.2 i cT.2 h)
def Ox{nm:Str}{ns:List Str}{vs:List ay}{es:List jj}(h:gf ns vs es)(nd:ns.Nodup):(getL nm es).isSome=true:=by
 by_cases q:nm∈ns
 ·obtain⟨i,hi⟩:=sY.mp q
  rw[(t9 h).2 i nd hi];rfl
 ·rw[(t9 h).1 q];rfl
def abc(name:Str)(hs:Int)(key v:ay){es:List jj}:(putL name hs key v es).length<=es.length+1:=by
 induction es with
 |nil=>exact bj _
 |cons e r ih=>
  rw[putL]
  by_cases q:e.key.isStr name=true
  ·rw[ah q];exact gy _
  ·rw[ai q];exact cX ih
section
variable{prog:gK}{w:gZ}{A:aM}{E:ay->az->Prop}{s:az}{K:Frag}{x C dx:Addr}
def Gh{nm:Str}{tk:Tok}{v:ay}{es:List jj}{n:Nat}{Q:Fin->az->Prop}(D:s.heap.get? dx=ab (lP es n))(hl:(getL nm es).isSome=true)(hz:es.length<=900)
  (h:∀h' iJ n',iJ=putL nm (qe w.params nm) (.str nm s.toks) v es->h'.get? dx=ab (lP iJ n')->sZ dx s.heap h'->Q (.done (.ret .none)) {s with heap:=h',toks:=s.toks+1}):
  aA (model prog w) A (storeInDict dx (.str nm tk) nm v) Q E s:=by
 unfold storeInDict newKeyGuard
 refine aG (aQ (aG ?_))
 unfold nsSet
 refine aG (aG (amS (aQ (aG (UM (aG (xR D ?_)))))))
 have c:(!es.any (·.key.isStr nm)&&es.any (·.refKey))=false:=by
  cases he:es.find? (·.key.isStr nm)with
  |some en=>rw[xi.mpr ⟨en,UK he,UL he⟩];rfl
  |none=>
   have hl:(if es.any (·.refKey)=true then(ae:Option (Option ay))else ab ae).isSome=true:=by
    unfold getL at hl;rw[he]at hl;exact hl
   by_cases z:es.any (·.refKey)=true
   ·rw[ah z]at hl;cases hl
   ·rw[J1]at z;rw[z,UN]
 have D':(s.heap.update dx (Obj.putName nm (qe w.params nm) (.str nm s.toks) v)).get? dx=ab (lP (putL nm (qe w.params nm) (.str nm s.toks) v es) (putN nm es n)):=by
  rw[<-putName_dict]
  exact xO _ D (by rw[putName_dict];rfl)
 dsimp only
 rw[aRefKeyMayBeTheName_at,show(!es.toArray.any (·.key.isStr nm)&&es.toArray.any (·.refKey))=false by rw[<-an3,<-an3];exact c]
 refine wpAny_updatePart D ?_
 refine aG (wpAny_lookBehind D' (pastItsLine_dict (by rw[bU,Uw];exact aD (abc nm (qe w.params nm) (.str nm s.toks) v) (aD (cX hz) (by decide)))) ?_)
 exact aQ (h _ _ _ rfl D' (qC ..))
def abd{ox:Obj}{nm:Str}{v:ay}{es:List jj}{n:Nat}{Q:Unit->az->Prop}(X:K.In s.heap)(I:InstAt s.heap x ox C (ab (lP es n)))(hd:ox.dict=ab dx)
  (hs:dQ K (.ref C) "__setattr__"=ab (ab (.builtin "object.__setattr__"))) (hp:Ku K C=true) (ht:Kv K C nm=ab ae) (hh:xQ K C=true) (hl:(getL nm es).isSome=true) (hz:es.length<=900)
  (h:∀h' iJ n',iJ=putL nm (qe w.params nm) (.str nm (s.toks+1)) v es->h'.get? dx=ab (lP iJ n')->sZ dx s.heap h'->Q () {s with heap:=h',toks:=s.toks+2}):
  aA (model prog w) A (DP (.ref x) nm v) Q E s:=by
 refine set_plain X I hs (osa_open (s:={s with toks:=s.toks+1}) X I hp ht λb=>?_)
 obtain⟨cd,hc,oV⟩:=any_some hh
 have I':=I
 obtain⟨hx,ka,hn,hdi⟩:=I
 obtain⟨oc,odi,oda,osl⟩:=ox
 dsimp only at ka hd
 subst ka hd
 refine aG (aQ (aG (aG (xR hx (aG (tu (s:={s with toks:=s.toks+1}) (looks_clsIn X hc) ?_))))))
 rw[oV]
 refine aQ (a:=ab dx) ?_
 exact Gh (s:={s with toks:=s.toks+1}) (tk:=s.toks) hdi hl hz λh' iJ n' e1 e2 e3=>h h' iJ n' e1 e2 e3
def abg:dQ [] (.type "function") "__setattr__"=ab (ab (.builtin "object.__setattr__")):=by decide+kernel
def abh:mroOf (.type "function")=pure [.type "function",.type "object"]:=by kernel_rfl
def Oy:Ky (.type "function") (.type "object")=pure true:=by rw[mF];kernel_rfl
def abi(self:ay):refuseLoop self "__setattr__" [.type "function",.type "object"]=pure ():=by kernel_rfl
def abj:typeHasDict (.type "function")=true:=by decide+kernel
def abk:finalisedInACycleAlone "function"=false:=by decide+kernel
def Oz{nm:Str}{v:ay}{f:Addr}{fo:Obj}{Q:Unit->az->Prop}(hf:s.heap.get? f=ab fo)(hc:fo.cls=.type "function")(hn:dQ [] (.type "function") nm=ab ae)
  (h:aA (model prog w) A.in1 (ownDictForStores (.ref f)>>=λd=>match d with|some d=>storeInDict d (.str nm s.toks) nm v|none=>noDictFor (.ref f) (.type "function") nm false)
   (λfin s'=>fin=.done (.ret .none)/\Q () s') E {s with toks:=s.toks+1}):
  aA (model prog w) A (DP (.ref f) nm v) Q E s:=by
 have K0:DQ ([]:Frag) s.heap:=λa o e=>by cases e
 have T:qE (model prog w) s.heap (typeOf (.ref f)) (.type "function"):=by
  have:=(UO (M:=model prog w) (part:=ae) hf).andThen (f:=λo=>pure o.cls) UP
  rw[hc]at this;exact this
 refine aG (UM (aG (aG (aG (T _ _ _ _ (λy y e=>e) (vf K0 abg _ _ _ _ (λy y e=>e) (dN ?_)))))))
 rw[an4.slot.bind]
 refine aG (aQ (aG (pB ?_)))
 have SF:=an4
 have sub:qE (model prog w) s.heap (Kz (.ref f) (.type "object")) true:=T.andThen (DR Oy)
 refine xS SF.slot.plain SF.entry (@check_slot (model prog w) _ _ {s with toks:=s.toks+1} "object.__setattr__" "object" "__setattr__" (.ref f) [.str nm s.toks,v] [] _ SF.kind SF.split sub (SF.args (.ref f) (.str nm s.toks) v) ?_)
 rw[show([ay.ref f]++[ay.str nm s.toks,v]:List ay)=[.ref f,.str nm s.toks,v]from rfl,osa_eq,refuse_eq]
 have hm:qE (model prog w) s.heap (mroOf (.type "function")) [.type "function",.type "object"]:=DR abh
 refine aG (aG (tu (s:={s with toks:=s.toks+1}) T (aG (tu (s:={s with toks:=s.toks+1}) hm ?_))))
 rw[abi]
 refine aQ (aG (tu (s:={s with toks:=s.toks+1}) T (aG (tu (s:={s with toks:=s.toks+1}) (vf K0 hn) ?_))))
 refine aG (aQ ?_)
 show aA _ _ (storeInOwnDict (.ref f) (.type "function") (.str nm s.toks) nm v false) _ _ _
 unfold storeInOwnDict
 refine aG (aQ ?_)
 rw[ai (by decide)]
 refine eF h (λfin s' z=>?_) λy y z=>z
 obtain⟨rfl,q⟩:=z
 exact aQ (aQ q)
def abl{nm:Str}{v:ay}{f:Addr}{da:Data}{sl:Array (Option ay)}{Q:Unit->az->Prop}(hf:s.heap.get? f=ab ⟨.type "function",ae,da,sl⟩)(zi:∀c,da≠.cls c)(i5:(⟨.type "function",ab s.heap.objs.size,da,sl⟩:Obj).isFreed=false)(hn:dQ [] (.type "function") nm=ab ae)
  (h:∀h' n tk,h'.get? s.heap.objs.size=ab (lP [⟨qe w.params nm,.str nm tk,v⟩] n)->h'.get? f=ab ⟨.type "function",ab s.heap.objs.size,da,sl⟩->h'.objs.size=s.heap.objs.size+1->(∀b o,b≠f->s.heap.get? b=ab o->h'.get? b=ab o)->Q () {s with heap:=h',toks:=s.toks+2}):
  aA (model prog w) A (DP (.ref f) nm v) Q E s:=by
 refine Oz hf rfl hn ?_
 have hfs:f<s.heap.objs.size:=xj hf
 have i6:(s.heap.push {cls:=.type "dict",data:=.dict #[]}).get? f=ab ⟨.type "function",ae,da,sl⟩:=cS _ hf
 have OA:s.heap.objs.size≠f:=iS hfs
 have hdd:((s.heap.push {cls:=.type "dict",data:=.dict #[]}).update f λo=>{cls:=o.cls,dict:=ab s.heap.objs.size,data:=o.data,slots:=o.slots}).get? s.heap.objs.size=ab (lP [] 0):=
  (an6 _ _ _ _ OA).trans (cB _ rfl)
 have hff:((s.heap.push {cls:=.type "dict",data:=.dict #[]}).update f λo=>{cls:=o.cls,dict:=ab s.heap.objs.size,data:=o.data,slots:=o.slots}).get? f=ab ⟨.type "function",ab s.heap.objs.size,da,sl⟩:=
  xO _ i6 i5
 refine aG (?_:aA _ _ (A6 f true) _ _ _)
 unfold A6
 refine aG (xR hf ?_)
 dsimp only
 rw[ai (by rw[abj];decide)]
 have go:aA (model prog w) A.in1 (do
   let d <-alloc {cls:=.type "dict",data:=.dict #[]}
   update f λo=>{o with dict:=ab d}
   UQ (.type "function") f d) (λd s'=>aA (model prog w) A.in1 (match d with|some d=>storeInDict d (.str nm s.toks) nm v|none=>noDictFor (.ref f) (.type "function") nm false)
   (λfin s'=>fin=.done (.ret .none)/\Q () s') E s') E {s with toks:=s.toks+1}:=by
  refine aG (wpAny_alloc' ?_)
  refine aG (wpAny_update' i6 ?_)
  show aA _ _ (UQ (.type "function") f s.heap.objs.size) _ _ _
  unfold UQ
  dsimp only
  rw[abk]
  refine aQ ?_
  refine Gh (s:={s with heap:=(s.heap.push {cls:=.type "dict",data:=.dict #[]}).update f λo=>{cls:=o.cls,dict:=ab s.heap.objs.size,data:=o.data,slots:=o.slots},toks:=s.toks+1}) (tk:=s.toks) hdd rfl (by simp) λh' iJ n' e1 e2 e3=>⟨rfl,?_⟩
  rw[e1]at e2
  refine h h' n' (s.toks+1) e2 ((e3.2 f OA.symm).trans hff) ?_ λb o hb e=>?_
  ·rw[e3.1];simp only[xA,fk]
  ·rw[e3.2 b (cW (xj e))]
   exact(an6 _ _ _ _ hb).trans (cS _ e)
 cases da<;>first|exact go|exact aj rfl (zi _)
def abp{nm:Str}{v:ay}{f:Addr}{da:Data}{sl:Array (Option ay)}{es:List jj}{n:Nat}{Q:Unit->az->Prop}(hf:s.heap.get? f=ab ⟨.type "function",ab dx,da,sl⟩)(hd:s.heap.get? dx=ab (lP es n))(hn:dQ [] (.type "function") nm=ab ae)
  (hl:(getL nm es).isSome=true) (hz:es.length<=900)
  (h:∀h' iJ n' tk,iJ=putL nm (qe w.params nm) (.str nm tk) v es->h'.get? dx=ab (lP iJ n')->sZ dx s.heap h'->Q () {s with heap:=h',toks:=s.toks+2}):
  aA (model prog w) A (DP (.ref f) nm v) Q E s:=by
 refine Oz hf rfl hn ?_
 refine aG (?_:aA _ _ (A6 f true) _ _ _)
 unfold A6
 refine aG (xR hf ?_)
 refine aQ ?_
 exact Gh (s:={s with toks:=s.toks+1}) (tk:=s.toks) hd hl hz λh' iJ n' e1 e2 e3=>⟨rfl,h h' iJ n' _ e1 e2 e3⟩
end
end Mine
end
namespace Mine
noncomputable def zj:S:=(.seq (.own 1 (.lst (.cons (.lit (.int 77)) (.cons (.lit (.int 41218)) (.cons (.lit (.int 13)) (.cons (.lit (.int 46)) .nil)))))) (.seq (.lT [2,3] (.cY false (.var 0) .absent (.lit (.int 60))) (.seq (.oS 1 (.bin .mod (.var 2) (.lit (.int 4))) .add (.bin .mod (.var 3) (.bin .pow (.lit (.int 10)) (.lit (.int 6))))) .skip)) (.gh [1] (.seq (.fP [4,5,6] [ab (.bin .add (.lit (.int 128)) (.bin .mod (.idx (.var 1) (.lit (.int 0))) (.lit (.int 128)))),ab (.bin .mod (.idx (.var 1) (.lit (.int 3))) (.lit (.int 4))),ab (.bin .add (.bin .add (.lit (.int 3)) (.bin .mod (.bin .fdiv (.idx (.var 1) (.lit (.int 3))) (.lit (.int 4))) (.lit (.int 5)))) (.ite (.cmp .eq (.bin .mod (.bin .fdiv (.idx (.var 1) (.lit (.int 3))) (.lit (.int 20))) (.lit (.int 16))) (.lit (.int 15))) (.lit (.int 4100)) (.lit (.int 0))))]) (.seq (.fP [7,8] [ab (.bin .sub (.bin .mod (.idx (.var 1) (.lit (.int 1))) (.lit (.int 41))) (.lit (.int 20))),ab (.bin .sub (.bin .mod (.bin .fdiv (.idx (.var 1) (.lit (.int 1))) (.lit (.int 41))) (.lit (.int 2001))) (.lit (.int 1000)))]) (.seq (.fP [9,10,11] [ab (.bin .add (.lit (.int 1)) (.bin .mod (.idx (.var 1) (.lit (.int 2))) (.lit (.int 4)))),ab (.bin .sub (.lit (.int 1)) (.bin .mul (.lit (.int 2)) (.bin .mod (.bin .fdiv (.idx (.var 1) (.lit (.int 2))) (.lit (.int 4))) (.lit (.int 2))))),ab (.cmp .eq (.bin .mod (.bin .fdiv (.idx (.var 1) (.lit (.int 2))) (.lit (.int 8))) (.lit (.int 2))) (.lit (.int 1)))]) (.seq (.asg 12 (.call 2 (.cons (.var 4) (.cons (.lit (.int 1)) .nil)))) (.seq (.asg 13 (.sm .join (.lit (.str (s_ ""))) (.cons (.comp 55 (.idx (.lit (.str (s_ "ur"))) (.var 55)) (.var 12) (.lit (.bool true))) .nil))) (.seq (.asg 14 (.call 6 (.cons (.sm .join (.lit (.str (s_ ""))) (.cons (.comp 56 (.ite (.ju (.cmp .eq (.idx (.var 13) (.var 56)) (.lit (.str (s_ "u")))) (.bin .band (.bin .shr (.idx (.var 1) (.lit (.int 3))) (.var 56)) (.lit (.int 1)))) (.sm .upper (.idx (.var 13) (.var 56)) .nil) (.idx (.var 13) (.var 56))) (.hY (.lit (.int 8))) (.lit (.bool true))) .nil)) (.cons (.lit (.str (s_ "r"))) .nil)))) (.seq (.asg 15 (.sm .join (.lit (.str (s_ ""))) (.cons (.comp 57 (.ite (.cmp .eq (.cY false (.bin .add (.lit (.str (s_ "r"))) (.var 13)) (.var 57) (.bin .add (.var 57) (.lit (.int 2)))) (.lit (.str (s_ "ru")))) (.lit (.str (s_ "U"))) (.idx (.var 13) (.var 57))) (.hY (.lit (.int 8))) (.lit (.bool true))) .nil))) (.seq (.own 16 (.lst (.cons (.tup (.cons (.var 12) (.cons (.comp 58 (.bin .band (.bin .shr (.var 4) (.var 58)) (.lit (.int 1))) (.hY (.lit (.int 8))) (.lit (.bool true))) .nil))) (.cons (.tup (.cons (.call 3 (.cons (.var 12) (.cons (.lit (.int 1)) .nil))) (.cons (.var 4) .nil))) (.cons (.tup (.cons (.var 14) (.cons (.var 15) .nil))) .nil))))) (.seq (.fP [17,18] [ab (.call 8 (.cons (.var 9) (.cons (.var 11) (.cons (.bin .fdiv (.idx (.var 1) (.lit (.int 2))) (.lit (.int 16))) .nil)))),ab (.call 8 (.cons (.var 9) (.cons (.mM (.var 11)) (.cons (.lit (.int 0)) .nil))))]) (.seq (.fP [19,20,21] [ab (.prim .list1 (.cons (.attr (.var 17) 10) .nil)),ab (.prim .list1 (.cons (.attr (.var 18) 10) .nil)),ab (.call 7 (.cons (.var 17) (.cons (.var 18) .nil)))]) (.seq (.fC [22,23,24,25] (.call 13 (.cons (.var 21) (.cons (.var 13) (.cons (.var 9) .nil))))) (.seq (.ext 16 (.lst (.cons (.tup (.cons (.call 11 (.cons (.var 13) (.cons (.var 9) (.cons (.var 8) .nil)))) (.cons (.tup (.cons (.var 22) (.cons (.var 23) (.cons (.prim .qQ (.cons (.var 24) .nil)) (.cons (.var 8) .nil))))) .nil))) (.cons (.tup (.cons (.cY false (.var 24) .absent (.lit (.int 1))) (.cons (.cY false (.call 9 (.cons (.var 13) (.cons (.var 9) .nil))) (.neg (.lit (.int 1))) .absent) .nil))) .nil)))) (.seq (.app 16 (.tup (.cons (.lst (.cons (.attr (.var 17) 10) (.cons (.attr (.var 18) 10) (.cons (.attr (.var 21) 10) .nil)))) (.cons (.lst (.cons (.var 19) (.cons (.var 20) (.cons (.comp 59 (.var 59) (.var 19) (.oR (.var 59) (.var 20))) .nil)))) .nil)))) (.seq (.app 16 (.tup (.cons (.comp 61 (.attr (.var 61) 100) (.attr (.var 21) 11) (.lit (.bool true))) (.cons (.comp 60 (.attr (.var 60) 100) (.bin .add (.attr (.var 17) 11) (.attr (.var 18) 11)) (.lit (.bool true))) .nil)))) (.seq (.app 16 (.tup (.cons (.prim .repr (.cons (.bin .add (.var 25) (.lst (.cons (.attr (.var 21) 12) (.cons (.attr (.var 21) 13) (.cons (.prim .len (.cons (.attr (.var 17) 11) .nil)) (.cons (.prim .len (.cons (.attr (.var 18) 11) .nil)) .nil)))))) .nil)) (.cons (.prim .repr (.cons (.bin .add (.bin .add (.bin .mul (.lst (.cons (.lit (.bool true)) .nil)) (.prim .len (.cons (.var 24) .nil))) (.lst (.cons (.lit (.bool false)) (.cons (.var 9) (.cons (.ite (.var 11) (.lit (.str (s_ "U"))) (.lit (.str (s_ "R")))) .nil))))) (.bin .mul (.lst (.cons (.bin .pow (.lit (.int 2)) (.bin .sub (.var 9) (.lit (.int 1)))) .nil)) (.lit (.int 2)))) .nil)) .nil)))) (.seq (.fP [26,27] [ab (.comp 62 (.call 5 (.cons (.bin .mul (.var 10) (.bin .add (.var 7) (.var 62))) (.cons (.bin .mul (.var 10) (.var 9)) .nil))) (.hY (.lit (.int 8))) (.lit (.bool true))),ab (.lit (.str (s_ "")))]) (.seq (.hZ [28,29] (.var 26) (.seq (.asg 30 (.yn (.j0 [63,64] (.idx (.var 13) (.bin .sub (.bin .add (.bin .mul (.var 63) (.var 9)) (.bin .mul (.var 10) (.var 64))) (.var 7))) (.var 26) (.cmp .eq (.var 64) (.var 29))))) (.seq (.aug 27 .add (.idx (.var 30) (.bin .sub (.var 28) (.prim .min1 (.cons (.j0 [65,66] (.var 65) (.var 26) (.cmp .eq (.var 66) (.var 29))) .nil))))) .skip))) (.seq (.nest [.one 31,.many [32,33]] (.tup (.cons (.bin .sub (.bin .pow (.lit (.int 2)) (.bin .mul (.var 6) (.var 9))) (.lit (.int 1))) (.cons (.comp 67 (.call 3 (.cons (.comp 68 (.ite (.cmp .eq (.var 68) (.lit (.str (s_ "r")))) (.lit (.int 1)) (.lit (.int 0))) (.var 67) (.lit (.bool true))) (.cons (.var 6) .nil))) (.lst (.cons (.var 13) (.cons (.var 22) .nil))) (.lit (.bool true))) .nil)))) (.seq (.nest [.one 34,.many [35,36],.one 37] (.tup (.cons (.bin .fdiv (.var 31) (.bin .add (.var 5) (.lit (.int 2)))) (.cons (.call 5 (.cons (.bin .mul (.var 10) (.bin .sub (.var 33) (.var 32))) (.cons (.bin .mul (.var 10) (.var 31)) .nil))) (.cons (.comp 69 (.sm .yl (.var 24) (.cons (.var 69) .nil)) (.hY (.bin .add (.prim .qP (.cons (.bin .add (.var 24) (.lst (.cons (.neg (.lit (.int 1))) .nil))) .nil)) (.lit (.int 1)))) (.lit (.bool true))) .nil))))) (.seq (.ext 16 (.lst (.cons (.tup (.cons (.var 22) (.cons (.var 27) .nil))) (.cons (.tup (.cons (.var 36) (.cons (.lit (.int 0)) .nil))) (.cons (.tup (.cons (.call 2 (.cons (.var 35) (.cons (.var 6) .nil))) (.cons (.var 37) .nil))) .nil))))) (.seq (.ext 16 (.lst (.cons (.tup (.cons (.call 5 (.cons (.bin .mul (.var 10) (.bin .add (.bin .sub (.var 33) (.var 32)) (.var 34))) (.cons (.bin .mul (.var 10) (.var 31)) .nil))) (.cons (.tup (.cons (.var 35) (.cons (.bin .mul (.var 10) (.var 34)) .nil))) .nil))) (.cons (.tup (.cons (.call 5 (.cons (.bin .mul (.neg (.var 10)) (.bin .add (.bin .sub (.var 33) (.var 32)) (.var 34))) (.cons (.bin .mul (.var 10) (.var 31)) .nil))) (.cons (.tup (.cons (.bin .sub (.neg (.lit (.int 1))) (.var 35)) (.cons (.bin .mul (.var 10) (.bin .sub (.var 31) (.var 34))) .nil))) .nil))) .nil)))) (.seq (.fP [38,39] [ab (.comp 70 (.sm .count (.cY false (.var 13) .absent (.var 70)) (.cons (.lit (.str (s_ "r"))) .nil)) (.hY (.lit (.int 8))) (.cmp .eq (.idx (.var 13) (.var 70)) (.lit (.str (s_ "u"))))),ae]) (.seq (.asg 40 (.ym 71 72 (.bin .add (.bin .sub (.idx (.var 38) (.var 71)) (.var 72)) (.prim .len (.cons (.comp 73 (.var 73) (.hY (.var 71)) (.cmp .gt (.idx (.var 38) (.var 73)) (.var 72))) .nil))) (.hY (.prim .len (.cons (.var 38) .nil))) (.hY (.idx (.var 38) (.var 71))))) (.seq (.asg 41 (.call 15 (.cons (.bin .add (.bin .add (.sm .join (.lit (.str (s_ ""))) (.cons (.comp 74 (.bin .add (.bin .mul (.lit (.str (s_ " "))) (.bin .sub (.var 74) (.lit (.int 1)))) (.lit (.str (s_ "\t")))) (.var 40) (.lit (.bool true))) .nil)) (.bin .mul (.lit (.str (s_ " "))) (.var 5))) (.lit (.str (s_ "x \t")))) .nil))) (.seq (.asg 42 (.call 15 (.cons (.bin .add (.bin .add (.sm .join (.lit (.str (s_ ""))) (.cons (.comp 75 (.bin .add (.bin .mul (.lit (.str (s_ " "))) (.var 75)) (.lit (.str (s_ "\t")))) (.cY true (.var 40) .absent .absent) (.lit (.bool true))) .nil)) (.bin .mul (.lit (.str (s_ " "))) (.var 5))) (.lit (.str (s_ "\n \t")))) .nil))) (.seq (.fP [43,44] [ab (.call 15 (.cons (.bin .add (.cY false (.attr (.var 42) 0) .absent (.attr (.var 42) 1)) (.lit (.str (s_ " ")))) .nil)),ab (.call 15 (.cons (.cY true (.cY false (.attr (.var 42) 0) .absent (.attr (.var 42) 1)) .absent .absent) .nil))]) (.seq (.eV 45 (.mN (.lit (.int 1)) (.bin .add (.prim .qP (.cons (.bin .add (.var 40) (.lst (.cons (.bin .add (.var 5) (.lit (.int 1))) .nil))) .nil)) (.lit (.int 2)))) (.seq (.asg 46 (.lit (.int 0))) (.seq (.eV 47 (.var 40) (.seq (.aug 46 .add (.bin .sub (.var 47) (.lit (.int 1)))) (.seq (.aug 46 .add (.bin .sub (.var 45) (.bin .mod (.var 46) (.var 45)))) .skip))) (.seq (.app 39 (.tup (.cons (.var 45) (.cons (.bin .add (.var 46) (.var 5)) (.cons (.bin .add (.bin .add (.var 46) (.var 5)) (.bin .mul (.var 45) (.prim .len (.cons (.idx (.call 11 (.cons (.var 13) (.cons (.var 45) (.cons (.lit (.int 0)) .nil)))) (.lit (.int 2))) .nil)))) .nil))))) .skip)))) (.gh [39] (.seq (.asg 48 (.comp 76 (.var 76) (.var 39) (.cmp .ne (.idx (.var 76) (.lit (.int 1))) (.idx (.var 76) (.lit (.int 2)))))) (.seq (.app 16 (.tup (.cons (.lst (.cons (.bE 23 (.var 41) (.cons (.var 42) .nil)) (.cons (.bE 25 (.var 41) (.cons (.var 42) .nil)) .nil))) (.cons (.lst (.cons (.var 48) (.cons (.comp 77 (.var 77) (.var 39) (.ju (.cmp .eq (.idx (.var 77) (.lit (.int 1))) (.idx (.var 77) (.lit (.int 2)))) (.cmp .lt (.idx (.var 77) (.lit (.int 0))) (.bin .add (.prim .qP (.cons (.bin .add (.var 40) (.lst (.cons (.var 5) .nil))) .nil)) (.lit (.int 2)))))) .nil))) .nil)))) (.seq (.asg 49 (.lst (.cons (.bE 23 (.var 41) (.cons (.var 43) .nil)) (.cons (.bE 23 (.var 43) (.cons (.var 41) .nil)) (.cons (.bE 25 (.var 43) (.cons (.var 41) .nil)) .nil))))) (.seq (.app 16 (.tup (.cons (.var 49) (.cons (.bin .add (.lst (.cons (.j0 [78,79,80] (.tup (.cons (.var 78) (.cons (.var 79) (.cons (.bin .add (.var 80) (.lit (.int 1))) .nil)))) (.var 39) (.lit (.bool true))) .nil)) (.bin .mul (.lst (.cons (.j0 [81,82,83] (.tup (.cons (.var 81) (.cons (.bin .add (.var 83) (.lit (.int 1))) (.cons (.var 82) .nil)))) (.var 39) (.lit (.bool true))) .nil)) (.lit (.int 2)))) .nil)))) (.seq (.app 16 (.tup (.cons (.call 14 (.cons (.var 48) .nil)) (.cons (.bin .add (.bin .add (.bin .add (.lit (.str (s_ "at tab size"))) (.bin .mul (.lit (.str (s_ "s"))) (.prim .len (.cons (.cY false (.var 48) (.lit (.int 1)) (.lit (.int 2))) .nil)))) (.lit (.str (s_ " ")))) (.sm .join (.lit (.str (s_ ", "))) (.cons (.comp 84 (.prim .str1 (.cons (.idx (.var 84) (.lit (.int 0))) .nil)) (.var 48) (.lit (.bool true))) .nil))) .nil)))) (.seq (.fP [49,50,51] [ab (.lst (.cons (.bE 22 (.var 41) (.cons (.var 42) .nil)) (.cons (.bE 22 (.var 42) (.cons (.var 44) .nil)) (.cons (.bE 24 (.var 41) (.cons (.var 42) .nil)) (.cons (.bE 24 (.var 42) (.cons (.var 41) .nil)) (.cons (.bE 24 (.var 41) (.cons (.var 43) .nil)) .nil)))))),ab (.var 23),ab (.lit (.int 1))]) (.seq (.app 16 (.tup (.cons (.prim .repr (.cons (.var 49) .nil)) (.cons (.prim .repr (.cons (.lst (.cons (.cmp .eq (.var 40) (.lst .nil)) (.cons (.oR (.cY false (.var 40) (.neg (.lit (.int 1))) .absent) (.lst (.cons (.lst .nil) (.cons (.lst (.cons (.var 5) .nil)) .nil)))) (.cons (.lit (.bool false)) (.cons (.lit (.bool false)) (.cons (.lit (.bool true)) .nil)))))) .nil)) .nil)))) (.seq (.eV 2 (.hY (.prim .len (.cons (.var 24) .nil))) (.seq (.aug 50 .mul (.bin .add (.var 2) (.lit (.int 1)))) .skip)) (.seq (.lT [47,52] (.idx (.attr (.var 42) 3) (.lit (.int 0))) (.seq (.aug 51 .mul (.ite (.cmp .eq (.bin .mod (.var 47) (.var 9)) (.lit (.int 0))) (.bin .pow (.bin .fdiv (.var 47) (.var 9)) (.var 52)) (.lit (.int 1)))) .skip)) (.seq (.fC [53,54] (.call 5 (.cons (.var 50) (.cons (.var 51) .nil)))) (.seq (.ext 16 (.lst (.cons (.tup (.cons (.var 54) (.cons (.lit (.int 0)) .nil))) (.cons (.tup (.cons (.call 12 (.cons (.var 13) (.cons (.var 9) (.cons (.prim .len (.cons (.var 24) .nil)) .nil)))) (.cons (.jZ (.var 22) (.var 53)) .nil))) (.cons (.tup (.cons (.sm .count (.cY false (.var 14) (.sm .find (.var 14) (.cons (.lit (.str (s_ "r"))) .nil)) .absent) (.cons (.lit (.str (s_ "U"))) .nil)) (.cons (.idx (.bin .add (.prim .list1 (.cons (.idx (.attr (.var 42) 3) (.lit (.int 0))) .nil)) (.lst (.cons (.lit (.int 0)) (.cons (.lit (.int 0)) .nil)))) (.lit (.int 1))) .nil))) .nil))))) (.gh [16] (.seq (.ret [] (.cmp .eq (.j0 [85,86] (.var 85) (.var 16) (.cmp .ne (.var 85) (.var 86))) (.lst .nil))) .skip))))))))))))))))))))))))))))))))))))))))))))
noncomputable def OB:List (Str×Nat):=slots ["script","cells","k","x","number","z","w","shift","order","t","e","mute","bits","text","typed","due","asked","first","second","agents","more","machine","core","sign","way","told","spots","calm","floor","runner","line","base","tall","low","spare","where","nothing","tally","rows","table","hooks","near","far","wide","mirror","size","column","h","named","asks","above","under","often","count","rest"]
def abq:(oZ zj ⟨(bC 232).scope.names,OB,[]⟩ (body 232)).ok=true:=by kernel_rfl
noncomputable def st(a i:Nat):Stmt:=(body a).getD i default
noncomputable def oa(s:Stmt):Xp:=if h:s.ctorIdx=5 then Stmt.Assign.elim s h λts z z=>ts.getD 0 default else default
noncomputable def md(s:Stmt):Xp:=if h:s.ctorIdx=3 then Stmt.Return.elim s h λv z=>v.getD default else default
noncomputable def kT(x:Xp):Xp:=if h:x.ctorIdx=20 then Expr.Attribute.elim x h λy z z=>y else default
noncomputable def OC(x:Xp):Xp:=.Lambda (jX x).1 (jX x).2.1 (jX x).2.2 x.pos
noncomputable def mW(s:Stmt)(n:Str)(v:Xp):Stmt:=.Assign [.Name n (oa s).pos] v s.pos
noncomputable def jD(s:Stmt)(n a:Str)(v:Xp):Stmt:=.Assign [.Attribute (.Name n (kT (oa s)).pos) a (oa s).pos] v s.pos
noncomputable def bY(x:Xp)(n:Str):Xp:=.Name n x.pos
section
variable{C:Cx}{k:Nat}{A:aM}{env:Env}{c:Sc}{aH M N P:Addr->Prop}{ad:Nat->Addr}{r r':aE}{s s' aB:az}{E:ay->az->Prop}{Q:Flow->az->Prop}{x:Stmt}{rest:List Stmt}{f:Addr}{o:Obj}
def zk{σ:S}{o':List Nat}(H:Ok C k)(Gi:bR σ c [x] o')(a:At C.X k A env c N r s)(F:Fw C.X env c aH M N ad r s.heap)(e:ex C.F σ r=ab (.next,r'))
  (q:∀{s' M' N' ad'},Mv C.X M s s'->At C.X k A env (cy c o') N' r' s'->Fw C.X env (cy c o') aH M' N' ad' r' s'.heap->(∀b,N' b->N b∨s.heap.objs.size<=b)->(∀b,M' b->M b∨s.heap.objs.size<=b)->aA (model C.X.prog C.X.w) A (bL rest env) Q E s'):
  aA (model C.X.prog C.X.w) A (bL (x::rest) env) Q E s:=by
 refine execs_cons (mo (Gi H a F e E) λf aB L=>?_)
 cases L with|mk fo mv n0 m n o=>
 exact⟨λz=>o.elim ft λU=>q mv U.1 U.2 n m,λh=>(h fo).elim⟩
def i7{X:Kx}(h:aA (model X.prog X.w) A (exec x env) (λf s'=>f=.next/\aA (model X.prog X.w) A (bL rest env) Q E s') E s):aA (model X.prog X.w) A (bL (x::rest) env) Q E s:=
 execs_cons (c8 (mo h λf s' z=>⟨λy=>z.2,λw=>(w z.1).elim⟩))
variable{X:Kx}
def rM(a:At X k A env c N r s)(F:Fw X env c aH M N ad r s.heap)(q:Kp X s s')(hP:∀b,P b->s.heap.objs.size<=b/\b<s'.heap.objs.size):At X k A env c (λb=>N b∨P b) r s'/\Fw X env c aH M (λb=>N b∨P b) ad r s'.heap:=
 ⟨a.grow q (a.ng.more (λb h=>.inl h) a.wd q.size λb h=>h.imp id (hP b)) λb h=>h.imp id λh=>(hP b h).1,(F.kp a q).grow (λz=>id) (λb h=>.inl (F.mn b h)) F.m0 λb h=>.inl (F.n0 b h)⟩
def B6(a:At X k A env c N r s)(F:Fw X env c aH M N ad r s.heap)(e:s.heap.get? f=ab o)(hc:¬iB o)(hN:N f)(hM:¬M f)(hf:¬Fr env f){h':Heap}{tk:Nat}(kk:∀b o,b≠f->s.heap.get? b=ab o->h'.get? b=ab o)(z:s.heap.objs.size<=h'.objs.size):
  Mv X (λb=>b=f) s {s with heap:=h',toks:=tk}/\At X k A env c (λb=>N b∨(s.heap.objs.size<=b/\b<h'.objs.size)) r {s with heap:=h',toks:=tk}/\Fw X env c aH M (λb=>N b∨(s.heap.objs.size<=b/\b<h'.objs.size)) ad r h':=by
 have mv:Mv X (λb=>b=f) s {s with heap:=h',toks:=tk}:=Mv.put e hc kk z
 have kf:∀b o,Fr env b->s.heap.get? b=ab o->h'.get? b=ab o:=λb o hb e=>kk b o (λq=>hf (q▸hb)) e
 exact⟨mv,MG (o':=c.own) (s':={s with heap:=h',toks:=tk}) (λb h=>h.imp id λh=>h.1) (λb h=>.inl h) (a.ng.more (λb h=>.inl h) a.wd z λb h=>h) a F mv (λb e=>e▸hN) (F.ck.mv kf) (λx b e n q=>IsCell.to q λo z=>kf b o (.inr ⟨x,e⟩) z)
  (λx i t h1 h2=>.old h2 (λv w=>w.to λb o hb e=>kf b o (hb.imp id λz=>⟨x,z⟩) e) (λw=>⟨λe=>hM (e▸(F.adr i ⟨w,by rw[h2];rfl⟩).1),rfl⟩) rfl) F.adr F.gn⟩
def At.vr(a:At X k A env c N r s){y:Str}{i:Nat}{t:T}(h1:c.slots.lookup y=ab i)(h2:get r i=ab t)(ho:c.own.contains i=false):∃v,Rd env s.heap y v/\VR X N s.heap t v:=
 (a.ec.rd y i t h1 h2).elim λv z=>⟨v,z.1,(ho▸z.2:Vo X N s.heap false t v)⟩
def At.ptr(a:At X k A env c N r s){y:Str}{i:Nat}(h1:c.slots.lookup y=ab i)(h2:get r i=ab (.ptr f))(ho:c.own.contains i=false):Rd env s.heap y (.ref f):=by
 obtain⟨v,g1,g2⟩:=a.vr h1 h2 ho
 exact(show v=.ref f from g2.inv)▸g1
def At.kd(a:At X k A env c N r s)(y:Str):env.kindOf y=c.names.lookup y:=by unfold qi;rw[a.ec.names]
end
def abr:body 193=[mW (st 193 0) (s_ "rule") (OC (aT (st 193 0))),jD (st 193 1) (s_ "rule") (s_ "applies_to") (OC (aT (st 193 1))),jD (st 193 2) (s_ "rule") (s_ "allowance") (bY (aT (st 193 2)) (s_ "verdict")),.Return (ab (bY (md (st 193 3)) (s_ "rule"))) (st 193 3).pos]:=by kernel_rfl
def B7:(bC 193).code=.ref 192/\(bC 193).qualname++".<locals>."++"<lambda>"=oO/\(bC 193).scope.names=[(s_ "middle",.cell),(s_ "verdict",.local),(s_ "rule",.local)]:=⟨by kernel_rfl,by kernel_rfl,by kernel_rfl⟩
def uf:((jX (aT (st 193 0))).1.defaults=[]/\(jX (aT (st 193 0))).1.kw_defaults=[])/\((jX (aT (st 193 1))).1.defaults=[]/\(jX (aT (st 193 1))).1.kw_defaults=[])/\(jX (aT (st 193 0))).2.2.names=[]/\(jX (aT (st 193 1))).2.2.names=[(s_ "name",.local),(s_ "middle",.free)]:=⟨⟨by kernel_rfl,by kernel_rfl⟩,⟨by kernel_rfl,by kernel_rfl⟩,by kernel_rfl,by kernel_rfl⟩
def Gj:dQ [] (.type "function") (s_ "applies_to")=ab ae:=by decide+kernel
def OD:dQ [] (.type "function") (s_ "allowance")=ab ae:=by decide+kernel
noncomputable def abt:List (Str×Nat):=slots ["middle","verdict","rule"]
def OE:(193,abt,2)∈bt:=dZ (i:=17) (by kernel_rfl)
def OF:((192,188,oO):Addr×Addr×Str)∈iD:=dZ (i:=2) rfl
def OG{p:xh}{env:Env}(h1:p.defaults=[])(h2:p.kw_defaults=[]):defaultsOf p env=([],[]):=by rw[defaultsOf_eq,h1,h2];rfl
section
variable{X:Kx}{k:Nat}
def abu{A:aM}{N:Addr->Prop}{s:az}{mid v:Str}{vals:List ay}{E:ay->az->Prop}(ra:RA (k+1) A)(wd:Wd X s.heap)(ng:NG X N s.heap)(hv:aL X N s.heap [.str mid,.str v] vals):
  aA (model X.prog X.w) A (call (.ref 193) vals) (Res X N s (.eI mid v)) E s:=by
 refine t8 1 (iM OE) ra wd ng hv rfl λ{env aB M N'}c=>?_
 have iE:env.code=.ref 192:=c.code.trans B7.1
 have hq:env.qual++"<lambda>"=oO:=by rw[c.qual];exact B7.2.1
 have hc1:oH (jX (aT (st 193 0))).2.2 env=pure []:=by unfold oH;rw[uf.2.2.1];rfl
 rw[abr]
 refine i7 (xM (kla_eval (OG uf.1.1 uf.1.2) ?_) (mS rfl))
 rw[hq]
 refine FZ OF c.a.wd iE c.a.ec.globals hc1 rfl λs₂ f cv ct i4 i6 rN rK=>?_
 have fM:∀{b},aB.heap.objs.size<=b->¬Fr env b/\_:=λ{b}h=>n7 c.a c.F h
 have lM:∀{b},aB.heap.objs.size<=b->¬M b:=λ{b}h q=>bx (c.a.ng.lt b (c.F.mn b q)) h
 have nt:∀{b},aB.heap.objs.size<=b->b∉aV:=λ{b}h q=>bx (c.a.ng.lt b (c.a.ng.tb b q)) h
 have U2:=rM (P:=λb=>b=f) c.a c.F i4 λb e=>e▸⟨i6,bw rN⟩
 refine l8 false U2.1 U2.2 (k₀:=2) (t:=.ptr f) rfl (.ptr f) ft λaX OH cM a3 F3=>⟨rfl,?_⟩
 have Gk:=cM.old f _ (lM i6) (nt i6) rN
 have kM:env.kindOf (s_ "middle")=ab .cell:=by rw[c.a.kd,B7.2.2];rfl
 obtain⟨cm,Gl⟩:=c.a.ec.has (s_ "middle") (.inl kM)
 have hc2:oH (jX (aT (st 193 1))).2.2 env=pure [(s_ "middle",cm)]:=by
  unfold oH
  rw[uf.2.2.2]
  simp only[xF,xE,show(jo.local==g9)=false from rfl,show(g9==g9)=true from rfl,if_true,pA,if_false,ri Gl]
  rfl
 refine i7 (UR (kla_eval (OG uf.2.1.1 uf.2.1.2) ?_) (mS rfl))
 rw[hq]
 refine FZ OF a3.wd iE a3.ec.globals hc2 rfl λaS g cv2 ct2 j4 wt uh abx=>?_
 have zm:aB.heap.objs.size<=aX.heap.objs.size:=aD i4.size cM.size
 have hg0:=aD zm wt
 have OI:=bw uh
 have U4:=rM (P:=λb=>b=g) a3 F3 j4 λb e=>e▸⟨wt,OI⟩
 have OJ:=j4.old f _ (nt i6) Gk
 refine gC U4.1 (U4.1.ptr (i:=2) rfl rfl rfl) rfl rfl (abl OJ (λc q=>by cases q) rfl Gj λh5 n5 tk5 OK OL OM k5=>⟨rfl,?_⟩)
 have W5:=B6 (tk:=aS.toks+2) U4.1 U4.2 OJ (oP rfl rfl) (.inl (.inr rfl)) (lM i6) (fM i6).1 k5 (by rw[OM];exact gy _)
 refine i7 (UR ?_ (mS rfl))
 obtain⟨vv,rdv,vrv⟩:=W5.2.1.vr (y:=s_ "verdict") (i:=1) (t:=.str v) rfl rfl rfl
 have ON:gf [s_ "applies_to"] [.ref g] _:=gf.cons (h:=qe X.w.params (s_ "applies_to")) (t:=tk5) .nil
 refine gC W5.2.1 rdv rfl rfl (gC W5.2.1 (W5.2.1.ptr (i:=2) rfl rfl rfl) rfl rfl (abp OL OK OD (Ox ON (hH.mpr ⟨gM,.nil⟩)) (by show 1<=900;decide) λh6 es6 n6 tk6 e6 hd6 BL=>⟨rfl,?_⟩))
 have B8:=(rL (nm:=s_ "allowance") (hs:=qe X.w.params (s_ "allowance")) (tk:=tk6) (v:=vv) ON).1 (by decide)
 rw[<-e6]at B8
 have Ca:aB.heap.objs.size<=aS.heap.objs.size:=aD zm j4.size
 have k6:∀b o,b≠aS.heap.objs.size->h5.get? b=ab o->h6.get? b=ab o:=λb o hb e=>BL.extBut b o hb e
 have W6:=B6 (tk:=aS.toks+2+2) W5.2.1 W5.2.2 OK (oP (d:=.dict _ _) rfl rfl) (.inr ⟨bj _,by rw[OM];exact iq _⟩) (lM Ca) (fM Ca).1 k6 (bO BL.1.symm)
 refine c8 (qB (gC W6.2.1 (W6.2.1.ptr (i:=2) rfl rfl rfl) rfl rfl ?_))
 have wu:=c.kp.size
 have rO:∀{b},aB.heap.objs.size<=b->¬N b:=λ{b}hb q=>bx (ng.lt b q) (aD wu hb)
 have Cb:Kp X s {aS with heap:=h6,toks:=aS.toks+2+2}:=
  (((((Mv.of (M:=λx=>False) (c.kp.trans i4)).trans cM λd h=>.inr (c.hM d h)).trans (Mv.of (M:=λx=>False) j4) λd h=>.inl h).trans W5.1 λd h=>.inr (h▸aD wu i6)).trans W6.1 λd h=>.inr (h▸aD wu Ca)).kp λx q=>q
 have gd6:=k6 g _ (cW OI) (k5 g _ (λq=>eY _ (bG (bw Gk) (q▸wt))) uh)
 have fd6:=k6 f _ (cW (bG (bw Gk) j4.size)) OL
 obtain⟨vm,rdm,vrm⟩:=W6.2.1.vr (y:=s_ "middle") (i:=0) (t:=.str mid) rfl rfl rfl
 have Gm:h6.IsCell cm (ab vm):=rdm.elim (λq=>nomatch kM.symm.trans q.1) λq=>q.2.elim λb z=>by cases Gl.symm.trans z.1;exact z.2
 have abJ:¬N cm:=λq=>by
  have h2:=Gl
  rw[c.cells,B7.2.2]at h2
  cases (show ab (s.heap.objs.size+1)=ab cm from h2)
  exact bx (ng.lt _ q) (gy _)
 exact VR.c6 (P:=λvm=>h6.IsCell cm (ab vm)->_) vrm (λum lm Gm=>VR.c6 (P:=λvv=>gf _ [.ref g,vv] es6->_) vrv (λut lv B8=>by
  obtain⟨cd,oc,OO,ctk,rfl,q1,q2,q3,q4⟩:=(abx.keep W5.1.code).keep W6.1.code
  exact⟨Cb,.eI fd6 (rO i6) hd6 (rO Ca) B8 gd6 (rO hg0) ⟨_,_,_,rfl⟩ rfl Gm abJ lm lv rfl q1 q3 q4 q2⟩) B8) Gm
end
end Mine
section
open PySem PySem.Spec PySem.W PyProof.Rows PySem.Builtin PySem.Builtin.ObjectAttr
namespace Mine
def OP:dQ [] (.type "function") "__getattribute__"=ab (ab (.builtin "object.__getattribute__")):=by decide+kernel
def abK:dQ [] (.type "function") "__getattr__"=ab ae:=by decide+kernel
def abL:tw tA "object.__getattribute__"=ab eP.«object.__getattribute__»:=A7 (by kernel_rfl)
def abM:plainId "object.__getattribute__"=true:=by decide+kernel
def abN:builtinKind "object.__getattribute__"=ab .slot:=by decide+kernel
def abO:splitId "object.__getattribute__"=ab ("object","__getattribute__"):=by decide+kernel
def abP(a b:ay):mG "object.__getattribute__" ⟨[a,b],[]⟩:=by unfold mG;kernel_rfl
def abQ:Slot "function" "__getattribute__" "object.__getattribute__":=.of (owner:="object") (n:="__getattribute__") (by rw[jr,jt];kernel_rfl) (by decide+kernel) (by decide+kernel) (by decide+kernel)
  (by first|exact .inl (by decide+kernel)|exact .inr (by decide+kernel)) (by rw[mF];kernel_rfl)
section
variable{prog:gK}{w:gZ}{A:aM}{E:ay->az->Prop}{s:az}{f dx:Addr}{da:Data}{sl:Array (Option ay)}{es:List jj}{n:Nat}{nm:Str}{v:ay}
def abR{M:my}{h:Heap}(hf:h.get? f=ab ⟨.type "function",ab dx,da,sl⟩)(zi:∀c,da≠.cls c)(hd:h.get? dx=ab (lP es n))(hn:dQ [] (.type "function") nm=ab ae)(hl:getL nm es=ab (ab v)):
  qE M h (find (.ref f) (.type "function") nm) (.value v):=by
 have K0:DQ ([]:Frag) h:=λa o e=>by cases e
 have own:qE M h (inOwnDict nm (.ref f)) (ab v):=by
  have body:∀A Q E s,(∀b o,h.get? b=ab o->s.heap.get? b=ab o)->Q (ab v) s->aA M A (A6 f false) (λa s'=>aA M A (inDict nm a) Q E s') E s:=by
   intro A Q E s k q
   unfold A6
   refine aG (xR (k _ _ hf) ?_)
   refine aQ (a:=ab dx) ?_
   refine aG (xR (k _ _ hd) ?_)
   rw[nsLook_of (show lookIn nm (lP es n)=ab (ab v)from hl)]
   exact aQ q
  intro A Q E s k q
  refine aG (aG (xR (k _ _ hf) ?_))
  cases da<;>first|exact body A Q E s k q|exact aj rfl (zi _)
 refine(vf K0 hn).andThen (UP.andThen (UP.andThen ?_))
 exact own.andThen (qE.tag .now)
def fn_get{Q:ay->az->Prop}(hf:s.heap.get? f=ab ⟨.type "function",ab dx,da,sl⟩)(zi:∀c,da≠.cls c)(hd:s.heap.get? dx=ab (lP es n))(hn:dQ [] (.type "function") nm=ab ae)(hl:getL nm es=ab (ab v))
  (hh:UI v=true) (h:Q v {s with toks:=s.toks+1}) {expr:Bool}:aA (model prog w) A (sO (.ref f) nm expr) Q E s:=by
 have K0:DQ ([]:Frag) s.heap:=λa o e=>by cases e
 have T:qE (model prog w) s.heap (typeOf (.ref f)) (.type "function"):=(UO (part:=ae) hf).andThen .now
 unfold sO getAttrBy
 refine aG (UM (dN (aG (tu (s:={s with toks:=s.toks+1}) T (aG (tu (s:={s with toks:=s.toks+1}) (vf K0 OP) ?_))))))
 show aA _ _ (aoc (.ref f) (.str nm s.toks) (.type "function") (.builtin "object.__getattribute__") true expr) _ _ _
 unfold aoc
 refine aG (aQ (aG (DS (dN ?_))))
 have cg:aod (.ref f) (.str nm s.toks) (.builtin "object.__getattribute__") expr=boundAndCalled (.builtin "object.__getattribute__") (.ref f) (.str nm s.toks):=by
  unfold aod
  cases expr<;>rfl
 rw[cg]
 unfold boundAndCalled
 rw[abQ.bind]
 refine aG (aQ ?_)
 have sub:qE (model prog w) s.heap (Kz (.ref f) (.type "object")) true:=T.andThen (DR Oy)
 refine pB (xS abM abL (@check_slot (model prog w) _ _ {s with toks:=s.toks+1} "object.__getattribute__" "object" "__getattribute__" (.ref f) [.str nm s.toks] [] _ abN abO sub (abP (.ref f) (.str nm s.toks)) ?_))
 unfold eP.«object.__getattribute__»
 refine aG (aQ ?_)
 refine aG (m:=attrName _) (aQ ?_)
 refine aG (tu (s:={s with toks:=s.toks+1}) T (aG (tu (s:={s with toks:=s.toks+1}) (abR hf zi hd hn hl) ?_)))
 refine aQ ?_
 dsimp only
 rw[handedOut_of hh]
 exact aQ h
end
noncomputable def Gn:xh:=(jX (aT (st 193 1))).1
noncomputable def rP:Xp:=(jX (aT (st 193 1))).2.1
noncomputable def og:d9:=(jX (aT (st 193 1))).2.2
noncomputable def zo:Ex:=.bin .add (.sm .rfind (.var 0) (.cons (.bin .add (.bin .add (.lit (.str (s_ "r"))) (.var 1)) (.lit (.str (s_ "u")))) .nil)) (.lit (.int 1))
noncomputable def zp:Sc:=⟨[(s_ "name",.local),(s_ "middle",.free)],[(s_ "name",0),(s_ "middle",1)],[]⟩
def Ce:og.kind=.function/\og.isCoroutine=false/\og.isGenerator=false:=⟨by kernel_rfl,by kernel_rfl,by kernel_rfl⟩
def abS:(bo zo .val zp [rP]).ok=true:=by kernel_rfl
def abT(mg:Str->Option ay)(kA:List (Str×Addr))(cv ct v:ay):Ks (qJ mg (s_ "<lambda>") oO Gn (.expr rP) og kA cv ct) ⟨[v],[]⟩=pure [(s_ "name",v)]:=by kernel_rfl
noncomputable def OQ{α:Type}(f:Str->Str->Option α):T->Option α
 |.eI m v=>f m v
 |_=>ae
def abU{α:Type}{t:T}{z:α}{P:Prop}{f:Str->Str->Option α}(e:OQ f t=ab z)(k:∀m v,t=.eI m v->f m v=ab z->P):P:=by cases t with|eI m v=>exact k m v rfl e|_=>exact aN e
noncomputable def OR:List T->Option T:=a2 λr x=>OQ (λm z=>cG (λx=>if m.length+2<=lim then ab (.int (xn x (s_ "r"++m++s_ "u")+1))else ae) x) r
def abV{α:Type}{a b y:α}{P:α->Prop}(h:y∈[a,b])(k:P a)(k':P b):P y:=(br.mp h).elim (λe=>e▸k) λh=>b4.mp h▸k'
def abW{y x:Str}{a b:Addr}(h:[(x,a)].lookup y=ab b):y=x/\b=a:=by
 rw[cD]at h
 cases q:y==x with
 |true=>rw[q]at h;exact⟨ao q,(Option.some.inj h).symm⟩
 |false=>rw[q]at h;exact aN h
def OS{x:Str}{a:Addr}:[(x,a)].lookup x=ab a:=by rw[cD,ax]
def abX:Gd zo .val zp [rP]:=no_implicit_lambda%(@Mb.get (Gd zo .val zp [rP]) (bo zo .val zp [rP]) abS)
section
variable{C:Cx}{k:Nat}
def abY(H:Ok C k){A:aM}{N:Addr->Prop}{s:az}{m x:Str}{u:Tok}{E:ay->az->Prop}{g cm cd:Addr}{gd:gY}{oc:Obj}{cv:Array ay}{ct um:Tok}{i:Int}
  (ra:RA (k+1) A) (wd:Wd C.X s.heap) (ng:NG C.X N s.heap) (hg:s.heap.get? g=ab {cls:=.type "function",data:=.func gd}) (hl:KW C.X.mg gd) (hc:gd.closure=[(s_ "middle",cm)])
  (hm:s.heap.IsCell cm (ab (.str m um))) (hP:¬N cm) (hz:m.length<=lim) (iE:gd.code=.ref cd) (nK:s.heap.get? cd=ab oc) (lQ:oc.data=.fields cv) (mH:cv[1]?=ab (.str gd.qualname ct))
  (hx:x.length<=lim) (hlen:m.length+2<=lim) (hi:xn x (s_ "r"++m++s_ "u")+1=i):aA (model C.X.prog C.X.w) A (call (.ref g) [.str x u]) (Res C.X N s (.int i)) E s:=by
 obtain⟨kA,Cf,OT,Gp⟩:=hl
 have Gp:gd=qJ C.X.mg (s_ "<lambda>") oO Gn (.expr rP) og kA Cf OT:=Gp
 subst Gp
 cases (show kA=[(s_ "middle",cm)]from hc)
 refine pB (qt (R:=λr s'=>match r with|.ok (.ret v)=>Res C.X N s (.int i) v s'|_=>False) ?_ λr s' hr=>?_)
 ·refine kla_callFunE ra.room hg rfl Ce.2.1 Ce.2.2 rfl ⟨cd,oc,cv,ct,iE,nK,lQ,mH⟩ ?_
  rw[abT]
  have ln:og.names=[(s_ "name",.local),(s_ "middle",.free)]:=uf.2.2.2
  refine aQ (wpAny_newFunctionEnv (λy hy=>?_) (λy hy=>?_) (λbJ gQ zq=>⟨(wd.nolimit).fresh _ zq,?_⟩) Ce.1)
  ·rw[show(qJ C.X.mg (s_ "<lambda>") oO Gn (.expr rP) og [(s_ "middle",cm)] Cf OT).scope.names=_ from ln]at hy
   exact abV hy (P:=λy=>y.2≠sS) (by decide) (by decide)
  ·rw[b4.mp hy]
   show og.names.lookup _=_
   rw[ln];rfl
  ·generalize hE:newEnv og s.heap.objs.size gJ [(s_ "middle",cm)] (oO++".<locals>.") (ab g) Cf ae jm=env
   show gN _ _ (.expr rP (newEnv og s.heap.objs.size gJ [(s_ "middle",cm)] (oO++".<locals>.") (ab g) Cf ae jm)) _ _
   rw[hE]
   refine kla_codeExpr ?_
   have e1:env.scope=og:=by rw[<-hE];rfl
   have e2:env.locals=s.heap.objs.size:=by rw[<-hE];rfl
   have e3:env.cells=[(s_ "middle",cm)]:=by rw[<-hE];rfl
   have kp:Kp C.X s {s with heap:=bJ,toks:=s.toks+1}:=Kp.of (λb o e=>zq.extBut b o (cW (bw e)) (cS _ e)) (by rw[zq.1];exact qV _ _)
   have lk:∀{y b},env.cells.lookup y=ab b->y=s_ "middle"/\b=cm:=λh=>abW (e3▸h)
   have kd:∀{y},env.kindOf y=[(s_ "name",jo.local),(s_ "middle",.free)].lookup y:=λ{y}=>by unfold qi;rw[e1,ln]
   have OU:bJ.IsCell cm (ab (.str m um)):=hm.elim λo z=>⟨o,kp.old _ _ (λq=>hP (ng.tb _ q)) z.1,z.2⟩
   have cml:cm<s.heap.objs.size:=hm.elim λo z=>bw z.1
   have at_:At C.X k (A.deeper env) env zp N [ab (.str x),ab (.str m)] {s with heap:=bJ,toks:=s.toks+1}:=by
    refine⟨⟨by rw[e1];exact Ce.1,by rw[e1];exact ln,by rw[<-hE];rfl,by rw[<-hE];rfl,by rw[e2];exact vH ng,λy b h=>by rw[(lk h).2];exactλq=>hP (ng.tb _ q),λy hy=>?_,λy b h=>?_,λy y' b h1 h2=>(lk h1).1.trans (lk h2).1.symm,λy i t h1 h2=>?_⟩,wd.kp kp,ng.kp kp,ra.deeper⟩
    ·rw[kd]at hy
     have:y=s_ "middle":=hy.elim (λq=>vT q (λp e=>by cases e) λe p=>e) λq=>vT q (λp e=>by cases e) λe p=>e
     rw[this,e3];exact⟨cm,OS⟩
    ·rw[(lk h).2,e2];exact⟨⟨_,OU⟩,cW cml⟩
    ·refine vT (show[(s_ "name",0),(s_ "middle",1)].lookup y=ab i from h1) (λey ei=>?_) λey ei=>?_
     ·subst ey;subst ei;cases h2
      exact⟨.str x u,.inl ⟨by rw[kd];exact EZ,_,by rw[e2];exact gQ,rfl⟩,.str _ _ hx⟩
     ·subst ey;subst ei;cases h2
      exact⟨.str m um,.inr ⟨.inr (by rw[kd];rfl),cm,by rw[e3];exact OS,OU⟩,.str _ _ hz⟩
   have l1:(s_ "r"++m).length<=lim:=by rw[sJ,eE];exact aD (f6 (show 1<=2 by decide) _) hlen
   have l2:(s_ "r"++m++s_ "u").length<=lim:=by rw[sJ,sJ,eE (s_ "r").length];exact hlen
   have ev1:tG (.str (s_ "r")) (.str m)=ab (.str (s_ "r"++m)):=ah (by rw[<-sJ];exact l1)
   have ev2:tG (.str (s_ "r"++m)) (.str (s_ "u"))=ab (.str (s_ "r"++m++s_ "u")):=ah (by rw[<-sJ];exact l2)
   have hev:ev C.F zo [ab (.str x),ab (.str m)]=ab (.int i):=by
    show((((tG (.str (s_ "r")) (.str m)).bind λy=>tG y (.str (s_ "u"))).bind (λy=>ab (T.tup [y]))).bind (bH (iV .rfind (.str x)))).bind (λy=>tG y (.int 1))=_
    rw[ev1,Option.bind_some,ev2,<-hi];rfl
   exact mo (abX H at_ hev _) λv s' hv=>⟨kp.trans hv.1,hv.2⟩
 ·cases r with
  |error e=>exact hr.elim
  |ok fl=>cases fl<;>first|exact hr|exact hr.elim
def ab3(H:Ok C k):qY C.X (k+1) (s_ "applies_to") OR:=by
 intro A N s pos pl trees x ov ts t E ra wd ng hx hp e args
 refine qU e λr y0 q ea=>abU ea λm v qr eb=>ia eb λy qs ec=>ifs ec λhlen ez=>?_
 clear e ea eb ec
 subst ez;subst qs;subst qr
 cases q
 cases hx with
 | @eI a dA g c cd _ _ fd gd es n tk u oc cv ct ho hN hd hM he hg hO hl hc hm hP hz hy iE nK lQ mH hR=>
  have T:qE (model C.X.prog C.X.w) s.heap (typeOf (.ref a)) (.type "function"):=(UO (part:=ae) ho).andThen .now
  have K0:DQ ([]:Frag) s.heap:=λa o e=>aN e
  have ab4:=PySem.F.canon_object_ga
  unfold JL xT
  refine aG (aG (T.here ((vf K0 OP).here ?_)))
  dsimp only
  rw[ab4,ai (by decide)]
  refine aG (aG (T.here ((vf K0 abK).here (aG (aG (T.here ((vf K0 Gj).here ?_)))))))
  refine aG (fn_get ho (λc q=>by cases q) hd Gj ((t9 he).2 0 (by decide) rfl) rfl (aQ ?_))
  refine A4 (o:={cls:=.type "function",data:=.func gd}) (fd:=gd) (ie hp (mo (args {s with toks:=s.toks+1} Kp.tok E) λvs aB z=>?_))
  have k1:Kp C.X s aB:=Kp.tok.trans z.1
  have wt:=k1.old g _ (λq=>hO (ng.tb g q)) hg
  refine⟨⟨wt,rfl⟩,z.2.oQ λv hv=>hv.c6 λut hyl=>?_⟩
  exact mo (abY H ra (wd.kp k1) (ng.kp k1) wt hl hc (hm.elim λo q=>⟨o,k1.old c _ (λq=>hP (ng.tb c q)) q.1,q.2⟩) hP hz iE (k1.code cd _ ⟨hR,_,lQ⟩ nK) lQ mH hyl hlen rfl) λw s₂ nT=>⟨k1.trans nT.1,nT.2⟩
def Gq{X:Kx}:tL X 100 (oN 100):=by
 intro A N s x ov t Q E wd ng hx e q
 cases hx with
 | @eI a dA g c cd m v fd gd es n tk u oc cv ct ho hN hd hM he hg hO hl hc hm hP hz hy iE nK lQ mH hR=>
  cases e
  exact fn_get ho (λc q=>by cases q) hd OD ((t9 he).2 1 (by decide) rfl) rfl (q _ _ Kp.tok (.str _ _ hy))
 | @ins a dA c es n vs ts h1 h2 h3 h4 h5 h6=>
  refine gi (show(if 100/10=c then _ else ae)=ab t from e) λhc e'=>?_
  subst hc
  have l1:=(iR.mp e').1
  rw[<-h6.length,h5.len]at l1
  exact aj l1 (DT _)
 |_=>exact aN e
end
end Mine
end
namespace Mine
abbrev IV(h:Heap)(x dx Cc:Addr)(ns:List Str)(vs:List ay):Prop:=h.get? x=ab (ny Cc dx)/\(∃es n,h.get? dx=ab (lP es n)/\gf ns vs es)/\ns.Nodup/\ns.length<=20
section
variable(h:IV h x dx Cc ns vs)
def IV.obj:=h.1
def IV.dict:=h.2.1
def IV.nd:=h.2.2.1
def IV.Cg:=h.2.2.2
end
def gf.ab6{ns:List Str}{vs:List ay}{es:List jj}(h:gf ns vs es):es.length=ns.length:=by
 induction h with
 |nil=>rfl
 |cons r ih=>exact af (· +1) ih
abbrev oh(K:Frag)(Cc:Addr)(nm:Str):Prop:=dQ K (.ref Cc) "__setattr__"=ab (ab (.builtin "object.__setattr__"))/\Ku K Cc=true/\Kv K Cc nm=ab ae/\xQ K Cc=true
section
variable{K:Frag}(h:oh K Cc nm)
def oh.sa:=h.1
def oh.po:=h.2.1
def oh.tk:=h.2.2.1
def oh.hd:=h.2.2.2
end
abbrev Mk(X:Kx)(k:Nat)(A:aM)(env:Env)(c:Sc)(aH M N:Addr->Prop)(ad:Nat->Addr)(r:aE)(s:az)(x dx Cc:Addr)(ns:List Str)(vs:List ay):Prop:=At X k A env c N r s/\Fw X env c aH M N ad r s.heap/\IV s.heap x dx Cc ns vs/\x∉aV/\dx∉aV/\N dx/\¬M dx/\¬Fr env dx/\x≠dx
section
variable{ad:Nat->Addr}(h:Mk X k A env c aH M N ad r s x dx Cc ns vs)
def Mk.a:=h.1
def Mk.F:=h.2.1
def Mk.I:=h.2.2.1
def Mk.tx:=h.2.2.2.1
def Mk.td:=h.2.2.2.2.1
def Mk.hN:=h.2.2.2.2.2.1
def Mk.hM:=h.2.2.2.2.2.2.1
def Mk.hf:=h.2.2.2.2.2.2.2.1
def Mk.xd:=h.2.2.2.2.2.2.2.2
end
section
variable{X:Kx}{k:Nat}{A:aM}{env:Env}{c:Sc}{aH M N:Addr->Prop}{ad:Nat->Addr}{r:aE}{s aB:az}{E:ay->az->Prop}{x dx Cc:Addr}{ns nV:List Str}{vs j2:List ay}
def IV.keep{h h':Heap}(I:IV h x dx Cc ns vs)(k1:∀o,h.get? x=ab o->h'.get? x=ab o)(k2:∀o,h.get? dx=ab o->h'.get? dx=ab o):IV h' x dx Cc ns vs:=
 ⟨k1 _ I.obj,I.dict.elim λes q=>q.elim λn q=>⟨es,n,k2 _ q.1,q.2⟩,I.nd,I.Cg⟩
def Mk.kp(m:Mk X k A env c aH M N ad r s x dx Cc ns vs)(q:Kp X s aB):Mk X k A env c aH M (λb=>N b∨(s.heap.objs.size<=b/\b<aB.heap.objs.size)) ad r aB x dx Cc ns vs:=
 have U:=rM (P:=λb=>s.heap.objs.size<=b/\b<aB.heap.objs.size) m.a m.F q λb h=>h
 ⟨U.1,U.2,m.I.keep (λo e=>q.old _ _ m.tx e) λo e=>q.old _ _ m.td e,m.tx,m.td,.inl m.hN,m.hM,m.hf,m.xd⟩
def Mk.set(m:Mk X k A env c aH M N ad r s x dx Cc ns vs){nm:Str}{v:ay}(cl:oh X.K Cc nm)(Gr:∀hs tk es,gf ns vs es->gf nV j2 (putL nm hs (.str nm tk) v es))(pR:nV.Nodup)(zr:nV.length<=20){Q:Unit->az->Prop}
  (q:∀s' N',Mv X (λb=>b=dx) s s'->Mk X k A env c aH M N' ad r s' x dx Cc nV j2->(∀b,N b->N' b)->(∀b,N' b->N b∨s.heap.objs.size<=b)->s'.heap.objs.size=s.heap.objs.size->Q () s'):aA (model X.prog X.w) A (DP (.ref x) nm v) Q E s:=by
 obtain⟨es,n,hd,he⟩:=m.I.dict
 refine abd m.a.wd.K ⟨m.I.obj,rfl,rfl,hd⟩ rfl cl.sa cl.po cl.tk cl.hd (Ox he m.I.nd) (by rw[he.ab6];exact aD m.I.Cg (by decide)) λh' iJ n' e1 e2 e3=>?_
 have kk:∀b o,b≠dx->s.heap.get? b=ab o->h'.get? b=ab o:=λb o hb e=>e3.extBut b o hb e
 have W:=B6 (tk:=s.toks+2) m.a m.F hd (oP (d:=.dict _ _) rfl rfl) m.hN m.hM m.hf kk (bO e3.1.symm)
 exact q _ _ W.1 ⟨W.2.1,W.2.2,⟨kk _ _ m.xd m.I.obj,⟨iJ,n',e2,by rw[e1];exact Gr _ _ _ he⟩,pR,zr⟩,m.tx,m.td,.inl m.hN,m.hM,m.hf,m.xd⟩ (λb h=>.inl h) (λb h=>h.imp id λh=>h.1) e3.1
def ab7(ra:RA (k+1) A){v:List ay}:RA k (A.under (.builtin "type.__call__" ⟨.ref Cc::v,[]⟩)):=
 ⟨ra.handled,ra.guards,by show A.depth+1+k<900;have:=ra.depth;rw[g6,eE 1 k];exact this,by show A.units+1+8*k<9000;have:=ra.units;rw[KA]at this;exact bI (by rw[g6,eE 1];exact f6 (f6 (by decide) _) _) this⟩
def ab8{fI:Addr}{rest:List ay}{Q:ay->az->Prop}(hK:X.K.In s.heap)(hm:KC X.K Cc=true)(hi:dQ X.K (.ref Cc) "__init__"=ab (ab (.ref fI)))(hf:A5 X.K (.ref fI)=ab (.type "function"))
  (h:gN (model X.prog X.w) (A.under (.builtin "type.__call__" ⟨.ref Cc::rest,[]⟩)) (.call (.ref fI) ⟨.ref (s.heap.objs.size+1)::rest,[]⟩)
   (λr s'=>match r with|.ok (.ret v)=>v=.none/\Q (.ref (s.heap.objs.size+1)) s'|_=>False) {s with heap:=(s.heap.push tB).push (ny Cc s.heap.objs.size)}):
  aA (model X.prog X.w) A (call (.ref Cc) rest) Q E s:=by
 obtain⟨hh,g,d,t,os⟩:=s
 refine pB (qt (make_core (R:=λr s'=>match r with|.ok (.ret v)=>Q v s'|_=>False) (makes_of hK hm) (vf hK hi) (λself=>bind_fn hK self hf) (.inl rfl) (qt h λr s' hr=>?_)) λr s' hr=>?_)
 ·cases r with
  |error e=>exact hr
  |ok f=>cases f<;>exact hr
 ·cases r with
  |error e=>exact hr.elim
  |ok f=>cases f<;>first|exact hr|exact hr.elim
def OV{fI:Addr}{fd:gY}{bd:List Stmt}{l:List (Str×Nat)}{ps:List Str}(n:Nat)(f:iL X fI fd bd l ps)(hm:KC X.K Cc=true)(hi:dQ X.K (.ref Cc) "__init__"=ab (ab (.ref fI)))(hf:A5 X.K (.ref fI)=ab (.type "function")){ts:List T}{vals:List ay}(hl:ts.length+1=ps.length)
  (ra:RA (k+2) A) (wd:Wd X s.heap) (ng:NG X N s.heap) (hv:aL X N s.heap ts vals) {Q:ay->az->Prop}
  (h:∀{A':aM}{env:Env}{aB:az}{aH M N':Addr->Prop},Mk X k A' env ⟨fd.scope.names,l,[]⟩ aH M N' (λy=>0) (start n (.ptr (s.heap.objs.size+1)::ts)) aB (s.heap.objs.size+1) s.heap.objs.size Cc [] []->Kp X s aB->(∀b,N' b->N b∨s.heap.objs.size<=b)->(∀b,N b->N' b)->(∀b,M b->s.heap.objs.size<=b)->(∀b,(N b∨(b=s.heap.objs.size+1∨b=s.heap.objs.size))->aH b)->
   aA (model X.prog X.w) A' (bL bd env) (λg s'=>zb g=.none/\Q (.ref (s.heap.objs.size+1)) s') (λy y=>False) aB):aA (model X.prog X.w) A (call (.ref Cc) vals) Q E s:=by
 refine ab8 wd.K hm hi hf ?_
 have z1:((s.heap.push tB).push (ny Cc s.heap.objs.size)).objs.size=s.heap.objs.size+1+1:=by rw[fk,fk]
 have zt:Kp X s {s with heap:=(s.heap.push tB).push (ny Cc s.heap.objs.size)}:=Kp.of (λb o e=>cS _ (cS _ e)) (by rw[z1];exact bX _ 2)
 have gx:((s.heap.push tB).push (ny Cc s.heap.objs.size)).get? (s.heap.objs.size+1)=ab (ny Cc s.heap.objs.size):=by
  have:=cB (s.heap.push tB) (o:=ny Cc s.heap.objs.size) rfl
  rwa [fk]at this
 have gd:((s.heap.push tB).push (ny Cc s.heap.objs.size)).get? s.heap.objs.size=ab (lP [] 0):=cS _ (cB _ rfl)
 have hP:∀b,(b=s.heap.objs.size+1∨b=s.heap.objs.size)->s.heap.objs.size<=b/\b<((s.heap.push tB).push (ny Cc s.heap.objs.size)).objs.size:=λb e=>by
  rw[z1]
  rcases e with rfl|rfl
  ·exact⟨gy _,iq _⟩
  ·exact⟨bj _,va (iq _)⟩
 have ng1:NG X (λb=>N b∨(b=s.heap.objs.size+1∨b=s.heap.objs.size)) ((s.heap.push tB).push (ny Cc s.heap.objs.size)):=ng.more (λb h=>.inl h) wd zt.size λb h=>h.imp id (hP b)
 have up:∀b,(N b∨(b=s.heap.objs.size+1∨b=s.heap.objs.size))->N b∨s.heap.objs.size<=b:=λb h=>h.imp id λe=>(hP b e).1
 have ui:∀{b},s.heap.objs.size<=b->b∉aV:=λ{b}hb q=>bx (ng.lt b (ng.tb b q)) hb
 refine qt (NO (Q:=λv s'=>v=.none/\Q (.ref (s.heap.objs.size+1)) s') n f (ab7 ra) (wd.kp zt) ng1 (ts:=.ptr (s.heap.objs.size+1)::ts) (.cons (.ptr _) (hv.move up λb o q e=>cS _ (cS _ e))) hl λ{env aB M N'}c=>?_) λr s' hr=>hr
 have dM:∀{b},b<((s.heap.push tB).push (ny Cc s.heap.objs.size)).objs.size->¬M b:=λ{b}hb q=>bx hb (c.hM b q)
 refine h ⟨c.a,c.F,⟨c.kp.old _ _ (ui (gy _)) gx,⟨[],0,c.kp.old _ _ (ui (bj _)) gd,.nil⟩,.nil,dP _⟩,ui (gy _),ui (bj _),c.F.n0 _ (.inr (.inr rfl)),dM (hP _ (.inr rfl)).2,λq=>bx (hP _ (.inr rfl)).2 (c.fr _ q),xI _⟩ (zt.trans c.kp) (λb h=>(c.hN b h).elim (up b) λz=>.inr (aD zt.size z)) (λb h=>c.F.n0 b (.inl h)) (λb h=>aD zt.size (c.hM b h)) λb=>id
end
section
variable{X:Kx}{k:Nat}{A:aM}{env:Env}{c:Sc}{aH M N:Addr->Prop}{ad:Nat->Addr}{r:aE}{s aB:az}{E:ay->az->Prop}{x dx Cc:Addr}{ns nV:List Str}{vs:List ay}{j2:ay->List ay}
def uj{R:ay->az->Prop}{y nm:Str}{i:Nat}{value:Xp}{sm:Stmt}{rest:List Stmt}(m:Mk X k A env c aH M N ad r s x dx Cc ns vs)(hv:∀E,aA (model X.prog X.w) A (eval value env) (λv aB=>Kp X s aB/\R v aB) E s)(Gs:cZ value=true)
  (hy:c.slots.lookup y=ab i) (hr:get r i=ab (.ptr x)) (hn:iW y=true) (ho:c.own.contains i=false) (cl:oh X.K Cc nm) (Gr:∀v hs tk es,gf ns vs es->gf nV (j2 v) (putL nm hs (.str nm tk) v es)) (pR:nV.Nodup) (zr:nV.length<=20) {Q:Flow->az->Prop}
  (q:∀{v aB s' N'},Kp X s aB->R v aB->Mv X (λb=>b=dx) aB s'->Mk X k A env c aH M N' ad r s' x dx Cc nV (j2 v)->(∀b,s.heap.objs.size<=b->b<s'.heap.objs.size->N' b)->(∀b,N b->N' b)->(∀b,N' b->N b∨s.heap.objs.size<=b)->aA (model X.prog X.w) A (bL rest env) Q E s'):
  aA (model X.prog X.w) A (bL (jD sm y nm value::rest) env) Q E s:=by
 refine i7 (UR (mo (hv _) λv aB z=>?_) (mS Gs))
 have m1:=m.kp z.1
 refine gC m1.a (m1.a.ptr hy hr ho) (iX hn).1 (iX hn).2 (m1.set cl (Gr v) pR zr λs' N' mv m2 h1 h2 hz=>⟨rfl,?_⟩)
 exact q z.1 z.2 mv m2 (λb g1 g2=>h1 b (.inr ⟨g1,hz▸g2⟩)) (λb h=>h1 b (.inl h)) λb h=>(h2 b h).elim (λh=>h.imp id λh=>h.1) λh=>.inr (aD z.1.size h)
def OW{p:Pos}(E:ay->az->Prop):aA (model X.prog X.w) A (eval (.List [] p) env) (λv aB=>Kp X s aB/\∃u,v=.ref u/\s.heap.objs.size<=u/\aB.heap.PlainList u #[]) E s:=
 JP (gb ⟨dP _,Kp.push,_,rfl,bj _,⟨_,cB _ rfl⟩⟩)
end
noncomputable def cK(x:Xp):Nat:=if h:x.ctorIdx=19 then Expr.Constant.elim x h λz j z=>j else default
noncomputable def OX(x:Xp):Xp:=.List [] x.pos
noncomputable def OY(x:Xp):Xp:=.Constant .none (cK x) x.pos
def aca:body 151=[jD (st 151 0) (s_ "self") (s_ "useragents") (OX (aT (st 151 0))),jD (st 151 1) (s_ "self") (s_ "rulelines") (OX (aT (st 151 1))),jD (st 151 2) (s_ "self") (s_ "delay") (OY (aT (st 151 2))),jD (st 151 3) (s_ "self") (s_ "req_rate") (OY (aT (st 151 3)))]:=by kernel_rfl
noncomputable def kU:List Str:=["useragents","rulelines","delay","req_rate"].map s_
def acb:(151,slots ["self"],1)∈bt:=dZ (i:=18) (by kernel_rfl)
def uk(P:dY):(KC (KK P) 175=true/\dQ (KK P) (.ref 175) "__init__"=ab (ab (.ref 151))/\A5 (KK P) (.ref 151)=ab (.type "function"))/\dQ (KK P) (.ref 175) "__setattr__"=ab (ab (.builtin "object.__setattr__"))/\Ku (KK P) 175=true/\xQ (KK P) 175=true/\kU.all (λn=>decide (Kv (KK P) 175 n=ab ae))=true:=⟨⟨by kernel_rfl,by kernel_rfl,by kernel_rfl⟩,by kernel_rfl,by kernel_rfl,by kernel_rfl,by kernel_rfl⟩
def mX{P:dY}{n:Str}(h:n∈kU):oh (KK P) 175 n:=⟨(uk P).2.1,(uk P).2.2.1,aq (bA.mp (uk P).2.2.2.2 n h),(uk P).2.2.2.1⟩
abbrev EN(X:Kx)(s:az)(a:Addr)(s':az)(dA u l:Addr):Prop:=Kp X s s'/\s.heap.objs.size<=a/\s.heap.objs.size<=dA/\s.heap.objs.size<=u/\s.heap.objs.size<=l/\IV s'.heap a dA 175 kU [.ref u,.ref l,.none,.none]/\s'.heap.PlainList u #[]/\s'.heap.PlainList l #[]/\u≠l/\a≠dA
section
variable(h:EN X s a s' dA u l)
def EN.kp:=h.1
def EN.a0:=h.2.1
def EN.d0:=h.2.2.1
def EN.u0:=h.2.2.2.1
def EN.l0:=h.2.2.2.2.1
def EN.iv:=h.2.2.2.2.2.1
def EN.pu:=h.2.2.2.2.2.2.1
def EN.pl:=h.2.2.2.2.2.2.2.1
def EN.ul:=h.2.2.2.2.2.2.2.2.1
def EN.ad:=h.2.2.2.2.2.2.2.2.2
end
section
variable{X:Kx}{k:Nat}
def me{j:Nat}{n:Str}(h:kU[j]?=ab n):n∈kU:=dZ h
def acd{A:aM}{N:Addr->Prop}{s:az}{E:ay->az->Prop}(ra:RA (k+2) A)(wd:Wd X s.heap)(ng:NG X N s.heap):aA (model X.prog X.w) A (call (.ref 175) []) (λv s'=>∃a dA u l,v=.ref a/\EN X s a s' dA u l) E s:=by
 refine OV 0 (iM acb) (uk _).1.1 (uk _).1.2.1 (uk _).1.2.2 (ts:=[]) rfl ra wd ng .nil λ{A' env aB aH M N'}m k0 hN ED hM z=>?_
 rw[aca]
 have nt:∀{b},s.heap.objs.size<=b->b∉aV:=λ{b}hb q=>bx (ng.lt b (ng.tb b q)) hb
 have pp:∀n,(s_ n)∉([]:List Str):=λz=>gM
 refine uj m OW rfl (i:=0) rfl rfl rfl rfl (mX (me (j:=0) rfl)) (λv hs tk es he=>(rL he).1 gM) (by decide) (by decide) λ{v1 t1 s₂ N2}k1 h1 uo m2 n2 n2' u2=>?_
 obtain⟨u,rfl,u0,pu⟩:=h1
 refine uj m2 OW rfl (i:=0) rfl rfl rfl rfl (mX (me (j:=1) rfl)) (λv hs tk es he=>(rL he).1 (by decide)) (by decide) (by decide) λ{v2 t2 aX N3}k2 h2 n9 m3 n3 n3' u3=>?_
 obtain⟨l,rfl,l0,pl⟩:=h2
 refine uj (R:=λv z=>v=.none) m3 (λE=>TO ⟨.refl _,rfl⟩) rfl (i:=0) rfl rfl rfl rfl (mX (me (j:=2) rfl)) (λv hs tk es he=>(rL he).1 (by decide)) (by decide) (by decide) λ{v3 t3 aS N4}k3 h3 cM m4 n4 n4' u4=>?_
 subst h3
 refine uj (R:=λv z=>v=.none) m4 (λE=>TO ⟨.refl _,rfl⟩) rfl (i:=0) rfl rfl rfl rfl (mX (me (j:=3) rfl)) (λv hs tk es he=>(rL he).1 (by decide)) (by decide) (by decide) λ{v4 t4 dC N5}k4 h4 rQ m5 n5 n5' u5=>?_
 subst h4
 have s1:=k0.size
 have s2:=aD s1 (aD k1.size uo.size)
 have dl:s.heap.objs.size<aB.heap.objs.size:=m.a.ng.lt _ m.hN
 have uu:=aD s1 u0
 have ll:=aD s2 l0
 have keep:∀{aB s₂ aX:az}(k:Kp X aB s₂)(mv:Mv X (λb=>b=s.heap.objs.size) s₂ aX){b o},s.heap.objs.size<b->aB.heap.get? b=ab o->aX.heap.get? b=ab o:=λ{_ _ _}k mv{_ _}h e=>mv.old _ _ (iS h) (nt (cE h)) (k.old _ _ (nt (cE h)) e)
 have ug:s.heap.objs.size<u:=bG dl u0
 have lg:s.heap.objs.size<l:=bG dl (aD (aD k1.size uo.size) l0)
 have OZ:=pu.at λo e=>keep (.refl _) uo ug e
 have mm:∀{aB s₂ aX:az},Mv X (λz=>False) s aB->Kp X aB s₂->Mv X (λb=>b=s.heap.objs.size) s₂ aX->Mv X (λz=>False) s aX:=λa k m=>(a.trans (Mv.of (M:=λz=>False) k) λd h=>.inl h).trans m λd h=>.inr (bO h.symm)
 exact aQ ⟨rfl,_,_,u,l,rfl,(mm (mm (mm (mm (Mv.of k0) k1 uo) k2 n9) k3 cM) k4 rQ).kp λz q=>q,gy _,bj _,uu,ll,m5.I,OZ.at λo e=>keep k4 rQ ug (keep k3 cM ug (keep k2 n9 ug e)),
  pl.at λo e=>keep k4 rQ lg (keep k3 cM lg (keep (.refl _) n9 lg e)),λe=>by obtain⟨n,g⟩:=OZ;exact bx (bw g) (e▸l0),xI _⟩
end
section
variable{C:Cx}{k:Nat}{A:aM}{env:Env}{c:Sc}{aH M N W:Addr->Prop}{ad:Nat->Addr}{r:aE}{s s₂:az}{E:ay->az->Prop}{J:(Addr->Prop)->aE->az->Prop}
structure LJ(C:Cx)(k:Nat)(A:aM)(env:Env)(c:Sc)(aH M N W:Addr->Prop)(J:(Addr->Prop)->aE->az->Prop)(s:az)(p:Fl×aE)(s':az):Prop where
 nx:p.1=.next
 mv:Mv C.X (λb=>M b∨W b) s s'
 st:∃ad,At C.X k A env c N p.2 s'/\Fw C.X env c aH M N ad p.2 s'.heap
 j:J N p.2 s'
def O0(C:Cx)(k:Nat)(A:aM)(env:Env)(c:Sc)(M W:Addr->Prop)(J:(Addr->Prop)->aE->az->Prop)(tg:aW)(body:List Stmt)(f:T->aE->Option (Fl×aE)):Prop:=
 ∀{aH N:Addr->Prop}{ad s y v r p},(∀b,W b->aH b)->At C.X k A env c N r s->Fw C.X env c aH M N ad r s.heap->J N r s->VR C.X N s.heap y v->f y r=ab p->∀E,
  aA (model C.X.prog C.X.w) A (assign tg env v) (λz s₂=>aA (model C.X.prog C.X.w) A (bL body env) (λfw aX=>fw=.next/\LJ C k A env c aH M N W J s p aX) E s₂) E s
def FiJ(C:Cx)(k:Nat)(A:aM)(env:Env)(c:Sc)(aH M N W:Addr->Prop)(J:(Addr->Prop)->aE->az->Prop)(s₂:az)(l:List T)(St:Nat->Heap->Prop)(f:T->aE->Option (Fl×aE))(p:Fl×aE)(n:Nat)(aB:az):Prop:=
 ∃j fH,n=l.length - j/\LJ C k A env c aH M N W J s₂ (.next,fH) aB/\St j aB.heap/\j<=l.length/\b6 f (l.drop j) fH=ab p
def acf{tg:aW}{tp:Bool}(Fs:tp=true->∃es kk p,tg=.Tuple es kk p){body:List Stmt}{f:T->aE->Option (Fl×aE)}(hT:O0 C k A env c M W J tg body f)(a:At C.X k A env c N r s)(F:Fw C.X env c aH M N ad r s.heap)(hW:∀b,W b->aH b)(hJ:J N r s)
  (jk:∀{V N N' r s s'},J N r s->NG C.X N s.heap->Mv C.X V s s'->(∀b,V b->N b)->(∀b,V b->¬W b)->(∀b,N' b->N b∨s.heap.objs.size<=b)->J N' r s') {l:List T} {I:Addr} {fp wr:List Addr} {St:Nat->Heap->Prop} {eJ:Nat->ay->Heap->Prop}
  (it:It C.X N s₂.heap l tp I fp wr St eJ) (yZ:St 0 s₂.heap) (fE:Kp C.X s s₂) (fF:∀b∈wr,s.heap.objs.size<=b) (ig:∀b∈fp,b∉wr->¬N b) {p:Fl×aE} (hl:b6 f l r=ab p)
  {R:oI->az->Prop} (hR:∀s',LJ C k A env c aH M (λb=>N b∨b∈wr) W J s p s'->R (.ok .next) s'):
  gN (model C.X.prog C.X.w) A (.forLoop tg (.ref I) body [] env) R s₂:=by
 have pL:∀b,b∈wr->s.heap.objs.size<=b/\b<s₂.heap.objs.size:=λb h=>⟨fF b h,it.lt b (it.sub b h)⟩
 have up:∀b,(N b∨b∈wr)->N b∨s.heap.objs.size<=b:=λb q=>q.imp id (fF b)
 have nw:∀{b},N b->b∉wr:=λ{b}h q=>bx (a.ng.lt b h) (fF b q)
 have mw:∀{b},M b∨W b->N b:=λ{b}h=>h.elim (F.mn b) λh=>F.n0 b (hW b h)
 have a0:At C.X k A env c (λb=>N b∨b∈wr) r s₂:=a.grow fE (a.ng.more (λb h=>.inl h) a.wd fE.size λb q=>q.imp id (pL b)) up
 have F0:Fw C.X env c (λb=>aH b∨b∈wr) M (λb=>N b∨b∈wr) ad r s₂.heap:=(F.kp a fE).grow (λx=>id) (λb h=>.inl (F.mn b h)) (λb h q=>q.elim (F.m0 b h) (nw (F.mn b h))) λb h=>h.imp (F.n0 b) id
 refine M0 (FiJ C k A env c (λb=>aH b∨b∈wr) M (λb=>N b∨b∈wr) (λb=>W b∨b∈wr) J s₂ l St f p) (λn aB E hI=>?_) (l.length - 0)
  ⟨0,r,rfl,⟨rfl,.refl _,⟨ad,a0,F0⟩,jk (V:=λx=>False) hJ a.ng (.of fE) (λx=>False.elim) (λx=>False.elim) up⟩,yZ,dP _,hl⟩
 obtain⟨j,fH,rfl,L,st,hj,j9⟩:=hI
 obtain⟨-,mv,⟨tX,mT,rD⟩,acg⟩:=L
 have fS:∀s',Mv C.X (λb=>b∈wr) aB s'->(At C.X k A env c (λb=>N b∨b∈wr) fH s'/\Fw C.X env c (λb=>aH b∨b∈wr) M (λb=>N b∨b∈wr) tX fH s'.heap)/\J (λb=>N b∨b∈wr) fH s':=λs' m=>
  ⟨other mT rD m (λb h=>.inr h) (λb hb q=>(n7 a F (fF b q)).1 hb) λb h=>nw (F.mn b h),jk acg mT.ng m (λb h=>.inr h) (λb h q=>nw (mw (.inr q)) h) λb=>.inl⟩
 have y1:∀{s'},Mv C.X (λb=>b∈wr) aB s'->Mv C.X (λb=>M b∨(W b∨b∈wr)) s₂ s':=λm=>mv.trans m λd h=>.inl (.inr (.inr h))
 have out:∀{s'},Mv C.X (λb=>M b∨(W b∨b∈wr)) s₂ s'->Mv C.X (λb=>M b∨W b) s s':=λm=>(Mv.of fE).trans m λd q=>q.elim (λq=>.inl (.inl q)) λq=>q.elim (λq=>.inl (.inr q)) λq=>.inr (fF d q)
 refine it.next a.ra.handled mT.ng (λb h=>.inr h) st hj (λb ob hb hw e=>?_) (λb h=>h.imp id .inl) Fs (λgp s' m=>?_) λy v s' hx m dU hv=>?_
 ·exact hb.elim (λhb=>mv.old b ob (λq=>q.elim (λq=>hb (mw (.inl q))) λq=>q.elim (λq=>hb (mw (.inr q))) hw) (λz=>hb (a.ng.tb b z)) e) λc=>mv.code b ob c e
 ·subst gp
  rw[J6]at j9
  cases j9
  have U:=fS s' m
  exact hR _ ⟨rfl,out (y1 m),⟨tX,U.1.1,U.1.2.grow (λx=>id) U.1.2.mn (λb h q=>U.1.2.m0 b h (.inl q)) λb h=>U.1.2.n0 b (.inl h)⟩,U.2⟩
 ·obtain⟨gp,dj⟩:=BM hx
  rw[dj]at j9
  refine aO j9 λM3 hf j9=>?_
  have U:=fS s' m
  refine mo (hT (λb h=>.inl (hW b h)) U.1.1 U.1.2 U.2 hv hf _) λx aX j1=>mo j1 λfw aS L=>?_
  obtain⟨rfl,L⟩:=L
  have Ft:St (j+1) aS.heap:=by
   refine it.frame _ _ _ dU λb hb ob e=>L.mv.old b ob (λq=>?_) (it.nt b hb) e
   by_cases hw:b∈wr
   ·exact nw (mw q) hw
   ·exact ig b hb hw (mw q)
  obtain⟨fl,zv⟩:=M3
  cases L.nx
  exact⟨_,less gp,j+1,zv,rfl,⟨rfl,(y1 m).trans L.mv λd h=>.inl (h.imp id .inl),L.st,L.j⟩,Ft,gp,j9⟩
end
structure O1(K:Frag)(Cc:Addr)(nm:Str):Prop where
 ga:dQ K (.ref Cc) "__getattribute__"=ab (ab (.builtin "object.__getattribute__"))
 hd:xQ K Cc=true
 no:dQ K (.ref Cc) nm=ab ae
def ach:kU.map (λn=>oN (10+kU.idxOf n))=kU:=by kernel_rfl
def gq:∀j,j<4->10+j∈wq/\(dR ((10+j)/10)).at_=175:=by decide+kernel
def Ci{P:dY}{n:Str}(h:n∈kU):O1 (KK P) 175 n:=by
 have hi:=gq _ (List.idxOf_lt_length_iff.mpr h)
 have f:=jW.mp (Om P) _ hi.1
 rw[hi.2,jW.mp (ach.trans (DD kU).symm) n h]at f
 exact⟨af (·.2.2.1) f,af (·.2.1) f,af (·.1) f⟩
section
variable{X:Kx}{k:Nat}{A:aM}{env:Env}{c:Sc}{aH M N:Addr->Prop}{ad:Nat->Addr}{r:aE}{s:az}{E:ay->az->Prop}{x dx Cc:Addr}{ns:List Str}{vs:List ay}
def zw{y nm:Str}{i j:Nat}{v:ay}{p p2:Pos}(a:At X k A env c N r s)(hy:c.slots.lookup y=ab i)(hr:get r i=ab (.ptr x))(hn:iW y=true)(ho:c.own.contains i=false)
  (I:IV s.heap x dx Cc ns vs) (gQ:ns[j]?=ab nm) (hv:vs[j]?=ab v) (cl:O1 X.K Cc nm) (hh:UI v=true) {Q:ay->az->Prop} (q:∀s',Kp X s s'->Q v s'):
  aA (model X.prog X.w) A (eval (.Attribute (.Name y p) nm p2) env) Q E s:=by
 obtain⟨es,n,hd,he⟩:=I.dict
 refine BC rfl (gC a (a.ptr hy hr ho) (iX hn).1 (iX hn).2 ?_)
 have hl:=(t9 (n:=nm) he).2 j I.nd gQ
 rw[hv]at hl
 exact anU (prog:=X.prog) (w:=X.w) a.wd.K (C:=Cc) (ox:=ny Cc dx) (od:=ab (lP es n)) ⟨I.obj,rfl,rfl,hd⟩ cl.ga (findObj_own cl.hd cl.no rfl hl) hh (q _ (Kp.of (λz z e=>e) (bj _)))
def O2{oe:aW}{p q pos:Pos}{nm:Str}{id:String}{es:List aW}{d:Addr}{vs:List ay}{Q:Flow->az->Prop}(a:At X k A env c N r s)(hb:isCall oe=false)
  (ho:∀Q':ay->az->Prop,(∀s',Kp X s s'->Q' (.ref d) s')->aA (model X.prog X.w) A (eval oe env) Q' E s) (hl:s.heap.PlainList d vs.toArray) (ht:d∉aV)
  (zx:p.endLine=q.line) (hz:es.length<20) (hp:es.all notStar=true) (slot:Slot "list" nm id) (ty:typeOf (.builtin id)=pure (.type "method_descriptor"))
  (h:∀s',Kp X s s'->aA (model X.prog X.w) A (pw (mz q (jT es env))) (λvs s'=>aA (model X.prog X.w) A (call (.builtin id) (.ref d::vs)) (λz=>Q .next) E s') E s'):
  aA (model X.prog X.w) A (exec (.Expr (.Call (.Attribute oe nm p) es [] q) pos) env) Q E s:=by
 refine DJ (vO hb zx hz hp (ho _ λs' k=>?_)) (yV a) rfl
 have hl:=hl.at λo e=>k.old _ _ ht e
 have nW:=jx env q hp
 exact Dy hl.isList.typeIs Ua slot ty (λb e=>by cases e;exact hl.elim λz e=>⟨_,e,rfl⟩) (xC nW (ie nW (h s' k)))
def Lx(X:Kx)(k:Nat)(A:aM)(env:Env)(c:Sc)(aH M N:Addr->Prop)(ad:Nat->Addr)(r:aE)(s:az)(d:Addr)(l:List T)(vs:List ay)(Q:Flow->az->Prop):Prop:=
 ∀{aB s' ws},Kp X s aB->Mv X (λb=>b=d) aB s'->At X k A env c N r s'->Fw X env c aH M N ad r s'.heap->s'.heap.PlainList d (vs++ws).toArray->aL X N s'.heap l ws->Q .next s'
def O3{d:Addr}{vs ws:List ay}{l:List T}{Q:Flow->az->Prop}{aB:az}{o:Obj}{h':Heap}(a:At X k A env c N r s)(F:Fw X env c aH M N ad r s.heap)(k₁:Kp X s aB)(e:aB.heap.get? d=ab o)(hc:¬iB o)(hN:N d)(hM:¬M d)(hf:¬Fr env d)(kk:∀b o,b≠d->aB.heap.get? b=ab o->h'.get? b=ab o)(z:aB.heap.objs.size<=h'.objs.size)
  (hl:h'.PlainList d (vs++ws).toArray) (hv:aL X N aB.heap l ws) (h:Lx X k A env c aH M N ad r s d l vs Q):Q .next {aB with heap:=h'}:=by
 have W:=B6 (tk:=aB.toks) (a.kp k₁) (F.kp a k₁) e hc hN hM hf kk z
 exact h k₁ W.1 (W.2.1.grow (.refl _) ⟨a.ng.tb,λb q=>W.2.1.ng.lt b (.inl q),a.ng.wd⟩ λb q=>.inl (.inl q)) (W.2.2.grow (λy=>id) F.mn F.m0 F.n0) hl (hv.move (λb h=>.inl h) (W.1.kc a.ng.tb λb e=>e▸hN))
def O4{oe v:aW}{p q pos:Pos}{d:Addr}{vs:List ay}{t:T}{Q:Flow->az->Prop}(a:At X k A env c N r s)(F:Fw X env c aH M N ad r s.heap)(hb:isCall oe=false)
  (ho:∀Q':ay->az->Prop,(∀s',Kp X s s'->Q' (.ref d) s')->aA (model X.prog X.w) A (eval oe env) Q' E s) (hl:s.heap.PlainList d vs.toArray) (hz:vs.length+1<=lim) (hN:N d) (hM:¬M d) (ht:d∉aV) (hf:¬Fr env d) (zx:p.endLine=q.line) (gQ:notStar v=true)
  (hv:∀s',Kp X s s'->At X k A env c N r s'->Out X A env N s' t .val [v]) (h:Lx X k A env c aH M N ad r s d [t] vs Q):
  aA (model X.prog X.w) A (exec (.Expr (.Call (.Attribute oe (bP "append") p) [v] [] q) pos) env) Q E s:=by
 refine O2 a hb ho hl ht zx (by show 1<20;decide) (rh gQ) anv anw λs0 k0=>?_
 rw[j3 gQ]
 refine eZ (vl (hv s0 k0 (a.kp k0)) λval aB k₁ hv=>gb ?_)
 have k₁:=k0.trans k₁
 have wx:=hl.at λo e=>k₁.old _ _ ht e
 refine fg (Uq (hsz:=by rw[bU];exact dS (oF hz)) wx λh' rg cb yY=>?_)
 obtain⟨n,eo⟩:=id wx
 exact O3 a F k₁ eo (nJ rfl (by decide)) hN hM hf (λb o hb e=>cb.extBut b o hb e) yY (ws:=[val]) (by rw[<-Ur];exact rg) (.one hv) h
def aci{oe v:aW}{p q pos:Pos}{d:Addr}{vs:List ay}{m:List T}{Q:Flow->az->Prop}(a:At X k A env c N r s)(F:Fw X env c aH M N ad r s.heap)(hb:isCall oe=false)
  (ho:∀Q':ay->az->Prop,(∀s',Kp X s s'->Q' (.ref d) s')->aA (model X.prog X.w) A (eval oe env) Q' E s) (hl:s.heap.PlainList d vs.toArray) (hz:vs.length+m.length<=lim) (hN:N d) (hM:¬M d) (ht:d∉aV) (hf:¬Fr env d) (zx:p.endLine=q.line) (gQ:notStar v=true)
  (hv:∀s',Kp X s s'->At X k A env c N r s'->Out X A env N s' (.lst m) .val [v]) (h:Lx X k A env c aH M N ad r s d m vs Q):
  aA (model X.prog X.w) A (exec (.Expr (.Call (.Attribute oe (bP "extend") p) [v] [] q) pos) env) Q E s:=by
 refine O2 a hb ho hl ht zx (by show 1<20;decide) (rh gQ) Kc anx λs0 k0=>?_
 rw[j3 gQ]
 refine eZ (vl (hv s0 k0 (a.kp k0)) λval aB k₁ hv=>gb (hv.eQ λb' ws rC z q7 yW=>?_))
 have k₁:=k0.trans k₁
 obtain⟨n1,o1⟩:=hl.at λo e=>k₁.old _ _ ht e
 obtain⟨n2,o2⟩:=rC
 have rb:vs.toArray.size+ws.toArray.size<=lim:=by rw[bU,show ws.toArray.size=m.length from(bU ..).trans yW.length];exact hz
 have tl:¬(!vs.toArray.isEmpty&&TH (vs.toArray.size+ws.toArray.size))=true:=λh=>by
  have h:=aq (il.mp h).2
  exact aj (aD rb (by decide)) (xq.mpr h)
 exact sM Kc ⟨_,o1,rfl⟩ anz (anA _ _) (anB _ _ n1 b' _ n2 tl (dS (aD (bX _ _) rb)) (u9 (dS rb)))
  ⟨o1,o2,O3 a F k₁ o1 (nJ rfl (by decide)) hN hM hf (λb o hb e=>(qC aB.heap d (lL λx=>x++ws.toArray)).extBut b o hb e) (bO (xA ..).symm) (Fm o1 (JF ..)) yW h⟩
end
noncomputable def Cj(K:Frag)(n:Str):Option Str:=match findCls K (.ref 76) (.type "type") n with
 |some (.val (.str s _))=>ab s
 |_=>ae
def O5(P:dY):Cj (KK P) (s_ "S")=ab (s_ " ")/\Cj (KK P) (s_ "T")=ab (s_ "\t"):=⟨by kernel_rfl,by kernel_rfl⟩
def acj(P:dY):readsIn (KK P) 76 (.type "type")=true:=by kernel_rfl
def ack:d4 (s_ "Whitespace")=ab (.ref 76):=by kernel_rfl
def acm:d4 (s_ "Entry")=ab (.ref 175):=by kernel_rfl
def O6(P:dY):keepIn (KK P) (.ref 175)=true/\keepIn (KK P) (.ref 76)=true:=⟨by kernel_rfl,by kernel_rfl⟩
section
variable{X:Kx}{k:Nat}{A:aM}{env:Env}{c:Sc}{N:Addr->Prop}{r r':aE}{s:az}{E:ay->az->Prop}
def dq.acn{a:Addr}{G:List T->Option T}(h:dq X k a G)(hk:keepIn X.K (.ref a)=true):oW X k (.ref a) G:=λA N s pos trees ts t E ra wd ng hp e args=>
 callWith_of (P:=λh=>X.K.In h) (by rw[hp];rfl) (keeps_K hk) (ie hp (mo (args E) λvs aB z=>⟨(wd.kp z.1).K,mo (h E ra (wd.kp z.1) (ng.kp z.1) z.2 e) λv s₂ q=>⟨z.1.trans q.1,q.2⟩⟩))
def O7(a:At X (k+2) A env c N r s)(hn:c.names.lookup (s_ "Entry")=ab .globalImplicit){p pos:Pos}:
  aA (model X.prog X.w) A (eval (.Call (.Name (s_ "Entry") p) [] [] pos) env) (λv s'=>∃a dA u l,v=.ref a/\EN X s a s' dA u l) E s:=
 jy (jw a acm hn (by decide) (callWith_K0 a.wd.K (O6 _).1 (acd a.ra a.wd a.ng)))
def At.less(a:At X k A env c N r s)(h:∀x i t,c.slots.lookup x=ab i->get r' i=ab t->get r i=ab t):At X k A env c N r' s:=
 ⟨⟨a.ec.kind,a.ec.names,a.ec.globals,a.ec.builtins,a.ec.vK,a.ec.jv,a.ec.has,a.ec.dz,a.ec.inj,λx i t h1 h2=>a.ec.rd x i t h1 (h x i t h1 h2)⟩,a.wd,a.ng,a.ra⟩
def Gu:El X:=by
 intro x n v hv k A env c N r s E Q p p' a hn h
 refine gi (show(if x==s_ "Whitespace"then(if n==s_ "S"then ab (s_ " ")else if n==s_ "T"then ab (s_ "\t")else ae)else ae)=ab v from hv) λhx Ck=>?_
 have hx:=ao hx;subst hx
 refine BC rfl (jw a ack hn (by decide) ?_)
 have main:Cj (KK X.w.params) n=ab v->aA (model X.prog X.w) A (sO (.ref 76) n true) Q E s:=λe=>by
  unfold Cj at e
  cases hy:findCls (KK X.w.params) (.ref 76) (.type "type") n with
  |none=>rw[hy]at e;exact aN e
  |some y=>
   rw[hy]at e
   cases y with
   |val y=>
    cases y with
    |str y t=>
     cases e
     exact cls_value a.wd.K (acj _) (v:=.str v t) hy rfl (h _ _ Kp.tok)
    |_=>exact aN e
   |_=>exact aN e
 by_cases q:(n==s_ "S")=true
 ·rw[ah q]at Ck
  have q:=ao q;subst q;cases Ck;exact main (O5 _).1
 ·rw[ai q]at Ck
  exact ifs Ck λq e=>by have q:=ao q;subst q;cases e;exact main (O5 _).2
noncomputable def Gv:List T->Option T:=a2 λm v=>cG (λm=>cG (λv=>ab (.eI m v)) v) m
noncomputable def kW(f:Nat):List T->Option T:=if f=17 then Gv elseλz=>ae
def aco:(nI 17).bind d4=ab (.ref 193):=by kernel_rfl
def c9:Ok ⟨X,λz z=>ae⟩ k where
 cat:=Gu
 fns:=λf x v z z A N s pos trees ts t E z z z z e=>aN e
 yz:=λf x z A N s pos pl trees x ov ts t E z z z z z e=>aN e
 nR:=B2 Gq
def O8:oW X (k+1) (.ref 193) Gv:=dq.call (λ{A N s ts vals t}E ra wd ng hv e=>qU e λm v q e=>ia e λm qm e=>ia e λv qv e=>by
 subst q;subst qm;subst qv;cases e;exact abu ra wd ng hv) (iM OE).at_
def rR:Ok ⟨X,kW⟩ (k+1) where
 cat:=Gu
 fns:=λf x v e hv=>by
  by_cases h:f=17
  ·subst h
   have g:=aco
   rw[e]at g
   cases (show d4 x=_ from g).symm.trans hv
   exact O8
  ·exactλA N s pos trees ts t E z z z z e=>aN ((congrFun (show kW f=_ from ai h) ts).symm.trans e)
 yz:=λf x q A N s pos pl trees x ov ts t E z z z z z e=>by
  by_cases h:f=17
  ·subst h;exact aN q
  ·exact aN ((congrFun (show kW f=_ from ai h) _).symm.trans e)
 nR:=B2 Gq
end
noncomputable def tupK(x:Xp):Nat:=if h:x.ctorIdx=25 then Expr.Tuple.elim x h λz k z=>k else default
noncomputable def fb(x:Xp)(i:Nat):Xp:=if h:x.ctorIdx=25 then Expr.Tuple.elim x h λl z z=>l.getD i default else default
noncomputable def eQ(x:Xp)(i:Nat):Xp:=if h:x.ctorIdx=24 then Expr.List.elim x h λl z=>l.getD i default else default
noncomputable def cQ(x:Xp):Xp:=if h:x.ctorIdx=16 then Expr.Call.elim x h λf z z z=>f else default
noncomputable def de(x:Xp)(i:Nat):Xp:=if h:x.ctorIdx=16 then Expr.Call.elim x h λz l z z=>l.getD i default else default
noncomputable def eK(s:Stmt):Xp:=if h:s.ctorIdx=24 then Stmt.Expr.elim s h λv z=>v else default
noncomputable def hZ(s:Stmt):Xp:=if h:s.ctorIdx=9 then Stmt.For.elim s h λt z z z z=>t else default
noncomputable def uv(s:Stmt):Xp:=if h:s.ctorIdx=9 then Stmt.For.elim s h λz t z z z=>t else default
noncomputable def oi(s:Stmt)(i:Nat):Stmt:=if h:s.ctorIdx=9 then Stmt.For.elim s h λz z b z z=>b.getD i default else default
noncomputable def O9(x:Xp)(l:List Xp):Xp:=.Tuple l (tupK x) x.pos
noncomputable def Gw(x:Xp)(l:List Xp):Xp:=.List l x.pos
noncomputable def gE(x f:Xp)(l:List Xp):Xp:=.Call f l [] x.pos
noncomputable def Gx(x:Xp)(y:Str):Xp:=.Constant (.str y) (cK x) x.pos
noncomputable def rS(x:Xp)(n a:Str):Xp:=.Attribute (.Name n (kT x).pos) a x.pos
noncomputable def uw(s:Stmt)(n a m:Str)(v:Xp):Stmt:=.Expr (gE (eK s) (.Attribute (rS (kT (cQ (eK s))) n a) m (cQ (eK s)).pos) [v]) s.pos
noncomputable def ij:Stmt:=st 198 2
noncomputable def Gy:Xp:=O9 (oa ij) [bY (fb (oa ij) 0) (s_ "turn"),bY (fb (oa ij) 1) (s_ "record")]
noncomputable def Gz:Xp:=O9 (aT ij) [fb (aT ij) 0,gE (fb (aT ij) 1) (bY (cQ (fb (aT ij) 1)) (s_ "Entry")) []]
noncomputable def oj:Xp:=de (eK (st 198 5)) 0
def acp:body 198=[st 198 0,st 198 1,.Assign [Gy] Gz ij.pos,jD (st 198 3) (s_ "record") (s_ "delay") (aT (st 198 3)),jD (st 198 4) (s_ "record") (s_ "req_rate") (aT (st 198 4)),
 uw (st 198 5) (s_ "record") (s_ "useragents") (s_ "extend") (Gw oj [Gx (eQ oj 0) (s_ "*"),rS (eQ oj 1) (s_ "record") (s_ "req_rate")]),
 .For (bY (hZ (st 198 6)) (s_ "middle")) (uv (st 198 6)) [uw (oi (st 198 6) 0) (s_ "record") (s_ "useragents") (s_ "append") (de (eK (oi (st 198 6) 0)) 0),uw (oi (st 198 6) 1) (s_ "record") (s_ "rulelines") (s_ "append") (de (eK (oi (st 198 6) 1)) 0)] [] (st 198 6).pos,
 .Return (ab (bY (md (st 198 7)) (s_ "record"))) (st 198 7).pos]:=by kernel_rfl
noncomputable def fh:Nat->List Str
 |0=>[s_ ""]
 |n+1=>(fh n).flatMap λy=>[y++s_ "u",y++s_ "r"]
noncomputable def GA:List (Str×Nat):=slots ["t","mute","turn","middles","step","record","middle"]
def Pa:(198,GA,3)∈bt:=dZ (i:=19) (by kernel_rfl)
noncomputable def lS(x:String):Ex:=.lit (.str (s_ x))
noncomputable def GB:S:=.asg 3 (.lst (.cons (lS "") .nil))
noncomputable def Cm:S:=.eV 4 (.hY (.bin .sub (.var 0) (.lit (.int 1)))) (.asg 3 (.ym 7 8 (.bin .add (.var 7) (.var 8)) (.var 3) (lS "ur")))
noncomputable def Cn:Ex:=.bin .mod (.var 2) (.prim .len (.cons (.var 3) .nil))
noncomputable def Co:Ex:=.ite (.var 1) (.lit .none) (.var 0)
noncomputable def Cp:Ex:=.ite (.var 1) (lS "R") (lS "U")
noncomputable def zy:Ex:=.bin .add (.cY false (.var 3) (.var 2) .absent) (.cY false (.var 3) .absent (.var 2))
noncomputable def Cq:Ex:=.bin .add (.bin .add (lS "R") (.var 6)) (lS "U")
noncomputable def Cr:Ex:=.call 17 (.cons (.var 6) (.cons (.ite (.var 1) (lS "") (.bin .add (.bin .add (lS "u") (.var 6)) (lS "r"))) .nil))
noncomputable def recC:Sc:=⟨(bC 198).scope.names,GA,[]⟩
noncomputable def o5(i:Nat):Xp:=de (eK (oi (st 198 6) i)) 0
noncomputable def Db.isNil{P:List Nat->Prop}(x:Db (List Nat) P):Bool:=Db.rec (motive:=λz=>Bool) false (λa z=>a.isEmpty) x
def Db.nil{P:List Nat->Prop}(x:Db (List Nat) P)(h:x.isNil=true):P []:=by cases x with|no=>exact ft h|yes a q=>exact A9.mp h▸q
def acq:bR GB recC [st 198 0] []:=Db.nil (oZ GB recC [st 198 0]) (by kernel_rfl)
def acr:bR Cm recC [st 198 1] []:=Db.nil (oZ Cm recC [st 198 1]) (by kernel_rfl)
def acs:Gd Cn .val recC [fb (aT ij) 0]:=no_implicit_lambda%(@Mb.get (Gd Cn .val recC [fb (aT ij) 0]) (bo Cn .val recC [fb (aT ij) 0]) (by kernel_rfl))
def acu:Gd Co .val recC [aT (st 198 3)]:=no_implicit_lambda%(@Mb.get (Gd Co .val recC [aT (st 198 3)]) (bo Co .val recC [aT (st 198 3)]) (by kernel_rfl))
def acv:Gd Cp .val recC [aT (st 198 4)]:=no_implicit_lambda%(@Mb.get (Gd Cp .val recC [aT (st 198 4)]) (bo Cp .val recC [aT (st 198 4)]) (by kernel_rfl))
def acw:Gd zy .ib recC [uv (st 198 6)]:=no_implicit_lambda%(@Mb.get (Gd zy .ib recC [uv (st 198 6)]) (bo zy .ib recC [uv (st 198 6)]) (by kernel_rfl))
def acx:Gd Cq .val recC [o5 0]:=no_implicit_lambda%(@Mb.get (Gd Cq .val recC [o5 0]) (bo Cq .val recC [o5 0]) (by kernel_rfl))
def acy:Gd Cr .val recC [o5 1]:=no_implicit_lambda%(@Mb.get (Gd Cr .val recC [o5 1]) (bo Cr .val recC [o5 1]) (by kernel_rfl))
def wz:notStar (fb (aT ij) 0)=true/\cZ (aT (st 198 3))=true/\cZ (aT (st 198 4))=true/\gj (uv (st 198 6))=true/\notStar (o5 0)=true/\notStar (o5 1)=true:=⟨by kernel_rfl,by kernel_rfl,by kernel_rfl,by kernel_rfl,by kernel_rfl,by kernel_rfl⟩
noncomputable def i8(t k:Nat):List Str:=(fh t).drop k++(fh t).take k
noncomputable def om(t:Nat)(u:Int):Nat:=(u.fmod ((2^t:Nat):Int)).toNat
noncomputable def rr(m:Bool):Str:=if m then s_ "R"else s_ "U"
noncomputable def vv(m:Bool)(y:Str):Str:=if m then s_ ""else s_ "u"++y++s_ "r"
noncomputable def aa(y:Str):Str:=s_ "R"++y++s_ "U"
noncomputable def Pb(t:Nat)(m:Bool)(u:Int):T:=
 .ins 1 [.lst ([.str (s_ "*"),.str (rr m)]++(i8 t (om t u)).map λy=>.str (aa y)),.lst ((i8 t (om t u)).map λy=>.eI y (vv m y)),if m then .none else .int ((t+1:Nat):Int),.str (rr m)]
noncomputable def Pc{α:Type}(f:Bool->Option α):T->Option α
 |.bool b=>f b
 |_=>ae
def acz{α:Type}{t:T}{z:α}{P:Prop}{f:Bool->Option α}(e:Pc f t=ab z)(k:∀b,t=.bool b->f b=ab z->P):P:=by cases t with|bool b=>exact k b rfl e|_=>exact aN e
noncomputable def a3(f:T->T->T->Option T):List T->Option T
 |[x,y,z]=>f x y z
 |_=>ae
def a3e{z:T}{f:T->T->T->Option T}{l:List T}{P:Prop}(e:a3 f l=ab z)(k:∀x y w,l=[x,y,w]->f x y w=ab z->P):P:=by
 cases l with
 |nil=>exact aN e
 |cons x l=>cases l with
  |nil=>exact aN e
  |cons y l=>cases l with
   |nil=>exact aN e
   |cons w l=>cases l with|nil=>exact k x y w rfl e|cons=>exact aN e
noncomputable def Pe:List T->Option T:=a3 λt m u=>bp (λt=>Pc (λm=>bp (λu=>if 1<=t/\t<=4 then ab (Pb (t.toNat - 1) m u)else ae) u) m) t
noncomputable def gR(t:Nat):List T:=(fh t).map .str
noncomputable def gF(t:Nat)(m:Bool)(x2 x3 x4 x5 x6 x9 x10:Option T):aE:=[ab (.int (t+1:Nat)),ab (.bool m),x2,x3,x4,x5,x6,ae,ae,x9,x10]
def zA{P:Nat->Prop}(h0:P 0)(h1:P 1)(h2:P 2)(h3:P 3):∀t,t<4->P t:=λt h=>by
 rcases t with _|_|_|_|t
 ·exact h0
 ·exact h1
 ·exact h2
 ·exact h3
 ·exact aj h (eX.mpr (jQ 4 t))
def acB(F:Nat->List T->Option T)(m:Bool)(u:Int)(t:Nat):ex F GB (start 8 [.int (t+1:Nat),.bool m,.int u])=ab (.next,gF t m (ab (.int u)) (ab (.lst (gR 0))) ae ae ae ae ae):=rfl
def acC(F:Nat->List T->Option T)(m:Bool)(u:Int)(t:Nat)(h:t<4):∃st,ex F Cm (gF t m (ab (.int u)) (ab (.lst (gR 0))) ae ae ae ae ae)=ab (.next,gF t m (ab (.int u)) (ab (.lst (gR t))) st ae ae ae ae):=
 zA (P:=λt=>∃st,ex F Cm (gF t m (ab (.int u)) (ab (.lst (gR 0))) ae ae ae ae ae)=ab (.next,gF t m (ab (.int u)) (ab (.lst (gR t))) st ae ae ae ae)) ⟨ae,by kernel_rfl⟩ ⟨ab (.int 0),by kernel_rfl⟩ ⟨ab (.int 1),by kernel_rfl⟩ ⟨ab (.int 2),by kernel_rfl⟩ t h
def Pg:∀t,t<4->2^t<=8:=zA (by decide) (by decide) (by decide) (by decide)
def GC(t:Nat)(u:Int):om t u<2^t:=(aoh (DU u (UU.mpr (fB t)))).mpr (UW u (UU.mpr (fB t)))
def acD(F:Nat->List T->Option T)(m:Bool)(st x5 x6 x9 x10:Option T)(t:Nat)(ht:t<4)(k:Nat)(hk:k<2^t):ev F zy (gF t m (ab (.int (k:Nat))) (ab (.lst (gR t))) st x5 x6 x9 x10)=ab (.lst ((i8 t k).map .str)):=
 jW.mp (zA (P:=λt=>(bc (2^t)).map (λk:Nat=>ev F zy (gF t m (ab (.int (k:Nat))) (ab (.lst (gR t))) st x5 x6 x9 x10))=(bc (2^t)).map λk=>ab (.lst ((i8 t k).map .str))) (by kernel_rfl) (by kernel_rfl) (by kernel_rfl) (by kernel_rfl) t ht) k (iw.mpr hk)
def Cs:∀t,t<4->(gR t).length=2^t/\∀y∈fh t,y.length<=100:=zA ⟨by kernel_rfl,by decide+kernel⟩ ⟨by kernel_rfl,by decide+kernel⟩ ⟨by kernel_rfl,by decide+kernel⟩ ⟨by kernel_rfl,by decide+kernel⟩
def acE(F:Nat->List T->Option T)(m:Bool)(st x5 x6 x9 x10:Option T)(u:Int)(t:Nat)(ht:t<4):ev F Cn (gF t m (ab (.int u)) (ab (.lst (gR t))) st x5 x6 x9 x10)=ab (.int (om t u:Nat)):=by
 show(if((gR t).length:Int)≠0 then ab (T.int (u.fmod (gR t).length))else ae)=_
 have hp:(0:Int)<((2^t:Nat):Int):=UU.mpr (fB t)
 rw[(Cs t ht).1,ah (pC hp)]
 exact af (λi=>ab (T.int i)) (AH (DU u hp)).symm
noncomputable def fJ(m:Bool)(y:T)(r:aE):Option (Fl×aE):=cG (λy=>((get r 9).bind (cH ab)).bind λua=>((get r 10).bind (cH ab)).bind λrl=>if(y.length<=100/\ua.length<=1000)/\rl.length<=1000 then
 ab (.next,put (put (put r 6 (.str y)) 9 (.lst (ua++[.str (aa y)]))) 10 (.lst (rl++[.eI y (vv m y)])))else ae) y
def acF(m:Bool)(t:Nat)(x2 x3 x4 x5:Option T):∀(ys:List Str)(x6:Option T)(ua rl:List T),ua.length+ys.length<=1000->rl.length+ys.length<=1000->(∀y∈ys,y.length<=100)->
  ∃ux,b6 (fJ m) (ys.map .str) (gF t m x2 x3 x4 x5 x6 (ab (.lst ua)) (ab (.lst rl)))=ab (.next,gF t m x2 x3 x4 x5 ux (ab (.lst (ua++ys.map λy=>.str (aa y)))) (ab (.lst (rl++ys.map λy=>.eI y (vv m y))))):=by
 intro ys
 induction ys with
 |nil=>exactλx6 ua rl x x x=>⟨x6,by rw[DV,DV,DV,kq,kq];rfl⟩
 |cons y ys ih=>
  intro x6 ua rl h1 h2 h3
  have e1:(ua++[T.str (aa y)]).length+ys.length<=1000:=by rw[bQ,g6];exact eE ys.length 1▸h1
  have e2:(rl++[T.eI y (vv m y)]).length+ys.length<=1000:=by rw[bQ,g6];exact eE ys.length 1▸h2
  obtain⟨ux,g⟩:=ih (ab (.str y)) (ua++[.str (aa y)]) (rl++[.eI y (vv m y)]) e1 e2 λz hz=>h3 z (bS _ hz)
  refine⟨ux,?_⟩
  rw[fu,fu]at g
  refine AZ ?_ g
  show(if(y.length<=100/\ua.length<=1000)/\rl.length<=1000 then _ else ae:Option (Fl×aE)).bind _=_
  rw[ah ⟨⟨h3 y bk,aD (bX _ _) h1⟩,aD (bX _ _) h2⟩]
  rfl
def Ph{a b y:Str}{F:Nat->List T->Option T}{ρ:aE}{i:Nat}(ha:a.length=1)(hb:b.length=1)(hy:y.length<=100)(e:get ρ i=ab (.str y)):ev F (.bin .add (.bin .add (.lit (.str a)) (.var i)) (.lit (.str b))) ρ=ab (.str (a++y++b)):=by
 have l1:(a++y).length=1+y.length:=by rw[sJ,ha]
 show((((get ρ i).bind λy=>a8 .add (.str a) y)).bind λx=>a8 .add x (.str b))=_
 rw[e]
 show(if a.length+y.length<=lim then ab (T.str (a++y))else ae).bind _=_
 rw[ah (by rw[ha];exact aD (f6 hy 1) (by decide))]
 show(if(a++y).length+b.length<=lim then ab (T.str (a++y++b))else ae)=_
 rw[ah (by rw[l1,hb];exact aD (cR (f6 hy 1) 1) (by decide))]
def acG{F:Nat->List T->Option T}{ρ:aE}{y:Str}(hy:y.length<=100)(e:get ρ 6=ab (.str y)):ev F Cq ρ=ab (.str (aa y)):=Ph rfl rfl hy e
def acH{ρ:aE}{m:Bool}{y:Str}(hy:y.length<=100)(e:get ρ 6=ab (.str y))(em:get ρ 1=ab (.bool m)):ev kW Cr ρ=ab (.eI y (vv m y)):=by
 have h4:ev kW (.ite (.var 1) (lS "") (.bin .add (.bin .add (lS "u") (.var 6)) (lS "r"))) ρ=ab (.str (vv m y)):=by
  have h3:=Ph (a:=s_ "u") (b:=s_ "r") (F:=kW) (i:=6) rfl rfl hy e
  refine(show _=(get ρ 1).bind _ from rfl).trans ?_
  rw[em]
  cases m with
  |true=>rfl
  |false=>exact h3
 show(((get ρ 6).bind λx=>((ev kW (.ite (.var 1) (lS "") (.bin .add (.bin .add (lS "u") (.var 6)) (lS "r"))) ρ).bind λy=>_).bind _).bind _)=_
 rw[e,h4]
 rfl
abbrev RJ(X:Kx)(N:Addr->Prop)(h:Heap)(x dx u l:Addr)(d q:ay)(ua rl:List T):Prop:=IV h x dx 175 kU [.ref u,.ref l,d,q]/\(∃us:List ay,h.PlainList u us.toArray/\aL X N h ua us)/\(∃ls:List ay,h.PlainList l ls.toArray/\aL X N h rl ls)/\ua.length<=lim/\rl.length<=lim
section
variable(h:RJ X N h x dx u l d q ua rl)
def RJ.iv:=h.1
def RJ.pu:=h.2.1
def RJ.pl:=h.2.2.1
def RJ.zu:=h.2.2.2.1
def RJ.zl:=h.2.2.2.2
end
def RW(x dx u l:Addr)(b:Addr):Prop:=b=x∨b=dx∨b=u∨b=l
def RJ.mv{X:Kx}{N N' V:Addr->Prop}{s s':az}{x dx u l:Addr}{d q:ay}{ua rl:List T}(J:RJ X N s.heap x dx u l d q ua rl)(ng:NG X N s.heap)(kb:∀b,RW x dx u l b->b∉aV)(m:Mv X V s s')(hV:∀b,V b->N b)(hW:∀b,V b->¬RW x dx u l b)(hN:∀b,N' b->N b∨s.heap.objs.size<=b):RJ X N' s'.heap x dx u l d q ua rl:=by
 have kk:∀{b},RW x dx u l b->∀o,s.heap.get? b=ab o->s'.heap.get? b=ab o:=λ{b}h o e=>m.old b o (λq=>hW b q h) (kb b h) e
 have kc:=m.kc ng.tb hV
 refine⟨J.iv.keep (kk (.inl rfl)) (kk (.inr (.inl rfl))),J.pu.imp λus h=>⟨h.1.at (kk (.inr (.inr (.inl rfl)))),h.2.move hN kc⟩,J.pl.imp λus h=>⟨h.1.at (kk (.inr (.inr (.inr rfl)))),h.2.move hN kc⟩,J.zu,J.zl⟩
def JR(X:Kx)(t:Nat)(m:Bool)(x2 x3 x4:Option T)(x dx u l:Addr)(d q:ay)(N:Addr->Prop)(r:aE)(s:az):Prop:=∃x6 ua rl,r=gF t m x2 x3 x4 (ab (.ptr x)) x6 (ab (.lst ua)) (ab (.lst rl))/\RJ X N s.heap x dx u l d q ua rl
def GD:((cQ (eK (st 198 5))).pos.endLine=(eK (st 198 5)).pos.line/\(cQ (eK (oi (st 198 6) 0))).pos.endLine=(eK (oi (st 198 6) 0)).pos.line)/\(cQ (eK (oi (st 198 6) 1))).pos.endLine=(eK (oi (st 198 6) 1)).pos.line:=⟨⟨by kernel_rfl,by kernel_rfl⟩,by kernel_rfl⟩
noncomputable def GF:List Stmt:=[uw (oi (st 198 6) 0) (s_ "record") (s_ "useragents") (s_ "append") (o5 0),uw (oi (st 198 6) 1) (s_ "record") (s_ "rulelines") (s_ "append") (o5 1)]
section
variable{X:Kx}{k:Nat}{A:aM}{env:Env}{M:Addr->Prop}
def Pj{N:Addr->Prop}{s:az}{t:Nat}{m:Bool}{x2 x3 x4 x5 x6 a b a' b':Option T}(h:At X k A env recC N (gF t m x2 x3 x4 x5 x6 a b) s):At X k A env recC N (gF t m x2 x3 x4 x5 x6 a' b') s:=h.less λx i t hx e=>by
 have h7:i<7:=aq (bA.mp (show GA.all (λp=>decide (p.2<7))=true by decide) _ (lookup_mem hx))
 rcases i with _|_|_|_|_|_|_|i
 iterate 7 exact e
 exact aj h7 (eX.mpr (jQ 7 i))
def Fw.nil{c:Sc}{aH N:Addr->Prop}{ad:Nat->Addr}{r r':aE}{h:Heap}(e:c.own=[])(F:Fw X env c aH M N ad r h):Fw X env c aH M N ad r' h:=
 have no:∀{i}{P:Prop},c.own.contains i=true->P:=λ{i P}q=>by rw[e]at q;exact ft q
 ⟨F.ck,F.mn,F.m0,F.n0,F.nd,F.cL,λi w=>no w.1,λx i t z q z=>no q,λi j w z z=>no w.1⟩
def acI{m:Bool}{aH N:Addr->Prop}{ad:Nat->Addr}{s:az}{r:aE}{y:Str}{x dx u l:Addr}{d q:ay}{ua rl:List T}{E:ay->az->Prop}{Q:Flow->az->Prop}(kb:∀b,RW x dx u l b->b∉aV)(i5:∀b,RW x dx u l b->¬Fr env b)(GG:x≠u)(zB:x≠l)(GH:dx≠u)(gD:dx≠l)(Ct:u≠l)
  (a:At X (k+1) A env recC N r s) (F:Fw X env recC aH M N ad r s.heap) (J:RJ X N s.heap x dx u l d q ua rl) (e5:get r 5=ab (.ptr x)) (e6:get r 6=ab (.str y)) (e1:get r 1=ab (.bool m)) (hz:(y.length<=100/\ua.length<=1000)/\rl.length<=1000)
  (nM:∀b,RW x dx u l b->¬M b) (hN:∀b,RW x dx u l b->N b)
  (h:∀s',Mv X (RW x dx u l) s s'->At X (k+1) A env recC N r s'->Fw X env recC aH M N ad r s'.heap->RJ X N s'.heap x dx u l d q (ua++[.str (aa y)]) (rl++[.eI y (vv m y)])->Q .next s'):aA (model X.prog X.w) A (bL GF env) Q E s:=by
 have uW:RW x dx u l u:=.inr (.inr (.inl rfl))
 have lW:RW x dx u l l:=.inr (.inr (.inr rfl))
 have zz:∀{n},n<=1000->n+1<=lim:=λh=>aD (cX h) (by decide)
 obtain⟨us,pu,vu⟩:=J.pu
 obtain⟨ls,pl,vl⟩:=J.pl
 refine i7 (O4 a F rfl (λQ' hQ=>zw a (i:=5) (j:=0) rfl e5 rfl rfl J.iv rfl rfl (Ci (me (j:=0) rfl)) rfl hQ) pu (vu.length▸zz hz.1.2) (hN u uW) (nM u uW) (kb u uW) (i5 u uW) GD.1.2 wz.2.2.2.2.1
  (λs' k' a'=>acx (rR (k:=k)) a' (acG hz.1.1 e6)) λ{s₂ aX ws}k2 cM a3 F3 GI GJ=>⟨rfl,?_⟩)
 have uy:∀{b},RW x dx u l b->b≠u->∀o,s.heap.get? b=ab o->aX.heap.get? b=ab o:=λ{b}w n o e=>cM.old b o n (kb b w) (k2.old b o (kb b w) e)
 have Pk:=J.iv.keep (uy (.inl rfl) GG) (uy (.inr (.inl rfl)) GH)
 have vl3:=(vl.kp a.ng k2).move (λb=>.inl) (cM.kc (a.ng.kp k2).tb λb e=>e▸hN u uW)
 refine c8 (O4 a3 F3 rfl (λQ' hQ=>zw a3 (i:=5) (j:=1) rfl e5 rfl rfl Pk rfl rfl (Ci (me (j:=1) rfl)) rfl hQ) (pl.at (uy lW Ct.symm)) (vl.length▸zz hz.2) (hN l lW) (nM l lW) (kb l lW) (i5 l lW) GD.2 wz.2.2.2.2.2
  (λs' k' a'=>acy (rR (k:=k)) a' (acH hz.1.1 e6 e1)) λ{aS dC ws'}k4 i9 a5 F5 pl5 vl5=>?_)
 have GK:∀{b},RW x dx u l b->b≠l->∀o,aX.heap.get? b=ab o->dC.heap.get? b=ab o:=λ{b}w n o e=>i9.old b o n (kb b w) (k4.old b o (kb b w) e)
 have mU:Mv X (RW x dx u l) s aX:=(Mv.of (M:=RW x dx u l) k2).trans cM λb e=>.inl (e▸uW)
 have m5:Mv X (RW x dx u l) s dC:=mU.trans ((Mv.of (M:=RW x dx u l) k4).trans i9 λb e=>.inl (e▸lW)) λz=>.inl
 have kc:=m5.kc a.ng.tb hN
 have kc5:=((Mv.of (M:=λb=>b=l) k4).trans i9 λb e=>.inl e).kc a3.ng.tb λb e=>e▸hN l lW
 have Pl:∀{v:List T}{w:T},v.length<=1000->(v++[w]).length<=lim:=λ{v w}h=>by rw[bQ];exact zz h
 exact h dC m5 a5 F5 ⟨Pk.keep (GK (.inl rfl) zB) (GK (.inr (.inl rfl)) gD),⟨_,GI.at (GK uW Ct),(vu.move (λb=>.inl) kc).app (GJ.move (λb=>.inl) kc5)⟩,⟨_,pl5,(vl.move (λb=>.inl) kc).app vl5⟩,Pl hz.1.2,Pl hz.2⟩
def acN{t:Nat}{m:Bool}{x2 x3 x4:Option T}{x dx u l:Addr}{d q:ay}(kb:∀b,RW x dx u l b->b∉aV)(i5:∀b,RW x dx u l b->¬Fr env b)(GG:x≠u)(zB:x≠l)(GH:dx≠u)(gD:dx≠l)(Ct:u≠l):
  O0 ⟨X,kW⟩ (k+1) A env recC M (RW x dx u l) (JR X t m x2 x3 x4 x dx u l d q) (bY (hZ (st 198 6)) (s_ "middle")) GF (fJ m):=by
 intro aH N ad s y v r p hW a F hJ hv hf E
 obtain⟨x6,ua,rl,rfl,J⟩:=hJ
 refine ia hf λy qy hf=>ifs hf λhz e=>?_
 subst qy;cases e
 have Pn:∀b,RW x dx u l b->¬M b:=λb hb q=>F.m0 b q (hW b hb)
 refine sW (l8 false a F (k₀:=6) rfl hv ft λaB ad1 uo a1 F1=>?_)
 refine acI (m:=m) (y:=y) kb i5 GG zB GH gD Ct a1 F1 (J.mv a.ng kb uo F.mn (λb h q=>Pn b q h) λb=>.inl) rfl rfl rfl hz Pn (λb h=>F1.n0 b (hW b h)) λs' m' a' F' J'=>⟨rfl,rfl,?_,⟨ad1,Pj a',F'.nil rfl⟩,⟨_,_,_,rfl,J'⟩⟩
 exact(uo.weak λb h=>.inl (.inl h)).trans m' λb h=>.inl (.inr h)
end
noncomputable def Po(t:T):Bool:=t.ctorIdx<4
def VR.sc{X:Kx}{N N':Addr->Prop}{h h':Heap}{t:T}{v:ay}(x:VR X N h t v)(q:Po t=true):VR X N' h' t v:=by
 cases t with
 |none=>exact(show v=.none from x.inv)▸.none
 |bool b=>exact(show v=.bool b from x.inv)▸.bool b
 |int i=>exact VR.eR (P:=λv=>VR X N' h' (.int i) v) x λu=>.int _ _
 |str y=>exact VR.c6 (P:=λv=>VR X N' h' (.str y) v) x λu l=>.str _ _ l
 |_=>exact ft q
abbrev RS(X:Kx)(k:Nat)(A:aM)(env:Env)(aH M N:Addr->Prop)(ad:Nat->Addr)(r:aE)(s:az)(x dx u l:Addr)(d q:ay)(ua rl:List T):Prop:=At X k A env recC N r s/\Fw X env recC aH M N ad r s.heap/\RJ X N s.heap x dx u l d q ua rl/\(∀b,RW x dx u l b->b∉aV)/\(∀b,RW x dx u l b->¬Fr env b)/\(∀b,RW x dx u l b->¬M b)/\(∀b,RW x dx u l b->N b)/\x≠u/\x≠l/\dx≠u/\dx≠l/\u≠l/\x≠dx
section
variable{ad:Nat->Addr}(h:RS X k A env aH M N ad r s x dx u l d q ua rl)
def RS.a:=h.1
def RS.F:=h.2.1
def RS.J:=h.2.2.1
def RS.at_:=h.2.2.2.1
def RS.fr:=h.2.2.2.2.1
def RS.nM:=h.2.2.2.2.2.1
def RS.hN:=h.2.2.2.2.2.2.1
def RS.xu:=h.2.2.2.2.2.2.2.1
def RS.xl:=h.2.2.2.2.2.2.2.2.1
def RS.du:=h.2.2.2.2.2.2.2.2.2.1
def RS.dl:=h.2.2.2.2.2.2.2.2.2.2.1
def RS.ul:=h.2.2.2.2.2.2.2.2.2.2.2.1
def RS.xd:=h.2.2.2.2.2.2.2.2.2.2.2.2
end
section
variable{X:Kx}{k:Nat}{A:aM}{env:Env}{aH M N:Addr->Prop}{ad:Nat->Addr}{r:aE}{s:az}{E:ay->az->Prop}{Q:Flow->az->Prop}{rest:List Stmt}{x dx u l:Addr}{d q:ay}{ua rl:List T}
def Pp{sm:Stmt}{nm:Str}{value:Xp}{t:T}{j:Nat}{dv qv:ay->ay}(R:RS X k A env aH M N ad r s x dx u l d q ua rl)(e5:get r 5=ab (.ptr x))(hv:∀E,aA (model X.prog X.w) A (eval value env) (Res X N s t) E s)(Gs:cZ value=true)(ht:Po t=true)
  (hj:kU[j]?=ab nm) (hs:∀v,[ay.ref u,.ref l,d,q].set j v=[.ref u,.ref l,dv v,qv v])
  (h:∀{v s' N'},VR X N s.heap t v->Mv X (RW x dx u l) s s'->RS X k A env aH M N' ad r s' x dx u l (dv v) (qv v) ua rl->(∀b,N' b->N b∨s.heap.objs.size<=b)->aA (model X.prog X.w) A (bL rest env) Q E s'):
  aA (model X.prog X.w) A (bL (jD sm (s_ "record") nm value::rest) env) Q E s:=by
 have dW:RW x dx u l dx:=.inr (.inl rfl)
 refine uj ⟨R.a,R.F,R.J.iv,R.at_ x (.inl rfl),R.at_ dx dW,R.hN dx dW,R.nM dx dW,R.fr dx dW,R.xd⟩ hv Gs (i:=5) rfl e5 rfl rfl (mX (me hj)) (λv hs tk es he=>(rL he).2 j R.J.iv.nd hj) R.J.iv.nd R.J.iv.Cg λ{v aB s' N'}k1 hv mv m n1 n2 up=>?_
 have mU:Mv X (λb=>b=dx) s s':=(Mv.of (M:=λb=>b=dx) k1).trans mv λb=>.inl
 have kc:=mU.kc R.a.ng.tb λb e=>e▸R.hN dx dW
 have kk:∀{b},RW x dx u l b->dx≠b->∀o,s.heap.get? b=ab o->s'.heap.get? b=ab o:=λ{b}w n o e=>mU.old b o n.symm (R.at_ b w) e
 have iv:=m.I
 rw[hs v]at iv
 exact h (hv.sc ht) (mU.sub λb e=>e▸dW) ⟨m.a,m.F,⟨iv,R.J.pu.imp λus h=>⟨h.1.at (kk (.inr (.inr (.inl rfl))) R.du),h.2.move up kc⟩,R.J.pl.imp λus h=>⟨h.1.at (kk (.inr (.inr (.inr rfl))) R.dl),h.2.move up kc⟩,R.J.zu,R.J.zl⟩,
  R.at_,R.fr,R.nM,λb h=>n2 b (R.hN b h),R.xu,R.xl,R.du,R.dl,R.ul,R.xd⟩ up
def acP{rs:Str}(R:RS X k A env aH M N ad r s x dx u l d q [] [])(e5:get r 5=ab (.ptr x))(hq:VR X N s.heap (.str rs) q)
  (h:∀{s'},Mv X (RW x dx u l) s s'->RS X k A env aH M N ad r s' x dx u l d q [.str (s_ "*"),.str rs] []->aA (model X.prog X.w) A (bL rest env) Q E s'):
  aA (model X.prog X.w) A (bL (uw (st 198 5) (s_ "record") (s_ "useragents") (s_ "extend") (Gw oj [Gx (eQ oj 0) (s_ "*"),rS (eQ oj 1) (s_ "record") (s_ "req_rate")])::rest) env) Q E s:=by
 have uW:RW x dx u l u:=.inr (.inr (.inl rfl))
 have lW:RW x dx u l l:=.inr (.inr (.inr rfl))
 obtain⟨us,pu,vu⟩:=R.J.pu
 obtain⟨ls,pl,vl⟩:=R.J.pl
 cases vu
 cases vl
 refine i7 (aci (m:=[.str (s_ "*"),.str rs]) R.a R.F rfl (λQ' hQ=>zw R.a (i:=5) (j:=0) rfl e5 rfl rfl R.J.iv rfl rfl (Ci (me (j:=0) rfl)) rfl hQ) pu (by show 0+2<=lim;decide) (R.hN u uW) (R.nM u uW) (R.at_ u uW) (R.fr u uW) GD.1.1 rfl
  (λs' k' a'=>λE=>JP ?_) λ{s₂ aX ws}k2 cM a3 F3 GI GJ=>⟨rfl,?_⟩)
 ·rw[yC rfl rfl]
  refine eZ (alZ (k:=cK (eQ oj 0)) (pos:=(eQ oj 0).pos) (eZ ?_))
  refine zw (y:=s_ "record") (nm:=s_ "req_rate") (a'.kp (Kp.tok (tk:=s'.toks+1))) (i:=5) (j:=3) rfl e5 rfl rfl ((R.J.iv.keep (λo e=>k'.old _ _ (R.at_ x (.inl rfl)) e) λo e=>k'.old _ _ (R.at_ dx (.inr (.inl rfl))) e)) rfl rfl (Ci (me (j:=3) rfl)) (handed hq) λs2 k2=>?_
  have a2:=(a'.kp (Kp.tok (tk:=s'.toks+1))).kp k2
  exact gb ⟨by show 2<=_;decide,have n:=qT a2.ng (tk:=s2.toks) (e:=0) (.cons (.str (s_ "*") s'.toks (by decide)) (.cons (hq.sc rfl) .nil)) (by show 2<=lim;decide);⟨(Kp.tok.trans k2).trans n.1,n.2.1⟩⟩
 ·have uy:∀{b},RW x dx u l b->b≠u->∀o,s.heap.get? b=ab o->aX.heap.get? b=ab o:=λ{b}w n o e=>cM.old b o n (R.at_ b w) (k2.old b o (R.at_ b w) e)
  exact h ((Mv.of (M:=RW x dx u l) k2).trans cM λb e=>.inl (e▸uW)) ⟨a3,F3,⟨R.J.iv.keep (uy (.inl rfl) R.xu) (uy (.inr (.inl rfl)) R.du),⟨_,GI,GJ⟩,⟨_,pl.at (uy lW R.ul.symm),.nil⟩,by show 2<=lim;decide,dP _⟩,
   R.at_,R.fr,R.nM,R.hN,R.xu,R.xl,R.du,R.dl,R.ul,R.xd⟩
end
def acQ:[fb (aT ij) 0,gE (fb (aT ij) 1) (bY (cQ (fb (aT ij) 1)) (s_ "Entry")) []].all (DG 8)=false:=by kernel_rfl
noncomputable def Pq:List (Str×Pos):=[(s_ "turn",(fb (oa ij) 0).pos),(s_ "record",(fb (oa ij) 1).pos)]
def zC:jA recC Pq [2,5]:=⟨rfl,λj p i h1 h2=>by
 cases j with
 |zero=>cases h1;cases h2;rfl
 |succ j=>cases j with
  |zero=>cases h1;cases h2;rfl
  |succ j=>exact aN h2,by decide,by decide⟩
def Pr{h:Heap}{u:Addr}(p:h.PlainList u #[]):∃o,h.get? u=ab o/\o.cls=.type "list":=p.elim λn e=>⟨_,e,rfl⟩
section
variable{X:Kx}{k:Nat}{A:aM}{env:Env}{aH M N:Addr->Prop}{ad:Nat->Addr}{r:aE}{s s':az}{E:ay->az->Prop}{Q:Flow->az->Prop}{rest:List Stmt}{x dx u l:Addr}
def EN.cases{P:Addr->Prop}(e:EN X s x s' dx u l)(h1:P x)(h2:P dx)(h3:P u)(h4:P l):∀b,RW x dx u l b->P b:=λb h=>h.elim (λe=>e▸h1) λh=>h.elim (λe=>e▸h2) λh=>h.elim (λe=>e▸h3) λe=>e▸h4
def EN.ge(e:EN X s x s' dx u l):∀b,RW x dx u l b->s.heap.objs.size<=b:=e.cases e.a0 e.d0 e.u0 e.l0
def EN.lt(e:EN X s x s' dx u l):∀b,RW x dx u l b->b<s'.heap.objs.size:=e.cases (bw e.iv.obj) (e.iv.dict.elim λz q=>q.elim λz q=>bw q.1) (e.pu.elim λz q=>bw q) (e.pl.elim λz q=>bw q)
def EN.rs{fG:Addr->Prop}{aB s₂ aX:az}{r':aE}(e:EN X aB x s₂ dx u l)(ng:NG X N s.heap)(i5:∀b,s.heap.objs.size<=b->¬Fr env b)(mn:∀b,M b->N b)(z:s.heap.objs.size<=aB.heap.objs.size)(k:Kp X s₂ aX)(mv:Mv X M aX s')(a:At X (k') A env recC fG r' s')(F:Fw X env recC aH M fG ad r' s'.heap)(hN:∀b,RW x dx u l b->fG b):RS X k' A env aH M fG ad r' s' x dx u l .none .none [] []:=by
 have ge:∀b,RW x dx u l b->s.heap.objs.size<=b:=λb h=>aD z (e.ge b h)
 have nM:∀b,RW x dx u l b->¬M b:=λb h q=>bx (ng.lt b (mn b q)) (ge b h)
 have nt:∀b,RW x dx u l b->b∉aV:=λb h q=>bx (ng.lt b (ng.tb b q)) (ge b h)
 have kk:∀{b},RW x dx u l b->∀o,s₂.heap.get? b=ab o->s'.heap.get? b=ab o:=λ{b}h o e=>mv.old b o (nM b h) (nt b h) (k.old b o (nt b h) e)
 have ne:∀{o b c:_}{o':Obj},s₂.heap.get? b=ab o->s₂.heap.get? c=ab o'->o.cls≠o'.cls->b≠c:=λe1 e2 n q=>by rw[q]at e1;exact n (af Obj.cls (Option.some.inj (e1.symm.trans e2)))
 obtain⟨_,du,cu⟩:=Pr e.pu
 obtain⟨_,dl,cl⟩:=Pr e.pl
 obtain⟨es,n,hd,_⟩:=e.iv.dict
 exact⟨a,F,⟨e.iv.keep (kk (.inl rfl)) (kk (.inr (.inl rfl))),⟨[],e.pu.at (kk (.inr (.inr (.inl rfl)))),.nil⟩,⟨[],e.pl.at (kk (.inr (.inr (.inr rfl)))),.nil⟩,dP _,dP _⟩,nt,λb h=>i5 b (ge b h),nM,hN,
  ne e.iv.obj du (by rw[cu];exact ay.noConfusion),ne e.iv.obj dl (by rw[cl];exact ay.noConfusion),ne hd du (by rw[cu];exactλe=>aj (ay.type.inj e) (by decide)),ne hd dl (by rw[cl];exactλe=>aj (ay.type.inj e) (by decide)),e.ul,e.ad⟩
def acR{t:Nat}{m:Bool}{i:Int}{x4:Option T}(ht:t<4)(a:At X (k+2) A env recC N (gF t m (ab (.int i)) (ab (.lst (gR t))) x4 ae ae ae ae) s)(F:Fw X env recC aH M N ad (gF t m (ab (.int i)) (ab (.lst (gR t))) x4 ae ae ae ae) s.heap)
  (h:∀{s' N' x dx u l},Mv X M s s'->RS X (k+2) A env aH M N' ad (gF t m (ab (.int (om t i:Nat))) (ab (.lst (gR t))) x4 (ab (.ptr x)) ae ae ae) s' x dx u l .none .none [] []->(∀b,RW x dx u l b->s.heap.objs.size<=b)->(∀b,N' b->N b∨s.heap.objs.size<=b)->aA (model X.prog X.w) A (bL rest env) Q E s'):
  aA (model X.prog X.w) A (bL (.Assign [Gy] Gz ij.pos::rest) env) Q E s:=by
 refine i7 (Fc (ps:=Pq) (Fb acQ) a.ra.handled zC.own zC.nd (TR ?_))
 rw[yC wz.1 rfl]
 refine eZ (vl (acs rR a (acE kW m x4 ae ae ae ae i t ht)) λv1 aB k1 o4=>eZ ?_)
 refine mo (O7 (a.kp k1) (by decide+kernel)) λev s₂ z=>?_
 obtain⟨x,dx,u,l,rfl,en⟩:=z
 have kp:Kp X s₂ {s₂ with heap:=s₂.heap.push {cls:=.type "tuple",data:=.seq [v1,.ref x].toArray}}:=Kp.push
 have Cb:=(k1.trans en.kp).trans kp
 have U:=rM (P:=RW x dx u l) a F Cb λb h=>⟨aD k1.size (en.ge b h),bG (en.lt b h) kp.size⟩
 refine gb ⟨by show 2<=_;decide,M,_,[v1,.ref x],rfl,jY.isTup ⟨0,cB _ rfl⟩,rfl,U.2.ck,λs' S=>⟨rfl,?_⟩⟩
 have V:=yP (xs:=[.int (om t i:Nat),.ptr x]) U.1 U.2 zC.hs zC.hl zC.cL rfl S (.cons (o4.sc rfl) (.cons (.ptr x) .nil))
 exact h ((Mv.of Cb).trans S.m λy=>.inl) (en.rs a.ng (λb h=>(n7 a F h).1) F.mn k1.size kp S.m V.1 V.2 λb=>.inr) (λb h=>aD k1.size (en.ge b h)) λb h=>h.imp id λh=>aD k1.size (en.ge b h)
end
noncomputable def Pt:Stmt:=.For (bY (hZ (st 198 6)) (s_ "middle")) (uv (st 198 6)) GF [] (st 198 6).pos
noncomputable def Pu:Stmt:=.Return (ab (bY (md (st 198 7)) (s_ "record"))) (st 198 7).pos
def acS{t n:Nat}(h:t<4):(i8 t n).length<=16:=by
 have e:=(Cs t h).1
 unfold gR at e
 rw[bK]at e
 unfold i8
 rw[bQ,AM,Dt,e]
 exact aD (eA (mA _ _) (TK _ _)) (aD (eA (Pg t h) (Pg t h)) (by decide))
def uz{t n:Nat}{y:Str}(h:y∈i8 t n):y∈fh t:=(u7.mp h).elim List.mem_of_mem_drop aoj
section
variable{X:Kx}{k:Nat}{A:aM}{env:Env}{aH M N:Addr->Prop}{ad:Nat->Addr}{r:aE}{s s':az}{E:ay->az->Prop}{Q:Flow->az->Prop}{rest:List Stmt}{x dx u l:Addr}{d q:ay}
abbrev RE(X:Kx)(aH M:Addr->Prop)(s:az)(t:Nat)(m:Bool)(n:Nat)(x dx u l:Addr)(d q:ay)(s':az):Prop:=(Mv X (λb=>M b∨RW x dx u l b) s s')/\(∃N,(∀b,aH b->N b)/\RJ X N s'.heap x dx u l d q ([.str (s_ "*"),.str (rr m)]++(i8 t n).map λy=>.str (aa y)) ([]++(i8 t n).map λy=>.eI y (vv m y)))
section
variable(h:RE X aH M s t m n x dx u l d q s')
def RE.mv:=h.1
def RE.n0:=h.2
end
def acT{t:Nat}{m:Bool}{n:Nat}{x4:Option T}(ht:t<4)(hn:n<2^t)(R:RS X (k+1) A env aH M N ad (gF t m (ab (.int (n:Nat))) (ab (.lst (gR t))) x4 (ab (.ptr x)) ae ae ae) s x dx u l d q [.str (s_ "*"),.str (rr m)] [])
  (h:∀s',RE X aH M s t m n x dx u l d q s'->Q (.ret (.ref x)) s'):aA (model X.prog X.w) A (bL [Pt,Pu] env) Q E s:=by
 have hl:=acS (n:=n) ht
 obtain⟨x6,GL⟩:=acF m t (ab (.int (n:Nat))) (ab (.lst (gR t))) x4 (ab (.ptr x)) (i8 t n) ae [.str (s_ "*"),.str (rr m)] [] (aD (f6 hl _) (show 2+16<=1000 by decide)) (aD (f6 hl _) (show 0+16<=1000 by decide)) λy hy=>(Cs t ht).2 y (uz hy)
 refine i7 (Kf (mo (acw (rR (k:=k)) R.a (acD kW m x4 _ _ _ _ t ht n hn) _ rfl _) λxv aB bJ=>?_) (vS wz.2.2.2.1 env))
 obtain⟨own,ho,k₁,hi⟩:=bJ
 cases ho rfl
 refine mo (hi A E R.a.ra.handled) λtS s₂ h₂=>?_
 obtain⟨fE,I,fp,wr,St,eJ,rfl,it,st,fF,ig⟩:=h₂
 have a0:At X (k+1) A env recC N (gF t m (ab (.int (n:Nat))) (ab (.lst (gR t))) x4 (ab (.ptr x)) ae (ab (.lst [.str (s_ "*"),.str (rr m)])) (ab (.lst []))) s:=Pj R.a
 have F0:Fw X env recC (λb=>aH b∨RW x dx u l b) M N ad (gF t m (ab (.int (n:Nat))) (ab (.lst (gR t))) x4 (ab (.ptr x)) ae (ab (.lst [.str (s_ "*"),.str (rr m)])) (ab (.lst []))) s.heap:=
  (R.F.nil rfl).grow (λz=>id) R.F.mn (λb h q=>q.elim (R.F.m0 b h) λq=>R.nM b q h) λb h=>h.elim (R.F.n0 b) (R.hN b)
 refine acf (C:=⟨X,kW⟩) (λq=>ft q) (acN R.at_ R.fr R.xu R.xl R.du R.dl R.ul) a0 F0 (λb=>.inr) ⟨ae,_,_,rfl,R.J⟩ (λ{V N N' r s s'}j ng mv hV hW hN=>?_) it st fE fF (λb hb hw=>(ig b hb hw).elim id λq=>aN q) GL λs' L=>⟨rfl,?_⟩
 ·obtain⟨x6,ua,rl,e,J⟩:=j
  exact⟨x6,ua,rl,e,J.mv ng R.at_ mv hV hW hN⟩
 ·obtain⟨-,mv,⟨ad',a',F'⟩,y6,ua,rl,e,J⟩:=L
  refine c8 (qB (gC a' (a'.ptr (i:=5) rfl rfl rfl) rfl rfl (h s' ⟨mv,_,λb h=>F'.n0 b (.inl h),?_⟩)))
  have e9:ab (T.lst _)=ab (.lst ua):=af (λr=>get r 9) e
  have zD:ab (T.lst _)=ab (.lst rl):=af (λr=>get r 10) e
  cases e9
  cases zD
  exact J
end
def acU:body 198=st 198 0::st 198 1::.Assign [Gy] Gz ij.pos::jD (st 198 3) (s_ "record") (s_ "delay") (aT (st 198 3))::jD (st 198 4) (s_ "record") (s_ "req_rate") (aT (st 198 4))::
 uw (st 198 5) (s_ "record") (s_ "useragents") (s_ "extend") (Gw oj [Gx (eQ oj 0) (s_ "*"),rS (eQ oj 1) (s_ "record") (s_ "req_rate")])::[Pt,Pu]:=acp
def acV(F:Nat->List T->Option T)(t:Nat)(m:Bool)(x2 x3 x4 x5:Option T):ev F Co (gF t m x2 x3 x4 x5 ae ae ae)=ab (if m then .none else .int ((t+1:Nat):Int))/\ev F Cp (gF t m x2 x3 x4 x5 ae ae ae)=ab (.str (rr m)):=by cases m<;>exact⟨rfl,rfl⟩
section
variable{X:Kx}{k:Nat}
def acW{A:aM}{N:Addr->Prop}{s:az}{E:ay->az->Prop}{t:Nat}{m:Bool}{i:Int}{vals:List ay}(ht:t<4)(ra:RA (k+3) A)(wd:Wd X s.heap)(ng:NG X N s.heap)(hv:aL X N s.heap [.int (t+1:Nat),.bool m,.int i] vals):
  aA (model X.prog X.w) A (call (.ref 198) vals) (Res X N s (Pb t m i)) E s:=by
 refine t8 8 (iM Pa) ra wd ng hv rfl λ{env aB M N'}c=>?_
 rw[acU]
 refine zk (rR (k:=k+1)) acq c.a c.F (acB kW m i t) λ{s₂ acX Pw acY}n9 a2 F2 n2 m2=>?_
 obtain⟨x4,e1⟩:=acC kW m i t ht
 refine zk (rR (k:=k+1)) acr a2 F2 e1 λ{aX Px Py acZ}cM a3 F3 n3 m3=>?_
 have b2:∀b,acX b->s.heap.objs.size<=b:=λb h=>(m2 b h).elim (c.hM b) λh=>aD c.kp.size h
 have s2:=aD c.kp.size n9.size
 have s3:=aD s2 cM.size
 have b3:∀b,Px b->s.heap.objs.size<=b:=λb h=>(m3 b h).elim (b2 b) λh=>aD s2 h
 refine acR ht a3 F3 λ{aS GN x dx u l}rQ R4 w4 n4=>?_
 have bW:∀b,RW x dx u l b->s.heap.objs.size<=b:=λb h=>aD s3 (w4 b h)
 have ee:=acV kW t m (ab (.int (om t i:Nat))) (ab (.lst (gR t))) x4 (ab (.ptr x))
 refine Pp R4 rfl (acu (rR (k:=k+1)) R4.a ee.1) wz.2.1 (by cases m<;>rfl) (j:=2) rfl (dv:=id) (qv:=λz=>.none) (λz=>rfl) λ{vd dC GO}hd i9 R5 n5=>?_
 refine Pp R5 rfl (acv (rR (k:=k+1)) R5.a ee.2) wz.2.2.1 rfl (j:=3) rfl (dv:=λz=>vd) (qv:=id) (λz=>rfl) λ{vq nU ac0}hq vU R6 n6=>?_
 refine acP R6 rfl (hq.sc rfl) λ{tR}mv7 R7=>?_
 refine acT ht (GC t i) R7 λCu Z=>?_
 have rO:∀{b},RW x dx u l b->¬N b:=λ{b}h q=>bx (ng.lt b q) (bW b h)
 have out:∀{W:Addr->Prop}{a b:az},Mv X (λz=>False) s a->Mv X W a b->(∀b,W b->s.heap.objs.size<=b)->Mv X (λz=>False) s b:=λm n h=>m.trans n λd q=>.inr (h d q)
 have Cv:=(out (out (out (out (out (out (out (Mv.of c.kp) n9 c.hM) cM b2) rQ b3) i9 bW) vU bW) mv7 bW) Z.mv λb h=>h.elim (b3 b) (bW b)).kp λz=>id
 obtain⟨Pz,n0,J⟩:=Z.n0
 obtain⟨us,pu,vu⟩:=J.pu
 obtain⟨ls,pl,vl⟩:=J.pl
 obtain⟨es,en,ed,ee'⟩:=J.iv.dict
 have nn:∀b,N b->Pz b:=λb h=>n0 b h
 exact⟨Cv,.ins (c:=1) J.iv.obj ed (rO (.inl rfl)) (rO (.inr (.inl rfl))) ee' (.cons (.lst pu (rO (.inr (.inr (.inl rfl)))) J.zu (vu.mono nn)) (.cons (.lst pl (rO (.inr (.inr (.inr rfl)))) J.zl (vl.mono nn)) (.cons (hd.sc (by cases m<;>rfl)) (.cons (hq.sc rfl) .nil))))⟩
def ac3:dq X (k+3) 198 Pe:=λA N s ts vals t E ra wd ng hv e=>by
 refine a3e e λx y z q ea=>ff ea λi qx eb=>acz eb λm qy ec=>ff ec λu qz ed=>ifs ed λh ez=>?_
 clear e ea eb ec ed
 subst q;subst qx;subst qy;subst qz;subst ez
 have g:((i.toNat - 1+1:Nat):Int)=i:=by rw[pD (aok (dn (by decide) h.1)|>.mpr h.1)];exact AH (dn (by decide) h.1)
 rw[<-g]at hv
 exact acW (UX (AX (Ue.mpr h.2)|>λz=>bI (bO (pD (aok (dn (by decide) h.1)|>.mpr h.1))) z)) ra wd ng hv
end
noncomputable def GP(ns:List (Str×jo))(l:List (Str×Nat))(ps:List Str):Bool:=
 ns.all (λp=>p.2 !=.cell)&&(ps.zip (bc ps.length)).all (λp=>l.lookup p.1==ab p.2)&&l.all (λp=>ns.lookup p.1==ab .local)&&decide ((l.map (·.1)).Nodup)&&decide ((l.map (·.2)).Nodup)&&decide ps.Nodup
abbrev pS(ns:List (Str×jo))(l:List (Str×Nat))(ps:List Str):Prop:=(∀p∈ns,p.2≠.cell)/\(∀(j:Nat)x,ps[j]?=ab x->l.lookup x=ab j)/\(∀x i,l.lookup x=ab i->ns.lookup x=ab .local)/\(l.map (·.1)).Nodup/\(l.map (·.2)).Nodup/\ps.Nodup
section
variable(h:pS ns l ps)
def pS.ac4:=h.1
def pS.slot:=h.2.1
def pS.kinds:=h.2.2.1
def pS.nd:=h.2.2.2.1
def pS.cL:=h.2.2.2.2.1
def pS.BZ:=h.2.2.2.2.2
end
def PA{ns:List (Str×jo)}{l:List (Str×Nat)}{ps:List Str}(h:GP ns l ps=true):pS ns l ps:=band h λh h6=>band h λh h5=>band h λh h4=>band h λh h3=>band h λh1 h2=>
 ⟨λp hp e=>ft ((show(p.2 !=.cell)=false by rw[e];rfl).symm.trans (bA.mp h1 p hp)),λj x hj=>ao (bA.mp h2 (x,j) (dZ (qA.mpr ⟨hj,DN (iR.mp hj).1⟩))),
  λx i hx=>ao (bA.mp h3 (x,i) (lookup_mem hx)),aq h4,aq h5,aq h6⟩
structure GQ(fd:gY)(bd:List Stmt)(l:List (Str×Nat))(ps:List Str):Prop where
 body:fd.body=.stmts bd
 glob:fd.globals=gJ
 bi:fd.builtins=jm
 kind:fd.scope.kind=.function
 co:fd.scope.isCoroutine=false
 gen:fd.scope.isGenerator=false
 sc:pS fd.scope.names l ps
structure GR(h:Heap)(fd:gY):Prop where
 dz:∀x a,fd.closure.lookup x=ab a->(∃v,h.IsCell a v)/\a∉aV
 inj:∀x y a,fd.closure.lookup x=ab a->fd.closure.lookup y=ab a->x=y
 has:∀x,fd.scope.names.lookup x=ab .cell∨fd.scope.names.lookup x=ab .free->∃a,fd.closure.lookup x=ab a
def IsCell.keep{h h':Heap}{a:Addr}{v:Option ay}(c:h.IsCell a v)(k:∀o,h.get? a=ab o->h'.get? a=ab o):h'.IsCell a v:=c.elim λo q=>⟨o,k _ q.1,q.2⟩
def ac5{α:Type}{x:Str}{v:α}{l:List (Str×α)}(nd:(l.map (·.1)).Nodup)(h:(x,v)∈l):l.lookup x=ab v:=by
 obtain⟨j,hj⟩:=sY.mp h
 exact Md nd hj
abbrev uA(X:Kx)(k:Nat)(A:aM)(fd:gY)(l:List (Str×Nat))(N:Addr->Prop)(r:aE)(s:az)(env:Env)(aB:az):Prop:=env.code=fd.code/\env.scope=fd.scope/\env.frame=ab env.locals/\env.qual=fd.qualname++".<locals>."/\env.cells=fd.closure/\env.locals=s.heap.objs.size/\(At X k (A.deeper env) env ⟨fd.scope.names,l,[]⟩ (λb=>N b∨b=s.heap.objs.size) r aB)/\(Fw X env ⟨fd.scope.names,l,[]⟩ N (λb=>b=s.heap.objs.size) (λb=>N b∨b=s.heap.objs.size) (λz=>0) r aB.heap)/\Kp X s aB
section
variable(h:uA X k A fd l N r s env aB)
def uA.cells:=h.2.2.2.2.1
def uA.loc:=h.2.2.2.2.2.1
def uA.a:=h.2.2.2.2.2.2.1
def uA.F:=h.2.2.2.2.2.2.2.1
def uA.kp:=h.2.2.2.2.2.2.2.2
end
section
variable{X:Kx}{k:Nat}{A:aM}{N:Addr->Prop}{s:az}{E:ay->az->Prop}
def PB{a:Addr}{fd:gY}{bd:List Stmt}{l:List (Str×Nat)}{ps:List Str}(n:Nat)(f:GQ fd bd l ps)(ca:GR s.heap fd){ts:List T}{vals PC:List ay}
  (ra:RA (k+1) A) (wd:Wd X s.heap) (ng:NG X N s.heap) (ho:s.heap.get? a=ab {cls:=.type "function",data:=.func fd}) (iE:s.heap.CodeRec fd.code fd.qualname) (hv:aL X N s.heap ts vals) (hl:ts.length=ps.length) (hbd:BindsTo s fd ⟨PC,[]⟩ (ps.zip vals)) {Q:ay->az->Prop}
  (h:∀{env aB},uA X k A fd l N (start n ts) s env aB->aA (model X.prog X.w) (A.deeper env) (bL bd env) (λg s'=>Q (zb g) s') (λy y=>False) aB):
  aA (model X.prog X.w) A (call (.ref a) PC) Q E s:=by
 have zc:vals.length=ps.length:=hv.length.trans hl
 refine pB (qt (R:=λr s'=>match r with|.ok (.ret v)=>Q v s'|_=>False) ?_ λr s' hr=>?_)
 ·have S:=f.sc
  refine codeAny_call_def ra.room ho rfl wd.nolimit iE f.body hbd S.ac4 (λx hx=>(sY.mp (sX hx).1).elim λj hj=>S.kinds _ _ (S.slot j _ hj)) (λh₀ gQ kk=>?_) f.co f.gen f.kind
  generalize hL:s.heap.objs.size=L at gQ
  have wm:L<h₀.objs.size:=gQ.lt
  have kp:Kp X s {s with heap:=h₀,toks:=s.toks+(ps.zip vals).length}:=Kp.of kk (by rw[hL];exact cE wm)
  have up:∀b,(N b∨b=L)->N b∨s.heap.objs.size<=b:=λb q=>q.imp id λz=>bO (hL.trans z.symm)
  have ng':NG X (λb=>N b∨b=L) h₀:=ng.more (λb q=>.inl q) wd kp.size λb q=>q.imp id λ(z:b=L)=>⟨bO (hL.trans z.symm),z▸wm⟩
  have o4:aL X (λb=>N b∨b=L) h₀ ts vals:=hv.move up λb o q eb=>kk b o eb
  have GS:∀x b,fd.closure.lookup x=ab b->(∃v,h₀.IsCell b v)/\b<L:=λx b e=>(ca.dz x b e).1.elim λv c=>⟨⟨v,IsCell.keep c λo e=>kk _ _ e⟩,hL▸c.elim λo q=>bw q.1⟩
  have kb:At X k (A.deeper (callEnv fd L a)) (callEnv fd L a) ⟨fd.scope.names,l,[]⟩ (λb=>N b∨b=L) (start n ts) {s with heap:=h₀,toks:=s.toks+(ps.zip vals).length}:=by
   refine⟨⟨f.kind,rfl,f.glob,f.bi,λq=>bx (ng.lt L (ng.tb L q)) (bO hL),λx b hb=>(ca.dz x b hb).2,λx hx=>ca.has x hx,λx b hb=>⟨(GS x b hb).1,cW (GS x b hb).2⟩,ca.inj,λx i t h1 h2=>?_⟩,wd.kp kp,ng',ra.deeper⟩
   have h3:=NM h2
   obtain⟨v,h4,h5⟩:=o4.get h3
   have dp:i<ps.length:=hl▸(iR.mp h3).1
   have hy:ps[i]?=ab ps[i]:=iu dp
   cases BP S.cL h1 (S.slot i _ hy)
   refine⟨v,.inl ⟨S.kinds _ _ h1,_,gQ,ac5 ?_ (AW.mpr (dZ (qA.mpr ⟨hy,h4⟩)))⟩,h5⟩
   rw[qw,EP zc.symm]
   exact Ux.mpr (S.BZ.imp λh e=>h e.symm)
  have FR:Fw X (callEnv fd L a) ⟨fd.scope.names,l,[]⟩ N (λb=>b=L) (λb=>N b∨b=L) (λy=>0) (start n ts) h₀:=
   ⟨⟨f.kind,⟨rfl,_,gQ⟩,λx hx=>(mC.mp hx).elim λi hi=>.inl (S.kinds x i hi),ca.inj,λx b hb q=>cW (GS x b hb).2 q⟩,λb q=>.inr q,λb q z=>bx (ng.lt b z) (bO (hL.trans q.symm)),λb q=>.inl q,S.nd,S.cL,λi w=>ft w.1,λx i t h1 h2=>ft h2,λi j w=>ft w.1⟩
  subst hL
  refine eF (h ⟨rfl,rfl,rfl,rfl,rfl,rfl,kb,FR,kp⟩) (λg s' hg=>?_) λy y z=>z.elim
  cases g<;>exact hg
 ·cases r with
  |error e=>exact hr.elim
  |ok fl=>cases fl<;>first|exact hr|exact hr.elim
def ac8{α:Type}{x:Str}:∀{l m:List (Str×α)}{i:α},(l++m).lookup x=ab i->l.lookup x=ab i∨m.lookup x=ab i:=by
 intro l m i h
 induction l with
 |nil=>exact .inr h
 |cons p l ih=>
  rw[amL,cD]at h
  rw[cD]
  cases q:x==p.1<;>rw[q]at h
  ·exact ih h
  ·exact .inl h
def At.plus{env:Env}{c:Sc}{r:aE}(a:At X k A env c N r s)(fs:List (Str×Nat))(hf:∀x i t,fs.lookup x=ab i->get r i=ab t->∃v,Rd env s.heap x v/\VR X N s.heap t v)(ho:c.own=[]):At X k A env {c with slots:=c.slots++fs} N r s:=
 ⟨⟨a.ec.kind,a.ec.names,a.ec.globals,a.ec.builtins,a.ec.vK,a.ec.jv,a.ec.has,a.ec.dz,a.ec.inj,λx i t h1 h2=>(ac8 h1).elim (λh=>a.ec.rd x i t h h2) λh=>(hf x i t h h2).elim λv z=>⟨v,z.1,by rw[ho];exact z.2⟩⟩,a.wd,a.ng,a.ra⟩
end
noncomputable def oq(n:Nat):Nat->Nat->List Nat:=Nat.rec (λx=>[x]) λz ih x=>x%2^n::ih (x/2^n)
noncomputable def gS(n:Nat)(m x:Nat):List Nat:=if m=0 then[]else oq n (m - 1) x
def ac9(n:Nat):∀m x,(oq n m x).length=m+1:=by
 intro m
 induction m with
 |zero=>exactλz=>rfl
 |succ m ih=>exactλx=>af (· +1) (ih _)
def GU(n m x:Nat):(gS n m x).length=m:=by
 cases m with
 |zero=>rfl
 |succ m=>exact ac9 n m x
def ada(n:Nat):∀a b x,oq n (a+1+b) x=oq n a (x%2^(n*(a+1)))++oq n b (x/2^(n*(a+1))):=by
 intro a
 induction a with
 |zero=>intro b x;rw[jV,eE 1 b,Ba];rfl
 |succ a ih=>
  intro b x
  have e:2^(n*(a+1+1))=2^n*2^(n*(a+1)):=by rw[<-oL,vg n (a+1),eE]
  rw[show a+1+1+b=a+1+b+1 from ku (a+1) 1 b,e]
  show x%2^n::oq n (a+1+b) (x/2^n)=(x%(2^n*2^(n*(a+1))))%2^n::(oq n a (x%(2^n*2^(n*(a+1)))/2^n)++_)
  rw[ih,Nat.mod_mod_of_dvd _ (Nat.dvd_mul_right _ _),Nat.mod_mul_right_div_self,aol]
def adb(n:Nat){a b:Nat}(x:Nat)(ha:1<=a)(hb:1<=b):gS n (a+b) x=gS n a (x%2^(n*a))++gS n b (x/2^(n*a)):=by
 cases a with
 |zero=>exact aj ha (by decide)
 |succ a=>cases b with
  |zero=>exact aj hb (by decide)
  |succ b=>exact ada n a b x
def ade(x s:Nat):x&&&(x>>>s<<<s)=x>>>s<<<s:=by
 apply aom
 intro i
 rw[aon,aoo,Nat.testBit_shiftRight]
 by_cases h:i≥s
 ·rw[vh h,ar h,amG,Bool.and_self]
 ·rw[av h,J4,UN]
def adf(x s:Nat):Tu (x:Int) ((x/2^s*2^s:Nat):Int)=((x%2^s:Nat):Int):=by
 unfold Tu
 rw[aop]
 have h:Di (x:Int) ((x/2^s*2^s:Nat):Int)=((x/2^s*2^s:Nat):Int):=by
  unfold Di
  rw[ar (cx _),ar (cx _)]
  dsimp only
  rw[jU,jU]
  have:=ade x s
  rw[aoq,Nat.shiftRight_eq_div_pow]at this
  rw[this]
 rw[h]
 have e:(x:Int)=((x/2^s*2^s:Nat):Int)+((x%2^s:Nat):Int):=by rw[<-tC,g8,vj]
 generalize x/2^s*2^s=y at e
 rw[qF,e,vk (y:Int),qF]
def bits_le{x k:Nat}(h:x<2^k):ba (x:Int)<=k:=by
 unfold ba
 split
 ·exact dP _
 ·rename_i q
  rw[DW]
  exact(KD λe=>q (by subst e;rfl)).mpr h
def rT{x k:Nat}(h:ba (x:Int)<=k):x<2^k:=by
 unfold ba at h
 split at h
 ·rename_i q
  have q:(x:Int)=0:=ao q
  cases Int.ofNat.inj q
  exact fB _
 ·rename_i q
  rw[DW]at h
  exact(KD λe=>q (by subst e;rfl)).mp h
def wC(x p:Nat):U0 (x:Int) (p:Int)=((x/p:Nat):Int):=by
 rw[aor _ (cx _)];exact(Int.natCast_ediv ..).symm
def GV(s:Nat):(2:Int)^(s:Int).toNat=((2^s:Nat):Int):=by rw[jU];exact(U1 2 s).symm
noncomputable def iT(n:Nat):T:=.int (n:Nat)
noncomputable def intsOf(l:List Nat):List T:=l.map iT
def aL.ints{X:Kx}{N N':Addr->Prop}{h h':Heap}{l:List Nat}{ws:List ay}(x:aL X N h (intsOf l) ws):aL X N' h' (intsOf l) ws:=by
 induction l generalizing ws with
 |nil=>exact aL.qK (P:=λws=>aL X N' h' [] ws) x .nil
 |cons a l ih=>exact aL.tF (P:=λws=>aL X N' h' (iT a::intsOf l) ws) x λv ws a b=>.cons (a.sc rfl) (ih b)
noncomputable def wD(s:Stmt):xh:=if h:s.ctorIdx=0 then Stmt.FunctionDef.elim s h λz p z z z z z z z z=>p else default
noncomputable def o6(s:Stmt):List Stmt:=if h:s.ctorIdx=0 then Stmt.FunctionDef.elim s h λz z b z z z z z z z=>b else default
noncomputable def jG(s:Stmt):d9:=if h:s.ctorIdx=0 then Stmt.FunctionDef.elim s h λz z z z z z s z z z=>s else default
structure Kd where
 q:Str
 d:Stmt
 a:Str
 l:List (Str×Nat)
 ps:List Str
noncomputable def k2:Kd:=⟨Bk,st 108 1,s_ "a_digits",slots ["x","L","R","mid","shift","upper","lower"],["x","L","R"].map s_⟩
noncomputable def k3:Kd:=⟨Bl,st 115 0,s_ "digits",slots ["L","R","mid","shift"],["L","R"].map s_⟩
structure jH where
 fI:Addr
 dl:Addr
 cN:Addr
 cA:Addr
 cI:Addr
 n:Nat
 cv:ay
 ct:ay
noncomputable def rU(K:Kd)(Z:jH):List (Str×Addr):=[(s_ "n",Z.cN),(s_ "inner",Z.cI),(K.a,Z.cA)]
noncomputable def ot(X:Kx)(K:Kd)(Z:jH):gY:=qJ X.mg (s_ "inner") K.q (wD K.d) (.stmts (o6 K.d)) (jG K.d) (rU K Z) Z.cv Z.ct
noncomputable def iC(K:Kd):Sc:=⟨(jG K.d).names,K.l,[]⟩
inductive IW(Z:jH):Addr->Prop
 |fI:IW Z Z.fI
 |dl:IW Z Z.dl
 |cN:IW Z Z.cN
 |cA:IW Z Z.cA
 |cI:IW Z Z.cI
abbrev ke(K:Kd):Prop:=GP (jG K.d).names K.l K.ps=true/\((jG K.d).kind=.function/\(jG K.d).isCoroutine=false/\(jG K.d).isGenerator=false)/\((jG K.d).names.all (λp=>p.2 !=.cell&&(p.2 !=.free||[s_ "n",s_ "inner",K.a].contains p.1))=true)/\(((jG K.d).names.lookup (s_ "n")=ab .free/\(jG K.d).names.lookup (s_ "inner")=ab .free)/\(jG K.d).names.lookup K.a=ab .free)/\(∀(mg:Str->Option ay)(cl:List (Str×Addr))(cv ct:ay)(g:Nat->ay),Ks (qJ mg (s_ "inner") K.q (wD K.d) (.stmts (o6 K.d)) (jG K.d) cl cv ct) ⟨(bc K.ps.length).map g,[]⟩=pure (K.ps.zip ((bc K.ps.length).map g)))
section
variable{K:Kd}(h:ke K)
def ke.sc:=h.1
def ke.kind:=h.2.1
def ke.fr:=h.2.2.1
def ke.kn:=h.2.2.2.1
def ke.bind:=h.2.2.2.2
end
def mY:ke k2:=⟨by kernel_rfl,⟨by kernel_rfl,by kernel_rfl,by kernel_rfl⟩,by kernel_rfl,⟨⟨by kernel_rfl,by kernel_rfl⟩,by kernel_rfl⟩,λmg cl cv ct g=>by kernel_rfl⟩
def wF:ke k3:=⟨by kernel_rfl,⟨by kernel_rfl,by kernel_rfl,by kernel_rfl⟩,by kernel_rfl,⟨⟨by kernel_rfl,by kernel_rfl⟩,by kernel_rfl⟩,λmg cl cv ct g=>by kernel_rfl⟩
structure gr(X:Kx)(K:Kd)(Z:jH)(h:Heap)(vs:List Nat):Prop where
 fn:h.get? Z.fI=ab {cls:=.type "function",data:=.func (ot X K Z)}
 cq:ky h Z.cv K.q
 n_:∃t,h.IsCell Z.cN (ab (.int (Z.n:Nat) t))
 a_:h.IsCell Z.cA (ab (.ref Z.dl))
 i_:h.IsCell Z.cI (ab (.ref Z.fI))
 l_:∃ws:List ay,h.PlainList Z.dl ws.toArray/\aL X (λz=>False) h (intsOf vs) ws
def gr.mv{X:Kx}{K:Kd}{Z:jH}{V:Addr->Prop}{s s':az}{vs:List Nat}(I:gr X K Z s.heap vs)(mv:Mv X V s s')(hV:∀b,IW Z b->¬V b)(ht:∀b,IW Z b->b∉aV):gr X K Z s'.heap vs:=by
 have k:∀{b},IW Z b->∀o,s.heap.get? b=ab o->s'.heap.get? b=ab o:=λ{b}w o e=>mv.old b o (hV b w) (ht b w) e
 exact⟨k .fI _ I.fn,I.cq.keep λb o c e=>mv.code b o c e,I.n_.imp λt c=>IsCell.keep c (k .cN),IsCell.keep I.a_ (k .cA),IsCell.keep I.i_ (k .cI),I.l_.imp λws h=>⟨h.1.at (k .dl),h.2.ints⟩⟩
def gr.lt{X:Kx}{K:Kd}{Z:jH}{h:Heap}{vs:List Nat}(I:gr X K Z h vs):∀b,IW Z b->b<h.objs.size:=λb w=>by
 cases w with
 |fI=>exact bw I.fn
 |dl=>exact I.l_.elim λz q=>q.1.elim λz e=>bw e
 |cN=>exact I.n_.elim λz c=>c.elim λo q=>bw q.1
 |cA=>exact I.a_.elim λo q=>bw q.1
 |cI=>exact I.i_.elim λo q=>bw q.1
def adg{α:Type}{x:Str}{l:List (Str×α)}(h:(l.map (·.1)).contains x=true):∃a,l.lookup x=ab a:=by
 obtain⟨p,hp,rfl⟩:=dy.mp (jq.mp h)
 induction l with
 |nil=>exact(gM hp).elim
 |cons q l ih=>
  rw[cD]
  cases e:p.1==q.1 with
  |true=>exact⟨_,rfl⟩
  |false=>exact(br.mp hp).elim (λz=>by rw[z,ax]at e;exact tf e) λz=>ih z (jq.mpr (dy.mpr ⟨_,z,rfl⟩))
def PD{x y z w:Str}{a b c d:Addr}{P:Prop}(h:[(x,a),(y,b),(z,c)].lookup w=ab d)(h1:w=x->d=a->P)(h2:w=y->d=b->P)(h3:w=z->d=c->P):P:=by
 rw[cD]at h
 cases q:w==x with
 |true=>rw[q]at h;exact h1 (ao q) (Option.some.inj h).symm
 |false=>rw[q]at h;exact vT h h2 h3
def gr.za{X:Kx}{K:Kd}{Z:jH}{h:Heap}{vs:List Nat}(ok:ke K)(I:gr X K Z h vs)(ht:∀b,IW Z b->b∉aV)(nd:[Z.cN,Z.cI,Z.cA].Nodup):GR h (ot X K Z):=
 ⟨λx a e=>PD (show(rU K Z).lookup x=ab a from e) (λz q=>q▸⟨I.n_.elim λt c=>⟨_,c⟩,ht _ .cN⟩) (λz q=>q▸⟨⟨_,I.i_⟩,ht _ .cI⟩) λz q=>q▸⟨⟨_,I.a_⟩,ht _ .cA⟩,
  λx y a h1 h2=>BP (l:=rU K Z) nd h1 h2,λx hx=>adg (l:=rU K Z) (hx.elim (λe=>band (bA.mp ok.fr _ (lookup_mem e)) λq z=>ft q) λe=>band (bA.mp ok.fr _ (lookup_mem e)) λz q=>q)⟩
def adh{X:Kx}{K:Kd}{Z:jH}(ok:ke K):GQ (ot X K Z) (o6 K.d) K.l K.ps:=⟨rfl,rfl,rfl,ok.kind.1,ok.kind.2.1,ok.kind.2.2,PA ok.sc⟩
def adi{X:Kx}{K:Kd}{Z:jH}(ok:ke K){s:az}{vals:List ay}(h:vals.length=K.ps.length):BindsTo s (ot X K Z) ⟨vals,[]⟩ (K.ps.zip vals):=by
 have e:=ok.bind X.mg (rU K Z) Z.cv Z.ct λi=>vals.getD i default
 rw[<-h,<-Oi]at e
 exact BindsTo.of_eq e
abbrev IQ(X:Kx)(K:Kd)(Z:jH)(k:Nat)(A:aM)(env:Env)(N W:Addr->Prop)(aP:az)(r:aE)(s:az)(vs:List Nat):Prop:=(At X k A env (iC K) (λb=>N b∨b=aP.heap.objs.size) r s)/\(∃ad,Fw X env (iC K) N (λb=>b=aP.heap.objs.size) (λb=>N b∨b=aP.heap.objs.size) ad r s.heap)/\gr X K Z s.heap vs/\env.cells=rU K Z/\env.locals=aP.heap.objs.size/\(∀b,IW Z b->b<aP.heap.objs.size)/\(∀b,IW Z b->b∉aV)/\Mv X W aP s
section
variable{K:Kd}(h:IQ X K Z k A env N W aP r s vs)
def IQ.a:=h.1
def IQ.F:=h.2.1
def IQ.I:=h.2.2.1
def IQ.ce:=h.2.2.2.1
def IQ.lo:=h.2.2.2.2.1
def IQ.lt:=h.2.2.2.2.2.1
def IQ.nt:=h.2.2.2.2.2.2.1
def IQ.mv:=h.2.2.2.2.2.2.2
end
def At.ext{X:Kx}{k:Nat}{A:aM}{env:Env}{c:Sc}{N:Addr->Prop}{r:aE}{s:az}(a:At X k A env c N r s)(e:aE)(h:c.slots.all (λp=>decide (p.2<r.length))=true):At X k A env c N (r++e) s:=
 a.less λx i t hx g=>by
  have hi:i<r.length:=aq (bA.mp h _ (lookup_mem hx))
  rw[get_eq,anS hi,<-get_eq]at g
  exact g
def adj{n:Nat}{ts:List T}:(start n ts).length=ts.length+n:=by unfold start;rw[bQ,bK,qG]
section
variable{X:Kx}{K:Kd}{Z:jH}{k:Nat}{A:aM}{env:Env}{N W:Addr->Prop}{aP s s':az}{r:aE}{vs j2:List Nat}{E:ay->az->Prop}{Q:Flow->az->Prop}{rest:List Stmt}
def PE(ok:ke K)(I:gr X K Z s.heap vs)(nt:∀b,IW Z b->b∉aV)(nd:[Z.cN,Z.cI,Z.cA].Nodup){ts:List T}{vals:List ay}(n:Nat)(e:aE)(he:K.l.all (λp=>decide (p.2<ts.length+n))=true)(hl:ts.length=K.ps.length)
  (ra:RA (k+1) A) (wd:Wd X s.heap) (ng:NG X N s.heap) (hv:aL X N s.heap ts vals) {Q:ay->az->Prop}
  (h:∀{env aB},IQ X K Z k (A.deeper env) env N W s (start n ts++e) aB vs->aA (model X.prog X.w) (A.deeper env) (bL (o6 K.d) env) (λg s'=>Q (zb g) s') (λz z=>False) aB):
  aA (model X.prog X.w) A (call (.ref Z.fI) vals) Q E s:=
 PB n (adh ok) (I.za ok nt nd) ra wd ng I.fn I.cq.ue hv hl (adi ok (hv.length.trans hl)) λ{env aB}c=>
  h ⟨At.ext c.a e (by rw[adj];exact he),⟨_,c.F.nil rfl⟩,I.mv (Mv.of (M:=λz=>False) c.kp) (λz z=>id) nt,c.cells,c.loc,I.lt,nt,.of c.kp⟩
def IQ.kp(q:IQ X K Z k A env N W aP r s vs)(k1:Kp X s s'):IQ X K Z k A env N W aP r s' vs:=
 ⟨q.a.kp k1,q.F.imp λad F=>F.kp q.a k1,q.I.mv (Mv.of (M:=λz=>False) k1) (λz z=>id) q.nt,q.ce,q.lo,q.lt,q.nt,q.mv.trans (Mv.of (M:=W) k1) λz=>.inl⟩
def IQ.cell(ok:ke K)(q:IQ X K Z k A env N W aP r s vs){x:Str}{b:Addr}{v:ay}(hk:(jG K.d).names.lookup x=ab .free)(hl:(rU K Z).lookup x=ab b)(c:s.heap.IsCell b (ab v)):Rd env s.heap x v:=
 .inr ⟨.inr (by rw[q.a.kd];exact hk),b,by rw[q.ce];exact hl,c⟩
def PF{x y:Str}{i j:Nat}{P:Prop}(h:[(x,i)].lookup y=ab j)(k:y=x->j=i->P):P:=by
 rw[cD]at h
 cases q:y==x with
 |true=>rw[q]at h;exact k (ao q) (Option.some.inj h).symm
 |false=>rw[q]at h;exact aN h
def IQ.n(ok:ke K)(q:IQ X K Z k A env N W aP r s vs){j:Nat}(hj:get r j=ab (iT Z.n)):At X k A env {iC K with slots:=K.l++[(s_ "n",j)]} (λb=>N b∨b=aP.heap.objs.size) r s:=
 q.a.plus [(s_ "n",j)] (λx i t h1 h2=>PF h1 λex ei=>by
  rw[ei,hj]at h2
  rw[ex]
  exact q.I.n_.elim λu c=>⟨_,q.cell ok ok.kn.1.1 rfl c,Option.some.inj h2▸.int _ _⟩) rfl
def IQ.asg{sm:Stmt}{x:Str}{i:Nat}{t:T}{v:Xp}(q:IQ X K Z k A env N W aP r s vs)(hW:∀b,b=aP.heap.objs.size->W b∨aP.heap.objs.size<=b)(hx:K.l.lookup x=ab i)(hp:cZ v=true)
  (hv:∀E,aA (model X.prog X.w) A (eval v env) (Res X (λb=>N b∨b=aP.heap.objs.size) s t) E s) (h:∀{s'},IQ X K Z k A env N W aP (put r i t) s' vs->aA (model X.prog X.w) A (bL rest env) Q E s'):
  aA (model X.prog X.w) A (bL (mW sm x v::rest) env) Q E s:=by
 refine i7 (xM (mo (hv _) λval aB z=>?_) (mS hp))
 have q1:=q.kp z.1
 obtain⟨ad,F1⟩:=q1.F
 refine l8 false q1.a F1 hx z.2 ft λs₂ ad2 mv a2 F2=>⟨rfl,h ⟨a2,⟨ad2,F2⟩,q1.I.mv mv (λb w e=>cW (q.lt b w) e) q.nt,q.ce,q.lo,q.lt,q.nt,q1.mv.trans mv λb e=>hW b e⟩⟩
def IQ.call{as:List Xp}{ts:List T}{p pos:Pos}{Q:ay->az->Prop}(ok:ke K)(q:IQ X K Z k A env N W aP r s vs)(hs:as.all notStar=true)(hv:Out X A env (λb=>N b∨b=aP.heap.objs.size) s (.tup ts) .chain as)
  (h:∀{vals s'},IQ X K Z k A env N W aP r s' vs->Kp X s s'->aL X (λb=>N b∨b=aP.heap.objs.size) s'.heap ts vals->aA (model X.prog X.w) A (call (.ref Z.fI) vals) Q E s'):
  aA (model X.prog X.w) A (eval (.Call (.Name (s_ "inner") p) as [] pos) env) Q E s:=
 jy (gC q.a (q.cell ok ok.kn.1.2 rfl q.I.i_) rfl rfl (A4 (o:={cls:=.type "function",data:=.func (ot X K Z)}) (fd:=ot X K Z) (ie (jx env pos hs) (cl hv λvals s' k1 hv'=>⟨⟨(q.kp k1).I.fn,rfl⟩,h (q.kp k1) k1 hv'⟩))))
def IQ.wr(q:IQ X K Z k A env N W aP r s vs)(mv:Mv X (λb=>b=Z.dl) s s')(I:gr X K Z s'.heap j2)(hN:N Z.dl)(hW:W Z.dl)(nd:Z.dl≠Z.cN/\Z.dl≠Z.cI/\Z.dl≠Z.cA):IQ X K Z k A env N W aP r s' j2:=by
 obtain⟨ad,F⟩:=q.F
 have U:=other q.a F mv (λb e=>e▸.inl hN) (λb hb e=>hb.elim (λh=>cW (q.lt _ .dl) (e▸h.trans q.lo)) λh=>h.elim λx hx=>by
  rw[q.ce]at hx
  exact PD hx (λz w=>nd.1 (e.symm.trans w)) (λz w=>nd.2.1 (e.symm.trans w)) λz w=>nd.2.2 (e.symm.trans w)) λb hb e=>cW (q.lt _ .dl) (e.symm.trans hb)
 exact⟨U.1,⟨ad,U.2⟩,I,q.ce,q.lo,q.lt,q.nt,q.mv.trans mv λb e=>.inl (e▸hW)⟩
def gr.nd{h:Heap}(I:gr X K Z h vs):(Z.dl≠Z.cN/\Z.dl≠Z.cI/\Z.dl≠Z.cA)/\Z.dl≠Z.fI:=by
 obtain⟨ws,⟨n,e⟩,_⟩:=I.l_
 have c:∀{b v},h.IsCell b v->Z.dl≠b:=λ{b v}c q=>c.elim λo w=>by
  rw[<-q,e]at w
  cases Option.some.inj w.1
  exact Data.noConfusion (af (λx=>x) w.2)
 exact⟨⟨I.n_.elim λt w=>c w,c I.i_,c I.a_⟩,λq=>by
  have f:=I.fn
  rw[<-q,e]at f
  exact Data.noConfusion (af Obj.data (Option.some.inj f))⟩
end
noncomputable def mh(s:Stmt):Xp:=if h:s.ctorIdx=12 then Stmt.If.elim s h λt z z z=>t else default
noncomputable def ja(s:Stmt)(i:Nat):Stmt:=if h:s.ctorIdx=12 then Stmt.If.elim s h λz b z z=>b.getD i default else default
noncomputable def zE(x:Xp):Xp:=if h:x.ctorIdx=21 then Expr.Subscript.elim x h λy z z=>y else default
noncomputable def uB(x:Xp):Xp:=if h:x.ctorIdx=21 then Expr.Subscript.elim x h λz y z=>y else default
noncomputable def fi(x:Xp):List Xp:=if h:x.ctorIdx=16 then Expr.Call.elim x h λz l z z=>l else default
noncomputable def zF(x:Xp)(n:Str):Xp:=gE x (bY (cQ x) n) (fi x)
noncomputable def b2(i:Nat):Stmt:=(o6 k2.d).getD i default
noncomputable def s2:Stmt:=.Assign [.Subscript (bY (zE (oa (ja (b2 0) 0))) (s_ "a_digits")) (bY (uB (oa (ja (b2 0) 0))) (s_ "L")) (oa (ja (b2 0) 0)).pos] (bY (aT (ja (b2 0) 0)) (s_ "x")) (ja (b2 0) 0).pos
noncomputable def c2(i:Nat):Stmt:=.Expr (zF (eK (b2 i)) (s_ "inner")) (b2 i).pos
def adm:o6 k2.d=.If (mh (b2 0)) [s2,.Return ae (ja (b2 0) 1).pos] [] (b2 0).pos::mW (b2 1) (s_ "mid") (aT (b2 1))::mW (b2 2) (s_ "shift") (aT (b2 2))::mW (b2 3) (s_ "upper") (aT (b2 3))::mW (b2 4) (s_ "lower") (aT (b2 4))::[c2 5,c2 6]:=by kernel_rfl
noncomputable def gG:Sc:={iC k2 with slots:=k2.l++[(s_ "n",7)]}
noncomputable def eT(l r:Nat):Ex:=.cmp .eq (.bin .add (.var l) (.lit (.int 1))) (.var r)
noncomputable def eM(l r:Nat):Ex:=.bin .shr (.bin .add (.var l) (.var r)) (.lit (.int 1))
noncomputable def eS(l m n:Nat):Ex:=.bin .mul (.bin .sub (.var m) (.var l)) (.var n)
noncomputable def eU:Ex:=.bin .shr (.var 0) (.var 4)
noncomputable def eL:Ex:=.bin .bxor (.var 0) (.bin .shl (.var 5) (.var 4))
noncomputable def e3(a b c:Nat):Ex:=.cons (.var a) (.cons (.var b) (.cons (.var c) .nil))
def g2t:Gd (eT 1 2) .a9 gG [mh (b2 0)]:=no_implicit_lambda%(@Mb.get (Gd (eT 1 2) .a9 gG [mh (b2 0)]) (bo (eT 1 2) .a9 gG [mh (b2 0)]) (by kernel_rfl))
def g2m:Gd (eM 1 2) .val gG [aT (b2 1)]:=no_implicit_lambda%(@Mb.get (Gd (eM 1 2) .val gG [aT (b2 1)]) (bo (eM 1 2) .val gG [aT (b2 1)]) (by kernel_rfl))
def g2s:Gd (eS 1 3 7) .val gG [aT (b2 2)]:=no_implicit_lambda%(@Mb.get (Gd (eS 1 3 7) .val gG [aT (b2 2)]) (bo (eS 1 3 7) .val gG [aT (b2 2)]) (by kernel_rfl))
def g2u:Gd eU .val gG [aT (b2 3)]:=no_implicit_lambda%(@Mb.get (Gd eU .val gG [aT (b2 3)]) (bo eU .val gG [aT (b2 3)]) (by kernel_rfl))
def g2l:Gd eL .val gG [aT (b2 4)]:=no_implicit_lambda%(@Mb.get (Gd eL .val gG [aT (b2 4)]) (bo eL .val gG [aT (b2 4)]) (by kernel_rfl))
def g2a:Gd (e3 6 1 3) .chain gG (fi (eK (b2 5))):=no_implicit_lambda%(@Mb.get (Gd (e3 6 1 3) .chain gG (fi (eK (b2 5)))) (bo (e3 6 1 3) .chain gG (fi (eK (b2 5)))) (by kernel_rfl))
def g2b:Gd (e3 5 3 2) .chain gG (fi (eK (b2 6))):=no_implicit_lambda%(@Mb.get (Gd (e3 5 3 2) .chain gG (fi (eK (b2 6)))) (bo (e3 5 3 2) .chain gG (fi (eK (b2 6)))) (by kernel_rfl))
def wG:cZ (aT (b2 1))=true/\cZ (aT (b2 2))=true/\cZ (aT (b2 3))=true/\cZ (aT (b2 4))=true/\(fi (eK (b2 5))).all notStar=true/\(fi (eK (b2 6))).all notStar=true:=⟨by kernel_rfl,by kernel_rfl,by kernel_rfl,by kernel_rfl,by kernel_rfl,by kernel_rfl⟩
section
variable{F:Nat->List T->Option T}{ρ:aE}{l r m n L M x s:Nat}
def PG(h1:get ρ l=ab (iT L))(h2:get ρ r=ab (iT (L+M))):ev F (eT l r) ρ=ab (.bool (decide (M=1))):=by
 show((((get ρ l).bind λx=>a8 .add x (.int 1))).bind λx=>(get ρ r).bind λy=>(qM .eq x y).map T.bool)=_
 rw[h1,h2]
 refine af (λb=>ab (T.bool b)) (xr.mpr ?_)
 rw[aw,decide_eq_true_iff]
 exact⟨λh=>(Nat.add_left_cancel (Int.ofNat.inj h)).symm,λh=>h▸rfl⟩
def rV:a8 .shr (iT x) (iT s)=ab (iT (x/2^s)):=by
 show(if(0:Int)<=(s:Int)then ab (T.int (U0 (x:Int) (2^(s:Int).toNat)))else ae)=_
 rw[ah (cx _),GV,wC]
 rfl
def PH(h1:get ρ l=ab (iT L))(h2:get ρ r=ab (iT (L+M))):ev F (eM l r) ρ=ab (iT (L+M/2)):=by
 show(((get ρ l).bind λx=>(get ρ r).bind λy=>a8 .add x y).bind λx=>a8 .shr x (.int 1))=_
 rw[h1,h2]
 show a8 .shr (iT (L+(L+M))) (iT 1)=_
 rw[rV,<-g6,<-DX,aos (by decide)]
def PJ(h1:get ρ l=ab (iT L))(h2:get ρ m=ab (iT (L+M)))(h3:get ρ n=ab (iT x))(hM:M<=64)(hx:x<=100000):ev F (eS l m n) ρ=ab (iT (x*M)):=by
 show(((get ρ m).bind λx=>(get ρ l).bind λy=>a8 .sub x y).bind λx=>(get ρ n).bind λy=>a8 .mul x y)=_
 rw[h1,h2,h3]
 show(if(ba (((L+M:Nat):Int) - (L:Int)):Int)+ba (x:Int)<=1000000 then ab (T.int ((((L+M:Nat):Int) - (L:Int))*(x:Int)))else ae)=_
 rw[show((L+M:Nat):Int) - (L:Int)=(M:Int)by rw[tC,vk,qF],U3]
 have b:∀{y:Nat},y<=100000->ba (y:Int)<=17:=λh=>bits_le (bI h (by decide))
 exact ah (dn (dh.mpr (eA (b (aD hM (by decide))) (b hx))) (by decide))
def adv(h1:get ρ 0=ab (iT x))(h2:get ρ 4=ab (iT s)):ev F eU ρ=ab (iT (x/2^s)):=by
 show((get ρ 0).bind λx=>(get ρ 4).bind λy=>a8 .shr x y)=_
 rw[h1,h2]
 exact rV
def PK{y:Nat}(hy:y<2^800000)(hs:s<=100000):a8 .shl (iT y) (iT s)=ab (iT (y*2^s)):=by
 show(if(0:Int)<=(s:Int)/\(ba (y:Int):Int)+(s:Int)<=1000000 then ab (T.int ((y:Int)*(2^(s:Int).toNat)))else ae)=_
 rw[ah ⟨cx _,dn (dh.mpr (eA (bits_le hy) hs)) (by decide)⟩,GV,<-Dk]
 rfl
def adw(h1:get ρ 0=ab (iT x))(h2:get ρ 4=ab (iT s))(h3:get ρ 5=ab (iT (x/2^s)))(hx:x<2^800000)(hs:s<=100000):ev F eL ρ=ab (iT (x%2^s)):=by
 show((get ρ 0).bind λx=>(((get ρ 5).bind λx=>(get ρ 4).bind λy=>a8 .shl x y)).bind λy=>a8 .bxor x y)=_
 rw[h1,h2,h3]
 show((a8 .shl (iT (x/2^s)) (iT s)).bind λy=>a8 .bxor (iT x) y)=_
 rw[PK (bI (xU _ _) hx) hs]
 exact af (λi=>ab (T.int i)) (adf x s)
def PM{a b c:Nat}{t u v:T}(h1:get ρ a=ab t)(h2:get ρ b=ab u)(h3:get ρ c=ab v):ev F (e3 a b c) ρ=ab (.tup [t,u,v]):=by
 show((get ρ a).bind λx=>((get ρ b).bind λy=>((get ρ c).bind λz=>(bH (λl=>ab (T.tup (z::l))) (.tup []))).bind (bH λl=>ab (T.tup (y::l)))).bind (bH λl=>ab (T.tup (x::l))))=_
 rw[h1,h2,h3]
 rfl
end
section
variable{X:Kx}{K:Kd}{Z:jH}{k:Nat}{A:aM}{env:Env}{N W:Addr->Prop}{aP s s':az}{r:aE}{vs j2:List Nat}{E:ay->az->Prop}{Q:Flow->az->Prop}{rest:List Stmt}
def At.int{c:Sc}{y:Str}{i:Nat}{a:Int}(h:At X k A env c N r s)(h1:c.slots.lookup y=ab i)(h2:get r i=ab (.int a))(ho:c.own.contains i=false):∃t,Rd env s.heap y (.int a t):=by
 obtain⟨v,r1,r2⟩:=h.vr h1 h2 ho
 exact VR.eR (P:=λv=>Rd env s.heap y v->∃t,Rd env s.heap y (.int a t)) r2 (λt r=>⟨t,r⟩) r1
def adx{x:Nat}{p r':List Nat}{z:Nat}(q:IQ X k2 Z k A env N W aP r s (p++([z]++r')))(e0:get r 0=ab (iT x))(e1:get r 1=ab (iT p.length))(hl:(p++([z]++r')).length<=64)
  (h:∀s',Mv X (λb=>b=Z.dl) s s'->gr X k2 Z s'.heap (p++([x]++r'))->aA (model X.prog X.w) A (bL rest env) Q E s'):aA (model X.prog X.w) A (bL (s2::rest) env) Q E s:=by
 obtain⟨tx,rx⟩:=q.a.int (y:=s_ "x") (i:=0) rfl e0 rfl
 obtain⟨tl,rl⟩:=q.a.int (y:=s_ "L") (i:=1) rfl e1 rfl
 obtain⟨ws,pl,vl⟩:=q.I.l_
 have hw:ws.length=(p++([z]++r')).length:=vl.length.trans (bK ..)
 have hL:p.length<ws.length:=by rw[hw,bQ];exact vc (eG _)
 refine i7 (Uy (gC q.a rx rfl rfl (gC q.a (q.cell mY mY.kn.2 rfl q.I.a_) rfl rfl (gC q.a rl rfl rfl ?_))) (mS rfl))
 refine fg (MU pl (cx _) (fA.mpr (bG (hw▸hL) (aD hl (by decide)))) (fA.mpr (by rw[bU];exact hL)) λh' rB cb yY=>⟨rfl,?_⟩)
 obtain⟨ne,eo⟩:=id pl
 have mv:Mv X (λb=>b=Z.dl) s {s with heap:=h'}:=Mv.put eo (nJ rfl (by decide)) (λb o hb e=>cb.extBut b o hb e) yY
 have kk:∀{b},b≠Z.dl->∀o,s.heap.get? b=ab o->h'.get? b=ab o:=λ{b}hb o e=>cb.extBut b o hb e
 have nd:=q.I.nd
 refine h _ mv ⟨kk nd.2.symm _ q.I.fn,q.I.cq.keep λb o c e=>mv.code b o c e,q.I.n_.imp λt c=>IsCell.keep c (kk nd.1.1.symm),IsCell.keep q.I.a_ (kk nd.1.2.2.symm),IsCell.keep q.I.i_ (kk nd.1.2.1.symm),ws.set p.length (.int (x:Nat) tx),?_,?_⟩
 ·rw[jU,anD]at rB;exact rB
 ·have e:intsOf (p++([x]++r'))=(intsOf (p++([z]++r'))).set p.length (iT x):=by
   unfold intsOf
   rw[mD,mD,mD,List.set_append_right _ _ (bO (bK ..)),bK,DY]
   rfl
  rw[e]
  exact(aL.ints vl).set _ (.int _ _)
def PN{m:Nat}(h1:1<=m)(h:m≠1):1<=m/2/\m/2<m/\1<=m - m/2/\m - m/2<m/\m/2+(m - m/2)=m:=
 have h2:2<=m:=aot h1 λe=>h e.symm
 have a:1<=m/2:=(UJ (by decide)).mpr h2
 have b:m/2<m:=aou h1 (by decide)
 ⟨a,b,U5 (eE 1 _▸b),qp h1 a,vh (cE b)⟩
def ady(nt:∀b,IW Z b->b∉aV)(nd:[Z.cN,Z.cI,Z.cA].Nodup):∀(m:Nat){x:Nat}{p q r:List Nat}{A:aM}{N:Addr->Prop}{s:az}{E:ay->az->Prop}{vals:List ay},q.length=m->1<=m->Z.n*m<=100000->x<2^800000->(p++(q++r)).length<=64->RA (m+3) A->Wd X s.heap->NG X N s.heap->N Z.dl->
  gr X k2 Z s.heap (p++(q++r))->aL X N s.heap [iT x,iT p.length,iT (p.length+m)] vals->aA (model X.prog X.w) A (call (.ref Z.fI) vals) (λv s'=>v=.none/\Mv X (λb=>b=Z.dl) s s'/\gr X k2 Z s'.heap (p++(gS Z.n m x++r))) E s:=by
 intro m
 induction m using aov with
 |ind m ih=>
  intro x p q r A N s E vals hq h1 hn hx hl ra wd ng hN I hv
  refine PE (W:=λb=>b=Z.dl) mY I nt nd 4 [ab (iT Z.n)] rfl rfl ra wd ng hv λ{env aB}Q=>?_
  rw[adm]
  refine execs_cons (c8 (J9 (tl (g2t (c9 (k:=m+2)) (Q.n mY rfl) (PG rfl rfl)) rfl λs₂ k₂=>?_)))
  have Q2:=Q.kp k₂
  have cut:∀{b},b=s.heap.objs.size->b=Z.dl∨s.heap.objs.size<=b:=λe=>.inr (bO e.symm)
  by_cases hm:m=1
  ·subst hm
   rw[show(T.bool (decide (1=1))).truth=true from rfl,ah rfl]
   obtain⟨z,rfl⟩:=aow.mp hq
   exact adx Q2 rfl rfl hl λaX mv I3=>c8 (wpAny_Return_none ⟨λe=>Flow.noConfusion e,λy=>⟨rfl,Q2.mv.trans mv λy=>.inl,I3⟩⟩)
  ·rw[show(T.bool (decide (m=1))).truth=false from av hm,ai bT]
   have H:=PN h1 hm
   have kK:m<=64:=aD (hq▸(by rw[bQ,bQ];exact aD (bX _ _) (jQ _ _))) hl
   have fU:Z.n*(m/2)<=100000:=aD (ko _ (cE H.2.1)) hn
   have GW:Z.n<=100000:=aD (Bb _ h1) hn
   obtain⟨q1,q2,rfl,l1,l2⟩:∃q1 q2,q=q1++q2/\q1.length=m/2/\q2.length=m - m/2:=⟨q.take (m/2),q.drop (m/2),(U6 ..).symm,by rw[Dt,hq];exact Du (cE H.2.1),by rw[AM,hq]⟩
   rw[fu]at hl Q2
   refine aQ ⟨λy=>?_,λh=>(h rfl).elim⟩
   refine Q2.asg (λb=>cut) (i:=3) rfl wG.1 (g2m (c9 (k:=m+2)) (Q2.n mY rfl) (PH rfl rfl)) λ{s3}Q3=>?_
   refine Q3.asg (λb=>cut) (i:=4) rfl wG.2.1 (g2s (c9 (k:=m+2)) (Q3.n mY rfl) (PJ (M:=m/2) rfl rfl rfl (aD (cE H.2.1) kK) GW)) λ{s4}Q4=>?_
   refine Q4.asg (λb=>cut) (i:=5) rfl wG.2.2.1 (g2u (c9 (k:=m+2)) (Q4.n mY rfl) (adv rfl rfl)) λ{s5}Q5=>?_
   refine Q5.asg (λb=>cut) (i:=6) rfl wG.2.2.2.1 (g2l (c9 (k:=m+2)) (Q5.n mY rfl) (adw rfl rfl rfl hx fU)) λ{s6}Q6=>?_
   refine i7 (DJ (Q6.call mY wG.2.2.2.2.1 (g2a (c9 (k:=m+2)) (Q6.n mY rfl) (PM rfl rfl rfl)) λ{v7 s7}Q7 k7 hv7=>mo (ih (m/2) H.2.1 l1 H.1 fU (bI (Nat.mod_le _ _) hx) hl (Q7.a.ra.mono (xV H.2.1 2)) Q7.a.wd Q7.a.ng (.inl hN) Q7.I hv7) λv s8 z8=>⟨rfl,?_⟩) (yV Q6.a) rfl)
   have Q8:=Q7.wr z8.2.1 z8.2.2 hN rfl Q7.I.nd.1
   rw[<-fu]at Q8
   have lp:(p++gS Z.n (m/2) (x%2^(Z.n*(m/2)))).length=p.length+m/2:=by rw[bQ,GU]
   refine i7 (DJ (Q8.call mY wG.2.2.2.2.2 (g2b (c9 (k:=m+2)) (Q8.n mY rfl) (PM rfl rfl rfl)) λ{v9 s9}Q9 k9 hv9=>mo (ih (m - m/2) H.2.2.2.1 l2 H.2.2.1 (aD (ko _ (mA _ _)) hn) (bI (xU _ _) hx) ?_ (Q9.a.ra.mono (xV H.2.2.2.1 2)) Q9.a.wd Q9.a.ng (.inl hN) Q9.I (by rw[lp,g6,H.2.2.2.2];exact hv9)) λv Cw zG=>⟨rfl,aQ ?_⟩) (yV Q8.a) rfl)
   ·rw[bQ,bQ,l1]at hl
    rw[bQ,lp,g6];exact hl
   ·have PO:=Q9.wr zG.2.1 zG.2.2 hN rfl Q9.I.nd.1
    have PQ:=PO.I
    have e:=adb Z.n x H.1 H.2.2.1
    rw[H.2.2.2.2]at e
    rw[fu,<-fu (gS _ _ _),<-e]at PQ
    exact⟨rfl,PO.mv,PQ⟩
end
abbrev rW(K:Kd):Prop:=((wD K.d).defaults=[]/\(wD K.d).kw_defaults=[])/\Ou (.stmts (o6 K.d))=true/\(∀e,annTrees (wD K.d) ae e=[])/\(∀{env:Env}{Z:jH},(env.cells.lookup (s_ "n")=ab Z.cN/\env.cells.lookup (s_ "inner")=ab Z.cI)/\env.cells.lookup K.a=ab Z.cA->oH (jG K.d) env=pure (rU K Z))
section
variable{K:Kd}(h:rW K)
def rW.df:=h.1
def rW.doc:=h.2.1
def rW.ann:=h.2.2.1
def rW.za:= @And.right _ _ h.2.2
end
def adB:(jG k2.d).names=[(s_ "x",.local),(s_ "L",.local),(s_ "R",.local),(s_ "mid",.local),(s_ "shift",.local),(s_ "upper",.local),(s_ "lower",.local),(s_ "a_digits",.free),(s_ "inner",.free),(s_ "n",.free)]:=by kernel_rfl
def adC:(jG k3.d).names=[(s_ "L",.local),(s_ "R",.local),(s_ "mid",.local),(s_ "shift",.local),(s_ "digits",.free),(s_ "inner",.free),(s_ "n",.free)]:=by kernel_rfl
def adD:rW k2:=⟨⟨by kernel_rfl,by kernel_rfl⟩,by kernel_rfl,λe=>by kernel_rfl,λ{env Z}h=>by
 unfold oH
 rw[adB]
 simp only[xF,xE,show(jo.local==g9)=false from rfl,show(g9==g9)=true from rfl,if_true,pA,if_false,ri h.1.1,ri h.1.2,ri (show env.cells.lookup (s_ "a_digits")=ab Z.cA from h.2)]
 rfl⟩
def adE:rW k3:=⟨⟨by kernel_rfl,by kernel_rfl⟩,by kernel_rfl,λe=>by kernel_rfl,λ{env Z}h=>by
 unfold oH
 rw[adC]
 simp only[xF,xE,show(jo.local==g9)=false from rfl,show(g9==g9)=true from rfl,if_true,pA,if_false,ri h.1.1,ri h.1.2,ri (show env.cells.lookup (s_ "digits")=ab Z.cA from h.2)]
 rfl⟩
noncomputable def Cy(K:Kd):Stmt:=.FunctionDef (s_ "inner") (wD K.d) (o6 K.d) [] ae [] (jG K.d) ae (s_ "inner") K.d.pos
section
variable{X:Kx}{K:Kd}{s:az}{A:aM}{env:Env}{E:ay->az->Prop}{M:my}{c P:Addr}{dl cN cA cI:Addr}{n:Nat}{Q:Flow->az->Prop}
def PR(ok:rW K)(hm:(c,P,K.q)∈iD)(wd:Wd X s.heap)(hc:env.code=.ref c)(hg:env.globals=gJ)(hq:U7 env (s_ "inner") (s_ "inner")=K.q)(ka:(env.cells.lookup (s_ "n")=ab cN/\env.cells.lookup (s_ "inner")=ab cI)/\env.cells.lookup K.a=ab cA)
  (h:∀s' fa cv ct,Kp X s s'->s.heap.objs.size<=fa->s'.heap.get? fa=ab {cls:=.type "function",data:=.func (ot X K ⟨fa,dl,cN,cA,cI,n,cv,ct⟩)}->ky s'.heap cv K.q->aA M A (xD env (s_ "inner") (.ref fa)) (λy=>Q .next) E s'):
  aA M A (exec (Cy K) env) Q E s:=by
 unfold Cy
 rw[exec_def,hq,defaultsOf_eq,ok.df.1,ok.df.2,ok.ann]
 refine aG (lB (aG (dN (aG (aQ (aG (dN (aQ (dN ?_)))))))))
 refine FZ hm wd hc hg (ok.za (Z:=⟨0,dl,cN,cA,cI,n,.none,.none⟩) ka) ok.doc λs' fa cv ct k1 h1 h2 h3=>?_
 exact aG (lB (aG (wpAny_bindName (mo (h s' fa cv ct k1 h1 h2 h3) λy cj z=>aQ z))))
def wH{h:Heap}{x:Str}{v:ay}{b:Addr}(hk:env.kindOf x=ab .cell)(hb:env.cells.lookup x=ab b)(r:Rd env h x v):h.IsCell b (ab v):=
 r.elim (λq=>jo.noConfusion (Option.some.inj (hk.symm.trans q.1))) λq=>q.2.elim λb' z=>(Option.some.inj (hb.symm.trans z.1))▸z.2
def At.view{k:Nat}{c:Sc}{N N':Addr->Prop}{r r':aE}(a:At X k A env c N r s)(ho:c.own=[])(hN:∀b,N' b->N b)(kQ:∀b∈aV,N' b)
  (h:∀x i t,c.slots.lookup x=ab i->get r' i=ab t->∃v,Rd env s.heap x v/\VR X N' s.heap t v):At X k A env c N' r' s:=
 ⟨⟨a.ec.kind,a.ec.names,a.ec.globals,a.ec.builtins,a.ec.vK,a.ec.jv,a.ec.has,a.ec.dz,a.ec.inj,λx i t h1 h2=>(h x i t h1 h2).imp λv z=>⟨z.1,by rw[ho];exact z.2⟩⟩,a.wd,⟨kQ,λb q=>a.ng.lt b (hN b q),λb q=>a.ng.wd b (hN b q)⟩,a.ra⟩
end
noncomputable def i3:Stmt:=st 108 2
noncomputable def r4:Stmt:=st 108 3
noncomputable def PS:Stmt:=.Expr (zF (eK (ja i3 0)) (s_ "inner")) (ja i3 0).pos
noncomputable def GX:Stmt:=.Return (ab (bY (md r4) (s_ "a_digits"))) r4.pos
def adF:body 108=mW (st 108 0) (s_ "a_digits") (aT (st 108 0))::Cy k2::.If (mh i3) [PS] [] i3.pos::[GX]:=by kernel_rfl
noncomputable def PT:List (Str×Nat):=slots ["a","n","a_digits","inner"]
def PU:(108,PT,2)∈bt:=dZ (i:=20) (by kernel_rfl)
noncomputable def kX:Sc:=⟨(bC 108).scope.names,PT,[]⟩
noncomputable def wI:Ex:=.bin .mul (.lst (.cons (.lit (.int 0)) .nil)) (.bin .fdiv (.bin .sub (.bin .add (.sm .pF (.var 0) .nil) (.var 1)) (.lit (.int 1))) (.var 1))
noncomputable def GY:Ex:=.cons (.var 0) (.cons (.lit (.int 0)) (.cons (.prim .len (.cons (.var 2) .nil)) .nil))
def g0o:Gd wI .own kX [aT (st 108 0)]:=no_implicit_lambda%(@Mb.get (Gd wI .own kX [aT (st 108 0)]) (bo wI .own kX [aT (st 108 0)]) (by kernel_rfl))
def g0t:Gd (.var 0) .a9 kX [mh i3]:=no_implicit_lambda%(@Mb.get (Gd (.var 0) .a9 kX [mh i3]) (bo (.var 0) .a9 kX [mh i3]) (by kernel_rfl))
def g0a:Gd GY .chain kX (fi (eK (ja i3 0))):=no_implicit_lambda%(@Mb.get (Gd GY .chain kX (fi (eK (ja i3 0)))) (bo GY .chain kX (fi (eK (ja i3 0)))) (by kernel_rfl))
def PV:cZ (aT (st 108 0))=true/\(fi (eK (ja i3 0))).all notStar=true:=⟨by kernel_rfl,by kernel_rfl⟩
def pT:(((bC 108).qualname++".<locals>."++"inner"=Bk/\(bC 108).code=.ref 107)/\(bC 108).scope.names.lookup (s_ "n")=ab .cell/\(bC 108).scope.names.lookup (s_ "inner")=ab .cell)/\(bC 108).scope.names.lookup (s_ "a_digits")=ab .cell:=⟨⟨⟨by kernel_rfl,by kernel_rfl⟩,by kernel_rfl,by kernel_rfl⟩,by kernel_rfl⟩
def adJ:((107,103,Bk):Addr×Addr×Str)∈iD:=dZ (i:=0) rfl
noncomputable def dr(a n:Nat):Nat:=(ba (a:Int)+n - 1)/n
def PW{x y:Int}(h:y.natAbs<2^100):xk x y=false:=by
 unfold xk
 refine aox.mpr (.inl (av λq=>?_))
 replace q:(if(y==0)=true then 0 else y.natAbs.log2/30+1)>300:=q
 by_cases e:(y==0)=true
 ·rw[ah e]at q;exact aj q (by decide)
 ·rw[ai e]at q
  have h2:=(KD λz=>e (aw.mpr (Int.natAbs_eq_zero.mp z))).mpr h
  exact aj q (eX.mpr (Nat.succ_le_of_lt (bI (U8 (cE h2)) (by decide))))
def PX(m:Nat):(bZ m [T.int 0]).flatten=intsOf (bZ m 0):=by
 induction m with
 |zero=>rfl
 |succ m ih=>rw[Tz,alH,ih];rfl
def adK{F:Nat->List T->Option T}{r:aE}{a n:Nat}(h0:get r 0=ab (iT a))(h1:get r 1=ab (iT n))(hn:1<=n)(mi:n<=30000)(hm:dr a n<=64):ev F wI r=ab (.lst (intsOf (bZ (dr a n) 0))):=by
 show((((((get r 0).bind λx=>iV .pF x []).bind λx=>(get r 1).bind λy=>a8 .add x y).bind λx=>a8 .sub x (.int 1)).bind λx=>(get r 1).bind λy=>a8 .fdiv x y).bind λy=>a8 .mul (.lst [.int 0]) y)=_
 rw[h0,h1]
 show(((if(n:Int)≠0/\xk (((ba (a:Int):Nat):Int)+(n:Int) - 1) (n:Int)=false then ab (T.int (U0 (((ba (a:Int):Nat):Int)+(n:Int) - 1) (n:Int)))else ae)).bind λy=>a8 .mul (.lst [.int 0]) y)=_
 have e1:((ba (a:Int):Nat):Int)+(n:Int) - 1=((ba (a:Int)+n - 1:Nat):Int):=(xW (aD hn (jQ _ _))).symm
 rw[ah ⟨pC (fA.mpr hn),PW (by rw[DW];exact bI mi (by decide))⟩,e1,wC]
 show(if(0:Int)<=((dr a n:Nat):Int)/\2*((dr a n:Nat):Int).toNat<=lim then ab (T.lst (bZ ((dr a n:Nat):Int).toNat [T.int 0]).flatten)else ae)=_
 rw[ah ⟨cx _,by rw[jU];exact aD (ko 2 hm) (by decide)⟩,jU,PX]
def PY{env:Env}{x y z:Str}{a b c:Addr}(inj:∀x y a,env.cells.lookup x=ab a->env.cells.lookup y=ab a->x=y)(hx:env.cells.lookup x=ab a)(hy:env.cells.lookup y=ab b)(hz:env.cells.lookup z=ab c)(h:[x,y,z].Nodup):[a,b,c].Nodup:=by
 have h1:=hH.mp h
 have h2:=hH.mp h1.2
 refine hH.mpr ⟨λq=>h1.1 ?_,hH.mpr ⟨λq=>h2.1 ?_,hH.mpr ⟨gM,.nil⟩⟩⟩
 ·rcases br.mp q with q|q
  ·exact inj x y a hx (q▸hy)▸bk
  ·exact inj x z a hx (b4.mp q▸hz)▸bS _ bk
 ·exact inj y z b hy (b4.mp q▸hz)▸bk
section
variable{X:Kx}{k:Nat}{A:aM}{env:Env}{aH M N:Addr->Prop}{ad:Nat->Addr}{r:aE}{s:az}{E:ay->az->Prop}{Q:Flow->az->Prop}{Z:jH}{m a:Nat}
def adM(h:At X k A env kX N r s)(I:gr X k2 Z s.heap (bZ m 0))(nt:Z.dl∉aV)(h0:get r 0=ab (iT a))(h2:get r 2=ab (.ptr Z.dl))(hm:m<=64):At X k A env kX (λb=>b∈aV) [ab (iT a),ae,ab (.lst (intsOf (bZ m 0))),ae] s:=
 h.view rfl (λb q=>h.ng.tb b q) (λb q=>q) λx i t hx e=>by
  rcases i with _|_|_|_|i
  ·cases e
   exact(h.int hx h0 rfl).elim λu r=>⟨_,r,.int _ _⟩
  ·exact aN e
  ·cases e
   exact⟨_,h.ptr hx h2 rfl,I.l_.elim λws q=>.lst q.1 nt (by show(intsOf _).length<=lim;unfold intsOf;rw[bK,qG];exact aD hm (by decide)) q.2.ints⟩
  ·exact aN e
  ·exact aN e
def adN(h:At X (k+67) A env kX N r s)(F:Fw X env kX aH M N ad r s.heap)(I:gr X k2 Z s.heap (bZ m 0))(nt:∀b,IW Z b->b∉aV)(nd:[Z.cN,Z.cI,Z.cA].Nodup)(h0:get r 0=ab (iT a))(h2:get r 2=ab (.ptr Z.dl))(h3:get r 3=ab (.ptr Z.fI))
  (hN:N Z.dl) (hM:¬M Z.dl) (hf:¬Fr env Z.dl) (hn:Z.n*m<=100000) (ha:a<2^800000) (hm:m<=64) (hz:a=0->m=0) (hp:a≠0->1<=m) (q:∀s',Mv X (λb=>b=Z.dl) s s'->gr X k2 Z s'.heap (gS Z.n m a)->Q (.ret (.ref Z.dl)) s'):
  aA (model X.prog X.w) A (bL (.If (mh i3) [PS] [] i3.pos::[GX]) env) Q E s:=by
 have fin:∀{s':az},At X (k+67) A env kX N r s'->Mv X (λb=>b=Z.dl) s s'->gr X k2 Z s'.heap (gS Z.n m a)->aA (model X.prog X.w) A (bL [GX] env) Q E s':=λ{s'}h' mv I'=>
  c8 (qB (gC h' (h'.ptr (i:=2) rfl h2 rfl) rfl rfl (q s' mv I')))
 refine execs_cons (c8 (J9 (tl (g0t (c9 (k:=k+67)) h h0) rfl λs₂ k₂=>?_)))
 have a2:=h.kp k₂
 have I2:=I.mv (Mv.of (M:=λy=>False) k₂) (λy y=>id) nt
 by_cases e:a=0
 ·subst e
  have e:=hz rfl
  subst e
  exact aQ ⟨λy=>fin a2 (Mv.of k₂) I2,λh=>(h rfl).elim⟩
 ·rw[show(iT a).truth=true from bne_iff_ne.mpr λz=>e (Int.ofNat.inj z),ah rfl]
  refine c8 (DJ (jy (gC a2 (a2.ptr (i:=3) rfl h3 rfl) rfl rfl (A4 (o:={cls:=.type "function",data:=.func (ot X k2 Z)}) (fd:=ot X k2 Z) (ie (jx env _ PV.2)
   (cl (l:=[iT a,iT 0,iT (intsOf (bZ m 0)).length]) (g0a (c9 (k:=k+67)) (adM a2 I2 (nt _ .dl) h0 h2 hm) rfl) λvals aX fR hv=>⟨⟨(I2.mv (Mv.of (M:=λy=>False) fR) (λy y=>id) nt).fn,rfl⟩,?_⟩))))) (yV a2) rfl)
  have a3:=a2.kp fR
  have F3:=(F.kp h k₂).kp a2 fR
  have I3:=I2.mv (Mv.of (M:=λy=>False) fR) (λy y=>id) nt
  refine mo (ady nt nd m (p:=[]) (q:=bZ m 0) (r:=[]) qG (hp e) hn ha (by rw[kq];exact qG▸hm) (a3.ra.mono (aD (cR hm 3) (jQ _ _))) a3.wd a3.ng hN (by rw[kq];exact I3) (N:=N) ?_) λv aS z=>?_
  ·have e:=show aL X _ aX.heap (intsOf [a,0,(intsOf (bZ m 0)).length]) vals from hv
   rw[show(intsOf (bZ m 0)).length=[].length+m by unfold intsOf;rw[bK,qG];exact(jV m).symm]at e
   exact aL.ints e
  ·have I4:=z.2.2
   rw[kq]at I4
   exact⟨λy=>fin (other a3 F3 z.2.1 (λb e=>e▸hN) (λb w e=>hf (e▸w)) λb w e=>hM (e▸w)).1 ((Mv.of (k₂.trans fR)).trans z.2.1 λy=>.inl) I4,λh=>(h rfl).elim⟩
end
noncomputable def wJ:List T->Option T:=a2 λx y=>bp (λa=>bp (λn=>if(0<=a/\1<=n)/\n<=30000/\ba a<=60000/\dr a.toNat n.toNat<=64 then ab (.lst (intsOf (gS n.toNat (dr a.toNat n.toNat) a.toNat)))else ae) y) x
def PZ{a n:Nat}(h:ba (a:Int)<=60000)(hn:n<=30000):n*dr a n<=100000:=
 aD (Nat.mul_div_le _ _) (aD (mA _ _) (aD (eA h hn) (by decide)))
def adO{n:Nat}(hn:1<=n):dr 0 n=0:=by
 show(0+n - 1)/n=0
 rw[jV]
 exact KG (qp hn (by decide))
def adP{a n:Nat}(h:a≠0)(hn:1<=n):1<=dr a n:=by
 refine aoy ?_ hn
 have b:1<=ba (a:Int):=by
  unfold ba
  rw[ai (show¬((a:Int)==0)=true fromλq=>h (Int.ofNat.inj (ao q)))]
  exact cX (dP _)
 rw[eE,U9 b]
 exact bX _ _
section
variable{X:Kx}{k:Nat}
def adQ{A:aM}{N:Addr->Prop}{s:az}{E:ay->az->Prop}{a n:Nat}{vals:List ay}(hn:1<=n)(mi:n<=30000)(hb:ba (a:Int)<=60000)(hm:dr a n<=64)(ra:RA (k+68) A)(wd:Wd X s.heap)(ng:NG X N s.heap)(hv:aL X N s.heap [iT a,iT n] vals):
  aA (model X.prog X.w) A (call (.ref 108) vals) (Res X N s (.lst (intsOf (gS n (dr a n) a)))) E s:=by
 refine t8 (k:=k+67) 2 (iM PU) ra wd ng hv rfl λ{env aB M fG}c=>?_
 rw[adF]
 have kd:∀{x},(bC 108).scope.names.lookup x=ab .cell->env.kindOf x=ab .cell:=λe=>(c.a.kd _).trans e
 obtain⟨cN,pU⟩:=c.a.ec.has (s_ "n") (.inl (kd pT.1.2.1))
 obtain⟨cI,pV⟩:=c.a.ec.has (s_ "inner") (.inl (kd pT.1.2.2))
 obtain⟨cA,pW⟩:=c.a.ec.has (s_ "a_digits") (.inl (kd pT.2))
 have new:∀{b},aB.heap.objs.size<=b->b∉aV/\¬M b/\¬Fr env b:=λ{b}h=>⟨λq=>bx (c.a.ng.lt b (c.a.ng.tb b q)) h,λq=>bx (c.a.ng.lt b (c.F.mn b q)) h,(n7 c.a c.F h).1⟩
 refine i7 (xM (mo (g0o (c9 (k:=k+67)) c.a (adK (a:=a) (n:=n) rfl rfl hn mi hm) rfl _) λval s₂ z=>?_) (mS PV.1))
 obtain⟨i4,vr,dl,rfl,gD,_⟩:=z
 cases vr.inv with| @mk _ ws rC hN2 hz vl=>
 have U2:=rM (P:=λb=>b=dl) c.a c.F i4 λb e=>e▸⟨gD,rC.elim λv e=>bw e⟩
 refine l8 false U2.1 U2.2 (k₀:=2) (t:=.ptr dl) rfl (.ptr dl) ft λaX OH cM a3 F3=>⟨rfl,?_⟩
 refine i7 (PR (n:=n) (dl:=dl) adD adJ a3.wd (c.code.trans pT.1.1.2) a3.ec.globals (by unfold U7;rw[kd pT.1.2.2,c.qual];exact pT.1.1.1) ⟨⟨pU,pV⟩,pW⟩ λaS fI cv ct j4 i6 rN rK=>?_)
 have U4:=rM (P:=λb=>b=fI) a3 F3 j4 λb e=>e▸⟨i6,bw rN⟩
 refine l8 false U4.1 U4.2 (k₀:=3) (t:=.ptr fI) rfl (.ptr fI) ft λdC P1 i9 a5 F5=>⟨rfl,?_⟩
 have f1:=aD i4.size (aD cM.size i6)
 have D:=new gD
 have Fn:=new f1
 obtain⟨tn,rn⟩:=a5.int (y:=s_ "n") (i:=1) (a:=(n:Nat)) rfl rfl rfl
 have I5:gr X k2 ⟨fI,dl,cN,cA,cI,n,cv,ct⟩ dC.heap (bZ (dr a n) 0):=⟨i9.old fI _ Fn.2.1 Fn.1 rN,rK.keep λb o c e=>i9.code b o c e,⟨tn,wH (kd pT.1.2.1) pU rn⟩,wH (kd pT.2) pW (a5.ptr (i:=2) rfl rfl rfl),wH (kd pT.1.2.2) pV (a5.ptr (i:=3) rfl rfl rfl),
  ws,rC.at λo e=>i9.old dl o D.2.1 D.1 (j4.old dl o D.1 (cM.old dl o D.2.1 D.1 e)),vl.ints⟩
 have nt:∀b,IW ⟨fI,dl,cN,cA,cI,n,cv,ct⟩ b->b∉aV:=λb w=>by
  cases w with
  |fI=>exact Fn.1
  |dl=>exact D.1
  |cN=>exact c.a.ec.jv _ _ pU
  |cA=>exact c.a.ec.jv _ _ pW
  |cI=>exact c.a.ec.jv _ _ pV
 refine adN a5 F5 I5 nt (PY c.a.ec.inj pU pV pW (by decide)) rfl rfl rfl (.inl (.inr rfl)) D.2.1 D.2.2 (PZ hb mi) (bG (rT hb) (vn (by decide) (by decide))) hm (λe=>e▸adO hn) (λe=>adP e hn) λnU vU I6=>?_
 have P2:s.heap.objs.size<=dl:=aD c.kp.size gD
 obtain⟨ws',rB,vl'⟩:=I6.l_
 exact⟨((((Mv.of (M:=λv=>False) (c.kp.trans i4)).trans cM λd h=>.inr (c.hM d h)).trans ((Mv.of (M:=M) j4).trans i9 λv=>.inl) λd h=>.inr (c.hM d h)).trans vU λd h=>.inr (h▸P2)).kp λv=>id,
  .lst rB (λq=>bx (ng.lt _ q) P2) (by unfold intsOf;rw[bK,GU];exact aD hm (by decide)) vl'.ints⟩
def adT:dq X (k+68) 108 wJ:=λA N s ts vals t E ra wd ng hv e=>by
 refine qU e λx y q ea=>ff ea λi qx eb=>ff eb λj qy ec=>ifs ec λh ez=>?_
 clear e ea eb ec
 subst q;subst qx;subst qy;subst ez
 obtain⟨a,rfl⟩:=A0 h.1.1
 obtain⟨n,rfl⟩:=A0 (dn (by decide) h.1.2)
 exact adQ (dh.mp h.1.2) (dh.mp h.2.1) h.2.2.1 h.2.2.2 ra wd ng hv
end
noncomputable def bq(n:Nat)(l:List Nat):Nat:=l.foldr (λd v=>d+2^n*v) 0
def P4(n:Nat)(a b:List Nat):bq n (a++b)=bq n a+2^(n*a.length)*bq n b:=by
 induction a with
 |nil=>show bq n b=0+2^(n*0)*bq n b;rw[jV,KH,KJ,Bc]
 |cons d a ih=>
  have e:2^(n*(d::a).length)=2^n*2^(n*a.length):=by rw[<-oL,List.length_cons,vg,eE]
  show d+2^n*bq n (a++b)=(d+2^n*bq n a)+_
  rw[ih,e,KA,xX,g6]
noncomputable def jI(x:Xp):Xp:=if h:x.ctorIdx=2 then Expr.BinOp.elim x h λy z z z=>y else default
noncomputable def uC(x:Xp):Xp:=if h:x.ctorIdx=2 then Expr.BinOp.elim x h λz z y z=>y else default
noncomputable def b3(i:Nat):Stmt:=(o6 k3.d).getD i default
noncomputable def mj:Xp:=md (b3 3)
def adU:o6 k3.d=.If (mh (b3 0)) [.Return (ab (md (ja (b3 0) 0))) (ja (b3 0) 0).pos] [] (b3 0).pos::mW (b3 1) (s_ "mid") (aT (b3 1))::mW (b3 2) (s_ "shift") (aT (b3 2))::
 [.Return (ab (.BinOp (.BinOp (zF (jI (jI mj)) (s_ "inner")) .LShift (bY (uC (jI mj)) (s_ "shift")) (jI mj).pos) .Add (zF (uC mj) (s_ "inner")) mj.pos)) (b3 3).pos]:=by kernel_rfl
noncomputable def ik:Sc:={iC k3 with slots:=(k3.l++[(s_ "n",4)])++[(s_ "digits",5)]}
noncomputable def eD:Ex:=.idx (.var 5) (.var 0)
noncomputable def e2(a b:Nat):Ex:=.cons (.var a) (.cons (.var b) .nil)
def g3t:Gd (eT 0 1) .a9 ik [mh (b3 0)]:=no_implicit_lambda%(@Mb.get (Gd (eT 0 1) .a9 ik [mh (b3 0)]) (bo (eT 0 1) .a9 ik [mh (b3 0)]) (by kernel_rfl))
def g3d:Gd eD .val ik [md (ja (b3 0) 0)]:=no_implicit_lambda%(@Mb.get (Gd eD .val ik [md (ja (b3 0) 0)]) (bo eD .val ik [md (ja (b3 0) 0)]) (by kernel_rfl))
def g3m:Gd (eM 0 1) .val ik [aT (b3 1)]:=no_implicit_lambda%(@Mb.get (Gd (eM 0 1) .val ik [aT (b3 1)]) (bo (eM 0 1) .val ik [aT (b3 1)]) (by kernel_rfl))
def g3s:Gd (eS 0 2 4) .val ik [aT (b3 2)]:=no_implicit_lambda%(@Mb.get (Gd (eS 0 2 4) .val ik [aT (b3 2)]) (bo (eS 0 2 4) .val ik [aT (b3 2)]) (by kernel_rfl))
def g3a:Gd (e2 2 1) .chain ik (fi (jI (jI mj))):=no_implicit_lambda%(@Mb.get (Gd (e2 2 1) .chain ik (fi (jI (jI mj)))) (bo (e2 2 1) .chain ik (fi (jI (jI mj)))) (by kernel_rfl))
def g3b:Gd (e2 0 2) .chain ik (fi (uC mj)):=no_implicit_lambda%(@Mb.get (Gd (e2 0 2) .chain ik (fi (uC mj))) (bo (e2 0 2) .chain ik (fi (uC mj))) (by kernel_rfl))
def Cz:cZ (aT (b3 1))=true/\cZ (aT (b3 2))=true/\(fi (jI (jI mj))).all notStar=true/\(fi (uC mj)).all notStar=true:=⟨by kernel_rfl,by kernel_rfl,by kernel_rfl,by kernel_rfl⟩
def P5{F:Nat->List T->Option T}{ρ:aE}{a b:Nat}{t u:T}(h1:get ρ a=ab t)(h2:get ρ b=ab u):ev F (e2 a b) ρ=ab (.tup [t,u]):=by
 show((get ρ a).bind λx=>((get ρ b).bind λy=>(bH (λl=>ab (T.tup (y::l))) (.tup []))).bind (bH λl=>ab (T.tup (x::l))))=_
 rw[h1,h2]
 rfl
def ad6{F:Nat->List T->Option T}{ρ:aE}{p r:List Nat}{z:Nat}(h1:get ρ 5=ab (.lst (intsOf (p++([z]++r)))))(h2:get ρ 0=ab (iT p.length)):ev F eD ρ=ab (iT z):=by
 show((get ρ 5).bind λx=>(get ρ 0).bind λy=>kB x y)=_
 rw[h1,h2]
 show(f9 (p.length:Int) (intsOf (p++([z]++r))).length).bind ((intsOf (p++([z]++r)))[·]?)=_
 have hl:(intsOf (p++([z]++r))).length=p.length+(1+r.length):=by unfold intsOf;rw[bK,bQ,bQ];rfl
 have e:f9 (p.length:Int) (intsOf (p++([z]++r))).length=ab p.length:=by
  unfold f9
  rw[hl]
  show(if(decide ((0:Int)<=(if(p.length:Int)<0 then(p.length:Int)+((p.length+(1+r.length):Nat):Int)else(p.length:Int)))&&decide ((if(p.length:Int)<0 then(p.length:Int)+((p.length+(1+r.length):Nat):Int)else(p.length:Int))<((p.length+(1+r.length):Nat):Int)))=true then ab (if(p.length:Int)<0 then(p.length:Int)+((p.length+(1+r.length):Nat):Int)else(p.length:Int)).toNat else ae)=_
  rw[ai (lr.mpr (cx _)),ah (il.mpr ⟨ar (cx _),ar (fA.mpr (vc (Va (by decide) _)))⟩),jU]
 rw[e]
 show(intsOf (p++([z]++r)))[p.length]?=_
 unfold intsOf
 rw[gL,DL (bj _),DY]
 rfl
section
variable{X:Kx}{Z:jH}{k:Nat}{A:aM}{env:Env}{N W:Addr->Prop}{aP s s':az}{r:aE}{vs:List Nat}{E:ay->az->Prop}
def IQ.d(q:IQ X k3 Z k A env N W aP r s vs)(hN:¬N Z.dl)(h4:get r 4=ab (iT Z.n))(h5:get r 5=ab (.lst (intsOf vs)))(hl:vs.length<=64):At X k A env ik (λb=>N b∨b=aP.heap.objs.size) r s:=
 (q.n wF h4).plus [(s_ "digits",5)] (λx i t h1 h2=>PF h1 λex ei=>by
  rw[ei,h5]at h2
  rw[ex,<-Option.some.inj h2]
  exact⟨_,q.cell wF wF.kn.2 rfl q.I.a_,q.I.l_.elim λws w=>.lst w.1 (λh=>h.elim hN λe=>cW (q.lt _ .dl) e) (by unfold intsOf;rw[bK];exact aD hl (by decide)) w.2.ints⟩) rfl
end
section
variable{X:Kx}{Z:jH}
def ad7(nt:∀b,IW Z b->b∉aV)(nd:[Z.cN,Z.cI,Z.cA].Nodup):∀(m:Nat){p q r:List Nat}{A:aM}{N:Addr->Prop}{s:az}{E:ay->az->Prop}{vals:List ay},q.length=m->1<=m->Z.n*m<=100000->bq Z.n q<2^800000->(p++(q++r)).length<=64->RA (m+3) A->Wd X s.heap->NG X N s.heap->¬N Z.dl->
  gr X k3 Z s.heap (p++(q++r))->aL X N s.heap [iT p.length,iT (p.length+m)] vals->aA (model X.prog X.w) A (call (.ref Z.fI) vals) (Res X N s (iT (bq Z.n q))) E s:=by
 intro m
 induction m using aov with
 |ind m ih=>
  intro p q r A N s E vals hq h1 hn hx hl ra wd ng hN I hv
  refine PE (W:=λb=>b=s.heap.objs.size) wF I nt nd 2 [ab (iT Z.n),ab (.lst (intsOf (p++(q++r))))] rfl rfl ra wd ng hv λ{env aB}Q=>?_
  rw[adU]
  refine execs_cons (c8 (J9 (tl (g3t (c9 (k:=m+2)) (Q.d hN rfl rfl hl) (PG rfl rfl)) rfl λs₂ k₂=>?_)))
  have Q2:=Q.kp k₂
  have fin:∀{s' cj:az}{r':aE}{v:ay}{y:Nat},IQ X k3 Z (m+2) (A.deeper env) env N (λb=>b=s.heap.objs.size) s r' s' (p++(q++r))->Kp X s' cj->VR X (λb=>N b∨b=s.heap.objs.size) cj.heap (iT y) v->y=bq Z.n q->Res X N s (iT (bq Z.n q)) v cj:=λ{s' cj r' v y}q k h e=>
   ⟨(((Mv.refl (M:=λx=>False) s).trans q.mv λd h=>.inr (bO h.symm)).kp λx=>id).trans k,e▸h.sc rfl⟩
  by_cases hm:m=1
  ·subst hm
   rw[show(T.bool (decide (1=1))).truth=true from rfl,ah rfl]
   obtain⟨z,rfl⟩:=aow.mp hq
   exact c8 (qB (vl (g3d (c9 (k:=1+2)) (Q2.d hN rfl rfl hl) (ad6 rfl rfl)) λv aX fR h=>⟨λe=>Flow.noConfusion e,λx=>fin Q2 fR h (Vb z).symm⟩))
  ·rw[show(T.bool (decide (m=1))).truth=false from av hm,ai bT]
   have H:=PN h1 hm
   have kK:m<=64:=aD (hq▸(by rw[bQ,bQ];exact aD (bX _ _) (jQ _ _))) hl
   have fU:Z.n*(m/2)<=100000:=aD (ko _ (cE H.2.1)) hn
   have GW:Z.n<=100000:=aD (Bb _ h1) hn
   obtain⟨q1,q2,rfl,l1,l2⟩:∃q1 q2,q=q1++q2/\q1.length=m/2/\q2.length=m - m/2:=⟨q.take (m/2),q.drop (m/2),(U6 ..).symm,by rw[Dt,hq];exact Du (cE H.2.1),by rw[AM,hq]⟩
   have CA:=P4 Z.n q1 q2
   rw[l1]at CA
   have x1:bq Z.n q1<2^800000:=bI (CA▸bX _ _) hx
   have x2:bq Z.n q2<2^800000:=bI (CA▸aD (Vc _ (fB _)) (jQ _ _)) hx
   have cut:∀b,b=s.heap.objs.size->b=s.heap.objs.size∨s.heap.objs.size<=b:=λb=>.inl
   refine aQ ⟨λx=>?_,λh=>(h rfl).elim⟩
   refine Q2.asg cut (i:=2) rfl Cz.1 (g3m (c9 (k:=m+2)) (Q2.d hN rfl rfl hl) (PH rfl rfl)) λ{s3}Q3=>?_
   refine Q3.asg cut (i:=3) rfl Cz.2.1 (g3s (c9 (k:=m+2)) (Q3.d hN rfl rfl hl) (PJ (M:=m/2) rfl rfl rfl (aD (cE H.2.1) kK) GW)) λ{s4}Q4=>?_
   refine c8 (qB (JO (JO (Q4.call wF Cz.2.2.1 (g3a (c9 (k:=m+2)) (Q4.d hN rfl rfl hl) (P5 rfl rfl)) λ{v5 s5}Q5 k5 hv5=>?_))))
   have I5:=Q5.I
   have lp:(p++q1).length=p.length+m/2:=by rw[bQ,l1]
   rw[fu q1,<-fu p]at I5
   refine mo (ih (m - m/2) H.2.2.2.1 l2 H.2.2.1 (aD (ko _ (mA _ _)) hn) x2 ?_ (Q5.a.ra.mono (xV H.2.2.2.1 2)) Q5.a.wd Q5.a.ng (λh=>h.elim hN λe=>cW (Q5.lt _ .dl) e) I5 (by rw[lp,g6,H.2.2.2.2];exact hv5)) λw5 s6 z6=>?_
   ·rw[fu p,<-fu q1];exact hl
   have Q6:=Q5.kp z6.1
   obtain⟨vs,rs,vrs⟩:=Q6.a.vr (y:=s_ "shift") (i:=3) (t:=iT (Z.n*(m/2))) rfl rfl rfl
   refine gC Q6.a rs rfl rfl (mo (Bs (o:=.shl) (PK x2 fU) (.of z6.2) (.of vrs) Q6.a.ng) λw6 s7 z7=>?_)
   have Q7:=Q6.kp z7.1.1
   have hw6:=z7.1.2
   refine Q7.call wF Cz.2.2.2 (g3b (c9 (k:=m+2)) (Q7.d hN rfl rfl hl) (P5 rfl rfl)) λ{v8 s8}Q8 k8 hv8=>?_
   have I8:=Q8.I
   rw[fu q1]at I8
   refine mo (ih (m/2) H.2.1 l1 H.1 fU x1 (by rw[<-fu q1];exact hl) (Q8.a.ra.mono (xV H.2.1 2)) Q8.a.wd Q8.a.ng (λh=>h.elim hN λe=>cW (Q8.lt _ .dl) e) I8 hv8) λw8 s9 z9=>?_
   have Q9:=Q8.kp z9.1
   refine mo (Bs (o:=.add) (z:=iT (bq Z.n q2*2^(Z.n*(m/2))+bq Z.n q1)) rfl (.of (hw6.sc rfl)) (.of z9.2) Q9.a.ng) λw9 Cw zG=>?_
   exact fin Q9 zG.1.1 zG.1.2 (by rw[CA,g8,eE])
end
noncomputable def CB(x:Xp):Xp:=if h:x.ctorIdx=5 then Expr.IfExp.elim x h λy z z z=>y else default
noncomputable def zH(x:Xp):Xp:=if h:x.ctorIdx=5 then Expr.IfExp.elim x h λz y z z=>y else default
noncomputable def CC(x:Xp):Xp:=if h:x.ctorIdx=5 then Expr.IfExp.elim x h λz z y z=>y else default
noncomputable def x3:Xp:=md (st 115 1)
def aec:body 115=Cy k3::[.Return (ab (.IfExp (CB x3) (zF (zH x3) (s_ "inner")) (CC x3) x3.pos)) (st 115 1).pos]:=by kernel_rfl
noncomputable def P6:List (Str×Nat):=slots ["digits","n","inner"]
def P7:(115,P6,2)∈bt:=dZ (i:=21) (by kernel_rfl)
noncomputable def pX:Sc:=⟨(bC 115).scope.names,P6,[]⟩
noncomputable def GZ:Ex:=.cons (.lit (.int 0)) (.cons (.prim .len (.cons (.var 0) .nil)) .nil)
def g1t:Gd (.var 0) .a9 pX [CB x3]:=no_implicit_lambda%(@Mb.get (Gd (.var 0) .a9 pX [CB x3]) (bo (.var 0) .a9 pX [CB x3]) (by kernel_rfl))
def g1a:Gd GZ .chain pX (fi (zH x3)):=no_implicit_lambda%(@Mb.get (Gd GZ .chain pX (fi (zH x3))) (bo GZ .chain pX (fi (zH x3))) (by kernel_rfl))
def g1b:Gd (.lit (.int 0)) .val pX [CC x3]:=no_implicit_lambda%(@Mb.get (Gd (.lit (.int 0)) .val pX [CC x3]) (bo (.lit (.int 0)) .val pX [CC x3]) (by kernel_rfl))
def g1p:(fi (zH x3)).all notStar=true:=by kernel_rfl
def pY:(((bC 115).qualname++".<locals>."++"inner"=Bl/\(bC 115).code=.ref 114)/\(bC 115).scope.names.lookup (s_ "n")=ab .cell/\(bC 115).scope.names.lookup (s_ "inner")=ab .cell)/\(bC 115).scope.names.lookup (s_ "digits")=ab .cell:=⟨⟨⟨by kernel_rfl,by kernel_rfl⟩,by kernel_rfl,by kernel_rfl⟩,by kernel_rfl⟩
def aeh:((114,110,Bl):Addr×Addr×Str)∈iD:=dZ (i:=1) rfl
noncomputable def zI(l:List T):Option (List Nat):=l.foldr (λt o=>bp (λi=>if 0<=i then o.map (i.toNat::·)else ae) t) (ab [])
def aei:∀{l:List T}{ds:List Nat},zI l=ab ds->l=intsOf ds:=by
 intro l
 induction l with
 |nil=>intro ds h;cases h;rfl
 |cons t l ih=>
  intro ds h
  refine ff h λi q h=>gi h λhi h=>map_some h λz e1 e2=>?_
  subst e2;subst q
  rw[ih e1,<-AH hi]
  rfl
noncomputable def ml:List T->Option T:=a2 λx y=>cH (λl=>bp (λn=>(zI l).bind λds=>if(1<=n/\n<=30000)/\n.toNat*ds.length<=100000/\ds.length<=64/\ba ((bq n.toNat ds:Nat):Int)<=800000 then ab (iT (bq n.toNat ds))else ae) y) x
section
variable{X:Kx}{k:Nat}
def aej{A:aM}{N:Addr->Prop}{s:az}{E:ay->az->Prop}{ds:List Nat}{n:Nat}{vals:List ay}(G0:n*ds.length<=100000)(hm:ds.length<=64)(hb:ba ((bq n ds:Nat):Int)<=800000)(ra:RA (k+68) A)(wd:Wd X s.heap)(ng:NG X N s.heap)(hv:aL X N s.heap [.lst (intsOf ds),iT n] vals):
  aA (model X.prog X.w) A (call (.ref 115) vals) (Res X N s (iT (bq n ds))) E s:=by
 refine t8 (k:=k+67) 1 (iM P7) ra wd ng hv rfl λ{env aB M fG}c=>?_
 rw[aec]
 have kd:∀{x},(bC 115).scope.names.lookup x=ab .cell->env.kindOf x=ab .cell:=λe=>(c.a.kd _).trans e
 obtain⟨cN,pU⟩:=c.a.ec.has (s_ "n") (.inl (kd pY.1.2.1))
 obtain⟨cI,pV⟩:=c.a.ec.has (s_ "inner") (.inl (kd pY.1.2.2))
 obtain⟨cA,pW⟩:=c.a.ec.has (s_ "digits") (.inl (kd pY.2))
 have new:∀{b},aB.heap.objs.size<=b->b∉aV/\¬M b:=λ{b}h=>⟨λq=>bx (c.a.ng.lt b (c.a.ng.tb b q)) h,λq=>bx (c.a.ng.lt b (c.F.mn b q)) h⟩
 refine i7 (PR (n:=n) (dl:=0) adE aeh c.a.wd (c.code.trans pY.1.1.2) c.a.ec.globals (by unfold U7;rw[kd pY.1.2.2,c.qual];exact pY.1.1.1) ⟨⟨pU,pV⟩,pW⟩ λaS fI cv ct j4 i6 rN rK=>?_)
 have U4:=rM (P:=λb=>b=fI) c.a c.F j4 λb e=>e▸⟨i6,bw rN⟩
 refine l8 false U4.1 U4.2 (k₀:=2) (t:=.ptr fI) rfl (.ptr fI) ft λdC P1 i9 a5 F5=>⟨rfl,?_⟩
 have Fn:=new i6
 obtain⟨vd,rd,hvd⟩:=a5.vr (y:=s_ "digits") (i:=0) (t:=.lst (intsOf ds)) rfl rfl rfl
 cases hvd.inv with| @mk dl ws pl hN hz vds=>
 obtain⟨tn,rn⟩:=a5.int (y:=s_ "n") (i:=1) (a:=(n:Nat)) rfl rfl rfl
 have I5:gr X k3 ⟨fI,dl,cN,cA,cI,n,cv,ct⟩ dC.heap ds:=⟨i9.old fI _ Fn.2 Fn.1 rN,rK.keep λb o c e=>i9.code b o c e,⟨tn,wH (kd pY.1.2.1) pU rn⟩,wH (kd pY.2) pW rd,wH (kd pY.1.2.2) pV (a5.ptr (i:=2) rfl rfl rfl),ws,pl,vds.ints⟩
 have nt:∀b,IW ⟨fI,dl,cN,cA,cI,n,cv,ct⟩ b->b∉aV:=λb w=>by
  cases w with
  |fI=>exact Fn.1
  |dl=>exactλq=>hN (a5.ng.tb dl q)
  |cN=>exact c.a.ec.jv _ _ pU
  |cA=>exact c.a.ec.jv _ _ pW
  |cI=>exact c.a.ec.jv _ _ pV
 have k5:Kp X s dC:=((Mv.of (M:=λu=>False) (c.kp.trans j4)).trans i9 λd h=>.inr (c.hM d h)).kp λu=>id
 refine c8 (qB (wpAny_IfExp (tl (g1t (c9 (k:=k+67)) a5 (t:=.lst (intsOf ds)) rfl) rfl λnU k6=>?_)))
 have a6:=a5.kp k6
 have I6:=I5.mv (Mv.of (M:=λu=>False) k6) (λu u=>id) nt
 cases ds with
 |nil=>exact vl (g1b (c9 (k:=k+67)) a6 rfl) λv tR k7 h=>⟨(k5.trans k6).trans k7,h.sc rfl⟩
 |cons d ds=>
  rw[ah (show(T.lst (intsOf (d::ds))).truth=true from rfl)]
  refine jy (gC a6 (a6.ptr (i:=2) rfl rfl rfl) rfl rfl (A4 (o:={cls:=.type "function",data:=.func (ot X k3 ⟨fI,dl,cN,cA,cI,n,cv,ct⟩)}) (fd:=ot X k3 ⟨fI,dl,cN,cA,cI,n,cv,ct⟩) (ie (jx env _ g1p)
   (cl (l:=[iT 0,iT (intsOf (d::ds)).length]) (g1a (c9 (k:=k+67)) a6 rfl) λvals tR k7 hv=>?_))))
  have I7:=I6.mv (Mv.of (M:=λu=>False) k7) (λu u=>id) nt
  have a7:=a6.kp k7
  refine⟨⟨I7.fn,rfl⟩,mo (ad7 nt (PY c.a.ec.inj pU pV pW (by decide)) (d::ds).length (p:=[]) (q:=d::ds) (r:=[]) rfl (cX (dP _)) G0 (rT hb) (by rw[kq];exact hm) (a7.ra.mono (aD (cR hm 3) (jQ _ _))) a7.wd a7.ng hN (by rw[kq];exact I7) ?_) λv Cu z=>⟨((k5.trans k6).trans k7).trans z.1,z.2.sc rfl⟩⟩
  rw[show(intsOf (d::ds)).length=[].length+(d::ds).length from(bK ..).trans (jV _).symm]at hv
  exact hv
def aem:dq X (k+68) 115 ml:=λA N s ts vals t E ra wd ng hv e=>by
 refine qU e λx y q ea=>eW ea λl qx eb=>ff eb λj qy ec=>aO ec λds hd ed=>ifs ed λh ez=>?_
 clear e ea eb ec ed
 subst q;subst qx;subst qy;subst ez
 obtain⟨n,rfl⟩:=A0 (dn (by decide) h.1.1)
 cases aei hd
 exact aej h.2.1 h.2.2.1 h.2.2.2 ra wd ng hv
end
noncomputable def pZ(c:List Nat)(b:Nat):List Nat:=if c.length<=b then c++bZ (b - c.length+1) 0 else c
noncomputable def zJ(c:List Nat)(b:Nat):List Nat:=(pZ c b).set b ((pZ c b).getD b 0+1)
structure Ws where
 c:List Nat
 b:Nat
 n:Nat
 nt:Nat
noncomputable def bF:List Nat->Ws->Ws:=List.rec (λw=>w) λx z ih w=>if x=32 then ih ⟨w.c,w.b+1,w.n+1,w.nt⟩else if x=9 then ih ⟨zJ w.c w.b,0,w.n+1,w.nt+1⟩else w
noncomputable def mZ(d:Nat):T:=.str ⟨#[d]⟩
noncomputable def fV(x0 x1:Option T)(w:Ws)(ch:Option T):aE:=[x0,x1,ab (.str (s_ " ")),ab (.str (s_ "\t")),ab (.lst (intsOf w.c)),ab (iT w.b),ab (iT w.n),ab (iT w.nt),ch]
noncomputable def inc(i:Nat):S:=.asg i (.bin .add (.var i) (.lit (.int 1)))
noncomputable def aen:Ex:=.bin .add (.var 4) (.bin .mul (.lst (.cons (.lit (.int 0)) .nil)) (.bin .add (.bin .sub (.var 5) (.vF (.var 4))) (.lit (.int 1))))
noncomputable def wA:S:=.bN (.cmp .ge (.var 5) (.vF (.var 4))) (.own 4 aen) .skip
noncomputable def wS:S:=.yq 4 (.var 5) (.bin .add (.idx (.var 4) (.var 5)) (.lit (.int 1)))
noncomputable def wB:S:=.bN (.cmp .eq (.var 8) (.var 2)) (.seq (inc 6) (inc 5)) (.bN (.cmp .eq (.var 8) (.var 3)) (.seq (inc 6) (.seq (inc 7) (.seq wA (.seq wS (.asg 5 (.lit (.int 0))))))) .brk)
section
variable{F:Nat->List T->Option T}{r r':aE}{a b:S}{e:Ex}
def wK(h:ex F a r=ab (.next,r')):ex F (.seq a b) r=ex F b r':=af (·.bind (mO (ex F b))) h
def jb(h:a9 F e r=ab true):ex F (.bN e a b) r=ex F a r:=af (·.bind λt=>if t=true then ex F a r else ex F b r) h
def gH(h:a9 F e r=ab false):ex F (.bN e a b) r=ex F b r:=af (·.bind λt=>if t=true then ex F a r else ex F b r) h
def kh(l:List Nat):(intsOf l).length=l.length:=bK ..
def ints_app(a b:List Nat):intsOf a++intsOf b=intsOf (a++b):=mD.symm
def ints_set(l:List Nat)(i v:Nat):(intsOf l).set i (iT v)=intsOf (l.set i v):=aoz.symm
def P8{i n:Nat}(h:i<n):f9 (i:Int) n=ab i:=by
 unfold f9
 show(if(decide ((0:Int)<=(if(i:Int)<0 then(i:Int)+(n:Int)else(i:Int)))&&decide ((if(i:Int)<0 then(i:Int)+(n:Int)else(i:Int))<(n:Int)))=true then ab (if(i:Int)<0 then(i:Int)+(n:Int)else(i:Int)).toNat else ae)=_
 rw[ai (lr.mpr (cx _)),ah (il.mpr ⟨ar (cx _),ar (fA.mpr h)⟩),jU]
def G1{l:List Nat}{i:Nat}(h:i<l.length):kB (.lst (intsOf l)) (iT i)=ab (iT (l.getD i 0)):=by
 show(f9 (i:Int) (intsOf l).length).bind ((intsOf l)[·]?)=_
 rw[P8 (by rw[kh];exact h)]
 show(intsOf l)[i]?=_
 unfold intsOf
 rw[gL,anV,iu h];rfl
variable{x0 x1:Option T}{ch:Option T}{w:Ws}
def aeo:ex F wB (fV x0 x1 w (ab (mZ 32)))=ab (.next,fV x0 x1 ⟨w.c,w.b+1,w.n+1,w.nt⟩ (ab (mZ 32))):=by kernel_rfl
def P9{c d:Nat}(h:c≠d):¬((⟨#[c]⟩:Str)==⟨#[d]⟩)=true:=λe=>h (af (λs:Str=>s.cps.getD 0 0) (ao e))
def aep{d:Nat}(h1:d≠32)(h2:d≠9):ex F wB (fV x0 x1 w (ab (mZ d)))=ab (.brk,fV x0 x1 w (ab (mZ d))):=by
 refine(gH ?_).trans (gH ?_)
 ·exact(af ab (px.mpr (P9 h1)):ab ((⟨#[d]⟩:Str)==⟨#[32]⟩)=ab false)
 ·exact(af ab (px.mpr (P9 h2)):ab ((⟨#[d]⟩:Str)==⟨#[9]⟩)=ab false)
def aeq(hb:w.b<=1000)(hc:w.c.length<=1001):ex F wA (fV x0 x1 w ch)=ab (.next,fV x0 x1 ⟨pZ w.c w.b,w.b,w.n,w.nt⟩ ch):=by
 have e:a9 F (.cmp .ge (.var 5) (.vF (.var 4))) (fV x0 x1 w ch)=ab (decide (w.c.length<=w.b)):=by
  show ab (decide ((w.b:Int)≥((intsOf w.c).length:Nat)))=_
  rw[kh]
  exact af ab (decide_eq_decide.mpr dh)
 unfold wA pZ
 by_cases h:w.c.length<=w.b
 ·rw[jb (e.trans (af ab (ar h))),ah h]
  show((a8 .mul (.lst [.int 0]) (.int ((w.b:Int) - ((intsOf w.c).length:Nat)+1))).bind λy=>a8 .add (.lst (intsOf w.c)) y).bind (λt=>if t.obj=true then b8 (put (fV x0 x1 w ch) 4 t)else ae)=_
  rw[kh,show(w.b:Int) - (w.c.length:Nat)+1=((w.b - w.c.length+1:Nat):Int)by rw[tC,xW h];rfl]
  show(((if(0:Int)<=((w.b - w.c.length+1:Nat):Int)/\2*((w.b - w.c.length+1:Nat):Int).toNat<=lim then ab (T.lst (bZ ((w.b - w.c.length+1:Nat):Int).toNat [T.int 0]).flatten)else ae)).bind _).bind _=_
  have z1:w.b - w.c.length+1<=1001:=cX (aD (mA _ _) hb)
  rw[ah ⟨cx _,by rw[jU];exact aD (ko 2 z1) (by decide)⟩,jU,PX]
  show((if(intsOf w.c).length+(intsOf (bZ (w.b - w.c.length+1) 0)).length<=lim then ab (T.lst (intsOf w.c++intsOf (bZ (w.b - w.c.length+1) 0)))else ae)).bind _=_
  rw[ah (by rw[kh,kh,qG];exact aD (eA hc z1) (by decide)),ints_app]
  rfl
 ·rw[gH (e.trans (af ab (av h))),ai h]
  rfl
def aer(h:w.b<w.c.length):ex F wS (fV x0 x1 w ch)=ab (.next,fV x0 x1 ⟨w.c.set w.b (w.c.getD w.b 0+1),w.b,w.n,w.nt⟩ ch):=by
 show((kB (.lst (intsOf w.c)) (iT w.b)).bind λx=>a8 .add x (.int 1)).bind (λy=>if(0:Int)<=(w.b:Int)/\(w.b:Int)<((intsOf w.c).length:Nat)then b8 (put (fV x0 x1 w ch) 4 (.lst ((intsOf w.c).set (w.b:Int).toNat y)))else ae)=_
 rw[G1 h]
 show(if(0:Int)<=(w.b:Int)/\(w.b:Int)<((intsOf w.c).length:Nat)then b8 (put (fV x0 x1 w ch) 4 (.lst ((intsOf w.c).set (w.b:Int).toNat (iT (w.c.getD w.b 0+1)))))else ae)=_
 rw[ah ⟨cx _,by rw[kh];exact fA.mpr h⟩,jU,ints_set]
 rfl
def Qa{c:List Nat}{b:Nat}:b<(pZ c b).length/\((pZ c b).length<=b+1∨(pZ c b).length<=c.length):=by
 unfold pZ
 by_cases h:c.length<=b
 ·rw[ah h,bQ,qG,<-g6,vh h]
  exact⟨iq _,.inl (bj _)⟩
 ·rw[ai h]
  exact⟨xq.mp h,.inr (bj _)⟩
def aes(hb:w.b<=1000)(hc:w.c.length<=1001):ex F wB (fV x0 x1 w (ab (mZ 9)))=ab (.next,fV x0 x1 ⟨zJ w.c w.b,0,w.n+1,w.nt+1⟩ (ab (mZ 9))):=
 (gH rfl).trans ((jb rfl).trans ((wK (r':=fV x0 x1 ⟨w.c,w.b,w.n+1,w.nt⟩ (ab (mZ 9))) rfl).trans ((wK (r':=fV x0 x1 ⟨w.c,w.b,w.n+1,w.nt+1⟩ (ab (mZ 9))) rfl).trans ((wK (aeq (w:=⟨w.c,w.b,w.n+1,w.nt+1⟩) hb hc)).trans (wK (aer (w:=⟨pZ w.c w.b,w.b,w.n+1,w.nt+1⟩) Qa.1))))))
def aet{c:List Nat}{b k:Nat}(h1:b+1<=k)(h2:c.length<=k):(zJ c b).length<=k:=by
 unfold zJ
 rw[Ke]
 exact Qa.2.elim (λh=>aD h h1) λh=>aD h h2
noncomputable def fW(F:Nat->List T->Option T)(y:T)(r:aE):Option (Fl×aE):=(ab (put r 8 y)).bind (ex F wB)
def aeu:∀(cs:List Nat){w:Ws}{ch:Option T},w.b+cs.length<=1000->w.c.length<=1001->(bF cs w).c.length<=1001/\∃CD,b6 (fW F) (cs.map mZ) (fV x0 x1 w ch)=ab (.next,fV x0 x1 (bF cs w) CD):=by
 intro cs
 induction cs with
 |nil=>exactλ{w ch}z h=>⟨h,ch,rfl⟩
 |cons d cs ih=>
  intro w ch hb hc
  have kj:w.b+1+cs.length<=1000:=by rw[g6,eE 1];exact hb
  show(if d=32 then _ else if d=9 then _ else w:Ws).c.length<=1001/\∃CD,(ex F wB (fV x0 x1 w (ab (mZ d)))).bind (nN (b6 (fW F) (cs.map mZ)))=ab (.next,fV x0 x1 (if d=32 then _ else if d=9 then _ else w:Ws) CD)
  by_cases G8:d=32
  ·subst G8
   rw[aeo,ah rfl]
   exact ih kj hc
  ·rw[ai G8]
   by_cases h9:d=9
   ·subst h9
    rw[aes (aD (bX _ _) hb) hc,ah rfl]
    exact ih (w:=⟨zJ w.c w.b,0,w.n+1,w.nt+1⟩) (aD (cR (dP _) _) kj) (aet (aD (aD (bX _ _) kj) (by decide)) hc)
   ·rw[aep G8 h9,ai h9]
    exact⟨hc,_,rfl⟩
noncomputable def wsT(x:Str):T:=.ins 0 [.str x,iT (bF x.cps.toList ⟨[],0,0,0⟩).n,iT (bF x.cps.toList ⟨[],0,0,0⟩).nt,.tup [.tup (intsOf (bF x.cps.toList ⟨[],0,0,0⟩).c),iT (bF x.cps.toList ⟨[],0,0,0⟩).b],.bool (decide ((bF x.cps.toList ⟨[],0,0,0⟩).c.length<=1))]
noncomputable def Qb:List T->Option T:=a1 (cG λx=>if x.length<=1000 then ab (wsT x)else ae)
noncomputable def Qc:Ex:=.tup (.cons (.prim .tuple1 (.cons (.var 4) .nil)) (.cons (.var 5) .nil))
noncomputable def Qd:Ex:=.cmp .le (.prim .len (.cons (.var 4) .nil)) (.lit (.int 1))
def aew:ev F Qc (fV x0 x1 w ch)=ab (.tup [.tup (intsOf w.c),iT w.b]):=rfl
def aex:ev F Qd (fV x0 x1 w ch)=ab (.bool (decide (w.c.length<=1))):=by
 show ab (T.bool (decide (((intsOf w.c).length:Int)<=1)))=_
 rw[kh]
 exact af (λb=>ab (T.bool b)) (decide_eq_decide.mpr dh)
end
structure WQ(X:Kx)(k:Nat)(A:aM)(env:Env)(c:Sc)(aH M N:Addr->Prop)(ad:Nat->Addr)(r:aE)(s:az)(x dx Cc:Addr)(aP:az)(ns:List Str)(ts:List T)(vs:List ay):Prop where
 m:Mk X k A env c aH M N ad r s x dx Cc ns vs
 acc:Mv X (λz=>False) aP s
 hM:∀b,M b->aP.heap.objs.size<=b
 h0:aH x/\aH dx
 d0:aP.heap.objs.size<=dx
 tb:∀b∈aV,aH b
 vr:aL X (λb=>aH b∨M b) s.heap ts vs
section
variable{X:Kx}{k:Nat}{A:aM}{env:Env}{c c':Sc}{aH M N M' N':Addr->Prop}{ad ad':Nat->Addr}{r r':aE}{s s' aP:az}{E:ay->az->Prop}{Q:Flow->az->Prop}{rest:List Stmt}{x dx Cc:Addr}{ns:List Str}{ts:List T}{vs:List ay}
def WQ.to(q:WQ X k A env c aH M N ad r s x dx Cc aP ns ts vs)(mv:Mv X M s s')(m:∀b,M' b->M b∨s.heap.objs.size<=b)(a:At X k A env c' N' r' s')(F:Fw X env c' aH M' N' ad' r' s'.heap):WQ X k A env c' aH M' N' ad' r' s' x dx Cc aP ns ts vs:=
 ⟨⟨a,F,q.m.I.keep (λo e=>mv.old _ _ (λz=>q.m.F.m0 _ z q.h0.1) q.m.tx e) λo e=>mv.old _ _ (λz=>q.m.F.m0 _ z q.h0.2) q.m.td e,q.m.tx,q.m.td,F.n0 _ q.h0.2,λz=>F.m0 _ z q.h0.2,q.m.hf,q.m.xd⟩,
  q.acc.trans mv λd h=>.inr (q.hM d h),λb h=>(m b h).elim (q.hM b) λz=>aD q.acc.size z,q.h0,q.d0,q.tb,q.vr.move (λb h=>h.elim (λh=>.inl (.inl h)) λh=>(m b h).imp .inr id) (mv.kc (λb h=>.inl (q.tb b h)) λb=>.inr)⟩
def WQ.S{C:Cx}{σ:S}{o':List Nat}{sm:Stmt}(H:Ok C k)(Gi:bR σ c [sm] o')(q:WQ C.X k A env c aH M N ad r s x dx Cc aP ns ts vs)(e:ex C.F σ r=ab (.next,r'))
  (h:∀{s' M' N' ad'},WQ C.X k A env (cy c o') aH M' N' ad' r' s' x dx Cc aP ns ts vs->aA (model C.X.prog C.X.w) A (bL rest env) Q E s'):aA (model C.X.prog C.X.w) A (bL (sm::rest) env) Q E s:=
 zk H Gi q.m.a q.m.F e λmv a F n m=>h (q.to mv m a F)
def WQ.nR{sm:Stmt}{y nm:Str}{i:Nat}{value:Xp}{t:T}(q:WQ X k A env c aH M N ad r s x dx Cc aP ns ts vs)(hv:∀E,aA (model X.prog X.w) A (eval value env) (Res X N s t) E s)(hp:cZ value=true)(hy:c.slots.lookup y=ab i)(hr:get r i=ab (.ptr x))(hn:iW y=true)(ho:c.own.contains i=false)
  (cl:oh X.K Cc nm) (G0:nm∉ns) (pR:(ns++[nm]).Nodup) (zr:(ns++[nm]).length<=20)
  (h:∀{s' N' v},WQ X k A env c aH M N' ad r s' x dx Cc aP (ns++[nm]) (ts++[t]) (vs++[v])->aA (model X.prog X.w) A (bL rest env) Q E s'):aA (model X.prog X.w) A (bL (jD sm y nm value::rest) env) Q E s:=
 uj (R:=λv aB=>VR X N aB.heap t v) q.m hv hp hy hr hn ho cl (λv hs tk es he=>(rL he).1 G0) pR zr λ{v aB s' N'}k1 hv mv m n1 n2 n3=>by
  have kc:=mv.kc (N:=λb=>aH b∨M b) (λb h=>.inl (q.tb b h)) λb e=>.inl (e▸q.h0.2)
  exact h ⟨m,(q.acc.trans (Mv.of (M:=λz=>False) k1) λd=>.inl).trans mv λd e=>.inr (e▸q.d0),q.hM,q.h0,q.d0,q.tb,
   ((q.vr.move (λz=>.inl) (k1.kc λb h=>.inl (q.tb b h))).app (.one (hv.mono λb h=>h.elim (m.F.n0 b|>λz=>q.m.F.n0 b) (q.m.F.mn b)))).move (λz=>.inl) kc⟩
def WQ.fz(q:WQ X k A env c aH M N ad r s x dx Cc aP ns ts vs)(ks:List Nat)(h:∀{M' N'},WQ X k A env (cy c (d5 c.own ks)) aH M' N' ad r s x dx Cc aP ns ts vs->aA (model X.prog X.w) A (bL rest env) Q E s):aA (model X.prog X.w) A (bL rest env) Q E s:=by
 obtain⟨M',N',m,n,n0,a',F'⟩:=freeze q.m.a q.m.F ks
 exact h (q.to (.refl s) (λb h=>.inl (m b h)) a' F')
end
noncomputable def Db.isO{P:List Nat->Prop}(x:Db (List Nat) P)(o:List Nat):Bool:=Db.rec (motive:=λz=>Bool) false (λa z=>a==o) x
def Db.is{P:List Nat->Prop}(x:Db (List Nat) P)(o:List Nat)(h:x.isO o=true):P o:=by cases x with|no=>exact ft h|yes a q=>exact ao (show(a==o)=true from h)▸q
noncomputable def forL(s:Stmt):List Stmt:=if h:s.ctorIdx=9 then Stmt.For.elim s h λz z b z z=>b else default
noncomputable def Qe:List (Str×Nat):=slots ["self","ws","S","T","count","b","n","nt","ch"]
def aez:(31,Qe,2)∈bt:=dZ (i:=22) (by kernel_rfl)
noncomputable def gT:Sc:=⟨(bC 31).scope.names,Qe,[]⟩
noncomputable def Qf:List Str:=["raw","n","nt","norm","is_simple"].map s_
noncomputable def sa(i:Nat)(n:String):Stmt:=jD (st 31 i) (s_ "self") (s_ n) (aT (st 31 i))
def b31:body 31=sa 0 "raw"::st 31 1::st 31 2::st 31 3::.For (bY (hZ (st 31 4)) (s_ "ch")) (rS (uv (st 31 4)) (s_ "self") (s_ "raw")) (forL (st 31 4)) [] (st 31 4).pos::sa 5 "n"::sa 6 "nt"::sa 7 "norm"::[sa 8 "is_simple"]:=by kernel_rfl
noncomputable def Qg:S:=.fC [2,3] (.tup (.cons (lS " ") (.cons (lS "\t") .nil)))
noncomputable def Qh:S:=.own 4 (.lst .nil)
noncomputable def Qi:S:=.pH [5,6,7] (.lit (.int 0))
def aeB:bR Qg gT [st 31 1] []:=Db.is (oZ Qg gT [st 31 1]) [] (by kernel_rfl)
def aeC:bR Qh gT [st 31 2] [4]:=Db.is (oZ Qh gT [st 31 2]) [4] (by kernel_rfl)
def aeD:bR Qi (cy gT [4]) [st 31 3] [4]:=Db.is (oZ Qi (cy gT [4]) [st 31 3]) [4] (by kernel_rfl)
def aeE:bR wB (cy gT [4]) (forL (st 31 4)) [4]:=Db.is (oZ wB (cy gT [4]) (forL (st 31 4))) [4] (by kernel_rfl)
def wv(e:Ex)(i:Nat)(h:(bo e .val gT [aT (st 31 i)]).ok=true):Gd e .val gT [aT (st 31 i)]:=no_implicit_lambda%(@Mb.get (Gd e .val gT [aT (st 31 i)]) (bo e .val gT [aT (st 31 i)]) h)
def zK:((bo (.var 1) .val gT [aT (st 31 0)]).ok=true/\(bo (.var 6) .val gT [aT (st 31 5)]).ok=true/\(bo (.var 7) .val gT [aT (st 31 6)]).ok=true)/\(bo Qc .val gT [aT (st 31 7)]).ok=true/\(bo Qd .val gT [aT (st 31 8)]).ok=true:=⟨⟨by kernel_rfl,by kernel_rfl,by kernel_rfl⟩,by kernel_rfl,by kernel_rfl⟩
def zL:(cZ (aT (st 31 0))=true/\cZ (aT (st 31 5))=true/\cZ (aT (st 31 6))=true)/\cZ (aT (st 31 7))=true/\cZ (aT (st 31 8))=true:=⟨⟨by kernel_rfl,by kernel_rfl,by kernel_rfl⟩,by kernel_rfl,by kernel_rfl⟩
def zM(P:dY):((KC (KK P) 76=true/\dQ (KK P) (.ref 76) "__init__"=ab (ab (.ref 31))/\A5 (KK P) (.ref 31)=ab (.type "function"))/\dQ (KK P) (.ref 76) "__setattr__"=ab (ab (.builtin "object.__setattr__"))/\Ku (KK P) 76=true/\xQ (KK P) 76=true/\Qf.all (λn=>decide (Kv (KK P) 76 n=ab ae))=true)/\
 dQ (KK P) (.ref 76) "__getattribute__"=ab (ab (.builtin "object.__getattribute__"))/\dQ (KK P) (.ref 76) (s_ "raw")=ab ae:=⟨⟨⟨by kernel_rfl,by kernel_rfl,by kernel_rfl⟩,by kernel_rfl,by kernel_rfl,by kernel_rfl,by kernel_rfl⟩,by kernel_rfl,by kernel_rfl⟩
def zN{P:dY}{n:Str}{j:Nat}(h:Qf[j]?=ab n):oh (KK P) 76 n:=⟨(zM P).1.2.1,(zM P).1.2.2.1,aq (bA.mp (zM P).1.2.2.2.2 n (dZ h)),(zM P).1.2.2.2.1⟩
section
variable{X:Kx}{k:Nat}
def aeF{A:aM}{env:Env}:Turn ⟨X,λz z=>ae⟩ k A env (cy gT [4]) (bY (hZ (st 31 4)) (s_ "ch")) (forL (st 31 4)) (fW λz z=>ae):=λ{aH M N ad s y v r p}a F hv hf E=>
 sW (l8 false a F (k₀:=8) rfl hv ft λs' ad' mv a' F'=>mo (aeE c9 a' F' (fl:=p.1) (r':=p.2) hf E) λfw aX L=>L.trans mv (λz=>.inl) λz=>.inl)
def aeG:dq X (k+2) 76 Qb:=λA N s ts vals t E ra wd ng hv e=>by
 refine tJ e λx q ea=>ia ea λx qx eb=>ifs eb λhx ez=>?_
 clear e ea eb
 subst q;subst qx;subst ez
 have H:Ok ⟨X,λz z=>ae⟩ k:=c9
 have W:=zM X.w.params
 refine OV 7 (iM aez) W.1.1.1 W.1.1.2.1 W.1.1.2.2 rfl ra wd ng hv λ{A' env aB aH M N'}m k0 hN ED hM h0=>?_
 rw[b31]
 have q1:WQ X k A' env gT aH M N' (λz=>0) (start 7 [.ptr (s.heap.objs.size+1),.str x]) aB (s.heap.objs.size+1) s.heap.objs.size 76 s [] [] []:=⟨m,.of k0,hM,⟨h0 _ (.inr (.inl rfl)),h0 _ (.inr (.inr rfl))⟩,bj _,λb h=>h0 b (.inl (ng.tb b h)),.nil⟩
 refine q1.nR (i:=0) (t:=.str x) (wv _ _ zK.1.1 H q1.m.a rfl) zL.1.1 rfl rfl rfl rfl (zN (j:=0) rfl) gM (by decide) (by decide) λ{s₂ Pw bD}q2=>?_
 refine q2.S (C:=⟨X,λz z=>ae⟩) H aeB rfl λ{aX Px Py acZ}q3=>?_
 refine q3.S (C:=⟨X,λz z=>ae⟩) H aeC rfl λ{aS Qj GN ap2}q4=>?_
 refine q4.S (C:=⟨X,λz z=>ae⟩) H aeD (r':=fV (ab (.ptr (s.heap.objs.size+1))) (ab (.str x)) ⟨[],0,0,0⟩ ae) rfl λ{dC G9 GO ap3}q5=>?_
 have o4:aL X (λb=>aH b∨G9 b) dC.heap [.str x] [bD]:=q5.vr
 cases o4 with|cons o4 _=>
 refine execs_cons (c8 (Kf (zw q5.m.a (i:=0) (j:=0) rfl rfl rfl rfl q5.m.I rfl rfl ⟨W.2.1,W.1.2.2.2.1,W.2.2⟩ (handed o4) λnU k6=>?_) (vS rfl env)))
 have a6:=q5.m.a.kp k6
 have F6:=q5.m.F.kp q5.m.a k6
 refine mo (LA a6.ra.handled a6.ng a6.wd.apart (o4.sc rfl) (l:=x.cps.toList.map mZ) rfl) λtS tR h7=>?_
 obtain⟨k67,I,fp,wr,St,eJ,rfl,it,yZ,fF,ig⟩:=h7
 obtain⟨ka,CD,GL⟩:=aeu (F:=λz z=>ae) (x0:=ab (.ptr (s.heap.objs.size+1))) (x1:=ab (.str x)) x.cps.toList (w:=⟨[],0,0,0⟩) (ch:=ae) (by show 0+x.length<=1000;rw[jV];exact hx) (dP _)
 refine Fq (C:=⟨X,λz z=>ae⟩) (λq=>ft q) aeF a6 F6 it yZ k67 fF (λb hb hw=>(ig b hb hw).elim id λq=>aN q) GL λfw Cu L=>?_
 cases L with| @mk ap4 Pz ap5 fo mv n0 m8 n8 o=>
 cases fo
 refine⟨λz=>?_,λh=>(h rfl).elim⟩
 refine o.elim ft λU=>?_
 have q8:=q5.to ((Mv.of (M:=G9) k6).trans mv λz=>.inl) (λb h=>(m8 b h).imp id λh=>aD k6.size h) U.1 U.2
 refine q8.fz [4] λ{ap6 ap7}q9=>?_
 refine q9.nR (i:=0) (c:=gT) (wv _ _ zK.1.2.1 H q9.m.a rfl) zL.1.2.1 rfl rfl rfl rfl (zN (j:=1) rfl) (by decide) (by decide) (by decide) λ{Cw N10 v2}B0=>?_
 refine B0.nR (i:=0) (wv _ _ zK.1.2.2 H B0.m.a rfl) zL.1.2.2 rfl rfl rfl rfl (zN (j:=2) rfl) (by decide) (by decide) (by decide) λ{Qk N11 v3}zd=>?_
 refine zd.nR (i:=0) (wv _ _ zK.2.1 H zd.m.a aew) zL.2.1 rfl rfl rfl rfl (zN (j:=3) rfl) (by decide) (by decide) (by decide) λ{s12 N12 v4}ze=>?_
 refine ze.nR (i:=0) (wv _ _ zK.2.2 H ze.m.a aex) zL.2.2 rfl rfl rfl rfl (zN (j:=4) rfl) (by decide) (by decide) (by decide) λ{zm N13 v5}uc=>?_
 obtain⟨es,n,ed,ee⟩:=uc.m.I.dict
 exact aQ ⟨rfl,uc.acc.kp λz=>id,.ins (c:=0) uc.m.I.obj ed (λq=>bx (ng.lt _ q) (gy _)) (λq=>bx (ng.lt _ q) (bj _)) ee (uc.vr.mono λb h=>.inl (h0 b (.inl h)))⟩
end
section
variable{prog:gK}{w:gZ}{A:aM}{E:ay->az->Prop}{s:az}{I:Addr}{fp wr:List Addr}{G:Array mx->Array mx->Prop}{n:Nat}{P:Nat->ay->Prop}{St:Nat->az->Prop}{T:String}
structure wL(T:String):Prop where
 len:sP (.type T) "__len__"=pure ae
 hint:sP (.type T) "__length_hint__"=pure ae
 list:(ay.type T==ay.type "list")=false
 tuple:(ay.type T==ay.type "tuple")=false
def aeI:wL "map":=⟨by rw[jr,jt];kernel_rfl,by rw[jr,jt];kernel_rfl,by decide,by decide⟩
def aeJ:wL "filter":=⟨by rw[jr,jt];kernel_rfl,by rw[jr,jt];kernel_rfl,by decide,by decide⟩
def Ql(hG:wL T)(W:vp prog w A.in1 I fp wr G n P St)(hT:∀i s,St i s->s.TypeIs (.ref I) T)(hI:I∈fp){S:Addr}(hS:S∉fp)(fK:St 0 s){c:Nat}(ho:s.heap.get? S=ab {cls:=.type "list",data:=.seq #[] c})(hn:n<=pq)(res:ay){R:oI->az->Prop}
  (hR:∀s' acc c',qH (S::wr) G s s'->s'.heap.get? S=ab {cls:=.type "list",data:=.seq acc c'}->KL P acc n->R (.ok (.ret res)) s'):
  aA (model prog w) A.in1 (Vd (.ref S) (.ref I) res) (λfin s'=>match fin with|.done f=>R (.ok f) s'|.again c'=>c'.quiet=true/\gN (model prog w) A c' R s') (λe s'=>R (.error e) s') s:=by
 have iY:S≠I:=λe=>hS (e▸hI)
 have ty:=hT 0 s fK
 unfold Vd
 refine aG (TZ ty ?_)
 rw[show aoA (.ref S) (.ref I)=false by simp [aoA,iY]]
 simp only[hG.list,hG.tuple,Bool.or_false,pA,if_false]
 refine aG (W.self 0 _ _ _ fK (aG (dN ?_)))
 unfold axP
 refine aG (JQ ty hG.len ?_)
 refine aG (JQ ty hG.hint (aQ ?_))
 refine aG (DA (aG ?_))
 unfold axQ
 refine aG (Ve ho rfl ?_)
 have o2:=xO (lL (·.push ay.none)) ho rfl
 refine Ve o2 rfl ?_
 have o3:=xO (lL (·.pop)) o2 rfl
 have fS:∀b o,b≠S->s.heap.get? b=ab o->((s.heap.update S (lL (·.push ay.none))).update S (lL (·.pop))).get? b=ab o:=
  λb o hb e=>(Vf _ _ (Ne.symm hb)).trans ((Vf _ _ (Ne.symm hb)).trans e)
 have Ha:=W.frame 0 s _ s.toks fK (bj _) λb hb o e=>fS b o (λq=>hS (q▸hb)) e
 refine aQ ⟨DZ PySem.F.plain_extend_loop _,codeAny_extend_loopS W hn _ hS _ n 0 _ _ _ rfl (dP _) Ha o3 (KL.nil P) λs' acc c' hm cb ha=>?_⟩
 refine hR s' acc c' ?_ cb ha
 exact Vg W.gtrans ((aoB W.grefl).then_heap (bj _) λb o hb e=>fS b o (λh=>hb (h▸bk)) e) hm
def aeK(hG:wL T)(W:vp prog w A.in1.in1 I fp wr G n P St)(hT:∀i s,St i s->s.TypeIs (.ref I) T)(hI:I∈fp)(fK:St 0 s)(ig:∀b∈fp,b<s.heap.objs.size)(hn:n<=pq){Q:ay->az->Prop}
  (hQ:∀s' acc c',qH (s.heap.objs.size::wr) G {s with heap:=s.heap.push {cls:=.type "list",data:=.seq #[]}} s'->s'.heap.get? s.heap.objs.size=ab {cls:=.type "list",data:=.seq acc c'}->KL P acc n->Q (.ref s.heap.objs.size) s'):
  aA (model prog w) A (call (.type "list") [.ref I]) Q E s:=by
 have hS:s.heap.objs.size∉fp:=λhm=>eY _ (ig _ hm)
 refine callType_codes (Q₁:=λobj aB=>obj=.ref s.heap.objs.size/\aB={s with heap:=s.heap.push {cls:=.type "list",data:=.seq #[]}}) PySem.F.called_list (PySem.F.typeCall_list_1 _) PySem.F.entry_list_init (code_list_new _ ⟨rfl,rfl⟩) λobj aB bJ=>?_
 obtain⟨rfl,rfl⟩:=bJ
 have o1:(s.heap.push {cls:=.type "list",data:=.seq #[]}).get? s.heap.objs.size=ab {cls:=.type "list",data:=.seq #[]}:=cB _ rfl
 have p0:=W.frame 0 s (s.heap.push {cls:=.type "list",data:=.seq #[]}) s.toks fK (bj _) λb z o e=>cS _ e
 refine⟨⟨_,o1,rfl⟩,PySem.F.args_list_init_2 _ _,?_⟩
 refine aG ?_
 unfold ax0
 refine aG (xN o1 rfl (aQ (aG ?_)))
 refine Ve o1 rfl ?_
 have o2:=xO (lL (λz=>(#[]:Array ay))) o1 rfl
 have fS:∀b o,b≠s.heap.objs.size->(s.heap.push {cls:=.type "list",data:=.seq #[]}).get? b=ab o->((s.heap.push {cls:=.type "list",data:=.seq #[]}).update s.heap.objs.size (lL (λz=>(#[]:Array ay)))).get? b=ab o:=
  λb o hb e=>(Vf _ _ (Ne.symm hb)).trans e
 refine aG (wpAny_letGo ?_)
 have Ha:=W.frame 0 {s with heap:=s.heap.push {cls:=.type "list",data:=.seq #[]}} _ s.toks p0 (bj _) λb hb o e=>fS b o (λq=>hS (q▸hb)) e
 refine Ql hG W hT hI hS Ha o2 hn .none λs' acc c' hm cb ha=>?_
 refine⟨rfl,hQ s' acc c' ?_ cb ha⟩
 exact Vg W.gtrans ((aoB W.grefl).then_heap (bj _) λb o hb e=>fS b o (λh=>hb (h▸bk)) e) hm
def aeL(hG:wL T)(W:vp prog w A.in1 I fp wr G n P St)(hT:∀i s,St i s->s.TypeIs (.ref I) T)(hI:I∈fp)(fK:St 0 s)(ig:∀b∈fp,b<s.heap.objs.size)(hn:n<=pq){Q:List ay->az->Prop}
  (hQ:∀s' acc,qH (s.heap.objs.size::wr) G {s with heap:=s.heap.push {cls:=.type "list",data:=.seq #[]}} s'->KL P acc n->Q acc.toList s'):
  aA (model prog w) A (collect (.ref I)) Q E s:=by
 have hS:s.heap.objs.size∉fp:=λhm=>eY _ (ig _ hm)
 unfold collect
 refine aG (wpAny_runValue (xY PySem.F.entry_proto_collect ?_))
 rw[Bd PySem.F.plain_proto_collect _]
 refine aG (sR ?_)
 refine aQ ⟨DZ aoE _,xY PySem.F.entry_list_iadd ?_⟩
 rw[Bd aoE _]
 have o1:(s.heap.push {cls:=.type "list",data:=.seq ([]:List ay).toArray}).get? s.heap.objs.size=ab {cls:=.type "list",data:=.seq ([]:List ay).toArray}:=cB _ rfl
 have p0:=W.frame 0 s (s.heap.push {cls:=.type "list",data:=.seq ([]:List ay).toArray}) s.toks fK (bj _) λb z o e=>cS _ e
 show aA _ A.in1 (Vd (.ref s.heap.objs.size) (.ref I) (.ref s.heap.objs.size)) _ _ _
 refine Ql hG W hT hI hS p0 o1 hn _ (R:=λr s'=>match r with|.ok (.ret v)=>aA (model prog w) A (match v with|.ref a=>(do match(<-load a).data with|.seq xs _=>pure xs.toList|_=>TY "internal:collect")|_=>TY "internal:collect") Q E s'|.ok _=>False|.error e=>E e s') λs' acc c' hm cb ha=>?_
 refine aG (TL cb ?_)
 exact aQ (hQ s' acc hm ha)
end
end Mine
section
open PySem PySem.Spec PySem.W PyProof.Rows PySem.Builtin PySem.Builtin.Int PySem.Builtin.Str
namespace Mine
section
variable{prog:gK}{w:gZ}{A:aM}{E:ay->az->Prop}{s:az}{I:Addr}{fp wr:List Addr}{G:Array mx->Array mx->Prop}{n:Nat}{P:Nat->ay->Prop}{St:Nat->az->Prop}{T:String}
def aeM{sep:Str}{t:Tok}{ys:List Str}(hG:wL T)(W:vp prog w A.in1.in1 I fp wr G n P St)(hT:∀i s,St i s->s.TypeIs (.ref I) T)(hI:I∈fp)(fK:St 0 s)(ig:∀b∈fp,b<s.heap.objs.size)(hn:n<=pq)
  (hl:ys.length=n) (hy:∀i v,P i v->∃y u,v=.str y u/\ys[i]?=ab y) (jC:nA sep ys=true) {Q:ay->az->Prop}
  (hQ:∀s' tk u,qH (s.heap.objs.size::wr) G {s with heap:=s.heap.push {cls:=.type "list",data:=.seq #[]}} s'->Q (.str (fm sep ys) u) {s' with toks:=tk}):
  aA (model prog w) A (call (.builtin "str.join") [.str sep t,.ref I]) Q E s:=by
 refine pB (xS Dx.plain PySem.F.entry_str_join (Dx.check _ _ _ _ _ _ _ _ (sQ _ _ _) (PySem.F.args_str_join_2 _ _) ?_))
 rw[join_tree_other]
 refine aG (TZ (hT 0 s fK) ?_)
 rw[ai (by rw[hG.list,hG.tuple];decide)]
 refine aG (wpAny_tryCatch (W.of_in1.self 0 s _ _ fK ?_))
 refine aG (aeL hG W hT hI fK ig hn λs' acc hm ha=>?_)
 obtain⟨l,nP⟩:=exists_strValues acc.toList λv hv=>by
  obtain⟨j,hj,rfl⟩:=Array.mem_iff_getElem.mp (Array.mem_toList_iff.mp hv)
  obtain⟨y,u,e,_⟩:=hy j _ (ha.2 j _ (oG hj))
  exact⟨y,u,e⟩
 have p5:l.map (·.1)=ys:=by
  have hlen:l.length=n:=by
   have:=af vx nP
   rw[<-ha.1];simpa [nC] using this
  apply DO
  intro j
  by_cases hj:j<n
  ·have zO:j<l.length:=hlen▸hj
   have e1:acc[j]?=ab (ay.str l[j].1 l[j].2):=by
    have:(nC l)[j]?=ab (ay.str l[j].1 l[j].2):=by unfold nC;rw[gL,iu zO];rfl
    rw[nP]at this;simpa using this
   obtain⟨y,u,e2,e3⟩:=hy j _ (ha.2 j _ e1)
   cases e2
   rw[e3,gL,iu zO];rfl
  ·rw[ve (by rw[bK,hlen];exact eX.mp hj),ve (hl▸eX.mp hj)]
 rw[<-nP]
 rw[<-p5]at jC hQ
 unfold nA at jC
 rw[DF]at jC
 have g:Gives (joinTail sep (nC l)) (joinMade sep l):=by
  have g0:=gives_joinTail sep l jC
  cases l with
  |nil=>exact g0
  |cons p r=>cases r with
   |nil=>exact g0
   |cons q r'=>exact g0
 exact g prog w A (AR Q E) s' (post_join l ⟨joinFit_length jC,λu k=>hQ s' k u hm⟩)
end
end Mine
end
namespace Mine.MF
def zP:Slot "map" "__next__" "map.__next__":=
 .of (owner:="map") (n:="__next__") (by rw[jr,jt];kernel_rfl) (by decide+kernel) (by decide+kernel) (by decide+kernel)
  (by first|exact .inl (by decide+kernel)|exact .inr (by decide+kernel)) (by rw[mF];kernel_rfl)
def Qm:tw tA "map.__next__"=ab eP.«map.__next__»:=A7 (by kernel_rfl)
def uD:Slot "filter" "__next__" "filter.__next__":=
 .of (owner:="filter") (n:="__next__") (by rw[jr,jt];kernel_rfl) (by decide+kernel) (by decide+kernel) (by decide+kernel)
  (by first|exact .inl (by decide+kernel)|exact .inr (by decide+kernel)) (by rw[mF];kernel_rfl)
def Hb:tw tA "filter.__next__"=ab eP.«filter.__next__»:=A7 (by kernel_rfl)
def Qo(a:ay):mG "map.__next__" ⟨[a],[]⟩:=by unfold mG;kernel_rfl
def Qp(a:ay):mG "filter.__next__" ⟨[a],[]⟩:=by unfold mG;kernel_rfl
def aeN:Slot "map" "__init__" "object.__init__":=
 .of (owner:="object") (n:="__init__") (by rw[jr,jt];kernel_rfl) (by decide+kernel) (by decide+kernel) (by decide+kernel)
  (by first|exact .inl (by decide+kernel)|exact .inr (by decide+kernel)) (by rw[mF];kernel_rfl)
def Qq:Slot "map" "__iter__" "map.__iter__":=
 .of (owner:="map") (n:="__iter__") (by rw[jr,jt];kernel_rfl) (by decide+kernel) (by decide+kernel) (by decide+kernel)
  (by first|exact .inl (by decide+kernel)|exact .inr (by decide+kernel)) (by rw[mF];kernel_rfl)
def aeO(a:ay):mG "map.__iter__" ⟨[a],[]⟩:=by unfold mG;kernel_rfl
def aeP:tw tA "map.__iter__"=ab eP.«dict_keyiterator.__iter__»:=
 Vh (id':="dict_keyiterator.__iter__") (by kernel_rfl) (by first|rfl|decide+kernel|(unfold aoG;simp+decide [aoH])) (by decide+kernel) (by kernel_rfl)
def Qr:mroOf (.type "map")=pure [.type "map",.type "object"]:=by rw[mroOf_type];kernel_rfl
def aeQ:sP (.type "map") "__new__"=pure (ab (.builtin "map.__new__")):=by rw[jr,jt];kernel_rfl
def aeR:TypeCalled "map" "map.__new__" "object.__init__":=
 ⟨by decide+kernel,by decide+kernel,⟨_,_,Qr⟩,madeBy_type Qr aeQ (by decide+kernel),by decide+kernel,by rw[mF];kernel_rfl,aeN⟩
def aeS(a b:ay):checkTypeCall "map" ⟨[a,b],[]⟩=pure ():=by kernel_rfl
def aeT(a b:ay):aoM "map.__new__" ⟨[.type "map",a,b],[]⟩=pure ():=by kernel_rfl
def aeU:tw tA "map.__new__"=ab eP.«map.__new__»:=A7 (by kernel_rfl)
def aeV:Ky (.type "map") (.type "map")=pure true:=by rw[mF];kernel_rfl
def aeW:Slot "filter" "__init__" "object.__init__":=
 .of (owner:="object") (n:="__init__") (by rw[jr,jt];kernel_rfl) (by decide+kernel) (by decide+kernel) (by decide+kernel)
  (by first|exact .inl (by decide+kernel)|exact .inr (by decide+kernel)) (by rw[mF];kernel_rfl)
def Qs:Slot "filter" "__iter__" "filter.__iter__":=
 .of (owner:="filter") (n:="__iter__") (by rw[jr,jt];kernel_rfl) (by decide+kernel) (by decide+kernel) (by decide+kernel)
  (by first|exact .inl (by decide+kernel)|exact .inr (by decide+kernel)) (by rw[mF];kernel_rfl)
def aeX(a:ay):mG "filter.__iter__" ⟨[a],[]⟩:=by unfold mG;kernel_rfl
def aeY:tw tA "filter.__iter__"=ab eP.«dict_keyiterator.__iter__»:=
 Vh (id':="dict_keyiterator.__iter__") (by kernel_rfl) (by first|rfl|decide+kernel|(unfold aoG;simp+decide [aoH])) (by decide+kernel) (by kernel_rfl)
def Qt:mroOf (.type "filter")=pure [.type "filter",.type "object"]:=by rw[mroOf_type];kernel_rfl
def aeZ:sP (.type "filter") "__new__"=pure (ab (.builtin "filter.__new__")):=by rw[jr,jt];kernel_rfl
def ae0:TypeCalled "filter" "filter.__new__" "object.__init__":=
 ⟨by decide+kernel,by decide+kernel,⟨_,_,Qt⟩,madeBy_type Qt aeZ (by decide+kernel),by decide+kernel,by rw[mF];kernel_rfl,aeW⟩
def ae1(a b:ay):checkTypeCall "filter" ⟨[a,b],[]⟩=pure ():=by kernel_rfl
def ae2(a b:ay):aoM "filter.__new__" ⟨[.type "filter",a,b],[]⟩=pure ():=by kernel_rfl
def ae3:tw tA "filter.__new__"=ab eP.«filter.__new__»:=A7 (by kernel_rfl)
def ae4:Ky (.type "filter") (.type "filter")=pure true:=by rw[mF];kernel_rfl
end Mine.MF
namespace Mine
structure ou(h:Heap)(e tp it:Addr)(f:ay):Prop where
 ue:h.get? e=ab {cls:=.type "map",data:=.fields #[.ref tp,f]}
 tup:∃n,h.get? tp=ab {cls:=.type "tuple",data:=.seq #[.ref it] n}
def ou.keep{h h':Heap}{e tp it:Addr}{f:ay}(m:ou h e tp it f)(k1:∀o,h.get? e=ab o->h'.get? e=ab o)(k2:∀o,h.get? tp=ab o->h'.get? tp=ab o):ou h' e tp it f:=
 ⟨k1 _ m.ue,let ⟨n,q⟩:=m.tup;⟨n,k2 _ q⟩⟩
def ou.typeIs{s:az}{e tp it:Addr}{f:ay}(m:ou s.heap e tp it f):s.TypeIs (.ref e) "map":=⟨_,m.ue,rfl⟩
section
variable{prog:gK}{w:gZ}{A:aM}{E:ay->az->Prop}{s:az}{e tp it l:Addr}{f:ay}{items:Array ay}{i:Nat}
def ae5{x:ay}{Q:Option ay->az->Prop}(m:ou s.heap e tp it f)(hit:s.heap.IsListIter it l i)(hl:s.heap.IsList l items)(hx:items[i]?=ab x)(he:e≠it)(ht:tp≠it)
  (h:∀h',h'.IsListIter it l (i+1)->sZ it s.heap h'->aA (model prog w) A.in1 (call f [x]) (λv s'=>Q (ab v) s') (λy y=>False) {s with heap:=h'}):
  aA (model prog w) A (iQ (.ref e)) Q E s:=by
 unfold iQ
 refine aG (DS (tj (name:=bP "__next__") m.typeIs MF.zP (tm MF.zP m.typeIs MF.Qm ?_ (MF.Qo _))))
 unfold eP.«map.__next__»
 obtain⟨n,tq⟩:=m.tup
 show aA _ _ (oK (.ref e) 0>>=_) _ _ s
 refine aG (lO m.ue rfl (x:=.ref tp) rfl ?_)
 refine aG (xN tq rfl ?_)
 dsimp only
 rw[<-aoN]
 simp only[xF,xE,bind_assoc,pure_bind]
 refine aG (dN (wpAny_nextOf_list_item hit hl hx λh' rE hs=>?_))
 have m':=m.keep (h':=h') (λo q=>hs.extBut e o he q) λo q=>hs.extBut tp o ht q
 refine aG (lO (s:={s with heap:=h'}) m'.ue rfl (x:=f) rfl ?_)
 refine aG (dN (eF (h h' rE hs) (λv s' q=>?_) λy y z=>z.elim))
 refine aG (wpAny_letGo ?_)
 exact aQ ⟨v,rfl,aQ q⟩
def ae6{Q:Option ay->az->Prop}(hh:A.handled=ae)(m:ou s.heap e tp it f)(hit:s.heap.IsListIter it l i)(hl:s.heap.IsList l items)(hx:items[i]?=ae)(h:∀h',Ko it s.heap h'->Q ae {s with heap:=h'}):
  aA (model prog w) A (iQ (.ref e)) Q E s:=by
 unfold iQ
 refine aG (DS (tj (name:=bP "__next__") m.typeIs MF.zP (tm MF.zP m.typeIs MF.Qm ?_ (MF.Qo _))))
 unfold eP.«map.__next__»
 obtain⟨n,tq⟩:=m.tup
 show aA _ _ (oK (.ref e) 0>>=_) _ _ s
 refine aG (lO m.ue rfl (x:=.ref tp) rfl ?_)
 refine aG (xN tq rfl ?_)
 dsimp only
 rw[<-aoN]
 simp only[xF,xE,bind_assoc,pure_bind]
 refine aG (dN (wpAny_nextOf_list_end (A:=A.in1) hh hit hl hx λh' x k nX=>?_))
 obtain⟨o,ho,hc⟩:=nX
 refine aG (KN (T:="StopIteration") (b:=true) ⟨o,ho,hc⟩ isSubtype_stop ?_)
 exact aQ (h _ k)
def ae7{Q:ay->az->Prop}(m:ou s.heap e tp it f)(h:Q (.ref e) s):aA (model prog w) A (jR (.ref e)) Q E s:=by
 refine aoP m.typeIs MF.Qq (tm MF.Qq m.typeIs MF.aeP ?_ (MF.aeO _))
 show aA _ _ (ret (.ref e)) _ _ s
 exact aQ ⟨_,rfl,"map",_,m.typeIs,MF.zP.lookup,h⟩
def ae8{Pf:Nat->ay->Prop}(hh:A.handled=ae)(he:e≠it)(ht:tp≠it)(hl:l≠it)
  (hf:∀(A':aM)i x(s:az)(Q:ay->az->Prop)(E:ay->az->Prop),items[i]?=ab x->(∀v tk,Pf i v->s.toks<=tk->Q v {s with toks:=tk})->aA (model prog w) A' (call f [x]) Q E s):
  vp prog w A e [e,tp,it,l] [it] (λa b=>b=a) items.size Pf (λi s=>ou s.heap e tp it f/\s.heap.IsListIter it l i/\s.heap.IsList l items) where
 sub:=λb hb=>by simp at hb;simp [hb]
 grefl:=λz=>rfl
 gtrans:=λz z z x y=>y.trans x
 frame:=λi s h' tk st z k=>⟨st.1.keep (λo q=>k e (by simp) o q) λo q=>k tp (by simp) o q,st.2.1.at λo q=>k it (by simp) o q,st.2.2.at λo q=>k l (by simp) o q⟩
 item:=λi s Q E hi st hQ=>by
  obtain⟨m,hit,jJ⟩:=st
  refine ae5 m hit jJ (oG hi) he ht λh' rE hs=>hf _ i _ _ _ _ (oG hi) λv tk hv Hc=>?_
  refine hQ v _ hv ⟨m.keep (λo q=>hs.extBut e o he q) λo q=>hs.extBut tp o ht q,rE,jJ.at λo q=>hs.extBut l o hl q⟩ ⟨λb o hb q=>hs.extBut b o (by simpa using hb) q,rfl,rfl,rfl,Hc⟩
 done:=λs Q E st hQ=>by
  obtain⟨m,hit,jJ⟩:=st
  exact ae6 hh m hit jJ (UB (bj _)) λh' k=>hQ _ ⟨λb o hb q=>k b o (by simpa using hb) q,rfl,rfl,rfl,bj _⟩
 self:=λi s Q E st h=>ae7 st.1 h
end
section
variable{prog:gK}{w:gZ}{A:aM}{E:ay->az->Prop}{s:az}{l:Addr}{f:ay}{items:Array ay}
def ae9(f:ay)(l:Addr)(items:Array ay)(n:Nat):
  Dv (eP.«map.__new__» ⟨[.type "map",f,.ref l],[]⟩) (λz R s=>s.heap.get? l=ab {cls:=.type "list",dict:=ae,data:=.seq items n,slots:= #[]}/\
   R (.ok (.ret (.ref ((s.heap.push {cls:=.type "list_iterator",data:=.fields #[.ref l,.int 0 0]}).push {cls:=.type "tuple",data:=.seq #[.ref s.heap.objs.size]}).objs.size)))
    {s with heap:=((s.heap.push {cls:=.type "list_iterator",data:=.fields #[.ref l,.int 0 0]}).push {cls:=.type "tuple",data:=.seq #[.ref s.heap.objs.size]}).push {cls:=.type "map",data:=.fields #[.ref (s.heap.push {cls:=.type "list_iterator",data:=.fields #[.ref l,.int 0 0]}).objs.size,f]}}):=
 .of_wp λprog w A R s h=>by
  obtain⟨hp,g,d,tk,os⟩:=s;obtain⟨hl,h⟩:=h
  have tN:=MF.aeV
  have hL:aoQ (Kg ⟨hp,g,d,tk,os⟩) l items:=⟨_,hl,rfl,n,rfl⟩
  wp_walk using aoR hl,AK hL
  exact⟨_,rfl,h⟩
def afa{Q:ay->az->Prop}{n:Nat}(hl:s.heap.get? l=ab {cls:=.type "list",dict:=ae,data:=.seq items n,slots:= #[]})
  (h:∀h',ou h' (s.heap.objs.size+2) (s.heap.objs.size+1) s.heap.objs.size f->h'.IsListIter s.heap.objs.size l 0->h'.objs.size=s.heap.objs.size+3->(∀b o,s.heap.get? b=ab o->h'.get? b=ab o)->Q (.ref (s.heap.objs.size+2)) {s with heap:=h'}):
  aA (model prog w) A (call (.type "map") [f,.ref l]) Q E s:=by
 refine JT MF.aeR (by decide) (MF.aeS _ _) (MF.aeT _ _) (λobj=>by unfold mG;kernel_rfl) MF.aeU (ae9 f l items n) ⟨hl,?_⟩
 have z1:(s.heap.push {cls:=.type "list_iterator",data:=.fields #[.ref l,.int 0 0]}).objs.size=s.heap.objs.size+1:=fk ..
 have z2:((s.heap.push {cls:=.type "list_iterator",data:=.fields #[.ref l,.int 0 0]}).push {cls:=.type "tuple",data:=.seq #[.ref s.heap.objs.size]}).objs.size=s.heap.objs.size+2:=by rw[fk,z1]
 rw[z1,z2]
 have g3:=cB ((s.heap.push {cls:=.type "list_iterator",data:=.fields #[.ref l,.int 0 0]}).push {cls:=.type "tuple",data:=.seq #[.ref s.heap.objs.size]}) (o:={cls:=.type "map",data:=.fields #[.ref (s.heap.objs.size+1),f]}) rfl
 rw[z2]at g3
 have g2:=cB (s.heap.push {cls:=.type "list_iterator",data:=.fields #[.ref l,.int 0 0]}) (o:={cls:=.type "tuple",data:=.seq #[.ref s.heap.objs.size]}) rfl
 rw[z1]at g2
 have g1:=cB s.heap (o:={cls:=.type "list_iterator",data:=.fields #[.ref l,.int 0 0]}) rfl
 refine⟨⟨_,g3,rfl⟩,h _ ⟨g3,0,cS _ g2⟩ ⟨_,cS _ (cS _ g1),rfl,rfl⟩ (by rw[fk,z2]) λb o x=>cS _ (cS _ (cS _ x))⟩
end
def afb:findCls [] (.type "str") (.type "type") (s_ "capitalize")=ab (.val (.builtin "str.capitalize")):=by kernel_rfl
def afc{prog:gK}{w:gZ}{A:aM}{E:ay->az->Prop}{s:az}{Q:ay->az->Prop}(h:Q (.builtin "str.capitalize") {s with toks:=s.toks+1}):
  aA (model prog w) A (sO (.type "str") (s_ "capitalize") true) Q E s:=by
 have K0:DQ ([]:Frag) s.heap:=λa o e=>aN e
 have L0:qE (model prog w) s.heap (typeOf (.type "str")) (.type "type"):=DR rfl
 have LO:qE (model prog w) s.heap (opaqueClassAbove (.type "str")) ae:=DR rfl
 refine cls_open K0 LO L0 type_tga (looks_hook K0 (r:=ae) rfl) rfl afb (aQ ?_)
 show aA _ _ (handedOut _) _ _ _
 rw[handedOut_of rfl]
 exact aQ h
def afd{prog:gK}{w:gZ}{A:aM}{E:ay->az->Prop}{s:az}{x:Str}{t:Tok}{Q:ay->az->Prop}(BS:amw (Vi x).length=false)
  (h:∀t' k,s.toks<=k->Q (.str (xZ x) t') {s with toks:=k}):aA (model prog w) A (call (.builtin "str.capitalize") [.str x t]) Q E s:=by
 refine call_gives PySem.F.slot_str_capitalize (sQ _ _ _) PySem.F.entry_str_capitalize (PySem.F.args_str_capitalize_1 _) (gives_str_capitalize x t BS) ?_
 unfold xZ at h
 split
 ·rename_i q
  rw[ah q]at h
  exact h _ _ (bj _)
 ·rename_i q
  rw[ai q]at h
  exact⟨fit_le BS,h _ _ (gy _)⟩
def afe{s:az}{v0 v1:ay}{o:Obj}{n:Nat}(ho:s.heap.get? 130=ab o)(hs:o.data=.seq #[.none] n):BindsTo s (bC 137) ⟨[v0,v1],[]⟩ [(s_ "s",v0),(s_ "sep",v1)]:=BindsTo.of_defaults (T:=130) (by kernel_rfl) ho hs rfl (by kernel_rfl)
noncomputable def m7(ys:List Str):List Str:=ys.map xZ
def aff{l:List T}:∀{ys:List Str},hU l=ab ys->ys.length=l.length:=by
 induction l with
 |nil=>intro ys h;cases h;rfl
 |cons t l ih=>intro ys h;exact ia h λz q h=>map_some h λms e1 e=>e▸af (· +1) (ih e1)
section
variable{X:Kx}{N:Addr->Prop}{A:aM}{s s':az}{E:ay->az->Prop}
def Qu{G:Array mx->Array mx->Prop}{aB:az}{o:Obj}{wr:List Addr}{tk:Nat}(k:Kp X s aB)(m:qH (aB.heap.objs.size::wr) G {aB with heap:=aB.heap.push o} s')(hG:G aB.gens s'.gens->nL aB.gens s'.gens)(z:aB.heap.objs.size<=s'.heap.objs.size)(hw:∀b∈wr,s.heap.objs.size<=b)
  (hc:∀b∈wr,∀o,aB.heap.get? b=ab o->¬iB o):Kp X s {s' with toks:=tk}:=by
 have old:∀b o,b∉wr->aB.heap.get? b=ab o->s'.heap.get? b=ab o:=λb o' hb e=>m.heap b o' (λq=>(br.mp q).elim (λq=>aj (bw e) (q▸eY _)) hb) (cS _ e)
 have mv:Mv X (λb=>b∈wr) aB {s' with toks:=tk}:=⟨λb o hb y e=>old b o hb e,z,yd λb o t e=>old b o (λq=>hc b q o e t) e,m.os,hG m.gens,λb o c e=>old b o (λq=>hc b q o e (D8 c)) e⟩
 exact((Mv.of (M:=λy=>False) k).trans mv λb h=>.inr (hw b h)).kp λy=>id
def afg{l:List T}{ys:List Str}{la:Addr}{m9:List ay}{sep:Str}{t:Tok}(ra:A.handled=ae)(hl:s.heap.PlainList la m9.toArray)(hs:aL X N s.heap l m9)(p5:hU l=ab ys)(nP:l.length<=lim)(afh:ys.all (λz=>!Builtin.Str.tooLong (Vi z).length)=true)(hj:nA sep (m7 ys)=true){Q:ay->az->Prop}
  (h:∀s' u,Kp X s s'->Q (.str (fm sep (m7 ys)) u) s'):
  aA (model X.prog X.w) A (call (.type "map") [.builtin "str.capitalize",.ref la]) (λv aB=>aA (model X.prog X.w) A (call (.builtin "str.join") [.str sep t,v]) Q E aB) E s:=by
 obtain⟨ln,uE⟩:=id hl
 have hit:=bw uE
 refine afa uE λh' hM hI hz uF=>?_
 have k1:Kp X s {s with heap:=h'}:=Kp.of uF (by rw[hz];exact bX _ _)
 obtain⟨qs,Hd,Qv⟩:=yB p5 hs
 have hlen:m9.toArray.size=ys.length:=by rw[bU,hs.length,aff p5]
 have W:vp X.prog X.w A.in1.in1 (s.heap.objs.size+2) [s.heap.objs.size+2,s.heap.objs.size+1,s.heap.objs.size,la] [s.heap.objs.size] (λa b=>b=a) m9.toArray.size (λi v=>∃y u,v=.str y u/\(m7 ys)[i]?=ab y)
   (λi s'=>ou s'.heap (s.heap.objs.size+2) (s.heap.objs.size+1) s.heap.objs.size (.builtin "str.capitalize")/\s'.heap.IsListIter s.heap.objs.size la i/\s'.heap.IsList la m9.toArray):=by
  refine ae8 ra (iS (vc (by decide))) (iS (iq _)) (cW hit) λA'' i v s' Q E hv hQ=>?_
  rw[uX,Hd]at hv
  unfold nC at hv
  rw[gL]at hv
  refine map_some hv λq e1 e=>?_
  have e2:ys[i]?=ab q.1:=by rw[<-Qv,gL,e1];rfl
  rw[<-e]
  exact afd ((DF _).mp (bA.mp afh q.1 (dZ e2))) λt' k hk=>hQ _ k ⟨_,_,rfl,by unfold m7;rw[gL,e2];rfl⟩ hk
 refine fg (aeM (ys:=m7 ys) aeI W (λi s h=>h.1.typeIs) bk ⟨hM,hI,⟨_,uF _ _ uE,rfl,_,rfl⟩⟩ (λb hb=>?_) (by rw[bU,hs.length];exact dS nP) (by rw[hlen];exact bK ..) (λi v h=>h) hj λnU tk u hm yJ=>?_)
 ·rw[hz]
  have e:=br.mp hb
  refine e.elim (λe=>e▸iq _) λe=>(br.mp e).elim (λe=>e▸ya (by decide) _) λe=>(br.mp e).elim (λe=>e▸vc (by decide)) λe=>b4.mp e▸Vj 3 hit
 ·refine h _ u (Qu k1 hm (λe=>e▸.refl _) yJ (λb hb=>bO (b4.mp hb).symm) λb hb o e=>?_)
  rw[b4.mp hb]at e
  obtain⟨o',e1,e2,_⟩:=hI
  exact Option.some.inj (e1.symm.trans e)▸nJ e2 (by decide)
end
noncomputable def x6:Xp:=md (st 137 0)
noncomputable def m6:Xp:=de x6 0
def afj:body 137=[.Return (ab (gE x6 (.Attribute (kT (cQ x6)) (s_ "join") (cQ x6).pos) [gE m6 (bY (cQ m6) (s_ "map")) [rS (de m6 0) (s_ "str") (s_ "capitalize"),de m6 1]])) (st 137 0).pos]:=by kernel_rfl
noncomputable def zQ:List (Str×Nat):=slots ["s","sep"]
noncomputable def uG:Sc:=⟨(bC 137).scope.names,zQ,[]⟩
noncomputable def CE:Ex:=.vE (.var 1) (lS " ")
noncomputable def He:Ex:=.sm .split1 (.var 0) (.cons (.var 1) .nil)
def g6o:Gd CE .val uG [kT (cQ x6)]:=no_implicit_lambda%(@Mb.get (Gd CE .val uG [kT (cQ x6)]) (bo CE .val uG [kT (cQ x6)]) (by kernel_rfl))
def g6s:Gd He .val uG [de m6 1]:=no_implicit_lambda%(@Mb.get (Gd He .val uG [de m6 1]) (bo He .val uG [de m6 1]) (by kernel_rfl))
def CG:isCall (kT (cQ x6))=false/\(cQ x6).pos.endLine=x6.pos.line/\notStar (de m6 1)=true:=⟨by kernel_rfl,by kernel_rfl,by kernel_rfl⟩
def Qw(P:dY):(KK P).lookup 137=ab {cls:=.type "function",data:=.func (bC 137)}/\(KK P).lookup 130=ab {cls:=.type "tuple",data:=.seq #[.none]}/\codeOf (KK P) (bC 137)=ab (bC 137).qualname:=⟨by kernel_rfl,by kernel_rfl,by kernel_rfl⟩
def uH:(bC 137).closure=[]/\GP (bC 137).scope.names zQ (rH zQ 2)=true/\(bC 137).scope.names.all (λp=>p.2 !=.cell&&p.2 !=.free)=true:=⟨by kernel_rfl,by kernel_rfl,by kernel_rfl⟩
def zR:(d4 (s_ "map")=ab (.type "map")/\(bC 137).scope.names.lookup (s_ "map")=ab .globalImplicit)/\d4 (s_ "str")=ab (.type "str")/\(bC 137).scope.names.lookup (s_ "str")=ab .globalImplicit:=⟨⟨by kernel_rfl,by kernel_rfl⟩,by kernel_rfl,by kernel_rfl⟩
def afm:GQ (bC 137) (body 137) zQ (rH zQ 2):=⟨by kernel_rfl,by kernel_rfl,by kernel_rfl,by kernel_rfl,by kernel_rfl,by kernel_rfl,PA uH.2.1⟩
def afn(h:Heap):GR h (bC 137):=by
 refine⟨λx a e=>?_,λx y a e=>?_,λx e=>e.elim (λe=>?_) λe=>?_⟩
 ·rw[uH.1]at e;exact aN e
 ·rw[uH.1]at e;exact aN e
 ·exact band (bA.mp uH.2.2 _ (lookup_mem e)) λq z=>ft q
 ·exact band (bA.mp uH.2.2 _ (lookup_mem e)) λz q=>ft q
noncomputable def CH(x y:Str):Option T:=(iV .split1 (.str x) [.str y]).bind (cH λl=>(hU l).bind λys=>if(l.length<=lim/\ys.all (λz=>!Builtin.Str.tooLong (Vi z).length)=true)/\nA y (m7 ys)=true/\(fm y (m7 ys)).length<=lim then ab (.str (fm y (m7 ys)))else ae)
noncomputable def Qx:List T->Option T:=a2 λx y=>cG (λx=>cG (λy=>if(y.length !=0)=true then CH x y else ae) y) x
section
variable{X:Kx}{k:Nat}
def afo{A:aM}{N:Addr->Prop}{s:az}{E:ay->az->Prop}{x y:Str}{t:T}{vals:List ay}(hy:(y.length !=0)=true)(e:CH x y=ab t)(ra:RA (k+1) A)(wd:Wd X s.heap)(ng:NG X N s.heap)(hv:aL X N s.heap [.str x,.str y] vals):aA (model X.prog X.w) A (call (.ref 137) vals) (Res X N s t) E s:=by
 refine aO e λu hu e=>eW e λl ql e=>aO e λys p5 e=>ifs e λhg et=>?_
 subst ql;subst et
 have K:=Qw X.w.params
 obtain⟨cd,oc,OO,ct,iE,nK,lQ,hq⟩:=Oh K.2.2
 obtain⟨v0,v1,rfl⟩:∃v0 v1,vals=[v0,v1]:=hv.Ec λv w r r=>⟨v,w,rfl⟩
 refine PB 0 afm (afn _) ra wd ng (wd.K _ _ K.1) ⟨cd,oc,OO,ct,iE,wd.K _ _ nK,lQ,hq⟩ hv rfl (afe (wd.K _ _ K.2.1) rfl) λ{env aB}c=>?_
 rw[afj]
 have a1:At X k (A.deeper env) env uG (λb=>N b∨b=s.heap.objs.size) (start 0 [.str x,.str y]) aB:=c.a
 have eO:ev (λr r=>ae) CE (start 0 [.str x,.str y])=ab (.str y):=by
  show(if(y.length !=0)=true then ab (T.str y)else ab (T.str (s_ " ")))=_
  exact ah hy
 refine c8 (qB (vO CG.1 CG.2.1 (by show 1<20;decide) rfl (vl (g6o (c9 (k:=k)) a1 eO) λov s₂ k2 hy'=>?_)))
 obtain⟨ty,rfl⟩:∃t,ov=ay.str y t:=VR.c6 (P:=λv=>∃t,v=ay.str y t) hy' λt r=>⟨t,rfl⟩
 have a2:=a1.kp k2
 refine Dy (sQ _ _ _) T8 Dx Ub (λr e=>nomatch e) ?_
 have hp:=jx env x6.pos (es:=[gE m6 (bY (cQ m6) (s_ "map")) [rS (de m6 0) (s_ "str") (s_ "capitalize"),de m6 1]]) rfl
 refine xC hp (ie hp ?_)
 rw[j3 rfl]
 refine eZ (jy (jw a2 zR.1.1 zR.1.2 rfl ?_))
 have pQ:=jx env m6.pos (es:=[rS (de m6 0) (s_ "str") (s_ "capitalize"),de m6 1]) (by rw[Be,Be,CG.2.2];rfl)
 refine qq pQ (ie pQ ?_)
 rw[yC rfl CG.2.2]
 refine eZ (BC rfl (jw a2 zR.2.1 zR.2.2 rfl (afc ?_)))
 refine eZ (vl (g6s (c9 (k:=k)) (a2.kp Kp.tok) hu) λlv aS k4 hl=>gb ?_)
 refine VR.eQ (P:=λlv=>aA _ _ (call (.type "map") [.builtin "str.capitalize",lv]) _ _ _) hl λla m9 nS r r hs=>mo (afg a2.ra.handled nS hs p5 hg.1.1 hg.1.2 hg.2.1 (t:=ty) (Q:=Res X N s (.str (fm y (m7 ys)))) λs' u k=>⟨(((c.kp.trans k2).trans Kp.tok).trans k4).trans k,.str _ _ hg.2.2⟩) λv dC z=>gb z
def afq:dq X (k+1) 137 Qx:=λA N s ts vals t E ra wd ng hv e=>by
 refine qU e λx y q ea=>ia ea λx qx eb=>ia eb λy qy ec=>gi ec λh ez=>?_
 clear e ea eb ec
 subst q;subst qx;subst qy
 exact afo h ez ra wd ng hv
end
def zS(h:Heap)(e it:Addr)(f:ay):Prop:=h.get? e=ab {cls:=.type "filter",data:=.fields #[f,.ref it]}
def Qy:plainId "filter.__next__"=true:=by decide+kernel
section
variable{prog:gK}{w:gZ}{A:aM}{E:ay->az->Prop}{s:az}{e it l:Addr}{f:ay}{items:Array ay}{i:Nat}
def zS.typeIs{s:az}(m:zS s.heap e it f):s.TypeIs (.ref e) "filter":=⟨_,m,rfl⟩
def afr{x:ay}{Q:Option ay->az->Prop}(hit:s.heap.IsListIter it l i)(hl:s.heap.IsList l items)(hx:items[i]?=ab x)
  (hQ:∀h',h'.IsListIter it l (i+1)->sZ it s.heap h'->Q (ab x) {s with heap:=h'}):aA (model prog w) A (callSpecial? (.ref it) "__next__") Q E s:=by
 obtain⟨o,ho,hc,hd⟩:=id hit
 obtain⟨ol,tY,_,nl,gD⟩:=hl
 refine tj (name:=bP "__next__") hit.typeIs KO (tm KO hit.typeIs aoT ?_ (aoU _))
 show aA _ _ (oK (.ref it) 0>>=_) _ _ s
 refine aG (lO ho hd (x:=.ref l) rfl ?_)
 show aA _ _ (if(ay.ref l==ay.none)=true then _ else _) _ _ s
 rw[ai (show¬((ay.ref l==ay.none)=true)from bT)]
 show aA _ _ (oK (.ref it) 1>>=_) _ _ s
 refine aG (lO ho hd (x:=.int i 0) rfl ?_)
 show aA _ _ (Kk (.ref l)>>=_) _ _ s
 refine aG (xN tY gD ?_)
 simp only[jU,hx]
 refine aG (Kl ho hd (by simp) (aQ ⟨x,rfl,hQ _ ?_ (qC ..)⟩))
 exact⟨_,xO _ ho (anJ (Km hd _)),(anK ..).trans hc,by
  rw[Km hd];simp [jS]⟩
def afs{Q:Option ay->az->Prop}(hh:A.handled=ae)(hit:s.heap.IsListIter it l i)(hl:s.heap.IsList l items)(hx:items[i]?=ae)
  (hE:∀h' e,Ko it s.heap h'->(∃o,h'.get? e=ab o/\o.cls=.type "StopIteration")->E (.ref e) {s with heap:=h'}):aA (model prog w) A (callSpecial? (.ref it) "__next__") Q E s:=by
 obtain⟨o,ho,hc,hd⟩:=id hit
 obtain⟨ol,tY,_,nl,gD⟩:=hl
 refine tj (name:=bP "__next__") hit.typeIs KO (tm KO hit.typeIs aoT ?_ (aoU _))
 show aA _ _ (oK (.ref it) 0>>=_) _ _ s
 refine aG (lO ho hd (x:=.ref l) rfl ?_)
 show aA _ _ (if(ay.ref l==ay.none)=true then _ else _) _ _ s
 rw[ai (show¬((ay.ref l==ay.none)=true)from bT)]
 show aA _ _ (oK (.ref it) 1>>=_) _ _ s
 refine aG (lO ho hd (x:=.int i 0) rfl ?_)
 show aA _ _ (Kk (.ref l)>>=_) _ _ s
 refine aG (xN tY gD ?_)
 simp only[jU,hx]
 refine aG (DA (aG (Kl ho hd (by simp) ?_)))
 show aA _ _ (Kq (.type "StopIteration") []>>=_) _ _ _
 refine aG ?_
 simp only[Kq,newTuple]
 refine aG (sR ?_ (by size_fits))
 refine aG (m:=Kr _ _) (AS (a:=ay.none) (by first|rfl|(simp only[Kr];rfl)) ?_)
 refine sR ?_ (by size_fits)
 refine aG (wpAny_handled ?_)
 first|rw[show A.in1.handled=ae from hh]|rw[hh]
 refine aG (aQ (wpAny_throw ?_))
 exact hE _ _ (((qC ..).extBut.push _).push _) ⟨_,cB _ rfl,rfl⟩
def Qz{kp:ay->Bool}{fq:List Addr}{Hp:Heap->Prop}(hh:A.handled=ae)(he:e≠it)(hl:l≠it)(hq:it∉fq)(i5:∀h h',Hp h->(∀b∈fq,∀o,h.get? b=ab o->h'.get? b=ab o)->Hp h')(CI:(f==.none||f==.type "bool")=false)
  (hf:∀(A':aM)x(s:az)(Q:ay->az->Prop)(E:ay->az->Prop),x∈items.toList->Hp s.heap->(∀tk,s.toks<=tk->Q (.bool (kp x)) {s with toks:=tk})->aA (model prog w) A' (call f [x]) Q E s):
  ∀(rem:List ay)(j:Nat)(s:az)(R:oI->az->Prop),items.toList.drop j=rem->zS s.heap e it f->s.heap.IsListIter it l j->s.heap.IsList l items->Hp s.heap->
  (∀v rest s' j',rem.filter kp=v::rest->(items.toList.drop j').filter kp=rest->s'.heap.IsListIter it l j'->qH [it] (λa b=>b=a) s s'->R (.ok (.ret v)) s')->
  (∀s' x,rem.filter kp=[]->qH [it] (λa b=>b=a) s s'->(∃o,s'.heap.get? x=ab o/\o.cls=.type "StopIteration")->R (.error (.ref x)) s')->
  aA (model prog w) A.in1 (eP.«filter.__next__» ⟨[.ref e],[]⟩) (λfin s'=>match fin with|.done f=>R (.ok f) s'|.again c'=>c'.quiet=true/\gN (model prog w) A c' R s') (λx s'=>R (.error x) s') s:=by
 intro rem
 induction rem with
 |nil=>
  intro j s R hd m hit jJ hp hR hE
  unfold eP.«filter.__next__»
  show aA _ _ (oK (.ref e) 0>>=_) _ _ s
  refine aG (lO m rfl (x:=f) rfl ?_)
  refine aG (lO m rfl (x:=.ref it) rfl ?_)
  have hx:items[j]?=ae:=by
   rw[<-xw]
   exact ve (by simpa using hd)
  refine aG (afs (A:=A.in1) hh hit jJ hx λh' x k nX=>?_)
  exact hE _ x rfl ⟨λb o hb q=>k b o (by simpa using hb) q,rfl,rfl,rfl,bj _⟩ nX
 |cons x rem ih=>
  intro j s R hd m hit jJ hp hR hE
  have hx:items[j]?=ab x:=by
   rw[<-xw]
   have:=af (·[0]?) hd
   simpa using this
  have aft:x∈items.toList:=by rw[<-xw]at hx;exact dZ hx
  have oV:items.toList.drop (j+1)=rem:=by rw[<-aoV,hd];rfl
  unfold eP.«filter.__next__»
  show aA _ _ (oK (.ref e) 0>>=_) _ _ s
  refine aG (lO m rfl (x:=f) rfl ?_)
  refine aG (lO m rfl (x:=.ref it) rfl ?_)
  refine aG (afr hit jJ hx λh' rE hs=>?_)
  dsimp only
  rw[CI]
  have nW:Hp h':=i5 _ _ hp λb hb o q=>hs.extBut b o (λz=>hq (z▸hb)) q
  refine aG (dN ?_)
  simp only[pA,if_false]
  refine aG (hf _ x {s with heap:=h'} _ _ aft nW λtk Hc=>?_)
  refine dN (wpAny_truthy_bool ?_)
  have mv:qH [it] (λa b=>b=a) s {s with heap:=h',toks:=tk}:=⟨λb o hb q=>hs.extBut b o (by simpa using hb) q,rfl,rfl,rfl,Hc⟩
  cases hk:kp x with
  |true=>
   rw[ah rfl]
   exact aQ (hR x _ _ (j+1) (by rw[KP,hk,ah rfl]) (by rw[oV]) rE mv)
  |false=>
   rw[ai (by decide)]
   refine aQ ⟨DZ Qy _,xY MF.Hb ?_⟩
   rw[Bd Qy _]
   have zT:(x::rem).filter kp=rem.filter kp:=by rw[KP,hk,ai (by decide)]
   refine ih (j+1) {s with heap:=h',toks:=tk} R oV (hs.extBut e _ he m) rE (jJ.at λo q=>hs.extBut l o hl q) nW (λv rest s' j' h1 h2 h3 h4=>?_) λs' x' h1 h4 h5=>?_
   ·exact hR v rest s' j' (by rw[zT];exact h1) h2 h3 (mv.trans (λy y y a b=>b.trans a) h4)
   ·exact hE s' x' (by rw[zT];exact h1) (mv.trans (λy y y a b=>b.trans a) h4) h5
def afu{kp:ay->Bool}{fq:List Addr}{Hp:Heap->Prop}(hh:A.handled=ae)(he:e≠it)(hl:l≠it)(hq:it∉fq)(i5:∀h h',Hp h->(∀b∈fq,∀o,h.get? b=ab o->h'.get? b=ab o)->Hp h')(CI:(f==.none||f==.type "bool")=false)
  (hf:∀(A':aM)x(s:az)(Q:ay->az->Prop)(E:ay->az->Prop),x∈items.toList->Hp s.heap->(∀tk,s.toks<=tk->Q (.bool (kp x)) {s with toks:=tk})->aA (model prog w) A' (call f [x]) Q E s):
  vp prog w A e (e::it::l::fq) [it] (λa b=>b=a) (items.toList.filter kp).length (λi v=>(items.toList.filter kp)[i]?=ab v)
   (λi s=>∃j,(items.toList.drop j).filter kp=(items.toList.filter kp).drop i/\zS s.heap e it f/\s.heap.IsListIter it l j/\s.heap.IsList l items/\Hp s.heap) where
 sub:=λb hb=>by simp at hb;simp [hb]
 grefl:=λu=>rfl
 gtrans:=λu u u x y=>y.trans x
 frame:=λi s h' tk st u k=>by
  obtain⟨j,h1,h2,h3,h4,h5⟩:=st
  exact⟨j,h1,k e (by simp) _ h2,h3.at λo q=>k it (by simp) o q,h4.at λo q=>k l (by simp) o q,i5 _ _ h5 λb hb o q=>k b (by simp [hb]) o q⟩
 item:=λi s Q E hi st hQ=>by
  obtain⟨j,h1,m,hit,jJ,hp⟩:=st
  unfold iQ
  refine aG (DS (tj (name:=bP "__next__") m.typeIs MF.uD (pB (xS MF.uD.plain MF.Hb (MF.uD.check _ _ _ _ _ _ _ _ m.typeIs (MF.Qp _) ?_)))))
  refine Qz hh he hl hq i5 CI hf _ j s (λr s'=>match r with|.ok (.ret v)=>aA (model prog w) A (pure (ab v)) Q E s'|.ok _=>False|.error x=>aA (model prog w) A (do if<-Kz x (.type "StopIteration")then pure ae else throw x) Q E s') rfl m hit jJ hp (λv rest s' j' g1 g2 g3 g4=>?_) λs' x g1 g4 g5=>?_
  ·rw[h1]at g1
   have hv:(items.toList.filter kp)[i]?=ab v:=by
    have:=af (·[0]?) g1
    simpa using this
   refine aQ (hQ v s' hv ⟨j',?_,g4.heap e _ (by simpa using he) m,g3,jJ.at λo q=>g4.heap l o (by simpa using hl) q,i5 _ _ hp λb hb o q=>g4.heap b o (λz=>hq (by rw[b4]at z;exact z▸hb)) q⟩ g4)
   rw[g2,<-aoV,g1];rfl
  ·rw[h1]at g1
   exact aj (List.drop_eq_nil_iff.mp g1) (xq.mpr hi)
 done:=λs Q E st hQ=>by
  obtain⟨j,h1,m,hit,jJ,hp⟩:=st
  unfold iQ
  refine aG (DS (tj (name:=bP "__next__") m.typeIs MF.uD (pB (xS MF.uD.plain MF.Hb (MF.uD.check _ _ _ _ _ _ _ _ m.typeIs (MF.Qp _) ?_)))))
  refine Qz hh he hl hq i5 CI hf _ j s (λr s'=>match r with|.ok (.ret v)=>aA (model prog w) A (pure (ab v)) Q E s'|.ok _=>False|.error x=>aA (model prog w) A (do if<-Kz x (.type "StopIteration")then pure ae else throw x) Q E s') rfl m hit jJ hp (λv rest s' j' g1 g2 g3 g4=>?_) λs' x g1 g4 g5=>?_
  ·rw[h1,J6]at g1;cases g1
  ·refine aG (KN (T:="StopIteration") (b:=true) g5 isSubtype_stop ?_)
   exact aQ (hQ _ g4)
 self:=λi s Q E st h=>by
  obtain⟨j,h1,m,hit,jJ,hp⟩:=st
  refine aoP m.typeIs MF.Qs (tm MF.Qs m.typeIs MF.aeY ?_ (MF.aeX _))
  show aA _ _ (ret (.ref e)) _ _ s
  exact aQ ⟨_,rfl,"filter",_,m.typeIs,MF.uD.lookup,h⟩
def afv(f:ay)(l:Addr)(items:Array ay)(n:Nat):
  Dv (eP.«filter.__new__» ⟨[.type "filter",f,.ref l],[]⟩) (λz R s=>s.heap.get? l=ab {cls:=.type "list",dict:=ae,data:=.seq items n,slots:= #[]}/\
   R (.ok (.ret (.ref (s.heap.push {cls:=.type "list_iterator",data:=.fields #[.ref l,.int 0 0]}).objs.size)))
    {s with heap:=(s.heap.push {cls:=.type "list_iterator",data:=.fields #[.ref l,.int 0 0]}).push {cls:=.type "filter",data:=.fields #[f,.ref s.heap.objs.size]}}):=
 .of_wp λprog w A R s h=>by
  obtain⟨hp,g,d,tk,os⟩:=s;obtain⟨hl,h⟩:=h
  have tN:=MF.ae4
  have hL:aoQ (Kg ⟨hp,g,d,tk,os⟩) l items:=⟨_,hl,rfl,n,rfl⟩
  wp_walk using aoR hl,AK hL
  exact⟨_,rfl,h⟩
def afw{Q:ay->az->Prop}{n:Nat}(hl:s.heap.get? l=ab {cls:=.type "list",dict:=ae,data:=.seq items n,slots:= #[]})
  (h:∀h',zS h' (s.heap.objs.size+1) s.heap.objs.size f->h'.IsListIter s.heap.objs.size l 0->h'.objs.size=s.heap.objs.size+2->(∀b o,s.heap.get? b=ab o->h'.get? b=ab o)->Q (.ref (s.heap.objs.size+1)) {s with heap:=h'}):
  aA (model prog w) A (call (.type "filter") [f,.ref l]) Q E s:=by
 refine JT MF.ae0 (by decide) (MF.ae1 _ _) (MF.ae2 _ _) (λobj=>by unfold mG;kernel_rfl) MF.ae3 (afv f l items n) ⟨hl,?_⟩
 have z1:(s.heap.push {cls:=.type "list_iterator",data:=.fields #[.ref l,.int 0 0]}).objs.size=s.heap.objs.size+1:=fk ..
 rw[z1]
 have g2:=cB (s.heap.push {cls:=.type "list_iterator",data:=.fields #[.ref l,.int 0 0]}) (o:={cls:=.type "filter",data:=.fields #[f,.ref s.heap.objs.size]}) rfl
 rw[z1]at g2
 have g1:=cB s.heap (o:={cls:=.type "list_iterator",data:=.fields #[.ref l,.int 0 0]}) rfl
 exact⟨⟨_,g2,rfl⟩,h _ g2 ⟨_,cS _ g1,rfl,rfl⟩ (by rw[fk,z1]) λb o x=>cS _ (cS _ x)⟩
end
section
variable{prog:gK}{w:gZ}{A:aM}{R:oI->az->Prop}{I:Addr}{fp wr:List Addr}{G:Array mx->Array mx->Prop}{P:Nat->ay->Prop}{St:Nat->az->Prop}{ys:List Str}{s:az}{E:ay->az->Prop}
noncomputable def gU(ys:List Str)(y:Str):Bool:=decide (y∈ys)
def wM{h h':Heap}{a:Addr}{S S':Str->Bool}{n:Nat}(hS:h.SetOf (strKind prog w) a S n)(k:∀o,h.get? a=ab o->h'.get? a=ab o)(e:∀k,S k=S' k):h'.SetOf (strKind prog w) a S' n:=
 funext e▸hS.elim λo q=>⟨o,q.imp λes q=>q.imp λep q=>q.imp λt q=>⟨k o q.1,q.2⟩⟩
def afx(W:vp prog w A.in1 I fp wr G ys.length P St)(S:Addr)(QA:S∉fp)(afy:∀i v,P i v->∃y t,v=.str y t/\ys[i]?=ab y)(hb:ys.length+1<D0):
  ∀(rest pre:List Str)(s:az)(c:Nat),ys=pre++rest->c<=pre.length->St pre.length s->s.heap.SetOf (strKind prog w) S (gU pre) c->
   (∀s' c',qH (S::wr) G s s'->s'.heap.SetOf (strKind prog w) S (gU ys) c'->R (.ok (.ret .none)) s')->gN (model prog w) A (.builtin "set.update.loop" ⟨[.ref S,.ref I],[]⟩) R s:=by
 have QB:S∉wr:=λh=>QA (W.sub _ h)
 have tN:∀b∈wr,b∈S::wr:=λb hb=>bS _ hb
 intro rest
 induction rest with
 |nil=>
  intro pre s c e hc fK hS hR
  rw[kq]at e
  subst e
  refine xY aoW ?_
  rw[Bd Vk _]
  show aA _ A.in1 (iQ (.ref I)>>=_) _ _ s
  exact aG (W.done s _ _ fK λs' hm=>aQ (hR s' c (hm.mono tN) (wM hS (λo e=>hm.heap S _ QB e) λz=>rfl)))
 |cons y rest ih=>
  intro pre s c e hc fK hS hR
  have hi:ys[pre.length]?=ab y:=by rw[e,DL (bj _),DY];rfl
  have dp:=(iR.mp hi).1
  refine xY aoW ?_
  rw[Bd Vk _]
  show aA _ A.in1 (iQ (.ref I)>>=_) _ _ s
  refine aG (W.item pre.length s _ _ dp fK λv s' hP afz hm=>?_)
  obtain⟨y',t,rfl,hy⟩:=afy _ v hP
  cases Option.some.inj (hi.symm.trans hy)
  show aA _ A.in1 (JM [ay.str y t] (setAdd S (.str y t))>>=_) _ _ s'
  refine aG (dN ?_)
  unfold setAdd
  refine dN (aG ((strKind prog w).pyHash (k:=y) (uZ _ _ _ _) ?_))
  refine wpAny_setAddHashed_of (knd:=strKind prog w) (s:={s' with toks:=s'.toks+1}) (S:=gU pre) (uZ _ _ _ _) rfl (wM hS (λo e=>hm.heap S _ QB e) λz=>rfl) (bI (cX (aD hc (cE dp))) hb) λh' zq hS2=>?_
  have kS:∀b o,b≠S->s'.heap.get? b=ab o->h'.get? b=ab o:=λb o n e=>(zq.2 b n).trans e
  have lp:(pre++[y]).length=pre.length+1:=bQ
  refine aQ ⟨DZ Vk _,ih (pre++[y]) _ (if gU pre y=true then c else c+1) (by rw[e,fu];rfl) ?_ (lp▸W.frame _ s' _ _ afz (gy _) λb hb o e=>kS b o (λq=>QA (q▸hb)) e) (wM hS2 (λz e=>e) λk'=>?_) λcj c' afB afC=>?_⟩
  ·rw[lp]
   cases gU pre y with
   |true=>exact u9 hc
   |false=>exact cX hc
  ·exact((decide_eq_decide.mpr (u7.trans (or_congr Iff.rfl b4))).trans (Bool.decide_or ..)).symm
  ·exact hR cj c' (Vg W.gtrans ((hm.mono tN).then_heap (gy _) λb o hb e=>kS b o (λq=>hb (q▸bk)) e) afB) afC
noncomputable def o7(led:Bool):Obj:={cls:=.type "set",dict:=ae,data:=.set #[] 0 (.fresh 0 0 led)}
def afD{a:ay}{Q:ay->az->Prop} (h:∀led,aA (model prog w) A.in1.in1 (eP.«set.__init__» ⟨[.ref s.heap.objs.size,a],[]⟩) (λfin s'=>match fin with|.done f=>AR (λr s₂=>r=.none/\Q (.ref s.heap.objs.size) s₂) E (.ok f) s'|.again c'=>c'.quiet=true/\gN (model prog w) A.in1 c' (AR (λr s₂=>r=.none/\Q (.ref s.heap.objs.size) s₂) E) s')
   (λe s'=>AR (λr s₂=>r=.none/\Q (.ref s.heap.objs.size) s₂) E (.error e) s') {s with heap:=s.heap.push (o7 led)}):aA (model prog w) A (call (.type "set") [a]) Q E s:=by
 obtain⟨c,tl,aqd⟩:=vy.mro
 have aqe:=vy.made
 have tN:=vy.sub
 refine pB (Up ?_)
 show aA _ _ (callAny (.type "set") _) _ _ _
 refine aQ ⟨Code.quiet_builtin _ (by decide+kernel),xY PySem.F.entry_type_call ?_⟩
 rw[aM.under_plain (weight_type_call_type "set" [a] []) rfl]
 have h1:=vy.notType
 have h2:=vy.canCreate
 have hct:=PySem.F.typeCall_set_1 a
 repeat (any_goals (first|assumption|wp_step))
 refine qt (code_set_new_1 a (E:=E) (Q₁:=λobj aB=>∃led:Bool,obj=.ref s.heap.objs.size/\aB={s with heap:=s.heap.push (o7 led)}) λled=>⟨led,rfl,rfl⟩) λr aB hr=>?_
 cases r with
 |error e=>exact hr
 |ok fl=>
  cases fl with
  |ret obj=>
   obtain⟨led,rfl,rfl⟩:=hr
   have hT:aml {s with heap:=s.heap.push (o7 led)} (.ref s.heap.objs.size) "set":=⟨_,cB _ rfl,rfl⟩
   have jJ:=vy.init.lookup
   have hbi:=vy.init.bind (.ref s.heap.objs.size)
   repeat (any_goals (first|assumption|wp_step))
   refine qt (xS vy.init.plain PySem.F.entry_set_init (check_set_init_1 hT (h led))) λzv s₂ Hf=>?_
   cases zv with
   |error e=>exact Hf
   |ok afE=>
    cases afE with
    |ret r=>
     obtain⟨rfl,hq⟩:=Hf
     repeat (any_goals (first|assumption|wp_step))
    |_=>exact Hf.elim
  |_=>exact hr.elim
def afF{S l:Addr}{led:Bool}{vs:Array ay}{nl:Nat}{R:Fin->az->Prop}(hS:s.heap.get? S=ab (o7 led))(CJ:s.heap.get? l=ab {cls:=.type "list",data:=.seq vs nl})
  (h:gN (model prog w) A (.builtin "set.update.loop" ⟨[.ref S,.ref s.heap.objs.size],[]⟩) (AR (λz s'=>R (.done (.ret .none)) s') E) {s with heap:=s.heap.push {cls:=.type "list_iterator",data:=.fields #[.ref l,.int 0 0]}}):
  aA (model prog w) A (eP.«set.__init__» ⟨[.ref S,.ref l],[]⟩) R E s:=by
 have aqh:=PySem.F.sub_list_set
 have aqi:=PySem.F.sub_list_frozenset
 have wx:s.heap.IsList l vs:=⟨_,CJ,rfl,nl,rfl⟩
 unfold eP.«set.__init__» noKeywords ayJ
 generalize hPI:jR=PI
 wp_walk
 subst hPI
 refine AK wx (aG (wpAny_runValue (qt h λr s' hr=>?_)))
 cases r with
 |error e=>exact hr
 |ok f=>cases f with
  |ret v=>exact aQ (aQ hr)
  |_=>exact hr.elim
def afH{l:Addr}{vs:List ay}{Q:ay->az->Prop}(hh:A.handled=ae)(hl:s.heap.PlainList l vs.toArray)(hi:DC vs ys)(hb:ys.length+1<D0)
  (h:∀(h':Heap)(tk c:Nat),h'.SetOf (strKind prog w) s.heap.objs.size (gU ys) c->s.heap.objs.size<=h'.objs.size->(∀b o,s.heap.get? b=ab o->h'.get? b=ab o)->Q (.ref s.heap.objs.size) {s with heap:=h',toks:=tk}):
  aA (model prog w) A (call (.type "set") [.ref l]) Q E s:=by
 refine fg (afD λled=>?_)
 have hS:(s.heap.push (o7 led)).get? s.heap.objs.size=ab (o7 led):=cB _ rfl
 obtain⟨nl,ol⟩:=id hl
 have CJ:(s.heap.push (o7 led)).get? l=ab {cls:=.type "list",data:=.seq vs.toArray nl}:=cS _ ol
 have wx:(s.heap.push (o7 led)).IsList l vs.toArray:=⟨_,CJ,rfl,nl,rfl⟩
 have QC:=bw ol
 have z1:(s.heap.push (o7 led)).objs.size=s.heap.objs.size+1:=fk ..
 refine afF hS CJ ?_
 have W:=Dn (prog:=prog) (w:=w) (A:=A.in1.in1.in1) hh (s.heap.push (o7 led)).objs.size l (by rw[z1];exact cW (va QC)) vs.toArray
 refine afx (ys:=ys) ((show vs.toArray.size=ys.length by rw[bU];exact hi.len_eq)▸W.toS) s.heap.objs.size (λq=>?_) (λi v hv=>hi.item i v (by rw[<-uX];exact hv)) hb ys [] _ 0 rfl (bj _) ⟨⟨_,cB _ rfl,rfl,rfl⟩,wx.push _⟩ ?_ λs' c' hm hS'=>?_
 ·rw[z1]at q
  exact(br.mp q).elim (λq=>cW (iq _) q) λq=>iS QC (b4.mp q)
 ·exact wM ((setObjOf_fresh (knd:=strKind prog w) led).setOf (cS _ hS) (by decide)) (λz e=>e) λz=>rfl
 ·obtain⟨h',g',d',Hg,os'⟩:=s'
  cases (show g'=s.gens from hm.gens)
  cases (show d'=s.drawn from hm.drawn)
  cases (show os'=s.os from hm.os)
  refine⟨rfl,λhz=>h h' Hg c' hS' hz λb o e=>hm.heap b o (λq=>?_) (cS _ (cS _ e))⟩
  have o8:=bw e
  rw[z1]at q
  exact(br.mp q).elim (λq=>cW o8 q) λq=>cW (va o8) (b4.mp q)
end
end Mine
section
open PySem PySem.Spec PySem.W PyProof.Rows PySem.Builtin PySem.Builtin.ObjectAttr
namespace Mine
namespace MF
def afK:tw tA "set.__getattribute__"=ab eP.«object.__getattribute__»:=
 Vh (id':="object.__getattribute__") (by kernel_rfl) (by decide+kernel) (by decide+kernel) (by kernel_rfl)
def afL:sP (.type "set") "__getattr__"=pure ae:=by rw[jr,jt];kernel_rfl
def afM:xT (.builtin "set.__contains__") "__get__"=pure (ab (.builtin "method_descriptor.__get__")):=by
 unfold xT;rw[KQ];show sP (.type "method_descriptor") "__get__"=_;rw[jr,jt];kernel_rfl
def afN:takesStores (.builtin "set.__contains__")=pure false:=by
 have a1:xT (.builtin "set.__contains__") "__set__"=pure ae:=by
  unfold xT;rw[KQ];show sP (.type "method_descriptor") "__set__"=_;rw[jr,jt];kernel_rfl
 have a2:xT (.builtin "set.__contains__") "__delete__"=pure ae:=by
  unfold xT;rw[KQ];show sP (.type "method_descriptor") "__delete__"=_;rw[jr,jt];kernel_rfl
 unfold takesStores;rw[a1,a2];rfl
def QD:Slot "method_descriptor" "__get__" "method_descriptor.__get__":=
 .of (owner:="method_descriptor") (n:="__get__") (by rw[jr,jt];kernel_rfl) (by decide+kernel) (by decide+kernel) (by decide+kernel)
  (by first|exact .inl (by decide+kernel)|exact .inr (by decide+kernel)) (by rw[mF];kernel_rfl)
def afO:tw tA "method_descriptor.__get__"=ab eP.«method_descriptor.__get__»:=A7 (by kernel_rfl)
def afP(a b c:ay):mG "method_descriptor.__get__" ⟨[a,b,c],[]⟩:=by unfold mG;kernel_rfl
end MF
def afQ(a:Addr)(o:Obj)(u:Tok)(hc:o.cls=.type "set")(hd:o.dict=ae){es:Array (Int×ay)}{ep:Nat}{tb:SetTable}(tW:o.data=.set es ep tb):
  Dv (eP.«object.__getattribute__» ⟨[.ref a,.str (bP "__contains__") u],[]⟩) (λA R s=>s.heap.get? a=ab o/\
   R (.ok (.ret (.ref s.heap.objs.size))) {s with heap:=s.heap.push {cls:=.type "builtin_function_or_method",data:=.fields #[.builtin "set.__contains__",.ref a]}}):=
 Dv.of_wp λprog w A R s hs=>by
  obtain⟨hp,g,d,tk,os⟩:=s
  obtain⟨c,aY,dat,sl⟩:=o
  simp only at hc hd tW
  subst hc hd tW
  obtain⟨hx,hs⟩:=hs
  have hT:(⟨hp,g,d,tk,os⟩:az).TypeIs (.ref a) "set":=⟨_,hx,rfl⟩
  have f1:=Vm.lookup
  have f2:=MF.afM
  have f3:=MF.afN
  unfold eP.«object.__getattribute__»
  repeat (any_goals (first|assumption|wp_step))
  have hTd:∀s:az,s.TypeIs (.builtin "set.__contains__") "method_descriptor":=λs=>KQ
  refine xS MF.QD.plain MF.afO (MF.QD.check _ _ _ _ _ _ _ _ (hTd _) (MF.afP _ _ _) ?_)
  unfold eP.«method_descriptor.__get__»
  refine aG (AS (a:=(.builtin "set.__contains__",ab (.ref a),ab (.type "set"))) (by kernel_rfl) ?_)
  dsimp only
  rw[ai (by decide+kernel)]
  refine aG ?_
  refine aG (AS (a:=(bP "__contains__",.type "set")) (by kernel_rfl) ?_)
  refine aG (KN (T:="set") (b:=true) hT sub_set_self ?_)
  refine aQ ?_
  refine aG ?_
  refine sR ?_
  refine aQ ?_
  refine aQ ?_
  exact⟨_,rfl,hs⟩
noncomputable def uI(a:Addr):Obj:={cls:=.type "builtin_function_or_method",data:=.fields #[.builtin "set.__contains__",.ref a]}
section
variable{prog:gK}{w:gZ}{A:aM}{E:ay->az->Prop}{s:az}{a m:Addr}
def afS{o:Obj}{es:Array (Int×ay)}{ep:Nat}{tb:SetTable}{Q:ay->az->Prop}(hx:s.heap.get? a=ab o)(hc:o.cls=.type "set")(hd:o.dict=ae)(tW:o.data=.set es ep tb)
  (h:∀tk,Q (.ref s.heap.objs.size) {s with heap:=s.heap.push (uI a),toks:=tk}):aA (model prog w) A (sO (.ref a) (bP "__contains__") true) Q E s:=by
 obtain⟨c,aY,dat,sl⟩:=o
 simp only at hc hd tW
 subst hc hd tW
 have hT:∀Hg,({s with toks:=Hg}:az).TypeIs (.ref a) "set":=λz=>⟨_,hx,rfl⟩
 obtain⟨hp,g,d,tk,os⟩:=s
 have f3:=Vn.lookup
 have f4:=Vn.bind (.ref a)
 have f5:=MF.afL
 unfold sO getAttrBy
 repeat (any_goals (first|assumption|exact hT _|((with_reducible show aA _ _ (call (alA "set.__getattribute__") _ _) _ _ _);refine sM Vn (hT _) MF.afK (PySem.F.args_set_getattribute_2 _ _) (afQ a _ _ rfl rfl rfl) ⟨hx,?_⟩)|wp_step))
 exact aQ (h _)
def afT{S:Str->Bool}{n:Nat}{y:Str}{t:Tok}{Q:ay->az->Prop}(hm:s.heap.get? m=ab (uI a))(hS:s.heap.SetOf (T9 prog w) a S n)
  (h:∀tk,s.toks<=tk->Q (.bool (S y)) {s with toks:=tk}):aA (model prog w) A (call (.ref m) [.str y t]) Q E s:=by
 refine pB (Up ?_)
 show aA _ _ (callAny (.ref m) _) _ _ _
 unfold callAny
 refine aG (TL hm ?_)
 show aA _ _ (checkBoundCall "set.__contains__" ⟨[.ref a,.str y t],[]⟩>>=λz=>again (.builtin "set.__contains__" ⟨[.ref a,.str y t],[]⟩)) _ _ s
 have afU:Manifest.signature? "set.__contains__"=ab ⟨.oneArg,"set.__contains__","__contains__",.self,[⟨"object",.posOnly,true⟩]⟩:=by
  rw[signature?_of (id:="set.__contains__") (n:=['_','_','s','n','i','a','t','n','o','c','_','_']) (o:=['t','e','s']) (by kernel_rfl) PySem.F.owner_set];kernel_rfl
 have hkd:builtinKind "set.__contains__"=ab .method:=by decide+kernel
 have hT:=hS.typeIs
 have Hh:Ky (.type "set") (.type "module")=pure false:=by rw[mF];kernel_rfl
 refine aG ?_
 unfold checkBoundCall
 rw[afU];dsimp only
 rw[hkd];dsimp only
 rw[ai (by decide)]
 refine aG (KN (b:=false) hT Hh ?_)
 rw[ai (by decide+kernel)]
 obtain⟨o,es,ep,tb,ho,hex,CK,_⟩:=id hS
 obtain⟨oc,od,odt,osl⟩:=o
 simp only at CK
 subst CK
 refine aG ?_
 unfold isType
 repeat (any_goals (first|assumption|wp_step))
 refine⟨DZ Vm.plain _,xY entry_set_contains ?_⟩
 rw[Bd Vm.plain _]
 unfold eP.«frozenset.__contains__» ayT
 simp only[Kt,bind_assoc]
 unfold ayU ayV setContains
 refine aG (aQ ?_)
 try dsimp only
 refine aG (aQ ?_)
 try dsimp only
 refine aG (wpAny_tryCatch ?_)
 refine dN ?_
 refine aG ((T9 prog w).pyHash (uZ _ _ _ _) ?_)
 refine aG (wpAny_setFind_of (s:={s with toks:=s.toks+1}) (uZ _ _ _ _) rfl hS λr hr=>?_)
 refine aQ ?_
 show aA _ _ (ret (Tq r.isSome)) _ _ _
 rw[hr]
 exact aQ (h _ (gy _))
end
end Mine
end
namespace Mine
noncomputable def rX(ys:List Str)(v:ay):Bool:=(FV v).elim false (gU ys)
section
variable{X:Kx}{N N':Addr->Prop}{A:aM}{s:az}{E:ay->az->Prop}{h h':Heap}
def afW{fL:List Str}{l:List T}:∀{vs:List ay}{ys:List Str},hU l=ab ys->aL X N h l vs->aL X N' h' ((ys.filter (gU fL)).map .str) (vs.filter (rX fL)):=by
 induction l with
 |nil=>intro vs ys e x;cases e;exact aL.qK (P:=λvs=>aL X N' h' [] (vs.filter (rX fL))) x .nil
 |cons t l ih=>
  intro vs ys e x
  refine ia e λy q ea=>map_some ea λms e1 ez=>?_
  clear e ea
  subst ez;subst q
  refine aL.tF (P:=λvs=>aL X N' h' (((y::ms).filter (gU fL)).map .str) (vs.filter (rX fL))) x λv ws a b=>?_
  refine VR.c6 (P:=λv=>aL X N' h' (((y::ms).filter (gU fL)).map .str) ((v::ws).filter (rX fL))) a λu hz=>?_
  rw[KP,KP,show rX fL (.str y u)=gU fL y from rfl]
  cases gU fL y with
  |true=>exact .cons (.str _ _ hz) (ih e1 b)
  |false=>exact ih e1 b
def afX{l:List T}{wN fL:List Str}{la m sa:Addr}{c:Nat}{m9:List ay}(ra:A.handled=ae)(ng:NG X N s.heap)(hl:s.heap.PlainList la m9.toArray)(hs:aL X N s.heap l m9)(p5:hU l=ab wN)(nP:l.length<=lim)(hm:s.heap.get? m=ab (uI sa))(hS:s.heap.SetOf (strKind X.prog X.w) sa (gU fL) c):
  aA (model X.prog X.w) A (call (.type "filter") [.ref m,.ref la]) (λv aB=>aA (model X.prog X.w) A (call (.type "list") [v]) (Res X N s (.lst ((wN.filter (gU fL)).map .str))) E aB) E s:=by
 obtain⟨ln,uE⟩:=id hl
 obtain⟨so,QE⟩:=hS
 have afY:=QE.elim λz q=>q.elim λz q=>q.elim λz q=>q.1
 have z1:=bw uE
 have z2:=bw hm
 have z3:=bw afY
 refine afw uE λh' hM hI hz uF=>?_
 have k1:Kp X s {s with heap:=h'}:=Kp.of uF (by rw[hz];exact bX _ _)
 obtain⟨qs,Hd,Qv⟩:=yB p5 hs
 have W:=afu (prog:=X.prog) (w:=X.w) (A:=A.in1.in1) (e:=s.heap.objs.size+1) (it:=s.heap.objs.size) (l:=la) (f:=.ref m) (items:=m9.toArray) (kp:=rX fL) (fq:=[m,sa]) (Hp:=λh=>h.get? m=ab (uI sa)/\h.SetOf (strKind X.prog X.w) sa (gU fL) c) ra (xI _) (cW z1)
  (λq=>(br.mp q).elim (λq=>iS z2 q) λq=>iS z3 (b4.mp q)) (λh h' hp k=>⟨k m bk _ hp.1,wM hp.2 (k sa (bS _ bk)) λz=>rfl⟩) rfl (λA'' x s Q E hx hp hQ=>by
   rw[JJ,Hd]at hx
   obtain⟨q,_,rfl⟩:=dy.mp hx
   exact afT hp.1 hp.2 λtk ht=>hQ tk ht)
 have zT:(m9.filter (rX fL)).length<=lim:=aD (Vp _ _) (hs.length▸nP)
 refine fg (aeK aeJ W (λi s h=>h.elim λj h=>h.2.1.typeIs) bk ⟨0,rfl,hM,hI,⟨_,uF _ _ uE,rfl,_,rfl⟩,uF _ _ hm,so,QE.imp λz q=>q.imp λz q=>q.imp λz q=>⟨uF _ _ q.1,q.2⟩⟩ (λb hb=>?_) (dS zT) λnU acc c' hmv cb ha yJ=>?_)
 ·show b<h'.objs.size
  rw[hz]
  have up:∀{b},b<s.heap.objs.size->b<s.heap.objs.size+2:=λh=>Vj 2 h
  exact(br.mp hb).elim (λe=>e▸iq _) λe=>(br.mp e).elim (λe=>e▸vc (by decide)) λe=>(br.mp e).elim (λe=>e▸up z1) λe=>(br.mp e).elim (λe=>e▸up z2) λe=>b4.mp e▸up z3
 ·have kk:=Qu (tk:=nU.toks) k1 hmv (λe=>e▸.refl _) yJ (λb hb=>bO (b4.mp hb).symm) λb hb o e=>by
   rw[b4.mp hb]at e
   obtain⟨o',e1,e2,_⟩:=hI
   exact Option.some.inj (e1.symm.trans e)▸nJ e2 (by decide)
  have QF:acc.toList=m9.filter (rX fL):=DO λi=>by
   rw[xw]
   by_cases hi:i<acc.size
   ·rw[ha.2 i _ (oG hi)];exact oG hi
   ·rw[UB (eX.mp hi),ve (aD (bO ha.1.symm) (eX.mp hi))]
  have V:aL X N nU.heap ((wN.filter (gU fL)).map .str) acc.toList:=QF▸afW p5 hs
  exact⟨kk,.lst (vs:=acc.toList) ⟨c',cb⟩ (λq=>bx (ng.lt _ q) (by show s.heap.objs.size<=h'.objs.size;exact k1.size)) (by rw[<-V.length,QF];exact zT) V⟩
end
noncomputable def x7:Xp:=aT (st 186 1)
noncomputable def f7:Xp:=de x7 0
noncomputable def a7:Xp:=de f7 0
noncomputable def s7:Xp:=kT a7
noncomputable def c7(i:Nat):Str:=kU.getD i default
noncomputable def CL(i j:Nat)(v:Xp):Stmt:=jD (st 186 i) (s_ "entry") (c7 j) v
def af0:body 186=mW (st 186 0) (s_ "entry") (gE (aT (st 186 0)) (bY (cQ (aT (st 186 0))) (s_ "Entry")) [])::
 CL 1 0 (gE x7 (bY (cQ x7) (s_ "list")) [gE f7 (bY (cQ f7) (s_ "filter")) [.Attribute (gE s7 (bY (cQ s7) (s_ "set")) [de s7 0]) (s_ "__contains__") a7.pos,de f7 1]])::
 CL 2 1 (aT (st 186 2))::CL 3 2 (aT (st 186 3))::CL 4 3 (aT (st 186 4))::[.Return (ab (bY (md (st 186 5)) (s_ "entry"))) (st 186 5).pos]:=by kernel_rfl
noncomputable def QG:List (Str×Nat):=slots ["e1","e2","entry"]
def QH:(186,QG,2)∈bt:=dZ (i:=23) (by kernel_rfl)
noncomputable def oy:Sc:=⟨(bC 186).scope.names,QG,[]⟩
noncomputable def CM(i:Nat):Ex:=.attr (.var i) 10
noncomputable def mgR:Ex:=.bin .add (.attr (.var 0) 11) (.attr (.var 1) 11)
noncomputable def Hi(i:Nat):Ex:=.ite (.qR false (.attr (.var 1) i) .none) (.attr (.var 0) i) (.attr (.var 1) i)
def g7(e:Ex)(x:Xp)(h:(bo e .val oy [x]).ok=true):Gd e .val oy [x]:=no_implicit_lambda%(@Mb.get (Gd e .val oy [x]) (bo e .val oy [x]) h)
def zU:((bo (CM 1) .val oy [de s7 0]).ok=true/\(bo (CM 0) .val oy [de f7 1]).ok=true)/\(bo mgR .val oy [aT (st 186 2)]).ok=true/\(bo (Hi 12) .val oy [aT (st 186 3)]).ok=true/\(bo (Hi 13) .val oy [aT (st 186 4)]).ok=true:=⟨⟨by kernel_rfl,by kernel_rfl⟩,by kernel_rfl,by kernel_rfl,by kernel_rfl⟩
def uJ:(notStar (de s7 0)=true/\notStar (de f7 1)=true)/\cZ (aT (st 186 2))=true/\cZ (aT (st 186 3))=true/\cZ (aT (st 186 4))=true:=⟨⟨by kernel_rfl,by kernel_rfl⟩,by kernel_rfl,by kernel_rfl,by kernel_rfl⟩
def wO:(d4 (s_ "list")=ab (.type "list")/\(bC 186).scope.names.lookup (s_ "list")=ab .globalImplicit)/\(d4 (s_ "filter")=ab (.type "filter")/\(bC 186).scope.names.lookup (s_ "filter")=ab .globalImplicit)/\d4 (s_ "set")=ab (.type "set")/\(bC 186).scope.names.lookup (s_ "set")=ab .globalImplicit:=⟨⟨by kernel_rfl,by kernel_rfl⟩,⟨by kernel_rfl,by kernel_rfl⟩,by kernel_rfl,by kernel_rfl⟩
section
variable{X:Kx}{k:Nat}{A:aM}{env:Env}{aH M N:Addr->Prop}{ad:Nat->Addr}{r:aE}{s aP:az}{E:ay->az->Prop}{Q:Flow->az->Prop}{rest:List Stmt}{x dx Cc:Addr}{c:Sc}{ns:List Str}{ts:List T}{vs:List ay}
def af2{n:Str}{y:Xp}{p q pos:Pos}{nm:Str}{Q:ay->az->Prop}(h:aA (model X.prog X.w) A (eval (.Call (.Name n p) [y] [] q) env) (λov aB=>aA (model X.prog X.w) A (sO ov nm true) Q E aB) E s):aA (model X.prog X.w) A (eval (.Attribute (.Call (.Name n p) [y] [] q) nm pos) env) Q E s:=by
 rw[amE]
 exact aG (mo h λo aB bJ=>aG (lB (aG (dN (mo bJ λr s₂ h₂=>aG (TU (aQ h₂)))))))
def af3(a:At X k A env oy N r s){l1 l2:List T}{wN fL:List Str}(v1:ev (λy y=>ae) (CM 0) r=ab (.lst l1))(v2:ev (λy y=>ae) (CM 1) r=ab (.lst l2))(g1:hU l1=ab wN)(g2:hU l2=ab fL)(hz:fL.length+1<D0)(E:ay->az->Prop):
  aA (model X.prog X.w) A (eval (gE x7 (bY (cQ x7) (s_ "list")) [gE f7 (bY (cQ f7) (s_ "filter")) [.Attribute (gE s7 (bY (cQ s7) (s_ "set")) [de s7 0]) (s_ "__contains__") a7.pos,de f7 1]]) env) (Res X N s (.lst ((wN.filter (gU fL)).map .str))) E s:=by
 have QI:=jx env x7.pos (es:=[gE f7 (bY (cQ f7) (s_ "filter")) [.Attribute (gE s7 (bY (cQ s7) (s_ "set")) [de s7 0]) (s_ "__contains__") a7.pos,de f7 1]]) rfl
 have QJ:=jx env f7.pos (es:=[.Attribute (gE s7 (bY (cQ s7) (s_ "set")) [de s7 0]) (s_ "__contains__") a7.pos,de f7 1]) (by rw[Be,Be,uJ.1.2];rfl)
 have QK:=jx env s7.pos (es:=[de s7 0]) (by rw[Be,uJ.1.1];rfl)
 refine jy (jw a wO.1.1 wO.1.2 rfl (qq QI (ie QI ?_)))
 rw[j3 rfl]
 refine eZ (jy (jw a wO.2.1.1 wO.2.1.2 rfl (qq QJ (ie QJ ?_))))
 rw[yC rfl uJ.1.2]
 refine eZ (af2 (jy (jw a wO.2.2.1 wO.2.2.2 rfl (qq QK (ie QK ?_)))))
 rw[j3 uJ.1.1]
 refine eZ (vl (g7 _ _ zU.1.1 (c9 (k:=k)) a v2) λw2 aB k1 vr2=>gb ?_)
 have a1:=a.kp k1
 cases vr2.inv with| @mk la2 vs2 rC hN2 q7 vv2=>
 obtain⟨q2,e2,em2⟩:=yB g2 vv2
 refine afH (ys:=fL) a1.ra.handled rC (e2▸MB em2) hz λh₂ rF cc hS q7 yu=>?_
 have k2:Kp X aB {aB with heap:=h₂,toks:=rF}:=Kp.of yu q7
 have a2:=a1.kp k2
 obtain⟨o,es,ep,tb,ho,hex,CK,aqm⟩:=id hS
 refine afS (s:={aB with heap:=h₂,toks:=rF}) ho hex.1 (((show Heap.SetOf (strKind X.prog X.w) (Kg {aB with heap:=h₂,toks:=rF}) aB.heap.objs.size (gU fL) cc from hS).noDict _ rfl).elim λob q=>Option.some.inj (q.1.symm.trans ho)▸q.2) CK λaf7=>?_
 have k3:Kp X {aB with heap:=h₂,toks:=rF} {aB with heap:=h₂.push (uI aB.heap.objs.size),toks:=af7}:=Kp.push
 have a3:=a2.kp k3
 have hm3:(h₂.push (uI aB.heap.objs.size)).get? h₂.objs.size=ab (uI aB.heap.objs.size):=cB _ rfl
 refine eZ (vl (g7 _ _ zU.1.2 (c9 (k:=k)) a3 v1) λw1 aS k4 vr1=>gb ?_)
 have a4:=a3.kp k4
 cases vr1.inv with| @mk la1 vs1 Hj hN1 Ez vv1=>
 have ui:∀{s':az}{b:Addr},NG X N s'.heap->s'.heap.objs.size<=b->b∉aV:=λn h q=>bx (n.lt _ (n.tb _ q)) h
 have k14:=(k2.trans k3).trans k4
 refine mo (afX a4.ra.handled a4.ng Hj vv1 g1 Ez (k4.old _ _ (ui a2.ng (bj _)) hm3) (wM hS (λo e=>(k3.trans k4).old _ _ (ui a1.ng (bj _)) e) λy=>rfl)) λv dC z=>gb (mo z λu nU z=>⟨(k1.trans k14).trans z.1,z.2⟩)
end
noncomputable def Hk(c:Nat):T->Option (List T)
 |.ins d l=>if d=c then ab l else ae
 |_=>ae
def QL{α:Type}{c:Nat}{t:T}{f:List T->Option α}{z:α}{P:Prop}(e:(Hk c t).bind f=ab z)(k:∀l,t=.ins c l->f l=ab z->P):P:=by
 cases t with
 |ins d l=>exact aO e λx e1 e2=>ifs e1 λq e=>k l (q▸rfl) (e▸e2)
 |_=>exact aN e
noncomputable def a4(f:T->T->T->T->Option T):List T->Option T
 |[x,y,z,w]=>f x y z w
 |_=>ae
def QM{z:T}{f:T->T->T->T->Option T}{l:List T}{P:Prop}(e:a4 f l=ab z)(k:∀x y w u,l=[x,y,w,u]->f x y w u=ab z->P):P:=by
 cases l with
 |nil=>exact aN e
 |cons x l=>cases l with
  |nil=>exact aN e
  |cons y l=>cases l with
   |nil=>exact aN e
   |cons w l=>cases l with
    |nil=>exact aN e
    |cons u l=>cases l with|nil=>exact k x y w u rfl e|cons=>exact aN e
noncomputable def pick(d d':T):T:=if d'.ctorIdx=0 then d else d'
noncomputable def zV(t:T):Bool:=t.ctorIdx==0||t.ctorIdx==2||t.ctorIdx==3
noncomputable def mgE(a r d q a' r' d' q':T):Option T:=cH (λa=>cH (λa'=>cH (λr=>cH (λr'=>(hU a).bind λys=>(hU a').bind λp6=>if(p6.length+1<D0/\r.length+r'.length<=lim)/\zV d'=true/\zV q'=true then ab (.ins 1 [.lst ((ys.filter (gU p6)).map .str),.lst (r++r'),pick d d',pick q q'])else ae) r') r) a') a
noncomputable def zW:List T->Option T:=a2 λx y=>(Hk 1 x).bind λlx=>(Hk 1 y).bind λly=>a4 (λa r d q=>a4 (mgE a r d q) ly) lx
def agd{ts:List T}{t:T}(e:zW ts=ab t):∃(l1 l2 zX uK:List T)(d d' q q':T)(ys p6:List Str),ts=[.ins 1 [.lst l1,.lst l2,d,q],.ins 1 [.lst zX,.lst uK,d',q']]/\hU l1=ab ys/\hU zX=ab p6/\((p6.length+1<D0/\l2.length+uK.length<=lim)/\zV d'=true/\zV q'=true)/\t=.ins 1 [.lst ((ys.filter (gU p6)).map .str),.lst (l2++uK),pick d d',pick q q']:=by
 refine qU e λx y q ea=>QL ea λlx qx eb=>QL eb λly qy ec=>QM ec λa r d q0 qa ed=>QM ed λa' r' d' QN qa' ee=>eW ee λl1 q1 ef=>eW ef λzX q1' eg=>eW eg λl2 q2 eh=>eW eh λuK q2' ei=>aO ei λys g1 ej=>aO ej λp6 g2 ek=>ifs ek λhg ez=>?_
 clear e ea eb ec ed ee ef eg eh ei ej ek
 subst q;subst qx;subst qy;subst qa;subst qa';subst q1;subst q1';subst q2;subst q2';subst ez
 exact⟨l1,l2,zX,uK,d,d',q0,QN,ys,p6,rfl,g1,g2,hg,rfl⟩
def QO{F:Nat->List T->Option T}{i:Nat}{r:aE}{d d':T}(h:zV d'=true)(e0:ev F (.attr (.var 0) i) r=ab d)(e1:ev F (.attr (.var 1) i) r=ab d'):ev F (Hi i) r=ab (pick d d'):=by
 show(((ev F (.attr (.var 1) i) r).bind λx=>Lf false x .none).bind λx=>if x.plain=true then(if x.truth=true then ev F (.attr (.var 0) i) r else ev F (.attr (.var 1) i) r)else ae)=_
 rw[e1,e0]
 cases d' with
 |none=>rfl
 |int=>rfl
 |str=>rfl
 |_=>exact ft h
section
variable{X:Kx}{k:Nat}{A:aM}{env:Env}{aH M N:Addr->Prop}{ad:Nat->Addr}{r:aE}{s aP:az}{E:ay->az->Prop}{Q:Flow->az->Prop}{rest:List Stmt}{x dx Cc:Addr}{c:Sc}{ns:List Str}{ts:List T}{vs:List ay}
def WQ.rep{sm:Stmt}{y nm:Str}{i j:Nat}{value:Xp}{t:T}(q:WQ X k A env c aH M N ad r s x dx Cc aP ns ts vs)(hv:∀E,aA (model X.prog X.w) A (eval value env) (Res X N s t) E s)(hp:cZ value=true)(hy:c.slots.lookup y=ab i)(hr:get r i=ab (.ptr x))(hn:iW y=true)(ho:c.own.contains i=false)
  (cl:oh X.K Cc nm) (hj:ns[j]?=ab nm) (h:∀{s' N' v},WQ X k A env c aH M N' ad r s' x dx Cc aP ns (ts.set j t) (vs.set j v)->aA (model X.prog X.w) A (bL rest env) Q E s'):aA (model X.prog X.w) A (bL (jD sm y nm value::rest) env) Q E s:=
 uj (R:=λv aB=>VR X N aB.heap t v) q.m hv hp hy hr hn ho cl (λv hs tk es he=>(rL he).2 j q.m.I.nd hj) q.m.I.nd q.m.I.Cg λ{v aB s' N'}k1 hv mv m n1 n2 n3=>by
  have kc:=mv.kc (N:=λb=>aH b∨M b) (λb h=>.inl (q.tb b h)) λb e=>.inl (e▸q.h0.2)
  exact h ⟨m,(q.acc.trans (Mv.of (M:=λz=>False) k1) λd=>.inl).trans mv λd e=>.inr (e▸q.d0),q.hM,q.h0,q.d0,q.tb,
   ((q.vr.move (λz=>.inl) (k1.kc λb h=>.inl (q.tb b h))).set j (hv.mono λb h=>h.elim (q.m.F.n0 b) (q.m.F.mn b))).move (λz=>.inl) kc⟩
def WQ.new{sm:Stmt}{v:Xp}{y:Str}{i:Nat}(a:At X k A env c N r s)(F:Fw X env c aH M N ad r s.heap)(hM:∀b,M b->aP.heap.objs.size<=b)(k0:Kp X aP s)(tb:∀b∈aV,aH b)(h0:∀b,aH b->b<aP.heap.objs.size)(hx:c.slots.lookup y=ab i)(ho:c.own=[])(hp:cZ v=true)
  (he:∀E,aA (model X.prog X.w) A (eval v env) (λv s'=>∃a dA u l,v=.ref a/\EN X s a s' dA u l) E s)
  (h:∀{s' x dx tT N' ad' vs},WQ X k A env c tT M N' ad' (put r i (.ptr x)) s' x dx 175 aP kU [.lst [],.lst [],.none,.none] vs->(∀b,aH b->tT b)->aP.heap.objs.size<=x->aA (model X.prog X.w) A (bL rest env) Q E s'):
  aA (model X.prog X.w) A (bL (mW sm y v::rest) env) Q E s:=by
 refine i7 (xM (mo (he _) λval aB z=>?_) (mS hp))
 obtain⟨x,dx,u,l,rfl,e⟩:=z
 have U:=rM (P:=λb=>b=x∨b=dx) a F e.kp λb h=>⟨e.ge b (h.imp id .inl),e.lt b (h.imp id .inl)⟩
 have z:=k0.size
 have F1:Fw X env c (λb=>aH b∨(b=x∨b=dx)) M (λb=>N b∨(b=x∨b=dx)) ad r aB.heap:=U.2.grow (λt=>id) U.2.mn (λb h q=>q.elim (U.2.m0 b h) λq=>bx (a.ng.lt b (F.mn b h)) (e.ge b (q.imp id .inl))) λb h=>h.imp (F.n0 b) id
 have nM:∀b,s.heap.objs.size<=b->b∉aV/\¬M b:=λb h=>⟨λq=>bx (a.ng.lt b (a.ng.tb b q)) h,λq=>bx (a.ng.lt b (F.mn b q)) h⟩
 refine l8 false U.1 F1 hx (.ptr x) ft λs' ad' mv a' F'=>⟨rfl,?_⟩
 rw[show j5 false c.own i=c.own by rw[ho];rfl]at a' F'
 have kk:∀{b},s.heap.objs.size<=b->∀o,aB.heap.get? b=ab o->s'.heap.get? b=ab o:=λ{b}h o g=>mv.old b o (nM b h).2 (nM b h).1 g
 obtain⟨nu,gu⟩:=id e.pu
 obtain⟨nl,gl⟩:=id e.pl
 obtain⟨es,n,gd,_⟩:=e.iv.dict
 have ne:∀{o b c:_}{o':Obj},aB.heap.get? b=ab o->aB.heap.get? c=ab o'->o.cls≠o'.cls->b≠c:=λe1 e2 n q=>by rw[q]at e1;exact n (af Obj.cls (Option.some.inj (e1.symm.trans e2)))
 have c1:ay.type "list"≠.ref 175:=λe=>ay.noConfusion e
 have c2:ay.type "list"≠.type "dict":=λe=>aj (ay.type.inj e) (by decide)
 have no:∀{b},s.heap.objs.size<=b->b≠x->b≠dx->¬((aH b∨(b=x∨b=dx))∨M b):=λ{b}h n1 n2 q=>q.elim (λq=>q.elim (λq=>bx (h0 b q) (aD z h)) λq=>q.elim n1 n2) (nM b h).2
 refine h ⟨⟨a',F',e.iv.keep (kk e.a0) (kk e.d0),(nM x e.a0).1,(nM dx e.d0).1,.inr (.inr rfl),(nM dx e.d0).2,(n7 a F e.d0).1,e.ad⟩,((Mv.of (M:=λt=>False) (k0.trans e.kp)).trans mv λd h=>.inr (hM d h)),hM,⟨.inr (.inl rfl),.inr (.inr rfl)⟩,aD z e.d0,λb h=>.inl (tb b h),
  .cons (.lst (vs:=[]) ⟨nu,kk e.u0 _ gu⟩ (no e.u0 (ne gu e.iv.obj c1) (ne gu gd c2)) (dP _) .nil) (.cons (.lst (vs:=[]) ⟨nl,kk e.l0 _ gl⟩ (no e.l0 (ne gl e.iv.obj c1) (ne gl gd c2)) (dP _) .nil) (.cons .none (.cons .none .nil)))⟩ (λb=>.inl) (aD z e.a0)
def agh:dq X (k+3) 186 zW:=λA N s ts vals t E ra wd ng hv e=>by
 obtain⟨l1,l2,zX,uK,d,d',q0,QN,ys,p6,rfl,g1,g2,hg,rfl⟩:=agd e
 clear e
 have H:Ok ⟨X,λz z=>ae⟩ (k+2):=c9
 refine t8 1 (iM QH) ra wd ng hv rfl λ{env aB M N'}c=>?_
 rw[af0]
 refine WQ.new (c:=oy) c.a c.F c.hM c.kp ng.tb ng.lt (i:=2) rfl rfl rfl (λE=>O7 (k:=k) c.a (by kernel_rfl)) λ{s₂ x dx tT Pw acY vs}q2 hN0 FU=>?_
 refine q2.rep (i:=2) (j:=0) (af3 q2.m.a rfl rfl g1 g2 hg.1.1) rfl rfl rfl rfl rfl (mX (me (j:=0) rfl)) rfl λ{aX Py v3}q3=>?_
 refine q3.rep (i:=2) (j:=1) (t:=.lst (l2++uK)) (g7 _ _ zU.2.1 H q3.m.a (ah hg.1.2)) uJ.2.1 rfl rfl rfl rfl (mX (me (j:=1) rfl)) rfl λ{aS GN v4}q4=>?_
 refine q4.rep (i:=2) (j:=2) (g7 _ _ zU.2.2.1 H q4.m.a (QO hg.2.1 rfl rfl)) uJ.2.2.1 rfl rfl rfl rfl (mX (me (j:=2) rfl)) rfl λ{dC GO v5}q5=>?_
 refine q5.rep (i:=2) (j:=3) (g7 _ _ zU.2.2.2 H q5.m.a (QO hg.2.2 rfl rfl)) uJ.2.2.2 rfl rfl rfl rfl (mX (me (j:=3) rfl)) rfl λ{nU ac0 v6}q6=>?_
 refine c8 (qB (gC q6.m.a (q6.m.a.ptr (i:=2) rfl rfl rfl) rfl rfl ?_))
 obtain⟨es,n,ed,ee⟩:=q6.m.I.dict
 exact⟨q6.acc.kp λz=>id,.ins (c:=1) q6.m.I.obj ed (λq=>bx (ng.lt _ q) FU) (λq=>bx (ng.lt _ q) q6.d0) ee (q6.vr.mono λb h=>.inl (hN0 b h))⟩
end
noncomputable def Hl:T->Option Int:=bH λl=>l.head?.bind (bp ab)
def agj{t:T}{i:Int}{P:Prop}(e:Hl t=ab i)(k:∀ts,t=.tup (.int i::ts)->P):P:=kH e λl q e=>aO e λu eu e=>ff e λj qj e=>by
 cases l with
 |nil=>exact aN eu
 |cons a l=>cases eu;subst q;subst qj;cases e;exact k l rfl
noncomputable def firstsI(l:List T):Option (List Int):=l.foldr (λt o=>(Hl t).bind λi=>o.map (i::·)) (ab [])
def Hm{l:List T}:∀{is:List Int},firstsI l=ab is->is.length=l.length/\∀(j:Nat)t,l[j]?=ab t->∃i,Hl t=ab i/\is[j]?=ab i:=by
 induction l with
 |nil=>intro is e;cases e;exact⟨rfl,λj t h=>aN h⟩
 |cons a l ih=>
  intro is e
  refine aO e λi e1 ea=>map_some ea λms e2 ez=>?_
  clear e ea
  subst ez
  refine⟨af (· +1) (ih e2).1,λj t h=>?_⟩
  cases j with
  |zero=>cases h;exact⟨i,e1,rfl⟩
  |succ j=>exact(ih e2).2 j t h
def zY(is:List Int)(j:Nat)(y:ay):Prop:=∃i u,y=.str (bP (toString i)) u/\is[j]?=ab i
abbrev jK(X:Kx)(A:aM)(s:az)(a g Cc I:Addr)(fp:List Addr)(is:List Int):Prop:=(GenAt X.prog X.w A a g Cc fp [I] (λz=>true) is.length (zY is) 0 s)/\(∃o,s.heap.get? I=ab o/\¬iB o)/\(∃o,s.heap.get? Cc=ab o/\¬iB o)/\(∀b∈a::Cc::fp,b∉aV)/\(∀b∈a::Cc::fp,b<s.heap.objs.size)/\I∈fp/\sE∈fp/\a≠Cc/\a∉fp/\Cc∉fp/\sE≠I
section
variable(h:jK X A s a g Cc I fp is)
def jK.at_:=h.1
def jK.cI:=h.2.1
def jK.cC:=h.2.2.1
def jK.tb:=h.2.2.2.1
def jK.lt:=h.2.2.2.2.1
def jK.iF:=h.2.2.2.2.2.1
def jK.sF:=h.2.2.2.2.2.2.1
def jK.aC:=h.2.2.2.2.2.2.2.1
def jK.aF:=h.2.2.2.2.2.2.2.2.1
def jK.cF:=h.2.2.2.2.2.2.2.2.2.1
def jK.sI:=h.2.2.2.2.2.2.2.2.2.2
end
def jK.mv{X:Kx}{A:aM}{s s':az}{a g Cc I:Addr}{fp:List Addr}{is:List Int}{M:Addr->Prop}(G:jK X A s a g Cc I fp is)(m:Mv X M s s')(h:∀b∈a::Cc::fp,¬M b):jK X A s' a g Cc I fp is:=by
 have k:∀{b},b∈a::Cc::fp->∀o,s.heap.get? b=ab o->s'.heap.get? b=ab o:=λ{b}hb o e=>m.old b o (h b hb) (G.tb b hb) e
 have kf:∀{b},b∈fp->∀o,s.heap.get? b=ab o->s'.heap.get? b=ab o:=λhb=>k (bS _ (bS _ hb))
 obtain⟨⟨o,nm,qn,ho,r⟩,⟨mc,h2,h2'⟩,gs,h3,h4⟩:=G.at_
 exact⟨⟨⟨o,nm,qn,k bk o ho,r⟩,⟨mc,h2.at' (kf G.sF),h2'⟩,gs,m.gens.2 _ _ h3,λcj hal=>h4 cj λb hb o e=>hal b hb o (k (bS _ hb) o e)⟩,G.cI.imp λo q=>⟨kf G.iF _ q.1,q.2⟩,G.cC.imp λo q=>⟨k (bS _ bk) _ q.1,q.2⟩,G.tb,λb hb=>bG (G.lt b hb) m.size,G.iF,G.sF,G.aC,G.aF,G.cF,G.sI⟩
noncomputable def gx:Xp:=aT (st 87 0)
noncomputable def agm(x:Xp):Xp:=if h:x.ctorIdx=11 then Expr.GeneratorExp.elim x h λe z z z=>e else default
noncomputable def genS(x:Xp):d9:=if h:x.ctorIdx=11 then Expr.GeneratorExp.elim x h λz z s z=>s else default
noncomputable def QP(x:Xp):J7:=if h:x.ctorIdx=11 then Expr.GeneratorExp.elim x h λz l z z=>l.getD 0 ⟨default,default,[],0⟩else⟨default,default,[],0⟩
noncomputable def ge:Xp:=agm gx
noncomputable def kY:Xp:=de ge 0
noncomputable def CN(x:Xp):Xp:=.Constant (.int 0) (cK x) x.pos
noncomputable def QQ:Xp:=.GeneratorExp (gE ge (bY (cQ ge) (s_ "str")) [.Subscript (bY (zE kY) (s_ "tup")) (CN (uB kY)) kY.pos]) [⟨bY (QP gx).target (s_ "tup"),bY (QP gx).iter (s_ "w"),[],0⟩] (genS gx) gx.pos
noncomputable def mq:d9:=genS gx
def oz:mq.names=[(s_ ".0",.local),(s_ "tup",.local),(s_ "str",.globalImplicit)]/\mq.kind=.function/\mq.isCoroutine=false:=⟨by kernel_rfl,by kernel_rfl,by kernel_rfl⟩
section
variable{X:Kx}{A:aM}{E:ay->az->Prop}{s:az}
def agn{cenv:Env}{m:Str->Option ay}{t:Addr}{vs:List ay}{i:Int}{u:Tok}(hk:cenv.scope=mq)(hg:s.heap.Ns cenv.globals X.mg)(hb:s.heap.Ns cenv.builtins X.mb)(fK:X.mg (s_ "str")=ab (.type "str")∨(X.mg (s_ "str")=ae/\X.mb (s_ "str")=ab (.type "str")))(hn:s.heap.Ns cenv.locals m)(hm:m (s_ "tup")=ab (.ref t))
  (ht:jY s.heap t (.int i u::vs).toArray) (hi:i.natAbs.log2<1920) {Q:ay->az->Prop} (hQ:∀tk u',Q (.str (bP (toString i)) u') {s with toks:=tk}):
  aA (model X.prog X.w) A (eval (gE ge (bY (cQ ge) (s_ "str")) [.Subscript (bY (zE kY) (s_ "tup")) (CN (uB kY)) kY.pos]) cenv) Q E s:=by
 have kd:∀{x k},mq.names.lookup x=ab k->cenv.kindOf x=ab k:=λe=>by unfold qi;rw[hk];exact e
 have fn:cenv.scope.kind=.function:=by rw[hk];exact oz.2.1
 refine jy (alV fn (kd (by rw[oz.1];rfl)) ?_ rfl)
 have go:aA (model X.prog X.w) A (Dq ge.pos (.type "str") [] (mz ge.pos (jT [.Subscript (bY (zE kY) (s_ "tup")) (CN (uB kY)) kY.pos] cenv)) []) Q E s:=by
  refine qq rfl (ie rfl (eZ (Et (wpAny_Name (TN fn (kd (by rw[oz.1];rfl)) hn hm ?_) rfl))))
  refine JN (k:=cK (uB kY)) (pos:=(uB kY).pos) ⟨⟨"tuple",_,PySem.F.slot_tuple_getitem.lookup,ht.isTup.typeIs⟩,?_⟩
  exact getItem_tuple (j:=0) (x:=.int i u) ht.isTup (by decide) (by decide) (by rw[bU];exact P8 (i:=0) (eG _)) rfl (gb (PySem.P.str_of_int hi (hQ _ _)))
 exact fK.elim (λe=>alW hg e go) λe=>alX hg e.1 hb e.2 go
end
section
variable{X:Kx}{k:Nat}{A:aM}{env:Env}{c:Sc}{aH M N:Addr->Prop}{ad:Nat->Addr}{r:aE}{s:az}{E:ay->az->Prop}{l:List T}{is:List Int}{ws:List ay}{fp:List Addr}{I Cc:Addr}{cv:ay}{QR:Heap}
def ago(a:At X k A env c N r s):X.mg (s_ "str")=ab (.type "str")∨(X.mg (s_ "str")=ae/\X.mb (s_ "str")=ab (.type "str")):=a.wd.gl _ _ zR.2.1
def At.Hn(a:At X k A env c N r s){b:Addr}(h:b∉aV)(q:b=gJ∨b=jm∨b=sE):¬N b:=λn=>q.elim (a.ng.wd b n h).2.1 λq=>q.elim (a.ng.wd b n h).2.2.1 (a.ng.wd b n h).2.2.2
def agp(a:At X k A env c N r s)(j7:aL X N s.heap l ws)(kO:firstsI l=ab is)(zZ:∀i∈is,i.natAbs.log2<1920)(hF:∀b,¬N b->b<s.heap.objs.size->b∈fp/\b≠I)(old:∀b o,b∉aV->s.heap.get? b=ab o->QR.get? b=ab o):
  QuietGen X.prog X.w (genEnv mq [] Cc cv jm env) (s_ "tup") [] (gE ge (bY (cQ ge) (s_ "str")) [.Subscript (bY (zE kY) (s_ "tup")) (CN (uB kY)) kY.pos]) fp [I] (λi v=>ws.toArray[i]?=ab v) (λz=>true) (zY is) QR:=by
 refine⟨?_,?_⟩
 ·intro A' E' i v s₂ m₂ hA' _ _ _ _
  exact aQ ⟨rfl,_,_,rfl,λz z e=>e⟩
 ·intro A' E' i v aX m₂ hA' hP _ gQ hm i5
  rw[uX]at hP
  have yK:i<l.length:=j7.length▸(iR.mp hP).1
  obtain⟨v',e1,e2⟩:=j7.get (iu yK)
  cases hP.symm.trans e1
  obtain⟨x,e3,e4⟩:=(Hm kO).2 i _ (iu yK)
  refine agj e3 λts e3=>?_
  rw[e3]at e2
  have hb:∀b o,¬N b->s.heap.get? b=ab o->aX.heap.get? b=ab o:=λb o hb e=>i5 b (hF b hb (bw e)).1 (λq=>(hF b hb (bw e)).2 (b4.mp q)) o (old b o (λq=>hb (a.ng.tb b q)) e)
  refine VR.fb (P:=λv=>m₂ (s_ "tup")=ab v->_) e2 (λta Ho ho hN hz l4 hm=>?_) hm
  have z5:jY aX.heap ta Ho.toArray:=ho.imp λn e=>hb _ _ hN e
  refine aL.tF (P:=λHo=>jY aX.heap ta (oE Ho)->_) l4 (λv0 vs0 hx z z5=>?_) z5
  refine VR.eR (P:=λv0=>jY aX.heap ta (oE (v0::vs0))->_) hx (λu z5=>?_) z5
  refine agn rfl ?_ (a.wd.b.at' λo e=>hb _ _ (a.Hn (by decide) (.inr (.inl rfl))) e) (ago a) gQ hm z5 (zZ x (dZ e4)) λtk u'=>⟨⟨x,u',rfl,e4⟩,⟨_,tk,rfl,λz z e=>e⟩⟩
  show aX.heap.Ns env.globals X.mg
  rw[a.ec.globals]
  exact a.wd.g.at' λo e=>hb _ _ (a.Hn (by decide) (.inl rfl)) e
end
def QS{a b:Array mx}(h:nL a b):a.size<=b.size:=by
 by_cases q:a.size<=b.size
 ·exact q
 ·have lt:=xq.mp q
  exact aj (Vq.mp (h.2 _ _ (oG lt))).1 (eY _)
def ags{a:Array mx}{x:mx}(h:x.bare=true):nL a (a.push x):=
 ⟨λg y hy=>(Array.mem_push.mp hy).elim (g y) λe=>e▸h,λi y e=>by
  have hi:=(Vq.mp e).1
  rw[Array.getElem?_push_lt hi,<-oG hi];exact e⟩
open Classical in
noncomputable def Aa(M:Addr->Prop)(Cc:Addr):List Addr:=(bc Cc).filter λb=>decide (b∉aV/\¬M b)
open Classical in
def rY{M:Addr->Prop}{Cc b:Addr}:b∈Aa M Cc↔b<Cc/\b∉aV/\¬M b:=by
 unfold Aa
 rw[DE,iw,decide_eq_true_eq]
def agt(env:Env):oH mq env=pure []:=by unfold oH;rw[oz.1];rfl
def agu:∀y∈mq.names,y.2≠.cell:=by rw[oz.1];decide
def QT:((86,82,vz):Addr×Addr×Str)∈iD:=dZ (i:=3) rfl
abbrev p7(X:Kx)(A:aM)(M:Addr->Prop)(s s':az)(is:List Int)(b g Cc I:Addr)(fp:List Addr):Prop:=Kp X s s'/\jK X A.in1.in1 s' b g Cc I fp is/\s.gens.size<=g/\s.heap.objs.size<=b/\s.heap.objs.size<=Cc/\s.heap.objs.size<=I/\∀b∈fp,¬M b
section
variable(h:p7 X A M s s' is b g Cc I fp)
def p7.kp:=h.1
def p7.st:=h.2.1
def p7.gz:=h.2.2.1
def p7.bz:=h.2.2.2.1
def p7.cz:=h.2.2.2.2.1
def p7.iz:=h.2.2.2.2.2.1
def p7.fM:=h.2.2.2.2.2.2
end
section
variable{X:Kx}{k:Nat}{A:aM}{env:Env}{c:Sc}{aH M N:Addr->Prop}{ad:Nat->Addr}{r:aE}{s:az}{l:List T}{is:List Int}
def agv(a:At X k A env c N r s)(F:Fw X env c aH M N ad r s.heap){i:Nat}(hw:c.slots.lookup (s_ "w")=ab i)(hr:get r i=ab (.lst l))(E3:c.own.contains i=false)(kO:firstsI l=ab is)(zZ:∀i∈is,i.natAbs.log2<1920)(agw:env.code=.ref 86)(hq:env.qual++"<genexpr>"=vz)(E:ay->az->Prop):
  aA (model X.prog X.w) A (eval QQ env) (λv s'=>∃b g Cc I fp,v=.ref b/\p7 X A M s s' is b g Cc I fp) E s:=by
 obtain⟨wv,rdw,vrw⟩:=a.vr hw hr E3
 cases vrw.inv with| @mk wl ws nS QU hwz j7=>
 obtain⟨nw,ew⟩:=id nS
 have wQ:=bw ew
 refine wpAny_GeneratorExp_make oz.2.2 (agt env) agu (by show mq.names.lookup _=_;rw[oz.1];rfl) oz.2.1 a.ra.room (gC a rdw rfl rfl (AK nS.isList ?_)) λx=>rfl
 have k1:Kp X s {s with heap:=s.heap.push {cls:=.type "list_iterator",data:=.fields #[.ref wl,.int 0 0]}}:=Kp.push
 have a1:=a.kp k1
 have Hq:(s.heap.push {cls:=.type "list_iterator",data:=.fields #[.ref wl,.int 0 0]}).get? s.heap.objs.size=ab {cls:=.type "list_iterator",data:=.fields #[.ref wl,.int 0 0]}:=cB _ rfl
 refine⟨a1.wd.nolimit,?_⟩
 rw[hq]
 refine mo (abb QT a1.wd.tabs agw) λcv s₂ z=>?_
 obtain⟨k2,rK⟩:=z
 have a2:=a1.kp k2
 obtain⟨bm,ob,F9,Ga,_,Gb,Ge,Gf,Gg⟩:=a2.wd.tabs.1
 rw[a2.ec.globals]
 refine anZ a2.wd.g F9 Ga Gb Ge Gf Gg λh' yQ cb=>?_
 have hsz:h'.objs.size=s₂.heap.objs.size+1:=cb.1.trans (fk ..)
 have Bm:∀b o,s₂.heap.get? b=ab o->h'.get? b=ab o:=λb o e=>cb.extBut b o (cW (bw e)) (cS _ e)
 have i4:=k1.trans k2
 have Hr:s.heap.objs.size∉aV:=λq=>eY _ (a.ng.lt _ (a.ng.tb _ q))
 have IC:s.heap.objs.size<s₂.heap.objs.size:=bG (bw Hq) k2.size
 have Hs:∀b,¬N b->b<s.heap.objs.size->b∈Aa M s₂.heap.objs.size/\b≠s.heap.objs.size:=λb hb e=>⟨rY.mpr ⟨qg e IC,λq=>hb (a.ng.tb b q),λq=>hb (F.mn b q)⟩,cW e⟩
 have iF:s.heap.objs.size∈Aa M s₂.heap.objs.size:=rY.mpr ⟨IC,Hr,λq=>eY _ (a.ng.lt _ (F.mn _ q))⟩
 have sF:=Hs sE (a.Hn (by decide) (.inr (.inr rfl))) (a.wd.nolimit.elim λmc q=>q.1.lt)
 generalize uh:({cls:=.type "generator",data:=.fields #[.int s₂.gens.size 0,.str "<genexpr>" (s₂.toks+1),.str vz (s₂.toks+1+1)]}:Obj)=go
 have up:∀b o,s₂.heap.get? b=ab o->(h'.push go).get? b=ab o:=λb o e=>cS _ (Bm b o e)
 have old:∀b o,b∉aV->s.heap.get? b=ab o->(h'.push go).get? b=ab o:=λb o hb e=>up b o (i4.old b o hb e)
 have QV:∀{b},s.heap.objs.size<=b->b∉aV:=λ{b}h q=>bx (a.ng.lt b (a.ng.tb b q)) h
 have bz:s.heap.objs.size<=h'.objs.size:=by rw[hsz];exact u9 (cE IC)
 have gg:(h'.push go).get? h'.objs.size=ab go:=cB _ (by rw[<-uh];rfl)
 have hsl:ws.toArray.size=is.length:=by rw[bU,j7.length,(Hm kO).1]
 have zz:(h'.push go).objs.size=s₂.heap.objs.size+1+1:=by rw[fk,hsz]
 refine⟨h'.objs.size,s₂.gens.size,s₂.heap.objs.size,s.heap.objs.size,Aa M s₂.heap.objs.size,rfl,?_,⟨?_,⟨_,up _ _ (k2.old _ _ Hr Hq),nJ rfl (by decide)⟩,?_,?_,?_,iF,sF.1,by rw[hsz];exact xI _,?_,?_,sF.2⟩,QS i4.gens,bz,cE IC,bj _,λb h=>(rY.mp h).2.2⟩
 ·exact i4.trans ⟨λb o u e=>up b o e,by rw[zz];exact bX _ 2,yd λb o u e=>up b o e,rfl,ags rfl,λb o u e=>up b o e⟩
 ·rw[<-hsl]
  refine GenAt.fresh (A:=A.in1.in1) (cenv:=genEnv mq [] s₂.heap.objs.size cv jm env) (m:=λy=>if y=".0"then ab (.ref s.heap.objs.size)else ae) a.ra.handled
   (λA' hA=>(Dn hA s.heap.objs.size wl (cW wQ) ws.toArray).mono_fp λb hb=>(br.mp hb).elim (λe=>e▸iF) λe=>b4.mp e▸(Hs _ QU wQ).1) (λu=>true) (zY is) (by show mq.names.lookup _=_;rw[oz.1];rfl) (by show(mq.kind==ScopeKind.class||(mq.kind==ScopeKind.module&&_))=false;rw[oz.2.1];rfl) oz.2.2
   (λhm=>eY _ (rY.mp hm).1) (agp a j7 kO zZ Hs old) ⟨go,_,_,gg,by rw[<-uh],by rw[<-uh],by rw[<-uh]⟩ (Array.getElem?_push_size ..) ⟨⟨_,up _ _ (k2.old _ _ Hr Hq),rfl,rfl⟩,⟨_,old _ _ (λq=>QU (a.ng.tb _ q)) ew,rfl,nw,rfl⟩⟩ (yQ.push _) ?_
  exact a.wd.nolimit.imp λmc q=>⟨q.1.at' λo e=>old _ _ (by decide) e,q.2⟩
 ·obtain⟨o,_,_,e,hd,_⟩:=yQ
  exact⟨o,cS _ e,oP hd rfl⟩
 ·exactλb hb=>(br.mp hb).elim (λe=>e▸QV bz) λhb=>(br.mp hb).elim (λe=>e▸QV (cE IC)) λhb=>(rY.mp hb).2.1
 ·intro b hb
  show b<(h'.push go).objs.size
  rw[zz]
  exact(br.mp hb).elim (λe=>e▸hsz▸iq _) λhb=>(br.mp hb).elim (λe=>e▸va (iq _)) λhb=>Vj 2 (rY.mp hb).1
 ·exactλq=>by have q:=(rY.mp q).1;rw[hsz]at q;exact eY _ (Nat.lt_of_succ_lt q)
 ·exactλq=>eY _ (rY.mp q).1
end
noncomputable def QW:S:=.asg 2 (lS "at tab size")
noncomputable def Ht:S:=.bN (.cmp .gt (.prim .len (.cons (.var 0) .nil)) (.lit (.int 1))) (.asg 2 (.bin .add (.var 2) (lS "s"))) .skip
noncomputable def CO:Ex:=.bin .add (.var 2) (lS " ")
noncomputable def fr:Xp:=md (st 87 3)
noncomputable def fj:Xp:=uC fr
def b87:body 87=mW (st 87 0) (s_ "firsts") QQ::st 87 1::st 87 2::[.Return (ab (.BinOp (jI fr) .Add (gE fj (.Attribute (kT (cQ fj)) (s_ "join") (cQ fj).pos) [bY (de fj 0) (s_ "firsts")]) fr.pos)) (st 87 3).pos]:=by kernel_rfl
noncomputable def QX:List (Str×Nat):=slots ["w","firsts","prefix"]
def QY:(87,QX,1)∈bt:=dZ (i:=24) (by kernel_rfl)
noncomputable def o9:Sc:=⟨(bC 87).scope.names,QX,[]⟩
def agB:bR QW o9 [st 87 1] []:=Db.is (oZ QW o9 [st 87 1]) [] (by kernel_rfl)
def agC:bR Ht o9 [st 87 2] []:=Db.is (oZ Ht o9 [st 87 2]) [] (by kernel_rfl)
def agD:Gd CO .bor o9 [jI fr]:=no_implicit_lambda%(@Mb.get (Gd CO .bor o9 [jI fr]) (bo CO .bor o9 [jI fr]) (by kernel_rfl))
def agE:Gd (lS ", ") .val o9 [kT (cQ fj)]:=no_implicit_lambda%(@Mb.get (Gd (lS ", ") .val o9 [kT (cQ fj)]) (bo (lS ", ") .val o9 [kT (cQ fj)]) (by kernel_rfl))
def QZ:isCall (kT (cQ fj))=false/\(cQ fj).pos.endLine=fj.pos.line:=⟨by kernel_rfl,by kernel_rfl⟩
def Hu:(bC 87).code=.ref 86/\(bC 87).qualname++".<locals>."++"<genexpr>"=vz:=⟨by kernel_rfl,by kernel_rfl⟩
noncomputable def iN(is:List Int):List Str:=is.map λi=>bP (toString i)
noncomputable def jc(n:Nat):Str:=if 1<n then s_ "at tab size"++s_ "s"else s_ "at tab size"
noncomputable def Q0:List T->Option T:=a1 (cH λl=>(firstsI l).bind λis=>if is.all (λi=>decide (i.natAbs.log2<1920))=true/\nA (s_ ", ") (iN is)=true/\(fm (s_ ", ") (iN is)).length<=60000 then ab (.str (jc l.length++s_ " "++fm (s_ ", ") (iN is)))else ae)
def Q1(n:Nat):D1 (λz=>true) n 0=bc n:=by unfold D1;rw[anP];exact Uz.mpr λz z=>rfl
def agF{is:List Int}{l:List (Str×Tok)}(h:KL (λj y=>∃i,(D1 (λz=>true) is.length 0)[j]?=ab i/\zY is i y) (nC l).toArray (D1 (λz=>true) is.length 0).length):l.map (·.1)=iN is:=by
 rw[Q1]at h
 have hl:l.length=is.length:=by have:=h.1;rw[bU,kr]at this;exact(bK ..).symm.trans this
 refine DO λj=>?_
 unfold iN
 rw[gL,gL]
 by_cases hj:j<is.length
 ·have zO:j<l.length:=hl▸hj
  have e1:(nC l).toArray[j]?=ab (ay.str l[j].1 l[j].2):=by rw[uX];unfold nC;rw[gL,iu zO];rfl
  obtain⟨i,e2,x,u,e3,e4⟩:=h.2 j _ e1
  rw[DN hj]at e2
  cases e2
  rw[iu zO,e4]
  exact af ab (ay.str.inj e3).1
 ·rw[ve (eX.mp hj),ve (hl▸eX.mp hj)]
  rfl
section
variable{X:Kx}{k:Nat}
def agG{aP s s':az}{wr:List Addr}{g tk:Nat}(k:Kp X aP s)(m:qH wr (GenOnlyQ g) s s')(z:s.heap.objs.size<=s'.heap.objs.size)(hw:∀b∈wr,aP.heap.objs.size<=b/\∀o,s.heap.get? b=ab o->¬iB o)(hg:aP.gens.size<=g):Kp X aP {s' with toks:=tk}:=by
 have lt:∀b o,aP.heap.get? b=ab o->b∉wr:=λb o e q=>bx (bw e) (hw b q).1
 refine⟨λb o t e=>m.heap b o (lt b o e) (k.old b o t e),aD k.size z,λh=>yd (λb o t e=>m.heap b o (λq=>(hw b q).2 o e t) e) (k.tabs h),m.os.trans k.os,⟨λh=>m.gens.bare (k.gens.1 h),λi x e=>?_⟩,λb o t e=>m.heap b o (lt b o e) (k.code b o t e)⟩
 have hi:=(Vq.mp e).1
 have e2:=k.gens.2 i x e
 rcases m.gens with h|h
 ·show s'.gens[i]?=_;rw[h];exact e2
 ·show s'.gens[i]?=_;rw[h.1.2 i (cW (bG hi hg))];exact e2
def agH(n:Nat):(jc n++s_ " ").length<=13:=by
 unfold jc
 by_cases h:1<n
 ·rw[ah h];decide
 ·rw[ai h];decide
def agI{A:aM}{N:Addr->Prop}{s:az}{E:ay->az->Prop}{l:List T}{is:List Int}{vals:List ay}(kO:firstsI l=ab is)(zZ:∀i∈is,i.natAbs.log2<1920)(hj1:nA (s_ ", ") (iN is)=true)(Ac:(fm (s_ ", ") (iN is)).length<=60000)(nP:l.length<=lim)(ra:RA (k+1) A)(wd:Wd X s.heap)(ng:NG X N s.heap)(hv:aL X N s.heap [.lst l] vals):
  aA (model X.prog X.w) A (call (.ref 87) vals) (Res X N s (.str (jc l.length++s_ " "++fm (s_ ", ") (iN is)))) E s:=by
 refine t8 2 (iM QY) ra wd ng hv rfl λ{env aB M N'}c=>?_
 rw[b87]
 refine i7 (xM (mo (agv c.a c.F (i:=0) rfl rfl rfl kO zZ (c.code.trans Hu.1) (by rw[c.qual];exact Hu.2) _) λgv s₂ z=>?_) (mS rfl))
 obtain⟨b,g,Cc,I,fp,rfl,G⟩:=z
 have new:∀{b},aB.heap.objs.size<=b->¬M b:=λ{b}h q=>bx (c.a.ng.lt b (c.F.mn b q)) h
 have nM:∀d∈b::Cc::fp,¬M d:=λd hd=>(br.mp hd).elim (λe=>e▸new G.bz) λhd=>(br.mp hd).elim (λe=>e▸new G.cz) (G.fM d)
 refine l8 false (c.a.kp G.kp) (c.F.kp c.a G.kp) (k₀:=1) (t:=.ptr b) rfl (.ptr b) ft λaX OH cM a3 F3=>⟨rfl,?_⟩
 have G3:=G.st.mv cM nM
 refine zk (C:=⟨X,λr r=>ae⟩) (r':=[ab (.lst l),ab (.ptr b),ab (.str (s_ "at tab size"))]) c9 agB a3 F3 rfl λ{aS Qj GN ad4}rQ a4 F4 n4 m4=>?_
 have G4:=G3.mv rQ nM
 have nM4:∀d∈b::Cc::fp,¬Qj d:=λd hd q=>(m4 d q).elim (nM d hd) λq=>bx (G3.lt d hd) q
 have exB:ex (λr r=>ae) Ht [ab (.lst l),ab (.ptr b),ab (.str (s_ "at tab size"))]=ab (.next,[ab (.lst l),ab (.ptr b),ab (.str (jc l.length))]):=by
  have et:a9 (λr r=>ae) (.cmp .gt (.prim .len (.cons (.var 0) .nil)) (.lit (.int 1))) [ab (.lst l),ab (.ptr b),ab (.str (s_ "at tab size"))]=ab (decide (1<l.length)):=af ab (decide_eq_decide.mpr fA)
  unfold jc
  by_cases hl:1<l.length
  ·rw[ah hl];exact jb (et.trans (af ab (ar hl)))
  ·rw[ai hl];exact gH (et.trans (af ab (av hl)))
 refine zk (C:=⟨X,λr r=>ae⟩) c9 agC a4 F4 exB λ{dC G9 GO P1}i9 a5 F5 n5 m5=>?_
 have G5:=G4.mv i9 nM4
 have Ra:=agH l.length
 have evX:ev (λr r=>ae) CO [ab (.lst l),ab (.ptr b),ab (.str (jc l.length))]=ab (.str (jc l.length++s_ " ")):=ah (by rw[<-sJ];exact aD Ra (by decide))
 refine c8 (qB (JO (bl (agD (c9 (k:=k)) a5 evX) λv nU k6 hv6=>?_)))
 have a6:=a5.kp k6
 have G6:=G5.mv (Mv.of (M:=λr=>False) k6) λr r=>id
 refine vO QZ.1 QZ.2 (by show 1<20;decide) rfl (vl (agE (c9 (k:=k)) a6 rfl) λov tR k7 ho=>?_)
 obtain⟨ty,rfl⟩:∃t,ov=ay.str (s_ ", ") t:=VR.c6 (P:=λv=>∃t,v=ay.str (s_ ", ") t) ho λt r=>⟨t,rfl⟩
 have a7:=a6.kp k7
 have G7:=G6.mv (Mv.of (M:=λr=>False) k7) λr r=>id
 refine Dy (sQ _ _ _) T8 Dx Ub (λr e=>nomatch e) ?_
 have hp:=jx env fj.pos (es:=[bY (de fj 0) (s_ "firsts")]) rfl
 refine xC hp (ie hp ?_)
 rw[j3 rfl]
 refine eZ (gC a7 (a7.ptr (i:=1) rfl rfl rfl) rfl rfl (gb ?_))
 have W:=vp.genexpQ (prog:=X.prog) (w:=X.w) (A:=(A.deeper env).in1.in1) a7.ra.handled b g Cc fp [I] (λr=>true) is.length (zY is) G7.aC G7.aF (λd hd=>b4.mp hd▸G7.iF) a7.ra.room G7.sF (λq=>G7.cF (q▸G7.sF)) λq=>G7.sI (b4.mp q)
 have hpn:(D1 (λr=>true) is.length 0).length<=lim:=by rw[Q1,kr,(Hm kO).1];exact nP
 refine fg (SC.joinGen W (λi s h=>h.1.typeIs) G7.at_ (λd hd=>G7.lt d hd) bk (λi v h=>h.elim λi h=>h.2.elim λx h=>h.elim λu e=>⟨_,_,e.1⟩) (λCu ll hm hi=>?_) (dS hpn))
 rw[agF hi]
 refine⟨hj1,λt' tk hz=>?_⟩
 have wu:=c.kp.size
 have w7:Kp X s tR:=by
  have w0:=(Mv.of (M:=λr=>False) (c.kp.trans G.kp)).trans cM λd h=>.inr (c.hM d h)
  exact(((w0.trans rQ λd h=>.inr (c.hM d h)).trans i9 λd h=>.inr ((m4 d h).elim (c.hM d) λq=>aD w0.size q)).kp λr=>id).trans (k6.trans k7)
 have Cv:Kp X s {Cu with toks:=tk}:=agG w7 hm hz (λd hd=>(br.mp hd).elim (λe=>e▸⟨aD wu G.cz,λo e=>G7.cC.elim λo' q=>Option.some.inj (q.1.symm.trans e)▸q.2⟩) λhd=>b4.mp hd▸⟨aD wu G.iz,λo e=>G7.cI.elim λo' q=>Option.some.inj (q.1.symm.trans e)▸q.2⟩) (aD (QS c.kp.gens) G.gz)
 obtain⟨tv,rfl,lv⟩:=hv6.str
 refine mo (Bs (o:=.add) (x:=.str (jc l.length++s_ " ")) (y:=.str (fm (s_ ", ") (iN is))) (z:=.str (jc l.length++s_ " "++fm (s_ ", ") (iN is))) (ah (aD (eA Ra Ac) (by decide))) (.of (.str _ _ lv)) (.of (.str _ _ (aD Ac (by decide)))) (ng.kp Cv)) λw aqs z=>⟨Cv.trans z.1.1,z.1.2⟩
def agP:dq X (k+1) 87 Q0:=λA N s ts vals t E ra wd ng hv e=>by
 refine tJ e λx q e=>eW e λl ql e=>aO e λis kO e=>ifs e λhg et=>?_
 subst q;subst ql;subst et
 refine agI kO (λi hi=>aq (bA.mp hg.1 i hi)) hg.2.1 hg.2.2 ?_ ra wd ng hv
 exact aL.oQ (P:=λz=>l.length<=lim) hv λv h=>VR.eQ (P:=λz=>l.length<=lim) h λz z z z hz z=>hz
end
noncomputable def aJ(f:Nat):List T->Option T:=([(2,wJ),(3,ml),(6,Qx),(7,zW),(8,Pe),(14,Q0),(15,Qb),(17,Gv),(28,OR)].lookup f).getD λz=>ae
def agQ:[2,3,6,7,8,14,15,17].map (λf=>(nI f).bind d4)=[108,115,137,186,198,87,76,193].map λa=>ab (.ref a):=by kernel_rfl
def agR:(232,OB,1)∈bt:=dZ (i:=25) (by kernel_rfl)
noncomputable def Ad:Nat:=86
section
variable{X:Kx}
def rZ{f a:Nat}{v:ay}(i:Nat)(hf:[2,3,6,7,8,14,15,17][i]?=ab f)(ha:[108,115,137,186,198,87,76,193][i]?=ab a)(g:(nI f).bind d4=ab v)(h:oW X 68 (.ref a) (aJ f)):oW X 68 v (aJ f):=by
 have e:(List.map (λf=>(nI f).bind d4) [2,3,6,7,8,14,15,17])[i]?=(List.map (λa=>ab (ay.ref a)) [108,115,137,186,198,87,76,193])[i]?:=af (·[i]?) agQ
 rw[gL,gL,hf,ha]at e
 cases (Option.some.inj e).symm.trans g
 exact h
def Rb:FW X aJ 68 where
 call:=λf x v hf e hv=>by
  have g:(nI f).bind d4=ab v:=by rw[e];exact hv
  refine(br.mp hf).elim (λq=>q▸rZ 0 rfl rfl (q▸g) (dq.call (adT (k:=0)) (iM PU).at_)) λhf=>?_
  refine(br.mp hf).elim (λq=>q▸rZ 1 rfl rfl (q▸g) (dq.call (aem (k:=0)) (iM P7).at_)) λhf=>?_
  refine(br.mp hf).elim (λq=>q▸rZ 2 rfl rfl (q▸g) (dq.call (afq (k:=67)) ⟨_,(Qw _).1,rfl⟩)) λhf=>?_
  refine(br.mp hf).elim (λq=>q▸rZ 3 rfl rfl (q▸g) (dq.call (agh (k:=65)) (iM QH).at_)) λhf=>?_
  refine(br.mp hf).elim (λq=>q▸rZ 4 rfl rfl (q▸g) (dq.call (ac3 (k:=65)) (iM Pa).at_)) λhf=>?_
  refine(br.mp hf).elim (λq=>q▸rZ 5 rfl rfl (q▸g) (dq.call (agP (k:=67)) (iM QY).at_)) λhf=>?_
  refine(br.mp hf).elim (λq=>q▸rZ 6 rfl rfl (q▸g) (dq.acn (aeG (k:=66)) (O6 _).2)) λhf=>?_
  refine(br.mp hf).elim (λq=>q▸λA N s pos trees ts t E ra wd ng hp et=>aN et) λhf=>?_
  refine(br.mp hf).elim (λq=>q▸rZ 7 rfl rfl (q▸g) (O8 (k:=67))) λhf=>?_
  rw[b4.mp hf]at e
  exact aN e
 Oo:=qY.mono (ab3 (C:=⟨X,λz z=>ae⟩) (k:=0) c9) (by decide)
 FX:=Gq
 cat:=Gu
def agS:∀n,Ok ⟨X,Fn aJ n⟩ (68+n):=by
 intro n
 induction n with
 |zero=>exact aa5 Rb
 |succ n ih=>exact step Rb (aD (bX 68 n) (gy _)) ih
def agT:dq X (68+60+1) 232 (kP (Fn aJ 60) zj Ad 1):=by
 obtain⟨o,hc⟩:=Db.get _ abq
 exact NR (C:=⟨X,Fn aJ 60⟩) (agS 60) zj Ad (iM agR) hc
end
noncomputable def Rf:Data->Option (Array jj)
 |.dict es _=>ab es
 |_=>ae
def agU{d:Data}{es:Array jj}(h:Rf d=ab es):∃n,d=.dict es n:=by cases d with|dict iJ n=>cases h;exact⟨n,rfl⟩|_=>exact aN h
noncomputable def Ae(P:dY)(x:Str):Option (Option ay):=((KK P).lookup gJ).bind λo=>(Rf o.data).map λes=>nsFind es x
def agV(P:dY):globT.map (λp=>Ae P p.1)=globT.map λp=>ab (ab p.2):=by kernel_rfl
def agW(P:dY):Bi.map (λp=>(Ae P p.1,bootBuiltins p.1))=Bi.map λp=>(ab ae,ab p.2):=by kernel_rfl
def agX:Bi.all (λp=>p.1 !=("__name__":Str))=true:=by kernel_rfl
def Rg(P:dY):Ae P (s_ "law")=ab (ab (.ref 232))/\Ae P (s_ "format_witnesses")=ab (ab (.ref 87)):=⟨by kernel_rfl,by kernel_rfl⟩
def mg_of{P:dY}{h:Heap}{mg:Str->Option ay}(K:(KK P).In h)(g:h.Ns gJ mg){x:Str}{r:Option ay}(e:Ae P x=ab r):mg x=r:=aO e λo ho e=>map_some e λes hd e=>by
 obtain⟨n,hd⟩:=agU hd
 obtain⟨o',iJ,XH,e1,e2,_,e4⟩:=g
 cases (K _ _ ho).symm.trans e1
 cases hd.symm.trans e2
 rw[<-e4];exact e
def agY{P:dY}{h:Heap}{mg mb:Str->Option ay}(K:(KK P).In h)(g:h.Ns gJ mg)(hb:∀x:Str,x≠"__name__"->mb x=bootBuiltins x)(x:Str)(v:ay)(hv:d4 x=ab v):mg x=ab v∨(mg x=ae/\mb x=ab v):=by
 refine(u7.mp (lookup_mem hv)).imp (λhx=>mg_of K g (jW.mp (agV P) _ hx)) λhx=>?_
 have e:=jW.mp (agW P) _ hx
 exact⟨mg_of K g (af (·.1) e),(hb x (bne_iff_ne.mp (bA.mp agX _ hx))).trans (af (·.2) e)⟩
def Hv(P:dY):(aV.all (λa=>((KK P).lookup a).isNone)=true/\iD.all (λe=>codeHdIn (KK P) e.1 e.2.1)=true)/\(KK P).lookup 87=ab (ob P 87)/\(ob P 87).data=.func (bC 87):=⟨⟨by kernel_rfl,by kernel_rfl⟩,by kernel_rfl,by kernel_rfl⟩
def agZ{X:Kx}{N:Addr->Prop}{h:Heap}{P:dY}{l:List Int}:∀{vs:List ay},WellAll P h vs (l.map Vr)->aL X N h (l.map T.int) vs:=by
 induction l with
 |nil=>intro vs x;cases x;exact .nil
 |cons i l ih=>
  intro vs x
  obtain⟨v,vs,rfl,a,b⟩:=wellAll_cons_inv x
  exact .cons (by cases a;exact .int _ _) (ih b)
def Rh:Prop:=∀l:List Int,l.length<=63->kP (Fn aJ 60) zj Ad 1 [.lst (l.map .int)]=ab (.bool true)
def cw{b:Addr}(h:b∈aV){P:Addr->Prop}(k:∀e∈iD,P e.2.1):P b:=by
 obtain⟨t,ht,q⟩:=xi.mp (bA.mp KX b h)
 exact ao q▸k t ht
def Ri{h:Heap}{P:dY}(K:(KK P).In h):∀e∈iD,AE h e.1 e.2.1:=λe he=>codeHd_of_K K (bA.mp (Hv P).1.2 e he)
section
variable{vw:gK}{w:gZ}{aB:az}{mg mb:Str->Option ay}{prog:gK}{Hw:ExcName->Option ay}{loose:List Str}
def ag0(Hx:(recsOf vw).any (λd=>d.name==s_ "format_witnesses")=true)(TP:Top vw loose Hw mg mb aB.heap)(K:(KK w.params).In aB.heap)(ht:∀P∈([188,110,103]:List Addr),aB.heap.get? P=ab (oD #[])):∀b∈aV,aB.heap.get? b=ab (oD #[]):=by
 have h82:aB.heap.get? 82=ab (oD #[]):=by
  obtain⟨d,hd,hn⟩:=xi.mp Hx
  obtain⟨fa,o,fd,c,P,e1,e2,e3,e4,e5,e6⟩:=TP.tab d hd
  rw[ao hn]at e1
  cases (mg_of K TP.g (Rg w.params).2).symm.trans e1
  cases (K _ _ (Hv w.params).2.1).symm.trans e2
  rw[(Hv w.params).2.2]at e3
  cases e3
  rw[Hu.1]at e4
  cases e4
  obtain⟨⟨o,vs,g1,g2,g3,g4⟩,g5⟩:=e6
  obtain⟨o',j2,_,_,_,_,_,_,_,f1,f2,f3,f4,_⟩:=Ri K (86,82,vz) QT
  cases g1.symm.trans f1
  cases g3.symm.trans f3
  cases g4.symm.trans f4
  exact g5
 exactλb hb=>(br.mp hb).elim (λe=>ht b (e▸bk)) λhb=>(br.mp hb).elim (λe=>ht b (e▸bS _ bk)) λhb=>(br.mp hb).elim (λe=>ht b (e▸bS _ (bS _ bk))) λhb=>b4.mp hb▸h82
def ag3(TP:Top vw loose Hw mg mb aB.heap):KV mg aB.heap:=by
 obtain⟨bm,ob,e1,e2,e3,e4,e5,e6⟩:=TP.bmain
 refine⟨bm,ob,e1,e2,λq=>?_,e3,e4,e5,e6⟩
 subst q
 obtain⟨o,_,_,g1,g2,_⟩:=TP.g
 cases e3.symm.trans g1
 cases e6.symm.trans g2
def ag4(l:List Int):ofPy (.list (l.map .int))=.list (l.map Vr):=by
 rw[ofPy]
 refine af WData.list ?_
 induction l with
 |nil=>rfl
 |cons i l ih=>exact af (Vr i::·) ih
def ag5{h:Heap}(hd:∀e∈iD,AE aB.heap e.1 e.2.1)(kQ:∀b∈aV,aB.heap.get? b=ab (oD #[]))(t:kz mg h)(b:Addr)(hb:b∈aV):asItWas aB.heap h b (oD #[])/\∃o',h.get? b=ab o':=by
 refine cw (P:=λb=>asItWas aB.heap h b (oD #[])/\∃o',h.get? b=ab o') hb λe he=>?_
 obtain⟨_,ps,g1,_⟩:=t.2 e he
 obtain⟨o',j2,_,_,_,_,_,_,_,f1,f2,f3,f4,_⟩:=hd e he
 refine⟨.inr (.inl ⟨⟨_,o',j2,f1,f2,f3,f4⟩,rfl,#[],ps,rfl,?_⟩),_,g1⟩
 rw[g1]
 show ab (oD ps)=ab (oD (#[]++ps))
 rw[Array.empty_append]
def ag6(PL:Rh)(Hx:(recsOf vw).any (λd=>d.name==s_ "format_witnesses")=true)(TP:Top vw loose Hw mg mb aB.heap)(K:(KK w.params).In aB.heap)(ht:∀P∈([188,110,103]:List Addr),aB.heap.get? P=ab (oD #[]))
  (hg:aB.gens= #[]) {l:List Int} (hl:l.length<=63) {a:Addr} (hw:Well w.params aB.heap (.ref a) (ofPy (.list (l.map .int)))) {Q:ay->az->Prop} {E:ay->az->Prop}
  (hQ:∀s',OldK aB.heap s'.heap->s'.os=aB.os->AllBare s'.gens->Q (.bool true) s'):aA (model prog w) callerA (call (.ref 232) [.ref a]) Q E aB:=by
 have kQ:=ag0 Hx TP K ht
 have hd:=Ri K
 have tabs:kz mg aB.heap:=⟨ag3 TP,λe he=>⟨hd e he,#[],kQ _ (jq.mp (bA.mp KY e he)),(by first|trivial|exact .nil|(unfold Dg;trivial)),λpos cv e=>aN e⟩⟩
 have wd:Wd ⟨prog,w,mg,mb⟩ aB.heap:=⟨K,TP.g,TP.b,TP.nolimit,TP.nodigits,tabs,agY K TP.g TP.builtins⟩
 have ng:NG ⟨prog,w,mg,mb⟩ (λb=>b∈aV) aB.heap:=⟨λb hb=>hb,λb hb=>bw (kQ b hb),λb hb q=>(q hb).elim⟩
 rw[ag4]at hw
 obtain⟨vs,nS,j7⟩:∃vs,aB.heap.get? a=ab {cls:=.type "list",data:=.seq (oE vs)}/\aL ⟨prog,w,mg,mb⟩ (λb=>b∈aV) aB.heap (l.map T.int) vs:=by
  cases hw with
  |list h1 h2=>exact⟨_,h1,agZ h2⟩
 have hv:aL ⟨prog,w,mg,mb⟩ (λb=>b∈aV) aB.heap [.lst (l.map .int)] [.ref a]:=.one (.lst ⟨_,nS⟩ (λq=>by cases (kQ a q).symm.trans nS) (by rw[bK];exact aD hl (by decide)) j7)
 have ra:RA (68+60+1) callerA:=⟨rfl,rfl,by decide,by decide⟩
 refine mo (agT (X:=⟨prog,w,mg,mb⟩) E ra wd ng hv (PL l hl)) λv s' z=>?_
 obtain⟨kp,vr⟩:=z
 have vr:v=.bool true:=vr.inv
 subst vr
 have ag7:=kp.tabs tabs
 have key:=ag5 hd kQ ag7
 refine hQ s' ⟨λb o e=>?_,λb o e=>?_⟩ kp.os (kp.gens.1 (by rw[hg];exactλy hy=>aj hy (Array.not_mem_empty y)))
 ·by_cases hb:b∈aV
  ·cases e.symm.trans (kQ b hb);exact(key b hb).1
  ·exact .inl (kp.old b o hb e)
 ·by_cases hb:b∈aV
  ·exact(key b hb).2
  ·exact⟨o,kp.old b o hb e⟩
end
end Mine
namespace Mine.Z
section
variable{F:Nat->List T->Option T}{r r':aE}{a b c:Ex}{x y z u:T}{l:List T}{k:Nat}{fz:List Nat}{σ:S}
def dH(h:ev F a r=ab x):ex F (.asg k a) r=ab (.next,put r k x):=af (·.bind λt=>b8 (put r k t)) h
def Af(h:ev F a r=ab x)(ho:x.obj=true):ex F (.own k a) r=ab (.next,put r k x):=(af (·.bind λt=>if t.obj=true then b8 (put r k t)else ae) h).trans (ah ho)
def nc{ks:List Nat}(h:ev F a r=ab (.tup l))(hp:putAll r ks l=ab r'):ex F (.fC ks a) r=ab (.next,r'):=(af (·.bind (bH λl=>(putAll r ks l).bind b8)) h).trans (af (·.bind b8) hp)
def nh{ks:List Nat}{es:List (Option Ex)}(h:pI F r es=ab l)(hl:l.length<=lim)(hp:putAll r ks l=ab r'):ex F (.fP ks es) r=ab (.next,r'):=(af (·.bind λl=>if l.length<=lim then(putAll r ks l).bind b8 else ae) h).trans ((ah hl).trans (af (·.bind b8) hp))
def pb{o:iG}(hk:get r k=ab x)(h:ev F a r=ab y)(ho:oT o x y=ab z):ex F (.aug k o a) r=ab (.next,put r k z):=by
 show((get r k).bind λx=>(ev F a r).bind λy=>(oT o x y).bind λz=>b8 (put r k z))=_
 rw[hk,h]
 exact af (·.bind λz=>b8 (put r k z)) ho
def r0(hk:get r k=ab (.lst l))(h:ev F a r=ab y)(hz:l.length+1<=lim):ex F (.app k a) r=ab (.next,put r k (.lst (l++[y]))):=by
 show((get r k).bind (cH λl=>(ev F a r).bind λy=>if l.length+1<=lim then b8 (put r k (.lst (l++[y])))else ae))=_
 rw[hk,h]
 exact ah hz
def ag8{m:List T}(hk:get r k=ab (.lst l))(h:ev F a r=ab (.lst m))(hz:l.length+m.length<=lim):ex F (.ext k a) r=ab (.next,put r k (.lst (l++m))):=by
 show((get r k).bind (cH λl=>(ev F a r).bind (cH λm=>if l.length+m.length<=lim then b8 (put r k (.lst (l++m)))else ae)))=_
 rw[hk,h]
 exact ah hz
def r5(h:ev F a r=ab x):ex F (.ret fz a) r=ab (.ret x,r):=af (·.bind λt=>ab (Fl.ret t,r)) h
def sq{aB s₂:S}{p:Option (Fl×aE)}(h:ex F aB r=ab (.next,r'))(q:ex F s₂ r'=p):ex F (.seq aB s₂) r=p:=(wK h).trans q
def sr{aB s₂:S}(h:ex F aB r=ab (.ret x,r')):ex F (.seq aB s₂) r=ab (.ret x,r'):=af (·.bind (mO (ex F s₂))) h
def jL{v:Bool}(h:ev F a r=ab x)(hp:x.plain=true)(hv:x.truth=v):a9 F a r=ab v:=(af (·.bind λx=>if x.plain=true then ab x.truth else ae) h).trans ((ah hp).trans (af ab hv))
def Hy{n m:Nat}{ts:List T}(hl:ts.length=m)(h:ex F σ (start n ts)=ab (.ret x,r')):kP F σ n m ts=ab x:=(ah hl).trans (af (·.bind cn) h)
def jd{L f:Nat}{ts:List T}{w:Row}(h:rowOf f=ab w)(hc:(w.c==9||zf w.c ts)=true)(q:kP (Fn aJ L) w.σ w.n w.m ts=ab x):Fn aJ (L+1) f ts=ab x:=(B4 h).trans ((ah hc).trans q)
def aR{o:iG}(ha:ev F a r=ab x)(hb:ev F b r=ab y)(ho:a8 o x y=ab z):ev F (.bin o a b) r=ab z:=by
 show((ev F a r).bind λx=>(ev F b r).bind λy=>a8 o x y)=_
 rw[ha,hb];exact ho
def fN{o:qL}{v:Bool}(ha:ev F a r=ab x)(hb:ev F b r=ab y)(ho:qM o x y=ab v):ev F (.cmp o a b) r=ab (.bool v):=by
 show((ev F a r).bind λx=>(ev F b r).bind λy=>(qM o x y).map T.bool)=_
 rw[ha,hb];exact af (·.map T.bool) ho
def aI(ha:ev F a r=ab x)(hb:ev F b r=ab (.tup l)):ev F (.cons a b) r=ab (.tup (x::l)):=by
 show((ev F a r).bind λx=>(ev F b r).bind (bH λl=>ab (T.tup (x::l))))=_
 rw[ha,hb];rfl
def je(ha:ev F a r=ab (.tup l))(h:l.length<=lim):ev F (.tup a) r=ab (.tup l):=(af (·.bind (bH λl=>if l.length<=lim then ab (T.tup l)else ae)) ha).trans (ah h)
def kZ(ha:ev F a r=ab (.tup l))(h:l.length<=lim):ev F (.lst a) r=ab (.lst l):=(af (·.bind (bH λl=>if l.length<=lim then ab (T.lst l)else ae)) ha).trans (ah h)
def c5{f:Nat}(ha:ev F a r=ab (.tup l))(hf:F f l=ab z):ev F (.call f a) r=ab z:=(af (·.bind (bH (F f))) ha).trans hf
def fX{f:Nat}(ho:ev F b r=ab y)(ha:ev F a r=ab (.tup l))(hf:F f (y::l)=ab z):ev F (.bE f b a) r=ab z:=by
 show((ev F b r).bind λx=>(ev F a r).bind (bH λl=>F f (x::l)))=_
 rw[ho,ha];exact hf
def iO{p:Prim}(ha:ev F a r=ab (.tup l))(hf:gO p l=ab z):ev F (.prim p a) r=ab z:=(af (·.bind (bH (gO p))) ha).trans hf
def pe{p:SM}(ho:ev F b r=ab y)(ha:ev F a r=ab (.tup l))(hf:iV p y l=ab z):ev F (.sm p b a) r=ab z:=by
 show((ev F b r).bind λx=>(ev F a r).bind (bH (iV p x)))=_
 rw[ho,ha];exact hf
def gq(ha:ev F a r=ab x)(hb:ev F b r=ab y)(ho:kB x y=ab z):ev F (.idx a b) r=ab z:=by
 show((ev F a r).bind λx=>(ev F b r).bind λy=>kB x y)=_
 rw[ha,hb];exact ho
def Ag{rv:Bool}(ha:ev F a r=ab x)(hb:ev F b r=ab y)(hc:ev F c r=ab u)(ho:mJ rv x y u=ab z):ev F (.cY rv a b c) r=ab z:=by
 show((ev F a r).bind λx=>(ev F b r).bind λy=>(ev F c r).bind λz=>mJ rv x y z)=_
 rw[ha,hb,hc];exact ho
def wR{w:Bool}(hc:ev F c r=ab u)(hp:u.plain=true)(hw:u.truth=w)(h:ev F (if w=true then a else b) r=ab z):ev F (.ite c a b) r=ab z:=by
 show((ev F c r).bind λx=>if x.plain=true then(if x.truth=true then ev F a r else ev F b r)else ae)=_
 rw[hc]
 refine(ah hp).trans ?_
 rw[hw]
 cases w with
 |true=>exact h
 |false=>exact h
def Rj{cnd:aE->Option Bool}{f:aE->Option (Fl×aE)}{n:Nat}{p:Option (Fl×aE)}(h1:cnd r=ab true)(h2:f r=ab (.next,r'))(h3:nO cnd f n r'=p):nO cnd f (n+1) r=p:=by
 show((cnd r).bind λb=>if b=true then(f r).bind (nN (nO cnd f n))else ab (.next,r))=_
 rw[h1,h2];exact h3
def Rk{cnd:aE->Option Bool}{f:aE->Option (Fl×aE)}{n:Nat}(h1:cnd r=ab false):nO cnd f (n+1) r=ab (.next,r):=af (·.bind λb=>if b=true then(f r).bind (nN (nO cnd f n))else ab (.next,r)) h1
def uL{f:T->aE->Option (Fl×aE)}{l:List T}{p:Option (Fl×aE)}(h:f x r=ab (.next,r'))(q:b6 f l r'=p):b6 f (x::l) r=p:=(af (·.bind (nN (b6 f l))) h).trans q
end
section
variable{a b n h:Nat}
def r7(h:b<=a):a8 .sub (iT a) (iT b)=ab (iT (a - b)):=af (λi=>ab (T.int i)) (xW h).symm
def uM(h:ba (a:Int)+n<=1000000):a8 .shl (iT a) (iT n)=ab (iT (a*2^n)):=by
 show(if(0:Int)<=(n:Int)/\(ba (a:Int):Int)+(n:Int)<=1000000 then ab (T.int ((a:Int)*(2^(n:Int).toNat)))else ae)=_
 rw[ah ⟨cx _,dh.mpr h⟩,GV,<-Dk]
 rfl
def Hz(h:ba (a:Int)+ba (b:Int)<=1000000):a8 .mul (iT a) (iT b)=ab (iT (a*b)):=(ah (dh.mpr h)).trans rfl
def Rl(a b:Nat):Di (a:Int) (b:Int)=((a&&&b:Nat):Int):=by
 unfold Di
 rw[ar (cx _),ar (cx _)]
 rfl
def Ah:a8 .band (iT a) (iT (2^h - 1))=ab (iT (a%2^h)):=af (λi=>ab (T.int i)) ((Rl a _).trans (af (λn:Nat=>(n:Int)) (Nat.and_two_pow_sub_one_eq_mod a h)))
def Rm(hb:b<2^h):a8 .bor (iT (a*2^h)) (iT b)=ab (iT (a*2^h+b)):=by
 refine af (λi=>ab (T.int i)) ?_
 rw[aop,Rl]
 have e:a*2^h&&&b=0:=by
  refine aom λi=>?_
  rw[aon,Nat.zero_testBit,<-aoq,aoo]
  by_cases q:i≥h
  ·rw[Nat.testBit_lt_two_pow (bG hb (vn (by decide) q)),UN]
  ·rw[av q,J4,J4]
 rw[e]
 exact JZ _
end
def D2(L B:Nat):Prop:=∀a b n:Nat,1<=n->n<=B->n<=20000->2^(n - 1)<=b->b<2^n->a<b*2^n->Fn aJ L 0 [iT a,iT b,iT n]=ab (.tup [iT (a/b),iT (a%b)])
def D3(L B:Nat):Prop:=∀dt a3 b b1 b2 n:Nat,1<=n->n<=B->n<=20000->2^(n - 1)<=b1->b1<2^n->b2<2^n->a3<2^n->b=b1*2^n+b2->dt<b->
 Fn aJ L 1 [iT dt,iT a3,iT b,iT b1,iT b2,iT n]=ab (.tup [iT ((dt*2^n+a3)/b),iT ((dt*2^n+a3)%b)])
noncomputable def rI(A b i:Nat):T:=.int ((A%b:Nat) - (i:Int)*b)
noncomputable def w3(F:Nat->List T->Option T):aE->Option (Fl×aE):=ex F (.seq (.aug 6 .sub (.lit (.int 1))) (.seq (.aug 7 .add (.var 2)) .skip))
def wh3{F:Nat->List T->Option T}{x0 x1 x3 x4 x5:Option T}{A b Q:Nat}(hb:0<b)(m:Nat):∀i,nO (a9 F (.cmp .lt (.var 7) (.lit (.int 0)))) (w3 F) (m+1+i) [x0,x1,ab (iT b),x3,x4,x5,ab (iT (Q+i)),ab (rI A b i)]=ab (.next,[x0,x1,ab (iT b),x3,x4,x5,ab (iT Q),ab (iT (A%b))]):=by
 intro i
 induction i with
 |zero=>
  have e:rI A b 0=iT (A%b):=af T.int (by show((A%b:Nat):Int) - 0*b=_;rw[Int.zero_mul,JZ])
  rw[e]
  refine Rk ?_
  show ab (decide (((A%b:Nat):Int)<0))=ab false
  exact af ab (av (lr.mpr (cx _)))
 |succ i ih=>
  have e:((A%b:Nat):Int) - ((i+1:Nat):Int)*b+b=(A%b:Nat) - (i:Int)*b:=by rw[tC,ao6,Vs,nF,<-Vu,Int.sub_add_cancel]
  refine Rj ?_ (r':=[x0,x1,ab (iT b),x3,x4,x5,ab (iT (Q+i)),ab (rI A b i)]) ?_ ih
  ·show ab (decide (((A%b:Nat):Int) - ((i+1:Nat):Int)*b<0))=ab true
   refine af ab (ar ?_)
   have h1:=fA.mpr (iU A hb)
   have h2:(0:Int)<=(i:Int)*b:=Int.mul_nonneg (cx _) (cx _)
   rw[tC,ao6,Vs,nF]
   exact Int.sub_neg_of_lt (AI h1 (Int.le_add_of_nonneg_left h2))
  ·show ab (Fl.next,[x0,x1,ab (iT b),x3,x4,x5,ab (T.int (((Q+(i+1):Nat):Int) - 1)),ab (T.int (((A%b:Nat):Int) - ((i+1:Nat):Int)*b+b))])=_
   rw[e,show((Q+(i+1):Nat):Int) - 1=((Q+i:Nat):Int)from qF (a:=((Q+i:Nat):Int)) (b:=1)]
   rfl
abbrev Q3(A b b2 n ρ a3 q:Nat):Prop:=q<2^n/\ρ<2^(n+1)/\A/b<=q/\q - A/b<=2/\((ρ*2^n+a3:Nat):Int) - ((q*b2:Nat):Int)=(A%b:Nat) - ((q - A/b:Nat):Int)*b
section
variable{b2 a3:Nat}(h:Q3 A b b2 n ρ a3 q)
def Q3.qn:=h.1
def Q3.ρn:=h.2.1
def Q3.le:=h.2.2.1
def Q3.two:=h.2.2.2.1
def Q3.eq:=h.2.2.2.2
end
def q3l{X Y s d r A:Int}(e1:s+X=A+Y)(e2:d+r=A):X - Y=r - (s - d):=by
 subst e2
 rw[show X=d+r+Y - s from(Int.sub_eq_iff_eq_add.mpr (e1.symm.trans (vk _ _))).symm,Vu,vk s Y,<-Vu,qF,vk d,Int.add_sub_assoc,KR (a:=r),ao7]
def q3{dt a3 b b1 b2 n q ρ:Nat}(uN:2^(n - 1)<=b1)(fU:1<=n)(ni:b2<2^n)(hb:b=b1*2^n+b2)(hq:q*b1+ρ=dt)(ro:ρ*2^n+a3<q*b2+b)(Rn:q<2^n)(ahc:ρ<2^(n+1)):Q3 (dt*2^n+a3) b b2 n ρ a3 q:=by
 have hp:=fB n
 have o8:0<b:=by
  rw[hb];exact Va (Vv (bG (fB _) uN) hp) _
 generalize hA:dt*2^n+a3=A
 have HA:q*b+(ρ*2^n+a3)=A+q*b2:=by
  rw[<-hA,<-hq,hb,KA,D4,xX]
  exact(ku _ _ _).trans (by rw[g6 _ (ρ*2^n)])
 have rJ:A/b<=q:=oJ ((qI o8).mpr (by rw[nB];exact ao8 (n:=q*b2) (by rw[<-HA,g6,eE b];exact ya ro _)))
 have ahd:q*b2<=2*b:=by
  have h1:q*b2<=2^n*2^n:=yb (cE Rn) (cE ni)
  have h2:2^(n - 1)*2^n<=b1*2^n:=nG _ uN
  have h3:2^n=2*2^(n - 1):=by rw[<-Nat.pow_succ',ao9,pD fU]
  have h4:2^n*2^n=2*(2^(n - 1)*2^n):=by rw[<-xX,<-h3]
  rw[hb]
  exact aD h1 (h4.symm▸ko 2 (aD h2 (bX _ _)))
 have Hh:q<=A/b+2:=by
  have h2:=Nat.lt_div_mul_add (a:=A) o8
  refine oJ (Nat.lt_of_mul_lt_mul_right (a:=b) ?_)
  rw[nB,D4,ku]
  exact bI (aD (HA▸bX _ _) (f6 ahd A)) (xV h2 _)
 refine⟨Rn,ahc,rJ,apa (by rw[eE];exact Hh),?_⟩
 have e1:((q*b+(ρ*2^n+a3):Nat):Int)=((A+q*b2:Nat):Int):=af (λn:Nat=>(n:Int)) HA
 have e2:((b*(A/b)+A%b:Nat):Int)=(A:Int):=af (λn:Nat=>(n:Int)) (vj A b)
 rw[tC,tC A,Dk q b]at e1
 rw[tC,Dk,U3]at e2
 rw[xW rJ,apb]
 exact q3l e1 e2
def ahe:rowOf 1=ab ⟨101,1,9,q1,w1,2,6⟩:=rfl
def Ro:rowOf 0=ab ⟨94,0,9,q0,w0,8,3⟩:=rfl
noncomputable def ahf:S:=.bN (.cmp .eq (.bin .shr (.var 0) (.var 5)) (.var 3)) (.seq (.fP [6,7] [ab (.bin .sub (.bin .shl (.lit (.int 1)) (.var 5)) (.lit (.int 1))),ab (.bin .add (.bin .sub (.var 0) (.bin .shl (.var 3) (.var 5))) (.var 3))]) .skip) (.seq (.fC [6,7] (.call 0 (.cons (.var 0) (.cons (.var 3) (.cons (.var 5) .nil))))) .skip)
def bad{a b c:Nat}(h:b<=c)(hc:c+a<=1000000):b+a<=1000000:=aD (cR h a) hc
def Rp{L dt a3 b b1 b2 n q ρ A:Nat}(hn:n<=20000)(o8:0<b)(ni:b2<2^n)(wU:a3<2^n)(H:Q3 A b b2 n ρ a3 q)(h:ex (Fn aJ L) ahf [ab (iT dt),ab (iT a3),ab (iT b),ab (iT b1),ab (iT b2),ab (iT n),ae,ae]=ab (.next,[ab (iT dt),ab (iT a3),ab (iT b),ab (iT b1),ab (iT b2),ab (iT n),ab (iT q),ab (iT ρ)])):
  kP (Fn aJ L) q1 2 6 [iT dt,iT a3,iT b,iT b1,iT b2,iT n]=ab (.tup [iT (A/b),iT (A%b)]):=by
 have bn:=bits_le H.qn
 have b2n:=bits_le ni
 have e:a8 .sub (iT (ρ*2^n+a3)) (iT (q*b2))=ab (rI A b (q - A/b)):=af (λi=>ab (T.int i)) H.eq
 have s1:ev (Fn aJ L) (.bin .sub (.bin .bor (.bin .shl (.var 7) (.var 5)) (.var 1)) (.bin .mul (.var 6) (.var 4))) [ab (iT dt),ab (iT a3),ab (iT b),ab (iT b1),ab (iT b2),ab (iT n),ab (iT q),ab (iT ρ)]=ab (rI A b (q - A/b)):=
  aR (aR (aR rfl rfl (uM (bad (bits_le H.ρn) (aD (eA (cX hn) hn) (by decide))))) rfl (Rm wU)) (aR rfl rfl (Hz (aD (eA (aD bn hn) (aD b2n hn)) (by decide)))) e
 have s2:=wh3 (F:=Fn aJ L) (x0:=ab (iT dt)) (x1:=ab (iT a3)) (x3:=ab (iT b1)) (x4:=ab (iT b2)) (x5:=ab (iT n)) (A:=A) (Q:=A/b) o8 (99999 - (q - A/b)) (q - A/b)
 rw[vh H.le,ku,pD (aD H.two (by decide))]at s2
 exact Hy rfl (sq h (sq (dH s1) (sq s2 (sr (r5 rfl)))))
def ahh{X P Y a B c:Nat}(h4:X+P<=Y)(h:a<P)(h5:c<=Y):X+B+a<Y - c+(B+c):=by
 rw[eE B c,<-g6,pD h5,ku]
 exact xV (bG (ya h X) h4) B
def HB{L B:Nat}(h:D2 L B):D3 (L+1) B:=by
 intro dt a3 b b1 b2 n fU Ai hn uN CP ni wU hb ha
 have hp:=fB n
 have HC:=bG (fB _) uN
 have o8:0<b:=by rw[hb];exact Va (Vv HC hp) _
 have dp:dt<(b1+1)*2^n:=by rw[nB];exact qg ha (hb▸ya ni _)
 have hdiv:dt/2^n<=b1:=oJ ((qI hp).mpr dp)
 have Rq:a9 (Fn aJ L) (.cmp .eq (.bin .shr (.var 0) (.var 5)) (.var 3)) [ab (iT dt),ab (iT a3),ab (iT b),ab (iT b1),ab (iT b2),ab (iT n),ae,ae]=ab (decide (dt/2^n=b1)):=
  jL (fN (v:=decide (dt/2^n=b1)) (aR rfl rfl rV) rfl (af ab (xr.mpr (aw.trans (Vw ⟨λe=>Int.ofNat.inj e,λe=>af (λn:Nat=>(n:Int)) e⟩ decide_eq_true_iff.symm))))) rfl rfl
 refine jd ahe rfl ?_
 by_cases he:dt/2^n=b1
 ·have h1:b1*2^n<=dt:=he▸Nat.div_mul_le_self _ _
  obtain⟨x,hx⟩:=Nat.exists_eq_add_of_le h1
  have zB:x<2^n:=apc (n:=b1*2^n) (by rw[<-hx,<-nB];exact dp)
  have hxb:x<b2:=apc (n:=b1*2^n) (by rw[<-hx,<-hb];exact ha)
  have ex1:dt - b1*2^n=x:=by rw[hx,apd]
  have bb:ba (b1:Int)+n<=1000000:=bad (bits_le CP) (aD (eA hn hn) (by decide))
  refine Rp (q:=2^n - 1) (ρ:=x+b1) hn o8 ni wU (q3 uN fU ni hb ?_ ?_ (qp hp (by decide)) ?_) ((jb (Rq.trans (af ab (ar he)))).trans (sq (nh (l:=[iT (2^n - 1),iT (x+b1)]) ?_ (by show 2<=lim;decide) rfl) rfl))
  ·rw[ape,Bc,g8 (2^n),hx,Nat.add_left_comm,pD (Bb _ hp),eE]
  ·rw[D4,ape,Bc,hb]
   have h4:(x+1)*2^n<=b2*2^n:=nG _ hxb
   have h5:b2<=2^n*b2:=Vc _ hp
   rw[nB,g8 b2]at h4
   exact ahh h4 wU h5
  ·rw[Vx,Vy];exact apf zB CP
  ·show((ev (Fn aJ L) _ _).bind λt=>((ev (Fn aJ L) _ _).bind λu=>ab [u]).map (t::·))=_
   rw[aR (z:=iT (2^n - 1)) (aR (x:=iT 1) rfl rfl (uM (aD (f6 hn _) (show 1+20000<=1000000 by decide)))) (y:=iT 1) rfl (by rw[Bc];exact r7 hp),aR (z:=iT (x+b1)) (aR rfl (aR rfl rfl (uM bb)) (r7 h1)) rfl (by rw[ex1];rfl)]
   rfl
 ·have vW:dt<b1*2^n:=(qI hp).mp (aot hdiv he)
  have hr:=iU dt HC
  refine Rp (q:=dt/b1) (ρ:=dt%b1) hn o8 ni wU (q3 uN fU ni hb (by rw[g8];exact vj dt b1) ?_ ((qI HC).mpr (g8 b1 _▸vW)) (qg (qg hr CP) (Nat.pow_lt_pow_right (by decide) (iq _)))) ((gH (Rq.trans (af ab (av he)))).trans (sq (nc (l:=[iT (dt/b1),iT (dt%b1)]) (c5 (aI rfl (aI rfl (aI rfl rfl))) (h dt b1 n fU Ai hn uN CP vW)) rfl) rfl))
  rw[hb]
  have h4:(dt%b1+1)*2^n<=b1*2^n:=nG _ hr
  rw[nB]at h4
  exact bG (bG (ya wU _) h4) (aD (bX _ _) (jQ _ _))
section
variable{L a b n h p P x y:Nat}
def Rr(hx:x<b)(hy:y<P):x*P+y<b*P:=bG (ya hy _) (by rw[<-nB];exact nG _ hx)
def Rt:b*(a/P/b*P)+(a/P%b*P+a%P)=a:=by
 rw[<-xX,<-g6,<-D4,vj,g8]
 exact vj a P
def Ru(hb:0<b):a/P/b*P+(a/P%b*P+a%P)/b=a/b:=(aos hb _ _).symm.trans (af (· /b) Rt)
def Rv:(a/P%b*P+a%P)%b=a%b:=(Nat.mul_add_mod _ _ _).symm.trans (af (· %b) Rt)
def ahk(hb:0<b)(hp:0<P):(a/P%b*P+a%P)/b<P:=(qI hb).mpr (g8 b P▸Rr (iU _ hb) (iU _ hp))
def ahl{a b n:Nat}(h1:n - 1<=b)(h2:a<n+4000):¬a/30+1>b/30+1+150:=by
 have g:b+1+4000<=b+150*30:=by rw[g6];exact f6 (by decide) b
 have h:=U8 (c:=30) (aD (cE h2) (aD (cR (Nat.le_add_of_sub_le h1) 4000) g))
 rw[Nat.add_mul_div_right _ _ (by decide)]at h
 refine eX.mpr ?_
 rw[ku]
 exact cX h
def ahm(h0:0<b)(h1:2^(n - 1)<=b)(h2:a<2^(n+4000)):xk (a:Int) (b:Int)=false:=by
 unfold xk
 refine aox.mpr (.inr (av λq=>?_))
 have hb:¬((b:Int)==0)=true:=λe=>iS h0 (Int.ofNat.inj (ao e))
 replace q:(if((a:Int)==0)=true then 0 else a.log2/30+1)>(if((b:Int)==0)=true then 0 else b.log2/30+1)+150:=q
 rw[ai hb]at q
 by_cases e:((a:Int)==0)=true
 ·rw[ah e]at q;exact aj q (DT _)
 ·rw[ai e]at q
  exact ahl ((Nat.le_log2 (iS h0)).mpr h1) ((KD λz=>e (aw.mpr (af _ z))).mpr h2) q
def CQ(a b:Nat):Int.fmod (a:Int) (b:Int)=((a%b:Nat):Int):=(apg _ (cx _)).trans rfl
def ahn(h0:0<b)(h1:2^(n - 1)<=b)(h2:a<2^(n+4000)):gO .divmod [iT a,iT b]=ab (.tup [iT (a/b),iT (a%b)]):=by
 refine(ah ⟨pC (fA.mpr h0),ahm h0 h1 h2⟩).trans ?_
 rw[wC,CQ]
 rfl
def Rw{F:Nat->List T->Option T}{v:Bool}(hv:decide ((ba (a:Int):Int) - n<=4000)=v):a9 F (.cmp .le (.bin .sub (.sm .pF (.var 0) .nil) (.var 2)) (.lit (.int 4000))) (start 8 [iT a,iT b,iT n])=ab v:=
 jL (x:=.bool v) (fN (x:=.int ((ba (a:Int):Int) - n)) (y:=.int 4000) rfl rfl (af ab hv)) rfl rfl
def Rx(fU:1<=n)(hb:2^(n - 1)<=b)(c:(ba (a:Int):Int) - n<=4000):Fn aJ (L+1) 0 [iT a,iT b,iT n]=ab (.tup [iT (a/b),iT (a%b)]):=
 jd Ro rfl (Hy rfl (sr ((jb (Rw (ar c))).trans (sr (r5 (iO (aI rfl (aI rfl rfl)) (ahn (bG (fB _) hb) hb (rT (eE 4000 n▸dh.mp (Int.le_add_of_sub_right_le c))))))))))
def Ry(kj:b<2^n)(ha:a<b*2^n):a<2^(n+n):=by
 rw[oL]
 exact qg ha (Vz kj (fB n))
def aho:D2 (L+1) 4000:=λa b n fU Ai hn hb kj ha=>Rx fU hb (Int.sub_right_le_of_le_add (dh.mpr (aD (bits_le (Ry kj ha)) (cR Ai n))))
def Rz(h:p<2):p=0∨p=1:=(Nat.eq_zero_or_pos p).imp id λq=>DB (oJ h) q
def RB(h:ba (a:Int)+1<=1000000):oT .shl (iT a) (iT 1)=ab (iT (a*2^1)):=(ah rfl).trans (uM h)
def pad{F:Nat->List T->Option T}(hp:p<2)(ha:ba (a:Int)+1<=1000000)(hb:ba (b:Int)+1<=1000000):
  ex F (.bN (.var 3) (.seq (.aug 0 .shl (.lit (.int 1))) (.seq (.aug 1 .shl (.lit (.int 1))) (.seq (.aug 2 .add (.lit (.int 1))) .skip))) .skip) [ab (iT a),ab (iT b),ab (iT n),ab (iT p),ae,ae,ae,ae,ae,ae,ae]=ab (.next,[ab (iT (a*2^p)),ab (iT (b*2^p)),ab (iT (n+p)),ab (iT p),ae,ae,ae,ae,ae,ae,ae]):=by
 rcases Rz hp with e|e
 ·subst e
  rw[KJ,Ba,Ba]
  exact(gH rfl).trans rfl
 ·subst e
  exact(jb rfl).trans (sq (pb (y:=iT 1) rfl rfl (RB ha)) (sq (pb (y:=iT 1) rfl rfl (RB hb)) (sq (pb (z:=iT (n+1)) rfl rfl rfl) rfl)))
def ahp{F:Nat->List T->Option T}{x0 x1 x2 x4 x5 x6 x7 x8 x10:Option T}(hp:p<2):ex F (.bN (.var 3) (.seq (.aug 9 .shr (.lit (.int 1))) .skip) .skip) [x0,x1,x2,ab (iT p),x4,x5,x6,x7,x8,ab (iT (a*2^p)),x10]=ab (.next,[x0,x1,x2,ab (iT p),x4,x5,x6,x7,x8,ab (iT a),x10]):=by
 rcases Rz hp with e|e
 ·subst e
  rw[KJ,Ba]
  exact(gH rfl).trans rfl
 ·subst e
  refine(jb rfl).trans (sq (pb (y:=iT 1) (z:=iT a) rfl rfl ?_) rfl)
  show a8 .shr (iT _) (iT 1)=_
  rw[rV,Nat.mul_div_cancel _ (by decide)]
def ahq(h:n%2=p):a8 .band (iT n) (iT 1)=ab (iT p):=h▸Ah (h:=1)
def ahr{B:Nat}(h:D3 L B)(yD:1<=h')(hB:h'<=B)(h2:h'<=20000)(hp:p<2)(b0:0<b)(bl:2^(h'+h' - 1)<=b*2^p)(bu:b*2^p<2^(h'+h'))(au:a*2^p<b*2^p*2^(h'+h')){aB:S}{x0:aE}
  (e:ex (Fn aJ L) aB x0=ab (.next,[ab (iT (a*2^p)),ab (iT (b*2^p)),ab (iT (h'+h')),ab (iT p),ae,ae,ae,ae,ae,ae,ae])):∃r',ex (Fn aJ L) (.seq aB (.seq (.asg 4 (.bin .shr (.var 2) (.lit (.int 1)))) (.seq (.asg 5 (.bin .sub (.bin .shl (.lit (.int 1)) (.var 4)) (.lit (.int 1)))) (.seq (.fP [6,7] [ab (.bin .shr (.var 1) (.var 4)),ab (.bin .band (.var 1) (.var 5))]) (.seq (.fC [8,9] (.call 1 (.cons (.bin .shr (.var 0) (.var 2)) (.cons (.bin .band (.bin .shr (.var 0) (.var 4)) (.var 5)) (.cons (.var 1) (.cons (.var 6) (.cons (.var 7) (.cons (.var 4) .nil)))))))) (.seq (.fC [10,9] (.call 1 (.cons (.var 9) (.cons (.bin .band (.var 0) (.var 5)) (.cons (.var 1) (.cons (.var 6) (.cons (.var 7) (.cons (.var 4) .nil)))))))) (.seq (.bN (.var 3) (.seq (.aug 9 .shr (.lit (.int 1))) .skip) .skip) (.seq (.ret [] (.tup (.cons (.bin .bor (.bin .shl (.var 8) (.var 4)) (.var 10)) (.cons (.var 9) .nil)))) .skip))))))))
   x0=ab (.ret (.tup [iT (a/b),iT (a%b)]),r'):=by
 have hP:=fB h'
 have HD:2^(h'+h')=2^h'*2^h':=oL ..
 generalize BE:a*2^p=a' at*
 generalize kj:b*2^p=b' at*
 have CR:0<b':=kj▸Vv b0 (fB _)
 have hd:a'/b'=a/b:=by rw[<-BE,<-kj,Nat.mul_div_mul_right _ _ (fB _)]
 have hm:a'%b'=a%b*2^p:=by rw[<-BE,<-kj,Nat.mul_mod_mul_right]
 have CS:b'/2^h'<2^h':=(qI hP).mpr (HD▸bu)
 have CT:2^(h' - 1)<=b'/2^h':=(UJ hP).mpr (by rw[<-oL,<-aph yD];exact bl)
 have RC:b'=b'/2^h'*2^h'+b'%2^h':=by rw[g8];exact(vj _ _).symm
 have dp:∀x,x%2^h'<2^h':=λx=>iU _ hP
 have e1:a'/2^(h'+h')*2^h'+a'/2^h'%2^h'=a'/2^h':=by
  rw[HD,<-aol,g8];exact vj _ _
 have c1:=h (a'/2^(h'+h')) (a'/2^h'%2^h') b' (b'/2^h') (b'%2^h') h' yD hB h2 CT CS (dp _) (dp _) RC ((qI (fB _)).mpr au)
 rw[e1]at c1
 have c2:=h (a'/2^h'%b') (a'%2^h') b' (b'/2^h') (b'%2^h') h' yD hB h2 CT CS (dp _) (dp _) RC (iU _ CR)
 rw[Rv,hm]at c2
 have q1l:a'/2^h'/b'<2^h':=(qI CR).mpr ((qI hP).mpr (by rw[g8 (2^h') b',xX,<-HD];exact au))
 have hh2:a8 .shr (iT (h'+h')) (iT 1)=ab (iT h'):=by rw[rV,<-DX,Nat.pow_one,Nat.mul_div_cancel_left _ (by decide)]
 have fin:=(uM (a:=a'/2^h'/b') (n:=h') (bad (bits_le q1l) (aD (eA h2 h2) (by decide))))
 refine⟨_,sq e (sq (dH (x:=iT h') (aR rfl (y:=iT 1) rfl hh2)) (sq (dH (x:=iT (2^h' - 1)) (aR (aR (x:=iT 1) rfl rfl (uM (aD (f6 h2 _) (show 1+20000<=1000000 by decide)))) (y:=iT 1) rfl (by rw[Bc];exact r7 hP)))
  (sq (nh (l:=[iT (b'/2^h'),iT (b'%2^h')]) ?_ (by show 2<=lim;decide) rfl) (sq (nc (c5 (aI (aR rfl rfl rV) (aI (aR (aR rfl rfl rV) rfl Ah) (aI rfl (aI rfl (aI rfl (aI rfl rfl)))))) c1) rfl)
  (sq (nc (c5 (aI rfl (aI (aR rfl rfl Ah) (aI rfl (aI rfl (aI rfl (aI rfl rfl)))))) c2) rfl) (sq (ahp hp) (sr (r5 (je (aI (aR (aR rfl rfl fin) rfl ((Rm (ahk CR hP)).trans (af (λx=>ab (iT x)) ((Ru CR).trans hd)))) (aI rfl rfl)) (show 2<=lim by decide))))))))))⟩
 show((ev (Fn aJ L) _ _).bind λt=>((ev (Fn aJ L) _ _).bind λu=>ab [u]).map (t::·))=_
 rw[aR rfl rfl rV,aR rfl rfl Ah]
 rfl
def half(n:Nat):∃h,n+n%2=h+h/\n%2<2:=by
 have g:=vj n 2
 rcases api n with e|e
 ·rw[e]at g ⊢
  exact⟨n/2,(Vb _).trans (g.symm.trans (DX _)),by decide⟩
 ·rw[e]at g ⊢
  exact⟨n/2+1,by rw[<-DX,vg];exact af (· +1) g.symm,by decide⟩
def dbl{h B:Nat}(g:h+h<=B+B+1):h<=B:=apj λq=>Nat.not_succ_le_self _ (aD (bO (af Nat.succ (ku B 1 B)).symm) (aD (eA q q) g))
def hf{B:Nat}(h1:1<=n)(e:n+n%2=h+h)(hB:n<=2*B)(hn:n<=20000):1<=h/\h<=B/\h<=20000:=
 have m:n%2<=1:=oJ (iU n (by decide))
 ⟨Nat.pos_of_ne_zero λq=>iS h1 (Nat.eq_zero_of_add_eq_zero_right (e.trans (by rw[q]))),dbl (e▸eA (DX B▸hB) m),dbl (e▸eA (aD hn (by decide)) m)⟩
def HE{B:Nat}(h:D3 L B):D2 (L+1) (2*B):=by
 intro a b n fU Ai hn hb kj ha
 by_cases c:(ba (a:Int):Int) - n<=4000
 ·exact Rx fU hb c
 ·obtain⟨h',e,hp⟩:=half n
  obtain⟨f1,f2,f3⟩:=hf fU e Ai hn
  generalize hpe:n%2=p at*
  have pQ:=fB p
  have ahv:=bits_le (Ry kj ha)
  have ahw:=bits_le kj
  obtain⟨r',hr⟩:=ahr (p:=p) (a:=a) (b:=b) (h':=h') h f1 f2 f3 hp (bG (fB _) hb) (by rw[<-e,aph fU,oL];exact nG _ hb) (by rw[<-e,oL];exact Vz kj pQ)
   (by rw[<-e,oL,Nat.mul_right_comm b,<-xX b];refine bG (Vz ha pQ) (Bb _ pQ)) (e▸pad (F:=Fn aJ L) (n:=n) hp (aD (cX (aD ahv (eA hn hn))) (by decide)) (aD (cX (aD ahw hn)) (by decide)))
  exact jd Ro rfl (Hy rfl (sq (gH (Rw (av c))) (sq (dH (aR rfl (y:=iT 1) rfl (ahq hpe))) hr)))
def ahx:D2 (L+7) 20000:=λa b n h1 h2 h3=>HE (HB (HE (HB (HE (HB (aho (L:=L))))))) a b n h1 (aD h3 (by decide)) h3
end
section
variable{L a b n:Nat}
def ahy(m:Nat):∀x,bq n (oq n m x)=x:=by
 induction m with
 |zero=>exactλx=>af (x+·) (KH (2^n))
 |succ m ih=>exactλx=>(af (λy=>x%2^n+2^n*y) (ih _)).trans (Nat.mod_add_div ..)
def ahz(m:Nat):∀x,x<2^(n*(m+1))->∀d∈oq n m x,d<2^n:=by
 induction m with
 |zero=>exactλx h d hd=>b4.mp hd▸(Ba n▸h)
 |succ m ih=>exactλx h d hd=>(br.mp hd).elim (λe=>e▸iU _ (fB n)) (ih _ ((qI (fB n)).mpr (by rw[<-oL];exact h)) d)
def ahA(hn:1<=n):a<2^(n*dr a n):=by
 refine bG (rT (bj _)) (vn (by decide) ?_)
 have h3:=Nat.lt_mul_div_succ (ba (a:Int)+n - 1) hn
 rw[vg,U9 hn]at h3
 exact oJ (ao8 (n:=n - 1) (by rw[UC,<-Nat.add_succ,ao9,pD hn];show _<n*((ba (a:Int)+n - 1)/n)+n;rw[U9 hn];exact h3))
def ahB(hn:1<=n):bq n (gS n (dr a n) a)=a/\∀d∈gS n (dr a n) a,d<2^n:=by
 have h:=ahA (a:=a) hn
 unfold gS
 cases e:dr a n with
 |zero=>rw[e]at h;exact⟨(anh.mp h).symm,λd hd=>aj hd gM⟩
 |succ m=>rw[e]at h;exact⟨ahy m a,ahz m a h⟩
def ahC(l:List Nat):zI (intsOf l)=ab l:=by
 induction l with
 |nil=>rfl
 |cons d l ih=>
  show(if(0:Int)<=(d:Int)then(zI (intsOf l)).map ((d:Int).toNat::·)else ae)=_
  rw[ah (cx d),ih]
  rfl
def RD(hn:1<=n)(mi:n<=30000)(hb:ba (a:Int)<=60000)(hd:dr a n<=64):wJ [iT a,iT n]=ab (.lst (intsOf (gS n (dr a n) a))):=
 ah ⟨⟨cx _,dh.mpr hn⟩,dh.mpr mi,hb,hd⟩
def RF{l:List Nat}(hn:1<=n)(mi:n<=30000)(h1:n*l.length<=100000)(h2:l.length<=64)(h3:ba ((bq n l:Nat):Int)<=800000):ml [.lst (intsOf l),iT n]=ab (iT (bq n l)):=by
 show((zI (intsOf l)).bind λds=>_)=_
 rw[ahC]
 exact ah ⟨⟨dh.mpr hn,dh.mpr mi⟩,h1,h2,h3⟩
def ahD(hb:0<b):1<=ba (b:Int)/\2^(ba (b:Int) - 1)<=b:=by
 have q:¬((b:Int)==0)=true:=λe=>iS hb (Int.ofNat.inj (ao e))
 unfold ba
 rw[ai q]
 exact⟨jQ _ _,Nat.log2_self_le (iS hb)⟩
def ahE{F:Nat->List T->Option T}{r:aE}{k:Nat}{l:List T}(h:get r k=ab (.lst l)):ex F (.rev k) r=ab (.next,put r k (.lst l.reverse)):=af (·.bind (cH λl=>b8 (put r k (.lst l.reverse)))) h
section
variable{F:Nat->List T->Option T}{r r':aE}{a c:Ex}{x:T}{fz:List Nat}{aB s₂:S}
def lb{n m:Nat}{ts:List T}(hl:ts.length=m)(h:(ex F aB (start n ts)).bind cn=ab x):kP F aB n m ts=ab x:=(ah hl).trans h
def dI(h:ex F aB r=ab (.next,r'))(q:(ex F s₂ r').bind cn=ab x):(ex F (.seq aB s₂) r).bind cn=ab x:=(af (·.bind cn) (wK h)).trans q
def lh(h:ev F a r=ab x):(ex F (.seq (.ret fz a) aB) r).bind cn=ab x:=af (·.bind cn) (sr (s₂:=aB) (r5 (fz:=fz) h))
def CU(q:(ex F aB r).bind cn=ab x):(ex F (.gh fz aB) r).bind cn=ab x:=q
def jf:ex F (.seq aB .skip) r=ex F aB r:=by
 show(ex F aB r).bind _=_
 cases ex F aB r with
 |none=>rfl
 |some p=>
  obtain⟨f,q⟩:=p
  cases f<;>rfl
def RG(hc:a9 F c r=ab true)(q:(ex F aB r).bind cn=ab x):(ex F (.seq (.bN c aB s₂) .skip) r).bind cn=ab x:=(af (·.bind cn) (jf.trans (jb hc))).trans q
def wV(hc:a9 F c r=ab false)(q:(ex F s₂ r).bind cn=ab x):(ex F (.seq (.bN c aB s₂) .skip) r).bind cn=ab x:=(af (·.bind cn) (jf.trans (gH hc))).trans q
end
noncomputable def r8(n:Nat)(v d:Nat):Nat:=d+2^n*v
noncomputable def f4(F:Nat->List T->Option T)(x:T)(r:aE):Option (Fl×aE):=(ab (put r 6 x)).bind (ex F (.seq (.fC [7,4] (.call 0 (.cons (.bin .add (.bin .shl (.var 4) (.var 2)) (.var 6)) (.cons (.var 1) (.cons (.var 2) .nil))))) (.seq (.app 5 (.var 7)) .skip)))
def ahF{x0 x3 x8:Option T}(hn:1<=n)(mi:n<=20000)(hb:0<b)(hl:2^(n - 1)<=b)(hu:b<2^n)(ds:List Nat):∀{V:Nat}{qs:List Nat}{x6 x7:Option T},(∀d∈ds,d<2^n)->qs.length+ds.length<=64->bq n qs.reverse=V/b->
  ∃ux HF Aj,b6 (f4 (Fn aJ (L+7))) (intsOf ds) [x0,ab (iT b),ab (iT n),x3,ab (iT (V%b)),ab (.lst (intsOf qs)),x6,x7,x8]=ab (.next,[x0,ab (iT b),ab (iT n),x3,ab (iT (ds.foldl (r8 n) V%b)),ab (.lst (intsOf Aj)),ux,HF,x8])/\Aj.length=qs.length+ds.length/\bq n Aj.reverse=ds.foldl (r8 n) V/b:=by
 induction ds with
 |nil=>exactλz z hq=>⟨_,_,_,rfl,rfl,hq⟩
 |cons d ds ih=>
  intro V qs x6 x7 hd hlen hq
  have hP:=fB n
  have gD:=hd d bk
  have e1:r8 n V d/2^n=V:=(apk _ _ hP).trans (by rw[KG gD,jV])
  have e2:r8 n V d%2^n=d:=(apl _ _ _).trans (VA gD)
  have t1:=Ru (a:=r8 n V d) (P:=2^n) hb
  have t2:=Rv (a:=r8 n V d) (P:=2^n) (b:=b)
  rw[e1,e2]at t1 t2
  have hr:=iU V hb
  obtain⟨y6,y7,Aj,g1,g2,g3⟩:=ih (V:=r8 n V d) (qs:=qs++[(V%b*2^n+d)/b]) (x6:=ab (iT d)) (x7:=ab (iT ((V%b*2^n+d)/b))) (λd' h=>hd d' (bS _ h)) (by rw[bQ,g6,eE _ ds.length];exact hlen) (by rw[show bq n (qs++[(V%b*2^n+d)/b]).reverse=(V%b*2^n+d)/b+2^n*(V/b)by rw[List.reverse_append,<-hq];rfl,eE _ (2^n*_),g8 (2^n)];exact t1)
  refine⟨y6,y7,Aj,uL (x:=iT d) (sq (nc (c5 (aI (aR (aR rfl rfl (uM (bad (bits_le (qg hr hu)) (aD (eA mi mi) (by decide))))) rfl rfl) (aI rfl (aI rfl rfl))) (ahx _ b n hn mi mi hl hu (Rr hr gD))) rfl) (sq (r0 rfl rfl (by rw[kh];exact aD (cX (aD (bX _ _) hlen)) (by decide))) rfl)) ?_,by rw[g2,bQ,g6,eE _ ds.length];rfl,g3⟩
  rw[<-t2,show intsOf (qs++[(V%b*2^n+d)/b])=intsOf qs++[iT ((V%b*2^n+d)/b)]from mD]at g1
  exact g1
def ahG:rowOf 4=ab ⟨122,4,9,q4,w4,7,2⟩:=rfl
def HG:rowOf 5=ab ⟨129,5,9,q5,w5,2,2⟩:=rfl
def RH(l:List Nat):(intsOf l).reverse=intsOf l.reverse:=qw.symm
structure DM(a b:Nat):Prop where
 b2:ba (b:Int)<=20000
 a2:ba (a:Int)<=60000
 d:dr a (ba (b:Int))<=64
def HH{a':Nat}(q:a'<=a):ba (a':Int)<=ba (a:Int):=bits_le (bI q (rT (bj _)))
def DM.less{a':Nat}(h:DM a b)(q:a'<=a):DM a' b:=⟨h.b2,aD (HH q) h.a2,aD (U8 (JS (cR (HH q) _) 1)) h.d⟩
def dmp(hb:0<b)(h:DM a b):Fn aJ (L+8) 4 [iT a,iT b]=ab (.tup [iT (a/b),iT (a%b)]):=by
 obtain⟨fU,CT⟩:=ahD hb
 have CS:=rT (bj (ba (b:Int)))
 obtain⟨ni,ha,hd⟩:=h
 have e0:iV .pF (iT b) []=ab (iT (ba (b:Int))):=rfl
 generalize ba (b:Int)=n at*
 have HI:n<=30000:=aD ni (by decide)
 obtain⟨hv,gD⟩:=ahB (a:=a) fU
 have hlen:=GU n (dr a n) a
 have hmul:n*dr a n<=100000:=PZ ha HI
 obtain⟨x6,x7,qs,g1,g2,g3⟩:=ahF (L:=L) (x0:=ab (iT a)) (x3:=ab (.lst (intsOf (gS n (dr a n) a)))) (x8:=ae) (V:=0) (qs:=[]) (x6:=ae) (x7:=ae) fU ni hb CT CS (gS n (dr a n) a).reverse (λd h=>gD d (AW.mp h)) (by rw[pz,hlen,apm,jV];exact hd) (Nat.zero_div b).symm
 rw[List.foldl_reverse,show(gS n (dr a n) a).foldr (λx y=>r8 n y x) 0=a from hv]at g1 g3
 rw[pz,hlen,apm,jV]at g2
 refine jd ahG rfl (lb rfl (dI (dH (pe rfl rfl e0)) (dI (dH (c5 (aI rfl (aI rfl rfl)) (RD fU HI ha hd))) (dI (dH rfl) (dI (Af (x:=.lst []) rfl rfl) ?_)))))
 refine dI (r':=[ab (iT a),ab (iT b),ab (iT n),ab (.lst (intsOf (gS n (dr a n) a))),ab (iT (a%b)),ab (.lst (intsOf qs)),x6,x7,ae]) ?_ ?_
 ·show b6 (f4 (Fn aJ (L+7))) (intsOf _).reverse _=_
  rw[RH]
  rw[Nat.zero_mod]at g1
  exact g1
 refine dI (ahE rfl) (CU ?_)
 refine dI (dH (x:=iT (a/b)) (c5 (aI rfl (aI rfl rfl)) ?_)) ?_
 ·show ml [.lst (intsOf qs).reverse,iT n]=_
  rw[RH,<-g3]
  exact RF fU HI (by rw[pz,g2];exact hmul) (by rw[pz,g2];exact hd) (by rw[g3];exact aD (HH (xU a b)) (aD ha (by decide)))
 exact lh ((je (aI rfl (aI rfl rfl)) (show 2<=lim by decide)))
end
section
variable{L a b n:Nat}
def Ak{F:Nat->List T->Option T}{r:aE}{k:Nat}{i:Int}{v:Bool}(h:get r k=ab (.int i))(hv:decide (i<0)=v):a9 F (.cmp .lt (.var k) (.lit (.int 0))) r=ab v:=jL (x:=.bool v) (fN h rfl (af ab hv)) rfl rfl
def HJ{F:Nat->List T->Option T}{r:aE}{k:Nat}{i:Int}{v:Bool}(h:get r k=ab (.int i))(hv:(i==0)=v):a9 F (.cmp .eq (.var k) (.lit (.int 0))) r=ab v:=jL (x:=.bool v) (fN h rfl (af ab hv)) rfl rfl
def nz{b:Int}(hb:b≠0):(b==0)=false:=beq_false_of_ne hb
def nn(a:Nat):decide ((a:Int)<0)=false:=av (lr.mpr (cx a))
def RI(hb:0<b)(h:DM a b):Fn aJ (L+9) 5 [iT a,iT b]=ab (.tup [iT (a/b),iT (a%b)]):=
 jd HG rfl (lb rfl (wV (HJ rfl (nz (pC (fA.mpr hb)))) (wV (Ak rfl (nn b)) (wV (Ak rfl (nn a)) (lh (c5 (aI rfl (aI rfl rfl)) (dmp hb h)))))))
def ahI{x x' y y':Int}(h1:x=x')(h2:y=y'):ab (T.tup [.int x,.int y])=ab (T.tup [.int x',.int y']):=by rw[h1,h2]
def not_neg(k:Nat):Dj (Bf k)=(k:Int):=by
 show -(Bf k) - 1=_
 rw[Int.neg_negSucc]
 exact qF (k:Int) 1
def RK{a:Int}(hb:0<b)(h:DM a.natAbs b):Fn aJ (L+10) 5 [.int a,iT b]=ab (.tup [.int (a.fdiv b),.int (a.fmod b)]):=by
 cases a with
 |ofNat k=>exact(RI (L:=L+1) hb h).trans (ahI (wC k b).symm (CQ k b).symm)
 |negSucc k=>
  have hm:=iU k hb
  have e1:Dj ((k/b:Nat):Int)=(Bf k).fdiv b:=by
   cases b with
   |zero=>exact aj hb (eY 0)
   |succ b=>show -((k/(b+1):Nat):Int) - 1=Bf (k/(b+1));rw[Int.negSucc_eq];exact(VC ..).symm
  have e2:(b:Int)+Dj ((k%b:Nat):Int)=(Bf k).fmod b:=by
   show(b:Int)+(-((k%b:Nat):Int) - 1)=Int.subNatNat b (k%b+1)
   rw[Int.subNatNat_eq_coe,tC,Vs,KR (a:=(b:Int)),VC]
   rfl
  rw[<-e1,<-e2]
  refine jd HG rfl (lb rfl (wV (HJ rfl (nz (pC (fA.mpr hb)))) (wV (Ak rfl (nn b)) (RG (Ak rfl (ar (Int.negSucc_lt_zero k))) ?_))))
  refine dI (nc (l:=[iT (k/b),iT (k%b)]) (c5 (aI rfl (aI rfl rfl)) ?_) rfl) ?_
  ·show Fn aJ (L+9) 5 [.int (Dj (Bf k)),iT b]=_
   rw[not_neg]
   exact RI hb (h.less (gy k))
  exact lh (je (aI rfl (aI rfl rfl)) (show 2<=lim by decide))
def dm{a b:Int}(hb:b≠0)(h:DM a.natAbs b.natAbs):Fn aJ (L+11) 5 [.int a,.int b]=ab (.tup [.int (a.fdiv b),.int (a.fmod b)]):=by
 by_cases hp:b<0
 ·have hk: -b=((b.natAbs:Nat):Int):=(Int.ofNat_natAbs_of_nonpos (AJ hp)).symm
  have q:=RK (L:=L) (a:= -a) (b:=b.natAbs) (apn.mpr hb) (by rw[VD];exact h)
  rw[show iT b.natAbs=.int (-b)from af T.int hk.symm,<-hk,apo,apq]at q
  rw[<-Int.neg_neg (a.fmod b)]
  refine jd HG rfl (lb rfl (wV (HJ rfl (nz hb)) (RG (Ak rfl (ar hp)) ?_)))
  exact dI (nc (c5 (aI rfl (aI rfl rfl)) q) rfl) (lh (je (aI rfl (aI rfl rfl)) (show 2<=lim by decide)))
 ·have hk:b=((b.natAbs:Nat):Int):=(Int.natAbs_of_nonneg (lr.mp hp)).symm
  exact hk▸RK (L:=L+1) (apn.mpr hb) h
end
noncomputable def tab{α:Type}(n:Nat)(f:Nat->α):List α:=n.rec [] λi l=>f i::l
noncomputable def cU{α:Type}(n:Nat)(f:Nat->α):List α:=n.rec [] λi l=>f i::l
def cw{α:Type}{n:Nat}{f g:Nat->α}(h:tab n f=cU n g):∀i,i<n->f i=g i:=by
 induction n with
 |zero=>exactλi q=>aj q (DT i)
 |succ n ih=>
  replace h:f n::tab n f=g n::cU n g:=h
  injection h with h1 h2
  exactλi q=>(am5 (oJ q)).elim (ih h2 i) λe=>e▸h1
noncomputable def fY(b:Bool):Nat:=if b=true then 114 else 117
noncomputable def txt(c:Nat):Str:=⟨#[fY (c.testBit 0),fY (c.testBit 1),fY (c.testBit 2),fY (c.testBit 3),fY (c.testBit 4),fY (c.testBit 5),fY (c.testBit 6),fY (c.testBit 7)]⟩
noncomputable def tx(c:Nat):T:=.str (txt c)
noncomputable def bh(c t:Nat):List Nat:=(bc (8 - t)).filter λi=>c.testBit i&&!c.testBit (i+t)
noncomputable def dJ(c i t:Nat):Nat:=c+2^i*(2^t - 1)
noncomputable def sg(c i t:Nat):Int:=if((bc (t - 1)).filter λj=>!c.testBit (i+1+j)).length%2=0 then 1 else -1
noncomputable def bf(c:Nat):Bool:=decide (128<=c/\c<256)
abbrev p1{α:Type}(f g:Nat->α)(q:Nat):Prop:=(tab 64 λj=>f (128+(64*q+j)))=cU 64 λj=>g (128+(64*q+j))
abbrev p4{α:Type}(f g:Nat->Nat->α)(q:Nat):Prop:=p1 (λc=>tab 4 (f c)) (λc=>cU 4 (g c)) q
def gV{α:Type}{f g:Nat->α}(h0:p1 f g 0)(h1:p1 f g 1){c:Nat}(hc:bf c=true):f c=g c:=by
 have hc:=aq hc
 by_cases q:c - 128<64
 ·have e:=cw h0 (c - 128) q
  rwa [jV,vh hc.1]at e
 ·have q:=eX.mp q
  have e:=cw h1 (c - 128 - 64) (apr q (apr hc.1 hc.2))
  rwa [Ba,vh q,vh hc.1]at e
def nj{α:Type}{f g:Nat->Nat->α}(h0:p4 f g 0)(h1:p4 f g 1){c z:Nat}(hc:bf c=true)(hz:z<4):f c z=g c z:=cw (gV (f:=λc=>tab 4 (f c)) (g:=λc=>cU 4 (g c)) h0 h1 hc) z hz
noncomputable def HK(L c:Nat):List (Option T):=tab 9 λt=>Fn aJ (L+1) 9 [tx c,iT (t+1)]
noncomputable def HL(c:Nat):List (Option T):=cU 9 λt=>ab (.lst (intsOf (bh c (t+1))))
noncomputable def HM(L c:Nat):List (List (Option T)):=tab 7 λt=>(bh c (t+1)).map λp=>Fn aJ (L+1) 10 [tx c,iT p,iT (t+1)]
noncomputable def HN(c:Nat):List (List (Option T)):=cU 7 λt=>(bh c (t+1)).map λp=>ab (.tup [tx (dJ c p (t+1)),.int (sg c p (t+1))])
def pl0{L:Nat}:p1 (HK L) HL 0:=by kernel_rfl
def Hj{L:Nat}:p1 (HK L) HL 1:=by kernel_rfl
def tk0{L:Nat}:p1 (HM L) HN 0:=by kernel_rfl
def tk1{L:Nat}:p1 (HM L) HN 1:=by kernel_rfl
def ahM{L c:Nat}(hc:bf c=true):HK L c=HL c:=gV pl0 Hj hc
def ahN{L c:Nat}(hc:bf c=true):HM L c=HN c:=gV tk0 tk1 hc
noncomputable def HO(t f:Nat):Nat->Nat×Int×List Nat:=f.rec (λc=>(c,1,[])) λz ih c=>(bh c t).getLast?.elim (c,1,[]) λp=>(λq=>(q.1,sg c p t*q.2.1,p::q.2.2)) (ih (dJ c p t))
noncomputable def co(c t:Nat):Nat:=(HO t 13 c).1
noncomputable def sn(c t:Nat):Int:=(HO t 13 c).2.1
noncomputable def wy(c t:Nat):List Nat:=(HO t 13 c).2.2
noncomputable def zs(l:List Nat):List Int:=sortI (l.map λi:Nat=>(i:Int))
noncomputable def un(s:Int):Bool:=s==1||s== -1
noncomputable def RL(c t p:Nat):Bool:=bf (dJ c p t)&&(co c t==co (dJ c p t) t&&(sn c t==sg c p t*sn (dJ c p t) t&&((zs (wy c t)==insI p (zs (wy (dJ c p t) t)))&&((wy c t).length==(wy (dJ c p t) t).length+1&&un (sg c p t)))))
noncomputable def okR(c t:Nat):Bool:=bf (co c t)&&(un (sn c t)&&(decide ((wy c t).length<=12)&&((bh (co c t) t).isEmpty&&((if(bh c t).isEmpty=true then co c t==c&&(sn c t==1&&(wy c t).isEmpty)else decide ((bh c t).length<=8)&&decide (1<=(wy c t).length))&&(bh c t).all λp=>RL c t p))))
noncomputable def HP(c:Nat):Bool:=(bc 9).all λt=>okR c (t+1)
noncomputable def HQ(c:Nat):List (Option Bool):=tab 9 λt=>qM .ne (.lst (intsOf (bh c (t+1)))) (.lst [])
noncomputable def HR(c:Nat):List (Option Bool):=cU 9 λt=>ab (!(bh c (t+1)).isEmpty)
def c9:p1 HP (λz=>true) 0:=by kernel_rfl
def HS:p1 HP (λz=>true) 1:=by kernel_rfl
def ne0:p1 HQ HR 0:=by kernel_rfl
def ne1:p1 HQ HR 1:=by kernel_rfl
def ahQ{c:Nat}(hc:bf c=true):HP c=true:=gV c9 HS hc
def ne_0{c:Nat}(hc:bf c=true):HQ c=HR c:=gV ne0 ne1 hc
def Tk(t:Nat):Prop:=1<=t/\t<=9
section
variable{c t n L:Nat}
def HT{α:Type}{f g:Nat->α}(h:(tab n λt=>f (t+1))=cU n λt=>g (t+1))(h1:1<=t)(h2:t<=n):f t=g t:=by
 have q:=cw h (t - 1) (bG (qp h1 xB) h2)
 rw[pD h1]at q
 exact q
def an{a b:Bool}(h:(a&&b)=true):a=true/\b=true:=(AU a b).mp h
end
abbrev Place(c t:Nat):Prop:=bf (co c t)=true/\un (sn c t)=true/\(wy c t).length<=12/\bh (co c t) t=[]/\(bh c t=[]->co c t=c/\sn c t=1/\wy c t=[])/\(bh c t≠[]->(bh c t).length<=8/\1<=(wy c t).length)/\∀p∈bh c t,RL c t p=true
section
variable(h:Place c t)
def Place.hc:=h.1
def Place.hu:=h.2.1
def Place.hl:=h.2.2.1
def Place.hz:=h.2.2.2.2.1
def Place.hn:=h.2.2.2.2.2.1
def Place.ha:=h.2.2.2.2.2.2
end
def place{c t:Nat}(hc:bf c=true)(ht:Tk t):Place c t:=by
 obtain⟨h1,h⟩:=an (bA.mp (ahQ hc) (t - 1) (iw.mpr (bG (qp ht.1 xB) ht.2))|>(pD ht.1▸·))
 obtain⟨h2,h⟩:=an h
 obtain⟨h3,h⟩:=an h
 obtain⟨h4,h⟩:=an h
 obtain⟨h5,h6⟩:=an h
 refine⟨h1,h2,aq h3,A9.mp h4,λe=>?_,λe=>?_,bA.mp h6⟩
 ·rw[ah (A9.mpr e)]at h5
  obtain⟨g1,g⟩:=an h5
  exact⟨ao g1,ao (an g).1,A9.mp (an g).2⟩
 ·rw[ai λq=>e (A9.mp q)]at h5
  exact⟨aq (an h5).1,aq (an h5).2⟩
abbrev r9(c t p:Nat):Prop:=bf (dJ c p t)=true/\co c t=co (dJ c p t) t/\sn c t=sg c p t*sn (dJ c p t) t/\zs (wy c t)=insI p (zs (wy (dJ c p t) t))/\(wy c t).length=(wy (dJ c p t) t).length+1/\un (sg c p t)=true
section
variable(h:r9 c t p)
def r9.hc:=h.1
def r9.RM:=h.2.1
def r9.RN:=h.2.2.1
def r9.hzs:=h.2.2.2.1
def r9.hl:=h.2.2.2.2.1
def r9.hu:=h.2.2.2.2.2
end
def Place.strip{c t p:Nat}(h:Place c t)(hp:p∈bh c t):r9 c t p:=by
 obtain⟨h1,h⟩:=an (h.ha p hp)
 obtain⟨h2,h⟩:=an h
 obtain⟨h3,h⟩:=an h
 obtain⟨h4,h⟩:=an h
 exact⟨h1,ao h2,ao h3,ao h4,ao (an h).1,(an h).2⟩
def places{L c t:Nat}(hc:bf c=true)(ht:Tk t):Fn aJ (L+1) 9 [tx c,iT t]=ab (.lst (intsOf (bh c t))):=HT (f:=λt=>Fn aJ (L+1) 9 [tx c,iT t]) (g:=λt=>ab (T.lst (intsOf (bh c t)))) (ahM hc) ht.1 ht.2
def ahS{c t p:Nat}(h:p∈bh c t):p+t<8:=(Nat.lt_sub_iff_add_lt).mp (iw.mp (DE.mp h).1)
def taken{L c t p:Nat}(hc:bf c=true)(ht:Tk t)(hp:p∈bh c t):Fn aJ (L+1) 10 [tx c,iT p,iT t]=ab (.tup [tx (dJ c p t),.int (sg c p t)]):=jW.mp (HT (f:=λt=>(bh c t).map λp=>Fn aJ (L+1) 10 [tx c,iT p,iT t]) (g:=λt=>(bh c t).map λp=>ab (T.tup [tx (dJ c p t),.int (sg c p t)])) (ahN hc) ht.1 (oJ (bI (jQ t p) (ahS hp)))) p hp
def Al{s:Int}(h:un s=true):s=1∨s= -1:=((JX _ _).mp h).imp ao ao
def CV{s u:Int}(h:un s=true)(g:un u=true):a8 .mul (.int s) (.int u)=ab (.int (s*u))/\un (s*u)=true:=by
 rcases Al h with e|e<;>rcases Al g with e'|e'<;>subst e<;>subst e'<;>exact⟨rfl,rfl⟩
def RO(l:List Nat):mL (intsOf l)=ab (l.map λi:Nat=>(i:Int)):=by
 induction l with
 |nil=>rfl
 |cons x l ih=>exact af (·.map ((x:Int)::·)) ih
def sorted{l:List Nat}(h:l.length<64):gO .qQ [.lst (intsOf l)]=ab (.lst ((zs l).map .int)):=by
 show((mL (intsOf l)).bind λns=>_)=_
 rw[RO]
 exact ah (by rw[bK];exact h)
def Am{F:Nat->List T->Option T}{r:aE}{k:Nat}{l:List Nat}(h:get r k=ab (.lst (intsOf l))):ev F (.prim .len (.cons (.var k) .nil)) r=ab (iT l.length):=(iO (aI (show ev F (.var k) r=_ from h) rfl) rfl).trans (af (λn=>ab (iT n)) (kh l))
def ahT{F:Nat->List T->Option T}{r:aE}{a b:Ex}{x y:T}(ha:ev F a r=ab x)(hb:ev F b r=ab y):pI F r [ab a,ab b]=ab [x,y]:=by
 show((ev F a r).bind λt=>((ev F b r).bind λu=>ab [u]).map (t::·))=_
 rw[ha,hb]
 rfl
noncomputable def mr(x:Nat×Nat×Nat):T:=.tup [iT x.1,iT x.2.1,iT x.2.2]
noncomputable def St(l:List (Nat×Nat×Nat)):Int->Int->Prop:=l.rec (λo o'=>o=o'/\o.natAbs<=1000) λx z ih o o'=>o.natAbs<=1000/\∃fT:Int,fT*x.2.1+x.2.2=o/\x.2.2<x.2.1/\x.2.1<=8/\ih fT o'
def RP{o:Int}{m:Nat}(ho:o.natAbs<=1000)(h1:1<=m)(h2:m<=1000):DM o.natAbs m:=by
 have b1:ba (o.natAbs:Int)<=10:=bits_le (bI ho (by decide))
 have b2:ba (m:Int)<=10:=bits_le (bI h2 (by decide))
 exact⟨aD b2 (by decide),aD b1 (by decide),aD (xU _ _) (aD (mA _ _) (aD (eA b1 b2) (by decide)))⟩
noncomputable def RQ:S:=.seq (.fC [2,6] (.call 5 (.cons (.var 2) (.cons (.prim .len (.cons (.var 3) .nil)) .nil)))) (.seq (.app 5 (.tup (.cons (.idx (.var 3) (.var 6)) (.cons (.prim .len (.cons (.var 3) .nil)) (.cons (.var 6) .nil))))) (.seq (.fC [0,7] (.call 10 (.cons (.var 0) (.cons (.idx (.var 3) (.var 6)) (.cons (.var 1) .nil))))) (.seq (.fP [3,4] [ab (.call 9 (.cons (.var 0) (.cons (.var 1) .nil))),ab (.bin .mul (.var 4) (.var 7))]) .skip)))
noncomputable def sb(c t:Nat)(o s:Int)(st:List (Nat×Nat×Nat))(x6 x7:Option T):aE:=[ab (tx c),ab (iT t),ab (.int o),ab (.lst (intsOf (bh c t))),ab (.int s),ab (.lst (st.map mr)),x6,x7,ae,ae,ae,ae,ae]
def ahU{L c t:Nat}{o s:Int}{st:List (Nat×Nat×Nat)}{x6 x7:Option T}(hc:bf c=true)(ht:Tk t)(hs:un s=true)(ho:o.natAbs<=1000)(hl:st.length<=13)(hn:bh c t≠[]):∃(p m k:Nat)(fT:Int),p∈bh c t/\fT.natAbs<=1000/\fT*m+k=o/\k<m/\m<=8/\
  ex (Fn aJ (L+11)) RQ (sb c t o s st x6 x7)=ab (.next,sb (dJ c p t) t fT (s*sg c p t) (st++[(p,m,k)]) (ab (iT k)) (ab (.int (sg c p t)))):=by
 have P:=place hc ht
 have hm:=(P.hn hn).1
 have RT:=List.length_pos_iff.mpr hn
 have HU:∀k,k<(bh c t).length->(bh c t).getD k 0∈bh c t:=λk h=>by show(bh c t)[k]?.getD 0∈_;rw[iu h];exact anl h
 have em:=Am (F:=Fn aJ (L+11)) (r:=sb c t o s st x6 x7) (k:=3) rfl
 have im:=kh (bh c t)
 have ix:= @G1 (bh c t)
 have RU:=Am (F:=Fn aJ (L+11)) (r:=[ab (tx c),ab (iT t),ab (.int (o.fdiv (bh c t).length)),ab (.lst (intsOf (bh c t))),ab (.int s),ab (.lst (st.map mr)),ab (.int (o.fmod (bh c t).length)),x7,ae,ae,ae,ae,ae]) (k:=3) rfl
 generalize (bh c t).length=m at*
 have HV:(1:Int)<=m:=dh.mpr RT
 have h2:=DU o HV
 have h3:=UW o HV
 have h4:=Int.mul_fdiv_add_fmod o m
 have hd:=dm (L:=L) (pC HV) (RP ho RT (aD hm (by decide)))
 obtain⟨k,hk⟩:=A0 h2
 have hq:=Int.natAbs_fdiv_le_natAbs o m
 rw[hk]at h3 h4 hd RU
 have HW:=fA.mp h3
 have hp:=HU k HW
 have hi:=ix HW
 generalize (bh c t).getD k 0=p at*
 have hS:=P.strip hp
 refine⟨p,m,k,o.fdiv m,hp,aD hq ho,by rw[U3];exact h4,HW,hm,?_⟩
 refine sq (nc (c5 (aI rfl (aI em rfl)) hd) rfl) ?_
 refine sq (r0 (l:=st.map mr) (y:=mr (p,m,k)) rfl (je (aI (gq rfl rfl hi) (aI RU (aI rfl rfl))) (show 3<=lim by decide)) (by rw[bK];exact aD (cX hl) (by decide))) ?_
 refine sq (nc (c5 (aI rfl (aI (gq rfl rfl hi) (aI rfl rfl))) (taken (L:=L+10) hc ht hp)) rfl) ?_
 refine sq (nh (ahT (c5 (aI rfl (aI rfl rfl)) (places (L:=L+10) hS.hc ht)) (aR rfl rfl (CV hs hS.hu).1)) (by show 2<=lim;decide) rfl) ?_
 unfold sb
 rw[mD]
 rfl
section
variable{F:Nat->List T->Option T}{α:Type}{r:aE}{l:List α}{inj g:α->T}{c:α->Bool}{x:T}{elt src cond:Ex}
def ga{f:T->Option (Option T)}(h:∀a∈l,f (inj a)=ab (if c a=true then ab (g a)else ae)):gather f (l.map inj)=ab ((l.filter c).map g):=by
 induction l with
 |nil=>rfl
 |cons a l ih=>
  show((f (inj a)).bind λo=>(gather f (l.map inj)).bind λys=>ab (o.elim ys (· ::ys)))=_
  rw[h a bk,ih λb hb=>h b (bS _ hb)]
  cases e:c a with
  |true=>rw[aps e];rfl
  |false=>rw[apt (by rw[e];exact bT)];rfl
def cnd{u:T}{r':aE}{v:Bool}{y:T}(h:ev F cond r'=ab u)(hp:u.plain=true)(hv:u.truth=v)(hy:v=true->ev F elt r'=ab y):((ev F cond r').bind λc=>if c.plain=true then(if c.truth=true then(ev F elt r').map ab else ab ae)else ae)=ab (if v=true then ab y else ae):=by
 rw[h]
 refine(ah hp).trans ?_
 rw[hv]
 cases v with
 |true=>exact(ah rfl).trans ((af (·.map ab) (hy rfl)).trans (af ab (ah rfl).symm))
 |false=>rfl
noncomputable def cf(F:Nat->List T->Option T)(elt cond:Ex)(st:T->Option aE)(y:T):Option (Option T):=(st y).bind λr'=>(ev F cond r').bind λc=>if c.plain=true then(if c.truth=true then(ev F elt r').map ab else ab ae)else ae
def HX{k:Nat}(hs:ev F src r=ab x)(hi:fe x=ab (l.map inj))(h:∀a∈l,∃u,ev F cond (put r k (inj a))=ab u/\u.plain=true/\u.truth=c a/\(c a=true->ev F elt (put r k (inj a))=ab (g a))):ev F (.comp k elt src cond) r=ab (.lst ((l.filter c).map g)):=by
 show((ev F src r).bind λx=>(fe x).bind λl=>(gather (cf F elt cond λy=>ab (put r k y)) l).map T.lst)=_
 rw[hs]
 refine(af (·.bind λl=>(gather (cf F elt cond λy=>ab (put r k y)) l).map T.lst) hi).trans (af (·.map T.lst) (ga λa ha=>?_))
 obtain⟨u,h1,h2,h3,h4⟩:=h a ha
 exact cnd h1 h2 h3 h4
def HY{ks:List Nat}{st:α->aE}(hs:ev F src r=ab x)(hi:fe x=ab (l.map inj))(h:∀a∈l,bH (putAll r ks) (inj a)=ab (st a)/\∃u,ev F cond (st a)=ab u/\u.plain=true/\u.truth=c a/\(c a=true->ev F elt (st a)=ab (g a))):ev F (.j0 ks elt src cond) r=ab (.lst ((l.filter c).map g)):=by
 show((ev F src r).bind λx=>(fe x).bind λl=>(gather (cf F elt cond (bH (putAll r ks))) l).map T.lst)=_
 rw[hs]
 refine(af (·.bind λl=>(gather (cf F elt cond (bH (putAll r ks))) l).map T.lst) hi).trans (af (·.map T.lst) (ga λa ha=>?_))
 obtain⟨h0,u,h1,h2,h3,h4⟩:=h a ha
 unfold cf
 rw[h0]
 exact cnd h1 h2 h3 h4
def RV:l.filter (λz=>true)=l:=Uz.mpr λz z=>rfl
def p8{k:Nat}(hs:ev F src r=ab x)(hi:fe x=ab (l.map inj))(h:∀a∈l,ev F elt (put r k (inj a))=ab (g a)):ev F (.comp k elt src (.lit (.bool true))) r=ab (.lst (l.map g)):=(HX (c:=λz=>true) hs hi λa ha=>⟨_,rfl,rfl,rfl,λz=>h a ha⟩).trans (by rw[RV])
def HZ{ks:List Nat}{st:α->aE}(hs:ev F src r=ab x)(hi:fe x=ab (l.map inj))(h:∀a∈l,bH (putAll r ks) (inj a)=ab (st a)/\ev F elt (st a)=ab (g a)):ev F (.j0 ks elt src (.lit (.bool true))) r=ab (.lst (l.map g)):=(HY (c:=λz=>true) hs hi λa ha=>⟨(h a ha).1,_,rfl,rfl,rfl,λz=>(h a ha).2⟩).trans (by rw[RV])
end
noncomputable def RX:Ex:=.cmp .ne (.var 3) (.lst .nil)
def pk{L t:Nat}(ht:Tk t)(m:Nat):∀{c:Nat}{o s:Int}{st:List (Nat×Nat×Nat)}{x6 x7:Option T},bf c=true->un s=true->(wy c t).length=m->o.natAbs<=1000->st.length+m<=13->∀k,∃o' dU ux HF,nO (a9 (Fn aJ (L+11)) RX) (ex (Fn aJ (L+11)) RQ) (m+1+k) (sb c t o s st x6 x7)=ab (.next,sb (co c t) t o' (s*sn c t) (st++dU) ux HF)/\St dU o o'/\zs (dU.map (·.1))=zs (wy c t)/\dU.length=m:=by
 have RY:∀{c:Nat}{o s:Int}{st:List (Nat×Nat×Nat)}{x6 x7:Option T},bf c=true->a9 (Fn aJ (L+11)) RX (sb c t o s st x6 x7)=ab (!(bh c t).isEmpty):=λhc=>jL (fN (v:=!(bh _ t).isEmpty) rfl (kZ rfl (by decide)) (HT (f:=λt=>qM .ne (.lst (intsOf (bh _ t))) (.lst [])) (g:=λt=>ab (!(bh _ t).isEmpty)) (ne_0 hc) ht.1 ht.2)) rfl rfl
 induction m with
 |zero=>
  intro c o s st x6 x7 hc hs hm ho hl k
  have P:=place hc ht
  have e:bh c t=[]:=apu λq=>aj (P.hn q).2 (by rw[hm];exact apv 0)
  obtain⟨e1,e2,e3⟩:=P.hz e
  refine⟨o,[],x6,x7,?_,⟨rfl,ho⟩,by rw[e3];rfl,rfl⟩
  rw[ku,e1,e2,JY,kq]
  exact Rk ((RY hc).trans (by rw[e];rfl))
 |succ m ih=>
  intro c o s st x6 x7 hc hs hm ho hl k
  have P:=place hc ht
  have e:bh c t≠[]:=λq=>aj hm (by rw[(P.hz q).2.2];exact Nat.noConfusion)
  obtain⟨p,n,j,fT,hp,h1,h2,h3,h4,h5⟩:=ahU (L:=L) (x6:=x6) (x7:=x7) hc ht hs ho (aD (bX _ _) hl) e
  have S:=P.strip hp
  obtain⟨o',dU,y6,y7,g1,g2,g3,g4⟩:=ih (c:=dJ c p t) (o:=fT) (s:=s*sg c p t) (st:=st++[(p,n,j)]) (x6:=ab (iT j)) (x7:=ab (.int (sg c p t))) S.hc (CV hs S.hu).2 (Nat.succ.inj (S.hl.symm.trans hm)) h1 (by rw[bQ,ku];exact hl) k
  refine⟨o',(p,n,j)::dU,y6,y7,?_,⟨ho,fT,h2,h3,h4,g2⟩,?_,af (· +1) g4⟩
  ·rw[ku (m+1)]
   refine Rj ((RY hc).trans ?_) h5 ?_
   ·cases q:bh c t with
    |nil=>exact aj q e
    |cons a b=>rfl
   ·rw[<-List.append_cons]at g1
    rw[S.RM,S.RN,<-apw]
    exact g1
  ·rw[S.hzs,<-g3]
   rfl
def H0{v:Int}{k:Nat}(h:v.natAbs<2^k):ba v<=k:=by
 refine aD (bO ?_) (bits_le h)
 cases v with
 |ofNat n=>rfl
 |negSucc n=>rfl
noncomputable def RZ:S:=.seq (.asg 2 (.bin .add (.bin .mul (.var 2) (.var 9)) (.bin .mod (.var 6) (.var 9)))) .skip
def back{F:Nat->List T->Option T}{x0 x1 x3 x4 x5 x7 x10 x11 x12:Option T}(st:List (Nat×Nat×Nat)):∀{o o':Int}{rest:List T}{x6 x8 x9:Option T},St st o o'->∃y6 y8 y9,b6 (λy r'=>(bH (putAll r' [8,9,6]) y).bind (ex F RZ)) ((st.map mr).reverse++rest) [x0,x1,ab (.int o'),x3,x4,x5,x6,x7,x8,x9,x10,x11,x12]=b6 (λy r'=>(bH (putAll r' [8,9,6]) y).bind (ex F RZ)) rest [x0,x1,ab (.int o),x3,x4,x5,y6,x7,y8,y9,x10,x11,x12]:=by
 induction st with
 |nil=>intro o o' rest x6 x8 x9 h;rw[h.1];exact⟨_,_,_,rfl⟩
 |cons x st ih=>
  intro o o' rest x6 x8 x9 h
  obtain⟨h1,fT,h2,h3,h4,h5⟩:=h
  obtain⟨y6,y8,y9,g⟩:=ih (rest:=mr x::rest) (x6:=x6) (x8:=x8) (x9:=x9) h5
  refine⟨ab (iT x.2.2),ab (iT x.1),ab (iT x.2.1),?_⟩
  rw[show((x::st).map mr).reverse++rest=(st.map mr).reverse++(mr x::rest)by rw[qk,Ts,fu];rfl,g]
  have hm:(x.2.1:Int)≠0:=pC (fA.mpr (bI (dP _) h3))
  have ho:fT.natAbs<=1000:=by
   cases st with
   |nil=>exact h5.2
   |cons y st=>exact h5.1
  have e1:a8 .mul (.int fT) (iT x.2.1)=ab (.int (fT*x.2.1)):=ah (dh.mpr (aD (eA (H0 (k:=10) (bI ho (by decide))) (bits_le (k:=4) (bI h4 (by decide)))) (by decide)):(ba fT:Int)+ba (x.2.1:Int)<=1000000)
  have e2:a8 .mod (iT x.2.2) (iT x.2.1)=ab (iT x.2.2):=(ah hm).trans (af (λi=>ab (T.int i)) ((CQ _ _).trans (af _ (VA h3))))
  exact uL (x:=mr x) (sq (dH (x:=.int o) (aR (aR rfl rfl e1) (aR rfl rfl e2) (af (λi=>ab (T.int i)) h2))) rfl) rfl
def ahV:rowOf 11=ab ⟨215,11,9,zd,NU,10,3⟩:=rfl
def fuel{m:Nat}(h:m<=12):m+1+(99999 - m)=100000:=by rw[ku,vh (aD h (by decide))]
def ahW{F:Nat->List T->Option T}{r:aE}{a b:Ex}{x y:T}(ha:ev F a r=ab x)(hb:ev F b r=ab y):pI F r [ab a,ab b,ae]=ab [x,y,.lst []]:=by
 show((ev F a r).bind λt=>((ev F b r).bind λu=>ab [u,.lst []]).map (t::·))=_
 rw[ha,hb]
 rfl
def picked{L c t:Nat}{o:Int}(hc:bf c=true)(ht:Tk t)(ho:o.natAbs<=1000):Fn aJ (L+12) 11 [tx c,iT t,.int o]=ab (.tup [tx (co c t),.int (sn c t),.lst ((zs (wy c t)).map .int),.int o]):=by
 have P:=place hc ht
 obtain⟨o',st,x6,x7,g1,g2,g3,g4⟩:=pk (L:=L) ht (wy c t).length (o:=o) (s:=1) (st:=[]) (x6:=ae) (x7:=ae) hc rfl rfl ho (aD (bO (jV _)) (aD P.hl (by decide))) (99999 - (wy c t).length)
 rw[fuel P.hl,nF,List.nil_append]at g1
 obtain⟨y6,y8,y9,g5⟩:=back (F:=Fn aJ (L+11)) (x0:=ab (tx (co c t))) (x1:=ab (iT t)) (x3:=ab (.lst (intsOf (bh (co c t) t)))) (x4:=ab (.int (sn c t))) (x5:=ab (.lst (st.map mr))) (x7:=x7) (x10:=ae) (x11:=ae) (x12:=ae) st (rest:=[]) (x6:=x6) (x8:=ae) (x9:=ae) g2
 rw[kq]at g5
 refine jd ahV rfl (lb rfl ?_)
 refine dI (nh (ahW (c5 (aI rfl (aI rfl rfl)) (places (L:=L+10) hc ht)) rfl) (by show 3<=lim;decide) rfl) ?_
 refine dI (r':=sb (co c t) t o' (sn c t) st x6 x7) g1 (CU ?_)
 refine dI (r':=[ab (tx (co c t)),ab (iT t),ab (.int o),ab (.lst (intsOf (bh (co c t) t))),ab (.int (sn c t)),ab (.lst (st.map mr)),y6,x7,y8,y9,ae,ae,ae]) g5 ?_
 refine lh (je (aI rfl (aI rfl (aI (iO (aI (HZ (l:=st) (inj:=mr) (g:=λx=>iT x.1) rfl rfl λx z=>⟨rfl,rfl⟩) rfl) ?_) (aI rfl rfl)))) (show 4<=lim by decide))
 rw[<-g3]
 exact(af (λl=>gO .qQ [.lst l]) (fO (f:=λx:Nat×Nat×Nat=>x.1) (g:=iT)).symm).trans (sorted (by rw[bK,g4];exact bI P.hl (by decide)))
def nk{α:Type}{body:T->aE->Option (Fl×aE)}{inj:α->T}{P:List α->aE->Prop}{l:List α}(h:∀p a s,p++a::s=l->∀r,P p r->∃r',body (inj a) r=ab (.next,r')/\P (p++[a]) r'){r:aE}(h0:P [] r):∃r',b6 body (l.map inj) r=ab (.next,r')/\P l r':=by
 suffices q:∀s p r,p++s=l->P p r->∃r',b6 body (s.map inj) r=ab (.next,r')/\P l r' from q l [] r rfl h0
 intro s
 induction s with
 |nil=>exactλp r e hp=>⟨r,rfl,by rw[<-e,kq];exact hp⟩
 |cons a s ih=>
  intro p r e hp
  obtain⟨fH,h1,h2⟩:=h p a s e r hp
  obtain⟨zv,h3,h4⟩:=ih (p++[a]) fH (by rw[fu];exact e) h2
  exact⟨zv,uL h1 h3,h4⟩
section
variable{F:Nat->List T->Option T}{r:aE}{src:Ex}{body:S}{x:T}{l:List T}{p:Option (Fl×aE)}{k:Nat}{ks:List Nat}
def wW(hs:ev F src r=ab x)(hi:fe x=ab l)(h:b6 (λy r'=>(ab (put r' k y)).bind (ex F body)) l r=p):ex F (.eV k src body) r=p:=((af (·.bind λx=>(fe x).bind λl=>b6 (λy r'=>(ab (put r' k y)).bind (ex F body)) l r) hs).trans (af (·.bind λl=>b6 (λy r'=>(ab (put r' k y)).bind (ex F body)) l r) hi)).trans h
def ahX(hs:ev F src r=ab x)(hi:fe x=ab l)(h:b6 (λy r'=>(bH (putAll r' ks) y).bind (ex F body)) l r=p):ex F (.hZ ks src body) r=p:=((af (·.bind λx=>(fe x).bind λl=>b6 (λy r'=>(bH (putAll r' ks) y).bind (ex F body)) l r) hs).trans (af (·.bind λl=>b6 (λy r'=>(bH (putAll r' ks) y).bind (ex F body)) l r) hi)).trans h
end
noncomputable def dec(x:Str):Nat:=x.cps.toList.foldr (λy n=>(if y=114 then 1 else 0)+2*n) 0
noncomputable def decA(c:Nat):Nat:=dec (txt c)
def de0:p1 decA (λc=>c) 0:=by kernel_rfl
def de1:p1 decA (λc=>c) 1:=by kernel_rfl
def R0{c:Nat}(hc:bf c=true):dec (txt c)=c:=gV de0 de1 hc
def R1{a b:Nat}(ha:bf a=true)(hb:bf b=true)(h:txt a=txt b):a=b:=(R0 ha).symm.trans ((af dec h).trans (R0 hb))
noncomputable def dT(l:List (Nat×Int)):List (Str×Int):=l.map λp=>(txt p.1,p.2)
noncomputable def putN(l:List (Nat×Int))(k:Nat)(v:Int):List (Nat×Int):=l.rec [(k,v)] λp r ih=>if p.1=k then(k,v)::r else p::ih
noncomputable def sd(l:List (Nat×Int))(k:Nat):Int:=(l.lookup k).getD 0
def Cd(l:List (Nat×Int)):Prop:=∀p∈l,bf p.1=true
def R2{k:Nat}(hk:bf k=true){l:List (Nat×Int)}(h:Cd l):(dT l).lookup (txt k)=l.lookup k:=by
 induction l with
 |nil=>rfl
 |cons p l ih=>
  obtain⟨a,v⟩:=p
  have e:(txt k==txt a)=(k==a):=xr.mpr (aw.trans (Vw ⟨R1 hk (h _ bk),af txt⟩ aw.symm))
  have ih:=ih λp hp=>h p (bS _ hp)
  show apx (txt k) ((txt a,v)::dT l)=_
  rw[cD,cD,e,ih]
def ah0{k:Nat}(hk:bf k=true){l:List (Nat×Int)}(h:Cd l):iV .vD (.aY (dT l)) [tx k,.int 0]=ab (.int (sd l k)):=af (λo:Option Int=>ab (T.int (o.getD 0))) (R2 hk h)
def ah1{k:Nat}{v:Int}(hk:bf k=true){l:List (Nat×Int)}(h:Cd l):dput (dT l) (txt k) v=dT (putN l k v)/\Cd (putN l k v)/\(putN l k v).length<=l.length+1:=by
 induction l with
 |nil=>exact⟨rfl,λp hp=>(b4.mp hp)▸hk,bj _⟩
 |cons p l ih=>
  have hl:Cd l:=λp hp=>h p (bS _ hp)
  obtain⟨h1,h2,h3⟩:=ih hl
  show(if txt p.1=txt k then(txt k,v)::dT l else(txt p.1,p.2)::dput (dT l) (txt k) v)=dT (if p.1=k then(k,v)::l else p::putN l k v)/\Cd (if p.1=k then(k,v)::l else p::putN l k v)/\(if p.1=k then(k,v)::l else p::putN l k v).length<=_
  by_cases e:p.1=k
  ·rw[ah e,ah (af txt e)]
   exact⟨rfl,λq hq=>(br.mp hq).elim (λe=>e▸hk) (hl q),gy _⟩
  ·rw[ai e,ai λq=>e (R1 (h _ bk) hk q),h1]
   exact⟨rfl,λq hq=>(br.mp hq).elim (λe=>e▸h _ bk) (h2 q),cX h3⟩
noncomputable def p0(fr:List (Nat×Int))(w t:Nat)(b:List (Nat×Int))(i:Nat):List (Nat×Int):=putN b (dJ w i t) (sd b (dJ w i t)+sg w i t*sd fr w)
noncomputable def CW(fr:List (Nat×Int))(t:Nat)(b:List (Nat×Int))(p:Nat×Int):List (Nat×Int):=(bh p.1 t).foldl (p0 fr p.1 t) b
noncomputable def CX(t:Nat)(fr:List (Nat×Int)):List (Nat×Int):=fr.foldl (CW fr t) []
noncomputable def se(t c m:Nat):List (Nat×Int):=m.rec [(c,1)] λz l=>CX t l
noncomputable def An(l:List (Nat×Int)):Bool:=decide (l.length<=100)&&l.all λp=>bf p.1&&(l.lookup p.1).elim false λv=>decide (v.natAbs<=1000000)
def ah2{F:Nat->List T->Option T}{r:aE}{k:Nat}{i e:Ex}{l:List (Str×Int)}{y:Int}{s:Str}(h:get r k=ab (.aY l))(he:ev F e r=ab (.int y))(hi:ev F i r=ab (.str s))(hl:l.length+1<=lim/\s.length<=lim):ex F (.tI k i e) r=ab (.next,put r k (.aY (dput l s y))):=by
 show((get r k).bind (vB λl=>(ev F e r).bind (bp λy=>(ev F i r).bind (cG λs=>if l.length+1<=lim/\s.length<=lim then b8 (put r k (.aY (dput l s y)))else ae))))=_
 rw[h,he,hi]
 exact ah hl
noncomputable def wX:S:=.seq (.tI 5 (.var 7) (.bin .add (.sm .vD (.var 5) (.cons (.var 7) (.cons (.lit (.int 0)) .nil))) (.bin .mul (.var 8) (.idx (.var 3) (.var 6))))) .skip
noncomputable def Ao:Ex:=.comp 9 (.call 10 (.cons (.var 6) (.cons (.var 9) (.cons (.var 1) .nil)))) (.call 9 (.cons (.var 6) (.cons (.var 1) .nil))) (.lit (.bool true))
structure W1(c t m:Nat)(fr:List (Nat×Int))(w:Option T)(n:Nat)(b:List (Nat×Int))(r:aE):Prop where
 hr:∃x4 x7 x8 x9,r=[ab (tx c),ab (iT t),ab (iT m),ab (.aY (dT fr)),x4,ab (.aY (dT b)),w,x7,x8,x9]
 hc:Cd b
 hl:b.length<=n
def R3(c t:Nat):(bh c t).length<=8:=aD (Vp _ _) (by rw[kr];exact mA _ _)
def ah3{L c t m w n:Nat}{fr b:List (Nat×Int)}{v:Int}{r:aE}(ht:Tk t)(hf:Cd fr)(hw:bf w=true)(hv:fr.lookup w=ab v)(hb:v.natAbs<=1000000)(hn:n<=1000)(h:W1 c t m fr (ab (tx w)) n b r):
  ∃r',ex (Fn aJ (L+1)) (.seq (.hZ [7,8] Ao wX) .skip) r=ab (.next,r')/\W1 c t m fr (ab (tx w)) (n+8) (CW fr t b (w,v)) r':=by
 obtain⟨⟨x4,x7,x8,x9,e⟩,h2,h3⟩:=h
 subst e
 have P:=place hw ht
 have hg:sd fr w=v:=af (·.getD 0) hv
 have hs:ev (Fn aJ (L+1)) Ao [ab (tx c),ab (iT t),ab (iT m),ab (.aY (dT fr)),x4,ab (.aY (dT b)),ab (tx w),x7,x8,x9]=ab (.lst ((bh w t).map λi=>.tup [tx (dJ w i t),.int (sg w i t)])):=
  p8 (inj:=iT) (c5 (aI rfl (aI rfl rfl)) (places (L:=L) hw ht)) rfl λi hi=>c5 (aI rfl (aI rfl (aI rfl rfl))) (taken (L:=L) hw ht hi)
 obtain⟨r',g1,g2,g3,g4⟩:=nk (body:=λy r'=>(bH (putAll r' [7,8]) y).bind (ex (Fn aJ (L+1)) wX)) (inj:=λi=>.tup [tx (dJ w i t),.int (sg w i t)]) (P:=λp=>W1 c t m fr (ab (tx w)) (n+p.length) (p.foldl (p0 fr w t) b)) (l:=bh w t) (λp i s hp r h=>by
  obtain⟨⟨x4,x7,x8,x9,e⟩,h2,h3⟩:=h
  subst e
  have hi:i∈bh w t:=hp▸mE _ bk
  have S:=P.strip hi
  obtain⟨d1,d2,d3⟩:=ah1 (v:=sd (p.foldl (p0 fr w t) b) (dJ w i t)+sg w i t*sd fr w) S.hc h2
  have vW:p.length<=8:=aD (by rw[<-hp,bQ];exact bX _ _) (R3 w t)
  have hmul:a8 .mul (.int (sg w i t)) (.int v)=ab (.int (sg w i t*v)):=by
   refine ah (dh.mpr (aD (eA (?_:ba (sg w i t)<=1) (H0 (k:=20) (bI hb (by decide)))) (by decide)):(ba (sg w i t):Int)+ba v<=1000000)
   rcases Al S.hu with e|e<;>rw[e]<;>decide
  refine⟨_,sq (ah2 rfl (aR (pe rfl (aI rfl (aI rfl rfl)) (ah0 S.hc h2)) (aR rfl (gq rfl rfl ((af (·.map T.int) (R2 hw hf)).trans (af (·.map T.int) hv))) hmul) rfl) rfl ⟨?_,?_⟩) rfl,⟨x4,ab (tx (dJ w i t)),ab (.int (sg w i t)),x9,?_⟩,?_,?_⟩
  ·unfold dT
   rw[bK]
   exact aD (cX (aD h3 (eA hn vW))) (by decide)
  ·show 8<=lim;decide
  ·rw[tD]
   show _=[_,_,_,_,_,ab (T.aY (dT (putN (p.foldl (p0 fr w t) b) (dJ w i t) (sd (p.foldl (p0 fr w t) b) (dJ w i t)+sg w i t*sd fr w)))),_,_,_,_]
   rw[<-d1,hg]
   rfl
  ·rw[tD]
   exact d2
  ·rw[tD,bQ]
   exact aD d3 (cX h3)) ⟨⟨x4,x7,x8,x9,rfl⟩,h2,h3⟩
 refine⟨r',jf.trans ((af (·.bind λx=>(fe x).bind λl=>b6 (λy r'=>(bH (putAll r' [7,8]) y).bind (ex (Fn aJ (L+1)) wX)) l [ab (tx c),ab (iT t),ab (iT m),ab (.aY (dT fr)),x4,ab (.aY (dT b)),ab (tx w),x7,x8,x9]) hs).trans g1),g2,g3,aD g4 (f6 (R3 w t) _)⟩
def ah4{F:Nat->List T->Option T}{r:aE}{fz:List Nat}{s:S}{p:Option (Fl×aE)}(h:ex F s r=p):ex F (.gh fz s) r=p:=h
def ah5{l:List (Nat×Int)}(h:An l=true):l.length<=100/\∀p∈l,bf p.1=true/\∃v:Int,l.lookup p.1=ab v/\v.natAbs<=1000000:=by
 obtain⟨h1,h2⟩:=an h
 refine⟨aq h1,λp hp=>?_⟩
 obtain⟨h3,h4⟩:=an (bA.mp h2 p hp)
 cases e:l.lookup p.1 with
 |none=>rw[e]at h4;exact aj h4 bT
 |some v=>rw[e]at h4;exact⟨h3,v,rfl,aq h4⟩
def ah6:rowOf 12=ab ⟨220,12,9,ze,NV,7,3⟩:=rfl
def ah7{L c t m:Nat}{fr:List (Nat×Int)}{x4 x5 x6 x7 x8 x9:Option T}(ht:Tk t)(h:An fr=true):∃y4 y6 y7 y8 y9,ex (Fn aJ (L+1)) (.seq (.own 5 (.jZ .nil .nil)) (.seq (.eV 6 (.var 3) (.seq (.hZ [7,8] Ao wX) .skip)) (.gh [5] (.seq (.asg 3 (.var 5)) .skip)))) [ab (tx c),ab (iT t),ab (iT m),ab (.aY (dT fr)),x4,x5,x6,x7,x8,x9]=ab (.next,[ab (tx c),ab (iT t),ab (iT m),ab (.aY (dT (CX t fr))),y4,ab (.aY (dT (CX t fr))),y6,y7,y8,y9]):=by
 obtain⟨h1,h2⟩:=ah5 h
 obtain⟨r',g1,w,⟨y4,y7,y8,y9,e⟩,g3,g4⟩:=nk (body:=λy r'=>(ab (put r' 6 y)).bind (ex (Fn aJ (L+1)) (.seq (.hZ [7,8] Ao wX) .skip))) (inj:=λp:Nat×Int=>tx p.1) (P:=λp r=>∃w,W1 c t m fr w (8*p.length) (p.foldl (CW fr t) []) r) (l:=fr) (λp a s hp r h=>by
  obtain⟨w,⟨y4,y7,y8,y9,e⟩,h3,h4⟩:=h
  subst e
  obtain⟨ha,v,hv,hb⟩:=h2 a (hp▸mE _ bk)
  have hl:p.length<=100:=aD (by rw[<-hp,bQ];exact bX _ _) h1
  obtain⟨r',f1,f2⟩:=ah3 (L:=L) ht (λp hp=>(h2 p hp).1) ha hv hb (aD (ko 8 hl) (by decide)) (⟨⟨y4,y7,y8,y9,rfl⟩,h3,h4⟩:W1 c t m fr (ab (tx a.1)) (8*p.length) (p.foldl (CW fr t) []) _)
  refine⟨r',f1,ab (tx a.1),?_⟩
  rw[tD,bQ]
  exact f2) ⟨x6,⟨x4,x7,x8,x9,rfl⟩,λp hp=>aj hp gM,bj _⟩
 subst e
 refine⟨_,_,_,_,_,sq (Af (x:=.aY []) rfl rfl) (sq (r':=[ab (tx c),ab (iT t),ab (iT m),ab (.aY (dT fr)),y4,ab (.aY (dT (CX t fr))),w,y7,y8,y9]) ?_ (ah4 (sq (dH rfl) rfl)))⟩
 show b6 _ ((dT fr).map λp=>.str p.1) _=_
 unfold dT at g1 ⊢
 rw[fO]
 exact g1
def ah8{L c t m:Nat}(ht:Tk t)(hm:m<=1000)(h:∀i,i<m->An (se t c i)=true):Fn aJ (L+2) 12 [tx c,iT t,iT m]=ab (.aY (dT (se t c m))):=by
 obtain⟨r',g1,y4,y5,y6,y7,y8,y9,e⟩:=nk (body:=λy r'=>(ab (put r' 4 y)).bind (ex (Fn aJ (L+1)) (.seq (.own 5 (.jZ .nil .nil)) (.seq (.eV 6 (.var 3) (.seq (.hZ [7,8] Ao wX) .skip)) (.gh [5] (.seq (.asg 3 (.var 5)) .skip)))))) (inj:=λi:Nat=>.int (0+(i:Int))) (P:=λp r=>∃x4 x5 x6 x7 x8 x9,r=[ab (tx c),ab (iT t),ab (iT m),ab (.aY (dT (se t c p.length))),x4,x5,x6,x7,x8,x9]) (l:=bc m) (λp a s hp r h=>by
  obtain⟨y4,y5,y6,y7,y8,y9,e⟩:=h
  subst e
  have hl:p.length<m:=by
   have q:=af vx hp
   rw[bQ,kr]at q
   exact bG (vc (eG _)) (bO q)
  obtain⟨z4,z6,z7,z8,z9,f⟩:=ah7 (L:=L) (c:=c) (m:=m) (x4:=ab (.int (0+(a:Int)))) (x5:=y5) (x6:=y6) (x7:=y7) (x8:=y8) (x9:=y9) ht (h _ hl)
  exact⟨_,f,z4,_,z6,z7,z8,z9,by rw[bQ];rfl⟩) (r:=[ab (tx c),ab (iT t),ab (iT m),ab (.aY (dT [(c,1)])),ae,ae,ae,ae,ae,ae]) ⟨_,_,_,_,_,_,rfl⟩
 subst e
 rw[kr]at g1
 refine jd ah6 rfl (lb rfl (dI (dH rfl) (dI (r':=[ab (tx c),ab (iT t),ab (iT m),ab (.aY (dT (se t c m))),y4,y5,y6,y7,y8,y9]) ?_ (lh rfl))))
 show(((if -1000000<=(m:Int)/\(m:Int)<=lim then _ else _):Option T).bind λx=>(fe x).bind λl=>b6 _ l _)=_
 rw[ah ⟨dn (by decide) (cx m),dh.mpr (aD hm (by decide))⟩]
 exact g1
noncomputable def jM(a b:Bool):Nat:=if b=true then 114 else if a=true then 85 else 117
noncomputable def lj(c:Nat):Str:=⟨#[jM true (c.testBit 0),jM (c.testBit 0) (c.testBit 1),jM (c.testBit 1) (c.testBit 2),jM (c.testBit 2) (c.testBit 3),jM (c.testBit 3) (c.testBit 4),jM (c.testBit 4) (c.testBit 5),jM (c.testBit 5) (c.testBit 6),jM (c.testBit 6) (c.testBit 7)]⟩
noncomputable def ask(c:Nat):Str:=s_ "*"++lj c++s_ "/ruuuu/"
noncomputable def low(c:Nat):Str:=s_ "*"++txt c
noncomputable def ah9:Ex:=.bin .add (.bin .add (.lit (.str (s_ "*"))) (.call 6 (.cons (.var 1) (.cons (.lit (.str (s_ "r"))) .nil)))) (.lit (.str (s_ "/ruuuu/")))
noncomputable def aia:Ex:=.sm .lower (.idx (.sm .split1 (.var 1) (.cons (.lit (.str (s_ "/"))) .nil)) (.lit (.int 0))) .nil
noncomputable def H2(L:Nat)(x0 x2 x3 x4 x5 x6 x7:Option T)(c:Nat):Option T:=ev (Fn aJ (L+1)) ah9 [x0,ab (tx c),x2,x3,x4,x5,x6,x7]
noncomputable def H4(c:Nat):Option T:=ab (.str (ask c))
noncomputable def H5(F:Nat->List T->Option T)(x0 x2:Option T)(c:Nat):Option T:=ev F aia [x0,ab (.str (ask c)),x2]
noncomputable def H6(c:Nat):Option T:=ab (.str (low c))
section
variable{L:Nat}{F:Nat->List T->Option T}{x0 x2 x3 x4 x5 x6 x7:Option T}
def as0:p1 (H2 L x0 x2 x3 x4 x5 x6 x7) H4 0:=by kernel_rfl
def as1:p1 (H2 L x0 x2 x3 x4 x5 x6 x7) H4 1:=by kernel_rfl
def lw0:p1 (H5 F x0 x2) H6 0:=by kernel_rfl
def lw1:p1 (H5 F x0 x2) H6 1:=by kernel_rfl
def R8{c:Nat}(hc:bf c=true):H2 L x0 x2 x3 x4 x5 x6 x7 c=H4 c:=gV as0 as1 hc
def aie{c:Nat}(hc:bf c=true):H5 F x0 x2 c=H6 c:=gV lw0 lw1 hc
end
noncomputable def lo(y:Str):Str:=s_ "r"++y++s_ "u"
def aif:(tab 4 λt=>(fh t).map λy=>(iV .lower (.str (aa y)) [],aa y==s_ "*",pn (aa y),(vv false y).length==0))=cU 4 λt=>(fh t).map λy=>(ab (.str (lo y)),false,lo y,false):=by kernel_rfl
noncomputable def vl(c:Nat)(y:Str):Int:=xn (txt c) (lo y)+1
def aih{L c:Nat}{y v:Str}(h:y.length<=100):Fn aJ (L+1) 28 [.eI y v,tx c]=ab (.int (vl c y)):=ah (aD (cR h 2) (by decide))
noncomputable def gW(c p t:Nat):Str:=⟨((bc t).map λi=>fY (c.testBit (p+1+i))).toArray⟩
noncomputable def CY(h:Str->Bool)(v:Str->Int)(c t:Nat):Bool:=((fh t).any h==!(bh c (t+1)).isEmpty)&&(bh c (t+1)).getLast?.elim ((fh t).all λy=>v y==0) λp=>((fh t).all λy=>decide (v y<=((p+1:Nat):Int))&&(v y !=((p+1:Nat):Int)||y==gW c p t))&&(v (gW c p t)==((p+1:Nat):Int)&&(fh t).contains (gW c p t))
noncomputable def okV(c t:Nat):Bool:=CY (λy=>sH (low c) (lo y)) (vl c) c t
noncomputable def oA(b:List Nat):List Nat->Bool:=b.rec (λz=>true) λy z ih l=>l.rec false λx xs z=>Nat.beq x y&&ih xs
noncomputable def CZ(a:Bool)(n:Nat):Nat:=n.rec (a.rec 0 1) λn z=>n+2
noncomputable def oB(b l:List Nat):Nat:=l.rec 0 λx xs ih=>CZ (oA b (x::xs)) ih
def R9{b:List Nat}:∀{l},oA b l=true↔l.take b.length=b:=by
 induction b with
 |nil=>exactλ{l}=>⟨λz=>rfl,λz=>rfl⟩
 |cons y b ih=>
  intro l
  cases l with
  |nil=>exact⟨ft,λh=>aN (af List.head? h)⟩
  |cons x l=>
   show(Nat.beq x y&&oA b l)=true↔x::l.take b.length=y::b
   rw[AU,ih,Nat.beq_eq,List.cons.injEq]
def aij{b:List Nat}(hb:0<b.length):∀l,(oB b l=0/\∀i,¬oA b (l.drop i)=true)∨∃i,oB b l=i+1/\oA b (l.drop i)=true/\∀k,i<k->¬oA b (l.drop k)=true:=by
 intro l
 induction l with
 |nil=>exact .inl ⟨rfl,λi h=>by rw[List.drop_nil,R9,List.take_nil]at h;rw[<-h]at hb;exact eY _ hb⟩
 |cons x l ih=>
  rcases ih with⟨e,h⟩|⟨i,e,h,g⟩
  ·cases q:oA b (x::l)with
   |false=>exact .inl ⟨by show CZ (oA b (x::l)) (oB b l)=_;rw[e,q];rfl,λi=>by cases i with|zero=>exactλw=>ft (q.symm.trans w)|succ i=>exact h i⟩
   |true=>exact .inr ⟨0,by show CZ (oA b (x::l)) (oB b l)=_;rw[e,q];rfl,q,λk hk=>by cases k with|zero=>exact aj hk (eY 0)|succ k=>exact h k⟩
  ·exact .inr ⟨i+1,by show CZ (oA b (x::l)) (oB b l)=_;rw[e];rfl,h,λk hk=>by cases k with|zero=>exact aj hk (DT _)|succ k=>exact g k (UX hk)⟩
section
variable{x y:Str}(h0:0<y.cps.toList.length)
include h0
theorem C0{i:Nat}:apy x y x.length i↔oA y.cps.toList (x.cps.toList.drop i)=true:=by
 have e:(x.cps.extract i (i+y.length)).toList=(x.cps.toList.drop i).take y.cps.toList.length:=by
  rw[Array.toList_extract]
  show(x.cps.toList.drop i).take (i+y.length - i)=_
  rw[apd]
  rfl
 rw[R9,<-e]
 refine⟨λh=>af JU (ao h.2),λh=>⟨?_,aw.mpr (JV.mp h)⟩⟩
 have hm:=af vx (e.symm.trans h)
 rw[Dt,AM]at hm
 have hm:y.cps.toList.length<=x.cps.toList.length - i:=hm▸TK _ _
 exact eE ..▸Nat.add_le_of_le_sub (cE (Nat.lt_of_sub_pos (bG h0 hm))) hm
theorem Sa:xn x y+1=(oB y.cps.toList x.cps.toList:Int)/\sH x y=VE 0 (oB y.cps.toList x.cps.toList):=by
 have c:sH x y=true↔∃i,apy x y x.length i:=StrLaws.found_iff x y
 unfold xn
 rcases StrLaws.last_spec x y with⟨e,h⟩|⟨i,e,h,hk⟩<;>rcases aij h0 x.cps.toList with⟨f,g⟩|⟨j,f,g,gk⟩
 ·rw[e,f];exact⟨rfl,px.mpr λw=>(c.mp w).elim h⟩
 ·exact aj ((C0 h0).mpr g) (h j)
 ·exact aj ((C0 h0).mp h) (g i)
 ·rw[e,f,DB (eX.mp λq=>gk i q ((C0 h0).mp h)) (eX.mp λq=>hk j q ((C0 h0).mpr g))]
  exact⟨rfl,c.mpr ⟨i,h⟩⟩
end
def Sb(y:Str):0<(lo y).cps.toList.length:=by
 show 0<(((s_ "r").cps++y.cps)++(s_ "u").cps).size
 rw[Array.size_append]
 exact eG _
noncomputable def H7(c:Nat):List Bool:=tab 4 (CY (λy=>VE 0 (oB (lo y).cps.toList (low c).cps.toList)) (λy=>(oB (lo y).cps.toList (txt c).cps.toList:Nat)) c)
noncomputable def pf(c:Nat):List Bool:=cU 4 λz=>true
def ov0:p1 H7 pf 0:=by kernel_rfl
def ov1:p1 H7 pf 1:=by kernel_rfl
def aim{c t:Nat}(hc:bf c=true)(ht:t<4):okV c t=true:=by
 refine AZ ?_ (cw (gV (f:=H7) (g:=pf) ov0 ov1 hc) t ht)
 show CY _ _ c t=CY _ _ c t
 rw[show(vl c)=λy=>((oB (lo y).cps.toList (txt c).cps.toList:Nat):Int)from funext λy=>(Sa (Sb y)).1,show(λy=>sH (low c) (lo y))=λy=>VE 0 (oB (lo y).cps.toList (low c).cps.toList)from funext λy=>(Sa (Sb y)).2]
noncomputable def km(t:Nat)(m:Bool)(k:Nat):T:=.ins 1 [.lst ([.str (s_ "*"),.str (rr m)]++(i8 t k).map λy=>.str (aa y)),.lst ((i8 t k).map λy=>.eI y (vv m y)),if m then .none else .int ((t+1:Nat):Int),.str (rr m)]
noncomputable def rl(t k:Nat)(m:Bool):List (Str×Str):=((i8 t k).map λy=>(y,vv m y))++(fh t).map λy=>(y,vv (!m) y)
noncomputable def ag(t k:Nat):List Str:=s_ "*"::(i8 t k).map aa
noncomputable def sf(x:Str×Str):T:=.eI x.1 x.2
noncomputable def jg(t k:Nat)(m:Bool):T:=.ins 1 [.lst ((ag t k).map .str),.lst ((rl t k m).map sf),.int ((t+1:Nat):Int),.str (rr (!m))]
def ain:(tab 4 λt=>tab 8 λk=>tab 2 λm=>zW [km t (m==0) k,km t (!(m==0)) 0])=cU 4 λt=>cU 8 λk=>cU 2 λm=>ab (jg t k (m==0)):=by kernel_rfl
def uz{t k:Nat}{y:Str}:y∈i8 t k↔y∈fh t:=by
 unfold i8
 rw[u7,Or.comm,<-u7,U6]
abbrev Vt(c t:Nat):Prop:=t<4/\bf c=true/\(((fh t).any λy=>sH (low c) (lo y))=!(bh c (t+1)).isEmpty)/\(bh c (t+1)=[]->∀y∈fh t,vl c y=0)/\(∀p,(bh c (t+1)).getLast?=ab p->(∀y∈fh t,vl c y<=(p+1:Nat)/\(vl c y=(p+1:Nat)->y=gW c p t))/\vl c (gW c p t)=(p+1:Nat)/\gW c p t∈fh t)
section
variable(h:Vt c t)
def Vt.ht:=h.1
def Vt.hc:=h.2.1
def Vt.told:=h.2.2.1
def Vt.en:=h.2.2.2.1
def Vt.es:=h.2.2.2.2
end
def vt{c t:Nat}(hc:bf c=true)(ht:t<4):Vt c t:=by
 obtain⟨h1,h2⟩:=an (aim hc ht)
 refine⟨ht,hc,ao h1,λe=>?_,λp e=>?_⟩
 ·rw[e]at h2
  exactλy hy=>ao (bA.mp h2 y hy)
 ·rw[e]at h2
  obtain⟨h2,h3⟩:=an h2
  refine⟨λy hy=>?_,ao (an h3).1,jq.mp (an h3).2⟩
  obtain⟨h4,h5⟩:=an (bA.mp h2 y hy)
  exact⟨aq h4,λq=>((JX _ _).mp h5).elim (λz=>aj q (bne_iff_ne.mp z)) ao⟩
noncomputable def wY:S:=.seq (.bN (.cmp .ne (.var 2) (.lit (.str (s_ "*")))) (.seq (.asg 2 (.sm .lower (.var 2) .nil)) (.seq (.bN (.oR (.var 2) (.var 1)) (.seq (.ret [] (.lit (.bool true))) .skip) .skip) .skip)) .skip) .skip
def aio{F:Nat->List T->Option T}{x0:Option T}{n:Str}{s:S}(hs:∀r,(ex F s r).bind cn=ab (.bool false))(l:List Str):∀{x2:Option T},(∀a∈l,a=s_ "*"∨((a==s_ "*")=false/\iV .lower (.str a) []=ab (.str (pn a))))->
  ((b6 (λy r'=>(ab (put r' 2 y)).bind (ex F wY)) (l.map .str) [x0,ab (.str n),x2]).bind (mO (ex F s))).bind cn=ab (.bool (l.any λa=>!(a==s_ "*")&&sH n (pn a))):=by
 induction l with
 |nil=>exactλz=>hs _
 |cons a l ih=>
  intro x2 h
  have hb:∀{v},(a==s_ "*")=v->a9 F (.cmp .ne (.var 2) (.lit (.str (s_ "*")))) [x0,ab (.str n),ab (.str a)]=ab !v:=λe=>jL (fN (v:=!_) rfl rfl (af (λv=>ab !v) e)) rfl rfl
  have hl:=λb hb=>h b (bS a hb)
  rw[Dw]
  rcases h a bk with e|⟨e,e2⟩
  ·have e:(a==s_ "*")=true:=aw.mpr e
   rw[e]
   have g:ex F wY [x0,ab (.str n),ab (.str a)]=ab (.next,[x0,ab (.str n),ab (.str a)]):=jf.trans ((gH (hb e)).trans rfl)
   exact(af (λo=>(o.bind (mO (ex F s))).bind cn) (uL (f:=λy r'=>(ab (put r' 2 y)).bind (ex F wY)) (r:=[x0,ab (.str n),x2]) (x:=.str a) g rfl)).trans (ih hl)
  ·rw[e]
   have q:∀{v},sH n (pn a)=v->a9 F (.oR (.var 2) (.var 1)) [x0,ab (.str n),ab (.str (pn a))]=ab v:=λe=>jL (x:=.bool _) (af (λv=>ab (T.bool v)) e) rfl rfl
   have g:ex F wY [x0,ab (.str n),ab (.str a)]=ex F (.bN (.oR (.var 2) (.var 1)) (.seq (.ret [] (.lit (.bool true))) .skip) .skip) [x0,ab (.str n),ab (.str (pn a))]:=jf.trans ((jb (hb e)).trans (sq (dH (pe rfl rfl e2)) jf))
   cases e3:sH n (pn a)with
   |true=>exact af (λo=>((o.bind (nN (b6 (λy r'=>(ab (put r' 2 y)).bind (ex F wY)) (l.map .str)))).bind (mO (ex F s))).bind cn) (g.trans ((jb (q e3)).trans (sr (r5 rfl))))
   |false=>exact(af (λo=>(o.bind (mO (ex F s))).bind cn) (uL (f:=λy r'=>(ab (put r' 2 y)).bind (ex F wY)) (r:=[x0,ab (.str n),x2]) (x:=.str a) (g.trans ((gH (q e3)).trans rfl)) rfl)).trans (ih hl)
def aip:rowOf 26=ab ⟨165,26,1,Ob,Oc,1,2⟩:=rfl
def aiq:rowOf 27=ab ⟨172,27,1,Od,Oe,4,2⟩:=rfl
def Aq{t:Nat}(ht:t<4){y:Str}(hy:y∈fh t):iV .lower (.str (aa y)) []=ab (.str (lo y))/\(aa y==s_ "*")=false/\pn (aa y)=lo y/\((vv false y).length==0)=false:=by
 have q:=jW.mp (cw aif t ht) y hy
 injection q with q1 q2
 injection q2 with q2 q3
 injection q3 with q3 q4
 exact⟨q1,q2,q3,q4⟩
def Sd{L c t k:Nat}{m:Bool}(V:Vt c t):Fn aJ (L+1) 26 [jg t k m,.str (ask c)]=ab (.bool !(bh c (t+1)).isEmpty):=by
 have hag:∀a∈ag t k,a=s_ "*"∨((a==s_ "*")=false/\iV .lower (.str a) []=ab (.str (pn a))):=λa ha=>(br.mp ha).imp id λh=>by
  obtain⟨y,hy,e⟩:=dy.mp h
  obtain⟨q1,q2,q3,q4⟩:=Aq V.ht (uz.mp hy)
  exact e▸⟨q2,q3.symm▸q1⟩
 refine jd aip rfl (lb rfl (dI ((gH rfl).trans rfl) (dI (dH (aie V.hc)) ((aio (λr=>lh rfl) (ag t k) hag).trans (af (λb=>ab (T.bool b)) ?_)))))
 rw[<-V.told]
 refine xr.mpr (xi.trans (Vw ⟨?_,?_⟩ xi.symm))
 ·intro ⟨a,ha,h⟩
  obtain⟨h1,h2⟩:=an h
  rcases br.mp ha with e|h
  ·rw[e]at h1;exact aj h1 bT
  ·obtain⟨y,hy,e⟩:=dy.mp h
   have hy:=uz.mp hy
   exact⟨y,hy,by rw[<-(Aq V.ht hy).2.2.1,e];exact h2⟩
 ·intro ⟨y,hy,h⟩
  refine⟨aa y,bS _ (dy.mpr ⟨y,uz.mpr hy,rfl⟩),?_⟩
  rw[(Aq V.ht hy).2.1,(Aq V.ht hy).2.2.1,h]
  rfl
noncomputable def em(o:Option Str):Bool:=o.elim false λv=>v.length==0
noncomputable def oC(s:Int×Option Str)(x:Int×Str):Int×Option Str:=if x.1=0 then s else if s.1<x.1 then(x.1,ab x.2)else if x.1=s.1/\em s.2=true then(s.1,ab x.2)else s
def ais{l:List (Int×Str)}(h:∀x∈l,x.1=0){s:Int×Option Str}:l.foldl oC s=s:=by
 induction l with
 |nil=>rfl
 |cons x l ih=>exact(af (l.foldl oC) (ah (h x bk))).trans (ih λy hy=>h y (bS _ hy))
def reach{M:Int}{X:Str}(hM:M≠0)(hX:em (ab X)=false){l:List (Int×Str)}:∀{s:Int×Option Str},(∀x∈l,x.1<=M/\(x.1=M->x.2=X∨em (ab x.2)=true))->(s=(M,ab X)∨((M,X)∈l/\(s.1<M∨(s.1=M/\em s.2=true))))->l.foldl oC s=(M,ab X):=by
 induction l with
 |nil=>exactλv q=>q.elim id λq=>aj q.1 gM
 |cons x l ih=>
  intro s h q
  have hl:=λy hy=>h y (bS _ hy)
  obtain⟨h1,h2⟩:=h x bk
  refine ih (s:=oC s x) hl ?_
  unfold oC
  by_cases z:x.1=0
  ·rw[ah z]
   exact q.imp id λq=>⟨(br.mp q.1).resolve_left λe=>hM (by rw[<-z,<-e]),q.2⟩
  ·rw[ai z]
   by_cases e:x.1=M
   ·rcases q with q|⟨q1,q2⟩
    ·rw[q,e,ai (TF M),ai λw=>bT (hX.symm.trans w.2)]
     exact .inl rfl
    ·have q3:(if s.1<x.1 then(x.1,ab x.2)else if x.1=s.1/\em s.2=true then(s.1,ab x.2)else s)=(M,ab x.2):=by
      rcases q2 with q2|q2
      ·rw[ah (e▸q2),e]
      ·rw[ai (by rw[e,q2.1];exact TF M),ah ⟨e.trans q2.1.symm,q2.2⟩,q2.1]
     rw[q3]
     rcases h2 e with g|g
     ·exact .inl (by rw[g])
     ·exact .inr ⟨(br.mp q1).resolve_left λw=>bT (hX.symm.trans ((af (λp:Int×Str=>em (ab p.2)) w).trans g)),.inr ⟨rfl,g⟩⟩
   ·have lt:=Int.lt_iff_le_and_ne.mpr ⟨h1,e⟩
    rcases q with q|⟨q1,q2⟩
    ·rw[q,ai (lr.mpr h1),ai λw=>e w.1]
     exact .inl rfl
    ·refine .inr ⟨(br.mp q1).resolve_left λw=>e (by rw[<-w]),?_⟩
     by_cases g:s.1<x.1
     ·rw[ah g];exact .inl lt
     ·rw[ai g]
      by_cases g2:x.1=s.1/\em s.2=true
      ·rw[ah g2];exact .inl (g2.1▸lt)
      ·rw[ai g2];exact q2
noncomputable def pg(o:Option Str):T:=o.elim (.bool true) .str
def ait(o:Option Str):(pg o).plain=true/\(pg o).truth=!em o:=by cases o with|none=>exact⟨rfl,rfl⟩|some v=>exact⟨rfl,rfl⟩
noncomputable def Se:S:=.seq (.asg 5 (.bE 28 (.var 4) (.cons (.var 1) .nil))) (.seq (.bN (.var 5) (.seq (.bN (.cmp .gt (.var 5) (.var 2)) (.seq (.asg 2 (.var 5)) (.seq (.asg 3 (.attr (.var 4) 100)) .skip)) (.seq (.bN (.ju (.cmp .eq (.var 5) (.var 2)) (.mM (.var 3))) (.seq (.asg 3 (.attr (.var 4) 100)) .skip) .skip) .skip)) .skip) .skip) .skip)
def aiu{L c:Nat}{x0 x5:Option T}{s:Int×Option Str}{y:Str×Str}(hy:y.1.length<=100):ex (Fn aJ (L+1)) Se [x0,ab (tx c),ab (.int s.1),ab (pg s.2),ab (sf y),x5]=ab (.next,[x0,ab (tx c),ab (.int (oC s (vl c y.1,y.2)).1),ab (pg (oC s (vl c y.1,y.2)).2),ab (sf y),ab (.int (vl c y.1))]):=by
 refine sq (dH (fX rfl (aI rfl rfl) (aih hy))) (jf.trans ?_)
 generalize vl c y.1=v
 unfold oC
 by_cases z:v=0
 ·rw[ah z]
  exact(gH (jL (x:=.int v) rfl rfl (bne_eq_false_iff_eq.mpr z))).trans rfl
 ·rw[ai z]
  refine(jb (jL (x:=.int v) rfl rfl (bne_iff_ne.mpr z))).trans (jf.trans ?_)
  by_cases g:s.1<v
  ·rw[ah g]
   exact(jb (jL (x:=.bool true) (fN (o:=.gt) (x:=.int v) (y:=.int s.1) rfl rfl (af ab (ar g))) rfl rfl)).trans rfl
  ·rw[ai g]
   refine(gH (jL (x:=.bool false) (fN (o:=.gt) (x:=.int v) (y:=.int s.1) rfl rfl (af ab (av g))) rfl rfl)).trans (jf.trans ?_)
   obtain⟨p1,p2⟩:=ait s.2
   have hn:ev (Fn aJ (L+1)) (.mM (.var 3)) [x0,ab (tx c),ab (.int s.1),ab (pg s.2),ab (sf y),ab (.int v)]=ab (.bool (em s.2)):=(ah p1).trans (by rw[p2,Bool.not_not])
   have ha:a9 (Fn aJ (L+1)) (.ju (.cmp .eq (.var 5) (.var 2)) (.mM (.var 3))) [x0,ab (tx c),ab (.int s.1),ab (pg s.2),ab (sf y),ab (.int v)]=ab (v==s.1&&em s.2):=by
    refine jL (x:=.bool (v==s.1&&em s.2)) ?_ rfl rfl
    show(if(v==s.1)=true then ev (Fn aJ (L+1)) (.mM (.var 3)) [x0,ab (tx c),ab (.int s.1),ab (pg s.2),ab (sf y),ab (.int v)]else ab (.bool (v==s.1)))=_
    rw[hn]
    cases v==s.1<;>rfl
   by_cases g2:v=s.1/\em s.2=true
   ·rw[ah g2]
    exact(jb (ha.trans (by rw[g2.2,aw.mpr g2.1];rfl))).trans rfl
   ·rw[ai g2]
    exact(gH (ha.trans (af ab (px.mpr λq=>g2 ⟨ao (an q).1,(an q).2⟩)))).trans rfl
def aiv{t:Nat}(ht:t<4):∀y∈fh t,y.length<=100:=(Cs t ht).2
def Sf{L c t k:Nat}{m:Bool}(V:Vt c t):Fn aJ (L+2) 27 [jg t k m,tx c]=ab (pg ((bh c (t+1)).getLast?.map λp=>vv false (gW c p t))):=by
 have hm:∀y∈rl t k m,y.1∈fh t/\(y.2=vv false y.1∨y.2=s_ ""):=λy hy=>by
  have key:∀(l:List Str)m,(∀z∈l,z∈fh t)->y∈l.map (λz=>(z,vv m z))->y.1∈fh t/\(y.2=vv false y.1∨y.2=s_ ""):=λl m hl hy=>by
   obtain⟨z,hz,e⟩:=dy.mp hy
   subst e
   refine⟨hl z hz,?_⟩
   cases m with
   |false=>exact .inl rfl
   |true=>exact .inr rfl
  exact(u7.mp hy).elim (key _ _ λz=>uz.mp) (key _ _ λz=>id)
 obtain⟨r',g1,y4,y5,e⟩:=nk (body:=λy r'=>(ab (put r' 4 y)).bind (ex (Fn aJ (L+1)) Se)) (inj:=sf) (P:=λp r=>∃x4 x5,r=[ab (jg t k m),ab (tx c),ab (.int ((p.map λy=>(vl c y.1,y.2)).foldl oC (-1,ae)).1),ab (pg ((p.map λy=>(vl c y.1,y.2)).foldl oC (-1,ae)).2),x4,x5]) (l:=rl t k m) (λp a s hp r h=>by
  obtain⟨x4,x5,e⟩:=h
  subst e
  refine⟨_,aiu (aiv V.ht a.1 (hm a (hp▸mE _ bk)).1),ab (sf a),ab (.int (vl c a.1)),?_⟩
  rw[mD,tD]
  rfl) (r:=[ab (jg t k m),ab (tx c),ab (.int (-1)),ab (.bool true),ae,ae]) ⟨ae,ae,rfl⟩
 subst e
 refine jd aiq rfl (lb rfl (dI (dH rfl) (dI (dH rfl) (dI g1 (lh (af ab (af pg ?_)))))))
 cases e:(bh c (t+1)).getLast? with
 |none=>
  have q:=V.en (apz.mp e)
  rw[ais λx hx=>by
   obtain⟨y,hy,e⟩:=dy.mp hx
   exact e▸q y.1 (hm y hy).1]
  rfl
 |some p=>
  obtain⟨q1,q2,q3⟩:=V.es p e
  have R:((rl t k m).map λy=>(vl c y.1,y.2)).foldl oC (-1,ae)=(((p+1:Nat):Int),ab (vv false (gW c p t))):=by
   refine reach (λw=>apA p (Int.ofNat.inj w)) (Aq V.ht q3).2.2.2 (λx hx=>?_) (.inr ⟨dy.mpr ⟨(gW c p t,vv false (gW c p t)),?_,af (λi=>(i,vv false (gW c p t))) q2⟩,.inl (AI (by decide) (cx _))⟩)
   ·obtain⟨y,hy,e⟩:=dy.mp hx
    subst e
    obtain⟨h1,h2⟩:=hm y hy
    exact⟨(q1 y.1 h1).1,λw=>h2.imp (λz=>(q1 y.1 h1).2 w▸z) λz=>by rw[z];rfl⟩
   ·cases m with
    |false=>exact AV _ (dy.mpr ⟨_,uz.mpr q3,rfl⟩)
    |true=>exact mE _ (dy.mpr ⟨_,q3,rfl⟩)
  rw[R]
  rfl
noncomputable def Ar:Ex:=.cY false (.var 7) (.lit (.int 1)) (.neg (.lit (.int 1)))
noncomputable def Sg:Ex:=.sm .rfind (.var 1) (.cons (.bin .add (.bin .add (.lit (.str (s_ "r"))) Ar) (.lit (.str (s_ "u")))) .nil)
noncomputable def b13:Ex:=.bin .add (.bin .add (.cY false (.var 1) .absent (.idx (.var 4) (.neg (.lit (.int 1))))) (.var 7)) (.cY false (.var 1) (.bin .add (.bin .add (.idx (.var 4) (.neg (.lit (.int 1)))) (.var 2)) (.lit (.int 1))) .absent)
noncomputable def H8:Ex:=.bin .pow (.neg (.lit (.int 1))) (.sm .count Ar (.cons (.lit (.str (s_ "u"))) .nil))
noncomputable def Sh(x v t:T)(o:Option T):Option T:=((o.bind λz=>mJ false x .none z).bind λa=>a8 .add a v).bind λb=>(((o.bind λz=>a8 .add z t).bind λz=>a8 .add z (.int 1)).bind λz=>mJ false x z .none).bind λd=>a8 .add b d
noncomputable def Si(y:Str):Int:=if(y.cps.toList.filter (· ==117)).length%2=0 then 1 else -1
def aix{F:Nat->List T->Option T}{x0 x1 x2 x3 x4 x5 x6:Option T}:(tab 4 λt=>(fh t).map λy=>(ev F (.bin .add (.bin .add (.lit (.str (s_ "r"))) Ar) (.lit (.str (s_ "u")))) [x0,x1,x2,x3,x4,x5,x6,ab (.str (vv false y))],ev F H8 [x0,x1,x2,x3,x4,x5,x6,ab (.str (vv false y))]))
  =cU 4 λt=>(fh t).map λy=>(ab (.str (lo y)),ab (.int (Si y))):=by kernel_rfl
noncomputable def Sj(c:Nat):List (Option (Option T)):=tab 4 λt=>(bh c (t+1)).getLast?.map λp=>Sh (tx c) (.str (vv false (gW c p t))) (iT (t+1)) (ab (iT p))
noncomputable def Sk(c:Nat):List (Option (Option T)):=cU 4 λt=>(bh c (t+1)).getLast?.map λp=>ab (tx (dJ c p (t+1)))
noncomputable def H9(c t:Nat):Bool:=(bh c (t+1)).getLast?.elim true λp=>wy c (t+1)==p::wy (dJ c p (t+1)) (t+1)&&Si (gW c p t)==sg c p (t+1)
noncomputable def Sl(c:Nat):List Bool:=tab 4 (H9 c)
def cu0:p1 Sj Sk 0:=by kernel_rfl
def cu1:p1 Sj Sk 1:=by kernel_rfl
def ow0:p1 Sl pf 0:=by kernel_rfl
def ow1:p1 Sl pf 1:=by kernel_rfl
def aiC{a:Int}{p:Nat}(h:a+1=(p+1:Nat)):a=p:=(qF a 1).symm.trans ((af (· - 1) h).trans (qF (p:Int) 1))
def aiD{w:List T}{x:T}:kB (.lst (w++[x])) (.int (-1))=ab x:=by
 show(f9 (-1) (w++[x]).length).bind ((w++[x])[·]?)=_
 have e:f9 (-1) (w++[x]).length=ab w.length:=by
  have h:(if(-1:Int)<0 then -1+((w++[x]).length:Int)else -1)=(w.length:Int):=by
   rw[ah (by decide),bQ]
   show -1+((w.length:Int)+1)=_
   rw[vk]
   exact qF (w.length:Int) 1
  unfold f9
  rw[h]
  show(if(decide (0<=(w.length:Int))&&decide ((w.length:Int)<((w++[x]).length:Int)))=true then ab (w.length:Int).toNat else ae)=_
  rw[ar (cx _),ar (fA.mpr (by rw[bQ];exact iq _))]
  rfl
 rw[e]
 show(w++[x])[w.length]?=_
 rw[DL (bj _),DY]
 rfl
noncomputable def Ia:S:=.seq (.app 5 (.bE 26 (.var 0) (.cons (.bin .add (.bin .add (.lit (.str (s_ "*"))) (.call 6 (.cons (.var 1) (.cons (.lit (.str (s_ "r"))) .nil)))) (.lit (.str (s_ "/ruuuu/")))) .nil))) (.seq (.asg 7 (.bE 27 (.var 0) (.cons (.var 1) .nil))) (.seq (.bN (.qR false (.var 7) (.bool true)) (.seq .brk .skip) .skip) (.seq (.app 4 Sg) (.seq (.asg 1 b13) (.seq (.aug 3 .mul H8) .skip)))))
noncomputable def uO(M:T)(t c:Nat)(s:Int)(w:List Nat)(d:List T)(x6 x7:Option T):aE:=[ab M,ab (tx c),ab (iT (t+1)),ab (.int s),ab (.lst (intsOf w)),ab (.lst d),x6,x7]
section
variable{L c t k:Nat}{m:Bool}{s:Int}{w:List Nat}{d:List T}{x6 x7:Option T}
def aiE(V:Vt c t)(hd:d.length<=100)(e:bh c (t+1)=[]):ex (Fn aJ (L+2)) Ia (uO (jg t k m) t c s w d x6 x7)=ab (.brk,uO (jg t k m) t c s w (d++[.bool false]) x6 (ab (.bool true))):=by
 have h1:=Sd (L:=L+1) (k:=k) (m:=m) V
 have h2:=Sf (L:=L) (k:=k) (m:=m) V
 rw[e]at h1 h2
 refine sq (r0 rfl (fX rfl (aI (R8 V.hc) rfl) h1) (aD (cX hd) (by decide))) ?_
 exact sq (dH (fX rfl (aI rfl rfl) h2)) rfl
def aiF{p:Nat}(V:Vt c t)(hd:d.length<=100)(hw:w.length<=100)(hs:un s=true)(e:(bh c (t+1)).getLast?=ab p):p∈bh c (t+1)/\wy c (t+1)=p::wy (dJ c p (t+1)) (t+1)/\ex (Fn aJ (L+2)) Ia (uO (jg t k m) t c s w d x6 x7)=ab (.next,uO (jg t k m) t (dJ c p (t+1)) (s*sg c p (t+1)) (w++[p]) (d++[.bool true]) x6 (ab (.str (vv false (gW c p t))))):=by
 have hp:=List.mem_of_getLast? e
 have h1:=Sd (L:=L+1) (k:=k) (m:=m) V
 have h2:=Sf (L:=L) (k:=k) (m:=m) V
 obtain⟨q1,q2,q3⟩:=V.es p e
 have ok:H9 c t=true:=cw (gV ow0 ow1 V.hc) t V.ht
 unfold H9 at ok
 have cut:=cw (gV cu0 cu1 V.hc) t V.ht
 rw[e]at ok h2 cut
 replace cut:=Option.some.inj cut
 obtain⟨HS,ok2⟩:=an ok
 have mid:=λx0 x1 x2 x3 x4 x5 x6=>jW.mp (cw (aix (F:=Fn aJ (L+2)) (x0:=x0) (x1:=x1) (x2:=x2) (x3:=x3) (x4:=x4) (x5:=x5) (x6:=x6)) t V.ht) _ q3
 have aiH:∀{x0 x1 x2 x3 x4 x5 x6:Option T},ev (Fn aJ (L+2)) (.bin .add (.bin .add (.lit (.str (s_ "r"))) Ar) (.lit (.str (s_ "u")))) [x0,x1,x2,x3,x4,x5,x6,ab (.str (vv false (gW c p t)))]=ab (.str (lo (gW c p t))):=λ{x0 x1 x2 x3 x4 x5 x6}=>af Prod.fst (mid x0 x1 x2 x3 x4 x5 x6)
 have aiI:∀{x0 x1 x2 x3 x4 x5 x6:Option T},ev (Fn aJ (L+2)) H8 [x0,x1,x2,x3,x4,x5,x6,ab (.str (vv false (gW c p t)))]=ab (.int (sg c p (t+1))):=λ{x0 x1 x2 x3 x4 x5 x6}=>(af Prod.snd (mid x0 x1 x2 x3 x4 x5 x6)).trans (af (λi=>ab (T.int i)) (ao ok2))
 rw[show(bh c (t+1)).isEmpty=false from px.mpr λz=>aj hp (by rw[A9.mp z];exact gM)]at h1
 have hS:=(place V.hc ⟨eG t,aD V.ht (by decide)⟩).strip hp
 refine⟨hp,ao HS,?_⟩
 refine sq (r0 rfl (fX rfl (aI (R8 V.hc) rfl) h1) (aD (cX hd) (by decide))) ?_
 refine sq (dH (fX rfl (aI rfl rfl) h2)) (sq ((gH rfl).trans rfl) ?_)
 have ha:∀{r:aE},ev (Fn aJ (L+2)) (.bin .add (.bin .add (.lit (.str (s_ "r"))) Ar) (.lit (.str (s_ "u")))) r=ab (.str (lo (gW c p t)))->get r 1=ab (tx c)->ev (Fn aJ (L+2)) Sg r=ab (iT p):=λh1 h2=>pe h2 (aI h1 rfl) (af (λi=>ab (T.int i)) (by
  show xn (txt c) (lo (gW c p t))=_
  exact aiC q2))
 refine sq (r0 rfl (ha aiH rfl) (by rw[kh];exact aD (cX hw) (by decide))) ?_
 refine sq (dH (x:=tx (dJ c p (t+1))) ?_) ?_
 ·refine AZ ?_ ((af (Sh _ _ _) (aiD (w:=intsOf w) (x:=iT p))).trans cut)
  rfl
 refine sq (pb rfl aiI ((ah rfl).trans (CV hs hS.hu).1)) ?_
 unfold uO
 rw[<-ints_app]
 rfl
def aiJ{F:T->aE->Option (Fl×aE)}{x:T}{l:List T}{r r':aE}(h:F x r=ab (.brk,r')):b6 F (x::l) r=ab (.next,r'):=af (·.bind (nN (b6 F l))) h
def Fd(ht:t<4)(n:Nat):∀{c:Nat}{s:Int}{w:List Nat}{d:List T}{x6 x7:Option T}{l:List T},bf c=true->un s=true->(wy c (t+1)).length=n->n<l.length->d.length+n<=50->w.length+n<=50->∃y6 y7,b6 (λy r'=>(ab (put r' 6 y)).bind (ex (Fn aJ (L+2)) Ia)) l (uO (jg t k m) t c s w d x6 x7)=ab (.next,uO (jg t k m) t (co c (t+1)) (s*sn c (t+1)) (w++wy c (t+1)) (d++(bZ n (.bool true)++[.bool false])) y6 y7):=by
 induction n with
 |zero=>
  intro c s w d x6 x7 l hc hs hm hl hd hw
  have P:=place hc (t:=t+1) ⟨eG t,aD ht (by decide)⟩
  have e:bh c (t+1)=[]:=apu λq=>aj (P.hn q).2 (by rw[hm];exact apv 0)
  obtain⟨e1,e2,e3⟩:=P.hz e
  cases l with
  |nil=>exact aj hl (eY 0)
  |cons y l=>
   rw[e1,e2,e3,JY,kq]
   exact⟨_,_,aiJ (aiE (L:=L) (k:=k) (m:=m) (s:=s) (w:=w) (x6:=ab y) (x7:=x7) (vt hc ht) (aD hd (by decide)) e)⟩
 |succ n ih=>
  intro c s w d x6 x7 l hc hs hm hl hd hw
  have P:=place hc (t:=t+1) ⟨eG t,aD ht (by decide)⟩
  cases l with
  |nil=>exact aj hl (DT _)
  |cons y l=>
   cases e:(bh c (t+1)).getLast? with
   |none=>exact aj hm (by rw[(P.hz (apz.mp e)).2.2];exact Nat.noConfusion)
   |some p=>
    obtain⟨hp,h1,h2⟩:=aiF (L:=L) (k:=k) (m:=m) (s:=s) (w:=w) (d:=d) (x6:=ab y) (x7:=x7) (vt hc ht) (aD (aD (bX _ _) hd) (by decide)) (aD (aD (bX _ _) hw) (by decide)) hs e
    have S:=P.strip hp
    obtain⟨y6,y7,g⟩:=ih (c:=dJ c p (t+1)) (s:=s*sg c p (t+1)) (w:=w++[p]) (d:=d++[.bool true]) (x6:=ab y) (x7:=ab (.str (vv false (gW c p t)))) (l:=l) S.hc (CV hs S.hu).2 (Nat.succ.inj (S.hl.symm.trans hm)) (UX hl) (by rw[bQ,ku];exact hd) (by rw[bQ,ku];exact hw)
    rw[fu,apw,<-S.RN,<-S.RM,fu,show[p]++wy (dJ c p (t+1)) (t+1)=wy c (t+1)from h1.symm]at g
    exact⟨y6,y7,uL h2 g⟩
def aiK:rowOf 13=ab ⟨227,13,9,uc,NW,5,3⟩:=rfl
def aiL(hc:bf c=true)(ht:t<4):Fn aJ (L+3) 13 [jg t k m,tx c,iT (t+1)]=ab (.tup [tx (co c (t+1)),.int (sn c (t+1)),.lst (intsOf (wy c (t+1))),.lst (bZ (wy c (t+1)).length (.bool true)++[.bool false])]):=by
 have P:=place hc (t:=t+1) ⟨eG t,aD ht (by decide)⟩
 have hl:=P.hl
 obtain⟨y6,y7,g⟩:=Fd (L:=L) (k:=k) (m:=m) ht _ (c:=c) (s:=1) (w:=[]) (d:=[]) (x6:=ae) (x7:=ae) (l:=pG 0 14) hc rfl rfl (bI hl (by decide)) (aD (f6 hl 0) (by decide)) (aD (f6 hl 0) (by decide))
 rw[nF]at g
 refine jd aiK rfl (lb rfl (dI (nh (l:=[.int 1,.lst [],.lst []]) rfl (by show 3<=lim;decide) rfl) (dI g (CU (lh (je (aI rfl (aI rfl (aI rfl (aI rfl rfl)))) (show 4<=lim by decide)))))))
end
noncomputable def cV(x:Str)(w:Ws):T:=.ins 0 [.str x,iT w.n,iT w.nt,.tup [.tup (intsOf w.c),iT w.b],.bool (decide (w.c.length<=1))]
noncomputable def si(c:List Nat)(ts:Nat)(l:List Nat):Nat:=l.foldl (λa j=>a+(ts+j)/ts*c.getD (ts+j) 0) 0
noncomputable def lvl(w:Ws)(ts:Nat):Nat:=w.b+ts*(si w.c ts (bc (w.c.length - ts))+w.nt)
noncomputable def run(w:Ws):Nat:=max (w.c.length - 1) w.b
structure Wk(w:Ws):Prop where
 l:w.c.length<=1000
 b:w.b<=1000
 nt:w.nt<=1000
 x:∀x∈w.c,x<=1000
section
variable{F:Nat->List T->Option T}{r:aE}{a b:Ex}{m n L:Nat}{w v:Ws}{x y:Str}
def As{a:Nat}(h:0<m)(h2:m<=100000):a8 .fdiv (iT a) (iT m)=ab (iT (a/m)):=(ah ⟨pC (fA.mpr h),PW (bI h2 (by decide))⟩).trans (af (λi=>ab (T.int i)) (wC a m))
def sj{a:Nat}(h:0<m):a8 .mod (iT a) (iT m)=ab (iT (a%m)):=(ah (pC (fA.mpr h))).trans (af (λi=>ab (T.int i)) (CQ a m))
def Au(h:m<2^40)(h2:n<2^40):a8 .mul (iT m) (iT n)=ab (iT (m*n)):=Hz (aD (eA (bits_le h) (bits_le h2)) (by decide))
def Ib(ha:ev F a r=ab (iT m))(hb:ev F b r=ab (iT n))(hm:m<=60000)(hn:n<=60000):ev F (.mN a b) r=ab (.lst ((bc (n - m)).map λj=>iT (m+j))):=by
 show((ev F a r).bind (bp λm=>(ev F b r).bind (bp λn=>if -1000000<=m/\m<=1000000/\ -1000000<=n/\n - m<=lim/\n<=1000000 then ab (T.lst (pG m n))else ae)))=_
 rw[ha,hb]
 refine(ah ⟨dn (by decide) (cx m),dh.mpr (aD hm (by decide)),dn (by decide) (cx n),dn (Int.sub_le_self _ (cx m)) (dh.mpr (aD hn (by decide))),dh.mpr (aD hn (by decide))⟩).trans ?_
 show ab (T.lst ((bc ((n:Int) - (m:Int)).toNat).map λi=>.int ((m:Int)+(i:Nat))))=_
 rw[Int.toNat_sub]
 rfl
def aiM:rowOf 20=ab ⟨38,20,0,NX,NY,2,1⟩:=rfl
def aiN:rowOf 21=ab ⟨45,21,0,NZ,N0,4,2⟩:=rfl
def aiO:rowOf 23=ab ⟨59,23,0,N1,N6,3,2⟩:=rfl
def aiP:rowOf 24=ab ⟨66,24,0,N7,N8,2,2⟩:=rfl
def aiQ:rowOf 25=ab ⟨73,25,0,N9,Oa,3,2⟩:=rfl
def Sm(a b:Nat):(if(b:Int)>(a:Int)then(b:Int)else(a:Int))=((max a b:Nat):Int):=by
 by_cases h:a<b
 ·rw[ah (fA.mpr h),apC (cE h)]
 ·rw[ai λq=>h (fA.mp q),Nat.max_eq_left (eX.mp h)]
def aiR{k b:Nat}:(if(b:Int)>(k:Int) - 1 then(b:Int)else(k:Int) - 1)=((max (k - 1) b:Nat):Int):=by
 cases k with
 |zero=>exact(ah (AI (show(-1:Int)<0 by decide) (cx b))).trans (af (λn:Nat=>(n:Int)) (apC (dP b)).symm)
 |succ k=>
  rw[show((k+1:Nat):Int) - 1=k from qF (k:Int) 1]
  exact Sm k b
def Sn:Fn aJ (L+1) 20 [cV x w]=ab (iT (run w)):=by
 refine jd aiM rfl (lb rfl (dI (nc rfl rfl) (lh (iO (aI (aR (iO (aI rfl rfl) rfl) rfl rfl) (aI rfl rfl)) ?_))))
 show ab (T.int (if(w.b:Int)>((intsOf w.c).length:Int) - 1 then(w.b:Int)else((intsOf w.c).length:Int) - 1))=_
 rw[kh,aiR]
 rfl
def aiS{l:List Nat}(h:∀x∈l,x<=1000)(i:Nat):l.getD i 0<=1000:=by
 show l[i]?.getD 0<=_
 cases e:l[i]? with
 |none=>exact dP _
 |some x=>exact h x (dZ e)
def C1{ts:Nat}(h:Wk w)(h1:1<=ts)(h2:ts<=2000):Fn aJ (L+1) 21 [cV x w,iT ts]=ab (iT (lvl w ts)):=by
 obtain⟨r',g,⟨y5,e⟩,g3⟩:=nk (body:=λy r'=>(ab (put r' 5 y)).bind (ex (Fn aJ L) (.seq (.asg 4 (.bin .add (.var 4) (.bin .mul (.bin .fdiv (.var 5) (.var 1)) (.idx (.var 2) (.var 5))))) .skip))) (inj:=λj=>iT (ts+j)) (P:=λp r=>(∃x5,r=[ab (cV x w),ab (iT ts),ab (.tup (intsOf w.c)),ab (iT w.b),ab (iT (si w.c ts p)),x5])/\si w.c ts p<=p.length*10000000) (l:=bc (w.c.length - ts)) (λp j s hp r ⟨⟨x5,e⟩,hb⟩=>by
  subst e
  have hj:j<w.c.length - ts:=iw.mp (hp▸mE _ bk)
  have Ac:ts+j<w.c.length:=eE j ts▸Nat.add_lt_of_lt_sub hj
  have hx:=aiS h.x (ts+j)
  have hq:(ts+j)/ts<=1000:=aD (xU _ _) (aD (cE Ac) h.l)
  have e:si w.c ts (p++[j])=si w.c ts p+(ts+j)/ts*w.c.getD (ts+j) 0:=tD
  refine⟨_,sq (dH (x:=iT (si w.c ts p+(ts+j)/ts*w.c.getD (ts+j) 0)) (aR rfl (aR (aR rfl rfl (As h1 (aD h2 (by decide)))) (gq rfl rfl (G1 Ac)) (Au (bI hq (by decide)) (bI hx (by decide)))) rfl)) rfl,⟨ab (iT (ts+j)),by rw[e];rfl⟩,?_⟩
  rw[e,bQ,D4]
  exact eA hb (aD (yb hq hx) (show 1000*1000<=1*10000000 by decide))) (r:=[ab (cV x w),ab (iT ts),ab (.tup (intsOf w.c)),ab (iT w.b),ab (iT 0),ae]) ⟨⟨ae,rfl⟩,dP _⟩
 subst e
 have hi:si w.c ts (bc (w.c.length - ts))+w.nt<2^40:=bI (eA (aD g3 (nG _ (by rw[kr];exact aD (mA _ _) h.l))) h.nt) (by decide)
 refine jd aiN rfl (lb rfl (dI (nc rfl rfl) (dI (dH rfl) (dI (r':=[ab (cV x w),ab (iT ts),ab (.tup (intsOf w.c)),ab (iT w.b),ab (iT (si w.c ts (bc (w.c.length - ts)))),y5]) ?_ ?_))))
 ·exact wW (Ib (n:=w.c.length) rfl ((iO (aI rfl rfl) rfl).trans (af (λn=>ab (iT n)) (kh _))) (aD h2 (by decide)) (aD h.l (by decide))) rfl g
 ·exact lh (aR (x:=iT w.b) rfl (aR rfl (aR rfl rfl rfl) (Au (bI h2 (by decide)) hi)) rfl)
noncomputable def top(w v:Ws):Nat:=max (run w) (run v)+1
noncomputable def dX(x:Nat×Nat×Nat):T:=.tup [iT x.1,iT x.2.1,iT x.2.2]
noncomputable def wl(f:Nat->Nat->Bool)(w v:Ws)(l:List Nat):List (Nat×Nat×Nat):=(l.filter λi=>f (lvl w (1+i)) (lvl v (1+i))).map λi=>(1+i,lvl w (1+i),lvl v (1+i))
noncomputable def wit(f:Nat->Nat->Bool)(w v:Ws):List (Nat×Nat×Nat):=wl f w v (bc (top w v))
noncomputable def So:Ex:=.bin .add (.prim .max2 (.cons (.bE 20 (.var 0) .nil) (.cons (.bE 20 (.var 1) .nil) .nil))) (.lit (.int 1))
def Sp{t:aE}:ev (Fn aJ (L+1)) So (ab (cV x w)::ab (cV y v)::t)=ab (iT (top w v)):=by
 refine aR (x:=iT (max (run w) (run v))) (y:=iT 1) (iO (aI (fX rfl rfl Sn) (aI (fX rfl rfl Sn) rfl)) ?_) rfl rfl
 exact af (λi=>ab (T.int i)) (Sm _ _)
def Sq(h:Wk w)(g:Wk v):top w v<=1001:=cX (KS.mpr ⟨KS.mpr ⟨aD (mA _ _) h.l,h.b⟩,KS.mpr ⟨aD (mA _ _) g.l,g.b⟩⟩)
def Sr{o:qL}{f:Nat->Nat->Bool}(ho:∀a b:Nat,qM o (iT a) (iT b)=ab (f a b))(h:Wk w)(g:Wk v):kP (Fn aJ (L+1)) (.seq (.asg 2 So) (.seq (.own 3 (.lst .nil)) (.seq (.eV 4 (.mN (.lit (.int 1)) (.bin .add (.var 2) (.lit (.int 1)))) (.seq (.bN (.cmp o (.bE 21 (.var 0) (.cons (.var 4) .nil)) (.bE 21 (.var 1) (.cons (.var 4) .nil))) (.seq (.app 3 (.tup (.cons (.var 4) (.cons (.bE 21 (.var 0) (.cons (.var 4) .nil)) (.cons (.bE 21 (.var 1) (.cons (.var 4) .nil)) .nil))))) .skip) .skip) .skip)) (.gh [3] (.seq (.ret [] (.var 3)) .skip))))) 3 2 [cV x w,cV y v]=ab (.lst ((wit f w v).map dX)):=by
 have ht:=Sq h g
 obtain⟨r',q,y4,e⟩:=nk (body:=λy r'=>(ab (put r' 4 y)).bind (ex (Fn aJ (L+1)) (.seq (.bN (.cmp o (.bE 21 (.var 0) (.cons (.var 4) .nil)) (.bE 21 (.var 1) (.cons (.var 4) .nil))) (.seq (.app 3 (.tup (.cons (.var 4) (.cons (.bE 21 (.var 0) (.cons (.var 4) .nil)) (.cons (.bE 21 (.var 1) (.cons (.var 4) .nil)) .nil))))) .skip) .skip) .skip))) (inj:=λj=>iT (1+j)) (P:=λp r=>∃x4,r=[ab (cV x w),ab (cV y v),ab (iT (top w v)),ab (.lst ((wl f w v p).map dX)),x4]) (l:=bc (top w v)) (λp j s hp r ⟨x4,e⟩=>by
  subst e
  have hj:j<top w v:=iw.mp (hp▸mE _ bk)
  have hl:p.length<=1001:=aD (by have q:=af vx hp;rw[bQ,kr]at q;exact q▸bX _ _) ht
  have h2:1+j<=2000:=aD (f6 (cE (bG hj ht)) 1) (by decide)
  have l1:=C1 (L:=L) (x:=x) h (bX 1 j) h2
  have l2:=C1 (L:=L) (x:=y) g (bX 1 j) h2
  have hc:a9 (Fn aJ (L+1)) (.cmp o (.bE 21 (.var 0) (.cons (.var 4) .nil)) (.bE 21 (.var 1) (.cons (.var 4) .nil))) [ab (cV x w),ab (cV y v),ab (iT (top w v)),ab (.lst ((wl f w v p).map dX)),ab (iT (1+j))]=ab (f (lvl w (1+j)) (lvl v (1+j))):=jL (x:=.bool _) (fN (fX rfl (aI rfl rfl) l1) (fX rfl (aI rfl rfl) l2) (ho _ _)) rfl rfl
  unfold wl
  rw[List.filter_append,mD,mD]
  cases e:f (lvl w (1+j)) (lvl v (1+j))with
  |true=>
   rw[e]at hc
   rw[aps (p:=λi=>f (lvl w (1+i)) (lvl v (1+i))) e]
   refine⟨_,jf.trans ((jb hc).trans (sq (r0 (l:=(wl f w v p).map dX) rfl (je (aI rfl (aI (fX rfl (aI rfl rfl) l1) (aI (fX rfl (aI rfl rfl) l2) rfl))) (show 3<=lim by decide)) ?_) rfl)),ab (iT (1+j)),rfl⟩
   rw[bK]
   unfold wl
   rw[bK]
   exact aD (cX (aD (Vp _ _) hl)) (by decide)
  |false=>
   rw[e]at hc
   rw[apt (p:=λi=>f (lvl w (1+i)) (lvl v (1+i))) (by rw[e];exact bT)]
   exact⟨_,jf.trans ((gH hc).trans rfl),ab (iT (1+j)),by rw[List.filter_nil,DV,DV,kq];rfl⟩) (r:=[ab (cV x w),ab (cV y v),ab (iT (top w v)),ab (.lst []),ae]) ⟨ae,rfl⟩
 subst e
 refine lb rfl (dI (dH Sp) (dI (Af (x:=.lst []) rfl rfl) (dI (r':=[ab (cV x w),ab (cV y v),ab (iT (top w v)),ab (.lst ((wit f w v).map dX)),y4]) ?_ (CU (lh rfl)))))
 exact wW (Ib (n:=top w v+1) rfl rfl (by decide) (aD (cX ht) (by decide))) rfl q
def uP(a b:Nat):((a:Int)==(b:Int))=(a==b):=xr.mpr (aw.trans (Int.ofNat_inj.trans aw.symm))
def Ic(h:Wk w)(g:Wk v):Fn aJ (L+2) 23 [cV x w,cV y v]=ab (.lst ((wit (λa b=>!(a==b)) w v).map dX)):=jd aiO rfl (Sr (o:=.ne) (λa b=>af (λv=>ab !v) (uP a b)) h g)
def Ss(h:Wk w)(g:Wk v):Fn aJ (L+2) 25 [cV x w,cV y v]=ab (.lst ((wit (λa b=>decide (b<=a)) w v).map dX)):=jd aiQ rfl (Sr (o:=.ge) (λa b=>af ab (decide_eq_decide.mpr dh)) h g)
noncomputable def C2(w v:Ws)(j:Nat):Bool:=decide (lvl w (2+j)<lvl v (2+j))
noncomputable def sk(w v:Ws):Bool:=!decide (v.n<=w.n)&&(if(decide (w.c.length<=1)&&decide (v.c.length<=1))=true then decide (w.nt<=v.nt)else(bc (top w v+1 - 2)).all (C2 w v))
noncomputable def Ie:S:=.seq (.bN (.cmp .ge (.bE 21 (.var 0) (.cons (.var 3) .nil)) (.bE 21 (.var 1) (.cons (.var 3) .nil))) (.seq (.ret [] (.lit (.bool false))) .skip) .skip) .skip
def aiT{x2:Option T}{s:S}(hs:∀r,(ex (Fn aJ (L+1)) s r).bind cn=ab (.bool true))(h:Wk w)(g:Wk v)(l:List Nat):∀{x3:Option T},(∀j∈l,j<=1000)->((b6 (λy r'=>(ab (put r' 3 y)).bind (ex (Fn aJ (L+1)) Ie)) (l.map λj=>iT (2+j)) [ab (cV x w),ab (cV y v),x2,x3]).bind (mO (ex (Fn aJ (L+1)) s))).bind cn=ab (.bool (l.all (C2 w v))):=by
 induction l with
 |nil=>exactλz=>hs _
 |cons j l ih=>
  intro x3 hl
  have h2:2+j<=2000:=aD (f6 (hl j bk) 2) (by decide)
  have l1:=C1 (L:=L) (x:=x) h (aD (by decide) (bX 2 j)) h2
  have l2:=C1 (L:=L) (x:=y) g (aD (by decide) (bX 2 j)) h2
  have hc:a9 (Fn aJ (L+1)) (.cmp .ge (.bE 21 (.var 0) (.cons (.var 3) .nil)) (.bE 21 (.var 1) (.cons (.var 3) .nil))) [ab (cV x w),ab (cV y v),x2,ab (iT (2+j))]=ab (!C2 w v j):=jL (x:=.bool _) (fN (o:=.ge) (fX rfl (aI rfl rfl) l1) (fX rfl (aI rfl rfl) l2) (af ab ((decide_eq_decide.mpr (dh.trans eX.symm)).trans decide_not))) rfl rfl
  rw[Be]
  cases e:C2 w v j with
  |true=>
   rw[e]at hc
   exact(af (λo=>(o.bind (mO (ex (Fn aJ (L+1)) s))).bind cn) (uL (f:=λy r'=>(ab (put r' 3 y)).bind (ex (Fn aJ (L+1)) Ie)) (r:=[ab (cV x w),ab (cV y v),x2,x3]) (x:=iT (2+j)) (r':=[ab (cV x w),ab (cV y v),x2,ab (iT (2+j))]) (jf.trans ((gH hc).trans rfl)) rfl)).trans (ih λi hi=>hl i (bS _ hi))
  |false=>
   rw[e]at hc
   exact af (λo=>((o.bind (nN (b6 (λy r'=>(ab (put r' 3 y)).bind (ex (Fn aJ (L+1)) Ie)) (l.map λj=>iT (2+j))))).bind (mO (ex (Fn aJ (L+1)) s))).bind cn) (jf.trans ((jb hc).trans (sr (r5 (fz:=[]) (a:=.lit (.bool false)) (x:=.bool false) rfl))))
def Ig(h:Wk w)(g:Wk v):Fn aJ (L+2) 24 [cV x w,cV y v]=ab (.bool (sk w v)):=by
 have ht:=Sq h g
 have c1:a9 (Fn aJ (L+1)) (.cmp .ge (.attr (.var 0) 1) (.attr (.var 1) 1)) (start 2 [cV x w,cV y v])=ab (decide (v.n<=w.n)):=jL (x:=.bool _) (fN (o:=.ge) (x:=iT w.n) (y:=iT v.n) rfl rfl (af ab (decide_eq_decide.mpr dh))) rfl rfl
 have c2:a9 (Fn aJ (L+1)) (.ju (.attr (.var 0) 4) (.attr (.var 1) 4)) (start 2 [cV x w,cV y v])=ab (decide (w.c.length<=1)&&decide (v.c.length<=1)):=by
  refine jL (x:=.bool (decide (w.c.length<=1)&&decide (v.c.length<=1))) ?_ rfl rfl
  show(if decide (w.c.length<=1)=true then ab (T.bool (decide (v.c.length<=1)))else ab (T.bool (decide (w.c.length<=1))))=_
  cases decide (w.c.length<=1)<;>rfl
 refine jd aiP rfl (lb rfl ?_)
 unfold sk
 cases e:decide (v.n<=w.n)with
 |true=>rw[e]at c1;exact af (·.bind cn) (sr ((jb c1).trans (sr (r5 (fz:=[]) (a:=.lit (.bool false)) (x:=.bool false) rfl))))
 |false=>
  rw[e]at c1
  refine dI ((gH c1).trans rfl) ?_
  cases e2:(decide (w.c.length<=1)&&decide (v.c.length<=1))with
  |true=>
   rw[e2]at c2
   exact af (·.bind cn) (sr ((jb c2).trans (sr (r5 (fz:=[]) (fN (o:=.le) (a:=.attr (.var 0) 2) (b:=.attr (.var 1) 2) (x:=iT w.nt) (y:=iT v.nt) rfl rfl (af ab (decide_eq_decide.mpr dh)))))))
  |false=>
   rw[e2]at c2
   refine dI ((gH c2).trans rfl) (dI (dH Sp) ?_)
   refine AZ (af (λo=>(o.bind (mO (ex (Fn aJ (L+1)) (.seq (.ret [] (.lit (.bool true))) .skip)))).bind cn) (wW (Ib (m:=2) (n:=top w v+1) rfl rfl (by decide) (aD (cX ht) (by decide))) rfl rfl)) (aiT (λr=>lh rfl) h g (bc (top w v+1 - 2)) λj hj=>aD (cE (iw.mp hj)) (aD (JS (cX ht) 2) (by decide)))
end
noncomputable def d6(l:List Nat):Bool->List Nat:=l.rec (λz=>[]) λc z ih st=>if c=114 then 114::ih true else jM st false::ih false
def Ul(l:List Nat):Prop:=∀d∈l,d=117∨d=85
def C3(d:Nat)(h:d=117∨d=85):VF d=[85]/\apD d=[117]/\(d==931)=false/\d≠114:=by
 rcases h with e|e<;>subst e<;>exact⟨by kernel_rfl,by kernel_rfl,rfl,by decide⟩
def uH{w:List Nat}(h:Ul w):d6 w false=w.map λz=>117:=by
 induction w with
 |nil=>rfl
 |cons d w ih=>exact(ai (C3 d (h d bk)).2.2.2).trans (af (117::·) (ih λe he=>h e (bS _ he)))
def aiU{r:List Nat}(p:List Nat):∀{st:Bool},d6 (p++114::r) st=d6 p st++114::d6 r true:=by
 induction p with
 |nil=>exactλ{st}=>(ah rfl:(if 114=114 then 114::d6 r true else jM st false::d6 r false)=114::d6 r true)
 |cons d p ih=>
  intro st
  show(if d=114 then 114::d6 (p++114::r) true else jM st false::d6 (p++114::r) false)=(if d=114 then 114::d6 p true else jM st false::d6 p false)++114::d6 r true
  by_cases e:d=114
  ·rw[ah e,ah e,ih];rfl
  ·rw[ai e,ai e,ih];rfl
def aiV(w:List Nat):((w.map λz=>(#[117]:Array Nat)).map JU).flatten=w.map λz=>117:=by
 induction w with
 |nil=>rfl
 |cons d w ih=>exact af (117::·) ih
def Su{s:Str}(h:Ul s.cps.toList):xZ s=⟨(d6 s.cps.toList true).toArray⟩:=by
 obtain⟨⟨w⟩⟩:=s
 cases w with
 |nil=>rfl
 |cons c w=>
  have hw:Ul w:=λe he=>h e (bS _ he)
  have e1:d6 (c::w) true=85::w.map λz=>117:=(ai (C3 c (h c bk)).2.2.2).trans (af (85::·) (uH hw))
  refine(ai (show¬((c::w).length==0)=true fromλq=>apA _ (ao q))).trans ?_
  show(⟨placed ⟨⟨c::w⟩⟩ λi d=>if(i==0)=true then VF d else KU ⟨c::w⟩ i⟩:Str)=⟨(d6 (c::w) true).toArray⟩
  rw[e1]
  refine af AG (JV.mp ?_)
  unfold placed
  rw[Array.toList_flatten,Array.toList_mapIdx]
  have e2:List.mapIdx (λi d=>(if(i==0)=true then VF d else KU ⟨c::w⟩ i).toArray) (c::w)= #[85]::w.map λz=> #[117]:=by
   refine DO λi=>?_
   rw[List.getElem?_mapIdx]
   cases i with
   |zero=>exact af (λl:List Nat=>ab l.toArray) (C3 c (h c bk)).1
   |succ i=>
    show w[i]?.map _=(w.map _)[i]?
    rw[gL]
    cases e:w[i]? with
    |none=>rfl
    |some d=>
     obtain⟨u1,u2,u3,u4⟩:=C3 d (hw d (dZ e))
     refine af (λl:List Nat=>ab l.toArray) ?_
     show KU ⟨c::w⟩ (i+1)=[117]
     unfold KU
     rw[show(⟨c::w⟩:Array Nat)[i+1]?=ab d from(xw (xs:=⟨c::w⟩)).symm.trans e]
     show(if(d==931&&Unicode.endsWord ⟨c::w⟩ (i+1))=true then[962]else apD d)=_
     rw[u3]
     exact u2
  rw[e2]
  show[85]++((w.map λz=>(#[117]:Array Nat)).map JU).flatten=_
  rw[aiV]
  rfl
def wZ(a b:Str):(a++b).cps.toList=a.cps.toList++b.cps.toList:=by rw[Str.cps_append,TB]
def aiW(ps:List Str):(∀p∈ps,Ul p.cps.toList)->(Bg ⟨#[114]⟩ (ps.map xZ)).cps.toList=d6 (Bg ⟨#[114]⟩ ps).cps.toList true:=by
 induction ps with
 |nil=>exactλz=>rfl
 |cons p ps ih=>
  intro h
  cases ps with
  |nil=>exact af (λs:Str=>s.cps.toList) (Su (h p bk))
  |cons q ps=>
   have ih:=ih λx hx=>h x (bS _ hx)
   show(xZ p++⟨#[114]⟩++Bg ⟨#[114]⟩ ((q::ps).map xZ)).cps.toList=d6 (p++⟨#[114]⟩++Bg ⟨#[114]⟩ (q::ps)).cps.toList true
   rw[wZ,wZ,wZ,wZ,ih,Su (h p bk),fu,fu]
   exact(aiU _).symm
def mem_join(d:Nat)(ps:List Str):∀p∈ps,d∈p.cps.toList->d∈(Bg ⟨#[114]⟩ ps).cps.toList:=by
 induction ps with
 |nil=>exactλp hp=>aj hp gM
 |cons q ps ih=>
  intro p hp hd
  cases ps with
  |nil=>exact b4.mp hp▸hd
  |cons q' ps=>
   show d∈(q++⟨#[114]⟩++Bg ⟨#[114]⟩ (q'::ps)).cps.toList
   rw[wZ,wZ]
   exact(br.mp hp).elim (λe=>AV _ (AV _ (e▸hd))) λh=>mE _ (ih p h hd)
def Sv(ps:List Str):hU (ps.map .str)=ab ps:=by
 induction ps with
 |nil=>rfl
 |cons p ps ih=>exact af (·.map (p::·)) ih
open PySem.Builtin.Str PySem.StrLaws in
def aiX{L:Nat}{s:Str}(hs:s.length<=8)(h:∀d∈s.cps.toList,d=114∨d=117∨d=85)(hl:(d6 s.cps.toList true).length<=8):Fn aJ (L+1) 6 [.str s,.str (s_ "r")]=ab (.str ⟨(d6 s.cps.toList true).toArray⟩):=by
 have er:s_ "r"=⟨#[114]⟩:=rfl
 show CH s (s_ "r")=_
 rw[er]
 have hn:=aAJ s ⟨#[114]⟩
 have hp:∀p∈Txt.split s ⟨#[114]⟩,p.length<=8/\Ul p.cps.toList:=λp hp=>⟨aD (aAK hp) hs,λd hd=>(h d (by
  have q:=mem_join d _ p hp hd
  rw[apF]at q
  exact q)).resolve_left λe=>aAL s 114 p hp (e▸hd)⟩
 have hj:=aiW _ λp q=>(hp p q).2
 rw[apF]at hj
 have ej:fm ⟨#[114]⟩ (m7 (Txt.split s ⟨#[114]⟩))=⟨(d6 s.cps.toList true).toArray⟩:=(aAM _ _).trans (af AG (JV.mp hj))
 have e1:iV .split1 (.str s) [.str ⟨#[114]⟩]=ab (.lst ((Txt.split s ⟨#[114]⟩).map .str)):=ah ⟨rfl,aD (bO (length_partsBetween ..)) (aD (cX (occ_length_le ..)) (aD (cR hs 2) (by decide))),aD hn (aD (cR hs 2) (by decide)),bA.mpr λp q=>ar (aD (hp p q).1 (by decide))⟩
 unfold CH
 rw[e1]
 show(hU ((Txt.split s ⟨#[114]⟩).map .str)).bind _=_
 rw[Sv]
 refine(ah ⟨⟨?_,?_⟩,?_,?_⟩).trans (af (λx=>ab (T.str x)) ej)
 ·rw[bK];exact aD hn (aD (cR hs 2) (by decide))
 ·exact bA.mpr λp q=>by rw[Ey (aD (len_capitalized p) (aD (ko 3 (hp p q).1) (by decide)))];rfl
 ·exact af not (joinFits (B:=24) (λy hy=>by
   obtain⟨p,hq,e⟩:=dy.mp hy
   exact e▸aD (aAP p) (ko 3 (hp p hq).1)) (by
   have q:(m7 (Txt.split s ⟨#[114]⟩)).length<=10:=by unfold m7;rw[bK];exact aD hn (cR hs 2)
   exact aD (eA (nG 24 q) (nG 1 q)) (by decide)))
 ·rw[ej];exact aD hl (by decide)
noncomputable def Ih(s:S):S:=if h:s.ctorIdx=16 then S.seq.elim s h λz b=>b else s
noncomputable def nxS(s:S):S:=if h:(Ih s).ctorIdx=17 then S.gh.elim (Ih s) h λz b=>b else Ih s
noncomputable def gI(i:Nat):S:=i.rec zj λz s=>nxS s
structure Kn(r:aE)(l:List (Nat×T)):Prop where
 len:r.length=87
 g:∀k{v},l.lookup k=ab v->get r k=ab v
def Ii{r:aE}{k:Nat}{x:T}(h:k<r.length):get (put r k x) k=ab x:=by
 rw[get_eq,BH,List.getElem?_set_self h]
 rfl
section
variable{F:Nat->List T->Option T}{r:aE}{l:List (Nat×T)}{k n:Nat}{x y v:T}{A B:List T}{a b e:Ex}
def Kn.put(K:Kn r l)(hk:k<87):Kn (put r k v) ((k,v)::l):=⟨(af vx BH).trans ((Ke ..).trans K.len),λj{w}h=>by
 by_cases e:j=k
 ·subst e
  rw[cD,ax]at h
  exact(Ii (K.len▸hk)).trans h
 ·rw[cD,beq_false_of_ne e]at h
  exact(lZ e).trans (K.g j h)⟩
noncomputable def pick(l:List (Nat×T))(ks:List Nat):List (Nat×T):=ks.filterMap λk=>(l.lookup k).map (k,·)
def Kn.pick(K:Kn r l)(ks:List Nat):Kn r (pick l ks):=⟨K.len,λj{w}h=>K.g j (by
 induction ks with
 |nil=>exact aN (show ae=ab w from h)
 |cons i ks ih=>
  unfold Z.pick at h ih
  rw[J2]at h
  cases e:l.lookup i with
  |none=>rw[e]at h;exact ih h
  |some u=>
   rw[e]at h
   replace h:apx j ((i,u)::ks.filterMap λk=>(l.lookup k).map (k,·))=ab w:=h
   rw[cD]at h
   by_cases q:j=i
   ·subst q;rw[ax]at h;exact e.trans h
   ·rw[beq_false_of_ne q]at h;exact ih h)⟩
def Two(a:T):Prop:=∃x y,a=.tup [x,y]/\eqT x y=ab true
structure dK(A:List T)(n:Nat):Prop where
 l:A.length<=n
 h:∀a∈A,Two a
def dK.add{m:Nat}(h:dK A n)(g:dK B m):dK (A++B) (n+m):=⟨by rw[bQ];exact eA h.l g.l,λa q=>(u7.mp q).elim (h.h a) (g.h a)⟩
def dK.one(h:eqT x y=ab true):dK [.tup [x,y]] 1:=⟨bj _,λa q=>b4.mp q▸⟨x,y,rfl,h⟩⟩
def dK.cons(h:eqT x y=ab true)(g:dK B n):dK (.tup [x,y]::B) (n+1):=⟨cX g.l,λa q=>(br.mp q).elim (λe=>e▸⟨x,y,rfl,h⟩) (g.h a)⟩
def lq(ha:ev F a r=ab x)(hb:ev F b r=ab y):ev F (.tup (.cons a (.cons b .nil))) r=ab (.tup [x,y]):=je (aI ha (aI hb rfl)) (show 2<=lim by decide)
def xa(K:Kn r l)(h:l.lookup 16=ab (.lst A))(hA:dK A n)(hn:n<=60)(ha:ev F a r=ab x)(hb:ev F b r=ab y)(he:eqT x y=ab true):ex F (.app 16 (.tup (.cons a (.cons b .nil)))) r=ab (.next,put r 16 (.lst (A++[.tup [x,y]])))/\dK (A++[.tup [x,y]]) (n+1):=
 ⟨r0 (K.g 16 h) (lq ha hb) (aD (cX (aD hA.l hn)) (by decide)),hA.add (.one he)⟩
def asks{m:Nat}(K:Kn r l)(h:l.lookup 16=ab (.lst A))(hA:dK A n)(hn:n<=60)(hm:m<=60)(hB:dK B m)(he:ev F e r=ab (.tup B)):ex F (.ext 16 (.lst e)) r=ab (.next,put r 16 (.lst (A++B))):=
 ag8 (K.g 16 h) (kZ he (aD hB.l (aD hm (by decide)))) (aD (eA (aD hA.l hn) (aD hB.l hm)) (by decide))
def eq_nil:eqT (.lst []) (.lst [])=ab true:=by kernel_rfl
def ai0(K:Kn r l)(h:l.lookup 16=ab (.lst A))(hA:dK A n):(ex F (gI 40) r).bind cn=ab (.bool true):=by
 refine lh (fN (o:=.eq) (v:=true) (x:=.lst ((A.filter λz=>false).map id)) (HY (st:=λa=>(bH (putAll r [85,86]) a).getD r) (inj:=id) (K.g 16 h) (by rw[DD];rfl) λa ha=>?_) (kZ rfl (by decide)) ?_)
 ·obtain⟨x,y,e,he⟩:=hA.h a ha
  subst e
  have h1:get (put (put r 85 x) 86 y) 85=ab x:=(lZ (by decide)).trans (Ii (by rw[K.len];decide))
  have h2:get (put (put r 85 x) 86 y) 86=ab y:=Ii (by show _<((put r 85 x)).length;rw[(K.put (v:=x) (k:=85) (by decide)).len];decide)
  exact⟨rfl,.bool false,fN (o:=.ne) h1 h2 (af (·.map not) he),rfl,rfl,λq=>aj q bT⟩
 ·rw[show A.filter (λz=>false)=[]from List.filter_eq_nil_iff.mpr λz z=>bT]
  exact eq_nil
end
noncomputable def su(c:Nat):List Nat:=((bc 8).filter λi=>!c.testBit i).map λi=>((bc i).filter λj=>c.testBit j).length
noncomputable def ai1(r:List Nat):List Nat:=(bc r.length).flatMap λa=>(bc (r.getD a 0)).map λk=>r.getD a 0 - k+((bc a).filter λb=>decide (k<r.getD b 0)).length
noncomputable def hk(c:Nat):List Nat:=ai1 (su c)
noncomputable def ph(f:Nat->Nat)(l:List Nat):List Nat:=(l.map λh=>bZ (f h) 32++[9]).flatten
noncomputable def ai2(l:List Nat)(z:Nat):List Nat:=ph (λh=>h - 1) l++(bZ z 32++[120,32,9])
noncomputable def Sw(l:List Nat)(z:Nat):List Nat:=ph (λh=>h) l.reverse++(bZ z 32++[10,32,9])
noncomputable def w0:Ws:=⟨[],0,0,0⟩
noncomputable def cnt(c:Nat):List Nat:=(bF (Sw (hk c) 0) w0).c
noncomputable def gw(n:Nat):Nat:=n.rec 1 λk a=>a*(k+1)
noncomputable def p9(t:Nat)(p:Nat×Nat):Nat:=if p.2%t=0 then(p.2/t)^p.1 else 1
noncomputable def fZ(t:Nat)(l:List (Nat×Nat)):Nat:=l.foldl (λa p=>a*p9 t p) 1
noncomputable def gX(c:Nat):List (Nat×Nat):=(cnt c).zip (bc (cnt c).length)
noncomputable def Sx(c t:Nat):Bool:=(se t c (wy c t).length==[(co c t,(sn c t*gw (wy c t).length).fdiv (fZ t (gX c)))])&&((sn c t*gw (wy c t).length).fmod (fZ t (gX c))==0&&(decide (1<=fZ t (gX c)/\fZ t (gX c)<2^30)&&((gX c).all (λp=>decide (p.1<=1000/\p.2<=1000/\p9 t p<2^20))&&(decide ((cnt c).length<=1000)&&(bc (wy c t).length).all λi=>An (se t c i)))))
noncomputable def Sy(c:Nat):List Bool:=tab 4 λt=>Sx c (t+1)
def wI:p1 Sy pf 0:=by kernel_rfl
def oe1:p1 Sy pf 1:=by kernel_rfl
def ai4{c t:Nat}(hc:bf c=true)(ht:t<4):Sx c (t+1)=true:=cw (gV wI oe1 hc) t ht
noncomputable def r87(g:Nat->Option T):aE:=[g 0,g 1,g 2,g 3,g 4,g 5,g 6,g 7,g 8,g 9,g 10,g 11,g 12,g 13,g 14,g 15,g 16,g 17,g 18,g 19,g 20,g 21,g 22,g 23,g 24,g 25,g 26,g 27,g 28,g 29,g 30,g 31,g 32,g 33,g 34,g 35,g 36,g 37,g 38,g 39,g 40,g 41,g 42,g 43,g 44,g 45,g 46,g 47,g 48,g 49,g 50,g 51,g 52,g 53,g 54,g 55,g 56,g 57,g 58,g 59,g 60,g 61,g 62,g 63,g 64,g 65,g 66,g 67,g 68,g 69,g 70,g 71,g 72,g 73,g 74,g 75,g 76,g 77,g 78,g 79,g 80,g 81,g 82,g 83,g 84,g 85,g 86]
noncomputable def rz(l:List (Nat×T))(v:Nat->Option T):aE:=r87 λi=>(l.lookup i).elim (v i) ab
noncomputable def sv(s:S):S:=if h:s.ctorIdx=16 then S.seq.elim s h λa z=>a else s
noncomputable def eC(i:Nat)(r:aE):Option (Fl×aE):=ex (Fn aJ 60) (sv (gI i)) r
def ai6(n:Nat):∀r:aE,r.length=n->r=(bc n).map (get r):=by
 intro r h
 refine List.ext_getElem (by rw[bK,kr];exact h) λi h1 h2=>?_
 rw[List.getElem_map,Ug]
 rw[get_eq,iu h1]
 rfl
def Kn.rz{r:aE}{l:List (Nat×T)}(K:Kn r l):r=rz l (get r):=by
 refine(ai6 87 r K.len).trans ((sU λi z=>?_).trans (show(bc 87).map (λi=>(l.lookup i).elim (get r i) ab)=_ from rfl))
 cases e:l.lookup i with
 |none=>rfl
 |some x=>exact K.g i e
noncomputable def Sz(s:S):Ex:=if h:s.ctorIdx=8 then S.app.elim s h λz e=>(if g:e.ctorIdx=17 then E.tup.elim e g id else e)else .nil
noncomputable def sx(e:Ex):Ex:=if h:e.ctorIdx=16 then E.cons.elim e h λa z=>a else e
noncomputable def Av(e:Ex):Ex:=if h:e.ctorIdx=16 then E.cons.elim e h λz b=>b else e
noncomputable def Aw(i:Nat):Ex:=sx (Sz (sv (gI i)))
noncomputable def uQ(i:Nat):Ex:=sx (Av (Sz (sv (gI i))))
def go(i:Nat){r r':aE}{x:T}(h:eC i r=ab (.next,r'))(q:(ex (Fn aJ 60) (gI (i+1)) r').bind cn=ab x)(hi:∀r,ex (Fn aJ 60) (gI i) r=(eC i r).bind (mO (ex (Fn aJ 60) (gI (i+1))))):(ex (Fn aJ 60) (gI i) r).bind cn=ab x:=by
 rw[hi,h]
 exact q
def use{α:Type}{r:aE}{l:List (Nat×T)}{f g:aE->α}(K:Kn r l)(h:∀v,f (rz l v)=g (rz l v)):f r=g r:=((af f K.rz).trans (h _)).trans (af g K.rz.symm)
def Kn.one{r:aE}{l:List (Nat×T)}{k:Nat}{x:T}(K:Kn r l)(h:l.lookup k=ab x):Kn r [(k,x)]:=⟨K.len,λj{w}q=>K.g j (by
 rw[cD]at q
 cases e:j==k with
 |false=>rw[e]at q;exact aN q
 |true=>rw[e]at q;rw[ao e,h];exact q)⟩
noncomputable def Ij(v:Nat->Option T)(c:Nat):Option (Fl×aE):=eC 23 (rz [(13,tx c)] v)
noncomputable def Ik(v:Nat->Option T)(c:Nat):Option (Fl×aE):=ab (.next,put (put (rz [(13,tx c)] v) 38 (.lst (intsOf (su c)))) 39 (.lst []))
noncomputable def Il(v:Nat->Option T)(c:Nat):Option (Fl×aE):=eC 24 (rz [(38,.lst (intsOf (su c)))] v)
noncomputable def Im(v:Nat->Option T)(c:Nat):Option (Fl×aE):=ab (.next,put (rz [(38,.lst (intsOf (su c)))] v) 40 (.lst (intsOf (hk c))))
section
variable{v:Nat->Option T}
def rw0:p1 (Ij v) (Ik v) 0:=by kernel_rfl
def rw1:p1 (Ij v) (Ik v) 1:=by kernel_rfl
def hk0:p1 (Il v) (Im v) 0:=by kernel_rfl
def Ax:p1 (Il v) (Im v) 1:=by kernel_rfl
def aja{c:Nat}(hc:bf c=true)(v:Nat->Option T):Ij v c=Ik v c:=gV rw0 rw1 hc
def ajb{c:Nat}(hc:bf c=true)(v:Nat->Option T):Il v c=Im v c:=gV hk0 Ax hc
end
noncomputable def wo(l:List Nat):T:=cV ⟨l.toArray⟩ (bF l w0)
noncomputable def d7(c z:Nat):List Nat:=ai2 (hk c) z
noncomputable def bt(c z:Nat):List Nat:=Sw (hk c) z
noncomputable def SA(c z:Nat):List Nat:=(bt c z).take (bF (bt c z) w0).n
noncomputable def jN(c z:Nat):List Nat:=SA c z++[32]
noncomputable def sy(c z:Nat):List Nat:=(SA c z).reverse
noncomputable def arr(l:List Nat):T:=.str ⟨l.toArray⟩
noncomputable def jn(k:Nat)(e s:Ex):Ex:=.sm .join (.lit (.str (bP ""))) (.cons (.comp k (.bin .add (.bin .mul (.lit (.str (bP " "))) e) (.lit (.str (bP "\t")))) s (.lit (.bool true))) .nil)
noncomputable def jE:Ex:=jn 74 (.bin .sub (.var 74) (.lit (.int 1))) (.var 40)
noncomputable def jF:Ex:=jn 75 (.var 75) (.cY true (.var 40) .absent .absent)
noncomputable def lead(k:Nat)(e:Ex)(s:String):S:=.asg k (.call 15 (.cons (.bin .add (.bin .add e (.bin .mul (.lit (.str (bP " "))) (.var 5))) (.lit (.str (bP s)))) .nil))
def SE{F:Nat->List T->Option T}{r:aE}{k:Nat}{a b:Ex}{s:String}(h:ev F a r=ev F b r):ex F (lead k a s) r=ex F (lead k b s) r:=af (λo:Option T=>((((o.bind λx=>(ev F (.bin .mul (.lit (.str (bP " "))) (.var 5)) r).bind λy=>a8 .add x y).bind λx=>(ab (T.str (bP s))).bind λy=>a8 .add x y).bind λx=>(ev F .nil r).bind (bH λl=>ab (T.tup (x::l)))).bind (bH (F 15))).bind λt=>b8 (put r k t)) h
noncomputable def Io(v:Nat->Option T)(c:Nat):Option T:=ev (Fn aJ 60) jE (rz [(40,.lst (intsOf (hk c)))] v)
noncomputable def Ip(c:Nat):Option T:=ab (arr (ph (λh=>h - 1) (hk c)))
noncomputable def Iq(v:Nat->Option T)(c:Nat):Option T:=ev (Fn aJ 60) jF (rz [(40,.lst (intsOf (hk c)))] v)
noncomputable def Ir(c:Nat):Option T:=ab (arr (ph (λh=>h) (hk c).reverse))
noncomputable def Iu(v:Nat->Option T)(c z:Nat):Option (Fl×aE):=ex (Fn aJ 60) (lead 41 (.lit (arr (ph (λh=>h - 1) (hk c)))) "x \t") (rz [(5,iT z)] v)
noncomputable def Iv(v:Nat->Option T)(c z:Nat):Option (Fl×aE):=ab (.next,put (rz [(5,iT z)] v) 41 (wo (d7 c z)))
noncomputable def Iw(v:Nat->Option T)(c z:Nat):Option (Fl×aE):=ex (Fn aJ 60) (lead 42 (.lit (arr (ph (λh=>h) (hk c).reverse))) "\n \t") (rz [(5,iT z)] v)
noncomputable def Iy(v:Nat->Option T)(c z:Nat):Option (Fl×aE):=ab (.next,put (rz [(5,iT z)] v) 42 (wo (bt c z)))
noncomputable def Iz(v:Nat->Option T)(c z:Nat):Option (Fl×aE):=eC 27 (rz [(42,wo (bt c z))] v)
noncomputable def IA(v:Nat->Option T)(c z:Nat):Option (Fl×aE):=ab (.next,put (put (rz [(42,wo (bt c z))] v) 43 (wo (jN c z))) 44 (wo (sy c z)))
section
variable{v:Nat->Option T}
def je0:p1 (Io v) (Ip) 0:=by kernel_rfl
def je1:p1 (Io v) (Ip) 1:=by kernel_rfl
def jf0:p1 (Iq v) (Ir) 0:=by kernel_rfl
def jf1:p1 (Iq v) (Ir) 1:=by kernel_rfl
def nr0:p4 (Iu v) (Iv v) 0:=by kernel_rfl
def nr1:p4 (Iu v) (Iv v) 1:=by kernel_rfl
def fr0:p4 (Iw v) (Iy v) 0:=by kernel_rfl
def fr1:p4 (Iw v) (Iy v) 1:=by kernel_rfl
def wd0:p4 (Iz v) (IA v) 0:=by kernel_rfl
def B5:p4 (Iz v) (IA v) 1:=by kernel_rfl
end
section
variable{c z:Nat}(hc:bf c=true)
include hc
theorem ajl(v:Nat->Option T):Io v c=Ip c:=gV je0 je1 hc
theorem ajm(v:Nat->Option T):Iq v c=Ir c:=gV jf0 jf1 hc
theorem ajn(hz:z<4)(v:Nat->Option T):Iu v c z=Iv v c z:=nj nr0 nr1 hc hz
theorem ajo(hz:z<4)(v:Nat->Option T):Iw v c z=Iy v c z:=nj fr0 fr1 hc hz
theorem ajp(hz:z<4)(v:Nat->Option T):Iz v c z=IA v c z:=nj wd0 B5 hc hz
variable{r:aE}{l:List (Nat×T)}
theorem s23(K:Kn r l)(h13:l.lookup 13=ab (tx c)):eC 23 r=ab (.next,put (put r 38 (.lst (intsOf (su c)))) 39 (.lst [])):=use (f:=λr=>eC 23 r) (g:=λr=>ab (Fl.next,put (put r 38 (.lst (intsOf (su c)))) 39 (.lst []))) (K.one h13) (aja hc)
theorem s24(K:Kn r l)(h38:l.lookup 38=ab (.lst (intsOf (su c)))):eC 24 r=ab (.next,put r 40 (.lst (intsOf (hk c)))):=use (f:=λr=>eC 24 r) (g:=λr=>ab (Fl.next,put r 40 (.lst (intsOf (hk c))))) (K.one h38) (ajb hc)
theorem s25(hz:z<4)(K:Kn r l)(IB:l.lookup 40=ab (.lst (intsOf (hk c))))(h5:l.lookup 5=ab (iT z)):eC 25 r=ab (.next,put r 41 (wo (d7 c z))):=(SE (use (f:=λr=>ev (Fn aJ 60) jE r) (g:=λy=>ab (arr (ph (λh=>h - 1) (hk c)))) (K.one IB) (ajl hc))).trans (use (f:=λr=>ex (Fn aJ 60) (lead 41 (.lit (arr (ph (λh=>h - 1) (hk c)))) "x \t") r) (g:=λr=>ab (Fl.next,put r 41 (wo (d7 c z)))) (K.one h5) (ajn hc hz))
theorem s26(hz:z<4)(K:Kn r l)(IB:l.lookup 40=ab (.lst (intsOf (hk c))))(h5:l.lookup 5=ab (iT z)):eC 26 r=ab (.next,put r 42 (wo (bt c z))):=(SE (use (f:=λr=>ev (Fn aJ 60) jF r) (g:=λy=>ab (arr (ph (λh=>h) (hk c).reverse))) (K.one IB) (ajm hc))).trans (use (f:=λr=>ex (Fn aJ 60) (lead 42 (.lit (arr (ph (λh=>h) (hk c).reverse))) "\n \t") r) (g:=λr=>ab (Fl.next,put r 42 (wo (bt c z)))) (K.one h5) (ajo hc hz))
theorem s27(hz:z<4)(K:Kn r l)(h42:l.lookup 42=ab (wo (bt c z))):eC 27 r=ab (.next,put (put r 43 (wo (jN c z))) 44 (wo (sy c z))):=use (f:=λr=>eC 27 r) (g:=λr=>ab (Fl.next,put (put r 43 (wo (jN c z))) 44 (wo (sy c z)))) (K.one h42) (ajp hc hz)
end
noncomputable def uR(c z:Nat):List (Nat×T):=[(40,.lst (intsOf (hk c))),(5,iT z)]
noncomputable def col(s:Nat)(l:List Nat):Nat:=l.foldl (λa h=>(a+(h - 1))+(s - (a+(h - 1))%s)) 0
noncomputable def qb(l:List Nat):Nat:=l.foldl max 0
noncomputable def uS(c z:Nat):Nat:=max (qb (hk c)) (z+1)+1
noncomputable def row(c z i:Nat):Nat×Nat×Nat:=(1+i,col (1+i) (hk c)+z,col (1+i) (hk c)+z+(1+i)*(zs (wy c (1+i))).length)
noncomputable def tb(c z:Nat):List (Nat×Nat×Nat):=(bc (uS c z)).map (row c z)
noncomputable def nm(c z:Nat):List (Nat×Nat×Nat):=(tb c z).filter λx=>!(x.2.1==x.2.2)
noncomputable def C4(l:List Nat):Bool:=decide ((bF l w0).c.length<=1000/\(bF l w0).b<=1000/\(bF l w0).nt<=1000)&&(bF l w0).c.all λx=>decide (x<=1000)
noncomputable def ne'(a b:Nat):Bool:=!(a==b)
noncomputable def C5(a b:Nat):Bool:=decide (b<=a)
noncomputable def okN(c z:Nat):Bool:=
 (C4 (d7 c z)&&(C4 (bt c z)&&C4 (jN c z)))&&((decide (uS c z<=7)&&((hk c).all (λh=>decide (1<=h))&&(bc 7).all λi=>decide ((zs (wy c (1+i))).length<=99)))&&
 ((wit ne' (bF (d7 c z) w0) (bF (bt c z) w0)==nm c z&&wit C5 (bF (d7 c z) w0) (bF (bt c z) w0)==(tb c z).filter λx=>x.2.1==x.2.2&&decide (x.1<max (qb (hk c)) z+2))&&
 ((wit ne' (bF (d7 c z) w0) (bF (jN c z) w0)==(tb c z).map (λx=>(x.1,x.2.1,x.2.2+1))&&(wit ne' (bF (jN c z) w0) (bF (d7 c z) w0)==(tb c z).map (λx=>(x.1,x.2.2+1,x.2.1))&&wit C5 (bF (jN c z) w0) (bF (d7 c z) w0)==(tb c z).map λx=>(x.1,x.2.2+1,x.2.1)))&&
 (!sk (bF (d7 c z) w0) (bF (bt c z) w0)&&(!sk (bF (bt c z) w0) (bF (d7 c z) w0)&&sk (bF (d7 c z) w0) (bF (jN c z) w0))))))
noncomputable def ID(c:Nat):List Bool:=tab 4 (okN c)
noncomputable def SG(s:S):Ex:=if h:s.ctorIdx=18 then S.eV.elim s h λz e z=>e else .nil
noncomputable def IE(v:Nat->Option T)(c z:Nat):Option T:=ev (Fn aJ 60) (SG (sv (gI 28))) (rz (uR c z) v)
noncomputable def IF(c z:Nat):Option T:=ab (.lst ((bc (uS c z)).map λj=>iT (1+j)))
noncomputable def IG:S:=.seq (.aug 46 .add (.bin .sub (.var 47) (.lit (.int 1)))) (.seq (.aug 46 .add (.bin .sub (.var 45) (.bin .mod (.var 46) (.var 45)))) .skip)
noncomputable def ajy:Ex:=.tup (.cons (.var 45) (.cons (.bin .add (.var 46) (.var 5)) (.cons (.bin .add (.bin .add (.var 46) (.var 5)) (.bin .mul (.var 45) (.prim .len (.cons (.idx (.call 11 (.cons (.var 13) (.cons (.var 45) (.cons (.lit (.int 0)) .nil)))) (.lit (.int 2))) .nil)))) .nil)))
noncomputable def SH:S:=.seq (.asg 46 (.lit (.int 0))) (.seq (.eV 47 (.var 40) IG) (.seq (.app 39 ajy) .skip))
section
variable{v:Nat->Option T}
def on0:p1 (ID) (pf) 0:=by kernel_rfl
def oU:p1 (ID) (pf) 1:=by kernel_rfl
def sr0:p4 (IE v) IF 0:=by kernel_rfl
def sr1:p4 (IE v) IF 1:=by kernel_rfl
end
abbrev jO(c z:Nat):Prop:=uS c z<=7/\(∀h∈hk c,1<=h)/\(∀i,i<7->(zs (wy c (1+i))).length<=99)/\Wk (bF (d7 c z) w0)/\Wk (bF (bt c z) w0)/\Wk (bF (jN c z) w0)/\wit ne' (bF (d7 c z) w0) (bF (bt c z) w0)=nm c z/\(wit C5 (bF (d7 c z) w0) (bF (bt c z) w0)=(tb c z).filter λx=>x.2.1==x.2.2&&decide (x.1<max (qb (hk c)) z+2))/\(wit ne' (bF (d7 c z) w0) (bF (jN c z) w0)=(tb c z).map λx=>(x.1,x.2.1,x.2.2+1))/\(wit ne' (bF (jN c z) w0) (bF (d7 c z) w0)=(tb c z).map λx=>(x.1,x.2.2+1,x.2.1))/\(wit C5 (bF (jN c z) w0) (bF (d7 c z) w0)=(tb c z).map λx=>(x.1,x.2.2+1,x.2.1))/\sk (bF (d7 c z) w0) (bF (bt c z) w0)=false/\sk (bF (bt c z) w0) (bF (d7 c z) w0)=false/\sk (bF (d7 c z) w0) (bF (jN c z) w0)=true
section
variable(h:jO c z)
def jO.m:=h.1
def jO.hh:=h.2.1
def jO.w:=h.2.2.1
def jO.nr:=h.2.2.2.1
def jO.fr:=h.2.2.2.2.1
def jO.wd:=h.2.2.2.2.2.1
def jO.w1:=h.2.2.2.2.2.2.1
def jO.w2:=h.2.2.2.2.2.2.2.1
def jO.w3:=h.2.2.2.2.2.2.2.2.1
def jO.w4:=h.2.2.2.2.2.2.2.2.2.1
def jO.w5:=h.2.2.2.2.2.2.2.2.2.2.1
def jO.l1:=h.2.2.2.2.2.2.2.2.2.2.2.1
def jO.l2:=h.2.2.2.2.2.2.2.2.2.2.2.2.1
def jO.l3:=h.2.2.2.2.2.2.2.2.2.2.2.2.2
end
def IH{l:List Nat}(h:C4 l=true):Wk (bF l w0):=by
 obtain⟨h1,h2⟩:=an h
 have h1:=aq h1
 exact⟨h1.1,h1.2.1,h1.2.2,λx hx=>aq (bA.mp h2 x hx)⟩
def SI{b:Bool}(h:(!b)=true):b=false:=(DF b).mp h
section
variable{c z:Nat}(hc:bf c=true)(hz:z<4)
include hc hz
theorem C6:jO c z:=by
 obtain⟨h1,h⟩:=an (show okN c z=true from cw (gV (f:=ID) (g:=pf) on0 oU hc) z hz)
 obtain⟨h1,h2⟩:=an h1
 obtain⟨h2,h3⟩:=an h2
 obtain⟨g,h⟩:=an h
 obtain⟨g1,g⟩:=an g
 obtain⟨g2,g3⟩:=an g
 obtain⟨a,h⟩:=an h
 obtain⟨a1,a2⟩:=an a
 obtain⟨b,h⟩:=an h
 obtain⟨b1,b⟩:=an b
 obtain⟨b2,b3⟩:=an b
 obtain⟨d1,h⟩:=an h
 obtain⟨d2,d3⟩:=an h
 exact⟨aq g1,λx hx=>aq (bA.mp g2 x hx),λi hi=>aq (bA.mp g3 i (iw.mpr hi)),IH h1,IH h2,IH h3,ao a1,ao a2,ao b1,ao b2,ao b3,SI d1,SI d2,d3⟩
theorem ajC(v:Nat->Option T):IE v c z=IF c z:=nj sr0 sr1 hc hz
end
noncomputable def lC(c z t:Nat)(A:List T):List (Nat×T):=[(16,.lst A),(5,iT z),(9,iT (t+1)),(13,tx c),(14,.str (lj c)),(22,tx (co c (t+1))),(23,.int (sn c (t+1))),(24,.lst (intsOf (wy c (t+1))))]
noncomputable def lD(c z t:Nat)(A:List T):List (Nat×T):=(41,wo (d7 c z))::(42,wo (bt c z))::(43,wo (jN c z))::(44,wo (sy c z))::(40,.lst (intsOf (hk c)))::lC c z t A
noncomputable def kD:List Nat:=[41,42,43,44,40,16,5,9,13,14,22,23,24]
section
variable{c z t:Nat}{A:List T}{r:aE}{X:T}{x46:Nat}
def inner{s:Nat}(hs:1<=s)(h:∀h∈hk c,1<=h)(K:Kn r ((46,iT 0)::(45,iT s)::(39,X)::lD c z t A)):∃r',ex (Fn aJ 60) (.eV 47 (.var 40) IG) r=ab (.next,r')/\Kn r' ((46,iT (col s (hk c)))::(45,iT s)::(39,X)::lD c z t A):=by
 obtain⟨r',q,K'⟩:=nk (body:=λy r'=>(ab (put r' 47 y)).bind (ex (Fn aJ 60) IG)) (inj:=λh:Nat=>iT h) (P:=λp r=>Kn r ((46,iT (col s p))::(45,iT s)::(39,X)::lD c z t A)) (l:=hk c) (λp x q hp r K=>by
  have hx:=h x (hp▸mE _ bk)
  have K1:=K.put (k:=47) (v:=iT x) (by decide)
  have K2:=K1.put (k:=46) (v:=iT (col s p+(x - 1))) (by decide)
  have K3:=K2.put (k:=46) (v:=iT (col s p+(x - 1)+(s - (col s p+(x - 1))%s))) (by decide)
  refine⟨_,sq (pb (K1.g 46 rfl) (aR (K1.g 47 rfl) rfl (r7 hx)) rfl) (sq (pb (K2.g 46 rfl) (aR (K2.g 45 rfl) (aR (K2.g 46 rfl) (K2.g 45 rfl) (sj hs)) (r7 (cE (iU _ hs)))) rfl) rfl),?_⟩
  rw[show col s (p++[x])=col s p+(x - 1)+(s - (col s p+(x - 1))%s)from tD ..]
  exact K3.pick (46::45::39::kD)) K
 exact⟨r',wW (K.g 40 rfl) rfl q,K'⟩
def s28(hc:bf c=true)(hz:z<4)(K:Kn r ((39,.lst [])::lD c z t A)):∃r',eC 28 r=ab (.next,r')/\Kn r' ((39,.lst ((tb c z).map dX))::lD c z t A):=by
 have O:=C6 hc hz
 obtain⟨r',q,K'⟩:=nk (body:=λy r'=>(ab (put r' 45 y)).bind (ex (Fn aJ 60) SH)) (inj:=λj=>iT (1+j)) (P:=λp r=>Kn r ((39,.lst ((p.map (row c z)).map dX))::lD c z t A)) (l:=bc (uS c z)) (λp j q hp r K=>by
  have hj:j<uS c z:=iw.mp (hp▸mE _ bk)
  have hl:p.length<=7:=aD (by have q:=af vx hp;rw[bQ,kr]at q;exact q▸bX _ _) O.m
  have h7:=bG hj O.m
  have h8:1+j<=7:=by rw[eE];exact h7
  have h1:1<=1+j:=bX 1 j
  have K1:=K.put (k:=45) (v:=iT (1+j)) (by decide)
  have K2:=K1.put (k:=46) (v:=iT 0) (by decide)
  obtain⟨r3,e3,K3⟩:=inner (c:=c) (z:=z) (t:=t) (A:=A) (s:=1+j) h1 O.hh (K2.pick (46::45::39::kD))
  have K4:=K3.put (k:=39) (v:=.lst (((p.map (row c z)).map dX)++[dX (row c z j)])) (by decide)
  have hw:=O.w j h7
  have hp:=picked (L:=48) (c:=c) (t:=1+j) (o:=0) hc ⟨h1,aD h8 (by decide)⟩ (by decide)
  have SJ:ev (Fn aJ 60) (.bin .add (.var 46) (.var 5)) r3=ab (iT (col (1+j) (hk c)+z)):=aR (K3.g 46 rfl) (K3.g 5 rfl) rfl
  refine⟨_,show ex (Fn aJ 60) SH (put r 45 (iT (1+j)))=ab (.next,put r3 39 (.lst (((p.map (row c z)).map dX)++[dX (row c z j)])))from sq (dH rfl) (sq e3 (sq (r0 (K3.g 39 rfl) (je (aI (K3.g 45 rfl) (aI SJ (aI (aR SJ (aR (K3.g 45 rfl) (iO (aI (gq (c5 (aI (K3.g 13 rfl) (aI (K3.g 45 rfl) (aI rfl rfl))) hp) rfl rfl) rfl) ?_) (Au (n:=(zs (wy c (1+j))).length) (bI h8 (by decide)) (bI hw (by decide)))) rfl) rfl))) (show 3<=lim by decide)) ?_) rfl)),?_⟩
  ·exact af (λn:Nat=>ab (iT n)) (bK _)
  ·rw[bK,bK]
   exact aD (cX hl) (by decide)
  ·rw[mD,mD]
   exact K4.pick (39::kD)) K
 exact⟨r',wW (use (f:=λr=>ev (Fn aJ 60) (SG (sv (gI 28))) r) (g:=λx=>ab (.lst ((bc (uS c z)).map λj=>iT (1+j)))) (K.pick [40,5]) (ajC hc hz)) rfl q,K'⟩
end
def SK{p s:List Nat}{a n:Nat}(h:p++a::s=bc n):a=p.length/\a<n:=by
 have h1:a<n:=iw.mp (h▸mE _ bk)
 have h2:p.length<n:=by
  have q:=af vx h
  rw[bQ,kr]at q
  exact q▸vc (eG _)
 have q:=af (·[p.length]?) h
 replace q:(p++a::s)[p.length]?=(bc n)[p.length]?:=q
 rw[DL (bj _),DY,DN h2]at q
 exact⟨Option.some.inj q,h1⟩
noncomputable def II(s:Int)(j:Nat):Option T:=oT .mul (.int (s*gw j)) (iT (j+1))
noncomputable def IJ(s:Int)(j:Nat):Option T:=ab (.int (s*gw (j+1)))
def ajE:tab 12 (II 1)=cU 12 (IJ 1):=by kernel_rfl
def ajF:tab 12 (II (-1))=cU 12 (IJ (-1)):=by kernel_rfl
def ajG:(tab 13 λj=>decide ((1*(gw j:Int)).natAbs<2^29/\(-1*(gw j:Int)).natAbs<2^29))=cU 13 λz=>true:=by kernel_rfl
def mu{s:Int}{j:Nat}(hs:un s=true)(hj:j<12):II s j=IJ s j:=by
 rcases Al hs with e|e<;>subst e
 ·exact cw ajE j hj
 ·exact cw ajF j hj
def ajH{s:Int}{j:Nat}(hs:un s=true)(hj:j<13):(s*(gw j:Int)).natAbs<2^29:=by
 have q:(1*(gw j:Int)).natAbs<2^29/\(-1*(gw j:Int)).natAbs<2^29:=aq (cw ajG j hj)
 rcases Al hs with e|e<;>subst e
 ·exact q.1
 ·exact q.2
def IK{a n:Nat}(h:ba (a:Int)*n<=1000000):a8 .pow (iT a) (iT n)=ab (iT (a^n)):=(ah ⟨cx _,dh.mpr h⟩).trans (af (λi=>ab (T.int i)) (U1 a n).symm)
def SN{F:Nat->List T->Option T}{r:aE}{src:Ex}{body:S}{x:T}{l:List T}{p:Option (Fl×aE)}{ks:List Nat}(hs:ev F src r=ab x)(hi:qN x=ab l)(h:b6 (λy r'=>(bH (putAll r' ks) y).bind (ex F body)) (lU l) r=p):ex F (.lT ks src body) r=p:=((af (·.bind λx=>(qN x).bind λl=>b6 (λy r'=>(bH (putAll r' ks) y).bind (ex F body)) (lU l) r) hs).trans (af (·.bind λl=>b6 (λy r'=>(bH (putAll r' ks) y).bind (ex F body)) (lU l) r) hi)).trans h
def Ay{F:Nat->List T->Option T}{r:aE}{a:Ex}{n:Nat}(ha:ev F a r=ab (iT n))(hn:n<=60000):ev F (.hY a) r=ab (.lst ((bc n).map λj=>iT j)):=by
 refine(af (·.bind (bp λn=>if -1000000<=n/\n<=lim then ab (T.lst (pG 0 n))else ae)) ha).trans ((ah ⟨dn (by decide) (cx n),dh.mpr (aD hn (by decide))⟩).trans (af (λl=>ab (T.lst l)) ?_))
 show(bc ((n:Int) - 0).toNat).map (λi=>T.int (0+(i:Nat)))=_
 rw[JZ]
 exact sU λi z=>af T.int (VG _)
noncomputable def SO(p:Nat×Nat):T:=.tup [iT p.2,iT p.1]
def ajI(l:List Nat):lU (intsOf l)=(l.zip (bc l.length)).map SO:=by
 unfold lU
 rw[kh,show intsOf l=l.map λi=>iT i from rfl,List.zip_map_left,fO]
 rfl
abbrev qc(c t:Nat):Prop:=se t c (wy c t).length=[(co c t,(sn c t*gw (wy c t).length).fdiv (fZ t (gX c)))]/\(sn c t*gw (wy c t).length).fmod (fZ t (gX c))=0/\1<=fZ t (gX c)/\fZ t (gX c)<2^30/\(∀p∈gX c,p.1<=1000/\p.2<=1000/\p9 t p<2^20)/\(cnt c).length<=1000/\(∀i,i<(wy c t).length->An (se t c i)=true)
section
variable(h:qc c t)
def qc.w:=h.1
def qc.m:=h.2.1
def qc.u1:=h.2.2.1
def qc.u2:=h.2.2.2.1
def qc.x:=h.2.2.2.2.1
def qc.l:=h.2.2.2.2.2.1
def qc.o:=h.2.2.2.2.2.2
end
def SP{c t:Nat}(hc:bf c=true)(ht:t<4):qc c (t+1):=by
 obtain⟨h1,h⟩:=an (ai4 hc ht)
 obtain⟨h2,h⟩:=an h
 obtain⟨h3,h⟩:=an h
 obtain⟨h4,h⟩:=an h
 obtain⟨h5,h6⟩:=an h
 have h3:=aq h3
 exact⟨ao h1,ao h2,h3.1,h3.2,λp hp=>aq (bA.mp h4 p hp),aq h5,λi hi=>bA.mp h6 i (iw.mpr hi)⟩
noncomputable def SQ(c z:Nat):Bool:=(bF (bt c z) w0).c==cnt c
noncomputable def yes(c z:Nat):Bool:=true
noncomputable def ajJ(s:S):Ex:=if h:s.ctorIdx=9 then S.ext.elim s h λz e=>(if g:e.ctorIdx=18 then E.lst.elim e g id else e)else .nil
noncomputable def C7:Ex:=(λe:Ex=>if g:e.ctorIdx=17 then E.tup.elim e g id else e) (sx (Av (Av (ajJ (sv (gI 39))))))
noncomputable def l3(c z:Nat):List (Nat×T):=[(14,.str (lj c)),(42,wo (bt c z))]
noncomputable def IL(v:Nat->Option T)(c z:Nat):Option Bool:=(ev (Fn aJ 60) (sx C7) (rz (l3 c z) v)).bind λx=>(ev (Fn aJ 60) (sx (Av C7)) (rz (l3 c z) v)).bind λy=>eqT x y
noncomputable def IM(c z:Nat):Option Bool:=ab true
section
variable{v:Nat->Option T}
def cw0:p4 SQ yes 0:=by kernel_rfl
def cw1:p4 SQ yes 1:=by kernel_rfl
def th0:p4 (IL v) IM 0:=by kernel_rfl
def th1:p4 (IL v) IM 1:=by kernel_rfl
end
section
variable{c z:Nat}(hc:bf c=true)(hz:z<4)
include hc hz
theorem ajO:(bF (bt c z) w0).c=cnt c:=ao (nj cw0 cw1 hc hz)
theorem ajP(v:Nat->Option T):IL v c z=IM c z:=nj th0 th1 hc hz
end
noncomputable def lE(c z t:Nat)(A:List T)(a b:T):List (Nat×T):=(50,a)::(51,b)::(42,wo (bt c z))::lC c z t A
noncomputable def kE:List Nat:=[42,16,5,9,13,14,22,23,24]
noncomputable def SR:S:=.seq (.aug 51 .mul (.ite (.cmp .eq (.bin .mod (.var 47) (.var 9)) (.lit (.int 0))) (.bin .pow (.bin .fdiv (.var 47) (.var 9)) (.var 52)) (.lit (.int 1)))) .skip
section
variable{c z t n:Nat}{A:List T}{r:aE}{x y:T}
def s36(hc:bf c=true)(ht:t<4)(K:Kn r (lE c z t A (.int (sn c (t+1))) (.int 1))):∃r',eC 36 r=ab (.next,r')/\Kn r' (lE c z t A (.int (sn c (t+1)*gw (wy c (t+1)).length)) (.int 1)):=by
 have P:=place hc (t:=t+1) ⟨eG t,aD ht (by decide)⟩
 obtain⟨r',q,K'⟩:=nk (body:=λy r'=>(ab (put r' 2 y)).bind (ex (Fn aJ 60) (.seq (.aug 50 .mul (.bin .add (.var 2) (.lit (.int 1)))) .skip))) (inj:=λj=>iT j) (P:=λp r=>Kn r (lE c z t A (.int (sn c (t+1)*gw p.length)) (.int 1))) (l:=bc (wy c (t+1)).length) (λp j q hp r K=>by
  obtain⟨e,hj⟩:=SK hp
  have K1:=K.put (k:=2) (v:=iT j) (by decide)
  have K2:=K1.put (k:=50) (v:=.int (sn c (t+1)*gw (j+1))) (by decide)
  refine⟨_,show ex (Fn aJ 60) (.seq (.aug 50 .mul (.bin .add (.var 2) (.lit (.int 1)))) .skip) (put r 2 (iT j))=ab (.next,put (put r 2 (iT j)) 50 (.int (sn c (t+1)*gw (j+1))))from jf.trans (pb (K1.g 50 rfl) (aR (K1.g 2 rfl) rfl rfl) ?_),?_⟩
  ·exact e▸mu P.hu (bG hj P.hl)
  ·rw[bQ,<-e]
   exact K2.pick (50::51::kE)) (r:=r) (by rw[show(sn c (t+1)*(gw [].length:Nat):Int)=sn c (t+1)from JY _];exact K)
 rw[kr]at K'
 exact⟨r',wW (Ay (Am (K.g 24 rfl)) (aD P.hl (by decide))) rfl q,K'⟩
def s37(hc:bf c=true)(hz:z<4)(ht:t<4)(K:Kn r (lE c z t A x (.int 1))):∃r',eC 37 r=ab (.next,r')/\Kn r' (lE c z t A x (iT (fZ (t+1) (gX c)))):=by
 have O:=SP hc ht
 obtain⟨r',q,K',_⟩:=nk (body:=λy r'=>(bH (putAll r' [47,52]) y).bind (ex (Fn aJ 60) SR)) (inj:=SO) (P:=λp r=>Kn r (lE c z t A x (iT (fZ (t+1) p)))/\fZ (t+1) p<2^(20*p.length+1)) (l:=gX c) (λp a q hp r K=>by
  obtain⟨K,hu⟩:=K
  have hx:=O.x a (hp▸mE _ bk)
  have hl:p.length<=1000:=by
   have q:=af vx hp
   rw[bQ]at q
   have g:(gX c).length<=(cnt c).length:=by unfold gX;rw[anO];exact anf _ _
   exact aD (q▸bX _ _) (aD g O.l)
  have K1:=(K.put (k:=47) (v:=iT a.2) (by decide)).put (k:=52) (v:=iT a.1) (by decide)
  have K2:=K1.put (k:=51) (v:=iT (fZ (t+1) p*p9 (t+1) a)) (by decide)
  have hf:ev (Fn aJ 60) (.ite (.cmp .eq (.bin .mod (.var 47) (.var 9)) (.lit (.int 0))) (.bin .pow (.bin .fdiv (.var 47) (.var 9)) (.var 52)) (.lit (.int 1))) (put (put r 47 (iT a.2)) 52 (iT a.1))=ab (iT (p9 (t+1) a)):=by
   refine wR (u:=.bool (a.2%(t+1)==0)) (w:=a.2%(t+1)==0) (fN (aR (K1.g 47 rfl) (K1.g 9 rfl) (sj (eG t))) rfl (af ab (uP (a.2%(t+1)) 0))) rfl rfl ?_
   unfold p9
   by_cases h:a.2%(t+1)=0
   ·rw[ah (aw.mpr h),ah h]
    refine aR (aR (K1.g 47 rfl) (K1.g 9 rfl) (As (eG t) (aD ht (by decide)))) (K1.g 52 rfl) (IK (aD (yb (bits_le (k:=10) (bI (xU _ _) (bI hx.2.1 (by decide)))) hx.1) (by decide)))
   ·rw[ai λq=>h (aw.mp q),ai h]
    rfl
  have b1:=bits_le hu
  have b2:=bits_le hx.2.2
  refine⟨_,show ex (Fn aJ 60) SR (put (put r 47 (iT a.2)) 52 (iT a.1))=ab (.next,put (put (put r 47 (iT a.2)) 52 (iT a.1)) 51 (iT (fZ (t+1) p*p9 (t+1) a)))from jf.trans (pb (K1.g 51 rfl) hf ((ah rfl).trans (Hz (aD (eA b1 b2) (aD (cR (cR (ko 20 hl) 1) 20) (by decide)))))),?_,?_⟩
  ·rw[show fZ (t+1) (p++[a])=fZ (t+1) p*p9 (t+1) a from tD ..]
   exact K2.pick (50::51::kE)
  ·rw[show fZ (t+1) (p++[a])=fZ (t+1) p*p9 (t+1) a from tD ..,bQ,show 20*(p.length+[a].length)+1=(20*p.length+1)+20 from ku _ 20 1,oL]
   exact Nat.mul_lt_mul'' hu hx.2.2) (r:=r) ⟨K,show(1:Nat)<2^1 by decide⟩
 refine⟨r',SN (gq (x:=.tup [.tup (intsOf (bF (bt c z) w0).c),iT (bF (bt c z) w0).b]) ((af (·.bind (yp 3)) (K.g 42 rfl)).trans rfl) rfl rfl) rfl ?_,K'⟩
 rw[ajO hc hz,ajI]
 exact q
def ajS(hc:bf c=true)(hz:z<4)(ht:t<4)(hA:dK A n)(hn:n<=57)(K:Kn r (lE c z t A (.int (sn c (t+1))) (.int 1))):(ex (Fn aJ 60) (gI 36) r).bind cn=ab (.bool true):=by
 have O:=SP hc ht
 have P:=place hc (t:=t+1) ⟨eG t,aD ht (by decide)⟩
 obtain⟨r1,e1,K1⟩:=s36 hc ht K
 refine go 36 e1 ?_ λu=>rfl
 obtain⟨r2,e2,K2⟩:=s37 hc hz ht K1
 refine go 37 e2 ?_ λu=>rfl
 have hm:=ajH (s:=sn c (t+1)) P.hu (AX P.hl)
 have hd:=dm (L:=49) (a:=sn c (t+1)*gw (wy c (t+1)).length) (b:=(fZ (t+1) (gX c):Int)) (pC (fA.mpr O.u1)) ⟨aD (bits_le O.u2) (by decide),aD (bits_le hm) (by decide),aD (xU _ _) (aD (mA _ _) (aD (eA (bits_le hm) (bits_le O.u2)) (by decide)))⟩
 have K3:=(K2.put (k:=53) (v:=.int ((sn c (t+1)*gw (wy c (t+1)).length).fdiv (fZ (t+1) (gX c)))) (by decide)).put (k:=54) (v:=.int 0) (by decide)
 rw[O.m]at hd
 refine go 38 (nc (c5 (aI (K2.g 50 rfl) (aI (K2.g 51 rfl) rfl)) hd) rfl) ?_ λu=>rfl
 have hw:=ah8 (L:=58) (c:=c) (t:=t+1) (m:=(wy c (t+1)).length) ⟨eG t,aD ht (by decide)⟩ (aD P.hl (by decide)) O.o
 rw[O.w]at hw
 have th:=use (f:=λr=>(ev (Fn aJ 60) (sx C7) r).bind λx=>(ev (Fn aJ 60) (sx (Av C7)) r).bind λy=>eqT x y) (g:=λu=>ab true) (K3.pick [14,42]) (ajP hc hz)
 obtain⟨x,hx,th⟩:=nH.mp th
 obtain⟨y,hy,th⟩:=nH.mp th
 have hB:dK [.tup [.int 0,.int 0],.tup [.aY (dT [(co c (t+1),(sn c (t+1)*gw (wy c (t+1)).length).fdiv (fZ (t+1) (gX c)))]),.aY (dT [(co c (t+1),(sn c (t+1)*gw (wy c (t+1)).length).fdiv (fZ (t+1) (gX c)))])],.tup [x,y]] 3:=.cons rfl (.cons (af ab (by rw[ax,ax];rfl)) (.one th))
 have K4:=K3.put (k:=16) (v:=.lst (A++[.tup [.int 0,.int 0],.tup [.aY (dT [(co c (t+1),(sn c (t+1)*gw (wy c (t+1)).length).fdiv (fZ (t+1) (gX c)))]),.aY (dT [(co c (t+1),(sn c (t+1)*gw (wy c (t+1)).length).fdiv (fZ (t+1) (gX c)))])],.tup [x,y]])) (by decide)
 refine go 39 (asks K3 rfl hA (aD hn (by decide)) (show 3<=60 by decide) hB (aI (lq (K3.g 54 rfl) rfl) (aI (lq (c5 (aI (K3.g 13 rfl) (aI (K3.g 9 rfl) (aI (Am (K3.g 24 rfl)) rfl))) hw) ?_) (aI (lq hx hy) rfl)))) (ai0 K4 rfl (hA.add hB)) λu=>rfl
 show((get _ 22).bind (cG λk=>(get _ 53).bind (bp λv=>ab (T.aY [(k,v)]))))=_
 rw[K3.g 22 rfl]
 exact af (·.bind (bp λv=>ab (T.aY [(txt (co c (t+1)),v)]))) (K3.g 53 rfl)
end
def Dp(k:Nat)(x:T):Prop:=∃d,x.py=ab d/\d.canLay0=true/\d.depth<=k
section
variable{k:Nat}{l:List T}{x:T}
def Dp.all(h:∀t∈l,Dp k t):∃ds,T.pE l=ab ds/\JA.canLayAll0 ds=true/\JA.depthAll ds<=k:=by
 induction l with
 |nil=>exact⟨[],rfl,rfl,dP _⟩
 |cons t l ih=>
  obtain⟨d,e1,e2,e3⟩:=h t bk
  obtain⟨ds,f1,f2,f3⟩:=ih λu hu=>h u (bS _ hu)
  exact⟨d::ds,(af (·.bind λa=>(T.pE l).bind λb=>ab (a::b)) e1).trans (af (·.bind λb=>ab (d::b)) f1),(AU _ _).mpr ⟨e2,f2⟩,KS.mpr ⟨e3,f3⟩⟩
def Dp.int(i:Int):Dp k (.int i):=⟨.int i,rfl,rfl,dP _⟩
def Dp.lst(h:∀t∈l,Dp k t):Dp (k+1) (.lst l):=(Dp.all h).elim λds e=>⟨.list ds,af (·.map alD) e.1,e.2.1,cX e.2.2⟩
def Dp.tup(h:∀t∈l,Dp k t):Dp (k+1) (.tup l):=(Dp.all h).elim λds e=>⟨.tuple ds,af (·.map JA.tuple) e.1,e.2.1,cX e.2.2⟩
def Dp.nil:∀t∈([]:List T),Dp k t:=λt h=>aj h gM
def Dp.cons(h:Dp k x)(g:∀t∈l,Dp k t):∀t∈x::l,Dp k t:=λt q=>(br.mp q).elim (λe=>e▸h) (g t)
def Dp.eq(h:Dp 9 x)(hs:yh x x=ae):eqT x x=ab true:=by
 obtain⟨d,e1,e2,e3⟩:=h
 have hd:sG d=true:=(AU _ _).mpr ⟨e2,ar (aD e3 (by decide))⟩
 show(yh x x).elim (x.py.bind λy=>x.py.bind λz=>if sG y=true/\sG z=true then ab (JB y z)else ae) ab=_
 rw[hs,e1]
 exact(ah ⟨hd,hd⟩).trans (af ab (aAY d e2))
def Dp.up{j:Nat}(h:Dp k x)(q:k<=j:=by decide):Dp j x:=h.imp λd e=>⟨e.1,e.2.1,aD e.2.2 q⟩
def Dp.map{α:Type}{f:α->T}{l:List α}(h:∀a∈l,Dp k (f a)):Dp (k+1) (.lst (l.map f)):=.lst λt q=>(dy.mp q).elim λa e=>e.2▸h a e.1
end
noncomputable def jh(l:List (Nat×Nat×Nat)):T:=.lst (l.map dX)
def Az(l:List (Nat×Nat×Nat)):Dp 2 (jh l):=.map λx z=>.tup (.cons (.int _) (.cons (.int _) (.cons (.int _) .nil)))
noncomputable def rsL(c z:Nat):List (Nat×Nat×Nat):=(tb c z).filter λx=>x.2.1==x.2.2&&decide (x.1<max (qb (hk c)) z+2)
noncomputable def SS(c z:Nat):T:=jh ((tb c z).map λx=>(x.1,x.2.1,x.2.2+1))
noncomputable def AA(c z:Nat):T:=jh ((tb c z).map λx=>(x.1,x.2.2+1,x.2.1))
noncomputable def nq(c z:Nat):T:=.lst [jh (nm c z),jh (rsL c z)]
noncomputable def qd(c z:Nat):T:=.lst [SS c z,AA c z,AA c z]
noncomputable def emp(c:Nat):Bool:=(hk c).isEmpty
noncomputable def pj(c z:Nat):Bool:=(hk c).getLast?.elim true (· ==z)
noncomputable def uT(a b:Bool):T:=.lst [.bool a,.bool b,.bool false,.bool false,.bool true]
noncomputable def eM:Ex:=.bin .add (.prim .qP (.cons (.bin .add (.var 40) (.lst (.cons (.var 5) .nil))) .nil)) (.lit (.int 2))
noncomputable def dg(i:Nat):Str:=⟨#[48+i]⟩
noncomputable def sep:Str:=⟨#[44,32]⟩
noncomputable def di(l:List (Nat×Nat×Nat)):List Str:=l.map λx=>dg x.1
noncomputable def IP:Ex:=sx ((λe:Ex=>if h:e.ctorIdx=26 then E.prim.elim e h λz a=>a else e) (uQ 35))
noncomputable def IS(v:Nat->Option T)(c z:Nat):Option T×Option T×Option T×Bool:=(ev (Fn aJ 60) eM (rz (uR c z) v),Fn aJ 60 22 [wo (d7 c z),wo (bt c z)],Fn aJ 60 22 [wo (bt c z),wo (sy c z)],nA sep (di (nm c z))&&(decide ((fm sep (di (nm c z))).length<=60000)&&(nm c z).all λx=>decide (x.1<8)))
noncomputable def IT(c z:Nat):Option T×Option T×Option T×Bool:=(ab (iT (max (qb (hk c)) z+2)),ab (.bool (emp c)),ab (.bool (pj c z)),true)
noncomputable def IU(v:Nat->Option T)(c z:Nat):Option T:=ev (Fn aJ 60) IP (rz (uR c z) v)
noncomputable def SU(c z:Nat):Option T:=ab (uT (emp c) (pj c z))
section
variable{v:Nat->Option T}
def na0:p4 (IS v) IT 0:=by kernel_rfl
def na1:p4 (IS v) IT 1:=by kernel_rfl
def nb0:p4 (IU v) SU 0:=by kernel_rfl
def nb1:p4 (IU v) SU 1:=by kernel_rfl
end
def ajY:(tab 8 λi=>(bP (toString (i:Int)),decide ((i:Int).natAbs.log2<1920),gO .str1 [iT i]))=cU 8 λi=>(dg i,true,ab (.str (dg i))):=by kernel_rfl
def SV:s_ ", "=sep:=by kernel_rfl
def IX{i:Nat}(h:i<8):bP (toString (i:Int))=dg i/\(i:Int).natAbs.log2<1920/\gO .str1 [iT i]=ab (.str (dg i)):=by
 have q:(bP (toString (i:Int)),decide ((i:Int).natAbs.log2<1920),gO .str1 [iT i])=(dg i,true,ab (.str (dg i))):=cw ajY i h
 exact⟨af Prod.fst q,aq (af (λp=>p.2.1) q),af (λp=>p.2.2) q⟩
def ajZ{F:Nat->List T->Option T}{r:aE}{a b:Ex}{p q:Bool}(ha:ev F a r=ab (.bool p))(hb:ev F b r=ab (.bool q)):ev F (.ju a b) r=ab (.bool (p&&q)):=by
 show((ev F a r).bind λx=>if x.plain=true then(if x.truth then ev F b r else ab x)else ae)=_
 rw[ha]
 cases p with
 |true=>exact hb
 |false=>rfl
def aj0(l:List (Nat×Nat×Nat)):firstsI (l.map dX)=ab (l.map λx=>(x.1:Int)):=by
 induction l with
 |nil=>rfl
 |cons x l ih=>exact af (·.map ((x.1:Int)::·)) ih
noncomputable def fmt(l:List (Nat×Nat×Nat)):Str:=jc l.length++s_ " "++fm sep (di l)
def Jn(l:List (Nat×Nat×Nat)):Prop:=nA sep (di l)=true/\(fm sep (di l)).length<=60000/\∀x∈l,x.1<8
section
variable{l:List (Nat×Nat×Nat)}(J:Jn l)
include J
theorem f14:Fn aJ 60 14 [jh l]=ab (.str (fmt l)):=by
 show((firstsI (l.map dX)).bind λis=>if is.all (λi=>decide (i.natAbs.log2<1920))=true/\nA (s_ ", ") (iN is)=true/\(fm (s_ ", ") (iN is)).length<=60000 then ab (T.str (jc (l.map dX).length++s_ " "++fm (s_ ", ") (iN is)))else ae)=_
 have e:iN (l.map λx=>(x.1:Int))=di l:=by
  unfold iN
  rw[fO]
  exact sU λx hx=>(IX (J.2.2 x hx)).1
 rw[aj0,bK,SV]
 show(if(l.map λx=>(x.1:Int)).all (λi=>decide (i.natAbs.log2<1920))=true/\nA sep (iN (l.map λx=>(x.1:Int)))=true/\(fm sep (iN (l.map λx=>(x.1:Int)))).length<=60000 then ab (T.str (jc l.length++s_ " "++fm sep (iN (l.map λx=>(x.1:Int)))))else ae)=_
 rw[e]
 refine ah ⟨bA.mpr λi hi=>?_,J.1,J.2.1⟩
 obtain⟨x,hx,e⟩:=dy.mp hi
 exact ar (e▸(IX (J.2.2 x hx)).2.1)
theorem aj2:iV .join (.str (s_ ", ")) [.lst (l.map λx=>.str (dg x.1))]=ab (.str (fm sep (di l))):=by
 show((hU (l.map λx=>.str (dg x.1))).bind λys=>if nA (s_ ", ") ys=true/\(fm (s_ ", ") ys).length<=lim then ab (T.str (fm (s_ ", ") ys))else ae)=_
 rw[show(l.map λx=>T.str (dg x.1))=(di l).map .str from(fO ..).symm,Sv,SV]
 exact ah ⟨J.1,aD J.2.1 (by decide)⟩
end
def p33{n:Nat}{F:Nat->List T->Option T}{r:aE}{a:Ex}(h:ev F a r=ab (iT (if 1<n then 1 else 0))):ev F (.bin .add (.bin .add (.lit (.str (s_ "at tab size"))) (.bin .mul (.lit (.str (s_ "s"))) a)) (.lit (.str (s_ " ")))) r=ab (.str (jc n++s_ " "))/\(jc n++s_ " ").length<=100:=by
 unfold jc
 by_cases q:1<n
 ·rw[ah q]at h ⊢
  exact⟨aR (aR rfl (aR rfl h (z:=.str (s_ "s")) (by kernel_rfl)) (z:=.str (s_ "at tab size"++s_ "s")) (by kernel_rfl)) rfl (by kernel_rfl),yc (by kernel_rfl)⟩
 ·rw[ai q]at h ⊢
  exact⟨aR (aR rfl (aR rfl h (z:=.str (s_ "")) (by kernel_rfl)) (z:=.str (s_ "at tab size")) (by kernel_rfl)) rfl (by kernel_rfl),yc (by kernel_rfl)⟩
def aj4(m:List T):mJ false (.lst m) (.int 1) (.int 2)=ab (.lst ((m.drop 1).take 1))/\((m.drop 1).take 1).length=if 1<m.length then 1 else 0:=by
 match m with
 |[]=>exact⟨rfl,rfl⟩
 |[a]=>exact⟨rfl,rfl⟩
 |a::b::m=>
  refine⟨af (λl=>ab (T.lst l)) ?_,(ah (anQ (eG _))).symm⟩
  show(List.drop (xm (m.length+2) ((1:Nat):Int)) (a::b::m)).take (xm (m.length+2) ((2:Nat):Int) - xm (m.length+2) ((1:Nat):Int))=_
  rw[clipAt_nat,clipAt_nat,Du (jQ 2 _),Du (aD (by decide) (jQ 2 _))]
abbrev Na(c z:Nat):Prop:=(∀v,ev (Fn aJ 60) eM (rz (uR c z) v)=ab (iT (max (qb (hk c)) z+2)))/\Fn aJ 60 22 [wo (d7 c z),wo (bt c z)]=ab (.bool (emp c))/\Fn aJ 60 22 [wo (bt c z),wo (sy c z)]=ab (.bool (pj c z))/\Jn (nm c z)/\∀v,ev (Fn aJ 60) IP (rz (uR c z) v)=ab (uT (emp c) (pj c z))
section
variable(h:Na c z)
def Na.m:=h.1
def Na.q1:=h.2.1
def Na.q2:=h.2.2.1
def Na.j:=h.2.2.2.1
def Na.b:=h.2.2.2.2
end
def na{c z:Nat}(hc:bf c=true)(hz:z<4):Na c z:=by
 have q:∀v,(ev (Fn aJ 60) eM (rz (uR c z) v),Fn aJ 60 22 [wo (d7 c z),wo (bt c z)],Fn aJ 60 22 [wo (bt c z),wo (sy c z)],nA sep (di (nm c z))&&(decide ((fm sep (di (nm c z))).length<=60000)&&(nm c z).all λx=>decide (x.1<8)))=(ab (iT (max (qb (hk c)) z+2)),ab (.bool (emp c)),ab (.bool (pj c z)),true):=λv=>nj (f:=IS v) (g:=IT) na0 na1 hc hz
 have p:=λv=>nj (f:=IU v) nb0 nb1 hc hz
 have i:=(Prod.mk.inj (q λy=>ae)).2
 have j:=(Prod.mk.inj (Prod.mk.inj i).2).2
 exact⟨λv=>(Prod.mk.inj (q v)).1,(Prod.mk.inj i).1,(Prod.mk.inj (Prod.mk.inj i).2).1,⟨(an j).1,aq (an (an j).2).1,λx hx=>aq (bA.mp (an (an j).2).2 x hx)⟩,p⟩
noncomputable def lF(c z t:Nat)(A:List T):List (Nat×T):=(48,jh (nm c z))::(39,jh (tb c z))::lD c z t A
noncomputable def kF:List Nat:=48::39::kD
section
variable{c z t n:Nat}{A:List T}{r:aE}{F:Nat->List T->Option T}{a b:Ex}{x y:T}{l:List (Nat×T)}{es:List (Option Ex)}{ts:List T}
def Kn.v(K:Kn r l)(k:Nat)(h:l.lookup k=ab x):ev F (.var k) r=ab x:=K.g k h
def iP(ha:ev F a r=ab x)(h:pI F r es=ab ts):pI F r (ab a::es)=ab (x::ts):=(af (·.bind λt=>(pI F r es).map (t::·)) ha).trans (af (·.map (x::·)) h)
def s29(K:Kn r ((39,jh (tb c z))::lD c z t A)):eC 29 r=ab (.next,put r 48 (jh (nm c z))):=
 dH (HX (inj:=dX) (l:=tb c z) (c:=λx=>!(x.2.1==x.2.2)) (g:=dX) (K.g 39 rfl) rfl λx hx=>by
  have K1:=K.put (k:=76) (v:=dX x) (by decide)
  exact⟨_,fN (o:=.ne) (gq (y:=.int 1) (K1.g 76 rfl) rfl (z:=iT x.2.1) rfl) (gq (y:=.int 2) (K1.g 76 rfl) rfl (z:=iT x.2.2) rfl) (af (λv=>ab !v) (uP x.2.1 x.2.2)),rfl,rfl,λw=>K1.g 76 rfl⟩)
def s30(hc:bf c=true)(hz:z<4)(K:Kn r (lF c z t A)):ev (Fn aJ 60) (Aw 30) r=ab (nq c z)/\ev (Fn aJ 60) (uQ 30) r=ab (nq c z):=by
 have O:=C6 hc hz
 have N:=na hc hz
 refine⟨kZ (aI (fX (K.g 41 rfl) (aI (K.g 42 rfl) rfl) ((Ic (L:=58) O.nr O.fr).trans (af (λl=>ab (jh l)) O.w1))) (aI (fX (K.g 41 rfl) (aI (K.g 42 rfl) rfl) ((Ss (L:=58) O.nr O.fr).trans (af (λl=>ab (jh l)) O.w2))) rfl)) (show 2<=lim by decide),kZ (aI (K.g 48 rfl) (aI ?_ rfl)) (show 2<=lim by decide)⟩
 refine HX (inj:=dX) (l:=tb c z) (c:=λx=>x.2.1==x.2.2&&decide (x.1<max (qb (hk c)) z+2)) (g:=dX) (K.g 39 rfl) rfl λx hx=>?_
 have K1:=K.put (k:=77) (v:=dX x) (by decide)
 exact⟨_,ajZ (fN (o:=.eq) (gq (y:=.int 1) (K1.g 77 rfl) rfl (z:=iT x.2.1) rfl) (gq (y:=.int 2) (K1.g 77 rfl) rfl (z:=iT x.2.2) rfl) (af ab (uP x.2.1 x.2.2))) (fN (o:=.lt) (gq (y:=.int 0) (K1.g 77 rfl) rfl (z:=iT x.1) rfl) (use (f:=λr=>ev (Fn aJ 60) eM r) (g:=λw=>ab (iT (max (qb (hk c)) z+2))) (K1.pick [40,5]) N.m) (af ab (decide_eq_decide.mpr fA))),rfl,rfl,λw=>K1.g 77 rfl⟩
def s31(hc:bf c=true)(hz:z<4)(K:Kn r (lF c z t A)):eC 31 r=ab (.next,put r 49 (qd c z)):=by
 have O:=C6 hc hz
 exact dH (kZ (aI (fX (K.g 41 rfl) (aI (K.g 43 rfl) rfl) ((Ic (L:=58) O.nr O.wd).trans (af (λl=>ab (jh l)) O.w3))) (aI (fX (K.g 43 rfl) (aI (K.g 41 rfl) rfl) ((Ic (L:=58) O.wd O.nr).trans (af (λl=>ab (jh l)) O.w4))) (aI (fX (K.g 43 rfl) (aI (K.g 41 rfl) rfl) ((Ss (L:=58) O.wd O.nr).trans (af (λl=>ab (jh l)) O.w5))) rfl))) (show 3<=lim by decide))
def s32(K:Kn r (lF c z t A)):ev (Fn aJ 60) (uQ 32) r=ab (qd c z):=by
 refine aR (x:=.lst [SS c z]) (y:=.lst [AA c z,AA c z]) (kZ (aI ?_ rfl) (show 1<=lim by decide)) (aR (x:=.lst [AA c z]) (kZ (aI ?_ rfl) (show 1<=lim by decide)) rfl rfl) rfl
 ·refine(HZ (inj:=dX) (l:=tb c z) (g:=λx=>dX (x.1,x.2.1,x.2.2+1)) (st:=λx=>put (put (put r 78 (iT x.1)) 79 (iT x.2.1)) 80 (iT x.2.2)) (K.v (F:=Fn aJ 60) 39 rfl) rfl λx hx=>⟨rfl,?_⟩).trans (af (λl=>ab (T.lst l)) (by rw[fO];rfl))
  have K1:=((K.put (k:=78) (v:=iT x.1) (by decide)).put (k:=79) (v:=iT x.2.1) (by decide)).put (k:=80) (v:=iT x.2.2) (by decide)
  exact je (aI (K1.g 78 rfl) (aI (K1.g 79 rfl) (aI (aR (K1.g 80 rfl) rfl rfl) rfl))) (show 3<=lim by decide)
 ·refine(HZ (inj:=dX) (l:=tb c z) (g:=λx=>dX (x.1,x.2.2+1,x.2.1)) (st:=λx=>put (put (put r 81 (iT x.1)) 82 (iT x.2.1)) 83 (iT x.2.2)) (K.v (F:=Fn aJ 60) 39 rfl) rfl λx hx=>⟨rfl,?_⟩).trans (af (λl=>ab (T.lst l)) (by rw[fO];rfl))
  have K1:=((K.put (k:=81) (v:=iT x.1) (by decide)).put (k:=82) (v:=iT x.2.1) (by decide)).put (k:=83) (v:=iT x.2.2) (by decide)
  exact je (aI (K1.g 81 rfl) (aI (aR (K1.g 83 rfl) rfl rfl) (aI (K1.g 82 rfl) rfl))) (show 3<=lim by decide)
def add_str{x y:Str}(h:x.length+y.length<=lim):a8 .add (.str x) (.str y)=ab (.str (x++y)):=ah h
def s33(hc:bf c=true)(hz:z<4)(K:Kn r (lF c z t A)):ev (Fn aJ 60) (Aw 33) r=ab (.str (fmt (nm c z)))/\ev (Fn aJ 60) (uQ 33) r=ab (.str (fmt (nm c z))):=by
 have J:=(na hc hz).j
 obtain⟨e1,e2⟩:=aj4 ((nm c z).map dX)
 rw[bK]at e2
 obtain⟨p1,p2⟩:=p33 (n:=(nm c z).length) (F:=Fn aJ 60) (r:=r) (a:=.prim .len (.cons (.cY false (.var 48) (.lit (.int 1)) (.lit (.int 2))) .nil)) ((iO (aI (Ag (K.v 48 rfl) rfl rfl e1) rfl) rfl).trans (af (λn:Nat=>ab (iT n)) e2))
 refine⟨c5 (aI (K.g 48 rfl) rfl) (f14 J),?_⟩
 refine aR (z:=.str (jc (nm c z).length++s_ " "++fm sep (di (nm c z)))) p1 (pe (y:=.str (s_ ", ")) rfl (aI (p8 (inj:=dX) (l:=nm c z) (g:=λx=>.str (dg x.1)) (K.g 48 rfl) rfl λx hx=>?_) rfl) (aj2 J)) (add_str (aD (eA p2 J.2.1) (by decide)))
 have K1:=K.put (k:=84) (v:=dX x) (by decide)
 exact iO (aI (gq (y:=.int 0) (K1.g 84 rfl) rfl (z:=iT x.1) rfl) rfl) (IX (J.2.2 x hx)).2.2
def s34(hc:bf c=true)(hz:z<4)(K:Kn r (lF c z t A)):eC 34 r=ab (.next,put (put (put r 49 (uT (emp c) (pj c z))) 50 (.int (sn c (t+1)))) 51 (.int 1)):=by
 have O:=C6 hc hz
 have N:=na hc hz
 have l1:=Ig (L:=58) (x:=⟨(d7 c z).toArray⟩) (y:=⟨(bt c z).toArray⟩) O.nr O.fr
 have l2:=Ig (L:=58) (x:=⟨(bt c z).toArray⟩) (y:=⟨(d7 c z).toArray⟩) O.fr O.nr
 have l3:=Ig (L:=58) (x:=⟨(d7 c z).toArray⟩) (y:=⟨(jN c z).toArray⟩) O.nr O.wd
 rw[O.l1]at l1
 rw[O.l2]at l2
 rw[O.l3]at l3
 exact nh (iP (kZ (aI (fX (K.g 41 rfl) (aI (K.g 42 rfl) rfl) N.q1) (aI (fX (K.g 42 rfl) (aI (K.g 44 rfl) rfl) N.q2) (aI (fX (K.g 41 rfl) (aI (K.g 42 rfl) rfl) l1) (aI (fX (K.g 42 rfl) (aI (K.g 41 rfl) rfl) l2) (aI (fX (K.g 41 rfl) (aI (K.g 43 rfl) rfl) l3) rfl))))) (show 5<=lim by decide)) (iP (K.g 23 rfl) (iP rfl rfl))) (show 3<=lim by decide) rfl
def rep(a b:Bool):∃s,gO .repr [uT a b]=ab (.str s):=by
 cases a<;>cases b<;>exact⟨_,rfl⟩
def s35(hc:bf c=true)(hz:z<4)(K:Kn r ((49,uT (emp c) (pj c z))::uR c z)):∃s,ev (Fn aJ 60) (Aw 35) r=ab (.str s)/\ev (Fn aJ 60) (uQ 35) r=ab (.str s):=by
 obtain⟨s,h⟩:=rep (emp c) (pj c z)
 exact⟨s,iO (aI (K.g 49 rfl) rfl) h,iO (aI (use (f:=λr=>ev (Fn aJ 60) IP r) (g:=λy=>ab (uT (emp c) (pj c z))) (K.pick [40,5]) (na hc hz).b) rfl) h⟩
def same_str(s:Str):eqT (.str s) (.str s)=ab true:=af ab (ax s)
def part23(hc:bf c=true)(hz:z<4)(ht:t<4)(hA:dK A n)(hn:n<=50)(K:Kn r (lC c z t A)):(ex (Fn aJ 60) (gI 23) r).bind cn=ab (.bool true):=by
 have K1:=(K.put (k:=38) (v:=.lst (intsOf (su c))) (by decide)).put (k:=39) (v:=.lst []) (by decide)
 refine go 23 (s23 hc K rfl) ?_ λy=>rfl
 have K2:=K1.put (k:=40) (v:=.lst (intsOf (hk c))) (by decide)
 refine go 24 (s24 hc K1 rfl) ?_ λy=>rfl
 have K3:=K2.put (k:=41) (v:=wo (d7 c z)) (by decide)
 refine go 25 (s25 hc hz K2 rfl rfl) ?_ λy=>rfl
 have K4:=K3.put (k:=42) (v:=wo (bt c z)) (by decide)
 refine go 26 (s26 hc hz K3 rfl rfl) ?_ λy=>rfl
 have K5:=(K4.put (k:=43) (v:=wo (jN c z)) (by decide)).put (k:=44) (v:=wo (sy c z)) (by decide)
 refine go 27 (s27 hc hz K4 rfl) ?_ λy=>rfl
 obtain⟨r6,e6,K6⟩:=s28 hc hz (A:=A) (t:=t) (K5.pick (39::kD))
 refine go 28 e6 ?_ λy=>rfl
 have K7:Kn (put r6 48 (jh (nm c z))) (lF c z t A):=K6.put (k:=48) (v:=jh (nm c z)) (by decide)
 refine go 29 (s29 K6) ?_ λy=>rfl
 obtain⟨a30,b30⟩:=s30 hc hz K7
 obtain⟨e8,A8⟩:=xa K7 rfl hA (aD hn (by decide)) a30 b30 (Dp.eq (Dp.lst (k:=8) (.cons (.up (Az _)) (.cons (.up (Az _)) .nil))) rfl)
 refine go 30 e8 ?_ λy=>rfl
 have K8:Kn _ (lF c z t (A++[.tup [nq c z,nq c z]])):=(K7.put (k:=16) (v:=.lst (A++[.tup [nq c z,nq c z]])) (by decide)).pick kF
 refine go 31 (s31 hc hz K8) ?_ λy=>rfl
 have K9:=K8.put (k:=49) (v:=qd c z) (by decide)
 obtain⟨zD,A10⟩:=xa K9 rfl A8 (aD (cX hn) (by decide)) (K9.v 49 rfl) (s32 (K9.pick kF)) (Dp.eq (Dp.lst (k:=8) (.cons (.up (Az _)) (.cons (.up (Az _)) (.cons (.up (Az _)) .nil)))) rfl)
 refine go 32 zD ?_ λy=>rfl
 have IY:Kn _ (lF c z t ((A++[.tup [nq c z,nq c z]])++[.tup [qd c z,qd c z]])):=(K9.put (k:=16) (v:=.lst ((A++[.tup [nq c z,nq c z]])++[.tup [qd c z,qd c z]])) (by decide)).pick kF
 obtain⟨a33,b33⟩:=s33 hc hz IY
 obtain⟨e11,A11⟩:=xa IY rfl A10 (aD (cR hn 2) (by decide)) a33 b33 (same_str _)
 refine go 33 e11 ?_ λy=>rfl
 generalize A++[T.tup [nq c z,nq c z]]++[.tup [qd c z,qd c z]]++[.tup [.str (fmt (nm c z)),.str (fmt (nm c z))]]=A' at*
 have SW:Kn _ (lF c z t A'):=(IY.put (k:=16) (v:=.lst A') (by decide)).pick kF
 refine go 34 (s34 hc hz SW) ?_ λy=>rfl
 have IZ:=((SW.put (k:=49) (v:=uT (emp c) (pj c z)) (by decide)).put (k:=50) (v:=.int (sn c (t+1))) (by decide)).put (k:=51) (v:=.int 1) (by decide)
 obtain⟨s,a35,b35⟩:=s35 hc hz (IZ.pick [49,40,5])
 obtain⟨I0,A13⟩:=xa IZ rfl A11 (aD (cR hn 3) (by decide)) a35 b35 (same_str _)
 refine go 35 I0 ?_ λy=>rfl
 exact ajS hc hz ht A13 (aD (cR hn 4) (by decide)) ((IZ.put (k:=16) (v:=.lst (A'++[.tup [.str s,.str s]])) (by decide)).pick (50::51::kE))
end
noncomputable def bl(c:Nat):List Nat:=(bc 8).map λi=>if c.testBit i=true then 1 else 0
noncomputable def C8(c t:Nat):Nat:=(wy c t).foldr (λa m=>max (a+1) m) 0
noncomputable def SX(l:List Nat)(i:Nat):Nat:=((l.map λj:Nat=>(j:Int)).filter (· ==(i:Int))).length
noncomputable def eN(c t:Nat):List Nat:=(bc (C8 c t)).map (SX (wy c t))
noncomputable def xb:List Nat->List Nat->List Nat:=List.rec (λb=>b) λx a ih b=>b.casesOn (x::a) λy b=>(x+y)::ih b
noncomputable def SY(c t:Nat):Bool:=(xb (bl (co c t)) (eN c t)==xb (bl c) (bZ t 0++eN c t))&&((eN c t).all (λd=>D5 d 7)&&(D5 (eN c t).length 8&&((bl c).all (λd=>D5 d 7)&&(eN c t).reverse.casesOn true λd z=>D5 1 d)))
noncomputable def S0(c t:Nat):Bool:=SY c (t+1)
noncomputable def I1:Ex:=.hY (.bin .add (.prim .qP (.cons (.bin .add (.var 24) (.lst (.cons (.neg (.lit (.int 1))) .nil))) .nil)) (.lit (.int 1)))
noncomputable def eB:Ex:=.comp 68 (.ite (.cmp .eq (.var 68) (.lit (.str (bP "r")))) (.lit (.int 1)) (.lit (.int 0))) (.var 67) (.lit (.bool true))
noncomputable def I9(v:Nat->Option T)(c t:Nat):Option T:=ev (Fn aJ 60) I1 (rz [(24,.lst (intsOf (wy c (t+1))))] v)
noncomputable def Ja(c t:Nat):Option T:=ab (.lst ((bc (C8 c (t+1))).map λi=>iT i))
noncomputable def Jb(v:Nat->Option T)(c:Nat):Option T:=ev (Fn aJ 60) eB (rz [(67,tx c)] v)
noncomputable def Jc(c:Nat):Option T:=ab (.lst (intsOf (bl c)))
section
variable{v:Nat->Option T}
def di0:p4 S0 yes 0:=by kernel_rfl
def di1:p4 S0 yes 1:=by kernel_rfl
def mw0:p4 (I9 v) Ja 0:=by kernel_rfl
def mw1:p4 (I9 v) Ja 1:=by kernel_rfl
def eb0:p1 (Jb v) (Jc) 0:=by kernel_rfl
def eb1:p1 (Jb v) (Jc) 1:=by kernel_rfl
end
section
variable{c t n k:Nat}{l:List Nat}
def aks(hc:bf c=true)(v:Nat->Option T):Jb v c=Jc c:=gV eb0 eb1 hc
def akt(hc:bf c=true)(ht:t<4)(v:Nat->Option T):I9 v c t=Ja c t:=nj mw0 mw1 hc ht
abbrev uU(c t:Nat):Prop:=xb (bl (co c t)) (eN c t)=xb (bl c) (bZ t 0++eN c t)/\(∀d∈eN c t,d<=7)/\(eN c t).length<=8/\(∀d∈bl c,d<=7)/\(∀d m,(eN c t).reverse=d::m->1<=d)
section
variable(h:uU c t)
def uU.a:=h.1
def uU.d:=h.2.1
def uU.ll:=h.2.2.1
def uU.b:=h.2.2.2.1
def uU.z:=h.2.2.2.2
end
def S1(hc:bf c=true)(ht:t<4):uU c (t+1):=by
 obtain⟨h1,h⟩:=an (show SY c (t+1)=true from nj di0 di1 hc ht)
 obtain⟨h2,h⟩:=an h
 obtain⟨h3,h⟩:=an h
 obtain⟨h4,h5⟩:=an h
 exact⟨ao h1,λd hd=>yc (bA.mp h2 d hd),yc h3,λd hd=>yc (bA.mp h4 d hd),λd m e=>by rw[e]at h5;exact yc h5⟩
def S3(a:List Nat):∀b,bq n (xb a b)=bq n a+bq n b:=by
 induction a with
 |nil=>exactλb=>(jV _).symm
 |cons x a ih=>
  intro b
  cases b with
  |nil=>exact(Vb _).symm
  |cons y b=>
   show(x+y)+2^n*bq n (xb a b)=(x+2^n*bq n a)+(y+2^n*bq n b)
   rw[ih,KA,Nat.add_add_add_comm]
def aku:bq n (bZ t 0++l)=2^(n*t)*bq n l:=by
 induction t with
 |zero=>rw[KH,KJ,Bc];rfl
 |succ t ih=>
  show 0+2^n*bq n (bZ t 0++l)=_
  rw[ih,jV,vg,oL,<-xX,g8 (2^n)]
def Jd(h:∀d∈l,d<2^n):bq n l<2^(n*l.length):=by
 induction l with
 |nil=>exact fB _
 |cons d l ih=>
  have h2:=ih λx hx=>h x (bS _ hx)
  show d+2^n*bq n l<2^(n*(l.length+1))
  rw[vg,oL,g8 (2^(n*l.length))]
  refine bG (xV (h d bk) _) ?_
  rw[eE,<-vg]
  exact ko _ h2
def akv:∀{l:List Nat}{d:Nat},(∀x∈d::l,x<2^n)->oq n l.length (bq n (d::l))=d::l:=by
 intro l
 induction l with
 |nil=>exactλ{d}z=>af (λy=>[d+y]) (KH _)
 |cons e l ih=>
  intro d h
  have h1:=h d bk
  have i:=ih λx hx=>h x (bS _ hx)
  show(d+2^n*bq n (e::l))%2^n::oq n l.length ((d+2^n*bq n (e::l))/2^n)=_
  rw[apl,VA h1,apk _ _ (fB n),KG h1,jV,i]
def akw(hn:1<=n)(h:∀x∈l,x<2^n)(hz:∀d m,l.reverse=d::m->1<=d):dr (bq n l) n=l.length/\gS n (dr (bq n l) n) (bq n l)=l:=by
 have key:dr (bq n l) n=l.length:=by
  have h1:=bits_le (Jd h)
  unfold dr
  cases e:l.reverse with
  |nil=>
   rw[List.reverse_eq_nil_iff.mp e]at h1 ⊢
   rw[show ba ((bq n []:Nat):Int)=0 from rfl,jV]
   exact KG (qp hn xB)
  |cons d m=>
   have hd:=hz d m e
   have e:=(List.reverse_eq_cons_iff.mp e)
   rw[e]at h1 ⊢
   have h2:n*m.length<ba ((bq n (m.reverse++[d]):Nat):Int):=by
    refine Nat.lt_of_not_le λq=>apH (rT q) ?_
    rw[P4,pz]
    refine aD ?_ (jQ _ _)
    exact Bb _ (aD hd (bX d _))
   rw[bQ,pz,apI]at h1 ⊢
   generalize ba ((bq n (m.reverse++[d]):Nat):Int)=b at*
   generalize m.length=j at*
   refine Nat.div_eq_of_lt_le ?_ ?_
   ·rw[nB,g8]
    exact U5 (ku _ n 1▸cR h2 n)
   ·rw[nB,g8]
    exact bG (qp (Nat.add_pos_right _ hn) xB) (cR h1 n)
 refine⟨key,?_⟩
 rw[key]
 cases l with
 |nil=>rfl
 |cons d l=>exact akv h
def akx(hk:1<=k):ba ((2^k - 1:Nat):Int)=k:=by
 refine DB (bits_le (qp (fB k) xB)) (apj λq=>?_)
 have h:=rT (amo q)
 obtain⟨j,e⟩:∃j,k=j+1:=⟨k - 1,(pD hk).symm⟩
 subst e
 rw[Vx,VH,Vy]at h
 exact apH h (U5 (f6 (fB j) _))
end
section
variable{e b q r x:Int}
def Pm(e:Int):Prop:=e=1∨e= -1
def fdm(h0:0<=r)(h1:r<b):(q*b+r).fdiv b=q/\(q*b+r).fmod b=r:=by
 have hb:0<b:=Tw h0 h1
 rw[aor _ (AJ hb),apg _ (AJ hb),vk,Int.add_mul_ediv_right _ _ (pC hb),Int.ediv_eq_zero_of_lt h0 h1,VG,Int.add_mul_emod_self_right,Int.emod_eq_of_lt h0 h1]
 exact⟨rfl,rfl⟩
def Je(he:Pm e)(h0:0<=r)(h1:r<b):(e*(q*b+r)).fdiv (e*b)=q/\(e*(q*b+r)).fmod (e*b)=e*r:=by
 obtain⟨a1,a2⟩:=fdm (q:=q) h0 h1
 rcases he with h|h<;>subst h
 ·rw[nF,nF,nF];exact⟨a1,a2⟩
 ·rw[Bh,Bh,Bh,nF,nF,nF,apo,apq,a1,a2]
  exact⟨rfl,rfl⟩
def xc(he:Pm e):(e*x).natAbs=x.natAbs:=by
 rcases he with h|h<;>subst h
 ·rw[nF]
 ·rw[Bh,nF,VD]
def xe(he:Pm e){k:Nat}(h:ba x<=k)(hk:k<=900000):a8 .mul (.int e) (.int x)=ab (.int (e*x)):=ah (dh.mpr (aD (eA (show ba e<=1 by rcases he with h|h<;>subst h<;>decide) (aD h hk)) (by decide)))
def Pm.neg(he:Pm e):Pm (-e):=he.elim (λh=>.inr (h▸rfl)) λh=>.inl (h▸rfl)
def akz:e*((-1 - q)*b+(b - r))= -e*(q*b+r):=by
 rw[Bh,<-Int.mul_neg,apb,Bh,nF]
 refine af (e*·) ?_
 rw[VC,KR,KR (a:=b),vk (-b),apJ,<-apJ (-b),Int.add_left_neg,VG]
end
section
variable{c t w z n:Nat}{e:Int}{A:List T}{r:aE}{F:Nat->List T->Option T}{a:Ex}{x:T}{l:List (Nat×T)}
def S4{ts:List Tg}{l xs:List T}{r1:aE}(he:ev F a r=ab (.tup l))(ht:qS ts l=ab xs)(hp:putAll r (ts.flatMap Tg.ks) xs=ab r1):ex F (.nest ts a) r=ab (.next,r1):=(af (·.bind (bH λl=>(qS ts l).bind λxs=>(putAll r (ts.flatMap Tg.ks) xs).bind b8)) he).trans ((af (·.bind λxs=>(putAll r (ts.flatMap Tg.ks) xs).bind b8) ht).trans (af (·.bind b8) hp))
abbrev Dig(c t w B W TA LO:Nat):Prop:=LO=W*B+TA/\7<=B/\DM ((W+1)*B) B/\(W+1)*B<2^40000/\wJ [iT W,iT w]=ab (.lst (intsOf (eN c t)))/\ml [.lst (intsOf (bl c)),iT w]=ab (iT TA)/\ml [.lst (intsOf (bl (co c t))),iT w]=ab (iT LO)
def Jf(h:3<=w){d:Nat}(hd:d<=7):d<2^w:=bG (AX hd) (vn (n:=2) (i:=3) (by decide) h)
def S5(h1:3<=w)(h2:w<=4107)(hb:∀d∈bl c,d<=7):bq w (bl c)<2^(w*8)/\ml [.lst (intsOf (bl c)),iT w]=ab (iT (bq w (bl c))):=by
 have h8:(bl c).length=8:=rfl
 have g:=Jd (n:=w) (l:=bl c) λd hd=>Jf h1 (hb d hd)
 rw[h8]at g
 exact⟨g,RF (aD (by decide) h1) (aD h2 (by decide)) (by rw[h8];exact aD (nG 8 h2) (by decide)) (by rw[h8];decide) (aD (bits_le g) (aD (nG 8 h2) (by decide)))⟩
def akA(hc:bf c=true):∀d∈bl c,d<=7:=(S1 (t:=0) hc (by decide)).b
def dig(hc:bf c=true)(ht:t<4)(h1:3<=w)(h2:w<=4107):Dig c (t+1) w (2^(w*(t+1)) - 1) (bq w (eN c (t+1))) (bq w (bl c)) (bq w (bl (co c (t+1)))):=by
 have P:=S1 hc ht
 obtain⟨g1,g2⟩:=S5 h1 h2 P.b
 obtain⟨g3,g4⟩:=S5 h1 h2 (akA (place hc (t:=t+1) ⟨eG t,aD ht (by decide)⟩).hc)
 have Ax:w<=w*(t+1):=Bb _ (eG t)
 have yu:w*(t+1)<=w*8:=ko w (aD ht (by decide))
 have Jg:w*8<=32856:=nG 8 h2
 have Jh:8<=2^(w*(t+1)):=vn (n:=2) (i:=3) (by decide) (aD h1 Ax)
 have h:=af (bq w) P.a
 rw[S3,S3,aku]at h
 have hp:=vn (n:=2) (by decide) yu
 have hb:=akx (k:=w*(t+1)) (aD (aD (by decide) h1) Ax)
 have hB:2^(w*(t+1))=(2^(w*(t+1)) - 1)+1:=(pD (aD (by decide) Jh)).symm
 have uq:=akw (n:=w) (l:=eN c (t+1)) (aD (by decide) h1) (λd hd=>Jf h1 (P.d d hd)) P.z
 have hW:=Jd (n:=w) (l:=eN c (t+1)) λd hd=>Jf h1 (P.d d hd)
 have wQ:w*(eN c (t+1)).length<=w*8:=ko w P.ll
 have hWb:=aD (bits_le hW) wQ
 have hdg:dr (bq w (eN c (t+1))) w<=64:=by rw[uq.1];exact aD P.ll (by decide)
 have hs:=RD (a:=bq w (eN c (t+1))) (n:=w) (aD (by decide) h1) (aD h2 (by decide)) (aD hWb (aD Jg (by decide))) hdg
 rw[uq.2]at hs
 rw[hB]at h hp Jh
 generalize 2^(w*(t+1)) - 1=B at*
 generalize bq w (eN c (t+1))=W at*
 generalize bq w (bl c)=TA at*
 generalize bq w (bl (co c (t+1)))=LO at*
 have i:LO=W*B+TA:=by
  rw[nB,<-g6]at h
  rw[g8 W,eE _ TA]
  exact Nat.add_right_cancel h
 have hM:(W+1)*B<2^(w*8+1):=by
  rw[nB,Vx,Vy]
  exact apf (bI (i▸bX _ _) g3) (J3 hp)
 have S6:=bits_le hM
 refine⟨i,Nat.le_of_succ_le_succ Jh,⟨hb▸aD (yb h2 ht) (by decide),aD S6 (aD (cX Jg) (by decide)),?_⟩,bG hM (vn (by decide) (aD (cX Jg) (by decide))),hs,g2,g4⟩
 unfold dr
 rw[hb]
 refine Nat.div_le_of_le_mul ?_
 generalize w*(t+1)=k at*
 have q:ba (((W+1)*B:Nat):Int)+k - 1<=(w*8+1)+k - 1:=JS (cR S6 k) 1
 rw[ku,VH]at q
 refine aD q (aD (cR (nG 8 Ax) k) ?_)
 rw[<-vg,g8 k 64,g8 k]
 exact nG k (by decide)
noncomputable def lG(c z t w:Nat)(e:Int)(A:List T):List (Nat×T):=(6,iT w)::(10,.int e)::(27,tx (co c (t+1)))::lC c z t A
noncomputable def kG:List Nat:=[6,10,27,16,5,9,13,14,22,23,24]
def S7(l:List Nat){k:Nat}:Dp (k+1) (.lst (intsOf l)):=.map λx z=>.int x
def akD{i:Int}(h:ev F a r=ab (.int i)):ev F (.neg a) r=ab (.int (-i)):=af (·.bind (bp λi=>ab (T.int (-i)))) h
def s19(hc:bf c=true)(ht:t<4)(hw:w<=4107){B TA LO:Nat}(hB:2^(w*(t+1)) - 1=B)(ta:ml [.lst (intsOf (bl c)),iT w]=ab (iT TA))(lo:ml [.lst (intsOf (bl (co c (t+1)))),iT w]=ab (iT LO))(K:Kn r (lG c z t w e A)):eC 19 r=ab (.next,put (put (put r 31 (iT B)) 32 (iT TA)) 33 (iT LO)):=by
 have hwt:w*(t+1)<=16428:=yb hw ht
 have hC:=(place hc (t:=t+1) ⟨eG t,aD ht (by decide)⟩).hc
 have one:∀{x y:Nat},bf x=true->ml [.lst (intsOf (bl x)),iT w]=ab (iT y)->ev (Fn aJ 60) (.call 3 (.cons eB (.cons (.var 6) .nil))) (put r 67 (tx x))=ab (iT y):=λ{x y}hx hs=>by
  have K1:=K.put (k:=67) (v:=tx x) (by decide)
  exact c5 (aI (use (f:=λr=>ev (Fn aJ 60) eB r) (g:=λu=>ab (.lst (intsOf (bl x)))) (K1.pick [67]) (aks hx)) (aI (K1.v 6 rfl) rfl)) hs
 refine S4 (l:=[iT B,.lst [iT TA,iT LO]]) (je (aI (aR (aR (x:=iT 2) rfl (aR (K.v 6 rfl) (K.v 9 rfl) (Au (bI hw (by decide)) (bI ht (by decide)))) (IK (aD (yb (bits_le (x:=2) (k:=2) (by decide)) hwt) (by decide)))) (y:=iT 1) rfl (hB▸r7 (fB _))) (aI ?_ rfl)) (show 2<=lim by decide)) rfl rfl
 exact p8 (inj:=λp:Nat×Nat=>tx p.1) (l:=[(c,TA),(co c (t+1),LO)]) (g:=λp=>iT p.2) (kZ (aI (K.v 13 rfl) (aI (K.v 22 rfl) rfl)) (show 2<=lim by decide)) rfl λp hp=>(br.mp hp).elim (λq=>q▸one hc ta) λq=>(b4.mp q)▸one hC lo
def akG(hc:bf c=true)(ht:t<4)(K:Kn r l)(h:l.lookup 24=ab (.lst (intsOf (wy c (t+1))))):ev (Fn aJ 60) (.comp 69 (.sm .yl (.var 24) (.cons (.var 69) .nil)) I1 (.lit (.bool true))) r=ab (.lst (intsOf (eN c (t+1)))):=by
 refine(p8 (inj:=λi=>iT i) (l:=bc (C8 c (t+1))) (g:=λi=>iT (SX (wy c (t+1)) i)) (use (f:=λr=>ev (Fn aJ 60) I1 r) (g:=λz=>ab (.lst ((bc (C8 c (t+1))).map λi=>iT i))) (K.one h) (akt hc ht)) rfl λi hi=>?_).trans (af (λl=>ab (T.lst l)) (by unfold eN intsOf;rw[fO];rfl))
 have K1:=K.put (k:=69) (v:=iT i) (by decide)
 exact pe (K1.v 24 ((cD ..).trans h)) (aI (K1.v 69 rfl) rfl) (af (·.bind λns=>ab (T.int ((ns.filter (· ==(i:Int))).length))) (RO _))
def part19(hc:bf c=true)(hz:z<4)(ht:t<4)(he:Pm e)(h1:3<=w)(h2:w<=4107)(hA:dK A n)(hn:n<=45)(K:Kn r (lG c z t w e A)):(ex (Fn aJ 60) (gI 19) r).bind cn=ab (.bool true):=by
 obtain⟨i,b7,hd,hm,hs,ta,lo⟩:=dig hc ht h1 h2
 have e19:=s19 (B:=2^(w*(t+1)) - 1) hc ht h2 rfl ta lo K
 generalize 2^(w*(t+1)) - 1=B at*
 generalize bq w (eN c (t+1))=W at*
 generalize bq w (bl c)=TA at*
 generalize bq w (bl (co c (t+1)))=LO at*
 subst i
 have K1:=((K.put (k:=31) (v:=iT B) (by decide)).put (k:=32) (v:=iT TA) (by decide)).put (k:=33) (v:=iT (W*B+TA)) (by decide)
 refine go 19 e19 ?_ λy=>rfl
 have Ji:0<B:=bG (by decide) b7
 have C9:B/(z+2)<B:=aou Ji (jQ 2 z)
 have hs0:0<B/(z+2):=aoy (aD (cR (cE hz) 2) (aD (by decide) b7)) (eG _)
 have q7:a8 .fdiv (iT B) (iT (z+2))=ab (iT (B/(z+2))):=As (eG _) (aD (cR (cE hz) 2) (by decide))
 generalize B/(z+2)=s at*
 have Jj:W*B+s<=(W+1)*B:=by rw[nB];exact f6 (cE C9) _
 have Jk:B<=(W+1)*B:=Vc _ (eG W)
 have bM:∀{x:Nat},x<=(W+1)*B->ba (x:Int)<=40000:=λh=>bits_le (bI h hm)
 have eB0:e*(B:Int)≠0:=λq=>iS Ji (by have g:=xc (x:=(B:Int)) he;rw[q]at g;exact g.symm)
 have mB:a8 .mul (.int e) (iT B)=ab (.int (e*B)):=xe he (bM Jk) (by decide)
 have Jl:∀{f:Int}{x:Nat},Pm f->x<=(W+1)*B->a8 .mul (.int f) (iT x)=ab (.int (f*x))/\Fn aJ 60 5 [.int (f*x),.int (e*B)]=ab (.tup [.int ((f*x).fdiv (e*B)),.int ((f*x).fmod (e*B))]):=λ{f x}hf hx=>⟨xe hf (bM hx) (by decide),dm (L:=49) eB0 (by rw[xc he,xc hf];exact hd.less hx)⟩
 have S8:(s:Int)<(B:Int):=fA.mpr C9
 have f1:=Je (q:=(W:Int)) (b:=(B:Int)) (r:=0) he (T5 0) (fA.mpr Ji)
 have f2:=Je (q:=(W:Int)) (b:=(B:Int)) (r:=(s:Int)) he (cx s) S8
 have f3:=Je (q:= -1 - (W:Int)) (b:=(B:Int)) (r:=(B:Int) - s) he (Int.sub_nonneg_of_le (AJ S8)) (Int.sub_lt_self _ (fA.mpr hs0))
 rw[akz]at f3
 rw[amH,Int.mul_zero]at f1
 obtain⟨m1,d1⟩:=Jl (x:=W*B) he (aD (bX _ _) Jj)
 obtain⟨m2,d2⟩:=Jl (x:=W*B+s) he Jj
 obtain⟨m3,d3⟩:=Jl (x:=W*B+s) he.neg Jj
 rw[show((W*B:Nat):Int)=(W:Int)*B from rfl,f1.1,f1.2]at d1
 rw[show((W*B+s:Nat):Int)=(W:Int)*B+s from rfl,f2.1,f2.2]at d2
 rw[show((W*B+s:Nat):Int)=(W:Int)*B+s from rfl,f3.1,f3.2]at d3
 have sub:a8 .sub (iT (W*B+TA)) (iT TA)=ab (iT (W*B)):=(r7 (jQ _ _)).trans (by rw[VH])
 have K2:=(((K1.put (k:=34) (v:=iT s) (by decide)).put (k:=35) (v:=iT W) (by decide)).put (k:=36) (v:=.int 0) (by decide)).put (k:=37) (v:=.lst (intsOf (eN c (t+1)))) (by decide)
 refine go 20 (S4 (l:=[iT s,.tup [iT W,.int 0],.lst (intsOf (eN c (t+1)))]) (je (aI (aR (K1.v 31 rfl) (aR (K1.v 5 rfl) rfl rfl) q7) (aI (c5 (aI (aR (K1.v 10 rfl) (aR (K1.v 33 rfl) (K1.v 32 rfl) sub) m1) (aI (aR (K1.v 10 rfl) (K1.v 31 rfl) mB) rfl)) d1) (aI (akG hc ht K1 rfl) rfl))) (show 3<=lim by decide)) rfl rfl) ?_ λy=>rfl
 have A1:dK [.tup [tx (co c (t+1)),tx (co c (t+1))],.tup [.int 0,.int 0],.tup [.lst (intsOf (eN c (t+1))),.lst (intsOf (eN c (t+1)))]] 3:=.cons (same_str _) (.cons rfl (.one (Dp.eq (S7 _) rfl)))
 refine go 21 (asks K2 rfl hA (aD hn (by decide)) (show 3<=60 by decide) A1 (aI (lq (K2.v 22 rfl) (K2.v 27 rfl)) (aI (lq (K2.v 36 rfl) rfl) (aI (lq (c5 (aI (K2.v 35 rfl) (aI (K2.v 6 rfl) rfl)) hs) (K2.v 37 rfl)) rfl)))) ?_ λy=>rfl
 have A2:=hA.add A1
 generalize A++[T.tup [tx (co c (t+1)),tx (co c (t+1))],.tup [.int 0,.int 0],.tup [.lst (intsOf (eN c (t+1))),.lst (intsOf (eN c (t+1)))]]=A' at*
 have K3:=K2.put (k:=16) (v:=.lst A') (by decide)
 have two:∀{a b:Int},eqT (.tup [.int a,.int b]) (.tup [.int a,.int b])=ab true:=Dp.eq (Dp.up (k:=1) (.tup (.cons (.int _) (.cons (.int _) .nil)))) rfl
 have A3:dK [.tup [.tup [iT W,.int (e*s)],.tup [iT W,.int (e*s)]],.tup [.tup [.int (-1 - W),.int (e*(B - s))],.tup [.int (-1 - W),.int (e*(B - s))]]] 2:=.cons two (.one two)
 have ad:=aR (F:=Fn aJ 60) (o:=.add) (aR (K3.v 33 rfl) (K3.v 32 rfl) sub) (K3.v 34 rfl) (z:=iT (W*B+s)) rfl
 have bB:=aR (F:=Fn aJ 60) (K3.v 10 rfl) (K3.v 31 rfl) mB
 have bsB:ba ((B:Int) - s)<=40000:=(xW (cE C9))▸bM (aD (mA _ _) Jk)
 refine go 22 (asks K3 rfl A2 (aD (cR hn 3) (by decide)) (show 2<=60 by decide) A3 (aI (lq (c5 (aI (aR (K3.v 10 rfl) ad m2) (aI bB rfl)) d2) (je (aI (K3.v 35 rfl) (aI (aR (K3.v 10 rfl) (K3.v 34 rfl) (xe he (bM (aD (cE C9) Jk)) (by decide))) rfl)) (show 2<=lim by decide))) (aI (lq (c5 (aI (aR (akD (K3.v 10 rfl)) ad m3) (aI bB rfl)) d3) (je (aI (aR rfl (K3.v 35 rfl) rfl) (aI (aR (K3.v 10 rfl) (aR (K3.v 31 rfl) (K3.v 34 rfl) rfl) (xe he bsB (by decide))) rfl)) (show 2<=lim by decide))) rfl))) ?_ λy=>rfl
 exact part23 hc hz ht (A2.add A3) (cR (cR hn 3) 2) ((K3.put (k:=16) (v:=.lst _) (by decide)).pick [16,5,9,13,14,22,23,24])
end
noncomputable def fl(e sh:Int)(t i:Nat):Int:=(e*(sh+i)).fdiv (e*t)
noncomputable def rn(e sh:Int)(t i:Nat):Int:=(e*(sh+i)).fmod (e*t)
noncomputable def Dc(e sh:Int)(t i:Nat):T:=.tup [.int (fl e sh t i),.int (rn e sh t i)]
noncomputable def cls(t k:Nat):List Nat:=(bc 8).filter λj=>j%t==k
noncomputable def sz(c j:Nat):T:=.str ⟨#[fY (c.testBit j)]⟩
noncomputable def Jm(e:Int)(s t i:Nat):Bool×Option T×Option T:=
 (D5 ((s:Int) - 20+i).natAbs 1000&&(bc 8).all λj=>(rn e (s - 20) t j==rn e (s - 20) t i)==(j%t==i%t),
  (a8 .mul (.int (fl e (s - 20) t i)) (iT t)).bind λx=>(a8 .mul (.int e) (.int (rn e (s - 20) t i))).bind λy=>(a8 .add x y).bind λz=>a8 .sub z (.int (s - 20)),
  (gO .min1 [.lst ((cls t (i%t)).map λj=>.int (fl e (s - 20) t j))]).bind λm=>a8 .sub (.int (fl e (s - 20) t i)) m)
noncomputable def Jo(t i:Nat):Bool×Option T×Option T:=(true,ab (iT i),ab (iT (i/t)))
def akL:(tab 41 λs=>tab 4 λt=>tab 8 (Jm 1 s (t+1)))=cU 41 λs=>cU 4 λt=>cU 8 (Jo (t+1)):=by kernel_rfl
def akM:(tab 41 λs=>tab 4 λt=>tab 8 (Jm (-1) s (t+1)))=cU 41 λs=>cU 4 λt=>cU 8 (Jo (t+1)):=by kernel_rfl
noncomputable def Jp:T->Option T:=cH λl=>(hU l).bind λys=>(yk ys).bind λcs=>if cs.length<64 then ab (.lst ((vC cs).map λc=>.str ⟨#[c]⟩))else ae
noncomputable def S9(c t:Nat):List (Option T):=tab 8 λi=>(Jp (.lst ((cls (t+1) (i%(t+1))).map (sz c)))).bind λy=>kB y (iT (i/(t+1)))
noncomputable def Ta(c t:Nat):List (Option T):=cU 8 λi=>ab (sz (co c (t+1)) i)
def so0:p4 S9 Ta 0:=by kernel_rfl
def so1:p4 S9 Ta 1:=by kernel_rfl
def Jq{c:Nat}:(tab 8 λj=>kB (tx c) (iT j))=cU 8 (λj=>ab (sz c j)):=by kernel_rfl
noncomputable def c1:Ex:=.j0 [63,64] (.idx (.var 13) (.bin .sub (.bin .add (.bin .mul (.var 63) (.var 9)) (.bin .mul (.var 10) (.var 64))) (.var 7))) (.var 26) (.cmp .eq (.var 64) (.var 29))
noncomputable def c2:Ex:=.j0 [65,66] (.var 65) (.var 26) (.cmp .eq (.var 66) (.var 29))
noncomputable def Jr:S:=.seq (.asg 30 (.yn c1)) (.seq (.aug 27 .add (.idx (.var 30) (.bin .sub (.var 28) (.prim .min1 (.cons c2 .nil))))) .skip)
abbrev xf(e sh:Int)(t i:Nat):Prop:=(sh+i).natAbs<=1000/\(∀j,j<8->(rn e sh t j==rn e sh t i)=(j%t==i%t))/\(∃x y z,a8 .mul (.int (fl e sh t i)) (iT t)=ab x/\a8 .mul (.int e) (.int (rn e sh t i))=ab y/\a8 .add x y=ab z/\a8 .sub z (.int sh)=ab (iT i))/\∃m,gO .min1 [.lst ((cls t (i%t)).map λj=>.int (fl e sh t j))]=ab m/\a8 .sub (.int (fl e sh t i)) m=ab (iT (i/t))
section
variable(h:xf e sh t i)
def xf.n:=h.1
def xf.r:=h.2.1
def xf.x:=h.2.2.1
def xf.m:=h.2.2.2
end
def Dd{e:Int}{s t i:Nat}(he:Pm e)(hs:s<41)(ht:t<4)(hi:i<8):xf e (s - 20) (t+1) i:=by
 have q:Jm e s (t+1) i=Jo (t+1) i:=by
  rcases he with h|h<;>subst h
  ·exact cw (cw (cw akL s hs) t ht) i hi
  ·exact cw (cw (cw akM s hs) t ht) i hi
 obtain⟨q1,q⟩:=Prod.mk.inj q
 obtain⟨q2,q3⟩:=Prod.mk.inj q
 obtain⟨q1,q4⟩:=an q1
 obtain⟨x,hx,q2⟩:=nH.mp q2
 obtain⟨y,hy,q2⟩:=nH.mp q2
 obtain⟨z,hz,q2⟩:=nH.mp q2
 exact⟨yc q1,λj hj=>ao (bA.mp q4 j (iw.mpr hj)),⟨x,y,z,hx,hy,hz,q2⟩,nH.mp q3⟩
noncomputable def lH(c z t w:Nat)(e sh:Int)(A:List T):List (Nat×T):=(7,.int sh)::(6,iT w)::(10,.int e)::lC c z t A
noncomputable def Js(e sh:Int)(t:Nat):T:=.lst ((bc 8).map λj=>Dc e sh t j)
noncomputable def pre(c n:Nat):Str:=⟨((bc n).map λi=>fY (c.testBit i)).toArray⟩
noncomputable def lI(c z t w:Nat)(e sh:Int)(A:List T)(n:Nat):List (Nat×T):=(27,.str (pre (co c (t+1)) n))::(26,Js e sh (t+1))::lH c z t w e sh A
noncomputable def kI:List Nat:=27::26::7::6::10::[16,5,9,13,14,22,23,24]
section
variable{c t w z n s:Nat}{e:Int}{A:List T}{r:aE}{F:Nat->List T->Option T}{a:Ex}{x:T}{l:List (Nat×T)}
def akP(c n:Nat):pre c n++⟨#[fY (c.testBit n)]⟩=pre c (n+1):=by
 unfold pre
 rw[List.range_succ,mD]
 exact af AG (JF _ _)
def akQ(h:∀j,j<8->(rn e (s - 20) (t+1) j==rn e (s - 20) (t+1) n)=(j%(t+1)==n%(t+1))):((bc 8).filter λj=>rn e (s - 20) (t+1) j==rn e (s - 20) (t+1) n)=cls (t+1) (n%(t+1)):=List.filter_congr λj hj=>h j (iw.mp hj)
def mX{k1 k2:Nat}{g:Nat->T}(he:Pm e)(hs:s<41)(ht:t<4)(hn:n<8)(K:Kn r (lI c z t w e (s - 20) A n))
  (h:∀j,j<8->ev (Fn aJ 60) (.cmp .eq (.var k2) (.var 29)) (put (put r k1 (.int (fl e (s - 20) (t+1) j))) k2 (.int (rn e (s - 20) (t+1) j)))=ab (.bool (rn e (s - 20) (t+1) j==rn e (s - 20) (t+1) n))/\ev (Fn aJ 60) a (put (put r k1 (.int (fl e (s - 20) (t+1) j))) k2 (.int (rn e (s - 20) (t+1) j)))=ab (g j)):ev (Fn aJ 60) (.j0 [k1,k2] a (.var 26) (.cmp .eq (.var k2) (.var 29))) r=ab (.lst ((cls (t+1) (n%(t+1))).map g)):=
 (HY (inj:=λj=>Dc e (s - 20) (t+1) j) (l:=bc 8) (c:=λj=>rn e (s - 20) (t+1) j==rn e (s - 20) (t+1) n) (g:=g) (st:=λj=>put (put r k1 (.int (fl e (s - 20) (t+1) j))) k2 (.int (rn e (s - 20) (t+1) j))) (K.v 26 rfl) rfl λj hj=>⟨rfl,_,(h j (iw.mp hj)).1,rfl,rfl,λy=>(h j (iw.mp hj)).2⟩).trans (by rw[akQ (Dd he hs ht hn).r])
def akR(hc:bf c=true)(he:Pm e)(hs:s<41)(ht:t<4)(hn:n<8)(K:Kn r (lI c z t w e (s - 20) A n)):∃r',ex (Fn aJ 60) Jr (put (put r 28 (.int (fl e (s - 20) (t+1) n))) 29 (.int (rn e (s - 20) (t+1) n)))=ab (.next,r')/\Kn r' (lI c z t w e (s - 20) A (n+1)):=by
 have S:=Dd he hs ht hn
 have K1:=(K.put (k:=28) (v:=.int (fl e (s - 20) (t+1) n)) (by decide)).put (k:=29) (v:=.int (rn e (s - 20) (t+1) n)) (by decide)
 have q:(Jp (.lst ((cls (t+1) (n%(t+1))).map (sz c)))).bind (λy=>kB y (iT (n/(t+1))))=ab (sz (co c (t+1)) n):=cw (nj so0 so1 hc ht) n hn
 obtain⟨y,q1,q2⟩:=nH.mp q
 obtain⟨m,m1,m2⟩:=S.m
 have e1:ev (Fn aJ 60) c1 (put (put r 28 (.int (fl e (s - 20) (t+1) n))) 29 (.int (rn e (s - 20) (t+1) n)))=ab (.lst ((cls (t+1) (n%(t+1))).map (sz c))):=mX he hs ht hn (K1.pick kI) λj hj=>by
  obtain⟨x,y,z',h1,h2,h3,h4⟩:=(Dd he hs ht hj).x
  have K2:=(K1.put (k:=63) (v:=.int (fl e (s - 20) (t+1) j)) (by decide)).put (k:=64) (v:=.int (rn e (s - 20) (t+1) j)) (by decide)
  exact⟨fN (o:=.eq) (K2.v 64 rfl) (K2.v 29 rfl) rfl,gq (K2.v 13 rfl) (aR (aR (aR (K2.v 63 rfl) (K2.v 9 rfl) h1) (aR (K2.v 10 rfl) (K2.v 64 rfl) h2) h3) (K2.v 7 rfl) h4) (cw Jq j hj)⟩
 have K3:=K1.put (k:=30) (v:=y) (by decide)
 have e2:ev (Fn aJ 60) c2 (put (put (put r 28 (.int (fl e (s - 20) (t+1) n))) 29 (.int (rn e (s - 20) (t+1) n))) 30 y)=ab (.lst ((cls (t+1) (n%(t+1))).map λj=>.int (fl e (s - 20) (t+1) j))):=mX he hs ht hn (K3.pick kI) λj hj=>by
  have K2:=(K3.put (k:=65) (v:=.int (fl e (s - 20) (t+1) j)) (by decide)).put (k:=66) (v:=.int (rn e (s - 20) (t+1) j)) (by decide)
  exact⟨fN (o:=.eq) (K2.v 66 rfl) (K2.v 29 rfl) rfl,K2.v 65 rfl⟩
 have K4:=K3.put (k:=27) (v:=.str (pre (co c (t+1)) (n+1))) (by decide)
 have hl:(pre (co c (t+1)) n).length+1<=lim:=by
  show((bc n).map λi=>fY ((co c (t+1)).testBit i)).toArray.size+1<=lim
  rw[bU,bK,kr]
  exact aD hn (by decide)
 refine⟨_,show ex (Fn aJ 60) Jr _=ab (.next,put (put (put (put r 28 (.int (fl e (s - 20) (t+1) n))) 29 (.int (rn e (s - 20) (t+1) n))) 30 y) 27 (.str (pre (co c (t+1)) (n+1))))from sq (dH ((af (·.bind Jp) e1).trans q1)) (jf.trans (pb (K3.g 27 rfl) (gq (K3.v 30 rfl) (aR (K3.v 28 rfl) (iO (aI e2 rfl) m1) m2) q2) ?_)),K4.pick kI⟩
 exact(ah rfl).trans ((add_str hl).trans (af (λs=>ab (T.str s)) (akP _ _)))
def part17(hc:bf c=true)(hz:z<4)(ht:t<4)(he:Pm e)(hs:s<41)(h1:3<=w)(h2:w<=4107)(hA:dK A n)(hn:n<=45)(K:Kn r (lH c z t w e (s - 20) A)):(ex (Fn aJ 60) (gI 17) r).bind cn=ab (.bool true):=by
 have K1:=(K.put (k:=26) (v:=Js e (s - 20) (t+1)) (by decide)).put (k:=27) (v:=.str (pre (co c (t+1)) 0)) (by decide)
 have Tb:∀{x:Int},x.natAbs<=1000->ba x<=20:=λh=>H0 (bI h (by decide))
 refine go 17 (nh (iP (p8 (inj:=λj=>iT j) (l:=bc 8) (g:=λj=>Dc e (s - 20) (t+1) j) (Ay (n:=8) rfl (by decide)) rfl λj hj=>?_) (iP rfl rfl)) (show 2<=lim by decide) rfl) ?_ λu=>rfl
 ·have S:=Dd he hs ht (iw.mp hj)
  have K2:=K.put (k:=62) (v:=iT j) (by decide)
  have Tc:(((t+1:Nat):Int)).natAbs<=1000:=aD ht (by decide)
  refine c5 (aI (aR (K2.v 10 rfl) (aR (K2.v 7 rfl) (K2.v 62 rfl) rfl) (xe he (Tb S.n) (by decide))) (aI (aR (K2.v 10 rfl) (K2.v 9 rfl) (xe he (Tb Tc) (by decide))) rfl)) (dm (L:=49) ?_ ?_)
  ·exactλq=>by have g:=xc (x:=((t+1:Nat):Int)) he;rw[q]at g;exact Nat.noConfusion g
  ·rw[xc he,xc he]
   exact RP S.n (eG t) Tc
 obtain⟨r',q,K'⟩:=nk (body:=λy r'=>(bH (putAll r' [28,29]) y).bind (ex (Fn aJ 60) Jr)) (inj:=λj=>Dc e (s - 20) (t+1) j) (P:=λp r=>Kn r (lI c z t w e (s - 20) A p.length)) (l:=bc 8) (λp j q hp r K=>by
  obtain⟨g,hj⟩:=SK hp
  rw[bQ,apI,<-g]
  exact akR hc he hs ht hj (g▸K)) (r:=put (put r 26 (Js e (s - 20) (t+1))) 27 (.str (pre (co c (t+1)) 0))) K1
 refine go 18 (ahX (K1.v 26 rfl) rfl q) ?_ λu=>rfl
 exact part19 hc hz ht he h1 h2 hA hn (K'.pick kG)
end
noncomputable def sA(t:Nat)(m:Bool)(k:Nat):T:=.lst ([.str (s_ "*"),.str (rr m)]++(i8 t k).map λy=>.str (aa y))
noncomputable def xg(t:Nat)(m:Bool)(k:Nat):List (Nat×T):=[(17,km t m k),(18,km t (!m) 0),(19,sA t m k),(20,sA t (!m) 0),(21,jg t k m)]
noncomputable def AB:Ex:=.lst (.cons (.attr (.var 21) 12) (.cons (.attr (.var 21) 13) (.cons (.prim .len (.cons (.attr (.var 17) 11) .nil)) (.cons (.prim .len (.cons (.attr (.var 18) 11) .nil)) .nil))))
noncomputable def uV(i:Nat)(r:aE):Option Bool:=(ev (Fn aJ 60) (Aw i) r).bind λx=>(ev (Fn aJ 60) (uQ i) r).bind λy=>eqT x y
noncomputable def Jt(v:Nat->Option T)(t k:Nat)(m:Bool):Option Bool×Option Bool×Option T:=(uV 14 (rz (xg t m k) v),uV 15 (rz (xg t m k) v),ev (Fn aJ 60) AB (rz (xg t m k) v))
noncomputable def Ju(t:Nat)(m:Bool):Option Bool×Option Bool×Option T:=(ab true,ab true,ab (.lst [iT (t+1),.str (rr (!m)),iT (2^t),iT (2^t)]))
section
variable{v:Nat->Option T}
def akS:(tab 4 λt=>tab 8 λk=>Jt v t k true)=cU 4 λt=>cU 8 λk=>Ju t true:=by kernel_rfl
def akT:(tab 4 λt=>tab 8 λk=>Jt v t k false)=cU 4 λt=>cU 8 λk=>Ju t false:=by kernel_rfl
end
noncomputable def sC(n t:Nat)(m:Bool):List T:=(bZ n (.bool true)++[.bool false])++[iT (t+1),.str (rr (!m)),iT (2^t),iT (2^t)]
def akU:(tab 13 λn=>tab 4 λt=>((gO .repr [.lst (sC n t true)]).isSome,(gO .repr [.lst (sC n t false)]).isSome))=cU 13 λz=>cU 4 λz=>(true,true):=by kernel_rfl
def akV{l:List T}{x:T}(h:gO .repr [.lst l]=ab x):∃s,x=.str s:=by
 obtain⟨ys,_,h⟩:=nH.mp (show(T.pE l).bind _=ab x from h)
 split at h
 ·exact⟨_,(Option.some.inj h).symm⟩
 ·exact aN h
def akW{n t:Nat}{m:Bool}(hn:n<13)(ht:t<4):∃s,gO .repr [.lst (sC n t m)]=ab (.str s):=by
 have q:((gO .repr [.lst (sC n t true)]).isSome,(gO .repr [.lst (sC n t false)]).isSome)=(true,true):=cw (cw akU n hn) t ht
 obtain⟨q1,q2⟩:=Prod.mk.inj q
 obtain⟨x,h⟩:∃x,gO .repr [.lst (sC n t m)]=ab x:=by
  cases m with
  |true=>exact mC.mp q1
  |false=>exact mC.mp q2
 obtain⟨s,e⟩:=akV h
 exact⟨s,e▸h⟩
noncomputable def Td(c:Nat):Bool:=(JA.str (txt c)).canLay0
noncomputable def Te(c:Nat):Bool:=true
noncomputable def Jv(c t:Nat):Option Bool:=(mJ false (.lst (intsOf (wy c (t+1)))) .none (.int 1)).bind λx=>(mJ false (.lst (intsOf (bh c (t+1)))) (.int (-1)) .none).bind λy=>eqT x y
noncomputable def Tf(c t:Nat):Option Bool:=ab true
def sk0:p1 (Td) (Te) 0:=by kernel_rfl
def sk1:p1 (Td) (Te) 1:=by kernel_rfl
def fs0:p4 Jv Tf 0:=by kernel_rfl
def fs1:p4 Jv Tf 1:=by kernel_rfl
noncomputable def lK(c z t w:Nat)(e sh:Int)(A:List T):List (Nat×T):=[(7,.int sh),(6,iT w),(10,.int e),(16,.lst A),(5,iT z),(9,iT (t+1)),(13,tx c),(14,.str (lj c))]
noncomputable def lJ(c z t w:Nat)(e sh o:Int)(m:Bool)(A:List T):List (Nat×T):=(11,.bool m)::(8,.int o)::lK c z t w e sh A
noncomputable def lR(c z t w:Nat)(e sh o:Int)(m:Bool)(k:Nat)(A:List T):List (Nat×T):=(17,km t m k)::(18,km t (!m) 0)::(19,sA t m k)::(20,sA t (!m) 0)::(21,jg t k m)::lJ c z t w e sh o m A
noncomputable def kR:List Nat:=[17,18,19,20,21,11,8,7,6,10,16,5,9,13,14]
noncomputable def lS(c z t w:Nat)(e sh o:Int)(m:Bool)(k:Nat)(A:List T):List (Nat×T):=(22,tx (co c (t+1)))::(23,.int (sn c (t+1)))::(24,.lst (intsOf (wy c (t+1))))::(25,.lst (bZ (wy c (t+1)).length (.bool true)++[.bool false]))::lR c z t w e sh o m k A
noncomputable def kS:List Nat:=22::23::24::25::kR
section
variable{c t w z n k:Nat}{e sh o:Int}{m:Bool}{A:List T}{r:aE}{F:Nat->List T->Option T}{a:Ex}{x y:T}{l:List (Nat×T)}
def Th{i:Nat}(h:ev F a r=ab x)(g:yp i x=ab y):ev F (.attr a i) r=ab y:=(af (·.bind (yp i)) h).trans g
def ak1{b:Bool}(h:ev F a r=ab (.bool b)):ev F (.mM a) r=ab (.bool !b):=af (·.bind λt=>if t.plain=true then ab (T.bool (!t.truth))else ae) h
def GC{u:Int}(ht:t<4):om t u<8:=by
 have hp:(0:Int)<((2^t:Nat):Int):=fA.mpr (fB t)
 have h1:=UW u hp
 have h0:=DU u hp
 refine bG ((aoh h0).mpr h1) (vn (n:=2) (j:=3) (by decide) (oJ ht))
def Ti{u:Int}(ht:t<4):Fn aJ 60 8 [iT (t+1),.bool m,.int u]=ab (km t m (om t u)):=ah ⟨dh.mpr (eG t),dh.mpr ht⟩
def Cw{d:Nat}{p q s:T}(ht:t<4)(K:Kn r ((1,.lst [p,q,iT d,s])::lJ c z t w e sh o m A)):∃k,k<8/\eC 10 r=ab (.next,put (put r 17 (km t m k)) 18 (km t (!m) 0)):=by
 refine⟨om t ((d/16:Nat):Int),GC ht,?_⟩
 have h0:om t 0=0:=af Int.toNat (Int.zero_fmod _)
 have g:=Ti (t:=t) (m:=!m) (u:=0) ht
 rw[h0]at g
 exact nh (iP (c5 (aI (K.v 9 rfl) (aI (K.v 11 rfl) (aI (aR (gq (y:=.int 2) (K.v 1 rfl) rfl rfl) rfl (As (m:=16) (by decide) (by decide))) rfl))) (Ti ht)) (iP (c5 (aI (K.v 9 rfl) (aI (ak1 (K.v 11 rfl)) (aI rfl rfl))) g) rfl)) (show 2<=lim by decide) rfl
def Qk(ht:t<4)(hk:k<8)(K:Kn r ((17,km t m k)::(18,km t (!m) 0)::l)):eC 11 r=ab (.next,put (put (put r 19 (sA t m k)) 20 (sA t (!m) 0)) 21 (jg t k m)):=by
 have q:zW [km t m k,km t (!m) 0]=ab (jg t k m):=by
  have q:=cw (cw ain t ht) k hk
  cases m with
  |true=>exact cw q 0 (by decide)
  |false=>exact cw q 1 (by decide)
 exact nh (iP (iO (aI (Th (K.v 17 rfl) rfl) rfl) rfl) (iP (iO (aI (Th (K.v 18 rfl) rfl) rfl) rfl) (iP (c5 (aI (K.v 17 rfl) (aI (K.v 18 rfl) rfl)) q) rfl))) (show 3<=lim by decide) rfl
abbrev Rc(t k:Nat)(m:Bool)(v:Nat->Option T):Prop:=uV 14 (rz (xg t m k) v)=ab true/\uV 15 (rz (xg t m k) v)=ab true/\ev (Fn aJ 60) AB (rz (xg t m k) v)=ab (.lst [iT (t+1),.str (rr (!m)),iT (2^t),iT (2^t)])
section
variable(h:Rc t k m v)
def Rc.ra:=h.1
def Rc.b:=h.2.1
def Rc.re:=h.2.2
end
def rc(ht:t<4)(hk:k<8)(v:Nat->Option T):Rc t k m v:=by
 have q:Jt v t k m=Ju t m:=by
  cases m with
  |true=>exact cw (cw akS t ht) k hk
  |false=>exact cw (cw akT t ht) k hk
 obtain⟨q1,q⟩:=Prod.mk.inj q
 obtain⟨q2,q3⟩:=Prod.mk.inj q
 exact⟨q1,q2,q3⟩
def Tj{i:Nat}(h:uV i r=ab true)(K:Kn r l)(h16:l.lookup 16=ab (.lst A))(hA:dK A n)(hn:n<=60)(hi:sv (gI i)=.app 16 (.tup (.cons (Aw i) (.cons (uQ i) .nil)))):∃B,eC i r=ab (.next,put r 16 (.lst B))/\dK B (n+1):=by
 obtain⟨x,hx,h⟩:=nH.mp h
 obtain⟨y,hy,h⟩:=nH.mp h
 obtain⟨q,B⟩:=xa K h16 hA hn hx hy h
 exact⟨_,(show eC i r=ex (Fn aJ 60) (sv (gI i)) r from rfl).trans (af (λs=>ex (Fn aJ 60) s r) hi|>.trans q),B⟩
def ak3{k:Nat}(hc:bf c=true):Dp k (tx c):=⟨.str (txt c),rfl,gV sk0 sk1 hc,dP _⟩
def ak4(n:Nat)(x:T):(bZ n [x]).flatten=bZ n x:=by
 induction n with
 |zero=>rfl
 |succ n ih=>exact af (x::·) ih
def zm(hc:bf c=true)(ht:t<4)(ho:o.natAbs<=1000)(hA:dK A n)(hn:n<=30)(K:Kn r (lS c z t w e sh o m k A)):∃B,eC 13 r=ab (.next,put r 16 (.lst B))/\dK B (n+2):=by
 have hT:Tk (t+1):=⟨eG t,aD ht (by decide)⟩
 have P:=place hc hT
 have q:Jv c t=ab true:=nj fs0 fs1 hc ht
 obtain⟨x,hx,q⟩:=nH.mp q
 obtain⟨y,hy,q⟩:=nH.mp q
 have hB:dK [.tup [.tup [tx (co c (t+1)),.int (sn c (t+1)),.lst ((zs (wy c (t+1))).map .int),.int o],.tup [tx (co c (t+1)),.int (sn c (t+1)),.lst ((zs (wy c (t+1))).map .int),.int o]],.tup [x,y]] 2:=.cons (Dp.eq (Dp.up (k:=2) (.tup (.cons (ak3 P.hc) (.cons (.int _) (.cons (.map λx u=>.int x) (.cons (.int _) .nil)))))) rfl) (.one q)
 refine⟨_,asks K rfl hA (aD hn (by decide)) (show 2<=60 by decide) hB (aI (lq (c5 (aI (K.v 13 rfl) (aI (K.v 9 rfl) (aI (K.v 8 rfl) rfl))) (picked (L:=48) hc hT ho)) (je (aI (K.v 22 rfl) (aI (K.v 23 rfl) (aI (iO (aI (K.v 24 rfl) rfl) (sorted (bI P.hl (by decide)))) (aI (K.v 8 rfl) rfl)))) (show 4<=lim by decide))) (aI (lq (Ag (K.v 24 rfl) rfl rfl hx) (Ag (c5 (aI (K.v 13 rfl) (aI (K.v 9 rfl) rfl)) (places (L:=59) hc hT)) rfl rfl hy)) rfl)),hA.add hB⟩
def Jw{x y:List T}(h:x.length+y.length<=lim):a8 .add (.lst x) (.lst y)=ab (.lst (x++y)):=ah h
def s16(hc:bf c=true)(ht:t<4)(hk:k<8)(hA:dK A n)(hn:n<=30)(K:Kn r (lS c z t w e sh o m k A)):∃B,eC 16 r=ab (.next,put r 16 (.lst B))/\dK B (n+1):=by
 have P:=place hc (t:=t+1) ⟨eG t,aD ht (by decide)⟩
 have hl:=P.hl
 have e24:=Am (F:=Fn aJ 60) (K.g 24 rfl)
 have e25:=K.v (F:=Fn aJ 60) 25 rfl
 generalize (wy c (t+1)).length=N at*
 obtain⟨s,hs⟩:=akW (m:=m) (AX hl) ht
 have l1:(bZ N (T.bool true)++[T.bool false]).length+4<=lim:=by rw[bQ,qG];exact aD (cR (cR hl 1) 4) (by decide)
 have l2:(bZ N (T.bool true)).length+3<=lim:=by rw[qG];exact aD (cR hl 3) (by decide)
 have l3:(bZ N (T.bool true)++[T.bool false,iT (t+1),.str (rr (!m))]).length+2<=lim:=by rw[bQ,qG];exact aD (cR (cR hl 3) 2) (by decide)
 have m1:a8 .mul (.lst [T.bool true]) (iT N)=ab (.lst (bZ N (T.bool true))):=(ah ⟨cx _,aD (ko 2 hl) (by decide)⟩).trans (af (λl=>ab (T.lst l)) (ak4 N _))
 have er:ev (Fn aJ 60) (.ite (.var 11) (.lit (.str (s_ "U"))) (.lit (.str (s_ "R")))) r=ab (.str (rr (!m))):=wR (K.v 11 rfl) rfl (w:=m) rfl (by cases m<;>rfl)
 have ep:=aR (F:=Fn aJ 60) (r:=r) (a:=.lit (.int 2)) (x:=iT 2) rfl (aR (K.v 9 rfl) (b:=.lit (.int 1)) (y:=iT 1) rfl (r7 (eG t))) (IK (a:=2) (n:=t) (aD (yb (bits_le (x:=2) (k:=2) (by decide)) (cE ht)) (by decide)))
 have q:eC 16 r=ab (.next,put r 16 (.lst (A++[.tup [.str s,.str s]])))/\dK (A++[.tup [.str s,.str s]]) (n+1):=xa (F:=Fn aJ 60) K rfl hA (aD hn (by decide)) (iO (aI (aR e25 (use (f:=λr=>ev (Fn aJ 60) AB r) (g:=λu=>ab (T.lst [iT (t+1),.str (rr (!m)),iT (2^t),iT (2^t)])) (K.pick [17,18,19,20,21]) λv=>(rc ht hk v).re) (Jw l1)) rfl) hs) (iO (aI (aR (y:=.lst [iT (2^t),iT (2^t)]) (aR (y:=.lst [.bool false,iT (t+1),.str (rr (!m))]) (aR (x:=.lst [.bool true]) (kZ (aI rfl rfl) (show 1<=lim by decide)) e24 m1) (kZ (aI rfl (aI (K.v 9 rfl) (aI er rfl))) (show 3<=lim by decide)) (Jw l2)) (aR (x:=.lst [iT (2^t)]) (y:=iT 2) (kZ (aI ep rfl) (show 1<=lim by decide)) rfl rfl) (Jw l3)) rfl) (by rw[show(bZ N (T.bool true)++[.bool false,iT (t+1),.str (rr (!m))])++[iT (2^t),iT (2^t)]=sC N t m from by unfold sC;rw[fu,fu];rfl];exact hs)) (same_str s)
 exact⟨_,q⟩
def part10{d:Nat}{p q s:T}{j:Nat}(hc:bf c=true)(hz:z<4)(ht:t<4)(he:Pm e)(hs:j<41)(h1:3<=w)(h2:w<=4107)(ho:o.natAbs<=1000)(hA:dK A n)(hn:n<=20)(K:Kn r ((1,.lst [p,q,iT d,s])::lJ c z t w e (j - 20) o m A)):(ex (Fn aJ 60) (gI 10) r).bind cn=ab (.bool true):=by
 obtain⟨k,hk,zD⟩:=Cw ht K
 refine go 10 zD ?_ λy=>rfl
 have K1:=(K.put (k:=17) (v:=km t m k) (by decide)).put (k:=18) (v:=km t (!m) 0) (by decide)
 refine go 11 (Qk ht hk (K1.pick [17,18])) ?_ λy=>rfl
 have K2:Kn _ (lR c z t w e (j - 20) o m k A):=(((K1.put (k:=19) (v:=sA t m k) (by decide)).put (k:=20) (v:=sA t (!m) 0) (by decide)).put (k:=21) (v:=jg t k m) (by decide)).pick kR
 refine go 12 (nc (c5 (aI (K2.v 21 rfl) (aI (K2.v 13 rfl) (aI (K2.v 9 rfl) rfl))) (aiL (L:=57) hc ht)) rfl) ?_ λy=>rfl
 have K3:Kn _ (lS c z t w e (j - 20) o m k A):=((((K2.put (k:=22) (v:=tx (co c (t+1))) (by decide)).put (k:=23) (v:=.int (sn c (t+1))) (by decide)).put (k:=24) (v:=.lst (intsOf (wy c (t+1)))) (by decide)).put (k:=25) (v:=.lst (bZ (wy c (t+1)).length (.bool true)++[.bool false])) (by decide)).pick kS
 obtain⟨B,I0,hB⟩:=zm hc ht ho hA (aD hn (by decide)) K3
 refine go 13 I0 ?_ λy=>rfl
 have K4:Kn _ (lS c z t w e (j - 20) o m k B):=(K3.put (k:=16) (v:=.lst B) (by decide)).pick kS
 obtain⟨C,e14,hC⟩:=Tj (i:=14) (use (f:=λr=>uV 14 r) (g:=λy=>ab true) (K4.pick [17,18,19,20,21]) λv=>(rc ht hk v).ra) K4 rfl hB (aD (cR hn 2) (by decide)) rfl
 refine go 14 e14 ?_ λy=>rfl
 have K5:Kn _ (lS c z t w e (j - 20) o m k C):=(K4.put (k:=16) (v:=.lst C) (by decide)).pick kS
 obtain⟨D,e15,hD⟩:=Tj (i:=15) (use (f:=λr=>uV 15 r) (g:=λy=>ab true) (K5.pick [17,18,19,20,21]) λv=>(rc ht hk v).b) K5 rfl hC (aD (cR hn 3) (by decide)) rfl
 refine go 15 e15 ?_ λy=>rfl
 have K6:Kn _ (lS c z t w e (j - 20) o m k D):=(K5.put (k:=16) (v:=.lst D) (by decide)).pick kS
 obtain⟨E,AB,hE⟩:=s16 hc ht hk hD (aD (cR hn 4) (by decide)) K6
 refine go 16 AB ?_ λy=>rfl
 exact part17 hc hz ht he hs h1 h2 hE (aD (cR hn 5) (by decide)) ((K6.put (k:=16) (v:=.lst E) (by decide)).pick [7,6,10,16,5,9,13,14,22,23,24])
end
noncomputable def Tn(c:Nat):Option T×Option T×List Nat×List Nat:=(wJ [iT c,iT 1],ml [.lst (intsOf (bl c)),iT 1],tab 8 (λi=>c/2^i%2),d6 (txt c).cps.toList true)
noncomputable def To(c:Nat):Option T×Option T×List Nat×List Nat:=(ab (.lst (intsOf (bl c))),ab (iT c),cU 8 (λi=>if c.testBit i=true then 1 else 0),(lj c).cps.toList)
def bq0:p1 (Tn) (To) 0:=by kernel_rfl
def bq1:p1 (Tn) (To) 1:=by kernel_rfl
noncomputable def d8(d:Nat->Nat):Str:=⟨#[d 0,d 1,d 2,d 3,d 4,d 5,d 6,d 7]⟩
def Jx{d:Nat->Nat}:iV .join (.str (s_ "")) [.lst ((bc 8).map λi=>.str ⟨#[d i]⟩)]=ab (.str (d8 d)):=by kernel_rfl
theorem ur{b:Bool}:kB (.str (s_ "ur")) (iT (if b=true then 1 else 0))=ab (.str ⟨#[fY b]⟩):=by cases b<;>kernel_rfl
def alc{b:Bool}:eqT (.str ⟨#[fY b]⟩) (.str (s_ "u"))=ab (!b):=by cases b<;>kernel_rfl
def ald:iV .upper (.str ⟨#[117]⟩) []=ab (.str ⟨#[85]⟩):=by kernel_rfl
noncomputable def pv(c i:Nat):Bool:=i.casesOn true λj=>c.testBit j
def ale{c:Nat}:(tab 8 λi=>(a8 .add (.str (s_ "r")) (tx c)).bind λx=>mJ false x (iT i) (iT (i+2)))=cU 8 λi=>ab (.str ⟨#[fY (pv c i),fY (c.testBit i)]⟩):=by kernel_rfl
def alf{a b:Bool}:eqT (.str ⟨#[fY a,fY b]⟩) (.str (s_ "ru"))=ab (a&&!b):=by cases a<;>cases b<;>kernel_rfl
noncomputable def bit(m i:Nat):Nat:=m/2^i%2
noncomputable def ty(c m i:Nat):Nat:=if c.testBit i=true then 114 else if bit m i=0 then 117 else 85
section
variable{c m z t w n:Nat}{e sh o:Int}{mu:Bool}{r:aE}{F:Nat->List T->Option T}{a b:Ex}{l:List Nat}
def alg{i:Nat}:a8 .shr (iT m) (iT i)=ab (iT (m/2^i)):=by
 show(if(0:Int)<=(i:Int)then ab (T.int ((m:Int).fdiv (2^((i:Int)).toNat)))else ae)=_
 rw[ah (cx i),jU,show(2:Int)^i=((2^i:Nat):Int)from(U1 2 i).symm,wC]
 rfl
def Tp{i:Nat}(ha:ev F a r=ab (iT m))(hb:ev F b r=ab (iT i)):ev F (.bin .band (.bin .shr a b) (.lit (.int 1))) r=ab (iT (bit m i)):=aR (aR ha hb alg) rfl (Ah (h:=1))
def alh(h:ev F a r=ab (.bool false)):ev F (.ju a b) r=ab (.bool false):=af (·.bind λx=>if x.plain=true then(if x.truth then ev F b r else ab x)else ae) h
def ali{x:T}(h:ev F a r=ab (.bool true))(q:ev F b r=ab x):ev F (.ju a b) r=ab x:=(af (·.bind λx=>if x.plain=true then(if x.truth then ev F b r else ab x)else ae) h).trans q
def alj{d e:Nat->Nat}(h:∀i,d i=114↔e i=114)(l:List Nat):∀st,d6 (l.map d) st=d6 (l.map e) st:=by
 induction l with
 |nil=>exactλst=>rfl
 |cons i l ih=>
  intro st
  show(if d i=114 then 114::d6 (l.map d) true else jM st false::d6 (l.map d) false)=if e i=114 then 114::d6 (l.map e) true else jM st false::d6 (l.map e) false
  rw[ih,ih]
  by_cases q:e i=114
  ·rw[ah q,ah ((h i).mpr q)]
  ·rw[ai q,ai λp=>q ((h i).mp p)]
def alk(i:Nat):ty c m i=114↔fY (c.testBit i)=114:=by
 unfold ty
 cases c.testBit i with
 |true=>exact⟨λz=>rfl,λz=>rfl⟩
 |false=>refine⟨λh=>aj h ?_,λh=>aj h (show¬117=114 by decide)⟩;by_cases q:bit m i=0<;>simp only[q,if_true,if_false]<;>decide
def alm(i:Nat):ty c m i=114∨ty c m i=117∨ty c m i=85:=by
 unfold ty
 by_cases h:c.testBit i=true
 ·exact .inl (ah h)
 ·rw[ai h]
  by_cases q:bit m i=0
  ·exact .inr (.inl (ah q))
  ·exact .inr (.inr (ai q))
abbrev B9(c:Nat):Prop:=wJ [iT c,iT 1]=ab (.lst (intsOf (bl c)))/\ml [.lst (intsOf (bl c)),iT 1]=ab (iT c)/\(∀i,i<8->bit c i=if c.testBit i=true then 1 else 0)/\d6 (txt c).cps.toList true=(lj c).cps.toList
section
variable(h:B9 c)
def B9.s2:=h.1
def B9.s3:=h.2.1
def B9.bb:=h.2.2.1
def B9.cc:=h.2.2.2
end
def b9(hc:bf c=true):B9 c:=by
 obtain⟨h1,h⟩:=Prod.mk.inj (gV bq0 bq1 hc)
 obtain⟨h2,h⟩:=Prod.mk.inj h
 obtain⟨h3,h4⟩:=Prod.mk.inj h
 exact⟨h1,h2,λi hi=>cw (f:=λi=>c/2^i%2) h3 i hi,h4⟩
def typed(hc:bf c=true):Fn aJ 60 6 [.str (d8 (ty c m)),.str (s_ "r")]=ab (.str (lj c)):=by
 have e:d6 (d8 (ty c m)).cps.toList true=(lj c).cps.toList:=(alj (λi=>alk i) (bc 8) true).trans (b9 hc).cc
 refine(aiX (L:=59) (s:=d8 (ty c m)) (bj 8) (λd hd=>?_) (by rw[e];exact bj 8)).trans (af (λs=>ab (T.str ⟨s.toArray⟩)) e)
 obtain⟨i,_,q⟩:=dy.mp (show d∈(bc 8).map (ty c m)from hd)
 exact q▸alm i
noncomputable def lV(p q d f c z t w:Nat)(e sh o:Int)(mu:Bool):List (Nat×T):=[(1,.lst [iT p,iT q,iT d,iT f]),(4,iT c),(5,iT z),(6,iT w),(7,.int sh),(8,.int o),(9,iT (t+1)),(10,.int e),(11,.bool mu)]
def part5{p q d f j:Nat}(hc:bf c=true)(hz:z<4)(ht:t<4)(he:Pm e)(hj:j<41)(h1:3<=w)(h2:w<=4107)(ho:o.natAbs<=1000)(K:Kn r (lV p q d f c z t w e (j - 20) o mu)):(ex (Fn aJ 60) (gI 5) r).bind cn=ab (.bool true):=by
 have B:=b9 hc
 have K1:=K.put (k:=12) (v:=.lst (intsOf (bl c))) (by decide)
 refine go 5 (dH (c5 (aI (K.v 4 rfl) (aI rfl rfl)) B.s2)) ?_ λs=>rfl
 have K2:=K1.put (k:=13) (v:=tx c) (by decide)
 refine go 6 (dH (pe (y:=.str (s_ "")) rfl (aI (p8 (inj:=λi=>iT (if c.testBit i=true then 1 else 0)) (l:=bc 8) (g:=λi=>.str ⟨#[fY (c.testBit i)]⟩) (K1.v 12 rfl) rfl λi hi=>?_) rfl) (show _=ab (tx c)from Jx))) ?_ λs=>rfl
 ·exact gq rfl ((K1.put (k:=55) (v:=iT (if c.testBit i=true then 1 else 0)) (by decide)).v 55 rfl) ur
 have K3:=K2.put (k:=14) (v:=.str (lj c)) (by decide)
 refine go 7 (dH (c5 (aI (pe (y:=.str (s_ "")) rfl (aI (p8 (inj:=λi=>iT i) (l:=bc 8) (g:=λi=>.str ⟨#[ty c f i]⟩) (Ay (n:=8) rfl (by decide)) rfl λi hi=>?_) rfl) Jx) (aI rfl rfl)) (typed hc))) ?_ λs=>rfl
 ·have KI:=K2.put (k:=56) (v:=iT i) (by decide)
  have ei:=gq (F:=Fn aJ 60) (KI.v 13 rfl) (KI.v 56 rfl) (cw Jq i (iw.mp hi))
  have ec:=fN (o:=.eq) (b:=.lit (.str (s_ "u"))) ei rfl alc
  have es:=Tp (F:=Fn aJ 60) (gq (y:=.int 3) (z:=iT f) (b:=.lit (.int 3)) (KI.v 1 rfl) rfl rfl) (KI.v 56 rfl)
  unfold sz at ei
  unfold ty
  cases g:c.testBit i with
  |true=>
   rw[g]at ei ec
   exact wR (u:=.bool false) (w:=false) (alh ec) rfl rfl ei
  |false=>
   rw[g]at ei ec
   refine wR (u:=iT (bit f i)) (w:=!(bit f i==0)) (ali ec es) rfl ?_ ?_
   ·exact af not (uP (bit f i) 0)
   ·by_cases q:bit f i=0
    ·rw[q];exact ei
    ·rw[beq_false_of_ne q,ai q]
     exact pe ei rfl ald
 have K4:=K3.put (k:=15) (v:=.str (lj c)) (by decide)
 refine go 8 (dH (pe (y:=.str (s_ "")) rfl (aI (p8 (inj:=λi=>iT i) (l:=bc 8) (g:=λi=>.str ⟨#[jM (pv c i) (c.testBit i)]⟩) (Ay (n:=8) rfl (by decide)) rfl λi hi=>?_) rfl) (Jx (d:=λi=>jM (pv c i) (c.testBit i))))) ?_ λs=>rfl
 ·have KI:=K3.put (k:=57) (v:=iT i) (by decide)
  have hi:=iw.mp hi
  obtain⟨x,q1,q2⟩:=nH.mp (show((a8 .add (.str (s_ "r")) (tx c)).bind λx=>mJ false x (iT i) (iT (i+2)))=ab (.str ⟨#[fY (pv c i),fY (c.testBit i)]⟩)from cw ale i hi)
  refine wR (w:=pv c i&&!c.testBit i) (fN (o:=.eq) (Ag (aR (x:=.str (s_ "r")) rfl (KI.v 13 rfl) q1) (KI.v 57 rfl) (u:=iT (i+2)) (aR (KI.v 57 rfl) rfl rfl) q2) rfl alf) rfl rfl ?_
  have ei:=gq (F:=Fn aJ 60) (KI.v 13 rfl) (KI.v 57 rfl) (cw Jq i hi)
  unfold sz at ei
  cases g:c.testBit i<;>cases pv c i<;>rw[g]at ei<;>first|exact ei|rfl
 have s3:Fn aJ 60 3 [.lst (intsOf (bl c)),iT 1]=ab (iT c):=(show Fn aJ 60 3 [.lst (intsOf (bl c)),iT 1]=ml [.lst (intsOf (bl c)),iT 1]by kernel_rfl).trans B.s3
 have Ab:dK [.tup [.lst (intsOf (bl c)),.lst (intsOf (bl c))],.tup [iT c,iT c],.tup [.str (lj c),.str (lj c)]] 3:=.cons (Dp.eq (S7 _) rfl) (.cons (af ab (ax _)) (.one (same_str _)))
 have K5:=K4.put (k:=16) (v:=.lst [.tup [.lst (intsOf (bl c)),.lst (intsOf (bl c))],.tup [iT c,iT c],.tup [.str (lj c),.str (lj c)]]) (by decide)
 refine go 9 (Af (kZ (aI (lq (K4.v 12 rfl) (show _=ab (.lst (intsOf (bl c)))from p8 (inj:=λi=>iT i) (l:=bc 8) (g:=λi=>iT (if c.testBit i=true then 1 else 0)) (Ay (n:=8) rfl (by decide)) rfl λi hi=>?_)) (aI (lq (c5 (aI (K4.v 12 rfl) (aI rfl rfl)) s3) (K4.v 4 rfl)) (aI (lq (K4.v 14 rfl) (K4.v 15 rfl)) rfl))) (show 3<=lim by decide)) rfl) ?_ λs=>rfl
 ·have KI:=K4.put (k:=58) (v:=iT i) (by decide)
  exact(Tp (KI.v 4 rfl) (KI.v 58 rfl)).trans (af (λn=>ab (iT n)) (B.bb i (iw.mp hi)))
 exact part10 hc hz ht he hj h1 h2 ho Ab (by decide) (K5.pick [1,11,8,7,6,10,16,5,9,13,14])
end
section
variable{F:Nat->List T->Option T}{r:aE}{a b:Ex}{L:List Nat}{p q d f:Nat}
def aln{k j:Nat}{l:List T}{i e:Ex}{o:iG}{x y z:T}(hk:get r k=ab (.lst l))(hi:ev F i r=ab (iT j))(hj:j<l.length)(hx:l[j]?=ab x)(he:ev F e r=ab y)(ho:oT o x y=ab z):ex F (.oS k i o e) r=ab (.next,put r k (.lst (l.set j z))):=by
 show((get r k).bind (cH λl=>(ev F i r).bind (bp λj=>if 0<=j/\j<l.length then(l[j.toNat]?).bind λx=>(ev F e r).bind λy=>(oT o x y).bind λz=>b8 (put r k (.lst (l.set j.toNat z)))else ae)))=_
 rw[hk,hi]
 show(if(0:Int)<=(j:Int)/\(j:Int)<l.length then(l[(j:Int).toNat]?).bind λx=>(ev F e r).bind λy=>(oT o x y).bind λz=>b8 (put r k (.lst (l.set (j:Int).toNat z)))else ae)=_
 rw[ah ⟨cx j,fA.mpr hj⟩,jU,hx,he]
 exact af (·.bind λz=>b8 (put r k (.lst (l.set j z)))) ho
noncomputable def Jy:S:=.seq (.oS 1 (.bin .mod (.var 2) (.lit (.int 4))) .add (.bin .mod (.var 3) (.bin .pow (.lit (.int 10)) (.lit (.int 6))))) .skip
def mil:ev F (.bin .pow (.lit (.int 10)) (.lit (.int 6))) r=ab (.int 1000000):=by kernel_rfl
def alp{v m:Int}(h:m≠0):a8 .mod (.int v) (.int m)=ab (.int (v.fmod m)):=ah h
def alq{i:Nat}{v:Int}(hL:L.length=4)(K:Kn r [(1,.lst (intsOf L))]):∃r' L',ex F Jy (put (put r 2 (iT i)) 3 (.int v))=ab (.next,r')/\L'.length=4/\Kn r' [(1,.lst (intsOf L'))]:=by
 have K1:=(K.put (k:=2) (v:=iT i) (by decide)).put (k:=3) (v:=.int v) (by decide)
 have h4:i%4<L.length:=hL.symm▸iU i (by decide)
 obtain⟨u,hu⟩:=A0 (DU v (b:=1000000) (by decide))
 have K2:=K1.put (k:=1) (v:=.lst (intsOf (L.set (i%4) (L[i%4]+u)))) (by decide)
 refine⟨_,L.set (i%4) (L[i%4]+u),show ex F Jy (put (put r 2 (iT i)) 3 (.int v))=ab (.next,put (put (put r 2 (iT i)) 3 (.int v)) 1 (.lst (intsOf (L.set (i%4) (L[i%4]+u)))))from jf.trans ((aln (j:=i%4) (x:=iT L[i%4]) (y:=.int (v.fmod 1000000)) (z:=iT (L[i%4]+u)) (K1.g 1 rfl) (aR (K1.v 2 rfl) rfl (sj (m:=4) (by decide))) (by rw[kh];exact h4) ?_ (aR (K1.v 3 rfl) mil (alp (by decide))) (by rw[hu];rfl)).trans ?_),?_,K2.pick [1]⟩
 ·show(L.map λi=>iT i)[i%4]?=_
  rw[gL,iu h4]
  rfl
 ·show ab (Fl.next,put _ 1 (.lst ((L.map λi=>iT i).set (i%4) (iT (L[i%4]+u)))))=_
  rw[<-aoz]
  rfl
 ·rw[Ke]
  exact hL
def s1{l:List Int}(K:Kn r [(1,.lst (intsOf [77,41218,13,46])),(0,.lst (l.map .int))]):∃r' p q d f,eC 1 r=ab (.next,r')/\Kn r' [(1,.lst [iT p,iT q,iT d,iT f])]:=by
 have hm:∀x∈gA (l.map T.int) ae (ab 60),∃v,T.int v=x:=λx hx=>by
  obtain⟨v,_,e⟩:=dy.mp (aoj (show x∈(l.map T.int).take _ from hx))
  exact⟨v,e⟩
 have es:ev (Fn aJ 60) (.cY false (.var 0) .absent (.lit (.int 60))) r=ab (.lst (gA (l.map T.int) ae (ab 60))):=Ag (K.v 0 rfl) rfl rfl rfl
 generalize gA (l.map T.int) ae (ab 60)=m at*
 obtain⟨r',g,L,hL,K'⟩:=nk (body:=λy r'=>(bH (putAll r' [2,3]) y).bind (ex (Fn aJ 60) Jy)) (inj:=λp:T×Nat=>.tup [.int (p.2:Nat),p.1]) (P:=λp r=>∃L:List Nat,L.length=4/\Kn r [(1,.lst (intsOf L))]) (l:=m.zip (bc m.length)) (λp x q hp r ⟨L,hL,K⟩=>by
  obtain⟨v,e⟩:=hm x.1 (sX (a:=x.1) (b:=x.2) (hp▸mE _ bk)).1
  rw[<-e]
  obtain⟨r',L',h1,h2,h3⟩:=alq (F:=Fn aJ 60) (i:=x.2) (v:=v) hL K
  exact⟨r',h1,L',h2,h3⟩) (r:=r) ⟨_,rfl,K.pick [1]⟩
 match L,hL,K' with
 |[p,q,d,f],_,K'=>exact⟨r',p,q,d,f,SN es rfl g,K'⟩
def alr{n:Nat}(h:n<2001):((n:Int) - 1000).natAbs<=1000:=by
 show((n:Int) - (1000:Nat)).natAbs<=1000
 rcases Nat.le_total 1000 n with g|g
 ·rw[<-xW g,DW];exact apa (oJ h)
 ·rw[<-VD,ao7,<-xW g,DW];exact mA _ _
def De{k:Nat}{x:T}(K:Kn r [(1,.lst [iT p,iT q,iT d,iT f])])(h:[iT p,iT q,iT d,iT f][k]?=ab x)(hk:k<4):ev F (.idx (.var 1) (.lit (.int (k:Nat)))) r=ab x:=gq (y:=iT k) (K.v 1 rfl) rfl (by
 show(f9 (k:Int) 4).bind ([iT p,iT q,iT d,iT f][·]?)=_
 rw[show f9 (k:Int) 4=ab k from zA (P:=λk=>f9 (k:Int) 4=ab k) rfl rfl rfl rfl k hk]
 exact h)
def part2(K:Kn r [(1,.lst [iT p,iT q,iT d,iT f])]):(ex (Fn aJ 60) (gI 2) r).bind cn=ab (.bool true):=by
 have mf:∀{x m n:Nat}{a:Ex}{r:aE},0<m->m<=100000->0<n->ev (Fn aJ 60) a r=ab (iT x)->ev (Fn aJ 60) (.bin .mod (.bin .fdiv a (.lit (iT m))) (.lit (iT n))) r=ab (iT (x/m%n)):=λh1 h2 h3 h=>aR (aR h rfl (As h1 h2)) rfl (sj h3)
 have c0:∀{r:aE},Kn r [(1,.lst [iT p,iT q,iT d,iT f])]->_:=λK=>De (F:=Fn aJ 60) (k:=0) K rfl (by decide)
 have c1:∀{r:aE},Kn r [(1,.lst [iT p,iT q,iT d,iT f])]->_:=λK=>De (F:=Fn aJ 60) (k:=1) K rfl (by decide)
 have c2:∀{r:aE},Kn r [(1,.lst [iT p,iT q,iT d,iT f])]->_:=λK=>De (F:=Fn aJ 60) (k:=2) K rfl (by decide)
 have c3:∀{r:aE},Kn r [(1,.lst [iT p,iT q,iT d,iT f])]->_:=λK=>De (F:=Fn aJ 60) (k:=3) K rfl (by decide)
 have hw:ev (Fn aJ 60) (.ite (.cmp .eq (.bin .mod (.bin .fdiv (.idx (.var 1) (.lit (.int 3))) (.lit (.int 20))) (.lit (.int 16))) (.lit (.int 15))) (.lit (.int 4100)) (.lit (.int 0))) r=ab (iT (if f/20%16=15 then 4100 else 0)):=by
  refine wR (w:=f/20%16==15) (fN (o:=.eq) (mf (m:=20) (n:=16) (by decide) (by decide) (by decide) (c3 K)) rfl (af ab (uP _ 15))) rfl rfl ?_
  by_cases h:f/20%16=15
  ·rw[ah (aw.mpr h),ah h];rfl
  ·rw[ai λg=>h (aw.mp g),ai h];rfl
 have K1:=((K.put (k:=4) (v:=iT (128+p%128)) (by decide)).put (k:=5) (v:=iT (f%4)) (by decide)).put (k:=6) (v:=iT (3+f/4%5+(if f/20%16=15 then 4100 else 0))) (by decide)
 refine go 2 (nh (iP (aR (x:=iT 128) rfl (aR (c0 K) rfl (sj (m:=128) (by decide))) rfl) (iP (aR (c3 K) rfl (sj (m:=4) (by decide))) (iP (aR (aR (x:=iT 3) rfl (mf (m:=4) (n:=5) (by decide) (by decide) (by decide) (c3 K)) rfl) hw rfl) rfl))) (show 3<=lim by decide) rfl) ?_ λy=>rfl
 have K2:=(K1.put (k:=7) (v:=.int ((q%41:Nat) - 20)) (by decide)).put (k:=8) (v:=.int ((q/41%2001:Nat) - 1000)) (by decide)
 refine go 3 (nh (iP (aR (aR (c1 (K1.pick [1])) rfl (sj (m:=41) (by decide))) rfl rfl) (iP (aR (mf (m:=41) (n:=2001) (by decide) (by decide) (by decide) (c1 (K1.pick [1]))) rfl rfl) rfl)) (show 2<=lim by decide) rfl) ?_ λy=>rfl
 have K3:=((K2.put (k:=9) (v:=iT (d%4+1)) (by decide)).put (k:=10) (v:=.int (1 - (2*(d/4%2):Nat))) (by decide)).put (k:=11) (v:=.bool (d/8%2==1)) (by decide)
 have C:=c2 (K2.pick [1])
 refine go 4 (nh (iP (aR (x:=iT 1) rfl (aR C rfl (sj (m:=4) (by decide))) (af (λn=>ab (iT n)) (eE 1 (d%4)))) (iP (aR (x:=iT 1) rfl (aR (x:=iT 2) rfl (mf (m:=4) (n:=2) (by decide) (by decide) (by decide) C) (Au (by decide) (bG (iU (d/4) (show 0<2 by decide)) (by decide)))) rfl) (iP (fN (o:=.eq) (mf (m:=8) (n:=2) (by decide) (by decide) (by decide) C) rfl (af ab (uP _ 1))) rfl))) (show 3<=lim by decide) rfl) ?_ λy=>rfl
 have HU:Pm (1 - (2*(d/4%2):Nat)):=(api (d/4)).elim (λh=>.inl (by rw[h];rfl)) λh=>.inr (by rw[h];rfl)
 have h2:3+f/4%5+(if f/20%16=15 then 4100 else 0)<=4107:=by
  have a:f/4%5<5:=iU _ (by decide)
  have a:=f6 (oJ a) 3
  by_cases h:f/20%16=15
  ·rw[ah h];exact cR a 4100
  ·rw[ai h];exact aD a (by decide)
 exact part5 (c:=128+p%128) (z:=f%4) (t:=d%4) (w:=3+f/4%5+(if f/20%16=15 then 4100 else 0)) (j:=q%41) (ar ⟨bX _ _,ya (iU p (by decide)) 128⟩) (iU f (by decide)) (iU d (by decide)) HU (iU q (by decide)) (aD (bX 3 _) (bX _ _)) h2 (alr (iU (q/41) (by decide))) (K3.pick [1,4,5,6,7,8,9,10,11])
end
def law{l:List Int}:(ex (Fn aJ 60) (gI 0) (start Ad [.lst (l.map .int)])).bind cn=ab (.bool true):=by
 have K:Kn (start Ad [.lst (l.map .int)]) [(0,.lst (l.map .int))]:=⟨rfl,λj{w}h=>by
  rw[cD]at h
  cases e:j==0 with
  |false=>rw[e]at h;exact aN h
  |true=>rw[e]at h;rw[ao e];exact h⟩
 have K1:=K.put (k:=1) (v:=.lst (intsOf [77,41218,13,46])) (by decide)
 refine go 0 (Af (x:=.lst (intsOf [77,41218,13,46])) rfl rfl) ?_ λz=>rfl
 obtain⟨r',p,q,d,f,e,K2⟩:=s1 K1
 exact go 1 e (part2 K2) λz=>rfl
end Mine.Z
namespace Mine
def alu:Rh:=λl z=>Z.lb rfl Z.law
def aK:True:=trivial
namespace top
def te15177526630643400193:=aK
def te6520327441239513222:=aK
def te1516213087968936877:=aK
def te14372152842798730730:=aK
def te4571971715460732019:=aK
def te15169761463676818070:=aK
def te8443935842833279946:=aK
def te2555065506035805374:=aK
def te15362295582089109014:=aK
def te4321519831107876412:=aK
def te5766051744304087583:=aK
def te5476889619067714990:=aK
def te370947364307004932:=aK
def te12643491718579748851:=aK
def te6883741973766446791:=aK
def te352232786441526191:=aK
def te2731995056826638727:=aK
def te2462062305354472974:=aK
def te14861896470697024400:=aK
def te5225153198818245361:=aK
def te8810280945414196856:=aK
def te11858546649754279707:=aK
def te575894324575664597:=aK
def te216529984938456764:=aK
def te9759319705405543751:=aK
def te6127594578889010139:=aK
def te1149218181149386328:=aK
def te3561193834555079511:=aK
def te8363718466572441477:=aK
def te17323899518341599180:=aK
def te5244899138074338376:=aK
def te4159251561096739476:=aK
def te14987219478266130788:=aK
def te12342655685612074800:=aK
def te11279390925490393535:=aK
def te16273406610938067001:=aK
def te8735323631387419056:=aK
def te7847650389618582240:=aK
def te11430207588045935325:=aK
def te8538268897159353584:=aK
def tw4816591812421909578:=aK
def tw9437893007894698314:=aK
def tw5730960433935265750:=aK
def tw14278253952001398240:=aK
def tw7248323481534646116:=aK
def tw11012874149002130535:=aK
def tw15503665604740900718:=aK
def tw12483720753089274532:=aK
def tw9111013012932687307:=aK
def tw16577533722863086443:=aK
def tw8128397726703822571:=aK
def tw6577238642498478885:=aK
def tw8638107651377546582:=aK
def tw1306697619066116301:=aK
def tw11960245374511038805:=aK
def tw8265191368974092141:=aK
def tw9059832203979395877:=aK
def tw12318557346453588183:=aK
def tw8345894832289464959:=aK
def tw15058813355848621054:=aK
def tw5058314954733539658:=aK
def tw13345470168829271861:=aK
def tw9108098604805947806:=aK
def tw13369591340354186047:=aK
def tw2985252069258134486:=aK
def tw10448899703829047738:=aK
def tw13303987763403120937:=aK
def tw2732273902793177162:=aK
def tw2126296398998916975:=aK
def tw5118827330378232414:=aK
def tw7990429038631628895:=aK
def tw5523086135645875356:=aK
def tw3776753064480771068:=aK
def tw6187478851450931391:=aK
def tw4671429814451907529:=aK
def tw7527032243904285869:=aK
def tw5105846836358774362:=aK
def tw16204670001084760307:=aK
def tw16123964013534891561:=aK
def tw5667650583090716360:=aK
def tw14608685727046917156:=aK
def tw2218668502564051296:=aK
def tw9378254376102152143:=aK
def tw13091174067606910046:=aK
def tw4655869559712951663:=aK
def tw16420938139371093754:=aK
def tw10005945817407372193:=aK
def tw12540527436937284434:=aK
def tw15240379268576122478:=aK
def tw864819663365544661:=aK
def tw6286779285267259847:=aK
def tw9229161468869434483:=aK
def tw15646934709686841381:=aK
def tw17470836177267949868:=aK
def tw12385144161495827662:=aK
def tw4498253355057717688:=aK
def tw10936122117785486979:=aK
def tw1275901062530889299:=aK
def tw12535971307161669396:=aK
def tw2812155379371279736:=aK
def tw15878805988109762761:=aK
def tw17315540178315561739:=aK
def tw16885616592811714743:=aK
def tw15569959144833144457:=aK
def tw2924597203103170677:=aK
def tw7673058066778466091:=aK
def tw5581607755468803823:=aK
def tw8813761850579938390:=aK
def tw16058212318047004132:=aK
def tw2514443458684651071:=aK
def tw5088376156974544275:=aK
def tw7557910624720293991:=aK
def tw1139600151236580504:=aK
def tw1736530178072539846:=aK
def tw16155163154822807229:=aK
def tw14459580976405569124:=aK
def tw105208000716104510:=aK
def tw14502225709538309166:=aK
def tw1245559373397905713:=aK
def tw72247145696351765:=aK
def tw8435561252592420358:=aK
def tw1492452104121835379:=aK
def tw1047907039808853306:=aK
def tw13272337422414781067:=aK
def tw2057334267981633021:=aK
def tw8640399195822439974:=aK
def tw8689318265317240412:=aK
def tw2835187731363253809:=aK
def tw9631074621892390191:=aK
def tw956942650209027819:=aK
def tw14826035006057030972:=aK
def tw775762912060472103:=aK
def tw4213018616267185653:=aK
def tw427269002284569659:=aK
def tw16666122058527598403:=aK
def tw11133666699803404755:=aK
def tw795583310449317561:=aK
def tw8598144960395782539:=aK
def tw17886615442053742456:=aK
def tw1869187583165140508:=aK
def tw6756868429301003459:=aK
def te16840627104734473223:=aK
def tw73013627725306578:=aK
def te2464713573024523455:=aK
def tw2464713573024523455:=aK
def te15299407806266782574:=aK
def te16196420915677631385:=aK
def tw9068506458530023791:=aK
def tw16174758807025615021:=aK
def te987869383939708018:=aK
def te4166218997396506358:=aK
def te13359135706311490777:=aK
def te10567129059001840431:=aK
def tw16840627104734473223:=aK
def te705360758644809490:=aK
def tw16196420915677631385:=aK
def tw13359135706311490777:=aK
def tw6473336682457920079:=aK
def tw1531152811171023976:=aK
def tw10090393231696489298:=aK
def te10090393231696489298:=aK
def tw6411448116228961071:=aK
def tw4166218997396506358:=aK
def tw17718582698147650981:=aK
def tw13120753694373217308:=aK
def te13120753694373217308:=aK
def te3969286963782609292:=aK
def tw1284575025550258836:=aK
def tw18194552166560175392:=aK
def tw14823308797102314842:=aK
def te708234853630380328:=aK
def te14402358008270493973:=aK
def tw3195968871104189447:=aK
def te8892184565913893157:=aK
def te8507776931139520737:=aK
def te9241660120790145501:=aK
def te17741123992881248064:=aK
def tw9241660120790145501:=aK
def tw17741123992881248064:=aK
end top
end Mine
set_option Elab.async true in
set_option tactic.hygienic true in
set_option maxHeartbeats 8000000 in
theorem Mine.top:aBm.Holds:=by
 w_on;o_law;o_head (kmHook Mine.KK Mine.as0 (λP=>Mine.as0_K P) [188,110,103]);(case hw=>w_witness2)
 intro w aP aB mg mb G Y fa o pm cd doc dV kV ho hd iE hD Df hg args vals as alv alx hrd wQ BF
 clear hd iE hD
 replace Df:mg (bP "law")=ab (.ref fa):=Df
 have K:=km_in_of Y
 have ht:=km_tabs_of Y
 clear Y
 have hfa:mg (bP "law")=ab (.ref 232):=Mine.mg_of K G.T.g (Mine.Rg w.params).1
 rw[hfa]at Df;cases Df
 wrow_args alv alx hrd wQ BF
 rename_i xs _ _ _ _ _ _ _ _ _ _ _ _ w1 _ _ _ hlen _
 refine Mine.ag6 Mine.alu (by kernel_rfl) G.T K ht hg (dh.mp (lr.mp (show¬((63:Int)<xs.length)from hlen))) w1 λs' h1 h2 h3=>?_
 exact⟨.inl ⟨_,.bool true,[],rfl,λz=>rfl,.bool true,by kernel_rfl,λz=>⟨List.nodup_nil,λa ha=>by cases ha⟩⟩,h1,h2,h3⟩
theorem PySem.Challenge.cw_wy0043_01_holds : PySem.Challenge.rw_wy0043_01.Holds :=
  Mine.top
