import PyProof.Rows.All
import Wide.All
import OpenK.AllK
import Wide.FinOn
import PyProof.Commute
import KE.KLam
import Lean
import PySem.Challenge.RW_wy0043_01
open Array renaming getElem?_eq_getElem->oF,length_toList->vg,getElem?_toList->xF,toList_append->Ts,ext'->Tt,toList->TV,toList_inj->TX,size_reverse->Uq,getElem?_eq_none->Uw,getElem?_eq_some_iff->Vj,toArray_toList->amT,toList_reverse->anD,size_map->anF,any_toList->aor,forIn_toList->apc
open Bool renaming false_ne_true->bT,and_eq_true_iff->ik,false_eq_true->pq,eq_false_iff->qA,or_eq_false_iff->sR,eq_iff_iff->xD,and_eq_true->DF,not_eq_true'->DN,or_eq_true_iff->Jz,or_eq_true->JQ,not_eq_true->JV,false_and->JY,and_false->UI,true_and->am6,false_or->an5,and_eq_false_iff->aoW
open Classical renaming byContradiction->apS
open Eq renaming trans->DP
open ForInStep renaming yield->anh
open Iff renaming trans->Vp
open Int renaming natCast_nonneg->cy,ofNat_le->dh,le_trans->dn,ofNat_lt->fu,toNat_natCast->jT,not_lt->lA,one_mul->nF,ne_of_gt->px,add_sub_cancel->qN,natCast_add->tJ,add_comm->vB,ofNat_sub->yf,toNat_of_nonneg->AP,lt_of_lt_of_le->AQ,le_of_lt->AR,eq_ofNat_of_zero_le->Ba,negSucc->Bm,neg_mul->Bo,natCast_mul->Dt,fmod_nonneg_of_pos->D0,natAbs_natCast->D4,not_le->Jy,le_sub_one_of_lt->JB,mul_one->JS,sub_zero->JT,sub_eq_add_neg->KN,lt_of_le_of_lt->Tp,lt_irrefl->Tu,le_antisymm->TS,le_refl->TY,toNat_le->T8,natCast_pos->UP,fmod_lt_of_pos->UQ,fdiv->UT,natCast_pow->UU,mul_comm->UW,natCast_one->Vl,sub_sub->Vm,neg_add->Vv,natAbs_neg->Vw,zero_add->Vy,lt_trans->ame,min_le_right->amA,add_zero->am7,toNat_lt->aoF,le_toNat->aoI,fdiv_eq_ediv_of_nonneg->aoQ,add_mul->apw,neg_sub->apx,sub_mul->apB,fmod_eq_emod_of_nonneg->apF,natAbs_pos->apM,neg_fdiv_neg->apN,neg_fmod_neg->apO,mul_assoc->apU,add_assoc->ap6
open List renaming range->bf,mem_cons_self->bk,mem_cons->br,all_eq_true->bA,length_map->bK,length_append->bQ,mem_cons_of_mem->bS,size_toArray->bU,replicate->bZ,mem_singleton->b4,lookup_cons->cE,mem_map->dy,mem_of_getElem?->dZ,append_assoc->fk,map_map->fO,getElem?_map->gL,not_mem_nil->gM,nodup_cons->g9,getElem?_eq_getElem->iq,mem_range->iu,getElem?_eq_some_iff->iR,contains_iff_mem->jo,map_inj_left->jV,append_nil->kq,length_range->kr,map_append->mE,mem_append_right->mF,toArray->oD,length_reverse->pn,map_cons->qB,map_reverse->qH,getElem?_zip_eq_some->qI,length_replicate->qO,map_congr_left->tm,of_mem_zip->tw,mem_iff_getElem?->tA,foldl_append->tL,getElem?_toArray->vf,pairwise_cons->vj,mem_append->vk,getElem?_eq_none->vy,any_eq_true->xw,forIn_nil->xN,forIn_cons->xO,mem_append_left->A4,mem_reverse->A5,isEmpty_iff->Bf,length->Bk,all_cons->Bl,length_drop->Dz,any_cons->DC,map_id->DJ,mem_filter->DL,zip_cons_cons->DR,getElem?_append_right->DT,getElem?_range->DU,ext_getElem?->DV,map_nil->D1,append_toArray->JA,toList_toArray->JE,length_take->JM,filterMap_cons->JW,drop_length->J1,length_set->J8,isEmpty_nil->Km,filter_cons->KJ,reverse_cons->Ti,replicate_succ->Tr,find?_cons->TJ,pairwise_singleton->TR,getElem_range->T9,getD_eq_getElem?_getD->Uj,push_toArray->Um,pairwise_reverse->Us,filter_eq_self->Uu,mem_of_find?_eq_some->UE,find?_some->UG,take_append_drop->UY,length_filter_le->Vi,foldl_cons->al6,flatten_cons->al7,length_flatten->al9,map_replicate->ama,sum_replicate_nat->amb,cons_append->anb,getElem?_set_ne->anl,findIdx?_eq_none_iff->anp,map_fst_zip->anq,map_snd_zip->anr,getElem?_eq_none_iff->anu,reverse_perm->anE,getElem_mem->anM,length_filterMap_le->anN,reverse->anQ,setIfInBounds_toArray->an3,length_zip->aoe,drop_zero->aof,getElem?_append_left->aoi,isEmpty_cons->aoo,mem_of_mem_take->aoH,length_eq_one_iff->aoV,map_set->aoY,drop_drop->apk,length_nil->apL,filter_cons_of_pos->apQ,filter_cons_of_neg->apR,lookup->apV,getLast?_eq_none_iff->apW,length_singleton->ap5
open List.Pairwise renaming nil->ane
open List.Perm renaming of_eq->amO
open Nat renaming le_trans->aD,le_refl->bj,lt_of_lt_of_le->bG,lt_of_le_of_lt->bI,le_of_eq->bO,le_add_right->bX,add_le_add_right->cR,le_of_lt->cT,ne_of_lt->cW,succ_le_succ->cX,zero_le->dP,add_le_add->eA,add_comm->eK,succ_pos->eP,two_pow_pos->fy,not_lt->fL,lt_irrefl->fN,add_le_add_left->f6,le_succ->gy,add_assoc->gZ,mul_comm->g6,lt_succ_self->il,mod_lt->iw,ne_of_gt->iS,le_add_left->jP,zero_add->jU,mul_le_mul_left->ko,le_of_lt_succ->ku,add_right_comm->ky,sub_le->mC,succ_mul->nB,mul_le_mul_right->nG,le_of_succ_le->oE,pow_add->oJ,sub_add_cancel->pz,div_lt_iff_lt_mul->pA,lt_trans->qt,sub_lt->qD,add_sub_cancel'->tI,div_add_mod->tK,le_succ_of_le->vn,lt_succ_of_lt->vp,lt_add_of_pos_right->vx,mul_succ->vA,pow_le_pow_right->vC,not_le->xC,one_pos->xJ,succ_ne_self->xR,div_le_self->yc,add_lt_add_right->yd,mul_assoc->yg,add_lt_add_left->yk,mul_le_mul->yl,le_of_ble_eq_true->ym,lt_or_eq_of_le->A6,lt_succ_of_le->A7,mul_one->Bg,le_mul_of_pos_right->Bh,one_mul->Bi,min_eq_left->DA,two_mul->D5,sub_self->D6,add_mul->Ea,ble->Eb,sub_le_sub_right->JN,lt_of_succ_le->JX,le_antisymm->J0,not_lt_zero->Ku,mul_add->Kv,log2_lt->Ky,div_eq_of_lt->Kz,mul_zero->KA,pow_zero->KC,max_le->KO,succ_add->Ux,le_div_iff_mul_le->UD,le_sub_of_add_le->UX,div_le_div_right->U0,add_sub_assoc->U1,add_pos_left->U3,add_zero->U5,le_mul_of_pos_left->U6,lt_add_right->Vd,mul_pos->Vn,pow_succ->Vq,mul_two->Vr,mul_lt_mul_of_pos_right->Vs,mod_eq_of_lt->Vu,add_sub_cancel->Vz,add_lt_add_of_lt_of_le->al2,min_le_right->amh,le_sub_one_of_lt->amP,min_le_left->anG,lt_one_iff->anI,succ_lt_succ->aog,lt_of_succ_lt_succ->aoJ,div_div_eq_div_mul->aoK,eq_of_testBit_eq->aoL,testBit_and->aoM,testBit_shiftLeft->aoN,shiftLeft_eq->aoP,mul_add_div->aoR,lt_of_le_of_ne->aoS,div_lt_self->aoT,strongRecOn->aoU,div_pos->aoX,lt_of_add_lt_add_right->apy,succ_eq_add_one->apz,sub_le_of_le_add->apA,lt_of_add_lt_add_left->apC,sub_mul->apD,add_lt_add->apE,sub_add_comm->apG,mod_two_eq_zero_or_one->apH,le_of_not_lt->apI,add_mul_div_left->apJ,add_mul_mod_self_left->apK,sub_lt_left_of_lt_add->apP,not_succ_le_zero->apT,succ_ne_zero->apX,max_eq_right->apZ,not_le_of_lt->ap4
open Option renaming isSome_iff_exists->mD,bind_eq_some_iff->nH,map_some->AW,map->amf,getD_some->amF,some->ab,none->ae
open Option.some renaming injEq->au1
open PyProof.Rows renaming seqObj->nE,pairsOf->xS,arrOf->xT,StrsAre->DI,pairsOf_size->J3,listUpdate_at->Uo,seqEpoch_at->Up,len_list->amU,bitOr_and->aoO,add_int->aq4,add_str->aq5,mul_int->ars,sub_int->art,floordiv_int->aru,mod_int->arv,pow_int->arw,lshift_int->arx,rshift_int->ary,and_int->arz,or_int->arA,xor_int->arB,eq_str->arG,getItem_tuple->ar2,invert_int->asq,not_of->ass,sorted_ints->atN,len_tuple->atO,len_str->atP,divmod_int->atQ,ilshift_int->awg,irshift_int->awh,split_le->aAX,part_short->aAY,len_capitalize->aA3
open PyProof.Rows.F renaming plain_set_update_loop->Ve,entry_set_update_loop->apl
open PyProof.Rows.SortSt renaming mk'->anH
open PyProof.Rows.StrsAre renaming length->anL
open PySem renaming Value->ay,Shared->az,wpAny->aA,wpAny_bind->aG,Around->aM,wpAny_pure->aQ,Expr->aW,execs->bL,wpAny_holding->dN,Params->dY,Scope->d9,wpAny_mono->eE,Builtin->eN,cellsFrom->fm,seqIndex?->f9,mainGlobals->gJ,Program->gK,codeAny->gN,FuncData->gX,World->gY,pyNext->iQ,DictEntry->jh,builtinsNs->jj,NameKind->jm,typeLookup_type->jq,builtinLookup_eq_fast->jr,Paired->jO,pyIter->jQ,rawInt->jR,starEach->jS,letOwnedTupleGo->lB,wpAny_standAt->lL,wpAny_field->lP,GenState->my,Model->mz,backTo->mA,isSubtype_type->mG,argsOk->mH,JoinOk->nA,strValues->nC,closureFor->oG,Result->oH,field->oI,sizeLine->ph,spliced->pj,wpAny_call->pw,sysModules->qq,compareOp->qu,numAt->qC,callWith_type->qE,codeAny_mono->qF,wpAny_Return_some->qJ,Builtin->qL,Moved->qP,cStatics->sO,call_meets->sS,getAttr->sU,typeLookup->sW,typeIs_str->sX,wpAny_newObj_type->sY,pushCells->tj,wpAny_assign_Name->tu,wpAny_callSpecial?_slot->tC,wpAny_call_entry->tD,entryFor->tF,table->tG,strKind_is->vh,WalksS->vD,Arguments->xt,clipAt->xA,binaryOp->xB,getItem->xE,isTrue->xG,standAt->xH,storeName->xM,relabel->xP,unpackItems->xQ,wpAny_Assign_Name->xU,wpAny_seqItems->xV,callEnvC->xX,wpAny_loadPart->xZ,codeAny_call_builtin->ya,specialOf->yb,codeAny_builtin->yh,Spec->AK,codeAmong->AM,wpAny_pyIter_list->AS,compPost->AU,wpAny_loadPart'->AY,wants->AZ,wpAny_of_eq->A0,swappedStores->A9,instanceDict->Bd,entryFor_of_tree->Be,TriplesOk->Dl,cLine->Dm,CmpOp->Du,valueAt->Dv,callWith->Dx,wpAny_UnaryOp->Dy,Meets->DB,getMethod_builtin->DE,compTurn->DG,wpAny_rule->DH,constantsAlone->DO,bindName->DQ,wpAny_Expr_any->DS,setAttr->DW,wpAny_attempt->DZ,plainId_quiet->D7,scanBound->D8,passing->D9,PyData->Jv,typeIs_int->JC,getMethod->JG,holding->JH,wpAny_Constant_int->JI,wpAny_BinOp->JJ,wpAny_List->JK,wpAny_specialOf->JL,callType_new->JO,cellOf->JU,noteFrame->JZ,Comprehension->J2,wpAny_If->J4,swapsWith->J5,setItem->J6,wpAny_For->J9,IsEnum->Kb,seqItems?->Kf,wpAny_setField->Kg,newExc->Kj,firstArgMember->Kk,bindArgs->Kl,isSubtype->Ks,isInstance->Kt,ItemsOf->KD,wpAny_isInstance->KG,slot_listiter_next->KH,FuncBody->Th,Operator->Tq,wpAny_load->Tx,wpAny_loadName_local->TB,wpAny_Constant_none->TC,wpAny_Tuple->TH,wpAny_letTemporaryGo->TK,sliceBounds->TL,Ctx->TM,unsupported->TN,wpAny_typeOf->TO,intItems->TU,strKind->T3,newFunctionEnv->Ua,codeAny_loop->Uc,theTreesLotGoes->Ud,wpAny_noted->Ue,foldedSetIterable->Uh,codeAny_of_tree->Ui,wpAny_list_append_plain->Uk,sizeLine_eq->Ur,wpAny_Assign_Subscript->Ut,wpAny_mkText->UH,dictMade->UL,plainObj_wpAny_Assign_Attribute->UM,qualnameIn->UZ,wpAny_updateSeq->U8,entryFor_alias->Vb,wpAny_loadName_cell->amj,wpAny_loadName_free->amk,wpAny_Constant_bool->amo,wpAny_Constant_str->amq,wpAny_isTrue_BoolOp->ams,wpAny_allTrue_And_cons->amt,wpAny_allTrue_Or_cons->amu,sliceBounds_plain->amy,wpAny_getItem_list_slice->amB,wpAny_getItem_str_slice->amC,arm_eval_Attribute->am4,wpAny_pyIter_revIter->ana,pushCells_keeps->anf,wpAny_askSetting->anj,wpAny_tests_nil->ank,codeAny_compStart_list->anw,slot_list_setitem->anS,wpAny_pyIter_tuple->an6,wpAny_builtinsFor->aon,wpAny_newTextTuple->aop,getAttrByItsOwn->aoA,callGetattribute->aoB,checkBuiltinCall->apb,wpAny_pyIter_slot->ape,entry_listiter_next->api,args_listiter_next->apj
open PySem.Around renaming under_plainId->Bj
open PySem.AutoIntOps renaming imul_0->awf
open PySem.AutoSeq1 renaming list_extend_list_list_0->an1,wpAny_loadPart'->apg
open PySem.Builtin renaming divisionGoesByPylong->xy,bitAnd->Dn,bitNot->Ds,bitXor->Tn
open PySem.Builtin.Frozenset renaming updateFrom->ay6,oneOther->azg,addrOf->azh,withSetAsKey->azi
open PySem.Builtin.Int renaming intBits->bc
open PySem.Builtin.List renaming listTooLong->Tv,listExtendWith->U7,listSameRef->aoZ,listFitsIndex->arp,listSubscript?->av5,listLengthHint->ayc,listTouch->ayd,listItems->ayn
open PySem.Builtin.Range renaming rangeFitsLong->T6,rangeSize->T7
open PySem.Builtin.SmallTypes renaming nextOf->Kc
open PySem.Builtin.Str renaming strSliceIndices->AV,occurrences->Jx,partsBetween->To,tooLong->amW,strKind->amX
open PySem.Builtin.Tuple renaming tupleExact->amN
open PySem.Calls renaming spliced_cons->eX,spliced_nil->gb,callWith_builtin->xK,evalArgs_plain->AX,callWith_function->Bb,Name_function_global->aml,loadGlobal_global->amm,loadGlobal_builtin->amn
open PySem.Challenge renaming pw_wy0043_01->aqR,rw_wy0043_01->aBA
open PySem.Env renaming kindOf->qw
open PySem.Expr renaming Name->qG
open PySem.F renaming called_set->vE,slot_str_join->DD,slot_str_split->JP,slot_list_extend->J7,slot_tuple_iterator_next->Ke,type_set_contains->KL,entry_str_split->TZ,args_str_split_2->T1,plainAttrs_str->T2,plainAttrs_list->T4,type_str_join->T5,slot_set_contains->Vg,slot_set_getattribute->Vh,slot_int_rmul->amc,slot_dict_get->amY,slot_int_bit_length->amZ,slot_list_append->anV,type_list_append->anW,type_list_extend->anY,entry_list_extend->anZ,args_list_extend_2->an0,slot_list_reverse->an2,entry_tuple_iterator_next->an7,args_tuple_iterator_next_1->an8,store_object->aos,plain_list_iadd->ao3
open PySem.Heap renaming get?_push_size->cD,get?_push_of_some->cS,size_push->fh,dictOf_iff->sT,SameBut->tB,lt_size->xx,size_update->xI,get?_update_self->xW,ExtBut->Ki,get?_update_other->U9,PlainList->al1,get?_push_ne->anB,get?_update_ne->aou,IsList->apf
open PySem.Heap.SameBut renaming update->qK
open PySem.Moved renaming trans->Va,refl->ao0
open PySem.NameKind renaming free->g8,cell->sZ
open PySem.Obj renaming mapSeq->lO,data_mapFields->Kh,isFreed_of_fields->an9,cls_mapFields->aoa
open PySem.P renaming neg_int->TF
open PySem.PyData renaming keyHash->qp,eqv->Jw,list->al3,shown->al4
open PySem.SeqAt renaming shaped->sP,canLay_of_shaped->amg,eqv_refl->aBc
open PySem.Shared renaming heap->Ka,TypeIs->amM
open PySem.Str renaming ofString->bP,length_append->sQ,mk->AO,join->Bn
open PySem.StrLaws renaming join_split->ap2,split_free->aAZ,glued_eq_join->aA0
open PySem.Txt renaming join->fi,lower->pg,capitalize->yj,contains->AN,rfind->Dq,capitalized->Vc
open PySem.Unicode renaming lowerAt->KP,titleOf->Vx,lowerOf->ap0
open PySem.Value renaming int->sN,bool->Tf,isStr->UA,builtin->al0
open PySem.W renaming findIn->dQ,dictOf->lQ,instObj->ny,tabObj->oC,Looks->qM,emptyDict->tH,looks_findIn->vz,hasDictIn->xY,CodeHd->AL,typeIn->Bc,plainOver->Ko,takerIn->Kq,makesIn->Kw,handedIn->UC,instObj->aoj,get_value->aok
open PySem.W.Frag renaming In->DX
open PySem.W.Looks renaming here->tE,of_pure->DY,ld->UJ,now->UK
open PySem.W.WData renaming int->Vk
open PySem.Walks renaming list->Dw
open String renaming splitOn->ao5,splitOnAux->ao6
namespace Mine
def af:=@congrArg
def ah:=@if_pos
def ai:=@if_neg
def aj:=@absurd
def ao:=@eq_of_beq
def aq:=@of_decide_eq_true
def ar:=@decide_eq_true
def av:=@decide_eq_false
def aw:=@beq_self_eq_true
def ax:=@beq_iff_eq
end Mine
set_option Elab.async false
set_option tactic.hygienic false
set_option linter.unusedVariables false
set_option linter.unusedSectionVars false
set_option maxRecDepth 100000
set_option genInjectivity false
set_option genSizeOf false
open PySem PySem.Spec PySem.W PyProof.Rows
set_option linter.defProp false
namespace Mine
noncomputable def iy(i:Nat):Stmt:=aqR.main.body.getD i default
noncomputable def VA(s:Stmt):List Stmt:=if h:s.ctorIdx=2 then Stmt.ClassDef.elim s h λz z z b z z z z z z z=>b else[]
noncomputable def oK(c i:Nat):Stmt:=(VA (iy c)).getD i default
noncomputable def sV(x:String)(n:Nat):ay:=.str (bP x) n
noncomputable def eF(st:Stmt)(f t u:Nat)(q:Str)(m:ay)(d:ay):List (Addr×Obj):=if h:st.ctorIdx=0 then Stmt.FunctionDef.elim st h λnm as bd z z z sc z z p=>
  let x:ay:=sV "/claim/cut.py" (t+2)
  [(f - 1,{cls:=.type "code",data:=.fields (([ay.str nm t,ay.str q (t+1),x,sN p.line 0,sN as.args.length 0,sN 0 0,sN 0 0,sN 3 0]++
    (if sc.more.isEmpty then[ay.ref (f - 6),Tf true,sN 181 0,ay.ref (f - 5),.none,.ref (f - 4),.ref (f - 3)]else[ay.ref (f - 4),Tf true,sN 181 0,.ref (f - 3),.none,.none,.none])++
    [ay.ref (f - 2),sN u 0,sN p.line 0,sV "/claim/cut.py" (u+1)]).toArray)}),
   (f,{cls:=.type "function",data:=.func {name:=nm,qualname:=q,params:=as,body:=.stmts bd,scope:=sc,globals:=gJ,closure:=[],defaults:=d,kwdefaults:=.none,pyModule:=m,code:=.ref (f - 1)}})]
 else[]
noncomputable def dE(P:dY)(x:String)(n:Nat)(v:ay):jh:={hash:=qp P (bP x),key:=sV x n,val:=v}
noncomputable def dO(P:dY)(n:Nat)(l:List (String×Nat×ay)):Obj:={cls:=.type "dict",data:=.dict (l.map λx=>dE P x.1 x.2.1 x.2.2).toArray n}
noncomputable def cO(a:Addr)(x:String)(t u:Nat):Obj:={cls:=.type "type",data:=.cls {name:=bP x,bases:=[.type "object"],mro:=[.ref a,.type "object"],ns:=a - 1,qualname:=bP x},slots:= #[ae,ae,ab (sV x t),ab (sV x u),ab (.builtin "object.__new__"),ab (.bool true)]}
@[irreducible] noncomputable def KK (P:dY):Frag:=
 let m1:=sV "cpy313.tabnanny" 187
 let m2:=sV "cpy313._pylong" 304
 let m3:=sV "cpy313.urllib.robotparser" 396
 let m4:=sV "law_wy0043_01" 469
 [(2,{cls:=.none,data:=.dict #[]}),
  (3,dO P 29 [("__name__",165,m4),("__doc__",166,.none),("__package__",167,.none),("__loader__",168,.builtin "__main__.__loader__#opaque"),("__spec__",169,.none),("__annotations__",170,.ref 6),("__builtins__",171,.ref 4),("__file__",173,sV "/claim/cut.py" 172),("__cached__",174,.none),("Whitespace",294,.ref 76),("format_witnesses",303,.ref 87),("_DIV_LIMIT",307,.int 4000 306),("_div2n1n",324,.ref 94),("_div3n2n",338,.ref 101),("_int2digits",349,.ref 108),("_digits2int",360,.ref 115),("_divmod_pos",375,.ref 122),("int_divmod",385,.ref 129),("capwords",395,.ref 137),("Entry",459,.ref 175),("merge_entries",468,.ref 186),("_law_rule",480,.ref 193),("_law_record",486,.ref 198),("_law_places",492,.ref 203),("_law_taken",501,.ref 210),("_law_picked",507,.ref 215),("_law_ways",513,.ref 220),("_law_run",527,.ref 227),("law",533,.ref 232)]),
  (75,dO P 4 [("__module__",196,m1),("__firstlineno__",200,.int 2 199),("S",204,sV " " 202),("T",205,sV "\t" 203),("__init__",220,.ref 31),("longest_run_of_spaces",229,.ref 38),("indent_level",241,.ref 45),("equal",249,.ref 52),("not_equal_witness",260,.ref 59),("less",270,.ref 66),("not_less_witness",281,.ref 73),("__static_attributes__",287,.ref 74),("__dict__",289,.ref 77),("__weakref__",291,.ref 78),("__doc__",292,.none)]),
  (76,cO 76 "Whitespace" 189 197),
  (130,{cls:=.type "tuple",data:=.seq #[.none]}),
  (174,dO P 4 [("__module__",405,m3),("__firstlineno__",409,.int 153 408),("__init__",416,.ref 151),("__str__",426,.ref 158),("applies_to",435,.ref 165),("allowance",447,.ref 172),("__static_attributes__",452,.ref 173),("__dict__",454,.ref 176),("__weakref__",456,.ref 177),("__doc__",457,.none)]),
  (175,cO 175 "Entry" 398 406)]++
 eF (oK 1 1) 31 206 218 "Whitespace.__init__" m1 .none++eF (oK 1 2) 38 221 227 "Whitespace.longest_run_of_spaces" m1 .none++
 eF (oK 1 3) 45 230 239 "Whitespace.indent_level" m1 .none++eF (oK 1 4) 52 242 247 "Whitespace.equal" m1 .none++
 eF (oK 1 5) 59 250 258 "Whitespace.not_equal_witness" m1 .none++eF (oK 1 6) 66 261 268 "Whitespace.less" m1 .none++
 eF (oK 1 7) 73 271 279 "Whitespace.not_less_witness" m1 .none++eF (iy 2) 87 295 301 "format_witnesses" m1 .none++
 eF (iy 5) 94 308 322 "_div2n1n" m2 .none++eF (iy 6) 101 325 336 "_div3n2n" m2 .none++
 eF (iy 7) 108 339 347 "_int2digits" m2 .none++eF (iy 8) 115 350 358 "_digits2int" m2 .none++
 eF (iy 9) 122 361 373 "_divmod_pos" m2 .none++eF (iy 10) 129 376 383 "int_divmod" m2 .none++
 eF (iy 12) 137 388 393 "capwords" (sV "cpy313.string" 386) (.ref 130)++eF (oK 14 0) 151 410 414 "Entry.__init__" m3 .none++
 eF (oK 14 2) 165 427 433 "Entry.applies_to" m3 .none++eF (oK 14 3) 172 436 445 "Entry.allowance" m3 .none++
 eF (iy 15) 186 460 466 "merge_entries" m3 .none++eF (iy 17) 193 471 478 "_law_rule" m4 .none++
 eF (iy 18) 198 481 484 "_law_record" m4 .none++eF (iy 19) 203 487 490 "_law_places" m4 .none++
 eF (iy 20) 210 493 499 "_law_taken" m4 .none++eF (iy 21) 215 502 505 "_law_picked" m4 .none++
 eF (iy 22) 220 508 511 "_law_ways" m4 .none++eF (iy 23) 227 514 525 "_law_run" m4 .none++eF (iy 24) 232 528 531 "law" m4 .none
noncomputable def as0:List Addr:=[2,3,75,76,130,174,175,30,31,37,38,44,45,51,52,58,59,65,66,72,73,86,87,93,94,100,101,107,108,114,115,121,122,128,129,136,137,150,151,164,165,171,172,185,186,192,193,197,198,202,203,209,210,214,215,219,220,226,227,231,232]
def as0_K(P:dY):as0=(KK P).map (·.1):=by kernel_rfl
noncomputable section
noncomputable def P0:dY:={strHash:=λz=>0,shareClass:=λz=>0,mergeTok:=id,idOf:=λz=>0,idOfShared:=λz z=>0,followText:=λz=>true,idOfImm:=λz=>0}
noncomputable def ob(P:dY)(a:Addr):Obj:=((KK P).lookup a).getD {cls:=.none,data:=.plain}
noncomputable def bC(a:Addr):gX:=match(ob P0 a).data with
 |.func fd=>fd
 |_=>default
noncomputable def body(a:Addr):List Stmt:=match(bC a).body with
 |.stmts l=>l
 |_=>[]
noncomputable def s_(x:String):Str:=bP x
noncomputable def globT:List (Str×ay):=[("_div2n1n",94),("_div3n2n",101),("_int2digits",108),("_digits2int",115),("_divmod_pos",122),("int_divmod",129),("capwords",137),("merge_entries",186),("_law_record",198),("_law_places",203),("_law_taken",210),("_law_picked",215),("_law_ways",220),("_law_run",227),("format_witnesses",87),("Whitespace",76),("Entry",175),("_law_rule",193)].map (λp:String×Nat=>(s_ p.1,ay.ref p.2))++[(s_ "_DIV_LIMIT",.int 4000 306)]
noncomputable def Bp:List (Str×ay):=["len","max","min","sorted","divmod","repr"].map (λx=>(s_ x,al0 x))++["str","tuple","list","range","reversed","enumerate","map","filter","set"].map λx=>(s_ x,ay.type x)
noncomputable def d4(x:Str):Option ay:=(globT++Bp).lookup x
noncomputable def nI(f:Nat):Option Str:=(["_div2n1n","_div3n2n","_int2digits","_digits2int","_divmod_pos","int_divmod","capwords","merge_entries","_law_record","_law_places","_law_taken","_law_picked","_law_ways","_law_run","format_witnesses","Whitespace","Entry","_law_rule"][f]?).map s_
noncomputable def tM(f:Nat):Option Str:=if f<20 then ae else(["longest_run_of_spaces","indent_level","equal","not_equal_witness","less","not_less_witness","applies_to","allowance","applies_to"][f - 20]?).map s_
noncomputable def Bq(x:Str):Option Int:=if x==s_ "_DIV_LIMIT"then ab 4000 else ae
noncomputable def Ec(x n:Str):Option Str:=if x==s_ "Whitespace"then(if n==s_ "S"then ab (s_ " ")else if n==s_ "T"then ab (s_ "\t")else ae)else ae
structure VC where
 at_:Addr
 names:List Str
noncomputable def dR(c:Nat):VC:=if c=1 then⟨175,["useragents","rulelines","delay","req_rate"].map s_⟩else if c=0 then⟨76,["raw","n","nt","norm","is_simple"].map s_⟩else if c=5 then⟨76,[s_ "raw"]⟩else⟨76,[]⟩
noncomputable def oL(i:Nat):Str:=if i=100 then s_ "allowance"else((dR (i/10)).names[i%10]?).getD (s_ "?")
def iA(o:Obj):Prop:=o.cls=.type "code"/\∃vs,o.data=.fields vs
def iB(o:Obj):Prop:=((∃vs,o.data=.fields vs)/\(o.cls=.none∨o.cls=.type "code"))∨(o.cls=.type "module"/\o.data=.plain)
def kz(h:Heap)(cv:ay)(q:Str):Prop:=∃c' oc vs t,cv=.ref c'/\h.get? c'=ab oc/\oc.cls=.type "code"/\oc.data=.fields vs/\vs[1]?=ab (.str q t)
def VD(h:Heap)(c P:Addr)(q:Str):Prop:=AL h c P/\∃ps,h.get? P=ab (oC ps)/\Dl ps.toList/\∀pos cv,AM pos ps.toList=ab cv->kz h cv q
def KQ(mg:Str->Option ay)(h:Heap):Prop:=∃bm ob,mg "__builtins__"=ab (.ref bm)/\bm≠jj/\bm≠gJ/\h.get? bm=ab ob/\ob.cls=.type "module"/\ob.dict=ab jj/\ob.data=.plain
noncomputable def Br:Str:=s_ "_int2digits.<locals>.inner"
noncomputable def Bs:Str:=s_ "_digits2int.<locals>.inner"
noncomputable def oM:Str:=s_ "_law_rule.<locals>.<lambda>"
noncomputable def vF:Str:=s_ "format_witnesses.<locals>.<genexpr>"
noncomputable def iD:List (Addr×Addr×Str):=[(107,103,Br),(114,110,Bs),(192,188,oM),(86,82,vF)]
noncomputable def aV:List Addr:=[188,110,103,82]
def kA(mg:Str->Option ay)(h:Heap):Prop:=KQ mg h/\∀e∈iD,VD h e.1 e.2.1 e.2.2
noncomputable def qQ(mg:Str->Option ay)(name q:Str)(p:xt)(body:Th)(sc:d9)(kB:List (Str×Addr))(cv ct:ay):gX:=
 {name:=name,qualname:=q,params:=p,body:=body,scope:=sc,globals:=gJ,closure:=kB,defaults:=.none,kwdefaults:=.none,doc:=.none,pyModule:=(mg "__name__").getD .none,annotations:=ae,code:=cv,closureTuple:=ct,builtins:=jj}
noncomputable def jW(x:Expr):xt×Expr×d9:=if h:x.ctorIdx=4 then Expr.Lambda.elim x h λa b s z=>(a,b,s)else default
noncomputable def aT(s:Stmt):Expr:=if h:s.ctorIdx=5 then Stmt.Assign.elim s h λz v z=>v else default
noncomputable def Ed(l:List Stmt):xt×Expr×d9:=jW (aT (l.getD 1 default))
def KR(mg:Str->Option ay)(gd:gX):Prop:=∃kB cv ct,gd=qQ mg (s_ "<lambda>") oM (Ed (body 193)).1 (.expr (Ed (body 193)).2.1) (Ed (body 193)).2.2 kB cv ct
end
def VE(P:dY):aV.all (λa=>((KK P).lookup a).isNone)=true:=by kernel_rfl
def KS:aV.all (λa=>iD.any λe=>e.2.1==a)=true:=by kernel_rfl
def KU:iD.all (λe=>aV.contains e.2.1)=true:=by kernel_rfl
def kz.keep{h h':Heap}{cv:ay}{q:Str}(x:kz h cv q)(k:∀b o,iA o->h.get? b=ab o->h'.get? b=ab o):kz h' cv q:=by
 obtain⟨c',oc,vs,t,e,e1,e2,e3,e4⟩:=x
 exact⟨c',oc,vs,t,e,k _ _ ⟨e2,vs,e3⟩ e1,e2,e3,e4⟩
def AL.Bt{h h':Heap}{c P:Addr}(x:AL h c P)(k:∀b o,iA o->h.get? b=ab o->h'.get? b=ab o):AL h' c P:=by
 have q:h'.get? c=h.get? c:=by
  obtain⟨o,vs,_,_,_,_,_,_,_,e,e1,e2,_⟩:=x
  exact(k _ _ ⟨e1,vs,e2⟩ e).trans e.symm
 unfold AL
 rw[q];exact x
def Ee{o:Obj}(h:iA o):iB o:=.inl ⟨h.2,.inr h.1⟩
def yn{mg:Str->Option ay}{h h':Heap}(k:∀b o,iB o->h.get? b=ab o->h'.get? b=ab o)(x:kA mg h):kA mg h':=by
 have kc:∀b o,iA o->h.get? b=ab o->h'.get? b=ab o:=λb o c=>k b o (Ee c)
 refine⟨?_,λe he=>?_⟩
 ·obtain⟨bm,ob,e1,e2,e3,e4,e5,e6,e7⟩:=x.1
  exact⟨bm,ob,e1,e2,e3,k _ _ (.inr ⟨e5,e7⟩) e4,e5,e6,e7⟩
 ·obtain⟨a,ps,e,ht,r⟩:=x.2 e he
  exact⟨AL.Bt a kc,ps,k _ _ (.inl ⟨⟨ps,rfl⟩,.inl rfl⟩) e,ht,λpos cv q=>(r pos cv q).keep kc⟩
def VF{mg:Str->Option ay}{h:Heap}(x:kA mg h)(a:Addr)(ha:a∈aV)(o:Obj)(e:h.get? a=ab o):o.cls=.none:=by
 obtain⟨t,ht,q⟩:=xw.mp (bA.mp KS a ha)
 obtain⟨_,ps,e1,_⟩:=x.2 t ht
 rw[ao q,e]at e1;cases e1;rfl
def nJ{o:Obj}{T:String}(e:o.cls=.type T)(h:T≠"code"/\T≠"module"):¬iB o:=λq=>
 q.elim (λq=>q.2.elim (λq=>ay.noConfusion (e.symm.trans q)) λq=>h.1 (ay.type.inj (e.symm.trans q))) λq=>h.2 (ay.type.inj (e.symm.trans q.1))
noncomputable def Ef:Data->Bool
 |.dict ..|.cell ..|.seq ..|.func ..=>true
 |_=>false
def oN{o:Obj}{d:Data}(e:o.data=d)(h:Ef d=true):¬iB o:=λq=>
 q.elim (λq=>q.1.elim λvs q=>bT ((af Ef (e.symm.trans q)).symm.trans h)) λq=>bT ((af Ef (e.symm.trans q.2)).symm.trans h)
def VG:gJ∉aV:=by decide
def VH:jj∉aV:=by decide
def VI:sO∉aV:=by decide
def VJ{P:dY}{a:Addr}{o:Obj}(e:(KK P).lookup a=ab o):a∉aV:=λq=>by
 have:=bA.mp (VE P) a q
 rw[e]at this;cases this
section
inductive T where
 |none|bool (b:Bool)|int (i:Int)|str (x:Str)
 |tup (l:List T)|lst (l:List T)
 |aY (l:List (Str×Int))
 |ins (c:Nat) (l:List T)
 |eG (mid v:Str)
 |ptr (a:Nat)
noncomputable instance:Inhabited T:=⟨.none⟩
noncomputable def lim:Nat:=65536
noncomputable def T.obj:T->Bool
 |.lst _|.aY _=>true
 |_=>false
structure Kx where
 prog:gK
 w:gY
 mg:Str->Option ay
 mb:Str->Option ay
noncomputable abbrev Kx.K(X:Kx):Frag:=KK X.w.params
inductive gf:List Str->List ay->List jh->Prop
 |nil:gf [] [] []
 |cons {n v h t ns vs es}:gf ns vs es->gf (n::ns) (v::vs) (⟨h,.str n t,v⟩::es)
def jX(h:Heap)(a:Addr)(items:Array ay):Prop:=∃n,h.get? a=ab {cls:=.type "tuple",data:=.seq items n}
def jX.isTup{h:Heap}{a:Addr}{items:Array ay}(x:jX h a items):IsTup h a items:=x.elim λn e=>⟨_,e,rfl,n,rfl⟩
abbrev DK(p:Str×Int)(q:Str×ay):Prop:=p.1=q.1/\p.1.length<=lim/\∃t,q.2=.int p.2 t
section
variable(X:Kx)
mutual
inductive VR(N:Addr->Prop)(h:Heap):T->ay->Prop
 |none:VR N h .none .none
 |bool (b:Bool):VR N h (.bool b) (.bool b)
 |int (i:Int) (t:Tok):VR N h (.int i) (.int i t)
 |str (x:Str) (t:Tok) (hx:x.length<=lim):VR N h (.str x) (.str x t)
 |tup {a:Addr} {vs:List ay} {ts:List T} (ho:jX h a vs.toArray) (hN:¬N a) (hz:ts.length<=lim) (hs:aL N h ts vs):VR N h (.tup ts) (.ref a)
 |lst {a:Addr} {vs:List ay} {ts:List T} (ho:h.PlainList a vs.toArray) (hN:¬N a) (hz:ts.length<=lim) (hs:aL N h ts vs):VR N h (.lst ts) (.ref a)
 |aY {a:Addr} {o:Obj} {l:List (Str×Int)} {aZ:List (Str×ay)} (ho:h.get? a=ab o) (hd:o.IsDictOf (strKind X.prog X.w) aZ) (hN:¬N a)
   (hz:l.length<=lim) (hq:(a==qq)=false) (hs:jO DK l aZ):VR N h (.aY l) (.ref a)
 |ins {a dA:Addr} {c:Nat} {es:List jh} {n:Nat} {vs:List ay} {ts:List T} (ho:h.get? a=ab (ny (dR c).at_ dA))
   (hd:h.get? dA=ab {cls:=.type "dict",data:=.dict es.toArray n}) (hN:¬N a) (hM:¬N dA)
   (he:gf (dR c).names vs es) (hs:aL N h ts vs):VR N h (.ins c ts) (.ref a)
 |eG {a dA g c cd:Addr} {mid v:Str} {fd gd:gX} {es:List jh} {n:Nat} {t u:Tok} {oc:Obj} {cv:Array ay} {ct:Tok}
   (ho:h.get? a=ab {cls:=.type "function",dict:=ab dA,data:=.func fd}) (hN:¬N a)
   (hd:h.get? dA=ab {cls:=.type "dict",data:=.dict es.toArray n}) (hM:¬N dA)
   (he:gf [s_ "applies_to",s_ "allowance"] [.ref g,.str v t] es)
   (hg:h.get? g=ab {cls:=.type "function",data:=.func gd}) (hO:¬N g) (hl:KR X.mg gd) (hc:gd.closure=[(s_ "middle",c)])
   (hm:h.IsCell c (ab (.str mid u))) (hP:¬N c) (hz:mid.length<=lim) (hy:v.length<=lim)
   (iE:gd.code=.ref cd) (nK:h.get? cd=ab oc) (lT:oc.data=.fields cv) (mI:cv[1]?=ab (.str gd.qualname ct)) (hR:oc.cls=.type "code"):VR N h (.eG mid v) (.ref a)
 |ptr (a:Addr):VR N h (.ptr a) (.ref a)
inductive aL(N:Addr->Prop)(h:Heap):List T->List ay->Prop
 |nil:aL N h [] []
 |cons {t v ts vs}:VR N h t v->aL N h ts vs->aL N h (t::ts) (v::vs)
end
end
inductive yo(X:Kx)(N:Addr->Prop)(h:Heap)(P:Addr->Array ay->Prop)(ts:List T):ay->Prop
 |mk {a vs} (ho:P a (oD vs)) (hN:¬N a) (hz:ts.length<=lim) (hs:aL X N h ts vs):yo X N h P ts (.ref a)
inductive vG(X:Kx)(N:Addr->Prop)(h:Heap)(l:List (Str×Int)):ay->Prop
 |mk {a o aZ} (ho:h.get? a=ab o) (hd:o.IsDictOf (strKind X.prog X.w) aZ) (hN:¬N a) (hz:l.length<=lim) (hq:(a==qq)=false) (hs:jO DK l aZ):vG X N h l (.ref a)
inductive Eg(i:Int):ay->Prop
 |mk (t):Eg i (.int i t)
inductive Bu(x:Str):ay->Prop
 |mk (t) (hx:x.length<=lim):Bu x (.str x t)
noncomputable def VK(X:Kx)(N:Addr->Prop)(h:Heap):T->ay->Prop
 |.none=>λv=>v=.none
 |.bool b=>λv=>v=.bool b
 |.int i=>Eg i
 |.str x=>Bu x
 |.tup ts=>yo X N h (jX h) ts
 |.lst ts=>yo X N h (al1 h) ts
 |.aY l=>vG X N h l
 |.ptr a=>λv=>v=.ref a
 |_=>λz=>True
def VR.inv{X:Kx}{N:Addr->Prop}{h:Heap}{t:T}{v:ay}(x:VR X N h t v):VK X N h t v:=by
 cases x with
 |none=>rfl
 |bool=>rfl
 |int=>exact .mk _
 |str _ _ hx=>exact .mk _ hx
 |tup ho hN hz hs=>exact .mk ho hN hz hs
 |lst ho hN hz hs=>exact .mk ho hN hz hs
 |aY ho hd hN hz hq hs=>exact .mk ho hd hN hz hq hs
 |ins=>trivial
 |eG=>trivial
 |ptr=>rfl
inductive Eh(X:Kx)(N:Addr->Prop)(h:Heap)(t:T)(ts:List T):List ay->Prop
 |mk {v vs} (a:VR X N h t v) (b:aL X N h ts vs):Eh X N h t ts (v::vs)
noncomputable def VL(X:Kx)(N:Addr->Prop)(h:Heap):List T->List ay->Prop
 |[]=>λvs=>vs=[]
 |t::ts=>Eh X N h t ts
def aL.inv{X:Kx}{N:Addr->Prop}{h:Heap}{t:List T}{v:List ay}(x:aL X N h t v):VL X N h t v:=by
 cases x with
 |nil=>rfl
 |cons a b=>exact .mk a b
section
variable{X:Kx}{N N':Addr->Prop}{h h':Heap}
def bw{a:Addr}{o:Obj}(e:h.get? a=ab o):a<h.objs.size:=xx e
def bx{P:Prop}{a b:Nat}(h:a<b)(h':b<=a):P:=aj h (fL.mpr h')
def VR.move(hN:∀a,N' a->N a∨h.objs.size<=a)(k:∀b o,(¬N b∨iA o)->h.get? b=ab o->h'.get? b=ab o){t:T}{v:ay}(x:VR X N h t v):VR X N' h' t v:=
 have nn:∀{a o},h.get? a=ab o->¬N a->¬N' a:=λe n q=>(hN _ q).elim n λl=>bx (bw e) l
 have kk:∀{b o},h.get? b=ab o->¬N b->h'.get? b=ab o:=λe n=>k _ _ (.inl n) e
 VR.rec (motive_1:=λt v z=>VR X N' h' t v) (motive_2:=λt v z=>aL X N' h' t v) .none .bool .int .str
  (λho hn hz z r=>ho.elim λn e=>.tup ⟨n,kk e hn⟩ (nn e hn) hz r)
  (λho hn hz z r=>ho.elim λn e=>.lst ⟨n,kk e hn⟩ (nn e hn) hz r)
  (λho hd hn hz hq hs=>.aY (kk ho hn) hd (nn ho hn) hz hq hs)
  (λho hd hn hm he z r=>.ins (kk ho hn) (kk hd hm) (nn ho hn) (nn hd hm) he r)
  (λho hn hd hm he hg hO hl hc VM hp hz hy iE nK lT mI hr=>VM.elim λo q=>.eG (kk ho hn) (nn ho hn) (kk hd hm) (nn hd hm) he (kk hg hO) (nn hg hO) hl hc ⟨o,kk q.1 hp,q.2⟩ (nn q.1 hp) hz hy iE (k _ _ (.inr ⟨hr,_,lT⟩) nK) lT mI hr)
  .ptr .nil (λz z a b=>.cons a b) x
def aL.move(hN:∀a,N' a->N a∨h.objs.size<=a)(k:∀b o,(¬N b∨iA o)->h.get? b=ab o->h'.get? b=ab o){t:List T}{v:List ay}(x:aL X N h t v):aL X N' h' t v:=by
 induction t generalizing v with
 |nil=>cases x;exact .nil
 |cons t ts ih=>cases x with|cons a b=>exact .cons (a.move hN k) (ih b)
def VR.keep(k:∀b o,(¬N b∨iA o)->h.get? b=ab o->h'.get? b=ab o){t:T}{v:ay}(x:VR X N h t v):VR X N h' t v:=x.move (λz=>.inl) k
def aL.keep(k:∀b o,(¬N b∨iA o)->h.get? b=ab o->h'.get? b=ab o){t:List T}{v:List ay}(x:aL X N h t v):aL X N h' t v:=x.move (λz=>.inl) k
def VR.mono(hN:∀a,N' a->N a){t:T}{v:ay}(x:VR X N h t v):VR X N' h t v:=x.move (λa q=>.inl (hN a q)) λz z z e=>e
def aL.mono(hN:∀a,N' a->N a){t:List T}{v:List ay}(x:aL X N h t v):aL X N' h t v:=x.move (λa q=>.inl (hN a q)) λz z z e=>e
def aL.length{ts:List T}{vs:List ay}(x:aL X N h ts vs):vs.length=ts.length:=by
 induction ts generalizing vs with
 |nil=>cases x;rfl
 |cons t ts ih=>cases x with|cons a b=>exact af (· +1) (ih b)
def aL.get{ts:List T}{vs:List ay}(x:aL X N h ts vs){i:Nat}{t:T}(e:ts[i]?=ab t):∃v,vs[i]?=ab v/\VR X N h t v:=by
 induction ts generalizing vs i with
 |nil=>cases e
 |cons a ts ih=>
  cases x with
  |cons p q=>
   cases i with
   |zero=>cases e;exact⟨_,rfl,p⟩
   |succ i=>exact ih q e
def aL.app{ts us:List T}{vs ws:List ay}(x:aL X N h ts vs)(y:aL X N h us ws):aL X N h (ts++us) (vs++ws):=by
 induction ts generalizing vs with
 |nil=>cases x;exact y
 |cons a ts ih=>cases x with|cons p q=>exact .cons p (ih q)
def aL.one{t:T}{v:ay}(x:VR X N h t v):aL X N h [t] [v]:=.cons x .nil
def aL.rev{ts:List T}{vs:List ay}(x:aL X N h ts vs):aL X N h ts.reverse vs.reverse:=by
 induction ts generalizing vs with
 |nil=>cases x;exact .nil
 |cons a ts ih=>cases x with|cons p q=>rw[Ti,Ti];exact(ih q).app (.one p)
def aL.drop{ts:List T}{vs:List ay}(n:Nat)(x:aL X N h ts vs):aL X N h (ts.drop n) (vs.drop n):=by
 induction n generalizing ts vs with
 |zero=>exact x
 |succ n ih=>cases x with|nil=>exact .nil|cons p q=>exact ih q
def aL.take{ts:List T}{vs:List ay}(n:Nat)(x:aL X N h ts vs):aL X N h (ts.take n) (vs.take n):=by
 induction n generalizing ts vs with
 |zero=>exact .nil
 |succ n ih=>cases x with|nil=>exact .nil|cons p q=>exact .cons p (ih q)
def aL.set{ts:List T}{vs:List ay}{t:T}{v:ay}(n:Nat)(x:aL X N h ts vs)(y:VR X N h t v):aL X N h (ts.set n t) (vs.set n v):=by
 induction n generalizing ts vs with
 |zero=>cases x with|nil=>exact .nil|cons p q=>exact .cons y q
 |succ n ih=>cases x with|nil=>exact .nil|cons p q=>exact .cons p (ih q)
inductive VB(X:Kx)(N:Addr->Prop)(h:Heap):T->ay->Prop
 |of {t v} (x:VR X N h t v):VB X N h t v
 |lst {a:Addr} {vs:List ay} {ts:List T} (ho:h.PlainList a vs.toArray) (hz:ts.length<=lim) (hs:aL X N h ts vs):VB X N h (.lst ts) (.ref a)
 |aY {a:Addr} {o:Obj} {l:List (Str×Int)} {aZ:List (Str×ay)} (ho:h.get? a=ab o) (hd:o.IsDictOf (strKind X.prog X.w) aZ)
   (hz:l.length<=lim) (hq:(a==qq)=false) (hs:jO DK l aZ):VB X N h (.aY l) (.ref a)
@[elab_as_elim] theorem aL.tN {P:List ay->Prop} {u:T} {ts:List T} {vs:List ay} (x:aL X N h (u::ts) vs) (k:∀v ws,VR X N h u v->aL X N h ts ws->P (v::ws)):P vs:=by
 have y:Eh X N h u ts vs:=x.inv
 cases y with|mk a b=>exact k _ _ a b
@[elab_as_elim] theorem aL.qR {P:List ay->Prop} {vs:List ay} (x:aL X N h [] vs) (k:P []):P vs:=by
 have y:vs=[]:=x.inv
 rw[y];exact k
@[elab_as_elim] theorem aL.oO {P:List ay->Prop} {u:T} {vs:List ay} (x:aL X N h [u] vs) (k:∀v,VR X N h u v->P [v]):P vs:=x.tN λv ws a b=>b.qR (k v a)
@[elab_as_elim] theorem aL.Ei {P:List ay->Prop} {u t:T} {vs:List ay} (x:aL X N h [u,t] vs) (k:∀v w,VR X N h u v->VR X N h t w->P [v,w]):P vs:=x.tN λv ws a b=>b.oO λw c=>k v w a c
@[elab_as_elim] theorem VR.eY {P:ay->Prop} {ts:List T} {v:ay} (x:VR X N h (.tup ts) v) (k:∀a vs,jX h a vs.toArray->¬N a->ts.length<=lim->aL X N h ts vs->P (.ref a)):P v:=by
 have y:yo X N h (jX h) ts v:=x.inv
 cases y with|mk ho hN hz hs=>exact k _ _ ho hN hz hs
@[elab_as_elim] theorem VR.eQ {P:ay->Prop} {ts:List T} {v:ay} (x:VR X N h (.lst ts) v) (k:∀a vs,h.PlainList a vs.toArray->¬N a->ts.length<=lim->aL X N h ts vs->P (.ref a)):P v:=by
 have y:yo X N h (al1 h) ts v:=x.inv
 cases y with|mk ho hN hz hs=>exact k _ _ ho hN hz hs
@[elab_as_elim] theorem VR.VN {P:ay->Prop} {l:List (Str×Int)} {v:ay} (x:VR X N h (.aY l) v) (k:∀a o aZ,h.get? a=ab o->o.IsDictOf (strKind X.prog X.w) aZ->¬N a->l.length<=lim->(a==qq)=false->jO DK l aZ->P (.ref a)):P v:=by
 have y:vG X N h l v:=x.inv
 cases y with|mk ho hd hN hz hq hs=>exact k _ _ _ ho hd hN hz hq hs
@[elab_as_elim] theorem VR.eR {P:ay->Prop} {i:Int} {v:ay} (x:VR X N h (.int i) v) (k:∀t,P (.int i t)):P v:=by
 have y:Eg i v:=x.inv
 cases y with|mk t=>exact k t
@[elab_as_elim] theorem VR.c6 {P:ay->Prop} {y:Str} {v:ay} (x:VR X N h (.str y) v) (k:∀t,y.length<=lim->P (.str y t)):P v:=by
 have y:Bu y v:=x.inv
 cases y with|mk t hx=>exact k t hx
def VB.vr{t:T}{v:ay}(x:VB X N h t v)(q:t.obj=false):VR X N h t v:=by
 cases x with
 |of x=>exact x
 |lst=>exact aj q.symm bT
 |aY=>exact aj q.symm bT
inductive Bv(X:Kx)(N:Addr->Prop)(h:Heap)(ts:List T):ay->Prop
 |mk {a vs} (ho:h.PlainList a (oD vs)) (hz:ts.length<=lim) (hs:aL X N h ts vs):Bv X N h ts (.ref a)
noncomputable def KV(X:Kx)(N:Addr->Prop)(h:Heap):T->ay->Prop
 |.lst ts=>Bv X N h ts
 |.aY l=>vG X (λz=>False) h l
 |_=>λz=>True
def VR.j{t:T}{v:ay}(x:VR X N h t v):KV X N h t v:=by
 cases x with
 |lst ho hN hz hs=>exact .mk ho hz hs
 |aY ho hd hN hz hq hs=>exact .mk ho hd id hz hq hs
 |_=>trivial
def VB.j{t:T}{v:ay}(x:VB X N h t v):KV X N h t v:=by
 cases x with
 |of x=>exact x.j
 |lst ho hz hs=>exact .mk ho hz hs
 |aY ho hd hz hq hs=>exact .mk ho hd id hz hq hs
@[elab_as_elim] theorem VB.list {P:ay->Prop} {ts:List T} {v:ay} (x:VB X N h (.lst ts) v) (k:∀a vs,h.PlainList a vs.toArray->ts.length<=lim->aL X N h ts vs->P (.ref a)):P v:=by
 have y:Bv X N h ts v:=x.j
 cases y with|mk ho hz hs=>exact k _ _ ho hz hs
def VB.isList{ts:List T}{v:ay}(x:VB X N h (.lst ts) v):∃a vs,v=.ref a/\h.PlainList a vs.toArray/\ts.length<=lim/\aL X N h ts vs:=x.list λa vs h1 h2 h3=>⟨a,vs,rfl,h1,h2,h3⟩
@[elab_as_elim] theorem VB.dict {P:ay->Prop} {l:List (Str×Int)} {v:ay} (x:VB X N h (.aY l) v) (k:∀a o aZ,h.get? a=ab o->o.IsDictOf (strKind X.prog X.w) aZ->l.length<=lim->(a==qq)=false->jO DK l aZ->P (.ref a)):P v:=by
 have y:vG X (λz=>False) h l v:=x.j
 cases y with|mk ho hd _ hz hq hs=>exact k _ _ _ ho hd hz hq hs
@[elab_as_elim] theorem VB.KW {P:ay->Prop} {ts:List T} {v:ay} (x:VB X N h (.tup ts) v) (k:∀a vs,jX h a vs.toArray->ts.length<=lim->aL X N h ts vs->P (.ref a)):P v:=(x.vr rfl).eY λa vs h1 z h2 h3=>k a vs h1 h2 h3
@[elab_as_elim] theorem VB.eR {P:ay->Prop} {i:Int} {v:ay} (x:VB X N h (.int i) v) (k:∀t,P (.int i t)):P v:=(x.vr rfl).eR k
@[elab_as_elim] theorem VB.c6 {P:ay->Prop} {y:Str} {v:ay} (x:VB X N h (.str y) v) (k:∀t,y.length<=lim->P (.str y t)):P v:=(x.vr rfl).c6 k
def VB.str{x:Str}{v:ay}(q:VB X N h (.str x) v):∃t,v=.str x t/\x.length<=lim:=q.c6 λt h=>⟨t,rfl,h⟩
def nL(a b:Array my):Prop:=(AllBare a->AllBare b)/\∀(i:Nat)x,a[i]?=ab x->b[i]?=ab x
def nL.refl(a:Array my):nL a a:=⟨id,λz z e=>e⟩
def nL.trans{a b c:Array my}(x:nL a b)(y:nL b c):nL a c:=⟨λg=>y.1 (x.1 g),λi z e=>y.2 i z (x.2 i z e)⟩
structure Mv(X:Kx)(M:Addr->Prop)(s s':az):Prop where
 old:∀b o,¬M b->b∉aV->s.heap.get? b=ab o->s'.heap.get? b=ab o
 size:s.heap.objs.size<=s'.heap.objs.size
 tabs:kA X.mg s.heap->kA X.mg s'.heap
 os:s'.os=s.os
 gens:nL s.gens s'.gens
 code:∀b o,iA o->s.heap.get? b=ab o->s'.heap.get? b=ab o
structure Kp(X:Kx)(s s':az):Prop where
 old:∀b o,b∉aV->s.heap.get? b=ab o->s'.heap.get? b=ab o
 size:s.heap.objs.size<=s'.heap.objs.size
 tabs:kA X.mg s.heap->kA X.mg s'.heap
 os:s'.os=s.os
 gens:nL s.gens s'.gens
 code:∀b o,iA o->s.heap.get? b=ab o->s'.heap.get? b=ab o
def Kp.refl(s:az):Kp X s s:=⟨λz z z e=>e,bj _,id,rfl,.refl _,λz z z e=>e⟩
def Kp.trans{a b c:az}(x:Kp X a b)(y:Kp X b c):Kp X a c:=
 ⟨λz z n e=>y.old _ _ n (x.old _ _ n e),aD x.size y.size,λt=>y.tabs (x.tabs t),y.os.trans x.os,x.gens.trans y.gens,λb o c e=>y.code _ _ c (x.code _ _ c e)⟩
def Kp.kc{s s':az}(k:Kp X s s')(n:∀a∈aV,N a)(b o)(q:¬N b∨iA o)(e:s.heap.get? b=ab o):s'.heap.get? b=ab o:=
 q.elim (λq=>k.old b o (λz=>q (n b z)) e) λc=>k.code b o c e
structure Wd(X:Kx)(h:Heap):Prop where
 K:X.K.In h
 g:h.Ns gJ X.mg
 b:h.Ns jj X.mb
 nolimit:h.NoLimit
 nodigits:∃mc,h.Ns sO mc/\mc "sys.int_max_str_digits"=ae
 tabs:kA X.mg h
 gl:∀x v,d4 x=ab v->X.mg x=ab v∨(X.mg x=ae/\X.mb x=ab v)
structure NG(X:Kx)(N:Addr->Prop)(h:Heap):Prop where
 tb:∀a∈aV,N a
 lt:∀a,N a->a<h.objs.size
 wd:∀a,N a->a∉aV->X.K.lookup a=ae/\a≠gJ/\a≠jj/\a≠sO
structure RA(k:Nat)(A:aM):Prop where
 handled:A.handled=ae
 guards:A.guards=ab []
 depth:A.depth+k<900
 units:A.units+8*k<9000
def RA.mono{k j:Nat}{A:aM}(x:RA k A)(h:j<=k):RA j A:=⟨x.handled,x.guards,bI (f6 h _) x.depth,bI (f6 (ko _ h) _) x.units⟩
def RA.room{k:Nat}{A:aM}(x:RA k A):A.depth<recursionLimit:=bI (bX _ _) (qt x.depth (by decide))
def RA.KX{k n:Nat}{A:aM}(x:RA k A)(h:n<=800:=by decide):A.units+n<Dm:=bG (al2 (bI (bX _ _) x.units) h) (by decide)
def RA.deeper{k:Nat}{A:aM}{env:Env}(x:RA (k+1) A):RA k (A.deeper env):=
 ⟨x.handled,x.guards,bI (bO ((gZ ..).trans (af _ (eK ..)))) x.depth,
  bI (aD (bO (gZ ..)) (f6 (aD (cR (by decide:3<=8) _) (bO (eK ..))) _)) x.units⟩
section
variable{s s':az}{M M':Addr->Prop}
def Kp.of{h':Heap}{tk:Nat}(k:∀b o,s.heap.get? b=ab o->h'.get? b=ab o)(z:s.heap.objs.size<=h'.objs.size):Kp X s {s with heap:=h',toks:=tk}:=
 ⟨λb o y e=>k b o e,z,yn (λb o y e=>k b o e),rfl,.refl _,λb o y e=>k b o e⟩
def Kp.tok{tk:Nat}:Kp X s {s with toks:=tk}:=Kp.of (λz z e=>e) (bj _)
def Kp.push{o:Obj}{tk:Nat}:Kp X s {s with heap:=s.heap.push o,toks:=tk}:=Kp.of (λb o e=>cS _ e) (by rw[fh];exact gy _)
def Wd.to(x:Wd X s.heap)(k:∀b o,(b=gJ∨b=jj∨b=sO∨X.K.lookup b=ab o)->s.heap.get? b=ab o->s'.heap.get? b=ab o)(t:kA X.mg s'.heap):Wd X s'.heap:=
 ⟨λa o e=>k _ _ (.inr (.inr (.inr e))) (x.K a o e),x.g.at' λo e=>k _ _ (.inl rfl) e,x.b.at' λo e=>k _ _ (.inr (.inl rfl)) e,
  x.nolimit.elim λmc q=>⟨mc,q.1.at' λo e=>k _ _ (.inr (.inr (.inl rfl))) e,q.2⟩,x.nodigits.elim λmc q=>⟨mc,q.1.at' λo e=>k _ _ (.inr (.inr (.inl rfl))) e,q.2⟩,t,x.gl⟩
def Ej{b:Addr}{o:Obj}(q:b=gJ∨b=jj∨b=sO∨X.K.lookup b=ab o):b∉aV:=by
 rcases q with rfl|rfl|rfl|q
 ·exact VG
 ·exact VH
 ·exact VI
 ·exact VJ q
def Wd.kp(x:Wd X s.heap)(k:Kp X s s'):Wd X s'.heap:=x.to (λb o q e=>k.old _ _ (Ej q) e) (k.tabs x.tabs)
def NG.kp(x:NG X N s.heap)(k:Kp X s s'):NG X N s'.heap:=⟨x.tb,λa q=>bG (x.lt a q) k.size,x.wd⟩
def VR.kp(n:NG X N s.heap)(k:Kp X s s'){t:T}{v:ay}(x:VR X N s.heap t v):VR X N s'.heap t v:=x.keep (k.kc n.tb)
def aL.kp(n:NG X N s.heap)(k:Kp X s s'){t:List T}{v:List ay}(x:aL X N s.heap t v):aL X N s'.heap t v:=x.keep (k.kc n.tb)
def Mv.refl(s:az):Mv X M s s:=⟨λz z z z e=>e,bj _,id,rfl,.refl _,λz z z e=>e⟩
def Mv.kc(k:Mv X M s s')(n:∀a∈aV,N a)(h:∀a,M a->N a)(b o)(q:¬N b∨iA o)(e:s.heap.get? b=ab o):s'.heap.get? b=ab o:=
 q.elim (λq=>k.old b o (λz=>q (h b z)) (λz=>q (n b z)) e) λc=>k.code b o c e
def Mv.of(k:Kp X s s'):Mv X M s s':=⟨λb o z n e=>k.old b o n e,k.size,k.tabs,k.os,k.gens,k.code⟩
def Mv.kp(k:Mv X M s s')(h:∀a,¬M a):Kp X s s':=⟨λb o n e=>k.old b o (h b) n e,k.size,k.tabs,k.os,k.gens,k.code⟩
def Mv.trans{a b c:az}(x:Mv X M a b)(y:Mv X M' b c)(h:∀d,M' d->M d∨a.heap.objs.size<=d):Mv X M a c:=
 ⟨λd o m n e=>y.old _ _ (λq=>(h d q).elim m λl=>bx (bw e) l) n (x.old _ _ m n e),aD x.size y.size,λt=>y.tabs (x.tabs t),y.os.trans x.os,x.gens.trans y.gens,λb o c e=>y.code _ _ c (x.code _ _ c e)⟩
def Mv.weak(x:Mv X M s s')(h:∀d,M d->M' d∨s.heap.objs.size<=d):Mv X M' s s':=(Mv.of (.refl s)).trans x h
def Mv.sub(x:Mv X M s s')(h:∀a,M a->M' a):Mv X M' s s':=x.weak λd q=>.inl (h d q)
def NG.mv(x:NG X N s.heap)(k:Mv X M s s'):NG X N s'.heap:=⟨x.tb,λa q=>bG (x.lt a q) k.size,x.wd⟩
def Wd.mv(x:Wd X s.heap)(n:NG X N s.heap)(k:Mv X M s s')(h:∀a,M a->N a):Wd X s'.heap:=
 x.to (λb o q e=>k.old _ _ (λm=>by
  have w:=n.wd b (h b m) (Ej q)
  rcases q with q|q|q|q
  ·exact w.2.1 q
  ·exact w.2.2.1 q
  ·exact w.2.2.2 q
  ·exact aj (w.1.symm.trans q) nofun) (Ej q) e) (k.tabs x.tabs)
def VR.mv(n:NG X N s.heap)(k:Mv X M s s')(h:∀a,M a->N a){t:T}{v:ay}(x:VR X N s.heap t v):VR X N s'.heap t v:=x.keep (k.kc n.tb h)
def aL.mv(n:NG X N s.heap)(k:Mv X M s s')(h:∀a,M a->N a){t:List T}{v:List ay}(x:aL X N s.heap t v):aL X N s'.heap t v:=x.keep (k.kc n.tb h)
def NG.more(x:NG X N s.heap){h':Heap}(hN:∀a,N a->N' a)(w:Wd X s.heap)(hz:s.heap.objs.size<=h'.objs.size)(hn:∀a,N' a->N a∨(s.heap.objs.size<=a/\a<h'.objs.size)):NG X N' h' where
 tb:=λa q=>hN _ (x.tb a q)
 lt:=λa q=>(hn a q).elim (λz=>bG (x.lt a z) hz) (·.2)
 wd:=λa q nt=>(hn a q).elim (λz=>x.wd a z nt) λz=>by
  have lt:∀b,b<s.heap.objs.size->a≠b:=λb l e=>bx l (e▸z.1)
  have ns:∀{b m},s.heap.Ns b m->a≠b:=λq=>by obtain⟨_,_,_,e,_⟩:=q;exact lt _ (bw e)
  refine⟨?_,ns w.g,ns w.b,w.nolimit.elim λy q=>ns q.1⟩
  cases e:X.K.lookup a with
  |none=>rfl
  |some o=>exact aj rfl (lt a (bw (w.K a o e)))
def Apart(h:Heap):Prop:=∀a∈aV,∀o,h.get? a=ab o->o.cls=.none
def Wd.apart(x:Wd X s.heap):Apart s.heap:=λa ha o e=>VF x.tabs a ha o e
def dict_cls{a:Addr}{o:Obj}{aZ:List (Str×ay)}(hd:o.IsDictOf (strKind X.prog X.w) aZ):o.cls=.type "dict":=by obtain⟨es,ep,ex,_⟩:=hd;exact ex.1
def mJ(ap:Apart h){a:Addr}{o:Obj}{T:String}(e:h.get? a=ab o)(c:o.cls=.type T):a∉aV:=λz=>nomatch (ap _ z _ e).symm.trans c
def VB.move(hN:∀a,N' a->N a∨h.objs.size<=a)(k:∀b o,(¬N b∨iA o)->h.get? b=ab o->h'.get? b=ab o)(kt:∀b o T,o.cls=.type T->h.get? b=ab o->h'.get? b=ab o){t:T}{v:ay}(x:VB X N h t v):VB X N' h' t v:=by
 cases x with
 |of x=>exact .of (x.move hN k)
 |lst ho hz hs=>exact ho.elim λn e=>.lst ⟨n,kt _ _ _ rfl e⟩ hz (hs.move hN k)
 |aY ho hd hz hq hs=>exact .aY (kt _ _ _ (dict_cls (a:=0) hd) ho) hd hz hq hs
def VB.kp(n:NG X N s.heap)(k:Kp X s s')(ap:Apart s.heap){t:T}{v:ay}(x:VB X N s.heap t v):VB X N s'.heap t v:=
 x.move (λz=>.inl) (k.kc n.tb) λb o T c e=>k.old b o (mJ ap e c) e
end
end
end
end Mine
section
open PySem PySem.Spec PyProof.Rows
noncomputable section
namespace Mine
section
variable{α:Type}
noncomputable def bp(f:Int->Option α):T->Option α
 |.int i=>f i
 |_=>ae
noncomputable def cG(f:Str->Option α):T->Option α
 |.str x=>f x
 |_=>ae
noncomputable def bH(f:List T->Option α):T->Option α
 |.tup l=>f l
 |_=>ae
noncomputable def cH(f:List T->Option α):T->Option α
 |.lst l=>f l
 |_=>ae
noncomputable def vH(f:List (Str×Int)->Option α):T->Option α
 |.aY l=>f l
 |_=>ae
noncomputable def a0(f:Option α):List T->Option α
 |[]=>f
 |_=>ae
noncomputable def a1(f:T->Option α):List T->Option α
 |[x]=>f x
 |_=>ae
noncomputable def a2(f:T->T->Option α):List T->Option α
 |[x,y]=>f x y
 |_=>ae
end
mutual
noncomputable def T.py:T->Option Jv
 |.none=>ab .none
 |.bool b=>ab (.bool b)
 |.int i=>ab (.int i)
 |.str x=>ab (.str x)
 |.tup l=>(T.pB l).map .tuple
 |.lst l=>(T.pB l).map .list
 |.aY _=>Option.none
 |.ins _ _=>Option.none
 |.eG _ _=>Option.none
 |.ptr _=>Option.none
noncomputable def T.pB:List T->Option (List Jv)
 |[]=>ab []
 |t::ts=>(T.py t).bind λa=>(T.pB ts).bind λb=>ab (a::b)
end
noncomputable def T.truth:T->Bool
 |.none=>false
 |.bool b=>b
 |.int i=>i !=0
 |.str x=>x.length !=0
 |.tup l=>!l.isEmpty
 |.lst l=>!l.isEmpty
 |_=>true
noncomputable def T.plain:T->Bool
 |.none|.bool _|.int _|.str _|.lst _=>true
 |_=>false
inductive iG where
 |add|sub|mul|fdiv|mod|pow|shl|shr|band|bor|bxor
 deriving DecidableEq
inductive qS where
 |eq|ne|lt|le|gt|ge
noncomputable def yp(x:Str)(n:Nat):Str:=⟨(bZ n x.cps.toList).flatten.toArray⟩
noncomputable def i2{α:Type}(f:Int->Int->Option α)(x y:T):Option α:=bp (λa=>bp (f a) y) x
noncomputable def tO:T->T->Option T
 |.int a=>bp λb=>ab (.int (a+b))
 |.str x=>cG λy=>if x.length+y.length<=lim then ab (.str (x++y))else ae
 |.lst x=>cH λy=>if x.length+y.length<=lim then ab (.lst (x++y))else ae
 |_=>λz=>ae
noncomputable def KY:T->T->Option T
 |.int a=>bp λb=>if(bc a:Int)+bc b<=1000000 then ab (.int (a*b))else ae
 |.str x=>bp λn=>if 0<=n/\(x.length+1)*n.toNat<=lim then ab (.str (yp x n.toNat))else ae
 |.lst l=>bp λn=>if 0<=n/\(l.length+1)*n.toNat<=lim then ab (.lst (bZ n.toNat l).flatten)else ae
 |_=>λz=>ae
noncomputable def a8:iG->T->T->Option T
 |.add=>tO
 |.mul=>KY
 |.sub=>i2 λa b=>ab (.int (a - b))
 |.fdiv=>i2 λa b=>if b≠0/\xy a b=false then ab (.int (a.fdiv b))else ae
 |.mod=>i2 λa b=>if b≠0 then ab (.int (a.fmod b))else ae
 |.pow=>i2 λa n=>if 0<=n/\(bc a:Int)*n<=1000000 then ab (.int (a^n.toNat))else ae
 |.shl=>i2 λa n=>if 0<=n/\(bc a:Int)+n<=1000000 then ab (.int (a*2^n.toNat))else ae
 |.shr=>i2 λa n=>if 0<=n then ab (.int (a.fdiv (2^n.toNat)))else ae
 |.band=>i2 λa b=>ab (.int (Dn a b))
 |.bor=>i2 λa b=>ab (.int (eN.bitOr a b))
 |.bxor=>i2 λa b=>ab (.int (Tn a b))
noncomputable def yq:T->T->Option Bool
 |.int a=>bp λb=>ab (a==b)
 |.str x=>cG λy=>ab (x==y)
 |.aY l=>vH λm=>match l,m with
  |[p],[q]=>ab (p.1==q.1&&p.2==q.2)
  |_,_=>ae
 |_=>λz=>ae
noncomputable def KZ(a b:T):Option Bool:=a.py.bind λx=>b.py.bind λy=>if sP x=true/\sP y=true then ab (Jw x y)else ae
noncomputable def eqT(a b:T):Option Bool:=(yq a b).elim (KZ a b) ab
noncomputable def qT:qS->T->T->Option Bool
 |.eq=>eqT
 |.ne=>λa b=>(eqT a b).map not
 |.lt=>i2 λa b=>ab (decide (a<b))
 |.le=>i2 λa b=>ab (decide (a<=b))
 |.gt=>i2 λa b=>ab (decide (a>b))
 |.ge=>i2 λa b=>ab (decide (a≥b))
noncomputable def kC:T->T->Option T
 |.lst l=>bp λi=>(f9 i l.length).bind (l[·]?)
 |.tup l=>bp λi=>(f9 i l.length).bind (l[·]?)
 |.str x=>bp λi=>(Txt.charAt x i).map λc=>.str ⟨#[c]⟩
 |.aY l=>cG λk=>(l.lookup k).map .int
 |_=>λz=>ae
noncomputable def yr:T->Option (Option Int)
 |.none=>ab ae
 |.int i=>if -1000000000<=i/\i<=1000000000 then ab (ab i)else ae
 |_=>ae
noncomputable def gA{α:Type}(xs:List α)(lo hi:Option Int):List α:=
 let n:=xs.length
 let a:=lo.elim 0 (xA n)
 let b:=hi.elim n (xA n)
 (xs.drop a).take (b - a)
noncomputable def Ek(rev:Bool)(a b:T)(f:Option Int->Option Int->T)(g:T):Option T:=
 (yr a).bind λlo=>(yr b).bind λhi=>if rev=false then ab (f lo hi)else if lo=ae/\hi=ae then ab g else ae
noncomputable def mL(rev:Bool)(x a b:T):Option T:=match x with
 |.lst l=>Ek rev a b (λlo hi=>.lst (gA l lo hi)) (.lst l.reverse)
 |.str x=>Ek rev a b (λlo hi=>.str ⟨(gA x.cps.toList lo hi).toArray⟩) (.str ⟨x.cps.toList.reverse.toArray⟩)
 |_=>ae
noncomputable def La(x y:T):Option Bool:=match y with
 |.str y=>cG (λx=>ab (AN y x)) x
 |.lst l=>x.py.bind λx=>(T.pB l).bind λys=>if sP x=true/\sP (.list ys)=true then ab (ys.any λy=>Jw y x)else ae
 |_=>ae
noncomputable def chars(x:Str):List T:=x.cps.toList.map λc=>.str ⟨#[c]⟩
noncomputable def eZ:T->Option (List T)
 |.lst l=>ab l
 |.str x=>ab (chars x)
 |.aY l=>ab (l.map λp=>.str p.1)
 |_=>ae
noncomputable def qU:T->Option (List T)
 |.lst l=>ab l
 |.tup l=>ab l
 |_=>ae
noncomputable def qV:T->Option (Option Bool)
 |.none=>ab ae
 |.bool b=>ab (ab b)
 |_=>ae
noncomputable def isOk:T->Bool
 |.none|.bool _|.int _|.str _|.lst _=>true
 |_=>false
noncomputable def Lb(no:Bool)(x c:T):Option T:=if isOk x=true then(qV c).bind λd=>ab (.bool (decide (qV x=ab d) !=no))else ae
inductive Prim where
 |len|qW|max2|min1|qX|divmod|repr|str1|tuple1|list1
noncomputable def mM:List T->Option (List Int)
 |[]=>ab []
 |t::r=>bp (λi=>(mM r).map (i::·)) t
noncomputable def insI(x:Int):List Int->List Int
 |[]=>[x]
 |y::r=>if x<=y then x::y::r else y::insI x r
noncomputable def sortI:List Int->List Int
 |[]=>[]
 |x::r=>insI x (sortI r)
noncomputable def hH:List T->Option (List Str)
 |[]=>ab []
 |t::r=>cG (λx=>(hH r).map (x::·)) t
noncomputable def yu:List Str->Option (List Nat)
 |[]=>ab []
 |x::r=>match x.cps.toList with
  |[c]=>(yu r).map (c::·)
  |_=>ae
noncomputable def tP(x:Nat):List Nat->List Nat
 |[]=>[x]
 |y::r=>if y<=x then x::y::r else y::tP x r
noncomputable def vI:List Nat->List Nat
 |[]=>[]
 |x::r=>tP x (vI r)
noncomputable def VO:T->Option T
 |.lst l=>ab (.int l.length)
 |.tup l=>ab (.int l.length)
 |.str x=>ab (.int x.length)
 |_=>ae
noncomputable def Bw(f:Int->Int->Int):List Int->Option T
 |[]=>ae
 |x::r=>ab (.int (r.foldl f x))
noncomputable def gO:Prim->List T->Option T
 |.len=>a1 VO
 |.qW=>a1 (cH λl=>(mM l).bind (Bw max))
 |.min1=>a1 (cH λl=>(mM l).bind (Bw min))
 |.max2=>a2 (i2 λa b=>ab (.int (if b>a then b else a)))
 |.qX=>a1 (cH λl=>(mM l).bind λns=>if ns.length<64 then ab (.lst ((sortI ns).map .int))else ae)
 |.divmod=>a2 (i2 λa b=>if b≠0/\xy a b=false then ab (.tup [.int (a.fdiv b),.int (a.fmod b)])else ae)
 |.repr=>a1 (cH λl=>(T.pB l).bind λys=>if Jv.showable (.list ys)=true/\Jv.hasDict (.list ys)=false/\(al3 ys).depth<=8/\(al4 (.list ys)).length<=lim then ab (.str (al4 (.list ys)))else ae)
 |.str1=>a1 (bp λi=>if i.natAbs.log2<1920/\(bP (toString i)).length<=lim then ab (.str (bP (toString i)))else ae)
 |.tuple1=>a1 (cH λl=>ab (.tup l))
 |.list1=>a1 λx=>(qU x).bind λl=>ab (.lst l)
inductive SM where
 |split1|lower|upper|count|rfind|find|join|pC|yv|vJ
noncomputable def iU(m:SM)(x:T)(args:List T):Option T:=match m with
 |.split1=>cG (λx=>a1 (cG λy=>if(y.length==0)=false/\(To x (Jx x y 0 x.length (x.length+1)) y.length).length<=lim/\(Txt.split x y).length<=lim/\(Txt.split x y).all (λz=>decide (z.length<=lim))=true
   then ab (.lst ((Txt.split x y).map .str))else ae) args) x
 |.lower=>cG (λx=>a0 (if(pg x).length<=lim then ab (.str (pg x))else ae) args) x
 |.upper=>cG (λx=>a0 (if(Txt.upper x).length<=lim then ab (.str (Txt.upper x))else ae) args) x
 |.count=>cG (λx=>a1 (cG λy=>ab (.int (Txt.count x y))) args) x
 |.rfind=>cG (λx=>a1 (cG λy=>ab (.int (Dq x y))) args) x
 |.find=>cG (λx=>a1 (cG λy=>ab (.int (Txt.find x y))) args) x
 |.join=>cG (λx=>a1 (cH λl=>(hH l).bind λys=>if nA x ys=true/\(fi x ys).length<=lim then ab (.str (fi x ys))else ae) args) x
 |.pC=>bp (λa=>a0 (ab (.int (bc a))) args) x
 |.yv=>cH (λl=>a1 (bp λa=>(mM l).bind λns=>ab (.int ((ns.filter (· ==a)).length))) args) x
 |.vJ=>vH (λl=>a2 (λk d=>cG (λk=>bp (λd=>ab (.int ((l.lookup k).getD d))) d) k) args) x
inductive E where
 |var (i:Nat)|lit (t:T)
 |bin (o:iG) (a b:E)|neg (a:E)|inv (a:E)|mN (a:E)
 |cmp (o:qS) (a b:E)|qY (no:Bool) (a:E) (c:T)|oP (a b:E)
 |jt (a b:E)|vK (a b:E)|ite (c a b:E)
 |idx (a b:E)|cY (rev:Bool) (a lo hi:E)|absent
 |nil|cons (a b:E)|tup (a:E)|lst (a:E)|jY (k v:E)
 |comp (k:Nat) (elt src cond:E)|jZ (ks:List Nat) (elt src cond:E)|yw (j k:Nat) (elt s1 s2:E)
 |call (f:Nat) (args:E)|bE (f:Nat) (obj args:E)
 |attr (a:E) (i:Nat)
 |prim (p:Prim) (args:E)|sm (m:SM) (a args:E)
 |hU (a:E)|mO (a b:E)|Bx (a:E)|yx (a:E)|vL (a:E)
noncomputable def E.isNil:E->Bool
 |.nil=>true
 |_=>false
abbrev aE:=List (Option T)
noncomputable def put(r:aE)(k:Nat)(t:T):aE:=r.set k (ab t)
noncomputable def putAll(r:aE):List Nat->List T->Option aE
 |[],ts=>match ts with
  |[]=>ab r
  |_=>ae
 |k::ks,ts=>match ts with
  |[]=>ae
  |t::ts=>putAll (put r k t) ks ts
noncomputable def get(r:aE)(k:Nat):Option T:=r.getD k ae
noncomputable def gather(f:T->Option (Option T)):List T->Option (List T)
 |[]=>ab []
 |x::r=>(f x).bind λo=>(gather f r).bind λl=>ab (o.elim l (· ::l))
noncomputable def yy(f:T->Option (List T)):List T->Option (List T)
 |[]=>ab []
 |x::r=>(f x).bind λa=>(yy f r).bind λb=>ab (a++b)
noncomputable def pD(a b:Int):List T:=(bf (b - a).toNat).map λi=>.int (a+(i:Nat))
noncomputable def yz(i:Nat):T->Option T
 |.ins c l=>if i/10=c then l[i%10]? else ae
 |.eG m v=>if i=100 then ab (.str v)else ae
 |_=>ae
section
variable(F:Nat->List T->Option T)
noncomputable def ev:E->aE->Option T
 |.var i,r=>get r i
 |.lit t,_=>ab t
 |.bin o a b,r=>(ev a r).bind λx=>(ev b r).bind λy=>a8 o x y
 |.neg a,r=>(ev a r).bind (bp λi=>ab (.int (-i)))
 |.inv a,r=>(ev a r).bind (bp λi=>ab (.int (Ds i)))
 |.mN a,r=>(ev a r).bind λt=>if t.plain=true then ab (.bool (!t.truth))else ae
 |.cmp o a b,r=>(ev a r).bind λx=>(ev b r).bind λy=>(qT o x y).map .bool
 |.qY no a c,r=>(ev a r).bind λx=>Lb no x c
 |.oP a b,r=>(ev a r).bind λx=>(ev b r).bind λy=>(La x y).map .bool
 |.jt a b,r=>(ev a r).bind λx=>if x.plain=true then(if x.truth then ev b r else ab x)else ae
 |.vK a b,r=>(ev a r).bind λx=>if x.plain=true then(if x.truth then ab x else ev b r)else ae
 |.ite c a b,r=>(ev c r).bind λx=>if x.plain=true then(if x.truth then ev a r else ev b r)else ae
 |.idx a b,r=>(ev a r).bind λx=>(ev b r).bind λy=>kC x y
 |.cY rv a lo hi,r=>(ev a r).bind λx=>(ev lo r).bind λy=>(ev hi r).bind λz=>mL rv x y z
 |.absent,_=>ab .none
 |.nil,_=>ab (.tup [])
 |.cons a b,r=>(ev a r).bind λx=>(ev b r).bind (bH λl=>ab (.tup (x::l)))
 |.tup a,r=>(ev a r).bind (bH λl=>if l.length<=lim then ab (.tup l)else ae)
 |.lst a,r=>(ev a r).bind (bH λl=>if l.length<=lim then ab (.lst l)else ae)
 |.jY a b,r=>if a.isNil=true then ab (.aY [])else(ev a r).bind (cG λk=>(ev b r).bind (bp λv=>ab (.aY [(k,v)])))
 |.comp k elt src cond,r=>(ev src r).bind λx=>(eZ x).bind λl=>(gather (λy=>(ab (put r k y)).bind λr'=>(ev cond r').bind λc=>if c.plain=true then(if c.truth then(ev elt r').map ab else ab ae)else ae) l).map .lst
 |.jZ ks elt src cond,r=>(ev src r).bind λx=>(eZ x).bind λl=>(gather (λy=>(bH (putAll r ks) y).bind λr'=>(ev cond r').bind λc=>if c.plain=true then(if c.truth then(ev elt r').map ab else ab ae)else ae) l).map .lst
 |.yw j k elt s1 s2,r=>(ev s1 r).bind λx=>(eZ x).bind λl=>(yy (λy=>(ev s2 ((put r j y).set k ae)).bind λz=>(eZ z).bind λm=>gather (λu=>(ev elt (put ((put r j y).set k ae) k u)).map ab) m) l).bind λq=>if q.length<=lim then ab (.lst q)else ae
 |.call f a,r=>(ev a r).bind (bH (F f))
 |.bE f o a,r=>(ev o r).bind λx=>(ev a r).bind (bH λl=>F f (x::l))
 |.attr a i,r=>(ev a r).bind (yz i)
 |.prim p a,r=>(ev a r).bind (bH (gO p))
 |.sm m o a,r=>(ev o r).bind λx=>(ev a r).bind (bH (iU m x))
 |.hU a,r=>(ev a r).bind (bp λn=>if -1000000<=n/\n<=lim then ab (.lst (pD 0 n))else ae)
 |.mO a b,r=>(ev a r).bind (bp λm=>(ev b r).bind (bp λn=>if -1000000<=m/\m<=1000000/\ -1000000<=n/\n - m<=lim/\n<=1000000 then ab (.lst (pD m n))else ae))
 |.Bx a,r=>(ev a r).bind (cH λl=>ab (.lst l.reverse))
 |.vL a,r=>(ev a r).bind (cH λl=>ab (.int l.length))
 |.yx a,r=>(ev a r).bind (cH λl=>(hH l).bind λys=>(yu ys).bind λcs=>if cs.length<64 then ab (.lst ((vI cs).map λc=>.str ⟨#[c]⟩))else ae)
inductive Tg where
 |one (k:Nat)|many (ks:List Nat)
noncomputable def Tg.ks:Tg->List Nat
 |.one k=>[k]
 |.many ks=>ks
noncomputable def qZ:List Tg->List T->Option (List T)
 |[],ts=>match ts with
  |[]=>ab []
  |_=>ae
 |g::r,ts=>match ts with
  |[]=>ae
  |x::xs=>match g with
   |.one _=>(qZ r xs).map (x::·)
   |.many ks=>(qU x).bind λys=>if ks.length=ys.length then(qZ r xs).map (ys++·)else ae
inductive S where
 |asg (k:Nat) (e:E)|own (k:Nat) (e:E)|fA (ks:List Nat) (e:E)|fP (ks:List Nat) (es:List (Option E))|pE (ks:List Nat) (e:E)|nest (ts:List Tg) (e:E)|move (k j:Nat)
 |aug (k:Nat) (o:iG) (e:E)
 |app (k:Nat) (e:E)|ext (k:Nat) (e:E)|rev (k:Nat)
 |yA (k:Nat) (i e:E)|oQ (k:Nat) (i:E) (o:iG) (e:E)|tQ (k:Nat) (i e:E)
 |bN (c:E) (a b:S)|skip|seq (a b:S)|gh (ks:List Nat) (a:S)
 |eV (k:Nat) (src:E) (body:S)|hY (ks:List Nat) (src:E) (body:S)|lU (ks:List Nat) (src:E) (body:S)
 |wh (n:Nat) (c:E) (body:S)
 |ret (fz:List Nat) (e:E)|brk|dead
inductive Fl where
 |next|brk|ret (t:T)
noncomputable def nN(go:aE->Option (Fl×aE))(p:Fl×aE):Option (Fl×aE):=match p.1 with
 |.next=>go p.2
 |.brk=>ab (.next,p.2)
 |.ret t=>ab (.ret t,p.2)
noncomputable def b6(f:T->aE->Option (Fl×aE)):List T->aE->Option (Fl×aE)
 |[],r=>ab (.next,r)
 |x::l,r=>(f x r).bind (nN (b6 f l))
noncomputable def nO(c:aE->Option Bool)(f:aE->Option (Fl×aE)):Nat->aE->Option (Fl×aE)
 |0,_=>ae
 |n+1,r=>(c r).bind λb=>if b=true then(f r).bind (nN (nO c f n))else ab (.next,r)
noncomputable def dput(l:List (Str×Int))(k:Str)(v:Int):List (Str×Int):=match l with
 |[]=>[(k,v)]
 |p::r=>if p.1=k then(k,v)::r else p::dput r k v
noncomputable def a9(e:E)(r:aE):Option Bool:=(ev F e r).bind λx=>if x.plain=true then ab x.truth else ae
noncomputable def VP(o:iG):T->Bool
 |.int _=>match o with
  |.add|.sub|.mul|.shl|.shr=>true
  |_=>false
 |.str _=>match o with
  |.add=>true
  |_=>false
 |_=>false
noncomputable def oR(o:iG)(x y:T):Option T:=if VP o x=true then a8 o x y else ae
noncomputable def pF(r:aE):List (Option E)->Option (List T)
 |[]=>ab []
 |o::l=>(o.elim (ab (.lst [])) λe=>ev F e r).bind λt=>(pF r l).map (t::·)
noncomputable def lX(l:List T):List T:=(l.zip (bf l.length)).map λp=>.tup [.int (p.2:Nat),p.1]
noncomputable def mP(go:aE->Option (Fl×aE))(p:Fl×aE):Option (Fl×aE):=match p.1 with
 |.next=>go p.2
 |_=>ab p
noncomputable def cb(r:aE):Option (Fl×aE):=ab (.next,r)
noncomputable def ex:S->aE->Option (Fl×aE)
 |.asg k e,r=>(ev F e r).bind λt=>cb (put r k t)
 |.own k e,r=>(ev F e r).bind λt=>if t.obj=true then cb (put r k t)else ae
 |.fA ks e,r=>(ev F e r).bind (bH λl=>(putAll r ks l).bind cb)
 |.fP ks es,r=>(pF F r es).bind λl=>if l.length<=lim then(putAll r ks l).bind cb else ae
 |.pE ks e,r=>(ev F e r).bind λt=>(putAll r ks (ks.map λw=>t)).bind cb
 |.nest ts e,r=>(ev F e r).bind (bH λl=>(qZ ts l).bind λxs=>(putAll r (ts.flatMap Tg.ks) xs).bind cb)
 |.move k j,r=>(get r j).bind λt=>cb ((put r k t).set j ae)
 |.aug k o e,r=>(get r k).bind λx=>(ev F e r).bind λy=>(oR o x y).bind λz=>cb (put r k z)
 |.app k e,r=>(get r k).bind (cH λl=>(ev F e r).bind λy=>if l.length+1<=lim then cb (put r k (.lst (l++[y])))else ae)
 |.ext k e,r=>(get r k).bind (cH λl=>(ev F e r).bind (cH λm=>if l.length+m.length<=lim then cb (put r k (.lst (l++m)))else ae))
 |.rev k,r=>(get r k).bind (cH λl=>cb (put r k (.lst l.reverse)))
 |.yA k i e,r=>(get r k).bind (cH λl=>(ev F e r).bind λy=>(ev F i r).bind (bp λj=>if 0<=j/\j<l.length then cb (put r k (.lst (l.set j.toNat y)))else ae))
 |.oQ k i o e,r=>(get r k).bind (cH λl=>(ev F i r).bind (bp λj=>if 0<=j/\j<l.length then(l[j.toNat]?).bind λx=>(ev F e r).bind λy=>(oR o x y).bind λz=>cb (put r k (.lst (l.set j.toNat z)))else ae))
 |.tQ k i e,r=>(get r k).bind (vH λl=>(ev F e r).bind (bp λy=>(ev F i r).bind (cG λs=>if l.length+1<=lim/\s.length<=lim then cb (put r k (.aY (dput l s y)))else ae)))
 |.bN c a b,r=>(a9 F c r).bind λt=>if t=true then ex a r else ex b r
 |.skip,r=>cb r
 |.seq a b,r=>(ex a r).bind (mP (ex b))
 |.gh _ a,r=>ex a r
 |.eV k src body,r=>(ev F src r).bind λx=>(eZ x).bind λl=>b6 (λy r'=>(ab (put r' k y)).bind (ex body)) l r
 |.hY ks src body,r=>(ev F src r).bind λx=>(eZ x).bind λl=>b6 (λy r'=>(bH (putAll r' ks) y).bind (ex body)) l r
 |.lU ks src body,r=>(ev F src r).bind λx=>(qU x).bind λl=>b6 (λy r'=>(bH (putAll r' ks) y).bind (ex body)) (lX l) r
 |.wh n c body,r=>nO (a9 F c) (ex body) n r
 |.ret _ e,r=>(ev F e r).bind λt=>ab (.ret t,r)
 |.brk,r=>ab (.brk,r)
 |.dead,_=>ae
end
end Mine
end
end
namespace Mine
section
variable{X:Kx}{N:Addr->Prop}{s:az}{A:aM}{E:ay->az->Prop}
def Res(X:Kx)(N:Addr->Prop)(s:az)(t:T)(y:ay)(s':az):Prop:=Kp X s s'/\VR X N s'.heap t y
def mQ(X:Kx)(N:Addr->Prop)(s:az)(t:T)(y:ay)(s':az):Prop:=Kp X s s'/\VR X N s'.heap t y/\∃a,y=.ref a/\s.heap.objs.size<=a/\(t.obj=true->VB X (λb=>N b∨b=a) s'.heap t y)
def mQ.res{t:T}{y:ay}{s':az}(x:mQ X N s t y s'):Res X N s t y s':=⟨x.1,x.2.1⟩
def dS{n:Nat}(h:n<=lim):n<=ph:=aD h (by decide)
def kH{n:Nat}(h:n<=lim):(n:Int)<2^63:=Tp (dh.mpr h) (by decide)
def vM{i:Int}{t:Tok}{tk:Nat}:Res X N s (.int i) (.int i t) {s with toks:=tk}:=⟨Kp.tok,.int i t⟩
def El{x:Str}{t:Tok}{tk:Nat}(h:x.length<=lim):Res X N s (.str x) (.str x t) {s with toks:=tk}:=⟨Kp.tok,.str x t h⟩
def yB(n:NG X N s.heap):¬N s.heap.objs.size:=λq=>fN _ (n.lt _ q)
def q7{vs:List ay}{ts:List T}{tk:Nat}(n:NG X N s.heap)(hs:aL X N s.heap ts vs)(hz:ts.length<=lim){e:Nat}:
  mQ X N s (.lst ts) (.ref s.heap.objs.size) {s with heap:=s.heap.push {cls:=.type "list",data:=.seq vs.toArray e},toks:=tk}:=
 ⟨Kp.push,.lst ⟨e,cD _ rfl⟩ (yB n) hz (hs.kp n (Kp.push (tk:=tk))),_,rfl,bj _,λz=>.lst ⟨e,cD _ rfl⟩ hz
  (hs.move (N':=λb=>N b∨b=s.heap.objs.size) (λb q=>q.imp id λe=>bO e.symm) λb o z e=>cS _ e)⟩
def Lc{vs:List ay}{ts:List T}{tk:Nat}(n:NG X N s.heap)(hs:aL X N s.heap ts vs)(hz:ts.length<=lim){e:Nat}:
  mQ X N s (.tup ts) (.ref s.heap.objs.size) {s with heap:=s.heap.push {cls:=.type "tuple",data:=.seq vs.toArray e},toks:=tk}:=
 ⟨Kp.push,.tup ⟨e,cD _ rfl⟩ (yB n) hz (hs.kp n (Kp.push (tk:=tk))),_,rfl,bj _,nofun⟩
def mulOk_of{a b:Int}(h:(bc a:Int)+bc b<=1000000):IntMulOk a b:=λq=>by
 have q:=aq (ik.mp q).2
 exact aj (dn h (by decide)) (Jy.mpr q)
noncomputable def iG.py:iG->Tq
 |.add=>.Add|.sub=>.Sub|.mul=>.Mult|.fdiv=>.FloorDiv|.mod=>.Mod|.pow=>.Pow
 |.shl=>.LShift|.shr=>.RShift|.band=>.BitAnd|.bor=>.BitOr|.bxor=>.BitXor
def VQ{c:Array Nat}:∀(k:Nat)(acc:Array Nat),((bZ k c).foldl (· ++·) acc).toList=acc.toList++(bZ k c.toList).flatten:=by
 intro k
 induction k with
 |zero=>exactλacc=>(kq _).symm
 |succ k ih=>
  intro acc
  rw[Tr,al6,ih,Tr,al7,Ts,fk]
theorem Ld:∀k:Nat,(bZ k ([]:List Nat)).flatten=[]
 |0=>rfl
 |k+1=>Ld k
def VS(x:Str)(n:Int)(hn:0<=n):Txt.mul x n=yp x n.toNat:=by
 obtain⟨c⟩:=x
 unfold Txt.mul yp
 split
 ·rename_i h
  rw[show n.toNat=0 from Int.toNat_eq_zero.mpr (Int.le_of_lt_add_one h)];rfl
 ·split
  ·rename_i h
   rcases Jz.mp h with h|h
   ·rw[show n=1 from ao h];exact af AO (Tt (by simp))
   ·have h0:c.size=0:=ao h
    have:c= #[]:=Array.eq_empty_of_size_eq_zero h0
    rw[this];exact af AO (Tt (Ld _).symm)
  ·exact af AO (Tt (by rw[VQ];rfl))
def VT(x:Str)(n:Nat):(yp x n).length=n*x.length:=by
 show(oD _).size=_
 rw[bU,al9,ama,amb];rfl
def lY(X:Kx)(N:Addr->Prop)(s:az)(t:T)(y:ay)(s':az):Prop:=Res X N s t y s'/\((∃l,t=.lst l)->∃a,y=.ref a/\s.heap.objs.size<=a/\VB X (λb=>N b∨b=a) s'.heap t y)
def lY.of{t:T}{y:ay}{s':az}(x:Res X N s t y s')(h:t.obj=false):lY X N s t y s':=⟨x,λ⟨_,e⟩=>by subst e;cases h⟩
def lY.new{t:T}{y:ay}{s':az}(x:mQ X N s t y s'):lY X N s t y s':=⟨x.res,λq=>x.2.2.elim λa z=>⟨a,z.1,z.2.1,z.2.2 (q.elim λl e=>by rw[e];rfl)⟩⟩
theorem Le{ts:List T}{vs:List ay}{h:Heap}(hs:aL X N h ts vs):∀k:Nat,aL X N h (bZ k ts).flatten (bZ k vs).flatten
 |0=>.nil
 |k+1=>hs.app (Le hs k)
def aN{α:Type}{z:α}{P:Prop}(h:ae=ab z):P:=nomatch h
def ifs{α:Type}{p:Prop}[Decidable p]{a t:α}{P:Prop}(h:(if p then ab a else ae)=ab t)(k:p->a=t->P):P:=by
 by_cases q:p
 ·exact k q (Option.some.inj ((ah q).symm.trans h))
 ·exact aN ((ai q).symm.trans h)
def gi{α:Type}{p:Prop}[Decidable p]{o:Option α}{t:α}{P:Prop}(h:(if p then o else ae)=ab t)(k:p->o=ab t->P):P:=by
 by_cases q:p
 ·exact k q ((ah q).symm.trans h)
 ·exact aN ((ai q).symm.trans h)
def aO{α β:Type}{o:Option α}{f:α->Option β}{y:β}{P:Prop}(e:o.bind f=ab y)(k:∀x,o=ab x->f x=ab y->P):P:=by
 cases o with
 |none=>exact aN e
 |some x=>exact k x rfl e
def map_some{α β:Type}{o:Option α}{f:α->β}{y:β}{P:Prop}(e:o.map f=ab y)(k:∀x,o=ab x->f x=y->P):P:=by
 cases o with
 |none=>exact aN e
 |some x=>exact k x rfl (Option.some.inj e)
section
variable{α:Type}{t:T}{z:α}{h:Heap}{v:ay}{vs:List ay}{P:Prop}{R:ay->Prop}{U:List ay->Prop}
def fb{f:Int->Option α}(e:bp f t=ab z)(k:∀i,t=.int i->f i=ab z->P):P:=by cases t with|int i=>exact k i rfl e|_=>exact aN e
def hZ{f:Str->Option α}(e:cG f t=ab z)(k:∀i,t=.str i->f i=ab z->P):P:=by cases t with|str i=>exact k i rfl e|_=>exact aN e
def kJ{f:List T->Option α}(e:bH f t=ab z)(k:∀i,t=.tup i->f i=ab z->P):P:=by cases t with|tup i=>exact k i rfl e|_=>exact aN e
def eW{f:List T->Option α}(e:cH f t=ab z)(k:∀i,t=.lst i->f i=ab z->P):P:=by cases t with|lst i=>exact k i rfl e|_=>exact aN e
def Bz{f:List (Str×Int)->Option α}(e:vH f t=ab z)(k:∀i,t=.aY i->f i=ab z->P):P:=by cases t with|aY i=>exact k i rfl e|_=>exact aN e
@[elab_as_elim] theorem VB.bp {f:Int->Option α} (hv:VB X N h t v) (e:bp f t=ab z) (k:∀i u,f i=ab z->R (.int i u)):R v:=fb e λi q e=>VB.eR (P:=R) (q▸hv) λu=>k i u e
@[elab_as_elim] theorem VB.cG {f:Str->Option α} (hv:VB X N h t v) (e:cG f t=ab z) (k:∀i u,i.length<=lim->f i=ab z->R (.str i u)):R v:=hZ e λi q e=>VB.c6 (P:=R) (q▸hv) λu l=>k i u l e
@[elab_as_elim] theorem VB.cH {f:List T->Option α} (hv:VB X N h t v) (e:cH f t=ab z) (k:∀l a vs,f l=ab z->h.PlainList a vs.toArray->l.length<=lim->aL X N h l vs->R (.ref a)):R v:=eW e λi q e=>VB.list (P:=R) (q▸hv) λa vs h1 h2 h3=>k i a vs e h1 h2 h3
def Lf{f:Option α}{l:List T}(e:a0 f l=ab z)(k:l=[]->f=ab z->P):P:=by cases l with|nil=>exact k rfl e|cons=>exact aN e
def tR{f:T->Option α}{l:List T}(e:a1 f l=ab z)(k:∀x,l=[x]->f x=ab z->P):P:=by
 cases l with
 |nil=>exact aN e
 |cons x l=>cases l with|nil=>exact k x rfl e|cons=>exact aN e
def rb{f:T->T->Option α}{l:List T}(e:a2 f l=ab z)(k:∀x y,l=[x,y]->f x y=ab z->P):P:=by
 cases l with
 |nil=>exact aN e
 |cons x l=>cases l with
  |nil=>exact aN e
  |cons y l=>cases l with|nil=>exact k x y rfl e|cons=>exact aN e
@[elab_as_elim] theorem aL.oS {f:T->Option α} {l:List T} (hv:aL X N h l vs) (e:a1 f l=ab z) (k:∀x v,VR X N h x v->f x=ab z->U [v]):U vs:=tR e λx q e=>aL.oO (P:=U) (q▸hv) λv a=>k x v a e
@[elab_as_elim] theorem aL.BA {f:T->T->Option α} {l:List T} (hv:aL X N h l vs) (e:a2 f l=ab z) (k:∀x y v w,VR X N h x v->VR X N h y w->f x y=ab z->U [v,w]):U vs:=rb e λx y q e=>aL.Ei (P:=U) (q▸hv) λv w a b=>k x y v w a b e
end
def Lg(a:Nat){k:Nat}(h:(a+1)*k<=lim):a*k<=lim/\k<=lim:=by
 rw[nB]at h
 exact⟨aD (bX _ _) h,aD (jP _ _) h⟩
variable{z:T}{Q:ay->az->Prop}
def pG{o:Tq}{f:Int->Int->Option T}{x y:T}{v u:ay}(h:i2 f x y=ab z)(hv:VB X N s.heap x v)(hu:VB X N s.heap y u)
  (k:∀a b t t',f a b=ab z->aA (model X.prog X.w) A (xB o (.int a t) (.int b t')) (lY X N s z) E s):aA (model X.prog X.w) A (xB o v u) (lY X N s z) E s:=
 hv.bp h λa t h=>hu.bp h λb t' e=>k a b t t' e
def rI{i:Int}(h:(.int i:T)=z)(t:Tok)(tk:Nat):lY X N s z (.int i t) {s with toks:=tk}:=h▸.of vM rfl
def VU{x y:T}{v u:ay}(h:tO x y=ab z)(hv:VB X N s.heap x v)(hu:VB X N s.heap y u)(n:NG X N s.heap):
  aA (model X.prog X.w) A (xB .Add v u) (lY X N s z) E s:=by
 cases x with
 |int a=>exact hv.eR λt=>hu.bp h λb t' e=>aq4 (rI (Option.some.inj e) _ _)
 |str x=>exact hv.c6 λt l1=>hu.cG h λy t' l2 e=>ifs e λhz e=>e▸aq5 (hsz:=dS hz) λt' tk=>.of (El (by rw[sQ];exact hz)) rfl
 |lst x=>
  refine hv.list λa vs hl z1 r1=>hu.cH h λy b ws e hm z2 r2=>hl.elim λn1 e1=>hm.elim λn2 e2=>ifs e λhz e=>e▸?_
  refine P.add_list e1 e2 (hsz:=by rw[bU,bU,r1.length,r2.length];exact dS hz) ?_
  rw[show vs.toArray++ws.toArray=(vs++ws).toArray from JA ..]
  exact .new (q7 n (r1.app r2) (by rw[bQ];exact hz))
 |_=>exact aN h
def mul_str{q:Str}{k:Int}{t t':Tok}(hz:0<=k/\(q.length+1)*k.toNat<=lim):aA (model X.prog X.w) A (xB .Mult (.str q t) (.int k t')) (lY X N s (.str (yp q k.toNat))) E s:=by
 have hm:=Lg _ hz.2
 have tS:k<2^63:=by
  have:=kH hm.2
  rw[AP hz.1]at this;exact this
 refine SB.mul ⟨?_,?_,?_⟩ λt' tk=>?_
 ·exact sR.mpr ⟨av (lA.mpr (dn (by decide) hz.1)),av (lA.mpr (JB tS))⟩
 ·intro h1 _ h2
  have h3:(q.length:Int)*k<2^63:=by
   have:=kH hm.1
   rw[Dt,AP hz.1]at this;exact this
  exact aj (AQ ((Int.ediv_lt_iff_lt_mul (AQ Int.zero_lt_one (lA.mp h1))).mp h2) (JB h3)) (Tu _)
 ·intro _ _
  exact av (fL.mpr (dS hm.1))
 ·rw[VS _ _ hz.1]
  exact .of (El (by rw[VT,g6];exact hm.1)) rfl
def mul_list{l:List T}{k:Int}{a:Addr}{vs:List ay}{t':Tok}(hz:0<=k/\(l.length+1)*k.toNat<=lim)(hl:s.heap.PlainList a vs.toArray)(r1:aL X N s.heap l vs)(n:NG X N s.heap):
  aA (model X.prog X.w) A (xB .Mult (.ref a) (.int k t')) (lY X N s (.lst (bZ k.toNat l).flatten)) E s:=by
 have hm:=Lg _ hz.2
 refine hl.elim λn1 e1=>?_
 have Lh:vs.toArray.size*k.toNat<=lim:=by rw[bU,r1.length];exact hm.1
 have nP:¬Tv (vs.toArray.size*k.toNat)=true:=λq=>aj (dS Lh) (xC.mpr (aq q))
 have hk:k<2^63:=by
  have:=kH hm.2
  rw[AP hz.1]at this;exact this
 refine wpAny_binaryOp_repeat_ref (T:="list") (U:="int") (by decide) ⟨_,e1,rfl⟩ (λs'=>JC s' k t') noFill_list_mul F.fills_int_mul amc repeat_list F.slot_int_index.lookup
  (sS amc (JC s k t') F.entry_int_rmul (F.args_int_rmul_2 _ _) (lm_int_rmul_list_any k t' a vs.toArray n1 ae #[])
   ⟨e1,rfl,⟨_,e1,rfl⟩,sS F.slot_list_mul ⟨_,e1,rfl⟩ F.entry_list_mul (F.args_list_mul_2 _ _)
    (lm_list_mul_any a vs.toArray n1 ae #[] k t' (λq=>by rw[show arp k=true from ik.mpr ⟨ar (dn (by decide) hz.1),ar hk⟩]at q;exact aj q bT) (fL.mpr (aD Lh (by decide))) nP)
    ⟨e1,?_⟩⟩)
 rw[listMul_foldl_if]
 exact .new (q7 n (Le r1 _) (by rw[al9,ama,amb,g6];exact hm.1))
def VV{x y:T}{v u:ay}(h:KY x y=ab z)(hv:VB X N s.heap x v)(hu:VB X N s.heap y u)(n:NG X N s.heap):
  aA (model X.prog X.w) A (xB .Mult v u) (lY X N s z) E s:=by
 cases x with
 |int a=>exact hv.eR λt=>hu.bp h λb t' e=>ifs e λhz e=>ars (rI e _ _) (mulOk_of hz)
 |str x=>exact hv.c6 λt l1=>hu.bp h λk t' e=>ifs e λhz e=>e▸mul_str hz
 |lst x=>exact hv.list λa vs hl z1 r1=>hu.bp h λk t' e=>ifs e λhz e=>e▸mul_list hz hl r1 n
 |_=>exact aN h
def BB{o:iG}{x y:T}{v u:ay}(h:a8 o x y=ab z)(hv:VB X N s.heap x v)(hu:VB X N s.heap y u)(n:NG X N s.heap):
  aA (model X.prog X.w) A (xB o.py v u) (lY X N s z) E s:=by
 cases o with
 |add=>exact VU h hv hu n
 |mul=>exact VV h hv hu n
 |sub=>exact pG h hv hu λa b t t' e=>art (rI (Option.some.inj e) _ _)
 |fdiv=>exact pG h hv hu λa b t t' e=>ifs e λhz e=>aru hz.1 (rI e _ _) (.inl hz.2)
 |mod=>exact pG h hv hu λa b t t' e=>ifs e λhz e=>arv hz (rI e _ _)
 |pow=>exact pG h hv hu λa b t t' e=>ifs e λhz e=>arw hz.1 (dn hz.2 (by decide)) (rI e _ _)
 |shl=>exact pG h hv hu λa b t t' e=>ifs e λhz e=>arx hz.1 (dn hz.2 (by decide)) (rI e _ _)
 |shr=>exact pG h hv hu λa b t t' e=>ifs e λhz e=>ary hz (rI e _ _)
 |band=>exact pG h hv hu λa b t t' e=>arz (rI (Option.some.inj e) _ _)
 |bor=>exact pG h hv hu λa b t t' e=>arA (rI (Option.some.inj e) _ _)
 |bxor=>exact pG h hv hu λa b t t' e=>arB (rI (Option.some.inj e) _ _)
end
section
variable{X:Kx}{N:Addr->Prop}{h:Heap}
def Li(h:Heap)(v:ay)(d:Jv):Prop:=∃as,Reads h v d as
def VR.Em{t:T}{v:ay}(x:VR X N h t v):∀d,t.py=ab d->Li h v d:=
 VR.rec (motive_1:=λt v z=>∀d,t.py=ab d->Li h v d) (motive_2:=λts vs z=>∀ds,T.pB ts=ab ds->∃as,ReadsAll h vs ds as)
  (λd e=>Option.some.inj (show ab Jv.none=ab d from e)▸⟨_,.none⟩) (λb d e=>Option.some.inj e▸⟨_,.bool b⟩) (λi t d e=>Option.some.inj e▸⟨_,.int i t⟩) (λx t z d e=>Option.some.inj e▸⟨_,.str x t⟩)
  (λho z z z ih d e=>map_some e λds e1 e2=>e2▸(ih ds e1).elim λas r=>ho.elim λn e=>⟨_,.tuple e rfl rfl (by rw[JE];exact r)⟩)
  (λho z z z ih d e=>map_some e λds e1 e2=>e2▸(ih ds e1).elim λas r=>ho.elim λn e=>⟨_,.list e rfl rfl (by rw[JE];exact r)⟩)
  (λz z z z z z d e=>aN e) (λz z z z z z z d e=>aN e) (λz z z z z z z z z z z z z z z z z z d e=>aN e) (λa d e=>aN e)
  (λd e=>Option.some.inj e▸⟨_,.nil⟩)
  (λz z i1 i2 d e=>aO e λa q1 e=>aO e λb q2 e=>Option.some.inj e▸(i1 a q1).elim λas r1=>(i2 b q2).elim λbs r2=>⟨_,.cons r1 r2⟩) x
def VB.reads{t:T}{v:ay}{d:Jv}(x:VB X N h t v)(e:t.py=ab d):∃as,Reads h v d as:=by
 cases x with
 |of x=>exact x.Em d e
 |lst ho hz hs=>exact(VR.lst (N:=λz=>False) ho id hz (hs.mono λz=>False.elim)).Em d e
 |aY=>exact aN e
noncomputable def qS.py:qS->Du
 |.eq=>.Eq|.ne=>.NotEq|.lt=>.Lt|.le=>.LtE|.gt=>.Gt|.ge=>.GtE
end
section
variable{X:Kx}{N:Addr->Prop}{s:az}{A:aM}{E:ay->az->Prop}{x y z:T}{v u:ay}{Q:ay->az->Prop}
def Lj{p:Str×Int}{aZ:List (Str×ay)}(h:jO DK [p] aZ):∃t,aZ=[(p.1,.int p.2 t)]:=by
 cases h with
 | @cons _ kv _ _ f1 f2=>
  cases f2
  exact f1.2.2.elim λt e=>⟨t,by rw[f1.1,<-e]⟩
def VW{p q:Str×Int}{t u:Tok}:KeqHits A.in1 s [(q.1,.int q.2 u)] [(p.1,.int p.2 t)] (p.1==q.1&&p.2==q.2):=by
 cases h:p.1==q.1 with
 |true=>
  rw[show(true&&p.2==q.2)=((p.2==q.2)&&true)by rw[Bool.and_comm],ao h]
  exact .hit (y:=.int q.2 u) (by simp [Dv]) (SeqAt.EqAt.int_int _ _ _ _) .nil
 |false=>exact .miss (by simp [Dv,Ne.symm (beq_eq_false_iff_ne.mp h)])
def VX{l m:List (Str×Int)}{aZ nQ:List (Str×ay)}{r:Bool}(e:yq (.aY l) (.aY m)=ab r)(h1:jO DK l aZ)(h2:jO DK m nQ):aZ.length=1/\nQ.length=1/\KeqHits A.in1 s nQ aZ r:=by
 cases l with
 |nil=>exact aN e
 |cons p l=>cases l with
  |cons=>cases m<;>exact aN e
  |nil=>cases m with
   |nil=>exact aN e
   |cons q m=>cases m with
    |cons=>exact aN e
    |nil=>exact(Lj h1).elim λt e1=>(Lj h2).elim λu e2=>by rw[e1,e2];exact⟨rfl,rfl,Option.some.inj e▸VW⟩
def Lk{o:Du}{b:Bool}(h:eqT x y=ab b)(hv:VB X N s.heap x v)(hu:VB X N s.heap y u)
  (ki:∀i j t t',b=(i==j)->aA (model X.prog X.w) A (qu o (.int i t) (.int j t')) Q E s)
  (ks:∀i j t t',b=(i==j)->aA (model X.prog X.w) A (qu o (.str i t) (.str j t')) Q E s)
  (kd:∀a c aZ nQ,(a==qq)=false->(c==qq)=false->s.heap.DictOf (strKind X.prog X.w) a aZ->s.heap.DictOf (strKind X.prog X.w) c nQ->aZ.length=1->nQ.length=1->KeqHits A.in1 s nQ aZ b->aA (model X.prog X.w) A (qu o (.ref a) (.ref c)) Q E s)
  (kg:∀d d' as En,b=Jw d d'->sP d=true->sP d'=true->Reads s.heap v d as->Reads s.heap u d' En->aA (model X.prog X.w) A (qu o v u) Q E s):
  aA (model X.prog X.w) A (qu o v u) Q E s:=by
 cases e:yq x y with
 |none=>
  have h:KZ x y=ab b:=by rw[<-h,eqT,e];rfl
  exact aO h λa e1 h=>aO h λc e2 h=>ifs h λhs e=>(hv.reads e1).elim λas r1=>(hu.reads e2).elim λbs r2=>kg _ _ _ _ e.symm hs.1 hs.2 r1 r2
 |some r=>
  have h:r=b:=by rw[eqT,e]at h;exact Option.some.inj h
  subst h
  clear kg
  cases x with
  |int=>exact hv.eR λt=>hu.bp e λz t' e=>ki _ _ _ _ (Option.some.inj e).symm
  |str=>exact hv.c6 λt z=>hu.cG e λz t' z e=>ks _ _ _ _ (Option.some.inj e).symm
  |aY l=>
   refine Bz e λm q z=>?_
   subst q
   refine hv.dict λa o aZ ho hd z hq hs=>hu.dict λc o' nQ VY oT z VZ cj=>?_
   have H:=VX (A:=A) (s:=s) e hs cj
   exact kd a c aZ nQ hq VZ (sT.mpr ⟨o,ho,hd⟩) (sT.mpr ⟨o',VY,oT⟩) H.1 H.2.1 H.2.2
  |_=>exact aN e
def BC{f:Int->Int->Bool}{b:Bool}(h:i2 (λa b=>ab (f a b)) x y=ab b)(hv:VB X N s.heap x v)(hu:VB X N s.heap y u){o:Du}(q:Q (.bool b) s)
  (k:∀i j t t',Q (.bool (f i j)) s->aA (model X.prog X.w) A (qu o (.int i t) (.int j t')) Q E s):aA (model X.prog X.w) A (qu o v u) Q E s:=
 hv.bp h λi t h=>hu.bp h λj t' e=>k _ _ _ _ (by rw[Option.some.inj e];exact q)
def un{n m:Nat}(h:A.units+m<Dm)(q:n<=m:=by decide):A.units+n<Dm:=bI (f6 q _) h
def V0{o:qS}{b:Bool}(h:qT o x y=ab b)(hv:VB X N s.heap x v)(hu:VB X N s.heap y u)(hc:A.units+64<Dm)(q:Q (.bool b) s):
  aA (model X.prog X.w) A (qu o.py v u) Q E s:=by
 cases o with
 |eq=>
  exact Lk (o:=.Eq) h hv hu (λi j t t' e=>P.eq_int (e▸q)) (λi j t t' e=>arG (e▸q))
   (λa c aZ nQ q1 q2 d1 d2 l1 l2 hh=>PySem.W.keq_eq q1 q2 d1 d2 (bI (bX _ _) hc) (λr=>hh) (by rw[l1,l2];exact q)) λd d' as En e s1 s2 r1 r2=>eq_dataH r1 r2 s1 s2 hc (e▸q)
 |ne=>
  exact map_some (show(eqT x y).map not=ab b from h) λc h e=>Lk (o:=.NotEq) h hv hu (λi j t t' z=>P.ne_int (by rw[z]at e;rw[<-e]at q;exact q)) (λi j t t' z=>P.ne_str (by rw[ne_meets];rw[z]at e;rw[<-e]at q;exact q))
   (λa c aZ nQ q1 q2 d1 d2 l1 l2 hh=>PySem.W.keq_ne q1 q2 d1 d2 (bI (bX _ _) hc) (λr=>hh) (by rw[l1,l2];exact e▸q)) λd d' as En z s1 s2 r1 r2=>ne_dataH r1 r2 s1 s2 hc (by rw[z]at e;rw[<-e]at q;exact q)
 |lt=>exact BC (f:=λa b=>decide (a<b)) (o:=.Lt) h hv hu q λi j t t' q=>P.lt_int q
 |le=>exact BC (f:=λa b=>decide (a<=b)) (o:=.LtE) h hv hu q λi j t t' q=>P.le_int q
 |gt=>exact BC (f:=λa b=>decide (a>b)) (o:=.Gt) h hv hu q λi j t t' q=>P.gt_int q
 |ge=>exact BC (f:=λa b=>decide (a≥b)) (o:=.GtE) h hv hu q λi j t t' q=>P.ge_int q
def BD{x:T}{v:ay}{Q:Bool->az->Prop}(h:x.plain=true)(hv:VB X N s.heap x v)(q:∀s',Kp X s s'->Q x.truth s'):
  aA (model X.prog X.w) A (truthy v) Q E s:=by
 cases x with
 |none=>rw[show v=.none from(hv.vr rfl).inv];exact aQ (q s (.refl s))
 |bool b=>rw[show v=.bool b from(hv.vr rfl).inv];exact aQ (q s (.refl s))
 |int i=>exact hv.eR λt=>P.truthy_int (q s (.refl s))
 |str x=>
  refine hv.c6 λt hz=>P.truthy_str (Jy.mpr (kH hz)) ?_
  rw[show((x.length:Int) !=0)=(T.str x).truth by show _=(x.length !=0);rw[xD];simp]
  exact q _ Kp.tok
 |lst l=>
  refine hv.list λa vs hl hz r=>wpAny_truthy_list hl.isList (by rw[bU,r.length];exact kH hz) ?_
  rw[show(!vs.toArray.isEmpty)=(T.lst l).truth by
   show _=(!l.isEmpty)
   rw[List.isEmpty_toArray]
   cases r<;>rfl]
  exact q _ Kp.tok
 |_=>exact aj h bT
def Ll{i:Int}{n j:Nat}(h:f9 i n=ab j):(0<=i/\i<n/\j=i.toNat)∨(i<0/\ -(n:Int)<=i/\j=(i+n).toNat):=by
 unfold f9 at h
 by_cases h0:i<0
 ·simp only[h0,if_true]at h
  exact ifs h λh1 e=>.inr ⟨h0,Int.le_of_sub_nonneg (by rw[Int.sub_neg];exact aq (ik.mp h1).1),e.symm⟩
 ·simp only[h0,if_false]at h
  exact ifs h λh1 e=>have h1:=ik.mp h1;.inl ⟨aq h1.1,aq h1.2,e.symm⟩
def V1{i:Int}{n j:Nat}(h:f9 i n=ab j): -(n:Int)<=i/\i<n:=
 (Ll h).elim (λq=>⟨dn (Int.neg_nonpos_of_nonneg (cy _)) q.1,q.2.1⟩) λq=>⟨q.2.1,AQ q.1 (cy _)⟩
def Eo{i:Int}{n j:Nat}(h:f9 i n=ab j)(hz:n<=lim): -2^63<=i/\i<2^63:=by
 have b:=V1 h
 exact⟨dn (Int.neg_le_neg (AR (kH hz))) b.1,ame b.2 (kH hz)⟩
def Lm{l:List T}{vs:List ay}{i:Int}(h:(f9 i l.length).bind (l[·]?)=ab z)(r:aL X N s.heap l vs){P:Prop}(k:∀j w,f9 i l.length=ab j->vs[j]?=ab w->VR X N s.heap z w->P):P:=
 aO h λj e1 e2=>(r.get e2).elim λw q=>k j w e1 q.1 q.2
def Ln(h:kC x y=ab z)(hv:VB X N s.heap x v)(hu:VB X N s.heap y u)
  (q:∀s' r,Kp X s s'->VR X N s'.heap z r->Q r s') (kd:∀l k d t o aZ i,s.heap.get? d=ab o->o.IsDictOf (strKind X.prog X.w) aZ->jO DK l aZ->l.lookup k=ab i->(∀u s',Kp X s s'->Q (.int i u) s')->aA (model X.prog X.w) A (xE (.ref d) (.str k t)) Q E s):
  aA (model X.prog X.w) A (xE v u) Q E s:=by
 cases x with
 |lst l=>
  refine hu.bp h λi t' h=>hv.list λa vs hl hz r=>Lm h r λj w e1 e3 e4=>?_
  have b:=Eo e1 hz
  have e5:vs.toArray[j]?=ab w:=by rw[vf];exact e3
  rcases Ll e1 with⟨h0,h1,rfl⟩|⟨h0,h1,rfl⟩
  ·exact wpAny_getItem_list hl.isList h0 b.2 e5 (q s _ (.refl s) e4)
  ·rw[<-r.length,<-bU]at h1 e5
   exact wpAny_getItem_list_neg hl.isList h0 h1 b.1 e5 (q s _ (.refl s) e4)
 |tup l=>
  refine hu.bp h λi t' h=>hv.KW λa vs ho hz r=>Lm h r λj w e1 e3 e4=>?_
  have b:=Eo e1 hz
  exact ar2 ho.isTup b.1 b.2 (by rw[bU,r.length];exact e1) (by rw[vf];exact e3) (q s _ (.refl s) e4)
 |str x=>
  refine hu.bp h λi t' h=>hv.c6 λt hz=>map_some h λc e1 e=>?_
  refine aO (show(f9 i x.cps.size).bind _=ab c from e1) λj e3 p=>?_
  have b:=Eo e3 hz
  exact P.getItem_str (c:=c) (sR.mpr ⟨av (lA.mpr b.1),av (lA.mpr (JB b.2))⟩) e1 (q _ _ Kp.tok (e▸.str _ _ (by show 1<=lim;decide)))
 |aY l=>exact hu.cG h λk t p h=>map_some h λi e1 e=>hv.dict λa o aZ ho hd p p hs=>kd l k a t o aZ i ho hd hs e1 λu s' kp=>q s' _ kp (e▸.int i u)
 |_=>exact aN h
def V2{b:Bool}(h:La x y=ab b)(hv:VB X N s.heap x v)(hu:VB X N s.heap y u)(hc:A.units+200<Dm)(q:Q (.bool b) s):
  aA (model X.prog X.w) A (qu .In v u) Q E s:=by
 cases y with
 |str y=>exact hv.cG h λx t z h=>hu.c6 λt' z=>SB.contains (Option.some.inj h▸q)
 |lst l=>
  refine aO h λa e1 h=>aO h λys e2 h=>ifs h λhs e=>(hv.reads e1).elim λas r1=>(hu.reads (d:=.list ys) (af (amf _) e2)).elim λbs r2=>?_
  exact SeqAt.in_list_reads r2 r1 (by simpa [Jv.canLay0] using amg hs.2) (amg hs.1)
   (bI (f6 (aD (amh _ _) (SeqAt.depth_of_shaped hs.1)) _) (un hc)) (e▸q)
 |_=>exact aN h
end
def rg(h:Heap)(o:Obj):h.objs.size<=(h.push o).objs.size:=by rw[fh];exact gy _
def BE(h:Heap)(o:Obj):h.objs.size<(h.push o).objs.size:=by rw[fh];exact il _
section
variable{X:Kx}{N:Addr->Prop}{s s':az}{M:mz}{A:aM}{E:ay->az->Prop}
def Mv.wr{h':Heap}{tk:Nat}{wr:Addr->Prop}(c:∀b,wr b->∃o,s.heap.get? b=ab o/\¬iB o)
  (k:∀b o,¬wr b->s.heap.get? b=ab o->h'.get? b=ab o) (z:s.heap.objs.size<=h'.objs.size):Mv X wr s {s with heap:=h',toks:=tk}:=
 have kt:∀b o,iB o->s.heap.get? b=ab o->h'.get? b=ab o:=λb o t e=>k b o (λq=>(c b q).elim λo' z=>z.2 (Option.some.inj (z.1.symm.trans e)▸t)) e
 ⟨λb o m y e=>k b o m e,z,yn kt,rfl,.refl _,λb o c=>kt b o (Ee c)⟩
def Mv.put{h':Heap}{tk:Nat}{a:Addr}{o:Obj}(e:s.heap.get? a=ab o)(hc:¬iB o)
  (k:∀b o,b≠a->s.heap.get? b=ab o->h'.get? b=ab o) (z:s.heap.objs.size<=h'.objs.size):Mv X (λb=>b=a) s {s with heap:=h',toks:=tk}:=
 Mv.wr (λb q=>⟨o,q▸e,hc⟩) k z
structure It(X:Kx)(N:Addr->Prop)(h₂:Heap)(l:List T)(tp:Bool)(I:Addr)(fp wr:List Addr)(St:Nat->Heap->Prop)(eH:Nat->ay->Heap->Prop):Prop where
 sub:∀b∈wr,b∈fp
 lt:∀b∈fp,b<h₂.objs.size
 nt:∀b∈fp,b∉aV
 z:l.length<=lim
 frame:∀i h h',St i h->(∀b∈fp,∀o,h.get? b=ab o->h'.get? b=ab o)->St i h'
 cls:∀i h,St i h->∀b∈wr,∃o,h.get? b=ab o/\¬iB o
 Lo:∀i v h,eH i v h->∀b∈wr,∃o,h.get? b=ab o/\¬iB o
 item:∀A:aM,A.handled=ae->∀i t(s:az)(N':Addr->Prop)(Q:Option ay->az->Prop)(E:ay->az->Prop),l[i]?=ab t->St i s.heap->
  (∀b o,(¬N b∨iA o)->b∉wr->h₂.get? b=ab o->s.heap.get? b=ab o)->(∀a,N' a->N a∨a∈wr∨h₂.objs.size<=a)->(∀a,N' a->a<s.heap.objs.size)->
  (∀v h' tk,eH i v h'->VR X N' h' t v->(∀b o,b∉wr->s.heap.get? b=ab o->h'.get? b=ab o)->Q (ab v) {s with heap:=h',toks:=tk})->
  aA (model X.prog X.w) A (iQ (.ref I)) Q E s
 lg:∀(A:aM)i v target(s:az)(Q:Unit->az->Prop)(E:ay->az->Prop),(tp=true->∃es k p,target=.Tuple es k p)->eH i v s.heap->
  (∀h' tk,St (i+1) h'->(∀b o,b∉wr->s.heap.get? b=ab o->h'.get? b=ab o)->Q () {s with heap:=h',toks:=tk})->aA (model X.prog X.w) A (lB target (.ref I) v) Q E s
 done:∀A:aM,A.handled=ae->∀(s:az)(Q:Option ay->az->Prop)(E:ay->az->Prop),St l.length s.heap->
  (∀h' tk,(∀b o,b∉wr->s.heap.get? b=ab o->h'.get? b=ab o)->Q ae {s with heap:=h',toks:=tk})->aA (model X.prog X.w) A (iQ (.ref I)) Q E s
 self:∀(A:aM)(s:az)(Q:ay->az->Prop)(E:ay->az->Prop),St 0 s.heap->Q (.ref I) s->aA (model X.prog X.w) A (jQ (.ref I)) Q E s
def kK(X:Kx)(N:Addr->Prop)(l:List T)(tp:Bool)(own:Option Addr)(aB:az)(it:ay)(s₂:az):Prop:=
 Kp X aB s₂/\∃I fp wr St eH,it=.ref I/\It X N s₂.heap l tp I fp wr St eH/\St 0 s₂.heap/\(∀b∈wr,aB.heap.objs.size<=b)/\(∀b∈fp,b∉wr->¬N b∨own=ab b)
def vN{h:Heap}(n:NG X N h):h.objs.size∉aV:=λq=>fN _ (n.lt _ (n.tb _ q))
noncomputable def owners:List String:=["enumerate","zip","dict_itemiterator","dict_reverseitemiterator","odict_iterator","itertools.zip_longest","itertools.pairwise"]
def V3(target:Expr)(it v:ay):lB target it v=pure ()∨lB target it v=lB (.List [] default) it v:=by cases target<;>first|exact .inl rfl|exact .inr rfl
def V4{I:Addr}(v:ay):lB (.List [] default) (.ref I) v=pure ()∨∃a,v=.ref a:=by cases v<;>first|exact .inl rfl|exact .inr ⟨_,rfl⟩
def V5{r:Addr}{T:String}{d:Data}{x:ay}{Q:Unit->az->Prop}(h:owners.contains T=false)(q:Q () s):
  aA M A (match ay.type T,d with|.type n,.fields vs=>if owners.contains n&&vs[0]?==ab x then(do rule "for.unpacks-the-owned-tuple";updateField r 0 .none)else pure ()|_,_=>pure ()) Q E s:=by
 cases d with
 |fields vs=>dsimp only;rw[h];exact aQ q
 |_=>exact aQ q
def V6{I:Addr}{target:Expr}{v:ay}{o:Obj}{T:String}{Q:Unit->az->Prop}(e:s.heap.get? I=ab o)(c:o.cls=.type T)(h:owners.contains T=false)(q:Q () s):
  aA M A (lB target (.ref I) v) Q E s:=by
 rcases V3 target (.ref I) v with z|z
 ·rw[z];exact aQ q
 ·rw[z]
  rcases V4 (I:=I) v with z|⟨a,rfl⟩
  ·rw[z];exact aQ q
  ·refine aG (Tx e ?_)
   rw[c]
   exact V5 (r:=I) (x:=jR a) (d:=o.data) h q
def It.walk{A₀:aM}(vO:A₀.handled=ae){h₂:Heap}{l:List T}{I:Addr}{fp wr:List Addr}{St:Nat->Heap->Prop}{P:Nat->ay->Prop}
  (W:∀A:aM,A.handled=ae->Walks X.prog X.w A I fp wr l.length P St) (lt:∀b∈fp,b<h₂.objs.size) (nt:∀b∈fp,b∉aV) (z:l.length<=lim)
  (cls:∀i h,St i h->∃T,(∃o,h.get? I=ab o/\o.cls=.type T)/\T≠"code"/\T≠"module"/\owners.contains T=false) (hw:∀b∈wr,b=I)
  (val:∀i v t(h':Heap)(N':Addr->Prop),P i v->l[i]?=ab t->(∀b o,(¬N b∨iA o)->b∉wr->h₂.get? b=ab o->h'.get? b=ab o)->(∀a,N' a->N a∨a∈wr∨h₂.objs.size<=a)->VR X N' h' t v)
  (self:∀(A:aM)(s:az)(Q:ay->az->Prop)(E:ay->az->Prop),St 0 s.heap->Q (.ref I) s->aA (model X.prog X.w) A (jQ (.ref I)) Q E s):
  It X N h₂ l false I fp wr St (λi v h=>P i v/\St (i+1) h):=
 have cl:∀i h,St i h->∀b∈wr,∃o,h.get? b=ab o/\¬iB o:=λi h st b hb=>by
  obtain⟨T,⟨o,e,c⟩,n1,n2,_⟩:=cls i h st
  exact⟨o,(hw b hb)▸e,nJ c ⟨n1,n2⟩⟩
 {sub:=(W A₀ vO).sub,lt:=lt,nt:=nt,z:=z,cls:=cl,Lo:=λi v h m=>cl (i+1) h m.2,frame:=(W A₀ vO).frame,self:=self
  item:=λA hA i t s N' Q E ht st keep hN dp hQ=>(W A hA).item i s Q E (iR.mp ht).1 st λv h' tk p dU k=>hQ v h' tk ⟨p,dU⟩ (val i v t h' N' p ht (λb o nb hw e=>k b o hw (keep b o nb hw e)) hN) k
  lg:=λA i v target s Q E y m hQ=>by
   obtain⟨T,⟨o,e,c⟩,_,_,n⟩:=cls _ _ m.2
   exact V6 e c n (hQ s.heap s.toks m.2 λy y y e=>e)
  done:=λA hA s Q E st hQ=>(W A hA).done s Q E st hQ}
def pH{a b:Addr}{P:Prop}(h:b∈[a])(k:b=a->P):P:=k (b4.mp h)
def vP{a b c:Addr}{P:Addr->Prop}(h:b∈[a,c])(k:P a)(k':P c):P b:=by
 rcases br.mp h with rfl|h
 ·exact k
 ·rw[b4.mp h];exact k'
section
variable{A:aM}{l:List T}{x:Addr}{vs:List ay}{own:Option Addr}
def Ep(hh:A.handled=ae)(n:NG X N s.heap){o:Obj}{tk:Nat}{x:Addr}(lx:x<s.heap.objs.size)(hx:x∉aV){St:Nat->Heap->Prop}{P:Nat->ay->Prop}{D:Addr}(hD:D=s.heap.objs.size)
  (W:∀A:aM,A.handled=ae->Walks X.prog X.w A D [D,x] [D] l.length P St) (z:l.length<=lim) {T:String} (hT:T≠"code"/\T≠"module"/\owners.contains T=false)
  (cls:∀i h,St i h->∃o,h.get? D=ab o/\o.cls=.type T) (st:St 0 (s.heap.push o)) (ho:¬N x∨own=ab x)
  (val:∀i v t(h':Heap)(N':Addr->Prop),P i v->l[i]?=ab t->(∀a,N' a->N a∨s.heap.objs.size<=a)->(∀b o,(¬N b∨iA o)->s.heap.get? b=ab o->h'.get? b=ab o)->VR X N' h' t v)
  (self:∀(A:aM)(s:az)(Q:ay->az->Prop)(E:ay->az->Prop),St 0 s.heap->Q (.ref D) s->aA (model X.prog X.w) A (jQ (.ref D)) Q E s):
  kK X N l false own s (.ref D) {s with heap:=s.heap.push o,toks:=tk}:=by
 subst hD
 refine⟨Kp.push,s.heap.objs.size,[s.heap.objs.size,x],[s.heap.objs.size],St,_,rfl,It.walk hh W ?_ ?_ z (λi h st=>⟨T,cls i h st,hT⟩) (λb hb=>b4.mp hb) ?_ self,st,?_,?_⟩
 ·exactλb hb=>vP (P:=λb=>b<(s.heap.push o).objs.size) hb (BE _ _) (bG lx (rg _ _))
 ·exactλb hb=>vP (P:=λb=>b∉aV) hb (vN n) hx
 ·exactλi v t h' N' hp ht keep hN=>val i v t h' N' hp ht (λa q=>(hN a q).imp id λq=>q.elim (λq=>pH q λe=>bO e.symm) (aD (rg _ _)))
   λb o hb e=>keep b o hb (λq=>pH q λq=>fN _ (q▸bw e)) (cS _ e)
 ·exactλb hb=>pH hb λe=>bO e.symm
 ·exactλb hb hw=>vP (P:=λb=>b∉[s.heap.objs.size]->¬N b∨own=ab b) hb (λq=>aj (b4.mpr rfl) q) (λy=>ho) hw
def Lq(hh:A.handled=ae)(n:NG X N s.heap)(ap:Apart s.heap)(hl:s.heap.PlainList x vs.toArray)(hz:l.length<=lim)(hs:aL X N s.heap l vs)(ho:¬N x∨own=ab x):
  aA (model X.prog X.w) A (jQ (.ref x)) (kK X N l false own s) E s:=by
 have lx:x<s.heap.objs.size:=hl.elim λz e=>bw e
 have len:vs.toArray.size=l.length:=by rw[bU,hs.length]
 refine AS hl.isList (Ep hh n lx (hl.elim λz e=>mJ ap e rfl) rfl (λA hA=>len▸Dw hA s.heap.objs.size x (cW lx) vs.toArray) hz (T:="list_iterator") (by decide)
  (λi h st=>st.1.elim λo q=>⟨o,q.1,q.2.1⟩) ⟨⟨_,cD _ rfl,rfl,rfl⟩,hl.isList.push _⟩ ho (λi v t h' N' hj ht hN keep=>?_) λA s Q E st q=>wpAny_pyIter_listiter st.1 q)
 obtain⟨w,e1,e2⟩:=hs.get ht
 rw[vf,e1]at hj;cases hj
 exact e2.move hN keep
def Lr(hh:A.handled=ae)(n:NG X N s.heap){x:Str}{t:Tok}(hz:x.length<=lim):
  aA (model X.prog X.w) A (jQ (.str x t)) (kK X N (chars x) false own s) E s:=by
 have len:x.cps.size=(chars x).length:=by unfold chars;rw[bK,vg]
 have main:∀{ty:String}{h₂:Heap}{o:Obj},ty≠"code"/\ty≠"module"/\owners.contains ty=false->h₂=s.heap.push o->(s.heap.push o).IsStrIter s.heap.objs.size ty x t 0->(∀A:aM,A.handled=ae->Walks X.prog X.w A s.heap.objs.size [s.heap.objs.size] [s.heap.objs.size] x.cps.size (SignAt x) (λi h=>h.IsStrIter s.heap.objs.size ty x t i))->
   (∀(A:aM)(s':az)(Q:ay->az->Prop)(E:ay->az->Prop),s'.heap.IsStrIter s.heap.objs.size ty x t 0->Q (.ref s.heap.objs.size) s'->aA (model X.prog X.w) A (jQ (.ref s.heap.objs.size)) Q E s')->kK X N (chars x) false own s (.ref s.heap.objs.size) {s with heap:=h₂}:=by
  intro ty h₂ o V7 e st W self
  subst e
  refine⟨Kp.push,s.heap.objs.size,[s.heap.objs.size],[s.heap.objs.size],_,_,rfl,It.walk hh (λA hA=>len▸W A hA) (λb hb=>pH hb λe=>e▸BE _ _) (λb hb=>pH hb λe=>e▸vN n) (len▸hz) (λi h st=>⟨ty,st.elim λo q=>⟨o,q.1,q.2.1⟩,V7⟩) (λb hb=>b4.mp hb) ?_ self,st,
   λb hb=>pH hb λe=>bO e.symm,λb hb hw=>aj hb hw⟩
  intro i v t h' N' hj ht keep hN
  obtain⟨c,u,e,rfl⟩:=hj
  unfold chars at ht
  rw[gL,xF,e]at ht
  cases ht
  exact .str _ _ (by show 1<=lim;decide)
 cases ha:x.cps.all (· <128)
 ·exact wpAny_pyIter_wide ha (main (by decide) rfl ⟨_,cD _ rfl,rfl,rfl⟩ (λA hA=>Walks.strWide hA _ x t) λA s Q E=>wpAny_pyIter_striter_wide)
 ·exact wpAny_pyIter_ascii ha (main (by decide) rfl ⟨_,cD _ rfl,rfl,rfl⟩ (λA hA=>Walks.strAscii hA _ x t) λA s Q E=>wpAny_pyIter_striter_ascii)
def V8{l:List (Str×Int)}{aZ:List (Str×ay)}(h:jO DK l aZ):∀{i:Nat}{p:Str×Int}{k:Str}{x:ay},l[i]?=ab p->aZ[i]?=ab (k,x)->p.1=k/\p.1.length<=lim:=by
 induction h with
 |nil=>intro i p k x e;cases e
 |cons a b ih=>
  intro i p k x e1 e2
  cases i with
  |zero=>cases e1;cases e2;exact⟨a.1,a.2.1⟩
  |succ i=>exact ih e1 e2
def Ls(hh:A.handled=ae)(n:NG X N s.heap)(ap:Apart s.heap){d:Addr}{o:Obj}{l:List (Str×Int)}{aZ:List (Str×ay)}(ho:s.heap.get? d=ab o)(hd:o.IsDictOf (strKind X.prog X.w) aZ)
  (hz:l.length<=lim) (hq:(d==qq)=false) (hs:jO DK l aZ) (hw:¬N d∨own=ab d):
  aA (model X.prog X.w) A (jQ (.ref d)) (kK X N (l.map λp=>.str p.1) false own s) E s:=by
 obtain⟨es,ep,hx⟩:=id hd
 have da:s.heap.DictAt (strKind X.prog X.w) d aZ ep:=⟨o,es,ho,hx⟩
 have len:aZ.length=(l.map λp=>T.str p.1).length:=by rw[bK,hs.length]
 refine wpAny_pyIter_dict hq da (Ep (St:=λi h=>h.IsKeyIter s.heap.objs.size d i aZ.length ep/\h.DictAt (strKind X.prog X.w) d aZ ep) hh n (bw ho) (mJ ap ho (dict_cls (a:=0) hd)) rfl (λA hA=>by rw[<-len];exact Walks.dictKeys hA _ d (cW (bw ho)) aZ ep) (by rw[bK];exact hz) (T:="dict_keyiterator") (by decide)
  (λi h st=>st.1.elim λo q=>⟨o,q.1,q.2.1⟩) ⟨⟨_,cD _ rfl,rfl,rfl⟩,da.push _⟩ hw (λi v t h' N' hj ht hN keep=>?_) λA s Q E st q=>wpAny_pyIter_keyiter st.1 q)
 obtain⟨k,x,e1,e2⟩:=hj
 obtain⟨u,rfl⟩:=ay.isStrOf_shape e2
 rw[gL]at ht
 refine map_some ht λp e3 e4=>?_
 have:=V8 hs e3 e1
 rw[<-e4,<-this.1]
 exact .str _ _ this.2
noncomputable def yC:ay->Option Addr
 |.ref a=>ab a
 |_=>ae
def V9(hh:A.handled=ae)(n:NG X N s.heap)(ap:Apart s.heap){t:T}{l:List T}{v:ay}(hv:VB X N s.heap t v)(h:eZ t=ab l):
  aA (model X.prog X.w) A (jQ v) (kK X N l false (yC v) s) E s:=by
 cases t with
 |lst=>cases h;exact hv.list λa vs hl hz hs=>Lq hh n ap hl hz hs (.inr rfl)
 |str=>cases h;exact hv.c6 λt hz=>Lr hh n hz
 |aY=>cases h;exact hv.dict λa o aZ ho hd hz hq hs=>Ls hh n ap ho hd hz hq hs (.inr rfl)
 |_=>exact aN h
def Lu(hh:A.handled=ae)(n:NG X N s.heap)(ap:Apart s.heap){t:T}{l:List T}{v:ay}(hv:VR X N s.heap t v)(h:eZ t=ab l):
  aA (model X.prog X.w) A (jQ v) (kK X N l false ae s) E s:=by
 cases t with
 |lst=>cases h;exact hv.eQ λa vs hl hN hz hs=>Lq hh n ap hl hz hs (.inl hN)
 |str=>cases h;exact hv.c6 λt hz=>Lr hh n hz
 |aY=>cases h;exact hv.VN λa o aZ ho hd hN hz hq hs=>Ls hh n ap ho hd hz hq hs (.inl hN)
 |_=>exact aN h
end
end
abbrev Ex:=Mine.E
structure Sc where
 names:List (Str×jm)
 slots:List (Str×Nat)
 own:List Nat
def Rd(env:Env)(h:Heap)(x:Str)(v:ay):Prop:=
 (env.kindOf x=ab .local/\∃m,h.Ns env.locals m/\m x=ab v)∨
 ((env.kindOf x=ab .cell∨env.kindOf x=ab .free)/\∃a,env.cells.lookup x=ab a/\h.IsCell a (ab v))
def Fr(env:Env)(b:Addr):Prop:=b=env.locals∨∃x,env.cells.lookup x=ab b
def Vo(X:Kx)(N:Addr->Prop)(h:Heap)(own:Bool)(t:T)(v:ay):Prop:=if own then VB X N h t v else VR X N h t v
structure EC(X:Kx)(env:Env)(c:Sc)(N:Addr->Prop)(r:aE)(h:Heap):Prop where
 kind:env.scope.kind=.function
 names:env.scope.names=c.names
 globals:env.globals=gJ
 builtins:env.builtins=jj
 vQ:env.locals∉aV
 ju:∀x a,env.cells.lookup x=ab a->a∉aV
 has:∀x,env.kindOf x=ab .cell∨env.kindOf x=ab .free->∃a,env.cells.lookup x=ab a
 dz:∀x a,env.cells.lookup x=ab a->(∃v,h.IsCell a v)/\a≠env.locals
 inj:∀x y a,env.cells.lookup x=ab a->env.cells.lookup y=ab a->x=y
 rd:∀x i t,c.slots.lookup x=ab i->get r i=ab t->∃v,Rd env h x v/\Vo X N h (c.own.contains i) t v
structure At(X:Kx)(k:Nat)(A:aM)(env:Env)(c:Sc)(N:Addr->Prop)(r:aE)(s:az):Prop where
 ec:EC X env c N r s.heap
 wd:Wd X s.heap
 ng:NG X N s.heap
 ra:RA k A
section
variable{X:Kx}{k:Nat}{A:aM}{env:Env}{c c':Sc}{N N':Addr->Prop}{r r':aE}{s s':az}{h h':Heap}{t:T}{v:ay}
def Vo.bor{o:Bool}(x:Vo X N h o t v):VB X N h t v:=by
 cases o with
 |true=>exact x
 |false=>exact .of x
def Vo.map{o:Bool}(x:Vo X N h o t v)(f:VB X N h t v->VB X N' h' t v)(g:VR X N h t v->VR X N' h' t v):Vo X N' h' o t v:=by
 cases o with
 |true=>exact f x
 |false=>exact g x
def Rd.to{x:Str}{v:ay}(q:Rd env h x v)(k:∀b o,(b=env.locals∨env.cells.lookup x=ab b)->h.get? b=ab o->h'.get? b=ab o):Rd env h' x v:=
 q.imp (λq=>⟨q.1,q.2.elim λm z=>⟨m,z.1.at' λo e=>k _ _ (.inl rfl) e,z.2⟩⟩) λq=>⟨q.1,q.2.elim λa z=>⟨a,z.1,z.2.elim λo w=>⟨o,k _ _ (.inr z.1) w.1,w.2⟩⟩⟩
def EC.nt(a:EC X env c N r h){b:Addr}(q:Fr env b):b∉aV:=by
 rcases q with rfl|⟨x,e⟩
 ·exact a.vQ
 ·exact a.ju x b e
def EC.to(a:EC X env c N r h)(k:∀b o,Fr env b->h.get? b=ab o->h'.get? b=ab o)
  (rd:∀x i t,c'.slots.lookup x=ab i->get r' i=ab t->(∀v,Rd env h x v->Rd env h' x v)->∃v,Rd env h' x v/\Vo X N' h' (c'.own.contains i) t v) (hn:c'.names=c.names:=by rfl):EC X env c' N' r' h':=
 ⟨a.kind,a.names.trans hn.symm,a.globals,a.builtins,a.vQ,a.ju,a.has,λx b e=>⟨(a.dz x b e).1.elim λv q=>q.elim λo z=>⟨v,o,k b o (.inr ⟨x,e⟩) z.1,z.2⟩,(a.dz x b e).2⟩,a.inj,
  λx i t h1 h2=>rd x i t h1 h2 λv q=>q.to λb o hb e=>k b o (hb.imp id λz=>⟨x,z⟩) e⟩
def EC.move(a:EC X env c N r h)(k:∀b o,Fr env b->h.get? b=ab o->h'.get? b=ab o)(f:∀{t v},VB X N h t v->VB X N' h' t v)(g:∀{t v},VR X N h t v->VR X N' h' t v):EC X env c N' r h':=
 a.to k λx i t h1 h2 q=>(a.rd x i t h1 h2).elim λv z=>⟨v,q v z.1,z.2.map f g⟩
def At.kp(a:At X k A env c N r s)(q:Kp X s s'):At X k A env c N r s':=
 ⟨a.ec.move (λb o z e=>q.old b o (a.ec.nt z) e) (λx=>x.kp a.ng q a.wd.apart) λx=>x.kp a.ng q,a.wd.kp q,a.ng.kp q,a.ra⟩
def At.apart(a:At X k A env c N r s):Apart s.heap:=a.wd.apart
def gC{E:ay->az->Prop}{Q:ay->az->Prop}{x:Str}{v:ay}{p:Pos}(a:At X k A env c N r s)(h:Rd env s.heap x v)(hd:(x==("__debug__":Str))=false)(hc:(x==("__classdict__":Str))=false)(q:Q v s):
  aA (model X.prog X.w) A (eval (.Name x p) env) Q E s:=by
 refine wpAny_Name ?_ hd
 rcases h with⟨e,m,e1,e2⟩|⟨e,b,e1,e2⟩
 ·exact TB a.ec.kind e e1 e2 q
 ·rcases e with e|e
  ·exact amj a.ec.kind e e1 e2 q
  ·exact amk a.ec.kind e e1 e2 q hc
def jv{E:ay->az->Prop}{Q:ay->az->Prop}{x:Str}{v:ay}{p:Pos}
  (a:At X k A env c N r s) (h:d4 x=ab v) (hk:c.names.lookup x=ab .globalImplicit) (hd:(x==("__debug__":Str))=false) (q:Q v s):
  aA (model X.prog X.w) A (eval (.Name x p) env) Q E s:=by
 refine aml a.ec.kind (by unfold qw;rw[a.ec.names];exact hk) ?_ hd
 have g:s.heap.Ns env.globals X.mg:=by rw[a.ec.globals];exact a.wd.g
 exact(a.wd.gl x v h).elim (λe=>amm g e q) λe=>amn g e.1 (by rw[a.ec.builtins];exact a.wd.b) e.2 q
end
structure Cx where
 X:Kx
 F:Nat->List T->Option T
inductive Mode where
 |val|bor|a9|src|ia|chain|own|use
 deriving DecidableEq
noncomputable def Mode.v:Mode->Bool
 |.val|.bor|.a9|.src|.ia=>true
 |_=>false
noncomputable def Mode.b:Mode->Bool
 |.bor|.a9|.src=>true
 |_=>false
noncomputable def Mode.vo:Mode->Bool
 |.chain|.use=>false
 |_=>true
noncomputable def yD:T->Const->Bool
 |.none,.none=>true
 |.bool b,.bool d=>b==d
 |.int i,.int j=>i==j
 |.str x,.str y=>x==y&&decide (x.length<=lim)
 |_,_=>false
noncomputable def iV(x:Str):Bool:=!(x==("__debug__":Str))&&!(x==("__classdict__":Str))
noncomputable def gj(x:aW):Bool:=x.ctorIdx !=7
noncomputable def notStar(x:aW):Bool:=x.ctorIdx !=22
noncomputable def isCall(x:aW):Bool:=x.ctorIdx==16
noncomputable def tT:Prim->Str×ay
 |.len=>(s_ "len",.builtin "len")|.qW=>(s_ "max",.builtin "max")|.max2=>(s_ "max",.builtin "max")|.min1=>(s_ "min",.builtin "min")
 |.qX=>(s_ "sorted",.builtin "sorted")|.divmod=>(s_ "divmod",.builtin "divmod")|.repr=>(s_ "repr",.builtin "repr")
 |.str1=>(s_ "str",.type "str")|.tuple1=>(s_ "tuple",.type "tuple")|.list1=>(s_ "list",.type "list")
noncomputable def Er:SM->Str
 |.split1=>s_ "split"|.lower=>s_ "lower"|.upper=>s_ "upper"|.count=>s_ "count"|.rfind=>s_ "rfind"|.find=>s_ "find"
 |.join=>s_ "join"|.pC=>s_ "bit_length"|.yv=>s_ "count"|.vJ=>s_ "get"
noncomputable def rh(c:Sc)(sc:d9)(ts:List (Str×Nat)):Option Sc:=
 if decide (sc.kind=.function)&&
   sc.names.all (λp=>match p.2 with
    |.local=>(p.1==s_ ".0"||(ts.lookup p.1).isSome)&&sc.names.lookup p.1==ab .local
    |.cell=>(ts.lookup p.1).isSome&&sc.names.lookup p.1==ab .cell
    |.free=>(c.slots.lookup p.1).isSome&&(c.names.lookup p.1==ab .cell||c.names.lookup p.1==ab .free)&&(ts.lookup p.1).isNone&&sc.names.lookup p.1==ab .free
    |.globalImplicit=>(ts.lookup p.1).isNone&&sc.names.lookup p.1==ab .globalImplicit
    |_=>false)&&
   ts.all (λp=>sc.names.lookup p.1==ab .local||sc.names.lookup p.1==ab .cell)&&decide ((ts.map (·.1)).Nodup)&&decide ((ts.map (·.2)).Nodup)&&
   ts.all (λp=>c.slots.all λq=>q.2 !=p.2)&&ts.all (λp=>!c.own.contains p.2)
 then ab {names:=sc.names.map λ(n,k)=>if(k==.free&&c.names.lookup n==ab .cell)then(n,.cell)else(n,k),slots:=ts++(sc.names.filterMap λp=>if p.2==.free then(c.slots.lookup p.1).map (p.1,·)else ae),own:=c.own}
 else ae
noncomputable def nameOf(x:aW):Option Str:=if h:x.ctorIdx=23 then qG.elim x h λn z=>ab n else ae
noncomputable def yE:List aW->List Nat->Option (List (Str×Nat))
 |[],ks=>match ks with
  |[]=>ab []
  |_=>ae
 |e::es,ks=>match ks with
  |[]=>ae
  |k::ks=>(nameOf e).bind λx=>(yE es ks).map ((x,k)::·)
def ri(c:Sc)(x y:Str)(v:ay):Prop:=x=y/\d4 x=ab v/\iV x=true/\c.names.lookup x=ab .globalImplicit
section
variable(X:Kx)(N:Addr->Prop)(s:az)
def BF(t:T)(y:ay)(s':az):Prop:=Kp X s s'/\VB X N s'.heap t y
def yF(strict:Bool)(l:List T)(xv:ay)(aB:az):Prop:=
 ∃own:Option Addr,(strict=true->own=ae)/\Kp X s aB/\∀(A:aM)E,A.handled=ae->aA (model X.prog X.w) A (jQ xv) (kK X N l false own s) E aB
end
def Res.b{X:Kx}{N:Addr->Prop}{s s':az}{t:T}{y:ay}(h:Res X N s t y s'):BF X N s t y s':=⟨h.1,.of h.2⟩
def Wa(X:Kx)(A:aM)(env:Env)(N:Addr->Prop)(s:az)(t:T)(x:aW):Prop:=
 ∀(u:ay->Sem Unit)(Q:ay->az->Prop)(E:ay->az->Prop),(∀D K s' m',Kp X s s'->VR X (λb=>N b∨b=K) s'.heap t (.ref D)->VB X (λb=>(N b∨b=D)∨b=K) s'.heap t (.ref D)->s.heap.objs.size<=D->D≠K->s.heap.objs.size<=K->s'.heap.Ns K m'->AU (model X.prog X.w) A E (ab u) Q (.ref D) K (.ok .next) s')->
  aA (model X.prog X.w) A (evalThenUse x env u) (λz s'=>Q .none s') E s
noncomputable def Out(X:Kx)(A:aM)(env:Env)(N:Addr->Prop)(s:az)(t:T):Mode->List aW->Prop
 |.chain=>λxs=>∀l,t=.tup l->∀pos E,aA (model X.prog X.w) A (pj (mA pos (jS xs env))) (λvs s'=>Kp X s s'/\aL X N s'.heap l vs) E s
 |m=>λxs=>match xs with
  |[x]=>match m with
   |.val=>∀E,aA (model X.prog X.w) A (eval x env) (Res X N s t) E s
   |.bor=>∀E,aA (model X.prog X.w) A (eval x env) (BF X N s t) E s
   |.a9=>t.plain=true->∀E,aA (model X.prog X.w) A (xG x env (eval x env)) (λb s'=>b=t.truth/\Kp X s s') E s
   |.src=>∀l,eZ t=ab l->∀E,aA (model X.prog X.w) A (eval x env) (yF X N s false l) E s
   |.ia=>∀l,eZ t=ab l->∀E,aA (model X.prog X.w) A (eval x env) (yF X N s true l) E s
   |.own=>t.obj=true->∀E,aA (model X.prog X.w) A (eval x env) (mQ X N s t) E s
   |.use=>Wa X A env N s t x
   |.chain=>True
  |_=>True
def oU(X:Kx)(j:Nat)(fv:ay)(G:List T->Option T):Prop:=
 ∀A N s pos trees ts t E,RA j A->Wd X s.heap->NG X N s.heap->trees.any (·.1)=false->G ts=ab t->
  (∀E,aA (model X.prog X.w) A (pj trees) (λvs s'=>Kp X s s'/\aL X N s'.heap ts vs) E s)->
  aA (model X.prog X.w) A (Dx pos fv [] trees []) (Res X N s t) E s
def rj(X:Kx)(j:Nat)(nm:Str)(G:List T->Option T):Prop:=
 ∀A N s pos pl trees x ov ts t E,RA j A->Wd X s.heap->NG X N s.heap->VR X N s.heap x ov->trees.any (·.1)=false->G (x::ts)=ab t->
  (∀aB,Kp X s aB->∀E,aA (model X.prog X.w) A (pj trees) (λvs s'=>Kp X aB s'/\aL X N s'.heap ts vs) E aB)->
  aA (model X.prog X.w) A (JG ov nm pl) (λfx aB=>aA (model X.prog X.w) A (Dx pos fx.1 fx.2 trees []) (Res X N s t) E aB) E s
def tU(X:Kx)(i:Nat)(nm:Str):Prop:=
 ∀A N s x ov t Q E,Wd X s.heap->NG X N s.heap->VR X N s.heap x ov->yz i x=ab t->(∀s' v,Kp X s s'->VR X N s'.heap t v->Q v s')->
  aA (model X.prog X.w) A (sU ov nm true) Q E s
def Es(X:Kx):Prop:=∀x n v,Ec x n=ab v->∀k A env c N r s(E:ay->az->Prop)(Q:ay->az->Prop)p p',At X k A env c N r s->c.names.lookup x=ab .globalImplicit->
 (∀s' u,Kp X s s'->Q (.str v u) s')->aA (model X.prog X.w) A (eval (.Attribute (.Name x p) n p') env) Q E s
structure Ok(C:Cx)(k:Nat):Prop where
 cat:Es C.X
 fns:∀f x v,nI f=ab x->d4 x=ab v->oU C.X k v (C.F f)
 yG:∀f x,tM f=ab x->rj C.X k x (C.F f)
 nR:∀i,tU C.X i (oL i)
def Gd(e:Ex)(m:Mode)(c:Sc)(xs:List aW):Prop:=∀{C k},Ok C k->∀{A env N r s t},At C.X k A env c N r s->ev C.F e r=ab t->Out C.X A env N s t m xs
section
variable{X:Kx}{k:Nat}{A:aM}{env:Env}{c:Sc}{N:Addr->Prop}{r:aE}{s s':az}{E:ay->az->Prop}{t:T}{x:aW}{m:Mode}{Q:ay->az->Prop}
def mo{α:Type}{M:mz}{P:α->az->Prop}{Q:α->az->Prop}{y:Sem α}(h:aA M A y P E s)(k:∀v s',P v s'->Q v s'):aA M A y Q E s:=eE h k λx x z=>z
def vl(h:Out X A env N s t .val [x])(k:∀v s',Kp X s s'->VR X N s'.heap t v->Q v s'):aA (model X.prog X.w) A (eval x env) Q E s:=mo (h E) λv s' z=>k v s' z.1 z.2
def bl(h:Out X A env N s t .bor [x])(k:∀v s',Kp X s s'->VB X N s'.heap t v->Q v s'):aA (model X.prog X.w) A (eval x env) Q E s:=mo (h E) λv s' z=>k v s' z.1 z.2
def tl{Q:Bool->az->Prop}(h:Out X A env N s t .a9 [x])(hp:t.plain=true)(k:∀s',Kp X s s'->Q t.truth s'):aA (model X.prog X.w) A (xG x env (eval x env)) Q E s:=mo (h hp E) λv s' z=>z.1▸k s' z.2
def cl{xs:List aW}{l:List T}{pos:Pos}{Q:List ay->az->Prop}(h:Out X A env N s (.tup l) .chain xs)(k:∀vs s',Kp X s s'->aL X N s'.heap l vs->Q vs s'):aA (model X.prog X.w) A (pj (mA pos (jS xs env))) Q E s:=mo (h l rfl pos E) λv s' z=>k v s' z.1 z.2
def kK.base{l:List T}{tp:Bool}{own:Option Addr}{aP aB s₂:az}{it:ay}(k:Kp X aP aB)(h:kK X N l tp own aB it s₂):kK X N l tp own aP it s₂:=by
 obtain⟨k',I,fp,wr,St,eH,e,i,st,w,f⟩:=h
 exact⟨k.trans k',I,fp,wr,St,eH,e,i,st,λb hb=>aD k.size (w b hb),f⟩
def Et(env:Env)(x:aW):Prop:=xG x env (eval x env)=(do let v <-eval x env;xH x.pos;JH [v] (truthy v))
def Lv(a:At X k A env c N r s)(h:∀E,aA (model X.prog X.w) A (eval x env) (BF X N s t) E s)(hm:m.b=true)(he:m=.a9->Et env x):Out X A env N s t m [x]:=by
 cases m with
 |bor=>exact h
 |a9=>exactλhp E=>wpAny_isTrue_value (mo (h E) λv aB z=>BD hp z.2 λs' k'=>⟨rfl,z.1.trans k'⟩) (he rfl)
 |src=>exactλl hl E=>mo (h E) λv aB z=>⟨yC v,nofun,z.1,λA E hh=>mo (V9 hh (a.kp z.1).ng (a.kp z.1).apart z.2 hl) λy y q=>q.base z.1⟩
 |_=>exact aj hm bT
def fQ(a:At X k A env c N r s)(hm:m.v=true)(h:∀E,aA (model X.prog X.w) A (eval x env) (Res X N s t) E s)(he:m=.a9->Et env x):Out X A env N s t m [x]:=by
 cases m with
 |val=>exact h
 |ia=>exactλl hl E=>mo (h E) λv aB z=>⟨ae,λy=>rfl,z.1,λA E hh=>mo (Lu hh (a.kp z.1).ng (a.kp z.1).apart z.2 hl) λy y q=>q.base z.1⟩
 |chain=>exact aj hm bT
 |own=>exact aj hm bT
 |use=>exact aj hm bT
 |_=>exact Lv a (λE=>mo (h E) λy y z=>z.b) rfl he
def BG(a:At X k A env c N r s)(hm:m.vo=true)(h:∀E,aA (model X.prog X.w) A (eval x env) (mQ X N s t) E s)(he:m=.a9->Et env x):Out X A env N s t m [x]:=by
 cases m with
 |own=>exactλy=>h
 |chain=>exact aj hm bT
 |use=>exact aj hm bT
 |_=>exact fQ a rfl (λE=>mo (h E) λy y z=>z.res) he
end
section
variable{o:iG}{a b e:Ex}{m:Mode}{c:Sc}{l q x y:aW}{p:Pos}{es:List aW}{n:Str}
def Wb:Gd .nil .chain c []:=λz z z z z s t a e=>by
 cases e
 exactλl hl pos E=>by cases hl;exact gb ⟨.refl s,.nil⟩
def yH{env:Env}{xs:List aW}(hs:notStar x=true):jS (x::xs) env=(false,eval x env)::jS xs env:=by cases x<;>first|rfl|exact aj hs bT
def Wc(hs:notStar x=true)(h1:Gd a .val c [x])(h2:Gd b .chain c es):Gd (.cons a b) .chain c (x::es):=λH z z z z z z at_ e=>by
 refine aO e λtx e1 ea=>aO ea λtl e2 eb=>kJ eb λl q ez=>?_
 clear e ea eb
 cases ez;subst q
 intro l' hl pos E
 cases hl
 rw[yH hs]
 exact eX (vl (h1 H at_ e1) λv aB k₁ bD=>cl (h2 H (at_.kp k₁) e2) λvs s₂ k₂ ib=>⟨k₁.trans k₂,.cons (bD.kp (at_.kp k₁).ng k₂) ib⟩)
def iW(h:iV n=true):(n==("__debug__":Str))=false/\(n==("__classdict__":Str))=false:=by
 have h:=ik.mp h
 exact⟨by simpa using h.1,by simpa using h.2⟩
def We{i:Nat}(hm:m.v=true)(hx:c.slots.lookup n=ab i)(hn:iV n=true)(ho:(m.b||!c.own.contains i)=true):Gd (.var i) m c [.Name n p]:=λH z z z z s t a e=>by
 obtain⟨v,h3,h4⟩:=a.ec.rd n i t hx e
 have hn:=iW hn
 cases q:c.own.contains i with
 |false=>rw[q]at h4;exact fQ a hm (λE=>gC a h3 hn.1 hn.2 ⟨.refl s,h4⟩) λz=>rfl
 |true=>
  rw[q]at ho
  exact Lv a (λE=>gC a h3 hn.1 hn.2 ⟨.refl s,h4.bor⟩) ((Jz.mp ho).resolve_right bT) λz=>rfl
noncomputable def Lw:T->ay->ay
 |.none,_=>.none
 |.bool b,_=>.bool b
 |_,v=>v
def Ly{X:Kx}{A:aM}{env:Env}{s:az}{E:ay->az->Prop}{t:T}{d:Const}{j:Nat}(h:yD t d=true){Q:ay->az->Prop}(q:∀s' v,Kp X s s'->(∀N h,VR X N h t v)->v=Lw t v->Q v s'):
  aA (model X.prog X.w) A (eval (.Constant d j p) env) Q E s:=by
 cases t with
 |none=>cases d with
  |none=>exact TC (q _ _ (.refl s) (λz z=>.none) rfl)
  |_=>exact aj h bT
 |bool b=>cases d with
  |bool d=>exact amo (ao (show(b==d)=true from h)▸q _ _ (.refl s) (λz z=>.bool _) rfl)
  |_=>exact aj h bT
 |int i=>cases d with
  |int d=>exact JI (ao (show(i==d)=true from h)▸q _ _ Kp.tok (λz z=>.int _ _) rfl)
  |_=>exact aj h bT
 |str x=>cases d with
  |str d=>
   have h:=ik.mp (show(x==d&&decide (x.length<=lim))=true from h)
   exact amq (ao h.1▸q _ _ Kp.tok (λz z=>.str _ _ (aq h.2)) rfl)
  |_=>exact aj h bT
 |_=>exact aj h bT
def Wf{t:T}{d:Const}{j:Nat}(hm:m.v=true)(h:yD t d=true):Gd (.lit t) m c [.Constant d j p]:=λH z z z z z z a e=>by
 cases e;exact fQ a hm (λE=>Ly h λs' v k' hv z=>⟨k',hv _ _⟩) λz=>rfl
def Wg{i:Int}(h:Bq n=ab i):d4 n=ab (.int i 306):=by
 unfold Bq at h
 by_cases q:(n==s_ "_DIV_LIMIT")=true
 ·rw[ah q]at h;cases h;rw[ao q];kernel_rfl
 ·rw[ai q]at h;exact aN h
def Wh{i:Int}(hm:m.v=true)(hc:Bq n=ab i)(hn:iV n=true)(hk:c.names.lookup n=ab .globalImplicit):Gd (.lit (.int i)) m c [.Name n p]:=λH z z z z s z a e=>by
 cases e;exact fQ a hm (λE=>jv a (Wg hc) hk (iW hn).1 ⟨.refl s,.int _ _⟩) λz=>rfl
def Wj{z:Str}{q:Pos}{n':Str}(hm:m.v=true)(hc:Ec n n'=ab z)(hz:z.length<=lim)(hk:c.names.lookup n=ab .globalImplicit):Gd (.lit (.str z)) m c [.Attribute (.Name n p) n' q]:=λH y y y y y y a e=>by
 cases e;exact fQ a hm (λE=>H.cat _ _ _ hc _ _ _ _ _ _ _ _ _ _ _ a hk λs' u k'=>⟨k',.str _ _ hz⟩) λy=>rfl
def two{X:Kx}{k:Nat}{A:aM}{env:Env}{N:Addr->Prop}{r:aE}{s:az}{E:ay->az->Prop}{tx ty:T}{Q:ay->ay->az->Prop}(a:At X k A env c N r s)(h1:Out X A env N s tx .bor [l])(h2:∀{s},At X k A env c N r s->Out X A env N s ty .bor [q])
  (hQ:∀v u s₂,Kp X s s₂->At X k A env c N r s₂->VB X N s₂.heap tx v->VB X N s₂.heap ty u->Q v u s₂):
  aA (model X.prog X.w) A (eval l env) (λv aB=>aA (model X.prog X.w) A (eval q env) (λu s₂=>Q v u s₂) E aB) E s:=
 bl h1 λv aB k₁ bD=>have a1:=a.kp k₁;bl (h2 a1) λu s₂ k₂ ib=>hQ v u s₂ (k₁.trans k₂) (a1.kp k₂) (bD.kp a1.ng k₂ a1.apart) ib
def Lz(h:Gd e .val c [x]):Gd e .bor c [x]:=λH y y y y y y a e E=>mo (h H a e E) λy y z=>z.b
def Wl(hm:m.v=true∨(m=.own/\(o=.add∨o=.mul)))(h1:Gd a .bor c [l])(h2:Gd b .bor c [q]):Gd (.bin o a b) m c [.BinOp l o.py q p]:=λ{C k}H A env N r s t at_ e=>by
 refine aO e λtx e1 e=>aO e λty e2 e=>?_
 have main:∀E,aA (model C.X.prog C.X.w) A (eval (.BinOp l o.py q p) env) (lY C.X N s t) E s:=λE=>
  JJ (two at_ (h1 H at_ e1) (λa=>h2 H a e2) λv u s₂ k₂ vR hv hu=>mo (BB e hv hu vR.ng) λw aX z=>⟨⟨k₂.trans z.1.1,z.1.2⟩,λq=>(z.2 q).elim λb w=>⟨b,w.1,aD k₂.size w.2.1,w.2.2⟩⟩)
 rcases hm with hm|⟨rfl,hm⟩
 ·exact fQ at_ hm (λE=>mo (main E) λy y z=>z.1) λy=>rfl
 ·have ho:t.obj=true->∃l,t=.lst l:=λq=>by
   cases t with
   |lst l=>exact⟨l,rfl⟩
   |aY l=>exact(hm.elim (λh=>by subst h;cases tx<;>first|exact aN e|exact fb e λy y e=>nomatch e|exact hZ e λy y e=>ifs e λy e=>nomatch e|exact eW e λy y e=>ifs e λy e=>nomatch e)
     λh=>by subst h;cases tx<;>first|exact aN e|exact fb e λy y e=>ifs e λy e=>nomatch e)
   |_=>exact aj q bT
  exactλq E=>mo (main E) λv s' z=>⟨z.1.1,z.1.2,(z.2 (ho q)).elim λb w=>⟨b,w.1,w.2.1,λy=>w.2.2⟩⟩
def Wm(hm:m.v=true)(h1:Gd a .val c [l]):Gd (.neg a) m c [.UnaryOp .USub l p]:=λH z z z z z z at_ e=>by
 refine aO e λtx e1 ea=>fb ea λi q ez=>?_
 clear e ea
 cases ez;subst q
 exact fQ at_ hm (λE=>Dy (vl (h1 H at_ e1) λv aB k₁ bD=>bD.eR λu=>TF ⟨k₁.trans Kp.tok,.int _ _⟩)) λz=>rfl
def Wn(hm:m.v=true)(h1:Gd a .val c [l]):Gd (.inv a) m c [.UnaryOp .Invert l p]:=λH z z z z z z at_ e=>by
 refine aO e λtx e1 ea=>fb ea λi q ez=>?_
 clear e ea
 cases ez;subst q
 exact fQ at_ hm (λE=>Dy (vl (h1 H at_ e1) λv aB k₁ bD=>bD.eR λu=>asq ⟨k₁.trans Kp.tok,.int _ _⟩)) λz=>rfl
def Wo(h1:Gd a .a9 c [l]):Gd (.mN a) .a9 c [.UnaryOp .Not l p]:=λH z z z z z z at_ e=>by
 refine aO e λtx e1 ea=>ifs ea λhp ez=>?_
 clear e ea
 cases ez
 exactλz E=>wpAny_isTrue_Not (tl (h1 H at_ e1) hp λs' k'=>⟨rfl,k'⟩)
def Wq(hm:m.v=true)(ht:m≠.a9)(h1:Gd a .bor c [l]):Gd (.mN a) m c [.UnaryOp .Not l p]:=λH y y y y y y at_ e=>by
 refine aO e λtx e1 ea=>ifs ea λhp ez=>?_
 clear e ea
 cases ez
 exact fQ at_ hm (λE=>Dy (bl (h1 H at_ e1) λv aB k₁ bD=>ass (BD hp bD λs' k'=>⟨k₁.trans k',.bool _⟩))) λz=>aj z ht
def LA{o:Du}(h:gj q=true):behindInMarks o q=false:=by cases q<;>first|rfl|(cases o<;>rfl)|exact aj h bT
def Eu{X:Kx}{k:Nat}{A:aM}{env:Env}{N:Addr->Prop}{r:aE}{s:az}{b:Bool}{op:Du}(at_:At X k A env c N r s)(hm:m.v=true)(hq:behindInMarks op q=false)
  (h:∀E Q,(∀s₂,Kp X s s₂->Q (.bool b) s₂)->aA (model X.prog X.w) A (eval l env) (λv aB=>aA (model X.prog X.w) A (eval q env) (λu s₂=>aA (model X.prog X.w) A (qu op v u) Q E s₂) E aB) E s):Out X A env N s (.bool b) m [.Compare l [op] [q] p]:=by
 by_cases qm:m=.a9
 ·subst qm
  exactλy E=>wpAny_isTrue_Compare1 (h E _ λs₂ k₂=>aQ ⟨rfl,k₂⟩) hq
 ·exact fQ at_ hm (λE=>wpAny_Compare1 (h E _ λs₂ k₂=>⟨k₂,.bool _⟩) hq) λz=>aj z qm
def Wr{o:qS}(hm:m.v=true)(hq:gj q=true)(h1:Gd a .bor c [l])(h2:Gd b .bor c [q]):Gd (.cmp o a b) m c [.Compare l [o.py] [q] p]:=λH y y y y y y at_ e=>by
 refine aO e λtx e1 ea=>aO ea λty e2 eb=>map_some eb λz e3 ez=>?_
 clear e ea eb
 subst ez
 exact Eu at_ hm (LA hq) λE Q hQ=>two at_ (h1 H at_ e1) (λa=>h2 H a e2) λv u s₂ k₂ vR hv hu=>V0 e3 hv hu vR.ra.KX (hQ s₂ k₂)
def Wt(hm:m.v=true)(hq:gj q=true)(h1:Gd a .val c [l])(h2:Gd b .bor c [q]):Gd (.oP a b) m c [.Compare l [.In] [q] p]:=λH y y y y y y at_ e=>by
 refine aO e λtx e1 ea=>aO ea λty e2 eb=>map_some eb λz e3 ez=>?_
 clear e ea eb
 subst ez
 exact Eu at_ hm (LA hq) λE Q hQ=>two at_ (Lz h1 H at_ e1) (λa=>h2 H a e2) λv u s₂ k₂ vR hv hu=>V2 e3 hv hu vR.ra.KX (hQ s₂ k₂)
def Wu{X:Kx}{N:Addr->Prop}{h:Heap}{t:T}{v:ay}(ht:isOk t=true)(hv:VB X N h t v){d:Option Bool}{u:ay}(hu:u=d.elim .none .bool):plainIs v u=true/\(v==u)=decide (qV t=ab d):=by
 subst hu
 cases t with
 |none=>rw[show v=.none from(hv.vr rfl).inv];cases d with|none=>exact⟨rfl,rfl⟩|some b=>exact⟨rfl,rfl⟩
 |bool b=>rw[show v=.bool b from(hv.vr rfl).inv];cases d with|none=>exact⟨rfl,rfl⟩|some d=>cases b<;>cases d<;>exact⟨rfl,rfl⟩
 |int i=>exact hv.eR λu=>by cases d<;>exact⟨rfl,rfl⟩
 |str i=>exact hv.c6 λu z=>by cases d<;>exact⟨rfl,rfl⟩
 |lst i=>exact hv.list λa vs z z z=>by cases d<;>exact⟨rfl,rfl⟩
 |_=>exact aj ht bT
def Wv{t:T}{u:ay}{d:Option Bool}(h:qV t=ab d)(hu:u=Lw t u):u=d.elim .none .bool:=by
 cases t with
 |none=>cases h;exact hu
 |bool=>cases h;exact hu
 |_=>exact aN h
def Ww{no:Bool}{t:T}{d:Const}{j:Nat}{p':Pos}(hm:m.v=true)(hl:yD t d=true)(h1:Gd a .bor c [l]):Gd (.qY no a t) m c [.Compare l [if no then .IsNot else .Is] [.Constant d j p'] p]:=λH z z z z z z at_ e=>by
 refine aO e λtx e1 ea=>gi ea λho eb=>aO eb λdd e2 ez=>?_
 clear e ea eb
 cases ez
 refine Eu at_ hm (by cases no<;>rfl) λE Q hQ=>bl (h1 H at_ e1) λv aB k₁ bD=>Ly hl λs₂ u k₂ z hu=>?_
 have a1:=at_.kp k₁
 have g:=Wu ho (bD.kp a1.ng k₂ a1.apart) (Wv e2 hu)
 cases no with
 |true=>exact wpAny_isNot_plain g.1 (by rw[g.2,show(!decide (qV tx=ab dd))=(decide (qV tx=ab dd) !=true)from(Bool.bne_true _).symm];exact hQ s₂ (k₁.trans k₂))
 |false=>exact wpAny_is_plain g.1 (by rw[g.2,show decide (qV tx=ab dd)=(decide (qV tx=ab dd) !=false)from(Bool.bne_false _).symm];exact hQ s₂ (k₁.trans k₂))
def Wx(h1:Gd a .a9 c [l])(h2:Gd b .a9 c [q]):Gd (.jt a b) .a9 c [.BoolOp .And [l,q] p]:=λH z z z z z z at_ e=>by
 refine aO e λtx e1 e=>gi e λhp e nS E=>ams (amt (tl (h1 H at_ e1) hp λaB k₁=>?_))
 cases ht:tx.truth with
 |true=>
  rw[ht,ah rfl]at e
  refine amt (tl (h2 H (at_.kp k₁) e) nS λs₂ k₂=>?_)
  split
  ·exact wpAny_allTrue_And_nil ⟨Eq.symm ‹_›,k₁.trans k₂⟩
  ·exact⟨(qA.mpr ‹_›).symm,k₁.trans k₂⟩
 |false=>rw[ht]at e;cases e;exact⟨ht.symm,k₁⟩
def Wy(hm:m.v=true)(ht:m≠.a9)(h1:Gd a .val c [l])(h2:Gd b .val c [q]):Gd (.jt a b) m c [.BoolOp .And [l,q] p]:=λH y y y y y y at_ e=>by
 refine aO e λtx e1 e=>gi e λhp e=>fQ at_ hm (λE=>wpAny_And2 (vl (h1 H at_ e1) λv aB k₁ bD=>BD hp (.of bD) λs₂ k₂=>?_)) λz=>aj z ht
 have a1:=at_.kp k₁
 cases hh:tx.truth with
 |true=>rw[hh,ah rfl]at e;exact vl (h2 H (a1.kp k₂) e) λu aX fR tV=>⟨(k₁.trans k₂).trans fR,tV⟩
 |false=>rw[hh]at e;cases e;exact⟨k₁.trans k₂,bD.kp a1.ng k₂⟩
def Wz(h1:Gd a .a9 c [l])(h2:Gd b .a9 c [q]):Gd (.vK a b) .a9 c [.BoolOp .Or [l,q] p]:=λH z z z z z z at_ e=>by
 refine aO e λtx e1 e=>gi e λhp e nS E=>ams (amu (tl (h1 H at_ e1) hp λaB k₁=>?_))
 cases ht:tx.truth with
 |true=>rw[ht]at e;cases e;exact⟨ht.symm,k₁⟩
 |false=>
  rw[ht]at e
  refine amu (tl (h2 H (at_.kp k₁) e) nS λs₂ k₂=>?_)
  split
  ·exact⟨Eq.symm ‹_›,k₁.trans k₂⟩
  ·exact wpAny_allTrue_Or_nil ⟨(qA.mpr ‹_›).symm,k₁.trans k₂⟩
def WA(hm:m.v=true)(ht:m≠.a9)(h1:Gd a .val c [l])(h2:Gd b .val c [q]):Gd (.vK a b) m c [.BoolOp .Or [l,q] p]:=λH y y y y y y at_ e=>by
 refine aO e λtx e1 e=>gi e λhp e=>fQ at_ hm (λE=>wpAny_Or2 (vl (h1 H at_ e1) λv aB k₁ bD=>BD hp (.of bD) λs₂ k₂=>?_)) λz=>aj z ht
 have a1:=at_.kp k₁
 cases hh:tx.truth with
 |true=>rw[hh]at e;cases e;exact⟨k₁.trans k₂,bD.kp a1.ng k₂⟩
 |false=>rw[hh]at e;exact vl (h2 H (a1.kp k₂) e) λu aX fR tV=>⟨(k₁.trans k₂).trans fR,tV⟩
def WB(hm:m.v=true)(ht:m≠.a9)(h1:Gd e .a9 c [l])(h2:Gd a .val c [x])(h3:Gd b .val c [y]):Gd (.ite e a b) m c [.IfExp l x y p]:=λH w w w w w w at_ e=>by
 refine aO e λtx e1 e=>gi e λhp e=>fQ at_ hm (λE=>wpAny_IfExp (tl (h1 H at_ e1) hp λaB k₁=>?_)) λz=>aj z ht
 cases hh:tx.truth with
 |true=>rw[hh,ah rfl]at e;exact vl (h2 H (at_.kp k₁) e) λu aX fR tV=>⟨k₁.trans fR,tV⟩
 |false=>rw[hh]at e;exact vl (h3 H (at_.kp k₁) e) λu aX fR tV=>⟨k₁.trans fR,tV⟩
def WC{j:Nat}(hm:m.v=true)(h1:Gd a .chain c es):Gd (.tup a) m c [.Tuple es j p]:=λH z z z z z z at_ e=>by
 refine aO e λtx e1 ea=>kJ ea λl q eb=>ifs eb λhz ez=>?_
 clear e ea eb
 subst ez;subst q
 exact fQ at_ hm (λE=>TH (cl (h1 H at_ e1) λvs aB k₁ bD=>
  have n:=Lc (at_.kp k₁).ng bD hz (tk:=aB.toks) (e:=0);⟨by rw[bD.length];exact dS hz,k₁.trans n.1,n.2.1⟩)) λz=>rfl
def mQ.base{X:Kx}{N:Addr->Prop}{s aB s₂:az}{t:T}{v:ay}(k:Kp X s aB)(x:mQ X N aB t v s₂):mQ X N s t v s₂:=⟨k.trans x.1,x.2.1,x.2.2.elim λb z=>⟨b,z.1,aD k.size z.2.1,z.2.2⟩⟩
def WD(hm:m.vo=true)(h1:Gd a .chain c es):Gd (.lst a) m c [.List es p]:=λH z z z z z z at_ e=>by
 refine aO e λtx e1 ea=>kJ ea λl q eb=>ifs eb λhz ez=>?_
 clear e ea eb
 subst ez;subst q
 exact BG at_ hm (λE=>JK (cl (h1 H at_ e1) λvs aB k₁ bD=>⟨by rw[bD.length];exact dS hz,(q7 (at_.kp k₁).ng bD hz (tk:=aB.toks) (e:=0)).base k₁⟩)) λz=>rfl
end
def LB{l:List (Str×Int)}{aZ:List (Str×ay)}(hp:jO DK l aZ)(k:Str):(∀v,l.lookup k=ab v->∃t,Dv aZ k=ab (.int v t))/\(l.lookup k=ae->Dv aZ k=ae):=by
 induction hp with
 |nil=>exact⟨λy e=>aN e,λy=>rfl⟩
 | @cons a b Ew Ey h _ ih=>
  obtain⟨k1,v1⟩:=a
  obtain⟨k2,v2⟩:=b
  obtain⟨e1,hz,t,e2⟩:=h
  dsimp only at e1 e2
  subst e1;subst e2
  unfold Dv at ih ⊢
  rw[cE,TJ]
  by_cases q:k1=k
  ·subst q;simp
  ·have q':(k==k1)=false:=beq_eq_false_iff_ne.mpr λz=>q z.symm
   rw[q',av q]
   exact ih
section
variable{X:Kx}{k:Nat}{A:aM}{env:Env}{c:Sc}{N:Addr->Prop}{r:aE}{s s':az}{E:ay->az->Prop}{t x y z:T}{v u:ay}{Q:ay->az->Prop}
def Ez(s:az)(o:ay):Prop:=∃T id,sW (.type T) "__getitem__"=pure (ab (.builtin id))/\s.TypeIs o T
noncomputable def EA:T->Bool
 |.lst _|.tup _|.str _|.aY _=>true
 |_=>false
def LC(h:EA x=true)(hv:VB X N s.heap x v):Ez s v:=by
 cases x with
 |lst l=>exact hv.list λa vs hl z z=>⟨"list",_,list_getitem_lookup,hl.isList.typeIs⟩
 |tup l=>exact hv.KW λa vs ho z z=>⟨"tuple",_,F.slot_tuple_getitem.lookup,ho.isTup.typeIs⟩
 |str x=>exact hv.c6 λu z=>⟨"str",_,F.slot_str_getitem.lookup,sX _ _ _⟩
 |aY l=>exact hv.dict λa o aZ ho hd z z z=>⟨"dict",_,slot_dict_getitem.lookup,(sT.mpr ⟨o,ho,hd⟩).typeIs⟩
 |_=>exact aj h bT
def WE{slice:aW}{o i:ay}:∃ops,subscripted slice false o i=operate ops (xE o i):=by
 cases slice with
 |Slice a b st p=>cases st<;>exact⟨_,rfl⟩
 |_=>exact⟨_,rfl⟩
def EB{value slice:aW}{pos:Pos}
  (h:aA (model X.prog X.w) A (eval value env) (λo aB=>aA (model X.prog X.w) A (eval slice env) (λi s₂=>Ez s₂ o/\aA (model X.prog X.w) A (xE o i) Q E s₂) E aB) E s):
  aA (model X.prog X.w) A (eval (.Subscript value slice pos) env) Q E s:=by
 rw[eval_Subscript]
 refine aG (mo h λo aB bJ=>aG (dN (mo bJ λi s₂ h₂=>aG (lL ?_))))
 obtain⟨⟨T,id,hl,hT⟩,hg⟩:=h₂
 refine aG ?_
 rw[getitemInPython_of_ne hT.not_modules]
 refine aG (JL hT hl ?_)
 have fin:aA (model X.prog X.w) A (subscripted slice false o i) (λr aX=>aA (model X.prog X.w) A (letTemporaryGo value o r>>=λz=>pure r) Q E aX) E s₂:=
  (WE (slice:=slice) (o:=o) (i:=i)).elim λops hs=>by
   rw[hs];exact wpAny_operating (mo hg λr aX j0=>aG (TK (aQ j0)))
 first
  |exact aQ (aG fin)
  |exact aG (aQ (aG fin))
  |exact aG fin
def LD{l:List (Str×Int)}{k:Str}{d:Addr}{t:Tok}{o:Obj}{aZ:List (Str×ay)}{i:Int}(ho:s.heap.get? d=ab o)(hd:o.IsDictOf (strKind X.prog X.w) aZ)(hs:jO DK l aZ)(e:l.lookup k=ab i)(q:∀u s',Kp X s s'->Q (.int i u) s'):
  aA (model X.prog X.w) A (xE (.ref d) (.str k t)) Q E s:=
 ((LB hs k).1 i e).elim λu e2=>wpAny_getItem_of (vh X.prog X.w k t) (sT.mpr ⟨o,ho,hd⟩).mapOf e2 (q _ _ Kp.tok)
def WG(e:kC x y=ab z):EA x=true:=by cases x<;>first|rfl|exact aN e
def WH{a b:Ex}{m:Mode}{l q:aW}{p:Pos}(hm:m.v=true)(h1:Gd a .bor c [l])(h2:Gd b .val c [q]):Gd (.idx a b) m c [.Subscript l q p]:=λH z z z z z z at_ e=>by
 refine aO e λtx e1 e=>aO e λty e2 e=>fQ at_ hm (λE=>EB (two at_ (h1 H at_ e1) (λa=>Lz h2 H a e2) λv u s₂ k₂ vR hv hu=>⟨LC (WG e) hv,Ln e hv hu (λs' r fR j0=>⟨k₂.trans fR,j0⟩) λl k d t o aZ i=>LD⟩)) λz=>rfl
def vS{h:Heap}{o:Option Int}(e:yr x=ab o)(hv:VB X N h x v):IsPart v o/\∃p:Option (Int×Tok),v=partValue p/\p.map (·.1)=o:=by
 cases x with
 |none=>cases e;rw[show v=.none from(hv.vr rfl).inv];exact⟨.none,ae,rfl,rfl⟩
 |int i=>exact ifs e λz e=>e▸hv.eR λt=>⟨.int _ _,ab (_,t),rfl,rfl⟩
 |_=>exact aN e
def LF{α:Type}(xs:List α)(lo hi:Option Int):(gA xs lo hi).length<=xs.length:=aD (List.length_take_le' _ _) (by rw[Dz];exact mC _ _)
def WI{h:Heap}{ts:List T}{vs:List ay}(x:aL X N h ts vs)(lo hi:Option Int):aL X N h (gA ts lo hi) (gA vs lo hi):=by
 unfold gA
 rw[x.length]
 exact(x.drop _).take _
def WJ(vs:List ay)(lo hi:Option Int):slicePick vs.toArray lo hi ae=(gA vs lo hi).toArray:=by
 rw[slicePick_plain];unfold gA;simp
def LG(lo hi:Option Int)(n:Nat):AV lo hi 1 n=sliceRange (TL lo hi ae n).1 (TL lo hi ae n).2.1 (TL lo hi ae n).2.2:=by
 cases lo<;>cases hi<;>rfl
def WK(n:Nat):AV ae ae (-1) n=sliceRange ((n:Int) - 1) (-1) (-1):=by
 first
 |rfl
 |simp [AV]
def WL(x:Str)(lo hi:Option Int):(AV lo hi 1 x.length).filterMap (x.cps[·]?)=gA x.cps.toList lo hi:=by
 rw[LG,amy]
 simp only[sliceRange_one,pick_run]
 unfold gA Str.length
 simp
def WM(x:Str):(AV ae ae (-1) x.length).filterMap (x.cps[·]?)=x.cps.toList.reverse:=by
 rw[WK,W.krv_sliceRange,W.krv_range,List.filterMap_reverse]
 exact af _ (W.krv_all x.cps)
def WN{α:Type}(xs:List α)(lo hi:Option Int)(h:(gA xs lo hi).length=xs.length):gA xs lo hi=xs:=by
 have hs:(gA xs lo hi).Sublist xs:=(List.take_sublist _ _).trans (List.drop_sublist _ _)
 exact hs.eq_of_length h
def WO(n:Nat)(o:Option Int):o.elim n (xA n)<=n:=by
 cases o with
 |none=>exact bj _
 |some i=>
  refine dh.mp ?_
  show((xA n i:Nat):Int)<=n
  rw[clipAt_cast]
  exact Int.max_le.mpr ⟨cy _,amA _ _⟩
def str_len(x:Str)(lo hi:Option Int):(AV lo hi 1 x.length).length=(gA x.cps.toList lo hi).length:=by
 rw[LG,amy]
 simp only[sliceRange_one,bK,kr]
 unfold gA
 rw[JM,Dz,vg]
 exact(DA (JN (WO x.cps.size hi) _)).symm
def LH{l:List Nat}{t:Tok}{tk:Nat}(h:l.length<=lim):Res X N s (.str ⟨l.toArray⟩) (.str ⟨l.toArray⟩ t) {s with toks:=tk}:=⟨Kp.tok,.str _ _ (by show(oD _).size<=lim;rw[bU];exact h)⟩
def WR{rv:Bool}{BH BI:T}{rm vT w:ay}{I:Addr}(h:mL rv x BH BI=ab z)(hv:VB X N s.heap x v)(h1:VB X N s.heap BH rm)(h2:VB X N s.heap BI vT)(n:NG X N s.heap)
  (hs:s.heap.IsSliceOf I rm vT w) (hw:if rv then∃t,w=.int (-1) t else w=.none):aA (model X.prog X.w) A (xE v (.ref I)) (Res X N s z) E s:=by
 have hp:∀{f:Option Int->Option Int->T}{g:T},Ek rv BH BI f g=ab z->∃lo hi,yr BH=ab lo/\yr BI=ab hi/\(if rv then lo=ae/\hi=ae/\g=z else f lo hi=z):=λe=>aO e λlo e1 e=>aO e λhi e2 e=>⟨lo,hi,e1,e2,by
  cases rv with
  |false=>exact Option.some.inj e
  |true=>exact ifs e λq e=>⟨q.1,q.2,e⟩⟩
 cases x with
 |lst l=>
  obtain⟨lo,hi,e1,e2,e⟩:=hp h
  refine hv.list λa vs hl hz r=>?_
  have LI:vs.toArray.size<=ph:=by rw[bU,r.length];exact dS hz
  cases rv with
  |false=>
   cases hw
   refine amB hl.isList hs (vS e1 h1).1 (vS e2 h2).1 .none (by simp) ?_ LI
   rw[WJ,<-show T.lst (gA l lo hi)=z from e]
   exact(q7 n (WI r lo hi) (aD (LF _ _ _) hz) (tk:=s.toks) (e:=0)).res
  |true=>
   obtain⟨rfl,rfl,rfl⟩:=e
   refine hw.elim λt e=>?_
   subst e
   refine amB hl.isList hs (vS e1 h1).1 (vS e2 h2).1 (.int (-1) t) (by simp) ?_ LI
   rw[W.krv_pick]
   exact(q7 n r.rev (by rw[pn];exact hz) (tk:=s.toks) (e:=0)).res
 |str x=>
  obtain⟨lo,hi,e1,e2,e⟩:=hp h
  refine hv.c6 λt hz=>?_
  have iH:x.cps.toList.length<=lim:=by rw[vg];exact hz
  obtain⟨_,p1,rfl,f1⟩:=vS e1 h1
  obtain⟨_,p2,rfl,f2⟩:=vS e2 h2
  cases rv with
  |false=>
   cases hw
   refine amC (l:=p1) (u:=p2) (st:=ae) hs rfl ?_
   unfold sliceMade slicePicked
   simp only[Option.map_none,Option.getD_none]
   rw[WL,f1,f2,str_len,<-show T.str ⟨(gA x.cps.toList lo hi).toArray⟩=z from e]
   by_cases q:(gA x.cps.toList lo hi).length=x.length
   ·rw[ah (by simp [q]),WN x.cps.toList lo hi (q.trans (vg ..).symm)]
    exact⟨.refl s,.str _ _ hz⟩
   ·rw[ai (by simp [q])]
    have l1:=aD (LF x.cps.toList lo hi) iH
    exact⟨dS (by show(oD _).size<=lim;rw[bU];exact l1),LH l1⟩
  |true=>
   obtain⟨rfl,rfl,rfl⟩:=e
   refine hw.elim λt e=>?_
   subst e
   refine amC (l:=p1) (u:=p2) (st:=ab (-1,t)) hs rfl ?_
   unfold sliceMade slicePicked
   simp only[AW,amF,f1,f2]
   rw[WM,ai (by simp)]
   have l1:x.cps.toList.reverse.length<=lim:=by rw[pn];exact iH
   exact⟨dS (by show(oD _).size<=lim;rw[bU];exact l1),LH l1⟩
 |_=>exact aN h
def Pd(e:Ex)(c:Sc)(o:Option aW):Prop:=∀{C k},Ok C k->∀{A env N r s t},At C.X k A env c N r s->ev C.F e r=ab t->∀E,aA (model C.X.prog C.X.w) A (evalPart o env) (BF C.X N s t) E s
def WS{c:Sc}:Pd .absent c ae:=λH z z z z s t a e E=>by cases e;exact aQ ⟨.refl s,.of .none⟩
def WT{e:Ex}{c:Sc}{x:aW}(h:Gd e .val c [x]):Pd e c (ab x):=λH y y y y s t a e E=>mo (h H a e E) λy y z=>z.b
def WU{rv:Bool}{x a b z:T}(e:mL rv x a b=ab z):EA x=true:=by cases x<;>first|rfl|exact aN e
def WV{rv:Bool}{a lo hi:Ex}{m:Mode}{l:aW}{y z w:Option aW}{p p':Pos}(hm:m.v=true)(h1:Gd a .bor c [l])(h2:Pd lo c y)(h3:Pd hi c z)
  (hw:if rv then∃j sq sr,w=ab (.UnaryOp .USub (.Constant (.int 1) j sq) sr)else w=ae):Gd (.cY rv a lo hi) m c [.Subscript l (.Slice y z w p) p']:=λ{C k}H A env N r s t at_ e=>by
 refine aO e λtx e1 e=>aO e λty e2 e=>aO e λtz e3 e=>fQ at_ hm (λE=>EB (bl (h1 H at_ e1) λv aB k₁ bD=>?_)) λx=>rfl
 have a1:=at_.kp k₁
 refine wpAny_Slice (mo (h2 H a1 e2 E) λrm s₂ nT=>?_)
 have a2:=a1.kp nT.1
 refine mo (h3 H a2 e3 E) λvT aX oV=>?_
 have a3:=a2.kp oV.1
 have LK:=nT.1.trans oV.1
 have fin:∀(aS:az)(w:ay),Kp C.X aX aS->(if rv then∃t,w=.int (-1) t else w=.none)->
   Ez {aS with heap:=aS.heap.push {cls:=.type "slice",data:=.fields #[rm,vT,w]}} v/\
   aA (model C.X.prog C.X.w) A (xE v (.ref aS.heap.objs.size)) (Res C.X N s t) E {aS with heap:=aS.heap.push {cls:=.type "slice",data:=.fields #[rm,vT,w]}}:=by
  intro aS w WW hw
  have iI:=WW.trans (Kp.push (s:=aS) (o:={cls:=.type "slice",data:=.fields #[rm,vT,w]}) (tk:=aS.toks))
  have a5:=a3.kp iI
  have v5:=bD.kp a1.ng (LK.trans iI) a1.apart
  exact⟨LC (WU e) v5,mo (WR e v5 (nT.2.kp a2.ng (oV.1.trans iI) a2.apart) (oV.2.kp a3.ng iI a3.apart) a5.ng (Heap.IsSliceOf.new ..) hw) λw' nU LL=>⟨((k₁.trans LK).trans iI).trans LL.1,LL.2⟩⟩
 cases rv with
 |false=>cases hw;exact aQ (fin aX .none (.refl aX) rfl)
 |true=>
  obtain⟨j,sq,sr,rfl⟩:=hw
  first
   |exact Dy (JI (TF (fin _ (.int (-1) _) Kp.tok ⟨_,rfl⟩)))
   |exact Dy (JI (TF (fin _ _ Kp.tok ⟨_,rfl⟩)))
end
def ED{M:mz}{Γ:TM}{p:Pos}{t:Sem Fin}{fs:List Frame}{s s':az}{e:End}(h:Runs M Γ p t fs s e s'):s.heap.objs.size<=s'.heap.objs.size:=by
 induction h<;>(try simp only[az.setGen,fh,xI]at*)<;>first|assumption|exact bj _|exact aD (by assumption) (by assumption)|exact oE (by assumption)|omega
def WX{M:mz}{Γ:TM}{p:Pos}{g:Nat}{r:Resume}{s s':az}{res:GenResult}(h:Wakes M Γ p g r s res s'):s.heap.objs.size<=s'.heap.objs.size:=by
 unfold Wakes at h
 cases hg:s.gens[g]? with
 |none=>rw[hg]at h;exact h.elim
 |some y=>
  rw[hg]at h
  cases y with
  |fresh c=>
   cases r with
   |send v=>cases v with
    |none=>obtain⟨mR,aB,hr,_,_,rfl⟩:=h;exact(ED hr:(s.setGen g .running).heap.objs.size<=aB.heap.objs.size)
    |_=>exact bO (af (λs=>s.heap.objs.size) h.2.symm)
   |throw x=>exact bO (af (λs=>s.heap.objs.size) h.2.symm)
  |suspended k₀ _ c₀ ap7 fs _=>obtain⟨mR,aB,hr,_,_,rfl⟩:=h;exact(ED hr:(s.setGen g .running).heap.objs.size<=aB.heap.objs.size)
  |running=>exact bO (af (λs=>s.heap.objs.size) h.2.symm)
  |finished=>exact bO (af (λs=>s.heap.objs.size) h.2.symm)
def WY{α:Type}(M:mz)(Γ:TM)(n:Nat)(t:Sem α):∀(Q:α->Pos->az->Prop)(E:ay->Pos->az->Prop)(p:Pos)(s:az),n<=s.heap.objs.size->Sem.wp M Γ t Q E p s->
  Sem.wp M Γ t (λa p' s'=>n<=s'.heap.objs.size/\Q a p' s') (λe p' s'=>n<=s'.heap.objs.size/\E e p' s') p s:=by
 induction t with
 |pure a=>intro Q E p s hn h;exact⟨hn,h⟩
 |raise e=>intro Q E p s hn h;exact⟨hn,h⟩
 |unsupported _=>intro Q E p s _ h;exact h
 |finish _=>intro Q E p s _ h;exact h
 |rule _ k ih=>intro Q E p s hn h;exact ih () Q E p s hn h
 |«at» p' k ih=>intro Q E p s hn h;exact ih () Q E p' s hn h
 |load a _ k ih=>intro Q E p s hn h;exact h.elim λo z=>⟨o,z.1,ih o Q E p s hn z.2⟩
 |update a _ f k ih=>intro Q E p s hn h;exact⟨h.1,ih () Q E p _ (by show n<=(s.heap.update a f).objs.size;rw[xI];exact hn) h.2⟩
 |loadIfAlive a k ih=>intro Q E p s hn h;exact ih _ Q E p s hn h
 |point _ k ih=>intro Q E p s hn h;exact ih () Q E p s hn h
 |register _ _=>intro Q E p s _ h;exact h
 |alloc o k ih=>intro Q E p s hn h;exact ih _ Q E p _ (aD hn (rg _ _)) h
 |fresh k ih=>intro Q E p s hn h;exact ih _ Q E p _ hn h
 |ask k ih=>intro Q E p s hn h;exact ih _ Q E p s hn h
 |choose src m k ih=>intro Q E p s hn h;exact⟨h.1,ih _ Q E p _ hn h.2⟩
 |os q _ k ih=>intro Q E p s hn h;exact ih _ Q E p _ hn h
 |call c hd _ _ k ih=>intro Q E p s hn h;exact h.elim λr h=>h.elim λs' z=>⟨r,s',z.1,ih r Q E p s' (aD hn (ED z.1)) z.2⟩
 |handled own k ih=>intro Q E p s hn h;exact ih _ Q E p s hn h
 |genState g k ih=>intro Q E p s hn h;exact h.elim λst z=>⟨st,z.1,ih _ Q E p s hn z.2⟩
 |newGen c k ih=>intro Q E p s hn h;exact ih _ Q E p _ hn h
 |resume g r _ k ih=>intro Q E p s hn h;exact h.elim λres h=>h.elim λs' z=>⟨res,s',z.1,ih res Q E p s' (aD hn (WX z.1)) z.2⟩
 |yield _ _ _ _=>intro Q E p s _ h;exact h
 |stack k ih=>intro Q E p s hn h;exact ih _ Q E p s hn h
 |fork _ _=>intro Q E p s _ h;exact h
 |thread k ih=>intro Q E p s hn h;exact ih _ Q E p s hn h
 |await _ _ _ _ _=>intro Q E p s _ h;exact h
def fe{α:Type}{M:mz}{A:aM}{s:az}{t:Sem α}{Q:α->az->Prop}{E:ay->az->Prop}
  (h:aA M A t (λa s'=>s.heap.objs.size<=s'.heap.objs.size->Q a s') E s):aA M A t Q E s:=
 have k:aA M A t (λa s'=>s.heap.objs.size<=s'.heap.objs.size/\(s.heap.objs.size<=s'.heap.objs.size->Q a s')) (λe s'=>s.heap.objs.size<=s'.heap.objs.size/\E e s') s:=
  λΓ p EE=>WY M Γ s.heap.objs.size t _ _ p s (bj _) (h Γ p EE)
 eE k (λz z x=>x.2 x.1) (λz z x=>x.2)
section
variable{M:mz}{A:aM}{E:ay->az->Prop}{s:az}
def ic{f:ay}{args:List (Bool×Sem ay)}{Q:Args->az->Prop}(hp:args.any (·.1)=false)(h:aA M A (pj args) (λvs s'=>Q ⟨vs,[]⟩ s') E s):aA M A (evalArgs f true args []) Q E s:=by
 cases args with
 |nil=>
  unfold evalArgs
  show aA M A (pj []>>=_) Q E s
  refine aG (eE h (λvs s' h'=>aG (aQ ?_)) λz z x=>x)
  refine dN ?_
  exact aG (aQ (aG (aQ (aQ h'))))
 |cons p r=>
  obtain⟨b,x⟩:=p
  cases b with
  |false=>exact AX h
  |true=>exact aj hp Bool.noConfusion
end
section
open AutoSeq1 (wpAny_loadPart')
def WZ{prog:gK}{w:gY}{A:aM}{E:ay->az->Prop}{s:az}{Q:List ay->az->Prop}(it:Addr){T:String}{o:Obj}{items:Array ay}{n:Nat}(hT:T="list"∨T="tuple")
  (ho:s.heap.get? it=ab o) (hc:o.cls=.type T) (hd:o.data=.seq items n)
  (hQ:∀h',(∀b o',s.heap.get? b=ab o'->h'.get? b=ab o')->s.heap.objs.size<=h'.objs.size->Q items.toList {s with heap:=h'}) (hsz:items.size<=ph:=by size_fits):
  aA (model prog w) A (collect (.ref it)) Q E s:=
 fe (wpAny_collect_seq (hsz:=hsz) it hT ho hc hd λh' hk z=>hQ h' hk z)
def W0(l:Addr)(o:Obj)(items:Array ay)(n:Nat)(hc:o.cls=.type "list")(hd:o.data=.seq items n)(hsz:items.size<=ph:=by size_fits):
  DB (eN.«tuple.__new__» ⟨[.type "tuple",.ref l],[]⟩)
   (λz R s=>s.heap.get? l=ab o/\∀h':Heap,(∀b o',s.heap.get? b=ab o'->h'.get? b=ab o')->s.heap.objs.size<=h'.objs.size->R (.ok (.ret (.ref h'.objs.size))) {s with heap:=h'.push {cls:=.type "tuple",data:=.seq items}}):=
 .of_wp λprog w A R s h=>by
  obtain⟨hp,g,d,tk,os⟩:=s;obtain⟨ht,h⟩:=h
  have tW:=sub_tuple_self
  have ap8:=init_tuple_lookup
  have hmh:=madeHere_tuple
  have hT:amM ⟨hp,g,d,tk,os⟩ (.ref l) "list":=⟨o,ht,hc⟩
  wp_walk using AY ht,TO hT,WZ (hsz:=hsz) l (.inl rfl) ht hc hd
  intro h' hk hz
  show aA _ _ (amN items.toList.toArray>>=λv=>ret v) _ _ _
  unfold amN
  refine aG (sY ?_ (by show items.toList.toArray.size<=ph;simpa using hsz))
  refine aQ ⟨_,rfl,?_⟩
  have e:items.toList.toArray=items:=by simp
  rw[e]
  exact h h' hk hz
def tuple_list{prog:gK}{w:gY}{A:aM}{E:ay->az->Prop}{s:az}{l:Addr}{items:Array ay}{Q:ay->az->Prop}(hl:s.heap.IsList l items)
  (h:∀h':Heap,(∀b o',s.heap.get? b=ab o'->h'.get? b=ab o')->s.heap.objs.size<=h'.objs.size->Q (.ref h'.objs.size) {s with heap:=h'.push {cls:=.type "tuple",data:=.seq items}})
  (hsz:items.size<=ph:=by size_fits):
  aA (model prog w) A (call (.type "tuple") [.ref l]) Q E s:=by
 obtain⟨o,ho,hc,n,hd⟩:=hl
 exact JO PySem.F.called_tuple (by decide) (PySem.F.typeCall_tuple_1 _) (PySem.F.newCall_tuple_1 _) (λobj=>PySem.F.args_object_init_2 obj _) PySem.F.entry_tuple_new
  (W0 l o items n hc hd hsz) ⟨ho,λh' hk hz=>⟨⟨_,cD _ rfl,rfl⟩,h h' hk hz⟩⟩
end
def W2(pos:Pos)(l:List (Bool×Sem ay)):(mA pos l).any (·.1)=l.any (·.1):=by unfold mA;rw[List.any_map];rfl
def W3(env:Env):∀{es:List aW},es.all notStar=true->(jS es env).any (·.1)=false:=by
 intro es
 induction es with
 |nil=>exactλh=>rfl
 |cons x xs ih=>
  intro h
  have h:=ik.mp h
  rw[yH h.1,DC,ih h.2];rfl
def jw(env:Env)(pos:Pos){es:List aW}(h:es.all notStar=true):(mA pos (jS es env)).any (·.1)=false:=by rw[W2];exact W3 env h
def BJ{X:Kx}{N:Addr->Prop}{h:Heap}:∀{l:List T}{vs:List ay}{ns:List Int},mM l=ab ns->aL X N h l vs->IntsAre vs ns:=by
 intro l
 induction l with
 |nil=>exactλe x=>Option.some.inj e▸x.qR .nil
 |cons t ts ih=>
  intro vs ns e x
  refine x.tN λv ws a b=>fb e λi q ea=>map_some ea λms e1 ez=>?_
  clear e ea x
  subst ez;subst q
  exact a.eR λu=>.cons _ _ (ih e1 b)
def W4:∀{l:List T}{ns:List Int},mM l=ab ns->l=ns.map .int:=by
 intro l
 induction l with
 |nil=>exactλe=>Option.some.inj e▸rfl
 |cons t ts ih=>exactλe=>fb e λi q e=>map_some e λms e1 e=>by rw[<-e,q,ih e1];rfl
def W7{X:Kx}{N:Addr->Prop}{h:Heap}{vs:List ay}{ns:List Int}(x:IntsAre vs ns):aL X N h (ns.map .int) vs:=by
 induction x with
 |nil=>exact .nil
 |cons n t r ih=>exact .cons (.int n t) ih
def insI_perm(x:Int)(l:List Int):(insI x l).Perm (x::l):=by
 induction l with
 |nil=>exact .refl _
 |cons y r ih=>
  by_cases q:x<=y
  ·exact .of_eq (ah q)
  ·exact(amO (ai q)).trans ((ih.cons y).trans (.swap x y r))
theorem sortI_perm:∀l,(sortI l).Perm l
 |[]=>.refl _
 |x::r=>(insI_perm x _).trans ((sortI_perm r).cons x)
def W8(x:Int)(l:List Int)(h:l.Pairwise (· <=·)):(insI x l).Pairwise (· <=·):=by
 induction l with
 |nil=>exact TR _ x
 |cons y r ih=>
  have hp:=vj.mp h
  by_cases q:x<=y
  ·rw[show insI x (y::r)=x::y::r from ah q]
   refine vj.mpr ⟨λz hz=>?_,h⟩
   rcases br.mp hz with rfl|hz
   ·exact q
   ·exact dn q (hp.1 z hz)
  ·rw[show insI x (y::r)=y::insI x r from ai q]
   refine vj.mpr ⟨λz hz=>?_,ih hp.2⟩
   rcases br.mp ((insI_perm x r).mem_iff.mp hz)with rfl|hz
   ·exact AR (Jy.mp q)
   ·exact hp.1 z hz
theorem LM:∀l,(sortI l).Pairwise (· <=·)
 |[]=>.nil
 |x::r=>W8 x _ (LM r)
def W9{a b:List Int}(p:a.Perm b)(ha:a.Pairwise (· <=·))(hb:b.Pairwise (· <=·)):a=b:=p.eq_of_pairwise (λz z z z=>TS) ha hb
def Xa{f:Int->Int->Int}{le:Int->Int->Prop}(rf:∀a,le a a)(tr:∀{a b c},le a b->le b c->le a c)(h1:∀a b,le (f a b) a)(h2:∀a b,le (f a b) b)(h3:∀a b,f a b=a∨f a b=b)(l:List Int):∀a:Int,le (l.foldl f a) a/\(∀x∈l,le (l.foldl f a) x)/\(l.foldl f a=a∨l.foldl f a∈l):=by
 induction l with
 |nil=>exactλa=>⟨rf a,λz h=>aj h gM,.inl rfl⟩
 |cons y r ih=>
  intro a
  have ih:=ih (f a y)
  rw[al6]
  refine⟨tr ih.1 (h1 a y),λx hx=>?_,?_⟩
  ·rcases br.mp hx with rfl|hx
   ·exact tr ih.1 (h2 a _)
   ·exact ih.2.1 x hx
  ·rcases ih.2.2 with q|q
   ·rw[q];exact(h3 a y).imp id λe=>by rw[e];exact bk
   ·exact .inr (bS _ q)
section
variable{X:Kx}{N:Addr->Prop}{s:az}{A:aM}{E:ay->az->Prop}{t:T}
def LN{ns:List Int}{vs:List ay}(hi:IntsAre vs ns):∃xs:Array (Int×Tok),TU xs=vs.toArray/\xs.toList.map (·.1)=ns:=by
 induction hi with
 |nil=>exact⟨#[],by simp [TU],rfl⟩
 |cons n t _ ih=>
  obtain⟨xs,e1,e2⟩:=ih
  refine⟨((n,t)::xs.toList).toArray,?_,by rw[JE,qB,e2]⟩
  have:=af TV e1
  simp only[TU,Array.toList_map]at this ⊢
  apply TX.mp
  simp [this]
def Xb{xs:Array (Int×Tok)}{i:Nat}(h:i<xs.size):qC xs i∈xs.toList.map (·.1):=by
 unfold qC
 rw[oF h]
 simp only[AW,amF]
 exact dy.mpr ⟨xs[i],by simp,rfl⟩
def Xc{xs:Array (Int×Tok)}{x:Int}(h:x∈xs.toList.map (·.1)):∃i,i<xs.size/\qC xs i=x:=by
 obtain⟨p,hp,rfl⟩:=dy.mp h
 obtain⟨i,hi,e⟩:=List.mem_iff_getElem.mp hp
 refine⟨i,by simpa using hi,?_⟩
 unfold qC
 rw[oF (by simpa using hi)]
 simp only[Array.getElem_toList]at e
 rw[e];rfl
def LP{f:Int->Int->Int}{le:Int->Int->Prop}(rf:∀a,le a a)(tr:∀{a b c},le a b->le b c->le a c)(as:∀{a b},le a b->le b a->a=b)(h1:∀a b,le (f a b) a)(h2:∀a b,le (f a b) b)(h3:∀a b,f a b=a∨f a b=b)
  {xs:Array (Int×Tok)} {x:Int} {r:List Int} (e:xs.toList.map (·.1)=x::r) {i:Nat} (hi:i<xs.size) (hb:∀j,j<=xs.size - 1->le (qC xs i) (qC xs j)):qC xs i=r.foldl f x:=by
 obtain⟨g1,g2,g3⟩:=Xa rf tr h1 h2 h3 r x
 have m1:=Xb hi
 rw[e]at m1
 have lo:le (r.foldl f x) (qC xs i):=(br.mp m1).elim (λq=>q▸g1) (g2 _)
 have mem:r.foldl f x∈xs.toList.map (·.1):=by
  rw[e];exact g3.elim (λq=>by rw[q];exact bk) (bS _)
 obtain⟨j,hj,e4⟩:=Xc mem
 exact as (e4▸hb j (amP hj)) lo
def Xd{i j:Int}{u v:Tok}(a:RA 0 A):aA (model X.prog X.w) A (call (.builtin "max") [.int i u,.int j v]) (Res X N s (.int (if j>i then j else i))) E s:=by
 refine fe (max_two_ints a.handled λh' tk hk hsz=>?_)
 split
 ·exact⟨Kp.of hk hsz,.int _ _⟩
 ·exact⟨Kp.of hk hsz,.int _ _⟩
def LQ{tp:String}{vs:List ay}{l:List T}{h':Heap}{c:Nat}(n:NG X N s.heap)(hk:∀b o,s.heap.get? b=ab o->h'.get? b=ab o)(hsz:s.heap.objs.size<=h'.objs.size)(hD:h'.get? s.heap.objs.size=ab {cls:=.type "list",data:=.seq vs.toArray c})(hz:l.length<=lim)(hs:aL X N s.heap l vs):
  Res X N s (.lst l) (.ref s.heap.objs.size) {s with heap:=h'}:=⟨Kp.of hk hsz,.lst ⟨c,hD⟩ (yB n) hz (hs.kp n (Kp.of (tk:=s.toks) hk hsz))⟩
def Xe{l:List T}{ns:List Int}{v:ay}(a:RA 0 A)(e:mM l=ab ns)(h:Bw max ns=ab t)(hv:VR X N s.heap (.lst l) v):aA (model X.prog X.w) A (call (.builtin "max") [v]) (Res X N s t) E s:=by
 cases ns with
 |nil=>exact aN h
 |cons x r=>
  cases h
  refine hv.eQ λa' vs ho hN hz hs=>(LN (BJ e hs)).elim λxs q=>?_
  have iX:0<xs.size:=by rw[<-vg,<-bK (f:=(·.1)),q.2];exact eP _
  refine fe (max_intList a.handled (q.1▸ho.isList) iX λv h' tk hv hk hsz=>?_)
  obtain⟨u,rfl⟩:=intItems_at hv
  obtain⟨h1,h2⟩:=argBest_gt (qC xs) (xs.size - 1)
  rw[LP (le:=λa b=>b<=a) (λz=>TY _) (λp q=>dn q p) (λp q=>TS q p) (λa b=>Int.le_max_left a b) (λa b=>Int.le_max_right a b) (λa b=>by rw[Int.max_def];split<;>first|exact .inr rfl|exact .inl rfl) q.2 (bI h1 (qD iX xJ)) λj hj=>lA.mp (by simpa using h2 j hj)]
  exact⟨Kp.of hk hsz,.int _ _⟩
def Xf{l:List T}{ns:List Int}{v:ay}(a:RA 0 A)(e:mM l=ab ns)(h:Bw min ns=ab t)(hv:VR X N s.heap (.lst l) v):aA (model X.prog X.w) A (call (.builtin "min") [v]) (Res X N s t) E s:=by
 cases ns with
 |nil=>exact aN h
 |cons x r=>
  cases h
  refine hv.eQ λa' vs ho hN hz hs=>(LN (BJ e hs)).elim λxs q=>?_
  have iX:0<xs.size:=by rw[<-vg,<-bK (f:=(·.1)),q.2];exact eP _
  refine fe (min_intList a.handled (q.1▸ho.isList) iX λv h' tk hv hk hsz=>?_)
  obtain⟨u,rfl⟩:=intItems_at hv
  obtain⟨h1,h2⟩:=argBest_lt (qC xs) (xs.size - 1)
  rw[LP (le:=λa b=>a<=b) (λz=>TY _) (λp q=>dn p q) (λp q=>TS p q) (λa b=>Int.min_le_left a b) (λa b=>amA a b) (λa b=>by rw[Int.min_def];split<;>first|exact .inl rfl|exact .inr rfl) q.2 (bI h1 (qD iX xJ)) λj hj=>lA.mp (by simpa using h2 j hj)]
  exact⟨Kp.of hk hsz,.int _ _⟩
def Xg{l:List T}{ns:List Int}{v:ay}(n:NG X N s.heap)(e:mM l=ab ns)(kL:ns.length<64)(hv:VR X N s.heap (.lst l) v):aA (model X.prog X.w) A (call (.builtin "sorted") [v]) (Res X N s (.lst ((sortI ns).map .int))) E s:=by
 refine hv.eQ λa' vs ho hN hz hs=>?_
 have hI:=BJ e hs
 refine fe (atN ho.isList hI (by rw[hI.length];exact kL) λout nV h1 h2 h3 hsz=>?_)
 have es:nV=sortI ns:=W9 (h2.trans (sortI_perm ns).symm) h3 (LM ns)
 obtain⟨ep,he⟩:=sortedAll_at s.heap _ out
 refine⟨Kp.of (λb o e=>sortedAll_old e) hsz,?_⟩
 rw[<-es]
 refine .lst (vs:=out.toList) ⟨ep,by rw[amT];exact he⟩ (λq=>aj (n.lt _ q) (fL.mpr (gy _))) ?_ (W7 h1)
 rw[bK,h2.length_eq,<-bK (f:=T.int),<-W4 e];exact hz
def Xh{p:Prim}{args:List T}{vs:List ay}(a:RA 0 A)(n:NG X N s.heap)(h:gO p args=ab t)(hv:aL X N s.heap args vs):
  aA (model X.prog X.w) A (call (tT p).2 vs) (Res X N s t) E s:=by
 cases p with
 |len=>
  refine hv.oS h λx v hx e=>?_
  cases x with
  |lst l=>cases e;exact hx.eQ λa vs ho hN hz hs=>amU ho.isList (by rw[bU,hs.length];exact kH hz) (by rw[bU,hs.length];exact⟨Kp.tok,.int _ _⟩)
  |tup l=>cases e;exact hx.eY λa vs ho hN hz hs=>atO ho.isTup (by rw[bU,hs.length];exact kH hz) (by rw[bU,hs.length];exact⟨Kp.tok,.int _ _⟩)
  |str x=>cases e;exact hx.c6 λu hz=>atP (by first|exact Jy.mpr (kH hz)|exact JB (kH hz)|exact kH hz) ⟨Kp.tok,.int _ _⟩
  |_=>exact aN e
 |qW=>exact hv.oS h λx v hx e=>eW e λl q e=>aO e λns e1 e=>Xe a e1 e (q▸hx)
 |min1=>exact hv.oS h λx v hx e=>eW e λl q e=>aO e λns e1 e=>Xf a e1 e (q▸hx)
 |max2=>exact hv.BA h λx y v w hx hy e=>(VB.of hx).bp e λi u e=>(VB.of hy).bp e λj u' e=>by cases e;exact Xd a
 |qX=>exact hv.oS h λx v hx e=>eW e λl q e=>aO e λns e1 e=>ifs e λkL e=>e▸Xg n e1 kL (q▸hx)
 |divmod=>exact hv.BA h λx y v w hx hy e=>(VB.of hx).bp e λi u e=>(VB.of hy).bp e λj u' e=>ifs e λhb e=>e▸atQ hb.1 (Lc n (.cons (.int _ _) (.cons (.int _ _) .nil)) (show 2<=lim by decide) (e:=0)).res (.inl hb.2)
 |repr=>
  refine hv.oS h λx v hx e=>eW e λl q ea=>aO ea λys e1 eb=>ifs eb λhb ez=>?_
  clear e ea eb
  subst ez;subst q
  refine hx.eQ λb ws ho hN hz hs=>((VR.lst ho hN hz hs).Em (.list ys) (af (amf _) e1)).elim λas rd=>fe (repr_of_reads' rd hb.1 (λq=>aj (hb.2.1.symm.trans q) bT) a.guards ?_ (λz z e=>e) (λh' u tk hk hsz=>⟨Kp.of hk hsz,.str _ _ hb.2.2.2⟩) (dS hb.2.2.2))
  have u:A.units<9000:=a.units
  have hd:=hb.2.2.1
  clear hb e1 rd hs ho hN hz hx hv h
  show A.units+_<9900
  exact bG (al2 u (cX hd)) (by decide)
 |str1=>exact hv.oS h λx v hx e=>(VB.of hx).bp e λi u e=>ifs e λhb e=>e▸P.str_of_int hb.1 ⟨Kp.tok,.str _ _ hb.2⟩
 |tuple1=>
  refine hv.oS h λx v hx e=>eW e λl q e=>?_
  cases e;subst q
  refine hx.eQ λa vs ho hN hz hs=>fe (tuple_list ho.isList (λh' hk h2 hsz=>?_) (by rw[bU,hs.length];exact dS hz))
  have k:Kp X s {s with heap:=h'.push {cls:=.type "tuple",data:=.seq _}}:=Kp.of (λb o e=>cS _ (hk b o e)) hsz
  exact⟨k,.tup ⟨0,cD _ rfl⟩ (λq=>bx (n.lt _ q) h2) hz (hs.kp n k)⟩
 |list1=>
  refine hv.oS h λx v hx e=>aO e λl e1 e=>?_
  cases e
  cases x with
  |lst l=>cases e1;exact hx.eQ λa vs ho hN hz hs=>ho.elim λe ho=>fe (call_list_seq _ (.inl rfl) ho rfl rfl (λh' c' hk hD hsz=>LQ (tp:="") n hk hsz hD hz hs) (by rw[bU,hs.length];exact dS hz))
  |tup l=>cases e1;exact hx.eY λa vs ho hN hz hs=>ho.elim λe ho=>fe (call_list_seq _ (.inr rfl) ho rfl rfl (λh' c' hk hD hsz=>LQ (tp:="") n hk hsz hD hz hs) (by rw[bU,hs.length];exact dS hz))
  |_=>exact aN e1
end
def EF{n:Nat}(h:n<=lim):amW n=false:=av (fL.mpr (dS h))
def yI{X:Kx}{N:Addr->Prop}{h:Heap}{l:List T}:∀{vs:List ay}{ys:List Str},hH l=ab ys->aL X N h l vs->∃q:List (Str×Tok),vs=nC q/\q.map (·.1)=ys:=by
 induction l with
 |nil=>exactλe x=>x.qR (by cases e;exact⟨[],rfl,rfl⟩)
 |cons t ts ih=>
  intro _ ys e x
  refine x.tN λv ws a b=>?_
  refine hZ e λy q ea=>map_some ea λms e1 ez=>(ih e1 b).elim λz w=>?_
  clear e ea
  subst ez;subst q
  exact a.c6 λu s=>⟨(y,u)::z,by rw[w.1];rfl,by rw[qB,w.2]⟩
def Xi{X:Kx}{N:Addr->Prop}{h:Heap}{q:List (Str×Tok)}:∀{ys:List Str},q.map (·.1)=ys->ys.all (λz=>decide (z.length<=lim))=true->aL X N h (ys.map .str) (nC q):=by
 induction q with
 |nil=>intro _ e _;cases e;exact .nil
 |cons p q ih=>
  intro _ e hz
  obtain⟨x,t⟩:=p
  cases e
  have hz:=ik.mp hz
  exact .cons (.str x t (aq hz.1)) (ih rfl hz.2)
section
variable{X:Kx}{N:Addr->Prop}{s:az}{A:aM}{E:ay->az->Prop}{t:T}
def Xj{x y:Str}{tx u:Tok}(n:NG X N s.heap)(hx:x.length<=lim)(hy:(y.length==0)=false)(EG:(To x (Jx x y 0 x.length (x.length+1)) y.length).length<=lim)
  (ro:(Txt.split x y).length<=lim) (rp:(Txt.split x y).all (λz=>decide (z.length<=lim))=true):
  aA (model X.prog X.w) A (call (.builtin "str.split") [.str x tx,.str y u]) (Res X N s (.lst ((Txt.split x y).map .str))) E s:=by
 have fin:∀(q:List (Str×Tok))(e tk:Nat),q.map (·.1)=Txt.split x y->Res X N s (.lst ((Txt.split x y).map .str)) (.ref s.heap.objs.size) {s with toks:=tk,heap:=s.heap.push {cls:=.type "list",data:=.seq (nC q).toArray e}}:=by
  intro q e tk hq
  exact(q7 n (Xi hq rp) (by simpa using ro)).res
 cases h1:(decide (x.length<y.length)||decide (amX x<amX y))
 ·cases hf:(Jx x y 0 x.length (x.length+1)).isEmpty
  ·refine sS JP (sX _ _ _) TZ (T1 _ _) (meets_str_split_sep x y tx u h1 hy hf (dS hx) (dS EG)) ?_
   show AZ _ E _ {s with toks:=_,heap:=s.heap.push {cls:=.type "list",data:=.seq (strsFrom s.toks (To x (Jx x y 0 x.length (x.length+1)) y.length)).toArray}}
   rw[strsFrom_eq]
   exact fin (numbered s.toks _) _ _ ((numbered_texts _ _).trans ((ai (ne_true_of_eq_false h1)).trans (ai (ne_true_of_eq_false hf))).symm)
  ·exact sS JP (sX _ _ _) TZ (T1 _ _) (meets_str_split_not_found x y tx u h1 hy hf)
    (fin [(x,tx)] _ _ ((ai (ne_true_of_eq_false h1)).trans (ah hf)).symm)
 ·exact sS JP (sX _ _ _) TZ (T1 _ _) (meets_str_split_cannot_occur x y tx u h1)
   (fin [(x,tx)] _ _ (ah h1).symm)
inductive EH(X:Kx)(N:Addr->Prop)(s:az)(nm:Str)(x:T)(ov:ay)(args:List T)(t:T):Prop
 |mk {T id} (pa:PlainAttrs T) (sl:Slot T nm id) (ty:typeOf (.builtin id)=pure (.type "method_descriptor")) (hT:s.TypeIs ov T) (hd:∀a,ov=.ref a->∃ob,s.heap.get? a=ab ob/\ob.dict=ae)
   (go:∀A s' vs E,RA 0 A->NG X N s'.heap->VB X N s'.heap x ov->aL X N s'.heap args vs->aA (model X.prog X.w) A (call (.builtin id) (ov::vs)) (Res X N s' t) E s')
def tX{nm:Str}{x:Str}{u:Tok}{args:List T}{id:String}(sl:Slot "str" nm id)(ty:typeOf (.builtin id)=pure (.type "method_descriptor"))
  (go:∀A s' vs E,NG X N s'.heap->x.length<=lim->aL X N s'.heap args vs->aA (model X.prog X.w) A (call (.builtin id) (.str x u::vs)) (Res X N s' t) E s'):EH X N s nm (.str x) (.str x u) args t:=
 .mk T2 sl ty (sX _ _ _) nofun λA s' vs E a n hx ha=>go A s' vs E n (by have y:Bu x (.str x u):=(hx.vr rfl).inv;cases y with|mk _ h=>exact h) ha
def LR{d:Addr}{o:Obj}{aZ:List (Str×ay)}(ho:s.heap.get? d=ab o)(hd:o.IsDictOf (strKind X.prog X.w) aZ):s.TypeIs (.ref d) "dict"/\(∃ob,s.heap.get? d=ab ob/\ob.dict=ae)/\s.heap.DictOf (strKind X.prog X.w) d aZ:=by
 have hD:=sT.mpr ⟨o,ho,hd⟩
 obtain⟨es,ep,⟨_,hx,_⟩,_⟩:=hd
 exact⟨hD.typeIs,⟨o,ho,hx⟩,hD⟩
def Xk{l:List (Str×Int)}{k:Str}{i:Int}{ov:ay}(hv:VB X N s.heap (.aY l) ov):EH X N s (s_ "get") (.aY l) ov [.str k,.int i] (.int ((l.lookup k).getD i)):=by
 refine hv.dict λd o aZ ho hd z z z=>?_
 have D:=LR (s:=s) ho hd
 refine .mk PySem.F.plainAttrs_dict amY PySem.F.type_dict_get D.1 (λa q=>ay.ref.inj q▸D.2.1) λA s' j1 E a n hx ha=>?_
 have y:vG X (λz=>False) s'.heap l (.ref d):=hx.j
 cases y with|mk ho hd _ hz hq hs=>
 have D:=LR (s:=s') ho hd
 refine ha.Ei λv w a1 a2=>a1.c6 λtk z=>a2.eR λti=>?_
 refine call_meetsIn amY D.1 PySem.F.entry_dict_get (PySem.F.args_dict_get_3 _ _ _) (meets_dict_get_default (T3 X.prog X.w) d (vh X.prog X.w k tk) hq (.int i ti)) ⟨_,D.2.2.mapOf,?_⟩
 have f:=LB hs k
 cases q:l.lookup k with
 |some v=>exact(f.1 v q).elim λt' e=>by rw[e];exact⟨Kp.tok,.int _ _⟩
 |none=>rw[f.2 q];exact⟨Kp.tok,.int _ _⟩
def Xl{m:SM}{x:T}{args:List T}{ov:ay}(h:iU m x args=ab t)(hv:VB X N s.heap x ov):EH X N s (Er m) x ov args t:=by
 cases m with
 |pC=>
  refine fb h λi q h=>Lf h λq' h=>?_
  cases h;subst q;subst q'
  exact hv.eR λu=>.mk PySem.F.plainAttrs_int amZ PySem.F.type_int_bit_length (JC _ _ _) nofun λA s' vs E a n hx ha=>ha.qR
   (call_gives amZ (JC _ _ _) PySem.F.entry_int_bit_length (PySem.F.args_int_bit_length_1 _) (AutoIntG2.int_bit_length_int_0 _ _) ⟨Kp.tok,.int _ _⟩)
 |yv=>
  refine eW h λl q h=>tR h λy q2 h=>fb h λi q3 h=>aO h λns e h=>?_
  cases h;subst q;subst q2;subst q3
  refine hv.list λb vs hl r r=>.mk T4 PySem.F.slot_list_count PySem.F.type_list_count hl.isList.typeIs (λa q=>ay.ref.inj q▸hl.elim λr e=>⟨_,e,rfl⟩) λA s' j1 E a n hx ha=>?_
  have y:Bv X N s'.heap l (.ref b):=hx.j
  cases y with|mk rq _ hs=>
  refine ha.oO λv a=>a.eR λu=>count_list_ints rq.isList (BJ e hs) ?_
  rw[List.count_eq_countP,List.countP_eq_length_filter]
  exact⟨Kp.tok,.int _ _⟩
 |vJ=>
  refine Bz h λl q h=>rb h λy z q2 h=>hZ h λk q3 h=>fb h λi q4 h=>?_
  cases h;subst q;subst q2;subst q3;subst q4
  exact Xk hv
 |_=>
  refine hZ h λx q h=>?_
  subst q
  refine hv.c6 λu r=>?_
  clear hv
  first
   |(refine Lf h λq h=>ifs h λhb e=>?_
     subst q;subst e
     first
      |exact tX PySem.F.slot_str_lower PySem.F.type_str_lower λA s' vs E n hz ha=>ha.qR (SC.lower (EF hb) ⟨Kp.tok,.str _ _ hb⟩)
      |exact tX PySem.F.slot_str_upper PySem.F.type_str_upper λA s' vs E n hz ha=>ha.qR (SC.upper (EF hb) ⟨Kp.tok,.str _ _ hb⟩))
   |(refine tR h λy q h=>hZ h λz q' h=>ifs h λhb e=>?_
     subst q;subst q';subst e
     exact tX JP PySem.F.type_str_split λA s' vs E n hz ha=>ha.oO λv a=>a.c6 λu r=>Xj n hz hb.1 hb.2.1 hb.2.2.1 hb.2.2.2)
   |(refine tR h λy q h=>eW h λl q' h=>aO h λys e h=>ifs h λhb e'=>?_
     subst q;subst q';subst e'
     exact tX DD T5 λA s' vs E n hz ha=>ha.oO λv a=>a.eQ λd ws ho r r hs=>(yI e hs).elim λq w=>SC.join (w.1▸ho.isList) w.2 hb.1 λt' k=>⟨Kp.tok,.str _ _ hb.2⟩)
   |(refine tR h λy q h=>hZ h λz q' h=>?_
     cases h;subst q;subst q'
     first
      |exact tX PySem.F.slot_str_count PySem.F.type_str_count λA s' vs E n hz ha=>ha.oO λv a=>a.c6 λu r=>SC.count ⟨Kp.tok,.int _ _⟩
      |exact tX PySem.F.slot_str_rfind PySem.F.type_str_rfind λA s' vs E n hz ha=>ha.oO λv a=>a.c6 λu r=>SC.rfind ⟨Kp.tok,.int _ _⟩
      |exact tX PySem.F.slot_str_find PySem.F.type_str_find λA s' vs E n hz ha=>ha.oO λv a=>a.c6 λu r=>SC.find ⟨Kp.tok,.int _ _⟩)
end
section
variable{X:Kx}{k:Nat}{A:aM}{env:Env}{c:Sc}{N:Addr->Prop}{r:aE}{s s':az}{E:ay->az->Prop}{t:T}{m:Mode}{p pos:Pos}{es:List aW}{n x:Str}{o y bg mR:aW}{Q:ay->az->Prop}{a b:Ex}
def jx(h:aA (model X.prog X.w) A (eval (.Name x p) env) (λf aB=>aA (model X.prog X.w) A (Dx pos f [] (mA pos (jS es env)) []) Q E aB) E s):
  aA (model X.prog X.w) A (eval (.Call (.Name x p) es [] pos) env) Q E s:=aG h
def LS{w:Sem ay}(h:isCall o=false):attributeBase o n env w=w:=by cases o<;>first|rfl|exact aj h.symm bT
def vU{apos:Pos}(hb:isCall o=false)(hl:apos.endLine=pos.line)(hn:es.length<20)(hp:es.all notStar=true)
  (h:aA (model X.prog X.w) A (eval o env) (λov aB=>aA (model X.prog X.w) A (JG ov n (do return (<-importBound o env).getD true))
   (λfx s₂=>aA (model X.prog X.w) A (Dx pos fx.1 fx.2 (mA pos (jS es env)) []) Q E s₂) E aB) E s):
  aA (model X.prog X.w) A (eval (.Call (.Attribute o n apos) es [] pos) env) Q E s:=by
 rw[arm_eval_Call,LS hb]
 refine aG (mo h λov aB bJ=>aG (lL ?_))
 have Xm:methodCallForm (es.length+([]:List Keyword).length) (mA pos (jS es env)) (backToKw pos (keywordEach [] env))=true:=by
  refine ik.mpr ⟨ik.mpr ⟨bA.mpr λx hx=>?_,rfl⟩,ar (bG (bI (bj _) hn) (by decide))⟩
  have:=List.any_eq_false.mp (jw env pos hp) x hx
  simpa using this
 have Xn:methodCallPos true o env apos pos=pure pos:=by unfold methodCallPos;simp [hl]
 unfold methodCall
 rw[Xm]
 refine aG (dN ?_)
 show aA _ _ (JG ov n _) _ _ _
 exact mo bJ λfx s₂ h₂=>aG (A0 Xn h₂)
def BK(hb:isCall o=false)(h:aA (model X.prog X.w) A (eval o env) (λov aB=>aA (model X.prog X.w) A (sU ov n true) Q E aB) E s):
  aA (model X.prog X.w) A (eval (.Attribute o n pos) env) Q E s:=by
 rw[am4,LS hb]
 exact aG (mo h λo aB bJ=>aG (lL (aG (dN (mo bJ λr s₂ h₂=>aG (TK (aQ h₂)))))))
def Xo{f:Nat}{v:ay}(hm:m.v=true)(hf:nI f=ab x)(hg:d4 x=ab v)(hn:iV x=true)(hk:c.names.lookup x=ab .globalImplicit)(hs:es.all notStar=true)(h1:Gd a .chain c es):Gd (.call f a) m c [.Call (.Name x p) es [] pos]:=λH z z z z z z at_ e=>by
 refine aO e λtx e1 ea=>kJ ea λl q ez=>?_
 clear e ea
 subst q
 exact fQ at_ hm (λE=>jx (jv at_ hg hk (iW hn).1 (H.fns f x v hf hg _ _ _ pos _ l _ E at_.ra at_.wd at_.ng (jw _ pos hs) ez λE=>h1 H at_ e1 l rfl pos E))) λz=>rfl
def Xq{f:Nat}{u:Pos}{o':Ex}(hm:m.v=true)(hf:tM f=ab n)(hl:u.endLine=pos.line)(hz:es.length<20)(hb:isCall y=false)(hs:es.all notStar=true)(h1:Gd o' .val c [y])(h2:Gd a .chain c es):Gd (.bE f o' a) m c [.Call (.Attribute y n u) es [] pos]:=λH z z z z z z at_ e=>by
 refine aO e λtx e1 ea=>aO ea λtl e2 eb=>kJ eb λl q ez=>?_
 clear e ea eb
 subst q
 refine fQ at_ hm (λE=>vU hb hl hz hs (vl (h1 H at_ e1) λov aB k₁ bD=>?_)) λz=>rfl
 have a1:=at_.kp k₁
 exact mo (H.yG f n hf _ _ aB pos _ _ tx ov l _ E a1.ra a1.wd a1.ng bD (jw _ pos hs) ez λs₂ k₂ E=>h2 H (a1.kp k₂) e2 l rfl pos E) λfx s₂ nT=>mo nT λv aX oV=>⟨k₁.trans oV.1,oV.2⟩
def Xr{i:Nat}(hm:m.v=true)(hb:isCall y=false)(h1:Gd a .val c [y]):Gd (.attr a i) m c [.Attribute y (oL i) p]:=λH z z z z z z at_ e=>by
 refine aO e λtx e1 e=>fQ at_ hm (λE=>BK hb (vl (h1 H at_ e1) λov aB k₁ bD=>?_)) λz=>rfl
 have a1:=at_.kp k₁
 exact H.nR i _ _ aB tx ov _ _ E a1.wd a1.ng bD e λs' v k' hv=>⟨k₁.trans k',hv⟩
def Xs{p':Prim}(hm:m.v=true)(hg:ri c x (tT p').1 (tT p').2)(hs:es.all notStar=true)(h1:Gd a .chain c es):Gd (.prim p' a) m c [.Call (.Name x p) es [] pos]:=λ{C k}H A env N r s t at_ e=>by
 refine aO e λtx e1 ea=>kJ ea λl q ez=>?_
 clear e ea
 subst q
 have hp:=jw env pos hs
 refine fQ at_ hm (λE=>jx (jv at_ hg.2.1 hg.2.2.2 (iW hg.2.2.1).1 ?_)) λz=>rfl
 have args:aA (model C.X.prog C.X.w) A (pj (mA pos (jS es env))) (λvs aB=>aA (model C.X.prog C.X.w) A (call (tT p').2 vs) (Res C.X N s t) E aB) E s:=
  cl (h1 H at_ e1) λvs aB k₁ bD=>mo (Xh ((at_.kp k₁).ra.mono (dP _)) (at_.kp k₁).ng ez bD) λv s₂ nT=>⟨k₁.trans nT.1,nT.2⟩
 cases p'<;>first|exact xK hp (ic hp args)|exact qE hp (ic hp args)
def Xt{p':SM}{u:Pos}{o':Ex}(hm:m.v=true)(hl:u.endLine=pos.line)(hz:es.length<20)(hb:isCall y=false)(hs:es.all notStar=true)(h1:Gd o' .bor c [y])(h2:Gd a .chain c es):Gd (.sm p' o' a) m c [.Call (.Attribute y (Er p') u) es [] pos]:=λ{C k}H A env N r s t at_ e=>by
 refine aO e λtx e1 ea=>aO ea λtl e2 eb=>kJ eb λl q ez=>?_
 clear e ea eb
 subst q
 refine fQ at_ hm (λE=>vU hb hl hz hs (bl (h1 H at_ e1) λov aB k₁ bD=>?_)) λz=>rfl
 have a1:=at_.kp k₁
 have nW:=jw env pos hs
 cases Xl ez bD with|mk pa sl ty hT hd go=>
 refine DE hT pa sl ty hd (xK nW (ic nW (cl (h2 H a1 e2) λvs s₂ k₂ ib=>?_)))
 have a2:=a1.kp k₂
 exact mo (go A s₂ vs E (a2.ra.mono (dP _)) a2.ng (bD.kp a1.ng k₂ a1.apart) ib) λv aX oV=>⟨(k₁.trans k₂).trans oV.1,oV.2⟩
def fits{z:Int}(h1: -3000000<=z)(h2:z<=3000000):T6 z=true:=by
 unfold T6
 exact ik.mpr ⟨ar (dn (by decide) h1),ar (by first|exact Tp h2 (by decide)|exact dn h2 (by decide))⟩
def Xu{m n:Int}(h1: -1000000<=m)(h3:n<=1000000)(h4:m<=1000000)(h5: -1000000<=n):eN.Range.small m n 1=true:=by
 have hz:T7 m n 1=((n - m).toNat:Int):=rangeSize_nat m n
 have f:∀z:Int, -3000000<=z/\z<=3000000->T6 z=true:=λz h=>fits h.1 h.2
 unfold eN.Range.small
 simp only[f m ⟨dn (by decide) h1,dn h4 (by decide)⟩,f n ⟨dn (by decide) h5,dn h3 (by decide)⟩,f 1 (by decide),am6,DF,JQ]
 refine⟨f _ (by rw[hz];exact⟨dn (by decide) (cy _),dh.mpr (T8.mpr (dn (Int.sub_le_sub h3 h1) (by decide)))⟩),.inr ?_⟩
 rw[ah (by decide)]
 rw[show n+(1 - 1)=n from am7 n]
 exact f n ⟨dn (by decide) h5,dn h3 (by decide)⟩
def LU{iY lZ:Int}{a₀:Addr}{Xv rm bD:Tok}(h1: -1000000<=iY)(h2:lZ - iY<=lim)(h3:lZ<=1000000)(h4:iY<=1000000)(h5: -1000000<=lZ)(hr:IsRange s.heap a₀ iY lZ 1 Xv rm bD)(hh:A.handled=ae)(ng:NG X N s.heap):
  aA (model X.prog X.w) A (jQ (.ref a₀)) (kK X N (pD iY lZ) false ae s) E s:=by
 have len:(pD iY lZ).length=(lZ - iY).toNat:=by unfold pD;rw[bK,kr]
 have e:T7 iY lZ 1=((lZ - iY).toNat:Int):=rangeSize_nat iY lZ
 refine wpAny_pyIter_range hr (Xu h1 h3 h4 h5) ?_
 refine⟨Kp.push,s.heap.objs.size,[s.heap.objs.size],[s.heap.objs.size],(λi h=>IsRangeIter h s.heap.objs.size (iY+(i:Nat)*1) (((lZ - iY).toNat:Nat) - (i:Nat)) 1),_,rfl,
  It.walk hh (P:=λi v=>∃t,v=.int (iY+i*1) t) (λA hA=>len▸Walks.range hA _ iY 1 _) (λb hb=>pH hb λe=>e▸BE _ _) (λb hb=>pH hb λe=>e▸vN ng) ?_ (λi h st=>⟨"range_iterator",⟨_,st,rfl⟩,by decide⟩) (λb hb=>b4.mp hb) ?_ λA s Q E st q=>wpAny_pyIter_rangeiter st q,?_,λb hb=>pH hb λe=>bO e.symm,λb hb hw=>aj hb hw⟩
 ·rw[len];exact T8.mpr h2
 ·intro i v t h' N' hj ht keep hN
  obtain⟨u,rfl⟩:=hj
  unfold pD at ht
  rw[gL]at ht
  refine map_some ht λk e1 e2=>?_
  obtain⟨dp,e⟩:=iR.mp e1
  rw[T9]at e
  rw[<-e2,<-e,JS]
  exact .int _ _
 ·have:=cD s.heap (o:={cls:=.type "range_iterator",data:=.fields #[jR iY,jR (T7 iY lZ 1),jR 1]}) rfl
  rw[e]at this ⊢
  simpa [IsRangeIter] using this
def EI(hm:m=.src∨m=.ia)(h:∀b l,eZ t=ab l->∀E,aA (model X.prog X.w) A (eval y env) (yF X N s b l) E s):Out X A env N s t m [y]:=by
 rcases hm with rfl|rfl
 ·exact h false
 ·exact h true
def j2(ns:notStar bg=true):jS [bg] env=[(false,eval bg env)]:=yH ns
def yJ(ns:notStar bg=true)(rt:notStar mR=true):jS [bg,mR] env=[(false,eval bg env),(false,eval mR env)]:=by rw[yH ns,j2 rt]
def Xw(hm:m=.src∨m=.ia)(hg:ri c x (s_ "range") (.type "range"))(ns:notStar bg=true)(h1:Gd a .val c [bg]):Gd (.hU a) m c [.Call (.Name x p) [bg] [] pos]:=λH y y y y y y at_ e=>by
 refine aO e λtx e1 ea=>fb ea λn q eb=>ifs eb λhn ez=>?_
 clear e ea eb
 subst ez;subst q
 refine EI hm λb l hl E=>?_
 cases hl
 refine jx (jv at_ hg.2.1 hg.2.2.2 (iW hg.2.2.1).1 ?_)
 rw[j2 ns]
 refine qE rfl (AX (eX (vl (h1 H at_ e1) λv aB k₁ bD=>gb ?_)))
 refine bD.eR λu=>call_range_1 ⟨ae,λy=>rfl,k₁.trans Kp.push,λA E hh=>?_⟩
 exact mo (LU (by decide) (by rw[JT];exact hn.2) (dn hn.2 (by decide)) (by decide) hn.1 (IsRange.new ..) hh ((at_.kp k₁).ng.kp Kp.push)) λy y z=>z.base (k₁.trans Kp.push)
def Xx(hm:m=.src∨m=.ia)(hg:ri c x (s_ "range") (.type "range"))(ns:notStar bg=true)(rt:notStar mR=true)(h1:Gd a .val c [bg])(h2:Gd b .val c [mR]):Gd (.mO a b) m c [.Call (.Name x p) [bg,mR] [] pos]:=λH y y y y y y at_ e=>by
 refine aO e λtx e1 ea=>fb ea λiY q eb=>aO eb λty e2 ec=>fb ec λlZ q' ed=>ifs ed λhn ez=>?_
 clear e ea eb ec ed
 subst ez;subst q;subst q'
 refine EI hm λb l hl E=>?_
 cases hl
 refine jx (jv at_ hg.2.1 hg.2.2.2 (iW hg.2.2.1).1 ?_)
 rw[yJ ns rt]
 refine qE rfl (AX (eX (vl (h1 H at_ e1) λv aB k₁ bD=>eX (vl (h2 H (at_.kp k₁) e2) λv s₂ k₂ ib=>gb ?_))))
 refine bD.eR λu=>ib.eR λu'=>call_range_2 ⟨ae,λy=>rfl,(k₁.trans k₂).trans Kp.push,λA E hh=>?_⟩
 exact mo (LU hn.1 hn.2.2.2.1 hn.2.2.2.2 hn.2.1 hn.2.2.1 (IsRange.new ..) hh (((at_.kp k₁).kp k₂).ng.kp Kp.push)) λy y z=>z.base ((k₁.trans k₂).trans Kp.push)
def Xy(ng:NG X N s.heap){l:List T}{x D:Addr}{vs:List ay}(hh:A.handled=ae)(hl:s.heap.PlainList x vs.toArray)(hN:¬N x)(hz:l.length<=lim)(hs:aL X N s.heap l vs)
  {bJ:Heap} {tk:Nat} (hD:D=s.heap.objs.size) (yK:bJ=s.heap.push (revObj x ((vs.length:Int) - 1))):
  aA (model X.prog X.w) A (jQ (.ref D)) (kK X N l.reverse false ae s) E {s with heap:=bJ,toks:=tk}:=by
 subst yK
 have lx:x<s.heap.objs.size:=hl.elim λz e=>bw e
 have iX:x≠D:=hD▸cW lx
 have hi:(s.heap.push (revObj x ((vs.length:Int) - 1))).IsRevIter D x ((vs.length:Int) - 1):=hD▸⟨_,cD _ rfl,rfl,rfl⟩
 refine ana hi ?_
 have len:vs.toArray.size=l.reverse.length:=by rw[bU,pn,hs.length]
 refine Ep (St:=λi h=>i<=vs.toArray.size/\h.IsRevIter D x ((vs.toArray.size:Int) - 1 - (i:Int))/\h.IsList x vs.toArray) hh ng lx (λq=>hN (ng.tb _ q)) hD (λA hA=>by rw[<-len];exact Walks.listRev (prog:=X.prog) (w:=X.w) (A:=A) hA D x iX vs.toArray) (by rw[pn];exact hz) (T:="list_reverseiterator") (by decide)
  (λi h st=>st.2.1.elim λo q=>⟨o,q.1,q.2.1⟩) ⟨dP _,by simpa using hi,hl.isList.push _⟩ (.inl hN) (λi v t h' N' hj ht EJ keep=>?_) λA s Q E st q=>ana st.2.1 q
 have dp:i<l.reverse.length:=(iR.mp ht).1
 obtain⟨w,e1,e2⟩:=hs.rev.get ht
 rw[List.getElem?_reverse (by rw[<-len,bU]at dp;exact dp)]at e1
 rw[bU,vf,e1]at hj;cases hj
 exact e2.move EJ keep
def Xz(hm:m=.src∨m=.ia)(hg:ri c x (s_ "reversed") (.type "reversed"))(ns:notStar bg=true)(h1:Gd a .val c [bg]):Gd (.Bx a) m c [.Call (.Name x p) [bg] [] pos]:=λH y y y y y y at_ e=>by
 refine aO e λtx e1 ea=>eW ea λl q ez=>?_
 clear e ea
 cases ez;subst q
 refine EI hm λb l' hl E=>?_
 cases hl
 refine jx (jv at_ hg.2.1 hg.2.2.2 (iW hg.2.2.1).1 ?_)
 rw[j2 ns]
 refine qE rfl (AX (eX (vl (h1 H at_ e1) λv aB k₁ bD=>gb (bD.eQ λa' vs ho hN hz hs=>?_))))
 refine call_reversed_list ho.isList ⟨ae,λy=>rfl,k₁.trans Kp.push,λA E hh=>mo (Xy (at_.kp k₁).ng hh ho hN hz hs rfl (by rw[bU])) λy y z=>z.base k₁⟩
end
def Ns.uniq{h:Heap}{a:Addr}{m m':Str->Option ay}(x:h.Ns a m)(y:h.Ns a m')(k:Str):m k=m' k:=by
 obtain⟨o,es,ep,e1,e2,_,e3⟩:=x
 obtain⟨o',iJ,XA,f1,f2,_,f3⟩:=y
 rw[e1]at f1;cases f1
 rw[e2]at f2;cases f2
 rw[<-e3,<-f3]
abbrev cJ(X:Kx)(env:Env)(M:Addr->Prop)(own:Str->Prop)(h:Heap):Prop:=(env.scope.kind=.function)/\(M env.locals/\∃m,h.Ns env.locals m)/\(∀x,own x->env.kindOf x=ab .local∨(env.kindOf x=ab .cell/\∃a,env.cells.lookup x=ab a/\M a/\∃v,h.IsCell a v))/\(∀x y a,env.cells.lookup x=ab a->env.cells.lookup y=ab a->x=y)/\(∀x a,env.cells.lookup x=ab a->a≠env.locals)
section
variable(h:cJ X env M own h)
def cJ.kind:=h.1
def cJ.loc:=h.2.1
def cJ.dz:=h.2.2.1
def cJ.inj:=h.2.2.2.1
def cJ.ne:=h.2.2.2.2
end
section
variable{X:Kx}{env:Env}{M:Addr->Prop}{own:Str->Prop}{s:az}{A:aM}{E:ay->az->Prop}
def IsCell.to{h h':Heap}{a:Addr}(x:∃v,h.IsCell a v)(k:∀o,h.get? a=ab o->h'.get? a=ab o):∃v,h'.IsCell a v:=x.elim λv q=>q.elim λo z=>⟨v,o,k o z.1,z.2⟩
def cJ.mv{s':az}(F:cJ X env M own s.heap)(k:∀b o,Fr env b->s.heap.get? b=ab o->s'.heap.get? b=ab o):cJ X env M own s'.heap:=
 ⟨F.kind,⟨F.loc.1,F.loc.2.elim λm hm=>⟨m,hm.at' λo e=>k _ _ (.inl rfl) e⟩⟩,λx hx=>(F.dz x hx).imp id λq=>⟨q.1,q.2.elim λa z=>⟨a,z.1,z.2.1,IsCell.to z.2.2 λo e=>k _ _ (.inr ⟨x,z.1⟩) e⟩⟩,F.inj,F.ne⟩
def BL(F:cJ X env M own s.heap){x:Str}{v:ay}(hx:own x){Q:Unit->az->Prop}
  (q:∀s' b,M b->(b=env.locals∨(env.cells.lookup x=ab b/\s'.heap.IsCell b (ab v)))->Mv X (λa=>a=b) s s'->Rd env s'.heap x v->(∀y u,y≠x->Rd env s.heap y u->Rd env s'.heap y u)->cJ X env M own s'.heap->Q () s'):
  aA (model X.prog X.w) A (xM env x v) Q E s:=by
 refine F.loc.2.elim λm hm=>?_
 rcases F.dz x hx with h|⟨h,a,e1,e2,v0,LV⟩
 ·refine fe (wpAny_storeName_local h hm (λh' hn hs hz=>?_) (by rw[F.kind];rfl))
  have kp:∀b o,b≠env.locals->s.heap.get? b=ab o->h'.get? b=ab o:=λb o hb e=>hs.extBut b o hb e
  refine q _ env.locals F.loc.1 (.inl rfl) (by obtain⟨o,es,ep,f1,f2,_⟩:=hm;exact Mv.put f1 (oN f2 rfl) kp hz) (.inl ⟨h,_,hn,by simp⟩)
   (λy u hy hu=>hu.imp (λf=>⟨f.1,f.2.elim λm' g=>⟨_,hn,by rw[ai hy,Ns.uniq hm g.1];exact g.2⟩⟩) λf=>⟨f.1,f.2.elim λb g=>⟨b,g.1,g.2.elim λo w=>⟨o,kp _ _ (F.ne _ _ g.1) w.1,w.2⟩⟩⟩)
   ⟨F.kind,⟨F.loc.1,_,hn⟩,λy hy=>(F.dz y hy).imp id λg=>⟨g.1,g.2.elim λb z=>⟨b,z.1,z.2.1,IsCell.to z.2.2 λo e=>kp _ _ (F.ne _ _ z.1) e⟩⟩,F.inj,F.ne⟩
 ·refine fe (wpAny_storeName_cell F.kind h e1 LV λh' hc hs hz=>?_)
  have kp:∀b o,b≠a->s.heap.get? b=ab o->h'.get? b=ab o:=λb o hb e=>hs.extBut b o hb e
  have nl:env.locals≠a:=λe=>F.ne _ _ e1 e.symm
  refine q _ a e2 (.inr ⟨e1,hc⟩) (by obtain⟨o,f1,f2⟩:=LV;exact Mv.put f1 (oN f2 rfl) kp hz) (.inr ⟨.inl h,a,e1,hc⟩)
   (λy u hy hu=>hu.imp (λf=>⟨f.1,f.2.elim λm' g=>⟨m',g.1.at' λo e=>kp _ _ nl e,g.2⟩⟩) λf=>⟨f.1,f.2.elim λb g=>⟨b,g.1,g.2.elim λo w=>⟨o,kp _ _ (λe=>hy (F.inj _ _ _ g.1 (e▸e1))) w.1,w.2⟩⟩⟩)
   ⟨F.kind,⟨F.loc.1,m,hm.at' λo e=>kp _ _ nl e⟩,λy hy=>(F.dz y hy).imp id λg=>⟨g.1,g.2.elim λb z=>⟨b,z.1,z.2.1,?_⟩⟩,F.inj,F.ne⟩
  by_cases q:b=a
  ·subst q;exact⟨_,hc⟩
  ·exact IsCell.to z.2.2 λo e=>kp _ _ q e
end
def ru{env:Env}{x:Str}{a:Addr}(h:env.cells.lookup x=ab a):JU env x=pure a:=by unfold JU;rw[h]
def XB{env:Env}(f:Str×jm->List (Str×Addr)->Sem (ForInStep (List (Str×Addr))))
  (hf:∀name kind cells,f (name,kind) cells=if kind==.free then(do let a <-JU env name;pure (.yield ((name,a)::cells)))else pure (.yield cells))
  (names:List (Str×jm)):∀(acc:List (Str×Addr)),(∀p∈names,p.2=.free->∃a,env.cells.lookup p.1=ab a)->(∀x a,acc.lookup x=ab a->env.cells.lookup x=ab a)->
   ∃cl,forIn names acc f=pure cl/\(∀x a,cl.lookup x=ab a->env.cells.lookup x=ab a)/\(∀p∈names,p.2=.free->(cl.lookup p.1).isSome)/\(∀x,(acc.lookup x).isSome->(cl.lookup x).isSome):=by
 induction names with
 |nil=>exactλacc z ha=>⟨acc,by rw[xN],ha,λp h z=>(gM h).elim,λz h=>h⟩
 |cons p r ih=>
  intro acc hn ha
  obtain⟨name,kind⟩:=p
  by_cases q:kind=.free
  ·subst q
   obtain⟨a,e⟩:=hn (name,.free) bk rfl
   have BM:∀x b,((name,a)::acc).lookup x=ab b->env.cells.lookup x=ab b:=by
    intro x b h
    rw[cE]at h
    by_cases q:(x==name)=true
    ·rw[q]at h;cases h;rw[ao q];exact e
    ·simp only[JV]at q;rw[q]at h;exact ha x b h
   obtain⟨cl,c1,c2,c3,c4⟩:=ih ((name,a)::acc) (λp hp=>hn p (bS _ hp)) BM
   refine⟨cl,?_,c2,λp hp hk=>?_,λx h=>c4 x ?_⟩
   ·rw[xO,hf]
    rw[ah (show(g8==g8)=true from rfl),ru e]
    exact c1
   ·rcases br.mp hp with rfl|hp
    ·exact c4 _ (by rw[cE];simp)
    ·exact c3 p hp hk
   ·rw[cE];cases x==name with
    |true=>rfl
    |false=>exact h
  ·obtain⟨cl,c1,c2,c3,c4⟩:=ih acc (λp hp=>hn p (bS _ hp)) ha
   refine⟨cl,?_,c2,λp hp hk=>?_,c4⟩
   ·rw[xO,hf,ai (by simpa using q)]
    exact c1
   ·rcases br.mp hp with rfl|hp
    ·exact aj hk q
    ·exact c3 p hp hk
def XC{env:Env}{sc:d9}(h:∀p∈sc.names,p.2=.free->∃a,env.cells.lookup p.1=ab a):
  ∃cl,oG sc env=pure cl/\(∀x a,cl.lookup x=ab a->env.cells.lookup x=ab a)/\(∀p∈sc.names,p.2=.free->(cl.lookup p.1).isSome):=by
 obtain⟨cl,c1,c2,c3,_⟩:=XB (env:=env) (λx cs=>if(x.snd==g8)=true then(do let a <-JU env x.fst;pure (.yield ((x.fst,a)::cs)))else pure (.yield cs))
  (λz z z=>rfl) sc.names [] h (λx a h=>by cases h)
 refine⟨cl,?_,c2,c3⟩
 unfold oG
 simp only[]
 rw[c1]
 rfl
def LW(n:Nat):∀(names:List (Str×jm))(acc:List (Str×Addr)),fm n names acc=fm n names []++acc:=by
 intro names
 induction names generalizing n with
 |nil=>intro acc;rfl
 |cons p r ih=>
  intro acc
  obtain⟨x,k⟩:=p
  unfold fm
  split
  ·rw[ih (n+1) ((x,n)::acc),ih (n+1) [(x,n)],fk];rfl
  ·exact ih n acc
def EK(names:List (Str×jm)):∀(n:Nat)(acc:List (Str×Addr))(x:Str),((x,sZ)∈names∨(acc.lookup x).isSome=true)->((fm n names acc).lookup x).isSome=true:=by
 induction names with
 |nil=>exactλn acc x h=>h.elim (λh=>aj h gM) id
 |cons p r ih=>
  intro n acc x h
  obtain⟨y,k⟩:=p
  unfold fm
  split
  ·refine ih _ _ x ?_
   rcases h with h|h
   ·rcases br.mp h with e|h
    ·cases e;exact .inr (by rw[cE];simp)
    ·exact .inl h
   ·refine .inr ?_
    rw[cE];cases x==y with
    |true=>rfl
    |false=>exact h
  ·rename_i hk
   refine ih _ _ x ?_
   rcases h with h|h
   ·rcases br.mp h with e|h
    ·cases e;exact aj rfl hk
    ·exact .inl h
   ·exact .inr h
def XD(names:List (Str×jm)):∀(n:Nat)(acc:List (Str×Addr))(x:Str)(a:Addr),(fm n names acc).lookup x=ab a->(x,sZ)∈names∨acc.lookup x=ab a:=by
 induction names with
 |nil=>exactλn acc x a h=>.inr h
 |cons p r ih=>
  intro n acc x a h
  obtain⟨y,k⟩:=p
  unfold fm at h
  split at h
  ·rename_i hk
   have EL:k=.cell:=by simpa using hk
   subst EL
   rcases ih _ _ x a h with h|h
   ·exact .inl (bS _ h)
   ·rw[cE]at h
    cases q:x==y with
    |true=>rw[ao q];exact .inl bk
    |false=>rw[q]at h;exact .inr h
  ·rcases ih _ _ x a h with h|h
   ·exact .inl (bS _ h)
   ·exact .inr h
section
variable{M:mz}{A:aM}{E:ay->az->Prop}{s:az}
noncomputable def compEnv(sc:d9)(cl:List (Str×Addr))(C:Addr)(env:Env):Env:=
 {scope:=sc,locals:=C,globals:=env.globals,cells:=fm (C+1) sc.names cl,qual:=env.qual,func:=ae,code:=env.code,frame:=env.frame,builtins:=env.builtins}
def XE{sc:d9}{env:Env}{cl:List (Str×Addr)}{Q:Env->az->Prop}
  (hQ:Q (compEnv sc cl s.heap.objs.size env) {s with heap:=tj (s.heap.push {cls:=.type "dict",data:=.dict #[]}) sc.names}):
  aA M A (Ua sc env.globals cl [] env.qual ae .none (ab env)) Q E s:=by
 simp only[Ua,Option.isSome_some,if_true]
 refine aG (wpAny_alloc ?_)
 refine aG (wpAny_layCells _ (λname kind cells=>by cases XF:kind==sZ<;>simp [XF]) _ _ _ _ ?_)
 rw[show({s with heap:=s.heap.push {cls:=.type "dict",data:=.dict #[]}}:az).heap.objs.size=s.heap.objs.size+1 from fh ..]
 simp only[xN]
 exact aG (aQ (aQ hQ))
end
def EM:∀(names:List (Str×jm))(h:Heap),h.objs.size<=(tj h names).objs.size:=by
 intro names
 induction names with
 |nil=>exactλh=>bj _
 |cons p r ih=>
  intro h
  unfold tj
  split
  ·exact aD (rg _ _) (ih _)
  ·exact ih h
def lookup_mem{α:Type}:∀{l:List (Str×α)}{n:Str}{c:α},l.lookup n=ab c->(n,c)∈l:=PySem.mem_of_lookup
def EO{α:Type}(x:Str):∀(a b:List (Str×α)),(a++b).lookup x=(match a.lookup x with|some v=>ab v|none=>b.lookup x):=by
 intro a b
 induction a with
 |nil=>rfl
 |cons p r ih=>
  rw[anb,cE,cE]
  cases x==p.1 with
  |true=>rfl
  |false=>exact ih
def XG{α β:Type}(f:Str->α->β)(x:Str):∀(l:List (Str×α)),(l.map λp=>(p.1,f p.1 p.2)).lookup x=(l.lookup x).map (f x):=by
 intro l
 induction l with
 |nil=>rfl
 |cons p r ih=>
  rw[qB,cE,cE]
  cases h:x==p.1 with
  |true=>exact af ab (af (λz=>f z p.2) (ao h).symm)
  |false=>exact ih
def XH(P:Str->Bool)(x:Str)(l:List (Str×jm)):(l.map λ(n,k)=>if(k==.free&&P n)then(n,sZ)else(n,k)).lookup x=(l.lookup x).map λk=>if(k==.free&&P x)then .cell else k:=by
 rw[<-XG (λn k=>if(k==g8&&P n)=true then sZ else k) x l]
 congr 1
 apply tm
 intro p _
 obtain⟨n,k⟩:=p
 by_cases q:(k==g8&&P n)=true
 ·simp only[q,if_true]
 ·simp only[q];rfl
def XI(g:Str->Option Nat)(x:Str)(l:List (Str×jm))(i:Nat)(h:(l.filterMap λp=>if p.2==.free then(g p.1).map (p.1,·)else ae).lookup x=ab i):(x,g8)∈l/\g x=ab i:=by
 induction l with
 |nil=>exact aN h
 |cons p r ih=>
  obtain⟨n,k⟩:=p
  rw[JW]at h
  by_cases q:k=.free
  ·subst q
   simp only[aw,if_true]at h
   cases hg:g n with
   |none=>
    rw[hg]at h
    obtain⟨a,b⟩:=ih h
    exact⟨bS _ a,b⟩
   |some j=>
    rw[hg]at h
    simp only[AW]at h
    rw[cE]at h
    cases hx:x==n with
    |true=>
     rw[hx]at h;cases h
     have:=ao hx;subst this
     exact⟨bk,hg⟩
    |false=>
     rw[hx]at h
     obtain⟨a,b⟩:=ih h
     exact⟨bS _ a,b⟩
  ·have:(k==g8)=false:=by simpa using q
   simp only[this,pq,if_false]at h
   obtain⟨a,b⟩:=ih h
   exact⟨bS _ a,b⟩
abbrev gk(c:Sc)(sc:d9)(ts:List (Str×Nat))(c':Sc):Prop:=(sc.kind=.function)/\(c'.names=sc.names.map λ(n,k)=>if(k==.free&&c.names.lookup n==ab .cell)then(n,.cell)else(n,k))/\(∀x∈sc.names,x.2=.local->sc.names.lookup x.1=ab .local)/\(∀x,(x,sZ)∈sc.names->(ts.lookup x).isSome=true/\sc.names.lookup x=ab .cell)/\(∀x,(x,g8)∈sc.names->(∃i,c.slots.lookup x=ab i)/\(c.names.lookup x=ab .cell∨c.names.lookup x=ab .free)/\ts.lookup x=ae/\sc.names.lookup x=ab .free)/\(∀x i,ts.lookup x=ab i->sc.names.lookup x=ab .local∨sc.names.lookup x=ab .cell)/\(∀x i,c'.slots.lookup x=ab i->ts.lookup x=ab i∨(ts.lookup x=ae/\(x,g8)∈sc.names/\c.slots.lookup x=ab i))/\(∀x i,c.slots.lookup x=ab i->∀p∈ts,i≠p.2)/\c'.own=c.own/\(∀p∈ts,c.own.contains p.2=false)/\(ts.map (·.1)).Nodup/\(ts.map (·.2)).Nodup
section
variable(h:gk c sc ts c')
def gk.kind:=h.1
def gk.names:=h.2.1
def gk.XJ:=h.2.2.1
def gk.cell:=h.2.2.2.1
def gk.free:=h.2.2.2.2.1
def gk.XK:=h.2.2.2.2.2.1
def gk.slot:=h.2.2.2.2.2.2.1
def gk.apart:=h.2.2.2.2.2.2.2.1
def gk.own:=h.2.2.2.2.2.2.2.2.1
def gk.XM:=h.2.2.2.2.2.2.2.2.2.1
def gk.nd:=h.2.2.2.2.2.2.2.2.2.2.1
def gk.cL:=h.2.2.2.2.2.2.2.2.2.2.2
end
def band{a b:Bool}{P:Prop}(h:(a&&b)=true)(k:a=true->b=true->P):P:=k (ik.mp h).1 (ik.mp h).2
def bor{a b:Bool}{P:Prop}(h:(a||b)=true)(k:a=true->P)(k':b=true->P):P:=(Jz.mp h).elim k k'
def EP{c:Sc}{sc:d9}{ts:List (Str×Nat)}{c':Sc}(h:rh c sc ts=ab c'):gk c sc ts c':=by
 unfold rh at h
 refine ifs h λhc e=>band hc λhc h7=>band hc λhc h6=>band hc λhc h5=>band hc λhc h4=>band hc λhc h3=>band hc λh1 h2=>?_
 subst e
 have h2:=bA.mp h2
 refine⟨aq h1,rfl,λx hx hl=>?_,λx hx=>band (h2 _ hx) λa b=>⟨a,ao b⟩,λx hx=>?_,λx i hx=>bor (bA.mp h3 _ (lookup_mem hx)) (λq=>.inl (ao q)) λq=>.inr (ao q),λx i hx=>?_,
  λx i hx p hp=>?_,rfl,λp hp=>by simpa using bA.mp h7 p hp,aq h4,aq h5⟩
 ·obtain⟨n,kk⟩:=x
  cases hl
  exact band (h2 _ hx) λy q=>ao q
 ·exact band (h2 _ hx) λq e=>band q λq d=>band q λa b=>⟨mD.mp a,bor b (λq=>.inl (ao q)) (λq=>.inr (ao q)),by simpa using d,ao e⟩
 ·rw[EO]at hx
  cases q:ts.lookup x with
  |some j=>rw[q]at hx;cases hx;exact .inl rfl
  |none=>
   rw[q]at hx
   have z:=XI (λn=>c.slots.lookup n) x sc.names i hx
   exact .inr ⟨rfl,z.1,z.2⟩
 ·have:=bA.mp (bA.mp h6 p hp) _ (lookup_mem hx)
  simpa using this
abbrev kN(env aU:Env)(c:Sc)(sc:d9)(ts:List (Str×Nat))(c':Sc)(lo:Nat):Prop:=(aU.scope.kind=.function)/\aU.scope.names=c'.names/\aU.globals=env.globals/\aU.builtins=env.builtins/\lo<=aU.locals/\(∀x,(x,g8)∈sc.names->aU.cells.lookup x=env.cells.lookup x)/\(∀x,aU.kindOf x=ab .cell∨aU.kindOf x=ab .free->∃a,aU.cells.lookup x=ab a)/\(∀x a,aU.cells.lookup x=ab a->env.cells.lookup x=ab a∨((x,sZ)∈sc.names/\lo<=a))/\(∀x y a,aU.cells.lookup x=ab a->aU.cells.lookup y=ab a->x=y)/\(∀x a,aU.cells.lookup x=ab a->a≠aU.locals)
section
variable{lo:Nat}(h:kN env aU c sc ts c' lo)
def kN.kind:=h.1
def kN.names:=h.2.1
def kN.globals:=h.2.2.1
def kN.builtins:=h.2.2.2.1
def kN.loc:=h.2.2.2.2.1
def kN.free:=h.2.2.2.2.2.1
def kN.has:=h.2.2.2.2.2.2.1
def kN.cells:=h.2.2.2.2.2.2.2.1
def kN.inj:=h.2.2.2.2.2.2.2.2.1
def kN.ne:=h.2.2.2.2.2.2.2.2.2
end
def yL{c:Sc}{sc:d9}{ts:List (Str×Nat)}{c':Sc}(H:gk c sc ts c')(x:Str):c'.names.lookup x=(sc.names.lookup x).map λk=>if(k==.free&&c.names.lookup x==ab .cell)then .cell else k:=by
 rw[H.names]
 exact XH (λn=>c.names.lookup n==ab .cell) x sc.names
section
variable{X:Kx}{k:Nat}{A:aM}{env aU:Env}{c c':Sc}{sc:d9}{ts:List (Str×Nat)}{N N' M':Addr->Prop}{r r':aE}{aP s':az}{lo:Nat}
def XN(a:At X k A env c N r aP)(H:gk c sc ts c')(e:kN env aU c sc ts c' lo)(kp:Kp X aP s')(F:cJ X aU M' (λx=>(ts.lookup x).isSome=true) s'.heap)(ng:NG X N' s'.heap)
  (hN:∀b,N' b->N b∨aP.heap.objs.size<=b) (BN:aP.heap.objs.size<=lo)
  (ht:∀x i t,ts.lookup x=ab i->get r' i=ab t->∃v,Rd aU s'.heap x v/\VR X N' s'.heap t v)
  (hr:∀i,(∀p∈ts,i≠p.2)->get r' i=get r i):At X k A aU c' N' r' s':=by
 have a':=a.kp kp
 have LX:∀b,aP.heap.objs.size<=b->b∉aV:=λb hb q=>bx (a.ng.lt b (a.ng.tb b q)) hb
 refine⟨⟨e.kind,e.names,e.globals.trans a.ec.globals,e.builtins.trans a.ec.builtins,LX _ (aD BN e.loc),λx b hb=>(e.cells x b hb).elim (a.ec.ju x b) λq=>LX _ (aD BN q.2),e.has,λx b hb=>⟨?_,e.ne x b hb⟩,e.inj,λx i t h1 h2=>?_⟩,a'.wd,ng,a.ra⟩
 ·refine(e.cells x b hb).elim (λq=>(a'.ec.dz x b q).1) λq=>(F.dz x (H.cell x q.1).1).elim (λg=>?_) λg=>g.2.elim λb' g=>Option.some.inj (hb.symm.trans g.1)▸g.2.2
  have h1:=yL H x
  rw[(H.cell x q.1).2,<-e.names,show aU.scope.names.lookup x=ab .local from g]at h1
  cases h1
 ·rcases H.slot x i h1 with q|⟨_,q1,q2⟩
  ·have z:=ht x i t q h2
   rw[H.own,H.XM (x,i) (lookup_mem q)]
   exact z
  ·rw[hr i (H.apart x i q2)]at h2
   obtain⟨v,g1,g2⟩:=a.ec.rd x i t q2 h2
   obtain⟨_,hk,_,hl⟩:=H.free x q1
   have kc:env.kindOf x=ab .cell∨env.kindOf x=ab .free:=by unfold qw;rw[a.ec.names];exact hk
   have XO:aU.kindOf x=ab .cell∨aU.kindOf x=ab .free:=by
    unfold qw
    rw[e.names,yL H x,hl,AW]
    split
    ·exact .inl rfl
    ·exact .inr rfl
   have keep:=kp.kc a.ng.tb
   refine⟨v,.inr ⟨XO,?_⟩,H.own▸g2.map (λx=>x.move hN keep λb o T c e=>kp.old b o (mJ a.apart e c) e) λx=>x.move hN keep⟩
   rcases g1 with⟨g,_⟩|⟨g,b,g2,o,g3,g4⟩
   ·exact aj (kc.elim (λq=>(g.symm.trans q:ab jm.local=ab .cell)) λq=>nomatch g.symm.trans q) nofun
   ·exact⟨b,(e.free x q1).trans g2,o,kp.old _ _ (a.ec.ju _ _ g2) g3,g4⟩
end
def XP{X:Kx}{k:Nat}{A:aM}{env:Env}{c c':Sc}{sc:d9}{ts:List (Str×Nat)}{N:Addr->Prop}{r:aE}{aP:az}(a:At X k A env c N r aP)(H:gk c sc ts c')
  {cl:List (Str×Addr)} (c2:∀x b,cl.lookup x=ab b->env.cells.lookup x=ab b) (c3:∀p∈sc.names,p.2=.free->(cl.lookup p.1).isSome=true) {h:Heap} (hz:aP.heap.objs.size<=h.objs.size)
  {bJ:Heap} (hh:bJ=tj (h.push {cls:=.type "dict",data:=.dict #[]}) sc.names):
  kN env {compEnv sc cl h.objs.size env with scope:=xP sc env} c sc ts c' h.objs.size/\
  cJ X {compEnv sc cl h.objs.size env with scope:=xP sc env} (λb=>h.objs.size<=b/\b<bJ.objs.size) (λx=>(ts.lookup x).isSome=true) bJ/\(∀b o,h.get? b=ab o->bJ.get? b=ab o):=by
 subst hh
 have ok:=cellsFrom_ok sc.names (h.push {cls:=.type "dict",data:=.dict #[]}) (h.objs.size+1) [] ⟨λw w hm=>(nomatch hm),ane⟩ (by rw[fh];exact bj _)
 rw[fh]at ok
 have ec:∀x,(fm (h.objs.size+1) sc.names cl).lookup x=(match(fm (h.objs.size+1) sc.names []).lookup x with|some v=>ab v|none=>cl.lookup x):=λx=>by rw[LW,EO];cases (fm (h.objs.size+1) sc.names []).lookup x<;>rfl
 have own:∀x b,(fm (h.objs.size+1) sc.names []).lookup x=ab b->(x,sZ)∈sc.names:=λx b e=>(XD _ _ _ _ _ e).elim id λq=>by cases q
 have old:∀x b,env.cells.lookup x=ab b->b<h.objs.size:=λx b e=>by obtain⟨⟨v,o,e1,_⟩,_⟩:=a.ec.dz x b e;exact bG (bw e1) hz
 have nm:(xP sc env).names=c'.names:=by
  rw[H.names]
  unfold xP
  simp only[]
  apply tm
  intro p _
  obtain⟨n,kk⟩:=p
  have:env.kindOf n=c.names.lookup n:=by unfold qw;rw[a.ec.names]
  simp only[this,a.ec.kind]
  simp
 have keep:∀b o,h.get? b=ab o->(tj (h.push {cls:=.type "dict",data:=.dict #[]}) sc.names).get? b=ab o:=λb o e=>anf _ _ _ _ (cS _ e)
 have gm:∀x b,(fm (h.objs.size+1) sc.names cl).lookup x=ab b->(env.cells.lookup x=ab b/\b<h.objs.size)∨((fm (h.objs.size+1) sc.names []).lookup x=ab b/\h.objs.size+1<=b):=λx b e=>by
  rw[ec]at e
  split at e
  ·rename_i q;cases e;exact .inr ⟨q,(ok.empty x b (lookup_mem q)).2⟩
  ·exact .inl ⟨c2 x b e,old x b (c2 x b e)⟩
 have inj:∀x y b,(fm (h.objs.size+1) sc.names cl).lookup x=ab b->(fm (h.objs.size+1) sc.names cl).lookup y=ab b->x=y:=λx y b e1 e2=>by
  rcases gm x b e1 with⟨p1,p2⟩|⟨p1,p2⟩<;>rcases gm y b e2 with⟨q1,q2⟩|⟨q1,q2⟩
  ·exact a.ec.inj x y b p1 q1
  ·exact(fN _ (qt (JX q2) p2)).elim
  ·exact(fN _ (qt (JX p2) q2)).elim
  ·exact name_of_addr ok.apart (lookup_mem p1) (lookup_mem q1)
 have ne:∀x b,(fm (h.objs.size+1) sc.names cl).lookup x=ab b->b≠h.objs.size:=λx b e=>by
  rcases gm x b e with⟨_,q⟩|⟨_,q⟩
  ·exact cW q
  ·exact iS (JX q)
 have frees:∀x,(x,g8)∈sc.names->(fm (h.objs.size+1) sc.names []).lookup x=ae:=λx hx=>by
  cases q:(fm (h.objs.size+1) sc.names []).lookup x with
  |none=>rfl
  |some b=>
   have h1:=(H.cell x (own x b q)).2
   have h2:=(H.free x hx).2.2.2
   rw[h1]at h2;cases h2
 refine⟨⟨H.kind,nm,rfl,rfl,bj _,λx hx=>?_,λx hx=>?_,λx b e=>?_,inj,ne⟩,⟨H.kind,⟨⟨bj _,?_⟩,_,(Heap.Ns.new h (.type "dict")).keeps (anf _ _)⟩,λx hx=>?_,inj,ne⟩,keep⟩
 ·show(fm (h.objs.size+1) sc.names cl).lookup x=_
  rw[ec,frees x hx]
  obtain⟨b,e⟩:=mD.mp (c3 (x,.free) hx rfl)
  rw[e,c2 x b e]
 ·have nX:c'.names.lookup x=ab .cell∨c'.names.lookup x=ab .free:=by
   have:∀q,qw {compEnv sc cl h.objs.size env with scope:=xP sc env} x=q->c'.names.lookup x=q:=λq e=>by rw[<-nm];exact e
   exact hx.imp (this _) (this _)
  show∃b,(fm (h.objs.size+1) sc.names cl).lookup x=ab b
  rw[yL H x]at nX
  cases q:sc.names.lookup x with
  |none=>rw[q]at nX;rcases nX with z|z<;>cases z
  |some kk=>
   rw[q]at nX
   have m:=lookup_mem q
   have:kk=.cell∨kk=.free:=by
    simp only[AW,au1]at nX
    by_cases f:kk=.free
    ·exact .inr f
    ·have:(kk==g8)=false:=by simpa using f
     simp only[this,JY,pq,if_false]at nX
     exact nX
   rcases this with rfl|rfl
   ·exact mD.mp (EK _ _ _ _ (.inl m))
   ·rw[ec,frees x m]
    exact mD.mp (c3 _ m rfl)
 ·rcases gm x b e with⟨q,_⟩|⟨q,z⟩
  ·exact .inl q
  ·exact .inr ⟨own x b q,oE z⟩
 ·exact bG (by rw[fh];exact il _) (EM _ _)
 ·obtain⟨i,hi⟩:=mD.mp hx
  have kd:∀q,c'.names.lookup x=q->qw {compEnv sc cl h.objs.size env with scope:=xP sc env} x=q:=λq e=>by rw[<-nm]at e;exact e
  rcases H.XK x i hi with q|q
  ·exact .inl (kd _ (by rw[yL H x,q];rfl))
  ·refine .inr ⟨kd _ (by rw[yL H x,q];rfl),?_⟩
   obtain⟨b,hb⟩:=mD.mp (EK sc.names (h.objs.size+1) [] x (.inl (lookup_mem q)))
   obtain⟨ce,lo⟩:=ok.empty x b (lookup_mem hb)
   refine⟨b,?_,⟨oE lo,?_⟩,_,ce⟩
   ·show(fm (h.objs.size+1) sc.names cl).lookup x=ab b
    rw[ec,hb]
   ·obtain⟨o,e,_⟩:=ce;exact bw e
section
variable{prog:gK}{w:gY}{A:aM}{E:ay->az->Prop}{R:oH->az->Prop}
noncomputable def BO(ifs:List Expr)(env:Env):Sem Bool:=forIn ifs true λc r=>if r=true then do let ok <-xG c env (eval c env);pure (anh ok)else pure (anh r)
def XQ{elt target iter:Expr}{ifs:List Expr}{scope:d9}{pos:Pos}{it acc:ay}{env:Env}(I:Nat->az->Prop)
  (turn:∀n s(E:ay->az->Prop),I n s->aA (model prog w) A (iQ it) (λr aB=>match r with
   |none=>R (.ok .next) aB
   |some v=>aA (model prog w) A (lB target it v) (λz jy=>aA (model prog w) A (assign target env v) (λz s₂=>
     aA (model prog w) A (BO ifs env) (λok aX=>
      if ok=true then aA (model prog w) A (eval elt env) (λx aS=>
       aA (model prog w) A (call (.builtin "list.append") [acc,x]) (λz dC=>∃m,m<n/\I m dC) E aS) E aX
      else∃m,m<n/\I m aX) E s₂) E jy) E aB) E s)
  (n:Nat) {s:az} (h:I n s):
  gN (model prog w) A (.compLoop (.ListComp elt [⟨target,iter,ifs,0⟩] scope pos) 0 it acc env) R s:=by
 refine Uc rfl I (λn s hI=>?_) n h
 show aA _ A ((DG (.ListComp elt [⟨target,iter,ifs,0⟩] scope pos) 0 it acc env).onRaise (λx=>do JZ x env;Ud x)) _ _ s
 refine Ue ?_
 rw[compTurn_list]
 refine aG (lL (aG (eE (turn n s _ hI) (λr aB bJ=>?_) λz z h'=>h')))
 cases r with
 |none=>exact aQ bJ
 |some v=>
  refine aG (eE bJ (λz jy yM=>?_) λz z h'=>h')
  refine aG (eE yM (λz s₂ h₂=>aG (eE h₂ (λok aX j0=>?_) λz z h'=>h')) λz z h'=>h')
  cases ok with
  |false=>exact aQ ⟨rfl,j0⟩
  |true=>
   exact aG (aG (eE j0 (λx aS yN=>aG (eE yN (λz dC vV=>aQ (aQ ⟨rfl,vV⟩)) λz z h'=>h')) λz z h'=>h'))
def XR(elt t0 i0 target iter:Expr)(scope:d9)(pos:Pos)(it acc:ay)(env:Env):
  DG (.ListComp elt [⟨t0,i0,[],0⟩,⟨target,iter,[],0⟩] scope pos) 1 it acc env=(do
   xH iter.pos
   match<-iQ it with
   |none=>pure (.done .next)
   |some v=>
    lB target it v
    assign target env v
    let mut ok:=true
    for c in([]:List Expr) do
     if ok then ok <-xG c env (eval c env)
    if ok then
     (do let _ <-call (.builtin "list.append") [acc,<-eval elt env])
    again (.compLoop (.ListComp elt [⟨t0,i0,[],0⟩,⟨target,iter,[],0⟩] scope pos) 1 it acc env)):=by rfl
def XS(elt t0 i0 target iter:Expr)(scope:d9)(pos:Pos)(it acc:ay)(env:Env):
  DG (.ListComp elt [⟨t0,i0,[],0⟩,⟨target,iter,[],0⟩] scope pos) 0 it acc env=(do
   xH i0.pos
   match<-iQ it with
   |none=>pure (.done .next)
   |some v=>
    lB t0 it v
    assign t0 env v
    let mut ok:=true
    for c in([]:List Expr) do
     if ok then ok <-xG c env (eval c env)
    if ok then
     let x <-eval iter env
     xH iter.pos
     let x <-Uh iter env x
     let _ <-runOwn (.compStart (.ListComp elt [⟨t0,i0,[],0⟩,⟨target,iter,[],0⟩] scope pos) 1 (<-JH [x] (jQ x)) acc env) env
    again (.compLoop (.ListComp elt [⟨t0,i0,[],0⟩,⟨target,iter,[],0⟩] scope pos) 0 it acc env)):=by rfl
def XT{elt t0 i0 target iter:Expr}{scope:d9}{pos:Pos}{it acc:ay}{env:Env}(I:Nat->az->Prop)
  (turn:∀n s(E:ay->az->Prop),I n s->aA (model prog w) A (iQ it) (λr aB=>match r with
   |none=>R (.ok .next) aB
   |some v=>aA (model prog w) A (lB target it v) (λz jy=>aA (model prog w) A (assign target env v) (λz s₂=>
     aA (model prog w) A (BO [] env) (λok aX=>
      if ok=true then aA (model prog w) A (eval elt env) (λx aS=>
       aA (model prog w) A (call (.builtin "list.append") [acc,x]) (λz dC=>∃m,m<n/\I m dC) E aS) E aX
      else∃m,m<n/\I m aX) E s₂) E jy) E aB) E s)
  (n:Nat) {s:az} (h:I n s):
  gN (model prog w) A (.compLoop (.ListComp elt [⟨t0,i0,[],0⟩,⟨target,iter,[],0⟩] scope pos) 1 it acc env) R s:=by
 refine Uc rfl I (λn s hI=>?_) n h
 show aA _ A ((DG (.ListComp elt [⟨t0,i0,[],0⟩,⟨target,iter,[],0⟩] scope pos) 1 it acc env).onRaise (λx=>do JZ x env;Ud x)) _ _ s
 refine Ue ?_
 rw[XR]
 refine aG (lL (aG (eE (turn n s _ hI) (λr aB bJ=>?_) λz z h'=>h')))
 cases r with
 |none=>exact aQ bJ
 |some v=>
  refine aG (eE bJ (λz jy yM=>?_) λz z h'=>h')
  refine aG (eE yM (λz s₂ h₂=>aG (eE h₂ (λok aX j0=>?_) λz z h'=>h')) λz z h'=>h')
  cases ok with
  |false=>exact aQ ⟨rfl,j0⟩
  |true=>exact aG (aG (eE j0 (λx aS yN=>aG (eE yN (λz dC vV=>aQ (aQ ⟨rfl,vV⟩)) λz z h'=>h')) λz z h'=>h'))
def XU{elt t0 i0 target iter:Expr}{scope:d9}{pos:Pos}{it acc:ay}{env:Env}{s:az}
  (h0:gN (model prog w) A (.compLoop (.ListComp elt [⟨t0,i0,[],0⟩,⟨target,iter,[],0⟩] scope pos) 1 it acc env) R s)
  (h:∀E,aA (model prog w) A (jQ it) (λyO s'=>gN (model prog w) A (.compLoop (.ListComp elt [⟨t0,i0,[],0⟩,⟨target,iter,[],0⟩] scope pos) 1 yO acc env) R s') E s):
  gN (model prog w) A (.compStart (.ListComp elt [⟨t0,i0,[],0⟩,⟨target,iter,[],0⟩] scope pos) 1 it acc env) R s:=by
 refine Ui ?_
 show aA _ _ ((compStart (.ListComp elt [⟨t0,i0,[],0⟩,⟨target,iter,[],0⟩] scope pos) 1 it acc env).onRaise (λx=>do JZ x env;xH theWindowsPlace)) _ _ s
 refine wpAny_notedAt ?_
 unfold compStart
 show aA _ _ (ask>>=_) _ _ s
 refine aG (anj (wpAny_ite ?_))
 split
 ·exact aG (aQ (aQ (And.intro rfl h0)))
 ·refine aG (DH ?_)
  show aA _ _ (xH iter.pos>>=_) _ _ s
  exact aG (lL (aG (eE (h _) (λyO s' h'=>aQ (And.intro rfl h')) λz z x=>x)))
def XW{elt t0 i0 target iter:Expr}{scope:d9}{pos:Pos}{it acc:ay}{env:Env}(hf:∀x,Uh iter env x=pure x)(I:Nat->az->Prop)
  (turn:∀n s(E:ay->az->Prop),I n s->aA (model prog w) A (iQ it) (λr aB=>match r with
   |none=>R (.ok .next) aB
   |some v=>aA (model prog w) A (lB t0 it v) (λz jy=>aA (model prog w) A (assign t0 env v) (λz s₂=>
     aA (model prog w) A (eval iter env) (λx aX=>aA (model prog w) A (jQ x) (λyO aS=>
      ∀(E':ay->az->Prop),gN (model prog w) (A.mark ae) (.compStart (.ListComp elt [⟨t0,i0,[],0⟩,⟨target,iter,[],0⟩] scope pos) 1 yO acc env) (λr dC=>match r with|.ok _=>∃m,m<n/\I m dC|.error e=>E' e dC) aS) E aX) E s₂) E jy) E aB) E s)
  (n:Nat) {s:az} (h:I n s):
  gN (model prog w) A (.compLoop (.ListComp elt [⟨t0,i0,[],0⟩,⟨target,iter,[],0⟩] scope pos) 0 it acc env) R s:=by
 refine Uc rfl I (λn s hI=>?_) n h
 show aA _ A ((DG (.ListComp elt [⟨t0,i0,[],0⟩,⟨target,iter,[],0⟩] scope pos) 0 it acc env).onRaise (λx=>do JZ x env;Ud x)) _ _ s
 refine Ue ?_
 rw[XS]
 refine aG (lL (aG (eE (turn n s _ hI) (λr aB bJ=>?_) λz z h'=>h')))
 cases r with
 |none=>exact aQ bJ
 |some v=>
  refine aG (eE bJ (λz jy yM=>?_) λz z h'=>h')
  refine aG (eE yM (λz s₂ h₂=>aG (ank ?_)) λz z h'=>h')
  refine aG (eE h₂ (λx aX j0=>aG (lL (aG (A0 (hf x) (aG (dN (eE j0 (λyO aS yN=>?_) λz z h'=>h'))))))) λz z h'=>h')
  exact aG (wpAny_runOwn (qF (yN _) λr dC vV=>by
   cases r with
   |ok f=>exact aQ ⟨rfl,vV⟩
   |error e=>exact vV))
end
def get_eq{r:aE}{i:Nat}:get r i=(r[i]?).elim ae id:=by unfold get;rw[Uj];cases r[i]?<;>rfl
def get_set{r:aE}{i j:Nat}{o:Option T}{t:T}(h:get (r.set j o) i=ab t):(i=j/\o=ab t)∨(i≠j/\get r i=ab t):=by
 by_cases q:i=j
 ·subst q
  refine .inl ⟨rfl,?_⟩
  rw[get_eq,List.getElem?_set_self']at h
  cases e:r[i]? with
  |none=>rw[e]at h;exact aN h
  |some z=>rw[e]at h;exact h
 ·refine .inr ⟨q,?_⟩
  rw[get_eq,anl (λe=>q e.symm),<-get_eq]at h
  exact h
def yP{r:aE}{i j:Nat}{t x:T}(h:get (put r j x) i=ab t):(i=j/\t=x)∨(i≠j/\get r i=ab t):=(get_set h).imp (λq=>⟨q.1,(Option.some.inj q.2).symm⟩) id
def XX{r:aE}{i j:Nat}{t:T}(h:get (r.set j ae) i=ab t):i≠j/\get r i=ab t:=(get_set h).elim (λq=>aN q.2) id
def ER{r:aE}{i j:Nat}{o:Option T}(q:i≠j):get (r.set j o) i=get r i:=by rw[get_eq,get_eq,anl λe=>q e.symm]
def l4{r:aE}{i j:Nat}{x:T}(q:i≠j):get (put r j x) i=get r i:=ER q
def vW{i:Nat}{ks:List Nat}:∀{xs:List T}{r r':aE},putAll r ks xs=ab r'->i∉ks->get r' i=get r i:=by
 induction ks with
 |nil=>intro xs _ _ h _;cases xs with|nil=>cases h;rfl|cons=>exact aN h
 |cons k ks ih=>
  intro xs r r' h n
  cases xs with
  |nil=>exact aN h
  |cons x xs=>exact(ih (r:=put r k x) h λq=>n (bS _ q)).trans (l4 λe=>n (by rw[e];exact bk))
def ES{i:Nat}{t:T}{ks:List Nat}:∀{xs:List T}{r r':aE}{j:Nat},putAll r ks xs=ab r'->ks.Nodup->ks[j]?=ab i->get r' i=ab t->xs[j]?=ab t:=by
 induction ks with
 |nil=>exactλz z h z=>aN h
 |cons k ks ih=>
  intro xs r r' j h nd e g
  cases xs with
  |nil=>exact aN h
  |cons x xs=>
   have cU:=g9.mp nd
   cases j with
   |zero=>
    cases e
    rw[vW (r:=put r i x) h cU.1]at g
    exact(yP g).elim (λq=>af ab q.2.symm) λq=>aj rfl q.1
   |succ j=>exact ih (r:=put r k x) (j:=j) h cU.2 e g
def BP{ks:List Nat}:∀{xs:List T}{r r':aE},putAll r ks xs=ab r'->ks.length=xs.length:=by
 induction ks with
 |nil=>intro xs _ _ h;cases xs with|nil=>rfl|cons=>exact aN h
 |cons k ks ih=>intro xs r r' h;cases xs with|nil=>exact aN h|cons x xs=>exact af (· +1) (ih (r:=put r k x) h)
def XY{e:aW}{x:Str}(h:nameOf e=ab x):∃p,e=.Name x p:=by
 unfold nameOf at h
 split at h
 ·rename_i q
  revert h
  exact qG.elim (motive_1:=λe=>∀q:e.ctorIdx=23,qG.elim e q (λn z=>ab n)=ab x->∃p,e=.Name x p) e q (λn p z h=>⟨p,by rw[<-Option.some.inj h]⟩) q
 ·exact aN h
def XZ{es:List aW}:∀{ks:List Nat}{ts:List (Str×Nat)},yE es ks=ab ts->∃ps:List (Str×Pos),es=ps.map (λp=>.Name p.1 p.2)/\ts=(ps.map (·.1)).zip ks/\ps.length=ks.length:=by
 induction es with
 |nil=>intro ks _ h;cases ks with|nil=>cases h;exact⟨[],rfl,rfl,rfl⟩|cons=>exact aN h
 |cons e es ih=>
  intro ks ts h
  cases ks with
  |nil=>exact aN h
  |cons k ks=>
   refine aO h λx e1 h=>map_some h λBQ h1 h2=>(XY e1).elim λp e2=>(ih h1).elim λps z=>?_
   exact⟨(x,p)::ps,by rw[e2,z.1];rfl,by rw[<-h2,z.2.1];rfl,af Nat.succ z.2.2⟩
def LY(env:Env):∀(ps:List (Str×Pos)),assignEach (ps.map λp=>qG p.1 p.2) env=ps.map λp=>(false,assign (.Name p.1 p.2) env):=by
 intro ps
 induction ps with
 |nil=>rfl
 |cons p ps ih=>rw[qB,qB,<-ih];rfl
section
variable{X:Kx}{env:Env}{M N:Addr->Prop}{own:Str->Prop}{s:az}{A:aM}{E:ay->az->Prop}
structure fB(X:Kx)(env:Env)(M:Addr->Prop)(own:Str->Prop)(l:List ((Str×Pos)×ay))(s s':az):Prop where
 mv:Mv X (λb=>M b/\Fr env b) s s'
 cn:cJ X env M own s'.heap
 dz:∀x b,env.cells.lookup x=ab b->b∉aV->(∃v,s.heap.IsCell b v)->∃v,s'.heap.IsCell b v
 rd:∀e∈l,Rd env s'.heap e.1.1 e.2
 fS:∀y u,y∉l.map (·.1.1)->Rd env s.heap y u->Rd env s'.heap y u
variable{l l':List ((Str×Pos)×ay)}{s' ck:az}
def fB.keep(F:cJ X env M own s.heap){h':Heap}{tk:Nat}(k:∀b o,s.heap.get? b=ab o->h'.get? b=ab o)(z:s.heap.objs.size<=h'.objs.size):fB X env M own [] s {s with heap:=h',toks:=tk}:=
 ⟨Mv.of (Kp.of k z),F.mv λb o w e=>k b o e,λx b w w q=>IsCell.to q λo e=>k b o e,λw h=>(gM h).elim,λy u w q=>q.to λb o w e=>k b o e⟩
def fB.app(a:fB X env M own l s s')(b:fB X env M own l' s' ck)(h:∀e∈l,e.1.1∉l'.map (·.1.1)):fB X env M own (l++l') s ck:=
 ⟨a.mv.trans b.mv λw h=>.inl h,b.cn,λx d e n q=>b.dz x d e n (a.dz x d e n q),λe he=>(vk.mp he).elim (λq=>b.fS _ _ (h e q) (a.rd e q)) (b.rd e),
  λy u hy q=>by rw[mE]at hy;exact b.fS y u (λz=>hy (mF _ z)) (a.fS y u (λz=>hy (A4 _ z)) q)⟩
def fB.rev(a:fB X env M own l.reverse s s'):fB X env M own l s s':=⟨a.mv,a.cn,a.dz,λe h=>a.rd e (A5.mpr h),λy u h=>a.fS y u λz=>h (by rw[qH]at z;exact A5.mp z)⟩
def fB.m(a:fB X env M own l s s'):Mv X M s s':=a.mv.sub λz h=>h.1
def ET(F:cJ X env M own s.heap){x:Str}{p:Pos}{v:ay}(hx:own x){Q:Unit->az->Prop}(q:∀s',fB X env M own [((x,p),v)] s s'->Q () s'):aA (model X.prog X.w) A (xM env x v) Q E s:=by
 refine BL F hx λs' b hb hw mv rd fS F'=>q s' ⟨mv.sub λa e=>⟨e▸hb,?_⟩,F',λy d e n q=>?_,λe he=>?_,λy u hy hu=>fS y u (λz=>hy (b4.mpr z)) hu⟩
 ·rw[e];exact hw.imp id λz=>⟨x,z.1⟩
 ·by_cases z:d=b
  ·exact hw.elim (λw=>aj (z.trans w) (F.ne y d e)) λw=>⟨_,z▸w.2⟩
  ·exact IsCell.to q λo e=>mv.old d o z n e
 ·rw[b4.mp he];exact rd
noncomputable def Run(M:mz)(A:aM)(E:ay->az->Prop)(Q:Unit->az->Prop)(l:List (Sem Unit)):az->Prop:=l.foldr (λf k s=>aA M A f (λz s'=>k s') E s) (Q ())
def EU{M:mz}{Q:Unit->az->Prop}:∀{l:List ((ay->Sem Unit)×ay)}{s:az},Run M A E Q (l.map λe=>e.1 e.2) s->aA M A (assignInOrder (l.map (·.1)) (l.map (·.2))) Q E s:=by
 intro l
 induction l with
 |nil=>exactλh=>aQ h
 |cons e l ih=>exactλh=>aG (dN (eE h (λy y z=>ih z) λy y z=>z))
def EV{g:Str->Pos->ay->Sem Unit}(hg:∀x p v(Q:Unit->az->Prop)(s:az),aA (model X.prog X.w) A (xM env x v) Q E s->aA (model X.prog X.w) A (g x p v) Q E s):
  ∀{l:List ((Str×Pos)×ay)}{s:az}{Q:Unit->az->Prop},cJ X env M own s.heap->(∀e∈l,own e.1.1)->(l.map (·.1.1)).Nodup->(∀s',fB X env M own l s s'->Q () s')->Run (model X.prog X.w) A E Q (l.map λe=>g e.1.1 e.1.2 e.2) s:=by
 intro l
 induction l with
 |nil=>exactλF z z q=>q _ ⟨.refl _,F,λz z z z h=>h,λz h=>(gM h).elim,λz z z h=>h⟩
 |cons e l ih=>
  intro s Q F ho nd q
  have cU:=g9.mp nd
  exact hg _ _ _ _ _ (ET F (ho e bk) λs' a=>ih a.cn (λe h=>ho e (bS _ h)) cU.2 λck b=>q ck (a.app b λe' he=>by rw[b4.mp he];exact cU.1))
def X0{t:Addr}{items:Array ay}{Q:List ay->az->Prop}(hh:A.handled=ae)(ht:IsTup s.heap t items)
  (hQ:∀h',(∀b o,s.heap.get? b=ab o->h'.get? b=ab o)->s.heap.objs.size<=h'.objs.size->Q items.toList {s with heap:=h'}):aA (model X.prog X.w) A (xQ (.ref t) items.size ae) Q E s:=
 fe (unpackItems_tuple hh ht λh' he hz=>hQ h' (λb o e=>he b o (cW (bw e)) e) hz)
def LZ:∀x p v(Q:Unit->az->Prop)(s:az),aA (model X.prog X.w) A (xM env x v) Q E s->aA (model X.prog X.w) A (assign (.Name x p) env v) Q E s:=λz z z z z h=>tu h
def X1(ps:List (Str×Pos)):(ps.map λp=>(false,assign (qG p.1 p.2) env)).findIdx? (·.1)=ae:=by
 rw[anp]
 intro x hx
 obtain⟨p,_,rfl⟩:=dy.mp hx
 rfl
def EW{α β:Type}{l:List α}{m:List β}(h:l.length=m.length):(l.zip m).map (·.1)=l:=anq (bO h)
def zip2{α β:Type}{l:List α}{m:List β}(h:l.length=m.length):(l.zip m).map (·.2)=m:=anr (bO h.symm)
def tY{α β γ:Type}{f:α->γ}{l:List α}{m:List β}(h:l.length=m.length):(l.zip m).map (λe=>f e.1)=l.map f:=by rw[<-EW (m:=m) h,fO,EW h];rfl
def BR{ps:List (Str×Pos)}{kk:Nat}{pos:Pos}{v:ay}{vs:List ay}{Q:Unit->az->Prop}(hl:ps.length=vs.length)
  (h:aA (model X.prog X.w) A (xQ v vs.length ae) (λws s'=>ws=vs/\fB X env M own [] s s') E s) (ho:∀p∈ps,own p.1) (nd:(ps.map (·.1)).Nodup) (q:∀s',fB X env M own (ps.zip vs) s s'->Q () s'):
  aA (model X.prog X.w) A (assign (.Tuple (ps.map λp=>.Name p.1 p.2) kk pos) env v) Q E s:=by
 rw[assign_Tuple]
 refine aG (lL ?_)
 unfold unpack
 rw[LY,bK,X1,hl]
 refine aG (dN (eE h (λws s' z=>?_) λy y z=>z))
 rw[z.1,fO]
 have e:ps.map ((λx=>x.2)∘λp=>(false,assign (qG p.1 p.2) env))=((ps.zip vs).map λe=>((λv=>assign (qG e.1.1 e.1.2) env v),e.2)).map (·.1):=by rw[fO];exact(tY (f:=λp=>assign (qG p.1 p.2) env) hl).symm
 have e2:vs=((ps.zip vs).map λe=>((λv=>assign (qG e.1.1 e.1.2) env v),e.2)).map (·.2):=by rw[fO];exact(zip2 hl).symm
 rw[e]
 conv=>arg 3;arg 2;rw[e2]
 refine EU ?_
 rw[fO]
 exact EV (g:=λx p v=>assign (.Name x p) env v) LZ z.2.cn (λe he=>ho e.1 (tw he).1) (by rw[show((ps.zip vs).map λe=>e.1.1)=ps.map (·.1)from tY hl];exact nd) λck b=>q ck (z.2.app b λy h=>(gM h).elim)
def vX{vs:List ay}{a:Addr}(hh:A.handled=ae)(F:cJ X env M own s.heap)(hp:IsTup s.heap a vs.toArray):aA (model X.prog X.w) A (xQ (.ref a) vs.length ae) (λws s'=>ws=vs/\fB X env M own [] s s') E s:=by
 have e:vs.toArray.size=vs.length:=bU ..
 rw[<-e]
 exact X0 hh hp λh' k z=>⟨rfl,fB.keep F k z⟩
inductive LstAt(X:Kx)(N:Addr->Prop)(h:Heap)(us:List T)(D:Addr):Prop
 |mk {ys} (pl:h.PlainList D (oD ys)) (hs:aL X N h us ys)
def LstAt.to{h h':Heap}{us:List T}{D:Addr}{N':Addr->Prop}(x:LstAt X N h us D)(k:∀o,h.get? D=ab o->h'.get? D=ab o)(f:∀{ys},aL X N h us ys->aL X N' h' us ys):LstAt X N' h' us D:=by
 cases x with|mk pl hs=>exact .mk (pl.at k) (f hs)
def LstAt.nt{h:Heap}{us:List T}{D:Addr}(x:LstAt X N h us D)(ap:Apart h):D∉aV:=by cases x with|mk pl hs=>exact pl.elim λz e=>mJ ap e rfl
def LstAt.kp{us:List T}{D:Addr}{s':az}(x:LstAt X N s.heap us D)(n:NG X N s.heap)(ap:Apart s.heap)(k:Kp X s s'):LstAt X N s'.heap us D:=x.to (λo e=>k.old _ _ (x.nt ap) e) λq=>q.kp n k
def LstAt.mv{us:List T}{D:Addr}{s':az}(x:LstAt X N s.heap us D)(n:NG X N s.heap)(ap:Apart s.heap)(k:Mv X M s s')(h:∀a,M a->N a)(hD:¬M D):LstAt X N s'.heap us D:=x.to (λo e=>k.old _ _ hD (x.nt ap) e) λq=>q.mv n k h
def X2{us:List T}{D:Addr}{te:T}{ye:ay}{Q:ay->az->Prop}(L:LstAt X N s.heap us D)(hz:us.length<=lim)(ng:NG X N s.heap)(hD:N D)(hv:VR X N s.heap te ye)(k:∀v s',Mv X (λb=>b=D) s s'->LstAt X N s'.heap (us++[te]) D->Q v s'):
  aA (model X.prog X.w) A (call (.builtin "list.append") [.ref D,ye]) Q E s:=by
 cases L with| @mk ys pl hs=>
 refine fe (Uk (hsz:=by rw[bU,hs.length];exact dS hz) pl λh6 X3 BS yQ=>?_)
 have m6:Mv X (λb=>b=D) s {s with heap:=h6}:=pl.elim λe he=>Mv.put he (nJ rfl (by decide)) (λb o hb e=>BS.extBut b o hb e) yQ
 refine k _ _ m6 (.mk (ys:=ys++[ye]) ?_ ((hs.app (aL.one hv)).mv ng m6 λb e=>e▸hD))
 rw[<-Um];exact X3
def It.next{N':Addr->Prop}{l:List T}{tp:Bool}{I:Addr}{fp wr:List Addr}{St:Nat->Heap->Prop}{eH:Nat->ay->Heap->Prop}{h₂:Heap}(it:It X N h₂ l tp I fp wr St eH)(hA:A.handled=ae){i:Nat}(ng:NG X N' s.heap)(hw:∀b∈wr,N' b)(st:St i s.heap)(hi:i<=l.length)
  (keep:∀b o,(¬N b∨iA o)->b∉wr->h₂.get? b=ab o->s.heap.get? b=ab o) (hN:∀a,N' a->N a∨a∈wr∨h₂.objs.size<=a) {tg:aW} (ht:tp=true->∃es k p,tg=.Tuple es k p)
  {Qn:az->Prop} {G:ay->az->Prop}
  (hn:i=l.length->∀s',Mv X (λb=>b∈wr) s s'->Qn s')
  (hs:∀y v s',l[i]?=ab y->Mv X (λb=>b∈wr) s s'->St (i+1) s'.heap->VR X N' s'.heap y v->G v s'):
  aA (model X.prog X.w) A (iQ (.ref I)) (λr aB=>match r with
   |none=>Qn aB
   |some v=>aA (model X.prog X.w) A (lB tg (.ref I) v) (λz jy=>G v jy) E aB) E s:=by
 cases hx:l[i]? with
 |none=>
  have yR:i=l.length:=J0 hi (anu.mp hx)
  exact fe (it.done A hA s _ E (yR▸st) λh' tk kk hz=>hn yR _ (Mv.wr (it.cls _ _ st) kk hz))
 |some y=>
  refine fe (it.item A hA i y s N' _ E hx st keep hN (λb h=>ng.lt b h) λv h' tk mid hv kk hz=>?_)
  have mw:Mv X (λb=>b∈wr) s {s with heap:=h',toks:=tk}:=Mv.wr (it.cls _ _ st) kk hz
  refine fe (it.lg A i v tg _ _ E ht mid λX4 X5 dU X6 iH=>?_)
  have L1:Mv X (λb=>b∈wr) {s with heap:=h',toks:=tk} {s with heap:=X4,toks:=X5}:=Mv.wr (it.Lo _ _ _ mid) X6 iH
  exact hs y v _ hx (mw.trans L1 λd h=>.inl h) dU (hv.mv (ng.mv mw) L1 hw)
end
def L5{α:Type}{l:List (Str×α)}:∀{j:Nat}{x:Str}{i:α},(l.map (·.1)).Nodup->l[j]?=ab (x,i)->l.lookup x=ab i:=by
 induction l with
 |nil=>exactλz h=>aN h
 |cons p r ih=>
  intro j x i nd h
  obtain⟨y,k⟩:=p
  have cU:=g9.mp nd
  rw[cE]
  cases j with
  |zero=>cases h;rw[aw]
  |succ j=>
   have h:r[j]?=ab (x,i):=h
   rw[beq_eq_false_iff_ne.mpr λ(e:x=y)=>cU.1 (e▸dy.mpr ⟨_,(dZ h),rfl⟩)]
   exact ih cU.2 h
def lookup_at{α:Type}{l:List (Str×α)}{x:Str}{i:α}(h:l.lookup x=ab i):∃j:Nat,l[j]?=ab (x,i):=by
 induction l with
 |nil=>exact aN h
 |cons p r ih=>
  obtain⟨y,k⟩:=p
  rw[cE]at h
  cases q:x==y with
  |true=>rw[q]at h;cases h;rw[ao q];exact⟨0,rfl⟩
  |false=>rw[q]at h;exact(ih h).elim λj e=>⟨j+1,e⟩
def kO(X:Kx)(N:Addr->Prop)(env:Env)(ts:List (Str×Nat))(K:Str->Prop)(r:aE)(h:Heap):Prop:=∀y i t,K y->ts.lookup y=ab i->get r i=ab t->∃u,Rd env h y u/\VR X N h t u
noncomputable def no:Str->Prop:=λz=>False
noncomputable def al:Str->Prop:=λz=>True
abbrev ow(ts:List (Str×Nat))(x:Str):Prop:=(ts.lookup x).isSome=true
structure tZ(X:Kx)(A:aM)(ts:List (Str×Nat))(r:aE)(tg:aW)(K:Str->Prop)(ρ:T->Option aE):Prop where
 keep:∀x r',ρ x=ab r'->∀i,(∀p∈ts,i≠p.2)->get r' i=get r i
 kk:∀x r' y i t,ρ x=ab r'->K y->ts.lookup y=ab i->get r i=ab t->get r' i=ab t
 put:∀(aU:Env)(M' N':Addr->Prop)s' x v r' Q E,(∀a,M' a->N' a)->cJ X aU M' (ow ts) s'.heap->NG X N' s'.heap->VR X N' s'.heap x v->kO X N' aU ts K r s'.heap->ρ x=ab r'->
  (∀ck,Mv X M' s' ck->cJ X aU M' (ow ts) ck.heap->kO X N' aU ts al r' ck.heap->Q () ck)->
  aA (model X.prog X.w) A (assign tg aU v) Q E s'
section
variable{X:Kx}{A:aM}{r:aE}
def X7{n:Str}{j:Nat}{p:Pos}{ts:List (Str×Nat)}(l5:ts=[(n,j)]):tZ X A ts r (.Name n p) no (λy=>ab (put r j y)) where
 keep:=λx r' e i h=>by cases e;exact l4 (h (n,j) (l5▸bk))
 kk:=λw w w w w w f=>f.elim
 put:=λaU M' N' s' x v r' Q E l6 F ng hv w e q=>by
  subst l5
  cases e
  refine tu (BL F (by rw[ow,cE,aw];rfl) λck b hb hw mv rd fS F'=>?_)
  have l7:Mv X M' s' ck:=mv.sub λa e=>e▸hb
  refine q ck l7 F' λy i t w hy ht=>?_
  rw[cE]at hy
  cases qy:y==n with
  |false=>rw[qy]at hy;exact aN hy
  |true=>
   rw[qy]at hy;cases hy
   rw[ao qy]
   exact(yP ht).elim (λz=>⟨v,rd,z.2▸hv.mv ng l7 l6⟩) λz=>aj rfl z.1
def X8{ns:List aW}{js:List Nat}{kk:Nat}{p:Pos}{ts:List (Str×Nat)}(hh:A.handled=ae)(h:yE ns js=ab ts)(nd:(ts.map (·.1)).Nodup)(cL:(ts.map (·.2)).Nodup):
  tZ X A ts r (.Tuple ns kk p) no (bH (putAll r js)):=by
 obtain⟨ps,rfl,rfl,hl⟩:=XZ h
 have rq:(ps.map (·.1)).length=js.length:=by rw[bK,hl]
 have e1:((ps.map (·.1)).zip js).map (·.1)=ps.map (·.1):=anq (bO rq)
 have e2:((ps.map (·.1)).zip js).map (·.2)=js:=anr (bO rq.symm)
 rw[e2]at cL
 refine⟨λx r' e i hi=>kJ e λys q e=>vW e λhm=>?_,λz z z z z z f=>f.elim,λaU M' N' s' x v r' Q E l6 F ng hv z e q=>kJ e λys q' e=>?_⟩
 ·rw[<-e2]at hm
  obtain⟨q,hq,e3⟩:=dy.mp hm
  exact hi q hq e3.symm
 ·subst q'
  have pl:=BP e
  refine hv.eY λa vs hp hN hz hs=>BR (hl.trans (pl.trans hs.length.symm)) (vX hh F hp.isTup) (λq hq=>?_) (e1▸nd) λck S=>q ck S.m S.cn λy i t z hy ht=>?_
  ·obtain⟨j,hj⟩:=tA.mp hq
   have gn:j<js.length:=hl▸(iR.mp hj).1
   have:((ps.map (·.1)).zip js)[j]?=ab (q.1,js[j]'(gn)):=qI.mpr ⟨by rw[gL,hj];rfl,iq gn⟩
   rw[ow,L5 nd this];rfl
  ·obtain⟨j,hj⟩:=lookup_at hy
   have hj:=qI.mp hj
   obtain⟨v,e3,e4⟩:=hs.get (ES e cL hj.2 ht)
   have h1:=hj.1
   rw[gL]at h1
   refine map_some h1 λp h2 h3=>⟨v,?_,e4.mv ng S.m l6⟩
   exact(show p.1=y from h3)▸S.rd (p,v) (dZ (qI.mpr ⟨h2,e3⟩))
end
noncomputable def condT(F:Nat->List T->Option T)(elt cond:Ex)(r':aE):Option (Option T):=(ev F cond r').bind λc=>if c.plain=true then(if c.truth then(ev F elt r').map ab else ab ae)else ae
def ry(cond:Ex)(c:Sc)(fs:List aW):Prop:=∀{C k},Ok C k->∀{A env N r s t},At C.X k A env c N r s->ev C.F cond r=ab t->t.plain=true->∀E,aA (model C.X.prog C.X.w) A (BO fs env) (λb s'=>b=t.truth/\Kp C.X s s') E s
def L7{c:Sc}:ry (.lit (.bool true)) c []:=λH z z z z s t a e z E=>by cases e;exact ank ⟨rfl,.refl _⟩
def X9{e:Ex}{c:Sc}{f:aW}(h:Gd e .a9 c [f]):ry e c [f]:=λH z z z z z z a e hp E=>wpAny_tests_one (h H a e hp E)
def vY{y:aW}(h:gj y=true)(env:Env)(x:ay):Uh y env x=pure x:=by cases y<;>first|rfl|exact aj h bT
section
variable{X:Kx}{k:Nat}{A:aM}{env:Env}{c c':Sc}{sc:d9}{ts:List (Str×Nat)}{N:Addr->Prop}{r:aE}{aP s₂:az}{E:ay->az->Prop}
def Mf(D hi b:Addr):Prop:=D+1<=b/\b<hi
def Mc(D hi:Addr)(W:Addr->Prop)(b:Addr):Prop:=(D<=b/\b<hi)∨W b
def NN(N:Addr->Prop)(D hi:Addr)(W:Addr->Prop)(b:Addr):Prop:=N b∨Mc D hi W b
abbrev CF(X:Kx)(k:Nat)(A:aM)(env:Env)(c:Sc)(sc:d9)(ts:List (Str×Nat))(c':Sc)(N:Addr->Prop)(r:aE)(aP:az)(W:Addr->Prop)(aU:Env)(D hi:Addr)(aS:az):Prop:=At X k A env c N r aP/\gk c sc ts c'/\kN env aU c sc ts c' (D+1)/\Kp X aP aS/\aP.heap.objs.size<=D/\D<hi/\hi<=aS.heap.objs.size/\aU.locals=D+1/\aU.locals<hi/\(∀x b,aU.cells.lookup x=ab b->b<hi)/\(∀b,W b->b<aS.heap.objs.size)/\(∀b,W b->¬(D<=b/\b<hi))/\(∀b,W b->aP.heap.objs.size<=b)
section
variable(h:CF X k A env c sc ts c' N r aP W aU D hi aS)
def CF.a:=h.1
def CF.H:=h.2.1
def CF.yS:=h.2.2.1
def CF.EX:=h.2.2.2.1
def CF.rA:=h.2.2.2.2.1
def CF.yT:=h.2.2.2.2.2.1
def CF.kP:=h.2.2.2.2.2.2.1
def CF.loc:=h.2.2.2.2.2.2.2.1
def CF.L8:=h.2.2.2.2.2.2.2.2.1
def CF.L9:=h.2.2.2.2.2.2.2.2.2.1
def CF.pI:=h.2.2.2.2.2.2.2.2.2.2.1
def CF.wn:=h.2.2.2.2.2.2.2.2.2.2.2.1
def CF.w0:=h.2.2.2.2.2.2.2.2.2.2.2.2
end
section
variable{W:Addr->Prop}{aU:Env}{D hi:Addr}{aS s:az}(F:CF X k A env c sc ts c' N r aP W aU D hi aS)
include F
theorem CF.fc{b:Addr}(h:Mf D hi b):Mc D hi W b:=.inl ⟨oE h.1,h.2⟩
theorem CF.dc:Mc D hi W D:=.inl ⟨bj _,F.yT⟩
theorem CF.EY{b:Addr}(h:Mc D hi W b):aP.heap.objs.size<=b:=h.elim (λh=>aD F.rA h.1) (F.w0 b)
theorem CF.Ya{b:Addr}(h:NN N D hi W b):N b∨aP.heap.objs.size<=b:=h.imp id F.EY
theorem CF.nD:¬Mf D hi D:=λq=>fN _ q.1
theorem CF.dw:¬W D:=λq=>F.wn D q ⟨bj _,F.yT⟩
theorem CF.ng(hs:aS.heap.objs.size<=s.heap.objs.size):NG X (NN N D hi W) s.heap:=
 F.a.ng.more (λb h=>.inl h) F.a.wd (aD F.EX.size hs) λb h=>h.imp id λq=>⟨F.EY q,bG (q.elim (λq=>bG q.2 F.kP) (F.pI b)) hs⟩
theorem CF.kp(mv:Mv X (Mc D hi W) aS s):Kp X aP s:=((Mv.of (M:=λz=>False) F.EX).trans mv λd q=>.inr (F.EY q)).kp λz q=>q
theorem CF.fr{b:Addr}(h:Fr aU b):b≠D/\¬W b/\b∉aV:=by
 have nt:aP.heap.objs.size<=b->b∉aV:=λl q=>bx (F.a.ng.lt b (F.a.ng.tb b q)) l
 have new:D+1<=b->b<hi->b≠D/\¬W b/\b∉aV:=λl l'=>⟨λe=>iS l e,λq=>F.wn _ q ⟨oE l,l'⟩,nt (aD F.rA (oE l))⟩
 rcases h with rfl|⟨z,hz⟩
 ·exact new (bO F.loc.symm) F.L8
 ·rcases F.yS.cells z b hz with q|⟨_,q⟩
  ·obtain⟨⟨_,_,e,_⟩,_⟩:=F.a.ec.dz z b q
   have l:b<aP.heap.objs.size:=bw e
   exact⟨λe=>bx l (e.symm▸F.rA),λw=>bx l (F.w0 b w),F.a.ec.ju z b q⟩
  ·exact new q (F.L9 z b hz)
theorem CF.ap(mv:Mv X (Mc D hi W) aS s):Apart s.heap:=(F.a.kp (F.kp mv)).apart
theorem CF.at_{r':aE}(mv:Mv X (Mc D hi W) aS s)(f:cJ X aU (Mf D hi) (ow ts) s.heap)(ht:kO X (NN N D hi W) aU ts al r' s.heap)
  (hr:∀i,(∀p∈ts,i≠p.2)->get r' i=get r i):At X k A aU c' (NN N D hi W) r' s:=
 XN F.a F.H F.yS (F.kp mv) f (F.ng mv.size) (λb=>F.Ya) (vn F.rA) (λx i t=>ht x i t trivial) hr
theorem CF.more{V:Addr->Prop}{s':az}(q:Kp X aP s')(z:aS.heap.objs.size<=s'.heap.objs.size)(hV:∀b,V b->aS.heap.objs.size<=b/\b<s'.heap.objs.size):CF X k A env c sc ts c' N r aP (λb=>W b∨V b) aU D hi s':=
 ⟨F.a,F.H,F.yS,q,F.rA,F.yT,aD F.kP z,F.loc,F.L8,F.L9,λb h=>h.elim (λh=>bG (F.pI b h) z) λh=>(hV b h).2,λb h=>h.elim (F.wn b) λh q=>fN _ (bG q.2 (aD F.kP (hV b h).1)),
  λb h=>h.elim (F.w0 b) λh=>aD F.EX.size (hV b h).1⟩
theorem CF.done{out:List T}{RR:ay->Addr->oH->az->Prop}(mv:Mv X (Mc D hi W) aS s)(f:cJ X aU (Mf D hi) (ow ts) s.heap)(L:LstAt X (NN N D hi W) s.heap out D)(hz:out.length<=lim)
  (Yb:∀D K s' m',Kp X aP s'->VR X (λb=>N b∨b=K) s'.heap (.lst out) (.ref D)->VB X (λb=>(N b∨b=D)∨b=K) s'.heap (.lst out) (.ref D)->aP.heap.objs.size<=D->D≠K->aP.heap.objs.size<=K->s'.heap.Ns K m'->RR (.ref D) K (.ok .next) s'):RR (.ref D) aU.locals (.ok .next) s:=by
 have dk:D≠aU.locals:=λq=>xR D (F.loc.symm.trans q.symm)
 have lN:=F.fc f.loc.1
 cases L with|mk pl hs=>
 exact f.loc.2.elim λm hm=>Yb D _ s m (F.kp mv) (.lst pl (λq=>q.elim (λq=>bx (F.a.ng.lt D q) F.rA) dk) hz (hs.mono λb(h:N b∨b=aU.locals)=>h.imp id λe=>by rw[e];exact lN))
  (.lst pl hz (hs.mono λb(h:(N b∨b=D)∨b=aU.locals)=>h.elim (λh=>h.imp id λe=>by rw[e];exact F.dc) λe=>.inr (by rw[e];exact lN))) F.rA dk (by rw[F.loc];exact vn F.rA) hm
end
def Yc(a:At X k A env c N r aP)(H:gk c sc ts c'){cl:List (Str×Addr)}(c2:∀x b,cl.lookup x=ab b->env.cells.lookup x=ab b){h:Heap}(hz:aP.heap.objs.size<=h.objs.size){x:Str}{b:Addr}
  (e:(fm (h.objs.size+1) sc.names cl).lookup x=ab b):b<(tj (h.push {cls:=.type "dict",data:=.dict #[]}) sc.names).objs.size:=by
 have ok:=cellsFrom_ok sc.names (h.push {cls:=.type "dict",data:=.dict #[]}) (h.objs.size+1) [] ⟨λy y hm=>(nomatch hm),ane⟩ (by rw[fh];exact bj _)
 rw[fh]at ok
 rw[LW,EO]at e
 cases q:(fm (h.objs.size+1) sc.names []).lookup x with
 |some v=>
  rw[q]at e;cases e
  exact(ok.empty x b (lookup_mem q)).1.elim λo z=>bw z.1
 |none=>
  rw[q]at e
  obtain⟨⟨_,_,e1,_⟩,_⟩:=a.ec.dz x b (c2 x b e)
  exact bG (bw e1) (aD hz (aD (rg _ _) (EM _ _)))
def Yd(a:At X k A env c N r aP)(H:gk c sc ts c'){cl:List (Str×Addr)}(c2:∀x b,cl.lookup x=ab b->env.cells.lookup x=ab b)(c3:∀p∈sc.names,p.2=.free->(cl.lookup p.1).isSome=true)
  (fC:Kp X aP s₂) {W:Addr->Prop} (pI:∀b,W b->b<s₂.heap.objs.size) (fD:∀b,W b->aP.heap.objs.size<=b) {Q:ay->Env->az->Prop}
  (hQ:∀aU D aS,CF X k A env c sc ts c' N r aP W aU D aS.heap.objs.size aS->Kp X s₂ aS->(∀b o,s₂.heap.get? b=ab o->aS.heap.get? b=ab o)->D=s₂.heap.objs.size->cJ X aU (Mf D aS.heap.objs.size) (ow ts) aS.heap->LstAt X (λz=>True) aS.heap [] D->Q (.ref D) aU aS):
  aA (model X.prog X.w) A (newList []) (λacc aX=>aA (model X.prog X.w) A (Ua sc env.globals cl [] env.qual ae .none (ab env)) (λcenv aS=>Q acc {cenv with scope:=xP sc env} aS) E aX) E s₂:=by
 refine sY (XE ?_)
 have hz:(s₂.heap.push {cls:=.type "list",dict:=ae,data:=.seq ([]:List ay).toArray}).objs.size=s₂.heap.objs.size+1:=fh ..
 generalize Ma:s₂.heap.push {cls:=.type "list",dict:=ae,data:=.seq ([]:List ay).toArray}=H3 at hz
 obtain⟨yS,Md,Me⟩:=XP (X:=X) a H c2 c3 (h:=H3) (by rw[hz];exact vn fC.size) rfl
 have Mg:H3.objs.size<=(tj (H3.push {cls:=.type "dict",data:=.dict #[]}) sc.names).objs.size:=aD (rg _ _) (EM _ _)
 have kk:∀b o,s₂.heap.get? b=ab o->(tj (H3.push {cls:=.type "dict",data:=.dict #[]}) sc.names).get? b=ab o:=λb o e=>Me b o (Ma▸cS _ e)
 have yU:Kp X s₂ {s₂ with heap:=tj (H3.push {cls:=.type "dict",data:=.dict #[]}) sc.names}:=Kp.of kk (aD (hz▸gy _) Mg)
 refine hQ _ _ _ ⟨a,H,hz▸yS,fC.trans yU,fC.size,bG (by rw[hz];exact il _) Mg,bj _,hz,Md.loc.1.2,λx b e=>?_,λb w=>bG (pI b w) yU.size,λb w q=>bx (pI b w) q.1,fD⟩ yU kk rfl (hz▸Md) (.mk (ys:=[]) ⟨_,Me _ _ (Ma▸cD _ rfl)⟩ .nil)
 exact Yc a H c2 (aD fC.size (oE (bO hz.symm))) e
end
def EZ{f:T->Option (Option T)}{x:T}{l out:List T}{P:Prop}(h:gather f (x::l)=ab out)(k:∀o rest,f x=ab o->gather f l=ab rest->out=o.elim rest (· ::rest)->P):P:=
 aO h λo e1 h=>aO h λrest e2 h=>k o rest e1 e2 (Option.some.inj h).symm
def Ye{f:T->Option (List T)}{x:T}{l out:List T}{P:Prop}(h:yy f (x::l)=ab out)(k:∀a rest,f x=ab a->yy f l=ab rest->out=a++rest->P):P:=
 aO h λo e1 h=>aO h λrest e2 h=>k o rest e1 e2 (Option.some.inj h).symm
def BU{α:Type}{l:List α}{j:Nat}{y:α}(h:l[j]?=ab y):j<l.length/\l.drop j=y::l.drop (j+1):=by
 obtain⟨h1,h2⟩:=iR.mp h
 exact⟨h1,by rw[List.drop_eq_getElem_cons h1,h2]⟩
def less{a b:Nat}(h:b<a):a - (b+1)<a - b:=Nat.sub_lt_sub_left h (il b)
def kO.to{X:Kx}{N N':Addr->Prop}{env:Env}{ts:List (Str×Nat)}{K:Str->Prop}{r:aE}{h h':Heap}(q:kO X N env ts K r h)(k:∀b o,Fr env b->h.get? b=ab o->h'.get? b=ab o)(f:∀t v,VR X N h t v->VR X N' h' t v):kO X N' env ts K r h':=
 λy i t a b c=>(q y i t a b c).elim λu z=>⟨u,z.1.to λb o hb e=>k b o (hb.imp id λq=>⟨y,q⟩) e,f _ _ z.2⟩
section
variable{C:Cx}{k:Nat}{A:aM}{env aU:Env}{c c':Sc}{sc:d9}{ts:List (Str×Nat)}{N fE W:Addr->Prop}{K:Str->Prop}{r:aE}{aP s₂ aS s s':az}{E:ay->az->Prop}{D hi:Addr}
 {l out us:List T} {I:Addr} {fp wr:List Addr} {St:Nat->Heap->Prop} {eH:Nat->ay->Heap->Prop} {R:oH->az->Prop} {G:List T->List T->Prop} {j:Nat}
inductive Lp(X:Kx)(N:Addr->Prop)(aU:Env)(ts:List (Str×Nat))(K:Str->Prop)(r:aE)(W:Addr->Prop)(wr:List Addr)(D hi:Addr)(aS:az)(St:Nat->Heap->Prop)(l:List T)(out:List T)(G:List T->List T->Prop)(j:Nat)(s:az):Prop
 |mk {us rest} (mv:Mv X (Mc D hi (λb=>b∈wr)) aS s) (st:St j s.heap) (F:cJ X aU (Mf D hi) (ow ts) s.heap) (rk:kO X (NN N D hi W) aU ts K r s.heap) (hj:j<=l.length)
   (L:LstAt X (NN N D hi W) s.heap us D) (hg:G (l.drop j) rest) (ho:us++rest=out)
structure Ap(X:Kx)(fE N W:Addr->Prop)(D hi:Addr)(s₂ aS:az)(fp wr:List Addr):Prop where
 k:Kp X s₂ aS
 w:∀b∈wr,W b
 nn:∀a,NN N D hi W a->fE a∨a∈wr∨s₂.heap.objs.size<=a
 tb:∀b∈aV,fE b
 fp:∀b∈fp,b≠D/\¬Mf D hi b
def Ap.sub(ap:Ap C.X fE N W D hi s₂ aS fp wr)(m:Mv C.X (Mc D hi (λb=>b∈wr)) aS s):Mv C.X (Mc D hi W) aS s:=m.sub λb h=>h.imp id (ap.w b)
section
variable(gP:CF C.X k A env c sc ts c' N r aP W aU D hi aS)(it:It C.X fE s₂.heap l false I fp wr St eH)(ap:Ap C.X fE N W D hi s₂ aS fp wr)
include gP it ap
theorem Mh{l8:aE}(hk:∀i,(∀p∈ts,i≠p.2)->get l8 i=get r i){tg:aW}{ρ:T->Option aE}(TG:tZ C.X A ts l8 tg K ρ)(hI:Lp C.X N aU ts K l8 W wr D hi aS St l out G j s)
  {Qn:az->Prop} {B:Unit->az->Prop}
  (E0:∀s',Mv C.X (Mc D hi (λb=>b∈wr)) aS s'->cJ C.X aU (Mf D hi) (ow ts) s'.heap->kO C.X (NN N D hi W) aU ts K l8 s'.heap->∀us rest,LstAt C.X (NN N D hi W) s'.heap us D->G [] rest->us++rest=out->Qn s')
  (rB:∀y xs rest,G (y::xs) rest->∃r',ρ y=ab r')
  (hs:∀y r' s3 us rest,ρ y=ab r'->j<l.length->G (y::l.drop (j+1)) rest->us++rest=out->Mv C.X (Mc D hi (λb=>b∈wr)) aS s3->St (j+1) s3.heap->cJ C.X aU (Mf D hi) (ow ts) s3.heap->kO C.X (NN N D hi W) aU ts al r' s3.heap->
   LstAt C.X (NN N D hi W) s3.heap us D->At C.X k A aU c' (NN N D hi W) r' s3->B () s3):
  aA (model C.X.prog C.X.w) A (iQ (.ref I)) (λr aB=>match r with
   |none=>Qn aB
   |some v=>aA (model C.X.prog C.X.w) A (lB tg (.ref I) v) (λx jy=>aA (model C.X.prog C.X.w) A (assign tg aU v) B E jy) E aB) E s:=by
 cases hI with| @mk us rest mv st F rk hj L hg ho=>
 have ng:=gP.ng mv.size
 have go:∀s',Mv C.X (λb=>b∈wr) s s'->Mv C.X (Mc D hi (λb=>b∈wr)) aS s'/\cJ C.X aU (Mf D hi) (ow ts) s'.heap/\kO C.X (NN N D hi W) aU ts K l8 s'.heap/\LstAt C.X (NN N D hi W) s'.heap us D:=λs' mw=>
  have kf:∀b o,Fr aU b->s.heap.get? b=ab o->s'.heap.get? b=ab o:=λb o hb e=>mw.old b o (λq=>(gP.fr hb).2.1 (ap.w b q)) (gP.fr hb).2.2 e
  ⟨mv.trans mw λd h=>.inl (.inr h),F.mv kf,rk.to kf λx x q=>q.mv ng mw λb h=>.inr (.inr (ap.w b h)),L.mv ng (gP.ap (ap.sub mv)) mw (λb h=>.inr (.inr (ap.w b h))) λq=>gP.dw (ap.w D q)⟩
 refine it.next gP.a.ra.handled ng (λb w=>.inr (.inr (ap.w b w))) st hj (λb ob hb hw e=>?_) ap.nn nofun (λgn s' mw=>?_) λy v s1 hx mw dU hv=>?_
 ·refine hb.elim (λhb=>mv.old b ob (λq=>?_) (λz=>hb (ap.tb b z)) (ap.k.old b ob (λz=>hb (ap.tb b z)) e)) λc=>mv.code b ob c (ap.k.code b ob c e)
  exact(ap.nn b (.inr (q.imp id (ap.w b)))).elim hb λq=>q.elim hw λq=>bx (bw e) q
 ·subst gn
  rw[J1]at hg
  have g:=go s' mw
  exact E0 s' g.1 g.2.1 g.2.2.1 us rest g.2.2.2 hg ho
 ·obtain⟨gn,dj⟩:=BU hx
  rw[dj]at hg
  refine(rB _ _ _ hg).elim λr' hr=>?_
  have g:=go s1 mw
  refine TG.put aU _ _ s1 y v r' _ E (λb h=>.inr (gP.fc h)) g.2.1 (gP.ng g.1.size) hv g.2.2.1 hr λs3 cM F3 rC=>?_
  have Mi:=g.1.trans cM λd h=>.inl (.inl ⟨oE h.1,h.2⟩)
  exact hs y r' s3 us rest hr gn hg ho Mi (it.frame _ _ _ dU λb hb o e=>cM.old b o (ap.fp b hb).2 (it.nt b hb) e) F3 rC
   (g.2.2.2.mv (gP.ng g.1.size) (gP.ap (ap.sub g.1)) cM (λb h=>.inr (gP.fc h)) gP.nD) (gP.at_ (ap.sub Mi) F3 rC λi hi=>(TG.keep y r' hr i hi).trans (hk i hi))
theorem Mj(H:Ok C k){l8:aE}(hk:∀i,(∀p∈ts,i≠p.2)->get l8 i=get r i){tg x:aW}{fs:List aW}{ρ:T->Option aE}(TG:tZ C.X A ts l8 tg K ρ){elt cond:Ex}(ge:Gd elt .val c' [x])(gc:ry cond c' fs)(hz:out.length<=lim)
  (E0:∀s',Mv C.X (Mc D hi (λb=>b∈wr)) aS s'->cJ C.X aU (Mf D hi) (ow ts) s'.heap->kO C.X (NN N D hi W) aU ts K l8 s'.heap->LstAt C.X (NN N D hi W) s'.heap out D->R (.ok .next) s')
  (hI:Lp C.X N aU ts K l8 W wr D hi aS St l out (λxs rest=>gather (λy=>(ρ y).bind (condT C.F elt cond)) xs=ab rest) j s):
  aA (model C.X.prog C.X.w) A (iQ (.ref I)) (λr aB=>match r with
   |none=>R (.ok .next) aB
   |some v=>aA (model C.X.prog C.X.w) A (lB tg (.ref I) v) (λz jy=>aA (model C.X.prog C.X.w) A (assign tg aU v) (λz s₂=>
     aA (model C.X.prog C.X.w) A (BO fs aU) (λok aX=>
      if ok=true then aA (model C.X.prog C.X.w) A (eval x aU) (λx t5=>
       aA (model C.X.prog C.X.w) A (call (.builtin "list.append") [.ref D,x]) (λz dC=>∃m,m<l.length - j/\∃j,m=l.length - j/\Lp C.X N aU ts K l8 W wr D hi aS St l out (λxs rest=>gather (λy=>(ρ y).bind (condT C.F elt cond)) xs=ab rest) j dC) E t5) E aX
      else∃m,m<l.length - j/\∃j,m=l.length - j/\Lp C.X N aU ts K l8 W wr D hi aS St l out (λxs rest=>gather (λy=>(ρ y).bind (condT C.F elt cond)) xs=ab rest) j aX) E s₂) E jy) E aB) E s:=by
 refine Mh gP it ap hk TG hI (λs' m F rk us rest L hg ho=>?_) (λy xs rest hg=>EZ hg λo E1 hf z z=>aO hf λr' rB z=>⟨r',rB⟩) λy r' s3 us rest rB gn hg ho cM E2 F3 rC L3 nY=>?_
 ·cases hg
  rw[kq]at ho
  subst ho
  exact E0 s' m F rk L
 ·refine EZ hg λo E1 hf E3 hr=>?_
  rw[rB]at hf
  refine aO (show condT C.F elt cond r'=ab o from hf) λtc ec hf=>gi hf λhp hf=>?_
  have fin:∀s6 E4,Mv C.X (λb=>b=D) s3 s6->LstAt C.X (NN N D hi W) s6.heap E4 D->E4++E1=out->∃m,m<l.length - j/\∃j,m=l.length - j/\Lp C.X N aU ts K l8 W wr D hi aS St l out (λxs rest=>gather (λy=>(ρ y).bind (condT C.F elt cond)) xs=ab rest) j s6:=λs6 E4 m6 L6 e6=>
   have kf:∀b o,Fr aU b->s3.heap.get? b=ab o->s6.heap.get? b=ab o:=λb o hb e=>m6.old b o (gP.fr hb).1 (gP.fr hb).2.2 e
   ⟨_,less gn,j+1,rfl,.mk (cM.trans m6 λd e=>.inl (e.symm▸.inl ⟨bj _,gP.yT⟩)) (it.frame _ _ _ E2 λb hb o e=>m6.old b o (ap.fp b hb).1 (it.nt b hb) e)
    (F3.mv kf) (kO.to (λy i t hK hy ht=>rC y i t trivial hy (TG.kk _ _ _ _ _ rB hK hy ht)) kf λz z q=>q.mv nY.ng m6 λb e=>.inr (e▸gP.dc)) gn L6 E3 e6⟩
  refine mo (gc H nY ec hp E) λb s4 h4=>?_
  rw[h4.1]
  cases ht:tc.truth with
  |false=>
   rw[ht]at hf;cases hf
   exact fin s4 us (Mv.of h4.2) (L3.kp nY.ng nY.apart h4.2) (by rw[<-ho,hr];rfl)
  |true=>
   rw[ht,ah rfl]at hf
   refine map_some hf λte ee eo=>vl (ge H (nY.kp h4.2) ee) λye s5 Yf Yg=>?_
   have iI:=h4.2.trans Yf
   refine X2 (L3.kp nY.ng nY.apart iI) (by rw[<-ho,bQ]at hz;exact aD (bX _ _) hz) (nY.kp iI).ng (.inr gP.dc) Yg λz s6 m6 L6=>?_
   exact fin s6 _ ((Mv.of (M:=λb=>b=D) iI).trans m6 λd h=>.inl h) L6 (by rw[<-ho,hr,<-eo,fk];rfl)
end
end
section
variable{X:Kx}{N:Addr->Prop}{aP s':az}{t:T}{D K:Addr}
def Yh{m':Str->Option ay}(ng:NG X N aP.heap)(k':Kp X aP s')(ap:Apart s'.heap)(v:VR X (λb=>N b∨b=K) s'.heap t (.ref D))(vb:VB X (λb=>(N b∨b=D)∨b=K) s'.heap t (.ref D))(rD:D≠K)(hD:aP.heap.objs.size<=D)(hK:aP.heap.objs.size<=K)
  (ho:t.obj=true) (hn:s'.heap.Ns K m') {h':Heap} (hs:tB K s'.heap h'):mQ X N aP t (.ref D) {s' with heap:=h'}:=by
 have kk:∀b o,b≠K->s'.heap.get? b=ab o->h'.get? b=ab o:=λb o hb e=>hs.extBut b o hb e
 have m:Mv X (λb=>b=K) s' {s' with heap:=h'}:=by obtain⟨o,es,ep,e1,e2,_⟩:=hn;exact Mv.put e1 (oN e2 rfl) kk (bO hs.1.symm)
 refine⟨((Mv.of (M:=λy=>False) k').trans m λd h=>.inr (h▸hK)).kp λy q=>q,(v.keep (m.kc (λb z=>.inl (ng.tb b z)) λb q=>.inr q)).mono λb h=>.inl h,D,rfl,hD,λy=>?_⟩
 have kv:=m.kc (N:=λb=>(N b∨b=D)∨b=K) (λb z=>.inl (.inl (ng.tb b z))) λb q=>.inr q
 cases vb with
 |of x=>exact .of ((x.keep kv).mono λb h=>.inl h)
 |lst pl hz cj=>exact .lst (pl.at λo e=>kk _ _ rD e) hz ((cj.keep kv).mono λb h=>.inl h)
 |aY ho hd hz hq cj=>exact .aY (kk _ _ rD ho) hd hz hq cj
end
def Yi(X:Kx)(N:Addr->Prop)(aP:az)(t:T)(RR:ay->Addr->oH->az->Prop):Prop:=
 ∀D K s' m',Kp X aP s'->VR X (λb=>N b∨b=K) s'.heap t (.ref D)->VB X (λb=>(N b∨b=D)∨b=K) s'.heap t (.ref D)->aP.heap.objs.size<=D->D≠K->aP.heap.objs.size<=K->s'.heap.Ns K m'->RR (.ref D) K (.ok .next) s'
section
variable{X:Kx}{k:Nat}{A:aM}{env:Env}{c c':Sc}{sc:d9}{ts:List (Str×Nat)}{N:Addr->Prop}{r:aE}{aP:az}{m:Mode}{l out:List T}{x y tg:aW}{fs:List aW}{gs:List J2}{p:Pos}
def Ml(a:At X k A env c N r aP)(hm:m≠.chain)(h:∀{use Q E},Yi X N aP (.lst out) (AU (model X.prog X.w) A E use Q)->aA (model X.prog X.w) A (comprehension (.ListComp x (⟨tg,y,fs,0⟩::gs) sc p) sc env y.pos (newList []) false (eval y env) use) Q E aP):
  Out X A env N aP (.lst out) m [.ListComp x (⟨tg,y,fs,0⟩::gs) sc p]:=by
 have val:∀E,aA (model X.prog X.w) A (eval (.ListComp x (⟨tg,y,fs,0⟩::gs) sc p) env) (mQ X N aP (.lst out)) E aP:=λE=>
  h (use:=ae) λD K s' m' k' v vb hD rD hK hn=>⟨m',hn,λh' cj=>Yh a.ng k' (a.kp k').apart v vb rD hD hK rfl hn cj⟩
 cases m with
 |chain=>exact aj rfl hm
 |use=>exactλu Q E hQ=>aG (mo (h (Q:=λv s'=>Q .none s') λD K s' m' k' v vb hD rD hK hn=>hQ D K s' m' k' v vb hD rD hK hn) λt t z=>aQ z)
 |_=>exact BG a rfl val λt=>rfl
def Mm(a:At X k A env c N r aP)(H:gk c sc ts c')(hy:gj y=true)(hs:∀E,aA (model X.prog X.w) A (eval y env) (yF X N aP false l) E aP){use:Option (ay->Sem Unit)}{Q:ay->az->Prop}{E:ay->az->Prop}
  (h:∀{s₂ aU D aS I fp wr St eH},l.length<=lim->CF X k A env c sc ts c' N r aP (λb=>b∈wr) aU D aS.heap.objs.size aS->It X N s₂.heap l false I fp wr St eH->Ap X N N (λb=>b∈wr) D aS.heap.objs.size s₂ aS fp wr->St 0 aS.heap->cJ X aU (Mf D aS.heap.objs.size) (ow ts) aS.heap->LstAt X (λv=>True) aS.heap [] D->
   gN (model X.prog X.w) A (.compStart (.ListComp x (⟨tg,y,fs,0⟩::gs) sc p) 0 (.ref I) (.ref D) aU) (AU (model X.prog X.w) A E use Q (.ref D) aU.locals) aS):
  aA (model X.prog X.w) A (comprehension (.ListComp x (⟨tg,y,fs,0⟩::gs) sc p) sc env y.pos (newList []) false (eval y env) use) Q E aP:=by
 have Yj:∀p∈sc.names,p.2=.free->∃b,env.cells.lookup p.1=ab b:=λp hp hk=>by
  obtain⟨n,kk⟩:=p
  subst hk
  exact a.ec.has n (by unfold qw;rw[a.ec.names];exact(H.free n hp).2.1)
 obtain⟨cl,c1,c2,c3⟩:=XC Yj
 refine wpAny_comprehension_free (g:=⟨tg,y,fs,0⟩) (gs:=gs) rfl (vY hy env) c1 H.kind (λp hp hl=>H.XJ p hp hl) (mo (hs E) λxv aB bJ=>?_)
 obtain⟨own,_,k₁,hi⟩:=bJ
 refine mo (hi A E a.ra.handled) λt6 s₂ h₂=>?_
 obtain⟨iZ,I,fp,wr,St,eH,rfl,it,st,fD,_⟩:=h₂
 refine Yd (Q:=λacc e s=>gN (model X.prog X.w) A (.compStart (.ListComp x (⟨tg,y,fs,0⟩::gs) sc p) 0 (.ref I) acc e) (AU (model X.prog X.w) A E use Q acc e.locals) s) a H c2 c3 iZ (λb w=>it.lt b (it.sub b w)) fD λaU D aS F yU kk hD f4 L4=>?_
 refine h it.z F it ⟨yU,λb h=>h,λb h=>h.imp id λq=>q.elim (λq=>.inr (hD▸q.1)) .inl,a.ng.tb,λb hb=>?_⟩ (it.frame _ _ _ st λb hb o e=>kk b o e) f4 L4
 have lt:b<D:=hD▸it.lt b hb
 exact⟨cW lt,λq=>bx lt (oE q.1)⟩
end
def Yk{f:T->Option (Option T)}:∀{l out:List T},gather f l=ab out->out.length<=l.length:=by
 intro l
 induction l with
 |nil=>intro out h;cases h;exact bj _
 |cons x l ih=>
  intro out h
  refine EZ h λo rest z h2 e=>?_
  rw[e]
  cases o with
  |none=>exact vn (ih h2)
  |some y=>exact cX (ih h2)
section
variable{c c':Sc}{m:Mode}{elt src cond s1 s2:Ex}{ts:List (Str×Nat)}{x y z tg:aW}{sc:d9}{p q p':Pos}{fs:List aW}
def LstAt.start{X:Kx}{N:Addr->Prop}{h:Heap}{D:Addr}(L:LstAt X (λz=>True) h [] D):LstAt X N h [] D:=L.to (λo e=>e) λq=>q.mono λz z=>trivial
def Mn{C:Cx}{k:Nat}{A:aM}{env:Env}{N:Addr->Prop}{r:aE}{aP:az}{l out:List T}(H:Ok C k)(a:At C.X k A env c N r aP)(hm:m≠.chain)(S:gk c sc ts c')(hy:gj y=true)
  (hs:∀E,aA (model C.X.prog C.X.w) A (eval y env) (yF C.X N aP false l) E aP) {ρ:T->Option aE} (TG:tZ C.X A ts r tg no ρ) (ge:Gd elt .val c' [x]) (gc:ry cond c' fs) (ho:gather (λy=>(ρ y).bind (condT C.F elt cond)) l=ab out):
  Out C.X A env N aP (.lst out) m [.ListComp x [⟨tg,y,fs,0⟩] sc q]:=by
 refine Ml a hm λ{use Q E}hQ=>Mm a S hy hs λ{s₂ aU D aS I fp wr St eH}hz F it ap st f L=>?_
 have hz:=aD (Yk ho) hz
 have loop:=XQ (R:=AU (model C.X.prog C.X.w) A E use Q (.ref D) aU.locals) (pos:=q) (iter:=y) (scope:=sc) (λn s=>∃j,n=l.length - j/\Lp C.X N aU ts no r (λb=>b∈wr) wr D aS.heap.objs.size aS St l out (λxs rest=>gather (λy=>(ρ y).bind (condT C.F elt cond)) xs=ab rest) j s) (λn s E h=>h.elim λj h=>by
  rw[h.1]
  exact Mj F it ap H (λz z=>rfl) TG ge gc hz (λs' mv F' rk L'=>F.done mv F' L' hz hQ) h.2) _ ⟨0,rfl,.mk (.refl _) st f (λz z z h=>h.elim) (dP _) L.start ho rfl⟩
 exact anw loop (it.self A _ _ _ st loop)
def Yl{j:Nat}{n:Str}(hm:m≠.chain)(hy:gj y=true)(h1:Gd src .src c [y])(hc:rh c sc [(n,j)]=ab c')(h2:Gd elt .val c' [x])(h3:ry cond c' fs):Gd (.comp j elt src cond) m c [.ListComp x [⟨.Name n p,y,fs,0⟩] sc q]:=λH z z z z z z a e=>by
 refine aO e λtx e1 ea=>aO ea λl e2 eb=>map_some eb λout ho ez=>?_
 clear e ea eb
 subst ez
 exact Mn H a hm (EP hc) hy (λE=>h1 H a e1 l e2 E) (X7 rfl) h2 h3 ho
def Ym{js:List Nat}{ns:List aW}{kk:Nat}(hm:m≠.chain)(hy:gj y=true)(h1:Gd src .src c [y])(ht:yE ns js=ab ts)(hc:rh c sc ts=ab c')(h2:Gd elt .val c' [x])(h3:ry cond c' fs):Gd (.jZ js elt src cond) m c [.ListComp x [⟨.Tuple ns kk p,y,fs,0⟩] sc q]:=λH z z z z z z a e=>by
 refine aO e λtx e1 ea=>aO ea λl e2 eb=>map_some eb λout ho ez=>?_
 clear e ea eb
 subst ez
 have S:=EP hc
 exact Mn H a hm S hy (λE=>h1 H a e1 l e2 E) (X8 a.ra.handled ht S.nd S.cL) h2 h3 ho
end
section
variable{n o:Str}{i j:Nat}{ts:List (Str×Nat)}{X:Kx}{A:aM}{r:aE}{p:Pos}
def vZ{α:Type}{a b:α}{y:Str}{x:α}{P:Prop}(h:[(n,a),(o,b)].lookup y=ab x)(k:y=n->x=a->P)(k':y=o->x=b->P):P:=by
 rw[cE]at h
 cases q:y==n with
 |true=>rw[q]at h;exact k (ao q) (Option.some.inj h).symm
 |false=>
  rw[q]at h
  have h:(match y==o with|true=>ab b|false=>ae)=ab x:=h
  cases q':y==o with
  |true=>rw[q']at h;exact k' (ao q') (Option.some.inj h).symm
  |false=>rw[q']at h;exact aN h
def E5{α:Type}{a b:α}:[(n,a),(o,b)].lookup n=ab a:=by rw[cE,aw]
def Yn{α:Type}{a b:α}(h:n≠o):[(n,a),(o,b)].lookup o=ab b:=by rw[cE,beq_eq_false_iff_ne.mpr h.symm,cE,aw]
def Yo(hn:n≠o)(hi:i≠j)(l5:ts=[(n,i),(o,j)]):tZ X A ts r (.Name n p) no (λy=>ab ((put r i y).set j ae)) where
 keep:=λx r' e idx h=>by
  subst l5
  cases e
  exact(ER (h (o,j) (bS _ bk))).trans (l4 (h (n,i) bk))
 kk:=λw w w w w w f=>f.elim
 put:=λaU M' N' s' x v r' Q E l6 F ng hv w e q=>by
  subst l5
  cases e
  refine tu (BL F (by rw[ow,E5];rfl) λck b hb hw mv rd fS F'=>?_)
  have l7:Mv X M' s' ck:=mv.sub λa e=>e▸hb
  refine q ck l7 F' λy idx t w hy ht=>vZ hy (λe1 e2=>?_) λe1 e2=>?_
  ·subst e1;subst e2
   rw[ER hi]at ht
   exact(yP ht).elim (λz=>⟨v,rd,z.2▸hv.mv ng l7 l6⟩) λz=>aj rfl z.1
  ·subst e2
   exact(XX ht).elim λh w=>aj rfl h
def Yp(hn:n≠o)(hi:i≠j)(l5:ts=[(n,i),(o,j)]):tZ X A ts r (.Name o p) (λy=>y=n) (λu=>ab (put r j u)) where
 keep:=λx r' e idx h=>by
  subst l5
  cases e
  exact l4 (h (o,j) (bS _ bk))
 kk:=λx r' y idx t e hK hy ht=>by
  subst l5;subst hK
  cases e
  rw[E5]at hy
  cases hy
  rw[l4 hi];exact ht
 put:=λaU M' N' s' x v r' Q E l6 F ng hv rk e q=>by
  subst l5
  cases e
  refine tu (BL F (by rw[ow,Yn hn];rfl) λck b hb hw mv rd fS F'=>?_)
  have l7:Mv X M' s' ck:=mv.sub λa e=>e▸hb
  refine q ck l7 F' λy idx t w hy ht=>vZ hy (λe1 e2=>?_) λe1 e2=>?_
  ·subst e1;subst e2
   rw[l4 hi]at ht
   exact(rk y idx t rfl hy ht).elim λu z=>⟨u,fS y u hn z.1,z.2.mv ng l7 l6⟩
  ·subst e1;subst e2
   exact(yP ht).elim (λz=>⟨v,rd,z.2▸hv.mv ng l7 l6⟩) λz=>aj rfl z.1
end
section
variable{C:Cx}{k:Nat}{A:aM}{env aU:Env}{c c':Sc}{sc:d9}{N:Addr->Prop}{r:aE}{aP s₂ aS s3 s4 s5 s:az}{E:ay->az->Prop}{D hi:Addr}{n o:Str}{i j:Nat}{m:Mode}{elt s1 s2:Ex}{x y z:aW}{p q po:Pos}
 {l out us:List T} {fp wr:List Addr} {St:Nat->Heap->Prop} {eH:Nat->ay->Heap->Prop} {t6:ay} {R:oH->az->Prop} {ts:List (Str×Nat)}
def Yq(H:Ok C k)(F:CF C.X k A env c sc ts c' N r aP (λb=>b∈wr) aU D hi aS)(hn:n≠o)(E6:i≠j)(l5:ts=[(n,i),(o,j)]){r1:aE}(hr:∀idx,(∀p∈ts,idx≠p.2)->get r1 idx=get r idx)
  (cM:Mv C.X (Mc D hi (λb=>b∈wr)) aS s3) (f3:cJ C.X aU (Mf D hi) (ow ts) s3.heap) (rC:kO C.X (NN N D hi (λb=>b∈wr)) aU ts al r1 s3.heap) (L3:LstAt C.X (NN N D hi (λb=>b∈wr)) s3.heap us D)
  (a3:At C.X k A aU c' (NN N D hi (λb=>b∈wr)) r1 s3) (j3:Kp C.X s3 s4) (hit:kK C.X (NN N D hi (λb=>b∈wr)) l false ae s3 t6 s5)
  (ge:Gd elt .val c' [x]) {ys:List T} (ho:gather (λu=>(ab (put r1 j u)).bind (condT C.F elt (.lit (.bool true)))) l=ab ys) (hz:(us++ys).length<=lim) {t0 i0:aW}
  (hR:∀s',Mv C.X (λb=>D<=b/\b<hi) s3 s'->cJ C.X aU (Mf D hi) (ow ts) s'.heap->LstAt C.X (NN N D hi (λb=>b∈wr)) s'.heap (us++ys) D->R (.ok .next) s'):
  gN (model C.X.prog C.X.w) A (.compStart (.ListComp x [⟨t0,i0,[],0⟩,⟨.Name o po,z,[],0⟩] sc q) 1 t6 (.ref D) aU) R s5:=by
 obtain⟨iI,I,Yr,rE,Ys,aqa,rfl,it,st,E7,ie⟩:=hit
 have new:∀b∈rE,aS.heap.objs.size<=b/\b<s5.heap.objs.size:=λb hb=>⟨aD cM.size (E7 b hb),it.lt b (it.sub b hb)⟩
 have F':=F.more (V:=λb=>b∈rE) ((F.kp cM).trans iI) (aD cM.size iI.size) new
 have old:∀{b},(D<=b/\b<hi)->b∉rE:=λ{b}h q=>bx (bG h.2 F.kP) (new b q).1
 have a5:=a3.kp iI
 have kf:∀b ob,Fr aU b->s3.heap.get? b=ab ob->s5.heap.get? b=ab ob:=λb ob hb e=>iI.old b ob (F.fr hb).2.2 e
 have nn:∀a,NN N D hi (λb=>b∈wr∨b∈rE) a->NN N D hi (λb=>b∈wr) a∨s3.heap.objs.size<=a:=λa h=>h.elim (λh=>.inl (.inl h)) λh=>h.elim (λh=>.inl (.inr (.inl h))) λh=>h.elim (λh=>.inl (.inr (.inr h))) λh=>.inr (E7 a h)
 have ap:Ap C.X (NN N D hi (λb=>b∈wr)) N (λb=>b∈wr∨b∈rE) D hi s5 s5 Yr rE:=by
  refine⟨.refl _,λb h=>.inr h,λa h=>?_,a3.ng.tb,λb hb=>?_⟩
  ·exact h.elim (λh=>.inl (.inl h)) λh=>h.elim (λh=>.inl (.inr (.inl h))) λh=>h.elim (λh=>.inl (.inr (.inr h))) λh=>.inr (.inl h)
  ·have:¬(D<=b/\b<hi):=λq=>(ie b hb (old q)).elim (λw=>w (.inr (.inl q))) nofun
   exact⟨λe=>this ⟨bO e.symm,bI (bO e) F.yT⟩,λq=>this ⟨oE q.1,q.2⟩⟩
 have loop:=XT (R:=R) (t0:=t0) (i0:=i0) (pos:=q) (iter:=z) (scope:=sc) (target:=.Name o po) (λn' s=>∃j',n'=l.length - j'/\Lp C.X N aU ts (λy=>y=n) r1 (λb=>b∈wr∨b∈rE) rE D hi s5 Ys l (us++ys) (λxs rest=>gather (λu=>(ab (put r1 j u)).bind (condT C.F elt (.lit (.bool true)))) xs=ab rest) j' s) (λn' s E h=>h.elim λj' h=>by
  rw[h.1]
  refine Mj F' it ap H hr (Yp hn E6 l5) ge L7 hz (λs' mv f rk L=>?_) h.2
  exact hR s' ((Mv.of (M:=λb=>D<=b/\b<hi) iI).trans mv λd h=>h.imp id (E7 d)) f (L.to (λo e=>e) λq=>q.mono λb h=>h.imp id λh=>h.imp id .inl)) _
  ⟨0,rfl,.mk (.refl _) st (f3.mv kf) (kO.to (λy i t m=>rC y i t trivial) kf λt v q=>q.move nn (iI.kc a3.ng.tb)) (dP _) (L3.to (λo e=>iI.old _ _ (L3.nt a3.apart) e) λq=>q.move nn (iI.kc a3.ng.tb)) ho rfl⟩
 exact XU loop λE=>it.self A _ _ _ st loop
def G2(F:Nat->List T->Option T)(r:aE)(i j:Nat)(elt s2:Ex)(xs rest:List T):Prop:=yy (λy=>(ev F s2 ((put r i y).set j ae)).bind λz=>(eZ z).bind λm=>gather (λu=>(ev F elt (put ((put r i y).set j ae) j u)).map ab) m) xs=ab rest
def Yt(hm:m≠.chain)(hy:gj y=true)(hz:gj z=true)(h1:Gd s1 .src c [y])(hc:rh c sc [(n,i),(o,j)]=ab c')(h2:Gd s2 .ia c' [z])(h3:Gd elt .val c' [x]):
  Gd (.yw i j elt s1 s2) m c [.ListComp x [⟨.Name n p,y,[],0⟩,⟨.Name o po,z,[],0⟩] sc q]:=λ{C k}H A env N r s t a e=>by
 refine aO e λtx e1 e=>aO e λl e2 e=>aO e λout ho e=>ifs e λE8 e=>?_
 subst e
 have S:=EP hc
 have nd:n≠o:=λe=>(g9.mp S.nd).1 (e▸bk)
 have cL:i≠j:=λe=>(g9.mp S.cL).1 (e▸bk)
 refine Ml a hm λ{use Q E}hQ=>Mm a S hy (λE=>h1 H a e1 l e2 E) λ{s₂ aU D aS I fp wr St eH}v F it ap st f L=>?_
 have TG:=Yo (X:=C.X) (A:=A) (r:=r) (p:=p) nd cL rfl
 have loop:=XW (R:=AU (model C.X.prog C.X.w) A E use Q (.ref D) aU.locals) (pos:=q) (i0:=y) (t0:=.Name n p) (target:=.Name o po) (elt:=x) (acc:=.ref D) (it:=.ref I) (scope:=sc) (vY hz aU) (λn' s=>∃j',n'=l.length - j'/\Lp C.X N aU [(n,i),(o,j)] no r (λb=>b∈wr) wr D aS.heap.objs.size aS St l out (G2 C.F r i j elt s2) j' s) (λn' s E h=>h.elim λj' h=>by
  rw[h.1]
  refine Mh F it ap (λv v=>rfl) TG h.2 (λs' mv f rk us rest L hg ho=>?_) (λy xs rest hg=>⟨_,rfl⟩) λyt r' s3 us rest hr gn hg ho cM E2 F3 rC L3 nY=>?_
  ·cases hg
   rw[kq]at ho
   subst ho
   exact F.done (ap.sub mv) f L E8 hQ
  ·cases hr
   refine Ye hg λys E1 hf E3 hr=>aO hf λtz ez hf=>aO hf λlz Yu hf=>?_
   refine mo (h2 H nY ez lz Yu E) λxv s4 h4=>?_
   obtain⟨own,E9,j3,hit⟩:=h4
   cases E9 rfl
   refine mo (hit A E a.ra.handled) λt6 s5 h5=>?_
   intro E'
   have key:=Yq (C:=C) (A:=A) (R:=λYv dC=>match Yv with|.ok _=>∃m,m<l.length - j'/\∃j',m=l.length - j'/\Lp C.X N aU [(n,i),(o,j)] no r (λb=>b∈wr) wr D aS.heap.objs.size aS St l out (G2 C.F r i j elt s2) j' dC|.error e=>E' e dC) (z:=z) (q:=q) (po:=po) (t0:=.Name n p) (i0:=y) H F nd cL rfl (TG.keep _ _ rfl) cM F3 rC L3 nY j3 h5 h3 hf (by rw[<-ho,hr,<-fk,bQ]at E8;exact aD (bX _ _) E8) λs6 wa F6 L6=>?_
   ·exact key
   ·exact⟨_,less gn,j'+1,rfl,.mk (cM.trans (wa.sub λd h=>.inl h) λd h=>.inl h) (it.frame _ _ _ E2 λb hb o e=>wa.old b o (λw=>(A6 w.1).elim (λl=>(ap.fp b hb).2 ⟨l,w.2⟩) λe=>(ap.fp b hb).1 e.symm) (it.nt b hb) e) F6 (λv v v h=>h.elim) gn L6 E3 (by rw[<-ho,hr,fk])⟩) _ ⟨0,rfl,.mk (.refl _) st f (λv v v h=>h.elim) (dP _) L.start ho rfl⟩
 exact anw loop (it.self A _ _ _ st loop)
end
def Yw{α:Type}{l:List α}(h:2<=l.length):∃a b r,l=a::b::r:=by
 cases l with
 |nil=>exact aj h (by simp)
 |cons a l=>cases l with
  |nil=>exact aj h (by simp)
  |cons b r=>exact⟨a,b,r,rfl⟩
section
variable{prog:gK}{w:gY}{A:aM}{E:ay->az->Prop}{s:az}
def Yx{a:Addr}{vs:List ay}{n:Nat}{P:Fin->az->Prop}(ho:s.heap.get? a=ab (nE "list" vs.toArray n))
  (h0:KeysOf strKind (xS vs)) (Yy:∀bD ib rest,vs=bD::ib::rest->keyKind' (bD::ib::rest).toArray=pure oneType') (kL:vs.length<64)
  (h:∀dU:SortSt,(xT dU).Perm (xS vs)->SortedToK strKind (xT dU) (xS vs).size->P (.done (.ret .none)) {s with heap:=sortedHeap s.heap a vs ((xT dU).map (·.2)).reverse}):
  aA (model prog w) A (eN.«list.sort» ⟨[.ref a],[(bP "reverse",.bool true)]⟩) P E s:=by
 rw[list_sort_rev]
 have ha:a<s.heap.objs.size:=xx ho
 refine aG (listItems_at ho rfl ?_)
 refine aG (Uo ho rfl ?_)
 obtain⟨e1,Mo⟩:∃e1,(s.heap.update a (lO λz=> #[])).get? a=ab (nE "list" #[] e1):=⟨_,get?_update_seq ho (λz=> #[])⟩
 refine aG (Up Mo rfl ?_)
 refine aG (wpAny_newTuple ?_)
 refine aG (wpAny_newList ?_)
 refine dN ?_
 have BV:(((s.heap.update a (lO λz=> #[])).push (nE "tuple" vs.toArray 0)).push (nE "list" #[] 0)).get? a=ab (nE "list" #[] e1):=by
  rw[anB _ _ _ (by rw[size_push',xI];exact cW (vp ha)),anB _ _ _ (by rw[xI];exact cW ha)]
  exact Mo
 show aA (model prog w) A _ P E {s with heap:=((s.heap.update a (lO λz=> #[])).push (nE "tuple" vs.toArray 0)).push (nE "list" #[] 0)}
 have hsz:vs.toArray.size=vs.length:=by simp
 have fin:=h
 have Mp:(vs.toArray.zip vs.toArray).reverse.Perm (xS vs):=Array.perm_iff_toList_perm.mpr (by rw[anD];exact anE _)
 dsimp only
 rw[ah rfl]
 refine aG (DH ?_)
 by_cases h2:vs.toArray.size<2
 ·rw[ah h2,ah h2]
  refine aG (aQ ?_)
  rw[StateT.run_pure]
  refine aG (aQ ?_)
  dsimp only
  refine aG (Up BV rfl ?_)
  refine aG (Uo BV rfl ?_ (hsz2:=by
   simp only[if_true,Uq,anF];show(vs.toArray.zip vs.toArray).reverse.size<=_;rw[Uq,Array.size_zip,Ur];exact aD (anG _ _) (aD (cT h2) (by decide))))
  simp only[bne_self_eq_false,pq,if_false]
  refine aQ (fin (anH general' (vs.toArray.zip vs.toArray).reverse #[] 7 ae) Mp ?_)
  intro i j Yz hj
  have:i=j:=by
   rw[J3]at hj
   have Mq:j=0:=anI.mp (bG hj (ku (hsz▸h2)))
   exact(Nat.le_zero.mp (Mq▸Yz)).trans Mq.symm
  subst this;exact KeyOrd.kle_refl _
 ·rw[ai h2,ai h2]
  rw[hsz]at h2
  obtain⟨bD,ib,rest,rfl⟩:=Yw (fL.mp h2)
  rw[Yy _ _ _ rfl]
  refine aG (aQ ?_)
  refine aG (eE (wpS_sortRunsK (κ:=strKind) strKind_oneLt (a₀:=xS (bD::ib::rest)) (st:=anH oneType' ((bD::ib::rest).toArray.zip (bD::ib::rest).toArray).reverse #[] 7 ae)
   (Q:=λz dU=>(xT dU).Perm (xS (bD::ib::rest))/\failedOf dU=ae/\SortedToK strKind (xT dU) (xS (bD::ib::rest)).size)
   h0 ⟨Mp,rfl,rfl,rfl⟩ (by rw[J3];simp) (by rw[J3];exact kL) λdU a1 a2 a3=>⟨a1,a2,a3⟩) ?_ λz z e=>e)
  rintro ⟨⟨⟩,dU⟩ s' ⟨rfl,hp,hf,hs⟩
  dsimp only
  refine aG (Up BV rfl ?_)
  refine aG (Uo BV rfl ?_ (hsz2:=by
   have e:(Array.map (λx=>x.snd) (xT dU)).size<=ph+1:=by
    refine aD (bO ((anF ..).trans (hp.size_eq.trans (J3 _)))) ?_;rw[Ur];exact aD (cT kL) (by decide)
   rw[ah rfl,Uq];exact e))
  rw[hf]
  simp only[bne_self_eq_false,pq,if_false]
  exact aQ (fin dU hp hs)
def YA{l:Addr}{vs:List ay}{ss:List Str}{Q:ay->az->Prop}(hl:s.heap.IsList l vs.toArray)(hS:DI vs ss)(kL:vs.length<64)
  (h:∀(out:Array ay)(wb:List Str),DI out.toList wb->wb.Perm ss->sortedS wb.reverse=true->Q (.ref (s.heap.objs.size+1)) {s with heap:=sortedAll s.heap vs out}):
  aA (model prog w) A (call (.builtin "sorted") [.ref l] [(bP "reverse",.bool true)]) Q E s:=by
 refine call_function_entry_kw kind_sorted plain_sorted entry_sorted (args_sorted_rev _ _) ?_
 unfold eN.«sorted»
 refine aG (m:=checkCount "sorted" 1 1 _) (aQ ?_)
 refine aG (collect_list hl ?_)
 refine aG (wpAny_newList ?_)
 have hsz:((s.heap.push (nE "list" #[] 0)).update s.heap.objs.size (lO (· ++vs.toArray))).objs.size=s.heap.objs.size+1:=by
  rw[xI,size_push']
 have Mr:(((s.heap.push (nE "list" #[] 0)).update s.heap.objs.size (lO (· ++vs.toArray))).push (nE "list" vs.toArray 0)).get? (s.heap.objs.size+1)=ab (nE "list" vs.toArray 0):=by
  rw[<-hsz];exact cD _ rfl
 show aA _ _ _ _ _ {s with heap:=((s.heap.push (nE "list" #[] 0)).update s.heap.objs.size (lO (· ++vs.toArray))).push (nE "list" vs.toArray 0)}
 rw[hsz]
 refine aG (dN (wpAny_call_entry_kw slot_list_sort ⟨_,Mr,rfl⟩ entry_list_sort (Yx Mr hS.keysOf (λbD ib rest e=>keyKind_strs (by rw[<-e];exact hS)) kL λdU a1 a2=>⟨_,rfl,?_⟩) (args_list_sort_rev _ _)))
 obtain⟨wb,h1,h2,h3⟩:=sorted_out_str hS a1 a2
 refine aQ ⟨_,rfl,h _ wb.reverse ?_ ((anE _).trans h2) (by rw[List.reverse_reverse];exact h3)⟩
 rw[anD]
 have h4:=strsAre_map ((xT dU).map (·.2)).toList.reverse (λv hv=>h1.all v (A5.mp hv))
 rwa [qH,h1.strs]at h4
end
def YB{ys:List Str}:∀{cs:List Nat},yu ys=ab cs->ys=cs.map λc=>⟨#[c]⟩:=by
 induction ys with
 |nil=>intro cs h;cases h;rfl
 |cons x r ih=>
  intro cs h
  obtain⟨a⟩:=x
  obtain⟨l⟩:=a
  cases l with
  |nil=>exact aN h
  |cons c l=>cases l with
   |nil=>exact map_some (show(yu r).map (c::·)=ab cs from h) λds e1 e2=>by rw[<-e2,ih e1];rfl
   |cons=>exact aN h
def Ms(x:Nat)(l:List Nat):(tP x l).Perm (x::l):=by
 induction l with
 |nil=>exact .refl _
 |cons y r ih=>
  by_cases q:y<=x
  ·exact .of_eq (ah q)
  ·exact(amO (ai q)).trans ((ih.cons y).trans (.swap x y r))
theorem Mt:∀l,(vI l).Perm l
 |[]=>.refl _
 |x::r=>(Ms x _).trans ((Mt r).cons x)
def YC(x:Nat)(l:List Nat)(h:l.Pairwise (· ≥·)):(tP x l).Pairwise (· ≥·):=by
 induction l with
 |nil=>exact TR _ x
 |cons y r ih=>
  have hp:=vj.mp h
  by_cases q:y<=x
  ·rw[show tP x (y::r)=x::y::r from ah q]
   refine vj.mpr ⟨λz hz=>?_,h⟩
   rcases br.mp hz with rfl|hz
   ·exact q
   ·exact aD (hp.1 z hz) q
  ·rw[show tP x (y::r)=y::tP x r from ai q]
   refine vj.mpr ⟨λz hz=>?_,ih hp.2⟩
   rcases br.mp ((Ms x r).mem_iff.mp hz)with rfl|hz
   ·exact cT (xC.mp q)
   ·exact hp.1 z hz
theorem Mu:∀l,(vI l).Pairwise (· ≥·)
 |[]=>.nil
 |x::r=>YC x _ (Mu r)
def YD{a b:List Nat}(p:a.Perm b)(ha:a.Pairwise (· ≥·))(hb:b.Pairwise (· ≥·)):a=b:=p.eq_of_pairwise (λz z z z h g=>J0 g h) ha hb
def YE:∀(p:Nat)(cs:List Nat),risingS ⟨#[p]⟩ (cs.map λc=>⟨#[c]⟩)=true->(p::cs).Pairwise (· <=·):=by
 intro p cs
 induction cs generalizing p with
 |nil=>exactλh=>TR _ p
 |cons x r ih=>
  intro h
  rw[qB]at h
  unfold risingS at h
  rw[DF]at h
  have h1:p<=x:=by
   have:=h.1
   simp only[ltCps]at this
   simp at this
   omega
  have ih:=ih x h.2
  have ip:=vj.mp ih
  refine vj.mpr ⟨λz hz=>?_,ih⟩
  rcases br.mp hz with rfl|hz
  ·exact h1
  ·exact aD h1 (ip.1 z hz)
def YF(cs:List Nat)(h:sortedS (cs.map λc=>(⟨#[c]⟩:Str))=true):cs.Pairwise (· <=·):=by
 cases cs with
 |nil=>exact .nil
 |cons p r=>exact YE p r h
def YG:∀{ys:List Str}{cs:List Nat},ys.Perm (cs.map λc=>⟨#[c]⟩)->∃ds:List Nat,ys=ds.map (λc=>⟨#[c]⟩)/\ds.Perm cs:=by
 intro ys cs h
 have hm:∀y∈ys,∃c:Nat,y=⟨#[c]⟩:=λy hy=>by
  obtain⟨c,_,e⟩:=dy.mp (h.mem_iff.mp hy);exact⟨c,e.symm⟩
 refine⟨ys.map λy=>y.cps.toList.headD 0,?_,?_⟩
 ·rw[fO]
  conv=>lhs;rw[<-DJ ys]
  apply tm
  intro y hy
  obtain⟨c,rfl⟩:=hm y hy
  rfl
 ·have:=h.map λy:Str=>y.cps.toList.headD 0
  rw[fO]at this
  refine this.trans (.of_eq ?_)
  conv=>rhs;rw[<-DJ cs]
  exact tm λc z=>rfl
section
variable{X:Kx}{N:Addr->Prop}
def Mw{ys:List Str}:∀{q:List (Str×Tok)},q.map (·.1)=ys->DI (nC q) ys:=by
 intro q e
 subst e
 induction q with
 |nil=>exact .nil
 |cons a q ih=>exact .cons _ _ ih
def YH{h:Heap}:∀{vs:List ay}{cs:List Nat},DI vs (cs.map λc=>⟨#[c]⟩)->aL X N h (cs.map λc=>.str ⟨#[c]⟩) vs:=by
 intro vs cs hS
 induction cs generalizing vs with
 |nil=>cases hS;exact .nil
 |cons c cs ih=>cases hS with|cons y t r=>exact .cons (.str _ _ (by show 1<=lim;decide)) (ih r)
def BW{h:Heap}(wd:Wd X h):(h.objs.size==qq)=false:=by
 obtain⟨_,_,_,e,_⟩:=wd.g
 exact beq_eq_false_iff_ne.mpr (iS (bI (by decide) (bw e)))
end
section
variable{m:Mode}{c:Sc}{a b:Ex}{x:Str}{p pos kp jp:Pos}{ji:Nat}{bg mR:aW}
def YI(hm:m.v=true)(hg:ri c x (s_ "sorted") (.builtin "sorted"))(ns:notStar bg=true)(h1:Gd a .val c [bg]):Gd (.yx a) m c [.Call (.Name x p) [bg] [⟨ab (bP "reverse"),.Constant (.bool true) ji jp,kp⟩] pos]:=λ{C k}H A env N r s t at' e=>by
 refine aO e λtx e1 ea=>eW ea λl q eb=>aO eb λys e2 ec=>aO ec λcs e3 ed=>ifs ed λkL ez=>?_
 clear e ea eb ec ed
 subst ez;subst q
 refine fQ at' hm (λE=>aG (jv at' hg.2.1 hg.2.2.2 (iW hg.2.2.1).1 ?_)) λz=>rfl
 refine callWith_builtin_kwB (keywords:=backToKw pos (keywordEach [⟨ab (bP "reverse"),.Constant (.bool true) ji jp,kp⟩] env)) (by rw[j2 ns];rfl) rfl ?_
 rw[j2 ns]
 refine evalArgs_kwB rfl (eX (vl (h1 H at' e1) λv aB k₁ hv=>gb (kws_cons (amo (kws_nil ?_)))))
 refine hv.eQ λad vs ho hN hz hs=>?_
 have n1:=at'.ng.kp k₁
 obtain⟨q,rfl,eq⟩:=yI e2 hs
 have hS:=Mw eq
 have ey:=YB e3
 have hl:ys.length=cs.length:=by rw[ey,bK]
 have wc:l.length=ys.length:=by rw[<-hs.length];exact anL hS
 refine fe (YA ho.isList hS (by rw[anL hS,hl];exact kL) λout wb q1 q2 q3 hsz=>?_)
 rw[ey]at q2
 obtain⟨ds,rfl,pd⟩:=YG q2
 rw[<-qH]at q3
 have q5:ds=vI cs:=YD (pd.trans (Mt cs).symm) (Us.mp (YF _ q3)) (Mu cs)
 obtain⟨ep,he⟩:=sortedAll_at aB.heap (nC q) out
 refine⟨k₁.trans (Kp.of (λb o e=>sortedAll_old e) hsz),?_⟩
 rw[<-q5]
 exact .lst (vs:=out.toList) ⟨ep,by rw[amT];exact he⟩ (λq=>aj (n1.lt _ q) (fL.mpr (gy _))) (by rw[bK,pd.length_eq,<-hl,<-wc];exact hz) (YH q1)
def YJ(hm:m.v=true)(hg:ri c x (s_ "len") (.builtin "len"))(ns:notStar bg=true)(h1:Gd a .bor c [bg]):Gd (.vL a) m c [.Call (.Name x p) [bg] [] pos]:=λ{C k}H A env N r s t at' e=>by
 refine aO e λtx e1 ea=>eW ea λl q ez=>?_
 clear e ea
 cases ez;subst q
 refine fQ at' hm (λE=>jx (jv at' hg.2.1 hg.2.2.2 (iW hg.2.2.1).1 ?_)) λz=>rfl
 rw[j2 ns]
 refine xK rfl (AX (eX (bl (h1 H at' e1) λv aB k₁ hv=>gb ?_)))
 refine hv.list λad vs ho hz hs=>amU ho.isList (by rw[bU,hs.length];exact kH hz) ?_
 rw[bU,hs.length]
 exact⟨k₁.trans Kp.tok,.int _ _⟩
def YK(hm:m.vo=true)(h:a.isNil=true):Gd (.jY a b) m c [.Dict [] [] p]:=λ{C k}H A env N r s t at_ e=>by
 cases (ah h).symm.trans e
 obtain⟨o,ho,hd⟩:=sT.mp (Heap.DictOf.new (knd:=strKind C.X.prog C.X.w) s.heap)
 exact BG at_ hm (λE=>wpAny_Dict_empty ⟨Kp.push,.aY ho hd (yB at_.ng) (dP _) (BW at_.wd) .nil,_,rfl,bj _,λz=>.aY ho hd (dP _) (BW at_.wd) .nil⟩) λz=>rfl
def YL(hm:m.vo=true)(h:a.isNil=false)(h1:Gd a .val c [bg])(h2:Gd b .val c [mR]):Gd (.jY a b) m c [.Dict [ab bg] [mR] p]:=λ{C k}H A env N r s t at_ e=>by
 refine aO ((ai (by rw[h];exact bT)).symm.trans e) λtk e1 e=>hZ e λks q ea=>aO ea λtv e2 eb=>fb eb λvi q' ez=>?_
 clear e ea eb
 cases ez;subst q;subst q'
 have k0:Kp C.X s {s with heap:=s.heap.push {cls:=.type "dict",data:=.dict #[]}}:=Kp.push
 refine BG at_ hm (λE=>wpAny_Dict_pairs (knd:=strKind C.X.prog C.X.w) (pairs:=[(eval bg env,do let x <-eval mR env;xH p;pure x)]) rfl (List.cons_ne_nil _ _) (by show 1<=15;decide) (evalPairs_cons ?_)) λz=>rfl
 have a0:=at_.kp k0
 refine vl (h1 H a0 e1) λkv aB k₁ bD=>aG (vl (h2 H (a0.kp k₁) e2) λvv s₂ k₂ ib=>aG (lL (aQ (evalPairs_nil ?_))))
 have fC:=k₁.trans k₂
 refine bD.c6 λkt kl=>ib.eR λvt=>⟨[(ks,.int vi vt)],⟨vh _ _ _ _,rfl,trivial⟩,?_,λh' hd hs=>?_⟩
 ·exact(Heap.DictOf.new (knd:=strKind C.X.prog C.X.w) s.heap).at λo eo=>fC.old _ _ (vN at_.ng) eo
 ·obtain⟨o,ho,hd⟩:=sT.mp hd
  have mv:Mv C.X (λb=>b=s.heap.objs.size) s₂ {s₂ with heap:=h',toks:=s₂.toks+1}:=Mv.put (fC.old _ _ (vN at_.ng) (cD s.heap rfl)) (oN rfl rfl) (λb o hb e=>(hs.2 b hb).trans e) (bO hs.1.symm)
  have kk:Kp C.X s {s₂ with heap:=h',toks:=s₂.toks+1}:=((Mv.of (M:=λz=>False) (k0.trans fC)).trans mv λd h=>.inr (bO h.symm)).kp λz q=>q
  exact⟨kk,.aY ho hd (yB at_.ng) (show 1<=65536 by decide) (BW at_.wd) (.cons ⟨rfl,kl,vt,rfl⟩ .nil),_,rfl,bj _,λz=>.aY ho hd (show 1<=65536 by decide) (BW at_.wd) (.cons ⟨rfl,kl,vt,rfl⟩ .nil)⟩
end
def Ow(o:List Nat)(r:aE)(i:Nat):Prop:=o.contains i=true/\(get r i).isSome=true
structure Fw(X:Kx)(env:Env)(c:Sc)(aH M N:Addr->Prop)(ad:Nat->Addr)(r:aE)(h:Heap):Prop where
 cn:cJ X env M (ow c.slots) h
 mn:∀a,M a->N a
 m0:∀a,M a->¬aH a
 n0:∀a,aH a->N a
 nd:(c.slots.map (·.1)).Nodup
 cL:(c.slots.map (·.2)).Nodup
 adr:∀i,Ow c.own r i->M (ad i)/\¬Fr env (ad i)
 own:∀x i t,c.slots.lookup x=ab i->c.own.contains i=true->get r i=ab t->t.obj=true/\Rd env h x (.ref (ad i))
 gm:∀i j,Ow c.own r i->Ow c.own r j->ad i=ad j->i=j
noncomputable def YM(X:Kx)(N:Addr->Prop)(h:Heap):Fl->Flow->Prop
 |.next,f=>f=.next
 |.brk,f=>f=.brk
 |.ret t,f=>∃v,f=.ret v/\VR X N h t v
noncomputable def Fl.Fb:Fl->Bool
 |.ret _=>true
 |_=>false
noncomputable def cB(c:Sc)(o:List Nat):Sc:={c with own:=o}
inductive Left(X:Kx)(k:Nat)(A:aM)(env:Env)(c:Sc)(aH M N:Addr->Prop)(s:az)(fl:Fl)(r':aE)(f:Flow)(s':az):Prop
 |mk {M' N' ad} (fo:YM X N' s'.heap fl f) (mv:Mv X M s s') (n0:∀a,aH a->N' a) (m:∀a,M' a->M a∨s.heap.objs.size<=a) (n:∀a,N' a->N a∨s.heap.objs.size<=a)
  (o:fl.Fb=true∨(At X k A env c N' r' s'/\Fw X env c aH M' N' ad r' s'.heap))
def Rd.uniq{env:Env}{h:Heap}{x:Str}{v u:ay}(a:Rd env h x v)(b:Rd env h x u):v=u:=by
 rcases a with a|a
 ·rcases b with b|b
  ·obtain⟨_,m,n,e⟩:=a
   obtain⟨_,m',n',e'⟩:=b
   exact Option.some.inj (e.symm.trans ((Ns.uniq n n' x).trans e'))
  ·exact b.1.elim (λq=>nomatch a.1.symm.trans q) λq=>nomatch a.1.symm.trans q
 ·rcases b with b|b
  ·exact a.1.elim (λq=>nomatch b.1.symm.trans q) λq=>nomatch b.1.symm.trans q
  ·obtain⟨_,c,l,o,e1,e2⟩:=a
   obtain⟨_,c',l',o',YN,Fc⟩:=b
   cases l.symm.trans l'
   cases e1.symm.trans YN
   cases e2.symm.trans Fc
   rfl
def BX:∀{l:List (Str×Nat)}{x y:Str}{i:Nat},(l.map (·.2)).Nodup->l.lookup x=ab i->l.lookup y=ab i->x=y:=by
 intro l x y i
 induction l with
 |nil=>exactλz h z=>aN h
 |cons p l ih=>
  intro nd h1 h2
  have cU:=g9.mp nd
  rw[cE]at h1 h2
  cases q1:x==p.1<;>cases q2:y==p.1<;>rw[q1]at h1<;>rw[q2]at h2
  ·exact ih cU.2 h1 h2
  ·exact(cU.1 (dy.mpr ⟨_,lookup_mem h1,(Option.some.inj h2).symm⟩)).elim
  ·exact(cU.1 (dy.mpr ⟨_,lookup_mem h2,(Option.some.inj h1).symm⟩)).elim
  ·rw[ao q1,ao q2]
inductive Mx(X:Kx)(env:Env)(c:Sc)(N V:Addr->Prop)(ad ad':Nat->Addr)(o':List Nat)(r:aE)(s s':az)(x:Str)(i:Nat)(t:T):Prop
 |old (g:get r i=ab t) (rd:∀v,Rd env s.heap x v->Rd env s'.heap x v) (h:c.own.contains i=true->¬V (ad i)/\ad' i=ad i) (ho:o'.contains i=c.own.contains i)
 |new {v} (rd:Rd env s'.heap x v) (hv:Vo X N s'.heap (o'.contains i) t v) (h:o'.contains i=true->t.obj=true/\v=.ref (ad' i))
section
variable{X:Kx}{k:Nat}{A:aM}{env:Env}{c:Sc}{aH M N V:Addr->Prop}{ad ad':Nat->Addr}{o':List Nat}{r r':aE}{s s':az}{E:ay->az->Prop}{t:T}{v:ay}
def VB.My{N':Addr->Prop}(n:NG X N s.heap)(ap:Apart s.heap)(q:Mv X V s s')(h:∀a,V a->N a)(up:∀a,N' a->N a∨s.heap.objs.size<=a)(x:VB X N s.heap t v)(hv:∀a,v=.ref a->¬V a):VB X N' s'.heap t v:=by
 have k:=q.kc n.tb h
 cases x with
 |of x=>exact .of (x.move up k)
 |lst ho hz hs=>exact .lst (ho.elim λo e=>⟨o,q.old _ _ (hv _ rfl) (mJ ap e rfl) e⟩) hz (hs.move up k)
 |aY ho hd hz hq hs=>exact .aY (q.old _ _ (hv _ rfl) (mJ ap ho (dict_cls (a:=0) hd)) ho) hd hz hq hs
def VB.mv(n:NG X N s.heap)(ap:Apart s.heap)(q:Mv X V s s')(h:∀a,V a->N a)(x:VB X N s.heap t v)(hv:∀a,v=.ref a->¬V a):VB X N s'.heap t v:=x.My n ap q h (λz=>.inl) hv
def VB.sub{N':Addr->Prop}{h:Heap}(hN:∀a,N' a->N a∨h.objs.size<=a)(x:VB X N h t v):VB X N' h t v:=x.move hN (λz z z e=>e) λz z z z e=>e
def VB.fz{N':Addr->Prop}{h:Heap}(hN:∀a,N' a->N a)(hd:∀d,v=.ref d->¬N' d)(x:VB X N h t v):VR X N' h t v:=by
 cases x with
 |of x=>exact x.mono hN
 |lst ho hz hs=>exact .lst ho (hd _ rfl) hz (hs.mono hN)
 |aY ho oT hz hq hs=>exact .aY ho oT (hd _ rfl) hz hq hs
def Mz{h:Heap}{d:Addr}(ho:t.obj=true)(x:VB X N h t (.ref d)):∃o T,h.get? d=ab o/\o.cls=.type T:=by
 cases t with
 |lst l=>exact VB.list (P:=λv=>∀d,v=.ref d->∃o T,h.get? d=ab o/\o.cls=.type T) x (λa vs h1 z z d e=>by cases e;exact h1.elim λz e=>⟨_,_,e,rfl⟩) d rfl
 |aY l=>exact VB.dict (P:=λv=>∀d,v=.ref d->∃o T,h.get? d=ab o/\o.cls=.type T) x (λa o aZ h1 h2 z z z d e=>by cases e;exact⟨o,_,h1,dict_cls (a:=0) h2⟩) d rfl
 |_=>exact aj ho bT
def VB.nt{h:Heap}{d:Addr}(ap:Apart h)(ho:t.obj=true)(x:VB X N h t (.ref d)):d∉aV:=(Mz ho x).elim λy z=>z.elim λy z=>mJ ap z.1 z.2
def VB.lt{h:Heap}{d:Addr}(ho:t.obj=true)(x:VB X N h t (.ref d)):d<h.objs.size:=(Mz ho x).elim λy z=>z.elim λy z=>bw z.1
def Fw.kp(F:Fw X env c aH M N ad r s.heap)(a:At X k A env c N r s)(q:Kp X s s'):Fw X env c aH M N ad r s'.heap:=
 have kk:∀b o,Fr env b->s.heap.get? b=ab o->s'.heap.get? b=ab o:=λb o hb e=>q.old b o (a.ec.nt hb) e
 ⟨F.cn.mv kk,F.mn,F.m0,F.n0,F.nd,F.cL,F.adr,λx i t h1 h2 h3=>(F.own x i t h1 h2 h3).imp id λz=>z.to λb o hb e=>kk b o (hb.imp id λq=>⟨x,q⟩) e,F.gm⟩
def At.grow{N':Addr->Prop}(a:At X k A env c N r s)(q:Kp X s s')(ng:NG X N' s'.heap)(hN:∀b,N' b->N b∨s.heap.objs.size<=b):At X k A env c N' r s':=
 have keep:=q.kc a.ng.tb
 ⟨a.ec.move (λb o z e=>q.old b o (a.ec.nt z) e) (λx=>x.move hN keep λb o T c e=>q.old b o (mJ a.apart e c) e) λx=>x.move hN keep,a.wd.kp q,ng,a.ra⟩
def Fw.grow{M' N' t7:Addr->Prop}{h:Heap}(F:Fw X env c aH M N ad r h)(hM:∀a,M a->M' a)(mn:∀a,M' a->N' a)(m0:∀a,M' a->¬t7 a)(n0:∀a,t7 a->N' a):Fw X env c t7 M' N' ad r h:=
 ⟨⟨F.cn.kind,F.cn.loc.imp (hM _) id,λx hx=>(F.cn.dz x hx).imp id λz=>⟨z.1,z.2.elim λa q=>⟨a,q.1,hM _ q.2.1,q.2.2⟩⟩,F.cn.inj,F.cn.ne⟩,mn,m0,n0,F.nd,F.cL,λi h=>(F.adr i h).imp (hM _) id,F.own,F.gm⟩
def MA{N':Addr->Prop}(up:∀a,N' a->N a∨s.heap.objs.size<=a)(nn:∀b,N b->N' b)(ng:NG X N' s'.heap)(a:At X k A env c N r s)(F:Fw X env c aH M N ad r s.heap)(mv:Mv X V s s')(hN:∀b,V b->N b)(cn:cJ X env M (ow c.slots) s'.heap)
  (dz:∀x b,env.cells.lookup x=ab b->b∉aV->(∃v,s.heap.IsCell b v)->∃v,s'.heap.IsCell b v) (st:∀x i t,c.slots.lookup x=ab i->get r' i=ab t->Mx X env c N' V ad ad' o' r s s' x i t)
  (adr:∀i,Ow o' r' i->M (ad' i)/\¬Fr env (ad' i)) (gm:∀i j,Ow o' r' i->Ow o' r' j->ad' i=ad' j->i=j):
  At X k A env (cB c o') N' r' s'/\Fw X env (cB c o') aH M N' ad' r' s'.heap:=by
 refine⟨⟨⟨a.ec.kind,a.ec.names,a.ec.globals,a.ec.builtins,a.ec.vQ,a.ec.ju,a.ec.has,λx b e=>(a.ec.dz x b e).imp (dz x b e (a.ec.ju x b e)) id,a.ec.inj,λx i t h1 h2=>?_⟩,a.wd.mv a.ng mv hN,ng,a.ra⟩,
  ⟨cn,λb h=>nn b (F.mn b h),F.m0,λb h=>nn b (F.n0 b h),F.nd,F.cL,adr,λx i t h1 h2 h3=>?_,gm⟩⟩
 ·cases st x i t h1 h2 with
  |new rd hv h=>exact⟨_,rd,hv⟩
  |old g rd h ho=>
   refine(a.ec.rd x i t h1 g).elim λv z=>⟨v,rd v z.1,?_⟩
   show Vo X N' s'.heap (o'.contains i) t v
   rw[ho]
   cases q:c.own.contains i with
   |false=>exact(q▸z.2:Vo X N s.heap false t v).move up (mv.kc a.ng.tb hN)
   |true=>
    refine VB.My a.ng a.apart mv hN up (q▸z.2:Vo X N s.heap true t v) λb e=>?_
    cases (Rd.uniq z.1 (F.own x i t h1 q g).2).symm.trans e
    exact(h q).1
 ·cases st x i t h1 h3 with
  |new rd hv h=>exact⟨(h h2).1,(h h2).2▸rd⟩
  |old g rd h ho=>
   have h2:=ho.symm.trans h2
   rw[(h h2).2]
   exact(F.own x i t h1 h2 g).imp id (rd _)
def upd(a:At X k A env c N r s)(F:Fw X env c aH M N ad r s.heap)(mv:Mv X V s s')(hN:∀b,V b->N b)(cn:cJ X env M (ow c.slots) s'.heap)
  (dz:∀x b,env.cells.lookup x=ab b->b∉aV->(∃v,s.heap.IsCell b v)->∃v,s'.heap.IsCell b v) (st:∀x i t,c.slots.lookup x=ab i->get r' i=ab t->Mx X env c N V ad ad' o' r s s' x i t)
  (adr:∀i,Ow o' r' i->M (ad' i)/\¬Fr env (ad' i)) (gm:∀i j,Ow o' r' i->Ow o' r' j->ad' i=ad' j->i=j):
  At X k A env (cB c o') N r' s'/\Fw X env (cB c o') aH M N ad' r' s'.heap:=
 MA (λz=>.inl) (λz=>id) (a.ng.mv mv) a F mv hN cn dz st adr gm
noncomputable def d5(o ks:List Nat):List Nat:=o.filter λi=>!ks.contains i
def pJ(o ks:List Nat)(i:Nat):(d5 o ks).contains i=true↔o.contains i=true/\ks.contains i=false:=by
 unfold d5
 rw[jo,DL,jo,DN]
def freeze(a:At X k A env c N r s)(F:Fw X env c aH M N ad r s.heap)(fz:List Nat):
  ∃M' N',(∀b,M' b->M b)/\(∀b,N' b->N b)/\(∀b,aH b->N' b)/\At X k A env (cB c (d5 c.own fz)) N' r s/\Fw X env (cB c (d5 c.own fz)) aH M' N' ad r s.heap:=by
 have vb:∀{x i t},c.slots.lookup x=ab i->c.own.contains i=true->get r i=ab t->VB X N s.heap t (.ref (ad i))/\t.obj=true:=λ{x i t}h1 q g=>
  (a.ec.rd x i t h1 g).elim λv z=>have f:=F.own x i t h1 q g;⟨(z.1.uniq f.2)▸(q▸z.2:Vo X N s.heap true t v),f.1⟩
 obtain⟨Fz,hF⟩:∃Fz:Addr->Prop,∀b,Fz b↔∃x i t,c.slots.lookup x=ab i/\c.own.contains i=true/\get r i=ab t/\fz.contains i=true/\b=ad i:=⟨_,λy=>Iff.rfl⟩
 have yV:∀b,Fz b->(M b/\¬Fr env b)/\b∉aV:=λb h=>by
  obtain⟨x,i,t,h1,h2,h3,_,rfl⟩:=(hF b).mp h
  exact⟨F.adr i ⟨h2,by rw[h3];rfl⟩,VB.nt a.apart (vb h1 h2 h3).2 (vb h1 h2 h3).1⟩
 have nf:∀i,Ow (d5 c.own fz) r i->¬Fz (ad i):=λi h q=>by
  obtain⟨x,j,t,h1,h2,h3,h4,e⟩:=(hF _).mp q
  have d:=(pJ c.own fz i).mp h.1
  cases F.gm i j ⟨d.1,h.2⟩ ⟨h2,by rw[h3];rfl⟩ e
  exact nomatch d.2.symm.trans h4
 have sub:∀i,Ow (d5 c.own fz) r i->Ow c.own r i:=λi h=>⟨((pJ c.own fz i).mp h.1).1,h.2⟩
 refine⟨λb=>M b/\¬Fz b,λb=>N b/\¬Fz b,λb h=>h.1,λb h=>h.1,λb h=>⟨F.n0 b h,λq=>F.m0 b (yV b q).1.1 h⟩,
  ⟨a.ec.to (λy y y e=>e) λx i t h1 h2 y=>?_,a.wd,⟨λb hb=>⟨a.ng.tb b hb,λq=>(yV b q).2 hb⟩,λb h=>a.ng.lt b h.1,λb h=>a.ng.wd b h.1⟩,a.ra⟩,
  ⟨⟨F.cn.kind,⟨⟨F.cn.loc.1,λq=>(yV _ q).1.2 (.inl rfl)⟩,F.cn.loc.2⟩,λx hx=>(F.cn.dz x hx).imp id λz=>⟨z.1,z.2.elim λb q=>⟨b,q.1,⟨q.2.1,λw=>(yV _ w).1.2 (.inr ⟨x,q.1⟩)⟩,q.2.2⟩⟩,F.cn.inj,F.cn.ne⟩,
   λb h=>⟨F.mn b h.1,h.2⟩,λb h=>F.m0 b h.1,λb h=>⟨F.n0 b h,λq=>F.m0 b (yV b q).1.1 h⟩,F.nd,F.cL,λi h=>⟨⟨(F.adr i (sub i h)).1,nf i h⟩,(F.adr i (sub i h)).2⟩,λx i t h1 h2=>F.own x i t h1 ((pJ c.own fz i).mp h2).1,λi j h1 h2=>F.gm i j (sub i h1) (sub j h2)⟩⟩
 refine(a.ec.rd x i t h1 h2).elim λv z=>⟨v,z.1,?_⟩
 show Vo X (λb=>N b/\¬Fz b) s.heap ((d5 c.own fz).contains i) t v
 cases q:(d5 c.own fz).contains i with
 |true=>
  have d:=((pJ c.own fz i).mp q).1
  exact VB.sub (λb h=>.inl h.1) (d▸z.2:Vo X N s.heap true t v)
 |false=>
  cases q':c.own.contains i with
  |false=>exact(q'▸z.2:Vo X N s.heap false t v).mono λb h=>h.1
  |true=>
   refine VB.fz (λb h=>h.1) (λd e h=>h.2 ((hF d).mpr ⟨x,i,t,h1,q',h2,?_,?_⟩)) (q'▸z.2:Vo X N s.heap true t v)
   ·cases w:fz.contains i with
    |true=>rfl
    |false=>exact aj ((pJ c.own fz i).mpr ⟨q',w⟩) (by rw[q];exact bT)
   ·cases (z.1.uniq (F.own x i t h1 q' h2).2).symm.trans e;rfl
end
noncomputable def BY(o:List Nat)(k:Nat):List Nat:=if o.contains k=true then o else k::o
noncomputable def j4(b:Bool)(o:List Nat)(k:Nat):List Nat:=if b then BY o k else d5 o [k]
noncomputable def nZ(v:ay):Addr:=(yC v).getD 0
def MB(o:List Nat)(k i:Nat):(BY o k).contains i=true↔i=k∨o.contains i=true:=by
 unfold BY
 by_cases h:o.contains k=true
 ·rw[ah h];exact⟨.inr,λz=>z.elim (λe=>e.symm▸h) id⟩
 ·rw[ai h,List.contains_cons,JQ,ax]
def BZ(b:Bool)(o:List Nat)(k:Nat):(j4 b o k).contains k=b:=by
 cases b with
 |true=>exact(MB o k k).mpr (.inl rfl)
 |false=>exact qA.mpr λq=>nomatch ((pJ o [k] k).mp q).2.symm.trans (jo.mpr (b4.mpr rfl))
def MC{a b:Bool}(h:a=true↔b=true):a=b:=xD.mpr h
def MD{o ks:List Nat}{i:Nat}(h:i∉ks):(d5 o ks).contains i=o.contains i:=MC ((pJ o ks i).trans ⟨λz=>z.1,λz=>⟨z,qA.mpr λq=>h (jo.mp q)⟩⟩)
def we{b:Bool}{o:List Nat}{k i:Nat}(h:i≠k):(j4 b o k).contains i=o.contains i:=by
 cases b with
 |true=>exact MC ((MB o k i).trans ⟨λz=>z.resolve_left h,.inr⟩)
 |false=>exact MD λq=>h (b4.mp q)
section
variable{X:Kx}{k:Nat}{A:aM}{env:Env}{c:Sc}{aH M N:Addr->Prop}{ad ad':Nat->Addr}{o':List Nat}{r r':aE}{s s' aB:az}{E:ay->az->Prop}{t:T}{v:ay}{x:Str}{k₀:Nat}
def Fd(a:At X k A env c N r s)(F:Fw X env c aH M N ad r s.heap){ps:List (Str×Pos)}{ks:List Nat}{xs:List T}{vs:List ay}(hs:∀(j:Nat)(p:Str×Pos)i,ps[j]?=ab p->ks[j]?=ab i->c.slots.lookup p.1=ab i)(hl:ps.length=ks.length)(nd:ks.Nodup)
  (hp:putAll r ks xs=ab r') (S:fB X env M (ow c.slots) (ps.zip vs) s s') (hv:∀(j:Nat)i t,ks[j]?=ab i->xs[j]?=ab t->∃v,vs[j]?=ab v/\Vo X N s'.heap (o'.contains i) t v/\(o'.contains i=true->t.obj=true/\v=.ref (ad' i)))
  (ho:∀i,i∉ks->o'.contains i=c.own.contains i/\ad' i=ad i) (adr:∀i,Ow o' r' i->M (ad' i)/\¬Fr env (ad' i)) (gm:∀i j,Ow o' r' i->Ow o' r' j->ad' i=ad' j->i=j):
  At X k A env (cB c o') N r' s'/\Fw X env (cB c o') aH M N ad' r' s'.heap:=by
 refine upd a F S.mv (λb h=>F.mn b h.1) S.cn S.dz (λx i t h1 h2=>?_) adr gm
 by_cases q:i∈ks
 ·obtain⟨j,hj⟩:=tA.mp q
  have jl:j<ps.length:=hl.symm▸(iR.mp hj).1
  obtain⟨v,e1,e2,e3⟩:=hv j i t hj (ES hp nd hj h2)
  have e:=BX F.cL h1 (hs j _ i (iq jl) hj)
  exact .new (e▸S.rd (ps[j]'(jl),v) (dZ (qI.mpr ⟨iq jl,e1⟩))) e2 e3
 ·refine .old ((vW hp q).symm.trans h2) (λv w=>S.fS x v (λz=>?_) w) (λw=>⟨λz=>(F.adr i ⟨w,?_⟩).2 z.2,(ho i q).2⟩) (ho i q).1
  ·obtain⟨e,he,e1⟩:=dy.mp z
   obtain⟨j,hj⟩:=tA.mp he
   have hj:=qI.mp hj
   have jl:j<ks.length:=hl▸(iR.mp hj.1).1
   have h3:=hs j _ _ hj.1 (iq jl)
   rw[e1,h1]at h3
   exact q (Option.some.inj h3▸anM jl)
  ·rw[<-vW hp q,h2];rfl
def yW(a:At X k A env c N r s)(F:Fw X env c aH M N ad r s.heap){ps:List (Str×Pos)}{ks:List Nat}{xs:List T}{vs:List ay}(hs:∀(j:Nat)(p:Str×Pos)i,ps[j]?=ab p->ks[j]?=ab i->c.slots.lookup p.1=ab i)(hl:ps.length=ks.length)(nd:ks.Nodup)
  (hp:putAll r ks xs=ab r') (S:fB X env M (ow c.slots) (ps.zip vs) s s') (hv:aL X N s.heap xs vs):At X k A env (cB c (d5 c.own ks)) N r' s'/\Fw X env (cB c (d5 c.own ks)) aH M N ad r' s'.heap:=by
 have out:∀{i},(d5 c.own ks).contains i=true->i∉ks:=λ{i}h q=>nomatch ((pJ _ _ _).mp h).2.symm.trans (jo.mpr q)
 have sub:∀i,Ow (d5 c.own ks) r' i->Ow c.own r i:=λi h=>⟨((pJ _ _ _).mp h.1).1,vW hp (out h.1)▸h.2⟩
 refine Fd a F hs hl nd hp S (λj i t h1 h2=>?_) (λi h=>⟨MD h,rfl⟩) (λi h=>F.adr i (sub i h)) λi j h1 h2=>F.gm i j (sub i h1) (sub j h2)
 obtain⟨v,e1,e2⟩:=hv.get h2
 have no:(d5 c.own ks).contains i=false:=qA.mpr λq=>out q (dZ h1)
 exact⟨v,e1,by rw[no];exact e2.mv a.ng S.m F.mn,λq=>nomatch no.symm.trans q⟩
def l9(o:Bool)(a:At X k A env c N r s)(F:Fw X env c aH M N ad r s.heap)(hx:c.slots.lookup x=ab k₀)(hv:Vo X N s.heap o t v)(ho:o=true->t.obj=true/\∃b,v=.ref b/\M b/\¬Fr env b/\∀i,Ow c.own r i->ad i≠b){Q:Unit->az->Prop}
  (q:∀s' ad',Mv X M s s'->At X k A env (cB c (j4 o c.own k₀)) N (put r k₀ t) s'->Fw X env (cB c (j4 o c.own k₀)) aH M N ad' (put r k₀ t) s'.heap->Q () s'):aA (model X.prog X.w) A (xM env x v) Q E s:=by
 have hs:∀{p:Pos},∀(j:Nat)(p':Str×Pos)i,[(x,p)][j]?=ab p'->[k₀][j]?=ab i->c.slots.lookup p'.1=ab i:=λ{p}j p' i h1 h2=>by
  cases j with
  |zero=>cases h1;cases h2;exact hx
  |succ j=>exact aN h2
 refine ET (p:=default) F.cn (by rw[ow,hx];rfl) λs' S=>?_
 have U:=Fd (o':=j4 o c.own k₀) (ad':=λi=>if i=k₀ then nZ v else ad i) (ps:=[(x,default)]) (ks:=[k₀]) (xs:=[t]) (vs:=[v]) (r':=put r k₀ t) a F hs rfl (g9.mpr ⟨gM,.nil⟩) rfl S (λj i u h1 h2=>?_) (λi h=>?_) (λi h=>?_) λi j h1 h2 e=>?_
 ·exact q s' _ S.m U.1 U.2
 ·cases j with
  |succ j=>exact aN h2
  |zero=>
   cases h1;cases h2
   rw[BZ]
   refine⟨v,rfl,hv.map (λz=>?_) λz=>z.mv a.ng S.m F.mn,λw=>⟨(ho w).1,?_⟩⟩
   ·cases o with
    |false=>exact .of ((hv:VR X N s.heap t v).mv a.ng S.m F.mn)
    |true=>
     obtain⟨_,b',e',_,n,_⟩:=ho rfl
     refine VB.mv a.ng a.apart S.mv (λb h=>F.mn b h.1) z λb e w=>?_
     cases e.symm.trans e'
     exact n w.2
   ·obtain⟨_,b',e',_⟩:=ho w
    rw[ah rfl,e'];rfl
 ·have n:i≠k₀:=λe=>h (b4.mpr e)
  exact⟨we n,ai n⟩
 ·by_cases e:i=k₀
  ·subst e
   obtain⟨_,b',e',m,n,_⟩:=ho ((BZ o c.own i).symm.trans h.1)
   rw[ah rfl,e'];exact⟨m,n⟩
  ·rw[ai e];exact F.adr i ⟨(we e).symm.trans h.1,l4 e▸h.2⟩
 ·have aux:∀j,Ow (j4 o c.own k₀) (put r k₀ t) k₀->Ow (j4 o c.own k₀) (put r k₀ t) j->j≠k₀->nZ v=ad j->False:=λj w1 w2 n e=>by
   obtain⟨_,b',e',_,_,f⟩:=ho ((BZ o c.own k₀).symm.trans w1.1)
   rw[e']at e
   exact f j ⟨(we n).symm.trans w2.1,l4 n▸w2.2⟩ e.symm
  by_cases e1:i=k₀<;>by_cases e2:j=k₀
  ·exact e1.trans e2.symm
  ·rw[ah e1,ai e2]at e;exact(aux j (e1▸h1) h2 e2 e).elim
  ·rw[ai e1,ah e2]at e;exact(aux i (e2▸h2) h1 e1 e.symm).elim
  ·rw[ai e1,ai e2]at e
   exact F.gm i j ⟨(we e1).symm.trans h1.1,l4 e1▸h1.2⟩ ⟨(we e2).symm.trans h2.1,l4 e2▸h2.2⟩ e
def ME{P Pm:Addr->Prop}(a:At X k A env c N r s)(F:Fw X env c aH M N ad r s.heap)(k₁:Kp X s aB)(hP:∀b,P b->s.heap.objs.size<=b/\b<aB.heap.objs.size)(hm:∀b,Pm b->P b):
  At X k A env c (λb=>N b∨P b) r aB/\Fw X env c aH (λb=>M b∨Pm b) (λb=>N b∨P b) ad r aB.heap:=
 ⟨a.grow k₁ (a.ng.more (λb h=>.inl h) a.wd k₁.size λb q=>q.imp id (hP b)) λb q=>q.imp id λq=>(hP b q).1,
  (F.kp a k₁).grow (λb h=>.inl h) (λb h=>h.imp (F.mn b) (hm b)) (λb h q=>h.elim (λh=>F.m0 b h q) λh=>bx (a.ng.lt b (F.n0 b q)) (hP b (hm b h)).1) λb h=>.inl (F.n0 b h)⟩
def n7(a:At X k A env c N r s)(F:Fw X env c aH M N ad r s.heap){b:Addr}(h:s.heap.objs.size<=b):¬Fr env b/\∀i,Ow c.own r i->ad i≠b:=by
 refine⟨λq=>?_,λi w e=>bx (a.ng.lt _ (F.mn _ (F.adr i w).1)) (e▸h)⟩
 rcases q with rfl|⟨y,e⟩
 ·exact bx (a.ng.lt _ (F.mn _ F.cn.loc.1)) h
 ·exact(a.ec.dz y b e).1.elim λv z=>z.elim λo z=>bx (bw z.1) h
def other{V:Addr->Prop}(a:At X k A env c N r s)(F:Fw X env c aH M N ad r s.heap)(mv:Mv X V s s')(hN:∀b,V b->N b)(hf:∀b,Fr env b->¬V b)(hM:∀b,M b->¬V b):At X k A env c N r s'/\Fw X env c aH M N ad r s'.heap:=
 have kf:∀b o,Fr env b->s.heap.get? b=ab o->s'.heap.get? b=ab o:=λb o hb e=>mv.old b o (hf b hb) (a.ec.nt hb) e
 upd (o':=c.own) a F mv hN (F.cn.mv kf) (λx b e n q=>IsCell.to q λo z=>kf b o (.inr ⟨x,e⟩) z) (λx i t h1 h2=>.old h2 (λv w=>w.to λb o hb e=>kf b o (hb.imp id λz=>⟨x,z⟩) e) (λw=>⟨hM _ (F.adr i ⟨w,by rw[h2];rfl⟩).1,rfl⟩) rfl) F.adr F.gm
def Left.nx{M' N':Addr->Prop}(mv:Mv X M s s')(m:∀a,M' a->M a∨s.heap.objs.size<=a)(n:∀a,N' a->N a∨s.heap.objs.size<=a)(U:At X k A env c N' r' s'/\Fw X env c aH M' N' ad r' s'.heap):Left X k A env c aH M N s .next r' .next s':=.mk rfl mv U.2.n0 m n (.inr U)
def Left.eq(mv:Mv X M s s')(U:At X k A env c N r' s'/\Fw X env c aH M N ad r' s'.heap):Left X k A env c aH M N s .next r' .next s':=.nx mv (λz=>.inl) (λz=>.inl) U
end
noncomputable def S.mS:S->Bool
 |.ret ..|.dead=>true
 |.seq a b=>a.mS||b.mS
 |.gh _ a=>a.mS
 |.bN _ a b=>a.mS&&b.mS
 |_=>false
noncomputable def S.j5:S->Bool
 |.brk=>true
 |.seq a b=>a.j5||b.j5
 |.gh _ a=>a.j5
 |.bN _ a b=>a.j5||b.j5
 |_=>false
def Nb(o:Option (Fl×aE)):Prop:=∀r',o≠ab (.brk,r')
section
variable{α:Type}{o:Option α}{f:α->Option (Fl×aE)}{p:Prop}[Decidable p]{a b:Option (Fl×aE)}{r:aE}{t:T}
def pK:Nb ae:=λz e=>aN e
def iK:Nb (cb r):=by intro r' e;cases e
def MG:Nb (ab (.ret t,r)):=by intro r' e;cases e
def b5(h:∀x,Nb (f x)):Nb (o.bind f):=λr' e=>aO e λx z e=>h x r' e
def pL(h:Nb a)(k:Nb b):Nb (if p then a else b):=by by_cases q:p;rw[ah q];exact h;rw[ai q];exact k
def Fe{f:Int->Option (Fl×aE)}(h:∀x,Nb (f x)):Nb (bp f t):=λr' e=>fb e λx z e=>h x r' e
def YO{f:Str->Option (Fl×aE)}(h:∀x,Nb (f x)):Nb (cG f t):=λr' e=>hZ e λx z e=>h x r' e
def MH{f:List T->Option (Fl×aE)}(h:∀x,Nb (f x)):Nb (bH f t):=λr' e=>kJ e λx z e=>h x r' e
def wg{f:List T->Option (Fl×aE)}(h:∀x,Nb (f x)):Nb (cH f t):=λr' e=>eW e λx z e=>h x r' e
def YP{f:List (Str×Int)->Option (Fl×aE)}(h:∀x,Nb (f x)):Nb (vH f t):=λr' e=>Bz e λx z e=>h x r' e
def MI{go:aE->Option (Fl×aE)}(h:∀r,Nb (go r))(x:Fl×aE):Nb (nN go x):=by
 obtain⟨f,r⟩:=x
 cases f with
 |next=>exact h r
 |brk=>exact iK
 |ret t=>exact MG
def Ff{f:T->aE->Option (Fl×aE)}:∀{l:List T}{r:aE},Nb (b6 f l r):=by
 intro l
 induction l with
 |nil=>exact iK
 |cons x l ih=>exact b5 (MI λz=>ih)
def YQ{c:aE->Option Bool}{f:aE->Option (Fl×aE)}:∀{n:Nat}{r:aE},Nb (nO c f n r):=by
 intro n
 induction n with
 |zero=>exact pK
 |succ n ih=>exact b5 λz=>pL (b5 (MI λz=>ih)) iK
end
def tf{P:Prop}(h:true=false):P:=aj h.symm bT
def ft{P:Prop}(h:false=true):P:=aj h bT
def MJ{F:Nat->List T->Option T}{σ:S}:∀{r:aE},σ.j5=false->Nb (ex F σ r):=by
 induction σ with
 |brk=>exact tf
 |skip=>exactλz=>iK
 |dead=>exactλz=>pK
 |ret=>exactλz=>b5 λz=>MG
 |seq a b cP dF=>
  refineλ{r}h=>?_
  have h:=sR.mp h
  intro r' e
  refine aO e λx e1 e2=>?_
  obtain⟨f,r1⟩:=x
  cases f with
  |next=>exact dF h.2 r' e2
  |brk=>exact cP h.1 r1 e1
  |ret t=>cases e2
 |gh ks a ih=>exactλh=>ih h
 |bN t a b cP dF=>exactλh=>b5 λz=>pL (cP (sR.mp h).1) (dF (sR.mp h).2)
 |eV=>exactλz=>b5 λz=>b5 λz=>Ff
 |hY=>exactλz=>b5 λz=>b5 λz=>Ff
 |lU=>exactλz=>b5 λz=>b5 λz=>Ff
 |wh=>exactλz=>YQ
 |asg=>exactλz=>b5 λz=>iK
 |own=>exactλz=>b5 λz=>pL iK pK
 |fA=>exactλz=>b5 λz=>MH λz=>b5 λz=>iK
 |fP=>exactλz=>b5 λz=>pL (b5 λz=>iK) pK
 |pE=>exactλz=>b5 λz=>b5 λz=>iK
 |nest=>exactλz=>b5 λz=>MH λz=>b5 λz=>b5 λz=>iK
 |move=>exactλz=>b5 λz=>iK
 |aug=>exactλz=>b5 λz=>b5 λz=>b5 λz=>iK
 |app=>exactλz=>b5 λz=>wg λz=>b5 λz=>pL iK pK
 |ext=>exactλz=>b5 λz=>wg λz=>b5 λz=>wg λz=>pL iK pK
 |rev=>exactλz=>b5 λz=>wg λz=>iK
 |yA=>exactλz=>b5 λz=>wg λz=>b5 λz=>b5 λz=>Fe λz=>pL iK pK
 |oQ=>exactλz=>b5 λz=>wg λz=>b5 λz=>Fe λz=>pL (b5 λz=>b5 λz=>b5 λz=>iK) pK
 |tQ=>exactλz=>b5 λz=>YP λz=>b5 λz=>Fe λz=>b5 λz=>YO λz=>pL iK pK
def MK{F:Nat->List T->Option T}{σ:S}:∀{r r':aE}{fl:Fl},σ.mS=true->σ.j5=false->ex F σ r=ab (fl,r')->fl.Fb=true:=by
 induction σ with
 |ret fz bg=>exactλz z e=>aO e λt z e=>by cases e;rfl
 |dead=>exactλz z e=>aN e
 |gh ks a ih=>exactλh h' e=>ih h h' e
 |seq a b cP dF=>
  intro r r' fl h h' e
  have h':=sR.mp h'
  refine aO e λx e1 e2=>?_
  obtain⟨f,r1⟩:=x
  cases f with
  |next=>exact(Jz.mp h).elim (λq=>ft (cP q h'.1 e1)) λq=>dF q h'.2 e2
  |brk=>exact(MJ h'.1 _ e1).elim
  |ret t=>cases e2;rfl
 |bN t a b cP dF=>
  intro r r' fl h h' e
  have h':=sR.mp h'
  have h:=ik.mp h
  refine aO e λx e1 e2=>?_
  cases x with
  |true=>exact cP h.1 h'.1 e2
  |false=>exact dF h.2 h'.2 e2
 |_=>exact ft
def bR(σ:S)(c:Sc)(xs:List Stmt)(o':List Nat):Prop:=∀{C k},Ok C k->∀{A env aH M N ad r s fl r'},At C.X k A env c N r s->Fw C.X env c aH M N ad r s.heap->ex C.F σ r=ab (fl,r')->
 ∀E,aA (model C.X.prog C.X.w) A (bL xs env) (Left C.X k A env (cB c o') aH M N s fl r') E s
section
variable{X:Kx}{k:Nat}{A:aM}{env:Env}{c:Sc}{aH M N t8 fE:Addr->Prop}{ad:Nat->Addr}{r r':aE}{s s' aB:az}{E:ay->az->Prop}{fl:Fl}{f:Flow}{Q:Flow->az->Prop}
def c8{x:Stmt}(h:aA (model X.prog X.w) A (exec x env) Q E s):aA (model X.prog X.w) A (bL [x] env) Q E s:=by
 refine aG (mo h λf s' h'=>?_)
 cases f<;>exact aQ h'
def execs_cons{x:Stmt}{rest:List Stmt}(h:aA (model X.prog X.w) A (bL [x] env) (λf aB=>(f=.next->aA (model X.prog X.w) A (bL rest env) Q E aB)/\(f≠.next->Q f aB)) E s):aA (model X.prog X.w) A (bL (x::rest) env) Q E s:=by
 have e:bL (x::rest) env=(bL [x] env>>=λf=>match f with|.next=>bL rest env|f=>pure f):=by
  show(exec x env>>=λf=>match f with|.next=>bL rest env|f=>pure f)=((exec x env>>=λf=>match f with|.next=>bL [] env|f=>pure f)>>=_)
  rw[bind_assoc]
  congr 1
  funext f
  cases f<;>rfl
 rw[e]
 refine aG (mo h λf s' h'=>?_)
 cases f with
 |next=>exact h'.1 rfl
 |_=>exact aQ (h'.2 (by intro e;cases e))
def Left.trans(mv:Mv X M s aB)(m:∀a,t8 a->M a∨s.heap.objs.size<=a)(n:∀a,fE a->N a∨s.heap.objs.size<=a)(L:Left X k A env c aH t8 fE aB fl r' f s'):Left X k A env c aH M N s fl r' f s':=by
 cases L with|mk fo l7 n0 m' n' o=>
 exact .mk fo (mv.trans l7 m) n0 (λa h=>(m' a h).elim (m a) λz=>.inr (aD mv.size z)) (λa h=>(n' a h).elim (n a) λz=>.inr (aD mv.size z)) o
def Left.kp(k₁:Kp X s aB)(L:Left X k A env c aH M N aB fl r' f s'):Left X k A env c aH M N s fl r' f s':=L.trans (Mv.of k₁) (λz=>.inl) λz=>.inl
def Left.any{fT pM:List Nat}(h:fT=pM∨fl.Fb=true)(L:Left X k A env (cB c fT) aH M N s fl r' f s'):Left X k A env (cB c pM) aH M N s fl r' f s':=by
 cases L with|mk fo mv n0 m n o=>
 exact .mk (ad:= ‹_›) fo mv n0 m n (h.elim (λe=>e▸o) .inl)
end
section
variable{c:Sc}{o o' fT pM:List Nat}{x y:S}{st:Stmt}{rest xs ys:List Stmt}{t bg:Ex}{fz:List Nat}{p:Pos}{v:aW}
def YR:bR .skip c [] c.own:=λH z z z z z ad z s z z a F e E=>by cases e;exact aQ (Left.eq (.refl s) ⟨a,F⟩)
def YS:bR .dead c xs c.own:=λH z z z z z ad z s z z a F e E=>aN e
def YT:bR .brk c [.Break p] c.own:=λH z z z z z ad z s z z a F e E=>by cases e;exact c8 (wpAny_Break (Left.mk rfl (.refl s) F.n0 (λz=>.inl) (λz=>.inl) (.inr ⟨a,F⟩)))
def YU(hx:bR x c [st] o)(hy:bR y (cB c o) rest o')(h:x.j5=false∨o=o'):bR (.seq x y) c (st::rest) o':=λH z z z z z ad z s z z a F e E=>by
 refine aO e λp e1 e=>execs_cons (mo (hx H a F e1 E) λf aB L=>?_)
 obtain⟨f1,r1⟩:=p
 cases f1 with
 |next=>
  cases L with|mk fo mv n0 m n o=>
  cases fo
  refine⟨λz=>?_,λq=>(q rfl).elim⟩
  exact o.elim ft λU=>mo (hy H U.1 U.2 e E) λf s₂ L=>L.trans mv m n
 |brk=>
  cases e
  have e:o=o':=h.resolve_left λq=>MJ q _ e1
  have nf:f≠.next:=by cases L with|mk fo=>cases fo;intro e;cases e
  refine⟨λq=>(nf q).elim,λz=>?_⟩
  exact L.any (.inl e)
 |ret t=>
  cases e
  have nf:f≠.next:=by cases L with|mk fo=>obtain⟨v,rfl,_⟩:=fo;intro e;cases e
  refine⟨λq=>(nf q).elim,λz=>?_⟩
  exact L.any (.inr rfl)
def YV(hx:bR x (cB c (d5 c.own fz)) xs o'):bR (.gh fz x) c xs o':=λH z z z z z ad z s z z a F e E=>by
 obtain⟨M',N',m,n,n0,a',F'⟩:=freeze a F fz
 exact mo (hx H a' F' e E) λf aB L=>L.trans (.refl s) (λd q=>.inl (m d q)) λd q=>.inl (n d q)
def YW(he:Gd bg .val (cB c (d5 c.own fz)) [v]):bR (.ret fz bg) c [.Return (ab v) p] c.own:=λH z z z z z ad z s z z a F e E=>by
 refine aO e λt e1 e=>?_
 cases e
 obtain⟨M',N',m,n,n0,a',F'⟩:=freeze a F fz
 exact c8 (qJ (vl (he H a' e1) λv aB k₁ hv=>Left.mk (ad:=ad) ⟨v,rfl,hv⟩ (Mv.of k₁) n0 (λd q=>.inl (m d q)) (λd q=>.inl (n d q)) (.inl rfl)))
def Fg(ht:Gd t .a9 c [v])(hx:bR x c xs fT)(hy:bR y c ys pM)(h1:fT=o'∨(x.mS=true/\x.j5=false))(h2:pM=o'∨(y.mS=true/\y.j5=false)):bR (.bN t x y) c [.If v xs ys p] o':=λH w w w w w ad w s w w a F e E=>by
 refine aO e λb e1 e=>aO e1 λtt et e1=>ifs e1 λhp e1=>?_
 refine c8 (J4 (mo (ht H a et hp E) λb' aB z=>?_))
 have a1:=a.kp z.2
 have F1:=F.kp a z.2
 rw[z.1,e1]
 cases b with
 |true=>rw[ah rfl];exact mo (hx H a1 F1 e E) λf s₂ L=>(L.kp z.2).any (h1.imp id λq=>MK q.1 q.2 e)
 |false=>rw[ai bT];exact mo (hy H a1 F1 e E) λf s₂ L=>(L.kp z.2).any (h2.imp id λq=>MK q.1 q.2 e)
end
noncomputable def wi(x:aW):Bool:=x.ctorIdx==8
noncomputable def cZ(x:aW):Bool:=x.ctorIdx !=8&&x.ctorIdx !=9&&x.ctorIdx !=10
section
variable{X:Kx}{k:Nat}{A:aM}{env:Env}{c:Sc}{aH M N P Pm:Addr->Prop}{ad ad':Nat->Addr}{r:aE}{s s' aB:az}{E:ay->az->Prop}{t:T}{v:ay}{x:Str}{k₀:Nat}{Q:Unit->az->Prop}
def ML(o:Bool)(a:At X k A env c N r s)(F:Fw X env c aH M N ad r s.heap)(k₁:Kp X s aB)(hP:∀b,P b->s.heap.objs.size<=b/\b<aB.heap.objs.size)(hm:∀b,Pm b->P b)(hx:c.slots.lookup x=ab k₀)
  (hv:Vo X (λb=>N b∨P b) aB.heap o t v) (ho:o=true->t.obj=true/\∃b,v=.ref b/\Pm b)
  (q:∀s' ad',Mv X (λb=>M b∨Pm b) aB s'->Mv X M s s'->At X k A env (cB c (j4 o c.own k₀)) (λb=>N b∨P b) (put r k₀ t) s'->Fw X env (cB c (j4 o c.own k₀)) aH (λb=>M b∨Pm b) (λb=>N b∨P b) ad' (put r k₀ t) s'.heap->Q () s'):
  aA (model X.prog X.w) A (xM env x v) Q E aB:=by
 have U:=ME a F k₁ hP hm
 refine l9 o U.1 U.2 hx hv (λw=>⟨(ho w).1,(ho w).2.elim λb z=>⟨b,z.1,.inr z.2,n7 a F (hP b (hm b z.2)).1⟩⟩) λs' ad' mv a' F'=>q s' ad' mv ((Mv.of k₁).trans mv λd h=>h.imp id λh=>(hP d (hm d h)).1) a' F'
def mT{v:aW}{t:Option aW}{l:Nat}(h:cZ v=true):J5 v t l env=pure false:=by
 cases v with
 |ListComp=>exact ft h
 |SetComp=>exact ft h
 |DictComp=>exact ft h
 |_=>rfl
def YX{v:aW}(h:wi v=true):∃x gs sc p,v=.ListComp x gs sc p:=by
 exact Expr.ListComp.elim (motive_1:=λv=>v.ctorIdx=8->∃x gs sc p,v=.ListComp x gs sc p) v (ao h) (λx gs sc p z=>⟨x,gs,sc,p,rfl⟩) (ao h)
end
section
variable{c:Sc}{bg:Ex}{v:aW}{x:Str}{k₀:Nat}{p pos:Pos}
def MM(o:Bool){C:Cx}{k:Nat}{A:aM}{env:Env}{aH M N:Addr->Prop}{ad:Nat->Addr}{r:aE}{s:az}{t:T}{E:ay->az->Prop}(H:Ok C k)(a:At C.X k A env c N r s)(F:Fw C.X env c aH M N ad r s.heap)(hx:c.slots.lookup x=ab k₀)
  (hg:Gd bg (if o then .own else .val) c [v]) (hp:cZ v=true∨(wi v=true/\Gd bg .use c [v])) (ee:ev C.F bg r=ab t) (rF:o=true->t.obj=true):
  aA (model C.X.prog C.X.w) A (bL [.Assign [.Name x p] v pos] env) (Left C.X k A env (cB c (j4 o c.own k₀)) aH M N s .next (put r k₀ t)) E s:=by
 refine c8 ?_
 have plain:J5 v (ab (.Name x p)) pos.line env=pure false->aA (model C.X.prog C.X.w) A (exec (.Assign [.Name x p] v pos) env) (Left C.X k A env (cB c (j4 o c.own k₀)) aH M N s .next (put r k₀ t)) E s:=λhs=>by
  cases o with
  |false=>exact xU (vl (hg H a ee) λval aB k₁ hv=>l9 false (a.kp k₁) (F.kp a k₁) hx hv ft λs' ad' mv a' F'=>Left.eq ((Mv.of k₁).trans mv λu=>.inl) ⟨a',F'⟩) hs
  |true=>
   refine xU (mo (hg H a ee (rF rfl) E) λval aB z=>?_) hs
   obtain⟨k₁,_,D,rfl,hD,hb⟩:=z
   have vb:=hb (rF rfl)
   have hP:∀b,b=D->s.heap.objs.size<=b/\b<aB.heap.objs.size:=λb e=>e.symm▸⟨hD,VB.lt (rF rfl) vb⟩
   exact ML (Pm:=λb=>b=D) true a F k₁ hP (λu=>id) hx vb (λu=>⟨rF rfl,D,rfl,rfl⟩) λs' ad' u mv a' F'=>Left.nx mv (λb q=>q.imp id λq=>(hP b q).1) (λb q=>q.imp id λq=>(hP b q).1) ⟨a',F'⟩
 refine hp.elim (λh=>plain (mT h)) λh=>?_
 obtain⟨y,gs,sc,lp,rfl⟩:=YX h.1
 obtain⟨b,hs⟩:∃b,J5 (.ListComp y gs sc lp) (ab (.Name x p)) pos.line env=pure b:=⟨_,rfl⟩
 cases b with
 |false=>exact plain hs
 |true=>
  rw[exec_Assign_Name_used _ _ _ _ hs]
  refine aG (lL (aG (mo (h.2 H a ee _ (λu s'=>Left C.X k A env (cB c (j4 o c.own k₀)) aH M N s .next (put r k₀ t) .next s') E λD K aB m' k₁ YY MN hD rD hK hn=>?_) λu u z=>aQ z)))
  have hP:∀b,(b=K∨(o=true/\b=D))->s.heap.objs.size<=b/\b<aB.heap.objs.size:=λb e=>e.elim (λe=>e.symm▸⟨hK,hn.lt⟩) λe=>e.2.symm▸⟨hD,VB.lt (rF e.1) MN⟩
  refine tu (ML (P:=λb=>b=K∨(o=true/\b=D)) (Pm:=λb=>o=true/\b=D) o a F k₁ hP (λu=>.inr) hx ?_ (λw=>⟨rF w,D,rfl,w,rfl⟩) λs' ad' l7 mv a' F'=>?_)
  ·cases o with
   |true=>exact VB.sub (λb q=>.inl (q.elim (λq=>.inl (.inl q)) λq=>q.elim .inr λq=>.inl (.inr q.2))) MN
   |false=>exact YY.mono λb q=>q.imp id λq=>q.elim id λq=>ft q.1
  ·have nM:¬(M K∨(o=true/\K=D)):=λq=>q.elim (λq=>bx (a.ng.lt K (F.mn K q)) hK) λq=>rD q.2.symm
   have yX:s'.heap.Ns K m':=hn.at' λob e=>l7.old K ob nM (λq=>bx (a.ng.lt K (a.ng.tb K q)) hK) e
   refine⟨m',yX,λh' cj=>?_⟩
   have mK:Mv C.X (λb=>b=K) s' {s' with heap:=h'}:=by obtain⟨ob,es,ep,e1,e2,_⟩:=yX;exact Mv.put e1 (oN e2 rfl) (λb o hb e=>cj.extBut b o hb e) (bO cj.1.symm)
   have U:=other a' F' mK (λb q=>.inr (.inl q)) (λb hb q=>(n7 a F hK).1 (q▸hb)) λb hb q=>nM (q▸hb)
   exact Left.nx (mv.trans mK λd q=>.inr (q.symm▸hK)) (λb q=>q.imp id λq=>(hP b (.inr q)).1) (λb q=>q.imp id λq=>(hP b q).1) U
def YZ(hx:c.slots.lookup x=ab k₀)(hg:Gd bg .val c [v])(hp:cZ v=true∨(wi v=true/\Gd bg .use c [v])):bR (.asg k₀ bg) c [.Assign [.Name x p] v pos] (d5 c.own [k₀]):=λH z z z z z ad z s z z a F e E=>by
 refine aO e λt et e=>?_
 cases e
 exact MM false H a F hx hg hp et ft
def Y0(hx:c.slots.lookup x=ab k₀)(hg:Gd bg .own c [v])(hp:cZ v=true∨(wi v=true/\Gd bg .use c [v])):bR (.own k₀ bg) c [.Assign [.Name x p] v pos] (BY c.own k₀):=λH z z z z z ad z s z z a F e E=>by
 refine aO e λt et ea=>gi ea λho ez=>?_
 clear e ea
 cases ez
 exact MM true H a F hx hg hp et λz=>ho
end
abbrev jz(c:Sc)(ps:List (Str×Pos))(ks:List Nat):Prop:=ps.length=ks.length/\(∀(j:Nat)(p:Str×Pos)i,ps[j]?=ab p->ks[j]?=ab i->c.slots.lookup p.1=ab i)/\(ps.map (·.1)).Nodup/\ks.Nodup
section
variable(h:jz c ps ks)
def jz.hl:=h.1
def jz.hs:=h.2.1
def jz.nd:=h.2.2.1
def jz.cL:=h.2.2.2
end
def jz.own{c:Sc}{ps:List (Str×Pos)}{ks:List Nat}(g:jz c ps ks):∀p∈ps,ow c.slots p.1:=λp hp=>by
 obtain⟨j,hj⟩:=tA.mp hp
 have jl:j<ks.length:=g.hl▸(iR.mp hj).1
 rw[ow,g.hs j p _ hj (iq jl)];rfl
def filter_all{f:aW->Option Str}{cnd:Str->Pos->Bool}(hf:∀x p,f (.Name x p)=if cnd x p=true then ab x else ae){ps:List (Str×Pos)}:((ps.map λp=>qG p.1 p.2).filterMap f).length=ps.length->(ps.map λp=>qG p.1 p.2).filterMap f=ps.map (·.1):=by
 induction ps with
 |nil=>intro _;rfl
 |cons p ps ih=>
  intro h
  rw[qB,JW,hf]at h ⊢
  by_cases q:cnd p.1 p.2=true
  ·rw[ah q]at h ⊢
   exact af (p.1::·) (ih (Nat.succ.inj h))
  ·rw[ai q]at h
   refine aj h (cW (A7 ?_))
   have:=anN f (ps.map λp=>qG p.1 p.2)
   rw[bK]at this;exact this
def wj(ps:List (Str×Pos))(v:aW):Prop:=∀j tp env,∃o,A9 [.Tuple (ps.map λp=>.Name p.1 p.2) j tp] v env=pure o/\(o=ae∨o=ab (ps.map (·.1)))
def Fh{ps:List (Str×Pos)}{vs:List aW}{i:Nat}{q:Pos}(h':vs.all (DO 8)=false):wj ps (.Tuple vs i q):=λj tp env=>by
 unfold A9
 dsimp only
 split
 ·exact⟨ae,rfl,.inl rfl⟩
 ·split
  ·exact⟨ae,rfl,.inl rfl⟩
  ·split
   ·exact⟨ae,rfl,.inl rfl⟩
   ·rename_i hl
    split
    ·exact⟨ae,rfl,.inl rfl⟩
    ·rw[ai (by rw[h'];decide)]
     refine⟨_,rfl,.inr (af ab (filter_all (cnd:=λid pos=>env.kindOf id==ab .local&&pos.line==_) (λz z=>rfl) ?_))⟩
     have:=bne_eq_false_iff_eq.mp (sR.mp (JV _▸hl)).1
     exact DP this (bK ..)
noncomputable def t9(x:aW):Bool:=x.ctorIdx==25
def Y1{ps:List (Str×Pos)}{v:aW}(h:t9 v=false):wj ps v:=λj tp env=>by
 refine⟨ae,?_,.inl rfl⟩
 cases v with
 |Tuple=>exact tf h
 |_=>rfl
section
variable{X:Kx}{k:Nat}{A:aM}{env:Env}{own:Str->Prop}{s:az}{E:ay->az->Prop}{ps:List (Str×Pos)}{v:aW}{j:Nat}{tp pos:Pos}{Q:Flow->az->Prop}
def Y2{es:List aW}{l:Nat}:swapsWithSole [.Tuple es j tp] v l env=pure false:=by
 show J5 v (ab (.Tuple es j tp)) l env=_
 cases v<;>rfl
def Fj(sw:wj ps v)(hh:A.handled=ae)(ho:∀p∈ps,own p.1)(nd:(ps.map (·.1)).Nodup)
  (he:aA (model X.prog X.w) A (eval v env) (λval s=>∃M a vs,val=.ref a/\IsTup s.heap a (oD vs)/\ps.length=vs.length/\cJ X env M own s.heap/\∀s',fB X env M own (ps.zip vs) s s'->Q .next s') E s):
  aA (model X.prog X.w) A (exec (.Assign [.Tuple (ps.map λp=>.Name p.1 p.2) j tp] v pos) env) Q E s:=by
 have h0:swapsWithSole [.Tuple (ps.map λp=>.Name p.1 p.2) j tp] v pos.line env=pure false:=Y2
 obtain⟨o,e1,e2⟩:=sw j tp env
 rcases e2 with rfl|rfl
 ·refine Assign_Tuple (mo he λval s z=>?_) h0 e1
  obtain⟨M,a,vs,rfl,hp,hl,F,q⟩:=z
  exact BR hl (vX hh F hp) ho nd q
 ·refine Assign_Tuple_swapped (mo he λval s z=>?_) h0 e1
  obtain⟨M,a,vs,rfl,hp,hl,F,q⟩:=z
  rw[bK,hl]
  refine mo (vX hh F hp) λws s' z=>?_
  rw[z.1]
  have f1:(ps.map (·.1)).reverse.map (λn=>DQ env n)=((ps.zip vs).reverse.map λe=>(DQ env e.1.1,e.2)).map (·.1):=by
   rw[<-qH,fO,fO,qH,qH]
   exact af anQ (tY (f:=λp:Str×Pos=>DQ env p.1) hl).symm
  have f2:vs.reverse=((ps.zip vs).reverse.map λe=>(DQ env e.1.1,e.2)).map (·.2):=by
   rw[fO]
   exact(af anQ (zip2 hl)).symm.trans qH.symm
  rw[f1]
  conv=>arg 3;arg 2;rw[f2]
  refine EU ?_
  rw[fO]
  refine EV (g:=λx y v=>DQ env x v) (λx p v Q s h=>wpAny_bindName h) z.2.cn (λe he=>ho e.1 (tw (A5.mp he)).1) ?_ λck b=>q ck (z.2.app b.rev λy h=>(gM h).elim)
  rw[qH,show((ps.zip vs).map λe=>e.1.1)=ps.map (·.1)from tY hl]
  exact Us.mpr (nd.imp λh e=>h e.symm)
end
section
variable{c:Sc}{bg:Ex}{v n₁ yY:aW}{ns:List aW}{x:Str}{k₀ j:Nat}{p tp pos:Pos}{ks:List Nat}{ts:List (Str×Nat)}
def Y3{ps:List (Str×Pos)}(g:jz c ps ks)(sw:wj ps v)(hg:Gd bg .val c [v]):bR (.fA ks bg) c [.Assign [.Tuple (ps.map λp=>.Name p.1 p.2) j tp] v pos] (d5 c.own ks):=λ{C}{k}H A env aH M N ad r s fl r' a F e E=>by
 refine aO e λt et ea=>kJ ea λl q eb=>aO eb λr1 hp ez=>?_
 clear e ea eb
 cases ez;subst q
 have pl:=BP hp
 refine c8 (Fj (X:=C.X) (own:=ow c.slots) sw a.ra.handled g.own g.nd (vl (hg H a et) λval aB k₁ hv=>hv.eY λb vs yZ hN hz j6=>⟨M,b,vs,rfl,yZ.isTup,g.hl.trans (pl.trans j6.length.symm),(F.kp a k₁).cn,λs' S=>?_⟩))
 exact Left.eq ((Mv.of k₁).trans S.m λz=>.inl) (yW (a.kp k₁) (F.kp a k₁) g.hs g.hl g.cL hp S j6)
def Fm{X:Kx}{A:aM}{E:ay->az->Prop}{v:ay}{Q:Unit->az->Prop}:∀{l:List (ay->Sem Unit)}{s:az},Run (model X.prog X.w) A E Q (l.map λf=>f v) s->aA (model X.prog X.w) A (assignAll v l) Q E s:=by
 intro l
 induction l with
 |nil=>exactλh=>aQ h
 |cons f l ih=>
  intro s h
  cases l with
  |nil=>exact h
  |cons g l=>exact aG (dN (mo h λy y z=>ih z))
def Y4{X:Kx}{N:Addr->Prop}{h:Heap}{t:T}{v:ay}(hv:VR X N h t v):∀ks:List Nat,aL X N h (ks.map λz=>t) (ks.map λz=>v):=by
 intro ks
 induction ks with
 |nil=>exact .nil
 |cons k ks ih=>exact .cons hv ih
def Y5{ps:List (Str×Pos)}(h2:n₁::yY::ns=ps.map λp=>.Name p.1 p.2)(g:jz c ps ks)(hw:∀env,A9 (n₁::yY::ns) v env=pure ae)(hg:Gd bg .val c [v]):bR (.pE ks bg) c [.Assign (n₁::yY::ns) v pos] (d5 c.own ks):=λ{C}{k}H A env aH M N ad r s fl r' a F e E=>by
 refine aO e λt et ea=>aO ea λr1 hp ez=>?_
 clear e ea
 cases ez
 refine c8 (wpAny_Assign_stores (vl (hg H a et) λval aB k₁ hv=>?_) rfl (hw env))
 rw[h2,LY,fO]
 refine Fm ?_
 have hl:ps.length=(ks.map λz=>val).length:=by rw[bK,g.hl]
 have e:(ps.map ((λx=>x.2)∘λp=>(false,assign (qG p.1 p.2) env))).map (λf=>f val)=(ps.zip (ks.map λz=>val)).map λe=>assign (.Name e.1.1 e.1.2) env e.2:=by
  rw[fO]
  refine DP (tY (f:=λp:Str×Pos=>assign (.Name p.1 p.2) env val) hl).symm ?_
  refine tm λe he=>?_
  obtain⟨_,_,h⟩:=dy.mp (tw he).2
  rw[<-h]
 rw[e]
 exact EV (X:=C.X) (g:=λx p v=>assign (.Name x p) env v) LZ (F.kp a k₁).cn (λe he=>g.own e.1 (tw he).1) (by rw[show((ps.zip (ks.map λz=>val)).map λe=>e.1.1)=ps.map (·.1)from tY hl];exact g.nd) λs' S=>
  Left.eq ((Mv.of k₁).trans S.m λz=>.inl) (yW (a.kp k₁) (F.kp a k₁) g.hs g.hl g.cL hp S (Y4 hv ks))
end
inductive ma(c:Sc):List (Option Ex)->List aW->Prop
 |nil:ma c [] []
 |some {e es v vs} (hs:notStar v=true) (h:Gd e .val c [v]) (r:ma c es vs):ma c (ab e::es) (v::vs)
 |none {es p vs} (r:ma c es vs):ma c (ae::es) (.List [] p::vs)
inductive Vals(X:Kx)(N M:Addr->Prop)(h:Heap):Nat->List (Option Ex)->List T->List ay->Prop
 |nil {z}:Vals X N M h z [] [] []
 |v {z e es t v ts vs} (hv:VR X N h t v) (r:Vals X N M h z es ts vs):Vals X N M h z (ab e::es) (t::ts) (v::vs)
 |o {z es b ts vs} (hv:VB X N h (.lst []) (.ref b)) (hm:M b) (hz:z<=b) (r:Vals X N M h (b+1) es ts vs):Vals X N M h z (ae::es) (.lst []::ts) (.ref b::vs)
noncomputable def rG(o:List Nat)(ks:List Nat)(es:List (Option Ex)):List Nat:=(ks.zip es).foldl (λo p=>j4 p.2.isNone o p.1) o
noncomputable def rH(ad:Nat->Addr)(l:List (Nat×ay))(i:Nat):Addr:=(l.lookup i).elim (ad i) nZ
section
variable{X:Kx}{N M:Addr->Prop}{h:Heap}{es:List (Option Ex)}{xs:List T}{vs:List ay}{z j:Nat}{ks o:List Nat}{i:Nat}
def Vals.weak(q:Vals X N M h z es xs vs){y:Nat}(hy:y<=z):Vals X N M h y es xs vs:=by
 induction q generalizing y with
 |nil=>exact .nil
 |v hv r ih=>exact .v hv (ih hy)
 |o hv hm hz r ih=>exact .o hv hm (aD hy hz) r
def Vals.len(q:Vals X N M h z es xs vs):vs.length=xs.length/\es.length=xs.length:=by
 induction q with
 |nil=>exact⟨rfl,rfl⟩
 |v hv r ih=>exact⟨af (· +1) ih.1,af (· +1) ih.2⟩
 |o hv hm hz r ih=>exact⟨af (· +1) ih.1,af (· +1) ih.2⟩
inductive Fo(X:Kx)(N M:Addr->Prop)(h:Heap)(z:Nat):Option Ex->T->ay->Prop
 |v {e t v} (hv:VR X N h t v):Fo X N M h z (ab e) t v
 |o {b} (hv:VB X N h (.lst []) (.ref b)) (hm:M b) (hz:z<=b):Fo X N M h z ae (.lst []) (.ref b)
def Vals.get(q:Vals X N M h z es xs vs){t:T}(e:xs[j]?=ab t):∃o v,es[j]?=ab o/\vs[j]?=ab v/\Fo X N M h z o t v:=by
 induction q generalizing j with
 |nil=>exact aN e
 |v hv r ih=>
  cases j with
  |zero=>cases e;exact⟨_,_,rfl,rfl,.v hv⟩
  |succ j=>exact ih e
 |o hv hm hz r ih=>
  cases j with
  |zero=>cases e;exact⟨_,_,rfl,rfl,.o hv hm hz⟩
  |succ j=>
   obtain⟨o,v,e1,e2,w⟩:=ih e
   refine⟨o,v,e1,e2,?_⟩
   cases w with
   |v hv=>exact .v hv
   |o hv hm iH=>exact .o hv hm (aD hz (oE iH))
def Vals.inc(q:Vals X N M h z es xs vs):∀{j j':Nat}{v v':ay},es[j]?=ab ae->es[j']?=ab ae->vs[j]?=ab v->vs[j']?=ab v'->nZ v=nZ v'->j=j':=by
 have lo:∀{z:Nat}{es:List (Option Ex)}{xs:List T}{vs:List ay},Vals X N M h z es xs vs->∀{j:Nat}{v:ay},es[j]?=ab ae->vs[j]?=ab v->z<=nZ v:=λq j v e1 e2=>by
  obtain⟨t,ht⟩:∃t,_=ab t:=⟨_,iq (q.len.1▸(iR.mp e2).1)⟩
  obtain⟨o,v',f1,f2,w⟩:=q.get ht
  cases f1.symm.trans e1
  cases f2.symm.trans e2
  cases w with|o hv hm hz=>exact hz
 induction q with
 |nil=>exactλe y y y y=>aN e
 |v hv r ih=>
  intro j j' v v' e1 e2 e3 e4 e
  cases j with
  |zero=>cases e1
  |succ j=>cases j' with
   |zero=>cases e2
   |succ j'=>exact af (· +1) (ih e1 e2 e3 e4 e)
 | @o z es b ts vs hv hm hz r ih=>
  intro j j' v v' e1 e2 e3 e4 e
  cases j with
  |zero=>cases j' with
   |zero=>rfl
   |succ j'=>cases e3;have w:b+1<=nZ v':=lo r e2 e4;rw[<-e]at w;exact(fN b w).elim
  |succ j=>cases j' with
   |zero=>cases e4;have w:b+1<=nZ v:=lo r e1 e3;rw[e]at w;exact(fN b w).elim
   |succ j'=>exact af (· +1) (ih e1 e2 e3 e4 e)
def Fp:∀{ks:List Nat}{es:List (Option Ex)}{o:List Nat},i∉ks->(rG o ks es).contains i=o.contains i:=by
 intro ks
 induction ks with
 |nil=>intro es o _;rfl
 |cons k ks ih=>
  intro es o h
  cases es with
  |nil=>rfl
  |cons e es=>exact(ih λq=>h (bS _ q)).trans (we λe=>h (by rw[e];exact bk))
def Fq:∀{ks:List Nat}{es:List (Option Ex)}{o:List Nat}{j:Nat}{e:Option Ex},ks.Nodup->ks[j]?=ab i->es[j]?=ab e->(rG o ks es).contains i=e.isNone:=by
 intro ks
 induction ks with
 |nil=>intro es o j e _ h;exact aN h
 |cons k ks ih=>
  intro es o j e nd h1 h2
  have cU:=g9.mp nd
  cases es with
  |nil=>exact aN h2
  |cons e' es=>cases j with
   |zero=>cases h1;cases h2;exact(Fp cU.1).trans (BZ _ _ _)
   |succ j=>exact ih cU.2 h1 h2
def y1{ad:Nat->Addr}:∀{ks:List Nat}{vs:List ay},i∉ks->rH ad (ks.zip vs) i=ad i:=by
 intro ks
 induction ks with
 |nil=>intro vs _;rfl
 |cons k ks ih=>
  intro vs h
  cases vs with
  |nil=>rfl
  |cons v vs=>
   have q:(i==k)=false:=beq_eq_false_iff_ne.mpr λe=>h (by rw[e];exact bk)
   have:=ih (vs:=vs) λq=>h (bS _ q)
   unfold rH at this ⊢
   rw[DR,cE,q];exact this
def y2{ad:Nat->Addr}:∀{ks:List Nat}{vs:List ay}{j:Nat}{v:ay},ks.Nodup->ks[j]?=ab i->vs[j]?=ab v->rH ad (ks.zip vs) i=nZ v:=by
 intro ks
 induction ks with
 |nil=>intro vs j v _ h;exact aN h
 |cons k ks ih=>
  intro vs j v nd h1 h2
  have cU:=g9.mp nd
  cases vs with
  |nil=>exact aN h2
  |cons w vs=>cases j with
   |zero=>cases h1;cases h2;unfold rH;rw[DR,cE,aw];rfl
   |succ j=>
    have q:(i==k)=false:=beq_eq_false_iff_ne.mpr λe=>cU.1 (e▸dZ h1)
    have:=ih (vs:=vs) cU.2 h1 h2
    unfold rH at this ⊢
    rw[DR,cE,q];exact this
end
inductive MO(X:Kx)(k:Nat)(A:aM)(env:Env)(c:Sc)(aH M N:Addr->Prop)(ad:Nat->Addr)(r:aE)(s:az)(es:List (Option Ex))(xs:List T)(vals:List ay)(s':az):Prop
 |mk {N' M'} (k₁:Kp X s s') (a:At X k A env c N' r s') (F:Fw X env c aH M' N' ad r s'.heap) (hv:Vals X N' M' s'.heap s.heap.objs.size es xs vals) (m:∀b,M' b->M b∨s.heap.objs.size<=b) (n:∀b,N' b->N b∨s.heap.objs.size<=b) (mm:∀b,M b->M' b)
def Y6{c:Sc}{pos:Pos}{es:List (Option Ex)}{vs:List aW}(L:ma c es vs):∀{C k},Ok C k->∀{A env aH M N ad r s},At C.X k A env c N r s->Fw C.X env c aH M N ad r s.heap->∀{xs},pF C.F r es=ab xs->∀E,
  aA (model C.X.prog C.X.w) A (pj (mA pos (jS vs env))) (MO C.X k A env c aH M N ad r s es xs) E s:=by
 induction L with
 |nil=>exactλH y y y y y y y y a F y e E=>by cases e;exact gb (MO.mk (.refl _) a F .nil (λy=>.inl) (λy=>.inl) λy=>id)
 | @some e es v vs hs h r ih=>
  intro C k H A env aH M N ad r s a F xs e E
  refine aO e λt e1 ea=>map_some ea λys e2 ez=>?_
  clear e ea
  subst ez
  rw[yH hs]
  refine eX (vl (h H a e1) λval aB k₁ hv=>mo (ih H (a.kp k₁) (F.kp a k₁) e2 E) λvals s₂ z=>?_)
  cases z with|mk k₂ a' F' vv m n mm=>
  exact .mk (k₁.trans k₂) a' F' (.v (hv.move n (k₂.kc a.ng.tb)) (vv.weak k₁.size)) (λb h=>(m b h).imp id (aD k₁.size)) (λb h=>(n b h).imp id (aD k₁.size)) mm
 | @none es p vs r ih=>
  intro C k H A env aH M N ad r s a F xs e E
  refine map_some e λys e2 e=>?_
  subst e
  show aA _ _ (pj ((false,eval (.List [] p) env)::mA pos (jS vs env))) _ _ _
  refine eX (JK (gb ⟨dP _,?_⟩))
  obtain⟨k₁,hv,D,hD,hDs,vb⟩:=q7 (ts:=[]) (vs:=[]) (tk:=s.toks) (e:=0) a.ng .nil (dP _)
  cases hD
  have vb:=vb rfl
  have hP:∀b,b=s.heap.objs.size->s.heap.objs.size<=b/\b<(s.heap.push {cls:=.type "list",data:=.seq ([]:List ay).toArray}).objs.size:=λb e=>by subst e;exact⟨bj _,BE _ _⟩
  have U:=ME (Pm:=λb=>b=s.heap.objs.size) a F k₁ hP λy=>id
  refine mo (ih H U.1 U.2 e2 E) λvals s₂ z=>?_
  cases z with|mk k₂ a' F' vv m n mm=>
  have lo:∀{P:Addr->Prop}{b:Addr},(P b∨b=s.heap.objs.size)∨(s.heap.push {cls:=.type "list",data:=.seq ([]:List ay).toArray}).objs.size<=b->P b∨s.heap.objs.size<=b:=λh=>h.elim (λh=>h.imp id λe=>bO e.symm) λq=>.inr (aD (rg _ _) q)
  exact .mk (k₁.trans k₂) a' F' (.o (vb.move n (k₂.kc U.1.ng.tb) λb o T cl e=>k₂.old b o (mJ U.1.apart e cl) e) (mm _ (.inr rfl)) (bj _) (vv.weak (bO (fh ..).symm))) (λb h=>lo (m b h)) (λb h=>lo (n b h)) λb h=>mm b (.inl h)
def Y7{c:Sc}{es:List (Option Ex)}{vs:List aW}{ks:List Nat}{j j':Nat}{tp Y8 pos:Pos}{ps:List (Str×Pos)}(g:jz c ps ks)(L:ma c es vs)(sw:vs.all (DO 8)=false):
  bR (.fP ks es) c [.Assign [.Tuple (ps.map λp=>.Name p.1 p.2) j tp] (.Tuple vs j' Y8) pos] (rG c.own ks es):=λ{C}{k}H A env aH M N ad r s fl r' a F e E=>by
 refine aO e λxs e1 ea=>gi ea λhz eb=>aO eb λr1 hp ez=>?_
 clear e ea eb
 cases ez
 have pl:=BP hp
 refine c8 (Fj (X:=C.X) (own:=ow c.slots) (Fh sw) a.ra.handled g.own g.nd (TH (mo (Y6 L H a F e1 E) λvals aB z=>?_)))
 cases z with| @mk N' M' k₁ a' F' vv m n mm=>
 have hl:=vv.len
 refine⟨by rw[hl.1];exact dS hz,M',aB.heap.objs.size,vals,rfl,jX.isTup ⟨0,cD _ rfl⟩,g.hl.trans (pl.trans hl.1.symm),?_,λs' S=>?_⟩
 ·exact(F'.kp a' Kp.push).cn
 ·have k2:Kp C.X aB {aB with heap:=aB.heap.push {cls:=.type "tuple",data:=.seq vals.toArray}}:=Kp.push
  have a2:=a'.kp k2
  have F2:=F'.kp a' k2
  have own:∀{i},i∈ks->Ow (rG c.own ks es) r' i->∃j v,ks[j]?=ab i/\vals[j]?=ab v/\es[j]?=ab ae/\M' (nZ v)/\s.heap.objs.size<=nZ v:=λ{i}hi w=>by
   obtain⟨j,hj⟩:=tA.mp hi
   obtain⟨t,ht⟩:=mD.mp w.2
   obtain⟨o,v,f1,f2,f3⟩:=vv.get (ES hp g.cL hj ht)
   have e:=(Fq g.cL hj f1).symm.trans w.1
   cases f3 with
   |v=>exact ft e
   |o hv hm hz=>exact⟨j,_,hj,f2,f1,hm,hz⟩
  have old:∀{i},i∉ks->Ow (rG c.own ks es) r' i->Ow c.own r i:=λhi w=>⟨(Fp hi).symm.trans w.1,vW hp hi▸w.2⟩
  refine Left.nx ((Mv.of (k₁.trans k2)).trans S.m m) m n (Fd (ad':=rH ad (ks.zip vals)) a2 F2 g.hs g.hl g.cL hp S (λj i t h1 h2=>?_) (λi hi=>⟨Fp hi,y1 hi⟩) (λi w=>?_) λi j w1 w2 e=>?_)
  ·obtain⟨o,v,f1,f2,f3⟩:=vv.get h2
   refine⟨v,f2,?_,λw=>?_⟩
   ·rw[Fq g.cL h1 f1]
    cases f3 with
    |v hv=>exact(hv.kp a'.ng k2).mv a2.ng S.m F2.mn
    |o hv hm hz=>exact VB.mv a2.ng a2.apart S.mv (λb h=>F2.mn b h.1) (hv.kp a'.ng k2 a'.apart) λb e w=>by cases e;exact(n7 a F hz).1 w.2
   ·rw[Fq g.cL h1 f1]at w
    cases f3 with
    |v=>exact ft w
    |o hv hm hz=>exact⟨rfl,by rw[y2 g.cL h1 f2];rfl⟩
  ·by_cases hi:i∈ks
   ·obtain⟨j,v,h1,h2,_,h3,h4⟩:=own hi w
    rw[y2 g.cL h1 h2]
    exact⟨h3,(n7 a F h4).1⟩
   ·rw[y1 hi];exact F'.adr i (old hi w)
  ·have no:∀{i j},i∈ks->j∉ks->Ow (rG c.own ks es) r' i->Ow (rG c.own ks es) r' j->rH ad (ks.zip vals) i=rH ad (ks.zip vals) j->False:=λ{i j}hi hj w1 w2 e=>by
    obtain⟨p,v,h1,h2,_,h3,h4⟩:=own hi w1
    rw[y2 g.cL h1 h2,y1 hj]at e
    exact(n7 a F h4).2 j (old hj w2) e.symm
   by_cases hi:i∈ks<;>by_cases hj:j∈ks
   ·obtain⟨p,v,h1,h2,h3,_⟩:=own hi w1
    obtain⟨q,v',f1,f2,f3,_⟩:=own hj w2
    rw[y2 g.cL h1 h2,y2 g.cL f1 f2]at e
    cases vv.inc h3 f3 h2 f2 e
    exact Option.some.inj (h1.symm.trans f1)
   ·exact(no hi hj w1 w2 e).elim
   ·exact(no hj hi w2 w1 e.symm).elim
   ·rw[y1 hi,y1 hj]at e;exact F'.gm i j (old hi w1) (old hj w2) e
section
variable{prog:gK}{w:gY}{A:aM}{E:ay->az->Prop}{s:az}
def MP{l:Addr}{items:Array ay}{k:Int}{t:Tok}{v:ay}{Q:Unit->az->Prop}(hl:s.heap.PlainList l items)
  (h0:0<=k) (B0:k<2^63) (hn:k<items.size)
  (hQ:∀h',h'.PlainList l (items.setIfInBounds k.toNat v)->tB l s.heap h'->Q () {s with heap:=h'}):
  aA (model prog w) A (J6 (.ref l) (.int k t) v) Q E s:=by
 obtain⟨ne,ho⟩:=id hl
 have hT:s.TypeIs (.ref l) "list":=⟨_,ho,rfl⟩
 unfold J6
 try with_reducible refine dN ?_
 first|refine aG (aQ ?_)|skip
 refine aG (wpAny_sequenceKey hT (by decide) ?_)
 refine aG (tC (name:=bP "__setitem__") hT anS
  (tD anS hT entry_list_setitem ?_ (args_list_setitem _ _ _)))
 show aA _ _ (av5 (.int k t)>>=_) _ _ s
 refine aG (wpAny_listSubscript_int (fitsIndex_of h0 B0) ?_)
 obtain⟨j,rfl⟩:=Ba h0
 have hj:j<items.size:=fu.mp hn
 show aA _ _ ((seqItemAt l j>>=λr=>pure (r.map (j,·)))>>=_) _ _ s
 refine aG (aG (wpAny_seqItemAt ho rfl (aQ ?_)))
 rw[oF hj]
 show aA _ _ (setSeqItemAt l j v>>=_) _ _ s
 have MQ:(s.heap.update l (lO (·.setIfInBounds j v))).PlainList l (items.setIfInBounds j v):=⟨_,IsL.update ho _⟩
 refine aG (wpAny_setSeqItemAt ho rfl ?_)
 first
  |exact aG (aQ (aQ ⟨.none,rfl,aQ (hQ _ MQ (qK ..))⟩))
  |exact aQ ⟨.none,rfl,aQ (hQ _ MQ (qK ..))⟩
end
section
variable{X:Kx}{k:Nat}{A:aM}{env:Env}{c:Sc}{aH M N:Addr->Prop}{ad:Nat->Addr}{r:aE}{s s' aP:az}{E:ay->az->Prop}{t t':T}{x:Str}{k₀:Nat}{l:List T}
def MR{o:iG}{x y z:T}{v u:ay}(h:oR o x y=ab z)(hv:VB X N s.heap x v)(hu:VB X N s.heap y u):aA (model X.prog X.w) A (inplaceOp o.py v u) (Res X N s z) E s:=by
 refine gi h λhk h=>?_
 cases x with
 |int a=>
  refine hv.eR λt=>?_
  cases o with
  |add=>exact hu.bp h λb t' e=>by cases e;exact P.iadd_int vM
  |sub=>exact hu.bp h λb t' e=>by cases e;exact P.isub_int vM
  |mul=>exact hu.bp h λb t' e=>ifs e λhz e=>by cases e;exact awf vM (mulOk_of hz)
  |shl=>exact hu.bp h λb t' e=>ifs e λhz e=>by cases e;exact awg hz.1 (dn hz.2 (by decide)) vM
  |shr=>exact hu.bp h λb t' e=>ifs e λhz e=>by cases e;exact awh hz vM
  |_=>exact ft hk
 |str x=>
  cases o with
  |add=>exact hv.c6 λt l1=>hu.cG h λy t' l2 e=>ifs e λhz e=>by cases e;exact SB.iadd (hsz:=dS hz) λt' tk=>El (by rw[sQ];exact hz)
  |_=>exact ft hk
 |_=>exact ft hk
def y3(a:At X k A env c N r s):interactive env=false:=by
 unfold interactive
 rw[a.ec.kind];rfl
structure j7(c:Sc)(x:Str)(k₀:Nat):Prop where
 hx:c.slots.lookup x=ab k₀
 ho:c.own.contains k₀=true
 hn:iV x=true
def j7.vb(o:j7 c x k₀)(a:At X k A env c N r s)(F:Fw X env c aH M N ad r s.heap)(hr:get r k₀=ab t):VB X N s.heap t (.ref (ad k₀)):=
 (a.ec.rd x k₀ t o.hx hr).elim λv z=>(z.1.uniq (F.own x k₀ t o.hx o.ho hr).2)▸(o.ho▸z.2:Vo X N s.heap true t v)
def j7.name{p:Pos}{Q:ay->az->Prop}(o:j7 c x k₀)(a:At X k A env c N r s)(F:Fw X env c aH M N ad r s.heap)(hr:get r k₀=ab t)(q:Q (.ref (ad k₀)) s):aA (model X.prog X.w) A (eval (.Name x p) env) Q E s:=
 gC a (F.own x k₀ t o.hx o.ho hr).2 (iW o.hn).1 (iW o.hn).2 q
def MS(o:j7 c x k₀)(k₁:Kp X aP s)(a:At X k A env c N r s)(F:Fw X env c aH M N ad r s.heap)(hr:get r k₀=ab t)(mv:Mv X (λb=>b=ad k₀) s s')(vb:VB X N s'.heap t' (.ref (ad k₀)))(rF:t'.obj=true):
  Left X k A env (cB c c.own) aH M N aP .next (put r k₀ t') .next s':=by
 have w:Ow c.own r k₀:=⟨o.ho,by rw[hr];rfl⟩
 have ak:=F.adr k₀ w
 have kf:∀b ob,Fr env b->s.heap.get? b=ab ob->s'.heap.get? b=ab ob:=λb ob hb e=>mv.old b ob (λq=>ak.2 (q▸hb)) (a.ec.nt hb) e
 have rd:∀y v,Rd env s.heap y v->Rd env s'.heap y v:=λy v z=>z.to λb ob hb e=>kf b ob (hb.imp id λz=>⟨y,z⟩) e
 have Fs:∀i,Ow c.own (put r k₀ t') i->Ow c.own r i:=λi h=>by
  by_cases q:i=k₀
  ·exact q▸w
  ·exact⟨h.1,l4 q▸h.2⟩
 refine Left.eq ((Mv.of k₁).trans mv λd h=>.inl (h▸ak.1)) (upd (o':=c.own) (ad':=ad) a F mv (λb e=>e▸F.mn _ ak.1) (F.cn.mv kf) (λx b e n q=>IsCell.to q λo z=>kf b o (.inr ⟨x,e⟩) z) (λy i u h1 h2=>?_) (λi h=>F.adr i (Fs i h)) λi j h1 h2=>F.gm i j (Fs i h1) (Fs j h2))
 rcases yP h2 with⟨e,e'⟩|⟨n,h2⟩
 ·subst e;subst e'
  exact .new (rd y _ (F.own y i t h1 o.ho hr).2) (by rw[o.ho];exact vb) λp=>⟨rF,rfl⟩
 ·exact .old h2 (rd y) (λh=>⟨λe=>n (F.gm i k₀ ⟨h,by rw[h2];rfl⟩ w e),rfl⟩) rfl
def B1{vs:List ay}{l':List T}{h':Heap}{tk:Nat}(o:j7 c x k₀)(k₁:Kp X aP s)(a:At X k A env c N r s)(F:Fw X env c aH M N ad r s.heap)(hr:get r k₀=ab (.lst l))(hs:tB (ad k₀) s.heap h')
  (pl:h'.PlainList (ad k₀) (oD vs)) (hz:l'.length<=lim) (hv:aL X N s.heap l' vs):Left X k A env (cB c c.own) aH M N aP .next (put r k₀ (.lst l')) .next {s with heap:=h',toks:=tk}:=by
 have mv:Mv X (λb=>b=ad k₀) s {s with heap:=h',toks:=tk}:=by
  obtain⟨b,ws,e,⟨n,rJ⟩,_⟩:=(o.vb a F hr).isList
  cases e
  exact Mv.put rJ (nJ rfl (by decide)) (λb ob hb e=>hs.extBut b ob hb e) (bO hs.1.symm)
 exact MS o k₁ a F hr mv (.lst pl hz (hv.mv a.ng mv λb e=>e▸F.mn _ (F.adr k₀ ⟨o.ho,by rw[hr];rfl⟩).1)) rfl
def Ft{u p q pos:Pos}{nm:Str}{id:String}{es:List aW}{Q:Flow->az->Prop}(o:j7 c x k₀)(a:At X k A env c N r s)(F:Fw X env c aH M N ad r s.heap)(hr:get r k₀=ab (.lst l))
  (hl:p.endLine=q.line) (hz:es.length<20) (hp:es.all notStar=true) (slot:Slot "list" nm id) (ty:typeOf (.builtin id)=pure (.type "method_descriptor"))
  (h:aA (model X.prog X.w) A (pj (mA q (jS es env))) (λvs s'=>aA (model X.prog X.w) A (call (.builtin id) (.ref (ad k₀)::vs)) (λz=>Q .next) E s') E s):
  aA (model X.prog X.w) A (bL [.Expr (.Call (.Attribute (.Name x u) nm p) es [] q) pos] env) Q E s:=by
 refine c8 (DS (vU rfl hl hz hp (o.name a F hr ?_)) (y3 a) rfl)
 obtain⟨b,vs,e,pl,_⟩:=(o.vb a F hr).isList
 cases e
 have nW:=jw env q hp
 exact DE pl.isList.typeIs T4 slot ty (λb e=>by cases e;exact pl.elim λz e=>⟨_,e,rfl⟩) (xK nW (ic nW h))
end
section
variable{c:Sc}{bg wk:Ex}{v iv:aW}{x:Str}{k₀:Nat}{u p q pos:Pos}{o:iG}
def rt(h:notStar v=true):[v].all notStar=true:=ik.mpr ⟨h,rfl⟩
def Y9(O:j7 c x k₀)(hl:p.endLine=q.line)(hn:notStar v=true)(hg:Gd bg .val c [v]):bR (.app k₀ bg) c [.Expr (.Call (.Attribute (.Name x u) (bP "append") p) [v] [] q) pos] c.own:=λ{C}{k}H A env aH M N ad r s fl r' a F e E=>by
 refine aO e λt hr ea=>eW ea λl h eb=>aO eb λy et ec=>ifs ec λhz ez=>?_
 clear e ea eb ec
 cases ez;subst h
 refine Ft O a F hr hl (by show 1<20;decide) (rt hn) anV anW ?_
 rw[j2 hn]
 refine eX (vl (hg H a et) λval aB k₁ hv=>gb ?_)
 have a1:=a.kp k₁
 obtain⟨b,vs,e,pl,iH,hs⟩:=(O.vb a1 (F.kp a k₁) hr).isList
 cases e
 refine Uk (hsz:=by rw[bU,hs.length];exact dS iH) pl λh' rq cj=>B1 O k₁ a1 (F.kp a k₁) hr cj (vs:=vs++[val]) ?_ (by rw[bQ];exact hz) (hs.app (.one hv))
 rw[<-Um];exact rq
def Fu{h:Heap}{b:Addr}{vs ws:List ay}{n:Nat}{f:Array ay->Array ay}(o:h.get? b=ab {cls:=.type "list",dict:=ae,data:=.seq vs.toArray n,slots:= #[]})(e:f vs.toArray=ws.toArray):(h.update b (lO f)).PlainList b ws.toArray:=⟨_,e▸IsL.update o f⟩
def Za(O:j7 c x k₀)(hl:p.endLine=q.line)(hn:notStar v=true)(hg:Gd bg .val c [v]):bR (.ext k₀ bg) c [.Expr (.Call (.Attribute (.Name x u) (bP "extend") p) [v] [] q) pos] c.own:=λ{C}{k}H A env aH M N ad r s fl r' a F e E=>by
 refine aO e λt hr ea=>eW ea λl h eb=>aO eb λy et ec=>eW ec λm h' ed=>ifs ed λhz ez=>?_
 clear e ea eb ec ed
 cases ez;subst h;subst h'
 refine Ft O a F hr hl (by show 1<20;decide) (rt hn) J7 anY ?_
 rw[j2 hn]
 refine eX (vl (hg H a et) λval aB k₁ hv=>gb (hv.eQ λb' ws rK z ro za=>?_))
 have a1:=a.kp k₁
 obtain⟨b,vs,e,⟨n1,o1⟩,iH,hs⟩:=(O.vb a1 (F.kp a k₁) hr).isList
 cases e
 obtain⟨n2,o2⟩:=rK
 have l1:vs.toArray.size=l.length:=(bU ..).trans hs.length
 have rp:vs.toArray.size+ws.toArray.size<=lim:=by rw[l1,show ws.toArray.size=m.length from(bU ..).trans za.length];exact hz
 have tl:¬(!vs.toArray.isEmpty&&Tv (vs.toArray.size+ws.toArray.size))=true:=λh=>by
  have h:=aq (ik.mp h).2
  exact aj (aD rp (by decide)) (xC.mpr h)
 exact sS J7 ⟨_,o1,rfl⟩ anZ (an0 _ _) (an1 _ _ n1 b' _ n2 tl (by rw[l1];exact dS iH) (vn (dS rp)))
  ⟨o1,o2,B1 O k₁ a1 (F.kp a k₁) hr (qK ..) (Fu o1 (JA ..)) (by rw[bQ];exact hz) (hs.app za)⟩
def Zb(O:j7 c x k₀)(hl:p.endLine=q.line):bR (.rev k₀) c [.Expr (.Call (.Attribute (.Name x u) (bP "reverse") p) [] [] q) pos] c.own:=λ{C}{k}H A env aH M N ad r s fl r' a F e E=>by
 refine aO e λt hr ea=>eW ea λl h ez=>?_
 clear e ea
 cases ez;subst h
 refine Ft O a F hr hl (by show 0<20;decide) rfl an2 PySem.F.type_list_reverse (gb ?_)
 obtain⟨b,vs,e,⟨n1,o1⟩,iH,hs⟩:=(O.vb a F hr).isList
 cases e
 exact sS an2 ⟨_,o1,rfl⟩ PySem.F.entry_list_reverse (PySem.F.args_list_reverse_1 _) (AutoSeq1.list_reverse_list_0 _ _ n1 (by rw[bU,hs.length];exact dS iH))
  ⟨o1,B1 O (.refl s) a F hr (qK ..) (Fu (ws:=vs.reverse) o1 (List.reverse_toArray ..)) (by rw[pn];exact iH) hs.rev⟩
def MT{X:Kx}{k:Nat}{A:aM}{env:Env}{aH M N:Addr->Prop}{ad:Nat->Addr}{r:aE}{s aP:az}{E:ay->az->Prop}{l:List T}{y:T}{val:ay}{j:Int}{w:Tok}(O:j7 c x k₀)(k₁:Kp X aP s)(a:At X k A env c N r s)(F:Fw X env c aH M N ad r s.heap)(hr:get r k₀=ab (.lst l))(hj:0<=j/\j<l.length)(hv:VR X N s.heap y val):
  aA (model X.prog X.w) A (J6 (.ref (ad k₀)) (.int j w) val) (λz=>Left X k A env (cB c c.own) aH M N aP .next (put r k₀ (.lst (l.set j.toNat y))) .next) E s:=by
 obtain⟨b,vs,e,pl,iH,hs⟩:=(O.vb a F hr).isList
 cases e
 have l1:vs.toArray.size=l.length:=(bU ..).trans hs.length
 refine MP pl hj.1 (ame hj.2 (kH iH)) (by rw[l1];exact hj.2) λh' rJ cj=>B1 O k₁ a F hr cj (vs:=vs.set j.toNat val) ?_ (by rw[J8];exact iH) (hs.set _ hv)
 rw[<-an3];exact rJ
def Zc(O:j7 c x k₀)(hp:cZ v=true)(hg:Gd bg .val c [v])(hi:Gd wk .val c [iv]):bR (.yA k₀ wk bg) c [.Assign [.Subscript (.Name x u) iv p] v pos] c.own:=λ{C}{k}H A env aH M N ad r s fl r' a F e E=>by
 refine aO e λt hr ea=>eW ea λl h eb=>aO eb λy et ec=>aO ec λti ei ed=>fb ed λj h' ee=>ifs ee λhj ez=>?_
 clear e ea eb ec ed ee
 cases ez;subst h;subst h'
 refine c8 (Ut (vl (hg H a et) λval aB k₁ hv=>?_) (mT hp))
 have a1:=a.kp k₁
 refine O.name a1 (F.kp a k₁) hr (vl (hi H a1 ei) λMU s₂ k₂ hi=>hi.eR λw=>?_)
 exact MT O (k₁.trans k₂) (a1.kp k₂) ((F.kp a k₁).kp a1 k₂) hr hj (hv.kp a1.ng k₂)
def Zd(O:j7 c x k₀)(ha:∀ov i new,augStore iv ov i new=(do JH [new,ov,i] (J6 ov i new);release [new,ov,i] [];pure .next))(hg:Gd bg .val c [v])(hi:Gd wk .val c [iv]):bR (.oQ k₀ wk o bg) c [.AugAssign (.Subscript (.Name x u) iv p) o.py v pos] c.own:=λ{C}{k}H A env aH M N ad r s fl r' a F e E=>by
 refine aO e λt hr ea=>eW ea λl h eb=>aO eb λti ei ec=>fb ec λj h' ed=>gi ed λhj ee=>aO ee λy0 Ze ef=>aO ef λy et eg=>aO eg λz0 Fv ez=>?_
 clear e ea eb ec ed ee ef eg
 cases ez;subst h;subst h'
 refine c8 (wpAny_AugAssign_Subscript_any (O.name a F hr (vl (hi H a ei) λMU aB k₁ hi=>hi.eR λw=>?_)) ha)
 have a1:=a.kp k₁
 have F1:=F.kp a k₁
 have Zf:kC (.lst l) (.int j)=ab y0:=by
  have q:f9 j l.length=ab j.toNat:=by
   unfold f9
   rw[ai (lA.mpr hj.1)]
   exact ah (ik.mpr ⟨ar hj.1,ar hj.2⟩)
  show(f9 j l.length).bind (l[·]?)=ab y0
  rw[q];exact Ze
 refine Ln Zf (O.vb a1 F1 hr) (.of (.int j w)) (λs₂ old k₂ hold=>?_) λl k d t o aZ i ho hd hs e q=>LD ho hd hs e q
 have a2:=a1.kp k₂
 refine vl (hg H a2 et) λval aX fR hv=>mo (MR Fv (.of (hold.kp a2.ng fR)) (.of hv)) λnv aS z=>?_
 exact MT O (((k₁.trans k₂).trans fR).trans z.1) ((a2.kp fR).kp z.1) (((F1.kp a1 k₂).kp a2 fR).kp (a2.kp fR) z.1) hr hj z.2
def Zg(hx:c.slots.lookup x=ab k₀)(hn:iV x=true)(ho:c.own.contains k₀=false)(hg:Gd bg .val c [v]):bR (.aug k₀ o bg) c [.AugAssign (.Name x u) o.py v pos] (d5 c.own [k₀]):=λ{C}{k}H A env aH M N ad r s fl r' a F e E=>by
 refine aO e λx0 hr ea=>aO ea λy et eb=>aO eb λz0 Fv ez=>?_
 clear e ea eb
 cases ez
 obtain⟨v0,g1,g2⟩:=a.ec.rd x k₀ x0 hx hr
 rw[ho]at g2
 have ld:∀{Q:ay->az->Prop},Q v0 s->aA (model C.X.prog C.X.w) A (loadName env x) Q E s:=λ{Q}q=>by
  rcases g1 with⟨f,m,e1,e2⟩|⟨f,b,e1,e2⟩
  ·exact TB a.ec.kind f e1 e2 q
  ·rcases f with f|f
   ·exact amj a.ec.kind f e1 e2 q
   ·exact amk a.ec.kind f e1 e2 q (iW hn).2
 refine c8 (wpAny_AugAssign_Name (ld (vl (hg H a et) λval aB k₁ hv=>mo (MR Fv (.of ((g2:VR C.X N s.heap x0 v0).kp a.ng k₁)) (.of hv)) λnv s₂ z=>?_)))
 have iZ:=k₁.trans z.1
 exact l9 false (a.kp iZ) (F.kp a iZ) hx z.2 ft λs' ad' mv a' F'=>Left.eq ((Mv.of iZ).trans mv λt=>.inl) ⟨a',F'⟩
noncomputable def zb(l:List (Str×ay))(k:Str)(v:ay):List (Str×ay):=match l with
 |[]=>[(k,v)]
 |p::r=>if p.1=k then(k,v)::r else p::zb r k v
def Zh{k:Str}{v:ay}{aZ:List (Str×ay)}:(aZ.map (·.1)).Nodup->stored aZ k v=zb aZ k v:=by
 induction aZ with
 |nil=>exactλy=>rfl
 |cons q r ih=>
  intro nd
  have cU:=g9.mp nd
  have ih:=ih cU.2
  show _=if q.1=k then(k,v)::r else q::zb r k v
  unfold stored at ih ⊢
  by_cases e:q.1=k
  ·rw[ah e,ah (by rw[DC,ar e];rfl),qB,ah e,e]
   refine af ((k,v)::·) ((tm λkv Zi=>ai λz=>cU.1 (dy.mpr ⟨kv,Zi,z.trans e.symm⟩)).trans (DJ r))
  ·rw[ai e,<-ih,DC,av e,an5]
   by_cases h:(r.any λkv=>decide (kv.1=k))=true
   ·rw[ah h,ah h,qB,ai e]
   ·rw[ai h,ai h];rfl
def Zj{k:Str}{i:Int}{t:Tok}(hk:k.length<=lim){l:List (Str×Int)}{aZ:List (Str×ay)}(h:jO DK l aZ):jO DK (dput l k i) (zb aZ k (.int i t)):=by
 induction h with
 |nil=>exact .cons ⟨rfl,hk,t,rfl⟩ .nil
 | @cons a b Ew Ey h1 h2 ih=>
  show jO _ (if a.1=k then(k,i)::Ew else a::dput Ew k i) (if b.1=k then(k,.int i t)::Ey else b::zb Ey k (.int i t))
  by_cases e:a.1=k
  ·rw[ah e,ah (h1.1.symm.trans e)]
   exact .cons ⟨rfl,hk,t,rfl⟩ h2
  ·rw[ai e,ai (λz=>e (h1.1.trans z))]
   exact .cons h1 ih
def Zk(k:Str)(i:Int){l:List (Str×Int)}:(dput l k i).length<=l.length+1:=by
 induction l with
 |nil=>exact bj _
 |cons p r ih=>
  show(if p.1=k then(k,i)::r else p::dput r k i).length<=_
  by_cases e:p.1=k
  ·rw[ah e];exact gy _
  ·rw[ai e];exact cX ih
def Zl(O:j7 c x k₀)(hp:cZ v=true)(hg:Gd bg .val c [v])(hi:Gd wk .val c [iv]):bR (.tQ k₀ wk bg) c [.Assign [.Subscript (.Name x u) iv p] v pos] c.own:=λ{C}{k}H A env aH M N ad r s fl r' a F e E=>by
 refine aO e λt hr ea=>Bz ea λl h eb=>aO eb λy et ec=>fb ec λyi hy ed=>aO ed λti ei ee=>hZ ee λkx h' ef=>ifs ef λhj ez=>?_
 clear e ea eb ec ed ee ef
 cases ez;subst h;subst h';subst hy
 refine c8 (Ut (vl (hg H a et) λval aB k₁ hv=>?_) (mT hp))
 have a1:=a.kp k₁
 refine O.name a1 (F.kp a k₁) hr (vl (hi H a1 ei) λMU s₂ k₂ hi=>hi.c6 λut z=>hv.eR λw=>?_)
 have a2:=a1.kp k₂
 have F2:=(F.kp a k₁).kp a1 k₂
 obtain⟨b,o,aZ,e1,ho,hd,iH,hq,hs⟩:∃b o aZ,ay.ref (ad k₀)=.ref b/\s₂.heap.get? b=ab o/\o.IsDictOf (strKind C.X.prog C.X.w) aZ/\l.length<=lim/\(b==qq)=false/\jO DK l aZ:=(O.vb a2 F2 hr).dict λa o aZ h1 h2 h3 h4 h5=>⟨a,o,aZ,rfl,h1,h2,h3,h4,h5⟩
 cases e1
 refine fe (wpAny_setItem_pairs (hsz:=by rw[<-hs.length];exact dS iH) (vh C.X.prog C.X.w kx ut) (sT.mpr ⟨o,ho,hd⟩) λh' oT cj zc=>?_)
 obtain⟨o2,Zm,hd2⟩:=sT.mp oT
 obtain⟨es,ep,e3,ub,_,e4,nd⟩:=hd
 rw[Zh nd]at hd2
 exact MS O (k₁.trans k₂) a2 F2 hr (Mv.put ho (oN ub rfl) (λb o hb e=>cj.extBut b o hb e) zc) (.aY Zm hd2 (aD (Zk _ _) hj.1) hq (Zj hj.2 hs)) rfl
end
section
variable{C:Cx}{k:Nat}{A:aM}{env:Env}{c:Sc}{aH M N P:Addr->Prop}{ad:Nat->Addr}{r r' fF:aE}{s s' aB s₂:az}{E:ay->az->Prop}{fl:Fl}{f:Flow}
def Left.brk(L:Left C.X k A env c aH M N s .brk r' f s'):f=.brk/\Left C.X k A env c aH M N s .next r' .next s':=by
 cases L with|mk fo mv n0 m n o=>
 exact⟨fo,.mk rfl mv n0 m n (o.elim ft .inr)⟩
def Left.ret{t:T}(L:Left C.X k A env c aH M N s (.ret t) r' f s'):∃v,f=.ret v:=by
 cases L with|mk fo mv n0 m n o=>
 exact fo.elim λv z=>⟨v,z.1⟩
def Left.cb(L:Left C.X k A env c aH M N s .next r' f s'):f=.next:=by
 cases L with|mk fo mv n0 m n o=>exact fo
def Fx(I:Prop)(R:Flow->Prop)(f:Flow):Prop:=match f with
 |.next|.cont=>I
 |.brk=>R .next
 |.ret v=>R (.ret v)
def Zn{R:oH->az->Prop}{test:aW}{body:List Stmt}(I:Nat->az->Prop) (turn:∀n s(E:ay->az->Prop),I n s->aA (model C.X.prog C.X.w) A (xG test env (eval test env)) (λb s₂=>
  if b then aA (model C.X.prog C.X.w) A (bL body env) (λf aX=>Fx (∃m,m<n/\I m aX) (λf=>R (.ok f) aX) f) E s₂ else R (.ok .next) s₂) E s) (n:Nat) (h:I n s):gN (model C.X.prog C.X.w) A (.whileLoop test body [] env) R s:=
 codeAny_whileLoop I (λn s h=>mo (turn n s _ h) λb s₂ z=>by cases b with|false=>exact aQ z|true=>exact z) n h
def MV{R:oH->az->Prop}{tg:aW}{it:ay}{body:List Stmt}(I:Nat->az->Prop) (turn:∀n s(E:ay->az->Prop),I n s->aA (model C.X.prog C.X.w) A (iQ it) (λr aB=>match r with
   |none=>R (.ok .next) aB
   |some v=>aA (model C.X.prog C.X.w) A (lB tg it v) (λy jy=>aA (model C.X.prog C.X.w) A (assign tg env v) (λy s₂=>aA (model C.X.prog C.X.w) A (bL body env) (λf aX=>Fx (∃m,m<n/\I m aX) (λf=>R (.ok f) aX) f) E s₂) E jy) E aB) E s) (n:Nat) (h:I n s):
  gN (model C.X.prog C.X.w) A (.forLoop tg it body [] env) R s:=
 codeAny_forLoop_any I (λn s h=>mo (turn n s _ h) λr s₂ z=>by cases r with|none=>exact aQ z|some v=>exact z) n h
def MW{go:aE->Option (Fl×aE)}{p:Fl×aE}{q:Fl×aE}(h:nN go p=ab q){R:Flow->Prop}{I:Prop}(L:Left C.X k A env c aH M N s p.1 p.2 f s')(hn:go p.2=ab q->Left C.X k A env c aH M N s .next p.2 .next s'->I)
  (hr:∀f',Left C.X k A env c aH M N s q.1 q.2 f' s'->R f'):Fx I R f:=by
 obtain⟨fl,r⟩:=p
 cases fl with
 |next=>cases L.cb;exact hn h L
 |brk=>cases h;cases L.brk.1;exact hr _ L.brk.2
 |ret t=>cases h;obtain⟨v,rfl⟩:=L.ret;exact hr _ L
def Turn(C:Cx)(k:Nat)(A:aM)(env:Env)(c:Sc)(tg:aW)(body:List Stmt)(f:T->aE->Option (Fl×aE)):Prop:=
 ∀{aH M N:Addr->Prop}{ad s y v r p},At C.X k A env c N r s->Fw C.X env c aH M N ad r s.heap->VR C.X N s.heap y v->f y r=ab p->∀E,
  aA (model C.X.prog C.X.w) A (assign tg env v) (λz s₂=>aA (model C.X.prog C.X.w) A (bL body env) (Left C.X k A env c aH M N s p.1 p.2) E s₂) E s
def Fi(C:Cx)(k:Nat)(A:aM)(env:Env)(c:Sc)(aH M N:Addr->Prop)(wr:List Addr)(s₂:az)(l:List T)(St:Nat->Heap->Prop)(f:T->aE->Option (Fl×aE))(p:Fl×aE)(n:Nat)(aB:az):Prop:=∃j fF,n=l.length - j/\Left C.X k A env c (λb=>aH b∨b∈wr) (λb=>M b∨b∈wr) (λb=>N b∨b∈wr) s₂ .next fF .next aB/\St j aB.heap/\j<=l.length/\b6 f (l.drop j) fF=ab p
def Fy{tg:aW}{tp:Bool}(FA:tp=true->∃es kk p,tg=.Tuple es kk p){body:List Stmt}{f:T->aE->Option (Fl×aE)}(hT:Turn C k A env c tg body f)(a:At C.X k A env c N r s)(F:Fw C.X env c aH M N ad r s.heap){l:List T}{I:Addr}{fp wr:List Addr}{St:Nat->Heap->Prop}{eH:Nat->ay->Heap->Prop}
  (it:It C.X N s₂.heap l tp I fp wr St eH) (zd:St 0 s₂.heap) (fC:Kp C.X s s₂) (fD:∀b∈wr,s.heap.objs.size<=b) (ie:∀b∈fp,b∉wr->¬N b) {p:Fl×aE} (hl:b6 f l r=ab p)
  {R:oH->az->Prop} (hR:∀fw s',Left C.X k A env c aH M N s p.1 p.2 fw s'->R (.ok fw) s'):
  gN (model C.X.prog C.X.w) A (.forLoop tg (.ref I) body [] env) R s₂:=by
 have pI:∀b,b∈wr->s.heap.objs.size<=b/\b<s₂.heap.objs.size:=λb h=>⟨fD b h,it.lt b (it.sub b h)⟩
 have a0:At C.X k A env c (λb=>N b∨b∈wr) r s₂:=a.grow fC (a.ng.more (λb h=>.inl h) a.wd fC.size λb q=>q.imp id (pI b)) λb q=>q.imp id (fD b)
 have F0:Fw C.X env c (λb=>aH b∨b∈wr) M (λb=>N b∨b∈wr) ad r s₂.heap:=(F.kp a fC).grow (λx=>id) (λb h=>.inl (F.mn b h)) (λb h q=>q.elim (F.m0 b h) λq=>bx (a.ng.lt b (F.mn b h)) (fD b q)) λb h=>h.imp (F.n0 b) id
 have out:∀{fl r' fw s'},Left C.X k A env c (λb=>aH b∨b∈wr) (λb=>M b∨b∈wr) (λb=>N b∨b∈wr) s₂ fl r' fw s'->Left C.X k A env c aH M N s fl r' fw s':=λL=>by
  cases L with|mk fo mv n0 m n o=>
  have up:∀{P:Addr->Prop}{b:Addr},(P b∨b∈wr)∨s₂.heap.objs.size<=b->P b∨s.heap.objs.size<=b:=λ{P b}h=>h.elim (λh=>h.imp id (fD b)) λq=>.inr (aD fC.size q)
  exact .mk fo ((Mv.of fC).trans mv λd q=>q.imp id (fD d)) (λb h=>n0 b (.inl h)) (λb h=>up (m b h)) (λb h=>up (n b h)) (o.imp id λo=>⟨o.1,o.2.grow (λx=>id) o.2.mn (λb h q=>o.2.m0 b h (.inl q)) λb h=>o.2.n0 b (.inl h)⟩)
 refine MV (Fi C k A env c aH M N wr s₂ l St f p) (λn aB E hI=>?_) (l.length - 0)
  ⟨0,r,rfl,.mk rfl (.refl _) F0.n0 (λb h=>.inl (.inl h)) (λx=>.inl) (.inr ⟨a0,F0⟩),zd,dP _,hl⟩
 obtain⟨j,fF,rfl,L,st,hj,j8⟩:=hI
 cases L with| @mk t8 fE uc _ mv n0 m n o=>
 obtain⟨mV,rL⟩:At C.X k A env c fE fF aB/\Fw C.X env c (λb=>aH b∨b∈wr) t8 fE uc fF aB.heap:=o.elim ft id
 have fS:∀s',Mv C.X (λb=>b∈wr) aB s'->At C.X k A env c fE fF s'/\Fw C.X env c (λb=>aH b∨b∈wr) t8 fE uc fF s'.heap:=λs' mw=>other mV rL mw (λb h=>n0 b (.inr h)) (λb hb q=>(n7 a F (fD b q)).1 hb) λb h q=>rL.m0 b h (.inr q)
 have ze:∀{s'},Mv C.X (λb=>b∈wr) aB s'->Mv C.X (λb=>M b∨b∈wr) s₂ s':=λmw=>mv.trans mw λd h=>.inl (.inr h)
 refine it.next a.ra.handled mV.ng (λb h=>n0 b (.inr h)) st hj (λb ob hb hw e=>?_) (λb h=>(n b h).elim (λq=>q.imp id .inl) λq=>.inr (.inr q)) FA (λgn s' mw=>?_) λy v s' hx mw dU hv=>?_
 ·exact hb.elim (λhb=>mv.old b ob (λq=>q.elim (λq=>hb (F.mn b q)) hw) (λz=>hb (a.ng.tb b z)) e) λc=>mv.code b ob c e
 ·subst gn
  rw[J1]at j8
  cases j8
  exact hR _ _ (out (.mk rfl (ze mw) n0 m n (.inr (fS s' mw))))
 ·obtain⟨gn,dj⟩:=BU hx
  rw[dj]at j8
  refine aO j8 λMX hf j8=>?_
  have U:=fS s' mw
  refine mo (hT U.1 U.2 hv hf _) λx aX j0=>mo j0 λfw aS L=>?_
  have FC:St (j+1) aS.heap:=by
   cases L with|mk fo n9=>
   refine it.frame _ _ _ dU λb hb ob e=>n9.old b ob (λq=>?_) (it.nt b hb) e
   by_cases hw:b∈wr
   ·exact rL.m0 b q (.inr hw)
   ·exact(m b q).elim (λq=>q.elim (λq=>ie b hb hw (F.mn b q)) hw) λq=>bx (it.lt b hb) q
  have L2:=L.trans (ze mw) (λb h=>m b h) λb h=>n b h
  exact MW j8 (R:=λf=>R (.ok f) aS) (I:=∃m,m<l.length - j/\Fi C k A env c aH M N wr s₂ l St f p m aS) L2 (λe L=>⟨_,less gn,j+1,_,rfl,L,FC,gn,e⟩) λf' L=>hR _ _ (out L)
def MY{tg x:aW}{src:Ex}{body:List Stmt}{pos:Pos}{f:T->aE->Option (Fl×aE)}(H:Ok C k)(a:At C.X k A env c N r s)(F:Fw C.X env c aH M N ad r s.heap)(hT:Turn C k A env c tg body f)(hs:gj x=true)(hg:Gd src .ia c [x]){p:Fl×aE}
  (e:((ev C.F src r).bind λx=>(eZ x).bind λl=>b6 f l r)=ab p):aA (model C.X.prog C.X.w) A (bL [.For tg x body [] pos] env) (Left C.X k A env c aH M N s p.1 p.2) E s:=by
 refine aO e λtx et e=>aO e λl el e=>?_
 refine c8 (J9 (mo (hg H a et l el E) λxv aB bJ=>?_) (vY hs env))
 obtain⟨own,ho,k₁,hi⟩:=bJ
 cases ho rfl
 refine mo (hi A E a.ra.handled) λt6 s₂ h₂=>?_
 obtain⟨fC,I,fp,wr,St,eH,rfl,it,st,fD,ie⟩:=h₂
 exact Fy (λq=>ft q) hT a F it st fC fD (λb hb hw=>(ie b hb hw).elim id λq=>aN q) e λfw s' L=>L
end
def MZ{o ks:List Nat}(h:ks.all (λi=>!o.contains i)=true):d5 o ks=o:=by
 unfold d5
 refine Uu.mpr λi hi=>?_
 rw[DN]
 refine qA.mpr λq=>?_
 have:=bA.mp h i (jo.mp q)
 rw[jo.mpr hi]at this
 exact ft this
section
variable{c:Sc}{t src:Ex}{v tg wm:aW}{x:Str}{k₀ kk n:Nat}{p tp pos:Pos}{jA:S}{body:List Stmt}{ks:List Nat}
def M0{C:Cx}{k:Nat}{A:aM}{env:Env}(H:Ok C k)(hh:A.handled=ae){ps:List (Str×Pos)}(g:jz c ps ks)(ho:ks.all (λi=>!c.own.contains i)=true)(hb:bR jA c body c.own):
  Turn C k A env c (.Tuple (ps.map λp=>.Name p.1 p.2) kk tp) body (λy r=>(bH (putAll r ks) y).bind (ex C.F jA)):=λ{aH M N ad s y v r p}a F hv hf E=>by
 obtain⟨fl,r'⟩:=p
 refine aO hf λr2 hp Zo=>kJ hp λys q pN=>?_
 subst q
 refine hv.eY λtv vs yZ hN hz j6=>?_
 refine BR (X:=C.X) (own:=ow c.slots) (g.hl.trans ((BP pN).trans j6.length.symm)) (vX hh F.cn yZ.isTup) g.own g.nd λs' S=>?_
 have U:=yW a F g.hs g.hl g.cL pN S j6
 rw[MZ ho]at U
 exact mo (hb H U.1 U.2 Zo E) λfw aX L=>L.trans S.m (λz=>.inl) λz=>.inl
def Zp(hx:c.slots.lookup x=ab k₀)(ho:c.own.contains k₀=false)(hs:gj wm=true)(hg:Gd src .ia c [wm])(hb:bR jA c body c.own):bR (.eV k₀ src jA) c [.For (.Name x p) wm body [] pos] c.own:=λ{C}{k}H A env aH M N ad r s fl r' a F e E=>
 MY H a F (λ{aH M N ad s y v r p}a F hv hf E=>tu (l9 false a F hx hv ft λs' ad' mv a' F'=>by
  rw[show j4 false c.own k₀=c.own from MZ (by show(!c.own.contains k₀&&true)=true;rw[ho];rfl)]at a' F'
  exact mo (hb H a' F' hf E) λfw aX L=>L.trans mv (λz=>.inl) λz=>.inl)) hs hg e
def Zq{ps:List (Str×Pos)}(g:jz c ps ks)(ho:ks.all (λi=>!c.own.contains i)=true)(hs:gj wm=true)(hg:Gd src .ia c [wm])(hb:bR jA c body c.own):bR (.hY ks src jA) c [.For (.Tuple (ps.map λp=>.Name p.1 p.2) kk tp) wm body [] pos] c.own:=λ{C}{k}H A env aH M N ad r s fl r' a F e E=>
 MY H a F (M0 H a.ra.handled g ho hb) hs hg e
def Wi(C:Cx)(k:Nat)(A:aM)(env:Env)(c:Sc)(aH M N:Addr->Prop)(s:az)(t:Ex)(jA:S)(p:Fl×aE)(m:Nat)(aB:az):Prop:=∃fF,Left C.X k A env c aH M N s .next fF .next aB/\nO (a9 C.F t) (ex C.F jA) m fF=ab p
def Zr(ht:Gd t .a9 c [v])(hb:bR jA c body c.own):bR (.wh n t jA) c [.While v body [] pos] c.own:=λ{C}{k}H A env aH M N ad r s fl r' a F e E=>by
 refine c8 (wpAny_While (Zn (Wi C k A env c aH M N s t jA (fl,r')) (λm aB E hI=>?_) n ⟨r,Left.eq (.refl s) ⟨a,F⟩,e⟩))
 obtain⟨fF,L,hl⟩:=hI
 cases L with| @mk t8 fE uc _ mv n0 m' n' o=>
 obtain⟨mV,rL⟩:At C.X k A env c fE fF aB/\Fw C.X env c aH t8 fE uc fF aB.heap:=o.elim ft id
 cases m with
 |zero=>exact aN hl
 |succ m=>
  refine aO hl λb e1 hl=>aO e1 λtt et e1=>ifs e1 λhp e1=>?_
  refine mo (ht H mV et hp _) λb' s₂ z=>?_
  have n9:=mv.trans (Mv.of (M:=M) z.2) λd h=>.inl h
  rw[z.1,e1]
  cases b with
  |false=>cases hl;exact(Left.nx n9 m' n' ⟨mV.kp z.2,rL.kp mV z.2⟩)
  |true=>
   refine aO (show((ex C.F jA fF).bind _)=ab (fl,r')from hl) λp hf hl=>?_
   exact mo (hb H (mV.kp z.2) (rL.kp mV z.2) hf _) λfw aX L=>MW hl (R:=λf=>Left C.X k A env c aH M N s fl r' f aX) (I:=∃m',m'<m+1/\Wi C k A env c aH M N s t jA (fl,r') m' aX) (L.trans n9 m' n') (λe L=>⟨m,il _,_,L,e⟩) λf' L=>L
end
end Mine
section
open AutoSeq1 (wpAny_loadPart')
namespace Mine
def Zs{α:Type}{M:mz}{A:aM}{b:α}{Q:α->az->Prop}{E:ay->az->Prop}{s:az}(h:∀b,Q b s):aA M A (pure b) Q E s:=aQ (h b)
def Zt(l:Addr)(items:Array ay)(n:Nat):
  DB (eN.«enumerate.__new__» ⟨[.type "enumerate",.ref l],[]⟩) (λz R s=>s.heap.get? l=ab {cls:=.type "tuple",data:=.seq items n}/\
   R (.ok (.ret (.ref (s.heap.push {cls:=.type "tuple_iterator",data:=.fields #[.ref l,.int 0 0]}).objs.size)))
    {s with heap:=(s.heap.push {cls:=.type "tuple_iterator",data:=.fields #[.ref l,.int 0 0]}).push {cls:=.type "enumerate",data:=.fields #[.none,.bool false,.ref s.heap.objs.size,jR 0,.none,.none]}}):=
 .of_wp λprog w A R s h=>by
  obtain⟨hp,g,d,tk,os⟩:=s;obtain⟨hl,h⟩:=h
  have tW:=sub_enumerate
  have hL:Heap.IsTuple (Ka ⟨hp,g,d,tk,os⟩) l items:=⟨_,hl,rfl,n,rfl⟩
  wp_walk using AY hl
  refine wpAny_stack_any λst=>Zs λb=>?_
  cases b
  ·wp_walk using AY hl,an6 hL
   exact⟨_,rfl,h⟩
  ·wp_walk using AY hl,an6 hL
   exact⟨_,rfl,h⟩
section
variable{prog:gK}{w:gY}{A:aM}{E:ay->az->Prop}{s:az}
def Zu{l:Addr}{items:Array ay}{Q:ay->az->Prop}(hL:jX s.heap l items)
  (h:∀h',Kb h' (s.heap.objs.size+1) s.heap.objs.size 0 .none->h'.IsTupleIter s.heap.objs.size l 0->h'.objs.size=s.heap.objs.size+2->
   (∀b o,s.heap.get? b=ab o->h'.get? b=ab o)->Q (.ref (s.heap.objs.size+1)) {s with heap:=h'}):
  aA (model prog w) A (call (.type "enumerate") [.ref l]) Q E s:=by
 obtain⟨n,hl⟩:=hL
 refine JO F.called_enumerate (by decide) (F.typeCall_enumerate_1 _) (F.newCall_enumerate_1 _) (λobj=>F.args_object_init_2 obj _) F.entry_enumerate_new
  (Zt l items n) ⟨hl,?_⟩
 have hz:(s.heap.push {cls:=.type "tuple_iterator",data:=.fields #[.ref l,.int 0 0]}).objs.size=s.heap.objs.size+1:=fh ..
 show _/\_
 rw[hz]
 have he:Kb ((s.heap.push {cls:=.type "tuple_iterator",data:=.fields #[.ref l,.int 0 0]}).push
   {cls:=.type "enumerate",data:=.fields #[.none,.bool false,.ref s.heap.objs.size,jR 0,.none,.none]}) (s.heap.objs.size+1) s.heap.objs.size 0 .none:=by
  have:=cD (s.heap.push {cls:=.type "tuple_iterator",data:=.fields #[.ref l,.int 0 0]})
   (o:={cls:=.type "enumerate",data:=.fields #[.none,.bool false,.ref s.heap.objs.size,jR 0,.none,.none]}) rfl
  rw[hz]at this;exact this
 refine⟨⟨_,he,rfl⟩,h _ he ⟨_,cS _ (cD _ rfl),rfl,rfl⟩ (by rw[fh,hz]) λb o x=>cS _ (cS _ x)⟩
def Zv{it l:Addr}{i:Nat}{items}{x:ay}{Q:ay->az->Prop}(hit:s.heap.IsTupleIter it l i)
  (hl:s.heap.IsTuple l items) (hx:items[i]?=ab x)
  (hQ:∀h',h'.IsTupleIter it l (i+1)->tB it s.heap h'->Q x {s with heap:=h'}):
  aA (model prog w) A (Kc (.ref it)) Q E s:=by
 obtain⟨o,ho,hc,hd⟩:=id hit
 obtain⟨ol,ud,_,nl,gD⟩:=hl
 unfold Kc
 refine aG (tC (name:=bP "__next__") hit.typeIs Ke
  (tD Ke hit.typeIs an7 ?_ (an8 _)))
 show aA _ _ (oI (.ref it) 0>>=_) _ _ s
 refine aG (lP ho hd (x:=.ref l) rfl ?_)
 show aA _ _ (if(ay.ref l==ay.none)=true then _ else _) _ _ s
 rw[ai (show¬((ay.ref l==ay.none)=true)from bT)]
 show aA _ _ (oI (.ref it) 1>>=_) _ _ s
 refine aG (lP ho hd (x:=.int i 0) rfl ?_)
 show aA _ _ (Kf (.ref l)>>=_) _ _ s
 refine aG (xV ud gD ?_)
 simp only[jT,hx]
 refine aG (Kg ho hd (by simp) (aQ ⟨x,rfl,aQ (hQ _ ?_ (qK ..))⟩))
 exact⟨_,xW _ ho (an9 (Kh hd _)),(aoa ..).trans hc,by
  rw[Kh hd];simp [jR]⟩
def Zw{it l:Addr}{i:Nat}{items}{Q:ay->az->Prop}(hh:A.handled=ae)
  (hit:s.heap.IsTupleIter it l i) (hl:s.heap.IsTuple l items) (hx:items[i]?=ae)
  (hE:∀h' e,Ki it s.heap h'->(∃o,h'.get? e=ab o/\o.cls=.type "StopIteration")->E (.ref e) {s with heap:=h'}):
  aA (model prog w) A (Kc (.ref it)) Q E s:=by
 obtain⟨o,ho,hc,hd⟩:=id hit
 obtain⟨ol,ud,_,nl,gD⟩:=hl
 unfold Kc
 refine aG (tC (name:=bP "__next__") hit.typeIs Ke
  (tD Ke hit.typeIs an7 ?_ (an8 _)))
 show aA _ _ (oI (.ref it) 0>>=_) _ _ s
 refine aG (lP ho hd (x:=.ref l) rfl ?_)
 show aA _ _ (if(ay.ref l==ay.none)=true then _ else _) _ _ s
 rw[ai (show¬((ay.ref l==ay.none)=true)from bT)]
 show aA _ _ (oI (.ref it) 1>>=_) _ _ s
 refine aG (lP ho hd (x:=.int i 0) rfl ?_)
 show aA _ _ (Kf (.ref l)>>=_) _ _ s
 refine aG (xV ud gD ?_)
 simp only[jT,hx]
 refine aG (DH (aG (Kg ho hd (by simp) ?_)))
 show aA _ _ (Kj (.type "StopIteration") []>>=_) _ _ _
 refine aG ?_
 simp only[Kj,newTuple]
 refine aG (sY ?_ (by size_fits))
 refine aG (m:=Kk _ _) (A0 (a:=ay.none) (by first|rfl|(simp only[Kk];rfl)) ?_)
 refine sY ?_ (by size_fits)
 refine aG (wpAny_handled ?_)
 first|rw[show A.in1.handled=ae from hh]|rw[hh]
 refine aG (aQ (wpAny_throw ?_))
 exact hE _ _ (((qK ..).extBut.push _).push _) ⟨_,cD _ rfl,rfl⟩
end
def Zx{prog:gK}{w:gY}{A:aM}(hh:A.handled=ae)(it l:Addr)(iX:l≠it)(items:Array ay):
  Draws prog w A it [it,l] items.size (λi v=>items[i]?=ab v) (λi h=>h.IsTupleIter it l i/\h.IsTuple l items) where
 live:=λy y st=>st.1.elim λo z=>⟨o,z.1⟩
 frame:=λy y y st hk=>⟨st.1.elim λo z=>⟨o,hk it bk o z.1,z.2⟩,st.2.elim λo z=>⟨o,hk l (bS _ bk) o z.1,z.2⟩⟩
 item:=λi s Q E hi st hQ=>Zv st.1 st.2 (oF hi) λh' rM cj=>hQ _ h' s.toks (oF hi) ⟨rM,st.2.extBut cj.extBut iX⟩ cj
 done:=λs Q E st hE=>Zw hh st.1 st.2 (Uw (bj _)) hE
def M1(l:List T):(lX l).length=l.length:=by unfold lX;rw[bK,aoe,kr,Nat.min_self]
def Zy{l:List T}{i:Nat}{t:T}(h:(lX l)[i]?=ab t):∃y,l[i]?=ab y/\t=.tup [.int (i:Nat),y]:=by
 unfold lX at h
 rw[gL]at h
 refine map_some h λp e e'=>?_
 have e:=qI.mp e
 refine⟨p.1,e.1,?_⟩
 rw[<-e',<-(iR.mp e.2).2,T9]
def Zz{A₀:aM}(vO:A₀.handled=ae){X:Kx}{N:Addr->Prop}{h₀ h₂:Heap}{l:List T}{vs:List ay}{e it:Addr}{fp:List Addr}{St:Nat->Heap->Prop}
  (D:∀A:aM,A.handled=ae->Draws X.prog X.w A.in1 it fp vs.toArray.size (λi v=>vs.toArray[i]?=ab v) St) (M3:e≠it) (FD:e∉fp) (ZA:it∈fp)
  (lt:∀b∈e::fp,b<h₂.objs.size) (nt:∀b∈e::fp,b∉aV) (z:l.length<=lim) (hs:aL X N h₀ l vs) (hk:∀b o,h₀.get? b=ab o->h₂.get? b=ab o) (hz:h₀.objs.size<=h₂.objs.size)
  (hw:∀b∈[e,it],h₀.objs.size<=b) (cl:∀i h,St i h->∃o,h.get? it=ab o/\¬iB o):
  It X N h₂ (lX l) true e (e::fp) [e,it] (λi h=>(∃old,Kb h e it i old)/\St i h)
   (λi v h=>∃T,v=.ref T/\(∃x,IsEnumOut h e it ((i:Int)+1) x T)/\St (i+1) h/\T≠e/\T≠it):=by
 have len:vs.toArray.size=(lX l).length:=by rw[M1,bU,hs.length]
 have W:∀A:aM,A.handled=ae->_:=λA hA=>WalksT.enumerateD (prog:=X.prog) (w:=X.w) (A:=A) (D A hA) e M3 FD ZA
 have M4:∀(h:Heap)b(o:Obj),h.get? b=ab o->o.cls=.type "enumerate"->∃o,h.get? b=ab o/\¬iB o:=λh b o eo ec=>⟨o,eo,nJ ec (by decide)⟩
 refine⟨(W A₀ vO).sub,lt,nt,by rw[M1];exact z,(W A₀ vO).frame,λi h st b hb=>?_,λi v h m b hb=>?_,λA hA i t s N' Q E ht st keep hN dp hQ=>?_,λA i v target s Q E ZC m hQ=>?_,λA hA s Q E st hQ=>?_,λA s Q E st hQ=>?_⟩
 ·rcases br.mp hb with rfl|hb
  ·obtain⟨old,he⟩:=st.1;exact M4 _ _ _ he rfl
  ·rw[b4.mp hb];exact cl i h st.2
 ·obtain⟨T,rfl,⟨x,ho⟩,fG,_⟩:=m
  rcases br.mp hb with rfl|hb
  ·exact M4 _ _ _ ho rfl
  ·rw[b4.mp hb];exact cl _ h fG
 ·obtain⟨y,e1,rfl⟩:=Zy ht
  obtain⟨⟨old,he⟩,fG⟩:=st
  have hi:i<vs.toArray.size:=by rw[len];exact(iR.mp ht).1
  refine wpAny_pyNext_enum_itemD (D A hA) he fG hi M3 FD λx h' tk hP ho cj hT hsz EL=>?_
  have ZD:e<s.heap.objs.size:=xx he
  have ZE:it<s.heap.objs.size:=by obtain⟨_,q⟩:=(D A hA).live _ _ fG;exact xx q
  obtain⟨v,e2,e3⟩:=hs.get e1
  have ZF:vs[i]?=ab x:=by simpa using hP
  rw[ZF]at e2;cases e2
  have ext:∀b o,b∉[e,it]->s.heap.get? b=ab o->h'.get? b=ab o:=λb o hb q=>EL b o (λz=>hb (by simp [z])) (λz=>hb (by simp [z])) q
  refine hQ _ h' (tk+1) ⟨_,rfl,⟨x,ho⟩,cj,iS ZD,iS ZE⟩ ?_ ext
  refine .tup (vs:=[.int i tk,x]) ⟨0,hT⟩ (λq=>fN _ (dp _ q)) (show 2<=65536 by decide) (.cons (.int _ _) (.cons ?_ .nil))
  refine e3.move (λb q=>(hN b q).imp id λq=>q.elim (hw b) (aD hz)) λb o hb q=>?_
  have M5:b∉[e,it]:=λz=>fN _ (bG (bw q) (hw b z))
  exact ext b o M5 (keep b o hb M5 (hk b o q))
 ·obtain⟨T,rfl,m⟩:=m
  obtain⟨es,kk,p,rfl⟩:=ZC rfl
  intro Γ p' EE
  have hq:∀h',_->_->Q () {s with heap:=h'}:=λh' a b=>hQ h' s.toks a b
  obtain⟨⟨x,ho⟩,fG,hTe,hTi⟩:=m
  refine wpAny_letOwnedTupleGo_enum ho (λh' ZG cj=>hq h' ⟨⟨x,by simpa using ZG⟩,(D A₀ vO).frame _ _ _ fG λb hb o y=>(cj.2 b λq=>FD (q▸hb)).trans y⟩ λb o hb y=>?_) Γ p' EE
  exact(cj.2 b λe'=>hb (by simp [e'])).trans y
 ·rw[<-len]at st
  exact(W A hA).done s Q E st hQ
 ·obtain⟨⟨old,he⟩,_⟩:=st
  exact wpAny_pyIter_enum he hQ
section
variable{X:Kx}{A:aM}{N:Addr->Prop}{s:az}{E:ay->az->Prop}
def FE{a b c d:Addr}{P:Addr->Prop}(h:b∈[a,c,d])(k:P a)(k':P c)(ZH:P d):P b:=by
 rcases br.mp h with rfl|h
 ·exact k
 ·exact vP h k' ZH
def M6(X:Kx)(N:Addr->Prop)(s:az)(l:List T)(u:ay)(s':az):Prop:=∃I fp wr St eH,u=.ref I/\Kp X s s'/\It X N s'.heap (lX l) true I fp wr St eH/\St 0 s'.heap/\(∀b∈wr,s.heap.objs.size<=b)/\(∀b∈fp,b∉wr->¬N b)
def M7(hh:A.handled=ae)(n:NG X N s.heap){l:List T}{vs:List ay}{a D:Addr}(hD:D=s.heap.objs.size)(lx:a<D)(hN:¬N a)(hz:l.length<=lim)(hs:aL X N s.heap l vs){St:Nat->Heap->Prop}
  (Dr:∀A:aM,A.handled=ae->Draws X.prog X.w A.in1 D [D,a] vs.toArray.size (λi v=>vs.toArray[i]?=ab v) St) (cl:∀i h,St i h->∃o T,h.get? D=ab o/\o.cls=.type T/\T≠"code"/\T≠"module") {h':Heap} (he:Kb h' (D+1) D 0 .none) (st:St 0 h') (hsz:h'.objs.size=D+2)
  (hk:∀b o,s.heap.get? b=ab o->h'.get? b=ab o):M6 X N s l (.ref (D+1)) {s with heap:=h'}:=by
 subst hD
 have kp:Kp X s {s with heap:=h'}:=Kp.of hk (by rw[hsz];exact bX _ _)
 have tb:∀{b},s.heap.objs.size<=b->b∉aV:=λ{b}hb q=>bx (n.lt b (n.tb b q)) hb
 have w:∀b∈[s.heap.objs.size+1,s.heap.objs.size],s.heap.objs.size<=b:=λb hb=>vP (P:=λb=>s.heap.objs.size<=b) hb (gy _) (bj _)
 refine⟨_,_,_,_,_,rfl,kp,Zz hh (h₂:=h') Dr (xR _) (λq=>?_) bk (λb hb=>?_) (λb hb=>?_) hz hs hk kp.size w λi h st=>?_,⟨⟨_,he⟩,st⟩,w,λb hb hw=>?_⟩
 ·exact vP (P:=λb=>b=s.heap.objs.size+1->False) q (λe=>xR _ e.symm) (λe=>fN _ (qt (il _) (e▸lx))) rfl
 ·rw[hsz]
  exact FE (P:=λb=>b<s.heap.objs.size+2) hb (il _) (vp (il _)) (vp (vp lx))
 ·exact FE (P:=λb=>b∉aV) hb (tb (gy _)) (tb (bj _)) λq=>hN (n.tb _ q)
 ·obtain⟨o,T,e,c,n1⟩:=cl i h st
  exact⟨o,e,nJ c n1⟩
 ·exact FE (P:=λb=>b∉[s.heap.objs.size+1,s.heap.objs.size]->¬N b) hb (λq=>aj bk q) (λq=>aj (bS _ bk) q) (λz=>hN) hw
def ZI(hh:A.handled=ae)(n:NG X N s.heap){t:T}{l:List T}{v:ay}(ht:qU t=ab l)(hv:VR X N s.heap t v):aA (model X.prog X.w) A (call (.type "enumerate") [v]) (M6 X N s l) E s:=by
 cases t with
 |lst=>
  cases ht
  refine hv.eQ λa vs ho hN hz hs=>?_
  have lx:a<s.heap.objs.size:=ho.elim λy e=>bw e
  exact call_enumerate_list ho.isList λh' he hi hsz hk=>M7 hh n rfl lx hN hz hs (St:=λi h=>h.IsListIter s.heap.objs.size a i/\h.IsList a vs.toArray) (λA hA=>Draws.list (prog:=X.prog) (w:=X.w) (A:=A.in1) (show A.in1.handled=ae from hA) s.heap.objs.size a (cW lx) vs.toArray)
   (λi h st=>st.1.elim λo z=>⟨o,_,z.1,z.2.1,by decide⟩) he ⟨hi,ho.isList.at λo e=>hk _ _ e⟩ hsz hk
 |tup=>
  cases ht
  refine hv.eY λa vs ho hN hz hs=>?_
  have lx:a<s.heap.objs.size:=ho.elim λy e=>bw e
  exact Zu ho λh' he hi hsz hk=>M7 hh n rfl lx hN hz hs (St:=λi h=>h.IsTupleIter s.heap.objs.size a i/\h.IsTuple a vs.toArray) (λA hA=>Zx (prog:=X.prog) (w:=X.w) (A:=A.in1) (show A.in1.handled=ae from hA) s.heap.objs.size a (cW lx) vs.toArray)
   (λi h st=>st.1.elim λo z=>⟨o,_,z.1,z.2.1,by decide⟩) he ⟨hi,ho.elim λk e=>⟨_,hk _ _ e,rfl,k,rfl⟩⟩ hsz hk
 |_=>exact aN ht
end
section
variable{c:Sc}{src:Ex}{bg:aW}{x:Str}{kk:Nat}{xp cp tp pos:Pos}{jA:S}{body:List Stmt}{ks:List Nat}
def ZJ{ps:List (Str×Pos)}(g:jz c ps ks)(ho:ks.all (λi=>!c.own.contains i)=true)(hg:ri c x (s_ "enumerate") (.type "enumerate"))(hn:notStar bg=true)(h1:Gd src .val c [bg])(hb:bR jA c body c.own):
  bR (.lU ks src jA) c [.For (.Tuple (ps.map λp=>.Name p.1 p.2) kk tp) (.Call (.Name x xp) [bg] [] cp) body [] pos] c.own:=λ{C}{k}H A env aH M N ad r s fl r' a F e E=>by
 refine aO e λt et e=>aO e λl ht e=>?_
 refine c8 (J9 (jx (jv a hg.2.1 hg.2.2.2 (iW hg.2.2.1).1 ?_)) (vY rfl env))
 rw[j2 hn]
 refine qE rfl (AX (eX (vl (h1 H a et) λv aB k₁ hv=>gb (mo (ZI a.ra.handled (a.kp k₁).ng ht hv) λu s₂ z=>?_))))
 obtain⟨I,fp,wr,St,eH,rfl,k₂,it,st,fD,ie⟩:=z
 exact it.self A s₂ _ E st (Fy (λq=>⟨_,_,_,rfl⟩) (M0 H a.ra.handled g ho hb) a F it st (k₁.trans k₂) (λb hb=>aD k₁.size (fD b hb)) ie e λfw s' L=>L)
end
end Mine
end
namespace Mine
section
variable{prog:gK}{w:gY}{A:aM}{E:ay->az->Prop}
def ZK{it l:Addr}(hh:A.handled=ae)(iX:l≠it){items:Array ay}{n:Nat}:∀{i:Nat}{s:az}{Q:List ay->az->Prop},s.heap.IsListIter it l i->s.heap.IsList l items->i+n<=items.size->
  (∀h' tk,h'.IsListIter it l (i+n)->h'.IsList l items->(∀b o,b≠it->s.heap.get? b=ab o->h'.get? b=ab o)->Q ((items.toList.drop i).take n) {s with heap:=h',toks:=tk})->aA (model prog w) A (draw (.ref it) n) Q E s:=by
 induction n with
 |zero=>exactλ{i s Q}hit hl z hQ=>aQ (hQ s.heap s.toks hit hl λz z z e=>e)
 |succ n ih=>
  intro i s Q hit hl hle hQ
  have dp:i<items.size:=bG (vx (eP n)) hle
  refine aG ((Dw (prog:=prog) (w:=w) (A:=A) hh it l iX items).item i s _ _ dp ⟨hit,hl⟩ λv bJ tk hP st kk=>?_)
  refine aG (dN (ih (s:={s with heap:=bJ,toks:=tk}) st.1 st.2 (by rw[Ux];exact hle) λh₂ rN M8 ZL k₂=>aQ ?_))
  have hd:items.toList.drop i=v::items.toList.drop (i+1):=(BU (by rw[xF];exact hP)).2
  have:=hQ h₂ rN (by rw[Ux]at M8;exact M8) ZL λb o hb e=>k₂ b o hb (kk b o (λq=>hb (b4.mp q)) e)
  rw[hd,List.take_succ_cons]at this
  exact this
def ZM{s:az}{l:Addr}{items:Array ay}{Q:List ay->az->Prop}(hh:A.handled=ae)(hl:s.heap.IsList l items)
  (hQ:∀h' tk,(∀b o,s.heap.get? b=ab o->h'.get? b=ab o)->s.heap.objs.size<=h'.objs.size->Q items.toList {s with heap:=h',toks:=tk}):aA (model prog w) A (xQ (.ref l) items.size ae) Q E s:=by
 have dp:l≠s.heap.objs.size:=by obtain⟨o,ho,_⟩:=hl;exact cW (xx ho)
 have main:aA (model prog w) A (xQ (.ref l) items.size ae) (λv s'=>s.heap.objs.size<=s'.heap.objs.size->Q v s') E s:=by
  unfold xQ
  refine aG ?_
  ·unfold notIterableAtAll
   refine aG (JL hl.typeIs slot_list_iter.lookup ?_)
   refine aQ ?_
   rw[ai bT]
   refine aG (dN (AS hl ?_))
   have ZN:(s.heap.push {cls:=.type "list_iterator",data:=.fields #[.ref l,.int 0 0]}).IsListIter s.heap.objs.size l 0:=⟨_,cD _ rfl,rfl,rfl⟩
   refine aG (dN (ZK hh dp (n:=items.size) ZN (hl.push _) (by rw[jU];exact bj _) λbJ aqe M9 j8 k₁=>?_))
   rw[aof,List.take_of_length_le (bO (vg ..)),ai (by rw[vg];exact fN _)]
   rw[jU]at M9
   refine aG (dN ((Dw (prog:=prog) (w:=w) (A:=A) hh s.heap.objs.size l dp items).done _ _ _ ⟨M9,j8⟩ λh₂ rN k₂=>?_))
   refine aQ (λhz=>hQ h₂ rN (λb o e=>?_) hz)
   have hb:b≠s.heap.objs.size:=cW (bw e)
   exact k₂ b o (λq=>hb (b4.mp q)) (k₁ b o hb (cS _ e))
 exact fe main
end
def ZO{α β:Type}{f:α->Option β}{l:List α}(h:∃e∈l,f e=ae):(l.filterMap f).length<l.length:=by
 induction l with
 |nil=>exact h.elim λe z=>(gM z.1).elim
 |cons a l ih=>
  rw[JW]
  cases q:f a with
  |none=>exact A7 (anN f l)
  |some b=>
   obtain⟨e,h1,h2⟩:=h
   exact aog (ih ⟨e,(br.mp h1).resolve_left λz=>aN ((z▸h2).symm.trans q),h2⟩)
def ZP{e:aW}(h:t9 e=true):∃es k p,e=.Tuple es k p:=
 Expr.Tuple.elim (motive_1:=λe=>e.ctorIdx=25->∃es k p,e=.Tuple es k p) e (ao h) (λes k p z=>⟨es,k,p,rfl⟩) (ao h)
def ZQ{es vs:List aW}{j i:Nat}{tp q:Pos}{env:Env}(h:es.any t9=true):A9 [.Tuple es j tp] (.Tuple vs i q) env=pure ae:=by
 unfold A9
 dsimp only
 split
 ·rfl
 ·split
  ·rfl
  ·split
   ·rfl
   ·rename_i hl
    obtain⟨e,h1,h2⟩:=xw.mp h
    have:=bne_eq_false_iff_eq.mp (sR.mp (JV _▸hl)).1
    refine aj this (cW (ZO ⟨e,h1,?_⟩))
    obtain⟨_,_,_,rfl⟩:=ZP h2
    rfl
inductive NT:List aW->List Tg->List (Str×Pos)->Prop
 |nil:NT [] [] []
 |one {x p k es ts ps} (r:NT es ts ps):NT (.Name x p::es) (.one k::ts) ((x,p)::ps)
 |many {qs kk pp ks es ts ps} (hq:qs.length=ks.length) (r:NT es ts ps):NT (.Tuple (qs.map λq=>.Name q.1 q.2) kk pp::es) (.many ks::ts) (qs++ps)
section
variable{X:Kx}{k:Nat}{A:aM}{env:Env}{own:Str->Prop}{N M:Addr->Prop}{s aP:az}{E:ay->az->Prop}{es:List aW}{ts:List Tg}{ps:List (Str×Pos)}{t:T}{ys:List T}{v:ay}
def NT.each(h:NT es ts ps):assignEach es env=es.map λe=>(false,assign e env):=by
 induction h with
 |nil=>rfl
 |one r ih=>exact af (_::·) ih
 |many hq r ih=>exact af (_::·) ih
def ZR(ap:Apart s.heap)(l6:∀a,M a->N a)(ht:qU t=ab ys)(hv:VR X N s.heap t v):∃a vs,v=.ref a/\aL X N s.heap ys vs/\∀{s'},Mv X M s s'->A.handled=ae->cJ X env M own s'.heap->aA (model X.prog X.w) A (xQ (.ref a) vs.length ae) (λws ck=>ws=vs/\fB X env M own [] s' ck) E s':=by
 cases t with
 |lst=>
  cases ht
  refine hv.eQ λa vs ho hN hz hs=>⟨a,vs,rfl,hs,λ{s'}mv hh F=>?_⟩
  have e:vs.toArray.size=vs.length:=bU ..
  rw[<-e]
  exact ZM hh (ho.at λo e=>mv.old _ _ (λq=>hN (l6 _ q)) (ho.elim λn e=>mJ ap e rfl) e).isList λh' tk kk z=>⟨rfl,fB.keep F kk z⟩
 |tup=>
  cases ht
  exact hv.eY λa vs ho hN hz hs=>⟨a,vs,rfl,hs,λ{s'}mv hh F=>vX hh F (jX.isTup (ho.elim λn e=>⟨n,mv.old _ _ (λq=>hN (l6 _ q)) (mJ ap e rfl) e⟩))⟩
 |_=>exact aN ht
def Nc{l:List (Str×Pos)}{vs:List ay}{x:Str}(h:x∈(l.zip vs).map (·.1.1)):x∈l.map (·.1):=by
 obtain⟨e,he,e'⟩:=dy.mp h
 exact dy.mpr ⟨e.1,(tw he).1,e'⟩
def ZS(hh:A.handled=ae)(l6:∀a,M a->N a)(ap:Apart aP.heap)(h:NT es ts ps):∀{xs vs flat},aL X N aP.heap xs vs->qZ ts xs=ab flat->(∀p∈ps,own p.1)->(ps.map (·.1)).Nodup->
  ∃ue,aL X N aP.heap flat ue/\es.length=vs.length/\∀{s:az}{Q:Unit->az->Prop},Mv X M aP s->cJ X env M own s.heap->(∀s',fB X env M own (ps.zip ue) s s'->Q () s')->Run (model X.prog X.w) A E Q ((es.zip vs).map λe=>assign e.1 env e.2) s:=by
 induction h with
 |nil=>
  intro xs vs flat hv h _ _
  cases hv with
  |nil=>cases h;exact⟨[],.nil,rfl,λ{s Q}y F q=>q s (fB.keep F (λy y e=>e) (bj _))⟩
  |cons _ _=>exact aN h
 | @one x p k es ts ps r ih=>
  intro xs vs flat hv h ho nd
  have cU:=g9.mp nd
  cases hv with
  |nil=>exact aN h
  | @cons t v BQ ws h1 h2=>
   refine map_some (show(qZ ts BQ).map (t::·)=ab flat from h) λfx e1 e2=>?_
   obtain⟨ue,g1,g2,g3⟩:=ih h2 e1 (λp hp=>ho p (bS _ hp)) cU.2
   exact⟨v::ue,e2▸.cons h1 g1,af (· +1) g2,λ{s Q}mv F q=>tu (ET F (ho _ bk) λs' S=>g3 (mv.trans S.m λy=>.inl) S.cn λck S'=>q ck (S.app S' λe he=>by rw[b4.mp he];exactλz=>cU.1 (Nc z)))⟩
 | @many qs kk pp ks es ts ps hq r ih=>
  intro xs vs flat hv h ho nd
  rw[mE]at nd
  have FF:=List.nodup_append.mp nd
  cases hv with
  |nil=>exact aN h
  | @cons t v BQ ws h1 h2=>
   refine aO (show((qU t).bind λys=>if ks.length=ys.length then(qZ ts BQ).map (ys++·)else ae)=ab flat from h) λys ht h=>gi h λhl h=>map_some h λfx e1 e2=>?_
   obtain⟨ue,g1,g2,g3⟩:=ih h2 e1 (λp hp=>ho p (mF _ hp)) FF.2.1
   obtain⟨a,us,rfl,f1,f2⟩:=ZR (A:=A) (E:=E) (env:=env) (own:=own) ap l6 ht h1
   have lu:qs.length=us.length:=hq.trans (hl.trans f1.length.symm)
   refine⟨us++ue,e2▸f1.app g1,af (· +1) g2,λ{s Q}mv F q=>BR lu (f2 mv hh F) (λp hp=>ho p (A4 _ hp)) FF.1 λs' S=>g3 (mv.trans S.m λy=>.inl) S.cn λck S'=>q ck ?_⟩
   rw[List.zip_append lu]
   exact S.app S' λe he z=>FF.2.2 _ (dy.mpr ⟨e.1,(tw he).1,rfl⟩) _ (Nc z) rfl
end
section
variable{c:Sc}{bg:Ex}{es vs:List aW}{ts:List Tg}{j i:Nat}{tp q pos:Pos}{ps:List (Str×Pos)}
def ZT(g:jz c ps (ts.flatMap Tg.ks))(hn:NT es ts ps)(ht:es.any t9=true)(hg:Gd bg .val c [.Tuple vs i q]):bR (.nest ts bg) c [.Assign [.Tuple es j tp] (.Tuple vs i q) pos] (d5 c.own (ts.flatMap Tg.ks)):=λ{C}{k}H A env aH M N ad r s fl r' a F e E=>by
 refine aO e λt et ea=>kJ ea λl q eb=>aO eb λflat ef ec=>aO ec λr1 hp ez=>?_
 clear e ea eb ec
 cases ez;subst q
 refine c8 (Assign_Tuple (vl (hg H a et) λval aB k₁ hv=>hv.eY λb ws yZ hN hz j6=>?_) rfl (ZQ ht))
 have a1:=a.kp k₁
 have F1:=F.kp a k₁
 obtain⟨ue,g1,g2,g3⟩:=ZS (X:=C.X) (A:=A) (E:=E) (env:=env) (own:=ow c.slots) a.ra.handled F.mn a1.apart hn j6 ef g.own g.nd
 rw[assign_Tuple]
 refine aG (lL ?_)
 unfold unpack
 rw[hn.each,bK,g2,show(es.map λe=>(false,assign e env)).findIdx? (·.1)=ae by
  rw[anp];intro x hx;obtain⟨p,_,rfl⟩:=dy.mp hx;rfl]
 refine aG (dN (mo (vX a.ra.handled F1.cn yZ.isTup) λus s₂ z=>?_))
 rw[z.1,fO]
 have f1:es.map ((λx=>x.2)∘λe=>(false,assign e env))=((es.zip ws).map λe=>(assign e.1 env,e.2)).map (·.1):=by rw[fO];exact(tY (f:=λe=>assign e env) g2).symm
 have f2:ws=((es.zip ws).map λe=>(assign e.1 env,e.2)).map (·.2):=by rw[fO];exact(zip2 g2).symm
 rw[f1]
 conv=>arg 3;arg 2;rw[f2]
 refine EU ?_
 rw[fO]
 refine g3 z.2.m z.2.cn λaX S=>?_
 have S2:=z.2.app S λy h=>(gM h).elim
 exact Left.eq ((Mv.of k₁).trans S2.m λy=>.inl) (yW a1 F1 g.hs g.hl g.cL hp S2 g1)
end
inductive Mb(p:Prop):Type
 |no
 |yes (h:p)
abbrev Xp:=aW
noncomputable def Mb.ok{p:Prop}(x:Mb p):Bool:=Mb.rec (motive:=λz=>Bool) false (λz=>true) x
def Mb.get{p:Prop}(x:Mb p)(h:x.ok=true):p:=by cases x with|no=>exact ft h|yes q=>exact q
noncomputable def Mb.bind{p q:Prop}(x:Mb p)(k:p->Mb q):Mb q:=Mb.rec (motive:=λz=>Mb q) .no k x
noncomputable def bV{q:Prop}(b:Bool)(k:b=true->Mb q):Mb q:=Bool.rec (motive:=λc=>(c=true->Mb q)->Mb q) (λz=>.no) (λk=>k rfl) b k
noncomputable def FG{p q:Prop}(x:Mb p)(k:p->q)(y:Mb q):Mb q:=Mb.rec (motive:=λz=>Mb q) y (λh=>.yes (k h)) x
noncomputable def opt{α:Type}{q:Prop}(o:Option α)(k:∀v,o=ab v->Mb q):Mb q:=Option.rec (motive:=λc=>(∀v,c=ab v->Mb q)->Mb q) (λz=>.no) (λv k=>k v rfl) o k
noncomputable def ol{α:Type}{P:List α->Prop}(xs:List α)(n:Mb (P []))(k:∀x r,Mb (P (x::r))):Mb (P xs):=List.casesOn (motive:=λl=>Mb (P l)) xs n k
noncomputable def o1{α:Type}{P:List α->Prop}(xs:List α)(k:∀x,Mb (P [x])):Mb (P xs):=ol xs .no λx r=>ol (P:=λr=>P (x::r)) r (k x) λz z=>.no
noncomputable def oo{α:Type}{P:Option α->Prop}(o:Option α)(n:Mb (P ae))(k:∀x,Mb (P (ab x))):Mb (P o):=Option.casesOn (motive:=λl=>Mb (P l)) o n k
section
variable{P:Xp->Prop}(x:Xp)
noncomputable def wq(k:∀n p,Mb (P (.Name n p))):Mb (P x):=if h:x.ctorIdx=23 then qG.elim (motive_1:=λx=>Mb (P x)) x h k else .no
noncomputable def B2(k:∀n j p,Mb (P (.Constant n j p))):Mb (P x):=if h:x.ctorIdx=19 then Expr.Constant.elim (motive_1:=λx=>Mb (P x)) x h k else .no
noncomputable def Nd(k:∀y n p,Mb (P (.Attribute y n p))):Mb (P x):=if h:x.ctorIdx=20 then Expr.Attribute.elim (motive_1:=λx=>Mb (P x)) x h k else .no
noncomputable def ZU(k:∀l o r p,Mb (P (.BinOp l o r p))):Mb (P x):=if h:x.ctorIdx=2 then Expr.BinOp.elim (motive_1:=λx=>Mb (P x)) x h k else .no
noncomputable def Nf(k:∀o r p,Mb (P (.UnaryOp o r p))):Mb (P x):=if h:x.ctorIdx=3 then Expr.UnaryOp.elim (motive_1:=λx=>Mb (P x)) x h k else .no
noncomputable def ZV(k:∀o r p,Mb (P (.BoolOp o r p))):Mb (P x):=if h:x.ctorIdx=0 then Expr.BoolOp.elim (motive_1:=λx=>Mb (P x)) x h k else .no
noncomputable def ZW(k:∀a b c p,Mb (P (.IfExp a b c p))):Mb (P x):=if h:x.ctorIdx=5 then Expr.IfExp.elim (motive_1:=λx=>Mb (P x)) x h k else .no
noncomputable def ZX(k:∀a b p,Mb (P (.Dict a b p))):Mb (P x):=if h:x.ctorIdx=6 then Expr.Dict.elim (motive_1:=λx=>Mb (P x)) x h k else .no
noncomputable def Ng(k:∀a b c p,Mb (P (.ListComp a b c p))):Mb (P x):=if h:x.ctorIdx=8 then Expr.ListComp.elim (motive_1:=λx=>Mb (P x)) x h k else .no
noncomputable def ZY(k:∀a b c p,Mb (P (.Compare a b c p))):Mb (P x):=if h:x.ctorIdx=15 then Expr.Compare.elim (motive_1:=λx=>Mb (P x)) x h k else .no
noncomputable def FH(k:∀a b c p,Mb (P (.Call a b c p))):Mb (P x):=if h:x.ctorIdx=16 then Expr.Call.elim (motive_1:=λx=>Mb (P x)) x h k else .no
noncomputable def ZZ(k:∀a b p,Mb (P (.Subscript a b p))):Mb (P x):=if h:x.ctorIdx=21 then Expr.Subscript.elim (motive_1:=λx=>Mb (P x)) x h k else .no
noncomputable def Nh(k:∀a p,Mb (P (.List a p))):Mb (P x):=if h:x.ctorIdx=24 then Expr.List.elim (motive_1:=λx=>Mb (P x)) x h k else .no
noncomputable def FI(k:∀a j p,Mb (P (.Tuple a j p))):Mb (P x):=if h:x.ctorIdx=25 then Expr.Tuple.elim (motive_1:=λx=>Mb (P x)) x h k else .no
noncomputable def Z0(k:∀a b c p,Mb (P (.Slice a b c p))):Mb (P x):=if h:x.ctorIdx=26 then Expr.Slice.elim (motive_1:=λx=>Mb (P x)) x h k else .no
end
section
variable{e:Ex}{m:Mode}{c:Sc}(xs:List Xp)
noncomputable def hX(k:∀x,Mb (Gd e m c [x])):Mb (Gd e m c xs):=o1 (P:=Gd e m c) xs k
noncomputable def hName(k:∀n p,Mb (Gd e m c [.Name n p])):Mb (Gd e m c xs):=hX xs λx=>wq (P:=λx=>Gd e m c [x]) x k
noncomputable def Z1(k:∀n j p,Mb (Gd e m c [.Constant n j p])):Mb (Gd e m c xs):=hX xs λx=>B2 (P:=λx=>Gd e m c [x]) x k
noncomputable def Ni(k:∀y n p,Mb (Gd e m c [.Attribute y n p])):Mb (Gd e m c xs):=hX xs λx=>Nd (P:=λx=>Gd e m c [x]) x k
noncomputable def Z2(k:∀n p n' q,Mb (Gd e m c [.Attribute (.Name n p) n' q])):Mb (Gd e m c xs):=Ni xs λy n' q=>wq (P:=λy=>Gd e m c [.Attribute y n' q]) y λn p=>k n p n' q
noncomputable def Z3(k:∀l o r p,Mb (Gd e m c [.BinOp l o r p])):Mb (Gd e m c xs):=hX xs λx=>ZU (P:=λx=>Gd e m c [x]) x k
noncomputable def FJ(k:∀o r p,Mb (Gd e m c [.UnaryOp o r p])):Mb (Gd e m c xs):=hX xs λx=>Nf (P:=λx=>Gd e m c [x]) x k
noncomputable def Nj(k:∀o l r p,Mb (Gd e m c [.BoolOp o [l,r] p])):Mb (Gd e m c xs):=hX xs λx=>ZV (P:=λx=>Gd e m c [x]) x λo ls p=>ol (P:=λls=>Gd e m c [.BoolOp o ls p]) ls .no λl r=>o1 (P:=λr=>Gd e m c [.BoolOp o (l::r) p]) r λr=>k o l r p
noncomputable def Z4(k:∀l y z p,Mb (Gd e m c [.IfExp l y z p])):Mb (Gd e m c xs):=hX xs λx=>ZW (P:=λx=>Gd e m c [x]) x k
noncomputable def FK(k:∀l o q p,Mb (Gd e m c [.Compare l [o] [q] p])):Mb (Gd e m c xs):=hX xs λx=>ZY (P:=λx=>Gd e m c [x]) x λl os qs p=>o1 (P:=λos=>Gd e m c [.Compare l os qs p]) os λo=>o1 (P:=λqs=>Gd e m c [.Compare l [o] qs p]) qs λq=>k l o q p
noncomputable def B3(k:∀n q es p,Mb (Gd e m c [.Call (.Name n q) es [] p])):Mb (Gd e m c xs):=hX xs λx=>FH (P:=λx=>Gd e m c [x]) x λf es kw p=>wq (P:=λf=>Gd e m c [.Call f es kw p]) f λn q=>ol (P:=λkw=>Gd e m c [.Call (.Name n q) es kw p]) kw (k n q es p) λz z=>.no
noncomputable def FL(k:∀n q y p,Mb (Gd e m c [.Call (.Name n q) [y] [] p])):Mb (Gd e m c xs):=B3 xs λn q es p=>o1 (P:=λes=>Gd e m c [.Call (.Name n q) es [] p]) es λy=>k n q y p
noncomputable def Nk(k:∀y n u es p,Mb (Gd e m c [.Call (.Attribute y n u) es [] p])):Mb (Gd e m c xs):=hX xs λx=>FH (P:=λx=>Gd e m c [x]) x λf es kw p=>Nd (P:=λf=>Gd e m c [.Call f es kw p]) f λy n u=>ol (P:=λkw=>Gd e m c [.Call (.Attribute y n u) es kw p]) kw (k y n u es p) λz z=>.no
noncomputable def hSub(k:∀l q p,Mb (Gd e m c [.Subscript l q p])):Mb (Gd e m c xs):=hX xs λx=>ZZ (P:=λx=>Gd e m c [x]) x k
noncomputable def Nl(k:∀x tg y fs sc q,Mb (Gd e m c [.ListComp x [⟨tg,y,fs,0⟩] sc q])):Mb (Gd e m c xs):=hX xs λx=>Ng (P:=λx=>Gd e m c [x]) x λx gs sc q=>o1 (P:=λgs=>Gd e m c [.ListComp x gs sc q]) gs λg=>J2.casesOn (motive_3:=λg=>Mb (Gd e m c [.ListComp x [g] sc q])) g λtg y fs a=>bV (decide (a=0)) λh=>Mb.bind (k x tg y fs sc q) λw=>.yes (aq h▸w)
noncomputable def Nm{P:J2->Prop}(g:J2)(k:∀n p y,Mb (P ⟨.Name n p,y,[],0⟩)):Mb (P g):=J2.casesOn (motive_3:=λg=>Mb (P g)) g λtg y fs a=>wq (P:=λtg=>P ⟨tg,y,fs,a⟩) tg λn p=>ol (P:=λfs=>P ⟨.Name n p,y,fs,a⟩) fs (bV (decide (a=0)) λh=>Mb.bind (k n p y) λw=>.yes (aq h▸w)) λz z=>.no
noncomputable def Z5(k:∀x n p y o q z sc q',Mb (Gd e m c [.ListComp x [⟨.Name n p,y,[],0⟩,⟨.Name o q,z,[],0⟩] sc q'])):Mb (Gd e m c xs):=hX xs λx=>Ng (P:=λx=>Gd e m c [x]) x λx gs sc q'=>ol (P:=λgs=>Gd e m c [.ListComp x gs sc q']) gs .no λg r=>o1 (P:=λr=>Gd e m c [.ListComp x (g::r) sc q']) r λg'=>
 Nm (P:=λg=>Gd e m c [.ListComp x [g,g'] sc q']) g λn p y=>Nm (P:=λg'=>Gd e m c [.ListComp x [⟨.Name n p,y,[],0⟩,g'] sc q']) g' λo q z=>k x n p y o q z sc q'
noncomputable def Z6(k:∀n q y ji jp kp p,Mb (Gd e m c [.Call (.Name n q) [y] [⟨ab (bP "reverse"),.Constant (.bool true) ji jp,kp⟩] p])):Mb (Gd e m c xs):=hX xs λx=>FH (P:=λx=>Gd e m c [x]) x λf es kw p=>wq (P:=λf=>Gd e m c [.Call f es kw p]) f λn q=>o1 (P:=λes=>Gd e m c [.Call (.Name n q) es kw p]) es λy=>o1 (P:=λkw=>Gd e m c [.Call (.Name n q) [y] kw p]) kw λw=>
 Keyword.casesOn (motive_7:=λw=>Mb (Gd e m c [.Call (.Name n q) [y] [w] p])) w λa v kp=>B2 (P:=λv=>Gd e m c [.Call (.Name n q) [y] [⟨a,v,kp⟩] p]) v λd ji jp=>bV (a==ab (bP "reverse")&&decide (d=.bool true)) λh=>Mb.bind (k n q y ji jp kp p) λw=>.yes (band h λh1 h2=>by rw[ao h1,aq h2];exact w)
end
noncomputable def Z7(e:Ex):Mb (e=.absent):=by cases e with|absent=>exact .yes rfl|_=>exact .no
noncomputable def Z8(e:Ex):Mb (e=.lit (.bool true)):=by
 cases e with
 |lit t=>cases t with
  |bool b=>cases b with
   |true=>exact .yes rfl
   |false=>exact .no
  |_=>exact .no
 |_=>exact .no
noncomputable def Nn{e:Ex}(ih:∀m c xs,Mb (Gd e m c xs))(c:Sc)(fs:List Xp):Mb (ry e c fs):=
 ol fs ((Z8 e).bind λh=>.yes (h▸L7)) λf r=>ol (P:=λr=>ry e c (f::r)) r ((ih .a9 c [f]).bind λh=>.yes (X9 h)) λz z=>.no
noncomputable def Np{e:Ex}(ih:∀m c xs,Mb (Gd e m c xs))(c:Sc)(o:Option Xp):Mb (Pd e c o):=
 oo o ((Z7 e).bind λh=>.yes (h▸WS)) λx=>(ih .val c [x]).bind λh=>.yes (WT h)
noncomputable def gB(c:Sc)(x y:Str):Bool:=x==y&&iV x&&c.names.lookup x==ab .globalImplicit
def uf{c:Sc}{x y:Str}{v:ay}(hv:d4 y=ab v)(h:gB c x y=true):ri c x y v:=band h λh h3=>band h λh1 h2=>⟨ao h1,ao h1▸hv,h2,ao h3⟩
def FN(p:Prim):d4 (tT p).1=ab (tT p).2:=by cases p<;>kernel_rfl
def Nq:d4 (s_ "range")=ab (.type "range"):=by kernel_rfl
def Z9:d4 (s_ "reversed")=ab (.type "reversed"):=by kernel_rfl
def aaa:d4 (s_ "enumerate")=ab (.type "enumerate"):=by kernel_rfl
noncomputable def Nr(m:Mode)(o:iG):Bool:=m.v||(decide (m=.own)&&(decide (o=.add)||decide (o=.mul)))
def aab{m:Mode}{o:iG}(h:Nr m o=true):m.v=true∨(m=.own/\(o=.add∨o=.mul)):=bor h .inl λh=>band h λh1 h2=>.inr ⟨aq h1,bor h2 (λq=>.inl (aq q)) λq=>.inr (aq q)⟩
noncomputable def B4(m:Mode):Bool:=decide (m=.src)||decide (m=.ia)
def FO{m:Mode}(h:B4 m=true):m=.src∨m=.ia:=bor h (λq=>.inl (aq q)) λq=>.inr (aq q)
def not_of{b:Bool}(h:(!b)=true):b=false:=by cases b with|false=>rfl|true=>exact ft h
def FP{m:Mode}(h:(!decide (m=.chain))=true):m≠.chain:=of_decide_eq_false (not_of h)
def zf(rv:Bool)(w:Option Xp):Prop:=if rv then∃j sq sr,w=ab (.UnaryOp .USub (.Constant (.int 1) j sq) sr)else w=ae
noncomputable def slW(rv:Bool)(w:Option Xp):Mb (zf rv w):=by
 cases rv with
 |false=>exact oo (P:=zf false) w (.yes rfl) λz=>.no
 |true=>exact oo (P:=zf true) w .no λx=>Nf (P:=λx=>zf true (ab x)) x λo r p=>B2 (P:=λr=>zf true (ab (.UnaryOp o r p))) r λd j q=>bV (decide (o=.USub)&&decide (d=.int 1)) λh=>.yes (band h λh1 h2=>⟨j,q,p,by rw[aq h1,aq h2]⟩)
section
variable{a b e:Ex}{m:Mode}{c:Sc}{l q:Xp}{p:Pos}{o:iG}{op:Tq}
noncomputable def md(m:Mode)(n:Mode):Mode:=if m=.a9 then .a9 else n
def aad{o:BoolOp}(ho:o=.And)(hm:m.v=true)(h1:Gd a (md m .val) c [l])(h2:Gd b (md m .val) c [q]):Gd (.jt a b) m c [.BoolOp o [l,q] p]:=by
 subst ho
 unfold md at h1 h2
 by_cases h:m=.a9
 ·rw[ah h]at h1 h2;exact h▸Wx h1 h2
 ·rw[ai h]at h1 h2;exact Wy hm h h1 h2
def orW{o:BoolOp}(ho:o=.Or)(hm:m.v=true)(h1:Gd a (md m .val) c [l])(h2:Gd b (md m .val) c [q]):Gd (.vK a b) m c [.BoolOp o [l,q] p]:=by
 subst ho
 unfold md at h1 h2
 by_cases h:m=.a9
 ·rw[ah h]at h1 h2;exact h▸Wz h1 h2
 ·rw[ai h]at h1 h2;exact WA hm h h1 h2
def aaf{o:UnaryOp}(ho:o=.Not)(hm:m.v=true)(h1:Gd a (md m .bor) c [l]):Gd (.mN a) m c [.UnaryOp o l p]:=by
 subst ho
 unfold md at h1
 by_cases h:m=.a9
 ·rw[ah h]at h1;exact h▸Wo h1
 ·rw[ai h]at h1;exact Wq hm h h1
end
noncomputable def bo(e:Ex):∀m c xs,Mb (Gd e m c xs):=by
 induction e with
 |nil=>exactλm c xs=>ol (P:=Gd .nil m c) xs (bV (decide (m=.chain)) λh=>.yes (aq h▸Wb)) λs s=>.no
 |cons a b cP dF=>exactλm c xs=>ol (P:=Gd (.cons a b) m c) xs .no λx r=>bV (decide (m=.chain)&&notStar x) λh=>(cP .val c [x]).bind λh1=>(dF .chain c r).bind λh2=>.yes (band h λh3 h4=>aq h3▸Wc h4 h1 h2)
 |var i=>exactλm c xs=>hName xs λn p=>bV (m.v&&c.slots.lookup n==ab i&&iV n&&(m.b||!c.own.contains i)) λh=>.yes (band h λh h4=>band h λh h3=>band h λh1 h2=>We h1 (ao h2) h3 h4)
 |lit t=>exactλm c xs=>FG (Z1 xs λd j p=>bV (m.v&&yD t d) λh=>.yes (band h λh1 h2=>Wf h1 h2)) id (by
   cases t with
   |int i=>exact hName xs λn p=>bV (m.v&&Bq n==ab i&&iV n&&c.names.lookup n==ab .globalImplicit) λh=>.yes (band h λh h4=>band h λh h3=>band h λh1 h2=>Wh h1 (ao h2) h3 (ao h4))
   |str z=>exact Z2 xs λn p n' q=>bV (m.v&&Ec n n'==ab z&&decide (z.length<=lim)&&c.names.lookup n==ab .globalImplicit) λh=>.yes (band h λh h4=>band h λh h3=>band h λh1 h2=>Wj h1 (ao h2) (aq h3) (ao h4))
   |_=>exact .no)
 |bin o a b cP dF=>exactλm c xs=>Z3 xs λl op r p=>bV (Nr m o&&decide (o.py=op)) λh=>(cP .bor c [l]).bind λh1=>(dF .bor c [r]).bind λh2=>.yes (band h λh3 h4=>aq h4▸Wl (aab h3) h1 h2)
 |neg a ih=>exactλm c xs=>FJ xs λo r p=>bV (m.v&&decide (o=.USub)) λh=>(ih .val c [r]).bind λh1=>.yes (band h λh3 h4=>aq h4▸Wm h3 h1)
 |inv a ih=>exactλm c xs=>FJ xs λo r p=>bV (m.v&&decide (o=.Invert)) λh=>(ih .val c [r]).bind λh1=>.yes (band h λh3 h4=>aq h4▸Wn h3 h1)
 |mN a ih=>exactλm c xs=>FJ xs λo r p=>bV (m.v&&decide (o=.Not)) λh=>(ih (md m .bor) c [r]).bind λh1=>.yes (band h λh3 h4=>aaf (aq h4) h3 h1)
 |cmp o a b cP dF=>exactλm c xs=>FK xs λl op r p=>bV (m.v&&decide (o.py=op)&&gj r) λh=>(cP .bor c [l]).bind λh1=>(dF .bor c [r]).bind λh2=>.yes (band h λh h5=>band h λh3 h4=>aq h4▸Wr h3 h5 h1 h2)
 |oP a b cP dF=>exactλm c xs=>FK xs λl op r p=>bV (m.v&&decide (op=.In)&&gj r) λh=>(cP .val c [l]).bind λh1=>(dF .bor c [r]).bind λh2=>.yes (band h λh h5=>band h λh3 h4=>aq h4▸Wt h3 h5 h1 h2)
 |qY no a t ih=>exactλm c xs=>FK xs λl op r p=>B2 (P:=λr=>Gd (.qY no a t) m c [.Compare l [op] [r] p]) r λd j q=>bV (m.v&&decide (op=if no then .IsNot else .Is)&&yD t d) λh=>(ih .bor c [l]).bind λh1=>.yes (band h λh h5=>band h λh3 h4=>aq h4▸Ww h3 h5 h1)
 |jt a b cP dF=>exactλm c xs=>Nj xs λo l r p=>bV (m.v&&decide (o=.And)) λh=>(cP (md m .val) c [l]).bind λh1=>(dF (md m .val) c [r]).bind λh2=>.yes (band h λh3 h4=>aad (aq h4) h3 h1 h2)
 |vK a b cP dF=>exactλm c xs=>Nj xs λo l r p=>bV (m.v&&decide (o=.Or)) λh=>(cP (md m .val) c [l]).bind λh1=>(dF (md m .val) c [r]).bind λh2=>.yes (band h λh3 h4=>orW (aq h4) h3 h1 h2)
 |ite t a b iht cP dF=>exactλm c xs=>Z4 xs λl y z p=>bV (m.v&&!decide (m=.a9)) λh=>(iht .a9 c [l]).bind λh1=>(cP .val c [y]).bind λh2=>(dF .val c [z]).bind λh3=>.yes (band h λh4 h5=>WB h4 (of_decide_eq_false (not_of h5)) h1 h2 h3)
 |idx a b cP dF=>exactλm c xs=>hSub xs λl r p=>bV m.v λh=>(cP .bor c [l]).bind λh1=>(dF .val c [r]).bind λh2=>.yes (WH h h1 h2)
 |cY rv a lo hi cP ihl ihh=>exactλm c xs=>hSub xs λl r p=>Z0 (P:=λr=>Gd (.cY rv a lo hi) m c [.Subscript l r p]) r λy z w q=>bV m.v λh=>(cP .bor c [l]).bind λh1=>(Np ihl c y).bind λh2=>(Np ihh c z).bind λh3=>(slW rv w).bind λh4=>.yes (WV h h1 h2 h3 h4)
 |tup a ih=>exactλm c xs=>hX xs λx=>FI (P:=λx=>Gd (.tup a) m c [x]) x λes j p=>bV m.v λh=>(ih .chain c es).bind λh1=>.yes (WC h h1)
 |lst a ih=>exactλm c xs=>hX xs λx=>Nh (P:=λx=>Gd (.lst a) m c [x]) x λes p=>bV m.vo λh=>(ih .chain c es).bind λh1=>.yes (WD h h1)
 |jY a b cP dF=>exactλm c xs=>hX xs λx=>ZX (P:=λx=>Gd (.jY a b) m c [x]) x λks vs p=>ol (P:=λks=>Gd (.jY a b) m c [.Dict ks vs p]) ks (ol (P:=λvs=>Gd (.jY a b) m c [.Dict [] vs p]) vs (bV (m.vo&&a.isNil) λh=>.yes (band h λh1 h2=>YK h1 h2)) λs s=>.no) λy r=>oo (P:=λy=>Gd (.jY a b) m c [.Dict (y::r) vs p]) y .no λy=>ol (P:=λr=>Gd (.jY a b) m c [.Dict (ab y::r) vs p]) r (o1 (P:=λvs=>Gd (.jY a b) m c [.Dict [ab y] vs p]) vs λv=>bV (m.vo&&!a.isNil) λh=>(cP .val c [y]).bind λh1=>(dF .val c [v]).bind λh2=>.yes (band h λh3 h4=>YL h3 (not_of h4) h1 h2)) λs s=>.no
 |comp j elt src cond zg FQ FR=>exactλm c xs=>Nl xs λx tg y fs sc q=>wq (P:=λtg=>Gd (.comp j elt src cond) m c [.ListComp x [⟨tg,y,fs,0⟩] sc q]) tg λn p=>bV (!decide (m=.chain)&&gj y) λh=>(FQ .src c [y]).bind λh1=>opt (rh c sc [(n,j)]) λc' hc=>(zg .val c' [x]).bind λh2=>(Nn FR c' fs).bind λh3=>.yes (band h λh4 h5=>Yl (FP h4) h5 h1 hc h2 h3)
 |jZ js elt src cond zg FQ FR=>exactλm c xs=>Nl xs λx tg y fs sc q=>FI (P:=λtg=>Gd (.jZ js elt src cond) m c [.ListComp x [⟨tg,y,fs,0⟩] sc q]) tg λns kk p=>bV (!decide (m=.chain)&&gj y) λh=>(FQ .src c [y]).bind λh1=>opt (yE ns js) λts ht=>opt (rh c sc ts) λc' hc=>(zg .val c' [x]).bind λh2=>(Nn FR c' fs).bind λh3=>.yes (band h λh4 h5=>Ym (FP h4) h5 h1 ht hc h2 h3)
 |yw i j elt s1 s2 zg ih1 ih2=>exactλm c xs=>Z5 xs λx n p y o q z sc q'=>bV (!decide (m=.chain)&&gj y&&gj z) λh=>(ih1 .src c [y]).bind λh1=>opt (rh c sc [(n,i),(o,j)]) λc' hc=>(ih2 .ia c' [z]).bind λh2=>(zg .val c' [x]).bind λh3=>.yes (band h λh h6=>band h λh4 h5=>Yt (FP h4) h5 h6 h1 hc h2 h3)
 |call f a ih=>exactλm c xs=>B3 xs λn q es p=>bV (m.v&&iV n&&c.names.lookup n==ab .globalImplicit&&es.all notStar&&nI f==ab n) λh=>opt (d4 n) λv hv=>(ih .chain c es).bind λh1=>.yes (band h λh h6=>band h λh h5=>band h λh h4=>band h λh2 h3=>Xo h2 (ao h6) hv h3 (ao h4) h5 h1)
 |bE f o a FT cP=>exactλm c xs=>Nk xs λy n u es p=>bV (m.v&&decide (u.endLine=p.line)&&decide (es.length<20)&&!isCall y&&es.all notStar&&tM f==ab n) λh=>(FT .val c [y]).bind λh1=>(cP .chain c es).bind λh2=>.yes (band h λh h8=>band h λh h7=>band h λh h6=>band h λh h5=>band h λh3 h4=>Xq h3 (ao h8) (aq h4) (aq h5) (not_of h6) h7 h1 h2)
 |attr a i ih=>exactλm c xs=>Ni xs λy n p=>bV (m.v&&oL i==n&&!isCall y) λh=>(ih .val c [y]).bind λh1=>.yes (band h λh h4=>band h λh2 h3=>ao h3▸Xr h2 (not_of h4) h1)
 |prim p' a ih=>exactλm c xs=>B3 xs λn q es p=>bV (m.v&&gB c n (tT p').1&&es.all notStar) λh=>(ih .chain c es).bind λh1=>.yes (band h λh h4=>band h λh2 h3=>Xs h2 (uf (FN p') h3) h4 h1)
 |sm p' o a FT cP=>exactλm c xs=>Nk xs λy n u es p=>bV (m.v&&decide (u.endLine=p.line)&&decide (es.length<20)&&!isCall y&&es.all notStar&&Er p'==n) λh=>(FT .bor c [y]).bind λh1=>(cP .chain c es).bind λh2=>.yes (band h λh h8=>band h λh h7=>band h λh h6=>band h λh h5=>band h λh3 h4=>ao h8▸Xt h3 (aq h4) (aq h5) (not_of h6) h7 h1 h2)
 |hU a ih=>exactλm c xs=>FL xs λn q y p=>bV (B4 m&&gB c n (s_ "range")&&notStar y) λh=>(ih .val c [y]).bind λh1=>.yes (band h λh h4=>band h λh2 h3=>Xw (FO h2) (uf Nq h3) h4 h1)
 |mO a b cP dF=>exactλm c xs=>B3 xs λn q es p=>ol (P:=λes=>Gd (.mO a b) m c [.Call (.Name n q) es [] p]) es .no λy r=>o1 (P:=λr=>Gd (.mO a b) m c [.Call (.Name n q) (y::r) [] p]) r λz=>bV (B4 m&&gB c n (s_ "range")&&notStar y&&notStar z) λh=>(cP .val c [y]).bind λh1=>(dF .val c [z]).bind λh2=>.yes (band h λh h6=>band h λh h5=>band h λh3 h4=>Xx (FO h3) (uf Nq h4) h5 h6 h1 h2)
 |Bx a ih=>exactλm c xs=>FL xs λn q y p=>bV (B4 m&&gB c n (s_ "reversed")&&notStar y) λh=>(ih .val c [y]).bind λh1=>.yes (band h λh h4=>band h λh2 h3=>Xz (FO h2) (uf Z9 h3) h4 h1)
 |vL a ih=>exactλm c xs=>FL xs λn q y p=>bV (m.v&&gB c n (s_ "len")&&notStar y) λh=>(ih .bor c [y]).bind λh1=>.yes (band h λh h4=>band h λh2 h3=>YJ h2 (uf (FN .len) h3) h4 h1)
 |yx a ih=>exactλm c xs=>Z6 xs λn q y ji jp kp p=>bV (m.v&&gB c n (s_ "sorted")&&notStar y) λh=>(ih .val c [y]).bind λh1=>.yes (band h λh h4=>band h λh2 h3=>YI h2 (uf (FN .qX) h3) h4 h1)
 |absent=>exactλm c xs=>.no
inductive Db(α:Type)(P:α->Prop):Type
 |no
 |yes (a:α) (h:P a)
section
variable{α:Type}{P:α->Prop}
noncomputable def dB{p:Prop}(x:Mb p)(k:p->Db α P):Db α P:=Mb.rec (motive:=λz=>Db α P) .no k x
noncomputable def dG(b:Bool)(k:b=true->Db α P):Db α P:=Bool.rec (motive:=λc=>(c=true->Db α P)->Db α P) (λz=>.no) (λk=>k rfl) b k
noncomputable def dD{β:Type}{Q:β->Prop}(x:Db β Q)(k:∀b,Q b->Db α P):Db α P:=Db.rec (motive:=λz=>Db α P) .no k x
noncomputable def Db.ok(x:Db α P):Bool:=Db.rec (motive:=λz=>Bool) false (λz z=>true) x
def Db.get(x:Db α P)(h:x.ok=true):∃a,P a:=by cases x with|no=>exact ft h|yes a q=>exact⟨a,q⟩
end
section
variable{R:Xp->Type}(x:Xp)(d:R x)
noncomputable def oW(k:∀n p,R (.Name n p)):R x:=if h:x.ctorIdx=23 then qG.elim (motive_1:=R) x h k else d
noncomputable def wt(k:∀a j p,R (.Tuple a j p)):R x:=if h:x.ctorIdx=25 then Expr.Tuple.elim (motive_1:=R) x h k else d
noncomputable def Nt(k:∀a b p,R (.Subscript a b p)):R x:=if h:x.ctorIdx=21 then Expr.Subscript.elim (motive_1:=R) x h k else d
noncomputable def Nu(k:∀a b c p,R (.Call a b c p)):R x:=if h:x.ctorIdx=16 then Expr.Call.elim (motive_1:=R) x h k else d
noncomputable def aal(k:∀y n p,R (.Attribute y n p)):R x:=if h:x.ctorIdx=20 then Expr.Attribute.elim (motive_1:=R) x h k else d
noncomputable def aam(k:∀l o r p,R (.BinOp l o r p)):R x:=if h:x.ctorIdx=2 then Expr.BinOp.elim (motive_1:=R) x h k else d
end
noncomputable def gl{α:Type}{R:List α->Type}(xs:List α)(n:R [])(k:∀x r,R (x::r)):R xs:=List.casesOn (motive:=R) xs n k
section
variable{R:Stmt->Type}(x:Stmt)(d:R x)
noncomputable def Nv(k:∀ts v p,R (.Assign ts v p)):R x:=if h:x.ctorIdx=5 then Stmt.Assign.elim (motive_2:=R) x h k else d
noncomputable def aan(k:∀t o v p,R (.AugAssign t o v p)):R x:=if h:x.ctorIdx=7 then Stmt.AugAssign.elim (motive_2:=R) x h k else d
noncomputable def aao(k:∀t i b e p,R (.For t i b e p)):R x:=if h:x.ctorIdx=9 then Stmt.For.elim (motive_2:=R) x h k else d
noncomputable def tWh(k:∀t b e p,R (.While t b e p)):R x:=if h:x.ctorIdx=11 then Stmt.While.elim (motive_2:=R) x h k else d
noncomputable def tIf(k:∀t b e p,R (.If t b e p)):R x:=if h:x.ctorIdx=12 then Stmt.If.elim (motive_2:=R) x h k else d
noncomputable def tEx(k:∀v p,R (.Expr v p)):R x:=if h:x.ctorIdx=24 then Stmt.Expr.elim (motive_2:=R) x h k else d
noncomputable def aas(k:∀v p,R (.Return v p)):R x:=if h:x.ctorIdx=3 then Stmt.Return.elim (motive_2:=R) x h k else d
noncomputable def aat(k:∀p,R (.Break p)):R x:=if h:x.ctorIdx=26 then Stmt.Break.elim (motive_2:=R) x h k else d
end
abbrev SD(σ:S)(c:Sc)(xs:List Stmt):Type:=Db (List Nat) (bR σ c xs)
section
variable{σ:S}{c:Sc}(xs:List Stmt)
noncomputable def s1(k:∀x,SD σ c [x]):SD σ c xs:=gl (R:=SD σ c) xs .no λx r=>gl (R:=λr=>SD σ c (x::r)) r (k x) λz z=>.no
noncomputable def FU(k:∀t v p,SD σ c [.Assign [t] v p]):SD σ c xs:=s1 xs λx=>Nv (R:=λx=>SD σ c [x]) x .no λts v p=>gl (R:=λts=>SD σ c [.Assign ts v p]) ts .no λt r=>gl (R:=λr=>SD σ c [.Assign (t::r) v p]) r (k t v p) λz z=>.no
noncomputable def Nw(k:∀x q v p,SD σ c [.Assign [.Name x q] v p]):SD σ c xs:=FU xs λt v p=>oW (R:=λt=>SD σ c [.Assign [t] v p]) t .no λx q=>k x q v p
noncomputable def FV(k:∀ns j q v p,SD σ c [.Assign [.Tuple ns j q] v p]):SD σ c xs:=FU xs λt v p=>wt (R:=λt=>SD σ c [.Assign [t] v p]) t .no λns j q=>k ns j q v p
noncomputable def Nx(k:∀x u iv q v p,SD σ c [.Assign [.Subscript (.Name x u) iv q] v p]):SD σ c xs:=FU xs λt v p=>Nt (R:=λt=>SD σ c [.Assign [t] v p]) t .no λl iv q=>oW (R:=λl=>SD σ c [.Assign [.Subscript l iv q] v p]) l .no λx u=>k x u iv q v p
noncomputable def Ny(k:∀t o v p,SD σ c [.AugAssign t o v p]):SD σ c xs:=s1 xs λx=>aan (R:=λx=>SD σ c [x]) x .no k
noncomputable def Nz(k:∀x u nm p es q pos,SD σ c [.Expr (.Call (.Attribute (.Name x u) nm p) es [] q) pos]):SD σ c xs:=s1 xs λx=>tEx (R:=λx=>SD σ c [x]) x .no λv pos=>Nu (R:=λv=>SD σ c [.Expr v pos]) v .no λf es kw q=>gl (R:=λkw=>SD σ c [.Expr (.Call f es kw q) pos]) kw (aal (R:=λf=>SD σ c [.Expr (.Call f es [] q) pos]) f .no λy nm p=>oW (R:=λy=>SD σ c [.Expr (.Call (.Attribute y nm p) es [] q) pos]) y .no λx u=>k x u nm p es q pos) λz z=>.no
noncomputable def NA(k:∀x u nm p v q pos,SD σ c [.Expr (.Call (.Attribute (.Name x u) nm p) [v] [] q) pos]):SD σ c xs:=Nz xs λx u nm p es q pos=>gl (R:=λes=>SD σ c [.Expr (.Call (.Attribute (.Name x u) nm p) es [] q) pos]) es .no λv r=>gl (R:=λr=>SD σ c [.Expr (.Call (.Attribute (.Name x u) nm p) (v::r) [] q) pos]) r (k x u nm p v q pos) λz z=>.no
noncomputable def FW(k:∀t i b p,SD σ c [.For t i b [] p]):SD σ c xs:=s1 xs λx=>aao (R:=λx=>SD σ c [x]) x .no λt i b e p=>gl (R:=λe=>SD σ c [.For t i b e p]) e (k t i b p) λz z=>.no
end
noncomputable abbrev NB(ps:List (Str×Pos)):List Xp:=ps.map λp=>.Name p.1 p.2
noncomputable def wu:∀ns:List Xp,Db (List (Str×Pos)) (λps=>ns=NB ps):=by
 intro ns
 induction ns with
 |nil=>exact .yes [] rfl
 |cons e r ih=>exact oW (R:=λe=>Db (List (Str×Pos)) (λps=>e::r=NB ps)) e .no λx p=>dD ih λps h=>.yes ((x,p)::ps) (af (_::·) h)
noncomputable def uh(c:Sc)(ps:List (Str×Pos))(ks:List Nat):Bool:=decide (ps.length=ks.length)&&(ps.zip ks).all (λe=>c.slots.lookup e.1.1==ab e.2)&&decide ((ps.map (·.1)).Nodup)&&decide ks.Nodup
def wx{c:Sc}{ps:List (Str×Pos)}{ks:List Nat}(h:uh c ps ks=true):jz c ps ks:=band h λh h4=>band h λh h3=>band h λh1 h2=>
 ⟨aq h1,λj p i e1 e2=>ao (bA.mp h2 (p,i) (dZ (qI.mpr ⟨e1,e2⟩))),aq h3,aq h4⟩
noncomputable def swM(v:Xp):Mb (∀ps,wj ps v):=FG (p:=t9 v=false) (bV (!t9 v) λh=>.yes (not_of h)) (λh ps=>Y1 h) (FI (P:=λv=>∀ps,wj ps v) v λvs i q=>bV (!vs.all (DO 8)) λh=>.yes λps=>Fh (not_of h))
noncomputable def NC(e:Ex)(c:Sc)(v:Xp):Mb (cZ v=true∨(wi v=true/\Gd e .use c [v])):=FG (p:=cZ v=true) (bV (cZ v) .yes) .inl (bV (wi v) λh=>(bo e .use c [v]).bind λh1=>.yes (.inr ⟨h,h1⟩))
noncomputable def aav(c:Sc)(es:List (Option Ex)):∀vs,Mb (ma c es vs):=by
 induction es with
 |nil=>exactλvs=>ol (P:=ma c []) vs (.yes .nil) λz z=>.no
 |cons o es ih=>
  cases o with
  |none=>exactλvs=>ol (P:=ma c (ae::es)) vs .no λv r=>Nh (P:=λv=>ma c (ae::es) (v::r)) v λl p=>ol (P:=λl=>ma c (ae::es) (.List l p::r)) l ((ih r).bind λh=>.yes (.none h)) λz z=>.no
  |some e=>exactλvs=>ol (P:=ma c (ab e::es)) vs .no λv r=>bV (notStar v) λh1=>(bo e .val c [v]).bind λh2=>(ih r).bind λh3=>.yes (.some h1 h2 h3)
noncomputable def ntD(ts:List Tg):∀es,Db (List (Str×Pos)) (NT es ts):=by
 induction ts with
 |nil=>exactλes=>gl (R:=λes=>Db _ (NT es [])) es (.yes [] .nil) λz z=>.no
 |cons t ts ih=>
  cases t with
  |one k=>exactλes=>gl (R:=λes=>Db _ (NT es (.one k::ts))) es .no λe r=>oW (R:=λe=>Db _ (NT (e::r) (.one k::ts))) e .no λx p=>dD (ih r) λps h=>.yes ((x,p)::ps) (.one h)
  |many ks=>exactλes=>gl (R:=λes=>Db _ (NT es (.many ks::ts))) es .no λe r=>wt (R:=λe=>Db _ (NT (e::r) (.many ks::ts))) e .no λns j p=>dD (wu ns) λqs hq=>dG (decide (qs.length=ks.length)) λhl=>dD (ih r) λps h=>.yes (qs++ps) (by rw[hq];exact .many (aq hl) h)
def aax{yY v:Xp}{ns:List Xp}{x:Str}{p:Pos}(env:Env):A9 (.Name x p::yY::ns) v env=pure ae:=rfl
noncomputable def ui(c:Sc)(x:Str)(k:Nat):Bool:=c.slots.lookup x==ab k&&c.own.contains k&&iV x
def wz{c:Sc}{x:Str}{k:Nat}(h:ui c x k=true):j7 c x k:=band h λh h3=>band h λh1 h2=>⟨ao h1,h2,h3⟩
noncomputable def ND{α:Type}{P:α->Prop}(b:Bool)(k:b=true->Db α P)(d:Db α P):Db α P:=Bool.rec (motive:=λc=>(c=true->Db α P)->Db α P) (λz=>d) (λk=>k rfl) b k
def NF{σ:S}(h:(σ.mS&&!σ.j5)=true):σ.mS=true/\σ.j5=false:=band h λh1 h2=>⟨h1,not_of h2⟩
noncomputable def oX(σ:S):∀c xs,SD σ c xs:=by
 induction σ with
 |asg k e=>exactλc xs=>Nw xs λx q v p=>dG (c.slots.lookup x==ab k) λh=>dB (bo e .val c [v]) λh1=>dB (NC e c v) λh2=>.yes _ (YZ (ao h) h1 h2)
 |own k e=>exactλc xs=>Nw xs λx q v p=>dG (c.slots.lookup x==ab k) λh=>dB (bo e .own c [v]) λh1=>dB (NC e c v) λh2=>.yes _ (Y0 (ao h) h1 h2)
 |fA ks e=>exactλc xs=>FV xs λns j q v p=>dD (wu ns) λps hn=>dG (uh c ps ks) λh=>dB (swM v) λh1=>dB (bo e .val c [v]) λh2=>.yes (d5 c.own ks) (hn▸Y3 (wx h) (h1 ps) h2)
 |fP ks es=>exactλc xs=>FV xs λns j q v p=>dD (wu ns) λps hn=>wt (R:=λv=>SD (.fP ks es) c [.Assign [.Tuple ns j q] v p]) v .no λvs i q'=>dG (uh c ps ks&&!vs.all (DO 8)) λh=>dB (aav c es vs) λh1=>.yes (rG c.own ks es) (hn▸band h λh2 h3=>Y7 (wx h2) h1 (not_of h3))
 |nest ts e=>exactλc xs=>FV xs λns j q v p=>dD (ntD ts ns) λps hn=>wt (R:=λv=>SD (.nest ts e) c [.Assign [.Tuple ns j q] v p]) v .no λvs i q'=>dG (uh c ps (ts.flatMap Tg.ks)&&ns.any t9) λh=>dB (bo e .val c [.Tuple vs i q']) λh1=>.yes _ (band h λh2 h3=>ZT (wx h2) hn h3 h1)
 |aug k o e=>exactλc xs=>Ny xs λt op v p=>oW (R:=λt=>SD (.aug k o e) c [.AugAssign t op v p]) t .no λx u=>dG (c.slots.lookup x==ab k&&iV x&&!c.own.contains k&&decide (o.py=op)) λh=>dB (bo e .val c [v]) λh1=>.yes (d5 c.own [k]) (band h λh h5=>band h λh h4=>band h λh2 h3=>aq h5▸Zg (ao h2) h3 (not_of h4) h1)
 |pE ks e=>exactλc xs=>s1 xs λx=>Nv (R:=λx=>SD (.pE ks e) c [x]) x .no λts v p=>gl (R:=λts=>SD (.pE ks e) c [.Assign ts v p]) ts .no λt r=>oW (R:=λt=>SD (.pE ks e) c [.Assign (t::r) v p]) t .no λx q=>gl (R:=λr=>SD (.pE ks e) c [.Assign (.Name x q::r) v p]) r .no λt2 r=>dD (wu (.Name x q::t2::r)) λps hn=>dG (uh c ps ks) λh=>dB (bo e .val c [v]) λh1=>.yes _ (Y5 hn (wx h) aax h1)
 |app k e=>exactλc xs=>NA xs λx u nm p v q pos=>dG (ui c x k&&decide (p.endLine=q.line)&&notStar v&&nm==bP "append") λh=>dB (bo e .val c [v]) λh1=>.yes c.own (band h λh h5=>band h λh h4=>band h λh2 h3=>ao h5▸Y9 (wz h2) (aq h3) h4 h1)
 |ext k e=>exactλc xs=>NA xs λx u nm p v q pos=>dG (ui c x k&&decide (p.endLine=q.line)&&notStar v&&nm==bP "extend") λh=>dB (bo e .val c [v]) λh1=>.yes c.own (band h λh h5=>band h λh h4=>band h λh2 h3=>ao h5▸Za (wz h2) (aq h3) h4 h1)
 |rev k=>exactλc xs=>Nz xs λx u nm p es q pos=>gl (R:=λes=>SD (.rev k) c [.Expr (.Call (.Attribute (.Name x u) nm p) es [] q) pos]) es (dG (ui c x k&&decide (p.endLine=q.line)&&nm==bP "reverse") λh=>.yes c.own (band h λh h5=>band h λh2 h3=>ao h5▸Zb (wz h2) (aq h3))) λs s=>.no
 |yA k i e=>exactλc xs=>Nx xs λx u iv q v p=>dG (ui c x k&&cZ v) λh=>dB (bo e .val c [v]) λh1=>dB (bo i .val c [iv]) λh2=>.yes _ (band h λh3 h4=>Zc (wz h3) h4 h1 h2)
 |tQ k i e=>exactλc xs=>Nx xs λx u iv q v p=>dG (ui c x k&&cZ v) λh=>dB (bo e .val c [v]) λh1=>dB (bo i .val c [iv]) λh2=>.yes _ (band h λh3 h4=>Zl (wz h3) h4 h1 h2)
 |oQ k i o e=>exactλc xs=>Ny xs λt op v p=>Nt (R:=λt=>SD (.oQ k i o e) c [.AugAssign t op v p]) t .no λl iv q=>oW (R:=λl=>SD (.oQ k i o e) c [.AugAssign (.Subscript l iv q) op v p]) l .no λx u=>aam (R:=λiv=>SD (.oQ k i o e) c [.AugAssign (.Subscript (.Name x u) iv q) op v p]) iv .no λy z w r=>dG (ui c x k&&decide (o.py=op)) λh=>dB (bo e .val c [v]) λh1=>dB (bo i .val c [.BinOp y z w r]) λh2=>.yes c.own (band h λh3 h4=>aq h4▸Zd (wz h3) (λs s s=>rfl) h1 h2)
 |bN t a b cP dF=>exactλc xs=>s1 xs λx=>tIf (R:=λx=>SD (.bN t a b) c [x]) x .no λv y z p=>dB (bo t .a9 c [v]) λh=>dD (cP c y) λfT h1=>dD (dF c z) λpM h2=>ND (a.mS&&!a.j5) (λq=>.yes pM (Fg h h1 h2 (.inr (NF q)) (.inl rfl))) (ND (b.mS&&!b.j5) (λq=>.yes fT (Fg h h1 h2 (.inl rfl) (.inr (NF q)))) (dG (decide (fT=pM)) λq=>.yes pM (Fg h h1 h2 (.inl (aq q)) (.inl rfl))))
 |skip=>exactλc xs=>gl (R:=SD .skip c) xs (.yes _ YR) λs s=>.no
 |seq a b cP dF=>exactλc xs=>gl (R:=SD (.seq a b) c) xs .no λx r=>dD (cP c [x]) λo h1=>dD (dF (cB c o) r) λo' h2=>dG (!a.j5||decide (o=o')) λh=>.yes o' (YU h1 h2 (bor h (λq=>.inl (not_of q)) λq=>.inr (aq q)))
 |gh ks a ih=>exactλc xs=>dD (ih (cB c (d5 c.own ks)) xs) λo h=>.yes o (YV h)
 |eV k src body ih=>exactλc xs=>FW xs λt i b p=>oW (R:=λt=>SD (.eV k src body) c [.For t i b [] p]) t .no λx q=>dG (c.slots.lookup x==ab k&&!c.own.contains k&&gj i) λh=>dB (bo src .ia c [i]) λh1=>dD (ih c b) λo h2=>dG (decide (o=c.own)) λe=>.yes c.own (band h λh h5=>band h λh3 h4=>Zp (ao h3) (not_of h4) h5 h1 (aq e▸h2))
 |hY ks src body ih=>exactλc xs=>FW xs λt i b p=>wt (R:=λt=>SD (.hY ks src body) c [.For t i b [] p]) t .no λns j q=>dD (wu ns) λps hn=>dG (uh c ps ks&&ks.all (λi=>!c.own.contains i)&&gj i) λh=>dB (bo src .ia c [i]) λh1=>dD (ih c b) λo h2=>dG (decide (o=c.own)) λe=>.yes c.own (hn▸band h λh h5=>band h λh3 h4=>Zq (wx h3) h4 h5 h1 (aq e▸h2))
 |lU ks src body ih=>exactλc xs=>FW xs λt i b p=>wt (R:=λt=>SD (.lU ks src body) c [.For t i b [] p]) t .no λns j q=>dD (wu ns) λps hn=>Nu (R:=λi=>SD (.lU ks src body) c [.For (.Tuple ns j q) i b [] p]) i .no λf es kw cp=>gl (R:=λkw=>SD (.lU ks src body) c [.For (.Tuple ns j q) (.Call f es kw cp) b [] p]) kw (oW (R:=λf=>SD (.lU ks src body) c [.For (.Tuple ns j q) (.Call f es [] cp) b [] p]) f .no λx xp=>gl (R:=λes=>SD (.lU ks src body) c [.For (.Tuple ns j q) (.Call (.Name x xp) es [] cp) b [] p]) es .no λbg r=>gl (R:=λr=>SD (.lU ks src body) c [.For (.Tuple ns j q) (.Call (.Name x xp) (bg::r) [] cp) b [] p]) r (dG (uh c ps ks&&ks.all (λi=>!c.own.contains i)&&gB c x (s_ "enumerate")&&notStar bg) λh=>dB (bo src .val c [bg]) λh1=>dD (ih c b) λo h2=>dG (decide (o=c.own)) λe=>.yes c.own (hn▸band h λh h6=>band h λh h5=>band h λh3 h4=>ZJ (wx h3) h4 (uf aaa h5) h6 h1 (aq e▸h2))) λs s=>.no) λs s=>.no
 |wh n t body ih=>exactλc xs=>s1 xs λx=>tWh (R:=λx=>SD (.wh n t body) c [x]) x .no λv b e p=>gl (R:=λe=>SD (.wh n t body) c [.While v b e p]) e (dB (bo t .a9 c [v]) λh1=>dD (ih c b) λo h2=>dG (decide (o=c.own)) λe=>.yes c.own (Zr h1 (aq e▸h2))) λs s=>.no
 |ret fz e=>exactλc xs=>s1 xs λx=>aas (R:=λx=>SD (.ret fz e) c [x]) x .no λv p=>Option.casesOn (motive:=λv=>SD (.ret fz e) c [.Return v p]) v .no λv=>dB (bo e .val (cB c (d5 c.own fz)) [v]) λh=>.yes _ (YW h)
 |brk=>exactλc xs=>s1 xs λx=>aat (R:=λx=>SD .brk c [x]) x .no λp=>.yes _ YT
 |dead=>exactλc xs=>.yes _ YS
 |move=>exactλc xs=>.no
noncomputable def FX(ns:List (Str×jm))(l:List (Str×Nat))(ps:List Str):Bool:=
 ns.all (λp=>p.2 !=.free)&&(ps.zip (bf ps.length)).all (λp=>l.lookup p.1==ab p.2)&&l.all (λp=>ns.lookup p.1==ab .local||ns.lookup p.1==ab .cell)&&decide ((l.map (·.1)).Nodup)&&decide ((l.map (·.2)).Nodup)&&decide ps.Nodup
abbrev iL(X:Kx)(a:Addr)(fd:gX)(bd:List Stmt)(l:List (Str×Nat))(ps:List Str):Prop:=(∃o,X.K.lookup a=ab o/\o.data=.func fd)/\fd.body=.stmts bd/\fd.closure=[]/\fd.globals=gJ/\fd.builtins=jj/\(fd.scope.kind=.function)/\fd.scope.isCoroutine=false/\fd.scope.isGenerator=false/\(∃cd oc vs t,fd.code=.ref cd/\X.K.lookup cd=ab oc/\oc.data=.fields vs/\vs[1]?=ab (.str fd.qualname t))/\(∀vals:List ay,vals.length=ps.length->Kl fd ⟨vals,[]⟩=pure (ps.zip vals))/\FX fd.scope.names l ps=true
section
variable(h:iL X a fd bd l ps)
def iL.at_:=h.1
def iL.body:=h.2.1
def iL.zh:=h.2.2.1
def iL.glob:=h.2.2.2.1
def iL.bi:=h.2.2.2.2.1
def iL.kind:=h.2.2.2.2.2.1
def iL.co:=h.2.2.2.2.2.2.1
def iL.gen:=h.2.2.2.2.2.2.2.1
def iL.code:=h.2.2.2.2.2.2.2.2.1
def iL.bind:=h.2.2.2.2.2.2.2.2.2.1
def iL.sc:=h.2.2.2.2.2.2.2.2.2.2
end
noncomputable def start(n:Nat)(ts:List T):aE:=ts.map ab++bZ n ae
def NH{n:Nat}{ts:List T}{i:Nat}{t:T}(h:get (start n ts) i=ab t):ts[i]?=ab t:=by
 rw[get_eq]at h
 unfold start at h
 by_cases q:i<ts.length
 ·rw[aoi (by rw[bK];exact q),gL]at h
  cases e:ts[i]? with
  |none=>rw[e]at h;exact aN h
  |some z=>rw[e]at h;exact h
 ·rw[DT (by rw[bK];exact fL.mp q),List.getElem?_replicate]at h
  by_cases w:i - (ts.map ab).length<n
  ·rw[ah w]at h;exact aN h
  ·rw[ai w]at h;exact aN h
noncomputable def cw(p:Fl×aE):Option T:=match p.1 with
 |.ret t=>ab t
 |.next=>ab .none
 |.brk=>ae
noncomputable def kQ(F:Nat->List T->Option T)(σ:S)(n m:Nat)(ts:List T):Option T:=if ts.length=m then(ex F σ (start n ts)).bind cw else ae
def aay{kindOf:Str->Option jm}{ps:List Str}:∀{vs:List ay}{m:Str->Option ay},ps.Nodup->ps.length=vs.length->(∀y,y∉ps->bindL kindOf (ps.zip vs) m y=m y)/\
  (∀(j:Nat)x v,ps[j]?=ab x->vs[j]?=ab v->kindOf x=ab .local->bindL kindOf (ps.zip vs) m x=ab v):=by
 induction ps with
 |nil=>exactλz z=>⟨λy z=>rfl,λj x v h=>aN h⟩
 |cons p ps ih=>
  intro vs m nd h
  cases vs with
  |nil=>cases h
  |cons v vs=>
   have cU:=g9.mp nd
   have ih:=λm=>ih (vs:=vs) (m:=m) cU.2 (Nat.succ.inj h)
   rw[DR]
   unfold bindL
   refine⟨λy hy=>?_,λj x w h1 h2 h3=>?_⟩
   ·have iX:y≠p:=λe=>hy (by rw[e];exact bk)
    rw[(ih _).1 y λe=>hy (bS _ e)]
    by_cases q:kindOf p=ab .local
    ·rw[ah q];exact ai iX
    ·rw[ai q]
   ·cases j with
    |zero=>
     cases h1;cases h2
     rw[(ih _).1 p cU.1,ah h3];exact ah rfl
    |succ j=>exact(ih _).2 j x w h1 h2 h3
def aaz{kindOf:Str->Option jm}{ps:List Str}:∀{vs:List ay}{m:Str->Option ay},ps.Nodup->ps.length=vs.length->(∀y,y∉ps->bindC kindOf (ps.zip vs) m y=m y)/\
  (∀(j:Nat)x v,ps[j]?=ab x->vs[j]?=ab v->kindOf x=ab .cell->bindC kindOf (ps.zip vs) m x=ab v):=by
 induction ps with
 |nil=>exactλz z=>⟨λy z=>rfl,λj x v h=>aN h⟩
 |cons p ps ih=>
  intro vs m nd h
  cases vs with
  |nil=>cases h
  |cons v vs=>
   have cU:=g9.mp nd
   have ih:=λm=>ih (vs:=vs) (m:=m) cU.2 (Nat.succ.inj h)
   rw[DR]
   unfold bindC
   refine⟨λy hy=>?_,λj x w h1 h2 h3=>?_⟩
   ·have iX:y≠p:=λe=>hy (by rw[e];exact bk)
    rw[(ih _).1 y λe=>hy (bS _ e)]
    by_cases q:kindOf p=ab .local
    ·rw[ah q]
    ·rw[ai q];exact ai iX
   ·cases j with
    |zero=>
     cases h1;cases h2
     rw[(ih _).1 p cU.1,ai (by rw[h3];intro e;cases e)];exact ah rfl
    |succ j=>exact(ih _).2 j x w h1 h2 h3
def B5{names:List (Str×jm)}{n:Nat}{x:Str}(h:names.lookup x=ab .cell):((fm n names []).lookup x).isSome=true:=EK names n [] x (.inl (lookup_mem h))
abbrev rO(ns:List (Str×jm))(l:List (Str×Nat))(ps:List Str):Prop:=(∀p∈ns,p.2≠.free)/\(∀(j:Nat)x,ps[j]?=ab x->l.lookup x=ab j)/\(∀x i,l.lookup x=ab i->ns.lookup x=ab .local∨ns.lookup x=ab .cell)/\(l.map (·.1)).Nodup/\(l.map (·.2)).Nodup/\ps.Nodup
section
variable(h:rO ns l ps)
def rO.aaA:=h.1
def rO.slot:=h.2.1
def rO.kinds:=h.2.2.1
def rO.nd:=h.2.2.2.1
def rO.cL:=h.2.2.2.2.1
def rO.B6:=h.2.2.2.2.2
end
def aaB{ns:List (Str×jm)}{l:List (Str×Nat)}{ps:List Str}(h:FX ns l ps=true):rO ns l ps:=band h λh h6=>band h λh h5=>band h λh h4=>band h λh h3=>band h λh1 h2=>
 ⟨λp hp e=>ft ((show(p.2 !=.free)=false by rw[e];rfl).symm.trans (bA.mp h1 p hp)),λj x hj=>ao (bA.mp h2 (x,j) (dZ (qI.mpr ⟨hj,DU (iR.mp hj).1⟩))),
  λx i hx=>bor (bA.mp h3 (x,i) (lookup_mem hx)) (λq=>.inl (ao q)) λq=>.inr (ao q),aq h4,aq h5,aq h6⟩
section
variable{C:Cx}{k:Nat}{A:aM}{N:Addr->Prop}{s:az}{E:ay->az->Prop}
abbrev mW(X:Kx)(k:Nat)(A:aM)(fd:gX)(l:List (Str×Nat))(N:Addr->Prop)(r:aE)(s:az)(env:Env)(M N':Addr->Prop)(aB:az):Prop:=env.code=fd.code/\env.scope=fd.scope/\env.frame=ab env.locals/\env.qual=fd.qualname++".<locals>."/\env.cells=fm (s.heap.objs.size+1) fd.scope.names []/\At X k (A.deeper env) env ⟨fd.scope.names,l,[]⟩ N' r aB/\(Fw X env ⟨fd.scope.names,l,[]⟩ N M N' (λz=>0) r aB.heap)/\Kp X s aB/\(∀b,M b->s.heap.objs.size<=b)/\(∀b,N' b->N b∨s.heap.objs.size<=b)/\(∀b,Fr env b->s.heap.objs.size<=b)
section
variable(h:mW X k A fd l N r s env M N' aB)
def mW.code:=h.1
def mW.qual:=h.2.2.2.1
def mW.cells:=h.2.2.2.2.1
def mW.a:=h.2.2.2.2.2.1
def mW.F:=h.2.2.2.2.2.2.1
def mW.kp:=h.2.2.2.2.2.2.2.1
def mW.hM:=h.2.2.2.2.2.2.2.2.1
def mW.hN:=h.2.2.2.2.2.2.2.2.2.1
def mW.fr:=h.2.2.2.2.2.2.2.2.2.2
end
noncomputable def zi:Flow->ay
 |.ret v=>v
 |_=>.none
def NI{X:Kx}{a:Addr}{fd:gX}{body:List Stmt}{l:List (Str×Nat)}{ps:List Str}(n:Nat)(f:iL X a fd body l ps){ts:List T}{vals:List ay}
  (ra:RA (k+1) A) (wd:Wd X s.heap) (ng:NG X N s.heap) (hv:aL X N s.heap ts vals) (hl:ts.length=ps.length) {Q:ay->az->Prop}
  (h:∀{env aB M N'},mW X k A fd l N (start n ts) s env M N' aB->aA (model X.prog X.w) (A.deeper env) (bL body env) (λg s'=>Q (zi g) s') (λu u=>False) aB):
  gN (model X.prog X.w) A (.call (.ref a) ⟨vals,[]⟩) (λr s'=>match r with|.ok (.ret v)=>Q v s'|_=>False) s:=by
 have zj:vals.length=ps.length:=by rw[hv.length,hl]
 obtain⟨o,ho,hd⟩:=f.at_
 obtain⟨cd,oc,vs,ct,iE,nK,lT,hq⟩:=f.code
 have S:=aaB f.sc
 refine codeAny_call_cells ra.room (wd.K _ _ ho) hd wd.nolimit ⟨cd,oc,vs,ct,iE,wd.K _ _ nK,lT,hq⟩ f.body (f.bind vals zj) f.zh (λx hx=>?_) (λaB hi=>?_) f.co f.gen f.kind
 ·obtain⟨j,hj⟩:=tA.mp (tw hx).1
  exact(S.kinds _ _ (S.slot j _ hj)).imp id λq=>⟨q,B5 q⟩
 ·generalize hL:s.heap.objs.size=L at hi
  obtain⟨bJ,tk,rfl⟩:=hi.toInCall.same
  have keep:=hi.toInCall.keep
  have gQ:=hi.toInCall.ns
  have wC:L<bJ.objs.size:=gQ.lt
  have kp:Kp X s {s with heap:=bJ,toks:=tk}:=Kp.of keep (by rw[hL];exact cT wC)
  have NJ:∀{b:Addr},L<=b->b∉aV:=λ{b}h q=>bx (ng.lt b (ng.tb b q)) (hL.symm▸h)
  have j9:∀{x b},(xX fd L a).cells.lookup x=ab b->L<b/\(∃v,bJ.IsCell b v):=λ{x b}hb=>⟨hi.above x b (lookup_mem hb),_,hi.cell x b hb⟩
  have inj:∀x y b,(xX fd L a).cells.lookup x=ab b->(xX fd L a).cells.lookup y=ab b->x=y:=λx y b h1 h2=>name_of_addr hi.apart (lookup_mem h1) (lookup_mem h2)
  have NK:∀b,(N b∨(L<=b/\b<bJ.objs.size))->N b∨s.heap.objs.size<=b:=λb q=>q.imp id λz=>hL.symm▸z.1
  have oY:aL X (λb=>N b∨(L<=b/\b<bJ.objs.size)) bJ ts vals:=hv.move NK λb o q eb=>keep b o eb
  have ne:∀x b,(xX fd L a).cells.lookup x=ab b->b≠L:=λx b hb=>iS (j9 hb).1
  have ka:At X k (A.deeper (xX fd L a)) (xX fd L a) ⟨fd.scope.names,l,[]⟩ (λb=>N b∨(L<=b/\b<bJ.objs.size)) (start n ts) {s with heap:=bJ,toks:=tk}:=by
   refine⟨⟨f.kind,rfl,f.glob,f.bi,NJ (bj _),λx b hb=>NJ (cT (j9 hb).1),λx hx=>?_,λx b hb=>⟨(j9 hb).2,ne x b hb⟩,inj,λx i t h1 h2=>?_⟩,wd.kp kp,ng.more (λb q=>.inl q) wd (by rw[hL];exact cT wC) (λb q=>q.imp id λz=>⟨hL.symm▸z.1,z.2⟩),ra.deeper⟩
   ·exact hx.elim (λhx=>mD.mp (B5 hx)) λhx=>aj rfl (S.aaA _ (lookup_mem hx))
   ·have h3:=NH h2
    obtain⟨v,h4,h5⟩:=oY.get h3
    have dp:i<ps.length:=hl▸(iR.mp h3).1
    have hy:ps[i]?=ab ps[i]:=iq dp
    cases BX S.cL h1 (S.slot i _ hy)
    refine⟨v,(S.kinds _ i h1).imp (λq=>⟨q,_,gQ,(aay S.B6 zj.symm).2 i _ v hy h4 q⟩) λq=>?_,h5⟩
    obtain⟨b,hb⟩:=mD.mp (B5 (n:=L+1) q)
    have hc:=hi.cell _ b hb
    rw[(aaz (m:=λu=>ae) S.B6 zj.symm).2 i _ v hy h4 q]at hc
    exact⟨.inl q,b,hb,hc⟩
  have FY:Fw X (xX fd L a) ⟨fd.scope.names,l,[]⟩ N (λb=>L<=b/\b<bJ.objs.size) (λb=>N b∨(L<=b/\b<bJ.objs.size)) (λu=>0) (start n ts) bJ:=by
   refine⟨⟨f.kind,⟨⟨bj _,wC⟩,_,gQ⟩,λx hx=>?_,inj,ne⟩,λb q=>.inr q,λb q z=>bx (ng.lt b z) (hL.symm▸q.1),λb q=>.inl q,S.nd,S.cL,λi w=>ft w.1,λx i t h1 h2=>ft h2,λi j w=>ft w.1⟩
   obtain⟨i,E6⟩:=mD.mp hx
   refine(S.kinds x i E6).imp id λq=>?_
   obtain⟨b,hb⟩:=mD.mp (B5 (n:=L+1) q)
   exact⟨q,b,hb,⟨cT (j9 hb).1,(j9 hb).2.elim λv z=>z.elim λo z=>bw z.1⟩,(j9 hb).2⟩
  refine eE (h ⟨rfl,rfl,rfl,rfl,by rw[hL];rfl,ka,FY,kp,λb q=>hL.symm▸q.1,NK,λb q=>hL.symm▸q.elim (λe=>bO e.symm) λz=>z.elim λx hb=>cT (j9 hb).1⟩) (λg s' hg=>?_) λu u z=>z.elim
  cases g<;>exact hg
def uj{X:Kx}{a:Addr}{fd:gX}{body:List Stmt}{l:List (Str×Nat)}{ps:List Str}(n:Nat)(f:iL X a fd body l ps){ts:List T}{vals:List ay}
  (ra:RA (k+1) A) (wd:Wd X s.heap) (ng:NG X N s.heap) (hv:aL X N s.heap ts vals) (hl:ts.length=ps.length) {Q:ay->az->Prop}
  (h:∀{env aB M N'},mW X k A fd l N (start n ts) s env M N' aB->aA (model X.prog X.w) (A.deeper env) (bL body env) (λg s'=>Q (zi g) s') (λz z=>False) aB):
  aA (model X.prog X.w) A (call (.ref a) vals) Q E s:=by
 refine pw (qF (NI n f ra wd ng hv hl h) λr s' hr=>?_)
 cases r with
 |error e=>exact hr.elim
 |ok fl=>cases fl<;>first|exact hr|exact hr.elim
def aaC(H:Ok C k){a:Addr}{fd:gX}{body:List Stmt}{l:List (Str×Nat)}{ps:List Str}{σ:S}{n:Nat}{o':List Nat}(f:iL C.X a fd body l ps)(hc:bR σ ⟨fd.scope.names,l,[]⟩ body o'){ts:List T}{vals:List ay}{t:T}
  (ra:RA (k+1) A) (wd:Wd C.X s.heap) (ng:NG C.X N s.heap) (hv:aL C.X N s.heap ts vals) (e:kQ C.F σ n ps.length ts=ab t):aA (model C.X.prog C.X.w) A (call (.ref a) vals) (Res C.X N s t) E s:=by
 refine gi e λhl e=>aO e λp hex he=>uj n f ra wd ng hv hl λ{env aB M N'}c=>?_
 refine eE (hc H (fl:=p.1) (r':=p.2) c.a c.F hex λy y=>False) (λg s' L'=>?_) λy y z=>z.elim
 cases L' with|mk fo mv n0 _ _ _=>
 have k':Kp C.X s s':=((Mv.of (M:=λy=>False) c.kp).trans mv λd q=>.inr (c.hM d q)).kp λy q=>q
 obtain⟨fl,r'⟩:=p
 cases fl with
 |next=>cases fo;cases he;exact⟨k',.none⟩
 |ret u=>obtain⟨v,rfl,hv⟩:=fo;cases he;exact⟨k',hv.mono n0⟩
 |brk=>exact aN he
end
def dq(X:Kx)(k:Nat)(a:Addr)(G:List T->Option T):Prop:=
 ∀⦃A N s ts vals t⦄E,RA k A->Wd X s.heap->NG X N s.heap->aL X N s.heap ts vals->G ts=ab t->aA (model X.prog X.w) A (call (.ref a) vals) (Res X N s t) E s
def dq.sub{X:Kx}{k:Nat}{a:Addr}{G G':List T->Option T}(h:dq X k a G)(q:∀ts t,G' ts=ab t->G ts=ab t):dq X k a G':=λA N s ts vals t E ra wd ng hv e=>h E ra wd ng hv (q _ _ e)
def NL{C:Cx}{k:Nat}(H:Ok C k){a:Addr}{fd:gX}{body:List Stmt}{l:List (Str×Nat)}{ps:List Str}(σ:S)(n:Nat){o':List Nat}(f:iL C.X a fd body l ps)(hc:bR σ ⟨fd.scope.names,l,[]⟩ body o'):dq C.X (k+1) a (kQ C.F σ n ps.length):=
 λA N s ts vals t E ra wd ng hv e=>aaC H f hc ra wd ng hv e
section
variable{X:Kx}
def dq.call{k:Nat}{a:Addr}{fd:gX}{G:List T->Option T}(h:dq X k a G)(ho:∃o,X.K.lookup a=ab o/\o.data=.func fd):oU X k (.ref a) G:=λA N s pos trees ts t E ra wd ng hp e args=>by
 obtain⟨o,ho,hd⟩:=ho
 exact Bb (o:=o) (fd:=fd) (ic hp (mo (args E) λvs aB z=>⟨⟨(wd.kp z.1).K _ _ ho,hd⟩,mo (h E ra (wd.kp z.1) (ng.kp z.1) z.2 e) λv s₂ q=>⟨z.1.trans q.1,q.2⟩⟩))
def NM{m n:Str}{t:Tok}{v:ay}{hh:Int}{es:List jh}(q:m≠n):getL n (⟨hh,.str m t,v⟩::es)=getL n es:=by
 have:(m==n)=false:=beq_eq_false_iff_ne.mpr q
 unfold getL
 rw[TJ]
 simp only[UA,this]
 rw[DC]
 simp only[jh.refKey,an5]
 rfl
def uk{n:Str}{ns:List Str}{vs:List ay}{es:List jh}(h:gf ns vs es):(n∉ns->getL n es=ab ae)/\(∀i:Nat,ns.Nodup->ns[i]?=ab n->getL n es=ab vs[i]?):=by
 induction h with
 |nil=>exact⟨λz=>rfl,λi z h=>aN h⟩
 |cons r ih=>
  refine⟨λh=>?_,λi nd h=>?_⟩
  ·rw[NM λe=>h (by rw[e];exact bk)]
   exact ih.1 λq=>h (bS _ q)
  ·have cU:=g9.mp nd
   cases i with
   |zero=>
    cases h
    unfold getL
    simp [TJ,UA]
   |succ i=>
    rw[NM λe=>cU.1 (by rw[e];exact dZ h)]
    exact ih.2 i cU.2 h
def dq.bE{k c f:Nat}{fd:gX}{nm:Str}{G:List T->Option T}(h:dq X k f G)(ho:∃o,X.K.lookup f=ab o/\o.data=.func fd)
  (FZ:dQ X.K (.ref (dR c).at_) "__getattribute__"=ab (ab (.builtin "object.__getattribute__"))) (hk:dQ X.K (.ref (dR c).at_) "__getattr__"=ab ae)
  (hf:dQ X.K (.ref (dR c).at_) nm=ab (ab (.ref f))) (ht:Bc X.K (.ref f)=ab (.type "function")) (hn:nm∉(dR c).names)
  (hG:∀x ts t,G (x::ts)=ab t->∃l,x=.ins c l):rj X k nm G:=by
 intro A N s pos pl trees x ov ts t E ra wd ng hx hp e args
 obtain⟨l,rfl⟩:=hG _ _ _ e
 obtain⟨o,ho,hd⟩:=ho
 have F7:=hx
 cases hx with
 | @ins a dA _ es n vs _ h1 h2 h3 h4 h5 h6=>
  refine PySem.W.method_fn (prog:=X.prog) (w:=X.w) wd.K (C:=(dR c).at_) (ox:=aoj (dR c).at_ dA) (od:=ab {cls:=.type "dict",data:=.dict es.toArray n}) ⟨h1,rfl,rfl,h2⟩ FZ hk hf ht ?_ ?_
  ·show(lookIn nm _).map _=_
   rw[show lookIn nm ({cls:=.type "dict",data:=.dict es.toArray n}:Obj)=getL nm es from rfl,(uk (n:=nm) h5).1 hn];rfl
  ·exact Bb (o:=o) (fd:=fd) (ic hp (mo (args s (Kp.refl s) E) λvs aB z=>⟨⟨(wd.kp z.1).K _ _ ho,hd⟩,mo (h E ra (wd.kp z.1) (ng.kp z.1) (.cons (F7.kp ng z.1) z.2) e) λv s₂ q=>⟨z.1.trans q.1,q.2⟩⟩))
def handed{N:Addr->Prop}{h:Heap}{t:T}{v:ay}(x:VR X N h t v):UC v=true:=by cases x<;>rfl
def aaD{i:Nat}{nm:Str}(hi:(dR (i/10)).names[i%10]?=ab nm)(pO:(dR (i/10)).names.Nodup)
  (FZ:dQ X.K (.ref (dR (i/10)).at_) "__getattribute__"=ab (ab (.builtin "object.__getattribute__")))
  (hh:xY X.K (dR (i/10)).at_=true) {attr:Option ay} (ha:dQ X.K (.ref (dR (i/10)).at_) nm=ab attr) (hn:noGet X.K attr=true) (uo:i≠100):tU X i nm:=by
 intro A N s x ov t Q E wd ng hx e q
 cases hx with
 | @ins a dA c es n vs _ h1 h2 h3 h4 h5 h6=>
  refine gi (show(if i/10=c then _ else ae)=ab t from e) λhc e'=>?_
  subst hc
  obtain⟨v,e1,e2⟩:=h6.get e'
  have hl:=(uk (n:=nm) h5).2 _ pO hi
  rw[e1]at hl
  exact aok (prog:=X.prog) (w:=X.w) wd.K (C:=(dR (i/10)).at_) (ox:=aoj (dR (i/10)).at_ dA) (od:=ab {cls:=.type "dict",data:=.dict es.toArray n}) ⟨h1,rfl,rfl,h2⟩ FZ
   (PySem.W.findObj_own hh ha hn hl) (handed e2) (q _ v Kp.tok (e2.kp ng Kp.tok))
 |eG=>exact ifs e λw z=>aj w uo
 |_=>exact aN e
end
structure Row where
 a:Addr
 f:Nat
 c:Nat
 σ:S
 l:List (Str×Nat)
 n:Nat
 m:Nat
noncomputable def slots(l:List String):List (Str×Nat):=(l.map s_).zip (bf l.length)
noncomputable def q0:S:=(.seq (.bN (.cmp .le (.bin .sub (.sm .pC (.var 0) .nil) (.var 2)) (.lit (.int 4000))) (.seq (.ret [] (.prim .divmod (.cons (.var 0) (.cons (.var 1) .nil)))) .skip) .skip) (.seq (.asg 3 (.bin .band (.var 2) (.lit (.int 1)))) (.seq (.bN (.var 3) (.seq (.aug 0 .shl (.lit (.int 1))) (.seq (.aug 1 .shl (.lit (.int 1))) (.seq (.aug 2 .add (.lit (.int 1))) .skip))) .skip) (.seq (.asg 4 (.bin .shr (.var 2) (.lit (.int 1)))) (.seq (.asg 5 (.bin .sub (.bin .shl (.lit (.int 1)) (.var 4)) (.lit (.int 1)))) (.seq (.fP [6,7] [ab (.bin .shr (.var 1) (.var 4)),ab (.bin .band (.var 1) (.var 5))]) (.seq (.fA [8,9] (.call 1 (.cons (.bin .shr (.var 0) (.var 2)) (.cons (.bin .band (.bin .shr (.var 0) (.var 4)) (.var 5)) (.cons (.var 1) (.cons (.var 6) (.cons (.var 7) (.cons (.var 4) .nil)))))))) (.seq (.fA [10,9] (.call 1 (.cons (.var 9) (.cons (.bin .band (.var 0) (.var 5)) (.cons (.var 1) (.cons (.var 6) (.cons (.var 7) (.cons (.var 4) .nil)))))))) (.seq (.bN (.var 3) (.seq (.aug 9 .shr (.lit (.int 1))) .skip) .skip) (.seq (.ret [] (.tup (.cons (.bin .bor (.bin .shl (.var 8) (.var 4)) (.var 10)) (.cons (.var 9) .nil)))) .skip))))))))))
noncomputable def w0:List (Str×Nat):=slots ["a","b","n","pad","half_n","mask","b1","b2","q1","r","q2"]
noncomputable def q1:S:=(.seq (.bN (.cmp .eq (.bin .shr (.var 0) (.var 5)) (.var 3)) (.seq (.fP [6,7] [ab (.bin .sub (.bin .shl (.lit (.int 1)) (.var 5)) (.lit (.int 1))),ab (.bin .add (.bin .sub (.var 0) (.bin .shl (.var 3) (.var 5))) (.var 3))]) .skip) (.seq (.fA [6,7] (.call 0 (.cons (.var 0) (.cons (.var 3) (.cons (.var 5) .nil))))) .skip)) (.seq (.asg 7 (.bin .sub (.bin .bor (.bin .shl (.var 7) (.var 5)) (.var 1)) (.bin .mul (.var 6) (.var 4)))) (.seq (.wh 100000 (.cmp .lt (.var 7) (.lit (.int 0))) (.seq (.aug 6 .sub (.lit (.int 1))) (.seq (.aug 7 .add (.var 2)) .skip))) (.seq (.ret [] (.tup (.cons (.var 6) (.cons (.var 7) .nil)))) .skip))))
noncomputable def w1:List (Str×Nat):=slots ["a12","a3","b","b1","b2","n","q","r"]
noncomputable def q4:S:=(.seq (.asg 2 (.sm .pC (.var 1) .nil)) (.seq (.asg 3 (.call 2 (.cons (.var 0) (.cons (.var 2) .nil)))) (.seq (.asg 4 (.lit (.int 0))) (.seq (.own 5 (.lst .nil)) (.seq (.eV 6 (.Bx (.var 3)) (.seq (.fA [7,4] (.call 0 (.cons (.bin .add (.bin .shl (.var 4) (.var 2)) (.var 6)) (.cons (.var 1) (.cons (.var 2) .nil))))) (.seq (.app 5 (.var 7)) .skip))) (.seq (.rev 5) (.gh [5] (.seq (.asg 8 (.call 3 (.cons (.var 5) (.cons (.var 2) .nil)))) (.seq (.ret [] (.tup (.cons (.var 8) (.cons (.var 4) .nil)))) .skip)))))))))
noncomputable def w4:List (Str×Nat):=slots ["a","b","n","a_digits","r","q_digits","a_digit","q_digit","q"]
noncomputable def q5:S:=(.seq (.bN (.cmp .eq (.var 1) (.lit (.int 0))) (.seq .dead .skip) (.seq (.bN (.cmp .lt (.var 1) (.lit (.int 0))) (.seq (.fA [2,3] (.call 5 (.cons (.neg (.var 0)) (.cons (.neg (.var 1)) .nil)))) (.seq (.ret [] (.tup (.cons (.var 2) (.cons (.neg (.var 3)) .nil)))) .skip)) (.seq (.bN (.cmp .lt (.var 0) (.lit (.int 0))) (.seq (.fA [2,3] (.call 5 (.cons (.inv (.var 0)) (.cons (.var 1) .nil)))) (.seq (.ret [] (.tup (.cons (.inv (.var 2)) (.cons (.bin .add (.var 1) (.inv (.var 3))) .nil)))) .skip)) (.seq (.ret [] (.call 4 (.cons (.var 0) (.cons (.var 1) .nil)))) .skip)) .skip)) .skip)) .skip)
noncomputable def w5:List (Str×Nat):=slots ["a","b","q","r"]
noncomputable def q9:S:=(.seq (.ret [] (.comp 2 (.var 2) (.hU (.bin .sub (.lit (.int 8)) (.var 1))) (.jt (.cmp .eq (.idx (.var 0) (.var 2)) (.lit (.str (s_ "r")))) (.cmp .eq (.idx (.var 0) (.bin .add (.var 2) (.var 1))) (.lit (.str (s_ "u"))))))) .skip)
noncomputable def w9:List (Str×Nat):=slots ["text","t"]
noncomputable def B7:S:=(.seq (.ret [] (.tup (.cons (.bin .add (.bin .add (.bin .add (.bin .add (.cY false (.var 0) .absent (.var 1)) (.lit (.str (s_ "u")))) (.cY false (.var 0) (.bin .add (.var 1) (.lit (.int 1))) (.bin .add (.var 1) (.var 2)))) (.lit (.str (s_ "r")))) (.cY false (.var 0) (.bin .add (.bin .add (.var 1) (.var 2)) (.lit (.int 1))) .absent)) (.cons (.bin .pow (.neg (.lit (.int 1))) (.sm .count (.cY false (.var 0) (.var 1) (.bin .add (.var 1) (.var 2))) (.cons (.lit (.str (s_ "u"))) .nil))) .nil)))) .skip)
noncomputable def w10:List (Str×Nat):=slots ["text","i","t"]
noncomputable def zk:S:=(.seq (.fP [3,4,5] [ab (.call 9 (.cons (.var 0) (.cons (.var 1) .nil))),ab (.lit (.int 1)),ae]) (.seq (.wh 100000 (.cmp .ne (.var 3) (.lst .nil)) (.seq (.fA [2,6] (.call 5 (.cons (.var 2) (.cons (.prim .len (.cons (.var 3) .nil)) .nil)))) (.seq (.app 5 (.tup (.cons (.idx (.var 3) (.var 6)) (.cons (.prim .len (.cons (.var 3) .nil)) (.cons (.var 6) .nil))))) (.seq (.fA [0,7] (.call 10 (.cons (.var 0) (.cons (.idx (.var 3) (.var 6)) (.cons (.var 1) .nil))))) (.seq (.fP [3,4] [ab (.call 9 (.cons (.var 0) (.cons (.var 1) .nil))),ab (.bin .mul (.var 4) (.var 7))]) .skip))))) (.gh [5] (.seq (.hY [8,9,6] (.cY true (.var 5) .absent .absent) (.seq (.asg 2 (.bin .add (.bin .mul (.var 2) (.var 9)) (.bin .mod (.var 6) (.var 9)))) .skip)) (.seq (.ret [] (.tup (.cons (.var 0) (.cons (.var 4) (.cons (.prim .qX (.cons (.jZ [10,11,12] (.var 10) (.var 5) (.lit (.bool true))) .nil)) (.cons (.var 2) .nil)))))) .skip)))))
noncomputable def NO:List (Str×Nat):=slots ["text","t","order","places","sign","steps","pick","one","place","many"]
noncomputable def zm:S:=(.seq (.asg 3 (.jY (.var 0) (.lit (.int 1)))) (.seq (.eV 4 (.hU (.var 2)) (.seq (.own 5 (.jY .nil .nil)) (.seq (.eV 6 (.var 3) (.seq (.hY [7,8] (.comp 9 (.call 10 (.cons (.var 6) (.cons (.var 9) (.cons (.var 1) .nil)))) (.call 9 (.cons (.var 6) (.cons (.var 1) .nil))) (.lit (.bool true))) (.seq (.tQ 5 (.var 7) (.bin .add (.sm .vJ (.var 5) (.cons (.var 7) (.cons (.lit (.int 0)) .nil))) (.bin .mul (.var 8) (.idx (.var 3) (.var 6))))) .skip)) .skip)) (.gh [5] (.seq (.asg 3 (.var 5)) .skip))))) (.seq (.ret [] (.var 3)) .skip)))
noncomputable def NP:List (Str×Nat):=slots ["text","t","strips","front","turn","back","word","new","one"]
noncomputable def uv:S:=(.seq (.fP [3,4,5] [ab (.lit (.int 1)),ae,ae]) (.seq (.eV 6 (.hU (.lit (.int 14))) (.seq (.app 5 (.bE 26 (.var 0) (.cons (.bin .add (.bin .add (.lit (.str (s_ "*"))) (.call 6 (.cons (.var 1) (.cons (.lit (.str (s_ "r"))) .nil)))) (.lit (.str (s_ "/ruuuu/")))) .nil))) (.seq (.asg 7 (.bE 27 (.var 0) (.cons (.var 1) .nil))) (.seq (.bN (.qY false (.var 7) (.bool true)) (.seq .brk .skip) .skip) (.seq (.app 4 (.sm .rfind (.var 1) (.cons (.bin .add (.bin .add (.lit (.str (s_ "r"))) (.cY false (.var 7) (.lit (.int 1)) (.neg (.lit (.int 1))))) (.lit (.str (s_ "u")))) .nil))) (.seq (.asg 1 (.bin .add (.bin .add (.cY false (.var 1) .absent (.idx (.var 4) (.neg (.lit (.int 1))))) (.var 7)) (.cY false (.var 1) (.bin .add (.bin .add (.idx (.var 4) (.neg (.lit (.int 1)))) (.var 2)) (.lit (.int 1))) .absent))) (.seq (.aug 3 .mul (.bin .pow (.neg (.lit (.int 1))) (.sm .count (.cY false (.var 7) (.lit (.int 1)) (.neg (.lit (.int 1)))) (.cons (.lit (.str (s_ "u"))) .nil)))) .skip))))))) (.gh [5,4] (.seq (.ret [] (.tup (.cons (.var 1) (.cons (.var 3) (.cons (.var 4) (.cons (.var 5) .nil)))))) .skip))))
noncomputable def NQ:List (Str×Nat):=slots ["machine","text","t","sign","way","told","turn","verdict"]
noncomputable def NR:S:=(.seq (.fA [1,2] (.attr (.var 0) 3)) (.seq (.ret [] (.prim .max2 (.cons (.bin .sub (.prim .len (.cons (.var 1) .nil)) (.lit (.int 1))) (.cons (.var 2) .nil)))) .skip))
noncomputable def NS:List (Str×Nat):=slots ["self","count","trailing"]
noncomputable def NU:S:=(.seq (.fA [2,3] (.attr (.var 0) 3)) (.seq (.asg 4 (.lit (.int 0))) (.seq (.eV 5 (.mO (.var 1) (.prim .len (.cons (.var 2) .nil))) (.seq (.asg 4 (.bin .add (.var 4) (.bin .mul (.bin .fdiv (.var 5) (.var 1)) (.idx (.var 2) (.var 5))))) .skip)) (.seq (.ret [] (.bin .add (.var 3) (.bin .mul (.var 1) (.bin .add (.var 4) (.attr (.var 0) 2))))) .skip))))
noncomputable def NV:List (Str×Nat):=slots ["self","tabsize","count","trailing","il","i"]
noncomputable def q22:S:=(.seq (.ret [] (.cmp .eq (.attr (.var 0) 3) (.attr (.var 1) 3))) .skip)
noncomputable def w22:List (Str×Nat):=slots ["self","other"]
noncomputable def NW:S:=(.seq (.asg 2 (.bin .add (.prim .max2 (.cons (.bE 20 (.var 0) .nil) (.cons (.bE 20 (.var 1) .nil) .nil))) (.lit (.int 1)))) (.seq (.own 3 (.lst .nil)) (.seq (.eV 4 (.mO (.lit (.int 1)) (.bin .add (.var 2) (.lit (.int 1)))) (.seq (.bN (.cmp .ne (.bE 21 (.var 0) (.cons (.var 4) .nil)) (.bE 21 (.var 1) (.cons (.var 4) .nil))) (.seq (.app 3 (.tup (.cons (.var 4) (.cons (.bE 21 (.var 0) (.cons (.var 4) .nil)) (.cons (.bE 21 (.var 1) (.cons (.var 4) .nil)) .nil))))) .skip) .skip) .skip)) (.gh [3] (.seq (.ret [] (.var 3)) .skip)))))
noncomputable def NX:List (Str×Nat):=slots ["self","other","n","a","ts"]
noncomputable def NY:S:=(.seq (.bN (.cmp .ge (.attr (.var 0) 1) (.attr (.var 1) 1)) (.seq (.ret [] (.lit (.bool false))) .skip) .skip) (.seq (.bN (.jt (.attr (.var 0) 4) (.attr (.var 1) 4)) (.seq (.ret [] (.cmp .le (.attr (.var 0) 2) (.attr (.var 1) 2))) .skip) .skip) (.seq (.asg 2 (.bin .add (.prim .max2 (.cons (.bE 20 (.var 0) .nil) (.cons (.bE 20 (.var 1) .nil) .nil))) (.lit (.int 1)))) (.seq (.eV 3 (.mO (.lit (.int 2)) (.bin .add (.var 2) (.lit (.int 1)))) (.seq (.bN (.cmp .ge (.bE 21 (.var 0) (.cons (.var 3) .nil)) (.bE 21 (.var 1) (.cons (.var 3) .nil))) (.seq (.ret [] (.lit (.bool false))) .skip) .skip) .skip)) (.seq (.ret [] (.lit (.bool true))) .skip)))))
noncomputable def NZ:List (Str×Nat):=slots ["self","other","n","ts"]
noncomputable def N0:S:=(.seq (.asg 2 (.bin .add (.prim .max2 (.cons (.bE 20 (.var 0) .nil) (.cons (.bE 20 (.var 1) .nil) .nil))) (.lit (.int 1)))) (.seq (.own 3 (.lst .nil)) (.seq (.eV 4 (.mO (.lit (.int 1)) (.bin .add (.var 2) (.lit (.int 1)))) (.seq (.bN (.cmp .ge (.bE 21 (.var 0) (.cons (.var 4) .nil)) (.bE 21 (.var 1) (.cons (.var 4) .nil))) (.seq (.app 3 (.tup (.cons (.var 4) (.cons (.bE 21 (.var 0) (.cons (.var 4) .nil)) (.cons (.bE 21 (.var 1) (.cons (.var 4) .nil)) .nil))))) .skip) .skip) .skip)) (.gh [3] (.seq (.ret [] (.var 3)) .skip)))))
noncomputable def N1:List (Str×Nat):=slots ["self","other","n","a","ts"]
noncomputable def N6:S:=(.seq (.bN (.qY false (.var 1) .none) (.seq (.ret [] (.oP (.lit (.str (s_ "*"))) (.attr (.var 0) 10))) .skip) .skip) (.seq (.asg 1 (.sm .lower (.idx (.sm .split1 (.var 1) (.cons (.lit (.str (s_ "/"))) .nil)) (.lit (.int 0))) .nil)) (.seq (.eV 2 (.attr (.var 0) 10) (.seq (.bN (.cmp .ne (.var 2) (.lit (.str (s_ "*")))) (.seq (.asg 2 (.sm .lower (.var 2) .nil)) (.seq (.bN (.oP (.var 2) (.var 1)) (.seq (.ret [] (.lit (.bool true))) .skip) .skip) .skip)) .skip) .skip)) (.seq (.ret [] (.lit (.bool false))) .skip))))
noncomputable def N7:List (Str×Nat):=slots ["self","useragent","agent"]
noncomputable def N8:S:=(.seq (.asg 2 (.neg (.lit (.int 1)))) (.seq (.asg 3 (.lit (.bool true))) (.seq (.eV 4 (.attr (.var 0) 11) (.seq (.asg 5 (.bE 28 (.var 4) (.cons (.var 1) .nil))) (.seq (.bN (.var 5) (.seq (.bN (.cmp .gt (.var 5) (.var 2)) (.seq (.asg 2 (.var 5)) (.seq (.asg 3 (.attr (.var 4) 100)) .skip)) (.seq (.bN (.jt (.cmp .eq (.var 5) (.var 2)) (.mN (.var 3))) (.seq (.asg 3 (.attr (.var 4) 100)) .skip) .skip) .skip)) .skip) .skip) .skip))) (.seq (.ret [] (.var 3)) .skip))))
noncomputable def N9:List (Str×Nat):=slots ["self","filename","best_match","allowance","line","m"]
noncomputable def rows:List Row:=[⟨94,0,9,q0,w0,8,3⟩,⟨101,1,9,q1,w1,2,6⟩,⟨122,4,9,q4,w4,7,2⟩,⟨129,5,9,q5,w5,2,2⟩,⟨203,9,9,q9,w9,1,2⟩,⟨210,10,9,B7,w10,0,3⟩,⟨215,11,9,zk,NO,10,3⟩,⟨220,12,9,zm,NP,7,3⟩,⟨227,13,9,uv,NQ,5,3⟩,⟨38,20,0,NR,NS,2,1⟩,⟨45,21,0,NU,NV,4,2⟩,⟨52,22,0,q22,w22,0,2⟩,⟨59,23,0,NW,NX,3,2⟩,⟨66,24,0,NY,NZ,2,2⟩,⟨73,25,0,N0,N1,3,2⟩,⟨165,26,1,N6,N7,1,2⟩,⟨172,27,1,N8,N9,4,2⟩]
noncomputable def F8:ay->Option Str
 |.str x _=>ab x
 |_=>ae
noncomputable def Oa:Data->Option (Array ay)
 |.fields v=>ab v
 |_=>ae
noncomputable def codeOf(K:Frag)(fd:gX):Option Str:=(yC fd.code).bind λcd=>(K.lookup cd).bind λoc=>(Oa oc.data).bind λvs=>(vs[1]?).bind F8
noncomputable def bt:List (Addr×List (Str×Nat)×Nat):=rows.map (λr=>(r.a,r.l,r.m))++[(193,slots ["middle","verdict","rule"],2),(151,slots ["self"],1),(198,slots ["t","mute","turn","middles","step","record","middle"],3),(108,slots ["a","n","a_digits","inner"],2),
 (115,slots ["digits","n","inner"],2),(31,slots ["self","ws","S","T","count","b","n","nt","ch"],2),(186,slots ["e1","e2","entry"],2),(87,slots ["w","firsts","prefix"],1),(232,slots ["script","cells","k","x","number","z","w","shift","order","t","e","mute","bits","text","typed","due","asked","first","second","agents","more","machine","core","sign","way","told","spots","calm","floor","runner","line","base","tall","low","spare","where","nothing","tally","rows","table","hooks","near","far","wide","mirror","size","column","h","named","asks","above","under","often","count","rest"],1)]
noncomputable def rP(l:List (Str×Nat))(m:Nat):List Str:=(l.take m).map (·.1)
def aaH(P:dY):bt.map (λr=>(KK P).lookup r.1)=bt.map λr=>ab (ob P r.1):=by kernel_rfl
def aaI(P:dY):bt.map (λr=>(ob P r.1).data)=bt.map λr=>.func (bC r.1):=by kernel_rfl
def aaJ:bt.map (λr=>(bC r.1).body)=bt.map λr=>.stmts (body r.1):=by kernel_rfl
def aaK:bt.map (λr=>((bC r.1).closure,(bC r.1).globals,(bC r.1).builtins,(bC r.1).scope.kind,(bC r.1).scope.isCoroutine,(bC r.1).scope.isGenerator))=bt.map λz=>([],gJ,jj,.function,false,false):=by kernel_rfl
def aaL(g:Nat->ay):bt.map (λr=>Kl (bC r.1) ⟨(bf r.2.2).map g,[]⟩)=bt.map λr=>pure ((rP r.2.1 r.2.2).zip ((bf r.2.2).map g)):=by kernel_rfl
def aaM(P:dY):bt.map (λr=>codeOf (KK P) (bC r.1))=bt.map λr=>ab (bC r.1).qualname:=by kernel_rfl
def Ob:bt.all (λr=>FX (bC r.1).scope.names r.2.1 (rP r.2.1 r.2.2)&&decide ((rP r.2.1 r.2.2).length=r.2.2))=true:=by kernel_rfl
def aaN:rows.all (λr=>(oX r.σ ⟨(bC r.a).scope.names,r.l,[]⟩ (body r.a)).ok)=true:=by kernel_rfl
def aaO{v:ay}{x:Str}(h:F8 v=ab x):∃t,v=.str x t:=by cases v with|str y t=>cases h;exact⟨t,rfl⟩|_=>exact aN h
def aaP{v:ay}{a:Addr}(h:yC v=ab a):v=.ref a:=by cases v with|ref b=>cases h;rfl|_=>exact aN h
def aaQ{d:Data}{a:Array ay}(h:Oa d=ab a):d=.fields a:=by cases d with|fields b=>cases h;rfl|_=>exact aN h
def Oc{K:Frag}{fd:gX}(h:codeOf K fd=ab fd.qualname):∃cd oc vs t,fd.code=.ref cd/\K.lookup cd=ab oc/\oc.data=.fields vs/\vs[1]?=ab (.str fd.qualname t):=
 aO h λcd h1 h=>aO h λoc h2 h=>aO h λvs h3 h=>aO h λv h4 h=>(aaO h).elim λt e=>⟨cd,oc,vs,t,aaP h1,h2,aaQ h3,e▸h4⟩
def Od{vals:List ay}:vals=(bf vals.length).map λi=>vals.getD i default:=by
 refine DV λi=>?_
 rw[gL]
 by_cases h:i<vals.length
 ·rw[DU h,iq h,AW,Uj,iq h];rfl
 ·rw[vy (fL.mp h),vy (by rw[kr];exact fL.mp h)];rfl
def iM{X:Kx}{a:Addr}{l:List (Str×Nat)}{m:Nat}(h:(a,l,m)∈bt):iL X a (bC a) (body a) l (rP l m):=by
 have q:=jV.mp aaK _ h
 have z:=bA.mp Ob _ h
 refine⟨⟨_,jV.mp (aaH _) _ h,jV.mp (aaI _) _ h⟩,jV.mp aaJ _ h,af (·.1) q,af (·.2.1) q,af (·.2.2.1) q,af (·.2.2.2.1) q,af (·.2.2.2.2.1) q,af (·.2.2.2.2.2) q,Oc (jV.mp (aaM _) _ h),λvals hv=>?_,band z λa y=>a⟩
 have e:=jV.mp (aaL λi=>vals.getD i default) _ h
 have hm:m=vals.length:=(band z λy b=>aq b).symm.trans hv.symm
 subst hm
 rw[<-Od]at e
 exact e
def B8{r:Row}(h:r∈rows):(r.a,r.l,r.m)∈bt:=A4 _ (dy.mpr ⟨r,h,rfl⟩)
def Oe{C:Cx}{k:Nat}(H:Ok C k){r:Row}(h:r∈rows):dq C.X (k+1) r.a (kQ C.F r.σ r.n r.m):=by
 obtain⟨o,hc⟩:=Db.get _ (bA.mp aaN r h)
 have e:dq C.X (k+1) r.a (kQ C.F r.σ r.n (rP r.l r.m).length):=NL H r.σ r.n (iM (B8 h)) hc
 rw[show(rP r.l r.m).length=r.m from band (bA.mp Ob _ (B8 h)) λz b=>aq b]at e
 exact e
noncomputable def zo(c:Nat):List T->Bool
 |.ins d _::_=>d==c
 |_=>false
noncomputable def rowOf(f:Nat):Option Row:=rows.find? λr=>r.f==f
noncomputable def uw:List Nat:=[2,3,6,7,8,14,15,16,17,28]
noncomputable def Fn(sp:Nat->List T->Option T):Nat->Nat->List T->Option T
 |0=>λz z=>ae
 |n+1=>λf ts=>(rowOf f).elim (if uw.contains f=true then sp f ts else ae) λr=>if(r.c==9||zo r.c ts)=true then kQ (Fn sp n) r.σ r.n r.m ts else ae
def aaR:(rows.filter (·.c==9)).map (λr=>(nI r.f).bind d4)=(rows.filter (·.c==9)).map λr=>ab (.ref r.a):=by kernel_rfl
def Of:rows.all (λr=>(r.c==9&&(tM r.f).isNone)||(r.c !=9&&(nI r.f).isNone&&(tM r.f).all λx=>!(dR r.c).names.contains x))=true:=by kernel_rfl
def aaS(P:dY):(rows.filter (·.c !=9)).map (λr=>((tM r.f).bind λx=>dQ (KK P) (.ref (dR r.c).at_) x,Bc (KK P) (.ref r.a),dQ (KK P) (.ref (dR r.c).at_) "__getattribute__",dQ (KK P) (.ref (dR r.c).at_) "__getattr__"))=(rows.filter (·.c !=9)).map λr=>(ab (ab (.ref r.a)),ab (.type "function"),ab (ab (.builtin "object.__getattribute__")),ab ae):=by kernel_rfl
def aaT:uw.all (λf=>f==28||(tM f).isNone)=true:=by kernel_rfl
noncomputable def wD:List Nat:=[0,1,2,3,4,10,11,12,13,50]
def Og(P:dY):wD.map (λi=>(dQ (KK P) (.ref (dR (i/10)).at_) (oL i),xY (KK P) (dR (i/10)).at_,dQ (KK P) (.ref (dR (i/10)).at_) "__getattribute__",(dR (i/10)).names[i%10]?))=wD.map λi=>(ab ae,true,ab (ab (.builtin "object.__getattribute__")),ab (oL i)):=by kernel_rfl
def aaU:wD.all (λi=>decide ((dR (i/10)).names.Nodup))=true:=by kernel_rfl
def aaV:(bf 60).all (λi=>((dR (i/10)).names[i%10]?).isNone||wD.contains i)=true:=by kernel_rfl
section
variable{X:Kx}{k k0 n:Nat}{sp:Nat->List T->Option T}
def gf.len{ns:List Str}{vs:List ay}{es:List jh}(h:gf ns vs es):vs.length=ns.length:=by
 induction h with
 |nil=>rfl
 |cons r ih=>exact af (· +1) ih
def aaW{i:Nat}{nm:Str}(h:(dR (i/10)).names[i%10]?=ae)(uo:i≠100):tU X i nm:=by
 intro A N s x ov t Q E wd ng hx e q
 refine False.elim ?_
 clear q wd ng
 cases hx with
 | @ins a dA c es n vs ts h1 h2 h3 h4 h5 h6=>
  refine gi (show(if i/10=c then _ else ae)=ab t from e) λhc e'=>?_
  subst hc
  have l1:=(iR.mp e').1
  rw[<-h6.length,h5.len]at l1
  exact aj l1 (fL.mpr (anu.mp h))
 |eG=>exact ifs e λw z=>aj w uo
 |_=>exact aN e
def Ca(hr:tU X 100 (oL 100))(i:Nat):tU X i (oL i):=by
 by_cases uo:i=100
 ·exact uo▸hr
 ·cases e:(dR (i/10)).names[i%10]? with
  |none=>exact aaW e uo
  |some nm=>
   have hi:i∈wD:=by
    by_cases h:i<60
    ·exact bor (bA.mp aaV i (iu.mpr h)) (λq=>by rw[e]at q;exact ft q) jo.mp
    ·have h6:6<=i/10:=(UD (by decide)).mpr (fL.mp h)
     unfold dR at e
     rw[ai (λq=>aj (q▸h6:6<=_) (by decide)),ai (λq=>aj (q▸h6:6<=_) (by decide)),ai (λq=>aj (q▸h6:6<=_) (by decide))]at e
     exact aN e
   have f:=jV.mp (Og X.w.params) i hi
   exact aaD (af (·.2.2.2) f) (aq (bA.mp aaU i hi)) (af (·.2.2.1) f) (af (·.2.1) f) (af (·.1) f) rfl uo
def oU.mono{j:Nat}{v:ay}{G:List T->Option T}(h:oU X j v G)(q:j<=k):oU X k v G:=λA N s pos trees ts t E ra=>h A N s pos trees ts t E (ra.mono q)
def rj.mono{j:Nat}{nm:Str}{G:List T->Option T}(h:rj X j nm G)(q:j<=k):rj X k nm G:=λA N s pos pl trees x ov ts t E ra=>h A N s pos pl trees x ov ts t E (ra.mono q)
structure F9(X:Kx)(sp:Nat->List T->Option T)(k0:Nat):Prop where
 call:∀f x v,f∈uw->nI f=ab x->d4 x=ab v->oU X k0 v (sp f)
 Oh:rj X k0 (s_ "applies_to") (sp 28)
 Ga:tU X 100 (oL 100)
 cat:Es X
def Oi{f:Nat}{ts:List T}:Fn sp (n+1) f ts=(rowOf f).elim (if uw.contains f=true then sp f ts else ae) λr=>if(r.c==9||zo r.c ts)=true then kQ (Fn sp n) r.σ r.n r.m ts else ae:=rfl
def Cb{f:Nat}{ts:List T}(h:rowOf f=ae):Fn sp (n+1) f ts=if uw.contains f=true then sp f ts else ae:=by rw[Oi,h];rfl
def Ce{f:Nat}{ts:List T}{r:Row}(h:rowOf f=ab r):Fn sp (n+1) f ts=if(r.c==9||zo r.c ts)=true then kQ (Fn sp n) r.σ r.n r.m ts else ae:=by rw[Oi,h];rfl
def aaX{c:Nat}{x:T}{ts:List T}(h:zo c (x::ts)=true):∃l,x=.ins c l:=by cases x with|ins d l=>exact⟨l,by rw[ao h]⟩|_=>exact ft h
def aaY(S:F9 X sp k0):Ok ⟨X,Fn sp 0⟩ k where
 cat:=S.cat
 fns:=λf x v z z A N s pos trees ts t E z z z z e=>aN e
 yG:=λf x z A N s pos pl trees x ov ts t E z z z z z e=>aN e
 nR:=Ca S.Ga
def step(S:F9 X sp k0)(hk:k0<=k+1)(H:Ok ⟨X,Fn sp n⟩ k):Ok ⟨X,Fn sp (n+1)⟩ (k+1) where
 cat:=S.cat
 nR:=Ca S.Ga
 yG:=λf x e=>by
  cases q:rowOf f with
  |none=>
   by_cases h:f∈uw
   ·have h28:f=28:=bor (bA.mp aaT f h) ao λz=>by rw[e]at z;exact ft z
    subst h28
    cases e
    exactλA N s pos pl trees x ov ts t E ra wd ng hx hp e=>S.Oh.mono hk A N s pos pl trees x ov ts t E ra wd ng hx hp ((ah (jo.mpr h)).symm.trans ((Cb (n:=n) q).symm.trans e))
   ·exactλA N s pos pl trees x ov ts t E ra wd ng hx hp e=>aN ((ai λz=>h (jo.mp z)).symm.trans ((Cb (n:=n) q).symm.trans e))
  |some r=>
   have hm:=UE q
   have hf:r.f=f:=ao (UG (p:=λr:Row=>r.f==f) q)
   rw[<-hf]at e
   refine bor (bA.mp Of r hm) (λz=>band z λy z=>by rw[e]at z;exact ft z) λz=>band z λz z3=>band z λz1 z2=>?_
   have g:=jV.mp (aaS X.w.params) r (DL.mpr ⟨hm,z1⟩)
   have g1:=af (·.1) g
   rw[e]at z3 g1
   refine dq.bE (c:=r.c) (f:=r.a) (fd:=bC r.a) (dq.sub (Oe H hm) λts t e=>?_) (iM (B8 hm)).at_ (af (·.2.2.1) g) (af (·.2.2.2) g) g1 (af (·.2.1) g) (λw=>ft ((not_of z3).symm.trans (jo.mpr w))) λx ts t e=>?_
   ·exact gi ((Ce q).symm.trans e) λy e=>e
   ·exact gi ((Ce q).symm.trans e) λw y=>bor w (λw=>ft ((bne_eq_false_iff_eq.mpr (ao w)).symm.trans z1)) aaX
 fns:=λf x v e hv=>by
  cases q:rowOf f with
  |none=>
   by_cases h:f∈uw
   ·exactλA N s pos trees ts t E ra wd ng hp e'=>(S.call f x v h e hv).mono hk A N s pos trees ts t E ra wd ng hp ((ah (jo.mpr h)).symm.trans ((Cb (n:=n) q).symm.trans e'))
   ·exactλA N s pos trees ts t E ra wd ng hp e=>aN ((ai λz=>h (jo.mp z)).symm.trans ((Cb (n:=n) q).symm.trans e))
  |some r=>
   have hm:=UE q
   have hf:r.f=f:=ao (UG (p:=λr:Row=>r.f==f) q)
   rw[<-hf]at e
   refine bor (bA.mp Of r hm) (λz=>band z λz1 y=>?_) λz=>band z λz y=>band z λy z=>by rw[e]at z;exact ft z
   have g:=jV.mp aaR r (DL.mpr ⟨hm,z1⟩)
   rw[e]at g
   cases (show d4 x=_ from g).symm.trans hv
   exact dq.call (dq.sub (Oe H hm) λts t e=>gi ((Ce q).symm.trans e) λy e=>e) (iM (B8 hm)).at_
end
def kz.ux{h:Heap}{cv:ay}{q:Str}(x:kz h cv q):h.CodeRec cv q:=by
 obtain⟨c',oc,vs,t,e,e1,_,e3,e4⟩:=x
 exact⟨c',oc,vs,t,e,e1,e3,e4⟩
def aa0:iD.all (λe=>iD.all λe'=>e.2.1 !=e'.2.1||e.2.2==e'.2.2)=true:=by kernel_rfl
def aa1{pos:Pos}{l:List ay}{a b:Int}{c cv:ay}(ht:Dl l):AM pos (l++[jR a,jR b,c])=ab cv->AM pos l=ab cv∨cv=c:=by
 fun_induction Dl l with
 |case1=>
  intro h
  refine ifs (show(if _ then ab c else ae)=ab cv from h) λy e=>.inr e.symm
 |case2 a' t b' u x rest ih=>
  intro h
  by_cases q:(a'==(pos.line:Int)&&b'==(pos.col:Int))=true
  ·exact .inl ((ah q).trans ((ah q).symm.trans h))
  ·exact(ih ht ((ai q).symm.trans h)).imp (λz=>(ai q).trans z) id
 |case3 l h1 h2=>exact ht.elim
section
variable{X:Kx}{s:az}{A:aM}{E:ay->az->Prop}{M:mz}{c P:Addr}{q:Str}{env:Env}{pos:Pos}{fl:Nat}{name:Str}{p:xt}{sc:d9}{body:Th}
def Oj(hm:(c,P,q)∈iD)(ht:kA X.mg s.heap){ps:Array ay}(hP:s.heap.get? P=ab (oC ps))(jB:Dl ps.toList)
  (hq:∀pos cv,AM pos ps.toList=ab cv->kz s.heap cv q) {c' P':Addr} {h':Heap} {tk:Nat} {a b:Int} (hx:Ki P s.heap h') (rQ:s.heap.objs.size<=c') (dp:c'<h'.objs.size) (zp:h'.CodeRec (.ref c') q)
  (kT:h'.get? P=ab (oC (ps++ #[jR a,jR b,.ref c']))) (zq:h'.TableAt c' P' #[]):Kp X s {s with heap:=h',toks:=tk}/\kz h' (.ref c') q:=by
 have rR:kz h' (.ref c') q:=by
  obtain⟨c₂,oc,vs,t,e,e1,e2,e3⟩:=zp
  cases e
  obtain⟨⟨o,j1,f1,f2,f3,_⟩,_⟩:=zq
  cases e1.symm.trans f1
  exact⟨_,_,vs,t,rfl,e1,f2,e2,e3⟩
 have hc:∀b o,iA o->s.heap.get? b=ab o->h'.get? b=ab o:=λb o cl e=>hx b o (λz=>by cases (z▸e).symm.trans hP;cases cl.1) e
 have hl:(ps++ #[jR a,jR b,ay.ref c']).toList=ps.toList++[jR a,jR b,.ref c']:=Ts
 refine⟨⟨λb o nb e=>hx b o (λz=>nb (z▸jo.mp (bA.mp KU _ hm))) e,cT (bI rQ dp),λy=>⟨?_,λe he=>?_⟩,rfl,.refl _,hc⟩,rR⟩
 ·obtain⟨bm,ob,e1,e2,Fc,e3,e4,e5,e6⟩:=ht.1
  exact⟨bm,ob,e1,e2,Fc,hx _ _ (λz=>by cases (z▸e3).symm.trans hP;cases e4) e3,e4,e5,e6⟩
 ·obtain⟨a1,ps1,p1,p2,p3⟩:=ht.2 e he
  refine⟨AL.Bt a1 hc,?_⟩
  by_cases z:e.2.1=P
  ·have eq:e.2.2=q:=bor (bA.mp (bA.mp aa0 e he) _ hm) (λw=>by rw[z]at w;exact ft ((bne_self_eq_false P).symm.trans w)) ao
   rw[z]at p1 ⊢
   cases p1.symm.trans hP
   refine⟨_,kT,?_,λpos cv mI=>?_⟩
   ·rw[hl];exact TriplesOk_snoc _ _ _ _ jB
   ·rw[hl]at mI
    rw[eq]
    exact(aa1 jB mI).elim (λz=>(hq pos cv z).keep hc) λz=>z▸rR
  ·exact⟨ps1,hx _ _ z p1,p2,λpos cv mI=>(p3 pos cv mI).keep hc⟩
def aa3(hm:(c,P,q)∈iD)(ht:kA X.mg s.heap)(hc:env.code=.ref c):aA M A (functionCode env pos fl name q p sc body) (λcv s'=>Kp X s s'/\kz s'.heap cv q) E s:=by
 obtain⟨hd,ps,hP,jB,hq⟩:=ht.2 _ hm
 cases e:AM pos ps.toList with
 |some cv=>exact wpAny_functionCode_hit hc (hd.code hP jB) e ⟨.refl s,hq _ _ e⟩
 |none=>
  refine wpAny_functionCodeX hc (hd.code hP jB) (hd.tab hP) e λc' h' tk hx rQ dp z zp kT Gb=>?_
  obtain⟨P',_,_,zq⟩:=Gb
  exact Oj hm ht hP jB hq hx rQ dp zp kT.2 zq
def aa4(hm:(c,P,q)∈iD)(ht:kA X.mg s.heap)(hc:env.code=.ref c):aA M A (genexprCode env pos q sc) (λcv s'=>Kp X s s'/\kz s'.heap cv q) E s:=by
 obtain⟨hd,ps,hP,jB,hq⟩:=ht.2 _ hm
 cases e:AM pos ps.toList with
 |some cv=>exact wpAny_codeAt_hit hc (hd.code hP jB) e ⟨.refl s,hq _ _ e⟩
 |none=>
  refine wpAny_genexprCodeX hc (hd.code hP jB) (hd.tab hP) e λc' h' tk hx rQ dp z zp kT Gb=>?_
  obtain⟨P',_,_,zq⟩:=Gb
  exact Oj hm ht hP jB hq hx rQ dp zp kT.2 zq
noncomputable def Ol:Th->Bool
 |.stmts b=>(docOf b).isNone
 |.expr _=>true
def Ge(hm:(c,P,q)∈iD)(wd:Wd X s.heap)(hc:env.code=.ref c)(hg:env.globals=gJ){kB:List (Str×Addr)}(j9:oG sc env=pure kB)(pO:Ol body=true){Q:ay->az->Prop}
  (h:∀s' fa cv ct,Kp X s s'->s.heap.objs.size<=fa->s'.heap.get? fa=ab {cls:=.type "function",data:=.func (qQ X.mg name q p body sc kB cv ct)}->kz s'.heap cv q->Q (.ref fa) s'):
  aA M A (makeFunction name q p body sc env [] [] [] pos fl) Q E s:=by
 rw[makeFunction_eq]
 simp only[List.zip_nil_right,List.filterMap_nil,Km,if_true,pure_bind]
 unfold makeTail
 rw[j9,hg]
 refine aG (aQ ?_)
 have mid:∀(aB:az)(Gf:ay)(K:ay->Addr->Option ay->Sem ay),Kp X s aB->
   (∀cv,K cv jj (X.mg "__name__")=newObj (.type "function") (.func (qQ X.mg name q p body sc kB cv Gf)))->
   aA M A (functionCode env pos fl name q p sc body>>=λcv=>builtinsFor gJ env.builtins>>=λbi=>nsGet gJ "__name__">>=λnm=>K cv bi nm) Q E aB:=by
  intro aB Gf K k₁ hK
  have Cf:=wd.kp k₁
  refine aG (mo (aa3 hm Cf.tabs hc) λcv s₂ z=>?_)
  have Gg:=Cf.kp z.1
  obtain⟨bm,ob,Gh,Gi,_,Gj,Gk,Gl,Gm⟩:=Gg.tabs.1
  refine aG (aon Gg.g Gh Gi Gj Gk Gl Gm (aG (wpAny_nsGet Gg.g ?_)))
  rw[hK]
  exact sY (h _ s₂.heap.objs.size cv Gf ((k₁.trans z.1).trans Kp.push) (aD k₁.size z.1.size) (cD _ rfl) (z.2.keep λb o y e=>cS _ e)) (by size_fits)
 cases body with
 |expr e=>
  cases kB with
  |nil=>
   simp only[Km,if_true]
   exact aG (aQ (mid s _ _ (.refl s) λcv=>rfl))
  |cons a r=>
   simp only[aoo,pq,if_false]
   exact aG (aop (mid _ _ _ Kp.push λcv=>rfl))
 |stmts b=>
  have hd:docOf b=ae:=Option.isNone_iff_eq_none.mp pO
  dsimp only
  rw[hd]
  cases kB with
  |nil=>
   simp only[Km,if_true]
   exact aG (aQ (mid s _ _ (.refl s) λcv=>rfl))
  |cons a r=>
   simp only[aoo,pq,if_false]
   exact aG (aop (mid _ _ _ Kp.push λcv=>rfl))
end
end Mine
section
open PySem PySem.Spec PySem.W PyProof.Rows PySem.Builtin PySem.Builtin.ObjectAttr
namespace Mine
def Om{m nm:Str}{t:Tok}{hs hh:Int}{tk:Tok}{u v:ay}{es:List jh}(q:m≠nm):putL nm hs (.str nm tk) v (⟨hh,.str m t,u⟩::es)=⟨hh,.str m t,u⟩::putL nm hs (.str nm tk) v es:=by
 rw[putL];exact ai λz=>q (ao z)
def rS{nm:Str}{hs:Int}{tk:Tok}{v:ay}{ns:List Str}{vs:List ay}{es:List jh}(h:gf ns vs es):
  (nm∉ns->gf (ns++[nm]) (vs++[v]) (putL nm hs (.str nm tk) v es))/\(∀i:Nat,ns.Nodup->ns[i]?=ab nm->gf ns (vs.set i v) (putL nm hs (.str nm tk) v es)):=by
 induction h with
 |nil=>exact⟨λz=>.cons .nil,λi z h=>aN h⟩
 |cons r ih=>
  refine⟨λh=>?_,λi nd h=>?_⟩
  ·rw[Om λe=>h (by rw[e];exact bk)]
   exact .cons (ih.1 λq=>h (bS _ q))
  ·have cU:=g9.mp nd
   cases i with
   |zero=>
    cases h
    rw[putL,ah (show UA (.str nm _) nm=true from aw nm)]
    exact .cons r
   |succ i=>
    rw[Om λe=>cU.1 (by rw[e];exact dZ h),List.set_cons_succ]
    exact .cons (ih.2 i cU.2 h)
def Oo{nm:Str}{ns:List Str}{vs:List ay}{es:List jh}(h:gf ns vs es)(nd:ns.Nodup):(getL nm es).isSome=true:=by
 by_cases q:nm∈ns
 ·obtain⟨i,hi⟩:=tA.mp q
  rw[(uk h).2 i nd hi];rfl
 ·rw[(uk h).1 q];rfl
def aa5(name:Str)(hs:Int)(key v:ay){es:List jh}:(putL name hs key v es).length<=es.length+1:=by
 induction es with
 |nil=>exact bj _
 |cons e r ih=>
  rw[putL]
  by_cases q:e.key.isStr name=true
  ·rw[ah q];exact gy _
  ·rw[ai q];exact cX ih
section
variable{prog:gK}{w:gY}{A:aM}{E:ay->az->Prop}{s:az}{K:Frag}{x C dx:Addr}
def Gn{nm:Str}{tk:Tok}{v:ay}{es:List jh}{n:Nat}{Q:Fin->az->Prop}(D:s.heap.get? dx=ab (lQ es n))(hl:(getL nm es).isSome=true)(hz:es.length<=900)
  (h:∀h' iJ n',iJ=putL nm (qp w.params nm) (.str nm s.toks) v es->h'.get? dx=ab (lQ iJ n')->tB dx s.heap h'->Q (.done (.ret .none)) {s with heap:=h',toks:=s.toks+1}):
  aA (model prog w) A (storeInDict dx (.str nm tk) nm v) Q E s:=by
 unfold storeInDict newKeyGuard
 refine aG (aQ (aG ?_))
 unfold nsSet
 refine aG (aG (anj (aQ (aG (UH (aG (xZ D ?_)))))))
 have c:(!es.any (·.key.isStr nm)&&es.any (·.refKey))=false:=by
  cases he:es.find? (·.key.isStr nm)with
  |some en=>rw[xw.mpr ⟨en,UE he,UG he⟩];rfl
  |none=>
   have hl:(if es.any (·.refKey)=true then(ae:Option (Option ay))else ab ae).isSome=true:=by
    unfold getL at hl;rw[he]at hl;exact hl
   by_cases z:es.any (·.refKey)=true
   ·rw[ah z]at hl;cases hl
   ·rw[JV]at z;rw[z,UI]
 have D':(s.heap.update dx (Obj.putName nm (qp w.params nm) (.str nm s.toks) v)).get? dx=ab (lQ (putL nm (qp w.params nm) (.str nm s.toks) v es) (putN nm es n)):=by
  rw[<-putName_dict]
  exact xW _ D (by rw[putName_dict];rfl)
 dsimp only
 rw[aRefKeyMayBeTheName_at,show(!es.toArray.any (·.key.isStr nm)&&es.toArray.any (·.refKey))=false by rw[<-aor,<-aor];exact c]
 refine wpAny_updatePart D ?_
 refine aG (wpAny_lookBehind D' (pastItsLine_dict (by rw[bU,Ur];exact aD (aa5 nm (qp w.params nm) (.str nm s.toks) v) (aD (cX hz) (by decide)))) ?_)
 exact aQ (h _ _ _ rfl D' (qK ..))
def aa6{ox:Obj}{nm:Str}{v:ay}{es:List jh}{n:Nat}{Q:Unit->az->Prop}(X:K.In s.heap)(I:InstAt s.heap x ox C (ab (lQ es n)))(hd:ox.dict=ab dx)
  (hs:dQ K (.ref C) "__setattr__"=ab (ab (.builtin "object.__setattr__"))) (hp:Ko K C=true) (ht:Kq K C nm=ab ae) (hh:xY K C=true) (hl:(getL nm es).isSome=true) (hz:es.length<=900)
  (h:∀h' iJ n',iJ=putL nm (qp w.params nm) (.str nm (s.toks+1)) v es->h'.get? dx=ab (lQ iJ n')->tB dx s.heap h'->Q () {s with heap:=h',toks:=s.toks+2}):
  aA (model prog w) A (DW (.ref x) nm v) Q E s:=by
 refine set_plain X I hs (osa_open (s:={s with toks:=s.toks+1}) X I hp ht λb=>?_)
 obtain⟨cd,hc,oT⟩:=any_some hh
 have I':=I
 obtain⟨hx,j9,hn,hdi⟩:=I
 obtain⟨oc,odi,oda,osl⟩:=ox
 dsimp only at j9 hd
 subst j9 hd
 refine aG (aQ (aG (aG (xZ hx (aG (tE (s:={s with toks:=s.toks+1}) (looks_clsIn X hc) ?_))))))
 rw[oT]
 refine aQ (a:=ab dx) ?_
 exact Gn (s:={s with toks:=s.toks+1}) (tk:=s.toks) hdi hl hz λh' iJ n' e1 e2 e3=>h h' iJ n' e1 e2 e3
def aa9:dQ [] (.type "function") "__setattr__"=ab (ab (.builtin "object.__setattr__")):=by decide+kernel
def aba:mroOf (.type "function")=pure [.type "function",.type "object"]:=by kernel_rfl
def Oq:Ks (.type "function") (.type "object")=pure true:=by rw[mG];kernel_rfl
def abb(self:ay):refuseLoop self "__setattr__" [.type "function",.type "object"]=pure ():=by kernel_rfl
def abc:typeHasDict (.type "function")=true:=by decide+kernel
def abd:finalisedInACycleAlone "function"=false:=by decide+kernel
def Ot{nm:Str}{v:ay}{f:Addr}{fo:Obj}{Q:Unit->az->Prop}(hf:s.heap.get? f=ab fo)(hc:fo.cls=.type "function")(hn:dQ [] (.type "function") nm=ab ae)
  (h:aA (model prog w) A.in1 (ownDictForStores (.ref f)>>=λd=>match d with|some d=>storeInDict d (.str nm s.toks) nm v|none=>noDictFor (.ref f) (.type "function") nm false)
   (λfin s'=>fin=.done (.ret .none)/\Q () s') E {s with toks:=s.toks+1}):
  aA (model prog w) A (DW (.ref f) nm v) Q E s:=by
 have K0:DX ([]:Frag) s.heap:=λa o e=>by cases e
 have T:qM (model prog w) s.heap (typeOf (.ref f)) (.type "function"):=by
  have:=(UJ (M:=model prog w) (part:=ae) hf).andThen (f:=λo=>pure o.cls) UK
  rw[hc]at this;exact this
 refine aG (UH (aG (aG (aG (T _ _ _ _ (λy y e=>e) (vz K0 aa9 _ _ _ _ (λy y e=>e) (dN ?_)))))))
 rw[aos.slot.bind]
 refine aG (aQ (aG (pw ?_)))
 have SF:=aos
 have sub:qM (model prog w) s.heap (Kt (.ref f) (.type "object")) true:=T.andThen (DY Oq)
 refine ya SF.slot.plain SF.entry (@check_slot (model prog w) _ _ {s with toks:=s.toks+1} "object.__setattr__" "object" "__setattr__" (.ref f) [.str nm s.toks,v] [] _ SF.kind SF.split sub (SF.args (.ref f) (.str nm s.toks) v) ?_)
 rw[show([ay.ref f]++[ay.str nm s.toks,v]:List ay)=[.ref f,.str nm s.toks,v]from rfl,osa_eq,refuse_eq]
 have hm:qM (model prog w) s.heap (mroOf (.type "function")) [.type "function",.type "object"]:=DY aba
 refine aG (aG (tE (s:={s with toks:=s.toks+1}) T (aG (tE (s:={s with toks:=s.toks+1}) hm ?_))))
 rw[abb]
 refine aQ (aG (tE (s:={s with toks:=s.toks+1}) T (aG (tE (s:={s with toks:=s.toks+1}) (vz K0 hn) ?_))))
 refine aG (aQ ?_)
 show aA _ _ (storeInOwnDict (.ref f) (.type "function") (.str nm s.toks) nm v false) _ _ _
 unfold storeInOwnDict
 refine aG (aQ ?_)
 rw[ai (by decide)]
 refine eE h (λfin s' z=>?_) λy y z=>z
 obtain⟨rfl,q⟩:=z
 exact aQ (aQ q)
def abe{nm:Str}{v:ay}{f:Addr}{da:Data}{sl:Array (Option ay)}{Q:Unit->az->Prop}(hf:s.heap.get? f=ab ⟨.type "function",ae,da,sl⟩)(zr:∀c,da≠.cls c)(i4:(⟨.type "function",ab s.heap.objs.size,da,sl⟩:Obj).isFreed=false)(hn:dQ [] (.type "function") nm=ab ae)
  (h:∀h' n tk,h'.get? s.heap.objs.size=ab (lQ [⟨qp w.params nm,.str nm tk,v⟩] n)->h'.get? f=ab ⟨.type "function",ab s.heap.objs.size,da,sl⟩->h'.objs.size=s.heap.objs.size+1->(∀b o,b≠f->s.heap.get? b=ab o->h'.get? b=ab o)->Q () {s with heap:=h',toks:=s.toks+2}):
  aA (model prog w) A (DW (.ref f) nm v) Q E s:=by
 refine Ot hf rfl hn ?_
 have hfs:f<s.heap.objs.size:=xx hf
 have i5:(s.heap.push {cls:=.type "dict",data:=.dict #[]}).get? f=ab ⟨.type "function",ae,da,sl⟩:=cS _ hf
 have Ou:s.heap.objs.size≠f:=iS hfs
 have hdd:((s.heap.push {cls:=.type "dict",data:=.dict #[]}).update f λo=>{cls:=o.cls,dict:=ab s.heap.objs.size,data:=o.data,slots:=o.slots}).get? s.heap.objs.size=ab (lQ [] 0):=
  (aou _ _ _ _ Ou).trans (cD _ rfl)
 have hff:((s.heap.push {cls:=.type "dict",data:=.dict #[]}).update f λo=>{cls:=o.cls,dict:=ab s.heap.objs.size,data:=o.data,slots:=o.slots}).get? f=ab ⟨.type "function",ab s.heap.objs.size,da,sl⟩:=
  xW _ i5 i4
 refine aG (?_:aA _ _ (Bd f true) _ _ _)
 unfold Bd
 refine aG (xZ hf ?_)
 dsimp only
 rw[ai (by rw[abc];decide)]
 have go:aA (model prog w) A.in1 (do
   let d <-alloc {cls:=.type "dict",data:=.dict #[]}
   update f λo=>{o with dict:=ab d}
   UL (.type "function") f d) (λd s'=>aA (model prog w) A.in1 (match d with|some d=>storeInDict d (.str nm s.toks) nm v|none=>noDictFor (.ref f) (.type "function") nm false)
   (λfin s'=>fin=.done (.ret .none)/\Q () s') E s') E {s with toks:=s.toks+1}:=by
  refine aG (wpAny_alloc' ?_)
  refine aG (wpAny_update' i5 ?_)
  show aA _ _ (UL (.type "function") f s.heap.objs.size) _ _ _
  unfold UL
  dsimp only
  rw[abd]
  refine aQ ?_
  refine Gn (s:={s with heap:=(s.heap.push {cls:=.type "dict",data:=.dict #[]}).update f λo=>{cls:=o.cls,dict:=ab s.heap.objs.size,data:=o.data,slots:=o.slots},toks:=s.toks+1}) (tk:=s.toks) hdd rfl (by simp) λh' iJ n' e1 e2 e3=>⟨rfl,?_⟩
  rw[e1]at e2
  refine h h' n' (s.toks+1) e2 ((e3.2 f Ou.symm).trans hff) ?_ λb o hb e=>?_
  ·rw[e3.1];simp only[xI,fh]
  ·rw[e3.2 b (cW (xx e))]
   exact(aou _ _ _ _ hb).trans (cS _ e)
 cases da<;>first|exact go|exact aj rfl (zr _)
def abi{nm:Str}{v:ay}{f:Addr}{da:Data}{sl:Array (Option ay)}{es:List jh}{n:Nat}{Q:Unit->az->Prop}(hf:s.heap.get? f=ab ⟨.type "function",ab dx,da,sl⟩)(hd:s.heap.get? dx=ab (lQ es n))(hn:dQ [] (.type "function") nm=ab ae)
  (hl:(getL nm es).isSome=true) (hz:es.length<=900)
  (h:∀h' iJ n' tk,iJ=putL nm (qp w.params nm) (.str nm tk) v es->h'.get? dx=ab (lQ iJ n')->tB dx s.heap h'->Q () {s with heap:=h',toks:=s.toks+2}):
  aA (model prog w) A (DW (.ref f) nm v) Q E s:=by
 refine Ot hf rfl hn ?_
 refine aG (?_:aA _ _ (Bd f true) _ _ _)
 unfold Bd
 refine aG (xZ hf ?_)
 refine aQ ?_
 exact Gn (s:={s with toks:=s.toks+1}) (tk:=s.toks) hd hl hz λh' iJ n' e1 e2 e3=>⟨rfl,h h' iJ n' _ e1 e2 e3⟩
end
end Mine
end
namespace Mine
noncomputable def zt:S:=(.seq (.own 1 (.lst (.cons (.lit (.int 77)) (.cons (.lit (.int 41218)) (.cons (.lit (.int 13)) (.cons (.lit (.int 46)) .nil)))))) (.seq (.lU [2,3] (.cY false (.var 0) .absent (.lit (.int 60))) (.seq (.oQ 1 (.bin .mod (.var 2) (.lit (.int 4))) .add (.bin .mod (.var 3) (.bin .pow (.lit (.int 10)) (.lit (.int 6))))) .skip)) (.gh [1] (.seq (.fP [4,5,6] [ab (.bin .add (.lit (.int 128)) (.bin .mod (.idx (.var 1) (.lit (.int 0))) (.lit (.int 128)))),ab (.bin .mod (.idx (.var 1) (.lit (.int 3))) (.lit (.int 4))),ab (.bin .add (.bin .add (.lit (.int 3)) (.bin .mod (.bin .fdiv (.idx (.var 1) (.lit (.int 3))) (.lit (.int 4))) (.lit (.int 5)))) (.ite (.cmp .eq (.bin .mod (.bin .fdiv (.idx (.var 1) (.lit (.int 3))) (.lit (.int 20))) (.lit (.int 16))) (.lit (.int 15))) (.lit (.int 4100)) (.lit (.int 0))))]) (.seq (.fP [7,8] [ab (.bin .sub (.bin .mod (.idx (.var 1) (.lit (.int 1))) (.lit (.int 41))) (.lit (.int 20))),ab (.bin .sub (.bin .mod (.bin .fdiv (.idx (.var 1) (.lit (.int 1))) (.lit (.int 41))) (.lit (.int 2001))) (.lit (.int 1000)))]) (.seq (.fP [9,10,11] [ab (.bin .add (.lit (.int 1)) (.bin .mod (.idx (.var 1) (.lit (.int 2))) (.lit (.int 4)))),ab (.bin .sub (.lit (.int 1)) (.bin .mul (.lit (.int 2)) (.bin .mod (.bin .fdiv (.idx (.var 1) (.lit (.int 2))) (.lit (.int 4))) (.lit (.int 2))))),ab (.cmp .eq (.bin .mod (.bin .fdiv (.idx (.var 1) (.lit (.int 2))) (.lit (.int 8))) (.lit (.int 2))) (.lit (.int 1)))]) (.seq (.asg 12 (.call 2 (.cons (.var 4) (.cons (.lit (.int 1)) .nil)))) (.seq (.asg 13 (.sm .join (.lit (.str (s_ ""))) (.cons (.comp 55 (.idx (.lit (.str (s_ "ur"))) (.var 55)) (.var 12) (.lit (.bool true))) .nil))) (.seq (.asg 14 (.call 6 (.cons (.sm .join (.lit (.str (s_ ""))) (.cons (.comp 56 (.ite (.jt (.cmp .eq (.idx (.var 13) (.var 56)) (.lit (.str (s_ "u")))) (.bin .band (.bin .shr (.idx (.var 1) (.lit (.int 3))) (.var 56)) (.lit (.int 1)))) (.sm .upper (.idx (.var 13) (.var 56)) .nil) (.idx (.var 13) (.var 56))) (.hU (.lit (.int 8))) (.lit (.bool true))) .nil)) (.cons (.lit (.str (s_ "r"))) .nil)))) (.seq (.asg 15 (.sm .join (.lit (.str (s_ ""))) (.cons (.comp 57 (.ite (.cmp .eq (.cY false (.bin .add (.lit (.str (s_ "r"))) (.var 13)) (.var 57) (.bin .add (.var 57) (.lit (.int 2)))) (.lit (.str (s_ "ru")))) (.lit (.str (s_ "U"))) (.idx (.var 13) (.var 57))) (.hU (.lit (.int 8))) (.lit (.bool true))) .nil))) (.seq (.own 16 (.lst (.cons (.tup (.cons (.var 12) (.cons (.comp 58 (.bin .band (.bin .shr (.var 4) (.var 58)) (.lit (.int 1))) (.hU (.lit (.int 8))) (.lit (.bool true))) .nil))) (.cons (.tup (.cons (.call 3 (.cons (.var 12) (.cons (.lit (.int 1)) .nil))) (.cons (.var 4) .nil))) (.cons (.tup (.cons (.var 14) (.cons (.var 15) .nil))) .nil))))) (.seq (.fP [17,18] [ab (.call 8 (.cons (.var 9) (.cons (.var 11) (.cons (.bin .fdiv (.idx (.var 1) (.lit (.int 2))) (.lit (.int 16))) .nil)))),ab (.call 8 (.cons (.var 9) (.cons (.mN (.var 11)) (.cons (.lit (.int 0)) .nil))))]) (.seq (.fP [19,20,21] [ab (.prim .list1 (.cons (.attr (.var 17) 10) .nil)),ab (.prim .list1 (.cons (.attr (.var 18) 10) .nil)),ab (.call 7 (.cons (.var 17) (.cons (.var 18) .nil)))]) (.seq (.fA [22,23,24,25] (.call 13 (.cons (.var 21) (.cons (.var 13) (.cons (.var 9) .nil))))) (.seq (.ext 16 (.lst (.cons (.tup (.cons (.call 11 (.cons (.var 13) (.cons (.var 9) (.cons (.var 8) .nil)))) (.cons (.tup (.cons (.var 22) (.cons (.var 23) (.cons (.prim .qX (.cons (.var 24) .nil)) (.cons (.var 8) .nil))))) .nil))) (.cons (.tup (.cons (.cY false (.var 24) .absent (.lit (.int 1))) (.cons (.cY false (.call 9 (.cons (.var 13) (.cons (.var 9) .nil))) (.neg (.lit (.int 1))) .absent) .nil))) .nil)))) (.seq (.app 16 (.tup (.cons (.lst (.cons (.attr (.var 17) 10) (.cons (.attr (.var 18) 10) (.cons (.attr (.var 21) 10) .nil)))) (.cons (.lst (.cons (.var 19) (.cons (.var 20) (.cons (.comp 59 (.var 59) (.var 19) (.oP (.var 59) (.var 20))) .nil)))) .nil)))) (.seq (.app 16 (.tup (.cons (.comp 61 (.attr (.var 61) 100) (.attr (.var 21) 11) (.lit (.bool true))) (.cons (.comp 60 (.attr (.var 60) 100) (.bin .add (.attr (.var 17) 11) (.attr (.var 18) 11)) (.lit (.bool true))) .nil)))) (.seq (.app 16 (.tup (.cons (.prim .repr (.cons (.bin .add (.var 25) (.lst (.cons (.attr (.var 21) 12) (.cons (.attr (.var 21) 13) (.cons (.prim .len (.cons (.attr (.var 17) 11) .nil)) (.cons (.prim .len (.cons (.attr (.var 18) 11) .nil)) .nil)))))) .nil)) (.cons (.prim .repr (.cons (.bin .add (.bin .add (.bin .mul (.lst (.cons (.lit (.bool true)) .nil)) (.prim .len (.cons (.var 24) .nil))) (.lst (.cons (.lit (.bool false)) (.cons (.var 9) (.cons (.ite (.var 11) (.lit (.str (s_ "U"))) (.lit (.str (s_ "R")))) .nil))))) (.bin .mul (.lst (.cons (.bin .pow (.lit (.int 2)) (.bin .sub (.var 9) (.lit (.int 1)))) .nil)) (.lit (.int 2)))) .nil)) .nil)))) (.seq (.fP [26,27] [ab (.comp 62 (.call 5 (.cons (.bin .mul (.var 10) (.bin .add (.var 7) (.var 62))) (.cons (.bin .mul (.var 10) (.var 9)) .nil))) (.hU (.lit (.int 8))) (.lit (.bool true))),ab (.lit (.str (s_ "")))]) (.seq (.hY [28,29] (.var 26) (.seq (.asg 30 (.yx (.jZ [63,64] (.idx (.var 13) (.bin .sub (.bin .add (.bin .mul (.var 63) (.var 9)) (.bin .mul (.var 10) (.var 64))) (.var 7))) (.var 26) (.cmp .eq (.var 64) (.var 29))))) (.seq (.aug 27 .add (.idx (.var 30) (.bin .sub (.var 28) (.prim .min1 (.cons (.jZ [65,66] (.var 65) (.var 26) (.cmp .eq (.var 66) (.var 29))) .nil))))) .skip))) (.seq (.nest [.one 31,.many [32,33]] (.tup (.cons (.bin .sub (.bin .pow (.lit (.int 2)) (.bin .mul (.var 6) (.var 9))) (.lit (.int 1))) (.cons (.comp 67 (.call 3 (.cons (.comp 68 (.ite (.cmp .eq (.var 68) (.lit (.str (s_ "r")))) (.lit (.int 1)) (.lit (.int 0))) (.var 67) (.lit (.bool true))) (.cons (.var 6) .nil))) (.lst (.cons (.var 13) (.cons (.var 22) .nil))) (.lit (.bool true))) .nil)))) (.seq (.nest [.one 34,.many [35,36],.one 37] (.tup (.cons (.bin .fdiv (.var 31) (.bin .add (.var 5) (.lit (.int 2)))) (.cons (.call 5 (.cons (.bin .mul (.var 10) (.bin .sub (.var 33) (.var 32))) (.cons (.bin .mul (.var 10) (.var 31)) .nil))) (.cons (.comp 69 (.sm .yv (.var 24) (.cons (.var 69) .nil)) (.hU (.bin .add (.prim .qW (.cons (.bin .add (.var 24) (.lst (.cons (.neg (.lit (.int 1))) .nil))) .nil)) (.lit (.int 1)))) (.lit (.bool true))) .nil))))) (.seq (.ext 16 (.lst (.cons (.tup (.cons (.var 22) (.cons (.var 27) .nil))) (.cons (.tup (.cons (.var 36) (.cons (.lit (.int 0)) .nil))) (.cons (.tup (.cons (.call 2 (.cons (.var 35) (.cons (.var 6) .nil))) (.cons (.var 37) .nil))) .nil))))) (.seq (.ext 16 (.lst (.cons (.tup (.cons (.call 5 (.cons (.bin .mul (.var 10) (.bin .add (.bin .sub (.var 33) (.var 32)) (.var 34))) (.cons (.bin .mul (.var 10) (.var 31)) .nil))) (.cons (.tup (.cons (.var 35) (.cons (.bin .mul (.var 10) (.var 34)) .nil))) .nil))) (.cons (.tup (.cons (.call 5 (.cons (.bin .mul (.neg (.var 10)) (.bin .add (.bin .sub (.var 33) (.var 32)) (.var 34))) (.cons (.bin .mul (.var 10) (.var 31)) .nil))) (.cons (.tup (.cons (.bin .sub (.neg (.lit (.int 1))) (.var 35)) (.cons (.bin .mul (.var 10) (.bin .sub (.var 31) (.var 34))) .nil))) .nil))) .nil)))) (.seq (.fP [38,39] [ab (.comp 70 (.sm .count (.cY false (.var 13) .absent (.var 70)) (.cons (.lit (.str (s_ "r"))) .nil)) (.hU (.lit (.int 8))) (.cmp .eq (.idx (.var 13) (.var 70)) (.lit (.str (s_ "u"))))),ae]) (.seq (.asg 40 (.yw 71 72 (.bin .add (.bin .sub (.idx (.var 38) (.var 71)) (.var 72)) (.prim .len (.cons (.comp 73 (.var 73) (.hU (.var 71)) (.cmp .gt (.idx (.var 38) (.var 73)) (.var 72))) .nil))) (.hU (.prim .len (.cons (.var 38) .nil))) (.hU (.idx (.var 38) (.var 71))))) (.seq (.asg 41 (.call 15 (.cons (.bin .add (.bin .add (.sm .join (.lit (.str (s_ ""))) (.cons (.comp 74 (.bin .add (.bin .mul (.lit (.str (s_ " "))) (.bin .sub (.var 74) (.lit (.int 1)))) (.lit (.str (s_ "\t")))) (.var 40) (.lit (.bool true))) .nil)) (.bin .mul (.lit (.str (s_ " "))) (.var 5))) (.lit (.str (s_ "x \t")))) .nil))) (.seq (.asg 42 (.call 15 (.cons (.bin .add (.bin .add (.sm .join (.lit (.str (s_ ""))) (.cons (.comp 75 (.bin .add (.bin .mul (.lit (.str (s_ " "))) (.var 75)) (.lit (.str (s_ "\t")))) (.cY true (.var 40) .absent .absent) (.lit (.bool true))) .nil)) (.bin .mul (.lit (.str (s_ " "))) (.var 5))) (.lit (.str (s_ "\n \t")))) .nil))) (.seq (.fP [43,44] [ab (.call 15 (.cons (.bin .add (.cY false (.attr (.var 42) 0) .absent (.attr (.var 42) 1)) (.lit (.str (s_ " ")))) .nil)),ab (.call 15 (.cons (.cY true (.cY false (.attr (.var 42) 0) .absent (.attr (.var 42) 1)) .absent .absent) .nil))]) (.seq (.eV 45 (.mO (.lit (.int 1)) (.bin .add (.prim .qW (.cons (.bin .add (.var 40) (.lst (.cons (.bin .add (.var 5) (.lit (.int 1))) .nil))) .nil)) (.lit (.int 2)))) (.seq (.asg 46 (.lit (.int 0))) (.seq (.eV 47 (.var 40) (.seq (.aug 46 .add (.bin .sub (.var 47) (.lit (.int 1)))) (.seq (.aug 46 .add (.bin .sub (.var 45) (.bin .mod (.var 46) (.var 45)))) .skip))) (.seq (.app 39 (.tup (.cons (.var 45) (.cons (.bin .add (.var 46) (.var 5)) (.cons (.bin .add (.bin .add (.var 46) (.var 5)) (.bin .mul (.var 45) (.prim .len (.cons (.idx (.call 11 (.cons (.var 13) (.cons (.var 45) (.cons (.lit (.int 0)) .nil)))) (.lit (.int 2))) .nil)))) .nil))))) .skip)))) (.gh [39] (.seq (.asg 48 (.comp 76 (.var 76) (.var 39) (.cmp .ne (.idx (.var 76) (.lit (.int 1))) (.idx (.var 76) (.lit (.int 2)))))) (.seq (.app 16 (.tup (.cons (.lst (.cons (.bE 23 (.var 41) (.cons (.var 42) .nil)) (.cons (.bE 25 (.var 41) (.cons (.var 42) .nil)) .nil))) (.cons (.lst (.cons (.var 48) (.cons (.comp 77 (.var 77) (.var 39) (.jt (.cmp .eq (.idx (.var 77) (.lit (.int 1))) (.idx (.var 77) (.lit (.int 2)))) (.cmp .lt (.idx (.var 77) (.lit (.int 0))) (.bin .add (.prim .qW (.cons (.bin .add (.var 40) (.lst (.cons (.var 5) .nil))) .nil)) (.lit (.int 2)))))) .nil))) .nil)))) (.seq (.asg 49 (.lst (.cons (.bE 23 (.var 41) (.cons (.var 43) .nil)) (.cons (.bE 23 (.var 43) (.cons (.var 41) .nil)) (.cons (.bE 25 (.var 43) (.cons (.var 41) .nil)) .nil))))) (.seq (.app 16 (.tup (.cons (.var 49) (.cons (.bin .add (.lst (.cons (.jZ [78,79,80] (.tup (.cons (.var 78) (.cons (.var 79) (.cons (.bin .add (.var 80) (.lit (.int 1))) .nil)))) (.var 39) (.lit (.bool true))) .nil)) (.bin .mul (.lst (.cons (.jZ [81,82,83] (.tup (.cons (.var 81) (.cons (.bin .add (.var 83) (.lit (.int 1))) (.cons (.var 82) .nil)))) (.var 39) (.lit (.bool true))) .nil)) (.lit (.int 2)))) .nil)))) (.seq (.app 16 (.tup (.cons (.call 14 (.cons (.var 48) .nil)) (.cons (.bin .add (.bin .add (.bin .add (.lit (.str (s_ "at tab size"))) (.bin .mul (.lit (.str (s_ "s"))) (.prim .len (.cons (.cY false (.var 48) (.lit (.int 1)) (.lit (.int 2))) .nil)))) (.lit (.str (s_ " ")))) (.sm .join (.lit (.str (s_ ", "))) (.cons (.comp 84 (.prim .str1 (.cons (.idx (.var 84) (.lit (.int 0))) .nil)) (.var 48) (.lit (.bool true))) .nil))) .nil)))) (.seq (.fP [49,50,51] [ab (.lst (.cons (.bE 22 (.var 41) (.cons (.var 42) .nil)) (.cons (.bE 22 (.var 42) (.cons (.var 44) .nil)) (.cons (.bE 24 (.var 41) (.cons (.var 42) .nil)) (.cons (.bE 24 (.var 42) (.cons (.var 41) .nil)) (.cons (.bE 24 (.var 41) (.cons (.var 43) .nil)) .nil)))))),ab (.var 23),ab (.lit (.int 1))]) (.seq (.app 16 (.tup (.cons (.prim .repr (.cons (.var 49) .nil)) (.cons (.prim .repr (.cons (.lst (.cons (.cmp .eq (.var 40) (.lst .nil)) (.cons (.oP (.cY false (.var 40) (.neg (.lit (.int 1))) .absent) (.lst (.cons (.lst .nil) (.cons (.lst (.cons (.var 5) .nil)) .nil)))) (.cons (.lit (.bool false)) (.cons (.lit (.bool false)) (.cons (.lit (.bool true)) .nil)))))) .nil)) .nil)))) (.seq (.eV 2 (.hU (.prim .len (.cons (.var 24) .nil))) (.seq (.aug 50 .mul (.bin .add (.var 2) (.lit (.int 1)))) .skip)) (.seq (.lU [47,52] (.idx (.attr (.var 42) 3) (.lit (.int 0))) (.seq (.aug 51 .mul (.ite (.cmp .eq (.bin .mod (.var 47) (.var 9)) (.lit (.int 0))) (.bin .pow (.bin .fdiv (.var 47) (.var 9)) (.var 52)) (.lit (.int 1)))) .skip)) (.seq (.fA [53,54] (.call 5 (.cons (.var 50) (.cons (.var 51) .nil)))) (.seq (.ext 16 (.lst (.cons (.tup (.cons (.var 54) (.cons (.lit (.int 0)) .nil))) (.cons (.tup (.cons (.call 12 (.cons (.var 13) (.cons (.var 9) (.cons (.prim .len (.cons (.var 24) .nil)) .nil)))) (.cons (.jY (.var 22) (.var 53)) .nil))) (.cons (.tup (.cons (.sm .count (.cY false (.var 14) (.sm .find (.var 14) (.cons (.lit (.str (s_ "r"))) .nil)) .absent) (.cons (.lit (.str (s_ "U"))) .nil)) (.cons (.idx (.bin .add (.prim .list1 (.cons (.idx (.attr (.var 42) 3) (.lit (.int 0))) .nil)) (.lst (.cons (.lit (.int 0)) (.cons (.lit (.int 0)) .nil)))) (.lit (.int 1))) .nil))) .nil))))) (.gh [16] (.seq (.ret [] (.cmp .eq (.jZ [85,86] (.var 85) (.var 16) (.cmp .ne (.var 85) (.var 86))) (.lst .nil))) .skip))))))))))))))))))))))))))))))))))))))))))))
noncomputable def Ov:List (Str×Nat):=slots ["script","cells","k","x","number","z","w","shift","order","t","e","mute","bits","text","typed","due","asked","first","second","agents","more","machine","core","sign","way","told","spots","calm","floor","runner","line","base","tall","low","spare","where","nothing","tally","rows","table","hooks","near","far","wide","mirror","size","column","h","named","asks","above","under","often","count","rest"]
def abj:(oX zt ⟨(bC 232).scope.names,Ov,[]⟩ (body 232)).ok=true:=by kernel_rfl
noncomputable def st(a i:Nat):Stmt:=(body a).getD i default
noncomputable def oa(s:Stmt):Xp:=if h:s.ctorIdx=5 then Stmt.Assign.elim s h λts z z=>ts.getD 0 default else default
noncomputable def me(s:Stmt):Xp:=if h:s.ctorIdx=3 then Stmt.Return.elim s h λv z=>v.getD default else default
noncomputable def kU(x:Xp):Xp:=if h:x.ctorIdx=20 then Expr.Attribute.elim x h λy z z=>y else default
noncomputable def Ox(x:Xp):Xp:=.Lambda (jW x).1 (jW x).2.1 (jW x).2.2 x.pos
noncomputable def mX(s:Stmt)(n:Str)(v:Xp):Stmt:=.Assign [.Name n (oa s).pos] v s.pos
noncomputable def jC(s:Stmt)(n a:Str)(v:Xp):Stmt:=.Assign [.Attribute (.Name n (kU (oa s)).pos) a (oa s).pos] v s.pos
noncomputable def bY(x:Xp)(n:Str):Xp:=.Name n x.pos
section
variable{C:Cx}{k:Nat}{A:aM}{env:Env}{c:Sc}{aH M N P:Addr->Prop}{ad:Nat->Addr}{r r':aE}{s s' aB:az}{E:ay->az->Prop}{Q:Flow->az->Prop}{x:Stmt}{rest:List Stmt}{f:Addr}{o:Obj}
def zv{σ:S}{o':List Nat}(H:Ok C k)(Gp:bR σ c [x] o')(a:At C.X k A env c N r s)(F:Fw C.X env c aH M N ad r s.heap)(e:ex C.F σ r=ab (.next,r'))
  (q:∀{s' M' N' ad'},Mv C.X M s s'->At C.X k A env (cB c o') N' r' s'->Fw C.X env (cB c o') aH M' N' ad' r' s'.heap->(∀b,N' b->N b∨s.heap.objs.size<=b)->(∀b,M' b->M b∨s.heap.objs.size<=b)->aA (model C.X.prog C.X.w) A (bL rest env) Q E s'):
  aA (model C.X.prog C.X.w) A (bL (x::rest) env) Q E s:=by
 refine execs_cons (mo (Gp H a F e E) λf aB L=>?_)
 cases L with|mk fo mv n0 m n o=>
 exact⟨λz=>o.elim ft λU=>q mv U.1 U.2 n m,λh=>(h fo).elim⟩
def i6{X:Kx}(h:aA (model X.prog X.w) A (exec x env) (λf s'=>f=.next/\aA (model X.prog X.w) A (bL rest env) Q E s') E s):aA (model X.prog X.w) A (bL (x::rest) env) Q E s:=
 execs_cons (c8 (mo h λf s' z=>⟨λy=>z.2,λw=>(w z.1).elim⟩))
variable{X:Kx}
def rT(a:At X k A env c N r s)(F:Fw X env c aH M N ad r s.heap)(q:Kp X s s')(hP:∀b,P b->s.heap.objs.size<=b/\b<s'.heap.objs.size):At X k A env c (λb=>N b∨P b) r s'/\Fw X env c aH M (λb=>N b∨P b) ad r s'.heap:=
 ⟨a.grow q (a.ng.more (λb h=>.inl h) a.wd q.size λb h=>h.imp id (hP b)) λb h=>h.imp id λh=>(hP b h).1,(F.kp a q).grow (λz=>id) (λb h=>.inl (F.mn b h)) F.m0 λb h=>.inl (F.n0 b h)⟩
def Cg(a:At X k A env c N r s)(F:Fw X env c aH M N ad r s.heap)(e:s.heap.get? f=ab o)(hc:¬iB o)(hN:N f)(hM:¬M f)(hf:¬Fr env f){h':Heap}{tk:Nat}(kk:∀b o,b≠f->s.heap.get? b=ab o->h'.get? b=ab o)(z:s.heap.objs.size<=h'.objs.size):
  Mv X (λb=>b=f) s {s with heap:=h',toks:=tk}/\At X k A env c (λb=>N b∨(s.heap.objs.size<=b/\b<h'.objs.size)) r {s with heap:=h',toks:=tk}/\Fw X env c aH M (λb=>N b∨(s.heap.objs.size<=b/\b<h'.objs.size)) ad r h':=by
 have mv:Mv X (λb=>b=f) s {s with heap:=h',toks:=tk}:=Mv.put e hc kk z
 have kf:∀b o,Fr env b->s.heap.get? b=ab o->h'.get? b=ab o:=λb o hb e=>kk b o (λq=>hf (q▸hb)) e
 exact⟨mv,MA (o':=c.own) (s':={s with heap:=h',toks:=tk}) (λb h=>h.imp id λh=>h.1) (λb h=>.inl h) (a.ng.more (λb h=>.inl h) a.wd z λb h=>h) a F mv (λb e=>e▸hN) (F.cn.mv kf) (λx b e n q=>IsCell.to q λo z=>kf b o (.inr ⟨x,e⟩) z)
  (λx i t h1 h2=>.old h2 (λv w=>w.to λb o hb e=>kf b o (hb.imp id λz=>⟨x,z⟩) e) (λw=>⟨λe=>hM (e▸(F.adr i ⟨w,by rw[h2];rfl⟩).1),rfl⟩) rfl) F.adr F.gm⟩
def At.vr(a:At X k A env c N r s){y:Str}{i:Nat}{t:T}(h1:c.slots.lookup y=ab i)(h2:get r i=ab t)(ho:c.own.contains i=false):∃v,Rd env s.heap y v/\VR X N s.heap t v:=
 (a.ec.rd y i t h1 h2).elim λv z=>⟨v,z.1,(ho▸z.2:Vo X N s.heap false t v)⟩
def At.ptr(a:At X k A env c N r s){y:Str}{i:Nat}(h1:c.slots.lookup y=ab i)(h2:get r i=ab (.ptr f))(ho:c.own.contains i=false):Rd env s.heap y (.ref f):=by
 obtain⟨v,g1,g2⟩:=a.vr h1 h2 ho
 exact(show v=.ref f from g2.inv)▸g1
def At.kd(a:At X k A env c N r s)(y:Str):env.kindOf y=c.names.lookup y:=by unfold qw;rw[a.ec.names]
end
def abk:body 193=[mX (st 193 0) (s_ "rule") (Ox (aT (st 193 0))),jC (st 193 1) (s_ "rule") (s_ "applies_to") (Ox (aT (st 193 1))),jC (st 193 2) (s_ "rule") (s_ "allowance") (bY (aT (st 193 2)) (s_ "verdict")),.Return (ab (bY (me (st 193 3)) (s_ "rule"))) (st 193 3).pos]:=by kernel_rfl
def Ci:(bC 193).code=.ref 192/\(bC 193).qualname++".<locals>."++"<lambda>"=oM/\(bC 193).scope.names=[(s_ "middle",.cell),(s_ "verdict",.local),(s_ "rule",.local)]:=⟨by kernel_rfl,by kernel_rfl,by kernel_rfl⟩
def uy:((jW (aT (st 193 0))).1.defaults=[]/\(jW (aT (st 193 0))).1.kw_defaults=[])/\((jW (aT (st 193 1))).1.defaults=[]/\(jW (aT (st 193 1))).1.kw_defaults=[])/\(jW (aT (st 193 0))).2.2.names=[]/\(jW (aT (st 193 1))).2.2.names=[(s_ "name",.local),(s_ "middle",.free)]:=⟨⟨by kernel_rfl,by kernel_rfl⟩,⟨by kernel_rfl,by kernel_rfl⟩,by kernel_rfl,by kernel_rfl⟩
def Gq:dQ [] (.type "function") (s_ "applies_to")=ab ae:=by decide+kernel
def Oy:dQ [] (.type "function") (s_ "allowance")=ab ae:=by decide+kernel
noncomputable def abl:List (Str×Nat):=slots ["middle","verdict","rule"]
def Oz:(193,abl,2)∈bt:=dZ (i:=17) (by kernel_rfl)
def OA:((192,188,oM):Addr×Addr×Str)∈iD:=dZ (i:=2) rfl
def OB{p:xt}{env:Env}(h1:p.defaults=[])(h2:p.kw_defaults=[]):defaultsOf p env=([],[]):=by rw[defaultsOf_eq,h1,h2];rfl
section
variable{X:Kx}{k:Nat}
def abm{A:aM}{N:Addr->Prop}{s:az}{mid v:Str}{vals:List ay}{E:ay->az->Prop}(ra:RA (k+1) A)(wd:Wd X s.heap)(ng:NG X N s.heap)(hv:aL X N s.heap [.str mid,.str v] vals):
  aA (model X.prog X.w) A (call (.ref 193) vals) (Res X N s (.eG mid v)) E s:=by
 refine uj 1 (iM Oz) ra wd ng hv rfl λ{env aB M N'}c=>?_
 have iE:env.code=.ref 192:=c.code.trans Ci.1
 have hq:env.qual++"<lambda>"=oM:=by rw[c.qual];exact Ci.2.1
 have hc1:oG (jW (aT (st 193 0))).2.2 env=pure []:=by unfold oG;rw[uy.2.2.1];rfl
 rw[abk]
 refine i6 (xU (kla_eval (OB uy.1.1 uy.1.2) ?_) (mT rfl))
 rw[hq]
 refine Ge OA c.a.wd iE c.a.ec.globals hc1 rfl λs₂ f cv ct iZ i5 rU rR=>?_
 have fM:∀{b},aB.heap.objs.size<=b->¬Fr env b/\_:=λ{b}h=>n7 c.a c.F h
 have lM:∀{b},aB.heap.objs.size<=b->¬M b:=λ{b}h q=>bx (c.a.ng.lt b (c.F.mn b q)) h
 have nt:∀{b},aB.heap.objs.size<=b->b∉aV:=λ{b}h q=>bx (c.a.ng.lt b (c.a.ng.tb b q)) h
 have U2:=rT (P:=λb=>b=f) c.a c.F iZ λb e=>e▸⟨i5,bw rU⟩
 refine l9 false U2.1 U2.2 (k₀:=2) (t:=.ptr f) rfl (.ptr f) ft λaX OC cM a3 F3=>⟨rfl,?_⟩
 have Gr:=cM.old f _ (lM i5) (nt i5) rU
 have kM:env.kindOf (s_ "middle")=ab .cell:=by rw[c.a.kd,Ci.2.2];rfl
 obtain⟨cm,Gs⟩:=c.a.ec.has (s_ "middle") (.inl kM)
 have hc2:oG (jW (aT (st 193 1))).2.2 env=pure [(s_ "middle",cm)]:=by
  unfold oG
  rw[uy.2.2.2]
  simp only[xO,xN,show(jm.local==g8)=false from rfl,show(g8==g8)=true from rfl,if_true,pq,if_false,ru Gs]
  rfl
 refine i6 (UM (kla_eval (OB uy.2.1.1 uy.2.1.2) ?_) (mT rfl))
 rw[hq]
 refine Ge OA a3.wd iE a3.ec.globals hc2 rfl λaS g cv2 ct2 j3 wF uz abp=>?_
 have zw:aB.heap.objs.size<=aX.heap.objs.size:=aD iZ.size cM.size
 have hg0:=aD zw wF
 have OD:=bw uz
 have U4:=rT (P:=λb=>b=g) a3 F3 j3 λb e=>e▸⟨wF,OD⟩
 have OE:=j3.old f _ (nt i5) Gr
 refine gC U4.1 (U4.1.ptr (i:=2) rfl rfl rfl) rfl rfl (abe OE (λc q=>by cases q) rfl Gq λh5 n5 tk5 OF OG OH k5=>⟨rfl,?_⟩)
 have W5:=Cg (tk:=aS.toks+2) U4.1 U4.2 OE (oN rfl rfl) (.inl (.inr rfl)) (lM i5) (fM i5).1 k5 (by rw[OH];exact gy _)
 refine i6 (UM ?_ (mT rfl))
 obtain⟨vv,rdv,vrv⟩:=W5.2.1.vr (y:=s_ "verdict") (i:=1) (t:=.str v) rfl rfl rfl
 have OI:gf [s_ "applies_to"] [.ref g] _:=gf.cons (h:=qp X.w.params (s_ "applies_to")) (t:=tk5) .nil
 refine gC W5.2.1 rdv rfl rfl (gC W5.2.1 (W5.2.1.ptr (i:=2) rfl rfl rfl) rfl rfl (abi OG OF Oy (Oo OI (g9.mpr ⟨gM,.nil⟩)) (by show 1<=900;decide) λh6 es6 n6 tk6 e6 hd6 BS=>⟨rfl,?_⟩))
 have Cj:=(rS (nm:=s_ "allowance") (hs:=qp X.w.params (s_ "allowance")) (tk:=tk6) (v:=vv) OI).1 (by decide)
 rw[<-e6]at Cj
 have Ck:aB.heap.objs.size<=aS.heap.objs.size:=aD zw j3.size
 have k6:∀b o,b≠aS.heap.objs.size->h5.get? b=ab o->h6.get? b=ab o:=λb o hb e=>BS.extBut b o hb e
 have W6:=Cg (tk:=aS.toks+2+2) W5.2.1 W5.2.2 OF (oN (d:=.dict _ _) rfl rfl) (.inr ⟨bj _,by rw[OH];exact il _⟩) (lM Ck) (fM Ck).1 k6 (bO BS.1.symm)
 refine c8 (qJ (gC W6.2.1 (W6.2.1.ptr (i:=2) rfl rfl rfl) rfl rfl ?_))
 have wG:=c.kp.size
 have rV:∀{b},aB.heap.objs.size<=b->¬N b:=λ{b}hb q=>bx (ng.lt b q) (aD wG hb)
 have Cm:Kp X s {aS with heap:=h6,toks:=aS.toks+2+2}:=
  (((((Mv.of (M:=λx=>False) (c.kp.trans iZ)).trans cM λd h=>.inr (c.hM d h)).trans (Mv.of (M:=λx=>False) j3) λd h=>.inl h).trans W5.1 λd h=>.inr (h▸aD wG i5)).trans W6.1 λd h=>.inr (h▸aD wG Ck)).kp λx q=>q
 have gd6:=k6 g _ (cW OD) (k5 g _ (λq=>fN _ (bG (bw Gr) (q▸wF))) uz)
 have fd6:=k6 f _ (cW (bG (bw Gr) j3.size)) OG
 obtain⟨vm,rdm,vrm⟩:=W6.2.1.vr (y:=s_ "middle") (i:=0) (t:=.str mid) rfl rfl rfl
 have Gu:h6.IsCell cm (ab vm):=rdm.elim (λq=>nomatch kM.symm.trans q.1) λq=>q.2.elim λb z=>by cases Gs.symm.trans z.1;exact z.2
 have abC:¬N cm:=λq=>by
  have h2:=Gs
  rw[c.cells,Ci.2.2]at h2
  cases (show ab (s.heap.objs.size+1)=ab cm from h2)
  exact bx (ng.lt _ q) (gy _)
 exact VR.c6 (P:=λvm=>h6.IsCell cm (ab vm)->_) vrm (λum lm Gu=>VR.c6 (P:=λvv=>gf _ [.ref g,vv] es6->_) vrv (λut lv Cj=>by
  obtain⟨cd,oc,OJ,ctk,rfl,q1,q2,q3,q4⟩:=(abp.keep W5.1.code).keep W6.1.code
  exact⟨Cm,.eG fd6 (rV i5) hd6 (rV Ck) Cj gd6 (rV hg0) ⟨_,_,_,rfl⟩ rfl Gu abC lm lv rfl q1 q3 q4 q2⟩) Cj) Gu
end
end Mine
section
open PySem PySem.Spec PySem.W PyProof.Rows PySem.Builtin PySem.Builtin.ObjectAttr
namespace Mine
def OK:dQ [] (.type "function") "__getattribute__"=ab (ab (.builtin "object.__getattribute__")):=by decide+kernel
def abD:dQ [] (.type "function") "__getattr__"=ab ae:=by decide+kernel
def abE:tF tG "object.__getattribute__"=ab eN.«object.__getattribute__»:=Be (by kernel_rfl)
def abF:plainId "object.__getattribute__"=true:=by decide+kernel
def abG:builtinKind "object.__getattribute__"=ab .slot:=by decide+kernel
def abH:splitId "object.__getattribute__"=ab ("object","__getattribute__"):=by decide+kernel
def abI(a b:ay):mH "object.__getattribute__" ⟨[a,b],[]⟩:=by unfold mH;kernel_rfl
def abJ:Slot "function" "__getattribute__" "object.__getattribute__":=.of (owner:="object") (n:="__getattribute__") (by rw[jq,jr];kernel_rfl) (by decide+kernel) (by decide+kernel) (by decide+kernel)
  (by first|exact .inl (by decide+kernel)|exact .inr (by decide+kernel)) (by rw[mG];kernel_rfl)
section
variable{prog:gK}{w:gY}{A:aM}{E:ay->az->Prop}{s:az}{f dx:Addr}{da:Data}{sl:Array (Option ay)}{es:List jh}{n:Nat}{nm:Str}{v:ay}
def abK{M:mz}{h:Heap}(hf:h.get? f=ab ⟨.type "function",ab dx,da,sl⟩)(zr:∀c,da≠.cls c)(hd:h.get? dx=ab (lQ es n))(hn:dQ [] (.type "function") nm=ab ae)(hl:getL nm es=ab (ab v)):
  qM M h (find (.ref f) (.type "function") nm) (.value v):=by
 have K0:DX ([]:Frag) h:=λa o e=>by cases e
 have own:qM M h (inOwnDict nm (.ref f)) (ab v):=by
  have body:∀A Q E s,(∀b o,h.get? b=ab o->s.heap.get? b=ab o)->Q (ab v) s->aA M A (Bd f false) (λa s'=>aA M A (inDict nm a) Q E s') E s:=by
   intro A Q E s k q
   unfold Bd
   refine aG (xZ (k _ _ hf) ?_)
   refine aQ (a:=ab dx) ?_
   refine aG (xZ (k _ _ hd) ?_)
   rw[nsLook_of (show lookIn nm (lQ es n)=ab (ab v)from hl)]
   exact aQ q
  intro A Q E s k q
  refine aG (aG (xZ (k _ _ hf) ?_))
  cases da<;>first|exact body A Q E s k q|exact aj rfl (zr _)
 refine(vz K0 hn).andThen (UK.andThen (UK.andThen ?_))
 exact own.andThen (qM.tag .now)
def fn_get{Q:ay->az->Prop}(hf:s.heap.get? f=ab ⟨.type "function",ab dx,da,sl⟩)(zr:∀c,da≠.cls c)(hd:s.heap.get? dx=ab (lQ es n))(hn:dQ [] (.type "function") nm=ab ae)(hl:getL nm es=ab (ab v))
  (hh:UC v=true) (h:Q v {s with toks:=s.toks+1}) {expr:Bool}:aA (model prog w) A (sU (.ref f) nm expr) Q E s:=by
 have K0:DX ([]:Frag) s.heap:=λa o e=>by cases e
 have T:qM (model prog w) s.heap (typeOf (.ref f)) (.type "function"):=(UJ (part:=ae) hf).andThen .now
 unfold sU getAttrBy
 refine aG (UH (dN (aG (tE (s:={s with toks:=s.toks+1}) T (aG (tE (s:={s with toks:=s.toks+1}) (vz K0 OK) ?_))))))
 show aA _ _ (aoA (.ref f) (.str nm s.toks) (.type "function") (.builtin "object.__getattribute__") true expr) _ _ _
 unfold aoA
 refine aG (aQ (aG (DZ (dN ?_))))
 have cg:aoB (.ref f) (.str nm s.toks) (.builtin "object.__getattribute__") expr=boundAndCalled (.builtin "object.__getattribute__") (.ref f) (.str nm s.toks):=by
  unfold aoB
  cases expr<;>rfl
 rw[cg]
 unfold boundAndCalled
 rw[abJ.bind]
 refine aG (aQ ?_)
 have sub:qM (model prog w) s.heap (Kt (.ref f) (.type "object")) true:=T.andThen (DY Oq)
 refine pw (ya abF abE (@check_slot (model prog w) _ _ {s with toks:=s.toks+1} "object.__getattribute__" "object" "__getattribute__" (.ref f) [.str nm s.toks] [] _ abG abH sub (abI (.ref f) (.str nm s.toks)) ?_))
 unfold eN.«object.__getattribute__»
 refine aG (aQ ?_)
 refine aG (m:=attrName _) (aQ ?_)
 refine aG (tE (s:={s with toks:=s.toks+1}) T (aG (tE (s:={s with toks:=s.toks+1}) (abK hf zr hd hn hl) ?_)))
 refine aQ ?_
 dsimp only
 rw[handedOut_of hh]
 exact aQ h
end
noncomputable def Gv:xt:=(jW (aT (st 193 1))).1
noncomputable def rW:Xp:=(jW (aT (st 193 1))).2.1
noncomputable def og:d9:=(jW (aT (st 193 1))).2.2
noncomputable def zx:Ex:=.bin .add (.sm .rfind (.var 0) (.cons (.bin .add (.bin .add (.lit (.str (s_ "r"))) (.var 1)) (.lit (.str (s_ "u")))) .nil)) (.lit (.int 1))
noncomputable def zy:Sc:=⟨[(s_ "name",.local),(s_ "middle",.free)],[(s_ "name",0),(s_ "middle",1)],[]⟩
def Cn:og.kind=.function/\og.isCoroutine=false/\og.isGenerator=false:=⟨by kernel_rfl,by kernel_rfl,by kernel_rfl⟩
def abL:(bo zx .val zy [rW]).ok=true:=by kernel_rfl
def abM(mg:Str->Option ay)(kB:List (Str×Addr))(cv ct v:ay):Kl (qQ mg (s_ "<lambda>") oM Gv (.expr rW) og kB cv ct) ⟨[v],[]⟩=pure [(s_ "name",v)]:=by kernel_rfl
noncomputable def OL{α:Type}(f:Str->Str->Option α):T->Option α
 |.eG m v=>f m v
 |_=>ae
def abN{α:Type}{t:T}{z:α}{P:Prop}{f:Str->Str->Option α}(e:OL f t=ab z)(k:∀m v,t=.eG m v->f m v=ab z->P):P:=by cases t with|eG m v=>exact k m v rfl e|_=>exact aN e
noncomputable def OM:List T->Option T:=a2 λr x=>OL (λm z=>cG (λx=>if m.length+2<=lim then ab (.int (Dq x (s_ "r"++m++s_ "u")+1))else ae) x) r
def abO{α:Type}{a b y:α}{P:α->Prop}(h:y∈[a,b])(k:P a)(k':P b):P y:=(br.mp h).elim (λe=>e▸k) λh=>b4.mp h▸k'
def abP{y x:Str}{a b:Addr}(h:[(x,a)].lookup y=ab b):y=x/\b=a:=by
 rw[cE]at h
 cases q:y==x with
 |true=>rw[q]at h;exact⟨ao q,(Option.some.inj h).symm⟩
 |false=>rw[q]at h;exact aN h
def ON{x:Str}{a:Addr}:[(x,a)].lookup x=ab a:=by rw[cE,aw]
def abQ:Gd zx .val zy [rW]:=no_implicit_lambda%(@Mb.get (Gd zx .val zy [rW]) (bo zx .val zy [rW]) abL)
section
variable{C:Cx}{k:Nat}
def abR(H:Ok C k){A:aM}{N:Addr->Prop}{s:az}{m x:Str}{u:Tok}{E:ay->az->Prop}{g cm cd:Addr}{gd:gX}{oc:Obj}{cv:Array ay}{ct um:Tok}{i:Int}
  (ra:RA (k+1) A) (wd:Wd C.X s.heap) (ng:NG C.X N s.heap) (hg:s.heap.get? g=ab {cls:=.type "function",data:=.func gd}) (hl:KR C.X.mg gd) (hc:gd.closure=[(s_ "middle",cm)])
  (hm:s.heap.IsCell cm (ab (.str m um))) (hP:¬N cm) (hz:m.length<=lim) (iE:gd.code=.ref cd) (nK:s.heap.get? cd=ab oc) (lT:oc.data=.fields cv) (mI:cv[1]?=ab (.str gd.qualname ct))
  (hx:x.length<=lim) (hlen:m.length+2<=lim) (hi:Dq x (s_ "r"++m++s_ "u")+1=i):aA (model C.X.prog C.X.w) A (call (.ref g) [.str x u]) (Res C.X N s (.int i)) E s:=by
 obtain⟨kB,Co,OO,Gw⟩:=hl
 have Gw:gd=qQ C.X.mg (s_ "<lambda>") oM Gv (.expr rW) og kB Co OO:=Gw
 subst Gw
 cases (show kB=[(s_ "middle",cm)]from hc)
 refine pw (qF (R:=λr s'=>match r with|.ok (.ret v)=>Res C.X N s (.int i) v s'|_=>False) ?_ λr s' hr=>?_)
 ·refine kla_callFunE ra.room hg rfl Cn.2.1 Cn.2.2 rfl ⟨cd,oc,cv,ct,iE,nK,lT,mI⟩ ?_
  rw[abM]
  have ln:og.names=[(s_ "name",.local),(s_ "middle",.free)]:=uy.2.2.2
  refine aQ (wpAny_newFunctionEnv (λy hy=>?_) (λy hy=>?_) (λbJ gQ zA=>⟨(wd.nolimit).fresh _ zA,?_⟩) Cn.1)
  ·rw[show(qQ C.X.mg (s_ "<lambda>") oM Gv (.expr rW) og [(s_ "middle",cm)] Co OO).scope.names=_ from ln]at hy
   exact abO hy (P:=λy=>y.2≠sZ) (by decide) (by decide)
  ·rw[b4.mp hy]
   show og.names.lookup _=_
   rw[ln];rfl
  ·generalize hE:newEnv og s.heap.objs.size gJ [(s_ "middle",cm)] (oM++".<locals>.") (ab g) Co ae jj=env
   show gN _ _ (.expr rW (newEnv og s.heap.objs.size gJ [(s_ "middle",cm)] (oM++".<locals>.") (ab g) Co ae jj)) _ _
   rw[hE]
   refine kla_codeExpr ?_
   have e1:env.scope=og:=by rw[<-hE];rfl
   have e2:env.locals=s.heap.objs.size:=by rw[<-hE];rfl
   have e3:env.cells=[(s_ "middle",cm)]:=by rw[<-hE];rfl
   have kp:Kp C.X s {s with heap:=bJ,toks:=s.toks+1}:=Kp.of (λb o e=>zA.extBut b o (cW (bw e)) (cS _ e)) (by rw[zA.1];exact rg _ _)
   have lk:∀{y b},env.cells.lookup y=ab b->y=s_ "middle"/\b=cm:=λh=>abP (e3▸h)
   have kd:∀{y},env.kindOf y=[(s_ "name",jm.local),(s_ "middle",.free)].lookup y:=λ{y}=>by unfold qw;rw[e1,ln]
   have OP:bJ.IsCell cm (ab (.str m um)):=hm.elim λo z=>⟨o,kp.old _ _ (λq=>hP (ng.tb _ q)) z.1,z.2⟩
   have cml:cm<s.heap.objs.size:=hm.elim λo z=>bw z.1
   have at_:At C.X k (A.deeper env) env zy N [ab (.str x),ab (.str m)] {s with heap:=bJ,toks:=s.toks+1}:=by
    refine⟨⟨by rw[e1];exact Cn.1,by rw[e1];exact ln,by rw[<-hE];rfl,by rw[<-hE];rfl,by rw[e2];exact vN ng,λy b h=>by rw[(lk h).2];exactλq=>hP (ng.tb _ q),λy hy=>?_,λy b h=>?_,λy y' b h1 h2=>(lk h1).1.trans (lk h2).1.symm,λy i t h1 h2=>?_⟩,wd.kp kp,ng.kp kp,ra.deeper⟩
    ·rw[kd]at hy
     have:y=s_ "middle":=hy.elim (λq=>vZ q (λp e=>by cases e) λe p=>e) λq=>vZ q (λp e=>by cases e) λe p=>e
     rw[this,e3];exact⟨cm,ON⟩
    ·rw[(lk h).2,e2];exact⟨⟨_,OP⟩,cW cml⟩
    ·refine vZ (show[(s_ "name",0),(s_ "middle",1)].lookup y=ab i from h1) (λey ei=>?_) λey ei=>?_
     ·subst ey;subst ei;cases h2
      exact⟨.str x u,.inl ⟨by rw[kd];exact E5,_,by rw[e2];exact gQ,rfl⟩,.str _ _ hx⟩
     ·subst ey;subst ei;cases h2
      exact⟨.str m um,.inr ⟨.inr (by rw[kd];rfl),cm,by rw[e3];exact ON,OP⟩,.str _ _ hz⟩
   have l1:(s_ "r"++m).length<=lim:=by rw[sQ,eK];exact aD (f6 (show 1<=2 by decide) _) hlen
   have l2:(s_ "r"++m++s_ "u").length<=lim:=by rw[sQ,sQ,eK (s_ "r").length];exact hlen
   have ev1:tO (.str (s_ "r")) (.str m)=ab (.str (s_ "r"++m)):=ah (by rw[<-sQ];exact l1)
   have ev2:tO (.str (s_ "r"++m)) (.str (s_ "u"))=ab (.str (s_ "r"++m++s_ "u")):=ah (by rw[<-sQ];exact l2)
   have hev:ev C.F zx [ab (.str x),ab (.str m)]=ab (.int i):=by
    show((((tO (.str (s_ "r")) (.str m)).bind λy=>tO y (.str (s_ "u"))).bind (λy=>ab (T.tup [y]))).bind (bH (iU .rfind (.str x)))).bind (λy=>tO y (.int 1))=_
    rw[ev1,Option.bind_some,ev2,<-hi];rfl
   exact mo (abQ H at_ hev _) λv s' hv=>⟨kp.trans hv.1,hv.2⟩
 ·cases r with
  |error e=>exact hr.elim
  |ok fl=>cases fl<;>first|exact hr|exact hr.elim
def abW(H:Ok C k):rj C.X (k+1) (s_ "applies_to") OM:=by
 intro A N s pos pl trees x ov ts t E ra wd ng hx hp e args
 refine rb e λr y0 q ea=>abN ea λm v qr eb=>hZ eb λy qs ec=>ifs ec λhlen ez=>?_
 clear e ea eb ec
 subst ez;subst qs;subst qr
 cases q
 cases hx with
 | @eG a dA g c cd _ _ fd gd es n tk u oc cv ct ho hN hd hM he hg hO hl hc hm hP hz hy iE nK lT mI hR=>
  have T:qM (model C.X.prog C.X.w) s.heap (typeOf (.ref a)) (.type "function"):=(UJ (part:=ae) ho).andThen .now
  have K0:DX ([]:Frag) s.heap:=λa o e=>aN e
  have abX:=PySem.F.canon_object_ga
  unfold JG yb
  refine aG (aG (T.here ((vz K0 OK).here ?_)))
  dsimp only
  rw[abX,ai (by decide)]
  refine aG (aG (T.here ((vz K0 abD).here (aG (aG (T.here ((vz K0 Gq).here ?_)))))))
  refine aG (fn_get ho (λc q=>by cases q) hd Gq ((uk he).2 0 (by decide) rfl) rfl (aQ ?_))
  refine Bb (o:={cls:=.type "function",data:=.func gd}) (fd:=gd) (ic hp (mo (args {s with toks:=s.toks+1} Kp.tok E) λvs aB z=>?_))
  have k1:Kp C.X s aB:=Kp.tok.trans z.1
  have wF:=k1.old g _ (λq=>hO (ng.tb g q)) hg
  refine⟨⟨wF,rfl⟩,z.2.oO λv hv=>hv.c6 λut hyl=>?_⟩
  exact mo (abR H ra (wd.kp k1) (ng.kp k1) wF hl hc (hm.elim λo q=>⟨o,k1.old c _ (λq=>hP (ng.tb c q)) q.1,q.2⟩) hP hz iE (k1.code cd _ ⟨hR,_,lT⟩ nK) lT mI hyl hlen rfl) λw s₂ nT=>⟨k1.trans nT.1,nT.2⟩
def Gx{X:Kx}:tU X 100 (oL 100):=by
 intro A N s x ov t Q E wd ng hx e q
 cases hx with
 | @eG a dA g c cd m v fd gd es n tk u oc cv ct ho hN hd hM he hg hO hl hc hm hP hz hy iE nK lT mI hR=>
  cases e
  exact fn_get ho (λc q=>by cases q) hd Oy ((uk he).2 1 (by decide) rfl) rfl (q _ _ Kp.tok (.str _ _ hy))
 | @ins a dA c es n vs ts h1 h2 h3 h4 h5 h6=>
  refine gi (show(if 100/10=c then _ else ae)=ab t from e) λhc e'=>?_
  subst hc
  have l1:=(iR.mp e').1
  rw[<-h6.length,h5.len]at l1
  exact aj l1 (Ku _)
 |_=>exact aN e
end
end Mine
end
namespace Mine
abbrev IV(h:Heap)(x dx Cc:Addr)(ns:List Str)(vs:List ay):Prop:=h.get? x=ab (ny Cc dx)/\(∃es n,h.get? dx=ab (lQ es n)/\gf ns vs es)/\ns.Nodup/\ns.length<=20
section
variable(h:IV h x dx Cc ns vs)
def IV.obj:=h.1
def IV.dict:=h.2.1
def IV.nd:=h.2.2.1
def IV.Cp:=h.2.2.2
end
def gf.abZ{ns:List Str}{vs:List ay}{es:List jh}(h:gf ns vs es):es.length=ns.length:=by
 induction h with
 |nil=>rfl
 |cons r ih=>exact af (· +1) ih
abbrev oh(K:Frag)(Cc:Addr)(nm:Str):Prop:=dQ K (.ref Cc) "__setattr__"=ab (ab (.builtin "object.__setattr__"))/\Ko K Cc=true/\Kq K Cc nm=ab ae/\xY K Cc=true
section
variable{K:Frag}(h:oh K Cc nm)
def oh.sa:=h.1
def oh.po:=h.2.1
def oh.tk:=h.2.2.1
def oh.hd:=h.2.2.2
end
abbrev Mk(X:Kx)(k:Nat)(A:aM)(env:Env)(c:Sc)(aH M N:Addr->Prop)(ad:Nat->Addr)(r:aE)(s:az)(x dx Cc:Addr)(ns:List Str)(vs:List ay):Prop:=At X k A env c N r s/\Fw X env c aH M N ad r s.heap/\IV s.heap x dx Cc ns vs/\x∉aV/\dx∉aV/\N dx/\¬M dx/\¬Fr env dx/\x≠dx
section
variable{ad:Nat->Addr}(h:Mk X k A env c aH M N ad r s x dx Cc ns vs)
def Mk.a:=h.1
def Mk.F:=h.2.1
def Mk.I:=h.2.2.1
def Mk.tx:=h.2.2.2.1
def Mk.td:=h.2.2.2.2.1
def Mk.hN:=h.2.2.2.2.2.1
def Mk.hM:=h.2.2.2.2.2.2.1
def Mk.hf:=h.2.2.2.2.2.2.2.1
def Mk.xd:=h.2.2.2.2.2.2.2.2
end
section
variable{X:Kx}{k:Nat}{A:aM}{env:Env}{c:Sc}{aH M N:Addr->Prop}{ad:Nat->Addr}{r:aE}{s aB:az}{E:ay->az->Prop}{x dx Cc:Addr}{ns nV:List Str}{vs j1:List ay}
def IV.keep{h h':Heap}(I:IV h x dx Cc ns vs)(k1:∀o,h.get? x=ab o->h'.get? x=ab o)(k2:∀o,h.get? dx=ab o->h'.get? dx=ab o):IV h' x dx Cc ns vs:=
 ⟨k1 _ I.obj,I.dict.elim λes q=>q.elim λn q=>⟨es,n,k2 _ q.1,q.2⟩,I.nd,I.Cp⟩
def Mk.kp(m:Mk X k A env c aH M N ad r s x dx Cc ns vs)(q:Kp X s aB):Mk X k A env c aH M (λb=>N b∨(s.heap.objs.size<=b/\b<aB.heap.objs.size)) ad r aB x dx Cc ns vs:=
 have U:=rT (P:=λb=>s.heap.objs.size<=b/\b<aB.heap.objs.size) m.a m.F q λb h=>h
 ⟨U.1,U.2,m.I.keep (λo e=>q.old _ _ m.tx e) λo e=>q.old _ _ m.td e,m.tx,m.td,.inl m.hN,m.hM,m.hf,m.xd⟩
def Mk.set(m:Mk X k A env c aH M N ad r s x dx Cc ns vs){nm:Str}{v:ay}(cl:oh X.K Cc nm)(Gy:∀hs tk es,gf ns vs es->gf nV j1 (putL nm hs (.str nm tk) v es))(pO:nV.Nodup)(zB:nV.length<=20){Q:Unit->az->Prop}
  (q:∀s' N',Mv X (λb=>b=dx) s s'->Mk X k A env c aH M N' ad r s' x dx Cc nV j1->(∀b,N b->N' b)->(∀b,N' b->N b∨s.heap.objs.size<=b)->s'.heap.objs.size=s.heap.objs.size->Q () s'):aA (model X.prog X.w) A (DW (.ref x) nm v) Q E s:=by
 obtain⟨es,n,hd,he⟩:=m.I.dict
 refine aa6 m.a.wd.K ⟨m.I.obj,rfl,rfl,hd⟩ rfl cl.sa cl.po cl.tk cl.hd (Oo he m.I.nd) (by rw[he.abZ];exact aD m.I.Cp (by decide)) λh' iJ n' e1 e2 e3=>?_
 have kk:∀b o,b≠dx->s.heap.get? b=ab o->h'.get? b=ab o:=λb o hb e=>e3.extBut b o hb e
 have W:=Cg (tk:=s.toks+2) m.a m.F hd (oN (d:=.dict _ _) rfl rfl) m.hN m.hM m.hf kk (bO e3.1.symm)
 exact q _ _ W.1 ⟨W.2.1,W.2.2,⟨kk _ _ m.xd m.I.obj,⟨iJ,n',e2,by rw[e1];exact Gy _ _ _ he⟩,pO,zB⟩,m.tx,m.td,.inl m.hN,m.hM,m.hf,m.xd⟩ (λb h=>.inl h) (λb h=>h.imp id λh=>h.1) e3.1
def ab0(ra:RA (k+1) A){v:List ay}:RA k (A.under (.builtin "type.__call__" ⟨.ref Cc::v,[]⟩)):=
 ⟨ra.handled,ra.guards,by show A.depth+1+k<900;have:=ra.depth;rw[gZ,eK 1 k];exact this,by show A.units+1+8*k<9000;have:=ra.units;rw[Kv]at this;exact bI (by rw[gZ,eK 1];exact f6 (f6 (by decide) _) _) this⟩
def ab1{fI:Addr}{rest:List ay}{Q:ay->az->Prop}(hK:X.K.In s.heap)(hm:Kw X.K Cc=true)(hi:dQ X.K (.ref Cc) "__init__"=ab (ab (.ref fI)))(hf:Bc X.K (.ref fI)=ab (.type "function"))
  (h:gN (model X.prog X.w) (A.under (.builtin "type.__call__" ⟨.ref Cc::rest,[]⟩)) (.call (.ref fI) ⟨.ref (s.heap.objs.size+1)::rest,[]⟩)
   (λr s'=>match r with|.ok (.ret v)=>v=.none/\Q (.ref (s.heap.objs.size+1)) s'|_=>False) {s with heap:=(s.heap.push tH).push (ny Cc s.heap.objs.size)}):
  aA (model X.prog X.w) A (call (.ref Cc) rest) Q E s:=by
 obtain⟨hh,g,d,t,os⟩:=s
 refine pw (qF (make_core (R:=λr s'=>match r with|.ok (.ret v)=>Q v s'|_=>False) (makes_of hK hm) (vz hK hi) (λself=>bind_fn hK self hf) (.inl rfl) (qF h λr s' hr=>?_)) λr s' hr=>?_)
 ·cases r with
  |error e=>exact hr
  |ok f=>cases f<;>exact hr
 ·cases r with
  |error e=>exact hr.elim
  |ok f=>cases f<;>first|exact hr|exact hr.elim
def OQ{fI:Addr}{fd:gX}{bd:List Stmt}{l:List (Str×Nat)}{ps:List Str}(n:Nat)(f:iL X fI fd bd l ps)(hm:Kw X.K Cc=true)(hi:dQ X.K (.ref Cc) "__init__"=ab (ab (.ref fI)))(hf:Bc X.K (.ref fI)=ab (.type "function")){ts:List T}{vals:List ay}(hl:ts.length+1=ps.length)
  (ra:RA (k+2) A) (wd:Wd X s.heap) (ng:NG X N s.heap) (hv:aL X N s.heap ts vals) {Q:ay->az->Prop}
  (h:∀{A':aM}{env:Env}{aB:az}{aH M N':Addr->Prop},Mk X k A' env ⟨fd.scope.names,l,[]⟩ aH M N' (λy=>0) (start n (.ptr (s.heap.objs.size+1)::ts)) aB (s.heap.objs.size+1) s.heap.objs.size Cc [] []->Kp X s aB->(∀b,N' b->N b∨s.heap.objs.size<=b)->(∀b,N b->N' b)->(∀b,M b->s.heap.objs.size<=b)->(∀b,(N b∨(b=s.heap.objs.size+1∨b=s.heap.objs.size))->aH b)->
   aA (model X.prog X.w) A' (bL bd env) (λg s'=>zi g=.none/\Q (.ref (s.heap.objs.size+1)) s') (λy y=>False) aB):aA (model X.prog X.w) A (call (.ref Cc) vals) Q E s:=by
 refine ab1 wd.K hm hi hf ?_
 have z1:((s.heap.push tH).push (ny Cc s.heap.objs.size)).objs.size=s.heap.objs.size+1+1:=by rw[fh,fh]
 have zC:Kp X s {s with heap:=(s.heap.push tH).push (ny Cc s.heap.objs.size)}:=Kp.of (λb o e=>cS _ (cS _ e)) (by rw[z1];exact bX _ 2)
 have gx:((s.heap.push tH).push (ny Cc s.heap.objs.size)).get? (s.heap.objs.size+1)=ab (ny Cc s.heap.objs.size):=by
  have:=cD (s.heap.push tH) (o:=ny Cc s.heap.objs.size) rfl
  rwa [fh]at this
 have gd:((s.heap.push tH).push (ny Cc s.heap.objs.size)).get? s.heap.objs.size=ab (lQ [] 0):=cS _ (cD _ rfl)
 have hP:∀b,(b=s.heap.objs.size+1∨b=s.heap.objs.size)->s.heap.objs.size<=b/\b<((s.heap.push tH).push (ny Cc s.heap.objs.size)).objs.size:=λb e=>by
  rw[z1]
  rcases e with rfl|rfl
  ·exact⟨gy _,il _⟩
  ·exact⟨bj _,vp (il _)⟩
 have ng1:NG X (λb=>N b∨(b=s.heap.objs.size+1∨b=s.heap.objs.size)) ((s.heap.push tH).push (ny Cc s.heap.objs.size)):=ng.more (λb h=>.inl h) wd zC.size λb h=>h.imp id (hP b)
 have up:∀b,(N b∨(b=s.heap.objs.size+1∨b=s.heap.objs.size))->N b∨s.heap.objs.size<=b:=λb h=>h.imp id λe=>(hP b e).1
 have uA:∀{b},s.heap.objs.size<=b->b∉aV:=λ{b}hb q=>bx (ng.lt b (ng.tb b q)) hb
 refine qF (NI (Q:=λv s'=>v=.none/\Q (.ref (s.heap.objs.size+1)) s') n f (ab0 ra) (wd.kp zC) ng1 (ts:=.ptr (s.heap.objs.size+1)::ts) (.cons (.ptr _) (hv.move up λb o q e=>cS _ (cS _ e))) hl λ{env aB M N'}c=>?_) λr s' hr=>hr
 have dM:∀{b},b<((s.heap.push tH).push (ny Cc s.heap.objs.size)).objs.size->¬M b:=λ{b}hb q=>bx hb (c.hM b q)
 refine h ⟨c.a,c.F,⟨c.kp.old _ _ (uA (gy _)) gx,⟨[],0,c.kp.old _ _ (uA (bj _)) gd,.nil⟩,.nil,dP _⟩,uA (gy _),uA (bj _),c.F.n0 _ (.inr (.inr rfl)),dM (hP _ (.inr rfl)).2,λq=>bx (hP _ (.inr rfl)).2 (c.fr _ q),xR _⟩ (zC.trans c.kp) (λb h=>(c.hN b h).elim (up b) λz=>.inr (aD zC.size z)) (λb h=>c.F.n0 b (.inl h)) (λb h=>aD zC.size (c.hM b h)) λb=>id
end
section
variable{X:Kx}{k:Nat}{A:aM}{env:Env}{c:Sc}{aH M N:Addr->Prop}{ad:Nat->Addr}{r:aE}{s aB:az}{E:ay->az->Prop}{x dx Cc:Addr}{ns nV:List Str}{vs:List ay}{j1:ay->List ay}
def uB{R:ay->az->Prop}{y nm:Str}{i:Nat}{value:Xp}{sm:Stmt}{rest:List Stmt}(m:Mk X k A env c aH M N ad r s x dx Cc ns vs)(hv:∀E,aA (model X.prog X.w) A (eval value env) (λv aB=>Kp X s aB/\R v aB) E s)(Gz:cZ value=true)
  (hy:c.slots.lookup y=ab i) (hr:get r i=ab (.ptr x)) (hn:iV y=true) (ho:c.own.contains i=false) (cl:oh X.K Cc nm) (Gy:∀v hs tk es,gf ns vs es->gf nV (j1 v) (putL nm hs (.str nm tk) v es)) (pO:nV.Nodup) (zB:nV.length<=20) {Q:Flow->az->Prop}
  (q:∀{v aB s' N'},Kp X s aB->R v aB->Mv X (λb=>b=dx) aB s'->Mk X k A env c aH M N' ad r s' x dx Cc nV (j1 v)->(∀b,s.heap.objs.size<=b->b<s'.heap.objs.size->N' b)->(∀b,N b->N' b)->(∀b,N' b->N b∨s.heap.objs.size<=b)->aA (model X.prog X.w) A (bL rest env) Q E s'):
  aA (model X.prog X.w) A (bL (jC sm y nm value::rest) env) Q E s:=by
 refine i6 (UM (mo (hv _) λv aB z=>?_) (mT Gz))
 have m1:=m.kp z.1
 refine gC m1.a (m1.a.ptr hy hr ho) (iW hn).1 (iW hn).2 (m1.set cl (Gy v) pO zB λs' N' mv m2 h1 h2 hz=>⟨rfl,?_⟩)
 exact q z.1 z.2 mv m2 (λb g1 g2=>h1 b (.inr ⟨g1,hz▸g2⟩)) (λb h=>h1 b (.inl h)) λb h=>(h2 b h).elim (λh=>h.imp id λh=>h.1) λh=>.inr (aD z.1.size h)
def OR{p:Pos}(E:ay->az->Prop):aA (model X.prog X.w) A (eval (.List [] p) env) (λv aB=>Kp X s aB/\∃u,v=.ref u/\s.heap.objs.size<=u/\aB.heap.PlainList u #[]) E s:=
 JK (gb ⟨dP _,Kp.push,_,rfl,bj _,⟨_,cD _ rfl⟩⟩)
end
noncomputable def cK(x:Xp):Nat:=if h:x.ctorIdx=19 then Expr.Constant.elim x h λz j z=>j else default
noncomputable def OS(x:Xp):Xp:=.List [] x.pos
noncomputable def OT(x:Xp):Xp:=.Constant .none (cK x) x.pos
def ab3:body 151=[jC (st 151 0) (s_ "self") (s_ "useragents") (OS (aT (st 151 0))),jC (st 151 1) (s_ "self") (s_ "rulelines") (OS (aT (st 151 1))),jC (st 151 2) (s_ "self") (s_ "delay") (OT (aT (st 151 2))),jC (st 151 3) (s_ "self") (s_ "req_rate") (OT (aT (st 151 3)))]:=by kernel_rfl
noncomputable def kW:List Str:=["useragents","rulelines","delay","req_rate"].map s_
def ab4:(151,slots ["self"],1)∈bt:=dZ (i:=18) (by kernel_rfl)
def uC(P:dY):(Kw (KK P) 175=true/\dQ (KK P) (.ref 175) "__init__"=ab (ab (.ref 151))/\Bc (KK P) (.ref 151)=ab (.type "function"))/\dQ (KK P) (.ref 175) "__setattr__"=ab (ab (.builtin "object.__setattr__"))/\Ko (KK P) 175=true/\xY (KK P) 175=true/\kW.all (λn=>decide (Kq (KK P) 175 n=ab ae))=true:=⟨⟨by kernel_rfl,by kernel_rfl,by kernel_rfl⟩,by kernel_rfl,by kernel_rfl,by kernel_rfl,by kernel_rfl⟩
def mY{P:dY}{n:Str}(h:n∈kW):oh (KK P) 175 n:=⟨(uC P).2.1,(uC P).2.2.1,aq (bA.mp (uC P).2.2.2.2 n h),(uC P).2.2.2.1⟩
abbrev EN(X:Kx)(s:az)(a:Addr)(s':az)(dA u l:Addr):Prop:=Kp X s s'/\s.heap.objs.size<=a/\s.heap.objs.size<=dA/\s.heap.objs.size<=u/\s.heap.objs.size<=l/\IV s'.heap a dA 175 kW [.ref u,.ref l,.none,.none]/\s'.heap.PlainList u #[]/\s'.heap.PlainList l #[]/\u≠l/\a≠dA
section
variable(h:EN X s a s' dA u l)
def EN.kp:=h.1
def EN.a0:=h.2.1
def EN.d0:=h.2.2.1
def EN.u0:=h.2.2.2.1
def EN.l0:=h.2.2.2.2.1
def EN.iv:=h.2.2.2.2.2.1
def EN.pu:=h.2.2.2.2.2.2.1
def EN.pl:=h.2.2.2.2.2.2.2.1
def EN.ul:=h.2.2.2.2.2.2.2.2.1
def EN.ad:=h.2.2.2.2.2.2.2.2.2
end
section
variable{X:Kx}{k:Nat}
def mh{j:Nat}{n:Str}(h:kW[j]?=ab n):n∈kW:=dZ h
def ab5{A:aM}{N:Addr->Prop}{s:az}{E:ay->az->Prop}(ra:RA (k+2) A)(wd:Wd X s.heap)(ng:NG X N s.heap):aA (model X.prog X.w) A (call (.ref 175) []) (λv s'=>∃a dA u l,v=.ref a/\EN X s a s' dA u l) E s:=by
 refine OQ 0 (iM ab4) (uC _).1.1 (uC _).1.2.1 (uC _).1.2.2 (ts:=[]) rfl ra wd ng .nil λ{A' env aB aH M N'}m k0 hN EJ hM z=>?_
 rw[ab3]
 have nt:∀{b},s.heap.objs.size<=b->b∉aV:=λ{b}hb q=>bx (ng.lt b (ng.tb b q)) hb
 have pp:∀n,(s_ n)∉([]:List Str):=λz=>gM
 refine uB m OR rfl (i:=0) rfl rfl rfl rfl (mY (mh (j:=0) rfl)) (λv hs tk es he=>(rS he).1 gM) (by decide) (by decide) λ{v1 t1 s₂ N2}k1 h1 uD m2 n2 n2' u2=>?_
 obtain⟨u,rfl,u0,pu⟩:=h1
 refine uB m2 OR rfl (i:=0) rfl rfl rfl rfl (mY (mh (j:=1) rfl)) (λv hs tk es he=>(rS he).1 (by decide)) (by decide) (by decide) λ{v2 t2 aX N3}k2 h2 n9 m3 n3 n3' u3=>?_
 obtain⟨l,rfl,l0,pl⟩:=h2
 refine uB (R:=λv z=>v=.none) m3 (λE=>TC ⟨.refl _,rfl⟩) rfl (i:=0) rfl rfl rfl rfl (mY (mh (j:=2) rfl)) (λv hs tk es he=>(rS he).1 (by decide)) (by decide) (by decide) λ{v3 t3 aS N4}k3 h3 cM m4 n4 n4' u4=>?_
 subst h3
 refine uB (R:=λv z=>v=.none) m4 (λE=>TC ⟨.refl _,rfl⟩) rfl (i:=0) rfl rfl rfl rfl (mY (mh (j:=3) rfl)) (λv hs tk es he=>(rS he).1 (by decide)) (by decide) (by decide) λ{v4 t4 dC N5}k4 h4 rX m5 n5 n5' u5=>?_
 subst h4
 have s1:=k0.size
 have s2:=aD s1 (aD k1.size uD.size)
 have dl:s.heap.objs.size<aB.heap.objs.size:=m.a.ng.lt _ m.hN
 have uu:=aD s1 u0
 have ll:=aD s2 l0
 have keep:∀{aB s₂ aX:az}(k:Kp X aB s₂)(mv:Mv X (λb=>b=s.heap.objs.size) s₂ aX){b o},s.heap.objs.size<b->aB.heap.get? b=ab o->aX.heap.get? b=ab o:=λ{_ _ _}k mv{_ _}h e=>mv.old _ _ (iS h) (nt (cT h)) (k.old _ _ (nt (cT h)) e)
 have ug:s.heap.objs.size<u:=bG dl u0
 have lg:s.heap.objs.size<l:=bG dl (aD (aD k1.size uD.size) l0)
 have OU:=pu.at λo e=>keep (.refl _) uD ug e
 have mm:∀{aB s₂ aX:az},Mv X (λz=>False) s aB->Kp X aB s₂->Mv X (λb=>b=s.heap.objs.size) s₂ aX->Mv X (λz=>False) s aX:=λa k m=>(a.trans (Mv.of (M:=λz=>False) k) λd h=>.inl h).trans m λd h=>.inr (bO h.symm)
 exact aQ ⟨rfl,_,_,u,l,rfl,(mm (mm (mm (mm (Mv.of k0) k1 uD) k2 n9) k3 cM) k4 rX).kp λz q=>q,gy _,bj _,uu,ll,m5.I,OU.at λo e=>keep k4 rX ug (keep k3 cM ug (keep k2 n9 ug e)),
  pl.at λo e=>keep k4 rX lg (keep k3 cM lg (keep (.refl _) n9 lg e)),λe=>by obtain⟨n,g⟩:=OU;exact bx (bw g) (e▸l0),xR _⟩
end
section
variable{C:Cx}{k:Nat}{A:aM}{env:Env}{c:Sc}{aH M N W:Addr->Prop}{ad:Nat->Addr}{r:aE}{s s₂:az}{E:ay->az->Prop}{J:(Addr->Prop)->aE->az->Prop}
structure LJ(C:Cx)(k:Nat)(A:aM)(env:Env)(c:Sc)(aH M N W:Addr->Prop)(J:(Addr->Prop)->aE->az->Prop)(s:az)(p:Fl×aE)(s':az):Prop where
 nx:p.1=.next
 mv:Mv C.X (λb=>M b∨W b) s s'
 st:∃ad,At C.X k A env c N p.2 s'/\Fw C.X env c aH M N ad p.2 s'.heap
 j:J N p.2 s'
def OV(C:Cx)(k:Nat)(A:aM)(env:Env)(c:Sc)(M W:Addr->Prop)(J:(Addr->Prop)->aE->az->Prop)(tg:aW)(body:List Stmt)(f:T->aE->Option (Fl×aE)):Prop:=
 ∀{aH N:Addr->Prop}{ad s y v r p},(∀b,W b->aH b)->At C.X k A env c N r s->Fw C.X env c aH M N ad r s.heap->J N r s->VR C.X N s.heap y v->f y r=ab p->∀E,
  aA (model C.X.prog C.X.w) A (assign tg env v) (λz s₂=>aA (model C.X.prog C.X.w) A (bL body env) (λfw aX=>fw=.next/\LJ C k A env c aH M N W J s p aX) E s₂) E s
def FiJ(C:Cx)(k:Nat)(A:aM)(env:Env)(c:Sc)(aH M N W:Addr->Prop)(J:(Addr->Prop)->aE->az->Prop)(s₂:az)(l:List T)(St:Nat->Heap->Prop)(f:T->aE->Option (Fl×aE))(p:Fl×aE)(n:Nat)(aB:az):Prop:=
 ∃j fF,n=l.length - j/\LJ C k A env c aH M N W J s₂ (.next,fF) aB/\St j aB.heap/\j<=l.length/\b6 f (l.drop j) fF=ab p
def ab7{tg:aW}{tp:Bool}(FA:tp=true->∃es kk p,tg=.Tuple es kk p){body:List Stmt}{f:T->aE->Option (Fl×aE)}(hT:OV C k A env c M W J tg body f)(a:At C.X k A env c N r s)(F:Fw C.X env c aH M N ad r s.heap)(hW:∀b,W b->aH b)(hJ:J N r s)
  (jk:∀{V N N' r s s'},J N r s->NG C.X N s.heap->Mv C.X V s s'->(∀b,V b->N b)->(∀b,V b->¬W b)->(∀b,N' b->N b∨s.heap.objs.size<=b)->J N' r s') {l:List T} {I:Addr} {fp wr:List Addr} {St:Nat->Heap->Prop} {eH:Nat->ay->Heap->Prop}
  (it:It C.X N s₂.heap l tp I fp wr St eH) (zd:St 0 s₂.heap) (fC:Kp C.X s s₂) (fD:∀b∈wr,s.heap.objs.size<=b) (ie:∀b∈fp,b∉wr->¬N b) {p:Fl×aE} (hl:b6 f l r=ab p)
  {R:oH->az->Prop} (hR:∀s',LJ C k A env c aH M (λb=>N b∨b∈wr) W J s p s'->R (.ok .next) s'):
  gN (model C.X.prog C.X.w) A (.forLoop tg (.ref I) body [] env) R s₂:=by
 have pI:∀b,b∈wr->s.heap.objs.size<=b/\b<s₂.heap.objs.size:=λb h=>⟨fD b h,it.lt b (it.sub b h)⟩
 have up:∀b,(N b∨b∈wr)->N b∨s.heap.objs.size<=b:=λb q=>q.imp id (fD b)
 have nw:∀{b},N b->b∉wr:=λ{b}h q=>bx (a.ng.lt b h) (fD b q)
 have mw:∀{b},M b∨W b->N b:=λ{b}h=>h.elim (F.mn b) λh=>F.n0 b (hW b h)
 have a0:At C.X k A env c (λb=>N b∨b∈wr) r s₂:=a.grow fC (a.ng.more (λb h=>.inl h) a.wd fC.size λb q=>q.imp id (pI b)) up
 have F0:Fw C.X env c (λb=>aH b∨b∈wr) M (λb=>N b∨b∈wr) ad r s₂.heap:=(F.kp a fC).grow (λx=>id) (λb h=>.inl (F.mn b h)) (λb h q=>q.elim (F.m0 b h) (nw (F.mn b h))) λb h=>h.imp (F.n0 b) id
 refine MV (FiJ C k A env c (λb=>aH b∨b∈wr) M (λb=>N b∨b∈wr) (λb=>W b∨b∈wr) J s₂ l St f p) (λn aB E hI=>?_) (l.length - 0)
  ⟨0,r,rfl,⟨rfl,.refl _,⟨ad,a0,F0⟩,jk (V:=λx=>False) hJ a.ng (.of fC) (λx=>False.elim) (λx=>False.elim) up⟩,zd,dP _,hl⟩
 obtain⟨j,fF,rfl,L,st,hj,j8⟩:=hI
 obtain⟨-,mv,⟨uc,mV,rL⟩,ab8⟩:=L
 have fS:∀s',Mv C.X (λb=>b∈wr) aB s'->(At C.X k A env c (λb=>N b∨b∈wr) fF s'/\Fw C.X env c (λb=>aH b∨b∈wr) M (λb=>N b∨b∈wr) uc fF s'.heap)/\J (λb=>N b∨b∈wr) fF s':=λs' m=>
  ⟨other mV rL m (λb h=>.inr h) (λb hb q=>(n7 a F (fD b q)).1 hb) λb h=>nw (F.mn b h),jk ab8 mV.ng m (λb h=>.inr h) (λb h q=>nw (mw (.inr q)) h) λb=>.inl⟩
 have ze:∀{s'},Mv C.X (λb=>b∈wr) aB s'->Mv C.X (λb=>M b∨(W b∨b∈wr)) s₂ s':=λm=>mv.trans m λd h=>.inl (.inr (.inr h))
 have out:∀{s'},Mv C.X (λb=>M b∨(W b∨b∈wr)) s₂ s'->Mv C.X (λb=>M b∨W b) s s':=λm=>(Mv.of fC).trans m λd q=>q.elim (λq=>.inl (.inl q)) λq=>q.elim (λq=>.inl (.inr q)) λq=>.inr (fD d q)
 refine it.next a.ra.handled mV.ng (λb h=>.inr h) st hj (λb ob hb hw e=>?_) (λb h=>h.imp id .inl) FA (λgn s' m=>?_) λy v s' hx m dU hv=>?_
 ·exact hb.elim (λhb=>mv.old b ob (λq=>q.elim (λq=>hb (mw (.inl q))) λq=>q.elim (λq=>hb (mw (.inr q))) hw) (λz=>hb (a.ng.tb b z)) e) λc=>mv.code b ob c e
 ·subst gn
  rw[J1]at j8
  cases j8
  have U:=fS s' m
  exact hR _ ⟨rfl,out (ze m),⟨uc,U.1.1,U.1.2.grow (λx=>id) U.1.2.mn (λb h q=>U.1.2.m0 b h (.inl q)) λb h=>U.1.2.n0 b (.inl h)⟩,U.2⟩
 ·obtain⟨gn,dj⟩:=BU hx
  rw[dj]at j8
  refine aO j8 λMX hf j8=>?_
  have U:=fS s' m
  refine mo (hT (λb h=>.inl (hW b h)) U.1.1 U.1.2 U.2 hv hf _) λx aX j0=>mo j0 λfw aS L=>?_
  obtain⟨rfl,L⟩:=L
  have FC:St (j+1) aS.heap:=by
   refine it.frame _ _ _ dU λb hb ob e=>L.mv.old b ob (λq=>?_) (it.nt b hb) e
   by_cases hw:b∈wr
   ·exact nw (mw q) hw
   ·exact ie b hb hw (mw q)
  obtain⟨fl,zD⟩:=MX
  cases L.nx
  exact⟨_,less gn,j+1,zD,rfl,⟨rfl,(ze m).trans L.mv λd h=>.inl (h.imp id .inl),L.st,L.j⟩,FC,gn,j8⟩
end
structure OW(K:Frag)(Cc:Addr)(nm:Str):Prop where
 ga:dQ K (.ref Cc) "__getattribute__"=ab (ab (.builtin "object.__getattribute__"))
 hd:xY K Cc=true
 no:dQ K (.ref Cc) nm=ab ae
def ab9:kW.map (λn=>oL (10+kW.idxOf n))=kW:=by kernel_rfl
def gp:∀j,j<4->10+j∈wD/\(dR ((10+j)/10)).at_=175:=by decide+kernel
def Cq{P:dY}{n:Str}(h:n∈kW):OW (KK P) 175 n:=by
 have hi:=gp _ (List.idxOf_lt_length_iff.mpr h)
 have f:=jV.mp (Og P) _ hi.1
 rw[hi.2,jV.mp (ab9.trans (DJ kW).symm) n h]at f
 exact⟨af (·.2.2.1) f,af (·.2.1) f,af (·.1) f⟩
section
variable{X:Kx}{k:Nat}{A:aM}{env:Env}{c:Sc}{aH M N:Addr->Prop}{ad:Nat->Addr}{r:aE}{s:az}{E:ay->az->Prop}{x dx Cc:Addr}{ns:List Str}{vs:List ay}
def zE{y nm:Str}{i j:Nat}{v:ay}{p p2:Pos}(a:At X k A env c N r s)(hy:c.slots.lookup y=ab i)(hr:get r i=ab (.ptr x))(hn:iV y=true)(ho:c.own.contains i=false)
  (I:IV s.heap x dx Cc ns vs) (gQ:ns[j]?=ab nm) (hv:vs[j]?=ab v) (cl:OW X.K Cc nm) (hh:UC v=true) {Q:ay->az->Prop} (q:∀s',Kp X s s'->Q v s'):
  aA (model X.prog X.w) A (eval (.Attribute (.Name y p) nm p2) env) Q E s:=by
 obtain⟨es,n,hd,he⟩:=I.dict
 refine BK rfl (gC a (a.ptr hy hr ho) (iW hn).1 (iW hn).2 ?_)
 have hl:=(uk (n:=nm) he).2 j I.nd gQ
 rw[hv]at hl
 exact aok (prog:=X.prog) (w:=X.w) a.wd.K (C:=Cc) (ox:=ny Cc dx) (od:=ab (lQ es n)) ⟨I.obj,rfl,rfl,hd⟩ cl.ga (findObj_own cl.hd cl.no rfl hl) hh (q _ (Kp.of (λz z e=>e) (bj _)))
def OX{oe:aW}{p q pos:Pos}{nm:Str}{id:String}{es:List aW}{d:Addr}{vs:List ay}{Q:Flow->az->Prop}(a:At X k A env c N r s)(hb:isCall oe=false)
  (ho:∀Q':ay->az->Prop,(∀s',Kp X s s'->Q' (.ref d) s')->aA (model X.prog X.w) A (eval oe env) Q' E s) (hl:s.heap.PlainList d vs.toArray) (ht:d∉aV)
  (zF:p.endLine=q.line) (hz:es.length<20) (hp:es.all notStar=true) (slot:Slot "list" nm id) (ty:typeOf (.builtin id)=pure (.type "method_descriptor"))
  (h:∀s',Kp X s s'->aA (model X.prog X.w) A (pj (mA q (jS es env))) (λvs s'=>aA (model X.prog X.w) A (call (.builtin id) (.ref d::vs)) (λz=>Q .next) E s') E s'):
  aA (model X.prog X.w) A (exec (.Expr (.Call (.Attribute oe nm p) es [] q) pos) env) Q E s:=by
 refine DS (vU hb zF hz hp (ho _ λs' k=>?_)) (y3 a) rfl
 have hl:=hl.at λo e=>k.old _ _ ht e
 have nW:=jw env q hp
 exact DE hl.isList.typeIs T4 slot ty (λb e=>by cases e;exact hl.elim λz e=>⟨_,e,rfl⟩) (xK nW (ic nW (h s' k)))
def Lx(X:Kx)(k:Nat)(A:aM)(env:Env)(c:Sc)(aH M N:Addr->Prop)(ad:Nat->Addr)(r:aE)(s:az)(d:Addr)(l:List T)(vs:List ay)(Q:Flow->az->Prop):Prop:=
 ∀{aB s' ws},Kp X s aB->Mv X (λb=>b=d) aB s'->At X k A env c N r s'->Fw X env c aH M N ad r s'.heap->s'.heap.PlainList d (vs++ws).toArray->aL X N s'.heap l ws->Q .next s'
def OY{d:Addr}{vs ws:List ay}{l:List T}{Q:Flow->az->Prop}{aB:az}{o:Obj}{h':Heap}(a:At X k A env c N r s)(F:Fw X env c aH M N ad r s.heap)(k₁:Kp X s aB)(e:aB.heap.get? d=ab o)(hc:¬iB o)(hN:N d)(hM:¬M d)(hf:¬Fr env d)(kk:∀b o,b≠d->aB.heap.get? b=ab o->h'.get? b=ab o)(z:aB.heap.objs.size<=h'.objs.size)
  (hl:h'.PlainList d (vs++ws).toArray) (hv:aL X N aB.heap l ws) (h:Lx X k A env c aH M N ad r s d l vs Q):Q .next {aB with heap:=h'}:=by
 have W:=Cg (tk:=aB.toks) (a.kp k₁) (F.kp a k₁) e hc hN hM hf kk z
 exact h k₁ W.1 (W.2.1.grow (.refl _) ⟨a.ng.tb,λb q=>W.2.1.ng.lt b (.inl q),a.ng.wd⟩ λb q=>.inl (.inl q)) (W.2.2.grow (λy=>id) F.mn F.m0 F.n0) hl (hv.move (λb h=>.inl h) (W.1.kc a.ng.tb λb e=>e▸hN))
def OZ{oe v:aW}{p q pos:Pos}{d:Addr}{vs:List ay}{t:T}{Q:Flow->az->Prop}(a:At X k A env c N r s)(F:Fw X env c aH M N ad r s.heap)(hb:isCall oe=false)
  (ho:∀Q':ay->az->Prop,(∀s',Kp X s s'->Q' (.ref d) s')->aA (model X.prog X.w) A (eval oe env) Q' E s) (hl:s.heap.PlainList d vs.toArray) (hz:vs.length+1<=lim) (hN:N d) (hM:¬M d) (ht:d∉aV) (hf:¬Fr env d) (zF:p.endLine=q.line) (gQ:notStar v=true)
  (hv:∀s',Kp X s s'->At X k A env c N r s'->Out X A env N s' t .val [v]) (h:Lx X k A env c aH M N ad r s d [t] vs Q):
  aA (model X.prog X.w) A (exec (.Expr (.Call (.Attribute oe (bP "append") p) [v] [] q) pos) env) Q E s:=by
 refine OX a hb ho hl ht zF (by show 1<20;decide) (rt gQ) anV anW λs0 k0=>?_
 rw[j2 gQ]
 refine eX (vl (hv s0 k0 (a.kp k0)) λval aB k₁ hv=>gb ?_)
 have k₁:=k0.trans k₁
 have wH:=hl.at λo e=>k₁.old _ _ ht e
 refine fe (Uk (hsz:=by rw[bU];exact dS (oE hz)) wH λh' rq cj zc=>?_)
 obtain⟨n,eo⟩:=id wH
 exact OY a F k₁ eo (nJ rfl (by decide)) hN hM hf (λb o hb e=>cj.extBut b o hb e) zc (ws:=[val]) (by rw[<-Um];exact rq) (.one hv) h
def aca{oe v:aW}{p q pos:Pos}{d:Addr}{vs:List ay}{m:List T}{Q:Flow->az->Prop}(a:At X k A env c N r s)(F:Fw X env c aH M N ad r s.heap)(hb:isCall oe=false)
  (ho:∀Q':ay->az->Prop,(∀s',Kp X s s'->Q' (.ref d) s')->aA (model X.prog X.w) A (eval oe env) Q' E s) (hl:s.heap.PlainList d vs.toArray) (hz:vs.length+m.length<=lim) (hN:N d) (hM:¬M d) (ht:d∉aV) (hf:¬Fr env d) (zF:p.endLine=q.line) (gQ:notStar v=true)
  (hv:∀s',Kp X s s'->At X k A env c N r s'->Out X A env N s' (.lst m) .val [v]) (h:Lx X k A env c aH M N ad r s d m vs Q):
  aA (model X.prog X.w) A (exec (.Expr (.Call (.Attribute oe (bP "extend") p) [v] [] q) pos) env) Q E s:=by
 refine OX a hb ho hl ht zF (by show 1<20;decide) (rt gQ) J7 anY λs0 k0=>?_
 rw[j2 gQ]
 refine eX (vl (hv s0 k0 (a.kp k0)) λval aB k₁ hv=>gb (hv.eQ λb' ws rK z ro za=>?_))
 have k₁:=k0.trans k₁
 obtain⟨n1,o1⟩:=hl.at λo e=>k₁.old _ _ ht e
 obtain⟨n2,o2⟩:=rK
 have rp:vs.toArray.size+ws.toArray.size<=lim:=by rw[bU,show ws.toArray.size=m.length from(bU ..).trans za.length];exact hz
 have tl:¬(!vs.toArray.isEmpty&&Tv (vs.toArray.size+ws.toArray.size))=true:=λh=>by
  have h:=aq (ik.mp h).2
  exact aj (aD rp (by decide)) (xC.mpr h)
 exact sS J7 ⟨_,o1,rfl⟩ anZ (an0 _ _) (an1 _ _ n1 b' _ n2 tl (dS (aD (bX _ _) rp)) (vn (dS rp)))
  ⟨o1,o2,OY a F k₁ o1 (nJ rfl (by decide)) hN hM hf (λb o hb e=>(qK aB.heap d (lO λx=>x++ws.toArray)).extBut b o hb e) (bO (xI ..).symm) (Fu o1 (JA ..)) za h⟩
end
noncomputable def Cr(K:Frag)(n:Str):Option Str:=match findCls K (.ref 76) (.type "type") n with
 |some (.val (.str s _))=>ab s
 |_=>ae
def O0(P:dY):Cr (KK P) (s_ "S")=ab (s_ " ")/\Cr (KK P) (s_ "T")=ab (s_ "\t"):=⟨by kernel_rfl,by kernel_rfl⟩
def acb(P:dY):readsIn (KK P) 76 (.type "type")=true:=by kernel_rfl
def acd:d4 (s_ "Whitespace")=ab (.ref 76):=by kernel_rfl
def ace:d4 (s_ "Entry")=ab (.ref 175):=by kernel_rfl
def O1(P:dY):keepIn (KK P) (.ref 175)=true/\keepIn (KK P) (.ref 76)=true:=⟨by kernel_rfl,by kernel_rfl⟩
section
variable{X:Kx}{k:Nat}{A:aM}{env:Env}{c:Sc}{N:Addr->Prop}{r r':aE}{s:az}{E:ay->az->Prop}
def dq.acf{a:Addr}{G:List T->Option T}(h:dq X k a G)(hk:keepIn X.K (.ref a)=true):oU X k (.ref a) G:=λA N s pos trees ts t E ra wd ng hp e args=>
 callWith_of (P:=λh=>X.K.In h) (by rw[hp];rfl) (keeps_K hk) (ic hp (mo (args E) λvs aB z=>⟨(wd.kp z.1).K,mo (h E ra (wd.kp z.1) (ng.kp z.1) z.2 e) λv s₂ q=>⟨z.1.trans q.1,q.2⟩⟩))
def O2(a:At X (k+2) A env c N r s)(hn:c.names.lookup (s_ "Entry")=ab .globalImplicit){p pos:Pos}:
  aA (model X.prog X.w) A (eval (.Call (.Name (s_ "Entry") p) [] [] pos) env) (λv s'=>∃a dA u l,v=.ref a/\EN X s a s' dA u l) E s:=
 jx (jv a ace hn (by decide) (callWith_K0 a.wd.K (O1 _).1 (ab5 a.ra a.wd a.ng)))
def At.less(a:At X k A env c N r s)(h:∀x i t,c.slots.lookup x=ab i->get r' i=ab t->get r i=ab t):At X k A env c N r' s:=
 ⟨⟨a.ec.kind,a.ec.names,a.ec.globals,a.ec.builtins,a.ec.vQ,a.ec.ju,a.ec.has,a.ec.dz,a.ec.inj,λx i t h1 h2=>a.ec.rd x i t h1 (h x i t h1 h2)⟩,a.wd,a.ng,a.ra⟩
def GA:Es X:=by
 intro x n v hv k A env c N r s E Q p p' a hn h
 refine gi (show(if x==s_ "Whitespace"then(if n==s_ "S"then ab (s_ " ")else if n==s_ "T"then ab (s_ "\t")else ae)else ae)=ab v from hv) λhx Cs=>?_
 have hx:=ao hx;subst hx
 refine BK rfl (jv a acd hn (by decide) ?_)
 have main:Cr (KK X.w.params) n=ab v->aA (model X.prog X.w) A (sU (.ref 76) n true) Q E s:=λe=>by
  unfold Cr at e
  cases hy:findCls (KK X.w.params) (.ref 76) (.type "type") n with
  |none=>rw[hy]at e;exact aN e
  |some y=>
   rw[hy]at e
   cases y with
   |val y=>
    cases y with
    |str y t=>
     cases e
     exact cls_value a.wd.K (acb _) (v:=.str v t) hy rfl (h _ _ Kp.tok)
    |_=>exact aN e
   |_=>exact aN e
 by_cases q:(n==s_ "S")=true
 ·rw[ah q]at Cs
  have q:=ao q;subst q;cases Cs;exact main (O0 _).1
 ·rw[ai q]at Cs
  exact ifs Cs λq e=>by have q:=ao q;subst q;cases e;exact main (O0 _).2
noncomputable def GB:List T->Option T:=a2 λm v=>cG (λm=>cG (λv=>ab (.eG m v)) v) m
noncomputable def kX(f:Nat):List T->Option T:=if f=17 then GB elseλz=>ae
def acg:(nI 17).bind d4=ab (.ref 193):=by kernel_rfl
def c9:Ok ⟨X,λz z=>ae⟩ k where
 cat:=GA
 fns:=λf x v z z A N s pos trees ts t E z z z z e=>aN e
 yG:=λf x z A N s pos pl trees x ov ts t E z z z z z e=>aN e
 nR:=Ca Gx
def O3:oU X (k+1) (.ref 193) GB:=dq.call (λ{A N s ts vals t}E ra wd ng hv e=>rb e λm v q e=>hZ e λm qm e=>hZ e λv qv e=>by
 subst q;subst qm;subst qv;cases e;exact abm ra wd ng hv) (iM Oz).at_
def rY:Ok ⟨X,kX⟩ (k+1) where
 cat:=GA
 fns:=λf x v e hv=>by
  by_cases h:f=17
  ·subst h
   have g:=acg
   rw[e]at g
   cases (show d4 x=_ from g).symm.trans hv
   exact O3
  ·exactλA N s pos trees ts t E z z z z e=>aN ((congrFun (show kX f=_ from ai h) ts).symm.trans e)
 yG:=λf x q A N s pos pl trees x ov ts t E z z z z z e=>by
  by_cases h:f=17
  ·subst h;exact aN q
  ·exact aN ((congrFun (show kX f=_ from ai h) _).symm.trans e)
 nR:=Ca Gx
end
noncomputable def tupK(x:Xp):Nat:=if h:x.ctorIdx=25 then Expr.Tuple.elim x h λz k z=>k else default
noncomputable def eY(x:Xp)(i:Nat):Xp:=if h:x.ctorIdx=25 then Expr.Tuple.elim x h λl z z=>l.getD i default else default
noncomputable def eQ(x:Xp)(i:Nat):Xp:=if h:x.ctorIdx=24 then Expr.List.elim x h λl z=>l.getD i default else default
noncomputable def cQ(x:Xp):Xp:=if h:x.ctorIdx=16 then Expr.Call.elim x h λf z z z=>f else default
noncomputable def de(x:Xp)(i:Nat):Xp:=if h:x.ctorIdx=16 then Expr.Call.elim x h λz l z z=>l.getD i default else default
noncomputable def eI(s:Stmt):Xp:=if h:s.ctorIdx=24 then Stmt.Expr.elim s h λv z=>v else default
noncomputable def hY(s:Stmt):Xp:=if h:s.ctorIdx=9 then Stmt.For.elim s h λt z z z z=>t else default
noncomputable def uE(s:Stmt):Xp:=if h:s.ctorIdx=9 then Stmt.For.elim s h λz t z z z=>t else default
noncomputable def oi(s:Stmt)(i:Nat):Stmt:=if h:s.ctorIdx=9 then Stmt.For.elim s h λz z b z z=>b.getD i default else default
noncomputable def O4(x:Xp)(l:List Xp):Xp:=.Tuple l (tupK x) x.pos
noncomputable def GC(x:Xp)(l:List Xp):Xp:=.List l x.pos
noncomputable def gE(x f:Xp)(l:List Xp):Xp:=.Call f l [] x.pos
noncomputable def GD(x:Xp)(y:Str):Xp:=.Constant (.str y) (cK x) x.pos
noncomputable def rZ(x:Xp)(n a:Str):Xp:=.Attribute (.Name n (kU x).pos) a x.pos
noncomputable def uF(s:Stmt)(n a m:Str)(v:Xp):Stmt:=.Expr (gE (eI s) (.Attribute (rZ (kU (cQ (eI s))) n a) m (cQ (eI s)).pos) [v]) s.pos
noncomputable def ig:Stmt:=st 198 2
noncomputable def GF:Xp:=O4 (oa ig) [bY (eY (oa ig) 0) (s_ "turn"),bY (eY (oa ig) 1) (s_ "record")]
noncomputable def GG:Xp:=O4 (aT ig) [eY (aT ig) 0,gE (eY (aT ig) 1) (bY (cQ (eY (aT ig) 1)) (s_ "Entry")) []]
noncomputable def oj:Xp:=de (eI (st 198 5)) 0
def ach:body 198=[st 198 0,st 198 1,.Assign [GF] GG ig.pos,jC (st 198 3) (s_ "record") (s_ "delay") (aT (st 198 3)),jC (st 198 4) (s_ "record") (s_ "req_rate") (aT (st 198 4)),
 uF (st 198 5) (s_ "record") (s_ "useragents") (s_ "extend") (GC oj [GD (eQ oj 0) (s_ "*"),rZ (eQ oj 1) (s_ "record") (s_ "req_rate")]),
 .For (bY (hY (st 198 6)) (s_ "middle")) (uE (st 198 6)) [uF (oi (st 198 6) 0) (s_ "record") (s_ "useragents") (s_ "append") (de (eI (oi (st 198 6) 0)) 0),uF (oi (st 198 6) 1) (s_ "record") (s_ "rulelines") (s_ "append") (de (eI (oi (st 198 6) 1)) 0)] [] (st 198 6).pos,
 .Return (ab (bY (me (st 198 7)) (s_ "record"))) (st 198 7).pos]:=by kernel_rfl
noncomputable def ff:Nat->List Str
 |0=>[s_ ""]
 |n+1=>(ff n).flatMap λy=>[y++s_ "u",y++s_ "r"]
noncomputable def GH:List (Str×Nat):=slots ["t","mute","turn","middles","step","record","middle"]
def O5:(198,GH,3)∈bt:=dZ (i:=19) (by kernel_rfl)
noncomputable def lS(x:String):Ex:=.lit (.str (s_ x))
noncomputable def GI:S:=.asg 3 (.lst (.cons (lS "") .nil))
noncomputable def Ct:S:=.eV 4 (.hU (.bin .sub (.var 0) (.lit (.int 1)))) (.asg 3 (.yw 7 8 (.bin .add (.var 7) (.var 8)) (.var 3) (lS "ur")))
noncomputable def Cu:Ex:=.bin .mod (.var 2) (.prim .len (.cons (.var 3) .nil))
noncomputable def Cv:Ex:=.ite (.var 1) (.lit .none) (.var 0)
noncomputable def Cw:Ex:=.ite (.var 1) (lS "R") (lS "U")
noncomputable def zG:Ex:=.bin .add (.cY false (.var 3) (.var 2) .absent) (.cY false (.var 3) .absent (.var 2))
noncomputable def Cy:Ex:=.bin .add (.bin .add (lS "R") (.var 6)) (lS "U")
noncomputable def Cz:Ex:=.call 17 (.cons (.var 6) (.cons (.ite (.var 1) (lS "") (.bin .add (.bin .add (lS "u") (.var 6)) (lS "r"))) .nil))
noncomputable def recC:Sc:=⟨(bC 198).scope.names,GH,[]⟩
noncomputable def oZ(i:Nat):Xp:=de (eI (oi (st 198 6) i)) 0
noncomputable def Db.isNil{P:List Nat->Prop}(x:Db (List Nat) P):Bool:=Db.rec (motive:=λz=>Bool) false (λa z=>a.isEmpty) x
def Db.nil{P:List Nat->Prop}(x:Db (List Nat) P)(h:x.isNil=true):P []:=by cases x with|no=>exact ft h|yes a q=>exact Bf.mp h▸q
def aci:bR GI recC [st 198 0] []:=Db.nil (oX GI recC [st 198 0]) (by kernel_rfl)
def acj:bR Ct recC [st 198 1] []:=Db.nil (oX Ct recC [st 198 1]) (by kernel_rfl)
def ack:Gd Cu .val recC [eY (aT ig) 0]:=no_implicit_lambda%(@Mb.get (Gd Cu .val recC [eY (aT ig) 0]) (bo Cu .val recC [eY (aT ig) 0]) (by kernel_rfl))
def acm:Gd Cv .val recC [aT (st 198 3)]:=no_implicit_lambda%(@Mb.get (Gd Cv .val recC [aT (st 198 3)]) (bo Cv .val recC [aT (st 198 3)]) (by kernel_rfl))
def acn:Gd Cw .val recC [aT (st 198 4)]:=no_implicit_lambda%(@Mb.get (Gd Cw .val recC [aT (st 198 4)]) (bo Cw .val recC [aT (st 198 4)]) (by kernel_rfl))
def aco:Gd zG .ia recC [uE (st 198 6)]:=no_implicit_lambda%(@Mb.get (Gd zG .ia recC [uE (st 198 6)]) (bo zG .ia recC [uE (st 198 6)]) (by kernel_rfl))
def acp:Gd Cy .val recC [oZ 0]:=no_implicit_lambda%(@Mb.get (Gd Cy .val recC [oZ 0]) (bo Cy .val recC [oZ 0]) (by kernel_rfl))
def acq:Gd Cz .val recC [oZ 1]:=no_implicit_lambda%(@Mb.get (Gd Cz .val recC [oZ 1]) (bo Cz .val recC [oZ 1]) (by kernel_rfl))
def wI:notStar (eY (aT ig) 0)=true/\cZ (aT (st 198 3))=true/\cZ (aT (st 198 4))=true/\gj (uE (st 198 6))=true/\notStar (oZ 0)=true/\notStar (oZ 1)=true:=⟨by kernel_rfl,by kernel_rfl,by kernel_rfl,by kernel_rfl,by kernel_rfl,by kernel_rfl⟩
noncomputable def i7(t k:Nat):List Str:=(ff t).drop k++(ff t).take k
noncomputable def om(t:Nat)(u:Int):Nat:=(u.fmod ((2^t:Nat):Int)).toNat
noncomputable def rr(m:Bool):Str:=if m then s_ "R"else s_ "U"
noncomputable def vv(m:Bool)(y:Str):Str:=if m then s_ ""else s_ "u"++y++s_ "r"
noncomputable def aa(y:Str):Str:=s_ "R"++y++s_ "U"
noncomputable def O6(t:Nat)(m:Bool)(u:Int):T:=
 .ins 1 [.lst ([.str (s_ "*"),.str (rr m)]++(i7 t (om t u)).map λy=>.str (aa y)),.lst ((i7 t (om t u)).map λy=>.eG y (vv m y)),if m then .none else .int ((t+1:Nat):Int),.str (rr m)]
noncomputable def O7{α:Type}(f:Bool->Option α):T->Option α
 |.bool b=>f b
 |_=>ae
def acr{α:Type}{t:T}{z:α}{P:Prop}{f:Bool->Option α}(e:O7 f t=ab z)(k:∀b,t=.bool b->f b=ab z->P):P:=by cases t with|bool b=>exact k b rfl e|_=>exact aN e
noncomputable def a3(f:T->T->T->Option T):List T->Option T
 |[x,y,z]=>f x y z
 |_=>ae
def a3e{z:T}{f:T->T->T->Option T}{l:List T}{P:Prop}(e:a3 f l=ab z)(k:∀x y w,l=[x,y,w]->f x y w=ab z->P):P:=by
 cases l with
 |nil=>exact aN e
 |cons x l=>cases l with
  |nil=>exact aN e
  |cons y l=>cases l with
   |nil=>exact aN e
   |cons w l=>cases l with|nil=>exact k x y w rfl e|cons=>exact aN e
noncomputable def O8:List T->Option T:=a3 λt m u=>bp (λt=>O7 (λm=>bp (λu=>if 1<=t/\t<=4 then ab (O6 (t.toNat - 1) m u)else ae) u) m) t
noncomputable def gR(t:Nat):List T:=(ff t).map .str
noncomputable def gF(t:Nat)(m:Bool)(x2 x3 x4 x5 x6 x9 x10:Option T):aE:=[ab (.int (t+1:Nat)),ab (.bool m),x2,x3,x4,x5,x6,ae,ae,x9,x10]
def wJ{P:Nat->Prop}(h0:P 0)(h1:P 1)(h2:P 2)(h3:P 3):∀t,t<4->P t:=λt h=>by
 rcases t with _|_|_|_|t
 ·exact h0
 ·exact h1
 ·exact h2
 ·exact h3
 ·exact aj h (fL.mpr (jP 4 t))
def acu(F:Nat->List T->Option T)(m:Bool)(u:Int)(t:Nat):ex F GI (start 8 [.int (t+1:Nat),.bool m,.int u])=ab (.next,gF t m (ab (.int u)) (ab (.lst (gR 0))) ae ae ae ae ae):=rfl
def acv(F:Nat->List T->Option T)(m:Bool)(u:Int)(t:Nat)(h:t<4):∃st,ex F Ct (gF t m (ab (.int u)) (ab (.lst (gR 0))) ae ae ae ae ae)=ab (.next,gF t m (ab (.int u)) (ab (.lst (gR t))) st ae ae ae ae):=
 wJ (P:=λt=>∃st,ex F Ct (gF t m (ab (.int u)) (ab (.lst (gR 0))) ae ae ae ae ae)=ab (.next,gF t m (ab (.int u)) (ab (.lst (gR t))) st ae ae ae ae)) ⟨ae,by kernel_rfl⟩ ⟨ab (.int 0),by kernel_rfl⟩ ⟨ab (.int 1),by kernel_rfl⟩ ⟨ab (.int 2),by kernel_rfl⟩ t h
def O9:∀t,t<4->2^t<=8:=wJ (by decide) (by decide) (by decide) (by decide)
def GJ(t:Nat)(u:Int):om t u<2^t:=(aoF (D0 u (UP.mpr (fy t)))).mpr (UQ u (UP.mpr (fy t)))
def acw(F:Nat->List T->Option T)(m:Bool)(st x5 x6 x9 x10:Option T)(t:Nat)(ht:t<4)(k:Nat)(hk:k<2^t):ev F zG (gF t m (ab (.int (k:Nat))) (ab (.lst (gR t))) st x5 x6 x9 x10)=ab (.lst ((i7 t k).map .str)):=
 jV.mp (wJ (P:=λt=>(bf (2^t)).map (λk:Nat=>ev F zG (gF t m (ab (.int (k:Nat))) (ab (.lst (gR t))) st x5 x6 x9 x10))=(bf (2^t)).map λk=>ab (.lst ((i7 t k).map .str))) (by kernel_rfl) (by kernel_rfl) (by kernel_rfl) (by kernel_rfl) t ht) k (iu.mpr hk)
def CA:∀t,t<4->(gR t).length=2^t/\∀y∈ff t,y.length<=100:=wJ ⟨by kernel_rfl,by decide+kernel⟩ ⟨by kernel_rfl,by decide+kernel⟩ ⟨by kernel_rfl,by decide+kernel⟩ ⟨by kernel_rfl,by decide+kernel⟩
def acx(F:Nat->List T->Option T)(m:Bool)(st x5 x6 x9 x10:Option T)(u:Int)(t:Nat)(ht:t<4):ev F Cu (gF t m (ab (.int u)) (ab (.lst (gR t))) st x5 x6 x9 x10)=ab (.int (om t u:Nat)):=by
 show(if((gR t).length:Int)≠0 then ab (T.int (u.fmod (gR t).length))else ae)=_
 have hp:(0:Int)<((2^t:Nat):Int):=UP.mpr (fy t)
 rw[(CA t ht).1,ah (px hp)]
 exact af (λi=>ab (T.int i)) (AP (D0 u hp)).symm
noncomputable def fJ(m:Bool)(y:T)(r:aE):Option (Fl×aE):=cG (λy=>((get r 9).bind (cH ab)).bind λua=>((get r 10).bind (cH ab)).bind λrl=>if(y.length<=100/\ua.length<=1000)/\rl.length<=1000 then
 ab (.next,put (put (put r 6 (.str y)) 9 (.lst (ua++[.str (aa y)]))) 10 (.lst (rl++[.eG y (vv m y)])))else ae) y
def acy(m:Bool)(t:Nat)(x2 x3 x4 x5:Option T):∀(ys:List Str)(x6:Option T)(ua rl:List T),ua.length+ys.length<=1000->rl.length+ys.length<=1000->(∀y∈ys,y.length<=100)->
  ∃uG,b6 (fJ m) (ys.map .str) (gF t m x2 x3 x4 x5 x6 (ab (.lst ua)) (ab (.lst rl)))=ab (.next,gF t m x2 x3 x4 x5 uG (ab (.lst (ua++ys.map λy=>.str (aa y)))) (ab (.lst (rl++ys.map λy=>.eG y (vv m y))))):=by
 intro ys
 induction ys with
 |nil=>exactλx6 ua rl x x x=>⟨x6,by rw[D1,D1,D1,kq,kq];rfl⟩
 |cons y ys ih=>
  intro x6 ua rl h1 h2 h3
  have e1:(ua++[T.str (aa y)]).length+ys.length<=1000:=by rw[bQ,gZ];exact eK ys.length 1▸h1
  have e2:(rl++[T.eG y (vv m y)]).length+ys.length<=1000:=by rw[bQ,gZ];exact eK ys.length 1▸h2
  obtain⟨uG,g⟩:=ih (ab (.str y)) (ua++[.str (aa y)]) (rl++[.eG y (vv m y)]) e1 e2 λz hz=>h3 z (bS _ hz)
  refine⟨uG,?_⟩
  rw[fk,fk]at g
  refine DP ?_ g
  show(if(y.length<=100/\ua.length<=1000)/\rl.length<=1000 then _ else ae:Option (Fl×aE)).bind _=_
  rw[ah ⟨⟨h3 y bk,aD (bX _ _) h1⟩,aD (bX _ _) h2⟩]
  rfl
def Pa{a b y:Str}{F:Nat->List T->Option T}{ρ:aE}{i:Nat}(ha:a.length=1)(hb:b.length=1)(hy:y.length<=100)(e:get ρ i=ab (.str y)):ev F (.bin .add (.bin .add (.lit (.str a)) (.var i)) (.lit (.str b))) ρ=ab (.str (a++y++b)):=by
 have l1:(a++y).length=1+y.length:=by rw[sQ,ha]
 show((((get ρ i).bind λy=>a8 .add (.str a) y)).bind λx=>a8 .add x (.str b))=_
 rw[e]
 show(if a.length+y.length<=lim then ab (T.str (a++y))else ae).bind _=_
 rw[ah (by rw[ha];exact aD (f6 hy 1) (by decide))]
 show(if(a++y).length+b.length<=lim then ab (T.str (a++y++b))else ae)=_
 rw[ah (by rw[l1,hb];exact aD (cR (f6 hy 1) 1) (by decide))]
def acz{F:Nat->List T->Option T}{ρ:aE}{y:Str}(hy:y.length<=100)(e:get ρ 6=ab (.str y)):ev F Cy ρ=ab (.str (aa y)):=Pa rfl rfl hy e
def acA{ρ:aE}{m:Bool}{y:Str}(hy:y.length<=100)(e:get ρ 6=ab (.str y))(em:get ρ 1=ab (.bool m)):ev kX Cz ρ=ab (.eG y (vv m y)):=by
 have h4:ev kX (.ite (.var 1) (lS "") (.bin .add (.bin .add (lS "u") (.var 6)) (lS "r"))) ρ=ab (.str (vv m y)):=by
  have h3:=Pa (a:=s_ "u") (b:=s_ "r") (F:=kX) (i:=6) rfl rfl hy e
  refine(show _=(get ρ 1).bind _ from rfl).trans ?_
  rw[em]
  cases m with
  |true=>rfl
  |false=>exact h3
 show(((get ρ 6).bind λx=>((ev kX (.ite (.var 1) (lS "") (.bin .add (.bin .add (lS "u") (.var 6)) (lS "r"))) ρ).bind λy=>_).bind _).bind _)=_
 rw[e,h4]
 rfl
abbrev RJ(X:Kx)(N:Addr->Prop)(h:Heap)(x dx u l:Addr)(d q:ay)(ua rl:List T):Prop:=IV h x dx 175 kW [.ref u,.ref l,d,q]/\(∃us:List ay,h.PlainList u us.toArray/\aL X N h ua us)/\(∃ls:List ay,h.PlainList l ls.toArray/\aL X N h rl ls)/\ua.length<=lim/\rl.length<=lim
section
variable(h:RJ X N h x dx u l d q ua rl)
def RJ.iv:=h.1
def RJ.pu:=h.2.1
def RJ.pl:=h.2.2.1
def RJ.zu:=h.2.2.2.1
def RJ.zl:=h.2.2.2.2
end
def RW(x dx u l:Addr)(b:Addr):Prop:=b=x∨b=dx∨b=u∨b=l
def RJ.mv{X:Kx}{N N' V:Addr->Prop}{s s':az}{x dx u l:Addr}{d q:ay}{ua rl:List T}(J:RJ X N s.heap x dx u l d q ua rl)(ng:NG X N s.heap)(ka:∀b,RW x dx u l b->b∉aV)(m:Mv X V s s')(hV:∀b,V b->N b)(hW:∀b,V b->¬RW x dx u l b)(hN:∀b,N' b->N b∨s.heap.objs.size<=b):RJ X N' s'.heap x dx u l d q ua rl:=by
 have kk:∀{b},RW x dx u l b->∀o,s.heap.get? b=ab o->s'.heap.get? b=ab o:=λ{b}h o e=>m.old b o (λq=>hW b q h) (ka b h) e
 have kc:=m.kc ng.tb hV
 refine⟨J.iv.keep (kk (.inl rfl)) (kk (.inr (.inl rfl))),J.pu.imp λus h=>⟨h.1.at (kk (.inr (.inr (.inl rfl)))),h.2.move hN kc⟩,J.pl.imp λus h=>⟨h.1.at (kk (.inr (.inr (.inr rfl)))),h.2.move hN kc⟩,J.zu,J.zl⟩
def JR(X:Kx)(t:Nat)(m:Bool)(x2 x3 x4:Option T)(x dx u l:Addr)(d q:ay)(N:Addr->Prop)(r:aE)(s:az):Prop:=∃x6 ua rl,r=gF t m x2 x3 x4 (ab (.ptr x)) x6 (ab (.lst ua)) (ab (.lst rl))/\RJ X N s.heap x dx u l d q ua rl
def GK:((cQ (eI (st 198 5))).pos.endLine=(eI (st 198 5)).pos.line/\(cQ (eI (oi (st 198 6) 0))).pos.endLine=(eI (oi (st 198 6) 0)).pos.line)/\(cQ (eI (oi (st 198 6) 1))).pos.endLine=(eI (oi (st 198 6) 1)).pos.line:=⟨⟨by kernel_rfl,by kernel_rfl⟩,by kernel_rfl⟩
noncomputable def GL:List Stmt:=[uF (oi (st 198 6) 0) (s_ "record") (s_ "useragents") (s_ "append") (oZ 0),uF (oi (st 198 6) 1) (s_ "record") (s_ "rulelines") (s_ "append") (oZ 1)]
section
variable{X:Kx}{k:Nat}{A:aM}{env:Env}{M:Addr->Prop}
def Pb{N:Addr->Prop}{s:az}{t:Nat}{m:Bool}{x2 x3 x4 x5 x6 a b a' b':Option T}(h:At X k A env recC N (gF t m x2 x3 x4 x5 x6 a b) s):At X k A env recC N (gF t m x2 x3 x4 x5 x6 a' b') s:=h.less λx i t hx e=>by
 have h7:i<7:=aq (bA.mp (show GH.all (λp=>decide (p.2<7))=true by decide) _ (lookup_mem hx))
 rcases i with _|_|_|_|_|_|_|i
 iterate 7 exact e
 exact aj h7 (fL.mpr (jP 7 i))
def Fw.nil{c:Sc}{aH N:Addr->Prop}{ad:Nat->Addr}{r r':aE}{h:Heap}(e:c.own=[])(F:Fw X env c aH M N ad r h):Fw X env c aH M N ad r' h:=
 have no:∀{i}{P:Prop},c.own.contains i=true->P:=λ{i P}q=>by rw[e]at q;exact ft q
 ⟨F.cn,F.mn,F.m0,F.n0,F.nd,F.cL,λi w=>no w.1,λx i t z q z=>no q,λi j w z z=>no w.1⟩
def acB{m:Bool}{aH N:Addr->Prop}{ad:Nat->Addr}{s:az}{r:aE}{y:Str}{x dx u l:Addr}{d q:ay}{ua rl:List T}{E:ay->az->Prop}{Q:Flow->az->Prop}(ka:∀b,RW x dx u l b->b∉aV)(i4:∀b,RW x dx u l b->¬Fr env b)(GN:x≠u)(zH:x≠l)(GO:dx≠u)(gD:dx≠l)(CB:u≠l)
  (a:At X (k+1) A env recC N r s) (F:Fw X env recC aH M N ad r s.heap) (J:RJ X N s.heap x dx u l d q ua rl) (e5:get r 5=ab (.ptr x)) (e6:get r 6=ab (.str y)) (e1:get r 1=ab (.bool m)) (hz:(y.length<=100/\ua.length<=1000)/\rl.length<=1000)
  (nM:∀b,RW x dx u l b->¬M b) (hN:∀b,RW x dx u l b->N b)
  (h:∀s',Mv X (RW x dx u l) s s'->At X (k+1) A env recC N r s'->Fw X env recC aH M N ad r s'.heap->RJ X N s'.heap x dx u l d q (ua++[.str (aa y)]) (rl++[.eG y (vv m y)])->Q .next s'):aA (model X.prog X.w) A (bL GL env) Q E s:=by
 have uW:RW x dx u l u:=.inr (.inr (.inl rfl))
 have lW:RW x dx u l l:=.inr (.inr (.inr rfl))
 have zz:∀{n},n<=1000->n+1<=lim:=λh=>aD (cX h) (by decide)
 obtain⟨us,pu,vu⟩:=J.pu
 obtain⟨ls,pl,vl⟩:=J.pl
 refine i6 (OZ a F rfl (λQ' hQ=>zE a (i:=5) (j:=0) rfl e5 rfl rfl J.iv rfl rfl (Cq (mh (j:=0) rfl)) rfl hQ) pu (vu.length▸zz hz.1.2) (hN u uW) (nM u uW) (ka u uW) (i4 u uW) GK.1.2 wI.2.2.2.2.1
  (λs' k' a'=>acp (rY (k:=k)) a' (acz hz.1.1 e6)) λ{s₂ aX ws}k2 cM a3 F3 GP GQ=>⟨rfl,?_⟩)
 have uH:∀{b},RW x dx u l b->b≠u->∀o,s.heap.get? b=ab o->aX.heap.get? b=ab o:=λ{b}w n o e=>cM.old b o n (ka b w) (k2.old b o (ka b w) e)
 have Pc:=J.iv.keep (uH (.inl rfl) GN) (uH (.inr (.inl rfl)) GO)
 have vl3:=(vl.kp a.ng k2).move (λb=>.inl) (cM.kc (a.ng.kp k2).tb λb e=>e▸hN u uW)
 refine c8 (OZ a3 F3 rfl (λQ' hQ=>zE a3 (i:=5) (j:=1) rfl e5 rfl rfl Pc rfl rfl (Cq (mh (j:=1) rfl)) rfl hQ) (pl.at (uH lW CB.symm)) (vl.length▸zz hz.2) (hN l lW) (nM l lW) (ka l lW) (i4 l lW) GK.2 wI.2.2.2.2.2
  (λs' k' a'=>acq (rY (k:=k)) a' (acA hz.1.1 e6 e1)) λ{aS dC ws'}k4 i8 a5 F5 pl5 vl5=>?_)
 have GR:∀{b},RW x dx u l b->b≠l->∀o,aX.heap.get? b=ab o->dC.heap.get? b=ab o:=λ{b}w n o e=>i8.old b o n (ka b w) (k4.old b o (ka b w) e)
 have mU:Mv X (RW x dx u l) s aX:=(Mv.of (M:=RW x dx u l) k2).trans cM λb e=>.inl (e▸uW)
 have m5:Mv X (RW x dx u l) s dC:=mU.trans ((Mv.of (M:=RW x dx u l) k4).trans i8 λb e=>.inl (e▸lW)) λz=>.inl
 have kc:=m5.kc a.ng.tb hN
 have kc5:=((Mv.of (M:=λb=>b=l) k4).trans i8 λb e=>.inl e).kc a3.ng.tb λb e=>e▸hN l lW
 have Pe:∀{v:List T}{w:T},v.length<=1000->(v++[w]).length<=lim:=λ{v w}h=>by rw[bQ];exact zz h
 exact h dC m5 a5 F5 ⟨Pc.keep (GR (.inl rfl) zH) (GR (.inr (.inl rfl)) gD),⟨_,GP.at (GR uW CB),(vu.move (λb=>.inl) kc).app (GQ.move (λb=>.inl) kc5)⟩,⟨_,pl5,(vl.move (λb=>.inl) kc).app vl5⟩,Pe hz.1.2,Pe hz.2⟩
def acG{t:Nat}{m:Bool}{x2 x3 x4:Option T}{x dx u l:Addr}{d q:ay}(ka:∀b,RW x dx u l b->b∉aV)(i4:∀b,RW x dx u l b->¬Fr env b)(GN:x≠u)(zH:x≠l)(GO:dx≠u)(gD:dx≠l)(CB:u≠l):
  OV ⟨X,kX⟩ (k+1) A env recC M (RW x dx u l) (JR X t m x2 x3 x4 x dx u l d q) (bY (hY (st 198 6)) (s_ "middle")) GL (fJ m):=by
 intro aH N ad s y v r p hW a F hJ hv hf E
 obtain⟨x6,ua,rl,rfl,J⟩:=hJ
 refine hZ hf λy qy hf=>ifs hf λhz e=>?_
 subst qy;cases e
 have Pg:∀b,RW x dx u l b->¬M b:=λb hb q=>F.m0 b q (hW b hb)
 refine tu (l9 false a F (k₀:=6) rfl hv ft λaB ad1 uD a1 F1=>?_)
 refine acB (m:=m) (y:=y) ka i4 GN zH GO gD CB a1 F1 (J.mv a.ng ka uD F.mn (λb h q=>Pg b q h) λb=>.inl) rfl rfl rfl hz Pg (λb h=>F1.n0 b (hW b h)) λs' m' a' F' J'=>⟨rfl,rfl,?_,⟨ad1,Pb a',F'.nil rfl⟩,⟨_,_,_,rfl,J'⟩⟩
 exact(uD.weak λb h=>.inl (.inl h)).trans m' λb h=>.inl (.inr h)
end
noncomputable def Ph(t:T):Bool:=t.ctorIdx<4
def VR.sc{X:Kx}{N N':Addr->Prop}{h h':Heap}{t:T}{v:ay}(x:VR X N h t v)(q:Ph t=true):VR X N' h' t v:=by
 cases t with
 |none=>exact(show v=.none from x.inv)▸.none
 |bool b=>exact(show v=.bool b from x.inv)▸.bool b
 |int i=>exact VR.eR (P:=λv=>VR X N' h' (.int i) v) x λu=>.int _ _
 |str y=>exact VR.c6 (P:=λv=>VR X N' h' (.str y) v) x λu l=>.str _ _ l
 |_=>exact ft q
abbrev RS(X:Kx)(k:Nat)(A:aM)(env:Env)(aH M N:Addr->Prop)(ad:Nat->Addr)(r:aE)(s:az)(x dx u l:Addr)(d q:ay)(ua rl:List T):Prop:=At X k A env recC N r s/\Fw X env recC aH M N ad r s.heap/\RJ X N s.heap x dx u l d q ua rl/\(∀b,RW x dx u l b->b∉aV)/\(∀b,RW x dx u l b->¬Fr env b)/\(∀b,RW x dx u l b->¬M b)/\(∀b,RW x dx u l b->N b)/\x≠u/\x≠l/\dx≠u/\dx≠l/\u≠l/\x≠dx
section
variable{ad:Nat->Addr}(h:RS X k A env aH M N ad r s x dx u l d q ua rl)
def RS.a:=h.1
def RS.F:=h.2.1
def RS.J:=h.2.2.1
def RS.at_:=h.2.2.2.1
def RS.fr:=h.2.2.2.2.1
def RS.nM:=h.2.2.2.2.2.1
def RS.hN:=h.2.2.2.2.2.2.1
def RS.xu:=h.2.2.2.2.2.2.2.1
def RS.xl:=h.2.2.2.2.2.2.2.2.1
def RS.du:=h.2.2.2.2.2.2.2.2.2.1
def RS.dl:=h.2.2.2.2.2.2.2.2.2.2.1
def RS.ul:=h.2.2.2.2.2.2.2.2.2.2.2.1
def RS.xd:=h.2.2.2.2.2.2.2.2.2.2.2.2
end
section
variable{X:Kx}{k:Nat}{A:aM}{env:Env}{aH M N:Addr->Prop}{ad:Nat->Addr}{r:aE}{s:az}{E:ay->az->Prop}{Q:Flow->az->Prop}{rest:List Stmt}{x dx u l:Addr}{d q:ay}{ua rl:List T}
def Pj{sm:Stmt}{nm:Str}{value:Xp}{t:T}{j:Nat}{dv qv:ay->ay}(R:RS X k A env aH M N ad r s x dx u l d q ua rl)(e5:get r 5=ab (.ptr x))(hv:∀E,aA (model X.prog X.w) A (eval value env) (Res X N s t) E s)(Gz:cZ value=true)(ht:Ph t=true)
  (hj:kW[j]?=ab nm) (hs:∀v,[ay.ref u,.ref l,d,q].set j v=[.ref u,.ref l,dv v,qv v])
  (h:∀{v s' N'},VR X N s.heap t v->Mv X (RW x dx u l) s s'->RS X k A env aH M N' ad r s' x dx u l (dv v) (qv v) ua rl->(∀b,N' b->N b∨s.heap.objs.size<=b)->aA (model X.prog X.w) A (bL rest env) Q E s'):
  aA (model X.prog X.w) A (bL (jC sm (s_ "record") nm value::rest) env) Q E s:=by
 have dW:RW x dx u l dx:=.inr (.inl rfl)
 refine uB ⟨R.a,R.F,R.J.iv,R.at_ x (.inl rfl),R.at_ dx dW,R.hN dx dW,R.nM dx dW,R.fr dx dW,R.xd⟩ hv Gz (i:=5) rfl e5 rfl rfl (mY (mh hj)) (λv hs tk es he=>(rS he).2 j R.J.iv.nd hj) R.J.iv.nd R.J.iv.Cp λ{v aB s' N'}k1 hv mv m n1 n2 up=>?_
 have mU:Mv X (λb=>b=dx) s s':=(Mv.of (M:=λb=>b=dx) k1).trans mv λb=>.inl
 have kc:=mU.kc R.a.ng.tb λb e=>e▸R.hN dx dW
 have kk:∀{b},RW x dx u l b->dx≠b->∀o,s.heap.get? b=ab o->s'.heap.get? b=ab o:=λ{b}w n o e=>mU.old b o n.symm (R.at_ b w) e
 have iv:=m.I
 rw[hs v]at iv
 exact h (hv.sc ht) (mU.sub λb e=>e▸dW) ⟨m.a,m.F,⟨iv,R.J.pu.imp λus h=>⟨h.1.at (kk (.inr (.inr (.inl rfl))) R.du),h.2.move up kc⟩,R.J.pl.imp λus h=>⟨h.1.at (kk (.inr (.inr (.inr rfl))) R.dl),h.2.move up kc⟩,R.J.zu,R.J.zl⟩,
  R.at_,R.fr,R.nM,λb h=>n2 b (R.hN b h),R.xu,R.xl,R.du,R.dl,R.ul,R.xd⟩ up
def acI{rs:Str}(R:RS X k A env aH M N ad r s x dx u l d q [] [])(e5:get r 5=ab (.ptr x))(hq:VR X N s.heap (.str rs) q)
  (h:∀{s'},Mv X (RW x dx u l) s s'->RS X k A env aH M N ad r s' x dx u l d q [.str (s_ "*"),.str rs] []->aA (model X.prog X.w) A (bL rest env) Q E s'):
  aA (model X.prog X.w) A (bL (uF (st 198 5) (s_ "record") (s_ "useragents") (s_ "extend") (GC oj [GD (eQ oj 0) (s_ "*"),rZ (eQ oj 1) (s_ "record") (s_ "req_rate")])::rest) env) Q E s:=by
 have uW:RW x dx u l u:=.inr (.inr (.inl rfl))
 have lW:RW x dx u l l:=.inr (.inr (.inr rfl))
 obtain⟨us,pu,vu⟩:=R.J.pu
 obtain⟨ls,pl,vl⟩:=R.J.pl
 cases vu
 cases vl
 refine i6 (aca (m:=[.str (s_ "*"),.str rs]) R.a R.F rfl (λQ' hQ=>zE R.a (i:=5) (j:=0) rfl e5 rfl rfl R.J.iv rfl rfl (Cq (mh (j:=0) rfl)) rfl hQ) pu (by show 0+2<=lim;decide) (R.hN u uW) (R.nM u uW) (R.at_ u uW) (R.fr u uW) GK.1.1 rfl
  (λs' k' a'=>λE=>JK ?_) λ{s₂ aX ws}k2 cM a3 F3 GP GQ=>⟨rfl,?_⟩)
 ·rw[yJ rfl rfl]
  refine eX (amq (k:=cK (eQ oj 0)) (pos:=(eQ oj 0).pos) (eX ?_))
  refine zE (y:=s_ "record") (nm:=s_ "req_rate") (a'.kp (Kp.tok (tk:=s'.toks+1))) (i:=5) (j:=3) rfl e5 rfl rfl ((R.J.iv.keep (λo e=>k'.old _ _ (R.at_ x (.inl rfl)) e) λo e=>k'.old _ _ (R.at_ dx (.inr (.inl rfl))) e)) rfl rfl (Cq (mh (j:=3) rfl)) (handed hq) λs2 k2=>?_
  have a2:=(a'.kp (Kp.tok (tk:=s'.toks+1))).kp k2
  exact gb ⟨by show 2<=_;decide,have n:=q7 a2.ng (tk:=s2.toks) (e:=0) (.cons (.str (s_ "*") s'.toks (by decide)) (.cons (hq.sc rfl) .nil)) (by show 2<=lim;decide);⟨(Kp.tok.trans k2).trans n.1,n.2.1⟩⟩
 ·have uH:∀{b},RW x dx u l b->b≠u->∀o,s.heap.get? b=ab o->aX.heap.get? b=ab o:=λ{b}w n o e=>cM.old b o n (R.at_ b w) (k2.old b o (R.at_ b w) e)
  exact h ((Mv.of (M:=RW x dx u l) k2).trans cM λb e=>.inl (e▸uW)) ⟨a3,F3,⟨R.J.iv.keep (uH (.inl rfl) R.xu) (uH (.inr (.inl rfl)) R.du),⟨_,GP,GQ⟩,⟨_,pl.at (uH lW R.ul.symm),.nil⟩,by show 2<=lim;decide,dP _⟩,
   R.at_,R.fr,R.nM,R.hN,R.xu,R.xl,R.du,R.dl,R.ul,R.xd⟩
end
def acJ:[eY (aT ig) 0,gE (eY (aT ig) 1) (bY (cQ (eY (aT ig) 1)) (s_ "Entry")) []].all (DO 8)=false:=by kernel_rfl
noncomputable def Pk:List (Str×Pos):=[(s_ "turn",(eY (oa ig) 0).pos),(s_ "record",(eY (oa ig) 1).pos)]
def zI:jz recC Pk [2,5]:=⟨rfl,λj p i h1 h2=>by
 cases j with
 |zero=>cases h1;cases h2;rfl
 |succ j=>cases j with
  |zero=>cases h1;cases h2;rfl
  |succ j=>exact aN h2,by decide,by decide⟩
def Pl{h:Heap}{u:Addr}(p:h.PlainList u #[]):∃o,h.get? u=ab o/\o.cls=.type "list":=p.elim λn e=>⟨_,e,rfl⟩
section
variable{X:Kx}{k:Nat}{A:aM}{env:Env}{aH M N:Addr->Prop}{ad:Nat->Addr}{r:aE}{s s':az}{E:ay->az->Prop}{Q:Flow->az->Prop}{rest:List Stmt}{x dx u l:Addr}
def EN.cases{P:Addr->Prop}(e:EN X s x s' dx u l)(h1:P x)(h2:P dx)(h3:P u)(h4:P l):∀b,RW x dx u l b->P b:=λb h=>h.elim (λe=>e▸h1) λh=>h.elim (λe=>e▸h2) λh=>h.elim (λe=>e▸h3) λe=>e▸h4
def EN.ge(e:EN X s x s' dx u l):∀b,RW x dx u l b->s.heap.objs.size<=b:=e.cases e.a0 e.d0 e.u0 e.l0
def EN.lt(e:EN X s x s' dx u l):∀b,RW x dx u l b->b<s'.heap.objs.size:=e.cases (bw e.iv.obj) (e.iv.dict.elim λz q=>q.elim λz q=>bw q.1) (e.pu.elim λz q=>bw q) (e.pl.elim λz q=>bw q)
def EN.rs{fE:Addr->Prop}{aB s₂ aX:az}{r':aE}(e:EN X aB x s₂ dx u l)(ng:NG X N s.heap)(i4:∀b,s.heap.objs.size<=b->¬Fr env b)(mn:∀b,M b->N b)(z:s.heap.objs.size<=aB.heap.objs.size)(k:Kp X s₂ aX)(mv:Mv X M aX s')(a:At X (k') A env recC fE r' s')(F:Fw X env recC aH M fE ad r' s'.heap)(hN:∀b,RW x dx u l b->fE b):RS X k' A env aH M fE ad r' s' x dx u l .none .none [] []:=by
 have ge:∀b,RW x dx u l b->s.heap.objs.size<=b:=λb h=>aD z (e.ge b h)
 have nM:∀b,RW x dx u l b->¬M b:=λb h q=>bx (ng.lt b (mn b q)) (ge b h)
 have nt:∀b,RW x dx u l b->b∉aV:=λb h q=>bx (ng.lt b (ng.tb b q)) (ge b h)
 have kk:∀{b},RW x dx u l b->∀o,s₂.heap.get? b=ab o->s'.heap.get? b=ab o:=λ{b}h o e=>mv.old b o (nM b h) (nt b h) (k.old b o (nt b h) e)
 have ne:∀{o b c:_}{o':Obj},s₂.heap.get? b=ab o->s₂.heap.get? c=ab o'->o.cls≠o'.cls->b≠c:=λe1 e2 n q=>by rw[q]at e1;exact n (af Obj.cls (Option.some.inj (e1.symm.trans e2)))
 obtain⟨_,du,cu⟩:=Pl e.pu
 obtain⟨_,dl,cl⟩:=Pl e.pl
 obtain⟨es,n,hd,_⟩:=e.iv.dict
 exact⟨a,F,⟨e.iv.keep (kk (.inl rfl)) (kk (.inr (.inl rfl))),⟨[],e.pu.at (kk (.inr (.inr (.inl rfl)))),.nil⟩,⟨[],e.pl.at (kk (.inr (.inr (.inr rfl)))),.nil⟩,dP _,dP _⟩,nt,λb h=>i4 b (ge b h),nM,hN,
  ne e.iv.obj du (by rw[cu];exact ay.noConfusion),ne e.iv.obj dl (by rw[cl];exact ay.noConfusion),ne hd du (by rw[cu];exactλe=>aj (ay.type.inj e) (by decide)),ne hd dl (by rw[cl];exactλe=>aj (ay.type.inj e) (by decide)),e.ul,e.ad⟩
def acK{t:Nat}{m:Bool}{i:Int}{x4:Option T}(ht:t<4)(a:At X (k+2) A env recC N (gF t m (ab (.int i)) (ab (.lst (gR t))) x4 ae ae ae ae) s)(F:Fw X env recC aH M N ad (gF t m (ab (.int i)) (ab (.lst (gR t))) x4 ae ae ae ae) s.heap)
  (h:∀{s' N' x dx u l},Mv X M s s'->RS X (k+2) A env aH M N' ad (gF t m (ab (.int (om t i:Nat))) (ab (.lst (gR t))) x4 (ab (.ptr x)) ae ae ae) s' x dx u l .none .none [] []->(∀b,RW x dx u l b->s.heap.objs.size<=b)->(∀b,N' b->N b∨s.heap.objs.size<=b)->aA (model X.prog X.w) A (bL rest env) Q E s'):
  aA (model X.prog X.w) A (bL (.Assign [GF] GG ig.pos::rest) env) Q E s:=by
 refine i6 (Fj (ps:=Pk) (Fh acJ) a.ra.handled zI.own zI.nd (TH ?_))
 rw[yJ wI.1 rfl]
 refine eX (vl (ack rY a (acx kX m x4 ae ae ae ae i t ht)) λv1 aB k1 oY=>eX ?_)
 refine mo (O2 (a.kp k1) (by decide+kernel)) λev s₂ z=>?_
 obtain⟨x,dx,u,l,rfl,en⟩:=z
 have kp:Kp X s₂ {s₂ with heap:=s₂.heap.push {cls:=.type "tuple",data:=.seq [v1,.ref x].toArray}}:=Kp.push
 have Cm:=(k1.trans en.kp).trans kp
 have U:=rT (P:=RW x dx u l) a F Cm λb h=>⟨aD k1.size (en.ge b h),bG (en.lt b h) kp.size⟩
 refine gb ⟨by show 2<=_;decide,M,_,[v1,.ref x],rfl,jX.isTup ⟨0,cD _ rfl⟩,rfl,U.2.cn,λs' S=>⟨rfl,?_⟩⟩
 have V:=yW (xs:=[.int (om t i:Nat),.ptr x]) U.1 U.2 zI.hs zI.hl zI.cL rfl S (.cons (oY.sc rfl) (.cons (.ptr x) .nil))
 exact h ((Mv.of Cm).trans S.m λy=>.inl) (en.rs a.ng (λb h=>(n7 a F h).1) F.mn k1.size kp S.m V.1 V.2 λb=>.inr) (λb h=>aD k1.size (en.ge b h)) λb h=>h.imp id λh=>aD k1.size (en.ge b h)
end
noncomputable def Pn:Stmt:=.For (bY (hY (st 198 6)) (s_ "middle")) (uE (st 198 6)) GL [] (st 198 6).pos
noncomputable def Po:Stmt:=.Return (ab (bY (me (st 198 7)) (s_ "record"))) (st 198 7).pos
def acL{t n:Nat}(h:t<4):(i7 t n).length<=16:=by
 have e:=(CA t h).1
 unfold gR at e
 rw[bK]at e
 unfold i7
 rw[bQ,Dz,JM,e]
 exact aD (eA (mC _ _) (amh _ _)) (aD (eA (O9 t h) (O9 t h)) (by decide))
def uI{t n:Nat}{y:Str}(h:y∈i7 t n):y∈ff t:=(vk.mp h).elim List.mem_of_mem_drop aoH
section
variable{X:Kx}{k:Nat}{A:aM}{env:Env}{aH M N:Addr->Prop}{ad:Nat->Addr}{r:aE}{s s':az}{E:ay->az->Prop}{Q:Flow->az->Prop}{rest:List Stmt}{x dx u l:Addr}{d q:ay}
abbrev RE(X:Kx)(aH M:Addr->Prop)(s:az)(t:Nat)(m:Bool)(n:Nat)(x dx u l:Addr)(d q:ay)(s':az):Prop:=(Mv X (λb=>M b∨RW x dx u l b) s s')/\(∃N,(∀b,aH b->N b)/\RJ X N s'.heap x dx u l d q ([.str (s_ "*"),.str (rr m)]++(i7 t n).map λy=>.str (aa y)) ([]++(i7 t n).map λy=>.eG y (vv m y)))
section
variable(h:RE X aH M s t m n x dx u l d q s')
def RE.mv:=h.1
def RE.n0:=h.2
end
def acM{t:Nat}{m:Bool}{n:Nat}{x4:Option T}(ht:t<4)(hn:n<2^t)(R:RS X (k+1) A env aH M N ad (gF t m (ab (.int (n:Nat))) (ab (.lst (gR t))) x4 (ab (.ptr x)) ae ae ae) s x dx u l d q [.str (s_ "*"),.str (rr m)] [])
  (h:∀s',RE X aH M s t m n x dx u l d q s'->Q (.ret (.ref x)) s'):aA (model X.prog X.w) A (bL [Pn,Po] env) Q E s:=by
 have hl:=acL (n:=n) ht
 obtain⟨x6,GS⟩:=acy m t (ab (.int (n:Nat))) (ab (.lst (gR t))) x4 (ab (.ptr x)) (i7 t n) ae [.str (s_ "*"),.str (rr m)] [] (aD (f6 hl _) (show 2+16<=1000 by decide)) (aD (f6 hl _) (show 0+16<=1000 by decide)) λy hy=>(CA t ht).2 y (uI hy)
 refine i6 (J9 (mo (aco (rY (k:=k)) R.a (acw kX m x4 _ _ _ _ t ht n hn) _ rfl _) λxv aB bJ=>?_) (vY wI.2.2.2.1 env))
 obtain⟨own,ho,k₁,hi⟩:=bJ
 cases ho rfl
 refine mo (hi A E R.a.ra.handled) λt6 s₂ h₂=>?_
 obtain⟨fC,I,fp,wr,St,eH,rfl,it,st,fD,ie⟩:=h₂
 have a0:At X (k+1) A env recC N (gF t m (ab (.int (n:Nat))) (ab (.lst (gR t))) x4 (ab (.ptr x)) ae (ab (.lst [.str (s_ "*"),.str (rr m)])) (ab (.lst []))) s:=Pb R.a
 have F0:Fw X env recC (λb=>aH b∨RW x dx u l b) M N ad (gF t m (ab (.int (n:Nat))) (ab (.lst (gR t))) x4 (ab (.ptr x)) ae (ab (.lst [.str (s_ "*"),.str (rr m)])) (ab (.lst []))) s.heap:=
  (R.F.nil rfl).grow (λz=>id) R.F.mn (λb h q=>q.elim (R.F.m0 b h) λq=>R.nM b q h) λb h=>h.elim (R.F.n0 b) (R.hN b)
 refine ab7 (C:=⟨X,kX⟩) (λq=>ft q) (acG R.at_ R.fr R.xu R.xl R.du R.dl R.ul) a0 F0 (λb=>.inr) ⟨ae,_,_,rfl,R.J⟩ (λ{V N N' r s s'}j ng mv hV hW hN=>?_) it st fC fD (λb hb hw=>(ie b hb hw).elim id λq=>aN q) GS λs' L=>⟨rfl,?_⟩
 ·obtain⟨x6,ua,rl,e,J⟩:=j
  exact⟨x6,ua,rl,e,J.mv ng R.at_ mv hV hW hN⟩
 ·obtain⟨-,mv,⟨ad',a',F'⟩,y6,ua,rl,e,J⟩:=L
  refine c8 (qJ (gC a' (a'.ptr (i:=5) rfl rfl rfl) rfl rfl (h s' ⟨mv,_,λb h=>F'.n0 b (.inl h),?_⟩)))
  have e9:ab (T.lst _)=ab (.lst ua):=af (λr=>get r 9) e
  have zJ:ab (T.lst _)=ab (.lst rl):=af (λr=>get r 10) e
  cases e9
  cases zJ
  exact J
end
def acN:body 198=st 198 0::st 198 1::.Assign [GF] GG ig.pos::jC (st 198 3) (s_ "record") (s_ "delay") (aT (st 198 3))::jC (st 198 4) (s_ "record") (s_ "req_rate") (aT (st 198 4))::
 uF (st 198 5) (s_ "record") (s_ "useragents") (s_ "extend") (GC oj [GD (eQ oj 0) (s_ "*"),rZ (eQ oj 1) (s_ "record") (s_ "req_rate")])::[Pn,Po]:=ach
def acO(F:Nat->List T->Option T)(t:Nat)(m:Bool)(x2 x3 x4 x5:Option T):ev F Cv (gF t m x2 x3 x4 x5 ae ae ae)=ab (if m then .none else .int ((t+1:Nat):Int))/\ev F Cw (gF t m x2 x3 x4 x5 ae ae ae)=ab (.str (rr m)):=by cases m<;>exact⟨rfl,rfl⟩
section
variable{X:Kx}{k:Nat}
def acP{A:aM}{N:Addr->Prop}{s:az}{E:ay->az->Prop}{t:Nat}{m:Bool}{i:Int}{vals:List ay}(ht:t<4)(ra:RA (k+3) A)(wd:Wd X s.heap)(ng:NG X N s.heap)(hv:aL X N s.heap [.int (t+1:Nat),.bool m,.int i] vals):
  aA (model X.prog X.w) A (call (.ref 198) vals) (Res X N s (O6 t m i)) E s:=by
 refine uj 8 (iM O5) ra wd ng hv rfl λ{env aB M N'}c=>?_
 rw[acN]
 refine zv (rY (k:=k+1)) aci c.a c.F (acu kX m i t) λ{s₂ acQ Pp acR}n9 a2 F2 n2 m2=>?_
 obtain⟨x4,e1⟩:=acv kX m i t ht
 refine zv (rY (k:=k+1)) acj a2 F2 e1 λ{aX Pq Pr acS}cM a3 F3 n3 m3=>?_
 have b2:∀b,acQ b->s.heap.objs.size<=b:=λb h=>(m2 b h).elim (c.hM b) λh=>aD c.kp.size h
 have s2:=aD c.kp.size n9.size
 have s3:=aD s2 cM.size
 have b3:∀b,Pq b->s.heap.objs.size<=b:=λb h=>(m3 b h).elim (b2 b) λh=>aD s2 h
 refine acK ht a3 F3 λ{aS GU x dx u l}rX R4 w4 n4=>?_
 have bW:∀b,RW x dx u l b->s.heap.objs.size<=b:=λb h=>aD s3 (w4 b h)
 have ee:=acO kX t m (ab (.int (om t i:Nat))) (ab (.lst (gR t))) x4 (ab (.ptr x))
 refine Pj R4 rfl (acm (rY (k:=k+1)) R4.a ee.1) wI.2.1 (by cases m<;>rfl) (j:=2) rfl (dv:=id) (qv:=λz=>.none) (λz=>rfl) λ{vd dC GV}hd i8 R5 n5=>?_
 refine Pj R5 rfl (acn (rY (k:=k+1)) R5.a ee.2) wI.2.2.1 rfl (j:=3) rfl (dv:=λz=>vd) (qv:=id) (λz=>rfl) λ{vq nU acT}hq wa R6 n6=>?_
 refine acI R6 rfl (hq.sc rfl) λ{t5}mv7 R7=>?_
 refine acM ht (GJ t i) R7 λCC Z=>?_
 have rV:∀{b},RW x dx u l b->¬N b:=λ{b}h q=>bx (ng.lt b q) (bW b h)
 have out:∀{W:Addr->Prop}{a b:az},Mv X (λz=>False) s a->Mv X W a b->(∀b,W b->s.heap.objs.size<=b)->Mv X (λz=>False) s b:=λm n h=>m.trans n λd q=>.inr (h d q)
 have CD:=(out (out (out (out (out (out (out (Mv.of c.kp) n9 c.hM) cM b2) rX b3) i8 bW) wa bW) mv7 bW) Z.mv λb h=>h.elim (b3 b) (bW b)).kp λz=>id
 obtain⟨Pt,n0,J⟩:=Z.n0
 obtain⟨us,pu,vu⟩:=J.pu
 obtain⟨ls,pl,vl⟩:=J.pl
 obtain⟨es,en,ed,ee'⟩:=J.iv.dict
 have nn:∀b,N b->Pt b:=λb h=>n0 b h
 exact⟨CD,.ins (c:=1) J.iv.obj ed (rV (.inl rfl)) (rV (.inr (.inl rfl))) ee' (.cons (.lst pu (rV (.inr (.inr (.inl rfl)))) J.zu (vu.mono nn)) (.cons (.lst pl (rV (.inr (.inr (.inr rfl)))) J.zl (vl.mono nn)) (.cons (hd.sc (by cases m<;>rfl)) (.cons (hq.sc rfl) .nil))))⟩
def acW:dq X (k+3) 198 O8:=λA N s ts vals t E ra wd ng hv e=>by
 refine a3e e λx y z q ea=>fb ea λi qx eb=>acr eb λm qy ec=>fb ec λu qz ed=>ifs ed λh ez=>?_
 clear e ea eb ec ed
 subst q;subst qx;subst qy;subst qz;subst ez
 have g:((i.toNat - 1+1:Nat):Int)=i:=by rw[pz (aoI (dn (by decide) h.1)|>.mpr h.1)];exact AP (dn (by decide) h.1)
 rw[<-g]at hv
 exact acP (aoJ (A7 (T8.mpr h.2)|>λz=>bI (bO (pz (aoI (dn (by decide) h.1)|>.mpr h.1))) z)) ra wd ng hv
end
noncomputable def GW(ns:List (Str×jm))(l:List (Str×Nat))(ps:List Str):Bool:=
 ns.all (λp=>p.2 !=.cell)&&(ps.zip (bf ps.length)).all (λp=>l.lookup p.1==ab p.2)&&l.all (λp=>ns.lookup p.1==ab .local)&&decide ((l.map (·.1)).Nodup)&&decide ((l.map (·.2)).Nodup)&&decide ps.Nodup
abbrev pP(ns:List (Str×jm))(l:List (Str×Nat))(ps:List Str):Prop:=(∀p∈ns,p.2≠.cell)/\(∀(j:Nat)x,ps[j]?=ab x->l.lookup x=ab j)/\(∀x i,l.lookup x=ab i->ns.lookup x=ab .local)/\(l.map (·.1)).Nodup/\(l.map (·.2)).Nodup/\ps.Nodup
section
variable(h:pP ns l ps)
def pP.acX:=h.1
def pP.slot:=h.2.1
def pP.kinds:=h.2.2.1
def pP.nd:=h.2.2.2.1
def pP.cL:=h.2.2.2.2.1
def pP.B6:=h.2.2.2.2.2
end
def Pu{ns:List (Str×jm)}{l:List (Str×Nat)}{ps:List Str}(h:GW ns l ps=true):pP ns l ps:=band h λh h6=>band h λh h5=>band h λh h4=>band h λh h3=>band h λh1 h2=>
 ⟨λp hp e=>ft ((show(p.2 !=.cell)=false by rw[e];rfl).symm.trans (bA.mp h1 p hp)),λj x hj=>ao (bA.mp h2 (x,j) (dZ (qI.mpr ⟨hj,DU (iR.mp hj).1⟩))),
  λx i hx=>ao (bA.mp h3 (x,i) (lookup_mem hx)),aq h4,aq h5,aq h6⟩
structure GX(fd:gX)(bd:List Stmt)(l:List (Str×Nat))(ps:List Str):Prop where
 body:fd.body=.stmts bd
 glob:fd.globals=gJ
 bi:fd.builtins=jj
 kind:fd.scope.kind=.function
 co:fd.scope.isCoroutine=false
 gen:fd.scope.isGenerator=false
 sc:pP fd.scope.names l ps
structure GY(h:Heap)(fd:gX):Prop where
 dz:∀x a,fd.closure.lookup x=ab a->(∃v,h.IsCell a v)/\a∉aV
 inj:∀x y a,fd.closure.lookup x=ab a->fd.closure.lookup y=ab a->x=y
 has:∀x,fd.scope.names.lookup x=ab .cell∨fd.scope.names.lookup x=ab .free->∃a,fd.closure.lookup x=ab a
def IsCell.keep{h h':Heap}{a:Addr}{v:Option ay}(c:h.IsCell a v)(k:∀o,h.get? a=ab o->h'.get? a=ab o):h'.IsCell a v:=c.elim λo q=>⟨o,k _ q.1,q.2⟩
def acY{α:Type}{x:Str}{v:α}{l:List (Str×α)}(nd:(l.map (·.1)).Nodup)(h:(x,v)∈l):l.lookup x=ab v:=by
 obtain⟨j,hj⟩:=tA.mp h
 exact L5 nd hj
abbrev uJ(X:Kx)(k:Nat)(A:aM)(fd:gX)(l:List (Str×Nat))(N:Addr->Prop)(r:aE)(s:az)(env:Env)(aB:az):Prop:=env.code=fd.code/\env.scope=fd.scope/\env.frame=ab env.locals/\env.qual=fd.qualname++".<locals>."/\env.cells=fd.closure/\env.locals=s.heap.objs.size/\(At X k (A.deeper env) env ⟨fd.scope.names,l,[]⟩ (λb=>N b∨b=s.heap.objs.size) r aB)/\(Fw X env ⟨fd.scope.names,l,[]⟩ N (λb=>b=s.heap.objs.size) (λb=>N b∨b=s.heap.objs.size) (λz=>0) r aB.heap)/\Kp X s aB
section
variable(h:uJ X k A fd l N r s env aB)
def uJ.cells:=h.2.2.2.2.1
def uJ.loc:=h.2.2.2.2.2.1
def uJ.a:=h.2.2.2.2.2.2.1
def uJ.F:=h.2.2.2.2.2.2.2.1
def uJ.kp:=h.2.2.2.2.2.2.2.2
end
section
variable{X:Kx}{k:Nat}{A:aM}{N:Addr->Prop}{s:az}{E:ay->az->Prop}
def Pw{a:Addr}{fd:gX}{bd:List Stmt}{l:List (Str×Nat)}{ps:List Str}(n:Nat)(f:GX fd bd l ps)(ca:GY s.heap fd){ts:List T}{vals Px:List ay}
  (ra:RA (k+1) A) (wd:Wd X s.heap) (ng:NG X N s.heap) (ho:s.heap.get? a=ab {cls:=.type "function",data:=.func fd}) (iE:s.heap.CodeRec fd.code fd.qualname) (hv:aL X N s.heap ts vals) (hl:ts.length=ps.length) (hbd:BindsTo s fd ⟨Px,[]⟩ (ps.zip vals)) {Q:ay->az->Prop}
  (h:∀{env aB},uJ X k A fd l N (start n ts) s env aB->aA (model X.prog X.w) (A.deeper env) (bL bd env) (λg s'=>Q (zi g) s') (λy y=>False) aB):
  aA (model X.prog X.w) A (call (.ref a) Px) Q E s:=by
 have zj:vals.length=ps.length:=hv.length.trans hl
 refine pw (qF (R:=λr s'=>match r with|.ok (.ret v)=>Q v s'|_=>False) ?_ λr s' hr=>?_)
 ·have S:=f.sc
  refine codeAny_call_def ra.room ho rfl wd.nolimit iE f.body hbd S.acX (λx hx=>(tA.mp (tw hx).1).elim λj hj=>S.kinds _ _ (S.slot j _ hj)) (λh₀ gQ kk=>?_) f.co f.gen f.kind
  generalize hL:s.heap.objs.size=L at gQ
  have wC:L<h₀.objs.size:=gQ.lt
  have kp:Kp X s {s with heap:=h₀,toks:=s.toks+(ps.zip vals).length}:=Kp.of kk (by rw[hL];exact cT wC)
  have up:∀b,(N b∨b=L)->N b∨s.heap.objs.size<=b:=λb q=>q.imp id λz=>bO (hL.trans z.symm)
  have ng':NG X (λb=>N b∨b=L) h₀:=ng.more (λb q=>.inl q) wd kp.size λb q=>q.imp id λ(z:b=L)=>⟨bO (hL.trans z.symm),z▸wC⟩
  have oY:aL X (λb=>N b∨b=L) h₀ ts vals:=hv.move up λb o q eb=>kk b o eb
  have GZ:∀x b,fd.closure.lookup x=ab b->(∃v,h₀.IsCell b v)/\b<L:=λx b e=>(ca.dz x b e).1.elim λv c=>⟨⟨v,IsCell.keep c λo e=>kk _ _ e⟩,hL▸c.elim λo q=>bw q.1⟩
  have ka:At X k (A.deeper (callEnv fd L a)) (callEnv fd L a) ⟨fd.scope.names,l,[]⟩ (λb=>N b∨b=L) (start n ts) {s with heap:=h₀,toks:=s.toks+(ps.zip vals).length}:=by
   refine⟨⟨f.kind,rfl,f.glob,f.bi,λq=>bx (ng.lt L (ng.tb L q)) (bO hL),λx b hb=>(ca.dz x b hb).2,λx hx=>ca.has x hx,λx b hb=>⟨(GZ x b hb).1,cW (GZ x b hb).2⟩,ca.inj,λx i t h1 h2=>?_⟩,wd.kp kp,ng',ra.deeper⟩
   have h3:=NH h2
   obtain⟨v,h4,h5⟩:=oY.get h3
   have dp:i<ps.length:=hl▸(iR.mp h3).1
   have hy:ps[i]?=ab ps[i]:=iq dp
   cases BX S.cL h1 (S.slot i _ hy)
   refine⟨v,.inl ⟨S.kinds _ _ h1,_,gQ,acY ?_ (A5.mpr (dZ (qI.mpr ⟨hy,h4⟩)))⟩,h5⟩
   rw[qH,EW zj.symm]
   exact Us.mpr (S.B6.imp λh e=>h e.symm)
  have FY:Fw X (callEnv fd L a) ⟨fd.scope.names,l,[]⟩ N (λb=>b=L) (λb=>N b∨b=L) (λy=>0) (start n ts) h₀:=
   ⟨⟨f.kind,⟨rfl,_,gQ⟩,λx hx=>(mD.mp hx).elim λi hi=>.inl (S.kinds x i hi),ca.inj,λx b hb q=>cW (GZ x b hb).2 q⟩,λb q=>.inr q,λb q z=>bx (ng.lt b z) (bO (hL.trans q.symm)),λb q=>.inl q,S.nd,S.cL,λi w=>ft w.1,λx i t h1 h2=>ft h2,λi j w=>ft w.1⟩
  subst hL
  refine eE (h ⟨rfl,rfl,rfl,rfl,rfl,rfl,ka,FY,kp⟩) (λg s' hg=>?_) λy y z=>z.elim
  cases g<;>exact hg
 ·cases r with
  |error e=>exact hr.elim
  |ok fl=>cases fl<;>first|exact hr|exact hr.elim
def ac1{α:Type}{x:Str}:∀{l m:List (Str×α)}{i:α},(l++m).lookup x=ab i->l.lookup x=ab i∨m.lookup x=ab i:=by
 intro l m i h
 induction l with
 |nil=>exact .inr h
 |cons p l ih=>
  rw[anb,cE]at h
  rw[cE]
  cases q:x==p.1<;>rw[q]at h
  ·exact ih h
  ·exact .inl h
def At.plus{env:Env}{c:Sc}{r:aE}(a:At X k A env c N r s)(fs:List (Str×Nat))(hf:∀x i t,fs.lookup x=ab i->get r i=ab t->∃v,Rd env s.heap x v/\VR X N s.heap t v)(ho:c.own=[]):At X k A env {c with slots:=c.slots++fs} N r s:=
 ⟨⟨a.ec.kind,a.ec.names,a.ec.globals,a.ec.builtins,a.ec.vQ,a.ec.ju,a.ec.has,a.ec.dz,a.ec.inj,λx i t h1 h2=>(ac1 h1).elim (λh=>a.ec.rd x i t h h2) λh=>(hf x i t h h2).elim λv z=>⟨v,z.1,by rw[ho];exact z.2⟩⟩,a.wd,a.ng,a.ra⟩
end
noncomputable def oq(n:Nat):Nat->Nat->List Nat:=Nat.rec (λx=>[x]) λz ih x=>x%2^n::ih (x/2^n)
noncomputable def gS(n:Nat)(m x:Nat):List Nat:=if m=0 then[]else oq n (m - 1) x
def ac2(n:Nat):∀m x,(oq n m x).length=m+1:=by
 intro m
 induction m with
 |zero=>exactλz=>rfl
 |succ m ih=>exactλx=>af (· +1) (ih _)
def G0(n m x:Nat):(gS n m x).length=m:=by
 cases m with
 |zero=>rfl
 |succ m=>exact ac2 n m x
def ac3(n:Nat):∀a b x,oq n (a+1+b) x=oq n a (x%2^(n*(a+1)))++oq n b (x/2^(n*(a+1))):=by
 intro a
 induction a with
 |zero=>intro b x;rw[jU,eK 1 b,Bg];rfl
 |succ a ih=>
  intro b x
  have e:2^(n*(a+1+1))=2^n*2^(n*(a+1)):=by rw[<-oJ,vA n (a+1),eK]
  rw[show a+1+1+b=a+1+b+1 from ky (a+1) 1 b,e]
  show x%2^n::oq n (a+1+b) (x/2^n)=(x%(2^n*2^(n*(a+1))))%2^n::(oq n a (x%(2^n*2^(n*(a+1)))/2^n)++_)
  rw[ih,Nat.mod_mod_of_dvd _ (Nat.dvd_mul_right _ _),Nat.mod_mul_right_div_self,aoK]
def ac4(n:Nat){a b:Nat}(x:Nat)(ha:1<=a)(hb:1<=b):gS n (a+b) x=gS n a (x%2^(n*a))++gS n b (x/2^(n*a)):=by
 cases a with
 |zero=>exact aj ha (by decide)
 |succ a=>cases b with
  |zero=>exact aj hb (by decide)
  |succ b=>exact ac3 n a b x
def ac5(x s:Nat):x&&&(x>>>s<<<s)=x>>>s<<<s:=by
 apply aoL
 intro i
 rw[aoM,aoN,Nat.testBit_shiftRight]
 by_cases h:i≥s
 ·rw[tI h,ar h,am6,Bool.and_self]
 ·rw[av h,JY,UI]
def ac6(x s:Nat):Tn (x:Int) ((x/2^s*2^s:Nat):Int)=((x%2^s:Nat):Int):=by
 unfold Tn
 rw[aoO]
 have h:Dn (x:Int) ((x/2^s*2^s:Nat):Int)=((x/2^s*2^s:Nat):Int):=by
  unfold Dn
  rw[ar (cy _),ar (cy _)]
  dsimp only
  rw[jT,jT]
  have:=ac5 x s
  rw[aoP,Nat.shiftRight_eq_div_pow]at this
  rw[this]
 rw[h]
 have e:(x:Int)=((x/2^s*2^s:Nat):Int)+((x%2^s:Nat):Int):=by rw[<-tJ,g6,tK]
 generalize x/2^s*2^s=y at e
 rw[qN,e,vB (y:Int),qN]
def bits_le{x k:Nat}(h:x<2^k):bc (x:Int)<=k:=by
 unfold bc
 split
 ·exact dP _
 ·rename_i q
  rw[D4]
  exact(Ky λe=>q (by subst e;rfl)).mpr h
def r0{x k:Nat}(h:bc (x:Int)<=k):x<2^k:=by
 unfold bc at h
 split at h
 ·rename_i q
  have q:(x:Int)=0:=ao q
  cases Int.ofNat.inj q
  exact fy _
 ·rename_i q
  rw[D4]at h
  exact(Ky λe=>q (by subst e;rfl)).mp h
def wK(x p:Nat):UT (x:Int) (p:Int)=((x/p:Nat):Int):=by
 rw[aoQ _ (cy _)];exact(Int.natCast_ediv ..).symm
def G1(s:Nat):(2:Int)^(s:Int).toNat=((2^s:Nat):Int):=by rw[jT];exact(UU 2 s).symm
noncomputable def iT(n:Nat):T:=.int (n:Nat)
noncomputable def intsOf(l:List Nat):List T:=l.map iT
def aL.ints{X:Kx}{N N':Addr->Prop}{h h':Heap}{l:List Nat}{ws:List ay}(x:aL X N h (intsOf l) ws):aL X N' h' (intsOf l) ws:=by
 induction l generalizing ws with
 |nil=>exact aL.qR (P:=λws=>aL X N' h' [] ws) x .nil
 |cons a l ih=>exact aL.tN (P:=λws=>aL X N' h' (iT a::intsOf l) ws) x λv ws a b=>.cons (a.sc rfl) (ih b)
noncomputable def wL(s:Stmt):xt:=if h:s.ctorIdx=0 then Stmt.FunctionDef.elim s h λz p z z z z z z z z=>p else default
noncomputable def o4(s:Stmt):List Stmt:=if h:s.ctorIdx=0 then Stmt.FunctionDef.elim s h λz z b z z z z z z z=>b else default
noncomputable def jD(s:Stmt):d9:=if h:s.ctorIdx=0 then Stmt.FunctionDef.elim s h λz z z z z z s z z z=>s else default
structure Kd where
 q:Str
 d:Stmt
 a:Str
 l:List (Str×Nat)
 ps:List Str
noncomputable def k2:Kd:=⟨Br,st 108 1,s_ "a_digits",slots ["x","L","R","mid","shift","upper","lower"],["x","L","R"].map s_⟩
noncomputable def k3:Kd:=⟨Bs,st 115 0,s_ "digits",slots ["L","R","mid","shift"],["L","R"].map s_⟩
structure jG where
 fI:Addr
 dl:Addr
 cN:Addr
 cA:Addr
 cI:Addr
 n:Nat
 cv:ay
 ct:ay
noncomputable def r5(K:Kd)(Z:jG):List (Str×Addr):=[(s_ "n",Z.cN),(s_ "inner",Z.cI),(K.a,Z.cA)]
noncomputable def ot(X:Kx)(K:Kd)(Z:jG):gX:=qQ X.mg (s_ "inner") K.q (wL K.d) (.stmts (o4 K.d)) (jD K.d) (r5 K Z) Z.cv Z.ct
noncomputable def iC(K:Kd):Sc:=⟨(jD K.d).names,K.l,[]⟩
inductive IW(Z:jG):Addr->Prop
 |fI:IW Z Z.fI
 |dl:IW Z Z.dl
 |cN:IW Z Z.cN
 |cA:IW Z Z.cA
 |cI:IW Z Z.cI
abbrev kb(K:Kd):Prop:=GW (jD K.d).names K.l K.ps=true/\((jD K.d).kind=.function/\(jD K.d).isCoroutine=false/\(jD K.d).isGenerator=false)/\((jD K.d).names.all (λp=>p.2 !=.cell&&(p.2 !=.free||[s_ "n",s_ "inner",K.a].contains p.1))=true)/\(((jD K.d).names.lookup (s_ "n")=ab .free/\(jD K.d).names.lookup (s_ "inner")=ab .free)/\(jD K.d).names.lookup K.a=ab .free)/\(∀(mg:Str->Option ay)(cl:List (Str×Addr))(cv ct:ay)(g:Nat->ay),Kl (qQ mg (s_ "inner") K.q (wL K.d) (.stmts (o4 K.d)) (jD K.d) cl cv ct) ⟨(bf K.ps.length).map g,[]⟩=pure (K.ps.zip ((bf K.ps.length).map g)))
section
variable{K:Kd}(h:kb K)
def kb.sc:=h.1
def kb.kind:=h.2.1
def kb.fr:=h.2.2.1
def kb.kn:=h.2.2.2.1
def kb.bind:=h.2.2.2.2
end
def mZ:kb k2:=⟨by kernel_rfl,⟨by kernel_rfl,by kernel_rfl,by kernel_rfl⟩,by kernel_rfl,⟨⟨by kernel_rfl,by kernel_rfl⟩,by kernel_rfl⟩,λmg cl cv ct g=>by kernel_rfl⟩
def wM:kb k3:=⟨by kernel_rfl,⟨by kernel_rfl,by kernel_rfl,by kernel_rfl⟩,by kernel_rfl,⟨⟨by kernel_rfl,by kernel_rfl⟩,by kernel_rfl⟩,λmg cl cv ct g=>by kernel_rfl⟩
structure gq(X:Kx)(K:Kd)(Z:jG)(h:Heap)(vs:List Nat):Prop where
 fn:h.get? Z.fI=ab {cls:=.type "function",data:=.func (ot X K Z)}
 cq:kz h Z.cv K.q
 n_:∃t,h.IsCell Z.cN (ab (.int (Z.n:Nat) t))
 a_:h.IsCell Z.cA (ab (.ref Z.dl))
 i_:h.IsCell Z.cI (ab (.ref Z.fI))
 l_:∃ws:List ay,h.PlainList Z.dl ws.toArray/\aL X (λz=>False) h (intsOf vs) ws
def gq.mv{X:Kx}{K:Kd}{Z:jG}{V:Addr->Prop}{s s':az}{vs:List Nat}(I:gq X K Z s.heap vs)(mv:Mv X V s s')(hV:∀b,IW Z b->¬V b)(ht:∀b,IW Z b->b∉aV):gq X K Z s'.heap vs:=by
 have k:∀{b},IW Z b->∀o,s.heap.get? b=ab o->s'.heap.get? b=ab o:=λ{b}w o e=>mv.old b o (hV b w) (ht b w) e
 exact⟨k .fI _ I.fn,I.cq.keep λb o c e=>mv.code b o c e,I.n_.imp λt c=>IsCell.keep c (k .cN),IsCell.keep I.a_ (k .cA),IsCell.keep I.i_ (k .cI),I.l_.imp λws h=>⟨h.1.at (k .dl),h.2.ints⟩⟩
def gq.lt{X:Kx}{K:Kd}{Z:jG}{h:Heap}{vs:List Nat}(I:gq X K Z h vs):∀b,IW Z b->b<h.objs.size:=λb w=>by
 cases w with
 |fI=>exact bw I.fn
 |dl=>exact I.l_.elim λz q=>q.1.elim λz e=>bw e
 |cN=>exact I.n_.elim λz c=>c.elim λo q=>bw q.1
 |cA=>exact I.a_.elim λo q=>bw q.1
 |cI=>exact I.i_.elim λo q=>bw q.1
def ac7{α:Type}{x:Str}{l:List (Str×α)}(h:(l.map (·.1)).contains x=true):∃a,l.lookup x=ab a:=by
 obtain⟨p,hp,rfl⟩:=dy.mp (jo.mp h)
 induction l with
 |nil=>exact(gM hp).elim
 |cons q l ih=>
  rw[cE]
  cases e:p.1==q.1 with
  |true=>exact⟨_,rfl⟩
  |false=>exact(br.mp hp).elim (λz=>by rw[z,aw]at e;exact tf e) λz=>ih z (jo.mpr (dy.mpr ⟨_,z,rfl⟩))
def Py{x y z w:Str}{a b c d:Addr}{P:Prop}(h:[(x,a),(y,b),(z,c)].lookup w=ab d)(h1:w=x->d=a->P)(h2:w=y->d=b->P)(h3:w=z->d=c->P):P:=by
 rw[cE]at h
 cases q:w==x with
 |true=>rw[q]at h;exact h1 (ao q) (Option.some.inj h).symm
 |false=>rw[q]at h;exact vZ h h2 h3
def gq.zh{X:Kx}{K:Kd}{Z:jG}{h:Heap}{vs:List Nat}(ok:kb K)(I:gq X K Z h vs)(ht:∀b,IW Z b->b∉aV)(nd:[Z.cN,Z.cI,Z.cA].Nodup):GY h (ot X K Z):=
 ⟨λx a e=>Py (show(r5 K Z).lookup x=ab a from e) (λz q=>q▸⟨I.n_.elim λt c=>⟨_,c⟩,ht _ .cN⟩) (λz q=>q▸⟨⟨_,I.i_⟩,ht _ .cI⟩) λz q=>q▸⟨⟨_,I.a_⟩,ht _ .cA⟩,
  λx y a h1 h2=>BX (l:=r5 K Z) nd h1 h2,λx hx=>ac7 (l:=r5 K Z) (hx.elim (λe=>band (bA.mp ok.fr _ (lookup_mem e)) λq z=>ft q) λe=>band (bA.mp ok.fr _ (lookup_mem e)) λz q=>q)⟩
def ac8{X:Kx}{K:Kd}{Z:jG}(ok:kb K):GX (ot X K Z) (o4 K.d) K.l K.ps:=⟨rfl,rfl,rfl,ok.kind.1,ok.kind.2.1,ok.kind.2.2,Pu ok.sc⟩
def ac9{X:Kx}{K:Kd}{Z:jG}(ok:kb K){s:az}{vals:List ay}(h:vals.length=K.ps.length):BindsTo s (ot X K Z) ⟨vals,[]⟩ (K.ps.zip vals):=by
 have e:=ok.bind X.mg (r5 K Z) Z.cv Z.ct λi=>vals.getD i default
 rw[<-h,<-Od]at e
 exact BindsTo.of_eq e
abbrev IQ(X:Kx)(K:Kd)(Z:jG)(k:Nat)(A:aM)(env:Env)(N W:Addr->Prop)(aP:az)(r:aE)(s:az)(vs:List Nat):Prop:=(At X k A env (iC K) (λb=>N b∨b=aP.heap.objs.size) r s)/\(∃ad,Fw X env (iC K) N (λb=>b=aP.heap.objs.size) (λb=>N b∨b=aP.heap.objs.size) ad r s.heap)/\gq X K Z s.heap vs/\env.cells=r5 K Z/\env.locals=aP.heap.objs.size/\(∀b,IW Z b->b<aP.heap.objs.size)/\(∀b,IW Z b->b∉aV)/\Mv X W aP s
section
variable{K:Kd}(h:IQ X K Z k A env N W aP r s vs)
def IQ.a:=h.1
def IQ.F:=h.2.1
def IQ.I:=h.2.2.1
def IQ.ce:=h.2.2.2.1
def IQ.lo:=h.2.2.2.2.1
def IQ.lt:=h.2.2.2.2.2.1
def IQ.nt:=h.2.2.2.2.2.2.1
def IQ.mv:=h.2.2.2.2.2.2.2
end
def At.ext{X:Kx}{k:Nat}{A:aM}{env:Env}{c:Sc}{N:Addr->Prop}{r:aE}{s:az}(a:At X k A env c N r s)(e:aE)(h:c.slots.all (λp=>decide (p.2<r.length))=true):At X k A env c N (r++e) s:=
 a.less λx i t hx g=>by
  have hi:i<r.length:=aq (bA.mp h _ (lookup_mem hx))
  rw[get_eq,aoi hi,<-get_eq]at g
  exact g
def ada{n:Nat}{ts:List T}:(start n ts).length=ts.length+n:=by unfold start;rw[bQ,bK,qO]
section
variable{X:Kx}{K:Kd}{Z:jG}{k:Nat}{A:aM}{env:Env}{N W:Addr->Prop}{aP s s':az}{r:aE}{vs j1:List Nat}{E:ay->az->Prop}{Q:Flow->az->Prop}{rest:List Stmt}
def Pz(ok:kb K)(I:gq X K Z s.heap vs)(nt:∀b,IW Z b->b∉aV)(nd:[Z.cN,Z.cI,Z.cA].Nodup){ts:List T}{vals:List ay}(n:Nat)(e:aE)(he:K.l.all (λp=>decide (p.2<ts.length+n))=true)(hl:ts.length=K.ps.length)
  (ra:RA (k+1) A) (wd:Wd X s.heap) (ng:NG X N s.heap) (hv:aL X N s.heap ts vals) {Q:ay->az->Prop}
  (h:∀{env aB},IQ X K Z k (A.deeper env) env N W s (start n ts++e) aB vs->aA (model X.prog X.w) (A.deeper env) (bL (o4 K.d) env) (λg s'=>Q (zi g) s') (λz z=>False) aB):
  aA (model X.prog X.w) A (call (.ref Z.fI) vals) Q E s:=
 Pw n (ac8 ok) (I.zh ok nt nd) ra wd ng I.fn I.cq.ux hv hl (ac9 ok (hv.length.trans hl)) λ{env aB}c=>
  h ⟨At.ext c.a e (by rw[ada];exact he),⟨_,c.F.nil rfl⟩,I.mv (Mv.of (M:=λz=>False) c.kp) (λz z=>id) nt,c.cells,c.loc,I.lt,nt,.of c.kp⟩
def IQ.kp(q:IQ X K Z k A env N W aP r s vs)(k1:Kp X s s'):IQ X K Z k A env N W aP r s' vs:=
 ⟨q.a.kp k1,q.F.imp λad F=>F.kp q.a k1,q.I.mv (Mv.of (M:=λz=>False) k1) (λz z=>id) q.nt,q.ce,q.lo,q.lt,q.nt,q.mv.trans (Mv.of (M:=W) k1) λz=>.inl⟩
def IQ.cell(ok:kb K)(q:IQ X K Z k A env N W aP r s vs){x:Str}{b:Addr}{v:ay}(hk:(jD K.d).names.lookup x=ab .free)(hl:(r5 K Z).lookup x=ab b)(c:s.heap.IsCell b (ab v)):Rd env s.heap x v:=
 .inr ⟨.inr (by rw[q.a.kd];exact hk),b,by rw[q.ce];exact hl,c⟩
def PA{x y:Str}{i j:Nat}{P:Prop}(h:[(x,i)].lookup y=ab j)(k:y=x->j=i->P):P:=by
 rw[cE]at h
 cases q:y==x with
 |true=>rw[q]at h;exact k (ao q) (Option.some.inj h).symm
 |false=>rw[q]at h;exact aN h
def IQ.n(ok:kb K)(q:IQ X K Z k A env N W aP r s vs){j:Nat}(hj:get r j=ab (iT Z.n)):At X k A env {iC K with slots:=K.l++[(s_ "n",j)]} (λb=>N b∨b=aP.heap.objs.size) r s:=
 q.a.plus [(s_ "n",j)] (λx i t h1 h2=>PA h1 λex ei=>by
  rw[ei,hj]at h2
  rw[ex]
  exact q.I.n_.elim λu c=>⟨_,q.cell ok ok.kn.1.1 rfl c,Option.some.inj h2▸.int _ _⟩) rfl
def IQ.asg{sm:Stmt}{x:Str}{i:Nat}{t:T}{v:Xp}(q:IQ X K Z k A env N W aP r s vs)(hW:∀b,b=aP.heap.objs.size->W b∨aP.heap.objs.size<=b)(hx:K.l.lookup x=ab i)(hp:cZ v=true)
  (hv:∀E,aA (model X.prog X.w) A (eval v env) (Res X (λb=>N b∨b=aP.heap.objs.size) s t) E s) (h:∀{s'},IQ X K Z k A env N W aP (put r i t) s' vs->aA (model X.prog X.w) A (bL rest env) Q E s'):
  aA (model X.prog X.w) A (bL (mX sm x v::rest) env) Q E s:=by
 refine i6 (xU (mo (hv _) λval aB z=>?_) (mT hp))
 have q1:=q.kp z.1
 obtain⟨ad,F1⟩:=q1.F
 refine l9 false q1.a F1 hx z.2 ft λs₂ ad2 mv a2 F2=>⟨rfl,h ⟨a2,⟨ad2,F2⟩,q1.I.mv mv (λb w e=>cW (q.lt b w) e) q.nt,q.ce,q.lo,q.lt,q.nt,q1.mv.trans mv λb e=>hW b e⟩⟩
def IQ.call{as:List Xp}{ts:List T}{p pos:Pos}{Q:ay->az->Prop}(ok:kb K)(q:IQ X K Z k A env N W aP r s vs)(hs:as.all notStar=true)(hv:Out X A env (λb=>N b∨b=aP.heap.objs.size) s (.tup ts) .chain as)
  (h:∀{vals s'},IQ X K Z k A env N W aP r s' vs->Kp X s s'->aL X (λb=>N b∨b=aP.heap.objs.size) s'.heap ts vals->aA (model X.prog X.w) A (call (.ref Z.fI) vals) Q E s'):
  aA (model X.prog X.w) A (eval (.Call (.Name (s_ "inner") p) as [] pos) env) Q E s:=
 jx (gC q.a (q.cell ok ok.kn.1.2 rfl q.I.i_) rfl rfl (Bb (o:={cls:=.type "function",data:=.func (ot X K Z)}) (fd:=ot X K Z) (ic (jw env pos hs) (cl hv λvals s' k1 hv'=>⟨⟨(q.kp k1).I.fn,rfl⟩,h (q.kp k1) k1 hv'⟩))))
def IQ.wr(q:IQ X K Z k A env N W aP r s vs)(mv:Mv X (λb=>b=Z.dl) s s')(I:gq X K Z s'.heap j1)(hN:N Z.dl)(hW:W Z.dl)(nd:Z.dl≠Z.cN/\Z.dl≠Z.cI/\Z.dl≠Z.cA):IQ X K Z k A env N W aP r s' j1:=by
 obtain⟨ad,F⟩:=q.F
 have U:=other q.a F mv (λb e=>e▸.inl hN) (λb hb e=>hb.elim (λh=>cW (q.lt _ .dl) (e▸h.trans q.lo)) λh=>h.elim λx hx=>by
  rw[q.ce]at hx
  exact Py hx (λz w=>nd.1 (e.symm.trans w)) (λz w=>nd.2.1 (e.symm.trans w)) λz w=>nd.2.2 (e.symm.trans w)) λb hb e=>cW (q.lt _ .dl) (e.symm.trans hb)
 exact⟨U.1,⟨ad,U.2⟩,I,q.ce,q.lo,q.lt,q.nt,q.mv.trans mv λb e=>.inl (e▸hW)⟩
def gq.nd{h:Heap}(I:gq X K Z h vs):(Z.dl≠Z.cN/\Z.dl≠Z.cI/\Z.dl≠Z.cA)/\Z.dl≠Z.fI:=by
 obtain⟨ws,⟨n,e⟩,_⟩:=I.l_
 have c:∀{b v},h.IsCell b v->Z.dl≠b:=λ{b v}c q=>c.elim λo w=>by
  rw[<-q,e]at w
  cases Option.some.inj w.1
  exact Data.noConfusion (af (λx=>x) w.2)
 exact⟨⟨I.n_.elim λt w=>c w,c I.i_,c I.a_⟩,λq=>by
  have f:=I.fn
  rw[<-q,e]at f
  exact Data.noConfusion (af Obj.data (Option.some.inj f))⟩
end
noncomputable def mi(s:Stmt):Xp:=if h:s.ctorIdx=12 then Stmt.If.elim s h λt z z z=>t else default
noncomputable def i9(s:Stmt)(i:Nat):Stmt:=if h:s.ctorIdx=12 then Stmt.If.elim s h λz b z z=>b.getD i default else default
noncomputable def zK(x:Xp):Xp:=if h:x.ctorIdx=21 then Expr.Subscript.elim x h λy z z=>y else default
noncomputable def uK(x:Xp):Xp:=if h:x.ctorIdx=21 then Expr.Subscript.elim x h λz y z=>y else default
noncomputable def fg(x:Xp):List Xp:=if h:x.ctorIdx=16 then Expr.Call.elim x h λz l z z=>l else default
noncomputable def zL(x:Xp)(n:Str):Xp:=gE x (bY (cQ x) n) (fg x)
noncomputable def b2(i:Nat):Stmt:=(o4 k2.d).getD i default
noncomputable def s2:Stmt:=.Assign [.Subscript (bY (zK (oa (i9 (b2 0) 0))) (s_ "a_digits")) (bY (uK (oa (i9 (b2 0) 0))) (s_ "L")) (oa (i9 (b2 0) 0)).pos] (bY (aT (i9 (b2 0) 0)) (s_ "x")) (i9 (b2 0) 0).pos
noncomputable def c2(i:Nat):Stmt:=.Expr (zL (eI (b2 i)) (s_ "inner")) (b2 i).pos
def adf:o4 k2.d=.If (mi (b2 0)) [s2,.Return ae (i9 (b2 0) 1).pos] [] (b2 0).pos::mX (b2 1) (s_ "mid") (aT (b2 1))::mX (b2 2) (s_ "shift") (aT (b2 2))::mX (b2 3) (s_ "upper") (aT (b2 3))::mX (b2 4) (s_ "lower") (aT (b2 4))::[c2 5,c2 6]:=by kernel_rfl
noncomputable def gG:Sc:={iC k2 with slots:=k2.l++[(s_ "n",7)]}
noncomputable def eT(l r:Nat):Ex:=.cmp .eq (.bin .add (.var l) (.lit (.int 1))) (.var r)
noncomputable def eM(l r:Nat):Ex:=.bin .shr (.bin .add (.var l) (.var r)) (.lit (.int 1))
noncomputable def eS(l m n:Nat):Ex:=.bin .mul (.bin .sub (.var m) (.var l)) (.var n)
noncomputable def eU:Ex:=.bin .shr (.var 0) (.var 4)
noncomputable def eL:Ex:=.bin .bxor (.var 0) (.bin .shl (.var 5) (.var 4))
noncomputable def e3(a b c:Nat):Ex:=.cons (.var a) (.cons (.var b) (.cons (.var c) .nil))
def g2t:Gd (eT 1 2) .a9 gG [mi (b2 0)]:=no_implicit_lambda%(@Mb.get (Gd (eT 1 2) .a9 gG [mi (b2 0)]) (bo (eT 1 2) .a9 gG [mi (b2 0)]) (by kernel_rfl))
def g2m:Gd (eM 1 2) .val gG [aT (b2 1)]:=no_implicit_lambda%(@Mb.get (Gd (eM 1 2) .val gG [aT (b2 1)]) (bo (eM 1 2) .val gG [aT (b2 1)]) (by kernel_rfl))
def g2s:Gd (eS 1 3 7) .val gG [aT (b2 2)]:=no_implicit_lambda%(@Mb.get (Gd (eS 1 3 7) .val gG [aT (b2 2)]) (bo (eS 1 3 7) .val gG [aT (b2 2)]) (by kernel_rfl))
def g2u:Gd eU .val gG [aT (b2 3)]:=no_implicit_lambda%(@Mb.get (Gd eU .val gG [aT (b2 3)]) (bo eU .val gG [aT (b2 3)]) (by kernel_rfl))
def g2l:Gd eL .val gG [aT (b2 4)]:=no_implicit_lambda%(@Mb.get (Gd eL .val gG [aT (b2 4)]) (bo eL .val gG [aT (b2 4)]) (by kernel_rfl))
def g2a:Gd (e3 6 1 3) .chain gG (fg (eI (b2 5))):=no_implicit_lambda%(@Mb.get (Gd (e3 6 1 3) .chain gG (fg (eI (b2 5)))) (bo (e3 6 1 3) .chain gG (fg (eI (b2 5)))) (by kernel_rfl))
def g2b:Gd (e3 5 3 2) .chain gG (fg (eI (b2 6))):=no_implicit_lambda%(@Mb.get (Gd (e3 5 3 2) .chain gG (fg (eI (b2 6)))) (bo (e3 5 3 2) .chain gG (fg (eI (b2 6)))) (by kernel_rfl))
def wN:cZ (aT (b2 1))=true/\cZ (aT (b2 2))=true/\cZ (aT (b2 3))=true/\cZ (aT (b2 4))=true/\(fg (eI (b2 5))).all notStar=true/\(fg (eI (b2 6))).all notStar=true:=⟨by kernel_rfl,by kernel_rfl,by kernel_rfl,by kernel_rfl,by kernel_rfl,by kernel_rfl⟩
section
variable{F:Nat->List T->Option T}{ρ:aE}{l r m n L M x s:Nat}
def PB(h1:get ρ l=ab (iT L))(h2:get ρ r=ab (iT (L+M))):ev F (eT l r) ρ=ab (.bool (decide (M=1))):=by
 show((((get ρ l).bind λx=>a8 .add x (.int 1))).bind λx=>(get ρ r).bind λy=>(qT .eq x y).map T.bool)=_
 rw[h1,h2]
 refine af (λb=>ab (T.bool b)) (xD.mpr ?_)
 rw[ax,decide_eq_true_iff]
 exact⟨λh=>(Nat.add_left_cancel (Int.ofNat.inj h)).symm,λh=>h▸rfl⟩
def r7:a8 .shr (iT x) (iT s)=ab (iT (x/2^s)):=by
 show(if(0:Int)<=(s:Int)then ab (T.int (UT (x:Int) (2^(s:Int).toNat)))else ae)=_
 rw[ah (cy _),G1,wK]
 rfl
def PC(h1:get ρ l=ab (iT L))(h2:get ρ r=ab (iT (L+M))):ev F (eM l r) ρ=ab (iT (L+M/2)):=by
 show(((get ρ l).bind λx=>(get ρ r).bind λy=>a8 .add x y).bind λx=>a8 .shr x (.int 1))=_
 rw[h1,h2]
 show a8 .shr (iT (L+(L+M))) (iT 1)=_
 rw[r7,<-gZ,<-D5,aoR (by decide)]
def PD(h1:get ρ l=ab (iT L))(h2:get ρ m=ab (iT (L+M)))(h3:get ρ n=ab (iT x))(hM:M<=64)(hx:x<=100000):ev F (eS l m n) ρ=ab (iT (x*M)):=by
 show(((get ρ m).bind λx=>(get ρ l).bind λy=>a8 .sub x y).bind λx=>(get ρ n).bind λy=>a8 .mul x y)=_
 rw[h1,h2,h3]
 show(if(bc (((L+M:Nat):Int) - (L:Int)):Int)+bc (x:Int)<=1000000 then ab (T.int ((((L+M:Nat):Int) - (L:Int))*(x:Int)))else ae)=_
 rw[show((L+M:Nat):Int) - (L:Int)=(M:Int)by rw[tJ,vB,qN],UW]
 have b:∀{y:Nat},y<=100000->bc (y:Int)<=17:=λh=>bits_le (bI h (by decide))
 exact ah (dn (dh.mpr (eA (b (aD hM (by decide))) (b hx))) (by decide))
def adn(h1:get ρ 0=ab (iT x))(h2:get ρ 4=ab (iT s)):ev F eU ρ=ab (iT (x/2^s)):=by
 show((get ρ 0).bind λx=>(get ρ 4).bind λy=>a8 .shr x y)=_
 rw[h1,h2]
 exact r7
def PE{y:Nat}(hy:y<2^800000)(hs:s<=100000):a8 .shl (iT y) (iT s)=ab (iT (y*2^s)):=by
 show(if(0:Int)<=(s:Int)/\(bc (y:Int):Int)+(s:Int)<=1000000 then ab (T.int ((y:Int)*(2^(s:Int).toNat)))else ae)=_
 rw[ah ⟨cy _,dn (dh.mpr (eA (bits_le hy) hs)) (by decide)⟩,G1,<-Dt]
 rfl
def ado(h1:get ρ 0=ab (iT x))(h2:get ρ 4=ab (iT s))(h3:get ρ 5=ab (iT (x/2^s)))(hx:x<2^800000)(hs:s<=100000):ev F eL ρ=ab (iT (x%2^s)):=by
 show((get ρ 0).bind λx=>(((get ρ 5).bind λx=>(get ρ 4).bind λy=>a8 .shl x y)).bind λy=>a8 .bxor x y)=_
 rw[h1,h2,h3]
 show((a8 .shl (iT (x/2^s)) (iT s)).bind λy=>a8 .bxor (iT x) y)=_
 rw[PE (bI (yc _ _) hx) hs]
 exact af (λi=>ab (T.int i)) (ac6 x s)
def PF{a b c:Nat}{t u v:T}(h1:get ρ a=ab t)(h2:get ρ b=ab u)(h3:get ρ c=ab v):ev F (e3 a b c) ρ=ab (.tup [t,u,v]):=by
 show((get ρ a).bind λx=>((get ρ b).bind λy=>((get ρ c).bind λz=>(bH (λl=>ab (T.tup (z::l))) (.tup []))).bind (bH λl=>ab (T.tup (y::l)))).bind (bH λl=>ab (T.tup (x::l))))=_
 rw[h1,h2,h3]
 rfl
end
section
variable{X:Kx}{K:Kd}{Z:jG}{k:Nat}{A:aM}{env:Env}{N W:Addr->Prop}{aP s s':az}{r:aE}{vs j1:List Nat}{E:ay->az->Prop}{Q:Flow->az->Prop}{rest:List Stmt}
def At.int{c:Sc}{y:Str}{i:Nat}{a:Int}(h:At X k A env c N r s)(h1:c.slots.lookup y=ab i)(h2:get r i=ab (.int a))(ho:c.own.contains i=false):∃t,Rd env s.heap y (.int a t):=by
 obtain⟨v,r1,r2⟩:=h.vr h1 h2 ho
 exact VR.eR (P:=λv=>Rd env s.heap y v->∃t,Rd env s.heap y (.int a t)) r2 (λt r=>⟨t,r⟩) r1
def adp{x:Nat}{p r':List Nat}{z:Nat}(q:IQ X k2 Z k A env N W aP r s (p++([z]++r')))(e0:get r 0=ab (iT x))(e1:get r 1=ab (iT p.length))(hl:(p++([z]++r')).length<=64)
  (h:∀s',Mv X (λb=>b=Z.dl) s s'->gq X k2 Z s'.heap (p++([x]++r'))->aA (model X.prog X.w) A (bL rest env) Q E s'):aA (model X.prog X.w) A (bL (s2::rest) env) Q E s:=by
 obtain⟨tx,rx⟩:=q.a.int (y:=s_ "x") (i:=0) rfl e0 rfl
 obtain⟨tl,rl⟩:=q.a.int (y:=s_ "L") (i:=1) rfl e1 rfl
 obtain⟨ws,pl,vl⟩:=q.I.l_
 have hw:ws.length=(p++([z]++r')).length:=vl.length.trans (bK ..)
 have hL:p.length<ws.length:=by rw[hw,bQ];exact vx (eP _)
 refine i6 (Ut (gC q.a rx rfl rfl (gC q.a (q.cell mZ mZ.kn.2 rfl q.I.a_) rfl rfl (gC q.a rl rfl rfl ?_))) (mT rfl))
 refine fe (MP pl (cy _) (fu.mpr (bG (hw▸hL) (aD hl (by decide)))) (fu.mpr (by rw[bU];exact hL)) λh' rJ cj zc=>⟨rfl,?_⟩)
 obtain⟨ne,eo⟩:=id pl
 have mv:Mv X (λb=>b=Z.dl) s {s with heap:=h'}:=Mv.put eo (nJ rfl (by decide)) (λb o hb e=>cj.extBut b o hb e) zc
 have kk:∀{b},b≠Z.dl->∀o,s.heap.get? b=ab o->h'.get? b=ab o:=λ{b}hb o e=>cj.extBut b o hb e
 have nd:=q.I.nd
 refine h _ mv ⟨kk nd.2.symm _ q.I.fn,q.I.cq.keep λb o c e=>mv.code b o c e,q.I.n_.imp λt c=>IsCell.keep c (kk nd.1.1.symm),IsCell.keep q.I.a_ (kk nd.1.2.2.symm),IsCell.keep q.I.i_ (kk nd.1.2.1.symm),ws.set p.length (.int (x:Nat) tx),?_,?_⟩
 ·rw[jT,an3]at rJ;exact rJ
 ·have e:intsOf (p++([x]++r'))=(intsOf (p++([z]++r'))).set p.length (iT x):=by
   unfold intsOf
   rw[mE,mE,mE,List.set_append_right _ _ (bO (bK ..)),bK,D6]
   rfl
  rw[e]
  exact(aL.ints vl).set _ (.int _ _)
def PG{m:Nat}(h1:1<=m)(h:m≠1):1<=m/2/\m/2<m/\1<=m - m/2/\m - m/2<m/\m/2+(m - m/2)=m:=
 have h2:2<=m:=aoS h1 λe=>h e.symm
 have a:1<=m/2:=(UD (by decide)).mpr h2
 have b:m/2<m:=aoT h1 (by decide)
 ⟨a,b,UX (eK 1 _▸b),qD h1 a,tI (cT b)⟩
def adq(nt:∀b,IW Z b->b∉aV)(nd:[Z.cN,Z.cI,Z.cA].Nodup):∀(m:Nat){x:Nat}{p q r:List Nat}{A:aM}{N:Addr->Prop}{s:az}{E:ay->az->Prop}{vals:List ay},q.length=m->1<=m->Z.n*m<=100000->x<2^800000->(p++(q++r)).length<=64->RA (m+3) A->Wd X s.heap->NG X N s.heap->N Z.dl->
  gq X k2 Z s.heap (p++(q++r))->aL X N s.heap [iT x,iT p.length,iT (p.length+m)] vals->aA (model X.prog X.w) A (call (.ref Z.fI) vals) (λv s'=>v=.none/\Mv X (λb=>b=Z.dl) s s'/\gq X k2 Z s'.heap (p++(gS Z.n m x++r))) E s:=by
 intro m
 induction m using aoU with
 |ind m ih=>
  intro x p q r A N s E vals hq h1 hn hx hl ra wd ng hN I hv
  refine Pz (W:=λb=>b=Z.dl) mZ I nt nd 4 [ab (iT Z.n)] rfl rfl ra wd ng hv λ{env aB}Q=>?_
  rw[adf]
  refine execs_cons (c8 (J4 (tl (g2t (c9 (k:=m+2)) (Q.n mZ rfl) (PB rfl rfl)) rfl λs₂ k₂=>?_)))
  have Q2:=Q.kp k₂
  have cut:∀{b},b=s.heap.objs.size->b=Z.dl∨s.heap.objs.size<=b:=λe=>.inr (bO e.symm)
  by_cases hm:m=1
  ·subst hm
   rw[show(T.bool (decide (1=1))).truth=true from rfl,ah rfl]
   obtain⟨z,rfl⟩:=aoV.mp hq
   exact adp Q2 rfl rfl hl λaX mv I3=>c8 (wpAny_Return_none ⟨λe=>Flow.noConfusion e,λy=>⟨rfl,Q2.mv.trans mv λy=>.inl,I3⟩⟩)
  ·rw[show(T.bool (decide (m=1))).truth=false from av hm,ai bT]
   have H:=PG h1 hm
   have kL:m<=64:=aD (hq▸(by rw[bQ,bQ];exact aD (bX _ _) (jP _ _))) hl
   have fU:Z.n*(m/2)<=100000:=aD (ko _ (cT H.2.1)) hn
   have G8:Z.n<=100000:=aD (Bh _ h1) hn
   obtain⟨q1,q2,rfl,l1,l2⟩:∃q1 q2,q=q1++q2/\q1.length=m/2/\q2.length=m - m/2:=⟨q.take (m/2),q.drop (m/2),(UY ..).symm,by rw[JM,hq];exact DA (cT H.2.1),by rw[Dz,hq]⟩
   rw[fk]at hl Q2
   refine aQ ⟨λy=>?_,λh=>(h rfl).elim⟩
   refine Q2.asg (λb=>cut) (i:=3) rfl wN.1 (g2m (c9 (k:=m+2)) (Q2.n mZ rfl) (PC rfl rfl)) λ{s3}Q3=>?_
   refine Q3.asg (λb=>cut) (i:=4) rfl wN.2.1 (g2s (c9 (k:=m+2)) (Q3.n mZ rfl) (PD (M:=m/2) rfl rfl rfl (aD (cT H.2.1) kL) G8)) λ{s4}Q4=>?_
   refine Q4.asg (λb=>cut) (i:=5) rfl wN.2.2.1 (g2u (c9 (k:=m+2)) (Q4.n mZ rfl) (adn rfl rfl)) λ{s5}Q5=>?_
   refine Q5.asg (λb=>cut) (i:=6) rfl wN.2.2.2.1 (g2l (c9 (k:=m+2)) (Q5.n mZ rfl) (ado rfl rfl rfl hx fU)) λ{s6}Q6=>?_
   refine i6 (DS (Q6.call mZ wN.2.2.2.2.1 (g2a (c9 (k:=m+2)) (Q6.n mZ rfl) (PF rfl rfl rfl)) λ{v7 s7}Q7 k7 hv7=>mo (ih (m/2) H.2.1 l1 H.1 fU (bI (Nat.mod_le _ _) hx) hl (Q7.a.ra.mono (yd H.2.1 2)) Q7.a.wd Q7.a.ng (.inl hN) Q7.I hv7) λv s8 z8=>⟨rfl,?_⟩) (y3 Q6.a) rfl)
   have Q8:=Q7.wr z8.2.1 z8.2.2 hN rfl Q7.I.nd.1
   rw[<-fk]at Q8
   have lp:(p++gS Z.n (m/2) (x%2^(Z.n*(m/2)))).length=p.length+m/2:=by rw[bQ,G0]
   refine i6 (DS (Q8.call mZ wN.2.2.2.2.2 (g2b (c9 (k:=m+2)) (Q8.n mZ rfl) (PF rfl rfl rfl)) λ{v9 s9}Q9 k9 hv9=>mo (ih (m - m/2) H.2.2.2.1 l2 H.2.2.1 (aD (ko _ (mC _ _)) hn) (bI (yc _ _) hx) ?_ (Q9.a.ra.mono (yd H.2.2.2.1 2)) Q9.a.wd Q9.a.ng (.inl hN) Q9.I (by rw[lp,gZ,H.2.2.2.2];exact hv9)) λv CE zM=>⟨rfl,aQ ?_⟩) (y3 Q8.a) rfl)
   ·rw[bQ,bQ,l1]at hl
    rw[bQ,lp,gZ];exact hl
   ·have PH:=Q9.wr zM.2.1 zM.2.2 hN rfl Q9.I.nd.1
    have PJ:=PH.I
    have e:=ac4 Z.n x H.1 H.2.2.1
    rw[H.2.2.2.2]at e
    rw[fk,<-fk (gS _ _ _),<-e]at PJ
    exact⟨rfl,PH.mv,PJ⟩
end
abbrev r8(K:Kd):Prop:=((wL K.d).defaults=[]/\(wL K.d).kw_defaults=[])/\Ol (.stmts (o4 K.d))=true/\(∀e,annTrees (wL K.d) ae e=[])/\(∀{env:Env}{Z:jG},(env.cells.lookup (s_ "n")=ab Z.cN/\env.cells.lookup (s_ "inner")=ab Z.cI)/\env.cells.lookup K.a=ab Z.cA->oG (jD K.d) env=pure (r5 K Z))
section
variable{K:Kd}(h:r8 K)
def r8.df:=h.1
def r8.doc:=h.2.1
def r8.ann:=h.2.2.1
def r8.zh:= @And.right _ _ h.2.2
end
def adu:(jD k2.d).names=[(s_ "x",.local),(s_ "L",.local),(s_ "R",.local),(s_ "mid",.local),(s_ "shift",.local),(s_ "upper",.local),(s_ "lower",.local),(s_ "a_digits",.free),(s_ "inner",.free),(s_ "n",.free)]:=by kernel_rfl
def adv:(jD k3.d).names=[(s_ "L",.local),(s_ "R",.local),(s_ "mid",.local),(s_ "shift",.local),(s_ "digits",.free),(s_ "inner",.free),(s_ "n",.free)]:=by kernel_rfl
def adw:r8 k2:=⟨⟨by kernel_rfl,by kernel_rfl⟩,by kernel_rfl,λe=>by kernel_rfl,λ{env Z}h=>by
 unfold oG
 rw[adu]
 simp only[xO,xN,show(jm.local==g8)=false from rfl,show(g8==g8)=true from rfl,if_true,pq,if_false,ru h.1.1,ru h.1.2,ru (show env.cells.lookup (s_ "a_digits")=ab Z.cA from h.2)]
 rfl⟩
def adx:r8 k3:=⟨⟨by kernel_rfl,by kernel_rfl⟩,by kernel_rfl,λe=>by kernel_rfl,λ{env Z}h=>by
 unfold oG
 rw[adv]
 simp only[xO,xN,show(jm.local==g8)=false from rfl,show(g8==g8)=true from rfl,if_true,pq,if_false,ru h.1.1,ru h.1.2,ru (show env.cells.lookup (s_ "digits")=ab Z.cA from h.2)]
 rfl⟩
noncomputable def CG(K:Kd):Stmt:=.FunctionDef (s_ "inner") (wL K.d) (o4 K.d) [] ae [] (jD K.d) ae (s_ "inner") K.d.pos
section
variable{X:Kx}{K:Kd}{s:az}{A:aM}{env:Env}{E:ay->az->Prop}{M:mz}{c P:Addr}{dl cN cA cI:Addr}{n:Nat}{Q:Flow->az->Prop}
def PK(ok:r8 K)(hm:(c,P,K.q)∈iD)(wd:Wd X s.heap)(hc:env.code=.ref c)(hg:env.globals=gJ)(hq:UZ env (s_ "inner") (s_ "inner")=K.q)(j9:(env.cells.lookup (s_ "n")=ab cN/\env.cells.lookup (s_ "inner")=ab cI)/\env.cells.lookup K.a=ab cA)
  (h:∀s' fa cv ct,Kp X s s'->s.heap.objs.size<=fa->s'.heap.get? fa=ab {cls:=.type "function",data:=.func (ot X K ⟨fa,dl,cN,cA,cI,n,cv,ct⟩)}->kz s'.heap cv K.q->aA M A (xM env (s_ "inner") (.ref fa)) (λy=>Q .next) E s'):
  aA M A (exec (CG K) env) Q E s:=by
 unfold CG
 rw[exec_def,hq,defaultsOf_eq,ok.df.1,ok.df.2,ok.ann]
 refine aG (lL (aG (dN (aG (aQ (aG (dN (aQ (dN ?_)))))))))
 refine Ge hm wd hc hg (ok.zh (Z:=⟨0,dl,cN,cA,cI,n,.none,.none⟩) j9) ok.doc λs' fa cv ct k1 h1 h2 h3=>?_
 exact aG (lL (aG (wpAny_bindName (mo (h s' fa cv ct k1 h1 h2 h3) λy ck z=>aQ z))))
def wO{h:Heap}{x:Str}{v:ay}{b:Addr}(hk:env.kindOf x=ab .cell)(hb:env.cells.lookup x=ab b)(r:Rd env h x v):h.IsCell b (ab v):=
 r.elim (λq=>jm.noConfusion (Option.some.inj (hk.symm.trans q.1))) λq=>q.2.elim λb' z=>(Option.some.inj (hb.symm.trans z.1))▸z.2
def At.view{k:Nat}{c:Sc}{N N':Addr->Prop}{r r':aE}(a:At X k A env c N r s)(ho:c.own=[])(hN:∀b,N' b->N b)(kT:∀b∈aV,N' b)
  (h:∀x i t,c.slots.lookup x=ab i->get r' i=ab t->∃v,Rd env s.heap x v/\VR X N' s.heap t v):At X k A env c N' r' s:=
 ⟨⟨a.ec.kind,a.ec.names,a.ec.globals,a.ec.builtins,a.ec.vQ,a.ec.ju,a.ec.has,a.ec.dz,a.ec.inj,λx i t h1 h2=>(h x i t h1 h2).imp λv z=>⟨z.1,by rw[ho];exact z.2⟩⟩,a.wd,⟨kT,λb q=>a.ng.lt b (hN b q),λb q=>a.ng.wd b (hN b q)⟩,a.ra⟩
end
noncomputable def i3:Stmt:=st 108 2
noncomputable def r4:Stmt:=st 108 3
noncomputable def PM:Stmt:=.Expr (zL (eI (i9 i3 0)) (s_ "inner")) (i9 i3 0).pos
noncomputable def G9:Stmt:=.Return (ab (bY (me r4) (s_ "a_digits"))) r4.pos
def ady:body 108=mX (st 108 0) (s_ "a_digits") (aT (st 108 0))::CG k2::.If (mi i3) [PM] [] i3.pos::[G9]:=by kernel_rfl
noncomputable def PN:List (Str×Nat):=slots ["a","n","a_digits","inner"]
def PO:(108,PN,2)∈bt:=dZ (i:=20) (by kernel_rfl)
noncomputable def kY:Sc:=⟨(bC 108).scope.names,PN,[]⟩
noncomputable def wQ:Ex:=.bin .mul (.lst (.cons (.lit (.int 0)) .nil)) (.bin .fdiv (.bin .sub (.bin .add (.sm .pC (.var 0) .nil) (.var 1)) (.lit (.int 1))) (.var 1))
noncomputable def Ha:Ex:=.cons (.var 0) (.cons (.lit (.int 0)) (.cons (.prim .len (.cons (.var 2) .nil)) .nil))
def g0o:Gd wQ .own kY [aT (st 108 0)]:=no_implicit_lambda%(@Mb.get (Gd wQ .own kY [aT (st 108 0)]) (bo wQ .own kY [aT (st 108 0)]) (by kernel_rfl))
def g0t:Gd (.var 0) .a9 kY [mi i3]:=no_implicit_lambda%(@Mb.get (Gd (.var 0) .a9 kY [mi i3]) (bo (.var 0) .a9 kY [mi i3]) (by kernel_rfl))
def g0a:Gd Ha .chain kY (fg (eI (i9 i3 0))):=no_implicit_lambda%(@Mb.get (Gd Ha .chain kY (fg (eI (i9 i3 0)))) (bo Ha .chain kY (fg (eI (i9 i3 0)))) (by kernel_rfl))
def PQ:cZ (aT (st 108 0))=true/\(fg (eI (i9 i3 0))).all notStar=true:=⟨by kernel_rfl,by kernel_rfl⟩
def pQ:(((bC 108).qualname++".<locals>."++"inner"=Br/\(bC 108).code=.ref 107)/\(bC 108).scope.names.lookup (s_ "n")=ab .cell/\(bC 108).scope.names.lookup (s_ "inner")=ab .cell)/\(bC 108).scope.names.lookup (s_ "a_digits")=ab .cell:=⟨⟨⟨by kernel_rfl,by kernel_rfl⟩,by kernel_rfl,by kernel_rfl⟩,by kernel_rfl⟩
def adC:((107,103,Br):Addr×Addr×Str)∈iD:=dZ (i:=0) rfl
noncomputable def dr(a n:Nat):Nat:=(bc (a:Int)+n - 1)/n
def PR{x y:Int}(h:y.natAbs<2^100):xy x y=false:=by
 unfold xy
 refine aoW.mpr (.inl (av λq=>?_))
 replace q:(if(y==0)=true then 0 else y.natAbs.log2/30+1)>300:=q
 by_cases e:(y==0)=true
 ·rw[ah e]at q;exact aj q (by decide)
 ·rw[ai e]at q
  have h2:=(Ky λz=>e (ax.mpr (Int.natAbs_eq_zero.mp z))).mpr h
  exact aj q (fL.mpr (Nat.succ_le_of_lt (bI (U0 (cT h2)) (by decide))))
def PS(m:Nat):(bZ m [T.int 0]).flatten=intsOf (bZ m 0):=by
 induction m with
 |zero=>rfl
 |succ m ih=>rw[Tr,al7,ih];rfl
def adD{F:Nat->List T->Option T}{r:aE}{a n:Nat}(h0:get r 0=ab (iT a))(h1:get r 1=ab (iT n))(hn:1<=n)(mj:n<=30000)(hm:dr a n<=64):ev F wQ r=ab (.lst (intsOf (bZ (dr a n) 0))):=by
 show((((((get r 0).bind λx=>iU .pC x []).bind λx=>(get r 1).bind λy=>a8 .add x y).bind λx=>a8 .sub x (.int 1)).bind λx=>(get r 1).bind λy=>a8 .fdiv x y).bind λy=>a8 .mul (.lst [.int 0]) y)=_
 rw[h0,h1]
 show(((if(n:Int)≠0/\xy (((bc (a:Int):Nat):Int)+(n:Int) - 1) (n:Int)=false then ab (T.int (UT (((bc (a:Int):Nat):Int)+(n:Int) - 1) (n:Int)))else ae)).bind λy=>a8 .mul (.lst [.int 0]) y)=_
 have e1:((bc (a:Int):Nat):Int)+(n:Int) - 1=((bc (a:Int)+n - 1:Nat):Int):=(yf (aD hn (jP _ _))).symm
 rw[ah ⟨px (fu.mpr hn),PR (by rw[D4];exact bI mj (by decide))⟩,e1,wK]
 show(if(0:Int)<=((dr a n:Nat):Int)/\2*((dr a n:Nat):Int).toNat<=lim then ab (T.lst (bZ ((dr a n:Nat):Int).toNat [T.int 0]).flatten)else ae)=_
 rw[ah ⟨cy _,by rw[jT];exact aD (ko 2 hm) (by decide)⟩,jT,PS]
def PT{env:Env}{x y z:Str}{a b c:Addr}(inj:∀x y a,env.cells.lookup x=ab a->env.cells.lookup y=ab a->x=y)(hx:env.cells.lookup x=ab a)(hy:env.cells.lookup y=ab b)(hz:env.cells.lookup z=ab c)(h:[x,y,z].Nodup):[a,b,c].Nodup:=by
 have h1:=g9.mp h
 have h2:=g9.mp h1.2
 refine g9.mpr ⟨λq=>h1.1 ?_,g9.mpr ⟨λq=>h2.1 ?_,g9.mpr ⟨gM,.nil⟩⟩⟩
 ·rcases br.mp q with q|q
  ·exact inj x y a hx (q▸hy)▸bk
  ·exact inj x z a hx (b4.mp q▸hz)▸bS _ bk
 ·exact inj y z b hy (b4.mp q▸hz)▸bk
section
variable{X:Kx}{k:Nat}{A:aM}{env:Env}{aH M N:Addr->Prop}{ad:Nat->Addr}{r:aE}{s:az}{E:ay->az->Prop}{Q:Flow->az->Prop}{Z:jG}{m a:Nat}
def adE(h:At X k A env kY N r s)(I:gq X k2 Z s.heap (bZ m 0))(nt:Z.dl∉aV)(h0:get r 0=ab (iT a))(h2:get r 2=ab (.ptr Z.dl))(hm:m<=64):At X k A env kY (λb=>b∈aV) [ab (iT a),ae,ab (.lst (intsOf (bZ m 0))),ae] s:=
 h.view rfl (λb q=>h.ng.tb b q) (λb q=>q) λx i t hx e=>by
  rcases i with _|_|_|_|i
  ·cases e
   exact(h.int hx h0 rfl).elim λu r=>⟨_,r,.int _ _⟩
  ·exact aN e
  ·cases e
   exact⟨_,h.ptr hx h2 rfl,I.l_.elim λws q=>.lst q.1 nt (by show(intsOf _).length<=lim;unfold intsOf;rw[bK,qO];exact aD hm (by decide)) q.2.ints⟩
  ·exact aN e
  ·exact aN e
def adF(h:At X (k+67) A env kY N r s)(F:Fw X env kY aH M N ad r s.heap)(I:gq X k2 Z s.heap (bZ m 0))(nt:∀b,IW Z b->b∉aV)(nd:[Z.cN,Z.cI,Z.cA].Nodup)(h0:get r 0=ab (iT a))(h2:get r 2=ab (.ptr Z.dl))(h3:get r 3=ab (.ptr Z.fI))
  (hN:N Z.dl) (hM:¬M Z.dl) (hf:¬Fr env Z.dl) (hn:Z.n*m<=100000) (ha:a<2^800000) (hm:m<=64) (hz:a=0->m=0) (hp:a≠0->1<=m) (q:∀s',Mv X (λb=>b=Z.dl) s s'->gq X k2 Z s'.heap (gS Z.n m a)->Q (.ret (.ref Z.dl)) s'):
  aA (model X.prog X.w) A (bL (.If (mi i3) [PM] [] i3.pos::[G9]) env) Q E s:=by
 have fin:∀{s':az},At X (k+67) A env kY N r s'->Mv X (λb=>b=Z.dl) s s'->gq X k2 Z s'.heap (gS Z.n m a)->aA (model X.prog X.w) A (bL [G9] env) Q E s':=λ{s'}h' mv I'=>
  c8 (qJ (gC h' (h'.ptr (i:=2) rfl h2 rfl) rfl rfl (q s' mv I')))
 refine execs_cons (c8 (J4 (tl (g0t (c9 (k:=k+67)) h h0) rfl λs₂ k₂=>?_)))
 have a2:=h.kp k₂
 have I2:=I.mv (Mv.of (M:=λy=>False) k₂) (λy y=>id) nt
 by_cases e:a=0
 ·subst e
  have e:=hz rfl
  subst e
  exact aQ ⟨λy=>fin a2 (Mv.of k₂) I2,λh=>(h rfl).elim⟩
 ·rw[show(iT a).truth=true from bne_iff_ne.mpr λz=>e (Int.ofNat.inj z),ah rfl]
  refine c8 (DS (jx (gC a2 (a2.ptr (i:=3) rfl h3 rfl) rfl rfl (Bb (o:={cls:=.type "function",data:=.func (ot X k2 Z)}) (fd:=ot X k2 Z) (ic (jw env _ PQ.2)
   (cl (l:=[iT a,iT 0,iT (intsOf (bZ m 0)).length]) (g0a (c9 (k:=k+67)) (adE a2 I2 (nt _ .dl) h0 h2 hm) rfl) λvals aX fR hv=>⟨⟨(I2.mv (Mv.of (M:=λy=>False) fR) (λy y=>id) nt).fn,rfl⟩,?_⟩))))) (y3 a2) rfl)
  have a3:=a2.kp fR
  have F3:=(F.kp h k₂).kp a2 fR
  have I3:=I2.mv (Mv.of (M:=λy=>False) fR) (λy y=>id) nt
  refine mo (adq nt nd m (p:=[]) (q:=bZ m 0) (r:=[]) qO (hp e) hn ha (by rw[kq];exact qO▸hm) (a3.ra.mono (aD (cR hm 3) (jP _ _))) a3.wd a3.ng hN (by rw[kq];exact I3) (N:=N) ?_) λv aS z=>?_
  ·have e:=show aL X _ aX.heap (intsOf [a,0,(intsOf (bZ m 0)).length]) vals from hv
   rw[show(intsOf (bZ m 0)).length=[].length+m by unfold intsOf;rw[bK,qO];exact(jU m).symm]at e
   exact aL.ints e
  ·have I4:=z.2.2
   rw[kq]at I4
   exact⟨λy=>fin (other a3 F3 z.2.1 (λb e=>e▸hN) (λb w e=>hf (e▸w)) λb w e=>hM (e▸w)).1 ((Mv.of (k₂.trans fR)).trans z.2.1 λy=>.inl) I4,λh=>(h rfl).elim⟩
end
noncomputable def wR:List T->Option T:=a2 λx y=>bp (λa=>bp (λn=>if(0<=a/\1<=n)/\n<=30000/\bc a<=60000/\dr a.toNat n.toNat<=64 then ab (.lst (intsOf (gS n.toNat (dr a.toNat n.toNat) a.toNat)))else ae) y) x
def PU{a n:Nat}(h:bc (a:Int)<=60000)(hn:n<=30000):n*dr a n<=100000:=
 aD (Nat.mul_div_le _ _) (aD (mC _ _) (aD (eA h hn) (by decide)))
def adG{n:Nat}(hn:1<=n):dr 0 n=0:=by
 show(0+n - 1)/n=0
 rw[jU]
 exact Kz (qD hn (by decide))
def adH{a n:Nat}(h:a≠0)(hn:1<=n):1<=dr a n:=by
 refine aoX ?_ hn
 have b:1<=bc (a:Int):=by
  unfold bc
  rw[ai (show¬((a:Int)==0)=true fromλq=>h (Int.ofNat.inj (ao q)))]
  exact cX (dP _)
 rw[eK,U1 b]
 exact bX _ _
section
variable{X:Kx}{k:Nat}
def adI{A:aM}{N:Addr->Prop}{s:az}{E:ay->az->Prop}{a n:Nat}{vals:List ay}(hn:1<=n)(mj:n<=30000)(hb:bc (a:Int)<=60000)(hm:dr a n<=64)(ra:RA (k+68) A)(wd:Wd X s.heap)(ng:NG X N s.heap)(hv:aL X N s.heap [iT a,iT n] vals):
  aA (model X.prog X.w) A (call (.ref 108) vals) (Res X N s (.lst (intsOf (gS n (dr a n) a)))) E s:=by
 refine uj (k:=k+67) 2 (iM PO) ra wd ng hv rfl λ{env aB M fE}c=>?_
 rw[ady]
 have kd:∀{x},(bC 108).scope.names.lookup x=ab .cell->env.kindOf x=ab .cell:=λe=>(c.a.kd _).trans e
 obtain⟨cN,pR⟩:=c.a.ec.has (s_ "n") (.inl (kd pQ.1.2.1))
 obtain⟨cI,pS⟩:=c.a.ec.has (s_ "inner") (.inl (kd pQ.1.2.2))
 obtain⟨cA,pT⟩:=c.a.ec.has (s_ "a_digits") (.inl (kd pQ.2))
 have new:∀{b},aB.heap.objs.size<=b->b∉aV/\¬M b/\¬Fr env b:=λ{b}h=>⟨λq=>bx (c.a.ng.lt b (c.a.ng.tb b q)) h,λq=>bx (c.a.ng.lt b (c.F.mn b q)) h,(n7 c.a c.F h).1⟩
 refine i6 (xU (mo (g0o (c9 (k:=k+67)) c.a (adD (a:=a) (n:=n) rfl rfl hn mj hm) rfl _) λval s₂ z=>?_) (mT PQ.1))
 obtain⟨iZ,vr,dl,rfl,gD,_⟩:=z
 cases vr.inv with| @mk _ ws rK hN2 hz vl=>
 have U2:=rT (P:=λb=>b=dl) c.a c.F iZ λb e=>e▸⟨gD,rK.elim λv e=>bw e⟩
 refine l9 false U2.1 U2.2 (k₀:=2) (t:=.ptr dl) rfl (.ptr dl) ft λaX OC cM a3 F3=>⟨rfl,?_⟩
 refine i6 (PK (n:=n) (dl:=dl) adw adC a3.wd (c.code.trans pQ.1.1.2) a3.ec.globals (by unfold UZ;rw[kd pQ.1.2.2,c.qual];exact pQ.1.1.1) ⟨⟨pR,pS⟩,pT⟩ λaS fI cv ct j3 i5 rU rR=>?_)
 have U4:=rT (P:=λb=>b=fI) a3 F3 j3 λb e=>e▸⟨i5,bw rU⟩
 refine l9 false U4.1 U4.2 (k₀:=3) (t:=.ptr fI) rfl (.ptr fI) ft λdC PV i8 a5 F5=>⟨rfl,?_⟩
 have f1:=aD iZ.size (aD cM.size i5)
 have D:=new gD
 have Fn:=new f1
 obtain⟨tn,rn⟩:=a5.int (y:=s_ "n") (i:=1) (a:=(n:Nat)) rfl rfl rfl
 have I5:gq X k2 ⟨fI,dl,cN,cA,cI,n,cv,ct⟩ dC.heap (bZ (dr a n) 0):=⟨i8.old fI _ Fn.2.1 Fn.1 rU,rR.keep λb o c e=>i8.code b o c e,⟨tn,wO (kd pQ.1.2.1) pR rn⟩,wO (kd pQ.2) pT (a5.ptr (i:=2) rfl rfl rfl),wO (kd pQ.1.2.2) pS (a5.ptr (i:=3) rfl rfl rfl),
  ws,rK.at λo e=>i8.old dl o D.2.1 D.1 (j3.old dl o D.1 (cM.old dl o D.2.1 D.1 e)),vl.ints⟩
 have nt:∀b,IW ⟨fI,dl,cN,cA,cI,n,cv,ct⟩ b->b∉aV:=λb w=>by
  cases w with
  |fI=>exact Fn.1
  |dl=>exact D.1
  |cN=>exact c.a.ec.ju _ _ pR
  |cA=>exact c.a.ec.ju _ _ pT
  |cI=>exact c.a.ec.ju _ _ pS
 refine adF a5 F5 I5 nt (PT c.a.ec.inj pR pS pT (by decide)) rfl rfl rfl (.inl (.inr rfl)) D.2.1 D.2.2 (PU hb mj) (bG (r0 hb) (vC (by decide) (by decide))) hm (λe=>e▸adG hn) (λe=>adH e hn) λnU wa I6=>?_
 have PW:s.heap.objs.size<=dl:=aD c.kp.size gD
 obtain⟨ws',rJ,vl'⟩:=I6.l_
 exact⟨((((Mv.of (M:=λv=>False) (c.kp.trans iZ)).trans cM λd h=>.inr (c.hM d h)).trans ((Mv.of (M:=M) j3).trans i8 λv=>.inl) λd h=>.inr (c.hM d h)).trans wa λd h=>.inr (h▸PW)).kp λv=>id,
  .lst rJ (λq=>bx (ng.lt _ q) PW) (by unfold intsOf;rw[bK,G0];exact aD hm (by decide)) vl'.ints⟩
def adM:dq X (k+68) 108 wR:=λA N s ts vals t E ra wd ng hv e=>by
 refine rb e λx y q ea=>fb ea λi qx eb=>fb eb λj qy ec=>ifs ec λh ez=>?_
 clear e ea eb ec
 subst q;subst qx;subst qy;subst ez
 obtain⟨a,rfl⟩:=Ba h.1.1
 obtain⟨n,rfl⟩:=Ba (dn (by decide) h.1.2)
 exact adI (dh.mp h.1.2) (dh.mp h.2.1) h.2.2.1 h.2.2.2 ra wd ng hv
end
noncomputable def bq(n:Nat)(l:List Nat):Nat:=l.foldr (λd v=>d+2^n*v) 0
def PX(n:Nat)(a b:List Nat):bq n (a++b)=bq n a+2^(n*a.length)*bq n b:=by
 induction a with
 |nil=>show bq n b=0+2^(n*0)*bq n b;rw[jU,KA,KC,Bi]
 |cons d a ih=>
  have e:2^(n*(d::a).length)=2^n*2^(n*a.length):=by rw[<-oJ,List.length_cons,vA,eK]
  show d+2^n*bq n (a++b)=(d+2^n*bq n a)+_
  rw[ih,e,Kv,yg,gZ]
noncomputable def jH(x:Xp):Xp:=if h:x.ctorIdx=2 then Expr.BinOp.elim x h λy z z z=>y else default
noncomputable def uL(x:Xp):Xp:=if h:x.ctorIdx=2 then Expr.BinOp.elim x h λz z y z=>y else default
noncomputable def b3(i:Nat):Stmt:=(o4 k3.d).getD i default
noncomputable def ml:Xp:=me (b3 3)
def adN:o4 k3.d=.If (mi (b3 0)) [.Return (ab (me (i9 (b3 0) 0))) (i9 (b3 0) 0).pos] [] (b3 0).pos::mX (b3 1) (s_ "mid") (aT (b3 1))::mX (b3 2) (s_ "shift") (aT (b3 2))::
 [.Return (ab (.BinOp (.BinOp (zL (jH (jH ml)) (s_ "inner")) .LShift (bY (uL (jH ml)) (s_ "shift")) (jH ml).pos) .Add (zL (uL ml) (s_ "inner")) ml.pos)) (b3 3).pos]:=by kernel_rfl
noncomputable def ij:Sc:={iC k3 with slots:=(k3.l++[(s_ "n",4)])++[(s_ "digits",5)]}
noncomputable def eD:Ex:=.idx (.var 5) (.var 0)
noncomputable def e2(a b:Nat):Ex:=.cons (.var a) (.cons (.var b) .nil)
def g3t:Gd (eT 0 1) .a9 ij [mi (b3 0)]:=no_implicit_lambda%(@Mb.get (Gd (eT 0 1) .a9 ij [mi (b3 0)]) (bo (eT 0 1) .a9 ij [mi (b3 0)]) (by kernel_rfl))
def g3d:Gd eD .val ij [me (i9 (b3 0) 0)]:=no_implicit_lambda%(@Mb.get (Gd eD .val ij [me (i9 (b3 0) 0)]) (bo eD .val ij [me (i9 (b3 0) 0)]) (by kernel_rfl))
def g3m:Gd (eM 0 1) .val ij [aT (b3 1)]:=no_implicit_lambda%(@Mb.get (Gd (eM 0 1) .val ij [aT (b3 1)]) (bo (eM 0 1) .val ij [aT (b3 1)]) (by kernel_rfl))
def g3s:Gd (eS 0 2 4) .val ij [aT (b3 2)]:=no_implicit_lambda%(@Mb.get (Gd (eS 0 2 4) .val ij [aT (b3 2)]) (bo (eS 0 2 4) .val ij [aT (b3 2)]) (by kernel_rfl))
def g3a:Gd (e2 2 1) .chain ij (fg (jH (jH ml))):=no_implicit_lambda%(@Mb.get (Gd (e2 2 1) .chain ij (fg (jH (jH ml)))) (bo (e2 2 1) .chain ij (fg (jH (jH ml)))) (by kernel_rfl))
def g3b:Gd (e2 0 2) .chain ij (fg (uL ml)):=no_implicit_lambda%(@Mb.get (Gd (e2 0 2) .chain ij (fg (uL ml))) (bo (e2 0 2) .chain ij (fg (uL ml))) (by kernel_rfl))
def CH:cZ (aT (b3 1))=true/\cZ (aT (b3 2))=true/\(fg (jH (jH ml))).all notStar=true/\(fg (uL ml)).all notStar=true:=⟨by kernel_rfl,by kernel_rfl,by kernel_rfl,by kernel_rfl⟩
def PY{F:Nat->List T->Option T}{ρ:aE}{a b:Nat}{t u:T}(h1:get ρ a=ab t)(h2:get ρ b=ab u):ev F (e2 a b) ρ=ab (.tup [t,u]):=by
 show((get ρ a).bind λx=>((get ρ b).bind λy=>(bH (λl=>ab (T.tup (y::l))) (.tup []))).bind (bH λl=>ab (T.tup (x::l))))=_
 rw[h1,h2]
 rfl
def adU{F:Nat->List T->Option T}{ρ:aE}{p r:List Nat}{z:Nat}(h1:get ρ 5=ab (.lst (intsOf (p++([z]++r)))))(h2:get ρ 0=ab (iT p.length)):ev F eD ρ=ab (iT z):=by
 show((get ρ 5).bind λx=>(get ρ 0).bind λy=>kC x y)=_
 rw[h1,h2]
 show(f9 (p.length:Int) (intsOf (p++([z]++r))).length).bind ((intsOf (p++([z]++r)))[·]?)=_
 have hl:(intsOf (p++([z]++r))).length=p.length+(1+r.length):=by unfold intsOf;rw[bK,bQ,bQ];rfl
 have e:f9 (p.length:Int) (intsOf (p++([z]++r))).length=ab p.length:=by
  unfold f9
  rw[hl]
  show(if(decide ((0:Int)<=(if(p.length:Int)<0 then(p.length:Int)+((p.length+(1+r.length):Nat):Int)else(p.length:Int)))&&decide ((if(p.length:Int)<0 then(p.length:Int)+((p.length+(1+r.length):Nat):Int)else(p.length:Int))<((p.length+(1+r.length):Nat):Int)))=true then ab (if(p.length:Int)<0 then(p.length:Int)+((p.length+(1+r.length):Nat):Int)else(p.length:Int)).toNat else ae)=_
  rw[ai (lA.mpr (cy _)),ah (ik.mpr ⟨ar (cy _),ar (fu.mpr (vx (U3 (by decide) _)))⟩),jT]
 rw[e]
 show(intsOf (p++([z]++r)))[p.length]?=_
 unfold intsOf
 rw[gL,DT (bj _),D6]
 rfl
section
variable{X:Kx}{Z:jG}{k:Nat}{A:aM}{env:Env}{N W:Addr->Prop}{aP s s':az}{r:aE}{vs:List Nat}{E:ay->az->Prop}
def IQ.d(q:IQ X k3 Z k A env N W aP r s vs)(hN:¬N Z.dl)(h4:get r 4=ab (iT Z.n))(h5:get r 5=ab (.lst (intsOf vs)))(hl:vs.length<=64):At X k A env ij (λb=>N b∨b=aP.heap.objs.size) r s:=
 (q.n wM h4).plus [(s_ "digits",5)] (λx i t h1 h2=>PA h1 λex ei=>by
  rw[ei,h5]at h2
  rw[ex,<-Option.some.inj h2]
  exact⟨_,q.cell wM wM.kn.2 rfl q.I.a_,q.I.l_.elim λws w=>.lst w.1 (λh=>h.elim hN λe=>cW (q.lt _ .dl) e) (by unfold intsOf;rw[bK];exact aD hl (by decide)) w.2.ints⟩) rfl
end
section
variable{X:Kx}{Z:jG}
def adV(nt:∀b,IW Z b->b∉aV)(nd:[Z.cN,Z.cI,Z.cA].Nodup):∀(m:Nat){p q r:List Nat}{A:aM}{N:Addr->Prop}{s:az}{E:ay->az->Prop}{vals:List ay},q.length=m->1<=m->Z.n*m<=100000->bq Z.n q<2^800000->(p++(q++r)).length<=64->RA (m+3) A->Wd X s.heap->NG X N s.heap->¬N Z.dl->
  gq X k3 Z s.heap (p++(q++r))->aL X N s.heap [iT p.length,iT (p.length+m)] vals->aA (model X.prog X.w) A (call (.ref Z.fI) vals) (Res X N s (iT (bq Z.n q))) E s:=by
 intro m
 induction m using aoU with
 |ind m ih=>
  intro p q r A N s E vals hq h1 hn hx hl ra wd ng hN I hv
  refine Pz (W:=λb=>b=s.heap.objs.size) wM I nt nd 2 [ab (iT Z.n),ab (.lst (intsOf (p++(q++r))))] rfl rfl ra wd ng hv λ{env aB}Q=>?_
  rw[adN]
  refine execs_cons (c8 (J4 (tl (g3t (c9 (k:=m+2)) (Q.d hN rfl rfl hl) (PB rfl rfl)) rfl λs₂ k₂=>?_)))
  have Q2:=Q.kp k₂
  have fin:∀{s' ck:az}{r':aE}{v:ay}{y:Nat},IQ X k3 Z (m+2) (A.deeper env) env N (λb=>b=s.heap.objs.size) s r' s' (p++(q++r))->Kp X s' ck->VR X (λb=>N b∨b=s.heap.objs.size) ck.heap (iT y) v->y=bq Z.n q->Res X N s (iT (bq Z.n q)) v ck:=λ{s' ck r' v y}q k h e=>
   ⟨(((Mv.refl (M:=λx=>False) s).trans q.mv λd h=>.inr (bO h.symm)).kp λx=>id).trans k,e▸h.sc rfl⟩
  by_cases hm:m=1
  ·subst hm
   rw[show(T.bool (decide (1=1))).truth=true from rfl,ah rfl]
   obtain⟨z,rfl⟩:=aoV.mp hq
   exact c8 (qJ (vl (g3d (c9 (k:=1+2)) (Q2.d hN rfl rfl hl) (adU rfl rfl)) λv aX fR h=>⟨λe=>Flow.noConfusion e,λx=>fin Q2 fR h (U5 z).symm⟩))
  ·rw[show(T.bool (decide (m=1))).truth=false from av hm,ai bT]
   have H:=PG h1 hm
   have kL:m<=64:=aD (hq▸(by rw[bQ,bQ];exact aD (bX _ _) (jP _ _))) hl
   have fU:Z.n*(m/2)<=100000:=aD (ko _ (cT H.2.1)) hn
   have G8:Z.n<=100000:=aD (Bh _ h1) hn
   obtain⟨q1,q2,rfl,l1,l2⟩:∃q1 q2,q=q1++q2/\q1.length=m/2/\q2.length=m - m/2:=⟨q.take (m/2),q.drop (m/2),(UY ..).symm,by rw[JM,hq];exact DA (cT H.2.1),by rw[Dz,hq]⟩
   have CI:=PX Z.n q1 q2
   rw[l1]at CI
   have x1:bq Z.n q1<2^800000:=bI (CI▸bX _ _) hx
   have x2:bq Z.n q2<2^800000:=bI (CI▸aD (U6 _ (fy _)) (jP _ _)) hx
   have cut:∀b,b=s.heap.objs.size->b=s.heap.objs.size∨s.heap.objs.size<=b:=λb=>.inl
   refine aQ ⟨λx=>?_,λh=>(h rfl).elim⟩
   refine Q2.asg cut (i:=2) rfl CH.1 (g3m (c9 (k:=m+2)) (Q2.d hN rfl rfl hl) (PC rfl rfl)) λ{s3}Q3=>?_
   refine Q3.asg cut (i:=3) rfl CH.2.1 (g3s (c9 (k:=m+2)) (Q3.d hN rfl rfl hl) (PD (M:=m/2) rfl rfl rfl (aD (cT H.2.1) kL) G8)) λ{s4}Q4=>?_
   refine c8 (qJ (JJ (JJ (Q4.call wM CH.2.2.1 (g3a (c9 (k:=m+2)) (Q4.d hN rfl rfl hl) (PY rfl rfl)) λ{v5 s5}Q5 k5 hv5=>?_))))
   have I5:=Q5.I
   have lp:(p++q1).length=p.length+m/2:=by rw[bQ,l1]
   rw[fk q1,<-fk p]at I5
   refine mo (ih (m - m/2) H.2.2.2.1 l2 H.2.2.1 (aD (ko _ (mC _ _)) hn) x2 ?_ (Q5.a.ra.mono (yd H.2.2.2.1 2)) Q5.a.wd Q5.a.ng (λh=>h.elim hN λe=>cW (Q5.lt _ .dl) e) I5 (by rw[lp,gZ,H.2.2.2.2];exact hv5)) λw5 s6 z6=>?_
   ·rw[fk p,<-fk q1];exact hl
   have Q6:=Q5.kp z6.1
   obtain⟨vs,rs,vrs⟩:=Q6.a.vr (y:=s_ "shift") (i:=3) (t:=iT (Z.n*(m/2))) rfl rfl rfl
   refine gC Q6.a rs rfl rfl (mo (BB (o:=.shl) (PE x2 fU) (.of z6.2) (.of vrs) Q6.a.ng) λw6 s7 z7=>?_)
   have Q7:=Q6.kp z7.1.1
   have hw6:=z7.1.2
   refine Q7.call wM CH.2.2.2 (g3b (c9 (k:=m+2)) (Q7.d hN rfl rfl hl) (PY rfl rfl)) λ{v8 s8}Q8 k8 hv8=>?_
   have I8:=Q8.I
   rw[fk q1]at I8
   refine mo (ih (m/2) H.2.1 l1 H.1 fU x1 (by rw[<-fk q1];exact hl) (Q8.a.ra.mono (yd H.2.1 2)) Q8.a.wd Q8.a.ng (λh=>h.elim hN λe=>cW (Q8.lt _ .dl) e) I8 hv8) λw8 s9 z9=>?_
   have Q9:=Q8.kp z9.1
   refine mo (BB (o:=.add) (z:=iT (bq Z.n q2*2^(Z.n*(m/2))+bq Z.n q1)) rfl (.of (hw6.sc rfl)) (.of z9.2) Q9.a.ng) λw9 CE zM=>?_
   exact fin Q9 zM.1.1 zM.1.2 (by rw[CI,g6,eK])
end
noncomputable def CJ(x:Xp):Xp:=if h:x.ctorIdx=5 then Expr.IfExp.elim x h λy z z z=>y else default
noncomputable def zN(x:Xp):Xp:=if h:x.ctorIdx=5 then Expr.IfExp.elim x h λz y z z=>y else default
noncomputable def CK(x:Xp):Xp:=if h:x.ctorIdx=5 then Expr.IfExp.elim x h λz z y z=>y else default
noncomputable def x3:Xp:=me (st 115 1)
def ad0:body 115=CG k3::[.Return (ab (.IfExp (CJ x3) (zL (zN x3) (s_ "inner")) (CK x3) x3.pos)) (st 115 1).pos]:=by kernel_rfl
noncomputable def PZ:List (Str×Nat):=slots ["digits","n","inner"]
def P1:(115,PZ,2)∈bt:=dZ (i:=21) (by kernel_rfl)
noncomputable def pU:Sc:=⟨(bC 115).scope.names,PZ,[]⟩
noncomputable def Hb:Ex:=.cons (.lit (.int 0)) (.cons (.prim .len (.cons (.var 0) .nil)) .nil)
def g1t:Gd (.var 0) .a9 pU [CJ x3]:=no_implicit_lambda%(@Mb.get (Gd (.var 0) .a9 pU [CJ x3]) (bo (.var 0) .a9 pU [CJ x3]) (by kernel_rfl))
def g1a:Gd Hb .chain pU (fg (zN x3)):=no_implicit_lambda%(@Mb.get (Gd Hb .chain pU (fg (zN x3))) (bo Hb .chain pU (fg (zN x3))) (by kernel_rfl))
def g1b:Gd (.lit (.int 0)) .val pU [CK x3]:=no_implicit_lambda%(@Mb.get (Gd (.lit (.int 0)) .val pU [CK x3]) (bo (.lit (.int 0)) .val pU [CK x3]) (by kernel_rfl))
def g1p:(fg (zN x3)).all notStar=true:=by kernel_rfl
def pV:(((bC 115).qualname++".<locals>."++"inner"=Bs/\(bC 115).code=.ref 114)/\(bC 115).scope.names.lookup (s_ "n")=ab .cell/\(bC 115).scope.names.lookup (s_ "inner")=ab .cell)/\(bC 115).scope.names.lookup (s_ "digits")=ab .cell:=⟨⟨⟨by kernel_rfl,by kernel_rfl⟩,by kernel_rfl,by kernel_rfl⟩,by kernel_rfl⟩
def aea:((114,110,Bs):Addr×Addr×Str)∈iD:=dZ (i:=1) rfl
noncomputable def zO(l:List T):Option (List Nat):=l.foldr (λt o=>bp (λi=>if 0<=i then o.map (i.toNat::·)else ae) t) (ab [])
def aeb:∀{l:List T}{ds:List Nat},zO l=ab ds->l=intsOf ds:=by
 intro l
 induction l with
 |nil=>intro ds h;cases h;rfl
 |cons t l ih=>
  intro ds h
  refine fb h λi q h=>gi h λhi h=>map_some h λz e1 e2=>?_
  subst e2;subst q
  rw[ih e1,<-AP hi]
  rfl
noncomputable def mq:List T->Option T:=a2 λx y=>cH (λl=>bp (λn=>(zO l).bind λds=>if(1<=n/\n<=30000)/\n.toNat*ds.length<=100000/\ds.length<=64/\bc ((bq n.toNat ds:Nat):Int)<=800000 then ab (iT (bq n.toNat ds))else ae) y) x
section
variable{X:Kx}{k:Nat}
def aec{A:aM}{N:Addr->Prop}{s:az}{E:ay->az->Prop}{ds:List Nat}{n:Nat}{vals:List ay}(Hc:n*ds.length<=100000)(hm:ds.length<=64)(hb:bc ((bq n ds:Nat):Int)<=800000)(ra:RA (k+68) A)(wd:Wd X s.heap)(ng:NG X N s.heap)(hv:aL X N s.heap [.lst (intsOf ds),iT n] vals):
  aA (model X.prog X.w) A (call (.ref 115) vals) (Res X N s (iT (bq n ds))) E s:=by
 refine uj (k:=k+67) 1 (iM P1) ra wd ng hv rfl λ{env aB M fE}c=>?_
 rw[ad0]
 have kd:∀{x},(bC 115).scope.names.lookup x=ab .cell->env.kindOf x=ab .cell:=λe=>(c.a.kd _).trans e
 obtain⟨cN,pR⟩:=c.a.ec.has (s_ "n") (.inl (kd pV.1.2.1))
 obtain⟨cI,pS⟩:=c.a.ec.has (s_ "inner") (.inl (kd pV.1.2.2))
 obtain⟨cA,pT⟩:=c.a.ec.has (s_ "digits") (.inl (kd pV.2))
 have new:∀{b},aB.heap.objs.size<=b->b∉aV/\¬M b:=λ{b}h=>⟨λq=>bx (c.a.ng.lt b (c.a.ng.tb b q)) h,λq=>bx (c.a.ng.lt b (c.F.mn b q)) h⟩
 refine i6 (PK (n:=n) (dl:=0) adx aea c.a.wd (c.code.trans pV.1.1.2) c.a.ec.globals (by unfold UZ;rw[kd pV.1.2.2,c.qual];exact pV.1.1.1) ⟨⟨pR,pS⟩,pT⟩ λaS fI cv ct j3 i5 rU rR=>?_)
 have U4:=rT (P:=λb=>b=fI) c.a c.F j3 λb e=>e▸⟨i5,bw rU⟩
 refine l9 false U4.1 U4.2 (k₀:=2) (t:=.ptr fI) rfl (.ptr fI) ft λdC PV i8 a5 F5=>⟨rfl,?_⟩
 have Fn:=new i5
 obtain⟨vd,rd,hvd⟩:=a5.vr (y:=s_ "digits") (i:=0) (t:=.lst (intsOf ds)) rfl rfl rfl
 cases hvd.inv with| @mk dl ws pl hN hz vds=>
 obtain⟨tn,rn⟩:=a5.int (y:=s_ "n") (i:=1) (a:=(n:Nat)) rfl rfl rfl
 have I5:gq X k3 ⟨fI,dl,cN,cA,cI,n,cv,ct⟩ dC.heap ds:=⟨i8.old fI _ Fn.2 Fn.1 rU,rR.keep λb o c e=>i8.code b o c e,⟨tn,wO (kd pV.1.2.1) pR rn⟩,wO (kd pV.2) pT rd,wO (kd pV.1.2.2) pS (a5.ptr (i:=2) rfl rfl rfl),ws,pl,vds.ints⟩
 have nt:∀b,IW ⟨fI,dl,cN,cA,cI,n,cv,ct⟩ b->b∉aV:=λb w=>by
  cases w with
  |fI=>exact Fn.1
  |dl=>exactλq=>hN (a5.ng.tb dl q)
  |cN=>exact c.a.ec.ju _ _ pR
  |cA=>exact c.a.ec.ju _ _ pT
  |cI=>exact c.a.ec.ju _ _ pS
 have k5:Kp X s dC:=((Mv.of (M:=λu=>False) (c.kp.trans j3)).trans i8 λd h=>.inr (c.hM d h)).kp λu=>id
 refine c8 (qJ (wpAny_IfExp (tl (g1t (c9 (k:=k+67)) a5 (t:=.lst (intsOf ds)) rfl) rfl λnU k6=>?_)))
 have a6:=a5.kp k6
 have I6:=I5.mv (Mv.of (M:=λu=>False) k6) (λu u=>id) nt
 cases ds with
 |nil=>exact vl (g1b (c9 (k:=k+67)) a6 rfl) λv t5 k7 h=>⟨(k5.trans k6).trans k7,h.sc rfl⟩
 |cons d ds=>
  rw[ah (show(T.lst (intsOf (d::ds))).truth=true from rfl)]
  refine jx (gC a6 (a6.ptr (i:=2) rfl rfl rfl) rfl rfl (Bb (o:={cls:=.type "function",data:=.func (ot X k3 ⟨fI,dl,cN,cA,cI,n,cv,ct⟩)}) (fd:=ot X k3 ⟨fI,dl,cN,cA,cI,n,cv,ct⟩) (ic (jw env _ g1p)
   (cl (l:=[iT 0,iT (intsOf (d::ds)).length]) (g1a (c9 (k:=k+67)) a6 rfl) λvals t5 k7 hv=>?_))))
  have I7:=I6.mv (Mv.of (M:=λu=>False) k7) (λu u=>id) nt
  have a7:=a6.kp k7
  refine⟨⟨I7.fn,rfl⟩,mo (adV nt (PT c.a.ec.inj pR pS pT (by decide)) (d::ds).length (p:=[]) (q:=d::ds) (r:=[]) rfl (cX (dP _)) Hc (r0 hb) (by rw[kq];exact hm) (a7.ra.mono (aD (cR hm 3) (jP _ _))) a7.wd a7.ng hN (by rw[kq];exact I7) ?_) λv CC z=>⟨((k5.trans k6).trans k7).trans z.1,z.2.sc rfl⟩⟩
  rw[show(intsOf (d::ds)).length=[].length+(d::ds).length from(bK ..).trans (jU _).symm]at hv
  exact hv
def aef:dq X (k+68) 115 mq:=λA N s ts vals t E ra wd ng hv e=>by
 refine rb e λx y q ea=>eW ea λl qx eb=>fb eb λj qy ec=>aO ec λds hd ed=>ifs ed λh ez=>?_
 clear e ea eb ec ed
 subst q;subst qx;subst qy;subst ez
 obtain⟨n,rfl⟩:=Ba (dn (by decide) h.1.1)
 cases aeb hd
 exact aec h.2.1 h.2.2.1 h.2.2.2 ra wd ng hv
end
noncomputable def pW(c:List Nat)(b:Nat):List Nat:=if c.length<=b then c++bZ (b - c.length+1) 0 else c
noncomputable def zP(c:List Nat)(b:Nat):List Nat:=(pW c b).set b ((pW c b).getD b 0+1)
structure Ws where
 c:List Nat
 b:Nat
 n:Nat
 nt:Nat
noncomputable def bF:List Nat->Ws->Ws:=List.rec (λw=>w) λx z ih w=>if x=32 then ih ⟨w.c,w.b+1,w.n+1,w.nt⟩else if x=9 then ih ⟨zP w.c w.b,0,w.n+1,w.nt+1⟩else w
noncomputable def m7(d:Nat):T:=.str ⟨#[d]⟩
noncomputable def fV(x0 x1:Option T)(w:Ws)(ch:Option T):aE:=[x0,x1,ab (.str (s_ " ")),ab (.str (s_ "\t")),ab (.lst (intsOf w.c)),ab (iT w.b),ab (iT w.n),ab (iT w.nt),ch]
noncomputable def inc(i:Nat):S:=.asg i (.bin .add (.var i) (.lit (.int 1)))
noncomputable def aeg:Ex:=.bin .add (.var 4) (.bin .mul (.lst (.cons (.lit (.int 0)) .nil)) (.bin .add (.bin .sub (.var 5) (.vL (.var 4))) (.lit (.int 1))))
noncomputable def wA:S:=.bN (.cmp .ge (.var 5) (.vL (.var 4))) (.own 4 aeg) .skip
noncomputable def wS:S:=.yA 4 (.var 5) (.bin .add (.idx (.var 4) (.var 5)) (.lit (.int 1)))
noncomputable def wB:S:=.bN (.cmp .eq (.var 8) (.var 2)) (.seq (inc 6) (inc 5)) (.bN (.cmp .eq (.var 8) (.var 3)) (.seq (inc 6) (.seq (inc 7) (.seq wA (.seq wS (.asg 5 (.lit (.int 0))))))) .brk)
section
variable{F:Nat->List T->Option T}{r r':aE}{a b:S}{e:Ex}
def wU(h:ex F a r=ab (.next,r')):ex F (.seq a b) r=ex F b r':=af (·.bind (mP (ex F b))) h
def ja(h:a9 F e r=ab true):ex F (.bN e a b) r=ex F a r:=af (·.bind λt=>if t=true then ex F a r else ex F b r) h
def gH(h:a9 F e r=ab false):ex F (.bN e a b) r=ex F b r:=af (·.bind λt=>if t=true then ex F a r else ex F b r) h
def ke(l:List Nat):(intsOf l).length=l.length:=bK ..
def ints_app(a b:List Nat):intsOf a++intsOf b=intsOf (a++b):=mE.symm
def ints_set(l:List Nat)(i v:Nat):(intsOf l).set i (iT v)=intsOf (l.set i v):=aoY.symm
def P2{i n:Nat}(h:i<n):f9 (i:Int) n=ab i:=by
 unfold f9
 show(if(decide ((0:Int)<=(if(i:Int)<0 then(i:Int)+(n:Int)else(i:Int)))&&decide ((if(i:Int)<0 then(i:Int)+(n:Int)else(i:Int))<(n:Int)))=true then ab (if(i:Int)<0 then(i:Int)+(n:Int)else(i:Int)).toNat else ae)=_
 rw[ai (lA.mpr (cy _)),ah (ik.mpr ⟨ar (cy _),ar (fu.mpr h)⟩),jT]
def Hd{l:List Nat}{i:Nat}(h:i<l.length):kC (.lst (intsOf l)) (iT i)=ab (iT (l.getD i 0)):=by
 show(f9 (i:Int) (intsOf l).length).bind ((intsOf l)[·]?)=_
 rw[P2 (by rw[ke];exact h)]
 show(intsOf l)[i]?=_
 unfold intsOf
 rw[gL,Uj,iq h];rfl
variable{x0 x1:Option T}{ch:Option T}{w:Ws}
def aeh:ex F wB (fV x0 x1 w (ab (m7 32)))=ab (.next,fV x0 x1 ⟨w.c,w.b+1,w.n+1,w.nt⟩ (ab (m7 32))):=by kernel_rfl
def P4{c d:Nat}(h:c≠d):¬((⟨#[c]⟩:Str)==⟨#[d]⟩)=true:=λe=>h (af (λs:Str=>s.cps.getD 0 0) (ao e))
def aei{d:Nat}(h1:d≠32)(h2:d≠9):ex F wB (fV x0 x1 w (ab (m7 d)))=ab (.brk,fV x0 x1 w (ab (m7 d))):=by
 refine(gH ?_).trans (gH ?_)
 ·exact(af ab (qA.mpr (P4 h1)):ab ((⟨#[d]⟩:Str)==⟨#[32]⟩)=ab false)
 ·exact(af ab (qA.mpr (P4 h2)):ab ((⟨#[d]⟩:Str)==⟨#[9]⟩)=ab false)
def aej(hb:w.b<=1000)(hc:w.c.length<=1001):ex F wA (fV x0 x1 w ch)=ab (.next,fV x0 x1 ⟨pW w.c w.b,w.b,w.n,w.nt⟩ ch):=by
 have e:a9 F (.cmp .ge (.var 5) (.vL (.var 4))) (fV x0 x1 w ch)=ab (decide (w.c.length<=w.b)):=by
  show ab (decide ((w.b:Int)≥((intsOf w.c).length:Nat)))=_
  rw[ke]
  exact af ab (decide_eq_decide.mpr dh)
 unfold wA pW
 by_cases h:w.c.length<=w.b
 ·rw[ja (e.trans (af ab (ar h))),ah h]
  show((a8 .mul (.lst [.int 0]) (.int ((w.b:Int) - ((intsOf w.c).length:Nat)+1))).bind λy=>a8 .add (.lst (intsOf w.c)) y).bind (λt=>if t.obj=true then cb (put (fV x0 x1 w ch) 4 t)else ae)=_
  rw[ke,show(w.b:Int) - (w.c.length:Nat)+1=((w.b - w.c.length+1:Nat):Int)by rw[tJ,yf h];rfl]
  show(((if(0:Int)<=((w.b - w.c.length+1:Nat):Int)/\2*((w.b - w.c.length+1:Nat):Int).toNat<=lim then ab (T.lst (bZ ((w.b - w.c.length+1:Nat):Int).toNat [T.int 0]).flatten)else ae)).bind _).bind _=_
  have z1:w.b - w.c.length+1<=1001:=cX (aD (mC _ _) hb)
  rw[ah ⟨cy _,by rw[jT];exact aD (ko 2 z1) (by decide)⟩,jT,PS]
  show((if(intsOf w.c).length+(intsOf (bZ (w.b - w.c.length+1) 0)).length<=lim then ab (T.lst (intsOf w.c++intsOf (bZ (w.b - w.c.length+1) 0)))else ae)).bind _=_
  rw[ah (by rw[ke,ke,qO];exact aD (eA hc z1) (by decide)),ints_app]
  rfl
 ·rw[gH (e.trans (af ab (av h))),ai h]
  rfl
def aek(h:w.b<w.c.length):ex F wS (fV x0 x1 w ch)=ab (.next,fV x0 x1 ⟨w.c.set w.b (w.c.getD w.b 0+1),w.b,w.n,w.nt⟩ ch):=by
 show((kC (.lst (intsOf w.c)) (iT w.b)).bind λx=>a8 .add x (.int 1)).bind (λy=>if(0:Int)<=(w.b:Int)/\(w.b:Int)<((intsOf w.c).length:Nat)then cb (put (fV x0 x1 w ch) 4 (.lst ((intsOf w.c).set (w.b:Int).toNat y)))else ae)=_
 rw[Hd h]
 show(if(0:Int)<=(w.b:Int)/\(w.b:Int)<((intsOf w.c).length:Nat)then cb (put (fV x0 x1 w ch) 4 (.lst ((intsOf w.c).set (w.b:Int).toNat (iT (w.c.getD w.b 0+1)))))else ae)=_
 rw[ah ⟨cy _,by rw[ke];exact fu.mpr h⟩,jT,ints_set]
 rfl
def P5{c:List Nat}{b:Nat}:b<(pW c b).length/\((pW c b).length<=b+1∨(pW c b).length<=c.length):=by
 unfold pW
 by_cases h:c.length<=b
 ·rw[ah h,bQ,qO,<-gZ,tI h]
  exact⟨il _,.inl (bj _)⟩
 ·rw[ai h]
  exact⟨xC.mp h,.inr (bj _)⟩
def ael(hb:w.b<=1000)(hc:w.c.length<=1001):ex F wB (fV x0 x1 w (ab (m7 9)))=ab (.next,fV x0 x1 ⟨zP w.c w.b,0,w.n+1,w.nt+1⟩ (ab (m7 9))):=
 (gH rfl).trans ((ja rfl).trans ((wU (r':=fV x0 x1 ⟨w.c,w.b,w.n+1,w.nt⟩ (ab (m7 9))) rfl).trans ((wU (r':=fV x0 x1 ⟨w.c,w.b,w.n+1,w.nt+1⟩ (ab (m7 9))) rfl).trans ((wU (aej (w:=⟨w.c,w.b,w.n+1,w.nt+1⟩) hb hc)).trans (wU (aek (w:=⟨pW w.c w.b,w.b,w.n+1,w.nt+1⟩) P5.1))))))
def aem{c:List Nat}{b k:Nat}(h1:b+1<=k)(h2:c.length<=k):(zP c b).length<=k:=by
 unfold zP
 rw[J8]
 exact P5.2.elim (λh=>aD h h1) λh=>aD h h2
noncomputable def fW(F:Nat->List T->Option T)(y:T)(r:aE):Option (Fl×aE):=(ab (put r 8 y)).bind (ex F wB)
def aen:∀(cs:List Nat){w:Ws}{ch:Option T},w.b+cs.length<=1000->w.c.length<=1001->(bF cs w).c.length<=1001/\∃CL,b6 (fW F) (cs.map m7) (fV x0 x1 w ch)=ab (.next,fV x0 x1 (bF cs w) CL):=by
 intro cs
 induction cs with
 |nil=>exactλ{w ch}z h=>⟨h,ch,rfl⟩
 |cons d cs ih=>
  intro w ch hb hc
  have kh:w.b+1+cs.length<=1000:=by rw[gZ,eK 1];exact hb
  show(if d=32 then _ else if d=9 then _ else w:Ws).c.length<=1001/\∃CL,(ex F wB (fV x0 x1 w (ab (m7 d)))).bind (nN (b6 (fW F) (cs.map m7)))=ab (.next,fV x0 x1 (if d=32 then _ else if d=9 then _ else w:Ws) CL)
  by_cases He:d=32
  ·subst He
   rw[aeh,ah rfl]
   exact ih kh hc
  ·rw[ai He]
   by_cases h9:d=9
   ·subst h9
    rw[ael (aD (bX _ _) hb) hc,ah rfl]
    exact ih (w:=⟨zP w.c w.b,0,w.n+1,w.nt+1⟩) (aD (cR (dP _) _) kh) (aem (aD (aD (bX _ _) kh) (by decide)) hc)
   ·rw[aei He h9,ai h9]
    exact⟨hc,_,rfl⟩
noncomputable def wsT(x:Str):T:=.ins 0 [.str x,iT (bF x.cps.toList ⟨[],0,0,0⟩).n,iT (bF x.cps.toList ⟨[],0,0,0⟩).nt,.tup [.tup (intsOf (bF x.cps.toList ⟨[],0,0,0⟩).c),iT (bF x.cps.toList ⟨[],0,0,0⟩).b],.bool (decide ((bF x.cps.toList ⟨[],0,0,0⟩).c.length<=1))]
noncomputable def P6:List T->Option T:=a1 (cG λx=>if x.length<=1000 then ab (wsT x)else ae)
noncomputable def P7:Ex:=.tup (.cons (.prim .tuple1 (.cons (.var 4) .nil)) (.cons (.var 5) .nil))
noncomputable def P8:Ex:=.cmp .le (.prim .len (.cons (.var 4) .nil)) (.lit (.int 1))
def aep:ev F P7 (fV x0 x1 w ch)=ab (.tup [.tup (intsOf w.c),iT w.b]):=rfl
def aeq:ev F P8 (fV x0 x1 w ch)=ab (.bool (decide (w.c.length<=1))):=by
 show ab (T.bool (decide (((intsOf w.c).length:Int)<=1)))=_
 rw[ke]
 exact af (λb=>ab (T.bool b)) (decide_eq_decide.mpr dh)
end
structure WQ(X:Kx)(k:Nat)(A:aM)(env:Env)(c:Sc)(aH M N:Addr->Prop)(ad:Nat->Addr)(r:aE)(s:az)(x dx Cc:Addr)(aP:az)(ns:List Str)(ts:List T)(vs:List ay):Prop where
 m:Mk X k A env c aH M N ad r s x dx Cc ns vs
 acc:Mv X (λz=>False) aP s
 hM:∀b,M b->aP.heap.objs.size<=b
 h0:aH x/\aH dx
 d0:aP.heap.objs.size<=dx
 tb:∀b∈aV,aH b
 vr:aL X (λb=>aH b∨M b) s.heap ts vs
section
variable{X:Kx}{k:Nat}{A:aM}{env:Env}{c c':Sc}{aH M N M' N':Addr->Prop}{ad ad':Nat->Addr}{r r':aE}{s s' aP:az}{E:ay->az->Prop}{Q:Flow->az->Prop}{rest:List Stmt}{x dx Cc:Addr}{ns:List Str}{ts:List T}{vs:List ay}
def WQ.to(q:WQ X k A env c aH M N ad r s x dx Cc aP ns ts vs)(mv:Mv X M s s')(m:∀b,M' b->M b∨s.heap.objs.size<=b)(a:At X k A env c' N' r' s')(F:Fw X env c' aH M' N' ad' r' s'.heap):WQ X k A env c' aH M' N' ad' r' s' x dx Cc aP ns ts vs:=
 ⟨⟨a,F,q.m.I.keep (λo e=>mv.old _ _ (λz=>q.m.F.m0 _ z q.h0.1) q.m.tx e) λo e=>mv.old _ _ (λz=>q.m.F.m0 _ z q.h0.2) q.m.td e,q.m.tx,q.m.td,F.n0 _ q.h0.2,λz=>F.m0 _ z q.h0.2,q.m.hf,q.m.xd⟩,
  q.acc.trans mv λd h=>.inr (q.hM d h),λb h=>(m b h).elim (q.hM b) λz=>aD q.acc.size z,q.h0,q.d0,q.tb,q.vr.move (λb h=>h.elim (λh=>.inl (.inl h)) λh=>(m b h).imp .inr id) (mv.kc (λb h=>.inl (q.tb b h)) λb=>.inr)⟩
def WQ.S{C:Cx}{σ:S}{o':List Nat}{sm:Stmt}(H:Ok C k)(Gp:bR σ c [sm] o')(q:WQ C.X k A env c aH M N ad r s x dx Cc aP ns ts vs)(e:ex C.F σ r=ab (.next,r'))
  (h:∀{s' M' N' ad'},WQ C.X k A env (cB c o') aH M' N' ad' r' s' x dx Cc aP ns ts vs->aA (model C.X.prog C.X.w) A (bL rest env) Q E s'):aA (model C.X.prog C.X.w) A (bL (sm::rest) env) Q E s:=
 zv H Gp q.m.a q.m.F e λmv a F n m=>h (q.to mv m a F)
def WQ.nR{sm:Stmt}{y nm:Str}{i:Nat}{value:Xp}{t:T}(q:WQ X k A env c aH M N ad r s x dx Cc aP ns ts vs)(hv:∀E,aA (model X.prog X.w) A (eval value env) (Res X N s t) E s)(hp:cZ value=true)(hy:c.slots.lookup y=ab i)(hr:get r i=ab (.ptr x))(hn:iV y=true)(ho:c.own.contains i=false)
  (cl:oh X.K Cc nm) (Hc:nm∉ns) (pO:(ns++[nm]).Nodup) (zB:(ns++[nm]).length<=20)
  (h:∀{s' N' v},WQ X k A env c aH M N' ad r s' x dx Cc aP (ns++[nm]) (ts++[t]) (vs++[v])->aA (model X.prog X.w) A (bL rest env) Q E s'):aA (model X.prog X.w) A (bL (jC sm y nm value::rest) env) Q E s:=
 uB (R:=λv aB=>VR X N aB.heap t v) q.m hv hp hy hr hn ho cl (λv hs tk es he=>(rS he).1 Hc) pO zB λ{v aB s' N'}k1 hv mv m n1 n2 n3=>by
  have kc:=mv.kc (N:=λb=>aH b∨M b) (λb h=>.inl (q.tb b h)) λb e=>.inl (e▸q.h0.2)
  exact h ⟨m,(q.acc.trans (Mv.of (M:=λz=>False) k1) λd=>.inl).trans mv λd e=>.inr (e▸q.d0),q.hM,q.h0,q.d0,q.tb,
   ((q.vr.move (λz=>.inl) (k1.kc λb h=>.inl (q.tb b h))).app (.one (hv.mono λb h=>h.elim (m.F.n0 b|>λz=>q.m.F.n0 b) (q.m.F.mn b)))).move (λz=>.inl) kc⟩
def WQ.fz(q:WQ X k A env c aH M N ad r s x dx Cc aP ns ts vs)(ks:List Nat)(h:∀{M' N'},WQ X k A env (cB c (d5 c.own ks)) aH M' N' ad r s x dx Cc aP ns ts vs->aA (model X.prog X.w) A (bL rest env) Q E s):aA (model X.prog X.w) A (bL rest env) Q E s:=by
 obtain⟨M',N',m,n,n0,a',F'⟩:=freeze q.m.a q.m.F ks
 exact h (q.to (.refl s) (λb h=>.inl (m b h)) a' F')
end
noncomputable def Db.isO{P:List Nat->Prop}(x:Db (List Nat) P)(o:List Nat):Bool:=Db.rec (motive:=λz=>Bool) false (λa z=>a==o) x
def Db.is{P:List Nat->Prop}(x:Db (List Nat) P)(o:List Nat)(h:x.isO o=true):P o:=by cases x with|no=>exact ft h|yes a q=>exact ao (show(a==o)=true from h)▸q
noncomputable def forL(s:Stmt):List Stmt:=if h:s.ctorIdx=9 then Stmt.For.elim s h λz z b z z=>b else default
noncomputable def P9:List (Str×Nat):=slots ["self","ws","S","T","count","b","n","nt","ch"]
def aes:(31,P9,2)∈bt:=dZ (i:=22) (by kernel_rfl)
noncomputable def gT:Sc:=⟨(bC 31).scope.names,P9,[]⟩
noncomputable def Qa:List Str:=["raw","n","nt","norm","is_simple"].map s_
noncomputable def sa(i:Nat)(n:String):Stmt:=jC (st 31 i) (s_ "self") (s_ n) (aT (st 31 i))
def b31:body 31=sa 0 "raw"::st 31 1::st 31 2::st 31 3::.For (bY (hY (st 31 4)) (s_ "ch")) (rZ (uE (st 31 4)) (s_ "self") (s_ "raw")) (forL (st 31 4)) [] (st 31 4).pos::sa 5 "n"::sa 6 "nt"::sa 7 "norm"::[sa 8 "is_simple"]:=by kernel_rfl
noncomputable def Qb:S:=.fA [2,3] (.tup (.cons (lS " ") (.cons (lS "\t") .nil)))
noncomputable def Qc:S:=.own 4 (.lst .nil)
noncomputable def Qd:S:=.pE [5,6,7] (.lit (.int 0))
def aeu:bR Qb gT [st 31 1] []:=Db.is (oX Qb gT [st 31 1]) [] (by kernel_rfl)
def aev:bR Qc gT [st 31 2] [4]:=Db.is (oX Qc gT [st 31 2]) [4] (by kernel_rfl)
def aew:bR Qd (cB gT [4]) [st 31 3] [4]:=Db.is (oX Qd (cB gT [4]) [st 31 3]) [4] (by kernel_rfl)
def aex:bR wB (cB gT [4]) (forL (st 31 4)) [4]:=Db.is (oX wB (cB gT [4]) (forL (st 31 4))) [4] (by kernel_rfl)
def wv(e:Ex)(i:Nat)(h:(bo e .val gT [aT (st 31 i)]).ok=true):Gd e .val gT [aT (st 31 i)]:=no_implicit_lambda%(@Mb.get (Gd e .val gT [aT (st 31 i)]) (bo e .val gT [aT (st 31 i)]) h)
def zQ:((bo (.var 1) .val gT [aT (st 31 0)]).ok=true/\(bo (.var 6) .val gT [aT (st 31 5)]).ok=true/\(bo (.var 7) .val gT [aT (st 31 6)]).ok=true)/\(bo P7 .val gT [aT (st 31 7)]).ok=true/\(bo P8 .val gT [aT (st 31 8)]).ok=true:=⟨⟨by kernel_rfl,by kernel_rfl,by kernel_rfl⟩,by kernel_rfl,by kernel_rfl⟩
def zR:(cZ (aT (st 31 0))=true/\cZ (aT (st 31 5))=true/\cZ (aT (st 31 6))=true)/\cZ (aT (st 31 7))=true/\cZ (aT (st 31 8))=true:=⟨⟨by kernel_rfl,by kernel_rfl,by kernel_rfl⟩,by kernel_rfl,by kernel_rfl⟩
def zS(P:dY):((Kw (KK P) 76=true/\dQ (KK P) (.ref 76) "__init__"=ab (ab (.ref 31))/\Bc (KK P) (.ref 31)=ab (.type "function"))/\dQ (KK P) (.ref 76) "__setattr__"=ab (ab (.builtin "object.__setattr__"))/\Ko (KK P) 76=true/\xY (KK P) 76=true/\Qa.all (λn=>decide (Kq (KK P) 76 n=ab ae))=true)/\
 dQ (KK P) (.ref 76) "__getattribute__"=ab (ab (.builtin "object.__getattribute__"))/\dQ (KK P) (.ref 76) (s_ "raw")=ab ae:=⟨⟨⟨by kernel_rfl,by kernel_rfl,by kernel_rfl⟩,by kernel_rfl,by kernel_rfl,by kernel_rfl,by kernel_rfl⟩,by kernel_rfl,by kernel_rfl⟩
def zT{P:dY}{n:Str}{j:Nat}(h:Qa[j]?=ab n):oh (KK P) 76 n:=⟨(zS P).1.2.1,(zS P).1.2.2.1,aq (bA.mp (zS P).1.2.2.2.2 n (dZ h)),(zS P).1.2.2.2.1⟩
section
variable{X:Kx}{k:Nat}
def aey{A:aM}{env:Env}:Turn ⟨X,λz z=>ae⟩ k A env (cB gT [4]) (bY (hY (st 31 4)) (s_ "ch")) (forL (st 31 4)) (fW λz z=>ae):=λ{aH M N ad s y v r p}a F hv hf E=>
 tu (l9 false a F (k₀:=8) rfl hv ft λs' ad' mv a' F'=>mo (aex c9 a' F' (fl:=p.1) (r':=p.2) hf E) λfw aX L=>L.trans mv (λz=>.inl) λz=>.inl)
def aez:dq X (k+2) 76 P6:=λA N s ts vals t E ra wd ng hv e=>by
 refine tR e λx q ea=>hZ ea λx qx eb=>ifs eb λhx ez=>?_
 clear e ea eb
 subst q;subst qx;subst ez
 have H:Ok ⟨X,λz z=>ae⟩ k:=c9
 have W:=zS X.w.params
 refine OQ 7 (iM aes) W.1.1.1 W.1.1.2.1 W.1.1.2.2 rfl ra wd ng hv λ{A' env aB aH M N'}m k0 hN EJ hM h0=>?_
 rw[b31]
 have q1:WQ X k A' env gT aH M N' (λz=>0) (start 7 [.ptr (s.heap.objs.size+1),.str x]) aB (s.heap.objs.size+1) s.heap.objs.size 76 s [] [] []:=⟨m,.of k0,hM,⟨h0 _ (.inr (.inl rfl)),h0 _ (.inr (.inr rfl))⟩,bj _,λb h=>h0 b (.inl (ng.tb b h)),.nil⟩
 refine q1.nR (i:=0) (t:=.str x) (wv _ _ zQ.1.1 H q1.m.a rfl) zR.1.1 rfl rfl rfl rfl (zT (j:=0) rfl) gM (by decide) (by decide) λ{s₂ Pp bD}q2=>?_
 refine q2.S (C:=⟨X,λz z=>ae⟩) H aeu rfl λ{aX Pq Pr acS}q3=>?_
 refine q3.S (C:=⟨X,λz z=>ae⟩) H aev rfl λ{aS Qe GU aqp}q4=>?_
 refine q4.S (C:=⟨X,λz z=>ae⟩) H aew (r':=fV (ab (.ptr (s.heap.objs.size+1))) (ab (.str x)) ⟨[],0,0,0⟩ ae) rfl λ{dC Hf GV aqq}q5=>?_
 have oY:aL X (λb=>aH b∨Hf b) dC.heap [.str x] [bD]:=q5.vr
 cases oY with|cons oY _=>
 refine execs_cons (c8 (J9 (zE q5.m.a (i:=0) (j:=0) rfl rfl rfl rfl q5.m.I rfl rfl ⟨W.2.1,W.1.2.2.2.1,W.2.2⟩ (handed oY) λnU k6=>?_) (vY rfl env)))
 have a6:=q5.m.a.kp k6
 have F6:=q5.m.F.kp q5.m.a k6
 refine mo (Lu a6.ra.handled a6.ng a6.wd.apart (oY.sc rfl) (l:=x.cps.toList.map m7) rfl) λt6 t5 h7=>?_
 obtain⟨k67,I,fp,wr,St,eH,rfl,it,zd,fD,ie⟩:=h7
 obtain⟨j9,CL,GS⟩:=aen (F:=λz z=>ae) (x0:=ab (.ptr (s.heap.objs.size+1))) (x1:=ab (.str x)) x.cps.toList (w:=⟨[],0,0,0⟩) (ch:=ae) (by show 0+x.length<=1000;rw[jU];exact hx) (dP _)
 refine Fy (C:=⟨X,λz z=>ae⟩) (λq=>ft q) aey a6 F6 it zd k67 fD (λb hb hw=>(ie b hb hw).elim id λq=>aN q) GS λfw CC L=>?_
 cases L with| @mk aqr Pt aqs fo mv n0 m8 n8 o=>
 cases fo
 refine⟨λz=>?_,λh=>(h rfl).elim⟩
 refine o.elim ft λU=>?_
 have q8:=q5.to ((Mv.of (M:=Hf) k6).trans mv λz=>.inl) (λb h=>(m8 b h).imp id λh=>aD k6.size h) U.1 U.2
 refine q8.fz [4] λ{aqt aqu}q9=>?_
 refine q9.nR (i:=0) (c:=gT) (wv _ _ zQ.1.2.1 H q9.m.a rfl) zR.1.2.1 rfl rfl rfl rfl (zT (j:=1) rfl) (by decide) (by decide) (by decide) λ{CE N10 v2}B7=>?_
 refine B7.nR (i:=0) (wv _ _ zQ.1.2.2 H B7.m.a rfl) zR.1.2.2 rfl rfl rfl rfl (zT (j:=2) rfl) (by decide) (by decide) (by decide) λ{Qf N11 v3}zk=>?_
 refine zk.nR (i:=0) (wv _ _ zQ.2.1 H zk.m.a aep) zR.2.1 rfl rfl rfl rfl (zT (j:=3) rfl) (by decide) (by decide) (by decide) λ{s12 N12 v4}zm=>?_
 refine zm.nR (i:=0) (wv _ _ zQ.2.2 H zm.m.a aeq) zR.2.2 rfl rfl rfl rfl (zT (j:=4) rfl) (by decide) (by decide) (by decide) λ{zw N13 v5}uv=>?_
 obtain⟨es,n,ed,ee⟩:=uv.m.I.dict
 exact aQ ⟨rfl,uv.acc.kp λz=>id,.ins (c:=0) uv.m.I.obj ed (λq=>bx (ng.lt _ q) (gy _)) (λq=>bx (ng.lt _ q) (bj _)) ee (uv.vr.mono λb h=>.inl (h0 b (.inl h)))⟩
end
section
variable{prog:gK}{w:gY}{A:aM}{E:ay->az->Prop}{s:az}{I:Addr}{fp wr:List Addr}{G:Array my->Array my->Prop}{n:Nat}{P:Nat->ay->Prop}{St:Nat->az->Prop}{T:String}
structure wV(T:String):Prop where
 len:sW (.type T) "__len__"=pure ae
 hint:sW (.type T) "__length_hint__"=pure ae
 list:(ay.type T==ay.type "list")=false
 tuple:(ay.type T==ay.type "tuple")=false
def aeB:wV "map":=⟨by rw[jq,jr];kernel_rfl,by rw[jq,jr];kernel_rfl,by decide,by decide⟩
def aeC:wV "filter":=⟨by rw[jq,jr];kernel_rfl,by rw[jq,jr];kernel_rfl,by decide,by decide⟩
def Qg(hG:wV T)(W:vD prog w A.in1 I fp wr G n P St)(hT:∀i s,St i s->s.TypeIs (.ref I) T)(hI:I∈fp){S:Addr}(hS:S∉fp)(fG:St 0 s){c:Nat}(ho:s.heap.get? S=ab {cls:=.type "list",data:=.seq #[] c})(hn:n<=ph)(res:ay){R:oH->az->Prop}
  (hR:∀s' acc c',qP (S::wr) G s s'->s'.heap.get? S=ab {cls:=.type "list",data:=.seq acc c'}->KD P acc n->R (.ok (.ret res)) s'):
  aA (model prog w) A.in1 (U7 (.ref S) (.ref I) res) (λfin s'=>match fin with|.done f=>R (.ok f) s'|.again c'=>c'.quiet=true/\gN (model prog w) A c' R s') (λe s'=>R (.error e) s') s:=by
 have iX:S≠I:=λe=>hS (e▸hI)
 have ty:=hT 0 s fG
 unfold U7
 refine aG (TO ty ?_)
 rw[show aoZ (.ref S) (.ref I)=false by simp [aoZ,iX]]
 simp only[hG.list,hG.tuple,Bool.or_false,pq,if_false]
 refine aG (W.self 0 _ _ _ fG (aG (dN ?_)))
 unfold ayc
 refine aG (JL ty hG.len ?_)
 refine aG (JL ty hG.hint (aQ ?_))
 refine aG (DH (aG ?_))
 unfold ayd
 refine aG (U8 ho rfl ?_)
 have o2:=xW (lO (·.push ay.none)) ho rfl
 refine U8 o2 rfl ?_
 have o3:=xW (lO (·.pop)) o2 rfl
 have fS:∀b o,b≠S->s.heap.get? b=ab o->((s.heap.update S (lO (·.push ay.none))).update S (lO (·.pop))).get? b=ab o:=
  λb o hb e=>(U9 _ _ (Ne.symm hb)).trans ((U9 _ _ (Ne.symm hb)).trans e)
 have Hg:=W.frame 0 s _ s.toks fG (bj _) λb hb o e=>fS b o (λq=>hS (q▸hb)) e
 refine aQ ⟨D7 PySem.F.plain_extend_loop _,codeAny_extend_loopS W hn _ hS _ n 0 _ _ _ rfl (dP _) Hg o3 (KD.nil P) λs' acc c' hm cj ha=>?_⟩
 refine hR s' acc c' ?_ cj ha
 exact Va W.gtrans ((ao0 W.grefl).then_heap (bj _) λb o hb e=>fS b o (λh=>hb (h▸bk)) e) hm
def aeD(hG:wV T)(W:vD prog w A.in1.in1 I fp wr G n P St)(hT:∀i s,St i s->s.TypeIs (.ref I) T)(hI:I∈fp)(fG:St 0 s)(ie:∀b∈fp,b<s.heap.objs.size)(hn:n<=ph){Q:ay->az->Prop}
  (hQ:∀s' acc c',qP (s.heap.objs.size::wr) G {s with heap:=s.heap.push {cls:=.type "list",data:=.seq #[]}} s'->s'.heap.get? s.heap.objs.size=ab {cls:=.type "list",data:=.seq acc c'}->KD P acc n->Q (.ref s.heap.objs.size) s'):
  aA (model prog w) A (call (.type "list") [.ref I]) Q E s:=by
 have hS:s.heap.objs.size∉fp:=λhm=>fN _ (ie _ hm)
 refine callType_codes (Q₁:=λobj aB=>obj=.ref s.heap.objs.size/\aB={s with heap:=s.heap.push {cls:=.type "list",data:=.seq #[]}}) PySem.F.called_list (PySem.F.typeCall_list_1 _) PySem.F.entry_list_init (code_list_new _ ⟨rfl,rfl⟩) λobj aB bJ=>?_
 obtain⟨rfl,rfl⟩:=bJ
 have o1:(s.heap.push {cls:=.type "list",data:=.seq #[]}).get? s.heap.objs.size=ab {cls:=.type "list",data:=.seq #[]}:=cD _ rfl
 have pX:=W.frame 0 s (s.heap.push {cls:=.type "list",data:=.seq #[]}) s.toks fG (bj _) λb z o e=>cS _ e
 refine⟨⟨_,o1,rfl⟩,PySem.F.args_list_init_2 _ _,?_⟩
 refine aG ?_
 unfold ayn
 refine aG (xV o1 rfl (aQ (aG ?_)))
 refine U8 o1 rfl ?_
 have o2:=xW (lO (λz=>(#[]:Array ay))) o1 rfl
 have fS:∀b o,b≠s.heap.objs.size->(s.heap.push {cls:=.type "list",data:=.seq #[]}).get? b=ab o->((s.heap.push {cls:=.type "list",data:=.seq #[]}).update s.heap.objs.size (lO (λz=>(#[]:Array ay)))).get? b=ab o:=
  λb o hb e=>(U9 _ _ (Ne.symm hb)).trans e
 refine aG (wpAny_letGo ?_)
 have Hg:=W.frame 0 {s with heap:=s.heap.push {cls:=.type "list",data:=.seq #[]}} _ s.toks pX (bj _) λb hb o e=>fS b o (λq=>hS (q▸hb)) e
 refine Qg hG W hT hI hS Hg o2 hn .none λs' acc c' hm cj ha=>?_
 refine⟨rfl,hQ s' acc c' ?_ cj ha⟩
 exact Va W.gtrans ((ao0 W.grefl).then_heap (bj _) λb o hb e=>fS b o (λh=>hb (h▸bk)) e) hm
def aeE(hG:wV T)(W:vD prog w A.in1 I fp wr G n P St)(hT:∀i s,St i s->s.TypeIs (.ref I) T)(hI:I∈fp)(fG:St 0 s)(ie:∀b∈fp,b<s.heap.objs.size)(hn:n<=ph){Q:List ay->az->Prop}
  (hQ:∀s' acc,qP (s.heap.objs.size::wr) G {s with heap:=s.heap.push {cls:=.type "list",data:=.seq #[]}} s'->KD P acc n->Q acc.toList s'):
  aA (model prog w) A (collect (.ref I)) Q E s:=by
 have hS:s.heap.objs.size∉fp:=λhm=>fN _ (ie _ hm)
 unfold collect
 refine aG (wpAny_runValue (yh PySem.F.entry_proto_collect ?_))
 rw[Bj PySem.F.plain_proto_collect _]
 refine aG (sY ?_)
 refine aQ ⟨D7 ao3 _,yh PySem.F.entry_list_iadd ?_⟩
 rw[Bj ao3 _]
 have o1:(s.heap.push {cls:=.type "list",data:=.seq ([]:List ay).toArray}).get? s.heap.objs.size=ab {cls:=.type "list",data:=.seq ([]:List ay).toArray}:=cD _ rfl
 have pX:=W.frame 0 s (s.heap.push {cls:=.type "list",data:=.seq ([]:List ay).toArray}) s.toks fG (bj _) λb z o e=>cS _ e
 show aA _ A.in1 (U7 (.ref s.heap.objs.size) (.ref I) (.ref s.heap.objs.size)) _ _ _
 refine Qg hG W hT hI hS pX o1 hn _ (R:=λr s'=>match r with|.ok (.ret v)=>aA (model prog w) A (match v with|.ref a=>(do match(<-load a).data with|.seq xs _=>pure xs.toList|_=>TN "internal:collect")|_=>TN "internal:collect") Q E s'|.ok _=>False|.error e=>E e s') λs' acc c' hm cj ha=>?_
 refine aG (Tx cj ?_)
 exact aQ (hQ s' acc hm ha)
end
end Mine
section
open PySem PySem.Spec PySem.W PyProof.Rows PySem.Builtin PySem.Builtin.Int PySem.Builtin.Str
namespace Mine
section
variable{prog:gK}{w:gY}{A:aM}{E:ay->az->Prop}{s:az}{I:Addr}{fp wr:List Addr}{G:Array my->Array my->Prop}{n:Nat}{P:Nat->ay->Prop}{St:Nat->az->Prop}{T:String}
def aeF{sep:Str}{t:Tok}{ys:List Str}(hG:wV T)(W:vD prog w A.in1.in1 I fp wr G n P St)(hT:∀i s,St i s->s.TypeIs (.ref I) T)(hI:I∈fp)(fG:St 0 s)(ie:∀b∈fp,b<s.heap.objs.size)(hn:n<=ph)
  (hl:ys.length=n) (hy:∀i v,P i v->∃y u,v=.str y u/\ys[i]?=ab y) (jB:nA sep ys=true) {Q:ay->az->Prop}
  (hQ:∀s' tk u,qP (s.heap.objs.size::wr) G {s with heap:=s.heap.push {cls:=.type "list",data:=.seq #[]}} s'->Q (.str (fi sep ys) u) {s' with toks:=tk}):
  aA (model prog w) A (call (.builtin "str.join") [.str sep t,.ref I]) Q E s:=by
 refine pw (ya DD.plain PySem.F.entry_str_join (DD.check _ _ _ _ _ _ _ _ (sX _ _ _) (PySem.F.args_str_join_2 _ _) ?_))
 rw[join_tree_other]
 refine aG (TO (hT 0 s fG) ?_)
 rw[ai (by rw[hG.list,hG.tuple];decide)]
 refine aG (wpAny_tryCatch (W.of_in1.self 0 s _ _ fG ?_))
 refine aG (aeE hG W hT hI fG ie hn λs' acc hm ha=>?_)
 obtain⟨l,nP⟩:=exists_strValues acc.toList λv hv=>by
  obtain⟨j,hj,rfl⟩:=Array.mem_iff_getElem.mp (Array.mem_toList_iff.mp hv)
  obtain⟨y,u,e,_⟩:=hy j _ (ha.2 j _ (oF hj))
  exact⟨y,u,e⟩
 have pY:l.map (·.1)=ys:=by
  have hlen:l.length=n:=by
   have:=af Bk nP
   rw[<-ha.1];simpa [nC] using this
  apply DV
  intro j
  by_cases hj:j<n
  ·have zU:j<l.length:=hlen▸hj
   have e1:acc[j]?=ab (ay.str l[j].1 l[j].2):=by
    have:(nC l)[j]?=ab (ay.str l[j].1 l[j].2):=by unfold nC;rw[gL,iq zU];rfl
    rw[nP]at this;simpa using this
   obtain⟨y,u,e2,e3⟩:=hy j _ (ha.2 j _ e1)
   cases e2
   rw[e3,gL,iq zU];rfl
  ·rw[vy (by rw[bK,hlen];exact fL.mp hj),vy (hl▸fL.mp hj)]
 rw[<-nP]
 rw[<-pY]at jB hQ
 unfold nA at jB
 rw[DN]at jB
 have g:Gives (joinTail sep (nC l)) (joinMade sep l):=by
  have g0:=gives_joinTail sep l jB
  cases l with
  |nil=>exact g0
  |cons p r=>cases r with
   |nil=>exact g0
   |cons q r'=>exact g0
 exact g prog w A (AZ Q E) s' (post_join l ⟨joinFit_length jB,λu k=>hQ s' k u hm⟩)
end
end Mine
end
namespace Mine.MF
def zV:Slot "map" "__next__" "map.__next__":=
 .of (owner:="map") (n:="__next__") (by rw[jq,jr];kernel_rfl) (by decide+kernel) (by decide+kernel) (by decide+kernel)
  (by first|exact .inl (by decide+kernel)|exact .inr (by decide+kernel)) (by rw[mG];kernel_rfl)
def Qh:tF tG "map.__next__"=ab eN.«map.__next__»:=Be (by kernel_rfl)
def uM:Slot "filter" "__next__" "filter.__next__":=
 .of (owner:="filter") (n:="__next__") (by rw[jq,jr];kernel_rfl) (by decide+kernel) (by decide+kernel) (by decide+kernel)
  (by first|exact .inl (by decide+kernel)|exact .inr (by decide+kernel)) (by rw[mG];kernel_rfl)
def Hh:tF tG "filter.__next__"=ab eN.«filter.__next__»:=Be (by kernel_rfl)
def Qi(a:ay):mH "map.__next__" ⟨[a],[]⟩:=by unfold mH;kernel_rfl
def Qj(a:ay):mH "filter.__next__" ⟨[a],[]⟩:=by unfold mH;kernel_rfl
def aeG:Slot "map" "__init__" "object.__init__":=
 .of (owner:="object") (n:="__init__") (by rw[jq,jr];kernel_rfl) (by decide+kernel) (by decide+kernel) (by decide+kernel)
  (by first|exact .inl (by decide+kernel)|exact .inr (by decide+kernel)) (by rw[mG];kernel_rfl)
def Qk:Slot "map" "__iter__" "map.__iter__":=
 .of (owner:="map") (n:="__iter__") (by rw[jq,jr];kernel_rfl) (by decide+kernel) (by decide+kernel) (by decide+kernel)
  (by first|exact .inl (by decide+kernel)|exact .inr (by decide+kernel)) (by rw[mG];kernel_rfl)
def aeH(a:ay):mH "map.__iter__" ⟨[a],[]⟩:=by unfold mH;kernel_rfl
def aeI:tF tG "map.__iter__"=ab eN.«dict_keyiterator.__iter__»:=
 Vb (id':="dict_keyiterator.__iter__") (by kernel_rfl) (by first|rfl|decide+kernel|(unfold ao5;simp+decide [ao6])) (by decide+kernel) (by kernel_rfl)
def Ql:mroOf (.type "map")=pure [.type "map",.type "object"]:=by rw[mroOf_type];kernel_rfl
def aeJ:sW (.type "map") "__new__"=pure (ab (.builtin "map.__new__")):=by rw[jq,jr];kernel_rfl
def aeK:TypeCalled "map" "map.__new__" "object.__init__":=
 ⟨by decide+kernel,by decide+kernel,⟨_,_,Ql⟩,madeBy_type Ql aeJ (by decide+kernel),by decide+kernel,by rw[mG];kernel_rfl,aeG⟩
def aeL(a b:ay):checkTypeCall "map" ⟨[a,b],[]⟩=pure ():=by kernel_rfl
def aeM(a b:ay):apb "map.__new__" ⟨[.type "map",a,b],[]⟩=pure ():=by kernel_rfl
def aeN:tF tG "map.__new__"=ab eN.«map.__new__»:=Be (by kernel_rfl)
def aeO:Ks (.type "map") (.type "map")=pure true:=by rw[mG];kernel_rfl
def aeP:Slot "filter" "__init__" "object.__init__":=
 .of (owner:="object") (n:="__init__") (by rw[jq,jr];kernel_rfl) (by decide+kernel) (by decide+kernel) (by decide+kernel)
  (by first|exact .inl (by decide+kernel)|exact .inr (by decide+kernel)) (by rw[mG];kernel_rfl)
def Qm:Slot "filter" "__iter__" "filter.__iter__":=
 .of (owner:="filter") (n:="__iter__") (by rw[jq,jr];kernel_rfl) (by decide+kernel) (by decide+kernel) (by decide+kernel)
  (by first|exact .inl (by decide+kernel)|exact .inr (by decide+kernel)) (by rw[mG];kernel_rfl)
def aeQ(a:ay):mH "filter.__iter__" ⟨[a],[]⟩:=by unfold mH;kernel_rfl
def aeR:tF tG "filter.__iter__"=ab eN.«dict_keyiterator.__iter__»:=
 Vb (id':="dict_keyiterator.__iter__") (by kernel_rfl) (by first|rfl|decide+kernel|(unfold ao5;simp+decide [ao6])) (by decide+kernel) (by kernel_rfl)
def Qo:mroOf (.type "filter")=pure [.type "filter",.type "object"]:=by rw[mroOf_type];kernel_rfl
def aeS:sW (.type "filter") "__new__"=pure (ab (.builtin "filter.__new__")):=by rw[jq,jr];kernel_rfl
def aeT:TypeCalled "filter" "filter.__new__" "object.__init__":=
 ⟨by decide+kernel,by decide+kernel,⟨_,_,Qo⟩,madeBy_type Qo aeS (by decide+kernel),by decide+kernel,by rw[mG];kernel_rfl,aeP⟩
def aeU(a b:ay):checkTypeCall "filter" ⟨[a,b],[]⟩=pure ():=by kernel_rfl
def aeV(a b:ay):apb "filter.__new__" ⟨[.type "filter",a,b],[]⟩=pure ():=by kernel_rfl
def aeW:tF tG "filter.__new__"=ab eN.«filter.__new__»:=Be (by kernel_rfl)
def aeX:Ks (.type "filter") (.type "filter")=pure true:=by rw[mG];kernel_rfl
end Mine.MF
namespace Mine
structure ou(h:Heap)(e tp it:Addr)(f:ay):Prop where
 ux:h.get? e=ab {cls:=.type "map",data:=.fields #[.ref tp,f]}
 tup:∃n,h.get? tp=ab {cls:=.type "tuple",data:=.seq #[.ref it] n}
def ou.keep{h h':Heap}{e tp it:Addr}{f:ay}(m:ou h e tp it f)(k1:∀o,h.get? e=ab o->h'.get? e=ab o)(k2:∀o,h.get? tp=ab o->h'.get? tp=ab o):ou h' e tp it f:=
 ⟨k1 _ m.ux,let ⟨n,q⟩:=m.tup;⟨n,k2 _ q⟩⟩
def ou.typeIs{s:az}{e tp it:Addr}{f:ay}(m:ou s.heap e tp it f):s.TypeIs (.ref e) "map":=⟨_,m.ux,rfl⟩
section
variable{prog:gK}{w:gY}{A:aM}{E:ay->az->Prop}{s:az}{e tp it l:Addr}{f:ay}{items:Array ay}{i:Nat}
def aeY{x:ay}{Q:Option ay->az->Prop}(m:ou s.heap e tp it f)(hit:s.heap.IsListIter it l i)(hl:s.heap.IsList l items)(hx:items[i]?=ab x)(he:e≠it)(ht:tp≠it)
  (h:∀h',h'.IsListIter it l (i+1)->tB it s.heap h'->aA (model prog w) A.in1 (call f [x]) (λv s'=>Q (ab v) s') (λy y=>False) {s with heap:=h'}):
  aA (model prog w) A (iQ (.ref e)) Q E s:=by
 unfold iQ
 refine aG (DZ (tC (name:=bP "__next__") m.typeIs MF.zV (tD MF.zV m.typeIs MF.Qh ?_ (MF.Qi _))))
 unfold eN.«map.__next__»
 obtain⟨n,tq⟩:=m.tup
 show aA _ _ (oI (.ref e) 0>>=_) _ _ s
 refine aG (lP m.ux rfl (x:=.ref tp) rfl ?_)
 refine aG (xV tq rfl ?_)
 dsimp only
 rw[<-apc]
 simp only[xO,xN,bind_assoc,pure_bind]
 refine aG (dN (wpAny_nextOf_list_item hit hl hx λh' rM hs=>?_))
 have m':=m.keep (h':=h') (λo q=>hs.extBut e o he q) λo q=>hs.extBut tp o ht q
 refine aG (lP (s:={s with heap:=h'}) m'.ux rfl (x:=f) rfl ?_)
 refine aG (dN (eE (h h' rM hs) (λv s' q=>?_) λy y z=>z.elim))
 refine aG (wpAny_letGo ?_)
 exact aQ ⟨v,rfl,aQ q⟩
def aeZ{Q:Option ay->az->Prop}(hh:A.handled=ae)(m:ou s.heap e tp it f)(hit:s.heap.IsListIter it l i)(hl:s.heap.IsList l items)(hx:items[i]?=ae)(h:∀h',Ki it s.heap h'->Q ae {s with heap:=h'}):
  aA (model prog w) A (iQ (.ref e)) Q E s:=by
 unfold iQ
 refine aG (DZ (tC (name:=bP "__next__") m.typeIs MF.zV (tD MF.zV m.typeIs MF.Qh ?_ (MF.Qi _))))
 unfold eN.«map.__next__»
 obtain⟨n,tq⟩:=m.tup
 show aA _ _ (oI (.ref e) 0>>=_) _ _ s
 refine aG (lP m.ux rfl (x:=.ref tp) rfl ?_)
 refine aG (xV tq rfl ?_)
 dsimp only
 rw[<-apc]
 simp only[xO,xN,bind_assoc,pure_bind]
 refine aG (dN (wpAny_nextOf_list_end (A:=A.in1) hh hit hl hx λh' x k nX=>?_))
 obtain⟨o,ho,hc⟩:=nX
 refine aG (KG (T:="StopIteration") (b:=true) ⟨o,ho,hc⟩ isSubtype_stop ?_)
 exact aQ (h _ k)
def ae0{Q:ay->az->Prop}(m:ou s.heap e tp it f)(h:Q (.ref e) s):aA (model prog w) A (jQ (.ref e)) Q E s:=by
 refine ape m.typeIs MF.Qk (tD MF.Qk m.typeIs MF.aeI ?_ (MF.aeH _))
 show aA _ _ (ret (.ref e)) _ _ s
 exact aQ ⟨_,rfl,"map",_,m.typeIs,MF.zV.lookup,h⟩
def ae1{Pf:Nat->ay->Prop}(hh:A.handled=ae)(he:e≠it)(ht:tp≠it)(hl:l≠it)
  (hf:∀(A':aM)i x(s:az)(Q:ay->az->Prop)(E:ay->az->Prop),items[i]?=ab x->(∀v tk,Pf i v->s.toks<=tk->Q v {s with toks:=tk})->aA (model prog w) A' (call f [x]) Q E s):
  vD prog w A e [e,tp,it,l] [it] (λa b=>b=a) items.size Pf (λi s=>ou s.heap e tp it f/\s.heap.IsListIter it l i/\s.heap.IsList l items) where
 sub:=λb hb=>by simp at hb;simp [hb]
 grefl:=λz=>rfl
 gtrans:=λz z z x y=>y.trans x
 frame:=λi s h' tk st z k=>⟨st.1.keep (λo q=>k e (by simp) o q) λo q=>k tp (by simp) o q,st.2.1.at λo q=>k it (by simp) o q,st.2.2.at λo q=>k l (by simp) o q⟩
 item:=λi s Q E hi st hQ=>by
  obtain⟨m,hit,jI⟩:=st
  refine aeY m hit jI (oF hi) he ht λh' rM hs=>hf _ i _ _ _ _ (oF hi) λv tk hv Hi=>?_
  refine hQ v _ hv ⟨m.keep (λo q=>hs.extBut e o he q) λo q=>hs.extBut tp o ht q,rM,jI.at λo q=>hs.extBut l o hl q⟩ ⟨λb o hb q=>hs.extBut b o (by simpa using hb) q,rfl,rfl,rfl,Hi⟩
 done:=λs Q E st hQ=>by
  obtain⟨m,hit,jI⟩:=st
  exact aeZ hh m hit jI (Uw (bj _)) λh' k=>hQ _ ⟨λb o hb q=>k b o (by simpa using hb) q,rfl,rfl,rfl,bj _⟩
 self:=λi s Q E st h=>ae0 st.1 h
end
section
variable{prog:gK}{w:gY}{A:aM}{E:ay->az->Prop}{s:az}{l:Addr}{f:ay}{items:Array ay}
def ae2(f:ay)(l:Addr)(items:Array ay)(n:Nat):
  DB (eN.«map.__new__» ⟨[.type "map",f,.ref l],[]⟩) (λz R s=>s.heap.get? l=ab {cls:=.type "list",dict:=ae,data:=.seq items n,slots:= #[]}/\
   R (.ok (.ret (.ref ((s.heap.push {cls:=.type "list_iterator",data:=.fields #[.ref l,.int 0 0]}).push {cls:=.type "tuple",data:=.seq #[.ref s.heap.objs.size]}).objs.size)))
    {s with heap:=((s.heap.push {cls:=.type "list_iterator",data:=.fields #[.ref l,.int 0 0]}).push {cls:=.type "tuple",data:=.seq #[.ref s.heap.objs.size]}).push {cls:=.type "map",data:=.fields #[.ref (s.heap.push {cls:=.type "list_iterator",data:=.fields #[.ref l,.int 0 0]}).objs.size,f]}}):=
 .of_wp λprog w A R s h=>by
  obtain⟨hp,g,d,tk,os⟩:=s;obtain⟨hl,h⟩:=h
  have tW:=MF.aeO
  have hL:apf (Ka ⟨hp,g,d,tk,os⟩) l items:=⟨_,hl,rfl,n,rfl⟩
  wp_walk using apg hl,AS hL
  exact⟨_,rfl,h⟩
def ae3{Q:ay->az->Prop}{n:Nat}(hl:s.heap.get? l=ab {cls:=.type "list",dict:=ae,data:=.seq items n,slots:= #[]})
  (h:∀h',ou h' (s.heap.objs.size+2) (s.heap.objs.size+1) s.heap.objs.size f->h'.IsListIter s.heap.objs.size l 0->h'.objs.size=s.heap.objs.size+3->(∀b o,s.heap.get? b=ab o->h'.get? b=ab o)->Q (.ref (s.heap.objs.size+2)) {s with heap:=h'}):
  aA (model prog w) A (call (.type "map") [f,.ref l]) Q E s:=by
 refine JO MF.aeK (by decide) (MF.aeL _ _) (MF.aeM _ _) (λobj=>by unfold mH;kernel_rfl) MF.aeN (ae2 f l items n) ⟨hl,?_⟩
 have z1:(s.heap.push {cls:=.type "list_iterator",data:=.fields #[.ref l,.int 0 0]}).objs.size=s.heap.objs.size+1:=fh ..
 have z2:((s.heap.push {cls:=.type "list_iterator",data:=.fields #[.ref l,.int 0 0]}).push {cls:=.type "tuple",data:=.seq #[.ref s.heap.objs.size]}).objs.size=s.heap.objs.size+2:=by rw[fh,z1]
 rw[z1,z2]
 have g3:=cD ((s.heap.push {cls:=.type "list_iterator",data:=.fields #[.ref l,.int 0 0]}).push {cls:=.type "tuple",data:=.seq #[.ref s.heap.objs.size]}) (o:={cls:=.type "map",data:=.fields #[.ref (s.heap.objs.size+1),f]}) rfl
 rw[z2]at g3
 have g2:=cD (s.heap.push {cls:=.type "list_iterator",data:=.fields #[.ref l,.int 0 0]}) (o:={cls:=.type "tuple",data:=.seq #[.ref s.heap.objs.size]}) rfl
 rw[z1]at g2
 have g1:=cD s.heap (o:={cls:=.type "list_iterator",data:=.fields #[.ref l,.int 0 0]}) rfl
 refine⟨⟨_,g3,rfl⟩,h _ ⟨g3,0,cS _ g2⟩ ⟨_,cS _ (cS _ g1),rfl,rfl⟩ (by rw[fh,z2]) λb o x=>cS _ (cS _ (cS _ x))⟩
end
def ae4:findCls [] (.type "str") (.type "type") (s_ "capitalize")=ab (.val (.builtin "str.capitalize")):=by kernel_rfl
def ae5{prog:gK}{w:gY}{A:aM}{E:ay->az->Prop}{s:az}{Q:ay->az->Prop}(h:Q (.builtin "str.capitalize") {s with toks:=s.toks+1}):
  aA (model prog w) A (sU (.type "str") (s_ "capitalize") true) Q E s:=by
 have K0:DX ([]:Frag) s.heap:=λa o e=>aN e
 have L0:qM (model prog w) s.heap (typeOf (.type "str")) (.type "type"):=DY rfl
 have LO:qM (model prog w) s.heap (opaqueClassAbove (.type "str")) ae:=DY rfl
 refine cls_open K0 LO L0 type_tga (looks_hook K0 (r:=ae) rfl) rfl ae4 (aQ ?_)
 show aA _ _ (handedOut _) _ _ _
 rw[handedOut_of rfl]
 exact aQ h
def ae6{prog:gK}{w:gY}{A:aM}{E:ay->az->Prop}{s:az}{x:Str}{t:Tok}{Q:ay->az->Prop}(B0:amW (Vc x).length=false)
  (h:∀t' k,s.toks<=k->Q (.str (yj x) t') {s with toks:=k}):aA (model prog w) A (call (.builtin "str.capitalize") [.str x t]) Q E s:=by
 refine call_gives PySem.F.slot_str_capitalize (sX _ _ _) PySem.F.entry_str_capitalize (PySem.F.args_str_capitalize_1 _) (gives_str_capitalize x t B0) ?_
 unfold yj at h
 split
 ·rename_i q
  rw[ah q]at h
  exact h _ _ (bj _)
 ·rename_i q
  rw[ai q]at h
  exact⟨fit_le B0,h _ _ (gy _)⟩
def ae7{s:az}{v0 v1:ay}{o:Obj}{n:Nat}(ho:s.heap.get? 130=ab o)(hs:o.data=.seq #[.none] n):BindsTo s (bC 137) ⟨[v0,v1],[]⟩ [(s_ "s",v0),(s_ "sep",v1)]:=BindsTo.of_defaults (T:=130) (by kernel_rfl) ho hs rfl (by kernel_rfl)
noncomputable def m9(ys:List Str):List Str:=ys.map yj
def ae8{l:List T}:∀{ys:List Str},hH l=ab ys->ys.length=l.length:=by
 induction l with
 |nil=>intro ys h;cases h;rfl
 |cons t l ih=>intro ys h;exact hZ h λz q h=>map_some h λms e1 e=>e▸af (· +1) (ih e1)
section
variable{X:Kx}{N:Addr->Prop}{A:aM}{s s':az}{E:ay->az->Prop}
def Qp{G:Array my->Array my->Prop}{aB:az}{o:Obj}{wr:List Addr}{tk:Nat}(k:Kp X s aB)(m:qP (aB.heap.objs.size::wr) G {aB with heap:=aB.heap.push o} s')(hG:G aB.gens s'.gens->nL aB.gens s'.gens)(z:aB.heap.objs.size<=s'.heap.objs.size)(hw:∀b∈wr,s.heap.objs.size<=b)
  (hc:∀b∈wr,∀o,aB.heap.get? b=ab o->¬iB o):Kp X s {s' with toks:=tk}:=by
 have old:∀b o,b∉wr->aB.heap.get? b=ab o->s'.heap.get? b=ab o:=λb o' hb e=>m.heap b o' (λq=>(br.mp q).elim (λq=>aj (bw e) (q▸fN _)) hb) (cS _ e)
 have mv:Mv X (λb=>b∈wr) aB {s' with toks:=tk}:=⟨λb o hb y e=>old b o hb e,z,yn λb o t e=>old b o (λq=>hc b q o e t) e,m.os,hG m.gens,λb o c e=>old b o (λq=>hc b q o e (Ee c)) e⟩
 exact((Mv.of (M:=λy=>False) k).trans mv λb h=>.inr (hw b h)).kp λy=>id
def ae9{l:List T}{ys:List Str}{la:Addr}{nc:List ay}{sep:Str}{t:Tok}(ra:A.handled=ae)(hl:s.heap.PlainList la nc.toArray)(hs:aL X N s.heap l nc)(pY:hH l=ab ys)(nP:l.length<=lim)(afa:ys.all (λz=>!Builtin.Str.tooLong (Vc z).length)=true)(hj:nA sep (m9 ys)=true){Q:ay->az->Prop}
  (h:∀s' u,Kp X s s'->Q (.str (fi sep (m9 ys)) u) s'):
  aA (model X.prog X.w) A (call (.type "map") [.builtin "str.capitalize",.ref la]) (λv aB=>aA (model X.prog X.w) A (call (.builtin "str.join") [.str sep t,v]) Q E aB) E s:=by
 obtain⟨ln,uN⟩:=id hl
 have hit:=bw uN
 refine ae3 uN λh' hM hI hz uO=>?_
 have k1:Kp X s {s with heap:=h'}:=Kp.of uO (by rw[hz];exact bX _ _)
 obtain⟨qs,Hj,Qq⟩:=yI pY hs
 have hlen:nc.toArray.size=ys.length:=by rw[bU,hs.length,ae8 pY]
 have W:vD X.prog X.w A.in1.in1 (s.heap.objs.size+2) [s.heap.objs.size+2,s.heap.objs.size+1,s.heap.objs.size,la] [s.heap.objs.size] (λa b=>b=a) nc.toArray.size (λi v=>∃y u,v=.str y u/\(m9 ys)[i]?=ab y)
   (λi s'=>ou s'.heap (s.heap.objs.size+2) (s.heap.objs.size+1) s.heap.objs.size (.builtin "str.capitalize")/\s'.heap.IsListIter s.heap.objs.size la i/\s'.heap.IsList la nc.toArray):=by
  refine ae1 ra (iS (vx (by decide))) (iS (il _)) (cW hit) λA'' i v s' Q E hv hQ=>?_
  rw[vf,Hj]at hv
  unfold nC at hv
  rw[gL]at hv
  refine map_some hv λq e1 e=>?_
  have e2:ys[i]?=ab q.1:=by rw[<-Qq,gL,e1];rfl
  rw[<-e]
  exact ae6 ((DN _).mp (bA.mp afa q.1 (dZ e2))) λt' k hk=>hQ _ k ⟨_,_,rfl,by unfold m9;rw[gL,e2];rfl⟩ hk
 refine fe (aeF (ys:=m9 ys) aeB W (λi s h=>h.1.typeIs) bk ⟨hM,hI,⟨_,uO _ _ uN,rfl,_,rfl⟩⟩ (λb hb=>?_) (by rw[bU,hs.length];exact dS nP) (by rw[hlen];exact bK ..) (λi v h=>h) hj λnU tk u hm yQ=>?_)
 ·rw[hz]
  have e:=br.mp hb
  refine e.elim (λe=>e▸il _) λe=>(br.mp e).elim (λe=>e▸yk (by decide) _) λe=>(br.mp e).elim (λe=>e▸vx (by decide)) λe=>b4.mp e▸Vd 3 hit
 ·refine h _ u (Qp k1 hm (λe=>e▸.refl _) yQ (λb hb=>bO (b4.mp hb).symm) λb hb o e=>?_)
  rw[b4.mp hb]at e
  obtain⟨o',e1,e2,_⟩:=hI
  exact Option.some.inj (e1.symm.trans e)▸nJ e2 (by decide)
end
noncomputable def x6:Xp:=me (st 137 0)
noncomputable def m6:Xp:=de x6 0
def afc:body 137=[.Return (ab (gE x6 (.Attribute (kU (cQ x6)) (s_ "join") (cQ x6).pos) [gE m6 (bY (cQ m6) (s_ "map")) [rZ (de m6 0) (s_ "str") (s_ "capitalize"),de m6 1]])) (st 137 0).pos]:=by kernel_rfl
noncomputable def zW:List (Str×Nat):=slots ["s","sep"]
noncomputable def uP:Sc:=⟨(bC 137).scope.names,zW,[]⟩
noncomputable def CM:Ex:=.vK (.var 1) (lS " ")
noncomputable def Hk:Ex:=.sm .split1 (.var 0) (.cons (.var 1) .nil)
def g6o:Gd CM .val uP [kU (cQ x6)]:=no_implicit_lambda%(@Mb.get (Gd CM .val uP [kU (cQ x6)]) (bo CM .val uP [kU (cQ x6)]) (by kernel_rfl))
def g6s:Gd Hk .val uP [de m6 1]:=no_implicit_lambda%(@Mb.get (Gd Hk .val uP [de m6 1]) (bo Hk .val uP [de m6 1]) (by kernel_rfl))
def CN:isCall (kU (cQ x6))=false/\(cQ x6).pos.endLine=x6.pos.line/\notStar (de m6 1)=true:=⟨by kernel_rfl,by kernel_rfl,by kernel_rfl⟩
def Qr(P:dY):(KK P).lookup 137=ab {cls:=.type "function",data:=.func (bC 137)}/\(KK P).lookup 130=ab {cls:=.type "tuple",data:=.seq #[.none]}/\codeOf (KK P) (bC 137)=ab (bC 137).qualname:=⟨by kernel_rfl,by kernel_rfl,by kernel_rfl⟩
def uQ:(bC 137).closure=[]/\GW (bC 137).scope.names zW (rP zW 2)=true/\(bC 137).scope.names.all (λp=>p.2 !=.cell&&p.2 !=.free)=true:=⟨by kernel_rfl,by kernel_rfl,by kernel_rfl⟩
def zX:(d4 (s_ "map")=ab (.type "map")/\(bC 137).scope.names.lookup (s_ "map")=ab .globalImplicit)/\d4 (s_ "str")=ab (.type "str")/\(bC 137).scope.names.lookup (s_ "str")=ab .globalImplicit:=⟨⟨by kernel_rfl,by kernel_rfl⟩,by kernel_rfl,by kernel_rfl⟩
def aff:GX (bC 137) (body 137) zW (rP zW 2):=⟨by kernel_rfl,by kernel_rfl,by kernel_rfl,by kernel_rfl,by kernel_rfl,by kernel_rfl,Pu uQ.2.1⟩
def afg(h:Heap):GY h (bC 137):=by
 refine⟨λx a e=>?_,λx y a e=>?_,λx e=>e.elim (λe=>?_) λe=>?_⟩
 ·rw[uQ.1]at e;exact aN e
 ·rw[uQ.1]at e;exact aN e
 ·exact band (bA.mp uQ.2.2 _ (lookup_mem e)) λq z=>ft q
 ·exact band (bA.mp uQ.2.2 _ (lookup_mem e)) λz q=>ft q
noncomputable def CO(x y:Str):Option T:=(iU .split1 (.str x) [.str y]).bind (cH λl=>(hH l).bind λys=>if(l.length<=lim/\ys.all (λz=>!Builtin.Str.tooLong (Vc z).length)=true)/\nA y (m9 ys)=true/\(fi y (m9 ys)).length<=lim then ab (.str (fi y (m9 ys)))else ae)
noncomputable def Qs:List T->Option T:=a2 λx y=>cG (λx=>cG (λy=>if(y.length !=0)=true then CO x y else ae) y) x
section
variable{X:Kx}{k:Nat}
def afh{A:aM}{N:Addr->Prop}{s:az}{E:ay->az->Prop}{x y:Str}{t:T}{vals:List ay}(hy:(y.length !=0)=true)(e:CO x y=ab t)(ra:RA (k+1) A)(wd:Wd X s.heap)(ng:NG X N s.heap)(hv:aL X N s.heap [.str x,.str y] vals):aA (model X.prog X.w) A (call (.ref 137) vals) (Res X N s t) E s:=by
 refine aO e λu hu e=>eW e λl ql e=>aO e λys pY e=>ifs e λhg et=>?_
 subst ql;subst et
 have K:=Qr X.w.params
 obtain⟨cd,oc,OJ,ct,iE,nK,lT,hq⟩:=Oc K.2.2
 obtain⟨v0,v1,rfl⟩:∃v0 v1,vals=[v0,v1]:=hv.Ei λv w r r=>⟨v,w,rfl⟩
 refine Pw 0 aff (afg _) ra wd ng (wd.K _ _ K.1) ⟨cd,oc,OJ,ct,iE,wd.K _ _ nK,lT,hq⟩ hv rfl (ae7 (wd.K _ _ K.2.1) rfl) λ{env aB}c=>?_
 rw[afc]
 have a1:At X k (A.deeper env) env uP (λb=>N b∨b=s.heap.objs.size) (start 0 [.str x,.str y]) aB:=c.a
 have eO:ev (λr r=>ae) CM (start 0 [.str x,.str y])=ab (.str y):=by
  show(if(y.length !=0)=true then ab (T.str y)else ab (T.str (s_ " ")))=_
  exact ah hy
 refine c8 (qJ (vU CN.1 CN.2.1 (by show 1<20;decide) rfl (vl (g6o (c9 (k:=k)) a1 eO) λov s₂ k2 hy'=>?_)))
 obtain⟨ty,rfl⟩:∃t,ov=ay.str y t:=VR.c6 (P:=λv=>∃t,v=ay.str y t) hy' λt r=>⟨t,rfl⟩
 have a2:=a1.kp k2
 refine DE (sX _ _ _) T2 DD T5 (λr e=>nomatch e) ?_
 have hp:=jw env x6.pos (es:=[gE m6 (bY (cQ m6) (s_ "map")) [rZ (de m6 0) (s_ "str") (s_ "capitalize"),de m6 1]]) rfl
 refine xK hp (ic hp ?_)
 rw[j2 rfl]
 refine eX (jx (jv a2 zX.1.1 zX.1.2 rfl ?_))
 have pN:=jw env m6.pos (es:=[rZ (de m6 0) (s_ "str") (s_ "capitalize"),de m6 1]) (by rw[Bl,Bl,CN.2.2];rfl)
 refine qE pN (ic pN ?_)
 rw[yJ rfl CN.2.2]
 refine eX (BK rfl (jv a2 zX.2.1 zX.2.2 rfl (ae5 ?_)))
 refine eX (vl (g6s (c9 (k:=k)) (a2.kp Kp.tok) hu) λlv aS k4 hl=>gb ?_)
 refine VR.eQ (P:=λlv=>aA _ _ (call (.type "map") [.builtin "str.capitalize",lv]) _ _ _) hl λla nc nS r r hs=>mo (ae9 a2.ra.handled nS hs pY hg.1.1 hg.1.2 hg.2.1 (t:=ty) (Q:=Res X N s (.str (fi y (m9 ys)))) λs' u k=>⟨(((c.kp.trans k2).trans Kp.tok).trans k4).trans k,.str _ _ hg.2.2⟩) λv dC z=>gb z
def afj:dq X (k+1) 137 Qs:=λA N s ts vals t E ra wd ng hv e=>by
 refine rb e λx y q ea=>hZ ea λx qx eb=>hZ eb λy qy ec=>gi ec λh ez=>?_
 clear e ea eb ec
 subst q;subst qx;subst qy
 exact afh h ez ra wd ng hv
end
def zY(h:Heap)(e it:Addr)(f:ay):Prop:=h.get? e=ab {cls:=.type "filter",data:=.fields #[f,.ref it]}
def Qt:plainId "filter.__next__"=true:=by decide+kernel
section
variable{prog:gK}{w:gY}{A:aM}{E:ay->az->Prop}{s:az}{e it l:Addr}{f:ay}{items:Array ay}{i:Nat}
def zY.typeIs{s:az}(m:zY s.heap e it f):s.TypeIs (.ref e) "filter":=⟨_,m,rfl⟩
def afk{x:ay}{Q:Option ay->az->Prop}(hit:s.heap.IsListIter it l i)(hl:s.heap.IsList l items)(hx:items[i]?=ab x)
  (hQ:∀h',h'.IsListIter it l (i+1)->tB it s.heap h'->Q (ab x) {s with heap:=h'}):aA (model prog w) A (callSpecial? (.ref it) "__next__") Q E s:=by
 obtain⟨o,ho,hc,hd⟩:=id hit
 obtain⟨ol,ud,_,nl,gD⟩:=hl
 refine tC (name:=bP "__next__") hit.typeIs KH (tD KH hit.typeIs api ?_ (apj _))
 show aA _ _ (oI (.ref it) 0>>=_) _ _ s
 refine aG (lP ho hd (x:=.ref l) rfl ?_)
 show aA _ _ (if(ay.ref l==ay.none)=true then _ else _) _ _ s
 rw[ai (show¬((ay.ref l==ay.none)=true)from bT)]
 show aA _ _ (oI (.ref it) 1>>=_) _ _ s
 refine aG (lP ho hd (x:=.int i 0) rfl ?_)
 show aA _ _ (Kf (.ref l)>>=_) _ _ s
 refine aG (xV ud gD ?_)
 simp only[jT,hx]
 refine aG (Kg ho hd (by simp) (aQ ⟨x,rfl,hQ _ ?_ (qK ..)⟩))
 exact⟨_,xW _ ho (an9 (Kh hd _)),(aoa ..).trans hc,by
  rw[Kh hd];simp [jR]⟩
def afl{Q:Option ay->az->Prop}(hh:A.handled=ae)(hit:s.heap.IsListIter it l i)(hl:s.heap.IsList l items)(hx:items[i]?=ae)
  (hE:∀h' e,Ki it s.heap h'->(∃o,h'.get? e=ab o/\o.cls=.type "StopIteration")->E (.ref e) {s with heap:=h'}):aA (model prog w) A (callSpecial? (.ref it) "__next__") Q E s:=by
 obtain⟨o,ho,hc,hd⟩:=id hit
 obtain⟨ol,ud,_,nl,gD⟩:=hl
 refine tC (name:=bP "__next__") hit.typeIs KH (tD KH hit.typeIs api ?_ (apj _))
 show aA _ _ (oI (.ref it) 0>>=_) _ _ s
 refine aG (lP ho hd (x:=.ref l) rfl ?_)
 show aA _ _ (if(ay.ref l==ay.none)=true then _ else _) _ _ s
 rw[ai (show¬((ay.ref l==ay.none)=true)from bT)]
 show aA _ _ (oI (.ref it) 1>>=_) _ _ s
 refine aG (lP ho hd (x:=.int i 0) rfl ?_)
 show aA _ _ (Kf (.ref l)>>=_) _ _ s
 refine aG (xV ud gD ?_)
 simp only[jT,hx]
 refine aG (DH (aG (Kg ho hd (by simp) ?_)))
 show aA _ _ (Kj (.type "StopIteration") []>>=_) _ _ _
 refine aG ?_
 simp only[Kj,newTuple]
 refine aG (sY ?_ (by size_fits))
 refine aG (m:=Kk _ _) (A0 (a:=ay.none) (by first|rfl|(simp only[Kk];rfl)) ?_)
 refine sY ?_ (by size_fits)
 refine aG (wpAny_handled ?_)
 first|rw[show A.in1.handled=ae from hh]|rw[hh]
 refine aG (aQ (wpAny_throw ?_))
 exact hE _ _ (((qK ..).extBut.push _).push _) ⟨_,cD _ rfl,rfl⟩
def Qu{kp:ay->Bool}{fq:List Addr}{Hp:Heap->Prop}(hh:A.handled=ae)(he:e≠it)(hl:l≠it)(hq:it∉fq)(i4:∀h h',Hp h->(∀b∈fq,∀o,h.get? b=ab o->h'.get? b=ab o)->Hp h')(CP:(f==.none||f==.type "bool")=false)
  (hf:∀(A':aM)x(s:az)(Q:ay->az->Prop)(E:ay->az->Prop),x∈items.toList->Hp s.heap->(∀tk,s.toks<=tk->Q (.bool (kp x)) {s with toks:=tk})->aA (model prog w) A' (call f [x]) Q E s):
  ∀(rem:List ay)(j:Nat)(s:az)(R:oH->az->Prop),items.toList.drop j=rem->zY s.heap e it f->s.heap.IsListIter it l j->s.heap.IsList l items->Hp s.heap->
  (∀v rest s' j',rem.filter kp=v::rest->(items.toList.drop j').filter kp=rest->s'.heap.IsListIter it l j'->qP [it] (λa b=>b=a) s s'->R (.ok (.ret v)) s')->
  (∀s' x,rem.filter kp=[]->qP [it] (λa b=>b=a) s s'->(∃o,s'.heap.get? x=ab o/\o.cls=.type "StopIteration")->R (.error (.ref x)) s')->
  aA (model prog w) A.in1 (eN.«filter.__next__» ⟨[.ref e],[]⟩) (λfin s'=>match fin with|.done f=>R (.ok f) s'|.again c'=>c'.quiet=true/\gN (model prog w) A c' R s') (λx s'=>R (.error x) s') s:=by
 intro rem
 induction rem with
 |nil=>
  intro j s R hd m hit jI hp hR hE
  unfold eN.«filter.__next__»
  show aA _ _ (oI (.ref e) 0>>=_) _ _ s
  refine aG (lP m rfl (x:=f) rfl ?_)
  refine aG (lP m rfl (x:=.ref it) rfl ?_)
  have hx:items[j]?=ae:=by
   rw[<-xF]
   exact vy (by simpa using hd)
  refine aG (afl (A:=A.in1) hh hit jI hx λh' x k nX=>?_)
  exact hE _ x rfl ⟨λb o hb q=>k b o (by simpa using hb) q,rfl,rfl,rfl,bj _⟩ nX
 |cons x rem ih=>
  intro j s R hd m hit jI hp hR hE
  have hx:items[j]?=ab x:=by
   rw[<-xF]
   have:=af (·[0]?) hd
   simpa using this
  have afm:x∈items.toList:=by rw[<-xF]at hx;exact dZ hx
  have oT:items.toList.drop (j+1)=rem:=by rw[<-apk,hd];rfl
  unfold eN.«filter.__next__»
  show aA _ _ (oI (.ref e) 0>>=_) _ _ s
  refine aG (lP m rfl (x:=f) rfl ?_)
  refine aG (lP m rfl (x:=.ref it) rfl ?_)
  refine aG (afk hit jI hx λh' rM hs=>?_)
  dsimp only
  rw[CP]
  have nW:Hp h':=i4 _ _ hp λb hb o q=>hs.extBut b o (λz=>hq (z▸hb)) q
  refine aG (dN ?_)
  simp only[pq,if_false]
  refine aG (hf _ x {s with heap:=h'} _ _ afm nW λtk Hi=>?_)
  refine dN (wpAny_truthy_bool ?_)
  have mv:qP [it] (λa b=>b=a) s {s with heap:=h',toks:=tk}:=⟨λb o hb q=>hs.extBut b o (by simpa using hb) q,rfl,rfl,rfl,Hi⟩
  cases hk:kp x with
  |true=>
   rw[ah rfl]
   exact aQ (hR x _ _ (j+1) (by rw[KJ,hk,ah rfl]) (by rw[oT]) rM mv)
  |false=>
   rw[ai (by decide)]
   refine aQ ⟨D7 Qt _,yh MF.Hh ?_⟩
   rw[Bj Qt _]
   have zZ:(x::rem).filter kp=rem.filter kp:=by rw[KJ,hk,ai (by decide)]
   refine ih (j+1) {s with heap:=h',toks:=tk} R oT (hs.extBut e _ he m) rM (jI.at λo q=>hs.extBut l o hl q) nW (λv rest s' j' h1 h2 h3 h4=>?_) λs' x' h1 h4 h5=>?_
   ·exact hR v rest s' j' (by rw[zZ];exact h1) h2 h3 (mv.trans (λy y y a b=>b.trans a) h4)
   ·exact hE s' x' (by rw[zZ];exact h1) (mv.trans (λy y y a b=>b.trans a) h4) h5
def afn{kp:ay->Bool}{fq:List Addr}{Hp:Heap->Prop}(hh:A.handled=ae)(he:e≠it)(hl:l≠it)(hq:it∉fq)(i4:∀h h',Hp h->(∀b∈fq,∀o,h.get? b=ab o->h'.get? b=ab o)->Hp h')(CP:(f==.none||f==.type "bool")=false)
  (hf:∀(A':aM)x(s:az)(Q:ay->az->Prop)(E:ay->az->Prop),x∈items.toList->Hp s.heap->(∀tk,s.toks<=tk->Q (.bool (kp x)) {s with toks:=tk})->aA (model prog w) A' (call f [x]) Q E s):
  vD prog w A e (e::it::l::fq) [it] (λa b=>b=a) (items.toList.filter kp).length (λi v=>(items.toList.filter kp)[i]?=ab v)
   (λi s=>∃j,(items.toList.drop j).filter kp=(items.toList.filter kp).drop i/\zY s.heap e it f/\s.heap.IsListIter it l j/\s.heap.IsList l items/\Hp s.heap) where
 sub:=λb hb=>by simp at hb;simp [hb]
 grefl:=λu=>rfl
 gtrans:=λu u u x y=>y.trans x
 frame:=λi s h' tk st u k=>by
  obtain⟨j,h1,h2,h3,h4,h5⟩:=st
  exact⟨j,h1,k e (by simp) _ h2,h3.at λo q=>k it (by simp) o q,h4.at λo q=>k l (by simp) o q,i4 _ _ h5 λb hb o q=>k b (by simp [hb]) o q⟩
 item:=λi s Q E hi st hQ=>by
  obtain⟨j,h1,m,hit,jI,hp⟩:=st
  unfold iQ
  refine aG (DZ (tC (name:=bP "__next__") m.typeIs MF.uM (pw (ya MF.uM.plain MF.Hh (MF.uM.check _ _ _ _ _ _ _ _ m.typeIs (MF.Qj _) ?_)))))
  refine Qu hh he hl hq i4 CP hf _ j s (λr s'=>match r with|.ok (.ret v)=>aA (model prog w) A (pure (ab v)) Q E s'|.ok _=>False|.error x=>aA (model prog w) A (do if<-Kt x (.type "StopIteration")then pure ae else throw x) Q E s') rfl m hit jI hp (λv rest s' j' g1 g2 g3 g4=>?_) λs' x g1 g4 g5=>?_
  ·rw[h1]at g1
   have hv:(items.toList.filter kp)[i]?=ab v:=by
    have:=af (·[0]?) g1
    simpa using this
   refine aQ (hQ v s' hv ⟨j',?_,g4.heap e _ (by simpa using he) m,g3,jI.at λo q=>g4.heap l o (by simpa using hl) q,i4 _ _ hp λb hb o q=>g4.heap b o (λz=>hq (by rw[b4]at z;exact z▸hb)) q⟩ g4)
   rw[g2,<-apk,g1];rfl
  ·rw[h1]at g1
   exact aj (List.drop_eq_nil_iff.mp g1) (xC.mpr hi)
 done:=λs Q E st hQ=>by
  obtain⟨j,h1,m,hit,jI,hp⟩:=st
  unfold iQ
  refine aG (DZ (tC (name:=bP "__next__") m.typeIs MF.uM (pw (ya MF.uM.plain MF.Hh (MF.uM.check _ _ _ _ _ _ _ _ m.typeIs (MF.Qj _) ?_)))))
  refine Qu hh he hl hq i4 CP hf _ j s (λr s'=>match r with|.ok (.ret v)=>aA (model prog w) A (pure (ab v)) Q E s'|.ok _=>False|.error x=>aA (model prog w) A (do if<-Kt x (.type "StopIteration")then pure ae else throw x) Q E s') rfl m hit jI hp (λv rest s' j' g1 g2 g3 g4=>?_) λs' x g1 g4 g5=>?_
  ·rw[h1,J1]at g1;cases g1
  ·refine aG (KG (T:="StopIteration") (b:=true) g5 isSubtype_stop ?_)
   exact aQ (hQ _ g4)
 self:=λi s Q E st h=>by
  obtain⟨j,h1,m,hit,jI,hp⟩:=st
  refine ape m.typeIs MF.Qm (tD MF.Qm m.typeIs MF.aeR ?_ (MF.aeQ _))
  show aA _ _ (ret (.ref e)) _ _ s
  exact aQ ⟨_,rfl,"filter",_,m.typeIs,MF.uM.lookup,h⟩
def afo(f:ay)(l:Addr)(items:Array ay)(n:Nat):
  DB (eN.«filter.__new__» ⟨[.type "filter",f,.ref l],[]⟩) (λz R s=>s.heap.get? l=ab {cls:=.type "list",dict:=ae,data:=.seq items n,slots:= #[]}/\
   R (.ok (.ret (.ref (s.heap.push {cls:=.type "list_iterator",data:=.fields #[.ref l,.int 0 0]}).objs.size)))
    {s with heap:=(s.heap.push {cls:=.type "list_iterator",data:=.fields #[.ref l,.int 0 0]}).push {cls:=.type "filter",data:=.fields #[f,.ref s.heap.objs.size]}}):=
 .of_wp λprog w A R s h=>by
  obtain⟨hp,g,d,tk,os⟩:=s;obtain⟨hl,h⟩:=h
  have tW:=MF.aeX
  have hL:apf (Ka ⟨hp,g,d,tk,os⟩) l items:=⟨_,hl,rfl,n,rfl⟩
  wp_walk using apg hl,AS hL
  exact⟨_,rfl,h⟩
def afp{Q:ay->az->Prop}{n:Nat}(hl:s.heap.get? l=ab {cls:=.type "list",dict:=ae,data:=.seq items n,slots:= #[]})
  (h:∀h',zY h' (s.heap.objs.size+1) s.heap.objs.size f->h'.IsListIter s.heap.objs.size l 0->h'.objs.size=s.heap.objs.size+2->(∀b o,s.heap.get? b=ab o->h'.get? b=ab o)->Q (.ref (s.heap.objs.size+1)) {s with heap:=h'}):
  aA (model prog w) A (call (.type "filter") [f,.ref l]) Q E s:=by
 refine JO MF.aeT (by decide) (MF.aeU _ _) (MF.aeV _ _) (λobj=>by unfold mH;kernel_rfl) MF.aeW (afo f l items n) ⟨hl,?_⟩
 have z1:(s.heap.push {cls:=.type "list_iterator",data:=.fields #[.ref l,.int 0 0]}).objs.size=s.heap.objs.size+1:=fh ..
 rw[z1]
 have g2:=cD (s.heap.push {cls:=.type "list_iterator",data:=.fields #[.ref l,.int 0 0]}) (o:={cls:=.type "filter",data:=.fields #[f,.ref s.heap.objs.size]}) rfl
 rw[z1]at g2
 have g1:=cD s.heap (o:={cls:=.type "list_iterator",data:=.fields #[.ref l,.int 0 0]}) rfl
 exact⟨⟨_,g2,rfl⟩,h _ g2 ⟨_,cS _ g1,rfl,rfl⟩ (by rw[fh,z1]) λb o x=>cS _ (cS _ x)⟩
end
section
variable{prog:gK}{w:gY}{A:aM}{R:oH->az->Prop}{I:Addr}{fp wr:List Addr}{G:Array my->Array my->Prop}{P:Nat->ay->Prop}{St:Nat->az->Prop}{ys:List Str}{s:az}{E:ay->az->Prop}
noncomputable def gU(ys:List Str)(y:Str):Bool:=decide (y∈ys)
def wW{h h':Heap}{a:Addr}{S S':Str->Bool}{n:Nat}(hS:h.SetOf (strKind prog w) a S n)(k:∀o,h.get? a=ab o->h'.get? a=ab o)(e:∀k,S k=S' k):h'.SetOf (strKind prog w) a S' n:=
 funext e▸hS.elim λo q=>⟨o,q.imp λes q=>q.imp λep q=>q.imp λt q=>⟨k o q.1,q.2⟩⟩
def afq(W:vD prog w A.in1 I fp wr G ys.length P St)(S:Addr)(Qv:S∉fp)(afr:∀i v,P i v->∃y t,v=.str y t/\ys[i]?=ab y)(hb:ys.length+1<D8):
  ∀(rest pre:List Str)(s:az)(c:Nat),ys=pre++rest->c<=pre.length->St pre.length s->s.heap.SetOf (strKind prog w) S (gU pre) c->
   (∀s' c',qP (S::wr) G s s'->s'.heap.SetOf (strKind prog w) S (gU ys) c'->R (.ok (.ret .none)) s')->gN (model prog w) A (.builtin "set.update.loop" ⟨[.ref S,.ref I],[]⟩) R s:=by
 have Qw:S∉wr:=λh=>Qv (W.sub _ h)
 have tW:∀b∈wr,b∈S::wr:=λb hb=>bS _ hb
 intro rest
 induction rest with
 |nil=>
  intro pre s c e hc fG hS hR
  rw[kq]at e
  subst e
  refine yh apl ?_
  rw[Bj Ve _]
  show aA _ A.in1 (iQ (.ref I)>>=_) _ _ s
  exact aG (W.done s _ _ fG λs' hm=>aQ (hR s' c (hm.mono tW) (wW hS (λo e=>hm.heap S _ Qw e) λz=>rfl)))
 |cons y rest ih=>
  intro pre s c e hc fG hS hR
  have hi:ys[pre.length]?=ab y:=by rw[e,DT (bj _),D6];rfl
  have dp:=(iR.mp hi).1
  refine yh apl ?_
  rw[Bj Ve _]
  show aA _ A.in1 (iQ (.ref I)>>=_) _ _ s
  refine aG (W.item pre.length s _ _ dp fG λv s' hP afs hm=>?_)
  obtain⟨y',t,rfl,hy⟩:=afr _ v hP
  cases Option.some.inj (hi.symm.trans hy)
  show aA _ A.in1 (JH [ay.str y t] (setAdd S (.str y t))>>=_) _ _ s'
  refine aG (dN ?_)
  unfold setAdd
  refine dN (aG ((strKind prog w).pyHash (k:=y) (vh _ _ _ _) ?_))
  refine wpAny_setAddHashed_of (knd:=strKind prog w) (s:={s' with toks:=s'.toks+1}) (S:=gU pre) (vh _ _ _ _) rfl (wW hS (λo e=>hm.heap S _ Qw e) λz=>rfl) (bI (cX (aD hc (cT dp))) hb) λh' zA hS2=>?_
  have kS:∀b o,b≠S->s'.heap.get? b=ab o->h'.get? b=ab o:=λb o n e=>(zA.2 b n).trans e
  have lp:(pre++[y]).length=pre.length+1:=bQ
  refine aQ ⟨D7 Ve _,ih (pre++[y]) _ (if gU pre y=true then c else c+1) (by rw[e,fk];rfl) ?_ (lp▸W.frame _ s' _ _ afs (gy _) λb hb o e=>kS b o (λq=>Qv (q▸hb)) e) (wW hS2 (λz e=>e) λk'=>?_) λck c' afu afv=>?_⟩
  ·rw[lp]
   cases gU pre y with
   |true=>exact vn hc
   |false=>exact cX hc
  ·exact((decide_eq_decide.mpr (vk.trans (or_congr Iff.rfl b4))).trans (Bool.decide_or ..)).symm
  ·exact hR ck c' (Va W.gtrans ((hm.mono tW).then_heap (gy _) λb o hb e=>kS b o (λq=>hb (q▸bk)) e) afu) afv
noncomputable def o5(led:Bool):Obj:={cls:=.type "set",dict:=ae,data:=.set #[] 0 (.fresh 0 0 led)}
def afw{a:ay}{Q:ay->az->Prop} (h:∀led,aA (model prog w) A.in1.in1 (eN.«set.__init__» ⟨[.ref s.heap.objs.size,a],[]⟩) (λfin s'=>match fin with|.done f=>AZ (λr s₂=>r=.none/\Q (.ref s.heap.objs.size) s₂) E (.ok f) s'|.again c'=>c'.quiet=true/\gN (model prog w) A.in1 c' (AZ (λr s₂=>r=.none/\Q (.ref s.heap.objs.size) s₂) E) s')
   (λe s'=>AZ (λr s₂=>r=.none/\Q (.ref s.heap.objs.size) s₂) E (.error e) s') {s with heap:=s.heap.push (o5 led)}):aA (model prog w) A (call (.type "set") [a]) Q E s:=by
 obtain⟨c,tl,aqA⟩:=vE.mro
 have aqB:=vE.made
 have tW:=vE.sub
 refine pw (Ui ?_)
 show aA _ _ (callAny (.type "set") _) _ _ _
 refine aQ ⟨Code.quiet_builtin _ (by decide+kernel),yh PySem.F.entry_type_call ?_⟩
 rw[aM.under_plain (weight_type_call_type "set" [a] []) rfl]
 have h1:=vE.notType
 have h2:=vE.canCreate
 have hct:=PySem.F.typeCall_set_1 a
 repeat (any_goals (first|assumption|wp_step))
 refine qF (code_set_new_1 a (E:=E) (Q₁:=λobj aB=>∃led:Bool,obj=.ref s.heap.objs.size/\aB={s with heap:=s.heap.push (o5 led)}) λled=>⟨led,rfl,rfl⟩) λr aB hr=>?_
 cases r with
 |error e=>exact hr
 |ok fl=>
  cases fl with
  |ret obj=>
   obtain⟨led,rfl,rfl⟩:=hr
   have hT:amM {s with heap:=s.heap.push (o5 led)} (.ref s.heap.objs.size) "set":=⟨_,cD _ rfl,rfl⟩
   have jI:=vE.init.lookup
   have hbi:=vE.init.bind (.ref s.heap.objs.size)
   repeat (any_goals (first|assumption|wp_step))
   refine qF (ya vE.init.plain PySem.F.entry_set_init (check_set_init_1 hT (h led))) λzD s₂ Hl=>?_
   cases zD with
   |error e=>exact Hl
   |ok afx=>
    cases afx with
    |ret r=>
     obtain⟨rfl,hq⟩:=Hl
     repeat (any_goals (first|assumption|wp_step))
    |_=>exact Hl.elim
  |_=>exact hr.elim
def afy{S l:Addr}{led:Bool}{vs:Array ay}{nl:Nat}{R:Fin->az->Prop}(hS:s.heap.get? S=ab (o5 led))(CQ:s.heap.get? l=ab {cls:=.type "list",data:=.seq vs nl})
  (h:gN (model prog w) A (.builtin "set.update.loop" ⟨[.ref S,.ref s.heap.objs.size],[]⟩) (AZ (λz s'=>R (.done (.ret .none)) s') E) {s with heap:=s.heap.push {cls:=.type "list_iterator",data:=.fields #[.ref l,.int 0 0]}}):
  aA (model prog w) A (eN.«set.__init__» ⟨[.ref S,.ref l],[]⟩) R E s:=by
 have aqE:=PySem.F.sub_list_set
 have aqF:=PySem.F.sub_list_frozenset
 have wH:s.heap.IsList l vs:=⟨_,CQ,rfl,nl,rfl⟩
 unfold eN.«set.__init__» noKeywords ay6
 generalize hPI:jQ=PI
 wp_walk
 subst hPI
 refine AS wH (aG (wpAny_runValue (qF h λr s' hr=>?_)))
 cases r with
 |error e=>exact hr
 |ok f=>cases f with
  |ret v=>exact aQ (aQ hr)
  |_=>exact hr.elim
def afA{l:Addr}{vs:List ay}{Q:ay->az->Prop}(hh:A.handled=ae)(hl:s.heap.PlainList l vs.toArray)(hi:DI vs ys)(hb:ys.length+1<D8)
  (h:∀(h':Heap)(tk c:Nat),h'.SetOf (strKind prog w) s.heap.objs.size (gU ys) c->s.heap.objs.size<=h'.objs.size->(∀b o,s.heap.get? b=ab o->h'.get? b=ab o)->Q (.ref s.heap.objs.size) {s with heap:=h',toks:=tk}):
  aA (model prog w) A (call (.type "set") [.ref l]) Q E s:=by
 refine fe (afw λled=>?_)
 have hS:(s.heap.push (o5 led)).get? s.heap.objs.size=ab (o5 led):=cD _ rfl
 obtain⟨nl,ol⟩:=id hl
 have CQ:(s.heap.push (o5 led)).get? l=ab {cls:=.type "list",data:=.seq vs.toArray nl}:=cS _ ol
 have wH:(s.heap.push (o5 led)).IsList l vs.toArray:=⟨_,CQ,rfl,nl,rfl⟩
 have Qx:=bw ol
 have z1:(s.heap.push (o5 led)).objs.size=s.heap.objs.size+1:=fh ..
 refine afy hS CQ ?_
 have W:=Dw (prog:=prog) (w:=w) (A:=A.in1.in1.in1) hh (s.heap.push (o5 led)).objs.size l (by rw[z1];exact cW (vp Qx)) vs.toArray
 refine afq (ys:=ys) ((show vs.toArray.size=ys.length by rw[bU];exact hi.len_eq)▸W.toS) s.heap.objs.size (λq=>?_) (λi v hv=>hi.item i v (by rw[<-vf];exact hv)) hb ys [] _ 0 rfl (bj _) ⟨⟨_,cD _ rfl,rfl,rfl⟩,wH.push _⟩ ?_ λs' c' hm hS'=>?_
 ·rw[z1]at q
  exact(br.mp q).elim (λq=>cW (il _) q) λq=>iS Qx (b4.mp q)
 ·exact wW ((setObjOf_fresh (knd:=strKind prog w) led).setOf (cS _ hS) (by decide)) (λz e=>e) λz=>rfl
 ·obtain⟨h',g',d',Hm,os'⟩:=s'
  cases (show g'=s.gens from hm.gens)
  cases (show d'=s.drawn from hm.drawn)
  cases (show os'=s.os from hm.os)
  refine⟨rfl,λhz=>h h' Hm c' hS' hz λb o e=>hm.heap b o (λq=>?_) (cS _ (cS _ e))⟩
  have o6:=bw e
  rw[z1]at q
  exact(br.mp q).elim (λq=>cW o6 q) λq=>cW (vp o6) (b4.mp q)
end
end Mine
section
open PySem PySem.Spec PySem.W PyProof.Rows PySem.Builtin PySem.Builtin.ObjectAttr
namespace Mine
namespace MF
def afD:tF tG "set.__getattribute__"=ab eN.«object.__getattribute__»:=
 Vb (id':="object.__getattribute__") (by kernel_rfl) (by decide+kernel) (by decide+kernel) (by kernel_rfl)
def afE:sW (.type "set") "__getattr__"=pure ae:=by rw[jq,jr];kernel_rfl
def afF:yb (.builtin "set.__contains__") "__get__"=pure (ab (.builtin "method_descriptor.__get__")):=by
 unfold yb;rw[KL];show sW (.type "method_descriptor") "__get__"=_;rw[jq,jr];kernel_rfl
def afG:takesStores (.builtin "set.__contains__")=pure false:=by
 have a1:yb (.builtin "set.__contains__") "__set__"=pure ae:=by
  unfold yb;rw[KL];show sW (.type "method_descriptor") "__set__"=_;rw[jq,jr];kernel_rfl
 have a2:yb (.builtin "set.__contains__") "__delete__"=pure ae:=by
  unfold yb;rw[KL];show sW (.type "method_descriptor") "__delete__"=_;rw[jq,jr];kernel_rfl
 unfold takesStores;rw[a1,a2];rfl
def Qy:Slot "method_descriptor" "__get__" "method_descriptor.__get__":=
 .of (owner:="method_descriptor") (n:="__get__") (by rw[jq,jr];kernel_rfl) (by decide+kernel) (by decide+kernel) (by decide+kernel)
  (by first|exact .inl (by decide+kernel)|exact .inr (by decide+kernel)) (by rw[mG];kernel_rfl)
def afH:tF tG "method_descriptor.__get__"=ab eN.«method_descriptor.__get__»:=Be (by kernel_rfl)
def afI(a b c:ay):mH "method_descriptor.__get__" ⟨[a,b,c],[]⟩:=by unfold mH;kernel_rfl
end MF
def afJ(a:Addr)(o:Obj)(u:Tok)(hc:o.cls=.type "set")(hd:o.dict=ae){es:Array (Int×ay)}{ep:Nat}{tb:SetTable}(ub:o.data=.set es ep tb):
  DB (eN.«object.__getattribute__» ⟨[.ref a,.str (bP "__contains__") u],[]⟩) (λA R s=>s.heap.get? a=ab o/\
   R (.ok (.ret (.ref s.heap.objs.size))) {s with heap:=s.heap.push {cls:=.type "builtin_function_or_method",data:=.fields #[.builtin "set.__contains__",.ref a]}}):=
 DB.of_wp λprog w A R s hs=>by
  obtain⟨hp,g,d,tk,os⟩:=s
  obtain⟨c,aY,dat,sl⟩:=o
  simp only at hc hd ub
  subst hc hd ub
  obtain⟨hx,hs⟩:=hs
  have hT:(⟨hp,g,d,tk,os⟩:az).TypeIs (.ref a) "set":=⟨_,hx,rfl⟩
  have f1:=Vg.lookup
  have f2:=MF.afF
  have f3:=MF.afG
  unfold eN.«object.__getattribute__»
  repeat (any_goals (first|assumption|wp_step))
  have hTd:∀s:az,s.TypeIs (.builtin "set.__contains__") "method_descriptor":=λs=>KL
  refine ya MF.Qy.plain MF.afH (MF.Qy.check _ _ _ _ _ _ _ _ (hTd _) (MF.afI _ _ _) ?_)
  unfold eN.«method_descriptor.__get__»
  refine aG (A0 (a:=(.builtin "set.__contains__",ab (.ref a),ab (.type "set"))) (by kernel_rfl) ?_)
  dsimp only
  rw[ai (by decide+kernel)]
  refine aG ?_
  refine aG (A0 (a:=(bP "__contains__",.type "set")) (by kernel_rfl) ?_)
  refine aG (KG (T:="set") (b:=true) hT sub_set_self ?_)
  refine aQ ?_
  refine aG ?_
  refine sY ?_
  refine aQ ?_
  refine aQ ?_
  exact⟨_,rfl,hs⟩
noncomputable def uR(a:Addr):Obj:={cls:=.type "builtin_function_or_method",data:=.fields #[.builtin "set.__contains__",.ref a]}
section
variable{prog:gK}{w:gY}{A:aM}{E:ay->az->Prop}{s:az}{a m:Addr}
def afL{o:Obj}{es:Array (Int×ay)}{ep:Nat}{tb:SetTable}{Q:ay->az->Prop}(hx:s.heap.get? a=ab o)(hc:o.cls=.type "set")(hd:o.dict=ae)(ub:o.data=.set es ep tb)
  (h:∀tk,Q (.ref s.heap.objs.size) {s with heap:=s.heap.push (uR a),toks:=tk}):aA (model prog w) A (sU (.ref a) (bP "__contains__") true) Q E s:=by
 obtain⟨c,aY,dat,sl⟩:=o
 simp only at hc hd ub
 subst hc hd ub
 have hT:∀Hm,({s with toks:=Hm}:az).TypeIs (.ref a) "set":=λz=>⟨_,hx,rfl⟩
 obtain⟨hp,g,d,tk,os⟩:=s
 have f3:=Vh.lookup
 have f4:=Vh.bind (.ref a)
 have f5:=MF.afE
 unfold sU getAttrBy
 repeat (any_goals (first|assumption|exact hT _|((with_reducible show aA _ _ (call (al0 "set.__getattribute__") _ _) _ _ _);refine sS Vh (hT _) MF.afD (PySem.F.args_set_getattribute_2 _ _) (afJ a _ _ rfl rfl rfl) ⟨hx,?_⟩)|wp_step))
 exact aQ (h _)
def afM{S:Str->Bool}{n:Nat}{y:Str}{t:Tok}{Q:ay->az->Prop}(hm:s.heap.get? m=ab (uR a))(hS:s.heap.SetOf (T3 prog w) a S n)
  (h:∀tk,s.toks<=tk->Q (.bool (S y)) {s with toks:=tk}):aA (model prog w) A (call (.ref m) [.str y t]) Q E s:=by
 refine pw (Ui ?_)
 show aA _ _ (callAny (.ref m) _) _ _ _
 unfold callAny
 refine aG (Tx hm ?_)
 show aA _ _ (checkBoundCall "set.__contains__" ⟨[.ref a,.str y t],[]⟩>>=λz=>again (.builtin "set.__contains__" ⟨[.ref a,.str y t],[]⟩)) _ _ s
 have afN:Manifest.signature? "set.__contains__"=ab ⟨.oneArg,"set.__contains__","__contains__",.self,[⟨"object",.posOnly,true⟩]⟩:=by
  rw[signature?_of (id:="set.__contains__") (n:=['_','_','s','n','i','a','t','n','o','c','_','_']) (o:=['t','e','s']) (by kernel_rfl) PySem.F.owner_set];kernel_rfl
 have hkd:builtinKind "set.__contains__"=ab .method:=by decide+kernel
 have hT:=hS.typeIs
 have Hn:Ks (.type "set") (.type "module")=pure false:=by rw[mG];kernel_rfl
 refine aG ?_
 unfold checkBoundCall
 rw[afN];dsimp only
 rw[hkd];dsimp only
 rw[ai (by decide)]
 refine aG (KG (b:=false) hT Hn ?_)
 rw[ai (by decide+kernel)]
 obtain⟨o,es,ep,tb,ho,hex,CR,_⟩:=id hS
 obtain⟨oc,od,odt,osl⟩:=o
 simp only at CR
 subst CR
 refine aG ?_
 unfold isType
 repeat (any_goals (first|assumption|wp_step))
 refine⟨D7 Vg.plain _,yh entry_set_contains ?_⟩
 rw[Bj Vg.plain _]
 unfold eN.«frozenset.__contains__» azg
 simp only[Km,bind_assoc]
 unfold azh azi setContains
 refine aG (aQ ?_)
 try dsimp only
 refine aG (aQ ?_)
 try dsimp only
 refine aG (wpAny_tryCatch ?_)
 refine dN ?_
 refine aG ((T3 prog w).pyHash (vh _ _ _ _) ?_)
 refine aG (wpAny_setFind_of (s:={s with toks:=s.toks+1}) (vh _ _ _ _) rfl hS λr hr=>?_)
 refine aQ ?_
 show aA _ _ (ret (Tf r.isSome)) _ _ _
 rw[hr]
 exact aQ (h _ (gy _))
end
end Mine
end
namespace Mine
noncomputable def r9(ys:List Str)(v:ay):Bool:=(F8 v).elim false (gU ys)
section
variable{X:Kx}{N N':Addr->Prop}{A:aM}{s:az}{E:ay->az->Prop}{h h':Heap}
def afP{fH:List Str}{l:List T}:∀{vs:List ay}{ys:List Str},hH l=ab ys->aL X N h l vs->aL X N' h' ((ys.filter (gU fH)).map .str) (vs.filter (r9 fH)):=by
 induction l with
 |nil=>intro vs ys e x;cases e;exact aL.qR (P:=λvs=>aL X N' h' [] (vs.filter (r9 fH))) x .nil
 |cons t l ih=>
  intro vs ys e x
  refine hZ e λy q ea=>map_some ea λms e1 ez=>?_
  clear e ea
  subst ez;subst q
  refine aL.tN (P:=λvs=>aL X N' h' (((y::ms).filter (gU fH)).map .str) (vs.filter (r9 fH))) x λv ws a b=>?_
  refine VR.c6 (P:=λv=>aL X N' h' (((y::ms).filter (gU fH)).map .str) ((v::ws).filter (r9 fH))) a λu hz=>?_
  rw[KJ,KJ,show r9 fH (.str y u)=gU fH y from rfl]
  cases gU fH y with
  |true=>exact .cons (.str _ _ hz) (ih e1 b)
  |false=>exact ih e1 b
def afQ{l:List T}{wX fH:List Str}{la m sa:Addr}{c:Nat}{nc:List ay}(ra:A.handled=ae)(ng:NG X N s.heap)(hl:s.heap.PlainList la nc.toArray)(hs:aL X N s.heap l nc)(pY:hH l=ab wX)(nP:l.length<=lim)(hm:s.heap.get? m=ab (uR sa))(hS:s.heap.SetOf (strKind X.prog X.w) sa (gU fH) c):
  aA (model X.prog X.w) A (call (.type "filter") [.ref m,.ref la]) (λv aB=>aA (model X.prog X.w) A (call (.type "list") [v]) (Res X N s (.lst ((wX.filter (gU fH)).map .str))) E aB) E s:=by
 obtain⟨ln,uN⟩:=id hl
 obtain⟨so,Qz⟩:=hS
 have afR:=Qz.elim λz q=>q.elim λz q=>q.elim λz q=>q.1
 have z1:=bw uN
 have z2:=bw hm
 have z3:=bw afR
 refine afp uN λh' hM hI hz uO=>?_
 have k1:Kp X s {s with heap:=h'}:=Kp.of uO (by rw[hz];exact bX _ _)
 obtain⟨qs,Hj,Qq⟩:=yI pY hs
 have W:=afn (prog:=X.prog) (w:=X.w) (A:=A.in1.in1) (e:=s.heap.objs.size+1) (it:=s.heap.objs.size) (l:=la) (f:=.ref m) (items:=nc.toArray) (kp:=r9 fH) (fq:=[m,sa]) (Hp:=λh=>h.get? m=ab (uR sa)/\h.SetOf (strKind X.prog X.w) sa (gU fH) c) ra (xR _) (cW z1)
  (λq=>(br.mp q).elim (λq=>iS z2 q) λq=>iS z3 (b4.mp q)) (λh h' hp k=>⟨k m bk _ hp.1,wW hp.2 (k sa (bS _ bk)) λz=>rfl⟩) rfl (λA'' x s Q E hx hp hQ=>by
   rw[JE,Hj]at hx
   obtain⟨q,_,rfl⟩:=dy.mp hx
   exact afM hp.1 hp.2 λtk ht=>hQ tk ht)
 have zZ:(nc.filter (r9 fH)).length<=lim:=aD (Vi _ _) (hs.length▸nP)
 refine fe (aeD aeC W (λi s h=>h.elim λj h=>h.2.1.typeIs) bk ⟨0,rfl,hM,hI,⟨_,uO _ _ uN,rfl,_,rfl⟩,uO _ _ hm,so,Qz.imp λz q=>q.imp λz q=>q.imp λz q=>⟨uO _ _ q.1,q.2⟩⟩ (λb hb=>?_) (dS zZ) λnU acc c' hmv cj ha yQ=>?_)
 ·show b<h'.objs.size
  rw[hz]
  have up:∀{b},b<s.heap.objs.size->b<s.heap.objs.size+2:=λh=>Vd 2 h
  exact(br.mp hb).elim (λe=>e▸il _) λe=>(br.mp e).elim (λe=>e▸vx (by decide)) λe=>(br.mp e).elim (λe=>e▸up z1) λe=>(br.mp e).elim (λe=>e▸up z2) λe=>b4.mp e▸up z3
 ·have kk:=Qp (tk:=nU.toks) k1 hmv (λe=>e▸.refl _) yQ (λb hb=>bO (b4.mp hb).symm) λb hb o e=>by
   rw[b4.mp hb]at e
   obtain⟨o',e1,e2,_⟩:=hI
   exact Option.some.inj (e1.symm.trans e)▸nJ e2 (by decide)
  have QA:acc.toList=nc.filter (r9 fH):=DV λi=>by
   rw[xF]
   by_cases hi:i<acc.size
   ·rw[ha.2 i _ (oF hi)];exact oF hi
   ·rw[Uw (fL.mp hi),vy (aD (bO ha.1.symm) (fL.mp hi))]
  have V:aL X N nU.heap ((wX.filter (gU fH)).map .str) acc.toList:=QA▸afP pY hs
  exact⟨kk,.lst (vs:=acc.toList) ⟨c',cj⟩ (λq=>bx (ng.lt _ q) (by show s.heap.objs.size<=h'.objs.size;exact k1.size)) (by rw[<-V.length,QA];exact zZ) V⟩
end
noncomputable def x7:Xp:=aT (st 186 1)
noncomputable def f7:Xp:=de x7 0
noncomputable def a7:Xp:=de f7 0
noncomputable def s7:Xp:=kU a7
noncomputable def c7(i:Nat):Str:=kW.getD i default
noncomputable def CS(i j:Nat)(v:Xp):Stmt:=jC (st 186 i) (s_ "entry") (c7 j) v
def afT:body 186=mX (st 186 0) (s_ "entry") (gE (aT (st 186 0)) (bY (cQ (aT (st 186 0))) (s_ "Entry")) [])::
 CS 1 0 (gE x7 (bY (cQ x7) (s_ "list")) [gE f7 (bY (cQ f7) (s_ "filter")) [.Attribute (gE s7 (bY (cQ s7) (s_ "set")) [de s7 0]) (s_ "__contains__") a7.pos,de f7 1]])::
 CS 2 1 (aT (st 186 2))::CS 3 2 (aT (st 186 3))::CS 4 3 (aT (st 186 4))::[.Return (ab (bY (me (st 186 5)) (s_ "entry"))) (st 186 5).pos]:=by kernel_rfl
noncomputable def QB:List (Str×Nat):=slots ["e1","e2","entry"]
def QC:(186,QB,2)∈bt:=dZ (i:=23) (by kernel_rfl)
noncomputable def oy:Sc:=⟨(bC 186).scope.names,QB,[]⟩
noncomputable def CT(i:Nat):Ex:=.attr (.var i) 10
noncomputable def mgR:Ex:=.bin .add (.attr (.var 0) 11) (.attr (.var 1) 11)
noncomputable def Ho(i:Nat):Ex:=.ite (.qY false (.attr (.var 1) i) .none) (.attr (.var 0) i) (.attr (.var 1) i)
def g7(e:Ex)(x:Xp)(h:(bo e .val oy [x]).ok=true):Gd e .val oy [x]:=no_implicit_lambda%(@Mb.get (Gd e .val oy [x]) (bo e .val oy [x]) h)
def z5:((bo (CT 1) .val oy [de s7 0]).ok=true/\(bo (CT 0) .val oy [de f7 1]).ok=true)/\(bo mgR .val oy [aT (st 186 2)]).ok=true/\(bo (Ho 12) .val oy [aT (st 186 3)]).ok=true/\(bo (Ho 13) .val oy [aT (st 186 4)]).ok=true:=⟨⟨by kernel_rfl,by kernel_rfl⟩,by kernel_rfl,by kernel_rfl,by kernel_rfl⟩
def uS:(notStar (de s7 0)=true/\notStar (de f7 1)=true)/\cZ (aT (st 186 2))=true/\cZ (aT (st 186 3))=true/\cZ (aT (st 186 4))=true:=⟨⟨by kernel_rfl,by kernel_rfl⟩,by kernel_rfl,by kernel_rfl,by kernel_rfl⟩
def wY:(d4 (s_ "list")=ab (.type "list")/\(bC 186).scope.names.lookup (s_ "list")=ab .globalImplicit)/\(d4 (s_ "filter")=ab (.type "filter")/\(bC 186).scope.names.lookup (s_ "filter")=ab .globalImplicit)/\d4 (s_ "set")=ab (.type "set")/\(bC 186).scope.names.lookup (s_ "set")=ab .globalImplicit:=⟨⟨by kernel_rfl,by kernel_rfl⟩,⟨by kernel_rfl,by kernel_rfl⟩,by kernel_rfl,by kernel_rfl⟩
section
variable{X:Kx}{k:Nat}{A:aM}{env:Env}{aH M N:Addr->Prop}{ad:Nat->Addr}{r:aE}{s aP:az}{E:ay->az->Prop}{Q:Flow->az->Prop}{rest:List Stmt}{x dx Cc:Addr}{c:Sc}{ns:List Str}{ts:List T}{vs:List ay}
def afV{n:Str}{y:Xp}{p q pos:Pos}{nm:Str}{Q:ay->az->Prop}(h:aA (model X.prog X.w) A (eval (.Call (.Name n p) [y] [] q) env) (λov aB=>aA (model X.prog X.w) A (sU ov nm true) Q E aB) E s):aA (model X.prog X.w) A (eval (.Attribute (.Call (.Name n p) [y] [] q) nm pos) env) Q E s:=by
 rw[am4]
 exact aG (mo h λo aB bJ=>aG (lL (aG (dN (mo bJ λr s₂ h₂=>aG (TK (aQ h₂)))))))
def afW(a:At X k A env oy N r s){l1 l2:List T}{wX fH:List Str}(v1:ev (λy y=>ae) (CT 0) r=ab (.lst l1))(v2:ev (λy y=>ae) (CT 1) r=ab (.lst l2))(g1:hH l1=ab wX)(g2:hH l2=ab fH)(hz:fH.length+1<D8)(E:ay->az->Prop):
  aA (model X.prog X.w) A (eval (gE x7 (bY (cQ x7) (s_ "list")) [gE f7 (bY (cQ f7) (s_ "filter")) [.Attribute (gE s7 (bY (cQ s7) (s_ "set")) [de s7 0]) (s_ "__contains__") a7.pos,de f7 1]]) env) (Res X N s (.lst ((wX.filter (gU fH)).map .str))) E s:=by
 have QD:=jw env x7.pos (es:=[gE f7 (bY (cQ f7) (s_ "filter")) [.Attribute (gE s7 (bY (cQ s7) (s_ "set")) [de s7 0]) (s_ "__contains__") a7.pos,de f7 1]]) rfl
 have QE:=jw env f7.pos (es:=[.Attribute (gE s7 (bY (cQ s7) (s_ "set")) [de s7 0]) (s_ "__contains__") a7.pos,de f7 1]) (by rw[Bl,Bl,uS.1.2];rfl)
 have QF:=jw env s7.pos (es:=[de s7 0]) (by rw[Bl,uS.1.1];rfl)
 refine jx (jv a wY.1.1 wY.1.2 rfl (qE QD (ic QD ?_)))
 rw[j2 rfl]
 refine eX (jx (jv a wY.2.1.1 wY.2.1.2 rfl (qE QE (ic QE ?_))))
 rw[yJ rfl uS.1.2]
 refine eX (afV (jx (jv a wY.2.2.1 wY.2.2.2 rfl (qE QF (ic QF ?_)))))
 rw[j2 uS.1.1]
 refine eX (vl (g7 _ _ z5.1.1 (c9 (k:=k)) a v2) λw2 aB k1 vr2=>gb ?_)
 have a1:=a.kp k1
 cases vr2.inv with| @mk la2 vs2 rK hN2 ro vv2=>
 obtain⟨q2,e2,em2⟩:=yI g2 vv2
 refine afA (ys:=fH) a1.ra.handled rK (e2▸Mw em2) hz λh₂ rN cc hS ro tS=>?_
 have k2:Kp X aB {aB with heap:=h₂,toks:=rN}:=Kp.of tS ro
 have a2:=a1.kp k2
 obtain⟨o,es,ep,tb,ho,hex,CR,aqJ⟩:=id hS
 refine afL (s:={aB with heap:=h₂,toks:=rN}) ho hex.1 (((show Heap.SetOf (strKind X.prog X.w) (Ka {aB with heap:=h₂,toks:=rN}) aB.heap.objs.size (gU fH) cc from hS).noDict _ rfl).elim λob q=>Option.some.inj (q.1.symm.trans ho)▸q.2) CR λaf0=>?_
 have k3:Kp X {aB with heap:=h₂,toks:=rN} {aB with heap:=h₂.push (uR aB.heap.objs.size),toks:=af0}:=Kp.push
 have a3:=a2.kp k3
 have hm3:(h₂.push (uR aB.heap.objs.size)).get? h₂.objs.size=ab (uR aB.heap.objs.size):=cD _ rfl
 refine eX (vl (g7 _ _ z5.1.2 (c9 (k:=k)) a3 v1) λw1 aS k4 vr1=>gb ?_)
 have a4:=a3.kp k4
 cases vr1.inv with| @mk la1 vs1 Hq hN1 EG vv1=>
 have uA:∀{s':az}{b:Addr},NG X N s'.heap->s'.heap.objs.size<=b->b∉aV:=λn h q=>bx (n.lt _ (n.tb _ q)) h
 have k14:=(k2.trans k3).trans k4
 refine mo (afQ a4.ra.handled a4.ng Hq vv1 g1 EG (k4.old _ _ (uA a2.ng (bj _)) hm3) (wW hS (λo e=>(k3.trans k4).old _ _ (uA a1.ng (bj _)) e) λy=>rfl)) λv dC z=>gb (mo z λu nU z=>⟨(k1.trans k14).trans z.1,z.2⟩)
end
noncomputable def Hr(c:Nat):T->Option (List T)
 |.ins d l=>if d=c then ab l else ae
 |_=>ae
def QG{α:Type}{c:Nat}{t:T}{f:List T->Option α}{z:α}{P:Prop}(e:(Hr c t).bind f=ab z)(k:∀l,t=.ins c l->f l=ab z->P):P:=by
 cases t with
 |ins d l=>exact aO e λx e1 e2=>ifs e1 λq e=>k l (q▸rfl) (e▸e2)
 |_=>exact aN e
noncomputable def a4(f:T->T->T->T->Option T):List T->Option T
 |[x,y,z,w]=>f x y z w
 |_=>ae
def QH{z:T}{f:T->T->T->T->Option T}{l:List T}{P:Prop}(e:a4 f l=ab z)(k:∀x y w u,l=[x,y,w,u]->f x y w u=ab z->P):P:=by
 cases l with
 |nil=>exact aN e
 |cons x l=>cases l with
  |nil=>exact aN e
  |cons y l=>cases l with
   |nil=>exact aN e
   |cons w l=>cases l with
    |nil=>exact aN e
    |cons u l=>cases l with|nil=>exact k x y w u rfl e|cons=>exact aN e
noncomputable def pick(d d':T):T:=if d'.ctorIdx=0 then d else d'
noncomputable def Aa(t:T):Bool:=t.ctorIdx==0||t.ctorIdx==2||t.ctorIdx==3
noncomputable def mgE(a r d q a' r' d' q':T):Option T:=cH (λa=>cH (λa'=>cH (λr=>cH (λr'=>(hH a).bind λys=>(hH a').bind λpZ=>if(pZ.length+1<D8/\r.length+r'.length<=lim)/\Aa d'=true/\Aa q'=true then ab (.ins 1 [.lst ((ys.filter (gU pZ)).map .str),.lst (r++r'),pick d d',pick q q'])else ae) r') r) a') a
noncomputable def Ac:List T->Option T:=a2 λx y=>(Hr 1 x).bind λlx=>(Hr 1 y).bind λly=>a4 (λa r d q=>a4 (mgE a r d q) ly) lx
def af6{ts:List T}{t:T}(e:Ac ts=ab t):∃(l1 l2 Ad uT:List T)(d d' q q':T)(ys pZ:List Str),ts=[.ins 1 [.lst l1,.lst l2,d,q],.ins 1 [.lst Ad,.lst uT,d',q']]/\hH l1=ab ys/\hH Ad=ab pZ/\((pZ.length+1<D8/\l2.length+uT.length<=lim)/\Aa d'=true/\Aa q'=true)/\t=.ins 1 [.lst ((ys.filter (gU pZ)).map .str),.lst (l2++uT),pick d d',pick q q']:=by
 refine rb e λx y q ea=>QG ea λlx qx eb=>QG eb λly qy ec=>QH ec λa r d q0 qa ed=>QH ed λa' r' d' QI qa' ee=>eW ee λl1 q1 ef=>eW ef λAd q1' eg=>eW eg λl2 q2 eh=>eW eh λuT q2' ei=>aO ei λys g1 ej=>aO ej λpZ g2 ek=>ifs ek λhg ez=>?_
 clear e ea eb ec ed ee ef eg eh ei ej ek
 subst q;subst qx;subst qy;subst qa;subst qa';subst q1;subst q1';subst q2;subst q2';subst ez
 exact⟨l1,l2,Ad,uT,d,d',q0,QI,ys,pZ,rfl,g1,g2,hg,rfl⟩
def QJ{F:Nat->List T->Option T}{i:Nat}{r:aE}{d d':T}(h:Aa d'=true)(e0:ev F (.attr (.var 0) i) r=ab d)(e1:ev F (.attr (.var 1) i) r=ab d'):ev F (Ho i) r=ab (pick d d'):=by
 show(((ev F (.attr (.var 1) i) r).bind λx=>Lb false x .none).bind λx=>if x.plain=true then(if x.truth=true then ev F (.attr (.var 0) i) r else ev F (.attr (.var 1) i) r)else ae)=_
 rw[e1,e0]
 cases d' with
 |none=>rfl
 |int=>rfl
 |str=>rfl
 |_=>exact ft h
section
variable{X:Kx}{k:Nat}{A:aM}{env:Env}{aH M N:Addr->Prop}{ad:Nat->Addr}{r:aE}{s aP:az}{E:ay->az->Prop}{Q:Flow->az->Prop}{rest:List Stmt}{x dx Cc:Addr}{c:Sc}{ns:List Str}{ts:List T}{vs:List ay}
def WQ.rep{sm:Stmt}{y nm:Str}{i j:Nat}{value:Xp}{t:T}(q:WQ X k A env c aH M N ad r s x dx Cc aP ns ts vs)(hv:∀E,aA (model X.prog X.w) A (eval value env) (Res X N s t) E s)(hp:cZ value=true)(hy:c.slots.lookup y=ab i)(hr:get r i=ab (.ptr x))(hn:iV y=true)(ho:c.own.contains i=false)
  (cl:oh X.K Cc nm) (hj:ns[j]?=ab nm) (h:∀{s' N' v},WQ X k A env c aH M N' ad r s' x dx Cc aP ns (ts.set j t) (vs.set j v)->aA (model X.prog X.w) A (bL rest env) Q E s'):aA (model X.prog X.w) A (bL (jC sm y nm value::rest) env) Q E s:=
 uB (R:=λv aB=>VR X N aB.heap t v) q.m hv hp hy hr hn ho cl (λv hs tk es he=>(rS he).2 j q.m.I.nd hj) q.m.I.nd q.m.I.Cp λ{v aB s' N'}k1 hv mv m n1 n2 n3=>by
  have kc:=mv.kc (N:=λb=>aH b∨M b) (λb h=>.inl (q.tb b h)) λb e=>.inl (e▸q.h0.2)
  exact h ⟨m,(q.acc.trans (Mv.of (M:=λz=>False) k1) λd=>.inl).trans mv λd e=>.inr (e▸q.d0),q.hM,q.h0,q.d0,q.tb,
   ((q.vr.move (λz=>.inl) (k1.kc λb h=>.inl (q.tb b h))).set j (hv.mono λb h=>h.elim (q.m.F.n0 b) (q.m.F.mn b))).move (λz=>.inl) kc⟩
def WQ.new{sm:Stmt}{v:Xp}{y:Str}{i:Nat}(a:At X k A env c N r s)(F:Fw X env c aH M N ad r s.heap)(hM:∀b,M b->aP.heap.objs.size<=b)(k0:Kp X aP s)(tb:∀b∈aV,aH b)(h0:∀b,aH b->b<aP.heap.objs.size)(hx:c.slots.lookup y=ab i)(ho:c.own=[])(hp:cZ v=true)
  (he:∀E,aA (model X.prog X.w) A (eval v env) (λv s'=>∃a dA u l,v=.ref a/\EN X s a s' dA u l) E s)
  (h:∀{s' x dx t7 N' ad' vs},WQ X k A env c t7 M N' ad' (put r i (.ptr x)) s' x dx 175 aP kW [.lst [],.lst [],.none,.none] vs->(∀b,aH b->t7 b)->aP.heap.objs.size<=x->aA (model X.prog X.w) A (bL rest env) Q E s'):
  aA (model X.prog X.w) A (bL (mX sm y v::rest) env) Q E s:=by
 refine i6 (xU (mo (he _) λval aB z=>?_) (mT hp))
 obtain⟨x,dx,u,l,rfl,e⟩:=z
 have U:=rT (P:=λb=>b=x∨b=dx) a F e.kp λb h=>⟨e.ge b (h.imp id .inl),e.lt b (h.imp id .inl)⟩
 have z:=k0.size
 have F1:Fw X env c (λb=>aH b∨(b=x∨b=dx)) M (λb=>N b∨(b=x∨b=dx)) ad r aB.heap:=U.2.grow (λt=>id) U.2.mn (λb h q=>q.elim (U.2.m0 b h) λq=>bx (a.ng.lt b (F.mn b h)) (e.ge b (q.imp id .inl))) λb h=>h.imp (F.n0 b) id
 have nM:∀b,s.heap.objs.size<=b->b∉aV/\¬M b:=λb h=>⟨λq=>bx (a.ng.lt b (a.ng.tb b q)) h,λq=>bx (a.ng.lt b (F.mn b q)) h⟩
 refine l9 false U.1 F1 hx (.ptr x) ft λs' ad' mv a' F'=>⟨rfl,?_⟩
 rw[show j4 false c.own i=c.own by rw[ho];rfl]at a' F'
 have kk:∀{b},s.heap.objs.size<=b->∀o,aB.heap.get? b=ab o->s'.heap.get? b=ab o:=λ{b}h o g=>mv.old b o (nM b h).2 (nM b h).1 g
 obtain⟨nu,gu⟩:=id e.pu
 obtain⟨nl,gl⟩:=id e.pl
 obtain⟨es,n,gd,_⟩:=e.iv.dict
 have ne:∀{o b c:_}{o':Obj},aB.heap.get? b=ab o->aB.heap.get? c=ab o'->o.cls≠o'.cls->b≠c:=λe1 e2 n q=>by rw[q]at e1;exact n (af Obj.cls (Option.some.inj (e1.symm.trans e2)))
 have c1:ay.type "list"≠.ref 175:=λe=>ay.noConfusion e
 have c2:ay.type "list"≠.type "dict":=λe=>aj (ay.type.inj e) (by decide)
 have no:∀{b},s.heap.objs.size<=b->b≠x->b≠dx->¬((aH b∨(b=x∨b=dx))∨M b):=λ{b}h n1 n2 q=>q.elim (λq=>q.elim (λq=>bx (h0 b q) (aD z h)) λq=>q.elim n1 n2) (nM b h).2
 refine h ⟨⟨a',F',e.iv.keep (kk e.a0) (kk e.d0),(nM x e.a0).1,(nM dx e.d0).1,.inr (.inr rfl),(nM dx e.d0).2,(n7 a F e.d0).1,e.ad⟩,((Mv.of (M:=λt=>False) (k0.trans e.kp)).trans mv λd h=>.inr (hM d h)),hM,⟨.inr (.inl rfl),.inr (.inr rfl)⟩,aD z e.d0,λb h=>.inl (tb b h),
  .cons (.lst (vs:=[]) ⟨nu,kk e.u0 _ gu⟩ (no e.u0 (ne gu e.iv.obj c1) (ne gu gd c2)) (dP _) .nil) (.cons (.lst (vs:=[]) ⟨nl,kk e.l0 _ gl⟩ (no e.l0 (ne gl e.iv.obj c1) (ne gl gd c2)) (dP _) .nil) (.cons .none (.cons .none .nil)))⟩ (λb=>.inl) (aD z e.a0)
def aga:dq X (k+3) 186 Ac:=λA N s ts vals t E ra wd ng hv e=>by
 obtain⟨l1,l2,Ad,uT,d,d',q0,QI,ys,pZ,rfl,g1,g2,hg,rfl⟩:=af6 e
 clear e
 have H:Ok ⟨X,λz z=>ae⟩ (k+2):=c9
 refine uj 1 (iM QC) ra wd ng hv rfl λ{env aB M N'}c=>?_
 rw[afT]
 refine WQ.new (c:=oy) c.a c.F c.hM c.kp ng.tb ng.lt (i:=2) rfl rfl rfl (λE=>O2 (k:=k) c.a (by kernel_rfl)) λ{s₂ x dx t7 Pp acR vs}q2 hN0 F7=>?_
 refine q2.rep (i:=2) (j:=0) (afW q2.m.a rfl rfl g1 g2 hg.1.1) rfl rfl rfl rfl rfl (mY (mh (j:=0) rfl)) rfl λ{aX Pr v3}q3=>?_
 refine q3.rep (i:=2) (j:=1) (t:=.lst (l2++uT)) (g7 _ _ z5.2.1 H q3.m.a (ah hg.1.2)) uS.2.1 rfl rfl rfl rfl (mY (mh (j:=1) rfl)) rfl λ{aS GU v4}q4=>?_
 refine q4.rep (i:=2) (j:=2) (g7 _ _ z5.2.2.1 H q4.m.a (QJ hg.2.1 rfl rfl)) uS.2.2.1 rfl rfl rfl rfl (mY (mh (j:=2) rfl)) rfl λ{dC GV v5}q5=>?_
 refine q5.rep (i:=2) (j:=3) (g7 _ _ z5.2.2.2 H q5.m.a (QJ hg.2.2 rfl rfl)) uS.2.2.2 rfl rfl rfl rfl (mY (mh (j:=3) rfl)) rfl λ{nU acT v6}q6=>?_
 refine c8 (qJ (gC q6.m.a (q6.m.a.ptr (i:=2) rfl rfl rfl) rfl rfl ?_))
 obtain⟨es,n,ed,ee⟩:=q6.m.I.dict
 exact⟨q6.acc.kp λz=>id,.ins (c:=1) q6.m.I.obj ed (λq=>bx (ng.lt _ q) F7) (λq=>bx (ng.lt _ q) q6.d0) ee (q6.vr.mono λb h=>.inl (hN0 b h))⟩
end
noncomputable def Hs:T->Option Int:=bH λl=>l.head?.bind (bp ab)
def agc{t:T}{i:Int}{P:Prop}(e:Hs t=ab i)(k:∀ts,t=.tup (.int i::ts)->P):P:=kJ e λl q e=>aO e λu eu e=>fb e λj qj e=>by
 cases l with
 |nil=>exact aN eu
 |cons a l=>cases eu;subst q;subst qj;cases e;exact k l rfl
noncomputable def firstsI(l:List T):Option (List Int):=l.foldr (λt o=>(Hs t).bind λi=>o.map (i::·)) (ab [])
def Ht{l:List T}:∀{is:List Int},firstsI l=ab is->is.length=l.length/\∀(j:Nat)t,l[j]?=ab t->∃i,Hs t=ab i/\is[j]?=ab i:=by
 induction l with
 |nil=>intro is e;cases e;exact⟨rfl,λj t h=>aN h⟩
 |cons a l ih=>
  intro is e
  refine aO e λi e1 ea=>map_some ea λms e2 ez=>?_
  clear e ea
  subst ez
  refine⟨af (· +1) (ih e2).1,λj t h=>?_⟩
  cases j with
  |zero=>cases h;exact⟨i,e1,rfl⟩
  |succ j=>exact(ih e2).2 j t h
def Ae(is:List Int)(j:Nat)(y:ay):Prop:=∃i u,y=.str (bP (toString i)) u/\is[j]?=ab i
abbrev jJ(X:Kx)(A:aM)(s:az)(a g Cc I:Addr)(fp:List Addr)(is:List Int):Prop:=(GenAt X.prog X.w A a g Cc fp [I] (λz=>true) is.length (Ae is) 0 s)/\(∃o,s.heap.get? I=ab o/\¬iB o)/\(∃o,s.heap.get? Cc=ab o/\¬iB o)/\(∀b∈a::Cc::fp,b∉aV)/\(∀b∈a::Cc::fp,b<s.heap.objs.size)/\I∈fp/\sO∈fp/\a≠Cc/\a∉fp/\Cc∉fp/\sO≠I
section
variable(h:jJ X A s a g Cc I fp is)
def jJ.at_:=h.1
def jJ.cI:=h.2.1
def jJ.cC:=h.2.2.1
def jJ.tb:=h.2.2.2.1
def jJ.lt:=h.2.2.2.2.1
def jJ.iF:=h.2.2.2.2.2.1
def jJ.sF:=h.2.2.2.2.2.2.1
def jJ.aC:=h.2.2.2.2.2.2.2.1
def jJ.aF:=h.2.2.2.2.2.2.2.2.1
def jJ.cF:=h.2.2.2.2.2.2.2.2.2.1
def jJ.sI:=h.2.2.2.2.2.2.2.2.2.2
end
def jJ.mv{X:Kx}{A:aM}{s s':az}{a g Cc I:Addr}{fp:List Addr}{is:List Int}{M:Addr->Prop}(G:jJ X A s a g Cc I fp is)(m:Mv X M s s')(h:∀b∈a::Cc::fp,¬M b):jJ X A s' a g Cc I fp is:=by
 have k:∀{b},b∈a::Cc::fp->∀o,s.heap.get? b=ab o->s'.heap.get? b=ab o:=λ{b}hb o e=>m.old b o (h b hb) (G.tb b hb) e
 have kf:∀{b},b∈fp->∀o,s.heap.get? b=ab o->s'.heap.get? b=ab o:=λhb=>k (bS _ (bS _ hb))
 obtain⟨⟨o,nm,qn,ho,r⟩,⟨mc,h2,h2'⟩,gs,h3,h4⟩:=G.at_
 exact⟨⟨⟨o,nm,qn,k bk o ho,r⟩,⟨mc,h2.at' (kf G.sF),h2'⟩,gs,m.gens.2 _ _ h3,λck hal=>h4 ck λb hb o e=>hal b hb o (k (bS _ hb) o e)⟩,G.cI.imp λo q=>⟨kf G.iF _ q.1,q.2⟩,G.cC.imp λo q=>⟨k (bS _ bk) _ q.1,q.2⟩,G.tb,λb hb=>bG (G.lt b hb) m.size,G.iF,G.sF,G.aC,G.aF,G.cF,G.sI⟩
noncomputable def gx:Xp:=aT (st 87 0)
noncomputable def agf(x:Xp):Xp:=if h:x.ctorIdx=11 then Expr.GeneratorExp.elim x h λe z z z=>e else default
noncomputable def genS(x:Xp):d9:=if h:x.ctorIdx=11 then Expr.GeneratorExp.elim x h λz z s z=>s else default
noncomputable def QK(x:Xp):J2:=if h:x.ctorIdx=11 then Expr.GeneratorExp.elim x h λz l z z=>l.getD 0 ⟨default,default,[],0⟩else⟨default,default,[],0⟩
noncomputable def ge:Xp:=agf gx
noncomputable def kZ:Xp:=de ge 0
noncomputable def CU(x:Xp):Xp:=.Constant (.int 0) (cK x) x.pos
noncomputable def QL:Xp:=.GeneratorExp (gE ge (bY (cQ ge) (s_ "str")) [.Subscript (bY (zK kZ) (s_ "tup")) (CU (uK kZ)) kZ.pos]) [⟨bY (QK gx).target (s_ "tup"),bY (QK gx).iter (s_ "w"),[],0⟩] (genS gx) gx.pos
noncomputable def mr:d9:=genS gx
def oz:mr.names=[(s_ ".0",.local),(s_ "tup",.local),(s_ "str",.globalImplicit)]/\mr.kind=.function/\mr.isCoroutine=false:=⟨by kernel_rfl,by kernel_rfl,by kernel_rfl⟩
section
variable{X:Kx}{A:aM}{E:ay->az->Prop}{s:az}
def agg{cenv:Env}{m:Str->Option ay}{t:Addr}{vs:List ay}{i:Int}{u:Tok}(hk:cenv.scope=mr)(hg:s.heap.Ns cenv.globals X.mg)(hb:s.heap.Ns cenv.builtins X.mb)(fG:X.mg (s_ "str")=ab (.type "str")∨(X.mg (s_ "str")=ae/\X.mb (s_ "str")=ab (.type "str")))(hn:s.heap.Ns cenv.locals m)(hm:m (s_ "tup")=ab (.ref t))
  (ht:jX s.heap t (.int i u::vs).toArray) (hi:i.natAbs.log2<1920) {Q:ay->az->Prop} (hQ:∀tk u',Q (.str (bP (toString i)) u') {s with toks:=tk}):
  aA (model X.prog X.w) A (eval (gE ge (bY (cQ ge) (s_ "str")) [.Subscript (bY (zK kZ) (s_ "tup")) (CU (uK kZ)) kZ.pos]) cenv) Q E s:=by
 have kd:∀{x k},mr.names.lookup x=ab k->cenv.kindOf x=ab k:=λe=>by unfold qw;rw[hk];exact e
 have fn:cenv.scope.kind=.function:=by rw[hk];exact oz.2.1
 refine jx (aml fn (kd (by rw[oz.1];rfl)) ?_ rfl)
 have go:aA (model X.prog X.w) A (Dx ge.pos (.type "str") [] (mA ge.pos (jS [.Subscript (bY (zK kZ) (s_ "tup")) (CU (uK kZ)) kZ.pos] cenv)) []) Q E s:=by
  refine qE rfl (ic rfl (eX (EB (wpAny_Name (TB fn (kd (by rw[oz.1];rfl)) hn hm ?_) rfl))))
  refine JI (k:=cK (uK kZ)) (pos:=(uK kZ).pos) ⟨⟨"tuple",_,PySem.F.slot_tuple_getitem.lookup,ht.isTup.typeIs⟩,?_⟩
  exact getItem_tuple (j:=0) (x:=.int i u) ht.isTup (by decide) (by decide) (by rw[bU];exact P2 (i:=0) (eP _)) rfl (gb (PySem.P.str_of_int hi (hQ _ _)))
 exact fG.elim (λe=>amm hg e go) λe=>amn hg e.1 hb e.2 go
end
section
variable{X:Kx}{k:Nat}{A:aM}{env:Env}{c:Sc}{aH M N:Addr->Prop}{ad:Nat->Addr}{r:aE}{s:az}{E:ay->az->Prop}{l:List T}{is:List Int}{ws:List ay}{fp:List Addr}{I Cc:Addr}{cv:ay}{QM:Heap}
def agh(a:At X k A env c N r s):X.mg (s_ "str")=ab (.type "str")∨(X.mg (s_ "str")=ae/\X.mb (s_ "str")=ab (.type "str")):=a.wd.gl _ _ zX.2.1
def At.Hu(a:At X k A env c N r s){b:Addr}(h:b∉aV)(q:b=gJ∨b=jj∨b=sO):¬N b:=λn=>q.elim (a.ng.wd b n h).2.1 λq=>q.elim (a.ng.wd b n h).2.2.1 (a.ng.wd b n h).2.2.2
def agi(a:At X k A env c N r s)(j6:aL X N s.heap l ws)(kP:firstsI l=ab is)(Af:∀i∈is,i.natAbs.log2<1920)(hF:∀b,¬N b->b<s.heap.objs.size->b∈fp/\b≠I)(old:∀b o,b∉aV->s.heap.get? b=ab o->QM.get? b=ab o):
  QuietGen X.prog X.w (genEnv mr [] Cc cv jj env) (s_ "tup") [] (gE ge (bY (cQ ge) (s_ "str")) [.Subscript (bY (zK kZ) (s_ "tup")) (CU (uK kZ)) kZ.pos]) fp [I] (λi v=>ws.toArray[i]?=ab v) (λz=>true) (Ae is) QM:=by
 refine⟨?_,?_⟩
 ·intro A' E' i v s₂ m₂ hA' _ _ _ _
  exact aQ ⟨rfl,_,_,rfl,λz z e=>e⟩
 ·intro A' E' i v aX m₂ hA' hP _ gQ hm i4
  rw[vf]at hP
  have yR:i<l.length:=j6.length▸(iR.mp hP).1
  obtain⟨v',e1,e2⟩:=j6.get (iq yR)
  cases hP.symm.trans e1
  obtain⟨x,e3,e4⟩:=(Ht kP).2 i _ (iq yR)
  refine agc e3 λts e3=>?_
  rw[e3]at e2
  have hb:∀b o,¬N b->s.heap.get? b=ab o->aX.heap.get? b=ab o:=λb o hb e=>i4 b (hF b hb (bw e)).1 (λq=>(hF b hb (bw e)).2 (b4.mp q)) o (old b o (λq=>hb (a.ng.tb b q)) e)
  refine VR.eY (P:=λv=>m₂ (s_ "tup")=ab v->_) e2 (λta Hv ho hN hz l5 hm=>?_) hm
  have Ag:jX aX.heap ta Hv.toArray:=ho.imp λn e=>hb _ _ hN e
  refine aL.tN (P:=λHv=>jX aX.heap ta (oD Hv)->_) l5 (λv0 vs0 hx z Ag=>?_) Ag
  refine VR.eR (P:=λv0=>jX aX.heap ta (oD (v0::vs0))->_) hx (λu Ag=>?_) Ag
  refine agg rfl ?_ (a.wd.b.at' λo e=>hb _ _ (a.Hu (by decide) (.inr (.inl rfl))) e) (agh a) gQ hm Ag (Af x (dZ e4)) λtk u'=>⟨⟨x,u',rfl,e4⟩,⟨_,tk,rfl,λz z e=>e⟩⟩
  show aX.heap.Ns env.globals X.mg
  rw[a.ec.globals]
  exact a.wd.g.at' λo e=>hb _ _ (a.Hu (by decide) (.inl rfl)) e
end
def QN{a b:Array my}(h:nL a b):a.size<=b.size:=by
 by_cases q:a.size<=b.size
 ·exact q
 ·have lt:=xC.mp q
  exact aj (Vj.mp (h.2 _ _ (oF lt))).1 (fN _)
def agl{a:Array my}{x:my}(h:x.bare=true):nL a (a.push x):=
 ⟨λg y hy=>(Array.mem_push.mp hy).elim (g y) λe=>e▸h,λi y e=>by
  have hi:=(Vj.mp e).1
  rw[Array.getElem?_push_lt hi,<-oF hi];exact e⟩
open Classical in
noncomputable def Ah(M:Addr->Prop)(Cc:Addr):List Addr:=(bf Cc).filter λb=>decide (b∉aV/\¬M b)
open Classical in
def sb{M:Addr->Prop}{Cc b:Addr}:b∈Ah M Cc↔b<Cc/\b∉aV/\¬M b:=by
 unfold Ah
 rw[DL,iu,decide_eq_true_eq]
def agm(env:Env):oG mr env=pure []:=by unfold oG;rw[oz.1];rfl
def agn:∀y∈mr.names,y.2≠.cell:=by rw[oz.1];decide
def QO:((86,82,vF):Addr×Addr×Str)∈iD:=dZ (i:=3) rfl
abbrev p0(X:Kx)(A:aM)(M:Addr->Prop)(s s':az)(is:List Int)(b g Cc I:Addr)(fp:List Addr):Prop:=Kp X s s'/\jJ X A.in1.in1 s' b g Cc I fp is/\s.gens.size<=g/\s.heap.objs.size<=b/\s.heap.objs.size<=Cc/\s.heap.objs.size<=I/\∀b∈fp,¬M b
section
variable(h:p0 X A M s s' is b g Cc I fp)
def p0.kp:=h.1
def p0.st:=h.2.1
def p0.gz:=h.2.2.1
def p0.bz:=h.2.2.2.1
def p0.cz:=h.2.2.2.2.1
def p0.iz:=h.2.2.2.2.2.1
def p0.fM:=h.2.2.2.2.2.2
end
section
variable{X:Kx}{k:Nat}{A:aM}{env:Env}{c:Sc}{aH M N:Addr->Prop}{ad:Nat->Addr}{r:aE}{s:az}{l:List T}{is:List Int}
def ago(a:At X k A env c N r s)(F:Fw X env c aH M N ad r s.heap){i:Nat}(hw:c.slots.lookup (s_ "w")=ab i)(hr:get r i=ab (.lst l))(E9:c.own.contains i=false)(kP:firstsI l=ab is)(Af:∀i∈is,i.natAbs.log2<1920)(agp:env.code=.ref 86)(hq:env.qual++"<genexpr>"=vF)(E:ay->az->Prop):
  aA (model X.prog X.w) A (eval QL env) (λv s'=>∃b g Cc I fp,v=.ref b/\p0 X A M s s' is b g Cc I fp) E s:=by
 obtain⟨wv,rdw,vrw⟩:=a.vr hw hr E9
 cases vrw.inv with| @mk wl ws nS QP hwz j6=>
 obtain⟨nw,ew⟩:=id nS
 have wZ:=bw ew
 refine wpAny_GeneratorExp_make oz.2.2 (agm env) agn (by show mr.names.lookup _=_;rw[oz.1];rfl) oz.2.1 a.ra.room (gC a rdw rfl rfl (AS nS.isList ?_)) λx=>rfl
 have k1:Kp X s {s with heap:=s.heap.push {cls:=.type "list_iterator",data:=.fields #[.ref wl,.int 0 0]}}:=Kp.push
 have a1:=a.kp k1
 have Hw:(s.heap.push {cls:=.type "list_iterator",data:=.fields #[.ref wl,.int 0 0]}).get? s.heap.objs.size=ab {cls:=.type "list_iterator",data:=.fields #[.ref wl,.int 0 0]}:=cD _ rfl
 refine⟨a1.wd.nolimit,?_⟩
 rw[hq]
 refine mo (aa4 QO a1.wd.tabs agp) λcv s₂ z=>?_
 obtain⟨k2,rR⟩:=z
 have a2:=a1.kp k2
 obtain⟨bm,ob,Gh,Gi,_,Gj,Gk,Gl,Gm⟩:=a2.wd.tabs.1
 rw[a2.ec.globals]
 refine aon a2.wd.g Gh Gi Gj Gk Gl Gm λh' yX cj=>?_
 have hsz:h'.objs.size=s₂.heap.objs.size+1:=cj.1.trans (fh ..)
 have Bt:∀b o,s₂.heap.get? b=ab o->h'.get? b=ab o:=λb o e=>cj.extBut b o (cW (bw e)) (cS _ e)
 have iZ:=k1.trans k2
 have Hx:s.heap.objs.size∉aV:=λq=>fN _ (a.ng.lt _ (a.ng.tb _ q))
 have IC:s.heap.objs.size<s₂.heap.objs.size:=bG (bw Hw) k2.size
 have Hy:∀b,¬N b->b<s.heap.objs.size->b∈Ah M s₂.heap.objs.size/\b≠s.heap.objs.size:=λb hb e=>⟨sb.mpr ⟨qt e IC,λq=>hb (a.ng.tb b q),λq=>hb (F.mn b q)⟩,cW e⟩
 have iF:s.heap.objs.size∈Ah M s₂.heap.objs.size:=sb.mpr ⟨IC,Hx,λq=>fN _ (a.ng.lt _ (F.mn _ q))⟩
 have sF:=Hy sO (a.Hu (by decide) (.inr (.inr rfl))) (a.wd.nolimit.elim λmc q=>q.1.lt)
 generalize uz:({cls:=.type "generator",data:=.fields #[.int s₂.gens.size 0,.str "<genexpr>" (s₂.toks+1),.str vF (s₂.toks+1+1)]}:Obj)=go
 have up:∀b o,s₂.heap.get? b=ab o->(h'.push go).get? b=ab o:=λb o e=>cS _ (Bt b o e)
 have old:∀b o,b∉aV->s.heap.get? b=ab o->(h'.push go).get? b=ab o:=λb o hb e=>up b o (iZ.old b o hb e)
 have QQ:∀{b},s.heap.objs.size<=b->b∉aV:=λ{b}h q=>bx (a.ng.lt b (a.ng.tb b q)) h
 have bz:s.heap.objs.size<=h'.objs.size:=by rw[hsz];exact vn (cT IC)
 have gg:(h'.push go).get? h'.objs.size=ab go:=cD _ (by rw[<-uz];rfl)
 have hsl:ws.toArray.size=is.length:=by rw[bU,j6.length,(Ht kP).1]
 have zz:(h'.push go).objs.size=s₂.heap.objs.size+1+1:=by rw[fh,hsz]
 refine⟨h'.objs.size,s₂.gens.size,s₂.heap.objs.size,s.heap.objs.size,Ah M s₂.heap.objs.size,rfl,?_,⟨?_,⟨_,up _ _ (k2.old _ _ Hx Hw),nJ rfl (by decide)⟩,?_,?_,?_,iF,sF.1,by rw[hsz];exact xR _,?_,?_,sF.2⟩,QN iZ.gens,bz,cT IC,bj _,λb h=>(sb.mp h).2.2⟩
 ·exact iZ.trans ⟨λb o u e=>up b o e,by rw[zz];exact bX _ 2,yn λb o u e=>up b o e,rfl,agl rfl,λb o u e=>up b o e⟩
 ·rw[<-hsl]
  refine GenAt.fresh (A:=A.in1.in1) (cenv:=genEnv mr [] s₂.heap.objs.size cv jj env) (m:=λy=>if y=".0"then ab (.ref s.heap.objs.size)else ae) a.ra.handled
   (λA' hA=>(Dw hA s.heap.objs.size wl (cW wZ) ws.toArray).mono_fp λb hb=>(br.mp hb).elim (λe=>e▸iF) λe=>b4.mp e▸(Hy _ QP wZ).1) (λu=>true) (Ae is) (by show mr.names.lookup _=_;rw[oz.1];rfl) (by show(mr.kind==ScopeKind.class||(mr.kind==ScopeKind.module&&_))=false;rw[oz.2.1];rfl) oz.2.2
   (λhm=>fN _ (sb.mp hm).1) (agi a j6 kP Af Hy old) ⟨go,_,_,gg,by rw[<-uz],by rw[<-uz],by rw[<-uz]⟩ (Array.getElem?_push_size ..) ⟨⟨_,up _ _ (k2.old _ _ Hx Hw),rfl,rfl⟩,⟨_,old _ _ (λq=>QP (a.ng.tb _ q)) ew,rfl,nw,rfl⟩⟩ (yX.push _) ?_
  exact a.wd.nolimit.imp λmc q=>⟨q.1.at' λo e=>old _ _ (by decide) e,q.2⟩
 ·obtain⟨o,_,_,e,hd,_⟩:=yX
  exact⟨o,cS _ e,oN hd rfl⟩
 ·exactλb hb=>(br.mp hb).elim (λe=>e▸QQ bz) λhb=>(br.mp hb).elim (λe=>e▸QQ (cT IC)) λhb=>(sb.mp hb).2.1
 ·intro b hb
  show b<(h'.push go).objs.size
  rw[zz]
  exact(br.mp hb).elim (λe=>e▸hsz▸il _) λhb=>(br.mp hb).elim (λe=>e▸vp (il _)) λhb=>Vd 2 (sb.mp hb).1
 ·exactλq=>by have q:=(sb.mp q).1;rw[hsz]at q;exact fN _ (Nat.lt_of_succ_lt q)
 ·exactλq=>fN _ (sb.mp q).1
end
noncomputable def QR:S:=.asg 2 (lS "at tab size")
noncomputable def Hz:S:=.bN (.cmp .gt (.prim .len (.cons (.var 0) .nil)) (.lit (.int 1))) (.asg 2 (.bin .add (.var 2) (lS "s"))) .skip
noncomputable def CV:Ex:=.bin .add (.var 2) (lS " ")
noncomputable def fr:Xp:=me (st 87 3)
noncomputable def fj:Xp:=uL fr
def b87:body 87=mX (st 87 0) (s_ "firsts") QL::st 87 1::st 87 2::[.Return (ab (.BinOp (jH fr) .Add (gE fj (.Attribute (kU (cQ fj)) (s_ "join") (cQ fj).pos) [bY (de fj 0) (s_ "firsts")]) fr.pos)) (st 87 3).pos]:=by kernel_rfl
noncomputable def QS:List (Str×Nat):=slots ["w","firsts","prefix"]
def QT:(87,QS,1)∈bt:=dZ (i:=24) (by kernel_rfl)
noncomputable def o7:Sc:=⟨(bC 87).scope.names,QS,[]⟩
def agu:bR QR o7 [st 87 1] []:=Db.is (oX QR o7 [st 87 1]) [] (by kernel_rfl)
def agv:bR Hz o7 [st 87 2] []:=Db.is (oX Hz o7 [st 87 2]) [] (by kernel_rfl)
def agw:Gd CV .bor o7 [jH fr]:=no_implicit_lambda%(@Mb.get (Gd CV .bor o7 [jH fr]) (bo CV .bor o7 [jH fr]) (by kernel_rfl))
def agx:Gd (lS ", ") .val o7 [kU (cQ fj)]:=no_implicit_lambda%(@Mb.get (Gd (lS ", ") .val o7 [kU (cQ fj)]) (bo (lS ", ") .val o7 [kU (cQ fj)]) (by kernel_rfl))
def QU:isCall (kU (cQ fj))=false/\(cQ fj).pos.endLine=fj.pos.line:=⟨by kernel_rfl,by kernel_rfl⟩
def HA:(bC 87).code=.ref 86/\(bC 87).qualname++".<locals>."++"<genexpr>"=vF:=⟨by kernel_rfl,by kernel_rfl⟩
noncomputable def iN(is:List Int):List Str:=is.map λi=>bP (toString i)
noncomputable def jb(n:Nat):Str:=if 1<n then s_ "at tab size"++s_ "s"else s_ "at tab size"
noncomputable def QV:List T->Option T:=a1 (cH λl=>(firstsI l).bind λis=>if is.all (λi=>decide (i.natAbs.log2<1920))=true/\nA (s_ ", ") (iN is)=true/\(fi (s_ ", ") (iN is)).length<=60000 then ab (.str (jb l.length++s_ " "++fi (s_ ", ") (iN is)))else ae)
def QW(n:Nat):D9 (λz=>true) n 0=bf n:=by unfold D9;rw[aof];exact Uu.mpr λz z=>rfl
def agy{is:List Int}{l:List (Str×Tok)}(h:KD (λj y=>∃i,(D9 (λz=>true) is.length 0)[j]?=ab i/\Ae is i y) (nC l).toArray (D9 (λz=>true) is.length 0).length):l.map (·.1)=iN is:=by
 rw[QW]at h
 have hl:l.length=is.length:=by have:=h.1;rw[bU,kr]at this;exact(bK ..).symm.trans this
 refine DV λj=>?_
 unfold iN
 rw[gL,gL]
 by_cases hj:j<is.length
 ·have zU:j<l.length:=hl▸hj
  have e1:(nC l).toArray[j]?=ab (ay.str l[j].1 l[j].2):=by rw[vf];unfold nC;rw[gL,iq zU];rfl
  obtain⟨i,e2,x,u,e3,e4⟩:=h.2 j _ e1
  rw[DU hj]at e2
  cases e2
  rw[iq zU,e4]
  exact af ab (ay.str.inj e3).1
 ·rw[vy (fL.mp hj),vy (hl▸fL.mp hj)]
  rfl
section
variable{X:Kx}{k:Nat}
def agz{aP s s':az}{wr:List Addr}{g tk:Nat}(k:Kp X aP s)(m:qP wr (GenOnlyQ g) s s')(z:s.heap.objs.size<=s'.heap.objs.size)(hw:∀b∈wr,aP.heap.objs.size<=b/\∀o,s.heap.get? b=ab o->¬iB o)(hg:aP.gens.size<=g):Kp X aP {s' with toks:=tk}:=by
 have lt:∀b o,aP.heap.get? b=ab o->b∉wr:=λb o e q=>bx (bw e) (hw b q).1
 refine⟨λb o t e=>m.heap b o (lt b o e) (k.old b o t e),aD k.size z,λh=>yn (λb o t e=>m.heap b o (λq=>(hw b q).2 o e t) e) (k.tabs h),m.os.trans k.os,⟨λh=>m.gens.bare (k.gens.1 h),λi x e=>?_⟩,λb o t e=>m.heap b o (lt b o e) (k.code b o t e)⟩
 have hi:=(Vj.mp e).1
 have e2:=k.gens.2 i x e
 rcases m.gens with h|h
 ·show s'.gens[i]?=_;rw[h];exact e2
 ·show s'.gens[i]?=_;rw[h.1.2 i (cW (bG hi hg))];exact e2
def agA(n:Nat):(jb n++s_ " ").length<=13:=by
 unfold jb
 by_cases h:1<n
 ·rw[ah h];decide
 ·rw[ai h];decide
def agB{A:aM}{N:Addr->Prop}{s:az}{E:ay->az->Prop}{l:List T}{is:List Int}{vals:List ay}(kP:firstsI l=ab is)(Af:∀i∈is,i.natAbs.log2<1920)(hj1:nA (s_ ", ") (iN is)=true)(Ai:(fi (s_ ", ") (iN is)).length<=60000)(nP:l.length<=lim)(ra:RA (k+1) A)(wd:Wd X s.heap)(ng:NG X N s.heap)(hv:aL X N s.heap [.lst l] vals):
  aA (model X.prog X.w) A (call (.ref 87) vals) (Res X N s (.str (jb l.length++s_ " "++fi (s_ ", ") (iN is)))) E s:=by
 refine uj 2 (iM QT) ra wd ng hv rfl λ{env aB M N'}c=>?_
 rw[b87]
 refine i6 (xU (mo (ago c.a c.F (i:=0) rfl rfl rfl kP Af (c.code.trans HA.1) (by rw[c.qual];exact HA.2) _) λgv s₂ z=>?_) (mT rfl))
 obtain⟨b,g,Cc,I,fp,rfl,G⟩:=z
 have new:∀{b},aB.heap.objs.size<=b->¬M b:=λ{b}h q=>bx (c.a.ng.lt b (c.F.mn b q)) h
 have nM:∀d∈b::Cc::fp,¬M d:=λd hd=>(br.mp hd).elim (λe=>e▸new G.bz) λhd=>(br.mp hd).elim (λe=>e▸new G.cz) (G.fM d)
 refine l9 false (c.a.kp G.kp) (c.F.kp c.a G.kp) (k₀:=1) (t:=.ptr b) rfl (.ptr b) ft λaX OC cM a3 F3=>⟨rfl,?_⟩
 have G3:=G.st.mv cM nM
 refine zv (C:=⟨X,λr r=>ae⟩) (r':=[ab (.lst l),ab (.ptr b),ab (.str (s_ "at tab size"))]) c9 agu a3 F3 rfl λ{aS Qe GU ad4}rX a4 F4 n4 m4=>?_
 have G4:=G3.mv rX nM
 have nM4:∀d∈b::Cc::fp,¬Qe d:=λd hd q=>(m4 d q).elim (nM d hd) λq=>bx (G3.lt d hd) q
 have exB:ex (λr r=>ae) Hz [ab (.lst l),ab (.ptr b),ab (.str (s_ "at tab size"))]=ab (.next,[ab (.lst l),ab (.ptr b),ab (.str (jb l.length))]):=by
  have et:a9 (λr r=>ae) (.cmp .gt (.prim .len (.cons (.var 0) .nil)) (.lit (.int 1))) [ab (.lst l),ab (.ptr b),ab (.str (s_ "at tab size"))]=ab (decide (1<l.length)):=af ab (decide_eq_decide.mpr fu)
  unfold jb
  by_cases hl:1<l.length
  ·rw[ah hl];exact ja (et.trans (af ab (ar hl)))
  ·rw[ai hl];exact gH (et.trans (af ab (av hl)))
 refine zv (C:=⟨X,λr r=>ae⟩) c9 agv a4 F4 exB λ{dC Hf GV PV}i8 a5 F5 n5 m5=>?_
 have G5:=G4.mv i8 nM4
 have QX:=agA l.length
 have evX:ev (λr r=>ae) CV [ab (.lst l),ab (.ptr b),ab (.str (jb l.length))]=ab (.str (jb l.length++s_ " ")):=ah (by rw[<-sQ];exact aD QX (by decide))
 refine c8 (qJ (JJ (bl (agw (c9 (k:=k)) a5 evX) λv nU k6 hv6=>?_)))
 have a6:=a5.kp k6
 have G6:=G5.mv (Mv.of (M:=λr=>False) k6) λr r=>id
 refine vU QU.1 QU.2 (by show 1<20;decide) rfl (vl (agx (c9 (k:=k)) a6 rfl) λov t5 k7 ho=>?_)
 obtain⟨ty,rfl⟩:∃t,ov=ay.str (s_ ", ") t:=VR.c6 (P:=λv=>∃t,v=ay.str (s_ ", ") t) ho λt r=>⟨t,rfl⟩
 have a7:=a6.kp k7
 have G7:=G6.mv (Mv.of (M:=λr=>False) k7) λr r=>id
 refine DE (sX _ _ _) T2 DD T5 (λr e=>nomatch e) ?_
 have hp:=jw env fj.pos (es:=[bY (de fj 0) (s_ "firsts")]) rfl
 refine xK hp (ic hp ?_)
 rw[j2 rfl]
 refine eX (gC a7 (a7.ptr (i:=1) rfl rfl rfl) rfl rfl (gb ?_))
 have W:=vD.genexpQ (prog:=X.prog) (w:=X.w) (A:=(A.deeper env).in1.in1) a7.ra.handled b g Cc fp [I] (λr=>true) is.length (Ae is) G7.aC G7.aF (λd hd=>b4.mp hd▸G7.iF) a7.ra.room G7.sF (λq=>G7.cF (q▸G7.sF)) λq=>G7.sI (b4.mp q)
 have hpn:(D9 (λr=>true) is.length 0).length<=lim:=by rw[QW,kr,(Ht kP).1];exact nP
 refine fe (SC.joinGen W (λi s h=>h.1.typeIs) G7.at_ (λd hd=>G7.lt d hd) bk (λi v h=>h.elim λi h=>h.2.elim λx h=>h.elim λu e=>⟨_,_,e.1⟩) (λCC ll hm hi=>?_) (dS hpn))
 rw[agy hi]
 refine⟨hj1,λt' tk hz=>?_⟩
 have wG:=c.kp.size
 have w7:Kp X s t5:=by
  have w0:=(Mv.of (M:=λr=>False) (c.kp.trans G.kp)).trans cM λd h=>.inr (c.hM d h)
  exact(((w0.trans rX λd h=>.inr (c.hM d h)).trans i8 λd h=>.inr ((m4 d h).elim (c.hM d) λq=>aD w0.size q)).kp λr=>id).trans (k6.trans k7)
 have CD:Kp X s {CC with toks:=tk}:=agz w7 hm hz (λd hd=>(br.mp hd).elim (λe=>e▸⟨aD wG G.cz,λo e=>G7.cC.elim λo' q=>Option.some.inj (q.1.symm.trans e)▸q.2⟩) λhd=>b4.mp hd▸⟨aD wG G.iz,λo e=>G7.cI.elim λo' q=>Option.some.inj (q.1.symm.trans e)▸q.2⟩) (aD (QN c.kp.gens) G.gz)
 obtain⟨tv,rfl,lv⟩:=hv6.str
 refine mo (BB (o:=.add) (x:=.str (jb l.length++s_ " ")) (y:=.str (fi (s_ ", ") (iN is))) (z:=.str (jb l.length++s_ " "++fi (s_ ", ") (iN is))) (ah (aD (eA QX Ai) (by decide))) (.of (.str _ _ lv)) (.of (.str _ _ (aD Ai (by decide)))) (ng.kp CD)) λw aqP z=>⟨CD.trans z.1.1,z.1.2⟩
def agI:dq X (k+1) 87 QV:=λA N s ts vals t E ra wd ng hv e=>by
 refine tR e λx q e=>eW e λl ql e=>aO e λis kP e=>ifs e λhg et=>?_
 subst q;subst ql;subst et
 refine agB kP (λi hi=>aq (bA.mp hg.1 i hi)) hg.2.1 hg.2.2 ?_ ra wd ng hv
 exact aL.oO (P:=λz=>l.length<=lim) hv λv h=>VR.eQ (P:=λz=>l.length<=lim) h λz z z z hz z=>hz
end
noncomputable def aJ(f:Nat):List T->Option T:=([(2,wR),(3,mq),(6,Qs),(7,Ac),(8,O8),(14,QV),(15,P6),(17,GB),(28,OM)].lookup f).getD λz=>ae
def agJ:[2,3,6,7,8,14,15,17].map (λf=>(nI f).bind d4)=[108,115,137,186,198,87,76,193].map λa=>ab (.ref a):=by kernel_rfl
def agK:(232,Ov,1)∈bt:=dZ (i:=25) (by kernel_rfl)
noncomputable def Aj:Nat:=86
section
variable{X:Kx}
def sd{f a:Nat}{v:ay}(i:Nat)(hf:[2,3,6,7,8,14,15,17][i]?=ab f)(ha:[108,115,137,186,198,87,76,193][i]?=ab a)(g:(nI f).bind d4=ab v)(h:oU X 68 (.ref a) (aJ f)):oU X 68 v (aJ f):=by
 have e:(List.map (λf=>(nI f).bind d4) [2,3,6,7,8,14,15,17])[i]?=(List.map (λa=>ab (ay.ref a)) [108,115,137,186,198,87,76,193])[i]?:=af (·[i]?) agJ
 rw[gL,gL,hf,ha]at e
 cases (Option.some.inj e).symm.trans g
 exact h
def QY:F9 X aJ 68 where
 call:=λf x v hf e hv=>by
  have g:(nI f).bind d4=ab v:=by rw[e];exact hv
  refine(br.mp hf).elim (λq=>q▸sd 0 rfl rfl (q▸g) (dq.call (adM (k:=0)) (iM PO).at_)) λhf=>?_
  refine(br.mp hf).elim (λq=>q▸sd 1 rfl rfl (q▸g) (dq.call (aef (k:=0)) (iM P1).at_)) λhf=>?_
  refine(br.mp hf).elim (λq=>q▸sd 2 rfl rfl (q▸g) (dq.call (afj (k:=67)) ⟨_,(Qr _).1,rfl⟩)) λhf=>?_
  refine(br.mp hf).elim (λq=>q▸sd 3 rfl rfl (q▸g) (dq.call (aga (k:=65)) (iM QC).at_)) λhf=>?_
  refine(br.mp hf).elim (λq=>q▸sd 4 rfl rfl (q▸g) (dq.call (acW (k:=65)) (iM O5).at_)) λhf=>?_
  refine(br.mp hf).elim (λq=>q▸sd 5 rfl rfl (q▸g) (dq.call (agI (k:=67)) (iM QT).at_)) λhf=>?_
  refine(br.mp hf).elim (λq=>q▸sd 6 rfl rfl (q▸g) (dq.acf (aez (k:=66)) (O1 _).2)) λhf=>?_
  refine(br.mp hf).elim (λq=>q▸λA N s pos trees ts t E ra wd ng hp et=>aN et) λhf=>?_
  refine(br.mp hf).elim (λq=>q▸sd 7 rfl rfl (q▸g) (O3 (k:=67))) λhf=>?_
  rw[b4.mp hf]at e
  exact aN e
 Oh:=rj.mono (abW (C:=⟨X,λz z=>ae⟩) (k:=0) c9) (by decide)
 Ga:=Gx
 cat:=GA
def agL:∀n,Ok ⟨X,Fn aJ n⟩ (68+n):=by
 intro n
 induction n with
 |zero=>exact aaY QY
 |succ n ih=>exact step QY (aD (bX 68 n) (gy _)) ih
def agM:dq X (68+60+1) 232 (kQ (Fn aJ 60) zt Aj 1):=by
 obtain⟨o,hc⟩:=Db.get _ abj
 exact NL (C:=⟨X,Fn aJ 60⟩) (agL 60) zt Aj (iM agK) hc
end
noncomputable def QZ:Data->Option (Array jh)
 |.dict es _=>ab es
 |_=>ae
def agN{d:Data}{es:Array jh}(h:QZ d=ab es):∃n,d=.dict es n:=by cases d with|dict iJ n=>cases h;exact⟨n,rfl⟩|_=>exact aN h
noncomputable def Ak(P:dY)(x:Str):Option (Option ay):=((KK P).lookup gJ).bind λo=>(QZ o.data).map λes=>nsFind es x
def agO(P:dY):globT.map (λp=>Ak P p.1)=globT.map λp=>ab (ab p.2):=by kernel_rfl
def agP(P:dY):Bp.map (λp=>(Ak P p.1,bootBuiltins p.1))=Bp.map λp=>(ab ae,ab p.2):=by kernel_rfl
def agQ:Bp.all (λp=>p.1 !=("__name__":Str))=true:=by kernel_rfl
def Q0(P:dY):Ak P (s_ "law")=ab (ab (.ref 232))/\Ak P (s_ "format_witnesses")=ab (ab (.ref 87)):=⟨by kernel_rfl,by kernel_rfl⟩
def mg_of{P:dY}{h:Heap}{mg:Str->Option ay}(K:(KK P).In h)(g:h.Ns gJ mg){x:Str}{r:Option ay}(e:Ak P x=ab r):mg x=r:=aO e λo ho e=>map_some e λes hd e=>by
 obtain⟨n,hd⟩:=agN hd
 obtain⟨o',iJ,XA,e1,e2,_,e4⟩:=g
 cases (K _ _ ho).symm.trans e1
 cases hd.symm.trans e2
 rw[<-e4];exact e
def agR{P:dY}{h:Heap}{mg mb:Str->Option ay}(K:(KK P).In h)(g:h.Ns gJ mg)(hb:∀x:Str,x≠"__name__"->mb x=bootBuiltins x)(x:Str)(v:ay)(hv:d4 x=ab v):mg x=ab v∨(mg x=ae/\mb x=ab v):=by
 refine(vk.mp (lookup_mem hv)).imp (λhx=>mg_of K g (jV.mp (agO P) _ hx)) λhx=>?_
 have e:=jV.mp (agP P) _ hx
 exact⟨mg_of K g (af (·.1) e),(hb x (bne_iff_ne.mp (bA.mp agQ _ hx))).trans (af (·.2) e)⟩
def HB(P:dY):(aV.all (λa=>((KK P).lookup a).isNone)=true/\iD.all (λe=>codeHdIn (KK P) e.1 e.2.1)=true)/\(KK P).lookup 87=ab (ob P 87)/\(ob P 87).data=.func (bC 87):=⟨⟨by kernel_rfl,by kernel_rfl⟩,by kernel_rfl,by kernel_rfl⟩
def agS{X:Kx}{N:Addr->Prop}{h:Heap}{P:dY}{l:List Int}:∀{vs:List ay},WellAll P h vs (l.map Vk)->aL X N h (l.map T.int) vs:=by
 induction l with
 |nil=>intro vs x;cases x;exact .nil
 |cons i l ih=>
  intro vs x
  obtain⟨v,vs,rfl,a,b⟩:=wellAll_cons_inv x
  exact .cons (by cases a;exact .int _ _) (ih b)
def Q1:Prop:=∀l:List Int,l.length<=63->kQ (Fn aJ 60) zt Aj 1 [.lst (l.map .int)]=ab (.bool true)
def b8{b:Addr}(h:b∈aV){P:Addr->Prop}(k:∀e∈iD,P e.2.1):P b:=by
 obtain⟨t,ht,q⟩:=xw.mp (bA.mp KS b h)
 exact ao q▸k t ht
def Ra{h:Heap}{P:dY}(K:(KK P).In h):∀e∈iD,AL h e.1 e.2.1:=λe he=>codeHd_of_K K (bA.mp (HB P).1.2 e he)
section
variable{vw:gK}{w:gY}{aB:az}{mg mb:Str->Option ay}{prog:gK}{HC:ExcName->Option ay}{loose:List Str}
def agT(HD:(recsOf vw).any (λd=>d.name==s_ "format_witnesses")=true)(TP:Top vw loose HC mg mb aB.heap)(K:(KK w.params).In aB.heap)(ht:∀P∈([188,110,103]:List Addr),aB.heap.get? P=ab (oC #[])):∀b∈aV,aB.heap.get? b=ab (oC #[]):=by
 have h82:aB.heap.get? 82=ab (oC #[]):=by
  obtain⟨d,hd,hn⟩:=xw.mp HD
  obtain⟨fa,o,fd,c,P,e1,e2,e3,e4,e5,e6⟩:=TP.tab d hd
  rw[ao hn]at e1
  cases (mg_of K TP.g (Q0 w.params).2).symm.trans e1
  cases (K _ _ (HB w.params).2.1).symm.trans e2
  rw[(HB w.params).2.2]at e3
  cases e3
  rw[HA.1]at e4
  cases e4
  obtain⟨⟨o,vs,g1,g2,g3,g4⟩,g5⟩:=e6
  obtain⟨o',j1,_,_,_,_,_,_,_,f1,f2,f3,f4,_⟩:=Ra K (86,82,vF) QO
  cases g1.symm.trans f1
  cases g3.symm.trans f3
  cases g4.symm.trans f4
  exact g5
 exactλb hb=>(br.mp hb).elim (λe=>ht b (e▸bk)) λhb=>(br.mp hb).elim (λe=>ht b (e▸bS _ bk)) λhb=>(br.mp hb).elim (λe=>ht b (e▸bS _ (bS _ bk))) λhb=>b4.mp hb▸h82
def agV(TP:Top vw loose HC mg mb aB.heap):KQ mg aB.heap:=by
 obtain⟨bm,ob,e1,e2,e3,e4,e5,e6⟩:=TP.bmain
 refine⟨bm,ob,e1,e2,λq=>?_,e3,e4,e5,e6⟩
 subst q
 obtain⟨o,_,_,g1,g2,_⟩:=TP.g
 cases e3.symm.trans g1
 cases e6.symm.trans g2
def agW(l:List Int):ofPy (.list (l.map .int))=.list (l.map Vk):=by
 rw[ofPy]
 refine af WData.list ?_
 induction l with
 |nil=>rfl
 |cons i l ih=>exact af (Vk i::·) ih
def agX{h:Heap}(hd:∀e∈iD,AL aB.heap e.1 e.2.1)(kT:∀b∈aV,aB.heap.get? b=ab (oC #[]))(t:kA mg h)(b:Addr)(hb:b∈aV):asItWas aB.heap h b (oC #[])/\∃o',h.get? b=ab o':=by
 refine b8 (P:=λb=>asItWas aB.heap h b (oC #[])/\∃o',h.get? b=ab o') hb λe he=>?_
 obtain⟨_,ps,g1,_⟩:=t.2 e he
 obtain⟨o',j1,_,_,_,_,_,_,_,f1,f2,f3,f4,_⟩:=hd e he
 refine⟨.inr (.inl ⟨⟨_,o',j1,f1,f2,f3,f4⟩,rfl,#[],ps,rfl,?_⟩),_,g1⟩
 rw[g1]
 show ab (oC ps)=ab (oC (#[]++ps))
 rw[Array.empty_append]
def agY(PL:Q1)(HD:(recsOf vw).any (λd=>d.name==s_ "format_witnesses")=true)(TP:Top vw loose HC mg mb aB.heap)(K:(KK w.params).In aB.heap)(ht:∀P∈([188,110,103]:List Addr),aB.heap.get? P=ab (oC #[]))
  (hg:aB.gens= #[]) {l:List Int} (hl:l.length<=63) {a:Addr} (hw:Well w.params aB.heap (.ref a) (ofPy (.list (l.map .int)))) {Q:ay->az->Prop} {E:ay->az->Prop}
  (hQ:∀s',OldK aB.heap s'.heap->s'.os=aB.os->AllBare s'.gens->Q (.bool true) s'):aA (model prog w) callerA (call (.ref 232) [.ref a]) Q E aB:=by
 have kT:=agT HD TP K ht
 have hd:=Ra K
 have tabs:kA mg aB.heap:=⟨agV TP,λe he=>⟨hd e he,#[],kT _ (jo.mp (bA.mp KU e he)),(by first|trivial|exact .nil|(unfold Dl;trivial)),λpos cv e=>aN e⟩⟩
 have wd:Wd ⟨prog,w,mg,mb⟩ aB.heap:=⟨K,TP.g,TP.b,TP.nolimit,TP.nodigits,tabs,agR K TP.g TP.builtins⟩
 have ng:NG ⟨prog,w,mg,mb⟩ (λb=>b∈aV) aB.heap:=⟨λb hb=>hb,λb hb=>bw (kT b hb),λb hb q=>(q hb).elim⟩
 rw[agW]at hw
 obtain⟨vs,nS,j6⟩:∃vs,aB.heap.get? a=ab {cls:=.type "list",data:=.seq (oD vs)}/\aL ⟨prog,w,mg,mb⟩ (λb=>b∈aV) aB.heap (l.map T.int) vs:=by
  cases hw with
  |list h1 h2=>exact⟨_,h1,agS h2⟩
 have hv:aL ⟨prog,w,mg,mb⟩ (λb=>b∈aV) aB.heap [.lst (l.map .int)] [.ref a]:=.one (.lst ⟨_,nS⟩ (λq=>by cases (kT a q).symm.trans nS) (by rw[bK];exact aD hl (by decide)) j6)
 have ra:RA (68+60+1) callerA:=⟨rfl,rfl,by decide,by decide⟩
 refine mo (agM (X:=⟨prog,w,mg,mb⟩) E ra wd ng hv (PL l hl)) λv s' z=>?_
 obtain⟨kp,vr⟩:=z
 have vr:v=.bool true:=vr.inv
 subst vr
 have agZ:=kp.tabs tabs
 have key:=agX hd kT agZ
 refine hQ s' ⟨λb o e=>?_,λb o e=>?_⟩ kp.os (kp.gens.1 (by rw[hg];exactλy hy=>aj hy (Array.not_mem_empty y)))
 ·by_cases hb:b∈aV
  ·cases e.symm.trans (kT b hb);exact(key b hb).1
  ·exact .inl (kp.old b o hb e)
 ·by_cases hb:b∈aV
  ·exact(key b hb).2
  ·exact⟨o,kp.old b o hb e⟩
end
end Mine
namespace Mine.Z
section
variable{F:Nat->List T->Option T}{r r':aE}{a b c:Ex}{x y z u:T}{l:List T}{k:Nat}{fz:List Nat}{σ:S}
def dH(h:ev F a r=ab x):ex F (.asg k a) r=ab (.next,put r k x):=af (·.bind λt=>cb (put r k t)) h
def Al(h:ev F a r=ab x)(ho:x.obj=true):ex F (.own k a) r=ab (.next,put r k x):=(af (·.bind λt=>if t.obj=true then cb (put r k t)else ae) h).trans (ah ho)
def nh{ks:List Nat}(h:ev F a r=ab (.tup l))(hp:putAll r ks l=ab r'):ex F (.fA ks a) r=ab (.next,r'):=(af (·.bind (bH λl=>(putAll r ks l).bind cb)) h).trans (af (·.bind cb) hp)
def ni{ks:List Nat}{es:List (Option Ex)}(h:pF F r es=ab l)(hl:l.length<=lim)(hp:putAll r ks l=ab r'):ex F (.fP ks es) r=ab (.next,r'):=(af (·.bind λl=>if l.length<=lim then(putAll r ks l).bind cb else ae) h).trans ((ah hl).trans (af (·.bind cb) hp))
def o8{o:iG}(hk:get r k=ab x)(h:ev F a r=ab y)(ho:oR o x y=ab z):ex F (.aug k o a) r=ab (.next,put r k z):=by
 show((get r k).bind λx=>(ev F a r).bind λy=>(oR o x y).bind λz=>cb (put r k z))=_
 rw[hk,h]
 exact af (·.bind λz=>cb (put r k z)) ho
def se(hk:get r k=ab (.lst l))(h:ev F a r=ab y)(hz:l.length+1<=lim):ex F (.app k a) r=ab (.next,put r k (.lst (l++[y]))):=by
 show((get r k).bind (cH λl=>(ev F a r).bind λy=>if l.length+1<=lim then cb (put r k (.lst (l++[y])))else ae))=_
 rw[hk,h]
 exact ah hz
def ag0{m:List T}(hk:get r k=ab (.lst l))(h:ev F a r=ab (.lst m))(hz:l.length+m.length<=lim):ex F (.ext k a) r=ab (.next,put r k (.lst (l++m))):=by
 show((get r k).bind (cH λl=>(ev F a r).bind (cH λm=>if l.length+m.length<=lim then cb (put r k (.lst (l++m)))else ae)))=_
 rw[hk,h]
 exact ah hz
def sf(h:ev F a r=ab x):ex F (.ret fz a) r=ab (.ret x,r):=af (·.bind λt=>ab (Fl.ret t,r)) h
def sq{aB s₂:S}{p:Option (Fl×aE)}(h:ex F aB r=ab (.next,r'))(q:ex F s₂ r'=p):ex F (.seq aB s₂) r=p:=(wU h).trans q
def sr{aB s₂:S}(h:ex F aB r=ab (.ret x,r')):ex F (.seq aB s₂) r=ab (.ret x,r'):=af (·.bind (mP (ex F s₂))) h
def jK{v:Bool}(h:ev F a r=ab x)(hp:x.plain=true)(hv:x.truth=v):a9 F a r=ab v:=(af (·.bind λx=>if x.plain=true then ab x.truth else ae) h).trans ((ah hp).trans (af ab hv))
def HE{n m:Nat}{ts:List T}(hl:ts.length=m)(h:ex F σ (start n ts)=ab (.ret x,r')):kQ F σ n m ts=ab x:=(ah hl).trans (af (·.bind cw) h)
def jc{L f:Nat}{ts:List T}{w:Row}(h:rowOf f=ab w)(hc:(w.c==9||zo w.c ts)=true)(q:kQ (Fn aJ L) w.σ w.n w.m ts=ab x):Fn aJ (L+1) f ts=ab x:=(Ce h).trans ((ah hc).trans q)
def aR{o:iG}(ha:ev F a r=ab x)(hb:ev F b r=ab y)(ho:a8 o x y=ab z):ev F (.bin o a b) r=ab z:=by
 show((ev F a r).bind λx=>(ev F b r).bind λy=>a8 o x y)=_
 rw[ha,hb];exact ho
def fK{o:qS}{v:Bool}(ha:ev F a r=ab x)(hb:ev F b r=ab y)(ho:qT o x y=ab v):ev F (.cmp o a b) r=ab (.bool v):=by
 show((ev F a r).bind λx=>(ev F b r).bind λy=>(qT o x y).map T.bool)=_
 rw[ha,hb];exact af (·.map T.bool) ho
def aI(ha:ev F a r=ab x)(hb:ev F b r=ab (.tup l)):ev F (.cons a b) r=ab (.tup (x::l)):=by
 show((ev F a r).bind λx=>(ev F b r).bind (bH λl=>ab (T.tup (x::l))))=_
 rw[ha,hb];rfl
def jd(ha:ev F a r=ab (.tup l))(h:l.length<=lim):ev F (.tup a) r=ab (.tup l):=(af (·.bind (bH λl=>if l.length<=lim then ab (T.tup l)else ae)) ha).trans (ah h)
def lb(ha:ev F a r=ab (.tup l))(h:l.length<=lim):ev F (.lst a) r=ab (.lst l):=(af (·.bind (bH λl=>if l.length<=lim then ab (T.lst l)else ae)) ha).trans (ah h)
def c5{f:Nat}(ha:ev F a r=ab (.tup l))(hf:F f l=ab z):ev F (.call f a) r=ab z:=(af (·.bind (bH (F f))) ha).trans hf
def fX{f:Nat}(ho:ev F b r=ab y)(ha:ev F a r=ab (.tup l))(hf:F f (y::l)=ab z):ev F (.bE f b a) r=ab z:=by
 show((ev F b r).bind λx=>(ev F a r).bind (bH λl=>F f (x::l)))=_
 rw[ho,ha];exact hf
def iO{p:Prim}(ha:ev F a r=ab (.tup l))(hf:gO p l=ab z):ev F (.prim p a) r=ab z:=(af (·.bind (bH (gO p))) ha).trans hf
def o9{p:SM}(ho:ev F b r=ab y)(ha:ev F a r=ab (.tup l))(hf:iU p y l=ab z):ev F (.sm p b a) r=ab z:=by
 show((ev F b r).bind λx=>(ev F a r).bind (bH (iU p x)))=_
 rw[ho,ha];exact hf
def gp(ha:ev F a r=ab x)(hb:ev F b r=ab y)(ho:kC x y=ab z):ev F (.idx a b) r=ab z:=by
 show((ev F a r).bind λx=>(ev F b r).bind λy=>kC x y)=_
 rw[ha,hb];exact ho
def Am{rv:Bool}(ha:ev F a r=ab x)(hb:ev F b r=ab y)(hc:ev F c r=ab u)(ho:mL rv x y u=ab z):ev F (.cY rv a b c) r=ab z:=by
 show((ev F a r).bind λx=>(ev F b r).bind λy=>(ev F c r).bind λz=>mL rv x y z)=_
 rw[ha,hb,hc];exact ho
def xa{w:Bool}(hc:ev F c r=ab u)(hp:u.plain=true)(hw:u.truth=w)(h:ev F (if w=true then a else b) r=ab z):ev F (.ite c a b) r=ab z:=by
 show((ev F c r).bind λx=>if x.plain=true then(if x.truth=true then ev F a r else ev F b r)else ae)=_
 rw[hc]
 refine(ah hp).trans ?_
 rw[hw]
 cases w with
 |true=>exact h
 |false=>exact h
def Rb{cnd:aE->Option Bool}{f:aE->Option (Fl×aE)}{n:Nat}{p:Option (Fl×aE)}(h1:cnd r=ab true)(h2:f r=ab (.next,r'))(h3:nO cnd f n r'=p):nO cnd f (n+1) r=p:=by
 show((cnd r).bind λb=>if b=true then(f r).bind (nN (nO cnd f n))else ab (.next,r))=_
 rw[h1,h2];exact h3
def Rf{cnd:aE->Option Bool}{f:aE->Option (Fl×aE)}{n:Nat}(h1:cnd r=ab false):nO cnd f (n+1) r=ab (.next,r):=af (·.bind λb=>if b=true then(f r).bind (nN (nO cnd f n))else ab (.next,r)) h1
def uU{f:T->aE->Option (Fl×aE)}{l:List T}{p:Option (Fl×aE)}(h:f x r=ab (.next,r'))(q:b6 f l r'=p):b6 f (x::l) r=p:=(af (·.bind (nN (b6 f l))) h).trans q
end
section
variable{a b n h:Nat}
def si(h:b<=a):a8 .sub (iT a) (iT b)=ab (iT (a - b)):=af (λi=>ab (T.int i)) (yf h).symm
def uV(h:bc (a:Int)+n<=1000000):a8 .shl (iT a) (iT n)=ab (iT (a*2^n)):=by
 show(if(0:Int)<=(n:Int)/\(bc (a:Int):Int)+(n:Int)<=1000000 then ab (T.int ((a:Int)*(2^(n:Int).toNat)))else ae)=_
 rw[ah ⟨cy _,dh.mpr h⟩,G1,<-Dt]
 rfl
def HF(h:bc (a:Int)+bc (b:Int)<=1000000):a8 .mul (iT a) (iT b)=ab (iT (a*b)):=(ah (dh.mpr h)).trans rfl
def Rg(a b:Nat):Dn (a:Int) (b:Int)=((a&&&b:Nat):Int):=by
 unfold Dn
 rw[ar (cy _),ar (cy _)]
 rfl
def An:a8 .band (iT a) (iT (2^h - 1))=ab (iT (a%2^h)):=af (λi=>ab (T.int i)) ((Rg a _).trans (af (λn:Nat=>(n:Int)) (Nat.and_two_pow_sub_one_eq_mod a h)))
def Rh(hb:b<2^h):a8 .bor (iT (a*2^h)) (iT b)=ab (iT (a*2^h+b)):=by
 refine af (λi=>ab (T.int i)) ?_
 rw[aoO,Rg]
 have e:a*2^h&&&b=0:=by
  refine aoL λi=>?_
  rw[aoM,Nat.zero_testBit,<-aoP,aoN]
  by_cases q:i≥h
  ·rw[Nat.testBit_lt_two_pow (bG hb (vC (by decide) q)),UI]
  ·rw[av q,JY,JY]
 rw[e]
 exact JT _
end
def D2(L B:Nat):Prop:=∀a b n:Nat,1<=n->n<=B->n<=20000->2^(n - 1)<=b->b<2^n->a<b*2^n->Fn aJ L 0 [iT a,iT b,iT n]=ab (.tup [iT (a/b),iT (a%b)])
def D3(L B:Nat):Prop:=∀dt a3 b b1 b2 n:Nat,1<=n->n<=B->n<=20000->2^(n - 1)<=b1->b1<2^n->b2<2^n->a3<2^n->b=b1*2^n+b2->dt<b->
 Fn aJ L 1 [iT dt,iT a3,iT b,iT b1,iT b2,iT n]=ab (.tup [iT ((dt*2^n+a3)/b),iT ((dt*2^n+a3)%b)])
noncomputable def rI(A b i:Nat):T:=.int ((A%b:Nat) - (i:Int)*b)
noncomputable def w3(F:Nat->List T->Option T):aE->Option (Fl×aE):=ex F (.seq (.aug 6 .sub (.lit (.int 1))) (.seq (.aug 7 .add (.var 2)) .skip))
def wh3{F:Nat->List T->Option T}{x0 x1 x3 x4 x5:Option T}{A b Q:Nat}(hb:0<b)(m:Nat):∀i,nO (a9 F (.cmp .lt (.var 7) (.lit (.int 0)))) (w3 F) (m+1+i) [x0,x1,ab (iT b),x3,x4,x5,ab (iT (Q+i)),ab (rI A b i)]=ab (.next,[x0,x1,ab (iT b),x3,x4,x5,ab (iT Q),ab (iT (A%b))]):=by
 intro i
 induction i with
 |zero=>
  have e:rI A b 0=iT (A%b):=af T.int (by show((A%b:Nat):Int) - 0*b=_;rw[Int.zero_mul,JT])
  rw[e]
  refine Rf ?_
  show ab (decide (((A%b:Nat):Int)<0))=ab false
  exact af ab (av (lA.mpr (cy _)))
 |succ i ih=>
  have e:((A%b:Nat):Int) - ((i+1:Nat):Int)*b+b=(A%b:Nat) - (i:Int)*b:=by rw[tJ,apw,Vl,nF,<-Vm,Int.sub_add_cancel]
  refine Rb ?_ (r':=[x0,x1,ab (iT b),x3,x4,x5,ab (iT (Q+i)),ab (rI A b i)]) ?_ ih
  ·show ab (decide (((A%b:Nat):Int) - ((i+1:Nat):Int)*b<0))=ab true
   refine af ab (ar ?_)
   have h1:=fu.mpr (iw A hb)
   have h2:(0:Int)<=(i:Int)*b:=Int.mul_nonneg (cy _) (cy _)
   rw[tJ,apw,Vl,nF]
   exact Int.sub_neg_of_lt (AQ h1 (Int.le_add_of_nonneg_left h2))
  ·show ab (Fl.next,[x0,x1,ab (iT b),x3,x4,x5,ab (T.int (((Q+(i+1):Nat):Int) - 1)),ab (T.int (((A%b:Nat):Int) - ((i+1:Nat):Int)*b+b))])=_
   rw[e,show((Q+(i+1):Nat):Int) - 1=((Q+i:Nat):Int)from qN (a:=((Q+i:Nat):Int)) (b:=1)]
   rfl
abbrev Q3(A b b2 n ρ a3 q:Nat):Prop:=q<2^n/\ρ<2^(n+1)/\A/b<=q/\q - A/b<=2/\((ρ*2^n+a3:Nat):Int) - ((q*b2:Nat):Int)=(A%b:Nat) - ((q - A/b:Nat):Int)*b
section
variable{b2 a3:Nat}(h:Q3 A b b2 n ρ a3 q)
def Q3.qn:=h.1
def Q3.ρn:=h.2.1
def Q3.le:=h.2.2.1
def Q3.two:=h.2.2.2.1
def Q3.eq:=h.2.2.2.2
end
def q3l{X Y s d r A:Int}(e1:s+X=A+Y)(e2:d+r=A):X - Y=r - (s - d):=by
 subst e2
 rw[show X=d+r+Y - s from(Int.sub_eq_iff_eq_add.mpr (e1.symm.trans (vB _ _))).symm,Vm,vB s Y,<-Vm,qN,vB d,Int.add_sub_assoc,KN (a:=r),apx]
def q3{dt a3 b b1 b2 n q ρ:Nat}(uX:2^(n - 1)<=b1)(fU:1<=n)(nj:b2<2^n)(hb:b=b1*2^n+b2)(hq:q*b1+ρ=dt)(rB:ρ*2^n+a3<q*b2+b)(Ri:q<2^n)(ag5:ρ<2^(n+1)):Q3 (dt*2^n+a3) b b2 n ρ a3 q:=by
 have hp:=fy n
 have o6:0<b:=by
  rw[hb];exact U3 (Vn (bG (fy _) uX) hp) _
 generalize hA:dt*2^n+a3=A
 have HG:q*b+(ρ*2^n+a3)=A+q*b2:=by
  rw[<-hA,<-hq,hb,Kv,Ea,yg]
  exact(ky _ _ _).trans (by rw[gZ _ (ρ*2^n)])
 have rQ:A/b<=q:=ku ((pA o6).mpr (by rw[nB];exact apy (n:=q*b2) (by rw[<-HG,gZ,eK b];exact yk rB _)))
 have ag6:q*b2<=2*b:=by
  have h1:q*b2<=2^n*2^n:=yl (cT Ri) (cT nj)
  have h2:2^(n - 1)*2^n<=b1*2^n:=nG _ uX
  have h3:2^n=2*2^(n - 1):=by rw[<-Nat.pow_succ',apz,pz fU]
  have h4:2^n*2^n=2*(2^(n - 1)*2^n):=by rw[<-yg,<-h3]
  rw[hb]
  exact aD h1 (h4.symm▸ko 2 (aD h2 (bX _ _)))
 have Hn:q<=A/b+2:=by
  have h2:=Nat.lt_div_mul_add (a:=A) o6
  refine ku (Nat.lt_of_mul_lt_mul_right (a:=b) ?_)
  rw[nB,Ea,ky]
  exact bI (aD (HG▸bX _ _) (f6 ag6 A)) (yd h2 _)
 refine⟨Ri,ag5,rQ,apA (by rw[eK];exact Hn),?_⟩
 have e1:((q*b+(ρ*2^n+a3):Nat):Int)=((A+q*b2:Nat):Int):=af (λn:Nat=>(n:Int)) HG
 have e2:((b*(A/b)+A%b:Nat):Int)=(A:Int):=af (λn:Nat=>(n:Int)) (tK A b)
 rw[tJ,tJ A,Dt q b]at e1
 rw[tJ,Dt,UW]at e2
 rw[yf rQ,apB]
 exact q3l e1 e2
def ag7:rowOf 1=ab ⟨101,1,9,q1,w1,2,6⟩:=rfl
def Rj:rowOf 0=ab ⟨94,0,9,q0,w0,8,3⟩:=rfl
noncomputable def ag8:S:=.bN (.cmp .eq (.bin .shr (.var 0) (.var 5)) (.var 3)) (.seq (.fP [6,7] [ab (.bin .sub (.bin .shl (.lit (.int 1)) (.var 5)) (.lit (.int 1))),ab (.bin .add (.bin .sub (.var 0) (.bin .shl (.var 3) (.var 5))) (.var 3))]) .skip) (.seq (.fA [6,7] (.call 0 (.cons (.var 0) (.cons (.var 3) (.cons (.var 5) .nil))))) .skip)
def bad{a b c:Nat}(h:b<=c)(hc:c+a<=1000000):b+a<=1000000:=aD (cR h a) hc
def Rk{L dt a3 b b1 b2 n q ρ A:Nat}(hn:n<=20000)(o6:0<b)(nj:b2<2^n)(xb:a3<2^n)(H:Q3 A b b2 n ρ a3 q)(h:ex (Fn aJ L) ag8 [ab (iT dt),ab (iT a3),ab (iT b),ab (iT b1),ab (iT b2),ab (iT n),ae,ae]=ab (.next,[ab (iT dt),ab (iT a3),ab (iT b),ab (iT b1),ab (iT b2),ab (iT n),ab (iT q),ab (iT ρ)])):
  kQ (Fn aJ L) q1 2 6 [iT dt,iT a3,iT b,iT b1,iT b2,iT n]=ab (.tup [iT (A/b),iT (A%b)]):=by
 have bn:=bits_le H.qn
 have b2n:=bits_le nj
 have e:a8 .sub (iT (ρ*2^n+a3)) (iT (q*b2))=ab (rI A b (q - A/b)):=af (λi=>ab (T.int i)) H.eq
 have s1:ev (Fn aJ L) (.bin .sub (.bin .bor (.bin .shl (.var 7) (.var 5)) (.var 1)) (.bin .mul (.var 6) (.var 4))) [ab (iT dt),ab (iT a3),ab (iT b),ab (iT b1),ab (iT b2),ab (iT n),ab (iT q),ab (iT ρ)]=ab (rI A b (q - A/b)):=
  aR (aR (aR rfl rfl (uV (bad (bits_le H.ρn) (aD (eA (cX hn) hn) (by decide))))) rfl (Rh xb)) (aR rfl rfl (HF (aD (eA (aD bn hn) (aD b2n hn)) (by decide)))) e
 have s2:=wh3 (F:=Fn aJ L) (x0:=ab (iT dt)) (x1:=ab (iT a3)) (x3:=ab (iT b1)) (x4:=ab (iT b2)) (x5:=ab (iT n)) (A:=A) (Q:=A/b) o6 (99999 - (q - A/b)) (q - A/b)
 rw[tI H.le,ky,pz (aD H.two (by decide))]at s2
 exact HE rfl (sq h (sq (dH s1) (sq s2 (sr (sf rfl)))))
def aha{X P Y a B c:Nat}(h4:X+P<=Y)(h:a<P)(h5:c<=Y):X+B+a<Y - c+(B+c):=by
 rw[eK B c,<-gZ,pz h5,ky]
 exact yd (bG (yk h X) h4) B
def HH{L B:Nat}(h:D2 L B):D3 (L+1) B:=by
 intro dt a3 b b1 b2 n fU Ao hn uX CW nj xb hb ha
 have hp:=fy n
 have HI:=bG (fy _) uX
 have o6:0<b:=by rw[hb];exact U3 (Vn HI hp) _
 have dp:dt<(b1+1)*2^n:=by rw[nB];exact qt ha (hb▸yk nj _)
 have hdiv:dt/2^n<=b1:=ku ((pA hp).mpr dp)
 have Rl:a9 (Fn aJ L) (.cmp .eq (.bin .shr (.var 0) (.var 5)) (.var 3)) [ab (iT dt),ab (iT a3),ab (iT b),ab (iT b1),ab (iT b2),ab (iT n),ae,ae]=ab (decide (dt/2^n=b1)):=
  jK (fK (v:=decide (dt/2^n=b1)) (aR rfl rfl r7) rfl (af ab (xD.mpr (ax.trans (Vp ⟨λe=>Int.ofNat.inj e,λe=>af (λn:Nat=>(n:Int)) e⟩ decide_eq_true_iff.symm))))) rfl rfl
 refine jc ag7 rfl ?_
 by_cases he:dt/2^n=b1
 ·have h1:b1*2^n<=dt:=he▸Nat.div_mul_le_self _ _
  obtain⟨x,hx⟩:=Nat.exists_eq_add_of_le h1
  have zH:x<2^n:=apC (n:=b1*2^n) (by rw[<-hx,<-nB];exact dp)
  have hxb:x<b2:=apC (n:=b1*2^n) (by rw[<-hx,<-hb];exact ha)
  have ex1:dt - b1*2^n=x:=by rw[hx,Nat.add_sub_cancel_left]
  have bb:bc (b1:Int)+n<=1000000:=bad (bits_le CW) (aD (eA hn hn) (by decide))
  refine Rk (q:=2^n - 1) (ρ:=x+b1) hn o6 nj xb (q3 uX fU nj hb ?_ ?_ (qD hp (by decide)) ?_) ((ja (Rl.trans (af ab (ar he)))).trans (sq (ni (l:=[iT (2^n - 1),iT (x+b1)]) ?_ (by show 2<=lim;decide) rfl) rfl))
  ·rw[apD,Bi,g6 (2^n),hx,Nat.add_left_comm,pz (Bh _ hp),eK]
  ·rw[Ea,apD,Bi,hb]
   have h4:(x+1)*2^n<=b2*2^n:=nG _ hxb
   have h5:b2<=2^n*b2:=U6 _ hp
   rw[nB,g6 b2]at h4
   exact aha h4 xb h5
  ·rw[Vq,Vr];exact apE zH CW
  ·show((ev (Fn aJ L) _ _).bind λt=>((ev (Fn aJ L) _ _).bind λu=>ab [u]).map (t::·))=_
   rw[aR (z:=iT (2^n - 1)) (aR (x:=iT 1) rfl rfl (uV (aD (f6 hn _) (show 1+20000<=1000000 by decide)))) (y:=iT 1) rfl (by rw[Bi];exact si hp),aR (z:=iT (x+b1)) (aR rfl (aR rfl rfl (uV bb)) (si h1)) rfl (by rw[ex1];rfl)]
   rfl
 ·have wc:dt<b1*2^n:=(pA hp).mp (aoS hdiv he)
  have hr:=iw dt HI
  refine Rk (q:=dt/b1) (ρ:=dt%b1) hn o6 nj xb (q3 uX fU nj hb (by rw[g6];exact tK dt b1) ?_ ((pA HI).mpr (g6 b1 _▸wc)) (qt (qt hr CW) (Nat.pow_lt_pow_right (by decide) (il _)))) ((gH (Rl.trans (af ab (av he)))).trans (sq (nh (l:=[iT (dt/b1),iT (dt%b1)]) (c5 (aI rfl (aI rfl (aI rfl rfl))) (h dt b1 n fU Ao hn uX CW wc)) rfl) rfl))
  rw[hb]
  have h4:(dt%b1+1)*2^n<=b1*2^n:=nG _ hr
  rw[nB]at h4
  exact bG (bG (yk xb _) h4) (aD (bX _ _) (jP _ _))
section
variable{L a b n h p P x y:Nat}
def Rm(hx:x<b)(hy:y<P):x*P+y<b*P:=bG (yk hy _) (by rw[<-nB];exact nG _ hx)
def Rn:b*(a/P/b*P)+(a/P%b*P+a%P)=a:=by
 rw[<-yg,<-gZ,<-Ea,tK,g6]
 exact tK a P
def Ro(hb:0<b):a/P/b*P+(a/P%b*P+a%P)/b=a/b:=(aoR hb _ _).symm.trans (af (· /b) Rn)
def Rp:(a/P%b*P+a%P)%b=a%b:=(Nat.mul_add_mod _ _ _).symm.trans (af (· %b) Rn)
def ahd(hb:0<b)(hp:0<P):(a/P%b*P+a%P)/b<P:=(pA hb).mpr (g6 b P▸Rm (iw _ hb) (iw _ hp))
def ahe{a b n:Nat}(h1:n - 1<=b)(h2:a<n+4000):¬a/30+1>b/30+1+150:=by
 have g:b+1+4000<=b+150*30:=by rw[gZ];exact f6 (by decide) b
 have h:=U0 (c:=30) (aD (cT h2) (aD (cR (Nat.le_add_of_sub_le h1) 4000) g))
 rw[Nat.add_mul_div_right _ _ (by decide)]at h
 refine fL.mpr ?_
 rw[ky]
 exact cX h
def ahf(h0:0<b)(h1:2^(n - 1)<=b)(h2:a<2^(n+4000)):xy (a:Int) (b:Int)=false:=by
 unfold xy
 refine aoW.mpr (.inr (av λq=>?_))
 have hb:¬((b:Int)==0)=true:=λe=>iS h0 (Int.ofNat.inj (ao e))
 replace q:(if((a:Int)==0)=true then 0 else a.log2/30+1)>(if((b:Int)==0)=true then 0 else b.log2/30+1)+150:=q
 rw[ai hb]at q
 by_cases e:((a:Int)==0)=true
 ·rw[ah e]at q;exact aj q (Ku _)
 ·rw[ai e]at q
  exact ahe ((Nat.le_log2 (iS h0)).mpr h1) ((Ky λz=>e (ax.mpr (af _ z))).mpr h2) q
def CX(a b:Nat):Int.fmod (a:Int) (b:Int)=((a%b:Nat):Int):=(apF _ (cy _)).trans rfl
def ahg(h0:0<b)(h1:2^(n - 1)<=b)(h2:a<2^(n+4000)):gO .divmod [iT a,iT b]=ab (.tup [iT (a/b),iT (a%b)]):=by
 refine(ah ⟨px (fu.mpr h0),ahf h0 h1 h2⟩).trans ?_
 rw[wK,CX]
 rfl
def Rq{F:Nat->List T->Option T}{v:Bool}(hv:decide ((bc (a:Int):Int) - n<=4000)=v):a9 F (.cmp .le (.bin .sub (.sm .pC (.var 0) .nil) (.var 2)) (.lit (.int 4000))) (start 8 [iT a,iT b,iT n])=ab v:=
 jK (x:=.bool v) (fK (x:=.int ((bc (a:Int):Int) - n)) (y:=.int 4000) rfl rfl (af ab hv)) rfl rfl
def Rr(fU:1<=n)(hb:2^(n - 1)<=b)(c:(bc (a:Int):Int) - n<=4000):Fn aJ (L+1) 0 [iT a,iT b,iT n]=ab (.tup [iT (a/b),iT (a%b)]):=
 jc Rj rfl (HE rfl (sr ((ja (Rq (ar c))).trans (sr (sf (iO (aI rfl (aI rfl rfl)) (ahg (bG (fy _) hb) hb (r0 (eK 4000 n▸dh.mp (Int.le_add_of_sub_right_le c))))))))))
def Rt(kh:b<2^n)(ha:a<b*2^n):a<2^(n+n):=by
 rw[oJ]
 exact qt ha (Vs kh (fy n))
def ahh:D2 (L+1) 4000:=λa b n fU Ao hn hb kh ha=>Rr fU hb (Int.sub_right_le_of_le_add (dh.mpr (aD (bits_le (Rt kh ha)) (cR Ao n))))
def Ru(h:p<2):p=0∨p=1:=(Nat.eq_zero_or_pos p).imp id λq=>J0 (ku h) q
def Rv(h:bc (a:Int)+1<=1000000):oR .shl (iT a) (iT 1)=ab (iT (a*2^1)):=(ah rfl).trans (uV h)
def pad{F:Nat->List T->Option T}(hp:p<2)(ha:bc (a:Int)+1<=1000000)(hb:bc (b:Int)+1<=1000000):
  ex F (.bN (.var 3) (.seq (.aug 0 .shl (.lit (.int 1))) (.seq (.aug 1 .shl (.lit (.int 1))) (.seq (.aug 2 .add (.lit (.int 1))) .skip))) .skip) [ab (iT a),ab (iT b),ab (iT n),ab (iT p),ae,ae,ae,ae,ae,ae,ae]=ab (.next,[ab (iT (a*2^p)),ab (iT (b*2^p)),ab (iT (n+p)),ab (iT p),ae,ae,ae,ae,ae,ae,ae]):=by
 rcases Ru hp with e|e
 ·subst e
  rw[KC,Bg,Bg]
  exact(gH rfl).trans rfl
 ·subst e
  exact(ja rfl).trans (sq (o8 (y:=iT 1) rfl rfl (Rv ha)) (sq (o8 (y:=iT 1) rfl rfl (Rv hb)) (sq (o8 (z:=iT (n+1)) rfl rfl rfl) rfl)))
def ahi{F:Nat->List T->Option T}{x0 x1 x2 x4 x5 x6 x7 x8 x10:Option T}(hp:p<2):ex F (.bN (.var 3) (.seq (.aug 9 .shr (.lit (.int 1))) .skip) .skip) [x0,x1,x2,ab (iT p),x4,x5,x6,x7,x8,ab (iT (a*2^p)),x10]=ab (.next,[x0,x1,x2,ab (iT p),x4,x5,x6,x7,x8,ab (iT a),x10]):=by
 rcases Ru hp with e|e
 ·subst e
  rw[KC,Bg]
  exact(gH rfl).trans rfl
 ·subst e
  refine(ja rfl).trans (sq (o8 (y:=iT 1) (z:=iT a) rfl rfl ?_) rfl)
  show a8 .shr (iT _) (iT 1)=_
  rw[r7,Nat.mul_div_cancel _ (by decide)]
def ahj(h:n%2=p):a8 .band (iT n) (iT 1)=ab (iT p):=h▸An (h:=1)
def ahk{B:Nat}(h:D3 L B)(yK:1<=h')(hB:h'<=B)(h2:h'<=20000)(hp:p<2)(b0:0<b)(bl:2^(h'+h' - 1)<=b*2^p)(bu:b*2^p<2^(h'+h'))(au:a*2^p<b*2^p*2^(h'+h')){aB:S}{x0:aE}
  (e:ex (Fn aJ L) aB x0=ab (.next,[ab (iT (a*2^p)),ab (iT (b*2^p)),ab (iT (h'+h')),ab (iT p),ae,ae,ae,ae,ae,ae,ae])):∃r',ex (Fn aJ L) (.seq aB (.seq (.asg 4 (.bin .shr (.var 2) (.lit (.int 1)))) (.seq (.asg 5 (.bin .sub (.bin .shl (.lit (.int 1)) (.var 4)) (.lit (.int 1)))) (.seq (.fP [6,7] [ab (.bin .shr (.var 1) (.var 4)),ab (.bin .band (.var 1) (.var 5))]) (.seq (.fA [8,9] (.call 1 (.cons (.bin .shr (.var 0) (.var 2)) (.cons (.bin .band (.bin .shr (.var 0) (.var 4)) (.var 5)) (.cons (.var 1) (.cons (.var 6) (.cons (.var 7) (.cons (.var 4) .nil)))))))) (.seq (.fA [10,9] (.call 1 (.cons (.var 9) (.cons (.bin .band (.var 0) (.var 5)) (.cons (.var 1) (.cons (.var 6) (.cons (.var 7) (.cons (.var 4) .nil)))))))) (.seq (.bN (.var 3) (.seq (.aug 9 .shr (.lit (.int 1))) .skip) .skip) (.seq (.ret [] (.tup (.cons (.bin .bor (.bin .shl (.var 8) (.var 4)) (.var 10)) (.cons (.var 9) .nil)))) .skip))))))))
   x0=ab (.ret (.tup [iT (a/b),iT (a%b)]),r'):=by
 have hP:=fy h'
 have HJ:2^(h'+h')=2^h'*2^h':=oJ ..
 generalize BM:a*2^p=a' at*
 generalize kh:b*2^p=b' at*
 have CY:0<b':=kh▸Vn b0 (fy _)
 have hd:a'/b'=a/b:=by rw[<-BM,<-kh,Nat.mul_div_mul_right _ _ (fy _)]
 have hm:a'%b'=a%b*2^p:=by rw[<-BM,<-kh,Nat.mul_mod_mul_right]
 have CZ:b'/2^h'<2^h':=(pA hP).mpr (HJ▸bu)
 have C0:2^(h' - 1)<=b'/2^h':=(UD hP).mpr (by rw[<-oJ,<-apG yK];exact bl)
 have Rw:b'=b'/2^h'*2^h'+b'%2^h':=by rw[g6];exact(tK _ _).symm
 have dp:∀x,x%2^h'<2^h':=λx=>iw _ hP
 have e1:a'/2^(h'+h')*2^h'+a'/2^h'%2^h'=a'/2^h':=by
  rw[HJ,<-aoK,g6];exact tK _ _
 have c1:=h (a'/2^(h'+h')) (a'/2^h'%2^h') b' (b'/2^h') (b'%2^h') h' yK hB h2 C0 CZ (dp _) (dp _) Rw ((pA (fy _)).mpr au)
 rw[e1]at c1
 have c2:=h (a'/2^h'%b') (a'%2^h') b' (b'/2^h') (b'%2^h') h' yK hB h2 C0 CZ (dp _) (dp _) Rw (iw _ CY)
 rw[Rp,hm]at c2
 have q1l:a'/2^h'/b'<2^h':=(pA CY).mpr ((pA hP).mpr (by rw[g6 (2^h') b',yg,<-HJ];exact au))
 have hh2:a8 .shr (iT (h'+h')) (iT 1)=ab (iT h'):=by rw[r7,<-D5,Nat.pow_one,Nat.mul_div_cancel_left _ (by decide)]
 have fin:=(uV (a:=a'/2^h'/b') (n:=h') (bad (bits_le q1l) (aD (eA h2 h2) (by decide))))
 refine⟨_,sq e (sq (dH (x:=iT h') (aR rfl (y:=iT 1) rfl hh2)) (sq (dH (x:=iT (2^h' - 1)) (aR (aR (x:=iT 1) rfl rfl (uV (aD (f6 h2 _) (show 1+20000<=1000000 by decide)))) (y:=iT 1) rfl (by rw[Bi];exact si hP)))
  (sq (ni (l:=[iT (b'/2^h'),iT (b'%2^h')]) ?_ (by show 2<=lim;decide) rfl) (sq (nh (c5 (aI (aR rfl rfl r7) (aI (aR (aR rfl rfl r7) rfl An) (aI rfl (aI rfl (aI rfl (aI rfl rfl)))))) c1) rfl)
  (sq (nh (c5 (aI rfl (aI (aR rfl rfl An) (aI rfl (aI rfl (aI rfl (aI rfl rfl)))))) c2) rfl) (sq (ahi hp) (sr (sf (jd (aI (aR (aR rfl rfl fin) rfl ((Rh (ahd CY hP)).trans (af (λx=>ab (iT x)) ((Ro CY).trans hd)))) (aI rfl rfl)) (show 2<=lim by decide))))))))))⟩
 show((ev (Fn aJ L) _ _).bind λt=>((ev (Fn aJ L) _ _).bind λu=>ab [u]).map (t::·))=_
 rw[aR rfl rfl r7,aR rfl rfl An]
 rfl
def half(n:Nat):∃h,n+n%2=h+h/\n%2<2:=by
 have g:=tK n 2
 rcases apH n with e|e
 ·rw[e]at g ⊢
  exact⟨n/2,(U5 _).trans (g.symm.trans (D5 _)),by decide⟩
 ·rw[e]at g ⊢
  exact⟨n/2+1,by rw[<-D5,vA];exact af (· +1) g.symm,by decide⟩
def dbl{h B:Nat}(g:h+h<=B+B+1):h<=B:=apI λq=>Nat.not_succ_le_self _ (aD (bO (af Nat.succ (ky B 1 B)).symm) (aD (eA q q) g))
def hf{B:Nat}(h1:1<=n)(e:n+n%2=h+h)(hB:n<=2*B)(hn:n<=20000):1<=h/\h<=B/\h<=20000:=
 have m:n%2<=1:=ku (iw n (by decide))
 ⟨Nat.pos_of_ne_zero λq=>iS h1 (Nat.eq_zero_of_add_eq_zero_right (e.trans (by rw[q]))),dbl (e▸eA (D5 B▸hB) m),dbl (e▸eA (aD hn (by decide)) m)⟩
def HK{B:Nat}(h:D3 L B):D2 (L+1) (2*B):=by
 intro a b n fU Ao hn hb kh ha
 by_cases c:(bc (a:Int):Int) - n<=4000
 ·exact Rr fU hb c
 ·obtain⟨h',e,hp⟩:=half n
  obtain⟨f1,f2,f3⟩:=hf fU e Ao hn
  generalize hpe:n%2=p at*
  have pN:=fy p
  have aho:=bits_le (Rt kh ha)
  have ahp:=bits_le kh
  obtain⟨r',hr⟩:=ahk (p:=p) (a:=a) (b:=b) (h':=h') h f1 f2 f3 hp (bG (fy _) hb) (by rw[<-e,apG fU,oJ];exact nG _ hb) (by rw[<-e,oJ];exact Vs kh pN)
   (by rw[<-e,oJ,Nat.mul_right_comm b,<-yg b];refine bG (Vs ha pN) (Bh _ pN)) (e▸pad (F:=Fn aJ L) (n:=n) hp (aD (cX (aD aho (eA hn hn))) (by decide)) (aD (cX (aD ahp hn)) (by decide)))
  exact jc Rj rfl (HE rfl (sq (gH (Rq (av c))) (sq (dH (aR rfl (y:=iT 1) rfl (ahj hpe))) hr)))
def ahq:D2 (L+7) 20000:=λa b n h1 h2 h3=>HK (HH (HK (HH (HK (HH (ahh (L:=L))))))) a b n h1 (aD h3 (by decide)) h3
end
section
variable{L a b n:Nat}
def ahr(m:Nat):∀x,bq n (oq n m x)=x:=by
 induction m with
 |zero=>exactλx=>af (x+·) (KA (2^n))
 |succ m ih=>exactλx=>(af (λy=>x%2^n+2^n*y) (ih _)).trans (Nat.mod_add_div ..)
def ahs(m:Nat):∀x,x<2^(n*(m+1))->∀d∈oq n m x,d<2^n:=by
 induction m with
 |zero=>exactλx h d hd=>b4.mp hd▸(Bg n▸h)
 |succ m ih=>exactλx h d hd=>(br.mp hd).elim (λe=>e▸iw _ (fy n)) (ih _ ((pA (fy n)).mpr (by rw[<-oJ];exact h)) d)
def aht(hn:1<=n):a<2^(n*dr a n):=by
 refine bG (r0 (bj _)) (vC (by decide) ?_)
 have h3:=Nat.lt_mul_div_succ (bc (a:Int)+n - 1) hn
 rw[vA,U1 hn]at h3
 exact ku (apy (n:=n - 1) (by rw[Ux,<-Nat.add_succ,apz,pz hn];show _<n*((bc (a:Int)+n - 1)/n)+n;rw[U1 hn];exact h3))
def ahu(hn:1<=n):bq n (gS n (dr a n) a)=a/\∀d∈gS n (dr a n) a,d<2^n:=by
 have h:=aht (a:=a) hn
 unfold gS
 cases e:dr a n with
 |zero=>rw[e]at h;exact⟨(anI.mp h).symm,λd hd=>aj hd gM⟩
 |succ m=>rw[e]at h;exact⟨ahr m a,ahs m a h⟩
def ahv(l:List Nat):zO (intsOf l)=ab l:=by
 induction l with
 |nil=>rfl
 |cons d l ih=>
  show(if(0:Int)<=(d:Int)then(zO (intsOf l)).map ((d:Int).toNat::·)else ae)=_
  rw[ah (cy d),ih]
  rfl
def Rx(hn:1<=n)(mj:n<=30000)(hb:bc (a:Int)<=60000)(hd:dr a n<=64):wR [iT a,iT n]=ab (.lst (intsOf (gS n (dr a n) a))):=
 ah ⟨⟨cy _,dh.mpr hn⟩,dh.mpr mj,hb,hd⟩
def Ry{l:List Nat}(hn:1<=n)(mj:n<=30000)(h1:n*l.length<=100000)(h2:l.length<=64)(h3:bc ((bq n l:Nat):Int)<=800000):mq [.lst (intsOf l),iT n]=ab (iT (bq n l)):=by
 show((zO (intsOf l)).bind λds=>_)=_
 rw[ahv]
 exact ah ⟨⟨dh.mpr hn,dh.mpr mj⟩,h1,h2,h3⟩
def ahw(hb:0<b):1<=bc (b:Int)/\2^(bc (b:Int) - 1)<=b:=by
 have q:¬((b:Int)==0)=true:=λe=>iS hb (Int.ofNat.inj (ao e))
 unfold bc
 rw[ai q]
 exact⟨jP _ _,Nat.log2_self_le (iS hb)⟩
def ahx{F:Nat->List T->Option T}{r:aE}{k:Nat}{l:List T}(h:get r k=ab (.lst l)):ex F (.rev k) r=ab (.next,put r k (.lst l.reverse)):=af (·.bind (cH λl=>cb (put r k (.lst l.reverse)))) h
section
variable{F:Nat->List T->Option T}{r r':aE}{a c:Ex}{x:T}{fz:List Nat}{aB s₂:S}
def lh{n m:Nat}{ts:List T}(hl:ts.length=m)(h:(ex F aB (start n ts)).bind cw=ab x):kQ F aB n m ts=ab x:=(ah hl).trans h
def dI(h:ex F aB r=ab (.next,r'))(q:(ex F s₂ r').bind cw=ab x):(ex F (.seq aB s₂) r).bind cw=ab x:=(af (·.bind cw) (wU h)).trans q
def lj(h:ev F a r=ab x):(ex F (.seq (.ret fz a) aB) r).bind cw=ab x:=af (·.bind cw) (sr (s₂:=aB) (sf (fz:=fz) h))
def C1(q:(ex F aB r).bind cw=ab x):(ex F (.gh fz aB) r).bind cw=ab x:=q
def je:ex F (.seq aB .skip) r=ex F aB r:=by
 show(ex F aB r).bind _=_
 cases ex F aB r with
 |none=>rfl
 |some p=>
  obtain⟨f,q⟩:=p
  cases f<;>rfl
def Rz(hc:a9 F c r=ab true)(q:(ex F aB r).bind cw=ab x):(ex F (.seq (.bN c aB s₂) .skip) r).bind cw=ab x:=(af (·.bind cw) (je.trans (ja hc))).trans q
def xc(hc:a9 F c r=ab false)(q:(ex F s₂ r).bind cw=ab x):(ex F (.seq (.bN c aB s₂) .skip) r).bind cw=ab x:=(af (·.bind cw) (je.trans (gH hc))).trans q
end
noncomputable def sj(n:Nat)(v d:Nat):Nat:=d+2^n*v
noncomputable def f4(F:Nat->List T->Option T)(x:T)(r:aE):Option (Fl×aE):=(ab (put r 6 x)).bind (ex F (.seq (.fA [7,4] (.call 0 (.cons (.bin .add (.bin .shl (.var 4) (.var 2)) (.var 6)) (.cons (.var 1) (.cons (.var 2) .nil))))) (.seq (.app 5 (.var 7)) .skip)))
def ahy{x0 x3 x8:Option T}(hn:1<=n)(mj:n<=20000)(hb:0<b)(hl:2^(n - 1)<=b)(hu:b<2^n)(ds:List Nat):∀{V:Nat}{qs:List Nat}{x6 x7:Option T},(∀d∈ds,d<2^n)->qs.length+ds.length<=64->bq n qs.reverse=V/b->
  ∃uG HL Aq,b6 (f4 (Fn aJ (L+7))) (intsOf ds) [x0,ab (iT b),ab (iT n),x3,ab (iT (V%b)),ab (.lst (intsOf qs)),x6,x7,x8]=ab (.next,[x0,ab (iT b),ab (iT n),x3,ab (iT (ds.foldl (sj n) V%b)),ab (.lst (intsOf Aq)),uG,HL,x8])/\Aq.length=qs.length+ds.length/\bq n Aq.reverse=ds.foldl (sj n) V/b:=by
 induction ds with
 |nil=>exactλz z hq=>⟨_,_,_,rfl,rfl,hq⟩
 |cons d ds ih=>
  intro V qs x6 x7 hd hlen hq
  have hP:=fy n
  have gD:=hd d bk
  have e1:sj n V d/2^n=V:=(apJ _ _ hP).trans (by rw[Kz gD,jU])
  have e2:sj n V d%2^n=d:=(apK _ _ _).trans (Vu gD)
  have t1:=Ro (a:=sj n V d) (P:=2^n) hb
  have t2:=Rp (a:=sj n V d) (P:=2^n) (b:=b)
  rw[e1,e2]at t1 t2
  have hr:=iw V hb
  obtain⟨y6,y7,Aq,g1,g2,g3⟩:=ih (V:=sj n V d) (qs:=qs++[(V%b*2^n+d)/b]) (x6:=ab (iT d)) (x7:=ab (iT ((V%b*2^n+d)/b))) (λd' h=>hd d' (bS _ h)) (by rw[bQ,gZ,eK _ ds.length];exact hlen) (by rw[show bq n (qs++[(V%b*2^n+d)/b]).reverse=(V%b*2^n+d)/b+2^n*(V/b)by rw[List.reverse_append,<-hq];rfl,eK _ (2^n*_),g6 (2^n)];exact t1)
  refine⟨y6,y7,Aq,uU (x:=iT d) (sq (nh (c5 (aI (aR (aR rfl rfl (uV (bad (bits_le (qt hr hu)) (aD (eA mj mj) (by decide))))) rfl rfl) (aI rfl (aI rfl rfl))) (ahq _ b n hn mj mj hl hu (Rm hr gD))) rfl) (sq (se rfl rfl (by rw[ke];exact aD (cX (aD (bX _ _) hlen)) (by decide))) rfl)) ?_,by rw[g2,bQ,gZ,eK _ ds.length];rfl,g3⟩
  rw[<-t2,show intsOf (qs++[(V%b*2^n+d)/b])=intsOf qs++[iT ((V%b*2^n+d)/b)]from mE]at g1
  exact g1
def ahz:rowOf 4=ab ⟨122,4,9,q4,w4,7,2⟩:=rfl
def HM:rowOf 5=ab ⟨129,5,9,q5,w5,2,2⟩:=rfl
def RB(l:List Nat):(intsOf l).reverse=intsOf l.reverse:=qH.symm
structure DM(a b:Nat):Prop where
 b2:bc (b:Int)<=20000
 a2:bc (a:Int)<=60000
 d:dr a (bc (b:Int))<=64
def HN{a':Nat}(q:a'<=a):bc (a':Int)<=bc (a:Int):=bits_le (bI q (r0 (bj _)))
def DM.less{a':Nat}(h:DM a b)(q:a'<=a):DM a' b:=⟨h.b2,aD (HN q) h.a2,aD (U0 (JN (cR (HN q) _) 1)) h.d⟩
def dmp(hb:0<b)(h:DM a b):Fn aJ (L+8) 4 [iT a,iT b]=ab (.tup [iT (a/b),iT (a%b)]):=by
 obtain⟨fU,C0⟩:=ahw hb
 have CZ:=r0 (bj (bc (b:Int)))
 obtain⟨nj,ha,hd⟩:=h
 have e0:iU .pC (iT b) []=ab (iT (bc (b:Int))):=rfl
 generalize bc (b:Int)=n at*
 have HO:n<=30000:=aD nj (by decide)
 obtain⟨hv,gD⟩:=ahu (a:=a) fU
 have hlen:=G0 n (dr a n) a
 have hmul:n*dr a n<=100000:=PU ha HO
 obtain⟨x6,x7,qs,g1,g2,g3⟩:=ahy (L:=L) (x0:=ab (iT a)) (x3:=ab (.lst (intsOf (gS n (dr a n) a)))) (x8:=ae) (V:=0) (qs:=[]) (x6:=ae) (x7:=ae) fU nj hb C0 CZ (gS n (dr a n) a).reverse (λd h=>gD d (A5.mp h)) (by rw[pn,hlen,apL,jU];exact hd) (Nat.zero_div b).symm
 rw[List.foldl_reverse,show(gS n (dr a n) a).foldr (λx y=>sj n y x) 0=a from hv]at g1 g3
 rw[pn,hlen,apL,jU]at g2
 refine jc ahz rfl (lh rfl (dI (dH (o9 rfl rfl e0)) (dI (dH (c5 (aI rfl (aI rfl rfl)) (Rx fU HO ha hd))) (dI (dH rfl) (dI (Al (x:=.lst []) rfl rfl) ?_)))))
 refine dI (r':=[ab (iT a),ab (iT b),ab (iT n),ab (.lst (intsOf (gS n (dr a n) a))),ab (iT (a%b)),ab (.lst (intsOf qs)),x6,x7,ae]) ?_ ?_
 ·show b6 (f4 (Fn aJ (L+7))) (intsOf _).reverse _=_
  rw[RB]
  rw[Nat.zero_mod]at g1
  exact g1
 refine dI (ahx rfl) (C1 ?_)
 refine dI (dH (x:=iT (a/b)) (c5 (aI rfl (aI rfl rfl)) ?_)) ?_
 ·show mq [.lst (intsOf qs).reverse,iT n]=_
  rw[RB,<-g3]
  exact Ry fU HO (by rw[pn,g2];exact hmul) (by rw[pn,g2];exact hd) (by rw[g3];exact aD (HN (yc a b)) (aD ha (by decide)))
 exact lj ((jd (aI rfl (aI rfl rfl)) (show 2<=lim by decide)))
end
section
variable{L a b n:Nat}
def Ar{F:Nat->List T->Option T}{r:aE}{k:Nat}{i:Int}{v:Bool}(h:get r k=ab (.int i))(hv:decide (i<0)=v):a9 F (.cmp .lt (.var k) (.lit (.int 0))) r=ab v:=jK (x:=.bool v) (fK h rfl (af ab hv)) rfl rfl
def HP{F:Nat->List T->Option T}{r:aE}{k:Nat}{i:Int}{v:Bool}(h:get r k=ab (.int i))(hv:(i==0)=v):a9 F (.cmp .eq (.var k) (.lit (.int 0))) r=ab v:=jK (x:=.bool v) (fK h rfl (af ab hv)) rfl rfl
def nz{b:Int}(hb:b≠0):(b==0)=false:=beq_false_of_ne hb
def nn(a:Nat):decide ((a:Int)<0)=false:=av (lA.mpr (cy a))
def RC(hb:0<b)(h:DM a b):Fn aJ (L+9) 5 [iT a,iT b]=ab (.tup [iT (a/b),iT (a%b)]):=
 jc HM rfl (lh rfl (xc (HP rfl (nz (px (fu.mpr hb)))) (xc (Ar rfl (nn b)) (xc (Ar rfl (nn a)) (lj (c5 (aI rfl (aI rfl rfl)) (dmp hb h)))))))
def ahB{x x' y y':Int}(h1:x=x')(h2:y=y'):ab (T.tup [.int x,.int y])=ab (T.tup [.int x',.int y']):=by rw[h1,h2]
def not_neg(k:Nat):Ds (Bm k)=(k:Int):=by
 show -(Bm k) - 1=_
 rw[Int.neg_negSucc]
 exact qN (k:Int) 1
def RD{a:Int}(hb:0<b)(h:DM a.natAbs b):Fn aJ (L+10) 5 [.int a,iT b]=ab (.tup [.int (a.fdiv b),.int (a.fmod b)]):=by
 cases a with
 |ofNat k=>exact(RC (L:=L+1) hb h).trans (ahB (wK k b).symm (CX k b).symm)
 |negSucc k=>
  have hm:=iw k hb
  have e1:Ds ((k/b:Nat):Int)=(Bm k).fdiv b:=by
   cases b with
   |zero=>exact aj hb (fN 0)
   |succ b=>show -((k/(b+1):Nat):Int) - 1=Bm (k/(b+1));rw[Int.negSucc_eq];exact(Vv ..).symm
  have e2:(b:Int)+Ds ((k%b:Nat):Int)=(Bm k).fmod b:=by
   show(b:Int)+(-((k%b:Nat):Int) - 1)=Int.subNatNat b (k%b+1)
   rw[Int.subNatNat_eq_coe,tJ,Vl,KN (a:=(b:Int)),Vv]
   rfl
  rw[<-e1,<-e2]
  refine jc HM rfl (lh rfl (xc (HP rfl (nz (px (fu.mpr hb)))) (xc (Ar rfl (nn b)) (Rz (Ar rfl (ar (Int.negSucc_lt_zero k))) ?_))))
  refine dI (nh (l:=[iT (k/b),iT (k%b)]) (c5 (aI rfl (aI rfl rfl)) ?_) rfl) ?_
  ·show Fn aJ (L+9) 5 [.int (Ds (Bm k)),iT b]=_
   rw[not_neg]
   exact RC hb (h.less (gy k))
  exact lj (jd (aI rfl (aI rfl rfl)) (show 2<=lim by decide))
def dm{a b:Int}(hb:b≠0)(h:DM a.natAbs b.natAbs):Fn aJ (L+11) 5 [.int a,.int b]=ab (.tup [.int (a.fdiv b),.int (a.fmod b)]):=by
 by_cases hp:b<0
 ·have hk: -b=((b.natAbs:Nat):Int):=(Int.ofNat_natAbs_of_nonpos (AR hp)).symm
  have q:=RD (L:=L) (a:= -a) (b:=b.natAbs) (apM.mpr hb) (by rw[Vw];exact h)
  rw[show iT b.natAbs=.int (-b)from af T.int hk.symm,<-hk,apN,apO]at q
  rw[<-Int.neg_neg (a.fmod b)]
  refine jc HM rfl (lh rfl (xc (HP rfl (nz hb)) (Rz (Ar rfl (ar hp)) ?_)))
  exact dI (nh (c5 (aI rfl (aI rfl rfl)) q) rfl) (lj (jd (aI rfl (aI rfl rfl)) (show 2<=lim by decide)))
 ·have hk:b=((b.natAbs:Nat):Int):=(Int.natAbs_of_nonneg (lA.mp hp)).symm
  exact hk▸RD (L:=L+1) (apM.mpr hb) h
end
noncomputable def tab{α:Type}(n:Nat)(f:Nat->α):List α:=n.rec [] λi l=>f i::l
noncomputable def cx{α:Type}(n:Nat)(f:Nat->α):List α:=n.rec [] λi l=>f i::l
def b8{α:Type}{n:Nat}{f g:Nat->α}(h:tab n f=cx n g):∀i,i<n->f i=g i:=by
 induction n with
 |zero=>exactλi q=>aj q (Ku i)
 |succ n ih=>
  replace h:f n::tab n f=g n::cx n g:=h
  injection h with h1 h2
  exactλi q=>(A6 (ku q)).elim (ih h2 i) λe=>e▸h1
noncomputable def fY(b:Bool):Nat:=if b=true then 114 else 117
noncomputable def txt(c:Nat):Str:=⟨#[fY (c.testBit 0),fY (c.testBit 1),fY (c.testBit 2),fY (c.testBit 3),fY (c.testBit 4),fY (c.testBit 5),fY (c.testBit 6),fY (c.testBit 7)]⟩
noncomputable def tx(c:Nat):T:=.str (txt c)
noncomputable def bh(c t:Nat):List Nat:=(bf (8 - t)).filter λi=>c.testBit i&&!c.testBit (i+t)
noncomputable def dJ(c i t:Nat):Nat:=c+2^i*(2^t - 1)
noncomputable def sg(c i t:Nat):Int:=if((bf (t - 1)).filter λj=>!c.testBit (i+1+j)).length%2=0 then 1 else -1
noncomputable def ba(c:Nat):Bool:=decide (128<=c/\c<256)
def xe{P:Nat->Prop}(h0:P 0)(h1:P 1)(h2:P 2)(h3:P 3)(h4:P 4)(h5:P 5)(h6:P 6)(h7:P 7)(q:Nat)(h:q<8):P q:=by
 rcases A6 (ku h)with h|e
 ·rcases A6 (ku h)with h|e
  ·rcases A6 (ku h)with h|e
   ·rcases A6 (ku h)with h|e
    ·exact wJ h0 h1 h2 h3 q h
    ·exact e▸h4
   ·exact e▸h5
  ·exact e▸h6
 ·exact e▸h7
noncomputable def six{α:Type}(f:Nat->α)(q:Nat):List α:=tab 16 λj=>f (128+(16*q+j))
noncomputable def C2{α:Type}(f:Nat->α)(q:Nat):List α:=cx 16 λj=>f (128+(16*q+j))
abbrev q1{α:Type}(f g:Nat->α)(q:Nat):Prop:=six f q=C2 g q
abbrev q4{α:Type}(f g:Nat->Nat->α)(q:Nat):Prop:=six (λc=>tab 4 (f c)) q=C2 (λc=>cx 4 (g c)) q
def xf{α:Type}{f g:Nat->α}(h:∀q,q<8->six f q=C2 g q){c:Nat}(hc:ba c=true):f c=g c:=by
 have hc:=aq hc
 have e:=b8 (h ((c - 128)/16) ((pA (by decide)).mpr ((Nat.sub_lt_iff_lt_add hc.1).mpr hc.2))) ((c - 128)%16) (iw _ (by decide))
 rw[tK,tI hc.1]at e
 exact e
abbrev p1{α:Type}(f g:Nat->α)(q:Nat):Prop:=(tab 64 λj=>f (128+(64*q+j)))=cx 64 λj=>g (128+(64*q+j))
abbrev p4{α:Type}(f g:Nat->Nat->α)(q:Nat):Prop:=p1 (λc=>tab 4 (f c)) (λc=>cx 4 (g c)) q
def kj{α:Type}{f g:Nat->α}(h0:p1 f g 0)(h1:p1 f g 1){c:Nat}(hc:ba c=true):f c=g c:=by
 have hc:=aq hc
 by_cases q:c - 128<64
 ·have e:=b8 h0 (c - 128) q
  rwa [jU,tI hc.1]at e
 ·have q:=fL.mp q
  have e:=b8 h1 (c - 128 - 64) (apP q (apP hc.1 hc.2))
  rwa [Bg,tI q,tI hc.1]at e
def oA{α:Type}{f g:Nat->Nat->α}(h0:p4 f g 0)(h1:p4 f g 1){c z:Nat}(hc:ba c=true)(hz:z<4):f c z=g c z:=b8 (kj (f:=λc=>tab 4 (f c)) (g:=λc=>cx 4 (g c)) h0 h1 hc) z hz
noncomputable def HQ(L c:Nat):List (Option T):=tab 9 λt=>Fn aJ (L+1) 9 [tx c,iT (t+1)]
noncomputable def HR(c:Nat):List (Option T):=cx 9 λt=>ab (.lst (intsOf (bh c (t+1))))
noncomputable def HS(L c:Nat):List (List (Option T)):=tab 7 λt=>(bh c (t+1)).map λp=>Fn aJ (L+1) 10 [tx c,iT p,iT (t+1)]
noncomputable def HT(c:Nat):List (List (Option T)):=cx 7 λt=>(bh c (t+1)).map λp=>ab (.tup [tx (dJ c p (t+1)),.int (sg c p (t+1))])
def pl0{L:Nat}:p1 (HQ L) HR 0:=by kernel_rfl
def Hq{L:Nat}:p1 (HQ L) HR 1:=by kernel_rfl
def tk0{L:Nat}:p1 (HS L) HT 0:=by kernel_rfl
def tk1{L:Nat}:p1 (HS L) HT 1:=by kernel_rfl
def ahF{L c:Nat}(hc:ba c=true):HQ L c=HR c:=kj pl0 Hq hc
def ahG{L c:Nat}(hc:ba c=true):HS L c=HT c:=kj tk0 tk1 hc
noncomputable def HU(t f:Nat):Nat->Nat×Int×List Nat:=f.rec (λc=>(c,1,[])) λz ih c=>(bh c t).getLast?.elim (c,1,[]) λp=>(λq=>(q.1,sg c p t*q.2.1,p::q.2.2)) (ih (dJ c p t))
noncomputable def co(c t:Nat):Nat:=(HU t 13 c).1
noncomputable def sn(c t:Nat):Int:=(HU t 13 c).2.1
noncomputable def wy(c t:Nat):List Nat:=(HU t 13 c).2.2
noncomputable def zs(l:List Nat):List Int:=sortI (l.map λi:Nat=>(i:Int))
noncomputable def un(s:Int):Bool:=s==1||s== -1
noncomputable def RF(c t p:Nat):Bool:=ba (dJ c p t)&&(co c t==co (dJ c p t) t&&(sn c t==sg c p t*sn (dJ c p t) t&&((zs (wy c t)==insI p (zs (wy (dJ c p t) t)))&&((wy c t).length==(wy (dJ c p t) t).length+1&&un (sg c p t)))))
noncomputable def okR(c t:Nat):Bool:=ba (co c t)&&(un (sn c t)&&(decide ((wy c t).length<=12)&&((bh (co c t) t).isEmpty&&((if(bh c t).isEmpty=true then co c t==c&&(sn c t==1&&(wy c t).isEmpty)else decide ((bh c t).length<=8)&&decide (1<=(wy c t).length))&&(bh c t).all λp=>RF c t p))))
noncomputable def HV(c:Nat):Bool:=(bf 9).all λt=>okR c (t+1)
noncomputable def HW(c:Nat):List (Option Bool):=tab 9 λt=>qT .ne (.lst (intsOf (bh c (t+1)))) (.lst [])
noncomputable def HX(c:Nat):List (Option Bool):=cx 9 λt=>ab (!(bh c (t+1)).isEmpty)
def c9:p1 HV (λz=>true) 0:=by kernel_rfl
def HY:p1 HV (λz=>true) 1:=by kernel_rfl
def ne0:p1 HW HX 0:=by kernel_rfl
def ne1:p1 HW HX 1:=by kernel_rfl
def ahJ{c:Nat}(hc:ba c=true):HV c=true:=kj c9 HY hc
def ne_0{c:Nat}(hc:ba c=true):HW c=HX c:=kj ne0 ne1 hc
def Tk(t:Nat):Prop:=1<=t/\t<=9
section
variable{c t n L:Nat}
def HZ{α:Type}{f g:Nat->α}(h:(tab n λt=>f (t+1))=cx n λt=>g (t+1))(h1:1<=t)(h2:t<=n):f t=g t:=by
 have q:=b8 h (t - 1) (bG (qD h1 xJ) h2)
 rw[pz h1]at q
 exact q
def an{a b:Bool}(h:(a&&b)=true):a=true/\b=true:=(DF a b).mp h
end
abbrev Place(c t:Nat):Prop:=ba (co c t)=true/\un (sn c t)=true/\(wy c t).length<=12/\bh (co c t) t=[]/\(bh c t=[]->co c t=c/\sn c t=1/\wy c t=[])/\(bh c t≠[]->(bh c t).length<=8/\1<=(wy c t).length)/\∀p∈bh c t,RF c t p=true
section
variable(h:Place c t)
def Place.hc:=h.1
def Place.hu:=h.2.1
def Place.hl:=h.2.2.1
def Place.hz:=h.2.2.2.2.1
def Place.hn:=h.2.2.2.2.2.1
def Place.ha:=h.2.2.2.2.2.2
end
def place{c t:Nat}(hc:ba c=true)(ht:Tk t):Place c t:=by
 obtain⟨h1,h⟩:=an (bA.mp (ahJ hc) (t - 1) (iu.mpr (bG (qD ht.1 xJ) ht.2))|>(pz ht.1▸·))
 obtain⟨h2,h⟩:=an h
 obtain⟨h3,h⟩:=an h
 obtain⟨h4,h⟩:=an h
 obtain⟨h5,h6⟩:=an h
 refine⟨h1,h2,aq h3,Bf.mp h4,λe=>?_,λe=>?_,bA.mp h6⟩
 ·rw[ah (Bf.mpr e)]at h5
  obtain⟨g1,g⟩:=an h5
  exact⟨ao g1,ao (an g).1,Bf.mp (an g).2⟩
 ·rw[ai λq=>e (Bf.mp q)]at h5
  exact⟨aq (an h5).1,aq (an h5).2⟩
abbrev sk(c t p:Nat):Prop:=ba (dJ c p t)=true/\co c t=co (dJ c p t) t/\sn c t=sg c p t*sn (dJ c p t) t/\zs (wy c t)=insI p (zs (wy (dJ c p t) t))/\(wy c t).length=(wy (dJ c p t) t).length+1/\un (sg c p t)=true
section
variable(h:sk c t p)
def sk.hc:=h.1
def sk.RG:=h.2.1
def sk.RH:=h.2.2.1
def sk.hzs:=h.2.2.2.1
def sk.hl:=h.2.2.2.2.1
def sk.hu:=h.2.2.2.2.2
end
def Place.strip{c t p:Nat}(h:Place c t)(hp:p∈bh c t):sk c t p:=by
 obtain⟨h1,h⟩:=an (h.ha p hp)
 obtain⟨h2,h⟩:=an h
 obtain⟨h3,h⟩:=an h
 obtain⟨h4,h⟩:=an h
 exact⟨h1,ao h2,ao h3,ao h4,ao (an h).1,(an h).2⟩
def places{L c t:Nat}(hc:ba c=true)(ht:Tk t):Fn aJ (L+1) 9 [tx c,iT t]=ab (.lst (intsOf (bh c t))):=HZ (f:=λt=>Fn aJ (L+1) 9 [tx c,iT t]) (g:=λt=>ab (T.lst (intsOf (bh c t)))) (ahF hc) ht.1 ht.2
def ahL{c t p:Nat}(h:p∈bh c t):p+t<8:=(Nat.lt_sub_iff_add_lt).mp (iu.mp (DL.mp h).1)
def taken{L c t p:Nat}(hc:ba c=true)(ht:Tk t)(hp:p∈bh c t):Fn aJ (L+1) 10 [tx c,iT p,iT t]=ab (.tup [tx (dJ c p t),.int (sg c p t)]):=jV.mp (HZ (f:=λt=>(bh c t).map λp=>Fn aJ (L+1) 10 [tx c,iT p,iT t]) (g:=λt=>(bh c t).map λp=>ab (T.tup [tx (dJ c p t),.int (sg c p t)])) (ahG hc) ht.1 (ku (bI (jP t p) (ahL hp)))) p hp
def As{s:Int}(h:un s=true):s=1∨s= -1:=((JQ _ _).mp h).imp ao ao
def C3{s u:Int}(h:un s=true)(g:un u=true):a8 .mul (.int s) (.int u)=ab (.int (s*u))/\un (s*u)=true:=by
 rcases As h with e|e<;>rcases As g with e'|e'<;>subst e<;>subst e'<;>exact⟨rfl,rfl⟩
def RI(l:List Nat):mM (intsOf l)=ab (l.map λi:Nat=>(i:Int)):=by
 induction l with
 |nil=>rfl
 |cons x l ih=>exact af (·.map ((x:Int)::·)) ih
def sorted{l:List Nat}(h:l.length<64):gO .qX [.lst (intsOf l)]=ab (.lst ((zs l).map .int)):=by
 show((mM (intsOf l)).bind λns=>_)=_
 rw[RI]
 exact ah (by rw[bK];exact h)
def Au{F:Nat->List T->Option T}{r:aE}{k:Nat}{l:List Nat}(h:get r k=ab (.lst (intsOf l))):ev F (.prim .len (.cons (.var k) .nil)) r=ab (iT l.length):=(iO (aI (show ev F (.var k) r=_ from h) rfl) rfl).trans (af (λn=>ab (iT n)) (ke l))
def ahM{F:Nat->List T->Option T}{r:aE}{a b:Ex}{x y:T}(ha:ev F a r=ab x)(hb:ev F b r=ab y):pF F r [ab a,ab b]=ab [x,y]:=by
 show((ev F a r).bind λt=>((ev F b r).bind λu=>ab [u]).map (t::·))=_
 rw[ha,hb]
 rfl
noncomputable def mx(x:Nat×Nat×Nat):T:=.tup [iT x.1,iT x.2.1,iT x.2.2]
noncomputable def St(l:List (Nat×Nat×Nat)):Int->Int->Prop:=l.rec (λo o'=>o=o'/\o.natAbs<=1000) λx z ih o o'=>o.natAbs<=1000/\∃fT:Int,fT*x.2.1+x.2.2=o/\x.2.2<x.2.1/\x.2.1<=8/\ih fT o'
def RK{o:Int}{m:Nat}(ho:o.natAbs<=1000)(h1:1<=m)(h2:m<=1000):DM o.natAbs m:=by
 have b1:bc (o.natAbs:Int)<=10:=bits_le (bI ho (by decide))
 have b2:bc (m:Int)<=10:=bits_le (bI h2 (by decide))
 exact⟨aD b2 (by decide),aD b1 (by decide),aD (yc _ _) (aD (mC _ _) (aD (eA b1 b2) (by decide)))⟩
noncomputable def RL:S:=.seq (.fA [2,6] (.call 5 (.cons (.var 2) (.cons (.prim .len (.cons (.var 3) .nil)) .nil)))) (.seq (.app 5 (.tup (.cons (.idx (.var 3) (.var 6)) (.cons (.prim .len (.cons (.var 3) .nil)) (.cons (.var 6) .nil))))) (.seq (.fA [0,7] (.call 10 (.cons (.var 0) (.cons (.idx (.var 3) (.var 6)) (.cons (.var 1) .nil))))) (.seq (.fP [3,4] [ab (.call 9 (.cons (.var 0) (.cons (.var 1) .nil))),ab (.bin .mul (.var 4) (.var 7))]) .skip)))
noncomputable def su(c t:Nat)(o s:Int)(st:List (Nat×Nat×Nat))(x6 x7:Option T):aE:=[ab (tx c),ab (iT t),ab (.int o),ab (.lst (intsOf (bh c t))),ab (.int s),ab (.lst (st.map mx)),x6,x7,ae,ae,ae,ae,ae]
def ahN{L c t:Nat}{o s:Int}{st:List (Nat×Nat×Nat)}{x6 x7:Option T}(hc:ba c=true)(ht:Tk t)(hs:un s=true)(ho:o.natAbs<=1000)(hl:st.length<=13)(hn:bh c t≠[]):∃(p m k:Nat)(fT:Int),p∈bh c t/\fT.natAbs<=1000/\fT*m+k=o/\k<m/\m<=8/\
  ex (Fn aJ (L+11)) RL (su c t o s st x6 x7)=ab (.next,su (dJ c p t) t fT (s*sg c p t) (st++[(p,m,k)]) (ab (iT k)) (ab (.int (sg c p t)))):=by
 have P:=place hc ht
 have hm:=(P.hn hn).1
 have RM:=List.length_pos_iff.mpr hn
 have H0:∀k,k<(bh c t).length->(bh c t).getD k 0∈bh c t:=λk h=>by show(bh c t)[k]?.getD 0∈_;rw[iq h];exact anM h
 have em:=Au (F:=Fn aJ (L+11)) (r:=su c t o s st x6 x7) (k:=3) rfl
 have im:=ke (bh c t)
 have ix:= @Hd (bh c t)
 have RN:=Au (F:=Fn aJ (L+11)) (r:=[ab (tx c),ab (iT t),ab (.int (o.fdiv (bh c t).length)),ab (.lst (intsOf (bh c t))),ab (.int s),ab (.lst (st.map mx)),ab (.int (o.fmod (bh c t).length)),x7,ae,ae,ae,ae,ae]) (k:=3) rfl
 generalize (bh c t).length=m at*
 have H2:(1:Int)<=m:=dh.mpr RM
 have h2:=D0 o H2
 have h3:=UQ o H2
 have h4:=Int.mul_fdiv_add_fmod o m
 have hd:=dm (L:=L) (px H2) (RK ho RM (aD hm (by decide)))
 obtain⟨k,hk⟩:=Ba h2
 have hq:=Int.natAbs_fdiv_le_natAbs o m
 rw[hk]at h3 h4 hd RN
 have H4:=fu.mp h3
 have hp:=H0 k H4
 have hi:=ix H4
 generalize (bh c t).getD k 0=p at*
 have hS:=P.strip hp
 refine⟨p,m,k,o.fdiv m,hp,aD hq ho,by rw[UW];exact h4,H4,hm,?_⟩
 refine sq (nh (c5 (aI rfl (aI em rfl)) hd) rfl) ?_
 refine sq (se (l:=st.map mx) (y:=mx (p,m,k)) rfl (jd (aI (gp rfl rfl hi) (aI RN (aI rfl rfl))) (show 3<=lim by decide)) (by rw[bK];exact aD (cX hl) (by decide))) ?_
 refine sq (nh (c5 (aI rfl (aI (gp rfl rfl hi) (aI rfl rfl))) (taken (L:=L+10) hc ht hp)) rfl) ?_
 refine sq (ni (ahM (c5 (aI rfl (aI rfl rfl)) (places (L:=L+10) hS.hc ht)) (aR rfl rfl (C3 hs hS.hu).1)) (by show 2<=lim;decide) rfl) ?_
 unfold su
 rw[mE]
 rfl
section
variable{F:Nat->List T->Option T}{α:Type}{r:aE}{l:List α}{inj g:α->T}{c:α->Bool}{x:T}{elt src cond:Ex}
def ga{f:T->Option (Option T)}(h:∀a∈l,f (inj a)=ab (if c a=true then ab (g a)else ae)):gather f (l.map inj)=ab ((l.filter c).map g):=by
 induction l with
 |nil=>rfl
 |cons a l ih=>
  show((f (inj a)).bind λo=>(gather f (l.map inj)).bind λys=>ab (o.elim ys (· ::ys)))=_
  rw[h a bk,ih λb hb=>h b (bS _ hb)]
  cases e:c a with
  |true=>rw[apQ e];rfl
  |false=>rw[apR (by rw[e];exact bT)];rfl
def cnd{u:T}{r':aE}{v:Bool}{y:T}(h:ev F cond r'=ab u)(hp:u.plain=true)(hv:u.truth=v)(hy:v=true->ev F elt r'=ab y):((ev F cond r').bind λc=>if c.plain=true then(if c.truth=true then(ev F elt r').map ab else ab ae)else ae)=ab (if v=true then ab y else ae):=by
 rw[h]
 refine(ah hp).trans ?_
 rw[hv]
 cases v with
 |true=>exact(ah rfl).trans ((af (·.map ab) (hy rfl)).trans (af ab (ah rfl).symm))
 |false=>rfl
noncomputable def cf(F:Nat->List T->Option T)(elt cond:Ex)(st:T->Option aE)(y:T):Option (Option T):=(st y).bind λr'=>(ev F cond r').bind λc=>if c.plain=true then(if c.truth=true then(ev F elt r').map ab else ab ae)else ae
def H5{k:Nat}(hs:ev F src r=ab x)(hi:eZ x=ab (l.map inj))(h:∀a∈l,∃u,ev F cond (put r k (inj a))=ab u/\u.plain=true/\u.truth=c a/\(c a=true->ev F elt (put r k (inj a))=ab (g a))):ev F (.comp k elt src cond) r=ab (.lst ((l.filter c).map g)):=by
 show((ev F src r).bind λx=>(eZ x).bind λl=>(gather (cf F elt cond λy=>ab (put r k y)) l).map T.lst)=_
 rw[hs]
 refine(af (·.bind λl=>(gather (cf F elt cond λy=>ab (put r k y)) l).map T.lst) hi).trans (af (·.map T.lst) (ga λa ha=>?_))
 obtain⟨u,h1,h2,h3,h4⟩:=h a ha
 exact cnd h1 h2 h3 h4
def H6{ks:List Nat}{st:α->aE}(hs:ev F src r=ab x)(hi:eZ x=ab (l.map inj))(h:∀a∈l,bH (putAll r ks) (inj a)=ab (st a)/\∃u,ev F cond (st a)=ab u/\u.plain=true/\u.truth=c a/\(c a=true->ev F elt (st a)=ab (g a))):ev F (.jZ ks elt src cond) r=ab (.lst ((l.filter c).map g)):=by
 show((ev F src r).bind λx=>(eZ x).bind λl=>(gather (cf F elt cond (bH (putAll r ks))) l).map T.lst)=_
 rw[hs]
 refine(af (·.bind λl=>(gather (cf F elt cond (bH (putAll r ks))) l).map T.lst) hi).trans (af (·.map T.lst) (ga λa ha=>?_))
 obtain⟨h0,u,h1,h2,h3,h4⟩:=h a ha
 unfold cf
 rw[h0]
 exact cnd h1 h2 h3 h4
def RO:l.filter (λz=>true)=l:=Uu.mpr λz z=>rfl
def p5{k:Nat}(hs:ev F src r=ab x)(hi:eZ x=ab (l.map inj))(h:∀a∈l,ev F elt (put r k (inj a))=ab (g a)):ev F (.comp k elt src (.lit (.bool true))) r=ab (.lst (l.map g)):=(H5 (c:=λz=>true) hs hi λa ha=>⟨_,rfl,rfl,rfl,λz=>h a ha⟩).trans (by rw[RO])
def H7{ks:List Nat}{st:α->aE}(hs:ev F src r=ab x)(hi:eZ x=ab (l.map inj))(h:∀a∈l,bH (putAll r ks) (inj a)=ab (st a)/\ev F elt (st a)=ab (g a)):ev F (.jZ ks elt src (.lit (.bool true))) r=ab (.lst (l.map g)):=(H6 (c:=λz=>true) hs hi λa ha=>⟨(h a ha).1,_,rfl,rfl,rfl,λz=>(h a ha).2⟩).trans (by rw[RO])
end
noncomputable def RP:Ex:=.cmp .ne (.var 3) (.lst .nil)
def pk{L t:Nat}(ht:Tk t)(m:Nat):∀{c:Nat}{o s:Int}{st:List (Nat×Nat×Nat)}{x6 x7:Option T},ba c=true->un s=true->(wy c t).length=m->o.natAbs<=1000->st.length+m<=13->∀k,∃o' dU uG HL,nO (a9 (Fn aJ (L+11)) RP) (ex (Fn aJ (L+11)) RL) (m+1+k) (su c t o s st x6 x7)=ab (.next,su (co c t) t o' (s*sn c t) (st++dU) uG HL)/\St dU o o'/\zs (dU.map (·.1))=zs (wy c t)/\dU.length=m:=by
 have RQ:∀{c:Nat}{o s:Int}{st:List (Nat×Nat×Nat)}{x6 x7:Option T},ba c=true->a9 (Fn aJ (L+11)) RP (su c t o s st x6 x7)=ab (!(bh c t).isEmpty):=λhc=>jK (fK (v:=!(bh _ t).isEmpty) rfl (lb rfl (by decide)) (HZ (f:=λt=>qT .ne (.lst (intsOf (bh _ t))) (.lst [])) (g:=λt=>ab (!(bh _ t).isEmpty)) (ne_0 hc) ht.1 ht.2)) rfl rfl
 induction m with
 |zero=>
  intro c o s st x6 x7 hc hs hm ho hl k
  have P:=place hc ht
  have e:bh c t=[]:=apS λq=>aj (P.hn q).2 (by rw[hm];exact apT 0)
  obtain⟨e1,e2,e3⟩:=P.hz e
  refine⟨o,[],x6,x7,?_,⟨rfl,ho⟩,by rw[e3];rfl,rfl⟩
  rw[ky,e1,e2,JS,kq]
  exact Rf ((RQ hc).trans (by rw[e];rfl))
 |succ m ih=>
  intro c o s st x6 x7 hc hs hm ho hl k
  have P:=place hc ht
  have e:bh c t≠[]:=λq=>aj hm (by rw[(P.hz q).2.2];exact Nat.noConfusion)
  obtain⟨p,n,j,fT,hp,h1,h2,h3,h4,h5⟩:=ahN (L:=L) (x6:=x6) (x7:=x7) hc ht hs ho (aD (bX _ _) hl) e
  have S:=P.strip hp
  obtain⟨o',dU,y6,y7,g1,g2,g3,g4⟩:=ih (c:=dJ c p t) (o:=fT) (s:=s*sg c p t) (st:=st++[(p,n,j)]) (x6:=ab (iT j)) (x7:=ab (.int (sg c p t))) S.hc (C3 hs S.hu).2 (Nat.succ.inj (S.hl.symm.trans hm)) h1 (by rw[bQ,ky];exact hl) k
  refine⟨o',(p,n,j)::dU,y6,y7,?_,⟨ho,fT,h2,h3,h4,g2⟩,?_,af (· +1) g4⟩
  ·rw[ky (m+1)]
   refine Rb ((RQ hc).trans ?_) h5 ?_
   ·cases q:bh c t with
    |nil=>exact aj q e
    |cons a b=>rfl
   ·rw[<-List.append_cons]at g1
    rw[S.RG,S.RH,<-apU]
    exact g1
  ·rw[S.hzs,<-g3]
   rfl
def H8{v:Int}{k:Nat}(h:v.natAbs<2^k):bc v<=k:=by
 refine aD (bO ?_) (bits_le h)
 cases v with
 |ofNat n=>rfl
 |negSucc n=>rfl
noncomputable def RT:S:=.seq (.asg 2 (.bin .add (.bin .mul (.var 2) (.var 9)) (.bin .mod (.var 6) (.var 9)))) .skip
def back{F:Nat->List T->Option T}{x0 x1 x3 x4 x5 x7 x10 x11 x12:Option T}(st:List (Nat×Nat×Nat)):∀{o o':Int}{rest:List T}{x6 x8 x9:Option T},St st o o'->∃y6 y8 y9,b6 (λy r'=>(bH (putAll r' [8,9,6]) y).bind (ex F RT)) ((st.map mx).reverse++rest) [x0,x1,ab (.int o'),x3,x4,x5,x6,x7,x8,x9,x10,x11,x12]=b6 (λy r'=>(bH (putAll r' [8,9,6]) y).bind (ex F RT)) rest [x0,x1,ab (.int o),x3,x4,x5,y6,x7,y8,y9,x10,x11,x12]:=by
 induction st with
 |nil=>intro o o' rest x6 x8 x9 h;rw[h.1];exact⟨_,_,_,rfl⟩
 |cons x st ih=>
  intro o o' rest x6 x8 x9 h
  obtain⟨h1,fT,h2,h3,h4,h5⟩:=h
  obtain⟨y6,y8,y9,g⟩:=ih (rest:=mx x::rest) (x6:=x6) (x8:=x8) (x9:=x9) h5
  refine⟨ab (iT x.2.2),ab (iT x.1),ab (iT x.2.1),?_⟩
  rw[show((x::st).map mx).reverse++rest=(st.map mx).reverse++(mx x::rest)by rw[qB,Ti,fk];rfl,g]
  have hm:(x.2.1:Int)≠0:=px (fu.mpr (bI (dP _) h3))
  have ho:fT.natAbs<=1000:=by
   cases st with
   |nil=>exact h5.2
   |cons y st=>exact h5.1
  have e1:a8 .mul (.int fT) (iT x.2.1)=ab (.int (fT*x.2.1)):=ah (dh.mpr (aD (eA (H8 (k:=10) (bI ho (by decide))) (bits_le (k:=4) (bI h4 (by decide)))) (by decide)):(bc fT:Int)+bc (x.2.1:Int)<=1000000)
  have e2:a8 .mod (iT x.2.2) (iT x.2.1)=ab (iT x.2.2):=(ah hm).trans (af (λi=>ab (T.int i)) ((CX _ _).trans (af _ (Vu h3))))
  exact uU (x:=mx x) (sq (dH (x:=.int o) (aR (aR rfl rfl e1) (aR rfl rfl e2) (af (λi=>ab (T.int i)) h2))) rfl) rfl
def ahO:rowOf 11=ab ⟨215,11,9,zk,NO,10,3⟩:=rfl
def fuel{m:Nat}(h:m<=12):m+1+(99999 - m)=100000:=by rw[ky,tI (aD h (by decide))]
def ahP{F:Nat->List T->Option T}{r:aE}{a b:Ex}{x y:T}(ha:ev F a r=ab x)(hb:ev F b r=ab y):pF F r [ab a,ab b,ae]=ab [x,y,.lst []]:=by
 show((ev F a r).bind λt=>((ev F b r).bind λu=>ab [u,.lst []]).map (t::·))=_
 rw[ha,hb]
 rfl
def picked{L c t:Nat}{o:Int}(hc:ba c=true)(ht:Tk t)(ho:o.natAbs<=1000):Fn aJ (L+12) 11 [tx c,iT t,.int o]=ab (.tup [tx (co c t),.int (sn c t),.lst ((zs (wy c t)).map .int),.int o]):=by
 have P:=place hc ht
 obtain⟨o',st,x6,x7,g1,g2,g3,g4⟩:=pk (L:=L) ht (wy c t).length (o:=o) (s:=1) (st:=[]) (x6:=ae) (x7:=ae) hc rfl rfl ho (aD (bO (jU _)) (aD P.hl (by decide))) (99999 - (wy c t).length)
 rw[fuel P.hl,nF,List.nil_append]at g1
 obtain⟨y6,y8,y9,g5⟩:=back (F:=Fn aJ (L+11)) (x0:=ab (tx (co c t))) (x1:=ab (iT t)) (x3:=ab (.lst (intsOf (bh (co c t) t)))) (x4:=ab (.int (sn c t))) (x5:=ab (.lst (st.map mx))) (x7:=x7) (x10:=ae) (x11:=ae) (x12:=ae) st (rest:=[]) (x6:=x6) (x8:=ae) (x9:=ae) g2
 rw[kq]at g5
 refine jc ahO rfl (lh rfl ?_)
 refine dI (ni (ahP (c5 (aI rfl (aI rfl rfl)) (places (L:=L+10) hc ht)) rfl) (by show 3<=lim;decide) rfl) ?_
 refine dI (r':=su (co c t) t o' (sn c t) st x6 x7) g1 (C1 ?_)
 refine dI (r':=[ab (tx (co c t)),ab (iT t),ab (.int o),ab (.lst (intsOf (bh (co c t) t))),ab (.int (sn c t)),ab (.lst (st.map mx)),y6,x7,y8,y9,ae,ae,ae]) g5 ?_
 refine lj (jd (aI rfl (aI rfl (aI (iO (aI (H7 (l:=st) (inj:=mx) (g:=λx=>iT x.1) rfl rfl λx z=>⟨rfl,rfl⟩) rfl) ?_) (aI rfl rfl)))) (show 4<=lim by decide))
 rw[<-g3]
 exact(af (λl=>gO .qX [.lst l]) (fO (f:=λx:Nat×Nat×Nat=>x.1) (g:=iT)).symm).trans (sorted (by rw[bK,g4];exact bI P.hl (by decide)))
def nk{α:Type}{body:T->aE->Option (Fl×aE)}{inj:α->T}{P:List α->aE->Prop}{l:List α}(h:∀p a s,p++a::s=l->∀r,P p r->∃r',body (inj a) r=ab (.next,r')/\P (p++[a]) r'){r:aE}(h0:P [] r):∃r',b6 body (l.map inj) r=ab (.next,r')/\P l r':=by
 suffices q:∀s p r,p++s=l->P p r->∃r',b6 body (s.map inj) r=ab (.next,r')/\P l r' from q l [] r rfl h0
 intro s
 induction s with
 |nil=>exactλp r e hp=>⟨r,rfl,by rw[<-e,kq];exact hp⟩
 |cons a s ih=>
  intro p r e hp
  obtain⟨fF,h1,h2⟩:=h p a s e r hp
  obtain⟨zD,h3,h4⟩:=ih (p++[a]) fF (by rw[fk];exact e) h2
  exact⟨zD,uU h1 h3,h4⟩
section
variable{F:Nat->List T->Option T}{r:aE}{src:Ex}{body:S}{x:T}{l:List T}{p:Option (Fl×aE)}{k:Nat}{ks:List Nat}
def xg(hs:ev F src r=ab x)(hi:eZ x=ab l)(h:b6 (λy r'=>(ab (put r' k y)).bind (ex F body)) l r=p):ex F (.eV k src body) r=p:=((af (·.bind λx=>(eZ x).bind λl=>b6 (λy r'=>(ab (put r' k y)).bind (ex F body)) l r) hs).trans (af (·.bind λl=>b6 (λy r'=>(ab (put r' k y)).bind (ex F body)) l r) hi)).trans h
def ahQ(hs:ev F src r=ab x)(hi:eZ x=ab l)(h:b6 (λy r'=>(bH (putAll r' ks) y).bind (ex F body)) l r=p):ex F (.hY ks src body) r=p:=((af (·.bind λx=>(eZ x).bind λl=>b6 (λy r'=>(bH (putAll r' ks) y).bind (ex F body)) l r) hs).trans (af (·.bind λl=>b6 (λy r'=>(bH (putAll r' ks) y).bind (ex F body)) l r) hi)).trans h
end
noncomputable def dec(x:Str):Nat:=x.cps.toList.foldr (λy n=>(if y=114 then 1 else 0)+2*n) 0
noncomputable def decA(c:Nat):Nat:=dec (txt c)
def de0:p1 decA (λc=>c) 0:=by kernel_rfl
def de1:p1 decA (λc=>c) 1:=by kernel_rfl
def RU{c:Nat}(hc:ba c=true):dec (txt c)=c:=kj de0 de1 hc
def RV{a b:Nat}(ha:ba a=true)(hb:ba b=true)(h:txt a=txt b):a=b:=(RU ha).symm.trans ((af dec h).trans (RU hb))
noncomputable def dT(l:List (Nat×Int)):List (Str×Int):=l.map λp=>(txt p.1,p.2)
noncomputable def putN(l:List (Nat×Int))(k:Nat)(v:Int):List (Nat×Int):=l.rec [(k,v)] λp r ih=>if p.1=k then(k,v)::r else p::ih
noncomputable def sv(l:List (Nat×Int))(k:Nat):Int:=(l.lookup k).getD 0
def Cd(l:List (Nat×Int)):Prop:=∀p∈l,ba p.1=true
def RX{k:Nat}(hk:ba k=true){l:List (Nat×Int)}(h:Cd l):(dT l).lookup (txt k)=l.lookup k:=by
 induction l with
 |nil=>rfl
 |cons p l ih=>
  obtain⟨a,v⟩:=p
  have e:(txt k==txt a)=(k==a):=xD.mpr (ax.trans (Vp ⟨RV hk (h _ bk),af txt⟩ ax.symm))
  have ih:=ih λp hp=>h p (bS _ hp)
  show apV (txt k) ((txt a,v)::dT l)=_
  rw[cE,cE,e,ih]
def ahT{k:Nat}(hk:ba k=true){l:List (Nat×Int)}(h:Cd l):iU .vJ (.aY (dT l)) [tx k,.int 0]=ab (.int (sv l k)):=af (λo:Option Int=>ab (T.int (o.getD 0))) (RX hk h)
def ahU{k:Nat}{v:Int}(hk:ba k=true){l:List (Nat×Int)}(h:Cd l):dput (dT l) (txt k) v=dT (putN l k v)/\Cd (putN l k v)/\(putN l k v).length<=l.length+1:=by
 induction l with
 |nil=>exact⟨rfl,λp hp=>(b4.mp hp)▸hk,bj _⟩
 |cons p l ih=>
  have hl:Cd l:=λp hp=>h p (bS _ hp)
  obtain⟨h1,h2,h3⟩:=ih hl
  show(if txt p.1=txt k then(txt k,v)::dT l else(txt p.1,p.2)::dput (dT l) (txt k) v)=dT (if p.1=k then(k,v)::l else p::putN l k v)/\Cd (if p.1=k then(k,v)::l else p::putN l k v)/\(if p.1=k then(k,v)::l else p::putN l k v).length<=_
  by_cases e:p.1=k
  ·rw[ah e,ah (af txt e)]
   exact⟨rfl,λq hq=>(br.mp hq).elim (λe=>e▸hk) (hl q),gy _⟩
  ·rw[ai e,ai λq=>e (RV (h _ bk) hk q),h1]
   exact⟨rfl,λq hq=>(br.mp hq).elim (λe=>e▸h _ bk) (h2 q),cX h3⟩
noncomputable def pX(fr:List (Nat×Int))(w t:Nat)(b:List (Nat×Int))(i:Nat):List (Nat×Int):=putN b (dJ w i t) (sv b (dJ w i t)+sg w i t*sv fr w)
noncomputable def C4(fr:List (Nat×Int))(t:Nat)(b:List (Nat×Int))(p:Nat×Int):List (Nat×Int):=(bh p.1 t).foldl (pX fr p.1 t) b
noncomputable def C5(t:Nat)(fr:List (Nat×Int)):List (Nat×Int):=fr.foldl (C4 fr t) []
noncomputable def sx(t c m:Nat):List (Nat×Int):=m.rec [(c,1)] λz l=>C5 t l
noncomputable def Av(l:List (Nat×Int)):Bool:=decide (l.length<=100)&&l.all λp=>ba p.1&&(l.lookup p.1).elim false λv=>decide (v.natAbs<=1000000)
def ahV{F:Nat->List T->Option T}{r:aE}{k:Nat}{i e:Ex}{l:List (Str×Int)}{y:Int}{s:Str}(h:get r k=ab (.aY l))(he:ev F e r=ab (.int y))(hi:ev F i r=ab (.str s))(hl:l.length+1<=lim/\s.length<=lim):ex F (.tQ k i e) r=ab (.next,put r k (.aY (dput l s y))):=by
 show((get r k).bind (vH λl=>(ev F e r).bind (bp λy=>(ev F i r).bind (cG λs=>if l.length+1<=lim/\s.length<=lim then cb (put r k (.aY (dput l s y)))else ae))))=_
 rw[h,he,hi]
 exact ah hl
noncomputable def xh:S:=.seq (.tQ 5 (.var 7) (.bin .add (.sm .vJ (.var 5) (.cons (.var 7) (.cons (.lit (.int 0)) .nil))) (.bin .mul (.var 8) (.idx (.var 3) (.var 6))))) .skip
noncomputable def Aw:Ex:=.comp 9 (.call 10 (.cons (.var 6) (.cons (.var 9) (.cons (.var 1) .nil)))) (.call 9 (.cons (.var 6) (.cons (.var 1) .nil))) (.lit (.bool true))
structure W1(c t m:Nat)(fr:List (Nat×Int))(w:Option T)(n:Nat)(b:List (Nat×Int))(r:aE):Prop where
 hr:∃x4 x7 x8 x9,r=[ab (tx c),ab (iT t),ab (iT m),ab (.aY (dT fr)),x4,ab (.aY (dT b)),w,x7,x8,x9]
 hc:Cd b
 hl:b.length<=n
def RY(c t:Nat):(bh c t).length<=8:=aD (Vi _ _) (by rw[kr];exact mC _ _)
def ahW{L c t m w n:Nat}{fr b:List (Nat×Int)}{v:Int}{r:aE}(ht:Tk t)(hf:Cd fr)(hw:ba w=true)(hv:fr.lookup w=ab v)(hb:v.natAbs<=1000000)(hn:n<=1000)(h:W1 c t m fr (ab (tx w)) n b r):
  ∃r',ex (Fn aJ (L+1)) (.seq (.hY [7,8] Aw xh) .skip) r=ab (.next,r')/\W1 c t m fr (ab (tx w)) (n+8) (C4 fr t b (w,v)) r':=by
 obtain⟨⟨x4,x7,x8,x9,e⟩,h2,h3⟩:=h
 subst e
 have P:=place hw ht
 have hg:sv fr w=v:=af (·.getD 0) hv
 have hs:ev (Fn aJ (L+1)) Aw [ab (tx c),ab (iT t),ab (iT m),ab (.aY (dT fr)),x4,ab (.aY (dT b)),ab (tx w),x7,x8,x9]=ab (.lst ((bh w t).map λi=>.tup [tx (dJ w i t),.int (sg w i t)])):=
  p5 (inj:=iT) (c5 (aI rfl (aI rfl rfl)) (places (L:=L) hw ht)) rfl λi hi=>c5 (aI rfl (aI rfl (aI rfl rfl))) (taken (L:=L) hw ht hi)
 obtain⟨r',g1,g2,g3,g4⟩:=nk (body:=λy r'=>(bH (putAll r' [7,8]) y).bind (ex (Fn aJ (L+1)) xh)) (inj:=λi=>.tup [tx (dJ w i t),.int (sg w i t)]) (P:=λp=>W1 c t m fr (ab (tx w)) (n+p.length) (p.foldl (pX fr w t) b)) (l:=bh w t) (λp i s hp r h=>by
  obtain⟨⟨x4,x7,x8,x9,e⟩,h2,h3⟩:=h
  subst e
  have hi:i∈bh w t:=hp▸mF _ bk
  have S:=P.strip hi
  obtain⟨d1,d2,d3⟩:=ahU (v:=sv (p.foldl (pX fr w t) b) (dJ w i t)+sg w i t*sv fr w) S.hc h2
  have wc:p.length<=8:=aD (by rw[<-hp,bQ];exact bX _ _) (RY w t)
  have hmul:a8 .mul (.int (sg w i t)) (.int v)=ab (.int (sg w i t*v)):=by
   refine ah (dh.mpr (aD (eA (?_:bc (sg w i t)<=1) (H8 (k:=20) (bI hb (by decide)))) (by decide)):(bc (sg w i t):Int)+bc v<=1000000)
   rcases As S.hu with e|e<;>rw[e]<;>decide
  refine⟨_,sq (ahV rfl (aR (o9 rfl (aI rfl (aI rfl rfl)) (ahT S.hc h2)) (aR rfl (gp rfl rfl ((af (·.map T.int) (RX hw hf)).trans (af (·.map T.int) hv))) hmul) rfl) rfl ⟨?_,?_⟩) rfl,⟨x4,ab (tx (dJ w i t)),ab (.int (sg w i t)),x9,?_⟩,?_,?_⟩
  ·unfold dT
   rw[bK]
   exact aD (cX (aD h3 (eA hn wc))) (by decide)
  ·show 8<=lim;decide
  ·rw[tL]
   show _=[_,_,_,_,_,ab (T.aY (dT (putN (p.foldl (pX fr w t) b) (dJ w i t) (sv (p.foldl (pX fr w t) b) (dJ w i t)+sg w i t*sv fr w)))),_,_,_,_]
   rw[<-d1,hg]
   rfl
  ·rw[tL]
   exact d2
  ·rw[tL,bQ]
   exact aD d3 (cX h3)) ⟨⟨x4,x7,x8,x9,rfl⟩,h2,h3⟩
 refine⟨r',je.trans ((af (·.bind λx=>(eZ x).bind λl=>b6 (λy r'=>(bH (putAll r' [7,8]) y).bind (ex (Fn aJ (L+1)) xh)) l [ab (tx c),ab (iT t),ab (iT m),ab (.aY (dT fr)),x4,ab (.aY (dT b)),ab (tx w),x7,x8,x9]) hs).trans g1),g2,g3,aD g4 (f6 (RY w t) _)⟩
def ahX{F:Nat->List T->Option T}{r:aE}{fz:List Nat}{s:S}{p:Option (Fl×aE)}(h:ex F s r=p):ex F (.gh fz s) r=p:=h
def ahY{l:List (Nat×Int)}(h:Av l=true):l.length<=100/\∀p∈l,ba p.1=true/\∃v:Int,l.lookup p.1=ab v/\v.natAbs<=1000000:=by
 obtain⟨h1,h2⟩:=an h
 refine⟨aq h1,λp hp=>?_⟩
 obtain⟨h3,h4⟩:=an (bA.mp h2 p hp)
 cases e:l.lookup p.1 with
 |none=>rw[e]at h4;exact aj h4 bT
 |some v=>rw[e]at h4;exact⟨h3,v,rfl,aq h4⟩
def ahZ:rowOf 12=ab ⟨220,12,9,zm,NP,7,3⟩:=rfl
def ah0{L c t m:Nat}{fr:List (Nat×Int)}{x4 x5 x6 x7 x8 x9:Option T}(ht:Tk t)(h:Av fr=true):∃y4 y6 y7 y8 y9,ex (Fn aJ (L+1)) (.seq (.own 5 (.jY .nil .nil)) (.seq (.eV 6 (.var 3) (.seq (.hY [7,8] Aw xh) .skip)) (.gh [5] (.seq (.asg 3 (.var 5)) .skip)))) [ab (tx c),ab (iT t),ab (iT m),ab (.aY (dT fr)),x4,x5,x6,x7,x8,x9]=ab (.next,[ab (tx c),ab (iT t),ab (iT m),ab (.aY (dT (C5 t fr))),y4,ab (.aY (dT (C5 t fr))),y6,y7,y8,y9]):=by
 obtain⟨h1,h2⟩:=ahY h
 obtain⟨r',g1,w,⟨y4,y7,y8,y9,e⟩,g3,g4⟩:=nk (body:=λy r'=>(ab (put r' 6 y)).bind (ex (Fn aJ (L+1)) (.seq (.hY [7,8] Aw xh) .skip))) (inj:=λp:Nat×Int=>tx p.1) (P:=λp r=>∃w,W1 c t m fr w (8*p.length) (p.foldl (C4 fr t) []) r) (l:=fr) (λp a s hp r h=>by
  obtain⟨w,⟨y4,y7,y8,y9,e⟩,h3,h4⟩:=h
  subst e
  obtain⟨ha,v,hv,hb⟩:=h2 a (hp▸mF _ bk)
  have hl:p.length<=100:=aD (by rw[<-hp,bQ];exact bX _ _) h1
  obtain⟨r',f1,f2⟩:=ahW (L:=L) ht (λp hp=>(h2 p hp).1) ha hv hb (aD (ko 8 hl) (by decide)) (⟨⟨y4,y7,y8,y9,rfl⟩,h3,h4⟩:W1 c t m fr (ab (tx a.1)) (8*p.length) (p.foldl (C4 fr t) []) _)
  refine⟨r',f1,ab (tx a.1),?_⟩
  rw[tL,bQ]
  exact f2) ⟨x6,⟨x4,x7,x8,x9,rfl⟩,λp hp=>aj hp gM,bj _⟩
 subst e
 refine⟨_,_,_,_,_,sq (Al (x:=.aY []) rfl rfl) (sq (r':=[ab (tx c),ab (iT t),ab (iT m),ab (.aY (dT fr)),y4,ab (.aY (dT (C5 t fr))),w,y7,y8,y9]) ?_ (ahX (sq (dH rfl) rfl)))⟩
 show b6 _ ((dT fr).map λp=>.str p.1) _=_
 unfold dT at g1 ⊢
 rw[fO]
 exact g1
def ah1{L c t m:Nat}(ht:Tk t)(hm:m<=1000)(h:∀i,i<m->Av (sx t c i)=true):Fn aJ (L+2) 12 [tx c,iT t,iT m]=ab (.aY (dT (sx t c m))):=by
 obtain⟨r',g1,y4,y5,y6,y7,y8,y9,e⟩:=nk (body:=λy r'=>(ab (put r' 4 y)).bind (ex (Fn aJ (L+1)) (.seq (.own 5 (.jY .nil .nil)) (.seq (.eV 6 (.var 3) (.seq (.hY [7,8] Aw xh) .skip)) (.gh [5] (.seq (.asg 3 (.var 5)) .skip)))))) (inj:=λi:Nat=>.int (0+(i:Int))) (P:=λp r=>∃x4 x5 x6 x7 x8 x9,r=[ab (tx c),ab (iT t),ab (iT m),ab (.aY (dT (sx t c p.length))),x4,x5,x6,x7,x8,x9]) (l:=bf m) (λp a s hp r h=>by
  obtain⟨y4,y5,y6,y7,y8,y9,e⟩:=h
  subst e
  have hl:p.length<m:=by
   have q:=af Bk hp
   rw[bQ,kr]at q
   exact bG (vx (eP _)) (bO q)
  obtain⟨z4,z6,z7,z8,z9,f⟩:=ah0 (L:=L) (c:=c) (m:=m) (x4:=ab (.int (0+(a:Int)))) (x5:=y5) (x6:=y6) (x7:=y7) (x8:=y8) (x9:=y9) ht (h _ hl)
  exact⟨_,f,z4,_,z6,z7,z8,z9,by rw[bQ];rfl⟩) (r:=[ab (tx c),ab (iT t),ab (iT m),ab (.aY (dT [(c,1)])),ae,ae,ae,ae,ae,ae]) ⟨_,_,_,_,_,_,rfl⟩
 subst e
 rw[kr]at g1
 refine jc ahZ rfl (lh rfl (dI (dH rfl) (dI (r':=[ab (tx c),ab (iT t),ab (iT m),ab (.aY (dT (sx t c m))),y4,y5,y6,y7,y8,y9]) ?_ (lj rfl))))
 show(((if -1000000<=(m:Int)/\(m:Int)<=lim then _ else _):Option T).bind λx=>(eZ x).bind λl=>b6 _ l _)=_
 rw[ah ⟨dn (by decide) (cy m),dh.mpr (aD hm (by decide))⟩]
 exact g1
noncomputable def jL(a b:Bool):Nat:=if b=true then 114 else if a=true then 85 else 117
noncomputable def lq(c:Nat):Str:=⟨#[jL true (c.testBit 0),jL (c.testBit 0) (c.testBit 1),jL (c.testBit 1) (c.testBit 2),jL (c.testBit 2) (c.testBit 3),jL (c.testBit 3) (c.testBit 4),jL (c.testBit 4) (c.testBit 5),jL (c.testBit 5) (c.testBit 6),jL (c.testBit 6) (c.testBit 7)]⟩
noncomputable def ask(c:Nat):Str:=s_ "*"++lq c++s_ "/ruuuu/"
noncomputable def low(c:Nat):Str:=s_ "*"++txt c
noncomputable def ah2:Ex:=.bin .add (.bin .add (.lit (.str (s_ "*"))) (.call 6 (.cons (.var 1) (.cons (.lit (.str (s_ "r"))) .nil)))) (.lit (.str (s_ "/ruuuu/")))
noncomputable def ah3:Ex:=.sm .lower (.idx (.sm .split1 (.var 1) (.cons (.lit (.str (s_ "/"))) .nil)) (.lit (.int 0))) .nil
noncomputable def H9(L:Nat)(x0 x2 x3 x4 x5 x6 x7:Option T)(c:Nat):Option T:=ev (Fn aJ (L+1)) ah2 [x0,ab (tx c),x2,x3,x4,x5,x6,x7]
noncomputable def Ia(c:Nat):Option T:=ab (.str (ask c))
noncomputable def Ib(F:Nat->List T->Option T)(x0 x2:Option T)(c:Nat):Option T:=ev F ah3 [x0,ab (.str (ask c)),x2]
noncomputable def Ic(c:Nat):Option T:=ab (.str (low c))
section
variable{L:Nat}{F:Nat->List T->Option T}{x0 x2 x3 x4 x5 x6 x7:Option T}
def as0:p1 (H9 L x0 x2 x3 x4 x5 x6 x7) Ia 0:=by kernel_rfl
def as1:p1 (H9 L x0 x2 x3 x4 x5 x6 x7) Ia 1:=by kernel_rfl
def lw0:p1 (Ib F x0 x2) Ic 0:=by kernel_rfl
def lw1:p1 (Ib F x0 x2) Ic 1:=by kernel_rfl
def RZ{c:Nat}(hc:ba c=true):H9 L x0 x2 x3 x4 x5 x6 x7 c=Ia c:=kj as0 as1 hc
def ah7{c:Nat}(hc:ba c=true):Ib F x0 x2 c=Ic c:=kj lw0 lw1 hc
end
noncomputable def lo(y:Str):Str:=s_ "r"++y++s_ "u"
def ah8:(tab 4 λt=>(ff t).map λy=>(iU .lower (.str (aa y)) [],aa y==s_ "*",pg (aa y),(vv false y).length==0))=cx 4 λt=>(ff t).map λy=>(ab (.str (lo y)),false,lo y,false):=by kernel_rfl
noncomputable def vl(c:Nat)(y:Str):Int:=Dq (txt c) (lo y)+1
def ah9{L c:Nat}{y v:Str}(h:y.length<=100):Fn aJ (L+1) 28 [.eG y v,tx c]=ab (.int (vl c y)):=ah (aD (cR h 2) (by decide))
noncomputable def gV(c p t:Nat):Str:=⟨((bf t).map λi=>fY (c.testBit (p+1+i))).toArray⟩
noncomputable def R0(c t:Nat):Bool:=((ff t).any (λy=>AN (low c) (lo y))==!(bh c (t+1)).isEmpty)&&(bh c (t+1)).getLast?.elim ((ff t).all λy=>vl c y==0) λp=>((ff t).all λy=>decide (vl c y<=((p+1:Nat):Int))&&(vl c y !=((p+1:Nat):Int)||y==gV c p t))&&(vl c (gV c p t)==((p+1:Nat):Int)&&(ff t).contains (gV c p t))
noncomputable def p6(c:Nat):List Bool:=tab 4 (R0 c)
noncomputable def gr(c:Nat):List Bool:=cx 4 λz=>true
def ov0:q1 p6 gr 0:=by kernel_rfl
def ov1:q1 p6 gr 1:=by kernel_rfl
def ov2:q1 p6 gr 2:=by kernel_rfl
def ov3:q1 p6 gr 3:=by kernel_rfl
def ov4:q1 p6 gr 4:=by kernel_rfl
def ov5:q1 p6 gr 5:=by kernel_rfl
def ov6:q1 p6 gr 6:=by kernel_rfl
def ov7:q1 p6 gr 7:=by kernel_rfl
def aij{c t:Nat}(hc:ba c=true)(ht:t<4):R0 c t=true:=b8 (xf (f:=p6) (g:=gr) (xe ov0 ov1 ov2 ov3 ov4 ov5 ov6 ov7) hc) t ht
noncomputable def km(t:Nat)(m:Bool)(k:Nat):T:=.ins 1 [.lst ([.str (s_ "*"),.str (rr m)]++(i7 t k).map λy=>.str (aa y)),.lst ((i7 t k).map λy=>.eG y (vv m y)),if m then .none else .int ((t+1:Nat):Int),.str (rr m)]
noncomputable def rl(t k:Nat)(m:Bool):List (Str×Str):=((i7 t k).map λy=>(y,vv m y))++(ff t).map λy=>(y,vv (!m) y)
noncomputable def ag(t k:Nat):List Str:=s_ "*"::(i7 t k).map aa
noncomputable def sy(x:Str×Str):T:=.eG x.1 x.2
noncomputable def jf(t k:Nat)(m:Bool):T:=.ins 1 [.lst ((ag t k).map .str),.lst ((rl t k m).map sy),.int ((t+1:Nat):Int),.str (rr (!m))]
def aik:(tab 4 λt=>tab 8 λk=>tab 2 λm=>Ac [km t (m==0) k,km t (!(m==0)) 0])=cx 4 λt=>cx 8 λk=>cx 2 λm=>ab (jf t k (m==0)):=by kernel_rfl
def uI{t k:Nat}{y:Str}:y∈i7 t k↔y∈ff t:=by
 unfold i7
 rw[vk,Or.comm,<-vk,UY]
abbrev Vt(c t:Nat):Prop:=t<4/\ba c=true/\(((ff t).any λy=>AN (low c) (lo y))=!(bh c (t+1)).isEmpty)/\(bh c (t+1)=[]->∀y∈ff t,vl c y=0)/\(∀p,(bh c (t+1)).getLast?=ab p->(∀y∈ff t,vl c y<=(p+1:Nat)/\(vl c y=(p+1:Nat)->y=gV c p t))/\vl c (gV c p t)=(p+1:Nat)/\gV c p t∈ff t)
section
variable(h:Vt c t)
def Vt.ht:=h.1
def Vt.hc:=h.2.1
def Vt.told:=h.2.2.1
def Vt.en:=h.2.2.2.1
def Vt.es:=h.2.2.2.2
end
def vt{c t:Nat}(hc:ba c=true)(ht:t<4):Vt c t:=by
 obtain⟨h1,h2⟩:=an (aij hc ht)
 refine⟨ht,hc,ao h1,λe=>?_,λp e=>?_⟩
 ·rw[e]at h2
  exactλy hy=>ao (bA.mp h2 y hy)
 ·rw[e]at h2
  obtain⟨h2,h3⟩:=an h2
  refine⟨λy hy=>?_,ao (an h3).1,jo.mp (an h3).2⟩
  obtain⟨h4,h5⟩:=an (bA.mp h2 y hy)
  exact⟨aq h4,λq=>((JQ _ _).mp h5).elim (λz=>aj q (bne_iff_ne.mp z)) ao⟩
noncomputable def xi:S:=.seq (.bN (.cmp .ne (.var 2) (.lit (.str (s_ "*")))) (.seq (.asg 2 (.sm .lower (.var 2) .nil)) (.seq (.bN (.oP (.var 2) (.var 1)) (.seq (.ret [] (.lit (.bool true))) .skip) .skip) .skip)) .skip) .skip
def ail{F:Nat->List T->Option T}{x0:Option T}{n:Str}{s:S}(hs:∀r,(ex F s r).bind cw=ab (.bool false))(l:List Str):∀{x2:Option T},(∀a∈l,a=s_ "*"∨((a==s_ "*")=false/\iU .lower (.str a) []=ab (.str (pg a))))->
  ((b6 (λy r'=>(ab (put r' 2 y)).bind (ex F xi)) (l.map .str) [x0,ab (.str n),x2]).bind (mP (ex F s))).bind cw=ab (.bool (l.any λa=>!(a==s_ "*")&&AN n (pg a))):=by
 induction l with
 |nil=>exactλz=>hs _
 |cons a l ih=>
  intro x2 h
  have hb:∀{v},(a==s_ "*")=v->a9 F (.cmp .ne (.var 2) (.lit (.str (s_ "*")))) [x0,ab (.str n),ab (.str a)]=ab !v:=λe=>jK (fK (v:=!_) rfl rfl (af (λv=>ab !v) e)) rfl rfl
  have hl:=λb hb=>h b (bS a hb)
  rw[DC]
  rcases h a bk with e|⟨e,e2⟩
  ·have e:(a==s_ "*")=true:=ax.mpr e
   rw[e]
   have g:ex F xi [x0,ab (.str n),ab (.str a)]=ab (.next,[x0,ab (.str n),ab (.str a)]):=je.trans ((gH (hb e)).trans rfl)
   exact(af (λo=>(o.bind (mP (ex F s))).bind cw) (uU (f:=λy r'=>(ab (put r' 2 y)).bind (ex F xi)) (r:=[x0,ab (.str n),x2]) (x:=.str a) g rfl)).trans (ih hl)
  ·rw[e]
   have q:∀{v},AN n (pg a)=v->a9 F (.oP (.var 2) (.var 1)) [x0,ab (.str n),ab (.str (pg a))]=ab v:=λe=>jK (x:=.bool _) (af (λv=>ab (T.bool v)) e) rfl rfl
   have g:ex F xi [x0,ab (.str n),ab (.str a)]=ex F (.bN (.oP (.var 2) (.var 1)) (.seq (.ret [] (.lit (.bool true))) .skip) .skip) [x0,ab (.str n),ab (.str (pg a))]:=je.trans ((ja (hb e)).trans (sq (dH (o9 rfl rfl e2)) je))
   cases e3:AN n (pg a)with
   |true=>exact af (λo=>((o.bind (nN (b6 (λy r'=>(ab (put r' 2 y)).bind (ex F xi)) (l.map .str)))).bind (mP (ex F s))).bind cw) (g.trans ((ja (q e3)).trans (sr (sf rfl))))
   |false=>exact(af (λo=>(o.bind (mP (ex F s))).bind cw) (uU (f:=λy r'=>(ab (put r' 2 y)).bind (ex F xi)) (r:=[x0,ab (.str n),x2]) (x:=.str a) (g.trans ((gH (q e3)).trans rfl)) rfl)).trans (ih hl)
def aim:rowOf 26=ab ⟨165,26,1,N6,N7,1,2⟩:=rfl
def ain:rowOf 27=ab ⟨172,27,1,N8,N9,4,2⟩:=rfl
def Ax{t:Nat}(ht:t<4){y:Str}(hy:y∈ff t):iU .lower (.str (aa y)) []=ab (.str (lo y))/\(aa y==s_ "*")=false/\pg (aa y)=lo y/\((vv false y).length==0)=false:=by
 have q:=jV.mp (b8 ah8 t ht) y hy
 injection q with q1 q2
 injection q2 with q2 q3
 injection q3 with q3 q4
 exact⟨q1,q2,q3,q4⟩
def R1{L c t k:Nat}{m:Bool}(V:Vt c t):Fn aJ (L+1) 26 [jf t k m,.str (ask c)]=ab (.bool !(bh c (t+1)).isEmpty):=by
 have hag:∀a∈ag t k,a=s_ "*"∨((a==s_ "*")=false/\iU .lower (.str a) []=ab (.str (pg a))):=λa ha=>(br.mp ha).imp id λh=>by
  obtain⟨y,hy,e⟩:=dy.mp h
  obtain⟨q1,q2,q3,q4⟩:=Ax V.ht (uI.mp hy)
  exact e▸⟨q2,q3.symm▸q1⟩
 refine jc aim rfl (lh rfl (dI ((gH rfl).trans rfl) (dI (dH (ah7 V.hc)) ((ail (λr=>lj rfl) (ag t k) hag).trans (af (λb=>ab (T.bool b)) ?_)))))
 rw[<-V.told]
 refine xD.mpr (xw.trans (Vp ⟨?_,?_⟩ xw.symm))
 ·intro ⟨a,ha,h⟩
  obtain⟨h1,h2⟩:=an h
  rcases br.mp ha with e|h
  ·rw[e]at h1;exact aj h1 bT
  ·obtain⟨y,hy,e⟩:=dy.mp h
   have hy:=uI.mp hy
   exact⟨y,hy,by rw[<-(Ax V.ht hy).2.2.1,e];exact h2⟩
 ·intro ⟨y,hy,h⟩
  refine⟨aa y,bS _ (dy.mpr ⟨y,uI.mpr hy,rfl⟩),?_⟩
  rw[(Ax V.ht hy).2.1,(Ax V.ht hy).2.2.1,h]
  rfl
noncomputable def em(o:Option Str):Bool:=o.elim false λv=>v.length==0
noncomputable def oB(s:Int×Option Str)(x:Int×Str):Int×Option Str:=if x.1=0 then s else if s.1<x.1 then(x.1,ab x.2)else if x.1=s.1/\em s.2=true then(s.1,ab x.2)else s
def aip{l:List (Int×Str)}(h:∀x∈l,x.1=0){s:Int×Option Str}:l.foldl oB s=s:=by
 induction l with
 |nil=>rfl
 |cons x l ih=>exact(af (l.foldl oB) (ah (h x bk))).trans (ih λy hy=>h y (bS _ hy))
def reach{M:Int}{X:Str}(hM:M≠0)(hX:em (ab X)=false){l:List (Int×Str)}:∀{s:Int×Option Str},(∀x∈l,x.1<=M/\(x.1=M->x.2=X∨em (ab x.2)=true))->(s=(M,ab X)∨((M,X)∈l/\(s.1<M∨(s.1=M/\em s.2=true))))->l.foldl oB s=(M,ab X):=by
 induction l with
 |nil=>exactλv q=>q.elim id λq=>aj q.1 gM
 |cons x l ih=>
  intro s h q
  have hl:=λy hy=>h y (bS _ hy)
  obtain⟨h1,h2⟩:=h x bk
  refine ih (s:=oB s x) hl ?_
  unfold oB
  by_cases z:x.1=0
  ·rw[ah z]
   exact q.imp id λq=>⟨(br.mp q.1).resolve_left λe=>hM (by rw[<-z,<-e]),q.2⟩
  ·rw[ai z]
   by_cases e:x.1=M
   ·rcases q with q|⟨q1,q2⟩
    ·rw[q,e,ai (Tu M),ai λw=>bT (hX.symm.trans w.2)]
     exact .inl rfl
    ·have q3:(if s.1<x.1 then(x.1,ab x.2)else if x.1=s.1/\em s.2=true then(s.1,ab x.2)else s)=(M,ab x.2):=by
      rcases q2 with q2|q2
      ·rw[ah (e▸q2),e]
      ·rw[ai (by rw[e,q2.1];exact Tu M),ah ⟨e.trans q2.1.symm,q2.2⟩,q2.1]
     rw[q3]
     rcases h2 e with g|g
     ·exact .inl (by rw[g])
     ·exact .inr ⟨(br.mp q1).resolve_left λw=>bT (hX.symm.trans ((af (λp:Int×Str=>em (ab p.2)) w).trans g)),.inr ⟨rfl,g⟩⟩
   ·have lt:=Int.lt_iff_le_and_ne.mpr ⟨h1,e⟩
    rcases q with q|⟨q1,q2⟩
    ·rw[q,ai (lA.mpr h1),ai λw=>e w.1]
     exact .inl rfl
    ·refine .inr ⟨(br.mp q1).resolve_left λw=>e (by rw[<-w]),?_⟩
     by_cases g:s.1<x.1
     ·rw[ah g];exact .inl lt
     ·rw[ai g]
      by_cases g2:x.1=s.1/\em s.2=true
      ·rw[ah g2];exact .inl (g2.1▸lt)
      ·rw[ai g2];exact q2
noncomputable def pb(o:Option Str):T:=o.elim (.bool true) .str
def aiq(o:Option Str):(pb o).plain=true/\(pb o).truth=!em o:=by cases o with|none=>exact⟨rfl,rfl⟩|some v=>exact⟨rfl,rfl⟩
noncomputable def R2:S:=.seq (.asg 5 (.bE 28 (.var 4) (.cons (.var 1) .nil))) (.seq (.bN (.var 5) (.seq (.bN (.cmp .gt (.var 5) (.var 2)) (.seq (.asg 2 (.var 5)) (.seq (.asg 3 (.attr (.var 4) 100)) .skip)) (.seq (.bN (.jt (.cmp .eq (.var 5) (.var 2)) (.mN (.var 3))) (.seq (.asg 3 (.attr (.var 4) 100)) .skip) .skip) .skip)) .skip) .skip) .skip)
def air{L c:Nat}{x0 x5:Option T}{s:Int×Option Str}{y:Str×Str}(hy:y.1.length<=100):ex (Fn aJ (L+1)) R2 [x0,ab (tx c),ab (.int s.1),ab (pb s.2),ab (sy y),x5]=ab (.next,[x0,ab (tx c),ab (.int (oB s (vl c y.1,y.2)).1),ab (pb (oB s (vl c y.1,y.2)).2),ab (sy y),ab (.int (vl c y.1))]):=by
 refine sq (dH (fX rfl (aI rfl rfl) (ah9 hy))) (je.trans ?_)
 generalize vl c y.1=v
 unfold oB
 by_cases z:v=0
 ·rw[ah z]
  exact(gH (jK (x:=.int v) rfl rfl (bne_eq_false_iff_eq.mpr z))).trans rfl
 ·rw[ai z]
  refine(ja (jK (x:=.int v) rfl rfl (bne_iff_ne.mpr z))).trans (je.trans ?_)
  by_cases g:s.1<v
  ·rw[ah g]
   exact(ja (jK (x:=.bool true) (fK (o:=.gt) (x:=.int v) (y:=.int s.1) rfl rfl (af ab (ar g))) rfl rfl)).trans rfl
  ·rw[ai g]
   refine(gH (jK (x:=.bool false) (fK (o:=.gt) (x:=.int v) (y:=.int s.1) rfl rfl (af ab (av g))) rfl rfl)).trans (je.trans ?_)
   obtain⟨p1,p2⟩:=aiq s.2
   have hn:ev (Fn aJ (L+1)) (.mN (.var 3)) [x0,ab (tx c),ab (.int s.1),ab (pb s.2),ab (sy y),ab (.int v)]=ab (.bool (em s.2)):=(ah p1).trans (by rw[p2,Bool.not_not])
   have ha:a9 (Fn aJ (L+1)) (.jt (.cmp .eq (.var 5) (.var 2)) (.mN (.var 3))) [x0,ab (tx c),ab (.int s.1),ab (pb s.2),ab (sy y),ab (.int v)]=ab (v==s.1&&em s.2):=by
    refine jK (x:=.bool (v==s.1&&em s.2)) ?_ rfl rfl
    show(if(v==s.1)=true then ev (Fn aJ (L+1)) (.mN (.var 3)) [x0,ab (tx c),ab (.int s.1),ab (pb s.2),ab (sy y),ab (.int v)]else ab (.bool (v==s.1)))=_
    rw[hn]
    cases v==s.1<;>rfl
   by_cases g2:v=s.1/\em s.2=true
   ·rw[ah g2]
    exact(ja (ha.trans (by rw[g2.2,ax.mpr g2.1];rfl))).trans rfl
   ·rw[ai g2]
    exact(gH (ha.trans (af ab (qA.mpr λq=>g2 ⟨ao (an q).1,(an q).2⟩)))).trans rfl
def ais{t:Nat}(ht:t<4):∀y∈ff t,y.length<=100:=(CA t ht).2
def R3{L c t k:Nat}{m:Bool}(V:Vt c t):Fn aJ (L+2) 27 [jf t k m,tx c]=ab (pb ((bh c (t+1)).getLast?.map λp=>vv false (gV c p t))):=by
 have hm:∀y∈rl t k m,y.1∈ff t/\(y.2=vv false y.1∨y.2=s_ ""):=λy hy=>by
  have key:∀(l:List Str)m,(∀z∈l,z∈ff t)->y∈l.map (λz=>(z,vv m z))->y.1∈ff t/\(y.2=vv false y.1∨y.2=s_ ""):=λl m hl hy=>by
   obtain⟨z,hz,e⟩:=dy.mp hy
   subst e
   refine⟨hl z hz,?_⟩
   cases m with
   |false=>exact .inl rfl
   |true=>exact .inr rfl
  exact(vk.mp hy).elim (key _ _ λz=>uI.mp) (key _ _ λz=>id)
 obtain⟨r',g1,y4,y5,e⟩:=nk (body:=λy r'=>(ab (put r' 4 y)).bind (ex (Fn aJ (L+1)) R2)) (inj:=sy) (P:=λp r=>∃x4 x5,r=[ab (jf t k m),ab (tx c),ab (.int ((p.map λy=>(vl c y.1,y.2)).foldl oB (-1,ae)).1),ab (pb ((p.map λy=>(vl c y.1,y.2)).foldl oB (-1,ae)).2),x4,x5]) (l:=rl t k m) (λp a s hp r h=>by
  obtain⟨x4,x5,e⟩:=h
  subst e
  refine⟨_,air (ais V.ht a.1 (hm a (hp▸mF _ bk)).1),ab (sy a),ab (.int (vl c a.1)),?_⟩
  rw[mE,tL]
  rfl) (r:=[ab (jf t k m),ab (tx c),ab (.int (-1)),ab (.bool true),ae,ae]) ⟨ae,ae,rfl⟩
 subst e
 refine jc ain rfl (lh rfl (dI (dH rfl) (dI (dH rfl) (dI g1 (lj (af ab (af pb ?_)))))))
 cases e:(bh c (t+1)).getLast? with
 |none=>
  have q:=V.en (apW.mp e)
  rw[aip λx hx=>by
   obtain⟨y,hy,e⟩:=dy.mp hx
   exact e▸q y.1 (hm y hy).1]
  rfl
 |some p=>
  obtain⟨q1,q2,q3⟩:=V.es p e
  have R:((rl t k m).map λy=>(vl c y.1,y.2)).foldl oB (-1,ae)=(((p+1:Nat):Int),ab (vv false (gV c p t))):=by
   refine reach (λw=>apX p (Int.ofNat.inj w)) (Ax V.ht q3).2.2.2 (λx hx=>?_) (.inr ⟨dy.mpr ⟨(gV c p t,vv false (gV c p t)),?_,af (λi=>(i,vv false (gV c p t))) q2⟩,.inl (AQ (by decide) (cy _))⟩)
   ·obtain⟨y,hy,e⟩:=dy.mp hx
    subst e
    obtain⟨h1,h2⟩:=hm y hy
    exact⟨(q1 y.1 h1).1,λw=>h2.imp (λz=>(q1 y.1 h1).2 w▸z) λz=>by rw[z];rfl⟩
   ·cases m with
    |false=>exact A4 _ (dy.mpr ⟨_,uI.mpr q3,rfl⟩)
    |true=>exact mF _ (dy.mpr ⟨_,q3,rfl⟩)
  rw[R]
  rfl
noncomputable def Ay:Ex:=.cY false (.var 7) (.lit (.int 1)) (.neg (.lit (.int 1)))
noncomputable def R8:Ex:=.sm .rfind (.var 1) (.cons (.bin .add (.bin .add (.lit (.str (s_ "r"))) Ay) (.lit (.str (s_ "u")))) .nil)
noncomputable def b13:Ex:=.bin .add (.bin .add (.cY false (.var 1) .absent (.idx (.var 4) (.neg (.lit (.int 1))))) (.var 7)) (.cY false (.var 1) (.bin .add (.bin .add (.idx (.var 4) (.neg (.lit (.int 1)))) (.var 2)) (.lit (.int 1))) .absent)
noncomputable def Ie:Ex:=.bin .pow (.neg (.lit (.int 1))) (.sm .count Ay (.cons (.lit (.str (s_ "u"))) .nil))
noncomputable def R9(x v t:T)(o:Option T):Option T:=((o.bind λz=>mL false x .none z).bind λa=>a8 .add a v).bind λb=>(((o.bind λz=>a8 .add z t).bind λz=>a8 .add z (.int 1)).bind λz=>mL false x z .none).bind λd=>a8 .add b d
noncomputable def Sa(y:Str):Int:=if(y.cps.toList.filter (· ==117)).length%2=0 then 1 else -1
def aiu{F:Nat->List T->Option T}{x0 x1 x2 x3 x4 x5 x6:Option T}:(tab 4 λt=>(ff t).map λy=>(ev F (.bin .add (.bin .add (.lit (.str (s_ "r"))) Ay) (.lit (.str (s_ "u")))) [x0,x1,x2,x3,x4,x5,x6,ab (.str (vv false y))],ev F Ie [x0,x1,x2,x3,x4,x5,x6,ab (.str (vv false y))]))
  =cx 4 λt=>(ff t).map λy=>(ab (.str (lo y)),ab (.int (Sa y))):=by kernel_rfl
noncomputable def Sb(c:Nat):List (Option (Option T)):=tab 4 λt=>(bh c (t+1)).getLast?.map λp=>R9 (tx c) (.str (vv false (gV c p t))) (iT (t+1)) (ab (iT p))
noncomputable def Sd(c:Nat):List (Option (Option T)):=cx 4 λt=>(bh c (t+1)).getLast?.map λp=>ab (tx (dJ c p (t+1)))
noncomputable def Ig(c t:Nat):Bool:=(bh c (t+1)).getLast?.elim true λp=>wy c (t+1)==p::wy (dJ c p (t+1)) (t+1)&&Sa (gV c p t)==sg c p (t+1)
noncomputable def Se(c:Nat):List Bool:=tab 4 (Ig c)
def cu0:p1 Sb Sd 0:=by kernel_rfl
def cu1:p1 Sb Sd 1:=by kernel_rfl
def ow0:p1 Se gr 0:=by kernel_rfl
def ow1:p1 Se gr 1:=by kernel_rfl
def aiz{a:Int}{p:Nat}(h:a+1=(p+1:Nat)):a=p:=(qN a 1).symm.trans ((af (· - 1) h).trans (qN (p:Int) 1))
def aiA{w:List T}{x:T}:kC (.lst (w++[x])) (.int (-1))=ab x:=by
 show(f9 (-1) (w++[x]).length).bind ((w++[x])[·]?)=_
 have e:f9 (-1) (w++[x]).length=ab w.length:=by
  have h:(if(-1:Int)<0 then -1+((w++[x]).length:Int)else -1)=(w.length:Int):=by
   rw[ah (by decide),bQ]
   show -1+((w.length:Int)+1)=_
   rw[vB]
   exact qN (w.length:Int) 1
  unfold f9
  rw[h]
  show(if(decide (0<=(w.length:Int))&&decide ((w.length:Int)<((w++[x]).length:Int)))=true then ab (w.length:Int).toNat else ae)=_
  rw[ar (cy _),ar (fu.mpr (by rw[bQ];exact il _))]
  rfl
 rw[e]
 show(w++[x])[w.length]?=_
 rw[DT (bj _),D6]
 rfl
noncomputable def Ih:S:=.seq (.app 5 (.bE 26 (.var 0) (.cons (.bin .add (.bin .add (.lit (.str (s_ "*"))) (.call 6 (.cons (.var 1) (.cons (.lit (.str (s_ "r"))) .nil)))) (.lit (.str (s_ "/ruuuu/")))) .nil))) (.seq (.asg 7 (.bE 27 (.var 0) (.cons (.var 1) .nil))) (.seq (.bN (.qY false (.var 7) (.bool true)) (.seq .brk .skip) .skip) (.seq (.app 4 R8) (.seq (.asg 1 b13) (.seq (.aug 3 .mul Ie) .skip)))))
noncomputable def uY(M:T)(t c:Nat)(s:Int)(w:List Nat)(d:List T)(x6 x7:Option T):aE:=[ab M,ab (tx c),ab (iT (t+1)),ab (.int s),ab (.lst (intsOf w)),ab (.lst d),x6,x7]
section
variable{L c t k:Nat}{m:Bool}{s:Int}{w:List Nat}{d:List T}{x6 x7:Option T}
def aiB(V:Vt c t)(hd:d.length<=100)(e:bh c (t+1)=[]):ex (Fn aJ (L+2)) Ih (uY (jf t k m) t c s w d x6 x7)=ab (.brk,uY (jf t k m) t c s w (d++[.bool false]) x6 (ab (.bool true))):=by
 have h1:=R1 (L:=L+1) (k:=k) (m:=m) V
 have h2:=R3 (L:=L) (k:=k) (m:=m) V
 rw[e]at h1 h2
 refine sq (se rfl (fX rfl (aI (RZ V.hc) rfl) h1) (aD (cX hd) (by decide))) ?_
 exact sq (dH (fX rfl (aI rfl rfl) h2)) rfl
def aiC{p:Nat}(V:Vt c t)(hd:d.length<=100)(hw:w.length<=100)(hs:un s=true)(e:(bh c (t+1)).getLast?=ab p):p∈bh c (t+1)/\wy c (t+1)=p::wy (dJ c p (t+1)) (t+1)/\ex (Fn aJ (L+2)) Ih (uY (jf t k m) t c s w d x6 x7)=ab (.next,uY (jf t k m) t (dJ c p (t+1)) (s*sg c p (t+1)) (w++[p]) (d++[.bool true]) x6 (ab (.str (vv false (gV c p t))))):=by
 have hp:=List.mem_of_getLast? e
 have h1:=R1 (L:=L+1) (k:=k) (m:=m) V
 have h2:=R3 (L:=L) (k:=k) (m:=m) V
 obtain⟨q1,q2,q3⟩:=V.es p e
 have ok:Ig c t=true:=b8 (kj ow0 ow1 V.hc) t V.ht
 unfold Ig at ok
 have cut:=b8 (kj cu0 cu1 V.hc) t V.ht
 rw[e]at ok h2 cut
 replace cut:=Option.some.inj cut
 obtain⟨HY,ok2⟩:=an ok
 have mid:=λx0 x1 x2 x3 x4 x5 x6=>jV.mp (b8 (aiu (F:=Fn aJ (L+2)) (x0:=x0) (x1:=x1) (x2:=x2) (x3:=x3) (x4:=x4) (x5:=x5) (x6:=x6)) t V.ht) _ q3
 have aiE:∀{x0 x1 x2 x3 x4 x5 x6:Option T},ev (Fn aJ (L+2)) (.bin .add (.bin .add (.lit (.str (s_ "r"))) Ay) (.lit (.str (s_ "u")))) [x0,x1,x2,x3,x4,x5,x6,ab (.str (vv false (gV c p t)))]=ab (.str (lo (gV c p t))):=λ{x0 x1 x2 x3 x4 x5 x6}=>af Prod.fst (mid x0 x1 x2 x3 x4 x5 x6)
 have aiF:∀{x0 x1 x2 x3 x4 x5 x6:Option T},ev (Fn aJ (L+2)) Ie [x0,x1,x2,x3,x4,x5,x6,ab (.str (vv false (gV c p t)))]=ab (.int (sg c p (t+1))):=λ{x0 x1 x2 x3 x4 x5 x6}=>(af Prod.snd (mid x0 x1 x2 x3 x4 x5 x6)).trans (af (λi=>ab (T.int i)) (ao ok2))
 rw[show(bh c (t+1)).isEmpty=false from qA.mpr λz=>aj hp (by rw[Bf.mp z];exact gM)]at h1
 have hS:=(place V.hc ⟨eP t,aD V.ht (by decide)⟩).strip hp
 refine⟨hp,ao HY,?_⟩
 refine sq (se rfl (fX rfl (aI (RZ V.hc) rfl) h1) (aD (cX hd) (by decide))) ?_
 refine sq (dH (fX rfl (aI rfl rfl) h2)) (sq ((gH rfl).trans rfl) ?_)
 have ha:∀{r:aE},ev (Fn aJ (L+2)) (.bin .add (.bin .add (.lit (.str (s_ "r"))) Ay) (.lit (.str (s_ "u")))) r=ab (.str (lo (gV c p t)))->get r 1=ab (tx c)->ev (Fn aJ (L+2)) R8 r=ab (iT p):=λh1 h2=>o9 h2 (aI h1 rfl) (af (λi=>ab (T.int i)) (by
  show Dq (txt c) (lo (gV c p t))=_
  exact aiz q2))
 refine sq (se rfl (ha aiE rfl) (by rw[ke];exact aD (cX hw) (by decide))) ?_
 refine sq (dH (x:=tx (dJ c p (t+1))) ?_) ?_
 ·refine DP ?_ ((af (R9 _ _ _) (aiA (w:=intsOf w) (x:=iT p))).trans cut)
  rfl
 refine sq (o8 rfl aiF ((ah rfl).trans (C3 hs hS.hu).1)) ?_
 unfold uY
 rw[<-ints_app]
 rfl
def aiG{F:T->aE->Option (Fl×aE)}{x:T}{l:List T}{r r':aE}(h:F x r=ab (.brk,r')):b6 F (x::l) r=ab (.next,r'):=af (·.bind (nN (b6 F l))) h
def Fm(ht:t<4)(n:Nat):∀{c:Nat}{s:Int}{w:List Nat}{d:List T}{x6 x7:Option T}{l:List T},ba c=true->un s=true->(wy c (t+1)).length=n->n<l.length->d.length+n<=50->w.length+n<=50->∃y6 y7,b6 (λy r'=>(ab (put r' 6 y)).bind (ex (Fn aJ (L+2)) Ih)) l (uY (jf t k m) t c s w d x6 x7)=ab (.next,uY (jf t k m) t (co c (t+1)) (s*sn c (t+1)) (w++wy c (t+1)) (d++(bZ n (.bool true)++[.bool false])) y6 y7):=by
 induction n with
 |zero=>
  intro c s w d x6 x7 l hc hs hm hl hd hw
  have P:=place hc (t:=t+1) ⟨eP t,aD ht (by decide)⟩
  have e:bh c (t+1)=[]:=apS λq=>aj (P.hn q).2 (by rw[hm];exact apT 0)
  obtain⟨e1,e2,e3⟩:=P.hz e
  cases l with
  |nil=>exact aj hl (fN 0)
  |cons y l=>
   rw[e1,e2,e3,JS,kq]
   exact⟨_,_,aiG (aiB (L:=L) (k:=k) (m:=m) (s:=s) (w:=w) (x6:=ab y) (x7:=x7) (vt hc ht) (aD hd (by decide)) e)⟩
 |succ n ih=>
  intro c s w d x6 x7 l hc hs hm hl hd hw
  have P:=place hc (t:=t+1) ⟨eP t,aD ht (by decide)⟩
  cases l with
  |nil=>exact aj hl (Ku _)
  |cons y l=>
   cases e:(bh c (t+1)).getLast? with
   |none=>exact aj hm (by rw[(P.hz (apW.mp e)).2.2];exact Nat.noConfusion)
   |some p=>
    obtain⟨hp,h1,h2⟩:=aiC (L:=L) (k:=k) (m:=m) (s:=s) (w:=w) (d:=d) (x6:=ab y) (x7:=x7) (vt hc ht) (aD (aD (bX _ _) hd) (by decide)) (aD (aD (bX _ _) hw) (by decide)) hs e
    have S:=P.strip hp
    obtain⟨y6,y7,g⟩:=ih (c:=dJ c p (t+1)) (s:=s*sg c p (t+1)) (w:=w++[p]) (d:=d++[.bool true]) (x6:=ab y) (x7:=ab (.str (vv false (gV c p t)))) (l:=l) S.hc (C3 hs S.hu).2 (Nat.succ.inj (S.hl.symm.trans hm)) (aoJ hl) (by rw[bQ,ky];exact hd) (by rw[bQ,ky];exact hw)
    rw[fk,apU,<-S.RH,<-S.RG,fk,show[p]++wy (dJ c p (t+1)) (t+1)=wy c (t+1)from h1.symm]at g
    exact⟨y6,y7,uU h2 g⟩
def aiH:rowOf 13=ab ⟨227,13,9,uv,NQ,5,3⟩:=rfl
def aiI(hc:ba c=true)(ht:t<4):Fn aJ (L+3) 13 [jf t k m,tx c,iT (t+1)]=ab (.tup [tx (co c (t+1)),.int (sn c (t+1)),.lst (intsOf (wy c (t+1))),.lst (bZ (wy c (t+1)).length (.bool true)++[.bool false])]):=by
 have P:=place hc (t:=t+1) ⟨eP t,aD ht (by decide)⟩
 have hl:=P.hl
 obtain⟨y6,y7,g⟩:=Fm (L:=L) (k:=k) (m:=m) ht _ (c:=c) (s:=1) (w:=[]) (d:=[]) (x6:=ae) (x7:=ae) (l:=pD 0 14) hc rfl rfl (bI hl (by decide)) (aD (f6 hl 0) (by decide)) (aD (f6 hl 0) (by decide))
 rw[nF]at g
 refine jc aiH rfl (lh rfl (dI (ni (l:=[.int 1,.lst [],.lst []]) rfl (by show 3<=lim;decide) rfl) (dI g (C1 (lj (jd (aI rfl (aI rfl (aI rfl (aI rfl rfl)))) (show 4<=lim by decide)))))))
end
noncomputable def cV(x:Str)(w:Ws):T:=.ins 0 [.str x,iT w.n,iT w.nt,.tup [.tup (intsOf w.c),iT w.b],.bool (decide (w.c.length<=1))]
noncomputable def sz(c:List Nat)(ts:Nat)(l:List Nat):Nat:=l.foldl (λa j=>a+(ts+j)/ts*c.getD (ts+j) 0) 0
noncomputable def lvl(w:Ws)(ts:Nat):Nat:=w.b+ts*(sz w.c ts (bf (w.c.length - ts))+w.nt)
noncomputable def run(w:Ws):Nat:=max (w.c.length - 1) w.b
structure Wk(w:Ws):Prop where
 l:w.c.length<=1000
 b:w.b<=1000
 nt:w.nt<=1000
 x:∀x∈w.c,x<=1000
section
variable{F:Nat->List T->Option T}{r:aE}{a b:Ex}{m n L:Nat}{w v:Ws}{x y:Str}
def Az{a:Nat}(h:0<m)(h2:m<=100000):a8 .fdiv (iT a) (iT m)=ab (iT (a/m)):=(ah ⟨px (fu.mpr h),PR (bI h2 (by decide))⟩).trans (af (λi=>ab (T.int i)) (wK a m))
def sA{a:Nat}(h:0<m):a8 .mod (iT a) (iT m)=ab (iT (a%m)):=(ah (px (fu.mpr h))).trans (af (λi=>ab (T.int i)) (CX a m))
def AA(h:m<2^40)(h2:n<2^40):a8 .mul (iT m) (iT n)=ab (iT (m*n)):=HF (aD (eA (bits_le h) (bits_le h2)) (by decide))
def Ii(ha:ev F a r=ab (iT m))(hb:ev F b r=ab (iT n))(hm:m<=60000)(hn:n<=60000):ev F (.mO a b) r=ab (.lst ((bf (n - m)).map λj=>iT (m+j))):=by
 show((ev F a r).bind (bp λm=>(ev F b r).bind (bp λn=>if -1000000<=m/\m<=1000000/\ -1000000<=n/\n - m<=lim/\n<=1000000 then ab (T.lst (pD m n))else ae)))=_
 rw[ha,hb]
 refine(ah ⟨dn (by decide) (cy m),dh.mpr (aD hm (by decide)),dn (by decide) (cy n),dn (Int.sub_le_self _ (cy m)) (dh.mpr (aD hn (by decide))),dh.mpr (aD hn (by decide))⟩).trans ?_
 show ab (T.lst ((bf ((n:Int) - (m:Int)).toNat).map λi=>.int ((m:Int)+(i:Nat))))=_
 rw[Int.toNat_sub]
 rfl
def aiJ:rowOf 20=ab ⟨38,20,0,NR,NS,2,1⟩:=rfl
def aiK:rowOf 21=ab ⟨45,21,0,NU,NV,4,2⟩:=rfl
def aiL:rowOf 23=ab ⟨59,23,0,NW,NX,3,2⟩:=rfl
def aiM:rowOf 24=ab ⟨66,24,0,NY,NZ,2,2⟩:=rfl
def aiN:rowOf 25=ab ⟨73,25,0,N0,N1,3,2⟩:=rfl
def Sf(a b:Nat):(if(b:Int)>(a:Int)then(b:Int)else(a:Int))=((max a b:Nat):Int):=by
 by_cases h:a<b
 ·rw[ah (fu.mpr h),apZ (cT h)]
 ·rw[ai λq=>h (fu.mp q),Nat.max_eq_left (fL.mp h)]
def aiO{k b:Nat}:(if(b:Int)>(k:Int) - 1 then(b:Int)else(k:Int) - 1)=((max (k - 1) b:Nat):Int):=by
 cases k with
 |zero=>exact(ah (AQ (show(-1:Int)<0 by decide) (cy b))).trans (af (λn:Nat=>(n:Int)) (apZ (dP b)).symm)
 |succ k=>
  rw[show((k+1:Nat):Int) - 1=k from qN (k:Int) 1]
  exact Sf k b
def Sg:Fn aJ (L+1) 20 [cV x w]=ab (iT (run w)):=by
 refine jc aiJ rfl (lh rfl (dI (nh rfl rfl) (lj (iO (aI (aR (iO (aI rfl rfl) rfl) rfl rfl) (aI rfl rfl)) ?_))))
 show ab (T.int (if(w.b:Int)>((intsOf w.c).length:Int) - 1 then(w.b:Int)else((intsOf w.c).length:Int) - 1))=_
 rw[ke,aiO]
 rfl
def aiP{l:List Nat}(h:∀x∈l,x<=1000)(i:Nat):l.getD i 0<=1000:=by
 show l[i]?.getD 0<=_
 cases e:l[i]? with
 |none=>exact dP _
 |some x=>exact h x (dZ e)
def C6{ts:Nat}(h:Wk w)(h1:1<=ts)(h2:ts<=2000):Fn aJ (L+1) 21 [cV x w,iT ts]=ab (iT (lvl w ts)):=by
 obtain⟨r',g,⟨y5,e⟩,g3⟩:=nk (body:=λy r'=>(ab (put r' 5 y)).bind (ex (Fn aJ L) (.seq (.asg 4 (.bin .add (.var 4) (.bin .mul (.bin .fdiv (.var 5) (.var 1)) (.idx (.var 2) (.var 5))))) .skip))) (inj:=λj=>iT (ts+j)) (P:=λp r=>(∃x5,r=[ab (cV x w),ab (iT ts),ab (.tup (intsOf w.c)),ab (iT w.b),ab (iT (sz w.c ts p)),x5])/\sz w.c ts p<=p.length*10000000) (l:=bf (w.c.length - ts)) (λp j s hp r ⟨⟨x5,e⟩,hb⟩=>by
  subst e
  have hj:j<w.c.length - ts:=iu.mp (hp▸mF _ bk)
  have Ai:ts+j<w.c.length:=eK j ts▸Nat.add_lt_of_lt_sub hj
  have hx:=aiP h.x (ts+j)
  have hq:(ts+j)/ts<=1000:=aD (yc _ _) (aD (cT Ai) h.l)
  have e:sz w.c ts (p++[j])=sz w.c ts p+(ts+j)/ts*w.c.getD (ts+j) 0:=tL
  refine⟨_,sq (dH (x:=iT (sz w.c ts p+(ts+j)/ts*w.c.getD (ts+j) 0)) (aR rfl (aR (aR rfl rfl (Az h1 (aD h2 (by decide)))) (gp rfl rfl (Hd Ai)) (AA (bI hq (by decide)) (bI hx (by decide)))) rfl)) rfl,⟨ab (iT (ts+j)),by rw[e];rfl⟩,?_⟩
  rw[e,bQ,Ea]
  exact eA hb (aD (yl hq hx) (show 1000*1000<=1*10000000 by decide))) (r:=[ab (cV x w),ab (iT ts),ab (.tup (intsOf w.c)),ab (iT w.b),ab (iT 0),ae]) ⟨⟨ae,rfl⟩,dP _⟩
 subst e
 have hi:sz w.c ts (bf (w.c.length - ts))+w.nt<2^40:=bI (eA (aD g3 (nG _ (by rw[kr];exact aD (mC _ _) h.l))) h.nt) (by decide)
 refine jc aiK rfl (lh rfl (dI (nh rfl rfl) (dI (dH rfl) (dI (r':=[ab (cV x w),ab (iT ts),ab (.tup (intsOf w.c)),ab (iT w.b),ab (iT (sz w.c ts (bf (w.c.length - ts)))),y5]) ?_ ?_))))
 ·exact xg (Ii (n:=w.c.length) rfl ((iO (aI rfl rfl) rfl).trans (af (λn=>ab (iT n)) (ke _))) (aD h2 (by decide)) (aD h.l (by decide))) rfl g
 ·exact lj (aR (x:=iT w.b) rfl (aR rfl (aR rfl rfl rfl) (AA (bI h2 (by decide)) hi)) rfl)
noncomputable def top(w v:Ws):Nat:=max (run w) (run v)+1
noncomputable def dX(x:Nat×Nat×Nat):T:=.tup [iT x.1,iT x.2.1,iT x.2.2]
noncomputable def wl(f:Nat->Nat->Bool)(w v:Ws)(l:List Nat):List (Nat×Nat×Nat):=(l.filter λi=>f (lvl w (1+i)) (lvl v (1+i))).map λi=>(1+i,lvl w (1+i),lvl v (1+i))
noncomputable def wit(f:Nat->Nat->Bool)(w v:Ws):List (Nat×Nat×Nat):=wl f w v (bf (top w v))
noncomputable def Sh:Ex:=.bin .add (.prim .max2 (.cons (.bE 20 (.var 0) .nil) (.cons (.bE 20 (.var 1) .nil) .nil))) (.lit (.int 1))
def Si{t:aE}:ev (Fn aJ (L+1)) Sh (ab (cV x w)::ab (cV y v)::t)=ab (iT (top w v)):=by
 refine aR (x:=iT (max (run w) (run v))) (y:=iT 1) (iO (aI (fX rfl rfl Sg) (aI (fX rfl rfl Sg) rfl)) ?_) rfl rfl
 exact af (λi=>ab (T.int i)) (Sf _ _)
def Sj(h:Wk w)(g:Wk v):top w v<=1001:=cX (KO.mpr ⟨KO.mpr ⟨aD (mC _ _) h.l,h.b⟩,KO.mpr ⟨aD (mC _ _) g.l,g.b⟩⟩)
def Sk{o:qS}{f:Nat->Nat->Bool}(ho:∀a b:Nat,qT o (iT a) (iT b)=ab (f a b))(h:Wk w)(g:Wk v):kQ (Fn aJ (L+1)) (.seq (.asg 2 Sh) (.seq (.own 3 (.lst .nil)) (.seq (.eV 4 (.mO (.lit (.int 1)) (.bin .add (.var 2) (.lit (.int 1)))) (.seq (.bN (.cmp o (.bE 21 (.var 0) (.cons (.var 4) .nil)) (.bE 21 (.var 1) (.cons (.var 4) .nil))) (.seq (.app 3 (.tup (.cons (.var 4) (.cons (.bE 21 (.var 0) (.cons (.var 4) .nil)) (.cons (.bE 21 (.var 1) (.cons (.var 4) .nil)) .nil))))) .skip) .skip) .skip)) (.gh [3] (.seq (.ret [] (.var 3)) .skip))))) 3 2 [cV x w,cV y v]=ab (.lst ((wit f w v).map dX)):=by
 have ht:=Sj h g
 obtain⟨r',q,y4,e⟩:=nk (body:=λy r'=>(ab (put r' 4 y)).bind (ex (Fn aJ (L+1)) (.seq (.bN (.cmp o (.bE 21 (.var 0) (.cons (.var 4) .nil)) (.bE 21 (.var 1) (.cons (.var 4) .nil))) (.seq (.app 3 (.tup (.cons (.var 4) (.cons (.bE 21 (.var 0) (.cons (.var 4) .nil)) (.cons (.bE 21 (.var 1) (.cons (.var 4) .nil)) .nil))))) .skip) .skip) .skip))) (inj:=λj=>iT (1+j)) (P:=λp r=>∃x4,r=[ab (cV x w),ab (cV y v),ab (iT (top w v)),ab (.lst ((wl f w v p).map dX)),x4]) (l:=bf (top w v)) (λp j s hp r ⟨x4,e⟩=>by
  subst e
  have hj:j<top w v:=iu.mp (hp▸mF _ bk)
  have hl:p.length<=1001:=aD (by have q:=af Bk hp;rw[bQ,kr]at q;exact q▸bX _ _) ht
  have h2:1+j<=2000:=aD (f6 (cT (bG hj ht)) 1) (by decide)
  have l1:=C6 (L:=L) (x:=x) h (bX 1 j) h2
  have l2:=C6 (L:=L) (x:=y) g (bX 1 j) h2
  have hc:a9 (Fn aJ (L+1)) (.cmp o (.bE 21 (.var 0) (.cons (.var 4) .nil)) (.bE 21 (.var 1) (.cons (.var 4) .nil))) [ab (cV x w),ab (cV y v),ab (iT (top w v)),ab (.lst ((wl f w v p).map dX)),ab (iT (1+j))]=ab (f (lvl w (1+j)) (lvl v (1+j))):=jK (x:=.bool _) (fK (fX rfl (aI rfl rfl) l1) (fX rfl (aI rfl rfl) l2) (ho _ _)) rfl rfl
  unfold wl
  rw[List.filter_append,mE,mE]
  cases e:f (lvl w (1+j)) (lvl v (1+j))with
  |true=>
   rw[e]at hc
   rw[apQ (p:=λi=>f (lvl w (1+i)) (lvl v (1+i))) e]
   refine⟨_,je.trans ((ja hc).trans (sq (se (l:=(wl f w v p).map dX) rfl (jd (aI rfl (aI (fX rfl (aI rfl rfl) l1) (aI (fX rfl (aI rfl rfl) l2) rfl))) (show 3<=lim by decide)) ?_) rfl)),ab (iT (1+j)),rfl⟩
   rw[bK]
   unfold wl
   rw[bK]
   exact aD (cX (aD (Vi _ _) hl)) (by decide)
  |false=>
   rw[e]at hc
   rw[apR (p:=λi=>f (lvl w (1+i)) (lvl v (1+i))) (by rw[e];exact bT)]
   exact⟨_,je.trans ((gH hc).trans rfl),ab (iT (1+j)),by rw[List.filter_nil,D1,D1,kq];rfl⟩) (r:=[ab (cV x w),ab (cV y v),ab (iT (top w v)),ab (.lst []),ae]) ⟨ae,rfl⟩
 subst e
 refine lh rfl (dI (dH Si) (dI (Al (x:=.lst []) rfl rfl) (dI (r':=[ab (cV x w),ab (cV y v),ab (iT (top w v)),ab (.lst ((wit f w v).map dX)),y4]) ?_ (C1 (lj rfl)))))
 exact xg (Ii (n:=top w v+1) rfl rfl (by decide) (aD (cX ht) (by decide))) rfl q
def uZ(a b:Nat):((a:Int)==(b:Int))=(a==b):=xD.mpr (ax.trans (Int.ofNat_inj.trans ax.symm))
def Ij(h:Wk w)(g:Wk v):Fn aJ (L+2) 23 [cV x w,cV y v]=ab (.lst ((wit (λa b=>!(a==b)) w v).map dX)):=jc aiL rfl (Sk (o:=.ne) (λa b=>af (λv=>ab !v) (uZ a b)) h g)
def Sl(h:Wk w)(g:Wk v):Fn aJ (L+2) 25 [cV x w,cV y v]=ab (.lst ((wit (λa b=>decide (b<=a)) w v).map dX)):=jc aiN rfl (Sk (o:=.ge) (λa b=>af ab (decide_eq_decide.mpr dh)) h g)
noncomputable def C7(w v:Ws)(j:Nat):Bool:=decide (lvl w (2+j)<lvl v (2+j))
noncomputable def sC(w v:Ws):Bool:=!decide (v.n<=w.n)&&(if(decide (w.c.length<=1)&&decide (v.c.length<=1))=true then decide (w.nt<=v.nt)else(bf (top w v+1 - 2)).all (C7 w v))
noncomputable def Ik:S:=.seq (.bN (.cmp .ge (.bE 21 (.var 0) (.cons (.var 3) .nil)) (.bE 21 (.var 1) (.cons (.var 3) .nil))) (.seq (.ret [] (.lit (.bool false))) .skip) .skip) .skip
def aiQ{x2:Option T}{s:S}(hs:∀r,(ex (Fn aJ (L+1)) s r).bind cw=ab (.bool true))(h:Wk w)(g:Wk v)(l:List Nat):∀{x3:Option T},(∀j∈l,j<=1000)->((b6 (λy r'=>(ab (put r' 3 y)).bind (ex (Fn aJ (L+1)) Ik)) (l.map λj=>iT (2+j)) [ab (cV x w),ab (cV y v),x2,x3]).bind (mP (ex (Fn aJ (L+1)) s))).bind cw=ab (.bool (l.all (C7 w v))):=by
 induction l with
 |nil=>exactλz=>hs _
 |cons j l ih=>
  intro x3 hl
  have h2:2+j<=2000:=aD (f6 (hl j bk) 2) (by decide)
  have l1:=C6 (L:=L) (x:=x) h (aD (by decide) (bX 2 j)) h2
  have l2:=C6 (L:=L) (x:=y) g (aD (by decide) (bX 2 j)) h2
  have hc:a9 (Fn aJ (L+1)) (.cmp .ge (.bE 21 (.var 0) (.cons (.var 3) .nil)) (.bE 21 (.var 1) (.cons (.var 3) .nil))) [ab (cV x w),ab (cV y v),x2,ab (iT (2+j))]=ab (!C7 w v j):=jK (x:=.bool _) (fK (o:=.ge) (fX rfl (aI rfl rfl) l1) (fX rfl (aI rfl rfl) l2) (af ab ((decide_eq_decide.mpr (dh.trans fL.symm)).trans decide_not))) rfl rfl
  rw[Bl]
  cases e:C7 w v j with
  |true=>
   rw[e]at hc
   exact(af (λo=>(o.bind (mP (ex (Fn aJ (L+1)) s))).bind cw) (uU (f:=λy r'=>(ab (put r' 3 y)).bind (ex (Fn aJ (L+1)) Ik)) (r:=[ab (cV x w),ab (cV y v),x2,x3]) (x:=iT (2+j)) (r':=[ab (cV x w),ab (cV y v),x2,ab (iT (2+j))]) (je.trans ((gH hc).trans rfl)) rfl)).trans (ih λi hi=>hl i (bS _ hi))
  |false=>
   rw[e]at hc
   exact af (λo=>((o.bind (nN (b6 (λy r'=>(ab (put r' 3 y)).bind (ex (Fn aJ (L+1)) Ik)) (l.map λj=>iT (2+j))))).bind (mP (ex (Fn aJ (L+1)) s))).bind cw) (je.trans ((ja hc).trans (sr (sf (fz:=[]) (a:=.lit (.bool false)) (x:=.bool false) rfl))))
def Il(h:Wk w)(g:Wk v):Fn aJ (L+2) 24 [cV x w,cV y v]=ab (.bool (sC w v)):=by
 have ht:=Sj h g
 have c1:a9 (Fn aJ (L+1)) (.cmp .ge (.attr (.var 0) 1) (.attr (.var 1) 1)) (start 2 [cV x w,cV y v])=ab (decide (v.n<=w.n)):=jK (x:=.bool _) (fK (o:=.ge) (x:=iT w.n) (y:=iT v.n) rfl rfl (af ab (decide_eq_decide.mpr dh))) rfl rfl
 have c2:a9 (Fn aJ (L+1)) (.jt (.attr (.var 0) 4) (.attr (.var 1) 4)) (start 2 [cV x w,cV y v])=ab (decide (w.c.length<=1)&&decide (v.c.length<=1)):=by
  refine jK (x:=.bool (decide (w.c.length<=1)&&decide (v.c.length<=1))) ?_ rfl rfl
  show(if decide (w.c.length<=1)=true then ab (T.bool (decide (v.c.length<=1)))else ab (T.bool (decide (w.c.length<=1))))=_
  cases decide (w.c.length<=1)<;>rfl
 refine jc aiM rfl (lh rfl ?_)
 unfold sC
 cases e:decide (v.n<=w.n)with
 |true=>rw[e]at c1;exact af (·.bind cw) (sr ((ja c1).trans (sr (sf (fz:=[]) (a:=.lit (.bool false)) (x:=.bool false) rfl))))
 |false=>
  rw[e]at c1
  refine dI ((gH c1).trans rfl) ?_
  cases e2:(decide (w.c.length<=1)&&decide (v.c.length<=1))with
  |true=>
   rw[e2]at c2
   exact af (·.bind cw) (sr ((ja c2).trans (sr (sf (fz:=[]) (fK (o:=.le) (a:=.attr (.var 0) 2) (b:=.attr (.var 1) 2) (x:=iT w.nt) (y:=iT v.nt) rfl rfl (af ab (decide_eq_decide.mpr dh)))))))
  |false=>
   rw[e2]at c2
   refine dI ((gH c2).trans rfl) (dI (dH Si) ?_)
   refine DP (af (λo=>(o.bind (mP (ex (Fn aJ (L+1)) (.seq (.ret [] (.lit (.bool true))) .skip)))).bind cw) (xg (Ii (m:=2) (n:=top w v+1) rfl rfl (by decide) (aD (cX ht) (by decide))) rfl rfl)) (aiQ (λr=>lj rfl) h g (bf (top w v+1 - 2)) λj hj=>aD (cT (iu.mp hj)) (aD (JN (cX ht) 2) (by decide)))
end
noncomputable def d6(l:List Nat):Bool->List Nat:=l.rec (λz=>[]) λc z ih st=>if c=114 then 114::ih true else jL st false::ih false
def Ul(l:List Nat):Prop:=∀d∈l,d=117∨d=85
def C8(d:Nat)(h:d=117∨d=85):Vx d=[85]/\ap0 d=[117]/\(d==931)=false/\d≠114:=by
 rcases h with e|e<;>subst e<;>exact⟨by kernel_rfl,by kernel_rfl,rfl,by decide⟩
def uQ{w:List Nat}(h:Ul w):d6 w false=w.map λz=>117:=by
 induction w with
 |nil=>rfl
 |cons d w ih=>exact(ai (C8 d (h d bk)).2.2.2).trans (af (117::·) (ih λe he=>h e (bS _ he)))
def aiR{r:List Nat}(p:List Nat):∀{st:Bool},d6 (p++114::r) st=d6 p st++114::d6 r true:=by
 induction p with
 |nil=>exactλ{st}=>(ah rfl:(if 114=114 then 114::d6 r true else jL st false::d6 r false)=114::d6 r true)
 |cons d p ih=>
  intro st
  show(if d=114 then 114::d6 (p++114::r) true else jL st false::d6 (p++114::r) false)=(if d=114 then 114::d6 p true else jL st false::d6 p false)++114::d6 r true
  by_cases e:d=114
  ·rw[ah e,ah e,ih];rfl
  ·rw[ai e,ai e,ih];rfl
def aiS(w:List Nat):((w.map λz=>(#[117]:Array Nat)).map TV).flatten=w.map λz=>117:=by
 induction w with
 |nil=>rfl
 |cons d w ih=>exact af (117::·) ih
def Sm{s:Str}(h:Ul s.cps.toList):yj s=⟨(d6 s.cps.toList true).toArray⟩:=by
 obtain⟨⟨w⟩⟩:=s
 cases w with
 |nil=>rfl
 |cons c w=>
  have hw:Ul w:=λe he=>h e (bS _ he)
  have e1:d6 (c::w) true=85::w.map λz=>117:=(ai (C8 c (h c bk)).2.2.2).trans (af (85::·) (uQ hw))
  refine(ai (show¬((c::w).length==0)=true fromλq=>apX _ (ao q))).trans ?_
  show(⟨placed ⟨⟨c::w⟩⟩ λi d=>if(i==0)=true then Vx d else KP ⟨c::w⟩ i⟩:Str)=⟨(d6 (c::w) true).toArray⟩
  rw[e1]
  refine af AO (TX.mp ?_)
  unfold placed
  rw[Array.toList_flatten,Array.toList_mapIdx]
  have e2:List.mapIdx (λi d=>(if(i==0)=true then Vx d else KP ⟨c::w⟩ i).toArray) (c::w)= #[85]::w.map λz=> #[117]:=by
   refine DV λi=>?_
   rw[List.getElem?_mapIdx]
   cases i with
   |zero=>exact af (λl:List Nat=>ab l.toArray) (C8 c (h c bk)).1
   |succ i=>
    show w[i]?.map _=(w.map _)[i]?
    rw[gL]
    cases e:w[i]? with
    |none=>rfl
    |some d=>
     obtain⟨u1,u2,u3,u4⟩:=C8 d (hw d (dZ e))
     refine af (λl:List Nat=>ab l.toArray) ?_
     show KP ⟨c::w⟩ (i+1)=[117]
     unfold KP
     rw[show(⟨c::w⟩:Array Nat)[i+1]?=ab d from(xF (xs:=⟨c::w⟩)).symm.trans e]
     show(if(d==931&&Unicode.endsWord ⟨c::w⟩ (i+1))=true then[962]else ap0 d)=_
     rw[u3]
     exact u2
  rw[e2]
  show[85]++((w.map λz=>(#[117]:Array Nat)).map TV).flatten=_
  rw[aiS]
  rfl
def xj(a b:Str):(a++b).cps.toList=a.cps.toList++b.cps.toList:=by rw[Str.cps_append,Ts]
def aiT(ps:List Str):(∀p∈ps,Ul p.cps.toList)->(Bn ⟨#[114]⟩ (ps.map yj)).cps.toList=d6 (Bn ⟨#[114]⟩ ps).cps.toList true:=by
 induction ps with
 |nil=>exactλz=>rfl
 |cons p ps ih=>
  intro h
  cases ps with
  |nil=>exact af (λs:Str=>s.cps.toList) (Sm (h p bk))
  |cons q ps=>
   have ih:=ih λx hx=>h x (bS _ hx)
   show(yj p++⟨#[114]⟩++Bn ⟨#[114]⟩ ((q::ps).map yj)).cps.toList=d6 (p++⟨#[114]⟩++Bn ⟨#[114]⟩ (q::ps)).cps.toList true
   rw[xj,xj,xj,xj,ih,Sm (h p bk),fk,fk]
   exact(aiR _).symm
def mem_join(d:Nat)(ps:List Str):∀p∈ps,d∈p.cps.toList->d∈(Bn ⟨#[114]⟩ ps).cps.toList:=by
 induction ps with
 |nil=>exactλp hp=>aj hp gM
 |cons q ps ih=>
  intro p hp hd
  cases ps with
  |nil=>exact b4.mp hp▸hd
  |cons q' ps=>
   show d∈(q++⟨#[114]⟩++Bn ⟨#[114]⟩ (q'::ps)).cps.toList
   rw[xj,xj]
   exact(br.mp hp).elim (λe=>A4 _ (A4 _ (e▸hd))) λh=>mF _ (ih p h hd)
def Sn(ps:List Str):hH (ps.map .str)=ab ps:=by
 induction ps with
 |nil=>rfl
 |cons p ps ih=>exact af (·.map (p::·)) ih
open PySem.Builtin.Str PySem.StrLaws in
def aiU{L:Nat}{s:Str}(hs:s.length<=8)(h:∀d∈s.cps.toList,d=114∨d=117∨d=85)(hl:(d6 s.cps.toList true).length<=8):Fn aJ (L+1) 6 [.str s,.str (s_ "r")]=ab (.str ⟨(d6 s.cps.toList true).toArray⟩):=by
 have er:s_ "r"=⟨#[114]⟩:=rfl
 show CO s (s_ "r")=_
 rw[er]
 have hn:=aAX s ⟨#[114]⟩
 have hp:∀p∈Txt.split s ⟨#[114]⟩,p.length<=8/\Ul p.cps.toList:=λp hp=>⟨aD (aAY hp) hs,λd hd=>(h d (by
  have q:=mem_join d _ p hp hd
  rw[ap2]at q
  exact q)).resolve_left λe=>aAZ s 114 p hp (e▸hd)⟩
 have hj:=aiT _ λp q=>(hp p q).2
 rw[ap2]at hj
 have ej:fi ⟨#[114]⟩ (m9 (Txt.split s ⟨#[114]⟩))=⟨(d6 s.cps.toList true).toArray⟩:=(aA0 _ _).trans (af AO (TX.mp hj))
 have e1:iU .split1 (.str s) [.str ⟨#[114]⟩]=ab (.lst ((Txt.split s ⟨#[114]⟩).map .str)):=ah ⟨rfl,aD (bO (length_partsBetween ..)) (aD (cX (occ_length_le ..)) (aD (cR hs 2) (by decide))),aD hn (aD (cR hs 2) (by decide)),bA.mpr λp q=>ar (aD (hp p q).1 (by decide))⟩
 unfold CO
 rw[e1]
 show(hH ((Txt.split s ⟨#[114]⟩).map .str)).bind _=_
 rw[Sn]
 refine(ah ⟨⟨?_,?_⟩,?_,?_⟩).trans (af (λx=>ab (T.str x)) ej)
 ·rw[bK];exact aD hn (aD (cR hs 2) (by decide))
 ·exact bA.mpr λp q=>by rw[EF (aD (len_capitalized p) (aD (ko 3 (hp p q).1) (by decide)))];rfl
 ·exact af not (joinFits (B:=24) (λy hy=>by
   obtain⟨p,hq,e⟩:=dy.mp hy
   exact e▸aD (aA3 p) (ko 3 (hp p hq).1)) (by
   have q:(m9 (Txt.split s ⟨#[114]⟩)).length<=10:=by unfold m9;rw[bK];exact aD hn (cR hs 2)
   exact aD (eA (nG 24 q) (nG 1 q)) (by decide)))
 ·rw[ej];exact aD hl (by decide)
noncomputable def Im(s:S):S:=if h:s.ctorIdx=16 then S.seq.elim s h λz b=>b else s
noncomputable def nxS(s:S):S:=if h:(Im s).ctorIdx=17 then S.gh.elim (Im s) h λz b=>b else Im s
noncomputable def gI(i:Nat):S:=i.rec zt λz s=>nxS s
structure Kn(r:aE)(l:List (Nat×T)):Prop where
 len:r.length=87
 g:∀k{v},l.lookup k=ab v->get r k=ab v
def Io{r:aE}{k:Nat}{x:T}(h:k<r.length):get (put r k x) k=ab x:=by
 show(r.set k (ab x))[k]?.getD ae=_
 rw[List.getElem?_set_self h]
 rfl
section
variable{F:Nat->List T->Option T}{r:aE}{l:List (Nat×T)}{k n:Nat}{x y v:T}{A B:List T}{a b e:Ex}
def Kn.put(K:Kn r l)(hk:k<87):Kn (put r k v) ((k,v)::l):=⟨(J8 ..).trans K.len,λj{w}h=>by
 by_cases e:j=k
 ·subst e
  rw[cE,aw]at h
  exact(Io (K.len▸hk)).trans h
 ·rw[cE,beq_false_of_ne e]at h
  exact(l4 e).trans (K.g j h)⟩
noncomputable def pick(l:List (Nat×T))(ks:List Nat):List (Nat×T):=ks.filterMap λk=>(l.lookup k).map (k,·)
def Kn.pick(K:Kn r l)(ks:List Nat):Kn r (pick l ks):=⟨K.len,λj{w}h=>K.g j (by
 induction ks with
 |nil=>exact aN (show ae=ab w from h)
 |cons i ks ih=>
  unfold Z.pick at h ih
  rw[JW]at h
  cases e:l.lookup i with
  |none=>rw[e]at h;exact ih h
  |some u=>
   rw[e]at h
   replace h:apV j ((i,u)::ks.filterMap λk=>(l.lookup k).map (k,·))=ab w:=h
   rw[cE]at h
   by_cases q:j=i
   ·subst q;rw[aw]at h;exact e.trans h
   ·rw[beq_false_of_ne q]at h;exact ih h)⟩
def Two(a:T):Prop:=∃x y,a=.tup [x,y]/\eqT x y=ab true
structure dK(A:List T)(n:Nat):Prop where
 l:A.length<=n
 h:∀a∈A,Two a
def dK.add{m:Nat}(h:dK A n)(g:dK B m):dK (A++B) (n+m):=⟨by rw[bQ];exact eA h.l g.l,λa q=>(vk.mp q).elim (h.h a) (g.h a)⟩
def dK.one(h:eqT x y=ab true):dK [.tup [x,y]] 1:=⟨bj _,λa q=>b4.mp q▸⟨x,y,rfl,h⟩⟩
def dK.cons(h:eqT x y=ab true)(g:dK B n):dK (.tup [x,y]::B) (n+1):=⟨cX g.l,λa q=>(br.mp q).elim (λe=>e▸⟨x,y,rfl,h⟩) (g.h a)⟩
def lr(ha:ev F a r=ab x)(hb:ev F b r=ab y):ev F (.tup (.cons a (.cons b .nil))) r=ab (.tup [x,y]):=jd (aI ha (aI hb rfl)) (show 2<=lim by decide)
def xk(K:Kn r l)(h:l.lookup 16=ab (.lst A))(hA:dK A n)(hn:n<=60)(ha:ev F a r=ab x)(hb:ev F b r=ab y)(he:eqT x y=ab true):ex F (.app 16 (.tup (.cons a (.cons b .nil)))) r=ab (.next,put r 16 (.lst (A++[.tup [x,y]])))/\dK (A++[.tup [x,y]]) (n+1):=
 ⟨se (K.g 16 h) (lr ha hb) (aD (cX (aD hA.l hn)) (by decide)),hA.add (.one he)⟩
def asks{m:Nat}(K:Kn r l)(h:l.lookup 16=ab (.lst A))(hA:dK A n)(hn:n<=60)(hm:m<=60)(hB:dK B m)(he:ev F e r=ab (.tup B)):ex F (.ext 16 (.lst e)) r=ab (.next,put r 16 (.lst (A++B))):=
 ag0 (K.g 16 h) (lb he (aD hB.l (aD hm (by decide)))) (aD (eA (aD hA.l hn) (aD hB.l hm)) (by decide))
def eq_nil:eqT (.lst []) (.lst [])=ab true:=by kernel_rfl
def aiX(K:Kn r l)(h:l.lookup 16=ab (.lst A))(hA:dK A n):(ex F (gI 40) r).bind cw=ab (.bool true):=by
 refine lj (fK (o:=.eq) (v:=true) (x:=.lst ((A.filter λz=>false).map id)) (H6 (st:=λa=>(bH (putAll r [85,86]) a).getD r) (inj:=id) (K.g 16 h) (by rw[DJ];rfl) λa ha=>?_) (lb rfl (by decide)) ?_)
 ·obtain⟨x,y,e,he⟩:=hA.h a ha
  subst e
  have h1:get (put (put r 85 x) 86 y) 85=ab x:=(l4 (by decide)).trans (Io (by rw[K.len];decide))
  have h2:get (put (put r 85 x) 86 y) 86=ab y:=Io (by show _<((put r 85 x)).length;rw[(K.put (v:=x) (k:=85) (by decide)).len];decide)
  exact⟨rfl,.bool false,fK (o:=.ne) h1 h2 (af (·.map not) he),rfl,rfl,λq=>aj q bT⟩
 ·rw[show A.filter (λz=>false)=[]from List.filter_eq_nil_iff.mpr λz z=>bT]
  exact eq_nil
end
noncomputable def sD(c:Nat):List Nat:=((bf 8).filter λi=>!c.testBit i).map λi=>((bf i).filter λj=>c.testBit j).length
noncomputable def aiY(r:List Nat):List Nat:=(bf r.length).flatMap λa=>(bf (r.getD a 0)).map λk=>r.getD a 0 - k+((bf a).filter λb=>decide (k<r.getD b 0)).length
noncomputable def hk(c:Nat):List Nat:=aiY (sD c)
noncomputable def pe(f:Nat->Nat)(l:List Nat):List Nat:=(l.map λh=>bZ (f h) 32++[9]).flatten
noncomputable def aiZ(l:List Nat)(z:Nat):List Nat:=pe (λh=>h - 1) l++(bZ z 32++[120,32,9])
noncomputable def So(l:List Nat)(z:Nat):List Nat:=pe (λh=>h) l.reverse++(bZ z 32++[10,32,9])
noncomputable def w0:Ws:=⟨[],0,0,0⟩
noncomputable def cnt(c:Nat):List Nat:=(bF (So (hk c) 0) w0).c
noncomputable def gw(n:Nat):Nat:=n.rec 1 λk a=>a*(k+1)
noncomputable def p7(t:Nat)(p:Nat×Nat):Nat:=if p.2%t=0 then(p.2/t)^p.1 else 1
noncomputable def fZ(t:Nat)(l:List (Nat×Nat)):Nat:=l.foldl (λa p=>a*p7 t p) 1
noncomputable def gW(c:Nat):List (Nat×Nat):=(cnt c).zip (bf (cnt c).length)
noncomputable def Sp(c t:Nat):Bool:=(sx t c (wy c t).length==[(co c t,(sn c t*gw (wy c t).length).fdiv (fZ t (gW c)))])&&((sn c t*gw (wy c t).length).fmod (fZ t (gW c))==0&&(decide (1<=fZ t (gW c)/\fZ t (gW c)<2^30)&&((gW c).all (λp=>decide (p.1<=1000/\p.2<=1000/\p7 t p<2^20))&&(decide ((cnt c).length<=1000)&&(bf (wy c t).length).all λi=>Av (sx t c i)))))
noncomputable def Sq(c:Nat):List Bool:=tab 4 λt=>Sp c (t+1)
def wQ:p1 Sq gr 0:=by kernel_rfl
def oe1:p1 Sq gr 1:=by kernel_rfl
def ai1{c t:Nat}(hc:ba c=true)(ht:t<4):Sp c (t+1)=true:=b8 (kj wQ oe1 hc) t ht
noncomputable def r87(g:Nat->Option T):aE:=[g 0,g 1,g 2,g 3,g 4,g 5,g 6,g 7,g 8,g 9,g 10,g 11,g 12,g 13,g 14,g 15,g 16,g 17,g 18,g 19,g 20,g 21,g 22,g 23,g 24,g 25,g 26,g 27,g 28,g 29,g 30,g 31,g 32,g 33,g 34,g 35,g 36,g 37,g 38,g 39,g 40,g 41,g 42,g 43,g 44,g 45,g 46,g 47,g 48,g 49,g 50,g 51,g 52,g 53,g 54,g 55,g 56,g 57,g 58,g 59,g 60,g 61,g 62,g 63,g 64,g 65,g 66,g 67,g 68,g 69,g 70,g 71,g 72,g 73,g 74,g 75,g 76,g 77,g 78,g 79,g 80,g 81,g 82,g 83,g 84,g 85,g 86]
noncomputable def rz(l:List (Nat×T))(v:Nat->Option T):aE:=r87 λi=>(l.lookup i).elim (v i) ab
noncomputable def sE(s:S):S:=if h:s.ctorIdx=16 then S.seq.elim s h λa z=>a else s
noncomputable def eC(i:Nat)(r:aE):Option (Fl×aE):=ex (Fn aJ 60) (sE (gI i)) r
def ai3(n:Nat):∀r:aE,r.length=n->r=(bf n).map (get r):=by
 intro r h
 refine List.ext_getElem (by rw[bK,kr];exact h) λi h1 h2=>?_
 rw[List.getElem_map,T9]
 show _=r[i]?.getD ae
 rw[iq h1]
 rfl
def Kn.rz{r:aE}{l:List (Nat×T)}(K:Kn r l):r=rz l (get r):=by
 refine(ai3 87 r K.len).trans ((tm λi z=>?_).trans (show(bf 87).map (λi=>(l.lookup i).elim (get r i) ab)=_ from rfl))
 cases e:l.lookup i with
 |none=>rfl
 |some x=>exact K.g i e
def ai4{α:Type}{f g:Nat->Nat->α}(h:∀q,q<8->six (λc=>tab 4 (f c)) q=C2 (λc=>cx 4 (g c)) q){c z:Nat}(hc:ba c=true)(hz:z<4):f c z=g c z:=b8 (xf h hc) z hz
noncomputable def Sr(s:S):Ex:=if h:s.ctorIdx=8 then S.app.elim s h λz e=>(if g:e.ctorIdx=17 then E.tup.elim e g id else e)else .nil
noncomputable def sG(e:Ex):Ex:=if h:e.ctorIdx=16 then E.cons.elim e h λa z=>a else e
noncomputable def AB(e:Ex):Ex:=if h:e.ctorIdx=16 then E.cons.elim e h λz b=>b else e
noncomputable def AD(i:Nat):Ex:=sG (Sr (sE (gI i)))
noncomputable def u6(i:Nat):Ex:=sG (AB (Sr (sE (gI i))))
def go(i:Nat){r r':aE}{x:T}(h:eC i r=ab (.next,r'))(q:(ex (Fn aJ 60) (gI (i+1)) r').bind cw=ab x)(hi:∀r,ex (Fn aJ 60) (gI i) r=(eC i r).bind (mP (ex (Fn aJ 60) (gI (i+1))))):(ex (Fn aJ 60) (gI i) r).bind cw=ab x:=by
 rw[hi,h]
 exact q
def use{α:Type}{r:aE}{l:List (Nat×T)}{f g:aE->α}(K:Kn r l)(h:∀v,f (rz l v)=g (rz l v)):f r=g r:=((af f K.rz).trans (h _)).trans (af g K.rz.symm)
def Kn.one{r:aE}{l:List (Nat×T)}{k:Nat}{x:T}(K:Kn r l)(h:l.lookup k=ab x):Kn r [(k,x)]:=⟨K.len,λj{w}q=>K.g j (by
 rw[cE]at q
 cases e:j==k with
 |false=>rw[e]at q;exact aN q
 |true=>rw[e]at q;rw[ao e,h];exact q)⟩
noncomputable def Ip(v:Nat->Option T)(c:Nat):Option (Fl×aE):=eC 23 (rz [(13,tx c)] v)
noncomputable def Iq(v:Nat->Option T)(c:Nat):Option (Fl×aE):=ab (.next,put (put (rz [(13,tx c)] v) 38 (.lst (intsOf (sD c)))) 39 (.lst []))
noncomputable def p8(v:Nat->Option T)(c:Nat):Option (Fl×aE):=eC 24 (rz [(38,.lst (intsOf (sD c)))] v)
noncomputable def p9(v:Nat->Option T)(c:Nat):Option (Fl×aE):=ab (.next,put (rz [(38,.lst (intsOf (sD c)))] v) 40 (.lst (intsOf (hk c))))
section
variable{v:Nat->Option T}
def rw0:p1 (Ip v) (Iq v) 0:=by kernel_rfl
def rw1:p1 (Ip v) (Iq v) 1:=by kernel_rfl
def hk0:q1 (p8 v) (p9 v) 0:=by kernel_rfl
def AE:q1 (p8 v) (p9 v) 1:=by kernel_rfl
def tS:q1 (p8 v) (p9 v) 2:=by kernel_rfl
def AF:q1 (p8 v) (p9 v) 3:=by kernel_rfl
def hk4:q1 (p8 v) (p9 v) 4:=by kernel_rfl
def hk5:q1 (p8 v) (p9 v) 5:=by kernel_rfl
def hk6:q1 (p8 v) (p9 v) 6:=by kernel_rfl
def hk7:q1 (p8 v) (p9 v) 7:=by kernel_rfl
def ajc{c:Nat}(hc:ba c=true)(v:Nat->Option T):Ip v c=Iq v c:=kj rw0 rw1 hc
def ajd{c:Nat}(hc:ba c=true)(v:Nat->Option T):p8 v c=p9 v c:=xf (xe hk0 AE tS AF hk4 hk5 hk6 hk7) hc
end
noncomputable def wo(l:List Nat):T:=cV ⟨l.toArray⟩ (bF l w0)
noncomputable def d7(c z:Nat):List Nat:=aiZ (hk c) z
noncomputable def bt(c z:Nat):List Nat:=So (hk c) z
noncomputable def Ss(c z:Nat):List Nat:=(bt c z).take (bF (bt c z) w0).n
noncomputable def jM(c z:Nat):List Nat:=Ss c z++[32]
noncomputable def sH(c z:Nat):List Nat:=(Ss c z).reverse
noncomputable def arr(l:List Nat):T:=.str ⟨l.toArray⟩
noncomputable def jn(k:Nat)(e s:Ex):Ex:=.sm .join (.lit (.str (bP ""))) (.cons (.comp k (.bin .add (.bin .mul (.lit (.str (bP " "))) e) (.lit (.str (bP "\t")))) s (.lit (.bool true))) .nil)
noncomputable def jE:Ex:=jn 74 (.bin .sub (.var 74) (.lit (.int 1))) (.var 40)
noncomputable def jF:Ex:=jn 75 (.var 75) (.cY true (.var 40) .absent .absent)
noncomputable def lead(k:Nat)(e:Ex)(s:String):S:=.asg k (.call 15 (.cons (.bin .add (.bin .add e (.bin .mul (.lit (.str (bP " "))) (.var 5))) (.lit (.str (bP s)))) .nil))
def Su{F:Nat->List T->Option T}{r:aE}{k:Nat}{a b:Ex}{s:String}(h:ev F a r=ev F b r):ex F (lead k a s) r=ex F (lead k b s) r:=af (λo:Option T=>((((o.bind λx=>(ev F (.bin .mul (.lit (.str (bP " "))) (.var 5)) r).bind λy=>a8 .add x y).bind λx=>(ab (T.str (bP s))).bind λy=>a8 .add x y).bind λx=>(ev F .nil r).bind (bH λl=>ab (T.tup (x::l)))).bind (bH (F 15))).bind λt=>cb (put r k t)) h
noncomputable def qb(v:Nat->Option T)(c:Nat):Option T:=ev (Fn aJ 60) jE (rz [(40,.lst (intsOf (hk c)))] v)
noncomputable def qc(c:Nat):Option T:=ab (arr (pe (λh=>h - 1) (hk c)))
noncomputable def qd(v:Nat->Option T)(c:Nat):Option T:=ev (Fn aJ 60) jF (rz [(40,.lst (intsOf (hk c)))] v)
noncomputable def qe(c:Nat):Option T:=ab (arr (pe (λh=>h) (hk c).reverse))
noncomputable def Ir(v:Nat->Option T)(c z:Nat):Option (Fl×aE):=ex (Fn aJ 60) (lead 41 (.lit (arr (pe (λh=>h - 1) (hk c)))) "x \t") (rz [(5,iT z)] v)
noncomputable def Iu(v:Nat->Option T)(c z:Nat):Option (Fl×aE):=ab (.next,put (rz [(5,iT z)] v) 41 (wo (d7 c z)))
noncomputable def Iv(v:Nat->Option T)(c z:Nat):Option (Fl×aE):=ex (Fn aJ 60) (lead 42 (.lit (arr (pe (λh=>h) (hk c).reverse))) "\n \t") (rz [(5,iT z)] v)
noncomputable def Iw(v:Nat->Option T)(c z:Nat):Option (Fl×aE):=ab (.next,put (rz [(5,iT z)] v) 42 (wo (bt c z)))
noncomputable def Iy(v:Nat->Option T)(c z:Nat):Option (Fl×aE):=eC 27 (rz [(42,wo (bt c z))] v)
noncomputable def Iz(v:Nat->Option T)(c z:Nat):Option (Fl×aE):=ab (.next,put (put (rz [(42,wo (bt c z))] v) 43 (wo (jM c z))) 44 (wo (sH c z)))
section
variable{v:Nat->Option T}
def je0:q1 (qb v) (qc) 0:=by kernel_rfl
def je1:q1 (qb v) (qc) 1:=by kernel_rfl
def je2:q1 (qb v) (qc) 2:=by kernel_rfl
def je3:q1 (qb v) (qc) 3:=by kernel_rfl
def je4:q1 (qb v) (qc) 4:=by kernel_rfl
def je5:q1 (qb v) (qc) 5:=by kernel_rfl
def je6:q1 (qb v) (qc) 6:=by kernel_rfl
def je7:q1 (qb v) (qc) 7:=by kernel_rfl
def jf0:q1 (qd v) (qe) 0:=by kernel_rfl
def jf1:q1 (qd v) (qe) 1:=by kernel_rfl
def jf2:q1 (qd v) (qe) 2:=by kernel_rfl
def jf3:q1 (qd v) (qe) 3:=by kernel_rfl
def jf4:q1 (qd v) (qe) 4:=by kernel_rfl
def jf5:q1 (qd v) (qe) 5:=by kernel_rfl
def jf6:q1 (qd v) (qe) 6:=by kernel_rfl
def jf7:q1 (qd v) (qe) 7:=by kernel_rfl
def nr0:p4 (Ir v) (Iu v) 0:=by kernel_rfl
def nr1:p4 (Ir v) (Iu v) 1:=by kernel_rfl
def fr0:p4 (Iv v) (Iw v) 0:=by kernel_rfl
def fr1:p4 (Iv v) (Iw v) 1:=by kernel_rfl
def wd0:p4 (Iy v) (Iz v) 0:=by kernel_rfl
def Cf:p4 (Iy v) (Iz v) 1:=by kernel_rfl
end
section
variable{c z:Nat}(hc:ba c=true)
include hc
theorem ajz(v:Nat->Option T):qb v c=qc c:=xf (xe je0 je1 je2 je3 je4 je5 je6 je7) hc
theorem ajA(v:Nat->Option T):qd v c=qe c:=xf (xe jf0 jf1 jf2 jf3 jf4 jf5 jf6 jf7) hc
theorem ajB(hz:z<4)(v:Nat->Option T):Ir v c z=Iu v c z:=oA nr0 nr1 hc hz
theorem ajC(hz:z<4)(v:Nat->Option T):Iv v c z=Iw v c z:=oA fr0 fr1 hc hz
theorem ajD(hz:z<4)(v:Nat->Option T):Iy v c z=Iz v c z:=oA wd0 Cf hc hz
variable{r:aE}{l:List (Nat×T)}
theorem s23(K:Kn r l)(h13:l.lookup 13=ab (tx c)):eC 23 r=ab (.next,put (put r 38 (.lst (intsOf (sD c)))) 39 (.lst [])):=use (f:=λr=>eC 23 r) (g:=λr=>ab (Fl.next,put (put r 38 (.lst (intsOf (sD c)))) 39 (.lst []))) (K.one h13) (ajc hc)
theorem s24(K:Kn r l)(h38:l.lookup 38=ab (.lst (intsOf (sD c)))):eC 24 r=ab (.next,put r 40 (.lst (intsOf (hk c)))):=use (f:=λr=>eC 24 r) (g:=λr=>ab (Fl.next,put r 40 (.lst (intsOf (hk c))))) (K.one h38) (ajd hc)
theorem s25(hz:z<4)(K:Kn r l)(IA:l.lookup 40=ab (.lst (intsOf (hk c))))(h5:l.lookup 5=ab (iT z)):eC 25 r=ab (.next,put r 41 (wo (d7 c z))):=(Su (use (f:=λr=>ev (Fn aJ 60) jE r) (g:=λy=>ab (arr (pe (λh=>h - 1) (hk c)))) (K.one IA) (ajz hc))).trans (use (f:=λr=>ex (Fn aJ 60) (lead 41 (.lit (arr (pe (λh=>h - 1) (hk c)))) "x \t") r) (g:=λr=>ab (Fl.next,put r 41 (wo (d7 c z)))) (K.one h5) (ajB hc hz))
theorem s26(hz:z<4)(K:Kn r l)(IA:l.lookup 40=ab (.lst (intsOf (hk c))))(h5:l.lookup 5=ab (iT z)):eC 26 r=ab (.next,put r 42 (wo (bt c z))):=(Su (use (f:=λr=>ev (Fn aJ 60) jF r) (g:=λy=>ab (arr (pe (λh=>h) (hk c).reverse))) (K.one IA) (ajA hc))).trans (use (f:=λr=>ex (Fn aJ 60) (lead 42 (.lit (arr (pe (λh=>h) (hk c).reverse))) "\n \t") r) (g:=λr=>ab (Fl.next,put r 42 (wo (bt c z)))) (K.one h5) (ajC hc hz))
theorem s27(hz:z<4)(K:Kn r l)(h42:l.lookup 42=ab (wo (bt c z))):eC 27 r=ab (.next,put (put r 43 (wo (jM c z))) 44 (wo (sH c z))):=use (f:=λr=>eC 27 r) (g:=λr=>ab (Fl.next,put (put r 43 (wo (jM c z))) 44 (wo (sH c z)))) (K.one h42) (ajD hc hz)
end
noncomputable def u7(c z:Nat):List (Nat×T):=[(40,.lst (intsOf (hk c))),(5,iT z)]
noncomputable def col(s:Nat)(l:List Nat):Nat:=l.foldl (λa h=>(a+(h - 1))+(s - (a+(h - 1))%s)) 0
noncomputable def qf(l:List Nat):Nat:=l.foldl max 0
noncomputable def u9(c z:Nat):Nat:=max (qf (hk c)) (z+1)+1
noncomputable def row(c z i:Nat):Nat×Nat×Nat:=(1+i,col (1+i) (hk c)+z,col (1+i) (hk c)+z+(1+i)*(zs (wy c (1+i))).length)
noncomputable def tb(c z:Nat):List (Nat×Nat×Nat):=(bf (u9 c z)).map (row c z)
noncomputable def nm(c z:Nat):List (Nat×Nat×Nat):=(tb c z).filter λx=>!(x.2.1==x.2.2)
noncomputable def C9(l:List Nat):Bool:=decide ((bF l w0).c.length<=1000/\(bF l w0).b<=1000/\(bF l w0).nt<=1000)&&(bF l w0).c.all λx=>decide (x<=1000)
noncomputable def ne'(a b:Nat):Bool:=!(a==b)
noncomputable def Dc(a b:Nat):Bool:=decide (b<=a)
noncomputable def okN(c z:Nat):Bool:=
 (C9 (d7 c z)&&(C9 (bt c z)&&C9 (jM c z)))&&((decide (u9 c z<=7)&&((hk c).all (λh=>decide (1<=h))&&(bf 7).all λi=>decide ((zs (wy c (1+i))).length<=99)))&&
 ((wit ne' (bF (d7 c z) w0) (bF (bt c z) w0)==nm c z&&wit Dc (bF (d7 c z) w0) (bF (bt c z) w0)==(tb c z).filter λx=>x.2.1==x.2.2&&decide (x.1<max (qf (hk c)) z+2))&&
 ((wit ne' (bF (d7 c z) w0) (bF (jM c z) w0)==(tb c z).map (λx=>(x.1,x.2.1,x.2.2+1))&&(wit ne' (bF (jM c z) w0) (bF (d7 c z) w0)==(tb c z).map (λx=>(x.1,x.2.2+1,x.2.1))&&wit Dc (bF (jM c z) w0) (bF (d7 c z) w0)==(tb c z).map λx=>(x.1,x.2.2+1,x.2.1)))&&
 (!sC (bF (d7 c z) w0) (bF (bt c z) w0)&&(!sC (bF (bt c z) w0) (bF (d7 c z) w0)&&sC (bF (d7 c z) w0) (bF (jM c z) w0))))))
noncomputable def qg(c:Nat):List Bool:=tab 4 (okN c)
noncomputable def Sv(s:S):Ex:=if h:s.ctorIdx=18 then S.eV.elim s h λz e z=>e else .nil
noncomputable def IB(v:Nat->Option T)(c z:Nat):Option T:=ev (Fn aJ 60) (Sv (sE (gI 28))) (rz (u7 c z) v)
noncomputable def ID(c z:Nat):Option T:=ab (.lst ((bf (u9 c z)).map λj=>iT (1+j)))
noncomputable def IE:S:=.seq (.aug 46 .add (.bin .sub (.var 47) (.lit (.int 1)))) (.seq (.aug 46 .add (.bin .sub (.var 45) (.bin .mod (.var 46) (.var 45)))) .skip)
noncomputable def ajM:Ex:=.tup (.cons (.var 45) (.cons (.bin .add (.var 46) (.var 5)) (.cons (.bin .add (.bin .add (.var 46) (.var 5)) (.bin .mul (.var 45) (.prim .len (.cons (.idx (.call 11 (.cons (.var 13) (.cons (.var 45) (.cons (.lit (.int 0)) .nil)))) (.lit (.int 2))) .nil)))) .nil)))
noncomputable def Sw:S:=.seq (.asg 46 (.lit (.int 0))) (.seq (.eV 47 (.var 40) IE) (.seq (.app 39 ajM) .skip))
section
variable{v:Nat->Option T}
def on0:q1 (qg) (gr) 0:=by kernel_rfl
def oS:q1 (qg) (gr) 1:=by kernel_rfl
def BA:q1 (qg) (gr) 2:=by kernel_rfl
def on3:q1 (qg) (gr) 3:=by kernel_rfl
def on4:q1 (qg) (gr) 4:=by kernel_rfl
def on5:q1 (qg) (gr) 5:=by kernel_rfl
def on6:q1 (qg) (gr) 6:=by kernel_rfl
def on7:q1 (qg) (gr) 7:=by kernel_rfl
def sr0:p4 (IB v) ID 0:=by kernel_rfl
def sr1:p4 (IB v) ID 1:=by kernel_rfl
end
abbrev jN(c z:Nat):Prop:=u9 c z<=7/\(∀h∈hk c,1<=h)/\(∀i,i<7->(zs (wy c (1+i))).length<=99)/\Wk (bF (d7 c z) w0)/\Wk (bF (bt c z) w0)/\Wk (bF (jM c z) w0)/\wit ne' (bF (d7 c z) w0) (bF (bt c z) w0)=nm c z/\(wit Dc (bF (d7 c z) w0) (bF (bt c z) w0)=(tb c z).filter λx=>x.2.1==x.2.2&&decide (x.1<max (qf (hk c)) z+2))/\(wit ne' (bF (d7 c z) w0) (bF (jM c z) w0)=(tb c z).map λx=>(x.1,x.2.1,x.2.2+1))/\(wit ne' (bF (jM c z) w0) (bF (d7 c z) w0)=(tb c z).map λx=>(x.1,x.2.2+1,x.2.1))/\(wit Dc (bF (jM c z) w0) (bF (d7 c z) w0)=(tb c z).map λx=>(x.1,x.2.2+1,x.2.1))/\sC (bF (d7 c z) w0) (bF (bt c z) w0)=false/\sC (bF (bt c z) w0) (bF (d7 c z) w0)=false/\sC (bF (d7 c z) w0) (bF (jM c z) w0)=true
section
variable(h:jN c z)
def jN.m:=h.1
def jN.hh:=h.2.1
def jN.w:=h.2.2.1
def jN.nr:=h.2.2.2.1
def jN.fr:=h.2.2.2.2.1
def jN.wd:=h.2.2.2.2.2.1
def jN.w1:=h.2.2.2.2.2.2.1
def jN.w2:=h.2.2.2.2.2.2.2.1
def jN.w3:=h.2.2.2.2.2.2.2.2.1
def jN.w4:=h.2.2.2.2.2.2.2.2.2.1
def jN.w5:=h.2.2.2.2.2.2.2.2.2.2.1
def jN.l1:=h.2.2.2.2.2.2.2.2.2.2.2.1
def jN.l2:=h.2.2.2.2.2.2.2.2.2.2.2.2.1
def jN.l3:=h.2.2.2.2.2.2.2.2.2.2.2.2.2
end
def IF{l:List Nat}(h:C9 l=true):Wk (bF l w0):=by
 obtain⟨h1,h2⟩:=an h
 have h1:=aq h1
 exact⟨h1.1,h1.2.1,h1.2.2,λx hx=>aq (bA.mp h2 x hx)⟩
def Sx{b:Bool}(h:(!b)=true):b=false:=(DN b).mp h
section
variable{c z:Nat}(hc:ba c=true)(hz:z<4)
include hc hz
theorem Dd:jN c z:=by
 obtain⟨h1,h⟩:=an (show okN c z=true from b8 (xf (f:=qg) (g:=gr) (xe on0 oS BA on3 on4 on5 on6 on7) hc) z hz)
 obtain⟨h1,h2⟩:=an h1
 obtain⟨h2,h3⟩:=an h2
 obtain⟨g,h⟩:=an h
 obtain⟨g1,g⟩:=an g
 obtain⟨g2,g3⟩:=an g
 obtain⟨a,h⟩:=an h
 obtain⟨a1,a2⟩:=an a
 obtain⟨b,h⟩:=an h
 obtain⟨b1,b⟩:=an b
 obtain⟨b2,b3⟩:=an b
 obtain⟨d1,h⟩:=an h
 obtain⟨d2,d3⟩:=an h
 exact⟨aq g1,λx hx=>aq (bA.mp g2 x hx),λi hi=>aq (bA.mp g3 i (iu.mpr hi)),IF h1,IF h2,IF h3,ao a1,ao a2,ao b1,ao b2,ao b3,Sx d1,Sx d2,d3⟩
theorem ajV(v:Nat->Option T):IB v c z=ID c z:=oA sr0 sr1 hc hz
end
noncomputable def lC(c z t:Nat)(A:List T):List (Nat×T):=[(16,.lst A),(5,iT z),(9,iT (t+1)),(13,tx c),(14,.str (lq c)),(22,tx (co c (t+1))),(23,.int (sn c (t+1))),(24,.lst (intsOf (wy c (t+1))))]
noncomputable def lD(c z t:Nat)(A:List T):List (Nat×T):=(41,wo (d7 c z))::(42,wo (bt c z))::(43,wo (jM c z))::(44,wo (sH c z))::(40,.lst (intsOf (hk c)))::lC c z t A
noncomputable def kD:List Nat:=[41,42,43,44,40,16,5,9,13,14,22,23,24]
section
variable{c z t:Nat}{A:List T}{r:aE}{X:T}{x46:Nat}
def inner{s:Nat}(hs:1<=s)(h:∀h∈hk c,1<=h)(K:Kn r ((46,iT 0)::(45,iT s)::(39,X)::lD c z t A)):∃r',ex (Fn aJ 60) (.eV 47 (.var 40) IE) r=ab (.next,r')/\Kn r' ((46,iT (col s (hk c)))::(45,iT s)::(39,X)::lD c z t A):=by
 obtain⟨r',q,K'⟩:=nk (body:=λy r'=>(ab (put r' 47 y)).bind (ex (Fn aJ 60) IE)) (inj:=λh:Nat=>iT h) (P:=λp r=>Kn r ((46,iT (col s p))::(45,iT s)::(39,X)::lD c z t A)) (l:=hk c) (λp x q hp r K=>by
  have hx:=h x (hp▸mF _ bk)
  have K1:=K.put (k:=47) (v:=iT x) (by decide)
  have K2:=K1.put (k:=46) (v:=iT (col s p+(x - 1))) (by decide)
  have K3:=K2.put (k:=46) (v:=iT (col s p+(x - 1)+(s - (col s p+(x - 1))%s))) (by decide)
  refine⟨_,sq (o8 (K1.g 46 rfl) (aR (K1.g 47 rfl) rfl (si hx)) rfl) (sq (o8 (K2.g 46 rfl) (aR (K2.g 45 rfl) (aR (K2.g 46 rfl) (K2.g 45 rfl) (sA hs)) (si (cT (iw _ hs)))) rfl) rfl),?_⟩
  rw[show col s (p++[x])=col s p+(x - 1)+(s - (col s p+(x - 1))%s)from tL ..]
  exact K3.pick (46::45::39::kD)) K
 exact⟨r',xg (K.g 40 rfl) rfl q,K'⟩
def s28(hc:ba c=true)(hz:z<4)(K:Kn r ((39,.lst [])::lD c z t A)):∃r',eC 28 r=ab (.next,r')/\Kn r' ((39,.lst ((tb c z).map dX))::lD c z t A):=by
 have O:=Dd hc hz
 obtain⟨r',q,K'⟩:=nk (body:=λy r'=>(ab (put r' 45 y)).bind (ex (Fn aJ 60) Sw)) (inj:=λj=>iT (1+j)) (P:=λp r=>Kn r ((39,.lst ((p.map (row c z)).map dX))::lD c z t A)) (l:=bf (u9 c z)) (λp j q hp r K=>by
  have hj:j<u9 c z:=iu.mp (hp▸mF _ bk)
  have hl:p.length<=7:=aD (by have q:=af Bk hp;rw[bQ,kr]at q;exact q▸bX _ _) O.m
  have h7:=bG hj O.m
  have h8:1+j<=7:=by rw[eK];exact h7
  have h1:1<=1+j:=bX 1 j
  have K1:=K.put (k:=45) (v:=iT (1+j)) (by decide)
  have K2:=K1.put (k:=46) (v:=iT 0) (by decide)
  obtain⟨r3,e3,K3⟩:=inner (c:=c) (z:=z) (t:=t) (A:=A) (s:=1+j) h1 O.hh (K2.pick (46::45::39::kD))
  have K4:=K3.put (k:=39) (v:=.lst (((p.map (row c z)).map dX)++[dX (row c z j)])) (by decide)
  have hw:=O.w j h7
  have hp:=picked (L:=48) (c:=c) (t:=1+j) (o:=0) hc ⟨h1,aD h8 (by decide)⟩ (by decide)
  have Sy:ev (Fn aJ 60) (.bin .add (.var 46) (.var 5)) r3=ab (iT (col (1+j) (hk c)+z)):=aR (K3.g 46 rfl) (K3.g 5 rfl) rfl
  refine⟨_,show ex (Fn aJ 60) Sw (put r 45 (iT (1+j)))=ab (.next,put r3 39 (.lst (((p.map (row c z)).map dX)++[dX (row c z j)])))from sq (dH rfl) (sq e3 (sq (se (K3.g 39 rfl) (jd (aI (K3.g 45 rfl) (aI Sy (aI (aR Sy (aR (K3.g 45 rfl) (iO (aI (gp (c5 (aI (K3.g 13 rfl) (aI (K3.g 45 rfl) (aI rfl rfl))) hp) rfl rfl) rfl) ?_) (AA (n:=(zs (wy c (1+j))).length) (bI h8 (by decide)) (bI hw (by decide)))) rfl) rfl))) (show 3<=lim by decide)) ?_) rfl)),?_⟩
  ·exact af (λn:Nat=>ab (iT n)) (bK _)
  ·rw[bK,bK]
   exact aD (cX hl) (by decide)
  ·rw[mE,mE]
   exact K4.pick (39::kD)) K
 exact⟨r',xg (use (f:=λr=>ev (Fn aJ 60) (Sv (sE (gI 28))) r) (g:=λx=>ab (.lst ((bf (u9 c z)).map λj=>iT (1+j)))) (K.pick [40,5]) (ajV hc hz)) rfl q,K'⟩
end
def Sz{p s:List Nat}{a n:Nat}(h:p++a::s=bf n):a=p.length/\a<n:=by
 have h1:a<n:=iu.mp (h▸mF _ bk)
 have h2:p.length<n:=by
  have q:=af Bk h
  rw[bQ,kr]at q
  exact q▸vx (eP _)
 have q:=af (·[p.length]?) h
 replace q:(p++a::s)[p.length]?=(bf n)[p.length]?:=q
 rw[DT (bj _),D6,DU h2]at q
 exact⟨Option.some.inj q,h1⟩
noncomputable def IG(s:Int)(j:Nat):Option T:=oR .mul (.int (s*gw j)) (iT (j+1))
noncomputable def IH(s:Int)(j:Nat):Option T:=ab (.int (s*gw (j+1)))
def ajX:tab 12 (IG 1)=cx 12 (IH 1):=by kernel_rfl
def ajY:tab 12 (IG (-1))=cx 12 (IH (-1)):=by kernel_rfl
def ajZ:(tab 13 λj=>decide ((1*(gw j:Int)).natAbs<2^29/\(-1*(gw j:Int)).natAbs<2^29))=cx 13 λz=>true:=by kernel_rfl
def mu{s:Int}{j:Nat}(hs:un s=true)(hj:j<12):IG s j=IH s j:=by
 rcases As hs with e|e<;>subst e
 ·exact b8 ajX j hj
 ·exact b8 ajY j hj
def aj0{s:Int}{j:Nat}(hs:un s=true)(hj:j<13):(s*(gw j:Int)).natAbs<2^29:=by
 have q:(1*(gw j:Int)).natAbs<2^29/\(-1*(gw j:Int)).natAbs<2^29:=aq (b8 ajZ j hj)
 rcases As hs with e|e<;>subst e
 ·exact q.1
 ·exact q.2
def II{a n:Nat}(h:bc (a:Int)*n<=1000000):a8 .pow (iT a) (iT n)=ab (iT (a^n)):=(ah ⟨cy _,dh.mpr h⟩).trans (af (λi=>ab (T.int i)) (UU a n).symm)
def SA{F:Nat->List T->Option T}{r:aE}{src:Ex}{body:S}{x:T}{l:List T}{p:Option (Fl×aE)}{ks:List Nat}(hs:ev F src r=ab x)(hi:qU x=ab l)(h:b6 (λy r'=>(bH (putAll r' ks) y).bind (ex F body)) (lX l) r=p):ex F (.lU ks src body) r=p:=((af (·.bind λx=>(qU x).bind λl=>b6 (λy r'=>(bH (putAll r' ks) y).bind (ex F body)) (lX l) r) hs).trans (af (·.bind λl=>b6 (λy r'=>(bH (putAll r' ks) y).bind (ex F body)) (lX l) r) hi)).trans h
def AG{F:Nat->List T->Option T}{r:aE}{a:Ex}{n:Nat}(ha:ev F a r=ab (iT n))(hn:n<=60000):ev F (.hU a) r=ab (.lst ((bf n).map λj=>iT j)):=by
 refine(af (·.bind (bp λn=>if -1000000<=n/\n<=lim then ab (T.lst (pD 0 n))else ae)) ha).trans ((ah ⟨dn (by decide) (cy n),dh.mpr (aD hn (by decide))⟩).trans (af (λl=>ab (T.lst l)) ?_))
 show(bf ((n:Int) - 0).toNat).map (λi=>T.int (0+(i:Nat)))=_
 rw[JT]
 exact tm λi z=>af T.int (Vy _)
noncomputable def SE(p:Nat×Nat):T:=.tup [iT p.2,iT p.1]
def aj1(l:List Nat):lX (intsOf l)=(l.zip (bf l.length)).map SE:=by
 unfold lX
 rw[ke,show intsOf l=l.map λi=>iT i from rfl,List.zip_map_left,fO]
 rfl
abbrev qh(c t:Nat):Prop:=sx t c (wy c t).length=[(co c t,(sn c t*gw (wy c t).length).fdiv (fZ t (gW c)))]/\(sn c t*gw (wy c t).length).fmod (fZ t (gW c))=0/\1<=fZ t (gW c)/\fZ t (gW c)<2^30/\(∀p∈gW c,p.1<=1000/\p.2<=1000/\p7 t p<2^20)/\(cnt c).length<=1000/\(∀i,i<(wy c t).length->Av (sx t c i)=true)
section
variable(h:qh c t)
def qh.w:=h.1
def qh.m:=h.2.1
def qh.u1:=h.2.2.1
def qh.u2:=h.2.2.2.1
def qh.x:=h.2.2.2.2.1
def qh.l:=h.2.2.2.2.2.1
def qh.o:=h.2.2.2.2.2.2
end
def SG{c t:Nat}(hc:ba c=true)(ht:t<4):qh c (t+1):=by
 obtain⟨h1,h⟩:=an (ai1 hc ht)
 obtain⟨h2,h⟩:=an h
 obtain⟨h3,h⟩:=an h
 obtain⟨h4,h⟩:=an h
 obtain⟨h5,h6⟩:=an h
 have h3:=aq h3
 exact⟨ao h1,ao h2,h3.1,h3.2,λp hp=>aq (bA.mp h4 p hp),aq h5,λi hi=>bA.mp h6 i (iu.mpr hi)⟩
noncomputable def SH(c z:Nat):Bool:=(bF (bt c z) w0).c==cnt c
noncomputable def yes(c z:Nat):Bool:=true
noncomputable def aj2(s:S):Ex:=if h:s.ctorIdx=9 then S.ext.elim s h λz e=>(if g:e.ctorIdx=18 then E.lst.elim e g id else e)else .nil
noncomputable def De:Ex:=(λe:Ex=>if g:e.ctorIdx=17 then E.tup.elim e g id else e) (sG (AB (AB (aj2 (sE (gI 39))))))
noncomputable def l3(c z:Nat):List (Nat×T):=[(14,.str (lq c)),(42,wo (bt c z))]
noncomputable def IJ(v:Nat->Option T)(c z:Nat):Option Bool:=(ev (Fn aJ 60) (sG De) (rz (l3 c z) v)).bind λx=>(ev (Fn aJ 60) (sG (AB De)) (rz (l3 c z) v)).bind λy=>eqT x y
noncomputable def IK(c z:Nat):Option Bool:=ab true
section
variable{v:Nat->Option T}
def cw0:p4 SH yes 0:=by kernel_rfl
def cw1:p4 SH yes 1:=by kernel_rfl
def th0:p4 (IJ v) IK 0:=by kernel_rfl
def th1:p4 (IJ v) IK 1:=by kernel_rfl
end
section
variable{c z:Nat}(hc:ba c=true)(hz:z<4)
include hc hz
theorem aj7:(bF (bt c z) w0).c=cnt c:=ao (oA cw0 cw1 hc hz)
theorem aj8(v:Nat->Option T):IJ v c z=IK c z:=oA th0 th1 hc hz
end
noncomputable def lE(c z t:Nat)(A:List T)(a b:T):List (Nat×T):=(50,a)::(51,b)::(42,wo (bt c z))::lC c z t A
noncomputable def kE:List Nat:=[42,16,5,9,13,14,22,23,24]
noncomputable def SI:S:=.seq (.aug 51 .mul (.ite (.cmp .eq (.bin .mod (.var 47) (.var 9)) (.lit (.int 0))) (.bin .pow (.bin .fdiv (.var 47) (.var 9)) (.var 52)) (.lit (.int 1)))) .skip
section
variable{c z t n:Nat}{A:List T}{r:aE}{x y:T}
def s36(hc:ba c=true)(ht:t<4)(K:Kn r (lE c z t A (.int (sn c (t+1))) (.int 1))):∃r',eC 36 r=ab (.next,r')/\Kn r' (lE c z t A (.int (sn c (t+1)*gw (wy c (t+1)).length)) (.int 1)):=by
 have P:=place hc (t:=t+1) ⟨eP t,aD ht (by decide)⟩
 obtain⟨r',q,K'⟩:=nk (body:=λy r'=>(ab (put r' 2 y)).bind (ex (Fn aJ 60) (.seq (.aug 50 .mul (.bin .add (.var 2) (.lit (.int 1)))) .skip))) (inj:=λj=>iT j) (P:=λp r=>Kn r (lE c z t A (.int (sn c (t+1)*gw p.length)) (.int 1))) (l:=bf (wy c (t+1)).length) (λp j q hp r K=>by
  obtain⟨e,hj⟩:=Sz hp
  have K1:=K.put (k:=2) (v:=iT j) (by decide)
  have K2:=K1.put (k:=50) (v:=.int (sn c (t+1)*gw (j+1))) (by decide)
  refine⟨_,show ex (Fn aJ 60) (.seq (.aug 50 .mul (.bin .add (.var 2) (.lit (.int 1)))) .skip) (put r 2 (iT j))=ab (.next,put (put r 2 (iT j)) 50 (.int (sn c (t+1)*gw (j+1))))from je.trans (o8 (K1.g 50 rfl) (aR (K1.g 2 rfl) rfl rfl) ?_),?_⟩
  ·exact e▸mu P.hu (bG hj P.hl)
  ·rw[bQ,<-e]
   exact K2.pick (50::51::kE)) (r:=r) (by rw[show(sn c (t+1)*(gw [].length:Nat):Int)=sn c (t+1)from JS _];exact K)
 rw[kr]at K'
 exact⟨r',xg (AG (Au (K.g 24 rfl)) (aD P.hl (by decide))) rfl q,K'⟩
def s37(hc:ba c=true)(hz:z<4)(ht:t<4)(K:Kn r (lE c z t A x (.int 1))):∃r',eC 37 r=ab (.next,r')/\Kn r' (lE c z t A x (iT (fZ (t+1) (gW c)))):=by
 have O:=SG hc ht
 obtain⟨r',q,K',_⟩:=nk (body:=λy r'=>(bH (putAll r' [47,52]) y).bind (ex (Fn aJ 60) SI)) (inj:=SE) (P:=λp r=>Kn r (lE c z t A x (iT (fZ (t+1) p)))/\fZ (t+1) p<2^(20*p.length+1)) (l:=gW c) (λp a q hp r K=>by
  obtain⟨K,hu⟩:=K
  have hx:=O.x a (hp▸mF _ bk)
  have hl:p.length<=1000:=by
   have q:=af Bk hp
   rw[bQ]at q
   have g:(gW c).length<=(cnt c).length:=by unfold gW;rw[aoe];exact anG _ _
   exact aD (q▸bX _ _) (aD g O.l)
  have K1:=(K.put (k:=47) (v:=iT a.2) (by decide)).put (k:=52) (v:=iT a.1) (by decide)
  have K2:=K1.put (k:=51) (v:=iT (fZ (t+1) p*p7 (t+1) a)) (by decide)
  have hf:ev (Fn aJ 60) (.ite (.cmp .eq (.bin .mod (.var 47) (.var 9)) (.lit (.int 0))) (.bin .pow (.bin .fdiv (.var 47) (.var 9)) (.var 52)) (.lit (.int 1))) (put (put r 47 (iT a.2)) 52 (iT a.1))=ab (iT (p7 (t+1) a)):=by
   refine xa (u:=.bool (a.2%(t+1)==0)) (w:=a.2%(t+1)==0) (fK (aR (K1.g 47 rfl) (K1.g 9 rfl) (sA (eP t))) rfl (af ab (uZ (a.2%(t+1)) 0))) rfl rfl ?_
   unfold p7
   by_cases h:a.2%(t+1)=0
   ·rw[ah (ax.mpr h),ah h]
    refine aR (aR (K1.g 47 rfl) (K1.g 9 rfl) (Az (eP t) (aD ht (by decide)))) (K1.g 52 rfl) (II (aD (yl (bits_le (k:=10) (bI (yc _ _) (bI hx.2.1 (by decide)))) hx.1) (by decide)))
   ·rw[ai λq=>h (ax.mp q),ai h]
    rfl
  have b1:=bits_le hu
  have b2:=bits_le hx.2.2
  refine⟨_,show ex (Fn aJ 60) SI (put (put r 47 (iT a.2)) 52 (iT a.1))=ab (.next,put (put (put r 47 (iT a.2)) 52 (iT a.1)) 51 (iT (fZ (t+1) p*p7 (t+1) a)))from je.trans (o8 (K1.g 51 rfl) hf ((ah rfl).trans (HF (aD (eA b1 b2) (aD (cR (cR (ko 20 hl) 1) 20) (by decide)))))),?_,?_⟩
  ·rw[show fZ (t+1) (p++[a])=fZ (t+1) p*p7 (t+1) a from tL ..]
   exact K2.pick (50::51::kE)
  ·rw[show fZ (t+1) (p++[a])=fZ (t+1) p*p7 (t+1) a from tL ..,bQ,show 20*(p.length+[a].length)+1=(20*p.length+1)+20 from ky _ 20 1,oJ]
   exact Nat.mul_lt_mul'' hu hx.2.2) (r:=r) ⟨K,show(1:Nat)<2^1 by decide⟩
 refine⟨r',SA (gp (x:=.tup [.tup (intsOf (bF (bt c z) w0).c),iT (bF (bt c z) w0).b]) ((af (·.bind (yz 3)) (K.g 42 rfl)).trans rfl) rfl rfl) rfl ?_,K'⟩
 rw[aj7 hc hz,aj1]
 exact q
def akb(hc:ba c=true)(hz:z<4)(ht:t<4)(hA:dK A n)(hn:n<=57)(K:Kn r (lE c z t A (.int (sn c (t+1))) (.int 1))):(ex (Fn aJ 60) (gI 36) r).bind cw=ab (.bool true):=by
 have O:=SG hc ht
 have P:=place hc (t:=t+1) ⟨eP t,aD ht (by decide)⟩
 obtain⟨r1,e1,K1⟩:=s36 hc ht K
 refine go 36 e1 ?_ λu=>rfl
 obtain⟨r2,e2,K2⟩:=s37 hc hz ht K1
 refine go 37 e2 ?_ λu=>rfl
 have hm:=aj0 (s:=sn c (t+1)) P.hu (A7 P.hl)
 have hd:=dm (L:=49) (a:=sn c (t+1)*gw (wy c (t+1)).length) (b:=(fZ (t+1) (gW c):Int)) (px (fu.mpr O.u1)) ⟨aD (bits_le O.u2) (by decide),aD (bits_le hm) (by decide),aD (yc _ _) (aD (mC _ _) (aD (eA (bits_le hm) (bits_le O.u2)) (by decide)))⟩
 have K3:=(K2.put (k:=53) (v:=.int ((sn c (t+1)*gw (wy c (t+1)).length).fdiv (fZ (t+1) (gW c)))) (by decide)).put (k:=54) (v:=.int 0) (by decide)
 rw[O.m]at hd
 refine go 38 (nh (c5 (aI (K2.g 50 rfl) (aI (K2.g 51 rfl) rfl)) hd) rfl) ?_ λu=>rfl
 have hw:=ah1 (L:=58) (c:=c) (t:=t+1) (m:=(wy c (t+1)).length) ⟨eP t,aD ht (by decide)⟩ (aD P.hl (by decide)) O.o
 rw[O.w]at hw
 have th:=use (f:=λr=>(ev (Fn aJ 60) (sG De) r).bind λx=>(ev (Fn aJ 60) (sG (AB De)) r).bind λy=>eqT x y) (g:=λu=>ab true) (K3.pick [14,42]) (aj8 hc hz)
 obtain⟨x,hx,th⟩:=nH.mp th
 obtain⟨y,hy,th⟩:=nH.mp th
 have hB:dK [.tup [.int 0,.int 0],.tup [.aY (dT [(co c (t+1),(sn c (t+1)*gw (wy c (t+1)).length).fdiv (fZ (t+1) (gW c)))]),.aY (dT [(co c (t+1),(sn c (t+1)*gw (wy c (t+1)).length).fdiv (fZ (t+1) (gW c)))])],.tup [x,y]] 3:=.cons rfl (.cons (af ab (by rw[aw,aw];rfl)) (.one th))
 have K4:=K3.put (k:=16) (v:=.lst (A++[.tup [.int 0,.int 0],.tup [.aY (dT [(co c (t+1),(sn c (t+1)*gw (wy c (t+1)).length).fdiv (fZ (t+1) (gW c)))]),.aY (dT [(co c (t+1),(sn c (t+1)*gw (wy c (t+1)).length).fdiv (fZ (t+1) (gW c)))])],.tup [x,y]])) (by decide)
 refine go 39 (asks K3 rfl hA (aD hn (by decide)) (show 3<=60 by decide) hB (aI (lr (K3.g 54 rfl) rfl) (aI (lr (c5 (aI (K3.g 13 rfl) (aI (K3.g 9 rfl) (aI (Au (K3.g 24 rfl)) rfl))) hw) ?_) (aI (lr hx hy) rfl)))) (aiX K4 rfl (hA.add hB)) λu=>rfl
 show((get _ 22).bind (cG λk=>(get _ 53).bind (bp λv=>ab (T.aY [(k,v)]))))=_
 rw[K3.g 22 rfl]
 exact af (·.bind (bp λv=>ab (T.aY [(txt (co c (t+1)),v)]))) (K3.g 53 rfl)
end
def Dp(k:Nat)(x:T):Prop:=∃d,x.py=ab d/\d.canLay0=true/\d.depth<=k
section
variable{k:Nat}{l:List T}{x:T}
def Dp.all(h:∀t∈l,Dp k t):∃ds,T.pB l=ab ds/\Jv.canLayAll0 ds=true/\Jv.depthAll ds<=k:=by
 induction l with
 |nil=>exact⟨[],rfl,rfl,dP _⟩
 |cons t l ih=>
  obtain⟨d,e1,e2,e3⟩:=h t bk
  obtain⟨ds,f1,f2,f3⟩:=ih λu hu=>h u (bS _ hu)
  exact⟨d::ds,(af (·.bind λa=>(T.pB l).bind λb=>ab (a::b)) e1).trans (af (·.bind λb=>ab (d::b)) f1),(DF _ _).mpr ⟨e2,f2⟩,KO.mpr ⟨e3,f3⟩⟩
def Dp.int(i:Int):Dp k (.int i):=⟨.int i,rfl,rfl,dP _⟩
def Dp.lst(h:∀t∈l,Dp k t):Dp (k+1) (.lst l):=(Dp.all h).elim λds e=>⟨.list ds,af (·.map al3) e.1,e.2.1,cX e.2.2⟩
def Dp.tup(h:∀t∈l,Dp k t):Dp (k+1) (.tup l):=(Dp.all h).elim λds e=>⟨.tuple ds,af (·.map Jv.tuple) e.1,e.2.1,cX e.2.2⟩
def Dp.nil:∀t∈([]:List T),Dp k t:=λt h=>aj h gM
def Dp.cons(h:Dp k x)(g:∀t∈l,Dp k t):∀t∈x::l,Dp k t:=λt q=>(br.mp q).elim (λe=>e▸h) (g t)
def Dp.eq(h:Dp 9 x)(hs:yq x x=ae):eqT x x=ab true:=by
 obtain⟨d,e1,e2,e3⟩:=h
 have hd:sP d=true:=(DF _ _).mpr ⟨e2,ar (aD e3 (by decide))⟩
 show(yq x x).elim (x.py.bind λy=>x.py.bind λz=>if sP y=true/\sP z=true then ab (Jw y z)else ae) ab=_
 rw[hs,e1]
 exact(ah ⟨hd,hd⟩).trans (af ab (aBc d e2))
def Dp.up{j:Nat}(h:Dp k x)(q:k<=j:=by decide):Dp j x:=h.imp λd e=>⟨e.1,e.2.1,aD e.2.2 q⟩
def Dp.map{α:Type}{f:α->T}{l:List α}(h:∀a∈l,Dp k (f a)):Dp (k+1) (.lst (l.map f)):=.lst λt q=>(dy.mp q).elim λa e=>e.2▸h a e.1
end
noncomputable def jg(l:List (Nat×Nat×Nat)):T:=.lst (l.map dX)
def AH(l:List (Nat×Nat×Nat)):Dp 2 (jg l):=.map λx z=>.tup (.cons (.int _) (.cons (.int _) (.cons (.int _) .nil)))
noncomputable def rsL(c z:Nat):List (Nat×Nat×Nat):=(tb c z).filter λx=>x.2.1==x.2.2&&decide (x.1<max (qf (hk c)) z+2)
noncomputable def SJ(c z:Nat):T:=jg ((tb c z).map λx=>(x.1,x.2.1,x.2.2+1))
noncomputable def AI(c z:Nat):T:=jg ((tb c z).map λx=>(x.1,x.2.2+1,x.2.1))
noncomputable def nq(c z:Nat):T:=.lst [jg (nm c z),jg (rsL c z)]
noncomputable def qi(c z:Nat):T:=.lst [SJ c z,AI c z,AI c z]
noncomputable def emp(c:Nat):Bool:=(hk c).isEmpty
noncomputable def pf(c z:Nat):Bool:=(hk c).getLast?.elim true (· ==z)
noncomputable def va(a b:Bool):T:=.lst [.bool a,.bool b,.bool false,.bool false,.bool true]
noncomputable def eM:Ex:=.bin .add (.prim .qW (.cons (.bin .add (.var 40) (.lst (.cons (.var 5) .nil))) .nil)) (.lit (.int 2))
noncomputable def dg(i:Nat):Str:=⟨#[48+i]⟩
noncomputable def sep:Str:=⟨#[44,32]⟩
noncomputable def di(l:List (Nat×Nat×Nat)):List Str:=l.map λx=>dg x.1
noncomputable def IL:Ex:=sG ((λe:Ex=>if h:e.ctorIdx=26 then E.prim.elim e h λz a=>a else e) (u6 35))
noncomputable def qk(v:Nat->Option T)(c z:Nat):Option T×Option T×Option T×Bool:=(ev (Fn aJ 60) eM (rz (u7 c z) v),Fn aJ 60 22 [wo (d7 c z),wo (bt c z)],Fn aJ 60 22 [wo (bt c z),wo (sH c z)],nA sep (di (nm c z))&&(decide ((fi sep (di (nm c z))).length<=60000)&&(nm c z).all λx=>decide (x.1<8)))
noncomputable def qo(c z:Nat):Option T×Option T×Option T×Bool:=(ab (iT (max (qf (hk c)) z+2)),ab (.bool (emp c)),ab (.bool (pf c z)),true)
noncomputable def IM(v:Nat->Option T)(c z:Nat):Option T:=ev (Fn aJ 60) IL (rz (u7 c z) v)
noncomputable def SK(c z:Nat):Option T:=ab (va (emp c) (pf c z))
section
variable{v:Nat->Option T}
def na0:q4 (qk v) qo 0:=by kernel_rfl
def na1:q4 (qk v) qo 1:=by kernel_rfl
def na2:q4 (qk v) qo 2:=by kernel_rfl
def na3:q4 (qk v) qo 3:=by kernel_rfl
def na4:q4 (qk v) qo 4:=by kernel_rfl
def na5:q4 (qk v) qo 5:=by kernel_rfl
def na6:q4 (qk v) qo 6:=by kernel_rfl
def na7:q4 (qk v) qo 7:=by kernel_rfl
def nb0:p4 (IM v) SK 0:=by kernel_rfl
def nb1:p4 (IM v) SK 1:=by kernel_rfl
end
def akn:(tab 8 λi=>(bP (toString (i:Int)),decide ((i:Int).natAbs.log2<1920),gO .str1 [iT i]))=cx 8 λi=>(dg i,true,ab (.str (dg i))):=by kernel_rfl
def SN:s_ ", "=sep:=by kernel_rfl
def IP{i:Nat}(h:i<8):bP (toString (i:Int))=dg i/\(i:Int).natAbs.log2<1920/\gO .str1 [iT i]=ab (.str (dg i)):=by
 have q:(bP (toString (i:Int)),decide ((i:Int).natAbs.log2<1920),gO .str1 [iT i])=(dg i,true,ab (.str (dg i))):=b8 akn i h
 exact⟨af Prod.fst q,aq (af (λp=>p.2.1) q),af (λp=>p.2.2) q⟩
def ako{F:Nat->List T->Option T}{r:aE}{a b:Ex}{p q:Bool}(ha:ev F a r=ab (.bool p))(hb:ev F b r=ab (.bool q)):ev F (.jt a b) r=ab (.bool (p&&q)):=by
 show((ev F a r).bind λx=>if x.plain=true then(if x.truth then ev F b r else ab x)else ae)=_
 rw[ha]
 cases p with
 |true=>exact hb
 |false=>rfl
def akp(l:List (Nat×Nat×Nat)):firstsI (l.map dX)=ab (l.map λx=>(x.1:Int)):=by
 induction l with
 |nil=>rfl
 |cons x l ih=>exact af (·.map ((x.1:Int)::·)) ih
noncomputable def fmt(l:List (Nat×Nat×Nat)):Str:=jb l.length++s_ " "++fi sep (di l)
def Jn(l:List (Nat×Nat×Nat)):Prop:=nA sep (di l)=true/\(fi sep (di l)).length<=60000/\∀x∈l,x.1<8
section
variable{l:List (Nat×Nat×Nat)}(J:Jn l)
include J
theorem f14:Fn aJ 60 14 [jg l]=ab (.str (fmt l)):=by
 show((firstsI (l.map dX)).bind λis=>if is.all (λi=>decide (i.natAbs.log2<1920))=true/\nA (s_ ", ") (iN is)=true/\(fi (s_ ", ") (iN is)).length<=60000 then ab (T.str (jb (l.map dX).length++s_ " "++fi (s_ ", ") (iN is)))else ae)=_
 have e:iN (l.map λx=>(x.1:Int))=di l:=by
  unfold iN
  rw[fO]
  exact tm λx hx=>(IP (J.2.2 x hx)).1
 rw[akp,bK,SN]
 show(if(l.map λx=>(x.1:Int)).all (λi=>decide (i.natAbs.log2<1920))=true/\nA sep (iN (l.map λx=>(x.1:Int)))=true/\(fi sep (iN (l.map λx=>(x.1:Int)))).length<=60000 then ab (T.str (jb l.length++s_ " "++fi sep (iN (l.map λx=>(x.1:Int)))))else ae)=_
 rw[e]
 refine ah ⟨bA.mpr λi hi=>?_,J.1,J.2.1⟩
 obtain⟨x,hx,e⟩:=dy.mp hi
 exact ar (e▸(IP (J.2.2 x hx)).2.1)
theorem akr:iU .join (.str (s_ ", ")) [.lst (l.map λx=>.str (dg x.1))]=ab (.str (fi sep (di l))):=by
 show((hH (l.map λx=>.str (dg x.1))).bind λys=>if nA (s_ ", ") ys=true/\(fi (s_ ", ") ys).length<=lim then ab (T.str (fi (s_ ", ") ys))else ae)=_
 rw[show(l.map λx=>T.str (dg x.1))=(di l).map .str from(fO ..).symm,Sn,SN]
 exact ah ⟨J.1,aD J.2.1 (by decide)⟩
end
def p33{n:Nat}{F:Nat->List T->Option T}{r:aE}{a:Ex}(h:ev F a r=ab (iT (if 1<n then 1 else 0))):ev F (.bin .add (.bin .add (.lit (.str (s_ "at tab size"))) (.bin .mul (.lit (.str (s_ "s"))) a)) (.lit (.str (s_ " ")))) r=ab (.str (jb n++s_ " "))/\(jb n++s_ " ").length<=100:=by
 unfold jb
 by_cases q:1<n
 ·rw[ah q]at h ⊢
  exact⟨aR (aR rfl (aR rfl h (z:=.str (s_ "s")) (by kernel_rfl)) (z:=.str (s_ "at tab size"++s_ "s")) (by kernel_rfl)) rfl (by kernel_rfl),ym (by kernel_rfl)⟩
 ·rw[ai q]at h ⊢
  exact⟨aR (aR rfl (aR rfl h (z:=.str (s_ "")) (by kernel_rfl)) (z:=.str (s_ "at tab size")) (by kernel_rfl)) rfl (by kernel_rfl),ym (by kernel_rfl)⟩
def akt(m:List T):mL false (.lst m) (.int 1) (.int 2)=ab (.lst ((m.drop 1).take 1))/\((m.drop 1).take 1).length=if 1<m.length then 1 else 0:=by
 match m with
 |[]=>exact⟨rfl,rfl⟩
 |[a]=>exact⟨rfl,rfl⟩
 |a::b::m=>
  refine⟨af (λl=>ab (T.lst l)) ?_,(ah (aog (eP _))).symm⟩
  show(List.drop (xA (m.length+2) ((1:Nat):Int)) (a::b::m)).take (xA (m.length+2) ((2:Nat):Int) - xA (m.length+2) ((1:Nat):Int))=_
  rw[clipAt_nat,clipAt_nat,DA (jP 2 _),DA (aD (by decide) (jP 2 _))]
abbrev Na(c z:Nat):Prop:=(∀v,ev (Fn aJ 60) eM (rz (u7 c z) v)=ab (iT (max (qf (hk c)) z+2)))/\Fn aJ 60 22 [wo (d7 c z),wo (bt c z)]=ab (.bool (emp c))/\Fn aJ 60 22 [wo (bt c z),wo (sH c z)]=ab (.bool (pf c z))/\Jn (nm c z)/\∀v,ev (Fn aJ 60) IL (rz (u7 c z) v)=ab (va (emp c) (pf c z))
section
variable(h:Na c z)
def Na.m:=h.1
def Na.q1:=h.2.1
def Na.q2:=h.2.2.1
def Na.j:=h.2.2.2.1
def Na.b:=h.2.2.2.2
end
def na{c z:Nat}(hc:ba c=true)(hz:z<4):Na c z:=by
 have q:∀v,(ev (Fn aJ 60) eM (rz (u7 c z) v),Fn aJ 60 22 [wo (d7 c z),wo (bt c z)],Fn aJ 60 22 [wo (bt c z),wo (sH c z)],nA sep (di (nm c z))&&(decide ((fi sep (di (nm c z))).length<=60000)&&(nm c z).all λx=>decide (x.1<8)))=(ab (iT (max (qf (hk c)) z+2)),ab (.bool (emp c)),ab (.bool (pf c z)),true):=λv=>ai4 (f:=qk v) (g:=qo) (xe na0 na1 na2 na3 na4 na5 na6 na7) hc hz
 have p:=λv=>oA (f:=IM v) nb0 nb1 hc hz
 have i:=(Prod.mk.inj (q λy=>ae)).2
 have j:=(Prod.mk.inj (Prod.mk.inj i).2).2
 exact⟨λv=>(Prod.mk.inj (q v)).1,(Prod.mk.inj i).1,(Prod.mk.inj (Prod.mk.inj i).2).1,⟨(an j).1,aq (an (an j).2).1,λx hx=>aq (bA.mp (an (an j).2).2 x hx)⟩,p⟩
noncomputable def lF(c z t:Nat)(A:List T):List (Nat×T):=(48,jg (nm c z))::(39,jg (tb c z))::lD c z t A
noncomputable def kF:List Nat:=48::39::kD
section
variable{c z t n:Nat}{A:List T}{r:aE}{F:Nat->List T->Option T}{a b:Ex}{x y:T}{l:List (Nat×T)}{es:List (Option Ex)}{ts:List T}
def Kn.v(K:Kn r l)(k:Nat)(h:l.lookup k=ab x):ev F (.var k) r=ab x:=K.g k h
def iP(ha:ev F a r=ab x)(h:pF F r es=ab ts):pF F r (ab a::es)=ab (x::ts):=(af (·.bind λt=>(pF F r es).map (t::·)) ha).trans (af (·.map (x::·)) h)
def s29(K:Kn r ((39,jg (tb c z))::lD c z t A)):eC 29 r=ab (.next,put r 48 (jg (nm c z))):=
 dH (H5 (inj:=dX) (l:=tb c z) (c:=λx=>!(x.2.1==x.2.2)) (g:=dX) (K.g 39 rfl) rfl λx hx=>by
  have K1:=K.put (k:=76) (v:=dX x) (by decide)
  exact⟨_,fK (o:=.ne) (gp (y:=.int 1) (K1.g 76 rfl) rfl (z:=iT x.2.1) rfl) (gp (y:=.int 2) (K1.g 76 rfl) rfl (z:=iT x.2.2) rfl) (af (λv=>ab !v) (uZ x.2.1 x.2.2)),rfl,rfl,λw=>K1.g 76 rfl⟩)
def s30(hc:ba c=true)(hz:z<4)(K:Kn r (lF c z t A)):ev (Fn aJ 60) (AD 30) r=ab (nq c z)/\ev (Fn aJ 60) (u6 30) r=ab (nq c z):=by
 have O:=Dd hc hz
 have N:=na hc hz
 refine⟨lb (aI (fX (K.g 41 rfl) (aI (K.g 42 rfl) rfl) ((Ij (L:=58) O.nr O.fr).trans (af (λl=>ab (jg l)) O.w1))) (aI (fX (K.g 41 rfl) (aI (K.g 42 rfl) rfl) ((Sl (L:=58) O.nr O.fr).trans (af (λl=>ab (jg l)) O.w2))) rfl)) (show 2<=lim by decide),lb (aI (K.g 48 rfl) (aI ?_ rfl)) (show 2<=lim by decide)⟩
 refine H5 (inj:=dX) (l:=tb c z) (c:=λx=>x.2.1==x.2.2&&decide (x.1<max (qf (hk c)) z+2)) (g:=dX) (K.g 39 rfl) rfl λx hx=>?_
 have K1:=K.put (k:=77) (v:=dX x) (by decide)
 exact⟨_,ako (fK (o:=.eq) (gp (y:=.int 1) (K1.g 77 rfl) rfl (z:=iT x.2.1) rfl) (gp (y:=.int 2) (K1.g 77 rfl) rfl (z:=iT x.2.2) rfl) (af ab (uZ x.2.1 x.2.2))) (fK (o:=.lt) (gp (y:=.int 0) (K1.g 77 rfl) rfl (z:=iT x.1) rfl) (use (f:=λr=>ev (Fn aJ 60) eM r) (g:=λw=>ab (iT (max (qf (hk c)) z+2))) (K1.pick [40,5]) N.m) (af ab (decide_eq_decide.mpr fu))),rfl,rfl,λw=>K1.g 77 rfl⟩
def s31(hc:ba c=true)(hz:z<4)(K:Kn r (lF c z t A)):eC 31 r=ab (.next,put r 49 (qi c z)):=by
 have O:=Dd hc hz
 exact dH (lb (aI (fX (K.g 41 rfl) (aI (K.g 43 rfl) rfl) ((Ij (L:=58) O.nr O.wd).trans (af (λl=>ab (jg l)) O.w3))) (aI (fX (K.g 43 rfl) (aI (K.g 41 rfl) rfl) ((Ij (L:=58) O.wd O.nr).trans (af (λl=>ab (jg l)) O.w4))) (aI (fX (K.g 43 rfl) (aI (K.g 41 rfl) rfl) ((Sl (L:=58) O.wd O.nr).trans (af (λl=>ab (jg l)) O.w5))) rfl))) (show 3<=lim by decide))
def s32(K:Kn r (lF c z t A)):ev (Fn aJ 60) (u6 32) r=ab (qi c z):=by
 refine aR (x:=.lst [SJ c z]) (y:=.lst [AI c z,AI c z]) (lb (aI ?_ rfl) (show 1<=lim by decide)) (aR (x:=.lst [AI c z]) (lb (aI ?_ rfl) (show 1<=lim by decide)) rfl rfl) rfl
 ·refine(H7 (inj:=dX) (l:=tb c z) (g:=λx=>dX (x.1,x.2.1,x.2.2+1)) (st:=λx=>put (put (put r 78 (iT x.1)) 79 (iT x.2.1)) 80 (iT x.2.2)) (K.v (F:=Fn aJ 60) 39 rfl) rfl λx hx=>⟨rfl,?_⟩).trans (af (λl=>ab (T.lst l)) (by rw[fO];rfl))
  have K1:=((K.put (k:=78) (v:=iT x.1) (by decide)).put (k:=79) (v:=iT x.2.1) (by decide)).put (k:=80) (v:=iT x.2.2) (by decide)
  exact jd (aI (K1.g 78 rfl) (aI (K1.g 79 rfl) (aI (aR (K1.g 80 rfl) rfl rfl) rfl))) (show 3<=lim by decide)
 ·refine(H7 (inj:=dX) (l:=tb c z) (g:=λx=>dX (x.1,x.2.2+1,x.2.1)) (st:=λx=>put (put (put r 81 (iT x.1)) 82 (iT x.2.1)) 83 (iT x.2.2)) (K.v (F:=Fn aJ 60) 39 rfl) rfl λx hx=>⟨rfl,?_⟩).trans (af (λl=>ab (T.lst l)) (by rw[fO];rfl))
  have K1:=((K.put (k:=81) (v:=iT x.1) (by decide)).put (k:=82) (v:=iT x.2.1) (by decide)).put (k:=83) (v:=iT x.2.2) (by decide)
  exact jd (aI (K1.g 81 rfl) (aI (aR (K1.g 83 rfl) rfl rfl) (aI (K1.g 82 rfl) rfl))) (show 3<=lim by decide)
def add_str{x y:Str}(h:x.length+y.length<=lim):a8 .add (.str x) (.str y)=ab (.str (x++y)):=ah h
def s33(hc:ba c=true)(hz:z<4)(K:Kn r (lF c z t A)):ev (Fn aJ 60) (AD 33) r=ab (.str (fmt (nm c z)))/\ev (Fn aJ 60) (u6 33) r=ab (.str (fmt (nm c z))):=by
 have J:=(na hc hz).j
 obtain⟨e1,e2⟩:=akt ((nm c z).map dX)
 rw[bK]at e2
 obtain⟨p1,p2⟩:=p33 (n:=(nm c z).length) (F:=Fn aJ 60) (r:=r) (a:=.prim .len (.cons (.cY false (.var 48) (.lit (.int 1)) (.lit (.int 2))) .nil)) ((iO (aI (Am (K.v 48 rfl) rfl rfl e1) rfl) rfl).trans (af (λn:Nat=>ab (iT n)) e2))
 refine⟨c5 (aI (K.g 48 rfl) rfl) (f14 J),?_⟩
 refine aR (z:=.str (jb (nm c z).length++s_ " "++fi sep (di (nm c z)))) p1 (o9 (y:=.str (s_ ", ")) rfl (aI (p5 (inj:=dX) (l:=nm c z) (g:=λx=>.str (dg x.1)) (K.g 48 rfl) rfl λx hx=>?_) rfl) (akr J)) (add_str (aD (eA p2 J.2.1) (by decide)))
 have K1:=K.put (k:=84) (v:=dX x) (by decide)
 exact iO (aI (gp (y:=.int 0) (K1.g 84 rfl) rfl (z:=iT x.1) rfl) rfl) (IP (J.2.2 x hx)).2.2
def s34(hc:ba c=true)(hz:z<4)(K:Kn r (lF c z t A)):eC 34 r=ab (.next,put (put (put r 49 (va (emp c) (pf c z))) 50 (.int (sn c (t+1)))) 51 (.int 1)):=by
 have O:=Dd hc hz
 have N:=na hc hz
 have l1:=Il (L:=58) (x:=⟨(d7 c z).toArray⟩) (y:=⟨(bt c z).toArray⟩) O.nr O.fr
 have l2:=Il (L:=58) (x:=⟨(bt c z).toArray⟩) (y:=⟨(d7 c z).toArray⟩) O.fr O.nr
 have l3:=Il (L:=58) (x:=⟨(d7 c z).toArray⟩) (y:=⟨(jM c z).toArray⟩) O.nr O.wd
 rw[O.l1]at l1
 rw[O.l2]at l2
 rw[O.l3]at l3
 exact ni (iP (lb (aI (fX (K.g 41 rfl) (aI (K.g 42 rfl) rfl) N.q1) (aI (fX (K.g 42 rfl) (aI (K.g 44 rfl) rfl) N.q2) (aI (fX (K.g 41 rfl) (aI (K.g 42 rfl) rfl) l1) (aI (fX (K.g 42 rfl) (aI (K.g 41 rfl) rfl) l2) (aI (fX (K.g 41 rfl) (aI (K.g 43 rfl) rfl) l3) rfl))))) (show 5<=lim by decide)) (iP (K.g 23 rfl) (iP rfl rfl))) (show 3<=lim by decide) rfl
def rep(a b:Bool):∃s,gO .repr [va a b]=ab (.str s):=by
 cases a<;>cases b<;>exact⟨_,rfl⟩
def s35(hc:ba c=true)(hz:z<4)(K:Kn r ((49,va (emp c) (pf c z))::u7 c z)):∃s,ev (Fn aJ 60) (AD 35) r=ab (.str s)/\ev (Fn aJ 60) (u6 35) r=ab (.str s):=by
 obtain⟨s,h⟩:=rep (emp c) (pf c z)
 exact⟨s,iO (aI (K.g 49 rfl) rfl) h,iO (aI (use (f:=λr=>ev (Fn aJ 60) IL r) (g:=λy=>ab (va (emp c) (pf c z))) (K.pick [40,5]) (na hc hz).b) rfl) h⟩
def same_str(s:Str):eqT (.str s) (.str s)=ab true:=af ab (aw s)
def part23(hc:ba c=true)(hz:z<4)(ht:t<4)(hA:dK A n)(hn:n<=50)(K:Kn r (lC c z t A)):(ex (Fn aJ 60) (gI 23) r).bind cw=ab (.bool true):=by
 have K1:=(K.put (k:=38) (v:=.lst (intsOf (sD c))) (by decide)).put (k:=39) (v:=.lst []) (by decide)
 refine go 23 (s23 hc K rfl) ?_ λy=>rfl
 have K2:=K1.put (k:=40) (v:=.lst (intsOf (hk c))) (by decide)
 refine go 24 (s24 hc K1 rfl) ?_ λy=>rfl
 have K3:=K2.put (k:=41) (v:=wo (d7 c z)) (by decide)
 refine go 25 (s25 hc hz K2 rfl rfl) ?_ λy=>rfl
 have K4:=K3.put (k:=42) (v:=wo (bt c z)) (by decide)
 refine go 26 (s26 hc hz K3 rfl rfl) ?_ λy=>rfl
 have K5:=(K4.put (k:=43) (v:=wo (jM c z)) (by decide)).put (k:=44) (v:=wo (sH c z)) (by decide)
 refine go 27 (s27 hc hz K4 rfl) ?_ λy=>rfl
 obtain⟨r6,e6,K6⟩:=s28 hc hz (A:=A) (t:=t) (K5.pick (39::kD))
 refine go 28 e6 ?_ λy=>rfl
 have K7:Kn (put r6 48 (jg (nm c z))) (lF c z t A):=K6.put (k:=48) (v:=jg (nm c z)) (by decide)
 refine go 29 (s29 K6) ?_ λy=>rfl
 obtain⟨a30,b30⟩:=s30 hc hz K7
 obtain⟨e8,A8⟩:=xk K7 rfl hA (aD hn (by decide)) a30 b30 (Dp.eq (Dp.lst (k:=8) (.cons (.up (AH _)) (.cons (.up (AH _)) .nil))) rfl)
 refine go 30 e8 ?_ λy=>rfl
 have K8:Kn _ (lF c z t (A++[.tup [nq c z,nq c z]])):=(K7.put (k:=16) (v:=.lst (A++[.tup [nq c z,nq c z]])) (by decide)).pick kF
 refine go 31 (s31 hc hz K8) ?_ λy=>rfl
 have K9:=K8.put (k:=49) (v:=qi c z) (by decide)
 obtain⟨zJ,A10⟩:=xk K9 rfl A8 (aD (cX hn) (by decide)) (K9.v 49 rfl) (s32 (K9.pick kF)) (Dp.eq (Dp.lst (k:=8) (.cons (.up (AH _)) (.cons (.up (AH _)) (.cons (.up (AH _)) .nil)))) rfl)
 refine go 32 zJ ?_ λy=>rfl
 have IS:Kn _ (lF c z t ((A++[.tup [nq c z,nq c z]])++[.tup [qi c z,qi c z]])):=(K9.put (k:=16) (v:=.lst ((A++[.tup [nq c z,nq c z]])++[.tup [qi c z,qi c z]])) (by decide)).pick kF
 obtain⟨a33,b33⟩:=s33 hc hz IS
 obtain⟨e11,A11⟩:=xk IS rfl A10 (aD (cR hn 2) (by decide)) a33 b33 (same_str _)
 refine go 33 e11 ?_ λy=>rfl
 generalize A++[T.tup [nq c z,nq c z]]++[.tup [qi c z,qi c z]]++[.tup [.str (fmt (nm c z)),.str (fmt (nm c z))]]=A' at*
 have SO:Kn _ (lF c z t A'):=(IS.put (k:=16) (v:=.lst A') (by decide)).pick kF
 refine go 34 (s34 hc hz SO) ?_ λy=>rfl
 have IT:=((SO.put (k:=49) (v:=va (emp c) (pf c z)) (by decide)).put (k:=50) (v:=.int (sn c (t+1))) (by decide)).put (k:=51) (v:=.int 1) (by decide)
 obtain⟨s,a35,b35⟩:=s35 hc hz (IT.pick [49,40,5])
 obtain⟨IU,A13⟩:=xk IT rfl A11 (aD (cR hn 3) (by decide)) a35 b35 (same_str _)
 refine go 35 IU ?_ λy=>rfl
 exact akb hc hz ht A13 (aD (cR hn 4) (by decide)) ((IT.put (k:=16) (v:=.lst (A'++[.tup [.str s,.str s]])) (by decide)).pick (50::51::kE))
end
noncomputable def bl(c:Nat):List Nat:=(bf 8).map λi=>if c.testBit i=true then 1 else 0
noncomputable def Df(c t:Nat):Nat:=(wy c t).foldr (λa m=>max (a+1) m) 0
noncomputable def SP(l:List Nat)(i:Nat):Nat:=((l.map λj:Nat=>(j:Int)).filter (· ==(i:Int))).length
noncomputable def eJ(c t:Nat):List Nat:=(bf (Df c t)).map (SP (wy c t))
noncomputable def xm:List Nat->List Nat->List Nat:=List.rec (λb=>b) λx a ih b=>b.casesOn (x::a) λy b=>(x+y)::ih b
noncomputable def SQ(c t:Nat):Bool:=(xm (bl (co c t)) (eJ c t)==xm (bl c) (bZ t 0++eJ c t))&&((eJ c t).all (λd=>Eb d 7)&&(Eb (eJ c t).length 8&&((bl c).all (λd=>Eb d 7)&&(eJ c t).reverse.casesOn true λd z=>Eb 1 d)))
noncomputable def SR(c t:Nat):Bool:=SQ c (t+1)
noncomputable def IX:Ex:=.hU (.bin .add (.prim .qW (.cons (.bin .add (.var 24) (.lst (.cons (.neg (.lit (.int 1))) .nil))) .nil)) (.lit (.int 1)))
noncomputable def eB:Ex:=.comp 68 (.ite (.cmp .eq (.var 68) (.lit (.str (bP "r")))) (.lit (.int 1)) (.lit (.int 0))) (.var 67) (.lit (.bool true))
noncomputable def IY(v:Nat->Option T)(c t:Nat):Option T:=ev (Fn aJ 60) IX (rz [(24,.lst (intsOf (wy c (t+1))))] v)
noncomputable def IZ(c t:Nat):Option T:=ab (.lst ((bf (Df c (t+1))).map λi=>iT i))
noncomputable def I0(v:Nat->Option T)(c:Nat):Option T:=ev (Fn aJ 60) eB (rz [(67,tx c)] v)
noncomputable def I1(c:Nat):Option T:=ab (.lst (intsOf (bl c)))
section
variable{v:Nat->Option T}
def di0:p4 SR yes 0:=by kernel_rfl
def di1:p4 SR yes 1:=by kernel_rfl
def mw0:p4 (IY v) IZ 0:=by kernel_rfl
def mw1:p4 (IY v) IZ 1:=by kernel_rfl
def eb0:p1 (I0 v) (I1) 0:=by kernel_rfl
def eb1:p1 (I0 v) (I1) 1:=by kernel_rfl
end
section
variable{c t n k:Nat}{l:List Nat}
def akR(hc:ba c=true)(v:Nat->Option T):I0 v c=I1 c:=kj eb0 eb1 hc
def akS(hc:ba c=true)(ht:t<4)(v:Nat->Option T):IY v c t=IZ c t:=oA mw0 mw1 hc ht
abbrev vc(c t:Nat):Prop:=xm (bl (co c t)) (eJ c t)=xm (bl c) (bZ t 0++eJ c t)/\(∀d∈eJ c t,d<=7)/\(eJ c t).length<=8/\(∀d∈bl c,d<=7)/\(∀d m,(eJ c t).reverse=d::m->1<=d)
section
variable(h:vc c t)
def vc.a:=h.1
def vc.d:=h.2.1
def vc.ll:=h.2.2.1
def vc.b:=h.2.2.2.1
def vc.z:=h.2.2.2.2
end
def SS(hc:ba c=true)(ht:t<4):vc c (t+1):=by
 obtain⟨h1,h⟩:=an (show SQ c (t+1)=true from oA di0 di1 hc ht)
 obtain⟨h2,h⟩:=an h
 obtain⟨h3,h⟩:=an h
 obtain⟨h4,h5⟩:=an h
 exact⟨ao h1,λd hd=>ym (bA.mp h2 d hd),ym h3,λd hd=>ym (bA.mp h4 d hd),λd m e=>by rw[e]at h5;exact ym h5⟩
def SU(a:List Nat):∀b,bq n (xm a b)=bq n a+bq n b:=by
 induction a with
 |nil=>exactλb=>(jU _).symm
 |cons x a ih=>
  intro b
  cases b with
  |nil=>exact(U5 _).symm
  |cons y b=>
   show(x+y)+2^n*bq n (xm a b)=(x+2^n*bq n a)+(y+2^n*bq n b)
   rw[ih,Kv,Nat.add_add_add_comm]
def akT:bq n (bZ t 0++l)=2^(n*t)*bq n l:=by
 induction t with
 |zero=>rw[KA,KC,Bi];rfl
 |succ t ih=>
  show 0+2^n*bq n (bZ t 0++l)=_
  rw[ih,jU,vA,oJ,<-yg,g6 (2^n)]
def I9(h:∀d∈l,d<2^n):bq n l<2^(n*l.length):=by
 induction l with
 |nil=>exact fy _
 |cons d l ih=>
  have h2:=ih λx hx=>h x (bS _ hx)
  show d+2^n*bq n l<2^(n*(l.length+1))
  rw[vA,oJ,g6 (2^(n*l.length))]
  refine bG (yd (h d bk) _) ?_
  rw[eK,<-vA]
  exact ko _ h2
def akU:∀{l:List Nat}{d:Nat},(∀x∈d::l,x<2^n)->oq n l.length (bq n (d::l))=d::l:=by
 intro l
 induction l with
 |nil=>exactλ{d}z=>af (λy=>[d+y]) (KA _)
 |cons e l ih=>
  intro d h
  have h1:=h d bk
  have i:=ih λx hx=>h x (bS _ hx)
  show(d+2^n*bq n (e::l))%2^n::oq n l.length ((d+2^n*bq n (e::l))/2^n)=_
  rw[apK,Vu h1,apJ _ _ (fy n),Kz h1,jU,i]
def akV(hn:1<=n)(h:∀x∈l,x<2^n)(hz:∀d m,l.reverse=d::m->1<=d):dr (bq n l) n=l.length/\gS n (dr (bq n l) n) (bq n l)=l:=by
 have key:dr (bq n l) n=l.length:=by
  have h1:=bits_le (I9 h)
  unfold dr
  cases e:l.reverse with
  |nil=>
   rw[List.reverse_eq_nil_iff.mp e]at h1 ⊢
   rw[show bc ((bq n []:Nat):Int)=0 from rfl,jU]
   exact Kz (qD hn xJ)
  |cons d m=>
   have hd:=hz d m e
   have e:=(List.reverse_eq_cons_iff.mp e)
   rw[e]at h1 ⊢
   have h2:n*m.length<bc ((bq n (m.reverse++[d]):Nat):Int):=by
    refine Nat.lt_of_not_le λq=>ap4 (r0 q) ?_
    rw[PX,pn]
    refine aD ?_ (jP _ _)
    exact Bh _ (aD hd (bX d _))
   rw[bQ,pn,ap5]at h1 ⊢
   generalize bc ((bq n (m.reverse++[d]):Nat):Int)=b at*
   generalize m.length=j at*
   refine Nat.div_eq_of_lt_le ?_ ?_
   ·rw[nB,g6]
    exact UX (ky _ n 1▸cR h2 n)
   ·rw[nB,g6]
    exact bG (qD (Nat.add_pos_right _ hn) xJ) (cR h1 n)
 refine⟨key,?_⟩
 rw[key]
 cases l with
 |nil=>rfl
 |cons d l=>exact akU h
def akW(hk:1<=k):bc ((2^k - 1:Nat):Int)=k:=by
 refine J0 (bits_le (qD (fy k) xJ)) (apI λq=>?_)
 have h:=r0 (amP q)
 obtain⟨j,e⟩:∃j,k=j+1:=⟨k - 1,(pz hk).symm⟩
 subst e
 rw[Vq,Vz,Vr]at h
 exact ap4 h (UX (f6 (fy j) _))
end
section
variable{e b q r x:Int}
def Pm(e:Int):Prop:=e=1∨e= -1
def fdm(h0:0<=r)(h1:r<b):(q*b+r).fdiv b=q/\(q*b+r).fmod b=r:=by
 have hb:0<b:=Tp h0 h1
 rw[aoQ _ (AR hb),apF _ (AR hb),vB,Int.add_mul_ediv_right _ _ (px hb),Int.ediv_eq_zero_of_lt h0 h1,Vy,Int.add_mul_emod_self_right,Int.emod_eq_of_lt h0 h1]
 exact⟨rfl,rfl⟩
def Ja(he:Pm e)(h0:0<=r)(h1:r<b):(e*(q*b+r)).fdiv (e*b)=q/\(e*(q*b+r)).fmod (e*b)=e*r:=by
 obtain⟨a1,a2⟩:=fdm (q:=q) h0 h1
 rcases he with h|h<;>subst h
 ·rw[nF,nF,nF];exact⟨a1,a2⟩
 ·rw[Bo,Bo,Bo,nF,nF,nF,apN,apO,a1,a2]
  exact⟨rfl,rfl⟩
def xn(he:Pm e):(e*x).natAbs=x.natAbs:=by
 rcases he with h|h<;>subst h
 ·rw[nF]
 ·rw[Bo,nF,Vw]
def xo(he:Pm e){k:Nat}(h:bc x<=k)(hk:k<=900000):a8 .mul (.int e) (.int x)=ab (.int (e*x)):=ah (dh.mpr (aD (eA (show bc e<=1 by rcases he with h|h<;>subst h<;>decide) (aD h hk)) (by decide)))
def Pm.neg(he:Pm e):Pm (-e):=he.elim (λh=>.inr (h▸rfl)) λh=>.inl (h▸rfl)
def akY:e*((-1 - q)*b+(b - r))= -e*(q*b+r):=by
 rw[Bo,<-Int.mul_neg,apB,Bo,nF]
 refine af (e*·) ?_
 rw[Vv,KN,KN (a:=b),vB (-b),ap6,<-ap6 (-b),Int.add_left_neg,Vy]
end
section
variable{c t w z n:Nat}{e:Int}{A:List T}{r:aE}{F:Nat->List T->Option T}{a:Ex}{x:T}{l:List (Nat×T)}
def SV{ts:List Tg}{l xs:List T}{r1:aE}(he:ev F a r=ab (.tup l))(ht:qZ ts l=ab xs)(hp:putAll r (ts.flatMap Tg.ks) xs=ab r1):ex F (.nest ts a) r=ab (.next,r1):=(af (·.bind (bH λl=>(qZ ts l).bind λxs=>(putAll r (ts.flatMap Tg.ks) xs).bind cb)) he).trans ((af (·.bind λxs=>(putAll r (ts.flatMap Tg.ks) xs).bind cb) ht).trans (af (·.bind cb) hp))
abbrev Dig(c t w B W TA LO:Nat):Prop:=LO=W*B+TA/\7<=B/\DM ((W+1)*B) B/\(W+1)*B<2^40000/\wR [iT W,iT w]=ab (.lst (intsOf (eJ c t)))/\mq [.lst (intsOf (bl c)),iT w]=ab (iT TA)/\mq [.lst (intsOf (bl (co c t))),iT w]=ab (iT LO)
def Jb(h:3<=w){d:Nat}(hd:d<=7):d<2^w:=bG (A7 hd) (vC (n:=2) (i:=3) (by decide) h)
def SW(h1:3<=w)(h2:w<=4107)(hb:∀d∈bl c,d<=7):bq w (bl c)<2^(w*8)/\mq [.lst (intsOf (bl c)),iT w]=ab (iT (bq w (bl c))):=by
 have h8:(bl c).length=8:=rfl
 have g:=I9 (n:=w) (l:=bl c) λd hd=>Jb h1 (hb d hd)
 rw[h8]at g
 exact⟨g,Ry (aD (by decide) h1) (aD h2 (by decide)) (by rw[h8];exact aD (nG 8 h2) (by decide)) (by rw[h8];decide) (aD (bits_le g) (aD (nG 8 h2) (by decide)))⟩
def akZ(hc:ba c=true):∀d∈bl c,d<=7:=(SS (t:=0) hc (by decide)).b
def dig(hc:ba c=true)(ht:t<4)(h1:3<=w)(h2:w<=4107):Dig c (t+1) w (2^(w*(t+1)) - 1) (bq w (eJ c (t+1))) (bq w (bl c)) (bq w (bl (co c (t+1)))):=by
 have P:=SS hc ht
 obtain⟨g1,g2⟩:=SW h1 h2 P.b
 obtain⟨g3,g4⟩:=SW h1 h2 (akZ (place hc (t:=t+1) ⟨eP t,aD ht (by decide)⟩).hc)
 have AE:w<=w*(t+1):=Bh _ (eP t)
 have tS:w*(t+1)<=w*8:=ko w (aD ht (by decide))
 have AF:w*8<=32856:=nG 8 h2
 have Jc:8<=2^(w*(t+1)):=vC (n:=2) (i:=3) (by decide) (aD h1 AE)
 have h:=af (bq w) P.a
 rw[SU,SU,akT]at h
 have hp:=vC (n:=2) (by decide) tS
 have hb:=akW (k:=w*(t+1)) (aD (aD (by decide) h1) AE)
 have hB:2^(w*(t+1))=(2^(w*(t+1)) - 1)+1:=(pz (aD (by decide) Jc)).symm
 have uq:=akV (n:=w) (l:=eJ c (t+1)) (aD (by decide) h1) (λd hd=>Jb h1 (P.d d hd)) P.z
 have hW:=I9 (n:=w) (l:=eJ c (t+1)) λd hd=>Jb h1 (P.d d hd)
 have wZ:w*(eJ c (t+1)).length<=w*8:=ko w P.ll
 have hWb:=aD (bits_le hW) wZ
 have hdg:dr (bq w (eJ c (t+1))) w<=64:=by rw[uq.1];exact aD P.ll (by decide)
 have hs:=Rx (a:=bq w (eJ c (t+1))) (n:=w) (aD (by decide) h1) (aD h2 (by decide)) (aD hWb (aD AF (by decide))) hdg
 rw[uq.2]at hs
 rw[hB]at h hp Jc
 generalize 2^(w*(t+1)) - 1=B at*
 generalize bq w (eJ c (t+1))=W at*
 generalize bq w (bl c)=TA at*
 generalize bq w (bl (co c (t+1)))=LO at*
 have i:LO=W*B+TA:=by
  rw[nB,<-gZ]at h
  rw[g6 W,eK _ TA]
  exact Nat.add_right_cancel h
 have hM:(W+1)*B<2^(w*8+1):=by
  rw[nB,Vq,Vr]
  exact apE (bI (i▸bX _ _) g3) (JX hp)
 have SX:=bits_le hM
 refine⟨i,Nat.le_of_succ_le_succ Jc,⟨hb▸aD (yl h2 ht) (by decide),aD SX (aD (cX AF) (by decide)),?_⟩,bG hM (vC (by decide) (aD (cX AF) (by decide))),hs,g2,g4⟩
 unfold dr
 rw[hb]
 refine Nat.div_le_of_le_mul ?_
 generalize w*(t+1)=k at*
 have q:bc (((W+1)*B:Nat):Int)+k - 1<=(w*8+1)+k - 1:=JN (cR SX k) 1
 rw[ky,Vz]at q
 refine aD q (aD (cR (nG 8 AE) k) ?_)
 rw[<-vA,g6 k 64,g6 k]
 exact nG k (by decide)
noncomputable def lG(c z t w:Nat)(e:Int)(A:List T):List (Nat×T):=(6,iT w)::(10,.int e)::(27,tx (co c (t+1)))::lC c z t A
noncomputable def kG:List Nat:=[6,10,27,16,5,9,13,14,22,23,24]
def SY(l:List Nat){k:Nat}:Dp (k+1) (.lst (intsOf l)):=.map λx z=>.int x
def ak2{i:Int}(h:ev F a r=ab (.int i)):ev F (.neg a) r=ab (.int (-i)):=af (·.bind (bp λi=>ab (T.int (-i)))) h
def s19(hc:ba c=true)(ht:t<4)(hw:w<=4107){B TA LO:Nat}(hB:2^(w*(t+1)) - 1=B)(ta:mq [.lst (intsOf (bl c)),iT w]=ab (iT TA))(lo:mq [.lst (intsOf (bl (co c (t+1)))),iT w]=ab (iT LO))(K:Kn r (lG c z t w e A)):eC 19 r=ab (.next,put (put (put r 31 (iT B)) 32 (iT TA)) 33 (iT LO)):=by
 have hwt:w*(t+1)<=16428:=yl hw ht
 have hC:=(place hc (t:=t+1) ⟨eP t,aD ht (by decide)⟩).hc
 have one:∀{x y:Nat},ba x=true->mq [.lst (intsOf (bl x)),iT w]=ab (iT y)->ev (Fn aJ 60) (.call 3 (.cons eB (.cons (.var 6) .nil))) (put r 67 (tx x))=ab (iT y):=λ{x y}hx hs=>by
  have K1:=K.put (k:=67) (v:=tx x) (by decide)
  exact c5 (aI (use (f:=λr=>ev (Fn aJ 60) eB r) (g:=λu=>ab (.lst (intsOf (bl x)))) (K1.pick [67]) (akR hx)) (aI (K1.v 6 rfl) rfl)) hs
 refine SV (l:=[iT B,.lst [iT TA,iT LO]]) (jd (aI (aR (aR (x:=iT 2) rfl (aR (K.v 6 rfl) (K.v 9 rfl) (AA (bI hw (by decide)) (bI ht (by decide)))) (II (aD (yl (bits_le (x:=2) (k:=2) (by decide)) hwt) (by decide)))) (y:=iT 1) rfl (hB▸si (fy _))) (aI ?_ rfl)) (show 2<=lim by decide)) rfl rfl
 exact p5 (inj:=λp:Nat×Nat=>tx p.1) (l:=[(c,TA),(co c (t+1),LO)]) (g:=λp=>iT p.2) (lb (aI (K.v 13 rfl) (aI (K.v 22 rfl) rfl)) (show 2<=lim by decide)) rfl λp hp=>(br.mp hp).elim (λq=>q▸one hc ta) λq=>(b4.mp q)▸one hC lo
def ak5(hc:ba c=true)(ht:t<4)(K:Kn r l)(h:l.lookup 24=ab (.lst (intsOf (wy c (t+1))))):ev (Fn aJ 60) (.comp 69 (.sm .yv (.var 24) (.cons (.var 69) .nil)) IX (.lit (.bool true))) r=ab (.lst (intsOf (eJ c (t+1)))):=by
 refine(p5 (inj:=λi=>iT i) (l:=bf (Df c (t+1))) (g:=λi=>iT (SP (wy c (t+1)) i)) (use (f:=λr=>ev (Fn aJ 60) IX r) (g:=λz=>ab (.lst ((bf (Df c (t+1))).map λi=>iT i))) (K.one h) (akS hc ht)) rfl λi hi=>?_).trans (af (λl=>ab (T.lst l)) (by unfold eJ intsOf;rw[fO];rfl))
 have K1:=K.put (k:=69) (v:=iT i) (by decide)
 exact o9 (K1.v 24 ((cE ..).trans h)) (aI (K1.v 69 rfl) rfl) (af (·.bind λns=>ab (T.int ((ns.filter (· ==(i:Int))).length))) (RI _))
def part19(hc:ba c=true)(hz:z<4)(ht:t<4)(he:Pm e)(h1:3<=w)(h2:w<=4107)(hA:dK A n)(hn:n<=45)(K:Kn r (lG c z t w e A)):(ex (Fn aJ 60) (gI 19) r).bind cw=ab (.bool true):=by
 obtain⟨i,b7,hd,hm,hs,ta,lo⟩:=dig hc ht h1 h2
 have e19:=s19 (B:=2^(w*(t+1)) - 1) hc ht h2 rfl ta lo K
 generalize 2^(w*(t+1)) - 1=B at*
 generalize bq w (eJ c (t+1))=W at*
 generalize bq w (bl c)=TA at*
 generalize bq w (bl (co c (t+1)))=LO at*
 subst i
 have K1:=((K.put (k:=31) (v:=iT B) (by decide)).put (k:=32) (v:=iT TA) (by decide)).put (k:=33) (v:=iT (W*B+TA)) (by decide)
 refine go 19 e19 ?_ λy=>rfl
 have Jd:0<B:=bG (by decide) b7
 have Dg:B/(z+2)<B:=aoT Jd (jP 2 z)
 have hs0:0<B/(z+2):=aoX (aD (cR (cT hz) 2) (aD (by decide) b7)) (eP _)
 have ro:a8 .fdiv (iT B) (iT (z+2))=ab (iT (B/(z+2))):=Az (eP _) (aD (cR (cT hz) 2) (by decide))
 generalize B/(z+2)=s at*
 have Je:W*B+s<=(W+1)*B:=by rw[nB];exact f6 (cT Dg) _
 have Jf:B<=(W+1)*B:=U6 _ (eP W)
 have bM:∀{x:Nat},x<=(W+1)*B->bc (x:Int)<=40000:=λh=>bits_le (bI h hm)
 have eB0:e*(B:Int)≠0:=λq=>iS Jd (by have g:=xn (x:=(B:Int)) he;rw[q]at g;exact g.symm)
 have mB:a8 .mul (.int e) (iT B)=ab (.int (e*B)):=xo he (bM Jf) (by decide)
 have Jg:∀{f:Int}{x:Nat},Pm f->x<=(W+1)*B->a8 .mul (.int f) (iT x)=ab (.int (f*x))/\Fn aJ 60 5 [.int (f*x),.int (e*B)]=ab (.tup [.int ((f*x).fdiv (e*B)),.int ((f*x).fmod (e*B))]):=λ{f x}hf hx=>⟨xo hf (bM hx) (by decide),dm (L:=49) eB0 (by rw[xn he,xn hf];exact hd.less hx)⟩
 have S0:(s:Int)<(B:Int):=fu.mpr Dg
 have f1:=Ja (q:=(W:Int)) (b:=(B:Int)) (r:=0) he (TY 0) (fu.mpr Jd)
 have f2:=Ja (q:=(W:Int)) (b:=(B:Int)) (r:=(s:Int)) he (cy s) S0
 have f3:=Ja (q:= -1 - (W:Int)) (b:=(B:Int)) (r:=(B:Int) - s) he (Int.sub_nonneg_of_le (AR S0)) (Int.sub_lt_self _ (fu.mpr hs0))
 rw[akY]at f3
 rw[am7,Int.mul_zero]at f1
 obtain⟨m1,d1⟩:=Jg (x:=W*B) he (aD (bX _ _) Je)
 obtain⟨m2,d2⟩:=Jg (x:=W*B+s) he Je
 obtain⟨m3,d3⟩:=Jg (x:=W*B+s) he.neg Je
 rw[show((W*B:Nat):Int)=(W:Int)*B from rfl,f1.1,f1.2]at d1
 rw[show((W*B+s:Nat):Int)=(W:Int)*B+s from rfl,f2.1,f2.2]at d2
 rw[show((W*B+s:Nat):Int)=(W:Int)*B+s from rfl,f3.1,f3.2]at d3
 have sub:a8 .sub (iT (W*B+TA)) (iT TA)=ab (iT (W*B)):=(si (jP _ _)).trans (by rw[Vz])
 have K2:=(((K1.put (k:=34) (v:=iT s) (by decide)).put (k:=35) (v:=iT W) (by decide)).put (k:=36) (v:=.int 0) (by decide)).put (k:=37) (v:=.lst (intsOf (eJ c (t+1)))) (by decide)
 refine go 20 (SV (l:=[iT s,.tup [iT W,.int 0],.lst (intsOf (eJ c (t+1)))]) (jd (aI (aR (K1.v 31 rfl) (aR (K1.v 5 rfl) rfl rfl) ro) (aI (c5 (aI (aR (K1.v 10 rfl) (aR (K1.v 33 rfl) (K1.v 32 rfl) sub) m1) (aI (aR (K1.v 10 rfl) (K1.v 31 rfl) mB) rfl)) d1) (aI (ak5 hc ht K1 rfl) rfl))) (show 3<=lim by decide)) rfl rfl) ?_ λy=>rfl
 have A1:dK [.tup [tx (co c (t+1)),tx (co c (t+1))],.tup [.int 0,.int 0],.tup [.lst (intsOf (eJ c (t+1))),.lst (intsOf (eJ c (t+1)))]] 3:=.cons (same_str _) (.cons rfl (.one (Dp.eq (SY _) rfl)))
 refine go 21 (asks K2 rfl hA (aD hn (by decide)) (show 3<=60 by decide) A1 (aI (lr (K2.v 22 rfl) (K2.v 27 rfl)) (aI (lr (K2.v 36 rfl) rfl) (aI (lr (c5 (aI (K2.v 35 rfl) (aI (K2.v 6 rfl) rfl)) hs) (K2.v 37 rfl)) rfl)))) ?_ λy=>rfl
 have A2:=hA.add A1
 generalize A++[T.tup [tx (co c (t+1)),tx (co c (t+1))],.tup [.int 0,.int 0],.tup [.lst (intsOf (eJ c (t+1))),.lst (intsOf (eJ c (t+1)))]]=A' at*
 have K3:=K2.put (k:=16) (v:=.lst A') (by decide)
 have two:∀{a b:Int},eqT (.tup [.int a,.int b]) (.tup [.int a,.int b])=ab true:=Dp.eq (Dp.up (k:=1) (.tup (.cons (.int _) (.cons (.int _) .nil)))) rfl
 have A3:dK [.tup [.tup [iT W,.int (e*s)],.tup [iT W,.int (e*s)]],.tup [.tup [.int (-1 - W),.int (e*(B - s))],.tup [.int (-1 - W),.int (e*(B - s))]]] 2:=.cons two (.one two)
 have ad:=aR (F:=Fn aJ 60) (o:=.add) (aR (K3.v 33 rfl) (K3.v 32 rfl) sub) (K3.v 34 rfl) (z:=iT (W*B+s)) rfl
 have bB:=aR (F:=Fn aJ 60) (K3.v 10 rfl) (K3.v 31 rfl) mB
 have bsB:bc ((B:Int) - s)<=40000:=(yf (cT Dg))▸bM (aD (mC _ _) Jf)
 refine go 22 (asks K3 rfl A2 (aD (cR hn 3) (by decide)) (show 2<=60 by decide) A3 (aI (lr (c5 (aI (aR (K3.v 10 rfl) ad m2) (aI bB rfl)) d2) (jd (aI (K3.v 35 rfl) (aI (aR (K3.v 10 rfl) (K3.v 34 rfl) (xo he (bM (aD (cT Dg) Jf)) (by decide))) rfl)) (show 2<=lim by decide))) (aI (lr (c5 (aI (aR (ak2 (K3.v 10 rfl)) ad m3) (aI bB rfl)) d3) (jd (aI (aR rfl (K3.v 35 rfl) rfl) (aI (aR (K3.v 10 rfl) (aR (K3.v 31 rfl) (K3.v 34 rfl) rfl) (xo he bsB (by decide))) rfl)) (show 2<=lim by decide))) rfl))) ?_ λy=>rfl
 exact part23 hc hz ht (A2.add A3) (cR (cR hn 3) 2) ((K3.put (k:=16) (v:=.lst _) (by decide)).pick [16,5,9,13,14,22,23,24])
end
noncomputable def fl(e sh:Int)(t i:Nat):Int:=(e*(sh+i)).fdiv (e*t)
noncomputable def rn(e sh:Int)(t i:Nat):Int:=(e*(sh+i)).fmod (e*t)
noncomputable def Dh(e sh:Int)(t i:Nat):T:=.tup [.int (fl e sh t i),.int (rn e sh t i)]
noncomputable def cls(t k:Nat):List Nat:=(bf 8).filter λj=>j%t==k
noncomputable def sJ(c j:Nat):T:=.str ⟨#[fY (c.testBit j)]⟩
noncomputable def Jh(e:Int)(s t i:Nat):Bool×Option T×Option T:=
 (Eb ((s:Int) - 20+i).natAbs 1000&&(bf 8).all λj=>(rn e (s - 20) t j==rn e (s - 20) t i)==(j%t==i%t),
  (a8 .mul (.int (fl e (s - 20) t i)) (iT t)).bind λx=>(a8 .mul (.int e) (.int (rn e (s - 20) t i))).bind λy=>(a8 .add x y).bind λz=>a8 .sub z (.int (s - 20)),
  (gO .min1 [.lst ((cls t (i%t)).map λj=>.int (fl e (s - 20) t j))]).bind λm=>a8 .sub (.int (fl e (s - 20) t i)) m)
noncomputable def Ji(t i:Nat):Bool×Option T×Option T:=(true,ab (iT i),ab (iT (i/t)))
def ala:(tab 41 λs=>tab 4 λt=>tab 8 (Jh 1 s (t+1)))=cx 41 λs=>cx 4 λt=>cx 8 (Ji (t+1)):=by kernel_rfl
def alb:(tab 41 λs=>tab 4 λt=>tab 8 (Jh (-1) s (t+1)))=cx 41 λs=>cx 4 λt=>cx 8 (Ji (t+1)):=by kernel_rfl
noncomputable def Jj:T->Option T:=cH λl=>(hH l).bind λys=>(yu ys).bind λcs=>if cs.length<64 then ab (.lst ((vI cs).map λc=>.str ⟨#[c]⟩))else ae
noncomputable def S1(c t:Nat):List (Option T):=tab 8 λi=>(Jj (.lst ((cls (t+1) (i%(t+1))).map (sJ c)))).bind λy=>kC y (iT (i/(t+1)))
noncomputable def S3(c t:Nat):List (Option T):=cx 8 λi=>ab (sJ (co c (t+1)) i)
def so0:p4 S1 S3 0:=by kernel_rfl
def so1:p4 S1 S3 1:=by kernel_rfl
def Jk{c:Nat}:(tab 8 λj=>kC (tx c) (iT j))=cx 8 (λj=>ab (sJ c j)):=by kernel_rfl
noncomputable def c1:Ex:=.jZ [63,64] (.idx (.var 13) (.bin .sub (.bin .add (.bin .mul (.var 63) (.var 9)) (.bin .mul (.var 10) (.var 64))) (.var 7))) (.var 26) (.cmp .eq (.var 64) (.var 29))
noncomputable def c2:Ex:=.jZ [65,66] (.var 65) (.var 26) (.cmp .eq (.var 66) (.var 29))
noncomputable def Jl:S:=.seq (.asg 30 (.yx c1)) (.seq (.aug 27 .add (.idx (.var 30) (.bin .sub (.var 28) (.prim .min1 (.cons c2 .nil))))) .skip)
abbrev xq(e sh:Int)(t i:Nat):Prop:=(sh+i).natAbs<=1000/\(∀j,j<8->(rn e sh t j==rn e sh t i)=(j%t==i%t))/\(∃x y z,a8 .mul (.int (fl e sh t i)) (iT t)=ab x/\a8 .mul (.int e) (.int (rn e sh t i))=ab y/\a8 .add x y=ab z/\a8 .sub z (.int sh)=ab (iT i))/\∃m,gO .min1 [.lst ((cls t (i%t)).map λj=>.int (fl e sh t j))]=ab m/\a8 .sub (.int (fl e sh t i)) m=ab (iT (i/t))
section
variable(h:xq e sh t i)
def xq.n:=h.1
def xq.r:=h.2.1
def xq.x:=h.2.2.1
def xq.m:=h.2.2.2
end
def Di{e:Int}{s t i:Nat}(he:Pm e)(hs:s<41)(ht:t<4)(hi:i<8):xq e (s - 20) (t+1) i:=by
 have q:Jh e s (t+1) i=Ji (t+1) i:=by
  rcases he with h|h<;>subst h
  ·exact b8 (b8 (b8 ala s hs) t ht) i hi
  ·exact b8 (b8 (b8 alb s hs) t ht) i hi
 obtain⟨q1,q⟩:=Prod.mk.inj q
 obtain⟨q2,q3⟩:=Prod.mk.inj q
 obtain⟨q1,q4⟩:=an q1
 obtain⟨x,hx,q2⟩:=nH.mp q2
 obtain⟨y,hy,q2⟩:=nH.mp q2
 obtain⟨z,hz,q2⟩:=nH.mp q2
 exact⟨ym q1,λj hj=>ao (bA.mp q4 j (iu.mpr hj)),⟨x,y,z,hx,hy,hz,q2⟩,nH.mp q3⟩
noncomputable def lH(c z t w:Nat)(e sh:Int)(A:List T):List (Nat×T):=(7,.int sh)::(6,iT w)::(10,.int e)::lC c z t A
noncomputable def Jm(e sh:Int)(t:Nat):T:=.lst ((bf 8).map λj=>Dh e sh t j)
noncomputable def pre(c n:Nat):Str:=⟨((bf n).map λi=>fY (c.testBit i)).toArray⟩
noncomputable def lI(c z t w:Nat)(e sh:Int)(A:List T)(n:Nat):List (Nat×T):=(27,.str (pre (co c (t+1)) n))::(26,Jm e sh (t+1))::lH c z t w e sh A
noncomputable def kI:List Nat:=27::26::7::6::10::[16,5,9,13,14,22,23,24]
section
variable{c t w z n s:Nat}{e:Int}{A:List T}{r:aE}{F:Nat->List T->Option T}{a:Ex}{x:T}{l:List (Nat×T)}
def ale(c n:Nat):pre c n++⟨#[fY (c.testBit n)]⟩=pre c (n+1):=by
 unfold pre
 rw[List.range_succ,mE]
 exact af AO (JA _ _)
def alf(h:∀j,j<8->(rn e (s - 20) (t+1) j==rn e (s - 20) (t+1) n)=(j%(t+1)==n%(t+1))):((bf 8).filter λj=>rn e (s - 20) (t+1) j==rn e (s - 20) (t+1) n)=cls (t+1) (n%(t+1)):=List.filter_congr λj hj=>h j (iu.mp hj)
def mY{k1 k2:Nat}{g:Nat->T}(he:Pm e)(hs:s<41)(ht:t<4)(hn:n<8)(K:Kn r (lI c z t w e (s - 20) A n))
  (h:∀j,j<8->ev (Fn aJ 60) (.cmp .eq (.var k2) (.var 29)) (put (put r k1 (.int (fl e (s - 20) (t+1) j))) k2 (.int (rn e (s - 20) (t+1) j)))=ab (.bool (rn e (s - 20) (t+1) j==rn e (s - 20) (t+1) n))/\ev (Fn aJ 60) a (put (put r k1 (.int (fl e (s - 20) (t+1) j))) k2 (.int (rn e (s - 20) (t+1) j)))=ab (g j)):ev (Fn aJ 60) (.jZ [k1,k2] a (.var 26) (.cmp .eq (.var k2) (.var 29))) r=ab (.lst ((cls (t+1) (n%(t+1))).map g)):=
 (H6 (inj:=λj=>Dh e (s - 20) (t+1) j) (l:=bf 8) (c:=λj=>rn e (s - 20) (t+1) j==rn e (s - 20) (t+1) n) (g:=g) (st:=λj=>put (put r k1 (.int (fl e (s - 20) (t+1) j))) k2 (.int (rn e (s - 20) (t+1) j))) (K.v 26 rfl) rfl λj hj=>⟨rfl,_,(h j (iu.mp hj)).1,rfl,rfl,λy=>(h j (iu.mp hj)).2⟩).trans (by rw[alf (Di he hs ht hn).r])
def alg(hc:ba c=true)(he:Pm e)(hs:s<41)(ht:t<4)(hn:n<8)(K:Kn r (lI c z t w e (s - 20) A n)):∃r',ex (Fn aJ 60) Jl (put (put r 28 (.int (fl e (s - 20) (t+1) n))) 29 (.int (rn e (s - 20) (t+1) n)))=ab (.next,r')/\Kn r' (lI c z t w e (s - 20) A (n+1)):=by
 have S:=Di he hs ht hn
 have K1:=(K.put (k:=28) (v:=.int (fl e (s - 20) (t+1) n)) (by decide)).put (k:=29) (v:=.int (rn e (s - 20) (t+1) n)) (by decide)
 have q:(Jj (.lst ((cls (t+1) (n%(t+1))).map (sJ c)))).bind (λy=>kC y (iT (n/(t+1))))=ab (sJ (co c (t+1)) n):=b8 (oA so0 so1 hc ht) n hn
 obtain⟨y,q1,q2⟩:=nH.mp q
 obtain⟨m,m1,m2⟩:=S.m
 have e1:ev (Fn aJ 60) c1 (put (put r 28 (.int (fl e (s - 20) (t+1) n))) 29 (.int (rn e (s - 20) (t+1) n)))=ab (.lst ((cls (t+1) (n%(t+1))).map (sJ c))):=mY he hs ht hn (K1.pick kI) λj hj=>by
  obtain⟨x,y,z',h1,h2,h3,h4⟩:=(Di he hs ht hj).x
  have K2:=(K1.put (k:=63) (v:=.int (fl e (s - 20) (t+1) j)) (by decide)).put (k:=64) (v:=.int (rn e (s - 20) (t+1) j)) (by decide)
  exact⟨fK (o:=.eq) (K2.v 64 rfl) (K2.v 29 rfl) rfl,gp (K2.v 13 rfl) (aR (aR (aR (K2.v 63 rfl) (K2.v 9 rfl) h1) (aR (K2.v 10 rfl) (K2.v 64 rfl) h2) h3) (K2.v 7 rfl) h4) (b8 Jk j hj)⟩
 have K3:=K1.put (k:=30) (v:=y) (by decide)
 have e2:ev (Fn aJ 60) c2 (put (put (put r 28 (.int (fl e (s - 20) (t+1) n))) 29 (.int (rn e (s - 20) (t+1) n))) 30 y)=ab (.lst ((cls (t+1) (n%(t+1))).map λj=>.int (fl e (s - 20) (t+1) j))):=mY he hs ht hn (K3.pick kI) λj hj=>by
  have K2:=(K3.put (k:=65) (v:=.int (fl e (s - 20) (t+1) j)) (by decide)).put (k:=66) (v:=.int (rn e (s - 20) (t+1) j)) (by decide)
  exact⟨fK (o:=.eq) (K2.v 66 rfl) (K2.v 29 rfl) rfl,K2.v 65 rfl⟩
 have K4:=K3.put (k:=27) (v:=.str (pre (co c (t+1)) (n+1))) (by decide)
 have hl:(pre (co c (t+1)) n).length+1<=lim:=by
  show((bf n).map λi=>fY ((co c (t+1)).testBit i)).toArray.size+1<=lim
  rw[bU,bK,kr]
  exact aD hn (by decide)
 refine⟨_,show ex (Fn aJ 60) Jl _=ab (.next,put (put (put (put r 28 (.int (fl e (s - 20) (t+1) n))) 29 (.int (rn e (s - 20) (t+1) n))) 30 y) 27 (.str (pre (co c (t+1)) (n+1))))from sq (dH ((af (·.bind Jj) e1).trans q1)) (je.trans (o8 (K3.g 27 rfl) (gp (K3.v 30 rfl) (aR (K3.v 28 rfl) (iO (aI e2 rfl) m1) m2) q2) ?_)),K4.pick kI⟩
 exact(ah rfl).trans ((add_str hl).trans (af (λs=>ab (T.str s)) (ale _ _)))
def part17(hc:ba c=true)(hz:z<4)(ht:t<4)(he:Pm e)(hs:s<41)(h1:3<=w)(h2:w<=4107)(hA:dK A n)(hn:n<=45)(K:Kn r (lH c z t w e (s - 20) A)):(ex (Fn aJ 60) (gI 17) r).bind cw=ab (.bool true):=by
 have K1:=(K.put (k:=26) (v:=Jm e (s - 20) (t+1)) (by decide)).put (k:=27) (v:=.str (pre (co c (t+1)) 0)) (by decide)
 have S4:∀{x:Int},x.natAbs<=1000->bc x<=20:=λh=>H8 (bI h (by decide))
 refine go 17 (ni (iP (p5 (inj:=λj=>iT j) (l:=bf 8) (g:=λj=>Dh e (s - 20) (t+1) j) (AG (n:=8) rfl (by decide)) rfl λj hj=>?_) (iP rfl rfl)) (show 2<=lim by decide) rfl) ?_ λu=>rfl
 ·have S:=Di he hs ht (iu.mp hj)
  have K2:=K.put (k:=62) (v:=iT j) (by decide)
  have S5:(((t+1:Nat):Int)).natAbs<=1000:=aD ht (by decide)
  refine c5 (aI (aR (K2.v 10 rfl) (aR (K2.v 7 rfl) (K2.v 62 rfl) rfl) (xo he (S4 S.n) (by decide))) (aI (aR (K2.v 10 rfl) (K2.v 9 rfl) (xo he (S4 S5) (by decide))) rfl)) (dm (L:=49) ?_ ?_)
  ·exactλq=>by have g:=xn (x:=((t+1:Nat):Int)) he;rw[q]at g;exact Nat.noConfusion g
  ·rw[xn he,xn he]
   exact RK S.n (eP t) S5
 obtain⟨r',q,K'⟩:=nk (body:=λy r'=>(bH (putAll r' [28,29]) y).bind (ex (Fn aJ 60) Jl)) (inj:=λj=>Dh e (s - 20) (t+1) j) (P:=λp r=>Kn r (lI c z t w e (s - 20) A p.length)) (l:=bf 8) (λp j q hp r K=>by
  obtain⟨g,hj⟩:=Sz hp
  rw[bQ,ap5,<-g]
  exact alg hc he hs ht hj (g▸K)) (r:=put (put r 26 (Jm e (s - 20) (t+1))) 27 (.str (pre (co c (t+1)) 0))) K1
 refine go 18 (ahQ (K1.v 26 rfl) rfl q) ?_ λu=>rfl
 exact part19 hc hz ht he h1 h2 hA hn (K'.pick kG)
end
noncomputable def sL(t:Nat)(m:Bool)(k:Nat):T:=.lst ([.str (s_ "*"),.str (rr m)]++(i7 t k).map λy=>.str (aa y))
noncomputable def xr(t:Nat)(m:Bool)(k:Nat):List (Nat×T):=[(17,km t m k),(18,km t (!m) 0),(19,sL t m k),(20,sL t (!m) 0),(21,jf t k m)]
noncomputable def AJ:Ex:=.lst (.cons (.attr (.var 21) 12) (.cons (.attr (.var 21) 13) (.cons (.prim .len (.cons (.attr (.var 17) 11) .nil)) (.cons (.prim .len (.cons (.attr (.var 18) 11) .nil)) .nil))))
noncomputable def ve(i:Nat)(r:aE):Option Bool:=(ev (Fn aJ 60) (AD i) r).bind λx=>(ev (Fn aJ 60) (u6 i) r).bind λy=>eqT x y
noncomputable def Jo(v:Nat->Option T)(t k:Nat)(m:Bool):Option Bool×Option Bool×Option T:=(ve 14 (rz (xr t m k) v),ve 15 (rz (xr t m k) v),ev (Fn aJ 60) AJ (rz (xr t m k) v))
noncomputable def Jp(t:Nat)(m:Bool):Option Bool×Option Bool×Option T:=(ab true,ab true,ab (.lst [iT (t+1),.str (rr (!m)),iT (2^t),iT (2^t)]))
section
variable{v:Nat->Option T}
def alh:(tab 4 λt=>tab 8 λk=>Jo v t k true)=cx 4 λt=>cx 8 λk=>Jp t true:=by kernel_rfl
def ali:(tab 4 λt=>tab 8 λk=>Jo v t k false)=cx 4 λt=>cx 8 λk=>Jp t false:=by kernel_rfl
end
noncomputable def sM(n t:Nat)(m:Bool):List T:=(bZ n (.bool true)++[.bool false])++[iT (t+1),.str (rr (!m)),iT (2^t),iT (2^t)]
def alj:(tab 13 λn=>tab 4 λt=>((gO .repr [.lst (sM n t true)]).isSome,(gO .repr [.lst (sM n t false)]).isSome))=cx 13 λz=>cx 4 λz=>(true,true):=by kernel_rfl
def alk{l:List T}{x:T}(h:gO .repr [.lst l]=ab x):∃s,x=.str s:=by
 obtain⟨ys,_,h⟩:=nH.mp (show(T.pB l).bind _=ab x from h)
 split at h
 ·exact⟨_,(Option.some.inj h).symm⟩
 ·exact aN h
def alm{n t:Nat}{m:Bool}(hn:n<13)(ht:t<4):∃s,gO .repr [.lst (sM n t m)]=ab (.str s):=by
 have q:((gO .repr [.lst (sM n t true)]).isSome,(gO .repr [.lst (sM n t false)]).isSome)=(true,true):=b8 (b8 alj n hn) t ht
 obtain⟨q1,q2⟩:=Prod.mk.inj q
 obtain⟨x,h⟩:∃x,gO .repr [.lst (sM n t m)]=ab x:=by
  cases m with
  |true=>exact mD.mp q1
  |false=>exact mD.mp q2
 obtain⟨s,e⟩:=alk h
 exact⟨s,e▸h⟩
noncomputable def S6(c:Nat):Bool:=(Jv.str (txt c)).canLay0
noncomputable def S7(c:Nat):Bool:=true
noncomputable def Jq(c t:Nat):Option Bool:=(mL false (.lst (intsOf (wy c (t+1)))) .none (.int 1)).bind λx=>(mL false (.lst (intsOf (bh c (t+1)))) (.int (-1)) .none).bind λy=>eqT x y
noncomputable def S8(c t:Nat):Option Bool:=ab true
def sk0:p1 (S6) (S7) 0:=by kernel_rfl
def sk1:p1 (S6) (S7) 1:=by kernel_rfl
def fs0:p4 Jq S8 0:=by kernel_rfl
def fs1:p4 Jq S8 1:=by kernel_rfl
noncomputable def lK(c z t w:Nat)(e sh:Int)(A:List T):List (Nat×T):=[(7,.int sh),(6,iT w),(10,.int e),(16,.lst A),(5,iT z),(9,iT (t+1)),(13,tx c),(14,.str (lq c))]
noncomputable def lJ(c z t w:Nat)(e sh o:Int)(m:Bool)(A:List T):List (Nat×T):=(11,.bool m)::(8,.int o)::lK c z t w e sh A
noncomputable def lR(c z t w:Nat)(e sh o:Int)(m:Bool)(k:Nat)(A:List T):List (Nat×T):=(17,km t m k)::(18,km t (!m) 0)::(19,sL t m k)::(20,sL t (!m) 0)::(21,jf t k m)::lJ c z t w e sh o m A
noncomputable def kR:List Nat:=[17,18,19,20,21,11,8,7,6,10,16,5,9,13,14]
noncomputable def lS(c z t w:Nat)(e sh o:Int)(m:Bool)(k:Nat)(A:List T):List (Nat×T):=(22,tx (co c (t+1)))::(23,.int (sn c (t+1)))::(24,.lst (intsOf (wy c (t+1))))::(25,.lst (bZ (wy c (t+1)).length (.bool true)++[.bool false]))::lR c z t w e sh o m k A
noncomputable def kS:List Nat:=22::23::24::25::kR
section
variable{c t w z n k:Nat}{e sh o:Int}{m:Bool}{A:List T}{r:aE}{F:Nat->List T->Option T}{a:Ex}{x y:T}{l:List (Nat×T)}
def S9{i:Nat}(h:ev F a r=ab x)(g:yz i x=ab y):ev F (.attr a i) r=ab y:=(af (·.bind (yz i)) h).trans g
def alr{b:Bool}(h:ev F a r=ab (.bool b)):ev F (.mN a) r=ab (.bool !b):=af (·.bind λt=>if t.plain=true then ab (T.bool (!t.truth))else ae) h
def GJ{u:Int}(ht:t<4):om t u<8:=by
 have hp:(0:Int)<((2^t:Nat):Int):=fu.mpr (fy t)
 have h1:=UQ u hp
 have h0:=D0 u hp
 refine bG ((aoF h0).mpr h1) (vC (n:=2) (j:=3) (by decide) (ku ht))
def Ta{u:Int}(ht:t<4):Fn aJ 60 8 [iT (t+1),.bool m,.int u]=ab (km t m (om t u)):=ah ⟨dh.mpr (eP t),dh.mpr ht⟩
def CE{d:Nat}{p q s:T}(ht:t<4)(K:Kn r ((1,.lst [p,q,iT d,s])::lJ c z t w e sh o m A)):∃k,k<8/\eC 10 r=ab (.next,put (put r 17 (km t m k)) 18 (km t (!m) 0)):=by
 refine⟨om t ((d/16:Nat):Int),GJ ht,?_⟩
 have h0:om t 0=0:=af Int.toNat (Int.zero_fmod _)
 have g:=Ta (t:=t) (m:=!m) (u:=0) ht
 rw[h0]at g
 exact ni (iP (c5 (aI (K.v 9 rfl) (aI (K.v 11 rfl) (aI (aR (gp (y:=.int 2) (K.v 1 rfl) rfl rfl) rfl (Az (m:=16) (by decide) (by decide))) rfl))) (Ta ht)) (iP (c5 (aI (K.v 9 rfl) (aI (alr (K.v 11 rfl)) (aI rfl rfl))) g) rfl)) (show 2<=lim by decide) rfl
def Qf(ht:t<4)(hk:k<8)(K:Kn r ((17,km t m k)::(18,km t (!m) 0)::l)):eC 11 r=ab (.next,put (put (put r 19 (sL t m k)) 20 (sL t (!m) 0)) 21 (jf t k m)):=by
 have q:Ac [km t m k,km t (!m) 0]=ab (jf t k m):=by
  have q:=b8 (b8 aik t ht) k hk
  cases m with
  |true=>exact b8 q 0 (by decide)
  |false=>exact b8 q 1 (by decide)
 exact ni (iP (iO (aI (S9 (K.v 17 rfl) rfl) rfl) rfl) (iP (iO (aI (S9 (K.v 18 rfl) rfl) rfl) rfl) (iP (c5 (aI (K.v 17 rfl) (aI (K.v 18 rfl) rfl)) q) rfl))) (show 3<=lim by decide) rfl
abbrev Rc(t k:Nat)(m:Bool)(v:Nat->Option T):Prop:=ve 14 (rz (xr t m k) v)=ab true/\ve 15 (rz (xr t m k) v)=ab true/\ev (Fn aJ 60) AJ (rz (xr t m k) v)=ab (.lst [iT (t+1),.str (rr (!m)),iT (2^t),iT (2^t)])
section
variable(h:Rc t k m v)
def Rc.ra:=h.1
def Rc.b:=h.2.1
def Rc.re:=h.2.2
end
def rc(ht:t<4)(hk:k<8)(v:Nat->Option T):Rc t k m v:=by
 have q:Jo v t k m=Jp t m:=by
  cases m with
  |true=>exact b8 (b8 alh t ht) k hk
  |false=>exact b8 (b8 ali t ht) k hk
 obtain⟨q1,q⟩:=Prod.mk.inj q
 obtain⟨q2,q3⟩:=Prod.mk.inj q
 exact⟨q1,q2,q3⟩
def Tb{i:Nat}(h:ve i r=ab true)(K:Kn r l)(h16:l.lookup 16=ab (.lst A))(hA:dK A n)(hn:n<=60)(hi:sE (gI i)=.app 16 (.tup (.cons (AD i) (.cons (u6 i) .nil)))):∃B,eC i r=ab (.next,put r 16 (.lst B))/\dK B (n+1):=by
 obtain⟨x,hx,h⟩:=nH.mp h
 obtain⟨y,hy,h⟩:=nH.mp h
 obtain⟨q,B⟩:=xk K h16 hA hn hx hy h
 exact⟨_,(show eC i r=ex (Fn aJ 60) (sE (gI i)) r from rfl).trans (af (λs=>ex (Fn aJ 60) s r) hi|>.trans q),B⟩
def alu{k:Nat}(hc:ba c=true):Dp k (tx c):=⟨.str (txt c),rfl,kj sk0 sk1 hc,dP _⟩
def alv(n:Nat)(x:T):(bZ n [x]).flatten=bZ n x:=by
 induction n with
 |zero=>rfl
 |succ n ih=>exact af (x::·) ih
def zw(hc:ba c=true)(ht:t<4)(ho:o.natAbs<=1000)(hA:dK A n)(hn:n<=30)(K:Kn r (lS c z t w e sh o m k A)):∃B,eC 13 r=ab (.next,put r 16 (.lst B))/\dK B (n+2):=by
 have hT:Tk (t+1):=⟨eP t,aD ht (by decide)⟩
 have P:=place hc hT
 have q:Jq c t=ab true:=oA fs0 fs1 hc ht
 obtain⟨x,hx,q⟩:=nH.mp q
 obtain⟨y,hy,q⟩:=nH.mp q
 have hB:dK [.tup [.tup [tx (co c (t+1)),.int (sn c (t+1)),.lst ((zs (wy c (t+1))).map .int),.int o],.tup [tx (co c (t+1)),.int (sn c (t+1)),.lst ((zs (wy c (t+1))).map .int),.int o]],.tup [x,y]] 2:=.cons (Dp.eq (Dp.up (k:=2) (.tup (.cons (alu P.hc) (.cons (.int _) (.cons (.map λx u=>.int x) (.cons (.int _) .nil)))))) rfl) (.one q)
 refine⟨_,asks K rfl hA (aD hn (by decide)) (show 2<=60 by decide) hB (aI (lr (c5 (aI (K.v 13 rfl) (aI (K.v 9 rfl) (aI (K.v 8 rfl) rfl))) (picked (L:=48) hc hT ho)) (jd (aI (K.v 22 rfl) (aI (K.v 23 rfl) (aI (iO (aI (K.v 24 rfl) rfl) (sorted (bI P.hl (by decide)))) (aI (K.v 8 rfl) rfl)))) (show 4<=lim by decide))) (aI (lr (Am (K.v 24 rfl) rfl rfl hx) (Am (c5 (aI (K.v 13 rfl) (aI (K.v 9 rfl) rfl)) (places (L:=59) hc hT)) rfl rfl hy)) rfl)),hA.add hB⟩
def Jr{x y:List T}(h:x.length+y.length<=lim):a8 .add (.lst x) (.lst y)=ab (.lst (x++y)):=ah h
def s16(hc:ba c=true)(ht:t<4)(hk:k<8)(hA:dK A n)(hn:n<=30)(K:Kn r (lS c z t w e sh o m k A)):∃B,eC 16 r=ab (.next,put r 16 (.lst B))/\dK B (n+1):=by
 have P:=place hc (t:=t+1) ⟨eP t,aD ht (by decide)⟩
 have hl:=P.hl
 have e24:=Au (F:=Fn aJ 60) (K.g 24 rfl)
 have e25:=K.v (F:=Fn aJ 60) 25 rfl
 generalize (wy c (t+1)).length=N at*
 obtain⟨s,hs⟩:=alm (m:=m) (A7 hl) ht
 have l1:(bZ N (T.bool true)++[T.bool false]).length+4<=lim:=by rw[bQ,qO];exact aD (cR (cR hl 1) 4) (by decide)
 have l2:(bZ N (T.bool true)).length+3<=lim:=by rw[qO];exact aD (cR hl 3) (by decide)
 have l3:(bZ N (T.bool true)++[T.bool false,iT (t+1),.str (rr (!m))]).length+2<=lim:=by rw[bQ,qO];exact aD (cR (cR hl 3) 2) (by decide)
 have m1:a8 .mul (.lst [T.bool true]) (iT N)=ab (.lst (bZ N (T.bool true))):=(ah ⟨cy _,aD (ko 2 hl) (by decide)⟩).trans (af (λl=>ab (T.lst l)) (alv N _))
 have er:ev (Fn aJ 60) (.ite (.var 11) (.lit (.str (s_ "U"))) (.lit (.str (s_ "R")))) r=ab (.str (rr (!m))):=xa (K.v 11 rfl) rfl (w:=m) rfl (by cases m<;>rfl)
 have ep:=aR (F:=Fn aJ 60) (r:=r) (a:=.lit (.int 2)) (x:=iT 2) rfl (aR (K.v 9 rfl) (b:=.lit (.int 1)) (y:=iT 1) rfl (si (eP t))) (II (a:=2) (n:=t) (aD (yl (bits_le (x:=2) (k:=2) (by decide)) (cT ht)) (by decide)))
 have q:eC 16 r=ab (.next,put r 16 (.lst (A++[.tup [.str s,.str s]])))/\dK (A++[.tup [.str s,.str s]]) (n+1):=xk (F:=Fn aJ 60) K rfl hA (aD hn (by decide)) (iO (aI (aR e25 (use (f:=λr=>ev (Fn aJ 60) AJ r) (g:=λu=>ab (T.lst [iT (t+1),.str (rr (!m)),iT (2^t),iT (2^t)])) (K.pick [17,18,19,20,21]) λv=>(rc ht hk v).re) (Jr l1)) rfl) hs) (iO (aI (aR (y:=.lst [iT (2^t),iT (2^t)]) (aR (y:=.lst [.bool false,iT (t+1),.str (rr (!m))]) (aR (x:=.lst [.bool true]) (lb (aI rfl rfl) (show 1<=lim by decide)) e24 m1) (lb (aI rfl (aI (K.v 9 rfl) (aI er rfl))) (show 3<=lim by decide)) (Jr l2)) (aR (x:=.lst [iT (2^t)]) (y:=iT 2) (lb (aI ep rfl) (show 1<=lim by decide)) rfl rfl) (Jr l3)) rfl) (by rw[show(bZ N (T.bool true)++[.bool false,iT (t+1),.str (rr (!m))])++[iT (2^t),iT (2^t)]=sM N t m from by unfold sM;rw[fk,fk];rfl];exact hs)) (same_str s)
 exact⟨_,q⟩
def part10{d:Nat}{p q s:T}{j:Nat}(hc:ba c=true)(hz:z<4)(ht:t<4)(he:Pm e)(hs:j<41)(h1:3<=w)(h2:w<=4107)(ho:o.natAbs<=1000)(hA:dK A n)(hn:n<=20)(K:Kn r ((1,.lst [p,q,iT d,s])::lJ c z t w e (j - 20) o m A)):(ex (Fn aJ 60) (gI 10) r).bind cw=ab (.bool true):=by
 obtain⟨k,hk,zJ⟩:=CE ht K
 refine go 10 zJ ?_ λy=>rfl
 have K1:=(K.put (k:=17) (v:=km t m k) (by decide)).put (k:=18) (v:=km t (!m) 0) (by decide)
 refine go 11 (Qf ht hk (K1.pick [17,18])) ?_ λy=>rfl
 have K2:Kn _ (lR c z t w e (j - 20) o m k A):=(((K1.put (k:=19) (v:=sL t m k) (by decide)).put (k:=20) (v:=sL t (!m) 0) (by decide)).put (k:=21) (v:=jf t k m) (by decide)).pick kR
 refine go 12 (nh (c5 (aI (K2.v 21 rfl) (aI (K2.v 13 rfl) (aI (K2.v 9 rfl) rfl))) (aiI (L:=57) hc ht)) rfl) ?_ λy=>rfl
 have K3:Kn _ (lS c z t w e (j - 20) o m k A):=((((K2.put (k:=22) (v:=tx (co c (t+1))) (by decide)).put (k:=23) (v:=.int (sn c (t+1))) (by decide)).put (k:=24) (v:=.lst (intsOf (wy c (t+1)))) (by decide)).put (k:=25) (v:=.lst (bZ (wy c (t+1)).length (.bool true)++[.bool false])) (by decide)).pick kS
 obtain⟨B,IU,hB⟩:=zw hc ht ho hA (aD hn (by decide)) K3
 refine go 13 IU ?_ λy=>rfl
 have K4:Kn _ (lS c z t w e (j - 20) o m k B):=(K3.put (k:=16) (v:=.lst B) (by decide)).pick kS
 obtain⟨C,e14,hC⟩:=Tb (i:=14) (use (f:=λr=>ve 14 r) (g:=λy=>ab true) (K4.pick [17,18,19,20,21]) λv=>(rc ht hk v).ra) K4 rfl hB (aD (cR hn 2) (by decide)) rfl
 refine go 14 e14 ?_ λy=>rfl
 have K5:Kn _ (lS c z t w e (j - 20) o m k C):=(K4.put (k:=16) (v:=.lst C) (by decide)).pick kS
 obtain⟨D,e15,hD⟩:=Tb (i:=15) (use (f:=λr=>ve 15 r) (g:=λy=>ab true) (K5.pick [17,18,19,20,21]) λv=>(rc ht hk v).b) K5 rfl hC (aD (cR hn 3) (by decide)) rfl
 refine go 15 e15 ?_ λy=>rfl
 have K6:Kn _ (lS c z t w e (j - 20) o m k D):=(K5.put (k:=16) (v:=.lst D) (by decide)).pick kS
 obtain⟨E,AJ,hE⟩:=s16 hc ht hk hD (aD (cR hn 4) (by decide)) K6
 refine go 16 AJ ?_ λy=>rfl
 exact part17 hc hz ht he hs h1 h2 hE (aD (cR hn 5) (by decide)) ((K6.put (k:=16) (v:=.lst E) (by decide)).pick [7,6,10,16,5,9,13,14,22,23,24])
end
noncomputable def Tc(c:Nat):Option T×Option T×List Nat×List Nat:=(wR [iT c,iT 1],mq [.lst (intsOf (bl c)),iT 1],tab 8 (λi=>c/2^i%2),d6 (txt c).cps.toList true)
noncomputable def Td(c:Nat):Option T×Option T×List Nat×List Nat:=(ab (.lst (intsOf (bl c))),ab (iT c),cx 8 (λi=>if c.testBit i=true then 1 else 0),(lq c).cps.toList)
def bq0:p1 (Tc) (Td) 0:=by kernel_rfl
def bq1:p1 (Tc) (Td) 1:=by kernel_rfl
noncomputable def d8(d:Nat->Nat):Str:=⟨#[d 0,d 1,d 2,d 3,d 4,d 5,d 6,d 7]⟩
def Js{d:Nat->Nat}:iU .join (.str (s_ "")) [.lst ((bf 8).map λi=>.str ⟨#[d i]⟩)]=ab (.str (d8 d)):=by kernel_rfl
theorem ur{b:Bool}:kC (.str (s_ "ur")) (iT (if b=true then 1 else 0))=ab (.str ⟨#[fY b]⟩):=by cases b<;>kernel_rfl
def alE{b:Bool}:eqT (.str ⟨#[fY b]⟩) (.str (s_ "u"))=ab (!b):=by cases b<;>kernel_rfl
def alF:iU .upper (.str ⟨#[117]⟩) []=ab (.str ⟨#[85]⟩):=by kernel_rfl
noncomputable def pv(c i:Nat):Bool:=i.casesOn true λj=>c.testBit j
def alG{c:Nat}:(tab 8 λi=>(a8 .add (.str (s_ "r")) (tx c)).bind λx=>mL false x (iT i) (iT (i+2)))=cx 8 λi=>ab (.str ⟨#[fY (pv c i),fY (c.testBit i)]⟩):=by kernel_rfl
def alH{a b:Bool}:eqT (.str ⟨#[fY a,fY b]⟩) (.str (s_ "ru"))=ab (a&&!b):=by cases a<;>cases b<;>kernel_rfl
noncomputable def bit(m i:Nat):Nat:=m/2^i%2
noncomputable def ty(c m i:Nat):Nat:=if c.testBit i=true then 114 else if bit m i=0 then 117 else 85
section
variable{c m z t w n:Nat}{e sh o:Int}{mu:Bool}{r:aE}{F:Nat->List T->Option T}{a b:Ex}{l:List Nat}
def alI{i:Nat}:a8 .shr (iT m) (iT i)=ab (iT (m/2^i)):=by
 show(if(0:Int)<=(i:Int)then ab (T.int ((m:Int).fdiv (2^((i:Int)).toNat)))else ae)=_
 rw[ah (cy i),jT,show(2:Int)^i=((2^i:Nat):Int)from(UU 2 i).symm,wK]
 rfl
def Te{i:Nat}(ha:ev F a r=ab (iT m))(hb:ev F b r=ab (iT i)):ev F (.bin .band (.bin .shr a b) (.lit (.int 1))) r=ab (iT (bit m i)):=aR (aR ha hb alI) rfl (An (h:=1))
def alJ(h:ev F a r=ab (.bool false)):ev F (.jt a b) r=ab (.bool false):=af (·.bind λx=>if x.plain=true then(if x.truth then ev F b r else ab x)else ae) h
def alK{x:T}(h:ev F a r=ab (.bool true))(q:ev F b r=ab x):ev F (.jt a b) r=ab x:=(af (·.bind λx=>if x.plain=true then(if x.truth then ev F b r else ab x)else ae) h).trans q
def alL{d e:Nat->Nat}(h:∀i,d i=114↔e i=114)(l:List Nat):∀st,d6 (l.map d) st=d6 (l.map e) st:=by
 induction l with
 |nil=>exactλst=>rfl
 |cons i l ih=>
  intro st
  show(if d i=114 then 114::d6 (l.map d) true else jL st false::d6 (l.map d) false)=if e i=114 then 114::d6 (l.map e) true else jL st false::d6 (l.map e) false
  rw[ih,ih]
  by_cases q:e i=114
  ·rw[ah q,ah ((h i).mpr q)]
  ·rw[ai q,ai λp=>q ((h i).mp p)]
def alM(i:Nat):ty c m i=114↔fY (c.testBit i)=114:=by
 unfold ty
 cases c.testBit i with
 |true=>exact⟨λz=>rfl,λz=>rfl⟩
 |false=>refine⟨λh=>aj h ?_,λh=>aj h (show¬117=114 by decide)⟩;by_cases q:bit m i=0<;>simp only[q,if_true,if_false]<;>decide
def alN(i:Nat):ty c m i=114∨ty c m i=117∨ty c m i=85:=by
 unfold ty
 by_cases h:c.testBit i=true
 ·exact .inl (ah h)
 ·rw[ai h]
  by_cases q:bit m i=0
  ·exact .inr (.inl (ah q))
  ·exact .inr (.inr (ai q))
abbrev B9(c:Nat):Prop:=wR [iT c,iT 1]=ab (.lst (intsOf (bl c)))/\mq [.lst (intsOf (bl c)),iT 1]=ab (iT c)/\(∀i,i<8->bit c i=if c.testBit i=true then 1 else 0)/\d6 (txt c).cps.toList true=(lq c).cps.toList
section
variable(h:B9 c)
def B9.s2:=h.1
def B9.s3:=h.2.1
def B9.bb:=h.2.2.1
def B9.cc:=h.2.2.2
end
def b9(hc:ba c=true):B9 c:=by
 obtain⟨h1,h⟩:=Prod.mk.inj (kj bq0 bq1 hc)
 obtain⟨h2,h⟩:=Prod.mk.inj h
 obtain⟨h3,h4⟩:=Prod.mk.inj h
 exact⟨h1,h2,λi hi=>b8 (f:=λi=>c/2^i%2) h3 i hi,h4⟩
def typed(hc:ba c=true):Fn aJ 60 6 [.str (d8 (ty c m)),.str (s_ "r")]=ab (.str (lq c)):=by
 have e:d6 (d8 (ty c m)).cps.toList true=(lq c).cps.toList:=(alL (λi=>alM i) (bf 8) true).trans (b9 hc).cc
 refine(aiU (L:=59) (s:=d8 (ty c m)) (bj 8) (λd hd=>?_) (by rw[e];exact bj 8)).trans (af (λs=>ab (T.str ⟨s.toArray⟩)) e)
 obtain⟨i,_,q⟩:=dy.mp (show d∈(bf 8).map (ty c m)from hd)
 exact q▸alN i
noncomputable def lV(p q d f c z t w:Nat)(e sh o:Int)(mu:Bool):List (Nat×T):=[(1,.lst [iT p,iT q,iT d,iT f]),(4,iT c),(5,iT z),(6,iT w),(7,.int sh),(8,.int o),(9,iT (t+1)),(10,.int e),(11,.bool mu)]
def part5{p q d f j:Nat}(hc:ba c=true)(hz:z<4)(ht:t<4)(he:Pm e)(hj:j<41)(h1:3<=w)(h2:w<=4107)(ho:o.natAbs<=1000)(K:Kn r (lV p q d f c z t w e (j - 20) o mu)):(ex (Fn aJ 60) (gI 5) r).bind cw=ab (.bool true):=by
 have B:=b9 hc
 have K1:=K.put (k:=12) (v:=.lst (intsOf (bl c))) (by decide)
 refine go 5 (dH (c5 (aI (K.v 4 rfl) (aI rfl rfl)) B.s2)) ?_ λs=>rfl
 have K2:=K1.put (k:=13) (v:=tx c) (by decide)
 refine go 6 (dH (o9 (y:=.str (s_ "")) rfl (aI (p5 (inj:=λi=>iT (if c.testBit i=true then 1 else 0)) (l:=bf 8) (g:=λi=>.str ⟨#[fY (c.testBit i)]⟩) (K1.v 12 rfl) rfl λi hi=>?_) rfl) (show _=ab (tx c)from Js))) ?_ λs=>rfl
 ·exact gp rfl ((K1.put (k:=55) (v:=iT (if c.testBit i=true then 1 else 0)) (by decide)).v 55 rfl) ur
 have K3:=K2.put (k:=14) (v:=.str (lq c)) (by decide)
 refine go 7 (dH (c5 (aI (o9 (y:=.str (s_ "")) rfl (aI (p5 (inj:=λi=>iT i) (l:=bf 8) (g:=λi=>.str ⟨#[ty c f i]⟩) (AG (n:=8) rfl (by decide)) rfl λi hi=>?_) rfl) Js) (aI rfl rfl)) (typed hc))) ?_ λs=>rfl
 ·have KI:=K2.put (k:=56) (v:=iT i) (by decide)
  have ei:=gp (F:=Fn aJ 60) (KI.v 13 rfl) (KI.v 56 rfl) (b8 Jk i (iu.mp hi))
  have ec:=fK (o:=.eq) (b:=.lit (.str (s_ "u"))) ei rfl alE
  have es:=Te (F:=Fn aJ 60) (gp (y:=.int 3) (z:=iT f) (b:=.lit (.int 3)) (KI.v 1 rfl) rfl rfl) (KI.v 56 rfl)
  unfold sJ at ei
  unfold ty
  cases g:c.testBit i with
  |true=>
   rw[g]at ei ec
   exact xa (u:=.bool false) (w:=false) (alJ ec) rfl rfl ei
  |false=>
   rw[g]at ei ec
   refine xa (u:=iT (bit f i)) (w:=!(bit f i==0)) (alK ec es) rfl ?_ ?_
   ·exact af not (uZ (bit f i) 0)
   ·by_cases q:bit f i=0
    ·rw[q];exact ei
    ·rw[beq_false_of_ne q,ai q]
     exact o9 ei rfl alF
 have K4:=K3.put (k:=15) (v:=.str (lq c)) (by decide)
 refine go 8 (dH (o9 (y:=.str (s_ "")) rfl (aI (p5 (inj:=λi=>iT i) (l:=bf 8) (g:=λi=>.str ⟨#[jL (pv c i) (c.testBit i)]⟩) (AG (n:=8) rfl (by decide)) rfl λi hi=>?_) rfl) (Js (d:=λi=>jL (pv c i) (c.testBit i))))) ?_ λs=>rfl
 ·have KI:=K3.put (k:=57) (v:=iT i) (by decide)
  have hi:=iu.mp hi
  obtain⟨x,q1,q2⟩:=nH.mp (show((a8 .add (.str (s_ "r")) (tx c)).bind λx=>mL false x (iT i) (iT (i+2)))=ab (.str ⟨#[fY (pv c i),fY (c.testBit i)]⟩)from b8 alG i hi)
  refine xa (w:=pv c i&&!c.testBit i) (fK (o:=.eq) (Am (aR (x:=.str (s_ "r")) rfl (KI.v 13 rfl) q1) (KI.v 57 rfl) (u:=iT (i+2)) (aR (KI.v 57 rfl) rfl rfl) q2) rfl alH) rfl rfl ?_
  have ei:=gp (F:=Fn aJ 60) (KI.v 13 rfl) (KI.v 57 rfl) (b8 Jk i hi)
  unfold sJ at ei
  cases g:c.testBit i<;>cases pv c i<;>rw[g]at ei<;>first|exact ei|rfl
 have s3:Fn aJ 60 3 [.lst (intsOf (bl c)),iT 1]=ab (iT c):=(show Fn aJ 60 3 [.lst (intsOf (bl c)),iT 1]=mq [.lst (intsOf (bl c)),iT 1]by kernel_rfl).trans B.s3
 have Ab:dK [.tup [.lst (intsOf (bl c)),.lst (intsOf (bl c))],.tup [iT c,iT c],.tup [.str (lq c),.str (lq c)]] 3:=.cons (Dp.eq (SY _) rfl) (.cons (af ab (aw _)) (.one (same_str _)))
 have K5:=K4.put (k:=16) (v:=.lst [.tup [.lst (intsOf (bl c)),.lst (intsOf (bl c))],.tup [iT c,iT c],.tup [.str (lq c),.str (lq c)]]) (by decide)
 refine go 9 (Al (lb (aI (lr (K4.v 12 rfl) (show _=ab (.lst (intsOf (bl c)))from p5 (inj:=λi=>iT i) (l:=bf 8) (g:=λi=>iT (if c.testBit i=true then 1 else 0)) (AG (n:=8) rfl (by decide)) rfl λi hi=>?_)) (aI (lr (c5 (aI (K4.v 12 rfl) (aI rfl rfl)) s3) (K4.v 4 rfl)) (aI (lr (K4.v 14 rfl) (K4.v 15 rfl)) rfl))) (show 3<=lim by decide)) rfl) ?_ λs=>rfl
 ·have KI:=K4.put (k:=58) (v:=iT i) (by decide)
  exact(Te (KI.v 4 rfl) (KI.v 58 rfl)).trans (af (λn=>ab (iT n)) (B.bb i (iu.mp hi)))
 exact part10 hc hz ht he hj h1 h2 ho Ab (by decide) (K5.pick [1,11,8,7,6,10,16,5,9,13,14])
end
section
variable{F:Nat->List T->Option T}{r:aE}{a b:Ex}{L:List Nat}{p q d f:Nat}
def alO{k j:Nat}{l:List T}{i e:Ex}{o:iG}{x y z:T}(hk:get r k=ab (.lst l))(hi:ev F i r=ab (iT j))(hj:j<l.length)(hx:l[j]?=ab x)(he:ev F e r=ab y)(ho:oR o x y=ab z):ex F (.oQ k i o e) r=ab (.next,put r k (.lst (l.set j z))):=by
 show((get r k).bind (cH λl=>(ev F i r).bind (bp λj=>if 0<=j/\j<l.length then(l[j.toNat]?).bind λx=>(ev F e r).bind λy=>(oR o x y).bind λz=>cb (put r k (.lst (l.set j.toNat z)))else ae)))=_
 rw[hk,hi]
 show(if(0:Int)<=(j:Int)/\(j:Int)<l.length then(l[(j:Int).toNat]?).bind λx=>(ev F e r).bind λy=>(oR o x y).bind λz=>cb (put r k (.lst (l.set (j:Int).toNat z)))else ae)=_
 rw[ah ⟨cy j,fu.mpr hj⟩,jT,hx,he]
 exact af (·.bind λz=>cb (put r k (.lst (l.set j z)))) ho
noncomputable def Jt:S:=.seq (.oQ 1 (.bin .mod (.var 2) (.lit (.int 4))) .add (.bin .mod (.var 3) (.bin .pow (.lit (.int 10)) (.lit (.int 6))))) .skip
def mil:ev F (.bin .pow (.lit (.int 10)) (.lit (.int 6))) r=ab (.int 1000000):=by kernel_rfl
def alQ{v m:Int}(h:m≠0):a8 .mod (.int v) (.int m)=ab (.int (v.fmod m)):=ah h
def alR{i:Nat}{v:Int}(hL:L.length=4)(K:Kn r [(1,.lst (intsOf L))]):∃r' L',ex F Jt (put (put r 2 (iT i)) 3 (.int v))=ab (.next,r')/\L'.length=4/\Kn r' [(1,.lst (intsOf L'))]:=by
 have K1:=(K.put (k:=2) (v:=iT i) (by decide)).put (k:=3) (v:=.int v) (by decide)
 have h4:i%4<L.length:=hL.symm▸iw i (by decide)
 obtain⟨u,hu⟩:=Ba (D0 v (b:=1000000) (by decide))
 have K2:=K1.put (k:=1) (v:=.lst (intsOf (L.set (i%4) (L[i%4]+u)))) (by decide)
 refine⟨_,L.set (i%4) (L[i%4]+u),show ex F Jt (put (put r 2 (iT i)) 3 (.int v))=ab (.next,put (put (put r 2 (iT i)) 3 (.int v)) 1 (.lst (intsOf (L.set (i%4) (L[i%4]+u)))))from je.trans ((alO (j:=i%4) (x:=iT L[i%4]) (y:=.int (v.fmod 1000000)) (z:=iT (L[i%4]+u)) (K1.g 1 rfl) (aR (K1.v 2 rfl) rfl (sA (m:=4) (by decide))) (by rw[ke];exact h4) ?_ (aR (K1.v 3 rfl) mil (alQ (by decide))) (by rw[hu];rfl)).trans ?_),?_,K2.pick [1]⟩
 ·show(L.map λi=>iT i)[i%4]?=_
  rw[gL,iq h4]
  rfl
 ·show ab (Fl.next,put _ 1 (.lst ((L.map λi=>iT i).set (i%4) (iT (L[i%4]+u)))))=_
  rw[<-aoY]
  rfl
 ·rw[J8]
  exact hL
def s1{l:List Int}(K:Kn r [(1,.lst (intsOf [77,41218,13,46])),(0,.lst (l.map .int))]):∃r' p q d f,eC 1 r=ab (.next,r')/\Kn r' [(1,.lst [iT p,iT q,iT d,iT f])]:=by
 have hm:∀x∈gA (l.map T.int) ae (ab 60),∃v,T.int v=x:=λx hx=>by
  obtain⟨v,_,e⟩:=dy.mp (aoH (show x∈(l.map T.int).take _ from hx))
  exact⟨v,e⟩
 have es:ev (Fn aJ 60) (.cY false (.var 0) .absent (.lit (.int 60))) r=ab (.lst (gA (l.map T.int) ae (ab 60))):=Am (K.v 0 rfl) rfl rfl rfl
 generalize gA (l.map T.int) ae (ab 60)=m at*
 obtain⟨r',g,L,hL,K'⟩:=nk (body:=λy r'=>(bH (putAll r' [2,3]) y).bind (ex (Fn aJ 60) Jt)) (inj:=λp:T×Nat=>.tup [.int (p.2:Nat),p.1]) (P:=λp r=>∃L:List Nat,L.length=4/\Kn r [(1,.lst (intsOf L))]) (l:=m.zip (bf m.length)) (λp x q hp r ⟨L,hL,K⟩=>by
  obtain⟨v,e⟩:=hm x.1 (tw (a:=x.1) (b:=x.2) (hp▸mF _ bk)).1
  rw[<-e]
  obtain⟨r',L',h1,h2,h3⟩:=alR (F:=Fn aJ 60) (i:=x.2) (v:=v) hL K
  exact⟨r',h1,L',h2,h3⟩) (r:=r) ⟨_,rfl,K.pick [1]⟩
 match L,hL,K' with
 |[p,q,d,f],_,K'=>exact⟨r',p,q,d,f,SA es rfl g,K'⟩
def alS{n:Nat}(h:n<2001):((n:Int) - 1000).natAbs<=1000:=by
 show((n:Int) - (1000:Nat)).natAbs<=1000
 rcases Nat.le_total 1000 n with g|g
 ·rw[<-yf g,D4];exact apA (ku h)
 ·rw[<-Vw,apx,<-yf g,D4];exact mC _ _
def Dj{k:Nat}{x:T}(K:Kn r [(1,.lst [iT p,iT q,iT d,iT f])])(h:[iT p,iT q,iT d,iT f][k]?=ab x)(hk:k<4):ev F (.idx (.var 1) (.lit (.int (k:Nat)))) r=ab x:=gp (y:=iT k) (K.v 1 rfl) rfl (by
 show(f9 (k:Int) 4).bind ([iT p,iT q,iT d,iT f][·]?)=_
 rw[show f9 (k:Int) 4=ab k from wJ (P:=λk=>f9 (k:Int) 4=ab k) rfl rfl rfl rfl k hk]
 exact h)
def part2(K:Kn r [(1,.lst [iT p,iT q,iT d,iT f])]):(ex (Fn aJ 60) (gI 2) r).bind cw=ab (.bool true):=by
 have mf:∀{x m n:Nat}{a:Ex}{r:aE},0<m->m<=100000->0<n->ev (Fn aJ 60) a r=ab (iT x)->ev (Fn aJ 60) (.bin .mod (.bin .fdiv a (.lit (iT m))) (.lit (iT n))) r=ab (iT (x/m%n)):=λh1 h2 h3 h=>aR (aR h rfl (Az h1 h2)) rfl (sA h3)
 have c0:∀{r:aE},Kn r [(1,.lst [iT p,iT q,iT d,iT f])]->_:=λK=>Dj (F:=Fn aJ 60) (k:=0) K rfl (by decide)
 have c1:∀{r:aE},Kn r [(1,.lst [iT p,iT q,iT d,iT f])]->_:=λK=>Dj (F:=Fn aJ 60) (k:=1) K rfl (by decide)
 have c2:∀{r:aE},Kn r [(1,.lst [iT p,iT q,iT d,iT f])]->_:=λK=>Dj (F:=Fn aJ 60) (k:=2) K rfl (by decide)
 have c3:∀{r:aE},Kn r [(1,.lst [iT p,iT q,iT d,iT f])]->_:=λK=>Dj (F:=Fn aJ 60) (k:=3) K rfl (by decide)
 have hw:ev (Fn aJ 60) (.ite (.cmp .eq (.bin .mod (.bin .fdiv (.idx (.var 1) (.lit (.int 3))) (.lit (.int 20))) (.lit (.int 16))) (.lit (.int 15))) (.lit (.int 4100)) (.lit (.int 0))) r=ab (iT (if f/20%16=15 then 4100 else 0)):=by
  refine xa (w:=f/20%16==15) (fK (o:=.eq) (mf (m:=20) (n:=16) (by decide) (by decide) (by decide) (c3 K)) rfl (af ab (uZ _ 15))) rfl rfl ?_
  by_cases h:f/20%16=15
  ·rw[ah (ax.mpr h),ah h];rfl
  ·rw[ai λg=>h (ax.mp g),ai h];rfl
 have K1:=((K.put (k:=4) (v:=iT (128+p%128)) (by decide)).put (k:=5) (v:=iT (f%4)) (by decide)).put (k:=6) (v:=iT (3+f/4%5+(if f/20%16=15 then 4100 else 0))) (by decide)
 refine go 2 (ni (iP (aR (x:=iT 128) rfl (aR (c0 K) rfl (sA (m:=128) (by decide))) rfl) (iP (aR (c3 K) rfl (sA (m:=4) (by decide))) (iP (aR (aR (x:=iT 3) rfl (mf (m:=4) (n:=5) (by decide) (by decide) (by decide) (c3 K)) rfl) hw rfl) rfl))) (show 3<=lim by decide) rfl) ?_ λy=>rfl
 have K2:=(K1.put (k:=7) (v:=.int ((q%41:Nat) - 20)) (by decide)).put (k:=8) (v:=.int ((q/41%2001:Nat) - 1000)) (by decide)
 refine go 3 (ni (iP (aR (aR (c1 (K1.pick [1])) rfl (sA (m:=41) (by decide))) rfl rfl) (iP (aR (mf (m:=41) (n:=2001) (by decide) (by decide) (by decide) (c1 (K1.pick [1]))) rfl rfl) rfl)) (show 2<=lim by decide) rfl) ?_ λy=>rfl
 have K3:=((K2.put (k:=9) (v:=iT (d%4+1)) (by decide)).put (k:=10) (v:=.int (1 - (2*(d/4%2):Nat))) (by decide)).put (k:=11) (v:=.bool (d/8%2==1)) (by decide)
 have C:=c2 (K2.pick [1])
 refine go 4 (ni (iP (aR (x:=iT 1) rfl (aR C rfl (sA (m:=4) (by decide))) (af (λn=>ab (iT n)) (eK 1 (d%4)))) (iP (aR (x:=iT 1) rfl (aR (x:=iT 2) rfl (mf (m:=4) (n:=2) (by decide) (by decide) (by decide) C) (AA (by decide) (bG (iw (d/4) (show 0<2 by decide)) (by decide)))) rfl) (iP (fK (o:=.eq) (mf (m:=8) (n:=2) (by decide) (by decide) (by decide) C) rfl (af ab (uZ _ 1))) rfl))) (show 3<=lim by decide) rfl) ?_ λy=>rfl
 have H0:Pm (1 - (2*(d/4%2):Nat)):=(apH (d/4)).elim (λh=>.inl (by rw[h];rfl)) λh=>.inr (by rw[h];rfl)
 have h2:3+f/4%5+(if f/20%16=15 then 4100 else 0)<=4107:=by
  have a:f/4%5<5:=iw _ (by decide)
  have a:=f6 (ku a) 3
  by_cases h:f/20%16=15
  ·rw[ah h];exact cR a 4100
  ·rw[ai h];exact aD a (by decide)
 exact part5 (c:=128+p%128) (z:=f%4) (t:=d%4) (w:=3+f/4%5+(if f/20%16=15 then 4100 else 0)) (j:=q%41) (ar ⟨bX _ _,yk (iw p (by decide)) 128⟩) (iw f (by decide)) (iw d (by decide)) H0 (iw q (by decide)) (aD (bX 3 _) (bX _ _)) h2 (alS (iw (q/41) (by decide))) (K3.pick [1,4,5,6,7,8,9,10,11])
end
def law{l:List Int}:(ex (Fn aJ 60) (gI 0) (start Aj [.lst (l.map .int)])).bind cw=ab (.bool true):=by
 have K:Kn (start Aj [.lst (l.map .int)]) [(0,.lst (l.map .int))]:=⟨rfl,λj{w}h=>by
  rw[cE]at h
  cases e:j==0 with
  |false=>rw[e]at h;exact aN h
  |true=>rw[e]at h;rw[ao e];exact h⟩
 have K1:=K.put (k:=1) (v:=.lst (intsOf [77,41218,13,46])) (by decide)
 refine go 0 (Al (x:=.lst (intsOf [77,41218,13,46])) rfl rfl) ?_ λz=>rfl
 obtain⟨r',p,q,d,f,e,K2⟩:=s1 K1
 exact go 1 e (part2 K2) λz=>rfl
end Mine.Z
namespace Mine
def alV:Q1:=λl z=>Z.lh rfl Z.law
def aK:True:=trivial
namespace top
def te15177526630643400193:=aK
def te6520327441239513222:=aK
def te1516213087968936877:=aK
def te14372152842798730730:=aK
def te4571971715460732019:=aK
def te15169761463676818070:=aK
def te8443935842833279946:=aK
def te2555065506035805374:=aK
def te15362295582089109014:=aK
def te4321519831107876412:=aK
def te5766051744304087583:=aK
def te5476889619067714990:=aK
def te370947364307004932:=aK
def te12643491718579748851:=aK
def te6883741973766446791:=aK
def te352232786441526191:=aK
def te2731995056826638727:=aK
def te2462062305354472974:=aK
def te14861896470697024400:=aK
def te5225153198818245361:=aK
def te8810280945414196856:=aK
def te11858546649754279707:=aK
def te575894324575664597:=aK
def te216529984938456764:=aK
def te9759319705405543751:=aK
def te6127594578889010139:=aK
def te1149218181149386328:=aK
def te3561193834555079511:=aK
def te8363718466572441477:=aK
def te17323899518341599180:=aK
def te5244899138074338376:=aK
def te4159251561096739476:=aK
def te14987219478266130788:=aK
def te12342655685612074800:=aK
def te11279390925490393535:=aK
def te16273406610938067001:=aK
def te8735323631387419056:=aK
def te7847650389618582240:=aK
def te11430207588045935325:=aK
def te8538268897159353584:=aK
def tw4816591812421909578:=aK
def tw9437893007894698314:=aK
def tw5730960433935265750:=aK
def tw14278253952001398240:=aK
def tw7248323481534646116:=aK
def tw11012874149002130535:=aK
def tw15503665604740900718:=aK
def tw12483720753089274532:=aK
def tw9111013012932687307:=aK
def tw16577533722863086443:=aK
def tw8128397726703822571:=aK
def tw6577238642498478885:=aK
def tw8638107651377546582:=aK
def tw1306697619066116301:=aK
def tw11960245374511038805:=aK
def tw8265191368974092141:=aK
def tw9059832203979395877:=aK
def tw12318557346453588183:=aK
def tw8345894832289464959:=aK
def tw15058813355848621054:=aK
def tw5058314954733539658:=aK
def tw13345470168829271861:=aK
def tw9108098604805947806:=aK
def tw13369591340354186047:=aK
def tw2985252069258134486:=aK
def tw10448899703829047738:=aK
def tw13303987763403120937:=aK
def tw2732273902793177162:=aK
def tw2126296398998916975:=aK
def tw5118827330378232414:=aK
def tw7990429038631628895:=aK
def tw5523086135645875356:=aK
def tw3776753064480771068:=aK
def tw6187478851450931391:=aK
def tw4671429814451907529:=aK
def tw7527032243904285869:=aK
def tw5105846836358774362:=aK
def tw16204670001084760307:=aK
def tw16123964013534891561:=aK
def tw5667650583090716360:=aK
def tw14608685727046917156:=aK
def tw2218668502564051296:=aK
def tw9378254376102152143:=aK
def tw13091174067606910046:=aK
def tw4655869559712951663:=aK
def tw16420938139371093754:=aK
def tw10005945817407372193:=aK
def tw12540527436937284434:=aK
def tw15240379268576122478:=aK
def tw864819663365544661:=aK
def tw6286779285267259847:=aK
def tw9229161468869434483:=aK
def tw15646934709686841381:=aK
def tw17470836177267949868:=aK
def tw12385144161495827662:=aK
def tw4498253355057717688:=aK
def tw10936122117785486979:=aK
def tw1275901062530889299:=aK
def tw12535971307161669396:=aK
def tw2812155379371279736:=aK
def tw15878805988109762761:=aK
def tw17315540178315561739:=aK
def tw16885616592811714743:=aK
def tw15569959144833144457:=aK
def tw2924597203103170677:=aK
def tw7673058066778466091:=aK
def tw5581607755468803823:=aK
def tw8813761850579938390:=aK
def tw16058212318047004132:=aK
def tw2514443458684651071:=aK
def tw5088376156974544275:=aK
def tw7557910624720293991:=aK
def tw1139600151236580504:=aK
def tw1736530178072539846:=aK
def tw16155163154822807229:=aK
def tw14459580976405569124:=aK
def tw105208000716104510:=aK
def tw14502225709538309166:=aK
def tw1245559373397905713:=aK
def tw72247145696351765:=aK
def tw8435561252592420358:=aK
def tw1492452104121835379:=aK
def tw1047907039808853306:=aK
def tw13272337422414781067:=aK
def tw2057334267981633021:=aK
def tw8640399195822439974:=aK
def tw8689318265317240412:=aK
def tw2835187731363253809:=aK
def tw9631074621892390191:=aK
def tw956942650209027819:=aK
def tw14826035006057030972:=aK
def tw775762912060472103:=aK
def tw4213018616267185653:=aK
def tw427269002284569659:=aK
def tw16666122058527598403:=aK
def tw11133666699803404755:=aK
def tw795583310449317561:=aK
def tw8598144960395782539:=aK
def tw17886615442053742456:=aK
def tw1869187583165140508:=aK
def tw6756868429301003459:=aK
def te16840627104734473223:=aK
def tw73013627725306578:=aK
def te2464713573024523455:=aK
def tw2464713573024523455:=aK
def te15299407806266782574:=aK
def te16196420915677631385:=aK
def tw9068506458530023791:=aK
def tw16174758807025615021:=aK
def te987869383939708018:=aK
def te4166218997396506358:=aK
def te13359135706311490777:=aK
def te10567129059001840431:=aK
def tw16840627104734473223:=aK
def te705360758644809490:=aK
def tw16196420915677631385:=aK
def tw13359135706311490777:=aK
def tw6473336682457920079:=aK
def tw1531152811171023976:=aK
def tw10090393231696489298:=aK
def te10090393231696489298:=aK
def tw6411448116228961071:=aK
def tw4166218997396506358:=aK
def tw17718582698147650981:=aK
def tw13120753694373217308:=aK
def te13120753694373217308:=aK
def te3969286963782609292:=aK
def tw1284575025550258836:=aK
def tw18194552166560175392:=aK
def tw14823308797102314842:=aK
def te708234853630380328:=aK
def te14402358008270493973:=aK
def tw3195968871104189447:=aK
def te8892184565913893157:=aK
def te8507776931139520737:=aK
def te9241660120790145501:=aK
def te17741123992881248064:=aK
def tw9241660120790145501:=aK
def tw17741123992881248064:=aK
end top
end Mine
set_option Elab.async true in
set_option tactic.hygienic true in
set_option maxHeartbeats 8000000 in
theorem Mine.top:aBA.Holds:=by
 w_on;o_law;o_head (kmHook Mine.KK Mine.as0 (λP=>Mine.as0_K P) [188,110,103]);(case hw=>w_witness2)
 intro w aP aB mg mb G Y fa o pm cd doc dV kV ho hd iE hD Dk hg args vals as alW alX hrd wZ BN
 clear hd iE hD
 replace Dk:mg (bP "law")=ab (.ref fa):=Dk
 have K:=km_in_of Y
 have ht:=km_tabs_of Y
 clear Y
 have hfa:mg (bP "law")=ab (.ref 232):=Mine.mg_of K G.T.g (Mine.Q0 w.params).1
 rw[hfa]at Dk;cases Dk
 wrow_args alW alX hrd wZ BN
 rename_i xs _ _ _ _ _ _ _ _ _ _ _ _ w1 _ _ _ hlen _
 refine Mine.agY Mine.alV (by kernel_rfl) G.T K ht hg (dh.mp (lA.mp (show¬((63:Int)<xs.length)from hlen))) w1 λs' h1 h2 h3=>?_
 exact⟨.inl ⟨_,.bool true,[],rfl,λz=>rfl,.bool true,by kernel_rfl,λz=>⟨List.nodup_nil,λa ha=>by cases ha⟩⟩,h1,h2,h3⟩
theorem PySem.Challenge.cw_wy0043_01_holds : PySem.Challenge.rw_wy0043_01.Holds :=
  Mine.top
