import PyProof.Rows.All
import Wide.All
import OpenK.AllK
import Wide.FinOn
import KE.KSortTup
import Lean
import PySem.Challenge.RW_ti0074_01
set_option linter.all false
set_option Elab.async false
set_option backward.match.sparseCases false
set_option bootstrap.genMatcherCode false
set_option genCtorIdx false
set_option genInjectivity false
set_option genSizeOf false
set_option maxRecDepth 100000
set_option tactic.hygienic false
open PySem PySem.W PyProof PyProof.Rows PySem.Spec PySem.Calls
open _root_.PySem.Str renaming ofString->aa,length_append->sX
open _root_.Nat renaming le_of_ble_eq_true->ae,le_trans->aq,ble->aN,add_le_add_left->aU,beq->aW,eq_of_beq_eq_true->aZ,le_add_right->a9,ne_of_lt->bc,lt_of_le_of_lt->bh,ble_eq_true_of_le->bk,lt_of_lt_of_le->bx,zero_le->bC,le_refl->bF,lt_succ_self->bI,blt->bJ,le_of_eq->bP,add_sub_cancel_left->bS,le_of_lt->b0,ne_of_gt->cu,succ_add_eq_add_succ->cC,add_assoc->cU,not_lt->dm,lt_trans->dD,lt_succ_of_lt->dF,lt_irrefl->dW,add_comm->d4,succ_le_succ->eD,exists_eq_add_of_le->eE,succ->eJ,le_add_left->eP,zero_add->fi,add_le_add_right->fC,sub_self->fW,le_succ_of_le->gG,le_succ->gH,land->gI,mul_le_mul_left->g7,add_lt_add_left->g8,succ_ne_zero->hK,add_le_add->hM,not_le->im,add_right_comm->io,sub_lt_sub_left->ja,succ_pos->jM,lt_succ_of_le->jN,le_of_succ_le->jO,mul_le_mul_right->kG,min_eq_left->kU,le_antisymm->kW,beq_refl->nR,div_lt_iff_lt_mul->oV,add_left_cancel->qg,add_sub_cancel->rO,le_of_lt_succ->sY,add->sZ,mul_two->vh,not_lt_zero->vJ,lt_of_add_lt_add_left->yA,lt_add_of_pos_right->At,succ_mul->AQ,sub_eq_zero_iff_le->AR,pow->AS,lt_of_succ_lt_succ->AT,sub_le_iff_le_add->Ci,le_div_iff_mul_le->Cj,pow_add->DR,casesOn->DS,lt_of_succ_lt->Jf,succ_ne_self->JR,log2_eq_iff->NO
open _root_.List renaming mem_cons_of_mem->af,mem_cons_self->ah,mem_append_right->au,mem_append_left->av,append_assoc->aA,all_eq_true->aB,length_map->aD,mem_cons->aE,getElem?_eq_some_iff->aH,length_append->aK,mem_append->aT,mem_singleton->a8,getElem?_eq_getElem->bb,append_nil->be,cons_ne_nil->bf,getD_eq_getElem?_getD->bm,getElem?_append_right->bp,getElem?_map->bv,length_set->bO,getElem?_toArray->bU,mem_map->bY,getElem?_set_self->bZ,map_append->b6,size_toArray->b9,filterMap_cons->ce,eq_nil_of_length_eq_zero->ch,range->cQ,mem_map_of_mem->cZ,map_map->da,mem_range->dM,getElem?_append_left->d7,nodup_cons->eM,set_append_left->fo,map_congr_left->fR,filter_cons->f8,set_getElem_self->gm,mem_of_getElem?->gC,getElem?_of_mem->gD,map_cons->gM,map->g9,mem_filter->iq,toArray->iT,set_set->iU,not_mem_nil->iV,length_cons->iW,getElem?_range->i5,map_take->jg,set_append_right->j7,length_filter_le->j8,zip_append->kP,lookup->mq,getElem?_inj->mr,getElem_mem->nB,of_mem_zip->nT,isPerm_iff->nU,contains_iff_mem->oz,concat_eq_append->oA,nodup_nil->o7,length_reverse->qd,map_drop->qh,any_cons->qi,pairwise_cons->rB,mem_filterMap->rC,reverse_cons->sE,push_toArray->sF,nodup_append->sG,length_range->sH,flatMap_cons->sI,take_length->tE,map_fst_zip->tF,isEmpty_iff->tG,forIn_cons->vm,filterMap->v9,getElem?_eq_none_iff->wV,drop_eq_getElem_cons->wW,pairwise_singleton->yK,range_succ_eq_map->Au,length_singleton->AU,eq_nil_or_concat->AW,pairwise_append->Ck,length_take_le'->Cm,getElem?_set_ne->Cn,forall_mem_cons->Co,map_filterMap->E7,forIn_toArray->E8,filterMap_map->E9,pairwise_map->FB,flatMap_map->Jg,append_cons->Jh,any_eq_true->Ji,forIn_nil->NP,take_nil->Ps,set_comm->Pt,drop_nil->Pu,all_cons->Pw
open _root_.Option.some renaming inj->aj
open _root_.PySem renaming Expr->al,Value->ar,Str->ax,wpAny_bind->az,Shared->aC,sizeLine->aF,Addr->aI,wpAny->aL,recursionLimit->aP,wpAny_pure->aV,call->bH,GenState->bR,Builtin->b8,wpAny_execs_cons->cy,wpAny_holding->cE,Stmt->cP,model->dc,cLine->df,Around->dR,Obj->dU,strIterType->dZ,seg_execs_cons->d0,wpAny_standAt->d6,wpAny_newObj_type->ed,keywordEach->ej,cellsFrom->ew,Program->eC,seg_execs_nil->eO,wpAny_mono->eQ,seqIndex?->eT,builtinLookup_eq_fast->fh,Heap->fk,wpAny_call_entry->fw,rawInt->fy,seg_bind_wrap->fE,wpAny_callSpecial?_slot->fV,World->gf,Operator->gr,NameKind->gu,wpAny_field->gU,backToKw->gV,intText?->gW,argBest->ic,starEach->ik,JoinOk->iF,typeLookup_type->iO,Scope->iS,BindsTo->iX,sliceBounds->i8,pyNext->i9,ExcName->jj,Arguments->jl,wpAny_execs_nil->jG,letOwnedTupleGo->jH,swapsWith->jU,compareOp->jV,firstArgMember->ko,assign->kq,Pos->kF,execs->kN,Comprehension->lK,Flow->lL,Tok->lP,theTreesLotGoes->l7,Keyword->mv,wpAny_pyIter_tuple->mV,sysModules->mW,clipAt->mX,backTo->mY,IsPair->m4,IntMulOk->m6,wpAny_truthy_bool->nF,sizeLine_eq->nH,setGen_self->nI,getMethod_builtin->nJ,codeAny->nM,swappedStores->nP,Sem->o6,wpAny_rule->pC,strKind_is->pD,codeAny_builtin->pZ,Env->qk,wpAny_of_eq->rG,wpAny_loadName_local->rH,wpAny_Expr_any->rI,loadName->rJ,binaryOp->rK,Result->rL,standAt->sy,noteFrame->sB,holding->sC,wpAny_attempt->tw,behindInMarks->tx,CmpOp->tI,wpAny_call->uj,stored->uk,slot_list_getitem->vC,bindArgs->vG,Protocol->vI,wpAny_isInstance->wT,pyIter->wU,mainGlobals->yu,interactive->yv,field->yx,wpAny_updateSeq->yI,wpAny_specialOf->yJ,valueAt->Aq,wpAny_seqItems->AE,wpAny_newTuple->AF,typeLookup->AG,sliceRange->AH,seg_Expr_Yield->AI,isSubtype_stop->AK,ZipApart->AN,wpAny_handled->DL,wpAny_getItem_list_slice->DM,plainId_quiet->DO,comprehension->DP,assignInOrder->DQ,storeName->EZ,slicePick->E0,seg_again->E1,getMethod->E2,codeAmong->E3,Model->E6,wpAny_nextOf_list_item->Fx,notedBy->Fy,newExc->Fz,Code->FH,wpAny_storeName_local->Jc,Seg->Jd,wpAny_throw->JH,wpAny_newFunctionEnv->JI,subscripted->JK,seg_wrap->JL,newTuple->JM,callWith->JN,GenOnlyQ->JV,codeAny_forLoop_any->NM,wpAny_getItem_list->Pg,wpAny_Name->Ph,truthy->Pj,methodCall->Pm,clipAt_nat->Pn,assignEach->Po,Params->Pr
open _root_.Bool renaming and_eq_true->aM,eq_false_iff->co,false_ne_true->dO,false_eq_true->eB,not_eq_true'->eI,eq_iff_iff->gw,or_eq_true->jk,not_not->Av,and_eq_true_iff->Cp,not_eq_false'->Fd,and_false->NW,or_false->Py
open _root_.And renaming intro->aQ
open _root_.PySem.Heap renaming get?_push_of_some->aR,lt_size->bw,get?_push_size->bE,get?_none_of_le->dj,size_push->fq,get?_update_self->iC,dictOf_iff->kQ,get?_update_other->nN,size_update->tH,ExtBut->uo
open _root_.PySem.Challenge renaming pw_ti0074_01->aS,rw_ti0074_01->dd
open _root_.PySem.Txt renaming lower->aX,join->cq,upper->cX,slice->dk,item->gj
open _root_.PySem.Float64 renaming sub->aY,mul->bG,div->bK,add->bQ,isZero->cI,isInf->cM,isFinite->dw,cmpInt->gQ,ofInt->ig,cmp->iG,divmod->kX,ofFrac->uq,fmod->wY,roundMag->DU,ofBin->Jl,isNaN->Jm
open _root_.LawfulBEq renaming eq_of_beq->bo
open _root_.PySem.UnaryOp renaming USub->bq
open _root_.True renaming intro->br
open _root_.List.cons renaming inj->ca
open _root_.PySem.Builtin.Range renaming rangeSize->cf,small->cN
open _root_.Int renaming natCast_nonneg->cx,ofNat_lt->dH,lt_of_le_of_lt->dQ,fmod_nonneg_of_pos->d5,fmod_lt_of_pos->fe,ofNat_le->fj,le_trans->gJ,ofNat_sub->m7,not_lt->nV,toNat_of_nonneg->qj,add_sub_cancel->rR,ofNat->um,sub_zero->AY,add_comm->AZ,add_le_add_left->Fb,lt_of_lt_of_le->FE,toNat_natCast->Jk,natCast_add->NR,le_antisymm->NS
open _root_.Array renaming length_toList->cG,getElem?_eq_getElem->l9,getElem?_eq_some_iff->vP,toArray_toList->A7,toList_append->Cq,getElem?_push->Cr,size_push->Jo
open _root_.PySem.Builtin.List renaming listFitsIndex->cT,listExtendWith->qo,listSameRef->sJ
open _root_.PySem.Builtin.SmallTypes renaming nextOf->cV,ownedTupleIsFree->e7
open _root_.PyProof.Rows renaming assign_Name->dh,News->dJ,seqObj->iE,assignInOrder_cons->mZ,envOfC->nQ,Below->oW,args_cons->sD,seen->vD,assignInOrder_nil->vH,CellsAre->A6,subscriptTail->DN,tail_any->JJ,Top->JO,IsTup->JT,Subscript_->Pp
open _root_.PySem.Builtin renaming divisionGoesByPylong->dn
open _root_.PySem.BindsTo renaming of_eq->dz
open _root_.PySem.W renaming codeIn->dP,keepIn->gi,callWith_of->iB,tabObj->iD,kp_binds->jD,listOf->jZ,neN->nA,dictOf->pE,KtsDicts->rQ,fnOf->ul,kas_sort->vE,hideAll_get->yw,codeHd_of_K->yz,ktrTop->AJ,of_hideAll->Pl
open _root_.PySem.Value renaming none->eG,ref->fD,type->j5,str->o5,builtin->qa,int->sW
open _root_.Ordering renaming eq->fH,lt->rM
open _root_.PySem.Builtin.Str renaming tooLong->gq,occurrences->gv
open _root_.PyProof.Rows.LCg renaming NsObj->gE,news_but->AX,fr_but->FD
open _root_.PySem.Obj renaming mapSeq->gP,isFreed_of_fields->Ch,data_mapFields->FA,cls_mapFields->Je
open _root_.Eq renaming symm->i6,trans->yB
open _root_.Nat.succ renaming inj->jp
open _root_.PySem.Builtin.Re renaming reRunToEnd->jt,reRawOf->kz,reDrive->kA,reTurnSteps->vq,reRawItems->vM,reNewMatch->vO,reTarget->wZ,reRawNat->w4,reAnswer->w5
open _root_.Option renaming map_eq_some_iff->jC,map->qc,none->As
open _root_.PySem.Heap.SameBut renaming update->jP
open _root_.Prod.mk renaming inj->j6
open _root_.PySem.Around renaming under_plainId->km
open _root_.PySem.Sre renaming inSet->kr,M->lJ,Seen->l8,forSearch->rA
open _root_.UInt64 renaming ofNat->kO
open _root_.PySem.Heap.UpToSlots renaming of_keeps->kR
open _root_.PySem.F renaming plain_extend_loop->lQ,slot_zip_next->o8,slot_str_ascii_iterator_next->vL,slot_str_iterator_next->A4,slot_enumerate_next->Fc,entry_extend_loop->Jn,type_list_append->JW,slot_list_append->JX,plain_list_iadd->NT,plainAttrs_list->NU,args_zip_next_1->NV,entry_zip_next->Px
open _root_.ForInStep renaming yield->mR
open _root_.PySem.GenOnly renaming setGen->nW
open _root_.ToString renaming toString->oS
open _root_.PySem.Sre.M renaming admitted->oU,hasFirstSet->E5,runFor->Pq
open _root_.PySem.Builtin.Generator renaming genWake->o9
open _root_.Ne renaming symm->qf
open _root_.LT renaming lt->rP
open _root_.PySem.Walks renaming tuple->tC
open _root_.PyProof.Rows.News renaming push->tD
open _root_.PySem.PyData renaming keyHash->vg
open _root_.PySem.Heap.IsSliceOf renaming new->vn
open _root_.PySem.Heap.IsList renaming typeIs->wX
open _root_.PySem.AutoFloatOps renaming lt_0->w6
open _root_.PySem.P renaming str_of_bool->Ar
open _root_.PySem.Calls renaming evalArgs_plain->AM,Constant_str->FF
open _root_.PySem.W.WData renaming float->AP
open _root_.PySem.CmpOp renaming Eq->A5
open _root_.PySem.Value.type renaming inj->Ce
open _root_.Prod renaming ext->Cf
open _root_.PySem.PassesOwn renaming never->Cg
open _root_.PySem.Keeper renaming boundFrame->DT,machine->Jj,frame->NQ
open _root_.PySem.Value.ref renaming inj->E4
open _root_.Int.ofNat renaming inj->Fa
open _root_.PySem.Sem renaming bind_eq_wrap->JP
open _root_.PySem.Expr.Lambda renaming inj->JQ
open _root_.LE renaming le->JS
open _root_.PySem.GenOnlyQ renaming of->JU
open _root_.PySem.Shared renaming drawn->NN
section
set_option maxRecDepth 1000000
set_option maxHeartbeats 0
set_option backward.match.sparseCases true
set_option tactic.hygienic true
namespace Mine
noncomputable abbrev q(s:String):ax:=aa s
noncomputable def mS(k:Nat):cP:=aS.main.body.getD k (.Pass ⟨0,0,0,0⟩)
noncomputable def cS(k:Nat):cP:=match mS 23 with|.ClassDef _ _ _ b .. =>b.getD k (.Pass ⟨0,0,0,0⟩)|_=>.Pass ⟨0,0,0,0⟩
noncomputable def fA:cP->jl|.FunctionDef _ a .. =>a|_=>{posonlyargs:=[],args:=[],vararg:=none,kwonlyargs:=[],kw_defaults:=[],kwarg:=none,defaults:=[]}
noncomputable def fB:cP->List cP|.FunctionDef _ _ b .. =>b|_=>[]
noncomputable def fS:cP->iS|.FunctionDef _ _ _ _ _ _ sc .. =>sc|_=>{kind:=.function,names:=[],isGenerator:=false,isCoroutine:=false}
noncomputable abbrev fO(n qn:ax)(a:jl)(b:List cP)(sc:iS)(d kd:ar)(pm:ax)(pt c:Nat):dU:={cls:=.type "function",data:=.func {name:=n,qualname:=qn,params:=a,body:=.stmts b,scope:=sc,globals:=3,closure:=[],defaults:=d,kwdefaults:=kd,pyModule:=.str pm pt,code:=.ref c}}
noncomputable abbrev cO(n qn:ax)(t t' t'':Nat)(line argc kwc fl:Int)(r8 r11 r13 r14 r15:ar)(x:Int)(t2:Nat):dU:={cls:=.type "code",data:=.fields #[.str n t,.str qn t',.str (q "/claim/cut.py") t'',.int line 0,.int argc 0,.int 0 0,.int kwc 0,.int fl 0,r8,.bool true,.int 276 0,r11,.none,r13,r14,r15,.int x 0,.int line 0,.str (q "/claim/cut.py") t2]}
noncomputable abbrev dE(P:Pr)(k:ax)(t:Nat)(v:ar):DictEntry:={hash:=vg P k,key:=.str k t,val:=v}
noncomputable def a2:Nat:=nat_lit 2
noncomputable def a3:Nat:=nat_lit 3
noncomputable def y_:Nat:=nat_lit 44
noncomputable def y?:Nat:=nat_lit 45
noncomputable def x_:Nat:=nat_lit 51
noncomputable def x?:Nat:=nat_lit 52
noncomputable def w_:Nat:=nat_lit 58
noncomputable def w?:Nat:=nat_lit 59
noncomputable def v_:Nat:=nat_lit 60
noncomputable def v?:Nat:=nat_lit 61
noncomputable def u_:Nat:=nat_lit 67
noncomputable def u?:Nat:=nat_lit 68
noncomputable def u':Nat:=nat_lit 69
noncomputable def t_:Nat:=nat_lit 70
noncomputable def t?:Nat:=nat_lit 76
noncomputable def s_:Nat:=nat_lit 77
noncomputable def s?:Nat:=nat_lit 78
noncomputable def r_:Nat:=nat_lit 79
noncomputable def r?:Nat:=nat_lit 85
noncomputable def q_:Nat:=nat_lit 86
noncomputable def q?:Nat:=nat_lit 87
noncomputable def p_:Nat:=nat_lit 88
noncomputable def p?:Nat:=nat_lit 94
noncomputable def o_:Nat:=nat_lit 95
noncomputable def Ç:Nat:=nat_lit 101
noncomputable def Æ:Nat:=nat_lit 102
noncomputable def Å:Nat:=nat_lit 108
noncomputable def Ä:Nat:=nat_lit 109
noncomputable def Ã:Nat:=nat_lit 115
noncomputable def Â:Nat:=nat_lit 116
noncomputable def Á:Nat:=nat_lit 122
noncomputable def À:Nat:=nat_lit 123
noncomputable def Θ:Nat:=nat_lit 129
noncomputable def Δ:Nat:=nat_lit 130
noncomputable def Ω:Nat:=nat_lit 134
noncomputable def Ψ:Nat:=nat_lit 135
noncomputable def Φ:Nat:=nat_lit 139
noncomputable def ι:Nat:=nat_lit 140
noncomputable def ε:Nat:=nat_lit 148
noncomputable def δ:Nat:=nat_lit 154
noncomputable def η:Nat:=nat_lit 155
noncomputable def ζ:Nat:=nat_lit 161
noncomputable def ω:Nat:=nat_lit 162
noncomputable def χ:Nat:=nat_lit 203
noncomputable def ξ:Nat:=nat_lit 209
noncomputable def ν:Nat:=nat_lit 210
noncomputable def κ:Nat:=nat_lit 214
noncomputable def θ:Nat:=nat_lit 215
noncomputable def ψ:Nat:=nat_lit 219
noncomputable def φ:Nat:=nat_lit 220
noncomputable def Z9:Nat:=nat_lit 252
noncomputable def Z8:Nat:=nat_lit 253
noncomputable def Z7:Nat:=nat_lit 262
noncomputable def Z6:Nat:=nat_lit 263
noncomputable def Z5:Nat:=nat_lit 273
noncomputable def Z4:Nat:=nat_lit 274
noncomputable def Z3:Nat:=nat_lit 280
noncomputable def Z1:Nat:=nat_lit 281
noncomputable def Z0:Nat:=nat_lit 285
noncomputable def ZZ:Nat:=nat_lit 286
noncomputable def ZY:Nat:=nat_lit 292
noncomputable def ZX:Nat:=nat_lit 293
noncomputable def ZW:Nat:=nat_lit 297
noncomputable def ZV:Nat:=nat_lit 298
noncomputable def ZU:Nat:=nat_lit 302
noncomputable def ZT:Nat:=nat_lit 303
noncomputable def ZS:Nat:=nat_lit 309
noncomputable def ZQ:Nat:=nat_lit 310
noncomputable def ZP:Nat:=nat_lit 314
noncomputable def ZO:Nat:=nat_lit 315
noncomputable abbrev h?(P:Pr):Frag:=
 (a2,{cls:=.none,data:=.dict #[dE P (q "\x69mport.loaded._sre") 183 (.bool true),dE P (q "class._frozen_importlib.BuiltinImporter") 185 (.ref 14),dE P (q "watched.\x69mport") 206 (.ref 18),dE P (q "class._frozen_importlib.ModuleSpec") 216 (.ref 22),dE P (q "sys.modules.booked-epoch") 245 (.int 3 0),dE P (q "\x69mport.later-laid._sre") 270 (.bool true),dE P (q "watched.library") 272 (.ref 27),dE P (q "watched.library-objects") 0 (.str (q "\x0c") 0),dE P (q "watched.library-deep._sre") 273 (.str (q "\x04\x00\x00\x0b\x04\x00\x00\x0b\x04\x00\x00\x03\x04\x00\x00\x0b\x08\x04dict\x02") 0)] 9})::
 (a3,{cls:=.type "dict",data:=.dict (iT (dE P (q "__name__") 165 (.str (q "law_ti0074_01") 683)::dE P (q "__doc__") 166 (.none)::dE P (q "__package__") 167 (.none)::dE P (q "__loader__") 168 (.builtin "__main__.__loader__#opaque")::dE P (q "__spec__") 169 (.none)::dE P (q "__annotations__") 170 (.ref 6)::dE P (q "__builtins__") 171 (.ref 4)::dE P (q "__file__") 173 (.str (q "/claim/cut.py") 172)::dE P (q "__cached__") 174 (.none)::dE P (q "_sre") 275 (.ref 12)::dE P (q "_wall") 288 (.ref 38)::dE P (q "_iter_escaped_chars") 300 (.ref 45)::dE P (q "_strip_quoted_realnames") 312 (.ref 52)::dE P (q "_check_parenthesis") 322 (.ref 59)::dE P (q "insort_right") 337 (.ref 68)::dE P (q "bisect_right") 351 (.ref 77)::dE P (q "insort_left") 364 (.ref 86)::dE P (q "bisect_left") 378 (.ref 95)::dE P (q "ONE_THIRD") 384 (.float 4599676419421066581 383)::dE P (q "ONE_SIXTH") 388 (.float 4595172819793696085 387)::dE P (q "TWO_THIRD") 392 (.float 4604180019048437077 391)::dE P (q "rgb_to_hls") 411 (.ref 102)::dE P (q "hls_to_rgb") 422 (.ref 109)::dE P (q "_v") 431 (.ref 116)::dE P (q "rgb_to_hsv") 449 (.ref 123)::dE P (q "hsv_to_rgb") 463 (.ref 130)::dE P (q "_name_disallowed_re") 491 (.ref 135)::dE P (q "_value_disallowed_re") 525 (.ref 140)::dE P (q "Headers") 682 (.ref 263)::dE P (q "_law_owner") 706 (.ref 274)::dE P (q "_law_nest") 717 (.ref 281)::dE P (q "_law_ends") 723 (.ref 286)::dE P (q "_law_marked") 735 (.ref 293)::dE P (q "_law_rule") 741 (.ref 298)::dE P (q "_law_worth") 747 (.ref 303)::dE P (q "_law_refused") 758 (.ref 310)::dE P (q "law") 764 (.ref 315)::[])) 37})::
 (y_,cO (q "_iter_escaped_chars") (q "_iter_escaped_chars") 291 292 293 6 1 0 35 (.ref 39) (.ref 40) (.ref 41) (.ref 42) (.ref 43) 298 299)::
 (y?,fO (q "_iter_escaped_chars") (q "_iter_escaped_chars") (fA (mS 3)) (fB (mS 3)) (fS (mS 3)) (.none) (.none) (q "cpy313.email.utils") 289 44)::
 (x_,cO (q "_strip_quoted_realnames") (q "_strip_quoted_realnames") 301 302 303 19 1 0 3 (.ref 46) (.ref 47) (.ref 48) (.ref 49) (.ref 50) 310 311)::
 (x?,fO (q "_strip_quoted_realnames") (q "_strip_quoted_realnames") (fA (mS 4)) (fB (mS 4)) (fS (mS 4)) (.none) (.none) (q "cpy313.email.utils") 289 51)::
 (w_,cO (q "_check_parenthesis") (q "_check_parenthesis") 313 314 315 37 1 0 3 (.ref 53) (.ref 54) (.ref 55) (.ref 56) (.ref 57) 320 321)::
 (w?,fO (q "_check_parenthesis") (q "_check_parenthesis") (fA (mS 5)) (fB (mS 5)) (fS (mS 5)) (.none) (.none) (q "cpy313.email.utils") 289 58)::
 (v_,{cls:=.type "tuple",data:=.seq #[.int 0 325,.none]})::
 (v?,{cls:=.type "dict",data:=.dict #[dE P (q "key") 326 (.none)] 1})::
 (u_,cO (q "insort_right") (q "insort_right") 327 328 329 49 4 1 3 (.ref 62) (.ref 63) (.ref 64) (.ref 65) (.ref 66) 335 336)::
 (u?,fO (q "insort_right") (q "insort_right") (fA (mS 7)) (fB (mS 7)) (fS (mS 7)) (.ref 60) (.ref 61) (q "cpy313.bisect") 323 67)::
 (u',{cls:=.type "tuple",data:=.seq #[.int 0 338,.none]})::
 (t_,{cls:=.type "dict",data:=.dict #[dE P (q "key") 339 (.none)] 1})::
 (t?,cO (q "bisect_right") (q "bisect_right") 340 341 342 55 4 1 3 (.ref 71) (.ref 72) (.ref 73) (.ref 74) (.ref 75) 349 350)::
 (s_,fO (q "bisect_right") (q "bisect_right") (fA (mS 8)) (fB (mS 8)) (fS (mS 8)) (.ref 69) (.ref 70) (q "cpy313.bisect") 323 76)::
 (s?,{cls:=.type "tuple",data:=.seq #[.int 0 352,.none]})::
 (r_,{cls:=.type "dict",data:=.dict #[dE P (q "key") 353 (.none)] 1})::
 (r?,cO (q "insort_left") (q "insort_left") 354 355 356 75 4 1 3 (.ref 80) (.ref 81) (.ref 82) (.ref 83) (.ref 84) 362 363)::
 (q_,fO (q "insort_left") (q "insort_left") (fA (mS 9)) (fB (mS 9)) (fS (mS 9)) (.ref 78) (.ref 79) (q "cpy313.bisect") 323 85)::
 (q?,{cls:=.type "tuple",data:=.seq #[.int 0 365,.none]})::
 (p_,{cls:=.type "dict",data:=.dict #[dE P (q "key") 366 (.none)] 1})::
 (p?,cO (q "bisect_left") (q "bisect_left") 367 368 369 81 4 1 3 (.ref 89) (.ref 90) (.ref 91) (.ref 92) (.ref 93) 376 377)::
 (o_,fO (q "bisect_left") (q "bisect_left") (fA (mS 10)) (fB (mS 10)) (fS (mS 10)) (.ref 87) (.ref 88) (q "cpy313.bisect") 323 94)::
 (Ç,cO (q "rgb_to_hls") (q "rgb_to_hls") 393 394 395 105 3 0 3 (.ref 96) (.ref 97) (.ref 98) (.ref 99) (.ref 100) 409 410)::
 (Æ,fO (q "rgb_to_hls") (q "rgb_to_hls") (fA (mS 15)) (fB (mS 15)) (fS (mS 15)) (.none) (.none) (q "cpy313.colorsys") 379 101)::
 (Å,cO (q "hls_to_rgb") (q "hls_to_rgb") 412 413 414 128 3 0 3 (.ref 103) (.ref 104) (.ref 105) (.ref 106) (.ref 107) 420 421)::
 (Ä,fO (q "hls_to_rgb") (q "hls_to_rgb") (fA (mS 16)) (fB (mS 16)) (fS (mS 16)) (.none) (.none) (q "cpy313.colorsys") 379 108)::
 (Ã,cO (q "_v") (q "_v") 423 424 425 137 3 0 3 (.ref 110) (.ref 111) (.ref 112) (.ref 113) (.ref 114) 429 430)::
 (Â,fO (q "_v") (q "_v") (fA (mS 17)) (fB (mS 17)) (fS (mS 17)) (.none) (.none) (q "cpy313.colorsys") 379 115)::
 (Á,cO (q "rgb_to_hsv") (q "rgb_to_hsv") 432 433 434 146 3 0 3 (.ref 117) (.ref 118) (.ref 119) (.ref 120) (.ref 121) 447 448)::
 (À,fO (q "rgb_to_hsv") (q "rgb_to_hsv") (fA (mS 18)) (fB (mS 18)) (fS (mS 18)) (.none) (.none) (q "cpy313.colorsys") 379 122)::
 (Θ,cO (q "hsv_to_rgb") (q "hsv_to_rgb") 450 451 452 165 3 0 3 (.ref 124) (.ref 125) (.ref 126) (.ref 127) (.ref 128) 461 462)::
 (Δ,fO (q "hsv_to_rgb") (q "hsv_to_rgb") (fA (mS 19)) (fB (mS 19)) (fS (mS 19)) (.none) (.none) (q "cpy313.colorsys") 379 129)::
 (Ω,{cls:=.type "tuple",data:=.seq #[.int 14 0,.int 10 0,.int 4 0,.int 1 0,.int 1 0,.int 22 0,.int 0 0,.int 31 0,.int 16 0,.int 127 0,.int 0 0,.int 13 0,.int 7 0,.int 22 0,.int 0 0,.int 31 0,.int 16 0,.int 127 0,.int 0 0,.int 1 0]})::
 (Ψ,{cls:=.type "re.Pattern",data:=.fields #[.str (q "[\\x00-\\x1F\\x7F]") 467,.int 32 490,.int 0 0,.none,.none,.ref 134,.int 0 0]})::
 (Φ,{cls:=.type "tuple",data:=.seq #[.int 14 0,.int 14 0,.int 4 0,.int 1 0,.int 1 0,.int 9 0,.int 4294966783 0,.int 0 0,.int 0 0,.int 2147483648 0,.int 0 0,.int 0 0,.int 0 0,.int 0 0,.int 0 0,.int 13 0,.int 11 0,.int 9 0,.int 4294966783 0,.int 0 0,.int 0 0,.int 2147483648 0,.int 0 0,.int 0 0,.int 0 0,.int 0 0,.int 0 0,.int 1 0]})::
 (ι,{cls:=.type "re.Pattern",data:=.fields #[.str (q "[\\x00-\\x08\\x0A-\\x1F\\x7F]") 493,.int 32 524,.int 0 0,.none,.none,.ref 139,.int 0 0]})::
 (ε,{cls:=.type "tuple",data:=.seq #[.none]})::
 (δ,cO (q "__init__") (q "Headers.__init__") 538 539 540 191 2 0 3 (.ref 149) (.ref 150) (.ref 151) (.ref 152) (.ref 153) 545 546)::
 (η,fO (q "__init__") (q "Headers.__init__") (fA (cS 0)) (fB (cS 0)) (fS (cS 0)) (.ref 148) (.none) (q "cpy313.wsgiref.headers") 464 154)::
 (ζ,cO (q "_convert_string_type") (q "Headers._convert_string_type") 548 549 550 201 2 1 3 (.ref 156) (.ref 157) (.ref 158) (.ref 159) (.ref 160) 555 556)::
 (ω,fO (q "_convert_string_type") (q "Headers._convert_string_type") (fA (cS 1)) (fB (cS 1)) (fS (cS 1)) (.none) (.none) (q "cpy313.wsgiref.headers") 464 161)::
 (χ,{cls:=.type "tuple",data:=.seq #[.none]})::
 (ξ,cO (q "get") (q "Headers.get") 604 605 606 229 3 0 3 (.ref 204) (.ref 205) (.ref 206) (.ref 207) (.ref 208) 612 613)::
 (ν,fO (q "get") (q "Headers.get") (fA (cS 8)) (fB (cS 8)) (fS (cS 8)) (.ref 203) (.none) (q "cpy313.wsgiref.headers") 464 209)::
 (κ,cO (q "keys") (q "Headers.keys") 615 616 617 236 1 0 3 (.ref 211) (.ref 212) (.none) (.none) (.ref 213) 618 619)::
 (θ,fO (q "keys") (q "Headers.keys") (fA (cS 9)) (fB (cS 9)) (fS (cS 9)) (.none) (.none) (q "cpy313.wsgiref.headers") 464 214)::
 (ψ,cO (q "values") (q "Headers.values") 621 622 623 239 1 0 3 (.ref 216) (.ref 217) (.none) (.none) (.ref 218) 624 625)::
 (φ,fO (q "values") (q "Headers.values") (fA (cS 10)) (fB (cS 10)) (fS (cS 10)) (.none) (.none) (q "cpy313.wsgiref.headers") 464 219)::
 (Z9,cO (q "setdefault") (q "Headers.setdefault") 654 655 656 254 3 0 3 (.ref 247) (.ref 248) (.ref 249) (.ref 250) (.ref 251) 661 662)::
 (Z8,fO (q "setdefault") (q "Headers.setdefault") (fA (cS 15)) (fB (cS 15)) (fS (cS 15)) (.none) (.none) (q "cpy313.wsgiref.headers") 464 252)::
 (Z7,{cls:=.type "dict",data:=.dict #[dE P (q "__module__") 533 (.str (q "cpy313.wsgiref.headers") 464),dE P (q "__firstlineno__") 537 (.int 189 536),dE P (q "__init__") 547 (.ref 155),dE P (q "_convert_string_type") 557 (.ref 162),dE P (q "__len__") 564 (.ref 169),dE P (q "__setitem__") 573 (.ref 176),dE P (q "__delitem__") 579 (.ref 181),dE P (q "__getitem__") 587 (.ref 188),dE P (q "__contains__") 595 (.ref 195),dE P (q "get_all") 603 (.ref 202),dE P (q "get") 614 (.ref 210),dE P (q "keys") 620 (.ref 215),dE P (q "values") 626 (.ref 220),dE P (q "items") 633 (.ref 227),dE P (q "__repr__") 640 (.ref 234),dE P (q "__str__") 646 (.ref 239),dE P (q "__bytes__") 653 (.ref 246),dE P (q "setdefault") 663 (.ref 253),dE P (q "add_header") 673 (.ref 260),dE P (q "__static_attributes__") 675 (.ref 261),dE P (q "__dict__") 677 (.ref 264),dE P (q "__weakref__") 679 (.ref 265),dE P (q "__doc__") 680 (.none)] 4})::
 (Z6,{cls:=.type "type",data:=.cls {name:=q "Headers",bases:=[.type "object"],mro:=[.ref 263,.type "object"],ns:=262,qualname:=q "Headers"},slots:=#[none,none,some (.str (q "Headers") 526),some (.str (q "Headers") 534),some (.builtin "object.__new__"),some (.bool true)]})::
 (Z5,cO (q "_law_owner") (q "_law_owner") 685 686 687 265 2 0 3 (.ref 268) (.ref 269) (.ref 270) (.ref 271) (.ref 272) 704 705)::
 (Z4,fO (q "_law_owner") (q "_law_owner") (fA (mS 25)) (fB (mS 25)) (fS (mS 25)) (.none) (.none) (q "law_ti0074_01") 683 273)::
 (Z3,cO (q "_law_nest") (q "_law_nest") 707 708 709 279 3 0 3 (.ref 275) (.ref 276) (.ref 277) (.ref 278) (.ref 279) 715 716)::
 (Z1,fO (q "_law_nest") (q "_law_nest") (fA (mS 26)) (fB (mS 26)) (fS (mS 26)) (.none) (.none) (q "law_ti0074_01") 683 280)::
 (Z0,cO (q "_law_ends") (q "_law_ends") 718 719 720 285 1 0 3 (.ref 282) (.ref 283) (.none) (.none) (.ref 284) 721 722)::
 (ZZ,fO (q "_law_ends") (q "_law_ends") (fA (mS 27)) (fB (mS 27)) (fS (mS 27)) (.none) (.none) (q "law_ti0074_01") 683 285)::
 (ZY,cO (q "_law_marked") (q "_law_marked") 724 725 726 293 5 0 3 (.ref 287) (.ref 288) (.ref 289) (.ref 290) (.ref 291) 733 734)::
 (ZX,fO (q "_law_marked") (q "_law_marked") (fA (mS 28)) (fB (mS 28)) (fS (mS 28)) (.none) (.none) (q "law_ti0074_01") 683 292)::
 (ZW,cO (q "_law_rule") (q "_law_rule") 736 737 738 298 2 0 3 (.ref 294) (.ref 295) (.none) (.none) (.ref 296) 739 740)::
 (ZV,fO (q "_law_rule") (q "_law_rule") (fA (mS 29)) (fB (mS 29)) (fS (mS 29)) (.none) (.none) (q "law_ti0074_01") 683 297)::
 (ZU,cO (q "_law_worth") (q "_law_worth") 742 743 744 312 5 0 3 (.ref 299) (.ref 300) (.none) (.none) (.ref 301) 745 746)::
 (ZT,fO (q "_law_worth") (q "_law_worth") (fA (mS 30)) (fB (mS 30)) (fS (mS 30)) (.none) (.none) (q "law_ti0074_01") 683 302)::
 (ZS,cO (q "_law_refused") (q "_law_refused") 748 749 750 327 1 0 3 (.ref 304) (.ref 305) (.ref 306) (.ref 307) (.ref 308) 756 757)::
 (ZQ,fO (q "_law_refused") (q "_law_refused") (fA (mS 31)) (fB (mS 31)) (fS (mS 31)) (.none) (.none) (q "law_ti0074_01") 683 309)::
 (ZP,cO (q "law") (q "law") 759 760 761 339 1 0 3 (.ref 311) (.ref 312) (.none) (.none) (.ref 313) 762 763)::
 (ZO,fO (q "law") (q "law") (fA (mS 32)) (fB (mS 32)) (fS (mS 32)) (.none) (.none) (q "law_ti0074_01") 683 314)::[]
inductive Ê{α:Type}(a:α):α->Prop|mk:Ê a a
noncomputable def hp:Pr->Frag:=by
 refine(?f:(v:Pr->Frag)->Ê h? v->(Pr->Frag)) ?v ?h
 case f=>exact λv _=>v
 case h=>
  delta h? fO cO dE q
  repeat (conv=>pattern (fA _);whnf)
  repeat (conv=>pattern (fB _);whnf)
  repeat (conv=>pattern (fS _);whnf)
  conv=>zeta
  delta PySem.Addr PySem.Tok a2 a3 y_ y? x_ x? w_ w? v_ v? u_ u? u' t_ t? s_ s? r_ r? q_ q? p_ p? o_ Ç Æ Å Ä Ã Â Á À Θ Δ Ω Ψ Φ ι ε δ η ζ ω χ ξ ν κ θ ψ φ Z9 Z8 Z7 Z6 Z5 Z4 Z3 Z1 Z0 ZZ ZY ZX ZW ZV ZU ZT ZS ZQ ZP ZO
  exact .mk
end Mine
end
section
set_option maxRecDepth 1000000
set_option maxHeartbeats 0
set_option backward.match.sparseCases true
set_option tactic.hygienic true
namespace Mine
noncomputable def vw:eC:={aS with main:={aS.main with body:=[0,1,2,3,4,5,6,11,15,16,17,18,19,20,23,24,25,26,27,28,29,30,31,32].map mS}}
noncomputable abbrev lo:List ax:=[aa "insort_right",aa "bisect_right",aa "insort_left",aa "bisect_left",aa "ONE_THIRD",aa "ONE_SIXTH",aa "TWO_THIRD",aa "_name_disallowed_re",aa "_value_disallowed_re"]
noncomputable abbrev lv:List (ax×WData):=[(aa "ONE_THIRD",AP 4599676419421066581),(aa "ONE_SIXTH",AP 4595172819793696085),(aa "TWO_THIRD",AP 4604180019048437077)]
noncomputable abbrev U':List Nat:=[2,3,44,45,51,52,58,59,60,61,67,68,69,70,76,77,78,79,85,86,87,88,94,95,101,102,108,109,115,116,122,123,129,130,134,135,139,140,148,154,155,161,162,203,209,210,214,215,219,220,252,253,262,263,273,274,280,281,285,286,292,293,297,298,302,303,309,310,314,315]
noncomputable abbrev BO:Hook:=kmHook hp U' (λz=>by kernel_rfl) [305,300]
theorem Č:dd.wellSaid=true:=(congrFun PySem.W.Fast.te9446332074065402090 _).trans (by kernel_rfl)
theorem left:LeftO dd.row.prog vw lo (λs=>xlAt vw lv s&&recOk dd.row.records s) BO.obs BO.val 3490:=λw=>by
 unfold openEnds fencedOpening topFrom;rw[PySem.W.Fast.te14364793385576792824,PySem.W.Fast.te4187177175401517315,PySem.W.Fast.te10274390034422433532,PySem.W.Fast.te14289696077712309145,PySem.W.Fast.te14082659384304107361]
 kernel_rfl
end Mine
end
namespace Mine
variable{n j k:Nat}{a L:aI}{b c:Array bR}{vs:List ar}{pT:eC}{lT:List ax}{gd:Option (List FH)}{cl:List (ax×aI)}{outer:List qk}{h₀:fk}
section
set_option backward.match.sparseCases true
abbrev gO:=List (aI×dU)
noncomputable abbrev loose:List ax:=[aa "insort_right",aa "bisect_right",aa "insort_left",aa "bisect_left",aa "ONE_THIRD",aa "ONE_SIXTH",aa "TWO_THIRD",aa "_name_disallowed_re",aa "_value_disallowed_re"]
theorem Qu(h:j<n):∃k,n - j=k+1:=⟨n - j - 1,(Nat.sub_add_cancel (Nat.sub_pos_of_lt h)).symm⟩
theorem Tq(h:n - j=k+1):n - 1 - (k+1 - 1)=j:=by
 have e:n=j+(k+1):=(Nat.sub_eq_iff_eq_add' (b0 (Nat.lt_of_sub_pos (by rw[h];exact jM k)))).mp h;subst e;show j+k - k=j;exact rO ..
theorem HT(h:n - j=k+1):n - (j+1)=k:=(Nat.sub_succ n j).trans (congrArg Nat.pred h)
structure bT(g g':Array bR):Prop where
 size:g.size<=g'.size
 old:∀i,i<g.size->g'[i]? =g[i]?
 bare:AllBare g->AllBare g'
theorem bT.refl(g:Array bR):bT g g:=⟨bF _,λz z=>rfl,id⟩
theorem bT.trans{a:Array bR}(x:bT a b)(y:bT b c):bT a c:=
 ⟨aq x.size y.size,λi h=>(y.old i (bx h x.size)).trans (x.old i h),λh=>y.bare (x.bare h)⟩
abbrev Ì(h₀:fk)(L:aI)(m:ax->Option ar)(s:aC)(Q:ar->aC->Prop)(G:Array bR->Array bR->Prop)(post:ar->gO->Prop):Prop:=
 ∀(v:ar)(news':gO)(h':fk)(g':Array bR)(tk':Nat),Fr h₀ L h' m->dJ h₀ L h' news'->G s.gens g'->post v news'->Q v {s with heap:=h',gens:=g',toks:=tk'}
abbrev I5(w:gf)(mean:jj->Option ar)(mg mb:ax->Option ar)(aG:Nat)(G:Array bR->Array bR->Prop)(f:aI)(news:gO)(vs:List ar)(kw:List (ax×ar))(post:ar->gO->Prop):Prop:=
 ∀(pT:eC)(lT:List ax)(dp un:Nat)(gd:Option (List FH))(cn:ax)(cs:iS)(a:aI)(ccd:ar)(cl:List (ax×aI))(outer:List qk)(A₀:dR)(base h₀:fk)(L:aI)(m:ax->Option ar)(s:aC)(Q E:ar->aC->Prop),
  oW A₀ base outer h₀->Fr h₀ L s.heap m->(hp w.params).In h₀->dJ h₀ L s.heap news->JO pT lT mean mg mb h₀->cs.kind= .function->
  dp+aG<aP->un+8*aG<df->Ì h₀ L m s Q G post->
   aL (dc aS w) (AJ dp un gd cn cs L a ccd cl outer) (call (.ref f) vs kw) Q E s
theorem I5.use{w:gf}{mean:jj->Option ar}{mg mb:ax->Option ar}{aG:Nat}{G:Array bR->Array bR->Prop}{f:aI}{news:gO}{kw:List (ax×ar)}{post:ar->gO->Prop}(C:I5 w mean mg mb aG G f news vs kw post)
 {dp un:Nat}{cn:ax}{cs:iS}{ccd:ar}{A₀:dR}{base:fk}{m:ax->Option ar}{s:aC}{Q E:ar->aC->Prop}
  (B:oW A₀ base outer h₀)(F:Fr h₀ L s.heap m)(X:(hp w.params).In h₀)(N:dJ h₀ L s.heap news)(T:JO pT lT mean mg mb h₀)(hk:cs.kind= .function)
  (hd':dp+aG<aP)(hu:un+8*aG<df)(ret:Ì h₀ L m s Q G post):
  aL (dc aS w) (AJ dp un gd cn cs L a ccd cl outer) (call (.ref f) vs kw) Q E s:=C _ _ _ _ _ _ _ _ _ _ _ _ _ _ _ _ _ _ _ B F X N T hk hd' hu ret
noncomputable abbrev iy(vs:List ar):dU:={cls:=.type "tuple",data:=.seq vs.toArray 0}
end
variable{α:Type _}{C:Prop}{i:Nat}
section
set_option backward.match.sparseCases true
theorem aJ{a:α}(h:none=some a):C:=nomatch h
theorem yZ{a:α}(h:some a=none):C:=nomatch h
theorem bj(h:false=true):C:=nomatch h
theorem G5(h:true=false):C:=nomatch h
theorem mz{a:α}(h:([]:List α)[i]? =some a):C:=nomatch h
theorem eN{a:α}(h:a∈([]:List α)):C:=nomatch h
end
variable{v:ar}{l rest:gO}{o:dU}{objs:List dU}{mm:ax->Option ar}{D d:aI}
variable{w:gf}
variable{mean:jj->Option ar}{mg:ax->Option ar}{mb:ax->Option ar}
variable{ρ:List aI}{s:aC}
section
inductive AV where
 |int(i:Int)|str(x:ax)|flt(f:UInt64)|none|bool(b:Bool)|ref(i:Nat)|val(v:ar)
inductive AO where
 |lst(xs:List AV)|tup(xs:List AV)|cell(v:Option AV)|dct(kvs:List (ax×AV))|rng(a b:Int)|pin(x:AO)(o:dU)|raw(o:dU)|inst(d:Nat)|attr(l:Nat)
 |lam(e:al)(ql:ax)(cl:List (ax×Nat))(c:Nat)|code(ql:ax)|tab(P:aI)(l:List (Nat×Nat×Nat))
abbrev Nm:=List (ax×AV)
abbrev Hp:=List AO
noncomputable abbrev Kj(w:gf)(tk:lP)(ld:aI):dU:=pE [{hash:=vg w.params (aa "_headers"),key:=.str (aa "_headers") tk,val:=.ref ld}] 1
inductive db(ρ:List aI):AV->ar->Prop
 |int(i:Int)(t:lP):db ρ (.int i) (.int i t)
 |str(x:ax)(t:lP):db ρ (.str x) (.str x t)
 |flt(f:UInt64)(t:lP):db ρ (.flt f) (.float f t)
 |none:db ρ .none .none
 |bool(b:Bool):db ρ (.bool b) (.bool b)
 |ref(i:Nat)(a:aI)(h:ρ[i]? =some a):db ρ (.ref i) (.ref a)
 |val(v:ar):db ρ (.val v) v
inductive bB(ρ:List aI):List AV->List ar->Prop
 |nil:bB ρ [] []
 |cons{a:AV}{v:ar}{as:List AV}{vs:List ar}(h:db ρ a v)(r:bB ρ as vs):bB ρ (a::as) (v::vs)
inductive cW(ρ:List aI):List (ax×AV)->List (ax×ar)->Prop
 |nil:cW ρ [] []
 |cons{x:ax}{a:AV}{v:ar}{as:List (ax×AV)}{vs:List (ax×ar)}(h:db ρ a v)(r:cW ρ as vs):cW ρ ((x,a)::as) ((x,v)::vs)
inductive lE(ρ:List aI):List (Nat×Nat×Nat)->List ar->Prop
 |nil:lE ρ [] []
 |cons{a b c:Nat}{c':aI}{l:List (Nat×Nat×Nat)}{vs:List ar}(h:ρ[c]? =some c')(r:lE ρ l vs):lE ρ ((a,b,c)::l) (fy a::fy b:: .ref c'::vs)
def Ů(ρ:List aI)(cl:List (ax×Nat))(clos:List (ax×aI)):Prop:=∀x j,cl.lookup x=some j->∃c,clos.lookup x=some c∧ρ[j]? =some c
inductive de(w:gf)(ρ:List aI):AO->dU->Prop
 |lst{xs:List AV}{vs:List ar}(k:Nat)(h:bB ρ xs vs):de w ρ (.lst xs) (jZ vs.toArray k)
 |tup{xs:List AV}{vs:List ar}(h:bB ρ xs vs):de w ρ (.tup xs) (iy vs)
 |cell{a:AV}{v:ar}{o:dU}(h:db ρ a v)(e:o.data= .cell (some v)):de w ρ (.cell (some a)) o
 |cell0{o:dU}{v:Option ar}(e:o.data= .cell v):de w ρ (.cell As) o
 |dct{kvs:List (ax×AV)}{vs:List (ax×ar)}{o:dU}(hd:o.IsDictOf (strKind aS w) vs)(h:cW ρ kvs vs):de w ρ (.dct kvs) o
 |rng(a b:Int)(t u v:lP):de w ρ (.rng a b) {cls:=.type "range",dict:=As,data:=.fields #[.int a t,.int b u,.int 1 v],slots:=#[]}
 |pin{x:AO}{o:dU}(h:de w ρ x o):de w ρ (.pin x o) o
 |raw(o:dU):de w ρ (.raw o) o
 |inst{d:Nat}{a:aI}(h:ρ[d]? =some a):de w ρ (.inst d) (instObj 263 a)
 |attr{l:Nat}{a:aI}(t:lP)(h:ρ[l]? =some a):de w ρ (.attr l) (Kj w t a)
 |lam{ps:jl}{body:al}{sc:iS}{pos:kF}{ql:ax}{cl:List (ax×Nat)}{c:Nat}{clos:List (ax×aI)}{pm:ar}{c':aI}{ctv:ar}(h:Ů ρ cl clos)(hc:ρ[c]? =some c'):de w ρ (.lam (.Lambda ps body sc pos) ql cl c) (kla_obj "<lambda>" ql ps body sc clos pm c' ctv)
 |code{ql:ax}{o:dU}{vs:Array ar}{t:lP}(hd:o.data= .fields vs)(hv:vs[1]? =some (.str ql t)):de w ρ (.code ql) o
 |tab{P:aI}{l:List (Nat×Nat×Nat)}{vs:List ar}(h:lE ρ l vs):de w ρ (.tab P l) (iD vs.toArray)
inductive eY(w:gf)(ρ:List aI):List AO->List dU->Prop
 |nil:eY w ρ [] []
 |cons{a:AO}{v:dU}{as:List AO}{vs:List dU}(h:de w ρ a v)(r:eY w ρ as vs):eY w ρ (a::as) (v::vs)
def dg(ρ ρ':List aI):Prop:=∃τ,ρ'=ρ++τ
theorem dg.refl(ρ:List aI):dg ρ ρ:=⟨[],(be _).symm⟩
theorem dg.trans{a b c:List aI}:dg a b->dg b c->dg a c
 |⟨t,e⟩,⟨u,f⟩=>⟨t++u,f.trans ((congrArg (·++u) e).trans (aA ..))⟩
theorem dg.one(ρ:List aI)(a:aI):dg ρ (ρ++[a]):=⟨[a],rfl⟩
theorem ba{α:Type}{ρ τ:List α}{a:α}(h:ρ[i]? =some a):(ρ++τ)[i]? =some a:=(d7 (aH.mp h).1).trans h
theorem bA{α:Type}{H:List α}{o:α}:(H++[o])[H.length]? =some o:=(bp (bF _)).trans (congrArg (([o]:List α)[·]?) (fW _))
theorem dg.get{ρ ρ':List aI}:dg ρ ρ'->∀{i:Nat}{a:aI},ρ[i]? =some a->ρ'[i]? =some a
 |⟨_,e⟩,_,_,h=>e▸ba h
theorem db.mono{ρ ρ':List aI}(x:dg ρ ρ'){a:AV}(h:db ρ a v):db ρ' a v:=by
 induction h with
 |ref i a h=>exact .ref i a (x.get h)
 |int=>exact .int ..
 |str=>exact .str ..
 |flt=>exact .flt ..
 |none=>exact .none
 |bool=>exact .bool _
 |val=>exact .val _
theorem bB.mono{ρ ρ':List aI}(x:dg ρ ρ'){as:List AV}(h:bB ρ as vs):bB ρ' as vs:=by
 induction h with
 |nil=>exact .nil
 |cons h _ ih=>exact .cons (h.mono x) ih
theorem cW.mono{ρ ρ':List aI}(x:dg ρ ρ'){as:List (ax×AV)}{vs:List (ax×ar)}(h:cW ρ as vs):cW ρ' as vs:=by
 induction h with
 |nil=>exact .nil
 |cons h _ ih=>exact .cons (h.mono x) ih
theorem cW.keys{ρ:List aI}{as:List (ax×AV)}{vs:List (ax×ar)}(h:cW ρ as vs):vs.map (·.1)=as.map (·.1):=by
 induction h with
 |nil=>rfl
 |cons _ _ ih=>exact congrArg _ ih
theorem cW.len{ρ:List aI}{as:List (ax×AV)}{vs:List (ax×ar)}(h:cW ρ as vs):vs.length=as.length:=by
 induction h with
 |nil=>rfl
 |cons _ _ ih=>exact congrArg eJ ih
theorem lE.mono{ρ ρ':List aI}(x:dg ρ ρ'){l:List (Nat×Nat×Nat)}(h:lE ρ l vs):lE ρ' l vs:=by
 induction h with
 |nil=>exact .nil
 |cons h _ ih=>exact .cons (x.get h) ih
theorem de.mono{ρ ρ':List aI}(x:dg ρ ρ'){a:AO}(h:de w ρ a o):de w ρ' a o:=by
 induction h with
 |lst k h=>exact .lst k (h.mono x)
 |tup h=>exact .tup (h.mono x)
 |cell h e=>exact .cell (h.mono x) e
 |cell0 e=>exact .cell0 e
 |dct hd h=>exact .dct hd (h.mono x)
 |rng=>exact .rng ..
 |pin _ ih=>exact .pin ih
 |raw=>exact .raw _
 |inst h=>exact .inst (x.get h)
 |attr t h=>exact .attr t (x.get h)
 |lam h hc=>exact .lam (λy j e=>(h y j e).imp λc q=>⟨q.1,x.get q.2⟩) (x.get hc)
 |code hd hv=>exact .code hd hv
 |tab h=>exact .tab (h.mono x)
theorem eY.mono{ρ ρ':List aI}(x:dg ρ ρ'){as:List AO}{vs:List dU}(h:eY w ρ as vs):eY w ρ' as vs:=by
 induction h with
 |nil=>exact .nil
 |cons h _ ih=>exact .cons (h.mono x) ih
theorem bB.len{ρ:List aI}{as:List AV}(h:bB ρ as vs):vs.length=as.length:=by
 induction h with
 |nil=>rfl
 |cons _ _ ih=>exact congrArg eJ ih
theorem eY.len{ρ:List aI}{as:List AO}{vs:List dU}(h:eY w ρ as vs):vs.length=as.length:=by
 induction h with
 |nil=>rfl
 |cons _ _ ih=>exact congrArg eJ ih
theorem bB.at{ρ:List aI}{as:List AV}(h:bB ρ as vs):∀{i:Nat}{a:AV}{C:Prop},as[i]? =some a->(∀v,vs[i]? =some v->db ρ a v->C)->C:=by
 induction h with
 |nil=>exact λe z=>mz e
 |cons h _ ih=>
  intro i;cases i with
  |zero=>exact λe k=>k _ rfl (aj e▸h)
  |succ i=>exact λe k=>ih e k
theorem eY.at{ρ:List aI}{as:List AO}{vs:List dU}(h:eY w ρ as vs):∀{i:Nat}{a:AO}{C:Prop},as[i]? =some a->(∀v,vs[i]? =some v->de w ρ a v->C)->C:=by
 induction h with
 |nil=>exact λe z=>mz e
 |cons h _ ih=>
  intro i;cases i with
  |zero=>exact λe k=>k _ rfl (aj e▸h)
  |succ i=>exact λe k=>ih e k
theorem bB.app{ρ:List aI}{as bs:List AV}{ws:List ar}(h:bB ρ as vs)(k:bB ρ bs ws):bB ρ (as++bs) (vs++ws):=by
 induction h with
 |nil=>exact k
 |cons h _ ih=>exact .cons h ih
theorem eY.app{ρ:List aI}{as bs:List AO}{vs ws:List dU}(h:eY w ρ as vs)(k:eY w ρ bs ws):eY w ρ (as++bs) (vs++ws):=by
 induction h with
 |nil=>exact k
 |cons h _ ih=>exact .cons h ih
theorem eY.set{ρ:List aI}{as:List AO}{vs:List dU}(h:eY w ρ as vs){a:AO}(k:de w ρ a o):∀i,eY w ρ (as.set i a) (vs.set i o):=by
 induction h with
 |nil=>exact λz=>.nil
 |cons h r ih=>
  intro i;cases i with
  |zero=>exact .cons k r
  |succ i=>exact .cons h (ih i)
theorem eY.re{ρ:List aI}{as:List AO}{vs:List dU}(h:eY w ρ as vs){y:AO}(k:de w ρ y o):∀{i:Nat},vs[i]? =some o->eY w ρ (as.set i y) vs:=by
 induction h with
 |nil=>exact λe=>mz e
 |cons h r ih=>
  intro i;cases i with
  |zero=>exact λe=>.cons (aj e▸k) r
  |succ i=>exact λe=>.cons h (ih e)
theorem dK{ρ:List aI}(h:ρ[i]? =some a)(k:objs[i]? =some o):(a,o)∈ρ.zip objs:=by
 induction ρ generalizing objs i with
 |nil=>exact mz h
 |cons b ρ ih=>
  cases objs with
  |nil=>exact mz k
  |cons p objs=>
   cases i with
   |zero=>exact aj h▸aj k▸ah
   |succ i=>exact af _ (ih h k)
structure Wk(w:gf)(mean:jj->Option ar)(mg mb:ax->Option ar) where
 pT:eC
 lT:List ax
 dp:Nat
 un:Nat
 gd:Option (List FH)
 cn:ax
 cs:iS
 L:aI
 a:aI
 ccd:ar
 cl:List (ax×aI)
 outer:List qk
 A₀:dR
 base:fk
 h₀:fk
 s₀:aC
 B:oW A₀ base outer h₀
 X:(hp w.params).In h₀
 T:JO pT lT mean mg mb h₀
 hk:cs.kind= .function
 rm:dp<aP
 ru:un+8<df
structure mh where
 rest:gO
 gb:Array bR
noncomputable abbrev cJ(w:gf):E6:=dc aS w
noncomputable def Wk.A(Γ:Wk w mean mg mb):dR:=AJ Γ.dp Γ.un Γ.gd Γ.cn Γ.cs Γ.L Γ.a Γ.ccd Γ.cl Γ.outer
noncomputable def Wk.env(Γ:Wk w mean mg mb):qk:=envX Γ.cn Γ.cs Γ.L Γ.a Γ.ccd Γ.cl
def okA(x:AO)(b:aI):Prop:=match x with
 |.dct _=>(b==mW)=false
 |.pin x _=>okA x b
 |.tab P _=>b=P
 |_=>True
structure AD(ρ:List aI)(rest:gO)(H:Hp):Prop where
 ln:ρ.length=H.length
 each:∀(j:Nat)(b:aI),ρ[j]? =some b->∀i:Nat,ρ[i]? =some b->i=j
 off:∀(j:Nat)(b:aI),ρ[j]? =some b->∀p∈rest,p.1≠b
 lo:∀(j:Nat)(b:aI)(x:AO),ρ[j]? =some b->H[j]? =some x->okA x b
def mo(ρ:List aI)(m:Nm)(mm:ax->Option ar):Prop:=∀x a,m.lookup x=some a->∃v,mm x=some v∧db ρ a v
inductive ŭ(Γ:Wk w mean mg mb)(ρ:List aI)(rest:gO)(m:Nm)(H:Hp)(h:fk):Prop
 |mk(mm:ax->Option ar)(objs:List dU)(F:Fr Γ.h₀ Γ.L h mm)(q:mo ρ m mm)(ro:eY w ρ H objs)(N:dJ Γ.h₀ Γ.L h (ρ.zip objs++rest)):ŭ Γ ρ rest m H h
structure bM(Γ:Wk w mean mg mb)(ρ:List aI)(P:mh)(m:Nm)(H:Hp)(s:aC):Prop where
 dy:ŭ Γ ρ P.rest m H s.heap
 ly:AD ρ P.rest H
 g:bT P.gb s.gens
 d:s.drawn=Γ.s₀.drawn
 o:s.os=Γ.s₀.os
variable{Γ:Wk w mean mg mb}{P:mh}{m:Nm}{H:Hp}
theorem mo.mono{ρ ρ':List aI}(q:mo ρ m mm)(x:dg ρ ρ'):mo ρ' m mm:=λy a e=>(q y a e).imp λz p=>⟨p.1,p.2.mono x⟩
theorem bM.tk(R:bM Γ ρ P m H s)(n:Nat):bM Γ ρ P m H {s with toks:=n}:=⟨R.dy,R.ly,R.g,R.d,R.o⟩
theorem bM.re(R:bM Γ ρ P m H s){m':Nm}{h':fk}(D:ŭ Γ ρ P.rest m' H h')(n:Nat):bM Γ ρ P m' H {s with heap:=h',toks:=n}:=⟨D,R.ly,R.g,R.d,R.o⟩
theorem bM.run(R:bM Γ ρ P m H s)(k:∀mm l,Fr Γ.h₀ Γ.L s.heap mm->dJ Γ.h₀ Γ.L s.heap l->(∀h' n,Fr Γ.h₀ Γ.L h' mm->dJ Γ.h₀ Γ.L h' l->bM Γ ρ P m H {s with heap:=h',toks:=n})->C):C:=by
 obtain⟨mm,objs,F,q,ro,N⟩:=R.dy;exact k mm _ F N λh' n F' N'=>R.re ⟨mm,objs,F',q,ro,N'⟩ n
theorem bM.name(R:bM Γ ρ P m H s){x:ax}{a:AV}(h:m.lookup x=some a)(k:∀mm v,Fr Γ.h₀ Γ.L s.heap mm->mm x=some v->db ρ a v->C):C:=by
 obtain⟨mm,objs,F,q,ro,N⟩:=R.dy;obtain⟨v,e,r⟩:=q x a h;exact k mm v F e r
theorem bM.obj(R:bM Γ ρ P m H s){o:AO}(h:ρ[i]? =some a)(e:H[i]? =some o)(k:∀ob,de w ρ o ob->s.heap.get? a=some ob->C):C:=by
 obtain⟨mm,objs,F,q,ro,N⟩:=R.dy;exact ro.at e λob e2 r=>k ob r (N _ (av _ (dK h e2))).1
theorem gp{ρ:List aI}{b:aI}(h:(ρ++[a])[i]? =some b)(k1:ρ[i]? =some b->C)(k2:i=ρ.length->b=a->C):C:=by
 rcases Nat.lt_or_ge i ρ.length with q|q
 ·exact k1 ((d7 q).symm.trans h)
 ·rw[bp q]at h
  cases e:i - ρ.length with
  |zero=>rw[e]at h;exact k2 (kW (AR.mp e) q) (aj h).symm
  |succ k=>rw[e]at h;exact aJ h
theorem gy{ρ:List aI}(h:ρ.length=objs.length)(e:ρ[i]? =some a):∃o,(a,o)∈ρ.zip objs:=
 ⟨_,dK e (bb (h▸(aH.mp e).1))⟩
theorem ii{ρ:List aI}(e:ρ[i]? =some a):i<ρ.length:=(aH.mp e).1
theorem AD.add{o:AO}(Y:AD ρ rest H)(f1:∀(j:Nat)(b:aI),ρ[j]? =some b->b≠D)(f2:∀p∈rest,p.1≠D)(lo:okA o D):AD (ρ++[D]) rest (H++[o]):=by
 refine⟨by rw[aK,aK,Y.ln];rfl,λj b e i f=>?_,λj b e=>?_,λj b x e f=>?_⟩
 ·exact gp e (λe=>gp f (λf=>Y.each j b e i f) λz q=>absurd q (f1 j b e)) λp q=>gp f (λf=>absurd q (f1 i b f)) λp' z=>p'.trans p.symm
 ·exact gp e (λe=>Y.off j b e) λz q=>q▸f2
 ·exact gp e (λe=>Y.lo j b x e ((d7 (Y.ln▸ii e)).symm.trans f)) λp q=>q▸(aj (bA.symm.trans (Y.ln▸p▸f)):o=x)▸lo
theorem AD.set{x y:AO}(Y:AD ρ rest H)(hx:H[i]? =some x)(hd:∀b,okA x b->okA y b):AD ρ rest (H.set i y):=by
 refine⟨Y.ln.trans bO.symm,Y.each,Y.off,λj b z e f=>?_⟩;rw[List.getElem?_set]at f
 by_cases hj:i=j
 ·subst hj
  rw[if_pos rfl,if_pos (aH.mp hx).1]at f;exact aj f▸hd b (Y.lo i b x e hx)
 ·rw[if_neg hj]at f
  exact Y.lo j b z e f
theorem AD.sub{rest':gO}(Y:AD ρ rest H)(h:∀p∈rest',p∈rest):AD ρ rest' H:=⟨Y.ln,Y.each,λj b e p hp=>Y.off j b e p (h p hp),Y.lo⟩
theorem bM.low(R:bM Γ ρ P m H s):(s.heap.objs.size==mW)=false:=by
 obtain⟨mm,objs,F,q,ro,N⟩:=R.dy;exact F.notModules (modules_low Γ.T.nolimit)
theorem j9{ρ:List aI}(h:ρ.length=objs.length)(a:aI)(o:dU):(ρ++[a]).zip (objs++[o])=ρ.zip objs++[(a,o)]:=kP h
theorem bM.add(R:bM Γ ρ P m H s)(k:∀mm l,Fr Γ.h₀ Γ.L s.heap mm->dJ Γ.h₀ Γ.L s.heap l->(∀(D:aI)(o:AO)(ob:dU)(h':fk)(n:Nat),(∀ρ',dg ρ ρ'->de w ρ' o ob)->Fr Γ.h₀ Γ.L h' mm->dJ Γ.h₀ Γ.L h' ((D,ob)::l)->(∀p∈l,p.1<D)->okA o D->bM Γ (ρ++[D]) P m (H++[o]) {s with heap:=h',toks:=n})->C):C:=by
 obtain⟨mm,objs,F,q,ro,N⟩:=R.dy;have hl:ρ.length=objs.length:=R.ly.ln.trans ro.len.symm;refine k mm _ F N λD o ob h' n hr F' N' fresh lo=>⟨⟨mm,objs++[ob],F',q.mono (dg.one ρ D),(ro.mono (dg.one ρ D)).app (.cons (hr _ (dg.one ρ D)) .nil),λp hp=>?_⟩,R.ly.add (λj b e=>?_) (λp hp=>bc (fresh p (au _ hp))) lo,R.g,R.d,R.o⟩
 ·rw[j9 hl,aA]at hp
  rcases aT.mp hp with hp|hp
  ·exact N' p (af _ (av _ hp))
  ·rcases aE.mp hp with hp|hp
   ·exact N' p (hp▸ah)
   ·exact N' p (af _ (au _ hp))
 ·obtain⟨o,ho⟩:=gy hl e
  exact bc (fresh _ (av _ ho))
abbrev KV:=AV->Hp->Prop
def Back(Γ:Wk w mean mg mb)(ρ:List aI)(P:mh)(m:Nm)(K:KV)(Q:ar->aC->Prop):Prop:=∀a v H ρ' s',dg ρ ρ'->db ρ' a v->bM Γ ρ' P m H s'->K a H->Q v s'
def wR(Γ:Wk w mean mg mb)(ρ:List aI)(P:mh)(m:Nm)(K:Bool->Hp->Prop)(Q:Bool->aC->Prop):Prop:=∀a H ρ' s',dg ρ ρ'->bM Γ ρ' P m H s'->K a H->Q a s'
def Î(Γ:Wk w mean mg mb)(ρ:List aI)(P:mh)(m:Nm)(K:List AV->Hp->Prop)(Q:List ar->aC->Prop):Prop:=∀as vs H ρ' s',dg ρ ρ'->bB ρ' as vs->bM Γ ρ' P m H s'->K as H->Q vs s'
theorem Back.ext{K:KV}{Q:ar->aC->Prop}(b:Back Γ ρ P m K Q){ρ':List aI}(x:dg ρ ρ'):Back Γ ρ' P m K Q:=λa v H r s' y=>b a v H r s' (x.trans y)
theorem wR.ext{K:Bool->Hp->Prop}{Q:Bool->aC->Prop}(b:wR Γ ρ P m K Q){ρ':List aI}(x:dg ρ ρ'):wR Γ ρ' P m K Q:=λa H r s' y=>b a H r s' (x.trans y)
theorem Back.put{K:KV}{Q:ar->aC->Prop}(b:Back Γ ρ P m K Q){a:AV}{ρ':List aI}{s':aC}(x:dg ρ ρ')(r:db ρ' a v)(R:bM Γ ρ' P m H s')(k:K a H):Q v s':=b _ _ _ _ _ x r R k
theorem wR.put{K:Bool->Hp->Prop}{Q:Bool->aC->Prop}(b:wR Γ ρ P m K Q){a:Bool}{ρ':List aI}{s':aC}(x:dg ρ ρ')(R:bM Γ ρ' P m H s')(k:K a H):Q a s':=b _ _ _ _ x R k
theorem Back.now{K:KV}{Q:ar->aC->Prop}(b:Back Γ ρ P m K Q)(R:bM Γ ρ P m H s){a:AV}(r:db ρ a v)(k:K a H):Q v s:=b _ _ _ _ _ (dg.refl ρ) r R k
theorem Back.new{K:KV}{Q:ar->aC->Prop}(b:Back Γ ρ P m K Q)(R:bM Γ ρ P m H s){a:AV}(r:db ρ a v)(k:K a H)(n:Nat):Q v {s with toks:=n}:=b _ _ _ _ _ (dg.refl ρ) r (R.tk n) k
structure Br(c:Bool)(P Q:Prop):Prop where
 yes:c=true->P
 no:c=false->Q
theorem bM.top(R:bM Γ ρ P m H s)(a:aI):db (ρ++[a]) (.ref H.length) (.ref a):=.ref _ _ (R.ly.ln▸bA)
theorem bM.made(R:bM Γ ρ P m H s){K:KV}{Q:ar->aC->Prop}(b:Back Γ ρ P m K Q){o:AO}(k:K (.ref H.length) (H++[o]))(c:∀mm l,Fr Γ.h₀ Γ.L s.heap mm->dJ Γ.h₀ Γ.L s.heap l->(∀(ob:dU)(h':fk)(n:Nat),(∀ρ',dg ρ ρ'->de w ρ' o ob)->Fr Γ.h₀ Γ.L h' mm->dJ Γ.h₀ Γ.L h' ((s.heap.objs.size,ob)::l)->Q (.ref s.heap.objs.size) {s with heap:=h',toks:=n})->C)(ok:∀b,(b==mW)=false->okA o b):C:=
 R.add λmm l F N fin=>c mm l F N λob h' n hr F' N'=>b.put (dg.one ρ _) (R.top _) (fin _ o ob h' n hr F' N' (λz hp=>bw (N _ hp).1) (ok _ R.low)) k
theorem bM.tup{as:List AV}(R:bM Γ ρ P m H s)(r:bB ρ as vs){K:KV}{Q E:ar->aC->Prop}(hz:as.length<=aF)(k:K (.ref H.length) (H++[.tup as]))(b:Back Γ ρ P m K Q):aL (cJ w) Γ.A (JM vs) Q E s:=
 R.made (ok:=λz z=>br) b k λmm l F N fin=>newTuple_N F N (λh' F' N'=>fin _ h' s.toks (λρ' x=>.tup (r.mono x)) F' N') (r.len▸hz)
theorem bM.lst{as:List AV}(R:bM Γ ρ P m H s)(r:bB ρ as vs){K:KV}{Q E:ar->aC->Prop}(hz:as.length<=aF)(k:K (.ref H.length) (H++[.lst as]))(b:Back Γ ρ P m K Q):aL (cJ w) Γ.A (newList vs) Q E s:=
 R.made (ok:=λz z=>br) b k λmm l F N fin=>newList_N F N (λh' F' N'=>fin _ h' s.toks (λρ' x=>.lst 0 (r.mono x)) F' N') (r.len▸hz)
theorem UpdF.upd{o':dU}{g:dU->gO}(h:UpdF d o l g):Upd d o o' l (g o'):=by
 induction h with
 |head h=>exact .head h
 |tail h _ ih=>exact .tail h ih
theorem ur{a:aI}{ob:dU}{rest:gO}(off:∀p∈rest,p.1≠a):∀{ρ:List aI}{objs:List dU}{i:Nat},ρ[i]? =some a->objs[i]? =some ob->(∀j,ρ[j]? =some a->j=i)->UpdF a ob (ρ.zip objs++rest) (λo'=>ρ.zip (objs.set i o')++rest)
 |[],_,_,h,_,_=>mz h
 |_::_,[],_,_,h,_=>mz h
 |b::ρ,p::objs,0,h1,h2,ap=>by
  cases h1;cases h2;refine .head λq hq=>?_
  rcases aT.mp hq with hq|hq
  ·intro e
   obtain⟨j,hj⟩:=gD (nT (show(q.1,q.2)∈ρ.zip objs from hq)).1;exact hK j (ap (j+1) (hj.trans (congrArg some e)))
  ·exact off q hq
 |b::ρ,p::objs,i+1,h1,h2,ap=>.tail (λe=>(hK i).symm (ap 0 (congrArg some e))) (ur off h1 h2 λj hj=>jp (ap (j+1) hj))
theorem bM.mut(R:bM Γ ρ P m H s){x:AO}(ha:ρ[i]? =some a)(hx:H[i]? =some x)
  (k:∀mm(ob:dU)(l:gO)(g:dU->gO),Fr Γ.h₀ Γ.L s.heap mm->dJ Γ.h₀ Γ.L s.heap l->de w ρ x ob->UpdF a ob l g->(∀h' o' y n,Fr Γ.h₀ Γ.L h' mm->dJ Γ.h₀ Γ.L h' (g o')->de w ρ y o'->(∀b,okA x b->okA y b)->bM Γ ρ P m (H.set i y) {s with heap:=h',toks:=n})->C):C:=by
 obtain⟨mm,objs,F,q,ro,N⟩:=R.dy;exact ro.at hx λob e r=>k mm ob _ _ F N r (ur (R.ly.off i a ha) ha e (R.ly.each i a ha)) λh' o' y n F' N' r' hd=>⟨⟨mm,objs.set i o',F',q,ro.set r' i,N'⟩,R.ly.set hx hd,R.g,R.d,R.o⟩
theorem bM.rd(R:bM Γ ρ P m H s){x y:AO}(e:H[i]? =some x)(k:∀o,de w ρ x o->(∀a,ρ[i]? =some a->s.heap.get? a=some o)->de w ρ y o)(hd:∀b,okA x b->okA y b):bM Γ ρ P m (H.set i y) s:=by
 obtain⟨mm,objs,F,q,ro,N⟩:=R.dy;exact ro.at e λo e1 r=>⟨⟨mm,objs,F,q,ro.re (k o r λa ha=>(N _ (av _ (dK ha e1))).1) e1,N⟩,R.ly.set e hd,R.g,R.d,R.o⟩
theorem bM.sub(R:bM Γ ρ P m H s){m':Nm}(h:∀x a,m'.lookup x=some a->m.lookup x=some a):bM Γ ρ P m' H s:=by
 obtain⟨mm,objs,F,q,ro,N⟩:=R.dy;exact⟨⟨mm,objs,F,λx a e=>q x a (h x a e),ro,N⟩,R.ly,R.g,R.d,R.o⟩
def aG{α:Type}(o:Option α)(K:α->Prop):Prop:=match o with
 |some x=>K x
 |none=>False
theorem aG.el{α:Type}{o:Option α}{K:α->Prop}(h:aG o K)(k:∀x,K x->o=some x->C):C:=by
 cases o with
 |none=>exact h.elim
 |some x=>exact k x h rfl
theorem aw{α:Type}{o:Option α}{x:α}{K:α->Prop}(e:o=some x)(k:K x):aG o K:=e▸k
def ku(b:Bool)(P:Prop):Prop:=match b with
 |true=>P
 |false=>False
theorem ku.el{b:Bool}{P:Prop}(h:ku b P)(k:P->b=true->C):C:=by
 cases b with
 |false=>exact h.elim
 |true=>exact k h rfl
def lB(a:AV)(K:Int->Prop):Prop:=match a with
 |.int i=>K i
 |_=>False
def kE(a:AV)(K:ax->Prop):Prop:=match a with
 |.str i=>K i
 |_=>False
def v5(a:AV)(K:UInt64->Prop):Prop:=match a with
 |.flt i=>K i
 |_=>False
def jY(a:AV)(K:Nat->Prop):Prop:=match a with
 |.ref i=>K i
 |_=>False
def DG(a:AV)(K:ar->Prop):Prop:=match a with
 |.val i=>K i
 |_=>False
@[elab_as_elim] theorem DG.el{a:AV}{K:ar->Prop}{C:ar->Prop}(h:DG a K)(r:db ρ a v)(k:∀i,K i->C i):C v:=by
 induction r with
 |val i=>exact k i h
 |_=>exact h.elim
@[elab_as_elim] theorem lB.el{a:AV}{K:Int->Prop}{C:ar->Prop}(h:lB a K)(r:db ρ a v)(k:∀i t,K i->C (.int i t)):C v:=by
 induction r with
 |int i t=>exact k i t h
 |_=>exact h.elim
@[elab_as_elim] theorem kE.el{a:AV}{K:ax->Prop}{C:ar->Prop}(h:kE a K)(r:db ρ a v)(k:∀i t,K i->C (.str i t)):C v:=by
 induction r with
 |str i t=>exact k i t h
 |_=>exact h.elim
@[elab_as_elim] theorem v5.el{a:AV}{K:UInt64->Prop}{C:ar->Prop}(h:v5 a K)(r:db ρ a v)(k:∀i t,K i->C (.float i t)):C v:=by
 induction r with
 |flt i t=>exact k i t h
 |_=>exact h.elim
@[elab_as_elim] theorem jY.el{a:AV}{K:Nat->Prop}{C:ar->Prop}(h:jY a K)(r:db ρ a v)(k:∀i c,K i->ρ[i]? =some c->C (.ref c)):C v:=by
 induction r with
 |ref i c e=>exact k i c h e
 |_=>exact h.elim
@[elab_as_elim] theorem db.I{i:Int}{C:ar->Prop}(r:db ρ (.int i) v)(k:∀t,C (.int i t)):C v:=lB.el (K:=λj=>j=i) rfl r λz t e=>e▸k t
@[elab_as_elim] theorem db.S{i:ax}{C:ar->Prop}(r:db ρ (.str i) v)(k:∀t,C (.str i t)):C v:=kE.el (K:=λj=>j=i) rfl r λz t e=>e▸k t
@[elab_as_elim] theorem db.F{i:UInt64}{C:ar->Prop}(r:db ρ (.flt i) v)(k:∀t,C (.float i t)):C v:=v5.el (K:=λj=>j=i) rfl r λz t e=>e▸k t
@[elab_as_elim] theorem db.V{i:ar}{C:ar->Prop}(r:db ρ (.val i) v)(k:C i):C v:=DG.el (K:=λj=>j=i) rfl r λz e=>e▸k
@[elab_as_elim] theorem db.R{C:ar->Prop}(r:db ρ (.ref i) v)(k:∀c,ρ[i]? =some c->C (.ref c)):C v:=jY.el (K:=λj=>j=i) rfl r λz c e h=>k c (e▸h)
theorem bB.hd{as:List AV}{C:List ar->Prop}(r:bB ρ as vs):match as with
  |[]=>C []->C vs
  |a::r=>(∀v us,db ρ a v->bB ρ r us->C (v::us))->C vs:=by
 induction r with
 |nil=>exact id
 |cons h r _=>exact λk=>k _ _ h r
@[elab_as_elim] theorem bB.c0{C:List ar->Prop}(r:bB ρ [] vs)(k:C []):C vs:=bB.hd r k
@[elab_as_elim] theorem bB.c1{a:AV}{C:List ar->Prop}(r:bB ρ [a] vs)(k:∀v,db ρ a v->C [v]):C vs:=bB.hd r λv z h r=>bB.c0 r (k v h)
@[elab_as_elim] theorem bB.c2{a b:AV}{C:List ar->Prop}(r:bB ρ [a,b] vs)(k:∀v u,db ρ a v->db ρ b u->C [v,u]):C vs:=bB.hd r λv z h r=>bB.c1 r λu h2=>k v u h h2
@[elab_as_elim] theorem bB.c3{a b c:AV}{C:List ar->Prop}(r:bB ρ [a,b,c] vs)(k:∀v u x,db ρ a v->db ρ b u->db ρ c x->C [v,u,x]):C vs:=bB.hd r λv z h r=>bB.c2 r λu x h2 h3=>k v u x h h2 h3
def Fv(as:List AV)(K:Prop):Prop:=match as with
 |[]=>K
 |_::_=>False
def lY(as:List AV)(K:AV->Prop):Prop:=match as with
 |[]=>False
 |a::r=>Fv r (K a)
def u8(as:List AV)(K:AV->AV->Prop):Prop:=match as with
 |[]=>False
 |a::r=>lY r (K a)
def IV(as:List AV)(K:AV->AV->AV->Prop):Prop:=match as with
 |[]=>False
 |a::r=>u8 r (K a)
@[elab_as_elim] theorem Fv.el{as:List AV}{K:Prop}{C:List ar->Prop}(h:Fv as K)(r:bB ρ as vs)(k:K->C []):C vs:=by
 induction r with
 |nil=>exact k h
 |cons=>exact h.elim
@[elab_as_elim] theorem lY.el{as:List AV}{K:AV->Prop}{C:List ar->Prop}(h:lY as K)(r:bB ρ as vs)(k:∀a v,K a->db ρ a v->C [v]):C vs:=by
 induction r with
 |nil=>exact h.elim
 |cons ra r _=>exact Fv.el (C:=λvs=>C (_::vs)) h r λh=>k _ _ h ra
@[elab_as_elim] theorem u8.el{as:List AV}{K:AV->AV->Prop}{C:List ar->Prop}(h:u8 as K)(r:bB ρ as vs)(k:∀a v b u,K a b->db ρ a v->db ρ b u->C [v,u]):C vs:=by
 induction r with
 |nil=>exact h.elim
 |cons ra r _=>exact lY.el (C:=λvs=>C (_::vs)) h r λb u h=>k _ _ b u h ra
@[elab_as_elim] theorem IV.el{as:List AV}{K:AV->AV->AV->Prop}{C:List ar->Prop}(h:IV as K)(r:bB ρ as vs)(k:∀a v b u c x,K a b c->db ρ a v->db ρ b u->db ρ c x->C [v,u,x]):C vs:=by
 induction r with
 |nil=>exact h.elim
 |cons ra r _=>exact u8.el (C:=λvs=>C (_::vs)) h r λb u c x h=>k _ _ b u c x h ra
theorem rZ{c:Bool}{P Q:Prop}(b:Br c P Q):if c=true then P else Q:=by
 cases c
 ·exact b.no rfl
 ·exact b.yes rfl
end
variable{e:al}{β:Type}{y:Int}{gens:List lK}{sc:iS}
section
noncomputable def one{α:Type}:List α->Option α
 |[]=>none
 |a::r=>match r with
  |[]=>some a
  |_::_=>none
theorem lb{α:Type}{l:List α}{a:α}(h:one l=some a):l=[a]:=by
 cases l with
 |nil=>exact aJ h
 |cons b r=>cases r with
  |nil=>exact congrArg (λx=>[x]) (aj h)
  |cons=>exact aJ h
noncomputable def eF(es:List al):Bool:=es.all λe=> !aW e.ctorIdx 22
noncomputable def qx(e:al):Bool:= !aW e.ctorIdx 26
noncomputable def xt(e:al):Bool:= !aW e.ctorIdx 16
noncomputable def mc(e:al):Bool:= !aW e.ctorIdx 7
inductive TG where
 |one(x:ax)|row(es:List al)|sub(o i:al)|attr(o:al)(n:ax)(p:kF)|slc(lo hi st:Option al)
 |call(f:al)(as:List al)(ks:List mv)|cst(c:Const)|uno(op:UnaryOp)(x:al)|bop(op:BoolOp)(es:List al)(p:kF)|cmp(l:al)(ops:List tI)(rs:List al)|ifx|bad
inductive ES:al->TG->Prop
 |one{x:ax}{p:kF}:ES (.Name x p) (.one x)
 |row{es:List al}{k:Nat}{p:kF}:ES (.Tuple es k p) (.row es)
 |sub{o i:al}{p:kF}:ES (.Subscript o i p) (.sub o i)
 |attr{o:al}{n:ax}{p:kF}:ES (.Attribute o n p) (.attr o n p)
 |slc{lo hi st:Option al}{p:kF}:ES (.Slice lo hi st p) (.slc lo hi st)
 |call{f:al}{as:List al}{ks:List mv}{p:kF}:ES (.Call f as ks p) (.call f as ks)
 |cst{c:Const}{k:Nat}{p:kF}:ES (.Constant c k p) (.cst c)
 |uno{op:UnaryOp}{x:al}{p:kF}:ES (.UnaryOp op x p) (.uno op x)
 |bop{op:BoolOp}{es:List al}{p:kF}:ES (.BoolOp op es p) (.bop op es p)
 |cmp{l:al}{ops:List tI}{rs:List al}{p:kF}:ES (.Compare l ops rs p) (.cmp l ops rs)
 |ifx{a b c:al}{p:kF}:ES (.IfExp a b c p) .ifx
 |bad{e:al}(h:qx e=true):ES e .bad
noncomputable def jh(e:al):TG:=match e with
 |.BoolOp op es p=>.bop op es p
 |.NamedExpr .. =>.bad
 |.BinOp .. =>.bad
 |.UnaryOp op x _=>.uno op x
 |.Lambda .. =>.bad
 |.IfExp .. =>.ifx
 |.Dict .. =>.bad
 |.Set .. =>.bad
 |.ListComp .. =>.bad
 |.SetComp .. =>.bad
 |.DictComp .. =>.bad
 |.GeneratorExp .. =>.bad
 |.Await .. =>.bad
 |.Yield .. =>.bad
 |.YieldFrom .. =>.bad
 |.Compare l ops rs _=>.cmp l ops rs
 |.Call f as ks _=>.call f as ks
 |.FormattedValue .. =>.bad
 |.JoinedStr .. =>.bad
 |.Constant c _ _=>.cst c
 |.Attribute o n p=>.attr o n p
 |.Subscript o i _=>.sub o i
 |.Starred .. =>.bad
 |.Name x _=>.one x
 |.List .. =>.bad
 |.Tuple es _ _=>.row es
 |.Slice lo hi st _=>.slc lo hi st
theorem Bf(e:al):ES e (jh e):=by
 cases e with
 |Attribute=>exact .attr
 |Subscript=>exact .sub
 |Name=>exact .one
 |Tuple=>exact .row
 |Slice=>exact .slc
 |Call=>exact .call
 |Constant=>exact .cst
 |UnaryOp=>exact .uno
 |BoolOp=>exact .bop
 |Compare=>exact .cmp
 |IfExp=>exact .ifx
 |_=>exact .bad rfl
noncomputable def RB(g:TG):Option ax:=match g with
 |.one x=>some x
 |_=>none
theorem BA{x:ax}(h:RB (jh e)=some x):∃p,e= .Name x p:=by
 have w:=Bf e;generalize jh e=g at h w;induction w with
 |@one y p=>exact⟨p,congrArg (λz=>PySem.Expr.Name z p) (aj h)⟩
 |_=>exact aJ h
noncomputable def Bz:List al->Option (List ax)
 |[]=>some []
 |e::es=>match RB (jh e)with
  |some x=>(match Bz es with
   |some xs=>some (x::xs)
   |none=>none)
  |none=>none
inductive Ap:List al->List ax->Prop
 |nil:Ap [] []
 |cons{x:ax}{p:kF}{es:List al}{xs:List ax}(h:Ap es xs):Ap (.Name x p::es) (x::xs)
theorem oF:∀{es:List al}{xs:List ax},Bz es=some xs->Ap es xs
 |[],_,h=>aj h▸ .nil
 |e::es,xs,h=>by
  conv at h=>lhs;whnf
  cases h1:RB (jh e)with
  |none=>rw[h1]at h;exact aJ h
  |some x=>
   rw[h1]at h;cases h2:Bz es with
   |none=>rw[h2]at h;exact aJ h
   |some ys=>
    rw[h2]at h;obtain⟨p,e1⟩:=BA h1;exact aj h▸e1▸ .cons (oF h2)
noncomputable def sk(sc:iS):Bool:=sc.kind== .function&&sc.names.all λx=>x.2 != .cell&&(x.2 != .local||sc.names.lookup x.1==some .local)
noncomputable def ni(o:al)(as:List al)(ap p:kF):Bool:=xt o&&bJ as.length 28&&ap.endLine==p.line
noncomputable def dv(a b:Int):UInt64:=uq (decide (a<0) != decide (b<0)) a.natAbs b.natAbs
structure En where
 nk:List (ax×gu)
 cl:List (ax×Nat)
 loc:Option Nm
structure f6 where
 gl:ax->Option AV
 call:AV->List AV->Hp->KV->Prop
 callK:AV->List AV->ax->AV->Hp->KV->Prop
 meths:List (String×ax×ar)
 gen:AV->Option (ax->List (Int×ax))
 tb:Option (aI×ax)
noncomputable def un:AO->AO
 |.pin x _=>un x
 |x=>x
noncomputable def cH(f:AO->Option β)(H:Hp)(n:Nat):Option β:=match H[n]? with
 |some x=>f (un x)
 |none=>none
noncomputable def fG:AO->Option (List AV)
 |.lst xs=>some xs
 |_=>none
noncomputable def uv:AO->Option (List AV)
 |.tup xs=>some xs
 |_=>none
noncomputable def Bk:AO->Option (List AV)
 |.lst xs=>some xs
 |.tup xs=>some xs
 |_=>none
noncomputable def vz:AO->Option (List (ax×AV))
 |.dct kvs=>some kvs
 |_=>none
noncomputable def Ō:AO->Option AV
 |.cell v=>v
 |_=>none
noncomputable def BN:AO->Option Nat
 |.inst d=>some d
 |_=>none
noncomputable def EP:AO->Option Nat
 |.attr l=>some l
 |_=>none
noncomputable def f5(en:En)(H:Hp)(x:ax):Option AV:=match en.cl.lookup x with
 |some i=>(match H[i]? with
  |some o=>Ō o
  |none=>none)
 |none=>none
noncomputable def wi(en:En)(T:f6)(m:Nm)(H:Hp)(x:ax):Option AV:=match x==aa "__debug__" with
 |true=>none
 |false=>(match en.nk.lookup x with
  |some k=>(match k with
   |.local=>(match en.loc with
    |none=>m.lookup x
    |some l=>l.lookup x)
   |.cell=>f5 en H x
   |.free=>(match x==aa "__classdict__" with
    |true=>none
    |false=>f5 en H x)
   |.globalExplicit=>none
   |.globalImplicit=>T.gl x)
  |none=>none)
def iz{α:Type}:List α->(List α->Prop)->Prop
 |[],k=>k []
 |a::r,k=>iz r λr=>k (a::r)
theorem BU{α:Type}:∀(l:List α)(k:List α->Prop),iz l k=k l
 |[],_=>rfl
 |a::r,k=>BU r λr=>k (a::r)
theorem bX{α:Type}{l:List α}{k:List α->Prop}(h:k l):iz l k:=(BU l k).mpr h
theorem d8{α:Type}{l:List α}{k:List α->Prop}(h:iz l k):k l:=(BU l k).mp h
def U2(op:gr)(x y:Int)(H:Hp)(K:KV):Prop:=match op with
 |.Add=>K (.int (x+y)) H
 |.Sub=>K (.int (x - y)) H
 |.Mult=>m6 x y∧K (.int (x*y)) H
 |.Mod=>y≠0∧K (.int (x.fmod y)) H
 |.FloorDiv=>(y≠0∧dn x y=false)∧K (.int (x.fdiv y)) H
 |.Div=>(y≠0∧cM (dv x y)=false)∧K (.flt (dv x y)) H
 |.Pow=>((0<=y∧y<=1000000)∧x.natAbs<2^64)∧K (.int (x^y.toNat)) H
 |_=>False
def U5(op:gr)(x y:UInt64)(H:Hp)(K:KV):Prop:=match op with
 |.Add=>K (.flt (bQ x y)) H
 |.Sub=>K (.flt (aY x y)) H
 |.Mult=>K (.flt (bG x y)) H
 |.Div=>cI y=false∧K (.flt (bK x y)) H
 |.Mod=>cI y=false∧K (.flt (kX x y).2) H
 |_=>False
def jL(y:Int):Prop:=y.natAbs<2^1024 - 2^970
theorem jL.of(h:y.natAbs<2^1024 - 2^970):jL y:=h
theorem jL.not(h:jL y)(e:2^1024 - 2^970<=y.natAbs):False:=dm.mpr e h
def U4(op:gr)(x:UInt64)(y:Int)(H:Hp)(K:KV):Prop:=match op with
 |.Sub=>jL y∧K (.flt (aY x (ig y))) H
 |.Mult=>jL y∧K (.flt (bG x (ig y))) H
 |_=>False
def ZG(op:gr)(x y:ax)(H:Hp)(K:KV):Prop:=match op with
 |.Add=>x.length+y.length<=aF∧K (.str (x++y)) H
 |_=>False
def U0(op:gr)(i j:Nat)(H:Hp)(K:KV):Prop:=match op with
 |.Add=>aG (cH fG H i) λxs=>aG (cH fG H j) λys=>xs.length+ys.length<=aF∧iz (xs++ys) λzs=>K (.ref H.length) (H++[.lst zs])
 |_=>False
def U1(op:gr)(i:Nat)(n:Int)(H:Hp)(K:KV):Prop:=match op with
 |.Mult=>aG (cH fG H i) λxs=>(n=2∧aN xs.length 128=true)∧iz (xs++xs) λzs=>K (.ref H.length) (H++[.lst zs])
 |_=>False
def vB(op:gr)(a b:AV)(H:Hp)(K:KV):Prop:=match a with
 |.int x=>lB b λy=>U2 op x y H K
 |.flt x=>(match b with
  |.flt y=>U5 op x y H K
  |.int y=>U4 op x y H K
  |_=>False)
 |.str x=>kE b λy=>ZG op x y H K
 |.ref i=>(match b with
  |.ref j=>U0 op i j H K
  |.int n=>U1 op i n H K
  |_=>False)
 |_=>False
noncomputable def MU(op:tI)(x y:Int):Option Bool:=match op with
 |.Lt=>some (decide (x<y))
 |.LtE=>some (decide (x<=y))
 |.Gt=>some (decide (y<x))
 |.GtE=>some (decide (y<=x))
 |.Eq=>some (x==y)
 |.NotEq=>some (x != y)
 |_=>none
noncomputable def UH(op:tI)(x y:UInt64):Option Bool:=match op with
 |.Lt=>some (iG x y==some rM)
 |.LtE=>some (iG x y==some rM||iG x y==some fH)
 |.Eq=>some (iG x y==some fH)
 |_=>none
noncomputable def oo(x y:ax):Bool:= !(gv x y 0 x.length 1).isEmpty
noncomputable def IE(op:tI)(x y:ax):Option Bool:=match op with
 |.Eq=>some (x==y)
 |.NotEq=>some (x != y)
 |.In=>some (oo y x)
 |.NotIn=>some (!oo y x)
 |_=>none
noncomputable def CZ:AV->Option Bool
 |.none=>some true
 |.int _=>some false
 |.str _=>some false
 |.ref _=>some false
 |.val v=>(match v with
  |.ref _=>some false
  |_=>none)
 |_=>none
noncomputable def Ez(op:tI):Option Bool:=match op with
 |.Is=>some true
 |.IsNot=>some false
 |_=>none
noncomputable def HS(op:tI):Option Bool:=match op with
 |.In=>some true
 |.NotIn=>some false
 |_=>none
noncomputable def BX(op:tI):Option Bool:=match op with
 |.Eq=>some true
 |.NotEq=>some false
 |_=>none
inductive VL:AV->AV->Prop
 |int(i:Int):VL (.int i) (.int i)
 |str(x:ax):VL (.str x) (.str x)
inductive ó(H:Hp):AV->AV->Prop
 |sc{a b:AV}(h:VL a b):ó H a b
 |pair{i j:Nat}{a b c d:AV}(h:cH uv H i=some [a,b])(k:cH uv H j=some [c,d])(p:VL a c)(q:VL b d):ó H (.ref i) (.ref j)
inductive pY(H:Hp):List AV->List AV->Prop
 |nil:pY H [] []
 |cons{a b:AV}{as bs:List AV}(h:ó H a b)(r:pY H as bs):pY H (a::as) (b::bs)
inductive NI(H:Hp)(xs ys:List AV)(q:Bool)(K:Bool->Prop):Prop
 |ne(h:xs.length≠ys.length)(k:K (!q)):NI H xs ys q K
 |eq(h:pY H xs ys)(k:K q):NI H xs ys q K
noncomputable def Ag(c q:Bool):Bool:=match q with
 |true=>c
 |false=> !c
noncomputable def gX(a:AV):Option ax:=match a with
 |.str x=>some x
 |_=>none
noncomputable def mE(a:AV):Option Int:=match a with
 |.int x=>some x
 |_=>none
noncomputable def jT{α:Type}(f:AV->Option α):List AV->Option (List α)
 |[]=>some []
 |a::r=>(f a).bind λx=>(jT f r).bind λxs=>some (x::xs)
def BF(x:ax)(n:Nat)(H:Hp)(K:Bool->Prop):Prop:=match cH vz H n with
 |some kvs=>K (kvs.lookup x).isSome
 |none=>aG (cH fG H n) λxs=>aG (jT gX xs) λts=>K (ts.any (·==x))
noncomputable def Gz(v u:ar):Bool:=match v with
 |.type x=>(match u with
  |.type y=>x==y
  |_=>false)
 |_=>false
def mU(op:tI)(a b:AV)(H:Hp)(K:Bool->Prop):Prop:=match b with
 |.int y=>(match a with
  |.int x=>aG (MU op x y) K
  |.flt x=>op= .Eq∧K (gQ x y==some fH)
  |_=>False)
 |.flt y=>v5 a λx=>aG (UH op x y) K
 |.str y=>kE a λx=>aG (IE op x y) K
 |.none=>aG (Ez op) λq=>aG (CZ a) λc=>K (Ag c q)
 |.ref n=>(match a with
  |.str x=>aG (HS op) λq=>BF x n H λc=>K (Ag c q)
  |.ref i=>aG (BX op) λq=>aG (cH fG H i) λxs=>aG (cH fG H n) λys=>(xs.length<=aF∧ys.length<=aF)∧NI H xs ys q K
  |_=>False)
 |.val u=>aG (Ez op) λq=>DG a λv=>ku (Gz v u) (K (Ag true q))
 |_=>False
def Vs(a:AV)(H:Hp)(K:Bool->Prop):Prop:=match a with
 |.bool b=>K b
 |.int x=>K (x != 0)
 |.none=>K false
 |.str x=>x.length<=aF∧K (x.length != 0)
 |.ref n=>aG (cH fG H n) λxs=>xs.length<=aF∧K (xs.length != 0)
 |_=>False
def Ey(o:AV)(k:Int)(H:Hp)(K:KV):Prop:=match o with
 |.ref n=>(-(2^63)<=k∧k<2^63)∧aG (cH Bk H n) λxs=>aG (eT k xs.length) λj=>aG xs[j]? λx=>K x H
 |.str x=>((0<=k∧k<(x.length:Int))∧x.length<=1048576)∧K (.str (gj x k)) H
 |_=>False
def vv(o i:AV)(H:Hp)(K:KV):Prop:=match i with
 |.int k=>Ey o k H K
 |.str x=>jY o λn=>aG (cH vz H n) λkvs=>aG (kvs.lookup x) λa=>K a H
 |_=>False
noncomputable def jJ(xs:List AV)(lo hi st:Option Int):List AV:=(AH (i8 lo hi st xs.length).1 (i8 lo hi st xs.length).2.1 (i8 lo hi st xs.length).2.2).filterMap (xs[·]?)
def Wg(o:AV)(lo hi st:Option Int)(H:Hp)(K:KV):Prop:=match o with
 |.str x=>st=none∧x.length<=aF∧K (.str (dk x lo hi)) H
 |.ref n=>aG (cH fG H n) λxs=>(st≠some 0∧xs.length<=aF)∧iz (jJ xs lo hi st) λys=>K (.ref H.length) (H++[.lst ys])
 |_=>False
abbrev Ev:=En->al->Nm->Hp->KV->Prop
abbrev Tr:=En->al->Nm->Hp->(Bool->Hp->Prop)->Prop
def Js(ev:Ev)(en:En)(e:Option al)(m:Nm)(H:Hp)(K:Option Int->Hp->Prop):Prop:=match e with
 |none=>K none H
 |some e=>ev en e m H λa H=>lB a λi=>K (some i) H
def yH(ev:Ev)(en:En):List al->Nm->Hp->(List AV->Hp->Prop)->Prop
 |[],_,H,K=>K [] H
 |e::es,m,H,K=>ev en e m H λa H=>yH ev en es m H λas H=>K (a::as) H
noncomputable def scal:AV->Bool
 |.ref _=>false
 |_=>true
inductive lO(v:AV)(H:Hp)(a:AV)(H':Hp):Prop
 |mk(T:Hp)(e:a=v)(eh:H'=H++T):lO v H a H'
theorem lO.now(v:AV)(H:Hp):lO v H v H:=.mk [] rfl (be _).symm
theorem lO.is{v a:AV}{H:Hp}(e:a=v):lO v H a H:=.mk [] e (be _).symm
inductive iw(go:KV->Prop)(H:Hp)(K:KV):Prop
 |mk(v:AV)(s:scal v=true)(g:go (lO v H))(k:K v H):iw go H K
 |go(g:go K):iw go H K
def ZC(ev:Ev)(en:En)(op:BoolOp):List al->Nm->Hp->KV->Prop
 |[],_,_,_=>False
 |x::ys,m,H,K=>match ys with
  |[]=>ev en x m H K
  |_::_=>ev en x m H λa H=>Vs a H λc=>(match op with
   |.And=>Br c (ZC ev en op ys m H K) (K a H)
   |.Or=>Br c (K a H) (ZC ev en op ys m H K))
noncomputable def V5:AO->Option String
 |.lst _=>some "list"
 |_=>none
noncomputable def Eb(v:ar):Option String:=match v with
 |.ref a=>(match aW a 135 with
  |true=>some "re.Pattern"
  |false=>(match aW a 140 with
   |true=>some "re.Pattern"
   |false=>none))
 |_=>none
noncomputable def qr(a:AV)(H:Hp):Option String:=match a with
 |.str _=>some "str"
 |.ref n=>(match cH BN H n with
  |some d=>(match cH EP H d with
   |some _=>some "Headers"
   |none=>none)
  |none=>cH V5 H n)
 |.val v=>Eb v
 |_=>none
theorem qy{ty:String}(h:Eb v=some ty):ty="re.Pattern"∧(v= .ref 135∨v= .ref 140):=by
 unfold Eb at h;cases v with
 |ref a=>
  dsimp only at h;cases e:aW a 135 with
  |true=>rw[e]at h;exact⟨(aj h).symm,.inl (congrArg _ (aZ e))⟩
  |false=>
   rw[e]at h;cases e2:aW a 140 with
   |true=>rw[e2]at h;exact⟨(aj h).symm,.inr (congrArg _ (aZ e2))⟩
   |false=>rw[e2]at h;exact aJ h
 |_=>exact aJ h
theorem xe{H:Hp}{ty:String}(h:qr (.ref n) H=some ty)(k1:∀d l,cH BN H n=some d->cH EP H d=some l->ty="Headers"->C)(k2:cH V5 H n=some ty->C):C:=by
 unfold qr at h;dsimp only at h;cases e:cH BN H n with
 |none=>rw[e]at h;exact k2 h
 |some d=>
  rw[e]at h;dsimp only at h;cases e2:cH EP H d with
  |none=>rw[e2]at h;exact aJ h
  |some l=>rw[e2]at h;exact k1 d l e e2 (aj h).symm
noncomputable def iJ(l:List (String×ax×ar))(ty:String)(x:ax):Option ar:=match l with
 |[]=>none
 |p::r=>match ty==p.1&&x==p.2.1 with
  |true=>some p.2.2
  |false=>iJ r ty x
theorem oJ{ty:String}{x:ax}{id:ar}:∀{l:List (String×ax×ar)},iJ l ty x=some id->(ty,x,id)∈l
 |[],h=>aJ h
 |p::r,h=>by
  conv at h=>lhs;whnf
  cases e:ty==p.1&&x==p.2.1 with
  |true=>
   rw[e]at h;rw[aM]at e;exact aj h▸bo e.1▸bo e.2▸ah
  |false=>
   rw[e]at h;exact af _ (oJ h)
inductive IT where
 |val(a:AV)|pair(a b:AV)
noncomputable def yF(l:List (Int×ax)):List IT:=l.map λp=>.pair (.int p.1) (.str p.2)
noncomputable def vX(a:Int):Nat->Nat->List IT
 |_,0=>[]
 |i,n+1=>.val (.int (a+(i:Nat)*1))::vX a (i+1) n
def Bj(o:AO)(K:List IT->Prop):Prop:=match o with
 |.lst xs=>iz (xs.map IT.val) K
 |.tup xs=>iz (xs.map IT.val) K
 |.dct kvs=>iz (kvs.map λp=>IT.val (.str p.1)) K
 |.rng a b=>(cN a b 1=true∧cf a b 1=((b - a).toNat:Int))∧iz (vX a 0 (b - a).toNat) K
 |_=>False
def uz(a:AV)(H:Hp)(K:List IT->Option Nat->Prop):Prop:=match a with
 |.str x=>iz (x.cps.toList.map λc=>IT.val (.str ⟨#[c]⟩)) λl=>K l none
 |.ref n=>aG H[n]? λo=>Bj (un o) λl=>K l (some n)
 |_=>False
noncomputable def DD(g:TG):Option (al×List al):=match g with
 |.call f as ks=>(match ks with
  |[]=>some (f,as)
  |_::_=>none)
 |_=>none
inductive v7(T:f6)(ev:Ev)(en:En)(iter:al)(m:Nm)(H:Hp)(K:List IT->Option Nat->Hp->Prop):Prop
 |gen(h:aG (DD (jh iter)) λc=>aG (one c.2) λx=>ku (eF [x]) (aG (RB (jh c.1)) λy=>aG (wi en T m H y) λg=>aG (T.gen g) λk=>ev en x m H λa H=>kE a λx=>iz (yF (k x)) λl=>K l none H)):v7 T ev en iter m H K
 |pl(h:ev en iter m H λa H=>uz a H λl n=>K l n H):v7 T ev en iter m H K
def iI(pn:Option (Nat×dU))(H:Hp)(P:Prop):Prop:=match pn with
 |none=>P
 |some p=>aG H[p.1]? λy=>(match y with
  |.pin _ o=>o=p.2∧P
  |_=>False)
def pL(n:Option Nat)(H:Hp)(K:Option (Nat×dU)->Hp->Prop):Prop:=match n with
 |none=>K none H
 |some n=>∀o,aG H[n]? λx=>K (some (n,o)) (H.set n (.pin x o))
def fX(pn:Option (Nat×dU))(H:Hp)(K:Hp->Prop):Prop:=match pn with
 |none=>K H
 |some p=>aG H[p.1]? λy=>(match y with
  |.pin x o=>o=p.2∧K (H.set p.1 x)
  |_=>False)
noncomputable def eU(sc:iS)(nk:List (ax×gu)):List (ax×gu):=sc.names.map λ(n,k)=>if (k== .free&&nk.lookup n==some .cell)then(n,.cell)else(n,k)
noncomputable def qT(cl:List (ax×Nat)):List (ax×gu)->List (ax×Nat)->Option (List (ax×Nat))
 |[],acc=>some acc
 |p::r,acc=>match p.2== .free with
  |true=>(match cl.lookup p.1 with
   |some j=>qT cl r ((p.1,j)::acc)
   |none=>none)
  |false=>qT cl r acc
noncomputable def jx(nk:List (ax×gu))(x:ax):Bool:=nk.lookup x==some .local
noncomputable def two{α:Type}:List α->Option (α×α)
 |[]=>none
 |a::r=>match one r with
  |some b=>some (a,b)
  |none=>none
theorem pG{α:Type}{l:List α}{a:α×α}(h:two l=some a):l=[a.1,a.2]:=by
 cases l with
 |nil=>exact aJ h
 |cons b r=>
  unfold two at h;dsimp only at h;cases h1:one r with
  |none=>rw[h1]at h;exact aJ h
  |some c=>rw[h1]at h;exact aj h▸congrArg (b::·) (lb h1)
def EQ(nk:List (ax×gu))(tgt:al)(it:IT)(H:Hp)(K:Nm->Hp->Prop):Prop:=match jh tgt with
 |.one x=>ku (jx nk x) (match it with
  |.val a=>K [(x,a)] H
  |.pair a b=>K [(x,.ref H.length)] (H++[.tup [a,b]]))
 |.row es=>aG (Bz es) λxs=>aG (two xs) λx=>ku (jx nk x.1&&jx nk x.2) (match it with
  |.pair a b=>K [(x.2,b),(x.1,a)] H
  |.val a=>jY a λn=>aG (cH uv H n) λys=>aG (two ys) λy=>K [(x.2,y.2),(x.1,y.1)] H)
 |_=>False
def Iz(tr:Tr)(en:En)(ifs:List al)(m:Nm)(H:Hp)(yes no:Hp->Prop):Prop:=match ifs with
 |[]=>yes H
 |c::more=>(match more with
  |[]=>tr en c m H λb H=>Br b (yes H) (no H)
  |_::_=>False)
def jA{α:Type}(tr:Tr)(el:En->Nm->Hp->(α->Hp->Prop)->Prop)(en:En)(tgt:al)(ifs:List al)(pn:Option (Nat×dU)):List IT->Nm->Hp->(List α->Hp->Prop)->Prop
 |[],_,H,K=>iI pn H (K [] H)
 |it::r,m,H,K=>iI pn H (EQ en.nk tgt it H λl H=>Iz tr {en with loc:=some l} ifs m H (λH=>el {en with loc:=some l} m H λa H=>jA tr el en tgt ifs pn r m H λys H=>K (a::ys) H) λH=>jA tr el en tgt ifs pn r m H K)
def Dw{α:Type}(T:f6)(ev:Ev)(tr:Tr)(el:En->Nm->Hp->(α->Hp->Prop)->Prop)(en:En)(tgt iter:al)(ifs:List al)(sc:iS)(m:Nm)(H:Hp)(K:List α->Hp->Prop):Prop:=
 aG (qT en.cl sc.names []) λcl=>v7 T ev en iter m H λits n H=>its.length<=aF∧pL n H λpn H=>jA tr el ⟨eU sc en.nk,cl,none⟩ tgt ifs pn its m H λys H=>fX pn H λH=>K ys H
def nE{α:Type}(T:f6)(ev:Ev)(tr:Tr)(el:En->Nm->Hp->(α->Hp->Prop)->Prop)(en:En)(gens:List lK)(sc:iS)(m:Nm)(H:Hp)(K:List α->Hp->Prop):Prop:=aG (one gens) λg=>ku (g.is_async==0&&sk sc&&mc g.iter) (Dw T ev tr el en g.target g.iter g.ifs sc m H K)
theorem UN(g:lK)(h:g.is_async=0):g=⟨g.target,g.iter,g.ifs,0⟩:=by
 cases g;exact congrArg _ h
theorem nE.el{α:Type}{T:f6}{ev:Ev}{tr:Tr}{el:En->Nm->Hp->(α->Hp->Prop)->Prop}{en:En}{m:Nm}{H:Hp}{K:List α->Hp->Prop}(h:nE T ev tr el en gens sc m H K)(k:∀tgt iter ifs,Dw T ev tr el en tgt iter ifs sc m H K->sk sc=true->mc iter=true->gens=[⟨tgt,iter,ifs,0⟩]->C):C:=
 aG.el h λg h h1=>ku.el h λh hb=>by
  rw[aM,aM]at hb;exact k g.target g.iter g.ifs h hb.1.2 hb.2 ((lb h1).trans (congrArg (λa=>[a]) (UN g (bo hb.1.1))))
noncomputable def kh:List (ax×AV)->Bool
 |[]=>true
 |p::r=>(r.lookup p.1).isNone&&kh r
def Zo(c:Const)(K:AV->Prop):Prop:=match c with
 |.none=>K .none
 |.bool b=>K (.bool b)
 |.int i=>K (.int i)
 |.float x=>K (.flt x)
 |.complex .. =>False
 |.str x=>K (.str x)
 |.bytes .. =>False
 |.ellipsis=>False
noncomputable def û:Const->Option ax
 |.str x=>some x
 |_=>none
noncomputable def Kb:TG->Option ax
 |.cst c=>û c
 |_=>none
noncomputable def sN:List (Option al)->Option (List ax)
 |[]=>some []
 |e::es=>match e with
  |none=>none
  |some e=>(match Kb (jh e)with
   |some x=>(match sN es with
    |some xs=>some (x::xs)
    |none=>none)
   |none=>none)
def O3(ev:Ev)(en:En)(ks:List (Option al))(vs:List al)(m:Nm)(H:Hp)(K:KV):Prop:=aG (sN ks) λxs=>ku (aW xs.length vs.length&&aN xs.length 15) (yH ev en vs m H λas H=>ku (kh (xs.zip as)) (iz (xs.zip as) λkvs=>K (.ref H.length) (H++[.dct kvs])))
def qV(T:f6)(ev:Ev)(en:En)(g:AV)(as:List al)(ks:List mv)(m:Nm)(H:Hp)(pre:List AV)(K:KV):Prop:=match ks with
 |[]=>yH ev en as m H λvs H=>T.call g (pre++vs) H K
 |k::r=>(match r with
  |[]=>aG k.arg λx=>yH ev en as m H λvs H=>ev en k.value m H λa H=>T.callK g (pre++vs) x a H K
  |_::_=>False)
noncomputable def kwOk(ks:List mv):Bool:=match ks with
 |[]=>true
 |k::r=>k.arg.isSome&&r.isEmpty
noncomputable def Pc(pos:kF):List (Nat×Nat×Nat)->Option Nat
 |[]=>none
 |p::r=>match (p.1:Int)==(pos.line:Int)&&(p.2.1:Int)==(pos.col:Int)with
  |true=>some p.2.2
  |false=>Pc pos r
noncomputable def C0(ps:jl):Bool:=ps.defaults.isEmpty&&ps.kw_defaults.isEmpty
def La(e:al)(p:aI×ax)(cl:List (ax×Nat))(pos:kF)(n:Nat)(l:List (Nat×Nat×Nat))(H:Hp)(K:KV):Prop:=match Pc pos l with
 |some c=>K (.ref H.length) (H++[.lam e p.2 cl c])
 |none=>K (.ref (H.length+1)) (H.set n (.tab p.1 (l++[(pos.line,pos.col,H.length)]))++[.code p.2,.lam e p.2 cl H.length])
def Es(T:f6)(en:En)(e:al)(ps:jl)(sc:iS)(pos:kF)(H:Hp)(K:KV):Prop:=aG T.tb λp=>(en.loc=none∧C0 ps=true)∧aG (qT en.cl sc.names []) λcl=>∃n l,H[n]? =some (.tab p.1 l)∧La e p cl pos n l H K
def yY(T:f6)(ev:Ev)(tr:Tr)(en:En)(e:al)(m:Nm)(H:Hp)(K:KV):Prop:=match e with
 |.BoolOp op es _=>iw (ZC ev en op es m H) H K
 |.NamedExpr .. =>False
 |.BinOp l op r _=>ev en l m H λa H=>ev en r m H λb H=>vB op a b H K
 |.UnaryOp op x _=>op= .USub∧ev en x m H λa H=>lB a λi=>K (.int (-i)) H
 |.Lambda ps body sc pos=>Es T en (.Lambda ps body sc pos) ps sc pos H K
 |.IfExp t a b _=>iw (λK=>tr en t m H λc H=>Br c (ev en a m H K) (ev en b m H K)) H K
 |.Dict ks vs _=>O3 ev en ks vs m H K
 |.Set .. =>False
 |.ListComp elt gens sc _=>nE T ev tr (λen m H K=>ev en elt m H K) en gens sc m H λys H=>K (.ref H.length) (H++[.lst ys])
 |.SetComp .. =>False
 |.DictComp k v gens sc _=>nE (α:=ax×AV) T ev tr (λen m H K=>ev en k m H λa H=>kE a λx=>ev en v m H λb H=>K (x,b) H) en gens sc m H λkvs H=>kh kvs=true∧K (.ref H.length) (H++[.dct kvs])
 |.GeneratorExp .. =>False
 |.Await .. =>False
 |.Yield .. =>False
 |.YieldFrom .. =>False
 |.Compare l ops rs _=>aG (one ops) λop=>aG (one rs) λr=>ku (!tx op r) (ev en l m H λa H=>ev en r m H λb H=>mU op a b H λc=>K (.bool c) H)
 |.Call f as ks p=>ku (eF as) (match jh f with
  |.one x=>aG (wi en T m H x) λg=>qV T ev en g as ks m H [] K
  |.attr o n ap=>ku (ni o as ap p&&kwOk ks) (ev en o m H λa H=>aG (qr a H) λty=>aG (iJ T.meths ty n) λg=>qV T ev en (.val g) as ks m H [a] K)
  |_=>False)
 |.FormattedValue .. =>False
 |.JoinedStr .. =>False
 |.Constant c _ _=>Zo c λa=>K a H
 |.Attribute o n _=>(n=aa "_headers"∧xt o=true)∧ev en o m H λa H=>jY a λi=>aG (cH BN H i) λd=>aG (cH EP H d) λl=>K (.ref l) H
 |.Subscript v sl _=>(match jh sl with
  |.slc lo hi st=>ev en v m H λo H=>Js ev en lo m H λlo H=>Js ev en hi m H λhi H=>Js ev en st m H λst H=>Wg o lo hi st H K
  |_=>ev en v m H λo H=>ev en sl m H λi H=>vv o i H K)
 |.Starred .. =>False
 |.Name x _=>(match x==aa "__debug__" with
  |true=>K (.bool true) H
  |false=>aG (wi en T m H x) λa=>K a H)
 |.List es _=>ku (eF es) (yH ev en es m H λas H=>as.length<=aF∧K (.ref H.length) (H++[.lst as]))
 |.Tuple es _ _=>ku (eF es) (yH ev en es m H λas H=>as.length<=aF∧K (.ref H.length) (H++[.tup as]))
 |.Slice .. =>False
def UG(ev:Ev)(en:En)(l:al)(ops:List tI)(rs:List al)(m:Nm)(H:Hp)(K:Bool->Hp->Prop):Prop:=match one ops with
 |some op=>aG (one rs) λr=>ku (!tx op r) (ev en l m H λa H=>ev en r m H λb H=>mU op a b H λc=>K c H)
 |none=>aG (two ops) λop=>aG (two rs) λr=>ku (!tx op.2 r.2) (ev en l m H λa H=>ev en r.1 m H λb H=>mU op.1 a b H λc=>Br c (ev en r.2 m H λd H=>mU op.2 b d H λc=>K c H) (K false H))
def ē(ev:Ev)(en:En)(e:al)(m:Nm)(H:Hp)(K:Bool->Hp->Prop):Prop:=ev en e m H λa H=>Vs a H λc=>K c H
def Ă(ev:Ev)(tr:Tr)(en:En)(e:al)(m:Nm)(H:Hp)(K:Bool->Hp->Prop):Prop:=match jh e with
 |.uno op x=>(match op with
  |.Not=>tr en x m H λc H=>K (!c) H
  |_=>ē ev en e m H K)
 |.bop op es p=>(match es with
  |[]=>K (match op with|.And=>true|.Or=>false) H
  |x::es=>tr en x m H λc H=>(match op with
   |.And=>Br c (tr en (.BoolOp op es p) m H K) (K false H)
   |.Or=>Br c (K true H) (tr en (.BoolOp op es p) m H K)))
 |.cmp l ops rs=>UG ev en l ops rs m H K
 |.ifx=>False
 |_=>ē ev en e m H K
noncomputable def wk(T:f6)(n:Nat):Ev×Tr:=
 Nat.rec (λz z z z z=>False,λz z z z z=>False) (λz p=>(yY T p.1 p.2,Ă p.1 p.2)) n
end
variable{xs ys as:List AV}{ob:dU}{h:fk}{kvs:List (ax×AV)}{op:tI}{J:Bool->Prop}
variable{Γ:Wk w mean mg mb}{P:mh}{m:Nm}{H:Hp}{K:KV}{Q:ar->aC->Prop}{E:ar->aC->Prop}{A:dR}
section
theorem Gc{x:AO}(r:de w ρ x o):de w ρ (un x) o:=by
 induction r with
 |pin _ ih=>exact ih
 |lst k h=>exact .lst k h
 |tup h=>exact .tup h
 |cell h e=>exact .cell h e
 |cell0 e=>exact .cell0 e
 |dct hd h=>exact .dct hd h
 |rng=>exact .rng ..
 |raw=>exact .raw _
 |inst h=>exact .inst h
 |attr t h=>exact .attr t h
 |lam h hc=>exact .lam h hc
 |code hd hv=>exact .code hd hv
 |tab h=>exact .tab h
theorem bM.seen(R:bM Γ ρ P m H s){f:AO->Option β}{c:aI}{y:β}(hc:ρ[i]? =some c)(h:cH f H i=some y)(k:∀o ob,f o=some y->de w ρ o ob->s.heap.get? c=some ob->C):C:=by
 unfold cH at h;cases e:H[i]? with
 |none=>rw[e]at h;exact aJ h
 |some x=>rw[e]at h;exact R.obj hc e λob r g=>k (un x) ob h (Gc r) g
theorem B1{o:AO}{xs:List (ax×AV)}(h:vz o=some xs):o= .dct xs:=by
 cases o with
 |dct=>exact congrArg _ (aj h)
 |_=>exact aJ h
theorem ww{o:AO}(d:fG o=some xs)(r:de w ρ o ob)(k:∀vs n,bB ρ xs vs->ob=jZ vs.toArray n->C):C:=by
 induction r with
 |lst n q=>exact k _ n (aj d▸q) rfl
 |_=>exact aJ d
theorem Hs{o:AO}(d:fG o=some xs)(r:de w ρ o ob)(e:h.get? a=some ob)(k:∀vs n,bB ρ xs vs->ob=jZ vs.toArray n->h.IsList a vs.toArray->C):C:=
 ww d r λvs n q f=>k vs n q f (by subst f;exact⟨_,e,rfl,⟨_,rfl⟩⟩)
theorem Ge{o:AO}(d:uv o=some xs)(r:de w ρ o ob)(e:h.get? a=some ob)(k:∀vs,bB ρ xs vs->ob=iy vs->JT h a vs.toArray->C):C:=by
 induction r with
 |tup q=>exact k _ (aj d▸q) rfl ⟨_,e,rfl,⟨_,rfl⟩⟩
 |_=>exact aJ d
theorem BZ{o:AO}{xs:List (ax×AV)}(d:vz o=some xs)(r:de w ρ o ob)(k:∀vs,ob.IsDictOf (strKind aS w) vs->cW ρ xs vs->C):C:=by
 induction r with
 |dct hd q=>exact k _ hd (aj d▸q)
 |_=>exact aJ d
theorem bM.list(R:bM Γ ρ P m H s){c:aI}(hc:ρ[i]? =some c)(h:cH fG H i=some xs)(k:∀vs,bB ρ xs vs->s.heap.IsList c vs.toArray->C):C:=
 R.seen hc h λy y e r g=>Hs e r g λvs y q y z=>k vs q z
theorem bM.tupl(R:bM Γ ρ P m H s){c:aI}(hc:ρ[i]? =some c)(h:cH uv H i=some xs)(k:∀vs,bB ρ xs vs->JT s.heap c vs.toArray->C):C:=
 R.seen hc h λy y e r g=>Ge e r g λvs q y z=>k vs q z
inductive wQ(ρ:List aI)(vs:List (ax×ar))(x:ax):Option AV->Prop
 |yes{a:AV}{v:ar}(e:Aq vs x=some v)(r:db ρ a v):wQ ρ vs x (some a)
 |no(e:Aq vs x=none):wQ ρ vs x none
theorem FV(x y:ax)(v:ar)(vs:List (ax×ar)):Aq ((y,v)::vs) x=match decide (y=x)with
  |true=>some v
  |false=>Aq vs x:=by
 unfold Aq;rw[List.find?_cons];cases decide (y=x)<;>rfl
theorem Uu(x:ax){vs:List (ax×ar)}(h:cW ρ kvs vs):wQ ρ vs x (kvs.lookup x):=by
 induction h with
 |nil=>exact .no rfl
 |@cons y a v as vs h r ih=>
  show wQ ρ _ x (match x==y with|true=>some a|false=>as.lookup x);have f:=FV x y v vs;cases hx:x==y with
  |true=>exact .yes (f.trans (by rw[decide_eq_true (bo hx).symm])) h
  |false=>
   rw[decide_eq_false λz=>ne_of_beq_false hx z.symm]at f;show wQ ρ _ x (as.lookup x);generalize as.lookup x=o at ih;induction ih with
   |yes e r=>exact .yes (f.trans e) r
   |no e=>exact .no (f.trans e)
theorem G4{x:AO}{b:aI}(h:okA x b):okA (un x) b:=by
 induction x with
 |pin x o ih=>exact ih h
 |_=>exact h
theorem bM.dict(R:bM Γ ρ P m H s){c:aI}(hc:ρ[i]? =some c)(h:cH vz H i=some kvs)(k:∀vs,s.heap.DictOf (strKind aS w) c vs->(∀x,wQ ρ vs x (kvs.lookup x))->(c==mW)=false->C):C:=by
 unfold cH at h;cases e:H[i]? with
 |none=>rw[e]at h;exact aJ h
 |some x=>
  rw[e]at h;have e2:=B1 h;exact R.obj hc e λob r g=>BZ h (Gc r) λvs d q=>k vs (kQ.mpr ⟨ob,g,d⟩) (λx=>Uu x q) (e2▸G4 (R.ly.lo i c x hc e):okA (.dct kvs) c)
theorem Iw{a b:Int}{t u:lP}(hb:b≠0)(hi:cM (dv a b)=false)(h:Q (.float (dv a b) s.toks) {s with toks:=s.toks+1}):
  aL (cJ w) A (rK .Div (.int a t) (.int b u)) Q E s:=AutoIntOps.truediv_2 (by simpa using hb) (by unfold dv at hi;rw[hi];decide) h
theorem Ni{op:gr}{x:Int}{t u:lP}(h:U2 op x y H K)(R:bM Γ ρ P m H s)(b:Back Γ ρ P m K Q):aL (cJ w) A (rK op (.int x t) (.int y u)) Q E s:=by
 cases op with
 |Add=>exact add_int (b.new R (.int _ _) h _)
 |Sub=>exact sub_int (b.new R (.int _ _) h _)
 |Mult=>exact mul_int (b.new R (.int _ _) h.2 _) h.1
 |Mod=>exact mod_int' h.1 (b.new R (.int _ _) h.2 _)
 |FloorDiv=>exact floordiv_int h.1.1 (b.new R (.int _ _) h.2 _) (.inl h.1.2)
 |Div=>exact Iw h.1.1 h.1.2 (b.new R (.flt _ _) h.2 _)
 |Pow=>exact pow_int_small h.1.1.1 h.1.1.2 h.1.2 (b.new R (.int _ _) h.2 _)
 |_=>exact h.elim
theorem Nk{op:gr}{x y:UInt64}{t u:lP}(hA:A.handled=none)(h:U5 op x y H K)(R:bM Γ ρ P m H s)(b:Back Γ ρ P m K Q):aL (cJ w) A (rK op (.float x t) (.float y u)) Q E s:=by
 cases op with
 |Add=>exact add_float (b.new R (.flt _ _) h _)
 |Sub=>exact sub_float (b.new R (.flt _ _) h _)
 |Mult=>exact mul_float (b.new R (.flt _ _) h _)
 |Div=>exact truediv_float_or hA (λe=>G5 (e.symm.trans h.1)) (λz=>b.new R (.flt _ _) h.2 _)
 |Mod=>exact Flt.mod_ff hA (λe=>G5 (e.symm.trans h.1)) (λz=>b.new R (.flt _ _) h.2 _)
 |_=>exact h.elim
theorem Nj{op:gr}{x:UInt64}{t u:lP}(hA:A.handled=none)(h:U4 op x y H K)(R:bM Γ ρ P m H s)(b:Back Γ ρ P m K Q):aL (cJ w) A (rK op (.float x t) (.int y u)) Q E s:=by
 cases op with
 |Sub=>exact sub_fi_sharp hA (λe=>(jL.not h.1 e).elim) λz=>b.new R (.flt _ _) h.2 _
 |Mult=>exact mul_fi_sharp hA (λe=>(jL.not h.1 e).elim) λz=>b.new R (.flt _ _) h.2 _
 |_=>exact h.elim
theorem Ng{op:gr}{c:aI}(h:U0 op i j H K)(hc:ρ[i]? =some c)(hd:ρ[j]? =some d)(R:bM Γ ρ P m H s)(b:Back Γ ρ P m K Q):aL (cJ w) A (rK op (.ref c) (.ref d)) Q E s:=by
 cases op with
 |Add=>
  refine aG.el h λxs h e1=>aG.el h λys h e2=>R.list hc e1 λvs r1 l1=>R.list hd e2 λus r2 l2=>?_
  exact R.made (ok:=λz z=>br) b (d8 (k:=λzs=>K (.ref H.length) (H++[.lst zs])) h.2) λmm l F N fin=>add_lists F N l1 l2 (λh' F' N'=>fin _ h' s.toks (λρ' x=>.lst 0 ((r1.app r2).mono x)) F' N') (r1.len▸r2.len▸h.1)
 |_=>exact h.elim
theorem Nh{op:gr}{n:Int}{t:lP}{c:aI}(h:U1 op i n H K)(hc:ρ[i]? =some c)(R:bM Γ ρ P m H s)(b:Back Γ ρ P m K Q):aL (cJ w) A (rK op (.ref c) (.int n t)) Q E s:=by
 cases op with
 |Mult=>
  refine aG.el h λxs h e=>R.list hc e λvs r l=>?_
  rw[h.1.1];exact R.add λmm l' F N fin=>KMa.mul F N l (by decide) (by decide) (aq (kG _ (r.len▸ae h.1.2)) (by decide)) (congrArg (vs++·) (be vs)) λD h' F' N' lt=>b.put (dg.one ρ D) (R.top D) (fin D _ _ h' s.toks (λρ' x=>.lst 0 ((r.app r).mono x)) F' N' lt br) (d8 (k:=λzs=>K (.ref H.length) (H++[.lst zs])) h.2)
 |_=>exact h.elim
theorem UZ{op:gr}{a c:AV}{u:ar}(hA:A.handled=none)(h:vB op a c H K)(ra:db ρ a v)(rc:db ρ c u)(R:bM Γ ρ P m H s)(b:Back Γ ρ P m K Q):aL (cJ w) A (rK op v u) Q E s:=by
 induction ra with
 |int x=>
  have h:lB c λy=>U2 op x y H K:=h
  refine lB.el h rc λy t h=>?_
  with_reducible exact Ni h R b
 |flt x=>induction rc with
  |flt y=>
   have h:U5 op x y H K:=h
   with_reducible exact Nk hA h R b
  |int y=>
   have h:U4 op x y H K:=h
   with_reducible exact Nj hA h R b
  |_=>exact h.elim
 |str x=>
  have h:kE c λy=>ZG op x y H K:=h
  refine kE.el h rc λy t h=>?_
  cases op with
  |Add=>exact SBL.add (λt' k z=>b.new R (.str _ _) h.2 _) h.1
  |_=>exact h.elim
 |ref i c hc=>induction rc with
  |ref j d hd=>
   have h:U0 op i j H K:=h
   with_reducible exact Ng h hc hd R b
  |int n=>
   have h:U1 op i n H K:=h
   with_reducible exact Nh h hc R b
  |_=>exact h.elim
 |_=>exact h.elim
theorem MT{x:Int}{t u:lP}(h:aG (MU op x y) J)(q:∀c,J c->Q (.bool c) s):aL (cJ w) A (jV op (.int x t) (.int y u)) Q E s:=by
 cases op with
 |Lt=>exact lt_int (q _ h)
 |LtE=>exact le_int (q _ h)
 |Gt=>exact gt_int (q _ h)
 |GtE=>exact ge_int (q _ h)
 |Eq=>exact eq_int (q _ h)
 |NotEq=>exact ne_int (q _ h)
 |_=>exact h.elim
theorem MV{x y:UInt64}{t u:lP}(h:aG (UH op x y) J)(q:∀c,J c->Q (.bool c) s):aL (cJ w) A (jV op (.float x t) (.float y u)) Q E s:=by
 cases op with
 |Lt=>exact w6 (q _ h)
 |LtE=>exact AutoFloatOps.le_0 (q _ h)
 |Eq=>exact AutoFloatOps.eq_0 (q _ h)
 |_=>exact h.elim
theorem MS{x y:ax}{t u:lP}(h:aG (IE op x y) J)(q:∀c,J c->Q (.bool c) s):aL (cJ w) A (jV op (.str x t) (.str y u)) Q E s:=by
 cases op with
 |Eq=>exact PyProof.Rows.eq_str (q _ h)
 |NotEq=>exact PyProof.Rows.ne_str (q _ h)
 |In=>exact in_str (q _ h)
 |NotIn=>exact notIn_str (q _ h)
 |_=>exact h.elim
theorem G7{a:AV}{c:Bool}(h:CZ a=some c)(r:db ρ a v):(v==eG)=c:=by
 induction r with
 |none=>exact aj h
 |int=>exact aj h
 |str=>exact aj h
 |ref=>exact aj h
 |val v=>
  cases v with
  |ref=>exact aj h
  |_=>exact aJ h
 |_=>exact aJ h
theorem Mg{q:Bool}(h:Ez op=some q)(k:Q (.bool (Ag (v==eG) q)) s):aL (cJ w) A (jV op v .none) Q E s:=by
 cases op with
 |Is=>
  obtain rfl:=aj h;exact is_none_gen k
 |IsNot=>
  obtain rfl:=aj h;exact isnot_none_gen k
 |_=>exact aJ h
theorem Tk{x:ax}{t:lP}{c:aI}(h:aG (HS op) λq=>aG (cH vz H n) λkvs=>J (Ag (kvs.lookup x).isSome q))(hc:ρ[n]? =some c)(R:bM Γ ρ P m H s)(q:∀c n,J c->Q (.bool c) {s with toks:=n}):aL (cJ w) A (jV op (.str x t) (.ref c)) Q E s:=by
 refine aG.el h λp h e=>aG.el h λkvs h e1=>R.dict hc e1 λvs d l lo=>?_
 have lk:(Aq vs x).isSome=(kvs.lookup x).isSome:=by
  have z:=l x;generalize kvs.lookup x=o at z;cases z with
  |yes e=>exact congrArg _ e
  |no e=>exact congrArg _ e
 rw[<-lk]at h;cases op with
 |In=>
  obtain rfl:=aj e;exact wpAny_in_of (pD _ _ _ _) lo d.mapOf (q _ _ h)
 |NotIn=>
  obtain rfl:=aj e;exact wpAny_notIn_of (pD _ _ _ _) lo d.mapOf (q _ _ h)
 |_=>exact aJ e
open PySem.SeqAt
theorem BW{a b:AV}{u:ar}(h:VL a b)(ra:db ρ a v)(rb:db ρ b u):EqAt A s v u true:=by
 induction h with
 |int i=>exact db.I ra λt=>db.I rb λt'=>(beq_self_eq_true i)▸EqAt.int_int i t i t'
 |str x=>exact db.S ra λt=>db.S rb λt'=>(beq_self_eq_true x)▸EqAt.str_str x t x t'
theorem DI(n:Nat):((cQ n).all λz=>true)=true:=aB.mpr λz z=>rfl
theorem Uc{a b:AV}{u:ar}(h:ó H a b)(R:bM Γ ρ P m H s)(hu:A.in1.units<df)(ra:db ρ a v)(rb:db ρ b u):EqAt A.in1 s v u true:=by
 induction h with
 |sc h=>exact BW h ra rb
 |pair h k p q=>
  refine db.R ra λc hc=>db.R rb λd hd=>?_
  by_cases e:c=d
  ·exact e▸EqAt.same _
  ·refine EqAt.of_refs e (R.tupl hc h λvs r=>bB.c2 r λy y r1 r2 z=>R.tupl hd k λus r'=>bB.c2 r' λy y r1' r2' z'=>?_)
   exact RcAt.tuples (A:=A.in1) (e:=λy=>true) z z' hu λj h1 y=>match j,h1 with
    |0,_=>BW p r1 r1'
    |1,_=>BW q r2 r2'
theorem pY.len(h:pY H xs ys):xs.length=ys.length:=by
 induction h with
 |nil=>rfl
 |cons _ _ ih=>exact congrArg eJ ih
theorem MG(h:pY H xs ys)(R:bM Γ ρ P m H s)(hu:A.in1.units<df):∀{vs us:List ar},bB ρ xs vs->bB ρ ys us->∀(j:Nat)(v u:ar),vs[j]? =some v->us[j]? =some u->EqAt A.in1 s v u true:=by
 induction h with
 |nil=>
  intro vs us r1;refine bB.c0 (C:=λvs=>bB ρ [] us->∀(j:Nat)(v u:ar),vs[j]? =some v->us[j]? =some u->EqAt A.in1 s v u true) r1 λz j v u e=>mz e
 |cons h _ ih=>
  intro vs us r1 r2 j
  revert vs us
  cases j with
  |zero=>
   intro vs us r1 r2;exact bB.hd (C:=λvs=>∀v u,vs[0]? =some v->us[0]? =some u->EqAt A.in1 s v u true) r1 λz vs a r1=>bB.hd (C:=λus=>∀v u,(_::vs)[0]? =some v->us[0]? =some u->EqAt A.in1 s v u true) r2 λz us b r2 v u e f=>aj e▸aj f▸Uc h R hu a b
  |succ j=>
   intro vs us r1 r2;exact bB.hd (C:=λvs=>∀v u,vs[j+1]? =some v->us[j+1]? =some u->EqAt A.in1 s v u true) r1 λz vs a r1=>bB.hd (C:=λus=>∀v u,(_::vs)[j+1]? =some v->us[j+1]? =some u->EqAt A.in1 s v u true) r2 λz us b r2=>ih r1 r2 j
theorem Ud{c:aI}(hu:A.in1.units<df)(hu':A.units<df)(h:aG (BX op) λq=>aG (cH fG H i) λxs=>aG (cH fG H j) λys=>(xs.length<=aF∧ys.length<=aF)∧NI H xs ys q J)(hc:ρ[i]? =some c)(hd:ρ[j]? =some d)(R:bM Γ ρ P m H s)(q:∀c n,J c->Q (.bool c) {s with toks:=n}):aL (cJ w) A (jV op (.ref c) (.ref d)) Q E s:=by
 refine aG.el h λp h e=>aG.el h λxs h e1=>aG.el h λys h e2=>R.list hc e1 λvs r1 l1=>R.list hd e2 λus r2 l2=>?_
 cases h.2 with
 |ne ne k=>
  have sz:vs.toArray.size≠us.toArray.size:=λe=>ne (r1.len▸r2.len▸e)
  cases op with
  |Eq=>
   obtain rfl:=aj e;exact RcAt.lists_lengths (A:=A) l1 l2 (bne_iff_ne.mpr sz) hu' _ w E Q (q _ s.toks k)
  |NotEq=>
   obtain rfl:=aj e;exact RcNeAt.lists_lengths (A:=A) l1 l2 (bne_iff_ne.mpr sz) hu' _ w E Q (q _ s.toks k)
  |_=>exact aJ e
 |eq z k=>
  have ln:vs.length=us.length:=r1.len.trans (z.len.trans r2.len.symm);have it:=MG z R hu r1 r2;cases op with
  |Eq=>
   obtain rfl:=aj e;exact RcAt.lists (A:=A) (e:=λy=>true) l1 l2 ln hu' (λj h1 h2=>it j _ _ (bb h1) (bb h2)) _ w E Q ((DI _).symm▸q _ s.toks k)
  |NotEq=>
   obtain rfl:=aj e;exact RcNeAt.lists (A:=A) (e:=λy=>true) l1 l2 ln hu' (λj h1 h2=>it j _ _ (bb h1) (bb h2)) _ w E Q ((DI _).symm▸q _ s.toks k)
  |_=>exact aJ e
theorem yS(r:bB ρ as vs):∀{ts:List ax},jT gX as=some ts->StrsAre vs ts:=by
 induction r with
 |nil=>exact λe=>aj e▸ .nil
 |@cons a _ as _ h _ ih=>
  intro ts e;have e:((gX a).bind λx=>(jT gX as).bind λxs=>some (x::xs))=some ts:=e;induction h with
  |str y t=>
   cases e2:jT gX as with
   |none=>rw[e2]at e;exact aJ e
   |some xs=>rw[e2]at e;exact aj e▸ .cons _ _ (ih e2)
  |_=>exact aJ e
theorem KU{x:ax}{t:lP}{c:aI}(h:aG (HS op) λq=>BF x n H λc=>J (Ag c q))(hc:ρ[n]? =some c)(R:bM Γ ρ P m H s)(q:∀c n,J c->Q (.bool c) {s with toks:=n}):aL (cJ w) A (jV op (.str x t) (.ref c)) Q E s:=by
 unfold BF at h;cases e:cH vz H n with
 |some kvs=>rw[e]at h;exact Tk (aG.el h λp h e1=>aw e1 (aw e h)) hc R q
 |none=>
  rw[e]at h;exact aG.el h λp h e0=>aG.el h λxs h e1=>aG.el h λts h e2=>R.list hc e1 λvs r l=>by
   cases op with
   |In=>
    obtain rfl:=aj e0;exact in_list_strs l (yS r e2) (q _ s.toks h)
   |NotIn=>
    obtain rfl:=aj e0;exact notin_list_strs l (yS r e2) (q _ s.toks h)
   |_=>exact aJ e0
theorem Gy{u:ar}(h:Gz v u=true):v=u∧plainIs u u=true:=by
 cases v with
 |type x=>
  cases u with
  |type y=>exact⟨congrArg _ (bo h),rfl⟩
  |_=>exact bj h
 |_=>exact bj h
theorem Gx{q:Bool}(h:Ez op=some q)(p:plainIs v v=true)(k:Q (.bool (Ag true q)) s):aL (cJ w) A (jV op v v) Q E s:=by
 cases op with
 |Is=>
  obtain rfl:=aj h;exact wpAny_is_self p k
 |IsNot=>
  obtain rfl:=aj h;exact wpAny_isNot_self p k
 |_=>exact aJ h
theorem yd{a c:AV}{u:ar}(h:mU op a c H J)(ra:db ρ a v)(rc:db ρ c u)(R:bM Γ ρ P m H s)(q:∀c n,J c->Q (.bool c) {s with toks:=n}):aL (cJ w) Γ.A (jV op v u) Q E s:=by
 induction rc with
 |int y=>induction ra with
  |int x=>
   have h:aG (MU op x y) J:=h
   with_reducible exact MT h λc=>q c s.toks
  |flt x=>
   obtain⟨e,h⟩:op= .Eq∧J (gQ x y==some fH):=h;subst e;exact eq_fi (q _ s.toks h)
  |_=>exact h.elim
 |flt y=>
  have h:v5 a λx=>aG (UH op x y) J:=h
  refine v5.el h ra λx t h=>?_
  with_reducible exact MV h λc=>q c s.toks
 |str y=>
  have h:kE a λx=>aG (IE op x y) J:=h
  refine kE.el h ra λx t h=>?_
  with_reducible exact MS h λc=>q c s.toks
 |none=>
  have h:aG (Ez op) λq=>aG (CZ a) λc=>J (Ag c q):=h
  exact aG.el h λp h e1=>aG.el h λz h e2=>Mg e1 (q _ s.toks (G7 e2 ra▸h))
 |ref n d hd=>induction ra with
  |str x=>
   have h:aG (HS op) λq=>BF x n H λc=>J (Ag c q):=h
   with_reducible exact KU h hd R q
  |ref i c hc=>
   have h:aG (BX op) λq=>aG (cH fG H i) λxs=>aG (cH fG H n) λys=>(xs.length<=aF∧ys.length<=aF)∧NI H xs ys q J:=h
   exact Ud (A:=Γ.A) (dD (g8 (by decide:1<8) Γ.un) Γ.ru) (bh (a9 _ _) Γ.ru) h hc hd R q
  |_=>exact h.elim
 |val u=>
  have h:aG (Ez op) λq=>DG a λv=>ku (Gz v u) (J (Ag true q)):=h
  refine aG.el h λp h e=>DG.el (C:=λv=>aL (cJ w) Γ.A (jV op v u) Q E s) h ra λv h=>ku.el h λh2 e2=>?_
  obtain⟨rfl,hp⟩:=Gy e2;exact Gx e hp (q _ s.toks h2)
 |_=>exact h.elim
theorem Ĝ(n:Nat):((n:Int) != 0)=(n != 0):=by cases n<;>rfl
theorem Of(h:n<=aF):(n:Int)<=16777216:=fj.mpr (aq h (bP nH))
theorem Be{a:AV}{Q:Bool->aC->Prop}(h:Vs a H J)(r:db ρ a v)(R:bM Γ ρ P m H s)(q:∀c n,J c->Q c {s with toks:=n}):aL (cJ w) A (Pj v) Q E s:=by
 induction r with
 |bool=>exact nF (q _ s.toks h)
 |int=>exact truthy_int (q _ s.toks h)
 |none=>exact truthy_none (q _ s.toks h)
 |str x=>
  have h:x.length<=aF∧J (x.length != 0):=h;have z:((x.length:Nat):Int)<=16777216:=Of h.1;refine SBL.truthy (dQ z (by decide)) (q _ _ ?_);have e:((x.length:Int) != 0)=(x.length != 0):=Ĝ _;exact e▸h.2
 |ref n d hd=>
  have h:aG (cH fG H n) λxs=>xs.length<=aF∧J (xs.length != 0):=h
  refine aG.el h λxs h e=>R.list hd e λvs r l=>wpAny_truthy_list l (dQ (Of (show vs.length<=aF from r.len▸h.1)) (by decide)) (q _ _ ?_)
  have e:(!vs.toArray.isEmpty)=(xs.length != 0):=by
   rw[<-r.len];cases vs<;>rfl
  exact e▸h.2
 |_=>exact h.elim
end
variable{body orelse:List cP}{pos:kF}{target:Expr}{it:ar}{g:Nat}
section
set_option backward.match.sparseCases true
open Sem (wp)
section
variable{M:E6}{R:GenEnd}{Y:vI}{s₀:aC}{c:FH}{fs:List Frame}{env:qk}{K:lL->o6 Fin}{H:ar->o6 Fin}{gd:Bool->Bool}{lv:List ar->List ar}
theorem uB{test:Expr}
  (h:aL M (A.over c fs) (isTrue test env (eval test env)) (λb s'=>if b=true then Jd M A R Y n s₀ c ((kN body env).wrap K H gd lv) fs s' else Jd M A R Y n s₀ c ((kN orelse env).wrap K H gd lv) fs s')
   (λx s'=>Jd M A R Y n s₀ c (H x) fs s') s):Jd M A R Y n s₀ c ((exec (.If test body orelse pos) env).wrap K H gd lv) fs s:=by
 rw[exec_If];refine fE (d6 (fE (eQ h (λb s' hb=>?_) λz z x=>x)));cases b<;>simpa using hb
noncomputable abbrev OD(env:qk)(K:lL->o6 Fin)(H:ar->o6 Fin)(gd:Bool->Bool)(lv:List ar->List ar):rL->o6 Fin:=λr=>
 ((match r with|.ok f=>(.pure f:o6 lL)|.error e=>.raise e).onRaise λ(x:ar)=>do
    if (<-yx x 1)==eG then unsupported "frame.own-activation:exception-without-traceback"
    setFlight x env.frame).wrap K H gd lv
theorem Hv{env:qk}{K:lL->o6 Fin}{H:ar->o6 Fin}{gd:Bool->Bool}{lv:List ar->List ar}(f:lL):OD env K H gd lv (.ok f)=K f:=rfl
theorem Ks{iter:Expr}(hs:∀x,foldedSetIterable iter env x=pure x)
  (h:aL M (A.over c fs) (eval iter env) (λx s₁=>aL M (A.over c fs) (wU x) (λit s₂=>∀p,Jd M A R Y n s₀ (.forLoop target it body orelse env) (M.den (.forLoop target it body orelse env))
    (.ret (OD env K H gd lv) none (gd false) (lv []) c p []::fs) s₂) (λx s'=>Jd M A R Y n s₀ c (H x) fs s') s₁) (λx s'=>Jd M A R Y n s₀ c (H x) fs s') s):
  Jd M A R Y n s₀ c ((exec (.For target iter body orelse pos) env).wrap K H gd lv) fs s:=by
 rw[exec_For];refine fE (d6 (fE (eQ h (λx s₁ h₁=>?_) λz z x=>x)));refine fE (rG (hs x) (fE (d6 (fE (cE (eQ h₁ (λit s₂ h₂=>?_) λz z x=>x))))));exact seg_call h₂
end
section
variable{prog:eC}{R:GenEnd}{Y:vI}{s₀:aC}{fs:List Frame}{env:qk}
noncomputable abbrev Ov(env:qk):ar->o6 Fin:=λe=>(do sB e env;l7 e:o6 Unit).wrap (λz=>.raise e) .raise id id
set_option tactic.hygienic true in
theorem y8
  (h:aL (dc prog w) (A.over (.forLoop target it body orelse env) fs) (i9 it) (λr s₁=>match r with
    |none=>Jd (dc prog w) A R Y n s₀ (.forLoop target it body orelse env) (.pure (.again (.block orelse env))) fs s₁
    |some v=>aL (dc prog w) (A.over (.forLoop target it body orelse env) fs) (jH target it v) (λ_ s₂=>
      aL (dc prog w) (A.over (.forLoop target it body orelse env) fs) (kq target env v) (λ_ s₃=>
       Jd (dc prog w) A R Y n s₀ (.forLoop target it body orelse env) ((kN body env).wrap (λf=>match f with
        |.next|.cont=>.pure (.again (.forLoop target it body orelse env))
        |.brk=>.pure (.done .next)
        |.ret v=>.pure (.done (.ret v))) (Ov env) id id) fs s₃)
       (λ_ _=>False) s₂) (λ_ _=>False) s₁) (λ_ _=>False) s):
  Jd (dc prog w) A R Y n s₀ (.forLoop target it body orelse env) ((dc prog w).den (.forLoop target it body orelse env)) fs s:=by
 show Jd _ A R Y n s₀ _ ((forTurn target it body orelse env).onRaise (λx=>do sB x env;l7 x)) fs s;unfold forTurn;rw[Sem.onRaise_eq_wrap];refine fE (d6 (fE (wpAny_onRaise (eQ h (λr s₁ h₁=>?_) λ_ _ x=>x.elim))));induction r with
 |none=>exact h₁
 |some v=>
  refine fE (eQ h₁ (λ_ s₂ h₂=>fE (eQ h₂ (λ_ s₃ h₃=>?_) λ_ _ x=>x.elim)) λ_ _ x=>x.elim);rw[Sem.bind_eq_wrap',Sem.wrap_wrap];rw[Sem.wrap_congr (kN body env) _ _ (K':=λf=>match f with
      |.next|.cont=>.pure (.again (.forLoop target it body orelse env))
      |.brk=>.pure (.done .next)
      |.ret v=>.pure (.done (.ret v))) (H':=Ov env)
    (λf=>by cases f<;>rfl)
    (λe=>by first|exact JP _ _|(show(do sB e env;l7 e:o6 Unit).bind (λ_=>.raise e)=_;rw[JP]))]
  exact h₃
set_option tactic.hygienic true in
theorem vU(h:Jd (dc prog w) A R Y n s₀ (.block [] env) (.pure (.done .next)) fs s):
  Jd (dc prog w) A R Y n s₀ (.block [] env) ((dc prog w).den (.block [] env)) fs s:=h
end
section
variable{prog:eC}
theorem lR{n:Nat}{gs:bR}{P:Nat->aC->aC->Prop}{Y:vI}{Q:Option ar->aC->Prop}(hh:A.handled=none)
  (hl:s.heap.NoLimit)(hroom:A.depth<aP)
  (hg:s.heap.IsGen a g)(hgs:s.gens[g]? =some gs)
  (hgo:gs.Goes (dc prog w) A.in1 (λn s₀ r s₁=>r= .ok (.ret .none)∧P n s₀ s₁) Y n (.send .none) (s.setGen g .running))
  (hY:∀v s₁ gs',gs'.bare=true->Y (n - 1) (s.setGen g .running) v s₁ (λr' s''=>match n with
    |0=>False
    |m+1=>gs'.Goes (dc prog w) A.in1 (λn s₀ r s₁=>r= .ok (.ret .none)∧P n s₀ s₁) Y m r' s'')->Q (some v) (s₁.setGen g gs'))
  (hP:∀s₁,P n (s.setGen g .running) s₁->∀h',(∀b o,s₁.heap.get? b=some o->h'.get? b=some o)->Q none {s₁.setGen g .finished with heap:=h'}):
  aL (dc prog w) A (i9 (.ref a)) Q E s:=by
 unfold i9;refine az (tw (fV (name:=aa "__next__") hg.typeIs slot_gen_next
  (fw slot_gen_next hg.typeIs entry_gen_next ?_ (args_gen_next _))))
 show aL _ A.in1 (o9 (.ref a) (.send .none)) _ _ s;unfold o9;refine az (cE (wpAny_genNumber hg (az (wpAny_genState hgs ?_))));induction gs with
 |running=>exact hgo.elim
 |finished=>exact hgo.elim
 |_=>
  refine az (wpAny_roomToWake hl hroom ?_);show aL _ A.in1 (.resume g (.send .none) [] _) _ _ s;refine wpAny_resumeQ hgs hgo (λx s₁ hx=>?_) (λv s₁ gs' hb hv=>?_)
  ·obtain⟨rfl,hp⟩:=hx
   show aL _ A.in1 (Fz (.type "StopIteration") []>>=_) _ _ _;refine az ?_;simp only [Fz,JM];refine az (ed ?_ (by size_fits));refine az (m:=ko _ _) (rG (a:=eG) (by first|rfl|(simp only [ko];rfl)) ?_);refine ed ?_ (by size_fits);simp only [raiseNew];refine az (az (DL ?_))
   first|rw[show A.in1.handled=none from hh]|rw[hh]
   refine JH ?_;refine az (wT (T:="StopIteration") (b:=true) ⟨_,bE _ rfl,rfl⟩ AK ?_);exact aV (hP s₁ hp _ λb o hb=>aR _ (aR _ hb))
  ·exact aV ⟨v,rfl,aV (hY v s₁ gs' hb hv)⟩
end
end
variable{gs gs':Array bR}{O:List aI}
section
set_option backward.match.sparseCases true
open Sem (wp)
noncomputable def gA:List ar:=[.type "generator",.type "frame",.type "enumerate",.type "str_iterator",.type "str_ascii_iterator"]
def Í(o:dU):Prop:=o.cls∈gA∨∃es ep,o.data= .dict es ep∧nsFind es "addr"≠none
def I0(o:dU):Prop:=o.cls∉gA∧∀es ep,o.data= .dict es ep->nsFind es "addr"=none
def Am(news:gO):Prop:=∀q∈news,I0 q.2
def Apart(own news:gO):Prop:=∀p∈own,∀q∈news,p.1≠q.1
theorem Am.nil:Am []:=λz h=>nomatch h
theorem Am.cons{a:aI}{news:gO}(h:I0 o)(x:Am news):Am ((a,o)::news):=λq hq=>by
 rcases aE.mp hq with rfl|hq
 ·exact h
 ·exact x q hq
theorem Apart.append{own a b:gO}(x:Apart own a)(y:Apart own b):Apart own (a++b):=λp hp q hq=>by
 rcases aT.mp hq with hq|hq
 ·exact x p hp q hq
 ·exact y p hp q hq
theorem Apart.right{own a b:gO}(x:Apart own (a++b)):Apart own b:=λp hp q hq=>x p hp q (au _ hq)
noncomputable abbrev lq(g:Nat)(nm qn:ar):dU:={cls:=.type "generator",data:=.fields #[.int g 0,nm,qn]}
inductive sV(O:List aI)(s₀ s:aC):Prop
 |mk(h')(tk)(p1:s={s₀ with heap:=h',toks:=tk})(p2:∀b o,b∉O->s₀.heap.get? b=some o->h'.get? b=some o):sV O s₀ s
def sx(own:gO)(h:fk):Prop:=∀p∈own,h.get? p.1=some p.2
def Kept(h₀ h:fk):Prop:=∀b o,h₀.get? b=some o->h.get? b=some o
inductive I9(h₀:fk)(V:Nat->List ar->Prop)(n:Nat)(a:aI)(g:Nat)(O:List aI)(m:Nat)(s₀:aC)(s:aC)(kap:Resume->aC->Prop):ar->Prop
 |mk(T:aI)(vals:List ar)(own':gO)(hV:V (n - 1 - m) vals)(p2:s₀.heap.get? T=none)(p3:T∉O)(p4:s.heap.get? T=some (iy vals))(p5:own'.map (·.1)=O)(p6:sx own' s.heap)(p7:∀p∈own',Í p.2)
  (p8:∃nm qn,(a,lq g nm qn)∈own')(p9:sV O s₀ s)(p10:∀s'':aC,sx own' s''.heap->Kept h₀ s''.heap->kap (.send .none) s''):I9 h₀ V n a g O m s₀ s kap (.ref T)
noncomputable abbrev Mz(h₀:fk)(V:Nat->List ar->Prop)(n:Nat)(a:aI)(g:Nat)(O:List aI):vI:=λm s₀ v s kap=>I9 h₀ V n a g O m s₀ s kap v
structure mP(prog:eC)(w:gf)(A:dR)(h₀:fk)(n:Nat)(V:Nat->List ar->Prop)(a:aI)(g:Nat)(j:Nat)(own:gO)(gs:Array bR):Prop where
 self:∃nm qn,(a,lq g nm qn)∈own
 cls:∀p∈own,Í p.2
 goes:∃st,gs[g]? =some st∧∀s'':aC,sx own s''.heap->Kept h₀ s''.heap->∃O:List aI,(∀p∈own,p.1∈O)∧(∀b∈O,b∈own.map (·.1)∨s''.heap.objs.size<=b)∧
  st.Goes (dc prog w) A.in1 (λn s₀ r s₁=>r= .ok (.ret .none)∧(n=0∧sV O s₀ s₁)) (Mz h₀ V n a g O) (n - j) (.send .none) s''
theorem mP.moved{prog:eC}{w:gf}{A:dR}{h₀:fk}{n:Nat}{V:Nat->List ar->Prop}{a:aI}{g j:Nat}{own:gO}(x:mP prog w A h₀ n V a g j own gs)(h:gs'[g]? =gs[g]?):
  mP prog w A h₀ n V a g j own gs':=⟨x.self,x.cls,let ⟨st,e,r⟩:=x.goes;⟨st,h.trans e,r⟩⟩
section
variable{prog:eC}{m:ax->Option ar}{V:Nat->List ar->Prop}{own news:gO}
theorem mP.isGen(x:mP prog w A h₀ n V a g j own s.gens)(N:sx own s.heap):s.heap.IsGen a g:=by
 obtain⟨nm,qn,hm⟩:=x.self;exact⟨_,nm,qn,N _ hm,rfl,rfl,rfl⟩
theorem qC{h':fk}(x:h.NoLimit)(k:Kept h h'):h'.NoLimit:=x.keeps k
theorem r7{h':fk}(F:Fr h₀ L s.heap m)(N:dJ h₀ L s.heap (own++news))(ap:Apart own news)
  (hO:∀b∈O,b∈own.map (·.1)∨s.heap.objs.size<=b)(hk:∀b o,b∉O->s.heap.get? b=some o->h'.get? b=some o):Fr h₀ L h' m∧dJ h₀ L h' news:=by
 have hL:L∉O:=λhm=>by
  rcases hO L hm with h|h
  ·obtain⟨p,hp,e⟩:=bY.mp h
   exact(N p (av _ hp)).2.1 e
  ·obtain⟨o,_,_,e,_⟩:=F.ns
   exact absurd (bw e) (dm.mpr h)
 refine⟨⟨F.ns.at' λo e=>hk L o hL e,λb o e=>hk b o (λhm=>?_) (F.keep b o e),F.above⟩,λq hq=>⟨hk _ _ (λhm=>?_) (N q (au _ hq)).1,(N q (au _ hq)).2⟩⟩
 ·rcases hO b hm with h|h
  ·obtain⟨p,hp,rfl⟩:=bY.mp h
   rw[(N p (av _ hp)).2.2]at e;exact aJ e
  ·exact absurd (bw (F.keep b o e)) (dm.mpr h)
 ·rcases hO q.1 hm with h|h
  ·obtain⟨p,hp,e⟩:=bY.mp h
   exact ap p hp q hq e
  ·exact absurd (bw (N q (au _ hq)).1) (dm.mpr h)
theorem EF{Q:Option ar->aC->Prop}(hh:A.handled=none)(hroom:A.depth<aP)(hl:h₀.NoLimit)(hj:j<n)(G:mP prog w A h₀ n V a g j own s.gens)
  (F:Fr h₀ L s.heap m)(N:dJ h₀ L s.heap (own++news))(ap:Apart own news)
  (hQ:∀T vals own' h' gs' tk,V j vals->Fr h₀ L h' m->dJ h₀ L h' (own'++(T,iy vals)::news)->Apart own' ((T,iy vals)::news)->(∀p∈news,p.1≠T)->mP prog w A h₀ n V a g (j+1) own' gs'->JV g s.gens gs'->
   Q (some (.ref T)) {s with heap:=h',gens:=gs',toks:=tk}):aL (dc prog w) A (i9 (.ref a)) Q E s:=by
 have hin:sx own s.heap:=λp hp=>(N p (av _ hp)).1
 obtain⟨st,hst,hgo⟩:=G.goes;obtain⟨O,hsub,hO,hgo⟩:=hgo (s.setGen g .running) hin F.keep;obtain⟨k,hk⟩:=Qu hj;rw[hk]at hgo;refine lR (P:=λn s₀ s₁=>n=0∧sV O s₀ s₁) hh (qC hl F.keep) hroom (G.isGen hin) hst hgo (λv s₁ gs' hb hv=>?_) (λs₁ hp h' hk=>?_)
 ·obtain⟨T,vals,own',hV,hT,hTO,hTt,hmap,hin',hcls,hself,⟨h₁,tk₁,rfl,hk₁⟩,hkap⟩:=hv
  have hidx:n - 1 - (k+1 - 1)=j:=Tq hk;have hnx:=HT hk;rw[hidx]at hV;obtain⟨F₁,N₁⟩:=r7 F N ap hO hk₁;have hLlt:L<s.heap.objs.size:=by obtain⟨o,_,_,e,_⟩:=F.ns;exact bw e
  refine hQ T vals own' h₁ _ tk₁ hV F₁ (λp hp=>?_) (λp hp q hq=>?_) (λp hp e=>by have:=(N p (au _ hp)).1;rw[e]at this;have hT:s.heap.get? T=none:=hT;rw[hT]at this;cases this) ⟨hself,hcls,gs',nI (gs:=.running) (nI hst),λs'' hi hk=>⟨O,λp hp=>hmap▸cZ hp,λb hb=>.inl (hmap▸hb),?_⟩⟩
   (JU ((nW s g .running).trans (nW _ g gs')) (nI (gs:=.running) (nI hst)) hb)
  ·rcases aT.mp hp with hp|hp
   ·have hb:p.1∈O:=hmap▸cZ hp
    refine⟨hin' p hp,?_⟩;rcases hO _ hb with h|h
    ·obtain⟨q,hq,e⟩:=bY.mp h
     exact e▸(N q (av _ hq)).2
    ·have h:s.heap.objs.size<=p.1:=h
     exact⟨cu (bx hLlt h),dj (aq F.above (aq (b0 hLlt) h))⟩
   ·rcases aE.mp hp with rfl|hp
    ·refine⟨hTt,λe=>?_,?_⟩
     ·obtain⟨o,_,_,e',_⟩:=F.ns
      have hT:s.heap.get? T=none:=hT;rw[show T=L from e,e']at hT;exact yZ hT
     ·cases q:h₀.get? T with
      |none=>rfl
      |some o=>
       have hT:s.heap.get? T=none:=hT;rw[F.keep T o q]at hT;exact yZ hT
    ·exact N₁ p hp
  ·have hb:p.1∈O:=hmap▸cZ hp
   rcases aE.mp hq with rfl|hq
   ·exact λ(e:p.1=T)=>hTO (e▸hb)
   ·rcases hO _ hb with h|h
    ·obtain⟨r,hr,e⟩:=bY.mp h
     exact e▸ap r hr q hq
    ·have h:s.heap.objs.size<=p.1:=h
     exact cu (bx (bw (N q (au _ hq)).1) h)
  ·rw[hnx]
   exact hkap s'' hi hk
 ·exact absurd hp.1 (hK k)
theorem H7{Q:Option ar->aC->Prop}(hh:A.handled=none)(hroom:A.depth<aP)(hl:h₀.NoLimit)(G:mP prog w A h₀ n V a g n own s.gens)
  (F:Fr h₀ L s.heap m)(N:dJ h₀ L s.heap (own++news))(ap:Apart own news)
  (hQ:∀h' gs' tk,Fr h₀ L h' m->dJ h₀ L h' news->JV g s.gens gs'->Q none {s with heap:=h',gens:=gs',toks:=tk}):aL (dc prog w) A (i9 (.ref a)) Q E s:=by
 have hin:sx own s.heap:=λp hp=>(N p (av _ hp)).1
 obtain⟨st,hst,hgo⟩:=G.goes;obtain⟨O,hsub,hO,hgo⟩:=hgo (s.setGen g .running) hin F.keep;rw[fW]at hgo;refine lR (P:=λn s₀ s₁=>n=0∧sV O s₀ s₁) hh (qC hl F.keep) hroom (G.isGen hin) hst hgo (λv s₁ gs' hb hv=>?_) (λs₁ hp h' hk=>?_)
 ·obtain⟨T,vals,own',hV,hT,hTO,hTt,hmap,hin',hcls,hself,hs,hkap⟩:=hv
  exact False.elim (hkap {s₁ with heap:=s₁.heap} hin' (by
   obtain⟨h₁,tk₁,rfl,hk₁⟩:=hs;exact(r7 F N ap hO hk₁).1.keep))
 ·obtain⟨_,h₁,tk₁,rfl,hk₁⟩:=hp
  obtain⟨F₁,N₁⟩:=r7 (h':=h') F N ap hO λb o hb e=>hk b o (hk₁ b o hb e)
  exact hQ h' _ tk₁ F₁ N₁ (JU ((nW s g .running).trans (nW _ g .finished)) (nI (gs:=.running) (nI hst)) rfl)
theorem zL{Q:ar->aC->Prop}(G:mP prog w A h₀ n V a g j own s.gens)(N:dJ h₀ L s.heap (own++news))(hQ:Q (.ref a) s):aL (dc prog w) A (wU (.ref a)) Q E s:=
 wpAny_pyIter_gen (G.isGen λp hp=>(N p (av _ hp)).1) hQ
end
end
variable{T:f6}{es:List al}{ev:Ev}{ks:List mv}{first:List ar}
variable{en:En}{env:qk}
section
noncomputable def gg(w:gf)(v:ar):Bool:=match v with
 |.ref a=>gi (hp w.params) (.ref a)
 |_=>true
def Kp(w:gf)(hh:fk)(v:ar):Prop:=∃k,(k=NQ∨k=Jj∨k=DT)∧Looks (cJ w) hh (keeperOf v) k
theorem ki(h:gg w v=true):∀hh,(hp w.params).In hh->∃k,(k=NQ∨k=Jj∨k=DT)∧Looks (cJ w) hh (keeperOf v) k:=by
 cases v with
 |ref a=>exact keeps_K h
 |_=>exact λz z=>⟨.machine,.inr (.inl rfl),λA Q E s z q=>aV q⟩
structure dC(Γ:Wk w mean mg mb)(ρ:List aI)(P:mh)(en:En)(env:qk):Prop where
 nk:env.scope.names=en.nk
 kind:env.scope.kind= .function
 gl:env.globals=yu
 bi:env.builtins=builtinsNs
 cl:∀x j,en.cl.lookup x=some j->∃c,env.cells.lookup x=some c∧ρ[j]? =some c
 frame:en.loc=none->env=Γ.env
 own:∀l,en.loc=some l->∃o mm,(env.locals,o)∈P.rest∧gE o mm∧mo ρ l mm
theorem dC.mono(O:dC Γ ρ P en env){ρ':List aI}(x:dg ρ ρ'):dC Γ ρ' P en env:=
 ⟨O.nk,O.kind,O.gl,O.bi,λy j h=>(O.cl y j h).imp λz p=>⟨p.1,x.get p.2⟩,O.frame,λl h=>(O.own l h).imp λz p=>p.imp λz p=>⟨p.1,p.2.1,p.2.2.mono x⟩⟩
theorem dC.wide(O:dC Γ ρ P en env){P':mh}(h:∀p∈P.rest,p∈P'.rest):dC Γ ρ P' en env:=
 ⟨O.nk,O.kind,O.gl,O.bi,O.cl,O.frame,λl e=>(O.own l e).imp λz p=>p.imp λz p=>⟨h _ p.1,p.2⟩⟩
theorem dC.of(O:dC Γ ρ P en env)(x:ax):env.kindOf x=en.nk.lookup x:=congrArg (mq x) O.nk
def Vj(Γ:Wk w mean mg mb)(en:En)(env:qk)(t:o6 ar)(m:Nm)(H:Hp)(K:KV):Prop:=∀ρ P s Q E,dC Γ ρ P en env->bM Γ ρ P m H s->Back Γ ρ P m K Q->aL (cJ w) Γ.A t Q E s
def Vi(Γ:Wk w mean mg mb)(en:En)(env:qk)(t:o6 Bool)(m:Nm)(H:Hp)(K:Bool->Hp->Prop):Prop:=∀ρ P s Q E,dC Γ ρ P en env->bM Γ ρ P m H s->wR Γ ρ P m K Q->aL (cJ w) Γ.A t Q E s
def Ū(Γ:Wk w mean mg mb)(en:En)(env:qk)(t:o6 (List ar))(m:Nm)(H:Hp)(K:List AV->Hp->Prop):Prop:=∀ρ P s Q E,dC Γ ρ P en env->bM Γ ρ P m H s->Î Γ ρ P m K Q->aL (cJ w) Γ.A t Q E s
def rz(Γ:Wk w mean mg mb)(ty:String)(name:ax)(g:ar):Prop:=∀(ρ:List aI)(P:mh)(m:Nm)(H:Hp)(s:aC)(Q:ar×List ar->aC->Prop)(E:ar->aC->Prop)(a:AV)(v:ar)(pl:o6 Bool),qr a H=some ty->bM Γ ρ P m H s->db ρ a v->Q (g,[v]) s->aL (cJ w) Γ.A (E2 v name pl) Q E s
def wO(Γ:Wk w mean mg mb)(g:AV)(k:ax->List (Int×ax)):Prop:=∃v,g= .val v∧gg w v=true∧∀(L:aI)(mm:ax->Option ar)(news:gO)(x:ax)(t:lP)(s:aC)(Q E:ar->aC->Prop),L=Γ.L->Fr Γ.h₀ L s.heap mm->dJ Γ.h₀ L s.heap news->
 (∀own a g' h' tk n V,Fr Γ.h₀ L h' mm->dJ Γ.h₀ L h' (own++news)->Apart own news->mP aS w Γ.A Γ.h₀ n V a s.gens.size 0 own g'->bT s.gens g'->n=(k x).length->(∀j vals,V j vals->∃p t u,(k x)[j]? =some p∧vals=[.int p.1 t,.str p.2 u])->Q (.ref a) {s with heap:=h',gens:=g',toks:=tk})->
 aL (cJ w) Γ.A (bH v [.str x t] []) Q E s
structure cF(Γ:Wk w mean mg mb)(T:f6):Prop where
 gl:∀en env x a ρ P m H s Q E,T.gl x=some a->en.nk.lookup x=some .globalImplicit->dC Γ ρ P en env->bM Γ ρ P m H s->(∀v,db ρ a v->Q v s)->aL (cJ w) Γ.A (rJ env x) Q E s
 call:∀ρ P m H s Q E g as K v vs,T.call g as H K->bM Γ ρ P m H s->db ρ g v->bB ρ as vs->Back Γ ρ P m K Q->aL (cJ w) Γ.A (bH v vs []) Q E s
 callK:∀ρ P m H s Q E g as x a K v vs u,T.callK g as x a H K->bM Γ ρ P m H s->db ρ g v->bB ρ as vs->db ρ a u->Back Γ ρ P m K Q->aL (cJ w) Γ.A (bH v vs [(x,u)]) Q E s
 meth:∀e∈T.meths,rz Γ e.1 e.2.1 e.2.2
 gen:∀g k,T.gen g=some k->wO Γ g k
 keep:∀ρ P m H s g v as K,T.call g as H K->bM Γ ρ P m H s->db ρ g v->Kp w s.heap v
 keepK:∀ρ P m H s g v as x a K,T.callK g as x a H K->bM Γ ρ P m H s->db ρ g v->Kp w s.heap v
 tb:∀p,T.tb=some p->p.2=Γ.env.qual++"<lambda>"∧∃c,Γ.ccd= .ref c∧CodeHd Γ.h₀ c p.1
abbrev g6(Γ:Wk w mean mg mb)(ev:Ev):Prop:=∀en env e m H K,ev en e m H K->Vj Γ en env (eval e env) m H K
abbrev rh(Γ:Wk w mean mg mb)(tr:Tr):Prop:=∀en env e m H K,tr en e m H K->Vi Γ en env (isTrue e env (eval e env)) m H K
theorem MZ{o:AO}{a:AV}(h:Ō o=some a)(r:de w ρ o ob):∃v,ob.data= .cell (some v)∧db ρ a v:=by
 induction r with
 |cell r e=>exact⟨_,e,aj h▸r⟩
 |_=>exact aJ h
theorem DA{x:ax}{a:AV}(h:f5 en H x=some a)(O:dC Γ ρ P en env)(R:bM Γ ρ P m H s)(k:∀c v,env.cells.lookup x=some c->s.heap.IsCell c (some v)->db ρ a v->C):C:=by
 unfold f5 at h;cases e:en.cl.lookup x with
 |none=>rw[e]at h;exact aJ h
 |some i=>
  rw[e]at h;obtain⟨c,e1,e2⟩:=O.cl x i e;cases e3:H[i]? with
  |none=>dsimp only at h;rw[e3]at h;exact aJ h
  |some o=>
   dsimp only at h;rw[e3]at h;refine R.obj e2 e3 λob r g=>?_
   obtain⟨v,d,r⟩:=MZ h r;exact k c v e1 ⟨ob,g,d⟩ r
theorem GO(O:cF Γ T){x:ax}{a:AV}(h:wi en T m H x=some a)(N:dC Γ ρ P en env)(R:bM Γ ρ P m H s)(q:∀v,db ρ a v->Q v s):(x==aa "__debug__")=false∧aL (cJ w) Γ.A (rJ env x) Q E s:=by
 unfold wi at h;cases hd:x==aa "__debug__" with
 |true=>rw[hd]at h;exact aJ h
 |false=>
  rw[hd]at h;refine⟨rfl,?_⟩;cases hk:en.nk.lookup x with
  |none=>rw[hk]at h;exact aJ h
  |some k=>
   rw[hk]at h;have hk':=(N.of x).trans hk;cases k with
   |«local»=>
    cases hl:en.loc with
    |none=>
     dsimp only at h;rw[hl]at h;exact R.name h λmm v F e r=>rH N.kind hk' (by rw[N.frame hl];exact F.ns) e (q v r)
    |some l=>
     dsimp only at h;rw[hl]at h;obtain⟨o,mm,hm,hns,c⟩:=N.own l hl;obtain⟨v,e,r⟩:=c x a h;obtain⟨_,_,_,_,_,dJ⟩:=R.dy;exact rH N.kind hk' (hns.ns (dJ _ (au _ hm)).1) e (q v r)
   |globalImplicit=>exact O.gl en env x a ρ P m H s Q E h hk N R q
   |cell=>exact DA h N R λc v e1 e2 r=>wpAny_loadName_cell N.kind hk' e1 e2 (q v r)
   |free=>
    cases hc:x==aa "__classdict__" with
    |true=>dsimp only at h;rw[hc]at h;exact aJ h
    |false=>
     dsimp only at h;rw[hc]at h;exact DA h N R λc v e1 e2 r=>wpAny_loadName_free N.kind hk' e1 e2 (q v r) hc
   |_=>exact aJ h
theorem sL(O:cF Γ T){x:ax}{a:AV}(h:wi en T m H x=some a)(N:dC Γ ρ P en env)(R:bM Γ ρ P m H s)(q:∀v,db ρ a v->Q v s):aL (cJ w) Γ.A (eval (.Name x pos) env) Q E s:=
 have k:=GO (E:=E) O h N R q
 Ph k.2 k.1
theorem jW(e:al)(es:List al)(h:(!aW e.ctorIdx 22)=true):ik (e::es) env=(false,eval e env)::ik es env:=by
 cases e with
 |Starred=>exact bj h
 |_=>rfl
theorem iH(h:eF (e::es)=true):(!aW e.ctorIdx 22)=true∧eF es=true:=by
 unfold eF at h;rw[Pw,aM]at h;exact h
theorem uW{ev:Ev}(hev:g6 Γ ev){pos:kF}:∀(es:List al),eF es=true->∀{m:Nm}{H:Hp}{K:List AV->Hp->Prop},yH ev en es m H K->Ū Γ en env (spliced (mY pos (ik es env))) m H K
 |[],_,m,H,K,h=>λρ P s Q E z R b=>args_nil (b _ _ _ _ _ (dg.refl ρ) .nil R h)
 |e::es,hn,m,H,K,h=>λρ P s Q E N R b=>
  sD (hev en env e m H _ h ρ P s _ E N R λa v H₁ ρ₁ s₁ x₁ r₁ R₁ k=>uW hev es (iH hn).2 k ρ₁ P s₁ _ E (N.mono x₁) R₁ λas vs H₂ ρ₂ s₂ x₂ r₂ R₂ k₂=>b _ _ _ _ _ (x₁.trans x₂) (.cons (r₁.mono x₂) r₂) R₂ k₂) (jW e es (iH hn).1)
theorem ju{pos:kF}:∀{es:List al},eF es=true->(mY pos (ik es env)).any (·.1)=false
 |[],_=>rfl
 |e::es,h=>by
  rw[jW e es (iH h).1];exact ju (es:=es) (iH h).2
theorem ug(hev:g6 Γ ev){as:List al}{K:List AV->Hp->Prop}{Q:Args->aC->Prop}(hn:eF as=true)(h:yH ev en as m H K)(N:dC Γ ρ P en env)(R:bM Γ ρ P m H s)(q:∀bs vs H' ρ' s',dg ρ ρ'->bB ρ' bs vs->bM Γ ρ' P m H' s'->K bs H'->Q ⟨vs,[]⟩ s'):aL (cJ w) Γ.A (evalArgs v true (mY pos (ik as env)) []) Q E s:=by
 cases as with
 |nil=>exact evalArgs_nil3 (q _ _ _ _ _ (dg.refl ρ) .nil R h)
 |cons a as=>
  have e:=jW (env:=env) a as (iH hn).1;have z:=uW hev (pos:=pos) (a::as) hn h ρ P s (λvs s'=>Q ⟨vs,[]⟩ s') E N R q;rw[e]at z ⊢;exact AM z
theorem uR{k:mv}{x:ax}(h:k.arg=some x)(pos:kF):gV pos (ej [k] env)=[(some x,do let v <-eval k.value env;sy pos;pure v)]:=by
 cases k with
 |mk a v p=>exact h▸rfl
theorem Ae(hev:g6 Γ ev){as:List al}{k:mv}{x:ax}(hk:k.arg=some x){K:List AV->AV->Hp->Prop}{Q:Args->aC->Prop}(hn:eF as=true)(h:yH ev en as m H λbs H=>ev en k.value m H λa H=>K bs a H)(N:dC Γ ρ P en env)(R:bM Γ ρ P m H s)(q:∀bs vs a u H' ρ' s',dg ρ ρ'->bB ρ' bs vs->db ρ' a u->bM Γ ρ' P m H' s'->K bs a H'->Q ⟨vs,[(x,u)]⟩ s'):aL (cJ w) Γ.A (evalArgs v true (mY pos (ik as env)) (gV pos (ej [k] env))) Q E s:=by
 have one:∀bs vs H' ρ' s',dg ρ ρ'->bB ρ' bs vs->bM Γ ρ' P m H' s'->ev en k.value m H' (λa H=>K bs a H)->aL (cJ w) Γ.A (evalAll (g9 (λx=>x.snd) (gV pos (ej [k] env)))) (λks s₂=>Q ⟨vs,(v9 (λx=>x.fst) (gV pos (ej [k] env))).zip ks⟩ s₂) E s':=λbs vs H' ρ' s' y r R' e=>by
  rw[uR hk];refine az (az (hev en env k.value m H' _ e ρ' P s' _ E (N.mono y) R' λa u H₂ ρ₂ s₂ x₂ r₂ R₂ k₂=>az (d6 (aV (az (cE (aV (aV ?_))))))));exact q bs vs a u H₂ ρ₂ s₂ (y.trans x₂) (r.mono x₂) r₂ R₂ k₂
 have ha:((gV pos (ej [k] env)).all λx=>x.fst.isSome)=true:=by rw[uR hk];rfl
 cases as with
 |nil=>exact evalArgs_kw2_nil ha (one _ _ _ _ _ (dg.refl ρ) .nil R h)
 |cons a as=>exact evalArgs_kw2 ha (uW hev (pos:=pos) (a::as) hn h ρ P s _ E N R one) (jW a as (iH hn).1)
theorem DB(O:cF Γ T)(hev:g6 Γ ev){as:List al}{g:AV}{pre:List AV}(hn:eF as=true)(h:qV T ev en g as ks m H pre K)(rg:db ρ g v)(rp:bB ρ pre first)(N:dC Γ ρ P en env)(R:bM Γ ρ P m H s)(b:Back Γ ρ P m K Q):aL (cJ w) Γ.A (JN pos v first (mY pos (ik as env)) (gV pos (ej ks env))) Q E s:=by
 cases ks with
 |nil=>exact iB (P:=λh=>Kp w h v) (by rw[ju hn];rfl) (λh p=>p) (ug hev hn h N R λbs vs H' ρ' s' x r R' k=>⟨O.keep _ _ _ _ _ _ _ _ _ k R' (rg.mono x),O.call _ _ _ _ _ _ _ _ _ _ _ _ k R' (rg.mono x) ((rp.mono x).app r) (b.ext x)⟩)
 |cons k ks=>cases ks with
  |cons=>exact h.elim
  |nil=>exact aG.el h λy h e=>iB (P:=λh=>Kp w h v) (by rw[ju hn,uR e];rfl) (λh p=>p) (Ae hev e (K:=λvs a H=>T.callK g (pre++vs) y a H K) hn h N R λbs vs a u H' ρ' s' x r ra R' k=>⟨O.keepK _ _ _ _ _ _ _ _ _ _ _ k R' (rg.mono x),O.callK _ _ _ _ _ _ _ _ _ _ _ _ _ _ _ k R' (rg.mono x) ((rp.mono x).app r) ra (b.ext x)⟩)
end
variable{vo vi:ar}{hi:Option Int}{τ:List aI}
section
theorem oB{sl:al}(h:qx sl=true)(o i:ar):JK sl false o i=operate [o,i] (getItem o i):=by
 cases sl with
 |Slice=>exact bj h
 |_=>rfl
theorem qu{x:ax}{t:lP}(v:al)(r:ar):letTemporaryGo v (.str x t) r=pure ():=by cases v<;>rfl
theorem BL{value slice:al}{l:aI}{k:Int}{u:lP}{x:ar}(hl:s.heap.IsList l vs.toArray)(hlo: -(2^63)<=k)(hhi:k<2^63)(hj:eT k vs.length=some j)(hx:vs[j]? =some x)(h:Q x s)
  (hs:JK slice false (.ref l) (.int k u)=operate [.ref l,.int k u] (getItem (.ref l) (.int k u))):aL (cJ w) A (DN value slice (.ref l) (.int k u)) Q E s:=by
 refine JJ hl.typeIs vC.lookup ?_ hs;unfold eT at hj;dsimp only at hj
 by_cases hk:k<0
 ·rw[if_pos hk]at hj
  by_cases hc:(decide (0<=k+vs.length)&&decide (k+vs.length<vs.length))=true
  ·rw[if_pos hc]at hj
   obtain rfl:=aj hj;rw[aM,decide_eq_true_eq,decide_eq_true_eq]at hc;exact wpAny_getItem_list_neg hl hk (Int.neg_le_of_neg_le (by have:=hc.1;show -k<=(vs.length:Int);omega)) hlo (bU.trans hx) h
  ·rw[if_neg hc]at hj;exact aJ hj
 ·rw[if_neg hk]at hj
  by_cases hc:(decide (0<=k)&&decide (k<(vs.length:Int)))=true
  ·rw[if_pos hc]at hj
   obtain rfl:=aj hj;exact Pg hl (nV.mp hk) hhi (bU.trans hx) h
  ·rw[if_neg hc]at hj;exact aJ hj
theorem Oe{H:Hp}(h:cH Bk H n=some xs):cH fG H n=some xs∨cH uv H n=some xs:=by
 unfold cH at h ⊢;cases e:H[n]? with
 |none=>rw[e]at h;exact aJ h
 |some o=>
  rw[e]at h;dsimp only at h ⊢;cases f:un o with
  |lst=>rw[f]at h;exact .inl h
  |tup=>rw[f]at h;exact .inr h
  |_=>rw[f]at h;exact aJ h
theorem Td{o i:AV}{value sl:al}(hp:qx sl=true)(h:vv o i H K)(ro:db ρ o vo)(ri:db ρ i vi)(R:bM Γ ρ P m H s)(b:Back Γ ρ P m K Q):aL (cJ w) A (DN value sl vo vi) Q E s:=by
 induction ri with
 |int k t=>
  have h:Ey o k H K:=h;induction ro with
  |ref n a ha=>
   have h:(-(2^63)<=k∧k<2^63)∧aG (cH Bk H n) λxs=>aG (eT k xs.length) λj=>aG xs[j]? λx=>K x H:=h
   exact aG.el h.2 λxs h' e=>aG.el h' λj h' e1=>aG.el h' λx h' e2=>(Oe e).elim (λe=>R.list ha e λvs q z=>q.at e2 λv e3 r3=>BL z h.1.1 h.1.2 (q.len▸e1) e3 (b.now R r3 h') (oB hp _ _)) λe=>R.tupl ha e λvs q z=>q.at e2 λv e3 r3=>item_tupleT z h.1.1 h.1.2 (q.len▸e1) e3 (b.now R r3 h') (oB hp _ _)
  |str x t=>
   obtain⟨h1,h⟩:((0<=k∧k<(x.length:Int))∧x.length<=1048576)∧K (.str (gj x k)) H:=h;have z:(x.length:Int)<=1048576:=fj.mpr h1.2;exact tail_of_ItemOn (SBL.item (gJ (Int.neg_nonpos_of_nonneg (cx _)) h1.1.1) h1.1.2 (dQ z (by decide)) λy=>b.new R (.str _ _) h _) (oB hp _ _) (qu value)
  |_=>exact h.elim
 |str x t=>
  have h:jY o λn=>aG (cH vz H n) λkvs=>aG (kvs.lookup x) λa=>K a H:=h
  refine jY.el h ro λn c h hc=>aG.el h λkvs h e=>aG.el h λa h e1=>R.dict hc e λvs d l y=>?_
  have z:=l x;rw[e1]at z;cases z with
  |yes z1 z2=>exact JJ d.typeIs slot_dict_getitem.lookup (wpAny_getItem_of (pD _ _ _ _) d.mapOf z1 (b.new R z2 h _)) (oB hp _ _)
 |_=>exact h.elim
theorem CH(elo ehi est:Option al)(p:kF)(o i:ar):∃ops,JK (.Slice elo ehi est p) false o i=operate ops (getItem o i):=by
 cases est
 ·exact⟨_,rfl⟩
 ·exact⟨_,rfl⟩
theorem jy{xs:List AV}{vs:List ar}(h:bB ρ xs vs):∀l:List Nat,bB ρ (l.filterMap (xs[·]?)) (l.filterMap (vs[·]?))
 |[]=>.nil
 |i::l=>by
  rw[ce,ce];cases e:xs[i]? with
  |none=>
   rw[wV.mpr (h.len▸wV.mp e)];exact jy h l
  |some a=>exact h.at e λv e2 r=>e2▸ .cons r (jy h l)
theorem QE{o:AV}{vl vu vt:ar}{lo st:Option Int}{value:al}{elo ehi est:Option al}{p:kF}(h:Wg o lo hi st H K)(he:st=none->est=none)(ro:db ρ o vo)(pl:IsPart vl lo)(pu:IsPart vu hi)(pt:IsPart vt st)(R:bM Γ ρ P m H s)(b:Back Γ ρ P m K Q):
  aL (cJ w) A (DN value (.Slice elo ehi est p) vo (.ref s.heap.objs.size)) Q E {s with heap:=s.heap.push {cls:=.type "slice",data:=.fields #[vl,vu,vt]}}:=by
 have R':bM Γ ρ P m H {s with heap:=s.heap.push {cls:=.type "slice",data:=.fields #[vl,vu,vt]},toks:=s.toks}:=R.run λmm l F N fin=>fin _ _ (F.push _) (N.pushKeep _)
 induction ro with
 |ref n a ha=>
  have h:aG (cH fG H n) λxs=>(st≠some 0∧xs.length<=aF)∧iz (jJ xs lo hi st) λys=>K (.ref H.length) (H++[.lst ys]):=h
  refine aG.el h λxs h e=>R.list ha e λvs q l=>?_
  obtain⟨ops,hs⟩:=CH elo ehi est p (.ref a) (.ref s.heap.objs.size);refine JJ (wX (s:={s with heap:=s.heap.push {cls:=.type "slice",data:=.fields #[vl,vu,vt]}}) (l.push _)) vC.lookup
   (DM (st:=st) (l.push _) (vn ..) pl pu pt h.1.1 ?_ (show vs.length<=aF from q.len▸h.1.2)) hs
  refine R'.made (ok:=by exact λz z=>br) b (d8 (k:=λys=>K (.ref H.length) (H++[.lst ys])) h.2) λmm l F N fin=>fin _ _ s.toks (λρ' x=>?_) (F.push _) (tD F N _)
  have e:E0 vs.toArray lo hi st=((AH (i8 lo hi st xs.length).1 (i8 lo hi st xs.length).2.1 (i8 lo hi st xs.length).2.2).filterMap (vs[·]?)).toArray:=by
   unfold E0;rw[b9,q.len];simp only [bU]
  exact e▸ .lst 0 (jy (q.mono x) _)
 |str x t=>
  obtain⟨e,hz,h⟩:st=none∧x.length<=aF∧K (.str (dk x lo hi)) H:=h;subst e;cases pt with
  |none=>
   cases he rfl;refine R.run λmm l F N fin=>?_
   have key:∀t' k h',Fr Γ.h₀ Γ.L h' mm->dJ Γ.h₀ Γ.L h' l->Q (.str (dk x lo hi) t') {s with heap:=h',toks:=k}:=λt' k h' F' N'=>b.put (dg.refl ρ) (.str _ _) (fin h' k F' N') h
   cases pl with
   |none=>cases pu with
    |none=>exact slice_strN_nn_len F N (λh' t' k F' N' z=>key t' k h' F' N') rfl (qu value) hz
    |int=>exact slice_strN_ns_len F N (λh' t' k F' N' z=>key t' k h' F' N') rfl (qu value) hz
   |int=>cases pu with
    |none=>exact slice_strN_sn_len F N (λh' t' k F' N' z=>key t' k h' F' N') rfl (qu value) hz
    |int=>exact slice_strN_ss_len F N (λh' t' k F' N' z=>key t' k h' F' N') rfl (qu value) hz
 |_=>exact h.elim
def s4(ρ:List aI)(a:AO):Prop:=match a with
 |.lst xs=>∃vs,bB ρ xs vs
 |.tup xs=>∃vs,bB ρ xs vs
 |.cell c=>∀a,c=some a->∃v,db ρ a v
 |.dct kvs=>∃vs,cW ρ kvs vs
 |.rng _ _=>True
 |.pin x _=>s4 ρ x
 |.raw _=>True
 |.inst d=>∃a,ρ[d]? =some a
 |.attr l=>∃a,ρ[l]? =some a
 |.lam _ _ cl c=>(∃clos,Ů ρ cl clos)∧∃a,ρ[c]? =some a
 |.code _=>True
 |.tab _ l=>∃vs,lE ρ l vs
theorem de.wf{a:AO}(h:de w ρ a o):s4 ρ a:=by
 induction h with
 |lst k h=>exact⟨_,h⟩
 |tup h=>exact⟨_,h⟩
 |cell h e=>exact λa e=>⟨_,aj e▸h⟩
 |cell0 e=>exact λa e=>aJ e
 |dct hd h=>exact⟨_,h⟩
 |rng=>exact br
 |pin _ ih=>exact ih
 |raw=>exact br
 |inst h=>exact⟨_,h⟩
 |attr t h=>exact⟨_,h⟩
 |lam h hc=>exact⟨⟨_,h⟩,_,hc⟩
 |code=>exact br
 |tab h=>exact⟨_,h⟩
theorem mF{ρ:List aI}{b c:aI}(hc:ρ[i]? =some c)(hb:(ρ++τ)[i]? =some b):ρ[i]? =some b:=hc.trans ((ba hc).symm.trans hb)
theorem db.down{ρ:List aI}{a:AV}{v':ar}(h:db ρ a v)(k:db (ρ++τ) a v'):db ρ a v':=by
 induction k with
 |ref i b hb=>exact db.R h λc hc=>.ref i b (mF hc hb)
 |int=>exact .int ..
 |str=>exact .str ..
 |flt=>exact .flt ..
 |none=>exact .none
 |bool=>exact .bool _
 |val=>exact .val _
theorem bB.down{ρ:List aI}{vs':List ar}(k:bB (ρ++τ) as vs'):∀{vs:List ar},bB ρ as vs->bB ρ as vs':=by
 induction k with
 |nil=>exact λz=>.nil
 |cons k _ ih=>exact λh=>bB.hd (C:=λz=>bB ρ _ _) h λz z h r=>.cons (h.down k) (ih r)
theorem cW.hd{as:List (ax×AV)}{vs:List (ax×ar)}(h:cW ρ as vs):match as with
  |[]=>True
  |p::as=>(∀v us,db ρ p.2 v->cW ρ as us->C)->C:=by
 induction h with
 |nil=>exact br
 |cons h r _=>exact λk=>k _ _ h r
theorem cW.down{ρ:List aI}{as:List (ax×AV)}{vs':List (ax×ar)}(k:cW (ρ++τ) as vs'):∀{vs:List (ax×ar)},cW ρ as vs->cW ρ as vs':=by
 induction k with
 |nil=>exact λz=>.nil
 |cons k _ ih=>exact λh=>h.hd λz z h r=>.cons (h.down k) (ih r)
theorem lE.hd{l:List (Nat×Nat×Nat)}{us:List ar}(h:lE ρ l us):match l with
  |[]=>True
  |p::r=>(∃c,ρ[p.2.2]? =some c)∧∃us,lE ρ r us:=by
 induction h with
 |nil=>exact br
 |cons h r _=>exact⟨⟨_,h⟩,_,r⟩
theorem lE.down{ρ:List aI}{l:List (Nat×Nat×Nat)}(k:lE (ρ++τ) l vs):(∃us,lE ρ l us)->lE ρ l vs:=by
 induction k with
 |nil=>exact λz=>.nil
 |cons k _ ih=>exact λ⟨_,h⟩=>h.hd.1.elim λz e=>.cons (mF e k) (ih h.hd.2)
theorem de.down{ρ:List aI}{a:AO}(k:de w (ρ++τ) a o):s4 ρ a->de w ρ a o:=by
 induction k with
 |lst n k=>exact λ⟨_,h⟩=>.lst n (k.down h)
 |tup k=>exact λ⟨_,h⟩=>.tup (k.down h)
 |cell k e=>exact λh=>.cell ((h _ rfl).elim λx h=>h.down k) e
 |cell0 e=>exact λx=>.cell0 e
 |dct hd k=>exact λ⟨_,h⟩=>.dct hd (k.down h)
 |rng=>exact λx=>.rng ..
 |pin _ ih=>exact λh=>.pin (ih h)
 |raw=>exact λx=>.raw _
 |inst k=>exact λ⟨_,h⟩=>.inst (mF h k)
 |attr t k=>exact λ⟨_,h⟩=>.attr t (mF h k)
 |lam k hc=>exact λ⟨⟨_,h⟩,_,h2⟩=>.lam (λy j e=>(k y j e).imp λc q=>(h y j e).elim λx z=>⟨q.1,mF z.2 q.2⟩) (mF h2 hc)
 |code hd hv=>exact λx=>.code hd hv
 |tab k=>exact λh=>.tab (k.down h)
theorem eY.down{ρ:List aI}{H T:Hp}(h:eY w ρ H objs):∀{objs':List dU},eY w (ρ++τ) (H++T) objs'->∃os ot,objs'=os++ot∧eY w ρ H os:=by
 induction h with
 |nil=>exact λ{o} z=>⟨[],o,rfl,.nil⟩
 |cons h _ ih=>
  intro objs' k;cases k with
  |cons k ks=>
   obtain⟨os,ot,e,p⟩:=ih ks;exact⟨_::os,ot,congrArg _ e,.cons (k.down h.wf) p⟩
theorem JY{ρ:List aI}{os ot:List dU}(h:ρ.length=os.length):∀p∈ρ.zip os,p∈(ρ++τ).zip (os++ot):=λp hp=>by
 rw[kP h];exact av _ hp
theorem bM.cut{ρ':List aI}{s':aC}{T:Hp}(R:bM Γ ρ P m H s)(x:dg ρ ρ')(R':bM Γ ρ' P m (H++T) s'):bM Γ ρ P m H s':=by
 obtain⟨τ,rfl⟩:=x;obtain⟨mm0,objs0,_,q0,ro0,_⟩:=R.dy;obtain⟨mm,objs,F,q,ro,N⟩:=R'.dy;obtain⟨os,ot,e,p⟩:=ro0.down ro;subst e;refine⟨⟨mm,os,F,λy a e=>?_,p,λz hz=>N z ?_⟩,R.ly,R'.g,R'.d,R'.o⟩
 ·obtain⟨v,e1,e2⟩:=q y a e
  obtain⟨v0,_,e3⟩:=q0 y a e;exact⟨v,e1,e3.down e2⟩
 ·exact(aT.mp hz).elim (λhz=>av _ (JY (R.ly.ln.trans p.len.symm) z hz)) λhz=>au _ hz
theorem db.scal{ρ ρ':List aI}{a:AV}(h:db ρ a v)(k:scal a=true):db ρ' a v:=by
 induction h with
 |ref=>exact bj k
 |int=>exact .int ..
 |str=>exact .str ..
 |flt=>exact .flt ..
 |none=>exact .none
 |bool=>exact .bool _
 |val=>exact .val _
theorem bB.scal{ρ ρ':List aI}(h:bB ρ as vs):as.all Mine.scal=true->bB ρ' as vs:=by
 induction h with
 |nil=>exact λz=>.nil
 |cons h _ ih=>exact λk=>have k:=(aM ..).mp k; .cons (h.scal k.1) (ih k.2)
theorem iw.ok{t:o6 ar}{go:KV->Prop}(hg:∀K,go K->Vj Γ en env t m H K)(h:iw go H K):Vj Γ en env t m H K:=by
 induction h with
 |mk v sv g k=>
  exact λρ P s Q E N R b=>hg _ g ρ P s Q E N R λa u H₁ ρ₁ s₁ x₁ r₁ R₁ c=>by
   induction c with
   |mk T e eh=>exact b.put (dg.refl ρ) ((e▸r₁).scal sv) (R.cut x₁ (eh▸R₁)) k
 |go g=>exact hg K g
theorem B3{ev:Ev}(hev:g6 Γ ev){op:BoolOp}{pos:kF}:∀(es:List al){H:Hp}{K:KV},ZC ev en op es m H K->Vj Γ en env (eval (.BoolOp op es pos) env) m H K
 |[],_,_,h=>h.elim
 |[x],H,K,h=>λρ P s Q E N R b=>BoolOp_one (hev en env x m H K h ρ P s Q E N R b)
 |x::y::ys,H,K,h=>λρ P s Q E N R b=>by
  cases op with
  |And=>exact BoolOp_and (hev en env x m H _ h ρ P s _ E N R λa v H₁ ρ₁ s₁ x₁ r₁ R₁ k=>Be k r₁ R₁ λc n k=>match c,k with
   |true,k=>B3 hev (y::ys) (k.yes rfl) ρ₁ P _ Q E (N.mono x₁) (R₁.tk n) (b.ext x₁)
   |false,k=>b.put x₁ r₁ (R₁.tk n) (k.no rfl))
  |Or=>exact BoolOp_or (hev en env x m H _ h ρ P s _ E N R λa v H₁ ρ₁ s₁ x₁ r₁ R₁ k=>Be k r₁ R₁ λc n k=>match c,k with
   |true,k=>b.put x₁ r₁ (R₁.tk n) (k.yes rfl)
   |false,k=>B3 hev (y::ys) (k.no rfl) ρ₁ P _ Q E (N.mono x₁) (R₁.tk n) (b.ext x₁))
theorem wj(hev:g6 Γ ev){e:Option al}{K:Option Int->Hp->Prop}(h:Js ev en e m H K)(N:dC Γ ρ P en env)(R:bM Γ ρ P m H s)(q:∀v i H' ρ' s',dg ρ ρ'->IsPart v i->(i=none->e=none)->bM Γ ρ' P m H' s'->K i H'->Q v s'):aL (cJ w) Γ.A (evalPart e env) Q E s:=by
 cases e with
 |none=>
  rw[evalPart_none];exact aV (q _ _ _ _ _ (dg.refl ρ) .none (λz=>rfl) R h)
 |some e=>
  rw[evalPart_some];refine hev en env e m H _ h ρ P s _ E N R λa v H₁ ρ₁ s₁ x₁ r₁ R₁ k=>lB.el k r₁ λi t k=>?_
  exact q _ _ _ _ _ x₁ (.int i t) (λe=>aJ e.symm) R₁ k
end
variable{own:gO}{pn:Option (Nat×dU)}{tgt:al}{fp:List aI}{Pv:Nat->ar->Prop}
section
theorem qF{α:Type}{p:α}{a b c:List α}(h:p∈a++(b++c))(k1:p∈a->C)(k2:p∈b->C)(k3:p∈c->C):C:=(aT.mp h).elim k1 λh=>(aT.mp h).elim k2 k3
theorem in1{α:Type}{p:α}{a b c:List α}(h:p∈a):p∈a++(b++c):=av _ h
theorem Mn{α:Type}{p:α}{a b c:List α}(h:p∈b):p∈a++(b++c):=au _ (av _ h)
theorem Dj{α:Type}{p:α}{a b c:List α}(h:p∈c):p∈a++(b++c):=au _ (au _ h)
noncomputable def mh.ad(P:mh)(l:gO)(g:Array bR):mh:=⟨l++P.rest,g⟩
theorem bT.only{a:Array bR}(x:bT a b)(y:JV a.size b c):bT a c:=by
 rcases y with rfl|⟨⟨e,h⟩,k⟩
 ·exact x
 ·refine⟨e▸x.size,λi hi=>(h i (bc hi)).trans (x.old i hi),λha z hz=>?_⟩
  obtain⟨i,hi,e2⟩:=Array.mem_iff_getElem.mp hz;have hz':c[i]? =some z:=(l9 hi).trans (congrArg some e2)
  by_cases hi:i=a.size
  ·exact k z (hi▸hz')
  ·exact x.bare ha z (Array.mem_of_getElem? ((h i hi).symm.trans hz'))
theorem JZ{ρ:List aI}{p q:aI×dU}(h:∀(j:Nat)(b:aI),ρ[j]? =some b->p.1≠b)(hq:q∈ρ.zip objs):p.1≠q.1:=by
 obtain⟨j,hj⟩:=gD (nT (show(q.1,q.2)∈ρ.zip objs from hq)).1;exact h j q.1 hj
theorem bM.led{g:Array bR}(R:bM Γ ρ (P.ad own g) m H s)(k:∀mm objs,Fr Γ.h₀ Γ.L s.heap mm->mo ρ m mm->eY w ρ H objs->dJ Γ.h₀ Γ.L s.heap (own++(ρ.zip objs++P.rest))->(∀p∈own,∀q∈ρ.zip objs,p.1≠q.1)->C):C:=by
 obtain⟨mm,objs,F,q,ro,N⟩:=R.dy;exact k mm objs F q ro (λp hp=>N p (qF hp Mn in1 Dj)) λp hp q hq=>JZ (λj b e=>R.ly.off j b e p (av _ hp)) hq
theorem bM.adn{g:Array bR}{s':aC}(R:bM Γ ρ P m H s)(F:Fr Γ.h₀ Γ.L s'.heap mm)(q:mo ρ m mm)(ro:eY w ρ H objs)(N:dJ Γ.h₀ Γ.L s'.heap (own++(ρ.zip objs++P.rest)))(ap:∀p∈own,∀q∈ρ.zip objs,p.1≠q.1)(hg:bT g s'.gens)(hd:s'.drawn=s.drawn)(ho:s'.os=s.os):bM Γ ρ (P.ad own g) m H s':=
 ⟨⟨mm,objs,F,q,ro,λp hp=>N p (qF hp Mn in1 Dj)⟩,⟨R.ly.ln,R.ly.each,λj b e p hp=>(aT.mp hp).elim (λh=>(gy (R.ly.ln.trans ro.len.symm) e).elim λo ho=>ap p h _ ho) λh=>R.ly.off j b e p h,R.ly.lo⟩,hg,hd.trans R.d,ho.trans R.o⟩
theorem bM.less{l':gO}{g:Array bR}(R:bM Γ ρ (P.ad l g) m H s)(h:∀p∈l',p∈l):bM Γ ρ (P.ad l' g) m H s:=by
 obtain⟨mm,objs,F,q,ro,N⟩:=R.dy;exact⟨⟨mm,objs,F,q,ro,λp hp=>N p (qF hp in1 (λhp=>Mn (h p hp)) Dj)⟩,R.ly.sub λp hp=>(aT.mp hp).elim (λhp=>av _ (h p hp)) (au _),R.g,R.d,R.o⟩
theorem bM.drop{g:Array bR}(R:bM Γ ρ (P.ad own g) m H s)(hg:bT P.gb g):bM Γ ρ P m H s:=by
 obtain⟨mm,objs,F,q,ro,N⟩:=R.dy;exact⟨⟨mm,objs,F,q,ro,λp hp=>N p ((aT.mp hp).elim in1 Dj)⟩,R.ly.sub λp hp=>au _ hp,hg.trans R.g,R.d,R.o⟩
theorem bM.base{g g':Array bR}(R:bM Γ ρ (P.ad l g') m H s)(h:bT g g'):bM Γ ρ (P.ad l g) m H s:=⟨R.dy,R.ly,h.trans R.g,R.d,R.o⟩
theorem bM.take{o:AO}{g:Array bR}(R:bM Γ ρ (P.ad [(D,ob)] g) m H s)(r:de w ρ o ob)(off:∀p∈P.rest,p.1≠D)(lo:okA o D)(hg:bT P.gb g):bM Γ (ρ++[D]) P m (H++[o]) s:=by
 obtain⟨mm,objs,F,q,ro,N⟩:=R.dy;refine⟨⟨mm,objs++[ob],F,q.mono (dg.one ρ D),(ro.mono (dg.one ρ D)).app (.cons (r.mono (dg.one ρ D)) .nil),λp hp=>N p ?_⟩,(R.ly.sub λp hp=>au _ hp).add (λj b e f=>R.ly.off j b e (D,ob) ah f.symm) off lo,hg.trans R.g,R.d,R.o⟩;rw[j9 (R.ly.ln.trans ro.len.symm),aA]at hp;exact hp
def vd(ρ:List aI)(S:Option (aI×dU))(pn:Option (Nat×dU)):Prop:=match pn with
 |none=>S=none
 |some p=>∃a,S=some (a,p.2)∧ρ[p.1]? =some a
theorem vd.mono{S:Option (aI×dU)}(h:vd ρ S pn){ρ':List aI}(x:dg ρ ρ'):vd ρ' S pn:=by
 cases pn with
 |none=>exact h
 |some p=>exact h.imp λa q=>⟨q.1,x.get q.2⟩
def KD(y:AO)(K:AO->dU->Prop):Prop:=match y with
 |.pin x o=>K x o
 |_=>False
theorem KD.el{y:AO}{K:AO->dU->Prop}(h:KD y K)(r:de w ρ y ob)(k:∀x,K x ob->de w ρ x ob->C):C:=by
 induction r with
 |pin r=>exact k _ h r
 |_=>exact h.elim
theorem KD.is{y:AO}{K:AO->dU->Prop}(h:KD y K)(k:∀x o,K x o->y= .pin x o->C):C:=by
 cases y with
 |pin x o=>exact k x o h rfl
 |_=>exact h.elim
theorem jR{S:Option (aI×dU)}(h:iI pn H C)(ha:vd ρ S pn)(ro:eY w ρ H objs):C∧∀p,S=some p->p∈ρ.zip objs:=by
 cases pn with
 |none=>exact⟨h,λp e=>aJ ((show S=none from ha).symm.trans e)⟩
 |some p=>
  have h:aG H[p.1]? λy=>KD y λz o=>o=p.2∧C:=h
  obtain⟨a,e0,e1⟩:=ha;exact aG.el h λy h e=>ro.at e λob e2 r=>KD.el h r λx h z=>⟨h.2,λq eq=>(aj (e0.symm.trans eq):(a,p.2)=q)▸dK e1 (e2.trans (congrArg some h.1))⟩
inductive ET(ρ:List aI)(H:Hp)(h:fk)(S:Option (aI×dU)):Option Nat->Prop
 |no(e:S=none):ET ρ H h S none
 |at'{n:Nat}{a:aI}{o:dU}{x:AO}(e:S=some (a,o))(ha:ρ[n]? =some a)(hx:H[n]? =some x)(g:h.get? a=some o):ET ρ H h S (some n)
theorem GU{n:Option Nat}{K:Option (Nat×dU)->Hp->Prop}{S:Option (aI×dU)}(h:pL n H K)(hS:ET ρ H s.heap S n)(R:bM Γ ρ P m H s)(k:∀pn H',vd ρ S pn->bM Γ ρ P m H' s->K pn H'->C):C:=by
 induction hS with
 |no e=>exact k none H e R h
 |@at' n a o x e ha hx g=>
  have h:∀o,aG H[n]? λx=>K (some (n,o)) (H.set n (.pin x o)):=h
  exact aG.el (h o) λx' h e2=>k (some (n,o)) (H.set n (.pin x' o)) ⟨a,e,ha⟩ (R.rd (y:=.pin x' o) e2 (λob r g'=>(aj ((g' a ha).symm.trans g)).symm▸ .pin (aj ((g' a ha).symm.trans g)▸r)) λz e=>e) h
theorem wa{K:Hp->Prop}(h:fX pn H K)(R:bM Γ ρ P m H s)(k:∀H',bM Γ ρ P m H' s->K H'->C):C:=by
 cases pn with
 |none=>exact k H R h
 |some p=>
  have h:aG H[p.1]? λy=>KD y λx o=>o=p.2∧K (H.set p.1 x):=h
  exact aG.el h λy h e=>KD.is h λx o h f=>k (H.set p.1 x) (R.rd (y:=x) e (λob r w=>KD.el (K:=λy w=>y=x) (f▸rfl) r λz e r=>e▸r) λb q=>(f▸q:okA (.pin x o) b)) h.2
def Goes(o:dU):Prop:=∀n vs,o.cls= .type n->o.data= .fields vs->["enumerate","zip","dict_itemiterator","dict_reverseitemiterator","odict_iterator","itertools.zip_longest","itertools.pairwise"].contains n=false
noncomputable def Te(g:TG):Bool:=match g with
 |.one _=>true
 |.row _=>true
 |_=>false
set_option tactic.hygienic true in
theorem OW{A:dR}{Q:Unit->aC->Prop}{I:aI}(ht:Te (jh tgt)=true)(hg:s.heap.get? I=some o)(h:Goes o)(hQ:Q () s):aL (cJ w) A (jH tgt (.ref I) v) Q E s:=by
 have z:=Bf tgt;generalize jh tgt=g at ht z;induction z with
 |one=>exact aV hQ
 |row=>
  cases v with
  |ref a=>
   refine az (wpAny_load hg ?_)
   split
   ·rename_i n vs e1 e2
    rw[h n vs e1 e2];exact aV hQ
   ·exact aV hQ
  |_=>exact aV hQ
 |_=>exact bj ht
set_option tactic.hygienic true in
structure Ja(Γ:Wk w mean mg mb)(I:aI)(gb:Array bR)(S:Option (aI×dU))(St:List (ar->gO->Prop)->gO->Array bR->Prop):Prop where
 self:∀its own gs,St its own gs->∃o,(I,o)∈own∧Goes o
 iter:∀its own news s(Q E:ar->aC->Prop),St its own s.gens->dJ Γ.h₀ Γ.L s.heap (own++news)->(∀p,S=some p->p∈news)->Q (.ref I) s->aL (cJ w) Γ.A (wU (.ref I)) Q E s
 next:∀p its own news mm s(Q:Option ar->aC->Prop)(E:ar->aC->Prop),St (p::its) own s.gens->bT gb s.gens->Fr Γ.h₀ Γ.L s.heap mm->dJ Γ.h₀ Γ.L s.heap (own++news)->Apart own news->(∀p,S=some p->p∈news)->
  (∀v new own' h' gs' tk,p v new->Fr Γ.h₀ Γ.L h' mm->dJ Γ.h₀ Γ.L h' (own'++(new++news))->Apart own' (new++news)->Apart new news->St its own' gs'->bT gb gs'->Q (some v) {s with heap:=h',gens:=gs',toks:=tk})->aL (cJ w) Γ.A (i9 (.ref I)) Q E s
 done:∀own news mm s(Q:Option ar->aC->Prop)(E:ar->aC->Prop),St [] own s.gens->bT gb s.gens->Fr Γ.h₀ Γ.L s.heap mm->dJ Γ.h₀ Γ.L s.heap (own++news)->Apart own news->(∀p,S=some p->p∈news)->
  (∀h' gs' tk,Fr Γ.h₀ Γ.L h' mm->dJ Γ.h₀ Γ.L h' news->bT gb gs'->Q none {s with heap:=h',gens:=gs',toks:=tk})->aL (cJ w) Γ.A (i9 (.ref I)) Q E s
 moved:∀its own gs gs',St its own gs->bT gs gs'->St its own gs'
inductive A?(I:aI)(S:Option (aI×dU))(n:Nat)(Pv:Nat->ar->Prop)(St:Nat->fk->Prop)(its:List (ar->gO->Prop))(own:gO)(_gs:Array bR):Prop
 |mk(i:Nat)(oI:dU)(h:fk)(e:own=[(I,oI)])(l:i+its.length=n)(hp:∀j p,its[j]? =some p->∀v,Pv (i+j) v->p v [])(st:St i h)(hI:h.get? I=some oI)(hS:∀p,S=some p->h.get? p.1=some p.2):A? I S n Pv St its own _gs
theorem BV{I:aI}{St:Nat->fk->Prop}{S:Option (aI×dU)}(gb:Array bR)(W:Walks aS w Γ.A I fp [I] n Pv St)(hfp:∀b∈fp,b=I∨∃o,S=some (b,o))(hgo:∀i h,St i h->∃o,h.get? I=some o∧Goes o):
  Ja Γ I gb S (A? I S n Pv St):=by
 have at':∀{i:Nat}{oI:dU}{h h':fk}{news:gO},St i h->h.get? I=some oI->(∀p,S=some p->h.get? p.1=some p.2)->dJ Γ.h₀ Γ.L h' ([(I,oI)]++news)->(∀p,S=some p->p∈news)->St i h':=λ{i oI h h' news} st hI hS N hn=>by
  refine W.frame _ _ _ st λb hb o e=>?_
  rcases hfp b hb with rfl|⟨o',e2⟩
  ·exact aj (hI.symm.trans e)▸(N _ ah).1
  ·exact(N _ (au _ (hn _ e2))).1.trans ((hS _ e2).symm.trans e)
 refine⟨λits own gs⟨i,oI,h,e,l,hp,st,hI,hS⟩=>?_,λits own news s Q E⟨i,oI,h,e,l,hp,st,hI,hS⟩ N hn q=>?_,λp its own news mm s Q E⟨i,oI,h,e,l,hp,st,hI,hS⟩ hg F N ap hn q=>?_,λown news mm s Q E⟨i,oI,h,e,l,hp,st,hI,hS⟩ hg F N ap hn q=>?_,λits own gs gs'⟨i,oI,h,e,l,hp,st,hI,hS⟩ z=>⟨i,oI,h,e,l,hp,st,hI,hS⟩⟩
 ·obtain⟨o,e1,e2⟩:=hgo i h st
  exact⟨o,e▸aj (e1.symm.trans hI)▸ah,e2⟩
 ·exact W.self i s Q E (at' st hI hS (e▸N) hn) q
 ·subst e
  have zI:=N (I,oI) ah;have off:∀p∈news,p.1≠I:=λp hp=>(ap _ ah p hp).symm
  refine W.item i s Q E (l▸At (jM _)) (at' st hI hS N hn) λv h' tk hv st' hk=>?_
  obtain⟨o',e1,_⟩:=hgo _ _ st';have N':dJ Γ.h₀ Γ.L h' news:=AX (λp hp=>N p (af _ hp)) hk off;refine q v [] [(I,o')] h' s.gens tk (hp 0 p rfl v hv) (FD F hk zI.2.1.symm zI.2.2) (λp hp=>?_) (λp hp q hq=>a8.mp hp▸(off q hq).symm) (λp hp=>eN hp) ⟨i+1,o',h',rfl,(cC i its.length).trans l,λj p e v hv=>hp (j+1) p e v ((cC i j)▸hv),st',e1,λp e=>(N' p (hn p e)).1⟩ hg;exact(aE.mp hp).elim (λe=>e▸⟨e1,zI.2⟩) (N' p)
 ·subst e
  have zI:=N (I,oI) ah;exact W.done s Q E (at' (l▸st) hI hS N hn) λh' tk hk=>q h' s.gens tk (FD F hk zI.2.1.symm zI.2.2) (AX (λp hp=>N p (af _ hp)) hk λp hp=>(ap _ ah p hp).symm) hg
inductive G?(Γ:Wk w mean mg mb)(n:Nat)(V:Nat->List ar->Prop)(a:aI)(g:Nat)(its:List (ar->gO->Prop))(own:gO)(gs:Array bR):Prop
 |mk(j:Nat)(G:mP aS w Γ.A Γ.h₀ n V a g j own gs)(l:j+its.length=n)(hp:∀k p,its[k]? =some p->∀vals,V (j+k) vals->∀T,p (.ref T) [(T,iy vals)])(lt:g<gs.size):G? Γ n V a g its own gs
theorem M4(h:g<gs.size)(k:JV g gs gs'):g<gs'.size:=by
 rcases k with rfl|⟨⟨e,_⟩,_⟩
 ·exact h
 ·exact e▸h
theorem Ih{V:Nat->List ar->Prop}(gb:Array bR):Ja Γ a gb none (G? Γ n V a gb.size):=by
 refine⟨λits own gs⟨j,G,l,hp,lt⟩=>?_,λits own news s Q E⟨j,G,l,hp,lt⟩ N hn q=>zL G N q,λp its own news mm s Q E⟨j,G,l,hp,lt⟩ hg F N ap hn q=>?_,λown news mm s Q E⟨j,G,l,hp,lt⟩ hg F N ap hn q=>?_,λits own gs gs'⟨j,G,l,hp,lt⟩ x=>⟨j,G.moved (x.old _ lt),l,hp,bx lt x.size⟩⟩
 ·obtain⟨nm,qn,hm⟩:=G.self
  exact⟨_,hm,λn vs e z=>by cases e;decide⟩
 ·exact EF rfl Γ.rm Γ.T.nolimit (l▸At (jM _)) G F N ap λT vals own' h' gs' tk hV F' N' ap' hT G' hk=>q (.ref T) [(T,iy vals)] own' h' gs' tk (hp 0 p rfl vals hV T) F' N' ap' (λp hp q hq=>a8.mp hp▸(hT q hq).symm) ⟨j+1,G',(cC j its.length).trans l,λk p e vals hV=>hp (k+1) p e vals ((cC j k)▸hV),M4 lt hk⟩ (hg.only hk)
 ·exact H7 rfl Γ.rm Γ.T.nolimit ((l:j=n)▸G) F N ap λh' gs' tk F' N' hk=>q h' gs' tk F' N' (hg.only hk)
inductive Pe(ρ:List aI)(v:ar)(new:gO):IT->Prop
 |val{a:AV}(e:new=[])(r:db ρ a v):Pe ρ v new (.val a)
 |pair{a b:AV}{T:aI}{va vb:ar}(e:v= .ref T)(f:new=[(T,iy [va,vb])])(ra:db ρ a va)(rb:db ρ b vb):Pe ρ v new (.pair a b)
def á(ρ:List aI)(it:IT)(v:ar)(new:gO):Prop:=Pe ρ v new it
inductive VK(Γ:Wk w mean mg mb)(ρ:List aI)(P:mh)(m:Nm)(H:Hp)(l:List IT)(n:Option Nat)(v:ar)(s:aC):Prop
 |mk(I:aI)(gb:Array bR)(S:Option (aI×dU))(St:List (ar->gO->Prop)->gO->Array bR->Prop)(own:gO)(e:v= .ref I)(fd:Ja Γ I gb S St)(st:St (l.map (á ρ)) own s.gens)(R:bM Γ ρ (P.ad own gb) m H s)(ap:∀p∈own,∀q∈P.rest,p.1≠q.1)(hg:bT P.gb gb)
  (hS:ET ρ H s.heap S n):VK Γ ρ P m H l n v s
theorem mI{oI:dU}{N:Nat}{St:Nat->fk->Prop}{S:Option (aI×dU)}{l:List IT}{n:Option Nat}{c:String}(R:bM Γ ρ P m H s)(hS:ET ρ H s.heap S n)(hfp:∀b∈fp,b=s.heap.objs.size∨∃o,S=some (b,o))(hc:["enumerate","zip","dict_itemiterator","dict_reverseitemiterator","odict_iterator","itertools.zip_longest","itertools.pairwise"].contains c=false)
  (hfree:oI.isFreed=false)(W:Walks aS w Γ.A s.heap.objs.size fp [s.heap.objs.size] N Pv St)(hst:St 0 (s.heap.push oI))(hgo:∀i h,St i h->∃o,h.get? s.heap.objs.size=some o∧o.cls= .type c)
  (hl:l.length=N)(hp:∀j it,l[j]? =some it->∀v,Pv j v->Pe ρ v [] it):VK Γ ρ P m H l n (.ref s.heap.objs.size) {s with heap:=s.heap.push oI}:=by
 obtain⟨mm,objs,F,q,ro,Ns⟩:=R.dy;have lt:∀p∈ρ.zip objs++P.rest,s.heap.objs.size≠p.1:=λp hp=>(bc (bw (Ns p hp).1)).symm
 refine⟨_,s.gens,S,_,[(s.heap.objs.size,oI)],rfl,BV s.gens W hfp (λi h st=>(hgo i h st).elim λo p=>⟨o,p.1,λn vs e z=>(Ce (p.2.symm.trans e))▸hc⟩),⟨0,oI,_,rfl,(fi _).trans ((aD _).trans hl),λj p e v hv=>?_,hst,bE _ hfree,λp e=>?_⟩,R.adn (F.push _) q ro (tD F Ns _ hfree) (λp hp q hq=>a8.mp hp▸lt q (av _ hq)) (bT.refl _) rfl rfl,λp hp q hq=>a8.mp hp▸lt q (au _ hq),R.g,?_⟩
 ·rw[bv,jC]at e
  obtain⟨it,e1,e2⟩:=e;exact e2▸hp j it e1 v (fi j▸hv)
 ·induction hS with
  |no f=>exact aJ (f.symm.trans e)
  |at' f _ _ g=>exact aj (f.symm.trans e)▸aR _ g
 ·induction hS with
  |no f=>exact .no f
  |at' f ha hx g=>exact .at' f ha hx (aR _ g)
end
section
theorem uM{α:Type}{f:α->β}{l:List α}{b:β}(h:(l.map f)[j]? =some b)(k:∀a,l[j]? =some a->f a=b->C):C:=by
 rw[bv,jC]at h;obtain⟨a,e,f⟩:=h;exact k a e f
theorem xp(a:Int):∀(n i:Nat),(vX a i n).length=n∧∀(j:Nat)(it:IT),(vX a i n)[j]? =some it->it= .val (.int (a+((i+j:Nat):Int)*1))
 |0,i=>⟨rfl,λj it e=>mz e⟩
 |n+1,i=>by
  obtain⟨h1,h2⟩:=xp a n (i+1);refine⟨congrArg eJ h1,λj it=>?_⟩;cases j with
  |zero=>exact λe=>(aj e).symm
  |succ j=>exact λe=>cC i j▸h2 j it e
theorem cW.at{vs:List (ax×ar)}(h:cW ρ kvs vs):∀(j:Nat)(p:ax×AV)(q:ax×ar),kvs[j]? =some p->vs[j]? =some q->q.1=p.1:=by
 induction h with
 |nil=>exact λj p q e=>mz e
 |cons h _ ih=>
  intro j;cases j with
  |zero=>exact λp q e f=>(congrArg Prod.fst (aj f)).symm.trans (congrArg Prod.fst (aj e))
  |succ j=>exact ih j
noncomputable def Ù:AO->Option (Int×Int)
 |.rng a b=>some (a,b)
 |_=>none
theorem GI{o:AO}{p:Int×Int}(d:Ù o=some p)(r:de w ρ o ob):∃t u v,ob={cls:=.type "range",dict:=As,data:=.fields #[.int p.1 t,.int p.2 u,.int 1 v],slots:=#[]}:=by
 induction r with
 |rng a' b' t u v=>exact aj d▸⟨t,u,v,rfl⟩
 |_=>exact aJ d
theorem KL{x:AO}{J:List IT->Option Nat->Prop}{Q:ar->aC->Prop}(ha:ρ[n]? =some a)(hx:H[n]? =some x)(r:de w ρ (un x) ob)(g:s.heap.get? a=some ob)(lo:okA (un x) a)(h:Bj (un x) λl=>J l (some n))(R:bM Γ ρ P m H s)(q:∀l n v s',J l n->VK Γ ρ P m H l n v s'->Q v s'):aL (cJ w) Γ.A (wU (.ref a)) Q E s:=by
 have low:a≠s.heap.objs.size:=bc (bw g);have two:∀c∈[s.heap.objs.size,a],c=s.heap.objs.size∨∃o,some (a,ob)=some (c,o):=λc hc=>(aE.mp hc).elim .inl λh=>.inr ⟨ob,by rw[a8.mp h]⟩
 have hS:ET ρ H s.heap (some (a,ob)) (some n):=.at' rfl ha hx g;have seq:∀{xs:List AV}{vs:List ar},bB ρ xs vs->(xs.map IT.val).length=vs.toArray.size∧∀(j:Nat)(it:IT),(xs.map IT.val)[j]? =some it->∀v,vs.toArray[j]? =some v->Pe ρ v [] it:=λr=>⟨(aD _).trans r.len.symm,λj it e v hv=>uM e λb e1 f=>f▸r.at e1 λu e2 ru=>.val rfl (aj (e2.symm.trans (bU.symm.trans hv))▸ru)⟩
 generalize un x=o at r h lo;induction o with
 |lst xs=>exact Hs rfl r g λvs k rs d hl=>wpAny_pyIter_list hl (q _ _ _ _ (d8 (k:=λl=>J l (some n)) h) (mI R hS two (c:="list_iterator") (by decide) rfl (Walks.list rfl _ a low vs.toArray) ⟨⟨_,bE _ rfl,rfl,rfl⟩,hl.push _⟩ (λi h st=>st.1.imp λo p=>⟨p.1,p.2.1⟩) (seq rs).1 (seq rs).2))
 |tup xs=>exact Ge rfl r g λvs rs d hl=>mV hl (q _ _ _ _ (d8 (k:=λl=>J l (some n)) h) (mI R hS two (c:="tuple_iterator") (by decide) rfl (tC rfl _ a low vs.toArray) ⟨⟨_,bE _ rfl,rfl,rfl⟩,Heap.IsTuple.at hl λo e=>aR _ e⟩ (λi h st=>st.1.imp λo p=>⟨p.1,p.2.1⟩) (seq rs).1 (seq rs).2))
 |dct kvs=>
  refine BZ rfl r λvs hd rk=>?_
  obtain⟨ep,hat⟩:=KdkAt.of hd;have hdt:=hat.dictAt g;refine wpAny_pyIter_dict lo hdt (q _ _ _ _ (d8 (k:=λl=>J l (some n)) h) (mI R hS two (c:="dict_keyiterator") (by decide) rfl (Walks.dictKeys rfl _ a low vs ep) ⟨⟨_,bE _ rfl,rfl,rfl⟩,hdt.at' λo e=>aR _ e⟩ (λi h st=>st.1.imp λo p=>⟨p.1,p.2.1⟩) ((aD _).trans rk.len.symm) (λj it e v hv=>?_)));obtain⟨y,z,e3,e4⟩:=hv;obtain⟨t,rfl⟩:=Value.isStrOf_shape e4;exact uM e λp e1 f=>f▸ .val rfl ((rk.at j p _ e1 e3:y=p.1)▸ .str _ _)
 |rng lo' hi=>
  obtain⟨⟨h1,h2⟩,h⟩:(_∧_)∧iz _ _:=h;obtain⟨t,u,v,rfl⟩:=GI rfl r
  ·refine wpAny_pyIter_range g h1 (q _ _ _ _ (d8 (k:=λl=>J l (some n)) h) (mI R hS (λc hc=>.inl (a8.mp hc)) (c:="range_iterator") (by decide) rfl (Walks.range rfl _ lo' 1 (hi - lo').toNat) ?_ (λi h st=>⟨_,st,rfl⟩) (xp _ _ _).1 (λj it e v hv=>?_)))
   ·show IsRangeIter _ _ _ _ _
    rw[<-h2]
    simpa using bE _ rfl
   ·rw[(xp _ _ _).2 j it e,fi]
    obtain⟨t,rfl⟩:=hv;exact .val rfl (.int _ _)
 |_=>exact h.elim
theorem QB{a:AV}{J:List IT->Option Nat->Prop}(h:uz a H J)(r:db ρ a v)(R:bM Γ ρ P m H s)(q:∀l n v s',J l n->VK Γ ρ P m H l n v s'->Q v s'):aL (cJ w) Γ.A (wU v) Q E s:=by
 induction r with
 |str x t=>
  have k:=d8 (k:=λl=>J l none) h;have hp:∀(j:Nat)(it:IT),(x.cps.toList.map λc=>IT.val (.str ⟨#[c]⟩))[j]? =some it->∀v,SignAt x j v->Pe ρ v [] it:=λj it e v⟨c,u,e1,e2⟩=>uM e λd e3 f=>f▸e2▸ .val rfl (aj (e1.symm.trans (Array.getElem?_toList.symm.trans e3))▸ .str _ _)
  cases ha:x.cps.all (·<128)
  ·exact wpAny_pyIter_wide ha (q _ _ _ _ k (mI R (.no rfl) (λb hb=>.inl (a8.mp hb)) (c:="str_iterator") (by decide) rfl (Walks.strWide rfl _ x t) ⟨_,bE _ rfl,rfl,rfl⟩ (λi h⟨o,e,c,_⟩=>⟨o,e,c⟩) (aD _) hp))
  ·exact wpAny_pyIter_ascii ha (q _ _ _ _ k (mI R (.no rfl) (λb hb=>.inl (a8.mp hb)) (c:="str_ascii_iterator") (by decide) rfl (Walks.strAscii rfl _ x t) ⟨_,bE _ rfl,rfl,rfl⟩ (λi h⟨o,e,c,_⟩=>⟨o,e,c⟩) (aD _) hp))
 |ref n b hb=>
  have h:aG H[n]? λo=>Bj (un o) λl=>J l (some n):=h
  exact aG.el h λx h hx=>R.obj hb hx λob r g=>KL hb hx (Gc r) g (G4 (R.ly.lo n b x hb hx)) h R q
 |_=>exact h.elim
theorem II{p:al×List al}(h:DD (jh e)=some p):∃pos,e= .Call p.1 p.2 [] pos:=by
 have w:=Bf e;generalize jh e=t at h w;induction w with
 |@call f as ks pos=>
  cases ks with
  |cons=>exact aJ h
  |nil=>exact⟨pos,aj h▸rfl⟩
 |_=>exact aJ h
theorem TT(O:cF Γ T)(hev:g6 Γ ev){x:al}{y:ax}{ps:kF}{g:AV}{kk:ax->List (Int×ax)}{K:List IT->Option Nat->Hp->Prop}(h:ev en x m H λa H=>kE a λx=>iz (yF (kk x)) λl=>K l none H)(hs:eF [x]=true)(hr:wi en T m H y=some g)(hk:T.gen g=some kk)(N:dC Γ ρ P en env)(R:bM Γ ρ P m H s)(q:∀l n H' ρ' v s',dg ρ ρ'->K l n H'->VK Γ ρ' P m H' l n v s'->Q v s'):
  aL (cJ w) Γ.A (eval (.Call (.Name y ps) [x] [] pos) env) (λx s₁=>aL (cJ w) Γ.A (wU x) Q E s₁) E s:=by
 obtain⟨v,rfl,hkeep,go⟩:=O.gen g kk hk;refine Call_ (sL O hr N R λu ru=>db.V ru ?_) rfl;refine iB (P:=λh=>(hp w.params).In h∧gg w v=true) (by rw[ju hs];rfl) (λh p=>ki p.2 h p.1) ?_;refine ug (K:=λas H=>lY as λa=>kE a λx=>iz (yF (kk x)) λl=>K l none H) hev hs h N R λbs vs H' ρ' s' x r R' k=>?_
 refine lY.el k r λa1 v1 k r1=>kE.el k r1 λz t k=>?_
 have k:=d8 (k:=λl=>K l none H') k;obtain⟨mm,objs,F,qn,ro,Ns⟩:=R'.dy;refine⟨⟨Γ.X.keeps F.keep,hkeep⟩,go Γ.L mm _ z t s' _ E rfl F Ns λown a g' h' tk n V F' N' ap G x' hn hV=>zL G N' ?_⟩;refine q _ none H' ρ' _ _ x k ⟨a,s'.gens,none,_,own,rfl,Ih s'.gens,⟨0,G,(fi _).trans ((aD _).trans ((aD _).trans hn.symm)),λj it e vals hv T=>?_,?_⟩,R'.adn F' qn ro N' (λp hp q hq=>ap p hp q (av _ hq)) x' rfl rfl,λp hp q hq=>ap p hp q (au _ hq),R'.g,.no rfl⟩
 ·refine uM e λit' e1 f=>uM e1 λpr e2 f2=>?_
  subst f f2;obtain⟨pr',t,u,e3,e4⟩:=hV j vals (fi j▸hv);obtain rfl:=aj (e2.symm.trans e3);exact .pair rfl (congrArg (λl=>[(T,iy l)]) e4) (.int _ _) (.str _ _)
 ·obtain⟨st,e1,_⟩:=G.goes
  exact(vP.mp e1).1
theorem CP(O:cF Γ T)(hev:g6 Γ ev){iter:al}{K:List IT->Option Nat->Hp->Prop}(h:v7 T ev en iter m H K)(N:dC Γ ρ P en env)(R:bM Γ ρ P m H s)(q:∀l n H' ρ' v s',dg ρ ρ'->K l n H'->VK Γ ρ' P m H' l n v s'->Q v s'):
  aL (cJ w) Γ.A (eval iter env) (λx s₁=>aL (cJ w) Γ.A (wU x) Q E s₁) E s:=by
 induction h with
 |pl h=>exact hev en env iter m H _ h ρ P s _ E N R λa v H₁ ρ₁ s₁ x₁ r₁ R₁ k=>QB k r₁ R₁ λl n v s' k f=>q l n H₁ ρ₁ v s' x₁ k f
 |gen h=>
  refine aG.el h λc h h1=>aG.el h λx h h2=>ku.el h λh h3=>aG.el h λy h h4=>aG.el h λg h h5=>aG.el h λkk hh h6=>?_
  obtain⟨pos,rfl⟩:=II h1;obtain⟨ps,e⟩:=BA h4;rw[e,lb h2];exact TT O hev hh h3 h5 h6 N R q
end
variable{oC:dU}{mC:ax->Option ar}{cenv:qk}{nk:List (ax×gu)}{va:ar}{ρ₀:List aI}
section
noncomputable def Oa(ifs:List al)(env:qk):o6 Bool:=forIn ifs true λc r=>if r=true then do let ok <-isTrue c env (eval c env);pure (mR ok)else pure (mR r)
set_option tactic.hygienic true in
noncomputable def CA(tgt:al)(p:kF)(ifs:List al)(it:ar)(env:qk)(t:o6 Unit)(c:FH):o6 Fin:=sy p>>=λ_=>i9 it>>=λr=>match r with
 |none=>pure (.done .next)
 |some v=>jH tgt it v>>=λ_=>kq tgt env v>>=λ_=>Oa ifs env>>=λok=>if ok=true then t>>=λ_=>again c else again c
noncomputable def Pb(kx vx:al)(env:qk)(D:aI):o6 Unit:=eval kx env>>=λk=>sC [k] (eval vx env)>>=λv=>sy {kx.pos with endLine:=vx.pos.endLine,endCol:=vx.pos.endCol}>>=λz=>sC [k,v] (dictSet D k v)
theorem xj{C:aI}{g:Array bR}{x:ax}{Q:Unit->aC->Prop}(R:bM Γ ρ (P.ad ((C,oC)::l) g) m H s)(hg:bT P.gb g)(hns:gE oC mC)(off:∀p∈l++P.rest,p.1≠C)(hx:cenv.kindOf x=some .local)(hL:cenv.locals=C)(hk:cenv.scope.kind= .function)
  (q:∀s' oC',bM Γ ρ (P.ad ((C,oC')::l) g) m H s'->gE oC' (λy=>if y=x then some v else mC y)->Q () s'):aL (cJ w) Γ.A (EZ cenv x v) Q E s:=by
 refine R.led λmm objs F qn ro N ap=>?_
 subst hL;have zC:=N (cenv.locals,oC) ah;refine Jc hx (hns.ns zC.1) (λh₃ hn₃ hs₃=>?_) (by rw[hk];rfl);obtain⟨oC',heC,hoC⟩:=LCg.ns_obj hn₃;refine q _ oC' ((R.drop hg).adn (F.change hs₃ zC.2.1 zC.2.2) qn ro (λp hp=>(aE.mp hp).elim (λe=>e▸⟨heC,zC.2⟩) λhp=>?_) (λp hp=>(aE.mp hp).elim (λe=>e▸ap (cenv.locals,oC) ah) λhp=>ap p (af _ hp)) R.g rfl rfl) hoC;have z:=N p (af _ hp);exact⟨hs₃.extBut _ _ (qF hp (λh=>off p (av _ h)) (λh=>(ap _ ah p h).symm) λh=>off p (au _ h)) z.1,z.2⟩
theorem mD(hnk:cenv.scope.names=nk){x:ax}(h:jx nk x=true):cenv.kindOf x=some .local:=(congrArg (mq x) hnk).trans (bo h)
theorem Gl{C:aI}{g:Array bR}{x y:ax}{px py tp:kF}{T:aI}{vb:ar}{Q:Unit->aC->Prop}(ht:JT s.heap T #[va,vb])(R:bM Γ ρ (P.ad ((C,oC)::l) g) m H s)(hg:bT P.gb g)(hns:gE oC mC)(off:∀p∈l++P.rest,p.1≠C)(hx:cenv.kindOf x=some .local)(hy:cenv.kindOf y=some .local)(hL:cenv.locals=C)(hk:cenv.scope.kind= .function)
  (q:∀s' oC',bM Γ ρ (P.ad ((C,oC')::l) g) m H s'->gE oC' (λz=>if z=y then some vb else if z=x then some va else mC z)->Q () s'):aL (cJ w) Γ.A (kq (.Tuple [.Name x px,.Name y py] k tp) cenv (.ref T)) Q E s:=
 R.run λmm l F Ns fin=>unpackN_ F Ns ht rfl rfl rfl λh' F' N'=>mZ (dh (xj (fin h' s.toks F' N') hg hns off hx hL hk λs₁ o₁ R₁ n₁=>mZ (dh (xj R₁ hg n₁ off hy hL hk λs₂ o₂ R₂ n₂=>vH (q s₂ o₂ R₂ n₂)))))
theorem gc{x:ax}{p:ax×β}{r:List (ax×β)}:(p::r).lookup x=match x==p.1 with|true=>some p.2|false=>r.lookup x:=rfl
theorem mo.nil:mo ρ [] mm:=λz z e=>aJ e
theorem mo.add{l:Nm}{x:ax}{a:AV}(q:mo ρ l mm)(r:db ρ a v):mo ρ ((x,a)::l) (λy=>if y=x then some v else mm y):=λy b e=>by
 by_cases h:y=x
 ·exact⟨v,if_pos h,aj (((congrArg (λz=>mq z ((x,a)::l)) h).trans List.lookup_cons_self).symm.trans e)▸r⟩
 ·rw[gc,beq_eq_false_iff_ne.mpr h]at e
  exact(q y b e).imp λu p=>⟨(if_neg h).trans p.1,p.2⟩
theorem Nd{it:IT}{new:gO}{g:Array bR}{C:aI}{K:Nm->Hp->Prop}{Q:Unit->aC->Prop}(h:EQ nk tgt it H K)(x0:dg ρ₀ ρ)(hv:Pe ρ₀ v new it)(R:bM Γ ρ (P.ad (new++(C,oC)::l) g) m H s)(hg:bT P.gb g)(hns:gE oC mC)
  (off:∀p∈l++P.rest,p.1≠C)(offn:∀q∈new,(∀p∈l++P.rest,p.1≠q.1)∧q.1≠C)(hnk:cenv.scope.names=nk)(hL:cenv.locals=C)(hk:cenv.scope.kind= .function)
  (q:∀ρ' l' oC' mC' H' s',dg ρ ρ'->K l' H'->bM Γ ρ' (P.ad ((C,oC')::l) g) m H' s'->gE oC' mC'->mo ρ' l' mC'->Q () s'):aL (cJ w) Γ.A (kq tgt cenv v) Q E s:=by
 have offT:∀{T:aI}{ob:dU},(T,ob)∈new->∀p∈((T,ob)::l)++P.rest,p.1≠C:=λe p hp=>(aE.mp hp).elim (λz=>z▸(offn _ e).2) (off p)
 have swap:∀{T:aI}{ob:dU},new=[(T,ob)]->bM Γ ρ (P.ad ((C,oC)::(T,ob)::l) g) m H s:=λe=>(e▸R).less λp hp=>(aE.mp hp).elim (λz=>z▸af _ ah) λhp=>(aE.mp hp).elim (λz=>z▸ah) λhp=>af _ (af _ hp)
 unfold EQ at h;have wt:=Bf tgt;generalize jh tgt=t at h wt;induction wt with
 |@one x px=>
  refine ku.el h λh hl=>?_
  induction hv with
  |@val a e r=>
   subst e;exact dh (xj R hg hns off (mD hnk hl) hL hk λs₁ o₁ R₁ n₁=>q ρ _ o₁ _ H s₁ (dg.refl ρ) h R₁ n₁ (mo.add mo.nil (r.mono x0)))
  |@pair a b T va vb e f ra rb=>
   subst e;refine dh (xj (swap f) hg hns (offT (f▸ah)) (mD hnk hl) hL hk λs₁ o₁ R₁ n₁=>?_);have R₂:bM Γ ρ ((P.ad ((C,o₁)::l) g).ad [(T,iy [va,vb])] g) m H s₁:=R₁.less (l':=(T,iy [va,vb])::(C,o₁)::l) λp hp=>(aE.mp hp).elim (λz=>z▸af _ ah) λhp=>(aE.mp hp).elim (λz=>z▸ah) λhp=>af _ (af _ hp)
   have z:=offn _ (f▸ah);have R₃:=R₂.take (o:=.tup [a,b]) (.tup (.cons (ra.mono x0) (.cons (rb.mono x0) .nil))) (λp hp=>(aE.mp hp).elim (λe=>e▸z.2.symm) (z.1 p)) br (bT.refl g);exact q _ _ o₁ _ _ s₁ (dg.one ρ T) h R₃ n₁ (mo.add mo.nil (.ref _ _ (R.ly.ln▸bA)))
 |@row es k p=>
  refine aG.el h λxs h e1=>aG.el h λxy h e2=>ku.el h λhh hl=>?_
  rw[aM]at hl;have he:=oF e1;rw[pG e2]at he;cases he with|cons he=>
  cases he with|cons he=>
  cases he;induction hv with
  |@pair a b T va vb e f ra rb=>
   subst e;have z:JT s.heap T #[va,vb]:=R.led λu u u u u N u=>⟨_,(N (T,iy [va,vb]) (av _ (av _ (f▸ah)))).1,rfl,_,rfl⟩
   exact Gl z (swap f) hg hns (offT (f▸ah)) (mD hnk hl.1) (mD hnk hl.2) hL hk λs₁ o₁ R₁ n₁=>q ρ _ o₁ _ H s₁ (dg.refl ρ) hh (R₁.less λp hp=>(aE.mp hp).elim (λz=>z▸ah) λhp=>af _ (af _ hp)) n₁ (mo.add (mo.add mo.nil (ra.mono x0)) (rb.mono x0))
  |@val a e r=>
   subst e;refine jY.el hh r λn T hh hT=>aG.el hh λys hh e3=>aG.el hh λy hh e4=>R.tupl (x0.get hT) e3 λvs rs=>?_
   rw[pG e4]at rs;exact bB.c2 rs λva vb ra rb z=>Gl z R hg hns off (mD hnk hl.1) (mD hnk hl.2) hL hk λs₁ o₁ R₁ n₁=>q ρ _ o₁ _ H s₁ (dg.refl ρ) hh R₁ n₁ (mo.add (mo.add mo.nil ra) rb)
 |_=>exact h.elim
theorem Nc{it:IT}{K:Nm->Hp->Prop}(h:EQ nk tgt it H K):Te (jh tgt)=true:=by
 unfold EQ at h;generalize jh tgt=t at h;cases t with
 |one=>rfl
 |row=>rfl
 |_=>exact h.elim
end
variable{oD:dU}{bs:List (ax×AV)}
section
variable{α:Type}
structure NJ(Γ:Wk w mean mg mb)(el:En->Nm->Hp->(α->Hp->Prop)->Prop)(acc:List α->List aI->dU->Prop)(body:qk->aI->o6 Unit):Prop where
 mono:∀ys ρ ρ' o,acc ys ρ o->dg ρ ρ'->acc ys ρ' o
 go:∀(en:En)(env:qk)(m:Nm)(H:Hp)(K:α->Hp->Prop)(ρ:List aI)(P:mh)(s:aC)(l:gO)(g:Array bR)(D:aI)(oD:dU)(ys:List α)(Q:Unit->aC->Prop)(E:ar->aC->Prop),el en m H K->dC Γ ρ (P.ad ((D,oD)::l) g) en env->bM Γ ρ (P.ad ((D,oD)::l) g) m H s->bT P.gb g->(∀p∈l++P.rest,p.1≠D)->acc ys ρ oD->ys.length<=aF->
  (∀a H' ρ' oD' s',dg ρ ρ'->K a H'->bM Γ ρ' (P.ad ((D,oD')::l) g) m H' s'->acc (ys++[a]) ρ' oD'->Q () s')->aL (cJ w) Γ.A (body env D) Q E s
theorem bM.turn{g:Array bR}(R:bM Γ ρ (P.ad ((D,oD)::l) g) m H s)(hg:bT P.gb g)(off:∀p∈l++P.rest,p.1≠D)(k:∀mm r,Fr Γ.h₀ Γ.L s.heap mm->dJ Γ.h₀ Γ.L s.heap ((D,oD)::r)->(∀p∈r,p.1≠D)->
  (∀h' oD' n,Fr Γ.h₀ Γ.L h' mm->dJ Γ.h₀ Γ.L h' ((D,oD')::r)->bM Γ ρ (P.ad ((D,oD')::l) g) m H {s with heap:=h',toks:=n})->C):C:=
 R.led λmm objs F q ro N ap=>k mm _ F N (λp hp=>qF hp (λh=>off p (av _ h)) (λh=>(ap _ ah p h).symm) λh=>off p (au _ h)) λh' oD' n F' N'=>(R.drop hg).adn F' q ro N' (λp hp=>(aE.mp hp).elim (λe=>e▸ap (D,oD) ah) λhp=>ap p (af _ hp)) R.g rfl rfl
def ŧ(ys:List AV)(ρ:List aI)(o:dU):Prop:=∃vs k,o=jZ vs.toArray k∧bB ρ ys vs
theorem U_(hev:g6 Γ ev)(elt:al):NJ Γ (λen m H K=>ev en elt m H K) ŧ (λenv D=>eval elt env>>=λx=>call (.builtin "list.append") [.ref D,x]>>=λz=>pure ()):=
 ⟨λys ρ ρ' o h x=>h.imp λz p=>p.imp λz p=>⟨p.1,p.2.mono x⟩,λen env m H K ρ P s l g D oD ys Q E h N R hg off⟨vs,k,e,r⟩ hz q=>by
  subst e;refine az (hev en env elt m H _ h ρ _ s _ E N R λa v H' ρ' s' x ra R' ka=>az (R'.turn hg off λmm rr F Ns hr fin=>append_K F Ns (Upd.head hr) (λh' F' N'=>aV ?_) (show vs.length<=aF from r.len▸hz)));exact q a H' ρ' _ _ x ka (fin h' _ s'.toks F' N') ⟨vs++[v],k+1,by rw[sF],(r.mono x).app (.cons ra .nil)⟩⟩
theorem cW.app{as:List (ax×AV)}{vs us:List (ax×ar)}(h:cW ρ as vs)(k:cW ρ bs us):cW ρ (as++bs) (vs++us):=by
 induction h with
 |nil=>exact k
 |cons h _ ih=>exact .cons h ih
noncomputable abbrev D9(vs d:List (ax×ar)):List (ax×ar):=vs.foldl (λd p=>uk d p.1 p.2) d
def U9(w:gf)(ys:List (ax×AV))(ρ:List aI)(o:dU):Prop:=∃vs:List (ax×ar),o.IsDictOf (strKind aS w) (D9 vs [])∧cW ρ ys vs
theorem Dp:∀(vs d:List (ax×ar)),(D9 vs d).length<=d.length+vs.length
 |[],_=>bF _
 |p::vs,d=>aq (Dp vs (uk d p.1 p.2)) (aq (fC (stored_length_le d p.1 p.2) _) (bP (cC ..)))
theorem V'(hev:g6 Γ ev)(kx vx:al):NJ (α:=ax×AV) Γ (λen m H K=>ev en kx m H λa H=>kE a λx=>ev en vx m H λb H=>K (x,b) H) (U9 w) (Pb kx vx):=
 ⟨λys ρ ρ' o h x=>h.imp λn p=>⟨p.1,p.2.mono x⟩,λen env m H K ρ P s l g D oD ys Q E h N R hg off⟨vs,d,r⟩ hz q=>by
  refine az (hev en env kx m H _ h ρ _ s _ E N R λa v H' ρ' s' x ra R' ka=>kE.el ka ra λy t ka=>?_);refine az (cE (hev en env vx m H' _ ka ρ' _ s' _ E (N.mono x) R' λb u H₂ ρ₂ s₂ x₂ rb R₂ kb=>az (d6 (cE ?_))));refine R₂.turn hg off λmm rr F Ns hr fin=>?_
  have zD:=Ns _ ah;refine wpAny_dictSet_pairs (knd:=strKind aS w) (pD _ w y t) (kQ.mpr ⟨oD,zD.1,d⟩) (λh' hd hs=>?_) ?_
  ·obtain⟨o',g',d'⟩:=kQ.mp hd
   refine q (y,b) H₂ ρ₂ o' _ (x.trans x₂) kb (fin h' o' _ (F.change hs zD.2.1 zD.2.2) λp hp=>(aE.mp hp).elim (λe=>e▸⟨g',zD.2⟩) λhp=>?_) ⟨vs++[(y,u)],?_,(r.mono (x.trans x₂)).app (.cons rb .nil)⟩
   ·have z:=Ns p (af _ hp)
    exact⟨hs.extBut _ _ (hr p hp) z.1,z.2⟩
   ·rw[D9,List.foldl_append];exact d'
  ·exact aq (Dp vs []) (aq (bP ((fi _).trans r.len)) hz)⟩
theorem xY:∀(vs d:List (ax×ar)),((d++vs).map (·.1)).Nodup->D9 vs d=d++vs
 |[],d,_=>(be d).symm
 |p::vs,d,h=>by
  have hn:¬(d.any λkv=>decide (kv.1=p.1))=true:=λe=>by
   obtain⟨q,hq,e⟩:=Ji.mp e;rw[b6,sG]at h;exact h.2.2 q.1 (cZ hq) p.1 (cZ ah) (of_decide_eq_true e)
  have e:uk d p.1 p.2=d++[p]:=if_neg hn;have e2:d++p::vs=(d++[p])++vs:=(aA d [p] vs).symm;exact(congrArg (D9 vs) e).trans ((xY vs (d++[p]) (e2▸h)).trans e2.symm)
theorem jd{β:Type}{x:ax}{b:β}:∀{l:List (ax×β)},l.lookup x=some b->(x,b)∈l
 |[],h=>aJ h
 |p::r,h=>by
  rw[gc]at h;cases e:x==p.1 with
  |true=>
   rw[e]at h;exact bo e▸aj h▸ah
  |false=>
   rw[e]at h;exact af _ (jd h)
theorem C6{β:Type}{x:ax}:∀{l:List (ax×β)},x∈l.map (·.1)->(l.lookup x).isNone=true->False
 |[],h,_=>eN h
 |p::r,h,n=>by
  rw[gc]at n;cases e:x==p.1 with
  |true=>rw[e]at n;exact bj n
  |false=>
   rw[e]at n;exact(aE.mp h).elim (λz=>ne_of_beq_false e z) λh=>C6 h n
theorem uI:∀{l:List (ax×AV)},kh l=true->(l.map (·.1)).Nodup
 |[],_=>o7
 |p::r,h=>by
  have h:=(aM ..).mp (show((r.lookup p.1).isNone&&kh r)=true from h);exact eM.mpr ⟨λhm=>C6 hm h.1,uI h.2⟩
theorem wL{ys:List (ax×AV)}(h:U9 w ys ρ o)(hn:kh ys=true):de w ρ (.dct ys) o:=by
 obtain⟨vs,d,r⟩:=h;have e:D9 vs []=vs:=xY vs [] (show(vs.map (·.1)).Nodup from r.keys▸uI hn);exact .dct (e▸d) r
theorem ye(N:dC Γ ρ P en env):∀(names:List (ax×gu))(acc:List (ax×Nat))(acc':List (ax×aI))(cl:List (ax×Nat)),qT en.cl names acc=some cl->(∀x j,acc.lookup x=some j->∃c,acc'.lookup x=some c∧ρ[j]? =some c)->
  ∃cl',(forIn names acc' λ(x:ax×gu)(r:List (ax×aI))=>(do if x.2== .free then(do let c <-cellOf env x.1;pure (mR ((x.1,c)::r)))else pure (mR r):o6 (ForInStep (List (ax×aI)))))=pure cl'∧∀x j,cl.lookup x=some j->∃c,cl'.lookup x=some c∧ρ[j]? =some c
 |[],acc,acc',cl,h,ha=>⟨acc',rfl,aj h▸ha⟩
 |p::r,acc,acc',cl,h,ha=>by
  conv at h=>lhs;whnf
  rw[vm];cases hf:p.2==NameKind.free with
  |false=>
   rw[hf]at h;exact ye N r acc acc' cl h ha
  |true=>
   rw[hf]at h;dsimp only at h;cases hl:en.cl.lookup p.1 with
   |none=>rw[hl]at h;exact aJ h
   |some j=>
    rw[hl]at h;obtain⟨c,e1,e2⟩:=N.cl _ _ hl;have hc:cellOf env p.1=pure c:=by unfold cellOf;rw[e1]
    obtain⟨cl',e,k⟩:=ye N r ((p.1,j)::acc) ((p.1,c)::acc') cl h λx i hx=>by
     rw[gc]at hx ⊢;dsimp only at hx ⊢;cases q:x==p.1 with
     |true=>rw[q]at hx;exact⟨c,rfl,aj hx▸e2⟩
     |false=>rw[q]at hx;exact ha x i hx
    refine⟨cl',?_,k⟩;rw[hc];exact e
theorem Dy(N:dC Γ ρ P en env){cl:List (ax×Nat)}(h:qT en.cl sc.names []=some cl):∃cl',closureFor sc env=pure cl'∧∀x j,cl.lookup x=some j->∃c,cl'.lookup x=some c∧ρ[j]? =some c:=by
 obtain⟨cl',e,k⟩:=ye N sc.names [] [] cl h λx j e=>aJ e
 refine⟨cl',?_,k⟩;unfold closureFor;dsimp only;rw[e];rfl
theorem zc(N:dC Γ ρ P en env)(sc:iS):(relabel sc env).names=eU sc en.nk:=by
 unfold relabel eU;dsimp only;refine fR λp z=>?_
 have h:(env.scope.kind== .function)=true:=congrArg (·==ScopeKind.function) N.kind;rw[h,Bool.and_true,N.of]
theorem EI(h:sk sc=true):sc.kind= .function∧(∀y∈sc.names,y.2≠ .cell)∧∀y∈sc.names,y.2= .local->sc.names.lookup y.1=some .local:=by
 unfold sk at h;rw[aM,aB]at h;have z:=λy hy=>(aM ..).mp (h.2 y hy)
 refine⟨bo h.1,λy hy e=>bne_iff_ne.mp (z y hy).1 e,λy hy e=>?_⟩;exact((jk ..).mp (z y hy).2).elim (λn=>(bne_iff_ne.mp n e).elim) bo
end
variable{RR:lL->aC->Prop}{ifs:List al}
section
variable{α:Type}
structure CC(α:Type) where
 tr:Tr
 el:En->Nm->Hp->(α->Hp->Prop)->Prop
 acc:List α->List aI->dU->Prop
 ρ₀:List aI
 P:mh
 m:Nm
 gb:Array bR
 St:List (ar->gO->Prop)->gO->Array bR->Prop
 en:En
 tgt:al
 ifs:List al
 pn:Option (Nat×dU)
 D:aI
 C:aI
 K:List α->Hp->Prop
inductive Cc(Γ:Wk w mean mg mb)(c:CC α):Nat->aC->Prop
 |mk(l:List IT)(ys:List α)(ρ:List aI)(H:Hp)(own:gO)(oC:dU)(mC:ax->Option ar)(oD:dU)(s:aC)(x:dg c.ρ₀ ρ)(st:c.St (l.map (á c.ρ₀)) own s.gens)(R:bM Γ ρ (c.P.ad ((c.D,oD)::(c.C,oC)::own) c.gb) c.m H s)(ap:∀p∈own,(∀q∈c.P.rest,p.1≠q.1)∧p.1≠c.C∧p.1≠c.D)(ns:gE oC mC)(ac:c.acc ys ρ oD)(sz:ys.length+l.length<=aF)
   (cv:jA c.tr c.el c.en c.tgt c.ifs c.pn l c.m H λzs H=>c.K (ys++zs) H):Cc Γ c l.length s
theorem Ob{α:Type}{a b:α}{l:List α}:∀p∈b::a::l,p∈a::b::l:=λp hp=>(aE.mp hp).elim (λz=>z▸af _ ah) λhp=>(aE.mp hp).elim (λz=>z▸ah) λhp=>af _ (af _ hp)
theorem zU{α:Type}{p a b:α}{l:List α}(h:p∈a::b::l)(k1:p=a->C)(k2:p=b->C)(k3:p∈l->C):C:=(aE.mp h).elim k1 λh=>(aE.mp h).elim k2 k3
structure IX(Γ:Wk w mean mg mb)(c:CC α)(S:Option (aI×dU))(I:aI)(cenv:qk)(body:qk->aI->o6 Unit):Prop where
 tr:rh Γ c.tr
 el:NJ Γ c.el c.acc body
 fd:Ja Γ I c.gb S c.St
 pn:vd c.ρ₀ S c.pn
 gb:bT c.P.gb c.gb
 hC:∀p∈c.P.rest,p.1≠c.C
 hD:∀p∈c.P.rest,p.1≠c.D
 ne:c.C≠c.D
 nk:cenv.scope.names=c.en.nk
 lc:cenv.locals=c.C
 kd:cenv.scope.kind= .function
 en:∀ρ P' oC mC l,dg c.ρ₀ ρ->(c.C,oC)∈P'.rest->gE oC mC->mo ρ l mC->dC Γ ρ P' {c.en with loc:=some l} cenv
theorem M1{c:CC α}{S:Option (aI×dU)}{I:aI}{body:qk->aI->o6 Unit}(T:IX Γ c S I cenv body){l':Nm}{r:List IT}{ys:List α}{cd:FH}(hn:r.length<n)(x:dg c.ρ₀ ρ)(hg:bT c.gb gs)(st:c.St (r.map (á c.ρ₀)) own gs)(ap:∀p∈own,(∀q∈c.P.rest,p.1≠q.1)∧p.1≠c.C∧p.1≠c.D)(ns:gE oC mC)(nm:mo ρ l' mC)(ac:c.acc ys ρ oD)(sz:ys.length+(r.length+1)<=aF)(R:bM Γ ρ (c.P.ad ((c.D,oD)::(c.C,oC)::own) gs) c.m H s)
 (k:Iz c.tr {c.en with loc:=some l'} ifs c.m H (λH=>c.el {c.en with loc:=some l'} c.m H λa H=>jA c.tr c.el c.en c.tgt c.ifs c.pn r c.m H λzs H=>c.K (ys++a::zs) H) λH=>jA c.tr c.el c.en c.tgt c.ifs c.pn r c.m H λzs H=>c.K (ys++zs) H):aL (cJ w) Γ.A (Oa ifs cenv>>=λok=>if ok=true then body cenv c.D>>=λz=>again cd else again cd) (λfin s'=>match fin with|.done f=>RR f s'|.again c'=>c'=cd∧∃k,k<n∧Cc Γ c k s') E s:=by
 have N₃:∀ρ₃,dg ρ ρ₃->dC Γ ρ₃ (c.P.ad ((c.D,oD)::(c.C,oC)::own) gs) {c.en with loc:=some l'} cenv:=λρ₃ y=>T.en ρ₃ _ oC mC l' (x.trans y) (af _ ah) ns (nm.mono y)
 have offD:∀p∈((c.C,oC)::own)++c.P.rest,p.1≠c.D:=λp hp=>(aE.mp hp).elim (λe=>e▸T.ne) λhp=>(aT.mp hp).elim (λhp=>(ap p hp).2.2) (T.hD p)
 have doit:∀ρ₃ H₃ s₃,dg ρ ρ₃->bM Γ ρ₃ (c.P.ad ((c.D,oD)::(c.C,oC)::own) gs) c.m H₃ s₃->(c.el {c.en with loc:=some l'} c.m H₃ λa H=>jA c.tr c.el c.en c.tgt c.ifs c.pn r c.m H λzs H=>c.K (ys++a::zs) H)->aL (cJ w) Γ.A (body cenv c.D>>=λz=>again cd) (λfin s'=>match fin with|.done f=>RR f s'|.again c'=>c'=cd∧∃k,k<n∧Cc Γ c k s') E s₃:=λρ₃ H₃ s₃ y R' e=>
  az (T.el.go _ cenv c.m H₃ _ ρ₃ c.P s₃ ((c.C,oC)::own) gs c.D oD ys _ E e (N₃ ρ₃ y) R' (T.gb.trans hg) offD (T.el.mono _ _ _ _ ac y) (aq (a9 _ _) sz) λa H₄ ρ₄ oD₄ s₄ y₄ k₄ R₄ a₄=>aV ⟨rfl,r.length,hn,r,ys++[a],ρ₄,H₄,own,oC,mC,oD₄,s₄,(x.trans y).trans y₄,T.fd.moved _ _ _ _ st R₄.g,R₄.base hg,ap,ns,a₄,(by rw[aK,AU,cU,d4 1];exact sz),(by simp only [aA,List.singleton_append];exact k₄)⟩)
 have skip:∀ρ₃ H₃ s₃,dg ρ ρ₃->bM Γ ρ₃ (c.P.ad ((c.D,oD)::(c.C,oC)::own) gs) c.m H₃ s₃->(jA c.tr c.el c.en c.tgt c.ifs c.pn r c.m H₃ λzs H=>c.K (ys++zs) H)->aL (cJ w) Γ.A (again cd) (λfin s'=>match fin with|.done f=>RR f s'|.again c'=>c'=cd∧∃k,k<n∧Cc Γ c k s') E s₃:=λρ₃ H₃ s₃ y R' e=>
  aV ⟨rfl,r.length,hn,r,ys,ρ₃,H₃,own,oC,mC,oD,s₃,x.trans y,T.fd.moved _ _ _ _ st R'.g,R'.base hg,ap,ns,T.el.mono _ _ _ _ ac y,aq (aU (gH _) _) sz,e⟩
 refine az ?_;cases ifs with
 |nil=>exact wpAny_tests_nil (doit ρ H s (dg.refl _) R k)
 |cons t more=>
  cases more with
  |cons _ _=>exact k.elim
  |nil=>exact wpAny_tests_one (T.tr _ cenv t c.m H _ k ρ _ s _ E (N₃ ρ (dg.refl _)) R λb H₃ ρ₃ s₃ y R' e=>by
    cases b with
    |true=>exact doit ρ₃ H₃ s₃ y R' (e.yes rfl)
    |false=>exact skip ρ₃ H₃ s₃ y R' (e.no rfl))
set_option tactic.hygienic true in
theorem Kf{c:CC α}{S:Option (aI×dU)}{I:aI}{body:qk->aI->o6 Unit}{p:kF}{cd:FH}(T:IX Γ c S I cenv body)
  (hdn:∀ys ρ H oD oC mC s,dg c.ρ₀ ρ->c.K ys H->c.acc ys ρ oD->bM Γ ρ (c.P.ad [(c.D,oD),(c.C,oC)] c.gb) c.m H s->gE oC mC->RR .next s)
  (h:Cc Γ c n s):aL (cJ w) Γ.A (CA c.tgt p c.ifs (.ref I) cenv (body cenv c.D) cd) (λfin s'=>match fin with|.done f=>RR f s'|.again c'=>c'=cd∧∃k,k<n∧Cc Γ c k s') E s:=by
 obtain⟨l,ys,ρ,H,own,oC,mC,oD,s,x,st,R,ap,ns,ac,sz,cv⟩:=h;refine az (d6 (az (R.led λmm objs F qn ro N apo=>?_)));have N':dJ Γ.h₀ Γ.L s.heap (own++((c.D,oD)::(c.C,oC)::(ρ.zip objs++c.P.rest))):=λp hp=>(aT.mp hp).elim (λh=>N p (af _ (af _ (av _ h)))) λh=>zU h (λe=>e▸N _ ah) (λe=>e▸N _ (af _ ah)) λh=>N p (af _ (af _ (au _ h)))
 have ap':Apart own ((c.D,oD)::(c.C,oC)::(ρ.zip objs++c.P.rest)):=λp hp q hq=>zU hq (λe=>e▸(ap p hp).2.2) (λe=>e▸(ap p hp).2.1) λhq=>(aT.mp hq).elim (apo p (af _ (af _ hp)) q) ((ap p hp).1 q)
 have oD':∀q∈ρ.zip objs,c.D≠q.1:=apo _ ah;have oC':∀q∈ρ.zip objs,c.C≠q.1:=apo _ (af _ ah);cases l with
 |nil=>
  obtain⟨k,hS⟩:=jR cv (T.pn.mono x) ro;rw[be]at k;exact T.fd.done own _ mm s _ E st R.g F N' ap' (λp e=>af _ (af _ (av _ (hS p e)))) λh' gs' tk F₁ N₁ hg=>aV (hdn ys ρ H oD oC mC _ x k ac ((R.drop T.gb).adn F₁ qn ro N₁ (λp hp=>zU hp (λe=>e▸oD') (λe=>e▸oC') λe=>eN e) hg rfl rfl) ns)
 |cons it r=>
  obtain⟨k,hS⟩:=jR cv (T.pn.mono x) ro;refine T.fd.next _ _ own _ mm s _ E st R.g F N' ap' (λp e=>af _ (af _ (av _ (hS p e)))) λv new own' h' gs' tk hv F₁ N₁ ap₁ apn st' hg=>?_
  have R₁:bM Γ ρ (c.P.ad (new++(c.C,oC)::(c.D,oD)::own') gs') c.m H {s with heap:=h',gens:=gs',toks:=tk}:=(R.drop T.gb).adn F₁ qn ro (λp hp=>(aT.mp hp).elim (λhp=>(aT.mp hp).elim (λhp=>N₁ p (Mn hp)) λhp=>zU hp (λe=>e▸N₁ _ (Dj (af _ ah))) (λe=>e▸N₁ _ (Dj ah)) λhp=>N₁ p (in1 hp)) λhp=>N₁ p (Dj (af _ (af _ hp))))
   (λp hp q hq=>(aT.mp hp).elim (λhp=>apn p hp q (af _ (af _ (av _ hq)))) λhp=>zU hp (λe=>e▸oC' q hq) (λe=>e▸oD' q hq) λhp=>ap₁ p hp q (au _ (af _ (af _ (av _ hq))))) (bT.refl _) rfl rfl
  have own_rest:∀p∈own',(∀q∈c.P.rest,p.1≠q.1)∧p.1≠c.C∧p.1≠c.D:=λp hp=>⟨λq hq=>ap₁ p hp q (au _ (af _ (af _ (au _ hq)))),ap₁ p hp (c.C,oC) (au _ (af _ ah)),ap₁ p hp (c.D,oD) (au _ ah)⟩
  obtain⟨oI,hI,hgo⟩:=T.fd.self _ _ _ st';refine az (OW (Nc k) (N₁ _ (av _ hI)).1 hgo (az ?_));refine Nd k x hv R₁ (T.gb.trans hg) ns (λp hp=>?_) (λq hq=>⟨λp hp=>?_,apn q hq (c.C,oC) (af _ ah)⟩) T.nk T.lc T.kd λρ₂ l' oC₂ mC₂ H₂ s₂ x₂ k₂ R₂ ns₂ nm₂=>?_
  ·exact(aT.mp hp).elim (λhp=>(aE.mp hp).elim (λe=>e▸T.ne.symm) λhp=>(own_rest p hp).2.1) (T.hC p)
  ·exact(aT.mp hp).elim (λhp=>(aE.mp hp).elim (λe=>e▸(apn q hq (c.D,oD) ah).symm) λhp=>ap₁ p hp q (av _ hq)) λhp=>(apn q hq p (af _ (af _ (au _ hp)))).symm
  ·exact M1 T (bI _) (x.trans x₂) hg st' own_rest ns₂ nm₂ (T.el.mono _ _ _ _ ac x₂) sz (R₂.less Ob) k₂
end
variable{tr:Tr}{G:Prop}{elt kx vx:al}
section
variable{α:Type}
theorem bM.plus{g:Array bR}{h':fk}(R:bM Γ ρ (P.ad l g) m H s)(hg:bT P.gb g)(old:∀b o,s.heap.get? b=some o->h'.get? b=some o)(e:h'.get? s.heap.objs.size=some ob)(n:Nat):bM Γ ρ (P.ad ((s.heap.objs.size,ob)::l) g) m H {s with heap:=h',toks:=n}:=
 R.led λmm objs F q ro N ap=>(R.drop hg).adn (F.keeps old) q ro (λp hp=>(aE.mp hp).elim (λz=>z▸⟨e,cu F.ns.lt,dj (aq F.above (b0 F.ns.lt))⟩) (N.grown old p)) (λp hp=>(aE.mp hp).elim (λe=>e▸λq hq=>(bc (bw (N q (au _ (av _ hq))).1)).symm) (ap p)) R.g rfl rfl
theorem wn{it:al}(h:mc it=true)(x:ar):foldedSetIterable it env x=pure x:=by
 cases it with
 |Set=>exact bj h
 |_=>rfl
inductive EV(Γ:Wk w mean mg mb)(ρ:List aI)(P:mh)(m:Nm)(acc:List α->List aI->dU->Prop)(Kc:List α->Hp->Prop)(D C:aI)(s:aC):Prop
 |mk(ys:List α)(ρ':List aI)(H':Hp)(gb:Array bR)(oD oC:dU)(mC:ax->Option ar)(x:dg ρ ρ')(k:Kc ys H')(a:acc ys ρ' oD)(R:bM Γ ρ' (P.ad [(D,oD),(C,oC)] gb) m H' s)(hg:bT P.gb gb)(ns:gE oC mC)(hCD:C≠D)(hC:∀p∈P.rest,p.1≠C)(hD:∀p∈P.rest,p.1≠D)(lo:(D==mW)=false):EV Γ ρ P m acc Kc D C s
set_option tactic.hygienic true in
theorem wI{el:En->Nm->Hp->(α->Hp->Prop)->Prop}{acc:List α->List aI->dU->Prop}{body:qk->aI->o6 Unit}{Kc:List α->Hp->Prop}{newAcc:o6 ar}{use:Option (ar->o6 Unit)}{iter:al}
  (O:cF Γ T)(hev:g6 Γ ev)(htr:rh Γ tr)(hel:NJ Γ el acc body)(hcl:clausesOf e=[⟨tgt,iter,ifs,0⟩])
  (hloop:∀(cenv:qk)(I D:aI)(R:rL->aC->Prop)(J:Nat->aC->Prop) n s,(∀n s E,J n s->aL (cJ w) Γ.A (CA tgt iter.pos ifs (.ref I) cenv (body cenv D) (.compLoop e 0 (.ref I) (.ref D) cenv)) (λfin s'=>match fin with|.done f=>R (.ok f) s'|.again c'=>c'= .compLoop e 0 (.ref I) (.ref D) cenv∧∃k,k<n∧J k s') E s)->J n s->(∀(Q E:ar->aC->Prop),Q (.ref I) s->aL (cJ w) Γ.A (wU (.ref I)) Q E s)->nM (cJ w) Γ.A (.compStart e 0 (.ref I) (.ref D) cenv) R s)
  (hfree:oD.isFreed=false)(hnew:∀(Q E:ar->aC->Prop) s,Q (.ref s.heap.objs.size) {s with heap:=s.heap.push oD}->aL (cJ w) Γ.A newAcc Q E s)(ha:∀ρ,acc [] ρ oD)
  (h:Dw T ev tr el en tgt iter ifs sc m H Kc)(hb2:sk sc=true)(hb3:mc iter=true)(N:dC Γ ρ P en env)(R:bM Γ ρ P m H s)
  (post:∀D C s',EV Γ ρ P m acc Kc D C s'->compPost (cJ w) Γ.A E use Q (.ref D) C (.ok .next) s'):
  aL (cJ w) Γ.A (DP e sc env pos newAcc false (eval iter env) use) Q E s:=by
 refine aG.el h λcl h h2=>?_
 obtain⟨cl',hclos,hc⟩:=Dy N h2;obtain⟨hkind,hcell,hnames⟩:=EI hb2;refine wpAny_comprehension_free hcl (wn hb3) hclos hkind hnames (CP O hev h N R λl n H₁ ρ₁ v s₁ x₁ k fed=>?_);obtain⟨I,gb,S,St,own,rfl,fd,st,R₁,ap,hg,hS⟩:=fed;refine GU k.2 hS R₁ λpn H₂ hpn R₂ kc=>?_
 refine hnew _ _ _ (JI hcell (λ_ hy=>eN hy) (λh₁ hns₁ hsb₁=>?_) hkind);have R₃:bM Γ ρ₁ (P.ad ((s₁.heap.objs.size,oD)::own) gb) m H₂ {s₁ with heap:=s₁.heap.push oD,toks:=s₁.toks}:=R₂.plus hg (λb o e=>aR _ e) (bE _ hfree) _;obtain⟨oC,heC,hoC⟩:=LCg.ns_obj hns₁;have R₅:=(R₃.plus hg (h':=h₁) (λb o e=>hsb₁.extBut b o (bc (bw e)) (aR _ e)) heC (s₁.toks+([]:List (ax×ar)).length)).less Ob;refine R₁.led λmm objs F₁ qn ro N₁ apo=>?_
 have lt:∀p∈own++(ρ₁.zip objs++P.rest),p.1<s₁.heap.objs.size:=λp hp=>bw (N₁ p hp).1
 have hC:(s₁.heap.push oD).objs.size=s₁.heap.objs.size+1:=fq ..;have ltC:∀p∈own++(ρ₁.zip objs++P.rest),p.1≠(s₁.heap.push oD).objs.size:=λp hp=>hC▸bc (dF (lt p hp))
 have hCD:(s₁.heap.push oD).objs.size≠s₁.heap.objs.size:=hC▸JR _;have restC:∀p∈P.rest,p.1≠(s₁.heap.push oD).objs.size:=λp hp=>ltC p (Dj hp)
 have restD:∀p∈P.rest,p.1≠s₁.heap.objs.size:=λp hp=>bc (lt p (Dj hp))
 let c:CC α:=⟨tr,el,acc,ρ₁,P,m,gb,St,⟨eU sc en.nk,cl,none⟩,tgt,ifs,pn,s₁.heap.objs.size,(s₁.heap.push oD).objs.size,λys H=>fX pn H λH=>Kc ys H⟩
 have TH:IX Γ c S I (compEnvC sc cl' (s₁.heap.push oD).objs.size env) body:=⟨htr,hel,fd,hpn,hg,restC,restD,hCD,zc N sc,rfl,hkind,λρ₂ P' oC mC l' x hm hn hl=>⟨zc N sc,hkind,N.gl,N.bi,λx' j e=>(hc x' j e).imp λ_ p=>⟨p.1,x.get (x₁.get p.2)⟩,(λe=>aJ e.symm),λl'' e=>⟨oC,mC,hm,hn,aj e▸hl⟩⟩⟩;refine hloop (compEnvC sc cl' (s₁.heap.push oD).objs.size env) I _ _ (Cc Γ c) l.length _ (λn s E hI=>Kf (RR:=λf s=>compPost (cJ w) Γ.A _ use Q (.ref s₁.heap.objs.size) (s₁.heap.push oD).objs.size (.ok f) s) TH (λys ρ₂ H₃ oD₂ oC₂ mC₂ s₂ x₂ k₂ a₂ R' n₂=>?_) hI) ⟨l,[],ρ₁,H₂,own,oC,_,oD,_,dg.refl _,st,R₅,λp hp=>⟨ap p hp,ltC p (in1 hp),bc (lt p (in1 hp))⟩,hoC,ha _,(fi _).symm▸k.1,kc⟩ λQ E q=>?_
 ·exact wa k₂ R' λH₄ R₆ k₆=>post _ _ _ ⟨ys,ρ₂,H₄,gb,oD₂,oC₂,mC₂,x₁.trans x₂,k₆,a₂,R₆,hg,n₂,hCD,restC,restD,R₁.low⟩
 ·refine R₅.led λ_ objs5 _ _ ro5 N5 _=>fd.iter _ own (ρ₁.zip objs5++P.rest) _ Q E st (λp hp=>(aT.mp hp).elim (λh=>N5 p (in1 (af _ (af _ h)))) λh=>N5 p (au _ h)) (λp e=>av _ ?_) q
  cases l with
  |nil=>exact(jR kc hpn ro5).2 p e
  |cons=>exact(jR kc hpn ro5).2 p e
theorem bM.gone{C:aI}{gb:Array bR}(R:bM Γ ρ (P.ad [(C,oC)] gb) m H s)(hg:bT P.gb gb)(ns:gE oC mC)(hC:∀p∈P.rest,p.1≠C):s.heap.Ns C mC∧∀h',Heap.SameBut C s.heap h'->bM Γ ρ P m H {s with heap:=h'}:=
 R.led λmm objs F qn ro N ap=>by
  have zC:=N (C,oC) ah;refine⟨ns.ns zC.1,λh' hs=>(((R.drop hg).adn (own:=[]) (g:=gb) (s':={s with heap:=h'}) (F.change hs zC.2.1 zC.2.2) qn ro (λp hp=>?_) (λp hp=>eN hp) R.g rfl rfl).drop hg:bM Γ ρ P m H {s with heap:=h'})⟩;have z:=N p (af _ hp);exact⟨hs.extBut _ _ ((aT.mp (show p∈ρ.zip objs++P.rest from hp)).elim (λh=>(ap _ ah p h).symm) (hC p)) z.1,z.2⟩
theorem EV.made{acc:List α->List aI->dU->Prop}{Kc:List α->Hp->Prop}{C:aI}(mk:List α->AO)(hmk:∀ys H ρ' o,acc ys ρ' o->Kc ys H->de w ρ' (mk ys) o∧K (.ref H.length) (H++[mk ys]))(h:EV Γ ρ P m acc Kc D C s)(k:∀ρ' H' gb oC mC a,dg ρ ρ'->bM Γ ρ' (P.ad [(C,oC)] gb) m H' s->db ρ' a (.ref D)->K a H'->bT P.gb gb->gE oC mC->(∀p∈P.rest,p.1≠C)->G)(hok:∀ys b,(b==mW)=false->okA (mk ys) b):G:=by
 obtain⟨ys,ρ',H',gb,oD,oC,mC,x,kk,a,R,hg,ns,hCD,hC,hD,lo⟩:=h;obtain⟨r,kk⟩:=hmk ys H' ρ' oD a kk;have R':bM Γ ρ' ((P.ad [(C,oC)] gb).ad [(D,oD)] gb) m H' s:=R;exact k _ _ gb oC mC _ (x.trans (dg.one ρ' D)) (R'.take r (λp hp=>(aE.mp hp).elim (λe=>e▸hCD) (hD p)) (hok ys D lo) (bT.refl _)) (.ref _ _ (R.ly.ln▸bA)) kk hg ns hC
theorem zm{acc:List α->List aI->dU->Prop}{Kc:List α->Hp->Prop}{C:aI}(mk:List α->AO)(hmk:∀ys H ρ' o,acc ys ρ' o->Kc ys H->de w ρ' (mk ys) o∧K (.ref H.length) (H++[mk ys]))(h:EV Γ ρ P m acc Kc D C s)(b:Back Γ ρ P m K Q)(hok:∀ys b,(b==mW)=false->okA (mk ys) b):∃m,s.heap.Ns C m∧∀h',Heap.SameBut C s.heap h'->Q (.ref D) {s with heap:=h'}:=
 h.made mk hmk (λz z z z mC z x R r k hg ns hC=>⟨mC,(R.gone hg ns hC).1,λh' hs=>b.put x r ((R.gone hg ns hC).2 h' hs) k⟩) hok
theorem tT{A:dR}{R:rL->aC->Prop}{c:FH}{t:o6 Fin}(J:Nat->aC->Prop)(hq:c.quiet=true)(hd:∀Q E s,aL (cJ w) A t Q (Fy (cJ w) A env E) s->aL (cJ w) (A.under c) ((cJ w).den c) Q E s)(turn:∀n s E,J n s->aL (cJ w) A t (λfin s'=>match fin with|.done f=>R (.ok f) s'|.again c'=>c'=c∧∃k,k<n∧J k s') E s)(n:Nat)(h:J n s):nM (cJ w) A c R s:=
 codeAny_loop hq J (λn s hI=>hd _ _ s (eQ (turn n s _ hI) (λfin s' h=>by cases fin<;>exact h) λz z h=>h)) n h
theorem Zf{A:dR}{iter:al}{acc:ar}(Q:Fin->aC->Prop)(E:ar->aC->Prop)(s:aC)(h:aL (cJ w) A (CA tgt iter.pos ifs it env (eval elt env>>=λx=>call (.builtin "list.append") [acc,x]>>=λz=>pure ()) (.compLoop (.ListComp elt [⟨tgt,iter,ifs,0⟩] sc pos) 0 it acc env)) Q (Fy (cJ w) A env E) s):aL (cJ w) (A.under (.compLoop (.ListComp elt [⟨tgt,iter,ifs,0⟩] sc pos) 0 it acc env)) ((cJ w).den (.compLoop (.ListComp elt [⟨tgt,iter,ifs,0⟩] sc pos) 0 it acc env)) Q E s:=by
 show aL _ A ((compTurn (.ListComp elt [⟨tgt,iter,ifs,0⟩] sc pos) 0 it acc env).onRaise (λx=>do sB x env;l7 x)) _ _ s;exact wpAny_noted h
theorem Zg{A:dR}{iter:al}(Q:Fin->aC->Prop)(E:ar->aC->Prop)(s:aC)(h:aL (cJ w) A (CA tgt iter.pos ifs it env (Pb kx vx env D) (.compLoop (.DictComp kx vx [⟨tgt,iter,ifs,0⟩] sc pos) 0 it (.ref D) env)) Q (Fy (cJ w) A env E) s):aL (cJ w) (A.under (.compLoop (.DictComp kx vx [⟨tgt,iter,ifs,0⟩] sc pos) 0 it (.ref D) env)) ((cJ w).den (.compLoop (.DictComp kx vx [⟨tgt,iter,ifs,0⟩] sc pos) 0 it (.ref D) env)) Q E s:=by
 show aL _ A ((compTurn (.DictComp kx vx [⟨tgt,iter,ifs,0⟩] sc pos) 0 it (.ref D) env).onRaise (λx=>do sB x env;l7 x)) _ _ s;exact wpAny_noted h
theorem zr(O:cF Γ T)(hev:g6 Γ ev)(htr:rh Γ tr)(h:nE T ev tr (λen m H K=>ev en elt m H K) en gens sc m H λys H=>K (.ref H.length) (H++[.lst ys])):Vj Γ en env (eval (.ListComp elt gens sc pos) env) m H K:=
 nE.el h λtgt iter ifs hh h2 h3 e ρ P s Q E N R b=>by
  subst e;exact eval_ListComp .. ▸wI (oD:=jZ #[] 0) O hev htr (U_ hev elt) rfl (λcenv I D R J n s turn hI hit=>codeAny_compStart_list (tT J rfl Zf turn n hI) (hit _ _ (tT J rfl Zf turn n hI))) rfl (λQ E s q=>ed q) (λρ=>⟨[],0,rfl,.nil⟩) hh h2 h3 N R
   λD C s' ov=>zm AO.lst (λys H ρ' o⟨vs,j,e,r⟩ k=>⟨e▸ .lst j r,k⟩) ov b λz z z=>br
theorem Dv(w:gf):({cls:=.type "dict",data:=.dict #[]}:dU).IsDictOf (strKind aS w) []:=⟨#[],0,⟨rfl,rfl,rfl⟩,rfl,λe he=>absurd he (Array.not_mem_empty e),.nil,o7⟩
abbrev ň(ev:Ev)(kx vx:al):En->Nm->Hp->(ax×AV->Hp->Prop)->Prop:=λen m H K=>ev en kx m H λa H=>kE a λx=>ev en vx m H λb H=>K (x,b) H
set_option tactic.hygienic true in
theorem pw(O:cF Γ T)(hev:g6 Γ ev)(htr:rh Γ tr){iter:al}{use:Option (ar->o6 Unit)}{Kc:List (ax×AV)->Hp->Prop}(h:Dw T ev tr (ň ev kx vx) en tgt iter ifs sc m H Kc)(h2:sk sc=true)(h3:mc iter=true)(N:dC Γ ρ P en env)(R:bM Γ ρ P m H s)(post:∀D C s',EV Γ ρ P m (U9 w) Kc D C s'->compPost (cJ w) Γ.A E use Q (.ref D) C (.ok .next) s'):
  aL (cJ w) Γ.A (DP (.DictComp kx vx [⟨tgt,iter,ifs,0⟩] sc pos) sc env (firstIterPos [⟨tgt,iter,ifs,0⟩] pos) newDict false (eval iter env) use) Q E s:=
 wI (oD:={cls:=.type "dict",data:=.dict #[]}) O hev htr (V' hev kx vx) rfl (λcenv I D R J n s turn hI hit=>codeAny_compStart_dict (tT J rfl Zg turn n hI) (hit _ _ (tT J rfl Zg turn n hI))) rfl (λQ E s q=>ed q) (λρ=>⟨[],Dv w,.nil⟩) h h2 h3 N R post
theorem zT(O:cF Γ T)(hev:g6 Γ ev)(htr:rh Γ tr)(h:nE T ev tr (ň ev kx vx) en gens sc m H λkvs H=>kh kvs=true∧K (.ref H.length) (H++[.dct kvs])):Vj Γ en env (eval (.DictComp kx vx gens sc pos) env) m H K:=
 nE.el h λtgt iter ifs hh h2 h3 e ρ P s Q E N R b=>by
  subst e;exact arm_eval_DictComp .. ▸pw O hev htr hh h2 h3 N R λD C s' ov=>zm AO.dct (λys H ρ' o a k=>⟨wL a k.1,k.2⟩) ov b λz z h=>h
end
section
theorem P5{x:ax}(h:Kb (jh e)=some x):∃k p,e= .Constant (.str x) k p:=by
 have w:=Bf e;generalize jh e=g at h w;induction w with
 |@cst c k p=>
  cases c with
  |str y=>exact⟨k,p,congrArg (λz=>PySem.Expr.Constant (.str z) k p) (aj h)⟩
  |_=>exact aJ h
 |_=>exact aJ h
theorem zf{ev:Ev}(hev:g6 Γ ev){pos:kF}:∀{ks:List (Option al)}{es:List al}{xs:List ax}{ρ:List aI}{H:Hp}{s:aC}{J:List AV->Hp->Prop}{Q:List (ar×ar)->aC->Prop},sN ks=some xs->xs.length=es.length->yH ev en es m H J->dC Γ ρ P en env->bM Γ ρ P m H s->(∀as kvs vs H' ρ' s',dg ρ ρ'->cW ρ' (xs.zip as) kvs->as.length=xs.length->Carries (strKind aS w) vs kvs->bM Γ ρ' P m H' s'->J as H'->Q vs s')->aL (cJ w) Γ.A (evalPairs (pairTrees ks es env pos)) Q E s
 |[],es,xs,ρ,H,s,J,Q,h,hl,hj,N,R,q=>by
  obtain rfl:=aj h;cases es with
  |nil=>exact aV (q [] [] [] H ρ s (dg.refl ρ) .nil rfl br R hj)
  |cons=>cases hl
 |none::ks,es,xs,ρ,H,s,J,Q,h,hl,hj,N,R,q=>aJ h
 |some e::ks,es,xs,ρ,H,s,J,Q,h,hl,hj,N,R,q=>by
  unfold sN at h;dsimp only at h;cases h1:Kb (jh e)with
  |none=>rw[h1]at h;exact aJ h
  |some x=>
   rw[h1]at h;dsimp only at h;cases h2:sN ks with
   |none=>rw[h2]at h;exact aJ h
   |some ys=>
    rw[h2]at h;obtain rfl:=aj h;obtain⟨k,p,rfl⟩:=P5 h1;cases es with
    |nil=>cases hl
    |cons v es=>
     refine az (FF ?_);refine az (cE (az (hev en env v m H _ hj ρ P _ _ E N (R.tk _) λa u H₁ ρ₁ s₁ x₁ r₁ R₁ k₁=>az (d6 (aV ?_)))));refine az (cE (zf hev h2 (jp hl) k₁ (N.mono x₁) R₁ λas kvs vs H' ρ' s' x₂ rk la cr R' k'=>aV ?_));exact q (a::as) ((x,u)::kvs) _ H' ρ' s' (x₁.trans x₂) (.cons (r₁.mono x₂) rk) (congrArg eJ la) ⟨pD _ w x _,rfl,cr⟩ R' k'
theorem rX:∀{ks:List (Option al)}{xs:List ax},sN ks=some xs->ks.all (·.isSome)=true∧ks.length=xs.length
 |[],xs,h=>aj h▸⟨rfl,rfl⟩
 |none::ks,xs,h=>aJ h
 |some e::ks,xs,h=>by
  unfold sN at h;dsimp only at h;cases h1:Kb (jh e)with
  |none=>rw[h1]at h;exact aJ h
  |some x=>
   rw[h1]at h;dsimp only at h;cases h2:sN ks with
   |none=>rw[h2]at h;exact aJ h
   |some ys=>
    rw[h2]at h;exact aj h▸⟨(rX h2).1,congrArg eJ (rX h2).2⟩
theorem Ix(k:K (.ref H.length) (H++[.dct []]))(R:bM Γ ρ P m H s)(b:Back Γ ρ P m K Q):aL (cJ w) Γ.A (eval (.Dict [] [] pos) env) Q E s:=
 R.add λmm l F N fin=>newDict_K F N Γ.T.nolimit λd h' o F' N' fr lo hd z z z=>b.put (dg.one ρ d) (R.top d) (fin d _ o h' s.toks (λρ' x=>.dct hd .nil) F' N' fr lo) k
theorem MN(hev:g6 Γ ev){ks:List (Option al)}{vs:List al}(h:O3 ev en ks vs m H K)(N:dC Γ ρ P en env)(R:bM Γ ρ P m H s)(b:Back Γ ρ P m K Q):aL (cJ w) Γ.A (eval (.Dict ks vs pos) env) Q E s:=by
 refine aG.el h λxs hh e=>ku.el hh λhh hl=>?_
 rw[aM]at hl;have hl1:=aZ hl.1;cases ks with
 |nil=>
  obtain rfl:=aj e;cases vs with
  |nil=>exact Ix (show K (.ref H.length) (H++[.dct []])from hh) R b
  |cons=>cases hl1
 |cons k ks=>
  obtain⟨ha,hn⟩:=rX e;obtain⟨mm,objs,F,q,ro,Ns⟩:=R.dy;have lt:∀p∈ρ.zip objs++P.rest,s.heap.objs.size≠p.1:=λp hp=>(bc (bw (Ns p hp).1)).symm
  refine Dict_made (knd:=strKind aS w) F ha (hn.trans hl1) (bf _ _) (hn▸ae hl.2) λF'=>?_
  have R0:bM Γ ρ (P.ad [(s.heap.objs.size,{cls:=.type "dict",data:=.dict #[]})] s.gens) m H {s with heap:=s.heap.push {cls:=.type "dict",data:=.dict #[]},toks:=s.toks}:=R.adn F' q ro (tD F Ns _ rfl) (λp hp q hq=>a8.mp hp▸lt q (av _ hq)) (bT.refl _) rfl rfl;refine zf hev e hl1 hh (N.wide λp hp=>au _ hp) R0 λas kvs vs' H' ρ' s' x rk la cr R' k'=>ku.el k' λk' hnd=>?_
  have k':=d8 (k:=λkvs=>K (.ref H'.length) (H'++[.dct kvs])) k';refine R'.turn R.g (λp hp=>(lt p (au _ hp)).symm) λmm' r F₁ N₁ hr fin=>⟨kvs,cr,kQ.mpr ⟨_,(N₁ _ ah).1,Dv w⟩,λh' hd hs=>?_⟩
  obtain⟨o',g',d'⟩:=kQ.mp hd;have zD:=N₁ _ ah;have e1:merged [] kvs=kvs:=xY kvs [] (show(kvs.map (·.1)).Nodup from rk.keys▸uI hnd);refine b.put (x.trans (dg.one ρ' _)) (R'.top _) ((fin h' o' _ (F₁.change hs zD.2.1 zD.2.2) λp hp=>(aE.mp hp).elim (λe=>e▸⟨g',zD.2⟩) λhp=>?_).take (.dct (e1▸d') rk) (λp hp=>(lt p (au _ hp)).symm) R.low R.g) k';have z:=N₁ p (af _ hp);exact⟨hs.extBut _ _ (hr p hp) z.1,z.2⟩
end
variable{ps:jl}
section
theorem lE.ok{l:List (Nat×Nat×Nat)}(h:lE ρ l vs):TriplesOk vs:=by
 induction h with
 |nil=>exact br
 |cons _ _ ih=>exact ih
theorem lE.am{l:List (Nat×Nat×Nat)}(h:lE ρ l vs):match Pc pos l with
  |none=>E3 pos vs=none
  |some c=>∃c',E3 pos vs=some (.ref c')∧ρ[c]? =some c':=by
 induction h with
 |nil=>rfl
 |@cons a b c c' l vs h _ ih=>
  show match (match (a:Int)==(pos.line:Int)&&(b:Int)==(pos.col:Int)with
   |true=>some c
   |false=>Pc pos l)with
   |none=>(if ((a:Int)==(pos.line:Int)&&(b:Int)==(pos.col:Int))=true then some (fD c')else E3 pos vs)=none
   |some c=>∃d,(if ((a:Int)==(pos.line:Int)&&(b:Int)==(pos.col:Int))=true then some (fD c')else E3 pos vs)=some (.ref d)∧ρ[c]? =some d
  cases (a:Int)==(pos.line:Int)&&(b:Int)==(pos.col:Int)with
  |true=>exact⟨c',if_pos rfl,h⟩
  |false=>exact ih
theorem lE.snoc{l:List (Nat×Nat×Nat)}(h:lE ρ l vs){a b c:Nat}{c':aI}(e:ρ[c]? =some c'):lE ρ (l++[(a,b,c)]) (vs++[fy a,fy b,.ref c']):=by
 induction h with
 |nil=>exact .cons e .nil
 |cons h _ ih=>exact .cons h ih
noncomputable def K_:AO->Option (aI×List (Nat×Nat×Nat))
 |.tab P l=>some (P,l)
 |_=>none
theorem Bg{x:AO}{p:aI×List (Nat×Nat×Nat)}(h:K_ x=some p)(r:de w ρ x ob)(k:∀vs:List ar,lE ρ p.2 vs->ob=iD vs.toArray->C):C:=by
 induction r with
 |tab r=>exact k _ (aj h▸r) rfl
 |_=>exact aJ h
theorem K8(O:cF Γ T){body:al}(h:Es T en (.Lambda ps body sc pos) ps sc pos H K)(N:dC Γ ρ P en env)(R:bM Γ ρ P m H s)(b:Back Γ ρ P m K Q):aL (cJ w) Γ.A (eval (.Lambda ps body sc pos) env) Q E s:=by
 refine aG.el h λp h e=>aG.el h.2 λcl h' e2=>?_
 obtain⟨n,l,hn,hk⟩:=h';obtain⟨hl,hd⟩:=h.1;have he:=N.frame hl;subst he;obtain⟨q,c,hc,C⟩:=O.tb p e;obtain⟨p1,p2⟩:=p;dsimp only at q C hn hk;subst q;obtain⟨cl',k1,k2⟩:=Dy N e2;unfold C0 at hd;rw[aM,tG,tG]at hd;refine kla_eval ?_ ?_
 ·obtain⟨a1,a2,a3,a4,a5,a6,a7⟩:=ps
  obtain⟨rfl,rfl⟩:=hd;rfl
 obtain⟨mm,objs,F,qn,ro,Nw⟩:=R.dy;have hln:ρ.length=objs.length:=R.ly.ln.trans ro.len.symm;obtain⟨D,hD⟩:∃D,ρ[n]? =some D:=⟨_,bb (R.ly.ln▸(aH.mp hn).1)⟩;obtain rfl:D=p1:=R.ly.lo n D _ hD hn;refine ro.at hn λob e3 r=>Bg rfl r λvs tr eq=>?_
 subst eq;have hm:(D,iD vs.toArray)∈ρ.zip objs++P.rest:=av _ (dK hD e3);have nw:∀{x:aI},(∀p∈ρ.zip objs++P.rest,p.1<x)->(∀(j:Nat)(b:aI),ρ[j]? =some b->b≠x)∧∀p∈P.rest,p.1≠x:=λh=>⟨λj b e=>(gy hln e).elim λv ho=>bc (h _ (av _ ho)),λp hp=>bc (h p (au _ hp))⟩
 have am:=tr.am (pos:=pos);unfold La at hk;cases h3:Pc pos l with
 |some c₁=>
  rw[h3]at hk am;obtain⟨c',f1,f2⟩:=am;refine kla_hit F Nw Γ.T C hc hm tr.ok f1 k1 λf ctv h' tk F' N' l1=>b.put (dg.one ρ f) (R.top f) ⟨⟨mm,objs++[kla_obj "<lambda>" (Γ.env.qual++"<lambda>") ps body sc cl' ((mg "__name__").getD .none) c' ctv],F',qn.mono (dg.one ρ f),(ro.mono (dg.one ρ f)).app (.cons (.lam (λx j e=>(k2 x j e).imp λv z=>⟨z.1,ba z.2⟩) (ba f2)) .nil),λp hp=>N' p ?_⟩,R.ly.add (nw l1).1 (nw l1).2 br,R.g,R.d,R.o⟩ hk
  rw[j9 hln,aA]at hp;exact qF hp (λh=>af _ (av _ h)) (λh=>a8.mp h▸ah) λh=>af _ (au _ h)
 |none=>
  rw[h3]at hk am;refine kla_nest F Nw Γ.T C hc (ur (R.ly.off n D hD) hD e3 (R.ly.each n D hD)) tr.ok am k1 λf c' oc vs' t ctv h' tk F' N' d1 d2 l1 l2=>?_
  have x1:dg ρ ((ρ++[c'])++[f]):=dg.trans (dg.one ρ c') (dg.one _ f);have hc':((ρ++[c'])++[f])[H.length]? =some c':=ba (R.ly.ln▸bA);have hf:((ρ++[c'])++[f])[H.length+1]? =some f:=(by rw[aK,R.ly.ln];rfl:(ρ++[c']).length=H.length+1)▸bA;have hln':ρ.length=(objs.set n (iD (vs.toArray++#[fy pos.line,fy pos.col,.ref c']))).length:=hln.trans bO.symm;have tr':de w ((ρ++[c'])++[f]) (.tab D (l++[(pos.line,pos.col,H.length)])) (iD (vs.toArray++#[fy pos.line,fy pos.col,.ref c'])):=by
   have z:=de.tab (w:=w) (P:=D) ((tr.mono x1).snoc (a:=pos.line) (b:=pos.col) hc');rw[<-List.append_toArray]at z;exact z
  have f1:=nw l1;have f2:=nw λp hp=>dD (l1 p hp) l2
  have Y:=((R.ly.set (y:=.tab D (l++[(pos.line,pos.col,H.length)])) hn λv=>id).add (o:=.code (Γ.env.qual++"<lambda>")) f1.1 f1.2 br).add (o:=.lam (.Lambda ps body sc pos) (Γ.env.qual++"<lambda>") cl H.length) (λj b e=>gp e (f2.1 j b) λv i=>i▸bc l2) f2.2 br;have hH:(H.set n (.tab D (l++[(pos.line,pos.col,H.length)]))++[.code (Γ.env.qual++"<lambda>")])++[.lam (.Lambda ps body sc pos) (Γ.env.qual++"<lambda>") cl H.length]=H.set n (.tab D (l++[(pos.line,pos.col,H.length)]))++[.code (Γ.env.qual++"<lambda>"),.lam (.Lambda ps body sc pos) (Γ.env.qual++"<lambda>") cl H.length]:=aA ..;rw[<-hH]at hk;refine b.put x1 (.ref _ _ hf) ⟨⟨mm,(objs.set n (iD (vs.toArray++#[fy pos.line,fy pos.col,.ref c']))++[oc])++[kla_obj "<lambda>" (Γ.env.qual++"<lambda>") ps body sc cl' ((mg "__name__").getD .none) c' ctv],F',qn.mono x1,(((ro.mono x1).set tr' n).app (.cons (.code d1 d2) .nil)).app (.cons (.lam (λx j e=>(k2 x j e).imp λv z=>⟨z.1,x1.get z.2⟩) hc') .nil),λp hp=>N' p ?_⟩,Y,R.g,R.d,R.o⟩ hk;rw[j9 (by rw[aK,aK,hln'];rfl),j9 hln',aA,aA]at hp;exact qF hp (λh=>af _ (af _ (av _ h))) (λh=>a8.mp h▸af _ ah) λh=>(aT.mp h).elim (λh=>a8.mp h▸ah) λh=>af _ (af _ (au _ h))
end
section
theorem Dh{o:AO}{d:Nat}(h:BN o=some d)(r:de w ρ o ob):∃a,ob=instObj 263 a∧ρ[d]? =some a:=by
 induction r with
 |inst e=>exact⟨_,rfl,aj h▸e⟩
 |_=>exact aJ h
theorem M6{o:AO}{l:Nat}(h:EP o=some l)(r:de w ρ o ob):∃t a,ob=Kj w t a∧ρ[l]? =some a:=by
 induction r with
 |attr t e=>exact⟨t,_,rfl,aj h▸e⟩
 |_=>exact aJ h
theorem bM.inst(R:bM Γ ρ P m H s){d l:Nat}{x:aI}(hx:ρ[i]? =some x)(h:cH BN H i=some d)(k:cH EP H d=some l)(q:∀a t c,W.InstAt s.heap x (instObj 263 a) 263 (some (Kj w t c))->ρ[l]? =some c->C):C:=
 R.seen hx h λo ob e r g=>(Dh e r).elim λa z=>R.seen z.2 k λo' ob' e' r' g'=>(M6 e' r').elim λt z'=>z'.elim λc z'=>q a t c ⟨g.trans (congrArg some z.1),rfl,rfl,g'.trans (congrArg some z'.1)⟩ z'.2
theorem Mx{d l:Nat}{x:aI}(hx:ρ[i]? =some x)(h:cH BN H i=some d)(k:cH EP H d=some l)(R:bM Γ ρ P m H s)(q:∀c n,ρ[l]? =some c->Q (.ref c) {s with toks:=n}):aL (cJ w) Γ.A (getAttr (.ref x) (aa "_headers") true) Q E s:=
 R.inst hx h k λa t c I e=>R.run λmm l F N fin=>get_own (attr:=none) F Γ.X I (by kernel_rfl) (by kernel_rfl) (by kernel_rfl) rfl (by kernel_rfl) rfl (q c _ e)
theorem DE{o:al}(h:xt o=true)(n:ax)(t:o6 ar):attributeBase o n env t=t:=by
 cases o with
 |Call=>exact bj h
 |_=>rfl
theorem tR{o:al}{name:ax}{apos:kF}{as:List al}(hm:ni o as apos pos=true)(hn:eF as=true)(hk:(gV pos (ej ks env)).all (·.1.isSome)=true)(hl:ks.length<=1):eval (.Call (.Attribute o name apos) as ks pos) env=(do
   let ov <-eval o env
   sy apos.atName
   let (f,first) <-sC [ov] (E2 ov name (do return (<-importBound o env).getD true))
   JN pos f first (mY pos (ik as env)) (gV pos (ej ks env))):=by
 unfold ni at hm;rw[aM,aM]at hm;have e1:methodCallForm (as.length+ks.length) (mY pos (ik as env)) (gV pos (ej ks env))=true:=by
  unfold methodCallForm;have h1:(mY pos (ik as env)).all (!·.1)=true:=by
   rw[List.all_eq_not_any_not]
   simpa using ju (env:=env) (pos:=pos) hn
  have h2:as.length<=27:=sY (ae hm.1.2);have h3:(if (gV pos (ej ks env)).isEmpty then 0 else 1)<=1:=by split<;>decide
  rw[h1,hk];exact decide_eq_true (bh (hM (hM h2 hl) h3) (by decide))
 have e2:methodCallPos true o env apos pos=pure pos:=by
  unfold methodCallPos;rw[hm.2];rfl
 have e3:∀ov,Pm o name apos pos env ov (as.length+ks.length) (mY pos (ik as env)) (gV pos (ej ks env))=(do
   let (f,first) <-sC [ov] (E2 ov name (do return (<-importBound o env).getD true))
   JN pos f first (mY pos (ik as env)) (gV pos (ej ks env))):=λov=>by
  unfold Pm;rw[e1,e2];rfl
 show(do
  let ov <-attributeBase o name env (eval o env)
  sy apos.atName
  Pm o name apos pos env ov (as.length+ks.length) (mY pos (ik as env)) (gV pos (ej ks env)))=_
 rw[DE hm.1.1];simp only [e3]
theorem Db(h:kwOk ks=true)(pos:kF)(env:qk):(gV pos (ej ks env)).all (·.1.isSome)=true∧ks.length<=1:=by
 cases ks with
 |nil=>exact⟨rfl,bC _⟩
 |cons k ks=>
  have h:=(aM ..).mp (show(k.arg.isSome&&ks.isEmpty)=true from h);cases ks with
  |cons=>exact bj h.2
  |nil=>exact(Option.isSome_iff_exists.mp h.1).elim λy e=>⟨uR e pos▸rfl,bF _⟩
theorem I6(O:cF Γ T)(hev:g6 Γ ev){o:al}{n:ax}{ap:kF}{as:List al}(hm:ni o as ap pos=true)(hn:eF as=true)(h:ev en o m H λa H=>aG (qr a H) λty=>aG (iJ T.meths ty n) λg=>qV T ev en (.val g) as ks m H [a] K)(hk:kwOk ks=true)(N:dC Γ ρ P en env)(R:bM Γ ρ P m H s)(b:Back Γ ρ P m K Q):aL (cJ w) Γ.A (eval (.Call (.Attribute o n ap) as ks pos) env) Q E s:=by
 rw[tR hm hn (Db hk pos env).1 (Db hk pos env).2];refine az (hev en env o m H _ h ρ P s _ E N R λa v H₁ ρ₁ s₁ x₁ r₁ R₁ k=>az (d6 (az (cE ?_))));exact aG.el k λty k e1=>aG.el k λg k e2=>O.meth _ (oJ e2) ρ₁ P m H₁ s₁ _ E a v _ e1 R₁ r₁ (DB O hev hn k (.val g) (.cons r₁ .nil) (N.mono x₁) R₁ (b.ext x₁))
theorem Bi(O:cF Γ T)(hev:g6 Γ ev)(htr:rh Γ tr):g6 Γ (yY T ev tr):=by
 intro en env e m H K h ρ P s Q E N R b;cases e with
 |Lambda ps body sc pos=>
  have h:Es T en (.Lambda ps body sc pos) ps sc pos H K:=h;exact K8 O h N R b
 |Name x pos=>
  have h:(match x==aa "__debug__" with
   |true=>K (.bool true) H
   |false=>aG (wi en T m H x) λa=>K a H):=h
  cases hd:x==aa "__debug__" with
  |false=>rw[hd]at h;exact aG.el h λa k e=>sL O e N R λv r=>b.now R r k
  |true=>
   rw[hd]at h;have e:eval (.Name x pos) env=(do sy pos;if x==aa "__debug__" then debugConstant else rJ env x):=rfl;rw[e,hd];exact az (d6 (az (pC (aV (b.now R (.bool true) h)))))
 |Constant c k pos=>
  have h:Zo c λa=>K a H:=h
  cases c with
  |int i=>exact wpAny_Constant_int (b.new R (.int _ _) h _)
  |str x=>exact FF (b.new R (.str _ _) h _)
  |float x=>exact wpAny_Constant_float (b.new R (.flt _ _) h _)
  |none=>exact wpAny_Constant_none (b.now R .none h)
  |bool c=>exact Constant_bool (b.now R (.bool _) h)
  |_=>exact h.elim
 |BinOp l op r pos=>
  refine wpAny_BinOp (hev en env l m H _ h ρ P s _ E N R λa v H₁ ρ₁ s₁ x₁ r₁ R₁ k=>hev en env r m H₁ _ k ρ₁ P s₁ _ E (N.mono x₁) R₁ λc u H₂ ρ₂ s₂ x₂ r₂ R₂ k=>?_)
  with_reducible exact UZ rfl k (r₁.mono x₂) r₂ R₂ (b.ext (x₁.trans x₂))
 |UnaryOp op x pos=>
  obtain⟨e,h⟩:op= .USub∧ev en x m H λa H=>lB a λi=>K (.int (-i)) H:=h
  subst e;exact UnaryOp_ (hev en env x m H _ h ρ P s _ E N R λa v H₁ ρ₁ s₁ x₁ r₁ R₁ k=>lB.el k r₁ λi t k=>neg_int (b.put x₁ (.int _ _) (R₁.tk _) k))
 |IfExp t y n pos=>
  have h:iw (λK=>tr en t m H λc H=>Br c (ev en y m H K) (ev en n m H K)) H K:=h;exact iw.ok (λK h ρ P s Q E N R b=>IfExp_ (htr en env t m H _ h ρ P s _ E N R λc H₁ ρ₁ s₁ x₁ R₁ k=>rZ ⟨λe=>hev en env y m H₁ _ (k.yes e) ρ₁ P s₁ _ E (N.mono x₁) R₁ (b.ext x₁),λe=>hev en env n m H₁ _ (k.no e) ρ₁ P s₁ _ E (N.mono x₁) R₁ (b.ext x₁)⟩)) h ρ P s Q E N R b
 |BoolOp op es pos=>
  have h:iw (ZC ev en op es m H) H K:=h;exact iw.ok (λK h=>B3 hev es h) h ρ P s Q E N R b
 |Compare l ops rs pos=>
  have h:aG (one ops) λop=>aG (one rs) λr=>ku (!tx op r) (ev en l m H λa H=>ev en r m H λb H=>mU op a b H λc=>K (.bool c) H):=h
  refine aG.el h λop h e1=>aG.el h λr h e2=>ku.el h λh hb=>?_
  rw[lb e1,lb e2];refine wpAny_Compare1 (hev en env l m H _ h ρ P s _ E N R λa v H₁ ρ₁ s₁ x₁ r₁ R₁ k=>hev en env r m H₁ _ k ρ₁ P s₁ _ E (N.mono x₁) R₁ λc u H₂ ρ₂ s₂ x₂ r₂ R₂ k=>?_) (eI _▸hb);exact yd k (r₁.mono x₂) r₂ R₂ λz n k=>b.put (x₁.trans x₂) (.bool z) (R₂.tk n) k
 |Attribute o n pos=>
  obtain⟨⟨e,hp⟩,h⟩:(n=aa "_headers"∧xt o=true)∧ev en o m H λa H=>jY a λi=>aG (cH BN H i) λd=>aG (cH EP H d) λl=>K (.ref l) H:=h
  subst e;exact Attribute_any_ (hev en env o m H _ h ρ P s _ E N R λa v H₁ ρ₁ s₁ x₁ r₁ R₁ k=>jY.el k r₁ λi x k hx=>aG.el k λd k e1=>aG.el k λl k e2=>Mx hx e1 e2 R₁ λc n hc=>b.put x₁ (.ref _ _ hc) (R₁.tk n) k) (congrArg (λt=>t>>=λo'=>sy pos.atName>>=λq=>sC [o'] (getAttr o' (aa "_headers") true)>>=λr=>letTemporaryGo o o' r>>=λq=>pure r) (DE hp _ _))
 |Subscript v sl pos=>
  have plain:qx sl=true->(ev en v m H λo H=>ev en sl m H λi H=>vv o i H K)->aL (cJ w) Γ.A (eval (.Subscript v sl pos) env) Q E s:=λhb h=>
   Pp (hev en env v m H _ h ρ P s _ E N R λa v H₁ ρ₁ s₁ x₁ r₁ R₁ k=>hev en env sl m H₁ _ k ρ₁ P s₁ _ E (N.mono x₁) R₁ λc u H₂ ρ₂ s₂ x₂ r₂ R₂ k=>Td hb k (r₁.mono x₂) r₂ R₂ (b.ext (x₁.trans x₂)))
  have h:match jh sl with
   |.slc lo hi st=>ev en v m H λo H=>Js ev en lo m H λlo H=>Js ev en hi m H λhi H=>Js ev en st m H λst H=>Wg o lo hi st H K
   |_=>ev en v m H λo H=>ev en sl m H λi H=>vv o i H K:=h
  have wt:=Bf sl;generalize jh sl=t at h wt;induction wt with
  |@slc lo hi st p=>
   refine Pp (hev en env v m H _ h ρ P s _ E N R λa v H₁ ρ₁ s₁ x₁ r₁ R₁ k=>wpAny_Slice (wj hev k (N.mono x₁) R₁ λvl il H₂ ρ₂ s₂ x₂ pl q R₂ k=>wj hev k ((N.mono x₁).mono x₂) R₂ λvu iu H₃ ρ₃ s₃ x₃ pu q R₃ k=>wj hev k (((N.mono x₁).mono x₂).mono x₃) R₃ λvt it H₄ ρ₄ s₄ x₄ pt he R₄ k=>?_));exact QE k he (((r₁.mono x₂).mono x₃).mono x₄) pl pu pt R₄ (b.ext (((x₁.trans x₂).trans x₃).trans x₄))
  |bad hp=>exact plain hp h
  |_=>exact plain rfl h
 |Tuple es k pos=>
  have h:ku (eF es) (yH ev en es m H λas H=>as.length<=aF∧K (.ref H.length) (H++[.tup as])):=h;exact ku.el h λh hb=>Tuple_ (uW hev es hb h ρ P s _ E N R λas vs H₁ ρ₁ s₁ x₁ r₁ R₁ k=>R₁.tup r₁ k.1 k.2 (b.ext x₁))
 |List es pos=>
  have h:ku (eF es) (yH ev en es m H λas H=>as.length<=aF∧K (.ref H.length) (H++[.lst as])):=h;exact ku.el h λh hb=>List_ (uW hev es hb h ρ P s _ E N R λas vs H₁ ρ₁ s₁ x₁ r₁ R₁ k=>R₁.lst r₁ k.1 k.2 (b.ext x₁))
 |Dict ks vs pos=>exact MN hev h N R b
 |ListComp elt gens sc pos=>exact zr O hev htr h ρ P s Q E N R b
 |DictComp kx vx gens sc pos=>exact zT O hev htr h ρ P s Q E N R b
 |Call f as ks pos=>
  have h:ku (eF as) (match jh f with
   |.one x=>aG (wi en T m H x) λg=>qV T ev en g as ks m H [] K
   |.attr o n ap=>ku (ni o as ap pos&&kwOk ks) (ev en o m H λa H=>aG (qr a H) λty=>aG (iJ T.meths ty n) λg=>qV T ev en (.val g) as ks m H [a] K)
   |_=>False):=h
  refine ku.el h λh hb=>?_
  have wt:=Bf f;generalize jh f=t at h wt;induction wt with
  |one=>exact aG.el h λg h e=>az (sL O e N R λu r=>DB O hev hb h r .nil N R b)
  |attr=>exact ku.el h λh hm=>have hm:=(aM ..).mp hm;I6 O hev hm.1 hb h hm.2 N R b
  |_=>exact h.elim
 |_=>exact h.elim
end
section
noncomputable def Ē(e:al)(env:qk):o6 Bool:=do let v <-eval e env;sy e.pos;sC [v] (Pj v)
theorem Bq(hev:g6 Γ ev){K:Bool->Hp->Prop}(he:isTrue e env (eval e env)=Ē e env)(h:ē ev en e m H K):Vi Γ en env (isTrue e env (eval e env)) m H K:=
 λρ P s Q E N R b=>isTrue_plain (hev en env e m H _ h ρ P s _ E N R λa v H₁ ρ₁ s₁ x₁ r₁ R₁ k=>Be k r₁ R₁ λc n k=>b.put x₁ (R₁.tk n) k) he
theorem MQ(hev:g6 Γ ev){l:al}{ops:List tI}{rs:List al}{K:Bool->Hp->Prop}(h:UG ev en l ops rs m H K):Vi Γ en env (isTrue (.Compare l ops rs pos) env (eval (.Compare l ops rs pos) env)) m H K:=by
 intro ρ P s Q E N R b;unfold UG at h;cases h1:one ops with
 |some op=>
  rw[h1]at h;refine aG.el h λr h h2=>ku.el h λh hb=>?_
  rw[lb h1,lb h2];refine wpAny_isTrue_Compare1 (hev en env l m H _ h ρ P s _ E N R λa v H₁ ρ₁ s₁ x₁ r₁ R₁ k=>hev en env r m H₁ _ k ρ₁ P s₁ _ E (N.mono x₁) R₁ λc u H₂ ρ₂ s₂ x₂ r₂ R₂ k=>?_) (eI _▸hb);exact yd k (r₁.mono x₂) r₂ R₂ λz n k=>nF (b.put (x₁.trans x₂) (R₂.tk n) k)
 |none=>
  rw[h1]at h;refine aG.el h λop h h1=>aG.el h λr h h2=>ku.el h λh hb=>?_
  rw[pG h1,pG h2];refine isTrue_chain (hev en env l m H _ h ρ P s _ E N R λa v H₁ ρ₁ s₁ x₁ r₁ R₁ k=>test_link (hev en env r.1 m H₁ _ k ρ₁ P s₁ _ E (N.mono x₁) R₁ λc u H₂ ρ₂ s₂ x₂ r₂ R₂ k=>?_)) (eI _▸hb);refine yd k (r₁.mono x₂) r₂ R₂ λz n k=>nF (rZ ⟨λe=>test_last (hev en env r.2 m H₂ _ (k.yes e) ρ₂ P _ _ E ((N.mono x₁).mono x₂) (R₂.tk n) λd y H₃ ρ₃ s₃ x₃ r₃ R₃ k=>?_),λe=>b.put (x₁.trans x₂) (R₂.tk n) (k.no e)⟩)
  exact yd k (r₂.mono x₃) r₃ R₃ λz n k=>nF (b.put ((x₁.trans x₂).trans x₃) (R₃.tk n) k)
theorem EO(h:jh e= .bad):isTrue e env (eval e env)=Ē e env:=by
 cases e<;>first|rfl|exact TG.noConfusion h
theorem Qz(hev:g6 Γ ev)(htr:rh Γ tr):rh Γ (Ă ev tr):=by
 intro en env e m H K h;unfold Ă at h;have wt:=Bf e;generalize ht:jh e=t at h wt;induction wt with
 |@uno op x p=>
  cases op with
  |Not=>exact λρ P s Q E N R b=>isTrue_not (htr en env x m H _ h ρ P s _ E N R λc H₁ ρ₁ s₁ x₁ R₁ k=>b.put x₁ R₁ k)
  |_=>exact Bq hev rfl h
 |@bop op es p=>
  cases es with
  |nil=>cases op with
   |And=>exact λρ P s Q E N R b=>isTrue_and_nil (b.put (dg.refl ρ) R h)
   |Or=>exact λρ P s Q E N R b=>isTrue_or_nil (b.put (dg.refl ρ) R h)
  |cons x es=>cases op with
   |And=>exact λρ P s Q E N R b=>isTrue_and (htr en env x m H _ h ρ P s _ E N R λc H₁ ρ₁ s₁ x₁ R₁ k=>rZ ⟨λe=>htr en env _ m H₁ _ (k.yes e) ρ₁ P s₁ _ E (N.mono x₁) R₁ (b.ext x₁),λe=>b.put x₁ R₁ (k.no e)⟩)
   |Or=>exact λρ P s Q E N R b=>isTrue_or (htr en env x m H _ h ρ P s _ E N R λc H₁ ρ₁ s₁ x₁ R₁ k=>rZ ⟨λe=>b.put x₁ R₁ (k.yes e),λe=>htr en env _ m H₁ _ (k.no e) ρ₁ P s₁ _ E (N.mono x₁) R₁ (b.ext x₁)⟩)
 |cmp=>exact MQ hev h
 |ifx=>exact h.elim
 |bad=>exact Bq hev (EO ht) h
 |_=>exact Bq hev rfl h
theorem gF{T:f6}(O:cF Γ T):∀n,g6 Γ (wk T n).1∧rh Γ (wk T n).2
 |0=>⟨λz z z z z z h=>h.elim,λz z z z z z h=>h.elim⟩
 |n+1=>⟨Bi O (gF O n).1 (gF O n).2,Qz (gF O n).1 (gF O n).2⟩
end
section
set_option tactic.hygienic true in
inductive Fl where
 |next|brk|cont|ret(a:AV)
set_option tactic.hygienic true in
inductive Al(ρ:List aI):Fl->lL->Prop
 |next:Al ρ .next .next
 |brk:Al ρ .brk .brk
 |cont:Al ρ .cont .cont
 |ret{a:AV}{v:ar}(h:db ρ a v):Al ρ (.ret a) (.ret v)
abbrev KS:=Fl->Nm->Hp->Prop
noncomputable def kt:Nm->ax->AV->Nm
 |[],x,a=>[(x,a)]
 |p::r,x,a=>match x==p.1 with
  |true=>(p.1,a)::r
  |false=>p::kt r x a
theorem y7(x:ax)(a:AV)(y:ax):∀m:Nm,(kt m x a).lookup y=if y=x then some a else m.lookup y
 |[]=>by
  show(match y==x with|true=>some a|false=>none)=_;cases h:y==x with
  |true=>exact(if_pos (bo h)).symm
  |false=>exact(if_neg (ne_of_beq_false h)).symm
 |p::r=>by
  simp only [kt];cases hx:x==p.1 with
  |true=>
   dsimp only;rw[gc,gc,bo hx];cases h:y==p.1 with
   |true=>exact(if_pos (bo h)).symm
   |false=>exact(if_neg (ne_of_beq_false h)).symm
  |false=>
   dsimp only;rw[gc,gc,y7 x a y r];cases h:y==p.1 with
   |true=>exact(if_neg λe=>ne_of_beq_false hx (e.symm.trans (bo h))).symm
   |false=>rfl
def fb(en:En)(x:ax)(a:AV)(m:Nm)(H:Hp)(K:Nm->Hp->Prop):Prop:=aG (en.nk.lookup x) λk=>match k with
 |.local=>iz (kt m x a) λm=>K m H
 |.cell=>aG (en.cl.lookup x) λi=>aG H[i]? λo=>(match o with
  |.cell _=>K m (H.set i (.cell (some a)))
  |_=>False)
 |_=>False
def lA(en:En):List ax->List AV->Nm->Hp->(Nm->Hp->Prop)->Prop
 |[],as,m,H,K=>Fv as (K m H)
 |x::xs,as,m,H,K=>match as with
  |[]=>False
  |a::as=>fb en x a m H λm H=>lA en xs as m H K
def yn(en:En)(tgt:al)(it:IT)(m:Nm)(H:Hp)(K:Nm->Hp->Prop):Prop:=match jh tgt with
 |.one x=>(match it with
  |.val a=>fb en x a m H K
  |.pair _ _=>False)
 |.row es=>aG (Bz es) λxs=>(match it with
  |.val a=>jY a λn=>aG (cH uv H n) λas=>lA en xs as m H K
  |.pair a b=>lA en xs [a,b] m H K)
 |_=>False
noncomputable def eW:List ax->Nm->Nm
 |[],_=>[]
 |x::xs,m=>match m.lookup x with
  |some a=>(x,a)::eW xs m
  |none=>eW xs m
theorem kT{x:ax}{a:AV}{m:Nm}:∀{xs:List ax},(eW xs m).lookup x=some a->m.lookup x=some a
 |[],h=>aJ h
 |y::xs,h=>by
  simp only [eW]at h;cases e:m.lookup y with
  |none=>rw[e]at h;exact kT h
  |some b=>
   rw[e]at h;dsimp only at h;rw[gc]at h;cases q:x==y with
   |true=>rw[q]at h;exact bo q▸e.trans h
   |false=>rw[q]at h;exact kT h
set_option tactic.hygienic true in
noncomputable def I'(xs:List ax)(J:Nat->Nm->Hp->Prop)(n:Nat)(K:KS):KS:=λf m H=>match f with
 |.next=>iz (eW xs m) λm=>∃j,j<n∧J j m H
 |.cont=>iz (eW xs m) λm=>∃j,j<n∧J j m H
 |.brk=>K .next m H
 |.ret a=>K (.ret a) m H
abbrev Ex:=List cP->Nm->Hp->KS->Prop
set_option tactic.hygienic true in
inductive IW(en:En)(tr:Tr)(ex:Ex)(t:al)(b:List cP)(m:Nm)(H:Hp)(K:KS):Prop
 |mk(xs:List ax)(J:Nat->Nm->Hp->Prop)(n:Nat)(h:iz (eW xs m) λm=>J n m H)(turn:∀n m H,J n m H->tr en t m H λc H=>Br c (ex b m H (I' xs J n K)) (K .next m H)):IW en tr ex t b m H K
set_option tactic.hygienic true in
def kC(en:En)(ex:Ex)(tgt:al)(b:List cP)(xs:List ax)(pn:Option (Nat×dU)):List IT->Nm->Hp->KS->Prop
 |[],m,H,K=>iI pn H (iz (eW xs m) λm=>K .next m H)
 |it::r,m,H,K=>iI pn H (iz (eW xs m) λm=>yn en tgt it m H λm H=>ex b m H λf m H=>(match f with
  |.next=>kC en ex tgt b xs pn r m H K
  |.cont=>kC en ex tgt b xs pn r m H K
  |.brk=>iz (eW xs m) λm=>K .next m H
  |.ret a=>K (.ret a) m H))
def D2(o i a:AV)(H:Hp)(K:Hp->Prop):Prop:=jY o λn=>aG H[n]? λob=>(match i with
 |.int k=>aG (fG ob) λxs=>((0<=k∧k<2^63)∧k.toNat<xs.length)∧iz (xs.set k.toNat a) λys=>K (H.set n (.lst ys))
 |.str x=>aG (vz ob) λkvs=>kvs.length<=aF∧iz (kt kvs x a) λkvs=>K (H.set n (.dct kvs))
 |_=>False)
def Ń(o i:AV)(H:Hp)(K:AV->Prop):Prop:=jY o λn=>lB i λk=>(0<=k∧k<2^63)∧aG (cH fG H n) λxs=>aG xs[k.toNat]? λx=>K x
def Mk(op:gr)(a b:AV)(K:AV->Prop):Prop:=lB a λx=>lB b λy=>(match op with
 |.Add=>K (.int (x+y))
 |.Sub=>K (.int (x - y))
 |_=>False)
noncomputable def th(nk:List (ax×gu)):qk:={scope:={kind:=.function,names:=nk,isGenerator:=false,isCoroutine:=false},locals:=0,globals:=0,cells:=[]}
noncomputable def pureOf{α:Type}(t:o6 α):Option α:=match t with
 |.pure a=>some a
 |_=>none
theorem my{α:Type}{t:o6 α}{a:α}(h:pureOf t=some a):t=pure a:=by
 cases t with
 |pure=>exact congrArg Sem.pure (aj h)
 |_=>exact aJ h
noncomputable def V_(e:al):Option (al×al×List lK×iS):=match e with
 |.DictComp k v g sc _=>some (k,v,g,sc)
 |_=>none
set_option tactic.hygienic true in
def xo(en:En)(xs:List ax)(n:Nat)(m:Nm)(H:Hp)(K:KS)(o:Option (List ax)):Prop:=match o with
 |none=>aG (cH Bk H n) λas=>lA en xs as m H λm H=>K .next m H
 |some ns=>aG (cH uv H n) λas=>iz ns.reverse λns=>iz as.reverse λas=>lA en ns as m H λm H=>K .next m H
def Kr(o a:AV)(H:Hp)(K:Hp->Prop):Prop:=jY o λi=>aG (cH BN H i) λd=>jY a λl=>H[d]? =some (.raw (pE [] 0))∧K (H.set d (.attr l))
set_option tactic.hygienic true in
def ZE(en:En)(T:f6)(ev:Ev)(tr:Tr)(t v:al)(ln:Nat)(m:Nm)(H:Hp)(K:KS):Prop:=aG (pureOf (jU v (some t) ln (th en.nk))) λsw=>match jh t with
 |.one x=>(match sw with
  |false=>ev en v m H λa H=>fb en x a m H λm H=>K .next m H
  |true=>aG (V_ v) λd=>jx en.nk x=true∧nE (α:=ax×AV) T ev tr (ň ev d.1 d.2.1) en d.2.2.1 d.2.2.2 m H λkvs H=>kh kvs=true∧fb en x (.ref H.length) m (H++[.dct kvs]) λm H=>K .next m H)
 |.row es=>sw=false∧aG (Bz es) λxs=>aG (pureOf (nP [t] v (th en.nk))) λo=>ev en v m H λa H=>jY a λn=>xo en xs n m H K o
 |.sub o i=>sw=false∧ev en v m H λa H=>ev en o m H λo H=>ev en i m H λi H=>D2 o i a H λH=>K .next m H
 |.attr o n _=>(sw=false∧n=aa "_headers")∧ev en v m H λa H=>ev en o m H λo H=>Kr o a H λH=>K .next m H
 |_=>False
set_option tactic.hygienic true in
def UW(en:En)(T:f6)(ev:Ev)(t:al)(op:gr)(v:al)(m:Nm)(H:Hp)(K:KS):Prop:=match jh t with
 |.one x=>aG (wi en T m H x) λa=>ev en v m H λb H=>Mk op a b λc=>fb en x c m H λm H=>K .next m H
 |.sub o i=>ku (qx i) (ev en o m H λo H=>ev en i m H λi H=>Ń o i H λa=>ev en v m H λb H=>Mk op a b λc=>D2 o i c H λH=>K .next m H)
 |_=>False
set_option tactic.hygienic true in
def k5(en:En)(T:f6)(ev:Ev)(tr:Tr)(ex:Ex)(st:cP)(m:Nm)(H:Hp)(K:KS):Prop:=match st with
 |.Assign ts v p=>aG (one ts) λt=>ZE en T ev tr t v p.line m H K
 |.AugAssign t op v _=>UW en T ev t op v m H K
 |.Expr e p=>aG (pureOf (jU e none p.line (th en.nk))) λsw=>sw=false∧ev en e m H λ_ H=>K .next m H
 |.If t b o _=>tr en t m H λc H=>Br c (ex b m H K) (ex o m H K)
 |.Return e _=>(match e with
  |some e=>ev en e m H λa H=>K (.ret a) m H
  |none=>K (.ret .none) m H)
 |.Pass _=>K .next m H
 |.Break _=>K .brk m H
 |.Continue _=>K .cont m H
 |.While t b o _=>o=[]∧IW en tr ex t b m H K
 |.For tgt iter b o _=>(o=[]∧mc iter=true)∧∃xs,v7 T ev en iter m H λits n H=>pL n H λpn H=>kC en ex tgt b xs pn its m H λf m H=>fX pn H λH=>K f m H
 |_=>False
set_option tactic.hygienic true in
noncomputable def ņ(st:cP->Nm->Hp->KS->Prop):Ex
 |[],m,H,K=>K .next m H
 |s::r,m,H,K=>st s m H λf m H=>match f with
  |.next=>ņ st r m H K
  |f=>K f m H
noncomputable def cg(en:En)(T:f6)(n:Nat):Ex:=
 Nat.rec (λz z z z=>False) (λk ex=>ņ (k5 en T (wk T (k+20)).1 (wk T (k+20)).2 ex)) n
end
section
def mQ(Γ:Wk w mean mg mb)(ρ:List aI)(P:mh)(K:KS)(Q:lL->aC->Prop):Prop:=∀f g m H ρ' s',dg ρ ρ'->Al ρ' f g->bM Γ ρ' P m H s'->K f m H->Q g s'
theorem mQ.put{K:KS}{Q:lL->aC->Prop}(b:mQ Γ ρ P K Q){f:Fl}{g:lL}{ρ':List aI}{s':aC}(x:dg ρ ρ')(r:Al ρ' f g)(R:bM Γ ρ' P m H s')(k:K f m H):Q g s':=b _ _ _ _ _ _ x r R k
theorem mQ.ext{K:KS}{Q:lL->aC->Prop}(b:mQ Γ ρ P K Q){ρ':List aI}(x:dg ρ ρ'):mQ Γ ρ' P K Q:=λf g m H r s' y=>b f g m H r s' (x.trans y)
def D?(Γ:Wk w mean mg mb)(en:En)(t:o6 lL)(m:Nm)(H:Hp)(K:KS):Prop:=∀ρ P s Q E,dC Γ ρ P en Γ.env->bM Γ ρ P m H s->mQ Γ ρ P K Q->aL (cJ w) Γ.A t Q E s
abbrev Ca(Γ:Wk w mean mg mb)(en:En)(ex:Ex):Prop:=∀b m H K,ex b m H K->D? Γ en (kN b Γ.env) m H K
abbrev Vd(Γ:Wk w mean mg mb)(en:En)(st:cP->Nm->Hp->KS->Prop):Prop:=∀b m H K,st b m H K->D? Γ en (exec b Γ.env) m H K
theorem Zv{o:AO}{K:Prop}(h:match o with|.cell _=>K|_=>False)(r:de w ρ o ob):K∧∃v,ob.data= .cell v:=by
 induction r with
 |cell _ e=>exact⟨h,_,e⟩
 |cell0 e=>exact⟨h,_,e⟩
 |_=>exact h.elim
theorem pH{x:ax}{a:AV}{K:Nm->Hp->Prop}{Q:Unit->aC->Prop}(h:fb en x a m H K)(r:db ρ a v)(N:dC Γ ρ P en Γ.env)(R:bM Γ ρ P m H s)(q:∀m' H' s',K m' H'->bM Γ ρ P m' H' s'->Q () s'):aL (cJ w) Γ.A (EZ Γ.env x v) Q E s:=
 aG.el h λk h hk=>by
  have hk':=(N.of x).trans hk;cases k with
  |«local»=>
   obtain⟨mm,objs,F,k,ro,Ns⟩:=R.dy;refine storeX_L F Ns (λh' F' N'=>q _ H _ (d8 (k:=λm=>K m H) h) (R.re ⟨_,objs,F',λy b e=>?_,ro,N'⟩ _)) Γ.hk hk';rw[y7]at e
   by_cases h:y=x
   ·exact⟨v,if_pos h,aj ((if_pos h).symm.trans e)▸r⟩
   ·exact(k y b ((if_neg h).symm.trans e)).imp λu p=>⟨(if_neg h).trans p.1,p.2⟩
  |cell=>
   have h:aG (en.cl.lookup x) λi=>aG H[i]? λo=>(match o with
    |.cell _=>K m (H.set i (.cell (some a)))
    |_=>False):=h
   refine aG.el h λi h e=>aG.el h λo h e2=>(N.cl x i e).elim λc z=>R.mut z.2 e2 λmm ob l g F Ns ro U fin=>?_
   obtain⟨h,v₀,hd⟩:=Zv h ro;exact storeX_C F Ns z.1 U hd (λh' o' F' N' hd'=>q _ _ _ h (fin h' o' _ s.toks F' N' (.cell r hd') (λt t=>br))) Γ.hk hk'
  |_=>exact h.elim
theorem DF{f:ax->ar->o6 Unit}(hf:∀x v(Q:Unit->aC->Prop)(E:ar->aC->Prop) s,aL (cJ w) Γ.A (EZ Γ.env x v) Q E s->aL (cJ w) Γ.A (f x v) Q E s):∀{xs:List ax}{as:List AV}{vs:List ar}{m:Nm}{H:Hp}{s:aC}{K:Nm->Hp->Prop}{Q:Unit->aC->Prop},lA en xs as m H K->bB ρ as vs->dC Γ ρ P en Γ.env->bM Γ ρ P m H s->(∀m' H' s',K m' H'->bM Γ ρ P m' H' s'->Q () s')->aL (cJ w) Γ.A (DQ (xs.map f) vs) Q E s
 |[],as,vs,m,H,s,K,Q,h,r,N,R,q=>Fv.el h r λh=>vH (q m H s h R)
 |x::xs,as,vs,m,H,s,K,Q,h,r,N,R,q=>by
  induction r with
  |nil=>exact h.elim
  |cons r1 r=>exact mZ (hf x _ _ _ _ (pH (show fb en x _ m H (λm H=>lA en xs _ m H K)from h) r1 N R λm' H' s' k R'=>DF hf k r N R' q))
theorem qZ:∀{xs:List ax}{as:List AV}{m:Nm}{H:Hp}{K:Nm->Hp->Prop},lA en xs as m H K->as.length=xs.length
 |[],[],_,_,_,_=>rfl
 |[],_::_,_,_,_,h=>h.elim
 |_::_,[],_,_,_,h=>h.elim
 |x::xs,a::as,m,H,K,h=>by
  have z:∃m' H',lA en xs as m' H' K:=aG.el (show fb en x a m H λm H=>lA en xs as m H K from h) λk h y=>by
   cases k with
   |«local»=>exact⟨_,_,d8 (k:=λm=>lA en xs as m H K) h⟩
   |cell=>
    exact aG.el h λi h y=>aG.el h λo h y=>by
     cases o with
     |cell=>exact⟨_,_,h⟩
     |_=>exact h.elim
   |_=>exact h.elim
  exact z.elim λm' z=>z.elim λH' h=>congrArg eJ (qZ h)
theorem Ap.is{xs:List ax}(h:Ap es xs)(env:qk):(Po es env).length=xs.length∧(Po es env).findIdx? (·.1)=none∧∃ps:List kF,(Po es env).map (·.2)=List.zipWith (λx p=>kq (.Name x p) env) xs ps∧ps.length=xs.length:=by
 induction h with
 |nil=>exact⟨rfl,rfl,[],rfl,rfl⟩
 |@cons x p es xs _ ih=>
  obtain⟨i1,i2,ps,i3,i4⟩:=ih;refine⟨congrArg eJ i1,?_,p::ps,congrArg (kq (.Name x p) env::·) i3,congrArg eJ i4⟩;show List.findIdx? _ ((false,_)::_)=none;rw[List.findIdx?_cons,i2];rfl
theorem yo:∀{xs:List ax}{ps:List kF}{as:List AV}{vs:List ar}{m:Nm}{H:Hp}{s:aC}{K:Nm->Hp->Prop}{Q:Unit->aC->Prop},ps.length=xs.length->lA en xs as m H K->bB ρ as vs->dC Γ ρ P en Γ.env->bM Γ ρ P m H s->(∀m' H' s',K m' H'->bM Γ ρ P m' H' s'->Q () s')->aL (cJ w) Γ.A (DQ (List.zipWith (λx p=>kq (.Name x p) Γ.env) xs ps) vs) Q E s
 |[],ps,as,vs,m,H,s,K,Q,hl,h,r,N,R,q=>Fv.el h r λh=>vH (q m H s h R)
 |x::xs,[],as,vs,m,H,s,K,Q,hl,h,r,N,R,q=>nomatch hl
 |x::xs,p::ps,as,vs,m,H,s,K,Q,hl,h,r,N,R,q=>by
  induction r with
  |nil=>exact h.elim
  |cons r1 r=>exact mZ (dh (pH (show fb en x _ m H (λm H=>lA en xs _ m H K)from h) r1 N R λm' H' s' k R'=>yo (jp hl) k r N R' q))
theorem bB.rev(h:bB ρ as vs):bB ρ as.reverse vs.reverse:=by
 induction h with
 |nil=>exact .nil
 |cons h _ ih=>rw[sE,sE];exact ih.app (.cons h .nil)
theorem ym{xs:List ax}{p:kF}{T:aI}{K:Nm->Hp->Prop}{Q:Unit->aC->Prop}(ht:Ap es xs)(z:JT s.heap T vs.toArray)(r:bB ρ as vs)(h:lA en xs as m H K)(N:dC Γ ρ P en Γ.env)(R:bM Γ ρ P m H s)(q:∀m' H' s',K m' H'->bM Γ ρ P m' H' s'->Q () s'):aL (cJ w) Γ.A (kq (.Tuple es k p) Γ.env (.ref T)) Q E s:=by
 obtain⟨i1,i2,ps,i3,i4⟩:=ht.is Γ.env;refine R.run λmm l F Ns fin=>unpackN_ F Ns z rfl (i1.trans ((qZ h).symm.trans r.len.symm)) i2 λh' F' N'=>?_
 rw[i3];exact yo i4 h r N (fin h' s.toks F' N') q
theorem M8{xs:List ax}{p:kF}{T:aI}{K:Nm->Hp->Prop}{Q:Unit->aC->Prop}(ht:Ap es xs)(z:s.heap.IsList T vs.toArray)(r:bB ρ as vs)(h:lA en xs as m H K)(N:dC Γ ρ P en Γ.env)(R:bM Γ ρ P m H s)(q:∀m' H' s',K m' H'->bM Γ ρ P m' H' s'->Q () s'):aL (cJ w) Γ.A (kq (.Tuple es k p) Γ.env (.ref T)) Q E s:=by
 obtain⟨i1,i2,ps,i3,i4⟩:=ht.is Γ.env;refine R.run λmm l F Ns fin=>kun_list F Ns z rfl (i1.trans ((qZ h).symm.trans r.len.symm)) i2 λh' F' N'=>?_
 rw[i3];exact yo i4 h r N (fin h' s.toks F' N') q
theorem Gj{ns:List ax}{T:aI}{K:Nm->Hp->Prop}{Q:Unit->aC->Prop}(z:JT s.heap T vs.toArray)(r:bB ρ as vs)(h:lA en ns.reverse as.reverse m H K)(N:dC Γ ρ P en Γ.env)(R:bM Γ ρ P m H s)(q:∀m' H' s',K m' H'->bM Γ ρ P m' H' s'->Q () s'):aL (cJ w) Γ.A (unpackItems (.ref T) ns.length none) (λitems s'=>aL (cJ w) Γ.A (DQ (ns.reverse.map λn=>bindName Γ.env n) items.reverse) Q E s') E s:=by
 have hl:=qZ h;rw[qd,qd]at hl;exact R.run λmm l F Ns fin=>unpackItemsN_ F Ns z rfl (hl.symm.trans r.len.symm) λh' F' N'=>DF (λx v Q E s h=>wpAny_bindName h) h r.rev N (fin h' s.toks F' N') q
set_option tactic.hygienic true in
theorem IW.ok{ex:Ex}(htr:rh Γ tr)(hex:Ca Γ en ex){t:al}{y:List cP}{K:KS}(h:IW en tr ex t y m H K){Q:lL->aC->Prop}(N:dC Γ ρ P en Γ.env)(R:bM Γ ρ P m H s)(b:mQ Γ ρ P K Q):aL (cJ w) Γ.A (exec (.While t y [] pos) Γ.env) Q E s:=by
 obtain⟨xs,J,n,h0,turn⟩:=h;have kp:∀{ρ m H s},bM Γ ρ P m H s->bM Γ ρ P (eW xs m) H s:=λR=>R.sub λ_ _ e=>kT e
 let I:Nat->aC->Prop:=λn s'=>∃ρ' m' H',dg ρ ρ'∧bM Γ ρ' P m' H' s'∧J n m' H'
 let Z:Nat->lL->aC->Prop:=λn f s₃=>match f with
  |.next=>∃j,j<n∧I j s₃
  |.cont=>∃j,j<n∧I j s₃
  |.brk=>Q .next s₃
  |.ret v=>Q (.ret v) s₃
 refine eQ (E:=λ_ _=>False) ?_ (λ_ _ x=>x) (λ_ _ x=>x.elim);refine wpAny_While (codeAny_whileLoop I ?_ n ⟨ρ,_,H,dg.refl ρ,kp R,d8 (k:=λm=>J n m H) h0⟩);intro n s' ⟨ρ',m',H',x,R',h'⟩;refine eQ (htr en Γ.env t m' H' _ (turn n m' H' h') ρ' P s' (λc s₂=>if c=true then aL (cJ w) Γ.A (kN y Γ.env) (Z n) (λ_ _=>False) s₂ else Q .next s₂) (λ_ _=>False) (N.mono x) R' λc H₁ ρ₁ s₁ x₁ R₁ k=>rZ ⟨λe=>hex y m' H₁ _ (k.yes e) ρ₁ P s₁ _ _ ((N.mono x).mono x₁) R₁ λf g m₂ H₂ ρ₂ s₂ x₂ r₂ R₂ k₂=>?_,λe=>b.put (x.trans x₁) .next R₁ (k.no e)⟩) (λc s₂ h₂=>?_) Cg
 ·induction r₂ with
  |next=>exact(d8 (k:=λm=>∃j,j<n∧J j m H₂) k₂).imp λj k=>⟨k.1,ρ₂,_,H₂,(x.trans x₁).trans x₂,kp R₂,k.2⟩
  |cont=>exact(d8 (k:=λm=>∃j,j<n∧J j m H₂) k₂).imp λj k=>⟨k.1,ρ₂,_,H₂,(x.trans x₁).trans x₂,kp R₂,k.2⟩
  |brk=>exact b.put ((x.trans x₁).trans x₂) .next R₂ k₂
  |ret h=>exact b.put ((x.trans x₁).trans x₂) (.ret h) R₂ k₂
 ·cases c with
  |false=>exact jG h₂
  |true=>exact eQ (show aL (cJ w) Γ.A (kN y Γ.env) (Z n) (λ_ _=>False) s₂ from h₂) (λf s₃ h₃=>by cases f<;>exact h₃) Cg
end
section
structure LC where
 ex:Ex
 tgt:al
 y:List cP
 xs:List ax
 pn:Option (Nat×dU)
 ρ₀:List aI
 P:mh
 gb:Array bR
 St:List (ar->gO->Prop)->gO->Array bR->Prop
 K:KS
inductive EX(Γ:Wk w mean mg mb)(en:En)(c:LC):Nat->aC->Prop
 |mk(l:List IT)(ρ:List aI)(m:Nm)(H:Hp)(own:gO)(s:aC)(x:dg c.ρ₀ ρ)(st:c.St (l.map (á c.ρ₀)) own s.gens)(R:bM Γ ρ (c.P.ad own c.gb) m H s)(ap:∀p∈own,∀q∈c.P.rest,p.1≠q.1)(cv:kC en c.ex c.tgt c.y c.xs c.pn l m H c.K):EX Γ en c l.length s
theorem Na{it:IT}{K:Nm->Hp->Prop}(h:yn en tgt it m H K):Te (jh tgt)=true:=by
 unfold yn at h;generalize jh tgt=t at h;cases t with
 |one=>rfl
 |row=>rfl
 |_=>exact h.elim
theorem Nb{it:IT}{new:gO}{g:Array bR}{K:Nm->Hp->Prop}{Q:Unit->aC->Prop}(h:yn en tgt it m H K)(x:dg ρ₀ ρ)(hv:Pe ρ₀ v new it)(N:dC Γ ρ P en Γ.env)(R:bM Γ ρ (P.ad (new++l) g) m H s)(q:∀m' H' s',K m' H'->bM Γ ρ (P.ad l g) m' H' s'->Q () s'):aL (cJ w) Γ.A (kq tgt Γ.env v) Q E s:=by
 have N':∀l,dC Γ ρ (P.ad l g) en Γ.env:=λl=>N.wide λp hp=>au _ hp
 unfold yn at h;have wt:=Bf tgt;generalize jh tgt=t at h wt;induction wt with
 |one=>
  induction hv with
  |val e r=>exact dh (pH h (r.mono x) (N' _) R λm' H' s' k R'=>q m' H' s' k (R'.less λp hp=>au _ hp))
  |pair=>exact h.elim
 |row=>
  refine aG.el h λxs h e=>?_
  induction hv with
  |val f r=>exact jY.el h (r.mono x) λn T h hT=>aG.el h λas h e2=>R.tupl hT e2 λvs rs z=>ym (oF e) z rs h (N' _) R λm' H' s' k R'=>q m' H' s' k (R'.less λp hp=>au _ hp)
  |@pair a b T va vb e1 e2 ra rb=>
   have z:JT s.heap T [va,vb].toArray:=R.led λy y y y y N y=>⟨_,(N (T,iy [va,vb]) (av _ (av _ (e2▸ah)))).1,rfl,_,rfl⟩
   exact e1▸ym (oF e) z (.cons (ra.mono x) (.cons (rb.mono x) .nil)) h (N' _) R λm' H' s' k R'=>q m' H' s' k (R'.less λp hp=>au _ hp)
 |_=>exact h.elim
set_option tactic.hygienic true in
theorem Ia{c:LC}{S:Option (aI×dU)}{I:aI}(hex:Ca Γ en c.ex)(fd:Ja Γ I c.gb S c.St)(hpn:vd c.ρ₀ S c.pn)(hgb:bT c.P.gb c.gb)(N:∀ρ,dg c.ρ₀ ρ->dC Γ ρ c.P en Γ.env)
  (fin:∀f g ρ m H s own gs',dg c.ρ₀ ρ->Al ρ f g->bM Γ ρ (c.P.ad own gs') m H s->bT c.P.gb gs'->c.K f m H->RR g s)(h:EX Γ en c n s):
  aL (cJ w) Γ.A (i9 (.ref I)) (λr s₁=>match r with
   |none=>aL (cJ w) Γ.A (kN [] Γ.env) (λf s₃=>RR f s₃) E s₁
   |some v=>aL (cJ w) Γ.A (jH c.tgt (.ref I) v) (λ_ s₁'=>aL (cJ w) Γ.A (kq c.tgt Γ.env v) (λ_ s₂=>aL (cJ w) Γ.A (kN c.y Γ.env) (λf s₃=>match f with
    |.next=>∃k,k<n∧EX Γ en c k s₃
    |.cont=>∃k,k<n∧EX Γ en c k s₃
    |.brk=>RR .next s₃
    |.ret v=>RR (.ret v) s₃) E s₂) E s₁') E s₁) E s:=by
 obtain⟨l,ρ,m,H,own,s,x,st,R,ap,cv⟩:=h;refine R.led λmm objs F qn ro Ns apo=>?_
 have ap':Apart own (ρ.zip objs++c.P.rest):=λp hp q hq=>(aT.mp hq).elim (apo p hp q) (ap p hp q)
 cases l with
 |nil=>
  obtain⟨k,hS⟩:=jR cv (hpn.mono x) ro;exact fd.done own _ mm s _ E st R.g F Ns ap' (λp e=>av _ (hS p e)) λh' gs' tk F₁ N₁ hg=>jG (fin .next .next ρ _ H _ [] gs' x .next (((R.drop hgb).adn (own:=[]) (g:=gs') (s':={s with heap:=h',gens:=gs',toks:=tk}) F₁ qn ro N₁ (λp hp=>eN hp) (bT.refl _) rfl rfl).sub λ_ _=>kT) (hgb.trans hg) (d8 (k:=λm=>c.K .next m H) k))
 |cons it r=>
  obtain⟨k,hS⟩:=jR cv (hpn.mono x) ro;refine fd.next _ _ own _ mm s _ E st R.g F Ns ap' (λp e=>av _ (hS p e)) λv new own' h' gs' tk hv F₁ N₁ ap₁ apn st' hg=>?_
  have R₁:bM Γ ρ (c.P.ad (new++own') gs') m H {s with heap:=h',gens:=gs',toks:=tk}:=(R.drop hgb).adn F₁ qn ro (λp hp=>(aT.mp hp).elim (λhp=>(aT.mp hp).elim (λhp=>N₁ p (Mn hp)) λhp=>N₁ p (in1 hp)) λhp=>N₁ p (Dj hp)) (λp hp q hq=>(aT.mp hp).elim (λhp=>apn p hp q (av _ hq)) λhp=>ap₁ p hp q (Mn hq)) (bT.refl _) rfl rfl;obtain⟨oI,hI,hgo⟩:=fd.self _ _ _ st';have k:=d8 (k:=λm=>yn en c.tgt it m H λm H=>c.ex c.y m H λf m H=>(match f with
   |.next=>kC en c.ex c.tgt c.y c.xs c.pn r m H c.K
   |.cont=>kC en c.ex c.tgt c.y c.xs c.pn r m H c.K
   |.brk=>iz (eW c.xs m) λm=>c.K .next m H
   |.ret a=>c.K (.ret a) m H)) k
  refine OW (Na k) (N₁ _ (av _ hI)).1 hgo ?_;have hgg:bT c.P.gb gs':=hgb.trans hg;refine Nb k x hv (N ρ x) (R₁.sub λ_ _=>kT) λm₂ H₂ s₂ k₂ R₂=>?_
  refine hex c.y m₂ H₂ _ k₂ ρ (c.P.ad own' gs') s₂ _ E ((N ρ x).wide λp hp=>au _ hp) R₂ λf g m₃ H₃ ρ₃ s₃ x₃ r₃ R₃ k₃=>?_
  have nxt:(kC en c.ex c.tgt c.y c.xs c.pn r m₃ H₃ c.K)->∃k,k<(it::r).length∧EX Γ en c k s₃:=λcv=>
   ⟨r.length,bI _,r,ρ₃,m₃,H₃,own',s₃,x.trans x₃,fd.moved _ _ _ _ st' R₃.g,R₃.base hg,λp hp q hq=>ap₁ p hp q (Dj hq),cv⟩
  induction r₃ with
  |next=>exact nxt k₃
  |cont=>exact nxt k₃
  |brk=>exact fin .next .next ρ₃ _ H₃ s₃ own' gs' (x.trans x₃) .next (R₃.sub λ_ _=>kT) hgg (d8 (k:=λm=>c.K .next m H₃) k₃)
  |ret h=>exact fin _ _ ρ₃ m₃ H₃ s₃ own' gs' (x.trans x₃) (.ret h) R₃ hgg k₃
theorem TX{ex:Ex}(O:cF Γ T)(hev:g6 Γ ev)(hex:Ca Γ en ex){iter:al}{y:List cP}{K:KS}(hn:mc iter=true){xs:List ax}(h:v7 T ev en iter m H λits n H=>pL n H λpn H=>kC en ex tgt y xs pn its m H λf m H=>fX pn H λH=>K f m H){Q:lL->aC->Prop}(N:dC Γ ρ P en Γ.env)(R:bM Γ ρ P m H s)(b:mQ Γ ρ P K Q):
  aL (cJ w) Γ.A (exec (.For tgt iter y [] pos) Γ.env) Q E s:=
 wpAny_For (CP O hev h N R λl n H₁ ρ₁ v s₁ x₁ k fed=>by
  obtain⟨I,gb,S,St,own,rfl,fd,st,R₁,ap,hg,hS⟩:=fed;refine GU k hS R₁ λpn H₂ hpn R₂ kc=>?_
  let c:LC:=⟨ex,tgt,y,xs,pn,ρ₁,P,gb,St,λf m H=>fX pn H λH=>K f m H⟩
  exact NM (EX Γ en c) (λn s hI=>Ia (c:=c) (RR:=Q) hex fd hpn hg (λρ x=>(N.mono x₁).mono x) (λf g ρ m H s own gs' x r R' hgs k=>wa k (R'.drop hgs) λH' R'' k'=>b.put (x₁.trans x) r R'' k') hI) l.length ⟨l,ρ₁,m,H₂,own,s₁,dg.refl _,st,R₂,ap,kc⟩) (wn hn)
theorem bB.set(h:bB ρ xs vs){a:AV}(k:db ρ a v):∀j,bB ρ (xs.set j a) (vs.set j v):=by
 induction h with
 |nil=>exact λz=>.nil
 |cons h r ih=>
  intro j;cases j with
  |zero=>exact .cons k r
  |succ j=>exact .cons h (ih j)
theorem CR:∀(l:List ar)(j:Nat)(v:ar),j<l.length->ki_setL l j v=some (l.set j v)
 |[],_,_,h=>absurd h (vJ _)
 |_::_,0,_,_=>rfl
 |x::r,j+1,v,h=>by
  unfold ki_setL;rw[CR r j v (AT h)];rfl
theorem yX{k x:ax}{u:ar}{vs:List (ax×ar)}(h:k≠x):uk ((k,u)::vs) x v=(k,u)::uk vs x v:=by
 unfold uk;rw[qi,decide_eq_false h,Bool.false_or]
 split
 ·rw[gM,if_neg h]
 ·rfl
theorem yW{x:ax}{u:ar}{vs:List (ax×ar)}(hn:x∉vs.map (·.1)):uk ((x,u)::vs) x v=(x,v)::vs:=by
 unfold uk;rw[qi,decide_eq_true rfl,Bool.true_or,if_pos rfl,gM,if_pos rfl];exact congrArg _ ((fR λz hz=>if_neg (by intro e;exact hn (e▸cZ (f:=(·.1)) hz))).trans (List.map_id vs))
theorem DX{x:ax}{a:AV}(k:db ρ a v){vs:List (ax×ar)}(h:cW ρ kvs vs):(vs.map (·.1)).Nodup->cW ρ (kt kvs x a) (uk vs x v):=by
 induction h with
 |nil=>exact λw=>.cons k .nil
 |@cons y b u as vs h r ih=>
  intro hn;have hn:=eM.mp hn;show cW ρ (match x==y with|true=>(y,a)::as|false=>(y,b)::kt as x a) _;cases hx:x==y with
  |true=>
   obtain rfl:=bo hx;rw[yW hn.1];exact .cons k r
  |false=>exact yX (λz=>ne_of_beq_false hx z.symm)▸ .cons h (ih hn.2)
theorem Gu{o i a:AV}{K:Hp->Prop}{Q:Unit->aC->Prop}(h:D2 o i a H K)(ro:db ρ o vo)(ri:db ρ i vi)(ra:db ρ a va)(R:bM Γ ρ P m H s)(q:∀H' s',K H'->bM Γ ρ P m H' s'->Q () s'):aL (cJ w) Γ.A (setItem vo vi va) Q E s:=by
 refine jY.el h ro λn b h hb=>aG.el h λob h e=>R.mut hb e λmm o l g F Ns r U fin=>?_
 induction ri with
 |int k t=>
  refine aG.el h λxs h d=>ww d r λvs j rs f=>?_
  subst f;exact ki_set F Ns h.1.1.1 h.1.1.2 (CR _ _ va (rs.len▸h.1.2)) (Mine.UpdF.upd U) λh' F' N'=>q _ _ (d8 (k:=λys=>K (H.set n (.lst ys))) h.2) (fin h' _ _ s.toks F' N' (.lst j (rs.set ra _)) (λz z=>br))
 |str x t=>
  refine aG.el h λkvs h d=>BZ d r λvs hd rk=>?_
  obtain⟨_,_,_,_,_,_,nd⟩:=id hd;exact kda_set F Ns U hd (pD _ w x t) (rk.len▸h.1) λh' o' F' N' hd'=>q _ _ (d8 (k:=λkvs=>K (H.set n (.dct kvs))) h.2) (fin h' o' _ _ F' N' (.dct hd' (DX ra rk nd)) (λb q=>(show okA (.dct kvs) b from B1 d▸q)))
 |_=>exact h.elim
end
section
theorem YT{o i:AV}{K:AV->Prop}{Q:ar->aC->Prop}(h:Ń o i H K)(ro:db ρ o vo)(ri:db ρ i vi)(R:bM Γ ρ P m H s)(q:∀a v,K a->db ρ a v->Q v s):aL (cJ w) Γ.A (getItem vo vi) Q E s:=
 jY.el h ro λn b h hb=>lB.el h ri λk t h=>aG.el h.2 λxs h' e=>R.list hb e λvs r l=>aG.el h' λx h' e2=>r.at e2 λv e3 r3=>Pg l h.1.1 h.1.2 (bU.trans e3) (q x v h' r3)
theorem HQ{op:gr}{a b:AV}{u:ar}{K:AV->Prop}{Q:ar->aC->Prop}(h:Mk op a b K)(ra:db ρ a v)(rb:db ρ b u)(R:bM Γ ρ P m H s)(q:∀c y s',K c->db ρ c y->bM Γ ρ P m H s'->Q y s'):aL (cJ w) Γ.A (inplaceOp op v u) Q E s:=
 lB.el h ra λx t h=>lB.el h rb λy t' h=>by
  cases op with
  |Add=>exact AutoIntOps.iadd_0 (q _ _ _ h (.int _ _) (R.tk _))
  |Sub=>exact AutoIntOps.isub_0 (q _ _ _ h (.int _ _) (R.tk _))
  |_=>exact h.elim
theorem OG(N:dC Γ ρ P en env):env.kindOf=(th en.nk).kindOf:=funext N.of
theorem IK(N:dC Γ ρ P en env):env.blockKind=(th en.nk).blockKind:=by
 unfold Env.blockKind;rw[N.kind];rfl
theorem Ô(N:dC Γ ρ P en env)(v:al)(t:Option al)(n:Nat):jU v t n env=jU v t n (th en.nk):=by
 unfold jU;rw[OG N,IK N,N.kind];rfl
theorem L_(N:dC Γ ρ P en env)(t:List al)(v:al):nP t v env=nP t v (th en.nk):=by
 unfold nP;rw[OG N,IK N]
noncomputable def QK:AO->Option dU
 |.raw o=>some o
 |_=>none
theorem uD{x:AO}(h:QK x=some o)(r:de w ρ x ob):ob=o:=by
 induction r with
 |raw=>exact aj h
 |_=>exact aJ h
theorem Kq{o a:AV}{K:Hp->Prop}{Q:Unit->aC->Prop}(h:Kr o a H K)(ro:db ρ o vo)(ra:db ρ a va)(R:bM Γ ρ P m H s)(q:∀H' s',K H'->bM Γ ρ P m H' s'->Q () s'):aL (cJ w) Γ.A (setAttr vo (aa "_headers") va) Q E s:=
 jY.el (C:=λvo=>aL (cJ w) Γ.A (setAttr vo (aa "_headers") va) Q E s) h ro λi x h hx=>aG.el h λd h e=>jY.el (C:=λva=>aL (cJ w) Γ.A (setAttr (.ref x) (aa "_headers") va) Q E s) h ra λl c h hc=>R.seen hx e λo ob e r g=>(Dh e r).elim λy z=>R.obj z.2 h.1 λo2 r2 g2=>R.mut z.2 h.1 λmm ob' l' g' F N r' U fin=>by
  obtain rfl:=uD (x:=.raw (pE [] 0)) rfl r2;obtain rfl:=uD (x:=.raw (pE [] 0)) rfl r';exact set_dict F Γ.X N ⟨g.trans (congrArg some z.1),rfl,rfl,g2⟩ rfl (by kernel_rfl) (by kernel_rfl) (by kernel_rfl) (by kernel_rfl) rfl rfl (UpdF.upd U) (ae rfl) λh' F' N'=>q _ _ h.2 (fin h' (Kj w (s.toks+1) c) (.attr l) _ F' N' (.attr _ hc) λv v=>br)
set_option tactic.hygienic true in
theorem M9(O:cF Γ T)(hev:g6 Γ ev)(htr:rh Γ tr){t v:al}{K:KS}(h:ZE en T ev tr t v pos.line m H K){Q:lL->aC->Prop}(N:dC Γ ρ P en Γ.env)(R:bM Γ ρ P m H s)(b:mQ Γ ρ P K Q):aL (cJ w) Γ.A (exec (.Assign [t] v pos) Γ.env) Q E s:=by
 refine aG.el h λsw h hs=>?_
 have hs:=(Ô N v (some t) pos.line).trans (my hs);have wt:=Bf t;generalize ht:jh t=g at h wt;induction wt with
 |@one x p=>
  cases sw with
  |false=>exact wpAny_Assign_Name (hev en Γ.env v m H _ h ρ P s _ E N R λa u H₁ ρ₁ s₁ x₁ r₁ R₁ k=>pH k r₁ (N.mono x₁) R₁ λm' H' s' k' R'=>b.put x₁ .next R' k') hs
  |true=>
   refine aG.el h λd h e=>nE.el h.2 λtgt iter ifs hh h2 h3 e2=>?_
   cases v with
   |DictComp kx vx gens sc q=>
    obtain rfl:=aj e;dsimp only at e2 hh h2;subst e2;rw[exec_Assign_Name_used _ _ _ _ hs];refine az (d6 (az ?_));show aL _ Γ.A (do let _ <-DP (.DictComp kx vx [⟨tgt,iter,ifs,0⟩] sc q) sc Γ.env _ newDict false (eval iter Γ.env) (some (kq (.Name x p) Γ.env))) _ _ s;refine az (pw (Q:=λ_ s'=>aL (cJ w) Γ.A (pure ()) _ E s') O hev htr hh h2 h3 N R λD C s' ov=>?_);refine ov.made (hok:=λ_ _ h=>h) (K:=λa H=>fb en x a m H λm H=>K .next m H) AO.dct (λys H ρ' o a k=>⟨wL a k.1,k.2⟩) λρ' H' gb oC mC a x₁ R₁ r₁ k hg ns hC=>?_
    refine dh (pH k r₁ ((N.mono x₁).wide λp hp=>au _ hp) R₁ λm' H' s'' k' R'=>?_);exact⟨mC,(R'.gone hg ns hC).1,λh' hs=>aV (aV (b.put x₁ .next ((R'.gone hg ns hC).2 h' hs) k'))⟩
   |_=>exact aJ e
 |@row es k p=>
  have h:sw=false∧aG (Bz es) λxs=>aG (pureOf (nP [.Tuple es k p] v (th en.nk))) λo=>ev en v m H λa H=>jY a λn=>xo en xs n m H K o:=h
  refine aG.el h.2 λxs h' ex=>aG.el h' λo h' eo=>?_
  have hs:jU v (some (.Tuple es k p)) pos.line Γ.env=pure false:=h.1▸hs;have eo:=(L_ N [.Tuple es k p] v).trans (my eo);have st:=hev en Γ.env v m H _ h' ρ P s;cases o with
  |none=>exact Assign_Tuple (st _ E N R λa u H₁ ρ₁ s₁ x₁ r₁ R₁ k=>jY.el k r₁ λn T k hT=>aG.el (show aG (cH Bk H₁ n) λas=>lA en xs as m H₁ λm H=>K .next m H from k) λas k e2=>(Oe e2).elim (λe2=>R₁.list hT e2 λvs rs z=>M8 (oF ex) z rs k (N.mono x₁) R₁ λm' H' s' k' R'=>b.put x₁ .next R' k') λe2=>R₁.tupl hT e2 λvs rs z=>ym (oF ex) z rs k (N.mono x₁) R₁ λm' H' s' k' R'=>b.put x₁ .next R' k') hs eo
  |some ns=>exact Assign_Tuple_swapped (st _ E N R λa u H₁ ρ₁ s₁ x₁ r₁ R₁ k=>jY.el k r₁ λn T k hT=>aG.el (show aG (cH uv H₁ n) λas=>iz ns.reverse λns=>iz as.reverse λas=>lA en ns as m H₁ λm H=>K .next m H from k) λas k e2=>R₁.tupl hT e2 λvs rs z=>Gj z rs (d8 (d8 (k:=λns=>iz as.reverse λas=>lA en ns as m H₁ λm H=>K .next m H) k)) (N.mono x₁) R₁ λm' H' s' k' R'=>b.put x₁ .next R' k') hs eo
 |@sub o i p=>
  obtain⟨e,h⟩:sw=false∧ev en v m H λa H=>ev en o m H λo H=>ev en i m H λi H=>D2 o i a H λH=>K .next m H:=h
  exact wpAny_Assign_Subscript (hev en Γ.env v m H _ h ρ P s _ E N R λa u H₁ ρ₁ s₁ x₁ r₁ R₁ k=>hev en Γ.env o m H₁ _ k ρ₁ P s₁ _ E (N.mono x₁) R₁ λao vo H₂ ρ₂ s₂ x₂ r₂ R₂ k=>hev en Γ.env i m H₂ _ k ρ₂ P s₂ _ E ((N.mono x₁).mono x₂) R₂ λai vi H₃ ρ₃ s₃ x₃ r₃ R₃ k=>Gu k (r₂.mono x₃) r₃ ((r₁.mono x₂).mono x₃) R₃ λH' s' k' R'=>b.put ((x₁.trans x₂).trans x₃) .next R' k') (e▸hs)
 |@attr o n p=>
  obtain⟨⟨e,en'⟩,h2⟩:(sw=false∧n=aa "_headers")∧ev en v m H λa H=>ev en o m H λo H=>Kr o a H λH=>K .next m H:=h
  subst en';exact plainObj_wpAny_Assign_Attribute (hev en Γ.env v m H _ h2 ρ P s _ E N R λa u H₁ ρ₁ s₁ x₁ r₁ R₁ k=>hev en Γ.env o m H₁ _ k ρ₁ P s₁ _ E (N.mono x₁) R₁ λao vo H₂ ρ₂ s₂ x₂ r₂ R₂ k=>Kq k r₂ (r₁.mono x₂) R₂ λH' s' k' R'=>b.put (x₁.trans x₂) .next R' k') (e▸hs)
 |_=>exact h.elim
end
section
theorem KI{α:Type}{ts:List α}{K:α->Prop}(h:aG (one ts) K)(f:∀t,ts=[t]->K t->G):G:=by
 cases ts with
 |nil=>exact h.elim
 |cons t r=>
  cases r with
  |nil=>exact f t rfl h
  |cons _ _=>exact h.elim
set_option tactic.hygienic true in
theorem M5(O:cF Γ T)(hev:g6 Γ ev){t v:al}{op:gr}{K:KS}(h:UW en T ev t op v m H K){Q:lL->aC->Prop}(N:dC Γ ρ P en Γ.env)(R:bM Γ ρ P m H s)(b:mQ Γ ρ P K Q):aL (cJ w) Γ.A (exec (.AugAssign t op v pos) Γ.env) Q E s:=by
 unfold UW at h;have wt:=Bf t;generalize jh t=g at h wt;induction wt with
 |@one x p=>exact aG.el h λa h e=>wpAny_AugAssign_Name ((GO O e N R λu ru=>hev en Γ.env v m H _ h ρ P s _ E N R λc y H₁ ρ₁ s₁ x₁ r₁ R₁ k=>HQ k (ru.mono x₁) r₁ R₁ λc' y' s' k' r' R'=>pH k' r' (N.mono x₁) R' λm' H' s' k' R'=>b.put x₁ .next R' k').2)
 |@sub o i p=>
  exact ku.el h λh hi=>wpAny_AugAssign_Subscript_any (ha:=by intros;cases i<;>first|rfl|exact bj hi) (hev en Γ.env o m H _ h ρ P s _ E N R λao vo H₁ ρ₁ s₁ x₁ r₁ R₁ k=>hev en Γ.env i m H₁ _ k ρ₁ P s₁ _ E (N.mono x₁) R₁ λai vi H₂ ρ₂ s₂ x₂ r₂ R₂ k=>YT k (r₁.mono x₂) r₂ R₂ λa u k ru=>hev en Γ.env v m H₂ _ k ρ₂ P s₂ _ E ((N.mono x₁).mono x₂) R₂ λc y H₃ ρ₃ s₃ x₃ r₃ R₃ k=>HQ k (ru.mono x₃) r₃ R₃ λc' y' s' k' r' R'=>Gu k' ((r₁.mono x₂).mono x₃) (r₂.mono x₃) r' R' λH' s' k' R'=>b.put ((x₁.trans x₂).trans x₃) .next R' k')
 |_=>exact h.elim
set_option tactic.hygienic true in
theorem nX{ex:Ex}(O:cF Γ T)(hev:g6 Γ ev)(htr:rh Γ tr)(hex:Ca Γ en ex):Vd Γ en (k5 en T ev tr ex):=by
 intro st m H K h ρ P s Q E N R b;cases st with
 |Pass pos=>exact wpAny_Pass (b.put (dg.refl ρ) .next R h)
 |Break pos=>exact wpAny_Break (b.put (dg.refl ρ) .brk R h)
 |Continue pos=>exact wpAny_Continue (b.put (dg.refl ρ) .cont R h)
 |Return e pos=>
  cases e with
  |none=>exact wpAny_Return_none (b.put (dg.refl ρ) (.ret .none) R h)
  |some e=>exact wpAny_Return_some (hev en Γ.env e m H _ h ρ P s _ E N R λa v H₁ ρ₁ s₁ x₁ r₁ R₁ k=>b.put x₁ (.ret r₁) R₁ k)
 |If t y n pos=>
  exact wpAny_If (htr en Γ.env t m H _ h ρ P s _ E N R λc H₁ ρ₁ s₁ x₁ R₁ k=>rZ ⟨λe=>hex y m H₁ K (k.yes e) ρ₁ P s₁ Q E (N.mono x₁) R₁ (b.ext x₁),λe=>hex n m H₁ K (k.no e) ρ₁ P s₁ Q E (N.mono x₁) R₁ (b.ext x₁)⟩)
 |Expr e pos=>
  exact aG.el (show aG (pureOf (jU e none pos.line (th en.nk))) λsw=>sw=false∧ev en e m H λ_ H=>K .next m H from h) λsw h hs=>rI (hev en Γ.env e m H _ h.2 ρ P s _ E N R λa v H₁ ρ₁ s₁ x₁ r₁ R₁ k=>b.put x₁ .next R₁ k) (by unfold yv;rw[N.kind];rfl) (h.1▸(Ô N e none pos.line).trans (my hs))
 |Assign ts v pos=>exact KI h λt e h=>e▸M9 O hev htr h N R b
 |While t y o pos=>
  cases o with
  |nil=>exact IW.ok htr hex h.2 N R b
  |cons _ _=>exact nomatch h.1
 |For tgt iter y o pos=>
  cases o with
  |nil=>exact h.2.elim λxs h'=>TX O hev hex h.1.2 h' N R b
  |cons _ _=>exact nomatch h.1.1
 |AugAssign t op v pos=>exact M5 O hev h N R b
 |_=>exact h.elim
set_option tactic.hygienic true in
theorem Ii{st:cP->Nm->Hp->KS->Prop}(hst:Vd Γ en st):Ca Γ en (ņ st)
 |[],m,H,K,h=>λρ P s Q E N R b=>jG (b.put (dg.refl ρ) .next R h)
 |t::r,m,H,K,h=>λρ P s Q E N R b=>cy (hst t m H _ h ρ P s _ E N R λf g m₁ H₁ ρ₁ s₁ x₁ r₁ R₁ k=>by
   induction r₁ with
   |next=>exact Ii hst r m₁ H₁ K k ρ₁ P s₁ Q E (N.mono x₁) R₁ (b.ext x₁)
   |brk=>exact b.put x₁ .brk R₁ k
   |cont=>exact b.put x₁ .cont R₁ k
   |ret h=>exact b.put x₁ (.ret h) R₁ k)
theorem kY{T:f6}(O:cF Γ T):∀n,Ca Γ en (cg en T n)
 |0=>λz z z z h=>h.elim
 |n+1=>Ii (nX O (gF O _).1 (gF O _).2 (kY O n))
end
variable{mm':ax->Option ar}
variable{ρ':List aI}{H':Hp}{H'':Hp}{s':aC}
section
variable{ρ'':List aI}
structure ũ(w:gf)(ρ':List aI)(H':Hp)(ρ'':List aI)(H'':Hp):Prop where
 ln:ρ''.length=H''.length
 each:∀(j:Nat)(b:aI),ρ''[j]? =some b->∀i:Nat,ρ''[i]? =some b->i=j
 «at»:∀(j:Nat)(b:aI)(o:AO),ρ''[j]? =some b->H''[j]? =some o->∃(i:Nat)(o':AO),ρ'[i]? =some b∧H'[i]? =some o'∧(∀ob,de w ρ' o' ob->de w ρ'' o ob)∧(∀b,okA o' b->okA o b)
theorem mw{l:gO}:∀{as:List aI}{h:Hp},as.length=h.length->(∀(j:Nat)(b:aI)(o:AO),as[j]? =some b->h[j]? =some o->∃ob,(b,ob)∈l∧de w ρ'' o ob)->∃objs,eY w ρ'' h objs∧∀p∈as.zip objs,p∈l
 |[],[],_,_=>⟨[],.nil,λp hp=>eN hp⟩
 |a::as,o::h,hl,k=>by
  obtain⟨ob,h1,h2⟩:=k 0 a o rfl rfl;obtain⟨objs,h3,h4⟩:=mw (as:=as) (h:=h) (jp hl) λj b o e f=>k (j+1) b o e f
  exact⟨ob::objs,.cons h2 h3,λp hp=>(aE.mp hp).elim (λe=>e▸h1) (h4 p)⟩
 |[],_::_,h,_=>nomatch h
 |_::_,[],h,_=>nomatch h
theorem bM.see(R':bM Γ ρ' P m H' s')(v:ũ w ρ' H' ρ'' H'')(q:∀mm,mo ρ' m mm->mo ρ'' m mm):bM Γ ρ'' P m H'' s':=by
 obtain⟨mm,objs,F,q',ro,N⟩:=R'.dy;obtain⟨os,ro2,sub⟩:=mw (l:=ρ'.zip objs) v.ln λj b o e f=>(v.at j b o e f).elim λi h=>h.elim λo' h=>ro.at h.2.1 λob e2 r=>⟨ob,dK h.1 e2,h.2.2.1 ob r⟩
 refine⟨⟨mm,os,F,q mm q',ro2,λp hp=>N p ((aT.mp hp).elim (λhp=>av _ (sub p hp)) λhp=>au _ hp)⟩,⟨v.ln,v.each,λj b e=>?_,λj b o e f=>?_⟩,R'.g,R'.d,R'.o⟩
 ·obtain⟨o,ho⟩:∃o,H''[j]? =some o:=⟨_,bb (v.ln▸ii e)⟩
  obtain⟨i,_,h,_⟩:=v.at j b o e ho;exact R'.ly.off i b h
 ·obtain⟨i,o',h,h2,_,h4⟩:=v.at j b o e f
  exact h4 b (R'.ly.lo i b o' h h2)
theorem mo.down(q:mo ρ m mm)(q':mo (ρ++τ) m mm'):mo ρ m mm':=λx a e=>(q x a e).elim λz p=>(q' x a e).imp λz p'=>⟨p'.1,p.2.down p'.2⟩
theorem eY.wf(h:eY w ρ H objs):∀o∈H,s4 ρ o:=by
 induction h with
 |nil=>exact λo h=>eN h
 |cons h _ ih=>exact λo k=>(aE.mp k).elim (λe=>e▸h.wf) (ih o)
inductive JG(H H₁:Hp):Prop
 |mk(ln:H₁.length=H.length)(h:∀o∈H₁,o∈H∨∀ρ,s4 ρ o):JG H H₁
theorem JG.refl(H:Hp):JG H H:=⟨rfl,λz h=>.inl h⟩
theorem JG.set{H₁:Hp}(c:JG H H₁){o:AO}(h:∀ρ,s4 ρ o)(i:Nat):JG H (H₁.set i o):=by
 induction c with
 |mk ln k=>exact⟨bO.trans ln,λx hx=>(List.mem_or_eq_of_mem_set hx).elim (k x) λe=>.inr (e▸h)⟩
inductive lI(H:Hp)(K:KV)(a:AV)(H':Hp):Prop
 |one(H₁ T:Hp)(e:H'=H₁++T)(c:JG H H₁)(s:scal a=true)(k:K a H₁):lI H K a H'
 |new(H₁ T:Hp)(o:AO)(i:Nat)(e:H'=H₁++T)(c:JG H H₁)(ha:a= .ref i)(hi:H'[i]? =some o)(hn:H.length<=i)(wf:∀ρ,s4 ρ o)(k:K (.ref H.length) (H₁++[o])):lI H K a H'
theorem Back.bare{ρ:List aI}(R:bM Γ ρ P m H s)(b:Back Γ ρ P m K Q):Back Γ ρ P m (lI H K) Q:=by
 intro a v H' ρ' s' x r R' k;obtain⟨mm0,objs0,_,q0,ro0,_⟩:=R.dy;obtain⟨τ,rfl⟩:=x;have old:∀{H₁ T:Hp}{σ:List aI},JG H H₁->∀(j:Nat)(b:aI)(o:AO),ρ[j]? =some b->H₁[j]? =some o->∃(i:Nat)(o':AO),(ρ++τ)[i]? =some b∧(H₁++T)[i]? =some o'∧(∀ob,de w (ρ++τ) o' ob->de w (ρ++σ) o ob)∧(∀b,okA o' b->okA o b):=@λH₁ T σ c j b o e f=>by
  induction c with
  |mk ln c=>exact⟨j,o,ba e,ba f,λob r=>(r.down ((c o (gC f)).elim (ro0.wf o) λh=>h ρ)).mono ⟨σ,rfl⟩,λz=>id⟩
 have ln:∀{H₁:Hp},JG H H₁->ρ.length=H₁.length:=λc=>by
  induction c with
  |mk l _=>exact R.ly.ln.trans l.symm
 induction k with
 |one H₁ T e c sc k=>
  subst e;refine b.put (dg.refl ρ) (r.scal sc) (R'.see (H'':=H₁) ⟨ln c,R.ly.each,?_⟩ λz q'=>q0.down q') k;have o:=old (T:=T) (σ:=[]) c;rw[be]at o;exact o
 |new H₁ T o i e c ha hi hn wf k=>
  subst e ha;refine db.R (C:=λv=>Q v s') r λD hD=>?_
  have hl:=ln c;have no:∀(j:Nat)(b:aI),ρ[j]? =some b->b≠D:=λj b e q=>im.mpr (ii e) (R.ly.ln▸(R'.ly.each j b (ba e) i (q▸hD))▸hn)
  refine b.put (dg.one ρ D) (R.top D) (R'.see (H'':=H₁++[o]) ⟨by rw[aK,aK,hl];rfl,λj b e i f=>?_,λj b x e f=>?_⟩ λz q'=>(q0.down q').mono (dg.one ρ D)) k
  ·exact gp e (λe=>gp f (λf=>R.ly.each j b e i f) λz q=>absurd q (no j b e)) λp q=>gp f (λf=>absurd q (no i b f)) λp' z=>p'.trans p.symm
  ·refine gp e (λe=>?_) λp q=>?_
   ·exact old c j b x e ((d7 (hl▸ii e)).symm.trans f)
   ·obtain rfl:=aj (bA.symm.trans (hl▸p▸f))
    exact⟨i,_,q▸hD,hi,λob r=>(r.down (wf ρ)).mono (dg.one ρ D),λz=>id⟩
end
variable{kd:ax->Option gu}
section
abbrev Sp:=List AV->Nm->Hp->KV->Prop
def f7(w:gf)(mean:jj->Option ar)(mg mb:ax->Option ar)(d:Nat)(f:aI)(spec:Sp):Prop:=
 ∀(Γ:Wk w mean mg mb)(ρ:List aI)(P:mh)(m:Nm)(H:Hp)(s:aC)(Q E:ar->aC->Prop)(as:List AV)(vs:List ar)(ks:Nm)(kv:List (ax×ar))(K:KV),Γ.dp+d<aP->Γ.un+8*d<df->spec as ks H K->bM Γ ρ P m H s->bB ρ as vs->cW ρ ks kv->Back Γ ρ P m K Q->aL (cJ w) Γ.A (bH (.ref f) vs kv) Q E s
def Jb(w:gf)(mean:jj->Option ar)(mg mb:ax->Option ar)(d:Nat)(f:aI)(spec:Sp):Prop:=
 ∀(Γ:Wk w mean mg mb)(ρ:List aI)(P:mh)(m:Nm)(H:Hp)(s:aC)(Q:ar->aC->Prop)(F:rL->aC->Prop)(as:List AV)(vs:List ar)(ks:Nm)(kv:List (ax×ar))(K:KV),Γ.dp+d<aP->Γ.un+8*d<df->spec as ks H K->bM Γ ρ P m H s->bB ρ as vs->cW ρ ks kv->Back Γ ρ P m K Q->(∀v s',Q v s'->F (.ok (.ret v)) s')->nM (cJ w) Γ.A (.call (.ref f) ⟨vs,kv⟩) F s
theorem Jb.fn{d:Nat}{f:aI}{spec:Sp}(h:Jb w mean mg mb d f spec):f7 w mean mg mb d f spec:=λΓ ρ P m H s Q z as vs ks kv K hd hu q R r rk b=>uj (h Γ ρ P m H s Q _ as vs ks kv K hd hu q R r rk b λz z h=>h)
theorem f7.mono{d:Nat}{f:aI}{spec spec':Sp}(h:f7 w mean mg mb d f spec)(k:∀as ks H K,spec' as ks H K->spec as ks H K):f7 w mean mg mb d f spec':=λΓ ρ P m H s Q E as vs ks kv K hd hu q=>h Γ ρ P m H s Q E as vs ks kv K hd hu (k _ _ _ _ q)
theorem f7.bare{d:Nat}{f:aI}{spec:Sp}(h:f7 w mean mg mb d f spec):f7 w mean mg mb d f (λas ks H K=>spec as ks H (lI H K)):=λΓ ρ P m H s Q E as vs ks kv K hd hu q R r rk b=>h Γ ρ P m H s Q E as vs ks kv _ hd hu q R r rk (b.bare R)
set_option tactic.hygienic true in
noncomputable def dT(K:KV):KS:=λf _ H=>match f with
 |.ret a=>K a H
 |.next=>K .none H
 |_=>False
set_option tactic.hygienic true in
theorem dT.el{fl:Fl}{g:lL}{C:ar->Prop}(h:dT K fl m H)(r:Al ρ fl g)(k:∀a v,db ρ a v->K a H->C v):C (match g with|.ret v=>v|_=>.none):=by
 induction r with
 |ret r=>exact k _ _ r h
 |next=>exact k _ _ .none h
 |_=>exact h.elim
noncomputable def cj(names:List (ax×gu)):List ax:=(ew 0 names []).map (·.1)
theorem oO:∀(names:List (ax×gu))(n:Nat)(acc acc':List (ax×aI)),acc.map (·.1)=acc'.map (·.1)->∀n',(ew n names acc).map (·.1)=(ew n' names acc').map (·.1)
 |[],_,_,_,h,_=>h
 |(y,k)::r,n,acc,acc',h,n'=>by
  unfold ew;cases k== .cell with
  |true=>exact oO r _ ((y,n)::acc) ((y,n')::acc') (congrArg (y::·) h) _
  |false=>exact oO r _ _ _ h _
theorem qU:∀(names:List (ax×gu))(n b:Nat)(acc:List (ax×aI)),b<=n->(acc.Pairwise λx y=>y.2<x.2)->(∀p∈acc,b<=p.2∧p.2<n)->((ew n names acc).Pairwise λx y=>y.2<x.2)∧∀p∈ew n names acc,b<=p.2
 |[],_,_,_,_,h,k=>⟨h,λp hp=>(k p hp).1⟩
 |(y,kd)::r,n,b,acc,hb,h,k=>by
  unfold ew;cases kd== .cell with
  |true=>exact qU r (n+1) b ((y,n)::acc) (gG hb) (.cons (λp hp=>(k p hp).2) h) λp hp=>(aE.mp hp).elim (λe=>e▸⟨hb,bI n⟩) λhp=>⟨(k p hp).1,dF (k p hp).2⟩
  |false=>exact qU r n b acc hb h k
noncomputable def yg:List ax->Nat->List (ax×Nat)
 |[],_=>[]
 |x::xs,n=>(x,n)::yg xs (n+1)
theorem B2{τ:List aI}:∀{cs:List (ax×aI)}{xs:List ax}{n:Nat}{x:ax}{j:Nat},cs.map (·.1)=xs->(∀(k:Nat)(p:ax×aI),cs[k]? =some p->τ[n+k]? =some p.2)->(yg xs n).lookup x=some j->∃c,cs.lookup x=some c∧τ[j]? =some c
 |[],_,_,_,_,e,_,h=>aJ (show(yg [] _).lookup _=_ from e▸h)
 |p::cs,xs,n,x,j,e,k,h=>by
  subst e;have h:(match x==p.1 with|true=>some n|false=>(yg (cs.map (·.1)) (n+1)).lookup x)=some j:=h;rw[gc];cases q:x==p.1 with
  |true=>
   rw[q]at h;exact⟨_,rfl,aj h▸k 0 p rfl⟩
  |false=>
   rw[q]at h;exact B2 (cs:=cs) rfl (λi p' e'=>(Nat.succ_add n i).symm▸k (i+1) p' e') h
noncomputable def iZ(nm:Nm)(xs:List ax):Hp:=xs.map λx=>.cell (nm.lookup x)
theorem zZ{nm:Nm}{cm:ax->Option ar}{xs₀:List ax}(q:∀x a,nm.lookup x=some a->x∈xs₀->∃v,cm x=some v∧db ρ a v){cs:List (ax×aI)}{cells:gO}(h:A6 cm cs cells):(∀p∈cs,p.1∈xs₀)->eY w ρ (iZ nm (cs.map (·.1))) (cells.map (·.2))∧cells=(cs.map (·.2)).zip (cells.map (·.2)):=by
 induction h with
 |nil=>exact λz=>⟨.nil,rfl⟩
 |@cons n c o cs cells e _ ih=>
  intro hm;have i:=ih λp hp=>hm p (af _ hp)
  refine⟨.cons (show de w ρ (.cell (nm.lookup n)) o from ?_) i.1,congrArg (_::·) i.2⟩;cases hn:nm.lookup n with
  |none=>exact .cell0 e
  |some a=>
   obtain⟨v,h1,h2⟩:=q n a hn (hm _ ah);exact .cell h2 (h1▸e)
theorem AD.adds{rest:gO}:∀{ρ:List aI}{H:Hp}{τ:List aI}{T:Hp},AD ρ rest H->τ.length=T.length->(τ.Pairwise λx y=>x≠y)->(∀D∈τ,(∀(j:Nat)(b:aI),ρ[j]? =some b->b≠D)∧∀p∈rest,p.1≠D)->(∀o∈T,∀b,okA o b)->AD (ρ++τ) rest (H++T)
 |ρ,H,[],[],Y,_,_,_,_=>by rw[be,be];exact Y
 |ρ,H,D::τ,o::T,Y,hl,hp,h,k=>by
  rw[Jh ρ,Jh H];have hp:=rB.mp hp;refine AD.adds (Y.add (h D ah).1 (h D ah).2 (k o ah D)) (jp hl) hp.2 (λD' hD=>⟨λj b e=>gp e ((h D' (af _ hD)).1 j b) λz q=>q▸hp.1 D' hD,(h D' (af _ hD)).2⟩) λo ho=>k o (af _ ho)
 |_,_,[],_::_,_,h,_,_,_=>nomatch h
 |_,_,_::_,[],_,h,_,_,_=>nomatch h
noncomputable def hW(nk:List (ax×gu)):Nm->Nm
 |[]=>[]
 |p::r=>match jx nk p.1 with
  |true=>p::hW nk r
  |false=>hW nk r
theorem Dc{x:ax}:nk.lookup x=some .local↔jx nk x=true:=(beq_iff_eq (a:=nk.lookup x)).symm
theorem Ac(hk:∀x,kd x=nk.lookup x){nm:Nm}{bs:List (ax×ar)}(h:cW ρ nm bs):(nm.map (·.1)).Nodup->∀acc,(∀x,x∉nm.map (·.1)->bindL kd bs acc x=acc x)∧∀x a,(hW nk nm).lookup x=some a->∃v,bindL kd bs acc x=some v∧db ρ a v:=by
 induction h with
 |nil=>exact λw acc=>⟨λw w=>rfl,λx a e=>aJ e⟩
 |@cons y b u as vs r _ ih=>
  intro hn acc;have hn:=eM.mp hn;obtain⟨i1,i2⟩:=ih hn.2 (if kd y=some .local then λz=>if z=y then some u else acc z else acc);refine⟨λx hx=>(i1 x λh=>hx (af _ h)).trans ?_,λx a e=>?_⟩
  ·by_cases q:kd y=some .local
   ·rw[if_pos q]
    exact if_neg λ(e:x=y)=>hx (e▸ah)
   ·rw[if_neg q]
  ·simp only [hW]at e
   cases q:jx nk y with
   |false=>rw[q]at e;exact i2 x a e
   |true=>
    rw[q]at e;dsimp only at e;rw[gc]at e;cases z:x==y with
    |false=>rw[z]at e;exact i2 x a e
    |true=>
     rw[z]at e;obtain rfl:=bo z;refine⟨u,(i1 x hn.1).trans ?_,aj e▸r⟩;rw[if_pos ((hk x).trans (Dc.mpr q))];exact if_pos rfl
theorem Ad(hk:∀x,kd x=nk.lookup x){nm:Nm}{bs:List (ax×ar)}(h:cW ρ nm bs):(nm.map (·.1)).Nodup->∀acc,(∀x,x∉nm.map (·.1)->bindC kd bs acc x=acc x)∧∀x a,jx nk x=false->nm.lookup x=some a->∃v,bindC kd bs acc x=some v∧db ρ a v:=by
 induction h with
 |nil=>exact λw acc=>⟨λw w=>rfl,λx a w e=>aJ e⟩
 |@cons y b u as vs r _ ih=>
  intro hn acc;have hn:=eM.mp hn;obtain⟨i1,i2⟩:=ih hn.2 (if kd y=some .local then acc else λz=>if z=y then some u else acc z);refine⟨λx hx=>(i1 x λh=>hx (af _ h)).trans ?_,λx a hl e=>?_⟩
  ·by_cases q:kd y=some .local
   ·rw[if_pos q]
   ·rw[if_neg q]
    exact if_neg λ(e:x=y)=>hx (e▸ah)
  ·rw[gc]at e
   cases z:x==y with
   |false=>rw[z]at e;exact i2 x a hl e
   |true=>
    rw[z]at e;obtain rfl:=bo z;refine⟨u,(i1 x hn.1).trans ?_,aj e▸r⟩;rw[if_neg λq=>bj (hl.symm.trans (Dc.mp ((hk x).symm.trans q)))];exact if_pos rfl
end
section
theorem r9{env:qk}{b:aI}(hf:env.frame=some L)(hm:b∈(env::outer).filterMap (·.frame)):b=L∨b∈outer.filterMap (·.frame):=by
 rw[ce,hf]at hm;exact aE.mp hm
variable{Γ':Wk w mean mg mb}{msg:ax}{KX:Hp->Prop}{e:ar}
inductive E?(Γ:Wk w mean mg mb)(ρ:List aI)(P:mh)(msg:ax)(KX:Hp->Prop)(e:ar)(s':aC):Prop
 |mk(a:aI)(tkm:lP)(m':Nm)(H':Hp)(ρ':List aI)(s₁:aC)(h':fk)(he:e= .ref a)(es:s'={s₁ with heap:=h'})(R:bM Γ ρ' P m' H' s₁)(x:dg ρ ρ')(hx:Heap.MadeExcOf s₁.heap h' a (.type "ValueError") [.str msg tkm])(k:KX H'):E? Γ ρ P msg KX e s'
inductive v8(Γ:Wk w mean mg mb)(ρ:List aI)(P:mh)(m:Nm)(msg:ax)(KX:Hp->Prop)(e:ar)(s':aC):Prop
 |mk(a t:aI)(tkm:lP)(mm:ax->Option ar)(G:fk)(ρ':List aI)(H':Hp)(objs:List dU)(he:e= .ref a)(F:Fr Γ.h₀ Γ.L G mm)(q:mo ρ m mm)(U:G.UpToSlots s'.heap)(ro:eY w ρ' H' objs)(x:dg ρ ρ')(ly:AD ρ' P.rest H')(R:RaisedS Γ.base G (Γ.env::Γ.outer) a (.type "ValueError") t [.str msg tkm] (ρ'.zip objs++P.rest) s'.heap)(g:bT P.gb s'.gens)(d:s'.drawn=Γ.s₀.drawn)(o:s'.os=Γ.s₀.os)(k:KX H'):v8 Γ ρ P m msg KX e s'
inductive JF(Γ:Wk w mean mg mb)(ρ:List aI)(P:mh)(msg:ax)(KX:Hp->Prop)(e:ar)(s':aC):Prop
 |mad(h:E? Γ ρ P msg KX e s'):JF Γ ρ P msg KX e s'
 |fly(h:v8 Γ ρ P [] msg KX e s'):JF Γ ρ P msg KX e s'
theorem v8.ext(h:v8 Γ ρ' P m msg KX e s')(x:dg ρ ρ')(k:∀mm,mo ρ' m mm->mo ρ m mm):v8 Γ ρ P m msg KX e s':=by
 obtain⟨a,t,tkm,mm,G,ρ₂,H',objs,he,F,q,U,ro,x₂,ly,R,g,d,o,kx⟩:=h;exact⟨a,t,tkm,mm,G,ρ₂,H',objs,he,F,k mm q,U,ro,x.trans x₂,ly,R,g,d,o,kx⟩
theorem v8.no(h:v8 Γ ρ P m msg (λz=>False) e s'):C:=by
 induction h with
 |mk _ _ _ _ _ _ _ _ _ _ _ _ _ _ _ _ _ _ _ kx=>exact kx.elim
theorem v8.nil(h:v8 Γ ρ' P m msg KX e s')(x:dg ρ ρ'):v8 Γ ρ P [] msg KX e s':=by
 obtain⟨a,t,tkm,mm,G,ρ₂,H',objs,he,F,q,U,ro,x₂,ly,R,g,d,o,kx⟩:=h;exact⟨a,t,tkm,mm,G,ρ₂,H',objs,he,F,(λy a e=>aJ e),U,ro,x.trans x₂,ly,R,g,d,o,kx⟩
theorem JF.ext(h:JF Γ ρ' P msg KX e s')(x:dg ρ ρ'):JF Γ ρ P msg KX e s':=by
 induction h with
 |mad h=>
  obtain⟨a,tkm,m',H',ρ₂,s₁,h',he,es,R,x₂,hx,kx⟩:=h;exact .mad ⟨a,tkm,m',H',ρ₂,s₁,h',he,es,R,x.trans x₂,hx,kx⟩
 |fly h=>exact .fly (h.nil x)
theorem JF.leave{Q:Unit->aC->Prop}{E:ar->aC->Prop}(h:JF Γ' ρ' P msg KX e s')(hb:Γ'.base=Γ.base)(ho:Γ'.outer=Γ.env::Γ.outer)(hs:Γ'.s₀=Γ.s₀)(B:oW Γ.A Γ.base (Γ.env::Γ.outer) Γ'.h₀)(F:Fr Γ.h₀ Γ.L Γ'.h₀ mm)(q:mo ρ m mm)(x:dg ρ ρ')(k:∀s'',v8 Γ ρ P m msg KX e s''->Q () s''):aL (cJ w) (Γ.A.deeper Γ'.env) (leaving Γ'.env e) Q E s':=by
 induction h with
 |mad h=>
  obtain⟨a,tkm,m',H',ρ₂,s₁,h',he,es,R,x₂,hx,kx⟩:=h;subst es;obtain⟨mm',objs,F',q',ro,N⟩:=R.dy;subst he;have hf:Γ'.env.frame=some Γ'.L:=rfl;have K':=pushX B F' hf Γ'.hk;have hin:∀env∈(Γ'.env::(Γ.env::Γ.outer)),∀b,env.frame=some b->b∈(Γ'.env::(Γ.env::Γ.outer)).filterMap (·.frame):=λenv he b hb=>rC.mpr ⟨env,he,hb⟩
  refine wpAny_leaves_madeW K'.stack rfl (base:=hideAll s₁.heap ((Γ'.env::(Γ.env::Γ.outer)).filterMap (·.frame))) (λb o q=>Pl _ q) (funFrames_hide K'.frames hin) hx λh'' t x1 x2 x3 x4=>k _ ?_
  refine⟨a,t,tkm,mm,Γ'.h₀,ρ₂,H',objs,rfl,F,q,(kR F'.keep).trans ((kR hx.keeps).trans x4),ro,x.trans x₂,R.ly,⟨⟨_,λb o q=>yw _ (K'.stays b o q) λhm=>?_,λb o q nm=>yw _ (F'.keep b o q) λhm=>?_,λq hq=>?_,x1,x3⟩,x2⟩,R.g,R.d.trans (congrArg NN hs),R.o.trans (congrArg Shared.os hs),kx⟩
  ·have:=(K'.frames.mem hm).1
   rw[this]at q;exact aJ q
  ·rcases r9 hf hm with z|z
   ·rw[z,kts_self F']at q;exact aJ q
   ·exact nm z
  ·refine⟨yw _ (N q hq).1 λhm=>?_,(N q hq).2.2,fresh_of_stays B.stays (N q hq).2.2⟩
   rcases r9 hf hm with z|z
   ·exact(N q hq).2.1 z
   ·obtain⟨o,ho,_⟩:=(B.frames.mem z).2
    rw[(N q hq).2.2]at ho;exact aJ ho
 |fly h=>
  obtain⟨a,t,tkm,mm',G,ρ₂,H',objs,he,F',q',U,ro,x₂,ly,⟨⟨B',hB,hBG,hl,hfl,hnew⟩,htup⟩,g,d,o,kx⟩:=h;subst he;rw[ho]at hBG hfl;have hf:Γ'.env.frame=some Γ'.L:=rfl;refine wpAny_leaves_onW (Around.frames_deeper B.stack) hf hfl λh'' x1 x2=>k _ ?_
  refine⟨a,t,tkm,mm,Γ'.h₀,ρ₂,H',objs,rfl,F,q,(kR F'.keep).trans (U.trans x2),ro,x.trans x₂,ly,⟨⟨B',hb▸hB,λb o q nm=>hBG b o (F'.keep b o q) λhm=>?_,λq hq=>?_,x1,hnew⟩,htup.of_slots x2⟩,g,d.trans (congrArg NN hs),o.trans (congrArg Shared.os hs),kx⟩
  ·rcases r9 hf hm with z|z
   ·rw[z,kts_self F']at q;exact aJ q
   ·exact nm z
  ·exact⟨(hl q hq).1,kts_none F'.keep (hl q hq).2.1,hb▸(hl q hq).2.2⟩
end
variable{qn pm:ax}{nv:Nm}{kV:ar}{pt:Nat}{spec:Sp}
section
noncomputable def G8:List ax->Bool
 |[]=>true
 |x::r=> !(r.contains x)&&G8 r
theorem qA:∀{l:List ax},G8 l=true->l.Nodup
 |[],_=>o7
 |x::r,h=>by
  rw[G8]at h;rw[aM,eI]at h;exact eM.mpr ⟨λhm=>bj (h.1.symm.trans (oz.mpr hm)),qA h.2⟩
noncomputable def sb(sc:iS)(xs:List ax):Bool:=(((!sc.isCoroutine&& !sc.isGenerator)&&sc.kind== .function)&&(xs.all (λx=>sc.names.lookup x==some .local||sc.names.lookup x==some .cell)&&G8 xs))&&((cj sc.names).all (λx=> !jx sc.names x)&&G8 (cj sc.names))
abbrev B?:=List AV->Nm->Hp->KV->(Hp->Prop)->Prop
def Vq(w:gf)(mean:jj->Option ar)(mg mb:ax->Option ar)(d:Nat)(f:aI)(msg:ax)(spec:B?):Prop:=
 ∀(Γ:Wk w mean mg mb)(ρ:List aI)(P:mh)(m:Nm)(H:Hp)(s:aC)(Q:ar->aC->Prop)(F:rL->aC->Prop)(as:List AV)(vs:List ar)(ks:Nm)(kv:List (ax×ar))(K:KV)(KX:Hp->Prop),Γ.dp+d<aP->Γ.un+8*d<df->spec as ks H K KX->bM Γ ρ P m H s->bB ρ as vs->cW ρ ks kv->Back Γ ρ P m K Q->(∀v s',Q v s'->F (.ok (.ret v)) s')->(∀e s',v8 Γ ρ P m msg KX e s'->F (.error e) s')->nM (cJ w) Γ.A (.call (.ref f) ⟨vs,kv⟩) F s
noncomputable def EC(Γ:Wk w mean mg mb)(qn:ax)(sc:iS)(L' f c:aI)(g:fk)(B':oW Γ.A Γ.base (Γ.env::Γ.outer) g)(X':(hp w.params).In g)(T':JO Γ.pT Γ.lT mean mg mb g)(hk:sc.kind= .function)(rm:Γ.dp+1<aP)(ru:Γ.un+3+8<df):Wk w mean mg mb:=⟨Γ.pT,Γ.lT,Γ.dp+1,Γ.un+3,Γ.gd,qn,sc,L',f,.ref c,ew (L'+1) sc.names [],Γ.env::Γ.outer,Γ.A,Γ.base,g,Γ.s₀,B',X',T',hk,rm,ru⟩
theorem Di{Γ:Wk w mean mg mb}{ρ:List aI}{P:mh}{m:Nm}{H:Hp}{s:aC}{L' f c:aI}{g h₁:fk}{tk:Nat}{B':oW Γ.A Γ.base (Γ.env::Γ.outer) g}{X':(hp w.params).In g}{T':JO Γ.pT Γ.lT mean mg mb g}{hk:sc.kind= .function}{rm:Γ.dp+1<aP}{ru:Γ.un+3+8<df}{bs:List (ax×ar)}{cells:gO}(hs:∀x∈cj sc.names,(!jx sc.names x)=true)(R:bM Γ ρ P m H s)(ro:eY w ρ H objs)(rb:cW ρ nv bs)(hn:(nv.map (·.1)).Nodup)(em:mm'=bindL (nQ qn sc L' f (.ref c)).kindOf bs λz=>none)(F':Fr g L' h₁ mm')(N':dJ g L' h₁ (cells++(ρ.zip objs++P.rest)))(Y:A6 (bindC (nQ qn sc L' f (.ref c)).kindOf bs λz=>none) (ew (L'+1) sc.names []) cells)(l1:∀p∈ρ.zip objs++P.rest,p.1<L'):
  ∃τ,bM (EC Γ qn sc L' f c g B' X' T' hk rm ru) (ρ++τ) P (hW sc.names nv) (H++iZ nv (cj sc.names)) {s with heap:=h₁,toks:=tk}∧dC (EC Γ qn sc L' f c g B' X' T' hk rm ru) (ρ++τ) P ⟨sc.names,yg (cj sc.names) H.length,none⟩ (EC Γ qn sc L' f c g B' X' T' hk rm ru).env:=by
 subst em;have hcs:(ew (L'+1) sc.names []).map (·.1)=cj sc.names:=oO _ _ [] [] rfl _;obtain⟨up1,up2⟩:=qU sc.names (L'+1) (L'+1) [] (bF _) .nil λp hp=>eN hp
 have hloc:∀p∈ew (L'+1) sc.names [],p.1∈cj sc.names:=λp hp=>hcs▸cZ hp
 obtain⟨rc,ec⟩:=zZ (w:=w) (ρ:=ρ) (nm:=nv) (λx a e hx=>(Ad (nk:=sc.names) (λz=>rfl) rb hn _).2 x a (by simpa using hs x hx) e) Y hloc;rw[hcs]at rc;generalize hτ:(ew (L'+1) sc.names []).map (·.2)=τ at ec;have x:dg ρ (ρ++τ):=⟨τ,rfl⟩;have hl:ρ.length=objs.length:=R.ly.ln.trans ro.len.symm;have lt:τ.length=(iZ nv (cj sc.names)).length:=by rw[<-hτ,<-hcs];unfold iZ;rw[aD,aD,aD]
 have far:∀D∈τ,L'<D:=λD hD=>by
  obtain⟨p,hp,rfl⟩:=bY.mp (hτ▸hD);exact up2 p hp
 have R':bM (EC Γ qn sc L' f c g B' X' T' hk rm ru) (ρ++τ) P (hW sc.names nv) (H++iZ nv (cj sc.names)) {s with heap:=h₁,toks:=tk}:=by
  refine⟨⟨_,objs++cells.map (·.2),F',λy a e=>?_,(ro.mono x).app (rc.mono x),λp hp=>N' p ?_⟩,R.ly.adds lt (hτ▸FB.mpr (up1.imp λh=>cu h)) (λD hD=>⟨λj b e=>?_,λp hp=>?_⟩) (λo ho=>?_),R.g,R.d,R.o⟩
  ·exact((Ac (λz=>rfl) rb hn _).2 y a e).imp λv k=>⟨k.1,k.2.mono x⟩
  ·rw[kP hl,<-ec,aA]at hp
   exact qF hp (λh=>Mn h) (λh=>av _ h) λh=>Dj h
  ·obtain⟨o,ho⟩:=gy hl e
   exact bc (dD (l1 _ (av _ ho)) (far D hD))
  ·exact bc (dD (l1 _ (au _ hp)) (far D hD))
  ·obtain⟨x,_,rfl⟩:=bY.mp ho
   exact λz=>br
 refine⟨τ,R',⟨rfl,hk,rfl,rfl,λy j hy=>B2 hcs (λk p e=>?_) hy,λz=>rfl,λz h=>aJ h⟩⟩;rw[bp (R.ly.ln▸a9 _ _),R.ly.ln,bS,<-hτ,bv];exact congrArg (qc (·.2)) e
set_option tactic.hygienic true in
theorem z5{d:Nat}{f:aI}{nm:ax}{st:cP}{dV:ar}{c:Nat}{I:Wk w mean mg mb->Prop}{msg:ax}{spec:B?}(xs:List ax)(bnd:List AV->Nm->Option Nm)(ho:(hp w.params).lookup f=some (fO nm qn (fA st) (fB st) (fS st) dV kV pm pt c))(hcd:dP (hp w.params) (.ref c) qn=true)(hs:sb (fS st) xs=true)
  (hb:∀{s:aC}{ρ:List aI}{as:List AV}{vs:List ar}{ks nv:Nm}{kv:List (ax×ar)},(hp w.params).In s.heap->bB ρ as vs->cW ρ ks kv->bnd as ks=some nv->nv.map (·.1)=xs∧∃bs,iX s (ul nm qn (fA st) (fB st) (fS st) dV kV .none (.str pm pt) none (.ref c) .none) ⟨vs,kv⟩ bs∧cW ρ nv bs)
  (hT:∀Γ:Wk w mean mg mb,Γ.dp+(d+1)<aP->Γ.un+8*(d+1)<df->Γ.ccd= .ref c∧Γ.cn=qn->I Γ)
  (main:∀as ks H K KX,spec as ks H K KX->aG (bnd as ks) λnv=>∀(Γ:Wk w mean mg mb)(ρ τ:List aI)(P:mh)(s:aC)(Q:lL->aC->Prop)(E:ar->aC->Prop),I Γ->dC Γ (ρ++τ) P ⟨(fS st).names,yg (cj (fS st).names) H.length,none⟩ Γ.env->bM Γ (ρ++τ) P (hW (fS st).names nv) (H++iZ nv (cj (fS st).names)) s->ρ.length=H.length->
   mQ Γ ρ P (dT K) Q->(∀e s',JF Γ (ρ++τ) P msg KX e s'->E e s')->aL (cJ w) Γ.A (kN (fB st) Γ.env) Q E s):
  Vq w mean mg mb (d+2) f msg spec:=by
 intro Γ ρ P m H s Q RF as vs ks kv K KX hd hu h R r rk b hF hX;refine aG.el (main as ks H K KX h) λnv main e=>?_
 unfold sb at hs;simp only [aM,eI,beq_iff_eq]at hs;obtain⟨mm,objs,F,q,ro,N⟩:=R.dy;obtain⟨hx,bs,hB,rb⟩:=hb (Γ.X.keeps F.keep) r rk e;have hn:=hx▸qA hs.1.2.2;refine(code_defC Γ.B F Γ.X N Γ.T rfl rfl Γ.hk ho hcd (bh (a9 _ _) hd) hB ?_ (qA hs.2.2) ?_ hs.1.1.1.1 hs.1.1.1.2 hs.1.1.2)
 ·exact aB.mpr λy hy=>aB.mp hs.1.2.1 y.1 (hx▸rb.keys▸cZ hy)
 intro g L' h₁ tk cells FG F' N' Y B' X' T' l1;have rm:Γ.dp+1<aP:=bh (aU (eP 1 (d+1)) _) hd;have ru:Γ.un+3+8<df:=bh (by show Γ.un+3+8<=Γ.un+(8*d+16);rw[cU];exact aU (aq (by decide) (eP 16 _)) _) hu
 let Γ':Wk w mean mg mb:=EC Γ qn (fS st) L' f c g B' X' T' hs.1.1.2 rm ru
 obtain⟨τ,R',N₁⟩:∃τ,bM Γ' (ρ++τ) P (hW (fS st).names nv) (H++iZ nv (cj (fS st).names)) {s with heap:=h₁,toks:=tk}∧dC Γ' (ρ++τ) P ⟨(fS st).names,yg (cj (fS st).names) H.length,none⟩ Γ'.env:=Di (λx hx=>aB.mp hs.2.1 x hx) R ro rb hn rfl F' N' Y l1
 ·refine main Γ' ρ τ P _ _ _ (hT Γ' ?_ ?_ ⟨rfl,rfl⟩) N₁ R' R.ly.ln ?_ λe s' o=>o.leave (Γ:=Γ) (m:=m) rfl rfl rfl B' FG q ⟨τ,rfl⟩ λs'' fl=>hX _ _ fl
  ·show Γ.dp+1+(d+1)<aP
   rw[io];exact hd
  ·show Γ.un+3+8*(d+1)<df
   refine bh ?_ hu;rw[cU,d4 3];exact aU (aU (by decide) (8*(d+1))) _
  ·intro fl fg m' H' ρ' s' x' r' R₂ k
   obtain⟨m₁,objs',F₁,_,ro',N₂⟩:=R₂.dy;have fin:∀a v,db ρ' a v->K a H'->Fr Γ.h₀ Γ.L s'.heap mm->dJ Γ.h₀ Γ.L s'.heap (ρ'.zip objs'++P.rest)->RF (.ok (.ret v)) s':=λa v ra k F₂ N₃=>hF _ _<|b.put x' ra ⟨⟨mm,objs',F₂,q.mono x',ro',N₃⟩,R₂.ly,R₂.g,R₂.d,R₂.o⟩ k
   refine leaveK_ F₁ N₂ ?_;induction r' with
   |ret r=>exact fin _ _ r k
   |next=>exact fin _ _ .none k
   |_=>exact k.elim
theorem yh{d:Nat}{f:aI}{nm:ax}{st:cP}{dV:ar}{c:Nat}(xs:List ax)(bnd:List AV->Nm->Option Nm)(ho:(hp w.params).lookup f=some (fO nm qn (fA st) (fB st) (fS st) dV kV pm pt c))(hcd:dP (hp w.params) (.ref c) qn=true)(hs:sb (fS st) xs=true)
  (hb:∀{s:aC}{ρ:List aI}{as:List AV}{vs:List ar}{ks nv:Nm}{kv:List (ax×ar)},(hp w.params).In s.heap->bB ρ as vs->cW ρ ks kv->bnd as ks=some nv->nv.map (·.1)=xs∧∃bs,iX s (ul nm qn (fA st) (fB st) (fS st) dV kV .none (.str pm pt) none (.ref c) .none) ⟨vs,kv⟩ bs∧cW ρ nv bs)
  (hT:∀Γ:Wk w mean mg mb,Γ.dp+(d+1)<aP->Γ.un+8*(d+1)<df->Γ.ccd= .ref c∧Γ.cn=qn->cF Γ T)
  (main:∀as ks H K,spec as ks H K->aG (bnd as ks) λnv=>∀(Γ:Wk w mean mg mb)(ρ τ:List aI)(P:mh)(s:aC)(Q:lL->aC->Prop)(E:ar->aC->Prop),cF Γ T->dC Γ (ρ++τ) P ⟨(fS st).names,yg (cj (fS st).names) H.length,none⟩ Γ.env->bM Γ (ρ++τ) P (hW (fS st).names nv) (H++iZ nv (cj (fS st).names)) s->ρ.length=H.length->
   mQ Γ ρ P (dT K) Q->aL (cJ w) Γ.A (kN (fB st) Γ.env) Q E s):
  Jb w mean mg mb (d+2) f spec:=λΓ ρ P m H s Q RF as vs ks kv K hd hu h R r rk b hF=>
 z5 (I:=λΓ=>cF Γ T) (msg:=aa "") (spec:=λas ks H K z=>spec as ks H K) xs bnd ho hcd hs hb hT (λas ks H K KX h=>aG.el (main as ks H K h) λnv k e=>aw e λΓ ρ τ P s Q E h1 h2 h3 h4 h5 z=>k Γ ρ τ P s Q E h1 h2 h3 h4 h5) Γ ρ P m H s Q RF as vs ks kv K (λz=>False) hd hu h R r rk b hF λz z fl=>fl.no
theorem MB{d:Nat}{f:aI}{nm:ax}{st:cP}{dV:ar}{c:Nat}(xs:List ax)(bnd:List AV->Nm->Option Nm)(ho:(hp w.params).lookup f=some (fO nm qn (fA st) (fB st) (fS st) dV kV pm pt c))(hcd:dP (hp w.params) (.ref c) qn=true)(hs:sb (fS st) xs=true)
  (hb:∀{s:aC}{ρ:List aI}{as:List AV}{vs:List ar}{ks nv:Nm}{kv:List (ax×ar)},(hp w.params).In s.heap->bB ρ as vs->cW ρ ks kv->bnd as ks=some nv->nv.map (·.1)=xs∧∃bs,iX s (ul nm qn (fA st) (fB st) (fS st) dV kV .none (.str pm pt) none (.ref c) .none) ⟨vs,kv⟩ bs∧cW ρ nv bs)
  (hT:∀Γ:Wk w mean mg mb,Γ.dp+(d+1)<aP->Γ.un+8*(d+1)<df->cF Γ T)
  (main:∀as ks H K,spec as ks H K->aG (bnd as ks) λnv=>∀(Γ:Wk w mean mg mb)(ρ τ:List aI)(P:mh)(s:aC)(Q:lL->aC->Prop)(E:ar->aC->Prop),cF Γ T->dC Γ (ρ++τ) P ⟨(fS st).names,yg (cj (fS st).names) H.length,none⟩ Γ.env->bM Γ (ρ++τ) P (hW (fS st).names nv) (H++iZ nv (cj (fS st).names)) s->ρ.length=H.length->
   mQ Γ ρ P (dT K) Q->aL (cJ w) Γ.A (kN (fB st) Γ.env) Q E s):
  f7 w mean mg mb (d+2) f spec:=(yh xs bnd ho hcd hs hb (λΓ hd hu z=>hT Γ hd hu) main).fn
theorem O8{d:Nat}{f:aI}{nm:ax}{st:cP}{dV:ar}{c:Nat}(k:Nat)(xs:List ax)(bnd:List AV->Nm->Option Nm)(ho:(hp w.params).lookup f=some (fO nm qn (fA st) (fB st) (fS st) dV kV pm pt c))(hcd:dP (hp w.params) (.ref c) qn=true)(hs:sb (fS st) xs=true)(hc:cj (fS st).names=[])
  (hb:∀{s:aC}{ρ:List aI}{as:List AV}{vs:List ar}{ks nv:Nm}{kv:List (ax×ar)},(hp w.params).In s.heap->bB ρ as vs->cW ρ ks kv->bnd as ks=some nv->nv.map (·.1)=xs∧∃bs,iX s (ul nm qn (fA st) (fB st) (fS st) dV kV .none (.str pm pt) none (.ref c) .none) ⟨vs,kv⟩ bs∧cW ρ nv bs)
  (hT:∀Γ:Wk w mean mg mb,Γ.dp+(d+1)<aP->Γ.un+8*(d+1)<df->cF Γ T):
  Jb w mean mg mb (d+2) f λas ks H K=>aG (bnd as ks) λnv=>cg ⟨(fS st).names,[],none⟩ T k (fB st) (hW (fS st).names nv) H (dT K):=
 yh xs bnd ho hcd hs hb (λΓ hd hu z=>hT Γ hd hu) λas ks H K h=>aG.el h λnv h e=>aw e λΓ ρ τ P s Q E O N R hl b=>by
  rw[hc]at N R;have e:H++iZ nv []=H:=be H;rw[e]at R;obtain rfl:τ=[]:=ch (qg (m:=τ.length) (k:=0) ((aK.symm.trans (R.ly.ln.trans hl.symm)).trans rfl));rw[be]at N R;exact kY O k _ _ _ _ h ρ P _ _ _ N R b
theorem Ib{d:Nat}{f:aI}{nm:ax}{st:cP}{dV:ar}{c:Nat}(k:Nat)(xs:List ax)(bnd:List AV->Nm->Option Nm)(ho:(hp w.params).lookup f=some (fO nm qn (fA st) (fB st) (fS st) dV kV pm pt c))(hcd:dP (hp w.params) (.ref c) qn=true)(hs:sb (fS st) xs=true)(hc:cj (fS st).names=[])
  (hb:∀{s:aC}{ρ:List aI}{as:List AV}{vs:List ar}{ks nv:Nm}{kv:List (ax×ar)},(hp w.params).In s.heap->bB ρ as vs->cW ρ ks kv->bnd as ks=some nv->nv.map (·.1)=xs∧∃bs,iX s (ul nm qn (fA st) (fB st) (fS st) dV kV .none (.str pm pt) none (.ref c) .none) ⟨vs,kv⟩ bs∧cW ρ nv bs)
  (hT:∀Γ:Wk w mean mg mb,Γ.dp+(d+1)<aP->Γ.un+8*(d+1)<df->cF Γ T):
  f7 w mean mg mb (d+2) f λas ks H K=>aG (bnd as ks) λnv=>cg ⟨(fS st).names,[],none⟩ T k (fB st) (hW (fS st).names nv) H (dT K):=
 (O8 k xs bnd ho hcd hs hc hb hT).fn
end
variable{fns:List (ar×Sp)}{ms:List (String×ax×ar)}{ge:AV->Option (ax->List (Int×ax))}{d':Nat}
section
noncomputable def Va(v:ar):AV:=match v with
 |.int i _=>.int i
 |.str x _=>.str x
 |.float f _=>.flt f
 |.none=>.none
 |.bool b=>.bool b
 |v=>.val v
theorem Ai(ρ:List aI)(v:ar):db ρ (Va v) v:=by
 induction v with
 |int i t=>exact .int i t
 |str x t=>exact .str x t
 |float f t=>exact .flt f t
 |none=>exact .none
 |bool b=>exact .bool b
 |_=>exact .val _
noncomputable def ń(w:gf)(x:ax):Option AV:=match nsIn (hp w.params) yu x with
 |some o=>(match o with
  |some v=>some (Va v)
  |none=>(match bootBuiltins x with
   |some v=>(match x==aa "__name__" with
    |true=>none
    |false=>some (Va v))
   |none=>none))
 |none=>none
theorem El{A:dR}{x:ax}(hk:env.scope.kind= .function)(hx:env.kindOf x=some .globalImplicit)(h:aL (cJ w) A (loadGlobal env x) Q E s):aL (cJ w) A (rJ env x) Q E s:=by
 unfold rJ;simp only [Env.blockKind,hk,hx,ScopeKind.isAnnotationScope,Bool.false_and,eB,if_false];exact h
theorem TU{A:dR}{x:ax}{a:AV}(h:ń w x=some a)(hk:en.nk.lookup x=some .globalImplicit)(N:dC Γ ρ P en env)(R:bM Γ ρ P m H s)(q:∀v,db ρ a v->Q v s):aL (cJ w) A (rJ env x) Q E s:=by
 obtain⟨mm,_,F,_⟩:=R.dy;have T:=topRead_of Γ.T;refine El N.kind ((N.of x).trans hk) ?_;unfold ń at h;cases e1:nsIn (hp w.params) yu x with
 |none=>rw[e1]at h;exact aJ h
 |some o=>
  rw[e1]at h;cases o with
  |some v=>exact loadGlobal_global (by rw[N.gl];exact T.g.keeps F.keep) (mg_of Γ.X T.g e1) (q v (aj h▸Ai ρ v))
  |none=>
   cases e2:bootBuiltins x with
   |none=>rw[e2]at h;exact aJ h
   |some v=>
    rw[e2]at h;cases e3:x==aa "__name__" with
    |true=>rw[e3]at h;exact aJ h
    |false=>
     rw[e3]at h;exact loadGlobal_builtin (by rw[N.gl];exact T.g.keeps F.keep) (mg_none_of Γ.X T.g e1) (by rw[N.bi];exact T.b.keeps F.keep) ((T.builtins x (beq_eq_false_iff_ne.mp e3)).trans e2) (q v (aj h▸Ai ρ v))
inductive vf{α:Type}(P:α->Prop):List α->Prop
 |nil:vf P []
 |cons{a:α}{l:List α}(h:P a)(r:vf P l):vf P (a::l)
theorem vf.out{α:Type}{P:α->Prop}{l:List α}(h:vf P l):∀p∈l,P p:=by
 induction h with
 |nil=>exact λp hp=>eN hp
 |cons h _ ih=>exact λp hp=>(aE.mp hp).elim (λe=>e▸h) (ih p)
noncomputable def rN(l:List (String×Nat)):List (ax×AV):=l.map λp=>(aa p.1,.val (.ref p.2))
noncomputable def bN(l:List String):List (ax×AV):=l.map λx=>(aa x,.val (.builtin x))
noncomputable def tN(l:List String):List (ax×AV):=l.map λx=>(aa x,.val (.type x))
noncomputable def YV:List (ax×AV):=[(aa "ONE_SIXTH",.flt 4595172819793696085),(aa "ONE_THIRD",.flt 4599676419421066581),(aa "TWO_THIRD",.flt 4604180019048437077)]++(rN [("_iter_escaped_chars",45),("_strip_quoted_realnames",52),("_check_parenthesis",59),("insort_right",68),("bisect_right",77),("insort_left",86),("bisect_left",95),("rgb_to_hls",102),("hls_to_rgb",109),("_v",116),("rgb_to_hsv",123),("hsv_to_rgb",130),("_name_disallowed_re",135),("_value_disallowed_re",140),("Headers",263),("_law_owner",274),("_law_nest",281),("_law_ends",286),("_law_marked",293),("_law_rule",298),("_law_worth",303),("_law_refused",310)]++(bN ["max","min","round","len","sum","sorted"]++tN ["int","str","list","range","zip","type","ValueError"]))
theorem Mw(w:gf):YV.map (λp=>ń w p.1)=YV.map (λp=>some p.2):=by kernel_rfl
theorem BR{A:dR}{x:ax}{a:AV}(h:YV.lookup x=some a)(hk:en.nk.lookup x=some .globalImplicit)(N:dC Γ ρ P en env)(R:bM Γ ρ P m H s)(q:∀v,db ρ a v->Q v s):aL (cJ w) A (rJ env x) Q E s:=
 TU (List.map_inj_left.mp (Mw w) _ (jd h)) hk N R q
noncomputable def we(u v:ar):Bool:=match u with
 |.ref a=>(match v with
  |.ref b=>aW a b
  |_=>false)
 |.builtin a=>(match v with
  |.builtin b=>a==b
  |_=>false)
 |.type a=>(match v with
  |.type b=>a==b
  |_=>false)
 |_=>false
theorem uC{u:ar}(h:we u v=true):u=v:=by
 cases u with
 |ref a=>
  cases v with
  |ref b=>exact congrArg _ (aZ h)
  |_=>exact bj h
 |builtin a=>
  cases v with
  |builtin b=>exact congrArg _ (bo h)
  |_=>exact bj h
 |type a=>
  cases v with
  |type b=>exact congrArg _ (bo h)
  |_=>exact bj h
 |_=>exact bj h
noncomputable def BS:List (ar×Sp)->ar->Option Sp
 |[],_=>none
 |p::r,v=>match we v p.1 with
  |true=>some p.2
  |false=>BS r v
theorem qO{v:ar}{f:Sp}:∀{l:List (ar×Sp)},BS l v=some f->(v,f)∈l
 |[],h=>aJ h
 |p::r,h=>by
  conv at h=>lhs;whnf
  cases e:we v p.1 with
  |true=>rw[e]at h;exact uC e▸aj h▸ah
  |false=>rw[e]at h;exact af _ (qO h)
def DC(fns:List (ar×Sp))(g:AV)(as:List AV)(ks:Nm)(H:Hp)(K:KV):Prop:=DG g λv=>aG (BS fns v) λsp=>sp as ks H K
noncomputable def oa(fns:List (ar×Sp))(ms:List (String×ax×ar))(ge:AV->Option (ax->List (Int×ax))):f6:=⟨λx=>YV.lookup x,λg as H K=>DC fns g as [] H K,λg as x a H K=>DC fns g as [(x,a)] H K,ms,ge,none⟩
noncomputable def Jv(fns:List (ar×Sp)):f6:=oa fns [] λz=>none
structure iA(Γ:Wk w mean mg mb)(p:ar×Sp):Prop where
 go:∀ρ P m H s Q E as vs ks kv K,p.2 as ks H K->bM Γ ρ P m H s->bB ρ as vs->cW ρ ks kv->Back Γ ρ P m K Q->aL (cJ w) Γ.A (bH p.1 vs kv) Q E s
 keep:gg w p.1=true
theorem mL(h:vf (iA Γ) fns){g:AV}{ks:Nm}(k:DC fns g as ks H K)(r:db ρ g v)(c:∀sp,iA Γ (v,sp)->sp as ks H K->C):C:=
 DG.el (C:=λv=>(∀sp,iA Γ (v,sp)->sp as ks H K->C)->C) k r (λu k c=>aG.el k λsp k e=>c sp (h.out _ (qO e)) k) c
theorem bM.inn(R:bM Γ ρ P m H s):(hp w.params).In s.heap:=R.run λz z F z z=>Γ.X.keeps F.keep
theorem dt(h:vf (iA Γ) fns)(h4:vf (λe=>rz Γ e.1 e.2.1 e.2.2) ms)(h5:∀g k,ge g=some k->wO Γ g k):cF Γ (oa fns ms ge):=
 ⟨λz z z z z z z z z z z e hk N R q=>BR e hk N R q,λρ P m H s Q E g as K v vs k R rg r b=>mL h k rg λsp o k=>o.go ρ P m H s Q E as vs [] [] K k R r .nil b,
  λρ P m H s Q E g as x a K v vs u k R rg r ra b=>mL h k rg λsp o k=>o.go ρ P m H s Q E as vs _ _ K k R r (.cons ra .nil) b,h4.out,h5,λρ P m H s g v as K k R r=>mL h k r λsp o z=>ki o.keep _ R.inn,λρ P m H s g v as x a K k R r=>mL h k r λsp o z=>ki o.keep _ R.inn,λz e=>aJ e⟩
theorem n8(h:vf (iA Γ) fns):cF Γ (Jv fns):=dt h .nil λz z e=>aJ e
theorem f7.sp{d:Nat}{f:aI}(h:f7 w mean mg mb d f spec)(hk:gg w (.ref f)=true)(hd:Γ.dp+d'<aP)(hu:Γ.un+8*d'<df)(hb:aN d d'=true):iA Γ (.ref f,spec):=
 ⟨λz z z z z z z z z z z z k R r rk b=>h _ _ _ _ _ _ _ _ _ _ _ _ _ (bh (aU (ae hb) _) hd) (bh (aU (g7 _ (ae hb)) _) hu) k R r rk b,hk⟩
end
section
set_option backward.match.sparseCases true
theorem Do{h₀ h':fk}{L:aI}{m:ax->Option ar}(F:Fr h₀ L h m)(k:∀b o,h.get? b=some o->h'.get? b=some o):Fr h₀ L h' m:=
 ⟨F.ns.keeps k,λb o e=>k b o (F.keep b o e),F.above⟩
theorem wo{h₀ h':fk}{L:aI}{news:gO}(N:dJ h₀ L h news)(k:∀b o,h.get? b=some o->h'.get? b=some o):dJ h₀ L h' news:=
 λp hp=>⟨k _ _ (N p hp).1,(N p hp).2⟩
noncomputable def Ft(a b:UInt64):Bool:=iG a b==some Ordering.gt
noncomputable def flt(a b:UInt64):Bool:=iG a b==some rM
noncomputable def fc(a b c:UInt64):UInt64:=if Ft b a then(if Ft c b then c else b)else(if Ft c a then c else a)
noncomputable def gY(a b c:UInt64):UInt64:=if flt b a then(if flt c b then c else b)else(if flt c a then c else a)
noncomputable def fK(xs:Array (UInt64×lP)):Array ar:=xs.map λp=>.float p.1 p.2
noncomputable def pv(xs:Array (UInt64×lP))(i:Nat):UInt64:=(xs[i]?.map (·.1)).getD 0
theorem wE{xs:Array (UInt64×lP)}(h:(fK xs)[i]? =some v):∃t,v= .float (pv xs i) t:=by
 simp only [fK,Array.getElem?_map,jC]at h;obtain⟨p,hp,rfl⟩:=h;exact⟨p.2,by simp [pv,hp]⟩
theorem UF{prog:eC}{w:gf}{A:dR}{P:Nat->ar->Prop}(val:Nat->UInt64)(hval:∀i v,P i v->∃t,v= .float (val i) t):
  CmpOf prog w A .Gt P (λi j=>Ft (val i) (val j)):=λi j vi vj s Q E hi hj h=>by
 obtain⟨t,rfl⟩:=hval i vi hi;obtain⟨u,rfl⟩:=hval j vj hj;exact AutoFloatOps.gt_0 h
theorem UE{prog:eC}{w:gf}{A:dR}{P:Nat->ar->Prop}(val:Nat->UInt64)(hval:∀i v,P i v->∃t,v= .float (val i) t):
  CmpOf prog w A .Lt P (λi j=>flt (val i) (val j)):=λi j vi vj s Q E hi hj h=>by
 obtain⟨t,rfl⟩:=hval i vi hi;obtain⟨u,rfl⟩:=hval j vj hj;exact w6 h
section
variable{prog:eC}
theorem zj{a b c:UInt64}{t u x:lP}{Q:ar->aC->Prop}(hh:A.handled=none)
  (h:∀h' tk tok,(∀d o,s.heap.get? d=some o->h'.get? d=some o)->Q (.float (fc a b c) tok) {s with heap:=h',toks:=tk}):
  aL (dc prog w) A (call (.builtin "max") [.float a t,.float b u,.float c x]) Q E s:=by
 have hT:(s.heap.push {cls:=.type "tuple",data:=.seq #[.float a t,.float b u,.float c x]}).IsTuple s.heap.objs.size (fK #[(a,t),(b,u),(c,x)]):=⟨_,bE _ rfl,rfl,0,by simp [fK]⟩;refine call_max_three (mV hT ?_);have hsz:(s.heap.push {cls:=.type "tuple",data:=.seq #[.float a t,.float b u,.float c x]}).objs.size=s.heap.objs.size+1:=fq ..;refine⟨_,[_,s.heap.objs.size],[_],_,_,_,_,rfl,tC (A:=A.in1) hh _ s.heap.objs.size (by rw[hsz];exact bc (bI _)) (fK #[(a,t),(b,u),(c,x)]),
  ⟨⟨_,bE _ rfl,rfl,rfl⟩,hT.push _⟩,λd hd=>?_,by simp [fK],UF (pv #[(a,t),(b,u),(c,x)]) (λz z=>wE),λv h' tk hP hk=>?_⟩
 ·show d<((s.heap.push _).push _).objs.size
  rw[fq,hsz];rcases aE.mp hd with rfl|hd
  ·rw[hsz];exact bI _
  ·rcases aE.mp hd with rfl|hd
   ·exact dF (bI _)
   ·exact eN hd
 ·have hold:∀d o,s.heap.get? d=some o->h'.get? d=some o:=λd o e=>by
   refine hk d o (λhm=>?_) (aR _ (aR _ e));rcases aE.mp hm with e1|hm
   ·have:=bw e;rw[e1,hsz]at this;exact dW _ (Jf this)
   ·exact eN hm
  have key:=λtok=>h h' tk tok hold
  have hP':(fK #[(a,t),(b,u),(c,x)])[ic (λi j=>Ft (pv #[(a,t),(b,u),(c,x)] i) (pv #[(a,t),(b,u),(c,x)] j)) 2]? =some v:=by
   have hsz2:(fK #[(a,t),(b,u),(c,x)]).size - 1=2:=by simp [fK]
   rw[<-hsz2];exact hP
  have hv:∃tok,v= .float (fc a b c) tok:=by
   cases hba:Ft b a
   ·cases hc:Ft c a
    ·have e:ic (λi j=>Ft (pv #[(a,t),(b,u),(c,x)] i) (pv #[(a,t),(b,u),(c,x)] j)) 2=0:=by simp [ic,pv,hba,hc]
     rw[e]at hP';exact⟨t,by simpa [fK,fc,hba,hc] using hP'.symm⟩
    ·have e:ic (λi j=>Ft (pv #[(a,t),(b,u),(c,x)] i) (pv #[(a,t),(b,u),(c,x)] j)) 2=2:=by simp [ic,pv,hba,hc]
     rw[e]at hP';exact⟨x,by simpa [fK,fc,hba,hc] using hP'.symm⟩
   ·cases hc:Ft c b
    ·have e:ic (λi j=>Ft (pv #[(a,t),(b,u),(c,x)] i) (pv #[(a,t),(b,u),(c,x)] j)) 2=1:=by simp [ic,pv,hba,hc]
     rw[e]at hP';exact⟨u,by simpa [fK,fc,hba,hc] using hP'.symm⟩
    ·have e:ic (λi j=>Ft (pv #[(a,t),(b,u),(c,x)] i) (pv #[(a,t),(b,u),(c,x)] j)) 2=2:=by simp [ic,pv,hba,hc]
     rw[e]at hP';exact⟨x,by simpa [fK,fc,hba,hc] using hP'.symm⟩
  obtain⟨tok,rfl⟩:=hv;exact key tok
theorem zi{a b c:UInt64}{t u x:lP}{Q:ar->aC->Prop}(hh:A.handled=none)
  (h:∀h' tk tok,(∀d o,s.heap.get? d=some o->h'.get? d=some o)->Q (.float (gY a b c) tok) {s with heap:=h',toks:=tk}):
  aL (dc prog w) A (call (.builtin "min") [.float a t,.float b u,.float c x]) Q E s:=by
 have hT:(s.heap.push {cls:=.type "tuple",data:=.seq #[.float a t,.float b u,.float c x]}).IsTuple s.heap.objs.size (fK #[(a,t),(b,u),(c,x)]):=⟨_,bE _ rfl,rfl,0,by simp [fK]⟩;refine call_min_three (mV hT ?_);have hsz:(s.heap.push {cls:=.type "tuple",data:=.seq #[.float a t,.float b u,.float c x]}).objs.size=s.heap.objs.size+1:=fq ..;refine⟨_,[_,s.heap.objs.size],[_],_,_,_,_,rfl,tC (A:=A.in1) hh _ s.heap.objs.size (by rw[hsz];exact bc (bI _)) (fK #[(a,t),(b,u),(c,x)]),
  ⟨⟨_,bE _ rfl,rfl,rfl⟩,hT.push _⟩,λd hd=>?_,by simp [fK],UE (pv #[(a,t),(b,u),(c,x)]) (λz z=>wE),λv h' tk hP hk=>?_⟩
 ·show d<((s.heap.push _).push _).objs.size
  rw[fq,hsz];rcases aE.mp hd with rfl|hd
  ·rw[hsz];exact bI _
  ·rcases aE.mp hd with rfl|hd
   ·exact dF (bI _)
   ·exact eN hd
 ·have hold:∀d o,s.heap.get? d=some o->h'.get? d=some o:=λd o e=>by
   refine hk d o (λhm=>?_) (aR _ (aR _ e));rcases aE.mp hm with e1|hm
   ·have:=bw e;rw[e1,hsz]at this;exact dW _ (Jf this)
   ·exact eN hm
  have key:=λtok=>h h' tk tok hold
  have hP':(fK #[(a,t),(b,u),(c,x)])[ic (λi j=>flt (pv #[(a,t),(b,u),(c,x)] i) (pv #[(a,t),(b,u),(c,x)] j)) 2]? =some v:=by
   have hsz2:(fK #[(a,t),(b,u),(c,x)]).size - 1=2:=by simp [fK]
   rw[<-hsz2];exact hP
  have hv:∃tok,v= .float (gY a b c) tok:=by
   cases hba:flt b a
   ·cases hc:flt c a
    ·have e:ic (λi j=>flt (pv #[(a,t),(b,u),(c,x)] i) (pv #[(a,t),(b,u),(c,x)] j)) 2=0:=by simp [ic,pv,hba,hc]
     rw[e]at hP';exact⟨t,by simpa [fK,gY,hba,hc] using hP'.symm⟩
    ·have e:ic (λi j=>flt (pv #[(a,t),(b,u),(c,x)] i) (pv #[(a,t),(b,u),(c,x)] j)) 2=2:=by simp [ic,pv,hba,hc]
     rw[e]at hP';exact⟨x,by simpa [fK,gY,hba,hc] using hP'.symm⟩
   ·cases hc:flt c b
    ·have e:ic (λi j=>flt (pv #[(a,t),(b,u),(c,x)] i) (pv #[(a,t),(b,u),(c,x)] j)) 2=1:=by simp [ic,pv,hba,hc]
     rw[e]at hP';exact⟨u,by simpa [fK,gY,hba,hc] using hP'.symm⟩
    ·have e:ic (λi j=>flt (pv #[(a,t),(b,u),(c,x)] i) (pv #[(a,t),(b,u),(c,x)] j)) 2=2:=by simp [ic,pv,hba,hc]
     rw[e]at hP';exact⟨x,by simpa [fK,gY,hba,hc] using hP'.symm⟩
  obtain⟨tok,rfl⟩:=hv;exact key tok
variable{m:ax->Option ar}{news:gO}
theorem W5{a b c:UInt64}{t u x:lP}{Q:ar->aC->Prop}(F:Fr h₀ L s.heap m)(N:dJ h₀ L s.heap news)(hh:A.handled=none)
  (h:∀h' tk tok,Fr h₀ L h' m->dJ h₀ L h' news->Q (.float (fc a b c) tok) {s with heap:=h',toks:=tk}):
  aL (dc prog w) A (call (.builtin "max") [.float a t,.float b u,.float c x]) Q E s:=
 zj hh λh' tk tok k=>h h' tk tok (Do F k) (wo N k)
theorem W4{a b c:UInt64}{t u x:lP}{Q:ar->aC->Prop}(F:Fr h₀ L s.heap m)(N:dJ h₀ L s.heap news)(hh:A.handled=none)
  (h:∀h' tk tok,Fr h₀ L h' m->dJ h₀ L h' news->Q (.float (gY a b c) tok) {s with heap:=h',toks:=tk}):
  aL (dc prog w) A (call (.builtin "min") [.float a t,.float b u,.float c x]) Q E s:=
 zi hh λh' tk tok k=>h h' tk tok (Do F k) (wo N k)
end
end
variable{kv:List (ax×ar)}
section
theorem WZ{x:UInt64}(h:dw x=true):¬Jm x=true:=λe=>by
 unfold Jm at e;unfold dw at h
 split at h<;>simp_all
theorem X3{x:UInt64}(h:dw x=true):¬cM x=true:=λe=>by
 unfold cM at e;unfold dw at h
 split at h<;>simp_all
noncomputable def jq(f:List AV->Hp->KV->Prop):Sp:=λas ks H K=>match ks with
 |[]=>f as H K
 |_::_=>False
theorem jq.el{f:List AV->Hp->KV->Prop}{ks:Nm}{C:List (ax×ar)->Prop}(h:jq f as ks H K)(r:cW ρ ks kv)(k:f as H K->C []):C kv:=by
 induction r with
 |nil=>exact k h
 |cons=>exact h.elim
theorem iA.of{f:List AV->Hp->KV->Prop}(keep:gg w v=true)(go:∀ρ P m H s Q E as vs K,f as H K->bM Γ ρ P m H s->bB ρ as vs->Back Γ ρ P m K Q->aL (cJ w) Γ.A (bH v vs []) Q E s):iA Γ (v,jq f):=
 ⟨λρ P m H s Q E as vs ks kv K h R r rk b=>jq.el (C:=λkv=>aL (cJ w) Γ.A (bH v vs kv) Q E s) h rk λh=>go ρ P m H s Q E as vs K h R r b,keep⟩
def f3(f:UInt64->UInt64->UInt64->Hp->KV->Prop)(as:List AV)(H:Hp)(K:KV):Prop:=IV as λa b c=>v5 a λx=>v5 b λy=>v5 c λz=>f x y z H K
@[elab_as_elim] theorem f3.el{f:UInt64->UInt64->UInt64->Hp->KV->Prop}{C:List ar->Prop}(h:f3 f as H K)(r:bB ρ as vs)(k:∀x t y u z v,f x y z H K->C [.float x t,.float y u,.float z v]):C vs:=
 IV.el h r λa va b vb c vc h ra rb rc=>v5.el (C:=λva=>C [va,vb,vc]) h ra λx t h=>v5.el (C:=λvb=>C [.float x t,vb,vc]) h rb λy u h=>v5.el (C:=λvc=>C [.float x t,.float y u,vc]) h rc λz v h=>k x t y u z v h
def K7(a:AV)(H:Hp)(K:KV):Prop:=match a with
 |.ref n=>aG (cH fG H n) λxs=>((xs.length:Int)<2^63)∧K (.int xs.length) H
 |.str x=>((x.length:Int)<2^63)∧K (.int x.length) H
 |_=>False
noncomputable def sM:Sp:=jq λas H K=>lY as λa=>K7 a H K
noncomputable def Ho:Sp:=jq (f3 λx y z H K=>K (.flt (fc x y z)) H)
noncomputable def Hj:Sp:=jq (f3 λx y z H K=>K (.flt (gY x y z)) H)
noncomputable def EB(x:UInt64):Int:=Flt.toInt Float64.truncOf x
noncomputable def č(x:UInt64):Int:=Flt.toInt Float64.nearestOf x
noncomputable def CT:Sp:=jq λas H K=>lY as λa=>v5 a λx=>dw x=true∧K (.int (č x)) H
theorem pP:iA Γ (.builtin "len",sM):=.of rfl λρ P m H s Q E as vs K h R r b=>
 lY.el h r λa v h ra=>by
  induction ra with
  |ref n c hc=>
   refine aG.el h λxs h e=>R.list hc e λvs r l=>?_
   have e2:vs.toArray.size=xs.length:=b9.trans r.len;refine call_len_list l (by rw[e2];exact h.1) ?_;rw[e2];exact b.new R (.int _ _) h.2 _
  |str x t=>exact SBL.len h.1 (b.new R (.int _ _) h.2 _)
  |_=>exact h.elim
theorem Hn:iA Γ (.builtin "max",Ho):=.of rfl λρ P m H s Q E as vs K h R r b=>f3.el h r λx t y u z v h=>R.run λmm l F N fin=>W5 F N rfl λh' tk tok F' N'=>b.put (dg.refl ρ) (.flt _ _) (fin _ _ F' N') h
theorem Hi:iA Γ (.builtin "min",Hj):=.of rfl λρ P m H s Q E as vs K h R r b=>f3.el h r λx t y u z v h=>R.run λmm l F N fin=>W4 F N rfl λh' tk tok F' N'=>b.put (dg.refl ρ) (.flt _ _) (fin _ _ F' N') h
theorem GH:iA Γ (.builtin "round",CT):=.of rfl λρ P m H s Q E as vs K h R r b=>lY.el h r λa v h ra=>v5.el h ra λx t h=>Flt.call_round_float rfl (λe=>(WZ h.1 e).elim) (λe=>(X3 h.1 e).elim) λz=>b.new R (.int _ _) h.2 _
end
section
@[elab_as_elim] theorem eH{α:Type}{C:List α->Prop}{vs:List α}(h:vs.length=n+1)(k:∀a r,r.length=n->C (a::r)):C vs:=by
 cases vs with
 |nil=>exact(hK n h.symm).elim
 |cons a r=>exact k a r (jp h)
@[elab_as_elim] theorem kL{α:Type}{C:List α->Prop}{vs:List α}(h:vs.length=0)(k:C []):C vs:=by
 cases vs with
 |nil=>exact k
 |cons a r=>exact(hK _ h).elim
@[elab_as_elim] theorem Fv.is{K:Prop}{C:List AV->Prop}(h:Fv as K)(k:K->C []):C as:=by
 cases as with
 |nil=>exact k h
 |cons=>exact h.elim
@[elab_as_elim] theorem lY.is{K:AV->Prop}{C:List AV->Prop}(h:lY as K)(k:∀a,K a->C [a]):C as:=by
 cases as with
 |nil=>exact h.elim
 |cons a r=>exact Fv.is (C:=λr=>C (a::r)) h (k a)
@[elab_as_elim] theorem u8.is{K:AV->AV->Prop}{C:List AV->Prop}(h:u8 as K)(k:∀a b,K a b->C [a,b]):C as:=by
 cases as with
 |nil=>exact h.elim
 |cons a r=>exact lY.is (C:=λr=>C (a::r)) h (k a)
@[elab_as_elim] theorem IV.is{K:AV->AV->AV->Prop}{C:List AV->Prop}(h:IV as K)(k:∀a b c,K a b c->C [a,b,c]):C as:=by
 cases as with
 |nil=>exact h.elim
 |cons a r=>exact u8.is (C:=λr=>C (a::r)) h (k a)
@[elab_as_elim] theorem lB.is{a:AV}{K:Int->Prop}{C:AV->Prop}(h:lB a K)(k:∀x,K x->C (.int x)):C a:=by
 cases a with
 |int x=>exact k x h
 |_=>exact h.elim
@[elab_as_elim] theorem kE.is{a:AV}{K:ax->Prop}{C:AV->Prop}(h:kE a K)(k:∀x,K x->C (.str x)):C a:=by
 cases a with
 |str x=>exact k x h
 |_=>exact h.elim
@[elab_as_elim] theorem v5.is{a:AV}{K:UInt64->Prop}{C:AV->Prop}(h:v5 a K)(k:∀x,K x->C (.flt x)):C a:=by
 cases a with
 |flt x=>exact k x h
 |_=>exact h.elim
@[elab_as_elim] theorem jY.is{a:AV}{K:Nat->Prop}{C:AV->Prop}(h:jY a K)(k:∀x,K x->C (.ref x)):C a:=by
 cases a with
 |ref x=>exact k x h
 |_=>exact h.elim
@[elab_as_elim] theorem f3.is{f:UInt64->UInt64->UInt64->Hp->KV->Prop}{H:Hp}{K:KV}{C:List AV->Prop}(h:f3 f as H K)(k:∀x y z,f x y z H K->C [.flt x,.flt y,.flt z]):C as:=
 IV.is h λa b c h=>v5.is (C:=λa=>C [a,b,c]) h λx h=>v5.is (C:=λb=>C [.flt x,b,c]) h λy h=>v5.is (C:=λc=>C [.flt x,.flt y,c]) h λz h=>k x y z h
theorem bB.zip{ρ:List aI}(h:bB ρ as vs):∀xs:List ax,cW ρ (xs.zip as) (xs.zip vs):=by
 induction h with
 |nil=>exact λxs=>by cases xs<;>exact .nil
 |cons h _ ih=>exact λxs=>by cases xs with
  |nil=>exact .nil
  |cons x xs=>exact .cons h (ih xs)
noncomputable def qY(n:Nat)(xs:List ax)(dA:Nm)(as:List AV)(ks:Nm):Option Nm:=match ks with
 |[]=>(match aW as.length n with
  |true=>some (xs.zip as++dA)
  |false=>none)
 |_::_=>none
theorem qW{fd:FuncData}{xs:List ax}{dA:Nm}{dS:List (ax×ar)}(hD:∀ρ,cW ρ dA dS)(hb:∀(s:aC)(vs:List ar),(hp w.params).In s.heap->vs.length=xs.length->iX s fd ⟨vs,[]⟩ (xs.zip vs++dS)){s:aC}{ρ:List aI}{ks:Nm}(X:(hp w.params).In s.heap)(r:bB ρ as vs)(rk:cW ρ ks kv)(e:qY xs.length xs dA as ks=some nv):nv.map (·.1)=xs++dA.map (·.1)∧∃bs,iX s fd ⟨vs,kv⟩ bs∧cW ρ nv bs:=by
 unfold qY at e;induction rk with
 |cons=>exact aJ e
 |nil=>
  cases hl:aW as.length xs.length with
  |false=>rw[hl]at e;exact aJ e
  |true=>
   rw[hl]at e;obtain rfl:=aj e;have hl:=aZ hl;exact⟨by rw[b6,tF (bP hl.symm)],_,hb s vs X (r.len.trans hl),(r.zip xs).app (hD ρ)⟩
theorem pU{d:Nat}{f:aI}{nm:ax}{st:cP}{dV:ar}{c:Nat}{F:List AV->Hp->KV->Prop}(k:Nat)(xs:List ax)(dA:Nm)(dS:List (ax×ar))(hD:∀ρ,cW ρ dA dS)(ho:(hp w.params).lookup f=some (fO nm qn (fA st) (fB st) (fS st) dV kV pm pt c))(hcd:dP (hp w.params) (.ref c) qn=true)(hs:sb (fS st) (xs++dA.map (·.1))=true)(hc:cj (fS st).names=[])
  (hb:∀(s:aC)(vs:List ar),(hp w.params).In s.heap->vs.length=xs.length->iX s (ul nm qn (fA st) (fB st) (fS st) dV kV .none (.str pm pt) none (.ref c) .none) ⟨vs,[]⟩ (xs.zip vs++dS))
  (hT:∀Γ:Wk w mean mg mb,Γ.dp+(d+1)<aP->Γ.un+8*(d+1)<df->cF Γ T)
  (main:∀as H K,F as H K->as.length=xs.length∧cg ⟨(fS st).names,[],none⟩ T k (fB st) (hW (fS st).names (xs.zip as++dA)) H (dT K)):f7 w mean mg mb (d+2) f (jq F):=
 (Ib k (xs++dA.map (·.1)) (qY xs.length xs dA) ho hcd hs hc (λX r rk e=>qW hD hb X r rk e) hT).mono λas ks H K h=>by
  cases ks with
  |cons=>exact h.elim
  |nil=>
   have m:=main as H K h;refine aw (x:=xs.zip as++dA) ?_ m.2;unfold qY;rw[m.1,nR]
theorem sa{d:Nat}{f:aI}{nm:ax}{st:cP}{dV:ar}{c:Nat}{F:List AV->Hp->KV->Prop}(k:Nat)(xs:List ax)(dA:Nm)(dS:List (ax×ar))(hD:∀ρ,cW ρ dA dS)(ho:(hp w.params).lookup f=some (fO nm qn (fA st) (fB st) (fS st) dV kV pm pt c))(hcd:dP (hp w.params) (.ref c) qn=true)(hs:sb (fS st) (xs++dA.map (·.1))=true)(hc:cj (fS st).names=[])
  (hb:∀(s:aC)(vs:List ar),(hp w.params).In s.heap->vs.length=xs.length->iX s (ul nm qn (fA st) (fB st) (fS st) dV kV .none (.str pm pt) none (.ref c) .none) ⟨vs,[]⟩ (xs.zip vs++dS))
  (hT:∀Γ:Wk w mean mg mb,Γ.dp+(d+1)<aP->Γ.un+8*(d+1)<df->cF Γ T)
  (main:∀as H K,F as H K->as.length=xs.length∧cg ⟨(fS st).names,[],none⟩ T k (fB st) (hW (fS st).names (xs.zip as++dA)) H (dT (lI H K))):f7 w mean mg mb (d+2) f (jq F):=
 (pU (F:=λas H K=>as.length=xs.length∧cg ⟨(fS st).names,[],none⟩ T k (fB st) (hW (fS st).names (xs.zip as++dA)) H (dT K)) k xs dA dS hD ho hcd hs hc hb hT λz z z h=>h).bare.mono λas ks H K h=>by
  cases ks with
  |cons=>exact h.elim
  |nil=>exact main as H K h
theorem lI.now{a:AV}(k:K a H)(s:scal a=true):lI H K a H:=.one H [] (be _).symm (.refl H) s k
theorem lI.made{o:AO}(k:K (.ref H.length) (H++[o]))(wf:∀ρ,s4 ρ o):lI H K (.ref H.length) (H++[o]):=.new H [o] o H.length rfl (.refl H) rfl bA (bF _) wf k
theorem kc{P:Prop}(p:P)(e:G=P):G:=e▸p
end
section
set_option backward.match.sparseCases true
theorem ļ:(hp w.params).lookup 52=some (fO (q "_strip_quoted_realnames") (q "_strip_quoted_realnames") (fA (mS 4)) (fB (mS 4)) (fS (mS 4)) (.none) (.none) (q "cpy313.email.utils") 289 51):=by kernel_rfl
theorem ł:dP (hp w.params) (.ref 51) (q "_strip_quoted_realnames")=true:=by kernel_rfl
theorem XF:gg w (.ref 52)=true:=(by kernel_rfl:gi (hp w.params) (.ref 52)=true)
theorem Ļ:(hp w.params).lookup 59=some (fO (q "_check_parenthesis") (q "_check_parenthesis") (fA (mS 5)) (fB (mS 5)) (fS (mS 5)) (.none) (.none) (q "cpy313.email.utils") 289 58):=by kernel_rfl
theorem Ł:dP (hp w.params) (.ref 58) (q "_check_parenthesis")=true:=by kernel_rfl
theorem Ta:gg w (.ref 59)=true:=(by kernel_rfl:gi (hp w.params) (.ref 59)=true)
theorem ĺ:(hp w.params).lookup 68=some (fO (q "insort_right") (q "insort_right") (fA (mS 7)) (fB (mS 7)) (fS (mS 7)) (.ref 60) (.ref 61) (q "cpy313.bisect") 323 67):=by kernel_rfl
theorem ŀ:dP (hp w.params) (.ref 67) (q "insort_right")=true:=by kernel_rfl
theorem Ĵ:gg w (.ref 68)=true:=(by kernel_rfl:gi (hp w.params) (.ref 68)=true)
theorem TA:(hp w.params).lookup 77=some (fO (q "bisect_right") (q "bisect_right") (fA (mS 8)) (fB (mS 8)) (fS (mS 8)) (.ref 69) (.ref 70) (q "cpy313.bisect") 323 76):=by kernel_rfl
theorem TK:dP (hp w.params) (.ref 76) (q "bisect_right")=true:=by kernel_rfl
theorem HH:gg w (.ref 77)=true:=(by kernel_rfl:gi (hp w.params) (.ref 77)=true)
theorem Ĺ:(hp w.params).lookup 86=some (fO (q "insort_left") (q "insort_left") (fA (mS 9)) (fB (mS 9)) (fS (mS 9)) (.ref 78) (.ref 79) (q "cpy313.bisect") 323 85):=by kernel_rfl
theorem Ŀ:dP (hp w.params) (.ref 85) (q "insort_left")=true:=by kernel_rfl
theorem ĳ:gg w (.ref 86)=true:=(by kernel_rfl:gi (hp w.params) (.ref 86)=true)
theorem Mr:(hp w.params).lookup 95=some (fO (q "bisect_left") (q "bisect_left") (fA (mS 10)) (fB (mS 10)) (fS (mS 10)) (.ref 87) (.ref 88) (q "cpy313.bisect") 323 94):=by kernel_rfl
theorem Mt:dP (hp w.params) (.ref 94) (q "bisect_left")=true:=by kernel_rfl
theorem Eu:gg w (.ref 95)=true:=(by kernel_rfl:gi (hp w.params) (.ref 95)=true)
theorem Yu:(hp w.params).lookup 102=some (fO (q "rgb_to_hls") (q "rgb_to_hls") (fA (mS 15)) (fB (mS 15)) (fS (mS 15)) (.none) (.none) (q "cpy313.colorsys") 379 101):=by kernel_rfl
theorem YN:dP (hp w.params) (.ref 101) (q "rgb_to_hls")=true:=by kernel_rfl
theorem XU:gg w (.ref 102)=true:=(by kernel_rfl:gi (hp w.params) (.ref 102)=true)
theorem Yt:(hp w.params).lookup 109=some (fO (q "hls_to_rgb") (q "hls_to_rgb") (fA (mS 16)) (fB (mS 16)) (fS (mS 16)) (.none) (.none) (q "cpy313.colorsys") 379 108):=by kernel_rfl
theorem YM:dP (hp w.params) (.ref 108) (q "hls_to_rgb")=true:=by kernel_rfl
theorem XT:gg w (.ref 109)=true:=(by kernel_rfl:gi (hp w.params) (.ref 109)=true)
theorem Ys:(hp w.params).lookup 116=some (fO (q "_v") (q "_v") (fA (mS 17)) (fB (mS 17)) (fS (mS 17)) (.none) (.none) (q "cpy313.colorsys") 379 115):=by kernel_rfl
theorem YL:dP (hp w.params) (.ref 115) (q "_v")=true:=by kernel_rfl
theorem XS:gg w (.ref 116)=true:=(by kernel_rfl:gi (hp w.params) (.ref 116)=true)
theorem Yr:(hp w.params).lookup 123=some (fO (q "rgb_to_hsv") (q "rgb_to_hsv") (fA (mS 18)) (fB (mS 18)) (fS (mS 18)) (.none) (.none) (q "cpy313.colorsys") 379 122):=by kernel_rfl
theorem YK:dP (hp w.params) (.ref 122) (q "rgb_to_hsv")=true:=by kernel_rfl
theorem XR:gg w (.ref 123)=true:=(by kernel_rfl:gi (hp w.params) (.ref 123)=true)
theorem Yq:(hp w.params).lookup 130=some (fO (q "hsv_to_rgb") (q "hsv_to_rgb") (fA (mS 19)) (fB (mS 19)) (fS (mS 19)) (.none) (.none) (q "cpy313.colorsys") 379 129):=by kernel_rfl
theorem YJ:dP (hp w.params) (.ref 129) (q "hsv_to_rgb")=true:=by kernel_rfl
theorem XQ:gg w (.ref 130)=true:=(by kernel_rfl:gi (hp w.params) (.ref 130)=true)
theorem Ym:(hp w.params).lookup 274=some (fO (q "_law_owner") (q "_law_owner") (fA (mS 25)) (fB (mS 25)) (fS (mS 25)) (.none) (.none) (q "law_ti0074_01") 683 273):=by kernel_rfl
theorem YF:dP (hp w.params) (.ref 273) (q "_law_owner")=true:=by kernel_rfl
theorem XM:gg w (.ref 274)=true:=(by kernel_rfl:gi (hp w.params) (.ref 274)=true)
theorem Yl:(hp w.params).lookup 281=some (fO (q "_law_nest") (q "_law_nest") (fA (mS 26)) (fB (mS 26)) (fS (mS 26)) (.none) (.none) (q "law_ti0074_01") 683 280):=by kernel_rfl
theorem YE:dP (hp w.params) (.ref 280) (q "_law_nest")=true:=by kernel_rfl
theorem HJ:gg w (.ref 281)=true:=(by kernel_rfl:gi (hp w.params) (.ref 281)=true)
theorem Yk:(hp w.params).lookup 286=some (fO (q "_law_ends") (q "_law_ends") (fA (mS 27)) (fB (mS 27)) (fS (mS 27)) (.none) (.none) (q "law_ti0074_01") 683 285):=by kernel_rfl
theorem YD:dP (hp w.params) (.ref 285) (q "_law_ends")=true:=by kernel_rfl
theorem XK:gg w (.ref 286)=true:=(by kernel_rfl:gi (hp w.params) (.ref 286)=true)
theorem Yj:(hp w.params).lookup 293=some (fO (q "_law_marked") (q "_law_marked") (fA (mS 28)) (fB (mS 28)) (fS (mS 28)) (.none) (.none) (q "law_ti0074_01") 683 292):=by kernel_rfl
theorem YC:dP (hp w.params) (.ref 292) (q "_law_marked")=true:=by kernel_rfl
theorem XJ:gg w (.ref 293)=true:=(by kernel_rfl:gi (hp w.params) (.ref 293)=true)
theorem Yi:(hp w.params).lookup 298=some (fO (q "_law_rule") (q "_law_rule") (fA (mS 29)) (fB (mS 29)) (fS (mS 29)) (.none) (.none) (q "law_ti0074_01") 683 297):=by kernel_rfl
theorem YB:dP (hp w.params) (.ref 297) (q "_law_rule")=true:=by kernel_rfl
theorem XI:gg w (.ref 298)=true:=(by kernel_rfl:gi (hp w.params) (.ref 298)=true)
end
section
noncomputable abbrev Fu(a b:UInt64):Bool:=iG a b==some fH
noncomputable abbrev ã(a b:UInt64):Bool:=iG a b==some rM||iG a b==some fH
noncomputable def Fs(x:UInt64):UInt64:=(kX x 4607182418800017408).2
noncomputable def vF(m1 m2 hue:UInt64):UInt64:=bif flt (Fs hue) 4595172819793696085 then bQ m1 (bG (bG (aY m2 m1) (Fs hue)) 4618441417868443648)else bif flt (Fs hue) 4602678819172646912 then m2 else bif flt (Fs hue) 4604180019048437077 then bQ m1 (bG (bG (aY m2 m1) (aY 4604180019048437077 (Fs hue))) 4618441417868443648)else m1
theorem Br.of{α:Type}{k:α->Prop}{c:Bool}{a b:α}(h:k (bif c then a else b)):Br c (k a) (k b):=by
 cases c with
 |true=>exact⟨λz=>h,λe=>bj e.symm⟩
 |false=>exact⟨λe=>bj e,λz=>h⟩
theorem Br.el{c:Bool}{P Q P' Q':Prop}(h:Br c P Q)(f:P->P')(g:Q->Q'):Br c P' Q':=⟨λe=>f (h.yes e),λe=>g (h.no e)⟩
def vK(m1 m2 hue:UInt64)(k:UInt64->Prop):Prop:=cI 4607182418800017408=false∧Br (flt (Fs hue) 4595172819793696085) (k (bQ m1 (bG (bG (aY m2 m1) (Fs hue)) 4618441417868443648))) (Br (flt (Fs hue) 4602678819172646912) (k m2) (Br (flt (Fs hue) 4604180019048437077) (k (bQ m1 (bG (bG (aY m2 m1) (aY 4604180019048437077 (Fs hue))) 4618441417868443648))) (k m1)))
theorem VZ{m1 m2 hue:UInt64}{k:UInt64->Prop}(h:k (vF m1 m2 hue)):vK m1 m2 hue k:=⟨by kernel_rfl,(Br.of h).el id λh=>(Br.of h).el id λh=>Br.of h⟩
noncomputable def ų:Sp:=jq (f3 λa b c H K=>K (.flt (vF a b c)) H)
abbrev F3:=UInt64×UInt64×UInt64
def K3(K:KV)(H:Hp)(x:F3):Prop:=K (.ref H.length) (H++[.tup [.flt x.1,.flt x.2.1,.flt x.2.2]])
def R3(H:Hp)(K:KV)(x:F3):Prop:=3<=aF∧K3 (lI H K) H x
theorem R3.of{x:F3}(k:K3 K H x):R3 H K x:=⟨ae rfl,.made k λρ=>⟨[.float x.1 0,.float x.2.1 0,.float x.2.2 0],.cons (.flt _ _) (.cons (.flt _ _) (.cons (.flt _ _) .nil))⟩⟩
theorem YZ{d:Nat}{f:aI}{nm:ax}{st:cP}{c:Nat}{F:UInt64->UInt64->UInt64->Hp->KV->Prop}(x y z:ax)(ho:(hp w.params).lookup f=some (fO nm qn (fA st) (fB st) (fS st) .none .none pm pt c))(hcd:dP (hp w.params) (.ref c) qn=true)(hs:(sb (fS st) [x,y,z],cj (fS st).names)=(true,[]))(hb:∀a b d:ar,vG (ul nm qn (fA st) (fB st) (fS st) .none .none .none (.str pm pt) none (.ref c) .none) ⟨[a,b,d],[]⟩=pure [(x,a),(y,b),(z,d)])
  (hT:∀Γ:Wk w mean mg mb,Γ.dp+(d+1)<aP->Γ.un+8*(d+1)<df->cF Γ T)(main:∀a b c H K,F a b c H K->cg ⟨(fS st).names,[],none⟩ T 8 (fB st) (hW (fS st).names [(x,.flt a),(y,.flt b),(z,.flt c)]) H (dT (lI H K))):f7 w mean mg mb (d+2) f (jq (f3 F)):=
 sa 8 [x,y,z] [] [] (λv=>.nil) ho hcd (congrArg (·.1) hs) (congrArg (·.2) hs) (λs vs X h=>eH h λa r h=>eH h λb r h=>eH h λc r h=>kL h (dz (hb a b c))) hT λas H K h=>f3.is h λa b c h=>⟨rfl,main a b c H K h⟩
theorem ù:f7 w mean mg mb 2 116 ų:=YZ (T:=Jv []) (aa "m1") (aa "m2") (aa "hue") Ys YL (by kernel_rfl) (λv v v=>by kernel_rfl) (λΓ hd hu=>n8 .nil) λx y z H K h=>kc (VZ (k:=λr=>lI H K (.flt r) H) (.now h rfl)) (by kernel_rfl)
noncomputable def Yv(h l m2:UInt64):F3:=(vF (aY (bG 4611686018427387904 l) m2) m2 (bQ h 4599676419421066581),vF (aY (bG 4611686018427387904 l) m2) m2 h,vF (aY (bG 4611686018427387904 l) m2) m2 (aY h 4599676419421066581))
noncomputable def Jy(h l s:UInt64):F3:=bif Fu s 0 then(l,l,l)else bif ã l 4602678819172646912 then Yv h l (bG l (bQ 4607182418800017408 s))else Yv h l (aY (bQ l s) (bG l s))
def Ľ(h l s:UInt64)(k:F3->Prop):Prop:=Br (Fu s 0) (k (l,l,l)) (Br (ã l 4602678819172646912) (k (Yv h l (bG l (bQ 4607182418800017408 s)))) (k (Yv h l (aY (bQ l s) (bG l s)))))
noncomputable def OR:Sp:=jq (f3 λa b c H K=>K3 K H (Jy a b c))
theorem TC:f7 w mean mg mb 3 109 OR:=YZ (T:=Jv [(.ref 116,ų)]) (aa "h") (aa "l") (aa "s") Yt YM (by kernel_rfl) (λz z z=>by kernel_rfl) (λΓ hd hu=>n8 (.cons (ù.sp XS hd hu rfl) .nil)) λa b c H K h=>kc (P:=Ľ a b c (R3 H K)) ((Br.of (R3.of h)).el id λh=>Br.of h) (by kernel_rfl)
theorem Brn.of{α:Type}{k:α->Prop}{c:Bool}{a b:Option α}(h:aG (bif c then a else b) k):Br c (aG a k) (aG b k):=Br.of (k:=λo=>aG o k) h
theorem oG{α:Type}{c:Bool}{o:Option α}{K:α->Prop}(h:aG (bif c then none else o) K):c=false∧aG o K:=by
 cases c with
 |true=>exact h.elim
 |false=>exact⟨rfl,h⟩
noncomputable def ED(h:UInt64):UInt64:=(kX (bK h 4618441417868443648) 4607182418800017408).2
noncomputable def wB(r g b maxc rangec:UInt64):Option UInt64:=bif cI rangec then none else some (bif Fu r maxc then ED (aY (bK (aY maxc b) rangec) (bK (aY maxc g) rangec))else bif Fu g maxc then ED (aY (bQ 4611686018427387904 (bK (aY maxc r) rangec)) (bK (aY maxc b) rangec))else ED (aY (bQ 4616189618054758400 (bK (aY maxc g) rangec)) (bK (aY maxc r) rangec)))
def Mq(h:UInt64)(k:UInt64->Prop):Prop:=cI 4618441417868443648=false∧cI 4607182418800017408=false∧k (ED h)
def Mp(r g b maxc rangec:UInt64)(k:UInt64->Prop):Prop:=cI rangec=false∧cI rangec=false∧cI rangec=false∧Br (Fu r maxc) (Mq (aY (bK (aY maxc b) rangec) (bK (aY maxc g) rangec)) k) (Br (Fu g maxc) (Mq (aY (bQ 4611686018427387904 (bK (aY maxc r) rangec)) (bK (aY maxc b) rangec)) k) (Mq (aY (bQ 4616189618054758400 (bK (aY maxc g) rangec)) (bK (aY maxc r) rangec)) k))
theorem xV{r g b maxc rangec:UInt64}{k:UInt64->Prop}(h:aG (wB r g b maxc rangec) k):Mp r g b maxc rangec k:=
 have e:∀{h},k (ED h)->Mq h k:=λh=>⟨by kernel_rfl,by kernel_rfl,h⟩
 have z:=oG h
 ⟨z.1,z.1,z.1,(Br.of (k:=k) z.2).el e λh=>(Br.of h).el e e⟩
noncomputable def zH(r g b:UInt64):Option F3:=
 bif Fu (gY r g b) (fc r g b)then some (0,bK (bQ (fc r g b) (gY r g b)) 4611686018427387904,0)else
 bif ã (bK (bQ (fc r g b) (gY r g b)) 4611686018427387904) 4602678819172646912 then
  bif cI (bQ (fc r g b) (gY r g b))then none else
  (wB r g b (fc r g b) (aY (fc r g b) (gY r g b))).map λh=>(h,bK (bQ (fc r g b) (gY r g b)) 4611686018427387904,bK (aY (fc r g b) (gY r g b)) (bQ (fc r g b) (gY r g b)))
 else bif cI (aY (aY 4611686018427387904 (fc r g b)) (gY r g b))then none else
  (wB r g b (fc r g b) (aY (fc r g b) (gY r g b))).map λh=>(h,bK (bQ (fc r g b) (gY r g b)) 4611686018427387904,bK (aY (fc r g b) (gY r g b)) (aY (aY 4611686018427387904 (fc r g b)) (gY r g b)))
def TF(r g b:UInt64)(k:F3->Prop):Prop:=
 cI 4611686018427387904=false∧Br (Fu (gY r g b) (fc r g b)) (k (0,bK (bQ (fc r g b) (gY r g b)) 4611686018427387904,0)) (
 Br (ã (bK (bQ (fc r g b) (gY r g b)) 4611686018427387904) 4602678819172646912)
  (cI (bQ (fc r g b) (gY r g b))=false∧
  Mp r g b (fc r g b) (aY (fc r g b) (gY r g b)) λh=>k (h,bK (bQ (fc r g b) (gY r g b)) 4611686018427387904,bK (aY (fc r g b) (gY r g b)) (bQ (fc r g b) (gY r g b))))
  (cI (aY (aY 4611686018427387904 (fc r g b)) (gY r g b))=false∧
  Mp r g b (fc r g b) (aY (fc r g b) (gY r g b)) λh=>k (h,bK (bQ (fc r g b) (gY r g b)) 4611686018427387904,bK (aY (fc r g b) (gY r g b)) (aY (aY 4611686018427387904 (fc r g b)) (gY r g b)))))
theorem uJ{α:Type}{f:α->β}{o:Option α}{K:β->Prop}(h:aG (o.map f) K):aG o λx=>K (f x):=by
 cases o with
 |none=>exact h.elim
 |some x=>exact h
theorem aG.imp{α:Type}{o:Option α}{K K':α->Prop}(h:aG o K)(f:∀x,K x->K' x):aG o K':=by
 cases o with
 |none=>exact h.elim
 |some x=>exact f x h
noncomputable def Dl:Sp:=jq (f3 λa b c H K=>aG (zH a b c) (K3 K H))
theorem H0:f7 w mean mg mb 2 102 Dl:=YZ (T:=Jv [(.builtin "max",Ho),(.builtin "min",Hj)]) (aa "r") (aa "g") (aa "b") Yu YN (by kernel_rfl) (λz z z=>by kernel_rfl) (λΓ hd hu=>n8 (.cons Hn (.cons Hi .nil))) λa b c H K h=>kc (P:=TF a b c (R3 H K)) ⟨by kernel_rfl,(Brn.of (h.imp λx=>R3.of)).el id λh=>(Brn.of h).el (λh=>(oG h).imp id λh=>xV (uJ h)) λh=>(oG h).imp id λh=>xV (uJ h)⟩ (by kernel_rfl)
noncomputable def zF(r g b:UInt64):Option F3:=bif Fu (gY r g b) (fc r g b)then some (0,0,fc r g b)else bif cI (fc r g b)then none else(wB r g b (fc r g b) (aY (fc r g b) (gY r g b))).map λh=>(h,bK (aY (fc r g b) (gY r g b)) (fc r g b),fc r g b)
def Tw(r g b:UInt64)(k:F3->Prop):Prop:=Br (Fu (gY r g b) (fc r g b)) (k (0,0,fc r g b)) (cI (fc r g b)=false∧Mp r g b (fc r g b) (aY (fc r g b) (gY r g b)) λh=>k (h,bK (aY (fc r g b) (gY r g b)) (fc r g b),fc r g b))
noncomputable def Dk:Sp:=jq (f3 λa b c H K=>aG (zF a b c) (K3 K H))
theorem HW:f7 w mean mg mb 2 123 Dk:=YZ (T:=Jv [(.builtin "max",Ho),(.builtin "min",Hj)]) (aa "r") (aa "g") (aa "b") Yr YK (by kernel_rfl) (λz z z=>by kernel_rfl) (λΓ hd hu=>n8 (.cons Hn (.cons Hi .nil))) λa b c H K h=>kc (P:=Tw a b c (R3 H K)) ((Brn.of (h.imp λx=>R3.of)).el id λh=>(oG h).imp id λh=>xV (uJ h)) (by kernel_rfl)
end
section
noncomputable def OH:Sp:=jq λas H K=>lY as λa=>v5 a λx=>dw x=true∧K (.int (EB x)) H
theorem Th:iA Γ (.type "int",OH):=.of rfl λρ P m H s Q E as vs K h R r b=>lY.el h r λa v h ra=>v5.el h ra λx t h=>Flt.call_int_float3 rfl (λe=>(WZ h.1 e).elim) (λe=>(X3 h.1 e).elim) λz=>b.new R (.int _ _) h.2 _
noncomputable def Tz(h:UInt64):UInt64:=aY (bG h 4618441417868443648) (ig (EB (bG h 4618441417868443648)))
noncomputable def Tv(s v:UInt64):UInt64:=bG v (aY 4607182418800017408 s)
noncomputable def Tu(h s v:UInt64):UInt64:=bG v (aY 4607182418800017408 (bG s (Tz h)))
noncomputable def Tt(h s v:UInt64):UInt64:=bG v (aY 4607182418800017408 (bG s (aY 4607182418800017408 (Tz h))))
noncomputable def Yc(v p q t:UInt64)(i:Int):Option F3:=bif i==0 then some (v,t,p)else bif i==1 then some (q,v,p)else bif i==2 then some (p,v,t)else bif i==3 then some (p,q,v)else bif i==4 then some (t,p,v)else bif i==5 then some (v,p,q)else none
def OJ(v p q t:UInt64)(i:Int)(k:F3->Prop)(z:Prop):Prop:=Br (i==0) (k (v,t,p)) (Br (i==1) (k (q,v,p)) (Br (i==2) (k (p,v,t)) (Br (i==3) (k (p,q,v)) (Br (i==4) (k (t,p,v)) (Br (i==5) (k (v,p,q)) z)))))
theorem HV{v p q t:UInt64}{i:Int}{k:F3->Prop}{z:Prop}(h:aG (Yc v p q t i) k):OJ v p q t i k z:=(Brn.of h).el id λh=>(Brn.of h).el id λh=>(Brn.of h).el id λh=>(Brn.of h).el id λh=>(Brn.of h).el id λh=>(Brn.of h).el id λh=>h.elim
theorem WM{b:Bool}(h:(!b)=false):b=true:=by
 cases b with
 |true=>rfl
 |false=>exact bj h.symm
noncomputable def M?(i:Int):Bool:=decide (i.natAbs<2^1024 - 2^970)
noncomputable def Ye(h s v:UInt64):Option F3:=bif Fu s 0 then some (v,v,v)else bif !dw (bG h 4618441417868443648)then none else bif !M? (EB (bG h 4618441417868443648))then none else Yc v (Tv s v) (Tu h s v) (Tt h s v) ((EB (bG h 4618441417868443648)).fmod 6)
def ĸ(h s v:UInt64)(k:F3->Prop)(z:Prop):Prop:=Br (Fu s 0) (k (v,v,v)) (dw (bG h 4618441417868443648)=true∧jL (EB (bG h 4618441417868443648))∧(6:Int)≠0∧OJ v (Tv s v) (Tu h s v) (Tt h s v) ((EB (bG h 4618441417868443648)).fmod 6) k z)
noncomputable def OK:Sp:=jq (f3 λa b c H K=>aG (Ye a b c) (K3 K H))
theorem Ts:f7 w mean mg mb 2 130 OK:=YZ (T:=Jv [(.type "int",OH)]) (aa "h") (aa "s") (aa "v") Yq YJ (by kernel_rfl) (λv v v=>by kernel_rfl) (λΓ hd hu=>n8 (.cons Th .nil)) λa b c H K h=>kc (P:=ĸ a b c (R3 H K) (lI H K .none H)) ((Brn.of (h.imp λx=>R3.of)).el id λh=>
 have z:=oG h;have y:=oG z.2
 ⟨WM z.1,jL.of (of_decide_eq_true (WM y.1)),by decide,HV y.2⟩) (by kernel_rfl)
end
variable{r:Int}
section
noncomputable def VG(k:Int):Bool:=decide (-(2^63)<=k)&&decide (k<2^63)
noncomputable def JE(xs:List AV)(k:Int):Option Int:=match VG k with
 |true=>(match eT k xs.length with
  |some j=>(match xs[j]? with
   |some a=>(match a with
    |.int y=>some y
    |_=>none)
   |none=>none)
  |none=>none)
 |false=>none
theorem pe(h:cH fG H n=some xs):cH Bk H n=some xs:=by
 unfold cH at h ⊢;cases e:H[n]? with
 |none=>rw[e]at h;exact aJ h
 |some o=>
  rw[e]at h;dsimp only at h ⊢;cases f:un o with
  |lst=>rw[f]at h;exact h
  |_=>rw[f]at h;exact aJ h
theorem IN{k:Int}(h:JE xs k=some y)(q: -(2^63)<=k∧k<2^63->∀j,eT k xs.length=some j->xs[j]? =some (.int y)->C):C:=by
 unfold JE at h;cases h1:VG k with
 |false=>rw[h1]at h;exact aJ h
 |true=>
  rw[h1]at h;cases h2:eT k xs.length with
  |none=>rw[h2]at h;exact aJ h
  |some j=>
   rw[h2]at h;dsimp only at h;cases h3:xs[j]? with
   |none=>rw[h3]at h;exact aJ h
   |some a=>
    rw[h3]at h;dsimp only at h;cases a with
    |int z=>
     unfold VG at h1;rw[aM,decide_eq_true_eq,decide_eq_true_eq]at h1;exact q h1 j h2 (aj h▸h3)
    |_=>exact aJ h
noncomputable def g5(c:Int->Bool)(xs:List AV):Nat->Int->Int->Option Int
 |0,_,_=>none
 |n+1,lo,hi=>bif decide (lo<hi)then((JE xs ((lo+hi).fdiv 2)).bind λy=>bif c y then g5 c xs n lo ((lo+hi).fdiv 2)else g5 c xs n ((lo+hi).fdiv 2+1) hi)else some lo
noncomputable def b5(n:Nat)(x lo:Int)(hi key:AV):Nm:=[(aa "a",.ref n),(aa "x",.int x),(aa "lo",.int lo),(aa "hi",hi),(aa "key",key)]
noncomputable abbrev Ð:List ax:=[aa "a",aa "x",aa "lo",aa "hi",aa "key"]
inductive Vr(c:Int->Bool)(xs:List AV)(H₀:Hp)(n:Nat)(x r:Int)(k:Nat)(m:Nm)(H:Hp):Prop
 |mk(lo hi:Int)(e:m=b5 n x lo (.int hi) .none)(eh:H=H₀)(h:g5 c xs k lo hi=some r):Vr c xs H₀ n x r k m H
def Nf(a:AV)(P:Prop):Prop:=match a with
 |.none=>P
 |_=>False
theorem Nf.is{a:AV}{P:Prop}{C:AV->Prop}(h:Nf a P)(k:P->C .none):C a:=by
 cases a with
 |none=>exact k h
 |_=>exact h.elim
theorem bW{α:Type}{o:Option α}{f:α->Option β}{r:β}(h:o.bind f=some r)(k:∀y,o=some y->f y=some r->C):C:=by
 cases o with
 |none=>exact aJ h
 |some y=>exact k y rfl h
theorem sn{c:Int->Bool}{lo hi:Int}(h:g5 c xs k lo hi=some r):∃j,j<k∧Br (decide (lo<hi)) (∃y,JE xs ((lo+hi).fdiv 2)=some y∧Br (c y) (g5 c xs j lo ((lo+hi).fdiv 2)=some r) (g5 c xs j ((lo+hi).fdiv 2+1) hi=some r)) (lo=r):=by
 cases k with
 |zero=>exact aJ h
 |succ k=>exact⟨k,bI k,(Br.of (k:=λo=>o=some r) h).el (λh=>bW h λy e h=>⟨y,e,Br.of (k:=λo=>o=some r) h⟩) λh=>aj h⟩
noncomputable abbrev gB(i:Nat):En:=⟨(fS (mS i)).names,[],none⟩
noncomputable abbrev uP:f6:=Jv [(.builtin "len",sM)]
theorem Br.t{P Q:Prop}(h:P):Br true P Q:=⟨λz=>h,λe=>bj e.symm⟩
theorem Br.f{P Q:Prop}(h:Q):Br false P Q:=⟨λe=>bj e,λz=>h⟩
theorem wJ{x:Int}(hn:cH fG H n=some xs)(hl:(xs.length:Int)<2^63)(h:g5 (λy=>decide (x<y)) xs 64 0 xs.length=some r)(k:K (.int r) H):cg (gB 8) uP 8 (fB (mS 8)) (b5 n x 0 .none .none) H (dT (lI H K)):=by
 refine .f (.t (aw hn ⟨hl,.t ⟨rfl,Ð,Vr (λy=>decide (x<y)) xs H n x r,64,.mk 0 xs.length rfl rfl h,λk' m' H' hJ=>?_⟩⟩));obtain⟨lo,hi,rfl,rfl,h⟩:=hJ;obtain⟨j,hj,h⟩:=sn h;refine h.el (λh=>?_) λh=>.now (h▸k) rfl
 obtain⟨y,ha,h⟩:=h;exact IN ha λz i e1 e2=>⟨⟨by decide,by kernel_rfl⟩,z,aw (pe hn) (aw e1 (aw e2 (h.el (λh=>⟨j,hj,.mk lo _ rfl rfl h⟩) λh=>⟨j,hj,.mk _ hi rfl rfl h⟩)))⟩
theorem wK{x:Int}(hn:cH fG H n=some xs)(hl:(xs.length:Int)<2^63)(h:g5 (λy=> !decide (y<x)) xs 64 0 xs.length=some r)(k:K (.int r) H):cg (gB 10) uP 8 (fB (mS 10)) (b5 n x 0 .none .none) H (dT (lI H K)):=by
 refine .f (.t (aw hn ⟨hl,.t ⟨rfl,Ð,Vr (λy=> !decide (y<x)) xs H n x r,64,.mk 0 xs.length rfl rfl h,λk' m' H' hJ=>?_⟩⟩));obtain⟨lo,hi,rfl,rfl,h⟩:=hJ;obtain⟨j,hj,h⟩:=sn h;refine h.el (λh=>?_) λh=>.now (h▸k) rfl
 obtain⟨y,ha,h⟩:=h;refine IN ha λz i e1 e2=>⟨⟨by decide,by kernel_rfl⟩,z,aw (pe hn) (aw e1 (aw e2 ⟨λe=>⟨j,hj,.mk _ hi rfl rfl (h.no ?_)⟩,λe=>⟨j,hj,.mk lo _ rfl rfl (h.yes ?_)⟩⟩))⟩
 ·exact congrArg (!·) e
 ·exact congrArg (!·) e
end
section
theorem rU{name:ax}{id:String}(slot:Slot "list" name id)(ty:typeOf (.builtin id)=pure (.type "method_descriptor")):rz Γ "list" name (.builtin id):=λρ P m H s Q E a v pl e R r q=>by
 induction r with
 |ref i c hc=>
  refine xe e (λz z z z e=>absurd e (by decide)) λe=>R.seen hc e λo ob e r g=>?_
  induction r with
  |lst k _=>exact nJ (v:=.ref c) ⟨_,g,rfl⟩ NU slot ty (λa e=>E4 e▸⟨_,g,rfl⟩) q
  |_=>exact aJ e
 |str x t=>exact absurd (aj e) (by decide)
 |val v=>exact absurd (qy e).1 (by decide)
 |_=>exact aJ e
theorem qE{name:ax}{id:String}(slot:Slot "str" name id)(ty:typeOf (.builtin id)=pure (.type "method_descriptor")):rz Γ "str" name (.builtin id):=λρ P m H s Q E a v pl e R r q=>by
 induction r with
 |str x t=>exact nJ (v:=.str x t) (typeIs_str _ _ _) F.plainAttrs_str slot ty (λa e=>nomatch e) q
 |ref i c hc=>
  refine xe e (λz z z z e=>absurd e (by decide)) λe=>R.seen hc e λo ob e r g=>?_
  induction r with
  |lst k _=>exact absurd (aj e) (by decide)
  |_=>exact aJ e
 |val v=>exact absurd (qy e).1 (by decide)
 |_=>exact aJ e
noncomputable abbrev mM(ty n:String):String×ax×ar:=(ty,aa n,.builtin (ty++"."++n))
def Zt(n:Nat)(H:Hp)(K:List AV->Prop):Prop:=aG H[n]? λo=>aG (fG o) λxs=>xs.length<=aF∧K xs
theorem Zt.el{H:Hp}{P:mh}{m:Nm}{s:aC}{F:List AV->Prop}(h:Zt n H F)(R:bM Γ ρ P m H s)(ha:ρ[n]? =some a)(k:∀xs vs j mm l(g:dU->gO),F xs->xs.length<=aF->bB ρ xs vs->Fr Γ.h₀ Γ.L s.heap mm->dJ Γ.h₀ Γ.L s.heap l->UpdF a (jZ vs.toArray j) l g->(∀h' i ys us,bB ρ ys us->Fr Γ.h₀ Γ.L h' mm->dJ Γ.h₀ Γ.L h' (g (jZ us.toArray i))->bM Γ ρ P m (H.set n (.lst ys)) {s with heap:=h'})->C):C:=
 aG.el h λo h e=>aG.el h λxs h d=>R.mut ha e λmm ob l g F N r U fin=>ww d r λvs j rs f=>by
  subst f;exact k xs vs j mm l g h.2 h.1 rs F N U λh' i ys us r' F' N'=>fin h' _ (.lst ys) s.toks F' N' (.lst i r') λz z=>br
noncomputable def q8:Sp:=jq λas H K=>u8 as λa b=>jY a λn=>Zt n H λxs=>iz (xs++[b]) λys=>K .none (H.set n (.lst ys))
theorem sr:iA Γ (.builtin "list.append",q8):=.of rfl λρ P m H s Q E as vs K h R r b=>u8.el h r λa va x vx h ra rx=>jY.el h ra λn c h hc=>h.el R hc λxs vs j mm l g h hz rs F N U fin=>
 append_K F N (Mine.UpdF.upd U) (λh' F' N'=>b.put (dg.refl ρ) .none (fin h' (j+1) _ (vs++[vx]) (rs.app (.cons rx .nil)) F' (by rw[sF]at N';exact N')) (d8 (k:=λys=>K .none (H.set n (.lst ys))) h)) (by rw[b9,rs.len];exact hz)
noncomputable def Om:Sp:=jq λas H K=>lY as λa=>jY a λn=>Zt n H λxs=>aG xs.getLast? λy=>iz xs.dropLast λys=>K y (H.set n (.lst ys))
theorem Er(h:bB ρ xs vs):∀{y:AV},xs.getLast?=some y->∃v,kl_last vs=some (vs.dropLast,v)∧db ρ y v∧bB ρ xs.dropLast vs.dropLast:=by
 induction h with
 |nil=>exact λe=>aJ e
 |@cons a v as vs r rs ih=>
  intro y e;induction rs with
  |nil=>exact⟨v,rfl,aj e▸r,.nil⟩
  |@cons a2 v2 as vs r2 rs _=>
   obtain⟨u,h1,h2,h3⟩:=ih (y:=y) e;refine⟨u,?_,h2,.cons r h3⟩;unfold kl_last;rw[h1];rfl
theorem Rj:iA Γ (.builtin "list.pop",Om):=.of rfl λρ P m H s Q E as vs K h R r b=>lY.el h r λa va h ra=>jY.el h ra λn c h hc=>h.el R hc λxs vs j mm l g h hz rs F N U fin=>aG.el h λy h e=>by
 obtain⟨u,h1,h2,h3⟩:=Er rs e;exact kl_pop F N h1 (Mine.UpdF.upd U) (rs.len▸hz) λh' F' N'=>b.put (dg.refl ρ) h2 (fin h' _ _ _ h3 F' N') (d8 (k:=λys=>K y (H.set n (.lst ys))) h)
noncomputable def r6{α:Type}(l:List α)(k:Int)(y:α):List α:=l.take (if k<0 then(k+(l.length:Int)).toNat else min k.toNat l.length)++y::l.drop (if k<0 then(k+(l.length:Int)).toNat else min k.toNat l.length)
theorem bB.cutA(h:bB ρ xs vs):∀k,bB ρ (xs.take k) (vs.take k)∧bB ρ (xs.drop k) (vs.drop k):=by
 induction h with
 |nil=>exact λk=>by rw[Ps,Pu,Ps,Pu];exact⟨.nil,.nil⟩
 |cons h r ih=>
  intro k;cases k with
  |zero=>exact⟨.nil,.cons h r⟩
  |succ k=>exact⟨.cons h (ih k).1,(ih k).2⟩
noncomputable def HP:Sp:=jq λas H K=>IV as λa k y=>jY a λn=>lB k λk=>Zt n H λxs=>cT k=true∧iz (r6 xs k y) λys=>K .none (H.set n (.lst ys))
theorem HN:iA Γ (.builtin "list.insert",HP):=.of rfl λρ P m H s Q E as vs K h R r b=>IV.el h r λa va k vk y vy h ra rk ry=>jY.el (C:=λva=>aL (cJ w) Γ.A (bH (.builtin "list.insert") [va,vk,vy] []) Q E s) h ra λn c h hc=>lB.el (C:=λvk=>aL (cJ w) Γ.A (bH (.builtin "list.insert") [.ref c,vk,vy] []) Q E s) h rk λk t h=>h.el R hc λxs vs j mm l g h hz rs F N U fin=>by
 refine kl_insert F N h.1 rfl (Mine.UpdF.upd U) (rs.len▸hz) λh' F' N'=>b.put (dg.refl ρ) .none (fin h' _ (r6 xs k y) _ ?_ F' N') (d8 (k:=λys=>K .none (H.set n (.lst ys))) h.2)
 unfold r6 kl_ins;rw[<-rs.len];exact(rs.cutA _).1.app (.cons ry (rs.cutA _).2)
end
section
def ZJ(as:List AV)(K:AV->AV->AV->AV->Prop):Prop:=match as with
 |[]=>False
 |a::r=>IV r (K a)
@[elab_as_elim] theorem ZJ.is{K:AV->AV->AV->AV->Prop}{C:List AV->Prop}(h:ZJ as K)(k:∀a b c d,K a b c d->C [a,b,c,d]):C as:=by
 cases as with
 |nil=>exact h.elim
 |cons a r=>exact IV.is (C:=λr=>C (a::r)) h (k a)
noncomputable def cR(x y:Int):Bool:=decide (x<y)
noncomputable def cL(x y:Int):Bool:= !decide (y<x)
def Ok(as:List AV)(K:Nat->Int->Prop):Prop:=u8 as λa x=>jY a λn=>lB x λx=>K n x
@[elab_as_elim] theorem Ok.is{K:Nat->Int->Prop}{C:List AV->Prop}(h:Ok as K)(k:∀n x,K n x->C [.ref n,.int x]):C as:=u8.is h λa x h=>jY.is (C:=λa=>C [a,x]) h λn h=>lB.is (C:=λx=>C [.ref n,x]) h λx h=>k n x h
def EM(c:Int->Int->Bool)(n:Nat)(x:Int)(H:Hp)(K:KV):Prop:=aG (cH fG H n) λxs=>(xs.length:Int)<2^63∧aG (g5 (c x) xs 64 0 xs.length) λr=>K (.int r) H
noncomputable def tj(c:Int->Int->Bool):Sp:=jq λas H K=>Ok as λn x=>EM c n x H K
def ZF(a:AV)(P:Prop):Prop:=lB a λz=>ku (z==0) P
theorem ZF.is{a:AV}{P:Prop}{C:AV->Prop}(h:ZF a P)(k:P->C (.int 0)):C a:=lB.is h λz h=>ku.el h λh e=>bo e▸k h
noncomputable def EN(c:Int->Int->Bool):Sp:=jq λas H K=>ZJ as λa x lo hi=>jY a λn=>lB x λx=>ZF lo (Nf hi (EM c n x H K))
theorem MO(t:lP)(ρ:List aI):cW ρ [(aa "lo",.int 0),(aa "hi",.none),(aa "key",.none)] [(aa "lo",.int 0 t),(aa "hi",.none),(aa "key",.none)]:=.cons (.int _ _) (.cons .none (.cons .none .nil))
theorem Ze(ρ:List aI):cW ρ [(aa "key",.none)] [(aa "key",.none)]:=.cons .none .nil
theorem oK:cF Γ uP:=n8 (.cons pP .nil)
@[elab_as_elim] theorem EN.main{c:Int->Int->Bool}{G:List AV->Prop}(h:ZJ as λa x lo hi=>jY a λn=>lB x λx=>ZF lo (Nf hi (EM c n x H K)))(k:∀n x,EM c n x H K->G [.ref n,.int x,.int 0,.none]):G as:=
 ZJ.is h λa x lo hi h=>jY.is (C:=λa=>G [a,x,lo,hi]) h λn h=>lB.is (C:=λx=>G [.ref n,x,lo,hi]) h λx h=>ZF.is (C:=λlo=>G [.ref n,.int x,lo,hi]) h λh=>Nf.is (C:=λhi=>G [.ref n,.int x,.int 0,hi]) h λh=>k n x h
noncomputable abbrev ï:List ax:=[aa "a",aa "x"]
noncomputable abbrev n?:List ax:=[aa "a",aa "x",aa "lo",aa "hi"]
theorem u5:f7 w mean mg mb 2 77 (tj cR):=sa (T:=uP) 8 ï _ _ (MO 338) TA TK (by kernel_rfl) (by kernel_rfl) (λs vs X h=>eH h λa r h=>eH h λb r h=>kL h (jD X λz=>by kernel_rfl)) (λΓ hd hu=>oK) λas H K h=>Ok.is h λn x h=>⟨rfl,aG.el h λxs h e=>aG.el h.2 λr k e2=>wJ e h.1 e2 k⟩
theorem Ab:f7 w mean mg mb 2 95 (tj cL):=sa (T:=uP) 8 ï _ _ (MO 365) Mr Mt (by kernel_rfl) (by kernel_rfl) (λs vs X h=>eH h λa r h=>eH h λb r h=>kL h (jD X λz=>by kernel_rfl)) (λΓ hd hu=>oK) λas H K h=>Ok.is h λn x h=>⟨rfl,aG.el h λxs h e=>aG.el h.2 λr k e2=>wK e h.1 e2 k⟩
theorem IL:f7 w mean mg mb 2 77 (EN cR):=sa (T:=uP) 8 n? _ _ Ze TA TK (by kernel_rfl) (by kernel_rfl) (λs vs X h=>eH h λa r h=>eH h λb r h=>eH h λc r h=>eH h λd r h=>kL h (jD X λz=>by kernel_rfl)) (λΓ hd hu=>oK) λas H K h=>EN.main h λn x h=>⟨rfl,aG.el h λxs h e=>aG.el h.2 λr k e2=>wJ e h.1 e2 k⟩
theorem IM:f7 w mean mg mb 2 95 (EN cL):=sa (T:=uP) 8 n? _ _ Ze Mr Mt (by kernel_rfl) (by kernel_rfl) (λs vs X h=>eH h λa r h=>eH h λb r h=>eH h λc r h=>eH h λd r h=>kL h (jD X λz=>by kernel_rfl)) (λΓ hd hu=>oK) λas H K h=>EN.main h λn x h=>⟨rfl,aG.el h λxs h e=>aG.el h.2 λr k e2=>wK e h.1 e2 k⟩
def XZ(c:Int->Int->Bool)(n:Nat)(x:Int)(H:Hp)(K:KV):Prop:=aG H[n]? λo=>aG (fG o) λxs=>((xs.length:Int)<2^63∧xs.length<=aF)∧aG (g5 (c x) xs 64 0 xs.length) λr=>cT r=true∧iz (r6 xs r (.int x)) λys=>K .none (H.set n (.lst ys))
noncomputable def pR(c:Int->Int->Bool):Sp:=jq λas H K=>Ok as λn x=>XZ c n x H K
noncomputable def xR(v:Nat)(c:Int->Int->Bool):f6:=oa [(.ref v,EN c),(.builtin "list.insert",HP)] [mM "list" "insert"] λz=>none
theorem mi:rz Γ "list" (aa "insert") (.builtin ("list"++"."++"insert")):=rU F.slot_list_insert F.type_list_insert
theorem mN{o:AO}(e:H[n]? =some o)(d:fG o=some xs):cH fG H n=some xs:=by
 unfold cH;rw[e];cases o with
 |lst=>exact d
 |_=>exact aJ d
noncomputable abbrev pS:cP:=.Pass ⟨0,0,0,0⟩
noncomputable def sA(bs:List cP)(i:Nat):cP:=bs.getD i pS
noncomputable def lM:cP->List cP
 |.If _ b _ _=>b
 |.For _ _ b _ _=>b
 |.While _ b _ _=>b
 |_=>[]
noncomputable def X8:cP->List cP
 |.If _ _ b _=>b
 |_=>[]
set_option tactic.hygienic true in
noncomputable def gn(en:En)(T:f6)(k:Nat)(r:List cP)(K:KS):KS:=λf m H=>match f with
 |.next=>cg en T k r m H K
 |f=>K f m H
def C3(T:f6)(n:Nat)(x:ax)(as:List AV)(H:Hp)(K:KV):Prop:=aG (qr (.ref n) H) λty=>aG (iJ T.meths ty x) λg=>T.call (.val g) (.ref n::as) H K
theorem Cw{o:AO}(e:H[n]? =some o)(d:fG o=some xs):qr (.ref n) H=some "list":=by
 unfold qr cH;cases o with
 |lst=>dsimp only;rw[e];rfl
 |_=>exact aJ d
theorem oP{sp:Sp}(e:BS fns v=some sp)(h:sp as [] H K):(oa fns ms ge).call (.val v) as H K:=aw e h
theorem xC{x:ax}{ty:String}{g:ar}(ht:qr (.ref n) H=some ty)(hm:iJ T.meths ty x=some g)(h:T.call (.val g) (.ref n::as) H K):C3 T n x as H K:=aw ht (aw hm h)
theorem zy{v:Nat}{c:Int->Int->Bool}{x:Int}(h:XZ c n x H K)(e:cg (gB i) (xR v c) 8 (fB (mS i)) (b5 n x 0 .none .none) H (dT K)=Br true (EM c n x H λa H=>fb (gB i) (aa "lo") a (b5 n x 0 .none .none) H λm H=>cg (gB i) (xR v c) 8 ((fB (mS i)).drop 1) m H (dT K)) (cg (gB i) (xR v c) 7 (X8 (sA (fB (mS i)) 0)) (b5 n x 0 .none .none) H (gn (gB i) (xR v c) 8 ((fB (mS i)).drop 1) (dT K))))
  (e2:∀r,(fb (gB i) (aa "lo") (.int r) (b5 n x 0 .none .none) H λm H=>cg (gB i) (xR v c) 8 ((fB (mS i)).drop 1) m H (dT K))=(false=false∧C3 (xR v c) n (aa "insert") [.int r,.int x] H λz H=>K .none H)):cg (gB i) (xR v c) 8 (fB (mS i)) (b5 n x 0 .none .none) H (dT K):=
 kc (aG.el h λo h e=>aG.el h λxs h d=>aG.el h.2 λr k f=>.t (aw (mN e d) ⟨h.1.1,aw f (kc ⟨rfl,xC (g:=.builtin "list.insert") (Cw e d) rfl (oP (sp:=HP) rfl (aw e (aw d ⟨h.1.2,k.1,k.2⟩)))⟩ (e2 r))⟩)) e
theorem Mi:f7 w mean mg mb 3 68 (pR cR):=pU (T:=xR 77 cR) 8 ï _ _ (MO 325) ĺ ŀ (by kernel_rfl) (by kernel_rfl) (λs vs X h=>eH h λa r h=>eH h λb r h=>kL h (jD X λz=>by kernel_rfl)) (λΓ hd hu=>dt (.cons (IL.sp HH hd hu rfl) (.cons HN .nil)) (.cons mi .nil) λz z e=>aJ e) λas H K h=>Ok.is h λn x h=>⟨rfl,zy (i:=7) h (by kernel_rfl) λr=>by kernel_rfl⟩
theorem Mj:f7 w mean mg mb 3 86 (pR cL):=pU (T:=xR 95 cL) 8 ï _ _ (MO 352) Ĺ Ŀ (by kernel_rfl) (by kernel_rfl) (λs vs X h=>eH h λa r h=>eH h λb r h=>kL h (jD X λz=>by kernel_rfl)) (λΓ hd hu=>dt (.cons (IM.sp Eu hd hu rfl) (.cons HN .nil)) (.cons mi .nil) λz z e=>aJ e) λas H K h=>Ok.is h λn x h=>⟨rfl,zy (i:=9) h (by kernel_rfl) λr=>by kernel_rfl⟩
end
variable{ns:List Nat}{H₀:Hp}
section
noncomputable def Y3(mm:ax->Option ar)(m:Nm):Nm:=m.map λp=>(p.1,.val ((mm p.1).getD .none))
theorem x6{mm:ax->Option ar}{x:ax}:∀m:Nm,(Y3 mm m).lookup x=(m.lookup x).map λz=>.val ((mm x).getD .none)
 |[]=>rfl
 |p::r=>by
  show(match x==p.1 with|true=>some (AV.val ((mm p.1).getD .none))|false=>(Y3 mm r).lookup x)=_;rw[gc,x6 r];cases e:x==p.1 with
  |true=>exact bo e▸rfl
  |false=>rfl
theorem mo.ex(q:mo ρ m mm)(ρ':List aI):mo ρ' (Y3 mm m) mm:=λx a e=>by
 rw[x6]at e;cases h:m.lookup x with
 |none=>rw[h]at e;exact aJ e
 |some b=>
  rw[h]at e;obtain⟨v,e1,_⟩:=q x b h;have e:some (AV.val ((mm x).getD .none))=some a:=e;rw[e1]at e;exact⟨v,e1,aj e▸ .val v⟩
theorem mo.unex(q:mo ρ m mm)(q':mo ρ' (Y3 mm m) mm'):mo ρ m mm':=λx a e=>by
 obtain⟨v,e1,r⟩:=q x a e;obtain⟨v',e2,r2⟩:=q' x (.val v) (by rw[x6,e,e1];rfl);exact⟨v,db.V (C:=λv'=>mm' x=some v'->mm' x=some v) r2 id e2,r⟩
inductive IZ(H:Hp):List Nat->Hp->Prop
 |nil:IZ H [] []
 |cons{n:Nat}{o:AO}{ns:List Nat}{H₀:Hp}(e:H[n]? =some o)(wf:∀ρ,s4 ρ o)(new:n∉ns)(r:IZ H ns H₀):IZ H (n::ns) (o::H₀)
theorem IZ.get(h:IZ H ns H₀):ns.length=H₀.length∧ns.Nodup∧∀(j n:Nat)(o:AO),ns[j]? =some n->H₀[j]? =some o->H[n]? =some o∧∀ρ,s4 ρ o:=by
 induction h with
 |nil=>exact⟨rfl,o7,λj n o e=>aJ e⟩
 |cons e wf new _ ih=>
  refine⟨congrArg eJ ih.1,eM.mpr ⟨new,ih.2.1⟩,λj n o f g=>?_⟩;cases j with
  |zero=>exact aj f▸aj g▸⟨e,wf⟩
  |succ j=>exact ih.2.2 j n o f g
inductive mn(H₀ H:Hp)(K:KV)(a:AV)(H':Hp):Prop
 |one(T:Hp)(e:H'=H₀++T)(s:scal a=true)(k:K a H):mn H₀ H K a H'
 |new(T:Hp)(o:AO)(i:Nat)(e:H'=H₀++T)(ha:a= .ref i)(hi:H'[i]? =some o)(hn:H₀.length<=i)(wf:∀ρ,s4 ρ o)(k:K (.ref H.length) (H++[o])):mn H₀ H K a H'
theorem yp{σ:List aI}{o:AO}(wf:∀ρ,s4 ρ o)(r:de w τ o ob):de w σ o ob:=(de.down (ρ:=[]) (τ:=τ) r (wf [])).mono ⟨σ,rfl⟩
theorem bM.sel(R:bM Γ ρ P m H s)(h:IZ H ns H₀)(k:∀ρ₀ P₀ m₀,(∀(j n:Nat),ns[j]? =some n->∀b,ρ[n]? =some b->ρ₀[j]? =some b)->bM Γ ρ₀ P₀ m₀ H₀ s->(∀(K:KV)(Q:ar->aC->Prop),Back Γ ρ P m K Q->Back Γ ρ₀ P₀ m₀ (mn H₀ H K) Q)->C):C:=by
 obtain⟨mm,objs,F,q,ro,N⟩:=R.dy;obtain⟨hl,hnd,hg⟩:=h.get;have hln:ρ.length=objs.length:=R.ly.ln.trans ro.len.symm
 let ρ₀:=ns.map λn=>ρ.getD n 0
 have hρ:∀(j:Nat)(b:aI),ρ₀[j]? =some b->∃n,ns[j]? =some n∧b=ρ.getD n 0:=λj b e=>by
  have e:(ns.map λn=>ρ.getD n 0)[j]? =some b:=e;rw[bv]at e;cases f:ns[j]? with
  |none=>rw[f]at e;exact aJ e
  |some n=>rw[f]at e;exact⟨n,rfl,(aj e).symm⟩
 have up:∀(n:Nat)(b:aI),ρ[n]? =some b->ρ.getD n 0=b:=λn b e=>by rw[bm,e];rfl
 have src:∀(j:Nat)(b:aI)(o:AO),ρ₀[j]? =some b->H₀[j]? =some o->∃n,ns[j]? =some n∧ρ[n]? =some b∧H[n]? =some o∧∀ρ,s4 ρ o:=λj b o e f=>by
  obtain⟨n,h1,h2⟩:=hρ j b e;obtain⟨h3,h4⟩:=hg j n o h1 f;obtain⟨c,hc⟩:∃c,ρ[n]? =some c:=⟨_,bb (R.ly.ln▸(aH.mp h3).1)⟩;exact⟨n,h1,hc.trans (congrArg some ((up n c hc).symm.trans h2.symm)),h3,h4⟩
 have hlen:ρ₀.length=H₀.length:=aD _ |>.trans hl;have ob0:∀(j:Nat)(b:aI),ρ₀[j]? =some b->∃o,H₀[j]? =some o:=λj b e=>⟨_,bb (hlen▸ii e)⟩
 obtain⟨objs₀,ro₀,sub⟩:=mw (w:=w) (ρ'':=ρ₀) (l:=ρ.zip objs) hlen λj b o e f=>(src j b o e f).elim λn z=>ro.at z.2.2.1 λob e2 r=>⟨ob,dK z.2.1 e2,yp z.2.2.2 r⟩
 let l:=(ρ.zip objs).filter λp=> !ρ₀.contains p.1
 have hl1:∀p∈l,p∈ρ.zip objs∧p.1∉ρ₀:=λp hp=>(iq.mp hp).imp id λh hc=>by
  rw[oz.mpr hc]at h;exact bj h
 have hl2:∀p∈ρ.zip objs,p.1∉ρ₀->p∈l:=λp hp hn=>iq.mpr ⟨hp,by rw[co.mpr λh=>hn (oz.mp h)];rfl⟩
 have eachs:∀(j:Nat)(b:aI),ρ₀[j]? =some b->∀i:Nat,ρ₀[i]? =some b->i=j:=λj b e i f=>by
  obtain⟨o,ho⟩:=ob0 j b e;obtain⟨o',ho'⟩:=ob0 i b f;obtain⟨n,z⟩:=src j b o e ho;obtain⟨n',z'⟩:=src i b o' f ho'
  have:=R.ly.each n b z.2.1 n' z'.2.1;subst this;exact(mr (ii (ρ:=ns) z'.1) hnd).mp (z'.1.trans z.1.symm)
 refine k ρ₀ ⟨l++P.rest,P.gb⟩ (Y3 mm m) (λj n e b f=>?_) ⟨⟨mm,objs₀,F,q.ex _,ro₀,λp hp=>N p ?_⟩,⟨hlen,eachs,λj b e p hp=>?_,λj b o e f=>?_⟩,R.g,R.d,R.o⟩ λK Q b=>?_
 ·show(ns.map λn=>ρ.getD n 0)[j]? =_
  rw[bv,e];exact congrArg some (up n b f)
 ·exact qF hp (λh=>av _ (sub p h)) (λh=>av _ (hl1 p h).1) λh=>au _ h
 ·refine(aT.mp hp).elim (λhp hq=>(hl1 p hp).2 (hq▸gC e)) λhp=>?_
  obtain⟨o,ho⟩:=ob0 j b e;obtain⟨n,z⟩:=src j b o e ho;exact R.ly.off n b z.2.1 p hp
 ·obtain⟨n,z⟩:=src j b o e f
  exact R.ly.lo n b o z.2.1 z.2.2.1
 ·intro a v H' ρ' s' x r R' k
  obtain⟨mm',objs',F',q',ro',N'⟩:=R'.dy;have old:∀{σ:List aI},(∀i o,H₀[i]? =some o->H'[i]? =some o)->dg ρ σ->∀(j:Nat)(b:aI)(o:AO),ρ[j]? =some b->H[j]? =some o->∃ob,(b,ob)∈ρ'.zip objs'++l∧de w σ o ob:=λhH x' j b o e f=>by
   by_cases hb:b∈ρ₀
   ·obtain⟨i,hi⟩:=gD hb
    obtain⟨o₀,ho⟩:=ob0 i b hi;obtain⟨n,z⟩:=src i b o₀ hi ho
    have:=R.ly.each n b z.2.1 j e;subst this;obtain rfl:=aj (z.2.2.1.symm.trans f);exact ro'.at (hH i _ ho) λob e2 r=>⟨ob,av _ (dK (x.get hi) e2),yp z.2.2.2 r⟩
   ·exact ro.at f λob e2 r=>⟨ob,au _ (hl2 (b,ob) (dK e e2) hb),r.mono x'⟩
  have led:∀{σ:List aI}{os:List dU},(∀p∈σ.zip os,p∈ρ'.zip objs'++l)->dJ Γ.h₀ Γ.L s'.heap (σ.zip os++P.rest):=λh p hp=>N' p ((aT.mp hp).elim (λhp=>(aT.mp (h p hp)).elim (λh=>in1 h) λh=>Mn h) λh=>Dj h)
  induction k with
  |one T e sc k=>
   subst e;obtain⟨os,r1,r2⟩:=mw (w:=w) (ρ'':=ρ) R.ly.ln (old (λi o e=>ba e) (dg.refl ρ));exact b.put (dg.refl ρ) (r.scal sc) ⟨⟨mm',os,F',q.unex q',r1,led r2⟩,R.ly,R'.g,R'.d,R'.o⟩ k
  |new T o i e ha hi hn wf k=>
   subst e ha;refine db.R (C:=λv=>Q v s') r λD hD=>?_
   have nin:D∉ρ₀:=λh=>by
    obtain⟨j,hj⟩:=gD h
    have:=R'.ly.each j D (x.get hj) i hD;subst this;exact im.mpr (ii hj) (hlen▸hn)
   have no:∀(j:Nat)(b:aI),ρ[j]? =some b->b≠D:=λj b e f=>by
    subst f;obtain⟨ob,ho⟩:=gy hln e;exact R'.ly.off i b hD _ (av _ (hl2 (b,ob) ho nin)) rfl
   have Y:=R.ly.add (o:=o) no (λp hp=>R'.ly.off i D hD p (au _ hp)) (R'.ly.lo i D o hD hi);obtain⟨os,r1,r2⟩:=mw (w:=w) (ρ'':=ρ++[D]) Y.ln λj b y e f=>gp e (λe=>old (λi o e=>ba e) (dg.one ρ D) j b y e ((d7 (R.ly.ln▸ii e)).symm.trans f)) λp q=>by
    obtain rfl:=aj (bA.symm.trans (R.ly.ln▸p▸f));exact ro'.at hi λob e2 r=>⟨ob,av _ (q▸dK hD e2),yp wf r⟩
   exact b.put (dg.one ρ D) (R.top D) ⟨⟨mm',os,F',(q.unex q').mono (dg.one ρ D),r1,led r2⟩,Y,R'.g,R'.d,R'.o⟩ k
end
section
inductive tq(ns:List Nat):List AV->List AV->Prop
 |nil:tq ns [] []
 |sc{a:AV}{as bs:List AV}(s:scal a=true)(r:tq ns as bs):tq ns (a::as) (a::bs)
 |ref{j n:Nat}{as bs:List AV}(e:ns[j]? =some n)(r:tq ns as bs):tq ns (.ref j::as) (.ref n::bs)
theorem tq.reps{as₀:List AV}{ρ:List aI}(hr:∀(j n:Nat),ns[j]? =some n->∀b,ρ[n]? =some b->ρ₀[j]? =some b)(h:tq ns as₀ as):∀{vs:List ar},bB ρ as vs->bB ρ₀ as₀ vs:=by
 induction h with
 |nil=>exact λr=>bB.c0 r .nil
 |sc s _ ih=>exact λr=>bB.hd (C:=λvs=>bB ρ₀ _ vs) r λv us h r=>.cons (h.scal s) (ih r)
 |ref e _ ih=>exact λr=>bB.hd (C:=λvs=>bB ρ₀ _ vs) r λv us h r=>.cons (db.R (C:=λv=>db ρ₀ _ v) h λc hc=>.ref _ _ (hr _ _ e c hc)) (ih r)
theorem f7.sel{d:Nat}{f:aI}{spec₀:Sp}{F:List AV->Hp->KV->Prop}(h:f7 w mean mg mb d f spec₀)(main:∀as H K,F as H K->∃ns H₀ as₀,IZ H ns H₀∧tq ns as₀ as∧spec₀ as₀ [] H₀ (mn H₀ H K)):f7 w mean mg mb d f (jq F):=λΓ ρ P m H s Q E as vs ks kv K hd hu q R r rk b=>
 jq.el (C:=λkv=>aL (cJ w) Γ.A (bH (.ref f) vs kv) Q E s) q rk λq=>by
  obtain⟨ns,H₀,as₀,h1,h2,h3⟩:=main as H K q;exact R.sel h1 λρ₀ P₀ m₀ hr R₀ back=>h Γ ρ₀ P₀ m₀ H₀ s Q E as₀ vs [] [] _ hd hu h3 R₀ (h2.reps hr r) .nil (back K Q b)
theorem uU{d:Nat}{f:aI}{nm:ax}{st:cP}{dV:ar}{c:Nat}{F:List AV->Hp->KV->Prop}(k:Nat)(xs:List ax)(dA:Nm)(dS:List (ax×ar))(hD:∀ρ,cW ρ dA dS)(ho:(hp w.params).lookup f=some (fO nm qn (fA st) (fB st) (fS st) dV kV pm pt c))(hcd:dP (hp w.params) (.ref c) qn=true)(hs:sb (fS st) (xs++dA.map (·.1))=true)
  (hb:∀(s:aC)(vs:List ar),(hp w.params).In s.heap->vs.length=xs.length->iX s (ul nm qn (fA st) (fB st) (fS st) dV kV .none (.str pm pt) none (.ref c) .none) ⟨vs,[]⟩ (xs.zip vs++dS))
  (hT:∀Γ:Wk w mean mg mb,Γ.dp+(d+1)<aP->Γ.un+8*(d+1)<df->cF Γ T)
  (main:∀as H K,F as H K->∃ns H₀ as₀,IZ H ns H₀∧tq ns as₀ as∧as₀.length=xs.length∧cg ⟨(fS st).names,yg (cj (fS st).names) H₀.length,none⟩ T k (fB st) (hW (fS st).names (xs.zip as₀++dA)) (H₀++iZ (xs.zip as₀++dA) (cj (fS st).names)) (dT (mn H₀ H K))):f7 w mean mg mb (d+2) f (jq F):=
 f7.sel (spec₀:=λas ks H K=>aG (qY xs.length xs dA as ks) λnv=>cg ⟨(fS st).names,yg (cj (fS st).names) H.length,none⟩ T k (fB st) (hW (fS st).names nv) (H++iZ nv (cj (fS st).names)) (dT K))
  (MB (xs++dA.map (·.1)) (qY xs.length xs dA) ho hcd hs (λ{s ρ as vs ks nv kv} X r rk e=>by
   unfold qY at e;induction rk with
   |cons=>exact aJ e
   |nil=>
    cases hl:aW as.length xs.length with
    |false=>rw[hl]at e;exact aJ e
    |true=>
     rw[hl]at e;obtain rfl:=aj e;have hl:=aZ hl;exact⟨by rw[b6,tF (bP hl.symm)],_,hb s vs X (r.len.trans hl),(r.zip xs).app (hD ρ)⟩) hT λas ks H K h=>aG.el h λnv h e=>aw e λΓ ρ τ P s Q E O N R hl b=>kY O k _ _ _ _ h (ρ++τ) P _ _ _ N R λf g m H ρ' s' x=>b f g m H ρ' s' (dg.trans ⟨τ,rfl⟩ x)) λas H K h=>by
  obtain⟨ns,H₀,as₀,h1,h2,h3,h4⟩:=main as H K h;refine⟨ns,H₀,as₀,h1,h2,aw (x:=xs.zip as₀++dA) ?_ h4⟩;unfold qY;rw[h3,nR]
theorem mn.now{a:AV}{T:Hp}(s:scal a=true)(k:K a H):mn H₀ H K a (H₀++T):=.one T rfl s k
end
section
theorem DJ{α:Type}{f:AV->Option α}{a:AV}{r:List AV}{l:List α}(h:jT f (a::r)=some l)(k:∀x xs,f a=some x->jT f r=some xs->l=x::xs->C):C:=
 bW h λx e h=>bW h λxs e2 h=>k x xs e e2 (aj h).symm
theorem Kk(r:bB ρ as vs):∀{ts:List ax},jT gX as=some ts->∃l:List (ax×lP),vs=strValues l∧l.map (·.1)=ts:=by
 induction r with
 |nil=>exact λe=>⟨[],rfl,aj e⟩
 |cons h _ ih=>
  intro ts e;refine DJ e λx xs e1 e2 e3=>?_
  obtain⟨l,i1,i2⟩:=ih e2;induction h with
  |str y t=>exact⟨(y,t)::l,congrArg (o5 y t::·) i1,e3▸aj e1▸congrArg (y::·) i2⟩
  |_=>exact aJ e1
noncomputable def rY:Sp:=jq λas H K=>u8 as λa b=>kE a λx=>jY b λn=>aG (cH fG H n) λxs=>aG (jT gX xs) λts=>iF x ts=true∧K (.str (cq x ts)) H
theorem qN:iA Γ (.builtin "str.join",rY):=.of rfl λρ P m H s Q E as vs K h R r b=>u8.el h r λa va c vc h ra rc=>kE.el (C:=λva=>aL (cJ w) Γ.A (bH (.builtin "str.join") [va,vc] []) Q E s) h ra λx t h=>jY.el (C:=λvc=>aL (cJ w) Γ.A (bH (.builtin "str.join") [.str x t,vc] []) Q E s) h rc λn c h hc=>aG.el h λxs h e=>aG.el h λts h e2=>R.list hc e λvs rs z=>(Kk rs e2).elim λl i=>SC.join (l:=l) (i.1▸z) i.2 h.1 λt' k=>b.new R (.str _ _) h.2 k
noncomputable def tZ:Sp:=jq λas H K=>u8 as λa b=>kE a λx=>kE b λy=>aG (gv x y 0 x.length 1).head? λi=>K (.int i) H
theorem uS:iA Γ (.builtin "str.index",tZ):=.of rfl λρ P m H s Q E as vs K h R r b=>u8.el h r λa va c vc h ra rc=>kE.el (C:=λva=>aL (cJ w) Γ.A (bH (.builtin "str.index") [va,vc] []) Q E s) h ra λx t h=>kE.el (C:=λvc=>aL (cJ w) Γ.A (bH (.builtin "str.index") [.str x t,vc] []) Q E s) h rc λy u h=>aG.el h λi h e=>by
 cases ho:gv x y 0 x.length 1 with
 |nil=>rw[ho]at e;exact aJ e
 |cons j rest=>
  rw[ho]at e;exact SC.index ho (b.new R (.int _ _) (aj e▸h) _)
noncomputable def IH(f:ax->ax):Sp:=jq λas H K=>lY as λa=>kE a λx=>gq (f x).length=false∧K (.str (f x)) H
theorem FW:iA Γ (.builtin "str.upper",IH cX):=.of rfl λρ P m H s Q E as vs K h R r b=>lY.el h r λa va h ra=>kE.el h ra λx t h=>SC.upper h.1 (b.new R (.str _ _) h.2 _)
set_option tactic.hygienic true in
theorem iL{en:En}{ex:Ex}{tgt:al}{b:List cP}{xs:List ax}{pn:Option (Nat×dU)}{K:KS}(J:List IT->Nm->Hp->Prop)(done:∀m H,J [] m H->iI pn H (iz (eW xs m) λm=>K .next m H))
  (turn:∀it r m H(go:Nm->Hp->Prop),(∀m H,J r m H->go m H)->J (it::r) m H->iI pn H (iz (eW xs m) λm=>yn en tgt it m H λm H=>ex b m H λf m H=>(match f with
  |.next=>go m H
  |.cont=>go m H
  |.brk=>iz (eW xs m) λm=>K .next m H
  |.ret a=>K (.ret a) m H))):∀l m H,J l m H->kC en ex tgt b xs pn l m H K
 |[],m,H,h=>done m H h
 |it::r,m,H,h=>turn it r m H (λm H=>kC en ex tgt b xs pn r m H K) (λm H=>iL J done turn r m H) h
end
variable{scope:iS}
section
set_option backward.match.sparseCases true
open Sem (wp)
section
variable{prog:eC}{A':dR}{m:ax->Option ar}{news:gO}{K:Frag}{p:eC}{loose:List ax}
theorem IA{R:rL->aC->Prop}{name qual:ax}{params:jl}{dV doc pm cdv ct oc:ar}{an od:Option aI}{osl:Array (Option ar)}{f:aI}{args:Args}{binds:List (ax×ar)}{V:Nat->List ar->Prop}
  (F:Fr h₀ L s.heap m)(X₀:K.In h₀)(N:dJ h₀ L s.heap news)(T:JO p loose mean mg mb h₀)
  (ho:K.lookup f=some ⟨oc,od,.func (ul name qual params body scope dV kV doc pm an cdv ct),osl⟩)(hcd:dP K cdv qual=true)(hroom:A.depth<aP)
  (hbind:iX s (ul name qual params body scope dV kV doc pm an cdv ct) args binds)(hloc:∀y∈binds,scope.names.lookup y.1=some .local)
  (hco:scope.isCoroutine=false)(hgen:scope.isGenerator=true)(hk:scope.kind= .function)(hcell:∀x∈scope.names,x.2≠ .cell)
  (haddr:binds.reverse.lookup ("addr":ax)≠none)
  (seg:∀(C a g:Nat)(nm qn:ar)(s'':aC),h₀.objs.size<=C->C<a->a<s''.heap.objs.size->Fr h₀ C s''.heap (λy=>binds.reverse.lookup y)->s''.heap.get? a=some (lq g nm qn)->
   Jd (dc prog w) A'.in1 (λn s₀ r s₁=>r= .ok (.ret .none)∧(n=0∧sV [a,C,s''.heap.objs.size+1,s''.heap.objs.size] s₀ s₁)) (Mz h₀ V n a g [a,C,s''.heap.objs.size+1,s''.heap.objs.size]) n s''
    (.func body (envOf qual scope C f cdv)) ((dc prog w).den (.func body (envOf qual scope C f cdv))) [] s'')
  (h:∀own a g' h' tk,Fr h₀ L h' m->dJ h₀ L h' (own++news)->Apart own news->mP prog w A' h₀ n V a s.gens.size 0 own g'->bT s.gens g'->R (.ok (.ret (.ref a))) {s with heap:=h',gens:=g',toks:=tk}):
  nM (dc prog w) A (.call (.ref f) args) R s:=by
 have X:=X₀.keeps F.keep;have hl₀:h₀.NoLimit:=T.nolimit;refine codeAny_call_generator hroom (X _ _ ho) rfl hco hgen rfl (codeRec_of X hcd) (hbind _ _ _ _ ?_);refine JI hcell hloc (λh₁ hns hsb=>?_) hk;have hz:h₁.objs.size=s.heap.objs.size+1:=by rw[hsb.1,fq]
 have hlt:s.heap.objs.size<h₁.objs.size:=hz▸bI _;have up:∀b o,s.heap.get? b=some o->h₁.get? b=some o:=λb o e=>hsb.extBut b o (bc (bw e)) (aR _ e)
 have hLt:L<s.heap.objs.size:=by obtain⟨o,_,_,e,_⟩:=F.ns;exact bw e
 refine⟨hl₀.keeps λb o e=>up b o (F.keep b o e),?_⟩;show R (.ok (.ret (.ref h₁.objs.size))) _;obtain⟨oC,es,ep,hoC,hdC,_,hmC⟩:=id hns;have F₁:Fr h₀ L h₁ m:=⟨F.ns.at' λo e=>up L o e,λb o e=>up b o (F.keep b o e),F.above⟩;have hC0:h₀.objs.size<=s.heap.objs.size:=aq F.above (b0 hLt);refine h [(h₁.objs.size,lq s.gens.size (.str name (s.toks+binds.length)) (.str qual (s.toks+binds.length+1))),(s.heap.objs.size,oC)] h₁.objs.size _ _ _ (F₁.push _) (λp hp=>?_) (λp hp q hq=>?_) ⟨⟨_,_,ah⟩,?_,?_⟩ ?_
 ·rcases aT.mp hp with hp|hp
  ·rcases aE.mp hp with rfl|hp
   ·exact⟨bE _ rfl,cu (dD hLt hlt),dj (aq hC0 (b0 hlt))⟩
   ·rw[a8.mp hp]
    exact⟨aR _ hoC,cu hLt,dj hC0⟩
  ·exact⟨aR _ (up _ _ (N p hp).1),(N p hp).2⟩
 ·have hq:=bw (N q hq).1
  rcases aE.mp hp with rfl|hp
  ·exact cu (dD hq hlt)
  ·rw[a8.mp hp];exact cu hq
 ·intro p hp
  rcases aE.mp hp with rfl|hp
  ·exact .inl (by simp [gA])
  ·rw[a8.mp hp]
   exact .inr ⟨es,ep,hdC,by rw[hmC];exact haddr⟩
 ·refine⟨_,Array.getElem?_push_size ..,λs'' hi hk'=>⟨[h₁.objs.size,s.heap.objs.size,s''.heap.objs.size+1,s''.heap.objs.size],?_,?_,rfl,?_⟩⟩
  ·intro p hp
   rcases aE.mp hp with rfl|hp
   ·simp
   ·rw[a8.mp hp];simp
  ·intro b hb
   simp only [aE,iV,or_false]at hb;rcases hb with rfl|rfl|rfl|rfl
   ·left;simp
   ·left;simp
   ·right;exact gH _
   ·right;exact bF _
  ·have hCs:s''.heap.get? s.heap.objs.size=some oC:=hi _ (af _ ah)
   have has:=hi _ ah;exact seg s.heap.objs.size h₁.objs.size s.gens.size _ _ s'' hC0 hlt (bw has) ⟨hns.at' λo e=>by rw[hoC]at e;cases e;exact hCs,hk',hC0⟩ has
 ·refine⟨by rw[Jo];exact gH _,λi hi=>?_,λhb=>?_⟩
  ·rw[Cr]
   exact if_neg (bc hi)
  ·exact AllBare.push hb rfl
end
end
variable{prog:eC}{s₀:aC}
section
set_option backward.match.sparseCases true
open Sem (wp)
theorem Iv{w:gf}{A:dR}(hh:A.handled=none)(it:aI)(x:ax)(t:lP):
  Draws prog w A it [it] x.cps.size (λi v=>∃c u,x.cps[i]? =some c∧v= .str ⟨#[c]⟩ u) (λi h=>h.IsStrIter it (dZ x) x t i):=by
 cases ha:x.cps.all (·<128)
 ·have e:dZ x="str_iterator":=by simp [dZ,ha]
  rw[e];exact Draws.strWide hh it x t
 ·have e:dZ x="str_ascii_iterator":=by simp [dZ,ha]
  rw[e];exact Draws.strAscii hh it x t
structure oy(O:List aI)(h₀:fk)(s₀ s:aC)(rest:gO):Prop where
 same:s={s₀ with heap:=s.heap,toks:=s.toks}
 all:∀b o,b∉O->s₀.heap.get? b=some o->h₀.get? b=some o∨(b,o)∈rest
 out:∀p∈rest,p.1∉O
theorem oy.to{s:aC}(x:oy O h₀ s₀ s rest)(h':fk)(tk:Nat):oy O h₀ s₀ {s with heap:=h',toks:=tk} rest:=
 ⟨by have:=x.same;rw[this],x.all,x.out⟩
theorem CU{C:aI}{s:aC}(hC:C∈O)(hk:Kept h₀ s.heap):∃rest,dJ h₀ C s.heap rest∧oy O h₀ s s rest:=by
 refine⟨ownOf h₀ ((cQ s.heap.objs.size).filter λb=>b∉O) s.heap,news_ownOf (by simp [hC]),rfl,λb o hb e=>?_,λp hp=>?_⟩
 ·cases q:h₀.get? b with
  |some o'=>left;have:=hk b o' q;rw[e]at this;exact this▸rfl
  |none=>right;exact mem_ownOf (by simp [hb,bw e]) q e
 ·have:=ownOf_sub p hp
  simpa using (iq.mp this).2
theorem uA{C:aI}{m:ax->Option ar}{s:aC}{pre:gO}(R:oy O h₀ s₀ s rest)(F:Fr h₀ C s.heap m)(N:dJ h₀ C s.heap (pre++rest)):sV O s₀ s:=
 ⟨s.heap,s.toks,R.same,λb o hb e=>by
  rcases R.all b o hb e with h|h
  ·exact F.keep b o h
  ·exact(N _ (au _ h)).1⟩
noncomputable abbrev wF(it:aI)(i:Int)(old:ar):dU:={cls:=.type "enumerate",dict:=none,data:=.fields #[.none,.bool false,.ref it,fy i,.none,old],slots:=#[]}
def Pd(x:ax)(t:lP)(i:Nat)(o:dU):Prop:=o.cls= .type (dZ x)∧o.data= .fields #[.str x t,.int i 0]
theorem wc{x:ax}{t:lP}(h:Pd x t i o):o.cls∈gA:=by
 rw[h.1];unfold dZ;split<;>simp [gA]
theorem se{V:Nat->List ar->Prop}{N:Nat}{C e it g T:aI}{nm qn old:ar}{i:Int}{oi:dU}{vals:List ar}{m:ax->Option ar}{s:aC}{kap:Resume->aC->Prop}{S:aC->Prop}
  (F:Fr h₀ C s.heap m)(Nw:dJ h₀ C s.heap ((T,iy vals)::(a,lq g nm qn)::(e,wF it i old)::(it,oi)::rest))(hi:oi.cls∈gA)
  (hT:T≠a∧T≠e∧T≠it∧∀p∈rest,p.1≠T)(hm:m "addr"≠none)(R:oy [a,C,e,it] h₀ s₀ s rest)(hV:V (N - 1 - k) vals)
  (cont:∀(s'':aC) rest'',Fr h₀ C s''.heap m->dJ h₀ C s''.heap ((a,lq g nm qn)::(e,wF it i old)::(it,oi)::rest'')->oy [a,C,e,it] h₀ s'' s'' rest''->S s'')
  (hk:∀s'',S s''->kap (.send .none) s''):Mz h₀ V N a g [a,C,e,it] k s₀ (.ref T) s kap:=by
 obtain⟨oC,es,ep,hC,hd,hsk,hmC⟩:=id F.ns;have hTC:T≠C:=(Nw _ ah).2.1;have hTO:T∉[a,C,e,it]:=by simp [hT.1,hT.2.1,hT.2.2.1,hTC]
 refine⟨T,vals,[(a,lq g nm qn),(C,oC),(e,wF it i old),(it,oi)],hV,?_,hTO,Nw.get (by simp),rfl,?_,?_,⟨nm,qn,by simp⟩,uA (pre:=[_,_,_,_]) R F Nw,λs'' hin hkept=>hk _ ?_⟩
 ·cases q:s₀.heap.get? T with
  |none=>rfl
  |some o=>
   rcases R.all T o hTO q with h|h
   ·rw[(Nw _ ah).2.2]at h;exact aJ h
   ·exact absurd rfl (hT.2.2.2 _ h)
 ·intro p hp
  simp only [aE,iV,or_false]at hp;rcases hp with rfl|rfl|rfl|rfl
  ·exact Nw.get (by simp)
  ·exact hC
  ·exact Nw.get (by simp)
  ·exact Nw.get (by simp)
 ·intro p hp
  simp only [aE,iV,or_false]at hp;rcases hp with rfl|rfl|rfl|rfl
  ·exact .inl (by simp [gA])
  ·exact .inr ⟨es,ep,hd,by rw[hmC];exact hm⟩
  ·exact .inl (by simp [gA])
  ·exact .inl hi
 ·obtain⟨rest'',Nr,Rr⟩:=CU (O:=[a,C,e,it]) (C:=C) (s:=s'') (by simp) hkept
  have hC'':s''.heap.get? C=some oC:=hin (C,oC) (by simp);refine cont s'' rest'' ⟨F.ns.at' λo e'=>by rw[hC]at e';cases e';exact hC'',hkept,F.above⟩ (λp hp=>?_) Rr;simp only [aE]at hp;rcases hp with rfl|rfl|rfl|hp
  ·exact⟨hin _ (by simp),(Nw _ (by simp)).2⟩
  ·exact⟨hin _ (by simp),(Nw _ (by simp)).2⟩
  ·exact⟨hin _ (by simp),(Nw _ (by simp)).2⟩
  ·exact Nr p hp
end
section
set_option backward.match.sparseCases true
open Sem (wp)
section
theorem xi{it:aI}{x:ax}{t:lP}{Q:ar->aC->Prop}(hh:A.handled=none)
  (hit:s.heap.IsStrIter it "str_ascii_iterator" x t i)(hx:x.cps[i]? =none)
  (hE:∀h' e,uo it s.heap h'->(∃o,h'.get? it=some o∧o.cls= .type "str_ascii_iterator")->(∃o,h'.get? e=some o∧o.cls= .type "StopIteration")->E (.ref e) {s with heap:=h'}):
  aL (dc prog w) A (cV (.ref it)) Q E s:=by
 obtain⟨o,ho,hc,hd⟩:=id hit;unfold cV;refine az (fV (name:=aa "__next__") hit.typeIs vL
  (fw vL hit.typeIs F.entry_str_ascii_iterator_next ?_ (F.args_str_ascii_iterator_next_1 _)))
 show aL _ _ (yx (.ref it) 0>>=_) _ _ s;refine az (gU ho hd (x:=.str x t) rfl ?_);show aL _ _ (yx (.ref it) 1>>=_) _ _ s;refine az (gU ho hd (x:=.int i 0) rfl ?_);simp only [Jk,hx];refine az (pC (az (wpAny_setField ho hd (by simp) (az (wpAny_letGo ?_)))));show aL _ _ (Fz (.type "StopIteration") []>>=_) _ _ _;refine az ?_;simp only [Fz,JM];refine az (ed ?_ (by size_fits));refine az (m:=ko _ _) (rG (a:=eG) (by first|rfl|(simp only [ko];rfl)) ?_);refine ed ?_ (by size_fits);simp only [raiseNew];refine az (DL ?_)
 first|rw[show A.in1.handled=none from hh]|rw[hh]
 refine az (aV (JH ?_));exact hE _ _ (((jP ..).extBut.push _).push _) ⟨_,aR _ (aR _ (iC _ ho (Ch (FA hd _)))),(Je ..).trans hc⟩ ⟨_,bE _ rfl,rfl⟩
theorem yV{it:aI}{x:ax}{t:lP}{Q:ar->aC->Prop}(hh:A.handled=none)
  (hit:s.heap.IsStrIter it "str_iterator" x t i)(hx:x.cps[i]? =none)
  (hE:∀h' e,uo it s.heap h'->(∃o,h'.get? it=some o∧o.cls= .type "str_iterator")->(∃o,h'.get? e=some o∧o.cls= .type "StopIteration")->E (.ref e) {s with heap:=h'}):
  aL (dc prog w) A (cV (.ref it)) Q E s:=by
 obtain⟨o,ho,hc,hd⟩:=id hit;unfold cV;refine az (fV (name:=aa "__next__") hit.typeIs A4
  (fw A4 hit.typeIs F.entry_str_iterator_next ?_ (F.args_str_iterator_next_1 _)))
 show aL _ _ (yx (.ref it) 0>>=_) _ _ s;refine az (gU ho hd (x:=.str x t) rfl ?_);show aL _ _ (yx (.ref it) 1>>=_) _ _ s;refine az (gU ho hd (x:=.int i 0) rfl ?_);simp only [Jk,hx];refine az (pC (az (wpAny_setField ho hd (by simp) (az (wpAny_letGo ?_)))));show aL _ _ (Fz (.type "StopIteration") []>>=_) _ _ _;refine az ?_;simp only [Fz,JM];refine az (ed ?_ (by size_fits));refine az (m:=ko _ _) (rG (a:=eG) (by first|rfl|(simp only [ko];rfl)) ?_);refine ed ?_ (by size_fits);simp only [raiseNew];refine az (DL ?_)
 first|rw[show A.in1.handled=none from hh]|rw[hh]
 refine az (aV (JH ?_));exact hE _ _ (((jP ..).extBut.push _).push _) ⟨_,aR _ (aR _ (iC _ ho (Ch (FA hd _)))),(Je ..).trans hc⟩ ⟨_,bE _ rfl,rfl⟩
theorem Qw{it:aI}{x:ax}{t:lP}{Q:ar->aC->Prop}(hh:A.handled=none)
  (hit:s.heap.IsStrIter it (dZ x) x t i)(hx:x.cps[i]? =none)
  (hE:∀h' e,uo it s.heap h'->(∃o,h'.get? it=some o∧o.cls= .type (dZ x))->(∃o,h'.get? e=some o∧o.cls= .type "StopIteration")->E (.ref e) {s with heap:=h'}):
  aL (dc prog w) A (cV (.ref it)) Q E s:=by
 cases ha:x.cps.all (·<128)
 ·have e:dZ x="str_iterator":=by simp [dZ,ha]
  rw[e]at hit hE;exact yV hh hit hx hE
 ·have e:dZ x="str_ascii_iterator":=by simp [dZ,ha]
  rw[e]at hit hE;exact xi hh hit hx hE
theorem MH{e it:aI}{x:ax}{t:lP}{j:Int}{old:ar}{Q:Option ar->aC->Prop}(hh:A.handled=none)(he:IsEnum s.heap e it j old)
  (hit:s.heap.IsStrIter it (dZ x) x t i)(hx:x.cps[i]? =none)
  (hQ:∀h',uo it s.heap h'->(∃o,h'.get? it=some o∧o.cls= .type (dZ x))->Q none {s with heap:=h'}):aL (dc prog w) A (i9 (.ref e)) Q E s:=by
 have hT:s.TypeIs (.ref e) "enumerate":=⟨_,he,rfl⟩;unfold i9;refine az (tw (fV (name:=aa "__next__") hT Fc
  (fw Fc hT F.entry_enumerate_next ?_ (F.args_enumerate_next_1 _))))
 show aL _ _ (yx (.ref e) 2>>=_) _ _ _;refine az (gU he rfl (x:=.ref it) rfl ?_);refine az (Qw (A:=A.in1) hh hit hx λh' x' he' hc' hx'=>?_);obtain⟨o,ho,hc⟩:=hx';refine az (wT (T:="StopIteration") (b:=true) ⟨o,ho,hc⟩ AK ?_);exact aV (hQ _ he' hc')
end
end
end Mine
section
set_option maxHeartbeats 40000000
set_option rowWalk.seconds 0
set_option pp.deepTerms false
set_option pp.maxSteps 3000
set_option tactic.hygienic true
namespace Mine
local macro_rules | `(tactic|walk_at "ite")=> `(tactic|(k_here;first
 |(refine ite_pos (by first|(with_reducible assumption)|(simp only [decide_eq_true_eq,beq_iff_eq,bne_iff_ne,ne_eq,aM,jk,eI,Fd,beq_eq_false_iff_ne,decide_eq_false_iff_not];first|(with_reducible assumption)|omega)) ?_)
 |(refine ite_neg (by first|(with_reducible assumption)|(simp only [decide_eq_true_eq,beq_iff_eq,bne_iff_ne,ne_eq,aM,jk,eI,Fd,beq_eq_false_iff_ne,decide_eq_false_iff_not];first|(with_reducible assumption)|omega)) ?_)
 |(refine ite_isFalse (by with_reducible assumption) ?_)))
noncomputable def bz:List Nat->Nat->Bool->List (Nat×List Nat)
 |[],_,false=>[]
 |[],i,true=>[(i - 1,[92])]
 |c::cs,i,true=>(i,[92,c])::bz cs (i+1) false
 |c::cs,i,false=>if c=92 then bz cs (i+1) true else(i,[c])::bz cs (i+1) false
noncomputable abbrev iM(x:ax):List (Nat×List Nat):=bz x.cps.toList 0 false
inductive NH(x:ax)(j:Nat)(vals:List ar):Prop
 |mk(p)(us)(t)(u)(p1:(iM x)[j]? =some (p,us))(p2:vals=[.int p t,.str ⟨us.toArray⟩ u]):NH x j vals
noncomputable abbrev zQ(x:ax)(t:lP)(vp:ar)(b:Bool)(vc:Option ar):ax->Option ar:=λy=>if y="ch" then vc else if y="pos" then some vp else if y="escape" then some (.bool b)else if y="addr" then some (.str x t)else none
theorem si{x:ax}{t:lP}{vp:ar}{b:Bool}{vc:Option ar}:zQ x t vp b vc "addr"≠none:=by
 simp only [zQ];rw[if_neg (by decide+kernel),if_neg (by decide+kernel),if_neg (by decide+kernel)];simp
theorem oM{x:ax}{t:lP}{vp:ar}{b:Bool}{vc:Option ar}{y:ax}(h1:y≠"ch")(h2:y≠"pos")(h3:y≠"escape")(h4:y≠"addr"):zQ x t vp b vc y=none:=(if_neg h1).trans ((if_neg h2).trans ((if_neg h3).trans (if_neg h4)))
theorem ud{x:ax}{t:lP}{vp:ar}{b:Bool}{vc:Option ar}{m:ax->Option ar}(h1:m "ch"=vc)(h2:m "pos"=some vp)(h3:m "escape"=some (.bool b))(h4:m "addr"=some (.str x t))(h5:∀y:ax,y≠"ch"->y≠"pos"->y≠"escape"->y≠"addr"->m y=none)(y:ax):m y=zQ x t vp b vc y:=by
 by_cases a:y="ch"
 ·exact a▸h1
 ·by_cases b:y="pos"
  ·exact b▸h2
  ·by_cases c:y="escape"
   ·exact c▸h3
   ·by_cases d:y="addr"
    ·exact d▸h4
    ·exact(h5 y a b c d).trans (oM a b c d).symm
theorem Sl{x y:ax}{v:ar}(h:y≠x):mq y [(x,v)]=none:=by
 show(match y==x with|true=>some v|false=>none)=none;rw[beq_eq_false_iff_ne.mpr h]
theorem Fr.cong{h₀ h:fk}{L:aI}{m m':ax->Option ar}(F:Fr h₀ L h m)(e:∀y,m y=m' y):Fr h₀ L h m':=(funext e:m=m')▸F
inductive yt(h₀:fk)(x:ax)(t:lP)(C a e it g:aI)(nm qn:ar)(k n:Nat)(s₀ s:aC):Prop
 |mk(i:Nat)(b:Bool)(vp:ar)(vc:Option ar)(old:ar)(oi:dU)(rest:gO)(done:List (Nat×List Nat))(p1:i<=x.cps.size)(p2:k=x.cps.size - i)(p3:n=(bz (x.cps.toList.drop i) i b).length)(p4:iM x=done++bz (x.cps.toList.drop i) i b)(p5:Fr h₀ C s.heap (zQ x t vp b vc))(p6:dJ h₀ C s.heap ((a,lq g nm qn)::(e,wF it i old)::(it,oi)::rest))(p7:Pd x t i oi)(p8:(b=true->0<i∧∃tp,vp= .int ((i - 1:Nat):Int) tp))(p9:oy [a,C,e,it] h₀ s₀ s rest):yt h₀ x t C a e it g nm qn k n s₀ s
theorem Gv{M:E6}{A:dR}{R:GenEnd}{Y:vI}{c:FH}{fs:List Frame}(I:Nat->Nat->aC->aC->Prop)
  (turn:∀k n s₀ s,I k n s₀ s->(∀k' n' s₀' s',k'<k->I k' n' s₀' s'->Jd M A R Y n' s₀' c (M.den c) fs s')->Jd M A R Y n s₀ c (M.den c) fs s):
  ∀k n s₀ s,I k n s₀ s->Jd M A R Y n s₀ c (M.den c) fs s:=by
 have all:∀K k n s₀ s,k<K->I k n s₀ s->Jd M A R Y n s₀ c (M.den c) fs s:=by
  intro K;induction K with
  |zero=>intro k n s₀ s h;exact absurd h (vJ _)
  |succ K ih=>exact λk n s₀ s h hI=>turn k n s₀ s hI λk' n' s₀' s' hk'=>ih k' n' s₀' s' (bx hk' (sY h))
 exact λk n s₀ s=>all (k+1) k n s₀ s (bI _)
theorem yl{α:Type}{L done r:List α}{y:α}(h:L=done++y::r):L[L.length - 1 - r.length]? =some y:=by
 subst h
 have:(done++y::r).length - 1 - r.length=done.length:=by
  rw[aK];exact rO _ _
 rw[this,bp (bF _),fW];rfl
theorem ER{d:aI}{l:gO}(h:AllLt d l):∀p∈l,p.1<d:=by
 induction l with
 |nil=>intro p hp;cases hp
 |cons q r ih=>
  intro p hp;rcases aE.mp hp with e|hp
  ·rw[e];exact h.1
  ·exact ih h.2 p hp
theorem IJ:aa "\\"=⟨#[92]⟩:=by kernel_rfl
theorem sh{a T e it:aI}{rest:gO}(h:a<T∧e<T∧it<T∧AllLt T rest):T≠a∧T≠e∧T≠it∧∀p∈rest,p.1≠T:=
 ⟨cu h.1,cu h.2.1,cu h.2.2.1,λp hp=>bc (ER h.2.2.2 p hp)⟩
theorem Ā{M:E6}{A:dR}{E:ar->aC->Prop}{s:aC}{name:ax}{scope:iS}{L a:aI}{cd:ar}{h₀:fk}{m:ax->Option ar}{news:gO}{x:ax}{v:ar}{Q:Unit->aC->Prop}(F:Fr h₀ L s.heap m)(N:dJ h₀ L s.heap news)
  (h:∀h',h'.objs.size=s.heap.objs.size->Fr h₀ L h' (λy=>if y=x then some v else m y)->dJ h₀ L h' news->Q () {s with heap:=h',toks:=s.toks+1})
  (hk:scope.kind= .function)(hl:(envOf name scope L a cd).kindOf x=some .local):
  aL M A (EZ (envOf name scope L a cd) x v) Q E s:=
 Jc hl F.ns (λh' hn hs=>h h' hs.1 (F.set hn hs) (N.set hs))
  (by show(scope.kind== .class||(scope.kind== .module&&L != yu))=false;rw[hk];rfl)
local macro_rules | `(tactic|walk_at "storeName")=> `(tactic|(k_here;k_dflt (refine' Ā ?F ?N ?_ ?a ?b;(case F=>k_asm);(case N=>k_asm);(case a=>rfl);(case b=>rfl);k_whole);intro h' hz' F' N'))
local macro_rules | `(tactic|walk_at "call type:enumerate")=> `(tactic|(k_here;k_dflt (refine call_enumerate_str ?_);intro h' he' hit' hz' hk'))
section
variable{w:gf}{mean:jj->Option ar}{mg mb:ax->Option ar}
set_option maxHeartbeats 1000000 in
theorem MF{pT:eC}{lT:List ax}{news:gO}{x:ax}{t:lP}{dp un:Nat}{gd:Option (List FH)}{cn:ax}{cs:iS}{a:aI}{ccd:ar}{cl:List (ax×aI)}{outer:List qk}{A₀:dR}{base h₀:fk}{L:aI}{m:ax->Option ar}{s:aC}{Q E:ar->aC->Prop}
  (B:oW A₀ base outer h₀)(F:Fr h₀ L s.heap m)(X:(hp w.params).In h₀)(N:dJ h₀ L s.heap news)(T:JO pT lT mean mg mb h₀)(hk:cs.kind= .function)
  (hd':dp+4<aP)(hu:un+32<df)
  (hQ:∀own a' g' h' tk,Fr h₀ L h' m->dJ h₀ L h' (own++news)->Apart own news->mP aS w (AJ dp un gd cn cs L a ccd cl outer) h₀ (iM x).length (NH x) a' s.gens.size 0 own g'->bT s.gens g'->Q (.ref a') {s with heap:=h',gens:=g',toks:=tk}):
  aL (dc aS w) (AJ dp un gd cn cs L a ccd cl outer) (call (.ref 45) [.str x t] []) Q E s:=by
 (have _x0:(dd,Mine.hp)=(dd,Mine.hp):=by(k_fill;rfl));clear _x0
 refine uj ?_
 k_dflt (refine' IA (A':=AJ dp un gd cn cs L a ccd cl outer) (K:=hp w.params) (binds:=[("addr",.str x t)]) (n:=(iM x).length) (V:=NH x) F X N T ?k6 ?k7 ?k8 ?k9 ?kB ?c2 ?c3 ?c4 ?c5 ?cA ?seg ?hh;(case k6=>k_is);(case k7=>k_is);(case k8=>ktr_room);(case k9=>exact(dz rfl));(case c5=>decide);(case kB=>exact locs (by kernel_rfl));(case c2=>exact rfl);(case c3=>exact rfl);(case c4=>exact rfl);(case cA=>simp))
 case hh=>exact hQ
 case seg=>
  intro C a₁ g nm qn s'' hC hCa haz FC hga;refine seg_func ?_;have hh:(AJ dp un gd cn cs L a ccd cl outer).in1.handled=none:=rfl;obtain⟨rest,Nr,R₀⟩:=CU (O:=[a₁,C,s''.heap.objs.size+1,s''.heap.objs.size]) (C:=C) (s:=s'') (by simp) FC.keep;have N₁:dJ h₀ C s''.heap ((a₁,lq g nm qn)::rest):=λp hp=>by
   rcases aE.mp hp with rfl|hp
   ·exact⟨hga,cu hCa,dj (aq hC (b0 hCa))⟩
   ·exact Nr p hp
  clear F N hQ Nr;refine d0 (JL ?_)
  k_steps
  rename_i h1 z1 F1 N1;replace R₁:=R₀.to h1 (s''.toks+1+1);refine d0 (JL ?_)
  k_steps
  rename_i h2 z2 F2 N2;refine d0 (Ks (λ_=>rfl) ?_)
  k_steps
  rename_i h3 he3 hit3 hz3 hk3;have zz:h2.objs.size=s''.heap.objs.size:=yB z2 z1;replace he3:IsEnum h3 (h2.objs.size+1) h2.objs.size 0 .none:=he3;replace hit3:h3.IsStrIter h2.objs.size (dZ x) x t 0:=hit3;refine wpAny_pyIter_enum he3 λp=>?_
  obtain⟨oi₀,hoi₀,hoc₀⟩:=hit3;have S₀:yt h₀ x t C a₁ (s''.heap.objs.size+1) s''.heap.objs.size g nm qn x.cps.size (iM x).length s'' {s'' with heap:=h3,toks:=s''.toks+1+1+1}:=by
   refine⟨0,false,_,none,.none,oi₀,rest,[],bC _,rfl,rfl,rfl,Fr.cong (m:=λy=>if y="escape" then some (.bool false)else if y="pos" then some (.int 0 s''.toks)else mq y [(("addr":ax),o5 x t)].reverse) ⟨F2.ns.at' λo e'=>hk3 _ o e',λb o e'=>hk3 b o (F2.keep b o e'),F2.above⟩ (ud rfl rfl rfl rfl λy a b c d=>(if_neg c).trans ((if_neg b).trans (Sl d))),(λp hp=>?_),hoc₀,(λe'=>nomatch e'),R₀.to _ _⟩;have z0:h₀.objs.size<=s''.heap.objs.size:=aq hC (b0 (dD hCa haz));rcases aE.mp hp with rfl|hp
   ·exact⟨hk3 _ _ (N2 _ ah).1,(N2 _ ah).2⟩
   ·rcases aE.mp hp with rfl|hp
    ·exact⟨by rw[<-zz];exact he3,cu (dF (dD hCa haz)),dj (gG z0)⟩
    ·rcases aE.mp hp with rfl|hp
     ·exact⟨by rw[<-zz];exact hoi₀,cu (dD hCa haz),dj z0⟩
     ·exact⟨hk3 _ _ (N2 _ (af _ hp)).1,(N2 _ (af _ hp)).2⟩
  rw[show({heap:=h2,gens:=s''.gens,drawn:=s''.drawn,toks:=s''.toks+1+1+1,os:=s''.os}:aC).heap.objs.size=s''.heap.objs.size from zz];have hal:a₁<s''.heap.objs.size:=haz;refine have H:∀(it:aI)(A1:dR)(R1:GenEnd)(Y1:vI),a₁<it->A1.handled=none->(∀s₀ s,sV [a₁,C,it+1,it] s₀ s->R1 0 s₀ (.ok (.ret .none)) s)->(∀k s₀ v s kap,Mz h₀ (NH x) (iM x).length a₁ g [a₁,C,it+1,it] k s₀ v s kap->Y1 k s₀ v s kap)->∀k n s₀ s,yt h₀ x t C a₁ (it+1) it g nm qn k n s₀ s->Jd (dc aS w) A1 R1 Y1 n s₀ (.forLoop _ (.ref (it+1)) _ _ _) (Model.den _ (.forLoop _ (.ref (it+1)) _ _ _)) _ s:=?_;H _ _ _ _ hal hh (λ_ _ h=>by exact⟨rfl,rfl,h⟩) (λ_ _ _ _ _ h=>h) _ _ _ _ S₀;clear S₀ R₀ R₁ F1 F2 N1 N2 he3 hoi₀ hoc₀ hk3 hz3 N₁ hga FC z1 z2 zz hal hh;intro it A1 R1 Y1 hal hh hR hY;refine λk0 n0 s0 s9 h0=>Gv (yt h₀ x t C a₁ (it+1) it g nm qn) (λk n s₀ s₁ hI ih=>?_) k0 n0 s0 s9 h0
  obtain⟨i,b,vp,vc,old,oi,rest,done,hi,rfl,rfl,hdn,F,N,hoi,hb,R⟩:=hI;have hne:it+1≠it:=JR _;refine y8 ?_
  by_cases hlt:i<x.cps.size
  ·refine wpAny_pyNext_enum_itemD (Iv (by exact hh) it x t) (N.get (af _ ah)) ⟨oi,N.get (af _ (af _ ah)),hoi⟩ hlt hne (by simp) λxv h1 tk1 hP hE hI' hT hz hk=>?_
   obtain⟨c,u,hc,rfl⟩:=hP;show aL _ _ (jH _ _ _) _ _ _;refine wpAny_letOwnedTupleGo_enum hE λh2 hE2 hs2=>?_
   have mT:h2.IsTuple s₁.heap.objs.size #[.int i tk1,.str ⟨#[c]⟩ u]:=⟨_,(hs2.2 _ (λe'=>by
    have:=N.get (af _ ah);rw[<-e']at this;exact absurd (bw this) (dW _))).trans hT,rfl,_,rfl⟩
   refine wpAny_assign_Tuple (by exact hh) mT rfl rfl λh3 hx3=>?_
   show aL _ _ (do sC [.str ⟨#[c]⟩ u] (kq (.Name _ _) _ (.int i tk1));do sC [] (kq (.Name _ _) _ (.str ⟨#[c]⟩ u));pure ()) _ _ _;refine az (cE (wpAny_assign_Name ?_));obtain⟨oi',hoi',hoc'⟩:=hI';have he0:=N _ (af _ ah);have hi0:=N _ (af _ (af _ ah));have live:∀b o,s₁.heap.get? b=some o->b≠s₁.heap.objs.size+0:=λb o e' q=>absurd (bw e') (by rw[q];exact dW _)
   have up:∀b o,b≠it+1->b≠it->s₁.heap.get? b=some o->h3.get? b=some o:=λb o q1 q2 e'=>
    hx3 b o (bc (bw ((hs2.2 b q1).trans (hk b o q1 q2 e')))) ((hs2.2 b q1).trans (hk b o q1 q2 e'))
   have F3:Fr h₀ C h3 (zQ x t vp b vc):=⟨F.ns.at' λo e'=>up C o (qf he0.2.1) (qf hi0.2.1) e',λb o e'=>up b o (λq=>by rw[q,he0.2.2]at e';cases e') (λq=>by rw[q,hi0.2.2]at e';cases e') (F.keep b o e'),F.above⟩;have N3:dJ h₀ C h3 ((a₁,lq g nm qn)::(it+1,wF it ((i:Int)+1) (.str ⟨#[c]⟩ u))::(it,oi')::rest):=λp hp=>by
    rcases aE.mp hp with rfl|hp
    ·exact⟨up _ _ (bc (dF hal)) (bc hal) (N _ ah).1,(N _ ah).2⟩
    ·rcases aE.mp hp with rfl|hp
     ·exact⟨hx3 _ _ (bc (bw hE2)) hE2,he0.2⟩
     ·rcases aE.mp hp with rfl|hp
      ·have q:=(hs2.2 it (qf hne)).trans hoi'
       exact⟨hx3 _ _ (bc (bw q)) q,hi0.2⟩
      ·have q:=N p (af _ (af _ (af _ hp)))
       have q2:=R.out p hp;simp only [aE,iV,or_false,not_or]at q2;exact⟨up _ _ q2.2.2.1 q2.2.2.2 q.1,q.2⟩
   clear F N he0 hi0 hE2 hoi' hx3 up hs2 mT hT hE hk live hz;refine Ā F3 N3 (λh4 _ F4 N4=>?_) rfl rfl;refine az (cE (wpAny_assign_Name (Ā F4 N4 (λh5 _ F5 N5=>aV ?_) rfl rfl)));replace F5:Fr h₀ C h5 (zQ x t (.int i tk1) b (some (.str ⟨#[c]⟩ u))):=Fr.cong F5 (ud rfl rfl rfl rfl λy a b c d=>(if_neg a).trans ((if_neg b).trans (oM a b c d)));clear F3 N3 F4 N4;have R5:=R.to h5 (tk1+1+1+1);clear R;have hdrop:x.cps.toList.drop i=c::x.cps.toList.drop (i+1):=by
    rw[wW (by simpa using hlt)]
    congr 1
    have:=l9 hlt;rw[hc]at this
    simpa using (aj this).symm
   cases b with
   |true=>
    have hn:(bz (x.cps.toList.drop i) i true).length=(bz (x.cps.toList.drop (i+1)) (i+1) false).length+1:=by rw[hdrop];rfl
    rw[hn];refine d0 (uB ?_)
    k_steps
    refine d0 (AI rfl rfl rfl ?_)
    k_steps
    rename_i D6 h6 F6 N6 l6 kap hkap;have hdn':iM x=done++(i,[92,c])::bz (x.cps.toList.drop (i+1)) (i+1) false:=by rw[hdn,hdrop];rfl
    refine hY _ _ _ _ _ (se F6 N6 (wc hoc') (sh l6) si (R5.to _ _) ⟨i,[92,c],_,_,yl hdn',rfl⟩ (λs7 rest7 F7 N7 R7=>?_) (λs7 h=>hkap .none s7 h));clear F6 N6 hkap R5;refine d0 (JL ?_)
    k_steps
    rename_i h8 z8 F8 N8;refine eO (eO (E1 rfl (ih (x.cps.size - (i+1)) _ _ _ (ja hlt (bI i)) ⟨i+1,false,.int i tk1,some (.str ⟨#[c]⟩ u),.str ⟨#[c]⟩ u,oi',rest7,done++[(i,[92,c])],hlt,rfl,rfl,by rw[hdn'];simp,Fr.cong F8 (ud rfl rfl rfl rfl λy a b c d=>(if_neg c).trans (oM a b c d)),N8,hoc',(λe'=>nomatch e'),R7.to _ _⟩)))
   |false=>
    refine d0 (uB ?_)
    k_steps
    refine d0 (uB ?_)
    k_steps
    ·rename_i hc'
     have hc92:c=92:=by rw[IJ]at hc';simpa using hc'
     subst hc92;have hn:(bz (x.cps.toList.drop i) i false)=(bz (x.cps.toList.drop (i+1)) (i+1) true):=by rw[hdrop];rfl
     rw[hn];refine d0 (JL ?_)
     k_steps
     rename_i h8 z8 F8 N8;refine eO (eO (eO (E1 rfl (ih (x.cps.size - (i+1)) _ _ _ (ja hlt (bI i)) ⟨i+1,true,.int i tk1,some (.str ⟨#[92]⟩ u),.str ⟨#[92]⟩ u,oi',rest,done,hlt,rfl,rfl,by rw[hdn,hn],Fr.cong F8 (ud rfl rfl rfl rfl λy a b c d=>(if_neg c).trans (oM a b c d)),N8,hoc',(λ_=>⟨jM i,tk1,rfl⟩),R5.to _ _⟩))))
    ·rename_i hc'
     have hc92:c≠92:=λe=>by subst e;rw[IJ]at hc';simp at hc'
     have hn:(bz (x.cps.toList.drop i) i false)=(i,[c])::(bz (x.cps.toList.drop (i+1)) (i+1) false):=by rw[hdrop];simp [bz,hc92]
     rw[hn,iW];refine d0 (AI rfl rfl rfl ?_)
     k_steps
     rename_i D6 h6 F6 N6 l6 kap hkap;have hdn':iM x=done++(i,[c])::bz (x.cps.toList.drop (i+1)) (i+1) false:=by rw[hdn,hn]
     refine hY _ _ _ _ _ (se F6 N6 (wc hoc') (sh l6) si (R5.to _ _) ⟨i,[c],_,_,yl hdn',rfl⟩ (λs7 rest7 F7 N7 R7=>?_) (λs7 h=>hkap .none s7 h));refine eO (eO (eO (E1 rfl (ih (x.cps.size - (i+1)) _ _ _ (ja hlt (bI i)) ⟨i+1,false,.int i tk1,some (.str ⟨#[c]⟩ u),.str ⟨#[c]⟩ u,oi',rest7,done++[(i,[c])],hlt,rfl,rfl,by rw[hdn'];simp,F7,N7,hoc',(λe'=>nomatch e'),R7⟩))))
  ·have hie:i=x.cps.size:=kW hi (dm.mp hlt)
   subst hie;have hnil:x.cps.toList.drop x.cps.size=[]:=by simp
   have he0:=N _ (af _ ah);have hi0:=N _ (af _ (af _ ah));refine MH (by exact hh) he0.1 ⟨oi,hi0.1,hoi⟩ (by simp) λh1 hx hcl=>?_
   obtain⟨oi1,hoi1,hci1⟩:=hcl;have hcg:oi1.cls∈gA:=by rw[hci1];unfold dZ;split<;>simp [gA]
   have F1:Fr h₀ C h1 (zQ x t vp b vc):=⟨F.ns.at' λo e'=>hx C o (qf hi0.2.1) e',λb o e'=>hx b o (λq=>by rw[q,hi0.2.2]at e';cases e') (F.keep b o e'),F.above⟩;have N1:dJ h₀ C h1 ((a₁,lq g nm qn)::(it+1,wF it (x.cps.size:Nat) old)::(it,oi1)::rest):=λp hp=>by
    rcases aE.mp hp with rfl|hp
    ·exact⟨hx _ _ (bc hal) (N _ ah).1,(N _ ah).2⟩
    ·rcases aE.mp hp with rfl|hp
     ·exact⟨hx _ _ hne he0.1,he0.2⟩
     ·rcases aE.mp hp with rfl|hp
      ·exact⟨hoi1,hi0.2⟩
      ·have q:=N p (af _ (af _ (af _ hp)))
       have q2:=R.out p hp;simp only [aE,iV,or_false,not_or]at q2;exact⟨hx _ _ q2.2.2.2 q.1,q.2⟩
   have R1':=R.to h1 s₁.toks;clear F N R he0 hi0 hx ih;refine E1 rfl (vU (seg_leaf (.ok .next) ?_));rw[Hv];cases b with
   |true=>
    obtain⟨h0,tp,rfl⟩:=hb rfl;have hn:bz (x.cps.toList.drop x.cps.size) x.cps.size true=[(x.cps.size - 1,[92])]:=by rw[hnil];rfl
    rw[hn]at hdn ⊢;refine d0 (uB ?_)
    k_steps
    refine d0 (AI rfl rfl rfl ?_)
    k_steps
    rename_i D6 h6 F6 N6 l6 kap hkap;refine hY _ _ _ _ _ (se F6 N6 hcg (sh l6) si (R1'.to _ _) ⟨x.cps.size - 1,[92],_,_,yl hdn,rfl⟩ (λs7 rest7 F7 N7 R7=>?_) (λs7 h=>hkap .none s7 h));refine eO (eO ?_);exact seg_end (.ok (.ret .none)) (hR _ _ (uA (pre:=[_,_,_]) R7 F7 N7))
   |false=>
    have hn:bz (x.cps.toList.drop x.cps.size) x.cps.size false=[]:=by rw[hnil];rfl
    rw[hn];refine d0 (uB ?_)
    k_steps
    refine eO (eO ?_);exact seg_end (.ok (.ret .none)) (hR _ _ (uA (pre:=[_,_,_]) R1' F1 N1))
end
end Mine
end
namespace Mine
variable{d:Nat}
variable{w:gf}{mean:jj->Option ar}{mg:ax->Option ar}{mb:ax->Option ar}{Γ:Wk w mean mg mb}
section
noncomputable def iN(x:ax):List (Int×ax):=(iM x).map λo=>((o.1:Int),⟨o.2.toArray⟩)
theorem YX(hd:Γ.dp+4<aP)(hu:Γ.un+32<df):wO Γ (.val (.ref 45)) iN:=
 ⟨_,rfl,(by kernel_rfl:gi (hp w.params) (.ref 45)=true),λL mm news x t s Q E e F N q=>by
  subst e;refine MF Γ.B F Γ.X N Γ.T Γ.hk hd hu λown a g' h' tk F' N' ap st ge=>q own a g' h' tk _ _ F' N' ap st ge (aD _).symm λj vals hv=>?_
  obtain⟨p,us,t,u,e1,e2⟩:=hv;exact⟨((p:Int),⟨us.toArray⟩),t,u,by unfold iN;rw[bv,e1];rfl,e2⟩⟩
noncomputable def zM(g:AV):Option (ax->List (Int×ax)):=match g with
 |.val v=>(match we v (.ref 45)with
  |true=>some iN
  |false=>none)
 |_=>none
theorem qP(hd:Γ.dp+d<aP)(hu:Γ.un+8*d<df)(h4:aN 4 d=true):∀g k,zM g=some k->wO Γ g k:=λg k e=>by
 have h4:=ae h4;cases g with
 |val v=>
  unfold zM at e;dsimp only at e;cases h:we v (.ref 45)with
  |false=>rw[h]at e;exact aJ e
  |true=>
   rw[h]at e;obtain rfl:=uC h;exact aj e▸YX (bh (aU h4 _) hd) (bh (aU (g7 8 h4) _) hu)
 |_=>exact aJ e
end
variable{T:f6}{k n:Nat}{rs ys:List ax}{hi:Option Int}{c:ax}
variable{H:Hp}{K:KV}{m:Nm}
section
noncomputable def zN:cP->al
 |.For t _ _ _ _=>t
 |_=>.Name (aa "") ⟨0,0,0,0⟩
noncomputable def tg:cP->al
 |.For _ i _ _ _=>i
 |_=>.Name (aa "") ⟨0,0,0,0⟩
def qQ(en:En)(T:f6)(k:Nat)(S:cP)(m:Nm)(H:Hp)(K:KS):Prop:=(([]:List cP)=[]∧mc (tg S)=true)∧∃xs,v7 T (wk T (k+20)).1 en (tg S) m H λits n H=>pL n H λpn H=>kC en (cg en T k) (zN S) (lM S) xs pn its m H λf m H=>fX pn H λH=>K f m H
def YW(en:En)(T:f6)(k:Nat)(S:cP)(m:Nm)(H:Hp)(L:List IT->Option Nat->Hp->Prop):Prop:=aG (DD (jh (tg S))) λc=>aG (one c.2) λx=>ku (eF [x]) (aG (RB (jh c.1)) λy=>aG (wi en T m H y) λg=>aG (T.gen g) λk'=>(wk T (k+20)).1 en x m H λa H=>kE a λx=>iz (yF (k' x)) λl=>L l none H)
theorem xW{en:En}{S:cP}{K:KS}{x:ax}(xs:List ax)(hn:mc (tg S)=true)(e:∀L,YW en T k S m H L=iz (yF (iN x)) λl=>L l none H)(h:kC en (cg en T k) (zN S) (lM S) xs none (yF (iN x)) m H K):qQ en T k S m H K:=
 ⟨⟨rfl,hn⟩,xs,.gen (kc (P:=iz (yF (iN x)) λl=>kC en (cg en T k) (zN S) (lM S) xs none l m H K) (bX h) (e λits n H=>pL n H λpn H=>kC en (cg en T k) (zN S) (lM S) xs pn its m H λf m H=>fX pn H λH=>K f m H))⟩
noncomputable def ý(o:Nat×List Nat):Int×ax:=((o.1:Int),⟨o.2.toArray⟩)
theorem P4{us:List Nat}{q:String}(e:aa q=⟨#[n]⟩):((⟨us.toArray⟩:ax)==aa q)=decide (us=[n]):=by
 rw[e];exact gw.mpr (by simp)
abbrev rq:=Int×Option Int×List ax
noncomputable def fU(x:ax)(st:rq)(o:Nat×List Nat):rq:=
 if o.2=[34]then(match st.2.1 with
  |none=>(st.1,some (o.1:Int),st.2.2)
  |some p=>((o.1:Int)+1,none,if st.1=p then st.2.2 else st.2.2++[dk x (some st.1) (some p)]))else st
noncomputable def kS(x:ax)(n:Nat):rq:=((iM x).take n).foldl (fU x) (0,none,[])
noncomputable def qB(x:ax):Bool:=(gv x (aa "\"") 0 x.length 1).isEmpty
noncomputable def qv(x:ax)(st:rq):ax:=cq (aa "") (if st.1<(x.length:Int)then st.2.2++[dk x (some st.1) none]else st.2.2)
noncomputable def eR(x:ax):ax:=if qB x then x else qv x (kS x (iM x).length)
noncomputable def c?(o:Option Int):AV:=match o with
 |some p=>.int p
 |none=>.none
noncomputable abbrev Ó:List ax:=[aa "addr",aa "start",aa "open_pos",aa "result"]
noncomputable def stM(x:ax)(st:Int)(op:Option Int):Nm:=[(aa "addr",.str x),(aa "start",.int st),(aa "open_pos",c? op),(aa "result",.ref 0)]
noncomputable def DY(x:ax)(st:Int)(op:Option Int)(p:Int)(c:ax):Nm:=[(aa "addr",.str x),(aa "start",.int st),(aa "open_pos",c? op),(aa "result",.ref 0),(aa "pos",.int p),(aa "ch",.str c)]
noncomputable def Jr:f6:=oa [(.builtin "len",sM),(.builtin "list.append",q8),(.builtin "str.join",rY)] [mM "list" "append",mM "str" "join"] zM
noncomputable abbrev dI(rs:List ax):List AV:=rs.map AV.str
inductive A_(x:ax)(fin:rq)(l:List IT)(m:Nm)(H:Hp):Prop
 |mk(r:List (Nat×List Nat))(st:Int)(op:Option Int)(rs:List ax)(el:l=yF (r.map ý))(em:eW Ó m=stM x st op)(eh:H=[.lst (dI rs)])(ef:r.foldl (fU x) (st,op,rs)=fin)(hl:rs.length+r.length<=201)(hr:∀y∈rs,y.length<=x.length):A_ x fin l m H
theorem kJ:∀rs:List ax,jT gX (dI rs)=some rs
 |[]=>rfl
 |y::rs=>by
  show(some y).bind (λx=>(jT gX (dI rs)).bind λxs=>some (x::xs))=_;rw[kJ rs];rfl
theorem iP(rs:List ax):(dI rs).length=rs.length:=aD _
theorem Kd(rs:List ax)(y:ax):dI rs++[.str y]=dI (rs++[y]):=(b6 (f:=AV.str) (l₁:=rs) (l₂:=[y])).symm
def Ť(x:ax)(rs:List ax)(lo hi:Option Int)(k:List AV->Prop):Prop:=false=false∧(none:Option Int)=none∧x.length<=aF∧(dI rs).length<=aF∧iz (dI rs++[.str (dk x lo hi)]) k
theorem IS{x:ax}{lo:Option Int}{k:List AV->Prop}(hx:x.length<=200)(hr:rs.length<=201)(h:k (dI (rs++[dk x lo hi]))):Ť x rs lo hi k:=
 ⟨rfl,rfl,aq hx (ae rfl),iP rs▸aq hr (ae rfl),bX (Kd rs _▸h)⟩
def CL(x:ax)(st p:Int)(c:ax)(rs:List ax)(go:Nm->Hp->Prop):Prop:=Br (c==aa "\"") (Br true (go (DY x st (some p) p c) [.lst (dI rs)]) False) (go (DY x st none p c) [.lst (dI rs)])
def CK(x:ax)(st o p:Int)(c:ax)(rs:List ax)(go:Nm->Hp->Prop):Prop:=Br (c==aa "\"") (Br false (go (DY x st (some p) p c) [.lst (dI rs)]) (Br (st != o) (Ť x rs (some st) (some o) λys=>go (DY x (p+1) none p c) [.lst ys]) (go (DY x (p+1) none p c) [.lst (dI rs)]))) (go (DY x st (some o) p c) [.lst (dI rs)])
noncomputable abbrev bd(i:Nat):List cP:=fB (mS i)
noncomputable abbrev ou(i j:Nat):cP:=sA (bd i) j
set_option tactic.hygienic true in
def CB(i j k:Nat)(T:f6)(it:IT)(m:Nm)(H:Hp)(xs:List ax)(go:Nm->Hp->Prop)(K:KS):Prop:=yn (gB i) (zN (ou i j)) it m H λm H=>cg (gB i) T k (lM (ou i j)) m H λf m H=>(match f with
  |.next=>go m H
  |.cont=>go m H
  |.brk=>iz (eW xs m) λm=>K .next m H
  |.ret a=>K (.ret a) m H)
theorem Qy{x:ax}{st p:Int}{go:Nm->Hp->Prop}{K:KS}:CB 4 4 7 Jr (.pair (.int p) (.str c)) (stM x st none) [.lst (dI rs)] Ó go K=CL x st p c rs go:=by kernel_rfl
theorem Qx{x:ax}{st o p:Int}{go:Nm->Hp->Prop}{K:KS}:CB 4 4 7 Jr (.pair (.int p) (.str c)) (stM x st (some o)) [.lst (dI rs)] Ó go K=CK x st o p c rs go:=by kernel_rfl
theorem jz:∀(cs:List Nat)(i:Nat)(b:Bool),(bz cs i b).length<=cs.length+1
 |[],_,false=>bC _
 |[],_,true=>bF _
 |c::cs,i,true=>eD (jz cs (i+1) false)
 |c::cs,i,false=>by
  rw[bz]
  split
  ·exact gG (jz cs (i+1) true)
  ·exact eD (jz cs (i+1) false)
theorem Dr{x:ax}(h:x.length<=200):(iM x).length<=201:=aq (jz _ _ _) (eD (by rw[cG];exact h))
theorem xL(hl:ys.length<=202)(hr:∀y∈ys,y.length<=200):iF (aa "") ys=true:=by
 have h:∀(ys:List ax)(a:Nat),(∀y∈ys,y.length<=200)->ys.foldl (λb y=>b+y.length+(aa "").length) a<=a+ys.length*200:=λys=>by
  induction ys with
  |nil=>exact λa x=>bF _
  |cons y ys ih=>
   intro a h;refine aq (ih _ λz hz=>h z (af _ hz)) ?_;have e:(aa "").length=0:=by kernel_rfl
   have:=h y ah;dsimp only;rw[e,iW,AQ];show a+y.length+ys.length*200<=a+(ys.length*200+200);rw[cU,d4 y.length];exact aU (aU this _) _
 unfold iF gq
 have:=h ys 0 hr;rw[List.foldl_toArray];rw[eI,decide_eq_false_iff_not];exact dm.mpr (aq this (aq (aU (kG 200 hl) 0) (ae rfl)))
noncomputable def xh:Sp:=jq λas H K=>lY as λa=>kE a λx=>x.length<=200∧K (.str (eR x)) H
def Wc(x:ax)(st:Int)(op:Option Int)(rs:List ax)(H:Hp)(K:KV):Prop:=(x.length:Int)<2^63∧Br (decide (st<(x.length:Int))) (Ť x rs (some st) none λys=>cg (gB 4) Jr 8 ((bd 4).drop 6) (stM x st op) [.lst ys] (dT (mn [] H K))) (cg (gB 4) Jr 8 ((bd 4).drop 6) (stM x st op) [.lst (dI rs)] (dT (mn [] H K)))
theorem CJ{x:ax}{st:Int}{op:Option Int}(hl:rs.length<=202)(hr:∀y∈rs,y.length<=200)(k:K (.str (cq (aa "") rs)) H):cg (gB 4) Jr 8 ((bd 4).drop 6) (stM x st op) [.lst (dI rs)] (dT (mn [] H K)):=
 kc (P:=aG (jT gX (dI rs)) λts=>iF (aa "") ts=true∧mn [] H K (.str (cq (aa "") ts)) [.lst (dI rs)]) (aw (kJ rs) ⟨xL hl hr,.now rfl k⟩) (by kernel_rfl)
theorem Km{x:ax}(hx:x.length<=200)(k:K (.str (eR x)) H):cg (gB 4) Jr 8 (bd 4) [(aa "addr",.str x)] [] (dT (mn [] H K)):=by
 refine kc (P:=Br (!oo x (aa "\"")) (mn [] H K (.str x) []) (([]:List AV).length<=aF∧qQ (gB 4) Jr 7 (ou 4 4) (stM x 0 none) [.lst (dI [])] (gn (gB 4) Jr 8 ((bd 4).drop 5) (dT (mn [] H K))))) ⟨λe=>?_,λe=>⟨bC _,?_⟩⟩ (by kernel_rfl)
 ·refine mn.now (T:=[]) rfl ?_
  have e2:qB x=true:=(Av _).symm.trans e;unfold eR at k;rw[if_pos e2]at k;exact k
 have hq:¬qB x=true:=λh=>bj (e.symm.trans ((Av _).trans h))
 unfold eR at k;rw[if_neg hq]at k;refine xW Ó (by kernel_rfl) (λL=>by kernel_rfl) (iL (A_ x (kS x (iM x).length)) (λm H' h=>?_) (λit r m H' go hgo h=>?_) _ _ _ ⟨iM x,0,none,[],by unfold iN;rfl,by kernel_rfl,rfl,by unfold kS;rw[tE],aq (bP (fi _)) (Dr hx),λy hy=>eN hy⟩)
 ·obtain⟨r,st,op,rs,el,em,rfl,ef,hl,hr⟩:=h
  cases r with
  |cons=>exact(bf _ _ el.symm).elim
  |nil=>
   have ef:(st,op,rs)=kS x (iM x).length:=ef;rw[<-ef]at k;refine bX (em▸kc (P:=Wc x st op rs H K) ?_ (by kernel_rfl));have hl':rs.length<=201:=hl;refine⟨dQ (fj.mpr hx) (by decide),λe=>IS hx hl' (CJ ?_ (λy hy=>?_) ?_),λe=>CJ (gG hl') (λy hy=>aq (hr y hy) hx) ?_⟩
   ·rw[aK];exact eD hl'
   ·exact(aT.mp hy).elim (λh=>aq (hr y h) hx) λh=>a8.mp h▸aq (PyProof.Txt.length_slice_le x _ _) hx
   ·exact(congrArg (λl=>K (.str (cq (aa "") l)) H) (if_pos (of_decide_eq_true e)))▸k
   ·exact(congrArg (λl=>K (.str (cq (aa "") l)) H) (if_neg (of_decide_eq_false e)))▸k
 ·obtain⟨rr,st,op,rs,el,em,rfl,ef,hl,hr⟩:=h
  cases rr with
  |nil=>exact(bf _ _ el).elim
  |cons o rr=>
   obtain⟨rfl,rfl⟩:=ca el;refine bX (em▸?_);have hl2:rs.length+rr.length<=201:=jO hl;have ef:rr.foldl (fU x) (fU x (st,op,rs) o)=kS x (iM x).length:=ef;have same:o.2≠[34]->fU x (st,op,rs) o=(st,op,rs):=λh=>if_neg h
   cases op with
   |none=>
    refine kc (P:=CL x st o.1 ⟨o.2.toArray⟩ rs go) ⟨λe=>.t (hgo _ _ ⟨rr,st,some (o.1:Int),rs,rfl,by kernel_rfl,rfl,?_,hl2,hr⟩),λe=>hgo _ _ ⟨rr,st,none,rs,rfl,by kernel_rfl,rfl,?_,hl2,hr⟩⟩ Qy
    ·rw[P4 (n:=34) (by kernel_rfl)]at e
     rw[<-ef];unfold fU;rw[if_pos (of_decide_eq_true e)]
    ·rw[P4 (n:=34) (by kernel_rfl)]at e
     rw[<-ef,same (of_decide_eq_false e)]
   |some q=>
    refine kc (P:=CK x st q o.1 ⟨o.2.toArray⟩ rs go) ⟨λe=>.f ⟨λe2=>IS hx (aq (a9 _ _) hl2) (hgo _ _ ⟨rr,(o.1:Int)+1,none,rs++[dk x (some st) (some q)],rfl,by kernel_rfl,rfl,?_,?_,λy hy=>?_⟩),λe2=>hgo _ _ ⟨rr,(o.1:Int)+1,none,rs,rfl,by kernel_rfl,rfl,?_,hl2,hr⟩⟩,λe=>hgo _ _ ⟨rr,st,some q,rs,rfl,by kernel_rfl,rfl,?_,hl2,hr⟩⟩ Qx
    ·rw[P4 (n:=34) (by kernel_rfl)]at e
     rw[<-ef];unfold fU;rw[if_pos (of_decide_eq_true e)];dsimp only;rw[if_neg (bne_iff_ne.mp e2)]
    ·rw[aK,cU,d4 [_].length];exact hl
    ·exact(aT.mp hy).elim (hr y) λh=>a8.mp h▸PyProof.Txt.length_slice_le x _ _
    ·rw[P4 (n:=34) (by kernel_rfl)]at e
     rw[<-ef];unfold fU;rw[if_pos (of_decide_eq_true e)];dsimp only;rw[if_pos (by simpa using e2)]
    ·rw[P4 (n:=34) (by kernel_rfl)]at e
     rw[<-ef,same (of_decide_eq_false e)]
theorem ma:rz Γ "list" (aa "append") (.builtin ("list"++"."++"append")):=rU JX JW
theorem mj:rz Γ "str" (aa "join") (.builtin ("str"++"."++"join")):=qE F.slot_str_join F.type_str_join
theorem yU:f7 w mean mg mb 5 52 xh:=uU (T:=Jr) 8 [aa "addr"] [] [] (λz=>.nil) ļ ł (by kernel_rfl) (λs vs X h=>eH h λa r h=>kL h (dz (by kernel_rfl))) (λΓ hd hu=>dt (.cons pP (.cons sr (.cons qN .nil))) (.cons ma (.cons mj .nil)) (qP hd hu rfl)) λas H K h=>lY.is h λa h=>kE.is (C:=λa=>∃ns H₀ as₀,IZ H ns H₀∧tq ns as₀ [a]∧as₀.length=1∧cg ⟨(fS (mS 4)).names,yg (cj (fS (mS 4)).names) H₀.length,none⟩ Jr 8 (bd 4) (hW (fS (mS 4)).names ([aa "addr"].zip as₀++[])) (H₀++iZ ([aa "addr"].zip as₀++[]) (cj (fS (mS 4)).names)) (dT (mn H₀ H K))) h λx h=>⟨[],[],[.str x],.nil,.sc rfl .nil,rfl,kc (Km h.1 h.2) (by kernel_rfl)⟩
end
variable{y qn pm:ax}{kV:ar}{pt:Nat}
section
noncomputable def nC:List (Nat×List Nat)->Int->Bool
 |[],k=>k==0
 |o::r,k=>bif decide (o.2=[40])then nC r (k+1)else bif decide (o.2=[41])then(bif decide (k - 1<0)then false else nC r (k - 1))else nC r k
noncomputable def jF(x:ax):Bool:=nC (iM (eR x)) 0
noncomputable def Ĕ(y:ax)(k:Int):Nm:=[(aa "addr",.str y),(aa "opens",.int k)]
noncomputable def KH(y:ax)(k p:Int)(c:ax):Nm:=[(aa "addr",.str y),(aa "opens",.int k),(aa "pos",.int p),(aa "ch",.str c)]
noncomputable abbrev px:List ax:=[aa "addr",aa "opens"]
noncomputable def Vw:f6:=oa [(.ref 52,xh)] [] zM
inductive C_(y:ax)(b:Bool)(l:List IT)(m:Nm)(H:Hp):Prop
 |mk(r:List (Nat×List Nat))(k:Int)(el:l=yF (r.map ý))(em:eW px m=Ĕ y k)(eh:H=[])(ef:nC r k=b):C_ y b l m H
def Bt(y:ax)(k p:Int)(c:ax)(go:Nm->Hp->Prop)(Z:Prop):Prop:=Br (c==aa "(") (go (KH y (k+1) p c) []) (Br (c==aa ")") (Br (decide (k - 1<0)) Z (go (KH y (k - 1) p c) [])) (go (KH y k p c) []))
theorem WD{k p:Int}{go:Nm->Hp->Prop}:CB 5 2 7 Vw (.pair (.int p) (.str c)) (Ĕ y k) [] px go (gn (gB 5) Vw 8 ((bd 5).drop 3) (dT (mn [] H K)))=Bt y k p c go (mn [] H K (.bool false) []):=by kernel_rfl
theorem KF{x:ax}(hx:x.length<=200)(k:K (.bool (jF x)) H):cg (gB 5) Vw 8 (bd 5) [(aa "addr",.str x)] [] (dT (mn [] H K)):=by
 refine kc (P:=x.length<=200∧qQ (gB 5) Vw 7 (ou 5 2) (Ĕ (eR x) 0) [] (gn (gB 5) Vw 8 ((bd 5).drop 3) (dT (mn [] H K)))) ⟨hx,xW px (by kernel_rfl) (λL=>by kernel_rfl) (iL (C_ (eR x) (jF x)) (λm H' h=>?_) (λit r m H' go hgo h=>?_) _ _ _ ⟨iM (eR x),0,by unfold iN;rfl,by kernel_rfl,rfl,rfl⟩)⟩ (by kernel_rfl)
 ·obtain⟨r,n,el,em,rfl,ef⟩:=h
  cases r with
  |cons=>exact(bf _ _ el.symm).elim
  |nil=>exact bX (em▸kc (P:=mn [] H K (.bool (n==0)) []) (mn.now (T:=[]) rfl ((show(n==0)=jF x from ef)▸k)) (by kernel_rfl))
 ·obtain⟨rr,n,el,em,rfl,ef⟩:=h
  cases rr with
  |nil=>exact(bf _ _ el).elim
  |cons o rr=>
   obtain⟨rfl,rfl⟩:=ca el;have nx:∀{n':Int},nC rr n'=jF x->go (KH (eR x) n' o.1 ⟨o.2.toArray⟩) []:=λe=>hgo _ _ ⟨rr,_,rfl,by kernel_rfl,rfl,e⟩
   refine bX (em▸kc (P:=Bt (eR x) n o.1 ⟨o.2.toArray⟩ go (mn [] H K (.bool false) [])) ?_ WD);unfold Bt;rw[P4 (n:=40) (by kernel_rfl),P4 (n:=41) (by kernel_rfl)];exact(Br.of (k:=λb=>b=jF x) ef).el nx λh=>(Br.of (k:=λb=>b=jF x) h).el (λh=>(Br.of (k:=λb=>b=jF x) h).el (λh=>mn.now (T:=[]) rfl (h▸k)) nx) nx
noncomputable def CW:Sp:=jq λas H K=>lY as λa=>kE a λx=>x.length<=200∧K (.bool (jF x)) H
theorem Dq{f:aI}{nm:ax}{st:cP}{dV:ar}{c:Nat}{F:ax->Hp->KV->Prop}(k:Nat)(y:ax)(ho:(hp w.params).lookup f=some (fO nm qn (fA st) (fB st) (fS st) dV kV pm pt c))(hcd:dP (hp w.params) (.ref c) qn=true)(hs:(sb (fS st) [y],cj (fS st).names,jx (fS st).names y)=(true,[],true))(hb:∀a:ar,vG (ul nm qn (fA st) (fB st) (fS st) dV kV .none (.str pm pt) none (.ref c) .none) ⟨[a],[]⟩=pure [(y,a)])
  (hT:∀Γ:Wk w mean mg mb,Γ.dp+(d+1)<aP->Γ.un+8*(d+1)<df->cF Γ T)
  (main:∀x H K,F x H K->cg ⟨(fS st).names,[],none⟩ T k (fB st) [(y,.str x)] [] (dT (mn [] H K))):f7 w mean mg mb (d+2) f (jq λas H K=>lY as λa=>kE a λx=>F x H K):=
 uU (T:=T) k [y] [] [] (λz=>.nil) ho hcd (congrArg (·.1) hs) (λs vs X h=>eH h λa r h=>kL h (dz (hb a))) hT λas H K h=>lY.is h λa h=>kE.is (C:=λa=>∃ns H₀ as₀,IZ H ns H₀∧tq ns as₀ [a]∧as₀.length=1∧cg ⟨(fS st).names,yg (cj (fS st).names) H₀.length,none⟩ T k (fB st) (hW (fS st).names ([y].zip as₀++[])) (H₀++iZ ([y].zip as₀++[]) (cj (fS st).names)) (dT (mn H₀ H K))) h λx h=>⟨[],[],[.str x],.nil,.sc rfl .nil,rfl,by
  have e:hW (fS st).names ([y].zip [AV.str x]++[])=[(y,.str x)]:=by
   show(match jx (fS st).names y with|true=>(y,AV.str x)::hW (fS st).names []|false=>hW (fS st).names [])=_;rw[show jx (fS st).names y=true from congrArg (·.2.2) hs];rfl
  rw[e,show cj (fS st).names=[]from congrArg (·.2.1) hs];exact main x H K h⟩
theorem Bs:f7 w mean mg mb 7 59 CW:=Dq (T:=Vw) 8 _ Ļ Ł (by kernel_rfl) (λz=>by kernel_rfl) (λΓ hd hu=>dt (.cons (yU.sp XF hd hu rfl) .nil) .nil (qP hd hu rfl)) λx H K h=>KF h.1 h.2
end
variable{h:Hp}{r:List cP}
section
noncomputable def jo(y:Int):Int:=(y.fdiv 12).fmod 64
noncomputable def dq(y:Int):Int:=(y.fdiv 768).fmod 5
noncomputable def cY(y:Int):Int:=1+(y.fdiv 3840).fmod 8
noncomputable def Vz(x:UInt64):UInt64:=bG x (ig 64)
noncomputable def e?(x:UInt64):UInt64:=bG x (ig 32)
noncomputable def â(x:UInt64):Bool:=gQ x 0==some fH
noncomputable def D8(x:UInt64):Int:=(č (Vz x)).fmod 64
noncomputable abbrev GG:List AV:=[.int 22,.int 54]
noncomputable def Ed:f6:=Jv [(.ref 109,OR),(.ref 123,Dk),(.ref 130,OK),(.ref 102,Dl),(.ref 77,tj cR),(.builtin "round",CT)]
noncomputable abbrev Ee(H:Hp)(K:KV):KS:=dT (mn [] H K)
structure Told(sp ti:UInt64)(g:Bool)(hue T RH:Int):Prop where
 fin:dw (Vz ti)=true
 zero:â sp=true->T=0
 fit:â sp=false->∃r,g5 (cR (D8 ti)) GG 64 0 2=some r∧((r=0∧T= -1)∨(r=1∧T=1)∨(r=2∧T= -1))
 grey:g=true->T=0
 left:g=false->hue<22->T= -1
 mid:g=false->22<=hue->hue<54->T=1
 right:g=false->54<=hue->T= -1
 gh:g=true->RH=0
 hh:g=false->RH=hue
 round:D8 ti=RH
noncomputable abbrev V6:List AV:=[.int (-1),.int 1,.int (-1)]
def ĕ(sp ti:UInt64)(h:Hp)(K:KV):Prop:=bq=bq∧bq=bq∧3<=aF∧2<=aF∧jL 64∧dw (Vz ti)=true∧(64:Int)≠0∧EM cR (h++[AO.tup V6]).length (D8 ti) (h++[AO.tup V6]++[AO.lst GG]) λi h'=>vv (.ref h.length) i h' K
def P?(sp ti:UInt64)(h:Hp)(K:KV):Prop:=iw (λK=>A5=A5∧Br (â sp) (K (.int 0) h) (ĕ sp ti h K)) h K
def O_(ag:AV)(hu:Int)(h:Hp)(K:KV):Prop:=iw (λK=>Vs ag h λg=>Br g (K (.int 0) h) (iw (λK=>Br (decide (22<=hu)) (Br (decide (hu<54)) (K (.int 1) h) (bq=bq∧K (.int (-1)) h)) (Br false (K (.int 1) h) (bq=bq∧K (.int (-1)) h))) h K)) h K
def O?(ti:UInt64)(ag:AV)(hu:Int)(a b:AV)(right:Bool)(h:Hp)(K:KV):Prop:=iw (λK=>Br right (mU .Eq a b h λc=>Br c (jL 64∧dw (Vz ti)=true∧(64:Int)≠0∧iw (λK=>Vs ag h λg=>Br g (K (.int 0) h) (K (.int hu) h)) h λz h=>mU .Eq (.int (D8 ti)) z h λc=>K (.bool c) h) (K (.bool c) h)) (K (.bool right) h)) h K
def Bv(sp ti:UInt64)(ag:AV)(hu:Int)(right:Bool)(h:Hp)(K:KV):Prop:=P? sp ti h λa h=>O_ ag hu h λb h=>O? ti ag hu a b right h λc h=>2<=aF∧K (.ref h.length) (h++[.tup [a,c]])
theorem QC:jL 64:=jL.of (by decide+kernel)
theorem Ą:jL 32:=jL.of (by decide+kernel)
theorem wm{sp ti:UInt64}{g:Bool}{hu T RH:Int}(t:Told sp ti g hu T RH){K:KV}(k:K (.ref h.length) (h++[.tup [.int T,.bool true]])):Bv sp ti (.bool g) hu true h K:=by
 have two:2<=aF:=ae rfl;refine .mk (.int T) rfl ⟨rfl,λc=>lO.is (congrArg AV.int (t.zero c).symm),λc=>?_⟩ (.mk (.int T) rfl ⟨λc=>lO.is (congrArg AV.int (t.grey c).symm),λc=>.mk (.int T) rfl ⟨λd=>⟨λe=>lO.is (congrArg AV.int (t.mid c (of_decide_eq_true d) (of_decide_eq_true e)).symm),λe=>⟨rfl,lO.is (congrArg AV.int (t.right c (nV.mp (of_decide_eq_false e))).symm)⟩⟩,λd=>.f ⟨rfl,lO.is (congrArg AV.int (t.left c (Int.not_le.mp (of_decide_eq_false d))).symm)⟩⟩ (lO.now _ _)⟩
  (.mk (.bool true) rfl (.t ⟨λy=>⟨QC,t.fin,by decide,.mk (.int RH) rfl ⟨λc=>lO.is (congrArg AV.int (t.gh c).symm),λc=>lO.is (congrArg AV.int (t.hh c).symm)⟩ (lO.is (congrArg AV.bool (beq_iff_eq.mpr t.round)))⟩,λe=>bj (e.symm.trans (beq_self_eq_true T))⟩) ⟨two,k⟩))
 obtain⟨r,e,z⟩:=t.fit c;refine⟨rfl,rfl,ae rfl,two,QC,t.fin,by decide,aw (mN bA rfl) ⟨by decide,aw e ?_⟩⟩;have fin:∀v,v=AV.int T->lO (.int T) h v (h++[.tup V6]++[.lst GG]):=λv e=>.mk [_,_] e (aA ..)
 have sq:cH Bk (h++[AO.tup V6]++[.lst GG]) h.length=some V6:=by
  unfold cH;rw[ba bA];rfl
 rcases z with ⟨e,e2⟩|⟨e,e2⟩|⟨e,e2⟩<;>(subst e;exact⟨by decide,aw sq (aw rfl (fin _ (congrArg AV.int e2.symm)))⟩)
noncomputable def Ė(k y:Int)(ag:AV):Nm:=[(aa "k",.int k),(aa "y",.int y),(aa "level",.int (cY y)),(aa "share",.int (dq y)),(aa "hue",.int (jo y)),(aa "grey",ag)]
noncomputable abbrev yG(y:Int):Hp:=[.tup [.int (jo y),.int (dq y),.int (cY y)]]
abbrev dG(y b:Int):Prop:=b≠0∧dn y b=false
def b?(k y:Int)(go:Nm->Hp->Prop):Prop:=false=false∧dG y 12∧(64:Int)≠0∧dG y 768∧(5:Int)≠0∧dG y 3840∧(8:Int)≠0∧3<=aF∧go [(aa "k",.int k),(aa "y",.int y),(aa "level",.int (cY y)),(aa "share",.int (dq y)),(aa "hue",.int (jo y))] (yG y)
def a?(k y:Int)(K:KV):Prop:=iw (λK=>Br (dq y==0) (K (.bool (dq y==0)) (yG y)) (iw (λK=>(2:Int)≠0∧Br (k.fmod 2==1) (K (.bool (cY y==8)) (yG y)) (K (.bool (k.fmod 2==1)) (yG y))) (yG y) K)) (yG y) K
theorem Rq{k y:Int}{K:KS}:cg (gB 25) Ed 8 (sA (bd 25) 0::r) [(aa "k",.int k),(aa "y",.int y)] [] K=b? k y λm h=>cg (gB 25) Ed 8 r m h K:=by kernel_rfl
theorem Ro{k y:Int}{K:KS}:cg (gB 25) Ed 8 (sA (bd 25) 1::r) [(aa "k",.int k),(aa "y",.int y),(aa "level",.int (cY y)),(aa "share",.int (dq y)),(aa "hue",.int (jo y))] (yG y) K=a? k y λag h=>cg (gB 25) Ed 8 r (Ė k y ag) h K:=by kernel_rfl
abbrev dV(x b:Int):Prop:=b≠0∧cM (dv x b)=false
noncomputable abbrev t3(x:F3):AO:=.tup [.flt x.1,.flt x.2.1,.flt x.2.2]
def ſ(y:Int)(ag:AV)(K:KV):Prop:=false=false∧dV (jo y) 64∧dV (cY y) 8∧dV (dq y) 4∧false=false∧aG (zF (Jy (dv (jo y) 64) (dv (cY y) 8) (dv (dq y) 4)).1 (Jy (dv (jo y) 64) (dv (cY y) 8) (dv (dq y) 4)).2.1 (Jy (dv (jo y) 64) (dv (cY y) 8) (dv (dq y) 4)).2.2) λx=>jL 32∧iw (λK=>Br (decide (cY y<5)) (m6 (cY y) (4+dq y)∧K (.int (cY y*(4+dq y))) (yG y++[t3 (Jy (dv (jo y) 64) (dv (cY y) 8) (dv (dq y) 4)),t3 x])) (m6 4 (cY y)∧m6 8 (dq y)∧m6 (cY y) (dq y)∧K (.int (4*cY y+8*dq y - cY y*dq y)) (yG y++[t3 (Jy (dv (jo y) 64) (dv (cY y) 8) (dv (dq y) 4)),t3 x]))) (yG y++[t3 (Jy (dv (jo y) 64) (dv (cY y) 8) (dv (dq y) 4)),t3 x]) λR h=>mU .Eq (.flt (e? x.2.2)) R h λc=>Bv x.2.1 x.1 ag (jo y) c h K
def a_(y:Int)(ag:AV)(K:KV):Prop:=false=false∧dV (jo y) 64∧dV (dq y) 4∧dV (cY y) 8∧aG (Ye (dv (jo y) 64) (dv (dq y) 4) (dv (cY y) 8)) λd=>false=false∧aG (zH d.1 d.2.1 d.2.2) λx=>jL 64∧m6 (cY y) (8 - dq y)∧(A5=A5∧Bv x.2.2 x.1 ag (jo y) (gQ (Vz x.2.1) (cY y*(8 - dq y))==some fH) (yG y++[t3 d,t3 x]) K)
theorem Rp{k y:Int}{ag:AV}:cg (gB 25) Ed 8 ((bd 25).drop 2) (Ė k y ag) (yG y) (Ee H K)=((2:Int)≠0∧Br (k.fmod 2 != 0) (ſ y ag (mn [] H K)) (a_ y ag (mn [] H K))):=by kernel_rfl
theorem vY{x y:Int}(h1: -100<=x)(h2:x<=100):m6 x y:=IntMulOk.of_left (intBits_le_64 (FE (by decide) h1) (dQ h2 (by decide)))
theorem Sg(y:Int): -100<=cY y∧cY y<=100:=by
 have h1:=d5 (y.fdiv 3840) (b:=8) (by decide);have h2:=fe (y.fdiv 3840) (b:=8) (by decide);exact⟨gJ (by decide:(-100:Int)<=1+0) (Fb h1 1),gJ (Fb (Int.le_of_lt h2) 1) (by decide)⟩
theorem QF(y:Int): -100<=dq y∧dq y<=100:=⟨gJ (by decide) (d5 _ (by decide)),gJ (Int.le_of_lt (fe _ (by decide))) (by decide)⟩
noncomputable def nD(k y:Int):Bool:=dq y==0||(k.fmod 2==1&&cY y==8)
noncomputable def KJ(y:Int):Int:=if cY y<5 then cY y*(4+dq y)else 4*cY y+8*dq y - cY y*dq y
noncomputable abbrev TD(y:Int):F3:=Jy (dv (jo y) 64) (dv (cY y) 8) (dv (dq y) 4)
inductive EU(k y T:Int):Prop
 |odd(hk:k.fmod 2=1)(i1:cM (dv (jo y) 64)=false)(i2:cM (dv (cY y) 8)=false)(i3:cM (dv (dq y) 4)=false)(x:F3)(hx:zF (TD y).1 (TD y).2.1 (TD y).2.2=some x)(RH:Int)(t:Told x.2.1 x.1 (nD k y) (jo y) T RH)(hr:(gQ (e? x.2.2) (KJ y)==some fH)=true):EU k y T
 |even(hk:k.fmod 2=0)(i1:cM (dv (jo y) 64)=false)(i2:cM (dv (cY y) 8)=false)(i3:cM (dv (dq y) 4)=false)(d x:F3)(hd:Ye (dv (jo y) 64) (dv (dq y) 4) (dv (cY y) 8)=some d)(hx:zH d.1 d.2.1 d.2.2=some x)(RH:Int)(t:Told x.2.2 x.1 (nD k y) (jo y) T RH)(hr:(gQ (Vz x.2.1) (cY y*(8 - dq y))==some fH)=true):EU k y T
theorem CY{T:Int}(k:K (.ref H.length) (H++[.tup [.int T,.bool true]])):mn [] H K (.ref h.length) (h++[.tup [.int T,.bool true]]):=.new (h++[.tup [.int T,.bool true]]) _ _ rfl rfl bA (bC _) (λρ=>⟨[.int T 0,.bool true],.cons (.int _ _) (.cons (.bool _) .nil)⟩) k
theorem GY{k y T:Int}(o:EU k y T)(kk:K (.ref H.length) (H++[.tup [.int T,.bool true]])):cg (gB 25) Ed 8 (bd 25) [(aa "k",.int k),(aa "y",.int y)] [] (Ee H K):=by
 have e0:bd 25=sA (bd 25) 0::(bd 25).drop 1:=by kernel_rfl
 have e1:(bd 25).drop 1=sA (bd 25) 1::(bd 25).drop 2:=by kernel_rfl
 have z:∀b:Int,(b=12∨b=768∨b=3840)->dG y b:=λb h=>by rcases h with rfl|rfl|rfl<;>exact⟨by decide,by kernel_rfl⟩
 refine kc (P:=b? k y λm h=>cg (gB 25) Ed 8 ((bd 25).drop 1) m h (Ee H K)) ⟨rfl,z _ (.inl rfl),by decide,z _ (.inr (.inl rfl)),by decide,z _ (.inr (.inr rfl)),by decide,ae rfl,?_⟩ ((congrArg (λl=>cg (gB 25) Ed 8 l _ [] (Ee H K)) e0).trans Rq);refine kc (P:=a? k y λag h=>cg (gB 25) Ed 8 ((bd 25).drop 2) (Ė k y ag) h (Ee H K)) (.mk (.bool (nD k y)) rfl ⟨λc=>lO.is ?_,λc=>.mk (.bool (k.fmod 2==1&&cY y==8)) rfl ⟨by decide,λd=>lO.is ?_,λd=>lO.is ?_⟩ (lO.is ?_)⟩ (kc (P:=(2:Int)≠0∧Br (k.fmod 2 != 0) (ſ y (.bool (nD k y)) (mn [] H K)) (a_ y (.bool (nD k y)) (mn [] H K))) ?_ Rp)) ((congrArg (λl=>cg (gB 25) Ed 8 l _ _ (Ee H K)) e1).trans Ro)
 ·unfold nD;rw[c];rfl
 ·rw[d];rfl
 ·rw[d];rfl
 ·unfold nD;rw[c];rfl
 obtain⟨l1,l2⟩:=Sg y;obtain⟨s1,s2⟩:=QF y;refine⟨by decide,?_⟩;induction o with
 |odd hk i1 i2 i3 x hx RH t hr=>
  refine⟨λw=>⟨rfl,⟨by decide,i1⟩,⟨by decide,i2⟩,⟨by decide,i3⟩,rfl,aw hx ⟨Ą,.mk (.int (KJ y)) rfl ⟨λc=>⟨vY l1 l2,lO.is ?_⟩,λc=>⟨vY (by decide) (by decide),vY (by decide) (by decide),vY l1 l2,lO.is ?_⟩⟩ ⟨rfl,hr▸wm t (CY kk)⟩⟩⟩,λe=>absurd (hk▸e) (by decide)⟩
  ·unfold KJ;rw[if_pos (of_decide_eq_true c)]
  ·unfold KJ;rw[if_neg (of_decide_eq_false c)]
 |even hk i1 i2 i3 d x hd hx RH t hr=>exact⟨λe=>absurd (hk▸e) (by decide),λw=>⟨rfl,⟨by decide,i1⟩,⟨by decide,i3⟩,⟨by decide,i2⟩,aw hd ⟨rfl,aw hx ⟨QC,vY l1 l2,rfl,hr▸wm t (CY kk)⟩⟩⟩⟩
noncomputable def Os:Sp:=jq λas H K=>u8 as λa b=>lB a λk=>lB b λy=>∃T,EU k y T∧K (.ref H.length) (H++[.tup [.int T,.bool true]])
end
section
theorem TZ{f:aI}{nm:ax}{st:cP}{dV:ar}{c:Nat}{F:List AV->Hp->KV->Prop}(k:Nat)(xs:List ax)(ho:(hp w.params).lookup f=some (fO nm qn (fA st) (fB st) (fS st) dV kV pm pt c))(hcd:dP (hp w.params) (.ref c) qn=true)(hs:(sb (fS st) xs,cj (fS st).names)=(true,[]))
  (hb:∀(s:aC)(vs:List ar),(hp w.params).In s.heap->vs.length=xs.length->iX s (ul nm qn (fA st) (fB st) (fS st) dV kV .none (.str pm pt) none (.ref c) .none) ⟨vs,[]⟩ (xs.zip vs++[]))
  (hT:∀Γ:Wk w mean mg mb,Γ.dp+(d+1)<aP->Γ.un+8*(d+1)<df->cF Γ T)
  (main:∀as H K,F as H K->(as.length=xs.length∧as.all scal=true)∧cg ⟨(fS st).names,[],none⟩ T k (fB st) (hW (fS st).names (xs.zip as)) [] (dT (mn [] H K))):f7 w mean mg mb (d+2) f (jq F):=
 uU (T:=T) k xs [] [] (λz=>.nil) ho hcd ((be xs).symm▸congrArg (·.1) hs) hb hT λas H K h=>by
  have m:=main as H K h;have ns:∀{as:List AV},as.all scal=true->tq [] as as:=λ{as}=>by
   induction as with
   |nil=>exact λz=>.nil
   |cons a r ih=>exact λh=>have h:=(aM ..).mp h; .sc h.1 (ih h.2)
  refine⟨[],[],as,.nil,ns m.1.2,m.1.1,?_⟩;rw[show cj (fS st).names=[]from congrArg (·.2) hs,be];exact m.2
theorem Rn:f7 w mean mg mb 4 274 Os:=TZ (T:=Ed) 8 [aa "k",aa "y"] Ym YF (by kernel_rfl) (λs vs X h=>eH h λa r h=>eH h λb r h=>kL h (dz (by kernel_rfl)))
 (λΓ hd hu=>n8 (.cons (TC.sp XT hd hu rfl) (.cons (HW.sp XR hd hu rfl) (.cons (Ts.sp XQ hd hu rfl) (.cons (H0.sp XU hd hu rfl) (.cons (u5.sp HH hd hu rfl) (.cons GH .nil))))))) λas H K h=>
 u8.is h λa b h=>lB.is (C:=λa=>((([a,b]:List AV).length=2∧([a,b]:List AV).all scal=true)∧cg (gB 25) Ed 8 (bd 25) (hW (fS (mS 25)).names ([aa "k",aa "y"].zip [a,b])) [] (Ee H K))) h λk h=>lB.is (C:=λb=>((([AV.int k,b]:List AV).length=2∧([AV.int k,b]:List AV).all scal=true)∧cg (gB 25) Ed 8 (bd 25) (hW (fS (mS 25)).names ([aa "k",aa "y"].zip [.int k,b])) [] (Ee H K))) h λy h=>⟨⟨rfl,rfl⟩,h.elim λT h=>GY h.1 h.2⟩
end
variable{Qp:(List IT->Option Nat->Hp->Prop)->Prop}{ke ka:List (ax×AV)}{kp:ax}{o:dU}{zs:List AV}{a b:AV}{C:AV->Prop}{i:Nat}
section
def Jt(en:En)(T:f6)(k:Nat)(S:cP)(m:Nm)(H:Hp)(L:List IT->Option Nat->Hp->Prop):Prop:=(wk T (k+20)).1 en (tg S) m H λa H=>uz a H λl n=>L l n H
theorem nh{en:En}{S:cP}{K:KS}(xs:List ax)(hn:mc (tg S)=true)(e:∀L,Jt en T k S m H L=Qp L)(h:Qp λits n H=>pL n H λpn H=>kC en (cg en T k) (zN S) (lM S) xs pn its m H λf m H=>fX pn H λH=>K f m H):qQ en T k S m H K:=
 ⟨⟨rfl,hn⟩,xs,.pl (kc h (e _))⟩
noncomputable def oX(x y:ax):Option Nat:=(gv x y 0 x.length 1).head?
noncomputable abbrev qS:ax:=aa "\""
noncomputable def KY:f6:=oa [(.builtin "str.index",tZ)] [mM "str" "index"] λz=>none
noncomputable abbrev Ü:List ax:=[aa "text",aa "ends",aa "ahead",aa "kept",aa "order"]
noncomputable def OB(x kp:ax):Nm:=[(aa "text",.str x),(aa "ends",.ref 0),(aa "ahead",.ref 1),(aa "kept",.str kp),(aa "order",.ref 2)]
noncomputable def ğ(x kp y:ax):Nm:=[(aa "text",.str x),(aa "ends",.ref 0),(aa "ahead",.ref 1),(aa "kept",.str kp),(aa "order",.ref 2),(aa "x",.str y)]
noncomputable abbrev Az(ke ka:List (ax×AV))(ys:List ax):Hp:=[.dct ke,.dct ka,.lst (dI ys)]
noncomputable abbrev sl(x:ax)(lo hi:Option Int):ax:=dk x lo hi
abbrev ap(x y:ax)(P:Prop):Prop:=x.length+y.length<=aF∧P
abbrev cut(x:ax)(P:Prop):Prop:=(none:Option Int)=none∧x.length<=aF∧P
def R8(x y:ax)(ke:List (ax×AV))(h:Hp)(go:ax->Prop):Prop:=aG (oX x y) λi=>cut x (ap (sl x none (some ((i:Int) - 1))) qS (aG (oX x y) λj=>aG (ke.lookup y) λe=>lB e λe=>cut x (ap (sl x none (some ((i:Int) - 1))++qS) (sl x (some ((j:Int) - 1)) (some e)) (ap (sl x none (some ((i:Int) - 1))++qS++sl x (some ((j:Int) - 1)) (some e)) qS
 (aG (ke.lookup y) λf=>vB .Add f (.int 1) h λb z=>lB b λf=>cut x (ap (sl x none (some ((i:Int) - 1))++qS++sl x (some ((j:Int) - 1)) (some e)++qS) (sl x (some f) none) (go (sl x none (some ((i:Int) - 1))++qS++sl x (some ((j:Int) - 1)) (some e)++qS++sl x (some f) none))))))))
def Ğ(ke ka:List (ax×AV))(x kp y:ax)(h:Hp)(go:ax->Prop):Prop:=Br (!oo kp y) (aG (ka.lookup y) λa=>mU .In a (.str kp) h λc=>Br c (Br true (R8 x y ke h go) (go x)) (Br false (R8 x y ke h go) (go x))) (Br false (R8 x y ke h go) (go x))
theorem RW{x:ax}{go:Nm->Hp->Prop}{K:KS}:CB 28 0 7 KY (.val (.str y)) (OB x kp) (Az ke ka ys++[.pin (.lst zs) o]) Ü go K=Ğ ke ka x kp y (Az ke ka ys++[.pin (.lst zs) o]) λz=>go (ğ z kp y) (Az ke ka ys++[.pin (.lst zs) o]):=by kernel_rfl
noncomputable def RV(x:ax)(i e:Int):ax:=sl x none (some (i - 1))++qS++sl x (some (i - 1)) (some e)++qS++sl x (some (e+1)) none
noncomputable def wq(ke ka:List (ax×AV))(kp x y:ax):Option ax:=bif oo kp y then some x else(ka.lookup y).bind λa=>(gX a).bind λa=>bif oo kp a then((oX x y).bind λi=>(ke.lookup y).bind λe=>(mE e).bind λe=>bif aN x.length 1000 then some (RV x i e)else none)else some x
noncomputable def pi(ke ka:List (ax×AV))(kp:ax):List ax->ax->Option ax
 |[],x=>some x
 |y::r,x=>(wq ke ka kp x y).bind λz=>pi ke ka kp r z
theorem tJ{x:ax}(h:gX a=some x)(k:C (.str x)):C a:=by
 cases a with
 |str y=>exact aj h▸k
 |_=>exact aJ h
theorem tY{x:Int}(h:mE a=some x)(k:C (.int x)):C a:=by
 cases a with
 |int y=>exact aj h▸k
 |_=>exact aJ h
theorem DH{x:ax}{m:Nat}{P:Prop}(hx:x.length<=n)(hy:y.length<=m)(h:n+m<=10000)(k:P):ap x y P:=⟨aq (hM hx hy) (aq h (ae rfl)),k⟩
theorem xJ{x:ax}{m:Nat}(hx:x.length<=n)(hy:y.length<=m):(x++y).length<=n+m:=by
 show(Str.append x y).length<=_;exact(sX x y).symm▸hM hx hy
theorem R6{x:ax}{go:ax->Prop}{e:Int}(hx:x.length<=1000)(h1:oX x y=some i)(h2:ke.lookup y=some b)(h3:mE b=some e)(k:go (RV x i e)):R8 x y ke h go:=by
 have cz:∀{P:Prop},P->cut x P:=λp=>⟨rfl,aq hx (ae rfl),p⟩
 have s:∀a c,(sl x a c).length<=1000:=λa c=>aq (PyProof.Txt.length_slice_le x a c) hx
 have q:qS.length<=1:=ae (by kernel_rfl);have l2:=xJ (s none (some ((i:Int) - 1))) q;have l3:=xJ l2 (s (some ((i:Int) - 1)) (some e));have l4:=xJ l3 q;exact tY (C:=λb=>ke.lookup y=some b->R8 x y ke h go) h3 (λh2=>aw h1 (cz (DH (s _ _) q (by decide) (aw h1 (aw h2 (cz (DH l2 (s _ _) (by decide) (DH l3 q (by decide) (aw h2 (cz (DH l4 (s _ _) (by decide) k))))))))))) h2
theorem RY{x z:ax}{go:ax->Prop}(e:wq ke ka kp x y=some z)(k:go z):Ğ ke ka x kp y h go:=by
 unfold wq at e;unfold Ğ;cases h1:oo kp y with
 |true=>rw[h1]at e;exact .f (.f (aj e▸k))
 |false=>
  rw[h1]at e;refine .t (bW e λa e1 e=>aw e1 (bW e λt e2 e=>tJ (C:=λa=>mU .In a (.str kp) h λc=>Br c (Br true (R8 x y ke h go) (go x)) (Br false (R8 x y ke h go) (go x))) e2 ?_));show Br (oo kp t) _ _;cases h2:oo kp t with
  |false=>rw[h2]at e;exact .f (.f (aj e▸k))
  |true=>
   rw[h2]at e;refine .t (.t (bW e λi e3 e=>bW e λb e4 e=>bW e λv e5 e=>?_));cases h3:aN x.length 1000 with
   |false=>rw[h3]at e;exact aJ e
   |true=>rw[h3]at e;exact R6 (ae h3) e3 e4 e5 (aj e▸k)
inductive E_(ke ka:List (ax×AV))(ys:List ax)(kp:ax)(zs:List AV)(o:dU)(w:ax)(l:List IT)(m:Nm)(H:Hp):Prop
 |mk(r:List ax)(x:ax)(el:l=(dI r).map IT.val)(em:eW Ü m=OB x kp)(eh:H=Az ke ka ys++[.pin (.lst zs) o])(ef:pi ke ka kp r x=some w):E_ ke ka ys kp zs o w l m H
theorem Gw(h:scal a=true):∃v,∀ρ,db ρ a v:=by
 cases a with
 |int i=>exact⟨.int i 0,λz=>.int _ _⟩
 |str x=>exact⟨.str x 0,λz=>.str _ _⟩
 |flt x=>exact⟨.float x 0,λz=>.flt _ _⟩
 |none=>exact⟨_,λz=>.none⟩
 |bool b=>exact⟨_,λz=>.bool b⟩
 |val v=>exact⟨v,λz=>.val v⟩
 |ref=>exact bj h
theorem pF:∀{kvs:List (ax×AV)},(kvs.all λp=>scal p.2)=true->∀ρ,s4 ρ (.dct kvs):=λ{kvs}=>by
 induction kvs with
 |nil=>exact λz ρ=>⟨[],.nil⟩
 |cons p r ih=>
  intro h ρ;have h:=(aM ..).mp h;obtain⟨v,hv⟩:=Gw h.1;obtain⟨vs,hs⟩:=ih h.2 ρ;exact⟨(p.1,v)::vs,.cons (hv ρ) hs⟩
theorem kZ(ys:List ax)(ρ:List aI):s4 ρ (.lst (dI ys)):=by
 induction ys with
 |nil=>exact⟨[],.nil⟩
 |cons y ys ih=>exact ih.elim λvs h=>⟨.str y 0::vs,.cons (.str _ _) h⟩
inductive Vm(as:List AV)(H:Hp)(K:KV):Prop
 |mk(x kp z:ax)(n1 n2 n3:Nat)(ke ka:List (ax×AV))(ys:List ax)(ea:as=[.str x,.ref n1,.ref n2,.str kp,.ref n3])(h1:H[n1]? =some (.dct ke))(h2:H[n2]? =some (.dct ka))(h3:H[n3]? =some (.lst (dI ys)))(s1:(ke.all λp=>scal p.2)=true)(s2:(ka.all λp=>scal p.2)=true)(ne:[n1,n2,n3].Nodup)(hl:ys.length<=4)(e:pi ke ka kp ys.reverse x=some z)(k:K (.str z) H):Vm as H K
noncomputable def W8:Sp:=jq Vm
theorem RZ{x:ax}{K:KS}:cg (gB 28) KY 8 (bd 28) (OB x kp) (Az ke ka ys) K=qQ (gB 28) KY 7 (ou 28 0) (OB x kp) (Az ke ka ys) (gn (gB 28) KY 8 ((bd 28).drop 1) K):=by kernel_rfl
theorem RX{x:ax}(L:List IT->Option Nat->Hp->Prop):Jt (gB 28) KY 7 (ou 28 0) (OB x kp) (Az ke ka ys) L=(bq=bq∧(some (-1:Int)≠some 0∧(dI ys).length<=aF)∧iz (jJ (dI ys) none none (some (-1))) λzs=>Bj (.lst zs) λl=>L l (some 3) (Az ke ka ys++[.lst zs])):=by kernel_rfl
theorem Ď:∀{ys:List ax},ys.length<=4->jJ (dI ys) none none (some (-1))=dI ys.reverse
 |[],_=>by kernel_rfl
 |[a],_=>by kernel_rfl
 |[a,b],_=>by kernel_rfl
 |[a,b,c],_=>by kernel_rfl
 |[a,b,c,d],_=>by kernel_rfl
 |_::_::_::_::_::_,h=>absurd h (by simp)
set_option tactic.hygienic true in
theorem R4{x:ax}{K:KS}:(fX (some (3,o)) (Az ke ka ys++[.pin (.lst zs) o]) λH=>gn (gB 28) KY 8 ((bd 28).drop 1) K .next (OB x kp) H)=(o=o∧K (.ret (.str x)) (OB x kp) (Az ke ka ys++[.lst zs])):=by kernel_rfl
theorem KW{x z:ax}(hl:ys.length<=4)(e:pi ke ka kp ys.reverse x=some z)(k:K (.str z) H):cg (gB 28) KY 8 (bd 28) (OB x kp) (Az ke ka ys) (dT (mn (Az ke ka ys) H K)):=by
 refine kc (nh Ü (by kernel_rfl) RX ⟨rfl,⟨by decide,iP ys▸aq hl (ae rfl)⟩,bX ?_⟩) RZ;rw[Ď hl];show iz ((dI ys.reverse).map IT.val) _;refine bX λo=>aw (x:=.lst (dI ys.reverse)) rfl (iL (E_ ke ka ys kp (dI ys.reverse) o z) (λm H' h=>?_) (λit r m H' go hgo h=>?_) _ _ _ ⟨ys.reverse,x,rfl,by kernel_rfl,rfl,e⟩)
 ·obtain⟨r,x',el,em,rfl,ef⟩:=h
  cases r with
  |cons=>exact(bf _ _ el.symm).elim
  |nil=>exact⟨rfl,bX (em▸kc (P:=o=o∧mn (Az ke ka ys) H K (.str x') (Az ke ka ys++[.lst (dI ys.reverse)])) ⟨rfl,mn.now (T:=[.lst (dI ys.reverse)]) rfl (aj ef▸k)⟩ R4)⟩
 ·obtain⟨rr,x',el,em,rfl,ef⟩:=h
  cases rr with
  |nil=>exact(bf _ _ el).elim
  |cons y rr=>
   obtain⟨rfl,rfl⟩:=ca el;exact⟨rfl,bX (em▸kc (bW (show(wq ke ka kp x' y).bind (λz=>pi ke ka kp rr z)=some z from ef) λx2 e1 e2=>RY e1 (hgo _ _ ⟨rr,x2,rfl,by kernel_rfl,rfl,e2⟩)) (RW (K:=λf m H'=>fX (some (3,o)) H' λH'=>gn (gB 28) KY 8 ((bd 28).drop 1) (dT (mn (Az ke ka ys) H K)) f m H')))⟩
theorem ĝ:rz Γ "str" (aa "index") (.builtin ("str"++"."++"index")):=qE F.slot_str_index F.type_str_index
theorem ċ{n1 n2 n3:Nat}{a b c:AO}(h1:H[n1]? =some a)(h2:H[n2]? =some b)(h3:H[n3]? =some c)(w1:∀ρ,s4 ρ a)(w2:∀ρ,s4 ρ b)(w3:∀ρ,s4 ρ c)(nd:[n1,n2,n3].Nodup):IZ H [n1,n2,n3] [a,b,c]:=
 have d1:=eM.mp nd;have d2:=eM.mp d1.2
 .cons h1 w1 d1.1 (.cons h2 w2 d2.1 (.cons h3 w3 (λh=>eN h) .nil))
theorem W7:f7 w mean mg mb 3 293 W8:=uU (T:=KY) 8 Ü [] [] (λy=>.nil) Yj YC (by kernel_rfl) (λs vs X h=>eH h λa r h=>eH h λb r h=>eH h λc r h=>eH h λd r h=>eH h λe r h=>kL h (dz (by kernel_rfl))) (λΓ hd hu=>dt (.cons uS .nil) (.cons ĝ .nil) λy y e=>aJ e) λas H K h=>by
  obtain⟨x,kp,z,n1,n2,n3,ke,ka,ys,ea,h1,h2,h3,s1,s2,ne,hl,e,k⟩:=h;exact⟨[n1,n2,n3],Az ke ka ys,[.str x,.ref 0,.ref 1,.str kp,.ref 2],ċ h1 h2 h3 (pF s1) (pF s2) (kZ ys) ne,ea▸ .sc rfl (.ref rfl (.ref rfl (.sc rfl (.ref rfl .nil)))),rfl,kc (KW hl e k) (by kernel_rfl)⟩
end
variable{α:Type}{e:al}{Y:AV->Hp->Prop}
section
def iv(tr:Tr)(el:En->Nm->Hp->(α->Hp->Prop)->Prop)(en:En)(tgt:al)(ifs:List al)(it:IT)(m:Nm)(H:Hp)(Y:α->Hp->Prop)(N:Hp->Prop):Prop:=EQ en.nk tgt it H λl H=>Iz tr {en with loc:=some l} ifs m H (λH=>el {en with loc:=some l} m H λa H=>Y a H) λH=>N H
theorem ff{α β:Type}{tr:Tr}{el:En->Nm->Hp->(α->Hp->Prop)->Prop}{en:En}{tgt:al}{ifs:List al}{pn:Option (Nat×dU)}(g:β->IT)(f:β->Option α)(ok:β->Prop)(pk:∀P:Prop,P->iI pn H P)
  (turn:∀b,ok b->∀(Y:α->Hp->Prop)(N:Hp->Prop),(∀a,f b=some a->Y a H)->(f b=none->N H)->iv tr el en tgt ifs (g b) m H Y N):∀(l:List β)(K:List α->Hp->Prop),(∀b∈l,ok b)->K (l.filterMap f) H->jA tr el en tgt ifs pn (l.map g) m H K
 |[],K,_,k=>pk _ k
 |b::l,K,h,k=>pk _ (turn b (h b ah) _ _ (λa e=>ff g f ok pk turn l _ (λb hb=>h b (af _ hb)) (by rw[ce,e]at k;exact k)) λe=>ff g f ok pk turn l _ (λb hb=>h b (af _ hb)) (by rw[ce,e]at k;exact k))
noncomputable def gL:cP->al
 |.Assign _ v _=>v
 |.Return (some v) _=>v
 |_=>.Name (aa "") ⟨0,0,0,0⟩
noncomputable def MM:al->List al
 |.Tuple es _ _=>es
 |.List es _=>es
 |_=>[]
noncomputable abbrev eA(es:List al)(i:Nat):al:=es.getD i (.Name (aa "") ⟨0,0,0,0⟩)
noncomputable def Xj:al->al
 |.ListComp e _ _ _=>e
 |e=>e
noncomputable def Ģ:al->List lK
 |.ListComp _ g _ _=>g
 |.DictComp _ _ g _ _=>g
 |_=>[]
noncomputable def nj:al->iS
 |.ListComp _ _ s _=>s
 |.DictComp _ _ _ s _=>s
 |_=>{kind:=.function,names:=[],isGenerator:=false,isCoroutine:=false}
noncomputable def rF:f6:=oa [(.ref 59,CW),(.builtin "str.index",tZ)] [mM "str" "index"] zM
noncomputable abbrev O0:al:=eA (MM (gL (sA (bd 27) 0))) 1
def fP(T:f6)(n:Nat)(e:al)(en:En)(m:Nm)(H:Hp)(K:List AV->Hp->Prop):Prop:=nE (α:=AV) T (wk T n).1 (wk T n).2 (λen m H K=>(wk T n).1 en (Xj e) m H K) en (Ģ e) (nj e) m H K
noncomputable def g0(e:al):lK:=(Ģ e).getD 0 ⟨.Name (aa "") ⟨0,0,0,0⟩,.Name (aa "") ⟨0,0,0,0⟩,[],0⟩
abbrev u0(T:f6)(n:Nat)(e:al):En->Nm->Hp->(AV->Hp->Prop)->Prop:=λen m H K=>(wk T n).1 en (Xj e) m H K
def lz(T:f6)(n:Nat)(e:al)(en:En)(cl:List (ax×Nat))(m:Nm)(H:Hp)(K:List AV->Hp->Prop):Prop:=v7 T (wk T n).1 en (g0 e).iter m H λits n' H=>its.length<=aF∧pL n' H λpn H=>jA (wk T n).2 (u0 T n e) ⟨eU (nj e) en.nk,cl,none⟩ (g0 e).target (g0 e).ifs pn its m H λys H=>fX pn H λH=>K ys H
def Zu(T:f6)(n:Nat)(e:al)(en:En)(m:Nm)(H:Hp)(L:List IT->Option Nat->Hp->Prop):Prop:=aG (DD (jh (g0 e).iter)) λc=>aG (one c.2) λx=>ku (eF [x]) (aG (RB (jh c.1)) λy=>aG (wi en T m H y) λg=>aG (T.gen g) λk'=>(wk T n).1 en x m H λa H=>kE a λx=>iz (yF (k' x)) λl=>L l none H)
theorem H8{en:En}{x:ax}{K:List AV->Hp->Prop}(f:Int×ax->Option AV)(cl:List (ax×Nat))(e1:∀K,fP T n e en m H K=lz T n e en cl m H K)(e2:∀L,Zu T n e en m H L=iz (yF (iN x)) λl=>L l none H)(hl:(iN x).length<=aF)
  (turn:∀(p:Int)(c:ax)(Y:AV->Hp->Prop)(N:Hp->Prop),(∀a,f (p,c)=some a->Y a H)->(f (p,c)=none->N H)->iv (wk T n).2 (u0 T n e) ⟨eU (nj e) en.nk,cl,none⟩ (g0 e).target (g0 e).ifs (.pair (.int p) (.str c)) m H Y N)(k:K ((iN x).filterMap f) H):fP T n e en m H K:=
 kc (.gen (kc (P:=iz (yF (iN x)) λl=>l.length<=aF∧jA (wk T n).2 (u0 T n e) ⟨eU (nj e) en.nk,cl,none⟩ (g0 e).target (g0 e).ifs none l m H λys H=>K ys H) (bX ⟨(aD _).symm▸hl,ff (pn:=none) (λp=>IT.pair (.int p.1) (.str p.2)) f (λz=>True) (λz h=>h) (λb z Y N=>turn b.1 b.2 Y N) (iN x) _ (λz z=>br) k⟩) (e2 λits n' H=>its.length<=aF∧pL n' H λpn H=>jA (wk T n).2 (u0 T n e) ⟨eU (nj e) en.nk,cl,none⟩ (g0 e).target (g0 e).ifs pn its m H λys H=>fX pn H λH=>K ys H))) (e1 K)
noncomputable abbrev ec:List ax:=[aa "ends",aa "closers"]
theorem Us{x:ax}{K:KS}:cg (gB 27) rF 8 (sA (bd 27) 0::r) [(aa "text",.str x)] [] K=(false=false∧fP rF 25 O0 (gB 27) [(aa "text",.str x)] [.dct []] λys H=>([AV.ref 0,AV.ref H.length]:List AV).length<=aF∧xo (gB 27) ec (H++[AO.lst ys]).length [(aa "text",.str x)] (H++[.lst ys]++[.tup [.ref 0,.ref H.length]]) (gn (gB 27) rF 8 r K) (some ec)):=by kernel_rfl
theorem Ur{x:ax}(K:List AV->Hp->Prop):fP rF 25 O0 (gB 27) [(aa "text",.str x)] [.dct []] K=lz rF 25 O0 (gB 27) [] [(aa "text",.str x)] [.dct []] K:=by kernel_rfl
theorem Un{x:ax}(L:List IT->Option Nat->Hp->Prop):Zu rF 25 O0 (gB 27) [(aa "text",.str x)] [.dct []] L=iz (yF (iN x)) λl=>L l none [.dct []]:=by kernel_rfl
theorem Uh{x:ax}{p:Int}{N:Hp->Prop}:iv (wk rF 25).2 (u0 rF 25 O0) ⟨eU (nj O0) (gB 27).nk,[],none⟩ (g0 O0).target (g0 O0).ifs (.pair (.int p) (.str c)) [(aa "text",.str x)] [.dct []] Y N=Br (c==aa ")") (Y (.int p) [.dct []]) (N [.dct []]):=by kernel_rfl
noncomputable def MW(p:Int×ax):Option AV:=bif p.2==aa ")" then some (.int p.1)else none
noncomputable def ky(x:ax):List AV:=(iN x).filterMap MW
noncomputable def ML(x:ax):Nm:=[(aa "text",.str x),(aa "closers",.ref 1),(aa "ends",.ref 0)]
noncomputable def uZ(kvs:List (ax×AV))(cs:List AV)(z:AO):Hp:=[.dct kvs,z,.tup [.ref 0,.ref 1]]
theorem Ui{x:ax}{ys:List AV}{K:KS}:(([AV.ref 0,AV.ref 1]:List AV).length<=aF∧xo (gB 27) ec ([AO.dct []]++[AO.lst ys]).length [(aa "text",.str x)] ([AO.dct []]++[.lst ys]++[.tup [.ref 0,.ref 1]]) (gn (gB 27) rF 8 r K) (some ec))=(2<=aF∧cg (gB 27) rF 8 r (ML x) (uZ [] ys (.lst ys)) K):=by kernel_rfl
theorem Ds{x:ax}(h:x.length<=200):(iN x).length<=aF:=aq (bP (aD _)) (aq (Dr h) (ae rfl))
theorem Ip{x:ax}(hx:x.length<=200){K:KS}(k:cg (gB 27) rF 8 r (ML x) (uZ [] (ky x) (.lst (ky x))) K):cg (gB 27) rF 8 (sA (bd 27) 0::r) [(aa "text",.str x)] [] K:=
 kc ⟨rfl,H8 MW [] Ur Un (Ds hx) (λp c Y N y n=>kc (P:=Br (c==aa ")") (Y (.int p) [.dct []]) (N [.dct []])) ⟨λe=>y _ (by unfold MW;rw[e];rfl),λe=>n (by unfold MW;rw[e];rfl)⟩ Uh) (kc ⟨ae rfl,k⟩ Ui)⟩ Us
end
variable{kvs:List (ax×AV)}{cs:List AV}
section
set_option tactic.hygienic true in
def jI(en:En)(S:cP)(k:Nat)(T:f6)(it:IT)(m:Nm)(H:Hp)(xs:List ax)(go:Nm->Hp->Prop)(K:KS):Prop:=yn en (zN S) it m H λm H=>cg en T k (lM S) m H λf m H=>(match f with
  |.next=>go m H
  |.cont=>go m H
  |.brk=>iz (eW xs m) λm=>K .next m H
  |.ret a=>K (.ret a) m H)
noncomputable abbrev VC:cP:=sA (lM (ou 27 1)) 0
noncomputable abbrev Y5:List ax:=[aa "text",aa "closers",aa "ends"]
noncomputable abbrev Y4:List ax:=[aa "text",aa "closers",aa "ends",aa "x"]
noncomputable def x8(x c:ax):Nm:=[(aa "text",.str x),(aa "closers",.ref 1),(aa "ends",.ref 0),(aa "x",.str c)]
noncomputable def Y7(x c:ax)(e:Int):Nm:=[(aa "text",.str x),(aa "closers",.ref 1),(aa "ends",.ref 0),(aa "x",.str c),(aa "end",.int e)]
def Ug(x c:ax)(e:Int)(kvs:List (ax×AV))(set:List (ax×AV)->Prop)(go:Prop):Prop:=aG (oX x c) λi=>Br (decide ((i:Int)<e)) (aG (oX x c) λj=>cut x ((sl x (some ((j:Int) - 1)) (some (e+1))).length<=200∧Br (jF (sl x (some ((j:Int) - 1)) (some (e+1)))) (Br true (false=false∧kvs.length<=aF∧iz (kt kvs c (.int e)) set) go) (Br false (false=false∧kvs.length<=aF∧iz (kt kvs c (.int e)) set) go))) (Br false (false=false∧kvs.length<=aF∧iz (kt kvs c (.int e)) set) go)
set_option tactic.hygienic true in
theorem Um{x:ax}{e:Int}{go:Nm->Hp->Prop}{K:KS}:jI (gB 27) VC 6 rF (.val (.int e)) (x8 x c) (uZ kvs cs (.pin (.lst cs) o)) Y4 go K=Ug x c e kvs (λkvs=>K .next (x8 x c) (uZ kvs cs (.pin (.lst cs) o))) (go (Y7 x c e) (uZ kvs cs (.pin (.lst cs) o))):=by kernel_rfl
noncomputable def nz(x c:ax):List AV->List (ax×AV)->Option (List (ax×AV))
 |[],kvs=>some kvs
 |a::r,kvs=>(mE a).bind λe=>(oX x c).bind λi=>bif decide ((i:Int)<e)&&jF (sl x (some ((i:Int) - 1)) (some (e+1)))then(bif aN kvs.length 1000 then some (kt kvs c (.int e))else none)else nz x c r kvs
inductive Ŭ(x c:ax)(cs:List AV)(o:dU)(w:List (ax×AV))(l:List IT)(m:Nm)(H:Hp):Prop
 |mk(r:List AV)(kvs:List (ax×AV))(el:l=r.map IT.val)(em:eW Y4 m=x8 x c)(eh:H=uZ kvs cs (.pin (.lst cs) o))(ef:nz x c r kvs=some w):Ŭ x c cs o w l m H
set_option tactic.hygienic true in
theorem Io{x:ax}{w:List (ax×AV)}{K:KS}(hx:x.length<=200)(k:K .next (x8 x c) (uZ w cs (.pin (.lst cs) o))):∀l m H,Ŭ x c cs o w l m H->kC (gB 27) (cg (gB 27) rF 6) (zN VC) (lM VC) Y4 (some (1,o)) l m H K:=by
 refine iL (Ŭ x c cs o w) (λm H' h=>?_) (λit r m H' go hgo h=>?_)
 ·obtain⟨r,kvs,el,em,rfl,ef⟩:=h
  cases r with
  |cons=>exact(bf _ _ el.symm).elim
  |nil=>exact⟨rfl,bX (em▸aj ef▸k)⟩
 ·obtain⟨rr,kvs,el,em,rfl,ef⟩:=h
  cases rr with
  |nil=>exact(bf _ _ el).elim
  |cons a rr=>
   obtain⟨rfl,rfl⟩:=ca el;refine⟨rfl,bX (em▸?_)⟩;conv at ef=>lhs;whnf
   refine bW ef λe e1 ef=>tY (C:=λa=>jI (gB 27) VC 6 rF (.val a) (x8 x c) (uZ kvs cs (.pin (.lst cs) o)) Y4 go K) e1 (bW ef λi e2 ef=>kc ?_ Um)
   have nx:∀{b:Bool},(bif b then(bif aN kvs.length 1000 then some (kt kvs c (.int e))else none)else nz x c rr kvs)=some w->b=false->go (Y7 x c e) (uZ kvs cs (.pin (.lst cs) o)):=λ{b} ef hb=>hgo _ _ ⟨rr,kvs,rfl,by kernel_rfl,rfl,by rw[hb]at ef;exact ef⟩
   refine aw e2 ⟨λh1=>aw e2 ⟨rfl,aq hx (ae rfl),aq (PyProof.Txt.length_slice_le x _ _) hx,λh2=>.t ?_,λh2=>.f (nx ef (by rw[h1,h2];rfl))⟩,λh1=>.f (nx ef (by rw[h1];rfl))⟩;rw[h1,h2]at ef;cases h3:aN kvs.length 1000 with
   |false=>rw[h3]at ef;exact aJ ef
   |true=>
    rw[h3]at ef;exact⟨rfl,aq (ae h3) (ae rfl),bX (aj ef▸k)⟩
set_option tactic.hygienic true in
noncomputable def EE(xs:List ax)(go:Nm->Hp->Prop)(K:KS):KS:=λf m H=>match f with
 |.next=>go m H
 |.cont=>go m H
 |.brk=>iz (eW xs m) λm=>K .next m H
 |.ret a=>K (.ret a) m H
theorem Ul{x:ax}{go:Nm->Hp->Prop}{K:KS}:jI (gB 27) (ou 27 1) 7 rF (.val (.str c)) (ML x) (uZ kvs cs (.lst cs)) Y5 go K=qQ (gB 27) rF 6 VC (x8 x c) (uZ kvs cs (.lst cs)) (gn (gB 27) rF 7 [] (EE Y5 go K)):=by kernel_rfl
theorem Uk{x:ax}(L:List IT->Option Nat->Hp->Prop):Jt (gB 27) rF 6 VC (x8 x c) (uZ kvs cs (.lst cs)) L=iz (cs.map IT.val) λl=>L l (some 1) (uZ kvs cs (.lst cs)):=by kernel_rfl
noncomputable def cb(i:Nat):ax:=⟨#[97+i]⟩
noncomputable abbrev pX:List ax:=[cb 0,cb 1,cb 2,cb 3]
theorem Uj{x:ax}(L:List IT->Option Nat->Hp->Prop):Jt (gB 27) rF 7 (ou 27 1) (ML x) (uZ kvs cs (.lst cs)) L=L ((dI pX).map IT.val) none (uZ kvs cs (.lst cs)):=by kernel_rfl
theorem Uo{x:ax}{K:KS}:cg (gB 27) rF 8 ((bd 27).drop 1) (ML x) (uZ kvs cs (.lst cs)) K=qQ (gB 27) rF 7 (ou 27 1) (ML x) (uZ kvs cs (.lst cs)) (gn (gB 27) rF 8 ((bd 27).drop 2) K):=by kernel_rfl
set_option tactic.hygienic true in
theorem Uq{x:ax}{K:KS}:gn (gB 27) rF 8 ((bd 27).drop 2) K .next (ML x) (uZ kvs cs (.lst cs))=K (.ret (.ref 0)) (ML x) (uZ kvs cs (.lst cs)):=by kernel_rfl
set_option tactic.hygienic true in
theorem Uf{x:ax}{go:Nm->Hp->Prop}{K:KS}:(fX (some (1,o)) (uZ kvs cs (.pin (.lst cs) o)) λH=>gn (gB 27) rF 7 [] (EE Y5 go K) .next (x8 x c) H)=(o=o∧go (x8 x c) (uZ kvs cs (.lst cs))):=by kernel_rfl
noncomputable def wG(x:ax)(cs:List AV):List ax->List (ax×AV)->Option (List (ax×AV))
 |[],kvs=>some kvs
 |c::r,kvs=>(nz x c cs kvs).bind λk=>wG x cs r k
noncomputable def sR(x:ax):Option (List (ax×AV)):=(wG x (ky x) pX []).bind λw=>bif w.all λp=>scal p.2 then some w else none
inductive G_(x:ax)(cs:List AV)(w:List (ax×AV))(l:List IT)(m:Nm)(H:Hp):Prop
 |mk(r:List ax)(kvs:List (ax×AV))(el:l=(dI r).map IT.val)(em:eW Y5 m=ML x)(eh:H=uZ kvs cs (.lst cs))(ef:wG x cs r kvs=some w):G_ x cs w l m H
theorem MK{x:ax}(hx:x.length<=200){w:List (ax×AV)}(e:sR x=some w)(k:K (.ref H.length) (H++[.dct w])):cg (gB 27) rF 8 (bd 27) [(aa "text",.str x)] [] (dT (mn [] H K)):=by
 have e0:bd 27=sA (bd 27) 0::(bd 27).drop 1:=by kernel_rfl
 refine bW (show(wG x (ky x) pX []).bind _=some w from e) λw' e1 e=>?_
 cases hs:w'.all λp=>scal p.2 with
 |false=>rw[hs]at e;exact aJ e
 |true=>
  rw[hs]at e;obtain rfl:=aj e;rw[e0];refine Ip hx (kc (nh Y5 (by kernel_rfl) Uj (iL (G_ x (ky x) w') (λm H' h=>?_) (λit r m H' go hgo h=>?_) _ _ _ ⟨pX,[],rfl,by kernel_rfl,rfl,e1⟩)) Uo)
  ·obtain⟨r,kvs,el,em,rfl,ef⟩:=h
   cases r with
   |cons=>exact(bf _ _ el.symm).elim
   |nil=>exact bX (em▸kc (P:=mn [] H K (.ref 0) (uZ kvs (ky x) (.lst (ky x)))) (aj ef▸ .new _ _ 0 rfl rfl rfl (bC _) (pF hs) k) Uq)
  ·obtain⟨rr,kvs,el,em,rfl,ef⟩:=h
   cases rr with
   |nil=>exact(bf _ _ el).elim
   |cons c rr=>
    obtain⟨rfl,rfl⟩:=ca el;refine bX (em▸kc (bW (show(nz x c (ky x) kvs).bind (λk=>wG x (ky x) rr k)=some w' from ef) λk2 e2 e3=>nh Y4 (by kernel_rfl) Uk (bX λo=>aw (x:=.lst (ky x)) rfl (Io hx (kc ⟨rfl,hgo _ _ ⟨rr,k2,rfl,by kernel_rfl,rfl,e3⟩⟩ Uf) _ _ _ ⟨ky x,kvs,rfl,by kernel_rfl,rfl,e2⟩))) (Ul (K:=λf m H'=>fX none H' λH'=>gn (gB 27) rF 8 ((bd 27).drop 2) (dT (mn [] H K)) f m H')))
noncomputable def OZ:Sp:=jq λas H K=>lY as λa=>kE a λx=>x.length<=200∧aG (sR x) λw=>K (.ref H.length) (H++[.dct w])
theorem MJ:f7 w mean mg mb 9 286 OZ:=Dq (T:=rF) 8 _ Yk YD (by kernel_rfl) (λz=>by kernel_rfl) (λΓ hd hu=>dt (.cons (Bs.sp Ta hd hu rfl) (.cons uS .nil)) (.cons ĝ .nil) (qP hd hu rfl)) λx H K h=>aG.el h.2 λw k e=>MK h.1 e k
end
variable{as:List AV}{vs:List ar}
variable{ρ:List aI}
section
noncomputable def Oh:Sp:=jq λas H K=>u8 as λa b=>lB a λa=>lB b λb=>K (.ref H.length) (H++[.rng a b])
theorem Q9:iA Γ (.type "range",Oh):=.of rfl λρ P m H s Q E as vs K h R r b=>u8.el h r λa va c vc h ra rc=>lB.el (C:=λva=>aL (cJ w) Γ.A (bH (.type "range") [va,vc] []) Q E s) h ra λx t h=>lB.el (C:=λvc=>aL (cJ w) Γ.A (bH (.type "range") [.int x t,vc] []) Q E s) h rc λy u h=>R.made (ok:=by exact λz z=>br) b h λmm l F N fin=>call_range_2 (fin _ _ _ (λρ' z=>.rng x y t u _) (F.push _) (N.push F _))
theorem xQ(r:bB ρ as vs):∀{ns:List Int},jT mE as=some ns->IntsAre vs ns:=by
 induction r with
 |nil=>exact λe=>aj e▸ .nil
 |cons h _ ih=>
  intro ns e;refine DJ e λx xs e1 e2 e3=>?_
  induction h with
  |int y t=>exact e3▸aj e1▸ .cons _ _ (ih e2)
  |_=>exact aJ e1
noncomputable def Hk:Sp:=jq λas H K=>lY as λa=>jY a λn=>aG (cH fG H n) λxs=>aG (jT mE xs) λns=>aG ns.min? λz=>K (.int z) H
theorem KT:iA Γ (.builtin "min",Hk):=.of rfl λρ P m H s Q E as vs K h R r b=>lY.el h r λa va h ra=>jY.el h ra λn c h hc=>aG.el h λxs h e=>aG.el h λns h e2=>aG.el h λz h e3=>R.list hc e λvs rs l=>R.run λmm l' F N fin=>by
 have hz:=(List.min?_eq_some_iff).mp e3;refine kso_min F N l (xQ rs e2) (List.length_pos_of_mem hz.1) rfl λh' M t tk F' N' a1 a2=>?_
 have:M=z:=NS (a2 z hz.1) (hz.2 M a1);exact b.put (dg.refl ρ) (.int M t) (fin _ _ F' N') (this▸h)
noncomputable def Oc:Sp:=jq λas H K=>lY as λa=>jY a λn=>aG (cH fG H n) λxs=>aG (jT mE xs) λns=>K (.int ns.sum) H
theorem Qt:iA Γ (.builtin "sum",Oc):=.of rfl λρ P m H s Q E as vs K h R r b=>lY.el h r λa va h ra=>jY.el h ra λn c h hc=>aG.el h λxs h e=>aG.el h λns h e2=>R.list hc e λvs rs l=>R.run λmm l' F N fin=>sumK rfl F N l (xQ rs e2) λh' tk t F' N'=>b.put (dg.refl ρ) (.int _ t) (fin _ _ F' N') h
def Gk(a:AV)(H:Hp)(K:KV):Prop:=match a with
 |.int z=>z.natAbs.log2<1920∧K (.str (aa (oS z))) H
 |.bool b=>K (.str (match b with|true=>aa "True"|false=>aa "False")) H
 |_=>False
noncomputable def CI:Sp:=jq λas H K=>lY as λa=>Gk a H K
theorem Bh:iA Γ (.type "str",CI):=.of rfl λρ P m H s Q E as vs K h R r b=>lY.el h r λa va h ra=>by
 induction ra with
 |int z t=>exact PySem.P.str_of_int h.1 (b.new R (.str _ _) h.2 _)
 |bool c=>
  cases c with
  |true=>exact Ar (b.new R (.str _ _) h _)
  |false=>exact Ar (b.new R (.str _ _) h _)
 |_=>exact h.elim
noncomputable def HM:Sp:=jq λas H K=>lY as λa=>kE a λx=>aG (gW x) λz=>x.length<=640∧K (.int z) H
theorem Mh:iA Γ (.type "int",HM):=.of rfl λρ P m H s Q E as vs K h R r b=>lY.el h r λa va h ra=>kE.el h ra λx t h=>aG.el h λz h e=>KIN.call_text e h.1 (b.new R (.int _ _) h.2 _)
end
variable{ow:List (ax×AV)}{wv xv:Option AV}{ids:List AV}{Z:Hp}{wt v:Int}{L:Hp->Prop}
section
noncomputable def oE:f6:=oa [(.builtin "list.append",q8),(.builtin "list.pop",Om),(.type "range",Oh),(.builtin "min",Hk)] [mM "list" "append",mM "list" "pop"] zM
noncomputable def nf:En:=⟨(fS (mS 29)).names,yg (cj (fS (mS 29)).names) 1,none⟩
noncomputable def Vt(x:ax):Nm:=[(aa "text",.str x),(aa "pile",.ref 4)]
theorem Q6{x:ax}{K:KS}:cg nf oE 8 (sA (bd 29) 0::r) [(aa "text",.str x)] [.dct ow,.cell none,.cell none,.cell (some (.ref 0))] K=(2<=aF∧1<=aF∧cg nf oE 8 r [(aa "text",.str x),(aa "pile",.ref 5)] [.dct ow,.cell none,.cell none,.cell (some (.ref 0)),.lst [.str (aa ""),.int 0],.lst [.ref 4]] K):=by kernel_rfl
noncomputable def jE(ow:List (ax×AV))(wv xv:Option AV)(e0 ids:List AV)(Z:Hp):Hp:=.dct ow:: .cell wv:: .cell xv:: .cell (some (.ref 0)):: .lst e0:: .lst ids::Z
noncomputable def vW(x:ax):Nm:=[(aa "text",.str x),(aa "pile",.ref 5)]
noncomputable def vV(x c:ax)(p:Int):Nm:=[(aa "text",.str x),(aa "pile",.ref 5),(aa "place",.int p),(aa "sign",.str c)]
noncomputable abbrev rx:List ax:=[aa "text",aa "pile"]
noncomputable abbrev wS:ax:=aa "worth"
noncomputable def Fg:List cP:=lM (sA (X8 (sA (X8 (sA (lM (ou 29 1)) 0)) 0)) 0)
noncomputable def Wn:List cP:=lM (sA Fg 1)
noncomputable abbrev Kx:al:=eA (match jh (gL (sA Wn 0))with|.call _ as _=>as|_=>[]) 0
noncomputable def kD(go:Nm->Hp->Prop)(K:KS):KS:=gn nf oE 5 [] (gn nf oE 6 [] (gn nf oE 7 [] (EE rx go K)))
def Bo(x c:ax)(p:Int)(ow:List (ax×AV))(wv xv:Option AV)(e0 ids:List AV)(Z:Hp)(go:Nm->Hp->Prop)(K:KS):Prop:=Br (c==aa "(") (false=false∧2<=aF∧ids.length<=aF∧iz (ids++[.ref (jE ow wv xv e0 ids Z).length]) λids=>go (vV x c p) (jE ow wv xv e0 ids (Z++[.lst [.str (aa ""),.int 0]])))
 (Br (Ag (ow.lookup c).isSome true) (false=false∧bq=bq∧(-(2^63)<=(-1:Int)∧(-1:Int)<2^63)∧aG (eT (-1) ids.length) λj=>aG ids[j]? λt=>D2 t (.int 0) (.str c) (jE ow wv xv e0 ids Z) λH=>go (vV x c p) H)
 (Br (c==aa ")") (false=false∧ids.length<=aF∧aG ids.getLast? λy=>iz ids.dropLast λids=>jY y λn=>aG (cH Bk (jE ow wv xv e0 ids Z) n) λas=>lA nf [aa "x",wS] as (vV x c p) (jE ow wv xv e0 ids Z) λm H=>cg nf oE 4 (Fg.drop 1) m H (kD go K)) (go (vV x c p) (jE ow wv xv e0 ids Z))))
theorem QR{x:ax}{p:Int}{e0:List AV}{go:Nm->Hp->Prop}{K:KS}:jI nf (ou 29 1) 7 oE (.pair (.int p) (.str c)) (vW x) (jE ow wv xv e0 ids Z) rx go K=Bo x c p ow wv xv e0 ids Z go K:=by kernel_rfl
theorem Q5{m:Nm}{s:ax}{e0:List AV}{K:KS}:(lA nf [aa "x",wS] [.str s,.int wt] m (jE ow wv xv e0 ids Z) λm H=>cg nf oE 4 (Fg.drop 1) m H K)=cg nf oE 4 (sA Fg 1::Fg.drop 2) m (jE ow (some (.int wt)) (some (.str s)) e0 ids Z) K:=by kernel_rfl
theorem Q4{m:Nm}{s:ax}{e0:List AV}{K:KS}:cg nf oE 4 (sA Fg 1::r) m (jE ow (some (.int wt)) (some (.str s)) e0 ids Z) K=aG (ow.lookup s) λa=>mU .NotEq a (.int 0) (jE ow (some (.int wt)) (some (.str s)) e0 ids Z) λc=>Br c (cg nf oE 3 Wn m (jE ow (some (.int wt)) (some (.str s)) e0 ids Z) (gn nf oE 4 r K)) (cg nf oE 4 r m (jE ow (some (.int wt)) (some (.str s)) e0 ids Z) K):=by kernel_rfl
theorem Q3{m:Nm}{K:KS}:cg nf oE 3 Wn m h K=fP oE 20 Kx nf m h λys h=>aG (cH fG (h++[.lst ys]) h.length) λxs=>aG (jT mE xs) λns=>aG ns.min? λz=>fb nf (aa "n") (.int z) m (h++[.lst ys]) λm h=>cg nf oE 3 (Wn.drop 1) m h K:=by kernel_rfl
def nO(T:f6)(n:Nat)(e:al)(en:En)(m:Nm)(H:Hp)(L:List IT->Option Nat->Hp->Prop):Prop:=(wk T n).1 en (g0 e).iter m H λa H=>uz a H λl n=>L l n H
theorem ga{en:En}{K:List AV->Hp->Prop}(cl:List (ax×Nat))(e1:∀K,fP T n e en m H K=lz T n e en cl m H K)(e2:∀L,nO T n e en m H L=Qp L)(h:Qp λits n' H=>its.length<=aF∧pL n' H λpn H=>jA (wk T n).2 (u0 T n e) ⟨eU (nj e) en.nk,cl,none⟩ (g0 e).target (g0 e).ifs pn its m H λys H=>fX pn H λH=>K ys H):fP T n e en m H K:=kc (.pl (kc h (e2 _))) (e1 K)
theorem CQ{H:List α}{o p:α}:(H++[o]).set H.length p=H++[p]:=by
 rw[j7 _ _ (bF _),fW];rfl
theorem pM{x:AO}{its:List IT}{L:Option (Nat×dU)->Hp->Prop}(h:∀o,L (some (H.length,o)) (H++[.pin x o])):pL (some H.length) (H++[x]) L:=λo=>aw (x:=x) bA (by rw[CQ];exact h o)
theorem u6{x:AO}{P:Prop}(h:P):iI (some (H.length,o)) (H++[.pin x o]) P:=aw (x:=.pin x o) bA (aQ rfl h)
theorem uH{x:AO}(h:L (H++[x])):fX (some (H.length,o)) (H++[.pin x o]) L:=aw (x:=.pin x o) bA (aQ rfl (by rw[CQ];exact h))
def DZ(h:Hp)(x:AO)(L:List IT->Option Nat->Hp->Prop):Prop:=aG (h++[x])[h.length]? λo=>Bj (un o) λl=>L l (some h.length) (h++[x])
theorem qw{x:AO}{L:List IT->Option Nat->Hp->Prop}(k:Bj (un x) λl=>L l (some h.length) (h++[x])):DZ h x L:=aw (x:=x) bA k
noncomputable def QU:List (ax×Nat):=(qT nf.cl (nj Kx).names []).getD []
theorem Q2{m:Nm}(K:List AV->Hp->Prop):fP oE 20 Kx nf m h K=lz oE 20 Kx nf QU m h K:=by kernel_rfl
theorem QZ{m:Nm}(L:List IT->Option Nat->Hp->Prop):nO oE 20 Kx nf m h L=DZ h (.rng 1 8) L:=by kernel_rfl
theorem QY{m:Nm}{s:ax}{k:Int}{e0:List AV}{T:Hp}{N:Hp->Prop}:iv (wk oE 20).2 (u0 oE 20 Kx) ⟨eU (nj Kx) nf.nk,QU,none⟩ (g0 Kx).target (g0 Kx).ifs (.val (.int k)) m (jE ow (some (.int wt)) (some (.str s)) e0 ids Z++T) Y N=aG (ow.lookup s) λa=>vB .Mult a (.int wt) (jE ow (some (.int wt)) (some (.str s)) e0 ids Z++T) λb h=>m6 8 k∧vB .Add b (.int (8*k)) h λc h=>mU .Gt c (.int 8) h λc=>Br c (Y (.int k) h) (N h):=by kernel_rfl
set_option tactic.hygienic true in
theorem QX{x:ax}{p:Int}{s:ax}{z:Int}{e0:List AV}{T:Hp}{K:KS}:(fb nf (aa "n") (.int z) (vV x c p) (jE ow (some (.int wt)) (some (.str s)) e0 ids Z++T) λm h=>cg nf oE 3 (Wn.drop 1) m h K)=aG (ow.lookup s) λo=>aG (ow.lookup s) λa=>vB .Mult a (.int wt) (jE ow (some (.int wt)) (some (.str s)) e0 ids Z++T) λb h=>m6 8 z∧vB .Add b (.int (8*z)) h λd h=>((0<=z - 1∧z - 1<=1000000)∧(2:Int).natAbs<2^64)∧vB .FloorDiv d (.int (2^(z - 1).toNat)) h λd h=>vB .Mult o d h λd h=>fb nf wS d (kt (vV x c p) (aa "n") (.int z)) h λm h=>K .next m h:=by kernel_rfl
theorem QW{m:Nm}{s:ax}{e0:List AV}{T:Hp}{K:Nm->Hp->Prop}:(fb nf wS (.int v) m (jE ow (some (.int wt)) (some (.str s)) e0 ids Z++T) K)=K m (jE ow (some (.int v)) (some (.str s)) e0 ids (Z++T)):=by kernel_rfl
set_option tactic.hygienic true in
theorem QV{m:Nm}{s:ax}{e0:List AV}{K:KS}:cg nf oE 4 (Fg.drop 2) m (jE ow (some (.int v)) (some (.str s)) e0 ids Z) K=aG (m.lookup (aa "pile")) λq=>bq=bq∧vv q (.int (-1)) (jE ow (some (.int v)) (some (.str s)) e0 ids Z) λt h=>Ń t (.int 1) h λa=>Mk .Add a (.int v) λc=>D2 t (.int 1) c h λh=>K .next m h:=by kernel_rfl
end
variable{ns:List Nat}{xs:List AV}
section
abbrev St:=List (ax×Int)
inductive lF(H:Hp):List Nat->St->Prop
 |nil:lF H [] []
 |cons{n:Nat}{ns:List Nat}{e:ax×Int}{es:St}(h:H[n]? =some (.lst [.str e.1,.int e.2]))(f:n=4∨5<n)(new:n∉ns)(r:lF H ns es):lF H (n::ns) (e::es)
theorem lF.el{es:St}(p:lF H ns es){C:List Nat->St->Prop}:match es with
  |[]=>True
  |e::es=>(∀n ns,H[n]? =some (.lst [.str e.1,.int e.2])->(n=4∨5<n)->n∉ns->lF H ns es->C (n::ns) (e::es))->C ns (e::es):=by
 induction p with
 |nil=>exact br
 |cons h f new r _=>exact λk=>k _ _ h f new r
theorem lF.z{es:St}(p:lF H ns es):es=[]->ns=[]:=by
 induction p with
 |nil=>exact λy=>rfl
 |cons=>exact λh=>(bf _ _ h).elim
theorem lF.low{es:St}(p:lF H ns es):∀n∈ns,n<H.length:=by
 induction p with
 |nil=>exact λn h=>eN h
 |cons h _ _ _ ih=>exact λn hn=>(aE.mp hn).elim (λe=>e▸(aH.mp h).1) (ih n)
theorem lF.mono{H':Hp}{es:St}(p:lF H ns es)(h:∀n∈ns,∀o,H[n]? =some o->(n=4∨5<n)->H'[n]? =some o):lF H' ns es:=by
 induction p with
 |nil=>exact .nil
 |cons e f new _ ih=>exact .cons (h _ ah _ e f) f new (ih λn hn=>h n (af _ hn))
noncomputable def Fq(ns:List Nat):List AV:=(ns.map AV.ref).reverse
theorem or(n:Nat)(ns:List Nat):Fq (n::ns)=Fq ns++[.ref n]:=sE
theorem oq:eT (-1) (xs++[a]).length=some xs.length:=by
 have e:(-1:Int)+((xs.length+1:Nat):Int)=(xs.length:Int):=(AZ _ _).trans (rR (xs.length:Int) 1);rw[aK,AU];show(if (decide (0<=(-1:Int)+((xs.length+1:Nat):Int))&&decide ((-1:Int)+((xs.length+1:Nat):Int)<((xs.length+1:Nat):Int)))=true then some ((-1:Int)+((xs.length+1:Nat):Int)).toNat else none)=_;rw[e,decide_eq_true (cx _),decide_eq_true (dH.mpr (bI _))];rfl
variable{e0:List AV}
inductive Ë(ow:List (ax×AV))(wv xv:Option AV)(ids:List AV)(H:Hp):Prop
 |mk(e0:List AV)(Z:Hp)(e:H=jE ow wv xv e0 ids Z):Ë ow wv xv ids H
theorem QN{ys:List AV}(f:n=4∨5<n):Ë ow wv xv ids ((jE ow wv xv e0 ids Z).set n (.lst ys)):=by
 rcases f with rfl|f
 ·exact⟨ys,Z,rfl⟩
 ·obtain⟨k,rfl⟩:=eE f
  rw[d4];exact⟨e0,Z.set k (.lst ys),rfl⟩
theorem Bn{ids':List AV}{wv' xv':Option AV}{o:AO}(f:n=4∨5<n)(h:(jE ow wv xv e0 ids Z)[n]? =some o):(jE ow wv' xv' e0 ids' Z)[n]? =some o:=by
 rcases f with rfl|f
 ·exact h
 ·obtain⟨k,rfl⟩:=eE f
  rw[d4]at h ⊢;exact h
theorem eS{o:AO}(h:n≠k):(H.set k o)[n]? =H[n]? :=Cn (qf h)
noncomputable def ź(o v:Int):List Int:=([1,2,3,4,5,6,7]:List Int).filter λn=>decide (8<o*v+8*n)
noncomputable def wh(ow:List (ax×AV))(s:ax)(v:Int):Option Int:=(ow.lookup s).bind λa=>(mE a).bind λo=>bif o != 0 then(bif decide (-100<=o∧o<=100)then((ź o v).min?).bind λn=>some (o*((o*v+8*n).fdiv (2^(n - 1).toNat)))else none)else some v
noncomputable def jb(ow:List (ax×AV))(c:ax)(st:St):Option St:=bif c==aa "(" then some ((aa "",0)::st)else bif (ow.lookup c).isSome then(match st with
  |[]=>none
  |e::r=>some ((c,e.2)::r))else bif c==aa ")" then(match st with
  |[]=>none
  |e::r=>(match r with
   |[]=>none
   |d::r=>(wh ow e.1 e.2).bind λz=>some ((d.1,d.2+z)::r)))else some st
noncomputable def pg(ow:List (ax×AV)):List (Nat×List Nat)->St->Option St
 |[],st=>some st
 |o::r,st=>bif aN st.length 1000 then(jb ow ⟨o.2.toArray⟩ st).bind λst=>pg ow r st else none
theorem ze{d:ax×Int}{es:St}(d':ax×Int)(h:(jE ow wv xv e0 ids Z)[n]? =some (.lst [.str d.1,.int d.2]))(f:n=4∨5<n)(new:n∉ns)(r:lF (jE ow wv xv e0 ids Z) ns es){C:Hp->Prop}(k:∀e0 Z,lF (jE ow wv xv e0 ids Z) (n::ns) (d'::es)->C (jE ow wv xv e0 ids Z)):C ((jE ow wv xv e0 ids Z).set n (.lst [.str d'.1,.int d'.2])):=by
 have hs:((jE ow wv xv e0 ids Z).set n (.lst [.str d'.1,.int d'.2]))[n]? =some (.lst [.str d'.1,.int d'.2]):=bZ (aH.mp h).1;have pr:lF ((jE ow wv xv e0 ids Z).set n (.lst [.str d'.1,.int d'.2])) ns es:=r.mono λq hq o e z=>(eS λ(i:q=n)=>new (i▸hq)).trans e
 obtain⟨e0',Z',e⟩:=QN (ow:=ow) (wv:=wv) (xv:=xv) (e0:=e0) (ids:=ids) (Z:=Z) (ys:=[.str d'.1,.int d'.2]) f;rw[e]at hs pr ⊢;exact k e0' Z' (.cons hs f new pr)
set_option tactic.hygienic true in
theorem QP{m:Nm}(hm:m.lookup (aa "pile")=some (.ref 5)){s:ax}{z:Int}{d:ax×Int}{es:St}{K:KS}(hi:ids=Fq ns)(p:lF (jE ow (some (.int z)) (some (.str s)) e0 ids Z) ns (d::es))(k:∀e0 Z,lF (jE ow (some (.int z)) (some (.str s)) e0 ids Z) ns ((d.1,d.2+z)::es)->K .next m (jE ow (some (.int z)) (some (.str s)) e0 ids Z)):cg nf oE 4 (Fg.drop 2) m (jE ow (some (.int z)) (some (.str s)) e0 ids Z) K:=by
 refine p.el (C:=λns _=>ids=Fq ns->(∀e0 Z,lF (jE ow (some (.int z)) (some (.str s)) e0 ids Z) ns ((d.1,d.2+z)::es)->K .next m (jE ow (some (.int z)) (some (.str s)) e0 ids Z))->cg nf oE 4 (Fg.drop 2) m (jE ow (some (.int z)) (some (.str s)) e0 ids Z) K) (λn ns h f new r hi k=>?_) hi k;refine kc (aw hm ⟨rfl,?_⟩) QV;rw[or]at hi;subst hi;exact aQ (by decide) (aw (x:=Fq ns++[AV.ref n]) rfl (aw oq (aw bA (aQ (by decide) (aw (mN h rfl) (aw (x:=AV.int d.2) rfl (aw h (aw (x:=[AV.str d.1,.int d.2]) rfl (aQ ⟨by decide,bI 1⟩ (ze (C:=K .next m) (d.1,d.2+z) h f new r k))))))))))
theorem D4:vX 1 0 7=([1,2,3,4,5,6,7]:List Int).map λk=>IT.val (.int k):=by kernel_rfl
theorem mG{α β:Type}{p:α->Bool}{g:α->β}:∀l:List α,l.filterMap (λk=>bif p k then some (g k)else none)=(l.filter p).map g
 |[]=>rfl
 |a::l=>by
  have ih:=mG (p:=p) (g:=g) l;rw[ce,f8];cases p a with
  |true=>exact congrArg (g a::·) ih
  |false=>exact ih
theorem su:∀l:List Int,jT mE (l.map AV.int)=some l
 |[]=>rfl
 |a::l=>by
  show((jT mE (l.map AV.int)).bind λxs=>some (a::xs))=_;rw[su l];rfl
theorem Gp{a b:Int}{L:List IT->Prop}(h1:(cN a b 1,cf a b 1)=(true,((b - a).toNat:Int)))(k:L (vX a 0 (b - a).toNat)):Bj (.rng a b) L:=show(_∧_)∧iz _ _ from⟨⟨congrArg (·.1) h1,congrArg (·.2) h1⟩,bX k⟩
noncomputable def b7(n:Int):Bool:=decide (0<=n - 1∧n - 1<=1000000)&&(decide ((2:Int)^(n - 1).toNat≠0)&&decide (((2:Int)^(n - 1).toNat).natAbs<1073741824))
theorem Đ{n:Int}(h:n∈([1,2,3,4,5,6,7]:List Int)):(0<=n - 1∧n - 1<=1000000)∧∀u,(2:Int)^(n - 1).toNat≠0∧dn u ((2:Int)^(n - 1).toNat)=false:=
 have q:=aB.mp (by kernel_rfl:([1,2,3,4,5,6,7]:List Int).all b7=true) n h;have q1:=(aM _ _).mp q;have q2:=(aM _ _).mp q1.2
 ⟨of_decide_eq_true q1.1,λz=>⟨of_decide_eq_true q2.1,noPylong_small (of_decide_eq_true q2.2)⟩⟩
theorem Dg{x:Int}(h:mE a=some x):a= .int x:=tY (C:=λa=>a= .int x) h rfl
theorem QM{x:ax}{p:Int}{s:ax}{z:Int}{K:KS}(e:wh ow s v=some z)(k:∀T m,m.lookup (aa "pile")=some (.ref 5)->eW rx m=vW x->cg nf oE 4 (Fg.drop 2) m (jE ow (some (.int z)) (some (.str s)) e0 ids (Z++T)) K):cg nf oE 4 (sA Fg 1::Fg.drop 2) (vV x c p) (jE ow (some (.int v)) (some (.str s)) e0 ids Z) K:=by
 unfold wh at e;refine kc (bW e λa e1 e=>bW e λo e2 e=>aw (e1.trans (congrArg some (Dg e2))) ?_) Q4;have e1:=e1.trans (congrArg some (Dg e2));show Br (o != 0) _ _;cases h:o != 0 with
 |false=>
  rw[h]at e;obtain rfl:=aj e;refine .f ?_;have q:=k [] (vV x c p) (by kernel_rfl) (by kernel_rfl);rw[be]at q;exact q
 |true=>
  rw[h]at e;cases h2:decide (-100<=o∧o<=100)with
  |false=>rw[h2]at e;exact aJ e
  |true=>
   rw[h2]at e;obtain⟨b1,b2⟩:=of_decide_eq_true h2;refine .t (kc (ga QU Q2 QZ ?_) Q3);refine qw (Gp (by kernel_rfl) ?_);show(vX 1 0 7).length<=aF∧_;rw[D4];refine⟨ae rfl,pM (its:=[]) λq=>ff (λk:Int=>IT.val (.int k)) (λk=>bif decide (8<o*v+8*k)then some (AV.int k)else none) (λw=>True) (λw p=>u6 p) (λk w Y N y n=>kc (aw e1 (aQ (vY b1 b2) (aQ (vY (by decide) (by decide)) (show Br (decide (8<o*v+8*k)) _ _ from⟨λd=>y _ (by rw[d];rfl),λd=>n (by rw[d];rfl)⟩)))) QY) [1,2,3,4,5,6,7] _ (λw w=>br) (uH ?_)⟩;rw[mG];refine bW e λn e3 e=>aw (mN bA rfl) (aw (su _) (aw e3 ?_))
   have hn:=(iq.mp (List.min?_mem e3)).1;have n1:=Đ hn;rw[aA];refine kc (aw e1 (aw e1 (aQ (vY b1 b2) (aQ (vY (by decide) (by decide)) (aQ ⟨n1.1,by decide⟩ (aQ (n1.2 _) (aQ (vY b1 b2) ?_))))))) QX;exact kc (aj e▸k _ _ (by kernel_rfl) (by kernel_rfl)) QW
inductive B_(x:ax)(ow:List (ax×AV))(fin:St)(l:List IT)(m:Nm)(H:Hp):Prop
 |mk(r:List (Nat×List Nat))(st:St)(ns:List Nat)(wv xv:Option AV)(e0 ids:List AV)(Z:Hp)(el:l=yF (r.map ý))(em:eW rx m=vW x)(eh:H=jE ow wv xv e0 ids Z)(ei:ids=Fq ns)(p:lF H ns st)(ef:pg ow r st=some fin):B_ x ow fin l m H
theorem Ku{x:ax}{p:Int}{st st':St}{go:Nm->Hp->Prop}{K:KS}(e:jb ow c st=some st')(hl:st.length<=1000)(hi:ids=Fq ns)(pl:lF (jE ow wv xv e0 ids Z) ns st)(k:∀m wv xv e0 ids ns Z,eW rx m=vW x->ids=Fq ns->lF (jE ow wv xv e0 ids Z) ns st'->go m (jE ow wv xv e0 ids Z)):Bo x c p ow wv xv e0 ids Z go K:=by
 have two:2<=aF:=ae rfl;have nm:eW rx (vV x c p)=vW x:=by kernel_rfl
 unfold jb at e;unfold Bo;have len:∀{ns:List Nat}{st:St},lF (jE ow wv xv e0 ids Z) ns st->ns.length=st.length:=λp=>by
  induction p with
  |nil=>rfl
  |cons _ _ _ _ ih=>exact congrArg eJ ih
 have hz:ids.length<=aF:=by
  rw[hi];show((ns.map AV.ref).reverse).length<=_;rw[qd,aD,len pl];exact aq hl (ae rfl)
 cases h1:c==aa "(" with
 |true=>
  rw[h1]at e;obtain rfl:=aj e;refine .t ⟨rfl,two,hz,bX ?_⟩;refine k _ _ _ _ _ ((jE ow wv xv e0 ids Z).length::ns) _ nm (by rw[hi,or]) (.cons (e:=(aa "",0)) ?_ (.inr ?_) ?_ ?_)
  ·exact bA (H:=jE ow wv xv e0 ids Z)
  ·exact eP 6 Z.length
  ·exact λq=>dW _ (pl.low _ q)
  ·exact pl.mono λq y o e f=>ba (Bn (ids':=ids++[.ref (jE ow wv xv e0 ids Z).length]) f e)
 |false=>
  rw[h1]at e;refine .f ?_;show Br (ow.lookup c).isSome _ _;cases h2:(ow.lookup c).isSome with
  |true=>
   rw[h2]at e;refine .t ⟨rfl,rfl,by decide,?_⟩;cases st with
   |nil=>exact aJ e
   |cons d r=>
    obtain rfl:=aj e;refine pl.el (C:=λns y=>ids=Fq ns->_) (λn ns h f new r hi=>?_) hi;rw[or]at hi;rw[hi]at h r ⊢;exact aw oq (aw bA (aw h (aw (x:=[AV.str d.1,.int d.2]) rfl (aQ ⟨by decide,jM 1⟩ (ze (C:=λH=>go (vV x c p) H) (c,d.2) h f new r λe0 Z pl=>k _ _ _ _ _ (n::ns) _ nm (or n ns).symm pl)))))
  |false=>
   rw[h2]at e;refine .f ?_;cases h3:c==aa ")" with
   |false=>
    rw[h3]at e;obtain rfl:=aj e;exact .f (k _ _ _ _ _ _ _ nm hi pl)
   |true=>
    rw[h3]at e;refine .t ⟨rfl,hz,?_⟩;cases st with
    |nil=>exact aJ e
    |cons d r=>
     cases r with
     |nil=>exact aJ e
     |cons d' r=>
      refine bW e λz e1 e=>?_
      obtain rfl:=aj e;refine pl.el (C:=λns y=>ids=Fq ns->_) (λn ns h f new r hi=>?_) hi;rw[or]at hi;subst hi;refine aw List.getLast?_concat ?_;rw[List.dropLast_concat];refine bX (aw (x:=[AV.str d.1,.int d.2]) ?_ (kc (QM e1 λT m m1 m2=>QP m1 rfl (r.mono λq y o e f=>ba (τ:=T) (Bn f e)) λe0 Z p=>k _ _ _ _ _ ns _ m2 rfl p) Q5));have h:=Bn (wv':=wv) (xv':=xv) (ids':=Fq ns) f h;unfold cH;rw[h];rfl
end
section
noncomputable abbrev O'(ow:List (ax×AV)):Hp:=[.dct ow,.cell none,.cell none,.cell (some (.ref 0))]
theorem QT{x:ax}{e0:List AV}{K:KS}:cg nf oE 8 ((bd 29).drop 1) (vW x) (jE ow none none e0 ids []) K=qQ nf oE 7 (ou 29 1) (vW x) (jE ow none none e0 ids []) (gn nf oE 8 ((bd 29).drop 2) K):=by kernel_rfl
theorem QS{x:ax}{e0:List AV}(L:List IT->Option Nat->Hp->Prop):YW nf oE 7 (ou 29 1) (vW x) (jE ow none none e0 ids []) L=iz (yF (iN x)) λl=>L l none (jE ow none none e0 ids []):=by kernel_rfl
theorem QQ{x:ax}{e0:List AV}{K:KS}:cg nf oE 8 ((bd 29).drop 2) (vW x) (jE ow wv xv e0 [.ref n] Z) K=((-(2^63)<=(0:Int)∧(0:Int)<2^63)∧(-(2^63)<=(1:Int)∧(1:Int)<2^63)∧aG (cH Bk (jE ow wv xv e0 [.ref n] Z) n) λxs=>aG (eT 1 xs.length) λj=>aG xs[j]? λy=>K (.ret y) (vW x) (jE ow wv xv e0 [.ref n] Z)):=by kernel_rfl
theorem Kw{x:ax}{z:Int}(hx:x.length<=200)(e:pg ow (iM x) [(aa "",0)]=some [(y,z)])(k:K (.int z) H):cg nf oE 8 (bd 29) [(aa "text",.str x)] (O' ow) (dT (mn [.dct ow] H K)):=by
 have e0:bd 29=sA (bd 29) 0::(bd 29).drop 1:=by kernel_rfl
 rw[e0];refine kc ⟨ae rfl,ae rfl,kc (xW rx (by kernel_rfl) QS (iL (B_ x ow [(y,z)]) (λm H' h=>?_) (λit r m H' go hgo h=>?_) _ _ _ ⟨iM x,[(aa "",0)],[4],none,none,[.str (aa ""),.int 0],[.ref 4],[],by unfold iN;rfl,by kernel_rfl,rfl,rfl,.cons (e:=(aa "",0)) rfl (.inl rfl) (λh=>eN h) .nil,e⟩)) QT⟩ Q6
 ·obtain⟨r,st,ns,wv,xv,e0,ids,Z,el,em,rfl,ei,p,ef⟩:=h
  cases r with
  |cons=>exact(bf _ _ el.symm).elim
  |nil=>
   obtain rfl:=aj (show some st=some [(y,z)]from ef);refine p.el (C:=λns w=>ids=Fq ns->_) (λn ns h f new r hi=>?_) ei;obtain rfl:=r.z rfl;obtain rfl:=hi;refine bX (em▸kc ⟨by decide,by decide,aw (x:=[AV.str y,.int z]) ?_ (aw (x:=1) rfl (aw (x:=AV.int z) rfl (mn.now (H₀:=[.dct ow]) (T:=.cell wv:: .cell xv:: .cell (some (.ref 0)):: .lst e0:: .lst [.ref n]::Z) rfl k)))⟩ QQ);unfold cH;rw[show(jE ow wv xv e0 [.ref n] Z)[n]? =_ from h];rfl
 ·obtain⟨rr,st,ns,wv,xv,e0,ids,Z,el,em,rfl,ei,p,ef⟩:=h
  cases rr with
  |nil=>exact(bf _ _ el).elim
  |cons o rr=>
   obtain⟨rfl,rfl⟩:=ca el;have ef:(bif aN st.length 1000 then(jb ow ⟨o.2.toArray⟩ st).bind λst=>pg ow rr st else none)=some [(y,z)]:=ef;cases hb:aN st.length 1000 with
   |false=>rw[hb]at ef;exact aJ ef
   |true=>
    rw[hb]at ef;exact bX (em▸kc (bW ef λst' e1 e2=>Ku e1 (ae hb) ei p λm wv xv e0 ids ns Z em ei p=>hgo _ _ ⟨rr,st',ns,wv,xv,e0,ids,Z,rfl,em,rfl,ei,p,e2⟩) QR)
inductive Vf(as:List AV)(H:Hp)(K:KV):Prop
 |mk(x y:ax)(n:Nat)(ow:List (ax×AV))(z:Int)(ea:as=[.str x,.ref n])(h:H[n]? =some (.dct ow))(s:(ow.all λp=>scal p.2)=true)(hx:x.length<=200)(e:pg ow (iM x) [(aa "",0)]=some [(y,z)])(k:K (.int z) H):Vf as H K
noncomputable def Wm:Sp:=jq Vf
theorem Q?:rz Γ "list" (aa "pop") (.builtin ("list"++"."++"pop")):=rU F.slot_list_pop F.type_list_pop
theorem Wl:f7 w mean mg mb 5 298 Wm:=uU (T:=oE) 8 [aa "text",aa "owner"] [] [] (λv=>.nil) Yi YB (by kernel_rfl) (λs vs X h=>eH h λa r h=>eH h λb r h=>kL h (dz (by kernel_rfl))) (λΓ hd hu=>dt (.cons sr (.cons Rj (.cons Q9 (.cons KT .nil)))) (.cons ma (.cons Q? .nil)) (qP hd hu rfl)) λas H K h=>by
  obtain⟨x,y,n,ow,z,ea,h,s,hx,e,k⟩:=h;exact⟨[n],[.dct ow],[.str x,.ref 0],.cons h (pF s) (λh=>eN h) .nil,ea▸ .sc rfl (.ref rfl .nil),rfl,kc (Kw hx e k) (by kernel_rfl)⟩
end
variable{β:Type}{na np j:Nat}{kva kvp:List (ax×AV)}{fin:List ax}
section
theorem oQ{f:AO->Option β}{b:β}{T:Hp}(h:cH f H n=some b):cH f (H++T) n=some b:=by
 unfold cH at h ⊢;cases e:H[n]? with
 |none=>rw[e]at h;exact aJ h
 |some o=>rw[ba e];rw[e]at h;exact h
theorem M7{f:AO->Option β}{a:Nat}{x:AO}(e:H[a]? =some x):cH f (H.set a (.pin x o)) n=cH f H n:=by
 unfold cH
 by_cases h:n=a
 ·subst h
  rw[bZ (aH.mp e).1,e];rfl
 ·rw[eS h]
theorem IP{f:AO->Option β}{a:Nat}{x:AO}{T:Hp}(e:H[a]? =some x):cH f (H.set a (.pin x o)++T) n=cH f (H++T) n:=by
 rw[<-fo _ _ (aH.mp e).1];exact M7 (ba e)
theorem iR{f:AO->Option β}{o:AO}{b:β}(h:f (un o)=some b):cH f (H++[o]) H.length=some b:=by
 unfold cH;rw[bA];exact h
theorem y6{H T:List α}{a:Nat}{x p:α}(e:H[a]? =some x):(H.set a p++T).set a x=H++T:=by
 have hl:=(aH.mp e).1;rw[fo _ _ (by rw[bO];exact hl),iU,<-(aH.mp e).2,gm]
noncomputable def Oy(x:ax)(na np u:Nat):Nm:=[(aa "x",.str x),(aa "ahead",.ref na),(aa "pieces",.ref np),(aa "units",.ref u)]
noncomputable def KQ(x y:ax)(na np u:Nat):Nm:=[(aa "x",.str x),(aa "ahead",.ref na),(aa "pieces",.ref np),(aa "units",.ref u),(aa "y",.str y)]
noncomputable abbrev nx:List ax:=[aa "x",aa "ahead",aa "pieces",aa "units"]
noncomputable def qD(kva:List (ax×AV))(g:ax->Option (List ax))(x:ax):List ax->List ax->Option (List ax)
 |[],us=>some us
 |y::r,us=>(kva.lookup y).bind λa=>(gX a).bind λa=>bif a==x then(g y).bind λz=>bif aN us.length 1000&&aN z.length 1000 then qD kva g x r (us++z)else none else qD kva g x r us
noncomputable abbrev Ay:ax:=aa "("
noncomputable abbrev EK:ax:=aa ")"
noncomputable def ph(kva:List (ax×AV))(P:ax->Option (List ax)):Nat->ax->Option (List ax)
 |0,_=>none
 |f+1,x=>bif aN x.length 1000 then(bif x.length != 0 then(P x).bind λl=>bif aN l.length 1000 then(qD kva (ph kva P f) x (kva.map (·.1)) ([Ay,x]++l)).bind λus=>bif aN us.length 1000 then some (us++[EK])else none else none else qD kva (ph kva P f) x (kva.map (·.1)) [])else none
def I1(H:Hp)(kvp:List (ax×AV))(P:ax->Option (List ax)):Prop:=∀y l,P y=some l->∃n,kvp.lookup y=some (.ref n)∧cH fG H n=some (dI l)
inductive I4(f:Nat)(as:List AV)(H:Hp)(K:KV):Prop
 |mk(x:ax)(na np:Nat)(kva kvp:List (ax×AV))(P:ax->Option (List ax))(us:List ax)(ea:as=[.str x,.ref na,.ref np])(h1:cH vz H na=some kva)(h2:cH vz H np=some kvp)(h3:I1 H kvp P)(h4:kva.length<=1000)(e:ph kva P f x=some us)(k:K (.ref H.length) (H++[.lst (dI us)])):I4 f as H K
noncomputable def KP(f:Nat):Sp:=jq (I4 f)
noncomputable def neT(f:Nat):f6:=Jv [(.ref 281,KP f)]
noncomputable abbrev RK:List cP:=bd 26
def WY(x:ax)(np:Nat)(H:Hp)(K:KV):Prop:=iw (λK=>x.length<=aF∧Br (x.length != 0) (2<=aF∧aG (cH vz (H++[.lst [.str Ay,.str x]]) np) λkvs=>aG (kvs.lookup x) λa=>vB .Add (.ref H.length) a (H++[.lst [.str Ay,.str x]]) K) (0<=aF∧K (.ref H.length) (H++[.lst []]))) H K
theorem RM{f:Nat}{x:ax}{K:KS}:cg (gB 26) (neT f) 8 (sA RK 0::r) [(aa "x",.str x),(aa "ahead",.ref na),(aa "pieces",.ref np)] H K=WY x np H λa H=>cg (gB 26) (neT f) 8 r [(aa "x",.str x),(aa "ahead",.ref na),(aa "pieces",.ref np),(aa "units",a)] H K:=by kernel_rfl
theorem RL{f:Nat}{x:ax}{u:Nat}{K:KS}:cg (gB 26) (neT f) 8 (RK.drop 1) (Oy x na np u) H K=qQ (gB 26) (neT f) 7 (ou 26 1) (Oy x na np u) H (gn (gB 26) (neT f) 8 (RK.drop 2) K):=by kernel_rfl
theorem RI{f:Nat}{x:ax}{u:Nat}(L:List IT->Option Nat->Hp->Prop):Jt (gB 26) (neT f) 7 (ou 26 1) (Oy x na np u) H L=uz (.ref na) H λl n=>L l n H:=by kernel_rfl
def Hc(f:Nat)(x y:ax)(na np u:Nat)(H:Hp)(go:Nm->Hp->Prop):Prop:=aG (cH vz H na) λkvs=>aG (kvs.lookup y) λa=>mU .Eq a (.str x) H λc=>Br c (I4 f [.str y,.ref na,.ref np] H λb h=>vB .Add (.ref u) b h λc h=>fb (gB 26) (aa "units") c (KQ x y na np u) h go) (go (KQ x y na np u) H)
theorem RG{f:Nat}{x:ax}{u:Nat}{go:Nm->Hp->Prop}{K:KS}:jI (gB 26) (ou 26 1) 7 (neT f) (.val (.str y)) (Oy x na np u) H nx go K=Hc f x y na np u H go:=by kernel_rfl
def RJ(x:ax)(u:Nat)(H:Hp)(K:KV):Prop:=iw (λK=>x.length<=aF∧Br (x.length != 0) (1<=aF∧vB .Add (.ref u) (.ref H.length) (H++[.lst [.str EK]]) K) (K (.ref u) H)) H K
theorem RE{f:Nat}{x:ax}{u:Nat}{K:KV}:cg (gB 26) (neT f) 8 (RK.drop 2) (Oy x na np u) H (dT K)=RJ x u H K:=by kernel_rfl
theorem Ke(a b:List ax):dI a++dI b=dI (a++b):=b6.symm
theorem add_lists{a b:List ax}(h1:cH fG H i=some (dI a))(h2:cH fG H j=some (dI b))(ha:a.length<=1000)(hb:b.length<=1000)(k:K (.ref H.length) (H++[.lst (dI (a++b))])):vB .Add (.ref i) (.ref j) H K:=
 aw h1 (aw h2 (aQ (by rw[iP,iP];exact aq (hM ha hb) (ae rfl)) (bX (k:=λzs=>K (.ref H.length) (H++[.lst zs])) (by rw[Ke];exact k))))
inductive D_(f:Nat)(x:ax)(na np:Nat)(kva:List (ax×AV))(P:ax->Option (List ax))(fin:List ax)(H₁:Hp)(n₀:Nat)(l:List IT)(m:Nm)(H:Hp):Prop
 |mk(r:List ax)(u:Nat)(us:List ax)(T:Hp)(el:l=(dI r).map IT.val)(em:eW nx m=Oy x na np u)(eh:H=H₁++T)(hu:n₀<=u)(ha:H[u]? =some (.lst (dI us)))(ef:qD kva (ph kva P f) x r us=some fin):D_ f x na np kva P fin H₁ n₀ l m H
theorem Kl{x:ax}(h:gX a=some x):a= .str x:=tJ (C:=λa=>a= .str x) h rfl
theorem Eg{f:Nat}{x:ax}{u:Nat}{P:ax->Option (List ax)}{us:List ax}{r:List ax}{go:Nm->Hp->Prop}(h1:cH vz H na=some kva)(h2:cH vz H np=some kvp)(h3:I1 H kvp P)(h4:kva.length<=1000)(hu:H[u]? =some (.lst (dI us)))(e:qD kva (ph kva P f) x (y::r) us=some fin)(k:∀T v us m,eW nx m=Oy x na np v->u<=v->(H++T)[v]? =some (.lst (dI us))->qD kva (ph kva P f) x r us=some fin->go m (H++T)):Hc f x y na np u H go:=by
 conv at e=>lhs;whnf
 refine bW e λa e1 e=>bW e λt e2 e=>aw h1 (aw (e1.trans (congrArg some (Kl e2))) ?_)
 show Br (t==x) _ _;cases h:t==x with
 |false=>
  rw[h]at e;refine .f ?_;have q:=k [] u us (KQ x y na np u) (by kernel_rfl) (bF _) ((be H).symm▸hu) e;rw[be]at q;exact q
 |true=>
  rw[h]at e;refine .t (bW e λz e3 e=>?_);cases hb:aN us.length 1000&&aN z.length 1000 with
  |false=>rw[hb]at e;exact aJ e
  |true=>
   rw[hb]at e;have hb:=(aM ..).mp hb;refine .mk y na np kva kvp P z rfl h1 h2 h3 h4 e3 (add_lists (oQ (mN hu rfl)) (iR rfl) (ae hb.1) (ae hb.2) ?_);rw[aA];show go (KQ x y na np (H++[AO.lst (dI z)]).length) _;refine k _ (H++[AO.lst (dI z)]).length (us++z) _ (by kernel_rfl) ?_ ?_ e
   ·rw[aK];exact gG (b0 (aH.mp hu).1)
   ·rw[<-aA];exact bA
theorem B4{f:AO->Option β}{b:β}(h:cH f H n=some b):∃o,H[n]? =some o∧f (un o)=some b:=by
 unfold cH at h;cases e:H[n]? with
 |none=>rw[e]at h;exact aJ h
 |some o=>rw[e]at h;exact⟨o,rfl,h⟩
theorem wl{x:AO}{T:Hp}{P:Prop}(e:H[n]? =some x)(h:P):iI (some (n,o)) (H.set n (.pin x o)++T) P:=aw (x:=.pin x o) (ba (bZ (aH.mp e).1)) (aQ rfl h)
theorem FZ{x:AO}{T:Hp}(e:H[n]? =some x)(h:L (H++T)):fX (some (n,o)) (H.set n (.pin x o)++T) L:=aw (x:=.pin x o) (ba (bZ (aH.mp e).1)) (aQ rfl (by rw[y6 e];exact h))
theorem C1{f:Nat}{x:ax}{u:Nat}{P:ax->Option (List ax)}{us:List ax}{T:Hp}(h1:cH vz H na=some kva)(h2:cH vz H np=some kvp)(h3:I1 H kvp P)(h4:kva.length<=1000)(hu:H.length<=u)(ha:(H++T)[u]? =some (.lst (dI us)))(e:qD kva (ph kva P f) x (kva.map (·.1)) us=some fin)(k:∀T u,H.length<=u->(H++T)[u]? =some (.lst (dI fin))->RJ x u (H++T) (lI H K)):cg (gB 26) (neT f) 8 (RK.drop 1) (Oy x na np u) (H++T) (dT (lI H K)):=by
 obtain⟨o,e1,e2⟩:=B4 h1;have e3:=ba (τ:=T) e1;refine kc (nh nx (by kernel_rfl) RI (aw (x:=o) e3 ?_)) RL;have nn:∀{u:Nat},H.length<=u->u≠na:=λh i=>im.mpr (aH.mp e1).1 (i▸h)
 rw[B1 e2];refine bX λq=>aw e3 (iL (D_ f x na np kva P fin ((H++T).set na (.pin o q)) H.length) (λm H' h=>?_) (λit r m H' go hgo h=>?_) _ _ _ ⟨kva.map (·.1),u,us,[],?_,by kernel_rfl,(be _).symm,hu,?_,e⟩)
 ·obtain⟨r,u,us,T',el,em,rfl,hu,ha,ef⟩:=h
  cases r with
  |cons=>exact(bf _ _ el.symm).elim
  |nil=>
   obtain rfl:=aj (show some us=some fin from ef);refine wl e3 (bX (em▸FZ e3 (kc (P:=RJ x u (H++T++T') (lI H K)) ?_ (RE (f:=f)))));rw[aA];exact k _ u hu (by rw[<-aA,<-y6 (p:=.pin o q) e3];exact(eS (nn hu)).trans ha)
 ·obtain⟨rr,u,us,T',el,em,rfl,hu,ha,ef⟩:=h
  cases rr with
  |nil=>exact(bf _ _ el).elim
  |cons y rr=>
   obtain⟨rfl,rfl⟩:=ca el;have up:∀{β:Type}{g:AO->Option β}{n:Nat}{b:β},cH g H n=some b->cH g ((H++T).set na (.pin o q)++T') n=some b:=λh=>by rw[IP e3];exact oQ (oQ h)
   refine wl e3 (bX (em▸kc (Eg (up h1) (up h2) (λy l e=>(h3 y l e).imp λn h=>⟨h.1,up h.2⟩) h4 ha ef λT2 v us m em hv ha ef=>hgo _ _ ⟨rr,v,us,T'++T2,rfl,em,aA ..,aq hu hv,(aA ..)▸ha,ef⟩) (RG (K:=λf' m H'=>fX (some (na,q)) H' λH'=>gn (gB 26) (neT f) 8 (RK.drop 2) (dT (lI H K)) f' m H'))))
 ·show _=((kva.map (·.1)).map AV.str).map IT.val
  rw[da,da];rfl
 ·exact(eS (nn hu)).trans ha
theorem Hb:∀f,f7 w mean mg mb (2*f) 281 (KP f)
 |0=>λΓ ρ P m H s Q E as vs ks kv K hd hu q R r rk b=>jq.el (C:=λkv=>aL (cJ w) Γ.A (bH (.ref 281) vs kv) Q E s) q rk λq=>by
  obtain⟨_,_,_,_,_,_,_,_,_,_,_,_,e,_⟩:=q;exact aJ e
 |f+1=>sa (T:=neT f) 8 [aa "x",aa "ahead",aa "pieces"] [] [] (λz=>.nil) Yl YE (by kernel_rfl) (by kernel_rfl) (λs vs X h=>eH h λa r h=>eH h λb r h=>eH h λc r h=>kL h (dz (by kernel_rfl))) (λΓ hd hu=>n8 (.cons ((Hb f).sp HJ hd hu (bk (gH _))) .nil)) λas H K h=>by
  obtain⟨x,na,np,kva,kvp,P,us,ea,h1,h2,h3,h4,e,k⟩:=h;subst ea;refine⟨rfl,?_⟩;conv at e=>lhs;whnf
  have e0:bd 26=sA (bd 26) 0::(bd 26).drop 1:=by kernel_rfl
  show cg (gB 26) (neT f) 8 (bd 26) _ H _;rw[e0];refine kc (P:=WY x np H λa H'=>cg (gB 26) (neT f) 8 ((bd 26).drop 1) [(aa "x",.str x),(aa "ahead",.ref na),(aa "pieces",.ref np),(aa "units",a)] H' (dT (lI H K))) ?_ ((by kernel_rfl:_=cg (gB 26) (neT f) 8 (sA RK 0::(bd 26).drop 1) [(aa "x",.str x),(aa "ahead",.ref na),(aa "pieces",.ref np)] H (dT (lI H K))).trans RM);cases hx:aN x.length 1000 with
  |false=>rw[hx]at e;exact aJ e
  |true=>
   rw[hx]at e;have xl:x.length<=aF:=aq (ae hx) (ae rfl);have fin:∀{T:Hp}{u:Nat}{us:List ax},H.length<=u->(H++T)[u]? =some (.lst (dI us))->K (.ref H.length) (H++[.lst (dI us)])->lI H K (.ref u) (H++T):=λhu ha k=>.new H _ _ _ rfl (.refl H) rfl ha hu (kZ _) k
   refine .go ⟨xl,?_⟩;cases hc:x.length != 0 with
   |false=>
    rw[hc]at e;refine .f ⟨bC _,C1 (us:=[]) h1 h2 h3 h4 (bF _) bA e λT u hu ha=>.go ⟨xl,?_⟩⟩;rw[hc];exact .f (fin hu ha k)
   |true=>
    rw[hc]at e;refine bW e λl e1 e=>?_
    cases hl:aN l.length 1000 with
    |false=>rw[hl]at e;exact aJ e
    |true=>
     rw[hl]at e;refine bW e λus e2 e=>?_
     cases hz:aN us.length 1000 with
     |false=>rw[hz]at e;exact aJ e
     |true=>
      rw[hz]at e;obtain⟨n,e3,e4⟩:=h3 x l e1;refine .t ⟨ae rfl,aw (oQ h2) (aw e3 (add_lists (a:=[Ay,x]) (iR rfl) (oQ e4) (ae rfl) (ae hl) ?_))⟩;rw[aA];refine C1 h1 h2 h3 h4 ?_ ?_ e2 λT u hu ha=>.go ⟨xl,?_⟩
      ·rw[aK];exact a9 _ _
      ·rw[<-aA];exact bA
      rw[hc];refine .t ⟨ae rfl,add_lists (b:=[EK]) (oQ (mN ha rfl)) (iR rfl) (ae hz) (by decide) ?_⟩;rw[aA,aA];refine fin ?_ ?_ (aj e▸k)
      ·rw[aK];exact a9 _ _
      ·rw[<-aA,<-aA];exact bA
end
variable{oc:dU}{v0 v1 v3 v4:ar}{g:lP}{codes:Array ar}
section
set_option backward.match.sparseCases true
theorem uE:PlainAttrs "re.Pattern":=
 ⟨⟨"object.__getattribute__",by rw[iO,fh];kernel_rfl,by decide+kernel⟩,by rw[iO,fh];kernel_rfl⟩
theorem yP:typeOf (.builtin "re.Pattern.search")=pure (.type "method_descriptor"):=by show builtinType _=_;rw[builtinType_eq_fast];kernel_rfl
theorem qR:entryFor table "re.Pattern.search"=some b8.«re.Pattern.search»:=entryFor_of_tree (by kernel_rfl)
theorem nZ:Slot "re.Pattern" "search" "re.Pattern.search":=
 .of (owner:="re.Pattern") (n:="search") (by rw[iO,fh];kernel_rfl) (by decide+kernel) (by decide+kernel) (by decide+kernel)
  (by first|exact .inl (by decide+kernel)|exact .inr (by decide+kernel)) (by rw[isSubtype_type];kernel_rfl)
theorem Ec:Manifest.owners.lookup (String.ofList ['n','r','e','t','t','a','P','.','e','r'].reverse)=some Manifest.sig_re_Pattern:=by kernel_rfl
theorem pz(a b:ar):argsOk "re.Pattern.search" ⟨[a,b],[]⟩:=by
 unfold argsOk;rw[signature?_of (id:="re.Pattern.search") (n:=['h','c','r','a','e','s']) (o:=['n','r','e','t','t','a','P','.','e','r']) (by kernel_rfl) Ec];kernel_rfl
noncomputable def gR:Array Nat:=#[14,10,4,1,1,22,0,31,16,127,0,13,7,22,0,31,16,127,0,1]
noncomputable def fT:Array Nat:=#[14,14,4,1,1,9,4294966783,0,0,2147483648,0,0,0,0,0,13,11,9,4294966783,0,0,2147483648,0,0,0,0,0,1]
inductive IY(r:Except String (Bool×l8)):Prop
 |mk(seen')(p1:r= .ok (false,seen')):IY r
def lZ(code:Array Nat)(c:Nat):Prop:=∀vD,IY (kr code c code.size 5 true vD)
theorem RQ(c:Nat)(s:l8):kr gR c 20 5 true s=if (decide (0<=c)&&decide (c<=31))=true then .ok (true,s.add 22)else kr gR c 19 8 true (s.add 22):=by kernel_rfl
theorem RP(c:Nat)(s:l8):kr gR c 19 8 true s=if (c==127)=true then .ok (true,s.add 16)else kr gR c 18 10 true (s.add 16):=by kernel_rfl
theorem RO(c:Nat)(s:l8):kr gR c 18 10 true s= .ok (false,s.add 0):=by kernel_rfl
theorem J9(c:Nat)(s:l8):kr fT c 28 5 true s=if (decide (c<256)&&(fT.getD (5+(1+c / 32)) 0).testBit (c % 32))=true then .ok (true,s.add 9)else kr fT c 27 14 true (s.add 9):=by kernel_rfl
theorem J8(c:Nat)(s:l8):kr fT c 27 14 true s= .ok (false,s.add 0):=by kernel_rfl
theorem G9{b:Bool}(h:b=false)(x y:α):(if b=true then x else y)=y:=if_neg λe=>bj (h.symm.trans e)
theorem Ei{c:Nat}(h1:32<=c)(h2:c<127):lZ gR c:=λvD=>
 ⟨_,(RQ c vD).trans ((G9 (by rw[decide_eq_false (im.mpr h1),NW]) _ _).trans ((RP c _).trans ((G9 (beq_false_of_ne (bc h2)) _ _).trans (RO c _))))⟩
theorem Ba:∀c,c<127->32<=c->(decide (c<256)&&(fT.getD (5+(1+c / 32)) 0).testBit (c % 32))=false:=by decide+kernel
theorem A9{c:Nat}(h1:32<=c)(h2:c<127):lZ fT c:=λvD=>
 ⟨_,(J9 c vD).trans ((G9 (Ba c h2 h1) _ _).trans (J8 c _))⟩
theorem pA{m:lJ}(h:∀p,p<m.lim->lZ m.code (m.text.getD p 0)):∀(fuel p:Nat)(vD:l8),∃seen',oU m fuel p vD= .ok (none,seen')
 |0,p,vD=>⟨vD,by unfold oU;rfl⟩
 |fuel+1,p,vD=>by
  unfold oU
  by_cases hp:p≥m.lim
  ·rw[if_pos hp];exact⟨vD,rfl⟩
  ·rw[if_neg hp]
   obtain⟨seen',e⟩:=h p (im.mp hp) vD;rw[e];exact pA h fuel (p+1) seen'
theorem q9{m:lJ}{fuel p:Nat}{vD:l8}{r:Except String (Option Nat×l8)}(e:oU m fuel p vD=r)(h:∀p,p<m.lim->lZ m.code (m.text.getD p 0)):∃s',r= .ok (none,s'):=by
 obtain⟨s',e'⟩:=pA h fuel p vD;exact⟨s',e.symm.trans e'⟩
structure DK(m:lJ):Prop where
 out:m.outcome=none
 ans:m.answer=some false
 fr:m.frames=[]
set_option tactic.hygienic true in
theorem xm{code text:Array Nat}{lim:Nat}(hset:∀m:lJ,m.code=code->m.hasFirstSet=true)(h:∀p,p<lim->lZ code (text.getD p 0)):DK (rA code text 0 0 lim false):=by
 unfold rA;dsimp only
 split
 ·exact⟨rfl,rfl,rfl⟩
 ·unfold Sre.M.attemptFrom
  rw[hset _ rfl];simp only [Bool.not_true,eB,if_false]
  split
  ·rename_i e
   obtain⟨s',e'⟩:=q9 e λp hp=>h p hp
   cases e'
  ·exact⟨rfl,rfl,rfl⟩
  ·rename_i e
   obtain⟨s',e'⟩:=q9 e λp hp=>h p hp
   cases e'
theorem He:∀m:lJ,m.code=gR->m.hasFirstSet=true:=λm e=>by unfold E5;rw[e];rfl
theorem DW:∀m:lJ,m.code=fT->m.hasFirstSet=true:=λm e=>by unfold E5;rw[e];rfl
theorem wg{m:lJ}(h:DK m):(m.runFor 4).outcome=some .failed:=by
 obtain⟨h1,h2,h3⟩:=h;have e:m.step={m with outcome:=some .failed}:=by
  unfold Sre.M.step;rw[h1,h2,h3];rfl
 show(Pq 4 m).outcome=_;unfold Pq;rw[h1,e];rfl
section
variable{M:E6}{A:dR}{E:ar->aC->Prop}{s:aC}
theorem zR{m:lJ}{Q:lJ->aC->Prop}(h:DK m)(hQ:∀m':lJ,m'.outcome=some .failed->Q m' s):aL M A (kA (n+1) m) Q E s:=by
 unfold kA;dsimp only;rw[show vq=4 from rfl,wg h];exact aV (hQ _ (wg h))
theorem EG{m:lJ}{Q:Option lJ->aC->Prop}(h:DK m)(hQ:Q none s):aL M A (jt m) Q E s:=by
 unfold jt;refine az (zR (n:=2^64 - 1) h λm' e=>?_);refine az (eQ (wpAny_forIn_list _ (λz z s'=>s'=s) (λz s'=>s'=s) (λx rest b s' hs=>?_) (λz z hs=>hs) _ _ rfl) (λz s' hs=>?_) λz z e=>e)
 ·subst hs
  split
  ·exact az (pC (aV rfl))
  ·exact aV rfl
 ·subst hs
  rw[e];exact aV hQ
theorem Eh{v:ar}:Builtin.Re.reNamed "re.Pattern.search" "search" ["string","pos","endpos"] 1 [v] []=pure [some v,none,none]:=rfl
theorem ux{a c:aI}{x:ax}{t:lP}{k:lP}{code:Array Nat}{Q:Builtin.Re.ReTarget->aC->Prop}
  (ho:s.heap.get? a=some o)(hd:o.data= .fields #[v0,v1,.int 0 g,v3,v4,.ref c,.int 0 k])(hc:s.heap.get? c=some oc)(hcd:oc.data= .seq codes n)(he:(codes.map kz).map (·.toNat)=code)
  (hQ:Q {pattern:=.ref a,string:=.str x t,code,text:=x.cps,kind:=0,groups:=0,pos:=0,lim:=min (2^63 - 1) x.cps.size} s):
  aL M A (wZ "re.Pattern.search" "search" ⟨[.ref a,.str x t],[]⟩) Q E s:=by
 unfold wZ;dsimp only;rw[Eh];refine az (aV ?_);refine az (aV ?_);refine az (aV ?_);refine az (wpAny_fieldsOf ho hd ?_);refine az (az (aV (aV ?_)));have c1:(w4 (#[v0,v1,sW 0 g,v3,v4,fD c,sW 0 k].getD 6 eG)==0&&((x.cps,0):Array Nat×Nat).snd==1)=false:=rfl;have c2:(w4 (#[v0,v1,sW 0 g,v3,v4,fD c,sW 0 k].getD 6 eG)==1&&((x.cps,0):Array Nat×Nat).snd==0)=false:=rfl;rw[c1,c2];simp only [eB,if_false];refine az (aV ?_);show aL M A (vM (.ref c)>>=_) _ _ _;unfold vM;refine az (az (AE hc hcd (aV (aV ?_))));rw[show(((some codes).getD #[]).map kz).map (λx=>x.toNat)=code from he];have e:min (2^63 - 1:Int).toNat x.cps.size=min (2^63 - 1) x.cps.size:=by congr 1
 rw[show(min (Int.toNat 0) (x.cps,0).fst.size)=0 from Nat.zero_min _];exact hQ
end
section
variable{prog:eC}{A:dR}{E:ar->aC->Prop}{s:aC}
theorem mK{a c:aI}{x:ax}{t:lP}{k:lP}{code:Array Nat}{sl:Array (Option ar)}{Q:ar->aC->Prop}
  (ho:s.heap.get? a=some ⟨.type "re.Pattern",none,.fields #[v0,v1,.int 0 g,v3,v4,.ref c,.int 0 k],sl⟩)(hc:s.heap.get? c=some oc)(hcd:oc.data= .seq codes n)(he:(codes.map kz).map (·.toNat)=code)
  (hset:∀m:lJ,m.code=code->m.hasFirstSet=true)(hx:∀p,p<x.cps.size->lZ code (x.cps.getD p 0))(hQ:Q .none s):aL (dc prog w) A (call (.builtin "re.Pattern.search") [.ref a,.str x t]) Q E s:=by
 have hT:s.TypeIs (.ref a) "re.Pattern":=⟨_,ho,rfl⟩;refine fw nZ hT qR ?_ (pz _ _);unfold b8.«re.Pattern.search»;refine az (ux ho rfl hc hcd he ?_);dsimp only;unfold w5;refine az (EG (xm hset λp hp=>hx p (bx hp (Nat.min_le_right _ _))) ?_);exact aV ⟨_,rfl,hQ⟩
theorem sQ{a:aI}{pl:o6 Bool}{Q:ar×List ar->aC->Prop}(ho:s.heap.get? a=some o)(hcl:o.cls= .type "re.Pattern")(hd:o.dict=none)(h:Q (.builtin "re.Pattern.search",[.ref a]) s):
  aL (dc prog w) A (E2 (.ref a) "search" pl) Q E s:=
 nJ (T:="re.Pattern") ⟨o,ho,hcl⟩ uE nZ yP (λb e=>⟨o,by cases e;exact ho,hd⟩) h
end
end
section
def fu(x:ax):Prop:=∀p,p<x.cps.size->32<=x.cps.getD p 0∧x.cps.getD p 0<127
theorem fu.name{x:ax}(h:fu x):∀p,p<x.cps.size->lZ gR (x.cps.getD p 0):=λp hp=>Ei (h p hp).1 (h p hp).2
theorem fu.value{x:ax}(h:fu x):∀p,p<x.cps.size->lZ fT (x.cps.getD p 0):=λp hp=>A9 (h p hp).1 (h p hp).2
noncomputable def Go:Sp:=jq λas H K=>u8 as λa b=>DG a λv=>kE b λx=>(Eb v=some "re.Pattern"∧fu x)∧K .none H
theorem bM.dyX{P:mh}{s:aC}(R:bM Γ ρ P m H s):(hp w.params).In s.heap:=by
 obtain⟨_,_,F,_⟩:=R.dy;exact Γ.X.keeps F.keep
noncomputable def l_(c:Array Nat):dU:={cls:=.type "tuple",data:=.seq (c.map λn:Nat=>sW (n:Int) 0)}
noncomputable def ż(x:String)(t n u c:Nat):dU:=⟨.type "re.Pattern",none,.fields #[.str (q x) t,.int n u,.int 0 0,.none,.none,.ref c,.int 0 0],#[]⟩
theorem ON:(hp w.params).lookup 134=some (l_ gR):=by kernel_rfl
theorem HZ:(hp w.params).lookup 135=some (ż "[\\x00-\\x1F\\x7F]" 467 32 490 134):=by kernel_rfl
theorem OM:(hp w.params).lookup 139=some (l_ fT):=by kernel_rfl
theorem HY:(hp w.params).lookup 140=some (ż "[\\x00-\\x08\\x0A-\\x1F\\x7F]" 493 32 524 139):=by kernel_rfl
theorem Ko:iA Γ (.builtin "re.Pattern.search",Go):=.of rfl λρ P m H s Q E as vs K h R r b=>u8.el h r λa va c vc h ra rc=>DG.el (C:=λva=>aL (cJ w) Γ.A (bH (.builtin "re.Pattern.search") [va,vc] []) Q E s) h ra λv h=>kE.el (C:=λvc=>aL (cJ w) Γ.A (bH (.builtin "re.Pattern.search") [v,vc] []) Q E s) h rc λx t h=>by
 rcases (qy h.1.1).2 with rfl|rfl
 ·exact mK (R.dyX 135 _ HZ) (R.dyX 134 _ ON) rfl (by kernel_rfl) He h.1.2.name (b.new R .none h.2 _)
 ·exact mK (R.dyX 140 _ HY) (R.dyX 139 _ OM) rfl (by kernel_rfl) DW h.1.2.value (b.new R .none h.2 _)
theorem Cx{ty:String}(h:cH V5 H n=some ty):ty="list":=(B4 h).elim λo h=>by
 generalize un o=x at h;cases x with
 |lst=>exact(aj h.2).symm
 |_=>exact aJ h.2
theorem Hl:rz Γ "re.Pattern" (aa "search") (.builtin "re.Pattern.search"):=λρ P m H s Q E a v pl e R r q=>by
 induction r with
 |val v=>
  rcases (qy e).2 with rfl|rfl
  ·exact sQ (R.dyX 135 _ HZ) rfl rfl q
  ·exact sQ (R.dyX 140 _ HY) rfl rfl q
 |str=>exact absurd (aj e) (by decide)
 |ref i c hc=>exact xe e (λz z z z e=>absurd e (by decide)) λe=>absurd (Cx e) (by decide)
 |_=>exact aJ e
noncomputable def zp(f:ax->ax):Sp:=jq λas H K=>lY as λa=>kE a λx=>x.length<=5592405∧K (.str (f x)) H
theorem Hu:iA Γ (.builtin "str.lower",zp aX):=.of rfl λρ P m H s Q E as vs K h R r b=>lY.el h r λa va h ra=>kE.el h ra λx t h=>SCL.lower h.1 λz=>b.new R (.str _ _) h.2 _
theorem V1:iA Γ (.builtin "str.upper",zp cX):=.of rfl λρ P m H s Q E as vs K h R r b=>lY.el h r λa va h ra=>kE.el h ra λx t h=>SCL.upper h.1 λz=>b.new R (.str _ _) h.2 _
theorem ml:rz Γ "str" (aa "lower") (.builtin ("str"++"."++"lower")):=qE F.slot_str_lower F.type_str_lower
theorem mu:rz Γ "str" (aa "upper") (.builtin ("str"++"."++"upper")):=qE F.slot_str_upper F.type_str_upper
def ú(a:AV)(H:Hp)(K:KV):Prop:=match a with
 |.str _=>K (.val (.type "str")) H
 |.ref n=>aG (cH fG H n) λz=>K (.val (.type "list")) H
 |_=>False
noncomputable def Cv:Sp:=jq λas H K=>lY as λa=>ú a H K
theorem Bd:iA Γ (.type "type",Cv):=.of rfl λρ P m H s Q E as vs K h R r b=>lY.el h r λa va h ra=>by
 induction ra with
 |str x t=>exact call_type_of (typeIs_str _ _ _) (by decide) (b.new R (.val _) h _)
 |ref n c hc=>exact aG.el h λxs h e=>R.seen hc e λo ob e r g=>ww e r λvs k z eq=>call_type_of (Tx:="list") ⟨ob,g,eq▸rfl⟩ (by decide) (b.new R (.val _) h _)
 |_=>exact h.elim
theorem jv{name:ax}{f:Nat}(hg:(plainGet (hp w.params) 263 name,findIn (hp w.params) (.ref 263) name,isFn (hp w.params) (.ref f))=(true,some (some (.ref f)),true))(hl:∀t c,getL name [{hash:=vg w.params (aa "_headers"),key:=.str (aa "_headers") t,val:=.ref c}]=some none):rz Γ "Headers" name (.ref f):=λρ P m H s Q E a v pl e R r q=>by
 induction r with
 |ref i c hc=>exact xe e (λd l h k z=>R.inst hc h k λa t c I z=>R.run λmm l F N fin=>method_inst F Γ.X I (congrArg (·.1) hg) (congrArg (·.2.1) hg) (congrArg (·.2.2) hg) (hl t c) q) λe=>absurd (Cx e) (by decide)
 |str=>exact absurd (aj e) (by decide)
 |val v=>exact absurd (qy e).1 (by decide)
 |_=>exact aJ e
end
variable{kv:List (ax×ar)}{ks nv:Nm}
section
theorem OQ:(hp w.params).lookup 162=some (fO (q "_convert_string_type") (q "Headers._convert_string_type") (fA (cS 1)) (fB (cS 1)) (fS (cS 1)) (.none) (.none) (q "cpy313.wsgiref.headers") 464 161):=by kernel_rfl
theorem OV:dP (hp w.params) (.ref 161) (q "Headers._convert_string_type")=true:=by kernel_rfl
theorem zw:gg w (.ref 162)=true:=(by kernel_rfl:gi (hp w.params) (.ref 162)=true)
theorem OP:(hp w.params).lookup 210=some (fO (q "get") (q "Headers.get") (fA (cS 8)) (fB (cS 8)) (fS (cS 8)) (.ref 203) (.none) (q "cpy313.wsgiref.headers") 464 209):=by kernel_rfl
theorem OU:dP (hp w.params) (.ref 209) (q "Headers.get")=true:=by kernel_rfl
theorem zv:gg w (.ref 210)=true:=(by kernel_rfl:gi (hp w.params) (.ref 210)=true)
theorem Yo:(hp w.params).lookup 215=some (fO (q "keys") (q "Headers.keys") (fA (cS 9)) (fB (cS 9)) (fS (cS 9)) (.none) (.none) (q "cpy313.wsgiref.headers") 464 214):=by kernel_rfl
theorem YH:dP (hp w.params) (.ref 214) (q "Headers.keys")=true:=by kernel_rfl
theorem XO:gg w (.ref 215)=true:=(by kernel_rfl:gi (hp w.params) (.ref 215)=true)
theorem Yn:(hp w.params).lookup 220=some (fO (q "values") (q "Headers.values") (fA (cS 10)) (fB (cS 10)) (fS (cS 10)) (.none) (.none) (q "cpy313.wsgiref.headers") 464 219):=by kernel_rfl
theorem YG:dP (hp w.params) (.ref 219) (q "Headers.values")=true:=by kernel_rfl
theorem XN:gg w (.ref 220)=true:=(by kernel_rfl:gi (hp w.params) (.ref 220)=true)
theorem OO:(hp w.params).lookup 253=some (fO (q "setdefault") (q "Headers.setdefault") (fA (cS 15)) (fB (cS 15)) (fS (cS 15)) (.none) (.none) (q "cpy313.wsgiref.headers") 464 252):=by kernel_rfl
theorem OT:dP (hp w.params) (.ref 252) (q "Headers.setdefault")=true:=by kernel_rfl
theorem HK:gg w (.ref 253)=true:=(by kernel_rfl:gi (hp w.params) (.ref 253)=true)
noncomputable abbrev gK(i:Nat):En:=⟨(fS (cS i)).names,[],none⟩
noncomputable abbrev cd(i:Nat):List cP:=fB (cS i)
@[elab_as_elim] theorem cW.c1{x:ax}{C:List (ax×ar)->Prop}(r:cW ρ [(x,a)] kv)(k:∀v,db ρ a v->C [(x,v)]):C kv:=by
 have:∀{l},cW ρ l kv->l=[(x,a)]->C kv:=λr=>by
  induction r with
  |nil=>exact λe=>(bf _ _ e.symm).elim
  |cons h r _=>
   intro e;obtain⟨e1,e2⟩:=ca e;obtain⟨rfl,rfl⟩:=j6 e1;subst e2;have z:∀{l vs},cW ρ l vs->l=[]->vs=[]:=λr=>by
    induction r with
    |nil=>exact λy=>rfl
    |cons=>exact λe=>(bf _ _ e).elim
   exact z r rfl▸k _ h
 exact this r rfl
noncomputable def UT(as:List AV)(ks:Nm):Option Nm:=(two as).bind λp=>(one ks).bind λk=>bif k.1==aa "name" then some [(aa "self",p.1),(aa "value",p.2),(aa "name",k.2)]else none
inductive EY(as:List AV)(ks:Nm)(H:Hp)(K:KV):Prop
 |mk(a:AV)(x:ax)(b:Bool)(ea:as=[a,.str x])(ek:ks=[(aa "name",.bool b)])(hc:fu x)(k:K (.str x) H):EY as ks H K
noncomputable def JC:f6:=oa [(.type "type",Cv),(.builtin "re.Pattern.search",Go)] [mM "re.Pattern" "search"] λz=>none
noncomputable def UB(a:AV)(x:ax)(b:Bool)(r:AV):Nm:=[(aa "self",a),(aa "value",.str x),(aa "name",.bool b),(aa "regex",r)]
theorem Zn{x:ax}{b:Bool}:cg (gK 1) JC 8 (cd 1) (hW (fS (cS 1)).names [(aa "self",a),(aa "value",.str x),(aa "name",.bool b)]) H (dT K)=Br true (iw (λK=>Br b (K (.val (.ref 135)) H) (K (.val (.ref 140)) H)) H λr h=>cg (gK 1) JC 7 ((lM (sA (cd 1) 0)).drop 1) (UB a x b r) h (gn (gK 1) JC 8 ((cd 1).drop 1) (dT K))) (cg (gK 1) JC 7 [] (hW (fS (cS 1)).names [(aa "self",a),(aa "value",.str x),(aa "name",.bool b)]) H (gn (gK 1) JC 8 ((cd 1).drop 1) (dT K))):=by kernel_rfl
theorem UD{x:ax}{b:Bool}:cg (gK 1) JC 7 ((lM (sA (cd 1) 0)).drop 1) (UB a x b (.val (.ref 135))) H (gn (gK 1) JC 8 ((cd 1).drop 1) (dT K))=((Eb (.ref 135)=some "re.Pattern"∧fu x)∧Br false False (K (.str x) H)):=by kernel_rfl
theorem UC{x:ax}{b:Bool}:cg (gK 1) JC 7 ((lM (sA (cd 1) 0)).drop 1) (UB a x b (.val (.ref 140))) H (gn (gK 1) JC 8 ((cd 1).drop 1) (dT K))=((Eb (.ref 140)=some "re.Pattern"∧fu x)∧Br false False (K (.str x) H)):=by kernel_rfl
theorem i'{s:aC}{ρ:List aI}(r:bB ρ as vs)(rk:cW ρ ks kv)(e:UT as ks=some nv):nv.map (·.1)=[aa "self",aa "value",aa "name"]∧∃bs,iX s (ul (q "_convert_string_type") (q "Headers._convert_string_type") (fA (cS 1)) (fB (cS 1)) (fS (cS 1)) .none .none .none (.str (q "cpy313.wsgiref.headers") 464) none (.ref 161) .none) ⟨vs,kv⟩ bs∧cW ρ nv bs:=bW e λp e1 e=>bW e λk e2 e3=>by
  obtain rfl:=pG e1;obtain rfl:=lb e2;cases h:k.1==aa "name" with
  |false=>rw[h]at e3;exact aJ e3
  |true=>
   rw[h]at e3;obtain rfl:=aj e3;obtain⟨k1,k2⟩:=k;obtain rfl:=bo h;refine⟨rfl,bB.c2 r λv u r1 r2=>?_⟩;exact cW.c1 rk λz r3=>⟨_,dz (by kernel_rfl),.cons r1 (.cons r2 (.cons r3 .nil))⟩
theorem Iy:f7 w mean mg mb 2 162 EY:=(Ib (T:=JC) 8 [aa "self",aa "value",aa "name"] UT OQ OV (by kernel_rfl) (by kernel_rfl) (λz r rk e=>i' r rk e) λΓ hd hu=>dt (.cons Bd (.cons Ko .nil)) (.cons Hl .nil) λz z e=>aJ e).mono λas ks H K h=>by
  obtain⟨a,x,b,rfl,rfl,hc,k⟩:=h;exact aw (x:=[(aa "self",a),(aa "value",.str x),(aa "name",.bool b)]) (by kernel_rfl) (kc (.t (.go ⟨λz=>kc ⟨⟨rfl,hc⟩,.f k⟩ UD,λz=>kc ⟨⟨rfl,hc⟩,.f k⟩ UC⟩)) Zn)
end
variable{l:Nat}{ts:List Nat}
section
abbrev Rw:=List (ax×ax)
inductive bn(H:Hp):List Nat->Rw->Prop
 |nil:bn H [] []
 |cons{t:Nat}{r:ax×ax}{ts:List Nat}{rs:Rw}(h:H[t]? =some (.tup [.str r.1,.str r.2]))(s:r.1.length<=1000)(z:bn H ts rs):bn H (t::ts) (r::rs)
structure TabAt(H:Hp)(n d l:Nat)(ts:List Nat)(rows:Rw):Prop where
 i:H[n]? =some (.inst d)
 a:H[d]? =some (.attr l)
 l:H[l]? =some (.lst (ts.map .ref))
 r:bn H ts rows
noncomputable def gZ:Rw->ax->AV
 |[],_=>.none
 |r::rs,x=>bif aX r.1==x then .str r.2 else gZ rs x
theorem ia{f:AO->Option β}{o:AO}{b:β}(e:H[n]? =some o)(h:f (un o)=some b):cH f H n=some b:=by
 unfold cH;rw[e];exact h
theorem TabAt.ty{rows:Rw}(t:TabAt H n d l ts rows):qr (.ref n) H=some "Headers":=by
 unfold qr;dsimp only;rw[ia (f:=BN) t.i rfl];dsimp only;rw[ia (f:=EP) t.a rfl]
inductive NE(as:List AV)(H:Hp)(K:KV):Prop
 |mk(n d l:Nat)(ts:List Nat)(rows:Rw)(x:ax)(ea:as=[.ref n,.str x])(t:TabAt H n d l ts rows)(hl:ts.length<=1000)(hc:fu (aX x))(hx:x.length<=1000)(k:K (gZ rows (aX x)) H):NE as H K
noncomputable def Mv:Sp:=jq NE
noncomputable abbrev mH(n:String)(a:Nat):String×ax×ar:=("Headers",aa n,.ref a)
noncomputable def BQ:f6:=oa [(.ref 162,EY),(.builtin "str.lower",zp aX)] [mM "str" "lower",mH "_convert_string_type" 162] λz=>none
noncomputable def zK(n:Nat)(x:ax):Nm:=[(aa "self",.ref n),(aa "name",.str x),(aa "default",.none)]
noncomputable def YU(n:Nat)(x k v:ax):Nm:=[(aa "self",.ref n),(aa "name",.str x),(aa "default",.none),(aa "k",.str k),(aa "v",.str v)]
noncomputable abbrev gx:List ax:=[aa "self",aa "name",aa "default"]
theorem TR{x:ax}{K:KS}:cg (gK 8) BQ 8 (sA (cd 8) 0::r) (zK n x) H K=aG (qr (.ref n) H) λty=>aG (iJ BQ.meths ty (aa "_convert_string_type")) λg=>x.length<=5592405∧BQ.callK (.val g) [.ref n,.str (aX x)] (aa "name") (.bool true) H λa H=>fb (gK 8) (aa "name") a (zK n x) H λm H=>cg (gK 8) BQ 8 r m H K:=by kernel_rfl
theorem TQ{x:ax}{K:KS}:(fb (gK 8) (aa "name") (.str y) (zK n x) H λm H=>cg (gK 8) BQ 8 (sA (cd 8) 1::r) m H K)=qQ (gK 8) BQ 7 (sA (cd 8) 1) (zK n y) H (gn (gK 8) BQ 8 r K):=by kernel_rfl
theorem TP{x:ax}(L:List IT->Option Nat->Hp->Prop):Jt (gK 8) BQ 7 (sA (cd 8) 1) (zK n x) H L=((aa "_headers"=aa "_headers"∧true=true)∧aG (cH BN H n) λd=>aG (cH EP H d) λl=>uz (.ref l) H λits p=>L its p H):=by kernel_rfl
theorem TN{t:Nat}{x:ax}{go:Nm->Hp->Prop}{K:KS}:jI (gK 8) (sA (cd 8) 1) 7 BQ (.val (.ref t)) (zK n x) H gx go K=aG (cH uv H t) λas=>lA (gK 8) [aa "k",aa "v"] as (zK n x) H λm H=>cg (gK 8) BQ 7 (lM (sA (cd 8) 1)) m H (EE gx go K):=by kernel_rfl
theorem TM{x k v:ax}{go:Nm->Hp->Prop}{K:KS}:(lA (gK 8) [aa "k",aa "v"] [.str k,.str v] (zK n x) H λm H=>cg (gK 8) BQ 7 (lM (sA (cd 8) 1)) m H (EE gx go K))=(k.length<=5592405∧Br (aX k==x) (K (.ret (.str v)) (YU n x k v) H) (go (YU n x k v) H)):=by kernel_rfl
theorem TL{x:ax}{K:KV}:cg (gK 8) BQ 8 ((cd 8).drop 2) (zK n x) H (dT K)=K .none H:=by kernel_rfl
inductive F?(n:Nat)(x:ax)(fin:AV)(H₁:Hp)(l:List IT)(m:Nm)(H:Hp):Prop
 |mk(ts:List Nat)(rows:Rw)(el:l=(ts.map AV.ref).map IT.val)(em:eW gx m=zK n x)(eh:H=H₁)(z:bn H₁ ts rows)(ef:gZ rows x=fin):F? n x fin H₁ l m H
theorem bn.pin{o:AO}{q:dU}(e:H[l]? =some o)(ho:uv o=none){rows:Rw}(z:bn H ts rows):bn (H.set l (.pin o q)) ts rows:=by
 induction z with
 |nil=>exact .nil
 |cons h s _ ih=>exact .cons ((eS λi=>by subst i;obtain rfl:=aj (h.symm.trans e);exact aJ ho.symm).trans h) s ih
theorem D1{H:List α}{a:Nat}{x p:α}(e:H[a]? =some x):(H.set a p).set a x=H:=by
 rw[iU,<-(aH.mp e).2,gm]
theorem tO{x:AO}{P:Prop}(e:H[n]? =some x)(h:P):iI (some (n,o)) (H.set n (.pin x o)) P:=aw (x:=.pin x o) (bZ (aH.mp e).1) (aQ rfl h)
theorem w9{x:AO}(e:H[n]? =some x)(h:L H):fX (some (n,o)) (H.set n (.pin x o)) L:=aw (x:=.pin x o) (bZ (aH.mp e).1) (aQ rfl (by rw[D1 e];exact h))
theorem bn.el{rows:Rw}(z:bn H ts rows){C:List Nat->Rw->Prop}:(ts=[]->C [] [])->(∀t us r rs,ts=t::us->H[t]? =some (.tup [.str r.1,.str r.2])->r.1.length<=1000->bn H us rs->C (t::us) (r::rs))->C ts rows:=by
 induction z with
 |nil=>exact λk y=>k rfl
 |cons h s z _=>exact λy k=>k _ _ _ _ rfl h s z
theorem Mu{rows:Rw}{x:ax}(t':TabAt H n d l ts rows)(hc:fu (aX x))(hx:x.length<=1000)(k:K (gZ rows (aX x)) H):cg (gK 8) BQ 8 (cd 8) (zK n x) H (dT K):=by
 have e0:cd 8=sA (cd 8) 0::sA (cd 8) 1::(cd 8).drop 2:=by kernel_rfl
 rw[e0];refine kc (aw t'.ty (aw (x:=fD 162) rfl ⟨aq hx (by decide),EY.mk (.ref n) (aX x) true rfl rfl hc (kc (nh gx (by kernel_rfl) TP ⟨⟨rfl,rfl⟩,aw (ia t'.i rfl) (aw (ia t'.a rfl) (aw t'.l (bX λq=>aw t'.l (iL (F? n (aX x) (gZ rows (aX x)) (H.set l (.pin (.lst (ts.map .ref)) q))) (λm H' h=>?_) (λit r m H' go hgo h=>?_) _ _ _ ⟨ts,rows,rfl,by kernel_rfl,rfl,t'.r.pin t'.l rfl,rfl⟩))))⟩) TQ)⟩)) TR
 ·obtain⟨ts',rs,el,em,rfl,z,ef⟩:=h
  cases ts' with
  |cons=>exact(bf _ _ el.symm).elim
  |nil=>
   have ef:gZ rs (aX x)=gZ rows (aX x):=ef;refine bn.el (C:=λw rs=>gZ rs (aX x)=gZ rows (aX x)->_) z (λw ef=>?_) (λw w w w e=>(bf _ _ e.symm).elim) ef;exact tO t'.l (bX (em▸w9 t'.l (kc (show K (gZ [] (aX x)) H from ef▸k) TL)))
 ·obtain⟨ts',rs,el,em,rfl,z,ef⟩:=h
  refine bn.el (C:=λts' rs=>(it::r=(ts'.map AV.ref).map IT.val)->gZ rs (aX x)=gZ rows (aX x)->_) z (λw el=>(bf _ _ el).elim) (λt us y rs w h s z el ef=>?_) el ef;obtain⟨rfl,rfl⟩:=ca el;refine tO t'.l (bX (em▸kc (aw (ia (f:=uv) h rfl) (kc ⟨aq s (by decide),λe=>?_,λe=>hgo _ _ ⟨us,rs,rfl,by kernel_rfl,rfl,z,?_⟩⟩ TM)) (TN (K:=λf m H'=>fX (some (l,q)) H' λH'=>gn (gK 8) BQ 8 ((cd 8).drop 2) (dT K) f m H'))))
  ·have ef:(bif aX y.1==aX x then AV.str y.2 else gZ rs (aX x))=gZ rows (aX x):=ef
   rw[e]at ef;exact w9 t'.l (show K (bif true then AV.str y.2 else gZ rs (aX x)) H from ef▸k)
  ·have ef:(bif aX y.1==aX x then AV.str y.2 else gZ rs (aX x))=gZ rows (aX x):=ef
   rw[e]at ef;exact ef
theorem Dm:f7 w mean mg mb 3 210 Mv:=pU (T:=BQ) 8 [aa "self",aa "name"] [(aa "default",.none)] [(aa "default",.none)] (λz=>.cons .none .nil) OP OU (by kernel_rfl) (by kernel_rfl) (λs vs X h=>eH h λa r h=>eH h λb r h=>kL h (jD X λz=>by kernel_rfl)) (λΓ hd hu=>dt (.cons (Iy.sp zw hd hu rfl) (.cons Hu .nil)) (.cons ml (.cons (jv (by kernel_rfl) λz z=>by kernel_rfl) .nil)) λz z e=>aJ e) λas H K h=>by
  obtain⟨n,d,l,ts,rows,x,rfl,t,hl,hc,hx,k⟩:=h;exact⟨rfl,kc (Mu t hc hx k) (by kernel_rfl)⟩
end
variable{rows:Rw}
section
noncomputable def pI:f6:=oa [(.ref 210,Mv),(.ref 162,EY),(.builtin "list.append",q8)] [mM "list" "append",mH "get" 210,mH "_convert_string_type" 162] λz=>none
noncomputable def Ff(n:Nat)(x v:ax):Nm:=[(aa "self",.ref n),(aa "name",.str x),(aa "value",.str v)]
def C4(T:f6)(n:Nat)(x:ax)(as:List AV)(y:ax)(b:AV)(H:Hp)(K:KV):Prop:=aG (qr (.ref n) H) λty=>aG (iJ T.meths ty x) λg=>T.callK (.val g) (.ref n::as) y b H K
theorem QJ{x v:ax}{K:KS}:cg (gK 15) pI 8 (sA (cd 15) 0::r) (Ff n x v) H K=C3 pI n (aa "get") [.str x] H λa H=>fb (gK 15) (aa "result") a (Ff n x v) H λm H=>cg (gK 15) pI 8 r m H K:=by kernel_rfl
theorem QI{x v b:ax}:(fb (gK 15) (aa "result") (.str b) (Ff n x v) H λm H=>cg (gK 15) pI 8 ((cd 15).drop 1) m H (dT K))=Br false (cg (gK 15) pI 7 (lM (sA (cd 15) 1)) (kt (Ff n x v) (aa "result") (.str b)) H (gn (gK 15) pI 8 [] (dT K))) (K (.str b) H):=by kernel_rfl
def N?(n:Nat)(x v:ax)(H:Hp)(K:KV):Prop:=false=false∧(aa "_headers"=aa "_headers"∧true=true)∧aG (cH BN H n) λd=>aG (cH EP H d) λl=>aG (qr (.ref l) H) λty=>aG (iJ pI.meths ty (aa "append")) λg=>C4 pI n (aa "_convert_string_type") [.str x] (aa "name") (.bool true) H λa H=>C4 pI n (aa "_convert_string_type") [.str v] (aa "name") (.bool false) H λb H=>2<=aF∧pI.call (.val g) [.ref l,.ref H.length] (H++[.tup [a,b]]) λz H=>K (.str v) H
theorem QH{x v:ax}:(fb (gK 15) (aa "result") .none (Ff n x v) H λm H=>cg (gK 15) pI 8 ((cd 15).drop 1) m H (dT K))=Br true (N? n x v H K) (cg (gK 15) pI 7 (X8 (sA (cd 15) 1)) (kt (Ff n x v) (aa "result") .none) H (gn (gK 15) pI 8 [] (dT K))):=by kernel_rfl
inductive Nu(as:List AV)(H:Hp)(K:KV):Prop
 |old(n d l:Nat)(ts:List Nat)(rows:Rw)(x v b:ax)(ea:as=[.ref n,.str x,.str v])(t:TabAt H n d l ts rows)(hl:ts.length<=1000)(hc:fu (aX x))(hx:x.length<=1000)(e:gZ rows (aX x)= .str b)(k:K (.str b) H):Nu as H K
 |new(n d l:Nat)(ts:List Nat)(rows:Rw)(x v:ax)(ea:as=[.ref n,.str x,.str v])(t:TabAt H n d l ts rows)(hl:ts.length<=1000)(hc:fu (aX x))(hx:x.length<=1000)(e:gZ rows (aX x)= .none)(c1:fu x)(c2:fu v)(k:K (.str v) ((H++[AO.tup [.str x,.str v]]).set l (.lst (ts.map AV.ref++[AV.ref H.length])))):Nu as H K
noncomputable def Kt:Sp:=jq Nu
theorem yc{x:ax}{b:Bool}{K:KV}(t:TabAt H n d l ts rows)(c:fu x)(k:K (.str x) H):C4 pI n (aa "_convert_string_type") [.str x] (aa "name") (.bool b) H K:=aw t.ty (aw (x:=fD 162) rfl (EY.mk (.ref n) x b rfl rfl c k))
theorem Og:f7 w mean mg mb 5 253 Kt:=pU (T:=pI) 8 [aa "self",aa "name",aa "value"] [] [] (λz=>.nil) OO OT (by kernel_rfl) (by kernel_rfl) (λs vs X h=>eH h λa r h=>eH h λb r h=>eH h λc r h=>kL h (dz (by kernel_rfl))) (λΓ hd hu=>dt (.cons (Dm.sp zv hd hu rfl) (.cons (Iy.sp zw hd hu rfl) (.cons sr .nil))) (.cons ma (.cons (jv (by kernel_rfl) λz z=>by kernel_rfl) (.cons (jv (by kernel_rfl) λz z=>by kernel_rfl) .nil))) λz z e=>aJ e) λas H K h=>by
 have e0:cd 15=sA (cd 15) 0::(cd 15).drop 1:=by kernel_rfl
 have st:∀{n d l:Nat}{ts:List Nat}{rows:Rw}{x v:ax},TabAt H n d l ts rows->ts.length<=1000->fu (aX x)->x.length<=1000->(fb (gK 15) (aa "result") (gZ rows (aX x)) (Ff n x v) H λm H=>cg (gK 15) pI 8 ((cd 15).drop 1) m H (dT K))->cg (gK 15) pI 8 (cd 15) (hW (fS (cS 15)).names ([aa "self",aa "name",aa "value"].zip [.ref n,.str x,.str v]++[])) H (dT K):=λt hl hc hx k=>
  kc (xC (g:=.ref 210) t.ty rfl (oP rfl (.mk _ _ _ _ _ _ rfl t hl hc hx k))) ((by rw[<-e0];kernel_rfl:_=cg (gK 15) pI 8 (sA (cd 15) 0::(cd 15).drop 1) _ H (dT K)).trans QJ)
 induction h with
 |old n d l ts rows x v b ea t hl hc hx e k=>
  subst ea;exact⟨rfl,st t hl hc hx (e▸kc (.f k) QI)⟩
 |new n d l ts rows x v ea t hl hc hx e c1 c2 k=>
  subst ea;refine⟨rfl,st t hl hc hx (e▸kc (.t ⟨rfl,⟨rfl,rfl⟩,aw (ia t.i rfl) (aw (ia t.a rfl) (aw (Cw t.l rfl) (aw (x:=qa "list.append") rfl (yc t c1 (yc t c2 ⟨ae rfl,oP (sp:=q8) rfl (aw (ba t.l) (aw (x:=ts.map AV.ref) rfl ⟨?_,bX k⟩))⟩)))))⟩) QH)⟩;rw[aD];exact aq hl (by decide)
end
section
noncomputable abbrev tW(i:Nat):al:=gL (sA (cd i) 0)
noncomputable def vr:f6:=oa [] [] λz=>none
noncomputable abbrev zu(n:Nat):Nm:=[(aa "self",.ref n)]
def HF(n:Nat)(H:Hp)(L:List IT->Option Nat->Hp->Prop):Prop:=(aa "_headers"=aa "_headers"∧true=true)∧aG (cH BN H n) λd=>aG (cH EP H d) λl=>uz (.ref l) H λits p=>L its p H
def S9(f:AV×AV->AV)(t:Nat)(H:Hp)(Y:AV->Hp->Prop):Prop:=aG (cH uv H t) λys=>aG (two ys) λy=>Y (f y) H
theorem R?:cg (gK 9) vr 8 (cd 9) (zu n) H (dT K)=fP vr 26 (tW 9) (gK 9) (zu n) H λys H=>K (.ref H.length) (H++[.lst ys]):=by kernel_rfl
theorem ı:cg (gK 10) vr 8 (cd 10) (zu n) H (dT K)=fP vr 26 (tW 10) (gK 10) (zu n) H λys H=>K (.ref H.length) (H++[.lst ys]):=by kernel_rfl
theorem İ(K:List AV->Hp->Prop):fP vr 26 (tW 9) (gK 9) (zu n) H K=lz vr 26 (tW 9) (gK 9) [] (zu n) H K:=by kernel_rfl
theorem XD(K:List AV->Hp->Prop):fP vr 26 (tW 10) (gK 10) (zu n) H K=lz vr 26 (tW 10) (gK 10) [] (zu n) H K:=by kernel_rfl
theorem į(L:List IT->Option Nat->Hp->Prop):nO vr 26 (tW 9) (gK 9) (zu n) H L=HF n H L:=by kernel_rfl
theorem XA(L:List IT->Option Nat->Hp->Prop):nO vr 26 (tW 10) (gK 10) (zu n) H L=HF n H L:=by kernel_rfl
theorem Į{t:Nat}{N:Hp->Prop}:iv (wk vr 26).2 (u0 vr 26 (tW 9)) ⟨eU (nj (tW 9)) (gK 9).nk,[],none⟩ (g0 (tW 9)).target (g0 (tW 9)).ifs (.val (.ref t)) (zu n) H Y N=S9 (·.1) t H Y:=by kernel_rfl
theorem Xz{t:Nat}{N:Hp->Prop}:iv (wk vr 26).2 (u0 vr 26 (tW 10)) ⟨eU (nj (tW 10)) (gK 10).nk,[],none⟩ (g0 (tW 10)).target (g0 (tW 10)).ifs (.val (.ref t)) (zu n) H Y N=S9 (·.2) t H Y:=by kernel_rfl
inductive NA(f:ax×ax->ax)(as:List AV)(H:Hp)(K:KV):Prop
 |mk(n d l:Nat)(ts:List Nat)(rows:Rw)(ea:as=[.ref n])(t:TabAt H n d l ts rows)(hl:ts.length<=1000)(k:K (.ref H.length) (H++[.lst (dI (rows.map f))])):NA f as H K
noncomputable def Mc(f:ax×ax->ax):Sp:=jq (NA f)
theorem bn.zip(z:bn H ts rows)(f:ax×ax->ax):(ts.map AV.ref).map IT.val=(ts.zip rows).map (λb=>IT.val (.ref b.1))∧(∀b∈ts.zip rows,H[b.1]? =some (.tup [.str b.2.1,.str b.2.2]))∧(ts.zip rows).filterMap (λb=>some (AV.str (f b.2)))=dI (rows.map f):=by
 induction z with
 |nil=>exact⟨rfl,λb h=>eN h,rfl⟩
 |cons h s _ ih=>exact⟨congrArg (_::·) ih.1,λb hb=>(aE.mp hb).elim (λe=>e▸h) (ih.2.1 b),congrArg (_::·) ih.2.2⟩
theorem Da{f:ax×ax->ax}{g:AV×AV->AV}(fg:∀r:ax×ax,g (.str r.1,.str r.2)= .str (f r))(e1:∀K,fP vr 26 (tW i) (gK i) (zu n) H K=lz vr 26 (tW i) (gK i) [] (zu n) H K)(e2:∀L,nO vr 26 (tW i) (gK i) (zu n) H L=HF n H L)(e3:∀{t:Nat}{H:Hp}{Y:AV->Hp->Prop}{N:Hp->Prop},iv (wk vr 26).2 (u0 vr 26 (tW i)) ⟨eU (nj (tW i)) (gK i).nk,[],none⟩ (g0 (tW i)).target (g0 (tW i)).ifs (.val (.ref t)) (zu n) H Y N=S9 g t H Y)(t:TabAt H n d l ts rows)(hl:ts.length<=1000){K:List AV->Hp->Prop}(k:K (dI (rows.map f)) H):fP vr 26 (tW i) (gK i) (zu n) H K:=by
 refine ga [] e1 e2 ⟨⟨rfl,rfl⟩,aw (ia t.i rfl) (aw (ia t.a rfl) (aw t.l (bX ?_)))⟩;obtain⟨z1,-,z3⟩:=t.r.zip f;rw[z1];refine⟨?_,λq=>aw t.l ?_⟩
 ·rw[<-z1,aD,aD]
  exact aq hl (ae rfl)
 ·obtain⟨-,z2,-⟩:=(t.r.pin (q:=q) t.l rfl).zip f
  refine ff (λb:Nat×(ax×ax)=>IT.val (.ref b.1)) (λb=>some (AV.str (f b.2))) (λb=>(H.set l (.pin (.lst (ts.map .ref)) q))[b.1]? =some (.tup [.str b.2.1,.str b.2.2])) (λz p=>tO t.l p) (λb hb Y N y z=>kc (aw (ia (f:=uv) hb rfl) (aw (x:=(AV.str b.2.1,AV.str b.2.2)) rfl (fg b.2▸y _ rfl))) e3) _ _ z2 ?_;rw[z3];exact w9 t.l k
theorem Xy:f7 w mean mg mb 2 215 (Mc (·.1)):=pU (T:=vr) 8 [aa "self"] [] [] (λz=>.nil) Yo YH (by kernel_rfl) (by kernel_rfl) (λs vs X h=>eH h λa r h=>kL h (dz (by kernel_rfl))) (λΓ hd hu=>dt .nil .nil λz z e=>aJ e) λas H K h=>by
 obtain⟨n,d,l,ts,rows,rfl,t,hl,k⟩:=h;exact⟨rfl,kc (kc (Da (g:=(·.1)) (λz=>rfl) İ į Į t hl k) R?) (by kernel_rfl)⟩
theorem VX:f7 w mean mg mb 2 220 (Mc (·.2)):=pU (T:=vr) 8 [aa "self"] [] [] (λz=>.nil) Yn YG (by kernel_rfl) (by kernel_rfl) (λs vs X h=>eH h λa r h=>kL h (dz (by kernel_rfl))) (λΓ hd hu=>dt .nil .nil λz z e=>aJ e) λas H K h=>by
 obtain⟨n,d,l,ts,rows,rfl,t,hl,k⟩:=h;exact⟨rfl,kc (kc (Da (g:=(·.2)) (λz=>rfl) XD XA Xz t hl k) ı) (by kernel_rfl)⟩
end
variable{P:mh}{s:aC}
section
theorem Yp:(hp w.params).lookup 155=some (fO (q "__init__") (q "Headers.__init__") (fA (cS 0)) (fB (cS 0)) (fS (cS 0)) (.ref 148) (.none) (q "cpy313.wsgiref.headers") 464 154):=by kernel_rfl
theorem YI:dP (hp w.params) (.ref 154) (q "Headers.__init__")=true:=by kernel_rfl
noncomputable def AC:f6:=Jv [(.type "type",Cv)]
noncomputable abbrev X7(n:Nat):Nm:=[(aa "self",.ref n),(aa "headers",.none)]
noncomputable abbrev zA(n i:Nat):Nm:=[(aa "self",.ref n),(aa "headers",.ref i)]
theorem Tp{K:KS}:cg (gK 0) AC 8 (sA (cd 0) 0::r) (X7 n) H K=iw (λK=>Br false (K .none H) (0<=aF∧K (.ref H.length) (H++[.lst []]))) H λa h=>fb (gK 0) (aa "headers") a (X7 n) h λm h=>cg (gK 0) AC 8 r m h K:=by kernel_rfl
theorem To{K:KS}:(fb (gK 0) (aa "headers") (.ref i) (X7 n) H λm h=>cg (gK 0) AC 8 (sA (cd 0) 1::r) m h K)=aG (cH fG H i) λz=>Br false (cg (gK 0) AC 7 (lM (sA (cd 0) 1)) (zA n i) H (gn (gK 0) AC 8 r K)) (cg (gK 0) AC 8 r (zA n i) H K):=by kernel_rfl
theorem Tn{K:KS}:cg (gK 0) AC 8 (sA (cd 0) 2::r) (zA n i) H K=((false=false∧aa "_headers"=aa "_headers")∧Kr (.ref n) (.ref i) H λH=>cg (gK 0) AC 8 r (zA n i) H K):=by kernel_rfl
set_option tactic.hygienic true in
theorem Tl{K:KS}:cg (gK 0) AC 8 ((cd 0).drop 3) (zA n i) H K=Br true (qQ (gK 0) AC 6 (sA (lM (sA (cd 0) 3)) 0) (zA n i) H (gn (gK 0) AC 7 [] (gn (gK 0) AC 8 [] K))) (K .next (zA n i) H):=by kernel_rfl
theorem Tj(L:List IT->Option Nat->Hp->Prop):Jt (gK 0) AC 6 (sA (lM (sA (cd 0) 3)) 0) (zA n i) H L=uz (.ref i) H λl p=>L l p H:=by kernel_rfl
noncomputable def cA(Γ:Wk w mean mg mb):dR:=Γ.A.under (.builtin "type.__call__" ⟨[.ref 263],[]⟩)
theorem Mm(h1:H[n]? =some (.inst d))(h2:H[d]? =some (.raw (pE [] 0)))(k:K .none ((H++[AO.lst []]).set d (.attr H.length))):cg (gK 0) AC 8 (cd 0) (X7 n) H (dT K):=by
 have e0:cd 0=sA (cd 0) 0::sA (cd 0) 1::sA (cd 0) 2::(cd 0).drop 3:=by kernel_rfl
 have hl:((H++[AO.lst []]).set d (.attr H.length))[H.length]? =some (.lst []):=(eS λe=>dW _ (e▸(aH.mp h2).1)).trans bA;rw[e0];refine kc (.go (Br.f ⟨bC _,kc (aw (iR (f:=fG) rfl) (Br.f (kc ⟨⟨rfl,rfl⟩,aw (ia (f:=BN) (ba h1) rfl) (aQ (ba h2) (kc (.t (nh [] (by kernel_rfl) Tj (aw hl (bX λq=>aw hl ?_)))) Tl))⟩ Tn))) To⟩)) Tp;exact tO hl (bX (w9 hl k))
noncomputable def ŝ(as:List AV)(ks:Nm):Option Nm:=(one as).bind λa=>match ks with
 |[]=>some [(aa "self",a),(aa "headers",.none)]
 |_::_=>none
theorem X6:Jb w mean mg mb 2 155 λas ks H K=>aG (ŝ as ks) λnv=>cg ⟨(fS (cS 0)).names,[],none⟩ AC 8 (cd 0) (hW (fS (cS 0)).names nv) H (dT K):=O8 (T:=AC) 8 [aa "self",aa "headers"] _ Yp YI (by kernel_rfl) (by kernel_rfl) (λ{s ρ as vs ks nv kv} X r rk e=>bW e λa e1 e2=>by
  obtain rfl:=lb e1;induction rk with
  |cons=>exact aJ e2
  |nil=>
   obtain rfl:=aj e2;exact⟨rfl,bB.c1 r λv r1=>⟨_,jD X λz=>by kernel_rfl,.cons r1 (.cons .none .nil)⟩⟩) (λΓ hd hu=>dt (.cons Bd .nil) .nil λz z e=>aJ e)
noncomputable def T_:AV->Bool
 |.none=>true
 |_=>false
@[elab_as_elim] theorem db.N{v:ar}{C:ar->Prop}(r:db ρ .none v)(k:C .none):C v:=by
 have:∀{a},db ρ a v->T_ a=true->C v:=λr=>by
  induction r with
  |none=>exact λz=>k
  |_=>exact λe=>bj e
 exact this r rfl
noncomputable def Yy:Sp:=jq λas H K=>Fv as (K (.ref (H.length+1)) (H++[.attr (H.length+2),.inst H.length,.lst []]))
set_option tactic.hygienic true in
theorem Yx:f7 w mean mg mb 4 263 Yy:=λΓ ρ P m H s Q E as vs ks kv K hd hu h R r rk b=>jq.el (C:=λkv=>aL (cJ w) Γ.A (bH (.ref 263) vs kv) Q E s) h rk λh=>Fv.el (C:=λvs=>aL (cJ w) Γ.A (bH (.ref 263) vs []) Q E s) h r λk=>by
 obtain⟨mm,objs,F,q,ro,N⟩:=R.dy;refine call_cls (fI:=155) F Γ.X N (by kernel_rfl) (by kernel_rfl) (by kernel_rfl) λx dx h' F' N' l1 l2=>?_
 let Γ₂:Wk w mean mg mb:=⟨Γ.pT,Γ.lT,(cA Γ).depth,(cA Γ).units,(cA Γ).guards,Γ.cn,Γ.cs,Γ.L,Γ.a,Γ.ccd,Γ.cl,Γ.outer,Γ.A₀,Γ.base,Γ.h₀,Γ.s₀,Γ.B,Γ.X,Γ.T,Γ.hk,?_,?_⟩
 case refine_1=>exact bh (aU (by decide) _) hd
 case refine_2=>exact bh (by show Γ.un+1+8<=Γ.un+32;rw[cU];exact aU (by decide) _) hu
 have hl:ρ.length=objs.length:=R.ly.ln.trans ro.len.symm;have far:∀{p:aI×dU},p∈ρ.zip objs++P.rest->p.1<dx:=λhp=>l1 _ hp
 have nw:∀{D:aI},dx<=D->(∀(j:Nat)(b:aI),ρ[j]? =some b->b≠D):=λh j b e=>by
  obtain⟨o,ho⟩:=gy hl e;exact bc (bx (far (av _ ho)) h)
 have rs:∀{D:aI},dx<=D->∀p∈P.rest,p.1≠D:=λh p hp=>bc (bx (far (au _ hp)) h)
 have Y:=(R.ly.add (o:=.raw (pE [] 0)) (nw (bF _)) (rs (bF _)) br).add (D:=x) (o:=.inst H.length) (λj b e=>gp e (nw (b0 l2) j b) λ_ i=>i▸bc l2) (rs (b0 l2)) br;have e1:((H++[AO.raw (pE [] 0)])++[AO.inst H.length])[H.length+1]? =some (.inst H.length):=(aK (as:=H) (bs:=[AO.raw (pE [] 0)]))▸bA (H:=H++[AO.raw (pE [] 0)]);have g1:(ρ++[dx])[H.length]? =some dx:=R.ly.ln▸bA;have R₂:bM Γ₂ ((ρ++[dx])++[x]) P m ((H++[.raw (pE [] 0)])++[.inst H.length]) {s with heap:=h'}:=by
  refine⟨⟨mm,(objs++[pE [] 0])++[instObj 263 dx],F',q.mono (dg.trans (dg.one ρ dx) (dg.one _ x)),((ro.mono (dg.trans (dg.one ρ dx) (dg.one _ x))).app (.cons (.raw _) .nil)).app (.cons (.inst (ba g1)) .nil),λp hp=>N' p ?_⟩,Y,R.g,R.d,R.o⟩;rw[j9 (by rw[aK,aK,hl];rfl),j9 hl,aA,aA]at hp;exact qF hp (λh=>af _ (af _ (av _ h))) (λh=>a8.mp h▸af _ ah) λh=>(aT.mp h).elim (λh=>a8.mp h▸ah) λh=>af _ (af _ (au _ h))
 refine X6 Γ₂ _ P m _ _ (λv s'=>v= .none∧Q (.ref x) s') _ [.ref (H.length+1)] [.ref x] [] [] (λa H'=>a= .none∧H'=H++[.attr (H.length+2),.inst H.length,.lst []]) ?_ ?_ (aw (x:=X7 (H.length+1)) (by kernel_rfl) (Mm (d:=H.length) ?_ ?_ ?_)) R₂ (.cons (.ref _ _ ?_) .nil) .nil ?_ λv s' h=>?_
 ·exact bh (gH (Γ.dp+3)) hd
 ·exact bh (aU (by decide:17<=32) Γ.un) hu
 ·exact e1
 ·exact ba bA
 ·refine⟨rfl,?_⟩
  rw[aA,aA,j7 _ _ (bF _),fW,aK,aK];rfl
 ·exact(by rw[aK,R.ly.ln];rfl:(ρ++[dx]).length=H.length+1)▸bA
 ·intro a v H₂ ρ₂ s₂ x₂ r R₃ k
  obtain⟨rfl,rfl⟩:=k;refine db.N (C:=λv=>v= .none∧Q (.ref x) s₂) r ⟨rfl,?_⟩;obtain⟨mm',objs',F₃,q₃,ro₃,N₃⟩:=R₃.dy;refine b.put (dg.trans (dg.trans (dg.one ρ dx) (dg.one _ x)) x₂) (.ref _ _ (x₂.get ?_)) ⟨⟨mm',objs',F₃,q₃,ro₃,N₃⟩,R₃.ly,R₃.g,R₃.d,R₃.o⟩ k;exact(by rw[aK,R.ly.ln];rfl:(ρ++[dx]).length=H.length+1)▸bA
 ·obtain⟨rfl,h⟩:=h
  exact⟨rfl,h⟩
end
variable{ps:jl}{body:al}{sc:iS}{pos:kF}{ql:ax}{cl:List (ax×Nat)}{ob:dU}
variable{Q:ar->aC->Prop}{E:ar->aC->Prop}
section
noncomputable def VB:AO->Option (al×ax×List (ax×Nat)×Nat)
 |.lam e ql cl c=>some (e,ql,cl,c)
 |_=>none
noncomputable def W?:AO->Option ax
 |.code ql=>some ql
 |_=>none
theorem So{o:AO}{c:Nat}(h:VB o=some (.Lambda ps body sc pos,ql,cl,c))(r:de w ρ o ob){C:Prop}(k:∀clos pm c' ctv,Ů ρ cl clos->ρ[c]? =some c'->ob=kla_obj "<lambda>" ql ps body sc clos pm c' ctv->C):C:=by
 induction r with
 |lam h1 h2=>
  obtain⟨e1,e2⟩:=j6 (aj h);obtain⟨e2,e3⟩:=j6 e2;obtain⟨e3,e4⟩:=j6 e3;subst e2 e3 e4;obtain⟨rfl,rfl,rfl,-⟩:=JQ e1;exact k _ _ _ _ h1 h2 rfl
 |_=>exact aJ h
theorem MP{o:AO}(h:W? o=some ql)(r:de w ρ o ob):∃vs t,ob.data= .fields vs∧vs[1]? =some (.str ql t):=by
 induction r with
 |code hd hv=>exact⟨_,_,hd,aj h▸hv⟩
 |_=>exact aJ h
theorem cW.look{as:List (ax×AV)}{vs:List (ax×ar)}(h:cW ρ as vs){x:ax}:as.lookup x=some a->∃v,vs.lookup x=some v∧db ρ a v:=by
 induction h with
 |nil=>exact λe=>aJ e
 |@cons y b u as vs r _ ih=>
  intro e;rw[gc]at e ⊢;dsimp only at e ⊢;cases q:x==y with
  |true=>rw[q]at e;exact⟨u,rfl,aj e▸r⟩
  |false=>rw[q]at e;exact ih e
noncomputable def K9(sc:iS)(xs:List ax):Bool:=(sc.isCoroutine==false&&sc.isGenerator==false)&&(sc.kind== .function&&(sc.names.all (λx=>x.2 != .cell)&&xs.all λx=>sc.names.lookup x==some .local))
set_option tactic.hygienic true in
theorem wz{c:Nat}{I:Wk w mean mg mb->Prop}{msg:ax}{KX:Hp->Prop}{xs:List ax}{f:aI}(hs:K9 sc xs=true)(hr:(xs.zip vs).reverse=xs.zip vs)
  (hb:∀clos pm c' ctv,vG (kla_fn "<lambda>" ql ps body sc clos pm (.ref c') ctv) ⟨vs,[]⟩=pure (xs.zip vs))(hl:as.length=xs.length)
  (hT:∀Γ:Wk w mean mg mb,Γ.dp+(d+1)<aP->Γ.un+8*(d+1)<df->I Γ)(hd:Γ.dp+(d+2)<aP)(hu:Γ.un+8*(d+2)<df)
  (h1:H[n]? =some (.lam (.Lambda ps body sc pos) ql cl c))(h2:H[c]? =some (.code ql))(main:∀(Γ':Wk w mean mg mb)(s':aC)(Q E:ar->aC->Prop),I Γ'->dC Γ' ρ P ⟨sc.names,cl,none⟩ Γ'.env->bM Γ' ρ P (xs.zip as) H s'->Back Γ' ρ P (xs.zip as) K Q->(∀e s',v8 Γ' ρ P (xs.zip as) msg KX e s'->E e s')->aL (cJ w) Γ'.A (eval body Γ'.env) Q E s')(R:bM Γ ρ P m H s)(hf:ρ[n]? =some f)(r:bB ρ as vs)(b:Back Γ ρ P m K Q)(hX:∀e s',v8 Γ ρ P m msg KX e s'->E e s'):aL (cJ w) Γ.A (bH (.ref f) vs []) Q E s:=by
 unfold K9 at hs;simp only [aM,beq_iff_eq]at hs;obtain⟨mm,objs,F,q,ro,N⟩:=R.dy;refine ro.at h1 λob e1 r1=>So rfl r1 λclos pm c' ctv hcl hc eq=>ro.at h2 λoc e2 r2=>?_
 obtain⟨fv,ft,f1,f2⟩:=MP rfl r2;subst eq;refine uj (kla_code Γ.B F Γ.X N Γ.T rfl rfl Γ.hk (av _ (dK hf e1)) (codeRec_news N (av _ (dK hc e2)) f1 f2) (bh (a9 _ _) hd) (hb clos pm c' ctv) (λy hy=>?_) (λg L' h₁ FG F' N' B' X' T'=>?_) hs.1.1 hs.1.2 hs.2.1 λy hy e=>?_)
 ·exact beq_iff_eq.mp (aB.mp hs.2.2.2 y.1 (nT (show(y.1,y.2)∈xs.zip vs from hy)).1)
 ·let Γ':Wk w mean mg mb:=⟨Γ.pT,Γ.lT,Γ.dp+1,Γ.un+3,Γ.gd,ql,sc,L',f,.ref c',clos,Γ.env::Γ.outer,Γ.A,Γ.base,g,Γ.s₀,B',X',T',hs.2.1,?_,?_⟩
  case refine_1=>exact bh (aU (eP 1 (d+1)) _) hd
  case refine_2=>exact bh (by show Γ.un+3+8<=Γ.un+(8*d+16);rw[cU];exact aU (aq (by decide) (eP 16 _)) _) hu
  have R':bM Γ' ρ P (xs.zip as) H {s with heap:=h₁,toks:=s.toks+(xs.zip vs).length}:=⟨⟨_,objs,F',λy a e=>by rw[hr];exact(r.zip xs).look e,ro,N'⟩,R.ly,R.g,R.d,R.o⟩;refine main Γ' _ (λv s'=>LeaveK Γ.h₀ Γ.L mm g _ v s') _ (hT Γ' ?_ ?_) ⟨rfl,hs.2.1,rfl,rfl,λy j hy=>hcl y j hy,λ_=>rfl,λ_ h=>aJ h⟩ R' (λa v H' ρ' s' x' r' R₂ k=>?_) λe s' f=>(JF.fly (f.nil (dg.refl ρ))).leave (Γ:=Γ) (m:=m) rfl rfl rfl B' FG q (dg.refl ρ) λs'' fl=>hX _ _ fl
  ·show Γ.dp+1+(d+1)<aP
   rw[io];exact hd
  ·show Γ.un+3+8*(d+1)<df
   refine bh ?_ hu;rw[cU,d4 3];exact aU (aU (by decide) (8*(d+1))) _
  ·obtain⟨m₁,objs',F₁,_,ro',N₂⟩:=R₂.dy
   exact leaveK_ F₁ N₂ λF₂ N₃=>b.put x' r' ⟨⟨mm,objs',F₂,q.mono x',ro',N₃⟩,R₂.ly,R₂.g,R₂.d,R₂.o⟩ k
 ·have:=aB.mp hs.2.2.1 y hy
  rw[e]at this;exact bj this
theorem HC{c:Nat}{xs:List ax}{f:aI}(hs:K9 sc xs=true)(hr:(xs.zip vs).reverse=xs.zip vs)
  (hb:∀clos pm c' ctv,vG (kla_fn "<lambda>" ql ps body sc clos pm (.ref c') ctv) ⟨vs,[]⟩=pure (xs.zip vs))(hl:as.length=xs.length)
  (hT:∀Γ:Wk w mean mg mb,Γ.dp+(d+1)<aP->Γ.un+8*(d+1)<df->cF Γ T)(hd:Γ.dp+(d+2)<aP)(hu:Γ.un+8*(d+2)<df)
  (h1:H[n]? =some (.lam (.Lambda ps body sc pos) ql cl c))(h2:H[c]? =some (.code ql))(h:(wk T k).1 ⟨sc.names,cl,none⟩ body (xs.zip as) H K)(R:bM Γ ρ P m H s)(hf:ρ[n]? =some f)(r:bB ρ as vs)(b:Back Γ ρ P m K Q):aL (cJ w) Γ.A (bH (.ref f) vs []) Q E s:=
 wz (I:=λΓ=>cF Γ T) (msg:=aa "") (KX:=λz=>False) hs hr hb hl hT hd hu h1 h2 (λΓ' s' Q E O N R b z=>(gF O k).1 _ Γ'.env body _ H _ h ρ P _ Q E N R b) R hf r b λz z fl=>fl.no
end
variable{ms:List (String×ax×ar)}{ge:AV->Option (ax->List (Int×ax))}{fns:List (ar×Sp)}{kf:Int->Int}
section
abbrev Lc:=Nat->List AV->Hp->KV->Prop
structure ve(w:gf)(mean:jj->Option ar)(mg mb:ax->Option ar)(d:Nat)(L:Lc):Prop where
 go:∀(Γ:Wk w mean mg mb)(ρ:List aI)(P:mh)(m:Nm)(H:Hp)(s:aC)(Q E:ar->aC->Prop)(n:Nat)(f:aI)(as:List AV)(vs:List ar)(K:KV),Γ.dp+d<aP->Γ.un+8*d<df->L n as H K->bM Γ ρ P m H s->ρ[n]? =some f->bB ρ as vs->Back Γ ρ P m K Q->aL (cJ w) Γ.A (bH (.ref f) vs []) Q E s
 keep:∀n as H K,L n as H K->(cH VB H n).isSome=true
def Zw(fns:List (ar×Sp))(L:Lc)(g:AV)(as:List AV)(H:Hp)(K:KV):Prop:=match g with
 |.ref n=>L n as H K
 |.val v=>aG (BS fns v) λsp=>sp as [] H K
 |_=>False
noncomputable def Ý(fns:List (ar×Sp))(ms:List (String×ax×ar))(ge:AV->Option (ax->List (Int×ax)))(L:Lc)(tb:Option (aI×ax)):f6:=⟨λx=>YV.lookup x,Zw fns L,λg as x a H K=>DC fns g as [(x,a)] H K,ms,ge,tb⟩
theorem I7{f:aI}(h:(cH VB H n).isSome=true)(R:bM Γ ρ P m H s)(hf:ρ[n]? =some f):Kp w s.heap (.ref f):=by
 cases e:cH VB H n with
 |none=>rw[e]at h;exact bj h
 |some p=>
  refine R.seen hf e λo ob e r g=>?_
  induction r with
  |lam=>exact keeps_F _ ⟨_,_,_,_,g⟩
  |_=>exact aJ e
theorem BE{L:Lc}{tb:Option (aI×ax)}(hd:Γ.dp+d<aP)(hu:Γ.un+8*d<df)(h:vf (iA Γ) fns)(h4:vf (λe=>rz Γ e.1 e.2.1 e.2.2) ms)(h5:∀g k,ge g=some k->wO Γ g k)(hL:ve w mean mg mb d L)(ht:∀p,tb=some p->p.2=Γ.env.qual++"<lambda>"∧∃c,Γ.ccd= .ref c∧CodeHd Γ.h₀ c p.1):cF Γ (Ý fns ms ge L tb):=
 ⟨λz z z z z z z z z z z e hk N R q=>BR e hk N R q,λρ P m H s Q E g as K v vs k R rg r b=>by
   induction rg with
   |ref n f hf=>exact hL.go Γ ρ P m H s Q E n f as vs K hd hu k R hf r b
   |val v=>exact aG.el (show aG (BS fns v) λsp=>sp as [] H K from k) λsp k e=>(h.out _ (qO e)).go ρ P m H s Q E as vs [] [] K k R r .nil b
   |_=>exact k.elim,
  λρ P m H s Q E g as x a K v vs u k R rg r ra b=>mL h k rg λsp o k=>o.go ρ P m H s Q E as vs _ _ K k R r (.cons ra .nil) b,h4.out,h5,λρ P m H s g v as K k R rg=>by
   induction rg with
   |ref n f hf=>exact I7 (hL.keep n as H K k) R hf
   |val v=>exact aG.el (show aG (BS fns v) λsp=>sp as [] H K from k) λsp k e=>ki (h.out _ (qO e)).keep _ R.inn
   |_=>exact k.elim,λρ P m H s g v as x a K k R r=>mL h k r λsp o z=>ki o.keep _ R.inn,ht⟩
noncomputable def m_(L:Lc):f6:=Ý [(.builtin "len",sM)] [] (λz=>none) L none
noncomputable def Ş(as:List AV)(ks:Nm):Option Nm:=(two as).bind λp=>(one ks).bind λk=>bif k.1==aa "key" then some [(aa "a",p.1),(aa "x",p.2),(aa "lo",.int 0),(aa "hi",.none),(aa "key",k.2)]else none
noncomputable abbrev ş(la kn:Nat)(x lo:Int)(hi:AV):Nm:=b5 la x lo hi (.ref kn)
inductive NL(L:Lc)(as:List AV)(ks:Nm)(H:Hp)(K:KV):Prop
 |mk(la kn:Nat)(x r:Int)(kf:Int->Int)(xs:List AV)(ea:as=[.ref la,.int x])(ek:ks=[(aa "key",.ref kn)])(hn:cH fG H la=some xs)(hl:(xs.length:Int)<2^63)(hk:∀y,AV.int y∈xs->∀K':KV,K' (.int (kf y)) H->L kn [.int y] H K')(h:g5 (λy=> !decide (kf y<x)) xs 64 0 xs.length=some r)(k:K (.int r) H):NL L as ks H K
inductive H_(c:Int->Bool)(xs:List AV)(H₀:Hp)(la kn:Nat)(x r:Int)(k:Nat)(m:Nm)(H:Hp):Prop
 |mk(lo hi:Int)(e:m=ş la kn x lo (.int hi))(eh:H=H₀)(h:g5 c xs k lo hi=some r):H_ c xs H₀ la kn x r k m H
theorem M3{L:Lc}{la kn:Nat}{x r:Int}(hn:cH fG H la=some xs)(hl:(xs.length:Int)<2^63)(hk:∀y,AV.int y∈xs->∀K':KV,K' (.int (kf y)) H->L kn [.int y] H K')(h:g5 (λy=> !decide (kf y<x)) xs 64 0 xs.length=some r)(k:K (.int r) H):cg (gB 10) (m_ L) 8 (fB (mS 10)) (ş la kn x 0 .none) H (dT (lI H K)):=by
 refine .f (.t (aw hn ⟨hl,.f ⟨rfl,Ð,H_ (λy=> !decide (kf y<x)) xs H la kn x r,64,.mk 0 xs.length rfl rfl h,λk' m' H' hJ=>?_⟩⟩));obtain⟨lo,hi,rfl,rfl,h⟩:=hJ;obtain⟨j,hj,h⟩:=sn h;refine h.el (λh=>?_) λh=>.now (h▸k) rfl
 obtain⟨y,ha,h⟩:=h;refine IN ha λz i e1 e2=>⟨⟨by decide,by kernel_rfl⟩,z,aw (pe hn) (aw e1 (aw e2 (hk y (gC e2) _ ?_)))⟩
 show Br (decide (kf y<x)) _ _;refine⟨λe=>⟨j,hj,.mk _ hi rfl rfl (h.no ?_)⟩,λe=>⟨j,hj,.mk lo _ rfl rfl (h.yes ?_)⟩⟩
 ·exact congrArg (!·) e
 ·exact congrArg (!·) e
theorem ZB{L:Lc}(hL:ve w mean mg mb (d+1) L):f7 w mean mg mb (d+2) 95 (NL L):=(Ib (T:=m_ L) 8 Ð Ş Mr Mt (by kernel_rfl) (by kernel_rfl) (λ{s ρ as vs ks nv kv} X r rk e=>bW e λp e1 e=>bW e λk e2 e3=>by
  obtain rfl:=pG e1;obtain rfl:=lb e2;cases h:k.1==aa "key" with
  |false=>rw[h]at e3;exact aJ e3
  |true=>
   rw[h]at e3;obtain rfl:=aj e3;obtain⟨k1,k2⟩:=k;obtain rfl:=bo h;refine⟨rfl,bB.c2 r λv u r1 r2=>?_⟩;exact cW.c1 rk λz r3=>⟨[(aa "a",v),(aa "x",u),(aa "lo",.int 0 365),(aa "hi",.none),(aa "key",z)],jD X λy=>by kernel_rfl,.cons r1 (.cons r2 (.cons (.int _ _) (.cons .none (.cons r3 .nil))))⟩) λΓ hd hu=>BE hd hu (.cons pP .nil) .nil (λy y e=>aJ e) hL λy e=>aJ e).bare.mono λas ks H K h=>by
  obtain⟨la,kn,x,r,kf,xs,rfl,rfl,hn,hl,hk,h,k⟩:=h;exact aw (x:=ş la kn x 0 .none) (by kernel_rfl) (kc (M3 hn hl hk h k) (by kernel_rfl))
end
section
noncomputable def ng:Sp:=jq λas H K=>lY as λa=>lB a λa=>K (.ref H.length) (H++[.rng 0 a])
theorem lS:iA Γ (.type "range",ng):=.of rfl λρ P m H s Q E as vs K h R r b=>lY.el h r λa va h ra=>lB.el h ra λx t h=>R.made (ok:=by exact λz z=>br) b h λmm l F N fin=>call_range_1 (fin _ _ _ (λρ' z=>.rng 0 x _ t _) (F.push _) (N.push F _))
theorem zx{ρ:List aI}{ns:List Int}(h:IntsAre vs ns):bB ρ (ns.map AV.int) vs:=by
 induction h with
 |nil=>exact .nil
 |cons n t _ ih=>exact .cons (.int n t) ih
noncomputable def Ht:Sp:=jq λas H K=>lY as λa=>jY a λn=>aG (cH Ù H n) λp=>((cN p.1 p.2 1=true∧cf p.1 p.2 1=((p.2 - p.1).toNat:Int))∧(p.2 - p.1).toNat<=1000)∧iz ((rangeKs p.1 (p.2 - p.1).toNat).map AV.int) λys=>K (.ref H.length) (H++[.lst ys])
theorem K5:iA Γ (.type "list",Ht):=.of rfl λρ P m H s Q E as vs K h R r b=>lY.el h r λa va h ra=>jY.el h ra λn c h hc=>aG.el h λp h e=>R.seen hc e λo ob e r g=>by
 obtain⟨t,u,v,rfl⟩:=GI e r;exact R.add λmm l F N fin=>kll_range rfl F N g h.1.1.1 h.1.1.2 (aq h.1.2 (by decide)) λD us c h' tk F' N' lt hi=>b.put (dg.one ρ D) (R.top D) (fin D _ _ h' tk (λρ' x=>.lst c (zx hi)) F' N' lt br) (d8 (k:=λys=>K (.ref H.length) (H++[.lst ys])) h.2)
end
section
noncomputable def R_:al->al
 |.Call _ _ ks _=>(match ks with
  |k::_=>k.value
  |[]=>.Name (aa "") ⟨0,0,0,0⟩)
 |e=>e
noncomputable def Fp:al->jl
 |.Lambda a _ _ _=>a
 |_=>{posonlyargs:=[],args:=[],vararg:=none,kwonlyargs:=[],kw_defaults:=[],kwarg:=none,defaults:=[]}
noncomputable def Et:al->al
 |.Lambda _ b _ _=>b
 |e=>e
noncomputable def BK:al->iS
 |.Lambda _ _ s _=>s
 |_=>{kind:=.function,names:=[],isGenerator:=false,isCoroutine:=false}
noncomputable def ol:al->kF
 |.Lambda _ _ _ p=>p
 |_=>⟨0,0,0,0⟩
noncomputable def dY:al:=R_ (gL (sA (bd 30) 4))
theorem FR:dY= .Lambda (Fp dY) (Et dY) (BK dY) (ol dY):=by kernel_rfl
noncomputable def vS:ax:=aa "_law_worth.<locals>.<lambda>"
noncomputable def Þ:f6:=oa [(.ref 77,tj cR),(.ref 95,tj cL)] [] λz=>none
noncomputable def Fo(cl:List (ax×Nat)):En:=⟨(BK dY).names,cl,none⟩
noncomputable def VV:Lc:=λn as H K=>∃cl c,H[n]? =some (.lam dY vS cl c)∧H[c]? =some (.code vS)∧as.length=1∧(wk Þ 20).1 (Fo cl) (Et dY) ([aa "d"].zip as) H K
theorem Sq(hd:Γ.dp+d<aP)(hu:Γ.un+8*d<df)(h:aN 2 d=true):cF Γ Þ:=dt (.cons (u5.sp HH hd hu h) (.cons (Ab.sp Eu hd hu h) .nil)) .nil λz z e=>aJ e
theorem FS:ve w mean mg mb 3 VV:=⟨λΓ ρ P m H s Q E n f as vs K hd hu h R hf r b=>by
  obtain⟨cl,c,h1,h2,hl,h3⟩:=h;rw[FR]at h1;have hv:vs.length=1:=r.len.trans hl;refine HC (d:=1) (k:=20) (T:=Þ) (xs:=[aa "d"]) (by kernel_rfl) ?_ (λclos pm c' ctv=>?_) hl (λΓ hd hu=>Sq hd hu rfl) hd hu h1 h2 h3 R hf r b
  ·exact eH hv λa t h=>kL h rfl
  ·exact eH (C:=λvs=>vG (kla_fn "<lambda>" vS (Fp dY) (Et dY) (BK dY) clos pm (.ref c') ctv) ⟨vs,[]⟩=pure ([aa "d"].zip vs)) hv λa t h=>kL h (by kernel_rfl),λn as H K h=>by
  obtain⟨cl,c,h1,_⟩:=h;rw[ia (f:=VB) h1 rfl]
  rfl⟩
def f?(cl:List (ax×Nat))(y:Int)(H:Hp)(K:KV):Prop:=iw (λK=>aG (f5 (Fo cl) H (aa "days")) λo=>vv o (.int y) H λa h=>aG (f5 (Fo cl) h (aa "left")) λl=>bq=bq∧vv l (.int (-1)) h λb h=>tj cR [a,b] [] h λu h=>aG (f5 (Fo cl) h (aa "days")) λo=>vv o (.int y) h λa h=>aG (f5 (Fo cl) h (aa "right")) λr=>vv r (.int 0) h λb h=>tj cL [a,b] [] h λv h=>mU .Lt u v h λc=>Br c (K (.int 1) h) (K (.int 0) h)) H K
theorem Xw{y:Int}:(wk Þ 20).1 (Fo cl) (Et dY) ([aa "d"].zip [.int y]) H K=f? cl y H K:=by kernel_rfl
theorem zE:eT 0 (n+1)=some 0:=by
 show(if (decide (0<=(0:Int))&&decide ((0:Int)<((n+1:Nat):Int)))=true then some (0:Int).toNat else none)=_;rw[decide_eq_true (Int.le_refl 0),decide_eq_true (Int.natCast_pos.mpr (jM n))];rfl
theorem Xv{y ln rn u:Int}{ny il ir nd:Nat}{ds l0 r0:List AV}(c1:f5 (Fo cl) H (aa "days")=some (.ref ny))(c2:f5 (Fo cl) H (aa "left")=some (.ref il))(c3:f5 (Fo cl) H (aa "right")=some (.ref ir))(h1:cH fG H ny=some ds)(h2:eT y ds.length=some j)(h3:ds[j]? =some (.ref nd))(h4:cH fG H nd=some xs)(hz:(xs.length:Int)<2^63)(h5:cH fG H il=some (l0++[.int ln]))(h7:cH fG H ir=some (.int rn::r0))(e1:g5 (cR ln) xs 64 0 xs.length=some u)(e2:g5 (cL rn) xs 64 0 xs.length=some v)(hy: -(2^63)<=y∧y<2^63)(k:K (.int (if u<v then 1 else 0)) H):f? cl y H K:=by
 refine .go (aw c1 (aQ hy (aw (pe h1) (aw h2 (aw h3 (aw c2 (aQ rfl (aQ (by decide) (aw (pe h5) (aw oq (aw bA (aw h4 (aQ hz (aw e1 (aw c1 (aQ hy (aw (pe h1) (aw h2 (aw h3 (aw c3 (aQ (by decide) (aw (pe h7) (aw (x:=0) ?_ (aw (x:=AV.int rn) rfl (aw h4 (aQ hz (aw e2 ?_)))))))))))))))))))))))))))
 ·exact zE
 ·show Br (decide (u<v)) (K (.int 1) H) (K (.int 0) H)
  exact⟨λe=>by rw[if_pos (of_decide_eq_true e)]at k;exact k,λe=>by rw[if_neg (of_decide_eq_false e)]at k;exact k⟩
end
variable{nt:Nat}
section
noncomputable def ZA:Sp:=λas ks H K=>match ks with
 |[]=>tj cL as ks H K
 |_::_=>NL VV as ks H K
noncomputable def iQ(sp:Sp):f6:=Ý [(.ref 210,Mv),(.ref 253,Kt),(.ref 303,sp),(.ref 68,pR cR),(.ref 86,pR cL),(.ref 77,tj cR),(.ref 95,ZA),(.type "int",HM),(.type "range",ng),(.type "list",Ht),(.type "str",CI),(.builtin "len",sM),(.builtin "str.join",rY),(.builtin "str.upper",zp cX)] [mH "get" 210,mH "setdefault" 253,mM "str" "join",mM "str" "upper"] (λz=>none) VV (some (300,vS))
noncomputable def f9(n:Nat):En:=⟨(fS (mS 30)).names,yg (cj (fS (mS 30)).names) n,none⟩
noncomputable abbrev qp(k:Nat):cP:=sA (bd 30) k
noncomputable def vT(kp:ax)(no nt:Nat)(r:Nm):Nm:=(aa "kept",.str kp)::(aa "owner",.ref no)::(aa "table",.ref nt)::r
noncomputable abbrev tS:ax:=aa "told"
theorem FT{sp:Sp}{no:Nat}{K:KS}:cg (f9 n) (iQ sp) 8 (qp 0::r) (vT kp no nt []) H K=aG (qr (.ref nt) H) λty=>aG (iJ (iQ sp).meths ty (aa "get")) λg=>kp.length<=5592405∧(aa "x").length+(cX kp).length<=aF∧(iQ sp).call (.val g) [.ref nt,.str (aa "x"++cX kp)] H λa H=>fb (f9 n) tS a (vT kp no nt []) H λm H=>cg (f9 n) (iQ sp) 8 r m H K:=by kernel_rfl
theorem P3{sp:Sp}{no:Nat}{b:ax}{K:KV}:(fb (f9 n) tS (.str b) (vT kp no nt []) H λm H=>cg (f9 n) (iQ sp) 8 (qp 1::r) m H (dT K))=Br true (aG (gW b) λz=>b.length<=640∧K (.int z) H) (cg (f9 n) (iQ sp) 8 r (vT kp no nt [(tS,.str b)]) H (dT K)):=by kernel_rfl
theorem P0{sp:Sp}{no:Nat}{K:KS}:(fb (f9 n) tS .none (vT kp no nt []) H λm H=>cg (f9 n) (iQ sp) 8 (qp 1::r) m H K)=Br false (cg (f9 n) (iQ sp) 7 (lM (qp 1)) (vT kp no nt [(tS,.none)]) H (gn (f9 n) (iQ sp) 8 r K)) (cg (f9 n) (iQ sp) 8 r (vT kp no nt [(tS,.none)]) H K):=by kernel_rfl
noncomputable abbrev lr:List ax:=[aa "left",aa "right"]
noncomputable abbrev Fn:AO:=.lst [.int (-40)]
noncomputable abbrev Ju:AO:=.lst [.int 40]
theorem PZ{sp:Sp}{no:Nat}{K:KS}:cg (f9 n) (iQ sp) 8 (qp 2::r) (vT kp no nt [(tS,.none)]) H K=(false=false∧bq=bq∧1<=aF∧1<=aF∧2<=aF∧xo (f9 n) lr (H++[Fn]++[Ju]).length (vT kp no nt [(tS,.none)]) (H++[Fn]++[Ju]++[.tup [.ref H.length,.ref (H++[Fn]).length]]) (gn (f9 n) (iQ sp) 8 r K) none):=by kernel_rfl
noncomputable def pa(kp:ax)(no nt:Nat):Nm:=vT kp no nt [(tS,.none)]
noncomputable abbrev wx:List ax:=[aa "kept",aa "owner",aa "table",tS]
theorem PY{sp:Sp}{no:Nat}{K:KS}:cg (f9 n) (iQ sp) 8 (qp 3::r) (pa kp no nt) H K=qQ (f9 n) (iQ sp) 7 (qp 3) (pa kp no nt) H (gn (f9 n) (iQ sp) 8 r K):=by kernel_rfl
theorem PK{sp:Sp}{no:Nat}(L:List IT->Option Nat->Hp->Prop):Jt (f9 n) (iQ sp) 7 (qp 3) (pa kp no nt) H L=iz (kp.cps.toList.map λc=>IT.val (.str ⟨#[c]⟩)) λl=>L l none H:=by kernel_rfl
noncomputable def Jq:List cP:=lM (sA (lM (qp 3)) 0)
noncomputable abbrev ji(x:String):ax:=aa x
theorem PX{sp:Sp}{no:Nat}{go:Nm->Hp->Prop}{K:KS}:jI (f9 n) (qp 3) 7 (iQ sp) (.val (.str c)) (pa kp no nt) H wx go K=fb (f9 n) (ji "x") (.str c) (pa kp no nt) H λm H=>cg (f9 n) (iQ sp) 7 (lM (qp 3)) m H (EE wx go K):=by kernel_rfl
theorem PW{sp:Sp}{no:Nat}{go:Nm->Hp->Prop}{K:KS}:cg (f9 n) (iQ sp) 7 (lM (qp 3)) (pa kp no nt) H (EE wx go K)=aG (f5 (f9 n) H (ji "x")) λi=>vv (.ref no) i H λa h=>mU .NotEq a (.int 0) h λc=>Br c (cg (f9 n) (iQ sp) 6 Jq (pa kp no nt) h (gn (f9 n) (iQ sp) 7 [] (EE wx go K))) (go (pa kp no nt) h):=by kernel_rfl
noncomputable abbrev MA:al->al
 |.Call _ as _ _=>eA as 0
 |e=>e
noncomputable def w7:al:=MA (MA (gL (sA Jq 0)))
noncomputable def PQ(n:Nat):List (ax×Nat):=(qT (f9 n).cl (nj w7).names []).getD []
theorem PV{sp:Sp}{no:Nat}{K:KS}:cg (f9 n) (iQ sp) 6 (sA Jq 0::r) (pa kp no nt) H K=fP (iQ sp) 22 w7 (f9 n) (pa kp no nt) H λys h=>aG (cH fG (h++[.lst ys]) h.length) λxs=>aG (jT gX xs) λts=>iF (aa "") ts=true∧aG (f5 (f9 n) (h++[.lst ys]) (ji "above")) λa=>aG (f5 (f9 n) (h++[.lst ys]) (ji "days")) λd=>sp [.str (cq (aa "") ts),a,.ref no,d,.ref nt] [] (h++[.lst ys]) λv h=>fb (f9 n) (ji "worth") v (pa kp no nt) h λm h=>cg (f9 n) (iQ sp) 6 r m h K:=by kernel_rfl
theorem PM{sp:Sp}{no:Nat}(K:List AV->Hp->Prop):fP (iQ sp) 22 w7 (f9 n) (pa kp no nt) H K=lz (iQ sp) 22 w7 (f9 n) (PQ n) (pa kp no nt) H K:=by kernel_rfl
theorem PJ{sp:Sp}{no:Nat}(L:List IT->Option Nat->Hp->Prop):nO (iQ sp) 22 w7 (f9 n) (pa kp no nt) H L=iz (kp.cps.toList.map λc=>IT.val (.str ⟨#[c]⟩)) λl=>L l none H:=by kernel_rfl
noncomputable def VU(n:Nat):En:=⟨eU (nj w7) (f9 n).nk,PQ n,none⟩
theorem PI{sp:Sp}{no:Nat}{N:Hp->Prop}:iv (wk (iQ sp) 22).2 (u0 (iQ sp) 22 w7) (VU n) (g0 w7).target (g0 w7).ifs (.val (.str c)) (pa kp no nt) H Y N=aG (f5 (VU n) H (ji "above")) λa=>aG (f5 (VU n) H (ji "x")) λi=>vv a i H λl h=>mU .NotIn (.str c) l h λb=>Br b (Y (.str c) h) (N h):=by kernel_rfl
noncomputable def NZ(kp:ax)(no nt:Nat)(v:Int):Nm:=vT kp no nt [(tS,.none),(ji "worth",.int v)]
theorem PU{sp:Sp}{no:Nat}{go:Nm->Hp->Prop}{K:KS}:(fb (f9 n) (ji "worth") (.int v) (pa kp no nt) H λm h=>cg (f9 n) (iQ sp) 6 (Jq.drop 1) m h (gn (f9 n) (iQ sp) 7 [] (EE wx go K)))=aG (f5 (f9 n) H (ji "x")) λi=>vv (.ref no) i H λa h=>mU .Eq a (.int 1) h λc=>Br c (false=false∧aG (f5 (f9 n) h (ji "left")) λl=>pR cR [l,.int v] [] h λz h=>go (NZ kp no nt v) h) (false=false∧aG (f5 (f9 n) h (ji "right")) λl=>pR cL [l,.int v] [] h λz h=>go (NZ kp no nt v) h):=by kernel_rfl
theorem PT{sp:Sp}{no:Nat}{K:KS}:cg (f9 n) (iQ sp) 8 (qp 4::r) (pa kp no nt) H K=aG (cH Ù (H++[.rng 0 5]) H.length) λp=>((cN p.1 p.2 1=true∧cf p.1 p.2 1=((p.2 - p.1).toNat:Int))∧(p.2 - p.1).toNat<=1000)∧iz ((rangeKs p.1 (p.2 - p.1).toNat).map AV.int) λys=>Es (iQ sp) (f9 n) dY (Fp dY) (BK dY) (ol dY) (H++[.rng 0 5]++[.lst ys]) λa h=>NL VV [.ref (H++[AO.rng 0 5]).length,.int 1] [(ji "key",a)] h λd h=>fb (f9 n) (ji "day") d (pa kp no nt) h λm h=>cg (f9 n) (iQ sp) 8 r m h K:=by kernel_rfl
noncomputable def Ñ(kp:ax)(no nt:Nat)(d:Int):Nm:=vT kp no nt [(tS,.none),(ji "day",.int d)]
noncomputable def VW(kp:ax)(no nt:Nat)(d:Int)(z:Nat):Nm:=vT kp no nt [(tS,.none),(ji "day",.int d),(ji "between",.ref z)]
theorem PS{sp:Sp}{no:Nat}{d:Int}{K:KS}:(fb (f9 n) (ji "day") (.int d) (pa kp no nt) H λm h=>cg (f9 n) (iQ sp) 8 (qp 5::r) m h K)=aG (f5 (f9 n) H (ji "days")) λo=>vv o (.int d) H λv h=>aG (f5 (f9 n) h (ji "days")) λo=>vv o (.int d) h λa h=>aG (f5 (f9 n) h (ji "left")) λl=>bq=bq∧vv l (.int (-1)) h λb h=>tj cR [a,b] [] h λlo h=>lB lo λlo=>aG (f5 (f9 n) h (ji "days")) λo=>vv o (.int d) h λa h=>aG (f5 (f9 n) h (ji "right")) λl=>vv l (.int 0) h λb h=>tj cL [a,b] [] h λhi h=>lB hi λhi=>Wg v (some lo) (some hi) none h λz h=>fb (f9 n) (ji "between") z (Ñ kp no nt d) h λm h=>cg (f9 n) (iQ sp) 8 r m h K:=by kernel_rfl
noncomputable def yO:al:=MA (eA (match jh (MA (gL (qp 6)))with|.call _ as _=>as|_=>[]) 1)
theorem PR{sp:Sp}{no z:Nat}{d:Int}:(fb (f9 n) (ji "between") (.ref z) (Ñ kp no nt d) H λm h=>cg (f9 n) (iQ sp) 8 [qp 6] m h (dT K))=aG (qr (.ref nt) H) λty=>aG (iJ (iQ sp).meths ty (ji "setdefault")) λg=>((kp.length:Int)<2^63)∧(2:Int)≠0∧((0<=(kp.length:Int).fmod 2∧(kp.length:Int).fmod 2<((ji "xX").length:Int))∧(ji "xX").length<=1048576)∧((gj (ji "xX") ((kp.length:Int).fmod 2)).length+kp.length<=aF∧fP (iQ sp) 23 yO (f9 n) (VW kp no nt d z) H λys h=>aG (cH fG (h++[.lst ys]) h.length) λxs=>aG (jT gX xs) λts=>iF (ji " ") ts=true∧(iQ sp).call (.val g) [.ref nt,.str (gj (ji "xX") ((kp.length:Int).fmod 2)++kp),.str (cq (ji " ") ts)] (h++[.lst ys]) λv h=>kE v λx=>aG (gW x) λz=>x.length<=640∧K (.int z) h):=by kernel_rfl
theorem PP{sp:Sp}{no z:Nat}{d:Int}(K:List AV->Hp->Prop):fP (iQ sp) 23 yO (f9 n) (VW kp no nt d z) H K=lz (iQ sp) 23 yO (f9 n) [] (VW kp no nt d z) H K:=by kernel_rfl
theorem PO{sp:Sp}{no z:Nat}{d:Int}(L:List IT->Option Nat->Hp->Prop):nO (iQ sp) 23 yO (f9 n) (VW kp no nt d z) H L=uz (.ref z) H λits n'=>L its n' H:=by kernel_rfl
theorem PN{sp:Sp}{no z:Nat}{d k:Int}{N:Hp->Prop}:iv (wk (iQ sp) 23).2 (u0 (iQ sp) 23 yO) ⟨eU (nj yO) (f9 n).nk,[],none⟩ (g0 yO).target (g0 yO).ifs (.val (.int k)) (VW kp no nt d z) H Y N=(k.natAbs.log2<1920∧Y (.str (aa (oS k))) H):=by kernel_rfl
end
variable{ts':List Nat}
section
variable{X:Hp}
abbrev Lt:=List (Nat×Nat×Nat)
noncomputable def Up(H:Hp)(l nk:Nat)(ts:List Nat)(lt:Lt)(T:Hp):Hp:=(H.set l (.lst (ts.map AV.ref))).set nk (.tab 300 lt)++T
theorem Up.len{l nk:Nat}{lt:Lt}:((H.set l (.lst (ts.map AV.ref))).set nk (.tab 300 lt)).length=H.length:=bO.trans bO
theorem Up.up{l nk:Nat}{lt lt':Lt}{T T':Hp}(ne:l≠nk)(h1:l<H.length)(h2:nk<H.length):Up (Up H l nk ts lt T) l nk ts' lt' T'=Up H l nk ts' lt' (T++T'):=by
 unfold Up;rw[fo _ _ (by rw[Up.len];exact h1),fo _ _ (by rw[bO,Up.len];exact h2),aA]
 congr 1
 rw[Pt _ _ ne.symm,iU,iU]
theorem Up.self{l nk:Nat}{lt:Lt}(h1:H[l]? =some (.lst (ts.map AV.ref)))(h2:H[nk]? =some (.tab 300 lt)):Up H l nk ts lt []=H:=by
 unfold Up;have e:H.set l (.lst (ts.map AV.ref))=H:=by rw[<-(aH.mp h1).2,gm]
 rw[e,<-(aH.mp h2).2,gm,be]
theorem Up.tab{l nk:Nat}{lt:Lt}{T:Hp}(h2:nk<H.length):(Up H l nk ts lt T)[nk]? =some (.tab 300 lt):=ba (bZ (by rw[bO];exact h2))
theorem Up.lst{l nk:Nat}{lt:Lt}{T:Hp}(ne:l≠nk)(h1:l<H.length):(Up H l nk ts lt T)[l]? =some (.lst (ts.map AV.ref)):=ba ((Cn ne.symm).trans (bZ h1))
theorem Up.app{l nk:Nat}{lt:Lt}{T:Hp}:Up H l nk ts lt T++Z=Up H l nk ts lt (T++Z):=aA ..
theorem Up.at{l nk:Nat}{lt:Lt}{T:Hp}:(Up H l nk ts lt T)[H.length+k]? =T[k]? :=by
 unfold Up;rw[bp (by rw[Up.len];exact a9 _ _),Up.len,bS]
theorem Up.set{l nk:Nat}{lt:Lt}{T:Hp}{o:AO}:(Up H l nk ts lt T).set (H.length+k) o=Up H l nk ts lt (T.set k o):=by
 unfold Up;rw[j7 _ _ (by rw[Up.len];exact a9 _ _),Up.len,bS]
theorem Up.keep{l nk:Nat}{lt lt':Lt}{T T':Hp}{o:AO}(h:H.length<=i)(e:(Up H l nk ts lt T)[i]? =some o):(Up H l nk ts' lt' (T++T'))[i]? =some o:=by
 obtain⟨k,rfl⟩:=eE h;rw[Up.at]at e ⊢;exact ba e
theorem bn.mono{H':Hp}{rows:Rw}(z:bn H ts rows)(h:∀(n:Nat)(x:List AV),H[n]? =some (.tup x)->H'[n]? =some (.tup x)):bn H' ts rows:=by
 induction z with
 |nil=>exact .nil
 |cons e s _ ih=>exact .cons (h _ _ e) s ih
def yr(H:Hp)(lt:Lt):Prop:=lt=[]∨∃c,lt=[((ol dY).line,(ol dY).col,c)]∧H[c]? =some (.code vS)
theorem yr.mono{H':Hp}{lt:Lt}(z:yr H lt)(h:∀(n:Nat)(x:ax),H[n]? =some (.code x)->H'[n]? =some (.code x)):yr H' lt:=z.imp id λz=>z.imp λy z=>⟨z.1,h _ _ z.2⟩
inductive B6(H:Hp)(l nk:Nat)(rows:Rw)(X:Hp):Prop
 |mk(ts:List Nat)(lt:Lt)(T:Hp)(e:X=Up H l nk ts lt T)(r:bn X ts rows)(lo:yr X lt)(hl:ts.length<=1000):B6 H l nk rows X
noncomputable def rD(rt lf xv:Option AV)(ny na:Nat)(T:Hp):Hp:=.cell rt:: .cell lf:: .cell xv:: .cell (some (.ref ny)):: .cell (some (.ref na))::T
inductive Fm(H:Hp)(l nk ny na:Nat)(il ir:Nat)(xv:Option AV)(lv rv:List AV)(rows:Rw)(X:Hp):Prop
 |mk(ts:List Nat)(lt:Lt)(T:Hp)(e:X=Up H l nk ts lt (rD (some (.ref ir)) (some (.ref il)) xv ny na T))(r:bn X ts rows)(lo:yr X lt)(hl:ts.length<=1000)(h1:X[il]? =some (.lst lv))(h2:X[ir]? =some (.lst rv))(ne:il≠ir)(b1:H.length+5<=il)(b2:H.length+5<=ir):Fm H l nk ny na il ir xv lv rv rows X
variable{nk ny il ir:Nat}{lv rv:List AV}
theorem Fm.app(f:Fm H l nk ny na il ir xv lv rv rows X)(Z:Hp):Fm H l nk ny na il ir xv lv rv rows (X++Z):=by
 obtain⟨ts,lt,T,e,r,lo,hl,h1,h2,ne,b1,b2⟩:=f;exact⟨ts,lt,T++Z,by rw[e,Up.app];rfl,r.mono λz z=>ba,lo.mono λz z=>ba,hl,ba h1,ba h2,ne,b1,b2⟩
noncomputable def sP:AO->Bool
 |.cell _=>true
 |_=>false
noncomputable def Tg:AO->Bool
 |.lst _=>true
 |_=>false
theorem fY{f:AO->Bool}{p:AO}(hi:X[i]? =some p)(hp:f p=true){y:AO}{o:AO}(e:X[n]? =some o)(h:f o=false):(X.set i y)[n]? =some o:=(eS λ(j:n=i)=>by subst j;obtain rfl:=aj (e.symm.trans hi);exact bj (h.symm.trans hp)).trans e
theorem Fm.x(f:Fm H l nk ny na il ir xv lv rv rows X)(a:AV):∃v,X[H.length+2]? =some (.cell v)∧Fm H l nk ny na il ir (some a) lv rv rows (X.set (H.length+2) (.cell (some a))):=by
 obtain⟨ts,lt,T,e,r,lo,hl,h1,h2,ne,b1,b2⟩:=f;have e2:X[H.length+2]? =some (.cell xv):=by rw[e,Up.at];rfl
 exact⟨xv,e2,ts,lt,T,by rw[e,Up.set];rfl,r.mono λn x e=>fY (f:=sP) e2 rfl e rfl,lo.mono λn x e=>fY (f:=sP) e2 rfl e rfl,hl,fY (f:=sP) e2 rfl h1 rfl,fY (f:=sP) e2 rfl h2 rfl,ne,b1,b2⟩
theorem Fm.cells(f:Fm H l nk ny na il ir xv lv rv rows X):X[H.length]? =some (.cell (some (.ref ir)))∧X[H.length+1]? =some (.cell (some (.ref il)))∧X[H.length+2]? =some (.cell xv)∧X[H.length+3]? =some (.cell (some (.ref ny)))∧X[H.length+4]? =some (.cell (some (.ref na))):=by
 obtain⟨ts,lt,T,e,r,lo,hl,h1,h2,ne,b1,b2⟩:=f;subst e;exact⟨Up.at (k:=0),Up.at,Up.at,Up.at,Up.at⟩
theorem Fm.left(f:Fm H l nk ny na il ir xv lv rv rows X)(ys:List AV):Fm H l nk ny na il ir xv ys rv rows (X.set il (.lst ys)):=by
 obtain⟨ts,lt,T,e,r,lo,hl,h1,h2,ne,b1,b2⟩:=f;obtain⟨k,rfl⟩:=eE b1;refine⟨ts,lt,T.set k (.lst ys),by rw[e,cU,Up.set,d4 5];rfl,r.mono λn x e=>fY (f:=Tg) h1 rfl e rfl,lo.mono λn x e=>fY (f:=Tg) h1 rfl e rfl,hl,bZ (aH.mp h1).1,(eS ne.symm).trans h2,ne,b1,b2⟩
theorem Fm.right(f:Fm H l nk ny na il ir xv lv rv rows X)(ys:List AV):Fm H l nk ny na il ir xv lv ys rows (X.set ir (.lst ys)):=by
 obtain⟨ts,lt,T,e,r,lo,hl,h1,h2,ne,b1,b2⟩:=f;obtain⟨k,rfl⟩:=eE b2;refine⟨ts,lt,T.set k (.lst ys),by rw[e,cU,Up.set,d4 5];rfl,r.mono λn x e=>fY (f:=Tg) h2 rfl e rfl,lo.mono λn x e=>fY (f:=Tg) h2 rfl e rfl,hl,(eS ne).trans h1,bZ (aH.mp h2).1,ne,b1,b2⟩
theorem Fm.call{rows':Rw}{X':Hp}(f:Fm H l nk ny na il ir xv lv rv rows X)(hn:l≠nk)(a1:l<H.length)(a2:nk<H.length)(c:B6 X l nk rows' X'):Fm H l nk ny na il ir xv lv rv rows' X':=by
 obtain⟨ts,lt,T,e,r,lo,hl,h1,h2,ne,b1,b2⟩:=f;obtain⟨ts',lt',T',e',r',lo',hl'⟩:=c;subst e;rw[Up.up hn a1 a2]at e';subst e';exact⟨ts',lt',T++T',rfl,r',lo',hl',Up.keep (aq (a9 _ _) b1) h1,Up.keep (aq (a9 _ _) b2) h2,ne,b1,b2⟩
theorem Fm.st(f:Fm H l nk ny na il ir xv lv rv rows X):B6 H l nk rows X:=by
 obtain⟨ts,lt,T,e,r,lo,hl,h1,h2,ne,b1,b2⟩:=f;exact⟨ts,lt,_,e,r,lo,hl⟩
end
section
variable{X:Hp}
structure È(X:Hp)(na no ny nt d l:Nat)(kva kvo:List (ax×AV))(ab:ax->Option (List ax))(dys:List (List AV)):Prop where
 a:cH vz X na=some kva
 p:I1 X kva ab
 o:cH vz X no=some kvo
 y:∃dr:List Nat,cH fG X ny=some (dr.map AV.ref)∧dr.length=5∧∀(i:Nat)(xs:List AV),dys[i]? =some xs->∃n,dr[i]? =some n∧cH fG X n=some xs
 t:X[nt]? =some (.inst d)
 u:X[d]? =some (.attr l)
def lD(H:Hp)(l nk na no ny nt d:Nat)(kva kvo:List (ax×AV))(ab:ax->Option (List ax))(dys:List (List AV)):Prop:=∀ts lt T,È (Up H l nk ts lt T) na no ny nt d l kva kvo ab dys
noncomputable def signs(x:ax):List ax:=x.cps.toList.map λc=>⟨#[c]⟩
noncomputable def po(kp:ax)(l:List ax):ax:=cq (aa "") ((signs kp).filter λy=> !(l.any (·==y)))
noncomputable def Fk(kp:ax):ax:=aa "x"++cX kp
noncomputable def pQ(kp:ax):ax:=gj (ji "xX") ((kp.length:Int).fmod 2)++kp
noncomputable def ut(ns:List Int):ax:=cq (ji " ") (ns.map λk=>aa (oS k))
structure Ny(kp:ax):Prop where
 a:kp.length<=200
 b:(Fk kp).length<=1000
 c:fu (aX (Fk kp))
inductive rf(R:ax->Rw->Int->Rw->Prop)(ab:ax->Option (List ax))(kvo:List (ax×AV))(kp:ax):List ax->List AV->List AV->Rw->List AV->List AV->Rw->Prop
 |nil{lv rv:List AV}{rows:Rw}:rf R ab kvo kp [] lv rv rows lv rv rows
 |skip{c:ax}{cs:List ax}{lv rv lv' rv':List AV}{rows rows':Rw}(h:kvo.lookup c=some (.int 0))(r:rf R ab kvo kp cs lv rv rows lv' rv' rows'):rf R ab kvo kp (c::cs) lv rv rows lv' rv' rows'
 |left{c:ax}{cs:List ax}{lv rv lv' rv':List AV}{rows rows₁ rows':Rw}{l:List ax}{v p:Int}(h:kvo.lookup c=some (.int 1))(ha:ab c=some l)(hr:R (po kp l) rows v rows₁)(hz:lv.length<=1000)(hp:g5 (cR v) lv 64 0 lv.length=some p)(hf:cT p=true)(r:rf R ab kvo kp cs (r6 lv p (.int v)) rv rows₁ lv' rv' rows'):rf R ab kvo kp (c::cs) lv rv rows lv' rv' rows'
 |right{c:ax}{cs:List ax}{lv rv lv' rv':List AV}{rows rows₁ rows':Rw}{l:List ax}{v p:Int}(h:kvo.lookup c=some (.int (-1)))(ha:ab c=some l)(hr:R (po kp l) rows v rows₁)(hz:rv.length<=1000)(hp:g5 (cL v) rv 64 0 rv.length=some p)(hf:cT p=true)(r:rf R ab kvo kp cs lv (r6 rv p (.int v)) rows₁ lv' rv' rows'):rf R ab kvo kp (c::cs) lv rv rows lv' rv' rows'
inductive I8(dys:List (List AV))(ln rn:Int)(kf:Int->Int)(j:Nat):Prop
 |mk(xs:List AV)(u v:Int)(h:dys[j]? =some xs)(hz:(xs.length:Int)<2^63)(hu:g5 (cR ln) xs 64 0 xs.length=some u)(hv:g5 (cL rn) xs 64 0 xs.length=some v)(e:kf j=if u<v then 1 else 0):I8 dys ln rn kf j
noncomputable abbrev x5:List AV:=[.int 0,.int 1,.int 2,.int 3,.int 4]
inductive yq(R:ax->Rw->Int->Rw->Prop)(ab:ax->Option (List ax))(kvo:List (ax×AV))(dys:List (List AV))(kp:ax)(rows:Rw)(z:Int)(rows':Rw):Prop
 |old(b:ax)(hn:Ny kp)(e:gZ rows (aX (Fk kp))= .str b)(ez:gW b=some z)(hb:b.length<=640)(er:rows'=rows):yq R ab kvo dys kp rows z rows'
 |new(lv rv:List AV)(rows₁:Rw)(l0 r0:List AV)(ln rn:Int)(kf:Int->Int)(dy:Nat)(xs:List AV)(u v:Int)(ns:List Int)(hn:Ny kp)(e:gZ rows (aX (Fk kp))= .none)(lp:rf R ab kvo kp (signs kp) [.int (-40)] [.int 40] rows lv rv rows₁)(hl:lv=l0++[.int ln])(hr:rv= .int rn::r0)(hk:∀j:Nat,j<5->I8 dys ln rn kf j)(hd:g5 (λy=> !decide (kf y<1)) x5 64 0 5=some (dy:Int))(hy:dy<5)(hx:dys[dy]? =some xs)(hz:xs.length<=1000)(hu:g5 (cR ln) xs 64 0 xs.length=some u)(hv:g5 (cL rn) xs 64 0 xs.length=some v)(hb:jJ xs (some u) (some v) none=ns.map AV.int)(hns:ns.length<=200)(hlg:∀n∈ns,n.natAbs.log2<1920)(hj:iF (ji " ") (ns.map λk=>aa (oS k))=true)(c1:fu (aX (pQ kp)))(c2:(pQ kp).length<=1000)(c3:gZ rows₁ (aX (pQ kp))= .none)(c4:fu (pQ kp))(c5:fu (ut ns))(ez:gW (ut ns)=some z)(hb2:(ut ns).length<=640)(hrl:rows₁.length<=900)(er:rows'=rows₁++[(pQ kp,ut ns)]):yq R ab kvo dys kp rows z rows'
def B5(ab:ax->Option (List ax))(kvo:List (ax×AV))(dys:List (List AV)):Nat->ax->Rw->Int->Rw->Prop
 |0=>λz z z z=>False
 |f+1=>yq (B5 ab kvo dys f) ab kvo dys
inductive Vc(f:Nat)(as:List AV)(H:Hp)(K:KV):Prop
 |mk(kp:ax)(na no ny nt d l nk:Nat)(ts:List Nat)(lt:Lt)(kva kvo:List (ax×AV))(ab:ax->Option (List ax))(dys:List (List AV))(rows rows':Rw)(z:Int)(ea:as=[.str kp,.ref na,.ref no,.ref ny,.ref nt])(h1:H[l]? =some (.lst (ts.map AV.ref)))(h2:H[nk]? =some (.tab 300 lt))(r:bn H ts rows)(lo:yr H lt)(hl:ts.length<=1000)(fx:lD H l nk na no ny nt d kva kvo ab dys)(e:B5 ab kvo dys f kp rows z rows')(k:∀X,B6 H l nk rows' X->K (.int z) X):Vc f as H K
noncomputable def kH(f:Nat):Sp:=jq (Vc f)
theorem gN{en:En}{x:ax}(hi:en.cl.lookup x=some i)(h:X[i]? =some (.cell (some a))):f5 en X x=some a:=by
 unfold f5;rw[hi];dsimp only;rw[h];rfl
theorem u4{en:En}{x:ax}{v:Option AV}{F:Nm->Hp->Prop}(hk:en.nk.lookup x=some .cell)(hi:en.cl.lookup x=some i)(h:X[i]? =some (.cell v))(k:F m (X.set i (.cell (some a)))):fb en x a m X F:=aw hk (aw hi (aw h k))
theorem uO(n:Nat):(f9 n).cl.lookup (ji "right")=some n:=by kernel_rfl
theorem xI(n:Nat):(f9 n).cl.lookup (ji "left")=some (n+1):=by kernel_rfl
theorem Sk(n:Nat):(f9 n).cl.lookup (ji "x")=some (n+2):=by kernel_rfl
theorem tU(n:Nat):(f9 n).cl.lookup (ji "days")=some (n+3):=by kernel_rfl
theorem Hx(n:Nat):(f9 n).cl.lookup (ji "above")=some (n+4):=by kernel_rfl
theorem Ġ(n:Nat):(VU n).cl.lookup (ji "x")=some (n+2):=by kernel_rfl
theorem Hq(n:Nat):(VU n).cl.lookup (ji "above")=some (n+4):=by kernel_rfl
end
variable{l':List ax}
section
variable{X:Hp}
theorem KM(h:cH fG X n=some xs):cH vz X n=none:=by
 obtain⟨o,e1,e2⟩:=B4 h;unfold cH;rw[e1];dsimp only;generalize un o=y at e2;cases y with
 |lst=>rfl
 |_=>exact aJ e2
theorem Hm{x:ax}{l:List ax}{F:Bool->Prop}(h:cH fG X n=some (dI l))(k:F (l.any (·==x))):BF x n X F:=by
 unfold BF;rw[KM h];exact aw h (aw (kJ l) k)
theorem Ry{x:ax}{l:List ax}{F:Bool->Prop}(h:cH fG X n=some (dI l))(k:F (!(l.any (·==x)))):mU .NotIn (.str x) (.ref n) X F:=show aG (HS .NotIn) (λq=>BF x n X λc=>F (Ag c q))from aw (x:=false) rfl (Hm (F:=λc=>F (Ag c false)) h k)
theorem om{x:ax}(h:cH vz X n=some kvs)(e:kvs.lookup x=some a)(k:K a X):vv (.ref n) (.str x) X K:=aw h (aw e k)
variable{nk no ny il ir f0:Nat}{kvo:List (ax×AV)}{ab:ax->Option (List ax)}{dys:List (List AV)}{lv rv lv' rv':List AV}{rows':Rw}{cs:List ax}
theorem Fm.rd(f:Fm H l nk ny na il ir xv lv rv rows X)(fx:lD H l nk na no ny nt d kva kvo ab dys):È X na no ny nt d l kva kvo ab dys:=by
 obtain⟨ts,lt,T,rfl,_⟩:=f;exact fx _ _ _
theorem J2{rows₁:Rw}(fx:lD H l nk na no ny nt d kva kvo ab dys)(hn:l≠nk)(a1:l<H.length)(a2:nk<H.length)(f:Fm H l nk ny na il ir xv lv rv rows X)(hr:B5 ab kvo dys f0 (po kp l') rows v rows₁)(k:∀X,Fm H l nk ny na il ir xv lv rv rows₁ X->K (.int v) X):kH f0 [.str (po kp l'),.ref na,.ref no,.ref ny,.ref nt] [] X K:=by
 have f':=f;obtain⟨ts,lt,T,e,r,lo,hl,_⟩:=f;exact .mk (po kp l') na no ny nt d l nk ts lt kva kvo ab dys rows rows₁ v rfl (e▸Up.lst hn a1) (e▸Up.tab a2) r lo hl (λts' lt' T'=>by rw[e,Up.up hn a1 a2];exact fx _ _ _) hr λX' s=>k X' (f'.call hn a1 a2 s)
theorem wb(p:ax->Bool):∀cs:List Nat,cs.filterMap (λc=>bif p ⟨#[c]⟩then some (AV.str ⟨#[c]⟩)else none)=dI ((cs.map λc=>(⟨#[c]⟩:ax)).filter p)
 |[]=>rfl
 |a::l=>by
  have ih:=wb p l;rw[ce,gM,f8];cases p ⟨#[a]⟩with
  |true=>exact congrArg (AV.str ⟨#[a]⟩::·) ih
  |false=>exact ih
theorem Ew(hk:kp.length<=200)(p:ax->Bool):iF (aa "") ((signs kp).filter p)=true:=by
 have hs:(signs kp).length=kp.length:=(aD _).trans cG;refine xL (aq (j8 _ _) (aq (bP hs) (aq hk (by decide)))) λy hy=>?_
 obtain⟨c,_,rfl⟩:=bY.mp (iq.mp hy).1;exact ae rfl
theorem Ct{rows₁:Rw}{go:Nm->Hp->Prop}{K:KS}(fx:lD H l nk na no ny nt d kva kvo ab dys)(hn:l≠nk)(a1:l<H.length)(a2:nk<H.length)(hkp:kp.length<=200)(f:Fm H l nk ny na il ir (some (.str c)) lv rv rows X)(ha:ab c=some l')(hr:B5 ab kvo dys f0 (po kp l') rows v rows₁)(k:∀X,Fm H l nk ny na il ir (some (.str c)) lv rv rows₁ X->fb (f9 H.length) (ji "worth") (.int v) (pa kp no nt) X λm h=>cg (f9 H.length) (iQ (kH f0)) 6 (Jq.drop 1) m h (gn (f9 H.length) (iQ (kH f0)) 7 [] (EE wx go K))):cg (f9 H.length) (iQ (kH f0)) 6 Jq (pa kp no nt) X (gn (f9 H.length) (iQ (kH f0)) 7 [] (EE wx go K)):=by
 have e0:Jq=sA Jq 0::Jq.drop 1:=by kernel_rfl
 rw[e0];obtain⟨q0,q1,q2,q3,q4⟩:=f.cells;have rd:=f.rd fx;obtain⟨n',p1,p2⟩:=rd.p c l' ha;have hs:kp.cps.toList.length=kp.length:=cG;refine kc (ga (PQ H.length) PM PJ (bX ⟨?_,ff (pn:=none) (λc:Nat=>IT.val (.str ⟨#[c]⟩)) (λc=>bif !(l'.any (·==(⟨#[c]⟩:ax)))then some (AV.str ⟨#[c]⟩)else none) (λz=>True) (λz h=>h) (λc' z Y N y n=>kc (aw (gN (Hq _) q4) (aw (gN (Ġ _) q2) (om rd.a p1 (Ry p2 (show Br (!(l'.any (·==(⟨#[c']⟩:ax)))) _ _ from⟨λe=>y _ (by rw[e];rfl),λe=>n (by rw[e];rfl)⟩))))) PI) kp.cps.toList _ (λz z=>br) ?_⟩)) PV
 ·rw[aD,hs]
  exact aq hkp (ae rfl)
 ·rw[wb λy=> !(l'.any (·==y))]
  have f2:=f.app [.lst (dI ((kp.cps.toList.map λc=>(⟨#[c]⟩:ax)).filter λy=> !(l'.any (·==y))))];obtain⟨_,_,_,q3,q4⟩:=f2.cells;exact aw (iR rfl) (aw (kJ _) (aQ (Ew hkp _) (aw (gN (Hx _) q4) (aw (gN (tU _) q3) (J2 fx hn a1 a2 f2 hr k)))))
theorem FO{o:Int}{go:Nm->Hp->Prop}{K:KS}(fx:lD H l nk na no ny nt d kva kvo ab dys)(f:Fm H l nk ny na il ir (some (.str c)) lv rv rows X)(h:kvo.lookup c=some (.int o))(k1:o=1->∃p,(lv.length<=1000∧g5 (cR v) lv 64 0 lv.length=some p∧cT p=true)∧go (NZ kp no nt v) (X.set il (.lst (r6 lv p (.int v)))))(k2:o≠1->∃p,(rv.length<=1000∧g5 (cL v) rv 64 0 rv.length=some p∧cT p=true)∧go (NZ kp no nt v) (X.set ir (.lst (r6 rv p (.int v))))):fb (f9 H.length) (ji "worth") (.int v) (pa kp no nt) X λm h=>cg (f9 H.length) (iQ (kH f0)) 6 (Jq.drop 1) m h (gn (f9 H.length) (iQ (kH f0)) 7 [] (EE wx go K)):=by
 obtain⟨q0,q1,q2,q3,q4⟩:=f.cells;have rd:=f.rd fx;have ins:∀{i:Nat}{xs:List AV}{p:Int}{cc:Int->Int->Bool},X[i]? =some (.lst xs)->xs.length<=1000->g5 (cc v) xs 64 0 xs.length=some p->cT p=true->go (NZ kp no nt v) (X.set i (.lst (r6 xs p (.int v))))->pR cc [.ref i,.int v] [] X λz h=>go (NZ kp no nt v) h:=λe hz hp hf k=>aw e (aw (x:=_) rfl (aQ ⟨dQ (fj.mpr hz) (by decide),aq hz (ae rfl)⟩ (aw hp (aQ hf (bX (k:=λys=>go (NZ kp no nt v) (X.set _ (.lst ys))) k)))))
 obtain⟨ts,lt,T,e,r,lo,hl,h1,h2,_⟩:=f;refine kc (aw (gN (Sk _) q2) (om rd.o h (show Br (o==1) _ _ from⟨λe=>?_,λe=>?_⟩))) PU
 ·obtain⟨p,⟨z1,z2,z3⟩,z4⟩:=k1 (bo e)
  exact⟨rfl,aw (gN (xI _) q1) (ins h1 z1 z2 z3 z4)⟩
 ·obtain⟨p,⟨z1,z2,z3⟩,z4⟩:=k2 (ne_of_beq_false e)
  exact⟨rfl,aw (gN (uO _) q0) (ins h2 z1 z2 z3 z4)⟩
theorem J1{cs':List ax}{go:Nm->Hp->Prop}{K:KS}(fx:lD H l nk na no ny nt d kva kvo ab dys)(hn:l≠nk)(a1:l<H.length)(a2:nk<H.length)(hkp:kp.length<=200)(f:Fm H l nk ny na il ir xv lv rv rows X)(lp:rf (B5 ab kvo dys f0) ab kvo kp cs' lv rv rows lv' rv' rows')(e:cs'=c::cs)(k:∀m X xv lv rv rows,eW wx m=pa kp no nt->Fm H l nk ny na il ir xv lv rv rows X->rf (B5 ab kvo dys f0) ab kvo kp cs lv rv rows lv' rv' rows'->go m X):jI (f9 H.length) (qp 3) 7 (iQ (kH f0)) (.val (.str c)) (pa kp no nt) X wx go K:=by
 obtain⟨v,e1,f1⟩:=f.x (.str c);refine kc (u4 (by kernel_rfl) (Sk _) e1 (kc (aw (gN (Sk _) f1.cells.2.2.1) ?_) PW)) PX;have nm:∀{v:Int},eW wx (NZ kp no nt v)=pa kp no nt:=λ{_}=>by kernel_rfl
 have rd:=f1.rd fx;induction lp with
 |nil=>exact(bf _ _ e.symm).elim
 |skip h r _=>
  obtain⟨rfl,rfl⟩:=ca e;exact om rd.o h (Br.f (k _ _ _ _ _ _ (by kernel_rfl) f1 r))
 |left h ha hr hz hp hf r _=>
  obtain⟨rfl,rfl⟩:=ca e;exact om rd.o h (Br.t (Ct fx hn a1 a2 hkp f1 ha hr λX f2=>FO fx f2 h (λz=>⟨_,⟨hz,hp,hf⟩,k _ _ _ _ _ _ nm (f2.left _) r⟩) λn=>(n rfl).elim))
 |right h ha hr hz hp hf r _=>
  obtain⟨rfl,rfl⟩:=ca e;exact om rd.o h (Br.t (Ct fx hn a1 a2 hkp f1 ha hr λX f2=>FO fx f2 h (λn=>absurd n (by decide)) λz=>⟨_,⟨hz,hp,hf⟩,k _ _ _ _ _ _ nm (f2.right _) r⟩))
end
variable{lt:Lt}
section
variable{X:Hp}
variable{nk no ny il ir f0:Nat}{kvo:List (ax×AV)}{ab:ax->Option (List ax)}{dys:List (List AV)}{lv rv lv' rv':List AV}{rows' rows₁:Rw}{cs:List ax}
inductive z_(R:ax->Rw->Int->Rw->Prop)(H:Hp)(l nk ny na no nt il ir:Nat)(ab:ax->Option (List ax))(kvo:List (ax×AV))(kp:ax)(lv' rv':List AV)(rows':Rw)(its:List IT)(m:Nm)(X:Hp):Prop
 |mk(cs:List ax)(xv:Option AV)(lv rv:List AV)(rows:Rw)(el:its=(dI cs).map IT.val)(em:eW wx m=pa kp no nt)(f:Fm H l nk ny na il ir xv lv rv rows X)(lp:rf R ab kvo kp cs lv rv rows lv' rv' rows'):z_ R H l nk ny na no nt il ir ab kvo kp lv' rv' rows' its m X
theorem J5{K:KS}(fx:lD H l nk na no ny nt d kva kvo ab dys)(hn:l≠nk)(a1:l<H.length)(a2:nk<H.length)(hkp:kp.length<=200)(f:Fm H l nk ny na il ir xv lv rv rows X)(lp:rf (B5 ab kvo dys f0) ab kvo kp (signs kp) lv rv rows lv' rv' rows')(k:∀X xv,Fm H l nk ny na il ir xv lv' rv' rows' X->cg (f9 H.length) (iQ (kH f0)) 8 r (pa kp no nt) X K):cg (f9 H.length) (iQ (kH f0)) 8 (qp 3::r) (pa kp no nt) X K:=by
 refine kc (nh wx (by kernel_rfl) PK (bX (iL (z_ (B5 ab kvo dys f0) H l nk ny na no nt il ir ab kvo kp lv' rv' rows') (λm X h=>?_) (λit its m X go hgo h=>?_) _ _ _ ⟨signs kp,xv,lv,rv,rows,?_,by kernel_rfl,f,lp⟩))) PY
 ·obtain⟨cs,xv,lv,rv,rows,el,em,f,lp⟩:=h
  cases cs with
  |cons=>exact(bf _ _ el.symm).elim
  |nil=>
   have fin:∀{cs lv rv rows},rf (B5 ab kvo dys f0) ab kvo kp cs lv rv rows lv' rv' rows'->cs=[]->lv=lv'∧rv=rv'∧rows=rows':=λlp=>by
    induction lp with
    |nil=>exact λz=>⟨rfl,rfl,rfl⟩
    |_=>exact λe=>(bf _ _ e).elim
   obtain⟨rfl,rfl,rfl⟩:=fin lp rfl;exact bX (em▸k X xv f)
 ·obtain⟨cs,xv,lv,rv,rows,el,em,f,lp⟩:=h
  cases cs with
  |nil=>exact(bf _ _ el).elim
  |cons c cs=>
   obtain⟨rfl,rfl⟩:=ca el;exact bX (em▸J1 (K:=λf m H'=>fX none H' λH'=>gn (f9 H.length) (iQ (kH f0)) 8 r K f m H') fx hn a1 a2 hkp f lp rfl λm X xv lv rv rows em f lp=>hgo _ _ ⟨cs,xv,lv,rv,rows,rfl,em,f,lp⟩)
 ·show _=((signs kp).map AV.str).map IT.val
  unfold signs;rw[da,da];rfl
theorem J3{K:KS}{xv0 lf0 rt0:Option AV}(hr:bn (Up H l nk ts lt (rD rt0 lf0 xv0 ny na [])) ts rows)(lo:yr (Up H l nk ts lt (rD rt0 lf0 xv0 ny na [])) lt)(hl:ts.length<=1000)(k:∀X,Fm H l nk ny na (H.length+5) (H.length+6) xv0 [.int (-40)] [.int 40] rows X->cg (f9 H.length) (iQ (kH f0)) 8 r (pa kp no nt) X K):cg (f9 H.length) (iQ (kH f0)) 8 (qp 2::r) (vT kp no nt [(tS,.none)]) (Up H l nk ts lt (rD rt0 lf0 xv0 ny na [])) K:=by
 have len:(Up H l nk ts lt (rD rt0 lf0 xv0 ny na [])).length=H.length+5:=by unfold Up;rw[aK,Up.len];rfl
 refine kc ⟨rfl,rfl,ae rfl,ae rfl,ae rfl,aw (iR (f:=Bk) rfl) ?_⟩ PZ;have e6:(Up H l nk ts lt (rD rt0 lf0 xv0 ny na [])++[Fn]).length=H.length+6:=by rw[aK,len];rfl
 rw[len,e6];have eh:Up H l nk ts lt (rD rt0 lf0 xv0 ny na [])++[Fn]++[Ju]++[.tup [.ref (H.length+5),.ref (H.length+6)]]=Up H l nk ts lt (rD rt0 lf0 xv0 ny na [Fn,Ju,.tup [.ref (H.length+5),.ref (H.length+6)]]):=by
  rw[aA,aA,Up.app];rfl
 have up:∀{n:Nat}{o:AO},(Up H l nk ts lt (rD rt0 lf0 xv0 ny na []))[n]? =some o->(Up H l nk ts lt (rD rt0 lf0 xv0 ny na [Fn,Ju,.tup [.ref (H.length+5),.ref (H.length+6)]]))[n]? =some o:=λe=>by rw[<-eh,aA,aA];exact ba e
 rw[eh];have g1:(Up H l nk ts lt (rD rt0 lf0 xv0 ny na [Fn,Ju,.tup [.ref (H.length+5),.ref (H.length+6)]]))[H.length+1]? =some (.cell lf0):=by rw[Up.at];rfl
 have g2:((Up H l nk ts lt (rD rt0 lf0 xv0 ny na [Fn,Ju,.tup [.ref (H.length+5),.ref (H.length+6)]])).set (H.length+1) (.cell (some (.ref (H.length+5)))))[H.length]? =some (.cell rt0):=(eS (bc (bI _))).trans (Up.at (k:=0));have two:∀{n:Nat}{o:AO},(Up H l nk ts lt (rD rt0 lf0 xv0 ny na [Fn,Ju,.tup [.ref (H.length+5),.ref (H.length+6)]]))[n]? =some o->sP o=false->(((Up H l nk ts lt (rD rt0 lf0 xv0 ny na [Fn,Ju,.tup [.ref (H.length+5),.ref (H.length+6)]])).set (H.length+1) (.cell (some (.ref (H.length+5))))).set H.length (.cell (some (.ref (H.length+6)))))[n]? =some o:=λe h=>fY (f:=sP) g2 rfl (fY (f:=sP) g1 rfl e h) h
 refine u4 (by kernel_rfl) (xI _) g1 (u4 (by kernel_rfl) (uO _) g2 (k _ ⟨ts,lt,[Fn,Ju,.tup [.ref (H.length+5),.ref (H.length+6)]],?_,hr.mono λn x e=>two (up e) rfl,lo.mono λn x e=>two (up e) rfl,hl,two Up.at rfl,two Up.at rfl,bc (bI _),bF _,gH _⟩));rw[Up.set];exact Up.set (k:=0)
end
section
variable{X:Hp}
variable{nk no ny il ir f0:Nat}{kvo:List (ax×AV)}{ab:ax->Option (List ax)}{dys:List (List AV)}{lv rv lv' rv':List AV}{rows' rows₁:Rw}{cs:List ax}
noncomputable def uQ(n:Nat):List (ax×Nat):=(qT (f9 n).cl (BK dY).names []).getD []
theorem Le(n:Nat):qT (f9 n).cl (BK dY).names []=some (uQ n):=by kernel_rfl
theorem Ld(n:Nat):(Fo (uQ n)).cl.lookup (ji "days")=some (n+3):=by kernel_rfl
theorem Lb(n:Nat):(Fo (uQ n)).cl.lookup (ji "left")=some (n+1):=by kernel_rfl
theorem HD(n:Nat):(Fo (uQ n)).cl.lookup (ji "right")=some n:=by kernel_rfl
theorem Xx:C0 (Fp dY)=true:=by kernel_rfl
theorem MC:(rangeKs (0:Int) (5 - 0:Int).toNat).map AV.int=x5:=by kernel_rfl
theorem xU(h:j<n):eT (j:Int) n=some j:=by
 unfold eT;dsimp only;rw[if_neg (nV.mpr (cx j)),if_pos (by rw[aM,decide_eq_true_eq,decide_eq_true_eq];exact⟨cx j,dH.mpr h⟩)];rfl
noncomputable def vZ:AO->Bool
 |.tab _ _=>true
 |_=>false
theorem Up.tabs{lt':Lt}{T:Hp}(h:nk<H.length):(Up H l nk ts lt T).set nk (.tab 300 lt')=Up H l nk ts lt' T:=by
 unfold Up;rw[fo _ _ (by rw[bO,bO];exact h),iU]
inductive Vn(n:Nat)(X:Hp)(kn:Nat):Prop
 |mk(c:Nat)(h1:X[kn]? =some (.lam dY vS (uQ n) c))(h2:X[c]? =some (.code vS)):Vn n X kn
theorem PD{F:KV}{la:Nat}{sp:Sp}(a2:nk<H.length)(f:Fm H l nk ny na il ir xv lv rv rows X)(hla:X[la]? =some (.lst x5))(k:∀X kn,Fm H l nk ny na il ir xv lv rv rows X->X[la]? =some (.lst x5)->Vn H.length X kn->F (.ref kn) X):Es (iQ sp) (f9 H.length) dY (Fp dY) (BK dY) (ol dY) X F:=by
 obtain⟨ts,lt,T,e,r,lo,hl,h1,h2,ne,b1,b2⟩:=f;have ht:X[nk]? =some (.tab 300 lt):=e▸Up.tab a2;refine aw (x:=(300,vS)) rfl ⟨⟨rfl,Xx⟩,aw (Le _) ⟨nk,lt,ht,?_⟩⟩;rcases lo with rfl|⟨c,rfl,hc⟩
 ·show F (.ref (X.length+1)) (X.set nk (.tab 300 [((ol dY).line,(ol dY).col,X.length)])++[.code vS,.lam dY vS (uQ H.length) X.length])
  have up:∀{n:Nat}{o:AO},X[n]? =some o->vZ o=false->(X.set nk (.tab 300 [((ol dY).line,(ol dY).col,X.length)])++[.code vS,.lam dY vS (uQ H.length) X.length])[n]? =some o:=λe h=>ba (fY (f:=vZ) ht rfl e h)
  have c1:(X.set nk (.tab 300 [((ol dY).line,(ol dY).col,X.length)])++[.code vS,.lam dY vS (uQ H.length) X.length])[X.length]? =some (.code vS):=by rw[bp (by rw[bO];exact bF _),bO,fW];rfl
  have c2:(X.set nk (.tab 300 [((ol dY).line,(ol dY).col,X.length)])++[.code vS,.lam dY vS (uQ H.length) X.length])[X.length+1]? =some (.lam dY vS (uQ H.length) X.length):=by rw[bp (by rw[bO];exact gH _),bO,bS];rfl
  refine k _ _ ⟨ts,[((ol dY).line,(ol dY).col,X.length)],T++[.code vS,.lam dY vS (uQ H.length) X.length],?_,r.mono λn x e=>up e rfl,.inr ⟨_,rfl,c1⟩,hl,up h1 rfl,up h2 rfl,ne,b1,b2⟩ (up hla rfl) ⟨_,c2,c1⟩;rw[e,Up.tabs a2,Up.app];rfl
 ·have am:Pc (ol dY) [((ol dY).line,(ol dY).col,c)]=some c:=by
   simp only [Pc];rw[beq_self_eq_true,beq_self_eq_true];rfl
  unfold La;rw[am];have f':Fm H l nk ny na il ir xv lv rv rows X:=⟨ts,_,T,e,r,.inr ⟨c,rfl,hc⟩,hl,h1,h2,ne,b1,b2⟩;exact k _ _ (f'.app _) (ba hla) ⟨c,bA,ba hc⟩
theorem PE{kn:Nat}{l0 r0:List AV}{ln rn:Int}(fx:lD H l nk na no ny nt d kva kvo ab dys)(f:Fm H l nk ny na il ir xv (l0++[.int ln]) (.int rn::r0) rows X)(a:Vn H.length X kn)(hj:j<5)(hk:I8 dys ln rn kf j){K':KV}(k:K' (.int (kf j)) X):VV kn [.int j] X K':=by
 obtain⟨c,q1,q2⟩:=a;obtain⟨xs,u,v,e1,hz,hu,hv,e⟩:=hk;obtain⟨q0,q5,q6,q3,q4⟩:=f.cells;have rd:=f.rd fx;obtain⟨dr,y1,y2,y3⟩:=rd.y;obtain⟨nd,y4,y5⟩:=y3 j xs e1;obtain⟨ts,lt,T,_,r,lo,hl,h1,h2,_⟩:=f;refine⟨_,c,q1,q2,rfl,kc (Xv (nd:=nd) (j:=j) (gN (Ld _) q3) (gN (Lb _) q5) (gN (HD _) q0) y1 ?_ ?_ y5 hz (mN h1 rfl) (mN h2 rfl) hu hv ?_ (e▸k)) Xw⟩
 ·rw[aD,y2];exact xU hj
 ·rw[bv,y4];rfl
 ·omega
end
section
variable{X:Hp}
variable{nk no ny il ir f0:Nat}{kvo:List (ax×AV)}{ab:ax->Option (List ax)}{dys:List (List AV)}{lv rv lv' rv':List AV}{rows' rows₁:Rw}{cs:List ax}
theorem bn.len{rows:Rw}(z:bn H ts rows):ts.length=rows.length:=by
 induction z with
 |nil=>rfl
 |cons _ _ _ ih=>exact congrArg eJ ih
theorem bn.snoc{rows:Rw}(z:bn H ts rows){t:Nat}{r:ax×ax}(h:H[t]? =some (.tup [.str r.1,.str r.2]))(s:r.1.length<=1000):bn H (ts++[t]) (rows++[r]):=by
 induction z with
 |nil=>exact .cons h s .nil
 |cons e s' _ ih=>exact .cons e s' ih
theorem Fm.tab(f:Fm H l nk ny na il ir xv lv rv rows X)(fx:lD H l nk na no ny nt d kva kvo ab dys)(hn:l≠nk)(a1:l<H.length):∃ts,TabAt X nt d l ts rows∧ts.length<=1000:=by
 have rd:=f.rd fx;obtain⟨ts,lt,T,e,r,lo,hl,_⟩:=f;exact⟨ts,⟨rd.t,rd.u,e▸Up.lst hn a1,r⟩,hl⟩
theorem Up.lsts{T:Hp}(hn:l≠nk)(h:l<H.length):(Up H l nk ts lt T).set l (.lst (ts'.map AV.ref))=Up H l nk ts' lt T:=by
 unfold Up;rw[fo _ _ (by rw[Up.len];exact h),Pt _ _ hn.symm,iU]
theorem PC{key text:ax}{F:KV}(fx:lD H l nk na no ny nt d kva kvo ab dys)(hn:l≠nk)(a1:l<H.length)(f:Fm H l nk ny na il ir xv lv rv rows X)(hr:rows.length<=900)(c1:fu (aX key))(c2:key.length<=1000)(c3:gZ rows (aX key)= .none)(c4:fu key)(c5:fu text)(k:∀X,B6 H l nk (rows++[(key,text)]) X->F (.str text) X):Kt [.ref nt,.str key,.str text] [] X F:=by
 have rd:=f.rd fx;obtain⟨ts,lt,T,e,r,lo,hl,_⟩:=f;have hll:X[l]? =some (.lst (ts.map AV.ref)):=e▸Up.lst hn a1;have hg:=ba (τ:=[AO.tup [.str key,.str text]]) hll;have hl2:ts.length<=900:=r.len▸hr;refine .new nt d l ts rows key text rfl ⟨rd.t,rd.u,hll,r⟩ hl c1 c2 c3 c4 c5 (k _ ⟨ts++[X.length],lt,rD (some (.ref ir)) (some (.ref il)) xv ny na T++[.tup [.str key,.str text]],?_,?_,lo.mono λn x e=>fY (f:=Tg) hg rfl (ba e) rfl,?_⟩)
 ·have e2:(ts++[X.length]).map AV.ref=ts.map AV.ref++[.ref X.length]:=b6
  have e4:X++[AO.tup [.str key,.str text]]=Up H l nk ts lt (rD (some (.ref ir)) (some (.ref il)) xv ny na T++[.tup [.str key,.str text]]):=e▸Up.app;rw[<-e2,e4];exact Up.lsts hn a1
 ·exact(r.mono λn x e=>fY (f:=Tg) hg rfl (ba e) rfl).snoc (fY (f:=Tg) hg rfl bA rfl) c2
 ·rw[aK];exact aq (fC hl2 1) (by decide)
theorem Cy(f:Int->ax):∀ns:List Int,ns.filterMap (λk=>some (AV.str (f k)))=dI (ns.map f)
 |[]=>rfl
 |a::l=>congrArg (AV.str (f a)::·) (Cy f l)
theorem J6{ns:List Int}{z:Int}{dy:Int}{zn:Nat}(fx:lD H l nk na no ny nt d kva kvo ab dys)(hn:l≠nk)(a1:l<H.length)(f:Fm H l nk ny na il ir xv lv rv rows (X++[.lst (ns.map AV.int)]))(hz:zn=X.length)(hkp:kp.length<=200)(hns:ns.length<=200)(hlg:∀n∈ns,n.natAbs.log2<1920)(hj:iF (ji " ") (ns.map λk=>aa (oS k))=true)(hr:rows.length<=900)(c1:fu (aX (pQ kp)))(c2:(pQ kp).length<=1000)(c3:gZ rows (aX (pQ kp))= .none)(c4:fu (pQ kp))(c5:fu (ut ns))(ez:gW (ut ns)=some z)(hb:(ut ns).length<=640)(k:∀X,B6 H l nk (rows++[(pQ kp,ut ns)]) X->K (.int z) X):fb (f9 H.length) (ji "between") (.ref zn) (Ñ kp no nt dy) (X++[.lst (ns.map AV.int)]) λm h=>cg (f9 H.length) (iQ (kH f0)) 8 [qp 6] m h (dT K):=by
 subst hz;obtain⟨ts,t,hl⟩:=f.tab fx hn a1;have two:(ji "xX").length=2:=by kernel_rfl
 have f1:=d5 (kp.length:Int) (b:=2) (by decide);have f2:=fe (kp.length:Int) (b:=2) (by decide);have hk:(gj (ji "xX") ((kp.length:Int).fmod 2)).length+kp.length<=aF:=by
  have e:(pQ kp).length=(gj (ji "xX") ((kp.length:Int).fmod 2)).length+kp.length:=sX _ _;exact e▸aq c2 (ae rfl)
 refine kc (aw t.ty (aw (x:=fD 253) rfl ⟨dQ (fj.mpr hkp) (by decide),by decide,⟨⟨f1,two▸f2⟩,aq (bP two) (by decide)⟩,hk,ga [] PP PO (aw bA (bX ?_))⟩)) PR;have e1:(ns.map AV.int).map IT.val=ns.map λk=>IT.val (.int k):=da
 rw[e1];refine⟨?_,pM (its:=[]) λq=>ff (λk:Int=>IT.val (.int k)) (λk=>some (AV.str (aa (oS k)))) (λk=>k.natAbs.log2<1920) (λw p=>u6 p) (λk hk Y N y w=>kc ⟨hk,y _ rfl⟩ PN) ns _ hlg (uH ?_)⟩
 ·rw[aD];exact aq hns (ae rfl)
 ·rw[Cy]
  exact aw (iR rfl) (aw (kJ _) (aQ hj (PC fx hn a1 (f.app _) hr c1 c2 c3 c4 c5 λX s=>aw ez (aQ hb (k X s)))))
end
variable{d':Nat}
section
variable{X:Hp}
variable{nk no ny il ir f0:Nat}{kvo:List (ax×AV)}{ab:ax->Option (List ax)}{dys:List (List AV)}{lv rv lv' rv' l0 r0:List AV}{rows' rows₁:Rw}{cs:List ax}{ln rn u:Int}{dy:Nat}{ns:List Int}
theorem UY{x:Int}{G:Int->Prop}(k:G x):lB (.int x) G:=k
theorem pW{cc:Int->Int->Bool}{x r:Int}{xs:List AV}{F:KV}(h:cH fG X n=some xs)(hz:(xs.length:Int)<2^63)(hr:g5 (cc x) xs 64 0 xs.length=some r)(k:F (.int r) X):tj cc [.ref n,.int x] [] X F:=aw h ⟨hz,aw hr k⟩
theorem item_last{xs:List AV}{F:KV}(h:cH fG X n=some (xs++[a]))(k:F a X):vv (.ref n) (.int (-1)) X F:=aQ (by decide) (aw (pe h) (aw oq (aw bA k)))
theorem BM{xs:List AV}{F:KV}(h:cH fG X n=some (a::xs))(k:F a X):vv (.ref n) (.int 0) X F:=aQ (by decide) (aw (pe h) (aw zE (aw (x:=a) rfl k)))
theorem FN{K:KS}(fx:lD H l nk na no ny nt d kva kvo ab dys)(f:Fm H l nk ny na il ir xv (l0++[.int ln]) (.int rn::r0) rows X)(hy:dy<5)(hx:dys[dy]? =some xs)(hz:xs.length<=1000)(hu:g5 (cR ln) xs 64 0 xs.length=some u)(hv:g5 (cL rn) xs 64 0 xs.length=some v)(hb:jJ xs (some u) (some v) none=ns.map AV.int)(k:fb (f9 H.length) (ji "between") (.ref X.length) (Ñ kp no nt dy) (X++[.lst (ns.map AV.int)]) λm h=>cg (f9 H.length) (iQ (kH f0)) 8 r m h K):fb (f9 H.length) (ji "day") (.int dy) (pa kp no nt) X λm h=>cg (f9 H.length) (iQ (kH f0)) 8 (qp 5::r) m h K:=by
 obtain⟨q0,q5,q6,q3,q4⟩:=f.cells;obtain⟨dr,y1,y2,y3⟩:=(f.rd fx).y;obtain⟨nd,y4,y5⟩:=y3 dy xs hx;obtain⟨ts,lt,T,_,_,_,_,h1,h2,_⟩:=f;have hi: -(2^63)<=(dy:Int)∧(dy:Int)<2^63:=⟨gJ (by decide) (cx dy),Int.lt_trans (dH.mpr hy) (by decide)⟩;have hix:eT (dy:Int) (dr.map AV.ref).length=some dy:=by rw[aD,y2];exact xU hy
 have hge:(dr.map AV.ref)[dy]? =some (.ref nd):=by rw[bv,y4];rfl
 have day:∀{F:KV},F (.ref nd) X->vv (.ref ny) (.int dy) X F:=λk=>aQ hi (aw (pe y1) (aw hix (aw hge k)))
 have hz':(xs.length:Int)<2^63:=dQ (fj.mpr hz) (by decide);have sl:∀{F:KV},F (.ref X.length) (X++[.lst (ns.map AV.int)])->Wg (.ref nd) (some u) (some v) none X F:=λ{F} k=>aw y5 (aQ ⟨(λe=>aJ e),aq hz (ae rfl)⟩ (bX (k:=λys=>F (.ref X.length) (X++[.lst ys])) (hb▸k)))
 exact kc (aw (gN (tU _) q3) (day (aw (gN (tU _) q3) (day (aw (gN (xI _) q5) (aQ rfl (item_last (mN h1 rfl) (pW y5 hz' hu (aw (gN (tU _) q3) (day (aw (gN (uO _) q0) (BM (mN h2 rfl) (pW y5 hz' hv (UY (sl k))))))))))))))) PS
theorem PH{K:KS}(fx:lD H l nk na no ny nt d kva kvo ab dys)(a2:nk<H.length)(f:Fm H l nk ny na il ir xv (l0++[.int ln]) (.int rn::r0) rows X)(hk:∀j:Nat,j<5->I8 dys ln rn kf j)(hd:g5 (λy=> !decide (kf y<1)) x5 64 0 5=some (dy:Int))(k:∀X,Fm H l nk ny na il ir xv (l0++[.int ln]) (.int rn::r0) rows X->fb (f9 H.length) (ji "day") (.int dy) (pa kp no nt) X λm h=>cg (f9 H.length) (iQ (kH f0)) 8 r m h K):cg (f9 H.length) (iQ (kH f0)) 8 (qp 4::r) (pa kp no nt) X K:=by
 refine kc (aw (iR (f:=Ù) rfl) ⟨⟨⟨by kernel_rfl,by kernel_rfl⟩,by decide⟩,?_⟩) PT;rw[MC];refine bX (PD a2 ((f.app [.rng 0 5]).app [.lst x5]) bA λX kn f hla la=>.mk _ kn 1 dy kf x5 rfl rfl (mN hla rfl) (by decide) (λy hy K' kk=>?_) hd (k X f))
 have:∃j:Nat,j<5∧y=(j:Int):=by
  have hy:some y∈[some (0:Int),some 1,some 2,some 3,some 4]:=cZ (f:=mE) hy;simp only [aE,Option.some.injEq,iV,or_false]at hy;rcases hy with rfl|rfl|rfl|rfl|rfl
  ·exact⟨0,by decide,rfl⟩
  ·exact⟨1,by decide,rfl⟩
  ·exact⟨2,by decide,rfl⟩
  ·exact⟨3,by decide,rfl⟩
  ·exact⟨4,by decide,rfl⟩
 obtain⟨j,hj,rfl⟩:=this;exact PE fx f la hj (hk j hj) kk
noncomputable def NY:List ax:=[ji "kept",ji "above",ji "owner",ji "days",ji "table"]
theorem Yh:(hp w.params).lookup 303=some (fO (q "_law_worth") (q "_law_worth") (fA (mS 30)) (fB (mS 30)) (fS (mS 30)) (.none) (.none) (q "law_ti0074_01") 683 302):=by kernel_rfl
theorem YA:dP (hp w.params) (.ref 302) (q "_law_worth")=true:=by kernel_rfl
theorem HI:gg w (.ref 303)=true:=(by kernel_rfl:gi (hp w.params) (.ref 303)=true)
theorem J7{kp:ax}{na no ny nt:Nat}:(hW (fS (mS 30)).names (NY.zip [.str kp,.ref na,.ref no,.ref ny,.ref nt]),iZ (NY.zip [.str kp,.ref na,.ref no,.ref ny,.ref nt]) (cj (fS (mS 30)).names))=(vT kp no nt [],rD none none none ny na []):=by kernel_rfl
theorem J4{kp:ax}{z:Int}(h1:H[l]? =some (.lst (ts.map AV.ref)))(h2:H[nk]? =some (.tab 300 lt))(r:bn H ts rows)(lo:yr H lt)(hl:ts.length<=1000)(fx:lD H l nk na no ny nt d kva kvo ab dys)(e:B5 ab kvo dys (f0+1) kp rows z rows')(k:∀X,B6 H l nk rows' X->K (.int z) X):cg (f9 H.length) (iQ (kH f0)) 8 (bd 30) (vT kp no nt []) (H++rD none none none ny na []) (dT K):=by
 have e0:bd 30=[qp 0,qp 1,qp 2,qp 3,qp 4,qp 5,qp 6]:=by kernel_rfl
 have hn:l≠nk:=λi=>by subst i;exact bj ((congrArg (λo:Option AO=>o.any vZ) (h1.symm.trans h2)))
 have a1:=(aH.mp h1).1;have a2:=(aH.mp h2).1;have eX:H++rD none none none ny na []=Up H l nk ts lt (rD none none none ny na []):=by
  have:=Up.self h1 h2
  conv=>lhs;rw[<-this]
  exact Up.app
 have r':bn (H++rD none none none ny na []) ts rows:=r.mono λy y=>ba
 have lo':yr (H++rD none none none ny na []) lt:=lo.mono λy y=>ba
 rw[e0];rw[eX]at r' lo' ⊢;have rd:=fx ts lt (rD none none none ny na []);have t:TabAt (Up H l nk ts lt (rD none none none ny na [])) nt d l ts rows:=⟨rd.t,rd.u,Up.lst hn a1,r'⟩;have ask:∀{F:KV},Ny kp->F (gZ rows (aX (Fk kp))) (Up H l nk ts lt (rD none none none ny na []))->aG (qr (.ref nt) (Up H l nk ts lt (rD none none none ny na []))) λty=>aG (iJ (iQ (kH f0)).meths ty (aa "get")) λg=>kp.length<=5592405∧(aa "x").length+(cX kp).length<=aF∧(iQ (kH f0)).call (.val g) [.ref nt,.str (aa "x"++cX kp)] (Up H l nk ts lt (rD none none none ny na [])) F:=λn k=>aw t.ty (aw (x:=fD 210) rfl ⟨aq n.a (by decide),by
  have e:(Fk kp).length=(aa "x").length+(cX kp).length:=sX _ _;exact e▸aq n.b (ae rfl),NE.mk nt d l ts rows (Fk kp) rfl t hl n.c n.b k⟩)
 have e:yq (B5 ab kvo dys f0) ab kvo dys kp rows z rows':=e;cases e with
 |old b n e ez hb er=>
  subst er;refine kc (ask n ?_) FT;rw[e];exact kc (Br.t (aw ez ⟨hb,k _ ⟨ts,lt,_,rfl,r',lo',hl⟩⟩)) P3
 |new lv rv rows₁ l0 r0 ln rn kf dy xs u v ns n en lp hl' hr hk hd hy hx hz hu hv hb hns hlg hj c1 c2 c3 c4 c5 ez hb2 hrl er=>
  subst er hl' hr;refine kc (ask n ?_) FT;rw[en];exact kc (Br.f (J3 r' lo' hl λX f=>J5 fx hn a1 a2 n.a f lp λX xv f=>PH fx a2 f hk hd λX f=>FN fx f hy hx hz hu hv hb (J6 fx hn a1 (f.app _) rfl n.a hns hlg hj hrl c1 c2 c3 c4 c5 ez hb2 k))) P0
theorem ve.up{d:Nat}{L:Lc}(h:ve w mean mg mb d L)(hd:d<=d'):ve w mean mg mb d' L:=⟨λΓ ρ P m H s Q E n f as vs K a b=>h.go Γ ρ P m H s Q E n f as vs K (bh (aU hd _) a) (bh (aU (g7 _ hd) _) b),h.keep⟩
theorem M2{d:Nat}(hd:Γ.dp+d<aP)(hu:Γ.un+8*d<df)(h:aN 4 d=true):iA Γ (.ref 95,ZA):=
 ⟨λρ P m H s Q E as vs ks kv K k R r rk b=>by
  cases ks with
  |nil=>exact(Ab.sp Eu hd hu (bk (aq (by decide) (ae h)))).go ρ P m H s Q E as vs [] kv K k R r rk b
  |cons x ks=>exact((ZB (d:=2) FS).sp Eu hd hu h).go ρ P m H s Q E as vs _ kv K k R r rk b,Eu⟩
theorem FP:∀f,f7 w mean mg mb (2*f+7) 303 (kH f)
 |0=>λΓ ρ P m H s Q E as vs ks kv K hd hu q R r rk b=>jq.el (C:=λkv=>aL (cJ w) Γ.A (bH (.ref 303) vs kv) Q E s) q rk λq=>by
  obtain⟨_,_,_,_,_,_,_,_,_,_,_,_,_,_,_,_,_,_,_,_,_,_,_,_,e,_⟩:=q;exact e.elim
 |f+1=>by
  have wf:=FP f;refine(yh (d:=2*f+7) (T:=iQ (kH f)) NY (qY 5 NY []) Yh YA (by kernel_rfl) (λ{s ρ as vs ks nv kv} X r rk e=>by
  unfold qY at e;induction rk with
  |cons=>exact aJ e
  |nil=>
   cases hl:aW as.length 5 with
   |false=>rw[hl]at e;exact aJ e
   |true=>
    rw[hl]at e;obtain rfl:=aj e;have hl:=aZ hl;rw[be];refine⟨tF (bP hl.symm),NY.zip vs,?_,r.zip NY⟩;exact eH (C:=λvs=>iX s _ ⟨vs,[]⟩ (NY.zip vs)) (r.len.trans hl) λa t h=>eH h λb t h=>eH h λc t h=>eH h λd t h=>eH h λe t h=>kL h (dz (by kernel_rfl))) (λΓ hd hu hc=>BE hd hu (.cons (Dm.sp zv hd hu (bk (by omega))) (.cons (Og.sp HK hd hu (bk (by omega))) (.cons (wf.sp HI hd hu (bk (by omega))) (.cons (Mi.sp Ĵ hd hu (bk (by omega))) (.cons (Mj.sp ĳ hd hu (bk (by omega))) (.cons (u5.sp HH hd hu (bk (by omega))) (.cons (M2 hd hu (bk (by omega))) (.cons Mh (.cons lS (.cons K5 (.cons Bh (.cons pP (.cons qN (.cons V1 .nil)))))))))))))) (.cons (jv (by kernel_rfl) λy y=>by kernel_rfl) (.cons (jv (by kernel_rfl) λy y=>by kernel_rfl) (.cons mj (.cons mu .nil)))) (λy y e=>aJ e) (FS.up (by omega)) λp e=>?_) λas ks H K h=>?_).fn
  ·obtain rfl:=aj e
   refine⟨?_,302,hc.1,yz Γ.X (by kernel_rfl)⟩;show vS=(Γ.cn++".<locals>.")++"<lambda>";rw[hc.2]
   kernel_rfl
  ·cases ks with
   |cons=>exact h.elim
   |nil=>
    obtain⟨kp,na,no,ny,nt,d,l,nk,ts,lt,kva,kvo,ab,dys,rows,rows',z,rfl,h1,h2,r,lo,hl,fx,e,k⟩:=h;refine aw (x:=NY.zip [.str kp,.ref na,.ref no,.ref ny,.ref nt]) (by kernel_rfl) λΓ ρ τ P s Q E O N R hl' b=>?_
    have ec:=J7 (kp:=kp) (na:=na) (no:=no) (ny:=ny) (nt:=nt);have R':bM Γ (ρ++τ) P (vT kp no nt []) (H++rD none none none ny na []) s:=by
     rw[(j6 ec).1,(j6 ec).2]at R;exact R
    exact kY O 8 _ _ _ _ (J4 h1 h2 r lo hl fx e k) (ρ++τ) P _ _ _ N R' λf g m H ρ' s' x=>b f g m H ρ' s' (dg.trans ⟨τ,rfl⟩ x)
end
variable{first:List ar}{X:Nm->Hp->Prop}
variable{ρ':List aI}{s':aC}{en:En}
section
variable{msg:ax}{KX:Hp->Prop}{e:ar}{ev:Ev}{tr:Tr}
theorem bM.fly(R:bM Γ ρ P m H s)(x:dg ρ ρ')(f:v8 Γ ρ' P m msg KX e s'):v8 Γ ρ P m msg KX e s':=by
 obtain⟨τ,rfl⟩:=x;obtain⟨mm,_,_,q,_,_⟩:=R.dy;exact f.ext ⟨τ,rfl⟩ λz q'=>q.down q'
abbrev VI:=List AV->Nm->Hp->(Hp->Prop)->Prop
def Ak(w:gf)(mean:jj->Option ar)(mg mb:ax->Option ar)(d:Nat)(f:aI)(msg:ax)(spec:VI):Prop:=
 ∀(Γ:Wk w mean mg mb)(ρ:List aI)(P:mh)(m:Nm)(H:Hp)(s:aC)(Q E:ar->aC->Prop)(as:List AV)(vs:List ar)(ks:Nm)(kv:List (ax×ar))(KX:Hp->Prop),Γ.dp+d<aP->Γ.un+8*d<df->spec as ks H KX->bM Γ ρ P m H s->bB ρ as vs->cW ρ ks kv->(∀e s',v8 Γ ρ P m msg KX e s'->E e s')->aL (cJ w) Γ.A (bH (.ref f) vs kv) Q E s
theorem Vq.rx{f:aI}{spec:VI}(h:Vq w mean mg mb d f msg λas ks H z KX=>spec as ks H KX):Ak w mean mg mb d f msg spec:=λΓ ρ P m H s Q z as vs ks kv KX hd hu q R r rk hE=>uj (h Γ ρ P m H s Q _ as vs ks kv (λz z=>False) KX hd hu q R r rk (λz z z z z z z z k=>k.elim) (λz z h=>h) hE)
abbrev XC:=AV->List AV->Nm->Hp->Prop
def lC(Γ:Wk w mean mg mb)(P:mh)(m:Nm)(msg:ax)(KX:Hp->Prop)(C:XC):Prop:=
 ∀(ρ:List aI)(H:Hp)(s:aC)(Q E:ar->aC->Prop)(g:AV)(v:ar)(as:List AV)(vs:List ar)(ks:Nm)(kv:List (ax×ar)),C g as ks H->bM Γ ρ P m H s->db ρ g v->bB ρ as vs->cW ρ ks kv->(∀e s',v8 Γ ρ P m msg KX e s'->E e s')->Kp w s.heap v∧aL (cJ w) Γ.A (bH v vs kv) Q E s
noncomputable def DV(f:aI)(spec:VI)(KX:Hp->Prop):XC:=λg as ks H=>DG g λv=>we v (.ref f)=true∧spec as ks H KX
theorem lC.fn{f:aI}{spec:VI}(h:Ak w mean mg mb d f msg spec)(hk:gg w (.ref f)=true)(hd:Γ.dp+d'<aP)(hu:Γ.un+8*d'<df)(hb:aN d d'=true):lC Γ P m msg KX (DV f spec KX):=λρ H s Q E g v as vs ks kv k R rg r rk hE=>
 DG.el (C:=λv=>Kp w s.heap v∧aL (cJ w) Γ.A (bH v vs kv) Q E s) k rg λv k=>uC k.1▸⟨ki hk _ R.inn,h Γ ρ P m H s Q E as vs ks kv KX (bh (aU (ae hb) _) hd) (bh (aU (g7 _ (ae hb)) _) hu) k.2 R r rk hE⟩
noncomputable def xT(T:f6)(C:XC):f6:=⟨T.gl,λg as H z=>C g as [] H,λg as x a H z=>C g as [(x,a)] H,T.meths,T.gen,T.tb⟩
theorem z6{C:XC}(hx:lC Γ P m msg KX C)(hev:g6 Γ ev){env:qk}{as:List al}{ks:List mv}{g:AV}{v:ar}{pre:List AV}(hn:eF as=true)(h:qV (xT T C) ev en g as ks m H pre K)(rg:db ρ g v)(rp:bB ρ pre first)(N:dC Γ ρ P en env)(R:bM Γ ρ P m H s)(hE:∀e s',v8 Γ ρ P m msg KX e s'->E e s'):aL (cJ w) Γ.A (JN pos v first (mY pos (ik as env)) (gV pos (ej ks env))) Q E s:=by
 cases ks with
 |nil=>exact iB (P:=λh=>Kp w h v) (by rw[ju hn];rfl) (λh p=>p) (ug hev hn h N R λbs vs H' ρ' s' x r R' k=>hx ρ' H' s' Q E g v _ _ [] [] k R' (rg.mono x) ((rp.mono x).app r) .nil λe s' f=>hE e s' (R.fly x f))
 |cons k ks=>cases ks with
  |cons=>exact h.elim
  |nil=>exact aG.el h λy h e=>iB (P:=λh=>Kp w h v) (by rw[ju hn,uR e];rfl) (λh p=>p) (Ae hev e (K:=λvs a H=>C g (pre++vs) [(y,a)] H) hn h N R λbs vs a u H' ρ' s' x r ra R' k=>hx ρ' H' s' Q E g v _ _ _ _ k R' (rg.mono x) ((rp.mono x).app r) (.cons ra .nil) λe s' f=>hE e s' (R.fly x f))
def u9(Γ:Wk w mean mg mb)(P:mh)(en:En)(msg:ax)(KX:Hp->Prop)(m:Nm)(H:Hp)(e:al):Prop:=∀(ρ:List aI)(s:aC)(Q E:ar->aC->Prop),dC Γ ρ P en Γ.env->bM Γ ρ P m H s->(∀e s',v8 Γ ρ P m msg KX e s'->E e s')->aL (cJ w) Γ.A (eval e Γ.env) Q E s
theorem Xe.call{C:XC}(O:cF Γ T)(hev:g6 Γ ev)(hx:lC Γ P m msg KX C){f:al}{as:List al}{ks:List mv}(h:yY (xT T C) ev tr en (.Call f as ks pos) m H K):u9 Γ P en msg KX m H (.Call f as ks pos):=by
 intro ρ s Q E N R hE;have h:ku (eF as) (match jh f with
   |.one x=>aG (wi en T m H x) λg=>qV (xT T C) ev en g as ks m H [] K
   |.attr o n ap=>ku (ni o as ap pos&&kwOk ks) (ev en o m H λa H=>aG (qr a H) λty=>aG (iJ T.meths ty n) λg=>qV (xT T C) ev en (.val g) as ks m H [a] K)
   |_=>False):=h
 refine ku.el h λh hb=>?_
 have wt:=Bf f;generalize jh f=t at h wt;induction wt with
 |one=>exact aG.el h λg h e=>az (sL O e N R λu r=>z6 hx hev hb h r .nil N R hE)
 |@attr o n ap=>
  refine ku.el h λh hm=>?_
  rw[aM]at hm;rw[tR hm.1 hb (Db hm.2 pos Γ.env).1 (Db hm.2 pos Γ.env).2];refine az (hev en Γ.env o m H _ h ρ P s _ E N R λa v H₁ ρ₁ s₁ x₁ r₁ R₁ k=>az (d6 (az (cE ?_))));exact aG.el k λty k e1=>aG.el k λg k e2=>O.meth _ (oJ e2) ρ₁ P m H₁ s₁ _ E a v _ e1 R₁ r₁ (z6 hx hev hb k (.val g) (.cons r₁ .nil) (N.mono x₁) R₁ λe s' f=>hE e s' (R.fly x₁ f))
 |_=>exact h.elim
theorem Xe.arg(O:cF Γ T)(hev:g6 Γ ev){o e:al}{n:ax}{ap:kF}{X:Hp->Prop}(hm:ni o [e] ap pos=true)(hn:eF [e]=true)(h:ev en o m H λa H=>aG (qr a H) λty=>aG (iJ T.meths ty n) λy=>X H)(he:∀H',X H'->u9 Γ P en msg KX m H' e):u9 Γ P en msg KX m H (.Call (.Attribute o n ap) [e] [] pos):=by
 intro ρ s Q E N R hE;rw[tR hm hn rfl (bC _)];refine az (hev en Γ.env o m H _ h ρ P s _ E N R λa v H₁ ρ₁ s₁ x₁ r₁ R₁ k=>az (d6 (az (cE ?_))));refine aG.el k λty k e1=>aG.el k λg k e2=>O.meth _ (oJ e2) ρ₁ P m H₁ s₁ _ E a v _ e1 R₁ r₁ (iB (P:=λy=>Kp w s.heap v∧False) (by rw[ju hn];rfl) (λh p=>p.2.elim) ?_)
 have z:=sD (pos:=pos) (rest:=[]) (env:=Γ.env) (Q:=λvs s'=>(Kp w s.heap v∧False)∧aL (cJ w) Γ.A (bH g ([v]++vs) []) Q E s') (he H₁ k ρ₁ s₁ _ E (N.mono x₁) R₁ λe s' f=>hE e s' (R.fly x₁ f)) (jW e [] (iH hn).1);rw[jW e [] (iH hn).1]at z ⊢;exact AM z
theorem Xe.pair(hev:g6 Γ ev){a b:al}{X:Hp->Prop}(hn:eF [a,b]=true)(h:ev en a m H λz H=>X H)(he:∀H',X H'->u9 Γ P en msg KX m H' b):u9 Γ P en msg KX m H (.Tuple [a,b] k pos):=λρ s Q E N R hE=>
 Tuple_ (sD (hev en Γ.env a m H _ h ρ P s _ E N R λz v H₁ ρ₁ s₁ x₁ r₁ R₁ k=>sD (he H₁ k ρ₁ s₁ _ E (N.mono x₁) R₁ λe s' f=>hE e s' (R.fly x₁ f)) (jW b [] (iH (iH hn).2).1)) (jW a [b] (iH hn).1))
def tm(Γ:Wk w mean mg mb)(P:mh)(en:En)(msg:ax)(KX:Hp->Prop)(ss:List cP)(m:Nm)(H:Hp):Prop:=∀(ρ:List aI)(s:aC)(Q:lL->aC->Prop)(E:ar->aC->Prop),dC Γ ρ P en Γ.env->bM Γ ρ P m H s->(∀e s',JF Γ ρ P msg KX e s'->E e s')->aL (cJ w) Γ.A (kN ss Γ.env) Q E s
set_option tactic.hygienic true in
noncomputable def kg(X:Nm->Hp->Prop):KS:=λf m H=>match f with
 |.next=>X m H
 |_=>False
set_option tactic.hygienic true in
theorem Xs.next{st:cP}{stx:cP->Nm->Hp->KS->Prop}(hst:Vd Γ en stx)(h:stx st m H (kg X))(hr:∀m' H',X m' H'->tm Γ P en msg KX r m' H'):tm Γ P en msg KX (st::r) m H:=λρ s Q E N R hE=>
 cy (hst st m H _ h ρ P s _ E N R λf g m₁ H₁ ρ₁ s₁ x₁ r₁ R₁ k=>by
  induction r₁ with
  |next=>exact hr m₁ H₁ k ρ₁ s₁ _ E (N.mono x₁) R₁ λe s' o=>hE e s' (o.ext x₁)
  |_=>exact k.elim)
theorem Xs.ifT{t:al}{y n:List cP}(htr:rh Γ tr){X:Hp->Prop}(h:tr en t m H λc H=>c=true∧X H)(hr:∀H',X H'->tm Γ P en msg KX y m H'):tm Γ P en msg KX (.If t y n pos::r) m H:=λρ s Q E N R hE=>
 cy (wpAny_If (htr en Γ.env t m H _ h ρ P s _ E N R λc H₁ ρ₁ s₁ x₁ R₁ k=>by rw[if_pos k.1];exact hr H₁ k.2 ρ₁ s₁ _ E (N.mono x₁) R₁ λe s' o=>hE e s' (o.ext x₁)))
theorem Xs.asg{e:al}{x:ax}{p:kF}(hs:pureOf (jU e (some (.Name x p)) pos.line (th en.nk))=some false)(he:u9 Γ P en msg KX m H e):tm Γ P en msg KX (.Assign [.Name x p] e pos::r) m H:=λρ s Q E N R hE=>
 cy (wpAny_Assign_Name (he ρ s _ E N R λe s' f=>hE e s' (.fly (f.nil (dg.refl ρ)))) ((Ô N e (some (.Name x p)) pos.line).trans (my hs)))
theorem Xs.expr{e:al}(hs:pureOf (jU e none pos.line (th en.nk))=some false)(he:u9 Γ P en msg KX m H e):tm Γ P en msg KX (.Expr e pos::r) m H:=λρ s Q E N R hE=>
 cy (rI (he ρ s _ E N R λe s' f=>hE e s' (.fly (f.nil (dg.refl ρ)))) (by unfold yv;rw[N.kind];rfl) ((Ô N e none pos.line).trans (my hs)))
theorem Xs.raise(O:cF Γ T){np cp p:kF}(hg:wi en T m H (aa "ValueError")=some (.val (.type "ValueError")))(hk:KX H):tm Γ P en msg KX (.Raise (some (.Call (.Name (aa "ValueError") np) [.Constant (.str msg) k p] [] cp)) none pos::r) m H:=λρ s Q E N R hE=>
 cy (Raise_madeB PySem.F.excCall_ValueError PySem.F.excRaise_ValueError rfl (sL O hg N R λv rv=>db.V (C:=λv=>v= .type "ValueError"∧_) rv ⟨rfl,sD (FF (args_nil ⟨ae rfl,λh' e x=>hE _ _ (.mad ⟨e,_,m,H,ρ,_,h',rfl,rfl,R.tk _,dg.refl ρ,Heap.MadeExc.of x,hk⟩)⟩))⟩))
end
variable{spec:VI}
section
variable{msg:ax}{KX:Hp->Prop}{ev:Ev}{tr:Tr}
noncomputable def mf:ax:=aa "Control characters not allowed in headers"
noncomputable def pj:ax:=aa "lo must be non-negative"
theorem y9{f:aI}{nm:ax}{st:cP}{dV:ar}{c:Nat}{T:f6}(xs:List ax)(bnd:List AV->Nm->Option Nm)(ho:(hp w.params).lookup f=some (fO nm qn (fA st) (fB st) (fS st) dV kV pm pt c))(hcd:dP (hp w.params) (.ref c) qn=true)(hs:sb (fS st) xs=true)(hc:cj (fS st).names=[])
  (hb:∀{s:aC}{ρ:List aI}{as:List AV}{vs:List ar}{ks nv:Nm}{kv:List (ax×ar)},(hp w.params).In s.heap->bB ρ as vs->cW ρ ks kv->bnd as ks=some nv->nv.map (·.1)=xs∧∃bs,iX s (ul nm qn (fA st) (fB st) (fS st) dV kV .none (.str pm pt) none (.ref c) .none) ⟨vs,kv⟩ bs∧cW ρ nv bs)
  (hT:∀Γ:Wk w mean mg mb,Γ.dp+(d+1)<aP->Γ.un+8*(d+1)<df->cF Γ T)
  (main:∀as ks H KX,spec as ks H KX->aG (bnd as ks) λnv=>∀(Γ:Wk w mean mg mb)(P:mh),Γ.dp+(d+1)<aP->Γ.un+8*(d+1)<df->cF Γ T->tm Γ P ⟨(fS st).names,[],none⟩ msg KX (fB st) (hW (fS st).names nv) H):
  Ak w mean mg mb (d+2) f msg spec:=
 (z5 (I:=λΓ=>(Γ.dp+(d+1)<aP∧Γ.un+8*(d+1)<df)∧cF Γ T) xs bnd ho hcd hs hb (λΓ hd hu z=>⟨⟨hd,hu⟩,hT Γ hd hu⟩) λas ks H K KX h=>aG.el (main as ks H KX h) λnv h e=>aw e λΓ ρ τ P s Q E O N R hl b hE=>by
  rw[hc]at N R;have e:H++iZ nv []=H:=be H;rw[e]at R;obtain rfl:τ=[]:=ch (qg (m:=τ.length) (k:=0) ((aK.symm.trans (R.ly.ln.trans hl.symm)).trans rfl));rw[be]at N R hE;exact h Γ P O.1.1 O.1.2 O.2 _ s Q E N R hE).rx
end
section
section
variable{M:E6}{A:dR}
theorem Iu{m:lJ}{Q:lJ->aC->Prop}(h:(m.runFor 4).outcome=some .matched)(hQ:Q (m.runFor 4) s):aL M A (kA (n+1) m) Q E s:=by
 unfold kA;dsimp only;rw[show vq=4 from rfl,h];exact aV hQ
theorem Ue{m:lJ}{Q:Option lJ->aC->Prop}(h:(m.runFor 4).outcome=some .matched)(hQ:Q (some (m.runFor 4)) s):aL M A (jt m) Q E s:=by
 unfold jt;refine az (Iu (n:=2^64 - 1) h ?_);refine az (eQ (wpAny_forIn_list _ (λz z s'=>s'=s) (λz s'=>s'=s) (λx rest b s' hs=>?_) (λz z hs=>hs) _ _ rfl) (λz s' hs=>?_) λz z e=>e)
 ·subst hs
  split
  ·exact az (pC (aV rfl))
  ·exact aV rfl
 ·subst hs
  rw[h];exact aV hQ
theorem Ef{p v:ar}{a b:Nat}{m:lJ}{Q:ar->aC->Prop}(hQ:∀T fs,Q (.ref (s.heap.objs.size+1)) {s with heap:=(s.heap.push (iy T)).push ⟨.type "re.Match",none,.fields fs,#[]⟩}):aL M A (vO p v 0 a b m) Q E s:=by
 unfold vO;dsimp only [List.range_zero,List.flatMap_nil,List.any_nil];simp only [eB,if_false];refine az (AF ?_ (ae rfl));refine ed ?_;have e:(s.heap.push (iy [fy m.start,fy m.handed])).objs.size=s.heap.objs.size+1:=fq _ _
 have:=hQ [fy m.start,fy m.handed] #[v,p,fy a,fy b,fy m.lastindex,.ref s.heap.objs.size];rw[<-e]at this;exact this
end
section
variable{prog:eC}{A:dR}
theorem lX{a c:aI}{x:ax}{t:lP}{k:lP}{code:Array Nat}{sl:Array (Option ar)}{Q:ar->aC->Prop}
  (ho:s.heap.get? a=some ⟨.type "re.Pattern",none,.fields #[v0,v1,.int 0 g,v3,v4,.ref c,.int 0 k],sl⟩)(hc:s.heap.get? c=some oc)(hcd:oc.data= .seq codes n)(he:(codes.map kz).map (·.toNat)=code)
  (hm:((rA code x.cps 0 0 (min (2^63 - 1) x.cps.size) false).runFor 4).outcome=some .matched)
  (hQ:∀T fs,Q (.ref (s.heap.objs.size+1)) {s with heap:=(s.heap.push (iy T)).push ⟨.type "re.Match",none,.fields fs,#[]⟩}):aL (dc prog w) A (call (.builtin "re.Pattern.search") [.ref a,.str x t]) Q E s:=by
 have hT:s.TypeIs (.ref a) "re.Pattern":=⟨_,ho,rfl⟩;refine fw nZ hT qR ?_ (pz _ _);unfold b8.«re.Pattern.search»;refine az (ux ho rfl hc hcd he ?_);dsimp only;unfold w5;refine az (Ue hm ?_);refine az (Ef λT o=>?_);exact aV ⟨_,rfl,hQ T o⟩
theorem xB:AG (.type "re.Match") "__bool__"=pure none:=by rw[iO,fh];kernel_rfl
theorem zg:AG (.type "re.Match") "__len__"=pure none:=by rw[iO,fh];kernel_rfl
theorem xf{d:aI}{Q:Bool->aC->Prop}(ho:s.heap.get? d=some o)(hc:o.cls= .type "re.Match")(h:Q true s):aL (dc prog w) A (Pj (.ref d)) Q E s:=by
 have hT:s.TypeIs (.ref d) "re.Match":=⟨o,ho,hc⟩;unfold Pj;refine az (wpAny_callSpecial?_none (name:=aa "__bool__") hT xB ?_);refine az (yJ (name:=aa "__len__") hT zg ?_);exact aV h
end
variable{msg:ax}{KX:Hp->Prop}{ev:Ev}{tr:Tr}
def NB(code:Array Nat)(x:ax):Prop:=((rA code x.cps 0 0 (min (2^63 - 1) x.cps.size) false).runFor 4).outcome=some .matched
inductive B9(v:ar)(x:ax):Prop
 |nm(e:v= .ref 135)(h:NB gR x):B9 v x
 |vl(e:v= .ref 140)(h:NB fT x):B9 v x
noncomputable def OS:Sp:=jq λas H K=>u8 as λa b=>DG a λv=>kE b λx=>B9 v x∧∀o:dU,o.cls= .type "re.Match"->K (.ref H.length) (H++[.raw o])
theorem TJ:iA Γ (.builtin "re.Pattern.search",OS):=.of rfl λρ P m H s Q E as vs K h R r b=>u8.el h r λa va c vc h ra rc=>DG.el (C:=λva=>aL (cJ w) Γ.A (bH (.builtin "re.Pattern.search") [va,vc] []) Q E s) h ra λv h=>kE.el (C:=λvc=>aL (cJ w) Γ.A (bH (.builtin "re.Pattern.search") [v,vc] []) Q E s) h rc λx t h=>R.add λmm l F N fin=>by
 have done:∀T fs,Q (.ref (s.heap.objs.size+1)) {s with heap:=(s.heap.push (iy T)).push ⟨.type "re.Match",none,.fields fs,#[]⟩}:=λT fs=>by
  have up:∀b ob,s.heap.get? b=some ob->((s.heap.push (iy T)).push ⟨.type "re.Match",none,.fields fs,#[]⟩).get? b=some ob:=λb ob e=>aR _ (aR _ e)
  have e1:(s.heap.push (iy T)).objs.size=s.heap.objs.size+1:=fq _ _;have hL:=F.ns.lt;refine b.put (dg.one ρ _) (R.top (s.heap.objs.size+1)) (fin (s.heap.objs.size+1) (.raw ⟨.type "re.Match",none,.fields fs,#[]⟩) _ _ s.toks (λz z=>.raw _) (F.keeps up) (λp hp=>?_) (λp hp=>dF (bw (N p hp).1)) br) (h.2 _ rfl);rcases aE.mp hp with rfl|hp
  ·exact⟨by rw[<-e1];exact bE _ rfl,cu (dF hL),dj (aq F.above (gG (b0 hL)))⟩
  ·exact⟨up _ _ (N p hp).1,(N p hp).2⟩
 rcases h.1 with ⟨rfl,hm⟩|⟨rfl,hm⟩
 ·exact lX (R.dyX 135 _ HZ) (R.dyX 134 _ ON) rfl (by kernel_rfl) hm done
 ·exact lX (R.dyX 140 _ HY) (R.dyX 139 _ OM) rfl (by kernel_rfl) hm done
theorem Xs.ifM{t:al}{y n:List cP}(hev:g6 Γ ev)(he:∀env,isTrue t env (eval t env)=Ē t env){X:Hp->Prop}(h:ev en t m H λa H=>jY a λn=>aG H[n]? λx=>aG (QK x) λo=>o.cls= .type "re.Match"∧X H)(hr:∀H',X H'->tm Γ P en msg KX y m H'):tm Γ P en msg KX (.If t y n pos::r) m H:=λρ s Q E N R hE=>
 cy (wpAny_If (isTrue_plain (hev en Γ.env _ m H _ h ρ P s _ E N R λa v H₁ ρ₁ s₁ x₁ r₁ R₁ k=>jY.el (C:=λv=>aL (cJ w) Γ.A (Pj v) _ E s₁) k r₁ λi c k hc=>aG.el k λx k e=>aG.el k λo k e2=>by
  refine R₁.obj hc e λob r g=>?_
  refine xf g (uD e2 r▸k.1) ?_;rw[if_pos rfl];exact hr H₁ k.2 ρ₁ s₁ _ E (N.mono x₁) R₁ λe s' o=>hE e s' (o.ext x₁)) (he _)))
end
section
variable{msg:ax}{KX:Hp->Prop}{ev:Ev}{tr:Tr}
noncomputable def ifT:cP->al
 |.If t _ _ _=>t
 |_=>.Name (aa "") ⟨0,0,0,0⟩
noncomputable def ā:cP->kF
 |.If _ _ _ p=>p
 |.Expr _ p=>p
 |.Assign _ _ p=>p
 |_=>⟨0,0,0,0⟩
noncomputable def X9(st:cP):cP:=.If (ifT st) (lM st) (X8 st) (ā st)
noncomputable def Ö(l c e:Nat)(msg:ax):cP:=.Raise (some (.Call (.Name (aa "ValueError") ⟨l,c+6,l,c+16⟩) [.Constant (.str msg) 0 ⟨l,c+17,l,e - 1⟩] [] ⟨l,c+6,l,e⟩)) none ⟨l,c,l,e⟩
theorem FM(O:cF Γ T){c e:Nat}(hg:wi en T m H (aa "ValueError")=some (.val (.type "ValueError")))(hk:KX H):tm Γ P en msg KX (Ö l c e msg::r) m H:=Xs.raise O hg hk
inductive Cb(as:List AV)(ks:Nm)(H:Hp)(KX:Hp->Prop):Prop
 |mk(a:AV)(x:ax)(b:Bool)(ea:as=[a,.str x])(ek:ks=[(aa "name",.bool b)])(h:NB (bif b then gR else fT) x)(k:∀T,KX (H++T)):Cb as ks H KX
noncomputable def O7:f6:=oa [(.type "type",Cv),(.builtin "re.Pattern.search",OS)] [mM "re.Pattern" "search"] λz=>none
noncomputable abbrev ë:cP:=sA (lM (sA (cd 1) 0)) 1
noncomputable abbrev Zm(a:AV)(x:ax)(b:Bool):Nm:=hW (fS (cS 1)).names [(aa "self",a),(aa "value",.str x),(aa "name",.bool b)]
theorem UA{x:ax}{b:Bool}{X:Hp->Prop}:(wk O7 8).2 (gK 1) (ifT (sA (cd 1) 0)) (Zm a x b) H (λc H=>c=true∧X H)=(true=true∧X H):=by kernel_rfl
theorem Uz{x:ax}{b:Bool}:k5 (gK 1) O7 (wk O7 8).1 (wk O7 8).2 (cg (gK 1) O7 8) (sA (lM (sA (cd 1) 0)) 0) (Zm a x b) H (kg X)=iw (λK=>Br b (K (.val (.ref 135)) H) (K (.val (.ref 140)) H)) H λr h=>X (UB a x b r) h:=by kernel_rfl
theorem Uy{x:ax}{b:Bool}{X:Hp->Prop}:(wk O7 8).1 (gK 1) (ifT ë) (UB a x b (.val (.ref 135))) H (λa H=>jY a λn=>aG H[n]? λx=>aG (QK x) λo=>o.cls= .type "re.Match"∧X H)=(B9 (.ref 135) x∧∀o:dU,o.cls= .type "re.Match"->aG (H++[AO.raw o])[H.length]? λx=>aG (QK x) λo'=>o'.cls= .type "re.Match"∧X (H++[AO.raw o])):=by kernel_rfl
theorem Ux{x:ax}{b:Bool}{X:Hp->Prop}:(wk O7 8).1 (gK 1) (ifT ë) (UB a x b (.val (.ref 140))) H (λa H=>jY a λn=>aG H[n]? λx=>aG (QK x) λo=>o.cls= .type "re.Match"∧X H)=(B9 (.ref 140) x∧∀o:dU,o.cls= .type "re.Match"->aG (H++[AO.raw o])[H.length]? λx=>aG (QK x) λo'=>o'.cls= .type "re.Match"∧X (H++[AO.raw o])):=by kernel_rfl
theorem H2{v:ar}{x:ax}{X:Hp->Prop}(h:B9 v x)(k:∀T,X (H++T)):B9 v x∧∀o:dU,o.cls= .type "re.Match"->aG (H++[AO.raw o])[H.length]? λx=>aG (QK x) λo'=>o'.cls= .type "re.Match"∧X (H++[AO.raw o]):=aQ h λo ho=>aw bA (aw (x:=o) rfl (aQ ho (k _)))
set_option tactic.hygienic true in
theorem O6:Ak w mean mg mb 2 162 mf Cb:=y9 (T:=O7) [aa "self",aa "value",aa "name"] UT OQ OV (by kernel_rfl) (by kernel_rfl) (λ_ r rk e=>i' r rk e) (λΓ hd hu=>dt (.cons Bd (.cons TJ .nil)) (.cons Hl .nil) λ_ _ e=>aJ e) λas ks H KX h=>by
 obtain⟨a,x,b,rfl,rfl,hh,k⟩:=h;refine aw (x:=[(aa "self",a),(aa "value",.str x),(aa "name",.bool b)]) (by kernel_rfl) λΓ P hd hu O=>?_
 have e0:fB (cS 1)=X9 (sA (cd 1) 0)::(cd 1).drop 1:=by kernel_rfl
 have e1:lM (sA (cd 1) 0)=sA (lM (sA (cd 1) 0)) 0::X9 ë::(lM (sA (cd 1) 0)).drop 2:=by kernel_rfl
 have e2:lM ë=[Ö 205 16 77 mf]:=by kernel_rfl
 rw[e0];have W:=gF O 8;refine Xs.ifT (X:=λh=>h=H) W.2 (kc ⟨rfl,rfl⟩ UA) λ_ e=>e▸e1▸Xs.next (X:=λm h=>h=H∧m=UB a x b (bif b then .val (.ref 135)else .val (.ref 140))) (nX O W.1 W.2 (kY O 8)) (kc (.go ?_) Uz) λm' H' h'=>h'.1▸h'.2▸Xs.ifM (X:=KX) W.1 (λ_=>by kernel_rfl) ?_ λH' k=>e2▸FM O (by kernel_rfl) k
 ·cases b with
  |true=>exact .t ⟨rfl,rfl⟩
  |false=>exact .f ⟨rfl,rfl⟩
 ·cases b with
  |true=>exact kc (H2 (.nm rfl hh) k) Uy
  |false=>exact kc (H2 (.vl rfl hh) k) Ux
noncomputable def EL:VI:=λas ks H KX=>∃l x,as=[.ref l,.int x,.int (-1)]∧ks=[]∧KX H
noncomputable abbrev JD:List ax:=[aa "a",aa "x",aa "lo"]
theorem Zd(ρ:List aI):cW ρ [(aa "hi",.none),(aa "key",.none)] [(aa "hi",.none),(aa "key",.none)]:=.cons .none (.cons .none .nil)
theorem US{x:Int}{X:Hp->Prop}:(wk uP 8).2 (gB 8) (ifT (sA (fB (mS 8)) 0)) (hW (fS (mS 8)).names (JD.zip [.ref l,.int x,.int (-1)]++[(aa "hi",.none),(aa "key",.none)])) H (λc H=>c=true∧X H)=(true=true∧X H):=by kernel_rfl
theorem M0{x:Int}{X:Hp->Prop}:(wk uP 8).2 (gB 10) (ifT (sA (fB (mS 10)) 0)) (hW (fS (mS 10)).names (JD.zip [.ref l,.int x,.int (-1)]++[(aa "hi",.none),(aa "key",.none)])) H (λc H=>c=true∧X H)=(true=true∧X H):=by kernel_rfl
theorem UQ:Ak w mean mg mb 2 77 pj EL:=y9 (T:=uP) (JD++[aa "hi",aa "key"]) (qY 3 JD [(aa "hi",.none),(aa "key",.none)]) TA TK (by kernel_rfl) (by kernel_rfl) (qW (xs:=JD) Zd λs vs X h=>eH h λa r h=>eH h λb r h=>eH h λc r h=>kL h (jD X λz=>by kernel_rfl)) (λΓ hd hu=>oK) λas ks H KX h=>by
 obtain⟨l,x,rfl,rfl,k⟩:=h;refine aw (x:=JD.zip [.ref l,.int x,.int (-1)]++[(aa "hi",.none),(aa "key",.none)]) (by kernel_rfl) λΓ P hd hu O=>?_
 have e0:fB (mS 8)=X9 (sA (fB (mS 8)) 0)::(fB (mS 8)).drop 1:=by kernel_rfl
 have e2:lM (sA (fB (mS 8)) 0)=[Ö 57 8 51 pj]:=by kernel_rfl
 rw[e0];exact Xs.ifT (X:=KX) (gF O 8).2 (kc ⟨rfl,k⟩ US) λH' k=>e2▸FM O (by kernel_rfl) k
theorem UR:Ak w mean mg mb 2 95 pj EL:=y9 (T:=uP) (JD++[aa "hi",aa "key"]) (qY 3 JD [(aa "hi",.none),(aa "key",.none)]) Mr Mt (by kernel_rfl) (by kernel_rfl) (qW (xs:=JD) Zd λs vs X h=>eH h λa r h=>eH h λb r h=>eH h λc r h=>kL h (jD X λz=>by kernel_rfl)) (λΓ hd hu=>oK) λas ks H KX h=>by
 obtain⟨l,x,rfl,rfl,k⟩:=h;refine aw (x:=JD.zip [.ref l,.int x,.int (-1)]++[(aa "hi",.none),(aa "key",.none)]) (by kernel_rfl) λΓ P hd hu O=>?_
 have e0:fB (mS 10)=X9 (sA (fB (mS 10)) 0)::(fB (mS 10)).drop 1:=by kernel_rfl
 have e2:lM (sA (fB (mS 10)) 0)=[Ö 83 8 51 pj]:=by kernel_rfl
 rw[e0];exact Xs.ifT (X:=KX) (gF O 8).2 (kc ⟨rfl,k⟩ M0) λH' k=>e2▸FM O (by kernel_rfl) k
end
variable{es:List al}
section
variable{msg:ax}{KX:Hp->Prop}{ev:Ev}{tr:Tr}
noncomputable def UL:TG->Option (al×List al×List mv)
 |.call f as ks=>some (f,as,ks)
 |_=>none
noncomputable def n_:TG->Option (al×ax×kF)
 |.attr o n p=>some (o,n,p)
 |_=>none
noncomputable def Ø:TG->Option (List al)
 |.row es=>some es
 |_=>none
theorem IF{c:al×List al×List mv}(h:UL (jh e)=some c):e= .Call c.1 c.2.1 c.2.2 e.pos:=by
 have w:=Bf e;generalize jh e=g at h w;induction w with
 |call=>exact aj h▸rfl
 |_=>exact aJ h
theorem U3{c:al×ax×kF}(h:n_ (jh e)=some c):e= .Attribute c.1 c.2.1 c.2.2:=by
 have w:=Bf e;generalize jh e=g at h w;induction w with
 |attr=>exact aj h▸rfl
 |_=>exact aJ h
theorem Q8(h:Ø (jh e)=some es):∃k p,e= .Tuple es k p:=by
 have w:=Bf e;generalize jh e=g at h w;induction w with
 |row=>obtain rfl:=aj h;exact⟨_,_,rfl⟩
 |_=>exact aJ h
theorem Xe.go{C:XC}(O:cF Γ T)(hev:g6 Γ ev)(hx:lC Γ P m msg KX C)(hc:(UL (jh e)).isSome=true)(h:yY (xT T C) ev tr en e m H K):u9 Γ P en msg KX m H e:=by
 cases q:UL (jh e)with
 |none=>rw[q]at hc;exact bj hc
 |some c=>
  have q:=IF q;rw[q]at h ⊢;exact Xe.call O hev hx h
def NX(T:f6)(ev:Ev)(tr:Tr)(en:En)(C:XC)(e:al)(m:Nm)(H:Hp):Prop:=aG (UL (jh e)) λc=>aG (n_ (jh c.1)) λa=>aG (one c.2.1) λx=>ku (ni a.1 [x] a.2.2 e.pos&&(eF [x]&&c.2.2.isEmpty)) (ev en a.1 m H λv H=>aG (qr v H) λty=>aG (iJ T.meths ty a.2.1) λz=>aG (Ø (jh x)) λes=>aG (two es) λp=>ku (eF es) (ev en p.1 m H λz H=>(UL (jh p.2)).isSome=true∧yY (xT T C) ev tr en p.2 m H λz z=>False))
theorem Xe.app{C:XC}(O:cF Γ T)(hev:g6 Γ ev)(hx:lC Γ P m msg KX C)(h:NX T ev tr en C e m H):u9 Γ P en msg KX m H e:=
 aG.el h λc h e1=>aG.el h λa h e2=>aG.el h λx h e3=>ku.el h λh hg=>by
  rw[aM,aM]at hg;have q:=IF e1;rw[U3 e2,lb e3,tG.mp hg.2.2]at q;rw[q];exact Xe.arg (X:=λH=>aG (Ø (jh x)) λes=>aG (two es) λp=>ku (eF es) (ev en p.1 m H λz H=>(UL (jh p.2)).isSome=true∧yY (xT T C) ev tr en p.2 m H λz z=>False)) O hev hg.1 hg.2.1 h λH' h=>aG.el h λes h e4=>aG.el h λp h e5=>ku.el h λh9 hn=>by
   obtain⟨k,ps,rfl⟩:=Q8 e4;rw[pG e5]at hn ⊢;exact Xe.pair (X:=λH=>(UL (jh p.2)).isSome=true∧yY (xT T C) ev tr en p.2 m H λz z=>False) hev hn h9 λH' h=>Xe.go O hev hx h.1 h.2
noncomputable def W_:cP->al
 |.Assign (t::_) _ _=>t
 |_=>.Name (aa "") ⟨0,0,0,0⟩
noncomputable def å:cP->al
 |.Expr e _=>e
 |_=>.Name (aa "") ⟨0,0,0,0⟩
theorem PB{t:al}{x:ax}(ht:RB (jh t)=some x)(hs:pureOf (jU e (some t) pos.line (th en.nk))=some false)(he:u9 Γ P en msg KX m H e):tm Γ P en msg KX (.Assign [t] e pos::r) m H:=by
 obtain⟨p,rfl⟩:=BA ht;exact Xs.asg hs he
inductive ND(as:List AV)(ks:Nm)(H:Hp)(KX:Hp->Prop):Prop
 |mk(n:Nat)(x:ax)(ea:as=[.ref n,.str x])(ek:ks=[])(t:qr (.ref n) H=some "Headers")(hx:x.length<=5592405)(h:NB gR (aX x))(k:∀T,KX (H++T)):ND as ks H KX
noncomputable def YS:f6:=oa [(.builtin "str.lower",zp aX)] [mM "str" "lower",mH "_convert_string_type" 162] λz=>none
theorem YQ{x:ax}:yY (xT YS (DV 162 Cb KX)) (wk YS 8).1 (wk YS 8).2 (gK 8) (gL (sA (cd 8) 0)) (zK n x) H (λz z=>False)=aG (qr (.ref n) H) λty=>aG (iJ YS.meths ty (aa "_convert_string_type")) λg=>x.length<=5592405∧DV 162 Cb KX (.val g) [.ref n,.str (aX x)] [(aa "name",.bool true)] H:=by kernel_rfl
theorem YR:Ak w mean mg mb 3 210 mf ND:=y9 (d:=1) (T:=YS) (gx) (qY 2 [aa "self",aa "name"] [(aa "default",.none)]) OP OU (by kernel_rfl) (by kernel_rfl) (qW (xs:=[aa "self",aa "name"]) (λz=>.cons .none .nil) λs vs X h=>eH h λa r h=>eH h λb r h=>kL h (jD X λz=>by kernel_rfl)) (λΓ hd hu=>dt (.cons Hu .nil) (.cons ml (.cons (jv (by kernel_rfl) λz z=>by kernel_rfl) .nil)) λz z e=>aJ e) λas ks H KX h=>by
 obtain⟨n,x,rfl,rfl,t,hx,hh,k⟩:=h;refine aw (x:=zK n x) (by kernel_rfl) λΓ P hd hu O=>?_
 have e0:fB (cS 8)= .Assign [W_ (sA (cd 8) 0)] (gL (sA (cd 8) 0)) (ā (sA (cd 8) 0))::(cd 8).drop 1:=by kernel_rfl
 have W:=gF O 8;rw[e0];exact PB (x:=aa "name") (by kernel_rfl) (by kernel_rfl) (Xe.go O W.1 (lC.fn O6 zw hd hu rfl) (by kernel_rfl) (kc (aw t (aw (x:=fD 162) rfl ⟨hx,aQ (by kernel_rfl) (.mk (.ref n) (aX x) true rfl rfl hh k)⟩)) YQ))
inductive Nq(as:List AV)(ks:Nm)(H:Hp)(KX:Hp->Prop):Prop
 |mk(n d l:Nat)(ts:List Nat)(rows:Rw)(x v:ax)(ea:as=[.ref n,.str x,.str v])(ek:ks=[])(t:TabAt H n d l ts rows)(hl:ts.length<=1000)(hc:fu (aX x))(hx:x.length<=1000)(e:gZ rows (aX x)= .none)(c1:fu x)(h:NB fT v)(k:∀T,KX (H++T)):Nq as ks H KX
theorem Qs{x v:ax}:k5 (gK 15) pI (wk pI 8).1 (wk pI 8).2 (cg (gK 15) pI 8) (sA (cd 15) 0) (Ff n x v) H (kg X)=C3 pI n (aa "get") [.str x] H λa H=>fb (gK 15) (aa "result") a (Ff n x v) H X:=by kernel_rfl
noncomputable def D3(n:Nat)(x v:ax):Nm:=kt (Ff n x v) (aa "result") .none
theorem Qr{x v:ax}{X:Hp->Prop}:(wk pI 8).2 (gK 15) (ifT (sA (cd 15) 1)) (D3 n x v) H (λc H=>c=true∧X H)=(true=true∧X H):=by kernel_rfl
noncomputable abbrev ÿ:cP:=sA (lM (sA (cd 15) 1)) 0
theorem Qq{x v:ax}:NX pI (wk pI 8).1 (wk pI 8).2 (gK 15) (DV 162 Cb KX) (å ÿ) (D3 n x v) H=((aa "_headers"=aa "_headers"∧true=true)∧aG (cH BN H n) λd=>aG (cH EP H d) λl=>aG (qr (.ref l) H) λty=>aG (iJ pI.meths ty (aa "append")) λz=>C4 pI n (aa "_convert_string_type") [.str x] (aa "name") (.bool true) H λz H=>true=true∧aG (qr (.ref n) H) λty=>aG (iJ pI.meths ty (aa "_convert_string_type")) λg=>DV 162 Cb KX (.val g) [.ref n,.str v] [(aa "name",.bool false)] H):=by kernel_rfl
set_option tactic.hygienic true in
theorem Wa:Ak w mean mg mb 4 253 mf Nq:=y9 (d:=2) (T:=pI) [aa "self",aa "name",aa "value"] (qY 3 [aa "self",aa "name",aa "value"] []) OO OT (by kernel_rfl) (by kernel_rfl) (qW (xs:=[aa "self",aa "name",aa "value"]) (dS:=[]) (λ_=>.nil) λs vs X h=>eH h λa r h=>eH h λb r h=>eH h λc r h=>kL h (dz (by kernel_rfl))) (λΓ hd hu=>dt (.cons (Dm.sp zv hd hu rfl) (.cons (Iy.sp zw hd hu rfl) (.cons sr .nil))) (.cons ma (.cons (jv (by kernel_rfl) λ_ _=>by kernel_rfl) (.cons (jv (by kernel_rfl) λ_ _=>by kernel_rfl) .nil))) λ_ _ e=>aJ e) λas ks H KX h=>by
 obtain⟨n,d,l,ts,rows,x,v,rfl,rfl,t,hl,hc,hx,e,c1,hh,k⟩:=h;refine aw (x:=Ff n x v) (by kernel_rfl) λΓ P hd hu O=>?_
 have e0:fB (cS 15)=sA (cd 15) 0::X9 (sA (cd 15) 1)::(cd 15).drop 2:=by kernel_rfl
 have e1:lM (sA (cd 15) 1)= .Expr (å ÿ) (ā ÿ)::(lM (sA (cd 15) 1)).drop 1:=by kernel_rfl
 have W:=gF O 8;rw[e0];refine Xs.next (X:=λm h=>h=H∧m=D3 n x v) (nX O W.1 W.2 (kY O 8)) (kc (xC (g:=.ref 210) t.ty rfl (oP rfl (.mk _ _ _ _ _ _ rfl t hl hc hx (e▸(show fb (gK 15) (aa "result") .none (Ff n x v) H (λm h=>h=H∧m=D3 n x v)from kc (show H=H∧D3 n x v=D3 n x v from⟨rfl,rfl⟩) (by kernel_rfl)))))) Qs) λm' H' h'=>h'.1▸h'.2▸Xs.ifT (X:=λh=>h=H) W.2 (kc ⟨rfl,rfl⟩ Qr) λ_ e=>e▸e1▸Xs.expr (by kernel_rfl) (Xe.app O W.1 (lC.fn O6 zw hd hu rfl) (kc ?_ Qq))
 exact⟨⟨rfl,rfl⟩,aw (ia t.i rfl) (aw (ia t.a rfl) (aw (Cw t.l rfl) (aw (x:=qa "list.append") rfl (yc t c1 ⟨rfl,aw t.ty (aw (x:=fD 162) rfl (aQ (by kernel_rfl) (Cb.mk (.ref n) v false rfl rfl hh k)))⟩))))⟩
end
variable{M:E6}
section
variable{msg:ax}{KX:Hp->Prop}{ev:Ev}{tr:Tr}
structure Vp(t:aI)(oe ot:dU)(vs:List ar):Prop where
 c:oe.cls= .type "ValueError"
 d:∃ws,oe.data= .fields ws∧ws[0]? =some (.ref t)
 tc:ot.cls= .type "tuple"
 td:∃nt,ot.data= .seq vs.toArray nt
theorem TS{e t:aI}{oe ot:dU}{nw:gO}(h:Vp t oe ot vs)(h1:(e,oe)∈nw)(h2:(t,ot)∈nw):Got nw e t (.type "ValueError") vs:=by
 obtain⟨a,⟨ws,b,c⟩,d,⟨nt,f⟩⟩:=h;exact⟨oe,ot,ws,nt,h1,h2,a,b,c,d,f⟩
noncomputable def Aw:ax:=aa "told"
noncomputable def VT:ax:=aa "wrong"
noncomputable def h_(p1 p2 p3 p4:kF):al:=.Call (.Name (aa "str") p2) [.Name VT p3] [] p4
noncomputable def ľ(p1 p2 p3 p4 ap p5:kF):al:=.Call (.Attribute (.Name Aw p1) (aa "append") ap) [h_ p1 p2 p3 p4] [] p5
theorem Ox{A:dR}{x:ax}{Q E:ar->aC->Prop}(N:dC Γ ρ P en Γ.env)(R:bM Γ ρ P m H s)(hk:en.nk.lookup x=some .local)(hd:(x==aa "__debug__")=false)(h:m.lookup x=some a)(q:∀v,db ρ a v->Q v s):aL (cJ w) A (eval (.Name x pos) Γ.env) Q E s:=
 R.name h λmm v F e r=>Ph (rH N.kind ((N.of x).trans hk) F.ns e (q v r)) hd
theorem IR{A:dR}{env:qk}{f:ar}{Q:Args->aC->Prop}{E:ar->aC->Prop}(hn:(!aW e.ctorIdx 22)=true)(h:aL M A (eval e env) (λv s=>Q ⟨[v],[]⟩ s) E s):aL M A (evalArgs f true (mY pos (ik [e] env)) (gV pos (ej [] env))) Q E s:=by
 have z:=sD (pos:=pos) (rest:=[]) (env:=env) (Q:=λvs s'=>Q ⟨vs,[]⟩ s') (eQ h (λv s' q=>args_nil q) λy y x=>x) (jW e [] hn);rw[jW e [] hn]at z ⊢;exact AM z
set_option tactic.hygienic true in
theorem BP{A:dR}{p1 p2 p3 p4 ap p5 p6:kF}{il ie it:Nat}{e t:aI}{oe ot:dU}{u:lP}{Q:lL->aC->Prop}{E:ar->aC->Prop}(hu:A.units+2<df)(N:dC Γ ρ P en Γ.env)(R:bM Γ ρ P m H s)(k1:en.nk.lookup Aw=some .local)(k2:en.nk.lookup VT=some .local)(k3:en.nk.lookup (aa "str")=some .globalImplicit)(hm:ni (.Name Aw p1) [h_ p1 p2 p3 p4] ap p5=true)(m1:m.lookup Aw=some (.ref il))(m2:m.lookup VT=some (.val (.ref e)))
  (hl:H[il]? =some (.lst xs))(hz:xs.length<=aF)(he:H[ie]? =some (.raw oe))(ht:H[it]? =some (.raw ot))(re:ρ[ie]? =some e)(rt:ρ[it]? =some t)(G:Vp t oe ot [.str msg u])
  (q:∀h' tk,bM Γ ρ P m (H.set il (.lst (xs++[.str msg]))) {s with heap:=h',toks:=tk}->Q .next {s with heap:=h',toks:=tk}):aL (cJ w) A (kN [.Expr (ľ p1 p2 p3 p4 ap p5) p6] Γ.env) Q E s:=by
 refine cy (rI ?_ (by unfold yv;rw[N.kind];rfl) rfl);unfold ľ;rw[tR hm rfl rfl (bC _)];refine az (Ox N R k1 (by kernel_rfl) m1 λv rv=>az (d6 (az (cE ?_))));obtain⟨c,rfl,hc⟩:∃c,v= .ref c∧ρ[il]? =some c:=db.R (C:=λv=>∃c,v= .ref c∧ρ[il]? =some c) rv λc hc=>⟨c,rfl,hc⟩
 refine R.seen hc (ia (f:=fG) hl rfl) λo ob e1 r g=>ww e1 r λvs j rs eo=>?_
 subst eo;refine nJ (v:=.ref c) ⟨_,g,rfl⟩ NU JX JW (λa e=>E4 e▸⟨_,g,rfl⟩) ?_;refine iB (P:=λh=>Kp w h (.builtin "list.append")) rfl (λh p=>p) (IR rfl ?_);refine az (Ph (BR (a:=.val (.type "str")) (by kernel_rfl) k3 N R λv rv=>?_) (by kernel_rfl));obtain rfl:v= .type "str":=db.V (C:=λv=>v= .type "str") rv rfl;refine iB (P:=λh=>Kp w h (.type "str")) rfl (λh p=>p) (IR rfl (Ox N R k2 (by kernel_rfl) m2 λv rv=>?_));obtain rfl:v= .ref e:=db.V (C:=λv=>v= .ref e) rv rfl;refine⟨ki (w:=w) (by kernel_rfl) _ R.inn,?_⟩;obtain⟨mm,objs,F,qn,ro,N₀⟩:=R.dy;refine ro.at he λoe' e2 re'=>ro.at ht λot' e3 rt'=>?_
 obtain rfl:=uD rfl re';obtain rfl:=uD rfl rt';refine str_got_one PySem.F.excStr_ValueError N₀ (TS G (av _ (dK re e2)) (av _ (dK rt e3))) hu ⟨ki (w:=w) (by kernel_rfl) _ R.inn,?_⟩;refine R.mut hc hl λmm ob l g F N r U fin=>ww rfl r λvs j rs eo=>?_
 subst eo;exact append_K F N (Mine.UpdF.upd U) (λh' F' N'=>jG (q h' _ (fin h' _ _ s.toks F' (by rw[sF]at N';exact N') (.lst _ (rs.app (.cons (.str _ _) .nil))) λ_ _=>br))) (by rw[b9,rs.len];exact hz)
end
section
variable{msg:ax}{KX:Hp->Prop}{e:ar}
noncomputable def Fe(Γ:Wk w mean mg mb)(g:fk)(B:oW Γ.A₀ Γ.base Γ.outer g)(X:(hp w.params).In g)(T:JO Γ.pT Γ.lT mean mg mb g):Wk w mean mg mb:=⟨Γ.pT,Γ.lT,Γ.dp,Γ.un,Γ.gd,Γ.cn,Γ.cs,Γ.L,Γ.a,Γ.ccd,Γ.cl,Γ.outer,Γ.A₀,Γ.base,g,Γ.s₀,B,X,T,Γ.hk,Γ.rm,Γ.ru⟩
noncomputable abbrev H9(Γ:Wk w mean mg mb):List aI:=Γ.outer.filterMap (·.frame)
inductive H?(Γ:Wk w mean mg mb)(ρ:List aI)(P:mh)(m:Nm)(msg:ax)(KX:Hp->Prop)(n:ax)(e:ar)(s:aC):Prop
 |mk(g:fk)(B:oW Γ.A₀ Γ.base Γ.outer g)(X:(hp w.params).In g)(T:JO Γ.pT Γ.lT mean mg mb g)(a t:aI)(u:lP)(oe ot:dU)(ρ':List aI)(H':Hp)(he:e= .ref a)(tu:KtsTurn (H9 Γ) Γ.h₀ g)(D:rQ (H9 Γ) g)(k:KX H')(x:dg ρ ρ')(hl:ρ'.length=H'.length)(R:bM (Fe Γ g B X T) (ρ'++[a,t]) P ((n,.val (.ref a))::m) (H'++[.raw oe,.raw ot]) s)(G:Vp t oe ot [.str msg u]):H? Γ ρ P m msg KX n e s
theorem UO{n:ax}{b₀:cP}{suite:List cP}{np:kF}{rest:List ExceptHandler}{Q:lL->aC->Prop}{E:ar->aC->Prop}(f:v8 Γ ρ P m msg KX e s')(XB:(hp w.params).In Γ.base)(TB:JO Γ.pT Γ.lT mean mg mb Γ.base)(D:rQ (H9 Γ) Γ.h₀)(hlo:Γ.env.kindOf n=some .local)(hx:Γ.env.kindOf (aa "ValueError")=some .globalImplicit)
  (k:∀s'' E',H? Γ ρ P m msg KX n e s''->aL (cJ w) (Γ.A.mark (some e)) (kN (b₀::suite) Γ.env) (λf s₄=>aL (cJ w) Γ.A (do bindName Γ.env n .none;unbindBehindTheSuite Γ.env n pos) (λu s₅=>Q f s₅) E s₄) E' s''):
  aL (cJ w) Γ.A (sB e Γ.env) (λu s₂=>aL (cJ w) Γ.A (setFlight e none) (λu s₃=>aL (cJ w) Γ.A (handleBy e Γ.env (.ExceptHandler (some (.Name (aa "ValueError") np)) (some n) (b₀::suite) pos::rest)) Q E s₃) E s₂) E s':=by
 obtain⟨a,t,tkm,mm,G,ρ',H',objs,he,F,q,U,ro,x,ly,⟨⟨B,hB,hBG,hl,hfl,hnew⟩,htup⟩,g,d,o,kx⟩:=f;subst he;have K:=Γ.B;have hL:B.get? Γ.L=none:=by
  obtain⟨_,⟨L',_,hf,hn',_⟩,_⟩:=hfl.2.2.1;obtain rfl:Γ.L=L':=aj hf;exact hn'
 have hA:Γ.A.frames=some (Γ.env::Γ.outer):=rfl;refine wpAny_looks_onW hA rfl hfl λh₄ hheld₄ hsm₄=>?_
 refine wpAny_landsW hheld₄ λh₅ hheld hsm₅'=>?_
 have hsm₅:=U.trans (hsm₄.trans hsm₅');have htup₅:=htup.of_slots (hsm₄.trans hsm₅');obtain⟨g₅,T₅,F₅,K₅⟩:=kts_ground (name:=Γ.cn) (scope:=Γ.cs) (a:=Γ.a) (cd:=Γ.ccd) K F hBG hheld.1 hsm₅;obtain⟨ob,hob,hobc⟩:=hheld.there;refine wpAny_handleBy_builtin_as (X:="ValueError") (T:="ValueError") (b:=true) PySem.F.isExc_ValueError PySem.F.notTuple_ValueError (by rw[isSubtype_type];kernel_rfl)
  (nameX_B F₅ (XB.keeps K₅.stays) (topRead_of (TB.keeps K₅.stays)) (by kernel_rfl) PyProof.Rows.Boot.«ValueError» (by decide+kernel) ⟨rfl,⟨ob,hob,hobc⟩,?_⟩ Γ.hk hx (by decide+kernel))
 refine lands_againW hheld λh₆ hfl₆ hsm₆=>?_
 have hsm':=hsm₅.trans hsm₆;obtain⟨g₆,T₆,F₆,K₆⟩:=kts_ground (name:=Γ.cn) (scope:=Γ.cs) (a:=Γ.a) (cd:=Γ.ccd) K F hBG hfl₆.1 hsm';obtain⟨oe,ws,hoe,hoec,hoed,hoe0⟩:=hfl₆.first;obtain⟨ot,nt,hot,hotc,hotd⟩:=htup₅.of_slots hsm₆;have ne₆:g₆.get? a=none:=T₆.none_ _ (kts_fresh (name:=Γ.cn) (scope:=Γ.cs) (a:=Γ.a) (cd:=Γ.ccd) F hBG hfl₆.2.1 λo ho mm=>by
  obtain⟨_,o',ho',hd⟩:=K.frames.mem mm;obtain rfl:=aj (ho.symm.trans ho');obtain⟨sl,hs⟩:=hsm' _ _ (F.keep _ _ ho) hd;obtain rfl:=aj (hoe.symm.trans hs);exact hd _ hoed)
 have nt₆:g₆.get? t=none:=T₆.none_ _ (kts_fresh (name:=Γ.cn) (scope:=Γ.cs) (a:=Γ.a) (cd:=Γ.ccd) F hBG hnew λo ho mm=>by
  obtain⟨o',es,n',ho',hd⟩:=D _ mm;obtain rfl:=aj (ho.symm.trans ho');obtain⟨sl,hs⟩:=hsm' _ _ (F.keep _ _ ho) (λvs q=>by rw[hd]at q;exact nomatch q);obtain rfl:=aj (hot.symm.trans hs);exact absurd (hd.symm.trans hotd) (λz=>nomatch z))
 have N₆:=News.more F₆ (News.more F₆ News.nil hot (λes n q=>by rw[hotd]at q;exact nomatch q) nt₆) hoe (λes n q=>by rw[hoed]at q;exact nomatch q) ne₆;have Nl:dJ g₆ Γ.L h₆ (ρ'.zip objs++P.rest):=λq hq=>⟨hfl₆.1 _ _ (hl q hq).1,(λz=>by have:=(hl q hq).1;rw[z,hL]at this;exact aJ this),T₆.none_ _ (kts_none F.keep (hl q hq).2.1)⟩
 have fr:∀c,B.get? c=none->∀q∈ρ'.zip objs++P.rest,q.1≠c:=λc hc q hq z=>by have:=(hl q hq).1;rw[z,hc]at this;exact aJ this
 have hlen:ρ'.length=objs.length:=ly.ln.trans ro.len.symm;have hat:a≠t:=λz=>by
  subst z;obtain rfl:=aj (hoe.symm.trans hot);exact absurd (hoec.symm.trans hotc) (λz=>absurd (Ce z) (by decide))
 refine storeX_L F₆ (news:=(a,oe)::(t,ot)::(ρ'.zip objs++P.rest)) (λq hq=>(aT.mp (show q∈[(a,oe),(t,ot)]++(ρ'.zip objs++P.rest)from hq)).elim (N₆ q) (Nl q)) (λh₇ F₇ N₇=>k _ _ ?_) Γ.hk hlo;have new:∀c,B.get? c=none->(∀(j:Nat)(b:aI),ρ'[j]? =some b->b≠c)∧∀p∈P.rest,p.1≠c:=λc hc=>⟨λj b e=>(gy hlen e).elim λo ho=>fr c hc _ (av _ ho),λp hp=>fr c hc p (au _ hp)⟩
 refine⟨g₆,K₆,XB.keeps K₆.stays,TB.keeps K₆.stays,a,t,tkm,oe,ot,ρ',H',rfl,T₆,D.turn T₆,kx,x,ly.ln,⟨⟨_,objs++[oe,ot],F₇,λy b e=>?_,(ro.mono ⟨_,rfl⟩).app (.cons (.raw _) (.cons (.raw _) .nil)),λp hp=>N₇ p ?_⟩,ly.adds rfl (.cons (λy hy=>a8.mp hy▸hat) (.cons (λy hy=>eN hy) .nil)) (λD hD=>?_) (λo ho=>?_),g,d,o⟩,⟨hoec,⟨ws,hoed,hoe0⟩,hotc,nt,hotd⟩⟩
 ·rw[gc]at e
  dsimp only at e ⊢
  by_cases z:y=n
  ·subst z
   rw[beq_self_eq_true]at e;rw[if_pos rfl];exact⟨_,rfl,aj e▸ .val _⟩
  ·rw[beq_false_of_ne z]at e
   rw[if_neg z];exact(q y b e).imp λv h=>⟨h.1,(h.2.mono x).mono ⟨_,rfl⟩⟩
 ·rw[kP hlen,aA]at hp
  exact qF hp (λh=>af _ (af _ (av _ h))) (λh=>av ((ρ'.zip objs)++P.rest) (show p∈[(a,oe),(t,ot)]from h)) λh=>af _ (af _ (au _ h))
 ·rcases aE.mp hD with rfl|hD
  ·exact new _ hfl₆.2.1
  ·exact a8.mp hD▸new _ hnew
 ·rcases aE.mp ho with rfl|ho
  ·exact λu=>br
  ·exact a8.mp ho▸λu=>br
end
section
set_option backward.match.sparseCases true
section
variable{prog:eC}{A₀ A:dR}{base h₀:fk}{L:aI}{m:ax->Option ar}{env:qk}{news:gO}{K:Frag}{p:eC}{loose:List ax}{R:rL->aC->Prop}{name qual:ax}{params:jl}{body:List cP}{scope:iS}{dV doc pm cdv ct oc:ar}{an od:Option aI}{osl:Array (Option ar)}{f:aI}{args:Args}{binds:List (ax×ar)}
theorem BY(B:oW A₀ base [] h₀)(F:Fr h₀ L s.heap m)(X₀:K.In h₀)(N:dJ h₀ L s.heap news)(T:JO p loose mean mg mb h₀)(hA:A.frames=some [env])(hf:env.frame=some L)(hke:env.scope.kind= .function)
  (ho:K.lookup f=some ⟨oc,od,.func (ul name qual params body scope dV kV doc pm an cdv ct),osl⟩)(hcd:dP K cdv qual=true)(hroom:A.depth<aP)
  (hbind:iX s (ul name qual params body scope dV kV doc pm an cdv ct) args binds)(hkind:(binds.all λy=>scope.names.lookup y.1==some .local||scope.names.lookup y.1==some .cell)=true)
  (hnd:((ew 0 scope.names []).map (·.1)).Nodup)
  (h:∀g L' h₁ tk cells,Fr h₀ L g m->rQ [L] g->Fr g L' h₁ (bindL (nQ qual scope L' f cdv).kindOf binds λz=>none)->dJ g L' h₁ (cells++news)->
   A6 (bindC (nQ qual scope L' f cdv).kindOf binds λz=>none) (ew (L'+1) scope.names []) cells->oW A base [env] g->K.In g->JO p loose mean mg mb g->(∀p∈news,p.1<L')->
   aL (dc prog w) (A.deeper (nQ qual scope L' f cdv)) (kN body (nQ qual scope L' f cdv))
    (λfl s'=>LeaveS0 [L] h₀ L m g R (match fl with|.ret v=>v|_=>.none) s')
    (λe s'=>aL (dc prog w) (A.deeper (nQ qual scope L' f cdv)) (leaving (nQ qual scope L' f cdv) e) (λz s''=>R (.error e) s'') (λe' s''=>R (.error e') s'') s')
    {s with heap:=h₁,toks:=tk})
  (hco:scope.isCoroutine=false)(hgen:scope.isGenerator=false)(hk:scope.kind= .function):nM (dc prog w) A (.call (.ref f) args) R s:=by
 have X:=X₀.keeps F.keep;obtain⟨FG,BG,st,_⟩:=groundX (R:=R) B F N hA hf hke;obtain⟨oL,es,ep,hL,hLd,hLk,hLf⟩:=F.ns;have nL:L∉news.map (·.1):=λq=>by
  obtain⟨p,hp,e⟩:=bY.mp q;exact(N p hp).2.1 e
 have hLg:=yw (news.map (·.1)) hL nL;refine codeAny_call_function hroom (X _ _ ho) rfl hco hgen rfl (codeRec_of X hcd) (hbind _ _ _ _ ?_);refine wpAny_newFunctionEnv_cells hk (kindsX hkind _) λenv' he s' x=>?_
 subst he;refine⟨(T.nolimit.keeps F.keep).keeps x.toInCall.keep,codeAny_func ?_⟩;obtain⟨h₁,tk,rfl,_⟩:=x.done;have hk₁:=x.toInCall.keep;obtain⟨cells,NC,Y⟩:=Cl.news (h₀:=s.heap) (bF _) λn c hm=>⟨x.cell n c (lookup_of_mem_nodup (cellsFrom_names scope.names 0 (s.heap.objs.size+1) [] [] rfl▸hnd) hm),x.above n c hm⟩
 refine eQ (h _ s.heap.objs.size h₁ tk cells FG (λb hb=>⟨oL,es,ep,by rw[a8.mp hb];exact hLg,hLd⟩) ⟨x.toInCall.ns,λb o e=>hk₁ b o (Pl _ e),bP (hideAll_size _ _)⟩ (λp hp=>?_) Y BG (X₀.keeps st) (T.keeps st) (λp hp=>bw (N p hp).1)) (λfl s' hl=>?_) λz z y=>y
 ·rcases aT.mp hp with hp|hp
  ·refine⟨(NC p hp).1,(NC p hp).2.1,?_⟩
   cases q:(hideAll s.heap (news.map (·.1))).get? p.1 with
   |none=>rfl
   |some o=>have:=Pl _ q;rw[(NC p hp).2.2]at this;cases this
  ·exact⟨hk₁ _ _ (N p hp).1,bc (bw (N p hp).1),hideAll_none _ (cZ hp)⟩
 ·obtain⟨g',L',m',news',T',F',N',k⟩:=hl
  have nL₀:h₀.get? L=none:=kts_self F;obtain⟨sl,hs⟩:=T'.up hLg;refine k ⟨⟨_,es,ep,F'.keep _ _ hs,hLd,hLk,hLf⟩,λb o e=>F'.keep b o (T'.other b o (st b o e) λq=>?_),F.above⟩ λp hp=>⟨(N' p hp).1,λq=>?_,?_⟩
  ·rw[a8.mp q,nL₀]at e;cases e
  ·have:=(N' p hp).2.2;rw[q,hs]at this;cases this
  ·cases q:h₀.get? p.1 with
   |none=>rfl
   |some o=>
    obtain⟨sl',hs'⟩:=T'.up (st _ _ q)
    have:=(N' p hp).2.2;rw[hs']at this;cases this
end
section
variable{prog:eC}{A:dR}{env:qk}{R:rL->aC->Prop}
set_option tactic.hygienic true in
theorem TY{body:List cP}{x:ax}{px:kF}{items:Array ar}{I T:aI}(hh:A.handled=none)(hne:T≠I)(Inv:Nat->aC->Prop)
  (hIs:∀i s,Inv i s->s.heap.IsTupleIter I T i∧s.heap.IsTuple T items)
  (step:∀i s v,Inv i s->items[i]? =some v->∀h' tk,h'.IsTupleIter I T (i+1)->(∀b o,b≠I->s.heap.get? b=some o->h'.get? b=some o)->
   aL (dc prog w) A (kq (.Name x px) env v) (λ_ s₂=>aL (dc prog w) A (kN body env) (λf s₃=>match f with
    |.next=>Inv (i+1) s₃
    |.cont=>Inv (i+1) s₃
    |.brk=>R (.ok .next) s₃
    |.ret v=>R (.ok (.ret v)) s₃) (Fy (dc prog w) A env λe s'=>R (.error e) s') s₂) (Fy (dc prog w) A env λe s'=>R (.error e) s') {s with heap:=h',toks:=tk})
  (fin:∀s,Inv items.size s->∀h' tk,(∀b o,b≠I->s.heap.get? b=some o->h'.get? b=some o)->R (.ok .next) {s with heap:=h',toks:=tk})
  {s:aC}(h0:Inv 0 s):nM (dc prog w) A (.forLoop (.Name x px) (.ref I) body [] env) R s:=by
 refine NM (λk' s'=>∃i,Inv i s'∧i<=items.size∧k'=items.size+1 - i) ?_ (items.size+1) ⟨0,h0,bC _,rfl⟩
 rintro k' s' ⟨i,hI,hi,rfl⟩
 have W:=tC (prog:=prog) (w:=w) (A:=A) hh I T hne items
 by_cases hlt:i<items.size
 ·refine W.item i _ _ _ hlt (hIs i s' hI) λv h₂ tk₂ hv hst₂ hk₂=>?_
  refine rG (show jH (.Name x px) (.ref I) v=pure ()from rfl) ?_;refine eQ (step i s' v hI hv h₂ tk₂ hst₂.1 λb o q e=>hk₂ b o (by simpa using q) e) (λ_ s₂ q=>eQ q (λf s₃ r=>?_) λ_ _ e=>e) λ_ _ e=>e
  cases f with
  |next=>exact⟨items.size+1 - (i+1),ja (dF hlt) (bI i),i+1,r,hlt,rfl⟩
  |cont=>exact⟨items.size+1 - (i+1),ja (dF hlt) (bI i),i+1,r,hlt,rfl⟩
  |brk=>exact r
  |ret v=>exact r
 ·obtain rfl:i=items.size:=kW hi (dm.mp hlt)
  exact W.done _ _ _ (hIs _ s' hI) λh₂ tk₂ hk₂=>jG (fin s' hI h₂ tk₂ λb o q e=>hk₂ b o (by simpa using q) e)
end
end
section
variable{msg:ax}{KX:Hp->Prop}{e:ar}
noncomputable def JA:ax:=aa "deed"
noncomputable def zb:ax:=aa "_law_refused.<locals>.<lambda>"
noncomputable abbrev Fi(i:Nat):cP:=sA (fB (mS 31)) i
noncomputable def GK:cP:=.Try [.Expr (.Call (.Name JA ⟨335,12,335,16⟩) [] [] ⟨335,12,335,18⟩) ⟨335,12,335,18⟩] [.ExceptHandler (some (.Name (aa "ValueError") ⟨336,15,336,25⟩)) (some VT) [.Expr (ľ ⟨337,12,337,16⟩ ⟨337,24,337,27⟩ ⟨337,28,337,33⟩ ⟨337,24,337,34⟩ ⟨337,12,337,23⟩ ⟨337,12,337,35⟩) ⟨337,12,337,35⟩] ⟨336,8,337,35⟩] [] [] ⟨334,8,337,35⟩
theorem Wq:fB (mS 31)=[Fi 0,.For (.Name JA ⟨329,8,329,12⟩) (tg (Fi 1)) [GK] [] ⟨329,4,337,35⟩,Fi 2]:=by kernel_rfl
noncomputable def mx(j:Nat):al:=((Ø (jh (tg (Fi 1)))).getD []).getD j (.Name (aa "") ⟨0,0,0,0⟩)
noncomputable abbrev D7(j:Nat):al:=.Lambda (Fp (mx j)) (Et (mx j)) (BK (mx j)) (ol (mx j))
noncomputable def VS(ps:jl)(body:al)(sc:iS)(pos:kF)(ql:ax)(G:List (ax×Nat)->Hp->Prop):XC:=λg as ks H=>∃n cl c,g= .ref n∧as=[]∧ks=[]∧H[n]? =some (.lam (.Lambda ps body sc pos) ql cl c)∧H[c]? =some (.code ql)∧G cl H
theorem lC.lam{G:List (ax×Nat)->Hp->Prop}(hs:K9 sc []=true)(hb:∀clos pm c' ctv,vG (kla_fn "<lambda>" ql ps body sc clos pm (.ref c') ctv) ⟨[],[]⟩=pure [])(hd:Γ.dp+(d+2)<aP)(hu:Γ.un+8*(d+2)<df)
  (main:∀(Γ':Wk w mean mg mb) cl H,G cl H->Γ'.dp+(d+1)<aP->Γ'.un+8*(d+1)<df->u9 Γ' P ⟨sc.names,cl,none⟩ msg KX [] H body):lC Γ P m msg KX (VS ps body sc pos ql G):=λρ H s Q E g v as vs ks kv k R rg r rk hE=>by
 obtain⟨n,cl,c,rfl,rfl,rfl,h1,h2,hG⟩:=k;obtain⟨f,rfl,hf⟩:∃f,v= .ref f∧ρ[n]? =some f:=db.R (C:=λv=>∃f,v= .ref f∧ρ[n]? =some f) rg λf h=>⟨f,rfl,h⟩
 obtain rfl:vs=[]:=ch r.len;obtain rfl:kv=[]:=ch rk.len;exact⟨I7 (by rw[ia (f:=VB) h1 rfl];rfl) R hf,wz (K:=λz z=>False) (xs:=[]) (I:=λΓ'=>Γ'.dp+(d+1)<aP∧Γ'.un+8*(d+1)<df) hs rfl hb rfl (λΓ' a b=>⟨a,b⟩) hd hu h1 h2 (λΓ' s' Q E O N R z hE=>main Γ' cl H hG O.1 O.2 ρ s' Q E N R hE) R hf .nil (λz z z z z z z z k=>k.elim) hE⟩
noncomputable def yD:ax:=aa "table"
noncomputable def BH:f6:=oa [] [mH "get" 210,mH "setdefault" 253] λz=>none
theorem og:cF Γ BH:=dt .nil (.cons (jv (by kernel_rfl) λz z=>by kernel_rfl) (.cons (jv (by kernel_rfl) λz z=>by kernel_rfl) .nil)) λz z e=>aJ e
noncomputable abbrev VA(j:Nat)(cl:List (ax×Nat)):En:=⟨(BK (mx j)).names,cl,none⟩
theorem Sc:yY (xT BH (DV 210 ND KX)) (wk BH 8).1 (wk BH 8).2 (VA 0 cl) (Et (mx 0)) [] H (λz z=>False)=aG (f5 (VA 0 cl) H yD) λo=>aG (qr o H) λty=>aG (iJ BH.meths ty (aa "get")) λg=>DV 210 ND KX (.val g) [o,.str (aa "x\n")] [] H:=by kernel_rfl
theorem Sb:yY (xT BH (DV 253 Nq KX)) (wk BH 8).1 (wk BH 8).2 (VA 1 cl) (Et (mx 1)) [] H (λz z=>False)=aG (f5 (VA 1 cl) H yD) λo=>aG (qr o H) λty=>aG (iJ BH.meths ty (aa "setdefault")) λg=>DV 253 Nq KX (.val g) [o,.str (aa "y"),.str (aa "\x07")] [] H:=by kernel_rfl
theorem Sa:yY (xT BH (DV 95 EL KX)) (wk BH 8).1 (wk BH 8).2 (VA 2 cl) (Et (mx 2)) [] H (λz z=>False)=(1<=aF∧bq=bq∧DV 95 EL KX (.val (.ref 95)) [.ref H.length,.int 0,.int (-1)] [] (H++[.lst [.int 0]])):=by kernel_rfl
theorem R9:yY (xT BH (DV 77 EL KX)) (wk BH 8).1 (wk BH 8).2 (VA 3 cl) (Et (mx 3)) [] H (λz z=>False)=(1<=aF∧bq=bq∧DV 77 EL KX (.val (.ref 77)) [.ref H.length,.int 0,.int (-1)] [] (H++[.lst [.int 0]])):=by kernel_rfl
inductive NK(KX:Hp->Prop)(cl:List (ax×Nat))(H:Hp):Prop
 |mk(n d l:Nat)(ts:List Nat)(rows:Rw)(hc:∀e:List (ax×gu),f5 ⟨e,cl,none⟩ H yD=some (.ref n))(t:TabAt H n d l ts rows)(hl:ts.length<=1000)(hy:gZ rows (aX (aa "y"))= .none)(k:∀T,KX (H++T)):NK KX cl H
theorem Yw:NB gR (aX (aa "x\n")):=by
 unfold NB
 kernel_rfl
theorem H3:NB fT (aa "\x07"):=by
 unfold NB
 kernel_rfl
noncomputable def Ŋ(x:ax):Bool:=x.cps.toList.all λc=>aN 32 c&&aN c 126
theorem mJ{x:ax}(h:Ŋ x=true):fu x:=λp hp=>by
 have m:=aB.mp h x.cps[p] (Array.getElem_mem_toList hp);rw[aM]at m;unfold Array.getD;rw[dif_pos hp];exact⟨ae m.1,jN (ae m.2)⟩
theorem Zk(hd:Γ.dp+5<aP)(hu:Γ.un+8*5<df):lC Γ P m mf KX (VS (Fp (mx 0)) (Et (mx 0)) (BK (mx 0)) (ol (mx 0)) zb (NK KX)):=lC.lam (d:=3) (by kernel_rfl) (λz z z z=>by kernel_rfl) hd hu λΓ' cl H h a b=>by
 obtain⟨n,d,l,ts,rows,hc,t,hl,hy,k⟩:=h;exact Xe.go og (gF og 8).1 (lC.fn YR zv a b rfl) (by kernel_rfl) (kc (aw (hc _) (aw t.ty (aw (x:=fD 210) rfl (aQ (by kernel_rfl) (.mk n _ rfl rfl t.ty (by decide) Yw k))))) Sc)
theorem Zj(hd:Γ.dp+5<aP)(hu:Γ.un+8*5<df):lC Γ P m mf KX (VS (Fp (mx 1)) (Et (mx 1)) (BK (mx 1)) (ol (mx 1)) zb (NK KX)):=lC.lam (d:=3) (by kernel_rfl) (λz z z z=>by kernel_rfl) hd hu λΓ' cl H h a b=>by
 obtain⟨n,d,l,ts,rows,hc,t,hl,hy,k⟩:=h;exact Xe.go og (gF og 8).1 (lC.fn Wa HK a b rfl) (by kernel_rfl) (kc (aw (hc _) (aw t.ty (aw (x:=fD 253) rfl (aQ (by kernel_rfl) (.mk n d l ts rows _ _ rfl rfl t hl (mJ (by kernel_rfl)) (by decide) hy (mJ (by kernel_rfl)) H3 k))))) Sb)
theorem Zi(hd:Γ.dp+5<aP)(hu:Γ.un+8*5<df):lC Γ P m pj KX (VS (Fp (mx 2)) (Et (mx 2)) (BK (mx 2)) (ol (mx 2)) zb λz H=>∀T,KX (H++T)):=lC.lam (d:=3) (by kernel_rfl) (λz z z z=>by kernel_rfl) hd hu λΓ' cl H k a b=>
  Xe.go og (gF og 8).1 (lC.fn UR Eu a b rfl) (by kernel_rfl) (kc (aQ (ae rfl) (aQ rfl (aQ (by kernel_rfl) ⟨_,_,rfl,rfl,k _⟩))) Sa)
theorem Zh(hd:Γ.dp+5<aP)(hu:Γ.un+8*5<df):lC Γ P m pj KX (VS (Fp (mx 3)) (Et (mx 3)) (BK (mx 3)) (ol (mx 3)) zb λz H=>∀T,KX (H++T)):=lC.lam (d:=3) (by kernel_rfl) (λz z z z=>by kernel_rfl) hd hu λΓ' cl H k a b=>
  Xe.go og (gF og 8).1 (lC.fn UQ HH a b rfl) (by kernel_rfl) (kc (aQ (ae rfl) (aQ rfl (aQ (by kernel_rfl) ⟨_,_,rfl,rfl,k _⟩))) R9)
end
variable{nk:Nat}{J:Hp}
section
variable{msg:ax}{KX:Hp->Prop}{e:ar}
noncomputable def c_:Lc:=λz z z z=>False
theorem Rz:ve w mean mg mb d c_:=⟨λz z z z z z z z z z z z z z z h=>h.elim,λz z z z h=>h.elim⟩
noncomputable def xr:f6:=Ý [] [] (λz=>none) c_ (some (305,zb))
theorem xq(hc:Γ.ccd= .ref 309)(hn:Γ.cn=q "_law_refused"):cF Γ xr:=BE (d:=0) Γ.rm (bh (aU (bC 8) _) Γ.ru) .nil .nil (λz z e=>aJ e) Rz λp e=>by
 obtain rfl:=aj e;refine⟨?_,309,hc,yz Γ.X (by kernel_rfl)⟩;show zb=(Γ.cn++".<locals>.")++"<lambda>";rw[hn]
 kernel_rfl
noncomputable abbrev Du(N:Nat):En:=⟨(fS (mS 31)).names,[(yD,N)],none⟩
set_option tactic.hygienic true in
theorem Rh{N:Nat}{K:KS}:k5 (Du N) xr (wk xr 8).1 (wk xr 8).2 (cg (Du N) xr 8) (Fi 0) [] H K=(0<=aF∧K .next [(Aw,.ref H.length)] (H++[.lst []])):=by kernel_rfl
abbrev Xh(N j:Nat)(H:Hp)(K:KV):Prop:=Es xr (Du N) (D7 j) (Fp (mx j)) (BK (mx j)) (ol (mx j)) H K
theorem Rg{N:Nat}{m:Nm}{K:KV}:(wk xr 8).1 (Du N) (tg (Fi 1)) m H K=Xh N 0 H λa H=>Xh N 1 H λb H=>Xh N 2 H λc H=>Xh N 3 H λd H=>4<=aF∧K (.ref H.length) (H++[.tup [a,b,c,d]]):=by kernel_rfl
theorem Rf{N M:Nat}{K:KS}:k5 (Du N) xr (wk xr 8).1 (wk xr 8).2 (cg (Du N) xr 8) (Fi 2) [(Aw,.ref M)] H K=K (.ret (.ref M)) [(Aw,.ref M)] H:=by kernel_rfl
theorem xK{N:Nat}{lt:List (Nat×Nat×Nat)}{T:Hp}(hcl:qT [(yD,N)] (BK (mx j)).names []=some cl)(hnd:C0 (Fp (mx j))=true)(hn:nk<H.length)(ham:Pc (ol (mx j)) lt=none)(k:K (.ref (H.length+(T.length+1))) (H.set nk (.tab 305 (lt++[((ol (mx j)).line,(ol (mx j)).col,H.length+T.length)]))++(T++[.code zb,.lam (D7 j) zb cl (H.length+T.length)]))):Xh N j (H.set nk (.tab 305 lt)++T) K:=by
 have el:(H.set nk (.tab 305 lt)++T).length=H.length+T.length:=by rw[aK,bO]
 refine aw (x:=(305,zb)) rfl ⟨⟨rfl,hnd⟩,aw hcl ⟨nk,lt,ba (bZ hn),?_⟩⟩;unfold La;rw[ham,el,fo _ _ (by rw[bO];exact hn),iU,aA];exact k
noncomputable def Ws(N:Nat):List (Nat×Nat×Nat):=[((ol (mx 0)).line,(ol (mx 0)).col,N+2),((ol (mx 1)).line,(ol (mx 1)).col,N+4),((ol (mx 2)).line,(ol (mx 2)).col,N+6),((ol (mx 3)).line,(ol (mx 3)).col,N+8)]
noncomputable def Ú(N n:Nat)(xs:List AV):Hp:=[.cell (some (.ref n)),.lst xs,.code zb,.lam (D7 0) zb [(yD,N)] (N+2),.code zb,.lam (D7 1) zb [(yD,N)] (N+4),.code zb,.lam (D7 2) zb [] (N+6),.code zb,.lam (D7 3) zb [] (N+8),.tup [.ref (N+3),.ref (N+5),.ref (N+7),.ref (N+9)]]
noncomputable def qe(H:Hp)(nk n:Nat)(xs:List AV)(J:Hp):Hp:=H.set nk (.tab 305 (Ws H.length))++(Ú H.length n xs++J)
theorem jQ(i:Nat):(qe H nk n xs J)[H.length+i]? =(Ú H.length n xs++J)[i]? :=by
 unfold qe;rw[bp (by rw[bO];exact a9 _ _),bO,bS]
theorem KA{ys:List AV}:(qe H nk n xs J).set (H.length+1) (.lst ys)=qe H nk n ys J:=by
 unfold qe;rw[j7 _ _ (by rw[bO];exact a9 _ _),bO,bS];rfl
theorem tL{T:Hp}:qe H nk n xs J++T=qe H nk n xs (J++T):=by
 unfold qe;rw[aA,aA]
theorem Kz{m:Nm}(h:H[nk]? =some (.tab 305 []))(k:K (.ref (H.length+10)) (H.set nk (.tab 305 (Ws H.length))++Ú H.length n [])):(wk xr 8).1 (Du H.length) (tg (Fi 1)) m (H++[.cell (some (.ref n)),.lst []]) K:=by
 have hn:=(aH.mp h).1;have e:H++[.cell (some (.ref n)),.lst []]=H.set nk (.tab 305 [])++[.cell (some (.ref n)),.lst []]:=by
  rw[<-(aH.mp h).2,gm]
 rw[e];refine kc (xK (cl:=[(yD,H.length)]) (by kernel_rfl) (by kernel_rfl) hn rfl (xK (cl:=[(yD,H.length)]) (by kernel_rfl) (by kernel_rfl) hn (by kernel_rfl) (xK (cl:=[]) (by kernel_rfl) (by kernel_rfl) hn (by kernel_rfl) (xK (cl:=[]) (by kernel_rfl) (by kernel_rfl) hn (by kernel_rfl) ⟨ae rfl,?_⟩)))) Rg;rw[aK (as:=H.set nk _),bO,aA (H.set nk _)];exact kc k (by kernel_rfl)
theorem bM.iter{I:aI}{h':fk}(R:bM Γ ρ (P.ad [(I,o)] P.gb) m H s)(off:∀p∈P.rest,p.1≠I)(hk:∀b ob,b≠I->s.heap.get? b=some ob->h'.get? b=some ob):bM Γ ρ P m H {s with heap:=h',toks:=n}∧∀o',h'.get? I=some o'->bM Γ ρ (P.ad [(I,o')] P.gb) m H {s with heap:=h',toks:=n}:=by
 obtain⟨mm,objs,F,q,ro,N⟩:=R.dy;have z:=N (I,o) (au _ ah);have hk':∀b ob,b∉[I]->s.heap.get? b=some ob->h'.get? b=some ob:=λb ob hb=>hk b ob λq=>hb (q▸ah)
 have F':=FD F hk' z.2.1.symm z.2.2;have N':dJ Γ.h₀ Γ.L h' (ρ.zip objs++P.rest):=AX (λp hp=>N p ((aT.mp hp).elim (λh=>av _ h) λh=>au _ (af _ h))) hk' λp hp=>(aT.mp hp).elim (λh=>by
  obtain⟨j,hj⟩:=gD (nT (show(p.1,p.2)∈ρ.zip objs from h)).1;exact(R.ly.off j _ hj (I,o) ah).symm) (off p)
 refine⟨⟨⟨mm,objs,F',q,ro,N'⟩,R.ly.sub λp hp=>af _ hp,R.g,R.d,R.o⟩,λo' ho=>⟨⟨mm,objs,F',q,ro,λp hp=>qF hp (λh=>N' p (av _ h)) (λh=>a8.mp h▸⟨ho,z.2⟩) λh=>N' p (au _ h)⟩,⟨R.ly.ln,R.ly.each,λj b e p hp=>(aE.mp hp).elim (λh=>h▸R.ly.off j b e (I,o) ah) λh=>R.ly.off j b e p (af _ h),R.ly.lo⟩,R.g,R.d,R.o⟩⟩
end
section
variable{msg:ax}{e:ar}
noncomputable abbrev Oj(N:Nat):Nm:=[(Aw,.ref (N+1))]
def Ż(H:Hp)(nk n:Nat)(xs:List AV)(H':Hp):Prop:=∃J,H'=qe H nk n xs J
theorem Rc{N:Nat}{C:XC}:yY (xT xr C) (wk xr 8).1 (wk xr 8).2 (Du N) (.Call (.Name JA ⟨335,12,335,16⟩) [] [] ⟨335,12,335,18⟩) [(Aw,.ref (N+1)),(JA,.ref k)] H (λz z=>False)=C (.ref k) [] [] H:=by kernel_rfl
theorem dC.turn{g:fk}{B:oW Γ.A₀ Γ.base Γ.outer g}{X:(hp w.params).In g}{T:JO Γ.pT Γ.lT mean mg mb g}{en:En}{env:qk}(N:dC Γ ρ P en env):dC (Fe Γ g B X T) ρ P en env:=⟨N.nk,N.kind,N.gl,N.bi,N.cl,N.frame,N.own⟩
set_option tactic.hygienic true in
theorem tK{C:XC}{v:ar}{px:kF}{Q:lL->aC->Prop}{E E':ar->aC->Prop}(hu:Γ.un+2<df)(O:cF Γ xr)(N:dC Γ ρ P (Du H.length) Γ.env)(XB:(hp w.params).In Γ.base)(TB:JO Γ.pT Γ.lT mean mg mb Γ.base)(D:rQ (H9 Γ) Γ.h₀)(hx:lC Γ P [(Aw,.ref (H.length+1)),(JA,.ref k)] msg (Ż H nk n xs) C)(hC:C (.ref k) [] [] (qe H nk n xs J))(hz:xs.length<=aF)(rv:db ρ (.ref k) v)(R:bM Γ ρ P (Oj H.length) (qe H nk n xs J) s)
  (qq:∀g B X T ρ' J' s',KtsTurn (H9 Γ) Γ.h₀ g->rQ (H9 Γ) g->dg ρ ρ'->bM (Fe Γ g B X T) ρ' P (Oj H.length) (qe H nk n (xs++[.str msg]) J') s'->Q .next s'):aL (cJ w) Γ.A (kq (.Name JA px) Γ.env v) (λ_ s₂=>aL (cJ w) Γ.A (kN [GK] Γ.env) Q E s₂) E' s:=by
 refine dh (pH (en:=Du H.length) (a:=.ref k) (m:=Oj H.length) (H:=qe H nk n xs J) (K:=λm' H'=>m'=[(Aw,.ref (H.length+1)),(JA,.ref k)]∧H'=qe H nk n xs J) (kc (show[(Aw,AV.ref (H.length+1)),(JA,.ref k)]=[(Aw,AV.ref (H.length+1)),(JA,.ref k)]∧qe H nk n xs J=qe H nk n xs J from⟨rfl,rfl⟩) (by kernel_rfl)) rv N R λm' H' s₁ hk R₁=>?_);obtain⟨rfl,rfl⟩:=hk;refine cy (wpAny_Try_except (cy (rI (Xe.go O (gF O 8).1 hx rfl (kc hC Rc.symm.symm) ρ s₁ _ _ N R₁ λe s' f=>?_) (by unfold yv;rw[N.kind];rfl) rfl)));refine UO f XB TB D ((N.of _).trans (by kernel_rfl)) ((N.of _).trans (by kernel_rfl)) λs'' E' c=>?_
 obtain⟨g,B,X,T,a,t,u,oe,ot,ρ',H',rfl,tu,D',⟨J',rfl⟩,x,hl,R₂,G⟩:=c;have x':dg ρ (ρ'++[a,t]):=x.trans ⟨_,rfl⟩;refine BP (Γ:=Fe Γ g B X T) (en:=Du H.length) (il:=H.length+1) (ie:=ρ'.length) (it:=ρ'.length+1) (xs:=xs) hu ((N.mono x').turn) R₂ (by kernel_rfl) (by kernel_rfl) (by kernel_rfl) (by kernel_rfl) rfl rfl (ba (jQ 1)) hz ?_ ?_ ?_ ?_ G λh' tk R₃=>?_
 ·rw[hl,bp (bF _),fW];rfl
 ·rw[hl,bp (a9 _ _),bS];rfl
 ·rw[bp (bF _),fW];rfl
 ·rw[bp (a9 _ _),bS];rfl
 rw[tL,KA]at R₃;obtain⟨mm,objs,F,qn,ro,Nw⟩:=R₃.dy;refine wpAny_nameGoes_keeps ((N.of _).trans (by kernel_rfl)) F.ns (by rw[N.kind];rfl) λh6 v6 hn6 hs6=>?_
 refine jG (qq g B X T _ _ _ tu D' x' (R₃.re ⟨_,objs,F.set hn6 hs6,λy b e=>?_,ro,Nw.set hs6⟩ _));rw[gc]at e;dsimp only at e;cases z:y==Aw with
 |false=>rw[z]at e;exact aJ e
 |true=>
  rw[z]at e;obtain rfl:=bo z;have ne:¬Aw=VT:=ne_of_beq_false (by kernel_rfl);rw[if_neg ne];exact qn Aw b (kc e (by kernel_rfl))
noncomputable def GM(i:Nat):List AV:=([AV.str mf,.str mf,.str pj,.str pj]).take i
inductive C'(Γ:Wk w mean mg mb)(ρ:List aI)(P:mh)(H:Hp)(nk n:Nat)(I D:aI)(i:Nat)(s:aC):Prop
 |mk(g:fk)(B:oW Γ.A₀ Γ.base Γ.outer g)(X:(hp w.params).In g)(T:JO Γ.pT Γ.lT mean mg mb g)(ρ':List aI)(J:Hp)(o:dU)(tu:KtsTurn (H9 Γ) Γ.h₀ g)(d:rQ (H9 Γ) g)(x:dg ρ ρ')(oc:o.cls= .type "tuple_iterator")(od:o.data= .fields #[.ref D,.int i 0])(R:bM (Fe Γ g B X T) ρ' (P.ad [(I,o)] P.gb) (Oj H.length) (qe H nk n (GM i) J) s):C' Γ ρ P H nk n I D i s
theorem GN:∀{vs vs':List ar},bB ρ (ns.map AV.ref) vs->bB ρ' (ns.map AV.ref) vs'->dg ρ ρ'->vs'=vs:=by
 induction ns with
 |nil=>exact λr r' z=>(ch r'.len).trans (ch r.len).symm
 |cons n ns ih=>
  intro vs vs' r r' x;refine bB.hd (C:=λvs=>vs'=vs) r λv us h1 h2=>bB.hd (C:=λvs'=>vs'=v::us) r' λv' us' h1' h2'=>?_
  rw[ih h2 h2' x];refine congrArg (·::us) (db.R (C:=λv=>v'=v) h1 λc hc=>db.R (C:=λv'=>v'= .ref c) h1' λc' hc'=>?_);exact congrArg fD (aj (hc'.symm.trans (x.get hc)))
end
section
variable{msg:ax}{e:ar}
theorem KB{n':Nat}(h:H[nk]? =some (.tab 305 []))(t:TabAt H n' d l ts rows):TabAt (qe H nk n xs J) n' d l ts rows:=by
 have at':∀{i:Nat}{o:AO},H[i]? =some o->vZ o=false->(qe H nk n xs J)[i]? =some o:=λe f=>ba (fY (f:=vZ) h rfl e f)
 refine⟨at' t.i rfl,at' t.a rfl,at' t.l rfl,?_⟩;have r:=t.r;clear t;induction r with
 |nil=>exact .nil
 |cons e s' _ ih=>exact .cons (at' e rfl) s' ih
theorem GL(e:List (ax×gu)):f5 ⟨e,[(yD,H.length)],none⟩ (qe H nk n xs J) yD=some (.ref n):=by
 have h:=jQ (H:=H) (nk:=nk) (n:=n) (xs:=xs) (J:=J) 0;have h:(qe H nk n xs J)[H.length]? =some (.cell (some (.ref n))):=h;unfold f5;show(match (qe H nk n xs J)[H.length]? with|some o=>Ō o|none=>none)=_;rw[h];rfl
set_option tactic.hygienic true in
theorem Rd{d_:Nat}{pp:kF}{Q:lL->aC->Prop}{E:ar->aC->Prop}(h:H[nk]? =some (.tab 305 []))(t:TabAt H n d_ l ts rows)(htl:ts.length<=1000)(hy:gZ rows (aX (aa "y"))= .none)(hd:Γ.dp+5<aP)(hu:Γ.un+8*5<df)(hc:Γ.ccd= .ref 309)(hn:Γ.cn=q "_law_refused")(N:dC Γ ρ P (Du H.length) Γ.env)(XB:(hp w.params).In Γ.base)(TB:JO Γ.pT Γ.lT mean mg mb Γ.base)(D:rQ (H9 Γ) Γ.h₀)(R:bM Γ ρ P (Oj H.length) (H++[.cell (some (.ref n)),.lst []]) s)
  (qq:∀g B X T ρ' J s',KtsTurn (H9 Γ) Γ.h₀ g->dg ρ ρ'->bM (Fe Γ g B X T) ρ' P (Oj H.length) (qe H nk n (GM 4) J) s'->Q .next s'):aL (cJ w) Γ.A (exec (.For (.Name JA ⟨329,8,329,12⟩) (tg (Fi 1)) [GK] [] pp) Γ.env) Q E s:=by
 refine wpAny_For ((gF (xq hc hn) 8).1 (Du H.length) Γ.env (tg (Fi 1)) (Oj H.length) _ (λa H'=>a= .ref (H.length+10)∧H'=qe H nk n [] []) (Kz h ⟨rfl,?_⟩) ρ P s _ E N R λa v H₁ ρ₁ s₁ x₁ r₁ R₁ k=>?_) (λ_=>rfl)
 ·unfold qe
  rw[be]
 obtain⟨rfl,rfl⟩:=k;obtain⟨Dt,rfl,hD⟩:∃Dt,v= .ref Dt∧ρ₁[H.length+10]? =some Dt:=db.R (C:=λv=>∃Dt,v= .ref Dt∧ρ₁[H.length+10]? =some Dt) r₁ λc hc=>⟨c,rfl,hc⟩
 refine R₁.tupl hD (ia (f:=uv) (jQ 10) rfl) λvs rs z=>?_
 obtain⟨mm,objs,F,qn,ro,Ns⟩:=R₁.dy;have lt:∀p∈ρ₁.zip objs++P.rest,s₁.heap.objs.size≠p.1:=λp hp=>(bc (bw (Ns p hp).1)).symm
 obtain⟨ot,got,_⟩:=id z;refine mV z (TY (items:=vs.toArray) (T:=Dt) rfl (bc (bw got)) (C' Γ ρ₁ P H nk n s₁.heap.objs.size Dt) ?_ ?_ ?_ ⟨Γ.h₀,Γ.B,Γ.X,Γ.T,ρ₁,[],_,.refl,D,.refl _,rfl,rfl,R₁.adn (F.push _) qn ro (tD F Ns {cls:=.type "tuple_iterator",data:=.fields #[.ref Dt,.int 0 0]} rfl) (λp hp q hq=>a8.mp hp▸lt q (av _ hq)) R₁.g rfl rfl⟩)
 ·rintro i s₂ ⟨g,B,X,T,ρ₂,J,o,tu,d,x,oc,od,R₂⟩
  refine⟨?_,R₂.tupl (x.get hD) (ia (f:=uv) (jQ 10) rfl) λvs' rs' z'=>GN (ns:=[H.length+3,H.length+5,H.length+7,H.length+9]) rs rs' x▸z'⟩;obtain⟨_,_,_,_,_,Ns⟩:=R₂.dy;exact⟨o,(Ns (s₁.heap.objs.size,o) (au _ ah)).1,oc,od⟩
 ·rintro i s₂ v ⟨g,B,X,T,ρ₂,J,o,tu,d,x,oc,od,R₂⟩ hv h' tk ⟨o',ho',oc',od'⟩ hk
  have R₃:=(R₂.iter (n:=tk) (λp hp=>(lt p (au _ hp)).symm) hk).2 o' ho';have N₃:=((N.mono (x₁.trans x)).wide (P':=P.ad [(s₁.heap.objs.size,o')] P.gb) λp hp=>af _ hp).turn (B:=B) (X:=X) (T:=T);have O:cF (Fe Γ g B X T) xr:=xq hc hn;have hr:∀{k:Nat},([AV.ref (H.length+3),.ref (H.length+5),.ref (H.length+7),.ref (H.length+9)])[i]? =some (.ref k)->db ρ₂ (.ref k) v:=λe=>(rs.mono x).at e λu e2 r=>(aj ((bU.symm.trans hv).symm.trans e2)).symm▸r
  have hu2:Γ.un+2<df:=bh (aU (by decide) _) hu;have di:∀{xs:List AV}{J:Hp},NK (Ż H nk n xs) [(yD,H.length)] (qe H nk n xs J):=⟨n,d_,l,ts,rows,GL,KB h t,htl,hy,λT=>⟨_,tL⟩⟩;rcases i with _|_|_|_|i
  ·exact tK (Γ:=Fe Γ g B X T) (k:=H.length+3) (xs:=GM 0) (msg:=mf) hu2 O N₃ XB TB d (Zk hd hu) ⟨H.length+3,[(yD,H.length)],H.length+2,rfl,rfl,rfl,jQ 3,jQ 2,di⟩ (ae rfl) (hr rfl) R₃ λg' B' X' T' ρ'' J' s' tu' d' x' R'=>⟨g',B',X',T',ρ'',J',o',tu.trans tu',d',x.trans x',oc',od',R'⟩
  ·exact tK (Γ:=Fe Γ g B X T) (k:=H.length+5) (xs:=GM 1) (msg:=mf) hu2 O N₃ XB TB d (Zj hd hu) ⟨H.length+5,[(yD,H.length)],H.length+4,rfl,rfl,rfl,jQ 5,jQ 4,di⟩ (ae rfl) (hr rfl) R₃ λg' B' X' T' ρ'' J' s' tu' d' x' R'=>⟨g',B',X',T',ρ'',J',o',tu.trans tu',d',x.trans x',oc',od',R'⟩
  ·exact tK (Γ:=Fe Γ g B X T) (k:=H.length+7) (xs:=GM 2) (msg:=pj) hu2 O N₃ XB TB d (Zi hd hu) ⟨H.length+7,[],H.length+6,rfl,rfl,rfl,jQ 7,jQ 6,λT=>⟨_,tL⟩⟩ (ae rfl) (hr rfl) R₃ λg' B' X' T' ρ'' J' s' tu' d' x' R'=>⟨g',B',X',T',ρ'',J',o',tu.trans tu',d',x.trans x',oc',od',R'⟩
  ·exact tK (Γ:=Fe Γ g B X T) (k:=H.length+9) (xs:=GM 3) (msg:=pj) hu2 O N₃ XB TB d (Zh hd hu) ⟨H.length+9,[],H.length+8,rfl,rfl,rfl,jQ 9,jQ 8,λT=>⟨_,tL⟩⟩ (ae rfl) (hr rfl) R₃ λg' B' X' T' ρ'' J' s' tu' d' x' R'=>⟨g',B',X',T',ρ'',J',o',tu.trans tu',d',x.trans x',oc',od',R'⟩
  ·refine absurd (vP.mp hv).1 ?_
   rw[b9,rs.len];exact dm.mpr (eP 4 i)
 ·have hs:vs.toArray.size=4:=by rw[b9];exact rs.len
  rw[hs]
  rintro s₂ ⟨g,B,X,T,ρ₂,J,o,tu,d,x,oc,od,R₂⟩ h' tk hk
  exact qq g B X T ρ₂ J _ tu (x₁.trans x) (R₂.iter (n:=tk) (λp hp=>(lt p (au _ hp)).symm) hk).1
end
section
variable{msg:ax}{e:ar}
theorem Yg:(hp w.params).lookup 310=some (fO (q "_law_refused") (q "_law_refused") (fA (mS 31)) (fB (mS 31)) (fS (mS 31)) (.none) (.none) (q "law_ti0074_01") 683 309):=by kernel_rfl
theorem Yz:dP (hp w.params) (.ref 309) (q "_law_refused")=true:=by kernel_rfl
theorem XH:gg w (.ref 310)=true:=(by kernel_rfl:gi (hp w.params) (.ref 310)=true)
inductive Vg(as:List AV)(H:Hp)(K:KV):Prop
 |mk(n d l nk:Nat)(ts:List Nat)(rows:Rw)(ea:as=[.ref n])(h:H[nk]? =some (.tab 305 []))(t:TabAt H n d l ts rows)(hl:ts.length<=1000)(hy:gZ rows (aX (aa "y"))= .none)(k:∀J,K (.ref (H.length+1)) (qe H nk n (GM 4) J)):Vg as H K
noncomputable def Wr:Sp:=jq Vg
set_option tactic.hygienic true in
theorem Wp(ho:Γ.outer=[])(XB:(hp w.params).In Γ.base)(TB:JO Γ.pT Γ.lT mean mg mb Γ.base)(hd:Γ.dp+d'<aP)(hu:Γ.un+8*d'<df)(hb:aN 7 d'=true):iA Γ (.ref 310,Wr):=.of XH λρ P m H s Q E as vs K h R r b=>by
 obtain⟨n,d,l,nk,ts,rows,rfl,hnk,t,hl,hy,k⟩:=h;have hb:=ae hb;have hd5:Γ.dp+1+5<aP:=bh (by rw[cU];exact aU (aq (by decide) hb) _) hd;have hu5:Γ.un+3+8*5<df:=bh (by rw[cU];exact aU (aq (by decide) (g7 8 hb)) _) hu;obtain⟨mm,objs,F,qn,ro,N⟩:=R.dy;refine bB.c1 r λv rv=>?_
 have B0:oW Γ.A₀ Γ.base [] Γ.h₀:=ho▸Γ.B;have hA:Γ.A.frames=some [Γ.env]:=(show Γ.A.frames=some (Γ.env::Γ.outer)from rfl).trans (by rw[ho]);refine uj (BY (binds:=[(yD,v)]) B0 F Γ.X N Γ.T hA rfl Γ.hk Yg Yz Γ.rm (dz (by kernel_rfl)) (by kernel_rfl) (qA (by kernel_rfl)) (λg L' h₁ tk cells FG D F' N' Y B' X' T' l1=>?_) rfl rfl rfl);have rm:Γ.dp+1<aP:=bh (a9 _ _) hd5;have ru:Γ.un+3+8<df:=bh (aU (by decide) _) hu5;have B₁:oW Γ.A Γ.base (Γ.env::Γ.outer) g:=ho.symm▸B'
 let Γ':Wk w mean mg mb:=EC Γ (q "_law_refused") (fS (mS 31)) L' 310 309 g B₁ X' T' rfl rm ru
 obtain⟨τ,R₁,N₁⟩:∃τ,bM Γ' (ρ++τ) P (hW (fS (mS 31)).names [(yD,.ref n)]) (H++iZ [(yD,.ref n)] (cj (fS (mS 31)).names)) {s with heap:=h₁,toks:=tk}∧dC Γ' (ρ++τ) P ⟨(fS (mS 31)).names,yg (cj (fS (mS 31)).names) H.length,none⟩ Γ'.env:=Di (bs:=[(yD,v)]) (λx hx=>aB.mp (show((cj (fS (mS 31)).names).all λx=> !jx (fS (mS 31)).names x)=true by kernel_rfl) x hx) R ro (.cons rv .nil) (qA (by kernel_rfl)) rfl F' N' Y l1;have R₂:bM Γ' (ρ++τ) P [] (H++[.cell (some (.ref n))]) {s with heap:=h₁,toks:=tk}:=kc R₁ (by kernel_rfl);have N₂:dC Γ' (ρ++τ) P (Du H.length) Γ'.env:=kc N₁ (by kernel_rfl);have ef:H9 Γ'=[Γ.L]:=(show(Γ.env::Γ.outer).filterMap (·.frame)=[Γ.L]by rw[ho];rfl);have O:cF Γ' xr:=xq rfl rfl;have W:=gF O 8;rw[Wq];refine cy (nX O W.1 W.2 (kY O 8) (Fi 0) [] (H++[.cell (some (.ref n))]) (kg λm H'=>m=Oj H.length∧H'=H++[.cell (some (.ref n)),.lst []]) (kc ⟨bC _,aQ (by rw[aK];rfl) (aA ..)⟩ Rh) (ρ++τ) P _ _ _ N₂ R₂ λf fg m' H' ρ₁ s₁ x₁ r₁ R₃ k₁=>?_);induction r₁ with
 |next=>
  obtain⟨rfl,rfl⟩:=k₁;refine cy (Rd (Γ:=Γ') hnk t hl hy hd5 hu5 rfl rfl (N₂.mono x₁) XB TB (ef▸D) R₃ λg' B'' X'' T'' ρ₂ J s₂ tu x₂ R₄=>?_);have O₂:cF (Fe Γ' g' B'' X'' T'') xr:=xq rfl rfl;have W₂:=gF O₂ 8;refine cy (nX O₂ W₂.1 W₂.2 (kY O₂ 8) (Fi 2) _ _ (dT λa H'=>a= .ref (H.length+1)∧H'=qe H nk n (GM 4) J) (kc ⟨rfl,rfl⟩ Rf) ρ₂ P _ _ _ ((N₂.mono x₁).mono x₂).turn R₄ λf fg m' H' ρ₃ s₃ x₃ r₃ R₅ k₃=>?_);obtain⟨m₁,objs',F₁,_,ro',N₃⟩:=R₅.dy;have x':dg ρ ρ₃:=dg.trans ⟨τ,rfl⟩ ((x₁.trans x₂).trans x₃);induction r₃ with
  |ret r=>
   obtain⟨rfl,rfl⟩:=k₃;exact leaveS0_ F₁ N₃ (ef▸tu) λF₂ N₄=>b.put x' r ⟨⟨mm,objs',F₂,qn.mono x',ro',N₄⟩,R₅.ly,R₅.g,R₅.d,R₅.o⟩ (k J)
  |next=>exact bj (aj (show some true=some false from congrArg CZ k₃.1)).symm
  |_=>exact k₃.elim
 |_=>exact k₁.elim
end
section
noncomputable def s6:List Int->Bool
 |[]=>true
 |a::r=>r.all (λb=>decide (a<=b))&&s6 r
theorem CO:∀{l:List Int},s6 l=true->l.Pairwise (·<=·)
 |[],_=>.nil
 |a::r,h=>by
  have h:=(aM ..).mp (show(r.all (λb=>decide (a<=b))&&s6 r)=true from h);exact .cons (λb hb=>of_decide_eq_true (aB.mp h.1 b hb)) (CO h.2)
noncomputable def Gn:Sp:=jq λas H K=>lY as λa=>jY a λn=>aG (cH fG H n) λxs=>aG (jT mE xs) λns=>∃ms:List Int,(bJ ns.length 64=true∧s6 ms=true∧ms.Perm ns)∧K (.ref H.length) (H++[.lst (ms.map .int)])
theorem QA:iA Γ (.builtin "sorted",Gn):=.of rfl λρ P m H s Q E as vs K h R r b=>lY.el h r λa va h ra=>jY.el h ra λn c h hc=>aG.el h λxs h e=>aG.el h λns h e2=>by
 obtain⟨ms,⟨h1,h2,h3⟩,k⟩:=h;refine R.list hc e λvs rs l=>R.add λmm l' F N fin=>kso_sorted F N l (xQ rs e2) (ae h1) λD vs' ns' c h' F' N' lt hi z pm so z=>?_
 have e3:ns'=ms:=(pm.trans h3.symm).eq_of_pairwise (λa b z z p q=>NS p q) so (CO h2);exact b.put (dg.one ρ D) (R.top D) (fin D _ _ h' s.toks (λρ' x=>.lst c (zx (e3▸hi))) F' N' lt br) k
end
variable{X':Nm->Hp->Prop}{bs:List AV}{m':Nm}
section
inductive NF(H:Hp):Prop
 |mk(l3 l5:List (Nat×Nat×Nat))(h1:H[1]? =some (.tab 300 l3))(h2:H[2]? =some (.tab 305 l5)):NF H
structure jB(Γ:Wk w mean mg mb)(P:mh)(en:En)(X:Nm->Hp->Prop)(ss:List cP):Prop where
 go:∀(ρ:List aI)(m:Nm)(H:Hp)(s:aC)(Q:lL->aC->Prop)(E:ar->aC->Prop),X m H->dC Γ ρ P en Γ.env->bM Γ ρ P m H s->(∀m' H' ρ' s',bM Γ ρ' P m' H' s'->NF H'->Q (.ret (.bool true)) s')->aL (cJ w) Γ.A (kN ss Γ.env) Q E s
set_option tactic.hygienic true in
theorem jB.step{st:cP}(O:cF Γ T)(n:Nat)(h:∀m H,X m H->k5 en T (wk T (n+20)).1 (wk T (n+20)).2 (cg en T n) st m H (kg X'))(k:jB Γ P en X' r):jB Γ P en X (st::r):=.mk λρ m H s Q E x N R q=>
 cy (nX O (gF O (n+20)).1 (gF O (n+20)).2 (kY O n) st m H _ (h m H x) ρ P s _ E N R λf g m₁ H₁ ρ₁ s₁ x₁ r₁ R₁ y=>by
  induction r₁ with
  |next=>exact k.go ρ₁ m₁ H₁ s₁ _ E y (N.mono x₁) R₁ q
  |_=>exact y.elim)
def ŵ(a:AV):Prop:=match a with
 |.bool b=>b=true
 |_=>False
theorem cW.two{x:ax}{as:List (ax×AV)}(r:cW ρ ((x,a)::as) kv){C:Prop}(k:∀v us,kv=(x,v)::us->db ρ a v->cW ρ as us->C):C:=by
 generalize e:(x,a)::as=l at r;induction r with
 |nil=>exact(bf _ _ e).elim
 |@cons y b v as' us h r _=>
  obtain⟨e1,rfl⟩:=ca e;obtain⟨rfl,rfl⟩:=j6 e1;exact k v us rfl h r
theorem cW.z(r:cW ρ [] kv):kv=[]:=ch r.len
theorem de.hd{o:AO}{C:dU->Prop}(r:de w ρ o ob):match o with
  |.lst xs=>(∀vs k,bB ρ xs vs->C (jZ vs.toArray k))->C ob
  |.tup xs=>(∀vs,bB ρ xs vs->C (iy vs))->C ob
  |.dct kvs=>(∀vs,ob.IsDictOf (strKind aS w) vs->cW ρ kvs vs->C ob)->C ob
  |.cell c=>(match c with
   |some a=>(∀v,db ρ a v->ob.data= .cell (some v)->C ob)->C ob
   |none=>True)
  |_=>True:=by
 induction r with
 |lst k h=>exact λc=>c _ k h
 |tup h=>exact λc=>c _ h
 |dct hd h=>exact λc=>c _ hd h
 |cell h e=>exact λc=>c _ h e
 |_=>exact br
inductive Nx(ns:List Nat):AV->AV->Prop
 |sc{a:AV}(h:scal a=true):Nx ns a a
 |ref{j n:Nat}(h:ns[j]? =some n):Nx ns (.ref j) (.ref n)
inductive B7(ns:List Nat):List AV->List AV->Prop
 |nil:B7 ns [] []
 |cons{a b:AV}{as bs:List AV}(h:Nx ns a b)(r:B7 ns as bs):B7 ns (a::as) (b::bs)
inductive VJ(ns:List Nat):List (ax×AV)->List (ax×AV)->Prop
 |nil:VJ ns [] []
 |cons{x:ax}{a b:AV}{as bs:List (ax×AV)}(h:Nx ns a b)(r:VJ ns as bs):VJ ns ((x,a)::as) ((x,b)::bs)
inductive B8(ns:List Nat):AO->AO->Prop
 |wf{o:AO}(h:∀ρ,s4 ρ o):B8 ns o o
 |lst{xs ys:List AV}(h:B7 ns xs ys):B8 ns (.lst xs) (.lst ys)
 |tup{xs ys:List AV}(h:B7 ns xs ys):B8 ns (.tup xs) (.tup ys)
 |dct{xs ys:List (ax×AV)}(h:VJ ns xs ys):B8 ns (.dct xs) (.dct ys)
 |cell{a b:AV}(h:Nx ns a b):B8 ns (.cell (some a)) (.cell (some b))
inductive Pk(ns:List Nat)(H:Hp):List Nat->Hp->Prop
 |nil:Pk ns H [] []
 |cons{n:Nat}{o o':AO}{ks:List Nat}{H':Hp}(e:H[n]? =some o)(r:B8 ns o' o)(t:Pk ns H ks H'):Pk ns H (n::ks) (o'::H')
inductive Rm(ns:List Nat)(m:Nm):Nm->Prop
 |nil:Rm ns m []
 |cons{x:ax}{a a':AV}{l:Nm}(e:m.lookup x=some a)(r:Nx ns a' a)(t:Rm ns m l):Rm ns m ((x,a')::l)
section
variable(hr:∀(j n:Nat)(c:aI),ns[j]? =some n->ρ[n]? =some c->ρ'[j]? =some c)
include hr
theorem Nx.ok(h:Nx ns a b){v:ar}(r:db ρ b v):db ρ' a v:=by
 induction h with
 |sc h=>exact r.scal h
 |ref h=>exact db.R (C:=λv=>db ρ' _ v) r λc e=>.ref _ c (hr _ _ c h e)
theorem B7.ok(h:B7 ns as bs):∀{vs:List ar},bB ρ bs vs->bB ρ' as vs:=by
 induction h with
 |nil=>exact λr=>bB.c0 (C:=λvs=>bB ρ' [] vs) r .nil
 |cons h _ ih=>exact λr=>bB.hd (C:=λvs=>bB ρ' _ vs) r λz z h1 r=>.cons (h.ok hr h1) (ih r)
theorem VJ.ok{as bs:List (ax×AV)}(h:VJ ns as bs):∀{vs:List (ax×ar)},cW ρ bs vs->cW ρ' as vs:=by
 induction h with
 |nil=>exact λr=>r.z▸ .nil
 |cons h _ ih=>exact λr=>cW.two r λv us e h1 r=>e▸ .cons (h.ok hr h1) (ih r)
theorem B8.ok{a b:AO}(h:B8 ns a b)(r:de w ρ b ob):de w ρ' a ob:=by
 induction h with
 |wf h=>exact yp h r
 |lst h=>exact r.hd (C:=λob=>de w ρ' _ ob) λvs k r=>.lst k (h.ok hr r)
 |tup h=>exact r.hd (C:=λob=>de w ρ' _ ob) λvs r=>.tup (h.ok hr r)
 |dct h=>exact r.hd (C:=λob=>de w ρ' _ ob) λvs hd r=>.dct hd (h.ok hr r)
 |cell h=>exact r.hd (C:=λob=>de w ρ' _ ob) λv r e=>.cell (h.ok hr r) e
theorem B8.okA{a b:AO}(h:B8 ns a b):∀c,okA b c->okA a c:=by
 induction h with
 |_=>exact λz h=>h
end
theorem Pk.out{ns ks:List Nat}{H':Hp}(h:Pk ns H ks H'):ks.length=H'.length∧∀(j n:Nat)(o:AO),ks[j]? =some n->H'[j]? =some o->∃o',H[n]? =some o'∧B8 ns o o':=by
 induction h with
 |nil=>exact⟨rfl,λj n o e=>aJ e⟩
 |cons e r _ ih=>
  refine⟨congrArg eJ ih.1,λj n o f g=>?_⟩;cases j with
  |zero=>exact aj f▸aj g▸⟨_,e,r⟩
  |succ j=>exact ih.2 j n o f g
theorem Rm.out{ns:List Nat}{m:Nm}(h:Rm ns m m'){x:ax}:m'.lookup x=some a->∃b,m.lookup x=some b∧Nx ns a b:=by
 induction h with
 |nil=>exact λe=>aJ e
 |@cons y a1 a2 l e r _ ih=>
  intro f;rw[gc]at f;cases q:x==y with
  |true=>rw[q]at f;exact⟨_,(congrArg (mq · m) (bo q)).trans e,(aj f:a2=a)▸r⟩
  |false=>rw[q]at f;exact ih f
inductive Vo:Nat->List Nat->Prop
 |nil{a:Nat}:Vo a []
 |cons{a b:Nat}{l:List Nat}(h:a<b)(r:Vo b l):Vo a (b::l)
theorem Vo.out{a:Nat}{l:List Nat}(h:Vo a l):(∀b∈l,a<b)∧l.Nodup:=by
 induction h with
 |nil=>exact⟨λb h=>eN h,.nil⟩
 |cons h _ ih=>exact⟨λc hc=>(aE.mp hc).elim (λe=>e▸h) λhc=>dD h (ih.1 c hc),eM.mpr ⟨λhc=>dW _ (ih.1 _ hc),ih.2⟩⟩
noncomputable abbrev Vx:List Nat:=[0,1,2,3,4,5,6,7,8,9,10,11,12,13,14]
theorem X5{tl:List Nat}(h:Vo 14 tl):(Vx++tl).Nodup:=
 sG.mpr ⟨by decide,h.out.2,λa ha b hb e=>dm.mpr (ae (aB.mp (by decide:(Vx.all λa=>aN a 14)=true) a ha)) (e▸h.out.1 b hb)⟩
inductive An(X':Nm->Hp->Prop)(m:Nm)(H:Hp):Prop
 |mk(tl:List Nat)(m':Nm)(H':Hp)(hn:Vo 14 tl)(p:Pk (Vx++tl) H (Vx++tl) H')(q:Rm (Vx++tl) m m')(x:X' m' H'):An X' m H
theorem bM.pick{ns:List Nat}{H':Hp}(R:bM Γ ρ P m H s)(hn:ns.Nodup)(p:Pk ns H ns H')(q:Rm ns m m'){C:Prop}(k:∀ρ':List aI,(∀(j n:Nat)(c:aI),ns[j]? =some n->ρ[n]? =some c->ρ'[j]? =some c)->bM Γ ρ' P m' H' s->C):C:=by
 obtain⟨hl,hg⟩:=p.out;have up:∀(n:Nat)(b:aI),ρ[n]? =some b->ρ.getD n 0=b:=λn b e=>by rw[bm,e];rfl
 have hr:∀(j n:Nat)(c:aI),ns[j]? =some n->ρ[n]? =some c->(ns.map λn=>ρ.getD n 0)[j]? =some c:=λj n c e f=>by rw[bv,e];exact congrArg some (up n c f)
 have src:∀(j:Nat)(b:aI)(o:AO),(ns.map λn=>ρ.getD n 0)[j]? =some b->H'[j]? =some o->∃(n:Nat)(o':AO),ns[j]? =some n∧ρ[n]? =some b∧H[n]? =some o'∧B8 ns o o':=λj b o e f=>by
  rw[bv]at e;cases g:ns[j]? with
  |none=>rw[g]at e;exact aJ e
  |some n=>
   rw[g]at e;obtain⟨o',h1,h2⟩:=hg j n o g f;obtain⟨c,hc⟩:∃c,ρ[n]? =some c:=⟨_,bb (R.ly.ln▸(aH.mp h1).1)⟩;exact⟨n,o',rfl,hc.trans (congrArg some ((up n c hc).symm.trans (aj e))),h1,h2⟩
 have hlen:(ns.map λn=>ρ.getD n 0).length=H'.length:=(aD _).trans hl;have ob0:∀(j:Nat)(b:aI),(ns.map λn=>ρ.getD n 0)[j]? =some b->∃o,H'[j]? =some o:=λj b e=>⟨_,bb (hlen▸ii e)⟩
 obtain⟨mm,objs,F,q',ro,N⟩:=R.dy;obtain⟨os,ro2,sub⟩:=mw (w:=w) (ρ'':=ns.map λn=>ρ.getD n 0) (l:=ρ.zip objs) hlen λj b o e f=>(src j b o e f).elim λn h=>h.elim λo' h=>ro.at h.2.2.1 λob e2 r=>⟨ob,dK h.2.1 e2,h.2.2.2.ok hr r⟩
 refine k _ hr ⟨⟨mm,os,F,λx a e=>?_,ro2,λp hp=>N p ((aT.mp hp).elim (λhp=>av _ (sub p hp)) λhp=>au _ hp)⟩,⟨hlen,λj b e i f=>?_,λj b e=>?_,λj b o e f=>?_⟩,R.g,R.d,R.o⟩
 ·obtain⟨b,e1,e2⟩:=q.out e
  obtain⟨v,e3,r⟩:=q' x b e1;exact⟨v,e3,e2.ok hr r⟩
 ·obtain⟨o,ho⟩:=ob0 j b e
  obtain⟨o',ho'⟩:=ob0 i b f;obtain⟨n,_,z⟩:=src j b o e ho;obtain⟨n',_,z'⟩:=src i b o' f ho'
  have:=R.ly.each n b z.2.1 n' z'.2.1;subst this;exact(mr (ii (ρ:=ns) z'.1) hn).mp (z'.1.trans z.1.symm)
 ·obtain⟨o,ho⟩:=ob0 j b e
  obtain⟨n,_,z⟩:=src j b o e ho;exact R.ly.off n b z.2.1
 ·obtain⟨n,o',z⟩:=src j b o e f
  exact z.2.2.2.okA hr b (R.ly.lo n b o' z.2.1 z.2.2.1)
noncomputable abbrev lw(i:Nat):cP:=sA (fB (mS 32)) i
noncomputable abbrev e_:List ax:=[aa "numbers",aa "sums",aa "ahead",aa "sides",aa "owner",aa "units",aa "text",aa "ends",aa "table",aa "row",aa "number",aa "kept"]
noncomputable abbrev bV:En:=⟨(fS (mS 32)).names,e_.reverse.zip [3,4,5,6,7,8,9,10,11,12,13,14],none⟩
theorem K2:∀x j,bV.cl.lookup x=some j->j<15:=λx j e=>bx (aB.mp (by kernel_rfl:(bV.cl.all λp=>bJ p.2 15)=true) _ (jd e)|>ae) (bF _)
theorem jB.pick(h:∀m H,X m H->An X' m H)(k:jB Γ P bV X' r):jB Γ P bV X r:=.mk λρ m H s Q E x N R q=>by
 obtain⟨tl,m',H',hn,p,qm,x'⟩:=h m H x;have lo:∀j,j<15->(Vx++tl)[j]? =some j:=λj hj=>ba ((i5 hj:(cQ 15)[j]? =some j))
 refine R.pick (X5 hn) p qm λρ' hr R'=>k.go ρ' m' H' s _ E x' ⟨N.nk,N.kind,N.gl,N.bi,λx j e=>(N.cl x j e).imp λc h=>⟨h.1,hr j j c (lo j (K2 x j e)) h.2⟩,N.frame,λl e=>aJ e⟩ R' q
end
section
abbrev Y':=List (Nat×Nat×Nat)
noncomputable def Hr(sc:List AV)(t0 t5:Y')(cs:List (Option AV))(B:Hp):Hp:=.lst sc:: .tab 300 t0:: .tab 305 t5::(cs.map AO.cell++B)
noncomputable abbrev sS(x:String):ax:=aa x
theorem Ea(f:α->AV)(xs:List α)(a b c:Option Int):∃ys:List α,jJ (xs.map f) a b c=ys.map f∧∀y∈ys,y∈xs:=by
 unfold jJ;generalize AH _ _ _=r;induction r with
 |nil=>exact⟨[],rfl,λw h=>eN h⟩
 |cons i r ih=>
  obtain⟨ys,e,h⟩:=ih;cases q:xs[i]? with
  |none=>exact⟨ys,by rw[ce,bv,q];exact e,h⟩
  |some x=>exact⟨x::ys,by rw[ce,bv,q];exact congrArg _ e,λy hy=>(aE.mp hy).elim (λz=>z▸gC q) (h y)⟩
theorem n6(xs:List AV)(lo hi:Option Int):jJ xs lo hi none=(xs.drop (lo.elim 0 (mX xs.length))).take (hi.elim xs.length (mX xs.length) - lo.elim 0 (mX xs.length)):=by
 unfold jJ;rw[sliceBounds_plain];dsimp only;rw[sliceRange_one]
 have:=pick_run xs.toArray (lo.elim 0 (mX xs.length)) (hi.elim xs.length (mX xs.length) - lo.elim 0 (mX xs.length))
 simpa using this
noncomputable def s8:f6:=oa [] [] λz=>none
noncomputable abbrev jS:Nm:=[]
noncomputable abbrev c0:List (Option AV):=[none,none,none,none,none,none,none,none,none,none,none,none]
noncomputable abbrev c1:List (Option AV):=[none,none,none,none,none,none,none,none,none,none,none,some (.ref 15)]
inductive X1(sc:List AV)(m:Nm)(H:Hp):Prop
 |mk(zs:List Int)(hz:zs.length<=1000)(em:m=jS)(eh:H=Hr sc [] [] c1 [.lst (zs.map .int)]):X1 sc m H
theorem rT{x:AO}{L:Option (Nat×dU)->Hp->Prop}(e:H[n]? =some x)(h:∀o,L (some (n,o)) (H.set n (.pin x o))):pL (some n) H L:=λo=>aw e (h o)
theorem n5{x:AO}{P:Prop}(e:H[n]? =some (.pin x o))(h:P):iI (some (n,o)) H P:=aw e (aQ rfl h)
theorem lV{x:AO}(e:H[n]? =some (.pin x o))(h:L (H.set n x)):fX (some (n,o)) H L:=aw e (aQ rfl h)
end
section
def zY(T:f6)(n:Nat)(e:al)(en:En)(cl:List (ax×Nat))(m:Nm)(K:List AV->Hp->Prop)(its:List IT)(n':Option Nat)(H:Hp):Prop:=its.length<=aF∧pL n' H λpn H=>jA (wk T n).2 (u0 T n e) ⟨eU (nj e) en.nk,cl,none⟩ (g0 e).target (g0 e).ifs pn its m H λys H=>fX pn H λH=>K ys H
noncomputable abbrev eK(e:al):List (ax×Nat):=(qT bV.cl (nj e).names []).getD []
noncomputable def qK:f6:=oa [(.builtin "sum",Oc),(.type "range",ng)] [] λz=>none
abbrev GJ(K:Prop):Prop:=(cN 0 4 1=true∧cf 0 4 1=((4 - 0:Int).toNat:Int))∧K
noncomputable abbrev xM:List IT:=[.val (.int 0),.val (.int 1),.val (.int 2),.val (.int 3)]
noncomputable abbrev sT:AO:=.tup [.int 48096,.int 102205,.int 122475,.int 82128]
def Wf(L:List AV)(k:Int)(K:List AV->List Int->Prop):Prop:=4<=aF∧(-(2^63)<=k∧k<2^63)∧(some (4:Int)≠some 0∧L.length<=aF)∧iz (jJ L (some k) none (some 4)) λy=>aG (jT mE y) λn=>K y n
theorem S8{sc L:List AV}:k5 bV qK (wk qK 28).1 (wk qK 28).2 (cg bV qK 8) (lw 1) jS (Hr sc [] [] c1 [.lst L]) (kg X)=fP qK 27 (gL (lw 1)) bV jS (Hr sc [] [] c1 [.lst L]) λys h=>fb bV (sS "sums") (.ref h.length) jS (h++[.lst ys]) X:=by kernel_rfl
theorem S7{H:Hp}(K:List AV->Hp->Prop):fP qK 27 (gL (lw 1)) bV jS H K=lz qK 27 (gL (lw 1)) bV (eK (gL (lw 1))) jS H K:=by kernel_rfl
theorem S6{sc L:List AV}(F:List IT->Option Nat->Hp->Prop):nO qK 27 (gL (lw 1)) bV jS (Hr sc [] [] c1 [.lst L]) F=GJ (F xM (some 16) (Hr sc [] [] c1 [.lst L,.rng 0 4])):=by kernel_rfl
theorem S5{sc L:List AV}:zY qK 27 (gL (lw 1)) bV (eK (gL (lw 1))) jS (λys h=>fb bV (sS "sums") (.ref h.length) jS (h++[.lst ys]) X) xM (some 16) (Hr sc [] [] c1 [.lst L,.rng 0 4])=(4<=aF∧∀o:dU,o=o∧Wf L 0 λy0 n0=>o=o∧Wf L 1 λy1 n1=>o=o∧Wf L 2 λy2 n2=>o=o∧Wf L 3 λy3 n3=>o=o∧o=o∧X jS (Hr sc [] [] [none,none,none,none,none,none,none,none,none,none,some (.ref 25),some (.ref 15)] [.lst L,.rng 0 4,sT,.lst y0,sT,.lst y1,sT,.lst y2,sT,.lst y3,.lst [.int (48096+n0.sum),.int (102205+n1.sum),.int (122475+n2.sum),.int (82128+n3.sum)]])):=by kernel_rfl
theorem kI(ns:List Int)(ρ:List aI):s4 ρ (.lst (ns.map .int)):=by
 induction ns with
 |nil=>exact⟨[],.nil⟩
 |cons n ns ih=>exact ih.elim λvs h=>⟨.int n 0::vs,.cons (.int _ _) h⟩
theorem xk{zs:List Int}{k:Int}{K:List AV->List Int->Prop}(hz:zs.length<=1000)(hk: -(2^63)<=k∧k<2^63)(k':∀y n,K y n):Wf (zs.map .int) k K:=
 (Ea AV.int zs (some k) none (some 4)).elim λys h=>⟨ae rfl,hk,⟨by decide,aq (aD _▸hz) (ae rfl)⟩,bX (aw (h.1▸su ys) (k' _ _))⟩
noncomputable abbrev c2:List (Option AV):=[none,none,none,none,none,none,none,none,none,none,some (.ref 16),some (.ref 15)]
noncomputable abbrev rV(sc:List AV)(zs:List Int)(cs:List (Option AV))(S0 S1 S2 S3:Int)(B:Hp):Hp:=Hr sc [] [] cs (.lst (zs.map .int):: .lst [.int S0,.int S1,.int S2,.int S3]::B)
inductive X2(sc:List AV)(m:Nm)(H:Hp):Prop
 |mk(zs:List Int)(S0 S1 S2 S3:Int)(em:m=jS)(eh:H=rV sc zs c2 S0 S1 S2 S3 []):X2 sc m H
theorem n4:B8 ns (.cell none) (.cell none):=.wf λz z h=>aJ h
theorem Fh(h:ns[j]? =some n):B8 ns (.cell (some (.ref j))) (.cell (some (.ref n))):=.cell (.ref h)
theorem Oi(a:aI):B8 ns (.tab a []) (.tab a []):=.wf λz=>⟨[],.nil⟩
theorem ī{zs:List Int}{sc:List AV}(hz:zs.length<=1000)(hs:∀ρ,s4 ρ (.lst sc)):k5 bV qK (wk qK 28).1 (wk qK 28).2 (cg bV qK 8) (lw 1) jS (Hr sc [] [] c1 [.lst (zs.map .int)]) (kg (An (X2 sc))):=
 kc (ga (eK (gL (lw 1))) S7 S6 ⟨by decide,kc (aQ (ae rfl) λo=>⟨rfl,xk hz (by decide) λy0 n0=>⟨rfl,xk hz (by decide) λy1 n1=>⟨rfl,xk hz (by decide) λy2 n2=>⟨rfl,xk hz (by decide) λy3 n3=>⟨rfl,rfl,
  .mk [15,25] jS (rV sc zs c2 (48096+n0.sum) (102205+n1.sum) (122475+n2.sum) (82128+n3.sum) []) (.cons (by decide) (.cons (by decide) .nil))
   (.cons rfl (.wf hs) (.cons rfl (Oi _) (.cons rfl (Oi _) (.cons rfl n4 (.cons rfl n4 (.cons rfl n4 (.cons rfl n4 (.cons rfl n4 (.cons rfl n4 (.cons rfl n4 (.cons rfl n4 (.cons rfl n4 (.cons rfl n4 (.cons rfl (Fh rfl) (.cons rfl (Fh rfl) (.cons rfl (.wf (kI zs)) (.cons rfl (.wf λρ=>kI [_,_,_,_] ρ) .nil))))))))))))))))) .nil ⟨zs,_,_,_,_,rfl,rfl⟩⟩⟩⟩⟩⟩) S5⟩) S8
end
section
variable{sc:List AV}{zs:List Int}{S0 S1 S2 S3:Int}
abbrev bg(k:Int)(P:Prop):Prop:=(-(2^63)<=k∧k<2^63)∧P
def UV(k:Int)(as:List AV)(K:AV->Prop):Prop:=(-(2^63)<=k∧k<2^63)∧aG (eT k as.length) λj=>aG as[j]? λa=>K a
def VF(x:ax)(k:Int)(K:ax->Prop):Prop:=((0<=k∧k<(x.length:Int))∧x.length<=1048576)∧K (gj x k)
noncomputable def xE:f6:=oa [] [] λz=>none
noncomputable abbrev c3:List (Option AV):=[none,none,none,none,none,none,none,none,none,some (.ref 18),some (.ref 16),some (.ref 15)]
noncomputable abbrev ť(b c d:AV):List (ax×AV):=[(cb 0,.str (sS "")),(cb 1,b),(cb 2,c),(cb 3,d)]
noncomputable abbrev ZI:List AV:=[.str (sS ""),.str (sS "a")]
theorem S4:k5 bV xE (wk xE 28).1 (wk xE 28).2 (cg bV xE 8) (lw 2) jS (rV sc zs c2 S0 S1 S2 S3 []) (kg X)=(2<=aF∧bg 1 ((2:Int)≠0∧UV (S1.fmod 2) ZI λb=>bg 2 ((2:Int)≠0∧VF (sS "ab") (S2.fmod 2) λc=>bg 3 ((3:Int)≠0∧VF (sS "abc") (S3.fmod 3) λd=>X jS (rV sc zs c3 S0 S1 S2 S3 [.tup ZI,.dct (ť b (.str c) (.str d))]))))):=by kernel_rfl
noncomputable def V?:al->al
 |.DictComp k _ _ _ _=>k
 |e=>e
noncomputable def k_:al->al
 |.DictComp _ v _ _ _=>v
 |e=>e
abbrev Iq(T:f6)(n:Nat)(e:al):En->Nm->Hp->(ax×AV->Hp->Prop)->Prop:=λen m H K=>(wk T n).1 en (V? e) m H λa H=>kE a λx=>(wk T n).1 en (k_ e) m H λb H=>K (x,b) H
def JB(T:f6)(n:Nat)(e:al)(en:En)(m:Nm)(H:Hp)(K:List (ax×AV)->Hp->Prop):Prop:=nE (α:=ax×AV) T (wk T n).1 (wk T n).2 (Iq T n e) en (Ģ e) (nj e) m H K
def ê(T:f6)(n:Nat)(e:al)(en:En)(cl:List (ax×Nat))(m:Nm)(K:List (ax×AV)->Hp->Prop)(its:List IT)(n':Option Nat)(H:Hp):Prop:=its.length<=aF∧pL n' H λpn H=>jA (wk T n).2 (Iq T n e) ⟨eU (nj e) en.nk,cl,none⟩ (g0 e).target (g0 e).ifs pn its m H λys H=>fX pn H λH=>K ys H
def Zl(T:f6)(n:Nat)(e:al)(en:En)(cl:List (ax×Nat))(m:Nm)(H:Hp)(K:List (ax×AV)->Hp->Prop):Prop:=v7 T (wk T n).1 en (g0 e).iter m H λits n' H=>ê T n e en cl m K its n' H
theorem tM{en:En}{K:List (ax×AV)->Hp->Prop}(cl:List (ax×Nat))(e1:∀K,JB T n e en m H K=Zl T n e en cl m H K)(e2:∀L,nO T n e en m H L=Qp L)(h:Qp (ê T n e en cl m K)):JB T n e en m H K:=kc (.pl (kc h (e2 _))) (e1 K)
noncomputable def qI:f6:=oa [(.type "range",ng)] [] λz=>none
noncomputable abbrev BI(b c d:AV)(B:Hp):Hp:=.tup ZI:: .dct (ť b c d)::B
abbrev ž(ps:List (ax×AV))(m:Nm)(H:Hp)(X:Nm->Hp->Prop):Prop:=kh ps=true∧fb bV (sS "pieces") (.ref H.length) m (H++[.dct ps]) X
theorem SZ:k5 bV qI (wk qI 28).1 (wk qI 28).2 (cg bV qI 8) (lw 3) jS H (kg X)=(jx bV.nk (sS "pieces")=true∧JB qI 28 (gL (lw 3)) bV jS H λps h=>ž ps jS h X):=by kernel_rfl
theorem SY(K:List (ax×AV)->Hp->Prop):JB qI 28 (gL (lw 3)) bV jS H K=Zl qI 28 (gL (lw 3)) bV (eK (gL (lw 3))) jS H K:=by kernel_rfl
theorem SX{c d:AV}(F:List IT->Option Nat->Hp->Prop):nO qI 28 (gL (lw 3)) bV jS (rV sc zs c3 S0 S1 S2 S3 (BI b c d [])) F=GJ (F xM (some 19) (rV sc zs c3 S0 S1 S2 S3 (BI b c d [.rng 0 4]))):=by kernel_rfl
noncomputable abbrev WB(n:Nat):Hp:=[.lst [],.lst [.str (sS "\\(")],.lst [.str (sS "\\)")],.lst [.str (sS "\\\\")],.tup [.ref n,.ref (n+1),.ref (n+2),.ref (n+3)]]
def WA(k:Int)(n:Nat)(S:Int)(K:AV->Prop):Prop:=((0<=k∧k<4)∧4<=1048576)∧0<=aF∧1<=aF∧1<=aF∧1<=aF∧4<=aF∧bg k (((30720:Int)≠0∧dn S 30720=false)∧(4:Int)≠0∧UV ((S.fdiv 30720).fmod 4) [.ref n,.ref (n+1),.ref (n+2),.ref (n+3)] K)
theorem SW{c d:AV}:ê qI 28 (gL (lw 3)) bV (eK (gL (lw 3))) jS (λps h=>ž ps jS h X) xM (some 19) (rV sc zs c3 S0 S1 S2 S3 (BI b c d [.rng 0 4]))=(4<=aF∧∀o:dU,o=o∧WA 0 20 S0 λp0=>o=o∧WA 1 25 S1 λp1=>o=o∧WA 2 30 S2 λp2=>o=o∧WA 3 35 S3 λp3=>o=o∧o=o∧kh [(cb 0,p0),(cb 1,p1),(cb 2,p2),(cb 3,p3)]=true∧
 X [(sS "pieces",.ref 40)] (rV sc zs c3 S0 S1 S2 S3 (BI b c d (.rng 0 4::(WB 20++(WB 25++(WB 30++(WB 35++[.dct [(cb 0,p0),(cb 1,p1),(cb 2,p2),(cb 3,p3)]])))))))):=by kernel_rfl
theorem zP{S:Int}(hn:0<n){C:Int->Prop}(h:∀k∈(cQ n).map um,C k):C (S.fmod n):=by
 have h0:=d5 S (dH.mpr hn);exact h _ (bY.mpr ⟨_,dM.mpr ((Int.toNat_lt h0).mpr (fe S (dH.mpr hn))),qj h0⟩)
theorem a1{C:α->Prop}{a:α}{l:List α}(h:C a)(r:∀k∈l,C k):∀k∈a::l,C k:=λz hk=>(aE.mp hk).elim (λe=>e▸h) (r _)
theorem a0{C:α->Prop}:∀k∈([]:List α),C k:=λz h=>eN h
theorem Ţ{S:Int}{K:AV->Prop}(g:∀b∈[sS "",cb 0],K (.str b)):UV (S.fmod 2) ZI K:=
 zP (n:=2) (C:=λk=>UV k ZI K) (by decide) (a1 ⟨by decide,aw (x:=0) rfl (aw (x:=_) rfl (g _ ah))⟩ (a1 ⟨by decide,aw (x:=1) rfl (aw (x:=.str (cb 0)) (by kernel_rfl) (g _ (af _ ah)))⟩ a0))
theorem š{S:Int}{K:ax->Prop}(g:∀b∈[cb 0,cb 1],K b):VF (sS "ab") (S.fmod 2) K:=
 zP (n:=2) (C:=λk=>VF (sS "ab") k K) (by decide) (a1 ⟨by decide,g _ ah⟩ (a1 ⟨by decide,g _ (af _ ah)⟩ a0))
theorem Š{S:Int}{K:ax->Prop}(g:∀b∈[cb 0,cb 1,cb 2],K b):VF (sS "abc") (S.fmod 3) K:=
 zP (n:=3) (C:=λk=>VF (sS "abc") k K) (by decide) (a1 ⟨by decide,g _ ah⟩ (a1 ⟨by decide,g _ (af _ ah)⟩ (a1 ⟨by decide,g _ (af _ (af _ ah))⟩ a0)))
noncomputable abbrev Rk:List (List ax):=[[],[sS "\\("],[sS "\\)"],[sS "\\\\"]]
theorem xu{k:Int}{S:Int}{K:AV->Prop}(hk:(0<=k∧k<4)∧4<=1048576∧(-(2^63)<=k∧k<2^63))(g:∀(j:Nat)(l:List ax),j<4->l∈Rk->(WB n)[j]? =some (.lst (dI l))->K (.ref (n+j))):WA k n S K:=by
 have one:1<=aF:=ae rfl;refine⟨⟨hk.1,hk.2.1⟩,bC _,one,one,one,ae rfl,hk.2.2,⟨by decide,by kernel_rfl⟩,by decide,zP (n:=4) (C:=λk=>UV k _ K) (by decide) (a1 ⟨by decide,aw (x:=0) rfl (aw (x:=_) rfl (g 0 _ (by decide) ah rfl))⟩ (a1 ⟨by decide,aw (x:=1) rfl (aw (x:=_) rfl (g 1 _ (by decide) (af _ ah) rfl))⟩ (a1 ⟨by decide,aw (x:=2) rfl (aw (x:=_) rfl (g 2 _ (by decide) (af _ (af _ ah)) rfl))⟩ (a1 ⟨by decide,aw (x:=3) rfl (aw (x:=_) rfl (g 3 _ (by decide) (af _ (af _ (af _ ah))) rfl))⟩ a0))))⟩
theorem Ī(k:∀b∈[sS "",cb 0],∀c∈[cb 0,cb 1],∀d∈[cb 0,cb 1,cb 2],X jS (rV sc zs c3 S0 S1 S2 S3 (BI (.str b) (.str c) (.str d) []))):k5 bV xE (wk xE 28).1 (wk xE 28).2 (cg bV xE 8) (lw 2) jS (rV sc zs c2 S0 S1 S2 S3 []) (kg X):=
 kc ⟨ae rfl,by decide,by decide,Ţ λb hb=>⟨by decide,by decide,š λc hc=>⟨by decide,by decide,Š λd hd=>k b hb c hc d hd⟩⟩⟩ S4
structure LD where
 zs:List Int
 S0:Int
 S1:Int
 S2:Int
 S3:Int
 b:ax
 c:ax
 d:ax
 l0:List ax
 l1:List ax
 l2:List ax
 l3:List ax
structure EW(D:LD):Prop where
 hb:D.b∈[sS "",cb 0]
 hc:D.c∈[cb 0,cb 1]
 hd:D.d∈[cb 0,cb 1,cb 2]
 h0:D.l0∈Rk
 h1:D.l1∈Rk
 h2:D.l2∈Rk
 h3:D.l3∈Rk
noncomputable abbrev fm:Nm:=[(sS "pieces",.ref 22)]
noncomputable abbrev c4:List (Option AV):=[none,none,none,none,none,none,none,none,none,some (.ref 17),some (.ref 16),some (.ref 15)]
noncomputable abbrev ij(D:LD):List (ax×AV):=ť (.str D.b) (.str D.c) (.str D.d)
noncomputable abbrev Vv:List (ax×AV):=[(cb 0,.ref 18),(cb 1,.ref 19),(cb 2,.ref 20),(cb 3,.ref 21)]
noncomputable def jw(sc:List AV)(cs:List (Option AV))(D:LD)(B:Hp):Hp:=rV sc D.zs cs D.S0 D.S1 D.S2 D.S3 (.dct (ij D):: .lst (dI D.l0):: .lst (dI D.l1):: .lst (dI D.l2):: .lst (dI D.l3):: .dct Vv::B)
inductive X4(sc:List AV)(m:Nm)(H:Hp):Prop
 |mk(D:LD)(h:EW D)(em:m=fm)(eh:H=jw sc c4 D []):X4 sc m H
theorem yk{L a τ:List α}{o:α}(e:a[j]? =some o)(h:L.drop n=a++τ):L[n+j]? =some o:=by
 rw[<-List.getElem?_drop,h];exact ba e
theorem xS{a b:Nat}(h:j<4)(e:aN (a+4) b=true):a+j<b+i:=bx (g8 h a) (aq (ae e) (a9 b i))
theorem Ti{a b:Nat}(e:bJ a b=true):a<b+i:=bx (ae e) (a9 b i)
theorem ĩ(hs:∀ρ,s4 ρ (.lst sc)){b d:ax}(hb:b∈[sS "",cb 0])(hc:c∈[cb 0,cb 1])(hd:d∈[cb 0,cb 1,cb 2]):k5 bV qI (wk qI 28).1 (wk qI 28).2 (cg bV qI 8) (lw 3) jS (rV sc zs c3 S0 S1 S2 S3 (BI (.str b) (.str c) (.str d) [])) (kg (An (X4 sc))):=
 kc ⟨by kernel_rfl,tM (eK (gL (lw 3))) SY SX ⟨by decide,kc (aQ (ae rfl) λo=>⟨rfl,xu (by decide) λj0 l0 i0 h0 e0=>⟨rfl,xu (by decide) λj1 l1 i1 h1 e1=>⟨rfl,xu (by decide) λj2 l2 i2 h2 e2=>⟨rfl,xu (by decide) λj3 l3 i3 h3 e3=>⟨rfl,rfl,by kernel_rfl,
  .mk [15,16,18,20+j0,25+j1,30+j2,35+j3,40] fm (jw sc c4 ⟨zs,S0,S1,S2,S3,b,c,d,l0,l1,l2,l3⟩ [])
   (.cons (by decide) (.cons (by decide) (.cons (by decide) (.cons (Ti rfl) (.cons (xS i0 rfl) (.cons (xS i1 rfl) (.cons (xS i2 rfl) (.cons (xS (i:=0) i3 rfl) .nil))))))))
   (.cons rfl (.wf hs) (.cons rfl (Oi _) (.cons rfl (Oi _) (.cons rfl n4 (.cons rfl n4 (.cons rfl n4 (.cons rfl n4 (.cons rfl n4 (.cons rfl n4 (.cons rfl n4 (.cons rfl n4 (.cons rfl n4 (.cons rfl (Fh rfl) (.cons rfl (Fh rfl) (.cons rfl (Fh rfl) (.cons rfl (.wf (kI zs)) (.cons rfl (.wf λρ=>kI [_,_,_,_] ρ) (.cons rfl (.wf (pF rfl))
    (.cons (yk e0 rfl) (.wf (kZ l0)) (.cons (yk e1 rfl) (.wf (kZ l1)) (.cons (yk e2 rfl) (.wf (kZ l2)) (.cons (yk e3 rfl) (.wf (kZ l3)) (.cons rfl (.dct (.cons (.ref rfl) (.cons (.ref rfl) (.cons (.ref rfl) (.cons (.ref rfl) .nil))))) .nil)))))))))))))))))))))))
   (.cons rfl (.ref rfl) .nil) ⟨_,⟨hb,hc,hd,h0,h1,h2,h3⟩,rfl,rfl⟩⟩⟩⟩⟩⟩) SW⟩⟩ SZ
end
end Mine
namespace Mine.PL
variable{α:Type}{n k:Nat}
section
set_option backward.match.sparseCases true
noncomputable def fz(x:UInt64)(k:UInt64->α):α:=DS (motive:=λz=>α) x.toNat (k (kO (nat_lit 0))) (λm=>k (kO (eJ m)))
theorem ls(x:UInt64)(k:UInt64->α):fz x k=k x:=by
 have e:∀n:Nat,DS (motive:=λz=>α) n (k (kO 0)) (λm=>k (kO (eJ m)))=k (kO n):=λn=>by cases n<;>rfl
 have h:kO x.toNat=x:=by simp
 exact(e x.toNat).trans (by rw[h])
noncomputable def i?(n:Nat)(k:Nat->α):α:=DS (motive:=λz=>α) n (k (nat_lit 0)) (λm=>k (eJ m))
theorem TV(n:Nat)(k:Nat->α):i? n k=k n:=by cases n<;>rfl
theorem zV(a b:Nat)(x y:α):cond (aN a b) x y=if a<=b then x else y:=by
 by_cases h:a<=b
 ·rw[bk h,if_pos h];rfl
 ·have:aN a b=false:=by
   cases hb:aN a b with
   |false=>rfl
   |true=>exact absurd (ae hb) h
  rw[this,if_neg h];rfl
theorem Hw(h:2^k<=n):n.log2=k+(n / 2^k).log2:=by
 have hp:0<2^k:=Nat.two_pow_pos k;have hn:n≠0:=cu (bx hp h);have hd:n / 2^k≠0:=cu (Nat.div_pos h hp);refine(NO hn).mpr ?_;obtain⟨h1,h2⟩:=(NO hd).mp rfl;generalize (n / 2^k).log2=j at *
 constructor
 ·rw[DR]
  calc 2^k*2^j<=2^k*(n / 2^k):=g7 _ h1
   _<=n:=Nat.mul_div_le n (2^k)
 ·have:=(oV hp).mp h2
  rw[show k+j+1=(j+1)+k from d4 k (j+1),DR];exact this
noncomputable def Em(P k:Nat)(cont:Nat->Nat->Nat)(n acc:Nat):Nat:=cond (aN P n) (i? (Nat.div n P) λn'=>cont n' (sZ acc k)) (cont n acc)
noncomputable def lg(n:Nat):Nat:=cond (aN (AS (nat_lit 2) (nat_lit 2048)) n) n.log2
 (Em (AS (nat_lit 2) (nat_lit 1024)) (nat_lit 1024) (Em (AS (nat_lit 2) (nat_lit 512)) (nat_lit 512) (Em (AS (nat_lit 2) (nat_lit 256)) (nat_lit 256) (Em (nat_lit 340282366920938463463374607431768211456) (nat_lit 128)
 (Em (nat_lit 18446744073709551616) (nat_lit 64) (Em (nat_lit 4294967296) (nat_lit 32) (Em (nat_lit 65536) (nat_lit 16) (Em (nat_lit 256) (nat_lit 8) (Em (nat_lit 16) (nat_lit 4) (Em (nat_lit 4) (nat_lit 2) (Em (nat_lit 2) (nat_lit 1) λz a=>a)))))))))) n (nat_lit 0))
set_option tactic.hygienic true in
theorem lm{cont:Nat->Nat->Nat}(hc:∀n acc,n<2^k->cont n acc=acc+n.log2)(n acc:Nat)(h:n<2^(k+k)):Em (2^k) k cont n acc=acc+n.log2:=by
 unfold Em;rw[zV,TV]
 split
 ·rename_i hq
  rw[hc,Hw hq,Nat.add_eq,cU]
  ·rfl
  ·rw[DR]at h
   exact Nat.div_lt_of_lt_mul h
 ·rename_i hq
  exact hc n acc (im.mp hq)
set_option tactic.hygienic true in
theorem Xi(n:Nat):lg n=n.log2:=by
 unfold lg;rw[zV]
 split
 ·rfl
 ·rename_i h
  have c1:∀n acc,n<2^1->(λ(_:Nat)(a:Nat)=>a) n acc=acc+n.log2:=λn acc h=>by
   rcases Nat.le_one_iff_eq_zero_or_eq_one.mp (sY h)with rfl|rfl
   ·exact(Nat.add_zero acc).symm
   ·show acc=acc+Nat.log2 1
    exact(congrArg (acc+·) (by decide:Nat.log2 1=0)).symm
  have:=lm (k:=1024) (lm (k:=512) (lm (k:=256) (lm (k:=128) (lm (k:=64) (lm (k:=32) (lm (k:=16) (lm (k:=8) (lm (k:=4) (lm (k:=2) (lm (k:=1) c1)))))))))) n 0 (by
   have h:¬2^2048<=n:=h;exact Nat.lt_of_not_le h)
  rw[fi]at this;exact this
noncomputable def Q7(n d:Nat):{z:Nat // z=DU n d}:=⟨_,i6 (by unfold DU;simp only [<-Xi];rfl)⟩
noncomputable def xA(s:Bool)(n d:Nat):{z:UInt64 // z=uq s n d}:=⟨_,i6 (by unfold uq;rw[<-(Q7 n d).2])⟩
noncomputable def Bw(s:Bool)(m:Nat)(e:Int):{z:UInt64 // z=Jl s m e}:=⟨_,i6 (by unfold Jl;simp only [<-(xA _ _ _).2];rfl)⟩
noncomputable def ZK(x y:UInt64):{z:UInt64 // z=bQ x y}:=⟨_,i6 (by unfold bQ;simp only [<-(Bw _ _ _).2];rfl)⟩
noncomputable def U8(x y:UInt64):UInt64:=fz x λx=>fz y λy=>(ZK x y).1
theorem oR(x y:UInt64):U8 x y=bQ x y:=by unfold U8;rw[ls,ls];exact(ZK x y).2
noncomputable def Wb(x y:UInt64):UInt64:=fz (Float64.neg y) (U8 x)
theorem m9(x y:UInt64):Wb x y=aY x y:=(by unfold Wb;rw[ls,oR];unfold aY;rfl)
noncomputable def W1(x y:UInt64):{z:UInt64 // z=bG x y}:=⟨_,i6 (by unfold bG;simp only [<-(Bw _ _ _).2];rfl)⟩
noncomputable def Hg(x y:UInt64):UInt64:=fz x λx=>fz y λy=>(W1 x y).1
theorem oH(x y:UInt64):Hg x y=bG x y:=by unfold Hg;rw[ls,ls];exact(W1 x y).2
noncomputable def Zb(x y:UInt64):{z:UInt64 // z=bK x y}:=⟨_,i6 (by unfold bK;simp only [<-(xA _ _ _).2];rfl)⟩
noncomputable def Zc(x y:UInt64):UInt64:=fz x λx=>fz y λy=>(Zb x y).1
theorem ue(x y:UInt64):Zc x y=bK x y:=by unfold Zc;rw[ls,ls];exact(Zb x y).2
noncomputable def OX(x y:UInt64):{z:UInt64 // z=wY x y}:=⟨_,i6 (by unfold wY;simp only [<-(Bw _ _ _).2];rfl)⟩
noncomputable def OY(x y:UInt64):UInt64:=fz x λx=>fz y λy=>(OX x y).1
theorem Ic(x y:UInt64):OY x y=wY x y:=by unfold OY;rw[ls,ls];exact(OX x y).2
noncomputable def T4(x:UInt64):{z:UInt64 // z=Fs x}:=⟨_,i6 (by unfold Fs kX;simp only [<-Ic,<-oR,<-ue,<-m9];rfl)⟩
noncomputable def Ŵ(a b c:UInt64):{z:UInt64 // z=vF a b c}:=⟨_,i6 (by unfold vF;simp only [<-oR,<-oH,<-m9,<-(T4 _).2];rfl)⟩
noncomputable def vR(a b c:UInt64):{z:UInt64 // z=vF a b c}:=⟨fz a λa=>fz b λb=>fz c λc=>(Ŵ a b c).1,by rw[ls,ls,ls];exact(Ŵ a b c).2⟩
noncomputable def Ms(a b c:UInt64):{z:F3 // z=Jy a b c}:=⟨_,i6 (by unfold Jy Yv;simp only [<-oR,<-oH,<-m9,<-(vR _ _ _).2];rfl)⟩
noncomputable def Yb(r g b m c:UInt64):{z:Option UInt64 // z=wB r g b m c}:=⟨_,i6 (by unfold wB ED;simp only [<-oR,<-m9,<-ue,show ∀x,(kX x 4607182418800017408).2=(T4 x).1 from λx=>(T4 x).2.symm];rfl)⟩
noncomputable def HX(a b c:UInt64):{z:Option F3 // z=zF a b c}:=⟨_,i6 (by unfold zF;simp only [<-m9,<-ue,<-(Yb _ _ _ _ _).2];rfl)⟩
noncomputable def H1(a b c:UInt64):{z:Option F3 // z=zH a b c}:=⟨_,i6 (by unfold zH;simp only [<-oR,<-m9,<-ue,<-(Yb _ _ _ _ _).2];rfl)⟩
noncomputable def Yd(a b c:UInt64):{z:Option F3 // z=Ye a b c}:=⟨_,i6 (by unfold Ye Tv Tu Tt Tz;simp only [<-oH,<-m9];rfl)⟩
noncomputable def O1(a b:Int):{z:UInt64 // z=dv a b}:=⟨_,i6 (by unfold dv;rw[<-(xA _ _ _).2])⟩
noncomputable def wC(odd:Bool)(s l:Int):Bool:=(s==0)||(odd&&(l==8))
noncomputable def CF(g:Bool)(h:Int)(x1 sp v:UInt64)(R:Int):Bool:=
 fz (Hg x1 (ig 64)) λy=>(dw y&&(gQ v R==some fH))&&(((č y).fmod 64==(bif g then 0 else h))&&(â sp==g))
noncomputable def Ę(s l:Int):Int:=if l<5 then l*(4+s)else 4*l+8*s - l*s
noncomputable def G3(o:Option α)(k:α->Bool):Bool:=match o with
 |some x=>k x
 |none=>false
theorem tP{o:Option α}{k:α->Bool}(h:G3 o k=true):∃x,o=some x∧k x=true:=by
 cases o with
 |none=>exact bj h
 |some x=>exact⟨x,rfl,h⟩
noncomputable def Ml(a b c:UInt64):Bool:= !cM a&&(!cM b&& !cM c)
noncomputable def Bx(h s l:Int):Bool:=fz (O1 h 64).1 λa=>fz (O1 l 8).1 λb=>fz (O1 s 4).1 λc=>Ml a b c&&fz (Ms a b c).1.1 λr=>fz (Ms a b c).1.2.1 λg=>fz (Ms a b c).1.2.2 λbl=>G3 (HX r g bl).1 λx=>fz x.1 λx1=>fz x.2.1 λx2=>fz (Hg x.2.2 (ig 32)) λv=>CF (wC true s l) h x1 x2 v (Ę s l)
noncomputable def uX(h s l:Int):Bool:=fz (O1 h 64).1 λa=>fz (O1 l 8).1 λb=>fz (O1 s 4).1 λc=>Ml a b c&&G3 (Yd a c b).1 λd=>fz d.1 λr=>fz d.2.1 λg=>fz d.2.2 λbl=>G3 (H1 r g bl).1 λx=>fz x.1 λx1=>fz x.2.2 λx2=>fz (Hg x.2.1 (ig 64)) λv=>CF (wC false s l) h x1 x2 v (l*(8 - s))
noncomputable def u7(f:Int->Int->Int->Bool)(s:Nat):Bool:=(cQ 64).all λh=>(cQ 8).all λl=>f h s ((l:Int)+1)
noncomputable def allB(f:Int->Int->Int->Bool):Bool:=(cQ 5).all (u7 f)
theorem ZH{p:Nat->Bool}(h0:p 0=true)(h1:p 1=true)(h2:p 2=true)(h3:p 3=true)(h4:p 4=true):(cQ 5).all p=true:=by
 show(p 0&&(p 1&&(p 2&&(p 3&&(p 4&&true)))))=true;rw[h0,h1,h2,h3,h4];rfl
end
section
set_option backward.match.sparseCases true
theorem WJ:u7 Bx 0=true:=by decide+kernel
theorem WI:u7 Bx 1=true:=by decide+kernel
theorem WH:u7 Bx 2=true:=by decide+kernel
theorem WG:u7 Bx 3=true:=by decide+kernel
theorem WF:u7 Bx 4=true:=by decide+kernel
theorem U7:allB Bx=true:=ZH WJ WI WH WG WF
end
section
set_option backward.match.sparseCases true
theorem T9:u7 uX 0=true:=by decide+kernel
theorem T8:u7 uX 1=true:=by decide+kernel
theorem T7:u7 uX 2=true:=by decide+kernel
theorem T6:u7 uX 3=true:=by decide+kernel
theorem T5:u7 uX 4=true:=by decide+kernel
theorem Nn:allB uX=true:=ZH T9 T8 T7 T6 T5
end
end Mine.PL
namespace Mine
variable{n y k:Int}{a b c:UInt64}
section
set_option backward.match.sparseCases true
noncomputable def uw(g:Bool)(h:Int):Int:=bif g then 0 else if 22<=h∧h<54 then 1 else -1
namespace PL
noncomputable def Ņ(h:Int):Bool:=G3 (g5 (cR h) GG 64 0 2) λr=>((r==0)&&(uw false h== -1))||(((r==1)&&(uw false h==1))||((r==2)&&(uw false h== -1)))
theorem ME:((cQ 64).all λh=>Ņ h)=true:=by decide+kernel
theorem BC{z:Int}(h1:0<=z)(h2:z<n):∃k:Nat,z=k∧k<n.toNat:=⟨z.toNat,(qj h1).symm,(Int.toNat_lt_toNat (dQ h1 h2)).mpr h2⟩
theorem HU(y:Int):∃h:Nat,jo y=h∧h<64:=BC (d5 _ (by decide)) (fe _ (by decide))
theorem IU{f:Int->Int->Int->Bool}(h:allB f=true)(y:Int):f (jo y) (dq y) (cY y)=true:=by
 obtain⟨a,e1,h1⟩:=HU y;obtain⟨b,e2,h2⟩:∃b:Nat,dq y=b∧b<5:=BC (d5 _ (by decide)) (fe _ (by decide));obtain⟨c,e3,h3⟩:∃c:Nat,(y.fdiv 3840).fmod 8=c∧c<8:=BC (d5 _ (by decide)) (fe _ (by decide));have e4:cY y=(c:Int)+1:=by unfold cY;rw[e3,AZ]
 rw[e1,e2,e4];exact aB.mp (aB.mp (aB.mp h b (dM.mpr h2)) a (dM.mpr h1)) c (dM.mpr h3)
theorem CE{g:Bool}{x1 sp v:UInt64}{R:Int}(h:CF g (jo y) x1 sp v R=true):Told sp x1 g (jo y) (uw g (jo y)) (bif g then 0 else jo y)∧(gQ v R==some fH)=true:=by
 unfold CF at h;rw[ls,oH]at h;simp only [aM]at h;have e1:D8 x1=bif g then 0 else jo y:=bo h.2.1
 have e2:=bo h.2.2;refine⟨?_,h.1.2⟩;cases g with
 |true=>exact⟨h.1.1,λx=>rfl,λe=>bj (e.symm.trans e2),λx=>rfl,λe=>bj e.symm,λe=>bj e.symm,λe=>bj e.symm,λx=>rfl,λe=>bj e.symm,e1⟩
 |false=>
  refine⟨h.1.1,λe=>bj (e2.symm.trans e),λx=>?_,λe=>bj e,λx l=>if_neg λk=>Int.not_le.mpr l k.1,λx l r=>if_pos ⟨l,r⟩,λx l=>if_neg λk=>nV.mpr l k.2,λe=>bj e,λx=>rfl,e1⟩;obtain⟨a,e3,h3⟩:=HU y;have z:=aB.mp ME a (dM.mpr h3);rw[<-e3]at z;obtain⟨r,er,hr⟩:=tP z;have e1:D8 x1=jo y:=e1;rw[e1];simp only [jk,aM,beq_iff_eq]at hr;exact⟨r,er,hr⟩
theorem HR(h:Ml a b c=true):cM a=false∧cM b=false∧cM c=false:=by
 unfold Ml at h;simp only [aM,eI]at h;exact h
theorem Rl(y:Int)(hk:k.fmod 2=0∨k.fmod 2=1):EU k y (uw (nD k y) (jo y)):=by
 rcases hk with hk|hk
 ·have h:=IU Nn y
  unfold uX at h;simp only [ls,(O1 _ _).2,(Yd _ _ _).2,(H1 _ _ _).2,oH,aM]at h;obtain⟨hi,ho⟩:=h;obtain⟨d,hd,ho⟩:=tP ho;obtain⟨x,hx,ht⟩:=tP ho;have eg:nD k y=wC false (dq y) (cY y):=by unfold nD wC;rw[hk];rfl
  obtain⟨t,hr⟩:=CE ht;obtain⟨i1,i2,i3⟩:=HR hi;exact .even hk i1 i2 i3 d x hd hx _ (eg▸t) hr
 ·have h:=IU U7 y
  unfold Bx at h;simp only [ls,(O1 _ _).2,(Ms _ _ _).2,(HX _ _ _).2,oH,aM]at h;obtain⟨hi,ho⟩:=h;obtain⟨x,hx,ht⟩:=tP ho;have eg:nD k y=wC true (dq y) (cY y):=by unfold nD wC;rw[hk];rfl
  obtain⟨t,hr⟩:=CE ht;obtain⟨i1,i2,i3⟩:=HR hi;exact .odd hk i1 i2 i3 x hx _ (eg▸t) hr
end PL
end
end Mine
namespace Mine.LW
variable{X:Nm->Hp->Prop}{T0 T1 T2 T3 k:Int}
variable{w:gf}{mean:jj->Option ar}{mg:ax->Option ar}{mb:ax->Option ar}{Γ:Wk w mean mg mb}{ρ:List aI}{ρ':List aI}{P:mh}{m:Nm}{H:Hp}{s:aC}{s':aC}{K:KV}{en:En}
section
variable{sc:List AV}{D:LD}
noncomputable def qH:f6:=oa [(.ref 274,Os),(.type "range",ng)] [] λz=>none
def yG(k S:Int)(P:Int->Prop):Prop:=bg k (∃T,EU k S T∧P T)
noncomputable abbrev c5:List (Option AV):=[none,none,none,none,none,none,none,none,some (.ref 28),some (.ref 17),some (.ref 16),some (.ref 15)]
noncomputable abbrev sd(T:Int):AO:=.tup [.int T,.bool true]
noncomputable abbrev xn(T0 T1 T2 T3:Int)(B:Hp):Hp:=.rng 0 4::sd T0::sd T1::sd T2::sd T3:: .lst [.ref 24,.ref 25,.ref 26,.ref 27]::B
theorem SV:k5 bV qH (wk qH 28).1 (wk qH 28).2 (cg bV qH 8) (lw 4) fm H (kg X)=fP qH 27 (gL (lw 4)) bV fm H λys h=>fb bV (sS "sides") (.ref h.length) fm (h++[.lst ys]) X:=by kernel_rfl
theorem SU(K:List AV->Hp->Prop):fP qH 27 (gL (lw 4)) bV fm H K=lz qH 27 (gL (lw 4)) bV (eK (gL (lw 4))) fm H K:=by kernel_rfl
theorem SS(F:List IT->Option Nat->Hp->Prop):nO qH 27 (gL (lw 4)) bV fm (jw sc c4 D []) F=GJ (F xM (some 23) (jw sc c4 D [.rng 0 4])):=by kernel_rfl
theorem SR:zY qH 27 (gL (lw 4)) bV (eK (gL (lw 4))) fm (λys h=>fb bV (sS "sides") (.ref h.length) fm (h++[.lst ys]) X) xM (some 23) (jw sc c4 D [.rng 0 4])=(4<=aF∧∀o:dU,o=o∧yG 0 D.S0 λT0=>o=o∧yG 1 D.S1 λT1=>o=o∧yG 2 D.S2 λT2=>o=o∧yG 3 D.S3 λT3=>o=o∧o=o∧X fm (jw sc c5 D (xn T0 T1 T2 T3 []))):=by kernel_rfl
noncomputable def pO:f6:=oa [(.ref 281,KP 5),(.type "range",ng)] [] λz=>none
noncomputable abbrev Ot:al:=eA (MM (gL (lw 5))) 0
noncomputable abbrev ė:List ax:=[sS "owner",sS "units"]
def Ee(X:Nm->Hp->Prop)(kvs:List (ax×AV))(H:Hp):Prop:=kh kvs=true∧yH (wk pO 27).1 bV [eA (MM (gL (lw 5))) 1] fm (H++[.dct kvs]) λas h=>(AV.ref H.length::as).length<=aF∧xo bV ė h.length fm (h++[.tup (.ref H.length::as)]) (kg X) none
theorem SQ:k5 bV pO (wk pO 28).1 (wk pO 28).2 (cg bV pO 8) (lw 5) fm (jw sc c5 D H) (kg X)=(false=false∧JB pO 26 Ot bV fm (jw sc c5 D H) (Ee X)):=by kernel_rfl
theorem SP(K:List (ax×AV)->Hp->Prop):JB pO 26 Ot bV fm H K=Zl pO 26 Ot bV (eK Ot) fm H K:=by kernel_rfl
theorem SO(F:List IT->Option Nat->Hp->Prop):nO pO 26 Ot bV fm (jw sc c5 D (xn T0 T1 T2 T3 [])) F=GJ (F xM (some 29) (jw sc c5 D (xn T0 T1 T2 T3 [.rng 0 4]))):=by kernel_rfl
def WE(k:Int)(P:Prop):Prop:=((0<=k∧k<4)∧4<=1048576)∧bg k (bg 0 P)
noncomputable abbrev hU(T0 T1 T2 T3:Int):List (ax×AV):=[(cb 0,.int T0),(cb 1,.int T1),(cb 2,.int T2),(cb 3,.int T3)]
theorem SN:ê pO 26 Ot bV (eK Ot) fm (Ee X) xM (some 29) (jw sc c5 D (xn T0 T1 T2 T3 [.rng 0 4]))=(4<=aF∧∀o:dU,o=o∧WE 0 (o=o∧WE 1 (o=o∧WE 2 (o=o∧WE 3 (o=o∧o=o∧Ee X (hU T0 T1 T2 T3) (jw sc c5 D (xn T0 T1 T2 T3 [.rng 0 4]))))))):=by kernel_rfl
theorem SM:Ee X (hU T0 T1 T2 T3) (jw sc c5 D (xn T0 T1 T2 T3 [.rng 0 4]))=(kh (hU T0 T1 T2 T3)=true∧I4 5 [.str (sS ""),.ref 17,.ref 22] (jw sc c5 D (xn T0 T1 T2 T3 [.rng 0 4,.dct (hU T0 T1 T2 T3)])) λu h=>([AV.ref 30,u]:List AV).length<=aF∧xo bV ė h.length fm (h++[.tup [.ref 30,u]]) (kg X) none):=by kernel_rfl
noncomputable abbrev c6:List (Option AV):=[none,none,none,none,none,none,some (.ref 31),some (.ref 30),some (.ref 28),some (.ref 17),some (.ref 16),some (.ref 15)]
noncomputable abbrev o3(T0 T1 T2 T3:Int)(us:List ax):Hp:=[.rng 0 4,.dct (hU T0 T1 T2 T3),.lst (dI us),.tup [.ref 30,.ref 31]]
theorem SL{us:List ax}:xo bV ė (jw sc c5 D (xn T0 T1 T2 T3 [.rng 0 4,.dct (hU T0 T1 T2 T3),.lst (dI us)])).length fm (jw sc c5 D (xn T0 T1 T2 T3 [.rng 0 4,.dct (hU T0 T1 T2 T3),.lst (dI us)])++[.tup [.ref 30,.ref 31]]) (kg X) none=X fm (jw sc c6 D (xn T0 T1 T2 T3 (o3 T0 T1 T2 T3 us))):=by kernel_rfl
noncomputable def xD:f6:=oa [(.builtin "str.join",rY)] [mM "str" "join"] λz=>none
noncomputable abbrev c7(x:ax):List (Option AV):=[none,none,none,none,none,some (.str x),some (.ref 31),some (.ref 30),some (.ref 28),some (.ref 17),some (.ref 16),some (.ref 15)]
theorem SK{us:List ax}:k5 bV xD (wk xD 28).1 (wk xD 28).2 (cg bV xD 8) (lw 6) fm (jw sc c6 D (xn T0 T1 T2 T3 (o3 T0 T1 T2 T3 us))) (kg X)=aG (jT gX (dI us)) λts=>iF (sS "") ts=true∧X fm (jw sc (c7 (cq (sS "") ts)) D (xn T0 T1 T2 T3 (o3 T0 T1 T2 T3 us))):=by kernel_rfl
noncomputable abbrev rE:List Int:=[0,1,-1]
theorem Ki(g:Bool)(h:Int):uw g h∈rE:=by
 unfold uw;cases g with
 |true=>exact ah
 |false=>
  show(if 22<=h∧h<54 then(1:Int)else -1)∈rE
  split
  ·exact af _ ah
  ·exact af _ (af _ ah)
theorem xz{S:Int}{K:Int->Prop}(h1: -(2^63)<=k∧k<2^63)(h2:k.fmod 2=0∨k.fmod 2=1)(q:∀T∈rE,K T):yG k S K:=⟨h1,_,PL.Rl S h2,q _ (Ki _ _)⟩
theorem Ĩ(q:∀T0∈rE,∀T1∈rE,∀T2∈rE,∀T3∈rE,X fm (jw sc c5 D (xn T0 T1 T2 T3 []))):k5 bV qH (wk qH 28).1 (wk qH 28).2 (cg bV qH 8) (lw 4) fm (jw sc c4 D []) (kg X):=
 kc (ga (eK (gL (lw 4))) SU SS ⟨by decide,kc (aQ (ae rfl) λo=>⟨rfl,xz (by decide) (.inl rfl) λT0 h0=>⟨rfl,xz (by decide) (.inr rfl) λT1 h1=>⟨rfl,xz (by decide) (.inl rfl) λT2 h2=>⟨rfl,xz (by decide) (.inr rfl) λT3 h3=>⟨rfl,rfl,q T0 h0 T1 h1 T2 h2 T3 h3⟩⟩⟩⟩⟩) SR⟩) SV
noncomputable def Û(D:LD):List (ax×List ax):=[(cb 0,D.l0),(cb 1,D.l1),(cb 2,D.l2),(cb 3,D.l3)]
noncomputable def xw(D:LD)(y:ax):Option (List ax):=(Û D).lookup y
noncomputable def sK(D:LD):List ax:=(ph (ij D) (xw D) 5 (sS "")).getD []
noncomputable def qt(D:LD):ax:=cq (sS "") (sK D)
theorem Oq{H:Hp}(h0:cH fG H 18=some (dI D.l0))(h1:cH fG H 19=some (dI D.l1))(h2:cH fG H 20=some (dI D.l2))(h3:cH fG H 21=some (dI D.l3)):I1 H Vv (xw D):=λy l e=>
 (Mine.a1 ⟨18,by kernel_rfl,h0⟩ (Mine.a1 ⟨19,by kernel_rfl,h1⟩ (Mine.a1 ⟨20,by kernel_rfl,h2⟩ (Mine.a1 ⟨21,by kernel_rfl,h3⟩ Mine.a0))):∀p∈Û D,∃n,Vv.lookup p.1=some (.ref n)∧cH fG H n=some (dI p.2)) (y,l) (jd e)
theorem ħ(e:ph (ij D) (xw D) 5 (sS "")=some (sK D))(q:X fm (jw sc c6 D (xn T0 T1 T2 T3 (o3 T0 T1 T2 T3 (sK D))))):k5 bV pO (wk pO 28).1 (wk pO 28).2 (cg bV pO 8) (lw 5) fm (jw sc c5 D (xn T0 T1 T2 T3 [])) (kg X):=
 have st:∀{k:Int}{P:Prop},(0<=k∧k<4)->(-(2^63)<=k∧k<2^63)->P->WE k P:=λh1 h2 p=>⟨⟨h1,by decide⟩,h2,by decide,p⟩
 kc ⟨rfl,tM (eK Ot) SP SO ⟨by decide,kc (aQ (ae rfl) λo=>⟨rfl,st (by decide) (by decide) ⟨rfl,st (by decide) (by decide) ⟨rfl,st (by decide) (by decide) ⟨rfl,st (by decide) (by decide) ⟨rfl,rfl,kc ⟨by kernel_rfl,
  .mk (sS "") 17 22 (ij D) Vv (xw D) (sK D) rfl rfl rfl (Oq rfl rfl rfl rfl) (ae rfl) e ⟨ae rfl,kc q SL⟩⟩ SM⟩⟩⟩⟩⟩) SN⟩⟩ SQ
theorem Ħ(e:iF (sS "") (sK D)=true)(q:X fm (jw sc (c7 (qt D)) D (xn T0 T1 T2 T3 (o3 T0 T1 T2 T3 (sK D))))):k5 bV xD (wk xD 28).1 (wk xD 28).2 (cg bV xD 8) (lw 6) fm (jw sc c6 D (xn T0 T1 T2 T3 (o3 T0 T1 T2 T3 (sK D)))) (kg X):=
 kc (aw (kJ (sK D)) ⟨e,q⟩) SK
end
variable{T Z h:Hp}{as bs ys xs zs:List AV}{ps:List (Int×ax)}{y:AO}{o:dU}{n:Nat}{Y:AV->Hp->Prop}{a:AV}
section
variable{sc:List AV}{D:LD}{us:List ax}{x:ax}
theorem oN{α:Type}{tr:Tr}{el:En->Nm->Hp->(α->Hp->Prop)->Prop}{en:En}{tgt:al}{ifs:List al}{pn:Option (Nat×dU)}(J:List IT->List α->Hp->Prop)(pk:∀its ys H(P:Prop),J its ys H->P->iI pn H P)
  (turn:∀it its ys H(Y:α->Hp->Prop)(N:Hp->Prop),J (it::its) ys H->(∀a H,J its (ys++[a]) H->Y a H)->(∀H,J its ys H->N H)->iv tr el en tgt ifs it m H Y N):∀(its:List IT)(ys:List α)(H:Hp)(K:List α->Hp->Prop),J its ys H->(∀zs H,J [] (ys++zs) H->K zs H)->jA tr el en tgt ifs pn its m H K
 |[],ys,H,K,j,k=>pk _ _ _ _ j (k [] H ((be ys).symm▸j))
 |it::its,ys,H,K,j,k=>pk _ _ _ _ j (turn it its ys H _ _ j (λa H j=>oN J pk turn its (ys++[a]) H _ j λzs H j=>k (a::zs) H (aA ys [a] zs▸j)) λH j=>oN J pk turn its ys H _ j k)
inductive du(H:Hp):List AV->List (Int×ax)->Prop
 |nil:du H [] []
 |cons{n:Nat}{p:Int}{u:ax}{as:List AV}{ps:List (Int×ax)}(h:H[n]? =some (.tup [.int p,.str u]))(r:du H as ps):du H (.ref n::as) ((p,u)::ps)
theorem du.app(h:du H as ps):du (H++T) as ps:=by
 induction h with
 |nil=>exact .nil
 |cons h _ ih=>exact .cons (ba h) ih
theorem du.add{qs:List (Int×ax)}(h:du H as ps)(k:du H bs qs):du H (as++bs) (ps++qs):=by
 induction h with
 |nil=>exact k
 |cons h _ ih=>exact .cons h ih
theorem du.set{k:Nat}{z:AO}(h:du H as ps)(e:H[k]? =some (.pin z o)):du (H.set k y) as ps:=by
 induction h with
 |nil=>exact .nil
 |@cons n p u as ps h _ ih=>
  refine .cons ?_ ih
  by_cases q:n=k
  ·exact aJ ((congrArg (·.bind uv) (e.symm.trans ((congrArg (H[·]?) q.symm).trans h)):none=some [AV.int p,.str u]))
  ·exact(eS q).trans h
theorem du.len(h:du H as ps):as.length=ps.length:=by
 induction h with
 |nil=>rfl
 |cons _ _ ih=>exact congrArg eJ ih
noncomputable abbrev Ŝ:al->al
 |.BinOp l _ _ _=>l
 |e=>e
noncomputable abbrev Zz:al->al
 |.BinOp _ _ r _=>r
 |e=>e
noncomputable def oY:f6:=oa [(.builtin "str.join",rY),(.builtin "len",sM),(.type "range",ng)] [mM "str" "join"] λz=>none
noncomputable abbrev GR:al:=Ŝ (gL (lw 7))
noncomputable abbrev jm(sc:List AV)(D:LD)(T0 T1 T2 T3:Int)(us:List ax)(x:ax)(B:Hp):Hp:=jw sc (c7 x) D (xn T0 T1 T2 T3 (.rng 0 4:: .dct (hU T0 T1 T2 T3):: .lst (dI us):: .tup [.ref 30,.ref 31]::B))
abbrev Ž(X:Nm->Hp->Prop)(ys:List AV)(h:Hp):Prop:=(wk oY 27).1 bV (Zz (gL (lw 7))) fm (h++[.lst ys]) λb h'=>vB .Add (.ref h.length) b h' λa h''=>fb bV (sS "places") a fm h'' X
theorem SJ:k5 bV oY (wk oY 28).1 (wk oY 28).2 (cg bV oY 8) (lw 7) fm H (kg X)=fP oY 26 GR bV fm H (Ž X):=by kernel_rfl
theorem SI(K:List AV->Hp->Prop):fP oY 26 GR bV fm H K=lz oY 26 GR bV (eK GR) fm H K:=by kernel_rfl
theorem SH(F:List IT->Option Nat->Hp->Prop):nO oY 26 GR bV fm (jm sc D T0 T1 T2 T3 us x []) F=K7 (.ref 31) (jm sc D T0 T1 T2 T3 us x []) λa h=>lB a λn=>DZ h (.rng 0 n) F:=by kernel_rfl
noncomputable abbrev K1(sc:List AV)(D:LD)(T0 T1 T2 T3:Int)(us:List ax)(x:ax)(n:Int)(o:dU)(Z:Hp):Hp:=jm sc D T0 T1 T2 T3 us x (.pin (.rng 0 n) o::Z)
def Wu(us:List ax)(k:Int)(h:Hp)(Y:AV->Hp->Prop):Prop:=((none:Option Int)≠some 0∧(dI us).length<=aF)∧iz (jJ (dI us) none (some (k+1)) none) λys=>aG (cH fG (h++[AO.lst ys]) h.length) λxs=>aG (jT gX xs) λts=>iF (sS "") ts=true∧((cq (sS "") ts).length:Int)<2^63∧UV k (dI us) λu=>2<=aF∧Y (.ref (h++[AO.lst ys]).length) (h++[AO.lst ys]++[AO.tup [.int ((cq (sS "") ts).length - 1),u]])
theorem SG{n:Int}{N:Hp->Prop}:iv (wk oY 26).2 (u0 oY 26 GR) ⟨eU (nj GR) bV.nk,eK GR,none⟩ (g0 GR).target (g0 GR).ifs (.val (.int k)) fm (K1 sc D T0 T1 T2 T3 us x n o Z) Y N=Wu us k (K1 sc D T0 T1 T2 T3 us x n o Z) Y:=by kernel_rfl
noncomputable abbrev me(a:AV):Nm:=[(sS "pieces",.ref 22),(sS "places",a)]
def Op(x:ax)(ys:List AV)(h:Hp)(X:Nm->Hp->Prop):Prop:=(x.length:Int)<2^63∧2<=aF∧1<=aF∧vB .Add (.ref h.length) (.ref (h++[AO.lst ys]++[AO.tup [.int x.length,.str (sS "\\")]]).length) (h++[AO.lst ys]++[AO.tup [.int x.length,.str (sS "\\")]]++[.lst [.ref (h++[AO.lst ys]).length]]) λa h=>X (me a) h
theorem SF:Ž X ys (jm sc D T0 T1 T2 T3 us x Z)=Op x ys (jm sc D T0 T1 T2 T3 us x Z) X:=by kernel_rfl
theorem join_list(l:List ax):(cq (sS "") l).cps.toList=l.flatMap λs=>s.cps.toList:=by
 rw[bo (join_plain_closes (sS "") l),(by kernel_rfl:sS ""=⟨#[]⟩)];induction l with
 |nil=>rfl
 |cons x r ih=>
  rw[join_nil_cons,sI,<-ih];exact Cq
theorem HL:∀{us:List ax},(∀u∈us,u.length<=100)->(cq (sS "") us).length<=us.length*100:=λ{us} h=>by
 have e:(cq (sS "") us).length=(us.flatMap λy=>y.cps.toList).length:=by
  rw[<-join_list];exact(cG).symm
 rw[e];clear e;induction us with
 |nil=>exact bC _
 |cons u us ih=>
  rw[sI,aK,iW,AQ,d4];exact hM (ih λv hv=>h v (af _ hv)) (h u ah)
noncomputable def Vu(us:List ax)(k:Nat):Int×ax:=(((cq (sS "") (us.take (k+1))).length:Int) - 1,us.getD k (sS ""))
noncomputable def Fj(us:List ax)(x:ax):List (Int×ax):=(cQ us.length).map (Vu us)++[((x.length:Int),sS "\\")]
structure Aj(us:List ax):Prop where
 hl:us.length<=100
 hu:∀u∈us,u.length<=100
theorem Aj.join(h:Aj us):iF (sS "") us=true:=xL (aq h.hl (by decide)) λu hu=>aq (h.hu u hu) (by decide)
inductive C?(sc:List AV)(D:LD)(T0 T1 T2 T3:Int)(us:List ax)(x:ax)(n:Int)(o:dU)(its:List IT)(ys:List AV)(H:Hp):Prop
 |mk(i r:Nat)(Z:Hp)(el:its=vX 0 i r)(hi:i+r=us.length)(eh:H=K1 sc D T0 T1 T2 T3 us x n o Z)(ep:du H ys ((cQ i).map (Vu us))):C? sc D T0 T1 T2 T3 us x n o its ys H
theorem uf(h:n<=10000):n<=aF:=aq h (ae rfl)
theorem UU{k:Nat}{K:AV->Prop}(h:as[k]? =some a)(hl:as.length<=10000)(q:K a):UV (k:Int) as K:=
 have hk:=(aH.mp h).1
 ⟨⟨gJ (by decide) (cx k),FE (dH.mpr (bx hk hl)) (by decide)⟩,aw (xU hk) (aw h q)⟩
theorem small(h:n<=100000):(n:Int)<2^63:=dQ (fj.mpr h) (by decide)
theorem KE{k:Nat}(u:Aj us)(hk:k<us.length)(q:∀T,Y (.ref (h.length+1)) (h++[T]++[.tup [.int (Vu us k).1,.str (Vu us k).2]])):Wu us (k:Int) h Y:=by
 have e:jJ (dI us) none (some ((k:Int)+1)) none=dI (us.take (k+1)):=by
  rw[n6];show(dI us).take (mX (dI us).length ((k+1:Nat):Int))=_;rw[Pn,iP,kU hk];exact jg.symm
 have u2:Aj (us.take (k+1)):=⟨aq (Cm ..) u.hl,λy hy=>u.hu y (List.mem_of_mem_take hy)⟩;refine⟨⟨λh=>aJ h,uf (iP us▸aq u.hl (by decide))⟩,bX ?_⟩;rw[e];refine aw (iR (f:=fG) rfl) (aw (kJ _) ⟨u2.join,small (aq (HL u2.hu) (aq (kG 100 u2.hl) (by decide))),UU (a:=.str (us.getD k (sS ""))) ?_ (iP us▸aq u.hl (by decide)) ⟨ae rfl,?_⟩⟩)
 ·rw[bv,bm,bb hk]
  rfl
 ·have:=q (.lst (dI (us.take (k+1))))
  rw[aK];exact this
theorem Ra:∀n:Nat,n<=100->cN 0 n 1=true∧cf 0 n 1=((n - 0:Int).toNat:Int):=λn h=>by
 have:=aB.mp (by kernel_rfl:((cQ 101).all λn:Nat=>cN 0 n 1&&(cf 0 n 1==((n - 0:Int).toNat:Int)))=true) n (dM.mpr (jN h))
 have:=(aM ..).mp this;exact⟨this.1,bo this.2⟩
theorem za:∀(r i:Nat),(vX 0 i r).length=r
 |0,_=>rfl
 |r+1,i=>congrArg eJ (za r (i+1))
theorem HA{K:KV}(e:cH fG H n=some xs)(h:(xs.length:Int)<2^63)(k:K (.int xs.length) H):K7 (.ref n) H K:=by
 unfold K7;exact aw e ⟨h,k⟩
theorem IQ{n:Int}{K:Int->Prop}(h:K n):lB (.int n) K:=h
theorem GS(ep:du h zs ps)(hz:zs.length<=1000)(hx:x.length<=1000)(q:∀T n as,du (h++T) as (ps++[((x.length:Int),sS "\\")])->(h++T)[n]? =some (.lst as)->X (me (.ref n)) (h++T)):Op x zs h X:=by
 refine⟨small (aq hx (by decide)),ae rfl,ae rfl,aw (mN (ba (ba bA)) rfl) (aw (iR (f:=fG) rfl) (aQ (uf (aq (fC hz 1) (by decide))) (bX ?_)))⟩;have g:(h++[AO.lst zs]++[AO.tup [.int x.length,.str (sS "\\")]]++[.lst [.ref (h++[AO.lst zs]).length]]++[.lst (zs++[.ref (h++[AO.lst zs]).length])])[(h++[AO.lst zs]++[AO.tup [.int x.length,.str (sS "\\")]]++[AO.lst [.ref (h++[AO.lst zs]).length]]).length]? =some (.lst (zs++[.ref (h++[AO.lst zs]).length])):=bA;have g2:(h++[AO.lst zs]++[AO.tup [.int x.length,.str (sS "\\")]]++[.lst [.ref (h++[AO.lst zs]).length]]++[.lst (zs++[.ref (h++[AO.lst zs]).length])])[(h++[AO.lst zs]).length]? =some (.tup [.int x.length,.str (sS "\\")]):=ba (ba bA);show X (me (.ref (h++[AO.lst zs]++[AO.tup [.int x.length,.str (sS "\\")]]++[AO.lst [.ref (h++[AO.lst zs]).length]]).length)) _;generalize (h++[AO.lst zs]++[AO.tup [.int x.length,.str (sS "\\")]]++[AO.lst [.ref (h++[AO.lst zs]).length]]).length=n at g;generalize (h++[AO.lst zs]).length=k at g g2;rw[aA,aA,aA]at g g2 ⊢;exact q _ n _ (ep.app.add (.cons g2 .nil)) g
theorem ĥ(u:Aj us)(hx:x.length<=1000)(q:∀Z n as,du (jm sc D T0 T1 T2 T3 us x Z) as (Fj us x)->(jm sc D T0 T1 T2 T3 us x Z)[n]? =some (.lst as)->X (me (.ref n)) (jm sc D T0 T1 T2 T3 us x Z)):k5 bV oY (wk oY 28).1 (wk oY 28).2 (cg bV oY 8) (lw 7) fm (jm sc D T0 T1 T2 T3 us x []) (kg X):=by
 have sz:(us.length:Int) - 0=us.length:=AY _;refine kc (ga (H:=jm sc D T0 T1 T2 T3 us x []) (eK GR) SI SH ?_) SJ;refine HA (xs:=dI us) rfl (small (iP us▸aq u.hl (by decide))) ?_;rw[iP];refine IQ (qw (aQ (Ra _ u.hl) ?_));rw[sz];refine bX ⟨uf (za _ _▸aq u.hl (by decide)),pM (its:=[]) λo=>oN (C? sc D T0 T1 T2 T3 us x us.length o) (λits ys H P j p=>?_) (λit its ys H Y N j y z=>?_) _ [] _ _ ⟨0,us.length,[],rfl,fi _,rfl,.nil⟩ λzs H j=>?_⟩
 ·obtain⟨i,r,Z,el,hi,rfl,ep⟩:=j
  exact n5 (n:=33) (x:=.rng 0 us.length) rfl p
 ·obtain⟨i,r,Z,el,hi,rfl,ep⟩:=j
  cases r with
  |zero=>exact(bf _ _ el).elim
  |succ r=>
   obtain⟨rfl,rfl⟩:=ca el;have hk:i<us.length:=hi▸bx (bI i) (aU (eD (bC r)) i);have e:(0:Int)+(i:Nat)*1=(i:Int):=(Int.zero_add _).trans (Int.mul_one _);rw[e];refine kc (KE u hk λT=>y _ _ ⟨i+1,r,Z++[T]++[.tup [.int (Vu us i).1,.str (Vu us i).2]],rfl,(cC i r).trans hi,by rw[aA,aA];rfl,?_⟩) SG;rw[List.range_succ,b6,aA];refine ep.app.add (.cons ?_ .nil);rw[<-aA];exact(congrArg _ (aK (as:=K1 sc D T0 T1 T2 T3 us x us.length o Z) (bs:=[T])).symm).trans bA
 ·obtain⟨i,r,Z,el,hi,rfl,ep⟩:=j
  cases r with
  |succ r=>exact(bf _ _ el.symm).elim
  |zero=>
   obtain rfl:i=us.length:=hi;refine lV (n:=33) (x:=.rng 0 us.length) rfl (kc (GS (h:=jm sc D T0 T1 T2 T3 us x (.rng 0 us.length::Z)) (ep.set (k:=33) rfl) (aq (bP (ep.len.trans ((aD _).trans sH))) (aq u.hl (by decide))) hx λT n as e f=>q _ n as e f) SF)
end
variable{i j:Nat}{c:ax}{C:List AV->Prop}{e:al}{Qp:(List IT->Option Nat->Hp->Prop)->Prop}
section
variable{sc:List AV}{D:LD}{us:List ax}{x:ax}
noncomputable def Mo:cP->al
 |.If t _ _ _=>t
 |_=>.Name (aa "") ⟨0,0,0,0⟩
noncomputable def VE:al->List al
 |.BoolOp _ es _=>es
 |_=>[]
noncomputable def UI:al->al
 |.Compare l _ _ _=>l
 |e=>e
noncomputable abbrev GB:al:=UI (eA (VE (Mo (lw 8))) 0)
noncomputable abbrev GA:al:=UI (eA (VE (Mo (lw 8))) 1)
noncomputable def md:f6:=oa [] [] zM
abbrev S?(n:Nat)(X:Nm->Hp->Prop)(ys:List AV)(h:Hp):Prop:=mU .NotEq (.ref h.length) (.ref n) (h++[.lst ys]) λc=>Br c (Br true False (X (me (.ref n)) (h++[.lst ys]))) (Br false False (X (me (.ref n)) (h++[.lst ys])))
abbrev S_(n:Nat)(X:Nm->Hp->Prop)(ys:List AV)(h:Hp):Prop:=0<=aF∧mU .NotEq (.ref h.length) (.ref (h++[AO.lst ys]).length) (h++[AO.lst ys]++[.lst []]) λc=>Br c (Br true False (X (me (.ref n)) (h++[AO.lst ys]++[.lst []]))) (fP md 24 GA bV (me (.ref n)) (h++[AO.lst ys]++[.lst []]) (S? n X))
theorem SE:k5 bV md (wk md 28).1 (wk md 28).2 (cg bV md 8) (lw 8) (me (.ref n)) H (kg X)=fP md 25 GB bV (me (.ref n)) H (S_ n X):=by kernel_rfl
theorem SD(K:List AV->Hp->Prop):fP md 25 GB bV (me (.ref n)) H K=lz md 25 GB bV (eK GB) (me (.ref n)) H K:=by kernel_rfl
noncomputable abbrev N_:List IT:=[.val (.ref 24),.val (.ref 25),.val (.ref 26),.val (.ref 27)]
theorem SB(F:List IT->Option Nat->Hp->Prop):nO md 25 GB bV (me (.ref n)) (jm sc D T0 T1 T2 T3 us x Z) F=F N_ (some 28) (jm sc D T0 T1 T2 T3 us x Z):=by kernel_rfl
theorem SA{N:Hp->Prop}:iv (wk md 25).2 (u0 md 25 GB) ⟨eU (nj GB) bV.nk,eK GB,none⟩ (g0 GB).target (g0 GB).ifs (.val (.ref i)) (me (.ref n)) H Y N=Ey (.ref i) 1 H λb h=>Vs b h λc=>Br (!c) (Y (.ref i) h) (N h):=by kernel_rfl
theorem Sz(K:List AV->Hp->Prop):fP md 24 GA bV (me (.ref n)) H K=lz md 24 GA bV (eK GA) (me (.ref n)) H K:=by kernel_rfl
theorem Sy(F:List IT->Option Nat->Hp->Prop):Zu md 24 GA bV (me (.ref n)) (jm sc D T0 T1 T2 T3 us x Z) F=(x.length+1<=aF∧iz (yF (iN (x++sS "\\"))) λl=>F l none (jm sc D T0 T1 T2 T3 us x Z)):=by kernel_rfl
theorem Sx{p:Int}{N:Hp->Prop}:iv (wk md 24).2 (u0 md 24 GA) ⟨eU (nj GA) bV.nk,eK GA,none⟩ (g0 GA).target (g0 GA).ifs (.pair (.int p) (.str c)) (me (.ref n)) H Y N=Y (.ref H.length) (H++[.tup [.int p,.str c]]):=by kernel_rfl
theorem du.hd(h:du H as ps):match ps with
  |[]=>C []->C as
  |p::ps=>(∀n as',H[n]? =some (.tup [.int p.1,.str p.2])->du H as' ps->C (.ref n::as'))->C as:=by
 induction h with
 |nil=>exact id
 |cons h r _=>exact λk=>k _ _ h r
theorem du.eqs(h:du H as ps):∀{bs:List AV},du H bs ps->pY H as bs:=by
 induction h with
 |nil=>exact λk=>k.hd (C:=λbs=>pY H [] bs) .nil
 |cons h _ ih=>exact λk=>k.hd (C:=λbs=>pY H _ bs) λz z e r=>.cons (.pair (ia (f:=uv) h rfl) (ia (f:=uv) e rfl) (.int _) (.str _)) (ih r)
theorem xO{K:KV}(hk: -(2^63)<=k∧k<2^63)(h:cH Bk H i=some xs)(hj:eT k xs.length=some j)(ha:xs[j]? =some a)(q:K a H):Ey (.ref i) k H K:=⟨hk,aw h (aw hj (aw ha q))⟩
inductive F_(base:Hp)(full:List (Int×ax))(l:List IT)(ys:List AV)(H:Hp):Prop
 |mk(a b:List (Int×ax))(Z:Hp)(ef:full=a++b)(el:l=yF b)(eh:H=base++Z)(ep:du H ys a):F_ base full l ys H
noncomputable abbrev c8(x:ax):List (Option AV):=[none,none,none,none,none,some (.str x),some (.ref 29),some (.ref 28),some (.ref 27),some (.ref 17),some (.ref 16),some (.ref 15)]
noncomputable def qL(sc:List AV)(cs:List (Option AV))(D:LD)(T0 T1 T2 T3:Int)(us:List ax)(B:Hp):Hp:=jw sc cs D (sd T0::sd T1::sd T2::sd T3:: .lst [.ref 23,.ref 24,.ref 25,.ref 26]:: .dct (hU T0 T1 T2 T3):: .lst (dI us)::B)
theorem Wv(hs:∀ρ,s4 ρ (.lst sc))(q:X fm (qL sc (c8 x) D T0 T1 T2 T3 us [])):An X (me (.ref n)) (jm sc D T0 T1 T2 T3 us x Z):=
 .mk [15,16,17,18,19,20,21,22,24,25,26,27,28,30,31] fm (qL sc (c8 x) D T0 T1 T2 T3 us []) (.cons (by decide) (.cons (by decide) (.cons (by decide) (.cons (by decide) (.cons (by decide) (.cons (by decide) (.cons (by decide) (.cons (by decide) (.cons (by decide) (.cons (by decide) (.cons (by decide) (.cons (by decide) (.cons (by decide) (.cons (by decide) (.cons (by decide) .nil)))))))))))))))
  (.cons rfl (.wf hs) (.cons rfl (Oi _) (.cons rfl (Oi _) (.cons rfl n4 (.cons rfl n4 (.cons rfl n4 (.cons rfl n4 (.cons rfl n4 (.cons rfl (.cell (.sc rfl)) (.cons rfl (Fh rfl) (.cons rfl (Fh rfl) (.cons rfl (Fh rfl) (.cons rfl (Fh rfl) (.cons rfl (Fh rfl) (.cons rfl (Fh rfl)
   (.cons rfl (.wf (kI _)) (.cons rfl (.wf λρ=>kI [_,_,_,_] ρ) (.cons rfl (.wf (pF rfl)) (.cons rfl (.wf (kZ _)) (.cons rfl (.wf (kZ _)) (.cons rfl (.wf (kZ _)) (.cons rfl (.wf (kZ _)) (.cons rfl (.dct (.cons (.ref rfl) (.cons (.ref rfl) (.cons (.ref rfl) (.cons (.ref rfl) .nil)))))
   (.cons rfl (.tup (.cons (.sc rfl) (.cons (.sc rfl) .nil))) (.cons rfl (.tup (.cons (.sc rfl) (.cons (.sc rfl) .nil))) (.cons rfl (.tup (.cons (.sc rfl) (.cons (.sc rfl) .nil))) (.cons rfl (.tup (.cons (.sc rfl) (.cons (.sc rfl) .nil))) (.cons rfl (.lst (.cons (.ref rfl) (.cons (.ref rfl) (.cons (.ref rfl) (.cons (.ref rfl) .nil)))))
   (.cons rfl (.wf (pF rfl)) (.cons rfl (.wf (kZ us)) .nil))))))))))))))))))))))))))))))
  (.cons rfl (.ref rfl) .nil) q
theorem gz(xs:List AV)(e:H[n]? =some (.lst xs)):cH fG H n=some xs:=mN e rfl
theorem u3{K:Bool->Prop}(h1:cH fG H i=some xs)(h2:cH fG H j=some ys)(l1:xs.length<=10000)(l2:ys.length<=10000)(e:pY H xs ys)(k:K false):mU .NotEq (.ref i) (.ref j) H K:=by
 show aG (BX .NotEq) λq=>aG (cH fG H i) λxs=>aG (cH fG H j) λys=>(xs.length<=aF∧ys.length<=aF)∧NI H xs ys q K
 exact aw (x:=false) rfl (aw h1 (aw h2 (aQ ⟨uf l1,uf l2⟩ (.eq e k))))
theorem Dn{T:f6}{K:List AV->Hp->Prop}(cl:List (ax×Nat))(e1:∀K,fP T n e en m H K=lz T n e en cl m H K)(e2:∀L,Zu T n e en m H L=Qp L)(h:Qp (zY T n e en cl m K)):fP T n e en m H K:=kc (.gen (kc h (e2 (zY T n e en cl m K)))) (e1 K)
theorem Ĥ(hs:∀ρ,s4 ρ (.lst sc))(hx:x.length<=1000)(e:iN (x++sS "\\")=Fj us x)(hl:us.length<=100)(ep:du (jm sc D T0 T1 T2 T3 us x Z) as (Fj us x))(ha:(jm sc D T0 T1 T2 T3 us x Z)[n]? =some (.lst as))(q:X fm (qL sc (c8 x) D T0 T1 T2 T3 us [])):k5 bV md (wk md 28).1 (wk md 28).2 (cg bV md 8) (lw 8) (me (.ref n)) (jm sc D T0 T1 T2 T3 us x Z) (kg (An X)):=by
 refine kc (ga (H:=jm sc D T0 T1 T2 T3 us x Z) (eK GB) SD SB ⟨ae rfl,rT (x:=.lst [.ref 24,.ref 25,.ref 26,.ref 27]) rfl λo=>?_⟩) SE;refine ff (pn:=some (28,o)) (λi=>IT.val (.ref i)) (λz:Nat=>none) (λi=>∃T,cH Bk ((jm sc D T0 T1 T2 T3 us x Z).set 28 (.pin (.lst [.ref 24,.ref 25,.ref 26,.ref 27]) o)) i=some [.int T,.bool true]) (λP h=>n5 (x:=.lst [.ref 24,.ref 25,.ref 26,.ref 27]) rfl h)
  (λi h Y N y nn=>kc (h.elim λT h=>xO (by decide) h (j:=1) rfl (a:=.bool true) rfl (Br.f (nn rfl))) SA) [24,25,26,27] _ (Mine.a1 ⟨T0,rfl⟩ (Mine.a1 ⟨T1,rfl⟩ (Mine.a1 ⟨T2,rfl⟩ (Mine.a1 ⟨T3,rfl⟩ Mine.a0)))) ?_
 refine lV (x:=.lst [.ref 24,.ref 25,.ref 26,.ref 27]) rfl ⟨bC _,u3 (gz _ (ba bA)) (gz _ bA) (bC _) (bC _) .nil (Br.f ?_)⟩;have pl:(Fj us x).length<=101:=by
  unfold Fj;rw[aK,aD,sH];exact fC hl 1
 refine Dn (H:=jm sc D T0 T1 T2 T3 us x (Z++[.lst []]++[.lst []])) (eK GA) Sz Sy ⟨uf (aq (fC hx 1) (by decide)),?_⟩;rw[e];refine bX ⟨uf (aq (bP (aD _)) (aq pl (by decide))),oN (pn:=none) (F_ (jm sc D T0 T1 T2 T3 us x (Z++[.lst []]++[.lst []])) (Fj us x)) (λits ys H P j p=>p) (λit its ys H Y N j y z=>?_) _ [] _ _ ⟨[],_,[],rfl,rfl,(be _).symm,.nil⟩ λzs H j=>?_⟩
 ·obtain⟨a,b,Z2,ef,el,rfl,ep2⟩:=j
  cases b with
  |nil=>exact(bf _ _ el).elim
  |cons c b=>
   obtain⟨rfl,rfl⟩:=ca el;exact kc (y _ _ ⟨a++[c],b,Z2++[.tup [.int c.1,.str c.2]],by rw[ef,aA];rfl,rfl,aA ..,ep2.app.add (.cons bA .nil)⟩) Sx
 ·obtain⟨a,b,Z2,ef,el,rfl,ep2⟩:=j
  cases b with
  |cons=>exact(bf _ _ el.symm).elim
  |nil=>
   rw[be]at ef;subst ef;have eZ:jm sc D T0 T1 T2 T3 us x Z++[.lst []]++[.lst []]=jm sc D T0 T1 T2 T3 us x (Z++[.lst []]++[.lst []]):=by kernel_rfl
   have ep3:du (jm sc D T0 T1 T2 T3 us x (Z++[.lst []]++[.lst []])++Z2++[.lst zs]) as (Fj us x):=(eZ▸ep.app.app:du _ as _).app.app;have ha3:(jm sc D T0 T1 T2 T3 us x (Z++[.lst []]++[.lst []])++Z2++[.lst zs])[n]? =some (.lst as):=ba (ba (eZ▸ba (ba ha)));exact u3 (gz _ bA) (gz _ ha3) (aq (bP ep2.len) (aq pl (by decide))) (aq (bP ep3.len) (aq pl (by decide))) (ep2.app.eqs ep3) (Br.f (Br.f (Wv (Z:=Z++[.lst []]++[.lst []]++Z2++[.lst zs]) hs q)))
end
section
variable{sc:List AV}{D:LD}{us:List ax}{x:ax}{ke:List (ax×AV)}
noncomputable def pN:f6:=oa [(.ref 286,OZ),(.ref 263,Yy)] [] λz=>none
noncomputable abbrev G0:al:=eA (MM (gL (lw 9))) 3
noncomputable abbrev n9:List ax:=[sS "ends",sS "days",sS "table",sS "order"]
noncomputable abbrev Ek(ke:List (ax×AV))(B:Hp):Hp:=.dct ke:: .lst [.int 0]:: .lst [.ref 31]:: .attr 35:: .inst 33:: .lst []::B
abbrev k9(X:Nm->Hp->Prop)(ys:List AV)(h:Hp):Prop:=([AV.ref 30,.ref 32,.ref 34,.ref h.length]:List AV).length<=aF∧xo bV n9 (h++[AO.lst ys]).length fm (h++[AO.lst ys]++[.tup [.ref 30,.ref 32,.ref 34,.ref h.length]]) (kg X) none
theorem Sw:k5 bV pN (wk pN 28).1 (wk pN 28).2 (cg bV pN 8) (lw 9) fm (qL sc (c8 x) D T0 T1 T2 T3 us []) (kg X)=(false=false∧x.length<=200∧aG (sR x) λke=>1<=aF∧1<=aF∧fP pN 26 G0 bV fm (qL sc (c8 x) D T0 T1 T2 T3 us (Ek ke [])) (k9 X)):=by kernel_rfl
theorem Sv(K:List AV->Hp->Prop):fP pN 26 G0 bV fm H K=lz pN 26 G0 bV (eK G0) fm H K:=by kernel_rfl
theorem Su(F:List IT->Option Nat->Hp->Prop):nO pN 26 G0 bV fm (qL sc (c8 x) D T0 T1 T2 T3 us (Ek ke [])) F=iz ((dI us).map IT.val) λl=>F l (some 29) (qL sc (c8 x) D T0 T1 T2 T3 us (Ek ke [])):=by kernel_rfl
noncomputable abbrev Se(sc:List AV)(x:ax)(D:LD)(T0 T1 T2 T3:Int)(us:List ax)(o:dU)(B:Hp):Hp:=jw sc (c8 x) D (sd T0::sd T1::sd T2::sd T3:: .lst [.ref 23,.ref 24,.ref 25,.ref 26]:: .dct (hU T0 T1 T2 T3):: .pin (.lst (dI us)) o::B)
theorem Ss{u:ax}{B:Hp}{N:Hp->Prop}:iv (wk pN 26).2 (u0 pN 26 G0) ⟨eU (nj G0) bV.nk,eK G0,none⟩ (g0 G0).target (g0 G0).ifs (.val (.str u)) fm (Se sc x D T0 T1 T2 T3 us o B) Y N=Br (Ag ((hU T0 T1 T2 T3).lookup u).isSome true) (Y (.str u) (Se sc x D T0 T1 T2 T3 us o B)) (N (Se sc x D T0 T1 T2 T3 us o B)):=by kernel_rfl
noncomputable abbrev c9(x:ax):List (Option AV):=[none,none,none,some (.ref 34),some (.ref 30),some (.str x),some (.ref 29),some (.ref 28),some (.ref 27),some (.ref 17),some (.ref 16),some (.ref 15)]
noncomputable abbrev oj:Nm:=[(sS "pieces",.ref 22),(sS "days",.ref 32),(sS "order",.ref 36)]
theorem Sr:k9 X ys (qL sc (c8 x) D T0 T1 T2 T3 us (Ek ke []))=(4<=aF∧X oj (qL sc (c9 x) D T0 T1 T2 T3 us (Ek ke [.lst ys,.tup [.ref 30,.ref 32,.ref 34,.ref 36]]))):=by kernel_rfl
noncomputable def vZ(u:ax):Bool:=pX.any (·==u)
theorem qz(u:ax):((hU T0 T1 T2 T3).lookup u).isSome=vZ u:=by
 have h:∀(l:List (ax×AV)),(l.lookup u).isSome=(l.map (·.1)).any (·==u):=λl=>by
  induction l with
  |nil=>rfl
  |cons p l ih=>
   rw[gc,gM,qi,BEq.comm (a:=p.1)];cases u==p.1 with
   |true=>rfl
   |false=>exact ih
 exact h _
noncomputable abbrev uF(us:List ax):List ax:=us.filter vZ
theorem xZ{us:List ax}{f:ax->Option AV}{g:ax->Bool}(h:∀u,f u=bif g u then some (.str u)else none):us.filterMap f=dI (us.filter g):=by
 induction us with
 |nil=>rfl
 |cons u us ih=>
  rw[ce,h,f8];cases g u with
  |true=>exact congrArg (AV.str u::·) ih
  |false=>exact ih
theorem Mf(us:List ax):(dI us).map IT.val=us.map λu=>IT.val (.str u):=da
noncomputable abbrev OC(ke:List (ax×AV))(us:List ax)(B:Hp):Hp:=Ek ke (.lst (dI (uF us)):: .tup [.ref 30,.ref 32,.ref 34,.ref 36]::B)
theorem ģ(hx:x.length<=200)(e:sR x=some ke)(hl:us.length<=100)(q:X oj (qL sc (c9 x) D T0 T1 T2 T3 us (OC ke us []))):k5 bV pN (wk pN 28).1 (wk pN 28).2 (cg bV pN 8) (lw 9) fm (qL sc (c8 x) D T0 T1 T2 T3 us []) (kg X):=by
 refine kc ⟨rfl,hx,aw e ⟨ae rfl,ae rfl,ga (eK G0) Sv Su (bX ⟨?_,rT (x:=.lst (dI us)) rfl λo=>?_⟩)⟩⟩ Sw
 ·rw[aD,iP];exact uf (aq hl (by decide))
 rw[Mf];refine ff (pn:=some (29,o)) (λu=>IT.val (.str u)) (λu=>bif vZ u then some (AV.str u)else none) (λz=>True) (λP h=>n5 (x:=.lst (dI us)) rfl h) (λu z Y N y n=>kc (P:=Br (Ag ((hU T0 T1 T2 T3).lookup u).isSome true) _ _) ⟨λe=>y _ ?_,λe=>n ?_⟩ Ss) us _ (λz z=>br) (lV (x:=.lst (dI us)) rfl ?_)
 ·rw[(qz u).symm.trans e];rfl
 ·rw[(qz u).symm.trans e];rfl
 ·rw[xZ (g:=vZ) λu=>rfl]
  exact kc ⟨ae rfl,q⟩ Sr
end
variable{l A0 A1 A2 A3:List ax}
section
variable{sc:List AV}{D:LD}{us:List ax}{x:ax}{ke:List (ax×AV)}
noncomputable def iK:f6:=oa [(.builtin "str.index",tZ)] [mM "str" "index"] zM
noncomputable abbrev wH:al:=gL (lw 10)
noncomputable abbrev No:al:=k_ wH
noncomputable abbrev Y6(y:ax):En:=⟨eU (nj wH) bV.nk,eK wH,some [(sS "x",.str y)]⟩
noncomputable abbrev ŋ:List (ax×Nat):=(qT (eK wH) (nj No).names []).getD []
abbrev g_(X:Nm->Hp->Prop)(ps:List (ax×AV))(h:Hp):Prop:=kh ps=true∧fb bV (sS "above") (.ref h.length) oj (h++[.dct ps]) X
theorem Mb:k5 bV iK (wk iK 28).1 (wk iK 28).2 (cg bV iK 8) (lw 10) oj H (kg X)=(jx bV.nk (sS "above")=true∧JB iK 28 wH bV oj H (g_ X)):=by kernel_rfl
theorem Ma(K:List (ax×AV)->Hp->Prop):JB iK 28 wH bV oj H K=Zl iK 28 wH bV (eK wH) oj H K:=by kernel_rfl
noncomputable abbrev XY:List IT:=[.val (.str (cb 0)),.val (.str (cb 1)),.val (.str (cb 2)),.val (.str (cb 3))]
noncomputable abbrev zo(sc:List AV)(x:ax)(D:LD)(T0 T1 T2 T3:Int)(us:List ax)(ke:List (ax×AV))(Z:Hp):Hp:=qL sc (c9 x) D T0 T1 T2 T3 us (OC ke us Z)
noncomputable abbrev xF(sc:List AV)(x:ax)(D:LD)(T0 T1 T2 T3:Int)(us:List ax)(ke:List (ax×AV))(o:dU)(Z:Hp):Hp:=(zo sc x D T0 T1 T2 T3 us ke Z).set 17 (.pin (.dct (ij D)) o)
theorem L9(F:List IT->Option Nat->Hp->Prop):nO iK 28 wH bV oj (zo sc x D T0 T1 T2 T3 us ke []) F=F XY (some 17) (zo sc x D T0 T1 T2 T3 us ke []):=by kernel_rfl
theorem L8{y:ax}{Y:ax×AV->Hp->Prop}{N:Hp->Prop}:iv (wk iK 28).2 (Iq iK 28 wH) ⟨eU (nj wH) bV.nk,eK wH,none⟩ (g0 wH).target (g0 wH).ifs (.val (.str y)) oj H Y N=fP iK 27 No (Y6 y) oj H λys h=>Y (y,.ref h.length) (h++[.lst ys]):=by kernel_rfl
theorem L7{y:ax}(K:List AV->Hp->Prop):fP iK 27 No (Y6 y) oj H K=lz iK 27 No (Y6 y) ŋ oj H K:=by kernel_rfl
def X?(x y:ax)(ke:List (ax×AV))(h:Hp)(F:List IT->Option Nat->Hp->Prop):Prop:=aG (oX x y) λi=>aG (ke.lookup y) λe=>lB e λe=>cut x (iz (yF (iN (sl x (some i) (some e)))) λl=>F l none h)
theorem L6{y:ax}(F:List IT->Option Nat->Hp->Prop):Zu iK 27 No (Y6 y) oj (xF sc x D T0 T1 T2 T3 us ke o Z) F=X? x y ke (xF sc x D T0 T1 T2 T3 us ke o Z) F:=by kernel_rfl
theorem L5{y:ax}{p:Int}{N:Hp->Prop}:iv (wk iK 27).2 (u0 iK 27 No) ⟨eU (nj No) (Y6 y).nk,ŋ,none⟩ (g0 No).target (g0 No).ifs (.pair (.int p) (.str c)) oj (xF sc x D T0 T1 T2 T3 us ke o Z) Y N=Br (Ag ((hU T0 T1 T2 T3).lookup c).isSome true) (Y (.str c) (xF sc x D T0 T1 T2 T3 us ke o Z)) (N (xF sc x D T0 T1 T2 T3 us ke o Z)):=by kernel_rfl
noncomputable def Fw(x:ax)(ke:List (ax×AV))(y:ax):Option (List ax):=(oX x y).bind λi=>(ke.lookup y).bind λe=>(mE e).bind λe=>some (((iN (sl x (some (i:Int)) (some e))).map (·.2)).filter vZ)
theorem uh{y:ax}{Y:ax×AV->Hp->Prop}{N:Hp->Prop}(hx:x.length<=200)(e:Fw x ke y=some l)(k:Y (y,.ref (xF sc x D T0 T1 T2 T3 us ke o Z).length) (xF sc x D T0 T1 T2 T3 us ke o Z++[.lst (dI l)])):iv (wk iK 28).2 (Iq iK 28 wH) ⟨eU (nj wH) bV.nk,eK wH,none⟩ (g0 wH).target (g0 wH).ifs (.val (.str y)) oj (xF sc x D T0 T1 T2 T3 us ke o Z) Y N:=by
 refine kc (Dn ŋ L7 L6 ?_) L8;refine bW e λi e1 e=>bW e λa e2 e=>bW e λj e3 e=>aw e1 (aw e2 (tY (C:=λa=>lB a _) e3 (IQ ⟨rfl,uf (aq hx (by decide)),bX ⟨?_,?_⟩⟩)))
 ·exact aq (bP (aD _)) (Ds (aq (PyProof.Txt.length_slice_le x _ _) hx))
 refine ff (pn:=none) (λp:Int×ax=>IT.pair (.int p.1) (.str p.2)) (λp=>bif vZ p.2 then some (AV.str p.2)else none) (λz=>True) (λP h=>h) (λp z Y N y n=>kc (P:=Br (Ag ((hU T0 T1 T2 T3).lookup p.2).isSome true) _ _) ⟨λe=>y _ ?_,λe=>n ?_⟩ L5) _ _ (λz z=>br) ?_
 ·rw[(qz p.2).symm.trans e];rfl
 ·rw[(qz p.2).symm.trans e];rfl
 ·have:=xZ (us:=(iN (sl x (some (i:Int)) (some j))).map (·.2)) (g:=vZ) λu=>rfl
  rw[E9]at this;rw[show(iN (sl x (some (i:Int)) (some j))).filterMap (λp=>bif vZ p.2 then some (AV.str p.2)else none)=dI l from this.trans (congrArg dI (aj e))];exact k
noncomputable abbrev ZN:List (ax×AV):=[(cb 0,.ref 38),(cb 1,.ref 39),(cb 2,.ref 40),(cb 3,.ref 41)]
noncomputable abbrev d9:Nm:=[(sS "pieces",.ref 22),(sS "days",.ref 32),(sS "order",.ref 36),(sS "above",.ref 42)]
noncomputable abbrev K4(A0 A1 A2 A3:List ax)(B:Hp):Hp:=.lst (dI A0):: .lst (dI A1):: .lst (dI A2):: .lst (dI A3):: .dct ZN::B
theorem L4:g_ X [(cb 0,.ref 38),(cb 1,.ref 39),(cb 2,.ref 40),(cb 3,.ref 41)] (zo sc x D T0 T1 T2 T3 us ke [.lst (dI A0),.lst (dI A1),.lst (dI A2),.lst (dI A3)])=(kh ZN=true∧X d9 (zo sc x D T0 T1 T2 T3 us ke (K4 A0 A1 A2 A3 []))):=by kernel_rfl
theorem Xu(hx:x.length<=200)(h0:Fw x ke (cb 0)=some A0)(h1:Fw x ke (cb 1)=some A1)(h2:Fw x ke (cb 2)=some A2)(h3:Fw x ke (cb 3)=some A3)(q:X d9 (zo sc x D T0 T1 T2 T3 us ke (K4 A0 A1 A2 A3 []))):k5 bV iK (wk iK 28).1 (wk iK 28).2 (cg bV iK 8) (lw 10) oj (zo sc x D T0 T1 T2 T3 us ke []) (kg X):=
 have pk:∀{o:dU}{Z:Hp}{P:Prop},P->iI (some (17,o)) (xF sc x D T0 T1 T2 T3 us ke o Z) P:=λp=>n5 (x:=.dct (ij D)) rfl p
 kc ⟨by kernel_rfl,tM (eK wH) Ma L9 ⟨ae rfl,rT (x:=.dct (ij D)) rfl λo=>
  pk (uh (Z:=[]) hx h0 (pk (uh (Z:=[.lst (dI A0)]) hx h1 (pk (uh (Z:=[.lst (dI A0),.lst (dI A1)]) hx h2 (pk (uh (Z:=[.lst (dI A0),.lst (dI A1),.lst (dI A2)]) hx h3 (pk (Z:=[.lst (dI A0),.lst (dI A1),.lst (dI A2),.lst (dI A3)]) (lV (x:=.dct (ij D)) rfl (kc ⟨by kernel_rfl,q⟩ L4))))))))))⟩⟩ Mb
end
variable{m':Nm}
section
structure LB where
 sc:List AV
 x:ax
 D:LD
 T0:Int
 T1:Int
 T2:Int
 T3:Int
 us:List ax
 ke:List (ax×AV)
 A0:List ax
 A1:List ax
 A2:List ax
 A3:List ax
variable{L:LB}
noncomputable abbrev il(l:List Int):AO:=.lst (l.map .int)
noncomputable abbrev cB(x:ax)(rc:Option AV):List (Option AV):=[none,none,rc,some (.ref 34),some (.ref 30),some (.str x),some (.ref 29),some (.ref 28),some (.ref 27),some (.ref 17),some (.ref 16),some (.ref 15)]
noncomputable def fZ(L:LB)(rc:Option AV)(rs:List AV)(Z:Hp):Hp:=qL L.sc (cB L.x rc) L.D L.T0 L.T1 L.T2 L.T3 L.us (.dct L.ke:: .lst [.int 0]:: .lst rs:: .attr 35:: .inst 33:: .lst []:: .lst (dI (uF L.us)):: .tup [.ref 30,.ref 32,.ref 34,.ref 36]::K4 L.A0 L.A1 L.A2 L.A3 Z)
noncomputable def å:cP->al
 |.Expr e _=>e
 |_=>.Name (aa "") ⟨0,0,0,0⟩
noncomputable def O9:al->List al
 |.Call _ as _ _=>as
 |_=>[]
noncomputable def fF:f6:=oa [(.builtin "sorted",Gn),(.builtin "len",sM),(.type "range",ng),(.builtin "list.append",q8)] [mM "list" "append"] λz=>none
noncomputable abbrev M':al:=eA (O9 (eA (O9 (å (sA (lM (lw 11)) 1))) 0)) 0
noncomputable abbrev uK:al:=Zz M'
noncomputable abbrev KZ:List ax:=[sS "pieces",sS "days",sS "order",sS "above"]
theorem L3:k5 bV fF (wk fF 28).1 (wk fF 28).2 (cg bV fF 8) (lw 11) m H (kg X)=qQ bV fF 8 (lw 11) m H (kg X):=by kernel_rfl
theorem L2(F:List IT->Option Nat->Hp->Prop):Jt bV fF 8 (lw 11) d9 (fZ L none [.ref 31] []) F=GJ (F xM (some 43) (fZ L none [.ref 31] [.rng 0 4])):=by kernel_rfl
theorem tV(K:List AV->Hp->Prop):fP fF 23 uK bV m H K=lz fF 23 uK bV (eK uK) m H K:=by kernel_rfl
def Vy(xs:List Int)(o:dU):Nat->Nat->Prop->Prop
 |0,_,P=>o=o∧o=o∧P
 |r+1,k,P=>o=o∧bg (k:Int) (bg ((k:Int)+1) (((2:Int)≠0∧dn (xs.getD k 0+xs.getD (k+1) 0) 2=false)∧Vy xs o r (k+1) P))
theorem uL{xs:List Int}{o:dU}{P:Prop}(p:P):∀r k,r+k<=100->Vy xs o r k P
 |0,_,_=>⟨rfl,rfl,p⟩
 |r+1,k,h=>by
  have h1:r+(k+1)<=100:=cC r k▸h;have h2:k<=100:=aq (eP k (r+1)) h;exact⟨rfl,⟨gJ (by decide) (cx k),small (aq h2 (by decide))⟩,⟨gJ (by decide) (cx (k+1)),small (n:=k+1) (aq (eD h2) (by decide))⟩,⟨by decide,by kernel_rfl⟩,uL p r (k+1) h1⟩
abbrev AB(i:Nat)(go:Nm->Hp->Prop)(m:Nm)(ys:List AV)(h:Hp):Prop:=vB .Add (.ref i) (.ref h.length) (h++[.lst ys]) λa h=>Gn [a] [] h λs h=>q8 [.ref 32,s] [] h λz h=>go m h
noncomputable abbrev k?:List Int:=[0]
noncomputable abbrev é:List Int:=[-8,0,8]
noncomputable abbrev è:List Int:=[-16,-8,-4,0,4,8,16]
noncomputable abbrev ç:List Int:=[-24,-16,-12,-8,-6,-4,-2,0,2,4,6,8,12,16,24]
noncomputable abbrev ŉ:List Int:=[-32,-24,-20,-16,-14,-12,-10,-8,-7,-6,-5,-4,-3,-2,-1,0,1,2,3,4,5,6,7,8,10,12,14,16,20,24,32]
noncomputable def ø:Hp:=[il [-8,8],il [0,-8,8]]
noncomputable def VR:Hp:=ø++[.rng 0 0]
noncomputable def Ų:Hp:=VR++[il [],il [0,-8,8]]
noncomputable def ö:Hp:=[il [-16,16],il [-8,0,8,-16,16]]
noncomputable def VQ:Hp:=ö++[.rng 0 2]
noncomputable def ű:Hp:=VQ++[il [-4,4],il [-8,0,8,-16,16,-4,4]]
noncomputable def õ:Hp:=[il [-24,24],il [-16,-8,-4,0,4,8,16,-24,24]]
noncomputable def VP:Hp:=õ++[.rng 0 6]
noncomputable def Ű:Hp:=VP++[il [-12,-6,-2,2,6,12],il [-16,-8,-4,0,4,8,16,-24,24,-12,-6,-2,2,6,12]]
noncomputable def ô:Hp:=[il [-32,32],il [-24,-16,-12,-8,-6,-4,-2,0,2,4,6,8,12,16,24,-32,32]]
noncomputable def VO:Hp:=ô++[.rng 0 14]
noncomputable def ů:Hp:=VO++[il [-20,-14,-10,-7,-5,-3,-1,1,3,5,7,10,14,20],il [-24,-16,-12,-8,-6,-4,-2,0,2,4,6,8,12,16,24,-32,32,-20,-14,-10,-7,-5,-3,-1,1,3,5,7,10,14,20]]
noncomputable def Jp:Hp:=[]
noncomputable def FK:Hp:=Jp++(Ų++[il é])
noncomputable def FJ:Hp:=FK++(ű++[il è])
noncomputable def FI:Hp:=FJ++(Ű++[il ç])
noncomputable def Ï:Hp:=FI++(ů++[il ŉ])
theorem Qo{go:Nm->Hp->Prop}{K:KS}:jI bV (lw 11) 8 fF (.val (.int 0)) d9 (fZ L none [.ref 31] (.pin (.rng 0 4) o::Jp)) KZ go K=bg 0 (false=false∧bg 0 (bq=bq∧bg (-1) (2<=aF∧3<=aF∧fP fF 23 uK bV (d9++[(sS "d",.int 0)]) (fZ L (some (.ref 31)) [.ref 31] (.pin (.rng 0 4) o::(Jp++ø))) (AB 45 go (d9++[(sS "d",.int 0)]))))):=by kernel_rfl
theorem Qn(F:List IT->Option Nat->Hp->Prop):nO fF 23 uK bV (d9++[(sS "d",.int 0)]) (fZ L (some (.ref 31)) [.ref 31] (.pin (.rng 0 4) o::(Jp++ø))) F=((1:Int)<2^63∧(cN 0 0 1=true∧cf 0 0 1=((0 - 0:Int).toNat:Int))∧F [] (some 46) (fZ L (some (.ref 31)) [.ref 31] (.pin (.rng 0 4) o::(Jp++VR)))):=by kernel_rfl
theorem Qm{go:Nm->Hp->Prop}:zY fF 23 uK bV (eK uK) (d9++[(sS "d",.int 0)]) (AB 45 go (d9++[(sS "d",.int 0)])) [] (some 46) (fZ L (some (.ref 31)) [.ref 31] (.pin (.rng 0 4) o::(Jp++VR)))=(0<=aF∧∀o':dU,Vy k? o' 0 0 (AB 45 go (d9++[(sS "d",.int 0)]) ([].map .int) (fZ L (some (.ref 31)) [.ref 31] (.pin (.rng 0 4) o::(Jp++VR))))):=by kernel_rfl
theorem Ql{go:Nm->Hp->Prop}:AB 45 go (d9++[(sS "d",.int 0)]) ([].map .int) (fZ L (some (.ref 31)) [.ref 31] (.pin (.rng 0 4) o::(Jp++VR)))=(3+0<=aF∧∃ms:List Int,(bJ 3 64=true∧s6 ms=true∧ms.Perm [0,-8,8])∧1<=aF∧go (d9++[(sS "d",.int 0)]) (fZ L (some (.ref 31)) [.ref 31,.ref 49] (.pin (.rng 0 4) o::(Jp++(Ų++[il ms]))))):=by kernel_rfl
theorem Qk{go:Nm->Hp->Prop}{K:KS}:jI bV (lw 11) 8 fF (.val (.int 1)) d9 (fZ L (some (.ref 31)) [.ref 31,.ref 49] (.pin (.rng 0 4) o::FK)) KZ go K=bg 1 (false=false∧bg 0 (bq=bq∧bg (-1) (2<=aF∧5<=aF∧fP fF 23 uK bV (d9++[(sS "d",.int 1)]) (fZ L (some (.ref 49)) [.ref 31,.ref 49] (.pin (.rng 0 4) o::(FK++ö))) (AB 51 go (d9++[(sS "d",.int 1)]))))):=by kernel_rfl
theorem Qj(F:List IT->Option Nat->Hp->Prop):nO fF 23 uK bV (d9++[(sS "d",.int 1)]) (fZ L (some (.ref 49)) [.ref 31,.ref 49] (.pin (.rng 0 4) o::(FK++ö))) F=((3:Int)<2^63∧(cN 0 2 1=true∧cf 0 2 1=((2 - 0:Int).toNat:Int))∧F [.val (.int 0),.val (.int 1)] (some 52) (fZ L (some (.ref 49)) [.ref 31,.ref 49] (.pin (.rng 0 4) o::(FK++VQ)))):=by kernel_rfl
theorem Qi{go:Nm->Hp->Prop}:zY fF 23 uK bV (eK uK) (d9++[(sS "d",.int 1)]) (AB 51 go (d9++[(sS "d",.int 1)])) [.val (.int 0),.val (.int 1)] (some 52) (fZ L (some (.ref 49)) [.ref 31,.ref 49] (.pin (.rng 0 4) o::(FK++VQ)))=(2<=aF∧∀o':dU,Vy é o' 2 0 (AB 51 go (d9++[(sS "d",.int 1)]) ([-4,4].map .int) (fZ L (some (.ref 49)) [.ref 31,.ref 49] (.pin (.rng 0 4) o::(FK++VQ))))):=by kernel_rfl
theorem Qh{go:Nm->Hp->Prop}:AB 51 go (d9++[(sS "d",.int 1)]) ([-4,4].map .int) (fZ L (some (.ref 49)) [.ref 31,.ref 49] (.pin (.rng 0 4) o::(FK++VQ)))=(5+2<=aF∧∃ms:List Int,(bJ 7 64=true∧s6 ms=true∧ms.Perm [-8,0,8,-16,16,-4,4])∧2<=aF∧go (d9++[(sS "d",.int 1)]) (fZ L (some (.ref 49)) [.ref 31,.ref 49,.ref 55] (.pin (.rng 0 4) o::(FK++(ű++[il ms]))))):=by kernel_rfl
theorem Qg{go:Nm->Hp->Prop}{K:KS}:jI bV (lw 11) 8 fF (.val (.int 2)) d9 (fZ L (some (.ref 49)) [.ref 31,.ref 49,.ref 55] (.pin (.rng 0 4) o::FJ)) KZ go K=bg 2 (false=false∧bg 0 (bq=bq∧bg (-1) (2<=aF∧9<=aF∧fP fF 23 uK bV (d9++[(sS "d",.int 2)]) (fZ L (some (.ref 55)) [.ref 31,.ref 49,.ref 55] (.pin (.rng 0 4) o::(FJ++õ))) (AB 57 go (d9++[(sS "d",.int 2)]))))):=by kernel_rfl
theorem Qf(F:List IT->Option Nat->Hp->Prop):nO fF 23 uK bV (d9++[(sS "d",.int 2)]) (fZ L (some (.ref 55)) [.ref 31,.ref 49,.ref 55] (.pin (.rng 0 4) o::(FJ++õ))) F=((7:Int)<2^63∧(cN 0 6 1=true∧cf 0 6 1=((6 - 0:Int).toNat:Int))∧F [.val (.int 0),.val (.int 1),.val (.int 2),.val (.int 3),.val (.int 4),.val (.int 5)] (some 58) (fZ L (some (.ref 55)) [.ref 31,.ref 49,.ref 55] (.pin (.rng 0 4) o::(FJ++VP)))):=by kernel_rfl
theorem Qe{go:Nm->Hp->Prop}:zY fF 23 uK bV (eK uK) (d9++[(sS "d",.int 2)]) (AB 57 go (d9++[(sS "d",.int 2)])) [.val (.int 0),.val (.int 1),.val (.int 2),.val (.int 3),.val (.int 4),.val (.int 5)] (some 58) (fZ L (some (.ref 55)) [.ref 31,.ref 49,.ref 55] (.pin (.rng 0 4) o::(FJ++VP)))=(6<=aF∧∀o':dU,Vy è o' 6 0 (AB 57 go (d9++[(sS "d",.int 2)]) ([-12,-6,-2,2,6,12].map .int) (fZ L (some (.ref 55)) [.ref 31,.ref 49,.ref 55] (.pin (.rng 0 4) o::(FJ++VP))))):=by kernel_rfl
theorem Qd{go:Nm->Hp->Prop}:AB 57 go (d9++[(sS "d",.int 2)]) ([-12,-6,-2,2,6,12].map .int) (fZ L (some (.ref 55)) [.ref 31,.ref 49,.ref 55] (.pin (.rng 0 4) o::(FJ++VP)))=(9+6<=aF∧∃ms:List Int,(bJ 15 64=true∧s6 ms=true∧ms.Perm [-16,-8,-4,0,4,8,16,-24,24,-12,-6,-2,2,6,12])∧3<=aF∧go (d9++[(sS "d",.int 2)]) (fZ L (some (.ref 55)) [.ref 31,.ref 49,.ref 55,.ref 61] (.pin (.rng 0 4) o::(FJ++(Ű++[il ms]))))):=by kernel_rfl
theorem Qc{go:Nm->Hp->Prop}{K:KS}:jI bV (lw 11) 8 fF (.val (.int 3)) d9 (fZ L (some (.ref 55)) [.ref 31,.ref 49,.ref 55,.ref 61] (.pin (.rng 0 4) o::FI)) KZ go K=bg 3 (false=false∧bg 0 (bq=bq∧bg (-1) (2<=aF∧17<=aF∧fP fF 23 uK bV (d9++[(sS "d",.int 3)]) (fZ L (some (.ref 61)) [.ref 31,.ref 49,.ref 55,.ref 61] (.pin (.rng 0 4) o::(FI++ô))) (AB 63 go (d9++[(sS "d",.int 3)]))))):=by kernel_rfl
theorem Qb(F:List IT->Option Nat->Hp->Prop):nO fF 23 uK bV (d9++[(sS "d",.int 3)]) (fZ L (some (.ref 61)) [.ref 31,.ref 49,.ref 55,.ref 61] (.pin (.rng 0 4) o::(FI++ô))) F=((15:Int)<2^63∧(cN 0 14 1=true∧cf 0 14 1=((14 - 0:Int).toNat:Int))∧F [.val (.int 0),.val (.int 1),.val (.int 2),.val (.int 3),.val (.int 4),.val (.int 5),.val (.int 6),.val (.int 7),.val (.int 8),.val (.int 9),.val (.int 10),.val (.int 11),.val (.int 12),.val (.int 13)] (some 64) (fZ L (some (.ref 61)) [.ref 31,.ref 49,.ref 55,.ref 61] (.pin (.rng 0 4) o::(FI++VO)))):=by kernel_rfl
theorem Qa{go:Nm->Hp->Prop}:zY fF 23 uK bV (eK uK) (d9++[(sS "d",.int 3)]) (AB 63 go (d9++[(sS "d",.int 3)])) [.val (.int 0),.val (.int 1),.val (.int 2),.val (.int 3),.val (.int 4),.val (.int 5),.val (.int 6),.val (.int 7),.val (.int 8),.val (.int 9),.val (.int 10),.val (.int 11),.val (.int 12),.val (.int 13)] (some 64) (fZ L (some (.ref 61)) [.ref 31,.ref 49,.ref 55,.ref 61] (.pin (.rng 0 4) o::(FI++VO)))=(14<=aF∧∀o':dU,Vy ç o' 14 0 (AB 63 go (d9++[(sS "d",.int 3)]) ([-20,-14,-10,-7,-5,-3,-1,1,3,5,7,10,14,20].map .int) (fZ L (some (.ref 61)) [.ref 31,.ref 49,.ref 55,.ref 61] (.pin (.rng 0 4) o::(FI++VO))))):=by kernel_rfl
theorem P9{go:Nm->Hp->Prop}:AB 63 go (d9++[(sS "d",.int 3)]) ([-20,-14,-10,-7,-5,-3,-1,1,3,5,7,10,14,20].map .int) (fZ L (some (.ref 61)) [.ref 31,.ref 49,.ref 55,.ref 61] (.pin (.rng 0 4) o::(FI++VO)))=(17+14<=aF∧∃ms:List Int,(bJ 31 64=true∧s6 ms=true∧ms.Perm [-24,-16,-12,-8,-6,-4,-2,0,2,4,6,8,12,16,24,-32,32,-20,-14,-10,-7,-5,-3,-1,1,3,5,7,10,14,20])∧4<=aF∧go (d9++[(sS "d",.int 3)]) (fZ L (some (.ref 61)) [.ref 31,.ref 49,.ref 55,.ref 61,.ref 67] (.pin (.rng 0 4) o::(FI++(ů++[il ms]))))):=by kernel_rfl
theorem uT{xs:List ax}{m:Nm}{k:Nm->Prop}(e:eW xs m=m')(h:k m'):iz (eW xs m) k:=bX (e▸h)
theorem K?{go:Nm->Hp->Prop}{K:KS}(q:go (d9++[(sS "d",.int 0)]) (fZ L (some (.ref 31)) [.ref 31,.ref 49] (.pin (.rng 0 4) o::FK))):jI bV (lw 11) 8 fF (.val (.int 0)) d9 (fZ L none [.ref 31] (.pin (.rng 0 4) o::Jp)) KZ go K:=
 kc ⟨by decide,rfl,by decide,rfl,by decide,ae rfl,ae rfl,ga (eK uK) tV Qn ⟨by decide,by decide,kc (aQ (ae rfl) λo'=>uL (kc ⟨ae rfl,é,⟨by kernel_rfl,by kernel_rfl,nU.mp (by kernel_rfl)⟩,ae rfl,q⟩ Ql) _ _ (by decide)) Qm⟩⟩ Qo
theorem J_{go:Nm->Hp->Prop}{K:KS}(q:go (d9++[(sS "d",.int 1)]) (fZ L (some (.ref 49)) [.ref 31,.ref 49,.ref 55] (.pin (.rng 0 4) o::FJ))):jI bV (lw 11) 8 fF (.val (.int 1)) d9 (fZ L (some (.ref 31)) [.ref 31,.ref 49] (.pin (.rng 0 4) o::FK)) KZ go K:=
 kc ⟨by decide,rfl,by decide,rfl,by decide,ae rfl,ae rfl,ga (eK uK) tV Qj ⟨by decide,by decide,kc (aQ (ae rfl) λo'=>uL (kc ⟨ae rfl,è,⟨by kernel_rfl,by kernel_rfl,nU.mp (by kernel_rfl)⟩,ae rfl,q⟩ Qh) _ _ (by decide)) Qi⟩⟩ Qk
theorem J?{go:Nm->Hp->Prop}{K:KS}(q:go (d9++[(sS "d",.int 2)]) (fZ L (some (.ref 55)) [.ref 31,.ref 49,.ref 55,.ref 61] (.pin (.rng 0 4) o::FI))):jI bV (lw 11) 8 fF (.val (.int 2)) d9 (fZ L (some (.ref 49)) [.ref 31,.ref 49,.ref 55] (.pin (.rng 0 4) o::FJ)) KZ go K:=
 kc ⟨by decide,rfl,by decide,rfl,by decide,ae rfl,ae rfl,ga (eK uK) tV Qf ⟨by decide,by decide,kc (aQ (ae rfl) λo'=>uL (kc ⟨ae rfl,ç,⟨by kernel_rfl,by kernel_rfl,nU.mp (by kernel_rfl)⟩,ae rfl,q⟩ Qd) _ _ (by decide)) Qe⟩⟩ Qg
theorem I_{go:Nm->Hp->Prop}{K:KS}(q:go (d9++[(sS "d",.int 3)]) (fZ L (some (.ref 61)) [.ref 31,.ref 49,.ref 55,.ref 61,.ref 67] (.pin (.rng 0 4) o::Ï))):jI bV (lw 11) 8 fF (.val (.int 3)) d9 (fZ L (some (.ref 55)) [.ref 31,.ref 49,.ref 55,.ref 61] (.pin (.rng 0 4) o::FI)) KZ go K:=
 kc ⟨by decide,rfl,by decide,rfl,by decide,ae rfl,ae rfl,ga (eK uK) tV Qb ⟨by decide,by decide,kc (aQ (ae rfl) λo'=>uL (kc ⟨ae rfl,ŉ,⟨by kernel_rfl,by kernel_rfl,nU.mp (by kernel_rfl)⟩,ae rfl,q⟩ P9) _ _ (by decide)) Qa⟩⟩ Qc
theorem Xr(q:X d9 (fZ L (some (.ref 61)) [.ref 31,.ref 49,.ref 55,.ref 61,.ref 67] (.rng 0 4::Ï))):k5 bV fF (wk fF 28).1 (wk fF 28).2 (cg bV fF 8) (lw 11) d9 (fZ L none [.ref 31] []) (kg X):=
 have pk:∀{o:dU}{rc:Option AV}{rs:List AV}{Z:Hp}{P:Prop},P->iI (some (43,o)) (fZ L rc rs (.pin (.rng 0 4) o::Z)) P:=λp=>n5 (x:=.rng 0 4) rfl p
 kc (nh KZ (by kernel_rfl) L2 ⟨by decide,rT (x:=.rng 0 4) rfl λo=>pk (Z:=[]) (uT (m':=d9) (by kernel_rfl) (K? (K:=λf m H=>fX (some (43,o)) H λH=>kg X f m H) (pk (uT (m':=d9) (by kernel_rfl) (J_ (K:=λf m H=>fX (some (43,o)) H λH=>kg X f m H) (pk (uT (m':=d9) (by kernel_rfl) (J? (K:=λf m H=>fX (some (43,o)) H λH=>kg X f m H) (pk (uT (m':=d9) (by kernel_rfl) (I_ (K:=λf m H=>fX (some (43,o)) H λH=>kg X f m H) (pk (uT (m':=d9) (by kernel_rfl) (lV (x:=.rng 0 4) rfl q))))))))))))))⟩) L3
end
variable{lt:Lt}{ts:List Nat}{rows:Rw}
section
variable{L:LB}
noncomputable def cK(L:LB)(lt:Lt)(ts:List Nat)(kc nc:Option AV)(Z:Hp):Hp:=Hr L.sc lt [] [kc,nc,some (.ref 61),some (.ref 34),some (.ref 30),some (.str L.x),some (.ref 29),some (.ref 28),some (.ref 27),some (.ref 17),some (.ref 16),some (.ref 15)]
 (.lst (L.D.zs.map .int):: .lst [.int L.D.S0,.int L.D.S1,.int L.D.S2,.int L.D.S3]:: .dct (ij L.D):: .lst (dI L.D.l0):: .lst (dI L.D.l1):: .lst (dI L.D.l2):: .lst (dI L.D.l3):: .dct Vv::sd L.T0::sd L.T1::sd L.T2::sd L.T3:: .lst [.ref 23,.ref 24,.ref 25,.ref 26]:: .dct (hU L.T0 L.T1 L.T2 L.T3):: .lst (dI L.us)::
  .dct L.ke:: .lst [.int 0]:: .lst [.ref 31,.ref 49,.ref 55,.ref 61,.ref 67]:: .attr 35:: .inst 33:: .lst (ts.map .ref):: .lst (dI (uF L.us)):: .tup [.ref 30,.ref 32,.ref 34,.ref 36]::K4 L.A0 L.A1 L.A2 L.A3 (.rng 0 4::(Ï++Z)))
noncomputable abbrev wu(L:LB):Hp:=fZ L (some (.ref 61)) [.ref 31,.ref 49,.ref 55,.ref 61,.ref 67] (.rng 0 4::Ï)
theorem N9:Up (wu L) 35 1 ts lt T=cK L lt ts none none T:=by kernel_rfl
noncomputable def jK:f6:=oa [(.ref 303,kH 5)] [] λz=>none
theorem L1:k5 bV jK (wk jK 28).1 (wk jK 28).2 (cg bV jK 8) (lw 12) d9 (wu L) (kg X)=(false=false∧Vc 5 [.str (sS "abcd"),.ref 42,.ref 28,.ref 32,.ref 34] (wu L) λz h=>X d9 h):=by kernel_rfl
noncomputable def ZM(L:LB)(y:ax):Option (List ax):=([(cb 0,L.A0),(cb 1,L.A1),(cb 2,L.A2),(cb 3,L.A3)]:List (ax×List ax)).lookup y
noncomputable abbrev Jz:List (List AV):=[k?.map .int,é.map .int,è.map .int,ç.map .int,ŉ.map .int]
theorem Za{kc nc:Option AV}:∀(i:Nat)(xs:List AV),Jz[i]? =some xs->∃n,([31,49,55,61,67]:List Nat)[i]? =some n∧cH fG (cK L lt ts kc nc T) n=some xs
 |0,_,e=>aj e▸⟨31,rfl,rfl⟩
 |1,_,e=>aj e▸⟨49,rfl,rfl⟩
 |2,_,e=>aj e▸⟨55,rfl,rfl⟩
 |3,_,e=>aj e▸⟨61,rfl,rfl⟩
 |4,_,e=>aj e▸⟨67,rfl,rfl⟩
 |_+5,_,e=>aJ e
theorem PG:lD (wu L) 35 1 42 28 32 34 33 ZN (hU L.T0 L.T1 L.T2 L.T3) (ZM L) Jz:=λts lt T=>by
 rw[N9];refine⟨rfl,λy l e=>?_,rfl,⟨[31,49,55,61,67],rfl,rfl,Za⟩,rfl,rfl⟩;exact(Mine.a1 ⟨38,by kernel_rfl,rfl⟩ (Mine.a1 ⟨39,by kernel_rfl,rfl⟩ (Mine.a1 ⟨40,by kernel_rfl,rfl⟩ (Mine.a1 ⟨41,by kernel_rfl,rfl⟩ Mine.a0))):∀p∈([(cb 0,L.A0),(cb 1,L.A1),(cb 2,L.A2),(cb 3,L.A3)]:List (ax×List ax)),∃n,ZN.lookup p.1=some (.ref n)∧cH fG (cK L lt ts none none T) n=some (dI p.2)) (y,l) (jd e)
theorem Xq{z:Int}(e:B5 (ZM L) (hU L.T0 L.T1 L.T2 L.T3) Jz 5 (sS "abcd") [] z rows)(q:∀lt ts T,bn (cK L lt ts none none T) ts rows->ts.length<=1000->X d9 (cK L lt ts none none T)):k5 bV jK (wk jK 28).1 (wk jK 28).2 (cg bV jK 8) (lw 12) d9 (wu L) (kg X):=
 kc ⟨rfl,.mk (sS "abcd") 42 28 32 34 33 35 1 [] [] ZN (hU L.T0 L.T1 L.T2 L.T3) (ZM L) Jz [] rows z rfl rfl rfl .nil (.inl rfl) (bC _) PG e λH h=>by
  obtain⟨ts,lt,T,rfl,r,lo,hl⟩:=h;rw[N9]at r ⊢;exact q lt ts T r hl⟩ L1
noncomputable abbrev kK(j:Nat):Nm:=[(sS "pieces",.ref 22),(sS "days",.ref 32),(sS "order",.ref 36),(sS "above",.ref 42),(sS "worths",.ref (j+68))]
theorem L0:k5 bV jK (wk jK 28).1 (wk jK 28).2 (cg bV jK 8) (lw 13) d9 H (kg X)=(0<=aF∧X [(sS "pieces",.ref 22),(sS "days",.ref 32),(sS "order",.ref 36),(sS "above",.ref 42),(sS "worths",.ref H.length)] (H++[.lst []])):=by kernel_rfl
end
variable{r:List cP}
section
variable{L:LB}{kc nc:Option AV}{T:f6}{n:Int}{kp:ax}
noncomputable abbrev W9:List ax:=[sS "pieces",sS "days",sS "order",sS "above",sS "worths"]
noncomputable def ci:f6:=oa [(.ref 293,W8),(.ref 52,xh),(.ref 59,CW),(.ref 281,KP 5),(.ref 298,Wm),(.type "range",ng),(.type "str",CI),(.builtin "len",sM),(.builtin "str.join",rY),(.builtin "list.append",q8)] [mM "str" "join",mM "list" "append"] λz=>none
noncomputable abbrev nb:List cP:=lM (lw 14)
noncomputable abbrev OA:List Int:=[0,1,2,3,4,5,6,7,8,9,10,11,12,13,14,15]
theorem LZ:k5 bV ci (wk ci 28).1 (wk ci 28).2 (cg bV ci 8) (lw 14) m H (kg X)=qQ bV ci 8 (lw 14) m H (kg X):=by kernel_rfl
theorem LY(F:List IT->Option Nat->Hp->Prop):Jt bV ci 8 (lw 14) m H F=DZ H (.rng 0 16) F:=by kernel_rfl
theorem LX{go:Nm->Hp->Prop}{K:KS}:jI bV (lw 14) 8 ci (.val (.int n)) (kK j) (cK L lt ts kc nc Z) W9 go K=cg bV ci 8 (sA nb 0::nb.drop 1) (kK j) (cK L lt ts kc (some (.int n)) Z) (EE W9 go K):=by kernel_rfl
noncomputable abbrev HG:al:=eA (O9 (gL (sA nb 0))) 0
theorem LV{K:KS}:cg bV ci 8 (sA nb 0::r) m H K=fP ci 25 HG bV m H λys h=>aG (cH fG (h++[.lst ys]) h.length) λxs=>aG (jT gX xs) λts=>iF (sS "") ts=true∧fb bV (sS "kept") (.str (cq (sS "") ts)) m (h++[.lst ys]) λm h=>cg bV ci 8 r m h K:=by kernel_rfl
theorem LU(K:List AV->Hp->Prop):fP ci 25 HG bV m H K=lz ci 25 HG bV (eK HG) m H K:=by kernel_rfl
theorem LS(F:List IT->Option Nat->Hp->Prop):nO ci 25 HG bV m H F=DZ H (.rng 0 4) F:=by kernel_rfl
def f_(n k:Int)(y nn:Prop):Prop:=((0<=k∧k<=1000000)∧(2:Int).natAbs<2^64)∧((2^k.toNat:Int)≠0∧dn n (2^k.toNat)=false)∧(2:Int)≠0∧Br ((n.fdiv (2^k.toNat)).fmod 2 != 0) (((0<=k∧k<4)∧4<=1048576)∧y) nn
theorem LR{N:Hp->Prop}:iv (wk ci 25).2 (u0 ci 25 HG) ⟨eU (nj HG) bV.nk,eK HG,none⟩ (g0 HG).target (g0 HG).ifs (.val (.int k)) m (cK L lt ts kc (some (.int n)) Z) Y N=f_ n k (Y (.str (gj (sS "abcd") k)) (cK L lt ts kc (some (.int n)) Z)) (N (cK L lt ts kc (some (.int n)) Z)):=by kernel_rfl
theorem LQ{K:KS}:(fb bV (sS "kept") a m (cK L lt ts kc nc Z) λm h=>cg bV ci 8 r m h K)=cg bV ci 8 r m (cK L lt ts (some a) nc Z) K:=by kernel_rfl
noncomputable abbrev tA:al:=UI (Mo (sA nb 1))
noncomputable def ì:al->List al
 |.Compare _ _ rs _=>rs
 |_=>[]
noncomputable abbrev tB:al:=eA (ì (Mo (sA nb 1))) 1
theorem LP{K:KS}:cg bV ci 8 (sA nb 1::r) m H K=fP ci 25 tA bV m H λys h=>0<=aF∧mU .Eq (.ref h.length) (.ref (h++[AO.lst ys]).length) (h++[AO.lst ys]++[.lst []]) λc=>Br c (fP ci 25 tB bV m (h++[AO.lst ys]++[.lst []]) λzs h2=>mU .Eq (.ref (h++[AO.lst ys]).length) (.ref h2.length) (h2++[.lst zs]) λc=>Br c (cg bV ci 7 (lM (sA nb 1)) m (h2++[.lst zs]) (gn bV ci 8 r K)) (cg bV ci 8 r m (h2++[.lst zs]) K)) (Br false (cg bV ci 7 (lM (sA nb 1)) m (h++[AO.lst ys]++[.lst []]) (gn bV ci 8 r K)) (cg bV ci 8 r m (h++[AO.lst ys]++[.lst []]) K)):=by kernel_rfl
theorem LO(K:List AV->Hp->Prop):fP ci 25 tA bV m H K=lz ci 25 tA bV (eK tA) m H K:=by kernel_rfl
noncomputable abbrev í(x:ax):List IT:=x.cps.toList.map λc=>IT.val (.str ⟨#[c]⟩)
theorem LN(F:List IT->Option Nat->Hp->Prop):nO ci 25 tA bV m (cK L lt ts (some (.str kp)) nc Z) F=iz (í kp) λl=>F l none (cK L lt ts (some (.str kp)) nc Z):=by kernel_rfl
theorem LM{N:Hp->Prop}:iv (wk ci 25).2 (u0 ci 25 tA) ⟨eU (nj tA) bV.nk,eK tA,none⟩ (g0 tA).target (g0 tA).ifs (.val (.str c)) m (cK L lt ts (some (.str kp)) nc Z) Y N=aG ((ij L.D).lookup c) λa=>kE a λz=>Br (!oo kp z) (Y (.str c) (cK L lt ts (some (.str kp)) nc Z)) (N (cK L lt ts (some (.str kp)) nc Z)):=by kernel_rfl
theorem LL(K:List AV->Hp->Prop):fP ci 25 tB bV m H K=lz ci 25 tB bV (eK tB) m H K:=by kernel_rfl
theorem LK(F:List IT->Option Nat->Hp->Prop):nO ci 25 tB bV m (cK L lt ts kc nc Z) F=F XY (some 28) (cK L lt ts kc nc Z):=by kernel_rfl
noncomputable abbrev K0(L:LB)(lt:Lt)(ts:List Nat)(kc nc:Option AV)(o:dU)(Z:Hp):Hp:=(cK L lt ts kc nc Z).set 28 (.pin (.dct (hU L.T0 L.T1 L.T2 L.T3)) o)
def ř(L:LB)(kp c:ax)(h:Hp)(y nn:Prop):Prop:=Br (!oo kp c) (aG ((ij L.D).lookup c) λa=>kE a λz=>Br (oo kp z) (aG ((hU L.T0 L.T1 L.T2 L.T3).lookup c) λv=>mU .Eq v (.int 0) h λb=>Br b (Br true y nn) (Br false y nn)) (Br false y nn)) (Br false y nn)
theorem LJ{N:Hp->Prop}:iv (wk ci 25).2 (u0 ci 25 tB) ⟨eU (nj tB) bV.nk,eK tB,none⟩ (g0 tB).target (g0 tB).ifs (.val (.str c)) m (K0 L lt ts (some (.str kp)) nc o Z) Y N=ř L kp c (K0 L lt ts (some (.str kp)) nc o Z) (Y (.str c) (K0 L lt ts (some (.str kp)) nc o Z)) (N (K0 L lt ts (some (.str kp)) nc o Z)):=by kernel_rfl
end
variable{mk:ax}
section
variable{L:LB}{kc nc:Option AV}{T:f6}{n:Int}{kp:ax}
noncomputable abbrev ib:List cP:=lM (sA nb 1)
noncomputable abbrev Sf(j:Nat)(a:AV):Nm:=[(sS "pieces",.ref 22),(sS "days",.ref 32),(sS "order",.ref 36),(sS "above",.ref 42),(sS "worths",.ref (j+68)),(sS "marked",a)]
noncomputable abbrev te(j:Nat)(a b:AV):Nm:=[(sS "pieces",.ref 22),(sS "days",.ref 32),(sS "order",.ref 36),(sS "above",.ref 42),(sS "worths",.ref (j+68)),(sS "marked",a),(sS "left",b)]
theorem LI{K:KS}:cg bV ci 7 (sA ib 0::r) (kK j) (cK L lt ts (some (.str kp)) nc Z) K=Vm [.str L.x,.ref 30,.ref 17,.str kp,.ref 36] (cK L lt ts (some (.str kp)) nc Z) λa h=>cg bV ci 7 r (Sf j a) h K:=by kernel_rfl
theorem LH{K:KS}:cg bV ci 7 (sA ib 1::r) (Sf j (.str mk)) H K=(mk.length<=200∧cg bV ci 7 r (te j (.str mk) (.str (eR mk))) H K):=by kernel_rfl
noncomputable abbrev dX:al:=eA (O9 (eA (O9 (eA (ì (eA (VE (Mo (sA ib 2))) 0)) 0)) 0)) 1
abbrev T?(mk lf:ax)(go:Hp->Prop)(no:Hp->Prop)(kvs:List (ax×AV))(h:Hp):Prop:=kh kvs=true∧I4 5 [.str (sS ""),.ref h.length,.ref 22] (h++[.dct kvs]) λu h2=>jY u λn=>aG (cH fG h2 n) λxs=>aG (jT gX xs) λts=>iF (sS "") ts=true∧Br (lf != cq (sS "") ts) (Br true (no h2) (go h2)) (mk.length<=200∧Gk (.bool (jF mk)) h2 λv h3=>mU .NotEq v (.str (sS "True")) h3 λc=>Br c (Br true (no h3) (go h3)) (Br false (no h3) (go h3)))
theorem LG{lf:ax}{K:KS}:cg bV ci 7 (sA ib 2::r) (te j (.str mk) (.str lf)) H K=JB ci 21 dX bV (te j (.str mk) (.str lf)) H (T? mk lf (λh=>cg bV ci 7 r (te j (.str mk) (.str lf)) h K) (λh=>K (.ret (.bool false)) (te j (.str mk) (.str lf)) h)):=by kernel_rfl
theorem LF(K:List (ax×AV)->Hp->Prop):JB ci 21 dX bV m H K=Zl ci 21 dX bV (eK dX) m H K:=by kernel_rfl
theorem LA(F:List IT->Option Nat->Hp->Prop):nO ci 21 dX bV m (cK L lt ts (some (.str kp)) nc Z) F=iz (í kp) λl=>F l none (cK L lt ts (some (.str kp)) nc Z):=by kernel_rfl
theorem Lz{Y:ax×AV->Hp->Prop}{N:Hp->Prop}:iv (wk ci 21).2 (Iq ci 21 dX) ⟨eU (nj dX) bV.nk,eK dX,none⟩ (g0 dX).target (g0 dX).ifs (.val (.str c)) m (cK L lt ts (some (.str kp)) nc Z) Y N=aG ((ij L.D).lookup c) λa=>Y (c,a) (cK L lt ts (some (.str kp)) nc Z):=by kernel_rfl
noncomputable abbrev wP(kp:ax):ax:=gj (sS "xX") ((kp.length:Int).fmod 2)++kp
set_option tactic.hygienic true in
theorem Ly{lf:ax}{K:KS}:cg bV ci 7 [sA ib 3] (te j (.str mk) (.str lf)) (cK L lt ts (some (.str kp)) nc Z) K=(false=false∧aG (qr (.ref (j+68)) (cK L lt ts (some (.str kp)) nc Z)) λty=>aG (iJ ci.meths ty (sS "append")) λg=>((kp.length:Int)<2^63)∧(2:Int)≠0∧((0<=(kp.length:Int).fmod 2∧(kp.length:Int).fmod 2<2)∧2<=1048576)∧(gj (sS "xX") ((kp.length:Int).fmod 2)).length+kp.length<=aF∧Vf [.str lf,.ref 28] (cK L lt ts (some (.str kp)) nc Z) λv h=>Gk v h λw h=>2<=aF∧ci.call (.val g) [.ref (j+68),.ref h.length] (h++[.tup [.str (wP kp),w]]) λ_ h=>K .next (te j (.str mk) (.str lf)) h):=by kernel_rfl
theorem Lx:sA nb 1::[]=nb.drop 1:=by kernel_rfl
theorem Lw:lM (sA nb 1)=[sA ib 0,sA ib 1,sA ib 2,sA ib 3]:=by kernel_rfl
end
variable{ka:List (ax×AV)}{b:Nat}
variable{H':Hp}
section
variable{L:LB}{ck cn:Option AV}{T:f6}{n:Int}{kp:ax}
theorem f4{X:Hp}:cK L lt ts ck cn Z++X=cK L lt ts ck cn (Z++X):=by kernel_rfl
noncomputable def g?(n k:Int):Bool:=(n.fdiv (2^k.toNat)).fmod 2 != 0
noncomputable def XE(n:Int):List ax:=(([0,1,2,3]:List Int).filter (g? n)).map (gj (sS "abcd"))
noncomputable def qM(n:Int):ax:=cq (sS "") (XE n)
theorem mG{α β:Type}(g:α->Bool)(f:α->β):∀l:List α,l.filterMap (λa=>bif g a then some (f a)else none)=(l.filter g).map f
 |[]=>rfl
 |a::l=>by
  rw[ce,f8];cases g a with
  |true=>exact congrArg (f a::·) (mG g f l)
  |false=>exact mG g f l
theorem Md{K:KS}(hj:iF (sS "") (XE n)=true)(q:∀T,cg bV ci 8 r m (cK L lt ts (some (.str (qM n))) (some (.int n)) (Z++T)) K):cg bV ci 8 (sA nb 0::r) m (cK L lt ts ck (some (.int n)) Z) K:=by
 refine kc (ga (eK HG) LU LS (qw (aQ (by decide) (bX ⟨ae rfl,pM (its:=[]) λo=>?_⟩)))) LV;have hp:∀{P:Prop},P->iI (some ((cK L lt ts ck (some (.int n)) Z).length,o)) (cK L lt ts ck (some (.int n)) (Z++[.pin (.rng 0 4) o])) P:=λp=>by
  rw[<-f4];exact u6 p
 rw[f4];refine ff (λk=>IT.val (.int k)) (λk:Int=>bif g? n k then some (AV.str (gj (sS "abcd") k))else none) (λk=>(((0<=k∧k<=1000000)∧(2:Int).natAbs<2^64)∧((2^k.toNat:Int)≠0∧dn n (2^k.toNat)=false))∧((0<=k∧k<4)∧4<=1048576)) (λP p=>hp p)
  (λk ok Y N y nn=>kc (P:=f_ n k _ _) ⟨ok.1.1,ok.1.2,by decide,λe=>⟨ok.2,y _ (congrArg (λb=>bif b then some (AV.str (gj (sS "abcd") k))else none) e)⟩,λe=>nn (congrArg (λb=>bif b then some (AV.str (gj (sS "abcd") k))else none) e)⟩ LR) [0,1,2,3] _ ?_ ?_
 ·exact(Mine.a1 (aQ (aQ (by decide) (aQ (by decide) (by kernel_rfl))) (by decide)) (Mine.a1 (aQ (aQ (by decide) (aQ (by decide) (by kernel_rfl))) (by decide)) (Mine.a1 (aQ (aQ (by decide) (aQ (by decide) (by kernel_rfl))) (by decide)) (Mine.a1 (aQ (aQ (by decide) (aQ (by decide) (by kernel_rfl))) (by decide)) Mine.a0))))
 ·rw[mG,<-f4]
  refine uH (aw (iR (f:=fG) rfl) (aw ((congrArg (jT gX) da.symm).trans (kJ (XE n))) ⟨hj,?_⟩));rw[f4,f4,aA];exact kc (q _) LQ
noncomputable def yC(ka:List (ax×AV))(kp c:ax):Option Bool:=(ka.lookup c).bind λa=>(gX a).bind λz=>some (oo kp z)
noncomputable def w8(ka:List (ax×AV))(kp c:ax):Bool:=(yC ka kp c).getD false
theorem FY(h:(yC ka kp c).isSome=true){F:ax->Prop}(k:∀z,oo kp z=w8 ka kp c->F z):aG (ka.lookup c) λa=>kE a F:=by
 unfold yC at h;cases e:ka.lookup c with
 |none=>rw[e]at h;exact bj h
 |some a=>
  rw[e]at h;cases e2:gX a with
  |none=>rw[show(some a).bind (λa=>(gX a).bind λz=>some (oo kp z))=(gX a).bind λz=>some (oo kp z)from rfl,e2]at h;exact bj h
  |some z=>
   refine tJ (C:=λa=>kE a F) e2 (k z ?_);unfold w8 yC;rw[e];exact tJ (C:=λa=>oo kp z=(((some a).bind λa=>(gX a).bind λz=>some (oo kp z)).getD false)) e2 rfl
noncomputable def vA(x:ax):List ax:=x.cps.toList.map λc=>⟨#[c]⟩
noncomputable def ß(ka:List (ax×AV))(kp:ax):List ax:=(vA kp).filter λc=> !w8 ka kp c
noncomputable def HE(ka kvo:List (ax×AV))(kp c:ax):Bool:= !oo kp c&&(w8 ka kp c&&((kvo.lookup c).bind mE==some 0))
theorem Zp{T:Int}{K:Bool->Prop}(k:K (T==0)):mU .Eq (.int T) (.int 0) H K:=(aw (x:=T==0) rfl k:aG (MU .Eq T 0) K)
theorem UP{y nn:Prop}(hu:(yC (ij L.D) kp c).isSome=true)(ho:∃T,(hU L.T0 L.T1 L.T2 L.T3).lookup c=some (.int T))(hy:HE (ij L.D) (hU L.T0 L.T1 L.T2 L.T3) kp c=true->y)(hn:HE (ij L.D) (hU L.T0 L.T1 L.T2 L.T3) kp c=false->nn):ř L kp c h y nn:=by
 unfold HE at hy hn;unfold ř;cases h1:oo kp c with
 |true=>exact Br.f (Br.f (hn (by rw[h1];rfl)))
 |false=>
  rw[h1]at hy hn;refine Br.t (FY hu λz hz=>?_);rw[<-hz]at hy hn;cases h2:oo kp z with
  |false=>exact Br.f (Br.f (hn (by rw[h2];rfl)))
  |true=>
   rw[h2]at hy hn;obtain⟨T,e⟩:=ho;rw[e]at hy hn;refine Br.t (aw e (Zp ?_));have e3:(((some (AV.int T)).bind mE:Option Int)==some 0)=(T==0):=rfl;rw[e3]at hy hn;cases h3:T==0 with
   |true=>exact Br.t (Br.t (hy (by rw[h3];rfl)))
   |false=>exact Br.f (Br.f (hn (by rw[h3];rfl)))
theorem MR{a:Nat}{K:Bool->Prop}(h1:cH fG H a=some xs)(h2:cH fG H b=some [])(l:xs.length<=10000)(k:K xs.isEmpty):mU .Eq (.ref a) (.ref b) H K:=by
 show aG (BX .Eq) λq=>aG (cH fG H a) λxs=>aG (cH fG H b) λys=>(xs.length<=aF∧ys.length<=aF)∧NI H xs ys q K
 refine aw (x:=true) rfl (aw h1 (aw h2 (aQ ⟨uf l,bC _⟩ ?_)));cases xs with
 |nil=>exact .eq .nil k
 |cons=>exact .ne (hK _) k
theorem IC{a:Nat}{K:Bool->Prop}(h1:cH fG H a=some [])(h2:cH fG H b=some xs)(l:xs.length<=10000)(k:K xs.isEmpty):mU .Eq (.ref a) (.ref b) H K:=by
 show aG (BX .Eq) λq=>aG (cH fG H a) λxs=>aG (cH fG H b) λys=>(xs.length<=aF∧ys.length<=aF)∧NI H xs ys q K
 refine aw (x:=true) rfl (aw h1 (aw h2 (aQ ⟨bC _,uf l⟩ ?_)));cases xs with
 |nil=>exact .eq .nil k
 |cons=>exact .ne (λe=>hK _ e.symm) k
noncomputable def yQ(ka kvo:List (ax×AV))(kp:ax):Bool:=(ß ka kp).isEmpty&&(pX.filter (HE ka kvo kp)).isEmpty
theorem Cz(us:List ax):(dI us).isEmpty=us.isEmpty:=by cases us<;>rfl
theorem Kh{K:KS}{nn:Option AV}(hu:((vA kp++pX).all λc=>(yC (ij L.D) kp c).isSome)=true)(hl:kp.length<=200)
  (y:yQ (ij L.D) (hU L.T0 L.T1 L.T2 L.T3) kp=true->∀X,cg bV ci 7 (lM (sA nb 1)) m (cK L lt ts (some (.str kp)) nn (Z++X)) (gn bV ci 8 [] K))(no:yQ (ij L.D) (hU L.T0 L.T1 L.T2 L.T3) kp=false->∀X,cg bV ci 8 [] m (cK L lt ts (some (.str kp)) nn (Z++X)) K):cg bV ci 8 [sA nb 1] m (cK L lt ts (some (.str kp)) nn Z) K:=by
 have hu:=λc hc=>aB.mp hu c hc
 have ln:(vA kp).length=kp.length:=(aD _).trans (cG);have lf:∀p:ax->Bool,((vA kp).filter p).length<=200:=λp=>aq (j8 _ _) (ln▸hl)
 refine kc (ga (eK tA) LO LN (bX ⟨?_,?_⟩)) LP
 ·exact uf (aq (bP ((aD _).trans cG)) (aq hl (by decide)))
 show jA _ _ _ _ _ none ((kp.cps.toList.map λc=>IT.val (.str ⟨#[c]⟩))) _ _ _;have ei:(kp.cps.toList.map λc=>IT.val (.str ⟨#[c]⟩))=(vA kp).map λc=>IT.val (.str c):=by unfold vA;rw[da];rfl
 rw[ei];refine ff (pn:=none) (λc=>IT.val (.str c)) (λc=>bif !w8 (ij L.D) kp c then some (AV.str c)else none) (λc=>(yC (ij L.D) kp c).isSome=true) (λP p=>p) (λc ok Y N y nn=>kc (FY ok λz hz=>?_) LM) (vA kp) _ (λc hc=>hu c (av _ hc)) ?_
 ·rw[hz]
  exact⟨λe=>y _ (by rw[e];rfl),λe=>nn (by rw[e];rfl)⟩
 rw[xZ (g:=λc=> !w8 (ij L.D) kp c) λu=>rfl];refine⟨bC _,MR (gz _ (ba bA)) (gz _ bA) (iP _▸aq (lf _) (by decide)) ?_⟩;rw[Cz];show Br (ß (ij L.D) kp).isEmpty _ _;have tst:∀{b:Bool},(ß (ij L.D) kp).isEmpty=b->yQ (ij L.D) (hU L.T0 L.T1 L.T2 L.T3) kp=(b&&(pX.filter (HE (ij L.D) (hU L.T0 L.T1 L.T2 L.T3) kp)).isEmpty):=λe=>by unfold yQ;rw[e]
 refine⟨λe1=>?_,λe1=>?_⟩
 ·rw[f4,f4]
  refine ga (eK tB) LL LK ⟨ae rfl,rT (x:=.dct (hU L.T0 L.T1 L.T2 L.T3)) rfl λo=>?_⟩;refine ff (pn:=some (28,o)) (λc=>IT.val (.str c)) (λc=>bif HE (ij L.D) (hU L.T0 L.T1 L.T2 L.T3) kp c then some (AV.str c)else none) (λc=>(yC (ij L.D) kp c).isSome=true∧∃T,(hU L.T0 L.T1 L.T2 L.T3).lookup c=some (.int T)) (λP p=>n5 (x:=.dct (hU L.T0 L.T1 L.T2 L.T3)) rfl p)
   (λc ok Y N y nn=>kc (UP ok.1 ok.2 (λe=>y _ (by rw[e];rfl)) λe=>nn (by rw[e];rfl)) LJ) pX _ ?_ ?_
  ·exact λc hc=>⟨hu c (au _ hc),(Mine.a1 ⟨L.T0,by kernel_rfl⟩ (Mine.a1 ⟨L.T1,by kernel_rfl⟩ (Mine.a1 ⟨L.T2,by kernel_rfl⟩ (Mine.a1 ⟨L.T3,by kernel_rfl⟩ Mine.a0))):∀c∈pX,∃T,(hU L.T0 L.T1 L.T2 L.T3).lookup c=some (.int T)) c hc⟩
  rw[xZ (g:=HE (ij L.D) (hU L.T0 L.T1 L.T2 L.T3) kp) λu=>rfl];refine lV (x:=.dct (hU L.T0 L.T1 L.T2 L.T3)) rfl ?_;have es:((cK L lt ts (some (.str kp)) nn (Z++[AO.lst (dI ((vA kp).filter λc=> !w8 (ij L.D) kp c))]++[AO.lst []])).set 28 (.pin (.dct (hU L.T0 L.T1 L.T2 L.T3)) o)).set 28 (.dct (hU L.T0 L.T1 L.T2 L.T3))=cK L lt ts (some (.str kp)) nn (Z++[AO.lst (dI ((vA kp).filter λc=> !w8 (ij L.D) kp c))]++[AO.lst []]):=by kernel_rfl
  rw[es];refine IC (xs:=dI (pX.filter (HE (ij L.D) (hU L.T0 L.T1 L.T2 L.T3) kp))) (gz _ (ba ?_)) (gz _ bA) (iP _▸aq (j8 _ _) (by decide)) ?_
  ·rw[<-f4,<-f4];exact bA
  rw[Cz,f4,aA,aA];exact⟨λe2=>y ((tst e1).trans e2) _,λe2=>no ((tst e1).trans e2) _⟩
 ·refine Br.f ?_
  rw[f4,f4,aA];exact no (tst e1) _
end
section
variable{KS':KS}{L:LB}{ck cn:Option AV}{T:f6}{n:Int}{kp:ax}
noncomputable def Jx(ka:List (ax×AV))(kp:ax):List (ax×AV):=(vA kp).filterMap λc=>(ka.lookup c).map λa=>(c,a)
structure Vk(L:LB)(kp mk:ax)(us:List ax)(y:ax)(z:Int):Prop where
 e:pi L.ke (ij L.D) kp (uF L.us).reverse L.x=some mk
 l:mk.length<=200
 d:kh (Jx (ij L.D) kp)=true
 ne:ph (Jx (ij L.D) kp) (xw L.D) 5 (sS "")=some us
 jn:iF (sS "") us=true
 je:cq (sS "") us=eR mk
 pr:jF mk=true
 ru:pg (hU L.T0 L.T1 L.T2 L.T3) (iM (eR mk)) [(sS "",0)]=some [(y,z)]
 ll:(eR mk).length<=200
 zl:z.natAbs.log2<1920
theorem Ej(h1:(L.ke.all λp=>scal p.2)=true)(h2:(uF L.us).length<=4)(e:pi L.ke (ij L.D) kp (uF L.us).reverse L.x=some mk)(q:cg bV ci 7 r (Sf j (.str mk)) (cK L lt ts (some (.str kp)) cn Z) KS'):cg bV ci 7 (sA ib 0::r) (kK j) (cK L lt ts (some (.str kp)) cn Z) KS':=
 kc (.mk L.x kp mk 30 17 36 L.ke (ij L.D) (uF L.us) rfl rfl rfl rfl h1 rfl (by decide) h2 e q) LI
theorem Qv{F:Hp->Bool->Prop}(k:F H false):Gk (.bool true) H λv h=>mU .NotEq v (.str (sS "True")) h λc=>F h c:=(aw (x:=false) (by kernel_rfl) k:aG (IE .NotEq (aa "True") (sS "True")) λc=>F H c)
theorem IG{y:ax}{us:List ax}{z:Int}(Y:Vk L kp mk us y z)(hl:kp.length<=200)(hu:∀c∈vA kp,(yC (ij L.D) kp c).isSome=true)(q:∀X,cg bV ci 7 r (te j (.str mk) (.str (eR mk))) (cK L lt ts (some (.str kp)) cn (Z++X)) KS'):cg bV ci 7 (sA ib 2::r) (te j (.str mk) (.str (eR mk))) (cK L lt ts (some (.str kp)) cn Z) KS':=by
 have ei:í kp=(vA kp).map λc=>IT.val (.str c):=by unfold vA;rw[da];rfl
 have kl:(Jx (ij L.D) kp).length<=1000:=aq (List.length_filterMap_le _ _) (aq (bP ((aD _).trans cG)) (aq hl (by decide)));refine kc (tM (eK dX) LF LA (bX ⟨uf (aq (bP ((aD _).trans cG)) (aq hl (by decide))),?_⟩)) LG;show jA _ _ _ _ _ none (í kp) _ _ _;rw[ei];refine ff (pn:=none) (λc=>IT.val (.str c)) (λc=>((ij L.D).lookup c).map λa=>(c,a)) (λc=>(yC (ij L.D) kp c).isSome=true) (λP p=>p) (λc ok Y N y nn=>kc (P:=aG ((ij L.D).lookup c) _) ?_ Lz) (vA kp) _ hu ?_
 ·cases e:(ij L.D).lookup c with
  |none=>unfold yC at ok;rw[e]at ok;exact bj ok
  |some a=>exact aw (x:=a) rfl (y _ (by rw[e];rfl))
 ·refine⟨Y.d,.mk (sS "") _ 22 (Jx (ij L.D) kp) Vv (xw L.D) us rfl (iR (f:=vz) rfl) rfl (Oq rfl rfl rfl rfl) kl Y.ne (aw (iR (f:=fG) rfl) (aw (kJ us) ⟨Y.jn,?_⟩))⟩
  rw[Y.je,f4,f4,aA];have e0:(eR mk != eR mk)=false:=bne_self_eq_false _;rw[e0,Y.pr];exact Br.f ⟨Y.l,Qv (F:=λh c=>Br c _ _) (Br.f (Br.f (q _)))⟩
noncomputable abbrev vQ(kp:ax)(z:Int):ax×ax:=(wP kp,aa (oS z))
set_option tactic.hygienic true in
theorem U6{y:ax}{z:Int}{ws:List AV}(hl:kp.length<=200)(hr:pg (hU L.T0 L.T1 L.T2 L.T3) (iM (eR mk)) [(sS "",0)]=some [(y,z)])(ll:(eR mk).length<=200)(zl:z.natAbs.log2<1920)(hj:Z[j]? =some (.lst ws))(hw:ws.length<=1000)(q:KS' .next (te j (.str mk) (.str (eR mk))) (cK L lt ts (some (.str kp)) cn ((Z++[AO.tup [.str (vQ kp z).1,.str (vQ kp z).2]]).set j (.lst (ws++[AV.ref (Z.length+68)]))))):cg bV ci 7 [sA ib 3] (te j (.str mk) (.str (eR mk))) (cK L lt ts (some (.str kp)) cn Z) KS':=by
 have hjj:(cK L lt ts (some (.str kp)) cn Z)[j+68]? =some (.lst ws):=hj;have f0:=d5 (kp.length:Int) (show(0:Int)<2 by decide);have f1:=fe (kp.length:Int) (show(0:Int)<2 by decide);refine kc ⟨rfl,aw (Cw hjj rfl) (aw (x:=qa "list.append") rfl ⟨small (aq hl (by decide)),by decide,⟨⟨f0,f1⟩,by decide⟩,?_,.mk (eR mk) y 28 (hU L.T0 L.T1 L.T2 L.T3) z rfl rfl rfl ll hr ⟨zl,ae rfl,oP (sp:=q8) rfl (aw (ba hjj) (aw (x:=ws) rfl ⟨uf (aq hw (by decide)),bX ?_⟩))⟩⟩)⟩ Ly
 ·have e:(gj (sS "xX") ((kp.length:Int).fmod 2)).length<=1:=zP (n:=2) (C:=λk=>(gj (sS "xX") k).length<=1) (by decide) (Mine.a1 (ae (by kernel_rfl)) (Mine.a1 (ae (by kernel_rfl)) Mine.a0))
  exact uf (aq (hM e hl) (by decide))
 ·rw[f4]
  exact q
end
variable{ns:List Int}{G:Prop}{rs:Rw}
variable{H'':Hp}
section
variable{L:LB}{ck cn ck' cn':Option AV}{Z':Hp}{T:f6}{n:Int}{kp:ax}{fin:Rw}
def fQ(H H':Hp):Prop:=∀(n:Nat)(as:List AV),H[n]? =some (AO.tup as)->H'[n]? =some (AO.tup as)
theorem fQ.trans(a:fQ H H')(b:fQ H' H''):fQ H H'':=λn as h=>b n as (a n as h)
theorem fQ.app(X:Hp):fQ H (H++X):=λz z h=>ba h
theorem fQ.set{k:Nat}{o:AO}(e:H[k]? =some o)(ho:uv o=none):fQ H (H.set k y):=λn as h=>by
 by_cases q:n=k
 ·exact aJ ((ho.symm.trans (congrArg uv (aj (e.symm.trans ((congrArg (H[·]?) q.symm).trans h)))):none=some as))
 ·exact(eS q).trans h
theorem fQ.pre{A:Hp}(t:fQ Z Z'):fQ (A++Z) (A++Z'):=λn as h=>by
 by_cases q:n<A.length
 ·rw[d7 q]at h ⊢;exact h
 ·rw[bp (dm.mp q)]at h ⊢;exact t _ _ h
theorem bn.tups{ts:List Nat}(t:fQ H H')(r:bn H ts rows):bn H' ts rows:=by
 induction r with
 |nil=>exact .nil
 |cons h s _ ih=>exact .cons (t _ _ h) s ih
theorem jX(t:fQ Z Z'):fQ (cK L lt ts ck cn Z) (cK L lt ts ck' cn' Z'):=by
 have e:cK L lt ts ck' cn' Z'=((cK L lt ts ck cn Z').set 3 (.cell ck')).set 4 (.cell cn'):=by kernel_rfl
 have e1:cK L lt ts ck cn Z=cK L lt ts ck cn []++Z:=(f4 (Z:=[]) (X:=Z)).symm;have e2:cK L lt ts ck cn Z'=cK L lt ts ck cn []++Z':=(f4 (Z:=[]) (X:=Z')).symm;rw[e];refine .trans ?_ ((fQ.set (k:=3) (o:=.cell ck) rfl rfl).trans (fQ.set (k:=4) (o:=.cell cn) rfl rfl));rw[e1,e2];exact t.pre
structure I2(L:LB)(n:Int):Prop where
 hj:iF (sS "") (XE n)=true
 hl:(qM n).length<=200
 hu:((vA (qM n)++pX).all λc=>(yC (ij L.D) (qM n) c).isSome)=true
inductive Ao(L:LB)(n:Int)(wr wr':Rw):Prop
 |no(h:I2 L n)(t:yQ (ij L.D) (hU L.T0 L.T1 L.T2 L.T3) (qM n)=false)(e:wr'=wr):Ao L n wr wr'
 |yes(h:I2 L n)(t:yQ (ij L.D) (hU L.T0 L.T1 L.T2 L.T3) (qM n)=true)(mk:ax)(us:List ax)(y:ax)(z:Int)(Y:Vk L (qM n) mk us y z)(hk:(wP (qM n)).length<=1000)(e:wr'=wr++[vQ (qM n) z]):Ao L n wr wr'
inductive tt(C:Int->Rw->Rw->Prop):List Int->Rw->Rw->Prop
 |nil{w:Rw}:tt C [] w w
 |cons{n:Int}{ns:List Int}{a b c:Rw}(h:C n a b)(r:tt C ns b c):tt C (n::ns) a c
theorem tt.hd{C:Int->Rw->Rw->Prop}{a c:Rw}(h:tt C ns a c):match ns with
  |[]=>(a=c->G)->G
  |n::ns=>(∀b,C n a b->tt C ns b c->G)->G:=by
 induction h with
 |nil=>exact λk=>k rfl
 |cons h r _=>exact λk=>k _ h r
theorem bn.add{ts us:List Nat}(r:bn H ts rows)(q:bn H us rs):bn H (ts++us) (rows++rs):=by
 induction r with
 |nil=>exact q
 |cons h s _ ih=>exact .cons h s ih
inductive ð(L:LB)(rows fin:Rw)(o:dU)(j jr:Nat)(l:List IT)(m:Nm)(H:Hp):Prop
 |mk(ns:List Int)(wr:Rw)(lt:Lt)(ts:List Nat)(ck cn:Option AV)(Z:Hp)(ws:List Nat)(el:l=ns.map λn=>.val (.int n))(em:eW W9 m=kK j)(eh:H=cK L lt ts ck cn Z)(r:bn H ts rows)(tl:ts.length<=1000)(h:Z[j]? =some (.lst (ws.map .ref)))(hr:Z[jr]? =some (.pin (.rng 0 16) o))(q:bn H ws wr)(c:tt (Ao L) ns wr fin)(hw:ws.length+ns.length<=1000):ð L rows fin o j jr l m H
structure Cd(L:LB):Prop where
 k1:(L.ke.all λp=>scal p.2)=true
 k2:(uF L.us).length<=4
theorem P6(b:Cd L){jr:Nat}{wr:Rw}{ws:List Nat}{go:Nm->Hp->Prop}{KK:KS}(r:bn (cK L lt ts ck cn Z) ts rows)(h:Z[j]? =some (.lst (ws.map .ref)))(hr:Z[jr]? =some (.pin (.rng 0 16) o))(q:bn (cK L lt ts ck cn Z) ws wr)(c:tt (Ao L) (n::ns) wr fin)(tl:ts.length<=1000)(hw:ws.length+(ns.length+1)<=1000)(hgo:∀m H,ð L rows fin o j jr (ns.map λn=>.val (.int n)) m H->go m H):jI bV (lw 14) 8 ci (.val (.int n)) (kK j) (cK L lt ts ck cn Z) W9 go KK:=by
 have hw1:ws.length<=1000:=aq (a9 _ _) hw;have no:∀(X:Hp),tt (Ao L) ns wr fin->go (kK j) (cK L lt ts (some (.str (qM n))) (some (.int n)) (Z++X)):=λX c=>hgo _ _ ⟨ns,wr,lt,ts,_,_,Z++X,ws,rfl,by kernel_rfl,rfl,bn.tups (jX (fQ.app X)) r,tl,ba h,ba hr,bn.tups (jX (fQ.app X)) q,c,aq (aU (gH _) _) hw⟩
 refine c.hd λwr1 c1 c2=>?_
 have hh:I2 L n:=by
  induction c1 with
  |no h=>exact h
  |yes h=>exact h
 refine kc (Md hh.hj λX=>Lx▸Kh hh.hu hh.hl (λt X'=>?_) λt X'=>?_) LX
 ·induction c1 with
  |no _ t'=>exact bj (t'.symm.trans t)
  |yes _ _ mk us y z Y hk e=>
   rw[Lw];refine Ej b.k1 b.k2 Y.e (kc ⟨Y.l,IG Y hh.hl (λc hc=>aB.mp hh.hu c (av _ hc)) λX2=>U6 hh.hl Y.ru Y.ll Y.zl (ba (ba (ba h))) (aq (bP (aD _)) hw1) ?_⟩ LH);show go (te j (.str mk) (.str (eR mk))) (cK L lt ts _ _ ((Z++X++X'++X2++[AO.tup [.str (vQ (qM n) z).1,.str (vQ (qM n) z).2]]).set j (.lst (ws.map .ref++[AV.ref ((Z++X++X'++X2).length+68)]))));have eZ:Z++X++X'++X2=Z++(X++(X'++X2)):=by rw[aA,aA]
   rw[eZ];generalize X++(X'++X2)=V;have hj:=(aH.mp h).1;have ne:jr≠j:=λi=>aJ ((congrArg (·.bind V5) (h.symm.trans ((congrArg (Z[·]?) i.symm).trans hr)):some "list"=none).symm)
   have tz:fQ Z ((Z++V++[AO.tup [.str (vQ (qM n) z).1,.str (vQ (qM n) z).2]]).set j (.lst (ws.map .ref++[AV.ref ((Z++V).length+68)]))):=(fQ.app V).trans ((fQ.app _).trans (fQ.set (ba (ba h)) rfl));refine hgo _ _ ⟨ns,wr1,lt,ts,_,_,_,ws++[(Z++V).length+68],rfl,by kernel_rfl,rfl,bn.tups (jX tz) r,tl,?_,(eS ne).trans (ba (ba hr)),?_,c2,?_⟩
   ·rw[bZ (by rw[aK,aK];exact bx hj (aq (a9 _ _) (a9 _ _))),b6]
    rfl
   ·subst e
    refine bn.add (bn.tups (jX tz) q) (.cons ?_ hk .nil);show((Z++V++[AO.tup [.str (vQ (qM n) z).1,.str (vQ (qM n) z).2]]).set j (.lst (ws.map .ref++[AV.ref ((Z++V).length+68)])))[(Z++V).length]? =_;exact(eS (cu (bx hj (by rw[aK];exact a9 _ _)))).trans bA
   ·rw[aK,cU,d4 [_].length];exact hw
 ·induction c1 with
  |yes _ t'=>exact bj (t.symm.trans t')
  |no _ _ e=>
   subst e;rw[aA];exact no _ c2
inductive VH(L:LB)(rows fin:Rw)(m:Nm)(H:Hp):Prop
 |mk(lt:Lt)(ts:List Nat)(ck cn:Option AV)(Z:Hp)(j:Nat)(ws:List Nat)(em:m=kK j)(eh:H=cK L lt ts ck cn Z)(r:bn H ts rows)(tl:ts.length<=1000)(h:Z[j]? =some (.lst (ws.map .ref)))(q:bn H ws fin)(hw:ws.length<=1000):VH L rows fin m H
theorem H4:(cK L lt ts ck cn Z).length=Z.length+68:=by kernel_rfl
theorem Xp(q:X (kK Z.length) (cK L lt ts ck cn (Z++[.lst []]))):k5 bV jK (wk jK 28).1 (wk jK 28).2 (cg bV jK 8) (lw 13) d9 (cK L lt ts ck cn Z) (kg X):=kc (aQ (bC _) (by rw[f4,H4];exact q)) L0
theorem Xo(b:Cd L)(c:tt (Ao L) OA [] fin)(r:bn (cK L lt ts ck cn Z) ts rows)(tl:ts.length<=1000)(h:Z[j]? =some (.lst [])):k5 bV ci (wk ci 28).1 (wk ci 28).2 (cg bV ci 8) (lw 14) (kK j) (cK L lt ts ck cn Z) (kg (VH L rows fin)):=by
 refine kc (nh W9 (by kernel_rfl) LY (qw (aQ (by decide) (bX (pM (its:=[]) λo=>?_))))) LZ;have ei:vX 0 0 (16 - 0:Int).toNat=OA.map λn=>IT.val (.int n):=by kernel_rfl
 rw[ei,f4,H4];have pk:∀{H:Hp}{l:List IT}{m:Nm}{P:Prop},ð L rows fin o j Z.length l m H->P->iI (some (Z.length+68,o)) H P:=λJ p=>by
  obtain⟨ns,wr,lt,ts,ck,cn,Z',ws,el,em,rfl,r,tl,h,hr,q,c,hw⟩:=J;exact n5 (x:=.rng 0 16) hr p
 refine iL (ð L rows fin o j Z.length) (λm H J=>pk J ?_) (λit its m H go hgo J=>pk J ?_) _ _ _ ⟨OA,[],lt,ts,ck,cn,_,[],rfl,by kernel_rfl,rfl,bn.tups (jX (fQ.app _)) r,tl,ba h,bA,.nil,c,by decide⟩
 ·obtain⟨ns,wr,lt,ts,ck,cn,Z',ws,el,em,rfl,r,tl,h,hr,q,c,hw⟩:=J
  cases ns with
  |cons=>exact(bf _ _ el.symm).elim
  |nil=>
   refine c.hd λe=>?_
   subst e;have ne:j≠Z.length:=λi=>aJ ((congrArg (·.bind V5) (h.symm.trans ((congrArg (Z'[·]?) i).trans hr)):some "list"=none).symm)
   have tz:fQ Z' (Z'.set Z.length (.rng 0 16)):=fQ.set hr rfl;have es:(cK L lt ts ck cn Z').set (Z.length+68) (.rng 0 16)=cK L lt ts ck cn (Z'.set Z.length (.rng 0 16)):=by kernel_rfl
   refine uT em (lV (x:=.rng 0 16) (H:=cK L lt ts ck cn Z') hr ?_);rw[es];show VH L rows wr (kK j) (cK L lt ts ck cn (Z'.set Z.length (.rng 0 16)));exact⟨lt,ts,ck,cn,Z'.set Z.length (.rng 0 16),j,ws,rfl,rfl,bn.tups (jX tz) r,tl,(eS ne).trans h,bn.tups (jX tz) q,hw⟩
 ·obtain⟨ns,wr,lt,ts,ck,cn,Z',ws,el,em,rfl,r,tl,h,hr,q,c,hw⟩:=J
  cases ns with
  |nil=>exact(bf _ _ el).elim
  |cons n ns=>
   obtain⟨rfl,rfl⟩:=ca el;exact uT em (P6 (KK:=λf m H=>fX (some (Z.length+68,o)) H λH=>kg (VH L rows fin) f m H) b r h hr q c tl hw hgo)
end
variable{l5:Lt}
section
variable{L:LB}{ck cn ck' cn':Option AV}{Z':Hp}{T:f6}{n:Int}{kp:ax}{fin:Rw}
noncomputable def lj:f6:=oa [(.ref 59,CW),(.type "str",CI)] [] λz=>none
noncomputable abbrev It:al:=UI (Mo (lw 15))
abbrev ķ(X:Nm->Hp->Prop)(m:Nm)(ys:List AV)(h:Hp):Prop:=1<=aF∧vB .Mult (.ref (h++[AO.lst ys]).length) (.int 2) (h++[AO.lst ys]++[.lst [.str (sS "False")]]) λb h2=>mU .NotEq (.ref h.length) b h2 λc=>Br c False (X m h2)
theorem Lv:k5 bV lj (wk lj 28).1 (wk lj 28).2 (cg bV lj 8) (lw 15) m H (kg X)=fP lj 26 It bV m H (ķ X m):=by kernel_rfl
theorem Lu(K:List AV->Hp->Prop):fP lj 26 It bV m H K=lz lj 26 It bV (eK It) m H K:=by kernel_rfl
noncomputable abbrev t1(x:ax):ax:=dk x (some 1) none++sS "("
noncomputable abbrev t2(x:ax):ax:=dk x none (some (-1))
theorem Ls(F:List IT->Option Nat->Hp->Prop):nO lj 26 It bV m (cK L lt ts ck cn Z) F=cut L.x ((dk L.x (some 1) none).length+1<=aF∧bq=bq∧cut L.x (2<=aF∧DZ (cK L lt ts ck cn Z) (.tup [.str (t1 L.x),.str (t2 L.x)]) F)):=by kernel_rfl
theorem Lr{y:ax}{N:Hp->Prop}:iv (wk lj 26).2 (u0 lj 26 It) ⟨eU (nj It) bV.nk,eK It,none⟩ (g0 It).target (g0 It).ifs (.val (.str y)) m H Y N=(y.length<=200∧Gk (.bool (jF y)) H λa h=>Y a h):=by kernel_rfl
theorem Hf{k:Nat}{K:KV}(h:cH fG H k=some xs)(hl:aN xs.length 128=true)(q:K (.ref H.length) (H++[.lst (xs++xs)])):vB .Mult (.ref k) (.int 2) H K:=aw h (aQ ⟨rfl,hl⟩ (bX (k:=λzs=>K (.ref H.length) (H++[.lst zs])) q))
theorem Xn(hx:L.x.length<=150)(h1:jF (t1 L.x)=false)(h2:jF (t2 L.x)=false)(q:∀V,X m (cK L lt ts ck cn (Z++V))):k5 bV lj (wk lj 28).1 (wk lj 28).2 (cg bV lj 8) (lw 15) m (cK L lt ts ck cn Z) (kg X):=by
 have lx:∀a b,(dk L.x a b).length<=150:=λa b=>aq (PyProof.Txt.length_slice_le L.x a b) hx
 have l1:(t1 L.x).length<=200:=aq (xJ (lx _ _) (ae (by kernel_rfl):(sS "(").length<=1)) (by decide);refine kc (ga (H:=cK L lt ts ck cn Z) (eK It) Lu Ls ⟨rfl,uf (aq hx (by decide)),uf (aq (fC (lx _ _) 1) (by decide)),rfl,rfl,uf (aq hx (by decide)),ae rfl,qw (bX ⟨ae rfl,pM (its:=[]) λo=>?_⟩)⟩) Lv;refine ff (λy=>IT.val (.str y)) (λz=>some (AV.str (sS "False"))) (λy=>y.length<=200∧jF y=false) (λP p=>u6 p) (λy ok Y N yy z=>kc (aQ ok.1 (ok.2.symm▸yy _ rfl)) Lr) [t1 L.x,t2 L.x] _ (Mine.a1 ⟨l1,h1⟩ (Mine.a1 ⟨aq (lx _ _) (by decide),h2⟩ Mine.a0)) (uH ⟨ae rfl,Hf (iR (f:=fG) rfl) rfl (u3 (gz _ (ba (ba bA))) (gz _ bA) (ae rfl) (ae rfl) (.cons (.sc (.str _)) (.cons (.sc (.str _)) .nil)) (Br.f ?_))⟩);rw[f4,f4,f4,f4,aA,aA,aA];exact q _
theorem Ŧ{j:Nat}{K:KV}(h1:cH fG H i=some xs)(h2:cH fG H j=some ys)(hl:xs.length+ys.length<=aF)(q:K (.ref H.length) (H++[.lst (xs++ys)])):vB .Add (.ref i) (.ref j) H K:=aw h1 (aw h2 (aQ hl (bX (k:=λzs=>K (.ref H.length) (H++[.lst zs])) q)))
noncomputable def qJ:f6:=oa [(.ref 310,Wr)] [] λz=>none
noncomputable abbrev W':ax:=sS "Control characters not allowed in headers"
noncomputable abbrev Q_:ax:=sS "lo must be non-negative"
theorem Lq:k5 bV qJ (wk qJ 28).1 (wk qJ 28).2 (cg bV qJ 8) (lw 16) m (cK L lt ts ck cn Z) (kg X)=Vg [.ref 34] (cK L lt ts ck cn Z) λa h=>1<=aF∧vB .Mult (.ref h.length) (.int 2) (h++[.lst [.str W']]) λb h2=>1<=aF∧vB .Mult (.ref h2.length) (.int 2) (h2++[.lst [.str Q_]]) λc h3=>vB .Add b c h3 λd h4=>mU .NotEq a d h4 λe=>Br e False (X m h4):=by kernel_rfl
noncomputable def gT(L:LB)(lt l5:Lt)(ts:List Nat)(kc nc:Option AV)(Z:Hp):Hp:=.lst L.sc:: .tab 300 lt:: .tab 305 l5::(cK L lt ts kc nc Z).drop 3
theorem OL:(cK L lt ts ck cn Z).set 2 (.tab 305 l5)=gT L lt l5 ts ck cn Z:=by kernel_rfl
theorem jf{X:Hp}:gT L lt l5 ts ck cn Z++X=gT L lt l5 ts ck cn (Z++X):=by kernel_rfl
theorem Xm(r:bn (cK L lt ts ck cn Z) ts rows)(tl:ts.length<=1000)(hy:gZ rows (aX (aa "y"))= .none)(q:∀l5 V,X m (gT L lt l5 ts ck cn (Z++V))):k5 bV qJ (wk qJ 28).1 (wk qJ 28).2 (cg bV qJ 8) (lw 16) m (cK L lt ts ck cn Z) (kg X):=by
 refine kc (.mk 34 33 35 2 ts rows rfl rfl ⟨rfl,rfl,rfl,r⟩ tl hy λJ=>?_) Lq;have e1:(qe (cK L lt ts ck cn Z) 2 34 (GM 4) J)[(cK L lt ts ck cn Z).length+1]? =some (.lst (GM 4)):=jQ 1;unfold qe at e1 ⊢;rw[OL,jf]at e1 ⊢;generalize Ú (cK L lt ts ck cn Z).length 34 (GM 4)++J=V at e1 ⊢;refine⟨ae rfl,Hf (iR (f:=fG) rfl) rfl ⟨ae rfl,Hf (iR (f:=fG) rfl) rfl (Ŧ (gz _ (ba (ba bA))) (gz _ bA) (ae rfl) (u3 (gz _ (ba (ba (ba (ba (ba e1)))))) (gz _ bA) (ae rfl) (ae rfl) (.cons (.sc (.str _)) (.cons (.sc (.str _)) (.cons (.sc (.str _)) (.cons (.sc (.str _)) .nil)))) (Br.f ?_)))⟩⟩;rw[jf,jf,jf,jf,jf,aA,aA,aA,aA,aA];exact q _ _
end
variable{v:ax}
section
variable{L:LB}{ws:List Nat}{ck cn ck' cn':Option AV}{Z':Hp}{T:f6}{n:Int}{kp:ax}{fin:Rw}
noncomputable def iY:f6:=oa [(.ref 210,Mv),(.ref 253,Kt),(.builtin "str.upper",IH cX)] [mM "str" "upper",mH "get" 210,mH "setdefault" 253] λz=>none
noncomputable abbrev Ir:al:=UI (eA (VE (Mo (lw 17))) 0)
noncomputable abbrev Ÿ:al:=UI (eA (VE (Mo (lw 17))) 1)
noncomputable abbrev Ź:al:=eA (ì (eA (VE (Mo (lw 17))) 1)) 0
abbrev Ķ(X:Nm->Hp->Prop)(m:Nm)(hh:Hp):Prop:=(wk iY 25).1 bV Ÿ m hh λa h=>(wk iY 25).1 bV Ź m h λb h=>mU .NotEq a b h λc=>Br c (Br true False (X m h)) (Br false False (X m h))
theorem Lp:k5 bV iY (wk iY 28).1 (wk iY 28).2 (cg bV iY 8) (lw 17) m H (kg X)=fP iY 25 Ir bV m H λys h=>0<=aF∧mU .NotEq (.ref h.length) (.ref (h++[AO.lst ys]).length) (h++[AO.lst ys]++[.lst []]) λc=>Br c (Br true False (X m (h++[AO.lst ys]++[.lst []]))) (Ķ X m (h++[AO.lst ys]++[.lst []])):=by kernel_rfl
theorem Lo(K:List AV->Hp->Prop):fP iY 25 Ir bV m H K=lz iY 25 Ir bV (eK Ir) m H K:=by kernel_rfl
theorem Ln(F:List IT->Option Nat->Hp->Prop):nO iY 25 Ir bV (kK j) H F=uz (.ref (j+68)) H λl n=>F l n H:=by kernel_rfl
def V2(a:AV)(h:Hp)(K:KV):Prop:=aG (qr a h) λty=>aG (iJ iY.meths ty (sS "upper")) λg=>iY.call (.val g) [a] h K
theorem Lm{t:Nat}{N:Hp->Prop}:iv (wk iY 25).2 (u0 iY 25 Ir) ⟨eU (nj Ir) bV.nk,eK Ir,none⟩ (g0 Ir).target (g0 Ir).ifs (.val (.ref t)) m (gT L lt l5 ts ck cn Z) Y N=Ey (.ref t) 0 (gT L lt l5 ts ck cn Z) λa h=>V2 a h λv h=>NE [.ref 34,v] h λr h=>Ey (.ref t) 1 h λb h=>mU .NotEq r b h λc=>Br c (Y (.ref t) h) (N h):=by kernel_rfl
theorem Ll{F:KV}:(wk iY 25).1 bV Ÿ (kK j) (gT L lt l5 ts ck cn Z) F=(bq=bq∧Ey (.ref (j+68)) (-1) (gT L lt l5 ts ck cn Z) λa h=>Ey a 0 h λb h=>V2 b h λv h=>Nu [.ref 34,v,.str (sS "")] h F):=by kernel_rfl
theorem Lk{F:KV}:(wk iY 25).1 bV Ź (kK j) H F=(bq=bq∧Ey (.ref (j+68)) (-1) H λa h=>Ey a 1 h F):=by kernel_rfl
theorem bn.all{ts:List Nat}(r:bn H ts rows):∀t∈ts,∃p∈rows,H[t]? =some (.tup [.str p.1,.str p.2]):=by
 induction r with
 |nil=>exact λt h=>eN h
 |cons h _ _ ih=>exact λt ht=>(aE.mp ht).elim (λe=>e▸⟨_,ah,h⟩) λht=>(ih t ht).imp λp q=>⟨af _ q.1,q.2⟩
structure Pf(rows:Rw)(p:ax×ax):Prop where
 c:fu (aX (cX p.1))
 l:(cX p.1).length<=1000
 t:gq (cX p.1).length=false
 g:gZ rows (aX (cX p.1))= .str p.2
theorem ID{K:Bool->Prop}(k:K false):mU .NotEq (.str v) (.str v) H K:=by
 have e:(v != v)=false:=bne_self_eq_false v;exact(aw (x:=v != v) rfl (e.symm▸k):aG (IE .NotEq v v) K)
theorem FX{x:ax}{K:KV}(ht:gq (cX x).length=false)(k:K (.str (cX x)) H):V2 (.str x) H K:=aw (x:="str") rfl (aw (x:=qa "str.upper") rfl (oP (sp:=IH cX) rfl (aQ ht k)))
theorem xN{t:Nat}{p:ax×ax}{K:KV}(h:H[t]? =some (.tup [.str p.1,.str p.2])):(K (.str p.1) H->Ey (.ref t) 0 H K)∧(K (.str p.2) H->Ey (.ref t) 1 H K):=
 ⟨λk=>xO (by decide) (ia (f:=Bk) h rfl) (j:=0) rfl (a:=.str p.1) rfl k,λk=>xO (by decide) (ia (f:=Bk) h rfl) (j:=1) rfl (a:=.str p.2) rfl k⟩
theorem lW(t:fQ Z Z'):fQ (gT L lt l5 ts ck cn Z) (gT L lt l5 ts ck cn Z'):=by
 have e1:∀Z,gT L lt l5 ts ck cn Z=gT L lt l5 ts ck cn []++Z:=λZ=>(jf (Z:=[]) (X:=Z)).symm
 rw[e1 Z,e1 Z'];exact t.pre
theorem zG{k:Nat}:(gT L lt l5 ts ck cn Z)[k+68]? =Z[k]? :=by kernel_rfl
theorem ox{α β:Type}:∀l:List α,l.filterMap (λz=>(none:Option β))=[]
 |[]=>rfl
 |_::l=>ox l
theorem Xl(r:bn (gT L lt l5 ts ck cn Z) ts rows)(tl:ts.length<=1000)(h:Z[j]? =some (.lst (ws.map .ref)))(q:bn (gT L lt l5 ts ck cn Z) ws fin)(hw:ws.length<=1000)(ok:∀p∈fin,Pf rows p)(ne:ws≠[])(qX:∀V,X (kK j) (gT L lt l5 ts ck cn (Z++V))):k5 bV iY (wk iY 28).1 (wk iY 28).2 (cg bV iY 8) (lw 17) (kK j) (gT L lt l5 ts ck cn Z) (kg X):=by
 have hj:(gT L lt l5 ts ck cn Z)[j+68]? =some (.lst (ws.map .ref)):=zG.trans h;refine kc (ga (H:=gT L lt l5 ts ck cn Z) (eK Ir) Lo Ln (aw hj (bX ⟨?_,rT hj λo=>?_⟩))) Lp
 ·rw[aD,aD];exact uf (aq hw (by decide))
 have es:(gT L lt l5 ts ck cn Z).set (j+68) (.pin (.lst (ws.map .ref)) o)=gT L lt l5 ts ck cn (Z.set j (.pin (.lst (ws.map .ref)) o)):=by kernel_rfl
 have hp:(Z.set j (.pin (.lst (ws.map .ref)) o))[j]? =some (.pin (.lst (ws.map .ref)) o):=bZ (aH.mp h).1;have tz:fQ Z (Z.set j (.pin (.lst (ws.map .ref)) o)):=fQ.set h rfl;rw[es,da];refine ff (pn:=some (j+68,o)) (λt=>IT.val (.ref t)) (λz:Nat=>none) (λt=>∃p∈fin,(gT L lt l5 ts ck cn Z)[t]? =some (.tup [.str p.1,.str p.2])) (λP p=>n5 (zG.trans hp) p) (λt ht Y N y nn=>?_) ws _ (bn.all q) (lV (zG.trans hp) ?_)
 ·obtain⟨p,hm,ht⟩:=ht
  have a:=ok p hm;have ht':=lW tz t _ ht;exact kc ((xN (K:=λa h=>V2 a h _) ht').1 (FX a.t (.mk 34 33 35 ts rows (cX p.1) rfl ⟨rfl,rfl,rfl,bn.tups (lW tz) r⟩ tl a.c a.l (a.g▸(xN (K:=λb h=>mU .NotEq _ b h _) ht').2 (ID (Br.f (nn rfl))))))) Lm
 ·have eb:(gT L lt l5 ts ck cn (Z.set j (.pin (.lst (ws.map .ref)) o))).set (j+68) (.lst (ws.map .ref))=gT L lt l5 ts ck cn ((Z.set j (.pin (.lst (ws.map .ref)) o)).set j (.lst (ws.map .ref))):=by kernel_rfl
  rw[eb,iU,show Z.set j (.lst (ws.map .ref))=Z from(aH.mp h).2▸gm _];obtain⟨w0,t,rfl⟩:∃w0 t,ws=w0++[t]:=(AW ws).elim (λe=>(ne e).elim) λh=>h.imp λz h=>h.imp λz h=>h.trans oA
  obtain⟨p,hm,ht⟩:=bn.all q t (au _ ah);have a:=ok p hm;refine⟨bC _,u3 (gz _ (ba bA)) (gz _ bA) (by rw[ox];exact bC _) (bC _) (by rw[ox];exact .nil) (Br.f ?_)⟩;rw[jf,jf];generalize eV:Z++[AO.lst (v9 (λz=>(none:Option AV)) (w0++[t]))]++[AO.lst []]=V;have tv:fQ Z V:=eV▸(fQ.app _).trans (fQ.app _);have hv:(gT L lt l5 ts ck cn V)[j+68]? =some (.lst ((w0++[t]).map .ref)):=zG.trans (eV▸ba (ba h));have ht':=lW (L:=L) (lt:=lt) (l5:=l5) (ts:=ts) (ck:=ck) (cn:=cn) tv t _ ht;have il:∀{K:KV},K (.ref t) (gT L lt l5 ts ck cn V)->Ey (.ref (j+68)) (-1) (gT L lt l5 ts ck cn V) K:=λk=>xO (by decide) (ia (f:=Bk) hv rfl) (j:=w0.length) (a:=.ref t) (by rw[b6];exact(aD (f:=AV.ref) (as:=w0))▸oq (a:=.ref t)) (by rw[b6,bp (by rw[aD];exact bF _),aD,fW];rfl) k
  have fin':X (kK j) (gT L lt l5 ts ck cn V):=by rw[<-eV,aA];exact qX _
  refine kc (aQ rfl (il ((xN (K:=λa h=>V2 a h _) ht').1 (FX a.t (.old 34 33 35 ts rows (cX p.1) (sS "") p.2 rfl ⟨rfl,rfl,rfl,bn.tups (lW tv) r⟩ tl a.c a.l a.g (kc (aQ rfl (il ((xN (K:=λb h=>mU .NotEq _ b h _) ht').2 (ID (Br.f (Br.f fin')))))) Lk)))))) Ll
end
end Mine.LW
namespace Mine
variable{i j n:Nat}
section
set_option backward.match.sparseCases true
open PySem.SeqAt
def V8(lt:Nat->Nat->Bool)(n:Nat){α:Type}:KasT α->(α->Prop)->Prop
 |.ret a,Q=>Q a
 |.ask i j k,Q=>i<n∧j<n∧V8 lt n (k (lt i j)) Q
theorem Gi{lt:Nat->Nat->Bool}{n:Nat}{α:Type}{Q Q':α->Prop}(hq:∀a,Q a->Q' a):∀(t:KasT α),V8 lt n t Q->V8 lt n t Q'
 |.ret a,h=>hq a h
 |.ask i j k,h=>⟨h.1,h.2.1,Gi hq (k (lt i j)) h.2.2⟩
theorem Gg{lt:Nat->Nat->Bool}{n:Nat}{α:Type}{cmp:Nat->Nat->(Bool->aC->Prop)->aC->Prop}{Q0:α->Prop}{Q:α->aC->Prop}{s:aC}
  (hc:∀i j C,i<n->j<n->C (lt i j) s->cmp i j C s)(hq:∀a,Q0 a->Q a s):∀(t:KasT α),V8 lt n t Q0->t.kasWp cmp Q s
 |.ret a,h=>hq a h
 |.ask i j k,h=>hc i j _ h.1 h.2.1 (Gg hc hq (k (lt i j)) h.2.2)
noncomputable def s5(lt:Nat->Nat->Bool)(n:Nat){α:Type}:KasT α->Option α
 |.ret a=>some a
 |.ask i j k=>bif bJ i n&&bJ j n then s5 lt n (k (lt i j))else none
theorem Gh{lt:Nat->Nat->Bool}{n:Nat}{α:Type}{a:α}:∀(t:KasT α),s5 lt n t=some a->V8 lt n t (·=a)
 |.ret b,h=>aj h
 |.ask i j k,h=>by
  conv at h=>lhs;whnf
  cases e:bJ i n&&bJ j n with
  |false=>rw[e]at h;exact aJ h
  |true=>
   rw[e]at h;have e:=(aM ..).mp e;exact⟨ae e.1,ae e.2,Gh _ h⟩
noncomputable def Jw(rows:List (ax×ax))(i j:Nat):Bool:=decide ((rows.getD i (aa "",aa "")).1.cps.toList<(rows.getD j (aa "",aa "")).1.cps.toList)
noncomputable def GZ(rows:List (ax×ax)):Option (List Nat):=match rows with
 |[]=>none
 |[_]=>some [0]
 |_=>(s5 (Jw rows) rows.length (vE rows.length)).map (·.toList)
structure eL(its:Array ar)(rows:List (ax×ax))(news:gO):Prop where
 len:its.size=rows.length
 row:∀(i:Nat)(v:ar),its[i]? =some v->∃T a ta b tb,v=fD T∧(T,iy [.str a ta,.str b tb])∈news∧rows[i]? =some (a,b)
theorem eL.mono{its:Array ar}{rows:List (ax×ax)}{news news':gO}(h:eL its rows news)(k:∀p∈news,p∈news'):eL its rows news':=
 ⟨h.len,λi v e=>by obtain⟨T,a,ta,b,tb,h1,h2,h3⟩:=h.row i v e;exact⟨T,a,ta,b,tb,h1,k _ h2,h3⟩⟩
theorem yR{h:fk}{h₀:fk}{L:aI}{news:gO}(N:dJ h₀ L h news):∀(vs:List ar)(rows:List (ax×ax)),vs.length=rows.length->(∀(i:Nat)(v:ar),vs[i]? =some v->∃T a ta b tb,v=fD T∧(T,iy [.str a ta,.str b tb])∈news∧rows[i]? =some (a,b))->
  ∃fs,KatTups h vs fs∧fs.length=rows.length∧∀v∈fs,∃a t,v=o5 a t
 |[],[],_,_=>⟨[],KatTups.nil,rfl,λz hv=>nomatch hv⟩
 |[],_::_,hl,_=>nomatch hl
 |_::_,[],hl,_=>nomatch hl
 |v::vs,r::rows,hl,hr=>by
  obtain⟨T,a,ta,b,tb,rfl,hm,_⟩:=hr 0 v rfl;obtain⟨fs,h1,h2,h3⟩:=yR N vs rows (by simpa using hl) λi v' hv=>by
   have:=hr (i+1) v' (by simpa using hv)
   simpa using this
  refine⟨.str a ta::fs,KatTups.cons (N _ hm).1 rfl rfl rfl h1,by simp [h2],λv' hv=>?_⟩;rcases aE.mp hv with rfl|hv
  ·exact⟨a,ta,rfl⟩
  ·exact h3 v' hv
section
variable{prog:eC}{w:gf}{A:dR}{E:ar->aC->Prop}{s:aC}{h₀:fk}{L a:aI}{m:ax->Option ar}{news:gO}{vs:List ar}{rows:List (ax×ax)}
theorem GF{C:Bool->aC->Prop}(N:dJ h₀ L s.heap news)(T:eL vs.toArray rows news)(nd:(rows.map (·.1)).Nodup)(hi:i<rows.length)(hj:j<rows.length)(h:C (Jw rows i j) s):
  kas_ask prog w A (tuples' (j5 "str" != j5 "tuple")) vs i j C s:=by
 have hlen:vs.length=rows.length:=by simpa using T.len
 have hvi:vs.toArray[i]? =some (vs[i]'(by omega)):=by simp [hlen,hi]
 have hvj:vs.toArray[j]? =some (vs[j]'(by omega)):=by simp [hlen,hj]
 obtain⟨X,xa,ta,xb,tb,ex,hX,ri⟩:=T.row i _ hvi;obtain⟨Y,ya,ua,yb,ub,ey,hY,rj⟩:=T.row j _ hvj;unfold kas_ask;rw[show vs.getD i eG= .ref X by simp [hlen,hi,ex],show vs.getD j eG= .ref Y by simp [hlen,hj,ey]];have e0:Jw rows i j=decide (xa.cps.toList<ya.cps.toList):=by
  unfold Jw;rw[bm,ri,bm,rj];rfl
 refine kat_lt (N _ hX).1 rfl (N _ hY).1 rfl ?_;show KatLex prog w A _ _ C [(.str xa ta,.str ya ua),(.str xb tb,.str yb ub)] 0 s;refine kat_cons (wpAny_eqBool_str ?_)
 by_cases hq:xa=ya
 ·have hij:i=j:=(mr (l:=rows.map (·.1)) ((aD _).symm▸hi) nd).mp (by rw[bv,bv,ri,rj];exact congrArg some hq)
  subst hij
  have:xb=yb:=by rw[ri]at rj;injection rj with e;injection e
  subst hq this;rw[decide_eq_true rfl];refine kat_yes (kat_cons (wpAny_eqBool_str ?_));rw[decide_eq_true rfl];refine kat_yes (kat_nil ?_);rw[e0,decide_eq_false (List.lt_irrefl _)]at h;exact h
 ·rw[decide_eq_false hq]
  refine kat_no ?_;rw[show((j5 "str" != j5 "tuple")&&0==0)=true by decide];refine oneLt_str ?_;rw[e0]at h;exact h
theorem Gq{P:PySem.Fin->aC->Prop}(F:Fr h₀ L s.heap m)(N:dJ h₀ L s.heap news)(ho:s.heap.get? a=some (iE "list" vs.toArray n))(haL:a≠L)(ha0:h₀.get? a=none)(hna:∀p∈news,p.1≠a)
  (T:eL vs.toArray rows news)(nd:(rows.map (·.1)).Nodup)(h64:rows.length<64){q:List Nat}(e:GZ rows=some q)
  (h:∀h' c,Fr h₀ L h' m->dJ h₀ L h' ((a,jZ (iT (q.map λi=>vs.getD i eG)) c)::news)->P (.done (.ret .none)) {s with heap:=h'}):
  aL (dc prog w) A (b8.«list.sort» ⟨[.ref a],[]⟩) P E s:=by
 have hlen:vs.length=rows.length:=by simpa using T.len
 by_cases h2:2<=vs.length
 ·refine kat_list_sort F N ho haL ha0 hna h2 (by omega) λe1 h' F' N'=>?_
  have N1:dJ h₀ L h' news:=λp hp=>N' p (af _ hp)
  obtain⟨fs,t1,t2,t3⟩:=yR N1 vs rows hlen (λi v hv=>T.row i v (by simpa using hv));refine kat_kind (T:=.type "str") (s:={s with heap:=h'}) t1 (by omega) (λv hv=>?_) (by decide) ?_
  ·obtain⟨b,t,rfl⟩:=t3 v hv
   exact Looks.of_pure rfl
  rw[hlen];obtain⟨p,e1,e2⟩:∃p,s5 (Jw rows) rows.length (vE rows.length)=some p∧p.toList=q:=by
   match rows,e,hlen with
   |[],e,_=>exact aJ e
   |[_],_,hlen=>exact absurd h2 (by rw[hlen];exact Nat.not_succ_le_self 1)
   |_::_::_,e,_=>exact jC.mp e
  refine Gg (lt:=Jw rows) (n:=rows.length) (λi j C hi hj hC=>GF (s:={s with heap:=h'}) N1 T nd hi hj hC) (λp' hp=>?_) _ (Gh _ e1);subst hp e2;exact KasFin.intro F' N' (UpdF.head hna) λh'' c F'' N''=>h h'' c F'' N''
 ·obtain⟨v,rfl⟩:∃v,vs=[v]:=by
   match rows,e,vs,hlen,h2 with
   |[],e,_,_,_=>exact aJ e
   |_::_,_,[v],_,_=>exact⟨v,rfl⟩
   |_::_,_,_::_::_,_,h2=>exact absurd (eD (eD (bC _))) h2
  obtain rfl:[0]=q:=by
   match rows,e,hlen with
   |[_],e,_=>exact aj e
  have ha:a<s.heap.objs.size:=bw ho;rw[list_sort_plain];have s1:=jP s.heap a (gP λy=>(#[]:Array ar));refine az (listItems_at ho rfl ?_);refine az (listUpdate_at ho rfl ?_ (by rw[b9,nH];omega) (bC _));obtain⟨e1,ho1⟩:∃e1,(s.heap.update a (gP λy=>(#[]:Array ar))).get? a=some (iE "list" #[] e1):=⟨_,get?_update_seq ho λy=>#[]⟩;refine az (seqEpoch_at ho1 rfl ?_);refine az (AF ?_ (by show[v].length<=_;rw[nH];omega));refine az (wpAny_newList ?_ (bC _));refine cE ?_;have F3:Fr h₀ L (((s.heap.update a (gP λy=>(#[]:Array ar))).push (iE "tuple" ([v]:List ar).toArray 0)).push (iE "list" #[] 0)) m:=((kas_fr F s1 haL ha0).push _).push _;have N2:dJ h₀ L (((s.heap.update a (gP λy=>(#[]:Array ar))).push (iE "tuple" ([v]:List ar).toArray 0)).push (iE "list" #[] 0)) news:=
   (kas_news N s1 hna).grown λb x e=>aR _ (aR _ e)
  have ho6:(((s.heap.update a (gP λy=>(#[]:Array ar))).push (iE "tuple" ([v]:List ar).toArray 0)).push (iE "list" #[] 0)).get? a=some (iE "list" #[] e1):=aR _ (aR _ ho1);show aL (dc prog w) A _ P E {s with heap:=((s.heap.update a (gP λy=>(#[]:Array ar))).push (iE "tuple" ([v]:List ar).toArray 0)).push (iE "list" #[] 0)};generalize (((s.heap.update a (gP λy=>(#[]:Array ar))).push (iE "tuple" ([v]:List ar).toArray 0)).push (iE "list" #[] 0))=hp at F3 N2 ho6 ⊢;dsimp only;have hsz:([v]:List ar).toArray.size<2:=by rw[b9];omega
  rw[if_pos hsz,if_pos hsz];refine az (aV ?_);rw[StateT.run_pure];refine az (aV ?_);dsimp only;have hout:(arrOf (SortSt.mk' general' (([v]:List ar).toArray.zip ([v]:List ar).toArray) #[] 7 none)).map (·.2)=([v]:List ar).toArray:=by simp [arrOf]
  rw[hout];have s2:=jP hp a (gP λy=>([v]:List ar).toArray);obtain⟨c2,hc2⟩:∃c2,(hp.update a (gP λy=>([v]:List ar).toArray)).get? a=some (iE "list" ([v]:List ar).toArray c2):=⟨_,get?_update_seq ho6 λy=>([v]:List ar).toArray⟩;refine az (seqEpoch_at ho6 rfl ?_);refine az (listUpdate_at ho6 rfl ?_ (bC _) (by rw[b9,nH];omega));simp only [bne_self_eq_false,eB,if_false];refine aV (h _ c2 (kas_fr F3 s2 haL ha0) (λz hz=>?_));rcases aE.mp hz with rfl|hz
  ·exact⟨hc2,haL,ha0⟩
  ·exact kas_news N2 s2 hna z hz
end
end
variable{TI TO T i1 i2:aI}{f1 y v:ar}{oT:dU}{k1 a b c:Nat}{h:fk}
section
set_option backward.match.sparseCases true
open PySem.SeqAt
section
variable{prog:eC}{w:gf}{A:dR}{E:ar->aC->Prop}{s:aC}
noncomputable abbrev m8(TI TO:aI)(f0 f1:ar):dU:={cls:=.type "zip",dict:=none,data:=.fields #[f0,f1,.bool false,.ref TI,.ref TO],slots:=#[]}
theorem wy{z:aI}{Q:Bool->aC->Prop}(hz:s.heap.get? z=some (m8 TI TO (fy T) f1))(hT:s.heap.get? T=some oT)
  (hQ:∀h' f1',h'.get? z=some (m8 TI TO (fy T) f1')->h'.objs.size=s.heap.objs.size->(∀c o,c≠z->s.heap.get? c=some o->h'.get? c=some o)->Q false {s with heap:=h'}):
  aL (dc prog w) A (e7 (.ref z)) Q E s:=by
 unfold e7;refine az (gU hz rfl (x:=fy T) rfl ?_);dsimp only [fy];refine az (kdx_alive (a:=T) (show s.heap.get? (Int.toNat (T:Int))=_ from hT) ?_);simp only [Option.isNone_some,eB,if_false];refine az (gU hz rfl (x:=f1) rfl ?_)
 by_cases hf:(f1 != Value.bool true)=true
 ·rw[if_pos hf]
  refine az (wpAny_setField_rec hz (by simp) λh' hz' hs'=>aV (hQ h' _ hz' hs'.1 λc o c1 e=>hs'.extBut _ _ c1 e))
 ·rw[if_neg hf]
  exact az (aV (aV (hQ s.heap f1 hz rfl λc o y e=>e)))
theorem Eo{z l1 l2:aI}{k2:Nat}{xs ys:Array ar}{x:ar}{Q:ar->aC->Prop}(D:AN z TI TO i1 i2 l1 l2)
  (hz:s.heap.get? z=some (m8 TI TO (fy T) f1))(hT:s.heap.get? T=some oT)(hTI:m4 s.heap TI (.ref i1) (.ref i2))
  (h1:s.heap.IsListIter i1 l1 k1)(h2:s.heap.IsListIter i2 l2 k2)(hl1:s.heap.IsList l1 xs)(hl2:s.heap.IsList l2 ys)(hx:xs[k1]? =some x)(hy:ys[k2]? =some y)
  (hQ:∀h' f1',h'.get? z=some (m8 TI TO (fy T) f1')->h'.IsListIter i1 l1 (k1+1)->h'.IsListIter i2 l2 (k2+1)->m4 h' s.heap.objs.size x y->h'.objs.size=s.heap.objs.size+1->
   (∀c o,c≠z->c≠i1->c≠i2->s.heap.get? c=some o->h'.get? c=some o)->Q (.ref s.heap.objs.size) {s with heap:=h'}):
  aL (dc prog w) A (b8.«zip.__next__» ⟨[.ref z],[]⟩) (λfin s'=>∃v,fin= .done (.ret v)∧Q v s') E s:=by
 show aL _ _ (yx (.ref z) 2>>=_) _ _ _;refine az (gU hz rfl (x:=.bool false) rfl ?_);show aL _ _ (yx (.ref z) 3>>=_) _ _ _;refine az (gU hz rfl (x:=.ref TI) rfl ?_);refine az (AE hTI rfl ?_);show aL _ _ (e7 (.ref z)>>=_) _ _ _;refine az (wy hz hT λh₁ f1' hz₁ hs₁ hk₁=>?_);simp only [eB,if_false,E8,vm,NP];refine az (az (az (cE ?_)));show aL _ _ (cV (.ref i1)>>=_) _ _ _;refine az (Fx (h1.at λo e=>hk₁ _ o D.i1z e) (hl1.at λo e=>hk₁ _ o D.l1z e) hx λh₂ h1₂ hs₂=>aV ?_);refine aV ?_;refine az (az (cE ?_));show aL _ _ (cV (.ref i2)>>=_) _ _ _;refine az (Fx ((h2.at λo e=>hk₁ _ o D.i2z e).extBut hs₂.extBut D.i12.symm) ((hl2.at λo e=>hk₁ _ o D.l2z e).extBut hs₂.extBut D.l2i1) hy λh₃ h2₃ hs₃=>aV ?_);refine aV (aV ?_);refine az (AF ?_ (by show 2<=aF;rw[nH];omega));have hsz:h₃.objs.size=s.heap.objs.size:=by rw[hs₃.1,hs₂.1,hs₁]
 have hz₃:=hs₃.extBut _ _ D.i2z.symm (hs₂.extBut _ _ D.i1z.symm hz₁);refine aV ⟨_,rfl,?_⟩;show Q (.ref h₃.objs.size) {s with heap:=h₃.push _};have hp:m4 (h₃.push {cls:=.type "tuple",data:=.seq #[x,y]}) h₃.objs.size x y:=bE _ rfl;rw[hsz]at hp ⊢;refine hQ _ f1' (aR _ hz₃) ?_ ?_ hp (by rw[fq,hsz]) λc o c1 c2 c3 e=>aR _ (hs₃.extBut _ _ c3 (hs₂.extBut _ _ c2 (hk₁ _ _ c1 e)))
 ·exact(h1₂.extBut hs₃.extBut D.i12).at λo e=>aR _ e
 ·exact h2₃.at λo e=>aR _ e
theorem Hz{z l1 l2:aI}{xs:Array ar}{Q:PySem.Fin->aC->Prop}(hh:A.handled=none)(D:AN z TI TO i1 i2 l1 l2)
  (hz:s.heap.get? z=some (m8 TI TO (fy T) f1))(hT:s.heap.get? T=some oT)(hTI:m4 s.heap TI (.ref i1) (.ref i2))
  (h1:s.heap.IsListIter i1 l1 k1)(hl1:s.heap.IsList l1 xs)(hend:xs[k1]? =none)
  (hE:∀h' e,(∀c o,c≠z->c≠i1->s.heap.get? c=some o->h'.get? c=some o)->(∃o,h'.get? e=some o∧o.cls= .type "StopIteration")->E (.ref e) {s with heap:=h'}):
  aL (dc prog w) A (b8.«zip.__next__» ⟨[.ref z],[]⟩) Q E s:=by
 show aL _ _ (yx (.ref z) 2>>=_) _ _ _;refine az (gU hz rfl (x:=.bool false) rfl ?_);show aL _ _ (yx (.ref z) 3>>=_) _ _ _;refine az (gU hz rfl (x:=.ref TI) rfl ?_);refine az (AE hTI rfl ?_);show aL _ _ (e7 (.ref z)>>=_) _ _ _;refine az (wy hz hT λh₁ f1' hz₁ hs₁ hk₁=>?_);simp only [eB,if_false,E8,vm,NP];refine az (az (az (cE ?_)));show aL _ _ (cV (.ref i1)>>=_) _ _ _;exact az (wpAny_nextOf_list_end hh (h1.at λo e=>hk₁ _ o D.i1z e) (hl1.at λo e=>hk₁ _ o D.l1z e) hend λh₂ e hs₂ he=>hE h₂ e (λc o c1 c2 x=>hs₂ _ _ c2 (hk₁ _ _ c1 x)) he)
theorem zt{z l1 l2:aI}{k2:Nat}{xs ys:Array ar}{x:ar}{Q:Option ar->aC->Prop}(D:AN z TI TO i1 i2 l1 l2)
  (hz:s.heap.get? z=some (m8 TI TO (fy T) f1))(hT:s.heap.get? T=some oT)(hTI:m4 s.heap TI (.ref i1) (.ref i2))
  (h1:s.heap.IsListIter i1 l1 k1)(h2:s.heap.IsListIter i2 l2 k2)(hl1:s.heap.IsList l1 xs)(hl2:s.heap.IsList l2 ys)(hx:xs[k1]? =some x)(hy:ys[k2]? =some y)
  (hQ:∀h' f1',h'.get? z=some (m8 TI TO (fy T) f1')->h'.IsListIter i1 l1 (k1+1)->h'.IsListIter i2 l2 (k2+1)->m4 h' s.heap.objs.size x y->h'.objs.size=s.heap.objs.size+1->
   (∀c o,c≠z->c≠i1->c≠i2->s.heap.get? c=some o->h'.get? c=some o)->Q (some (.ref s.heap.objs.size)) {s with heap:=h'}):
  aL (dc prog w) A (i9 (.ref z)) Q E s:=by
 have hZ:s.TypeIs (.ref z) "zip":=⟨_,hz,rfl⟩;unfold i9;exact az (tw (fV (name:=aa "__next__") hZ o8
  (fw o8 hZ Px
   (Eo D hz hT hTI h1 h2 hl1 hl2 hx hy λh' f' a1 a2 a3 a4 a5 a6=>aV (hQ h' f' a1 a2 a3 a4 a5 a6)) (NV _))))
theorem BJ{z l1 l2:aI}{xs:Array ar}{Q:Option ar->aC->Prop}(hh:A.handled=none)(D:AN z TI TO i1 i2 l1 l2)
  (hz:s.heap.get? z=some (m8 TI TO (fy T) f1))(hT:s.heap.get? T=some oT)(hTI:m4 s.heap TI (.ref i1) (.ref i2))
  (h1:s.heap.IsListIter i1 l1 k1)(hl1:s.heap.IsList l1 xs)(hend:xs[k1]? =none)
  (hQ:∀h',(∀c o,c≠z->c≠i1->s.heap.get? c=some o->h'.get? c=some o)->Q none {s with heap:=h'}):
  aL (dc prog w) A (i9 (.ref z)) Q E s:=by
 have hZ:s.TypeIs (.ref z) "zip":=⟨_,hz,rfl⟩;unfold i9;refine az (tw (fV (name:=aa "__next__") hZ o8
  (fw o8 hZ Px (Hz hh D hz hT hTI h1 hl1 hend λh' e hk he=>?_) (NV _))))
 obtain⟨o,ho,hc⟩:=he;refine az (wT (T:="StopIteration") (b:=true) ⟨o,ho,hc⟩ AK ?_);exact aV (hQ _ hk)
end
theorem A8:AG (.type "zip") "__len__"=pure none:=by rw[iO,fh];kernel_rfl
theorem yL:AG (.type "zip") "__length_hint__"=pure none:=by rw[iO,fh];kernel_rfl
set_option tactic.hygienic true in
theorem eL.snoc{acc:Array ar}{r:List (ax×ax)}{own:gO}{a b:ax}{ta tb:lP}(h:eL acc r own):
  eL (acc.push (.ref T)) (r++[(a,b)]) ((T,iy [.str a ta,.str b tb])::own):=by
 refine⟨by simp [h.len],λi v hv=>?_⟩;rw[Cr]at hv
 split at hv
 ·rename_i e
  obtain rfl:=aj hv;exact⟨T,a,ta,b,tb,rfl,.head _,by rw[e,h.len];simp⟩
 ·obtain⟨X,x1,t1,y1,u1,e1,e2,e3⟩:=h.row i v hv
  have:i<r.length:=(aH.mp e3).1;exact⟨X,x1,t1,y1,u1,e1,.tail _ e2,by rw[d7 this];exact e3⟩
theorem nL{B k:Nat}(h:c<B):c≠B+k:=bc (bx h (a9 B k))
theorem nK{B:Nat}(h:aW i j=false):B+i≠B+j:=λe=>Nat.ne_of_beq_eq_false h (qg e)
theorem nG{p B k:Nat}(h:B+6<=p)(q:k<6):p≠B+k:=cu (bx (g8 q B) h)
theorem nS(h:a=b+1):b<=a:=h▸gH b
structure pB(hb h:fk)(B l1 l2 k:Nat)(own:gO):Prop where
 keep:∀c o,c<B->hb.get? c=some o->h.get? c=some o
 size:B+6<=h.objs.size
 TI:m4 h (B+2) (.ref B) (.ref (B+1))
 i1:h.IsListIter B l1 k
 i2:h.IsListIter (B+1) l2 k
 z:(k=0∧IsZip h (B+4) (B+2) (B+3) .none∧m4 h (B+3) .none .none)∨∃T f1 oT,h.get? (B+4)=some (m8 (B+2) (B+3) (fy (T:Nat)) f1)∧h.get? T=some oT∧B+6<=T
 own:∀p∈own,h.get? p.1=some p.2∧@JS Nat _ (B+6) p.1
theorem pB.other{hb h':fk}{B l1 l2 k:Nat}{own:gO}(Z:pB hb h B l1 l2 k own)(hs:h.objs.size<=h'.objs.size)(hk:∀c o,c≠B+5->h.get? c=some o->h'.get? c=some o):pB hb h' B l1 l2 k own where
 keep:=λc o hc e=>hk c o (nA (nL hc)) (Z.keep c o hc e)
 size:=aq Z.size hs
 TI:=hk _ _ (nA (nK rfl)) Z.TI
 i1:=Z.i1.at λo e=>hk _ o (nA (nK (i:=0) rfl)) e
 i2:=Z.i2.at λo e=>hk _ o (nA (nK rfl)) e
 z:=Z.z.imp (λ⟨a,b,c⟩=>⟨a,hk _ _ (nA (nK rfl)) b,hk _ _ (nA (nK rfl)) c⟩) λ⟨T,f1,oT,a,b,c⟩=>⟨T,f1,oT,hk _ _ (nA (nK rfl)) a,hk _ _ (nA (nG c (by decide))) b,c⟩
 own:=λp hp=>⟨hk _ _ (nA (nG (Z.own p hp).2 (by decide))) (Z.own p hp).1,(Z.own p hp).2⟩
theorem yN{B l1 l2:Nat}(h1:l1<B)(h2:l2<B):AN (B+4) (B+2) (B+3) B (B+1) l1 l2:=by
 constructor<;>(refine nA ?_;first|exact nL h1|exact nL h2|exact nK rfl|exact nK (j:=0) rfl|exact nK (i:=0) rfl|exact bc h1|exact bc h2)
section
variable{prog:eC}{w:gf}{A:dR}{E:ar->aC->Prop}{s:aC}{hb:fk}{B l1 l2 k:Nat}{own:gO}{xs ys:Array ar}
theorem pB.item{x:ar}{Q:Option ar->aC->Prop}(Z:pB hb s.heap B l1 l2 k own)(b1:l1<B)(b2:l2<B)(hl1:hb.IsList l1 xs)(hl2:hb.IsList l2 ys)(hx:xs[k]? =some x)(hy:ys[k]? =some y)
  (hQ:∀h' T,pB hb h' B l1 l2 (k+1) ((T,iy [x,y])::own)->s.heap.objs.size<=h'.objs.size->(∀o,s.heap.get? (B+5)=some o->h'.get? (B+5)=some o)->Q (some (.ref T)) {s with heap:=h'}):
  aL (dc prog w) A (i9 (.ref (B+4))) Q E s:=by
 have D:=yN b1 b2;have e1:s.heap.IsList l1 xs:=hl1.at λo e=>Z.keep _ o b1 e
 have e2:s.heap.IsList l2 ys:=hl2.at λo e=>Z.keep _ o b2 e
 have hsz:=Z.size;rcases Z.z with ⟨_,hz,hTO⟩|⟨T,f1,oT,hz,hT,hTB⟩
 ·refine wpAny_pyNext_zip_item D hz Z.TI hTO Z.i1 Z.i2 e1 e2 hx hy λh' a1 a2 a3 a4 a5 a6 hk=>hQ h' _ ⟨λc o hc e=>hk c o (nA (nL hc)) (nA (nL hc)) (nA (bc hc)) (nA (nL hc)) (Z.keep c o hc e),aq hsz (nS a6),hk _ _ (nA (nK rfl)) (nA (nK rfl)) (nA (nK (j:=0) rfl)) (nA (nK rfl)) Z.TI,a3,a4,.inr ⟨_,_,_,a1,a5,hsz⟩,λp hp=>?_⟩ (nS a6) λo e=>hk _ o (nA (nK rfl)) (nA (nK rfl)) (nA (nK (j:=0) rfl)) (nA (nK rfl)) e
  rcases aE.mp hp with rfl|hp
  ·exact⟨a5,hsz⟩
  ·have:=Z.own p hp
   exact⟨hk _ _ (nA (nG this.2 (by decide))) (nA (nG this.2 (by decide))) (nA (nG (k:=0) this.2 (by decide))) (nA (nG this.2 (by decide))) this.1,this.2⟩
 ·refine zt D hz hT Z.TI Z.i1 Z.i2 e1 e2 hx hy λh' f' a1 a3 a4 a5 a6 hk=>hQ h' _ ⟨λc o hc e=>hk c o (nA (nL hc)) (nA (bc hc)) (nA (nL hc)) (Z.keep c o hc e),aq hsz (nS a6),hk _ _ (nA (nK rfl)) (nA (nK (j:=0) rfl)) (nA (nK rfl)) Z.TI,a3,a4,.inr ⟨T,f',oT,a1,hk _ _ (nA (nG hTB (by decide))) (nA (nG (k:=0) hTB (by decide))) (nA (nG hTB (by decide))) hT,hTB⟩,λp hp=>?_⟩ (nS a6) λo e=>hk _ o (nA (nK rfl)) (nA (nK (j:=0) rfl)) (nA (nK rfl)) e
  rcases aE.mp hp with rfl|hp
  ·exact⟨a5,hsz⟩
  ·have:=Z.own p hp
   exact⟨hk _ _ (nA (nG this.2 (by decide))) (nA (nG (k:=0) this.2 (by decide))) (nA (nG this.2 (by decide))) this.1,this.2⟩
theorem pB.done{Q:Option ar->aC->Prop}(hh:A.handled=none)(Z:pB hb s.heap B l1 l2 k own)(b1:l1<B)(b2:l2<B)(hk:k≠0)(hl1:hb.IsList l1 xs)(hx:xs[k]? =none)
  (hQ:∀h',(∀c o,c<B->hb.get? c=some o->h'.get? c=some o)->(∀p∈own,h'.get? p.1=some p.2∧@JS Nat _ (B+6) p.1)->(∀o,s.heap.get? (B+5)=some o->h'.get? (B+5)=some o)->Q none {s with heap:=h'}):
  aL (dc prog w) A (i9 (.ref (B+4))) Q E s:=by
 have D:=yN b1 b2;have e1:s.heap.IsList l1 xs:=hl1.at λo e=>Z.keep _ o b1 e
 rcases Z.z with ⟨h0,_⟩|⟨T,f1,oT,hz,hT,hTB⟩
 ·exact absurd h0 hk
 ·exact BJ hh D hz hT Z.TI Z.i1 e1 hx λh' hk=>hQ h' (λc o hc e=>hk c o (nA (nL hc)) (nA (bc hc)) (Z.keep c o hc e)) (λp hp=>⟨hk _ _ (nA (nG (Z.own p hp).2 (by decide))) (nA (nG (k:=0) (Z.own p hp).2 (by decide))) (Z.own p hp).1,(Z.own p hp).2⟩) λo e=>hk _ o (nA (nK rfl)) (nA (nK (j:=0) rfl)) e
end
structure ui(xs ys:Array ar)(rows:List (ax×ax)):Prop where
 len:xs.size=rows.length
 row:∀(i:Nat)(a b:ax),rows[i]? =some (a,b)->∃ta tb,xs[i]? =some (.str a ta)∧ys[i]? =some (.str b tb)
section
variable{prog:eC}{w:gf}{A:dR}{E:ar->aC->Prop}{hb:fk}{B l1 l2:Nat}{xs ys:Array ar}{rows:List (ax×ax)}
theorem FL{R:rL->aC->Prop}{res:ar}(hh:A.handled=none)(b1:l1<B)(b2:l2<B)(hl1:hb.IsList l1 xs)(hl2:hb.IsList l2 ys)(ZR:ui xs ys rows)(h1:1<=rows.length)(h64:rows.length<64):
  ∀(d k:Nat)(s:aC)(acc:Array ar)(c:Nat)(own:gO),rows.length - k=d->k<=rows.length->pB hb s.heap B l1 l2 k own->s.heap.get? (B+5)=some (iE "list" acc c)->eL acc (rows.take k) own->
  (∀h' acc' c' own',(∀c o,c<B->hb.get? c=some o->h'.get? c=some o)->(∀p∈own',h'.get? p.1=some p.2∧@JS Nat _ (B+6) p.1)->h'.get? (B+5)=some (iE "list" acc' c')->eL acc' rows own'->R (.ok (.ret res)) {s with heap:=h'})->
  nM (dc prog w) A (.builtin "list.extend.loop" ⟨[.ref (B+5),.ref (B+4),res],[]⟩) R s:=by
 intro d;induction d with
 |zero=>
  intro k s acc c own hd hk Z hS T hR;have hkn:k=rows.length:=kW hk (AR.mp hd);subst hkn;rw[tE]at T;refine pZ Jn ?_;rw[km lQ _];show aL _ A.in1 (i9 (.ref (B+4))>>=_) _ _ s;refine az (Z.done hh b1 b2 (cu h1) hl1 (Array.getElem?_eq_none (by rw[ZR.len];exact bF _)) λh' k1 k2 k3=>?_);exact aV (hR h' acc c own k1 k2 (k3 _ hS) T)
 |succ d ih=>
  intro k s acc c own hd hk Z hS T hR;have hlt:k<rows.length:=Nat.lt_of_sub_eq_succ hd;obtain⟨ta,tb,hx,hy⟩:=ZR.row k rows[k].1 rows[k].2 (bb hlt);refine pZ Jn ?_;rw[km lQ _];show aL _ A.in1 (i9 (.ref (B+4))>>=_) _ _ s;refine az (Z.item b1 b2 hl1 hl2 hx hy λh' X Z' hsz k3=>?_);have hS':=k3 _ hS;have hacc:acc.size=k:=by rw[T.len,List.length_take];exact kU hk
  show aL _ A.in1 (updateSeq (B+5) (·.push (.ref X))>>=_) _ _ _;refine az ?_;refine yI hS' rfl (aV ⟨DO lQ _,ih (k+1) _ (acc.push (.ref X)) _ _ ((Nat.sub_succ _ _).trans (congrArg Nat.pred hd)) hlt (Z'.other ?_ λb o hb' e=>(nN _ _ (qf hb')).trans e) (iC _ hS' rfl) ?_ λh'' acc' c' own' g1 g2 g3 g4=>?_⟩)
   (aq (bP hacc) (aq (b0 (dD hlt h64)) (ae rfl:64<=aF))) (by show(acc.push (.ref X)).size<=aF+1;rw[Jo,hacc];exact aq (gG (dD hlt h64)) (eD (ae rfl:64<=aF)))
  ·rw[tH];exact bF _
  ·have e:rows.take (k+1)=rows.take k++[(rows[k].1,rows[k].2)]:=by rw[List.take_add_one,bb hlt];rfl
   rw[e];exact T.snoc
  ·exact hR h'' acc' c' own' g1 g2 g3 g4
theorem zW{s:aC}{Q:List ar->aC->Prop}(hh:A.handled=none)(hB:s.heap.objs.size=B+5)(b1:l1<B)(b2:l2<B)(hl1:s.heap.IsList l1 xs)(hl2:s.heap.IsList l2 ys)(ZR:ui xs ys rows)(h1:1<=rows.length)(h64:rows.length<64)
  (hz:IsZip s.heap (B+4) (B+2) (B+3) .none)(hTI:m4 s.heap (B+2) (.ref B) (.ref (B+1)))(hTO:m4 s.heap (B+3) .none .none)(hi1:s.heap.IsListIter B l1 0)(hi2:s.heap.IsListIter (B+1) l2 0)
  (hQ:∀h' acc own,(∀c o,c<B->s.heap.get? c=some o->h'.get? c=some o)->(∀p∈own,h'.get? p.1=some p.2∧@JS Nat _ (B+6) p.1)->eL acc rows own->Q acc.toList {s with heap:=h'}):
  aL (dc prog w) A (collect (.ref (B+4))) Q E s:=by
 have hZ:s.TypeIs (.ref (B+4)) "zip":=⟨_,hz,rfl⟩;unfold collect;refine az (wpAny_runValue (pZ F.entry_proto_collect ?_));rw[km F.plain_proto_collect _];show aL _ A.in1 (newList []>>=λl=>again (.builtin "list.__iadd__" ⟨[l,.ref (B+4)],[]⟩)) _ _ s;refine az (ed ?_);refine aV ⟨DO NT _,pZ F.entry_list_iadd ?_⟩;rw[km NT _,hB];have up:∀c o,s.heap.get? c=some o->(s.heap.push {cls:=.type "list",data:=.seq ([]:List ar).toArray}).get? c=some o:=λc o e=>aR _ e
 have hsz1:(s.heap.push {cls:=.type "list",data:=.seq ([]:List ar).toArray}).objs.size=B+6:=by rw[fq,hB]
 have hS₁:(s.heap.push {cls:=.type "list",data:=.seq ([]:List ar).toArray}).get? (B+5)=some {cls:=.type "list",data:=.seq ([]:List ar).toArray}:=by rw[<-hB];exact bE _ rfl
 have Z₁:pB s.heap (s.heap.push {cls:=.type "list",data:=.seq ([]:List ar).toArray}) B l1 l2 0 []:=
  ⟨λc o z e=>up c o e,by rw[hsz1];exact bF _,up _ _ hTI,hi1.at λo e=>up _ o e,hi2.at λo e=>up _ o e,.inl ⟨rfl,up _ _ hz,up _ _ hTO⟩,λz hp=>nomatch hp⟩
 have hz₁:({s with heap:=s.heap.push {cls:=.type "list",data:=.seq ([]:List ar).toArray}}:aC).TypeIs (.ref (B+4)) "zip":=⟨_,up _ _ hz,rfl⟩;show aL _ A.in1 (qo (.ref (B+5)) (.ref (B+4)) (.ref (B+5))) _ _ {s with heap:=s.heap.push {cls:=.type "list",data:=.seq ([]:List ar).toArray}};unfold qo;refine az (wpAny_typeOf hz₁ ?_);have h1':sJ (.ref (B+5)) (.ref (B+4))=false:=by simp [sJ]
 have h2:(j5 "zip"==j5 "list")=false:=by decide
 have h3:(j5 "zip"==j5 "tuple")=false:=by decide
 simp only [h1',h2,h3,Py,eB,if_false];refine az (wpAny_pyIter_zip (s:={s with heap:=s.heap.push {cls:=.type "list",data:=.seq ([]:List ar).toArray}}) (up _ _ hz) ?_);refine az (cE ?_);unfold Builtin.List.listLengthHint;refine az (yJ hz₁ A8 ?_);show aL _ A.in1 (specialOf (fD (B+4)) (aa "__length_hint__")>>=_) _ _ _;refine az (yJ hz₁ yL ?_);refine aV ?_;show aL _ A.in1 (rule "list.extend.makes-room">>=λz=>Builtin.List.listTouch (.ref (B+5))>>=λz=>
  again (.builtin "list.extend.loop" ⟨[.ref (B+5),.ref (B+4),.ref (B+5)],[]⟩)) _ _ _
 refine az (pC ?_);refine az ?_;show aL _ A.in1 (updateSeq (B+5) (·.push .none)>>=λz=>updateSeq (B+5) (·.pop)) _ _ _;refine az (yI hS₁ rfl ?_);have hS₂:=iC (gP (·.push eG)) hS₁ rfl;refine yI hS₂ rfl ?_;have hS₃:=iC (gP (·.pop)) hS₂ rfl;refine aV ⟨DO lQ _,FL (rows:=rows) hh b1 b2 hl1 hl2 ZR h1 h64 rows.length 0 _ _ _ [] rfl (bC _) (Z₁.other ?_ λc o hc e=>(nN _ _ (qf hc)).trans ((nN _ _ (qf hc)).trans e)) hS₃ ⟨rfl,λi v hv=>by simp at hv⟩ λh' acc' c' own' k1 k2 k3 k4=>?_⟩
 ·rw[tH,tH];exact bF _
 show aL _ A (load (B+5)>>=_) _ _ _;refine az (wpAny_load k3 ?_);exact aV (hQ h' acc' own' k1 k2 k4)
end
section
variable{prog:eC}{w:gf}{A:dR}{E:ar->aC->Prop}{s:aC}{h₀:fk}{L:aI}{m:ax->Option ar}{news:gO}{rows:List (ax×ax)}
set_option tactic.hygienic true in
theorem wd{P:List ar->gO->Prop}{Q:ar->aC->Prop}{q:List Nat}
  (hcol:∀Q1:List ar->aC->Prop,(∀h1 vs news1,Fr h₀ L h1 m->dJ h₀ L h1 news1->eL (iT vs) rows news1->P vs news1->Q1 vs {s with heap:=h1})->aL (dc prog w) A.in1 (collect v) Q1 E s)
  (nd:(rows.map (·.1)).Nodup)(h64:rows.length<64)(e:GZ rows=some q)
  (h:∀vs h' D c news1,P vs news1->eL (iT vs) rows news1->Fr h₀ L h' m->dJ h₀ L h' ((D,jZ (iT (q.map λi=>vs.getD i eG)) c)::news1)->(∀p∈news1,@rP Nat _ p.1 D)->Q (.ref D) {s with heap:=h'}):
  aL (dc prog w) A (call (.builtin "sorted") [v]) Q E s:=by
 refine Calls.call_function_entry kind_sorted plain_sorted entry_sorted (args_sorted1 _) ?_;unfold b8.«sorted»;refine az (m:=checkCount "sorted" 1 1 _) (aV ?_);refine az (hcol _ λh1' vs news1 F N T p=>?_);have hlen:vs.length=rows.length:=by simpa using T.len
 refine az (wpAny_newList ?_ (by rw[nH];omega));have hoL:(h1'.push (iE "list" vs.toArray 0)).get? h1'.objs.size=some (iE "list" vs.toArray 0):=bE _ rfl;have hL:L<h1'.objs.size:=F.ns.lt;have off:∀p∈news1,@rP Nat _ p.1 h1'.objs.size:=λq hq=>bw (N q hq).1
 show aL _ _ _ _ _ {s with heap:=h1'.push (iE "list" vs.toArray 0)};refine az (cE (fw slot_list_sort ⟨_,hoL,rfl⟩ entry_list_sort ?body (args_list_sort _)))
 case body=>
  refine Gq (s:={s with heap:=h1'.push (iE "list" vs.toArray 0)}) (F.push _) (N.grown λ_ _ e=>aR _ e) hoL (cu hL) (dj (aq F.above (b0 F.ns.lt))) (λp hp=>bc (off p hp)) T nd h64 e λh' c F' N'=>?_
  exact⟨_,rfl,aV ⟨_,rfl,h vs h' _ c news1 p T F' N' off⟩⟩
theorem Bl{B l1 l2:Nat}{xs ys:Array ar}{Q:ar->aC->Prop}{hb:fk}(F:Fr h₀ L hb m)(N:dJ h₀ L hb news)(hh:A.handled=none)(keep:∀c o,hb.get? c=some o->s.heap.get? c=some o)(hbB:hb.objs.size=B)
  (hB:s.heap.objs.size=B+5)(hl1:hb.IsList l1 xs)(hl2:hb.IsList l2 ys)(ZR:ui xs ys rows)
  (hz:IsZip s.heap (B+4) (B+2) (B+3) .none)(hTI:m4 s.heap (B+2) (.ref B) (.ref (B+1)))(hTO:m4 s.heap (B+3) .none .none)(hi1:s.heap.IsListIter B l1 0)(hi2:s.heap.IsListIter (B+1) l2 0)
  (nd:(rows.map (·.1)).Nodup)(h1:1<=rows.length)(h64:rows.length<64){q:List Nat}(eo:GZ rows=some q)
  (h:∀vs h' D c own,eL (iT vs) rows own->(∀p∈own,@JS Nat _ B p.1)->Fr h₀ L h' m->dJ h₀ L h' ((D,jZ (iT (q.map λi=>vs.getD i eG)) c)::(own++news))->(∀p∈own++news,@rP Nat _ p.1 D)->Q (.ref D) {s with heap:=h'}):
  aL (dc prog w) A (call (.builtin "sorted") [.ref (B+4)]) Q E s:=by
 have b1:l1<B:=by obtain⟨_,e,_⟩:=hl1;rw[<-hbB];exact bw e
 have b2:l2<B:=by obtain⟨_,e,_⟩:=hl2;rw[<-hbB];exact bw e
 refine wd (h₀:=h₀) (L:=L) (m:=m) (P:=λvs n=>∃own,n=own++news∧eL (iT vs) rows own∧∀p∈own,@JS Nat _ B p.1) (λQ1 hq=>?_) nd h64 eo λvs h' D c news1 e T' F' N' off=>?_
 ·refine zW (A:=A.in1) (rows:=rows) hh hB b1 b2 (hl1.at λo e=>keep _ o e) (hl2.at λo e=>keep _ o e) ZR h1 h64 hz hTI hTO hi1 hi2 λh' acc own k1 k2 T=>?_
  have up:∀c o,hb.get? c=some o->h'.get? c=some o:=λc o e=>k1 c o (by rw[<-hbB];exact bw e) (keep c o e)
  refine hq h' acc.toList (own++news) (F.kept up) (λp hp=>?_) (by rw[A7];exact eL.mono T λp hp=>av _ hp) ⟨own,rfl,by rw[A7];exact T,λp hp=>aq (a9 B 6) (k2 p hp).2⟩;rcases aT.mp hp with hp|hp
  ·have:=k2 p hp
   refine⟨this.1,?_,dj ?_⟩
   ·have h1:@rP Nat _ L B:=by rw[<-hbB];exact F.ns.lt
    have h2:=this.2;exact nA (by omega)
   ·have h1:@rP Nat _ L B:=by rw[<-hbB];exact F.ns.lt
    have h2:=this.2;have h3:=F.above;omega
  ·exact N.grown up p hp
 ·obtain⟨own,rfl,T2,lo⟩:=e
  exact h vs h' D c own T2 lo F' N' off
end
end
variable{D:aI}{o:AO}{ob:dU}{C:Prop}{objs:List dU}{rest:gO}{xs:List AV}{vs:List ar}
variable{w:gf}{mean:jj->Option ar}{mg:ax->Option ar}{mb:ax->Option ar}{Γ:Wk w mean mg mb}{ρ:List aI}{ρ':List aI}{P:mh}{m:Nm}{H:Hp}{H':Hp}{H'':Hp}{s:aC}{s':aC}{K:KV}{en:En}
section
variable{rows:Rw}{ts:List Nat}
theorem bM.more(R:bM Γ ρ P m H s)(hr:de w (ρ++[D]) o ob)(hN:s.heap.get? D=some ob∧D≠Γ.L∧Γ.h₀.get? D=none)(f1:∀(j:Nat)(b:aI),ρ[j]? =some b->b≠D)(f2:∀p∈P.rest,p.1≠D)(lo:okA o D):bM Γ (ρ++[D]) P m (H++[o]) s:=by
 obtain⟨mm,objs,F,q,ro,N⟩:=R.dy;refine⟨⟨mm,objs++[ob],F,q.mono (dg.one ρ D),(ro.mono (dg.one ρ D)).app (.cons hr .nil),λp hp=>?_⟩,R.ly.add f1 f2 lo,R.g,R.d,R.o⟩;rw[j9 (R.ly.ln.trans ro.len.symm),aA]at hp;exact qF hp (λh=>N p (av _ h)) (λh=>a8.mp h▸hN) λh=>N p (au _ h)
theorem ü{a b:ax}(r:de w ρ (.tup [.str a,.str b]) ob)(k:∀ta tb,ob=iy [.str a ta,.str b tb]->C):C:=
 r.hd (C:=λob=>(∀ta tb,ob=iy [.str a ta,.str b tb]->C)->C) (λvs r=>bB.c2 (C:=λvs=>(∀ta tb,iy vs=iy [.str a ta,.str b tb]->C)->C) r λv u h1 h2=>db.S (C:=λv=>(∀ta tb,iy [v,u]=iy [.str a ta,.str b tb]->C)->C) h1 λt=>db.S (C:=λu=>(∀ta tb,iy [.str a t,u]=iy [.str a ta,.str b tb]->C)->C) h2 λt2 c=>c t t2 rfl) k
theorem tab_of(ro:eY w ρ H objs)(r:bn H ts rows):∀{vs:List ar},bB ρ (ts.map AV.ref) vs->eL vs.toArray rows (ρ.zip objs++rest):=by
 induction r with
 |nil=>exact λrs=>bB.c0 (C:=λvs=>eL vs.toArray [] _) rs ⟨rfl,λi v e=>by rw[bU]at e;exact mz e⟩
 |@cons t p ts rows h _ _ ih=>
  refine λrs=>bB.hd (C:=λvs=>eL vs.toArray (p::rows) _) rs λv us h1 rs=>?_
  have T:=ih rs;refine db.R (C:=λv=>eL (v::us).toArray (p::rows) _) h1 λc hc=>ro.at h λob e2 r2=>ü r2 λta tb e3=>⟨congrArg eJ T.len,λi u e=>?_⟩
  rw[bU]at e;cases i with
  |zero=>exact⟨c,p.1,ta,p.2,tb,(aj e).symm,av _ (e3▸dK hc e2),rfl⟩
  |succ i=>exact T.row i u ((bU).trans e)
noncomputable def byQ(q:List Nat)(rows:Rw):Rw:=q.map λi=>rows.getD i (aa "",aa "")
theorem bn.at{ts:List Nat}(r:bn H ts rows):∀i,i<rows.length->H[ts.getD i 0]? =some (.tup [.str (rows.getD i (aa "",aa "")).1,.str (rows.getD i (aa "",aa "")).2])∧(rows.getD i (aa "",aa "")).1.length<=1000:=by
 induction r with
 |nil=>exact λi h=>absurd h (vJ i)
 |cons h s _ ih=>exact λi hi=>match i,hi with
  |0,_=>⟨h,s⟩
  |i+1,hi=>ih i (AT hi)
theorem bn.byQ(r:bn H ts rows):∀(q:List Nat),(∀i∈q,i<rows.length)->bn H (q.map λi=>ts.getD i 0) (byQ q rows)
 |[],_=>.nil
 |i::q,h=>.cons (r.at i (h i ah)).1 (r.at i (h i ah)).2 (r.byQ q λj hj=>h j (af _ hj))
structure sU(rows:Rw)(q:List Nat):Prop where
 nd:(rows.map (·.1)).Nodup
 z:rows.length<64
 e:GZ rows=some q
 lt:∀i∈q,i<rows.length
theorem bB.byQ(r:bB ρ xs vs):∀(q:List Nat),(∀i∈q,i<xs.length)->bB ρ (q.map λi=>xs.getD i .none) (q.map λi=>vs.getD i eG)
 |[],_=>.nil
 |i::q,h=>by
  refine .cons ?_ (r.byQ q λj hj=>h j (af _ hj));have hi:=h i ah;exact r.at (bb hi) λv e1 e2=>by
   show db ρ (xs.getD i .none) (vs.getD i eG);rw[bm,bm,e1,bb hi];exact e2
inductive Ve(as:List AV)(H:Hp)(K:KV):Prop
 |mk(n:Nat)(ts:List Nat)(rows:Rw)(q:List Nat)(ea:as=[.ref n])(h:cH fG H n=some (ts.map AV.ref))(r:bn H ts rows)(o:sU rows q)(k:K (.ref H.length) (H++[.lst (q.map λi=>.ref (ts.getD i 0))])):Ve as H K
noncomputable def We:Sp:=jq Ve
theorem Wd:iA Γ (.builtin "sorted",We):=.of rfl λρ P m H s Q E as vs K h R r b=>by
 obtain⟨n,ts,rows,q,rfl,h,rw,o,k⟩:=h;refine bB.c1 (C:=λvs=>aL (cJ w) Γ.A (bH (.builtin "sorted") vs []) Q E s) r λv hv=>db.R (C:=λv=>aL (cJ w) Γ.A (bH (.builtin "sorted") [v] []) Q E s) hv λc hc=>R.list hc h λvs rs hl=>?_
 obtain⟨mm,objs,F,qn,ro,N⟩:=R.dy;have T:=tab_of (rest:=P.rest) ro rw rs;have hlen:vs.length=rows.length:=(show vs.toArray.size=vs.length from b9).symm.trans T.len;refine wd (h₀:=Γ.h₀) (L:=Γ.L) (m:=mm) (P:=λvs' n=>vs'=vs∧n=ρ.zip objs++P.rest) (λQ1 hq=>?_) o.nd o.z o.e λvs' h' D c' news1 p T' F' N' off=>?_
 ·have keep:∀b o,s.heap.get? b=some o->((s.heap.push (iE "list" #[] 0)).update s.heap.objs.size (gP (·++vs.toArray))).get? b=some o:=λb o q=>by
   have hlt:b<s.heap.objs.size:=bw q;rw[Heap.get?_update_ne _ _ _ _ (bc hlt),Heap.get?_push_ne _ _ _ (bc hlt)];exact q
  exact collect_list hl (hq _ vs _ (F.kept keep) (N.grown keep) T ⟨rfl,rfl⟩) (aq (b0 (hlen▸o.z)) (ae rfl))
 ·obtain⟨rfl,rfl⟩:=p
  have R1:bM Γ ρ P m H {s with heap:=h'}:=⟨⟨mm,objs,F',qn,ro,λp hp=>N' p (af _ hp)⟩,R.ly,R.g,R.d,R.o⟩;have lt:∀i∈q,i<(ts.map AV.ref).length:=λi hi=>(aD (f:=AV.ref) (as:=ts)).symm▸rw.len▸o.lt i hi
  have ez:(q.map λi=>(ts.map AV.ref).getD i .none)=q.map λi=>AV.ref (ts.getD i 0):=fR λi hi=>by
   have hi':i<ts.length:=rw.len▸o.lt i hi;rw[bm,bm,bv,bb hi'];rfl
  have rb:=rs.byQ q lt;rw[ez]at rb;refine b.put (dg.one ρ D) (R1.top D) (R1.more (.lst c' (rb.mono (dg.one ρ D))) (N' _ ah) (λj a e i=>?_) (λp hp=>bc (off p (au _ hp))) br) k;obtain⟨ob,ho⟩:=gy (R.ly.ln.trans ro.len.symm) e;exact dW _ (i▸off _ (av _ ho))
end
variable{k:Nat}{l1 l2:aI}{ev:Ev}
variable{env:qk}{Q:ar->aC->Prop}{E:ar->aC->Prop}
section
variable{rows:Rw}{ts:List Nat}
noncomputable def uu(rows:Rw):Hp:=rows.map λr=>.tup [.str r.1,.str r.2]
theorem Ah{h':fk}{own:gO}(hN:∀p∈own,s.heap.get? p.1=some p.2∧p.1≠Γ.L∧Γ.h₀.get? p.1=none)(lo:∀p∈own,(∀q∈P.rest,q.1≠p.1)):∀(rows:Rw)(vs:List ar)(ρ:List aI)(H:Hp)(old:List ax),eL vs.toArray rows own->bM Γ ρ P m H s->(old++rows.map (·.1)).Nodup->(∀(j:Nat)(b:aI),ρ[j]? =some b->(∀p∈own,b≠p.1)∨∃a ta y,s.heap.get? b=some (iy [.str a ta,y])∧a∈old)->∃τ,bM Γ (ρ++τ) P m (H++uu rows) s∧bB (ρ++τ) ((cQ rows.length).map λi=>AV.ref (H.length+i)) vs∧∀b∈τ,∃p∈own,p.1=b
 |[],vs,ρ,H,old,T,R,_,_=>by
  have e:vs=[]:=ch ((show vs.toArray.size=vs.length from b9).symm.trans T.len);subst e;exact⟨[],by rw[be];exact(be H).symm▸R,.nil,λb h=>eN h⟩
 |r::rows,vs,ρ,H,old,T,R,nd,hd=>by
  have hl:vs.length=rows.length+1:=(show vs.toArray.size=vs.length from b9).symm.trans T.len;cases vs with
  |nil=>exact nomatch hl
  |cons v vs=>
   obtain⟨D,a,ta,b,tb,rfl,hm,er⟩:=T.row 0 v rfl;obtain rfl:r=(a,b):=aj er;have f1:∀(j:Nat)(c:aI),ρ[j]? =some c->c≠D:=λj c e i=>by
    subst i;refine(hd j c e).elim (λk=>k _ hm rfl) λ⟨a',t',y,g,ha⟩=>?_
    have:=(hN _ hm).1.symm.trans g;have e2:a=a':=by
     have e3:=aj this;have e4:(iy [o5 a ta,o5 b tb]).data=(iy [o5 a' t',y]).data:=congrArg (·.data) e3
     injection e4 with e4
     injection (congrArg Array.toList e4)with e5
     injection e5
    exact(sG.mp nd).2.2 a' ha a' (e2▸ah) rfl
   have R1:=R.more (o:=.tup [.str a,.str b]) (.tup (.cons (.str a ta) (.cons (.str b tb) .nil))) (hN _ hm) f1 (lo _ hm) br;have T1:eL vs.toArray rows own:=⟨(show vs.toArray.size=vs.length from b9).trans (jp hl),λi u e=>by
    obtain⟨X,x1,t1,y1,u1,e1,e2,e3⟩:=T.row (i+1) u ((bU).trans (show vs[i]? =some u from(bU).symm.trans e));exact⟨X,x1,t1,y1,u1,e1,e2,e3⟩⟩
   obtain⟨τ,R2,rs,hτ⟩:=Ah (h':=h') hN lo rows vs (ρ++[D]) (H++[.tup [.str a,.str b]]) (old++[a]) T1 R1 (by rw[aA];exact nd) λj c e=>gp e (λe=>(hd j c e).imp id λ⟨a',t',y,g,ha⟩=>⟨a',t',y,g,av _ ha⟩) λz i=>.inr ⟨a,ta,_,i▸(hN _ hm).1,au _ ah⟩
   refine⟨D::τ,?_,?_,λc hc=>(aE.mp hc).elim (λe=>e▸⟨_,hm,rfl⟩) (hτ c)⟩
   ·rw[aA,aA]at R2
    exact R2
   ·rw[aA]at rs
    rw[iW,Au,gM,da];refine .cons (.ref _ D ?_) ?_
    ·show(ρ++D::τ)[H.length]? =_
     rw[<-R.ly.ln,bp (bF _),fW];rfl
    ·have e:((cQ rows.length).map λi=>AV.ref ((H++[AO.tup [.str a,.str b]]).length+i))=(cQ rows.length).map ((λi=>AV.ref (H.length+i))∘eJ):=fR λi z=>by
      rw[aK];exact congrArg AV.ref (cC H.length i)
     exact e▸rs
theorem bB.strs:∀{ks:List ax}{vs:List ar},bB ρ (dI ks) vs->∀(i:Nat)(a:ax),ks[i]? =some a->∃t,vs[i]? =some (.str a t)
 |[],_,_,_,_,h=>mz h
 |k::ks,vs,r,i,a,h=>bB.hd (C:=λvs=>∃t,vs[i]? =some (.str a t)) r λv us h1 r=>db.S (C:=λv=>∃t,(v::us)[i]? =some (.str a t)) h1 λt=>match i,h with
  |0,h=>⟨t,(aj h:k=a)▸rfl⟩
  |i+1,h=>bB.strs r i a h
theorem VM(hh:Γ.A.handled=none)(R:bM Γ ρ P m H s){ks vs:List ax}{q:List Nat}(h1:cH fG H i=some (dI ks))(h2:cH fG H k=some (dI vs))(hc:ρ[i]? =some l1)(hd:ρ[k]? =some l2)(hl:ks.length=vs.length)(hn:1<=ks.length)(o:sU (ks.zip vs) q)(b:Back Γ ρ P m K Q)(hk:K (.ref (H.length+(ks.zip vs).length)) (H++uu (ks.zip vs)++[.lst (q.map λi=>.ref (H.length+i))]))(G:ar->aC->Prop)(hG:∀v s',aL (cJ w) Γ.A (bH (.builtin "sorted") [v]) Q E s'->G v s'):aL (cJ w) Γ.A (bH (.type "zip") [.ref l1,.ref l2]) G E s:=by
 refine R.list hc h1 λxs r1 z1=>R.list hd h2 λys r2 z2=>call_zip_2 z1 z2 λh' zz zTI zTO zi1 zi2 zsz zk=>hG _ _ ?_
 obtain⟨mm,objs,F,qn,ro,N⟩:=R.dy;have zl:(ks.zip vs).length=ks.length:=by rw[List.length_zip,<-hl,Nat.min_self]
 have ZR:ui xs.toArray ys.toArray (ks.zip vs):=⟨by rw[zl];exact(show xs.toArray.size=xs.length from b9).trans (r1.len.trans (iP ks)),λi a c e=>by
  obtain⟨e1,e2⟩:=List.getElem?_zip_eq_some.mp e;obtain⟨ta,g1⟩:=r1.strs i a e1;obtain⟨tb,g2⟩:=r2.strs i c e2;exact⟨ta,tb,(bU).trans g1,(bU).trans g2⟩⟩
 refine Bl (h₀:=Γ.h₀) (L:=Γ.L) (m:=mm) (s:={s with heap:=h'}) F N hh zk rfl zsz z1 z2 ZR zz zTI zTO zi1 zi2 o.nd (zl.symm▸hn) o.z o.e λus h'' D c own T lo F' N' off=>?_
 have R1:bM Γ ρ P m H {s with heap:=h''}:=⟨⟨mm,objs,F',qn,ro,λp hp=>N' p (af _ (au _ hp))⟩,R.ly,R.g,R.d,R.o⟩;have old:∀(j:Nat)(a:aI),ρ[j]? =some a->@rP Nat _ a s.heap.objs.size∧@rP Nat _ a D:=λj a e=>by
  obtain⟨ob,ho⟩:=gy (R.ly.ln.trans ro.len.symm) e;exact⟨bw (N _ (av _ ho)).1,off _ (au _ (av _ ho))⟩
 obtain⟨τ,R2,rs,hτ⟩:=Ah (h':=h'') (s:={s with heap:=h''}) (λp hp=>N' p (af _ (av _ hp))) (λp hp z hz e=>dW _ (bx (e▸bw (N z (au _ hz)).1) (lo p hp))) (ks.zip vs) us ρ H [] T R1 o.nd λj a e=>.inl λp hp i=>dW _ (bx (i▸(old j a e).1) (lo p hp))
 have rl:((cQ (ks.zip vs).length).map λi=>AV.ref (H.length+i)).length=(ks.zip vs).length:=(aD _).trans sH;have rb:=rs.byQ q λi hi=>rl.symm▸o.lt i hi
 have ez:(q.map λi=>((cQ (ks.zip vs).length).map λi=>AV.ref (H.length+i)).getD i .none)=q.map λi=>AV.ref (H.length+i):=fR λi hi=>by
  rw[bm,bv,i5 (o.lt i hi)];rfl
 rw[ez]at rb;have f1:∀(j:Nat)(a:aI),(ρ++τ)[j]? =some a->a≠D:=λj a e i=>by
  rcases aT.mp (gC e)with h|h
  ·obtain⟨j',e'⟩:=gD h
   exact dW _ (i▸(old j' a e').2)
  ·obtain⟨p,hp,e'⟩:=hτ a h
   exact dW _ (i▸e'▸off p (av _ hp))
 have R3:=R2.more (.lst c (rb.mono (dg.one _ D))) (N' _ ah) f1 (λp hp=>bc (off p (au _ (au _ hp)))) br;refine b.put (dg.trans ⟨τ,rfl⟩ (dg.one _ D)) (.ref _ D ?_) R3 hk;have e:(ρ++τ).length=H.length+(ks.zip vs).length:=by
  rw[R2.ly.ln,aK];exact congrArg _ (aD _)
 rw[<-e];exact bA
inductive Vb(as:List AV)(H:Hp)(K:KV):Prop
 |mk(i k:Nat)(ks vs:List ax)(q:List Nat)(ea:as=[.ref i,.ref k])(h1:cH fG H i=some (dI ks))(h2:cH fG H k=some (dI vs))(hl:ks.length=vs.length)(hn:1<=ks.length)(o:sU (ks.zip vs) q)(hk:K (.ref (H.length+(ks.zip vs).length)) (H++uu (ks.zip vs)++[.lst (q.map λi=>.ref (H.length+i))])):Vb as H K
theorem J0{T:f6}(O:cF Γ T)(hev:g6 Γ ev){p1 p2 p3 p4:kF}{e1 e2:al}(hn:eF [e1,e2]=true)(hs:wi en T m H (aa "sorted")=some (.val (.builtin "sorted")))(hz:wi en T m H (aa "zip")=some (.val (.type "zip")))(h:yH ev en [e1,e2] m H λas H=>Vb as H K):Vj Γ en env (eval (.Call (.Name (aa "sorted") p1) [.Call (.Name (aa "zip") p2) [e1,e2] [] p3] [] p4) env) m H K:=λρ P s Q E N R b=>by
 refine az (sL O hs N R λv rv=>?_);obtain rfl:v= .builtin "sorted":=db.V (C:=λv=>v= .builtin "sorted") rv rfl;refine iB (P:=λh=>Kp w h (.builtin "sorted")) rfl (λh p=>p) (IR rfl (az (sL O hz N R λv rv=>?_)));obtain rfl:v= .type "zip":=db.V (C:=λv=>v= .type "zip") rv rfl;refine iB (P:=λh=>Kp w h (.type "zip")) (by rw[ju hn];rfl) (λh p=>p) (ug hev hn h N R λbs vs H' ρ' s' x r R' z=>?_);obtain⟨i,k,ks,us,q,rfl,h1,h2,hl,hn1,o,hk⟩:=z;refine bB.c2 (C:=λvs=>Kp w s'.heap (.type "zip")∧aL (cJ w) Γ.A (bH (.type "zip") ([]++vs) []) _ E s') r λv u r1 r2=>db.R (C:=λv=>Kp w s'.heap (.type "zip")∧aL (cJ w) Γ.A (bH (.type "zip") [v,u] []) _ E s') r1 λl1 c1=>db.R (C:=λu=>Kp w s'.heap (.type "zip")∧aL (cJ w) Γ.A (bH (.type "zip") [.ref l1,u] []) _ E s') r2 λl2 c2=>⟨⟨.machine,.inr (.inl rfl),λA Q E s y q=>aV q⟩,VM rfl R' h1 h2 c1 c2 hl hn1 o (b.ext x) hk _ λv s' g=>⟨⟨.machine,.inr (.inl rfl),λA Q E s y q=>aV q⟩,g⟩⟩
end
end Mine
namespace Mine.LW
variable{ev:Ev}{tr:Tr}{rs:Rw}{a b:Nat}{xs ys:List AV}
variable{w:gf}{mean:jj->Option ar}{mg:ax->Option ar}{mb:ax->Option ar}{Γ:Wk w mean mg mb}{ρ:List aI}{ρ':List aI}{P:mh}{m:Nm}{H:Hp}{H':Hp}{H'':Hp}{s:aC}{s':aC}{K:KV}{en:En}
section
variable{L:LB}{lt l5:Lt}{ts ws:List Nat}{ck cn ck' cn':Option AV}{Z Z':Hp}{j:Nat}{T:f6}{n:Int}{kp:ax}{rows fin:Rw}
noncomputable def oh:f6:=oa [(.builtin "sorted",We),(.ref 215,Mc (·.1)),(.ref 220,Mc (·.2))] [mH "keys" 215,mH "values" 220] λz=>none
inductive ñ(T:f6)(ev:Ev)(en:En)(e:al)(m:Nm)(H:Hp)(K:KV):Prop
 |wk(h:ev en e m H K):ñ T ev en e m H K
 |zs(p1 p2 p3 p4:kF)(e1 e2:al)(he:e= .Call (.Name (aa "sorted") p1) [.Call (.Name (aa "zip") p2) [e1,e2] [] p3] [] p4)(hn:eF [e1,e2]=true)(hs:wi en T m H (aa "sorted")=some (.val (.builtin "sorted")))(hz:wi en T m H (aa "zip")=some (.val (.type "zip")))(h:yH ev en [e1,e2] m H λas H=>Vb as H K):ñ T ev en e m H K
theorem Ua(O:cF Γ T)(hev:g6 Γ ev):g6 Γ (ñ T ev):=λen env e m H K h=>by
 induction h with
 |wk h=>exact hev en env e m H K h
 |zs p1 p2 p3 p4 e1 e2 he hn hs hz h=>exact he▸J0 O hev hn hs hz h
noncomputable abbrev V9:al:=UI (gL (lw 18))
noncomputable abbrev Ŷ:al:=eA (ì (gL (lw 18))) 0
noncomputable abbrev zX:al:=eA (O9 V9) 0
noncomputable abbrev ĭ:al:=eA (O9 zX) 0
noncomputable abbrev VY:al:=eA (O9 zX) 1
theorem Lj{ex:Ex}{K:KS}:k5 bV oh (yY oh ev tr) tr ex (lw 18) m H K=ev bV V9 m H λa h=>ev bV Ŷ m h λb h=>mU .Eq a b h λc=>K (.ret (.bool c)) m h:=by kernel_rfl
theorem Li{F:List AV->Hp->Prop}:yH (wk oh 27).1 bV [ĭ,VY] (kK j) (gT L lt l5 ts ck cn Z) F=NA (·.1) [.ref 34] (gT L lt l5 ts ck cn Z) λa h=>yH (wk oh 27).1 bV [VY] (kK j) h λas h=>F (a::as) h:=by kernel_rfl
theorem Lh{F:List AV->Hp->Prop}:yH (wk oh 27).1 bV [VY] (kK j) (gT L lt l5 ts ck cn Z) F=NA (·.2) [.ref 34] (gT L lt l5 ts ck cn Z) λb h=>F [b] h:=by kernel_rfl
theorem Lg{F:KV}:(wk oh 27).1 bV Ŷ (kK j) H F=Ve [.ref (j+68)] H F:=by kernel_rfl
noncomputable def KC:al->kF
 |.Call _ _ _ p=>p
 |.Name _ p=>p
 |_=>⟨0,0,0,0⟩
noncomputable def l?:al->al
 |.Call f _ _ _=>f
 |e=>e
theorem Lf:V9= .Call (.Name (aa "sorted") (KC (l? V9))) [.Call (.Name (aa "zip") (KC (l? zX))) [ĭ,VY] [] (KC zX)] [] (KC V9):=by kernel_rfl
theorem yM:∀l:Rw,(l.map (·.1)).zip (l.map (·.2))=l
 |[]=>rfl
 |p::l=>congrArg (p::·) (yM l)
theorem CD{rows:Rw}{X:Hp}(h:∀i,i<rows.length->(rows.getD i (aa "",aa "")).1.length<=1000):∀(q:List Nat),(∀i∈q,i<rows.length)->bn (H++uu rows++X) (q.map λi=>H.length+i) (byQ q rows)
 |[],_=>.nil
 |i::q,lt=>by
  have hi:=lt i ah;refine .cons ?_ (h i hi) (CD h q λj hj=>lt j (af _ hj));rw[aA,bp (a9 _ _),bS];refine ba ?_;show(rows.map _)[i]? =some (AO.tup [.str (rows.getD i _).1,.str (rows.getD i _).2]);rw[bv,bm,bb hi];rfl
theorem bn.hd{ts:List Nat}{C:List Nat->Prop}(h:bn H ts rs):match rs with
  |[]=>C []->C ts
  |p::rs=>(∀n as',H[n]? =some (.tup [.str p.1,.str p.2])->bn H as' rs->C (n::as'))->C ts:=by
 induction h with
 |nil=>exact id
 |cons h _ r _=>exact λk=>k _ _ h r
theorem bn.eqs{ts:List Nat}(h:bn H ts rs):∀{us:List Nat},bn H us rs->pY H (ts.map AV.ref) (us.map AV.ref):=by
 induction h with
 |nil=>exact λk=>bn.hd (C:=λus=>pY H [] (us.map AV.ref)) k .nil
 |cons h _ _ ih=>exact λk=>bn.hd (C:=λus=>pY H _ (us.map AV.ref)) k λz z e r=>.cons (.pair (ia (f:=uv) h rfl) (ia (f:=uv) e rfl) (.str _) (.str _)) (ih r)
theorem IB{K:Bool->Prop}(h1:cH fG H a=some xs)(h2:cH fG H b=some ys)(l1:xs.length<=10000)(l2:ys.length<=10000)(e:pY H xs ys)(k:K true):mU .Eq (.ref a) (.ref b) H K:=by
 show aG (BX .Eq) λq=>aG (cH fG H a) λxs=>aG (cH fG H b) λys=>(xs.length<=aF∧ys.length<=aF)∧NI H xs ys q K
 exact aw (x:=true) rfl (aw h1 (aw h2 (aQ ⟨uf l1,uf l2⟩ (.eq e k))))
theorem Xk{q1 q2:List Nat}(r:bn (gT L lt l5 ts ck cn Z) ts rows)(tl:ts.length<=1000)(h:Z[j]? =some (.lst (ws.map .ref)))(q:bn (gT L lt l5 ts ck cn Z) ws fin)(o1:sU rows q1)(o2:sU fin q2)(hn:1<=rows.length)(e:byQ q1 rows=byQ q2 fin)(z1:q1.length<=1000)(z2:q2.length<=1000){ex:Ex}:k5 bV oh (yY oh (ñ oh (wk oh 27).1) tr) tr ex (lw 18) (kK j) (gT L lt l5 ts ck cn Z) λf z H=>match f with|.ret a=>ŵ a∧NF H|_=>False:=by
 refine kc (.zs _ _ _ _ ĭ VY Lf (by kernel_rfl) (by kernel_rfl) (by kernel_rfl) (kc (.mk 34 33 35 ts rows rfl ⟨rfl,rfl,rfl,r⟩ tl ?_) Li)) Lj;rw[jf];refine kc (.mk 34 33 35 ts rows rfl ⟨rfl,rfl,rfl,bn.tups (lW (fQ.app _)) r⟩ tl ?_) Lh;rw[jf];have e0:=yM rows;refine .mk _ _ (rows.map (·.1)) (rows.map (·.2)) q1 rfl (gz _ ?_) (gz _ ?_) ((aD _).trans (aD _).symm) ((aD (f:=λp:ax×ax=>p.1) (as:=rows)).symm▸hn) (e0.symm▸o1) ?_
 ·rw[<-jf,<-jf];exact ba bA
 ·rw[<-jf];exact bA
 rw[e0];have hw:(gT L lt l5 ts ck cn (Z++[AO.lst (dI (rows.map (·.1)))]++[AO.lst (dI (rows.map (·.2)))]))[j+68]? =some (.lst (ws.map .ref)):=zG.trans (ba (ba h));have qG:=bn.tups (lW (L:=L) (lt:=lt) (l5:=l5) (ts:=ts) (ck:=ck) (cn:=cn) ((fQ.app [AO.lst (dI (rows.map (·.1)))]).trans (fQ.app [AO.lst (dI (rows.map (·.2)))]))) q;have g1:(gT L lt l5 ts ck cn (Z++[AO.lst (dI (rows.map (·.1)))]++[AO.lst (dI (rows.map (·.2)))]))[1]? =some (.tab 300 lt):=rfl;have g2:(gT L lt l5 ts ck cn (Z++[AO.lst (dI (rows.map (·.1)))]++[AO.lst (dI (rows.map (·.2)))]))[2]? =some (.tab 305 l5):=rfl;generalize gT L lt l5 ts ck cn (Z++[AO.lst (dI (rows.map (·.1)))]++[AO.lst (dI (rows.map (·.2)))])=G at hw qG g1 g2 ⊢;have bd:∀i,i<rows.length->(rows.getD i (aa "",aa "")).1.length<=1000:=λi hi=>(bn.at r i hi).2
 have ra:=CD (H:=G) (X:=[AO.lst (q1.map λi=>.ref (G.length+i))]) bd q1 o1.lt;have qb:=bn.byQ (bn.tups ((fQ.app (uu rows)).trans (fQ.app [AO.lst (q1.map λi=>.ref (G.length+i))])) qG) q2 o2.lt;have gl:(G++uu rows).length=G.length+rows.length:=aK.trans (congrArg _ (aD _));refine .wk (kc (.mk (j+68) ws fin q2 rfl (gz _ (ba (ba hw))) (bn.tups ((fQ.app (uu rows)).trans (fQ.app _)) qG) o2 ?_) Lg);rw[e]at ra;have ev:=bn.eqs (bn.tups (fQ.app [AO.lst (q2.map λi=>.ref (ws.getD i 0))]) ra) (bn.tups (fQ.app [AO.lst (q2.map λi=>.ref (ws.getD i 0))]) qb);rw[da,da]at ev;refine IB (gz _ (ba (gl▸bA))) (gz _ bA) (aq (bP (aD _)) (aq z1 (by decide))) (aq (bP (aD _)) (aq z2 (by decide))) ev ?_;exact⟨rfl,lt,l5,ba (ba (ba g1)),ba (ba (ba g2))⟩
end
variable{X X':Nm->Hp->Prop}{r:List cP}{m₀:Nm}{H₀ Z:Hp}{T:f6}{α:Type}{lt l5:Lt}{ts:List Nat}{sc:List AV}
section
noncomputable abbrev zh(sc:List AV)(D:LD)(T0 T1 T2 T3:Int)(ke:List (ax×AV))(A0 A1 A2 A3:List ax):LB:=⟨sc,qt D,D,T0,T1,T2,T3,sK D,ke,A0,A1,A2,A3⟩
inductive PF(sc:List AV)(D:LD)(T0 T1 T2 T3:Int):Prop
 |mk(u:Aj (sK D))(e5:ph (ij D) (xw D) 5 (sS "")=some (sK D))(hx:(qt D).length<=150)(e8:iN (qt D++sS "\\")=Fj (sK D) (qt D))(ke:List (ax×AV))(A0 A1 A2 A3:List ax)(e9:sR (qt D)=some ke)
  (a0:Fw (qt D) ke (cb 0)=some A0)(a1:Fw (qt D) ke (cb 1)=some A1)(a2:Fw (qt D) ke (cb 2)=some A2)(a3:Fw (qt D) ke (cb 3)=some A3)(rows fin:Rw)(z:Int)(e12:B5 (ZM (zh sc D T0 T1 T2 T3 ke A0 A1 A2 A3)) (hU T0 T1 T2 T3) Jz 5 (sS "abcd") [] z rows)
  (b:Cd (zh sc D T0 T1 T2 T3 ke A0 A1 A2 A3))(e14:tt (Ao (zh sc D T0 T1 T2 T3 ke A0 A1 A2 A3)) OA [] fin)(p1:jF (t1 (qt D))=false)(p2:jF (t2 (qt D))=false)(ey:gZ rows (aX (aa "y"))= .none)(ak:∀p∈fin,Pf rows p)(ne:fin≠[])(q1 q2:List Nat)(o1:sU rows q1)(o2:sU fin q2)(hn:1<=rows.length)(eq:byQ q1 rows=byQ q2 fin)(z1:q1.length<=1000)(z2:q2.length<=1000):PF sc D T0 T1 T2 T3
theorem jB.rw{r':List cP}(e:r=r')(k:jB Γ P en X r'):jB Γ P en X r:=e▸k
theorem jB.at(k:jB Γ P en X r)(x:X m₀ H₀):jB Γ P en (λm H=>m=m₀∧H=H₀) r:=.mk λρ m H s Q E h N R q=>k.go ρ m H s Q E (h.1▸h.2▸x) N R q
theorem jB.one{st:cP}(O:cF Γ T)(h:k5 en T (wk T 28).1 (wk T 28).2 (cg en T 8) st m₀ H₀ (kg X'))(k:jB Γ P en X' r):jB Γ P en (λm H=>m=m₀∧H=H₀) (st::r):=jB.step O 8 (λm H e=>e.1.symm▸e.2.symm▸h) k
theorem jB.last{st:cP}{ex:Ex}(O:cF Γ T)(hev:g6 Γ ev)(htr:rh Γ tr)(hex:Ca Γ en ex)(h:k5 en T ev tr ex st m₀ H₀ λf x H=>match f with|.ret a=>ŵ a∧NF H|_=>False):jB Γ P en (λm H=>m=m₀∧H=H₀) [st]:=.mk λρ m H s Q E e N R q=>
 cy (nX O hev htr hex st m H _ (e.1.symm▸e.2.symm▸h) ρ P s _ E N R λf g m₁ H₁ ρ₁ s₁ x₁ r₁ R₁ y=>by
  induction r₁ with
  |ret r=>
   have z:=q m₁ H₁ ρ₁ s₁ R₁ y.2;induction r with
   |bool b=>exact(show b=true from y.1)▸z
   |_=>exact y.1.elim
  |_=>exact y.elim)
theorem jB.all{X:α->Nm->Hp->Prop}(k:∀a,jB Γ P en (X a) r):jB Γ P en (λm H=>∃a,X a m H) r:=.mk λρ m H s Q E⟨a,x⟩ N R q=>(k a).go ρ m H s Q E x N R q
theorem jB.use(k:∀m H,X m H->jB Γ P en (λm' H'=>m'=m∧H'=H) r):jB Γ P en X r:=.mk λρ m H s Q E x N R q=>(k m H x).go ρ m H s Q E ⟨rfl,rfl⟩ N R q
theorem Sd:fB (mS 32)=[lw 0,lw 1,lw 2,lw 3,lw 4,lw 5,lw 6,lw 7,lw 8,lw 9,lw 10,lw 11,lw 12,lw 13,lw 14,lw 15,lw 16,lw 17,lw 18]:=by kernel_rfl
inductive Ũ(L:LB)(rows fin:Rw)(m:Nm)(H:Hp):Prop
 |mk(lt l5:Lt)(ts:List Nat)(ck cn:Option AV)(Z:Hp)(j:Nat)(ws:List Nat)(em:m=kK j)(eh:H=gT L lt l5 ts ck cn Z)(r:bn H ts rows)(tl:ts.length<=1000)(h:Z[j]? =some (.lst (ws.map .ref)))(q:bn H ws fin)(hw:ws.length<=1000):Ũ L rows fin m H
theorem zJ{L:LB}{ck cn:Option AV}{V:Hp}:fQ (cK L lt ts ck cn Z) (gT L lt l5 ts ck cn (Z++V)):=by
 rw[<-jf,<-OL];exact(fQ.set (k:=2) (o:=.tab 305 []) rfl rfl).trans (fQ.app V)
theorem Sn(ho:Γ.outer=[])(XB:(hp w.params).In Γ.base)(TB:JO Γ.pT Γ.lT mean mg mb Γ.base)(hd:Γ.dp+20<aP)(hu:Γ.un+8*20<df)(hs:∀ρ,s4 ρ (.lst sc))(pf:∀D,EW D->∀T0∈rE,∀T1∈rE,∀T2∈rE,∀T3∈rE,PF sc D T0 T1 T2 T3):jB Γ P bV (X1 sc) [lw 1,lw 2,lw 3,lw 4,lw 5,lw 6,lw 7,lw 8,lw 9,lw 10,lw 11,lw 12,lw 13,lw 14,lw 15,lw 16,lw 17,lw 18]:=by
 have no:∀(g:AV)(k:ax->List (Int×ax)),(none:Option (ax->List (Int×ax)))=some k->wO Γ g k:=λy y e=>aJ e
 refine jB.use λm H x=>?_
 obtain⟨zs,hz,rfl,rfl⟩:=x;refine jB.one (T:=qK) (dt (.cons Qt (.cons lS .nil)) .nil no) (ī hz hs) (jB.pick (X:=An (X2 sc)) (X':=X2 sc) (λy y x=>x) (jB.use λm H x=>?_));obtain⟨zs,S0,S1,S2,S3,rfl,rfl⟩:=x;refine jB.one (T:=xE) (X':=λm H=>∃b∈[sS "",cb 0],∃c∈[cb 0,cb 1],∃d∈[cb 0,cb 1,cb 2],m=jS∧H=rV _ zs c3 S0 S1 S2 S3 (BI (.str b) (.str c) (.str d) [])) (dt .nil .nil no) (Ī λb hb c hc d hd=>⟨b,hb,c,hc,d,hd,rfl,rfl⟩) (jB.use λm H x=>?_);obtain⟨b,hb,c,hc,d,hd',rfl,rfl⟩:=x;refine jB.one (T:=qI) (dt (.cons lS .nil) .nil no) (ĩ hs hb hc hd') (jB.pick (X:=An (X4 sc)) (X':=X4 sc) (λy y x=>x) (jB.use λm H x=>?_));obtain⟨D,hD,rfl,rfl⟩:=x;refine jB.one (T:=qH) (X':=λm H=>∃T0∈rE,∃T1∈rE,∃T2∈rE,∃T3∈rE,m=fm∧H=jw _ c5 D (xn T0 T1 T2 T3 [])) (dt (.cons (Rn.sp XM hd hu rfl) (.cons lS .nil)) .nil no) (Ĩ λT0 h0 T1 h1 T2 h2 T3 h3=>⟨T0,h0,T1,h1,T2,h2,T3,h3,rfl,rfl⟩) (jB.use λm H x=>?_);obtain⟨T0,h0,T1,h1,T2,h2,T3,h3,rfl,rfl⟩:=x;obtain⟨u,e5,hx,e8,ke,A0,A1,A2,A3,e9,a0,a1,a2,a3,rows,fin,z,e12,bu,e14,p1,p2,ey,ak,ne,q1,q2,o1,o2,hn1,eq,z1,z2⟩:=pf D hD T0 h0 T1 h1 T2 h2 T3 h3;have eqX:∀{m:Nm}{H:Hp},m=m∧H=H:=⟨rfl,rfl⟩;refine jB.one (T:=pO) (X':=λm H=>m=_∧H=_) (dt (.cons ((Hb 5).sp HJ hd hu rfl) (.cons lS .nil)) .nil no) (ħ e5 eqX) ?_;refine jB.one (T:=xD) (X':=λm H=>m=_∧H=_) (dt (.cons qN .nil) (.cons mj .nil) no) (Ħ u.join eqX) ?_;refine jB.one (T:=oY) (X':=λm H=>∃Z n as,du (jm sc D T0 T1 T2 T3 (sK D) (qt D) Z) as (Fj (sK D) (qt D))∧(jm sc D T0 T1 T2 T3 (sK D) (qt D) Z)[n]? =some (.lst as)∧m=me (.ref n)∧H=jm sc D T0 T1 T2 T3 (sK D) (qt D) Z) (dt (.cons qN (.cons pP (.cons lS .nil))) (.cons mj .nil) no) (ĥ u (aq hx (by decide)) λZ n as h1 h2=>⟨Z,n,as,h1,h2,rfl,rfl⟩) (jB.use λm H x=>?_);obtain⟨Z,n,as,h7,h8,rfl,rfl⟩:=x;have gk:=qP (Γ:=Γ) hd hu rfl;refine jB.one (T:=md) (dt .nil .nil gk) (Ĥ hs (X:=λm H=>m=fm∧H=qL sc (c8 (qt D)) D T0 T1 T2 T3 (sK D) []) (aq hx (by decide)) e8 u.hl h7 h8 ⟨rfl,rfl⟩) (jB.pick (λy y x=>x) ?_);refine jB.one (T:=pN) (X':=λm H=>m=oj∧H=zo sc (qt D) D T0 T1 T2 T3 (sK D) ke []) (dt (.cons (MJ.sp XK hd hu rfl) (.cons (Yx.sp (by kernel_rfl:gi (hp w.params) (.ref 263)=true) hd hu rfl) .nil)) .nil no) (ģ (aq hx (by decide)) e9 u.hl ⟨rfl,rfl⟩) ?_;refine jB.one (T:=iK) (X':=λm H=>m=d9∧H=fZ (zh sc D T0 T1 T2 T3 ke A0 A1 A2 A3) none [.ref 31] []) (dt (.cons uS .nil) (.cons ĝ .nil) gk) (Xu (aq hx (by decide)) a0 a1 a2 a3 ⟨rfl,rfl⟩) ?_;refine jB.one (T:=fF) (X':=λm H=>m=d9∧H=wu (zh sc D T0 T1 T2 T3 ke A0 A1 A2 A3)) (dt (.cons QA (.cons pP (.cons lS (.cons sr .nil)))) (.cons ma .nil) no) (Xr ⟨rfl,rfl⟩) ?_;refine jB.one (T:=jK) (X':=λm H=>∃lt ts T,bn (cK (zh sc D T0 T1 T2 T3 ke A0 A1 A2 A3) lt ts none none T) ts rows∧ts.length<=1000∧m=d9∧H=cK (zh sc D T0 T1 T2 T3 ke A0 A1 A2 A3) lt ts none none T) (dt (.cons ((FP 5).sp HI hd hu rfl) .nil) .nil no) (Xq e12 λlt ts T r tl=>⟨lt,ts,T,r,tl,rfl,rfl⟩) (jB.use λm H x=>?_);obtain⟨lt,ts,T,r,tl,rfl,rfl⟩:=x;refine jB.one (T:=jK) (X':=λm H=>m=kK T.length∧H=cK (zh sc D T0 T1 T2 T3 ke A0 A1 A2 A3) lt ts none none (T++[.lst []])) (dt (.cons ((FP 5).sp HI hd hu rfl) .nil) .nil no) (Xp ⟨rfl,rfl⟩) ?_;refine jB.one (T:=ci) (X':=VH (zh sc D T0 T1 T2 T3 ke A0 A1 A2 A3) rows fin) (dt (.cons (W7.sp XJ hd hu rfl) (.cons (yU.sp XF hd hu rfl) (.cons (Bs.sp Ta hd hu rfl) (.cons ((Hb 5).sp HJ hd hu rfl) (.cons (Wl.sp XI hd hu rfl) (.cons lS (.cons Bh (.cons pP (.cons qN (.cons sr .nil)))))))))) (.cons mj (.cons ma .nil)) no) (Xo bu e14 (bn.tups (jX (fQ.app _)) r) tl bA) (jB.use λm H x=>?_);obtain⟨lt,ts,ck,cn,Z,j,ws,rfl,rfl,r,tl,hj,q,hw⟩:=x;refine jB.one (T:=lj) (X':=VH (zh sc D T0 T1 T2 T3 ke A0 A1 A2 A3) rows fin) (dt (.cons (Bs.sp Ta hd hu rfl) (.cons Bh .nil)) .nil no) (Xn hx p1 p2 λV=>⟨lt,ts,ck,cn,Z++V,j,ws,rfl,rfl,bn.tups (jX (fQ.app V)) r,tl,ba hj,bn.tups (jX (fQ.app V)) q,hw⟩) (jB.use λm H x=>?_);obtain⟨lt,ts,ck,cn,Z,j,ws,rfl,rfl,r,tl,hj,q,hw⟩:=x;refine jB.one (T:=qJ) (X':=Ũ (zh sc D T0 T1 T2 T3 ke A0 A1 A2 A3) rows fin) (dt (.cons (Wp ho XB TB hd hu rfl) .nil) .nil no) (Xm r tl ey λl5 V=>⟨lt,l5,ts,ck,cn,Z++V,j,ws,rfl,rfl,bn.tups zJ r,tl,ba hj,bn.tups zJ q,hw⟩) (jB.use λm H x=>?_);obtain⟨lt,l5,ts,ck,cn,Z,j,ws,rfl,rfl,r,tl,hj,q,hw⟩:=x;have nw:ws≠[]:=λi=>by
  subst i;exact ne (ch q.len.symm)
 refine jB.one (T:=iY) (X':=Ũ (zh sc D T0 T1 T2 T3 ke A0 A1 A2 A3) rows fin) (dt (.cons (Dm.sp zv hd hu rfl) (.cons (Og.sp HK hd hu rfl) (.cons FW .nil))) (.cons mu (.cons (jv (by kernel_rfl) λy y=>by kernel_rfl) (.cons (jv (by kernel_rfl) λy y=>by kernel_rfl) .nil))) no) (Xl r tl hj q hw ak nw λV=>⟨lt,l5,ts,ck,cn,Z++V,j,ws,rfl,rfl,bn.tups (lW (fQ.app V)) r,tl,ba hj,bn.tups (lW (fQ.app V)) q,hw⟩) (jB.use λm H x=>?_);obtain⟨lt,l5,ts,ck,cn,Z,j,ws,rfl,rfl,r,tl,hj,q,hw⟩:=x;have O:cF Γ oh:=dt (.cons Wd (.cons (Xy.sp XO hd hu rfl) (.cons (VX.sp XN hd hu rfl) .nil))) (.cons (jv (by kernel_rfl) λy y=>by kernel_rfl) (.cons (jv (by kernel_rfl) λy y=>by kernel_rfl) .nil)) no;have ev:=Ua O (gF O 27).1;exact jB.last O (Bi O ev (gF O 27).2) (gF O 27).2 (kY O 8) (Xk r tl hj q o1 o2 hn1 eq z1 z2)
end
variable{n:Int}{Y:AV->Hp->Prop}{ns:List Int}
variable{env:qk}
section
variable{D:aI}{vs:List ar}
inductive ò(T:f6)(D:aI)(xs:List AV)(ev:Ev)(en:En)(e:al)(m:Nm)(H:Hp)(K:KV):Prop
 |wk(h:ev en e m H K):ò T D xs ev en e m H K
 |sl(x:ax)(p1 p3 p4:kF)(e1:al)(he:e= .Subscript (.Name x p1) (.Slice none (some e1) none p3) p4)(hm:wi en T m H x=some (.val (.ref D)))(h:Js ev en (some e1) m H λhi H=>xs.length<=aF∧K (.ref H.length) (H++[.lst (jJ xs none hi none)])):ò T D xs ev en e m H K
theorem Ub(O:cF Γ T)(hev:g6 Γ ev)(hB:Γ.h₀.IsList D vs.toArray)(q:∀ρ,bB ρ xs vs):g6 Γ (ò T D xs ev):=λen env e m H K h=>by
 induction h with
 |wk h=>exact hev en env e m H K h
 |sl x p1 p3 p4 e1 he hm h=>
  refine he▸λρ P s Q E N R b=>?_
  refine Pp (sL O hm N R λv rv=>?_);obtain rfl:v= .ref D:=db.V (C:=λv=>v= .ref D) rv rfl;refine wpAny_Slice (wj hev (e:=none) (K:=λi H=>i=none∧Js ev en (some e1) m H λhi H=>xs.length<=aF∧K (.ref H.length) (H++[.lst (jJ xs none hi none)])) ⟨rfl,h⟩ N R λvl il H₂ ρ₂ s₂ x₂ pl z R₂ k=>wj hev k.2 (N.mono x₂) R₂ λvu iu H₃ ρ₃ s₃ x₃ pu z R₃ k3=>wj hev (e:=none) (K:=λi H=>i=none∧xs.length<=aF∧K (.ref H.length) (H++[.lst (jJ xs none iu none)])) ⟨rfl,k3⟩ ((N.mono x₂).mono x₃) R₃ λvt it H₄ ρ₄ s₄ x₄ pt z R₄ k4=>?_);obtain⟨rfl,hz,hk⟩:=k4;obtain⟨rfl,_⟩:=k;have q4:=q ρ₄;have l:s₄.heap.IsList D vs.toArray:=R₄.run λmm l F N fin=>Heap.IsList.at hB λo e=>F.keep _ o e
  have R':bM Γ ρ₄ P m H₄ {s₄ with heap:=s₄.heap.push {cls:=.type "slice",data:=.fields #[vl,vu,vt]},toks:=s₄.toks}:=R₄.run λmm l F N fin=>fin _ _ (F.push _) (N.pushKeep _)
  obtain⟨ops,hs⟩:=CH none (some e1) none p3 (.ref D) (.ref s₄.heap.objs.size);refine JJ (wX (s:={s₄ with heap:=s₄.heap.push {cls:=.type "slice",data:=.fields #[vl,vu,vt]}}) (l.push _)) vC.lookup
   (DM (st:=none) (l.push _) (vn ..) pl pu pt (λh=>aJ h) ?_ (show vs.length<=aF from q4.len▸hz)) hs
  refine R'.made (ok:=by exact λz z=>br) (b.ext ((x₂.trans x₃).trans x₄)) hk λmm l F N fin=>fin _ _ s₄.toks (λρ' x=>?_) (F.push _) (tD F N _)
  have e:E0 vs.toArray none iu none=((AH (i8 none iu none xs.length).1 (i8 none iu none xs.length).2.1 (i8 none iu none xs.length).2.2).filterMap (vs[·]?)).toArray:=by
   unfold E0;rw[b9,q4.len];simp only [bU]
  exact e▸ .lst 0 (jy (q4.mono x) _)
noncomputable abbrev AA:En:=⟨(fS (mS 32)).names,e_.reverse.zip [2,3,4,5,6,7,8,9,10,11,12,13],none⟩
noncomputable abbrev hA(cs:List (Option AV))(B:Hp):Hp:=.tab 300 []:: .tab 305 []::(cs.map AO.cell++B)
noncomputable abbrev mA(D:aI):Nm:=[(sS "script",.val (.ref D))]
noncomputable abbrev e0:al:=gL (lw 0)
noncomputable def ŷ:al->al
 |.Slice _ (some e) _ _=>e
 |e=>e
noncomputable def ă:al->al
 |.Subscript _ s _=>s
 |e=>e
noncomputable def L?:al->al
 |.Subscript v _ _=>v
 |e=>e
noncomputable def đ:al->kF
 |.Subscript _ _ p=>p
 |.Slice _ _ _ p=>p
 |.Name _ p=>p
 |_=>⟨0,0,0,0⟩
noncomputable abbrev Tc:al:=(g0 e0).iter
theorem Xf:Tc= .Subscript (.Name (sS "script") (đ (L? Tc))) (.Slice none (some (ŷ (ă Tc))) none (đ (ă Tc))) (đ Tc):=by kernel_rfl
noncomputable abbrev à:List (ax×Nat):=(qT AA.cl (nj e0).names []).getD []
abbrev j_(ev:Ev):En->Nm->Hp->(AV->Hp->Prop)->Prop:=λen m H K=>ev en (Xj e0) m H K
noncomputable abbrev cA(n:Option AV):List (Option AV):=[none,none,none,none,none,none,none,none,none,none,none,n]
theorem Xd{ex:Ex}:k5 AA s8 (yY s8 ev tr) tr ex (lw 0) (mA D) H (kg X)=v7 s8 ev AA Tc (mA D) H λits n H=>its.length<=aF∧pL n H λpn H=>jA tr (j_ ev) ⟨eU (nj e0) AA.nk,à,none⟩ (g0 e0).target (g0 e0).ifs pn its (mA D) H λys H=>fX pn H λH=>fb AA (sS "numbers") (.ref H.length) (mA D) (H++[.lst ys]) X:=by kernel_rfl
theorem Xc{L:Option Int->Hp->Prop}:Js (wk s8 27).1 AA (some (ŷ (ă Tc))) (mA D) H L=L (some 60) H:=by kernel_rfl
theorem Xb{N:Hp->Prop}:iv tr (j_ ev) ⟨eU (nj e0) AA.nk,à,none⟩ (g0 e0).target (g0 e0).ifs (.val (.int n)) (mA D) H Y N=ev ⟨eU (nj e0) AA.nk,à,some [(sS "x",.int n)]⟩ (Xj e0) (mA D) H λa H=>Y a H:=by kernel_rfl
theorem Xa{Y:KV}:(wk s8 27).1 ⟨eU (nj e0) AA.nk,à,some [(sS "x",.int n)]⟩ (Xj e0) (mA D) H Y=((1000000:Int)≠0∧Y (.int (n.fmod 1000000)) H):=by kernel_rfl
inductive X0(D:aI)(m:Nm)(H:Hp):Prop
 |mk(ys zs:List Int)(hz:zs.length<=1000)(em:m=mA D)(eh:H=hA (cA (some (.ref 15))) [.lst (ys.map .int),.lst (zs.map .int)]):X0 D m H
theorem Ĭ{ex:Ex}(hn:ns.length<=63):k5 AA s8 (yY s8 (ò s8 D (ns.map .int) (wk s8 27).1) (wk s8 27).2) (wk s8 27).2 ex (lw 0) (mA D) (hA (cA none) []) (kg (X0 D)):=by
 have e:jJ (ns.map .int) none (some 60) none=(ns.take (mX (ns.map AV.int).length 60)).map .int:=(n6 _ _ _).trans (jg).symm;have hl:(ns.take (mX (ns.map AV.int).length 60)).length<=63:=aq (Cm ..) hn;have uf:∀{n:Nat},n<=63->n<=aF:=λh=>aq h (ae rfl)
 refine kc (.pl (.sl (sS "script") _ _ _ _ Xf (by kernel_rfl) (kc (aQ (uf ((aD _).symm▸hn)) ?_) Xc))) Xd;rw[e];generalize ns.take (mX (ns.map AV.int).length 60)=ys at hl;unfold uz;refine aw (x:=AO.lst (ys.map .int)) rfl ?_;refine bX ⟨uf (by rw[aD,aD];exact hl),pM (H:=hA (cA none) []) (its:=[]) λo=>?_⟩;rw[da];refine ff (λn=>IT.val (.int n)) (λn:Int=>some (AV.int (n.fmod 1000000))) (λz=>True) (λP h=>u6 h) (λn z Y N y z=>kc (.wk (kc (aQ (by decide) (y _ rfl)) Xa)) Xb) ys _ (λz z=>br) ?_;refine uH ⟨ys,ys.map λn=>n.fmod 1000000,?_,rfl,?_⟩
 ·rw[aD];exact aq hl (by decide)
 ·rw[da]
  refine congrArg (λl=>hA (cA (some (.ref 15))) [.lst (ys.map .int),.lst l]) ?_;exact List.filterMap_eq_map▸rfl
theorem MX:(bV.cl.all λp=>match AA.cl.lookup p.1 with
  |some j=>(([14,0,1,2,3,4,5,6,7,8,9,10,11,12,13,15]:List Nat)[p.2]? ==some j)
  |none=>false)=true:=by kernel_rfl
set_option tactic.hygienic true in
theorem Ep(h0:Γ.h₀.IsList D vs.toArray)(q:∀ρ,bB ρ (ns.map .int) vs)(hn:ns.length<=63)(k:∀ys:List Int,jB Γ P bV (X1 (ys.map .int)) r):jB Γ P AA (λm H=>m=mA D∧H=hA (cA none) []) (lw 0::r):=.mk λρ m H s Q E e N R qq=>by
 have O:cF Γ s8:=dt .nil .nil λ_ _ e=>aJ e
 obtain⟨rfl,rfl⟩:=e;refine cy (nX O (Bi O (Ub O (gF O 27).1 h0 q) (gF O 27).2) (gF O 27).2 (kY O 8) (lw 0) _ _ _ (Ĭ hn) ρ P s _ E N R λf g m₁ H₁ ρ₁ s₁ x₁ r₁ R₁ y=>?_);induction r₁ with
 |next=>
  obtain⟨ys,zs,hz,rfl,rfl⟩:=y;refine R₁.pick (ns:=[14,0,1,2,3,4,5,6,7,8,9,10,11,12,13,15]) (m':=[]) (H':=Hr (ys.map .int) [] [] c1 [.lst (zs.map .int)]) (by decide) (.cons rfl (.wf (kI ys)) (.cons rfl (Oi _) (.cons rfl (Oi _) (.cons rfl n4 (.cons rfl n4 (.cons rfl n4 (.cons rfl n4 (.cons rfl n4 (.cons rfl n4 (.cons rfl n4 (.cons rfl n4 (.cons rfl n4 (.cons rfl n4 (.cons rfl n4 (.cons rfl (Fh rfl) (.cons rfl (.wf (kI zs)) .nil)))))))))))))))) .nil λρ' hr R'=>(k ys).go ρ' _ _ s₁ _ E ⟨zs,hz,rfl,rfl⟩ ⟨N.nk,N.kind,N.gl,N.bi,λx j e=>?_,N.frame,λl e=>aJ e⟩ R' qq
  have c:=aB.mp MX _ (jd e);cases e2:AA.cl.lookup x with
  |none=>rw[e2]at c;exact bj c
  |some i=>
   rw[e2]at c;obtain⟨a,e3,e4⟩:=(N.mono x₁).cl x i e2;exact⟨a,e3,hr j i a (bo c) e4⟩
 |_=>exact y.elim
end
variable{nv:Nm}{bs:List (ax×ar)}{objs:List dU}{vs:List ar}{o:AO}{ob:dU}{pT:eC}{lT:List ax}{L D:aI}{body:List cP}{mm:ax->Option ar}
section
theorem P8(hcl:Γ.cl=ew (Γ.L+1) Γ.cs.names []){cells:gO}(hs:∀x∈cj Γ.cs.names,(!jx Γ.cs.names x)=true)(ly:AD ρ P.rest H)(g:bT P.gb s.gens)(hd:s.drawn=Γ.s₀.drawn)(ho:s.os=Γ.s₀.os)(ro:eY w ρ H objs)(rb:cW ρ nv bs)(hn:(nv.map (·.1)).Nodup)(F':Fr Γ.h₀ Γ.L s.heap (bindL Γ.env.kindOf bs λz=>none))(N':dJ Γ.h₀ Γ.L s.heap (cells++(ρ.zip objs++P.rest)))(Y:A6 (bindC Γ.env.kindOf bs λz=>none) Γ.cl cells)(l1:∀p∈ρ.zip objs++P.rest,@rP Nat _ p.1 Γ.L):
  ∃τ,bM Γ (ρ++τ) P (hW Γ.cs.names nv) (H++iZ nv (cj Γ.cs.names)) s∧dC Γ (ρ++τ) P ⟨Γ.cs.names,yg (cj Γ.cs.names) H.length,none⟩ Γ.env:=by
 rw[hcl]at Y;have hcs:(ew (Γ.L+1) Γ.cs.names []).map (·.1)=cj Γ.cs.names:=oO _ _ [] [] rfl _;obtain⟨up1,up2⟩:=qU Γ.cs.names (Γ.L+1) (Γ.L+1) [] (bF _) .nil λp hp=>eN hp
 have hloc:∀p∈ew (Γ.L+1) Γ.cs.names [],p.1∈cj Γ.cs.names:=λp hp=>hcs▸cZ hp
 obtain⟨rc,ec⟩:=zZ (w:=w) (ρ:=ρ) (nm:=nv) (λx a e hx=>(Ad (nk:=Γ.cs.names) (λz=>rfl) rb hn _).2 x a (by simpa using hs x hx) e) Y hloc;rw[hcs]at rc;generalize hτ:(ew (Γ.L+1) Γ.cs.names []).map (·.2)=τ at ec;have x:dg ρ (ρ++τ):=⟨τ,rfl⟩;have hl:ρ.length=objs.length:=ly.ln.trans ro.len.symm;have lt:τ.length=(iZ nv (cj Γ.cs.names)).length:=by rw[<-hτ,<-hcs];unfold iZ;rw[aD,aD,aD]
 have far:∀D∈τ,@rP Nat _ Γ.L D:=λD hD=>by
  obtain⟨p,hp,rfl⟩:=bY.mp (hτ▸hD);exact up2 p hp
 refine⟨τ,⟨⟨_,objs++cells.map (·.2),F',λy a e=>?_,(ro.mono x).app (rc.mono x),λp hp=>N' p ?_⟩,ly.adds lt (hτ▸FB.mpr (up1.imp λh=>cu h)) (λD hD=>⟨λj b e=>?_,λp hp=>?_⟩) (λo ho=>?_),g,hd,ho⟩,⟨rfl,Γ.hk,rfl,rfl,λy j hy=>?_,λz=>rfl,λz h=>aJ h⟩⟩
 ·exact((Ac (λz=>rfl) rb hn _).2 y a e).imp λv k=>⟨k.1,k.2.mono x⟩
 ·rw[kP hl,<-ec,aA]at hp
  exact qF hp (λh=>Mn h) (λh=>av _ h) λh=>Dj h
 ·obtain⟨o,ho⟩:=gy hl e
  exact bc (dD (l1 _ (av _ ho)) (far D hD))
 ·exact bc (dD (l1 _ (au _ hp)) (far D hD))
 ·obtain⟨x,_,rfl⟩:=bY.mp ho
  exact λz=>br
 ·show ∃c,Γ.cl.lookup y=some c∧_
  rw[hcl];refine B2 hcs (λk p e=>?_) hy;rw[bp (ly.ln▸a9 _ _),ly.ln,bS,<-hτ,bv];exact congrArg (qc (·.2)) e
theorem EA(h:IntsAre vs ns)(ρ:List aI):bB ρ (ns.map .int) vs:=by
 induction h with
 |nil=>exact .nil
 |cons n t _ ih=>exact .cons (.int n t) ih
theorem Bg(r:de w ρ o ob):match o with
  |.tab _ _=>∃ps,ob=iD ps
  |_=>True:=by
 induction r with
 |tab h=>exact⟨_,rfl⟩
 |_=>exact br
theorem Sm{base:fk}{fa:aI}{cd:ar}{nm:ax}{sc:iS}{Q:lL->aC->Prop}{cells:gO}
  (hnm:nm=aa "law")(hb:body=fB (mS 32))(hsc:sc=fS (mS 32))(X:(hp w.params).In base)(T:JO pT lT mean mg mb base)(F:Fr base L s.heap mm)(hm:mm=bindL (nQ nm sc L fa cd).kindOf [(sS "script",.ref D)] λz=>none)(N:dJ base L s.heap (cells++[(305,iD #[]),(300,iD #[])]))(Y:A6 (bindC (nQ nm sc L fa cd).kindOf [(sS "script",.ref D)] λz=>none) (ew (L+1) sc.names []) cells)(lG:@rP Nat _ 305 L)(lH:@rP Nat _ 300 L)
  (lifted:base.IsList D vs.toArray)(hI:IntsAre vs ns)(hc:ns.length<=63)(pf:∀sc D,EW D->∀T0∈rE,∀T1∈rE,∀T2∈rE,∀T3∈rE,PF sc D T0 T1 T2 T3)
  (fin:∀s',bT s.gens s'.gens->s'.os=s.os->(∀b o,base.get? b=some o->s'.heap.get? b=some o)->(∃ps,s'.heap.get? 305=some (iD ps))->(∃ps,s'.heap.get? 300=some (iD ps))->Q (.ret (.bool true)) s'):
  aL (cJ w) (callerA.deeper (nQ nm sc L fa cd)) (kN body (nQ nm sc L fa cd)) Q (λz z=>False) s:=by
 subst hnm hb hsc hm
 let Γ:Wk w mean mg mb:=⟨pT,lT,302,7,some [],aa "law",fS (mS 32),L,fa,cd,ew (L+1) (fS (mS 32)).names [],[],callerA,base,base,s,below_caller _,X,T,by kernel_rfl,ae rfl,ae rfl⟩
 have y1:∀(j:Nat)(b:aI),([300,305]:List aI)[j]? =some b->∀i:Nat,([300,305]:List aI)[i]? =some b->i=j:=λj b e i f=>(mr (l:=([300,305]:List aI)) (aH.mp f).1 (by decide)).mp (f.trans e.symm)
 have y2:∀(j:Nat)(b:aI)(o:AO),([300,305]:List aI)[j]? =some b->([AO.tab 300 [],AO.tab 305 []]:Hp)[j]? =some o->okA o b:=λj b o e f=>match j,e,f with
  |0,e,f=>aj f▸(aj e).symm
  |1,e,f=>aj f▸(aj e).symm
  |_+2,e,_=>aJ e
 have y3:∀p∈cells++([(300,iD #[]),(305,iD #[])]++([]:gO)),p∈cells++[(305,iD #[]),(300,iD #[])]:=λp hp=>(aT.mp hp).elim (λh=>av _ h) λh=>au _ ((aE.mp h).elim (λe=>e▸af _ ah) λh=>(aE.mp h).elim (λe=>e▸ah) λh=>eN h)
 have y4:∀p∈([(300,iD #[]),(305,iD #[])]++([]:gO)),@rP Nat _ p.1 L:=λp hp=>(aE.mp hp).elim (λe=>e▸lH) λh=>(aE.mp h).elim (λe=>e▸lG) λh=>eN h
 obtain⟨τ,R,Ne⟩:=P8 (Γ:=Γ) (ρ:=[300,305]) (P:=⟨[],s.gens⟩) (H:=[.tab 300 [],.tab 305 []]) (s:=s) rfl (nv:=mA D) (bs:=[(sS "script",.ref D)]) (objs:=[iD #[],iD #[]]) (cells:=cells) (λx hx=>aB.mp (by kernel_rfl:((cj (fS (mS 32)).names).all λx=> !jx (fS (mS 32)).names x)=true) x hx) ⟨rfl,y1,λj b z p hp=>eN hp,y2⟩ (bT.refl _) rfl rfl (.cons (de.tab (vs:=[]) .nil) (.cons (de.tab (vs:=[]) .nil) .nil)) (cW.cons (.val (.ref D)) .nil) (show([sS "script"]:List ax).Nodup from eM.mpr ⟨λh=>eN h,.nil⟩) F (λp hp=>N p (y3 p hp)) Y y4;have e1:hW (fS (mS 32)).names (mA D)=mA D:=by kernel_rfl
 have e2:[AO.tab 300 [],.tab 305 []]++iZ (mA D) (cj (fS (mS 32)).names)=hA (cA none) []:=by kernel_rfl
 have e3:yg (cj (fS (mS 32)).names) 2=AA.cl:=by kernel_rfl
 have R2:bM Γ ([300,305]++τ) ⟨[],s.gens⟩ (mA D) (hA (cA none) []) s:=e1▸e2▸R;have En2:dC Γ ([300,305]++τ) ⟨[],s.gens⟩ AA Γ.env:=(show(⟨(fS (mS 32)).names,yg (cj (fS (mS 32)).names) 2,none⟩:En)=AA from congrArg (λc=>(⟨(fS (mS 32)).names,c,none⟩:En)) e3)▸Ne;rw[Sd];refine(Ep (Γ:=Γ) (D:=D) lifted (EA hI) hc λys=>Sn rfl X T (ae rfl) (ae rfl) (kI ys) (pf _)).go _ _ _ s Q _ ⟨rfl,rfl⟩ En2 R2 λm' H' ρ' s' R' f=>?_
 obtain⟨l3,l5,h1,h2⟩:=f;obtain⟨mm',objs',F',_,ro',N'⟩:=R'.dy;have tb:∀{i:Nat}{a:aI}{l:List (Nat×Nat×Nat)},H'[i]? =some (.tab a l)->∃ps,s'.heap.get? a=some (iD ps):=λ{i a l} h=>by
  obtain⟨b,hb⟩:∃b,ρ'[i]? =some b:=⟨_,bb (R'.ly.ln▸(aH.mp h).1)⟩;obtain rfl:b=a:=R'.ly.lo i b _ hb h;exact ro'.at h λob e2 r=>by
   obtain⟨ps,e⟩:∃ps,ob=iD ps:=Bg r;exact⟨ps,e▸(N' _ (av _ (dK hb e2))).1⟩
 exact fin s' R'.g R'.o F'.keep (tb h2) (tb h1)
end
end Mine.LW
section
set_option maxHeartbeats 4000000
set_option backward.match.sparseCases true
set_option tactic.hygienic true
namespace Mine
def Np(s₁:aC)(tabs:List (aI×aI))(r:rL)(s':aC):Prop:=
 r= .ok (.ret (.bool true))∧(∀b o,(ghostOf s₁.heap tabs).get? b=some o->s'.heap.get? b=some o)∧s'.os=s₁.os∧AllBare s'.gens∧GrownAll tabs s'.heap
theorem Gf{M:E6}{A:dR}{cd:FH}{s s₁:aC}{cw:ClaimW}{cl:ax->Option aI}{mean:jj->Option ar}{args:List WData}{tabs:List (aI×aI)}(hT:TabsAt tabs s₁.heap)(hr:∀a x,cw.raises a x=false)(hp:cw.post args (.bool true) args=true)
  (h:nM M A cd (Np s₁ tabs) s):nM M A cd (GoodWG cw cl mean args s₁) s:=
 codeAny_mono h λr s'⟨he,hk,hos,hg,hgr⟩=>by
  subst he;refine⟨.inl ⟨.bool true,.bool true,[],rfl,λz=>hr _ _,.bool true,hp,unshared_nil⟩,⟨λb o e=>?_,λb o e=>?_⟩,hos,hg⟩
  ·by_cases hb:b∈tabs.map (·.2)
   ·obtain⟨q,hq,rfl⟩:=bY.mp hb
    have e2:=(hT q hq).2;rw[e]at e2;obtain⟨ps,hP⟩:=hgr.get q hq;have eo:=aj e2;subst eo;exact .inr (.inl ⟨((hT q hq).1.tab (hT q hq).2).isCodeTable,rfl,#[],ps,rfl,by rw[Array.empty_append];exact hP⟩)
   ·exact .inl (hk b o (ghost_ne e hb))
  ·by_cases hb:b∈tabs.map (·.2)
   ·obtain⟨q,hq,rfl⟩:=bY.mp hb
    obtain⟨ps,hP⟩:=hgr.get q hq;exact⟨_,hP⟩
   ·exact⟨o,hk b o (ghost_ne e hb)⟩
theorem law_holds(pf:∀sc D,EW D->∀T0∈LW.rE,∀T1∈LW.rE,∀T2∈LW.rE,∀T3∈LW.rE,LW.PF sc D T0 T1 T2 T3):dd.Holds:=by
 refine holds_law Č λhwell=>?_
 refine holds_open (q:=vw) (loose:=lo) (Xt:=λs=>xlAt vw lv s&&recOk dd.row.records s) (XP:=XL vw lv) (Yf:=BO.obs) (Ya:=BO.val) (YP:=BO.says) (N:=3490) left BO.of BO.keeps (λs e=>xl_of s (Cp.mp e).1) XL.keeps (by rfl) (by rfl) (by rfl) (λs e=>recFacts_of (Cp.mp e).2) (by rfl) hwell (by decide+kernel) ⟨rfl,rfl,rfl,rfl,rfl,by decide+kernel⟩ ?hw ?hc
 case hw=>w_witness2
 case hc=>
  intro w s₀ s₁ mg mb G Y fa o pm cd doc dV kV ho hd hcd hD hmg hg args vals as hpre hlay hrd hwl hlo;have KX:=km_in_of Y
  km_tabs Y
  have X:=(Ground.X G).1;have V:=(Ground.X G).2;refine Ground.open G ?_;intro T B D TE TW
  try (refine guard_noD D (by decide+kernel) ?_;clear D)
  have hT9:TabsAt ([(309,305),(302,300)]:List (aI×aI)) _:=Co.mpr ⟨⟨yz (c:=309) (P:=305) KX (by kernel_rfl),hT8 305 (by k_mem)⟩,Co.mpr ⟨⟨yz (c:=302) (P:=300) KX (by kernel_rfl),hT8 300 (by k_mem)⟩,λ_ h=>nomatch h⟩⟩;clear hmg
  wrow_args hpre hlay hrd hwl hlo
  first|refine callC_kw (enter_call ?_)|refine enter_call ?_
  w_top on
  refine Gf hT9 (λ_ _=>rfl) (by wrow_post) ?_;have he:=Dflts.none hD rfl;subst he;have he:=Dflts.noKw hD;subst he;refine call_cellsN_ret (by decide) ho (fd_plain hd) (Top.nolimit T) hcd rfl (kinds_of (by kinds_ok)) (by decide) λh₁ tk₁ cells F N0 X0=>?_
  clear hd
  kn_ghosts F T
  k_drop
  rename_i ns hs1 hs2 hs3 hs4 hs5 as1 as2 D0 vs0 as3 hL0 ra0 wl0 rd0 hI0 hr0 hc1 hc2 XG TG KG FG CG1 NG lG;refine Mine.LW.Sm (by kernel_rfl) (by kernel_rfl) (by kernel_rfl) XG TG FG rfl NG X0 lG.1 lG.2 lifted hI0 (by omega) pf ?_;intro s' ge os F9 a b;obtain⟨ps,m5⟩:=a;obtain⟨ps',m3⟩:=b;exact⟨rfl,F9,os,ge.bare (AllBare.of_eq hg),⟨ps,m5⟩,⟨ps',m3⟩,br⟩
end Mine
end
namespace Mine.LW
variable{α:Type}
section
set_option backward.match.sparseCases true
noncomputable def tQ:List Nat->Bool->Bool
 |[],_=>true
 |_::r,true=>tQ r false
 |c::r,false=>bJ c 200&&tQ r (aW c 92)
noncomputable def ix:List Nat->Nat->Nat->Option Nat
 |[],_,_=>none
 |d::r,c,i=>bif aW d c then some i else ix r c (i+1)
noncomputable def sP(c:Nat)(u:List Nat):Bool:=match u with
 |[]=>false
 |d::r=>(match r with
  |[]=>aW d c
  |_::_=>false)
noncomputable def sj(T:List Nat)(a b:Nat):Option (List Nat):=bif aN a b&&aN b T.length then some ((T.drop a).take (b - a))else none
noncomputable def stN(T:List Nat):List (Nat×List Nat)->Nat->Option Nat->List Nat->Option (List Nat)
 |[],s,_,acc=>bif aN s T.length then some (acc++T.drop s)else none
 |o::r,s,op,acc=>bif sP 34 o.2 then(match op with
  |none=>stN T r s (some o.1) acc
  |some p=>(sj T s p).bind λc=>stN T r (o.1+1) none (acc++c))else stN T r s op acc
noncomputable def rS(T:List Nat):Option (List Nat):=bif T.any (aW · 34)then stN T (bz T 0 false) 0 none []else some T
noncomputable def pq:List (Nat×List Nat)->Nat->Bool
 |[],k=>aW k 0
 |o::r,k=>bif sP 40 o.2 then pq r (k+1)else bif sP 41 o.2 then(match k with
  |0=>false
  |k+1=>pq r k)else pq r k
noncomputable def GW(T:List Nat):Option Bool:=bif tQ T false then(rS T).bind λS=>bif tQ S false then some (pq (bz S 0 false) 0)else none else none
noncomputable def ō(T:List Nat):List Nat:=(bz T 0 false).filterMap λo=>bif sP 41 o.2 then some o.1 else none
noncomputable def æ(T:List Nat)(i:Nat):List Nat->Option Nat
 |[]=>none
 |e::r=>bif bJ i e then(sj T (i - 1) (e+1)).bind λS=>(GW S).bind λb=>bif b then some e else æ T i r else æ T i r
noncomputable def lN(T:List Nat)(c:Nat):Option Nat:=(ix T c 0).bind λi=>bif aN 1 i then æ T i (ō T)else none
noncomputable def d?(T:List Nat)(i e:Nat):List Nat:=T.take (i - 1)++([34]++((T.drop (i - 1)).take (e - (i - 1))++([34]++T.drop (e+1))))
noncomputable def W3(es:Nat->Nat):List Nat->List Nat->Option (List Nat)
 |[],T=>some T
 |c::r,T=>(ix T c 0).bind λi=>bif aN 1 i&&(aN (i - 1) (es c)&&(bJ (es c) T.length&&aN T.length 1000))then W3 es r (d? T i (es c))else none
noncomputable def rW(us:List (Nat×List Nat)):List Nat:=us.filterMap λo=>match o.2 with
 |[]=>none
 |d::r=>(match r with
  |[]=>bif aN 97 d&&bJ d 101 then some d else none
  |_::_=>none)
noncomputable def V4(u:List Nat):Bool:=match u with
 |[]=>false
 |d::r=>(match r with
  |[]=>bJ d 200&& !aW d 92
  |_::r=>aW d 92&&r.isEmpty)
noncomputable def fJ(us:List ax):List Nat:=us.flatMap λu=>u.cps.toList
noncomputable def V0(us:List ax):Bool:=aN us.length 100&&us.all λu=>V4 u.cps.toList
noncomputable def fN(c:Nat)(k:Nat->Bool):Bool:=match c with
 |0=>k 0
 |n+1=>k (n+1)
noncomputable def fL:List Nat->(List Nat->Bool)->Bool
 |[],k=>k []
 |c::r,k=>fN c λc=>fL r λr=>k (c::r)
noncomputable def fS(x:ax)(k:ax->Bool):Bool:=fL x.cps.toList λl=>k ⟨l.toArray⟩
noncomputable def fM{α:Type}(f:α->(α->Bool)->Bool):List α->(List α->Bool)->Bool
 |[],k=>k []
 |c::r,k=>f c λc=>fM f r λr=>k (c::r)
theorem kj(c:Nat)(k:Nat->Bool):fN c k=k c:=by cases c<;>rfl
theorem lu:∀(l:List Nat)(k:List Nat->Bool),fL l k=k l
 |[],_=>rfl
 |c::r,k=>(kj _ _).trans (lu r _)
theorem Y2(x:ax)(k:ax->Bool):fS x k=k x:=lu _ _
theorem wD{α:Type}{f:α->(α->Bool)->Bool}(h:∀a k,f a k=k a):∀(l:List α)(k:List α->Bool),fM f l k=k l
 |[],_=>rfl
 |c::r,k=>(h _ _).trans (wD h r _)
noncomputable def nO(k:Nat)(p:Bool):List ax:=bif p then[⟨#[92,200+k]⟩]else[]
noncomputable def cD(b c d:ax)(p0 p1 p2 p3:Bool):LD:=⟨[],0,0,0,0,b,c,d,nO 0 p0,nO 1 p1,nO 2 p2,nO 3 p3⟩
structure Bu where
 kp:ax
 ms:List Nat
 us:List (List Nat)
noncomputable def Rx(D:LD)(T:List Nat)(es:Nat->Nat)(B:Bu):Bool:=match W3 es B.ms T with
 |none=>false
 |some M=>fL M λM=>aN M.length 200&&(match rS M with
  |none=>false
  |some S=>fL S λS=>tQ M false&&(tQ S false&&(match ph (Jx (ij D) B.kp) (xw D) 5 (sS "")with
   |none=>false
   |some us=>V0 us&&((fJ us==S)&&(pq (bz S 0 false) 0&&(((bz S 0 false).map (·.2)).filter (λu=>aW u.length 1)==B.us))))))
noncomputable def Wh(D:LD)(as:List (Nat×List Nat))(bs:List Bu)(T:List Nat)(e0 e1 e2 e3:Nat):Bool:=(as.all λp=>match (ix T p.1 0).bind λi=>(sj T i ([e0,e1,e2,e3].getD (p.1 - 97) 0))with
  |none=>false
  |some S=>tQ S false&&(rW (bz S 0 false)==p.2))&&bs.all λB=>Rx D T (λc=>[e0,e1,e2,e3].getD (c - 97) 0) B
noncomputable def GX(o:Option (List Nat)):Bool:=match o with
 |none=>false
 |some T=>GW T==some false
noncomputable def Õ(D:LD)(as:List (Nat×List Nat))(od:List Nat)(bs:List Bu):Bool:=match ph (ij D) (xw D) 5 (sS "")with
 |none=>false
 |some us=>V0 us&&fL (fJ us) λT=>aN T.length 150&&(aN 1 T.length&&(tQ T false&&((rW (bz T 0 false)==od)&&((match lN T 97 with
  |none=>false
  |some e0=>fN e0 λe0=>(match lN T 98 with
   |none=>false
   |some e1=>fN e1 λe1=>(match lN T 99 with
    |none=>false
    |some e2=>fN e2 λe2=>(match lN T 100 with
     |none=>false
     |some e3=>fN e3 λe3=>Wh D as bs T e0 e1 e2 e3))))&&(GX (some (T.drop 1++[40]))&&GX (some (T.take (T.length - 1))))))))
noncomputable abbrev bL:List ax:=[sS "",cb 0]
noncomputable abbrev cL:List ax:=[cb 0,cb 1]
noncomputable abbrev dL:List ax:=[cb 0,cb 1,cb 2]
noncomputable abbrev tf:List Bool:=[true,false]
noncomputable def mB(D:LD):List Nat:=fJ ((ph (ij D) (xw D) 5 (sS "")).getD [])
noncomputable def Nf(D:LD):List (Nat×List Nat):=[97,98,99,100].map λc=>(c,rW (bz ((sj (mB D) ((ix (mB D) c 0).getD 0) ((lN (mB D) c).getD 0)).getD []) 0 false))
noncomputable def WK(D:LD):List Nat:=rW (bz (mB D) 0 false)
noncomputable def oZ(c:Nat):ax:=⟨#[c]⟩
noncomputable def P_(D:LD)(kp:ax):List Nat:=(WK D).reverse.filter λc=> !oo kp (oZ c)&&w8 (ij D) kp (oZ c)
noncomputable def UK(D:LD)(n:Int):Bool:=(vA (qM n)).all λc=>w8 (ij D) (qM n) c
noncomputable def î(D:LD)(n:Int):Bu:=⟨qM n,P_ D (qM n),(bz (fJ ((ph (Jx (ij D) (qM n)) (xw D) 5 (sS "")).getD [])) 0 false).map (·.2)⟩
noncomputable def m?(D:LD):List Bu:=(OA.filter (UK D)).map (î D)
noncomputable def j?(B:Bu)(k:Bu->Bool):Bool:=fS B.kp λkp=>fL B.ms λms=>fM fL B.us λus=>k ⟨kp,ms,us⟩
noncomputable def i_(p:Nat×List Nat)(k:Nat×List Nat->Bool):Bool:=fN p.1 λc=>fL p.2 λl=>k (c,l)
noncomputable abbrev bare(b c d:ax):LD:=cD b c d false false false false
noncomputable def li(b c d:ax)(p0:Bool):Bool:=fM i_ (Nf (bare b c d)) λas=>fL (WK (bare b c d)) λod=>fM j? (m? (bare b c d)) λbs=>tf.all λp1=>tf.all λp2=>tf.all λp3=>Õ (cD b c d p0 p1 p2 p3) as od bs
theorem all2{f:α->Bool}{a b:α}(h:f a=true)(k:f b=true):[a,b].all f=true:=aB.mpr λx hx=>(aE.mp hx).elim (λe=>e▸h) λhx=>a8.mp hx▸k
theorem Af{f:α->Bool}{a b c:α}(h:f a=true)(k:f b=true)(l:f c=true):[a,b,c].all f=true:=aB.mpr λx hx=>(aE.mp hx).elim (λe=>e▸h) (aB.mp (all2 k l) x)
theorem WX:(tf.all (li (sS "") (cb 0) (cb 0)))=true:=by kernel_rfl
theorem WW:(tf.all (li (sS "") (cb 0) (cb 1)))=true:=by kernel_rfl
theorem WV:(tf.all (li (sS "") (cb 0) (cb 2)))=true:=by kernel_rfl
theorem WU:(tf.all (li (sS "") (cb 1) (cb 0)))=true:=by kernel_rfl
theorem WT:(tf.all (li (sS "") (cb 1) (cb 1)))=true:=by kernel_rfl
theorem WS:(tf.all (li (sS "") (cb 1) (cb 2)))=true:=by kernel_rfl
theorem WR:(tf.all (li (cb 0) (cb 0) (cb 0)))=true:=by kernel_rfl
theorem WQ:(tf.all (li (cb 0) (cb 0) (cb 1)))=true:=by kernel_rfl
theorem WP:(tf.all (li (cb 0) (cb 0) (cb 2)))=true:=by kernel_rfl
theorem WO:(tf.all (li (cb 0) (cb 1) (cb 0)))=true:=by kernel_rfl
theorem RD:(tf.all (li (cb 0) (cb 1) (cb 1)))=true:=by kernel_rfl
theorem RC:(tf.all (li (cb 0) (cb 1) (cb 2)))=true:=by kernel_rfl
theorem Ha:(bL.all λb=>cL.all λc=>dL.all λd=>tf.all λp0=>li b c d p0)=true:=all2 (all2 (Af WX WW WV) (Af WU WT WS)) (all2 (Af WR WQ WP) (Af WO RD RC))
end
variable{a b:Nat}
section
set_option backward.match.sparseCases true
open PySem.Builtin
open PySem.Builtin.Str
structure Gd(g:Nat->Nat):Prop where
 lo:∀c,c<200->g c=c
 hi:∀c,200<=c->g c=40∨g c=41∨g c=92
noncomputable def rx(g:Nat->Nat)(T:List Nat):ax:=⟨(T.map g).toArray⟩
noncomputable def uG(g:Nat->Nat)(o:Nat×List Nat):Nat×List Nat:=(o.1,o.2.map g)
variable{g:Nat->Nat}{T:List Nat}
theorem pJ:(rx g T).length=T.length:=(b9 (as:=T.map g)).trans (aD _)
theorem ip{a b:ax}(h:a.cps.toList=b.cps.toList):a=b:=by
 cases a;cases b;exact congrArg Str.mk (Array.toList_inj.mp h)
theorem q7(a b:ax):(a++b).cps.toList=a.cps.toList++b.cps.toList:=Cq
theorem pK(S:List Nat):rx g T++rx g S=rx g (T++S):=ip (by rw[q7];exact b6.symm)
theorem uY(G:Gd g):∀(T:List Nat)(i:Nat)(b:Bool),tQ T b=true->bz (T.map g) i b=(bz T i b).map (uG g)
 |[],_,false,_=>rfl
 |[],i,true,_=>by
  show[(i - 1,[92])]=[(i - 1,[g 92])];rw[G.lo 92 (by decide)]
 |c::r,i,true,h=>by
  show(i,[92,g c])::bz (r.map g) (i+1) false=(i,[g 92,g c])::(bz r (i+1) false).map (uG g);rw[G.lo 92 (by decide),uY G r (i+1) false h]
 |c::r,i,false,h=>by
  have h:=(aM ..).mp (show(bJ c 200&&tQ r (aW c 92))=true from h);have e:=G.lo c (ae h.1);show(if g c=92 then bz (r.map g) (i+1) true else(i,[g c])::bz (r.map g) (i+1) false)=(if c=92 then bz r (i+1) true else(i,[c])::bz r (i+1) false).map (uG g);rw[e]
  by_cases q:c=92
  ·subst q
   rw[if_pos rfl,if_pos rfl];exact uY G r (i+1) true h.2
  ·rw[if_neg q,if_neg q,uY G r (i+1) false ((show aW c 92=false from co.mpr λz=>q (aZ z))▸h.2)]
   exact congrArg (λz=>(i,z)::_) (congrArg (λz=>[z]) e.symm)
noncomputable def Bc(u:List Nat):Bool:=match u with
 |[]=>false
 |d::r=>(match r with
  |[]=>bJ d 200
  |_::_=>true)
theorem nq:∀(T:List Nat)(i:Nat)(b:Bool),tQ T b=true->∀o∈bz T i b,Bc o.2=true
 |[],_,false,_=>λo h=>eN h
 |[],_,true,_=>λo h=>(a8.mp h)▸rfl
 |_::r,i,true,h=>λo ho=>(aE.mp ho).elim (λe=>e▸rfl) (nq r (i+1) false h o)
 |c::r,i,false,h=>λo ho=>by
  have h:=(aM ..).mp (show(bJ c 200&&tQ r (aW c 92))=true from h);have ho:o∈(if c=92 then bz r (i+1) true else(i,[c])::bz r (i+1) false):=ho
  by_cases q:c=92
  ·subst q
   rw[if_pos rfl]at ho;exact nq r (i+1) true h.2 o ho
  ·rw[if_neg q]at ho
   exact(aE.mp ho).elim (λe=>e▸h.1) (nq r (i+1) false ((show aW c 92=false from co.mpr λz=>q (aZ z))▸h.2) o)
theorem xP(u:List Nat)(c:Nat):decide (u=[c])=sP c u:=by
 cases u with
 |nil=>rfl
 |cons d r=>
  cases r with
  |nil=>exact gw.mpr ⟨λh=>(ca (of_decide_eq_true h)).1▸nR _,λh=>decide_eq_true (congrArg (λz=>[z]) (aZ h))⟩
  |cons=>exact decide_eq_false λh=>bf _ _ (ca h).2
theorem sO(G:Gd g){u:List Nat}(h:Bc u=true)(c:Nat):sP c (u.map g)=sP c u:=by
 cases u with
 |nil=>rfl
 |cons d r=>
  cases r with
  |nil=>exact congrArg (λz=>aW z c) (G.lo d (ae h))
  |cons=>rfl
theorem x9{S:List Nat}(h:sj T a b=some S):dk (rx g T) (some (a:Int)) (some (b:Int))=rx g S:=by
 unfold sj at h;cases e:aN a b&&aN b T.length with
 |false=>rw[e]at h;exact aJ h
 |true=>
  rw[e]at h;have e:=(aM ..).mp e;have hl:(rx g T).cps.toList.length=T.length:=aD _;refine(bo (slice_closes (x:=rx g T) ⟨cx a,fj.mpr (ae e.1),hl▸fj.mpr (ae e.2)⟩)).trans (ip ?_);rw[<-aj h];show(((T.map g).drop a).take ((b:Int) - (a:Int)).toNat)=((T.drop a).take (b - a)).map g;rw[jg,qh,Int.toNat_sub]
theorem xX(h:a<=T.length):dk (rx g T) (some (a:Int)) none=rx g (T.drop a):=by
 have hl:(rx g T).cps.toList.length=T.length:=aD _;refine(bo (slice_closes_from (x:=rx g T) ⟨cx a,hl▸fj.mpr h⟩)).trans (ip ?_);show(((T.map g).drop a).take (((T.map g).length:Int) - (a:Int)).toNat)=(T.drop a).map g;rw[Int.toNat_sub,qh,List.take_of_length_le (by rw[List.length_drop];exact bF _)]
theorem V7(h:b<=T.length):dk (rx g T) none (some (b:Int))=rx g (T.take b):=by
 have hl:(rx g T).cps.toList.length=T.length:=aD _;refine(bo (slice_closes_to (x:=rx g T) ⟨cx b,hl▸fj.mpr h⟩)).trans (ip ?_);show(((T.map g).drop 0).take ((b:Int) - 0).toNat)=(T.take b).map g;rw[AY,jg];rfl
theorem wA(ps:List ax)(a:ax):cq (sS "") (ps++[a])=cq (sS "") ps++a:=ip (by
 rw[q7,join_list,join_list,List.flatMap_append];exact congrArg _ (be _))
noncomputable abbrev b_(o:Option Nat):Option Int:=o.map um
theorem strip_go(G:Gd g):∀(r:List (Nat×List Nat))(s:Nat)(op:Option Nat)(acc S:List Nat)(rs:List ax),(∀o∈r,Bc o.2=true)->cq (sS "") rs=rx g acc->stN T r s op acc=some S->qv (rx g T) ((r.map (uG g)).foldl (fU (rx g T)) ((s:Int),b_ op,rs))=rx g S
 |[],s,op,acc,S,rs,_,hj,h=>by
  have h:(bif aN s T.length then some (acc++T.drop s)else none)=some S:=h;cases e:aN s T.length with
  |false=>rw[e]at h;exact aJ h
  |true=>
   rw[e]at h;have hs:=ae e;show cq (aa "") (if (s:Int)<((rx g T).length:Int)then rs++[dk (rx g T) (some (s:Int)) none]else rs)=_;rw[pJ,<-aj h,<-pK,<-hj]
   by_cases q:s<T.length
   ·rw[if_pos (dH.mpr q),xX hs]
    exact wA _ _
   ·rw[if_neg λz=>q (dH.mp z),List.drop_eq_nil_of_le (dm.mp q)]
    exact ip (by rw[q7];exact(be _).symm)
 |o::r,s,op,acc,S,rs,hu,hj,h=>by
  conv at h=>lhs;whnf
  have hu':∀p∈r,Bc p.2=true:=λp hp=>hu p (af _ hp)
  show qv (rx g T) ((r.map (uG g)).foldl (fU (rx g T)) (fU (rx g T) ((s:Int),b_ op,rs) (o.1,o.2.map g)))=_;unfold fU;have q:o.2.map g=[34]↔sP 34 o.2=true:=by
   rw[<-sO G (hu o ah),<-xP];exact decide_eq_true_iff.symm
  dsimp only;cases e:sP 34 o.2 with
  |false=>
   rw[e]at h q;rw[if_neg λz=>dO (q.mp z)];exact strip_go G r s op acc S rs hu' hj h
  |true=>
   rw[e]at h q;rw[if_pos (q.mpr rfl)];cases op with
   |none=>exact strip_go G r s (some o.1) acc S rs hu' hj h
   |some p=>
    refine bW h λc e1 h=>?_
    refine strip_go G r (o.1+1) none (acc++c) S _ hu' ?_ h;show cq (sS "") (if (s:Int)=um p then rs else rs++[dk (rx g T) (some (s:Int)) (some (um p))])=rx g (acc++c)
    by_cases z:(s:Int)=um p
    ·rw[if_pos z,hj]
     obtain rfl:s=p:=Fa z;unfold sj at e1;rw[fW]at e1;cases e2:aN s s&&aN s T.length with
     |false=>rw[e2]at e1;exact aJ e1
     |true=>
      rw[e2]at e1;rw[<-aj e1];exact congrArg (rx g) (be acc).symm
    ·rw[if_neg z,wA,hj,<-pK]
     exact congrArg _ (x9 e1)
end
variable{j:Nat}
section
set_option backward.match.sparseCases true
open PySem.Builtin
open PySem.Builtin.Str
variable{g:Nat->Nat}{T:List Nat}
theorem U?(G:Gd g)(c:Nat):aW (g c) 34=aW c 34:=by
 by_cases q:c<200
 ·rw[G.lo c q]
 ·have n:aW c 34=false:=co.mpr λz=>q (aZ z▸by decide)
  rw[n];rcases G.hi c (dm.mp q)with e|e|e<;>rw[e]<;>rfl
theorem C2(c:Nat):∀l:List Nat,decide (c∈l)=l.any (aW · c)
 |[]=>rfl
 |d::l=>by
  rw[qi,<-C2 c l];refine gw.mpr ⟨λh=>(jk ..).mpr ((aE.mp (of_decide_eq_true h)).imp (λe=>?_) decide_eq_true),λh=>decide_eq_true (aE.mpr (((jk ..).mp h).imp (λe=>(aZ e).symm) of_decide_eq_true))⟩;rw[e];exact nR _
theorem Ri(G:Gd g):qB (rx g T)= !T.any (aW · 34):=by
 unfold qB;rw[(by kernel_rfl:aa "\""=⟨#[34]⟩),empty_one];show(!decide (34∈T.map g))=_;rw[C2,List.any_map];exact congrArg Bool.not (congrArg (λf=>T.any f) (funext λc=>U? G c))
theorem yT(G:Gd g){S:List Nat}(ok:tQ T false=true)(h:rS T=some S):eR (rx g T)=rx g S:=by
 unfold rS at h;unfold eR;rw[Ri G];cases e:T.any (aW · 34)with
 |false=>rw[e]at h;rw[if_pos (by rfl)];exact congrArg (rx g) (aj h)
 |true=>
  rw[e]at h;rw[if_neg (by decide)];unfold kS;rw[tE];show qv (rx g T) ((bz (T.map g) 0 false).foldl (fU (rx g T)) (0,none,[]))=_;rw[uY G T 0 false ok];exact strip_go G (bz T 0 false) 0 none [] S [] (nq T 0 false ok) (ip (join_list [])) h
theorem GQ(G:Gd g):∀(r:List (Nat×List Nat))(k:Nat),(∀o∈r,Bc o.2=true)->nC (r.map (uG g)) (k:Int)=pq r k
 |[],k,_=>gw.mpr ⟨λh=>(Fa (bo h):k=0)▸rfl,λh=>(aZ h:k=0)▸rfl⟩
 |o::r,k,hu=>by
  have hr:=λk=>GQ G r k λp hp=>hu p (af _ hp)
  have ho:=hu o ah;show(bif decide (o.2.map g=[40])then nC (r.map (uG g)) ((k:Int)+1)else bif decide (o.2.map g=[41])then(bif decide ((k:Int) - 1<0)then false else nC (r.map (uG g)) ((k:Int) - 1))else nC (r.map (uG g)) (k:Int))=pq (o::r) k
  conv=>lhs;whnf
  rw[xP,xP,sO G ho,sO G ho,hr k,show((k:Int)+1)=((k+1:Nat):Int)from rfl,hr (k+1)];cases k with
  |zero=>rfl
  |succ k=>
   rw[show(((k+1:Nat):Int) - 1)=(k:Int)from rR (k:Int) 1,hr k,decide_eq_false (nV.mpr (cx k))];rfl
theorem GV(G:Gd g){b:Bool}(h:GW T=some b):jF (rx g T)=b:=by
 unfold GW at h;cases e:tQ T false with
 |false=>rw[e]at h;exact aJ h
 |true=>
  rw[e]at h;refine bW h λS e1 h=>?_
  cases e2:tQ S false with
  |false=>rw[e2]at h;exact aJ h
  |true=>
   rw[e2]at h;unfold jF;rw[yT G e e1];show nC (bz (S.map g) 0 false) 0=b;rw[uY G S 0 false e2];exact(GQ G _ 0 (nq S 0 false e2)).trans (aj h)
theorem Df{c:Nat}:∀(l:List Nat)(k:Nat),(∀i:Nat,l[i]? ≠some c)->ix l c k=none
 |[],_,_=>rfl
 |d::l,k,h=>by
  unfold ix;rw[show aW d c=false from co.mpr λe=>h 0 (congrArg some (aZ e))];exact Df l (k+1) λi=>h (i+1)
theorem De{c:Nat}:∀(l:List Nat)(k i:Nat),l[i]? =some c->(∀j,j<i->l[j]? ≠some c)->ix l c k=some (k+i)
 |[],_,_,h,_=>mz h
 |d::l,k,i,h,hn=>by
  unfold ix;cases i with
  |zero=>rw[aj h,nR];rfl
  |succ i=>
   rw[show aW d c=false from co.mpr λe=>hn 0 (jM i) (congrArg some (aZ e))];exact(De l (k+1) i h λj hj=>hn (j+1) (Nat.succ_lt_succ hj)).trans (congrArg some (cC k i))
theorem Ru(x:ax)(c:Nat):oX x ⟨#[c]⟩=ix x.cps.toList c 0:=by
 have at1:=StrLaws.subAt_one x c;unfold oX;rcases StrLaws.occ_head x ⟨#[c]⟩ 1 (bF 1)with ⟨h0,hn⟩|⟨i,r,h0,hi,hn⟩
 ·rw[h0]
  exact(Df _ 0 λi e=>hn i ((at1 i).mpr e)).symm
 ·rw[h0]
  exact((De _ 0 i ((at1 i).mp hi) λj hj e=>hn j hj ((at1 j).mpr e)).trans (congrArg some (fi i))).symm
theorem XX(G:Gd g){c:Nat}(h1:c<200)(h2:(c==40||(c==41||c==92))=false):∀(T:List Nat)(k:Nat),ix (T.map g) c k=ix T c k
 |[],_=>rfl
 |d::T,k=>by
  have e:aW (g d) c=aW d c:=by
   by_cases q:d<200
   ·rw[G.lo d q]
   ·have n:aW d c=false:=co.mpr λz=>q (aZ z▸h1)
    rw[n];refine co.mpr λz=>dO (h2.symm.trans ?_)
    rw[<-aZ z];rcases G.hi d (dm.mp q)with e|e|e<;>rw[e]<;>rfl
  show(bif aW (g d) c then some k else ix (T.map g) c (k+1))=_;rw[e,XX G h1 h2 T (k+1)];rfl
theorem By(G:Gd g)(hj:j<4):oX (rx g T) (cb j)=ix T (97+j) 0:=by
 refine(Ru (rx g T) (97+j)).trans (XX G (dD (g8 hj 97) (by decide)) ?_ T 0)
 match j,hj with
 |0,_=>rfl
 |1,_=>rfl
 |2,_=>rfl
 |3,_=>rfl
end
variable{β:Type}{e i:Nat}{kvs ke:List (ax×AV)}{c:AV}
section
set_option backward.match.sparseCases true
variable{g:Nat->Nat}{T:List Nat}
theorem Gb(u:List Nat)(c:Nat):((⟨u.toArray⟩:ax)==⟨#[c]⟩)=sP c u:=by
 rw[<-xP];exact gw.mpr (by simp)
theorem Ga(u:List Nat)(c:Nat):((⟨#[c]⟩:ax)==⟨u.toArray⟩)=sP c u:=by rw[BEq.comm];exact Gb u c
theorem Ij(G:Gd g)(ok:tQ T false=true){F:Int×ax->Option β}{f:Nat×List Nat->Option β}(h:∀o,Bc o.2=true->F ((o.1:Int),⟨(o.2.map g).toArray⟩)=f o):(iN (rx g T)).filterMap F=(bz T 0 false).filterMap f:=by
 have e:iN (rx g T)=(bz T 0 false).map λo=>((o.1:Int),(⟨(o.2.map g).toArray⟩:ax)):=by
  show((bz (T.map g) 0 false).map λo=>((o.1:Int),(⟨o.2.toArray⟩:ax)))=_;rw[uY G T 0 false ok,da];rfl
 rw[e,E9];have hu:=nq T 0 false ok;generalize bz T 0 false=l at hu;induction l with
 |nil=>rfl
 |cons o l ih=>
  rw[ce,ce,ih λp hp=>hu p (af _ hp)];show(match F ((o.1:Int),⟨(o.2.map g).toArray⟩)with|none=>_|some b=>_)=_;rw[h o (hu o ah)];cases f o<;>rfl
theorem UJ(G:Gd g)(ok:tQ T false=true):ky (rx g T)=(ō T).map λe:Nat=>AV.int (e:Int):=by
 unfold ky ō;rw[Ij G ok (f:=λo=>bif sP 41 o.2 then some (AV.int (o.1:Int))else none) λo ho=>?_,E7]
 ·refine congrArg (λf=>v9 f (bz T 0 false)) (funext λo=>?_)
  cases sP 41 o.2<;>rfl
 ·show(bif (⟨(o.2.map g).toArray⟩:ax)==aa ")" then some (AV.int (o.1:Int))else none)=_
  rw[(by kernel_rfl:aa ")"=⟨#[41]⟩),Gb,sO G ho]
theorem Im(G:Gd g){j i:Nat}(hj:j<4)(hi:ix T (97+j) 0=some i)(h1:1<=i):∀(r:List Nat)(e:Nat)(kvs:List (ax×AV)),kvs.length<=1000->æ T i r=some e->nz (rx g T) (cb j) (r.map λe:Nat=>AV.int (e:Int)) kvs=some (kt kvs (cb j) (.int (e:Int)))
 |[],_,_,_,h=>aJ h
 |c::r,e,kvs,hk,h=>by
  conv at h=>lhs;whnf
  show(oX (rx g T) (cb j)).bind (λi=>bif decide ((i:Int)<(c:Int))&&jF (sl (rx g T) (some ((i:Int) - 1)) (some ((c:Int)+1)))then(bif aN kvs.length 1000 then some (kt kvs (cb j) (.int (c:Int)))else none)else nz (rx g T) (cb j) (r.map λe:Nat=>AV.int (e:Int)) kvs)=_;rw[By G hj,hi];show(bif decide ((i:Int)<(c:Int))&&jF (sl (rx g T) (some ((i:Int) - 1)) (some ((c:Int)+1)))then(bif aN kvs.length 1000 then some (kt kvs (cb j) (.int (c:Int)))else none)else nz (rx g T) (cb j) (r.map λe:Nat=>AV.int (e:Int)) kvs)=_;have ei:((i:Int) - 1)=((i - 1:Nat):Int):=(m7 h1).symm;cases q:bJ i c with
  |false=>
   rw[q]at h;rw[decide_eq_false λz=>dO (q.symm.trans (bk (dH.mp z)))];exact Im G hj hi h1 r e kvs hk h
  |true=>
   rw[q]at h;rw[decide_eq_true (dH.mpr (ae q)),Bool.true_and,ei,show((c:Int)+1)=((c+1:Nat):Int)from rfl];refine bW h λS e1 h=>bW h λb e2 h=>?_
   rw[show sl (rx g T) (some ((i - 1:Nat):Int)) (some ((c+1:Nat):Int))=rx g S from x9 e1,GV G e2];cases b with
   |true=>
    rw[bk hk];exact congrArg (λz:Nat=>some (kt kvs (cb j) (.int (z:Int)))) (aj h)
   |false=>exact Im G hj hi h1 r e kvs hk h
theorem x7(G:Gd g)(ok:tQ T false=true)(hj:j<4)(hk:kvs.length<=1000)(h:lN T (97+j)=some e):nz (rx g T) (cb j) (ky (rx g T)) kvs=some (kt kvs (cb j) (.int (e:Int))):=by
 unfold lN at h;refine bW h λi e1 h=>?_
 cases q:aN 1 i with
 |false=>rw[q]at h;exact aJ h
 |true=>
  rw[q]at h;rw[UJ G ok];exact Im G hj e1 (ae q) _ e kvs hk h
noncomputable abbrev XW(e0 e1 e2 e3:Nat):List (ax×AV):=[(cb 0,.int (e0:Int)),(cb 1,.int (e1:Int)),(cb 2,.int (e2:Int)),(cb 3,.int (e3:Int))]
theorem Ċ{a:AV}:kt [] (cb 0) a=[(cb 0,a)]:=by kernel_rfl
theorem ĉ{a b:AV}:kt [(cb 0,a)] (cb 1) b=[(cb 0,a),(cb 1,b)]:=by kernel_rfl
theorem Ĉ{a b:AV}:kt [(cb 0,a),(cb 1,b)] (cb 2) c=[(cb 0,a),(cb 1,b),(cb 2,c)]:=by kernel_rfl
theorem ć{a b d:AV}:kt [(cb 0,a),(cb 1,b),(cb 2,c)] (cb 3) d=[(cb 0,a),(cb 1,b),(cb 2,c),(cb 3,d)]:=by kernel_rfl
theorem MI(G:Gd g)(ok:tQ T false=true){e0 e1 e2 e3:Nat}(h0:lN T 97=some e0)(h1:lN T 98=some e1)(h2:lN T 99=some e2)(h3:lN T 100=some e3):sR (rx g T)=some (XW e0 e1 e2 e3):=by
 unfold sR;have z:wG (rx g T) (ky (rx g T)) pX []=some (XW e0 e1 e2 e3):=by
  show(nz (rx g T) (cb 0) (ky (rx g T)) []).bind (λk=>(nz (rx g T) (cb 1) (ky (rx g T)) k).bind λk=>(nz (rx g T) (cb 2) (ky (rx g T)) k).bind λk=>(nz (rx g T) (cb 3) (ky (rx g T)) k).bind λk=>some k)=_;rw[x7 G ok (j:=0) (by decide) (bC _) h0,Ċ];show(nz (rx g T) (cb 1) (ky (rx g T)) [(cb 0,.int (e0:Int))]).bind (λk=>(nz (rx g T) (cb 2) (ky (rx g T)) k).bind λk=>(nz (rx g T) (cb 3) (ky (rx g T)) k).bind λk=>some k)=_;rw[x7 G ok (j:=1) (by decide) (ae rfl) h1,ĉ];show(nz (rx g T) (cb 2) (ky (rx g T)) [(cb 0,.int (e0:Int)),(cb 1,.int (e1:Int))]).bind (λk=>(nz (rx g T) (cb 3) (ky (rx g T)) k).bind λk=>some k)=_;rw[x7 G ok (j:=2) (by decide) (ae rfl) h2,Ĉ];show(nz (rx g T) (cb 3) (ky (rx g T)) [(cb 0,.int (e0:Int)),(cb 1,.int (e1:Int)),(cb 2,.int (e2:Int))]).bind (λk=>some k)=_;rw[x7 G ok (j:=3) (by decide) (ae rfl) h3,ć];rfl
 rw[z];rfl
theorem Tf(u:List Nat):vZ ⟨u.toArray⟩=(sP 97 u||(sP 98 u||(sP 99 u||sP 100 u))):=by
 show((⟨#[97]⟩:ax)==⟨u.toArray⟩||((⟨#[98]⟩:ax)==⟨u.toArray⟩||((⟨#[99]⟩:ax)==⟨u.toArray⟩||((⟨#[100]⟩:ax)==⟨u.toArray⟩||false))))=_;rw[Ga,Ga,Ga,Ga,Py]
theorem ġ(d:Nat):(aW d 97||(aW d 98||(aW d 99||aW d 100)))=(aN 97 d&&bJ d 101):=by
 by_cases h:d<101
 ·exact(aB.mp (by kernel_rfl:((cQ 101).all λd=>(aW d 97||(aW d 98||(aW d 99||aW d 100)))==(aN 97 d&&bJ d 101))=true) d (dM.mpr h)|>bo)
 ·have n:∀c,c<101->aW d c=false:=λc hc=>co.mpr λz=>h (aZ z▸hc)
  rw[n 97 (by decide),n 98 (by decide),n 99 (by decide),n 100 (by decide),show bJ d 101=false from co.mpr λz=>h (ae z),NW];rfl
theorem C8(G:Gd g)(ok:tQ T false=true):((iN (rx g T)).map (·.2)).filter vZ=(rW (bz T 0 false)).map oZ:=by
 have e:((iN (rx g T)).map (·.2)).filter vZ=(iN (rx g T)).filterMap λp=>bif vZ p.2 then some p.2 else none:=by
  generalize iN (rx g T)=l;induction l with
  |nil=>rfl
  |cons p l ih=>
   rw[gM,f8,ce,ih];cases vZ p.2<;>rfl
 unfold rW;rw[e,E7];refine Ij G ok λo ho=>?_
 show(bif vZ ⟨(o.2.map g).toArray⟩then some (⟨(o.2.map g).toArray⟩:ax)else none)=_;rw[Tf,sO G ho,sO G ho,sO G ho,sO G ho];obtain⟨n,u⟩:=o;cases u with
 |nil=>rfl
 |cons d r=>
  cases r with
  |cons=>rfl
  |nil=>
   show(bif aW d 97||(aW d 98||(aW d 99||aW d 100))then some (⟨#[g d]⟩:ax)else none)=qc oZ (bif aN 97 d&&bJ d 101 then some d else none);rw[ġ,G.lo d (ae ho)];cases aN 97 d&&bJ d 101<;>rfl
theorem ZL(G:Gd g){S:List Nat}(hj:j<4)(h1:ix T (97+j) 0=some i)(h2:ke.lookup (cb j)=some (.int (e:Int)))(h3:sj T i e=some S)(ok:tQ S false=true):Fw (rx g T) ke (cb j)=some ((rW (bz S 0 false)).map oZ):=by
 unfold Fw;rw[By G hj,h1,h2];show some (((iN (sl (rx g T) (some (i:Int)) (some (e:Int)))).map (·.2)).filter vZ)=_;rw[show sl (rx g T) (some (i:Int)) (some (e:Int))=rx g S from x9 h3,C8 G ok]
end
section
set_option backward.match.sparseCases true
variable{g:Nat->Nat}{T:List Nat}
noncomputable def jc(g:Nat->Nat)(u:ax):ax:=rx g u.cps.toList
theorem tX(us:List ax):cq (sS "") (us.map (jc g))=rx g (fJ us):=ip (by
 rw[join_list,Jg];show _=(us.flatMap λu=>u.cps.toList).map g;rw[List.map_flatMap]
 rfl)
noncomputable def xd(u:List Nat):Bool:=match u with
 |[]=>false
 |d::r=>(match r with
  |[]=> !aW d 92
  |_::r=>aW d 92&&r.isEmpty)
theorem V3(G:Gd g){u:List Nat}(h:V4 u=true):xd (u.map g)=true:=by
 cases u with
 |nil=>exact h
 |cons d r=>
  cases r with
  |nil=>
   have h:=(aM ..).mp (show(bJ d 200&& !aW d 92)=true from h);show(!aW (g d) 92)=true;rw[G.lo d (ae h.1)];exact h.2
  |cons x r=>
   have h:=(aM ..).mp (show(aW d 92&&r.isEmpty)=true from h);show(aW (g d) 92&&(r.map g).isEmpty)=true;rw[aZ h.1,G.lo 92 (by decide)];cases r with
   |nil=>rfl
   |cons=>exact bj h.2
noncomputable def Oo:List ax->Nat->List (Nat×List Nat)
 |[],_=>[]
 |u::r,i=>(i+u.cps.toList.length - 1,u.cps.toList)::Oo r (i+u.cps.toList.length)
theorem sf:∀(us:List ax)(r:List Nat)(i:Nat),(∀u∈us,xd u.cps.toList=true)->bz (fJ us++r) i false=Oo us i++bz r (i+(fJ us).length) false
 |[],_,_,_=>rfl
 |u::us,r,i,h=>by
  have hu:=h u ah;have ih:=λj=>sf us r j λv hv=>h v (af _ hv)
  have e:fJ (u::us)=u.cps.toList++fJ us:=rfl;rw[e];simp only [Oo];generalize u.cps.toList=l at hu;cases l with
  |nil=>exact bj hu
  |cons d q=>
   cases q with
   |nil=>
    have n:d≠92:=λz=>dO ((by rw[z];rfl:false= !aW d 92).trans hu)
    show(if d=92 then bz (fJ us++r) (i+1) true else(i,[d])::bz (fJ us++r) (i+1) false)=(i,[d])::(Oo us (i+1)++bz r (i+((fJ us).length+1)) false);rw[if_neg n,ih (i+1),d4 (fJ us).length 1,<-cU]
   |cons x q=>
    have hu:=(aM ..).mp (show(aW d 92&&q.isEmpty)=true from hu);obtain rfl:=aZ hu.1;cases q with
    |cons=>exact bj hu.2
    |nil=>
     show(i+1,[92,x])::bz (fJ us++r) (i+1+1) false=(i+1,[92,x])::(Oo us (i+2)++bz r (i+((fJ us).length+2)) false);rw[ih (i+1+1),d4 (fJ us).length 2,<-cU]
theorem xc{u:List Nat}(h:xd u=true):1<=u.length∧u.length<=2:=by
 cases u with
 |nil=>exact bj h
 |cons d q=>
  cases q with
  |nil=>exact⟨bF _,gH _⟩
  |cons x q=>
   have h:=(aM ..).mp (show(aW d 92&&q.isEmpty)=true from h);cases q with
   |cons=>exact bj h.2
   |nil=>exact⟨gH _,bF _⟩
noncomputable abbrev Kg(o:Nat×List Nat):Int×ax:=((o.1:Int),⟨o.2.toArray⟩)
theorem On:∀(us:List ax)(i:Nat),(∀u∈us,xd u.cps.toList=true)->(Oo us i).map Kg=(cQ us.length).map λk=>((i:Int)+((fJ (us.take (k+1))).length:Int) - 1,us.getD k (sS ""))
 |[],_,_=>rfl
 |u::us,i,h=>by
  rw[iW,Au,gM,da];unfold Oo;rw[gM,On us _ λv hv=>h v (af _ hv)];have l1:=(xc (h u ah)).1;refine congr (congrArg List.cons (Cf ?_ ?_)) (fR λk z=>Cf ?_ rfl)
  ·show((i+u.cps.toList.length - 1:Nat):Int)=(i:Int)+((u.cps.toList++[]).length:Int) - 1
   rw[be,m7 (aq l1 (eP _ _))];rfl
  ·exact ip rfl
  ·show((i+u.cps.toList.length:Nat):Int)+((fJ (us.take (k+1))).length:Int) - 1=(i:Int)+((u.cps.toList++fJ (us.take (k+1))).length:Int) - 1
   rw[aK,NR,NR,Int.add_assoc]
theorem F0{us:List ax}(h:∀u∈us,xd u.cps.toList=true):(iN (cq (sS "") us)).map (·.2)=us:=by
 show(((bz (cq (sS "") us).cps.toList 0 false).map Kg).map (·.2))=us;rw[join_list];have e:=sf us [] 0 h;rw[be]at e;rw[show(us.flatMap λs=>s.cps.toList)=fJ us from rfl,e,b6,b6];show((Oo us 0).map Kg).map (·.2)++[]=us;rw[be];generalize 0=i;clear e;induction us generalizing i with
 |nil=>rfl
 |cons u us ih=>
  exact congr (congrArg List.cons (ip rfl)) (ih (λv hv=>h v (af _ hv)) _)
theorem Y8{us:List ax}(h:∀u∈us,xd u.cps.toList=true):iN (cq (sS "") us++sS "\\")=Fj us (cq (sS "") us):=by
 have e1:(cq (sS "") us++sS "\\").cps.toList=fJ us++[92]:=by rw[q7,join_list];rfl
 have ln:∀us:List ax,(cq (sS "") us).length=(fJ us).length:=λus=>by
  show _=(us.flatMap λs=>s.cps.toList).length;rw[<-join_list];exact cG.symm
 show((bz (cq (sS "") us++sS "\\").cps.toList 0 false).map Kg)=_;rw[e1,sf us [92] 0 h,b6,On us 0 h];unfold Fj;refine congr (congrArg HAppend.hAppend (fR λk z=>Cf ?_ rfl)) ?_
 ·show(0:Int)+_ - 1=_ - 1
  rw[Int.zero_add,ln]
 ·rw[ln]
  show[(((0+(fJ us).length+1 - 1:Nat):Int),(⟨#[92]⟩:ax))]=_;rw[rO,fi];rfl
theorem Cu{us:List ax}(hl:us.length<=100)(h:∀u∈us,xd u.cps.toList=true):Aj us:=⟨hl,λu hu=>aq (bP cG.symm) (aq (xc (h u hu)).2 (by decide))⟩
theorem BD(us vs:List ax):(us++vs).map (jc g)=us.map (jc g)++vs.map (jc g):=b6
theorem Hd{kva:List (ax×AV)}{G1 G2:ax->Option (List ax)}{x:ax}(h:∀y,jc g y=y->G2 y=(G1 y).map (g9 (jc g))):∀(r us:List ax),(∀y∈r,jc g y=y)->qD kva G2 x r (us.map (jc g))=(qD kva G1 x r us).map (g9 (jc g))
 |[],_,_=>rfl
 |y::r,us,hr=>by
  have ih:=λus=>Hd (kva:=kva) (x:=x) h r us λz hz=>hr z (af _ hz)
  show(kva.lookup y).bind (λa=>(gX a).bind λa=>bif a==x then(G2 y).bind λz=>bif aN (us.map (jc g)).length 1000&&aN z.length 1000 then qD kva G2 x r (us.map (jc g)++z)else none else qD kva G2 x r (us.map (jc g)))=((kva.lookup y).bind λa=>(gX a).bind λa=>bif a==x then(G1 y).bind λz=>bif aN us.length 1000&&aN z.length 1000 then qD kva G1 x r (us++z)else none else qD kva G1 x r us).map (g9 (jc g));cases kva.lookup y with
  |none=>rfl
  |some a=>
   cases e1:gX a with
   |none=>show(gX a).bind _=((gX a).bind _).map _;rw[e1];rfl
   |some a'=>
    show(gX a).bind _=((gX a).bind _).map _;rw[e1];show(bif a'==x then(G2 y).bind λz=>bif aN (us.map (jc g)).length 1000&&aN z.length 1000 then qD kva G2 x r (us.map (jc g)++z)else none else qD kva G2 x r (us.map (jc g)))=(bif a'==x then(G1 y).bind λz=>bif aN us.length 1000&&aN z.length 1000 then qD kva G1 x r (us++z)else none else qD kva G1 x r us).map (g9 (jc g));cases a'==x with
    |false=>exact ih us
    |true=>
     show(G2 y).bind _=((G1 y).bind _).map _;rw[h y (hr y ah)];cases G1 y with
     |none=>rfl
     |some z=>
      show(bif aN (us.map (jc g)).length 1000&&aN (z.map (jc g)).length 1000 then qD kva G2 x r (us.map (jc g)++z.map (jc g))else none)=(bif aN us.length 1000&&aN z.length 1000 then qD kva G1 x r (us++z)else none).map (g9 (jc g));rw[aD,aD];cases aN us.length 1000&&aN z.length 1000 with
      |false=>rfl
      |true=>rw[<-BD];exact ih _
theorem Ou(G:Gd g):jc g Ay=Ay:=ip (congrArg (λz=>[z]) (G.lo 40 (by decide)))
theorem Zq(G:Gd g):jc g EK=EK:=ip (congrArg (λz=>[z]) (G.lo 41 (by decide)))
theorem BB(G:Gd g){kva:List (ax×AV)}{P1 P2:ax->Option (List ax)}(hk:∀y∈kva.map (·.1),jc g y=y)(h:∀y,P2 y=(P1 y).map (g9 (jc g))):∀(f:Nat)(x:ax),jc g x=x->ph kva P2 f x=(ph kva P1 f x).map (g9 (jc g))
 |0,_,_=>rfl
 |f+1,x,hx=>by
  have ih:=λy hy=>BB G hk h f y hy
  show(bif aN x.length 1000 then(bif x.length != 0 then(P2 x).bind λl=>bif aN l.length 1000 then(qD kva (ph kva P2 f) x (kva.map (·.1)) ([Ay,x]++l)).bind λus=>bif aN us.length 1000 then some (us++[EK])else none else none else qD kva (ph kva P2 f) x (kva.map (·.1)) [])else none)=(bif aN x.length 1000 then(bif x.length != 0 then(P1 x).bind λl=>bif aN l.length 1000 then(qD kva (ph kva P1 f) x (kva.map (·.1)) ([Ay,x]++l)).bind λus=>bif aN us.length 1000 then some (us++[EK])else none else none else qD kva (ph kva P1 f) x (kva.map (·.1)) [])else none).map (g9 (jc g));have hl:=Hd (kva:=kva) (x:=x) ih (kva.map (·.1));cases aN x.length 1000 with
  |false=>rfl
  |true=>
   cases x.length != 0 with
   |false=>exact hl [] hk
   |true=>
    show(P2 x).bind _=((P1 x).bind _).map _;rw[h x];cases P1 x with
    |none=>rfl
    |some l=>
     show(bif aN (l.map (jc g)).length 1000 then(qD kva (ph kva P2 f) x (kva.map (·.1)) ([Ay,x]++l.map (jc g))).bind λus=>bif aN us.length 1000 then some (us++[EK])else none else none)=(bif aN l.length 1000 then(qD kva (ph kva P1 f) x (kva.map (·.1)) ([Ay,x]++l)).bind λus=>bif aN us.length 1000 then some (us++[EK])else none else none).map (g9 (jc g));have e:[Ay,x]++l.map (jc g)=([Ay,x]++l).map (jc g):=by
      rw[BD];show _=[jc g Ay,jc g x]++_;rw[Ou G,hx]
     rw[aD,e,hl _ hk];cases aN l.length 1000 with
     |false=>rfl
     |true=>
      show((qD kva (ph kva P1 f) x (kva.map (·.1)) ([Ay,x]++l)).map (g9 (jc g))).bind _=((qD kva (ph kva P1 f) x (kva.map (·.1)) ([Ay,x]++l)).bind _).map _;cases qD kva (ph kva P1 f) x (kva.map (·.1)) ([Ay,x]++l)with
      |none=>rfl
      |some us=>
       show(bif aN (us.map (jc g)).length 1000 then some (us.map (jc g)++[EK])else none)=(bif aN us.length 1000 then some (us++[EK])else none).map (g9 (jc g));rw[aD];cases aN us.length 1000 with
       |false=>rfl
       |true=>
        show some _=some ((us++[EK]).map (jc g));rw[BD];show _=some (us.map (jc g)++[jc g EK]);rw[Zq G]
end
variable{ow:List (ax×AV)}{T0 T1 T2 T3:Int}{es:Nat->Nat}
section
set_option backward.match.sparseCases true
open PySem.Builtin
open PySem.Builtin.Str
variable{g:Nat->Nat}{T:List Nat}
theorem W6(G:Gd g)(h1:1<=i)(h2:i - 1<=e)(h3:e<T.length):RV (rx g T) (i:Int) (e:Int)=rx g (d? T i e):=by
 have e1:((i:Int) - 1)=((i - 1:Nat):Int):=(m7 h1).symm;have eq:qS=rx g [34]:=(ip (congrArg (λz=>[z]) (G.lo 34 (by decide)))).symm;unfold RV;rw[e1,show((e:Int)+1)=((e+1:Nat):Int)from rfl];show dk (rx g T) none (some ((i - 1:Nat):Int))++qS++dk (rx g T) (some ((i - 1:Nat):Int)) (some (e:Int))++qS++dk (rx g T) (some ((e+1:Nat):Int)) none=_;rw[V7 (aq h2 (b0 h3)),x9 (S:=(T.drop (i - 1)).take (e - (i - 1))) ?_,xX h3,eq,pK,pK,pK,pK,aA,aA,aA]
 ·rfl
 ·unfold sj
  rw[bk h2,bk (b0 h3)];rfl
theorem WL(G:Gd g){c:Nat}(h:97<=c∧c<101):oX (rx g T) (oZ c)=ix T c 0:=by
 obtain⟨j,rfl⟩:=eE h.1;exact By G (yA h.2)
theorem C5(G:Gd g){ke ka:List (ax×AV)}{kp:ax}{es:Nat->Nat}:∀(cs:List Nat)(T M:List Nat),(∀c∈cs,(97<=c∧c<101)∧(yC ka kp (oZ c)).isSome=true∧ke.lookup (oZ c)=some (.int (es c:Int)))->W3 es (cs.filter λc=> !oo kp (oZ c)&&w8 ka kp (oZ c)) T=some M->pi ke ka kp (cs.map oZ) (rx g T)=some (rx g M)
 |[],_,_,_,h=>congrArg (λz=>some (rx g z)) (aj h)
 |c::cs,T,M,hc,h=>by
  have ih:=λT M h=>C5 G cs T M (λd hd=>hc d (af _ hd)) h
  obtain⟨h1,h2,h3⟩:=hc c ah;show(wq ke ka kp (rx g T) (oZ c)).bind (λz=>pi ke ka kp (cs.map oZ) z)=_;rw[f8]at h;unfold wq;cases e1:oo kp (oZ c)with
  |true=>
   rw[e1]at h;rw[if_neg (show ¬(!true&&w8 ka kp (oZ c))=true from λz=>dO z)]at h;exact ih T M h
  |false=>
   rw[e1]at h;cases e2:ka.lookup (oZ c)with
   |none=>unfold yC at h2;rw[e2]at h2;exact bj h2
   |some a=>
    cases e3:gX a with
    |none=>unfold yC at h2;rw[e2]at h2;exact bj ((by rw[show(some a).bind (λa=>(gX a).bind λz=>some (oo kp z))=(gX a).bind λz=>some (oo kp z)from rfl,e3];rfl:(((some a).bind λa=>(gX a).bind λz=>some (oo kp z)).isSome)=false).symm.trans h2)
    |some z=>
     have eu:w8 ka kp (oZ c)=oo kp z:=by
      unfold w8 yC;rw[e2,show(some a).bind (λa=>(gX a).bind λz=>some (oo kp z))=(gX a).bind λz=>some (oo kp z)from rfl,e3];rfl
     show((gX a).bind λa=>bif oo kp a then((oX (rx g T) (oZ c)).bind λi=>(ke.lookup (oZ c)).bind λe=>(mE e).bind λe=>bif aN (rx g T).length 1000 then some (RV (rx g T) i e)else none)else some (rx g T)).bind _=_;rw[e3];rw[eu]at h;show(bif oo kp z then((oX (rx g T) (oZ c)).bind λi=>(ke.lookup (oZ c)).bind λe=>(mE e).bind λe=>bif aN (rx g T).length 1000 then some (RV (rx g T) i e)else none)else some (rx g T)).bind _=_;cases e4:oo kp z with
     |false=>
      rw[e4,if_neg (by decide:¬(!false&&false)=true)]at h;exact ih T M h
     |true=>
      rw[e4,if_pos (by decide:(!false&&true)=true)]at h;conv at h=>lhs;whnf
      refine bW h λi e5 h=>?_
      cases e6:aN 1 i&&(aN (i - 1) (es c)&&(bJ (es c) T.length&&aN T.length 1000))with
      |false=>rw[e6]at h;exact aJ h
      |true=>
       rw[e6]at h;have b1:=(aM ..).mp e6;have b2:=(aM ..).mp b1.2;have b3:=(aM ..).mp b2.2;rw[WL G h1,e5,h3];show(bif aN (rx g T).length 1000 then some (RV (rx g T) i (es c:Int))else none).bind _=_;rw[pJ,b3.2,W6 G (ae b1.1) (ae b2.1) (ae b3.1)];exact ih _ M h
noncomputable def GC(ow:List (ax×AV)):List (List Nat)->St->Option St
 |[],st=>some st
 |u::r,st=>bif aN st.length 1000 then(jb ow ⟨u.toArray⟩ st).bind λst=>GC ow r st else none
theorem QO{fin:St}(hf:fin.length<=1000):∀(l:List (List Nat))(st:St),GC ow l st=some fin->st.length<=1000
 |[],st,h=>aj h▸hf
 |u::r,st,h=>by
  unfold GC at h;cases e:aN st.length 1000 with
  |false=>rw[e]at h;exact aJ h
  |true=>exact ae e
theorem C7{x:ax}:∀(l:List (ax×AV)),(∀p∈l,(x==p.1)=false)->l.lookup x=none
 |[],_=>rfl
 |p::l,h=>by
  show(match x==p.1 with|true=>some p.2|false=>l.lookup x)=none;rw[h p ah];exact C7 l λq hq=>h q (af _ hq)
theorem Kv{u:List Nat}{st:St}(h:∀c,sP c u=false):jb (hU T0 T1 T2 T3) ⟨u.toArray⟩ st=some st:=by
 unfold jb;have e:∀c,((⟨u.toArray⟩:ax)==⟨#[c]⟩)=false:=λc=>(Gb u c).trans (h c)
 have el:(hU T0 T1 T2 T3).lookup ⟨u.toArray⟩=none:=C7 _ (Mine.a1 (e 97) (Mine.a1 (e 98) (Mine.a1 (e 99) (Mine.a1 (e 100) Mine.a0))));rw[el,show((⟨u.toArray⟩:ax)==aa "(")=false from e 40,show((⟨u.toArray⟩:ax)==aa ")")=false from e 41];rfl
theorem CS{T0 T1 T2 T3:Int}(G:Gd g){fin:St}(hf:fin.length<=1000):∀(l:List (Nat×List Nat))(st:St),(∀o∈l,Bc o.2=true)->GC (hU T0 T1 T2 T3) ((l.map (·.2)).filter λu=>aW u.length 1) st=some fin->pg (hU T0 T1 T2 T3) (l.map (uG g)) st=some fin
 |[],st,_,h=>h
 |o::l,st,hu,h=>by
  have ih:=λst=>CS (T0:=T0) (T1:=T1) (T2:=T2) (T3:=T3) G hf l st λp hp=>hu p (af _ hp)
  have ho:=hu o ah;have hl:=QO hf _ st h;show(bif aN st.length 1000 then(jb (hU T0 T1 T2 T3) ⟨(o.2.map g).toArray⟩ st).bind λst=>pg (hU T0 T1 T2 T3) (l.map (uG g)) st else none)=_;rw[bk hl];rw[gM,f8]at h;obtain⟨n,u⟩:=o;cases u with
  |nil=>exact bj ho
  |cons d r=>
   cases r with
   |nil=>
    rw[if_pos (show aW (n,[d]).2.length 1=true from rfl)]at h;unfold GC at h;rw[bk hl]at h;show(jb (hU T0 T1 T2 T3) ⟨#[g d]⟩ st).bind _=_;rw[G.lo d (ae ho)];exact bW h λst' e h=>(show(jb (hU T0 T1 T2 T3) ⟨#[d]⟩ st).bind _=some fin from(show jb (hU T0 T1 T2 T3) ⟨#[d]⟩ st=some st' from e)▸ih st' h)
   |cons x r=>
    rw[if_neg (show ¬aW (n,d::x::r).2.length 1=true from λz=>dO z)]at h;rw[show jb (hU T0 T1 T2 T3) (⟨((d::x::r).map g).toArray⟩:ax) st=some st from Kv λc=>rfl];exact ih st h
theorem QD(h:1<=T.length):dk (rx g T) none (some (-1))=rx g (T.take (T.length - 1)):=by
 have hk:((T.length - 1:Nat):Int)= -1+((rx g T).length:Int):=by
  rw[pJ,m7 h,AZ];rfl
 refine(bo (slice_closes_to_neg (x:=rx g T) (by decide) ?_ hk)).trans (ip ?_)
 ·rw[pJ]
  exact Int.neg_le_neg (fj.mpr h)
 ·show(((T.map g).drop 0).take (((T.length - 1:Nat):Int) - 0).toNat)=(T.take (T.length - 1)).map g
  rw[AY,jg];rfl
theorem CX(G:Gd g){S:List Nat}(h:GX (some S)=true):jF (rx g S)=false:=GV G (bo (show(GW S==some false)=true from h))
structure É(D:LD)(as:List (Nat×List Nat))(od:List Nat)(bs:List Bu)(us:List ax)(e0 e1 e2 e3:Nat):Prop where
 ne:ph (ij D) (xw D) 5 (sS "")=some us
 ub:V0 us=true
 l:(fJ us).length<=150
 l1:1<=(fJ us).length
 ok:tQ (fJ us) false=true
 od:rW (bz (fJ us) 0 false)=od
 h0:lN (fJ us) 97=some e0
 h1:lN (fJ us) 98=some e1
 h2:lN (fJ us) 99=some e2
 h3:lN (fJ us) 100=some e3
 ev:Wh D as bs (fJ us) e0 e1 e2 e3=true
 p1:GX (some ((fJ us).drop 1++[40]))=true
 p2:GX (some ((fJ us).take ((fJ us).length - 1)))=true
theorem dB{a b:Bool}(h:(a&&b)=true):a=true∧b=true:=(aM ..).mp h
theorem QG{D:LD}{as:List (Nat×List Nat)}{od:List Nat}{bs:List Bu}(h:Õ D as od bs=true):∃us e0 e1 e2 e3,É D as od bs us e0 e1 e2 e3:=by
 unfold Õ at h;cases n:ph (ij D) (xw D) 5 (sS "")with
 |none=>rw[n]at h;exact bj h
 |some us=>
  rw[n]at h;dsimp only at h;rw[lu]at h;obtain⟨ub,h⟩:=dB h;obtain⟨l,h⟩:=dB h;obtain⟨l1,h⟩:=dB h;obtain⟨ok,h⟩:=dB h;obtain⟨od',h⟩:=dB h;obtain⟨h,hp⟩:=dB h;obtain⟨p1,p2⟩:=dB hp;cases n0:lN (fJ us) 97 with
  |none=>rw[n0]at h;exact bj h
  |some e0=>
  cases n1:lN (fJ us) 98 with
  |none=>rw[n0,n1]at h;dsimp only at h;rw[kj]at h;exact bj h
  |some e1=>
  cases n2:lN (fJ us) 99 with
  |none=>rw[n0,n1,n2]at h;dsimp only at h;rw[kj,kj]at h;exact bj h
  |some e2=>
  cases n3:lN (fJ us) 100 with
  |none=>rw[n0,n1,n2,n3]at h;dsimp only at h;rw[kj,kj,kj]at h;exact bj h
  |some e3=>
  rw[n0,n1,n2,n3]at h;dsimp only at h;rw[kj,kj,kj,kj]at h;exact⟨us,e0,e1,e2,e3,n,ub,ae l,ae l1,ok,bo od',n0,n1,n2,n3,h,p1,p2⟩
structure Vl(D:LD)(T:List Nat)(es:Nat->Nat)(B:Bu)(M S:List Nat)(us:List ax):Prop where
 m:W3 es B.ms T=some M
 l:M.length<=200
 s:rS M=some S
 ok1:tQ M false=true
 ok2:tQ S false=true
 ne:ph (Jx (ij D) B.kp) (xw D) 5 (sS "")=some us
 ub:V0 us=true
 fl:fJ us=S
 pq:pq (bz S 0 false) 0=true
 bu:((bz S 0 false).map (·.2)).filter (λu=>aW u.length 1)=B.us
theorem Rv{D:LD}{B:Bu}(h:Rx D T es B=true):∃M S us,Vl D T es B M S us:=by
 unfold Rx at h;cases m:W3 es B.ms T with
 |none=>rw[m]at h;exact bj h
 |some M=>
 rw[m]at h;dsimp only at h;rw[lu]at h;obtain⟨l,h⟩:=dB h;cases s:rS M with
 |none=>rw[s]at h;exact bj h
 |some S=>
 rw[s]at h;dsimp only at h;rw[lu]at h;obtain⟨o1,h⟩:=dB h;obtain⟨o2,h⟩:=dB h;cases n:ph (Jx (ij D) B.kp) (xw D) 5 (sS "")with
 |none=>rw[n]at h;exact bj h
 |some us=>
 rw[n]at h;dsimp only at h;obtain⟨ub,h⟩:=dB h;obtain⟨f,h⟩:=dB h;obtain⟨p,b⟩:=dB h;exact⟨M,S,us,m,ae l,s,o1,o2,n,ub,bo f,p,bo b⟩
end
variable{l:List ax}
section
set_option backward.match.sparseCases true
open PySem.Builtin
open PySem.Builtin.Str
variable{g:Nat->Nat}{T:List Nat}{D:LD}
noncomputable def gS(s0 s1 s2 s3 c:Nat):Nat:=if c<200 then c else[s0,s1,s2,s3].getD (c - 200) 92
abbrev sg(s:Nat):Prop:=s=40∨s=41∨s=92
theorem YY{s0 s1 s2 s3:Nat}(h0:sg s0)(h1:sg s1)(h2:sg s2)(h3:sg s3):Gd (gS s0 s1 s2 s3):=⟨λc h=>if_pos h,λc h=>by
 unfold gS;rw[if_neg (dm.mpr h)]
 match c - 200 with
 |0=>exact h0
 |1=>exact h1
 |2=>exact h2
 |3=>exact h3
 |_+4=>exact .inr (.inr rfl)⟩
def Vh(l:List ax)(k:Nat):Prop:=∃p∈tf,∃s,sg s∧∀g:Nat->Nat,g 92=92->g (200+k)=s->l=(nO k p).map (jc g)
theorem CV(h:l∈Rk)(k:Nat):Vh l k:=by
 have q:∀s,sg s->∀x:ax,x=⟨#[92,s]⟩->l=[x]->Vh l k:=λs hs x hx hl=>⟨true,ah,s,hs,λg e1 e2=>by
  rw[hl,hx,<-e2];show[(⟨#[92,g (200+k)]⟩:ax)]=[jc g ⟨#[92,200+k]⟩];exact congrArg (λz=>[z]) (ip (show[92,g (200+k)]=[g 92,g (200+k)]by rw[e1]))⟩
 have H:∀l'∈Rk,l=l'->Vh l k:=Mine.a1 (C:=λl'=>l=l'->Vh l k) (λe=>⟨false,af _ ah,40,.inl rfl,λg y y=>e⟩) (Mine.a1 (C:=λl'=>l=l'->Vh l k) (q 40 (.inl rfl) (sS "\\(") (by kernel_rfl)) (Mine.a1 (C:=λl'=>l=l'->Vh l k) (q 41 (.inr (.inl rfl)) (sS "\\)") (by kernel_rfl)) (Mine.a1 (C:=λl'=>l=l'->Vh l k) (q 92 (.inr (.inr rfl)) (sS "\\\\") (by kernel_rfl)) Mine.a0)));exact H l h rfl
theorem zq{α β:Type}{f:α->β}{x:ax}:∀(l:List (ax×α)),(l.map λp=>(p.1,f p.2)).lookup x=(l.lookup x).map f
 |[]=>rfl
 |p::l=>by
  show(match x==p.1 with|true=>some (f p.2)|false=>(l.map λp=>(p.1,f p.2)).lookup x)=(match x==p.1 with|true=>some p.2|false=>l.lookup x).map f;cases x==p.1 with
  |true=>rfl
  |false=>exact zq l
noncomputable def AL(D:LD)(j:Nat):List ax:=(rW (bz ((sj (mB (bare D.b D.c D.d)) ((ix (mB (bare D.b D.c D.d)) (97+j) 0).getD 0) ((lN (mB (bare D.b D.c D.d)) (97+j)).getD 0)).getD []) 0 false)).map oZ
noncomputable abbrev Ś(D:LD)(n:Int):List (List Nat):=(î (bare D.b D.c D.d) n).us
structure Shape(D:LD)(ke:List (ax×AV)):Prop where
 u:Aj (sK D)
 e5:ph (ij D) (xw D) 5 (sS "")=some (sK D)
 hx:(qt D).length<=150
 e8:iN (qt D++sS "\\")=Fj (sK D) (qt D)
 e9:sR (qt D)=some ke
 a:∀j,j<4->Fw (qt D) ke (cb j)=some (AL D j)
 k1:(ke.all λp=>scal p.2)=true
 k2:(uF (sK D)).length<=4
 p1:jF (t1 (qt D))=false
 p2:jF (t2 (qt D))=false
 nu:∀n∈OA,UK D n=true->∀(sc:List AV)(T0 T1 T2 T3:Int)(A0 A1 A2 A3:List ax)(y:ax)(z:Int),GC (hU T0 T1 T2 T3) (Ś D n) [(sS "",0)]=some [(y,z)]->z.natAbs.log2<1920->∃mk us,Vk (zh sc D T0 T1 T2 T3 ke A0 A1 A2 A3) (qM n) mk us y z
noncomputable def þ(b c d:ax):Bool:=aN (WK (bare b c d)).length 4&&OA.all λn=>iF (sS "") (XE n)&&(aN (qM n).length 200&&(((vA (qM n)++pX).all λc'=>(yC (ij (bare b c d)) (qM n) c').isSome)&&kh (Jx (ij (bare b c d)) (qM n))))
theorem CG:(bL.all λb=>cL.all λc=>dL.all λd=>þ b c d)=true:=by kernel_rfl
theorem KO{b c d:ax}{p0 p1 p2 p3:Bool}(h:li b c d p0=true)(h1:p1∈tf)(h2:p2∈tf)(h3:p3∈tf):Õ (cD b c d p0 p1 p2 p3) (Nf (bare b c d)) (WK (bare b c d)) (m? (bare b c d))=true:=by
 have ep:∀a k,i_ a k=k a:=λa k=>(kj _ _).trans (lu _ _)
 have eb:∀B k,j? B k=k B:=λB k=>(Y2 _ _).trans ((lu _ _).trans (wD lu _ _))
 unfold li at h;rw[wD ep,lu,wD eb]at h;exact aB.mp (aB.mp (aB.mp h p1 h1) p2 h2) p3 h3
theorem K6{c:Nat}{l:List (Nat×List Nat)}(h:c∈rW l):97<=c∧c<101:=by
 obtain⟨o,_,e⟩:=rC.mp h;obtain⟨n,u⟩:=o;cases u with
 |nil=>exact aJ e
 |cons d r=>
  cases r with
  |cons=>exact aJ e
  |nil=>
   have e:(bif aN 97 d&&bJ d 101 then some d else none)=some c:=e;cases q:aN 97 d&&bJ d 101 with
   |false=>rw[q]at e;exact aJ e
   |true=>
    rw[q]at e;exact aj e▸⟨ae (dB q).1,ae (dB q).2⟩
theorem Dz{c:Nat}(h:97<=c∧c<101):∃j,j<4∧c=97+j∧oZ c∈pX:=by
 obtain⟨j,rfl⟩:=eE h.1;have hj:j<4:=yA (show 97+j<97+4 from h.2);refine⟨j,hj,rfl,?_⟩
 match j,hj with
 |0,_=>exact ah
 |1,_=>exact af _ ah
 |2,_=>exact af _ (af _ ah)
 |3,_=>exact af _ (af _ (af _ ah))
theorem Dd{e0 e1 e2 e3:Nat}(hj:j<4):(XW e0 e1 e2 e3).lookup (cb j)=some (.int (([e0,e1,e2,e3].getD j 0:Nat):Int)):=by
 match j,hj with
 |0,_=>kernel_rfl
 |1,_=>kernel_rfl
 |2,_=>kernel_rfl
 |3,_=>kernel_rfl
theorem Ie{us:List ax}(h:∀u∈us,xd u.cps.toList=true):(fJ us).length<=us.length*2:=by
 induction us with
 |nil=>exact bC _
 |cons u us ih=>
  show(u.cps.toList++fJ us).length<=_;rw[aK,iW,AQ,d4];exact hM (ih λv hv=>h v (af _ hv)) (xc (h u ah)).2
theorem Hh(G:Gd g){us:List ax}(h:V0 us=true):(us.map (jc g)).length<=100∧∀u∈us.map (jc g),xd u.cps.toList=true:=by
 obtain⟨h1,h2⟩:=dB h;refine⟨aD (f:=jc g) (as:=us)▸ae h1,λv hv=>?_⟩;obtain⟨u,hu,rfl⟩:=bY.mp hv;exact V3 G (aB.mp h2 u hu)
theorem xG(G:Gd g)(hj:j<4):jc g (cb j)=cb j:=ip (congrArg (λz=>[z]) (G.lo (97+j) (dD (g8 hj 97) (by decide))))
theorem Gs(h:EW D):∃ke,Shape D ke:=by
 obtain⟨p0,t0,s0,g0,q0⟩:=CV h.h0 0;obtain⟨p1,t1',s1,g1,q1⟩:=CV h.h1 1;obtain⟨p2,t2',s2,g2,q2⟩:=CV h.h2 2;obtain⟨p3,t3,s3,g3,q3⟩:=CV h.h3 3;have G:=YY g0 g1 g2 g3;generalize eg:gS s0 s1 s2 s3=g at G;have l0:=q0 g (G.lo 92 (by decide)) (eg▸rfl);have l1:=q1 g (G.lo 92 (by decide)) (eg▸rfl);have l2:=q2 g (G.lo 92 (by decide)) (eg▸rfl);have l3:=q3 g (G.lo 92 (by decide)) (eg▸rfl);clear q0 q1 q2 q3 eg;have P:∀y,xw D y=(xw (cD D.b D.c D.d p0 p1 p2 p3) y).map (g9 (jc g)):=λy=>by
  refine yB ?_ (zq (Û (cD D.b D.c D.d p0 p1 p2 p3)));show(Û D).lookup y=([(cb 0,(nO 0 p0).map (jc g)),(cb 1,(nO 1 p1).map (jc g)),(cb 2,(nO 2 p2).map (jc g)),(cb 3,(nO 3 p3).map (jc g))]:List (ax×List ax)).lookup y;rw[<-l0,<-l1,<-l2,<-l3];rfl
 have tb:=aB.mp (aB.mp (aB.mp CG D.b h.hb) D.c h.hc) D.d h.hd;obtain⟨od4,tn⟩:=dB tb;obtain⟨us,e0,e1,e2,e3,S⟩:=QG (KO (aB.mp (aB.mp (aB.mp (aB.mp Ha D.b h.hb) D.c h.hc) D.d h.hd) p0 t0) t1' t2' t3);have K:∀y∈(ij D).map (·.1),jc g y=y:=Mine.a1 (xG G (by decide)) (Mine.a1 (xG G (by decide)) (Mine.a1 (xG G (by decide)) (Mine.a1 (xG G (by decide)) Mine.a0)));have m0:jc g (sS "")=sS "":=ip rfl;have ne:ph (ij D) (xw D) 5 (sS "")=some (us.map (jc g)):=(BB G K P 5 (sS "") m0).trans (congrArg (qc (g9 (jc g))) S.ne);have eu:sK D=us.map (jc g):=by unfold sK;rw[ne];rfl
 have ex:qt D=rx g (fJ us):=by unfold qt;rw[eu];exact tX us
 obtain⟨u1,u2⟩:=Hh G S.ub;obtain⟨ea,eb⟩:=dB S.ev;have eo:uF (sK D)=(WK (bare D.b D.c D.d)).map oZ:=by
  have e:=C8 G S.ok;rw[<-tX,F0 u2,S.od]at e;rw[eu];exact e
 refine⟨XW e0 e1 e2 e3,?_⟩
 constructor
 ·rw[eu];exact Cu u1 u2
 ·rw[eu];exact ne
 ·rw[ex,pJ];exact S.l
 ·unfold qt
  rw[eu];exact Y8 u2
 ·rw[ex];exact MI G S.ok S.h0 S.h1 S.h2 S.h3
 ·intro j hj
  rw[ex];have m:(97+j,rW (bz ((sj (mB (bare D.b D.c D.d)) ((ix (mB (bare D.b D.c D.d)) (97+j) 0).getD 0) ((lN (mB (bare D.b D.c D.d)) (97+j)).getD 0)).getD []) 0 false))∈Nf (bare D.b D.c D.d):=bY.mpr ⟨97+j,match j,hj with
   |0,_=>ah
   |1,_=>af _ ah
   |2,_=>af _ (af _ ah)
   |3,_=>af _ (af _ (af _ ah)),rfl⟩
  have a:=aB.mp ea _ m;dsimp only at a;cases e:(ix (fJ us) (97+j) 0).bind λi=>sj (fJ us) i ([e0,e1,e2,e3].getD (97+j - 97) 0)with
  |none=>rw[e]at a;exact bj a
  |some C=>
   rw[e]at a;obtain⟨a1,a2⟩:=dB a;refine bW e λi x1 x2=>?_
   rw[bS]at x2;rw[ZL G hj x1 (Dd hj) x2 a1,show rW (bz C 0 false)=_ from bo a2];rfl
 ·rfl
 ·rw[eo,aD];exact ae od4
 ·rw[ex]
  show jF (dk (rx g (fJ us)) (some ((1:Nat):Int)) none++sS "(")=false;rw[xX S.l1,show sS "("=rx g [40]from(Ou G).symm,pK];exact CX G S.p1
 ·rw[ex]
  show jF (dk (rx g (fJ us)) none (some (-1)))=false;rw[QD S.l1];exact CX G S.p2
 ·intro n hn hc sc T0 T1 T2 T3 A0 A1 A2 A3 y z hr hz
  obtain⟨_,tn⟩:=dB (aB.mp tn n hn);obtain⟨_,tn⟩:=dB tn;obtain⟨up,nd⟩:=dB tn;have up:=aB.mp up;have B:=aB.mp eb (î (bare D.b D.c D.d) n) (bY.mpr ⟨n,iq.mpr ⟨hn,hc⟩,rfl⟩);obtain⟨M,S',us',N⟩:=Rv B;obtain⟨w1,w2⟩:=Hh G N.ub;have K':∀y∈(Jx (ij D) (qM n)).map (·.1),jc g y=y:=λy hy=>by
   obtain⟨p,hp,rfl⟩:=bY.mp hy;obtain⟨c,_,e⟩:=rC.mp hp;cases e2:(ij D).lookup c with
   |none=>rw[e2]at e;exact aJ e
   |some a=>
    rw[e2]at e;obtain rfl:=aj e;exact K c (bY.mpr ⟨(c,a),jd e2,rfl⟩)
  have sm:eR (rx g M)=rx g S':=yT G N.ok1 N.s;have es:=uY G S' 0 false N.ok2;have eu':=nq S' 0 false N.ok2;refine⟨rx g M,us'.map (jc g),?_⟩
  constructor
  ·show pi (XW e0 e1 e2 e3) (ij D) (qM n) (uF (sK D)).reverse (qt D)=_
   rw[eo,ex,<-List.map_reverse];refine C5 G (es:=λc=>[e0,e1,e2,e3].getD (c - 97) 0) _ _ _ (λc hc=>?_) N.m;have hc:=K6 (List.mem_reverse.mp hc);obtain⟨j,hj,rfl,hm⟩:=Dz hc;refine⟨hc,up _ (au _ hm),?_⟩;rw[bS];exact Dd hj
  ·rw[pJ];exact N.l
  ·exact nd
  ·exact(BB G K' P 5 (sS "") m0).trans (congrArg (qc (g9 (jc g))) N.ne)
  ·exact(Cu w1 w2).join
  ·rw[sm,tX,N.fl]
  ·unfold jF
   rw[sm];show nC (bz (S'.map g) 0 false) 0=true;rw[es];exact(GQ G _ 0 eu').trans N.pq
  ·rw[sm]
   show pg (hU T0 T1 T2 T3) (bz (S'.map g) 0 false) _=_;rw[es];exact CS G (show[(y,z)].length<=1000 from ae rfl) _ _ eu' (N.bu.symm▸hr)
  ·rw[sm,pJ,<-N.fl]
   have:=Ie w2;rw[show fJ (us'.map (jc g))=(fJ us').map g from(join_list _).symm.trans (by rw[tX];rfl),aD]at this;exact aq this (kG 2 w1)
  ·exact hz
end
variable{n:Nat}
section
set_option backward.match.sparseCases true
open PySem.Builtin
open PySem.Builtin.Str
noncomputable def bt(m j:Nat):Bool:=aW (Nat.mod (Nat.div m (AS 2 j)) 2) 1
noncomputable def o4(m:Nat):List Nat:=[0,1,2,3].filter (bt m)
noncomputable def VD(m:Nat):List Nat:=(o4 m).map (97+·)
noncomputable def zO(i:Nat):Int:=(i:Int) - 40
noncomputable abbrev zd:List Nat:=[0,1,2,3,4,5,6,7,8,9,10,11,12,13,14,15]
theorem i7{m:Nat}(h:m<16):m∈zd:=dM.mpr h
noncomputable abbrev kM(m:Nat):ax:=qM (m:Int)
theorem OF{m:Nat}(h:m<16):kM m=⟨(VD m).toArray⟩:=
 bo (aB.mp (by kernel_rfl:(zd.all λm=>kM m==⟨(VD m).toArray⟩)=true) m (i7 h))
theorem Bm{m:Nat}(h:m<16):signs (kM m)=(o4 m).map cb:=by
 rw[OF h];show(VD m).map oZ=_;unfold VD;rw[da];rfl
theorem yi{m:Nat}(h:j∈o4 m):j<4:=(Mine.a1 (C:=λj=>j<4) (by decide) (Mine.a1 (C:=λj=>j<4) (by decide) (Mine.a1 (C:=λj=>j<4) (by decide) (Mine.a1 (C:=λj=>j<4) (by decide) Mine.a0)))) j (iq.mp h).1
noncomputable def Tb(cs:List Nat):Nat:=sZ (bif cs.any (aW 97)then 0 else 1) (sZ (bif cs.any (aW 98)then 0 else 2) (sZ (bif cs.any (aW 99)then 0 else 4) (bif cs.any (aW 100)then 0 else 8)))
noncomputable def XV(a b c d:Bool):Nat:=sZ (bif a then 0 else 1) (sZ (bif b then 0 else 2) (sZ (bif c then 0 else 4) (bif d then 0 else 8)))
theorem HB:(zd.all λm=>tf.all λa=>tf.all λb=>tf.all λc=>tf.all λd=>(bJ (gI m (XV a b c d)) 16)&&((bt (gI m (XV a b c d)) 0==(bt m 0&& !a))&&((bt (gI m (XV a b c d)) 1==(bt m 1&& !b))&&((bt (gI m (XV a b c d)) 2==(bt m 2&& !c))&&(bt (gI m (XV a b c d)) 3==(bt m 3&& !d))))))=true:=by kernel_rfl
theorem xg(a:Bool):a∈tf:=by
 cases a with
 |true=>exact ah
 |false=>exact af _ ah
theorem C9{m:Nat}(h:m<16)(cs:List Nat):gI m (Tb cs)<16∧∀j,j<4->bt (gI m (Tb cs)) j=(bt m j&& !cs.any (aW (97+j))):=by
 have t:=aB.mp (aB.mp (aB.mp (aB.mp (aB.mp HB m (i7 h)) (cs.any (aW 97)) (xg _)) (cs.any (aW 98)) (xg _)) (cs.any (aW 99)) (xg _)) (cs.any (aW 100)) (xg _);obtain⟨t0,t⟩:=dB t;obtain⟨t1,t⟩:=dB t;obtain⟨t2,t⟩:=dB t;obtain⟨t3,t4⟩:=dB t;exact⟨ae t0,λj hj=>match j,hj with
  |0,_=>bo t1
  |1,_=>bo t2
  |2,_=>bo t3
  |3,_=>bo t4⟩
theorem Me{m:Nat}(h:m<16)(cs:List Nat):po (kM m) (cs.map oZ)=kM (gI m (Tb cs)):=by
 obtain⟨l1,l2⟩:=C9 h cs;rw[OF l1];unfold po;rw[Bm h];refine ip ?_;rw[show(cq (aa "") (((o4 m).map cb).filter λy=> !((cs.map oZ).any (·==y)))).cps.toList=_ from join_list _];show _=(o4 (gI m (Tb cs))).map (97+·);rw[List.filter_map,Jg];have e1:((o4 m).filter ((λy=> !((cs.map oZ).any (·==y)))∘cb))=o4 (gI m (Tb cs)):=by
  unfold o4;rw[List.filter_filter];refine List.filter_congr λj hj=>?_
  have hj4:j<4:=Mine.a1 (C:=λj=>j<4) (by decide) (Mine.a1 (C:=λj=>j<4) (by decide) (Mine.a1 (C:=λj=>j<4) (by decide) (Mine.a1 (C:=λj=>j<4) (by decide) Mine.a0))) j hj;rw[l2 j hj4,Bool.and_comm];refine congrArg (λz=>bt m j&& !z) ?_;show(cs.map oZ).any (λx=>x==cb j)=_;rw[List.any_map];refine congrArg (λf=>cs.any f) (funext λc=>?_);show((⟨#[c]⟩:ax)==⟨#[97+j]⟩)=aW (97+j) c;refine(Ga [97+j] c).trans rfl
 rw[e1];generalize o4 (gI m (Tb cs))=l;induction l with
 |nil=>rfl
 |cons j l ih=>
  rw[sI,ih];rfl
noncomputable def yf(x:ax):Bool:=x.cps.toList.all λc=>aN 32 c&&bJ c 127
theorem mJ{x:ax}(h:yf x=true):fu x:=λp hp=>by
 have e:x.cps.getD p 0=x.cps.toList[p]'(cG▸hp):=by
  rw[Array.getD_eq_getD_getElem?,l9 hp];rfl
 have m:=aB.mp h _ (nB (cG▸hp:p<x.cps.toList.length));obtain⟨m1,m2⟩:=dB m;rw[e];exact⟨ae m1,ae m2⟩
noncomputable def nm(m:Nat):ax:=⟨(120::VD m).toArray⟩
noncomputable def ę(m:Nat):Bool:=(aX (wP (kM m))==nm m)&&((aX (Fk (kM m))==nm m)&&((aX (cX (wP (kM m)))==nm m)&&(aN (kM m).length 200&&(aN (Fk (kM m)).length 1000&&(yf (nm m)&&(aN (wP (kM m)).length 1000&&(yf (wP (kM m))&&(aN (cX (wP (kM m))).length 1000&&(!(gq (cX (wP (kM m))).length)&& !(nm m==aX (aa "y")))))))))))
theorem RA:zd.all ę=true:=by kernel_rfl
structure ū(m:Nat):Prop where
 a:aX (wP (kM m))=nm m
 b:aX (Fk (kM m))=nm m
 c:aX (cX (wP (kM m)))=nm m
 k:(kM m).length<=200
 n:(Fk (kM m)).length<=1000
 cl:fu (nm m)
 w:(wP (kM m)).length<=1000
 cw:fu (wP (kM m))
 u:(cX (wP (kM m))).length<=1000
 t:gq (cX (wP (kM m))).length=false
 y:(nm m==aX (aa "y"))=false
theorem G6{a:Bool}(h:(!a)=true):a=false:=by cases a with
 |false=>rfl
 |true=>exact bj h
theorem n7{m:Nat}(h:m<16):ū m:=by
 have t:ę m=true:=aB.mp RA m (i7 h);unfold ę at t;obtain⟨t1,t⟩:=dB t;obtain⟨t2,t⟩:=dB t;obtain⟨t3,t⟩:=dB t;obtain⟨t4,t⟩:=dB t;obtain⟨t5,t⟩:=dB t;obtain⟨t6,t⟩:=dB t;obtain⟨t7,t⟩:=dB t;obtain⟨t8,t⟩:=dB t;obtain⟨t9,t⟩:=dB t;obtain⟨ta,tb⟩:=dB t;exact⟨bo t1,bo t2,bo t3,ae t4,ae t5,mJ t6,ae t7,mJ t8,ae t9,G6 ta,G6 tb⟩
theorem WN{m:Nat}(h:m<16):Ny (kM m):=⟨(n7 h).k,(n7 h).n,(n7 h).b.symm▸(n7 h).cl⟩
theorem KN:(zd.all λm=>zd.all λn=>(nm m==nm n)==aW m n)=true:=by kernel_rfl
theorem Ow{m:Nat}(h:m<16)(h':n<16):(nm m==nm n)=aW m n:=bo (aB.mp (aB.mp KN m (i7 h)) n (i7 h'))
noncomputable abbrev zS(i:Nat):ax:=aa (oS (zO i))
noncomputable abbrev ď:List Nat:=cQ 81
noncomputable def zB(i:Nat):Bool:=(ut [zO i]==zS i)&&((gW (zS i)==some (zO i))&&(aN (zS i).length 640&&(yf (zS i)&&(bJ (zO i).natAbs.log2 1920&&iF (ji " ") [zS i]))))
theorem VN:ď.all zB=true:=by kernel_rfl
structure X_(i:Nat):Prop where
 t:ut [zO i]=zS i
 n:gW (zS i)=some (zO i)
 l:(zS i).length<=640
 c:fu (zS i)
 g:(zO i).natAbs.log2<1920
 j:iF (ji " ") [zS i]=true
theorem Pz(h:i<=80):X_ i:=by
 have t:zB i=true:=aB.mp VN i (dM.mpr (jN h));unfold zB at t;obtain⟨t1,t⟩:=dB t;obtain⟨t2,t⟩:=dB t;obtain⟨t3,t⟩:=dB t;obtain⟨t4,t⟩:=dB t;obtain⟨t5,t6⟩:=dB t;exact⟨bo t1,bo t2,ae t3,mJ t4,ae t5,t6⟩
end
variable{xs:List AV}{k y:Int}{ns ys zs:List Nat}{v r:Nat}
section
set_option backward.match.sparseCases true
open PySem.Builtin
open PySem.Builtin.Str
noncomputable abbrev aO(i:Nat):AV:=.int (zO i)
theorem RT(a b:Nat):((a:Int)+(b:Int)).fdiv 2=(((a+b) / 2:Nat):Int):=(Int.ofNat_fdiv (a+b) 2).symm
theorem RS{lo hi P:Nat}(h:hi<lo+P*2):(lo+hi) / 2<lo+P:=(oV (by decide)).mpr (Nat.lt_of_lt_of_eq (g8 h lo) (by rw[Nat.add_mul,vh lo,cU]))
theorem RU{lo hi P:Nat}(h:hi<lo+P*2):hi<(lo+hi) / 2+1+P:=by
 rw[io];refine jN (Ci.mp ((Cj (by decide)).mpr ?_));rw[Nat.sub_mul,vh hi];exact Ci.mpr (aq (fC (b0 h) hi) (bP (io lo (P*2) hi)))
theorem yj{c:Int->Bool}{xs:List AV}{k n:Nat}(h:∀i:Nat,i<n->∃y,JE xs (i:Int)=some y∧c y=decide (k<=i)):∀(f lo hi:Nat),lo<=k->k<=hi->hi<=n->hi<lo+2^f->g5 c xs (f+1) (lo:Int) (hi:Int)=some (k:Int)
 |f,lo,hi,h1,h2,h3,h4=>by
  show(bif decide ((lo:Int)<(hi:Int))then((JE xs (((lo:Int)+(hi:Int)).fdiv 2)).bind λy=>bif c y then g5 c xs f (lo:Int) (((lo:Int)+(hi:Int)).fdiv 2)else g5 c xs f (((lo:Int)+(hi:Int)).fdiv 2+1) (hi:Int))else some (lo:Int))=_
  by_cases q:lo<hi
  ·rw[decide_eq_true (dH.mpr q),RT]
   have m1:lo<=(lo+hi) / 2:=(Cj (by decide)).mpr (by rw[vh];exact aU (b0 q) lo);have m2:(lo+hi) / 2<hi:=(oV (by decide)).mpr (by rw[vh];exact Nat.add_lt_add_right q hi);obtain⟨y,e1,e2⟩:=h ((lo+hi) / 2) (bx m2 h3);rw[e1];show(bif c y then _ else _)=_;cases f with
   |zero=>exact absurd h4 (dm.mpr q)
   |succ f=>
    have m3:hi<lo+2^f*2:=h4
    by_cases z:k<=(lo+hi) / 2
    ·rw[e2,decide_eq_true z]
     exact yj h f lo _ h1 z (b0 (bx m2 h3)) (RS m3)
    ·rw[e2,decide_eq_false z]
     exact yj h f (_+1) hi (im.mp z) h2 h3 (RU m3)
  ·rw[decide_eq_false λz=>q (dH.mp z)]
   obtain rfl:lo=k:=kW h1 (aq h2 (dm.mp q));rfl
theorem ZD(h:n<=100000):VG (n:Int)=true:=by
 unfold VG;rw[aM,decide_eq_true_eq,decide_eq_true_eq];exact⟨gJ (by decide) (cx n),small h⟩
theorem UX(hb:VG k=true)(hs:eT k xs.length=some j)(hx:xs[j]? =some (.int y)):JE xs k=some y:=by
 unfold JE;rw[hb,hs];show(match xs[j]? with|some a=>(match a with|.int y=>some y|_=>none)|none=>none)=some y;rw[hx]
theorem ţ{y:Nat}(hl:ns.length<=1000)(h:ns[i]? =some y):JE (ns.map aO) (i:Int)=some (zO y):=by
 have hi:=(aH.mp h).1;have h2:(ns.map aO)[i]? =some (.int (zO y)):=by rw[bv,h];rfl
 have h3:i<=100000:=aq (b0 hi) (aq hl (ae rfl));exact UX (ZD h3) (xU (aH.mp h2).1) h2
theorem pW{c:Int->Bool}{p:Nat->Bool}(hc:∀i,c (zO i)=p i)(hy:∀y∈ys,p y=false)(hz:∀z∈zs,p z=true)(hl:(ys++zs).length<=1000):g5 c ((ys++zs).map aO) 64 0 ((ys++zs).map aO).length=some (ys.length:Int):=by
 refine yj (n:=((ys++zs).map aO).length) (k:=ys.length) (λi hi=>?_) 63 0 _ (bC _) ?_ (bF _) ?_
 ·rw[aD]at hi
  refine⟨zO ((ys++zs)[i]'hi),ţ hl (bb hi),?_⟩;rw[hc]
  by_cases q:ys.length<=i
  ·rw[decide_eq_true q,List.getElem_append_right q]
   exact hz _ (nB _)
  ·rw[decide_eq_false q,List.getElem_append_left (im.mp q)]
   exact hy _ (nB _)
 ·rw[aD,aK]
  exact a9 _ _
 ·rw[aD]
  exact bh hl (bx (by decide) (eP _ _))
abbrev Nt(xs:List Nat):Prop:=xs.Pairwise (·<=·)
theorem nY{p:Nat->Bool}(hp:∀x y,x<=y->p x=true->p y=true):∀{xs:List Nat},Nt xs->∃ys zs,xs=ys++zs∧(∀y∈ys,p y=false)∧∀z∈zs,p z=true
 |[],_=>⟨[],[],rfl,λw h=>eN h,λw h=>eN h⟩
 |x::xs,h=>by
  cases e:p x with
  |true=>exact⟨[],x::xs,rfl,λw h=>eN h,λz hz=>(aE.mp hz).elim (λq=>q▸e) λq=>hp x z (List.rel_of_pairwise_cons h q) e⟩
  |false=>
   obtain⟨ys,zs,rfl,h1,h2⟩:=nY hp (List.Pairwise.of_cons h);exact⟨x::ys,zs,rfl,λy hy=>(aE.mp hy).elim (λq=>q▸e) (h1 y),h2⟩
theorem Cs:zO a<zO b↔a<b:=⟨λh=>dH.mp (Int.lt_of_sub_lt_sub_right h),λh=>Int.sub_lt_sub_right (dH.mpr h) 40⟩
theorem Zx(v i:Nat):Mine.cR (zO v) (zO i)=bJ v i:=gw.mpr ⟨λh=>bk (Cs.mp (of_decide_eq_true h)),λh=>decide_eq_true (Cs.mpr (ae h))⟩
theorem Zy(v i:Nat):Mine.cL (zO v) (zO i)=aN v i:=by
 show(!decide (zO i<zO v))=_
 by_cases q:v<=i
 ·rw[decide_eq_false λz=>dm.mpr q (Cs.mp z),bk q];rfl
 ·rw[decide_eq_true (Cs.mpr (im.mp q)),co.mpr λz=>q (ae z)];rfl
theorem RN(h:bJ a b=false):b<=a:=dm.mp λz=>dO (h.symm.trans (bk z))
theorem Ě(h:aN a b=false):b<a:=im.mp λz=>dO (h.symm.trans (bk z))
theorem z7:∀x y,x<=y->bJ v x=true->bJ v y=true:=λz z h q=>bk (aq (ae q) h)
theorem z9:∀x y,x<=y->aN v x=true->aN v y=true:=λz z h q=>bk (aq (ae q) h)
theorem HO(ys zs:List Nat)(v:Nat):r6 ((ys++zs).map aO) (ys.length:Int) (aO v)=(ys++v::zs).map aO:=by
 unfold r6;rw[if_neg (nV.mpr (cx _)),show((ys.length:Int)).toNat=ys.length from rfl,aD,aK,kU (a9 _ _),<-jg,<-qh,List.take_left,List.drop_left,b6];rfl
theorem CM(h:Nt (ys++zs))(h1:∀y∈ys,y<=v)(h2:∀z∈zs,v<=z):Nt (ys++v::zs):=by
 obtain⟨a,b,c⟩:=Ck.mp h;exact Ck.mpr ⟨a,rB.mpr ⟨h2,b⟩,λy hy z hz=>(aE.mp hz).elim (λe=>e▸h1 y hy) (c y hy z)⟩
structure Nz(xs:List Nat)(l:Nat):Prop where
 e:∃x0,xs=x0++[l]
 s:Nt xs
structure Nv(xs:List Nat)(r:Nat):Prop where
 e:∃x0,xs=r::x0
 s:Nt xs
noncomputable abbrev W0(l v:Nat):Nat:=bif aN l v then v else l
noncomputable abbrev W2(r v:Nat):Nat:=bif aN v r then v else r
theorem Sh{xs:List Nat}{l:Nat}(h:Nz xs l)(hl:xs.length<=1000):∃(p:Nat)(xs':List Nat),Nz xs' (W0 l v)∧xs'.length=xs.length+1∧p<=1000∧g5 (Mine.cR (zO v)) (xs.map aO) 64 0 (xs.map aO).length=some (p:Int)∧r6 (xs.map aO) (p:Int) (aO v)=xs'.map aO:=by
 obtain⟨⟨x0,e⟩,s⟩:=h;obtain⟨ys,zs,rfl,h1,h2⟩:=nY (p:=bJ v) z7 s;refine⟨ys.length,ys++v::zs,⟨?_,CM s (λy hy=>RN (h1 y hy)) λz hz=>b0 (ae (h2 z hz))⟩,?_,?_,pW (Zx v) h1 h2 hl,HO ys zs v⟩
 ·rcases AW zs with rfl|⟨z0,z,rfl⟩
  ·rw[be]at e
   have:aN l v=true:=bk (RN (h1 l (e▸au _ ah)));exact⟨ys,by unfold W0;rw[this];rfl⟩
  ·rw[oA]at e h2
   rw[<-aA]at e;obtain⟨_,e2⟩:=List.append_inj' e rfl;obtain rfl:z=l:=(ca e2).1;have q:=h2 z (au _ ah)
   have:aN z v=false:=co.mpr λw=>dm.mpr (ae w) (ae q)
   refine⟨ys++v::z0,?_⟩;unfold W0;rw[this,oA,aA];rfl
 ·rw[aK,aK];rfl
 ·exact aq (aq (a9 _ _) (bP aK.symm)) hl
theorem QL{xs:List Nat}(h:Nv xs r)(hl:xs.length<=1000):∃(p:Nat)(xs':List Nat),Nv xs' (W2 r v)∧xs'.length=xs.length+1∧p<=1000∧g5 (Mine.cL (zO v)) (xs.map aO) 64 0 (xs.map aO).length=some (p:Int)∧r6 (xs.map aO) (p:Int) (aO v)=xs'.map aO:=by
 obtain⟨⟨x0,e⟩,s⟩:=h;obtain⟨ys,zs,rfl,h1,h2⟩:=nY (p:=aN v) z9 s;refine⟨ys.length,ys++v::zs,⟨?_,CM s (λy hy=>b0 (Ě (h1 y hy))) λz hz=>ae (h2 z hz)⟩,?_,?_,pW (Zy v) h1 h2 hl,HO ys zs v⟩
 ·cases ys with
  |nil=>
   obtain rfl:zs=r::x0:=e
   have:=h2 r ah;exact⟨r::x0,by unfold W2;rw[this];rfl⟩
  |cons y ys=>
   obtain rfl:y=r:=(ca e).1
   have:=h1 y ah;exact⟨ys++v::zs,by unfold W2;rw[this];rfl⟩
 ·rw[aK,aK];rfl
 ·exact aq (aq (a9 _ _) (bP aK.symm)) hl
theorem uV{p q:Nat->Bool}(hq:∀x,q x= !p x):∀{ys zs:List Nat},(∀y∈ys,p y=false)->(∀z∈zs,p z=true)->(ys++zs).filter q=ys:=λ{ys zs} h1 h2=>by
 rw[List.filter_append,List.filter_eq_self.mpr λy hy=>by rw[hq,h1 y hy];rfl,List.filter_eq_nil_iff.mpr λz hz=>by rw[hq,h2 z hz];exact dO,be]
theorem O4{xs:List Nat}(s:Nt xs)(hl:xs.length<=1000)(l:Nat):g5 (Mine.cR (zO l)) (xs.map aO) 64 0 (xs.map aO).length=some ((xs.filter λy=> !bJ l y).length:Int):=by
 obtain⟨ys,zs,rfl,h1,h2⟩:=nY (p:=bJ l) z7 s;rw[pW (Zx l) h1 h2 hl,uV (λz=>rfl) h1 h2]
theorem O5{xs:List Nat}(s:Nt xs)(hl:xs.length<=1000)(r:Nat):g5 (Mine.cL (zO r)) (xs.map aO) 64 0 (xs.map aO).length=some ((xs.filter λy=> !aN r y).length:Int):=by
 obtain⟨ys,zs,rfl,h1,h2⟩:=nY (p:=aN r) z9 s;rw[pW (Zy r) h1 h2 hl,uV (λz=>rfl) h1 h2]
theorem Ww{xs:List Nat}{u z:Nat}(h:xs[u]? =some z):jJ (xs.map aO) (some (u:Int)) (some ((u+1:Nat):Int)) none=[zO z].map AV.int:=by
 have hu:=(aH.mp h).1;rw[n6];show((xs.map aO).drop (mX (xs.map aO).length (u:Int))).take (mX (xs.map aO).length ((u+1:Nat):Int) - mX (xs.map aO).length (u:Int))=_;rw[Pn,Pn,aD,kU (b0 hu),kU hu,show u.succ - u=1 from bS (n:=u) (m:=1),<-qh,<-jg,wW hu,(aH.mp h).2];rfl
end
section
set_option backward.match.sparseCases true
open PySem.Builtin
open PySem.Builtin.Str
abbrev Rm:=List (Nat×Nat)
noncomputable def Hy:Rm->Nat->Option Nat
 |[],_=>none
 |p::r,m=>bif aW p.1 m then some p.2 else Hy r m
noncomputable abbrev D5(p:Nat×Nat):ax×ax:=vQ (kM p.1) (zO p.2)
noncomputable def lU(R:Rm):Rw:=R.map D5
def mO(R:Rm):Prop:=∀p∈R,p.1<16∧p.2<=80
noncomputable def zK(o:Option Nat):AV:=match o with
 |some z=>.str (zS z)
 |none=>.none
theorem uc{m:Nat}(h:m<16):∀{R:Rm},mO R->gZ (lU R) (nm m)=zK (Hy R m)
 |[],_=>rfl
 |p::R,hR=>by
  have ih:=uc h (R:=R) λq hq=>hR q (af _ hq)
  have hp:=hR p ah;show(bif aX (wP (kM p.1))==nm m then AV.str (zS p.2)else gZ (lU R) (nm m))=zK (bif aW p.1 m then some p.2 else Hy R m);rw[(n7 hp.1).a,Ow hp.1 h,ih];cases aW p.1 m<;>rfl
theorem OE{m z:Nat}:∀{R:Rm},mO R->Hy R m=some z->z<=80
 |[],_,h=>aJ h
 |p::R,hR,h=>by
  conv at h=>lhs;whnf
  cases e:aW p.1 m with
  |true=>rw[e]at h;exact aj h▸(hR p ah).2
  |false=>rw[e]at h;exact OE (λq hq=>hR q (af _ hq)) h
noncomputable def Uw:List (List Nat):=[[40],[32,40,48],[24,32,36,40,44,48,56],[16,24,28,32,34,36,38,40,42,44,46,48,52,56,64],[8,16,20,24,26,28,30,32,33,34,35,36,37,38,39,40,41,42,43,44,45,46,47,48,50,52,54,56,60,64,72]]
noncomputable abbrev dN(j:Nat):List Nat:=Uw.getD j []
theorem Y9:Jz=Uw.map λns=>ns.map aO:=by kernel_rfl
noncomputable def s6:List Nat->Bool
 |[]=>true
 |x::xs=>xs.all (aN x)&&s6 xs
theorem Gm:∀{xs:List Nat},s6 xs=true->Nt xs
 |[],_=>.nil
 |x::xs,h=>.cons (λy hy=>ae (aB.mp (dB h).1 y hy)) (Gm (dB h).2)
theorem Ut:(Uw.all λxs=>s6 xs&&aN xs.length 1000)=true:=by kernel_rfl
theorem O2(h:j<5):Jz[j]? =some ((dN j).map aO)∧Nt (dN j)∧(dN j).length<=1000:=by
 have e:Uw[j]? =some (dN j):=by
  show Uw[j]? =some (Uw.getD j []);rw[bm,bb (show j<Uw.length from h)];rfl
 refine⟨by rw[Y9,bv,e];rfl,?_⟩;have t:=dB (aB.mp Ut (dN j) (gC e));exact⟨Gm t.1,ae t.2⟩
noncomputable def uN(l:Nat)(xs:List Nat):Nat:=(xs.filter λy=> !bJ l y).length
noncomputable def vN(r:Nat)(xs:List Nat):Nat:=(xs.filter λy=> !aN r y).length
noncomputable def bD(l r j:Nat):Bool:=bJ (uN l (dN j)) (vN r (dN j))
noncomputable def ą(l r:Nat)(k:Nat->Bool)(j:Nat):Bool:=aW (vN r (dN j)) (uN l (dN j)+1)&&(match (dN j)[uN l (dN j)]? with
 |none=>false
 |some z=>aN z 80&&k z)
noncomputable def Ć(l r:Nat)(k:Nat->Bool):List Nat->Bool
 |[]=>false
 |j::js=>bif bD l r j then js.all (bD l r)&&ą l r k j else Ć l r k js
theorem Gr{l r:Nat}{k:Nat->Bool}:∀{js:List Nat},js.Pairwise (·<·)->Ć l r k js=true->∃dy∈js,(∀i∈js,bD l r i=decide (dy<=i))∧ą l r k dy=true
 |[],_,h=>bj h
 |j::js,hp,h=>by
  conv at h=>lhs;whnf
  obtain⟨hp1,hp2⟩:=rB.mp hp;cases e:bD l r j with
  |true=>
   rw[e]at h;obtain⟨h1,h2⟩:=dB h;exact⟨j,ah,λi hi=>(aE.mp hi).elim (λq=>q▸e.trans (decide_eq_true (bF j)).symm) λq=>(aB.mp h1 i q).trans (decide_eq_true (b0 (hp1 i q))).symm,h2⟩
  |false=>
   rw[e]at h;obtain⟨dy,h1,h2,h3⟩:=Gr hp2 h;exact⟨dy,af _ h1,λi hi=>(aE.mp hi).elim (λq=>q▸e.trans (decide_eq_false (im.mpr (hp1 dy h1))).symm) (h2 i),h3⟩
noncomputable abbrev r5:List Nat:=[0,1,2,3,4]
noncomputable def ĵ(l r:Nat)(i:Int):Int:=bif bD l r i.toNat then 1 else 0
theorem kf_at(l r:Nat)(h:j<5):I8 Jz (zO l) (zO r) (ĵ l r) j:=by
 obtain⟨d1,d2,d3⟩:=O2 h;refine⟨(dN j).map aO,(uN l (dN j):Int),(vN r (dN j):Int),d1,?_,O4 d2 d3 l,O5 d2 d3 r,?_⟩
 ·rw[aD];exact small (aq d3 (by decide))
 ·show(bif bJ (uN l (dN j)) (vN r (dN j))then(1:Int)else 0)=_
  cases e:bJ (uN l (dN j)) (vN r (dN j))with
  |true=>exact(if_pos (dH.mpr (ae e))).symm
  |false=>exact(if_neg λz=>dm.mpr (RN e) (dH.mp z)).symm
theorem MD:∀i:Nat,i<5->JE x5 (i:Int)=some (i:Int)
 |0,_=>by kernel_rfl
 |1,_=>by kernel_rfl
 |2,_=>by kernel_rfl
 |3,_=>by kernel_rfl
 |4,_=>by kernel_rfl
 |n+5,h=>absurd h (dm.mpr (eP 5 n))
theorem GP(h:i<5):i∈r5:=dM.mpr h
theorem Wt(h:i∈r5):i<5:=dM.mp (show i∈cQ 5 from h)
theorem Uv{l dy:Nat}(h:∀i∈r5,bD l r i=decide (dy<=i))(hd:dy<5):g5 (λy=> !decide (ĵ l r y<1)) x5 64 0 5=some (dy:Int):=
 yj (n:=5) (λi hi=>⟨(i:Int),MD i hi,by
  show(!decide ((bif bD l r i then(1:Int)else 0)<1))=_;rw[h i (GP hi)];cases decide (dy<=i)<;>rfl⟩) 63 0 5 (bC _) (b0 hd) (bF _) (by decide)
noncomputable def yE:Nat->Int
 |0=>0
 |1=>1
 |_=> -1
structure I3(ab:ax->Option (List ax))(kvo:List (ax×AV))(os ks:List Nat):Prop where
 ab:∀j,j<4->∃l,ab (cb j)=some l∧∀m,m<16->po (kM m) l=kM (gI m (ks.getD j 0))∧gI m (ks.getD j 0)<16
 kv:∀j,j<4->kvo.lookup (cb j)=some (.int (yE (os.getD j 0)))
noncomputable def Xg(R:Nat->Rm->(Nat->Rm->Bool)->Bool)(os ks:List Nat)(m:Nat):List Nat->Nat->Nat->Rm->(Nat->Nat->Rm->Bool)->Bool
 |[],l,r,rows,k=>k l r rows
 |j::js,l,r,rows,k=>match os.getD j 0 with
  |0=>Xg R os ks m js l r rows k
  |n+1=>fN (gI m (ks.getD j 0)) λm'=>R m' rows λv rows=>(match n with
   |0=>fN (W0 l v) λl=>Xg R os ks m js l r rows k
   |_+1=>fN (W2 r v) λr=>Xg R os ks m js l r rows k)
noncomputable def vT(os ks:List Nat):Nat->Nat->Rm->(Nat->Rm->Bool)->Bool
 |0,_,_,_=>false
 |f+1,m,rows,k=>match Hy rows m with
  |some z=>k z rows
  |none=>Xg (vT os ks f) os ks m (o4 m) 0 80 rows λl r rows=>Ć l r (λz=>aN rows.length 900&&(match Hy rows m with
   |some _=>false
   |none=>k z (rows++[(m,z)]))) r5
variable{ab:ax->Option (List ax)}{kvo:List (ax×AV)}{os ks:List Nat}
def z?(ab:ax->Option (List ax))(kvo:List (ax×AV))(f:Nat)(R:Nat->Rm->(Nat->Rm->Bool)->Bool):Prop:=∀(m:Nat)(rows:Rm)(k:Nat->Rm->Bool),m<16->mO rows->R m rows k=true->∃z rows',B5 ab kvo Jz f (kM m) (lU rows) (zO z) (lU rows')∧z<=80∧mO rows'∧k z rows'=true
theorem Y0{p:Nat}(h:p<=1000):cT (p:Int)=true:=ZD (aq h (by decide))
theorem xH(E:I3 ab kvo os ks){f m:Nat}{R:Nat->Rm->(Nat->Rm->Bool)->Bool}(hR:z? ab kvo f R)(hm:m<16):∀(js:List Nat)(l r:Nat)(rows:Rm)(k:Nat->Nat->Rm->Bool)(lv rv:List Nat),(∀j∈js,j<4)->Nz lv l->Nv rv r->lv.length+js.length<=20->rv.length+js.length<=20->mO rows->Xg R os ks m js l r rows k=true->∃l' r' lv' rv' rows',rf (B5 ab kvo Jz f) ab kvo (kM m) (js.map cb) (lv.map aO) (rv.map aO) (lU rows) (lv'.map aO) (rv'.map aO) (lU rows')∧Nz lv' l'∧Nv rv' r'∧mO rows'∧k l' r' rows'=true
 |[],l,r,rows,k,lv,rv,_,hl,hr,_,_,hw,h=>⟨l,r,lv,rv,rows,.nil,hl,hr,hw,h⟩
 |j::js,l,r,rows,k,lv,rv,hj,hl,hr,nl,nr,hw,h=>by
  have hj':∀i∈js,i<4:=λi hi=>hj i (af _ hi)
  have j4:=hj j ah;have kv:=E.kv j j4;have nl':lv.length+js.length+1<=20:=nl;have nr':rv.length+js.length+1<=20:=nr;conv at h=>lhs;whnf
  cases e:os.getD j 0 with
  |zero=>
   rw[e]at h kv;obtain⟨l',r',lv',rv',rows',w,x⟩:=xH E hR hm js l r rows k lv rv hj' hl hr (jO nl') (jO nr') hw h;exact⟨l',r',lv',rv',rows',.skip kv w,x⟩
  |succ n=>
   rw[e]at h kv;dsimp only at h;rw[kj]at h;obtain⟨A,a1,a2⟩:=E.ab j j4;obtain⟨a3,a4⟩:=a2 m hm;obtain⟨v,rows1,w1,v80,hw1,h⟩:=hR _ rows _ a4 hw h;rw[<-a3]at w1;cases n with
   |zero=>
    dsimp only at h;rw[kj]at h;obtain⟨p,xs',q1,q2,q3,q4,q5⟩:=Sh (v:=v) hl (aq (aq (a9 _ _) nl) (by decide));obtain⟨l',r',lv',rv',rows',w,x⟩:=xH E hR hm js (W0 l v) r rows1 k xs' rv hj' q1 hr (by rw[q2,io];exact nl') (jO nr') hw1 h;exact⟨l',r',lv',rv',rows',.left kv a1 w1 (aD aO▸aq (aq (a9 _ _) nl) (by decide)) q4 (Y0 q3) (q5.symm▸w),x⟩
   |succ n=>
    dsimp only at h;rw[kj]at h;obtain⟨p,xs',q1,q2,q3,q4,q5⟩:=QL (v:=v) hr (aq (aq (a9 _ _) nr) (by decide));obtain⟨l',r',lv',rv',rows',w,x⟩:=xH E hR hm js l (W2 r v) rows1 k lv xs' hj' hl q1 (jO nl') (by rw[q2,io];exact nr') hw1 h;exact⟨l',r',lv',rv',rows',.right kv a1 w1 (aD aO▸aq (aq (a9 _ _) nr) (by decide)) q4 (Y0 q3) (q5.symm▸w),x⟩
theorem Aa(m:Nat):(o4 m).length<=4:=j8 _ _
theorem FQ(E:I3 ab kvo os ks):∀f,z? ab kvo f (vT os ks f)
 |0=>λx x x x x h=>bj h
 |f+1=>λm rows k hm hw h=>by
  conv at h=>lhs;whnf
  have N:=n7 hm;have eg:gZ (lU rows) (aX (Fk (kM m)))=zK (Hy rows m):=N.b.symm▸uc hm hw;cases e:Hy rows m with
  |some z=>
   rw[e]at h eg;have z80:=OE hw e;have Z:=Pz z80;exact⟨z,rows,.old (zS z) (WN hm) eg Z.n Z.l rfl,z80,hw,h⟩
  |none=>
   rw[e]at h eg;dsimp only at h;obtain⟨l,r,lv,rv,rows1,w,⟨⟨l0,hl⟩,_⟩,⟨⟨r0,hr⟩,_⟩,hw1,h⟩:=xH E (FQ E f) hm (o4 m) 0 80 rows _ [0] [80] (λj=>yi) ⟨⟨[],rfl⟩,yK _ _⟩ ⟨⟨[],rfl⟩,yK _ _⟩ (aq (aU (Aa m) 1) (by decide)) (aq (aU (Aa m) 1) (by decide)) hw h;obtain⟨dy,hd,hb,h⟩:=Gr (by decide) h;have hd:=Wt hd;unfold ą at h;obtain⟨h1,h⟩:=dB h;cases ez:(dN dy)[uN l (dN dy)]? with
   |none=>rw[ez]at h;exact bj h
   |some z=>
    rw[ez]at h;obtain⟨z80,h⟩:=dB h;obtain⟨hn,h⟩:=dB h;have z80:=ae z80;have Z:=Pz z80;cases e2:Hy rows1 m with
    |some=>rw[e2]at h;exact bj h
    |none=>
     rw[e2]at h;obtain⟨d1,d2,d3⟩:=O2 hd;have hv:=O5 d2 d3 r;rw[show((dN dy).filter λy=> !aN r y).length=vN r (dN dy)from rfl,aZ h1]at hv;have sg:signs (kM m)=(o4 m).map cb:=Bm hm;have er:lU (rows1++[(m,z)])=lU rows1++[(pQ (kM m),ut [zO z])]:=by
      unfold lU;rw[b6,Z.t];rfl
     have gk:gZ (lU rows1) (aX (pQ (kM m)))= .none:=by
      rw[show aX (pQ (kM m))=nm m from N.a,uc hm hw1,e2];rfl
     refine⟨z,rows1++[(m,z)],.new (lv.map aO) (rv.map aO) (lU rows1) (l0.map aO) (r0.map aO) (zO l) (zO r) (ĵ l r) dy ((dN dy).map aO) (uN l (dN dy):Int) ((uN l (dN dy)+1:Nat):Int) [zO z] (WN hm) eg ?_ ?_ ?_ (λj hj=>kf_at l r hj) (Uv hb hd) hd d1 ?_ (O4 d2 d3 l) hv (Ww ez) (ae rfl) (Mine.a1 Z.g Mine.a0) Z.j ?_ N.w gk N.cw ?_ ?_ ?_ ?_ er,z80,λp hp=>?_,h⟩
     ·rw[sg];exact w
     ·rw[hl,b6];rfl
     ·rw[hr];rfl
     ·rw[aD];exact d3
     ·exact(show aX (pQ (kM m))=nm m from N.a)▸N.cl
     ·rw[Z.t];exact Z.c
     ·rw[Z.t];exact Z.n
     ·rw[Z.t];exact Z.l
     ·show(rows1.map D5).length<=900
      rw[aD];exact ae hn
     ·exact(aT.mp hp).elim (hw1 p) λq=>(a8.mp q)▸⟨hm,z80⟩
end
section
set_option backward.match.sparseCases true
open PySem.Builtin
open PySem.Builtin.Str
noncomputable def rv(o v:Int):Option Int:=((ź o v).min?).bind λn=>some (o*((o*v+8*n).fdiv (2^(n - 1).toNat)))
noncomputable def EH:Option Int->Nat
 |none=>1000
 |some z=>bif decide (-40<=z)&&decide (z<=40)then(z+40).toNat else 1000
theorem Il:∀{x:Option Int},EH x<=80->x=some (zO (EH x))
 |none,h=>absurd (show 1000<=80 from h) (by decide)
 |some z,h=>by
  have e:EH (some z)=(bif decide (-40<=z)&&decide (z<=40)then(z+40).toNat else 1000):=rfl;cases q:decide (-40<=z)&&decide (z<=40)with
  |false=>rw[e,q]at h;exact absurd (show 1000<=80 from h) (by decide)
  |true=>
   rw[e,q];have q1:=of_decide_eq_true (dB q).1;show some z=some (((z+40).toNat:Int) - 40);rw[qj (Int.add_le_add_right q1 40),rR]
noncomputable def Ax(o:Int):List Nat:=ď.map λi=>EH (rv o (zO i))
noncomputable def Wj(t1 t2:List Nat)(o i:Nat):Nat:=match o with
 |0=>i
 |n+1=>(match n with
  |0=>t1.getD i 1000
  |_+1=>t2.getD i 1000)
theorem H6{F:Nat->Nat}(h:i<=80):(ď.map F).getD i 1000=F i:=by
 rw[bm,bv,i5 (jN h)];rfl
theorem Wi{s:ax}{o:Nat}(h:ow.lookup s=some (.int (yE o)))(hi:i<=80)(hz:Wj (Ax 1) (Ax (-1)) o i<=80):wh ow s (zO i)=some (zO (Wj (Ax 1) (Ax (-1)) o i)):=by
 unfold wh;rw[h]
 match o with
 |0=>rfl
 |1=>
  have e:Wj (Ax 1) (Ax (-1)) 1 i=EH (rv 1 (zO i)):=H6 hi;rw[e]at hz ⊢;exact Il hz
 |n+2=>
  have e:Wj (Ax 1) (Ax (-1)) (n+2) i=EH (rv (-1) (zO i)):=H6 hi;rw[e]at hz ⊢;exact Il hz
noncomputable def Vt(t1 t2 os:List Nat):List (List Nat)->Rm->(Nat->Bool)->Bool
 |[],st,k=>(match st with
  |[]=>false
  |e::r=>(match r with
   |[]=>k e.2
   |_::_=>false))
 |u::us,st,k=>aN st.length 1000&&(match u with
  |[]=>false
  |c::x=>(match x with
   |_::_=>false
   |[]=>bif aW c 40 then Vt t1 t2 os us ((0,40)::st) k else bif aW c 41 then(match st with
    |[]=>false
    |e::r=>(match r with
     |[]=>false
     |d::r=>aN 97 e.1&&(bJ e.1 101&&fN (Wj t1 t2 (os.getD (e.1 - 97) 0) e.2) λz=>aN z 80&&(aN 40 (d.2+z)&&(aN (d.2+z) 120&&fN (d.2+z - 40) λs=>Vt t1 t2 os us ((d.1,s)::r) k)))))
    else aN 97 c&&(bJ c 101&&(match st with
     |[]=>false
     |e::r=>Vt t1 t2 os us ((c,e.2)::r) k))))
noncomputable def cS(c:Nat):ax:=bif aW c 0 then sS "" else oZ c
noncomputable def Od(e:Nat×Nat):ax×Int:=(cS e.1,zO e.2)
theorem PA(h:40<=a+b):zO a+zO b=zO (a+b - 40):=by
 unfold zO;rw[m7 h];omega
variable{os:List Nat}
theorem Pa{c:Nat}(h:97<=c):cS c=oZ c:=by
 unfold cS;rw[show aW c 0=false from co.mpr λz=>absurd (aZ z▸h) (by decide)];rfl
theorem GD(E:∀j,j<4->(hU T0 T1 T2 T3).lookup (cb j)=some (.int (yE (os.getD j 0)))):∀(us:List (List Nat))(st:Rm)(k:Nat->Bool),(∀e∈st,e.2<=80)->Vt (Ax 1) (Ax (-1)) os us st k=true->∃y i,GC (hU T0 T1 T2 T3) us (st.map Od)=some [(y,zO i)]∧i<=80∧k i=true
 |[],st,k,hs,h=>by
  cases st with
  |nil=>exact bj h
  |cons e r=>
   cases r with
   |nil=>exact⟨cS e.1,e.2,rfl,hs e ah,h⟩
   |cons=>exact bj h
 |u::us,st,k,hs,h=>by
  have ih:=λst hs h=>GD E us st k hs h
  conv at h=>lhs;whnf
  obtain⟨hl,h⟩:=dB h;show ∃y i,(bif aN (st.map Od).length 1000 then(jb (hU T0 T1 T2 T3) ⟨u.toArray⟩ (st.map Od)).bind λst=>GC (hU T0 T1 T2 T3) us st else none)=_∧_;rw[aD,hl];cases u with
  |nil=>exact bj h
  |cons c x=>
   cases x with
   |cons=>exact bj h
   |nil=>
    dsimp only at h;show ∃y i,(jb (hU T0 T1 T2 T3) ⟨[c].toArray⟩ (st.map Od)).bind _=_∧_;have n40:((⟨[c].toArray⟩:ax)==aa "(")=aW c 40:=Gb [c] 40;have n41:((⟨[c].toArray⟩:ax)==aa ")")=aW c 41:=Gb [c] 41;unfold jb;rw[n40,n41];cases e1:aW c 40 with
    |true=>
     rw[e1]at h;exact ih ((0,40)::st) (λe he=>(aE.mp he).elim (λq=>q▸ae rfl) (hs e)) h
    |false=>
     rw[e1]at h;cases e2:aW c 41 with
     |true=>
      rw[e2]at h;obtain rfl:=aZ e2;rw[show(hU T0 T1 T2 T3).lookup ⟨[41].toArray⟩=none from by kernel_rfl];cases st with
      |nil=>exact bj h
      |cons e r=>
       cases r with
       |nil=>exact bj h
       |cons d r=>
        obtain⟨b1,h⟩:=dB h;obtain⟨b2,h⟩:=dB h;rw[kj]at h;obtain⟨b3,h⟩:=dB h;obtain⟨b4,h⟩:=dB h;obtain⟨b5,h⟩:=dB h;rw[kj]at h;have b1:=ae b1;have hj:e.1 - 97<4:=Nat.sub_lt_left_of_lt_add b1 (ae b2);have ee:cS e.1=cb (e.1 - 97):=(Pa b1).trans (congrArg oZ (Nat.add_sub_cancel' b1).symm);have rr:=Wi (E (e.1 - 97) hj) (hs e ah) (ae b3);rw[<-ee]at rr;have b4:=ae b4;have b5:=ae b5;refine(ih ((d.1,_)::r) (λq hq=>?_) h).imp λy=>Exists.imp λi x=>⟨?_,x.2⟩
        ·rcases aE.mp hq with rfl|hq
         ·exact Nat.sub_le_of_le_add b5
         ·exact hs q (af _ (af _ hq))
        ·refine yB ?_ x.1
         show((wh (hU T0 T1 T2 T3) (cS e.1) (zO e.2)).bind λz=>some ((cS d.1,zO d.2+z)::r.map Od)).bind _=_;rw[rr];show GC (hU T0 T1 T2 T3) us ((cS d.1,zO d.2+zO _)::r.map Od)=_;rw[PA b4];rfl
     |false=>
      rw[e2]at h;obtain⟨b1,h⟩:=dB h;obtain⟨b2,h⟩:=dB h;obtain⟨j,hj,rfl,_⟩:=Dz ⟨ae b1,ae b2⟩;rw[show(hU T0 T1 T2 T3).lookup ⟨[97+j].toArray⟩=some (.int (yE (os.getD j 0)))from E j hj];cases st with
      |nil=>exact bj h
      |cons e r=>
       refine(ih ((97+j,e.2)::r) (λq hq=>?_) h).imp λy=>Exists.imp λi x=>⟨?_,x.2⟩
       ·rcases aE.mp hq with rfl|hq
        ·exact hs e ah
        ·exact hs q (af _ hq)
       ·refine yB ?_ x.1
        show GC (hU T0 T1 T2 T3) us ((oZ (97+j),zO e.2)::r.map Od)=GC (hU T0 T1 T2 T3) us ((cS (97+j),zO e.2)::r.map Od);rw[Pa (a9 97 j)]
end
variable{ks:List Nat}{bu:List (List (List Nat))}
section
set_option backward.match.sparseCases true
open PySem.Builtin
open PySem.Builtin.Str
variable{D:LD}{sc:List AV}{os par:List Nat}
noncomputable def pS(p:Nat):ax:=bif aW p 4 then sS "" else cb p
noncomputable def Ka(p n:Nat):Bool:=aW p 4||bt n p
noncomputable def EJ(par:List Nat)(n:Nat):Bool:=(o4 n).all λj=>Ka (par.getD j 4) n
noncomputable abbrev r4:List Nat:=[0,1,2,3]
noncomputable def Ò(par os:List Nat)(n:Nat):Bool:=EJ par n&&r4.all λj=> !(!bt n j&&(Ka (par.getD j 4) n&&aW (os.getD j 0) 0))
theorem in_tab:(zd.all λn=>r5.all λp=>oo (kM n) (pS p)==Ka p n)=true:=by kernel_rfl
theorem OI{p:Nat}(h:n<16)(hp:p<5):oo (kM n) (pS p)=Ka p n:=bo (aB.mp (aB.mp in_tab n (i7 h)) p (GP hp))
theorem Si(h:j<4):cb j=pS j:=by
 unfold pS;rw[show aW j 4=false from co.mpr λz=>absurd h (aZ z▸dW _)];rfl
theorem I?(h:j<4):Ka j n=bt n j:=by
 unfold Ka;rw[show aW j 4=false from co.mpr λz=>absurd h (aZ z▸dW _)];rfl
structure wM(D:LD)(par:List Nat):Prop where
 lt:∀j,j<4->par.getD j 4<5
 l:∀j,j<4->(ij D).lookup (cb j)=some (.str (pS (par.getD j 4)))
theorem Bb(p:wM D par)(hn:n<16)(hj:j<4):w8 (ij D) (kM n) (cb j)=Ka (par.getD j 4) n:=by
 unfold w8 yC;rw[p.l j hj];exact OI hn (p.lt j hj)
theorem UM(h:n<16):vA (kM n)=(o4 n).map cb:=Bm h
theorem Dx(p:wM D par)(hn:n<16):UK D (n:Int)=EJ par n:=by
 show((vA (kM n)).all λc=>w8 (ij D) (kM n) c)=_;rw[UM hn,List.all_map];unfold EJ;refine gw.mpr ⟨λh=>aB.mpr λj hj=>(Bb p hn (yi hj)).symm.trans (aB.mp h j hj),λh=>aB.mpr λj hj=>(Bb p hn (yi hj)).trans (aB.mp h j hj)⟩
theorem pV{α:Type}(q:α->Bool):∀l:List α,(l.filter q).isEmpty=l.all λa=> !q a
 |[]=>rfl
 |a::l=>by
  rw[f8,Pw];cases q a with
  |true=>rfl
  |false=>exact pV q l
theorem M_(o:Nat):(some (yE o)==some (0:Int))=aW o 0:=by
 match o with
 |0=>rfl
 |1=>rfl
 |_+2=>rfl
theorem Ol(h:j∈r4):j<4:=dM.mp (show j∈cQ 4 from h)
theorem P7(p:wM D par)(E:∀j,j<4->(hU T0 T1 T2 T3).lookup (cb j)=some (.int (yE (os.getD j 0))))(hn:n<16):yQ (ij D) (hU T0 T1 T2 T3) (kM n)=Ò par os n:=by
 unfold yQ Ò ß;rw[pV,pV];refine congr (congrArg and ?_) ?_
 ·refine yB ?_ (Dx p hn)
  show((vA (kM n)).all λc=> !!w8 (ij D) (kM n) c)=(vA (kM n)).all λc=>w8 (ij D) (kM n) c
  exact congrArg (λf=>(vA (kM n)).all f) (funext λc=>Av _)
 ·show((r4.map cb).all λc=> !HE (ij D) (hU T0 T1 T2 T3) (kM n) c)=_
  rw[List.all_map];have e:∀j,j<4->HE (ij D) (hU T0 T1 T2 T3) (kM n) (cb j)=(!bt n j&&(Ka (par.getD j 4) n&&aW (os.getD j 0) 0)):=λj hj=>by
   unfold HE;rw[Bb p hn hj,E j hj,Si hj,OI hn (dF hj),I? hj];show(!bt n j&&(Ka (par.getD j 4) n&&(some (yE (os.getD j 0))==some (0:Int))))=_;rw[M_]
  refine gw.mpr ⟨λh=>aB.mpr λj hj=>?_,λh=>aB.mpr λj hj=>?_⟩
  ·have:=aB.mp h j hj
   rw[<-e j (Ol hj)];exact this
  ·have:=aB.mp h j hj
   rw[<-e j (Ol hj)]at this;exact this
noncomputable def ä(t1 t2 os par:List Nat)(bu:List (List (List Nat))):List Nat->Rm->(Rm->Bool)->Bool
 |[],acc,k=>k acc
 |n::ns,acc,k=>bif Ò par os n then Vt t1 t2 os (bu.getD n []) [(0,40)] (λi=>ä t1 t2 os par bu ns (acc++[(n,i)]) k)else ä t1 t2 os par bu ns acc k
theorem Ky(R S:Rm):lU (R++S)=lU R++lU S:=b6
theorem Ig(S:Shape D ke)(p:wM D par)(E:∀j,j<4->(hU T0 T1 T2 T3).lookup (cb j)=some (.int (yE (os.getD j 0)))){bu:List (List (List Nat))}{A0 A1 A2 A3:List ax}(hb:∀n:Nat,n<16->EJ par n=true->bu.getD n []=Ś D (n:Int))(hh:∀n:Nat,n<16->I2 (zh sc D T0 T1 T2 T3 ke A0 A1 A2 A3) (n:Int)):∀(ns:List Nat)(acc:Rm)(k:Rm->Bool),(∀n∈ns,n<16)->mO acc->ä (Ax 1) (Ax (-1)) os par bu ns acc k=true->∃fin,tt (Ao (zh sc D T0 T1 T2 T3 ke A0 A1 A2 A3)) (ns.map λn:Nat=>(n:Int)) (lU acc) (lU fin)∧mO fin∧k fin=true
 |[],acc,k,_,ha,h=>⟨acc,.nil,ha,h⟩
 |n::ns,acc,k,hn,ha,h=>by
  have ih:=λacc ha h=>Ig S p E hb hh ns acc k (λm hm=>hn m (af _ hm)) ha h
  have n16':=hn n ah;have et:=P7 p E n16';conv at h=>lhs;whnf
  cases e:Ò par os n with
  |false=>
   rw[e]at h et;obtain⟨fin,f1,f2⟩:=ih acc ha h;exact⟨fin,.cons (.no (hh n n16') et rfl) f1,f2⟩
  |true=>
   rw[e]at h et;have ec:=(dB e).1;obtain⟨y,i,h1,h2,h3⟩:=GD E _ _ _ (λe he=>(a8.mp he)▸ae rfl) h;rw[hb n n16' ec]at h1;obtain⟨mk,us,Y⟩:=S.nu (n:Int) (bY.mpr ⟨n,i7 n16',rfl⟩:(n:Int)∈zd.map λn:Nat=>(n:Int)) ((Dx p n16').trans ec) sc T0 T1 T2 T3 A0 A1 A2 A3 y (zO i) h1 (Pz h2).g;obtain⟨fin,f1,f2⟩:=ih (acc++[(n,i)]) (λq hq=>(aT.mp hq).elim (ha q) λhq=>(a8.mp hq)▸⟨n16',h2⟩) h3;exact⟨fin,.cons (.yes (hh n n16') et mk us y (zO i) Y (n7 n16').w (Ky acc [(n,i)])) f1,f2⟩
noncomputable def Bp(m:Nat):Nat:=[8,0,4,9,6,11,13,1,7,12,14,2,15,3,5,10].getD m 0
noncomputable def wN(m:Nat):List Nat:=(bif aW (Nat.mod (o4 m).length 2) 0 then 120 else 88)::VD m
theorem FU:(zd.all λm=>(wP (kM m)).cps.toList==wN m)=true:=by kernel_rfl
theorem Rb:(zd.all λm=>zd.all λn=>decide (wN m<wN n)==bJ (Bp m) (Bp n))=true:=by kernel_rfl
theorem Wo{m:Nat}(h:m<16)(h':n<16):decide ((wP (kM m)).cps.toList<(wP (kM n)).cps.toList)=bJ (Bp m) (Bp n):=by
 rw[show(wP (kM m)).cps.toList=wN m from bo (aB.mp FU m (i7 h)),show(wP (kM n)).cps.toList=wN n from bo (aB.mp FU n (i7 h'))];exact bo (aB.mp (aB.mp Rb m (i7 h)) n (i7 h'))
theorem uy{lt lt':Nat->Nat->Bool}{n:Nat}(h:∀i j,i<n->j<n->lt i j=lt' i j){α:Type}:∀t:KasT α,s5 lt n t=s5 lt' n t
 |.ret _=>rfl
 |.ask i j k=>by
  show(bif bJ i n&&bJ j n then s5 lt n (k (lt i j))else none)=bif bJ i n&&bJ j n then s5 lt' n (k (lt' i j))else none
  cases e:bJ i n&&bJ j n with
  |false=>rfl
  |true=>
   rw[h i j (ae (dB e).1) (ae (dB e).2)];exact uy h _
noncomputable def Rt(rs:List Nat):Option (List Nat):=match rs with
 |[]=>none
 |_::r=>(match r with
  |[]=>some [0]
  |_::_=>(s5 (λi j=>bJ (rs.getD i 0) (rs.getD j 0)) rs.length (vE rs.length)).map (·.toList))
theorem getD_at{f:α->β}{R:List α}{a:α}{b:β}(h:i<R.length):(R.map f).getD i b=f (R.getD i a):=by
 rw[bm,bm,bv,bb h];rfl
theorem getD_mem{R:List α}{a:α}(h:i<R.length):R.getD i a∈R:=by
 rw[bm,bb h];exact nB h
theorem Sj{R:Rm}(hR:mO R)(hi:i<R.length)(hj:j<R.length):Jw (lU R) i j=bJ ((R.map λp=>Bp p.1).getD i 0) ((R.map λp=>Bp p.1).getD j 0):=by
 unfold Jw;rw[show(lU R).getD i _=D5 (R.getD i (0,0))from getD_at hi,show(lU R).getD j _=D5 (R.getD j (0,0))from getD_at hj,getD_at (f:=λp:Nat×Nat=>Bp p.1) (a:=(0,0)) hi,getD_at (f:=λp:Nat×Nat=>Bp p.1) (a:=(0,0)) hj];exact Wo (hR _ (getD_mem hi)).1 (hR _ (getD_mem hj)).1
theorem Rs{R:Rm}(hR:mO R){q:List Nat}(h:Rt (R.map λp=>Bp p.1)=some q):GZ (lU R)=some q:=by
 cases R with
 |nil=>exact aJ h
 |cons a r=>
  cases r with
  |nil=>exact h
  |cons b r=>
   have e:s5 (Jw (lU (a::b::r))) (lU (a::b::r)).length (vE (lU (a::b::r)).length)=s5 (λi j=>bJ (((a::b::r).map λp=>Bp p.1).getD i 0) (((a::b::r).map λp=>Bp p.1).getD j 0)) ((a::b::r).map λp=>Bp p.1).length (vE ((a::b::r).map λp=>Bp p.1).length):=by
    rw[aD,show(lU (a::b::r)).length=(a::b::r).length from aD _];exact uy (λi j hi hj=>Sj hR hi hj) _
   show(s5 (Jw (lU (a::b::r))) (lU (a::b::r)).length (vE (lU (a::b::r)).length)).map (λx:Array Nat=>x.toList)=some q;rw[e];exact h
noncomputable def ě:List Nat->Bool
 |[]=>true
 |x::xs=> !xs.any (aW x)&&ě xs
theorem Oz:∀{R:Rm},mO R->ě (R.map (·.1))=true->((lU R).map (·.1)).Nodup
 |[],_,_=>.nil
 |p::R,hR,h=>by
  obtain⟨h1,h2⟩:=dB h;refine .cons (λx hx e=>?_) (Oz (λq hq=>hR q (af _ hq)) h2);obtain⟨y,hy,rfl⟩:=bY.mp hx;obtain⟨q,hq,rfl⟩:=bY.mp hy;have hp:=(hR p ah).1;have hq':=(hR q (af _ hq)).1;have e2:nm p.1=nm q.1:=(n7 hp).a.symm.trans ((congrArg aX (show wP (kM p.1)=wP (kM q.1)from e)).trans (n7 hq').a);have e3:aW p.1 q.1=true:=(Ow hp hq').symm.trans (beq_iff_eq.mpr e2);exact dO ((G6 h1).symm.trans (Ji.mpr ⟨q.1,bY.mpr ⟨q,hq,rfl⟩,e3⟩))
noncomputable def Kn(R:Rm)(k:List Nat->Bool):Bool:=bJ R.length 64&&(ě (R.map (·.1))&&fL (R.map λp=>Bp p.1) λrs=>(match Rt rs with
 |none=>false
 |some q=>fL q λq=>q.all (bJ · R.length)&&(aN q.length 1000&&k q)))
theorem CN{R:Rm}(hR:mO R){k:List Nat->Bool}(h:Kn R k=true):∃q,sU (lU R) q∧(∀i∈q,i<R.length)∧q.length<=1000∧k q=true:=by
 unfold Kn at h;obtain⟨h1,h⟩:=dB h;obtain⟨h2,h⟩:=dB h;rw[lu]at h;cases e:Rt (R.map λp=>Bp p.1)with
 |none=>rw[e]at h;exact bj h
 |some q=>
  rw[e]at h;dsimp only at h;rw[lu]at h;obtain⟨h3,h⟩:=dB h;obtain⟨h4,h⟩:=dB h;have hl:(lU R).length=R.length:=aD _;have h3:∀i∈q,i<R.length:=λi hi=>ae (aB.mp h3 i hi)
  exact⟨q,⟨Oz hR h2,hl.symm▸ae h1,Rs hR e,hl.symm▸h3⟩,h3,ae h4,h⟩
noncomputable def Ň(R S:Rm):List Nat->List Nat->Bool
 |[],q=>q.isEmpty
 |i::p,q=>match q with
  |[]=>false
  |j::q=>aW (R.getD i (0,0)).1 (S.getD j (0,0)).1&&(aW (R.getD i (0,0)).2 (S.getD j (0,0)).2&&Ň R S p q)
theorem Ik{R S:Rm}:∀{p q:List Nat},(∀i∈p,i<R.length)->(∀i∈q,i<S.length)->Ň R S p q=true->byQ p (lU R)=byQ q (lU S)
 |[],q,_,_,h=>by
  cases q with
  |nil=>rfl
  |cons=>exact bj h
 |i::p,q,hp,hq,h=>by
  cases q with
  |nil=>exact bj h
  |cons j q=>
   obtain⟨h1,h⟩:=dB h;obtain⟨h2,h⟩:=dB h;have e:R.getD i (0,0)=S.getD j (0,0):=Cf (aZ h1) (aZ h2);show(lU R).getD i _::byQ p (lU R)=(lU S).getD j _::byQ q (lU S);rw[Ik (λi hi=>hp i (af _ hi)) (λi hi=>hq i (af _ hi)) h,show(lU R).getD i _=D5 (R.getD i (0,0))from getD_at (hp i ah),show(lU S).getD j _=D5 (S.getD j (0,0))from getD_at (hq j ah),e]
noncomputable def Ř(t1 t2 os ks par:List Nat)(bu:List (List (List Nat))):Bool:=vT os ks 5 15 [] λy rows=>ä t1 t2 os par bu zd [] λfin=>Kn rows λq1=>Kn fin λq2=> !fin.isEmpty&&(!rows.isEmpty&&(fin.all (λp=>match Hy rows p.1 with
 |none=>false
 |some z=>aW z p.2)&&Ň rows fin q1 q2))
theorem YO{R:Rm}(hR:mO R):gZ (lU R) (aX (aa "y"))= .none:=by
 induction R with
 |nil=>rfl
 |cons p R ih=>
  have N:=n7 (hR p ah).1;show(bif aX (wP (kM p.1))==aX (aa "y")then AV.str (zS p.2)else gZ (lU R) (aX (aa "y")))= .none;rw[N.a,N.y];exact ih λq hq=>hR q (af _ hq)
theorem Wx(S:Shape D ke)(p:wM D par)(E:∀j,j<4->(hU T0 T1 T2 T3).lookup (cb j)=some (.int (yE (os.getD j 0))))(hb:∀n:Nat,n<16->EJ par n=true->bu.getD n []=Ś D (n:Int))(hh:∀n:Nat,n<16->I2 (zh sc D T0 T1 T2 T3 ke (AL D 0) (AL D 1) (AL D 2) (AL D 3)) (n:Int))(hk:∀j,j<4->∀m,m<16->po (kM m) (AL D j)=kM (gI m (ks.getD j 0))∧gI m (ks.getD j 0)<16)(h:Ř (Ax 1) (Ax (-1)) os ks par bu=true):PF sc D T0 T1 T2 T3:=by
 have N:I3 (ZM (zh sc D T0 T1 T2 T3 ke (AL D 0) (AL D 1) (AL D 2) (AL D 3))) (hU T0 T1 T2 T3) os ks:=⟨λj hj=>⟨AL D j,match j,hj with
  |0,_=>by kernel_rfl
  |1,_=>by kernel_rfl
  |2,_=>by kernel_rfl
  |3,_=>by kernel_rfl,hk j hj⟩,E⟩
 unfold Ř at h;obtain⟨z,rows,w,_,hr,h⟩:=FQ N 5 15 [] _ (by decide) (λs q=>eN q) h;obtain⟨fin,f1,hf,h⟩:=Ig S p E hb hh zd [] _ (λn hn=>dM.mp (show n∈cQ 16 from hn)) (λs q=>eN q) h;obtain⟨q1,o1,l1,z1,h⟩:=CN hr h;obtain⟨q2,o2,l2,z2,h⟩:=CN hf h;obtain⟨n1,h⟩:=dB h;obtain⟨n2,h⟩:=dB h;obtain⟨a,eq⟩:=dB h;refine .mk S.u S.e5 S.hx S.e8 ke (AL D 0) (AL D 1) (AL D 2) (AL D 3) S.e9 (S.a 0 (by decide)) (S.a 1 (by decide)) (S.a 2 (by decide)) (S.a 3 (by decide)) (lU rows) (lU fin) (zO z) ?_ ⟨S.k1,S.k2⟩ f1 S.p1 S.p2 (YO hr) (λx hx=>?_) (λe=>?_) q1 q2 o1 o2 ?_ (Ik l1 l2 eq) z1 z2
 ·have e:kM 15=sS "abcd":=by kernel_rfl
  exact e▸w
 ·obtain⟨y,hy,rfl⟩:=bY.mp hx
  have m16:=(hf y hy).1;have M:=n7 m16;have ay:=aB.mp a y hy;refine⟨M.c.symm▸M.cl,M.u,M.t,?_⟩;show gZ (lU rows) (aX (cX (wP (kM y.1))))= .str (zS y.2);rw[M.c,uc m16 hr];cases e:Hy rows y.1 with
  |none=>rw[e]at ay;exact bj ay
  |some v=>
   rw[e]at ay;rw[<-aZ ay];rfl
 ·obtain rfl:=List.map_eq_nil_iff.mp e
  exact bj n1
 ·cases rows with
  |nil=>exact bj n2
  |cons=>exact eD (bC _)
end
section
set_option backward.match.sparseCases true
open PySem.Builtin
open PySem.Builtin.Str
noncomputable def o?(D:LD)(j:Nat):List Nat:=rW (bz ((sj (mB D) ((ix (mB D) (97+j) 0).getD 0) ((lN (mB D) (97+j)).getD 0)).getD []) 0 false)
noncomputable abbrev r3:List Nat:=[0,1,2]
noncomputable def Ĳ(pb pc pd:Nat):List Nat:=r4.map λj=>Tb (o? (bare (pS pb) (pS pc) (pS pd)) j)
noncomputable def ś(pb pc pd:Nat):List (List (List Nat)):=zd.map λn=>bif EJ [4,pb,pc,pd] n then(î (bare (pS pb) (pS pc) (pS pd)) (n:Int)).us else[]
noncomputable def lh(pb pc pd:Nat):Bool:=fL (Ĳ pb pc pd) λks=>fM (fM fL) (ś pb pc pd) λbu=>fL (Ax 1) λt1=>fL (Ax (-1)) λt2=>r3.all λo0=>r3.all λo1=>r3.all λo2=>r3.all λo3=>Ř t1 t2 [o0,o1,o2,o3] ks [4,pb,pc,pd] bu
theorem ŗ:lh 4 0 0=true:=by kernel_rfl
theorem Ŗ:lh 4 0 1=true:=by kernel_rfl
theorem ŕ:lh 4 0 2=true:=by kernel_rfl
theorem Ŕ:lh 4 1 0=true:=by kernel_rfl
theorem œ:lh 4 1 1=true:=by kernel_rfl
theorem Œ:lh 4 1 2=true:=by kernel_rfl
theorem ő:lh 0 0 0=true:=by kernel_rfl
theorem Ő:lh 0 0 1=true:=by kernel_rfl
theorem ŏ:lh 0 0 2=true:=by kernel_rfl
theorem Ŏ:lh 0 1 0=true:=by kernel_rfl
theorem Zs:lh 0 1 1=true:=by kernel_rfl
theorem Zr:lh 0 1 2=true:=by kernel_rfl
theorem MY:(([4,0]:List Nat).all λpb=>([0,1]:List Nat).all λpc=>([0,1,2]:List Nat).all λpd=>lh pb pc pd)=true:=all2 (all2 (Af ŗ Ŗ ŕ) (Af Ŕ œ Œ)) (all2 (Af ő Ő ŏ) (Af Ŏ Zs Zr))
end
variable{T:Int}
section
set_option backward.match.sparseCases true
open PySem.Builtin
open PySem.Builtin.Str
theorem xx(h:T∈rE):∃o∈r3,T=yE o:=(Mine.a1 (C:=λT=>∃o∈r3,T=yE o) ⟨0,ah,rfl⟩ (Mine.a1 (C:=λT=>∃o∈r3,T=yE o) ⟨1,af _ ah,rfl⟩ (Mine.a1 (C:=λT=>∃o∈r3,T=yE o) ⟨2,af _ (af _ ah),rfl⟩ Mine.a0))) T h
theorem WC{b:ax}(h:b∈[sS "",cb 0]):∃p∈([4,0]:List Nat),p<5∧b=pS p:=(Mine.a1 (C:=λb=>∃p∈([4,0]:List Nat),p<5∧b=pS p) ⟨4,ah,by decide,by kernel_rfl⟩ (Mine.a1 (C:=λb=>∃p∈([4,0]:List Nat),p<5∧b=pS p) ⟨0,af _ ah,by decide,by kernel_rfl⟩ Mine.a0)) b h
theorem Wz{b:ax}(h:b∈[cb 0,cb 1]):∃p∈([0,1]:List Nat),p<5∧b=pS p:=(Mine.a1 (C:=λb=>∃p∈([0,1]:List Nat),p<5∧b=pS p) ⟨0,ah,by decide,by kernel_rfl⟩ (Mine.a1 (C:=λb=>∃p∈([0,1]:List Nat),p<5∧b=pS p) ⟨1,af _ ah,by decide,by kernel_rfl⟩ Mine.a0)) b h
theorem Wy{b:ax}(h:b∈[cb 0,cb 1,cb 2]):∃p∈r3,p<5∧b=pS p:=(Mine.a1 (C:=λb=>∃p∈r3,p<5∧b=pS p) ⟨0,ah,by decide,by kernel_rfl⟩ (Mine.a1 (C:=λb=>∃p∈r3,p<5∧b=pS p) ⟨1,af _ ah,by decide,by kernel_rfl⟩ (Mine.a1 (C:=λb=>∃p∈r3,p<5∧b=pS p) ⟨2,af _ (af _ ah),by decide,by kernel_rfl⟩ Mine.a0))) b h
theorem H5{F:Nat->β}{d:β}(h:n<16):(zd.map F).getD n d=F n:=by
 have e:zd[n]? =some n:=i5 h;rw[bm,bv,e];rfl
theorem My{F:Nat->Nat}(h:j<4):(r4.map F).getD j 0=F j:=by
 have e:r4[j]? =some j:=i5 h;rw[bm,bv,e];rfl
theorem KR(h:n<16):(n:Int)∈OA:=bY.mpr (⟨n,i7 h,rfl⟩:∃a,a∈zd∧((a:Nat):Int)=(n:Int))
theorem pf_all(sc:List AV)(D:LD)(h:EW D):∀T0∈rE,∀T1∈rE,∀T2∈rE,∀T3∈rE,PF sc D T0 T1 T2 T3:=λT0 h0 T1 h1 T2 h2 T3 h3=>by
 obtain⟨o0,m0,e0⟩:=xx h0;obtain⟨o1,m1,e1⟩:=xx h1;obtain⟨o2,m2,e2⟩:=xx h2;obtain⟨o3,m3,e3⟩:=xx h3;obtain⟨pb,b1,b2,b3⟩:=WC h.hb;obtain⟨pc,c1,c2,c3⟩:=Wz h.hc;obtain⟨pd,d1,d2,d3⟩:=Wy h.hd;obtain⟨ke,S⟩:=Gs h;have C:lh pb pc pd=true:=aB.mp (aB.mp (aB.mp MY pb b1) pc c1) pd d1;unfold lh at C;rw[lu,wD (wD lu),lu,lu]at C;have C:=aB.mp (aB.mp (aB.mp (aB.mp C o0 m0) o1 m1) o2 m2) o3 m3;have P:wM D [4,pb,pc,pd]:=⟨λj hj=>match j,hj with
  |0,_=>by show 4<5;decide
  |1,_=>b2
  |2,_=>c2
  |3,_=>d2,λj hj=>match j,hj with
  |0,_=>by kernel_rfl
  |1,_=>show(ij D).lookup (cb 1)=some (.str (pS pb))from b3▸(by kernel_rfl)
  |2,_=>show(ij D).lookup (cb 2)=some (.str (pS pc))from c3▸(by kernel_rfl)
  |3,_=>show(ij D).lookup (cb 3)=some (.str (pS pd))from d3▸(by kernel_rfl)⟩
 have E:∀j,j<4->(hU T0 T1 T2 T3).lookup (cb j)=some (.int (yE ([o0,o1,o2,o3].getD j 0))):=λj hj=>match j,hj with
  |0,_=>show(hU T0 T1 T2 T3).lookup (cb 0)=some (.int (yE o0))from e0▸(by kernel_rfl)
  |1,_=>show(hU T0 T1 T2 T3).lookup (cb 1)=some (.int (yE o1))from e1▸(by kernel_rfl)
  |2,_=>show(hU T0 T1 T2 T3).lookup (cb 2)=some (.int (yE o2))from e2▸(by kernel_rfl)
  |3,_=>show(hU T0 T1 T2 T3).lookup (cb 3)=some (.int (yE o3))from e3▸(by kernel_rfl)
 have eb:bare D.b D.c D.d=bare (pS pb) (pS pc) (pS pd):=by rw[<-b3,<-c3,<-d3]
 have tb:=(dB (aB.mp (aB.mp (aB.mp CG D.b h.hb) D.c h.hc) D.d h.hd)).2;refine Wx (ks:=Ĳ pb pc pd) (bu:=ś pb pc pd) S P E (λn hn hc=>?_) (λn hn=>?_) (λj hj m hm=>?_) C
 ·unfold ś
  rw[H5 hn,hc,<-eb];rfl
 ·obtain⟨t1,t⟩:=dB (aB.mp tb (n:Int) (KR hn))
  obtain⟨t2,t⟩:=dB t;exact⟨t1,ae t2,(dB t).1⟩
 ·unfold Ĳ
  rw[My hj,<-eb];exact⟨Me hm (o? (bare D.b D.c D.d) j),(C9 hm _).1⟩
end
end Mine.LW
theorem PySem.Challenge.cw_ti0074_01_holds : PySem.Challenge.rw_ti0074_01.Holds :=
  Mine.law_holds Mine.LW.pf_all
