import PyProof.Rows.All
import Wide.All
import OpenK.AllK
import Wide.FinOn
import KE.KBytesWalk
import KE.BytesMake
import PyProof.IsiH_dict
import PyProof.IsiH_set
import KE.KSortTup
import KE.KDictLaws
import KE.KWords
import Lean
import PySem.Challenge.RW_wz0046_01
set_option Elab.async false
set_option linter.all false
set_option maxRecDepth 100000
set_option maxHeartbeats 8000000
set_option compiler.extract_closed false
set_option genSizeOf false
set_option genInjectivity false
namespace Mine
open Array renaming length_toList->aP,getElem?_toList->bN,mem_toList_iff->f6,any_toList->ie,toList_inj->ii,getElem?_eq_getElem->jy,toList_append->jE,replicate->mB,eraseIdxIfInBounds_eq->mW,size_append->nJ,ext'->su,toList_push->tB,all_eq_true_iff_forall_mem->tO,toList_eraseIdx->CJ,isEmpty->Q6
open BEq renaming comm->ahS
open Bool renaming true->aj,and_eq_true->bg,false_eq_true->ev,false_ne_true->fo,or_eq_true->fO,eq_iff_iff->gj,or_false->hH,and_true->iX,and_false->k8,or_eq_false_iff->mn,decide_and->pD,noConfusion->vq,not_true->AV,and_assoc->Q0
open Classical renaming byContradiction->je
open Eq renaming refl->lw,symm->FJ
open ForIn renaming forIn->Fo
open Function renaming comp->LI
open Iff renaming mpr->Ff
open Inhabited renaming default->rl
open Int renaming natCast_nonneg->bc,ofNat_le->bj,lt_of_le_of_lt->bn,toNat->br,toNat_natCast->cC,le_trans->cJ,ofNat->cS,ofNat_lt->cT,not_lt->dv,zero_add->eb,eq_ofNat_of_zero_le->eh,lt_trans->fh,ofNat_sub->hV,self_le_toNat->jc,toNat_of_nonneg->jP,le_refl->kG,max_eq_right->l5,toNat_sub->mj,ofNat_inj->ml,le_antisymm->mO,le_of_lt->nh,natCast_mul->pH,sub_nonneg_of_le->rk,mul_one->rq,add_comm->uG,ediv_one->uI,one_mul->wJ,add_nonneg->zL,sub_zero->Fg,sub_eq_iff_eq_add->FL,add_sub_cancel->Lw,sub_le_self->QW,neg_neg->YK
open LawfulBEq renaming eq_of_beq->h7
open Lean renaming Syntax->bR
open List renaming length_map->af,getD_eq_getElem?_getD->ak,mem_map->am,mem_singleton->ao,getElem?_map->aq,mem_append_right->av,map_cons->ax,getElem?_eq_getElem->ay,map_map->aE,map_congr_left->aI,map_append->aJ,range->aL,length_append->aM,length_range->aO,mem_range->aR,mem_cons_of_mem->aY,mem_of_getElem?->aZ,length_cons->be,mem_cons->bf,length_take->bh,mem_append_left->bp,append_nil->bD,mem_cons_self->bH,mem_append->bO,nodup_cons->bV,append_assoc->bW,not_mem_nil->b_,replicate->ck,sum_cons->cy,take_add_one->cA,length_drop->cH,flatMap_cons->cI,length_reverse->dj,take_length->dn,lookup_cons->dC,mem_filter->dM,getElem?_range->dR,length_filter_le->dS,nodup_append->dZ,getElem_range->ew,forIn_cons->eC,intercalate->eF,flatten_cons->eT,foldl_append->eU,getElem?_drop->fj,ext_getElem->fv,getElem_map->fw,zipWith->fJ,mem_of_mem_take->f8,reverse_cons->gg,size_toArray->gi,range_succ->gk,foldl_cons->gm,sum_append->gp,find?_cons->gr,take_of_length_le->gz,cons_ne_nil->gE,drop_zero->gQ,perm_append_comm->gV,length_pos_iff->ik,replicate_succ->im,any_eq_true->ip,filter_cons->iq,mem_flatMap->iu,cons_append->iw,eq_nil_of_length_eq_zero->iM,range_succ_eq_map->iN,nodup_nil->jk,getElem?_eq_none_iff->jB,drop_eq_getElem_cons->jC,exists_mem_of_ne_nil->jF,filterMap_cons->jI,flatMap_append->jJ,nil_append->kh,map->k0,length_pos_of_mem->k_,sublist_cons_self->la,getElem_drop->lb,filterMap_append->lI,contains_iff_mem->lJ,map_flatMap->lM,flatMap_map->lN,map_reverse->lO,length->mm,drop_succ_cons->mT,getElem_of_mem->mV,any_map->m6,filterMap_map->nj,getElem_take->nW,sublist_append_left->n7,perm_middle->oG,map_snd_zip->oH,flatMap_singleton->pq,getElem?_reverse->pI,map_id->qZ,mem_of_mem_drop->ra,take_succ_cons->rN,getElem?_take->sy,eraseIdx_append_of_length_le->tL,findIdx?_eq_some_iff_getElem->tN,ext_getElem?->tU,map_nil->t6,pairwise_map->t7,drop_length->vz,intersperse->vE,mem_reverse->vF,length_nil->wO,getElem?_concat_length->yK,getElem?_append_right->yW,drop_drop->yX,getElem?_append_left->zM,map_drop->AT,map_take->AU,pairwise_lt_range->CH,singleton_append->Fy,getElem?_eq_none->FH,reverse_reverse->FS,getD_cons_zero->HG,findIdx?_cons->Ju,length_zipIdx->JD,flatMap_assoc->JE,ne_nil_of_mem->JF,isEmpty_cons->LP,zipIdx_cons->Mk,getElem_mem->Mm,forIn_nil->QY,zip->Q3,take_left->Ra,take_add->TU,Nodup->Y3
open List.Mem renaming head->qz
open List.Pairwise renaming nil->pA
open List.Perm renaming swap->HM
open List.Sublist renaming append->oF,refl->zx
open List.cons renaming inj->gZ,injEq->FT
open Nat renaming le_trans->ab,le_refl->al,le_of_ble_eq_true->ap,zero_le->au,lt_of_le_of_lt->az,lt_of_lt_of_le->aB,le_of_lt->aF,le_of_eq->aH,succ_le_succ->aK,le_add_right->bi,add_comm->bx,le_antisymm->bA,add_le_add_left->bF,ne_of_lt->bJ,add_le_add_right->bX,lt_succ_of_le->bY,lt_succ_self->cb,le_of_lt_succ->cg,sub_le->cq,mul_le_mul_right->cw,le_succ->cB,sub_sub_self->cV,add_sub_of_le->cX,zero_lt_of_lt->cY,add_le_add->c_,sub_le_sub_right->dq,sub_pos_of_lt->dr,sub_add_cancel->du,min_eq_left->dB,lt_trans->dI,lt_or_ge->dJ,le_add_left->dP,le_of_succ_le->d_,pos_of_ne_zero->eA,lt_of_lt_of_eq->eB,min_le_right->eI,ne_of_gt->eJ,sub_self->eK,lt_succ_of_lt->eY,add_assoc->fa,succ_mul->fK,not_lt_of_ge->fY,ble->f4,lt_irrefl->f5,sub_zero->f7,succ_pos->gA,succ_lt_succ->gM,sub_le_of_le_add->g_,succ_add_eq_add_succ->hW,not_lt->iR,add_lt_of_lt_sub'->i6,le_sub_one_of_lt->js,sub_lt->jt,one_pos->ju,zero_add->jA,sub_lt_sub_left->jO,add_left_cancel->jQ,min_le_left->kz,not_lt_zero->kB,noConfusion->kC,sub_add_sub_cancel->ll,lt_of_sub_eq_succ->lL,succ->oZ,add_sub_cancel_left->o6,div_eq_of_lt->o8,succ_ne_zero->o_,sub_eq_zero_of_le->qr,pow_le_pow_right->rr,eq_zero_or_pos->tK,mul_comm->uL,zero_mul->uM,mod_eq_of_lt->wd,mul_add_div->yJ,cast->zt,le_of_add_le_add_left->AK,lt_add_of_pos_right->CE,le_mul_of_pos_right->CI,le_total->Fh,beq->Fi,le_of_sub_eq_zero->FK,add_le_of_le_sub'->FM,le_add_of_sub_le->Hx,add_sub_add_left->HA,casesOn->HB,mul_le_mul_left->Jq,add_sub_cancel->Lu,lt_of_le_of_ne->Lv,le_succ_of_le->LV,lt_of_succ_lt->Mn,min_eq_right->Qu,mul_add_mod->Q5,succ_sub->X_,add_zero->Ym,log2_lt->YJ,pred->ahL
open Nat.le renaming step->ke,refl->no
open Nat.succ renaming inj->ky
open Ne renaming symm->zw
open Option renaming some->ae,none->ah,map_eq_some_iff->aT,none->ce,getD_some->lx,elim->CG
open Option.some renaming inj->bq
open Or renaming elim->dy
open Prod renaming snd->tQ,fst->yP
open Prod.mk renaming injEq->yw
open Pure renaming pure->bB
open PyProof.Rows renaming Attribute_any_->me,Subscript_->mQ,spliced_more->nV,Call_->qw,AllBare->tP,subscriptTail->vy,IntsAre->LB,Assign_Tuple->ahO
open PySem renaming wpAny_bind->aa,wpAny_pure->ag,starEach->aw,sizeLine->aA,wpAny_mono->aC,wpAny->aD,wpAny_holding->aQ,Value->aW,keywordEach->aX,mainGlobals->a_,backTo->bb,Shared->bk,foldedSetIterable->bm,builtinLookup_eq_fast->bt,Str->bC,eval->bG,wpAny_ite_false->bI,backToKw->bK,wpAny_of_eq->bP,callWith->bS,Addr->cj,wpAny_truthy_bool->cm,typeLookup_type->cp,FuncData->cv,codeAny_call_builtin->cz,wpAny_items_nil->cE,wpAny_standAt->cF,bootBuiltins->cN,wpAny_specialOf->cP,wpAny_field->cR,wpAny_call->df,isSubtype_type->dg,typeLookup->ds,wpAny_ite_true->dw,Builtin->dF,attributeBase->dG,wpAny_newObj_type->dH,model->dL,wpAny_seqItems->dX,wpAny_call_entry->ec,wpAny_isTrue_Compare1->eg,call->er,wpAny_callSpecial?_slot->eE,checkBuiltinCall->eV,wpAny_isInstance->eW,subscripted->fb,wpAny_Call_method->fc,swapsWith->fi,checkBoundCall->fu,standAt->fy,typeOf->fA,isInstance->fB,wpAny_loadName_local->fG,sizeLine_eq->fW,sysModules->f_,wpAny_items_cons->f',Expr->gw,holding->gy,wpAny_updateSeq->gC,entryFor->gN,codeAny->gU,codeAny_of_tree->h6,getMethod->h8,codeAny_builtin->h9,getItem->ig,Keyword->ij,builtinsNs->iy,wpAny_Name->iz,behindInMarks->iA,wpAny_rule->iB,wpAny_attempt->iD,plainId_quiet->iE,plainObj_wpAny_Assign_Attribute->iG,sliceBounds->i3,builtinKind->i4,codeAny_mono->i8,wpAny_load->i_,ks_wpAt_execs_cons->ja,cLine->jj,isSubtype->jl,specialOf->jm,assign->jw,letTemporaryGo->jR,interactive->jS,importBound->jU,argsOk->jV,BindsTo->kf,entryFor_of_tree->kg,OsState->kZ,operate->k9,Heap->lm,slot_listiter_next->lq,Program->l6,pyNext->l8,wpAny_typeOf->l9,getAttr->l_,wpAny_loadPart->mf,Stmt->mA,table->mF,Around->mP,wpAny_askSetting->mS,swappedStores->m4,getAttrByItsOwn->nx,seqIndex?->n5,assignEach->ow,newFunctionEnv->oy,again->oz,typeNameOf->oA,wpAny_Return_some->pn,sliceBounds_plain->po,comprehension->pB,World->qu,DictEntry->qv,cellsFrom->qx,opaqueClassAbove->qy,sliceRange->rm,pyIter->rn,call_meets->rp,wpAny_Assign_Subscript->ru,importedModules->rK,wpAny_loadPart'->rM,wpAny_allTrue_Or_cons->sq,assign->tC,wpAny_bindName->tE,raiseErrorMade->tG,wpAny_tryCatch->tH,wpAny_setField->tJ,wpAny_letGo->tM,slicePick->tR,strValues->tW,callerA->tZ,Obj->uJ,wpAny_isTrue_BoolOp->uK,builtinType_eq_fast->uN,execs->vA,swapsWithSole->vB,wpAt_of_wpAny->vD,wpAny_Constant_int->v7,wpAny_Constant_str->v8,wpAny_isTrue_value->v9,IsPart->v_,typeIs_str->wi,spliced->yx,wpAny_pyIter_list->yy,wpAny_Assign_Name->yB,Slot->yC,wpAny_mkText->yD,valueAt->yE,call_meetsIn->yF,plainId->yH,wants->yI,classOwn->yL,wpAny_execs_cons->zy,wpAny_lookBehind->zA,exec_Assign_Name->zD,wpAny_Tuple->AM,wpAny_alloc->AN,wpAny_point->AO,bindSpecial->AR,recursionLimit->Fn,wpAny_List->Fp,Scope->Ft,closureFor->Fu,wpAny_If->Fx,clipAt->Fz,bindArgs->FC,entryFor_alias->FD,typeIs_int->FE,callType_codes->FF,codeAny_call_builtin_code->FP,wpAny_getItem_list_slice->HC,assignInOrder->HD,wpAny_assignInOrder_none->HE,wpAny_assignInOrder_more->HF,checkTypeCall->HJ,Sem->Js,wpAny_ite->Jv,small_one->Jw,codeAny_call_builtin_at->Jy,newFields->Jz,onTheHeap->JB,truthy->Ly,wpAny_allTrue_And_cons->Lz,Result->LF,meets_dict_get_default->LH,splitId->LJ,callSpecial?->LK,rawInt->LL,codeAny_builtin_stack->Me,ks_codeAny_call_bound->Mh,wpAny_allTrue_Or_nil->Qx,wpAny_letTemporaryGo->Qy,evalArgs->Qz,ret->QB,builtinType->QK,wpAny_loadName_free->QZ,bindSpecialIfBound?->Q4,preSum->TO,WalksT->TP,PlainAttrs->TQ,TypeCalled->TS,slicePick_size_le->VF,setItem->VI,wpAny_pyIter_slot->VJ,wpAny_sequenceKey->VK,mroOf->VL,wpAny_collect_seq->VM,object_init_meets->VP,compareOp->Yc,meets_dict_items->Yh,entry_len->Yn,callGetattribute->Yp,wpAny_operating->YE,wpAny_tests_nil->YH,updateBytearray->YM,wpAny_iadd_int->aeV,entry_typeCall->aeX,firstArgMember->aeY,isSubtype_stop->aeZ,wpAny_cRoomFor->ae1,boundAndCalled->ae5,wpAny_UnaryOp->afa,wpAny_newList->afb,wpAny_handled->afe,wpAny_release->aff,name_of_addr->ahM,wpAny_update->ahR,wpAny_BinOp->ÿ,wpAny_throw->Ē,madeBy_type->ĕ,wpAny_mkInt->ě
open PySem.Around renaming under_plainId->pG
open PySem.AutoSeq1 renaming sub_tuple_tuple->wM
open PySem.Bind renaming madeBy->FO,staticBase->QI,checkArgs->Q8
open PySem.Builtin renaming divisionGoesByPylong->f9,bitAnd->Lx
open PySem.Builtin.Int renaming intBits->i7
open PySem.Builtin.List renaming listSameRef->mD,listExtendWith->sr
open PySem.Builtin.Range renaming rangeSize->bQ,small->eo,rangeFitsLong->iv
open PySem.Builtin.Str renaming glued->dz,tooLong->i9,spaceWords->nz
open PySem.Calls renaming loadGlobal_builtin->wa,call_function_entry->yT,loadGlobal_global->VE,evalArgs_plain->aeT
open PySem.Challenge renaming pw_wz0046_01->bE
open PySem.Code renaming quiet_builtin->kA
open PySem.Data renaming pastItsLine->L0
open PySem.F renaming plainAttrs_str->cQ,slot_str_join->fN,slot_list_append->fU,type_list_append->fV,type_str_join->gF,plainAttrs_list->hZ,slot_list_extend->jD,plainAttrs_dict->j4,slot_dict_items->j5,type_list_extend->nr,slot_dict_get->o7,slot_list_pop->o9,type_list_pop->pc,args_list_getattribute_2->sv,args_dict_items_1->wN,entry_dict_items->yG,slot_str_isspace->yM,type_str_isspace->yN,type_dict_items->yR,slot_list_index->yV,entry_dict_get->zB,entry_list_pop->zE,slot_str_split->zI,entry_list_ga->AS,entry_object_init->Mf
open PySem.Fin renaming again->afd
open PySem.Heap renaming get?_push_of_some->aN,get?_push_size->aS,get?_none_of_le->aV,get?_update_self->cK,lt_size->db,size_push->e_,SameBut->iO,get?_update_other->lg,ExtBut->wc
open PySem.Heap.SameBut renaming update->cW
open PySem.Manifest renaming signature?->mh,canonical->CK
open PySem.NameKind renaming cell->wK
open PySem.Obj renaming mapSeq->cn,data_mapFields->nt,isFreed_of_fields->FR,cls_mapFields->Mc,mapBytearray->QC
open PySem.P renaming len_str->ā
open PySem.SeqAt renaming EqAt->TM,notIn_listAt->ahN
open PySem.SeqAt.EqAt renaming int_int->CF,same->LY
open PySem.Shared renaming TypeIs->QJ
open PySem.Str renaming ofString->bo,length->LA
open PySem.Txt renaming isspace->eZ,strip->iC,mul->n4,words->rO,join->uP
open PySem.Unicode renaming isSpace->cD
open PySem.Value renaming ref->ef,none->eN,type->eO,builtin->nY,str->q_,int->LD
open PySem.W renaming emptyDict->cO,Looks->cU,looks_findIn->dQ,looks_mroIn->il,check_slot->i',methodCall_KW->kX,ks_loadName_global->ln,nsIn->l7,findIn->mU,looks_clsIn->ni,Frag->np,methodObj->n6,notCls->rt,hasDictIn->tY,keepIn->wb,lookIn->FA,handed_on->Jx,looks_typeIn->LQ,handedIn->QD,findObj_own->QF,ks_superObj->QO,ns_none_of->TN,putL->TR,bind_fn->VG,looks_specialIn->YR,looks_instIn->ahT,nd_load->ZA,mg_of->ô
open PySem.W.Looks renaming ld->jW,of_pure->nX
open PySem.callAny renaming viaDunder->FQ
open ToString renaming toString->kY
@[elab_as_elim] theorem Ĝ.{u}{α:Sort u}{b:α}{motive:α->Prop}(k:motive b){a:α}(h:a=b):motive a:=h▸k
@[elab_as_elim] theorem ĝ.{u}{α:Sort u}{a:α}{motive:α->Prop}(k:motive a){b:α}(h:a=b):motive b:=h▸k
theorem tt:aj=true:=rfl
theorem dN{n m:Nat}(h:f4 n m=aj):n<=m:=ap h
theorem dD{p:Prop} [Decidable p](h:decide p=aj):p:=of_decide_eq_true h
theorem nS.{u}{α:Type u}{a:α}{g:Prop}(h:ah=ae a):g:=Option.noConfusion rfl<|heq_of_eq h
theorem sN.{u}{α:Type u}{a:α}{g:Prop}(h:ae a=ah):g:=Option.noConfusion rfl<|heq_of_eq h
theorem tF{g:Prop}(h:aj=false):g:=vq h
theorem fT{g:Prop}(h:false=aj):g:=vq h
@[elab_as_elim] theorem eQ.{u}{α:Type u}{a:α}{l:List α}{motive:α->Prop}{b:α}(h:b∈a::l)(k:motive a)(r:b∈l->motive b):motive b:=(bf.mp h).elim (λe=>e▸k) r
@[elab_as_elim] theorem g7.{u,v}{α:Type u}{β:Type v}{f:α->β}{l:List α}{motive:β->Prop}{b:β}(h:b∈l.map f)(k:∀a,a∈l->motive (f a)):motive b:=(am.mp h).elim λa e=>e.2▸k a e.1
theorem fm.{u}{α:Type u}{p:α->Prop}{a:α}{l:List α}(h:p a)(k:∀x∈l,p x):∀x∈a::l,p x:=List.forall_mem_cons.mpr ⟨h,k⟩
theorem uR.{u}{α:Type u}{p:α->Prop}:∀x∈([]:List α),p x:=λ_ m=>absurd m b_
theorem bu(h:p/\q){g:Prop}(k:p->q->g):g:=k h.1 h.2
theorem afj(H:p)(I:q):p/\q:=⟨H,I⟩
theorem gR(h:p/\q/\r){g:Prop}(k:p->q->r->g):g:=k h.1 h.2.1 h.2.2
theorem afk(H:p)(I:q)(J:r):p/\q/\r:=⟨H,I,J⟩
theorem sB(h:p/\q/\r/\o){g:Prop}(k:p->q->r->o->g):g:=k h.1 h.2.1 h.2.2.1 h.2.2.2
theorem afl(H:p)(I:q)(J:r)(K:o):p/\q/\r/\o:=⟨H,I,J,K⟩
theorem Rc(h:p/\q/\r/\o/\n){g:Prop}(k:p->q->r->o->n->g):g:=k h.1 h.2.1 h.2.2.1 h.2.2.2.1 h.2.2.2.2
theorem afm(H:p)(I:q)(J:r)(K:o)(L:n):p/\q/\r/\o/\n:=⟨H,I,J,K,L⟩
theorem afn(h:p/\q/\r/\o/\n/\m){g:Prop}(k:p->q->r->o->n->m->g):g:=k h.1 h.2.1 h.2.2.1 h.2.2.2.1 h.2.2.2.2.1 h.2.2.2.2.2
theorem afo(H:p)(I:q)(J:r)(K:o)(L:n)(M:m):p/\q/\r/\o/\n/\m:=⟨H,I,J,K,L,M⟩
theorem afp(h:p/\q/\r/\o/\n/\m/\l){g:Prop}(k:p->q->r->o->n->m->l->g):g:=k h.1 h.2.1 h.2.2.1 h.2.2.2.1 h.2.2.2.2.1 h.2.2.2.2.2.1 h.2.2.2.2.2.2
theorem afq(H:p)(I:q)(J:r)(K:o)(L:n)(M:m)(N:l):p/\q/\r/\o/\n/\m/\l:=⟨H,I,J,K,L,M,N⟩
theorem Y4(h:p/\q/\r/\o/\n/\m/\l/\i){g:Prop}(k:p->q->r->o->n->m->l->i->g):g:=k h.1 h.2.1 h.2.2.1 h.2.2.2.1 h.2.2.2.2.1 h.2.2.2.2.2.1 h.2.2.2.2.2.2.1 h.2.2.2.2.2.2.2
theorem afr(H:p)(I:q)(J:r)(K:o)(L:n)(M:m)(N:l)(O:i):p/\q/\r/\o/\n/\m/\l/\i:=⟨H,I,J,K,L,M,N,O⟩
theorem cc{p:a->Prop}(h:∃x,p x){g:Prop}(k:∀x,p x->g):g:=h.elim λx h=>k x h
theorem afs{p:a->Prop}(x:a)(H:p x):∃x,p x:=⟨x,H⟩
theorem aU{p q:a->Prop}(h:∃x,p x/\q x){g:Prop}(k:∀x,p x->q x->g):g:=h.elim λx h=>bu h<|k x
theorem aft{p q:a->Prop}(x:a)(H:p x)(I:q x):∃x,p x/\q x:=⟨x,afj H I⟩
theorem ix{p q r:a->Prop}(h:∃x,p x/\q x/\r x){g:Prop}(k:∀x,p x->q x->r x->g):g:=h.elim λx h=>gR h<|k x
theorem afu{p q r:a->Prop}(x:a)(H:p x)(I:q x)(J:r x):∃x,p x/\q x/\r x:=⟨x,afk H I J⟩
theorem AX{p q r o:a->Prop}(h:∃x,p x/\q x/\r x/\o x){g:Prop}(k:∀x,p x->q x->r x->o x->g):g:=h.elim λx h=>sB h<|k x
theorem afv{p q r o:a->Prop}(x:a)(H:p x)(I:q x)(J:r x)(K:o x):∃x,p x/\q x/\r x/\o x:=⟨x,afl H I J K⟩
theorem VT{p q r o n:a->Prop}(h:∃x,p x/\q x/\r x/\o x/\n x){g:Prop}(k:∀x,p x->q x->r x->o x->n x->g):g:=h.elim λx h=>Rc h<|k x
theorem afw{p q r o n:a->Prop}(x:a)(H:p x)(I:q x)(J:r x)(K:o x)(L:n x):∃x,p x/\q x/\r x/\o x/\n x:=⟨x,afm H I J K L⟩
theorem Y5{p q r o n m:a->Prop}(h:∃x,p x/\q x/\r x/\o x/\n x/\m x){g:Prop}(k:∀x,p x->q x->r x->o x->n x->m x->g):g:=h.elim λx h=>afn h<|k x
theorem afx{p q r o n m:a->Prop}(x:a)(H:p x)(I:q x)(J:r x)(K:o x)(L:n x)(M:m x):∃x,p x/\q x/\r x/\o x/\n x/\m x:=⟨x,afo H I J K L M⟩
theorem afy{p q r o n m l:a->Prop}(h:∃x,p x/\q x/\r x/\o x/\n x/\m x/\l x){g:Prop}(k:∀x,p x->q x->r x->o x->n x->m x->l x->g):g:=h.elim λx h=>afp h<|k x
theorem afz{p q r o n m l:a->Prop}(x:a)(H:p x)(I:q x)(J:r x)(K:o x)(L:n x)(M:m x)(N:l x):∃x,p x/\q x/\r x/\o x/\n x/\m x/\l x:=⟨x,afq H I J K L M N⟩
theorem afA{p q r o n m l i:a->Prop}(x:a)(H:p x)(I:q x)(J:r x)(K:o x)(L:n x)(M:m x)(N:l x)(O:i x):∃x,p x/\q x/\r x/\o x/\n x/\m x/\l x/\i x:=⟨x,afr H I J K L M N O⟩
theorem sC{p:a->b->Prop}(h:∃x y,p x y){g:Prop}(k:∀x y,p x y->g):g:=h.elim λx h=>cc h<|k x
theorem CN{p:a->b->Prop}(x:a)(y:b)(H:p x y):∃x y,p x y:=⟨x,afs y H⟩
theorem j7{p q:a->b->Prop}(h:∃x y,p x y/\q x y){g:Prop}(k:∀x y,p x y->q x y->g):g:=h.elim λx h=>aU h<|k x
theorem rP{p q:a->b->Prop}(x:a)(y:b)(H:p x y)(I:q x y):∃x y,p x y/\q x y:=⟨x,aft y H I⟩
theorem gc{p q r:a->b->Prop}(h:∃x y,p x y/\q x y/\r x y){g:Prop}(k:∀x y,p x y->q x y->r x y->g):g:=h.elim λx h=>ix h<|k x
theorem t9{p q r:a->b->Prop}(x:a)(y:b)(H:p x y)(I:q x y)(J:r x y):∃x y,p x y/\q x y/\r x y:=⟨x,afu y H I J⟩
theorem mG{p q r o:a->b->Prop}(h:∃x y,p x y/\q x y/\r x y/\o x y){g:Prop}(k:∀x y,p x y->q x y->r x y->o x y->g):g:=h.elim λx h=>AX h<|k x
theorem vG{p q r o:a->b->Prop}(x:a)(y:b)(H:p x y)(I:q x y)(J:r x y)(K:o x y):∃x y,p x y/\q x y/\r x y/\o x y:=⟨x,afv y H I J K⟩
theorem afB{p q r o n:a->b->Prop}(h:∃x y,p x y/\q x y/\r x y/\o x y/\n x y){g:Prop}(k:∀x y,p x y->q x y->r x y->o x y->n x y->g):g:=h.elim λx h=>VT h<|k x
theorem Y6{p q r o n:a->b->Prop}(x:a)(y:b)(H:p x y)(I:q x y)(J:r x y)(K:o x y)(L:n x y):∃x y,p x y/\q x y/\r x y/\o x y/\n x y:=⟨x,afw y H I J K L⟩
theorem VU{p q r o n m:a->b->Prop}(h:∃x y,p x y/\q x y/\r x y/\o x y/\n x y/\m x y){g:Prop}(k:∀x y,p x y->q x y->r x y->o x y->n x y->m x y->g):g:=h.elim λx h=>Y5 h<|k x
theorem afC{p q r o n m:a->b->Prop}(x:a)(y:b)(H:p x y)(I:q x y)(J:r x y)(K:o x y)(L:n x y)(M:m x y):∃x y,p x y/\q x y/\r x y/\o x y/\n x y/\m x y:=⟨x,afx y H I J K L M⟩
theorem afD{p q r o n m l:a->b->Prop}(h:∃x y,p x y/\q x y/\r x y/\o x y/\n x y/\m x y/\l x y){g:Prop}(k:∀x y,p x y->q x y->r x y->o x y->n x y->m x y->l x y->g):g:=h.elim λx h=>afy h<|k x
theorem afE{p q r o n m l:a->b->Prop}(x:a)(y:b)(H:p x y)(I:q x y)(J:r x y)(K:o x y)(L:n x y)(M:m x y)(N:l x y):∃x y,p x y/\q x y/\r x y/\o x y/\n x y/\m x y/\l x y:=⟨x,afz y H I J K L M N⟩
theorem afF{p q r o n m l i:a->b->Prop}(x:a)(y:b)(H:p x y)(I:q x y)(J:r x y)(K:o x y)(L:n x y)(M:m x y)(N:l x y)(O:i x y):∃x y,p x y/\q x y/\r x y/\o x y/\n x y/\m x y/\l x y/\i x y:=⟨x,afA y H I J K L M N O⟩
theorem Rd{p:a->b->c->Prop}(h:∃x y z,p x y z){g:Prop}(k:∀x y z,p x y z->g):g:=h.elim λx h=>sC h<|k x
theorem Re{p:a->b->c->Prop}(x:a)(y:b)(z:c)(H:p x y z):∃x y z,p x y z:=⟨x,CN y z H⟩
theorem Mp{p q:a->b->c->Prop}(h:∃x y z,p x y z/\q x y z){g:Prop}(k:∀x y z,p x y z->q x y z->g):g:=h.elim λx h=>j7 h<|k x
theorem VV{p q:a->b->c->Prop}(x:a)(y:b)(z:c)(H:p x y z)(I:q x y z):∃x y z,p x y z/\q x y z:=⟨x,rP y z H I⟩
theorem Mq{p q r:a->b->c->Prop}(h:∃x y z,p x y z/\q x y z/\r x y z){g:Prop}(k:∀x y z,p x y z->q x y z->r x y z->g):g:=h.elim λx h=>gc h<|k x
theorem VW{p q r:a->b->c->Prop}(x:a)(y:b)(z:c)(H:p x y z)(I:q x y z)(J:r x y z):∃x y z,p x y z/\q x y z/\r x y z:=⟨x,t9 y z H I J⟩
theorem yY{p q r o:a->b->c->Prop}(h:∃x y z,p x y z/\q x y z/\r x y z/\o x y z){g:Prop}(k:∀x y z,p x y z->q x y z->r x y z->o x y z->g):g:=h.elim λx h=>mG h<|k x
theorem Y7{p q r o:a->b->c->Prop}(x:a)(y:b)(z:c)(H:p x y z)(I:q x y z)(J:r x y z)(K:o x y z):∃x y z,p x y z/\q x y z/\r x y z/\o x y z:=⟨x,vG y z H I J K⟩
theorem yZ{p q r o n:a->b->c->Prop}(h:∃x y z,p x y z/\q x y z/\r x y z/\o x y z/\n x y z){g:Prop}(k:∀x y z,p x y z->q x y z->r x y z->o x y z->n x y z->g):g:=h.elim λx h=>afB h<|k x
theorem Y8{p q r o n:a->b->c->Prop}(x:a)(y:b)(z:c)(H:p x y z)(I:q x y z)(J:r x y z)(K:o x y z)(L:n x y z):∃x y z,p x y z/\q x y z/\r x y z/\o x y z/\n x y z:=⟨x,Y6 y z H I J K L⟩
theorem afG{p q r o n m:a->b->c->Prop}(h:∃x y z,p x y z/\q x y z/\r x y z/\o x y z/\n x y z/\m x y z){g:Prop}(k:∀x y z,p x y z->q x y z->r x y z->o x y z->n x y z->m x y z->g):g:=h.elim λx h=>VU h<|k x
theorem afH{p q r o n m:a->b->c->Prop}(x:a)(y:b)(z:c)(H:p x y z)(I:q x y z)(J:r x y z)(K:o x y z)(L:n x y z)(M:m x y z):∃x y z,p x y z/\q x y z/\r x y z/\o x y z/\n x y z/\m x y z:=⟨x,afC y z H I J K L M⟩
theorem afI{p q r o n m l i:a->b->c->Prop}(x:a)(y:b)(z:c)(H:p x y z)(I:q x y z)(J:r x y z)(K:o x y z)(L:n x y z)(M:m x y z)(N:l x y z)(O:i x y z):∃x y z,p x y z/\q x y z/\r x y z/\o x y z/\n x y z/\m x y z/\l x y z/\i x y z:=⟨x,afF y z H I J K L M N O⟩
theorem afJ{p:a->b->c->d->Prop}(x:a)(y:b)(z:c)(w:d)(H:p x y z w):∃x y z w,p x y z w:=⟨x,Re y z w H⟩
theorem y3{p q:a->b->c->d->Prop}(h:∃x y z w,p x y z w/\q x y z w){g:Prop}(k:∀x y z w,p x y z w->q x y z w->g):g:=h.elim λx h=>Mp h<|k x
theorem Y9{p q r:a->b->c->d->Prop}(h:∃x y z w,p x y z w/\q x y z w/\r x y z w){g:Prop}(k:∀x y z w,p x y z w->q x y z w->r x y z w->g):g:=h.elim λx h=>Mq h<|k x
theorem wQ{p q r:a->b->c->d->Prop}(x:a)(y:b)(z:c)(w:d)(H:p x y z w)(I:q x y z w)(J:r x y z w):∃x y z w,p x y z w/\q x y z w/\r x y z w:=⟨x,VW y z w H I J⟩
theorem Mr{p q r o:a->b->c->d->Prop}(h:∃x y z w,p x y z w/\q x y z w/\r x y z w/\o x y z w){g:Prop}(k:∀x y z w,p x y z w->q x y z w->r x y z w->o x y z w->g):g:=h.elim λx h=>yY h<|k x
theorem Rf{p q r o:a->b->c->d->Prop}(x:a)(y:b)(z:c)(w:d)(H:p x y z w)(I:q x y z w)(J:r x y z w)(K:o x y z w):∃x y z w,p x y z w/\q x y z w/\r x y z w/\o x y z w:=⟨x,Y7 y z w H I J K⟩
theorem Ms{p q r o n:a->b->c->d->Prop}(h:∃x y z w,p x y z w/\q x y z w/\r x y z w/\o x y z w/\n x y z w){g:Prop}(k:∀x y z w,p x y z w->q x y z w->r x y z w->o x y z w->n x y z w->g):g:=h.elim λx h=>yZ h<|k x
theorem Y_{p q r o n:a->b->c->d->Prop}(x:a)(y:b)(z:c)(w:d)(H:p x y z w)(I:q x y z w)(J:r x y z w)(K:o x y z w)(L:n x y z w):∃x y z w,p x y z w/\q x y z w/\r x y z w/\o x y z w/\n x y z w:=⟨x,Y8 y z w H I J K L⟩
theorem vH{p q r o n m:a->b->c->d->Prop}(h:∃x y z w,p x y z w/\q x y z w/\r x y z w/\o x y z w/\n x y z w/\m x y z w){g:Prop}(k:∀x y z w,p x y z w->q x y z w->r x y z w->o x y z w->n x y z w->m x y z w->g):g:=h.elim λx h=>afG h<|k x
theorem VX{p q r o n m:a->b->c->d->Prop}(x:a)(y:b)(z:c)(w:d)(H:p x y z w)(I:q x y z w)(J:r x y z w)(K:o x y z w)(L:n x y z w)(M:m x y z w):∃x y z w,p x y z w/\q x y z w/\r x y z w/\o x y z w/\n x y z w/\m x y z w:=⟨x,afH y z w H I J K L M⟩
theorem afK{p q r o n m l i:a->b->c->d->Prop}(x:a)(y:b)(z:c)(w:d)(H:p x y z w)(I:q x y z w)(J:r x y z w)(K:o x y z w)(L:n x y z w)(M:m x y z w)(N:l x y z w)(O:i x y z w):∃x y z w,p x y z w/\q x y z w/\r x y z w/\o x y z w/\n x y z w/\m x y z w/\l x y z w/\i x y z w:=⟨x,afI y z w H I J K L M N O⟩
theorem afL{p:a->b->c->d->e->Prop}(x:a)(y:b)(z:c)(w:d)(v:e)(H:p x y z w v):∃x y z w v,p x y z w v:=⟨x,afJ y z w v H⟩
theorem Rg{p q r:a->b->c->d->e->Prop}(h:∃x y z w v,p x y z w v/\q x y z w v/\r x y z w v){g:Prop}(k:∀x y z w v,p x y z w v->q x y z w v->r x y z w v->g):g:=h.elim λx h=>Y9 h<|k x
theorem afM{p q r:a->b->c->d->e->Prop}(x:a)(y:b)(z:c)(w:d)(v:e)(H:p x y z w v)(I:q x y z w v)(J:r x y z w v):∃x y z w v,p x y z w v/\q x y z w v/\r x y z w v:=⟨x,wQ y z w v H I J⟩
theorem Y'{p q r o:a->b->c->d->e->Prop}(h:∃x y z w v,p x y z w v/\q x y z w v/\r x y z w v/\o x y z w v){g:Prop}(k:∀x y z w v,p x y z w v->q x y z w v->r x y z w v->o x y z w v->g):g:=h.elim λx h=>Mr h<|k x
theorem VY{p q r o:a->b->c->d->e->Prop}(x:a)(y:b)(z:c)(w:d)(v:e)(H:p x y z w v)(I:q x y z w v)(J:r x y z w v)(K:o x y z w v):∃x y z w v,p x y z w v/\q x y z w v/\r x y z w v/\o x y z w v:=⟨x,Rf y z w v H I J K⟩
theorem afN{p q r o n:a->b->c->d->e->Prop}(h:∃x y z w v,p x y z w v/\q x y z w v/\r x y z w v/\o x y z w v/\n x y z w v){g:Prop}(k:∀x y z w v,p x y z w v->q x y z w v->r x y z w v->o x y z w v->n x y z w v->g):g:=h.elim λx h=>Ms h<|k x
theorem afO{p q r o n m:a->b->c->d->e->Prop}(h:∃x y z w v,p x y z w v/\q x y z w v/\r x y z w v/\o x y z w v/\n x y z w v/\m x y z w v){g:Prop}(k:∀x y z w v,p x y z w v->q x y z w v->r x y z w v->o x y z w v->n x y z w v->m x y z w v->g):g:=h.elim λx h=>vH h<|k x
theorem afP{p q r o n m:a->b->c->d->e->Prop}(x:a)(y:b)(z:c)(w:d)(v:e)(H:p x y z w v)(I:q x y z w v)(J:r x y z w v)(K:o x y z w v)(L:n x y z w v)(M:m x y z w v):∃x y z w v,p x y z w v/\q x y z w v/\r x y z w v/\o x y z w v/\n x y z w v/\m x y z w v:=⟨x,VX y z w v H I J K L M⟩
theorem afQ{p:a->b->c->d->e->f->Prop}(x:a)(y:b)(z:c)(w:d)(v:e)(u:f)(H:p x y z w v u):∃x y z w v u,p x y z w v u:=⟨x,afL y z w v u H⟩
theorem VZ{p q r:a->b->c->d->e->f->Prop}(h:∃x y z w v u,p x y z w v u/\q x y z w v u/\r x y z w v u){g:Prop}(k:∀x y z w v u,p x y z w v u->q x y z w v u->r x y z w v u->g):g:=h.elim λx h=>Rg h<|k x
theorem afR{p q r:a->b->c->d->e->f->Prop}(x:a)(y:b)(z:c)(w:d)(v:e)(u:f)(H:p x y z w v u)(I:q x y z w v u)(J:r x y z w v u):∃x y z w v u,p x y z w v u/\q x y z w v u/\r x y z w v u:=⟨x,afM y z w v u H I J⟩
theorem V0{p q r o:a->b->c->d->e->f->Prop}(h:∃x y z w v u,p x y z w v u/\q x y z w v u/\r x y z w v u/\o x y z w v u){g:Prop}(k:∀x y z w v u,p x y z w v u->q x y z w v u->r x y z w v u->o x y z w v u->g):g:=h.elim λx h=>Y' h<|k x
theorem afS{p q r o:a->b->c->d->e->f->Prop}(x:a)(y:b)(z:c)(w:d)(v:e)(u:f)(H:p x y z w v u)(I:q x y z w v u)(J:r x y z w v u)(K:o x y z w v u):∃x y z w v u,p x y z w v u/\q x y z w v u/\r x y z w v u/\o x y z w v u:=⟨x,VY y z w v u H I J K⟩
theorem afT{p q r o n:a->b->c->d->e->f->Prop}(h:∃x y z w v u,p x y z w v u/\q x y z w v u/\r x y z w v u/\o x y z w v u/\n x y z w v u){g:Prop}(k:∀x y z w v u,p x y z w v u->q x y z w v u->r x y z w v u->o x y z w v u->n x y z w v u->g):g:=h.elim λx h=>afN h<|k x
theorem afU{p q r o n m:a->b->c->d->e->f->Prop}(h:∃x y z w v u,p x y z w v u/\q x y z w v u/\r x y z w v u/\o x y z w v u/\n x y z w v u/\m x y z w v u){g:Prop}(k:∀x y z w v u,p x y z w v u->q x y z w v u->r x y z w v u->o x y z w v u->n x y z w v u->m x y z w v u->g):g:=h.elim λx h=>afO h<|k x
theorem Za{p q r o n m:a->b->c->d->e->f->Prop}(x:a)(y:b)(z:c)(w:d)(v:e)(u:f)(H:p x y z w v u)(I:q x y z w v u)(J:r x y z w v u)(K:o x y z w v u)(L:n x y z w v u)(M:m x y z w v u):∃x y z w v u,p x y z w v u/\q x y z w v u/\r x y z w v u/\o x y z w v u/\n x y z w v u/\m x y z w v u:=⟨x,afP y z w v u H I J K L M⟩
theorem Zb{p:a->b->c->d->e->f->A->Prop}(x:a)(y:b)(z:c)(w:d)(v:e)(u:f)(t:A)(H:p x y z w v u t):∃x y z w v u t,p x y z w v u t:=⟨x,afQ y z w v u t H⟩
theorem afV{p q r o n:a->b->c->d->e->f->A->Prop}(h:∃x y z w v u t,p x y z w v u t/\q x y z w v u t/\r x y z w v u t/\o x y z w v u t/\n x y z w v u t){g:Prop}(k:∀x y z w v u t,p x y z w v u t->q x y z w v u t->r x y z w v u t->o x y z w v u t->n x y z w v u t->g):g:=h.elim λx h=>afT h<|k x
theorem Ā{p:a->b->c->d->Prop}(h:∃x y z w,p x y z w){g:Prop}(k:∀x y z w,p x y z w->g):g:=h.elim λx h=>Rd h (k x)
theorem Č{p:a->b->c->d->e->Prop}(h:∃x y z w v,p x y z w v){g:Prop}(k:∀x y z w v,p x y z w v->g):g:=h.elim λx h=>Ā h (k x)
theorem Đ{p:a->b->c->d->e->f->Prop}(h:∃x y z w v u,p x y z w v u){g:Prop}(k:∀x y z w v u,p x y z w v u->g):g:=h.elim λx h=>Č h (k x)
theorem aaa{p:a->b->c->d->e->f->A->Prop}(h:∃x y z w v u t,p x y z w v u t){g:Prop}(k:∀x y z w v u t,p x y z w v u t->g):g:=h.elim λx h=>Đ h (k x)
theorem Zc{α:Type}{n:Nat}{motive:List α->Prop}{l:List α}(h:l.length=n+1)(k:∀a l,l.length=n->motive (a::l)):motive l:=by cases l with|nil=>cases h|cons a l=>exact k a l<|ky h
@[elab_as_elim] theorem afW{α:Type}{motive:List α->Prop}{l:List α}(h:l.length=0)(k:motive []):motive l:=by cases l with|nil=>exact k|cons a l=>cases h
@[elab_as_elim] theorem vJ{α:Type}{motive:List α->Prop}{l:List α}(h:l.length=1)(k:∀x0,motive [x0]):motive l:=Zc h λa l h=>afW (motive:=λl=>motive<|a::l) h<|k a
@[elab_as_elim] theorem sD{α:Type}{motive:List α->Prop}{l:List α}(h:l.length=2)(k:∀x0 x1,motive [x0,x1]):motive l:=Zc h λa l h=>vJ (motive:=λl=>motive<|a::l) h<|k a
@[elab_as_elim] theorem FX{α:Type}{motive:List α->Prop}{l:List α}(h:l.length=3)(k:∀x0 x1 x2,motive [x0,x1,x2]):motive l:=Zc h λa l h=>sD (motive:=λl=>motive<|a::l) h<|k a
@[elab_as_elim] theorem Rh{α:Type}{motive:List α->Prop}{l:List α}(h:l.length=4)(k:∀x0 x1 x2 x3,motive [x0,x1,x2,x3]):motive l:=Zc h λa l h=>FX (motive:=λl=>motive<|a::l) h<|k a
@[elab_as_elim] theorem Zd{α:Type}{motive:List α->Prop}{l:List α}(h:l.length=5)(k:∀x0 x1 x2 x3 x4,motive [x0,x1,x2,x3,x4]):motive l:=Zc h λa l h=>Rh (motive:=λl=>motive<|a::l) h<|k a
theorem ğ{p q:Prop}(a:p)(k:p->q):q:=k a
theorem sI{motive:Prop}(h:ae a=ae b)(k:a=b->motive):motive:=k<|bq h
theorem rI{motive:Prop}(h:PySem.Value.ref a=.ref b)(k:a=b->motive):motive:=k<|PySem.Value.ref.inj h
def cx(a:List bR)(p:String):Lean.Syntax:=((("null QTactic.tacticSeq1Indented QTactic.tacticSeq".intercalate (p.splitOn "~")).splitOn " ").foldl (fun s t=>match t.toList with
 |[]=>s
 |c::l=>let r:=String.ofList l;let x:=r.toName;let n:=c.toNat-48;if c='\'' then .atom .none r::s else if c='`' then .ident .none r.toRawSubstring x []::s else if c='$' then a[l.length]!::s else .node .none (if n<32 then x else `Lean.Parser++x) ⟨(s.take (n%32)).reverse⟩::s.drop (n%32)) []).head!
local macro_rules (kind:=Lean.Parser.Tactic.show)|s=>return cx [Lean.mkIdent .anonymous,s[1]] "'refine '( $ 1hygieneInfo RTerm.hygienicLParen '? '_ RTerm.syntheticHole ': $$ 1null ') UTerm.typeAscription RTactic.refine"
local macro_rules (kind:=Lean.Parser.Tactic.rewriteSeq)
|s=>
 let l:=s[2]
 let a:=l[1].getSepArgs
 let t (x:Array bR):=s.setArg 2<|l.setArg 1<|Lean.mkNullNode x
 let r:=a[0]!
 let u:=s[3][0][1][0]
 let w:="'with_reducible_and_instances 'refine "
 let v:="2null RTerm.app RTactic.refine 1~ RTactic.withReducibleAndInstances"
 let h:="'? '_ RTerm.syntheticHole "
 let g x:="'| "++w++(if r[0].isNone then "`Ĝ " else "`ĝ ")++h++x++v++" 1~ 2group "
 let d:="$ '.. QTerm.ellipsis 1null RTerm.app "
 if a.size>1 then return cx [t #[r],t<|l[1].getArgs.extract 2 l[1].getNumArgs] "'( $ '; $$ 3~ ') STactic.paren" else
 if (r.find? λs=>s.getAtomVal=="?"||s.getAtomVal=="by").isSome then Lean.Macro.throwUnsupported else
 if s[3].getNumArgs>0 then
  if u.getNumArgs !=1||!r[0].isNone then Lean.Macro.throwUnsupported else return cx [r[1],u[0],u] ("'( "++w++"`ğ `Eq.trans `Eq.symm $ 1null RTerm.app $$ 2null RTerm.app "++h++v++" '; 'clear $$$ RTactic.clear '; 'intro $$$ RTactic.intro 5~ ') STactic.paren")
 else return cx [r[1]] ("'first "++g "$ "++g d++g "`propext $ 1null RTerm.app "++g ("`propext "++d++"1null RTerm.app ")++"4null RTactic.first")
local macro_rules (kind:=Lean.Parser.Tactic.decide)|s=>if s[1][0].getNumArgs>0 then Lean.Macro.throwUnsupported else return cx [] "'first '| 'exact `Mine.dN `Mine.tt 1null RTerm.app RTactic.exact 1~ 2group '| 'exact `Mine.dD `Mine.tt 1null RTerm.app RTactic.exact 1~ 2group 2null RTactic.first"
local macro_rules (kind:=Lean.Parser.Tactic.cases)
|s=>
 let f a b l:=l.foldl (λt n=>t++" '| "++a++" `"++n++b++" 1~ 2group") ""
 let n:=["Tr.JH","Tr.JI","Tr.afX","aG.V3","aG.ca","Tr.rQ","Tr.zN","Tr.CO","Tr.V4","Tr.Ri"]
 if s[2].getNumArgs>0||s[3].getNumArgs>0||!s[1][0][1].isIdent then Lean.Macro.throwUnsupported else return cx [s[1][0][1],s[1]] ("'first"++f "'with_reducible 'exact" " $ 1null RTerm.app RTactic.exact 1~ RTactic.withReducible" ["nS","sN","tF","fT"]++f "'( 'refine" " $ '? '_ RTerm.syntheticHole 2null RTerm.app RTactic.refine '; 'clear $ 1null RTactic.clear '; 'intro $ 1null RTactic.intro '; 'subst $ 1null RTactic.subst 7~ ') STactic.paren" ["sI","rI"]++f "'induction $$ 'using" " 2null 0null 0null UTactic.induction" n++f "'cases $$ 'using" " 2null 0null TTactic.cases" ("aG.t_"::n)++" Knull RTactic.first")
noncomputable section
section
open Int renaming natAbs->jv,lt_of_lt_of_le->kE,natAbs_sub_le->uF,le_of_eq->uH,min_eq_left->yv,sub_sub->Hy
open Nat renaming succ_le_of_lt->hE,sub_right_comm->kD,le_min_of_le_of_le->lj,ge_of_not_lt->l3,sub_sub->mz,add_lt_add_left->so,succ_add->Fe,add_sub_assoc->LW
theorem l0(c:a<=n)(h:f4 n m=aj):a<=m:=ab c<|dN h
theorem l4{a n:Nat}{k:Int}(c:a<=n)(h:decide ((n:Int)<k)=aj):(a:Int)<k:=bn (bj.mpr c)<|dD h
theorem ę{a n:Nat}{k:Int}(c:a<=n)(h:decide ((n:Int)<=k)=aj):(a:Int)<=k:=cJ (bj.mpr c)<|dD h
theorem v6{a:Nat}{k:Int}(h:decide (k<=0)=aj):k<=(a:Int):=cJ (dD h)<|bc a
theorem đ{a k:Int}(b:0<=a)(h:decide (k<=0)=aj):k<=a:=cJ (dD h) b
theorem ri(c:a<=n)(d:b=2^24)(h:f4 n (2^24)=aj):a<=b:=ab c<|ab (dN h)<|aH d.symm
theorem af4(g:a<=1)(h:b<=c)(i:d<=e+b+a+f):d<=e+(f+1*(c+1)):=ab i<|ab (bX (c_ (bF h e) g) f)<|aH<|(fa e (c+1) f).trans<|congrArg (e+·)<|(bx (c+1) f).trans<|congrArg (f+·) (Nat.one_mul<|c+1).symm
theorem ZC{a:Nat}(d:a<=100)(e:b<c)(f:c<=a):(b:Int)<2^63:=l4 (ab (aF e)<|ab f d) tt
theorem Ť(b:a<2):a=0\/a=1:=Or.imp_left Nat.lt_one_iff.mp<|Nat.lt_or_eq_of_le<|cg b
theorem ac0{b:Nat}(d:a<=(b:Int))(e:c=0\/c=1)(f:c+a=((b+1:Nat):Int)):c=1:=e.elim (λe=>absurd (cJ (uH ((eb a).symm.trans<|(congrArg (·+a) e.symm).trans f).symm) d)<|Int.not_le.mpr<|Int.lt_succ b) id
theorem HN(b c d:Nat):min ((d-c)-(d-b)) (d-(d-b))=(d-c)-(d-b):=dB<|dq (cq d c) _
theorem Mt{a:Nat}(h:a<=b):b-d-(b-a)=a-d:=(kD b d<|b-a).trans<|congrArg (·-d)<|cV h
theorem zO{a:Nat}(h:a<=1000):-2^63<=(a:Int)/\(a:Int)<2^63:=⟨cJ (by decide)<|bc a,bn (bj.mpr h)<|by decide⟩
theorem HO(h:a<b-x):x<x+1+a/\x+1+a<=b:=⟨aB (cb _)<|bi _ _,ab (aH<|Fe x a)<|i6 h⟩
theorem Ģ(d:a<=b)(e:c+b<=900):c+a<=900:=ab (bF d c) e
theorem ģ(d:a<=b)(e:c+50*b<=9000):c+50*a<=9000:=ab (bF (Jq 50 d) c) e
theorem Ĥ(c:a+b<=900):a<1000:=az (ab (bi a b) c)<|dN tt
theorem Ħ(c:a+50*b<=9000):a<9900:=az (ab (bi a<|50*b) c)<|dN tt
theorem Ĩ{a:Nat}(f:a+b<=c)(g:d=a)(h:e=b):d+e<=c:=ab (c_ (aH g)<|aH h) f
theorem TZ(d:a+(b+1)<c):a<c:=az (bi a _) d
theorem T_(d:a+(b+1)<c):a+1+b<c:=az (aH<|(fa a 1 b).trans<|congrArg (a+·)<|bx 1 b) d
theorem Mw(c:a<=100)(d:b+50*0<=9000):b+1+a<9900:=az (c_ (aK d) c)<|by decide
theorem Ze{a:Nat}(c:a<=2^24)(d:b=a):(b:Int)<2^63:=d▸bn (bj.mpr c) (by decide)
theorem afZ{a:Nat}(d:-(a:Int)<=b)(e:c=a):-c<=b:=cJ (uH<|congrArg (λx:Nat=>-(x:Int)) e) d
theorem AY{a:Nat}(d:a<=b)(e:c=a):c<=b:=ab (aH e) d
theorem Zh{a:Nat}(d:a<=b)(e:b<=c):a+(b-a)<=c:=ab (aH<|cX d) e
theorem af2{a:Nat}(e:a<=b):min (c-d) (a-d)<=b:=ab (eI ..)<|ab (cq a d) e
theorem Zi{a:Nat}(b:a<=2^24):¬(a:Int)>=2^63:=Int.not_le.mpr<|l4 b tt
theorem af3:a+1+b=a+(b+1):=Nat.add_right_comm a 1 b
theorem Zk(c:a<b):b-(a+1)<b-a:=jO c<|cb a
theorem Zl{a:Nat}(c:a<=b)(d:¬a<b):a=b:=bA c<|l3 d
theorem Rj(c:a+(b+1)<=900):a+1+b<=900:=ab (aH<|(fa a 1 b).trans<|congrArg (a+·)<|bx 1 b) c
theorem V7(c:a+50*(b+1)<=9000):a+3+50*b<=9000:=ab (aH<|fa a 3<|50*b)<|ab (bF (ab (aH<|bx ..)<|bF (by decide)<|50*b) a) c
theorem af5(g:a<=1)(h:b<=c)(i:d<=e+a+b+f):d<=e+(f+1*(c+1)):=af4 g h<|ab i<|aH<|congrArg (·+f)<|Nat.add_right_comm e a b
theorem af6(d:a<=b)(e:c<=0+a):c<=b:=ab e<|ab (aH<|jA a) d
theorem af7(f:a+1*(b+1)<=c)(g:d<=b)(h:e<=d+a):e<=c:=ab h<|ab (aH<|bx ..)<|ab (bF (ab (LV g)<|aH (Nat.one_mul _).symm) a) f
theorem af9(c:a<b-1):a<b:=aB c<|cq b 1
theorem py{a:Nat}:0<=(a:Int):=bc a
theorem agc{a:Nat}:0<=(a:Int)+1:=bc<|a+1
theorem agd{a:Nat}(c:a<=100)(d:b<a-1):(b:Int)+1<2^63:=l4 (a:=b+1) (ab d<|ab (cq a 1) c) tt
theorem agg{a:Nat}(c:a<=b):min a b=a:=dB c
theorem agh{a:Nat}(c:¬a<=b):min a b=b:=Qu<|Nat.le_of_not_le c
theorem agi{a:Nat}(d:a<=min b c):a<=c:=ab d<|eI b c
theorem agk{a:Nat}:a-1- -1-1+1=(a:Int):=(Int.sub_add_cancel _ 1).trans<|Int.sub_add_cancel a 1
theorem agl{a:Nat}(b:¬(a:Int)-1>-1):0=(a:Int):=(mO (Int.le_of_sub_le_sub_right (c:=1) (b:=0)<|dv.mp b)<|bc a).symm
theorem Zm{a:Nat}:-2^62<=(a:Int):=v6 tt
theorem agm{a:Nat}:((br<|(a:Int)-0:Nat))=(a:Int):=congrArg (λx=>((br x:Nat):Int))<|Fg a
theorem Zn{a:Nat}:-2^62<=(a:Int)+1:=v6 (a:=a+1) tt
theorem ago{a:Nat}(b:a<=100):(a:Int)+1<2^62:=l4 (a:=a+1) (aK b) tt
theorem agp{a:Nat}{b:Nat}:((br<|(a:Int)+1-((b:Int)+1):Nat))=((a-b:Nat):Int):=congrArg zt<|(mj (a+1)<|b+1).trans<|Nat.succ_sub_succ a b
theorem agq:a+1+b=a+1↔((a+1+b:Nat))=(a:Int)+1:=(ml (n:=a+1)).symm
theorem ags{a:Nat}:-2^63<=(a:Int)-1:=cJ (dD (p:=(-2^63:Int)<=0-1) tt)<|Int.sub_le_sub_right (bc a) 1
theorem agt{a:Nat}(b:a<=100):(a:Int)-1<2^63:=bn (QW a<|dD tt)<|l4 b tt
theorem V8{a:Nat}:-2^63<=(a:Int):=v6 tt
theorem agu{a:Nat}(b:a<=100):(a:Int)<2^63:=l4 b tt
theorem agv{a:Nat}(c:a<b):b-1+a*-1=((b-(a+1):Nat):Int):=((congrArg ((b:Int)-1+·)<|Int.mul_neg_one a).trans<|(Hy (b:Int) 1 a).trans<|congrArg ((b:Int)-·)<|uG 1 a).trans (hV c).symm
theorem agw(d:a<b-(b-(c+1))):b-(c+1)<b-(c+1)+1+a/\b-(c+1)+1+a<=b:=HO d
theorem Rk(c:a<b):b-(a+1)<b:=jt (cY c)<|gA a
theorem agx:0<=((a-(b+1):Nat):Int):=bc<|a-(b+1)
theorem agy(c:a<=100):((a-(b+1):Nat):Int)<2^63:=bn (bj.mpr<|ab (cq ..) c)<|by decide
theorem agz{a:Nat}(d:a-(b+1)<c/\c<=a):0<=c-((a-(b+1):Nat):Int)-1:=cJ (rk<|bj.mpr d.1)<|uH (Hy (c:Int) ((a-(b+1):Nat):Int) 1).symm
theorem agA{a:Nat}(e:a<=100)(d:a-(b+1)<c/\c<=a):c-((a-(b+1):Nat):Int)-1<2^63:=(hV<|aF d.1)▸(bn (QW _<|by decide)<|bn (bj.mpr<|ab (cq ..)<|ab d.2 e)<|by decide)
theorem agB(d:a-(b+1)<c/\c<=a):c-(a-(b+1))-1<b+1:=aB (jt (dr d.1) ju)<|ab (dq d.2 _)<|g_<|ab (Hx<|al<|a-(b+1))<|aH<|bx ..
theorem agC(c:a<=100):a-(a-(b+1))<=2^24:=ab (cq ..)<|ab c<|by decide
theorem agD(c:a<=100)(d:b<a):1+(b+1)<=2^24:=ab (bF (ab d c) 1)<|dN tt
theorem agE{a:Nat}(b:a<=1000):(a:Int)<2^62:=l4 b tt
theorem V9:0<a+1:=gA a
theorem Zo(b:0<a):a-1<a:=jt b ju
theorem agF{a:Nat}(b:0<a):-(a:Int)<=-1:=Int.neg_le_neg<|bj.mpr b
theorem agG{a:Nat}:br (-1+a)=a-1:=(congrArg br<|uG (-1) a).trans<|mj a 1
theorem Zp(c:a<=b):a<b+1:=bY c
theorem agH(d:a<b-c):c<c+1+a/\c+1+a<=b:=HO d
theorem FY{a:Nat}(c:a<=100)(d:b<a):(b:Int)<2^63:=fh (cT.mpr<|aB d c)<|by decide
theorem V_{a:Nat}(c:a<b):a<b:=c
theorem agI{a:Nat}(d:a<=100)(e:b<c/\c<=a):(c:Int)<2^63:=bn (bj.mpr<|ab e.2 d)<|by decide
theorem agJ{a:Nat}(d:a<b/\b<=c):b<=c:=d.2
theorem agK{a:Nat}(d:a<=100)(e:b<c/\c<=a):(b:Int)<2^63:=ZC d e.1 e.2
theorem agL{a:Nat}(d:a<b/\b<=c):a<=c:=ab (aF d.1) d.2
theorem agM(b:a<=1000):a+1<=2^24:=az b<|aB (cb 1000)<|ap rfl
theorem agO{a:Nat}(f:a+b<=c)(g:d=b)(h:e=a):e+d<=c:=ab (c_ (aH h)<|aH g) f
theorem agP{a:Nat}{b:Nat}:br (a+1*b)=a+b:=congrArg (λx=>br<|a+x)<|wJ b
theorem Zq{a:Nat}(c:¬a<=b):b<=a:=Nat.le_of_not_le c
theorem Zs:a<1+a:=eB (cb a)<|bx a 1
theorem Zt(e:a<=b)(f:c<=d):a+c<=d+1*b:=ab (c_ e f)<|aH<|(bx b d).trans<|congrArg (d+·) (Nat.one_mul b).symm
theorem Zv{a:Nat}(c:a<=100)(d:b<a+1):(b:Int)<2^63:=l4 (ab (cg d) c) tt
theorem Zw{a:Nat}(c:a<=100)(d:b<a+1):(b:Int)-1<2^63:=bn (QW b<|dD tt)<|l4 (ab (cg d) c) tt
theorem Zx(c:a<b+1)(d:¬a=0/\¬a=b):a<b:=Lv (cg c) d.2
theorem Zy{a:Nat}(c:¬a=0/\¬a=b):0<=(a:Int)-1:=rk<|bj.mpr<|eA c.1
theorem wR{a:Nat}(d:a<b)(e:b<=c):a<c:=aB d e
theorem ZE(c:a<=200)(d:b<=1):a+b<=2^24:=ab (c_ c d)<|dN tt
theorem TY:a+(b+1)=a+b+1:=lw<|a+(b+1)
theorem zP{a:Nat}(c:a<=b):a+(b-a)=b:=cX c
theorem Mx:a<a+1+b:=hE<|bi (oZ a) b
theorem ZG(c:a-b=a-b-1+1):a-b-1+1<=a:=ab (aH c.symm)<|cq a b
theorem ZH(c:a-b=a-b-1+1):a-(a-b-1+1)+0=b:=(congrArg (a-·) c.symm).trans<|cV<|aF<|lL c
theorem ZI(c:a-b=a-b-1+1):a-(a-b-1+1)=b:=(congrArg (a-·) c.symm).trans<|cV<|aF<|lL c
theorem ZJ:a-b-1<=a:=ab (cq (a-b) 1)<|cq a b
theorem ZK(d:a<b)(e:b<=c):c-(c-a-1)+(b-a-1)=b:=(congrArg (·+(b-(a+1)))<|cV<|ab d e).trans<|cX d
theorem ZL{a:Nat}{b:Nat}(c:(a:Int)<=(b:Int)):1+a<=1+b:=bF (bj.mp c) 1
theorem ZM:0<1+a:=hE<|bi (oZ 0) a
theorem HQ:a<a+1:=al<|oZ a
theorem ZP{c:Nat}{d:Nat}(f:a+b=c)(g:(d:Int)=(a:Int)-1):d+(b+1)=c:=by haveI e:=ml.mp<|FL.mp g.symm;subst e;exact(congrArg (d+·)<|bx b 1).trans<|(fa d 1 b).symm.trans f
theorem ZQ(e:a<=100)(f:b=c+1)(g:c<d)(h:d<=a-0):b<=1000:=ab (aH f)<|ab g<|ab h<|l0 e tt
theorem T'{a:Nat}(c:a<=b)(d:a>=b):a=b:=bA c d
theorem ZR{c:Nat}(e:0+a=b)(f:a<b):c<d:=absurd ((jA a).symm.trans e)<|bJ f
theorem ZS(c:a<=100)(d:b<=a-0):b<=1000:=ab d<|l0 c tt
theorem ZT{a:Nat}(d:a<=b):a<=c+b:=ab d<|dP b c
theorem ZU{a:Nat}(d:a<=b):c+a<=c+b:=bF d c
theorem ZV:a+1+(b+1)=a+1+1+b:=Nat.add_right_comm (a+1) b 1
theorem ZX(c:a+1=b):b+a+1=b*2:=(congrArg (b+·) c).trans (Nat.mul_two b).symm
theorem ZY{a:Nat}(e:a<=b)(f:c<=d):a+c<=b+d:=c_ e f
theorem ZZ(d:a<=b)(e:b+1=c):a<=c:=ab d<|ab (cB b)<|aH e
theorem Ua(d:a<=b)(e:0<c):a+1<=c+b:=ab (aK d)<|ab (aH<|bx b 1)<|bX e b
theorem wS(b:a<=16):a<=100:=ab b<|ap rfl
theorem Z1(b:0<=a)(c:a<2^63):-9223372036854775808<=a/\a<9223372036854775808:=⟨đ b tt,c⟩
theorem Z3(c:a<=900)(d:b<=a+1):b<=16777216+1:=ab d<|l0 (aK c) tt
theorem Uc(c:a<=900)(d:b=a):b<=900:=ab (aH d) c
theorem Z4(c:a=1):b+a<=b+1:=bF (aH c) b
theorem Z5(d:a+50*(b+1)<=9000)(e:c<=a+1):c+50*b<=9000:=ab (bX e _)<|ab (aH<|fa a 1<|50*b)<|ab (bF (ab (aH<|bx ..)<|bF (by decide)<|50*b) a) d
theorem Z6{b:Nat}{c:Nat}(d:0<=a/\a<(b:Int)/\a<(c:Int)):br a<b:=(Int.toNat_lt d.1).mpr d.2.1
theorem Z7{b:Nat}{c:Nat}(d:0<=a/\a<(b:Int)/\a<(c:Int)):br a<c:=(Int.toNat_lt d.1).mpr d.2.2
theorem Ue{b:Nat}{c:Nat}(d:0<=a/\a<(b:Int)/\a<(c:Int)):0<=a:=d.1
theorem Uf(c:a<=2^24)(d:br b<a):b<2^63:=bn (jc b)<|fh (cT.mpr<|aB d c)<|by decide
theorem Ug(e:a<=b+c)(f:b<=d+1):a<=d+(c+1):=ab e<|ab (bX f c)<|aH<|(fa d 1 c).trans<|congrArg (d+·)<|bx 1 c
theorem Z9{a:Nat}(d:a<=b)(e:b<c):a<c:=az d e
theorem Z'(c:a<=16)(d:b=2^24):a<=b:=ri c d tt
theorem ki(c:a<b):a+1<=b:=c
theorem HR{a:Nat}:a<=a+b:=bi a b
theorem MB(c:a<=100)(d:b=2^24):a<=b:=ri c d tt
theorem Ã(e:a<=100)(f:b=2^24):min (c+1-d) (a-d)<=b:=f▸ab (eI ..) (ab (cq a d)<|ab e<|by decide)
theorem Ä(c:a<=1000)(d:b=2^24):a<=b:=ri c d tt
theorem Å(c:a=2^24)(d:b<=100000):b<=a:=ri d c tt
theorem Æ(b:a<=100):a<=100:=b
theorem Ç(b:1<=a):1<=a:=b
theorem È(c:a=2^24)(d:b<=100):b<=a:=ri d c tt
theorem É(d:a=2^24)(e:b<=100):min (b-1) c<=a:=d▸ab (kz ..) (ab (cq b 1)<|ab e<|by decide)
theorem Ê(c:a=2^24)(d:b<=16):b<=a:=ri d c tt
theorem Ë(c:a=2^24)(d:b<=1000):b<=a:=ri d c tt
theorem Ì(d:a<=16)(e:b=c+1)(f:c<=a-0):b<=100/\1<=b:=⟨ab (aH e)<|l0 (aK<|ab f d) tt,eB (gA c) e.symm⟩
theorem Í(e:a<=100)(d:b<=c)(f:c+1<=a):min (c+1-b) (a-b)<=100/\1<=min (c+1-b) (a-b):=⟨ab (eI ..)<|ab (cq a b) e,lj (dr<|bY d)<|dr<|aB (bY d) f⟩
theorem Ð{a:Nat}(c:a<b):a<=min a b:=lj (al a)<|aF c
theorem Ò{a:Nat}:a+b<=a+(b+c):=bF (bi b c) a
theorem CP(c:a=2^24)(d:b<=1000000):b<=a:=ri d c tt
theorem Ô(d:a+b<=c)(e:c<=1000000):b<=1000000:=ab (dP b a)<|ab d e
theorem MC{a:Nat}(b:a≠0):(a:Int)≠0:=λh=>b<|Int.ofNat.inj h
theorem MD(b:jv a<2^40):jv a<2^63:=ab b<|ap rfl
theorem Ö{a:Nat}(b:a<=100):jv (a-1)<2^63:=az (uF a 1)<|az (aK b)<|by decide
theorem Ú(c:a+50*3<=9000)(d:b<=a+1):b+50*1<=9000:=ab (bX d 50)<|ab (bF (by decide:51<=150) a) c
theorem Û(d:a+(b+1)<=c):a<c:=aB (CE<|gA b) d
theorem Ü(d:a+(b+1)<=c):a+1+b<=c:=ab (aH<|Nat.add_right_comm a 1 b) d
theorem Ý:0+a<=a:=aH<|jA a
theorem ß(b:0<=a)(c:a<=1000):-9223372036854775808<=a/\a<9223372036854775808:=⟨đ b tt,bn c<|dD tt⟩
theorem á{a:Int}(b:a<=1000):a≠2^63-1:=Int.ne_of_lt<|bn b<|dD tt
theorem ã{a:Int}(b:0<=a)(c:¬a>0):a=0:=mO (dv.mp c) b
theorem ä{b:Nat}(c:a<(b:Int))(d:b<=2^24):a<2^63:=fh c<|l4 d tt
theorem å:a<b\/b+c-c<=a/\a<b+c↔a<b+c\/b+c+c-0<=a/\a<b+c+c:=⟨λh=>.inl<|h.elim (λh=>aB h<|bi b c) And.right,λh=>h.elim (λh=>(dJ a b).imp_right λk=>⟨ab (aH<|Lu ..) k,h⟩) λh=>absurd h.2<|iR.mpr h.1⟩
theorem æ(e:a=b)(f:c<a):c<b\/b+d-0<=c/\c<b+d:=.inl<|eB f e
theorem ç(d:a<b):c+b-1-a=c+(b-1-a):=(congrArg (·-a)<|LW (cY d) c).trans<|LW (js d) c
theorem è(c:a<b):b>0:=cY c
theorem uS(c:a<b):b-1-a<b:=az (cq _ a)<|jt (cY c) ju
theorem é(d:a<b):c+(b-1-(b-1-a))=c+a:=congrArg (c+·)<|cV<|js d
theorem ê(f:a<b)(e:c+b-1-a=d):d<c\/c+b-(a+1)<=d/\d<c+b:=.inr ⟨aH<|(kD (c+b) a 1).trans e,e▸az (cq _ a) (jt (aB (cY f)<|dP b c) ju)⟩
theorem ë(f:¬a+b-1-c=d):d<a\/a+b-c<=d/\d<a+b↔d<a\/a+b-(c+1)<=d/\d<a+b:=or_congr Iff.rfl<|and_congr_left λ_=>⟨ab<|Nat.pred_le _,λh=>Nat.le_of_pred_lt<|Lv h λe=>f<|(kD _ 1 c).trans e⟩
theorem Ui{a:Nat}(b:0<a):(a:Int)>0:=Int.natCast_pos.mpr b
theorem CQ{a:Nat}(b:0<a):0<(a:Int):=Int.natCast_pos.mpr b
theorem ì{a:Nat}(b:0<a):a-0-1=((a-1:Nat):Int):=(congrArg (·-1)<|Fg a).trans (hV b).symm
theorem î:a-1+0=a-1:=rfl
theorem ME(c:a=b)(d:b<=1000):a<=2^24:=ab (aH c)<|l0 d tt
theorem ð{a:Nat}(c:a=b)(d:b<=1000):(a:Int)<=1000:=bj.mpr<|ab (aH c) d
theorem ñ{a:Nat}:br a=a:=rfl
theorem ò{a:Nat}(b:0<a):(a:Int)≠0:=Int.ne_of_gt<|cT.mpr b
theorem õ{a:Nat}{b:Nat}(c:a<=1000)(d:b<=1000):-2^63<=b+((a:Int)-1)/\b+((a:Int)-1)<2^63:=⟨cJ (dD (p:=(-2^63:Int)<=0+(0-1)) tt)<|Int.add_le_add (bc b)<|Int.sub_le_sub_right (bc a) 1,bn (Int.add_le_add (bj.mpr d)<|Int.sub_le_sub_right (bj.mpr c) 1)<|dD tt⟩
theorem ö{a:Nat}:(a-0-1)/1+1=(a:Int):=(congrArg (·+1)<|(uI _).trans<|congrArg (·-1)<|Fg a).trans<|Int.sub_add_cancel a 1
theorem ø(c:a=b)(d:b<=1000):a<=1000:=ab (aH c) d
theorem ù{a:Nat}{b:Nat}{c:Nat}:br (a+b-1-c)=a+b-1-c:=(congrArg br<|Hy (a+b) 1 c).trans<|(mj (a+b)<|1+c).trans (mz ..).symm
theorem uT(b:a<=1000):a<=2^24:=ab b<|ap rfl
theorem û{a:Nat}{b:Nat}:0<=a+(b:Int):=bc<|a+b
theorem ü{a:Nat}(e:a<b)(f:c+b<=d):c+a<(d:Int):=cT.mpr<|aB (so e c) f
theorem ý{b:Nat}{c:Nat}(d:a<b):0<=c+b-1-(a:Int):=cJ (rk<|bj.mpr<|ab (aH<|bx 1 a)<|ab d<|dP b c)<|uH (Hy (c+b:Int) 1 a).symm
theorem þ{c:Nat}{d:Nat}(e:a+b<=c):a+b-1-d<(c:Int):=bn (QW _<|bc d)<|kE (Int.sub_lt_self _<|dD tt)<|bj.mpr e
theorem Ă(c:a=b)(d:a<=1000):b<=1000:=ab (aH c.symm) d
theorem ă:1000*(1+1)<=2^24:=dN tt
theorem Ą{a:Nat}(b:a<2^8):¬(a:Int)<0/\¬(a:Int)>1114111:=⟨dv.mpr<|bc a,dv.mpr<|nh<|fh (cT.mpr b)<|by decide⟩
theorem ą(e:a+1<=b)(f:c=a)(g:d=c+1):d<=b:=ab (aH<|g.trans<|congrArg (·+1) f) e
theorem Ć(c:a=b+1):a-1<a:=jt (eB (gA b) c.symm) ju
theorem Uj(c:a<64)(d:b=a):b<=16777216:=ab (aH d)<|l0 (aF c) tt
theorem ć(c:a=b)(d:a<2):b<2:=az (aH c.symm) d
theorem Ĉ(c:a=b)(d:b<2):a<=16777216+1:=ab (aH c)<|l0 (aF d) tt
theorem ĉ(c:a=b)(d:¬a<2):¬b<2:=λh=>d<|az (aH c) h
theorem Uk(c:a=b)(d:¬b<2):2<=a:=ab (l3 d)<|aH c.symm
theorem Ul{a:Nat}(d:a=b)(e:c<a):c<b:=eB e d
theorem Um(c:a<64)(d:b=a):b<64:=az (aH d) c
theorem Ċ(c:a+50*b<=9000):a+1<9900:=az (aK<|ab (bi a _) c)<|by decide
theorem č(d:a-b=c+1):b<a:=Nat.lt_of_sub_pos<|eB (gA c) d.symm
theorem Ď{a:Nat}(d:a<b)(e:c=b):a<c:=eB d e.symm
theorem ď{a:Nat}(e:a<=b)(f:c=min d a):c<=b:=ab (aH f)<|ab (eI d a) e
theorem ē(b:a+3<=900):a+1<=900:=ab (bF (n:=1) (m:=3) (dN tt) a) b
theorem Ĕ(b:a+50*3<=9000):a+1+1+1+50*1<=9000:=ab (bF (by decide:53<=150) a) b
theorem Ė(c:a<=100)(d:b<=a+1):b<=900:=ab d<|l0 (aK c) tt
theorem ė(d:a<=100)(e:b<=a+1)(f:c<=b+1):c<=900:=ab f<|ab (aK<|ab e<|aK d)<|dN tt
theorem Ę(c:a<b):((min a b:Nat))=(a:Int):=congrArg zt<|dB<|aF c
theorem Up(b:a<=101):a+1<=102:=bY b
theorem Ğ(b:a<200):a<=2^24:=l0 (aF b) tt
theorem ġ(c:a<=50)(d:b<=a+1):b<=900:=ab d<|l0 (aK c) tt
theorem ĥ{a:Nat}(c:a<b):a<(b:Int):=cT.mpr c
theorem Uq{a:Nat}(d:a<b)(e:c<a):c<b:=dI e d
theorem ħ(b:0<=a):-2^62<=a:=đ b tt
theorem ī{c:Nat}(e:0<=a)(f:b<=(c:Int))(g:d<br (b-a)):br (a+d)<c:=by obtain⟨n,rfl⟩:=eh e;exact cT.mp<|kE (Int.add_lt_of_lt_sub_left<|Int.lt_toNat.mp g) f
theorem Ĭ{b:Nat}(c:0<=a):0<=a+(b:Int):=zL c<|bc b
theorem MF{b:Nat}(c:0<=a)(d:a<(b:Int)):br a<b:=(Int.toNat_lt c).mpr d
theorem Ur(c:a<200)(d:br b<a):b<2^63:=bn (jc b)<|fh (cT.mpr<|dI d c)<|by decide
theorem Us(b:a<1000):a<=2^24:=l0 (aF b) tt
theorem Ut(b:a<200):a<1000:=ab b<|ap rfl
theorem Į:1<1000:=aF<|dP (oZ<|oZ 1) 997
theorem į:1+50<=51:=no
theorem İ:0+50<=50:=al<|0+50
theorem ı(c:a+b<=51):a<1000:=az (ab (bi a b) c)<|dN tt
theorem Ĳ(d:a+b+(c+1)<=51):a+1<1000:=az (ab (aK<|ab (bi a b)<|ab (bi _ _) d)<|al _)<|by decide
theorem ĳ(d:a+b+(c+1)<=51):a+c<=51:=ab (c_ (bi a b)<|cB c) d
theorem Ĵ(c:a+(b+1)<=50):a+b<=50:=aF c
theorem ĵ(c:a+(b+1)<=50):a<1000:=az (ab (bi a<|b+1) c)<|dN tt
theorem Ķ(c:a+1+(b+1)<=51):a<1000:=l0 (ab (bi (a+1)<|b+1) c) tt
theorem ķ(c:a+(b+1)<=50):a+1+b<=50:=ab (aH<|(fa a 1 b).trans<|congrArg (a+·)<|bx 1 b) c
theorem ĸ(c:a+b<=50):a<64:=az (ab (bi a b) c)<|by decide
theorem Ĺ(d:a<100)(e:b<=c)(f:c<a):b<1000:=az e<|dI f<|dI d<|by decide
theorem ĺ(c:a<100)(d:b<=a):b<1000:=az d<|l0 c tt
theorem Ļ(c:a<100)(d:b<=a):b+1<=101:=aK<|ab d<|aF c
theorem ļ(b:a<=101):a<1000:=az b<|aB (cb 101)<|ap rfl
theorem Ľ(b:a<=102):a<1000:=az b<|aB (cb 102)<|ap rfl
theorem ŀ(d:a<400)(e:b<a)(f:c<=2*b+1):c<1000:=az (ab f<|aK<|Jq 2<|aF<|dI e d)<|dN tt
theorem ł(c:a+b<=10000):a<=16777216:=ab (bi a b)<|l0 c tt
theorem Ń(e:a+b<=10000):min (br c) a-0+b+(min a a-br (max c d))<=16777216+1:=ab (c_ (bX (eI _ _) b)<|ab (cq _ _)<|kz _ _)<|ab (c_ e<|ab (bi a b) e)<|by decide
theorem Ņ(e:a+b<=10000)(f:c=a)(g:d=b):c+d<=10000:=ab (c_ (aH f)<|aH g) e
theorem ņ(c:a<=10000)(d:b=a):b<=2^24:=ab (aH d)<|l0 c tt
theorem Ň{a:Nat}(d:a<=b)(e:c=b):a<=c:=ab d<|aH e.symm
theorem ŉ{a:Nat}:(0<=-1+((a:Int)+1)/\-1+(a+1)<(a:Int)+1)/\br (-1+(a+1))=a:=have e:-1+((a:Int)+1)=a:=(uG (-1)<|(a:Int)+1).trans<|Int.add_neg_cancel_right a 1;⟨⟨cJ (bc a)<|uH e.symm,bn (uH e)<|Int.lt_succ a⟩,congrArg br e⟩
theorem Ŋ(c:a<=1000)(d:b=a+1):b<=16777216:=ab (aH d)<|l0 (aK c) tt
theorem Uu(c:a=b+1):b<a:=aH<|id<|FJ c
theorem ŋ(c:a<=1000)(d:b=a+1):b-1<=16777216+1:=ab (cq b 1)<|ab (aH d)<|l0 (aK c) tt
theorem Ō{a:Nat}:¬(a:Int)+1=0:=λh=>o_ a<|Int.ofNat.inj h
theorem ō(c:a<=900)(d:b=a):b<=1000:=ab (aH d)<|l0 c tt
theorem Ŏ(b:a=0):a<=900:=ab (aH b)<|au _
theorem ŏ(b:a=0):a<=1000:=ab (aH b)<|au _
theorem ő(c:a+50*3<=9000)(d:b<=a+1):b+50*2<=9000:=ab (bX (ab d<|bF (by decide) a) 100) c
theorem Œ{a:Nat}(b:a<=1000):¬(a:Int)>=2^63:=Int.not_le.mpr<|bn (bj.mpr b)<|by decide
theorem zQ(c:a+1<=b):a<b:=c
theorem œ(d:a<=2000)(e:b<=c*2000):a+b<=(c+1)*2000:=ab (c_ d e)<|aH<|(bx ..).trans (fK c 2000).symm
theorem Ŕ(c:a<=900):min b a<=900:=ab (eI b a) c
theorem Ŗ{a:Nat}{b:Nat}(c:a<=2000)(d:b<=1800000):(-2^63<=(a:Int)/\(a:Int)<2^63)/\-2^63<=(b:Int)/\(b:Int)<2^63:=⟨⟨cJ (by decide)<|bc a,bn (bj.mpr c)<|by decide⟩,⟨cJ (by decide)<|bc b,bn (bj.mpr d)<|by decide⟩⟩
theorem ŗ(c:a<=1000/\b<=1000):a+(b+0)+2*0<=16777216:=ab (c_ c.1 c.2:a+b<=1000+1000)<|dN tt
theorem Ř:a+(b+0)+2*0<=a+b:=al<|a+b
theorem ř(g:a<=b+c)(f:b<=1000/\c<=1000)(h:d<=e*2000):a+d<=(e+1)*2000:=ab (c_ (ab g<|c_ f.1 f.2) h)<|aH<|(bx ..).trans (fK e 2000).symm
theorem ś{a:Nat}(d:a=b)(e:a<=c):b<=c:=ab (aH d.symm) e
theorem Ş(c:a+50*(b+1)<=9000):a+1+50*b<=9000:=ab (ab (aH<|fa a 1<|50*b)<|bF (ab (aH<|bx 1<|50*b)<|bF (n:=1) (m:=50) (dN tt)<|50*b) a) c
theorem ş{a:Nat}:¬(a:Int)<0:=Ff dv<|bc a
theorem Š{a:Nat}(b:a<=900*2000):¬(a:Int)>=2^63:=Int.not_le.mpr<|l4 b tt
theorem ţ(b:a+50*0<=9000):a+1<9900:=az (aK b)<|dN tt
theorem ť(c:a<=1000)(d:b=a):b<=2^24:=ab (aH d)<|l0 c tt
theorem Ŧ(c:a+b<=900):a<=900:=ab (bi a b) c
theorem Ũ{a:Nat}:a-0-1+1=(a:Int):=(Int.sub_add_cancel _ 1).trans<|Fg a
theorem ũ{a:Nat}(b:¬(a:Int)>0):0=(a:Int):=mO (bc a)<|dv.mp b
theorem MH{a:Nat}(b:a<=899):(a:Int)<2^63:=bn (bj.mpr b)<|by decide
theorem ŭ{a:Nat}(c:¬(a:Int)<=b):b<a:=Int.not_le.mp c
theorem ů:(((a:Nat))+((((0:Nat):Nat))*(-1)))=((a:Nat):Int):=rfl
theorem Ű(b:a<=899):a<=900:=ke b
theorem ű(b:a<=899):a+1<=1000:=az b<|aB (cb 899)<|ap rfl
theorem Ų(d:a+b<=c):a+1+b<=c+1:=ab (aH<|Nat.add_right_comm a 1 b)<|aK d
theorem ų(d:a+b<=c)(e:0<a):1+(b+1)<=c+1:=aK<|ab (bX e b) d
theorem Ŵ{a:Nat}(d:a+b<=c):a<=c:=ab (bi a b) d
theorem ŵ{a:Nat}(d:a+b<=c):b<=c:=ab (dP b a) d
theorem Ÿ(c:a<=800)(d:b<=a):b<=900:=ab d<|l0 c tt
theorem Ź(d:0<a):b+(c+a+0)≠0:=eJ<|aB d<|ab (dP a c)<|dP _ b
theorem Ux(d:a+1+b<c):a<c:=az (ab (bi a 1)<|bi (a+1) b) d
theorem ź(d:a+1+b<c):a+1+b<c:=d
theorem Ż(d:a<=100)(e:b+50*c<=9000):b+1+a<9900:=az (c_ (aK<|ab (bi b _) e) d)<|by decide
theorem Ž(c:a+100<b):a<b:=az (bi a 100) c
theorem ž(c:a+100<b):a+1+1<b:=az (bF (n:=2) (m:=100) (dN tt) a) c
theorem Uz{a:Nat}(d:a=b)(e:c<b):c<a:=eB e d.symm
theorem δ{a:Nat}(c:a<=2^24)(d:b<a):(b:Int)<2^63-1:=fh (cT.mpr<|aB d c)<|by decide
theorem ε(c:a+9<9):1<=b:=absurd c<|Nat.not_lt_of_le<|dP 9 a
theorem θ{a:Nat}(b:¬(a:Int)<1):0<(a:Int):=dv.mp b
theorem ι{a:Nat}(b:a<=12):1*(a:Int)<=2^63-1:=cJ (uH<|wJ _)<|ę b tt
theorem ν(b:a<=10):a<=1000000:=ab b<|ap rfl
theorem MI(b:a=13):11<a:=eB (m:=13) (dN tt) b.symm
theorem ξ(b:0<=a/\br a<8):a<2^63:=bn (jc a)<|fh (cT.mpr b.2)<|by decide
theorem ο{a:Nat}(c:a<b)(d:b<=10):0<=97+(a:Int)/\97+(a:Int)<=1114111:=⟨bc<|97+a,bj.mpr<|ab (bF (aF<|aB c d) 97)<|by decide⟩
theorem π{a:Nat}(c:a<b)(d:b<=10):(a:Int)<2^63:=l4 (ab (aF c) d) tt
theorem ρ(d:a=13)(e:b<c)(f:c<=10):b<a:=aB e<|ab f<|d▸(by decide)
theorem ς(b:0<=a/\br a<9):a<2^63:=bn (jc a)<|fh (cT.mpr b.2)<|by decide
theorem τ{a:Nat}:br (97+a)=97+a:=lw<|br<|97+↑a
theorem υ(b:a=13):10<a:=eB (m:=13) (dN tt) b.symm
theorem χ(c:a<=900)(d:b=1+a):b<=901:=ab (aH d)<|bF c 1
theorem ω{a:Nat}(b:1<=a):(a:Int)≠0:=Int.ne_of_gt<|cT.mpr b
theorem aab{a:Nat}(b:1<=a):(a:Int)>0:=Ff bj b
theorem aad{a:Nat}{b:Nat}(c:a<=1000)(d:b<=40):-2^63<=a+((b:Int)-1)/\a+((b:Int)-1)<2^63:=⟨cJ (dD (p:=(-2^63:Int)<=0+(0-1)) tt)<|Int.add_le_add (bc a)<|Int.sub_le_sub_right (bc b) 1,bn (Int.add_le_add (bj.mpr c)<|Int.sub_le_sub_right (bj.mpr d) 1)<|dD tt⟩
theorem aaf{a:Int}(b:¬a<1):0<a:=dv.mp b
theorem aag{a:Int}(b:a<=40):1*a<=2^63-1:=cJ (uH<|wJ a)<|cJ b<|dD tt
theorem aah{a:Int}(b:a<=40):a<=16777216:=cJ b<|dD tt
theorem aai(b:a=1):1<=br a:=aH<|congrArg br b.symm
theorem aaj{a:Nat}{b:Nat}(c:1<=a/\a<=40):a-1-(b:Int)<=40:=cJ (QW _<|bc b)<|cJ (QW _<|dD tt)<|bj.mpr c.2
theorem aak{a:Nat}{b:Nat}(c:a<=100):-1000<=b-1-(a:Int):=cJ (dD (p:=-1000<=0-1-((100:Nat):Int)) tt)<|Int.sub_le_sub (Int.sub_le_sub_right (bc b) 1)<|bj.mpr c
theorem aal(f:a<=b+c+d*50)(g:e<=50)(h:c<=e):a<=b+(d*50+50):=ab f<|ab (aH<|fa ..)<|bF (ab (bX (ab h g) _)<|aH<|bx ..) b
theorem aam{b:Nat}(c:0<=a/\a<=1000)(d:b<=1000):jv (a-1-b)<2^63:=by obtain⟨n,rfl⟩:=eh c.1;exact az (ab (uF _ _)<|bX (uF n 1) _)<|az (c_ (aK<|bj.mp c.2) d)<|by decide
theorem aan{a:Nat}(b:a<=64):(a:Int)*2<=2^27:=cJ (bj.mpr<|cw 2 b)<|dD tt
theorem aao(c:a<=10000)(d:b=2^24):a<=b:=ri c d tt
theorem aap{a:Nat}(c:¬a=b):¬a=(b:Int):=λh=>c<|Int.ofNat.inj h
theorem aar(b:0<=a)(c:br a<2):a=0\/a=1:=(Ť c).imp (λe=>(jP b).symm.trans<|congrArg cS e) λe=>(jP b).symm.trans<|congrArg cS e
theorem aas{a:Nat}(c:a<b):(b:Int)≠0:=λh=>kB a<|eB c<|Int.ofNat.inj h
theorem aat{a:Nat}(d:a=b)(e:0<=c/\c<(b:Int)):br c<a:=eB ((Int.toNat_lt e.1).mpr e.2) d.symm
theorem aau{a:Nat}(c:a<=1000)(d:0<=b/\b<(a:Int)):b<2^63:=kE d.2<|cJ (bj.mpr c)<|by decide
theorem aav{a:Nat}(d:a<=40)(e:b<=a)(f:c<=br ((a:Int)-(b:Int))):b+c<=40:=ab (FM e<|ab f<|aH<|mj a b) d
theorem aaw{a:Nat}{b:Nat}(d:a<=40)(e:b<=100)(f:c<=br ((a:Int)-1-(b:Int))):c+b+1<=200:=ab (aK<|c_ (ab f<|ab (aH<|(congrArg br<|Hy a 1 b).trans<|mj a<|1+b)<|ab (cq ..) d) e)<|by decide
theorem aax(b:a<=0):a=0:=Nat.eq_zero_of_le_zero b
theorem aay{a:Nat}(d:a<=b)(e:b<c):a<=c:=ab d<|aF e
theorem aaz(c:a<=b+1)(d:a>=b+1):a=b+1:=bA c d
theorem aaA(c:a+1=b+1+1):a=b+1:=ky c
theorem aaC{b:Nat}{c:Nat}(d:a=b+1)(e:(c:Int)=(a:Int)-1):c=b:=ml.mp<|e.trans<|d▸Lw b 1
theorem aaD{c:Nat}{d:Nat}(e:a=b+1)(f:a=1+c)(g:(d:Int)=(c:Int)):d=b:=(Int.ofNat.inj g).trans<|ky<|(bx c 1).trans<|f.symm.trans e
theorem lP{a:Nat}(c:a<b):a<=b:=aF c
theorem aaF(d:a=b+1)(e:c<=b):c<a:=eB (bY e) d.symm
theorem aaG:a+1-1-b=a-b:=rfl
theorem aaH(d:a=b+1):b-c<a:=az (cq b c)<|eB (cb b) d.symm
theorem UD(c:a<b):b-(a+1)+1=b-a:=du<|dr c
theorem pJ{a:Nat}:a-b<=a:=cq a b
theorem CR{a:Nat}(c:a<=b):b-(b-a)=a:=cV c
theorem UE{a:Nat}(d:a<=b):c-b<=c-a:=Nat.sub_le_sub_left d c
theorem aaJ{a:Nat}(c:a<=b)(d:b<=a):b=a:=bA d c
theorem aaL{a:Int}:a=b+a-b:=((congrArg (·-b)<|uG b a).trans<|Lw a b).symm
theorem aaM{a:Nat}(e:a<=b)(f:b<c)(g:c<=d):a<d:=az e<|aB f g
theorem HS{a:Nat}(d:a<=b)(e:b<=c):a<=c:=ab d e
theorem aaP{a:Nat}:0<=1+(a:Int):=bc<|1+a
theorem aaQ:((1+a+b:Nat))=1+a+(b:Int):=rfl
theorem aaS(e:a<=b)(f:c<a-d):min (b-d-(b-a)) (b-(b-a))-1-c<b-d-(b-a):=by rw[HN,(kD b d<|b-a).trans<|congrArg (·-d)<|cV e];exact az (cq _ c)<|jt (cY f) ju
theorem aaT(f:a<b-c):d-1-(c+a)=d-b+(min (d-c-(d-b)) (d-(d-b))-1-a):=by
 rw[HN];haveI e:(d-1)-(c+a)=d-(c+1+a):=(mz d 1<|c+a).trans<|congrArg (d-·)<|(bx 1<|c+a).trans (Fe c a).symm;refine dy (Fh b d) (λh=>?_) λh=>?_;.rw[Mt h];exact e.trans ((congrArg ((d-b)+·)<|mz b (c+1) a).trans<|ll h (HO f).2).symm
 .rw[qr h,jA];exact e.trans (mz d (c+1) a).symm
theorem aaU{a:Nat}(e:¬a<b-c):min (d-c-(d-b)) (d-(d-b))<=a:=ab (aH<|(HN ..).trans<|kD ..)<|ab (dq (g_<|ab (Hx<|al<|d-b)<|aH<|bx ..) c)<|Nat.le_of_not_lt e
theorem aaW(d:a<=b)(e:a=c+1):b-c=b-a+1:=by subst e;exact(du<|dr d).symm
theorem aaX(e:a<=b)(d:b-c=b-a+1):a=c+1:=Nat.add_right_cancel<|((cX e).trans<|(du<|aF<|lL d).symm.trans<|congrArg (·+c) d).trans<|(fa _ 1 c).trans<|(bx ..).trans<|congrArg (·+(b-a))<|bx 1 c
theorem aa0:a-(b+1)<=a:=cq a<|b+1
theorem aa4:a+1+b+1=a+1+(b+1):=fa (a+1) b 1
theorem aa5{a b c:Nat}:a+b+c-c=a+b:=Lu (a+b) c
theorem ML{a:Nat}:a+b-a=b:=o6 a b
theorem aa6{a:Nat}(b:(a:Int)<1):a=0:=Nat.lt_one_iff.mp<|cT.mp b
theorem aa7{a:Nat}(b:(a:Int)=1):a=1:=Int.ofNat.inj b
theorem aa9(c:1<=a)(d:b=a):0<b:=eB c d.symm
theorem aba(c:a<=12)(d:b=a):b<=12:=ab (aH d) c
theorem UI(b:1<=a):a=a-1+1:=(du b).symm
theorem abe(e:a<b)(f:c<d)(g:97+c=97+a)(h:97+(d-1)=97+(b-1)):a=c/\b=d:=⟨(jQ g).symm,((du<|cY e).symm.trans<|congrArg (·+1) (jQ h).symm).trans<|du<|cY f⟩
theorem abh{b:Nat}(c:0<=a):b+1+br a=br (1+b+a)/\0<=1+b+a:=by obtain⟨n,rfl⟩:=eh c;exact⟨congrArg (·+n)<|bx b 1,bc<|1+b+n⟩
theorem abi(d:a<=12)(e:b+1=br c)(f:c<=a):b<=12:=ab (cB b)<|ab (aH e)<|Int.toNat_le.mpr<|cJ f d
theorem abj(e:a<=b):a+1<=c-d+1+b:=ab (aK e)<|ab (aH<|bx b 1)<|bX (dP 1 _) b
theorem UJ{a:Nat}:a+b=b+a:=bx a b
theorem abk{a:Nat}(d:a<min b c):a<b:=aB d<|kz b c
theorem abl{a:Nat}(e:a=b)(f:c+d<=b):min d (a-c)=d:=dB<|Nat.le_sub_of_add_le'<|ab f<|aH e.symm
theorem abm(f:a=b)(g:c+d<=b)(h:e<d):c+(d-1-e)<a:=f▸aB (so (az (cq _ e)<|jt (cY h) ju) c) g
theorem abn(e:a=b):c+(b-1-d)=c+(a-1-d):=congrArg (λx=>c+(x-1-d)) e.symm
theorem abo(b:a<=0):br a=0:=Int.toNat_of_nonpos b
theorem abp(b:br a=0):a<1:=bn (cJ (jc a)<|uH<|congrArg zt b)<|by decide
theorem UK(c:a<b):b-1-a+1=b-a:=(congrArg (·+1)<|kD b 1 a).trans<|du<|dr c
theorem abq:a-(b+1)=a-1-b:=kD a b 1
theorem abv{a:Nat}{b:Nat}:br (a-b)=a-b:=mj a b
theorem abw:a+1=1+a:=bx a 1
theorem abx{b:Nat}{c:Nat}(d:a=1+b):c-a=br (c-1-b):=(congrArg (c-·) d).trans ((congrArg br<|Hy c 1 b).trans<|mj c<|1+b).symm
theorem abz(b:a<10):97+a<128:=so (dI b<|by decide:a<31) 97
theorem abA(b:a<=12):1+a<=13:=bF b 1
theorem abC:a=1*a:=(Nat.one_mul a).symm
theorem abD(c:a<=b):min (a+1) (b+1)=a+1:=dB<|aK c
theorem abE{a:Nat}(d:a<=b)(e:c<a):c<b:=aB e d
theorem abF:min a (a+1)=a:=dB<|cB a
theorem abG{a:Nat}:¬a+b<a:=fY<|bi a b
theorem abI{a:Nat}(c:a<b)(d:a=b):False:=bJ c d
theorem abN{a:Nat}:a+2=((a+2:Nat):Int):=rfl
theorem UM:a<=a+2:=aF<|cB<|oZ a
theorem UN(d:a=b+1)(e:c<b):c+2<=a:=d▸aK e
theorem UO(d:a=b+1)(e:c<b):c+1<a:=eB (gM e) d.symm
theorem abO{a:Nat}(d:a<b-c):a+c<b:=Nat.add_lt_of_lt_sub d
theorem abP(b:a<=9):a=0\/a=1\/a=2\/a=3\/a=4\/a=5\/a=6\/a=7\/a=8\/a=9:=(by decide:∀a,a<10->a=0\/a=1\/a=2\/a=3\/a=4\/a=5\/a=6\/a=7\/a=8\/a=9) a<|bY b
theorem abQ(b:a<=2):a=0\/a=1\/a=2:=(Nat.lt_or_eq_of_le b).elim (λh=>(Ť h).imp_right Or.inl) λh=>.inr<|.inr h
theorem abR(c:a+1<=b):b-(a+1)<b:=jt (cY c)<|gA a
theorem abU(c:a<0+b):a<b:=eB c<|jA b
theorem abV:1+1*a=a+1:=(congrArg (1+·)<|Nat.one_mul a).trans<|bx 1 a
theorem abZ(e:a<b)(f:b+c<=d):a+(c+1)<=d:=ab (aH<|Nat.add_right_comm a c 1)<|ab (bX e c) f
theorem UQ{a:Nat}:¬0>(a:Int):=Ff dv<|bc a
theorem UR{a:Nat}(d:a<=b):min (a-c) (b-c)=a-c:=dB<|dq d c
theorem ab0(c:0<a):0<b+a:=aB c<|dP a b
theorem ab1(c:a=b+1):0<a:=eB (gA b) c.symm
theorem HT(c:a<b):0<b:=cY c
theorem US{a:Nat}(d:a<b)(e:b<=c):a<=c:=ab (aF d) e
theorem MN{a:Nat}(d:a<=b):a-c<=b-c:=dq d c
theorem ab7:0<a-b+1:=gA _
theorem zR{a:Int}:a+b+c=a+(b+c):=Int.add_assoc a b c
theorem aca:(a+1+1+1)/2=(a+1)/2+1:=Nat.add_div_right (z:=2) (a+1)<|by decide
theorem acb(c:a<=1)(d:b<a):b=0:=Nat.lt_one_iff.mp<|aB d c
theorem acd{a:Nat}(c:a>=b):max 0 (min (b:Int) a)=b:=(congrArg (max 0)<|yv<|bj.mpr c).trans<|l5<|bc b
theorem ace{a b c d:Int}(e:a+b=c):d+b+a=d+c:=(Int.add_assoc d b a).trans<|congrArg (d+·)<|(uG b a).trans e
theorem acf{a:Int}:1+a+b=a+(1+b):=(congrArg (·+b)<|uG 1 a).trans<|Int.add_assoc a 1 b
theorem acg{a:Nat}:a+b+c=b+((a:Int)+c):=(Int.add_assoc a b c).trans<|Int.add_left_comm a b c
theorem UW{a:Int}:a+b+c=b+(a+c):=(Int.add_assoc a b c).trans<|Int.add_left_comm a b c
theorem ach{a:Nat}:1+a=((a+1:Nat):Int):=uG 1 a
theorem HU{a:Int}:0+a+(0+b)=b+a:=((congrArg (·+(0+b))<|eb a).trans<|congrArg (a+·)<|eb b).trans<|uG a b
theorem aci{a:Int}:0+a+(0+b)=a+b:=(congrArg (·+(0+b))<|eb a).trans<|congrArg (a+·)<|eb b
theorem acj{a:Nat}(d:a<=b):b-c=a-c+(b-c-(a-c)):=(cX<|dq d c).symm
theorem ack:a<b+1+(a-b+c):=aB (eB (bY<|ab (Hx<|al<|a-b)<|aH<|bx ..) (Fe b<|a-b).symm)<|bF (bi _ c)<|b+1
theorem acm:a+1-(b+1)=a-b:=Nat.add_sub_add_right a 1 b
theorem aco{a:Int}:a+b+(c+d)=a+c+(b+d):=(Int.add_assoc a b<|c+d).trans<|(congrArg (a+·)<|Int.add_left_comm b c d).trans (Int.add_assoc a c<|b+d).symm
theorem acp{a:Int}:a+b+(c+d)=a+c+(d+b):=aco.trans<|congrArg (a+c+·)<|uG b d
theorem acr(d:a<=b)(e:b<=c):min a (min (a+1)<|c+1)=a:=dB<|lj (cB a)<|ab d<|ab e<|cB c
theorem MO{a:Nat}(d:a=b)(e:a<=c/\c<=b):c=a:=bA (ab e.2<|aH d.symm) e.1
theorem acu{a:Nat}(d:a<b):c-a-(b-a)=c-b:=(mz c a<|b-a).trans<|congrArg (c-·)<|cX<|aF d
theorem acv{a:Nat}(d:¬a=b):¬c+a=c+b:=λh=>d<|jQ h
theorem acw{a:Nat}:a+b-(a+c)=b-c:=HA a b c
theorem acx:a+b+1+c=a+(b+1+c):=fa a (b+1) c
theorem acy(d:a+1+b=a+1+c):b=c:=jQ d
theorem acz{a:Nat}(e:a<=b-c):min (a-d) (b-c-d)=a-d:=dB<|dq e d
theorem acA{a:Nat}(d:a<b):c+a<c+b:=so d c
theorem acC(d:a+b=a+c+1):b=c+1:=jQ d
theorem acD(d:a=b+1):c+a=c+b+1:=congrArg (c+·) d
theorem acE{a:Nat}(e:a<=b)(f:b<=c+(d+(b-a))):a-c<=d:=g_<|ab (aH (cV e).symm)<|g_<|ab f<|aH<|(fa c d _).symm.trans<|congrArg (·+(b-a))<|bx c d
theorem acF{a:Nat}(d:a<b)(e:b<=c):a+(b-a+(c-b))=c:=((fa ..).symm.trans<|congrArg (·+(c-b))<|cX<|aF d).trans<|cX e
theorem acG(d:a<b)(e:b<=c):min a (min (a+1)<|c+1)=a:=dB<|lj (cB a)<|ab (aF d)<|ab e<|cB c
theorem acH(d:a<b)(e:b<=c):b-a+1=min (b+1-a) (c+1-a):=(X_<|aF d).symm.trans (dB<|dq (aK e) a).symm
theorem acJ{a:Nat}(e:a<b)(f:b<=c)(g:d<=b-a):a+d<=c:=ab (bF g a)<|ab (aH<|cX<|aF e) f
theorem acK{a:Nat}(d:a<b)(e:c<=b-a):a+c<=b:=ab (bF e a)<|aH<|cX<|aF d
theorem acL:min (a-b) (a-b+1)=a-b:=dB<|cB _
theorem acO(e:a<b)(f:b<=c)(g:d<=b-a):a+d<c+1:=bY<|ab (bF g a)<|ab (aH<|cX<|aF e) f
theorem acQ{a:Nat}:a=((a+1:Nat):Int)-1:=(Lw a 1).symm
theorem acR{a:Nat}(c:¬a=b):b≠(a:Int):=λh=>c (Int.ofNat.inj h).symm
theorem acT(c:0<=a/\br a<b):0<=1+a/\1+a<((b+1:Nat))/\br (1+a)<=b:=by obtain⟨n,rfl⟩:=eh c.1;exact⟨bc<|1+n,cT.mpr<|az (aH<|bx 1 n)<|gM c.2,ab (aH<|bx 1 n) c.2⟩
theorem acU:min 0 a=0:=lw<|min 0 a
theorem acV(d:a<b)(e:c=a+1):c<=b:=ab (aH e) d
theorem acW:0<=0/\0<=0:=⟨al 0,al 0⟩
theorem acX(d:a<=b)(e:c<=2^10)(f:b<=c):a<=1024:=ab d<|ab f e
theorem acZ{b:Nat}(d:a<=(b:Int))(e:c=0\/c=1):c+a<=((b+1:Nat)):=cJ (Int.add_le_add (e.elim (λh=>cJ (uH h)<|by decide) uH) d)<|uH<|uG 1 b
theorem ac1{b:Nat}(d:a<=(b:Int))(e:c=0\/c=1)(f:c+a=((b+1:Nat):Int)):a=b:=Int.add_left_cancel<|(congrArg (·+a) (ac0 d e f).symm).trans<|f.trans<|uG b 1
theorem ac2(c:0+a<=b):a<=b:=ab (aH (jA a).symm) c
theorem UY{a:Nat}(e:a<b)(f:c=a)(g:d=b):c<=d:=ab (aH f)<|ab (aF e)<|aH g.symm
theorem ac3(d:a<=b)(e:c=a):c<b+1:=bY<|ab (aH e) d
theorem ac4{a:Nat}(e:a<=b)(f:c=a)(g:d<=c):d<=b:=ab g<|ab (aH f) e
theorem ac8{a:Nat}(d:a<=b)(e:c<=a):c<=b:=ab e d
theorem ac9{d:Nat}{e:Nat}(f:a<=12)(g:0<=a)(h:b<=10)(i:c<=b)(j:d<=c)(k:e<=12):jv (a-1-e)<2^40/\jv (d:Int)<2^40:=by obtain⟨n,rfl⟩:=eh g;exact⟨az (ab (uF _ _)<|bX (uF n 1) _)<|az (c_ (aK<|bj.mp f) k)<|by decide,az (ab j<|ab i h)<|by decide⟩
theorem adg(b:a=32):a<128:=az (aH b)<|dN tt
theorem adh(b:0<=a/\br a<8):5<=5+a/\5+a<=12:=by obtain⟨n,rfl⟩:=eh b.1;exact⟨bj.mpr<|bi 5 n,bj.mpr<|bF (cg b.2) 5⟩
theorem adi{a:Nat}(d:a=b):b-c<=a:=ab (cq b c)<|aH d.symm
theorem adm(d:a<=b)(e:b<=10)(f:c=a+1):1<=c/\c<=50:=f▸⟨gA a,ab (aK<|ab d e)<|by decide⟩
theorem adw(d:a<=b)(e:b<=10)(f:c<=a):c<=16:=ab f<|ab d<|l0 e tt
theorem adB{a:Nat}:min (a-b) a=a-b:=dB<|cq a b
theorem Yt{N:Nat}(h:a≠b):N+a≠N+b:=λe=>h<|jQ e
theorem Ub:N≠N+(a+1):=bJ<|CE<|gA a
theorem Yu(h:l<N)(a:Nat):l≠N+a:=bJ<|aB h<|bi N a
theorem UC(a n:Nat):(max 0<|min (a:Int) n).toNat=min a n:=by
 refine dy (Fh a n) (λh=>?_) λh=>?_;.rw[yv<|bj.mpr h,dB h];exact congrArg br<|l5<|bc a
 .rw[Int.min_eq_right<|bj.mpr h,Qu h];exact congrArg br<|l5<|bc n
theorem ĩ{i:Nat}(h:i<=n):max 0 (min (if(i:Int)<0 then(i:Int)+n else i) n)=i:=by rw[if_neg<|dv.mpr<|bc i,yv<|bj.mpr h];exact l5<|bc i
theorem Ī{h:Nat}(a:h<=n):(((n:Int)-h+2-1)/2).toNat=(n-h+1)/2:=by rw[<-hV a,Int.add_sub_assoc];rfl
theorem ĭ{h n:Nat}(k:¬(h:Int)<n):br 0=(n-h+1)/2:=by rw[qr<|bj.mp<|dv.mp k];rfl
theorem ZN{n:Nat}(h:1<=n):(if(n:Int)>1 then(n:Int) else 1)=n:=by
 refine dy (Nat.lt_or_eq_of_le h) (λk=>?_) λk=>?_;.exact if_pos<|cT.mpr k
 .subst k;exact if_neg<|by decide
end
section
open Array renaming any->AL
open Nat renaming eq_of_beq_eq_true->qt
open PySem renaming treeTable->zu,Params->Fj
open PySem.Shared renaming heap->TL
open PySem.W renaming boot_drawn->gB,boot_heap->gY,fencedOpening->vw,boot_toks->zv,topFrame->Fl,namesBound->Fm,staticsOk->Jr,gensDone->Qv,laidKept->Qw,SharedT->VA,topFrom->VB
open PySem PySem.W
noncomputable abbrev agR:=Array Nat->(Nat->Bool)->Nat->Nat->Bool
noncomputable def V'(a:Array Nat)(p:Nat->Bool)(i j:Nat):Bool:=match Fi i 0&&Fi j a.size with|true=>a.toList.any p|false=>AL a p i j
theorem Rl:V'=(λa p i j=>@Array.any Nat a p i j):=by
 funext a p i j;unfold V';split;.rename_i h;obtain⟨h1,h2⟩:=Bool.and_eq_true_iff.mp h;have h1:=qt h1;have h2:=qt h2;subst h1 h2;rw[<-ie]
 .rfl
noncomputable def Wa(A:agR):Builtin:=by
 refine(?f:(b:dF)->(A=(@Array.any Nat)->b=dF.«type.__new__»)->dF) ?b ?h;case f=>exact λb _=>b
 case h=>intro hA;rewrite [PySem.W.Fast.te4202317264376624991];delta PySem.W.Fast.tw4202317264376624991;rewrite [<-hA];exact rfl
theorem Rm:Wa (@Array.any Nat)=dF.«type.__new__»:=by rw[PySem.W.Fast.te4202317264376624991];delta Wa PySem.W.Fast.tw4202317264376624991;exact rfl
noncomputable def newF:Builtin:=Wa V'
theorem Rn:newF=dF.«type.__new__»:=by rw[<-Rm];unfold newF;rw[Rl]
noncomputable def Ro(id:String):Option Builtin:=match Fi (PySem.W.Fast.tw13482112738370960269 id) 29827186395103491166823348853 with|true=>ae newF|false=>PySem.W.Fast.tw14364793385576792824 id
theorem adC:zu=Ro:=by funext id;unfold Ro;rw[<-PySem.W.Fast.te13482112738370960269,<-PySem.W.Fast.te14364793385576792824];cases h:Fi (code id) 29827186395103491166823348853 with|false=>rfl|true=>have h:=qt h;show entriesT.find (code id)=ae newF;rw[h,Rn];kernel_rfl
noncomputable def ZO:Obj:={cls:=.type "tuple",data:=.seq #[] 0}
noncomputable def ZW:Obj:={cls:=.none,data:=.fields #[]}
noncomputable def Z0:Obj:={cls:=.type "code",data:=.fields #[.str "<module>" 182,.str "<module>" 183,.str "/claim/cut.py" 184,.int 1 0,.int 0 0,.int 0 0,.int 0 0,.int 0 0,.ref 11,.bool false,.int 181 0,.ref 12,.none,.none,.none,.none,.int 185 0,.int 1 0,.str "/claim/cut.py" 186]}
noncomputable def Z2:Obj:={cls:=.type "frame",data:=.plain,slots:=#[ae (.ref 13),ae (.ref 3),ae (.ref 3),ah,ae (.str "__main__" 164),ah,ae (.ref 0)]}
noncomputable def wT(P:Fj):Heap:=⟨#[boot_o_0 P,boot_o_1 P,boot_o_2 P,boot_o_3 P,boot_o_4 P,boot_o_5 P,boot_o_6 P,boot_o_7 P,boot_o_8 P,boot_o_9 P,boot_o_10 P,ZO,ZW,Z0,Z2],(gY P).life⟩
noncomputable def lf(o:uJ):BT:=.node o .nil .nil
noncomputable def adD(P:Fj):BT:=.node (boot_o_0 P) (.node (boot_o_1 P) (.node (boot_o_3 P) (lf<|boot_o_7 P)<|lf ZO)<|.node (boot_o_5 P) (lf<|boot_o_9 P)<|lf Z0) (.node (boot_o_2 P) (.node (boot_o_4 P) (lf<|boot_o_8 P)<|lf ZW)<|.node (boot_o_6 P) (lf<|boot_o_10 P)<|lf Z2)
noncomputable def AZ:List mA->Nat->mA|[],_=>.Pass rl|s::_,0=>s|_::r,n+1=>AZ r n
noncomputable def dA(s:mA):List Stmt:=makes.match_1 (λ_=>List mA) s (λ_ _ b _ _ _ _ _ _ _=>b) (λ_ _ _ b _ _ _ _ _ _ _=>b) λ_=>[]
noncomputable def rc(s:mA):List Stmt:=kpfIfStores.match_1 (λ_=>List mA) s (λ_ _ _ _=>[]) (λ_ _ b _ _=>b) (λ_ _ _ _=>[]) λ_=>[]
noncomputable def rX:Const->bC|.str d=>d|_=>.empty
noncomputable def uq(s:mA):Str:=PyProof.Rows.plain0.match_1 (λ_=>bC) (AZ (dA s) 0) (λe _=>isNumConstant.match_4 (λ_=>bC) e (λc _ _=>rX c) λ_=>.empty) λ_=>.empty
noncomputable def Z8(p:l6):Str:=uq<|AZ p.main.body 5
noncomputable def docS:Str:=by
 refine(?f:(b:bC)->(b=Z8 bE)->bC) ?b ?h;case f=>exact λb _=>b
 case h=>delta bE;dsimp only [Z8,uq,rX,AZ,dA];exact rfl
lay_quick docS
noncomputable def adE:Str:=PySem.W.Fast.tw5803669478795432244
theorem Rp:docS=adE:=PySem.W.Fast.te5803669478795432244
noncomputable def vU(d:bC)(l:List mA):List Stmt:=PyProof.Rows.plain0.match_1 (λ_=>mA) (AZ l 0) (λe z=>.Expr (isNumConstant.match_4 (λ_=>gw) e (λ_ x y=>.Constant (.str d) x y) λe=>e) z) (λs=>s)::l.tail
noncomputable def Wb(d:bC)(s:mA):Stmt:=tameStmt.match_1 (λ_=>mA) s (λn a b l e f g h i j k=>.ClassDef n a b (vU d l) e f g h i j k) λs=>s
noncomputable def MP(d:bC):List mA->Nat->List mA|[],_=>[]|s::r,0=>Wb d s::r|s::r,n+1=>s::MP d r n
noncomputable def patch(p:l6)(d:bC):Program:={p with main:={p.main with body:=MP d p.main.body 5}}
noncomputable def pw:Program:=patch bE adE
theorem MQ:bE=pw:=by unfold pw;rw[<-Rp];kernel_rfl
noncomputable def stmts:List Stmt:=behindTheImports pw
noncomputable def Rq:Env:={scope:=pw.main.scope,locals:=mainNs,globals:=mainNs,cells:=[],code:=.ref 13,frame:=ae 14}
noncomputable def rx:Code:=.body stmts Rq
noncomputable def Z_(w:qu)(os:kZ):SharedT:=⟨adD w.params,15,(gY w.params).life,#[],gB,187,os⟩
noncomputable def vK:Pos:=⟨0,0,0,0⟩
noncomputable def hsh(P:Fj)(s:bC):Int:=if s.cps.isEmpty then 0 else reduceHash (P.strHash s.cps)
noncomputable def ent(P:Fj)(s:bC)(t:Tok)(v:aW):DictEntry:=⟨hsh P s,.str s t,v⟩
noncomputable def oB(p:l6)(i:Nat):Stmt:=AZ p.main.body i
noncomputable def g8(p:l6)(i j:Nat):Stmt:=AZ (dA<|oB p i) j
noncomputable def mH(s:mA)(t:Tok):Value:=.str (uq s) t
noncomputable def jG(s:mA)(q:bC)(cl:List<|bC×cj)(dV kV doc pm:aW)(an:Option cj)(cd ct:aW):FuncData:=defNames.match_1 (λ_=>cv) s (λn a b _ _ _ sc _ _ _=>{name:=n,qualname:=q,params:=a,body:=.stmts b,scope:=sc,globals:=3,closure:=cl,defaults:=dV,kwdefaults:=kV,doc:=doc,pyModule:=pm,annotations:=an,code:=cd,closureTuple:=ct,builtins:=0}) λ_=>rl
noncomputable def ú(s:mA)(q:bC)(cl:List<|bC×cj)(dV kV doc pm:aW)(an:Option cj)(cd ct:aW):FuncData:={jG s q cl dV kV doc pm an cd ct with globals:=0}
noncomputable def wU(p:l6)(P:Fj):Frag:=[(1,⟨.type "dict",ah,.dict #[ent P "builtins" 162 (.ref 4),ent P "__main__" 163 (.ref 5)] 2,#[]⟩),(2,⟨.none,ah,.dict #[] 0,#[]⟩),(3,⟨.type "dict",ah,.dict #[ent P "__name__" 165 (.str "law_wz0046_01" 883),ent P "__doc__" 166 .none,ent P "__package__" 167 .none,ent P "__loader__" 168 (.builtin "__main__.__loader__#opaque"),ent P "__spec__" 169 .none,ent P "__annotations__" 170 (.ref 6),ent P "__builtins__" 171 (.ref 4),ent P "__file__" 173 (.str "/claim/cut.py" 172),ent P "__cached__" 174 .none,ent P "_wall" 193 (.ref 21),ent P "_tuplegetter" 252 (.ref 60),ent P "Match" 380 (.ref 135),ent P "_calculate_ratio" 388 (.ref 145),ent P "SequenceMatcher" 582 (.ref 242),ent P "NL" 586 (.str "\n" 585),ent P "EMPTYSTRING" 588 (.str "" 587),ent P "_ValueFormatter" 696 (.ref 319),ent P "_Accumulator" 792 (.ref 403),ent P "TupleComp" 838 (.ref 431),ent P "add_func_stats" 857 (.ref 442),ent P "add_callers" 869 (.ref 449),ent P "_byteswap" 882 (.ref 456),ent P "_law_ways" 890 (.ref 461),ent P "_law_rows" 896 (.ref 466),ent P "_law_fold" 906 (.ref 473),ent P "_law_turned" 912 (.ref 478),ent P "_law_codes" 918 (.ref 483),ent P "_law_totals" 924 (.ref 488),ent P "law" 930 (.ref 493)] 29,#[]⟩),(4,⟨.type "module",ae 0,.plain,#[]⟩),(81,⟨.type "code",ah,.fields #[.str "__new__" 274,.str "Match.__new__" 275,.str "/claim/cut.py" 276,.int 29 0,.int 4 0,.int 0 0,.int 0 0,.int 3 0,.ref 76,.bool aj,.int 181 0,.ref 77,.none,.ref 78,.ref 79,.ref 80,.int 281 0,.int 29 0,.str "/claim/cut.py" 282],#[]⟩),(82,⟨.type "function",ah,.func<|jG (g8 p 3 4) "Match.__new__" [] .none .none (mH (g8 p 3 4) 283) (.str "cpy313.difflib" 194) ah (.ref 81) .none,#[]⟩),(88,⟨.type "code",ah,.fields #[.str "_make" 285,.str "Match._make" 286,.str "/claim/cut.py" 287,.int 33 0,.int 2 0,.int 0 0,.int 0 0,.int 3 0,.ref 83,.bool aj,.int 181 0,.ref 84,.none,.ref 85,.ref 86,.ref 87,.int 291 0,.int 33 0,.str "/claim/cut.py" 292],#[]⟩),(89,⟨.type "function",ah,.func<|jG (g8 p 3 5) "Match._make" [] .none .none (mH (g8 p 3 5) 293) (.str "cpy313.difflib" 194) (ae 92) (.ref 88) .none,#[]⟩),(91,⟨.type "classmethod",ae 90,.fields #[.ref 89,.bool false],#[]⟩),(134,⟨.type "dict",ah,.dict #[ent P "__module__" 260 (.str "cpy313.difflib" 194),ent P "__firstlineno__" 264 (.int 23 263),ent P "__doc__" 266 (.str "Match(a, b, size)" 265),ent P "__slots__" 268 (.ref 73),ent P "_fields" 272 (.ref 74),ent P "_field_defaults" 273 (.ref 75),ent P "__new__" 284 (.ref 136),ent P "_make" 306 (.ref 91),ent P "_replace" 317 (.ref 100),ent P "__replace__" 318 (.ref 100),ent P "__repr__" 326 (.ref 107),ent P "_asdict" 333 (.ref 114),ent P "__getnewargs__" 341 (.ref 121),ent P "__match_args__" 345 (.ref 122),ent P "a" 355 (.ref 124),ent P "b" 365 (.ref 127),ent P "size" 375 (.ref 130),ent P "__static_attributes__" 376 (.ref 132)] 2,#[]⟩),(135,⟨.type "type",ah,.cls ⟨"Match",[.type "tuple"],[.ref 135,.type "tuple",.type "object"],134,"Match",false,[],[],false,ah,false⟩,#[ae (.ref 65),ah,ae (.str "Match" 253),ae (.str "Match" 261),ae .none,ae (.bool false)]⟩),(136,⟨.type "staticmethod",ah,.fields #[.ref 82],#[]⟩),(153,⟨.type "tuple",ah,.seq #[.none,.str "" 404,.str "" 405,.bool aj] 0,#[]⟩),(159,⟨.type "code",ah,.fields #[.str "__init__" 406,.str "SequenceMatcher.__init__" 407,.str "/claim/cut.py" 408,.int 145 0,.int 5 0,.int 0 0,.int 0 0,.int 3 0,.ref 154,.bool aj,.int 181 0,.ref 155,.none,.ref 156,.ref 157,.ref 158,.int 414 0,.int 145 0,.str "/claim/cut.py" 415],#[]⟩),(160,⟨.type "function",ah,.func<|jG (g8 p 5 1) "SequenceMatcher.__init__" [] (.ref 153) .none (mH (g8 p 5 1) 416) (.str "cpy313.difflib" 194) ah (.ref 159) .none,#[]⟩),(166,⟨.type "code",ah,.fields #[.str "set_seqs" 418,.str "SequenceMatcher.set_seqs" 419,.str "/claim/cut.py" 420,.int 173 0,.int 3 0,.int 0 0,.int 0 0,.int 3 0,.ref 161,.bool aj,.int 181 0,.ref 162,.none,.ref 163,.ref 164,.ref 165,.int 424 0,.int 173 0,.str "/claim/cut.py" 425],#[]⟩),(167,⟨.type "function",ah,.func<|jG (g8 p 5 2) "SequenceMatcher.set_seqs" [] .none .none (mH (g8 p 5 2) 426) (.str "cpy313.difflib" 194) ah (.ref 166) .none,#[]⟩),(173,⟨.type "code",ah,.fields #[.str "set_seq1" 428,.str "SequenceMatcher.set_seq1" 429,.str "/claim/cut.py" 430,.int 184 0,.int 2 0,.int 0 0,.int 0 0,.int 3 0,.ref 168,.bool aj,.int 181 0,.ref 169,.none,.ref 170,.ref 171,.ref 172,.int 433 0,.int 184 0,.str "/claim/cut.py" 434],#[]⟩),(174,⟨.type "function",ah,.func<|jG (g8 p 5 3) "SequenceMatcher.set_seq1" [] .none .none (mH (g8 p 5 3) 435) (.str "cpy313.difflib" 194) ah (.ref 173) .none,#[]⟩),(180,⟨.type "code",ah,.fields #[.str "set_seq2" 437,.str "SequenceMatcher.set_seq2" 438,.str "/claim/cut.py" 439,.int 209 0,.int 2 0,.int 0 0,.int 0 0,.int 3 0,.ref 175,.bool aj,.int 181 0,.ref 176,.none,.ref 177,.ref 178,.ref 179,.int 442 0,.int 209 0,.str "/claim/cut.py" 443],#[]⟩),(181,⟨.type "function",ah,.func<|jG (g8 p 5 4) "SequenceMatcher.set_seq2" [] .none .none (mH (g8 p 5 4) 444) (.str "cpy313.difflib" 194) ah (.ref 180) .none,#[]⟩),(187,⟨.type "code",ah,.fields #[.str "__chain_b" 446,.str "SequenceMatcher.__chain_b" 447,.str "/claim/cut.py" 448,.int 236 0,.int 1 0,.int 0 0,.int 0 0,.int 3 0,.ref 182,.bool aj,.int 181 0,.ref 183,.none,.ref 184,.ref 185,.ref 186,.int 461 0,.int 236 0,.str "/claim/cut.py" 462],#[]⟩),(188,⟨.type "function",ah,.func<|jG (g8 p 5 5) "SequenceMatcher.__chain_b" [] .none .none .none (.str "cpy313.difflib" 194) ah (.ref 187) .none,#[]⟩),(189,⟨.type "tuple",ah,.seq #[.int 0 464,.none,.int 0 465,.none] 0,#[]⟩),(195,⟨.type "code",ah,.fields #[.str "find_longest_match" 466,.str "SequenceMatcher.find_longest_match" 467,.str "/claim/cut.py" 468,.int 260 0,.int 5 0,.int 0 0,.int 0 0,.int 3 0,.ref 190,.bool aj,.int 181 0,.ref 191,.none,.ref 192,.ref 193,.ref 194,.int 488 0,.int 260 0,.str "/claim/cut.py" 489],#[]⟩),(196,⟨.type "function",ah,.func<|jG (g8 p 5 6) "SequenceMatcher.find_longest_match" [] (.ref 189) .none (mH (g8 p 5 6) 490) (.str "cpy313.difflib" 194) ah (.ref 195) .none,#[]⟩),(202,⟨.type "code",ah,.fields #[.str "get_matching_blocks" 492,.str "SequenceMatcher.get_matching_blocks" 493,.str "/claim/cut.py" 494,.int 335 0,.int 1 0,.int 0 0,.int 0 0,.int 3 0,.ref 197,.bool aj,.int 181 0,.ref 198,.none,.ref 199,.ref 200,.ref 201,.int 515 0,.int 335 0,.str "/claim/cut.py" 516],#[]⟩),(203,⟨.type "function",ah,.func<|jG (g8 p 5 7) "SequenceMatcher.get_matching_blocks" [] .none .none (mH (g8 p 5 7) 517) (.str "cpy313.difflib" 194) ah (.ref 202) .none,#[]⟩),(209,⟨.type "code",ah,.fields #[.str "get_opcodes" 519,.str "SequenceMatcher.get_opcodes" 520,.str "/claim/cut.py" 521,.int 383 0,.int 1 0,.int 0 0,.int 0 0,.int 3 0,.ref 204,.bool aj,.int 181 0,.ref 205,.none,.ref 206,.ref 207,.ref 208,.int 530 0,.int 383 0,.str "/claim/cut.py" 531],#[]⟩),(210,⟨.type "function",ah,.func<|jG (g8 p 5 8) "SequenceMatcher.get_opcodes" [] .none .none (mH (g8 p 5 8) 532) (.str "cpy313.difflib" 194) ah (.ref 209) .none,#[]⟩),(241,⟨.type "dict",ah,.dict #[ent P "__module__" 396 (.str "cpy313.difflib" 194),ent P "__firstlineno__" 400 (.int 70 399),ent P "__doc__" 402 (mH (oB p 5) 401),ent P "__init__" 417 (.ref 160),ent P "set_seqs" 427 (.ref 167),ent P "set_seq1" 436 (.ref 174),ent P "set_seq2" 445 (.ref 181),ent P "_SequenceMatcher__chain_b" 463 (.ref 188),ent P "find_longest_match" 491 (.ref 196),ent P "get_matching_blocks" 518 (.ref 203),ent P "get_opcodes" 533 (.ref 210),ent P "get_grouped_opcodes" 542 (.ref 218),ent P "ratio" 551 (.ref 225),ent P "quick_ratio" 558 (.ref 232),ent P "real_quick_ratio" 565 (.ref 239),ent P "__static_attributes__" 576 (.ref 240),ent P "__dict__" 578 (.ref 243),ent P "__weakref__" 580 (.ref 244)] 3,#[]⟩),(242,⟨.type "type",ah,.cls ⟨"SequenceMatcher",[.type "object"],[.ref 242,.type "object"],241,"SequenceMatcher",aj,[],[],false,ah,false⟩,#[ah,ah,ae (.str "SequenceMatcher" 389),ae (.str "SequenceMatcher" 397),ae (.builtin "object.__new__"),ae (.bool aj)]⟩),(259,⟨.type "code",ah,.fields #[.str "__init__" 601,.str "_ValueFormatter.__init__" 602,.str "/claim/cut.py" 603,.int 467 0,.int 5 0,.int 0 0,.int 0 0,.int 3 0,.ref 254,.bool aj,.int 181 0,.ref 255,.none,.ref 256,.ref 257,.ref 258,.int 609 0,.int 467 0,.str "/claim/cut.py" 610],#[]⟩),(260,⟨.type "function",ah,.func<|jG (g8 p 9 0) "_ValueFormatter.__init__" [] .none .none .none (.str "cpy313.email.header" 583) ah (.ref 259) .none,#[]⟩),(280,⟨.type "code",ah,.fields #[.str "newline" 627,.str "_ValueFormatter.newline" 628,.str "/claim/cut.py" 629,.int 482 0,.int 1 0,.int 0 0,.int 0 0,.int 3 0,.ref 275,.bool aj,.int 181 0,.ref 276,.none,.ref 277,.ref 278,.ref 279,.int 632 0,.int 482 0,.str "/claim/cut.py" 633],#[]⟩),(281,⟨.type "function",ah,.func<|jG (g8 p 9 3) "_ValueFormatter.newline" [] .none .none .none (.str "cpy313.email.header" 583) ah (.ref 280) .none,#[]⟩),(315,⟨.type "code",ah,.fields #[.str "_append_chunk" 669,.str "_ValueFormatter._append_chunk" 670,.str "/claim/cut.py" 671,.int 505 0,.int 3 0,.int 0 0,.int 0 0,.int 3 0,.ref 310,.bool aj,.int 181 0,.ref 311,.none,.ref 312,.ref 313,.ref 314,.int 680 0,.int 505 0,.str "/claim/cut.py" 681],#[]⟩),(316,⟨.type "function",ah,.func<|jG (g8 p 9 8) "_ValueFormatter._append_chunk" [] .none .none .none (.str "cpy313.email.header" 583) ah (.ref 315) .none,#[]⟩),(318,⟨.type "dict",ah,.dict #[ent P "__module__" 596 (.str "cpy313.email.header" 583),ent P "__firstlineno__" 600 (.int 465 599),ent P "__init__" 611 (.ref 260),ent P "_str" 619 (.ref 267),ent P "__str__" 626 (.ref 274),ent P "newline" 634 (.ref 281),ent P "add_transition" 641 (.ref 288),ent P "feed" 651 (.ref 295),ent P "_maxlengths" 658 (.ref 302),ent P "_ascii_split" 668 (.ref 309),ent P "_append_chunk" 682 (.ref 316),ent P "__static_attributes__" 689 (.ref 317),ent P "__dict__" 691 (.ref 320),ent P "__weakref__" 693 (.ref 321),ent P "__doc__" 694 .none] 4,#[]⟩),(319,⟨.type "type",ah,.cls ⟨"_ValueFormatter",[.type "object"],[.ref 319,.type "object"],318,"_ValueFormatter",aj,[],[],false,ah,false⟩,#[ah,ah,ae (.str "_ValueFormatter" 589),ae (.str "_ValueFormatter" 597),ae (.builtin "object.__new__"),ae (.bool aj)]⟩),(327,⟨.type "cell",ah,.cell<|ae<|.ref 403,#[]⟩),(332,⟨.type "tuple",ah,.seq #[.int 0 709] 0,#[]⟩),(339,⟨.type "code",ah,.fields #[.str "__init__" 710,.str "_Accumulator.__init__" 711,.str "/claim/cut.py" 712,.int 533 0,.int 2 0,.int 0 0,.int 0 0,.int 3 0,.ref 334,.bool aj,.int 181 0,.ref 335,.none,.ref 336,.ref 337,.ref 338,.int 716 0,.int 533 0,.str "/claim/cut.py" 717],#[]⟩),(340,⟨.type "function",ah,.func<|jG (g8 p 10 0) "_Accumulator.__init__" [("__class__",327)] (.ref 332) .none .none (.str "cpy313.email.header" 583) ah (.ref 339)<|.ref 333,#[]⟩),(346,⟨.type "code",ah,.fields #[.str "push" 719,.str "_Accumulator.push" 720,.str "/claim/cut.py" 721,.int 537 0,.int 3 0,.int 0 0,.int 0 0,.int 3 0,.ref 341,.bool aj,.int 181 0,.ref 342,.none,.ref 343,.ref 344,.ref 345,.int 725 0,.int 537 0,.str "/claim/cut.py" 726],#[]⟩),(347,⟨.type "function",ah,.func<|jG (g8 p 10 1) "_Accumulator.push" [] .none .none .none (.str "cpy313.email.header" 583) ah (.ref 346) .none,#[]⟩),(348,⟨.type "tuple",ah,.seq #[.int 0 728] 0,#[]⟩),(354,⟨.type "code",ah,.fields #[.str "pop_from" 729,.str "_Accumulator.pop_from" 730,.str "/claim/cut.py" 731,.int 540 0,.int 2 0,.int 0 0,.int 0 0,.int 3 0,.ref 349,.bool aj,.int 181 0,.ref 350,.none,.ref 351,.ref 352,.ref 353,.int 735 0,.int 540 0,.str "/claim/cut.py" 736],#[]⟩),(355,⟨.type "function",ah,.func<|jG (g8 p 10 2) "_Accumulator.pop_from" [] (.ref 348) .none .none (.str "cpy313.email.header" 583) ah (.ref 354) .none,#[]⟩),(362,⟨.type "code",ah,.fields #[.str "pop" 738,.str "_Accumulator.pop" 739,.str "/claim/cut.py" 740,.int 545 0,.int 1 0,.int 0 0,.int 0 0,.int 3 0,.ref 357,.bool aj,.int 181 0,.ref 358,.none,.ref 359,.ref 360,.ref 361,.int 743 0,.int 545 0,.str "/claim/cut.py" 744],#[]⟩),(363,⟨.type "function",ah,.func<|jG (g8 p 10 3) "_Accumulator.pop" [("__class__",327)] .none .none .none (.str "cpy313.email.header" 583) ah (.ref 362)<|.ref 356,#[]⟩),(369,⟨.type "code",ah,.fields #[.str "__len__" 746,.str "_Accumulator.__len__" 747,.str "/claim/cut.py" 748,.int 550 0,.int 1 0,.int 0 0,.int 0 0,.int 3 0,.ref 364,.bool aj,.int 181 0,.ref 365,.none,.ref 366,.ref 367,.ref 368,.int 750 0,.int 550 0,.str "/claim/cut.py" 751],#[]⟩),(370,⟨.type "function",ah,.func<|jG (g8 p 10 4) "_Accumulator.__len__" [] .none .none .none (.str "cpy313.email.header" 583) ah (.ref 369) .none,#[]⟩),(376,⟨.type "code",ah,.fields #[.str "__str__" 753,.str "_Accumulator.__str__" 754,.str "/claim/cut.py" 755,.int 553 0,.int 1 0,.int 0 0,.int 0 0,.int 3 0,.ref 371,.bool aj,.int 181 0,.ref 372,.none,.ref 373,.ref 374,.ref 375,.int 757 0,.int 553 0,.str "/claim/cut.py" 758],#[]⟩),(377,⟨.type "function",ah,.func<|jG (g8 p 10 5) "_Accumulator.__str__" [] .none .none .none (.str "cpy313.email.header" 583) ah (.ref 376) .none,#[]⟩),(378,⟨.type "tuple",ah,.seq #[.none] 0,#[]⟩),(384,⟨.type "code",ah,.fields #[.str "reset" 760,.str "_Accumulator.reset" 761,.str "/claim/cut.py" 762,.int 556 0,.int 2 0,.int 0 0,.int 0 0,.int 3 0,.ref 379,.bool aj,.int 181 0,.ref 380,.none,.ref 381,.ref 382,.ref 383,.int 765 0,.int 556 0,.str "/claim/cut.py" 766],#[]⟩),(385,⟨.type "function",ah,.func<|jG (g8 p 10 6) "_Accumulator.reset" [] (.ref 378) .none .none (.str "cpy313.email.header" 583) ah (.ref 384) .none,#[]⟩),(391,⟨.type "code",ah,.fields #[.str "is_onlyws" 768,.str "_Accumulator.is_onlyws" 769,.str "/claim/cut.py" 770,.int 562 0,.int 1 0,.int 0 0,.int 0 0,.int 3 0,.ref 386,.bool aj,.int 181 0,.ref 387,.none,.ref 388,.ref 389,.ref 390,.int 772 0,.int 562 0,.str "/claim/cut.py" 773],#[]⟩),(392,⟨.type "function",ah,.func<|jG (g8 p 10 7) "_Accumulator.is_onlyws" [] .none .none .none (.str "cpy313.email.header" 583) ah (.ref 391) .none,#[]⟩),(399,⟨.type "code",ah,.fields #[.str "part_count" 775,.str "_Accumulator.part_count" 776,.str "/claim/cut.py" 777,.int 565 0,.int 1 0,.int 0 0,.int 0 0,.int 3 0,.ref 394,.bool aj,.int 181 0,.ref 395,.none,.ref 396,.ref 397,.ref 398,.int 780 0,.int 565 0,.str "/claim/cut.py" 781],#[]⟩),(400,⟨.type "function",ah,.func<|jG (g8 p 10 8) "_Accumulator.part_count" [("__class__",327)] .none .none .none (.str "cpy313.email.header" 583) ah (.ref 399)<|.ref 393,#[]⟩),(402,⟨.type "dict",ah,.dict #[ent P "__module__" 704 (.str "cpy313.email.header" 583),ent P "__firstlineno__" 708 (.int 531 707),ent P "__init__" 718 (.ref 340),ent P "push" 727 (.ref 347),ent P "pop_from" 737 (.ref 355),ent P "pop" 745 (.ref 363),ent P "__len__" 752 (.ref 370),ent P "__str__" 759 (.ref 377),ent P "reset" 767 (.ref 385),ent P "is_onlyws" 774 (.ref 392),ent P "part_count" 782 (.ref 400),ent P "__static_attributes__" 784 (.ref 401),ent P "__dict__" 787 (.ref 404),ent P "__weakref__" 789 (.ref 405),ent P "__doc__" 790 .none] 5,#[]⟩),(403,⟨.type "type",ah,.cls ⟨"_Accumulator",[.type "list"],[.ref 403,.type "list",.type "object"],402,"_Accumulator",aj,[],[],false,ah,false⟩,#[ae (.ref 324),ah,ae (.str "_Accumulator" 697),ae (.str "_Accumulator" 705),ae (.builtin "list.__new__"),ae (.bool aj)]⟩),(420,⟨.type "code",ah,.fields #[.str "__init__" 810,.str "TupleComp.__init__" 811,.str "/claim/cut.py" 812,.int 576 0,.int 2 0,.int 0 0,.int 0 0,.int 3 0,.ref 415,.bool aj,.int 181 0,.ref 416,.none,.ref 417,.ref 418,.ref 419,.int 815 0,.int 576 0,.str "/claim/cut.py" 816],#[]⟩),(421,⟨.type "function",ah,.func<|jG (g8 p 12 1) "TupleComp.__init__" [] .none .none .none (.str "cpy313.pstats" 793) ah (.ref 420) .none,#[]⟩),(427,⟨.type "code",ah,.fields #[.str "compare" 818,.str "TupleComp.compare" 819,.str "/claim/cut.py" 820,.int 579 0,.int 3 0,.int 0 0,.int 0 0,.int 3 0,.ref 422,.bool aj,.int 181 0,.ref 423,.none,.ref 424,.ref 425,.ref 426,.int 828 0,.int 579 0,.str "/claim/cut.py" 829],#[]⟩),(428,⟨.type "function",ah,.func<|jG (g8 p 12 2) "TupleComp.compare" [] .none .none .none (.str "cpy313.pstats" 793) ah (.ref 427) .none,#[]⟩),(430,⟨.type "dict",ah,.dict #[ent P "__module__" 802 (.str "cpy313.pstats" 793),ent P "__firstlineno__" 806 (.int 568 805),ent P "__doc__" 808 (mH (oB p 12) 807),ent P "__init__" 817 (.ref 421),ent P "compare" 830 (.ref 428),ent P "__static_attributes__" 832 (.ref 429),ent P "__dict__" 834 (.ref 432),ent P "__weakref__" 836 (.ref 433)] 3,#[]⟩),(431,⟨.type "type",ah,.cls ⟨"TupleComp",[.type "object"],[.ref 431,.type "object"],430,"TupleComp",aj,[],[],false,ah,false⟩,#[ah,ah,ae (.str "TupleComp" 795),ae (.str "TupleComp" 803),ae (.builtin "object.__new__"),ae (.bool aj)]⟩),(441,⟨.type "code",ah,.fields #[.str "add_func_stats" 839,.str "add_func_stats" 840,.str "/claim/cut.py" 841,.int 588 0,.int 2 0,.int 0 0,.int 0 0,.int 3 0,.ref 436,.bool aj,.int 181 0,.ref 437,.none,.ref 438,.ref 439,.ref 440,.int 854 0,.int 588 0,.str "/claim/cut.py" 855],#[]⟩),(442,⟨.type "function",ah,.func<|jG (oB p 13) "add_func_stats" [] .none .none (mH (oB p 13) 856) (.str "cpy313.pstats" 793) ah (.ref 441) .none,#[]⟩),(448,⟨.type "code",ah,.fields #[.str "add_callers" 858,.str "add_callers" 859,.str "/claim/cut.py" 860,.int 593 0,.int 2 0,.int 0 0,.int 0 0,.int 3 0,.ref 443,.bool aj,.int 181 0,.ref 444,.none,.ref 445,.ref 446,.ref 447,.int 866 0,.int 593 0,.str "/claim/cut.py" 867],#[]⟩),(449,⟨.type "function",ah,.func<|jG (oB p 14) "add_callers" [] .none .none (mH (oB p 14) 868) (.str "cpy313.pstats" 793) ah (.ref 448) .none,#[]⟩),(455,⟨.type "code",ah,.fields #[.str "_byteswap" 872,.str "_byteswap" 873,.str "/claim/cut.py" 874,.int 608 0,.int 2 0,.int 0 0,.int 0 0,.int 3 0,.ref 450,.bool aj,.int 181 0,.ref 451,.none,.ref 452,.ref 453,.ref 454,.int 880 0,.int 608 0,.str "/claim/cut.py" 881],#[]⟩),(456,⟨.type "function",ah,.func<|jG (oB p 16) "_byteswap" [] .none .none .none (.str "cpy313.wave" 870) ah (.ref 455) .none,#[]⟩),(460,⟨.type "code",ah,.fields #[.str "_law_ways" 885,.str "_law_ways" 886,.str "/claim/cut.py" 887,.int 615 0,.int 2 0,.int 0 0,.int 0 0,.int 3 0,.ref 457,.bool aj,.int 181 0,.ref 458,.none,.none,.none,.ref 459,.int 888 0,.int 615 0,.str "/claim/cut.py" 889],#[]⟩),(461,⟨.type "function",ah,.func<|jG (oB p 18) "_law_ways" [] .none .none .none (.str "law_wz0046_01" 883) ah (.ref 460) .none,#[]⟩),(465,⟨.type "code",ah,.fields #[.str "_law_rows" 891,.str "_law_rows" 892,.str "/claim/cut.py" 893,.int 625 0,.int 2 0,.int 0 0,.int 0 0,.int 3 0,.ref 462,.bool aj,.int 181 0,.ref 463,.none,.none,.none,.ref 464,.int 894 0,.int 625 0,.str "/claim/cut.py" 895],#[]⟩),(466,⟨.type "function",ah,.func<|jG (oB p 19) "_law_rows" [] .none .none .none (.str "law_wz0046_01" 883) ah (.ref 465) .none,#[]⟩),(472,⟨.type "code",ah,.fields #[.str "_law_fold" 897,.str "_law_fold" 898,.str "/claim/cut.py" 899,.int 627 0,.int 2 0,.int 0 0,.int 0 0,.int 3 0,.ref 467,.bool aj,.int 181 0,.ref 468,.none,.ref 469,.ref 470,.ref 471,.int 904 0,.int 627 0,.str "/claim/cut.py" 905],#[]⟩),(473,⟨.type "function",ah,.func<|jG (oB p 20) "_law_fold" [] .none .none .none (.str "law_wz0046_01" 883) ah (.ref 472) .none,#[]⟩),(477,⟨.type "code",ah,.fields #[.str "_law_turned" 907,.str "_law_turned" 908,.str "/claim/cut.py" 909,.int 633 0,.int 2 0,.int 0 0,.int 0 0,.int 3 0,.ref 474,.bool aj,.int 181 0,.ref 475,.none,.none,.none,.ref 476,.int 910 0,.int 633 0,.str "/claim/cut.py" 911],#[]⟩),(478,⟨.type "function",ah,.func<|jG (oB p 21) "_law_turned" [] .none .none .none (.str "law_wz0046_01" 883) ah (.ref 477) .none,#[]⟩),(482,⟨.type "code",ah,.fields #[.str "_law_codes" 913,.str "_law_codes" 914,.str "/claim/cut.py" 915,.int 636 0,.int 3 0,.int 0 0,.int 0 0,.int 3 0,.ref 479,.bool aj,.int 181 0,.ref 480,.none,.none,.none,.ref 481,.int 916 0,.int 636 0,.str "/claim/cut.py" 917],#[]⟩),(483,⟨.type "function",ah,.func<|jG (oB p 22) "_law_codes" [] .none .none .none (.str "law_wz0046_01" 883) ah (.ref 482) .none,#[]⟩),(487,⟨.type "code",ah,.fields #[.str "_law_totals" 919,.str "_law_totals" 920,.str "/claim/cut.py" 921,.int 644 0,.int 4 0,.int 0 0,.int 0 0,.int 3 0,.ref 484,.bool aj,.int 181 0,.ref 485,.none,.none,.none,.ref 486,.int 922 0,.int 644 0,.str "/claim/cut.py" 923],#[]⟩),(488,⟨.type "function",ah,.func<|jG (oB p 23) "_law_totals" [] .none .none .none (.str "law_wz0046_01" 883) ah (.ref 487) .none,#[]⟩),(492,⟨.type "code",ah,.fields #[.str "law" 925,.str "law" 926,.str "/claim/cut.py" 927,.int 662 0,.int 1 0,.int 0 0,.int 0 0,.int 3 0,.ref 489,.bool aj,.int 181 0,.ref 490,.none,.none,.none,.ref 491,.int 928 0,.int 662 0,.str "/claim/cut.py" 929],#[]⟩),(493,⟨.type "function",ah,.func<|jG (oB p 24) "law" [] .none .none .none (.str "law_wz0046_01" 883) ah (.ref 492) .none,#[]⟩)]
noncomputable def agS:Frag:=[(365,⟨.none,ah,.fields #[],#[]⟩),(372,⟨.none,ah,.fields #[],#[]⟩)]
noncomputable def FZ(p:l6)(P:Fj):Frag:=wU p P++agS
@[irreducible] noncomputable def MR(w:qu)(os:kZ):Option<|Flow×VA×Code×Pos:=PySem.W.Fast.tw10110043849684766642 Ro pw w 11 (ae<|.ref 6) 1 4000 (Z_ w os)<|piecesOf stmts Rq rx vK [Fl vK]
noncomputable def kQ(P:Fj):Frag:=FZ pw P
noncomputable def Wc:Pos:=⟨662,0,715,73⟩
noncomputable def Yv(p:l6):Program:={p with main:={p.main with body:=[AZ p.main.body 24]}}
noncomputable def looseV:List Str:=["_wall","__name__","_tuplegetter","Match","_calculate_ratio","SequenceMatcher","NL","EMPTYSTRING","_ValueFormatter","_Accumulator","TupleComp","add_func_stats","add_callers","_byteswap","_law_ways","_law_rows","_law_fold","_law_turned","_law_codes","_law_totals"]
lay_quick looseV
theorem We(w:qu)(os:kZ):(MR w os).map (λr=>((r.1,r.2.2.1,r.2.2.2,r.2.1.n,r.2.1.gens,r.2.1.os,(kQ w.params).map (λp=>(p.1,r.2.1.tree.get p.1))),(Jr (PySem.W.Fast.tw5923862056798008813 pw.main.body) (gY w.params) r.2.1.abs.heap&&Fm pw r.2.1.abs.heap&&Qv r.2.1.abs&&Qw (gY w.params) r.2.1.abs.heap),PySem.W.Fast.tw4187177175401517315 (Yv pw) PySem.W.Fast.tw4210248332065417536 (PySem.W.Fast.tw5923862056798008813 pw.main.body) (λ_=>aj) aj r.2.1.abs))=ae ((.next,rx,Wc,494,#[],os,(kQ w.params).map (λp=>(p.1,ae p.2))),aj,openGood (Yv pw) PySem.W.Fast.tw4210248332065417536):=by kernel_rfl
theorem agT(w:qu)(os:kZ):PySem.W.Fast.tw15667345088766844465 Ro pw w 11 (ae<|.ref 6) 12 ⟨gY w.params,#[],gB,zv,os⟩ (topStub pw)=ae (⟨wT w.params,#[],gB,187,os⟩,⟨PySem.W.Fast.tw11892475500146522536 Ro rx,rx,vK,[Fl vK]⟩):=by kernel_rfl
theorem Wf(w:qu)(os:kZ):PySem.W.Fast.tw14374325043358763698 Ro pw w 11 (ae<|.ref 6) 1 1 ⟨wT w.params,#[],gB,187,os⟩ (blockOf stmts Rq rx vK [Fl vK])=ae (.next,⟨wT w.params,#[],gB,187,os⟩,rx,vK):=by kernel_rfl
theorem agU(w:qu)(os:kZ):(Z_ w os).abs=⟨wT w.params,#[],gB,187,os⟩:=by kernel_rfl
theorem agV(w:qu)(s:bk):topRun Ro pw w 11 (ae<|.ref 6) 2 s ⟨doneF .next,rx,Wc,[Fl vK]⟩=ae s:=by obtain⟨a,b,c,d,e⟩:=s;rfl
theorem adF(w:qu):((gY w.params).isNs a_&&(#[]:Array GenState).size==0,(gY w.params).objs.size,(gY w.params).nsMap a_ "__annotations__")=(aj,11,ae (.ref 6)):=by kernel_rfl
theorem U1:∀w:qu,(vw zu pw w 5000).map (λs=>(s.heap,s.gens,s.drawn,s.toks))=ae (gY w.params,#[],gB,zv):=boot_open (by kernel_rfl) (by kernel_rfl) λs=>by rfl
noncomputable def J'(d:VA):Option (Flow×VA×Code×Pos)->VA|some r=>r.2.1|none=>d
@[irreducible] noncomputable def pK(w:qu)(a:kZ):SharedT:=J' ⟨.nil,0,(gY w.params).life,#[],gB,0,a⟩<|MR w a
theorem JM{w:qu}{a:kZ}{r}(e:MR w a=ae r):pK w a=r.2.1:=by unfold pK;exact congrArg (J' _) e
theorem A1(w a):MR w a=ae (.next,pK w a,rx,Wc)/\(pK w a).n=494/\(pK w a).gens=#[]/\(pK w a).os=a/\(kQ w.params).map (λp=>(p.1,(pK w a).tree.get p.1))=(kQ w.params).map (λp=>(p.1,ae p.2))/\(Jr (rK pw.main.body) (gY w.params) (pK w a).abs.heap&&Fm pw (pK w a).abs.heap&&Qv (pK w a).abs&&Qw (gY w.params) (pK w a).abs.heap)=aj/\openSeen (Yv pw) looseV (rK pw.main.body) (λ_=>aj) aj (pK w a).abs=openGood (Yv pw) looseV:=by obtain⟨r,e,h⟩:=aT.mp (We w a);rw[JM e];obtain⟨f,s,c,p⟩:=r;have b:=congrArg (λx=>x.1.1) h;have d:=congrArg (λx=>x.1.2.1) h;have g:=congrArg (λx=>x.1.2.2.1) h;have i:=congrArg (λx=>x.1.2.2.2.1) h;have j:=congrArg (λx=>x.1.2.2.2.2.1) h;have k:=congrArg (λx=>x.1.2.2.2.2.2.1) h;have l:=congrArg (λx=>x.1.2.2.2.2.2.2) h;have m:=congrArg (λx=>x.2.1) h;have o:=congrArg (λx=>x.2.2) h;clear h;dsimp only at b d g i j k l m o;rw[PySem.W.Fast.te5923862056798008813,PySem.W.Fast.te4187177175401517315,PySem.W.Fast.te4210248332065417536];refine⟨?_,i,j,k,l,m,o⟩;rw[e,b,d,g]
theorem Rr(w a):topRun Ro pw w 11 (ae<|.ref 6) (12+(1+(4000+2))) ⟨gY w.params,#[],gB,zv,a⟩ (topStub pw)=ae (pK w a).abs:=by
 refine go_top (s':=⟨wT w.params,#[],gB,187,a⟩) (t':=⟨denote Ro rx,rx,vK,[Fl vK]⟩) ?_ ?_;.rw[PySem.W.Fast.te15667345088766844465,PySem.W.Fast.te11892475500146522536];exact agT w a
 .refine piece_block (s':=⟨wT w.params,#[],gB,187,a⟩) (p':=vK) ?_ ?_;.rw[PySem.W.Fast.te14374325043358763698];exact Wf w a
  .have k:=piece_app (env:=Rq) (n:=4000) (s:=⟨wT w.params,#[],gB,187,a⟩) (r:=(pK w a).abs) (l:=stmts) (pos:=vK) ?_<|piece_nil<|agV w _;.rw[bD] at k;exact k
   .rw[<-agU w a];refine segRun_of ?_;rw[PySem.W.Fast.te10110043849684766642];have q:=(A1 w a).1;unfold MR at q;exact q
@[irreducible] noncomputable def JJ(p:l6)(w:qu):Heap:=match vw zu p w 5000 with|some s=>(pK w s.os).abs.heap|none=>{}
theorem HV(e:vw zu p w 5000=ae s):JJ p w=(pK w s.os).abs.heap:=by unfold JJ;rw[e]
theorem CS(e:vw a p w N=ae s)(t:VB a p w N s=ae s'):openEnds a p w N=ae s':=by unfold openEnds;rw[e];exact t
theorem F0(c:(s.heap.isNs a_&&s.gens.size==0)=aj)(d:s.heap.objs.size=m)(e:s.heap.nsMap a_ "__annotations__"=a) (r:topRun b p w m a N s (topStub p)=ae s')(l:(Jr (rK p.main.body) s.heap s'.heap&&Fm p s'.heap&&Qv s'&&Qw s.heap s'.heap)=aj):VB b p w N s=ae s':=by unfold VB;rw[c,d,e,r];show(match Jr (rK p.main.body) s.heap s'.heap&&Fm p s'.heap&&Qv s'&&Qw s.heap s'.heap with|true=>ae s'|false=>ah)=_;rw[l]
theorem adG:LeftO pw (Yv pw) looseV (λ_=>aj) TL (JJ pw) 5000:=λw=>by
 obtain⟨⟨h,f,d,k,a⟩,e,b⟩:=aT.mp (U1 w);obtain⟨rfl,rfl,rfl,rfl⟩:h=gY w.params/\f=#[]/\d=gB/\k=boot_toks:=by simpa only [yw] using b
 obtain⟨j,l,m⟩:_/\_/\_:=by simpa only [yw] using adF w
 obtain⟨n,o,p,q,s,g,i⟩:=A1 w a;have r:=topRun_mono (5000-(12+(1+(4000+2)))) _ _ _ _<|Rr w a;have t:VB zu pw w 5000 ⟨gY w.params,#[],gB,zv,a⟩=ae (pK w a).abs:=by rw[adC];exact F0 j l m r g
 have c:JJ pw w=(pK w a).abs.heap:=HV e;rw[CS e t,c,<-i];rfl
theorem left:LeftO bE (Yv bE) looseV (λ_=>aj) TL (JJ bE) 5000:=by rw[MQ];exact adG
theorem CT{K:np}:K.lookup a=ae o->(a,o)∈K:=by
 induction K with
 |nil=>intro e;cases e
 |cons p r d=>
  obtain⟨b,x⟩:=p;intro e;rw[dC] at e;by_cases c:a=b;.subst c;simp only [beq_self_eq_true] at e;rw[bq e];exact bH
  .rw[beq_eq_false_iff_ne.mpr c] at e;exact aY _<|d e
noncomputable def U2(K:np):Bool:=K.all λp=>Nat.blt p.1 494&&match p.2.data with|.freed=>false|_=>aj
theorem Rs(P):U2 (kQ P)=true:=by kernel_rfl
theorem MS(h:(match o.data with|.freed=>false|_=>aj)=aj):alive o=ae o:=by obtain⟨c,b,a,d⟩:=o;cases a<;>first|rfl|cases h
theorem kIn_of{T:VA}(h:T.n=494)(g:U2 K=aj)(e:K.map (λp=>(p.1,T.tree.get p.1))=K.map (λp=>(p.1,ae p.2))):K.In T.abs.heap:=by intro a o i;have d:=CT i;obtain⟨b,c⟩:=Bool.and_eq_true_iff.mp (List.all_eq_true.mp g _ d);have b:a<494:=ap b;have f:T.tree.get a=ae o:=(Prod.mk.inj<|List.map_inj_left.mp e _ d).2;show(absHeap T.tree T.n T.life).get? a=ae o;rw[abs_get (by rw[h];exact b) f];exact MS c
theorem agW(w):(FZ bE w.params).In<|JJ bE w:=by
 have a:FZ pw w.params=kQ w.params:=by unfold kQ;rfl
 rw[MQ,a];obtain⟨s,e,d⟩:=aT.mp (U1 w);rw[HV e];obtain⟨f,b,g,h,c,i,j⟩:=A1 w s.os;exact kIn_of b (Rs _) c
end
section
open PySem.Challenge renaming rw_wz0046_01->dE
open PySem.NameKind renaming globalImplicit->VC
open PySem PySem.W PySem.Calls PyProof.Rows
noncomputable abbrev PP:Program:=bE
noncomputable def agX:DefRec:=match AZ bE.main.body 24 with|.FunctionDef n a b _ _ _ sc _ _ pos=>⟨n,a,b,sc,pos⟩|_=>⟨"",⟨[],[],ah,[],[],ah,[]⟩,[],⟨.module,[],false,false,[]⟩,rl⟩
noncomputable def MT(p:l6):OpenLaw:=by
 refine(?f:(b:OpenLaw)->(bE=p->b=dE)->OpenLaw) ?b ?h;case f=>exact λb _=>b
 case h=>intro h;delta dE;rewrite [h];exact rfl
theorem HW:dE=MT pw:=by rw[<-MQ];rfl
theorem K3:namesResolve pw=true:=by rw[PySem.W.Fast.te8377067652309620493];kernel_rfl
theorem Mu:noRoadLSs {strict:=!(rK pw.main.body).all cThrough.contains,foot:=ah,bare:=(["vars","dir","locals"]:List bC).filter<|readsOut pw pw.main.body} pw.main.body=true:=by rw[PySem.W.Fast.te8326940854005059898,PySem.W.Fast.te13343964577679436407];kernel_rfl
theorem Mv:(namesMeet pw pw.main.body λ_ n=>attrL n)=true:=by rw[PySem.W.Fast.te17119622794617984870,PySem.W.Fast.te17868728402115742887];kernel_rfl
theorem My:looksOpen pw=true:=by delta looksOpen;rw[K3,Mu,Mv];kernel_rfl
theorem adH:(MT pw).wellSaid=true:=by delta OpenLaw.wellSaid OpenRow.wellSaid OpenRow.partSaid;rw[show looksOpen (MT pw).row.prog=aj from My];kernel_rfl
structure Base(w:qu)(h):Prop where
 k:(wU PP w.params).In h
 nolimit:h.NoLimit
 g:∃mg,h.Ns a_ mg
 b:∃mb,h.Ns iy mb/\∀x:bC,x≠"__name__"->mb x=cN x
theorem HX(c:(FZ PP P).In h):(wU PP P).In h:=λa o e=>c a o<|by unfold FZ;rw[List.lookup_append];have b:=e;rw[b];rfl
structure Wh(h:lm):Prop where
 t1:h.get? 365=ae ⟨.none,ah,.fields #[],#[]⟩
 t2:h.get? 372=ae ⟨.none,ah,.fields #[],#[]⟩
theorem Ru(f:v=.bool aj)(e:OldK s.heap s'.heap)(a:s'.os=s.os)(d:tP s'.gens):GoodWG dE.row.claim cl b [ofPy<|PyData.list<|k0 PyData.int ns] s (.ok<|.ret v) s':=by subst f;refine⟨.inl ⟨_,.bool aj,[],rfl,λc=>rfl,.bool aj,?_,λ_=>unshared_nil trivial⟩,e,a,d⟩;exact postW_of rfl (w_eq_bool (w_res rfl) w_lit) rfl
theorem Wi{K:np}(c:K.In h)(G:h.Ns a_ b)(e:b "law"=ae (.ref a))(q:l7 K a_ "law"=ae (ae<|.ref 493)):a=493:=by have:=ô c G q;rw[e] at this;cases this;rfl
theorem ľ:false=false:=rfl
theorem Ŀ:(bB false:PySem.Sem Bool)=bB false:=rfl
theorem Ł:ae VC=ae PySem.NameKind.globalImplicit:=rfl
def jX:Lean.Syntax:=cx [] "'kernel_rfl 1tacticKernel_rfl 1~"
def eX:Lean.Syntax:=cx [] "'intro '_ QTerm.hole 1null RTactic.intro '; 'first '| 'exact `Mine.ľ RTactic.exact 1~ 2group '| 'exact `Mine.tt RTactic.exact 1~ 2group '| 'rfl QTactic.tacticRfl 1~ 2group 3null RTactic.first 3~"
def iF:Lean.Syntax:=cx [] "'first '| 'exact `Mine.Ŀ RTactic.exact 1~ 2group '| 'exact `Mine.ľ RTactic.exact 1~ 2group '| 'exact `Mine.tt RTactic.exact 1~ 2group '| 'rfl QTactic.tacticRfl 1~ 2group 4null RTactic.first 1~"
def Rv:Lean.Syntax:=cx [] "'first '| 'exact `Mine.ľ RTactic.exact 1~ 2group '| 'exact `Mine.tt RTactic.exact 1~ 2group '| 'kernel_rfl 1tacticKernel_rfl 1~ 2group 3null RTactic.first 1~"
def U3:Lean.Syntax:=cx [] "'first '| 'exact `Mine.Ł RTactic.exact 1~ 2group '| 'kernel_rfl 1tacticKernel_rfl 1~ 2group 2null RTactic.first 1~"
def mI:Lean.Syntax:=cx [] "'intro '_ QTerm.hole `x 2null RTactic.intro '; 'first '| 'exact `Eq.refl `pure `x 1null RTerm.app 1null RTerm.app RTactic.exact 1~ 2group '| 'rfl QTactic.tacticRfl 1~ 2group 2null RTactic.first 3~"
def adc:Lean.Syntax:=cx [] "'decide 0null QTactic.optConfig RTactic.decide 1~"
def CU:Lean.Syntax:=cx [] "'intro '_ QTerm.hole '_ QTerm.hole 2null RTactic.intro '; 'with_unfolding_all 'rfl QTactic.tacticRfl 1~ RTactic.withUnfoldingAll 3~"
def aib:Lean.Syntax:=cx [] "'intro '_ QTerm.hole '_ QTerm.hole 2null RTactic.intro '; 'kernel_rfl 1tacticKernel_rfl 3~"
def Â:Lean.Syntax:=cx [] "'intro '_ QTerm.hole 1null RTactic.intro '; 'kernel_rfl 1tacticKernel_rfl 3~"
def ń:Lean.Syntax:=cx [] "'with_unfolding_all 'rfl QTactic.tacticRfl 1~ RTactic.withUnfoldingAll 1~"
def adI:Lean.Syntax:=cx [] "'intro '_ QTerm.hole 1null RTactic.intro '; 'exact '⟨ '_ QTerm.hole ', `rfl ', 'fun '_ QTerm.hole '_ QTerm.hole '_ QTerm.hole `h 4null 0null '=> `h TTerm.basicFun RTerm.fun 5null '⟩ STerm.anonymousCtor RTactic.exact 3~"
def adJ:Lean.Syntax:=cx [] "'intro '_ QTerm.hole 1null RTactic.intro '; 'exact '⟨ '_ QTerm.hole ', '_ QTerm.hole ', `rfl ', `rfl 7null '⟩ STerm.anonymousCtor RTactic.exact 3~"
def agY:Lean.Syntax:=cx [] "'intro '_ QTerm.hole '_ QTerm.hole '_ QTerm.hole '_ QTerm.hole `h 5null RTactic.intro '; 'exact '⟨ '_ QTerm.hole ', `rfl ', `h 5null '⟩ STerm.anonymousCtor RTactic.exact 3~"
noncomputable abbrev Gh:=cj->Option uJ
set_option genInjectivity true in
inductive T where|none|bool (b:Bool)|int (i:Int)|str (s:bC)|bytes (b:Array UInt8)|seq (c:aW) (ts:List T)|dict (kvs:List<|bC×T)|val (v:aW)|any (p:Gh->aW->Prop) (h:∀G G' v,(∀a o,G a=ae o->G' a=ae o)->p G v->p G' v)
noncomputable abbrev T.list(ts:List T):T:=.seq (.type "list") ts
noncomputable abbrev T.tuple(ts:List T):T:=.seq (.type "tuple") ts
mutual inductive Tr(G:Gh):aW->T->Prop|none:Tr G .none .none|bool (b:Bool):Tr G (.bool b)<|.bool b|int (i:Int) (t:Tok):Tr G (.int i t)<|.int i|str (s:bC) (t:Tok):Tr G (.str s t)<|.str s|bytes (b:Array UInt8) (t:Tok):Tr G (.bytes b t)<|.bytes b|seq {a:cj} {o:uJ} {c:aW} {vs:Array aW} {n:Nat} {ts:List T}:G a=ae o->o.cls=c->(c=.type "list"->o.dict=ah)->o.data=.seq vs n->aG G vs.toList ts->Tr G (.ref a) (.seq c ts)|dict {a:cj} {o:uJ} {es:Array qv} {n:Nat} {kvs:List (bC×T)}:G a=ae o->o.cls=.type "dict"->o.data=.dict es n->gv G es.toList kvs->Tr G (.ref a) (.dict kvs)|val (v:aW):Tr G v<|.val v|any {v:aW} {p:Gh->aW->Prop} {h:∀G G' v,(∀a o,G a=ae o->G' a=ae o)->p G v->p G' v}:p G v->Tr G v (.any p h) inductive aG(G:Gh):List aW->List T->Prop|nil:aG G [] []|cons {v:aW} {vs:List aW} {t:T} {ts:List T}:Tr G v t->aG G vs ts->aG G (v::vs) (t::ts) inductive gv(G:Gh):List qv->List (bC×T)->Prop|nil:gv G [] []|cons {h:Int} {k:bC} {tk:Tok} {v:aW} {t:T} {es:List qv} {kvs:List (bC×T)}:Tr G v t->gv G es kvs->gv G (⟨h,.str k tk,v⟩::es) ((k,t)::kvs) end
section
theorem Tr.mono(hs:∀a o,G a=ae o->b a=ae o)(h:Tr G v t):Tr b v t:=h.rec (motive_2:=λk j _=>aG b k j) (motive_3:=λf e _=>gv b f e) .none .bool .int .str .bytes (λh c q d _=>.seq (hs _ _ h) c q d) (λh c d _=>.dict (hs _ _ h) c d) .val (λ{_ _ g} i=>.any<|g _ _ _ hs i) .nil (λ_ _ h=>.cons h) .nil λ_ _ h=>.cons h
theorem aG.mono(hs:∀a o,G a=ae o->c a=ae o)(h:aG G b ts):aG c b ts:=by induction b generalizing ts with|nil=>cases h;exact .nil|cons v b d=>cases h with|cons h r=>exact .cons (h.mono hs)<|d r
theorem gv.mono(hs:∀a o,G a=ae o->c a=ae o)(h:gv G b kvs):gv c b kvs:=by induction b generalizing kvs with|nil=>cases h;exact .nil|cons e b d=>cases h with|cons h r=>exact .cons (h.mono hs)<|d r
end
section
noncomputable def ň(G:Gh)(v:aW)(t:T):Prop:=t.casesOn (v=.none) (λb=>v=.bool b) (λi=>∃t,v=.int i t) (λs=>∃t,v=.str s t) (λb=>∃t,v=.bytes b t) (λc g=>∃a o f n,v=.ref a/\G a=ae o/\o.cls=c/\(c=.type "list"->o.dict=ah)/\o.data=.seq f n/\aG G f.toList g) (λd=>∃a o e n,v=.ref a/\G a=ae o/\o.cls=.type "dict"/\o.data=.dict e n/\gv G e.toList d) (λu=>v=u) λp _=>p G v
theorem Tr.inv(h:Tr G v t):ň G v t:=h.casesOn rfl (λ_=>rfl) (λ_ t=>⟨t,rfl⟩) (λ_ t=>⟨t,rfl⟩) (λ_ t=>⟨t,rfl⟩) (λg c q d r=>VX _ _ _ _ rfl g c q d r) (λg c d r=>Y_ _ _ _ _ rfl g c d r) (λ_=>rfl) λh=>h
noncomputable def Wj(G:Gh)(b:List aW)(ts:List T):Prop:=ts.casesOn (b=[]) λt ts=>∃v a,b=v::a/\Tr G v t/\aG G a ts
theorem aG.inv(h:aG G a ts):Wj G a ts:=h.casesOn rfl λh r=>t9 _ _ rfl h r
@[elab_as_elim] theorem Tr.CO{motive:(v:aW)->Tr G v .none->Prop}(m:motive .none .none)(h):motive v h:=by haveI e:=h.inv;subst e;exact m
@[elab_as_elim] theorem Tr.zN{motive:(v:aW)->Tr G v (.bool b)->Prop}(m:motive (.bool b)<|.bool b)(h):motive v h:=by haveI e:=h.inv;subst e;exact m
@[elab_as_elim] theorem Tr.JH{motive:(v:aW)->Tr G v (.int i)->Prop}(m:∀t,motive (.int i t)<|.int i t)(h):motive v h:=h.inv.elim λt e=>by subst e;exact m t
@[elab_as_elim] theorem Tr.JI{motive:(v:aW)->Tr G v (.str x)->Prop}(m:∀t,motive (.str x t)<|.str x t)(h):motive v h:=h.inv.elim λt e=>by subst e;exact m t
@[elab_as_elim] theorem Tr.V4{motive:(v:aW)->Tr G v (.bytes b)->Prop}(m:∀t,motive (.bytes b t)<|.bytes b t)(h):motive v h:=h.inv.elim λt e=>by subst e;exact m t
@[elab_as_elim] theorem Tr.afX{motive:(v:aW)->Tr G v (.val u)->Prop}(m:motive u<|.val u)(h):motive v h:=by haveI e:=h.inv;subst e;exact m
@[elab_as_elim] theorem Tr.rQ{motive:(v:aW)->Tr G v (.seq c ts)->Prop}(seq:∀{a:cj} {o:uJ} {vs:Array aW} {n:Nat} (g:G a=ae o) (hc:o.cls=c) (q:c=.type "list"->o.dict=ce) (d:o.data=.seq vs n) (r:aG G vs.toList ts),motive (.ref a)<|.seq g hc q d r)(h):motive v h:=vH h.inv λa o vs n e g c q d r=>by subst e;exact seq g c q d r
@[elab_as_elim] theorem Tr.Ri{motive:(v:aW)->Tr G v (.any p hp)->Prop}(any:∀{v} (h:p G v),motive v<|.any h)(h):motive v h:=any h.inv
@[elab_as_elim] theorem aG.V3{motive:(vs:List aW)->aG G vs []->Prop}(m:motive [] .nil)(h):motive vs h:=by haveI e:=h.inv;subst e;exact m
@[elab_as_elim] theorem aG.ca{motive:(vs:List aW)->aG G vs (t::ts)->Prop}(cons:∀{v:aW} {vs:List aW} (h:Tr G v t) (r:aG G vs ts),motive (v::vs)<|.cons h r)(h):motive vs h:=gc h.inv λv us e a r=>by subst e;exact cons a r
@[elab_as_elim] theorem aG.t_{motive:aG G (v::vs) (t::ts)->Prop}(cons:∀(h:Tr G v t) (r:aG G vs ts),motive<|.cons h r)(h):motive h:=gc h.inv λu us e a r=>by injection e with e f;subst e;subst f;exact cons a r
end
section
theorem aG.length(h:aG G a ts):a.length=ts.length:=by induction a generalizing ts with|nil=>cases h;rfl|cons v a b=>cases h with|cons _ r=>rw[be,be,b r]
theorem aG.append(h:aG G a ts)(k:aG G us c):aG G (a++us)<|ts++c:=by induction a generalizing ts with|nil=>cases h;exact k|cons v a b=>cases h with|cons h r=>exact .cons h<|b r
theorem aG.one(h:Tr G v t):aG G [v] [t]:=.cons h .nil
theorem aG.get(h:aG G b ts){k:Nat}(a:ts[k]?=ae t):∃v,b[k]?=ae v/\Tr G v t:=by
 induction b generalizing ts k with
 |nil=>cases h;cases a
 |cons v b c=>cases h with|cons h r=>cases k with|zero=>simp at a;subst a;exact⟨v,rfl,h⟩|succ k=>simp at a;exact c r a
theorem aG.get'(h:aG G b ts){k:Nat}(a:b[k]?=ae v):∃t,ts[k]?=ae t/\Tr G v t:=by induction b generalizing ts k with|nil=>exact nS a|cons u b c=>cases h with|cons h r=>cases k with|zero=>simp at a;subst a;exact⟨_,rfl,h⟩|succ k=>simp at a;exact c r a
theorem aG.take(h:aG G a ts)(k):aG G (a.take k)<|ts.take k:=by induction k generalizing a ts with|zero=>exact .nil|succ k b=>cases h with|nil=>exact .nil|cons h r=>exact .cons h<|b r
theorem aG.reverse(h:aG G a ts):aG G a.reverse ts.reverse:=by induction a generalizing ts with|nil=>cases h;exact .nil|cons v a b=>cases h with|cons h r=>rw[gg,gg];exact(b r).append<|.one h
end
structure Wd where
 w:qu
 h:lm
 os:kZ
 base:Base w h
noncomputable abbrev Wd.M(W:Wd):Model:=dL PP W.w
structure Inv(W:Wd)(G:Gh)(s:bk):Prop where
 hM:∀a o,G a=ae o->s.heap.get? a=ae o
 hb:∀a o,W.h.get? a=ae o->G a=ae o
 bare:tP s.gens
 os:s.os=W.os
structure Ext(G:Gh)(s:bk)(G':Gh)(s':bk):Prop where
 heap:∀a o,s.heap.get? a=ae o->s'.heap.get? a=ae o
 sub:∀a o,G a=ae o->G' a=ae o
 new:∀a o,G' a=ae o->G a=ae o\/s.heap.get? a=ah
theorem fH{h b:lm}(k:∀a o,h.get? a=ae o->b.get? a=ae o)(e:b.get? a=ah):h.get? a=none:=by cases q:h.get? a with|none=>rfl|some o=>rw[k a o q] at e;cases e
theorem Ext.refl(G s):Ext G s G s:=⟨λ_ _ e=>e,λ_ _ e=>e,λ_ _=>.inl⟩
theorem Ext.trans(x:Ext G s d s')(y:Ext d s' b c):Ext G s b c:=⟨λa o e=>y.heap a o<|x.heap a o e,λa o e=>y.sub a o<|x.sub a o e,λa o e=>(y.new a o e).elim (x.new a o) λh=>.inr<|fH x.heap h⟩
theorem Ext.bL(e:s'.heap=s.heap):Ext G s G s':=⟨λ_ _ h=>e▸h,λ_ _ h=>h,λ_ _=>.inl⟩
theorem Inv.bL(x:Inv W G s)(e:s'.heap=s.heap)(b:s'.gens=s.gens)(c:s'.os=s.os):Inv W G s':=⟨λa o h=>e▸x.hM a o h,x.hb,b▸x.bare,c.trans x.os⟩
theorem Inv.base(x:Inv W G s):∀a o,W.h.get? a=ae o->s.heap.get? a=ae o:=λa o e=>x.hM a o<|x.hb a o e
theorem Inv.k(x:Inv W G s):(wU PP W.w.params).In s.heap:=W.base.k.keeps x.base
theorem Inv.nolimit(x:Inv W G s):s.heap.NoLimit:=W.base.nolimit.keeps x.base
theorem Inv.lt(x:Inv W G s)(e:G a=ae o):a<s.heap.objs.size:=db<|x.hM a o e
theorem Inv.cL(x:Inv W G s)(h:s.heap.objs.size<=a):G a=none:=by cases e:G a with|none=>rfl|some o=>exact absurd (x.lt e)<|iR.mpr h
noncomputable def Gh.add(G:Gh)(a:cj)(o:uJ):Gh:=λb=>if b=a then ae o else G b
theorem Gh.fD(G:Gh)(a:cj)(o:uJ):G.add a o a=ae o:=by simp[Gh.add]
theorem Gh.dT{G:Gh}(h:G a=ah):∀b x,G b=ae x->G.add a o b=ae x:=λb x e=>by
 unfold Gh.add;by_cases q:b=a;.subst q;rw[h] at e;cases e
 .rw[if_neg q];exact e
theorem Gh.ga{G:Gh}(e:G.add a o b=ae x):(b=a/\x=o)\/G b=ae x:=by
 unfold Gh.add at e;by_cases q:b=a;.rw[if_pos q] at e;exact .inl ⟨q,(bq e).symm⟩
 .rw[if_neg q] at e;exact .inr e
theorem Inv.push(x:Inv W G s)(o)(b:o.isFreed=false):Inv W (G.add s.heap.objs.size o) {s with heap:=s.heap.push o}:=⟨λa y e=>by
  rcases Gh.ga e with⟨rfl,rfl⟩|e;.exact aS _ b
  .exact aN _<|x.hM a y e,λa y e=>Gh.dT (x.cL<|al _) a y<|x.hb a y e,x.bare,x.os⟩
theorem Ext.push(x:Inv W G s)(o):Ext G s (G.add s.heap.objs.size o) {s with heap:=s.heap.push o}:=⟨λa y=>aN _,Gh.dT<|x.cL<|al _,λa y e=>by
  rcases Gh.ga e with⟨rfl,rfl⟩|e;.exact .inr<|aV<|al _
  .exact .inl e⟩
theorem Inv.g4(x:Inv W G s)(o):Inv W G {s with heap:=s.heap.push o}:=⟨λa y e=>aN _<|x.hM a y e,x.hb,x.bare,x.os⟩
theorem Ext.g4(G s o):Ext G s G {s with heap:=s.heap.push o}:=⟨λa y=>aN _,λ_ _ e=>e,λ_ _=>.inl⟩
structure Ok(A:mP)(n):Prop where
 hd:A.handled=ah
 depth:A.depth+n<=900
 units:A.units+50*n<=9000
theorem Ok.le(x:Ok A n)(h:m<=n):Ok A m:=⟨x.hd,by haveI:=x.depth;exact Ģ h this,by haveI:=x.units;exact ģ h this⟩
theorem Ok.room(x:Ok A n):A.depth<recursionLimit:=by haveI:=x.depth;unfold Fn;exact Ĥ this
theorem Ok.cl(x:Ok A n):A.units<cLine:=by haveI:=x.units;unfold jj;exact Ħ this
theorem jK{α:Type}{x:α}{l:List α}{f:α->a->Js (ForInStep a)}(h:aD M A (f x b>>=λr=>match r with|.done b=>bB b|.yield b=>Fo l b f) Q E s):aD M A (Fo (x::l) b f) Q E s:=(congrArg (λm=>aD M A m Q E s)<|eC f x l b).mpr h
theorem A2{α:Type}{f:α->a->Js (ForInStep a)}(h:Q b s):aD M A (Fo [] b f) Q E s:=(congrArg (λm=>aD M A m Q E s)<|QY ..).mpr<|ag h
inductive ua{α:Type}(W G s)(K:α->Gh->bk->Prop)(v s'):Prop|mk (G') (i:Inv W G' s') (x:Ext G s G' s') (k:K v G' s')
noncomputable abbrev KT(t:T):aW->Gh->bk->Prop:=λv a _=>Tr a v t
noncomputable abbrev Ő(ts:List T):List aW->Gh->bk->Prop:=λb a _=>aG a b ts
noncomputable def Run(W:Wd)(A:mP)(m:Js α)(G:Gh)(s:bk)(K:α->Gh->bk->Prop):Prop:=aD W.M A m (ua W G s K) (λ_ _=>False) s
section
theorem Run.use{K:α->Gh->bk->Prop}(h:Run W A m G s K)(k:∀v c d,Inv W d c->Ext G s d c->K v d c->Q v c):aD W.M A m Q E s:=aC h (λv f g=>g.casesOn λe a b=>k v f e a b) λ_ _ z=>z.elim
theorem Run.pure{α:Type}{W:Wd}{A:mP}{G:Gh}{s:bk}{a:α}{K:α->Gh->bk->Prop}(x:Inv W G s)(h:K a G s):Run W A (bB a) G s K:=ag ⟨G,x,.refl G s,h⟩
theorem Run.mono{K:α->Gh->bk->Prop}(h:Run W A m G s K)(f:∀v d s',Inv W d s'->Ext G s d s'->K v d s'->e v d s'):Run W A m G s e:=aC h (λv s' g=>g.casesOn λd a b c=>⟨d,a,b,f v d s' a b c⟩) λ_ _ z=>z
theorem Run.ext{K:α->Gh->bk->Prop}(e:Ext G s f d)(h:Run W A m f d K):aD W.M A m (ua W G s K) (λ_ _=>False) d:=aC h (λv j i=>i.casesOn λg a b c=>⟨g,a,e.trans b,c⟩) λ_ _ z=>z
end
inductive Ob where|list (ts:List T)|pin (o:uJ)|ro (b:Ob)|seq (c:aW) (d:Option cj) (ts:List T)|dict (kvs:List<|bC×T)|MU (kvs:List<|Int×Int)|ba (b:Array UInt8)|any (p:Gh->uJ->Prop) (h:∀G G' o,(∀a o,G a=ae o->G' a=ae o)->p G o->p G' o) (hc:∀G o v,p G o->o.data≠.cell v)
inductive HY:List qv->List (Int×Int)->Prop|nil:HY [] []|cons:HY es kvs->HY (⟨reduceHash k,.int k tk,.int v tv⟩::es) ((k,v)::kvs)
noncomputable def Ob.holds(G:Gh):Ob->uJ->Prop|.list g,o=>∃f n,o={cls:=.type "list",data:=.seq f n}/\aG G f.toList g|.pin p,o=>o=p/\∀v,o.data≠.cell v|.ro b,o=>b.holds G o|.seq c d g,o=>o.cls=c/\o.dict=d/\∃f n,o.data=.seq f n/\aG G f.toList g|.dict a,o=>o.cls=.type "dict"/\o.dict=ah/\∃e n,o.data=.dict e n/\gv G e.toList a|.MU a,o=>o.cls=.type "dict"/\o.dict=ah/\∃e n,o.data=.dict e n/\HY e.toList a|.ba b,o=>o.cls=.type "bytearray"/\o.dict=ah/\∃n,o.data=.bytearray b n|.any p _ _,o=>p G o
noncomputable def Ob.gT:Ob->Bool|.ro _=>aj|_=>false
noncomputable def Ob.CV:Ob->Ob|.ro b=>.ro b|b=>.ro b
theorem iP:Data.fields x≠.cell v:=λh=>Data.noConfusion h
theorem MV:Data.seq x n≠.cell v:=λh=>Data.noConfusion h
theorem MW:Data.dict x n≠.cell v:=λh=>Data.noConfusion h
theorem agZ:Data.bytearray x n≠.cell v:=λh=>Data.noConfusion h
theorem Ob.lz(hs:∀a o,G a=ae o->f a=ae o){b:Ob}(h:b.holds G o):b.holds f o:=by induction b with|ro b i=>exact i h|list j=>exact h.imp λ_ h=>h.imp λ_ h=>⟨h.1,h.2.mono hs⟩|pin p=>exact h|seq c d j=>exact⟨h.1,h.2.1,h.2.2.imp λ_ h=>h.imp λ_ h=>⟨h.1,h.2.mono hs⟩⟩|dict e=>exact⟨h.1,h.2.1,h.2.2.imp λ_ h=>h.imp λ_ h=>⟨h.1,h.2.mono hs⟩⟩|MU e=>exact h|ba b=>exact h|any p g k=>exact g _ _ _ hs h
theorem Ob.wV{b:Ob}(h:b.holds G o):b.CV.holds G o:=by cases b<;>exact h
theorem Ob.zS(b:Ob):b.CV.gT=true:=by cases b<;>rfl
theorem Ob.jf{b:Ob}(h:b.holds G o):o.data≠.cell v:=by induction b with|ro b g=>exact g h|list i=>exact h.elim λe h=>h.elim λn h=>h.1▸MV|pin p=>exact h.2 v|seq c d i=>exact h.2.2.elim λe h=>h.elim λn h=>h.1▸MV|dict a=>exact h.2.2.elim λe h=>h.elim λn h=>h.1▸MW|MU a=>exact h.2.2.elim λe h=>h.elim λn h=>h.1▸MW|ba b=>exact h.2.2.elim λn h=>h▸agZ|any p j f=>exact f _ _ _ h
structure zT where
 G:Gh
 s:bk
 wr:List cj
structure y4(I:zT)(G:Gh)(s:bk):Prop where
 heap:∀a o,I.s.heap.get? a=ae o->a∉I.wr->s.heap.get? a=ae o
 sub:∀a o,I.G a=ae o->G a=ae o
 new:∀a o,G a=ae o->I.G a=ae o\/I.s.heap.get? a=ah\/a∈I.wr
theorem y4.trans(x:y4 I G s)(y:Ext G s b s'):y4 I b s':=⟨λa o e h=>y.heap a o<|x.heap a o e h,λa o e=>y.sub a o<|x.sub a o e,λa o e=>(y.new a o e).elim (x.new a o) λh=>.inr<|by
  by_cases q:a∈I.wr;.exact .inr q
  .refine .inl ?_;cases z:I.s.heap.get? a with|none=>rfl|some c=>rw[x.heap a c z q] at h;cases h⟩
theorem y4.ext(x:y4 I G s)(h:I.wr=[]):Ext I.G I.s G s:=⟨λa o e=>x.heap a o e<|by rw[h];simp,x.sub,λa o e=>(x.new a o e).imp id λq=>q.elim id λq=>absurd q<|by rw[h];simp⟩
structure Cx where
 W:Wd
 n:Nat
 env:Env
 dY:List bC
 I:zT
noncomputable abbrev cG:=List<|bC×Option T
noncomputable abbrev bM:=List<|cj×Ob
noncomputable def zU(env:Env)(h:lm)(x:bC)(v:aW):Prop:=(env.kindOf x=ae .local/\∃m,h.Ns env.locals m/\m x=ae v)\/(((env.kindOf x=ae .cell)\/(env.kindOf x=ae .free/\(x==bo "__classdict__")=false))/\∃c,env.cells.lookup x=ae c/\h.IsCell c (ae v))
structure St(C:Cx)(Γ:cG)(Ω:bM)(G:Gh)(s:bk):Prop where
 kind:C.env.scope.kind=.function
 glob:C.env.globals=a_
 blt:C.env.builtins=iy
 nodup:(Γ.map (·.1)).Nodup
 vars:∀x t,(x,ae t)∈Γ->∃v,zU C.env s.heap x v/\Tr G v t
 loc:∃m,s.heap.Ns C.env.locals m
 rR:G C.env.locals=ah
 cell:∀x c,C.env.cells.lookup x=ae c->G c=ah/\∃v,s.heap.IsCell c v
 apart:C.env.cells.Pairwise λx y=>x.2≠y.2
 dY:∀x∈C.dY,(C.env.kindOf x=ae .local/\C.I.s.heap.get? C.env.locals=ah)\/(C.env.kindOf x=ae .cell/\∃c,C.env.cells.lookup x=ae c/\C.I.s.heap.get? c=ah)
 own:∀p∈Ω,G p.1=ah/\(∃o,s.heap.get? p.1=ae o/\p.2.holds G o)/\(C.I.s.heap.get? p.1=ah\/p.1∈C.I.wr\/p.2.gT=aj)/\p.1≠C.env.locals
 hU:(Ω.map (·.1)).Nodup
 ext:y4 C.I G s
section
theorem zU.keeps(y:zU env h x v)(b:∀a o,h.get? a=ae o->d.get? a=ae o):zU env d x v:=by
 rcases y with⟨k,m,g,f⟩|⟨k,c,e,i⟩;.exact .inl ⟨k,m,g.keeps b,f⟩
 .exact .inr ⟨k,c,e,i.keeps b⟩
theorem Ext.none_of(e:Ext G s b s')(h:G a=ah)(l:s.heap.get? a=ae o):b a=none:=by
 cases q:b a with|none=>rfl|some o=>
  refine dy (e.new a o q) (λz=>?_) λz=>?_;.rw[h] at z;cases z
  .rw[l] at z;cases z
theorem St.mono(x:St C i Ω G s)(e:Ext G s f s'):St C i Ω f s' where
 kind:=x.kind
 glob:=x.glob
 blt:=x.blt
 nodup:=x.nodup
 vars:=λy t h=>aU (x.vars y t h) λv a b=>⟨v,a.keeps e.heap,b.mono e.sub⟩
 loc:=(x.loc).casesOn λm h=>⟨m,h.keeps e.heap⟩
 rR:=y3 x.loc λ_ _ _ _ h _=>e.none_of x.rR h
 cell:=λy c h=>cc (x.cell y c h).2 λv b=>⟨aU b λ_ q _=>e.none_of (x.cell y c h).1 q,v,b.keeps e.heap⟩
 apart:=x.apart
 dY:=x.dY
 own:=λp g=>aU (x.own p g).2.1 λo b c=>⟨e.none_of (x.own p g).1 b,⟨o,e.heap _ _ b,Ob.lz e.sub c⟩,(x.own p g).2.2⟩
 hU:=x.hU
 ext:=x.ext.trans e
inductive oC:cG->bC->T->cG->Prop|here:oC ((x,o)::Γ) x t<|(x,ae t)::Γ|there:oC Γ x t Γ'->oC ((y,o)::Γ) x t ((y,o)::Γ')
theorem oC.names(p:oC b x t Γ'):Γ'.map (·.1)=b.map (·.1):=by induction p with|here=>rfl|there _ a=>rw[ax,ax,a]
theorem oC.mem(p:oC b x t Γ'):x∈b.map (·.1):=by induction p with|here=>exact bH|there _ a=>exact aY _ a
theorem oC.cases(p:oC c x t Γ')(a:(c.map (·.1)).Nodup):∀{y u},(y,ae u)∈Γ'->(y=x/\u=t)\/(y≠x/\(y,ae u)∈c):=by induction p with
 |here=>
  intro y u h;refine(bf.mp h).elim (λe=>.inl ⟨congrArg yP e,bq<|congrArg tQ e⟩) λb=>?_
  .refine .inr ⟨?_,aY _ b⟩;intro q;rw[ax,bV] at a;exact a.1<|am.mpr ⟨_,b,q⟩|there p d=>
  intro y u h;rw[ax,bV] at a;refine(bf.mp h).elim (λe=>.inr ⟨λq=>a.1<|congrArg yP e▸q▸p.mem,e▸bH⟩) λh=>?_;.exact(d a.2 h).imp id λq=>⟨q.1,aY _ q.2⟩
theorem lA{h:lm}(e:h.get? a=ae o)(n:o.data≠.cell v)(q:h.IsCell c v):a≠c:=by intro z;exact q.elim λb q=>n<|bq (e.symm.trans<|z▸q.1)▸q.2
theorem St.turn(x:St C w Ω G s)(u:G b=ah)(r:∀a o,a≠b->s.heap.get? a=ae o->s'.heap.get? a=ae o) (d:C.I.s.heap.get? b=ah\/b∈C.I.wr) (nodup:(Γ'.map (·.1)).Nodup)(vars:∀y t,(y,ae t)∈Γ'->∃v,zU C.env s'.heap y v/\Tr G v t)(loc:∃m,s'.heap.Ns C.env.locals m) (cell:∀y c,C.env.cells.lookup y=ae c->∃v,s'.heap.IsCell c v) (f:bT.map (λp=>(p.1,p.2.gT))=Ω.map (λp=>(p.1,p.2.gT)))(own:∀p∈bT,∃o,s'.heap.get? p.1=ae o/\p.2.holds G o):St C Γ' bT G s' where
 kind:=x.kind
 glob:=x.glob
 blt:=x.blt
 nodup:=nodup
 vars:=vars
 loc:=loc
 rR:=x.rR
 cell:=λy c h=>⟨(x.cell y c h).1,cell y c h⟩
 apart:=x.apart
 dY:=x.dY
 own:=λp k=>by haveI:=f▸am.mpr ⟨p,k,rfl⟩;refine aU (am.mp this) λq i e=>?_;(haveI a:=(x.own q i).1;haveI g:=(x.own q i).2.2.1;haveI j:=(x.own q i).2.2.2);injection e with l n;rw[l] at a g j;rw[n] at g;exact⟨a,own p k,g,j⟩
 hU:=by
  haveI:bT.map (·.1)=Ω.map (·.1):=by
   haveI:=congrArg (k0 yP) f;rw[aE,aE] at this;exact this
  rw[this];exact x.hU
 ext:=⟨λa o e h=>by
   by_cases q:a=b
   .subst q;rcases d with z|z;.rw[e] at z;cases z
    .exact absurd z h
   .exact r a o q<|x.ext.heap a o e h,x.ext.sub,x.ext.new⟩
theorem Inv.turn(x:Inv W G s)(f:G b=ah)(g:∀a o,a≠b->s.heap.get? a=ae o->s'.heap.get? a=ae o)(c:s'.gens=s.gens)(d:s'.os=s.os):Inv W G s':=⟨λa o e=>g a o (by rintro rfl;rw[f] at e;cases e)<|x.hM a o e,x.hb,c▸x.bare,d.trans x.os⟩
theorem St.store(S:St C Γ Ω G s)(V:Inv W G s)(hx:x∈C.dY)(hp:oC Γ x t Γ')(hv:Tr G v t) (h:∀s',St C Γ' Ω G s'->Inv W G s'->s'.gens=s.gens->Q () s'):aD W.M A (storeName C.env x v) Q E s:=by
 rcases S.dY x hx with⟨R,hl⟩|⟨R,c,hc,hl⟩
 .refine cc S.loc λm B=>wpAny_storeName_local R B (λh' D f=>?_)<|by rw[S.kind];rfl
  haveI z:=λa o I=>f.extBut a o I;refine h _ ?_ (V.turn S.rR z rfl rfl) rfl;refine S.turn S.rR z (.inl hl) (by rw[hp.names];exact S.nodup) (λy u H=>?_) ⟨_,D⟩ (λy w q=>?_) rfl λp F=>?_
  .rcases hp.cases S.nodup H with⟨rfl,rfl⟩|⟨I,H⟩;.exact⟨v,.inl ⟨R,_,D,by simp⟩,hv⟩
   .refine aU (S.vars y u H) λu' a b=>⟨u',?_,b⟩;rcases a with⟨k,m',r,e⟩|⟨k,w,n,e⟩
    .refine yY r λo1 a2 a1 g1 d1 k1 f1=>yY B λo2 l j i g k2 L=>?_;rw[g1] at i;cases i
     rw[d1] at g;cases g
     refine .inl ⟨k,_,D,?_⟩;skip;rw[if_neg I,<-L y,f1 y,e]
    .refine .inr ⟨k,w,n,e.sameBut f ?_⟩;refine yY B λo2 l j i g k2 L=>(lA i (by rw[g];intro q;cases q) e).symm
  .refine bu (S.cell y w q) λ_ q0=>cc q0 λu e=>⟨u,e.sameBut f ?_⟩;refine yY B λo2 l j i g k2 L=>(lA i (by rw[g];intro q;cases q) e).symm
  .refine sB (S.own p F) λ_ q1 _ d=>aU q1 λo e b=>⟨o,z _ _ d e,b⟩
 .refine bu (S.cell x c hc) λP q2=>cc q2 λa0 hu=>wpAny_storeName_cell S.kind R hc hu λh' n f=>?_;have z:=λa o I=>f.extBut a o I;refine h _ ?_ (V.turn P z rfl rfl) rfl;refine S.turn P z (.inl hl) (by rw[hp.names];exact S.nodup) (λy u H=>?_) ?_ (λy w q=>?_) rfl λp F=>?_
  .rcases hp.cases S.nodup H with⟨rfl,rfl⟩|⟨I,H⟩;.exact⟨v,.inr ⟨.inl R,c,hc,n⟩,hv⟩
   .refine aU (S.vars y u H) λu' a b=>⟨u',?_,b⟩;rcases a with⟨k,m',r,e⟩|⟨k,w,N,e⟩
    .refine .inl ⟨k,m',r.sameBut f ?_,e⟩;refine yY r λo2 l j i g k2 L=>lA i (by rw[g];intro q;cases q) hu
    .exact .inr ⟨k,w,N,e.sameBut f λq=>I<|ahM S.apart (mem_of_lookup N)<|q▸mem_of_lookup hc⟩
  .refine cc S.loc λm B=>⟨m,B.sameBut f ?_⟩;refine yY B λo2 l j i g k2 L=>lA i (by rw[g];intro q;cases q) hu
  .by_cases q':w=c;.cases q';exact⟨_,n⟩
   .refine bu (S.cell y w q) λ_ q3=>cc q3 λu e=>⟨u,e.sameBut f q'⟩
  .refine sB (S.own p F) λ_ q4 _ d=>aU q4 λo e b=>⟨o,z _ _ (lA e (Ob.jf b) hu) e,b⟩
end
noncomputable def Ev(C:Cx)(a:cG)(Ω:bM)(e:gw)(t:T):Prop:=∀A G s,Ok A C.n->Inv C.W G s->St C a Ω G s->Run C.W A (eval e C.env) G s (KT t)
noncomputable def pz(C:Cx)(a:cG)(Ω:bM)(e:gw)(b:Bool):Prop:=∀A G s,Ok A C.n->Inv C.W G s->St C a Ω G s->Run C.W A (isTrue e C.env<|eval e C.env) G s (λv _ _=>v=b)
noncomputable def oD(C:Cx)(c:cG)(Ω:bM)(b:List gw)(ts:List T):Prop:=∀A G s a,Ok A C.n->Inv C.W G s->St C c Ω G s->Run C.W A (yx<|bb a<|aw b C.env) G s (Ő ts)
section
theorem h_(x:Inv W G s)(e:s'.heap=s.heap)(a:s'.gens=s.gens)(b:s'.os=s.os)(h:Tr G v t):ua W G s (KT t) v s':=⟨G,x.bL e a b,.bL e,h⟩
theorem Run.A3{K:α->Gh->bk->Prop}(x:Inv W G s)(e:s'.heap=s.heap.push o)(a:s'.gens=s.gens)(b:s'.os=s.os)(c:o.isFreed=false) (h:K v (G.add s.heap.objs.size o) s'):ua W G s K v s':=by
 refine⟨G.add s.heap.objs.size o,?_,?_,h⟩;.exact(x.push o c).bL e a b
 .exact(Ext.push x o).trans<|.bL e
theorem iQ(x:Inv W G s)(e:s'.heap=s.heap.push o)(a:s'.gens=s.gens)(b:s'.os=s.os)(c:o.isFreed=false) (h:Tr (G.add s.heap.objs.size o) v t):ua W G s (KT t) v s':=Run.A3 x e a b c h
theorem Tr.wW(d:o.cls=c)(f:o.dict=ce)(n)(e:o.data=.seq g.toArray n)(b:G a=ce)(h:aG G g ts):Tr (G.add a o) (.ref a)<|.seq c ts:=.seq (Gh.fD G a o) d (λ_=>f) e<|by simpa using h.mono (Gh.dT b)
theorem Ev.int{k pos}:Ev C a Ω (.Constant (.int i) k pos)<|.int i:=λA G s _ I _=>v7<|h_ I rfl rfl rfl<|Tr.int _ _
theorem Ev.str{k pos}:Ev C a Ω (.Constant (.str x) k pos)<|.str x:=λA G s _ I _=>v8<|h_ I rfl rfl rfl<|Tr.str _ _
theorem Ev.none{k pos}:Ev C a Ω (.Constant .none k pos) .none:=λA G s _ I _=>PySem.wpAny_Constant_none<|h_ I rfl rfl rfl Tr.none
theorem wX{W:Wd}(S:St C g Ω G s)(h:zU C.env s.heap x v)(a:Q v s):aD W.M A (loadName C.env x) Q E s:=by
 rcases h with⟨k,m,f,e⟩|⟨k|⟨k,q⟩,c,b,d⟩;.exact fG S.kind k f e a
 .exact wpAny_loadName_cell S.kind k b d a
 .exact QZ S.kind k b d a q
theorem Ev.name(h:(x,ae t)∈d)(a:autoParam ((x==bo "__debug__")=false) Rv):Ev C d Ω (.Name x pos) t:=λA G s _ I S=>by refine aU (S.vars x t h) λv c b=>iz (wX S c<|h_ I rfl rfl rfl b) a
theorem oD.nil:oD C b Ω [] []:=λA G s a _ I _=>cE ⟨G,I,.refl G s,aG.nil⟩
theorem oD.cons(h:Ev C q Ω e t)(k:oD C q Ω m ts)(r:autoParam (∀env,aw (e::m) env=(false,eval e env)::aw m env) eX):oD C q Ω (e::m)<|t::ts:=λA G s n o I S=>by refine nV ?_<|r _;refine Run.use (h A G s o I S) λv l c f a i=>?_;exact Run.use (k A c l n o f<|S.mono a) λu p d g b j=>⟨d,g,a.trans b,.cons (i.mono b.sub) j⟩
theorem Ev.list(h:oD C n Ω k ts)(l:ts.length<=aA):Ev C n Ω (.List k pos)<|.list ts:=λA G s o I S=>by refine Fp<|Run.use (h A G s pos o I S) λm f j d g e=>⟨e.length▸l,?_⟩;obtain⟨i,a,b,c⟩:=Run.A3 (K:=λv i _=>Tr i v<|.list ts) (s':={f with heap:=f.heap.push {cls:=.type "list",data:=.seq m.toArray}}) d rfl rfl rfl rfl (Tr.wW rfl rfl 0 rfl (d.cL<|al _) e);exact⟨i,a,g.trans b,c⟩
theorem Ev.tuple(h:oD C p Ω l ts)(m:ts.length<=aA):Ev C p Ω (.Tuple l k pos)<|.tuple ts:=λA G s o I S=>by refine AM<|Run.use (h A G s pos o I S) λn f j d g e=>⟨e.length▸m,?_⟩;obtain⟨i,a,b,c⟩:=Run.A3 (K:=λv i _=>Tr i v<|.tuple ts) (s':={f with heap:=f.heap.push {cls:=.type "tuple",data:=.seq n.toArray}}) d rfl rfl rfl rfl (Tr.wW rfl rfl 0 rfl (d.cL<|al _) e);exact⟨i,a,g.trans b,c⟩
noncomputable def m7(op:Operator)(a b r:T):Prop:=∀W A G s v u,Ok A 0->Inv W G s->Tr G v a->Tr G u b->Run W A (binaryOp op v u) G s (KT r)
theorem Ev.bin(h:Ev C w Ω l a)(k:Ev C w Ω r b)(o:m7 op a b t):Ev C w Ω (.BinOp l op r pos) t:=λA G s q I S=>by refine ÿ<|Run.use (h A G s q I S) λv n e g c j=>?_;refine Run.use (k A e n q g<|S.mono c) λu p f i d m=>?_;exact Run.ext (c.trans d)<|o C.W A f p v u (q.le<|au _) i (j.mono d.sub) m
theorem m7.cZ:m7 .Add (.int a) (.int b)<|.int<|a+b:=λW A G s v u _ I h k=>by cases h;cases k;exact add_int<|h_ I rfl rfl rfl<|Tr.int _ _
theorem m7.fx:m7 .Sub (.int a) (.int b)<|.int<|a-b:=λW A G s v u _ I h k=>by cases h;cases k;exact sub_int<|h_ I rfl rfl rfl<|Tr.int _ _
theorem m7.rS(c:IntMulOk a b):m7 .Mult (.int a) (.int b)<|.int<|a*b:=λW A G s v u _ I h k=>by cases h;cases k;exact mul_int (h_ I rfl rfl rfl<|Tr.int _ _) c
theorem m7.oK(c:b≠0):m7 .Mod (.int a) (.int b)<|.int<|a.fmod b:=λW A G s v u _ I h k=>by cases h;cases k;exact mod_int c<|h_ I rfl rfl rfl<|Tr.int _ _
theorem m7.divInt(c:b≠0)(d:f9 a b=false):m7 .FloorDiv (.int a) (.int b)<|.int<|a.fdiv b:=λW A G s v u _ I h k=>by cases h;cases k;exact floordiv_int c (h_ I rfl rfl rfl<|Tr.int _ _)<|.inl d
theorem m7.MX{n:Int}(b:0<=n)(c:↑(i7 a)*n<=2^27):m7 .Pow (.int a) (.int n)<|.int<|a^n.toNat:=λW A G s v u _ I h k=>by cases h;cases k;exact pow_int b c<|h_ I rfl rfl rfl<|Tr.int _ _
theorem m7.Wl(b:0<=n):m7 .RShift (.int a) (.int n)<|.int<|a.fdiv<|2^n.toNat:=λW A G s v u _ I h k=>by cases h;cases k;exact rshift_int b<|h_ I rfl rfl rfl<|Tr.int _ _
theorem m7.Wm:m7 .BitAnd (.int a) (.int b)<|.int<|Lx a b:=λW A G s v u _ I h k=>by cases h;cases k;exact and_int<|h_ I rfl rfl rfl<|Tr.int _ _
theorem m7.wY(c:a.length+b.length<=aA):m7 .Add (.str a) (.str b)<|.str<|a++b:=λW A G s v u _ I h k=>by cases h;cases k;exact add_str (λ_ _=>h_ I rfl rfl rfl<|Tr.str _ _) c
theorem m7.F1(a:MulOk x n):m7 .Mult (.str x) (.int n)<|.str<|n4 x n:=λW A G s v u _ I h k=>by cases h;cases k;exact SB.mul a λ_ _=>h_ I rfl rfl rfl<|Tr.str _ _
theorem m7.sE(H:a.length+b.length<=aA):m7 .Add (.list a) (.list b)<|.list<|a++b:=λW A G s v u _ I h k=>by cases h using Tr.rQ with|@seq l o Q n g x _ y t=>cases k using Tr.rQ with|@seq L N m M E c _ d B=>haveI z:=I.hM _ _ g;haveI e:=I.hM _ _ E;obtain⟨C,D,q,P⟩:=o;obtain⟨p,i,f,j⟩:=N;simp only at x y c d;subst x y c d;haveI r:=t.length;haveI w:=B.length;refine concat_meets ⟨_,z,rfl⟩ ⟨_,e,rfl⟩ noFill_list_add seq_list_add PySem.F.slot_list_add PySem.F.entry_list_add (PySem.F.args_list_add_2 _ _) (list_addW l L Q m n M D i P j<|by simp only [aP] at r w;exact Ĩ H r w) ⟨z,e,?_⟩;refine iQ I rfl rfl rfl rfl<|Tr.seq (Gh.fD _ _ _) rfl (λ_=>rfl) rfl ?_;simpa using(t.append B).mono (Gh.dT<|I.cL<|al _)
end
end
section
open ForInStep renaming yield->FN
open List renaming sublist_append_right->nH,getElem?_zipWith->Fs,map_filterMap->Jt
open List.Pairwise renaming filter->Yd
open Nat renaming add_mul->wL,min_self->Yb
open PyProof.Rows renaming truthy_int->YD,getItem_tuple->YF,callWith_type->YG
open PySem renaming letOwnedTupleGo->dW,pushCells_keeps->nq,compTurn->tD,pushCells->tV,wpAny_assign_Name->yA,numAt->Fq,compPost->Fv,exec_Assign_Name_used->LZ,numAt_eq->QA,wpAny_execs_nil->YI,wpAny_layCells->aeU,eval_ListComp->afc,firstIterPos->ahP,intItems_at->ċ
open PySem.Builtin.List renaming listTooLong->mE
open PySem.Builtin.Str renaming strSliceIndices->lH
open PySem.Heap.IsSliceOf renaming new->VD
open PySem.Heap.Ns renaming new->Q1
open PySem.StrLaws renaming strSliceIndices_plain->tT
open PySem.Value.bool renaming inj->ae9
open PySem PySem.W PySem.Calls PyProof.Rows PySem.SeqAt
inductive lh:Nat->T->T->Bool->Prop|none:lh n .none .none aj|bool (a b):lh n (.bool a) (.bool b)<|a==b|int (a b):lh n (.int a) (.int b)<|a==b|str (a b):lh n (.str a) (.str b)<|a==b|list (e) (h:∀j x y,xs[j]?=ae x->ys[j]?=ae y->lh n x y (e j)) (hb:b=((aL<|min xs.length ys.length).all e&&xs.length==ys.length)):lh (n+1) (.list xs) (.list ys) b|tuple (e) (h:∀j x y,xs[j]?=ae x->ys[j]?=ae y->lh n x y (e j)) (hb:b=((aL<|min xs.length ys.length).all e&&xs.length==ys.length)):lh (n+1) (.tuple xs) (.tuple ys) b
noncomputable def mo(P:T->T->Bool->Prop)(xs a:List T)(b:Bool):Prop:=∃e,(∀j x y,xs[j]?=ae x->a[j]?=ae y->P x y (e j))/\b=((aL<|min xs.length a.length).all e&&xs.length==a.length)
noncomputable abbrev sF(n:Nat)(xs a:List T)(b:Bool):Prop:=mo (lh n) xs a b
theorem lh.ofList(h:sF n xs a b):lh (n+1) (.list xs) (.list a) b:=h.elim λe h=>.list e h.1 h.2
theorem lh.HZ(h:sF n xs a b):lh (n+1) (.tuple xs) (.tuple a) b:=h.elim λe h=>.tuple e h.1 h.2
section
theorem mo.nil:mo P [] [] true:=⟨λ_=>aj,λ_ _ _ h=>nS h,rfl⟩
theorem mo.left(x xs):mo P (x::xs) [] false:=⟨λ_=>aj,λ_ _ _ _ h=>nS h,rfl⟩
theorem mo.right(x xs):mo P [] (x::xs) false:=⟨λ_=>aj,λ_ _ _ h=>nS h,rfl⟩
theorem MY(m n):(m+1==n+1)=(m==n):=by
 by_cases e:m=n;.rw[e,beq_self_eq_true,beq_self_eq_true]
 .rw[beq_eq_false_iff_ne.mpr e,beq_eq_false_iff_ne.mpr λq=>e<|ky q]
theorem mo.cons(h:P x y b)(k:mo P xs g c):mo P (x::xs) (y::g)<|b&&c:=k.elim λe a=>⟨λj=>HB j b e,λj=>HB j (λ_ _ d f=>bq d▸bq f▸h) a.1,by rw[a.2,be,be,Nat.succ_min_succ,iN,List.all_cons,List.all_map,MY,Q0];rfl⟩
theorem mo.at{a us:Array aW}{R:aW->aW->Bool->Prop}(q:mo P xs o b)(m:aG G a.toList xs)(n:aG G us.toList o)(k:∀x y b v z,P x y b->Tr G v x->Tr G z y->R v z b){g:Prop} (h:∀e:Nat->Bool,(∀j (c:j<a.size) (d:j<us.size),R a[j] us[j]<|e j)->b=((aL<|min a.size us.size).all e&&a.size==us.size)->g):g:=q.elim λe f=>h e (λj c d=>(m.get'<|bN.trans<|jy c).elim λx i=>(n.get'<|bN.trans<|jy d).elim λy l=>k x y _ _ _ (f.1 j x y i.1 l.1) i.2 l.2) (by rw[f.2,<-m.length,<-n.length,aP,aP])
@[elab_as_elim] theorem H0{motive:Bool->Prop}(h1:n=m->motive ((aL n).all f))(h2:(n !=m)=aj->motive false):motive<|(aL<|min n m).all f&&n==m:=by
 by_cases e:n=m;.subst e;rw[Yb,beq_self_eq_true,iX];exact h1 rfl
 .rw[beq_eq_false_iff_ne.mpr e,k8];exact h2<|bne_iff_ne.mpr e
end
theorem Tr.listOf(I:Inv W G s)(h:Tr G v<|.seq c ts):∃a o n b,v=.ref a/\G a=ae o/\s.heap.get? a=ae o/\o.cls=c/\o.data=.seq b n/\aG G b.toList ts:=by cases h using Tr.rQ with|seq g d _ e t=>exact VX _ _ _ _ rfl g (I.hM _ _ g) d e t
theorem Tr.isList(I:Inv W G s)(h:Tr G v<|.list ts):∃a b,v=.ref a/\s.heap.IsList a b/\aG G b.toList ts:=by refine vH (h.listOf I) λa o n b e g f c d t=>t9 a b e ⟨o,f,c,n,d⟩ t
theorem Tr.jY(I:Inv W G s)(h:Tr G v<|.tuple ts):∃a b,v=.ref a/\s.heap.IsTuple a b/\aG G b.toList ts:=by refine vH (h.listOf I) λa o n b e g f c d t=>t9 a b e ⟨o,f,c,n,d⟩ t
noncomputable def vI:aW->Int|.int i _=>i|_=>0
noncomputable def vS:aW->bC|.str x _=>x|_=>""
section
theorem Tr.U4(h:Tr G v<|.bool a):v=.bool a:=Tr.zN rfl h
theorem Tr.adK(h:Tr G v<|.int a):vI v=a:=Tr.JH (λ_=>rfl) h
theorem Tr.adL(h:Tr G v<|.str a):vS v=a:=Tr.JI (λ_=>rfl) h
theorem Tr.both(h:Tr G v<|.seq c xs)(k:Tr G v<|.seq d p):∃f:Array aW,aG G f.toList xs/\aG G f.toList p:=by
 cases h
 rename_i a o f n g _ _ j t;generalize e:ef a=u at k;cases k
 rename_i q s m r i _ _ b l;cases e
 haveI e:=bq<|g.symm.trans i;rw[<-e] at b;have e:=j.symm.trans b;injection e with e;exact⟨f,t,e▸l⟩
theorem mo.self(q:mo P xs o b)(m:Tr G v<|.seq c xs)(a:Tr G v<|.seq d o)(k:∀x y b v,P x y b->Tr G v x->Tr G v y->b=aj):b=true:=(m.both a).elim λp h=>q.at (R:=λv z b=>v=z->b=aj) h.1 h.2 (λx y b v z l n a e=>k x y b v l n<|e▸a) λe i g=>by rw[g,Yb,beq_self_eq_true,iX];exact List.all_eq_true.mpr λj f=>i j (aR.mp f) (aR.mp f) rfl
theorem lh.self(e:lh n t u b):∀v,Tr G v t->Tr G v u->b=true:=e.rec (λ_ _ _=>rfl) (λ_ _ _ h k=>beq_iff_eq.mpr<|ae9<|h.U4.symm.trans k.U4) (λ_ _ _ h k=>beq_iff_eq.mpr<|h.adK.symm.trans k.adK) (λ_ _ _ h k=>beq_iff_eq.mpr<|h.adL.symm.trans k.adL) (λe _ a c _ h k=>mo.self (P:=λx y b=>∀v,Tr G v x->Tr G v y->b=aj) ⟨e,c,a⟩ h k λ_ _ _ v p=>p v) λe _ a c _ h k=>mo.self (P:=λx y b=>∀v,Tr G v x->Tr G v y->b=aj) ⟨e,c,a⟩ h k λ_ _ _ v p=>p v
end
section
theorem mo.MZ(I:Inv W G s)(q:mo P xs r b)(g:A.units<jj)(j:Tr G v<|.list xs)(l:Tr G y<|.list r)(k:∀x y b v z,P x y b->Tr G v x->Tr G z y->TM A.in1 s v z b):RcAt A s v y b:=by refine gc (j.isList I) λa u m f o=>?_;subst m;refine gc (l.isList I) λc t n d p=>?_;subst n;exact q.at o p k λe i h=>h▸H0 (λz=>RcAt.lists f d z g i) λz=>RcAt.lists_lengths f d z g
theorem mo.H2(I:Inv W G s)(q:mo P xs r b)(i:A.units<jj)(j:Tr G v<|.tuple xs)(l:Tr G y<|.tuple r)(k:∀x y b v z,P x y b->Tr G v x->Tr G z y->TM A.in1 s v z b):RcAt A s v y b:=by refine gc (j.jY I) λa u m g o=>?_;subst m;refine gc (l.jY I) λc t n d p=>?_;subst n;exact q.at o p k λe f h=>h▸RcAt.tuples g d i f
theorem zV(I:Inv W G s)(g:Tr G v<|.seq c xs)(i:Tr G y<|.seq d l)(h:RcAt A s v y b)(hs:v=y->b=aj):TM A s v y b:=by
 refine y3 (g.listOf I) λa _ _ _ j _=>?_;subst j;refine y3 (i.listOf I) λe _ _ _ k _=>?_;subst k;by_cases f:a=e;.haveI hs:=hs<|congrArg _ f;rw[hs,f];exact LY _
 .exact EqAt.of_refs f h
theorem nA(I:Inv W G s)(h:lh n t u b):∀(A) (v y),A.units+n<jj->Tr G v t->Tr G y u->TM A s v y b:=h.rec (λ_ _ _ _ c d=>Tr.CO (Tr.CO (LY _) d) c) (λa b _ _ _ _ c d=>Tr.zN (Tr.zN (EqAt.bool_bool a b) d) c) (λa b _ _ _ _ c d=>Tr.JH (λ_=>Tr.JH (λ_=>CF a _ b _) d) c) (λa b _ _ _ _ c d=>Tr.JI (λ_=>Tr.JI (λ_=>EqAt.str_str a _ b _) d) c) (λe h f i A _ _ g c d=>zV I c d (mo.MZ I (P:=λx y b=>∀(A:mP) (v z:aW),A.units+_<jj->Tr G v x->Tr G z y->TM A s v z b) ⟨e,i,f⟩ (TZ g) c d λ_ _ _ _ _ p=>p A.in1 _ _<|T_ g) λz=>lh.self (.list e h f) _ c<|z▸d) λe h f i A _ _ g c d=>zV I c d (mo.H2 I (P:=λx y b=>∀(A:mP) (v z:aW),A.units+_<jj->Tr G v x->Tr G z y->TM A s v z b) ⟨e,i,f⟩ (TZ g) c d λ_ _ _ _ _ p=>p A.in1 _ _<|T_ g) λz=>lh.self (.tuple e h f) _ c<|z▸d
theorem Rw(I:Inv W G s)(g:A.units+n<jj)(h:lh n t u b)(d:Tr G v t)(f:Tr G y u):RcAt A s v y b:=by cases h with|none=>exact Tr.CO (Tr.CO (λc w E Q=>EqNone.eq_none_none) f) d|bool a b=>exact Tr.zN (Tr.zN (λc w E Q=>eq_bool) f) d|int a b=>exact Tr.JH (λ_=>Tr.JH (λ_ c w E Q=>eq_int) f) d|str a b=>exact Tr.JI (λ_=>Tr.JI (λ_ c w E Q=>eq_str) f) d|list e h i=>exact mo.MZ I ⟨e,h,i⟩ (TZ g) d f λ_ _ _ _ _ p=>nA I p A.in1 _ _<|T_ g|tuple e h i=>exact mo.H2 I ⟨e,h,i⟩ (TZ g) d f λ_ _ _ _ _ p=>nA I p A.in1 _ _<|T_ g
end
noncomputable def fe(op:CmpOp)(a b:T)(r:Bool):Prop:=∀W A G s v u,Ok A 0->Inv W G s->Tr G v a->Tr G u b->Run W A (Yc op v u) G s (λx _ _=>x=.bool r)
noncomputable def A4(a:T)(r:Bool):Prop:=∀W A G s v,Ok A 0->Inv W G s->Tr G v a->Run W A (Ly v) G s (λx _ _=>x=r)
theorem fe.eq(h:lh n a b r)(c:autoParam (n<=100) adc):fe .Eq a b r:=λW A G s v u f I e d=>by refine Rw I ?_ h e d PP W.w _ _ ⟨G,I,.refl G s,rfl⟩;haveI:=f.units;unfold jj;exact(az (c_ this c)<|by decide)
theorem fe.kl:fe .Lt (.int a) (.int b)<|decide<|a<b:=λW A G s v u e I d c=>by cases d;cases c;exact lt_int ⟨G,I,.refl G s,rfl⟩
theorem fe.U5:fe .LtE (.int a) (.int b)<|decide<|a<=b:=λW A G s v u e I d c=>by cases d;cases c;exact le_int ⟨G,I,.refl G s,rfl⟩
theorem fe.uU:fe .Gt (.int a) (.int b)<|decide<|b<a:=λW A G s v u e I d c=>by cases d;cases c;exact gt_int ⟨G,I,.refl G s,rfl⟩
theorem fe.U6:fe .GtE (.int a) (.int b)<|decide<|b<=a:=λW A G s v u e I d c=>by cases d;cases c;exact ge_int ⟨G,I,.refl G s,rfl⟩
theorem fe.M0:fe .NotEq (.int a) (.int b)<|a !=b:=λW A G s v u e I d c=>by cases d;cases c;exact ne_int ⟨G,I,.refl G s,rfl⟩
theorem fe.adM:fe .NotEq (.str a) (.str b)<|a !=b:=λW A G s v u e I d c=>by cases d;cases c;exact ne_str ⟨G,I,.refl G s,rfl⟩
theorem Rx(I:Inv W G s)(o:A.units+n<jj)(p:Tr G v x):∀{c:List aW} {ts:List T} {f:T->Bool},aG G c ts->(∀t∈ts,lh n t x (f t))->∃e,(∀y∈c,TM A s y v (e y))/\c.any e=ts.any f:=by
 intro c ts f h j;classical
 refine⟨λy=>decide<|∃t∈ts,Tr G y t/\f t=aj,λy b=>?_,?_⟩
 .refine cc (List.mem_iff_getElem?.mp b) λk d=>aU (h.get' d) λt z a=>?_;haveI l:=aZ z;show TM A s y v<|decide<|∃t∈ts,Tr G y t/\f t=aj;by_cases q:∃t∈ts,Tr G y t/\f t=aj
  .refine ix q λu r i g=>?_;rw[decide_eq_true ⟨u,r,i,g⟩,<-g];exact nA I (j u r) _ _ _ o i p
  .rw[decide_eq_false q];haveI:f t=false:=by cases e:f t with|false=>rfl|true=>exact absurd ⟨t,l,a,e⟩ q
   rw[<-this];exact nA I (j t l) _ _ _ o a p
 .rw[gj,ip,ip];constructor
  ·(intro B;refine aU B λy b e=>?_);refine ix (of_decide_eq_true e) λt m _ w=>⟨t,m,w⟩
  ·(intro C;refine aU C λt m e=>?_);refine cc (List.mem_iff_getElem?.mp m) λk d=>aU (h.get d) λy b a=>⟨y,aZ b,decide_eq_true ⟨t,m,a,e⟩⟩
theorem fe.Wn(c:∀t∈ts,lh n t x (f t))(g:autoParam (n<=100) adc):fe .In x (.list ts)<|ts.any f:=λW A G s v u l I j i=>by refine gc (i.isList I) λa p m d o=>?_;subst m;obtain⟨e,b,h⟩:=Rx (A:=A.in1) I (by haveI:=l.units;unfold jj;show A.units+1+n<_;exact Mw g this) j o c;refine in_listAt e d (λy k=>b y<|f6.mpr k) ⟨G,I,.refl G s,?_⟩;rw[<-h,ie]
theorem fe.JK(c:∀t∈ts,lh n t x (f t))(g:autoParam (n<=100) adc):fe .NotIn x (.list ts)<|!ts.any f:=λW A G s v u l I j i=>by refine gc (i.isList I) λa p m d o=>?_;subst m;obtain⟨e,b,h⟩:=Rx (A:=A.in1) I (by haveI:=l.units;unfold jj;show A.units+1+n<_;exact Mw g this) j o c;refine ahN e d (λy k=>b y<|f6.mpr k) ⟨G,I,.refl G s,?_⟩;rw[<-h,ie]
theorem fe.Ry(c:∀t∈ts,lh n t x (f t))(g:autoParam (n<=100) adc):fe .In x (.tuple ts)<|ts.any f:=λW A G s v u l I j i=>by refine gc (i.jY I) λa p m d o=>?_;subst m;obtain⟨e,b,h⟩:=Rx (A:=A.in1) I (by haveI:=l.units;unfold jj;show A.units+1+n<_;exact Mw g this) j o c;refine in_tupleAt e d (λy k=>b y<|f6.mpr k) ⟨G,I,.refl G s,?_⟩;rw[<-h,ie]
theorem A4.bool:A4 (.bool b) b:=λW A G s v a I h=>by cases h;exact cm ⟨G,I,.refl G s,rfl⟩
theorem A4.int:A4 (.int i)<|i !=0:=λW A G s v a I h=>by cases h;exact YD ⟨G,I,.refl G s,rfl⟩
theorem A4.none:A4 .none false:=λW A G s v a I h=>by cases h;exact truthy_none ⟨G,I,.refl G s,rfl⟩
section
theorem Ev.cmp(h:Ev C w Ω l a)(k:Ev C w Ω r b)(o:fe op a b c)(x:autoParam (iA op r=false) iF):Ev C w Ω (.Compare l [op] [r] pos)<|.bool c:=λA G s t I S=>by refine wpAny_Compare1 (Run.use (h A G s t I S) λv p f i d m=>?_) x;refine Run.use (k A f p t i<|S.mono d) λu q g j e n=>?_;refine Run.ext (d.trans e)<|(o C.W A g q v u (t.le<|au _) j (m.mono e.sub) n).mono ?_;rintro v y z _ _ rfl;exact Tr.bool c
theorem pz.cmp(h:Ev C E Ω l a)(k:Ev C E Ω r b)(o:fe op a b c)(F:autoParam (iA op r=false) iF):pz C E Ω (.Compare l [op] [r] pos) c:=λA G s B I S=>by refine eg (Run.use (h A G s B I S) λv y f j d q=>?_) F;refine Run.use (k A f y B j<|S.mono d) λu z g m e t=>?_;refine Run.use (o C.W A g z v u (B.le<|au _) m (q.mono e.sub) t) λx D i n p w=>?_;subst w;exact cm ⟨i,n,(d.trans e).trans p,rfl⟩
theorem pz.val(h:Ev C l Ω e t)(k:A4 t b)(j:autoParam (∀env,isTrue e env (eval e env)=(do let v<-eval e env;fy e.pos;gy [v] (Ly v))) eX):pz C l Ω e b:=λA G s i I S=>by refine v9 (Run.use (h A G s i I S) λv g a c d f=>?_)<|j _;exact Run.ext d<|k C.W A a g v (i.le<|au _) c f
theorem pz.not(h:pz C j Ω e b):pz C j Ω (.UnaryOp .Not e pos)<|!b:=λA G s i I S=>isTrue_not<|Run.use (h A G s i I S) λv g a c d f=>⟨a,c,d,by rw[f]⟩
noncomputable def rd(C:Cx)(c:cG)(Ω:bM)(op:BoolOp)(a:List gw)(b:Bool):Prop:=∀A G s,Ok A C.n->Inv C.W G s->St C c Ω G s->Run C.W A (allTrue op a C.env) G s (λv _ _=>v=b)
theorem pz.boolOp(h:rd C d Ω op a b):pz C d Ω (.BoolOp op a pos) b:=λA G s c I S=>uK<|h A G s c I S
theorem rd.rT:rd C b Ω .And [] true:=λA G s a I S=>wpAny_allTrue_And_nil ⟨G,I,.refl G s,rfl⟩
theorem rd.CW:rd C b Ω .Or [] false:=λA G s a I S=>Qx ⟨G,I,.refl G s,rfl⟩
theorem rd.and(h:pz C l Ω e b)(k:b=aj->rd C l Ω .And m c):rd C l Ω .And (e::m)<|b&&c:=λA G s j I S=>by refine Lz<|Run.use (h A G s j I S) λv i d f a g=>?_;subst g;cases v with|false=>exact⟨d,f,a,rfl⟩|true=>exact Run.ext a<|k rfl A d i j f<|S.mono a
theorem rd.vL(h:pz C a Ω e b)(k:b=aj->rd C a Ω .And c false):rd C a Ω .And (e::c) false:=(k8 b)▸.and h k
theorem rd.Rz(h:pz C a Ω e false):rd C a Ω .And (e::b) false:=.and (c:=false) h fT
theorem rd.or(h:pz C l Ω e b)(k:b=false->rd C l Ω .Or m c):rd C l Ω .Or (e::m)<|b||c:=λA G s j I S=>by refine sq<|Run.use (h A G s j I S) λv i d f a g=>?_;subst g;cases v with|true=>exact⟨d,f,a,rfl⟩|false=>exact Run.ext a<|k rfl A d i j f<|S.mono a
theorem Ev.ite(h:pz C j Ω c b)(k:b=aj->Ev C j Ω x t)(l:b=false->Ev C j Ω y t):Ev C j Ω (.IfExp c x y pos) t:=λA G s i I S=>by refine wpAny_IfExp<|Run.use (h A G s i I S) λv f d e a g=>?_;subst g;cases v with|true=>exact Run.ext a<|k rfl A d f i e<|S.mono a|false=>exact Run.ext a<|l rfl A d f i e<|S.mono a
theorem Ev.Wo(h:Ev C j Ω x<|.bool b)(k:b=aj->Ev C j Ω y (.bool c)):Ev C j Ω (.BoolOp .And [x,y] pos)<|.bool<|b&&c:=λA G s i I S=>by
 refine wpAny_And2<|Run.use (h A G s i I S) λv g d e a f=>?_;cases f
 refine cm ?_;cases b with|false=>exact⟨d,e,a,Tr.bool _⟩|true=>exact Run.ext a<|k rfl A d g i e<|S.mono a
theorem Ev.neg(h:Ev C j Ω e<|.int i):Ev C j Ω (.UnaryOp .USub e pos)<|.int<|-i:=λA G s g I S=>by
 refine afa<|Run.use (h A G s g I S) λv f a b c d=>?_;cases d
 exact neg_int ⟨a,b.bL rfl rfl rfl,c.trans<|.bL rfl,Tr.int _ _⟩
end
theorem fX{W:Wd}{T id:String}(f:s.TypeIs o T) (g:ds (.type T) "__getitem__"=bB (ae<|.builtin id))(h:aD W.M A (ig o i) Q E s) (hs:(fb a false o i=k9 [o,i] (ig o i))\/fb a false o i=k9 [i,o] (ig o i)):aD W.M A (vy c a o i) Q E s:=by
 skip;refine aa ?_;skip;refine aa<|cP f g ?_;haveI b:aD W.M A (fb a false o i) (λr=>aD W.M A (jR c o r>>=λ_=>bB r) Q E) E s:=by rcases hs with hs|hs<;>rw[hs]<;>exact YE<|aC h (λr e d=>aa<|Qy<|ag d) λ_ _ x=>x
 first|exact ag<|aa b|exact aa<|ag<|aa b|exact aa b
noncomputable def lK{α:Type}(ts:List α)(b a st:Option Int):List α:=(rm (i3 b a st ts.length).1 (i3 b a st ts.length).2.1 (i3 b a st ts.length).2.2).filterMap (ts[·]?)
theorem nB(f:α->c)(ts b a st):lK (ts.map f) b a st=(lK ts b a st).map f:=by unfold lK;rw[af,Jt];congr 1;funext k;rw[aq]
theorem aG.pick(h:aG G f ts)(a:List Nat):aG G (a.filterMap (f[·]?))<|a.filterMap (ts[·]?):=by induction a with|nil=>exact .nil|cons i a b=>rw[jI,jI];cases e:ts[i]?with|none=>rw[jB.mpr<|h.length▸jB.mp e];exact b|some t=>
   refine aU (h.get e) λv d c=>?_;rw[d];exact .cons c b
theorem aG.slice(h:aG G c.toList ts)(b a st):aG G (tR c b a st).toList<|lK ts b a st:=by unfold tR lK;haveI e:=h.length;simp only [aP] at e;rw[<-e];simpa using h.pick _
section
noncomputable def vM(b:gw)(a i r:T):Prop:=∀W A G s v u (c),Ok A 0->Inv W G s->Tr G v a->Tr G u i->Run W A (vy c b v u) G s (KT r)
theorem Ev.sub{b:gw}(h:Ev C w Ω c a)(k:Ev C w Ω b i)(o:vM b a i r):Ev C w Ω (.Subscript c b pos) r:=λA G s t I S=>by refine mQ<|Run.use (h A G s t I S) λv p f j d m=>?_;refine Run.use (k A f p t j<|S.mono d) λu q g l e n=>?_;exact Run.ext (d.trans e)<|o C.W A g q v u c (t.le<|au _) l (m.mono e.sub) n
theorem vM.list(f:0<=i)(g:i<2^63)(h:ts[i.toNat]?=ae t)(hs:autoParam (∀o i,fb b false o i=k9 [o,i] (ig o i)) CU):vM b (.list ts) (.int i) t:=λW A G s v u d p I k j=>by
 refine gc (k.isList I) λa q m e n=>?_;subst m;cases j
 refine aU (n.get h) λx l c=>fX e.typeIs slot_list_getitem.lookup (wpAny_getItem_list e f g (by simpa using l) ⟨G,I,.refl G s,c⟩)<|.inl<|hs _ _
theorem vM.H5(h:i<0)(j:-(ts.length:Int)<=i)(k:-2^63<=i)(l:ts[(i+ts.length).toNat]?=ae t)(hs:autoParam (∀o i,fb b false o i=k9 [o,i] (ig o i)) CU):vM b (.list ts) (.int i) t:=λW A G s v u d r I n m=>by
 refine gc (n.isList I) λa w q f g=>?_;subst q;cases m
 haveI e:=g.length;simp only [aP] at e;refine aU (g.get l) λx p c=>fX f.typeIs slot_list_getitem.lookup (wpAny_getItem_list_neg f h (afZ j e) k (by rw[e];simpa using p) ⟨G,I,.refl G s,c⟩)<|.inl<|hs _ _
theorem vM.tuple(h:-2^63<=i)(k:i<2^63)(l:n5 i ts.length=ae j)(m:ts[j]?=ae t)(hs:autoParam (∀o i,fb b false o i=k9 [o,i] (ig o i)) CU):vM b (.tuple ts) (.int i) t:=λW A G s v u d w I p n=>by
 refine gc (p.jY I) λa y r f g=>?_;subst r;cases n
 haveI e:=g.length;simp only [aP] at e;refine aU (g.get m) λx q c=>fX (IsTup.typeIs f) slot_tuple_getitem.lookup (YF f h k (by rw[e];exact l) (by simpa using q) ⟨G,I,.refl G s,c⟩)<|.inl<|hs _ _
theorem vM.str(d:(decide (i< -(2^63:Int))||decide (i>=2^63))=false)(e:(n5 i x.length).bind (x.cps[·]?)=ae c)(hs:autoParam (∀o i,fb a false o i=k9 [o,i] (ig o i)) CU):vM a (.str x) (.int i)<|.str ⟨#[c]⟩:=λW A G s v u b h I g f=>by
 cases g;cases f
 exact fX rfl PySem.F.slot_str_getitem.lookup (P.getItem_str d e<|h_ I rfl rfl rfl<|Tr.str _ _)<|.inl<|hs _ _
inductive Part(C Γ Ω):Option gw->Option Int->Prop|none:Part C Γ Ω ah ah|int:Ev C Γ Ω e (.int i)->Part C Γ Ω (ae e) (ae i)
theorem Part.run(h:Part C j Ω e i):∀A G s,Ok A C.n->Inv C.W G s->St C j Ω G s->Run C.W A (evalPart e C.env) G s (λv _ _=>v_ v i):=λA G s g I S=>by
 cases h with|none=>exact wpAny_evalPart_none ⟨G,I,.refl G s,.none⟩|int h=>
  refine wpAny_evalPart_some<|Run.use (h A G s g I S) λv f a b c d=>⟨a,b,c,?_⟩;cases d
  exact .int _ _
theorem mY{E st:Option gw}(L:Part C B Ω E l)(P:Part C B Ω H u)(N:Part C B Ω st t)(z:Ok A C.n)(I:Inv C.W G s)(S:St C B Ω G s) (h:∀D s',Inv C.W D s'->Ext G s D s'->∀a w y x,s'.heap.IsSliceOf a w y x->v_ w l->v_ y u->v_ x t->Q (.ref a) s'):aD C.W.M A (eval (.Slice E H st p) C.env) Q (λ_ _=>False) s:=by refine wpAny_Slice<|Run.use (L.run A G s z I S) λw r d g b m=>?_;refine Run.use (P.run A d r z g<|S.mono b) λy v e i c o=>?_;refine Run.use (N.run A e v z i<|(S.mono b).mono c) λx F f j k q=>?_;exact h f _ (j.g4 _) (((b.trans c).trans k).trans<|.g4 ..) _ w y x (VD ..) m o q
theorem Ev.slice{x st:Option gw}(h:Ev C n Ω j<|.list ts)(L:Part C n Ω x l)(N:Part C n Ω H u)(M:Part C n Ω st t)(F:t≠ae 0)(hsz:ts.length<=aA):Ev C n Ω (.Subscript j (.Slice x H st p) pos)<|.list<|lK ts l u t:=λA G s y I S=>by
 refine mQ<|Run.use (h A G s y I S) λv z q k f m=>?_;refine mY L N M y k (S.mono f) λr i d g sl vl vu vt o P Q R=>gc ((m.mono g.sub).isList d) λa vs W w B=>?_;subst W;haveI e:=B.length;skip;refine fX w.typeIs slot_list_getitem.lookup (HC w o P Q R F ?_<|AY hsz e)<|by cases st<;>first|exact .inl rfl|exact .inr rfl
 obtain⟨D,E,b,c⟩:=iQ (s':={i with heap:=i.heap.push {cls:=.type "list",data:=.seq<|tR vs l u t}}) d rfl rfl rfl rfl (Tr.seq (Gh.fD _ _ _) rfl (λ_=>rfl) rfl<|(B.slice l u t).mono<|Gh.dT<|d.cL<|al _);exact⟨D,E,(f.trans g).trans b,c⟩
noncomputable def rL(x:bC)(a b:Nat):Str:=⟨((x.cps.toList.drop a).take<|b-a).toArray⟩
theorem Wq(x:bC)(a b)(c:a<=b)(f:b<=x.length):((lH (ae a) (ae b) 1 x.length).filterMap (x.cps[·]?))=(x.cps.toList.drop a).take (b-a):=by
 rw[tT c f];skip;apply tU;intro k;rw[nj];by_cases h:k<b-a
 .have e:∀n,a+n<=x.cps.size->(aL n).filterMap ((x.cps[·]?)∘λk=>a+k)=(x.cps.toList.drop a).take n:=by intro n d;induction n with|zero=>simp|succ n g=>
    rw[gk,lI,g<|aF d,cA];congr 1;have:a+n<x.cps.size:=d;simp[this]
  rw[e _<|ab (aH<|cX<|aF<|Nat.sub_pos_iff_lt.mp<|cY h) f]
 .haveI e:∀n,a+n<=x.cps.size->(aL n).filterMap ((x.cps[·]?)∘λk=>a+k)=(x.cps.toList.drop a).take n:=by intro n d;induction n with|zero=>simp|succ n g=>
    rw[gk,lI,g<|aF d,cA];congr 1;have:a+n<x.cps.size:=d;simp[this]
  rw[e _<|Zh c f]
theorem Ev.M1{t:gw}{a b:Nat}(h:Ev C q Ω i<|.str x)(P:Ev C q Ω t<|.int a)(Q:Ev C q Ω N<|.int b)(g:a<=b)(n:b<=x.length)(hsz:x.length<=aA):Ev C q Ω (.Subscript i (.Slice (ae t) (ae N) ce p) pos)<|.str<|rL x a b:=λA G s w I S=>by
 refine mQ<|Run.use (h A G s w I S) λv y r j c m=>?_;refine mY (.int P) (.int Q) .none w j (S.mono c) λd z e f sl vl vu vt o R W p3=>?_;cases m
 cases R;cases W;cases p3
 rename_i t1 B D;refine fX rfl PySem.F.slot_str_getitem.lookup (wpAny_getItem_str_slice (l:=ae (_,B)) (u:=ae (_,D)) (st:=ce) o rfl ?_)<|.inr rfl;unfold sliceMade;haveI L:slicePicked x (ae (a,B)) (ae (b,D)) ce=lH (ae a) (ae b) 1 x.length:=rfl;rw[L];split
 .rename_i M;haveI:rL x a b=x:=by
   have k:(lH (ae a) (ae b) 1 x.length).length=x.length:=by simpa using M
   rw[tT g n] at k;simp at k;haveI E:a=0:=Nat.le_zero.mp<|AK<|ab (aH<|(congrArg (·+a) k.symm).trans<|du g) n;subst E;haveI H:b=x.cps.toList.length:=by unfold LA at k;simpa using k
   rw[H];unfold rL;rw[gQ,f7,dn]
  rw[this];exact⟨d,e,c.trans f,Tr.str _ _⟩
 .rw[Wq x a b g n];refine⟨?_,d,e.bL rfl rfl rfl,(c.trans f).trans<|.bL rfl,Tr.str _ _⟩;unfold LA at*;simp;exact af2 hsz
end
noncomputable abbrev Wd.K(W:Wd):Frag:=wU PP W.w.params
section
theorem Ev.glob(e:l7 C.W.K a_ x=ae (ae v))(d:C.env.kindOf x=ae .globalImplicit)(b:autoParam ((x==bo "__debug__")=false) Rv):Ev C h Ω (.Name x pos)<|.val v:=λA G s _ I S=>by refine cc C.W.base.g λf c=>?_;haveI a:=c.keeps I.base;refine iz (ln S.kind d<|VE (S.glob▸a) (ô I.k a e) ⟨G,I,.refl G s,.val v⟩) b
theorem Ev.builtin(e:l7 C.W.K a_ x=ae ce)(h:cN x=ae v)(m:x≠"__name__")(l:autoParam (C.env.kindOf x=ae .globalImplicit) U3)(i:autoParam ((x==bo "__debug__")=false) Rv):Ev C p Ω (.Name x pos)<|.val v:=λA G s _ I S=>by refine cc C.W.base.g λo j=>aU C.W.base.b λn d f=>?_;haveI a:=j.keeps I.base;haveI c:=d.keeps I.base;refine iz (ln S.kind l<|wa (S.glob▸a) (TN I.k a e) (S.blt▸c) (by rw[f x m];exact h) ⟨G,I,.refl G s,.val v⟩) i
inductive Callee(K):aW->Prop|builtin (id):Callee K<|.builtin id|type (t):Callee K<|.type t|k:wb K f=aj->Callee K f
theorem gG{W:Wd}(c:Callee W.K f)(r:W.K.In s.heap) (h:aD W.M A (yx<|bb pos<|aw i env) (λm d=>W.K.In d.heap/\aD W.M A (call f<|e++m) Q E d) E s) (g:(bb pos<|aw i env).any (·.1)=false):aD W.M A (bS pos f e (bb pos<|aw i env) []) Q E s:=by
 generalize bb pos (aw i env)=l at g h⊢;have j:aD W.M A (Qz f aj l []) (λa d=>W.K.In d.heap/\aD W.M A (call f (e++a.pos) a.kw) Q E d) E s:=by
  cases l with|nil=>skip;skip;refine aa<|aC h (λm q n=>?_) λ_ _ z=>z;refine aa<|ag ?_;refine aQ<|aa<|ag<|aa<|ag<|ag n|cons t l=>
   obtain⟨b,x⟩:=t;have:b=false:=by cases b with|false=>rfl|true=>exact tF g
   subst this;exact aeT h
 cases c with|builtin p=>exact callWith_builtin g<|aC j (λ_ _ z=>z.2) λ_ _ z=>z|type t=>exact YG g<|aC j (λ_ _ z=>z.2) λ_ _ z=>z|k o=>exact callWith_of (by rw[g];rfl) (keeps_K o) j
noncomputable def cf(f:aW)(ts:List T)(n:Nat)(r:T):Prop:=∀W A G s a,Ok A n->Inv W G s->aG G a ts->Run W A (call f a) G s (KT r)
theorem Ev.call(x:Ev C u Ω f<|.val g)(c:Callee C.W.K g)(h:oD C u Ω q ts)(k:cf g ts n r)(y:n<=C.n) (z:autoParam (∀env,(bb pos<|aw q env).any (·.1)=false) eX) (w:autoParam (∀env,eval (.Call f q [] pos) env=(do bS pos (<-eval f env) [] (bb pos<|aw q env) (bK pos<|aX [] env))) eX):Ev C u Ω (.Call f q [] pos) r:=λA G s t I S=>by
 refine qw ?_<|w _;refine Run.use (x A G s t I S) λv o e a d l=>?_;cases l
 refine gG c a.k ?_<|z _;refine Run.use (h A e o pos t a<|S.mono d) λB p i b j m=>⟨b.k,?_⟩;exact Run.ext (d.trans j)<|k C.W A i p B (t.le y) b m
theorem oL:∀{ns:List Int},aG G a (ns.map .int)->LB a ns:=by
 induction a with
 |nil=>intro ns h;cases ns with|nil=>exact .nil|cons n ns=>cases h
 |cons v a b=>
  intro ns h;cases ns with
  |nil=>cases h
  |cons n ns=>cases h using aG.ca with|cons h r=>cases h;exact .cons _ _<|b r
theorem Run.grow(I:Inv W G s)(c:∀b o,s.heap.get? b=ae o->s'.heap.get? b=ae o)(d:s'.gens=s.gens)(f:s'.os=s.os)(h:Tr G v t):ua W G s (KT t) v s':=⟨G,⟨λa o e=>c a o<|I.hM a o e,I.hb,d▸I.bare,f.trans I.os⟩,⟨c,λ_ _ e=>e,λ_ _=>.inl⟩,h⟩
theorem cf.RA(b:ts.length<=aA):cf (.builtin "len") [.list ts] 0<|.int ts.length:=λW A G s g i I h=>by
 cases h using aG.ca with|cons h r=>
  refine gc (h.isList I) λa g d c f=>?_;subst d;cases r
  haveI e:=f.length;simp only [aP] at e;refine len_list c (by unfold aA at b;exact Ze b e) ?_;rw[e];exact h_ I rfl rfl rfl<|Tr.int _ _
theorem cf.M2(a:x.length<=aA):cf (.builtin "len") [.str x] 0<|.int x.length:=λW A G s c b I h=>by
 cases h using aG.ca with|cons h r=>
  cases r;cases h
  exact ā (by unfold aA at a;exact Zi a)<|h_ I rfl rfl rfl<|Tr.int _ _
theorem cf.chr(a:(decide (i<0)||decide (i>1114111))=false):cf (.builtin "chr") [.int i] 0<|.str ⟨#[i.toNat]⟩:=λW A G s c b I h=>by
 cases h using aG.ca with|cons h r=>
  cases r;cases h
  exact P.chr_of_int a<|h_ I rfl rfl rfl<|Tr.str _ _
theorem cf.ord:cf (.builtin "ord") [.str ⟨#[c]⟩] 0<|.int c:=λW A G s b a I h=>by
 cases h using aG.ca with|cons h r=>
  cases r;cases h
  exact P.ord_of_char<|h_ I rfl rfl rfl<|Tr.int _ _
theorem cf.max2:cf (.builtin "max") [.int a,.int b] 0<|.int<|if b>a then b else a:=λW A G s i e I h=>by
 cases h using aG.ca with|cons h r=>
  cases r using aG.ca with|cons c r=>
   cases r;cases h;cases c
   refine max_two_ints e.hd λf g d=>Run.grow I d rfl rfl ?_;split<;>exact Tr.int _ _
theorem cf.min2:cf (.builtin "min") [.int a,.int b] 0<|.int<|if b<a then b else a:=λW A G s i e I h=>by
 cases h using aG.ca with|cons h r=>
  cases r using aG.ca with|cons c r=>
   cases r;cases h;cases c
   refine min_two_ints e.hd λf g d=>Run.grow I d rfl rfl ?_;split<;>exact Tr.int _ _
theorem pL(h:LB d.toList ns):∃xs,d=intItems xs/\xs.toList.map (·.1)=ns:=by
 haveI:∀{l:List aW} {ns:List Int},LB l ns->∃xs:List (Int×Tok),l=xs.map (λp=>LD p.1 p.2)/\xs.map (·.1)=ns:=by intro l ns h;induction h with|nil=>exact⟨[],rfl,rfl⟩|cons n t h c=>refine aU c λxs a b=>⟨(n,t)::xs,by rw[ax,<-a],by rw[ax,b]⟩
 refine aU (this h) λxs a b=>⟨xs.toArray,?_,b⟩;unfold intItems;apply ii.mp;rw[a];simp
theorem cf.F2{ns:List Int}(g:m∈ns)(f:∀x∈ns,m<=x):cf (.builtin "min") [.list<|ns.map .int] 0<|.int m:=λW A G s E w I h=>by
 cases h using aG.ca with|cons h r=>
  cases r
  refine gc (h.isList I) λa E y u D=>?_;subst y;have b:=k_ g;refine aU (pL<|oL D) λc z e=>?_;subst z;have d:0<c.size:=by rw[<-e] at b;simpa using b
  refine min_intList w.hd u d λv F H k q=>bu (argBest_lt (Fq c)<|c.size-1) λo p=>cc (ċ k) λt B=>?_;subst B;haveI n:Fq c (argBest (λi j=>decide<|Fq c i<Fq c j)<|c.size-1)=m:=by
   apply mO
   .rw[<-e] at g;refine aU (mem_getD g) λj l C=>?_;subst C;rw[af,aP] at l;rw[<-QA];exact p j<|js l
   .apply f;rw[<-e,QA];exact getD_mem<|by rw[af,aP];exact(az o<|jt d ju)
  rw[n];exact Run.grow I q rfl rfl<|Tr.int _ _
theorem cf.ag0{ns:List Int}(g:m∈ns)(f:∀x∈ns,x<=m):cf (.builtin "max") [.list<|ns.map .int] 0<|.int m:=λW A G s E w I h=>by
 cases h using aG.ca with|cons h r=>
  cases r
  refine gc (h.isList I) λa E y u D=>?_;subst y;have b:=k_ g;refine aU (pL<|oL D) λc z e=>?_;subst z;have d:0<c.size:=by rw[<-e] at b;simpa using b
  refine max_intList w.hd u d λv F H k q=>bu (argBest_gt (Fq c)<|c.size-1) λo p=>cc (ċ k) λt B=>?_;subst B;haveI n:Fq c (argBest (λi j=>decide<|Fq c i>Fq c j)<|c.size-1)=m:=by
   apply mO;.apply f;rw[<-e,QA];exact getD_mem<|by rw[af,aP];exact(az o<|jt d ju)
   .rw[<-e] at g;refine aU (mem_getD g) λj l C=>?_;subst C;rw[af,aP] at l;rw[<-QA];exact p j<|js l
  rw[n];exact Run.grow I q rfl rfl<|Tr.int _ _
theorem cf.RB{ns:List Int}:cf (.builtin "sum") [.list<|ns.map .int] 0<|.int ns.sum:=λW A G s l g I h=>by
 cases h using aG.ca with|cons h r=>
  cases r
  refine gc (h.isList I) λa l i f k=>?_;subst i;refine aU (pL<|oL k) λc j b=>?_;subst j;refine sum_intListG g.hd f λm o n e=>?_;haveI d:TO (Fq c) c.size=ns.sum:=by rw[preSum_eq,b,gz];rw[<-b];simp
  rw[d];exact Run.grow I e rfl rfl<|Tr.int _ _
end
noncomputable abbrev A5:=List<|cj×uJ
noncomputable def Pins(G:Gh)(s:bk)(pins:A5):Prop:=∀p∈pins,s.heap.get? p.1=ae p.2/\G p.1=ah/\∀v,p.2.data≠.cell v
structure Turn(W)(ws:List cj)(G:Gh)(s:bk)(G' s'):Prop where
 inv:Inv W G' s'
 keep:∀a o,a∉ws->s.heap.get? a=ae o->s'.heap.get? a=ae o
 sub:∀a o,G a=ae o->G' a=ae o
 new:∀a o,G' a=ae o->G a=ae o\/s.heap.get? a=ah
inductive adN(W)(pins:A5)(G s)(J:A5->Gh->Prop)(v t s₂):Prop|mk (G') (M4) (T:Turn W (pins.map (·.1)) G s G' s₂) (P:Pins G' s₂ M4) (hn:M4.map (·.1)=pins.map (·.1)) (hJ:J M4 G') (hv:Tr G' v t)
inductive U7(W A target it pins G s J t s₁):Option aW->Prop|mk (v) (h:aD W.M A (dW target it v) (λ_ s₂=>adN W pins G s J v t s₂) (λ_ _=>False) s₁):U7 W A target it pins G s J t s₁<|ae v
inductive U8(W)(pins:A5)(G s s₁):Option aW->Prop|mk (G') (T:Turn W (pins.map (·.1)) G s G' s₁):U8 W pins G s s₁ ah
structure F3(W target it)(ts:List T)(J:Nat->A5->Gh->Prop):Prop where
 mono:∀i pins G G',(∀a o,G a=ae o->G' a=ae o)->J i pins G->J i pins G'
 item:∀A i t G s pins,A.handled=ah->ts[i]?=ae t->Inv W G s->J i pins G->Pins G s pins->aD W.M A (l8 it) (λr s₁=>U7 W A target it pins G s (J<|i+1) t s₁ r) (λ_ _=>False) s
 done:∀A G s pins,A.handled=ah->Inv W G s->J ts.length pins G->Pins G s pins->aD W.M A (l8 it) (λr s₁=>U8 W pins G s s₁ r) (λ_ _=>False) s
 self:∀A i G s pins,A.handled=ah->Inv W G s->J i pins G->Pins G s pins->∀Q,Q it s->aD W.M A (rn it) Q (λ_ _=>False) s
noncomputable def JW(c:Gh)(e wr:List cj)(d:Nat->lm->Prop)(i:Nat)(pins:A5)(G:Gh):Prop:=pins.map (·.1)=wr/\(∀a o,c a=ae o->G a=ae o)/\(∀b∈e,b∈wr\/∃o,G b=ae o)/\∀h,(∀p∈pins,h.get? p.1=ae p.2)->(∀a o,G a=ae o->h.get? a=ae o)->d i h
noncomputable def lB(h:lm)(wr:List cj):A5:=wr.map λb=>(b,(h.get? b).getD rl)
theorem iH(h wr):(lB h wr).map (·.1)=wr:=by unfold lB;rw[aE];exact(aI λ_ _=>rfl).trans<|qZ _
theorem F4(a:b∈wr)(e:h.get? b=ae o):(b,o)∈lB h wr:=am.mpr ⟨b,a,by rw[e];rfl⟩
theorem sG(f:∀b∈wr,∃o,s.heap.get? b=ae o/\∀v,o.data≠.cell v)(c:∀b∈wr,G b=ah):Pins G s<|lB s.heap wr:=λp g=>by refine g7 g λb a=>aU (f b a) λo e d=>?_;simp only [e,lx];exact⟨trivial,c b a,d⟩
theorem sH{f:Nat->lm->Prop}(c:∀i h g,f i h->(∀b∈k,∀o,h.get? b=ae o->g.get? b=ae o)->f i g) (j:f i h)(n:∀a o,d a=ae o->G a=ae o)(l:∀b∈k,b∈wr\/∃o,G b=ae o)(p:∀a o,G a=ae o->h.get? a=ae o):JW d k wr f i (lB h wr) G:=⟨iH h wr,n,l,λg s r=>c i h g j λb q o e=>by
  rcases l b q with t|⟨u,m⟩;.exact s _<|F4 t e
  .rw[p b u m] at e;cases e
   exact r _ _ m⟩
section
theorem JL{y:Nat->lm->Prop}(g)(z:∀A:mP,A.handled=ah->Walks PP W.w A I L wr ts.length P y) (C:∀A i v (s:bk) (Q:Unit->bk->Prop) (E:aW->bk->Prop),y i s.heap->Q () s->aD W.M A (dW f (.ref I) v) Q E s) (x:∀i h,y i h->∀b∈wr,∃o,h.get? b=ae o/\∀v,o.data≠.cell v) (val:∀i v t G,P i v->ts[i]?=ae t->(∀a o,g a=ae o->G a=ae o)->Tr G v t):F3 W f (.ref I) ts<|JW g L wr y where
 mono:=λi c G G' D j=>⟨j.1,λa o e=>D a o<|j.2.1 a o e,λb l=>(j.2.2.1 b l).imp id λzz=>cc zz λo e=>⟨o,D b o e⟩,λh d R=>j.2.2.2 h d λa o e=>R a o<|D a o e⟩
 item:=λA i t G s c r H V j d=>by
  haveI S:=(List.getElem?_eq_some_iff.mp H).1;have B:∀b∈wr,G b=none:=λb l=>by rw[<-j.1] at l;refine g7 l λp m=>(d p m).2.1
  refine(z A r).item i s _ _ S (j.2.2.2 s.heap (λp m=>(d p m).1) V.hM) λv F tk N n u=>.mk v ?_;haveI k:=λa o e=>u a o (λm=>by rw[B a m] at e;cases e)<|V.hM a o e;refine C A (i+1) v _ _ _ n ⟨G,lB F wr,⟨⟨k,V.hb,V.bare,V.os⟩,?_,λ_ _ e=>e,λ_ _=>.inl⟩,sG (x _ _ n) B,?_,sH ((z A r).frame) n j.2.1 j.2.2.1 k,val i v t G N H j.2.1⟩;.rw[j.1];exact u
  .rw[j.1];exact iH _ _
 done:=λA G s c r V j d=>by
  haveI B:∀b∈wr,G b=none:=λb l=>by rw[<-j.1] at l;refine g7 l λp m=>(d p m).2.1
  refine(z A r).done s _ _ (j.2.2.2 s.heap (λp m=>(d p m).1) V.hM) λF tk u=>.mk G ⟨⟨λa o e=>u a o (λm=>by rw[B a m] at e;cases e)<|V.hM a o e,V.hb,V.bare,V.os⟩,?_,λ_ _ e=>e,λ_ _=>.inl⟩;rw[j.1];exact u
 self:=λA i G s c r V j d Q q=>(z A r).self i s _ _ (j.2.2.2 s.heap (λp m=>(d p m).1) V.hM) q
theorem rU{St:Nat->lm->Prop}{ts:List (List T)}(l)(C:∀A:mP,A.handled=ah->TP PP W.w A I fp wr ts.length Pt St a2) (P:∀i h,St i h->∀b∈wr,∃o,h.get? b=ae o/\∀v,o.data≠.cell v) (val:∀i vs t G,Pt i vs->ts[i]?=ae t->(∀a o,l a=ae o->G a=ae o)->aG G vs.toList t):F3 W (.Tuple D k pos) (.ref I) (ts.map .tuple)<|JW l fp wr St where
 mono:=λi f G G' hs j=>⟨j.1,λa o e=>hs a o<|j.2.1 a o e,λb d=>(j.2.2.1 b d).imp id λzz=>cc zz λo e=>⟨o,hs b o e⟩,λh g hg=>j.2.2.2 h g λa o e=>hg a o<|hs a o e⟩
 item:=λA i t G s f u M V j g=>by
  rw[aq,aT] at M;obtain⟨tt,M,rfl⟩:=M;haveI hi:=(List.getElem?_eq_some_iff.mp M).1;have S:∀b∈wr,G b=none:=λb d=>by rw[<-j.1] at d;refine g7 d λp m=>(g p m).2.1
  refine(C A u).item i s _ _ hi (j.2.2.2 s.heap (λp m=>(g p m).1) V.hM) λT R N tk hP hT E r hk=>.mk (.ref T)<|(C A u).go D k pos i T _ _ _ r λh' L H=>?_;have F:=(C A u).apart i T N r;haveI B:=aV hT;have a0:G T=none:=by cases q:G T with|none=>rfl|some o=>rw[V.hM T o q] at B;cases B
  refine cc E λo q1=>?_;clear E;refine bu q1 λho q2=>?_;clear q1;refine bu q2 λhc q3=>?_;clear q2;refine cc q3 λn hd=>?_;clear q3;haveI a1:=H T o F ho;have z:=λa x m e=>H a x m<|hk a x m e;have y:∀a x,(G.add T o) a=ae x->h'.get? a=ae x:=λa x e=>by
   rcases Gh.ga e with⟨rfl,rfl⟩|e;.exact a1
   .exact z a x (λm=>by rw[S a m] at e;cases e)<|V.hM a x e
  have c:=Gh.dT (o:=o) a0;refine⟨G.add T o,lB h' wr,⟨⟨y,λa x e=>c a x<|V.hb a x e,V.bare,V.os⟩,?_,c,λa x e=>?_⟩,sG (P _ _ L) λb d=>?_,?_,sH ((C A u).frame) L (λa x e=>c a x<|j.2.1 a x e) (λb d=>(j.2.2.1 b d).imp id λzz=>cc zz λx e=>⟨x,c b x e⟩) y,.seq (Gh.fD _ _ _) hc (λq=>absurd q<|by decide) hd<|(val i R tt G hP M j.2.1).mono c⟩;.rw[j.1];exact z
  .rcases Gh.ga e with⟨rfl,rfl⟩|e;.exact .inr B
   .exact .inl e
  .cases q:(G.add T o) b with|none=>rfl|some x=>
    rcases Gh.ga q with⟨rfl,rfl⟩|q;.exact absurd d F
    .rw[S b d] at q;cases q
  .rw[j.1];exact iH _ _
 done:=λA G s f u V j g=>by
  haveI S:∀b∈wr,G b=none:=λb d=>by rw[<-j.1] at d;refine g7 d λp m=>(g p m).2.1
  rw[af] at j;refine(C A u).done s _ _ (j.2.2.2 s.heap (λp m=>(g p m).1) V.hM) λh' tk hk=>.mk G ⟨⟨λa o e=>hk a o (λm=>by rw[S a m] at e;cases e)<|V.hM a o e,V.hb,V.bare,V.os⟩,?_,λ_ _ e=>e,λ_ _=>.inl⟩;rw[j.1];exact hk
 self:=λA i G s f u V j g Q=>(C A u).self i s _ _<|j.2.2.2 s.heap (λp m=>(g p m).1) V.hM
end
structure M5(W target ts G₀ s₀ it G s J pins):Prop where
 inv:Inv W G s
 ext:Ext G₀ s₀ G s
 ok:F3 W target it ts J
 j:J 0 pins G
 pinned:Pins G s pins
 nodup:(pins.map (·.1)).Nodup
 fresh:∀p∈pins,s₀.heap.get? p.1=ah
inductive Uh(W target ts G s it s₂):Prop|mk (Wr) (J) (pins) (n:M5 W target ts G s it Wr s₂ J pins)
noncomputable def fR(C:Cx)(c:cG)(Ω:bM)(e a:gw)(ts:List T):Prop:=∀A G s,Ok A C.n->Inv C.W G s->St C c Ω G s->aD C.W.M A (eval e C.env) (λx b=>aD C.W.M A (rn x) (Uh C.W a ts G s) (λ_ _=>False) b) (λ_ _=>False) s
theorem pM{W:Wd}(h:∀b v,dW a b v=bB ())(q:Q () s):aD W.M A (dW a b v) Q E s:=by rw[h];exact ag q
inductive U9:gw->Prop|other:(∀it v,dW e it v=bB ())->U9 e|tuple (es) (k) (pos):U9<|.Tuple es k pos
theorem U9.name(x p):U9<|.Name x p:=.other λ_ _=>rfl
theorem uV{W:Wd}(t:U9 a)(b:s.heap.IsListIter I l i)(q:Q () s):aD W.M A (dW a (.ref I) v) Q E s:=by cases t with|other h=>exact pM h q|tuple d k c=>cases v with|ref T=>exact wpAny_letOwnedTupleGo_listiter b q|_=>exact ag q
section
theorem qB{h:lm}(q:h.IsListIter a l i):∃o,h.get? a=ae o/\∀v,o.data≠.cell v:=q.elim λo q=>⟨o,q.1,λ_=>q.2.2▸iP⟩
theorem pN(I:Inv W G s)(z:Ext f j G s)(u:o.isFreed=false)(r:∀v,o.data≠.cell v) (m:∀A:mP,A.handled=ah->Walks PP W.w A s.heap.objs.size n [s.heap.objs.size] ts.length P S) (k:∀A i v (c:bk) (Q:Unit->bk->Prop) (E:aW->bk->Prop),S i c.heap->Q () c->aD W.M A (dW d (.ref s.heap.objs.size) v) Q E c) (g:∀i h,S i h->∃o,h.get? s.heap.objs.size=ae o/\∀v,o.data≠.cell v) (val:∀i v t l,P i v->ts[i]?=ae t->(∀a o,G a=ae o->l a=ae o)->Tr l v t) (p:∀b∈n,b∈[s.heap.objs.size]\/∃o,G b=ae o)(st:∀h:lm,h.get? s.heap.objs.size=ae o->(∀a x,G a=ae x->h.get? a=ae x)->S 0 h):Uh W d ts f j (.ref s.heap.objs.size) {s with heap:=s.heap.push o}:=.mk G _ [(s.heap.objs.size,o)] ⟨I.g4 _,z.trans<|.g4 ..,JL G m k (λi h q=>fm (g i h q) uR) val,⟨rfl,λ_ _ e=>e,p,λh y=>st h<|y _<|.head _⟩,fm ⟨aS _ u,I.cL<|al _,r⟩ uR,List.pairwise_singleton _ _,fm (fH z.heap<|aV<|al _) uR⟩
theorem aG.at'{a:Array aW}(d:aG G a.toList ts){i:Nat}(c:a[i]?=ae v)(b:ts[i]?=ae t):Tr G v t:=(d.get b).elim λ_ q=>bq ((bN.symm.trans q.1).symm.trans c)▸q.2
theorem zW(t:U9 a)(I:Inv W G s)(z:Ext b c G s)(g:G l=ae o)(k:o.cls=.type "list")(m:o.data=.seq f n)(d:aG G f.toList ts):Uh W a ts b c (.ref s.heap.objs.size) {s with heap:=s.heap.push {cls:=.type "list_iterator",data:=.fields #[.ref l,.int 0 0]}}:=pN I z rfl (λ_=>iP) (λA r=>(aP.symm.trans d.length)▸Walks.list r s.heap.objs.size l (bJ<|I.lt g) f) (λA i v y Q E w=>uV t w.1) (λ_ _ q=>qB q.1) (λi v t x j u=>(d.at' j u).mono) (fm (.inl<|.head _)<|fm (.inr ⟨_,g⟩) uR) λh e p=>⟨⟨_,e,rfl,rfl⟩,⟨o,p _ _ g,k,n,m⟩⟩
theorem fR.list(h:Ev C u Ω e<|.list ts)(t:U9 b):fR C u Ω e b ts:=λA G s p I S=>by refine Run.use (h A G s p I S) λv l i c d f=>?_;refine vH (f.listOf c) λa o n w q g m j k r=>?_;subst q;refine yy ⟨o,m,j,n,k⟩<|zW t c d g j k r
theorem fR.tuple(h:Ev C H Ω e<|.tuple ts):fR C H Ω e (.Name x p) ts:=λA G s B I S=>by refine Run.use (h A G s B I S) λv d f a b c=>?_;refine vH (c.listOf a) λl o n F D g y j k m=>?_;subst D;refine wpAny_pyIter_tuple ⟨o,y,j,n,k⟩<|pN a b rfl (λ_=>iP) (λA w=>(aP.symm.trans m.length)▸Walks.tuple w d.heap.objs.size l (bJ<|a.lt g) F) (λA i v M Q E N=>pM λ_ _=>rfl) (λ_ _ q=>q.1.elim λo q=>⟨o,q.1,λ_=>q.2.2▸iP⟩) (λi v t L r z=>(m.at' r z).mono) (fm (.inl<|.head _)<|fm (.inr ⟨_,g⟩) uR) λh e u=>⟨⟨_,e,rfl,rfl⟩,⟨o,u _ _ g,j,n,k⟩⟩
theorem fR.str(h:Ev C B Ω e<|.str t)(n:t.cps.all (·<128)=aj):fR C B Ω e (.Name x p)<|t.cps.toList.map λc=>.str ⟨#[c]⟩:=λA G s w I S=>by
 refine Run.use (h A G s w I S) λv a j b d f=>?_;obtain⟨g,rfl⟩:∃g,v=.str t g:=by cases f;exact⟨_,rfl⟩
 refine wpAny_pyIter_ascii n<|pN (P:=SignAt t) (S:=λi h=>h.IsStrIter a.heap.objs.size "str_ascii_iterator" t g i) b d rfl (λ_=>iP) (λA r=>((af _).trans aP).symm▸Walks.strAscii r a.heap.objs.size t g) (λA i v L Q E M=>pM λ_ _=>rfl) (λ_ _ q=>q.elim λo q=>⟨o,q.1,λ_=>q.2.2▸iP⟩) (λi v u D k l H=>by
   refine j7 k λc z m y=>?_;try clear k;subst y
   rw[aq,bN,m] at l;cases l
   exact Tr.str _ _) (fm (.inl<|.head _) uR) λh e F=>⟨_,e,rfl,rfl⟩
theorem pO(u:Ok A C.n)(I:Inv C.W G s)(S:St C w Ω G s)(y:Ev C w Ω f<|.val g)(c:Callee C.W.K g)(h:oD C w Ω q ts) (k:∀r t s',Inv C.W t s'->Ext G s t s'->aG t r ts->aD C.W.M A (call g r) Q (λ_ _=>False) s') (z:∀env,(bb pos<|aw q env).any (·.1)=false) (x:∀env,eval (.Call f q [] pos) env=(do bS pos (<-eval f env) [] (bb pos<|aw q env) (bK pos<|aX [] env))):aD C.W.M A (eval (.Call f q [] pos) C.env) Q (λ_ _=>False) s:=by
 refine qw ?_<|x _;refine Run.use (y A G s u I S) λv o e a d l=>?_;cases l
 refine gG c a.k ?_<|z _;exact Run.use (h A e o pos u a<|S.mono d) λr p i b j m=>⟨b.k,k r i p b (d.trans j) m⟩
noncomputable def iI(a c:Int)(n:Nat):List T:=(aL n).map λ(i:Nat)=>.int<|a+i*c
theorem rV{n:Nat}(I:Inv W G s)(H:Ext d f G s)(w:IsRange s.heap r a b c t u v)(g:eo a b c=aj)(o:bQ a b c=(n:Int)):aD W.M A (rn<|.ref r) (Uh W (.Name x p) (iI a c n) d f) E s:=by
 refine wpAny_pyIter_range w g ?_;rw[o];exact pN (P:=λi v=>i<n/\∃t,v=.int (a+i*c) t) (S:=λi h=>IsRangeIter h s.heap.objs.size (a+i*c) (n-i) c) I H rfl (λ_=>iP) (λA l=>((af _).trans aO).symm▸(Walks.range l s.heap.objs.size a c n).bound) (λA i v D Q E F=>pM λ_ _=>rfl) (λ_ _ q=>⟨_,q,λ_=>iP⟩) (λi v u z k j C=>by
   refine bu k λm q0=>?_;clear k;refine cc q0 λy q1=>?_;clear q0;subst q1;skip;rw[aq,dR m] at j;cases j
   exact Tr.int _ _) (fm (.inl<|.head _) uR) λh e B=>by show h.get? s.heap.objs.size=ae _;rw[e];simp
theorem fR.M6{n:Nat}(k:Ev C d Ω f<|.val<|.type "range")(h:oD C d Ω a [.int b])(c:eo 0 b 1=aj)(l:bQ 0 b 1=(n:Int)) (m:autoParam (∀env,(bb pos<|aw a env).any (·.1)=false) eX) (j:autoParam (∀env,eval (.Call f a [] pos) env=(do bS pos (<-eval f env) [] (bb pos<|aw a env) (bK pos<|aX [] env))) eX):fR C d Ω (.Call f a [] pos) (.Name x p)<|iI 0 1 n:=λA G s o I S=>by
 refine pO o I S k (.type _) h (λv t u e g q=>?_) m j;cases q using aG.ca with|cons i r=>
  cases r;cases i
  exact call_range_1<|rV (e.g4 _|>.bL rfl rfl rfl) (g.trans<|(Ext.g4 ..).trans<|.bL rfl) (aS _ rfl) c l
theorem fR.M7{n:Nat}(m:Ev C e Ω f<|.val<|.type "range")(h:oD C e Ω c [.int a,.int b])(d:eo a b 1=aj)(o:bQ a b 1=(n:Int)) (q:autoParam (∀env,(bb pos<|aw c env).any (·.1)=false) eX) (l:autoParam (∀env,eval (.Call f c [] pos) env=(do bS pos (<-eval f env) [] (bb pos<|aw c env) (bK pos<|aX [] env))) eX):fR C e Ω (.Call f c [] pos) (.Name x p)<|iI a 1 n:=λA G s t I S=>by
 refine pO t I S m (.type _) h (λy v w g i u=>?_) q l;cases u using aG.ca with|cons j r=>
  cases r using aG.ca with|cons k r=>
   cases r;cases j;cases k
   exact call_range_2<|rV (g.g4 _|>.bL rfl rfl rfl) (i.trans<|(Ext.g4 ..).trans<|.bL rfl) (aS _ rfl) d o
theorem fR.wZ{n:Nat}(u:Ev C g Ω f<|.val<|.type "range")(h:oD C g Ω d [.int a,.int b,.int c])(o:c≠0)(q:f9 (b-a) c=false)(e:eo a b c=aj)(v:bQ a b c=(n:Int)) (w:autoParam (∀env,(bb pos<|aw d env).any (·.1)=false) eX) (t:autoParam (∀env,eval (.Call f d [] pos) env=(do bS pos (<-eval f env) [] (bb pos<|aw d env) (bK pos<|aX [] env))) eX):fR C g Ω (.Call f d [] pos) (.Name x p)<|iI a c n:=λA G s y I S=>by
 refine pO y I S u (.type _) h (λE B D i j z=>?_) w t;cases z using aG.ca with|cons k r=>
  cases r using aG.ca with|cons l r=>
   cases r using aG.ca with|cons m r=>
    cases r;cases k;cases l;cases m
    exact call_range_3 o (rV (i.g4 _) (j.trans<|Ext.g4 ..) (aS _ rfl) e v)<|.inl q
noncomputable def m8(i:Nat):List T->List (List T)|[]=>[]|t::a=>[.int i,t]::m8 (i+1) a
theorem pd(i ts):(m8 i ts).length=ts.length:=by induction ts generalizing i with|nil=>rfl|cons t ts a=>exact congrArg (·+1)<|a<|i+1
theorem sJ(i k:Nat)(ts)(h:(m8 i ts)[k]?=ae x):∃t,ts[k]?=ae t/\x=[.int (i+k:Nat),t]:=by
 induction ts generalizing i k with
 |nil=>cases h
 |cons t ts a=>cases k with|zero=>exact⟨t,rfl,(bq h).symm⟩|succ k=>exact(a (i+1) k h).imp λu z=>⟨z.1,z.2.trans<|by rw[hW]⟩
theorem fR.enum(hf:Ev C Γ Ω f<|.val<|.type "enumerate")(h:oD C Γ Ω H [.list ts]) (R:autoParam (∀env,(bb pos<|aw H env).any (·.1)=false) eX) (he:autoParam (∀env,eval (.Call f H [] pos) env=(do bS pos (<-eval f env) [] (bb pos<|aw H env) (bK pos<|aX [] env))) eX):fR C Γ Ω (.Call f H [] pos) (.Tuple xs k p)<|(m8 0 ts).map .tuple:=λA G s ok I S=>by
 refine pO ok I S hf (.type _) h (λvs F c d N M=>?_) R he;cases M using aG.ca with|cons P r=>
  refine vH (P.listOf d) λl o n E q0 g ho hc hd M=>?_;subst q0;cases r
  haveI e:=M.length;simp only [aP] at e;have hl:c.heap.IsList l E:=⟨o,ho,hc,n,hd⟩;refine call_enumerate_list hl λL m u a3 Q=>wpAny_pyIter_enum m ?_;haveI D:=d.lt g;haveI P:c.heap.get? c.heap.objs.size=none:=aV<|al _;haveI h2:c.heap.get? (c.heap.objs.size+1)=none:=aV<|cB _;refine ix (id u) λoi ei ci di=>?_;have I2:Inv C.W F {c with heap:=L}:=⟨λa o e=>Q a o<|d.hM a o e,d.hb,d.bare,d.os⟩;haveI z:L.IsList l E:=⟨o,Q _ _ ho,hc,n,hd⟩;refine⟨F,JW F [c.heap.objs.size+1,c.heap.objs.size,l] [c.heap.objs.size+1,c.heap.objs.size] λi h=>(∃y,IsEnum h (c.heap.objs.size+1) c.heap.objs.size i y)/\h.IsListIter c.heap.objs.size l i/\h.IsList l E,lB L [c.heap.objs.size+1,c.heap.objs.size],?_⟩;haveI j:∀(i:Nat) (h),((∃y,IsEnum h (c.heap.objs.size+1) c.heap.objs.size i y)/\h.IsListIter c.heap.objs.size l i/\h.IsList l E)->∀b∈[c.heap.objs.size+1,c.heap.objs.size],∃o,h.get? b=ae o/\∀v,o.data≠.cell v:=λi h st=>fm (st.1.elim λ_ q=>⟨_,q,λ_=>iP⟩)<|fm (qB st.2.1) uR;have Wk:∀A,A.handled=ah->TP PP C.W.w A (c.heap.objs.size+1) _ _ ts.length _ _ _:=λA hh=>by
   haveI:=WalksT.enumerate (prog:=PP) (w:=C.W.w) hh (c.heap.objs.size+1) c.heap.objs.size l (Nat.succ_ne_self _) (bJ<|eY D) (bJ D) E;rwa[e] at this
  refine⟨I2,N.trans ⟨Q,λ_ _ e=>e,λ_ _=>.inl⟩,?_,?_,?_,by rw[iH];simp,?_⟩
  .refine rU F (by rw[pd];exact Wk) j λi vs t a2 hP ht hs=>?_;refine j7 hP λtk x hx q1=>?_;try clear hP;subst q1
   refine aU (sJ _ _ _ ht) λt' a0 q2=>?_;subst q2;refine aU (M.get a0) λv' B a1=>?_;rw[bN,hx] at B;cases B
   rw[jA];exact .cons (Tr.int _ _)<|.cons (a1.mono hs) .nil
  .exact sH ((Wk {A with handled:=ah} rfl).frame) ⟨⟨_,m⟩,u,z⟩ (λ_ _ e=>e) (fm (.inl<|.head _)<|fm (.inl<|.tail _<|.head _)<|fm (.inr ⟨_,g⟩) uR) I2.hM
  .exact sG (j 0 _ ⟨⟨_,m⟩,u,z⟩)<|fm (d.cL<|cB _)<|fm (d.cL<|al _) uR
  .intro p R;haveI:p.1∈(lB L [c.heap.objs.size+1,c.heap.objs.size]).map (·.1):=am.mpr ⟨p,R,rfl⟩;skip;exact fm (p:=λx=>s.heap.get? x=ah) (fH N.heap h2) (fm (fH N.heap P) uR) _ this
noncomputable def zX(N c d:cj)(e f:Array aW)(i:Nat)(h:lm):Prop:=IsZip h (N+4) (N+2) (N+3) .none/\IsPair h (N+2) (.ref N) (.ref<|N+1)/\(∃a b,IsPair h (N+3) a b)/\h.IsListIter N c i/\h.IsListIter (N+1) d i/\h.IsList c e/\h.IsList d f
theorem zX.live(i h)(st:zX N a c d e i h):∀b∈[N+4,N+3,N,N+1],∃o,h.get? b=ae o/\∀v,o.data≠.cell v:=fm ⟨_,st.1,λ_=>iP⟩<|fm (st.2.2.1.elim λ_ q=>q.elim λ_ q=>⟨_,q,λ_=>MV⟩)<|fm (qB st.2.2.2.1)<|fm (qB st.2.2.2.2.1) uR
theorem fR.zip(hf:Ev C Γ Ω f<|.val<|.type "zip")(h:oD C Γ Ω es [.list ts,.list us]) (hp:autoParam (∀env,(bb pos<|aw es env).any (·.1)=false) eX) (he:autoParam (∀env,eval (.Call f es [] pos) env=(do bS pos (<-eval f env) [] (bb pos<|aw es env) (bK pos<|aX [] env))) eX):fR C Γ Ω (.Call f es [] pos) (.Tuple xs k p)<|(fJ (λa b=>[a,b]) ts us).map .tuple:=λA G s ok I S=>by
 refine pO ok I S hf (.type _) h (λvs v u j M tv=>?_) hp he;cases tv using aG.ca with|cons h1 r=>
  cases r using aG.ca with|cons h2 r=>
  cases r
  refine vH (h1.listOf j) λm o1 n1 H z0 g1 a5 Q a0 a8=>?_;subst z0;refine vH (h2.listOf j) λn o2 n2 L z1 g2 a6 R a1 a9=>?_;subst z1;haveI e1:=a8.length;haveI e2:=a9.length;simp only [aP] at e1 e2;haveI b3:u.heap.IsList m H:=⟨o1,a5,Q,n1,a0⟩;have b4:u.heap.IsList n L:=⟨o2,a6,R,n2,a1⟩;refine call_zip_2 b3 b4 λz hz P b0 b1 b2 b8 B=>wpAny_pyIter_zip hz ?_;haveI b5:=j.lt g1;haveI b6:=j.lt g2;have d:∀k,u.heap.get? (u.heap.objs.size+k)=none:=λk=>aV<|bi _ _;have c:∀k,v (u.heap.objs.size+k)=none:=λk=>j.cL<|bi _ _;have a2:z.IsList m H:=⟨o1,B _ _ a5,Q,n1,a0⟩;have a3:z.IsList n L:=⟨o2,B _ _ a6,R,n2,a1⟩;generalize hN:u.heap.objs.size=N at*;haveI D:ZipApart (N+4) (N+2) (N+3) N (N+1) m n:=by haveI E:=b5;haveI F:=b6;exact⟨Yt<|dD tt,Yt<|dD tt,Ub,Yt<|dD tt,Yt<|dD tt,Ub.symm,Yt<|dD tt,Ub.symm,Yt<|dD tt,Ub,Yu E 4,Yu E 3,bJ E,Yu E 1,Yu F 4,Yu F 3,bJ F,Yu F 1⟩
  haveI I2:Inv C.W (v.add (N+2) {cls:=.type "tuple",data:=.seq #[.ref N,.ref (N+1)]}) {u with heap:=z}:=⟨λa o e=>by
   rcases Gh.ga e with⟨rfl,rfl⟩|e;.exact P
   .exact B a o<|j.hM a o e,λa o e=>Gh.dT (c 2) a o<|j.hb a o e,j.bare,j.os⟩;haveI g:∀k,k≠2->(v.add (N+2) {cls:=.type "tuple",data:=.seq #[.ref N,.ref (N+1)]}) (N+k)=none:=λk B=>by
   cases q:(v.add (N+2) {cls:=.type "tuple",data:=.seq #[.ref N,.ref (N+1)]}) (N+k) with|none=>rfl|some o=>
    rcases Gh.ga q with⟨q,_⟩|q;.exact absurd (jQ q) B
    .rw[c k] at q;cases q
  refine⟨v.add (N+2) {cls:=.type "tuple",data:=.seq #[.ref N,.ref (N+1)]},JW (v.add (N+2) {cls:=.type "tuple",data:=.seq #[.ref N,.ref (N+1)]}) [N+4,N+2,N+3,N,N+1,m,n] [N+4,N+3,N,N+1]<|zX N m n H L,lB z [N+4,N+3,N,N+1],?_⟩;haveI a4:(fJ (λa b=>[a,b]) ts us).length=min H.size L.size:=by rw[List.length_zipWith,e1,e2]
  have Wk:∀A,A.handled=ah->TP PP C.W.w A (N+4) _ _ (fJ (λa b=>[a,b]) ts us).length _ _ _:=λA hh=>by rw[a4];exact WalksT.zip2 hh (N+4) (N+2) (N+3) N (N+1) m n D H L
  have a7:zX N m n H L 0 z:=⟨hz,P,CN _ _ b0,b1,b2,a2,a3⟩;refine⟨I2,M.trans ⟨B,Gh.dT<|c 2,λa o e=>?_⟩,?_,?_,?_,by rw[iH];simp,?_⟩
  .rcases Gh.ga e with⟨rfl,rfl⟩|e;.exact .inr<|d 2
   .exact .inl e
  .refine rU _ Wk zX.live λi vs t b7 hP ht hs=>?_;refine gc hP λx y hx hy z2=>?_;try clear hP;subst z2
   haveI l:=λa o e=>hs a o<|Gh.dT (c 2) a o e;rw[Fs] at ht;obtain⟨t1,E,r1⟩:=a8.get' (k:=i) (by rw[bN];exact hx);obtain⟨t2,F,r2⟩:=a9.get' (k:=i) (by rw[bN];exact hy);rw[E,F] at ht;cases ht
   exact .cons (r1.mono l)<|.cons (r2.mono l) .nil
  .exact sH ((Wk {A with handled:=ah} rfl).frame) a7 (λ_ _ e=>e) (fm (.inl<|.head _)<|fm (.inr ⟨_,Gh.fD _ _ _⟩)<|fm (.inl<|.tail _<|.head _)<|fm (.inl<|.tail _<|.tail _<|.head _)<|fm (.inl<|.tail _<|.tail _<|.tail _<|.head _)<|fm (.inr ⟨_,Gh.dT (c 2) _ _ g1⟩)<|fm (.inr ⟨_,Gh.dT (c 2) _ _ g2⟩) uR) I2.hM
  .exact sG (zX.live 0 _ a7)<|fm (g 4<|dD tt)<|fm (g 3<|dD tt)<|fm (g 0<|dD tt)<|fm (g 1<|dD tt) uR
  .intro p hp;haveI:p.1∈(lB z [N+4,N+3,N,N+1]).map (·.1):=am.mpr ⟨p,hp,rfl⟩;skip;exact fm (p:=λx=>s.heap.get? x=ah) (fH M.heap<|d 4) (fm (fH M.heap<|d 3)<|fm (fH M.heap<|d 0)<|fm (fH M.heap<|d 1) uR) _ this
end
inductive eL:bM->cj->Ob->Ob->bM->Prop|here:eL ((a,b)::Ω) a b b'<|(a,b')::Ω|there:eL Ω a b b' bT->eL (p::Ω) a b b' (p::bT)
theorem eL.mem(p:eL Ω a b d bT):(a,b)∈Ω:=by induction p with|here=>exact bH|there _ c=>exact aY _ c
theorem eL.names(p:eL Ω a b c bT)(h:c.gT=b.gT):bT.map (λp=>(p.1,p.2.gT))=Ω.map (λp=>(p.1,p.2.gT)):=by induction p with|here=>simp[h]|there _ d=>rw[ax,ax,d h]
theorem eL.cases(p:eL Ω a b d bT)(c:(Ω.map (·.1)).Nodup):∀q∈bT,(q=(a,d))\/(q.1≠a/\q∈Ω):=by
 induction p with
 |here=>
  intro q h;rcases bf.mp h with e|h;.exact .inl e
  .refine .inr ⟨λe=>?_,aY _ h⟩;rw[ax,bV] at c;exact c.1<|am.mpr ⟨q,h,e⟩
 |there p f=>
  intro q h;rw[ax,bV] at c;refine eQ h ?_ λh=>?_
  .refine .inr ⟨λe=>?_,bH⟩;exact c.1<|am.mpr ⟨_,p.mem,e.symm⟩
  .exact(f c.2 q h).imp id λz=>⟨z.1,aY _ z.2⟩
section
theorem St.dU(S:St C Γ Ω G s)(p:eL Ω a b E bT)(n:b.gT=false)(u:E.gT=false)(w:∀c o,c≠a->s.heap.get? c=ae o->s'.heap.get? c=ae o)(R:∃o,s'.heap.get? a=ae o/\E.holds G o):St C Γ bT G s':=by
 refine sB (S.own _ p.mem) λL q0 N P=>aU q0 λo z A=>?_;haveI x:=N.imp id λh=>h.elim id λh=>by rw[n] at h;cases h
 haveI i:∀{c:cj} {v:Option aW},s.heap.IsCell c v->c≠a:=λq e=>by
  refine aU q λl j d=>?_;rw[e] at j;haveI:(a,b).1=a:=rfl;rw[show s.heap.get? a=ae o from z] at j;cases j
  exact Ob.jf A d
 have f:∀{c:cj} {v:Option aW},s.heap.IsCell c v->s'.heap.IsCell c v:=λq=>by haveI D:=i q;refine aU q λl j d=>⟨l,w _ _ D j,d⟩
 have g:∀{m:bC->Option aW},s.heap.Ns C.env.locals m->s'.heap.Ns C.env.locals m:=λzz=>Mp zz λl H F e r=>VV l H F (w _ _ (zw P) e) r;refine S.turn L w x S.nodup (λy t h=>?_) ((S.loc).casesOn λm h=>⟨m,g h⟩) (λy c h=>cc (S.cell y c h).2 λv q=>⟨v,f q⟩) (p.names<|by rw[n,u]) λq B=>?_
 .refine aU (S.vars y t h) λv hv W=>⟨v,?_,W⟩;rcases hv with⟨k,m,Q,e⟩|⟨k,c,M,e⟩;.exact .inl ⟨k,m,g Q,e⟩
  .exact .inr ⟨k,c,M,f e⟩
 .rcases p.cases S.hU q B with rfl|⟨D,B⟩;.exact R
  .refine gR (S.own q B) λ_ q1 _=>aU q1 λl j I=>⟨l,w _ _ D j,I⟩
theorem Inv.dU(h:Inv W G s)(S:St C g Ω G s)(m:(a,b)∈Ω)(f:∀c o,c≠a->s.heap.get? c=ae o->s'.heap.get? c=ae o)(d:s'.gens=s.gens)(e:s'.os=s.os):Inv W G s':=h.turn (S.own _ m).1 f d e
theorem St.append(S:St C u Ω G s)(B:Inv W G s)(p:eL Ω a (.list ts) (.list<|ts++[t]) bT)(m:Tr G v t)(k:ts.length<=aA) (h:∀s',Inv W G s'->St C u bT G s'->Q .none s'):aD W.M A (call (.builtin "list.append") [.ref a,v]) Q E s:=by refine sB (S.own _ p.mem) λx q0 y l=>?_;refine cc q0 λo q1=>?_;clear q0;refine bu q1 λd q2=>?_;clear q1;refine j7 q2 λz n q3 i=>?_;clear q2;subst q3;haveI e:=i.length;skip;refine wpAny_list_append_plain ⟨n,d⟩ (λw b f=>?_)<|AY k e;haveI g:=λc o r=>f.extBut c o r;refine cc b λq j=>h _ (B.dU S p.mem g rfl rfl)<|S.dU p rfl rfl g ⟨_,j,_,q,rfl,?_⟩;rw[tB];exact i.append<|.one m
theorem St.weak(S:St C a Ω G s)(b:Γ'.map (·.1)=a.map (·.1))(h:∀x t,(x,ae t)∈Γ'->(x,ae t)∈a):St C Γ' Ω G s:={S with nodup:=b▸S.nodup,vars:=λx t m=>S.vars x t<|h x t m}
theorem St.sub(S:St C a Ω G s)(h:bT.Sublist Ω):St C a bT G s:={S with own:=λp m=>S.own p<|h.subset m,hU:=S.hU.sublist<|h.map _}
theorem St.more(S:St C r Ω G s)(Δ)(g:(Δ.map (·.1)).Nodup)(c:∀p∈Δ,G p.1=ah)(h:∀p∈Δ,∃o,s.heap.get? p.1=ae o/\p.2.holds G o)(d:∀p∈Δ,C.I.s.heap.get? p.1=ah) (f:∀p∈Δ,p.1≠C.env.locals)(a:∀p∈Δ,∀q∈Ω,p.1≠q.1):St C r (Δ++Ω) G s:={S with
  own:=λp m=>by
   rcases bO.mp m with m|m;.exact⟨c p m,h p m,.inl<|d p m,f p m⟩
   .exact S.own p m
  hU:=by rw[aJ,dZ];refine⟨g,S.hU,λx i y j e=>?_⟩;refine aU (am.mp i) λp k n=>?_;subst n;refine aU (am.mp j) λq l b=>a p k q l<|e.trans b.symm}
theorem St.fresh(S:St C d Ω c b)(h:b.heap.get? a=ah):C.I.s.heap.get? a=ah\/a∈C.I.wr:=by
 by_cases q:a∈C.I.wr;.exact .inr q
 .refine .inl ?_;cases e:C.I.s.heap.get? a with|none=>rfl|some o=>rw[S.ext.heap a o e q] at h;cases h
theorem St.fresh_ne(S:St C f Ω c b)(h:b.heap.get? a=ah):a≠C.env.locals/\∀q∈Ω,a≠q.1:=by
 refine⟨?_,λq m=>?_⟩;.rintro rfl;refine y3 S.loc λ_ _ _ _ e _=>?_;rw[h] at e;cases e
 .rintro rfl;refine gR (S.own q m) λ_ d _=>aU d λo e _=>?_;rw[h] at e;cases e
noncomputable def i5(pins:A5):bM:=pins.map λp=>(p.1,.pin p.2)
theorem oM(pins):(i5 pins).map (·.1)=pins.map (·.1):=by unfold i5;rw[aE];rfl
theorem uW(S:St C e Ω G s)(h:∀p∈pins,(p.1,Ob.pin p.2)∈Ω):Pins G s pins:=λp m=>by refine gR (S.own _<|h p m) λa d _=>aU d λo b c=>?_;haveI:=c.1;subst this;exact⟨b,a,c.2⟩
theorem St.H9(S:St C Γ Ω G s)(t:Turn W x G s n s')(B:∀a∈x,∃o,(a,Ob.pin o)∈Ω)(D:(bT.map (·.1)).Nodup) (P:∀q∈bT,(q∈Ω/\q.1∉x)\/(q.1∈x/\n q.1=ah/\∃o,s'.heap.get? q.1=ae o/\q.2.holds n o)):St C Γ bT n s':=by
 haveI p:C.env.locals∉x:=λm=>by refine cc (B _ m) λo h=>(S.own _ h).2.2.2 rfl
 haveI l:∀{c:cj} {v:Option aW},s.heap.IsCell c v->c∉x:=λq m=>by
  refine cc (B _ m) λo h=>aU q λa0 A d=>gR (S.own _ h) λ_ q0 _=>aU q0 λj e c=>?_;rw[show s.heap.get? _=ae j from e] at A;cases A
  exact Ob.jf c d
 have f:∀{c:cj} {v:Option aW},s.heap.IsCell c v->s'.heap.IsCell c v:=λq=>by have ne:=l q;refine aU q λj A d=>⟨j,t.keep _ _ ne A,d⟩
 have i:∀{m:bC->Option aW},s.heap.Ns C.env.locals m->s'.heap.Ns C.env.locals m:=λzz=>Mp zz λj M L e r=>VV j M L (t.keep _ _ p e) r;have g:∀{a:cj} {o:uJ},G a=ah->s.heap.get? a=ae o->n a=none:=λ{a o} h e=>by
  cases q:n a with|none=>rfl|some j=>
   refine dy (t.new a j q) (λz=>?_) λz=>?_;.rw[h] at z;cases z
   .rw[e] at z;cases z
 refine{kind:=S.kind,glob:=S.glob,blt:=S.blt,nodup:=S.nodup,vars:=λy u h=>?_,loc:=(S.loc).casesOn λm h=>⟨m,i h⟩,rR:=?_,cell:=λy c h=>?_,apart:=S.apart,dY:=S.dY,own:=λq mq=>?_,hU:=D,ext:=?_}
 .refine aU (S.vars y u h) λv R Q=>⟨v,?_,Q.mono t.sub⟩;rcases R with⟨k,m,D,e⟩|⟨k,c,N,e⟩;.exact .inl ⟨k,m,i D,e⟩
  .exact .inr ⟨k,c,N,f e⟩
 .refine y3 S.loc λ_ _ _ _ e _=>g S.rR e
 .refine bu (S.cell y c h) λa q1=>cc q1 λv q=>?_;have q':=f q;refine aU q λo e _=>⟨g a e,v,q'⟩
 .rcases P q mq with⟨h,nw⟩|⟨h,a,b⟩;.refine gR (S.own q h) λa q2 d=>aU q2 λo e c=>⟨g a e,⟨o,t.keep _ _ nw e,Ob.lz t.sub c⟩,d⟩
  .refine cc (B _ h) λo E=>?_;(haveI F:=(S.own _ E).2.2.1;haveI H:=(S.own _ E).2.2.2);refine⟨a,b,?_,H⟩;rcases F with d|d|d;.exact .inl d
   .exact .inr<|.inl d
   .cases d
 .refine⟨λa o e w=>?_,λa o e=>t.sub a o<|S.ext.sub a o e,λa o e=>?_⟩
  .refine t.keep a o (λm=>?_)<|S.ext.heap a o e w;refine cc (B _ m) λj h=>?_;(haveI d:=(S.own _ h).2.2.1);rcases d with d|d|d;.haveI d:C.I.s.heap.get? a=none:=d;rw[d] at e;cases e
   .exact w d
   .cases d
  .rcases t.new a o e with z|z;.exact S.ext.new a o z
   .refine .inr ?_;by_cases q:a∈C.I.wr;.exact .inr q
    .refine .inl ?_;cases e:C.I.s.heap.get? a with|none=>rfl|some j=>rw[S.ext.heap a j e q] at z;cases z
theorem w3(b:((Δ++(i5 pins++Ω)).map (·.1)).Nodup):∀q,(q∈Δ\/q∈Ω)->q.1∉pins.map (·.1):=λq a m=>by
 rw[aJ,aJ,oM,dZ] at b;(haveI c:=b.2.1;haveI d:=b.2.2);rw[dZ] at c;refine dy a (λa=>?_) λa=>?_;.exact d q.1 (am.mpr ⟨q,a,rfl⟩) q.1 (bp _ m) rfl
 .exact c.2.2 q.1 m q.1 (am.mpr ⟨q,a,rfl⟩) rfl
theorem U_:∀a∈pins.map (·.1),∃o,(a,Ob.pin o)∈Δ++(i5 pins++Ω):=λa m=>g7 m λp b=>⟨p.2,av _<|bp _<|am.mpr ⟨p,b,rfl⟩⟩
theorem St.CX(S:St C k (Δ++(i5 pins++Ω)) G s)(t:Turn W (pins.map (·.1)) G s e s')(d:Pins e s' a)(f:a.map (·.1)=pins.map (·.1)):St C k (Δ++(i5 a++Ω)) e s':=by
 haveI b:=w3 S.hU;refine S.H9 t U_ (by haveI:=S.hU;rw[aJ,aJ,oM] at this⊢;rw[f];exact this) λq j=>?_;rcases bO.mp j with m|m;.exact .inl ⟨bp _ m,b q<|.inl m⟩
 .refine dy (bO.mp m) (λm=>?_) λm=>?_
  .refine g7 m λp c=>?_;(haveI g:=(d p c).1;haveI h:=(d p c).2.1;haveI i:=(d p c).2.2);exact .inr ⟨f▸am.mpr ⟨p,c,rfl⟩,h,_,g,rfl,i⟩
  .exact .inl ⟨av _<|av _ m,b q<|.inr m⟩
theorem St.w4(S:St C e (Δ++(i5 pins++Ω)) G s)(t:Turn W (pins.map (·.1)) G s c s'):St C e (Δ++Ω) c s':=by
 haveI a:=w3 S.hU;haveI b:(Δ++Ω).Sublist<|Δ++(i5 pins++Ω):=oF (zx _)<|nH _ _;refine S.H9 t U_ (S.hU.sublist<|b.map _) λq d=>?_;rcases bO.mp d with m|m;.exact .inl ⟨bp _ m,a q<|.inl m⟩
 .exact .inl ⟨av _<|av _ m,a q<|.inr m⟩
inductive sK(C:Cx):cG->List gw->List T->cG->Prop|nil {Γ:cG}:sK C Γ [] [] Γ|cons {Γ Γ' CY:cG} {x:bC} {p:Pos} {t:T} {es:List gw} {ts:List T}:x∈C.dY->oC Γ x t Γ'->sK C Γ' es ts CY->sK C Γ (.Name x p::es) (t::ts) CY
inductive CD(C:Cx):cG->gw->T->cG->Prop|name:x∈C.dY->oC Γ x t Γ'->CD C Γ (.Name x p) t Γ'|tuple:sK C Γ es ts Γ'->CD C Γ (.Tuple es k p) (.tuple ts) Γ'
theorem sK.run(b:sK C j e ts Γ'):∀{s:bk} {a:List aW} {Q:Unit->bk->Prop},St C j Ω G s->Inv W G s->aG G a ts->(∀s',St C Γ' Ω G s'->Inv W G s'->Q () s')->aD W.M A (HD ((ow e C.env).map (·.2)) a) Q E s:=by induction b with|nil=>intro s a Q S k h q;cases h;exact HE<|q s S k|cons g f b i=>intro s a Q S k h q;cases h using aG.ca with|cons h r=>refine HF<|yA<|S.store k g f h λs' c d _=>?_;exact i c d r q
theorem sK.len(b:sK C f a ts Γ'):(ow a C.env).length=ts.length/\List.findIdx? (λx=>x.1) (ow a C.env)=none:=by induction b with|nil=>exact⟨rfl,rfl⟩|@cons f Γ' d x p t a ts h g b c=>haveI e:ow (.Name x p::a) C.env=(false,tC (.Name x p) C.env)::ow a C.env:=rfl;rw[e];exact⟨by simp[c.1],by simp[Ju,c.2]⟩
theorem CD.run(i:A.handled=ah)(b:CD C p e t Γ')(S:St C p Ω G s)(u:Inv W G s)(h:Tr G v t) (q:∀s',St C Γ' Ω G s'->Inv W G s'->Q () s'):aD W.M A (tC e C.env v) Q E s:=by cases b with|name m k=>exact yA<|S.store u m k h λs' d f _=>q s' d f|tuple b=>refine gc (h.jY u) λa r n l c=>?_;subst n;haveI e:=c.length;simp only [aP] at e;refine wpAny_assign_Tuple i l (by rw[b.len.1,e]) b.len.2 λg j=>?_;have w:Ext G s G {s with heap:=g}:=⟨λa o e=>j a o (bJ<|db e) e,λ_ _ e=>e,λ_ _=>.inl⟩;exact b.run (S.mono w) ⟨λa o e=>w.heap a o<|u.hM a o e,u.hb,u.bare,u.os⟩ c q
end
theorem uX(names)(h:lm)(a:List<|bC×cj)(b:a.Pairwise λx y=>x.2≠y.2)(d:∀p∈a,p.2<h.objs.size):((qx h.objs.size names a).Pairwise λx y=>x.2≠y.2)/\∀p∈qx h.objs.size names a,p∈a\/(h.objs.size<=p.2/\(tV h names).IsCell p.2 ah):=by
 induction names generalizing h a with|nil=>exact⟨b,λp m=>.inl m⟩|cons x r f=>
  show(List.Pairwise _<|if(x.2==.cell)=aj then _ else _)/\∀p∈(if(x.2==.cell)=aj then _ else _),_\/(_/\Heap.IsCell (if(x.2==.cell)=aj then _ else _) _ _);by_cases c:(x.2==.cell)=aj;.rw[if_pos c,if_pos c];have e:(h.push {cls:=.type "cell",data:=.cell ah}).objs.size=h.objs.size+1:=e_ ..;have z:=f (h.push {cls:=.type "cell",data:=.cell ah}) ((x.1,h.objs.size)::a) (.cons (λy g=>eJ<|d y g) b) λp m=>e▸eQ m (cb _) λm=>eY<|d p m;rw[e] at z;exact⟨z.1,λp m=>(z.2 p m).elim (λz=>eQ z (.inr ⟨al _,_,nq r _ _ _<|aS _ rfl,rfl⟩) .inl) λz=>.inr ⟨d_ z.1,z.2⟩⟩
  .rw[if_neg c,if_neg c];exact f h a b d
noncomputable def dK(C:Cx)(a:Ft)(cl:List<|bC×cj)(dY:List bC)(L:cj)(I:zT):Cx:=⟨C.W,C.n,compEnvC a (qx (L+1) a.names cl) L C.env,dY,I⟩
inductive w5(C)(Γ:cG)(scope cl dY):cG->Prop|nil:w5 C Γ scope cl dY []|own:w5 C Γ scope cl dY Δ->w5 C Γ scope cl dY ((x,ah)::Δ)|cap:(x,ae t)∈Γ->(C.env.kindOf x==ae .local)=false->(∀L I,(dK C scope cl dY L I).env.kindOf x=ae .cell)->(∀L I,(dK C scope cl dY L I).env.cells.lookup x=C.env.cells.lookup x)->w5 C Γ scope cl dY Δ->w5 C Γ scope cl dY ((x,ae t)::Δ)
structure jz(C:Cx)(Γ scope cl dY)(U':cG):Prop where
 clos:Fu scope C.env=bB cl
 kind:scope.kind=.function
 names:∀x∈scope.names,x.2=.local->scope.names.lookup x.1=ae .local
 stores:∀L I,∀x∈dY,(dK C scope cl dY L I).env.kindOf x=ae .local\/((dK C scope cl dY L I).env.kindOf x=ae .cell/\∃c,(dK C scope cl dY L I).env.cells.lookup x=ae c/\L<c)
 RC:∀p∈cl,C.env.cells.lookup p.1=ae p.2
 Î:(cl.map (·.1)).Nodup
 nodup:(U'.map (·.1)).Nodup
 caps:w5 C Γ scope cl dY U'
theorem w5.get(c:w5 C j a cl dY d):∀x t,(x,ae t)∈d->(x,ae t)∈j/\C.env.kindOf x≠ae .local/\∀L I,(dK C a cl dY L I).env.kindOf x=ae .cell/\(dK C a cl dY L I).env.cells.lookup x=C.env.cells.lookup x:=by
 induction c with
 |nil=>intro x t m;exact absurd m b_|own _ b=>
  intro x t m;rcases bf.mp m with e|m;.exact sN<|congrArg tQ e
  .exact b x t m
 |cap g f h i _ b=>
  intro x t m;rcases bf.mp m with e|m
  .cases e
   exact⟨g,λq=>by rw[q] at f;exact tF f,λL I=>⟨h L I,i L I⟩⟩
  .exact b x t m
section
theorem F5(k:jz C Γ scope cl dY P)(S:St C Γ Ω G s)(i:Inv C.W g f)(X:Ext G s g f) (h:∀L s',Inv C.W g s'->Ext g f g s'->L=f.heap.objs.size->St (dK C scope cl dY L ⟨G,s,[]⟩) P (Ω.map λp=>(p.1,p.2.CV)) g s'->Q {(newEnv scope L C.env.globals (qx (L+1) scope.names cl) C.env.qual ah .none (ae C.env) 0) with scope:=scope} s'):aD C.W.M A (oy scope C.env.globals cl [] C.env.qual ah .none<|ae C.env) Q E f:=by
 haveI z:=S.mono X;simp only [oy,Option.isSome_some,if_true];refine aa<|AN ?_;refine aa<|aeU _ (λa0 kind H=>by cases a1:kind==wK<;>simp) _ _ _ _ ?_;rw[show({f with heap:=f.heap.push {cls:=.type "dict",data:=.dict #[]}}:bk).heap.objs.size=f.heap.objs.size+1 from e_ ..];dsimp only;refine aa<|ag<|ag ?_;haveI hs:(f.heap.push {cls:=.type "dict",data:=.dict #[]}).objs.size=f.heap.objs.size+1:=e_ ..;have w:∀b o,f.heap.get? b=ae o->(tV (f.heap.push {cls:=.type "dict",data:=.dict #[]}) scope.names).get? b=ae o:=λb o e=>nq _ _ b o<|aN _ e;have B:Ext g f g {f with heap:=tV (f.heap.push {cls:=.type "dict",data:=.dict #[]}) scope.names}:=⟨w,λ_ _ e=>e,λ_ _=>.inl⟩;haveI r:=z.mono B;haveI y:=λp m=>by refine bu (z.cell p.1 p.2<|k.RC p m) λ_ y0=>cc y0 λv q=>aU q λo e _=>db e
 have I:=uX scope.names (f.heap.push {cls:=.type "dict",data:=.dict #[]}) cl (by
   haveI j:=k.RC;haveI u:=k.Î;skip;revert j u;generalize cl=l;intro j u;induction l with|nil=>exact pA|cons p l ih=>
    rw[ax,bV] at u;refine List.pairwise_cons.mpr ⟨λq F e=>?_,ih (λq m=>j q<|aY _ m) u.2⟩;haveI e1:=mem_of_lookup<|j p bH;haveI R:=mem_of_lookup<|j q<|aY _ F;rw[<-e] at R;haveI:=ahM S.apart e1 R;exact u.1<|am.mpr ⟨q,F,this.symm⟩) λp m=>by rw[hs];exact eY<|y p m
 rw[hs] at I;haveI n:=fH X.heap<|aV<|al _;refine h _ _ ⟨λa o e=>w a o<|i.hM a o e,i.hb,i.bare,i.os⟩ B rfl ?_;haveI D:∀x c,(qx (f.heap.objs.size+1) scope.names cl).lookup x=ae c->g c=ah/\(∃v,(tV (f.heap.push {cls:=.type "dict",data:=.dict #[]}) scope.names).IsCell c v):=λx c e=>by
  rcases I.2 _ (mem_of_lookup e) with m|⟨z1,z2⟩;.refine bu (r.cell x c<|k.RC _ m) λa y1=>cc y1 λv q=>⟨a,v,q⟩
  .exact⟨i.cL<|d_ z1,_,z2⟩
 refine{kind:=k.kind,glob:=S.glob,blt:=S.blt,nodup:=k.nodup,vars:=λx t m=>?_,loc:=⟨_,(Q1 f.heap<|.type "dict").keeps<|nq _ _⟩,rR:=i.cL<|al _,cell:=D,apart:=I.1,dY:=λx m=>?_,own:=λp m=>?_,hU:=?_,ext:=⟨λa o e _=>w a o<|X.heap a o e,X.sub,λa o e=>(X.new a o e).imp id .inl⟩}
 ·(haveI m1:=(k.caps.get x t m).1;haveI m2:=(k.caps.get x t m).2.1;haveI m3:=(k.caps.get x t m).2.2);refine aU (r.vars x t m1) λv N ht=>?_;(haveI q0:=m3 f.heap.objs.size ⟨G,s,[]⟩;haveI q1:=q0.1;haveI q2:=q0.2);refine⟨v,?_,ht⟩;rcases N with⟨kk,_⟩|⟨kk,c,hc,N⟩;.exact absurd kk m2
  .exact .inr ⟨.inl q1,c,q2.trans hc,N⟩
 .rcases k.stores f.heap.objs.size ⟨G,s,[]⟩ x m with q|⟨q,c,e,l⟩;.exact .inl ⟨q,n⟩
  .refine .inr ⟨q,c,e,?_⟩;haveI e':=e;refine fH X.heap<|aV ?_;exact aF l
 .refine g7 m λq F=>sB (r.own q F) λa y2 _ d=>aU y2 λo e b=>⟨a,⟨o,e,Ob.wV b⟩,.inr<|.inr<|Ob.zS _,?_⟩;exact(S.fresh_ne n).2 q F|>.symm
 .rw[aE];exact S.hU
noncomputable def A6(C:Cx)(e:cG)(Ω:bM)(a:List gw)(b:Bool):Prop:=∀A G s,Ok A C.n->Inv C.W G s->St C e Ω G s->Run C.W A (Fo a aj λc r=>if r=aj then do let d<-isTrue c C.env (eval c C.env);bB (FN d) else bB (FN r)) G s (λd _ _=>d=b)
theorem A6.nil:A6 C b Ω [] true:=λA G s a I S=>YH ⟨G,I,.refl G s,rfl⟩
theorem A6.one(h:pz C c Ω e b):A6 C c Ω [e] b:=λA G s a I S=>wpAny_tests_one<|h A G s a I S
noncomputable def F6(C:Cx)(g:cG)(Ω:bM)(h:aW->Js Fin->Js Fin)(c:List T):Prop:=∀A G s d b (k) (Q) (E),Ok A C.n->Inv C.W G s->St C g ((d,.list b)::Ω) G s->b.length+c.length<=aA->(∀e f,Inv C.W e f->(∀a x,G a=ae x->e a=ae x)->St C g ((d,.list (b++c))::Ω) e f->aD C.W.M A k Q E f)->aD C.W.M A (h (.ref d) k) Q E s
noncomputable def Clause(C:Cx)(j:cG)(Ω:bM)(a:gw)(h:List gw)(k:aW->Js Fin->Js Fin)(ts:List T)(d:List<|List T):Prop:=d.length=ts.length/\∀(i:Nat) (t) (o),ts[i]?=ae t->d[i]?=ae o->∃c b,CD C j a t c/\(∀x t,(x,ae t)∈j->(x,ae t)∈c)/\∀e,(∀p∈Ω,p∈e)->(∀g f,A6 C c ((g,.list f)::e) h b)/\(b=aj->F6 C c e k o)/\(b=false->o=[])
theorem sK.names(b:sK C c d ts Γ'):Γ'.map (·.1)=c.map (·.1):=by induction b with|nil=>rfl|cons _ p _ a=>rw[a,p.names]
theorem CD.names(b:CD C a e t Γ'):Γ'.map (·.1)=a.map (·.1):=by cases b with|name _ p=>exact p.names|tuple b=>exact b.names
inductive ŕ(C Γ)(Ω:bM)(acc l)(J:Nat->A5->Gh->Prop)(ob:Nat->Ob->Prop)(fin)(R:LF->bk->Prop)(k s):Prop|mk (i) (pins) (G) (b) (e:l-i=k) (hi:i<=l) (hJ:J i pins G) (hI:Inv C.W G s) (hb:ob i b) (hS:St C Γ ((acc,b)::(i5 pins++Ω)) G s) (hR:∀G' s',Inv C.W G' s'->(∀a x,G a=ae x->G' a=ae x)->St C Γ ((acc,fin)::Ω) G' s'->R (.ok .next) s')
theorem zY{K:aW->Js Fin}(ob:Nat->Ob->Prop) (a7:tD e d B (.ref f) C.env=(do
   fy pos
   match<-l8 B with
   |none=>bB (.done .next)
   |some v=>
    dW u B v
    K v)) (io:F3 C.W u B ts J)(ok:Ok A C.n) (a1:∀i t b v G s pins (Q:Fin->bk->Prop),ts[i]?=ae t->ob i b->Inv C.W G s->St C Γ ((f,b)::(i5 pins++Ω)) G s->Tr G v t->(∀b' j s',ob (i+1) b'->Inv C.W j s'->(∀a x,G a=ae x->j a=ae x)->St C Γ ((f,b')::(i5 pins++Ω)) j s'->Q (.again<|.compLoop e d B (.ref f) C.env) s')->aD C.W.M A (K v) Q (λ_ _=>False) s) (w:∀b,ob ts.length b->b=L)(hi:i<=ts.length)(S:J i pins G)(N:Inv C.W G s)(hb:ob i b)(E:St C Γ ((f,b)::(i5 pins++Ω)) G s) (hR:∀j s',Inv C.W j s'->(∀a x,G a=ae x->j a=ae x)->St C Γ ((f,L)::Ω) j s'->R (.ok .next) s') (hd:autoParam (C.W.M.den (.compLoop e d B (.ref f) C.env)=(tD e d B (.ref f) C.env).onRaise (λx=>do noteFrame x C.env;theTreesLotGoes x)) iF)(hu:autoParam (A.under (.compLoop e d B (.ref f) C.env)=A) iF):gU C.W.M A (.compLoop e d B (.ref f) C.env) R s:=by
 refine codeAny_loop rfl (ŕ C Γ Ω f ts.length J ob L R) ?_ (ts.length-i) ⟨i,pins,G,b,rfl,hi,S,N,hb,E,hR⟩;clear hi S N hb E hR i pins G s b;intro k s h;obtain⟨i,pins,G,b,rfl,hi,S,N,hb,E,hR⟩:=h;rw[hd,hu,a7];refine wpAny_noted ?_;have l:=uW E λp m=>aY _<|bp _<|am.mpr ⟨p,m,rfl⟩;by_cases q:i<ts.length;.haveI ht:=ay q;refine aa<|cF<|aa<|aC (io.item A i _ G s pins ok.hd ht N S l) (λr D g=>?_) λ_ _ z=>z.elim;obtain⟨v,g⟩:=g;skip;refine aa<|aC g (λ_ a3 a0=>?_) λ_ _ z=>z.elim;obtain⟨j,o,T,P,hn,a5,hv⟩:=a0;refine aC (a1 i _ b v j a3 o _ ht hb T.inv (E.CX (Δ:=[(f,b)]) T P hn) hv λb' F a9 a6 H a2 I=>?_) (λ_ _ z=>z) λ_ _ z=>z.elim;exact⟨rfl,ts.length-(i+1),Zk q,i+1,o,F,b',rfl,q,io.mono _ _ _ _ a2 a5,H,a6,I,λa4 s' a c=>hR a4 s' a λx y e=>c x y<|a2 x y<|T.sub x y e⟩
 .have a8:=Zl hi q;subst a8;refine aa<|cF<|aa<|aC (io.done A G s pins ok.hd N S l) (λr D g=>?_) λ_ _ z=>z.elim;obtain⟨j,T⟩:=g;skip;haveI e:=w b hb;subst e;exact ag<|hR j D T.inv T.sub<|E.w4 (Δ:=[(f,b)]) T
theorem uY{a2:gw} (a5:∀g,tD (.ListComp D o j pos) d H g C.env=(do
   fy a2.pos
   match<-l8 H with
   |none=>bB (.done .next)
   |some v=>
    dW h H v
    tC h C.env v
    let mut r:=aj
    for c in b0 do
     if r then r<-isTrue c C.env (eval c C.env)
    if r then X g (oz<|.compLoop (.ListComp D o j pos) d H g C.env) else oz (.compLoop (.ListComp D o j pos) d H g C.env))) (io:F3 C.W h H ts J)(cl:Clause C Γ Ω h b0 X ts l)(r:Ok A C.n)(i pins G s f)(hi:i<=ts.length)(hJ:J i pins G)(hI:Inv C.W G s)(hS:St C Γ ((g,.list f)::(i5 pins++Ω)) G s) (hsz:f.length+(l.drop i).flatten.length<=aA) (hR:∀G' s',Inv C.W G' s'->(∀a x,G a=ae x->G' a=ae x)->St C Γ ((g,.list (f++(l.drop i).flatten))::Ω) G' s'->R (.ok .next) s'):gU C.W.M A (.compLoop (.ListComp D o j pos) d H (.ref g) C.env) R s:=by
 rw[<-aM] at hsz;generalize a6:f++(l.drop i).flatten=fl at hsz hR;refine zY (λi b=>∃f,b=.list f/\f++(l.drop i).flatten=fl) (a5 _) io r (λi t b v G s pins Q ht E hI hS hv hQ=>?_) (λb E=>?_) hi hJ hI ⟨f,rfl,a6⟩ hS hR;.have a0:=cl.1▸(List.getElem?_eq_some_iff.mp ht).1;refine aU E λf z0 y=>?_;clear E;subst z0;refine gc (cl.2 i _ _ ht<|ay a0) λb2 b E q F=>?_;rw[jC a0,eT,<-bW] at y;refine aa<|E.run r.hd hS hI hv λa3 m N=>?_;(haveI a7:=(F (i5 pins++Ω) λp=>av _).1;haveI a8:=(F (i5 pins++Ω) λp=>av _).2.1;haveI a9:=(F (i5 pins++Ω) λp=>av _).2.2);refine aa<|aC (a7 g f A G a3 r N m) (λb1 B a1=>?_) λ_ _ z=>z.elim;obtain⟨u,w,k,rfl⟩:=a1;cases b1 with|false=>rw[a9 rfl,bD] at y;exact ag<|hQ _ u B ⟨f,rfl,y⟩ w k.sub<|(m.mono k).weak E.names.symm q|true=>haveI e:=congrArg mm y;rw[aM] at e;refine a8 rfl A u B g f _ _ _ r w (m.mono k) (by rw[<-aM];exact ab (bi ..)<|ab (aH e) hsz) λL a4 P I S=>ag<|hQ _ L a4 ⟨_,rfl,y⟩ P (λa x e=>I a x<|k.sub a x e)<|S.weak E.names.symm q
 .refine aU E λf q1 y=>?_;subst q1;rw[<-cl.1,vz] at y;exact congrArg Ob.list<|(bD _).symm.trans y
noncomputable def F7(b:gw)(env:Env)(a:aW)(k:Js Fin):Js Fin:=(do let _<-call (.builtin "list.append") [a,<-eval b env])>>=λ(_)=>k
theorem F6.out(h:∀c a,Ev C q ((c,.list a)::Ω) g t):F6 C q Ω (F7 g C.env) [t]:=λA G s c a k Q E o I S i n=>by
 refine aa<|aa<|Run.use (h c a A G s o I S) λv j d e b f=>?_;refine aa<|(S.mono b).append e .here f (by simp at i;exact(aF i)) λp l m=>ag<|n d p l b.sub m
theorem y5{W:Wd}(h:gU W.M A (.compLoop (.ListComp d [⟨n,i1,i,0⟩,⟨o,f,j,0⟩] a pos) 1 b c env) R s) (hs:∀Q:aW->bk->Prop,Q b s->aD W.M A (rn b) Q (λ_ _=>False) s):gU W.M A (.compStart (.ListComp d [⟨n,i1,i,0⟩,⟨o,f,j,0⟩] a pos) 1 b c env) R s:=by
 refine h6 ?_;skip;refine wpAny_notedAt ?_;skip;skip;refine aa<|mS<|Jv ?_;split;.exact aa<|ag<|ag<|And.intro rfl h
 .refine aa<|iB ?_;show aD _ _ (fy f.pos>>=_) _ _ s;exact aa<|cF<|aa<|aC (hs (λv g=>v=b/\g=s) ⟨rfl,rfl⟩) (λk g e=>by refine bu e λl m=>?_;try clear e;subst l;subst m;exact ag<|And.intro rfl h) λ_ _ x=>x.elim
noncomputable def CZ(d g i1 h b:gw)(e f:List gw)(a:Ft)(pos:Pos)(env:Env)(c:aW)(k:Js Fin):Js Fin:=do
 let x<-eval b env
 fy b.pos
 let x<-bm b env x
 let _<-runOwn (.compStart (.ListComp d [⟨g,i1,e,0⟩,⟨h,b,f,0⟩] a pos) 1 (<-gy [x] (rn x)) c env) env
 k
theorem C0(d f i1 g a pos e b env):tD (.ListComp d [⟨f,i1,g,0⟩] a pos) 0 e b env=(do
   fy i1.pos
   match<-l8 e with
   |none=>bB (.done .next)
   |some v=>
    dW f e v
    tC f env v
    let mut h:=aj
    for c in g do
     if h then h<-isTrue c env (eval c env)
    if h then F7 d env b (oz<|.compLoop (.ListComp d [⟨f,i1,g,0⟩] a pos) 0 e b env) else oz (.compLoop (.ListComp d [⟨f,i1,g,0⟩] a pos) 0 e b env)):=rfl
theorem zZ(d e i1 j i f h a pos g b env):tD (.ListComp d [⟨e,i1,f,0⟩,⟨j,i,h,0⟩] a pos) 0 g b env=(do
   fy i1.pos
   match<-l8 g with
   |none=>bB (.done .next)
   |some v=>
    dW e g v
    tC e env v
    let mut k:=aj
    for c in f do
     if k then k<-isTrue c env (eval c env)
    if k then CZ d e i1 j i f h a pos env b (oz<|.compLoop (.ListComp d [⟨e,i1,f,0⟩,⟨j,i,h,0⟩] a pos) 0 g b env)
     else oz (.compLoop (.ListComp d [⟨e,i1,f,0⟩,⟨j,i,h,0⟩] a pos) 0 g b env)):=rfl
theorem St.H_(S:St C u Ω G s)(N:M5 C.W i ts G s v g h w pins):St C u (i5 pins++Ω) g h:=by
 have d:=S.mono N.ext;haveI j:∀q∈i5 pins,∃p∈pins,q=(p.1,.pin p.2):=λq m=>by refine aU (am.mp m) λp f o=>?_;subst o;exact⟨p,f,rfl⟩
 refine{d with own:=λq m=>?_,hU:=?_}
 .rcases bO.mp m with m|m;.refine aU (j q m) λp f r=>?_;subst r;(haveI a:=(N.pinned p f).1;haveI b:=(N.pinned p f).2.1;haveI c:=(N.pinned p f).2.2);refine⟨b,⟨p.2,a,rfl,c⟩,(S.fresh<|N.fresh p f).imp id .inl,(S.fresh_ne<|N.fresh p f).1⟩
  .exact d.own q m
 .rw[aJ,oM,dZ];refine⟨N.nodup,d.hU,λx k y l e=>?_⟩;refine aU (am.mp k) λp f t=>?_;subst t;subst e;refine aU (am.mp l) λq n e=>(S.fresh_ne<|N.fresh p f).2 q n e.symm
theorem F6.more(v:∀d b,fR C u ((d,.list b)::Ω) w B ts)(cl:Clause C u Ω B D (F7 n C.env) ts t)(hf:∀x,bm w C.env x=bB x):F6 C u Ω (CZ n t1 i1 B w W D i pos C.env) t.flatten:=λA G s d b k Q E y I S hs hk=>by
 refine aa<|aC (v d b A G s y I S) (λx F o=>?_) λ_ _ z=>z.elim;refine aa<|cF<|aa<|bP (hf x)<|aa<|aQ<|aC o (λit g r=>?_) λ_ _ z=>z.elim;obtain⟨f,J,c,N⟩:=r;haveI h:St C u (i5 c++((d,.list b)::Ω)) f g:=S.H_ N;haveI l:St C u ((d,.list b)::(i5 c++Ω)) f g:={h with
   own:=λq m=>h.own q<|by
    refine eQ m ?_ λm=>?_;.exact av _ bH
    .refine dy (bO.mp m) (λm=>?_) λm=>?_;.exact bp _ m
     .exact av _<|aY _ m
   hU:=by
    have:=h.hU;haveI p:(i5 c++((d,Ob.list b)::Ω)).Perm<|(d,Ob.list b)::(i5 c++Ω):=oG;exact((p.map (·.1)).nodup_iff).mp this};refine aa<|wpAny_runOwn<|y5 ?_ λP=>N.ok.self A 0 f g c y.hd N.inv N.j N.pinned P;refine uY (λd=>rfl) N.ok cl y 0 c f g b (au _) N.j N.inv l (by simpa using hs) λL s' M H R=>hk L s' M (λa x e=>H a x<|N.ext.sub a x e) ?_;simpa using R
end
section
noncomputable def vN(Ω:bM):bM:=Ω.map λp=>(p.1,p.2.CV)
theorem M8(W:Wd):∃o,W.h.get? f_=ae o:=by
 haveI:W.K.lookup f_=ae ⟨.type "dict",ah,.dict #[ent W.w.params "builtins" 162 (.ref 4),ent W.w.params "__main__" 163 (.ref 5)] 2,#[]⟩:=by kernel_rfl
 exact⟨_,W.base.k _ _ this⟩
theorem Inv.sL(I:Inv W G s)(h:G a=ah):(a==f_)=false:=by rw[beq_eq_false_iff_ne];rintro rfl;refine cc (M8 W) λo e=>?_;rw[I.hb _ _ e] at h;cases h
theorem Gh.A7{G:Gh}(h:G b=ah)(c:b≠a):G.add a o b=none:=by unfold Gh.add;rw[if_neg c];exact h
theorem C7 (k:jz C Γ d cl dY B)(b7:fR C Γ Ω g.iter t1 ts)(b6:clausesOf e=g::gs)(hf:∀x,bm g.iter C.env x=bB x) (a6:∀s (Q:aW->bk->Prop),Q (.ref s.heap.objs.size) {s with heap:=s.heap.push o0}->aD C.W.M A b9 Q E s)(a5:o0.isFreed=false)(b5:∀G,b0.holds G o0) (a0:∀y b env (R:LF->bk->Prop) s,gU C.W.M A (.compLoop e 0 y b env) R s->aD C.W.M A (rn y) (λa9 s'=>gU C.W.M A (.compLoop e 0 a9 b env) R s') (notedBy C.W.M A env λx s'=>R (.error x) s') s->gU C.W.M A (.compStart e 0 y b env) R s) (b2:∀L I y J pins G s b (R:LF->bk->Prop),F3 C.W t1 y ts J->J 0 pins G->Inv C.W G s->St (dK C d cl dY L I) B ((b,b0)::(i5 pins++vN Ω)) G s->(∀l s',Inv C.W l s'->St (dK C d cl dY L I) B ((b,b1)::vN Ω) l s'->R (.ok .next) s')->gU C.W.M A (.compLoop e 0 y (.ref b) (dK C d cl dY L I).env) R s) (a4:∀G o b,G b=ah->(b==f_)=false->b1.holds G o->Tr (G.add b o) (.ref b) t)(ok:Ok A C.n)(I:Inv C.W G s)(S:St C Γ Ω G s) (b4:∀l s' b L,Inv C.W l s'->Ext G s l s'->Tr l (.ref b) t->l L=ah->s.heap.get? L=ah->(∃m,s'.heap.Ns L m)->Fv C.W.M A E b3 Q (.ref b) L (.ok .next) s'):aD C.W.M A (pB e d C.env p2 b9 false (eval g.iter C.env) b3) Q E s:=by
 refine wpAny_comprehension_free b6 hf k.clos k.kind k.names<|aC (b7 A G s ok I S) (λx c0 a7=>aC a7 (λy c a8=>?_) λ_ _ z=>z.elim) λ_ _ z=>z.elim;obtain⟨f,J,pins,N⟩:=a8;refine a6 c _ ?_;have F:=N.ext.trans<|Ext.g4 f c o0;refine F5 k S (N.inv.g4 o0) F λL h D H hL a1=>?_;have P:L=c.heap.objs.size+1:=hL.trans<|e_ ..;have i:=fH N.ext.heap<|aV<|al _;have a3:h.heap.get? c.heap.objs.size=ae o0:=H.heap _ _<|aS _ a5;have w:=λp m=>H.heap _ _<|aN _ (N.pinned p m).1;have u:∀q∈((c.heap.objs.size,b0)::i5 pins),f q.1=ah/\(∃o,h.heap.get? q.1=ae o/\q.2.holds f o)/\s.heap.get? q.1=ah/\q.1<L:=λq m=>eQ m ⟨N.inv.cL<|al _,⟨_,a3,b5 _⟩,i,P▸cb _⟩ λm=>g7 m λp mp=>⟨(N.pinned p mp).2.1,⟨_,w p mp,rfl,(N.pinned p mp).2.2⟩,N.fresh p mp,P▸eY (db (N.pinned p mp).1)⟩;have a2:St (dK C d cl dY L ⟨G,s,[]⟩) B (((c.heap.objs.size,b0)::i5 pins)++vN Ω) f h:=by refine a1.more _ ?_ (λq m=>(u q m).1) (λq m=>(u q m).2.1) (λq m=>(u q m).2.2.1) (λq m=>bJ (u q m).2.2.2) λq m r mr=>g7 mr λp=>(S.fresh_ne (u q m).2.2.1).2 p;rw[ax,oM,bV];refine⟨λm=>?_,N.nodup⟩;refine aU (am.mp m) λp mp e=>f5 _<|e▸db (N.pinned p mp).1
 have lp:∀l s',Inv C.W l s'->St (dK C d cl dY L ⟨G,s,[]⟩) B ((c.heap.objs.size,b1)::vN Ω) l s'->Fv C.W.M A E b3 Q (.ref c.heap.objs.size) L (.ok .next) s':=λl s' I' S'=>by
  refine sB (S'.own _ bH) λhG q0 a5 b8=>aU q0 λo ho hb=>?_;have X':Ext G s l s':=S'.ext.ext rfl;refine b4 (l.add c.heap.objs.size o) s' _ L ⟨λa x e=>(Gh.ga e).elim (λz=>?_)<|I'.hM a x,λa x e=>Gh.dT hG a x<|I'.hb a x e,I'.bare,I'.os⟩ ⟨X'.heap,λa x e=>Gh.dT hG a x<|X'.sub a x e,λa x e=>(Gh.ga e).elim (λz=>?_)<|X'.new a x⟩ (a4 l o _ hG (I'.sL hG) hb) (Gh.A7 S'.rR b8.symm) (fH F.heap<|aV<|aH hL.symm) S'.loc;.rw[z.1,z.2];exact ho
  .rw[z.1];exact .inr i
 have lp:=b2 L ⟨G,s,[]⟩ y J pins f h _ _ N.ok N.j D a2 lp;exact a0 _ _ _ _ _ lp<|aC (N.ok.self A 0 f h pins ok.hd D N.j (λp m=>⟨w p m,(N.pinned p m).2⟩) (λv s'=>v=y/\s'=h) ⟨rfl,rfl⟩) (λa9 s' h'=>by refine bu h' λq1 q2=>?_;try clear h';subst q1;subst q2;exact lp) λ_ _ z=>z.elim
theorem qC{X:Env->aW->Js Fin->Js Fin} (k:jz C B a cl dY z)(w:fR C B Ω i1 j ts)(hsz:d.flatten.length<=aA)(hf:∀x,bm i1 C.env x=bB x) (u:∀f b env,tD (.ListComp e (⟨j,i1,p,0⟩::rest) a pos) 0 f b env=(do
   fy i1.pos
   match<-l8 f with
   |none=>bB (.done .next)
   |some v=>
    dW j f v
    tC j env v
    let mut i:=aj
    for c in p do
     if i then i<-isTrue c env (eval c env)
    if i then X env b (oz<|.compLoop (.ListComp e (⟨j,i1,p,0⟩::rest) a pos) 0 f b env) else oz (.compLoop (.ListComp e (⟨j,i1,p,0⟩::rest) a pos) 0 f b env))) (t:∀L I,Clause (dK C a cl dY L I) z (vN Ω) j p (X (dK C a cl dY L I).env) ts d) (i:Ok A C.n)(I:Inv C.W G s)(S:St C B Ω G s) (r:∀l s' b L,Inv C.W l s'->Ext G s l s'->Tr l (.ref b) (.list d.flatten)->l L=ah->s.heap.get? L=ah->(∃m,s'.heap.Ns L m)->Fv C.W.M A E y Q (.ref b) L (.ok .next) s'):aD C.W.M A (pB (.ListComp e (⟨j,i1,p,0⟩::rest) a pos) a C.env p2 (newList []) false (eval i1 C.env) y) Q E s:=C7 (b0:=.list []) k w rfl hf (λs Q h=>afb h<|au _) rfl (λG=>⟨_,_,rfl,.nil⟩) (λ_ _ _ _ _=>codeAny_compStart_list) (λL I f J q G s b R io hj H P N=>uY (C:=dK C a cl dY L I) (λb=>u f b _) io (t L I) i 0 q G s [] (au _) hj H P (by simpa using hsz) λl s' D B' F=>N l s' D<|by simpa using F) (λG o b g hs h=>by
   refine j7 h λvs n q0 tv=>?_;try clear h;subst q0
   exact .seq (Gh.fD _ _ _) rfl (λ_=>rfl) rfl<|tv.mono<|Gh.dT g) i I S r
theorem uZ(c:Inv W b s')(d:Ext G s b s')(h:b L=ah)(hs:s.heap.get? L=ah)(g:iO L s'.heap f):Inv W b {s' with heap:=f}/\Ext G s b {s' with heap:=f}:=by refine⟨⟨λa o e=>g.extBut a o (λq=>by rw[q,h] at e;cases e)<|c.hM a o e,c.hb,c.bare,c.os⟩,λa o e=>g.extBut a o (λq=>?_)<|d.heap a o e,d.sub,d.new⟩;rw[q,hs] at e;cases e
theorem w6(d:Inv W a s')(e:Ext G s a s')(h:Tr a (.ref b) t)(f:a L=ah)(hs:s.heap.get? L=ah)(c:∃m,s'.heap.Ns L m):Fv W.M A E ah (ua W G s<|KT t) (.ref b) L (.ok .next) s':=c.imp λm c=>⟨c,λi g=>⟨a,(uZ d e f hs g).1,(uZ d e f hs g).2,h⟩⟩
theorem Ev.adO(k:jz C j a cl dY h)(f:fR C j Ω i1 g ts) (e:∀L I,Clause (dK C a cl dY L I) h (vN Ω) g i (F7 d (dK C a cl dY L I).env) ts b)(hsz:b.flatten.length<=aA) (l:autoParam (∀env x,bm i1 env x=bB x) mI):Ev C j Ω (.ListComp d [⟨g,i1,i,0⟩] a pos)<|.list b.flatten:=λA G s n I S=>by rw[afc];unfold Run;refine qC k f hsz (l _) (λm c=>C0 d g i1 i a pos m c) e n I S λo p c L=>w6
theorem Ev.adP(k:jz C n a cl dY i)(h:fR C n Ω i1 e ts) (g:∀L I,Clause (dK C a cl dY L I) i (vN Ω) e f (CZ d e i1 m l f j a pos (dK C a cl dY L I).env) ts b)(hsz:b.flatten.length<=aA) (o:autoParam (∀env x,bm i1 env x=bB x) mI):Ev C n Ω (.ListComp d [⟨e,i1,f,0⟩,⟨m,l,j,0⟩] a pos)<|.list b.flatten:=λA G s q I S=>by rw[afc];unfold Run;refine qC k h hsz (o _) (λp c=>zZ d e i1 m l f j a pos p c) g q I S λr t c L=>w6
end
inductive Out where|next|brk|cont|ret (t:T)
noncomputable def Out.is(G:Gh):Out->Flow->Prop|.next,f=>f=.next|.brk,f=>f=.brk|.cont,f=>f=.cont|.ret t,f=>∃v,f=.ret v/\Tr G v t
noncomputable abbrev Post:=Out->cG->bM->Prop
noncomputable def Sub(G b:Gh):Prop:=∀a x,G a=ae x->b a=ae x
theorem Sub.refl(G):Sub G G:=λ_ _ e=>e
theorem Sub.trans(x:Sub G c)(y:Sub c b):Sub G b:=λa o e=>y a o<|x a o e
inductive Ends(C)(P:Post)(G f s'):Prop|mk (o) (Γ') (bT) (G') (p:P o Γ' bT) (is:o.is G' f) (i:Inv C.W G' s') (st:St C Γ' bT G' s') (b:Sub G G')
noncomputable def bZ(C:Cx)(b:cG)(Ω:bM)(a:List mA)(P:Post):Prop:=∀A G s,Ok A C.n->Inv C.W G s->St C b Ω G s->aD C.W.M A (vA a C.env) (Ends C P G) (λ_ _=>False) s
theorem Ends.up(b:Sub G d)(h:Ends C P d f s'):Ends C P G f s':=by obtain⟨o,a,e,c,p,q,r,z,w⟩:=h;exact⟨o,a,e,c,p,q,r,z,b.trans w⟩
theorem Ends.lift(b:Sub G a)(h:aD C.W.M A m (Ends C P a) E s):aD C.W.M A m (Ends C P G) E s:=aC h (λ_ _ z=>z.up b) λ_ _ z=>z
noncomputable def ry(C:Cx)(rest:List mA)(P:Post):Post:=λo a b=>match o with|.next=>bZ C a b rest P|o=>P o a b
noncomputable def A8(a Γ':cG):Prop:=a.map (·.1)=Γ'.map (·.1)/\∀x t,(x,ae t)∈a->(x,ae t)∈Γ'
theorem A8.refl(a):A8 a a:=⟨rfl,λ_ _ h=>h⟩
section
theorem bZ.nil(h:P .next a Ω):bZ C a Ω [] P:=λA G s b I S=>YI ⟨.next,a,Ω,G,h,rfl,I,S,.refl G⟩
theorem bZ.weak(w:A8 c Γ')(h:bZ C c Ω b P):bZ C Γ' Ω b P:=λA G s a I S=>h A G s a I<|S.weak w.1 w.2
theorem bZ.mono(h:bZ C a Ω n P)(g:∀o a Ω,P o a Ω->e o a Ω):bZ C a Ω n e:=λA G s i I S=>aC (h A G s i I S) (λf r q=>q.casesOn λo b c d p j k l m=>⟨o,b,c,d,g _ _ _ p,j,k,l,m⟩) λ_ _ z=>z
inductive adQ(C G rest P)(f:Flow)(s'):Prop|mk (e:f=.next) (Γ') (bT) (G') (i:Inv C.W G' s') (st:St C Γ' bT G' s') (b:Sub G G') (k:bZ C Γ' bT rest P)
theorem bZ.step{st:mA}(h:∀A G s,Ok A C.n->Inv C.W G s->St C u Ω G s->aD C.W.M A (exec st C.env) (adQ C G rest P) (λ_ _=>False) s):bZ C u Ω (st::rest) P:=λA G s g I S=>by refine zy<|aC (h A G s g I S) (λf m d=>d.casesOn λe v x i j l B k=>?_) λ_ _ z=>z;subst e;exact aC (k A i m g j l) (λf t d=>d.casesOn λo a b c p q r z w=>⟨o,a,b,c,p,q,r,z,B.trans w⟩) λ_ _ z=>z
theorem bZ.block{st:mA}(h:∀A G s,Ok A C.n->Inv C.W G s->St C D Ω G s->aD C.W.M A (exec st C.env) (Ends C (ry C rest P) G) (λ_ _=>False) s):bZ C D Ω (st::rest) P:=λA G s l I S=>by refine zy<|aC (h A G s l I S) (λf x k=>k.casesOn λo d e g p q i j B=>?_) λ_ _ z=>z;cases o with|next=>subst q;exact aC (p A g x l i j) (λf y k=>k.casesOn λo a b c p q r z w=>⟨o,a,b,c,p,q,r,z,B.trans w⟩) λ_ _ z=>z|brk=>subst q;exact⟨.brk,d,e,g,p,rfl,i,j,B⟩|cont=>subst q;exact⟨.cont,d,e,g,p,rfl,i,j,B⟩|ret t=>refine aU q λv u m=>?_;try clear q;subst u;exact⟨.ret t,d,e,g,p,⟨v,rfl,m⟩,i,j,B⟩
theorem bZ.assign(h:Ev C g Ω e t)(m:x∈C.dY)(l:oC g x t Γ')(k:bZ C Γ' Ω rest P)(hs:autoParam (fi e (ae<|.Name x p) pos.line C.env=bB false) iF):bZ C g Ω (.Assign [.Name x p] e pos::rest) P:=.step λA G s n I S=>by refine yB (Run.use (h A G s n I S) λv f b c a d=>?_) hs;exact(S.mono a).store c m l d λo j i _=>⟨rfl,Γ',Ω,b,i,j,a.sub,k⟩
theorem bZ.wk(h:Ev C l Ω e<|.tuple ts)(b:sK C l g ts Γ')(k:bZ C Γ' Ω rest P)(q:autoParam (vB [.Tuple g n p] e pos.line C.env=bB false) iF)(r:autoParam (m4 [.Tuple g n p] e C.env=bB ah) iF):bZ C l Ω (.Assign [.Tuple g n p] e pos::rest) P:=.step λA G s i I S=>by refine ahO (Run.use (h A G s i I S) λv j c d a f=>?_) q r;exact(CD.tuple b).run i.hd (S.mono a) d f λt o m=>⟨rfl,Γ',Ω,c,m,o,a.sub,k⟩
theorem bZ.aug(o:(x,ae (.int a))∈l)(h:Ev C l Ω e<|.int b)(u:x∈C.dY)(q:oC l x (.int<|a+b) Γ')(k:bZ C Γ' Ω rest P):bZ C l Ω (.AugAssign (.Name x p) .Add e pos::rest) P:=.step λA G s w I S=>by
 refine aU (S.vars x _ o) λv t r=>?_;cases r
 refine wpAny_AugAssign_Name<|wX S t ?_;refine Run.use (h A G s w I S) λv f c g d j=>?_;cases j
 refine aeV ?_;haveI i:Ext G s c {f with toks:=f.toks+1}:=d.trans<|.bL rfl;exact(S.mono i).store (g.bL rfl rfl rfl) u q (Tr.int _ _) λy n m _=>⟨rfl,Γ',Ω,c,m,n,d.sub,k⟩
inductive adR(C G rest P s'):Prop|mk (Γ') (bT) (G') (i:Inv C.W G' s') (st:St C Γ' bT G' s') (b:Sub G G') (k:bZ C Γ' bT rest P)
theorem bZ.expr(h:∀A G s,Ok A C.n->Inv C.W G s->St C m Ω G s->aD C.W.M A (eval e C.env) (λ_ s'=>adR C G rest P s') (λ_ _=>False) s) (i:autoParam (jS C.env=false) iF)(j:autoParam (fi e ah pos.line C.env=bB false) iF):bZ C m Ω (.Expr e pos::rest) P:=.step λA G s k I S=>wpAny_Expr_any (aC (h A G s k I S) (λv s' l=>l.casesOn λa b c d e f g=>⟨rfl,a,b,c,d,e,f,g⟩) λ_ _ z=>z) i j
theorem bZ.ite(h:pz C m Ω k b)(n:b=aj->bZ C m Ω i (ry C rest P))(o:b=false->bZ C m Ω d (ry C rest P)):bZ C m Ω (.If k i d pos::rest) P:=.block λA G s l I S=>by refine Fx<|Run.use (h A G s l I S) λc g e f a j=>?_;subst j;cases c with|true=>exact Ends.lift a.sub<|n rfl A e g l f<|S.mono a|false=>exact Ends.lift a.sub<|o rfl A e g l f<|S.mono a
theorem bZ.ret(h:Ev C f Ω e t)(i:P (.ret t) f Ω):bZ C f Ω (.Return (ae e) pos::rest) P:=.block λA G s j I S=>by refine pn<|Run.use (h A G s j I S) λv g b c a d=>?_;exact⟨.ret t,f,Ω,b,i,⟨v,rfl,d⟩,c,S.mono a,a.sub⟩
theorem bZ.A9(b:P (.ret .none) a Ω):bZ C a Ω (.Return ah pos::rest) P:=.block λA G s c I S=>wpAny_Return_none ⟨.ret .none,a,Ω,G,b,⟨_,rfl,Tr.none⟩,I,S,.refl G⟩
theorem bZ.brk(b:P .brk a Ω):bZ C a Ω (.Break pos::rest) P:=.block λA G s c I S=>wpAny_Break ⟨.brk,a,Ω,G,b,rfl,I,S,.refl G⟩
theorem bZ.cont(b:P .cont a Ω):bZ C a Ω (.Continue pos::rest) P:=.block λA G s c I S=>wpAny_Continue ⟨.cont,a,Ω,G,b,rfl,I,S,.refl G⟩
noncomputable def w7(C:Cx)(c:cG)(e:gw)(t:T)(Γ':cG):Prop:=∀A G s v b (Q),A.handled=ah->St C c b G s->Inv C.W G s->Tr G v t->(∀a,St C Γ' b G a->Inv C.W G a->Q () a)->aD C.W.M A (tC e C.env v) Q (λ_ _=>False) s
theorem w7.of(b:CD C c e t Γ'):w7 C c e t Γ':=λA G s v d Q a S I h=>b.run a S I h
inductive ag1(C target)(P:List T->bM->Prop)(Γ G it s₂):Prop|mk (G₁) (s₁) (Wr) (J:Nat->List (cj×uJ)->Gh->Prop) (pins:List<|cj×uJ) (ts) (rz) (p:P ts rz) (st:St C Γ rz G₁ s₁) (b:Sub G G₁) (N:M5 C.W target ts G₁ s₁ it Wr s₂ J pins)
noncomputable def w8(C:Cx)(c:cG)(Ω:bM)(e a:gw)(P:List T->bM->Prop):Prop:=∀A G s,Ok A C.n->Inv C.W G s->St C c Ω G s->aD C.W.M A (eval e C.env) (λx b=>aD C.W.M A (rn x) (ag1 C a P c G) (λ_ _=>False) b) (λ_ _=>False) s
theorem w8.of(h:fR C l Ω e a ts):w8 C l Ω e a λus b=>us=ts/\b=Ω:=λA G s j I S=>aC (h A G s j I S) (λx g d=>aC d (λm i k=>k.casesOn λc n f N=>⟨G,s,c,n,f,ts,Ω,⟨rfl,rfl⟩,S,.refl G,N⟩) λ_ _ z=>z) λ_ _ z=>z
inductive C8(C rest P)(J:cG->bM->Prop):Out->cG->bM->Prop|next (w:A8 Γ' Γ) (h:J Γ' Ω):C8 C rest P J .next Γ Ω|cont (w:A8 Γ' Γ) (h:J Γ' Ω):C8 C rest P J .cont Γ Ω|brk (h:bZ C Γ Ω rest P):C8 C rest P J .brk Γ Ω|ret (h:P (.ret t) Γ Ω):C8 C rest P J (.ret t) Γ Ω
inductive ag2(C Γ Ω target body orelse rest P)(ts:List T):Prop|mk (Iv:Nat->cG->bM->Prop) (h0:Iv 0 Γ Ω) (step:∀i t rA rz (Δ:bM) (Q:Post),(∀{o Γ Ω},C8 C rest P (Iv<|i+1) o Γ Ω->Q o Γ (Δ++Ω))->ts[i]?=ae t->Iv i rA rz->∃C9,w7 C rA target t C9/\bZ C C9 (Δ++rz) body Q) (after:∀rA rz,Iv ts.length rA rz->bZ C rA rz orelse (ry C rest P))
inductive adS(C l)(J:Nat->List (cj×uJ)->Gh->Prop)(Iv:Nat->cG->bM->Prop)(Gs k s):Prop|mk (i) (pins) (G) (Γ) (Ω) (e:l-i=k) (hi:i<=l) (hJ:J i pins G) (hI:Inv C.W G s) (hS:St C Γ (i5 pins++Ω) G s) (hv:Iv i Γ Ω) (b:Sub Gs G)
theorem bZ.M9(b9:w8 C Γ Ω a1 l Q)(k:∀ts c,Q ts c->ag2 C Γ c l b2 R rest P ts) (hf:autoParam (∀env x,bm a1 env x=bB x) mI):bZ C Γ Ω (.For l a1 b2 R pos::rest) P:=.block λA Gs s ok I S=>by
 refine wpAny_For (aC (b9 A Gs s ok I S) (λx y a=>aC a (λit B t=>?_) λ_ _ z=>z) λ_ _ z=>z)<|hf _;obtain⟨c4,c1,a7,J,g,ts,c,hq,a9,a6,N⟩:=t;obtain⟨Iv,h0,b4,a4⟩:=k ts c hq;refine codeAny_forLoop_any (adS C ts.length J Iv Gs) ?_ ts.length ⟨0,g,a7,Γ,c,rfl,au _,N.j,N.inv,a9.H_ N,h0,a6.trans N.ext.sub⟩;intro k s h;obtain⟨i,g,G,D,H,rfl,hi,hJ,hI,hS,hv,a0⟩:=h;have q:=uW hS λp m=>bp _<|am.mpr ⟨p,m,rfl⟩;by_cases M:i<ts.length
 .haveI ht:=ay M;refine aC (N.ok.item A i _ G s g ok.hd ht hI hJ q) (λr y a=>?_) λ_ _ z=>z.elim;obtain⟨v,a⟩:=a;dsimp only;refine aC a (λ_ B t=>?_) λ_ _ z=>z.elim;obtain⟨G',b,T,Pn,hn,b7,c0⟩:=t;refine aU (b4 i _ D H (i5 b) (λo Γ Ω=>∃b6,Ω=i5 b++b6/\C8 C rest P (Iv<|i+1) o Γ b6) (λh=>⟨_,rfl,h⟩) ht hv) λc2 hb a5=>?_;have b0:St C D (i5 b++H) G' B:=hS.CX (Δ:=[]) T Pn hn;refine aC (hb A G' B v _ _ ok.hd b0 T.inv c0 λb5 b1 a8=>?_) (λ_ _ z=>z) λ_ _ z=>z.elim;refine aC (a5 A G' b5 ok a8 b1) (λf a3 b3=>?_) λ_ _ z=>z.elim;obtain⟨o,E,c3,d,h,ho,n,e,a2⟩:=b3;refine aU h λL q0 hp=>?_;try clear h;subst q0
  have u:=(a0.trans T.sub).trans a2;haveI W:∀{F Ω},St C F (i5 b++Ω) d a3->Iv (i+1) F Ω->∃m,m<ts.length-i/\adS C ts.length J Iv Gs m a3:=λS hv=>⟨ts.length-(i+1),Zk M,i+1,b,d,_,_,rfl,M,N.ok.mono _ _ _ _ a2 b7,n,S,hv,u⟩;cases hp with|next w hv=>cases ho;exact W (e.weak w.1 w.2) hv|cont w hv=>cases ho;exact W (e.weak w.1 w.2) hv|brk hp=>subst ho;exact⟨.next,E,L,d,hp,rfl,n,e.sub<|nH _ _,u⟩|ret hp=>refine aU ho λv q1 hr=>?_;subst q1;exact⟨.ret _,E,L,d,hp,⟨v,rfl,hr⟩,n,e.sub<|nH _ _,u⟩
 .have b8:=Zl hi M;subst b8;refine aC (N.ok.done A G s g ok.hd hI hJ q) (λr y a=>?_) λ_ _ z=>z.elim;obtain⟨G',T⟩:=a;skip;exact aC (a4 _ _ hv A G' y ok T.inv<|hS.w4 (Δ:=[]) T) (λf s' z=>z.up<|a0.trans T.sub) λ_ _ z=>z.elim
theorem bZ.Ws(g:Nat->cG->bM->Prop)(m:fR C l Ω e c ts)(n:g 0 l Ω) (k:∀i t b a (Δ:bM) (Q:Post),(∀{o l Ω},C8 C rest P (g<|i+1) o l Ω->Q o l (Δ++Ω))->ts[i]?=ae t->g i b a->∃d,CD C b c t d/\bZ C d (Δ++a) j Q) (f:∀b a,g ts.length b a->bZ C b a rest P)(p:autoParam (∀env x,bm e env x=bB x) mI):bZ C l Ω (.For c e j [] pos::rest) P:=.M9 (.of m) (λw a h=>by
  refine bu h λu v=>?_;try clear h;subst u;subst v
  exact⟨g,n,λi t b a Δ Q q r s=>(k i t b a Δ Q q r s).imp λ_ h=>⟨.of h.1,h.2⟩,λb a h=>.nil<|f b a h⟩) p
inductive Yw(C rest P)(Iv:Nat->cG->bM->Prop)(n):Out->cG->bM->Prop|next (l:m<n) (w:A8 Γ' Γ) (h:Iv m Γ' Ω):Yw C rest P Iv n .next Γ Ω|cont (l:m<n) (w:A8 Γ' Γ) (h:Iv m Γ' Ω):Yw C rest P Iv n .cont Γ Ω|brk (h:bZ C Γ Ω rest P):Yw C rest P Iv n .brk Γ Ω|ret (h:P (.ret t) Γ Ω):Yw C rest P Iv n (.ret t) Γ Ω
inductive Ś(C)(Iv:Nat->cG->bM->Prop)(Gs k s):Prop|mk (G) (Γ) (Ω) (hI:Inv C.W G s) (hS:St C Γ Ω G s) (hv:Iv k Γ Ω) (b:Sub Gs G)
theorem bZ.M_(y:Nat->cG->bM->Prop)(n)(h0:y n W Ω) (L:∀n a d (Q:Post),(∀{o W Ω},Yw C rest P y n o W Ω->Q o W Ω)->y n a d->∃b,pz C a d R b/\(b=aj->bZ C a d B Q)/\(b=false->bZ C a d rest P)):bZ C W Ω (.While R B [] pos::rest) P:=.block λA Gs s ok I S=>by
 refine wpAny_While<|codeAny_whileLoop (Ś C y Gs) ?_ n ⟨Gs,W,Ω,I,S,h0,.refl Gs⟩;intro k s h;obtain⟨G,a,d,hI,hS,F,x⟩:=h;refine ix (L k a d (Yw C rest P y k) (λh=>h) F) λb ht h1 h2=>Run.use (ht A G s ok hI hS) λc N t u p e=>?_;subst e;cases c with
 |true=>refine aC (h1 rfl A t N ok u<|hS.mono p) (λf a0 H=>?_) λ_ _ z=>z.elim;obtain⟨o,r,g,i,E,D,j,m,M⟩:=H;have q:=(x.trans p.sub).trans M;cases E with|next l w F=>subst D;exact⟨_,l,i,_,g,j,m.weak w.1 w.2,F,q⟩|cont l w F=>subst D;exact⟨_,l,i,_,g,j,m.weak w.1 w.2,F,q⟩|brk E=>subst D;exact⟨.next,r,g,i,E,rfl,j,m,q⟩|ret E=>refine aU D λv q0 hr=>?_;try clear D;subst q0;exact⟨.ret _,r,g,i,E,⟨v,rfl,hr⟩,j,m,q⟩
 |false=>exact YI ⟨.next,a,d,t,h2 rfl,rfl,u,hS.mono p,x.trans p.sub⟩
noncomputable def kH(f:Nat->Bool):Nat->cG->cG|_,[]=>[]|i,(x,o)::a=>(x,bif f i then ah else o)::kH f (i+1) a
theorem A8.forget(f i b):A8 (kH f i b) b:=by
 induction b generalizing i with|nil=>exact .refl _|cons p b d=>
  refine⟨congrArg (p.1::·) (d<|i+1).1,λx t m=>?_⟩;refine dy (bf.mp m) (λe=>?_) λm=>?_
  .refine bf.mpr<|.inl ?_;haveI g:=congrArg yP e;haveI a:ae t=bif f i then ah else p.2:=congrArg tQ e;cases c:f i with
   |true=>rw[c] at a;cases a
   |false=>rw[c] at a;exact Prod.ext g a
  .exact .tail _<|(d<|i+1).2 x t m
inductive y6(C rest P){σ:Type}(F:σ->cG)(H:σ->bM)(I:σ->Prop):Out->cG->bM->Prop|next (f) (st) (h:I st) (e:F st=kH f 0 Γ):y6 C rest P F H I .next Γ<|H st|cont (f) (st) (h:I st) (e:F st=kH f 0 Γ):y6 C rest P F H I .cont Γ<|H st|brk (h:bZ C Γ Ω rest P):y6 C rest P F H I .brk Γ Ω|ret (h:P (.ret t) Γ Ω):y6 C rest P F H I (.ret t) Γ Ω
theorem y6.ag3(z:y6 C rest P F H I o a Ω):C8 C rest P (λa Ω=>∃st,a=F st/\Ω=H st/\I st) o a Ω:=by cases z with
 |next f st h e=>exact .next (e▸.forget f 0 a) ⟨st,rfl,rfl,h⟩|cont f st h e=>exact .cont (e▸.forget f 0 a) ⟨st,rfl,rfl,h⟩|brk h=>exact .brk h|ret h=>exact .ret h
theorem bZ.Va(F:Nat->σ->cG)(H:Nat->σ->bM)(I:Nat->σ->Prop)(f st)(m:w8 C (F 0 st) Ω d b p)(u:∀us a,p us a->us=ts/\a=H 0 st)(s:I 0 st)(r:F 0 st=kH f 0 g) (l:∀i t st (Δ:bM) (Q:Post),(∀{o g Ω},y6 C rest P (F<|i+1) (H<|i+1) (I<|i+1) o g Ω->Q o g (Δ++Ω))->ts[i]?=ae t->I i st->∃c,w7 C (F i st) b t c/\bZ C c (Δ++H i st) k Q) (e:∀st,I ts.length st->bZ C (F ts.length st) (H ts.length st) rest P)(v:autoParam (∀env x,bm d env x=bB x) mI):bZ C g Ω (.For b d k [] pos::rest) P:=bZ.weak (r▸.forget f 0 g)<|.M9 m (λus a h=>by refine bu (u us a h) λy A=>?_;subst y;subst A;exact⟨λi g Ω=>∃st,g=F i st/\Ω=H i st/\I i st,⟨st,rfl,rfl,s⟩,λi t j a Δ Q q w n=>by refine ix n λst q0 q1 h=>?_;clear n;subst q0;subst q1;exact l i t st Δ Q (λz=>q z.ag3) w h,λj a n=>by refine ix n λst q2 q3 h=>?_;clear n;subst q2;subst q3;exact .nil<|e st h⟩) v
theorem bZ.vO(F:Nat->σ->cG)(H:Nat->σ->bM)(I:Nat->σ->Prop)(f st)(k:fR C (F 0 st) (H 0 st) c a ts)(m:I 0 st)(l:F 0 st=kH f 0 j) (g:∀i t st (Δ:bM) (Q:Post),(∀{o j Ω},y6 C rest P (F<|i+1) (H<|i+1) (I<|i+1) o j Ω->Q o j (Δ++Ω))->ts[i]?=ae t->I i st->∃b,CD C (F i st) a t b/\bZ C b (Δ++H i st) e Q) (d:∀st,I ts.length st->bZ C (F ts.length st) (H ts.length st) rest P)(n:autoParam (∀env x,bm c env x=bB x) mI):bZ C j (H 0 st) (.For a c e [] pos::rest) P:=.Va F H I f st (.of k) (λ_ _ h=>h) m l (λi t st Δ Q q p h=>(g i t st Δ Q q p h).imp λ_ z=>⟨.of z.1,z.2⟩) d n
theorem bZ.Vb{α:Type}(xs:List α)(g l a F H)(I:Nat->σ->Prop)(f)(v:w8 C (F a) Ω j b A)(E:∀us d,A us d->us=xs.map g/\d=H a)(D:I 0 a)(B:F a=kH f 0 s) (m:∀k x st (Δ:bM) (Q:Post),(∀{o s Ω},y6 C rest P F H (·=l st x) o s Ω->Q o s (Δ++Ω))->xs[k]?=ae x->I k st->I (k+1) (l st x)/\∃c,w7 C (F st) b (g x) c/\bZ C c (Δ++H st) r Q) (n:I xs.length (xs.foldl l a)->bZ C (F<|xs.foldl l a) (H<|xs.foldl l a) rest P)(G:autoParam (∀env x,bm j env x=bB x) mI):bZ C s Ω (.For b j r [] pos::rest) P:=.Va (λ_=>F) (λ_=>H) (λk st=>st=(xs.take k).foldl l a/\I k st) f a v E ⟨rfl,D⟩ B (λk t st Δ Q q y h=>by
  rw[aq] at y;refine aU (aT.mp y) λx w L=>?_;subst L;refine(m k x st Δ Q (λz=>q ?_) w h.2).2;haveI e:l st x=(xs.take<|k+1).foldl l a:=by rw[cA,w,eU,<-h.1];rfl
  haveI i:=(m k x st [] (λ_ _ _=>True) (λ_=>trivial) w h.2).1;cases z with
  |next f p h u=>exact .next f p (h▸⟨e,i⟩) u|cont f p h u=>exact .cont f p (h▸⟨e,i⟩) u|brk h=>exact .brk h|ret h=>exact .ret h) (λst h=>by rw[af,dn] at h;obtain⟨rfl,h⟩:=h;exact n h) G
theorem bZ.F8{α:Type}(xs:List α)(g i a F H)(I:Nat->σ->Prop)(f)(n:fR C (F a) (H a) d b<|xs.map g)(q:I 0 a)(p:F a=kH f 0 m) (l:∀k x st (Δ:bM) (Q:Post),(∀{o m Ω},y6 C rest P F H (·=i st x) o m Ω->Q o m (Δ++Ω))->xs[k]?=ae x->I k st->I (k+1) (i st x)/\∃c,w7 C (F st) b (g x) c/\bZ C c (Δ++H st) j Q) (e:I xs.length (xs.foldl i a)->bZ C (F<|xs.foldl i a) (H<|xs.foldl i a) rest P)(r:autoParam (∀env x,bm d env x=bB x) mI):bZ C m (H a) (.For b d j [] pos::rest) P:=.Vb xs g i a F H I f (.of n) (λ_ _ h=>h) q p l e r
inductive QN(C rest P){σ:Type}(F:σ->cG)(H:σ->bM)(I:Nat->σ->Prop)(n):Out->cG->bM->Prop|next (l:m<n) (f) (st) (h:I m st) (e:F st=kH f 0 Γ):QN C rest P F H I n .next Γ<|H st|cont (l:m<n) (f) (st) (h:I m st) (e:F st=kH f 0 Γ):QN C rest P F H I n .cont Γ<|H st|brk (h:bZ C Γ Ω rest P):QN C rest P F H I n .brk Γ Ω|ret (h:P (.ret t) Γ Ω):QN C rest P F H I n (.ret t) Γ Ω
theorem bZ.Wt(F H I n f)(st:σ)(p:I n st)(m:F st=kH f 0 a) (d:∀n st (Q:Post),(∀{o a Ω},QN C rest P F H I n o a Ω->Q o a Ω)->I n st->∃b,pz C (F st) (H st) g b/\(b=aj->bZ C (F st) (H st) c Q)/\(b=false->bZ C (F st) (H st) rest P)):bZ C a (H st) (.While g c [] pos::rest) P:=bZ.weak (m▸.forget f 0 a)<|.M_ (λn a Ω=>∃st,a=F st/\Ω=H st/\I n st) n ⟨st,rfl,rfl,p⟩ λn i j Q q k=>by
  refine ix k λst r s h=>?_;try clear k;subst r;subst s
  refine d n st Q (λz=>q ?_) h;cases z with
  |next l f st h e=>exact .next l (e▸.forget f 0 _) ⟨st,rfl,rfl,h⟩|cont l f st h e=>exact .cont l (e▸.forget f 0 _) ⟨st,rfl,rfl,h⟩|brk h=>exact .brk h|ret h=>exact .ret h
theorem bZ.ag4(c d)(h:pz C j Ω i b)(l:b=aj->bZ C j Ω f (λo Γ' bT=>o=.next/\Γ'=c/\bT=d))(m:b=false->bZ C j Ω a (λo Γ' bT=>o=.next/\Γ'=c/\bT=d))(k:bZ C c d rest P):bZ C j Ω (.If i f a pos::rest) P:=
 haveI g:=λo Γ' bT e=>by
  refine gR e λn p r=>?_;try clear e;subst n;subst p;subst r
  exact k
 .ite h (λq=>(l q).mono g) λq=>(m q).mono g
theorem bZ.sM(h:pz C b Ω a false)(k:bZ C b Ω rest P):bZ C b Ω (.While a i [] pos::rest) P:=.M_ (λ_ c f=>c=b/\f=Ω) 0 ⟨rfl,rfl⟩ λn d g Q q e=>⟨false,e.1▸e.2▸h,λh=>fT h,λ_=>e.1▸e.2▸k⟩
end
section
theorem C_(S:St C z Ω G s)(hx:x∈C.dY)(hp:oC z x t Γ')(B:Inv C.W f s')(D:Ext G s f s')(ht:Tr f (.ref r) t)(u:f L=ah)(hs:s.heap.get? L=ah)(hm:∃m,s'.heap.Ns L m) (N:∀j,Inv C.W f j->St C Γ' Ω f j->Q .none j):Fv C.W.M A E (ae<|jw (.Name x p) C.env) Q (.ref r) L (.ok .next) s':=by
 refine Mr hm λm o H F ho y R P=>?_;have n:=S.mono D;have k:St C z ([(L,Ob.pin o)]++Ω) f s':=by
  refine{n with own:=λq d=>?_,hU:=?_}
  .refine dy (bO.mp d) (λd=>?_) λd=>?_
   .rw[ao] at d;subst d;refine⟨u,⟨o,ho,rfl,λv q=>?_⟩,(S.fresh hs).imp id .inl,(S.fresh_ne hs).1⟩;rw[y] at q;cases q
   .exact n.own q d
  .rw[Fy,ax,bV];refine⟨λd=>?_,n.hU⟩;refine aU (am.mp d) λq d e=>(S.fresh_ne hs).2 q d e.symm
 refine yA<|k.store B hx hp ht λi g b _=>?_;refine gR (g.own (L,Ob.pin o) bH) λ_ q0 _=>ix q0 λh l c _=>?_;haveI c:=c;subst c;refine⟨m,Y7 h H F l y R P,λI w=>?_⟩;haveI T:Turn C.W [L] f i f {i with heap:=I}:=⟨⟨λa x e=>w.extBut a x (λq=>by rw[q,u] at e;cases e)<|b.hM a x e,b.hb,b.bare,b.os⟩,λa x m=>w.extBut a x λq=>m<|by rw[q];exact ao.mpr rfl,λ_ _ e=>e,λ_ _=>.inl⟩;exact N _ T.inv<|St.w4 (pins:=[(L,h)]) (Δ:=[]) g T
theorem bZ.C'(k:jz C m a cl dY n)(l:fR C m Ω i1 d ts) (j:∀L I,Clause (dK C a cl dY L I) n (vN Ω) d f (F7 b (dK C a cl dY L I).env) ts c)(hsz:c.flatten.length<=aA) (z:x∈C.dY)(w:oC m x (.list c.flatten) Γ')(D:bZ C Γ' Ω rest P)(hs:fi (.ListComp b [⟨d,i1,f,0⟩] a pos) (ae<|.Name x p) g.line C.env=bB aj) (u:autoParam (∀env x,bm i1 env x=bB x) mI):bZ C m Ω (.Assign [.Name x p] (.ListComp b [⟨d,i1,f,0⟩] a pos) g::rest) P:=.step λA G s E I S=>by rw[LZ _ _ _ _ hs];refine aa<|cF<|aa ?_;show aD _ A ((pB (.ListComp b [⟨d,i1,f,0⟩] a pos) a C.env (ahP [⟨d,i1,f,0⟩] pos) (newList []) false (eval i1 C.env)<|ae<|jw (.Name x p) C.env)>>=λ_=>bB ()) _ _ s;refine aa<|qC k l hsz (u _) (λB e=>C0 b d i1 f a pos B e) j E I S λq H e L r o y t hs v=>C_ S z w r o y t hs v λF h i=>ag<|ag ⟨rfl,Γ',Ω,q,h,i,o.sub,D⟩
theorem bZ.Db(k:jz C q a cl dY r)(o:fR C q Ω i1 d ts) (n:∀L I,Clause (dK C a cl dY L I) r (vN Ω) d e (CZ b d i1 j h e g a pos (dK C a cl dY L I).env) ts c)(hsz:c.flatten.length<=aA) (E:x∈C.dY)(B:oC q x (.list c.flatten) Γ')(H:bZ C Γ' Ω rest P)(hs:fi (.ListComp b [⟨d,i1,e,0⟩,⟨j,h,g,0⟩] a pos) (ae<|.Name x p) i.line C.env=bB aj) (y:autoParam (∀env x,bm i1 env x=bB x) mI):bZ C q Ω (.Assign [.Name x p] (.ListComp b [⟨d,i1,e,0⟩,⟨j,h,g,0⟩] a pos) i::rest) P:=.step λA G s M I S=>by rw[LZ _ _ _ _ hs];refine aa<|cF<|aa ?_;show aD _ A ((pB (.ListComp b [⟨d,i1,e,0⟩,⟨j,h,g,0⟩] a pos) a C.env (ahP [⟨d,i1,e,0⟩,⟨j,h,g,0⟩] pos) (newList []) false (eval i1 C.env)<|ae<|jw (.Name x p) C.env)>>=λ_=>bB ()) _ _ s;refine aa<|qC k o hsz (y _) (λF f=>zZ b d i1 j h e g a pos F f) n M I S λu Q f L v t D w hs z=>C_ S E B v t D w hs z λN l m=>ag<|ag ⟨rfl,Γ',Ω,u,l,m,t.sub,H⟩
noncomputable def pe(b:cv)(a L:cj):Env:=newEnv b.scope L b.globals (qx (L+1) b.scope.names b.closure) (b.qualname++bo ".<locals>.") (ae a) b.code ah b.builtins
noncomputable def oN(W:Wd)(n:Nat)(b:cv)(a L:cj)(dY:List bC)(I:zT):Cx:=⟨W,n,pe b a L,dY,I⟩
inductive Binds(dY:List bC):cG->List (bC×aW)->List T->cG->Prop|nil:Binds dY Γ [] [] Γ|cons:x∈dY->oC Γ x t Γ'->Binds dY Γ' bs ts CY->Binds dY Γ ((x,v)::bs) (t::ts) CY
theorem Binds.run(b:Binds C.dY k a ts Γ')(f)(e:∀n v u,f (n,v) u=(do storeName C.env n v;bB (.yield ⟨⟩))):∀{s:bk} {Q:PUnit->bk->Prop},St C k Ω G s->Inv W G s->aG G (a.map (·.2)) ts->(∀s',St C Γ' Ω G s'->Inv W G s'->Q ⟨⟩ s')->aD W.M A (Fo a ⟨⟩ f) Q E s:=by induction b with|nil=>intro s Q S l h q;rw[QY];exact ag<|q s S l|cons i g b j=>intro s Q S l h q;cases h using aG.ca with|cons h r=>rw[eC,e];exact aa<|aa<|S.store l i g h λs' c d _=>ag<|j c d r q
structure gH(W:Wd)(f fd body)(dY:List bC):Prop where
 look:∃oc od sl,W.K.lookup f=ae ⟨oc,od,.func fd,sl⟩
 co:fd.scope.isCoroutine=false
 gen:fd.scope.isGenerator=false
 kind:fd.scope.kind=.function
 body:fd.body=.stmts body
 code:∃c oc od vs sl t,fd.code=.ref c/\W.K.lookup c=ae ⟨oc,od,.fields vs,sl⟩/\vs[1]?=ae (.str fd.qualname t)
 glob:fd.globals=a_
 blt:fd.builtins=iy
 stores:∀L,∀x∈dY,(pe fd f L).kindOf x=ae .local\/((pe fd f L).kindOf x=ae .cell/\∃c,(pe fd f L).cells.lookup x=ae c/\L<c)
noncomputable def y7(Q:aW->bk->Prop):LF->bk->Prop:=λr a=>match r with|.ok (.ret v)=>Q v a|.ok _=>False|.error _=>False
theorem y7.mono(h:∀v s,Q v s->a v s)(r s)(z:y7 Q r s):y7 a r s:=by rcases r with e|(v|_|_|_)<;>first|exact z|exact h _ _ z
theorem oO{α:Type}{W:Wd}(h:gU W.M A (.call f ⟨a,[]⟩) (y7 Q) s):aD W.M A (call f a) Q (λ_ _=>False) s:=df<|i8 h λr b z=>by rcases r with e|(v|_|_|_)<;>exact z
inductive Ï(W)(K:aW->Gh->bk->Prop)(v s'):Prop|mk (G') (i:Inv W G' s') (k:K v G' s')
theorem Dc(F:gH W f h H dY)(g:h.closure=[])(b:Binds dY j L ts l)(A:aG G (L.map (·.2)) ts) (P:∀x t,(x,ae t)∉j)(S:(j.map (·.1)).Nodup)(I:Inv W G s) (B:∀p∈Δ,p.1∈wr\/p.2.gT=aj)(D:(Δ.map (·.1)).Nodup)(v:∀p∈Δ,G p.1=ah/\∃o,s.heap.get? p.1=ae o/\p.2.holds G o) (k:∀d,St (oN W n h f s.heap.objs.size dY ⟨G,s,wr⟩) l Δ G d->Inv W G d->Q (pe h f s.heap.objs.size) d):aD W.M A' (oy h.scope h.globals h.closure L (h.qualname++bo ".<locals>.") (ae f) h.code ah h.builtins) Q E s:=by
 simp only [oy,Option.isSome_none,ev,if_false];refine aa<|AN ?_;refine aa<|aeU _ (λN kind w=>by cases R:kind==wK<;>simp) _ _ _ _ ?_;rw[show({s with heap:=s.heap.push {cls:=.type "frame",data:=.dict #[]}}:bk).heap.objs.size=s.heap.objs.size+1 from e_ ..];haveI hs:(s.heap.push {cls:=.type "frame",data:=.dict #[]}).objs.size=s.heap.objs.size+1:=e_ ..;have i:∀b o,s.heap.get? b=ae o->(tV (s.heap.push {cls:=.type "frame",data:=.dict #[]}) h.scope.names).get? b=ae o:=λb o e=>nq _ _ b o<|aN _ e;haveI y:=uX h.scope.names (s.heap.push {cls:=.type "frame",data:=.dict #[]}) h.closure (by rw[g];exact pA)<|by rw[g];exact uR
 rw[hs] at y;refine aa<|b.run (C:=oN W n h f s.heap.objs.size dY ⟨G,s,wr⟩) _ (λ_ _ _=>rfl) (s:={s with heap:=tV (s.heap.push {cls:=.type "frame",data:=.dict #[]}) h.scope.names}) {kind:=F.kind,glob:=F.glob,blt:=F.blt,nodup:=S,vars:=λx t m=>absurd m<|P x t,loc:=⟨_,(Q1 s.heap<|.type "frame").keeps<|nq _ _⟩,rR:=I.cL<|al _,cell:=λx c e=>?_,apart:=y.1,dY:=λx m=>(F.stores s.heap.objs.size x m).imp (λq=>⟨q,aV<|al _⟩) λq=>⟨q.1,q.2.imp λc e=>⟨e.1,aV<|aF e.2⟩⟩,own:=λp m=>?_,hU:=D,ext:=⟨λa o e _=>i a o e,λ_ _ e=>e,λ_ _=>.inl⟩} ⟨λa o e=>i a o<|I.hM a o e,I.hb,I.bare,I.os⟩ A λd u r=>?_;.exact(y.2 _<|mem_of_lookup e).elim (λm=>absurd (g▸m) b_) λz=>⟨I.cL<|d_ z.1,_,z.2⟩
 .exact(v p m).elim λa q=>q.elim λo e=>⟨a,⟨o,i _ _ e.1,e.2⟩,.inr<|B p m,bJ<|db e.1⟩
 .exact ag<|k d u r
theorem H'{K:aW->Gh->bk->Prop}(F:gH W f u r dY)(i:u.closure=[])(hb:kf s u ⟨D,[]⟩ bs)(b:Binds dY a bs ts j)(S:aG G (bs.map (·.2)) ts) (h0:∀x t,(x,ae t)∉a)(hn:(a.map (·.1)).Nodup)(H:Ok A<|n+1)(I:Inv W G s) (a0:∀p∈Δ,p.1∈wr\/p.2.gT=aj)(a1:(Δ.map (·.1)).Nodup)(y:∀p∈Δ,G p.1=ah/\∃o,s.heap.get? p.1=ae o/\p.2.holds G o) (h:∀L,bZ (oN W n u f L dY ⟨G,s,wr⟩) j Δ r P) (w:∀L o Γ' bT g s' E,P o Γ' bT->o.is g E->Inv W g s'->St (oN W n u f L dY ⟨G,s,wr⟩) Γ' bT g s'->K (match E with|.ret v=>v|_=>.none) g s'):gU W.M A (.call (.ref f) ⟨D,[]⟩) (y7<|Ï W K) s:=by
 refine Rd F.look λoc od sl hl=>VZ F.code λc a2 a3 vs a4 t N Q R=>codeAny_call_function H.room (I.k _ _ hl) rfl F.co F.gen F.body (Rf c _ vs t N (I.k _ _ Q) rfl R)<|hb _ _ _ _<|Dc (n:=n) F i b S h0 hn I a0 a1 y λB l d=>⟨d.nolimit,codeAny_func ?_⟩;refine aC (h s.heap.objs.size (A.deeper<|pe u f s.heap.objs.size) G B ⟨H.hd,?_,?_⟩ d l) (λE C zz=>zz.casesOn λo Γ' bT g p q e m _=>⟨g,e,w _ o Γ' bT g C E p q e m⟩) λ_ _ z=>z.elim;.haveI:=H.depth;show A.depth+1+n<=900;exact Rj this
 .haveI:=H.units;show A.units+3+50*n<=9000;exact V7 this
theorem RD{K:aW->Gh->bk->Prop}(F:gH W f l g dY)(d:l.closure=[])(z:kf s l ⟨j,[]⟩ u)(b:Binds dY a u ts e)(m:aG G (u.map (·.2)) ts) (y:∀x t,(x,ae t)∉a)(B:(a.map (·.1)).Nodup)(C:Ok A<|n+1)(I:Inv W G s) (q:∀p∈Δ,p.1∈wr\/p.2.gT=aj)(r:(Δ.map (·.1)).Nodup)(i:∀p∈Δ,G p.1=ah/\∃o,s.heap.get? p.1=ae o/\p.2.holds G o) (c:∀L,bZ (oN W n l f L dY ⟨G,s,wr⟩) e Δ g P) (h:∀L o Γ' bT k s' w,P o Γ' bT->o.is k w->Inv W k s'->St (oN W n l f L dY ⟨G,s,wr⟩) Γ' bT k s'->K (match w with|.ret v=>v|_=>.none) k s'):aD W.M A (call (.ref f) j) (Ï W K) (λ_ _=>False) s:=oO (α:=Unit)<|H' F d z b m y B C I q r i c h
end
section
inductive Kind:T->String->Prop|str (x):Kind (.str x) "str"|list (ts):Kind (.list ts) "list"
theorem Kind.is{K:String}(k:Kind t K)(I:Inv W G s)(h:Tr G v t):s.TypeIs v K/\∀a,v=.ref a->∃b,s.heap.get? a=ae b/\b.dict=none:=by cases k with|str x=>cases h;exact⟨rfl,λa q=>by cases q⟩|list f=>cases h using Tr.rQ with|seq g c d e t=>exact⟨⟨_,I.hM _ _ g,c⟩,λa q=>by cases q;exact⟨_,I.hM _ _ g,d rfl⟩⟩
theorem Ev.nK{name:bC}{K id:String}(M:Ev C D Ω o a)(B:Kind a K)(P:TQ K)(t:yC K name id)(y:fA (.builtin id)=bB (.type "method_descriptor"))(h:oD C D Ω c ts)(k:cf (.builtin id) (a::ts) n r)(L:n<=C.n) (N:autoParam (∀env,(bb pos<|aw c env).any (·.1)=false) eX) (H:autoParam (∀env,dG o name env (eval o env)=eval o env) eX) (p:autoParam (∀env,((bb pos<|aw c env).all (λx=>!x.1)&&(bK pos<|aX [] env).all (λx=>x.1.isSome)&&decide (c.length+([]:List ij).length+(if([]:List ij).isEmpty then 0 else 1)<30))=aj) eX) (i:autoParam ((m.endLine==pos.line)=aj) iF):Ev C D Ω (.Call (.Attribute o name m) c [] pos) r:=λA G s z I S=>by refine fc (H _) (p _) i P t y<|Run.use (M A G s z I S) λv u j b f d=>?_;(haveI E:=(B.is b d).1;haveI F:=(B.is b d).2);refine⟨E,F,gG (.builtin _) b.k ?_<|N _⟩;refine Run.use (h A j u pos z b<|S.mono f) λQ w l e g q=>⟨e.k,?_⟩;exact Run.ext (f.trans g)<|k C.W A l w _ (z.le L) e<|.cons (d.mono g.sub) q
theorem F9(h:aG G a<|xs.map .str):∃l,a=tW l/\l.map (·.1)=xs:=by
 induction a generalizing xs with
 |nil=>cases xs with|nil=>exact⟨[],rfl,rfl⟩|cons x xs=>cases h
 |cons v a d=>
  cases xs with
  |nil=>cases h
  |cons x xs=>
   cases h using aG.ca with|cons h r=>
    refine aU (d r) λl b c=>?_;cases h
    exact⟨(x,_)::l,by rw[b];rfl,by rw[ax,c]⟩
theorem cf.join(f:i9 (xs.toArray.foldl (·+·.length+sep.length) 0)=false)(e:(dz sep xs).length<=aA):cf (.builtin "str.join") [.str sep,.list<|xs.map .str] 0<|.str<|dz sep xs:=λW A G s k m I h=>by
 cases h using aG.ca with|cons h r=>
  cases h
  cases r using aG.ca with|cons h r=>
   cases r
   refine gc (h.isList I) λa k i g j=>?_;subst i;refine aU (F9 j) λl d b=>?_;have c:s.heap.IsList a (tW l).toArray:=by rw[<-d];exact g
   refine rp fN rfl PySem.F.entry_str_join (PySem.F.args_str_join_2 _ _) (meets_str_join_list sep _ a l<|by rw[b];exact f) ⟨c,?_⟩;subst b;cases l with|nil=>exact⟨e,h_ I rfl rfl rfl<|Tr.str _ _⟩|cons p l=>cases l with|nil=>exact h_ I rfl rfl rfl<|Tr.str _ _|cons q l=>exact⟨e,h_ I rfl rfl rfl<|Tr.str _ _⟩
theorem cf.strip(a:x.length<=aA):cf (.builtin "str.strip") [.str x] 0<|.str<|iC x:=λW A G s c b I h=>by
 cases h using aG.ca with|cons h r=>
  cases h;cases r
  exact SC.strip (λ_ _=>h_ I rfl rfl rfl<|Tr.str _ _) a
theorem Ev.cast(h:Ev C a Ω e t)(q:t=t'):Ev C a Ω e t':=q▸h
theorem sO(h:x∈lK l a b c):x∈l:=by skip;refine aU (List.mem_filterMap.mp h) λk _=>aZ
theorem kJ(l:List α)(a b c):(lK l a b c).length<=l.length:=by
 haveI:=VF (l.map λ_=>eN).toArray a b c;unfold tR at this;skip;haveI e:∀d:List Nat,(d.filterMap ((l.map λ_=>eN).toArray[·]?)).length=(d.filterMap (l[·]?)).length:=by
  intro d;haveI q:(d.filterMap ((l.map λ_=>eN).toArray[·]?))=(d.filterMap (l[·]?)).map λ_=>Value.none:=by rw[Jt];congr 1;funext i;simp
  rw[q,af]
 simp only [gi,af,e] at this;exact this
theorem n8(c:xs.length<=n)(e:∀x∈xs,x.length<=B)(hs:sep.length<=1)(k:n*(B+1)<=aA):i9 (xs.toArray.foldl (·+·.length+sep.length) 0)=false/\(dz sep xs).length<=sizeLine:=by
 haveI f:∀(l:List bC) (a),(∀x∈l,x.length<=B)->l.foldl (·+·.length+sep.length) a<=a+l.length*(B+1):=by intro l;induction l with|nil=>intro a _;simp|cons x l i=>intro a h;have c:=h x bH;haveI:=i (a+x.length+sep.length) λy m=>h y<|aY _ m;rw[gm,be,wL];exact af4 hs c this
 have g:∀(l:List bC) (a),(∀x∈l,x.length<=B)->(l.foldl (λd p=>d++sep.cps++p.cps) a).size<=a.size+l.length*(B+1):=by intro l;induction l with|nil=>intro a _;simp|cons x l i=>intro a h;have c:=h x bH;rw[gm,be,wL];have:=i (a++sep.cps++x.cps) λy m=>h y<|aY _ m;rw[nJ,nJ] at this;skip;exact af5 hs c this
 haveI b:=ab (cw _ c) k;constructor;.unfold i9;rw[List.foldl_toArray];have:=f xs 0 e;simp only [decide_eq_false_iff_not,gt_iff_lt,iR];exact af6 b this
 .skip;cases xs with|nil=>show(0:Nat)<=_;exact au _|cons x xs=>haveI j:=e x bH;haveI:=g xs x.cps λy m=>e y<|aY _ m;skip;skip;rw[be,wL] at b;exact af7 b j this
end
theorem lQ{α b:Type}(p:α->Bool)(f:α->b)(l:List α):(l.map λx=>if p x then[f x] else[]).flatten=(l.filter p).map f:=by induction l with|nil=>rfl|cons x c a=>rw[ax,eT,a,iq];cases p x<;>simp
theorem oQ{α b:Type}(p:α->Bool)(f:α->List b)(l:List α):(l.map λx=>if p x then f x else[]).flatten=(l.filter p).flatMap f:=by induction l with|nil=>rfl|cons x c a=>rw[ax,eT,a,iq];cases p x<;>simp
section
structure TurnOk(C U')(Ω:bM)(target ifs elt t b r Γ'):Prop where
 bnd:CD C U' target t Γ'
 back:∀x t,(x,ae t)∈U'->(x,ae t)∈Γ'
 Un:∀bT,(∀p∈Ω,p∈bT)->A6 C Γ' bT ifs b
 elt:∀bT,(∀p∈Ω,p∈bT)->b=aj->Ev C Γ' bT elt r
theorem ub{α:Type}{xs:List α}{g:α->T}{p:α->Bool}{f:α->T}{Γ':α->cG}(h:∀x∈xs,TurnOk C l Ω a j e (g x) (p x) (f x) (Γ' x)):Clause C l Ω a j (F7 e C.env) (xs.map g)<|xs.map λx=>if p x then[f x] else[]:=by
 refine⟨by simp,λi t o s n=>?_⟩;rw[aq,aT] at s n;refine aU s λx u q0=>?_;clear s;subst q0;refine aU n λy v q1=>?_;clear n;subst q1;rw[u] at v;cases v
 have k:=h x<|aZ u;refine t9 (Γ' x) (p x) k.bnd k.back λw r=>⟨λd b=>k.Un _ λq m=>.tail _<|r q m,λc=>?_,λc=>by rw[c];rfl⟩;rw[c];exact F6.out λd b=>k.elt _ (λq m=>.tail _<|r q m) c
structure Ib{β:Type}(C U')(Ω:bM)(t1 f1 t2 i2 f2 elt t b)(ys:List β)(g2)(p2:β->Bool)(f:β->T)(Γ')(CY:β->cG):Prop where
 bnd:CD C U' t1 t Γ'
 back:∀x t,(x,ae t)∈U'->(x,ae t)∈Γ'
 Un:∀bT,(∀p∈Ω,p∈bT)->A6 C Γ' bT f1 b
 it:∀bT,(∀p∈Ω,p∈bT)->b=aj->fR C Γ' bT i2 t2 (ys.map g2)
 inner:b=aj->∀y∈ys,TurnOk C Γ' Ω t2 f2 elt (g2 y) (p2 y) (f y) (CY y)
theorem w9{α:Type}{xs:List α}{g:α->T}{p:α->Bool}{H:α->List l}{L:α->l->T}{F:α->l->Bool}{f:α->l->T}{Γ':α->cG}{e:α->l->cG} (h:∀x∈xs,Ib C u Ω G v N E I r (g x) (p x) (H x) (L x) (F x) (f x) (Γ' x) (e x))(M:∀env x,bm E env x=bB x):Clause C u Ω G v (CZ r G i1 N E v I s pos C.env) (xs.map g)<|xs.map λx=>if p x then((H x).filter<|F x).map (f x) else[]:=by
 refine⟨by simp,λi t o A w=>?_⟩;rw[aq,aT] at A w;refine aU A λx B q0=>?_;clear A;subst q0;refine aU w λy D q1=>?_;clear w;subst q1;rw[B] at D;cases D
 have k:=h x<|aZ B;refine t9 (Γ' x) (p x) k.bnd k.back λP j=>⟨λn c=>k.Un _ λq m=>.tail _<|j q m,λd=>?_,λd=>by rw[d];rfl⟩;rw[d];skip;rw[<-lQ];exact F6.more (λn c=>k.it _ (λq m=>.tail _<|j q m) d) (ub λy m=>let z:=k.inner d y m;⟨z.bnd,z.back,λb a=>z.Un _ λq m=>a q<|j q m,λb a=>z.elt _ λq m=>a q<|j q m⟩)<|M _
theorem w_(a n):iI a 1 n=(aL n).map λ(i:Nat)=>T.int<|a+i:=by unfold iI;congr 1;funext i;rw[rq]
theorem rangeSize_one(a b):bQ a b 1=((b-a).toNat):=by unfold bQ;simp only [show(1:Int)>0 by decide,if_true];split<;>first|exact(congrArg (·+1)<|uI _).trans<|(Int.sub_add_cancel (b-a) 1).trans (jP<|rk<|nh<|by assumption).symm|exact(congrArg zt (Int.toNat_of_nonpos<|Int.sub_nonpos_of_le<|dv.mp<|by assumption).symm)
end
noncomputable def Uo(i:Nat)(q:bC)(c:cj):FuncData:=jG (oB PP i) q [] .none .none .none (.str "law_wz0046_01" 883) ah (.ref c) .none
theorem kK(W:Wd):l7 W.K a_ "range"=ae none:=by kernel_rfl
theorem oR(W:Wd):l7 W.K a_ "len"=ae none:=by kernel_rfl
theorem kL:cN "range"=ae (.type "range"):=by kernel_rfl
theorem oS:cN "len"=ae (.builtin "len"):=by kernel_rfl
theorem kM:("range":bC)≠"__name__":=by decide+kernel
theorem oT:("len":bC)≠"__name__":=by decide+kernel
noncomputable def M'(v:aW)(k:cj->Bool):Bool:=match v with|.ref a=>k a|_=>false
noncomputable def onStr(v:aW)(k:bC->Bool):Bool:=match v with|.str x _=>k x|_=>false
noncomputable def Na(d:Data)(k:Array aW->Bool):Bool:=match d with|.fields a=>k a|_=>false
noncomputable def xc{α:Type}(o:Option α)(k:α->Bool):Bool:=match o with|some x=>k x|none=>false
theorem Dd(h:M' v k=aj):∃a,v=.ref a/\k a=true:=by cases v with|ref a=>exact⟨a,rfl,h⟩|_=>exact fT h
theorem sP(h:onStr v k=aj):∃x t,v=.str x t/\k x=true:=by cases v with|str x t=>exact⟨x,t,rfl,h⟩|_=>exact fT h
theorem JN(h:Na d k=aj):∃a,d=.fields a/\k a=true:=by cases d with|fields a=>exact⟨a,rfl,h⟩|_=>exact fT h
theorem qD(h:xc o k=aj):∃x,o=ae x/\k x=true:=by cases o with|some x=>exact⟨x,rfl,h⟩|none=>exact fT h
noncomputable def sQ(K:np)(c:cj)(k:aW->Array aW->Bool):Bool:=xc (K.lookup c) λo=>Na o.data<|k o.cls
theorem pP{K:np}(h:sQ K c k=aj):∃b f a g,K.lookup c=ae ⟨b,f,.fields a,g⟩/\k b a=true:=by refine aU (qD h) λo e h=>aU (JN h) λa d h=>⟨o.cls,o.dict,a,o.slots,e.trans<|congrArg ae<|d▸rfl,h⟩
noncomputable def codeIn(K:np)(a:cv):Bool:=M' a.code λc=>sQ K c λ_ b=>xc b[1]? λv=>onStr v λq=>q==a.qualname
theorem Ic{K:np}(h:codeIn K g=aj):∃c b d a f t,g.code=.ref c/\K.lookup c=ae ⟨b,d,.fields a,f⟩/\a[1]?=ae (.str g.qualname t):=by refine aU (Dd h) λc e h=>y3 (pP h) λb d a f i h=>aU (qD h) λv j h=>j7 (sP h) λx t k h=>⟨c,b,d,a,f,t,e,i,by rw[j,k,h7 h]⟩
noncomputable def Wu(a:List bC)(way:List Int)(k:Nat):Str:=dz " "<|lK a (ae<|way.getD k 0) (ae<|way.getD (k+1) 0) ah
noncomputable def pf(a:List bC)(way:List Int):List Str:=(aL<|way.length-1).map<|Wu a way
theorem xd(W:Wd):l7 W.K a_ "sum"=ae none:=by kernel_rfl
theorem A_(W:Wd):l7 W.K a_ "min"=ae none:=by kernel_rfl
theorem xe:cN "sum"=ae (.builtin "sum"):=by kernel_rfl
theorem Ba:cN "min"=ae (.builtin "min"):=by kernel_rfl
theorem xf:("sum":bC)≠"__name__":=by decide+kernel
theorem F_:("min":bC)≠"__name__":=by decide+kernel
noncomputable abbrev fq(n:Nat):T:=.int n
noncomputable abbrev eR(l:List Nat):T:=.list<|l.map fq
noncomputable def fits(c:List Int)(w:Int)(a b:Nat):Bool:=b==a+1||decide ((lK c (ae a) (ae b) ah).sum<=w)
noncomputable def ge(b:List Int)(w:Int)(a:Nat):List Nat:=((aL<|b.length-a).map (a+1+·)).filter<|fits b w a
noncomputable abbrev adT:FuncData:=Uo 18 "_law_ways" 460
noncomputable abbrev RE:List Str:=["weights","width","size","start","reach","need","ways","turn"]
theorem RG(n):iI 0 1 n=(aL n).map fq:=by rw[w_];apply aI;intro i _;skip;rw[eb]
theorem RH(a n:Nat):iI (a+1) 1 n=((aL n).map (a+1+·)).map fq:=by rw[w_,aE];apply aI;intro i _;skip;congr 1
noncomputable def F2:List Nat->Nat|[]=>0|x::a=>a.foldl min x
noncomputable def fL(a:List Int)(w:Int):Nat->List Nat|0=>[0]|k+1=>(1+F2 ((ge a w<|a.length-(k+1)).map λb=>(fL a w k).getD (b-(a.length-(k+1))-1) 0))::fL a w k
theorem Bb(h:y.natAbs<2^60):f9 x y=false:=by
 unfold f9;haveI:y.natAbs.log2<60:=by
  by_cases q:y.natAbs=0;.rw[q];decide
  .exact(YJ q).mpr h
 haveI a:(if(y==0)=aj then 0 else y.natAbs.log2/30+1)<=300:=by split<;>first|exact au _|exact(dI (Nat.div_lt_of_lt_mul (k:=2) this)<|by decide)
 dsimp only;rw[decide_eq_false<|iR.mpr a,Bool.false_and]
theorem qE(b:List Int)(w:Int)(k:Nat):(fL b w k).length=k+1:=by induction k with|zero=>rfl|succ k a=>rw[fL,be,a]
theorem JO(h:a<b.length):ge b w a≠[]:=by
 have:a+1∈ge b w a:=by skip;refine dM.mpr ⟨am.mpr ⟨0,aR.mpr<|dr h,rfl⟩,?_⟩;unfold fits;simp
 intro q;rw[q] at this;exact absurd this b_
theorem foldl_min(l:List Nat)(a):(l.foldl min a=a\/l.foldl min a∈l)/\l.foldl min a<=a/\∀x∈l,l.foldl min a<=x:=by
 induction l generalizing a with|nil=>simp|cons y l f=>
  rw[gm];refine gR (f<|min a y) λc b d=>⟨?_,ab b<|kz ..,λx m=>?_⟩
  .refine dy c (λe=>?_) λe=>?_
   .rw[e];by_cases q:a<=y;.left;exact agg q
    .right;rw[show min a y=y from agh q];exact bH
   .exact .inr<|aY _ e
  .refine eQ m ?_ λm=>?_;.exact agi b
   .exact d x m
theorem De(h:l≠[]):((F2 l:Nat):Int)∈l.map λ(x:Nat)=>(x:Int):=by
 refine am.mpr ⟨_,?_,rfl⟩;cases l with|nil=>exact absurd rfl h|cons x a=>
  rcases(foldl_min a x).1 with e|e;.show a.foldl min x∈_;rw[e];exact bH
  .exact aY _ e
theorem Ie(l):∀x∈l.map (λ(x:Nat)=>(x:Int)),((F2 l:Nat):Int)<=x:=λx m=>by
 refine g7 m λy a=>?_;cases l with
 |nil=>cases a
 |cons z b=>
  (haveI c:=(foldl_min b z).2.1;haveI d:=(foldl_min b z).2.2);haveI:b.foldl min z<=y:=by
   refine eQ a ?_ λa=>?_;.exact c
   .exact d y a
  show((b.foldl min z:Nat):Int)<=_;exact(Ff bj this)
theorem rangeSize_down(k:Nat):bQ (k-1) (-1) (-1)=k:=by
 unfold bQ;simp only [show¬((-1)>0) by decide,if_false];split;.simp only [YK,uI];exact agk
 .exact agl<|by assumption
noncomputable def fP(way:List Nat):Nat:=way.getLastD 0
noncomputable def lr(c:List Int)(w:Int):Nat->List (List Nat)|0=>[[0]]|k+1=>(lr c w k).flatMap λa=>((ge c w<|fP a).filter λb=>(((fL c w c.length).getD b 0:Nat):Int)==(((fL c w c.length).getD (fP a) 0:Nat):Int)-1).map λb=>a++[b]
section
variable (W:Wd) (n L:Nat) (I:zT) (ws:List Int) (w:Int)
noncomputable abbrev UH(d:Option T)(b a c f e:Option T):cG:=[("weights",ae (.list<|ws.map .int)),("width",ae (.int w)),("size",d),("start",b),("reach",a),("need",c),("ways",f),("turn",e)]
theorem j8(a c:Int)(k:Nat):(iI a c k).length=k:=by simp[iI]
end
noncomputable def cr(a:List Int)(w:Int):List<|List Nat:=lr a w<|(fL a w a.length).getD 0 0
theorem Bc(S d b a c n o)(j:o.cls=.type "list")(k:o.data=.seq a n)(hsz:b.size+a.size<=aA):Meets (dF.«list.extend» ⟨[.ref S,.ref d],[]⟩) λ_ R s=>s.heap.get? S=ae {cls:=.type "list",data:=.seq b c}/\s.heap.get? d=ae o/\R (.ok<|.ret .none) {s with heap:=s.heap.update S<|cn (·++a)}:=λg w A R s m=>gR m λe f i=>by
 show aD _ A.in1 (sr (.ref S) (.ref d) .none) _ _ s;skip;refine aa<|l9 ⟨o,f,j⟩ ?_;haveI h:(mD (.ref S) (.ref d)||Value.type "list"==eO "list"||Value.type "list"==eO "tuple")=true:=by simp
 simp only [h,if_true];refine aa ?_;skip;refine aa<|dX f k<|ag ?_;refine aa<|aa<|dX e rfl<|ag ?_;haveI l:(!b.isEmpty&&mE (b.size+a.size))=false:=by
  haveI:mE (b.size+a.size)=false:=by unfold mE;simp;exact(hsz)
  rw[this,k8]
 simp only [l,ev,if_false];skip;refine aa<|gC e rfl ?_;exact ag i
section
theorem bZ.newList{f:cj->cG}(n:x∈C.dY)(l:∀a,oC h x (.val<|.ref a)<|f a)(k:∀a,bZ C (f a) ((a,.list [])::Ω) rest P):bZ C h Ω (.Assign [.Name x p] (.List [] r) pos::rest) P:=.step λA G s t I S=>by
 refine yB (Fp<|cE ⟨au _,?_⟩) rfl;haveI g:s.heap.get? s.heap.objs.size=none:=aV<|al _;haveI v:=Ext.g4 G s {cls:=.type "list",data:=.seq ([]).toArray};haveI c:=I.g4 {cls:=.type "list",data:=.seq ([]).toArray};haveI b:=S.mono v;haveI d:St C h ((s.heap.objs.size,.list [])::Ω) G {s with heap:=s.heap.push {cls:=.type "list",data:=.seq ([]).toArray}}:=by
  refine{b with own:=λq m=>?_,hU:=?_}
  .refine eQ m ?_ λm=>?_;.exact⟨I.cL<|al _,⟨_,aS _ rfl,_,_,rfl,.nil⟩,(S.fresh g).imp id .inl,(S.fresh_ne g).1⟩
   .exact b.own q m
  .rw[ax,bV];refine⟨λm=>?_,b.hU⟩;refine aU (am.mp m) λq o e=>(S.fresh_ne g).2 q o e.symm
 exact d.store c n (l _) (Tr.val _) λu j i _=>⟨rfl,_,_,G,i,j,.refl G,k _⟩
theorem bZ.n9{id:String}(ho:Ev C n Ω o<|.val<|.ref a)(p:eL Ω a (.list ts) (.list Vc) bT)(E:yC "list" name id)(Q:fA (.builtin id)=bB (.type "method_descriptor"))(h:oD C n Ω c us) (R:∀A G s N,Inv C.W G s->St C n Ω G s->aG G N us->aD C.W.M A (call (.builtin id)<|.ref a::N) (λ_ s'=>Inv C.W G s'/\St C n bT G s') (λ_ _=>False) s)(k:bZ C n bT rest P) (hp:autoParam (∀env,(bb pos<|aw c env).any (·.1)=false) eX) (hb:autoParam (∀env,dG o name env (eval o env)=eval o env) eX) (y:autoParam (∀env,((bb pos<|aw c env).all (λx=>!x.1)&&(bK pos<|aX [] env).all (λx=>x.1.isSome)&&decide (c.length+([]:List ij).length+(if([]:List ij).isEmpty then 0 else 1)<30))=aj) eX) (m:autoParam ((w.endLine==pos.line)=aj) iF)(h1:autoParam (jS C.env=false) iF):bZ C n Ω (.Expr (.Call (.Attribute o name w) c [] pos) a0::rest) P:=.expr (λA G s ok I S=>by
 refine fc (hb _) (y _) m hZ E Q<|Run.use (ho A G s ok I S) λv H r g j B=>?_;cases B
 have d:=S.mono j;refine gR (d.own _ p.mem) λ_ q0 _=>?_;refine cc q0 λo' q1=>?_;clear q0;refine bu q1 λe q2=>?_;clear q1;refine j7 q2 λa2 n' q3 _=>?_;clear q2;subst q3;refine⟨⟨_,e,rfl⟩,λb q=>by cases q;exact⟨_,e,rfl⟩,gG (.builtin _) g.k ?_<|hp _⟩;refine Run.use (h A r H pos ok g d) λN L f i l D=>⟨i.k,?_⟩;refine aC (R A f L N i (d.mono l) D) (λv a1 zz=>bu zz λt u=>?_) λ_ _ z=>z;exact⟨n,bT,f,t,u,Sub.trans j.sub l.sub,k⟩) h1 rfl
theorem m9(p:eL Ω a (.list ts) (.list<|ts++[t]) bT)(e:ts.length<=aA):∀A G s b,Inv C.W G s->St C f Ω G s->aG G b [t]->aD C.W.M A (call (.builtin "list.append")<|.ref a::b) (λ_ s'=>Inv C.W G s'/\St C f bT G s') (λ_ _=>False) s:=λA G s b I S h=>by
 cases h using aG.ca with|cons h r=>
  cases r
  exact S.append I p h e λs' c d=>⟨c,d⟩
theorem rW(p:eL Ω a (.list ts) (.list<|ts++us) bT)(v:ts.length+us.length<=aA):∀A G s f,Inv C.W G s->St C E Ω G s->aG G f [.list us]->aD C.W.M A (call (.builtin "list.extend")<|.ref a::f) (λ_ s'=>Inv C.W G s'/\St C E bT G s') (λ_ _=>False) s:=λA G s f I S h=>by
 cases h using aG.ca with|cons h r=>
  cases r
  refine sB (S.own _ p.mem) λH q0 L w=>?_;refine cc q0 λN q1=>?_;clear q0;refine bu q1 λd q2=>?_;clear q1;refine j7 q2 λm z q3 k=>?_;clear q2;subst q3;refine vH (h.listOf I) λb o n f D g y t u l=>?_;subst D;haveI e:=l.length;have q:=k.length;skip;refine rp jD ⟨_,d,rfl⟩ PySem.F.entry_list_extend (PySem.F.args_list_extend_2 _ _) (Bc a b m f z n o t u<|agO v e q) ⟨d,y,?_⟩;haveI i:iO a s.heap<|s.heap.update a<|cn (·++f):=cW ..;haveI j:=λc x B=>i.extBut c x B;refine⟨I.dU S p.mem j rfl rfl,S.dU p rfl rfl j ⟨_,cK _ d rfl,m++f,_,rfl,?_⟩⟩;rw[jE];exact k.append l
theorem bZ.append(m:Ev C f Ω o<|.val<|.ref a)(p:eL Ω a (.list ts) (.list<|ts++[u]) bT)(h:Ev C f Ω e u)(l:ts.length<=aA)(k:bZ C f bT rest P) (hs:autoParam (∀env,aw [e] env=(false,eval e env)::aw [] env) eX) (n:autoParam (∀env,(bb pos<|aw [e] env).any (·.1)=false) eX) (j:autoParam (∀env,dG o "append" env (eval o env)=eval o env) eX) (d:autoParam (∀env,((bb pos<|aw [e] env).all (λx=>!x.1)&&(bK pos<|aX [] env).all (λx=>x.1.isSome)&&decide ([e].length+([]:List ij).length+(if([]:List ij).isEmpty then 0 else 1)<30))=aj) eX) (b:autoParam ((c.endLine==pos.line)=aj) iF)(i:autoParam (jS C.env=false) iF):bZ C f Ω (.Expr (.Call (.Attribute o "append" c) [e] [] pos) g::rest) P:=.n9 m p fU fV (.cons h .nil hs) (m9 p l) k n j d b i
theorem bZ.uc(a:List T->bM)(h:pz C f (a ts) d b)(g:bZ C f (a ts) c λo Γ' bT=>o=.next/\Γ'=f/\bT=a (ts++[u]))(k:bZ C f (a<|bif b then ts++[u] else ts) rest P):bZ C f (a ts) (.If d c [] pos::rest) P:=by cases b with|true=>exact .ite h (λ_=>g.mono λo Γ' bT e=>by refine gR e λi j l=>?_;try clear e;subst i;subst j;subst l;exact k) tF|false=>exact .ite h fT λ_=>.nil k
end
theorem Bd(W:Wd):l7 W.K a_ "max"=ae none:=by kernel_rfl
theorem Be:cN "max"=ae (.builtin "max"):=by kernel_rfl
theorem Nc:("max":bC)≠"__name__":=by decide+kernel
theorem F'(W:Wd):l7 W.K a_ "zip"=ae none:=by kernel_rfl
theorem Ga:cN "zip"=ae (.type "zip"):=by kernel_rfl
theorem Nd:("zip":bC)≠"__name__":=by decide+kernel
theorem fe.Wv:fe .NotEq (.bool a) (.bool b)<|a !=b:=λW A G s v u e I d c=>by cases d;cases c;exact ne_bool ⟨G,I,.refl G s,rfl⟩
set_option genInjectivity true in
structure dp where
 tag:bC
 i:Int
 j:Int
 x:Int
 y:Int
deriving DecidableEq
noncomputable def dp.t(c:dp):T:=.tuple [.str c.tag,.int c.i,.int c.j,.int c.x,.int c.y]
noncomputable def j9(a:List Bool)(p:Nat):Bool:=(p==0||p==a.length)||a.getD p false !=a.getD (p-1) false
noncomputable def gf(a:List Bool):List Nat:=(aL<|a.length+1).filter<|j9 a
noncomputable def y8(a b:Int):Int:=if b>a then b else a
noncomputable def y9(a b:Int):Int:=if b<a then b else a
noncomputable def jZ(d:List Bool)(a rest:Int)(b c:Nat):List dp:=let i:=y8 b a-a
 let j:=y8 c a-a
 let x:=y9 b rest
 let y:=y9 c rest
 let e:Str:=if d.getD b false then"equal" else if decide (i<j)&&decide (x<y) then"replace" else if decide (i<j) then"delete" else"insert"
 if decide (i<j)||decide (x<y) then[⟨e,i,j,x,y⟩] else[]
noncomputable def nL(a:List Bool)(b rest:Int):List dp:=((gf a).zip<|(gf a).drop 1).flatMap λp=>jZ a b rest p.1 p.2
noncomputable def MK(p:Nat):T->Bool|.int k=>k==p|_=>false
theorem Gb{α:Type}(l:List α)(a n)(h:a+n<=l.length):(aL n).filterMap (λk=>l[a+k]?)=(l.drop a).take n:=by induction n with|zero=>rfl|succ n b=>haveI:=h;rw[gk,lI,b<|aF h,cA,fj,jI,ay this];rfl
theorem z4{α:Type}(l:List α)(a b)(c:a<=b)(d:b<=l.length):(rm a b 1).filterMap (l[·]?)=(l.drop a).take (b-a):=by
 unfold rm;simp only [show(1:Int)>0 by decide,if_true];haveI e:(if(a:Int)<b then((b:Int)-a+1-1)/1 else 0).toNat=b-a:=by
  split;.rw[uI];exact(congrArg br<|Lw _ 1).trans<|mj b a
  .exact(qr<|bj.mp<|dv.mp<|by assumption).symm
 rw[e,nj,<-Gb l a (b-a)<|Zh c d];congr 1;funext k;show l[(a+1*(k:Int)).toNat]?=_;congr 1;exact agP
theorem xg(l:List α)(a:Nat):lK l (ae a) ah ah=l.drop a:=by
 unfold lK;rw[po];simp only [CG];haveI b:Fz l.length a=min a l.length:=by unfold Fz;rw[if_neg<|dv.mpr<|bc a];exact UC ..
 rw[b,z4 l (min a l.length) l.length (eI ..)<|al _];rw[gz<|by rw[cH];exact(no)];by_cases h:a<=l.length;.rw[dB h]
 .rw[Qu<|Zq h,vz,List.drop_eq_nil_of_le<|Zq h]
theorem wl(l:List α)(a b)(c:a<=b)(d:b<=l.length):lK l (ae a) (ae b) ah=(l.drop a).take (b-a):=by
 unfold lK;rw[po];simp only [CG];haveI f:Fz l.length a=a:=by unfold Fz;rw[if_neg<|dv.mpr<|bc a];exact(UC ..).trans<|dB<|ab c d
 haveI e:Fz l.length b=b:=by unfold Fz;rw[if_neg<|dv.mpr<|bc b];exact(UC ..).trans<|dB d
 rw[f,e,z4 l a b c d]
theorem z5(l:List α):lK l (ae 1) ah ah=l.drop 1:=xg l 1
theorem xh(a):(gf a).length<=a.length+1:=by refine ab (dS _ _) ?_;rw[aO];exact al _
theorem Df{c:List Bool}{k:Nat}(h:((gf c).zip<|(gf c).drop 1)[k]?=ae (a,b)):a<b/\b<=c.length:=by
 haveI g:(gf c).Pairwise (·<·):=Yd _ CH;haveI f:∀x∈gf c,x<=c.length:=λx m=>by haveI:=aR.mp (dM.mp m).1;exact(cg this)
 generalize gf c=l at h g f;rw[Q3,Fs] at h;cases e:l[k]?with
 |none=>rw[e] at h;cases h
 |some x=>
  cases d:(l.drop 1)[k]?with
  |none=>rw[e,d] at h;cases h
  |some y=>
   rw[e,d] at h;cases h
   rw[fj] at d;(haveI i:=List.getElem?_eq_some_iff.mp e;haveI o:=i.1;haveI j:=i.2);refine cc (List.getElem?_eq_some_iff.mp d) λp n=>⟨?_,f _<|aZ d⟩;haveI:=List.pairwise_iff_getElem.mp g k (1+k) o p Zs;rw[j,n] at this;exact this
theorem eL.app(Δ)(p:eL Ω a b c bT):eL (Δ++Ω) a b c<|Δ++bT:=by induction Δ with|nil=>exact p|cons q Δ d=>exact .there d
theorem u9(d c rest a b):(jZ d c rest a b).length<=1:=by unfold jZ;dsimp only;split<;>simp
theorem Nf{α b:Type}(l:List α)(f:α->List b)(h:∀x∈l,(f x).length<=B):(l.flatMap f).length<=l.length*B:=by induction l with|nil=>simp|cons x l a=>rw[cI,aM,be,wL];haveI:=h x bH;haveI:=a λy m=>h y<|aY _ m;exact Zt (by assumption) this
noncomputable abbrev Ww:FuncData:=Uo 22 "_law_codes" 482
noncomputable abbrev Ng:List Str:=["same","ahead","rest","edges","codes","start","stop","i","j","x","y","tag"]
section
variable (W:Wd) (n L:Nat) (I:zT) (same:List Bool) (ahead rest:Int)
noncomputable abbrev Ñ(b a c d i j x y e:Option T):cG:=[("same",ae (.list<|same.map .bool)),("ahead",ae (.int ahead)),("rest",ae (.int rest)),("edges",b),("codes",a),("start",c),("stop",d),("i",i),("j",j),("x",x),("y",y),("tag",e)]
end
section
theorem fR.bytes(h:Ev C z Ω e<|.bytes b):fR C z Ω e (.Name x p)<|b.toList.map λc=>.int c.toNat:=λA G s t I S=>by
 refine Run.use (h A G s t I S) λv a k d f g=>?_;obtain⟨j,rfl⟩:∃j,v=.bytes b j:=by cases g;exact⟨_,rfl⟩
 refine KBw.pyIter_bytes<|pN (P:=λi v=>∃c u,b[i]?=ae c/\v=.int c.toNat u) (S:=λi h=>KBw.IsBytesIter h a.heap.objs.size b j i) d f rfl (λ_=>iP) (λA r=>((af _).trans aP).symm▸KBw.walks r a.heap.objs.size b j) (λA i v H Q E L=>pM λ_ _=>rfl) (λ_ _ q=>q.elim λo q=>⟨o,q.1,λ_=>q.2.2▸iP⟩) (λi v u B l m F=>by
   refine j7 l λc y n w=>?_;try clear l;subst w
   rw[aq,bN,n] at m;cases m
   exact Tr.int _ _) (fm (.inl<|.head _) uR) λh e D=>⟨_,e,rfl,rfl⟩
theorem cf.Wx(f:∀n∈ns,0<=n/\n<256)(d:ns.length<=aA):cf (.type "bytes") [.list<|ns.map .int] 0<|.bytes<|byteArr ns:=λW A G s m i I h=>by
 cases h using aG.ca with|cons h r=>
  refine gc (h.isList I) λa m j g l=>?_;subst j;cases r
  haveI b:=oL l;haveI e:=b.length;refine call_bytes_ints (by simpa using g) b f (by rw[e];exact d) i.hd λo t k c=>Run.grow I c rfl rfl<|Tr.bytes _ _
theorem cf.lenBytes(a:b.size<=aA):cf (.builtin "len") [.bytes b] 0<|.int b.size:=λW A G s d c I h=>by
 cases h using aG.ca with|cons h r=>
  cases r;cases h
  haveI:=KBw.ints_length b;refine KBw.len_K rfl (by rw[this];unfold aA at a;exact(ab a<|ap rfl)) ?_;rw[this];exact h_ I rfl rfl rfl<|Tr.int _ _
end
end
section
open List renaming filter_sublist->HH
open PySem PySem.W
section
variable (ws:List Int) (w:Int)
noncomputable def sw(x:Nat):Nat:=(fL ws w ws.length).getD x 0
theorem Gd(k j):(fL ws w<|k+j).drop j=fL ws w k:=by induction j with|zero=>rfl|succ j a=>rw[show k+(j+1)=(k+j)+1 from TY,fL,mT,a]
theorem xi(h:k<=ws.length)(i):(fL ws w k).getD i 0=sw ws w (ws.length-k+i):=by unfold sw;haveI:=Gd ws w k<|ws.length-k;rw[show k+(ws.length-k)=ws.length from zP h] at this;rw[<-this,ak,ak,fj]
theorem wm:sw ws w ws.length=0:=by haveI:=xi ws w (au _) 0;skip;rw[<-this];rfl
theorem iJ:b∈ge ws w a↔a<b/\b<=ws.length/\fits ws w a b=true:=by
 unfold ge;rw[dM,am];constructor
 ·(intro q0;refine bu q0 λq1 h=>?_;clear q0;refine aU q1 λk f q2=>?_;clear q1;subst q2);haveI:=aR.mp f;exact⟨Mx,(HO this).2,h⟩
 ·(intro g;refine gR g λc d e=>?_);exact⟨⟨b-a-1,aR.mpr<|aB (jt (dr c) ju)<|dq d a,cX c⟩,e⟩
theorem xj(h:a<ws.length):sw ws w a=1+F2 ((ge ws w a).map<|sw ws w):=by haveI c:ws.length-a=(ws.length-a-1)+1:=(du<|dr h).symm;haveI:=xi ws w (ZG c) 0;rw[show ws.length-((ws.length-a-1)+1)+0=a from ZH c] at this;rw[<-this,fL];simp only [HG];rw[show ws.length-(ws.length-a-1+1)=a from ZI c];congr 2;apply aI;intro b f;rw[xi ws w ZJ];refine gR ((iJ ws w).mp f) λd e _=>?_;congr 1;exact ZK d e
theorem Ge(h:b∈ge ws w a):sw ws w a<=1+sw ws w b:=by haveI c:=(iJ ws w).mp h;rw[xj ws w<|aB c.1 c.2.1];haveI:=Ie ((ge ws w a).map<|sw ws w) (sw ws w b)<|am.mpr ⟨_,am.mpr ⟨b,h,rfl⟩,rfl⟩;exact ZL this
theorem Ig(h:a<ws.length):0<sw ws w a:=by rw[xj ws w h];exact ZM
theorem ud(a)(h:a<=ws.length):sw ws w a<=ws.length-a:=by
 generalize b:ws.length-a=d;induction d generalizing a with
 |zero=>
  haveI:a=ws.length:=bA h<|FK b;rw[this,wm];exact al _|succ d e=>
  haveI c:a+1∈ge ws w a:=(iJ ws w).mpr ⟨HQ,lL b,by unfold fits;simp⟩;haveI:=Ge ws w c;haveI:=e (a+1) (lL b)<|congrArg ahL b;exact(ab (by assumption)<|ab (aH<|bx ..)<|aK this)
theorem ue(i:Nat):∀way∈lr ws w i,way≠[]/\fP way<=ws.length/\way.length=i+1/\sw ws w (fP way)+i=sw ws w 0:=by
 induction i with|zero=>intro way h;rw[lr,ao] at h;subst h;exact⟨by simp,au _,rfl,rfl⟩|succ i c=>
  intro way h;rw[lr,iu] at h;refine aU h λu a h=>g7 h λb m=>bu (dM.mp m) λd f=>?_;(haveI p:=(c u a).1;haveI q:=(c u a).2.1;haveI k:=(c u a).2.2.1;haveI l:=(c u a).2.2.2);(haveI g:=(iJ ws w).mp d;haveI o:=g.1;haveI j:=g.2.1);haveI e:fP (u++[b])=b:=by unfold fP;simp
  rw[e];haveI n:((sw ws w b:Nat))=(sw ws w<|fP u:Int)-1:=h7 f;haveI:=Ig ws w<|wR o j;exact⟨by simp,j,by simp[k],ZP l n⟩
theorem RI(g:ws.length<=100):∀i,i<(fL ws w ws.length).getD 0 0->∀way∈lr ws w i,way≠[]/\fP way<ws.length/\way.length<=1000:=λi a way h=>by
 refine sB (ue ws w i way h) λc d e b=>?_;haveI a:i<sw ws w 0:=a;haveI f:=ud ws w 0<|au _;refine⟨c,?_,ZQ g e a f⟩;refine dy (dJ (fP way) ws.length) (λq=>?_) λq=>?_;.exact q
 .haveI:fP way=ws.length:=T' d q;rw[this,wm] at b;exact ZR b a
theorem z6(a:ws.length<=100):(fL ws w ws.length).getD 0 0<=1000:=by haveI:=ud ws w 0<|au _;skip;exact ZS a this
theorem RJ{α:Type}(f:α->Nat){l m:List α}(h:l.Sublist m):(l.map f).sum<=(m.map f).sum:=by induction h with|slnil=>exact al _|cons x _ a=>rw[ax,cy];exact ZT a|cons_cons x _ a=>rw[ax,ax,cy,cy];exact ZU a
theorem RK(N a)(h:a<=N):(((aL<|N-a).map (a+1+·)).map λb=>2^(N-b)).sum+1=2^(N-a):=by
 generalize c:N-a=d;induction d generalizing a with|zero=>rfl|succ d g=>
  haveI:=g (a+1) (lL c)<|congrArg ahL c;haveI e:(aL<|d+1).map (a+1+·)=(a+1+0)::(aL d).map (a+1+1+·):=by rw[iN,ax,aE];congr 1;apply aI;intro k _;skip;exact ZV
  rw[e,ax,cy];haveI f:N-(a+1+0)=d:=congrArg ahL c;rw[f,Nat.pow_succ];exact ZX this
theorem Nh{α c:Type}(f)(g:c->Nat)(h)(l:List α)(a:∀x∈l,((f x).map g).sum<=h x):((l.flatMap f).map g).sum<=(l.map h).sum:=by induction l with|nil=>exact al _|cons x l b=>rw[cI,aJ,gp,ax,cy];haveI:=a x bH;haveI:=b λy m=>a y<|aY _ m;exact ZY (by assumption) this
theorem u_(i:Nat):((lr ws w i).map λu=>2^(ws.length-fP u)).sum<=2^ws.length:=by
 induction i with|zero=>simp[lr,fP]|succ i f=>
  refine ab ?_ f;skip;refine Nh _ _ _ _ λu d=>?_;rw[aE];refine gR (ue ws w i u d) λ_ a _=>?_;haveI e:((λu=>2^(ws.length-fP u))∘λb=>u++[b])=λb=>2^(ws.length-b):=by funext b;show 2^(ws.length-fP (u++[b]))=_;unfold fP;simp
  rw[e];haveI c:((ge ws w<|fP u).filter λb=>(((fL ws w ws.length).getD b 0:Nat))==(((fL ws w ws.length).getD (fP u) 0:Nat):Int)-1).Sublist<|(aL<|ws.length-fP u).map (fP u+1+·):=(HH).trans<|by unfold ge;exact HH
  haveI:=RJ (λb=>2^(ws.length-b)) c;haveI:=RK ws.length (fP u) a;exact ZZ (by assumption) this
theorem xk(d:ws.length<=16)(i):(lr ws w i).length<=100000:=by
 haveI a:=u_ ws w i;haveI b:∀l:List<|List Nat,l.length<=(l.map λu=>2^(ws.length-fP u)).sum:=λl=>by induction l with|nil=>exact al _|cons x l e=>
   skip;haveI:0<2^(ws.length-fP x):=eA<|by simp
   exact Ua e this
 haveI c:2^ws.length<=2^16:=rr (by decide) d;haveI:=b<|lr ws w i;haveI:2^16<=100000:=dN tt;exact(ab (by assumption)<|ab a<|ab c<|by decide)
end
end
section
open List renaming map_zipWith->oI,append_cons->Ma,zipWith_map->Mb,length_zip->QH,map_id'->VH
open PyProof.Rows renaming slot_tuple_getitem->j6,Assign_Tuple_swapped->QG,entry_tuple_getitem->YO,args_tuple_getitem->YQ,slicePart_none->aeW
open PySem renaming wpAny_Dict_empty->Ye,wpAny_getItem_of->Yg,call_isinstance->YL
open PySem.AutoSeq1 renaming idx_int->ah6,sub_list_list->ah7
open PySem.Builtin.Bytes renaming fitsIndex->tX
open PySem.Builtin.ObjectAttr renaming storeInOwnDict->L_
open PySem.Builtin.Tuple renaming tupleItemsOf->Yi,tupleExact->Yj
open PySem.F renaming slot_dict_itemiterator_iter->yQ
open PySem.Obj renaming putName->YN
open PySem.PyData renaming keyHash->m5
open PySem.W renaming instObj->LG,plainGet_of->QE,typeIs_bytes->ahQ
open PySem PySem.W PySem.Calls PyProof.Rows PySem.SeqAt
section
theorem vM.bytes{l:List UInt8}{i:Int}(c:l.length<=aA)(d:0<=i)(e:i<l.length)(hs:autoParam (∀o i,fb a false o i=k9 [o,i] (ig o i)) CU):vM a (.bytes l.toArray) (.int i)<|.int (l.getD i.toNat 0).toNat:=λW A G s v u b h I g f=>by
 cases g;cases f
 exact fX (ahQ _ _ _) FB.slot_bytes_getitem.lookup (getItem_bytes (by unfold aA at c;exact(ab c<|ap rfl)) d e<|h_ I rfl rfl rfl<|Tr.int _ _)<|.inl<|hs _ _
theorem cf.isBytes:cf (.builtin "isinstance") [.bytes b,.val<|.type "bytes"] 0<|.bool true:=λW A G s d c I h=>by
 cases h using aG.ca with|cons h r=>
  cases r using aG.ca with|cons a r=>
   cases r;cases h;cases a
   refine YL (isinstance_true (Tx:="bytes") (by kernel_rfl) F.bm_sub)<|⟨ahQ _ _ _,h_ I rfl rfl rfl<|Tr.bool _⟩
theorem cf.Dg:cf (.builtin "isinstance") [.int i,.val<|.type "tuple"] 0<|.bool false:=λW A G s c b I h=>by
 cases h using aG.ca with|cons h r=>
  cases r using aG.ca with|cons a r=>
   cases r;cases h;cases a
   refine YL (isinstance_false_int (dD tt) (by kernel_rfl)<|by rw[dg];kernel_rfl)<|h_ I rfl rfl rfl<|Tr.bool _
end
theorem Bf(a i v t u b)(j:0<=i)(m:i<b.size)(o:i<2^63)(D:0<=v/\v<256)(hsz:b.size<=aA):Meets (dF.«bytearray.__setitem__» ⟨[.ref a,.int i t,.int v u],[]⟩) λ_ R s=>s.heap.get? a=ae {cls:=.type "bytearray",data:=.bytearray b 0}/\∀l f,(∀c x,c≠a->s.heap.get? c=ae x->f.get? c=ae x)->f.get? a=ae {cls:=.type "bytearray",data:=.bytearray (b.setIfInBounds i.toNat v.toNat.toUInt8) 0}->R (.ok<|.ret .none) {s with heap:=f,toks:=l}:=.of_wp λk w A R s r=>bu r λe n=>by
 obtain⟨p,g,d,l,E⟩:=s;haveI y:=ah6;haveI z:=wM;haveI B:=ah7;wp_walk using rM e;haveI C:tX i=true:=by unfold tX;simp;exact Z1 j o
 skip;wp_walk using rM e
 .rw[StrLaws.seqIndex_nonneg j m];refine aa ?_;show aD _ _ (YM a λx=>x.setIfInBounds i.toNat v.toNat.toUInt8) _ _ _;skip;refine aa<|i_ e ?_;haveI h:((p.update a<|QC λx=>x.setIfInBounds i.toNat v.toNat.toUInt8).get? a)=ae {cls:=.type "bytearray",data:=.bytearray (b.setIfInBounds i.toNat v.toNat.toUInt8) 0}:=by rw[cK _ e rfl];rfl
  refine aa<|ahR e ?_;refine zA h (by unfold L0;simp;exact(hsz))<|ag ⟨_,rfl,n _ _ (λc x q=>(cW ..).extBut c x q) h⟩
section
theorem oC.p0:oC ((x,o)::a) x t<|(x,ae t)::a:=.here
theorem oC.p1:oC (b0::(x,o)::a) x t<|b0::(x,ae t)::a:=.there .p0
variable (hd:autoParam ((x==bo "__debug__")=false) Rv)
include hd
theorem Ev.n0:Ev C ((x,ae t)::a) Ω (.Name x pos) t:=.name (aZ (i:=0) rfl) hd
theorem Ev.n1:Ev C (b0::(x,ae t)::a) Ω (.Name x pos) t:=.name (aZ (i:=1) rfl) hd
end
theorem oC.at(h:a[k]?=ae (x,o)):oC a x t<|a.set k (x,ae t):=by induction a generalizing k with|nil=>exact nS h|cons b a c=>cases k with|zero=>exact bq h▸.here|succ k=>exact .there<|c h
section
theorem Ev.g(i:Nat)(h:autoParam (ae (x,ae t)=b[i]?) iF)(a:autoParam ((x==bo "__debug__")=false) Rv):Ev C b Ω (.Name x pos) t:=.name (aZ h.symm) a
theorem oC.g(i)(h:autoParam (ae (x,o)=a[i]?) iF)(b:autoParam (a.set i (x,ae t)=Γ') iF):oC a x t Γ':=b▸.at h.symm
end
theorem ai{l:List bC}(h:autoParam (l.contains x=aj) Rv):x∈l:=by rw[lJ] at h;exact h
structure iU(G)(s:bk)(Δ:bM):Prop where
 nodup:(Δ.map (·.1)).Nodup
 own:∀p∈Δ,G p.1=ah/\∃o,s.heap.get? p.1=ae o/\p.2.holds G o
theorem iU.nil(G s):iU G s []:=⟨dD tt,λp m=>by cases m⟩
theorem iU.mono(x:iU G s Δ)(e:Ext G s d s'):iU d s' Δ:=⟨x.nodup,λp m=>aU (x.own p m).2 λo b c=>⟨e.none_of (x.own p m).1 b,o,e.heap _ _ b,Ob.lz e.sub c⟩⟩
inductive sR(W G s)(Δ:bM)(P:T->bM->Prop)(v s'):Prop|mk (G') (t) (UL) (p:P t UL) (i:Inv W G' s') (x:y4 ⟨G,s,Δ.map (·.1)⟩ G' s') (w:iU G' s' UL) (n:∀p∈UL,p.1∈Δ.map (·.1)\/s.heap.get? p.1=ah) (tr:Tr G' v t)
noncomputable def cu(W:Wd)(f:aW)(ts:List T)(n:Nat)(Δ:bM)(P:T->bM->Prop):Prop:=∀A G s a,Ok A n->Inv W G s->aG G a ts->iU G s Δ->gU W.M A (.call f ⟨a,[]⟩) (y7<|sR W G s Δ P) s
section
theorem St.perm(S:St C a Ω G s)(h:Ω.Perm bT):St C a bT G s:={S with own:=λp m=>S.own p<|h.mem_iff.mpr m,hU:=(h.map _).nodup_iff.mp S.hU}
theorem St.owns(S:St C c (Δ++Ω) G s):iU G s Δ:=⟨by haveI:=S.hU;rw[aJ,dZ] at this;exact this.1,λp m=>gR (S.own p<|bp _ m) λa b _=>⟨a,b⟩⟩
theorem y4.none_of(e:y4 I b s')(h:I.G a=ah)(l:I.s.heap.get? a=ae o)(w:a∉I.wr):b a=none:=by
 cases q:b a with|none=>rfl|some o=>
  rcases e.new a o q with z|z|z;.rw[h] at z;cases z
  .rw[l] at z;cases z
  .exact absurd z w
theorem St.uf(S:St C Γ (Δ++Ω) G s)(x:y4 ⟨G,s,Δ.map (·.1)⟩ L s')(o:iU L s' E)(M:∀p∈E,p.1∈Δ.map (·.1)\/s.heap.get? p.1=ah)(I:∀p∈Δ,p.2.gT=false):St C Γ (E++Ω) L s':=by
 have A:C.env.locals∉Δ.map (·.1):=λm=>by refine aU (am.mp m) λp u=>(S.own p<|bp _ u).2.2.2
 have w:∀{c:cj} {v:Option aW},s.heap.IsCell c v->c∉Δ.map (·.1):=λq m=>by
  refine aU (am.mp m) λp u e=>aU q λg D d=>gR (S.own p<|bp _ u) λ_ q0 _=>aU q0 λo ho hh=>?_;rw[<-e,ho] at D;cases D
  exact Ob.jf hh d
 have f:∀{c:cj} {v:Option aW},s.heap.IsCell c v->s'.heap.IsCell c v:=λq=>by have n:=w q;refine aU q λg D d=>⟨g,x.heap _ _ D n,d⟩
 have j:∀{m:bC->Option aW},s.heap.Ns C.env.locals m->s'.heap.Ns C.env.locals m:=λzz=>Mp zz λg W R e r=>VV g W R (x.heap _ _ e A) r;have B:=λq H m=>by
  haveI:=S.hU;rw[aJ,dZ] at this;exact this.2.2 _ m _ (am.mpr ⟨q,H,rfl⟩) rfl
 have i:=λp m=>by(haveI d:=(S.own p<|bp _ m).2.2.1);exact d.imp id λd=>d.elim id λd=>by rw[I p m] at d;cases d
 refine{kind:=S.kind,glob:=S.glob,blt:=S.blt,nodup:=S.nodup,vars:=λy t h=>?_,loc:=(S.loc).casesOn λm h=>⟨m,j h⟩,rR:=?_,cell:=λy c h=>?_,apart:=S.apart,dY:=S.dY,own:=λp m=>?_,hU:=?_,ext:=⟨λa g e n=>?_,λa g e=>x.sub a g<|S.ext.sub a g e,λa g e=>?_⟩}
 .refine aU (S.vars y t h) λv hv ht=>⟨v,?_,ht.mono x.sub⟩;rcases hv with⟨k,m,hn,e⟩|⟨k,c,hc,e⟩;.exact .inl ⟨k,m,j hn,e⟩
  .exact .inr ⟨k,c,hc,f e⟩
 .refine y3 S.loc λ_ _ _ _ h _=>x.none_of S.rR h A
 .refine bu (S.cell y c h) λa q1=>cc q1 λv q=>?_;haveI n:=w q;haveI k:=f q;refine aU q λg D d=>⟨x.none_of a D n,v,k⟩
 .rcases bO.mp m with m|m
  .refine bu (o.own p m) λa b=>?_;rcases M p m with q|q
   .refine aU (am.mp q) λN u e=>?_;haveI t:=i N u;have l:=(S.own N<|bp _ u).2.2.2;rw[e] at t l;exact⟨a,b,t.imp id .inl,l⟩
   .exact⟨a,b,(S.fresh q).imp id .inl,(S.fresh_ne q).1⟩
  .refine sB (S.own p<|av _ m) λa q2 P Q=>aU q2 λg b c=>⟨x.none_of a b<|B p m,⟨g,x.heap _ _ b<|B p m,Ob.lz x.sub c⟩,P,Q⟩
 .rw[aJ,dZ];refine⟨o.nodup,?_,λa ma b mb e=>?_⟩
  .have:=S.hU;rw[aJ,dZ] at this;exact this.2.1
  .subst e;refine aU (am.mp ma) λp u q3=>?_;subst q3;refine aU (am.mp mb) λq H e=>dy (M p u) (λz=>?_) λz=>?_;.rw[<-e] at z;exact B q H z
   .exact(S.fresh_ne z).2 q (av _ H) e.symm
 .haveI h1:=S.ext.heap a g e n;refine x.heap a g h1 λm=>aU (am.mp m) λp u F=>dy (i p u) (λz=>?_) λz=>?_;.rw[F,e] at z;cases z
  .rw[F] at z;exact n z
 .rcases x.new a g e with z|z|z;.exact S.ext.new a g z
  .exact .inr<|S.fresh z
  .refine aU (am.mp z) λp u F=>?_;have t:=i p u;rw[F] at t;exact .inr t
theorem cu.fn(B:∀G,aG G P N)(h:∃r g dY,gH W f r g dY/\r.closure=[]/\∃c e,(∀x t,(x,ae t)∉c)/\(c.map (·.1)).Nodup/\(∀(s:bk) (i:List aW),W.K.In s.heap->i.length=ts.length->∃y,kf s r ⟨i,[]⟩ y/\y.map (·.2)=i++P/\Binds dY c y (ts++N) e)/\∀L I,I.wr=Δ.map (·.1)->bZ (oN W n r f L dY I) e Δ g (λo _ bT=>(∃t,o=.ret t/\l t bT)\/(o=.next/\l .none bT))) (C:∀t bT,l t bT->∀p∈bT,p.2.gT=false):cu W (.ref f) ts (n+1) Δ l:=λA G s vs ok I E D=>by
 refine cc h λr q0=>cc q0 λg q1=>cc q1 λdY q2=>bu q2 λF q3=>bu q3 λhc q4=>mG q4 λc e S hn hb hx=>ix (hb s vs I.k E.length) λy Q R hB=>i8 (H' F hc Q hB (by rw[R];exact E.append<|B G) S hn ok I (λp m=>.inl<|am.mpr ⟨p,m,rfl⟩) D.nodup D.own (λL=>hx L _ rfl) λL o a0 bT z H fl p q M w=>?_)<|y7.mono λv H zz=>zz.casesOn λz _ b=>b;have u:∀t v,l t bT->Tr z v t->sR W G s Δ l v H:=λt v j ht=>⟨z,t,bT,j,M,w.ext,⟨w.hU,λp m=>gR (w.own p m) λa b _=>⟨a,b⟩⟩,(λp m=>by
   (haveI d:=(w.own p m).2.2.1);rcases d with d|d|d;.exact .inr d
   .exact .inl d
   .rw[C _ _ j p m] at d;cases d),ht⟩;rcases p with⟨t,rfl,j⟩|⟨rfl,j⟩
 .refine aU q λv q5 hr=>?_;try clear q;subst q5
  exact u t v j hr
 .subst q;exact u .none .none j .none
noncomputable def gW(W:Wd)(f:aW)(ts:List T)(n:Nat)(Δ:bM)(r:T):Prop:=∀A G s a,Ok A n->Inv W G s->aG G a ts->iU G s Δ->Run W A (call f a) G s (KT r)
theorem JP(Δ):(vN Δ).map (·.1)=Δ.map (·.1):=by unfold vN;rw[aE];rfl
theorem gW.fn(w:∀G,aG G H E)(h:∃l g dY,gH W f l g dY/\l.closure=[]/\∃d e,(∀x t,(x,ae t)∉d)/\(d.map (·.1)).Nodup/\(∀(s:bk) (i:List aW),W.K.In s.heap->i.length=ts.length->∃u,kf s l ⟨i,[]⟩ u/\u.map (·.2)=i++H/\Binds dY d u (ts++E) e)/\∀L I,I.wr=[]->bZ (oN W n l f L dY I) e (vN Δ) g (λo _ _=>o=.ret r)):gW W (.ref f) ts (n+1) Δ r:=λA G s vs ok I C B=>by
 refine cc h λl q0=>cc q0 λg q1=>cc q1 λdY q2=>bu q2 λF q3=>bu q3 λS q4=>mG q4 λd e P hn R hx=>ix (R s vs I.k C.length) λu M N Q=>aC (RD (K:=λv j y=>Ext G s j y/\Tr j v r) F S M Q (by rw[N];exact C.append<|w G) P hn ok I (λp m=>?_) (by rw[JP];exact B.nodup) (λp m=>?_) (λL=>hx L _ rfl) λL o a0 a1 j y fl p q I' D=>?_) (λv y z=>z.casesOn λj a y=>⟨j,a,y.1,y.2⟩) λ_ _ z=>z;.refine g7 m λq _=>.inr<|Ob.zS _
 .refine g7 m λq mq=>bu (B.own q mq) λa q5=>aU q5 λo b c=>⟨a,o,b,Ob.wV c⟩
 .subst p;refine aU q λv q6 hr=>?_;try clear q;subst q6
  exact⟨D.ext.ext rfl,hr⟩
inductive XEnd(C Γ G)(P:T->bM->Prop)(v s'):Prop|mk (G') (t) (bT) (p:P t bT) (i:Inv C.W G' s') (st:St C Γ bT G' s') (b:Sub G G') (tr:Tr G' v t)
noncomputable def jb(C:Cx)(a:cG)(Ω:bM)(e:gw)(P:T->bM->Prop):Prop:=∀A G s,Ok A C.n->Inv C.W G s->St C a Ω G s->aD C.W.M A (eval e C.env) (XEnd C a G P) (λ_ _=>False) s
theorem jb.of(h:Ev C i Ω e t):jb C i Ω e λu bT=>u=t/\bT=Ω:=λA G s g I S=>Run.use (h A G s g I S) λv f b c a d=>⟨b,t,Ω,⟨rfl,rfl⟩,c,S.mono a,a.sub,d⟩
theorem jb.mono(h:jb C n Ω e Q)(k:∀t bT,Q t bT->d t bT):jb C n Ω e d:=λA G s l I S=>aC (h A G s l I S) (λv c m=>m.casesOn λb t bT a f g i j=>⟨b,t,bT,k _ _ a,f,g,i,j⟩) λ_ _ z=>z
theorem qF(q:n<=C.n)(b:Ω.Perm<|Δ++bT)(g:∀p∈Δ,p.2.gT=false)(k:cu C.W f ts n Δ l)(y:Ok A C.n)(I:Inv C.W G s)(S:St C D Ω G s)(w:aG G j ts):aD C.W.M A (call f j) (XEnd C D G λt c=>∃a,l t a/\c=a++bT) (λ_ _=>False) s:=by haveI h:=S.perm b;refine aC (oO (α:=Unit)<|k A G s j (y.le q) I w h.owns) (λv i B=>B.casesOn λd t a r e x o m u=>?_) λ_ _ z=>z;exact⟨d,t,a++bT,⟨a,r,rfl⟩,e,h.uf x o m g,x.sub,u⟩
theorem jb.call(R:Ev C N Ω f<|.val g)(c:Callee C.W.K g)(h:oD C N Ω D ts)(i:Ω.Perm<|Δ++bT)(E:∀p∈Δ,p.2.gT=false)(k:cu C.W g ts n Δ P)(hn:n<=C.n) (hp:autoParam (∀env,(bb pos<|aw D env).any (·.1)=false) eX) (Q:autoParam (∀env,eval (.Call f D [] pos) env=(do bS pos (<-eval f env) [] (bb pos<|aw D env) (bK pos<|aX [] env))) eX):jb C N Ω (.Call f D [] pos) λt j=>∃y,P t y/\j=y++bT:=λA G s F I S=>by
 refine qw ?_<|Q _;refine Run.use (R A G s F I S) λv x m b a u=>?_;cases u
 refine gG c b.k ?_<|hp _;refine Run.use (h A m x pos F b<|S.mono a) λvs L H d e w=>⟨d.k,?_⟩;refine aC (qF hn i E k F d ((S.mono a).mono e) w) (λv M zz=>zz.casesOn λo t l p q r B ht=>⟨o,t,l,p,q,r,(Sub.trans a.sub e.sub).trans B,ht⟩) λ_ _ z=>z
theorem bZ.rB(h:jb C f Ω e Q)(k:∀t a,Q t a->bZ C f a rest P)(i:autoParam (jS C.env=false) iF)(j:autoParam (fi e ah pos.line C.env=bB false) iF):bZ C f Ω (.Expr e pos::rest) P:=.expr (λA G s l I S=>aC (h A G s l I S) (λv g m=>m.casesOn λb t a p c d B _=>⟨f,a,b,c,d,B,k t a p⟩) λ_ _ z=>z) i j
theorem bZ.iK(h:jb C g Ω e Q)(o:x∈C.dY)(k:∀t a,Q t a->∃Γ',oC g x t Γ'/\bZ C Γ' a rest P)(hs:autoParam (fi e (ae<|.Name x p) pos.line C.env=bB false) iF):bZ C g Ω (.Assign [.Name x p] e pos::rest) P:=.step λA G s r I S=>by refine yB (aC (h A G s r I S) (λv f u=>u.casesOn λb t a q c d B n=>?_) λ_ _ z=>z) hs;refine aU (k t a q) λΓ' m l=>d.store c o m n λw j i _=>⟨rfl,Γ',a,b,i,j,B,l⟩
theorem bZ.pQ(h:jb C l Ω e Q)(k:∀t a,Q t a->∃ts Γ',t=.tuple ts/\sK C l g ts Γ'/\bZ C Γ' a rest P)(r:autoParam (vB [.Tuple g n p] e pos.line C.env=bB false) iF)(u:autoParam (m4 [.Tuple g n p] e C.env=bB ah) iF):bZ C l Ω (.Assign [.Tuple g n p] e pos::rest) P:=.step λA G s i I S=>by refine ahO (aC (h A G s i I S) (λv j D=>D.casesOn λc t a q d f B x=>?_) λ_ _ z=>z) r u;refine gc (k t a q) λts Γ' y b w=>?_;subst y;exact(CD.tuple b).run i.hd f d x λE o m=>⟨rfl,Γ',a,c,m,o,B,w⟩
theorem bZ.Wy(h:jb C f Ω e Q)(k:∀t a,Q t a->P (.ret t) f a):bZ C f Ω (.Return (ae e) pos::rest) P:=.block λA G s j I S=>by refine pn<|aC (h A G s j I S) (λv g l=>l.casesOn λb t a q c d B i=>?_) λ_ _ z=>z;exact⟨.ret t,f,a,b,k t a q,⟨v,rfl,i⟩,c,d,B⟩
theorem bZ.perm(h:bZ C d bT c P)(a:Ω.Perm bT):bZ C d Ω c P:=λA G s b I S=>h A G s b I<|S.perm a
theorem bZ.drop(h:bZ C d bT c P)(a:bT.Sublist Ω):bZ C d Ω c P:=λA G s b I S=>h A G s b I<|S.sub a
end
noncomputable def Ob.bare:Ob->Ob|.ro b=>b.bare|b=>b
theorem Ob.j_{b:Ob}:b.bare.holds G o↔b.holds G o:=by induction b with|ro b a=>exact a|_=>exact Iff.rfl
noncomputable def T.inst(x d e:cj):T:=.any (λG v=>v=.ref x/\∃c,G x=ae ⟨.ref d,ae e,.plain,c⟩) λG g v f z=>bu z λa y=>⟨a,cc y λc b=>⟨c,f _ _ b⟩⟩
noncomputable def fs(Ω:bM)(t:T)(x b c:cj):Prop:=∀C d G s v,Inv C.W G s->St C d Ω G s->Tr G v t->v=.ref x/\∃a,s.heap.get? x=ae a/\a.cls=.ref b/\rt a=aj/\a.dict=ae c
theorem fs.inst{a:cj}:fs Ω (T.inst x a b) x a b:=λC g G s v I S h=>by cases h using Tr.Ri with|any h=>refine bu h λc d=>?_;try clear h;subst c;refine cc d λf e=>⟨rfl,_,I.hM _ _ e,rfl,rfl,rfl⟩
theorem fs.seq{c:cj}(m:(x,b)∈Ω)(i:b.bare=.seq (.ref c) (ae d) ts):fs Ω (.val<|.ref x) x c d:=λC r G s v I S h=>by
 cases h
 refine gR (S.own _ m) λ_ k _=>aU k λo j a=>?_;haveI a:=Ob.j_.mpr a;rw[show(x,b).2.bare=_ from i] at a;refine bu a λe l=>bu l λf p=>j7 p λq n g _=>⟨rfl,o,j,e,?_,f⟩;unfold rt;rw[g]
theorem InstAt.ofTree{b:cj}(d:h.get? x=ae a)(e:a.cls=.ref b)(f:rt a=aj)(g:a.dict=ae c)(i:h.get? c=ae j):InstAt h x a b<|ae j:=⟨d,e,f,by rw[g];exact i⟩
theorem gv.find(h:gv G a kvs)(name):(∀t,kvs.lookup name=ae t->∃e,a.find? (·.key.isStr name)=ae e/\Tr G e.val t)/\(kvs.lookup name=ah->a.find? (·.key.isStr name)=ah):=by
 induction a generalizing kvs with|nil=>cases h;exact⟨(λt e=>by cases e),λ_=>rfl⟩|cons e a b=>
  cases h with|@cons g k f v t _ kvs d r=>
   haveI b:=b r;have c:(q_ k f).isStr name=(name==k):=by
    show(k==name)=(name==k);by_cases q:name=k;.rw[q]
    .rw[beq_eq_false_iff_ne.mpr q,beq_eq_false_iff_ne.mpr<|zw q]
   rw[dC,gr];simp only [c];by_cases q:name=k
   .subst q;simp only [beq_self_eq_true];exact⟨λu e=>by cases e;exact⟨_,rfl,d⟩,λe=>by cases e⟩
   .rw[beq_eq_false_iff_ne.mpr q];exact b
theorem gv.noRef(h:gv G a kvs):a.any (·.refKey)=false:=by induction a generalizing kvs with|nil=>rfl|cons e a b=>cases h with|cons c r=>rw[List.any_cons,b r];rfl
theorem gv.length(h:gv G a kvs):a.length=kvs.length:=by induction a generalizing kvs with|nil=>cases h;rfl|cons e a b=>cases h with|cons c r=>rw[be,be,b r]
noncomputable def ee(name:bC)(t:T):List (bC×T)->List (bC×T)|[]=>[(name,t)]|(k,u)::r=>if k==name then(k,t)::r else(k,u)::ee name t r
theorem gv.put(h:gv G a kvs)(name b g)(c:Tr G v t):gv G (TR name b (.str name g) v a)<|ee name t kvs:=by
 induction a generalizing kvs with|nil=>cases h;exact .cons c .nil|cons e a f=>
  cases h with|@cons j k i m l _ kvs d r=>
   show gv G (if(k==name)=aj then _ else _)<|if(k==name)=aj then _ else _;by_cases q:(k==name)=aj;.rw[if_pos q,if_pos q];exact .cons c r
   .rw[if_neg q,if_neg q];exact .cons d<|f r
noncomputable def attrOk(K:np)(b:cj)(name:bC):Bool:=tY K b&&plainGet K b name&&(match mU K (.ref b) name with|some a=>noGet K a|none=>false)
noncomputable def jn(t:T):Prop:=∀G v,Tr G v t->QD v=aj
section
theorem kN(S:St C r Ω G s)(m:(e,b)∈Ω)(j:b.bare=.dict kvs):∃d a n,s.heap.get? e=ae d/\d.cls=.type "dict"/\d.dict=ah/\d.data=.dict a n/\gv G a.toList kvs:=by refine gR (S.own _ m) λ_ l _=>aU l λo k c=>?_;haveI c:=Ob.j_.mpr c;rw[show(e,b).2.bare=_ from j] at c;refine bu c λf p=>bu p λg q=>j7 q λa n h i=>Y8 o a n k f g h i
theorem km(i:b.data=.dict d n)(h:gv G d.toList kvs)(name):(∀t,kvs.lookup name=ae t->∃v,FA name b=ae (ae v)/\Tr G v t)/\(kvs.lookup name=ah->FA name b=ae ah):=by
 haveI a:=h.find name;unfold FA;rw[i];refine⟨λt e=>?_,λe=>?_⟩;.refine aU (a.1 t e) λc f g=>⟨c.val,by simp only [f],g⟩
 .simp only [a.2 e,h.noRef,ev,if_false]
theorem Ev.attr{name:bC}{p:cj}(ho:Ev C z Ω o t)(hi:fs Ω t x p F)(m:(F,b)∈Ω)(Q:b.bare=.dict kvs)(hl:kvs.lookup name=ae u) (hu:jn u)(j:autoParam (attrOk C.W.K p name=aj) jX) (R:autoParam (∀env,eval (.Attribute o name pos) env=(do
   let r<-eval o env
   fy pos.atName
   let y<-gy [r] (l_ r name aj)
   jR o r y
   bB y)) eX):Ev C z Ω (.Attribute o name pos) u:=λA G s ok I S=>by
 refine me ?_<|R _;refine Run.use (ho A G s ok I S) λv i c a e h=>?_;have d:=S.mono e;refine bu (hi C z c i v a d h) λq0 q1=>?_;subst q0;refine AX q1 λox H L M N=>yZ (kN d m Q) λod es n B d2 d3 D E=>aU ((km D E name).1 u hl) λw hw f=>?_;unfold attrOk at j;simp only [bg] at j;refine bu j λq2 l=>bu q2 λk1 k2=>?_;cases P:mU C.W.K (.ref p) name with|none=>rw[P] at l;exact fT l|some q=>
  rw[P] at l;refine get_value a.k (InstAt.ofTree H L M N B) (QE k2).1 (QF k1 P l hw) (hu _ _ f)<|⟨c,a.bL rfl rfl rfl,e.trans<|.bL rfl,f⟩
theorem Gf(h:∀G v,Tr G v t->∃a,v=.ref a):jn t:=λG v k=>by refine cc (h G v k) λa b=>?_;subst b;rfl
theorem xl:jn<|.str i:=λG v k=>by cases k;rfl
theorem lR:jn .none:=λG v k=>by cases k;rfl
theorem fE:jn<|.seq c ts:=λG v k=>by cases k;rfl
theorem bU:jn<|.val<|.ref a:=λG v k=>by cases k;rfl
noncomputable def setOk(K:np)(a:cj)(name:bC):Bool:=mU K (.ref a) "__setattr__"==ae (ae<|.builtin "object.__setattr__")&&plainOver K a&&takerIn K a name==ae ah&&tY K a
theorem z7{W:Wd}{u:cj}(X:W.K.In s.heap)(h1:s.heap.get? x=ae D)(H:D.cls=.ref u)(I:D.dict=ae m)(z:s.heap.get? m=ae t) (N:t.data=.dict d n)(L:t.cls=.type "dict")(p:t.dict=ah)(hr:d.toList.any (·.refKey)=false)(hz:d.size<=900)(k4:tY W.K u=aj) (h:∀y Q a g,(∀c o,c≠m->s.heap.get? c=ae o->y.get? c=ae o)->(∃f,y.get? m=ae f/\f.cls=.type "dict"/\f.dict=ah/\∃k,f.data=.dict (TR name a (.str name g) v d.toList).toArray k)->P (.done<|.ret .none) {s with heap:=y,toks:=Q}):aD W.M A (L_ (.ref x) (.ref u) (.str name Q) name v b) P E s:=by
 refine aU (any_some k4) λcd B C=>?_;obtain⟨oc,a1,a0,a2⟩:=D;dsimp only at H I;subst H I;obtain⟨c2,d2,R,j⟩:=t;dsimp only at N L p;subst N L p;refine aa<|ag<|aa<|aa<|mf h1<|aa<|(ni X B).at ?_;rw[C];refine ag<|aa<|ag<|aa ?_;skip;refine aa<|aa<|mS<|ag<|aa<|yD<|aa<|mf z ?_;dsimp only;have c:(!d.any (·.key.isStr name)&&d.any (·.refKey))=false:=by rw[<-ie,<-ie,hr,k8]
 rw[aRefKeyMayBeTheName_at,c];refine wpAny_updatePart z ?_;haveI S:∀a g,∃k,YN name a (.str name g) v ⟨.type "dict",ah,.dict d n,j⟩=⟨.type "dict",ah,.dict (TR name a (.str name g) v d.toList).toArray k,j⟩:=λa g=>by
  haveI r:=putL_find name a (.str name g) v d.toList;rw[Obj.putName_eq];unfold Obj.putNameByArray;haveI e3:d.findIdx? (λx=>x.key.isStr name)=d.toList.findIdx? (λx=>x.key.isStr name):=by rw[<-List.findIdx?_toArray]
  dsimp only;rw[e3];cases q:d.toList.findIdx? (λx=>x.key.isStr name) with|none=>rw[q] at r;refine⟨n+1,?_⟩;rw[<-r];dsimp only;congr 2;apply ii.mp;simp|some i=>rw[q] at r;refine⟨n,?_⟩;rw[<-r];dsimp only;congr 2;apply ii.mp;simp
 haveI sz:∀a g,(TR name a (.str name g) v d.toList).length<=d.size+1:=λa g=>by
  rw[<-aP];generalize d.toList=l;induction l with|nil=>simp[TR]|cons e l ih=>
   unfold TR;split;.simp
   .rw[be,be];exact(bY ih)
 refine cc (S (m5 W.w.params name) s.toks) λk G=>?_;have F:(s.heap.update m<|YN name (m5 W.w.params name) (.str name s.toks) v).get? m=ae ⟨.type "dict",ah,.dict (TR name (m5 W.w.params name) (.str name s.toks) v d.toList).toArray k,j⟩:=by rw[<-G];exact cK _ z<|by rw[G];rfl
 refine aa<|zA F (pastItsLine_dict<|by rw[gi,fW];haveI:=sz (m5 W.w.params name) s.toks;exact Z3 hz this) ?_;refine ag<|h _ _ (m5 W.w.params name) s.toks (λc o ne e=>?_) ⟨_,F,rfl,rfl,k,rfl⟩;exact(Heap.get?_update_ne _ _ _ _ ne).trans e
theorem Di{W:Wd}{t:cj}(P:W.K.In s.heap)(g:s.heap.get? x=ae r)(i:r.cls=.ref t)(u:rt r=aj)(j:r.dict=ae d)(k:s.heap.get? d=ae q) (y:q.data=.dict e n)(w:q.cls=.type "dict")(l:q.dict=ah)(z:e.toList.any (·.refKey)=false)(hz:e.size<=900)(m:setOk W.K t name=aj) (h:∀f N p L,(∀c o,c≠d->s.heap.get? c=ae o->f.get? c=ae o)->(∃a,f.get? d=ae a/\a.cls=.type "dict"/\a.dict=ah/\∃G,a.data=.dict (TR name p (.str name L) v e.toList).toArray G)->Q () {s with heap:=f,toks:=N}):aD W.M A (setAttr (.ref x) name v) Q E s:=by unfold setOk at m;simp only [bg,beq_iff_eq] at m;refine bu m λH F=>bu H λI D=>bu I λB C=>set_plain P (InstAt.ofTree g i u j k) B<|osa_open P (InstAt.ofTree g i u j k) C D λb=>z7 P g i j k y w l z hz F h
end
section
theorem pR{d:cj}(I:Inv C.W G s)(S:St C g Ω G s)(L:fs Ω t x d o)(R:Tr G v t)(p:eL Ω o (.dict kvs) (.dict<|ee name u kvs) bT)(P:Tr G w u)(hz:kvs.length<=900) (N:setOk C.W.K d name=aj)(h:∀s',Inv C.W G s'->St C g bT G s'->Q () s'):aD C.W.M A (setAttr v name w) Q E s:=by refine bu (L C g G s v I S R) λq0 q1=>?_;subst q0;refine AX q1 λox B D F H=>yZ (kN S p.mem rfl) λod es n i j l m a=>?_;haveI e:=a.length;skip;refine Di I.k B D F H i m j l a.noRef (Uc hz e) N λh' tk b t0 f zq=>cc zq λc q2=>bu q2 λq q3=>bu q3 λr q4=>bu q4 λy q5=>cc q5 λn' z=>h _ (I.dU S p.mem f rfl rfl)<|S.dU p rfl rfl f ⟨c,q,r,y,_,n',z,?_⟩;exact a.put name b t0 P
theorem bZ.setAttr{q:cj}(h:Ev C n Ω c u)(H:Ev C n Ω o t)(E:fs Ω t x q D)(p:eL Ω D (.dict kvs) (.dict<|ee name u kvs) bT)(k:bZ C n bT rest P) (hz:autoParam (kvs.length<=900) adc)(F:autoParam (setOk C.W.K q name=aj) jX)(hs:autoParam (fi c (ae<|.Attribute o name l) pos.line C.env=bB false) iF):bZ C n Ω (.Assign [.Attribute o name l] c pos::rest) P:=.step λA G s r I S=>by refine iG ?_ hs;refine Run.use (h A G s r I S) λw m d f a i=>?_;refine Run.use (H A d m r f<|S.mono a) λv y e g b j=>?_;exact pR g ((S.mono a).mono b) E j p (i.mono b.sub) hz F λL z B=>⟨rfl,n,bT,e,z,B,Sub.trans a.sub b.sub,k⟩
theorem bZ.Dj(j:jb C y Ω c Q) (k:∀u a,Q u a->∃t x B D kvs bT,Ev C y a o t/\fs a t x B D/\eL a D (.dict kvs) (.dict<|ee name u kvs) bT/\bZ C y bT rest P/\kvs.length<=900/\setOk C.W.K B name=aj) (hs:autoParam (fi c (ae<|.Attribute o name n) pos.line C.env=bB false) iF):bZ C y Ω (.Assign [.Attribute o name n] c pos::rest) P:=.step λA G s E I S=>by refine iG ?_ hs;refine aC (j A G s E I S) (λw r zz=>zz.casesOn λf u a q h d e l=>?_) λ_ _ z=>z;refine afU (k u a q) λt x B D kvs bT R M p k hz N=>Run.use (R A f r E h d) λv F g i b m=>?_;exact pR i (d.mono b) M m p (l.mono b.sub) hz N λs' H L=>⟨rfl,y,bT,g,H,L,Sub.trans e b.sub,k⟩
noncomputable def ug(K:np)(a f:cj)(name:bC):Bool:=plainGet K a name&&(mU K (.ref a) name==ae (ae<|.ref f))&&isFn K (.ref f)&&wb K (.ref f)
theorem rC{c:cj}(I:Inv C.W G s)(S:St C R Ω G s)(u:fs Ω t x c j)(z:Tr G v t)(m:(j,b)∈Ω)(r:b.bare=.dict kvs) (y:kvs.lookup name=ah)(a:ug C.W.K c f name=aj)(h:Q (.ref f,[.ref x]) s):aD C.W.M A (h8 v name pl) Q E s:=by refine bu (u C R G s v I S z) λH L=>?_;subst H;refine AX L λox l o p q=>yZ (kN S m r) λF es n e d2 d3 g i=>?_;haveI w:=(km g i name).2 y;unfold ug at a;simp only [bg,beq_iff_eq] at a;refine bu a λN k4=>bu N λP D=>bu P λd B=>method_fn I.k (InstAt.ofTree l o p q e) (QE d).1 (QE d).2 B (beq_iff_eq.mp D) (by show(FA name F).map _=_;rw[w];rfl) h
theorem St.Bg(S:St C j Ω G s)(f:∀p∈Δ,∃b,(p.1,b)∈Ω/\b.bare=p.2.bare)(g:(Δ.map (·.1)).Nodup):iU G s Δ:=⟨g,λp m=>by refine aU (f p m) λb h e=>gR (S.own _ h) λa i _=>aU i λo c d=>⟨a,o,c,Ob.j_.mp<|e▸Ob.j_.mpr d⟩⟩
theorem Ev.Dk{name:bC}{P:cj}(ho:Ev C N Ω o t)(Q:fs Ω t x P dx)(m:(dx,b)∈Ω)(hb:b.bare=.dict kvs)(hn:kvs.lookup name=ce) (h:oD C N Ω d ts)(hm:∀p∈Δ,∃b,(p.1,b)∈Ω/\b.bare=p.2.bare)(L:(Δ.map (·.1)).Nodup)(k:gW C.W (.ref f) (t::ts) n Δ r)(H:n<=C.n)(F:autoParam (ug C.W.K P f name=aj) jX) (hp:autoParam (∀env,(bb pos<|aw d env).any (·.1)=false) eX) (he:autoParam (∀env,eval (.Call (.Attribute o name u) d [] pos) env=(do
   let R<-eval o env
   fy u.atName
   let(f,y)<-gy [R] (h8 R name<|do return (<-jU o env).getD aj)
   bS pos f y (bb pos<|aw d env) (bK pos<|aX [] env))) eX):Ev C N Ω (.Call (.Attribute o name u) d [] pos) r:=λA G s M I S=>by
 refine kX ?_<|he _;refine Run.use (ho A G s M I S) λv w j a q i=>?_;have c:=S.mono q;refine bu (Q C N j w v a c i) λq0 _=>?_;subst q0;refine rC a c Q i m hb hn F ?_;haveI z:wb C.W.K (.ref f)=true:=by unfold ug at F;simp only [bg] at F;exact F.2
 refine gG (.k z) a.k ?_<|hp _;refine Run.use (h A j w pos M a c) λvs E B l e D=>⟨l.k,?_⟩;exact Run.ext (q.trans e)<|k A B E _ (M.le H) l (.cons (i.mono e.sub) D)<|(c.mono e).Bg hm L
theorem jb.nK{Cl:cj}(ho:Ev C Γ Ω o t)(hi:fs Ω t x Cl dx)(m:(dx,b)∈Ω)(hb:b.bare=.dict kvs)(hn:kvs.lookup name=ah) (h:oD C Γ Ω d ts)(y:Ω.Perm<|Δ++bT)(R:∀p∈Δ,p.2.gT=false)(k:cu C.W (.ref f) (t::ts) n Δ Pc)(Q:n<=C.n)(P:autoParam (ug C.W.K Cl f name=aj) jX) (hp:autoParam (∀env,(bb pos<|aw d env).any (·.1)=false) eX) (he:autoParam (∀env,eval (.Call (.Attribute o name q) d [] pos) env=(do
   let ov<-eval o env
   fy q.atName
   let(f,u)<-gy [ov] (h8 ov name<|do return (<-jU o env).getD aj)
   bS pos f u (bb pos<|aw d env) (bK pos<|aX [] env))) eX):jb C Γ Ω (.Call (.Attribute o name q) d [] pos) λt D=>∃N,Pc t N/\D=N++bT:=λA G s ok I S=>by
 refine kX ?_<|he _;refine Run.use (ho A G s ok I S) λv r i a l g=>?_;have c:=S.mono l;refine bu (hi C Γ i r v a c g) λq0 _=>?_;subst q0;refine rC a c hi g m hb hn P ?_;haveI w:wb C.W.K (.ref f)=true:=by unfold ug at P;simp only [bg] at P;exact P.2
 refine gG (.k w) a.k ?_<|hp _;refine Run.use (h A i r pos ok a c) λvs a1 a0 j e M=>⟨j.k,?_⟩;exact aC (qF Q y R k ok j (c.mono e)<|.cons (g.mono e.sub) M) (λv a2 zz=>zz.casesOn λF t E p H L B ht=>⟨F,t,E,p,H,L,(Sub.trans l.sub e.sub).trans B,ht⟩) λ_ _ z=>z
end
section
noncomputable def Gg(K:np)(a b:cj):Bool:=makesIn K a&&(mU K (.ref a) "__init__"==ae (ae<|.ref b))&&(typeIn K (.ref b)==ae (.type "function"))&&wb K (.ref a)
theorem rY(A:mP)(b a):(A.under<|.builtin "type.__call__" ⟨.ref b::a,[]⟩).units<=A.units+1:=by skip;haveI:(Code.builtin "type.__call__" ⟨.ref b::a,[]⟩).cUnits=1:=rfl;exact Z4 this
theorem JQ{f:cj}{R:cj->cj->bM->Prop}(L:Gg W.K f fI=aj)(N:Ok A<|n+1)(I:Inv W G s)(hv:aG G D ts)(S:iU G s Δ) (k:∀x j,cu W (.ref fI) (T.inst x f j::ts) n ((j,.dict [])::Δ) λt h=>t=.none/\R x j h):gU W.M A (.call (.ref f) ⟨D,[]⟩) (y7<|sR W G s Δ λt h=>∃x j,t=T.inst x f j/\R x j h) s:=by
 obtain⟨b,g,d,y,u⟩:=s;unfold Gg at L;simp only [bg,beq_iff_eq] at L;refine bu L λq0 k4=>bu q0 λq1 k3=>bu q1 λk1 k2=>?_;haveI i:(b.push cO).objs.size=b.objs.size+1:=e_ ..;refine make_core (makes_of I.k k1) (dQ I.k k2) (λw=>VG I.k w k3) (.inl rfl) ?_;haveI Q:Inv W G ⟨b.push cO,g,d,y,u⟩:=I.g4 cO;haveI X1:Ext G ⟨b,g,d,y,u⟩ G ⟨b.push cO,g,d,y,u⟩:=Ext.g4 G ⟨b,g,d,y,u⟩ cO;haveI F:=Q.push (LG f b.objs.size) rfl;haveI B:=Ext.push Q<|LG f b.objs.size;dsimp only at F B;rw[i] at F B;have X:=X1.trans B;have hx:Tr (G.add (b.objs.size+1)<|LG f b.objs.size) (.ref<|b.objs.size+1)<|T.inst (b.objs.size+1) f b.objs.size:=.any ⟨rfl,_,Gh.fD _ _ _⟩;haveI l:(b.push cO).get? b.objs.size=ae emptyDict:=aS _ rfl;have c:b.get? b.objs.size=none:=aV<|al _;haveI C:b.get? (b.objs.size+1)=none:=aV<|cB _;haveI O2:iU (G.add (b.objs.size+1)<|LG f b.objs.size) ⟨(b.push cO).push<|LG f b.objs.size,g,d,y,u⟩<|(b.objs.size,.dict [])::Δ:=by
  have o:=S.mono X;refine⟨?_,λp m=>?_⟩
  .rw[ax,bV];refine⟨λm=>?_,o.nodup⟩;refine aU (am.mp m) λq mq e=>bu (S.own q mq) λ_ q2=>aU q2 λo' H _=>?_;rw[e] at H;rw[c] at H;cases H
  .refine eQ m ?_ λm=>?_
   .refine⟨?_,cO,aN _ l,rfl,rfl,#[],0,rfl,.nil⟩;haveI:=B.none_of (I.cL<|al _) l;exact this
   .exact o.own p m
 haveI P:Ok (A.under<|.builtin "type.__call__" ⟨.ref f::D,[]⟩) n:=⟨N.hd,by haveI:=N.depth;show A.depth+1+n<=900;exact Rj this,by haveI:=N.units;haveI:=rY A f D;exact Z5 (by assumption) this⟩;refine i8 (k (b.objs.size+1) b.objs.size _ _ _ (.ref (b.objs.size+1)::D) P F (.cons hx<|hv.mono X.sub) O2) λr s' z=>?_;rcases r with e|(v|_|_|_)<;>first|exact z.elim|skip
 obtain⟨G',t,h,⟨rfl,hp⟩,I',E,o',ha,ht⟩:=z;cases ht
 refine⟨rfl,G',T.inst (b.objs.size+1) f b.objs.size,h,rP _ _ rfl hp,I',⟨λa o e n=>E.heap a o (X.heap a o e) ?_,λa o e=>E.sub a o<|X.sub a o e,λa o e=>?_⟩,o',λp m=>?_,hx.mono E.sub⟩
 .intro m;rw[ax] at m;rcases bf.mp m with rfl|m;.rw[c] at e;cases e
  .exact n m
 .rcases E.new a o e with z|z|z;.exact(X.new a o z).imp id .inl
  .exact .inr<|.inl<|fH X.heap z
  .rw[ax] at z;refine eQ z ?_ λz=>?_;.exact .inr<|.inl c
   .exact .inr<|.inr z
 .rcases ha p m with z|z
  .skip;refine dy (bf.mp z) (λz=>?_) λz=>?_;.rw[z];exact .inr c
   .exact .inl z
  .exact .inr<|fH X.heap z
end
theorem gH.plain{b:List mA}(e:autoParam (W.K.lookup f=ae ⟨.type "function",ah,.func a,#[]⟩) jX)(i:autoParam (a.scope.isCoroutine=false) jX)(h:autoParam (a.scope.isGenerator=false) jX)(kind:autoParam (a.scope.kind=.function) jX) (j:autoParam (a.body=.stmts b) jX)(c:autoParam (codeIn W.K a=aj) jX)(d:autoParam (a.globals=a_) jX)(g:autoParam (a.builtins=iy) jX)(st:autoParam (∀L,(dY.all λx=>(pe a f L).kindOf x==ae .local)=aj) Â):gH W f a b dY:=⟨ Re _ _ _ e,i,h,kind,j,Ic c,d,g,λL x m=>.inl<|beq_iff_eq.mp<|List.all_eq_true.mp (st L) x m⟩
theorem oC.app(p:oC b x t Γ'):∀a:cG,oC (a++b) x t<|a++Γ'|[]=>p|q::a=>.there<|p.app a
theorem Binds.zip(names:List bC)(ts a b)(e:a.length=ts.length)(c:names.length=ts.length)(hs:∀x∈names,x∈dY):Binds dY (b++(names.map λx=>(x,ah))++UP) (names.zip a) ts<|b++(fJ (λx t=>(x,ae t)) names ts)++UP:=by
 induction names generalizing ts a b with
 |nil=>
  cases List.length_eq_zero_iff.mp c.symm
  exact .nil
 |cons x names d=>
  cases ts with
  |nil=>cases c
  |cons t ts=>
   cases a with
   |nil=>cases e
   |cons v a=>
    haveI d:=d ts a (b++[(x,ae t)]) (ky e) (ky c) λy m=>hs y<|.tail _ m;show Binds dY _ ((x,v)::names.zip a) _<|b++(x,ae t)::_++UP;rw[Ma b (x,ae t)];refine .cons (hs x<|.head _) ?_ d;rw[<-Ma,bW,bW];exact .app .here b
theorem Bh{names loc:List bC}(x t):(x,ae t)∉((names.map λx=>(x,ah))++loc.map λx=>(x,ah):cG):=λm=>by refine dy (bO.mp m) (λm=>?_) λm=>?_;all_goals refine aU (am.mp m) λ_ _ e=>?_;cases e
theorem Bi{names:List bC}(h:(names++loc).Nodup):(((names.map λx=>(x,ah))++loc.map λx=>(x,ah):cG).map (·.1)).Nodup:=by
 haveI:∀l:List bC,(l.map λx=>((x,ah):bC×Option T)).map (·.1)=l:=λl=>by rw[aE];exact VH _
 rw[aJ,this,this];exact h
noncomputable abbrev Vd(b:T->bM->Prop):Post:=λo _ a=>(∃t,o=.ret t/\b t a)\/(o=.next/\b .none a)
theorem cu.ofD(F:gH W f r e dY)(names loc q j)(k:∀G,aG G q j)(d:cG) (i:∀(s:bk) (c:List aW),W.K.In s.heap->c.length=ts.length->kf s r ⟨c,[]⟩ (names.zip<|c++q))(y:(fJ (λx t=>(x,ae t)) names<|ts++j)++(loc.map λx=>(x,ah))=d) (D:∀L I,I.wr=Δ.map (·.1)->bZ (oN W n r f L dY I) d Δ e (Vd z))(w:∀t bT,z t bT->∀p∈bT,p.2.gT=false) (g:autoParam (names.length=(ts++j).length) iF)(l:autoParam ((names.all dY.contains)=aj) jX)(C:autoParam (decide ((names++loc).Nodup)=aj) jX)(B:autoParam (r.closure=[]) jX):cu W (.ref f) ts (n+1) Δ z:=by
 subst y;haveI u:=(k λ_=>ah).length;have o:∀c,c.length=ts.length->(c++q).length=(ts++j).length:=λc h=>by rw[aM,aM,h,u]
 refine cu.fn k (⟨r,e,dY,F,B,_,_,Bh,Bi<|of_decide_eq_true C,λs c A v=>⟨_,i s c A v,?_,Binds.zip names (ts++j) (c++q) [] (o c v) g λx m=>?_⟩,λL I=>D L I⟩) w
 .haveI:∀(a:List bC) (b:List aW),a.length=b.length->(a.zip b).map (·.2)=b:=λa b h=>by rw[oH];exact(aH<|id<|FJ h)
  exact this _ _<|by rw[g,o c v]
 .haveI:=List.all_eq_true.mp l x m;rwa[lJ] at this
theorem cu.of(F:gH W f h d dY)(names loc)(b:cG) (c:∀a:List aW,a.length=ts.length->FC h ⟨a,[]⟩=bB (names.zip a))(j:(fJ (λx t=>(x,ae t)) names ts)++(loc.map λx=>(x,ah))=b) (q:∀L I,I.wr=Δ.map (·.1)->bZ (oN W n h f L dY I) b Δ d (Vd k))(i:∀t bT,k t bT->∀p∈bT,p.2.gT=false) (e:autoParam (names.length=ts.length) iF)(g:autoParam ((names.all dY.contains)=aj) jX)(o:autoParam (decide ((names++loc).Nodup)=aj) jX)(l:autoParam (h.closure=[]) jX):cu W (.ref f) ts (n+1) Δ k:=cu.ofD F names loc [] [] (λ_=>.nil) b (λs a _ m=>by rw[bD];exact .of_eq<|c a m) (by rw[bD];exact j) q i (by rw[bD];exact e) g o l
theorem gW.ofD(F:gH W f u e dY)(names loc q j)(k:∀G,aG G q j)(d:cG) (i:∀(s:bk) (c:List aW),W.K.In s.heap->c.length=ts.length->kf s u ⟨c,[]⟩ (names.zip<|c++q))(y:(fJ (λx t=>(x,ae t)) names<|ts++j)++(loc.map λx=>(x,ah))=d) (C:∀L I,I.wr=[]->bZ (oN W n u f L dY I) d (vN Δ) e (λo _ _=>o=.ret r)) (g:autoParam (names.length=(ts++j).length) iF)(l:autoParam ((names.all dY.contains)=aj) jX)(B:autoParam (decide ((names++loc).Nodup)=aj) jX)(A:autoParam (u.closure=[]) jX):gW W (.ref f) ts (n+1) Δ r:=by
 subst y;haveI v:=(k λ_=>ah).length;have p:∀c,c.length=ts.length->(c++q).length=(ts++j).length:=λc h=>by rw[aM,aM,h,v]
 refine gW.fn k<|⟨u,e,dY,F,A,_,_,Bh,Bi<|of_decide_eq_true B,λs c z w=>⟨_,i s c z w,?_,Binds.zip names (ts++j) (c++q) [] (p c w) g λx m=>?_⟩,λL I=>C L I⟩
 .haveI:∀(a:List bC) (b:List aW),a.length=b.length->(a.zip b).map (·.2)=b:=λa b h=>by rw[oH];exact(aH<|id<|FJ h)
  exact this _ _<|by rw[g,p c w]
 .haveI:=List.all_eq_true.mp l x m;rwa[lJ] at this
theorem gW.of(F:gH W f h d dY)(names loc)(b:cG) (c:∀a:List aW,a.length=ts.length->FC h ⟨a,[]⟩=bB (names.zip a))(i:(fJ (λx t=>(x,ae t)) names ts)++(loc.map λx=>(x,ah))=b) (m:∀L I,I.wr=[]->bZ (oN W n h f L dY I) b (vN Δ) d (λo _ _=>o=.ret r)) (e:autoParam (names.length=ts.length) iF)(g:autoParam ((names.all dY.contains)=aj) jX)(l:autoParam (decide ((names++loc).Nodup)=aj) jX)(j:autoParam (h.closure=[]) jX):gW W (.ref f) ts (n+1) Δ r:=gW.ofD F names loc [] [] (λ_=>.nil) b (λs a _ k=>by rw[bD];exact .of_eq<|c a k) (by rw[bD];exact i) m (by rw[bD];exact e) g l j
theorem cf.of(F:∀W,gH W f i d dY)(names loc)(a:cG) (c:∀b:List aW,b.length=ts.length->FC i ⟨b,[]⟩=bB (names.zip b))(j:(fJ (λx t=>(x,ae t)) names ts)++(loc.map λx=>(x,ah))=a) (m:∀W L I,I.wr=[]->bZ (oN W n i f L dY I) a [] d (λo _ _=>o=.ret r)) (e:autoParam (names.length=ts.length) iF)(g:autoParam ((names.all dY.contains)=aj) jX)(l:autoParam (decide ((names++loc).Nodup)=aj) jX)(k:autoParam (i.closure=[]) jX):cf (.ref f) ts (n+1) r:=λW A G s q p I h=>gW.of (F W) names loc a c j (m W) e g l k A G s q p I h<|.nil G s
noncomputable abbrev Wz:FuncData:=jG (g8 PP 12 1) "TupleComp.__init__" [] .none .none .none (.str "cpy313.pstats" 793) ah (.ref 420) .none
noncomputable abbrev adU:FuncData:=jG (g8 PP 12 2) "TupleComp.compare" [] .none .none .none (.str "cpy313.pstats" 793) ah (.ref 427) .none
theorem Ni(W):gH W 421 Wz (dA<|g8 PP 12 1) ["self","comp_select_list"]:=.plain
noncomputable abbrev WA:List Str:=["self","left","right","index","direction","l","r"]
theorem RL(W):gH W 428 adU (dA<|g8 PP 12 2) WA:=.plain
noncomputable def sS(p:Int×Int):T:=.tuple [.int p.1,.int p.2]
noncomputable def sT:List (Int×Int)->List Int->List Int->Int|[],_,_=>0|(i,d)::r,a,b=>if a.getD i.toNat 0<b.getD i.toNat 0 then-d else if b.getD i.toNat 0<a.getD i.toNat 0 then d else sT r a b
noncomputable abbrev n_(a:List<|Int×Int):List<|bC×T:=[("comp_select_list",.list (a.map sS))]
theorem Gi:cu W (.ref 421) [T.inst x 431 d,.list<|c.map sS] 1 [(d,.dict [])] λt e=>t=.none/\e=[(d,.dict (n_ c))]:=by
 refine cu.of (Ni W) ["self","comp_select_list"] [] [("self",ae (T.inst x 431 d)),("comp_select_list",ae (.list<|c.map sS))] (λf i=>?_) rfl (λL I _=>?_) λt k h p m=>?_;.refine sD i λa b=>?_;kernel_rfl
 .exact bZ.setAttr (.g 1) (.g 0) .inst .here<|.nil<|.inr ⟨rfl,rfl,rfl⟩
 .refine bu h λ_ j=>?_;try clear h;subst j
  rw[ao] at m;subst m;rfl
theorem Gj:cu W (.ref 431) [.list<|b.map sS] 2 [] λt c=>∃x a,t=T.inst x 431 a/\c=[(a,.dict (n_ b))]:=λA G s j i I h f=>JQ (by kernel_rfl) i I h f λx a=>Gi
noncomputable abbrev Ó(x c:cj)(a b:List Int)(i d l r:Option T):cG:=[("self",ae (T.inst x 431 c)),("left",ae (.list<|a.map .int)),("right",ae (.list<|b.map .int)),("index",i),("direction",d),("l",l),("r",r)]
theorem JR(hs:∀p∈e,0<=p.1/\p.1<a.length/\p.1<b.length)(E:a.length<=aA)(r:b.length<=aA):gW W (.ref 428) [T.inst x 431 l,.list<|a.map .int,.list<|b.map .int] 1 [(l,.dict (n_ e))]<|.int<|sT e a b:=by
 generalize A:sT e a b=R;refine gW.of (RL W) ["self","left","right"] ["index","direction","l","r"] (Ó x l a b ah ah ah ah) (λv C=>?_) rfl λL I _=>?_;.refine FX C λa b c=>?_;kernel_rfl
 refine .vO (λ_ _=>Ó x l a b ah ah ah ah) (λ_ _=>vN [(l,.dict (n_ e))]) (λk _=>sT (e.drop k) a b=R) (λ_=>false) () (.list (.attr (.g 0) .inst (.head _) rfl rfl fE)<|.tuple _ _ _) A rfl ?_ ?_
 .intro k t _ F D q u d;rw[aq] at u;obtain⟨⟨i,n⟩,s,rfl⟩:=aT.mp u;haveI m:=hs _<|aZ s;haveI o:i.toNat<a.length:=Z6 m;haveI f:i.toNat<b.length:=Z7 m;haveI B:e.drop k=(i,n)::e.drop (k+1):=by haveI:=List.getElem?_eq_some_iff.mp s;refine cc this λz j=>?_;rw[<-j,jC z]
  rw[B] at d;have d:(if a.getD i.toNat 0<b.getD i.toNat 0 then-n else if b.getD i.toNat 0<a.getD i.toNat 0 then n else sT _ a b)=R:=d;refine⟨_,.tuple<|.cons ai (.g 3)<|.cons ai (.g 4) .nil,?_⟩;haveI w:(a.map T.int)[i.toNat]?=ae (.int<|a.getD i.toNat 0):=by rw[aq,ak,ay o];rfl
  haveI y:(b.map T.int)[i.toNat]?=ae (.int<|b.getD i.toNat 0):=by rw[aq,ak,ay f];rfl
  skip;refine .assign (.sub (.g 1) (.g 3)<|.list (Ue m) (Uf r f) w) ai (.g 5)<|.assign (.sub (.g 2) (.g 3)<|.list (Ue m) (Uf r f) y) ai (.g 6)<|.ite (.cmp (.g 5) (.g 6) .kl) (λh=>?_) λh=>?_
  .refine .ret (.neg<|.g 4)<|q<|.ret ?_;rw[if_pos<|of_decide_eq_true h] at d;rw[<-d]
  .rw[if_neg<|of_decide_eq_false h] at d;refine .nil<|.ite (.cmp (.g 5) (.g 6) .uU) (λj=>?_) λj=>?_
   .refine .ret (.g 4)<|q<|.ret ?_;rw[if_pos<|of_decide_eq_true j] at d;rw[<-d]
   .rw[if_neg<|of_decide_eq_false j] at d;refine .nil<|.nil<|q<|.next (f4 3) () d rfl
 .intro _ d;rw[af,vz] at d;exact .ret .int<|d▸rfl
structure j'(K) [DecidableEq K]where
 knd:∀W:Wd,KeyKind PP W.w K
 enc:K->T
 is:∀W G k v,Tr G v (enc k)->(knd W).is k v=aj
 of:∀W G k v,(knd W).is k v=aj->Tr G v (enc k)
noncomputable def kS:j' bC where
 knd:=λW=>strKind PP W.w
 enc:=.str
 is:=λW G k v h=>by cases h;exact strKind_is _ _ _ _
 of:=λW G k v h=>by refine cc (Value.isStrOf_shape h) λt a=>?_;subst a;exact .str _ _
noncomputable def kI:j' Int where
 knd:=λW=>intKind PP W.w
 enc:=.int
 is:=λW G k v h=>by cases h;exact intKind_is _ _ _ _
 of:=λW G k v h=>by refine cc (Value.isInt_shape h) λt a=>?_;subst a;exact .int _ _
section
variable {K:Type}[DecidableEq K]
inductive gI(κ:j' K)(W G)(o:uJ)(kvs:List<|K×T):Prop|mk (vals) (d:o.IsDictOf (κ.knd W) vals) (k:vals.map (·.1)=kvs.map (·.1)) (tr:aG G (vals.map (·.2))<|kvs.map (·.2))
theorem gI.mono{κ:j' K}(hs:∀a o,G a=ae o->d a=ae o)(h:gI κ W G o kvs):gI κ W d o kvs:=(h).casesOn λv a b c=>⟨v,a,b,c.mono hs⟩
theorem gI.Nj{κ:j' K}(h:gI κ W G o kvs)(v):o.data≠.cell v:=by obtain⟨_,⟨b,a,_,e,_⟩,_⟩:=h;rw[e];intro q;cases q
noncomputable def Ob.dk(κ:j' K)(W:Wd)(kvs:List<|K×T):Ob:=.any (λG o=>gI κ W G o kvs) (λ_ _ _ a h=>h.mono a) λ_ _ v h=>h.Nj v
noncomputable def T.dk(κ:j' K)(W:Wd)(kvs:List<|K×T):T:=.any (λG v=>∃a o,v=.ref a/\(a==f_)=false/\G a=ae o/\gI κ W G o kvs) λ_ _ _ b g=>mG g λa o c d e f=>vG a o c d (b _ _ e)<|f.mono b
noncomputable def mJ(kvs:List<|K×T)(k:K):Option T:=(kvs.find? λa=>a.1=k).map (·.2)
noncomputable def putK(kvs:List<|K×T)(k:K)(t:T):List<|K×T:=if kvs.any (λa=>a.1=k) then kvs.map (λa=>if a.1=k then(a.1,t) else a) else kvs++[(k,t)]
theorem JS{α c:Type}(k){a:List (K×α)}{b:List (K×c)}(h:a.map (·.1)=b.map (·.1)):a.any (λkv=>decide<|kv.1=k)=b.any (λkv=>decide<|kv.1=k):=(m6 (p:=λx=>decide<|x=k)).symm.trans<|(congrArg (List.any · _) h).trans m6
theorem z8{α:Type}(p)(l:List<|K×α)(k):((p::l).find? λkv=>decide<|kv.1=k).map (·.2)=if p.1=k then ae p.2 else(l.find? λkv=>decide<|kv.1=k).map (·.2):=by
 rw[gr];by_cases q:p.1=k;.rw[decide_eq_true q,if_pos q];rfl
 .rw[decide_eq_false q,if_neg q]
theorem lC(k:K)(h:a.map (·.1)=kvs.map (·.1))(d:aG G (a.map (·.2))<|kvs.map (·.2)):(∀t,mJ kvs k=ae t->∃v,yE a k=ae v/\Tr G v t)/\(mJ kvs k=ah->yE a k=ah):=by
 unfold mJ yE;induction a generalizing kvs with
 |nil=>cases kvs with|nil=>exact⟨λt h=>nS h,λ_=>rfl⟩|cons q kvs=>exact absurd h.symm<|gE _ _
 |cons p a g=>cases kvs with|nil=>exact absurd h<|gE _ _|cons q kvs=>
   cases d using aG.t_ with|cons f b=>
    rw[z8,z8,show p.1=q.1 from(gZ h).1];by_cases c:q.1=k;.rw[if_pos c,if_pos c];exact⟨λt e=>⟨_,rfl,bq e▸f⟩,sN⟩
    .rw[if_neg c,if_neg c];exact g (gZ h).2 b
theorem z9{α:Type}(l:List<|K×α)(k v):(l.map λkv=>if kv.1=k then(kv.1,v) else kv).map (·.1)=l.map (·.1):=aE.trans<|aI λp _=>by
  show(if p.1=k then(p.1,v) else p).1=_;by_cases c:p.1=k;.rw[if_pos c]
  .rw[if_neg c]
theorem WB(e:Tr G v t){a:List (K×aW)}{kvs:List (K×T)}(h:a.map (·.1)=kvs.map (·.1))(d:aG G (a.map (·.2))<|kvs.map (·.2)):aG G ((a.map λkv=>if kv.1=k then(kv.1,v) else kv).map (·.2))<|(kvs.map λkv=>if kv.1=k then(kv.1,t) else kv).map (·.2):=by
 induction a generalizing kvs with
 |nil=>cases kvs with|nil=>exact .nil|cons q kvs=>exact absurd h.symm<|gE _ _
 |cons p a g=>cases kvs with|nil=>exact absurd h<|gE _ _|cons q kvs=>
   cases d using aG.t_ with|cons f b=>
    refine .cons ?_<|g (gZ h).2 b;show Tr G (if p.1=k then(p.1,v) else p).2 (if q.1=k then(q.1,t) else q).2;by_cases c:q.1=k;.rw[if_pos c,if_pos<|(gZ h).1.trans c];exact e
    .rw[if_neg c,if_neg λz=>c<|(gZ h).1.symm.trans z];exact f
theorem uh{k:K}(c:Tr G v t)(h:a.map (·.1)=kvs.map (·.1))(b:aG G (a.map (·.2))<|kvs.map (·.2)):(stored a k v).map (·.1)=(putK kvs k t).map (·.1)/\aG G ((stored a k v).map (·.2)) ((putK kvs k t).map (·.2)):=by unfold stored putK;rw[JS k h];cases kvs.any (λd=>decide<|d.1=k) with|true=>exact⟨(z9 a k v).trans<|h.trans (z9 kvs k t).symm,WB c h b⟩|false=>show(a++[(k,v)]).map _=(kvs++[(k,t)]).map _/\aG G ((a++[(k,v)]).map _) ((kvs++[(k,t)]).map _);rw[aJ,aJ,aJ,aJ];exact⟨congrArg (·++[k]) h,b.append<|.one c⟩
theorem Nk(kvs)(k:K)(t):(putK kvs k t).length<=kvs.length+1:=by unfold putK;cases kvs.any (λa=>decide<|a.1=k) with|true=>exact ab (aH<|af _)<|cB _|false=>exact aH aM
end
section
variable {K:Type}[DecidableEq K] 
theorem St.pS(S:St C h Ω G s)(I:Inv C.W G s)(f:o.isFreed=false)(d:b.holds G o):St C h ((s.heap.objs.size,b)::Ω) G {s with heap:=s.heap.push o}/\Inv C.W G {s with heap:=s.heap.push o}:=by
 haveI c:s.heap.get? s.heap.objs.size=none:=aV<|al _;haveI i:=Ext.g4 G s o;haveI a:=S.mono i;refine⟨{a with own:=λq m=>?_,hU:=?_},I.g4 o⟩
 .refine eQ m ?_ λm=>?_;.exact⟨I.cL<|al _,⟨_,aS _ f,d⟩,(S.fresh c).imp id .inl,(S.fresh_ne c).1⟩
  .exact a.own q m
 .rw[ax,bV];refine⟨λm=>?_,a.hU⟩;refine aU (am.mp m) λq g e=>(S.fresh_ne c).2 q g e.symm
theorem gI.new(κ W G):gI κ W G {cls:=.type "dict",data:=.dict #[]} ([]:List<|K×T):=⟨[],Y6 (#[]) 0 ⟨rfl,rfl,rfl⟩ rfl (λ_ a=>by simp at a) Pairs.nil jk,rfl,.nil⟩
theorem jb.newDict(κ:j' K):jb C g Ω (.Dict [] [] pos) λt c=>∃a,t=.val (.ref a)/\c=(a,Ob.dk κ C.W [])::Ω:=λA G s f I S=>by refine Ye ?_;(haveI e:=(S.pS (b:=Ob.dk κ C.W []) I rfl<|gI.new κ C.W G).1;haveI d:=(S.pS (b:=Ob.dk κ C.W []) I rfl<|gI.new κ C.W G).2);exact⟨G,_,_,⟨_,rfl,rfl⟩,d,e,.refl G,.val _⟩
theorem Ev.newDict(κ:j' K):Ev C b Ω (.Dict [] [] pos)<|T.dk κ C.W []:=λA G s a I S=>Ye<|iQ I rfl rfl rfl rfl<|.any<|vG _ _ rfl (I.sL<|I.cL<|al _) (Gh.fD _ _ _)<|gI.new κ C.W _
noncomputable def ia(κ:j' K)(W:Wd)(Ω:bM)(t:T)(kvs:List<|K×T):Prop:=∀C b G s v,C.W=W->Inv W G s->St C b Ω G s->Tr G v t->∃a o,v=.ref a/\(a==f_)=false/\s.heap.get? a=ae o/\gI κ W G o kvs
theorem ia.own{κ:j' K}(m:(a,b)∈Ω)(h:b.bare=Ob.dk κ W kvs):ia κ W Ω (.val<|.ref a) kvs:=λC i G s v _ I S e=>by
 cases e
 refine gR (S.own _ m) λg f _=>aU f λo d c=>?_;haveI c:=Ob.j_.mpr c;rw[show(a,b).2.bare=_ from h] at c;exact vG a o rfl (I.sL g) d c
theorem ia.stay{κ:j' K}:ia κ W Ω (T.dk κ W kvs) kvs:=λC g G s v _ I S f=>by cases f using Tr.Ri with|any h=>refine mG h λa o b c d e=>vG a o b c (I.hM _ _ d) e
end
section
variable {K:Type}[DecidableEq K] 
theorem gI.of{h:lm}{kvs:List (K×T)}(g:h.get? a=ae o)(d:gI κ W G o kvs):∃b,h.DictOf (κ.knd W) a b/\b.map (·.1)=kvs.map (·.1)/\aG G (b.map (·.2)) (kvs.map (·.2)):=by obtain⟨b,c,e,f⟩:=d;exact⟨b,Heap.dictOf_iff.mpr ⟨o,g,c⟩,e,f⟩
theorem kn{α d c:Type}{a:List (c×α)}{b:List (c×d)}(h:a.map (·.1)=b.map (·.1)):a.length=b.length:=by haveI:=congrArg mm h;simpa using this
theorem xm{Ty id:String}(H:Ok A C.n)(I:Inv C.W G s)(S:St C B Ω G s)(R:Ev C B Ω o t) (E:∀G s v,Inv C.W G s->St C B Ω G s->Tr G v t->s.TypeIs v Ty/\∀a,v=.ref a->∃F,s.heap.get? a=ae F/\F.dict=ah)(pa:TQ Ty)(y:yC Ty name id)(D:fA (.builtin id)=bB (.type "method_descriptor"))(h:oD C B Ω f us) (hq:∀v z b c,Inv C.W b c->St C B Ω b c->Ext G s b c->Tr b v t->aG b z us->aD C.W.M A (call (.builtin id)<|v::z) Q (λ_ _=>False) c) (hp:∀env,(bb pos<|aw f env).any (·.1)=false) (P:∀env,dG o name env (eval o env)=eval o env) (u:∀env,((bb pos<|aw f env).all (λx=>!x.1)&&(bK pos<|aX [] env).all (λx=>x.1.isSome)&&decide (f.length+([]:List ij).length+(if([]:List ij).isEmpty then 0 else 1)<30))=aj) (q:(r.endLine==pos.line)=aj):aD C.W.M A (eval (.Call (.Attribute o name r) f [] pos) C.env) Q (λ_ _=>False) s:=by refine fc (P _) (u _) q pa y D<|Run.use (R A G s H I S) λv l g d p j=>?_;haveI e:=S.mono p;(haveI L:=(E g l v d e j).1;haveI N:=(E g l v d e j).2);refine⟨L,N,gG (.builtin _) d.k ?_<|hp _⟩;refine Run.use (h A g l pos H d e) λz c b m i w=>⟨m.k,?_⟩;exact hq v z b c m (e.mono i) (p.trans i) (j.mono i.sub) w
theorem ia.typeIs{κ:j' K}(d:ia κ C.W Ω t kvs):∀G s v,Inv C.W G s->St C j Ω G s->Tr G v t->s.TypeIs v "dict"/\∀a,v=.ref a->∃e,s.heap.get? a=ae e/\e.dict=none:=λG s v I S h=>by refine mG (d C j G s v rfl I S h) λa o i _ g d=>?_;subst i;refine aU (d.of g) λf c _=>⟨c.typeIs,λb=>c.mapOf.noDict b⟩
theorem Ev.Dl{κ:j' K}(ho:Ev C M Ω o t)(d:ia κ C.W Ω t kvs)(h:oD C M Ω b [κ.enc key,u]) (hp:autoParam (∀env,(bb pos<|aw b env).any (·.1)=false) eX) (hb:autoParam (∀env,dG o "get" env (eval o env)=eval o env) eX) (l:autoParam (∀env,((bb pos<|aw b env).all (λx=>!x.1)&&(bK pos<|aX [] env).all (λx=>x.1.isSome)&&decide (b.length+([]:List ij).length+(if([]:List ij).isEmpty then 0 else 1)<30))=aj) eX) (f:autoParam ((k.endLine==pos.line)=aj) iF):Ev C M Ω (.Call (.Attribute o "get" k) b [] pos)<|(mJ kvs key).getD u:=λA G s ok I S=>by
 refine xm ok I S ho d.typeIs j4 o7 PySem.F.type_dict_get h (λv vs c z e i j n p=>?_) hp hb l f;cases p using aG.ca with|cons H r=>
  cases r using aG.ca with|cons E r=>
   cases r
   refine mG (d C M c z v rfl e i n) λa ob q0 m L D=>?_;subst q0;refine ix (D.of L) λB N Q R=>yF o7 N.typeIs zB (PySem.F.args_dict_get_3 _ _ _) (LH (κ.knd C.W) a (κ.is _ _ _ _ H) m _) ⟨yE B,N.mapOf,?_⟩;refine⟨c,e.bL rfl rfl rfl,j.trans<|.bL rfl,?_⟩;haveI P:=lC key Q R;cases q:mJ kvs key with|none=>rw[P.2 q];exact E|some w=>refine aU (P.1 w q) λy e1 e2=>?_;rw[e1];exact e2
theorem pz.inDict{κ:j' K}(P:Ev C B Ω k<|κ.enc key)(Q:Ev C B Ω o t)(d:ia κ C.W Ω t kvs)(N:autoParam (iA .In o=false) iF):pz C B Ω (.Compare k [.In] [o] pos) (mJ kvs key).isSome:=λA G s D I S=>by
 refine eg ?_ N;refine Run.use (P A G s D I S) λv n h i b l=>?_;refine Run.use (Q A h n D i<|S.mono b) λu p f g c m=>?_;refine mG (d C B f p u rfl g ((S.mono b).mono c) m) λa ob R j z x=>?_;subst R;refine ix (x.of z) λr F H L=>wpAny_in_of (κ.is _ _ _ _<|l.mono c.sub) j F.mapOf ?_;haveI E:=lC key H L;have e:(yE r key).isSome=(mJ kvs key).isSome:=by cases q:mJ kvs key with|none=>rw[E.2 q];rfl|some w=>refine aU (E.1 w q) λy M e2=>?_;rw[M];rfl
 rw[e];refine cm<|⟨f,g.bL rfl rfl rfl,(b.trans c).trans<|.bL rfl,rfl⟩
theorem Ev.subDict{κ:j' K}(Q:Ev C x Ω o t)(d:ia κ C.W Ω t kvs)(P:Ev C x Ω k<|κ.enc key)(N:mJ kvs key=ae u) (hs:autoParam (∀o i,fb k false o i=k9 [o,i] (ig o i)) CU):Ev C x Ω (.Subscript o k pos) u:=λA G s D I S=>by refine mQ<|Run.use (Q A G s D I S) λv n h j b l=>?_;refine Run.use (P A h n D j<|S.mono b) λw p e f c m=>?_;refine mG (d C x e p v rfl f ((S.mono b).mono c)<|l.mono c.sub) λa ob R B r q=>?_;subst R;refine ix (q.of r) λE z F H=>aU ((lC key F H).1 u N) λy L M=>fX z.typeIs slot_dict_getitem.lookup (Yg (κ.is _ _ _ _ m) z.mapOf L ?_)<|.inl<|hs _ _;exact⟨e,f.bL rfl rfl rfl,(b.trans c).trans<|.bL rfl,M⟩
theorem oU{κ:j' K}(I:Inv C.W G s)(S:St C L Ω G s)(p:eL Ω a (Ob.dk κ C.W kvs) (Ob.dk κ C.W<|putK kvs key t) bT)(r:Tr G kv<|κ.enc key)(y:Tr G v t)(hz:kvs.length<=aA) (h:∀s',Inv C.W G s'->St C L bT G s'->Q () s'):aD C.W.M A (VI (.ref a) kv v) Q E s:=by
 refine gR (S.own _ p.mem) λg H _=>aU H λo u d=>ix (gI.of u d) λl n f q=>wpAny_setItem_pairs (κ.is _ _ _ _ r) n (λN m w=>?_)<|by rw[kn f];exact hz
 haveI i:=λc x z=>w.extBut c x z;refine aU (Heap.dictOf_iff.mp m) λB e b=>?_;(haveI j:=uh (k:=key) y f q;haveI D:=j.1;haveI F:=j.2);exact h _ (I.dU S p.mem i rfl rfl)<|S.dU p rfl rfl i ⟨B,e,⟨_,b,D,F⟩⟩
theorem bZ.xn{κ:j' K}(H:Ev C z Ω e t)(M:Ev C z Ω o<|.val<|.ref a)(L:Ev C z Ω k<|κ.enc key)(p:eL Ω a (Ob.dk κ C.W kvs) (Ob.dk κ C.W<|putK kvs key t) bT)(hz:kvs.length<=aA)(N:bZ C z bT rest P) (hs:autoParam (fi e (ae<|.Subscript o k w) pos.line C.env=bB false) iF):bZ C z Ω (.Assign [.Subscript o k w] e pos::rest) P:=.step λA G s B I S=>by
 refine ru ?_ hs;refine Run.use (H A G s B I S) λv x h l g q=>?_;have d:=S.mono g;refine Run.use (M A h x B l d) λR y i m b r=>?_;cases r
 have f:=d.mono b;refine Run.use (L A i y B m f) λQ D j n c u=>?_;exact oU n (f.mono c) p u ((q.mono b.sub).mono c.sub) hz λs' E F=>⟨rfl,z,bT,j,E,F,Sub.trans (Sub.trans g.sub b.sub) c.sub,N⟩
theorem bZ.Nl{κ:j' K}(ho:Ev C H Ω o<|.val<|.ref a)(hk:Ev C H Ω (.Name x px)<|κ.enc key)(hg:mJ kvs key=ae (.int i))(he:Ev C H Ω e<|.int j)(p:eL Ω a (Ob.dk κ C.W kvs) (Ob.dk κ C.W<|putK kvs key<|.int<|i+j) bT)(hz:kvs.length<=aA)(kk:bZ C H bT rest P):bZ C H Ω (.AugAssign (.Subscript o (.Name x px) Q) .Add e pos::rest) P:=.step λA G s N I S=>by
 refine wpAny_AugAssign_Subscript<|Run.use (ho A G s N I S) λov F u w n D=>?_;cases D
 haveI m:=S.mono n;refine Run.use (hk A u F N w m) λkv k b z q r=>?_;have d:=m.mono q;refine gR (d.own _ p.mem) λg q0 _=>aU q0 λob M L=>ix (gI.of M L) λR d1 d2 d3=>aU ((lC key d2 d3).1 _ hg) λy e1 e2=>Yg (κ.is _ _ _ _ r) d1.mapOf e1 ?_;haveI f:Ext b k b {k with toks:=k.toks+1}:=.bL rfl;refine Run.use (he A b _ N (z.bL rfl rfl rfl)<|d.mono f) λv l c B h E=>?_;cases e2
 cases E
 refine aeV ?_;haveI t:Ext c l c {l with toks:=l.toks+1}:=.bL rfl;exact oU (B.bL rfl rfl rfl) (((d.mono f).mono h).mono t) p (r.mono h.sub) (Tr.int _ _) hz λs' I' S'=>⟨rfl,H,bT,c,I',S',Sub.trans (Sub.trans n.sub q.sub) h.sub,kk⟩
theorem bZ.Ih(f:∀G o,G a=ah->(a==f_)=false->b.holds G o->Tr (G.add a o) (.ref a) t)(hx:∀y u,(y,ae u)∈Γ'->(y,ae u)∈B\/(y,ae (.val<|.ref a))∈B/\u=t)(hn:Γ'.map (·.1)=B.map (·.1))(R:(a,b)∈Ω)(n:b.gT=false) (w:∀p∈bT,p.1≠a/\∃c,(p.1,c)∈Ω/\(c.gT=aj->p.2.gT=aj)/\∀G o,G a=ah->Tr (G.add a o) (.ref a) t->∀x,c.holds G x->p.2.holds (G.add a o) x)(i:(bT.map (·.1)).Nodup) (k:bZ C Γ' bT ss P):bZ C B Ω ss P:=λA G s ok I S=>by
 refine sB (S.own _ R) λg q0 hf j=>aU q0 λo H F=>?_;have d:=Gh.dT (o:=o) g;have E:=f G o g (I.sL g) F;refine Ends.lift d<|k A (G.add a o) s ok ⟨λb x e=>(Gh.ga e).elim (λz=>?_)<|I.hM b x,λb x e=>d b x<|I.hb b x e,I.bare,I.os⟩ {kind:=S.kind,glob:=S.glob,blt:=S.blt,nodup:=hn▸S.nodup,vars:=λy u m=>?_,loc:=S.loc,rR:=Gh.A7 S.rR j.symm,cell:=λy c e=>?_,apart:=S.apart,dY:=S.dY,own:=λp m=>?_,hU:=i,ext:=⟨S.ext.heap,λb x e=>d b x<|S.ext.sub b x e,λb x e=>(Gh.ga e).elim (λz=>?_)<|S.ext.new b x⟩};.rw[z.1,z.2];exact H
 .refine(hx y u m).elim (λh=>?_) λh=>?_;.refine aU (S.vars y u h) λv r q=>⟨v,r,q.mono d⟩
  .refine aU (S.vars y _ h.1) λv r q=>⟨v,r,?_⟩;cases q
   exact h.2▸E
 .refine bu (S.cell y c e) λN q1=>cc q1 λv D=>⟨Gh.A7 N (lA H (Ob.jf F) D).symm,v,D⟩
 .refine bu (w p m) λna q2=>ix q2 λc mc l W=>sB (S.own _ mc) λo1 q3 r1 r2=>aU q3 λL Q M=>⟨Gh.A7 o1 na,⟨L,Q,W G o g E L M⟩,r1.imp id λz=>z.imp id l,r2⟩
 .rw[z.1];exact hf.elim (λh=>.inr<|.inl h) λh=>h.elim (λh=>.inr<|.inr h) λh=>fT<|n.symm.trans h
theorem Ve{c:cG}:∀y u,(y,ae u)∈c++(x,ae t)::b->(y,ae u)∈c++(x,ae (.val<|.ref a))::b\/(y,ae (.val<|.ref a))∈c++(x,ae (.val<|.ref a))::b/\u=t:=λy u m=>by
 refine dy (bO.mp m) (λm=>?_) λm=>?_;.exact .inl<|bp _ m
 .refine dy (bf.mp m) (λe=>?_) λm=>?_;.cases e;exact .inr ⟨av _<|.head _,rfl⟩
  .exact .inl<|av _<|.tail _ m
theorem bZ.oe(i f:cG)(c d)(g:∀G o,G a=ah->(a==f_)=false->b.holds G o->Tr (G.add a o) (.ref a) t)(j:b.gT=false)(k:bZ C (i++(x,ae t)::f) (c++d) q P):bZ C (i++(x,ae (.val<|.ref a))::f) (c++(a,b)::d) q P:=λA G s n I S=>by
 refine bZ.Ih g Ve (by simp) (av _<|.head _) j (λp m=>⟨λe=>?_,p.2,?_,id,λG o l _ x=>Ob.lz<|Gh.dT l⟩) (S.hU.sublist<|(oF (zx _)<|la _ _).map _) k A G s n I S;.have h:=S.hU;rw[aJ,ax,dZ,bV] at h;refine(bO.mp m).elim (λm=>h.2.2 _ (am.mpr ⟨p,m,rfl⟩) _ (.head _) e) λm=>h.2.1.1<|am.mpr ⟨p,m,e⟩
 .exact(bO.mp m).elim (bp _) λm=>av _<|.tail _ m
theorem ui{κ:j' K}:∀G o,G a=ah->(a==f_)=false->(Ob.dk κ W kvs).holds G o->Tr (G.add a o) (.ref a) (T.dk κ W kvs):=λG o g b h=>.any<|vG a o rfl b (Gh.fD _ _ _)<|gI.mono (Gh.dT g) h
theorem iS:∀G o,G a=ah->(a==f_)=false->(Ob.list ts).holds G o->Tr (G.add a o) (.ref a) (.list ts):=λG o g d h=>by
 refine j7 h λe n b c=>?_;try clear h;subst b
 exact .seq (Gh.fD _ _ _) rfl (λ_=>rfl) rfl<|c.mono<|Gh.dT g
end
section
variable {K:Type}[DecidableEq K] 
noncomputable def wn(knd:KeyKind prog w K)(b d:cj)(kvs:List<|K×aW)(a i:Nat)(h:lm):Prop:=(∃c e,IsItemIter h b d i kvs.length a c e)/\h.DictAt knd d kvs a
theorem xo:gN mF "dict_itemiterator.__iter__"=ae dF.«dict_keyiterator.__iter__»:=FD (id':="dict_keyiterator.__iter__") (by kernel_rfl) rfl (by decide+kernel)<|by kernel_rfl
theorem Gk{knd:KeyKind prog w K}(P:A.handled=ah)(e d)(u:d≠e)(kvs B):TP prog w A e [e,d] [e] kvs.length (λi y=>∃k v key,kvs[i]?=ae (k,v)/\knd.is k key=aj/\y=#[key,v]) (wn knd e d kvs B) λi T h=>T≠e/\(∃f g,IsItemIterOut h e d (i+1) kvs.length B f g T)/\h.DictAt knd d kvs B where
 sub:=λb I=>by simp at I;simp[I]
 frame:=λi h m l r=>by refine bu l λq0 b=>sC q0 λf g a=>⟨⟨f,g,r e (by simp) _ a⟩,b.at' λo=>r d (by simp) o⟩
 item:=λi s Q E C l j=>by refine bu l λq1 b=>sC q1 λf g a=>?_;obtain⟨⟨k,x⟩,M⟩:∃p,kvs[i]?=ae p:=⟨kvs[i],by simp[C]⟩;have D:=db a;refine wpAny_pyNext_items_item a b M λkey m t R W S r=>j s.heap.objs.size #[key,x] m s.toks ⟨k,x,key,M,t,rfl⟩ (al _) ⟨_,W,rfl,_,rfl⟩ ⟨eJ D,⟨key,x,R⟩,b.at' λo=>r d o u⟩ λc o n=>r c o λq=>n<|by simp[q]
 go:=λH k a0 i T s Q E G j=>by refine gR G λz q2 b=>sC q2 λf g a=>wpAny_letOwnedTupleGo_items a λm C L=>j m ⟨⟨f,g,C⟩,b.extBut L.extBut u⟩ λc o n=>L.extBut c o λq=>n<|by simp[q]
 apart:=λi T h G=>by simp;exact G.1
 done:=λs Q E l j=>by refine bu l λq3 b=>sC q3 λf g a=>wpAny_pyNext_items_end P a b (by simp) λm N=>j m s.toks λc o n=>N c o λq=>n<|by simp[q]
 self:=λi s Q E l j=>by
  refine bu l λq4 b=>sC q4 λf g a=>?_;have z:s.TypeIs (.ref e) "dict_itemiterator":=⟨_,a,rfl⟩;refine VJ z yQ<|ec yQ z xo ?_<|F.args_dict_itemiterator_iter_1 _;show aD _ _ (QB<|.ref e) _ _ s;exact ag ⟨_,rfl,"dict_itemiterator",_,z,F.slot_dict_itemiterator_next.lookup,j⟩
end
section
variable {K:Type}[DecidableEq K] 
theorem Tr.Dm{κ:j' K}(h:Tr G v<|T.dk κ W kvs):∃a o,v=.ref a/\(a==f_)=false/\G a=ae o/\gI κ W G o kvs:=by cases h using Tr.Ri with|any h=>exact h
theorem fR.items{κ:j' K}(ho:Ev C Γ Ω o<|T.dk κ C.W kvs) (g:autoParam (∀env,dG o "items" env (eval o env)=eval o env) eX)(n:autoParam ((x.endLine==pos.line)=aj) iF):fR C Γ Ω (.Call (.Attribute o "items" x) [] [] pos) (.Tuple xs k p)<|(kvs.map λq=>[κ.enc q.1,q.2]).map .tuple:=λA G s ok I S=>by
 refine xm ok I S ho ia.stay.typeIs j4 j5 yR .nil (λv vs R P m S' X' M N=>?_) (λenv=>rfl) g (λenv=>rfl) n;cases N
 refine mG M.Dm λd ob q0 H hG a0=>?_;subst q0;have a3:=m.hM _ _ hG;refine ix (a0.of a3) λc d1 d2 d3=>?_;have en:=kn d2;refine yF j5 d1.typeIs yG (wN _) (Yh (κ.knd C.W) d H) ⟨⟨c,d1⟩,?_⟩;refine cc d1.dictAt λy da=>?_;have a1:=m.lt hG;refine wpAny_pyIter_items ⟨_,aS _ rfl,rfl,rfl⟩ (da.push _) ?_;generalize z:P.heap.push {cls:=.type "dict_items",data:=.fields #[.ref d]}=f;generalize E:({cls:=.type "dict_itemiterator",data:=.fields #[.none,.bool false,.ref d,.int 0 0,.int c.length 0,.int y 0,.none,.none]}:uJ)=u;have r:f.objs.size=P.heap.objs.size+1:=by rw[<-z];exact e_ ..
 have j:∀a o,P.heap.get? a=ae o->(f.push u).get? a=ae o:=λa o e=>aN _<|by rw[<-z];exact aN _ e
 have I2:Inv C.W R {P with heap:=f.push u}:=⟨λa o e=>j a o<|m.hM a o e,m.hb,m.bare,m.os⟩;have fr:P.heap.get? f.objs.size=none:=aV<|by rw[r];exact cB _
 have a2:(f.push u).get? f.objs.size=ae u:=aS _<|by rw[<-E];rfl
 have a5:d≠f.objs.size:=by rw[r];exact bJ<|eY a1
 have Q:wn (κ.knd C.W) f.objs.size d c y 0<|f.push u:=⟨⟨.none,.none,by show _=_;rw[a2,<-E];rfl⟩,da.at' λo=>j d o⟩;have l:∀i h,wn (κ.knd C.W) f.objs.size d c y i h->∀b∈[f.objs.size],∃o,h.get? b=ae o/\∀v,o.data≠.cell v:=λi h st b g=>by rw[ao] at g;subst g;refine bu st λq1 _=>sC q1 λok ov q=>⟨_,q,λv q=>by cases q⟩
 have Wk:∀A,A.handled=ah->TP PP C.W.w A f.objs.size [f.objs.size,d] [f.objs.size] c.length _ _ _:=λA hh=>Gk (knd:=κ.knd C.W) hh f.objs.size d a5 c y;refine⟨R,JW R [f.objs.size,d] [f.objs.size]<|wn (κ.knd C.W) f.objs.size d c y,lB (f.push u) [f.objs.size],I2,X'.trans ⟨j,λ_ _ e=>e,λ_ _=>.inl⟩,?_,?_,?_,by rw[iH];simp,?_⟩
 .refine rU (ts:=kvs.map λq=>[κ.enc q.1,q.2]) R (by rw[af,<-en];exact Wk) l λi vs t a6 hP ht hs=>?_;refine Mq hP λk v a7 hx D q2=>?_;try clear hP;subst q2
  rw[aq,aT] at ht;obtain⟨⟨k',t'⟩,B,rfl⟩:=ht;have e1:(c.map (·.1))[i]?=ae k:=by rw[aq,hx];rfl
  have e2:(kvs.map (·.1))[i]?=ae k':=by rw[aq,B];rfl
  rw[d2,e2] at e1;cases e1
  obtain⟨v',L,a4⟩:=d3.get (k:=i) (t:=t') (by rw[aq,B];rfl);rw[aq,hx] at L;cases L
  exact .cons (κ.of C.W _ _ _ D)<|.cons (a4.mono hs) .nil
 .refine sH ((Wk {A with handled:=ah} rfl).frame) Q (λ_ _ e=>e) (λb g=>?_) I2.hM;rcases bf.mp g with rfl|g;.exact .inl<|by simp
  .rw[ao] at g;subst g;exact .inr ⟨_,hG⟩
 .refine sG (l 0 _ Q) λb g=>?_;rw[ao] at g;subst g;exact m.cL<|by rw[r];exact cB _
 .intro p hp;have:p.1∈(lB (f.push u) [f.objs.size]).map (·.1):=am.mpr ⟨p,hp,rfl⟩;rw[iH,ao] at this;rw[this];exact fH X'.heap fr
end
section
theorem bZ.ph(h:Ev C d Ω e t)(k:bZ C d Ω rest P)(g:autoParam (jS C.env=false) iF)(i:autoParam (fi e ah pos.line C.env=bB false) iF):bZ C d Ω (.Expr e pos::rest) P:=.expr (λA G s j I S=>Run.use (h A G s j I S) λv f b c a _=>⟨d,Ω,b,c,S.mono a,a.sub,k⟩) g i
end
noncomputable def oE(l:List<|bC×Int):List<|bC×T:=l.map λp=>(p.1,.int p.2)
noncomputable def jo(l:List<|bC×Int)(k:bC):Option Int:=(l.find? λa=>a.1=k).map (·.2)
noncomputable def mu(l:List<|bC×Int)(k:bC)(v:Int):List<|bC×Int:=if l.any (λa=>a.1=k) then l.map (λa=>if a.1=k then(a.1,v) else a) else l++[(k,v)]
theorem qG(l k):mJ (oE l) k=(jo l k).map .int:=by
 unfold mJ jo oE;induction l with|nil=>rfl|cons p l a=>
  rw[ax,gr,gr];by_cases q:p.1=k;.simp[q]
  .simp only [q,decide_false];exact a
theorem sU(l k v):putK (oE l) k (.int v)=oE (mu l k v):=by
 unfold putK mu oE;haveI e:(l.map λp=>(p.1,T.int p.2)).any (λa=>decide<|a.1=k)=l.any λa=>decide<|a.1=k:=by rw[m6];rfl
 rw[e];split;.rw[aE,aE];apply aI;intro p _;dsimp only [LI];split<;>rfl
 .rw[aJ];rfl
theorem sV(l k v):(mu l k v).length<=l.length+1:=by unfold mu;split<;>simp
noncomputable def y_(l:List<|bC×Int)(p:bC×Int):List<|bC×Int:=match jo l p.1 with|some o=>mu l p.1<|o+p.2|none=>mu l p.1 p.2
theorem Nm(l p):(y_ l p).length<=l.length+1:=by unfold y_;cases jo l p.1<;>exact sV _ _ _
noncomputable def Nn(a:List<|bC×Int):List<|bC×Int:=a.foldl (λb p=>mu b p.1 p.2) []
noncomputable def xp(a b:List<|bC×Int):List<|bC×Int:=b.foldl y_<|Nn a
noncomputable abbrev adV:FuncData:=jG (oB PP 14) "add_callers" [] .none .none (mH (oB PP 14) 868) (.str "cpy313.pstats" 793) ah (.ref 448) .none
noncomputable abbrev RM:List Str:=["target","source","new_callers","func","caller"]
theorem RN(W):gH W 449 adV (dA<|oB PP 14) RM:=.plain
theorem WC(W:Wd):l7 W.K a_ "isinstance"=ae none:=by kernel_rfl
theorem WD:cN "isinstance"=ae (.builtin "isinstance"):=by kernel_rfl
theorem WE:("isinstance":bC)≠"__name__":=by decide+kernel
theorem xq(W:Wd):l7 W.K a_ "tuple"=ae none:=by kernel_rfl
theorem xr:cN "tuple"=ae (.type "tuple"):=by kernel_rfl
theorem xt:("tuple":bC)≠"__name__":=by decide+kernel
noncomputable abbrev UT(W:Wd)(a b:List<|bC×Int)(n f c:Option T):cG:=[("target",ae (T.dk kS W<|oE a)),("source",ae (T.dk kS W<|oE b)),("new_callers",n),("func",f),("caller",c)]
theorem JT:eL (Δ++(a,b)::Ω) a b c<|Δ++(a,c)::Ω:=eL.app Δ .here
theorem fR.z_(h:fR C a Ω e x ts)(q:ts=us):fR C a Ω e x us:=q▸h
theorem JU(v:a.length<=10000)(y:b.length<=10000):gW W (.ref 449) [T.dk kS W<|oE a,T.dk kS W<|oE b] 1 []<|T.dk kS W<|oE<|xp a b:=by
 refine gW.of (RN W) ["target","source"] ["new_callers","func","caller"] (UT W a b ah ah ah) (λw z=>?_) rfl λL I _=>?_;.refine sD z λa b=>?_;kernel_rfl
 refine .ph .str<|.iK (jb.newDict kS) ai λt s h=>aU h λd A B=>?_;try clear h;subst A;subst B
 refine⟨_,.g 2,?_⟩;haveI D:aA=2^24:=rfl;haveI u:∀l,((oE l).map λq=>[T.str q.1,q.2]).map T.tuple=l.map λp=>.tuple [.str p.1,.int p.2]:=λl=>by unfold oE;rw[aE,aE];rfl
 refine .F8 a (λp=>.tuple [.str p.1,.int p.2]) (λc p=>mu c p.1 p.2) [] (λ_=>UT W a b (ae<|.val<|.ref d) ah ah) (λl=>[(d,Ob.dk kS W (oE l))]) (λk l=>l.length<=k) (λ_=>false) (.z_ (.items<|.g 0)<|u a) (al _) rfl (λk p l C x m n i=>?_) λr=>?_
 .refine⟨ab (sV _ _ _)<|aK i,_,.of<|.tuple<|.cons ai (.g 3)<|.cons ai (.g 4) .nil,.xn (.g 4) (.g 2) (.g 3) JT (by unfold oE;rw[af];exact ab i<|ab (aF (List.getElem?_eq_some_iff.mp n).1)<|ab v<|dN tt)<|.nil ?_⟩;rw[sU];exact m<|.next (f4 3) _ rfl rfl
 refine .F8 b (λp=>.tuple [.str p.1,.int p.2]) y_ (Nn a) (λ_=>UT W a b (ae<|.val<|.ref d) ah ah) (λl=>[(d,Ob.dk kS W (oE l))]) (λk l=>l.length<=10000+k) (λ_=>false) (.z_ (.items<|.g 1)<|u b) (ab r v) rfl (λk p c C x m n i=>⟨ab (Nm _ _)<|aK i,_,.of<|.tuple<|.cons ai (.g 3)<|.cons ai (.g 4) .nil,?_⟩) λ_=>.oe [_,_] _ [] [] ui rfl<|.ret (.g 2) rfl
 .have j:(oE c).length<=sizeLine:=by unfold oE;rw[af];exact ab i<|ab (bF (ab (aF (List.getElem?_eq_some_iff.mp n).1) y) _)<|dN tt
  refine .ite (pz.inDict (.g 3) (.g 2)<|.own (av _<|.head _) rfl) (λh=>?_) λh=>?_
  .rw[qG] at h;cases f:jo c p.1 with|none=>rw[f] at h;exact fT h|some o=>
    refine .ite (.val (.call (.builtin (WC W) WD WE) (.builtin _) (.cons (.g 4)<|.cons (.builtin (xq W) xr xt) .nil) cf.Dg<|au _) .bool) (λh=>by cases h) λ_=>?_;refine .Nl (.g 2) (.g 3) (by rw[qG,f];rfl) (.g 4) JT j<|.nil<|.nil ?_;haveI e:y_ c p=mu c p.1 (o+p.2):=by unfold y_;rw[f]
    rw[sU,<-e];exact .nil<|m<|.next (f4 3) _ rfl rfl
  .rw[qG] at h;cases f:jo c p.1 with|some o=>rw[f] at h;exact tF h|none=>
    refine .xn (.g 4) (.g 2) (.g 3) JT j<|.nil ?_;haveI e:y_ c p=mu c p.1 p.2:=by unfold y_;rw[f]
    rw[sU,<-e];exact .nil<|m<|.next (f4 3) _ rfl rfl
section
theorem Ev.No{g:aW}(B:Ev C y Ω f<|.val g)(c:Callee C.W.K g)(h:oD C y Ω u ts)(k:gW C.W g ts n Δ r)(E:n<=C.n)(D:∀p∈Δ,∃b,(p.1,b)∈Ω/\b.bare=p.2.bare)(w:(Δ.map (·.1)).Nodup) (F:autoParam (∀env,(bb pos<|aw u env).any (·.1)=false) eX) (z:autoParam (∀env,eval (.Call f u [] pos) env=(do bS pos (<-eval f env) [] (bb pos<|aw u env) (bK pos<|aX [] env))) eX):Ev C y Ω (.Call f u [] pos) r:=λA G s x I S=>by
 refine qw ?_<|z _;refine Run.use (B A G s x I S) λv q j d a m=>?_;cases m
 refine gG c d.k ?_<|F _;refine Run.use (h A j q pos x d<|S.mono a) λH t l e i o=>⟨e.k,?_⟩;exact Run.ext (a.trans i)<|k A l t H (x.le E) e o<|((S.mono a).mono i).Bg D w
theorem Ev.gl(e:autoParam (l7 C.W.K a_ x=ae (ae<|.ref a)) jX)(c:autoParam (C.env.kindOf x=ae .globalImplicit) U3)(b:autoParam ((x==bo "__debug__")=false) Rv):Ev C d Ω (.Name x pos)<|.val<|.ref a:=.glob e c b
theorem Ev.Ii{g:cj}(e:Ev C b Ω f<|.val<|.ref g)(h:oD C b Ω a ts)(k:gW C.W (.ref g) ts n [] r)(i:autoParam (n<=C.n) adc)(c:autoParam (wb C.W.K (.ref g)=aj) jX) (j:autoParam (∀env,(bb pos<|aw a env).any (·.1)=false) eX) (d:autoParam (∀env,eval (.Call f a [] pos) env=(do bS pos (<-eval f env) [] (bb pos<|aw a env) (bK pos<|aX [] env))) eX):Ev C b Ω (.Call f a [] pos) r:=.No e (.k c) h k i (λp m=>by cases m) (dD tt) j d
end
structure Stat where
 a:Int
 b:Int
 c:Int
 d:Int
 e:List<|bC×Int
noncomputable def Stat.t(W:Wd)(x:Stat):T:=.tuple [.int x.a,.int x.b,.int x.c,.int x.d,T.dk kS W<|oE x.e]
noncomputable def xu(x y:Stat):Stat:=⟨y.a+x.a,y.b+x.b,y.c+x.c,y.d+x.d,xp x.e y.e⟩
noncomputable abbrev adW:FuncData:=jG (oB PP 13) "add_func_stats" [] .none .none (mH (oB PP 13) 856) (.str "cpy313.pstats" 793) ah (.ref 441) .none
noncomputable abbrev RO:List Str:=["target","source","cc","nc","tt","ct","callers","t_cc","t_nc","t_tt","t_ct","t_callers"]
theorem RP(W):gH W 442 adW (dA<|oB PP 13) RO:=.plain
theorem z'(d:x.e.length<=10000)(f:y.e.length<=10000):gW W (.ref 442) [x.t W,y.t W] 2 []<|(xu x y).t W:=by
 refine gW.of (RP W) ["target","source"] ["cc","nc","tt","ct","callers","t_cc","t_nc","t_tt","t_ct","t_callers"] [("target",ae (x.t W)),("source",ae (y.t W)),("cc",ah),("nc",ah),("tt",ah),("ct",ah),("callers",ah),("t_cc",ah),("t_nc",ah),("t_tt",ah),("t_ct",ah),("t_callers",ah)] (λc h=>?_) rfl λL I _=>?_;.refine sD h λa b=>?_;kernel_rfl
 refine .ph .str<|.wk (.g 1) (.cons ai (.g 2)<|.cons ai (.g 3)<|.cons ai (.g 4)<|.cons ai (.g 5)<|.cons ai (.g 6) .nil)<|.wk (.g 0) (.cons ai (.g 7)<|.cons ai (.g 8)<|.cons ai (.g 9)<|.cons ai (.g 10)<|.cons ai (.g 11) .nil)<|.ret ?_ rfl;refine .tuple (.cons (.bin (.g 2) (.g 7) .cZ)<|.cons (.bin (.g 3) (.g 8) .cZ)<|.cons (.bin (.g 4) (.g 9) .cZ)<|.cons (.bin (.g 5) (.g 10) .cZ)<|.cons (.Ii .gl (.cons (.g 11)<|.cons (.g 6) .nil)<|JU d f) .nil)<|dN tt
section
theorem vP(i:IsTup s.heap t #[a,b,c,d,e])(hs:s.heap.IsSliceOf l .none (.int 3 u) .none) (h:Q (.ref s.heap.objs.size) {s with heap:=s.heap.push {cls:=.type "tuple",data:=.seq #[a,b,c]}}):aD (dL prog w) A (ig (.ref t)<|.ref l) Q E s:=by
 refine ix (id hs) λm f k g=>?_;haveI j:s.TypeIs (.ref l) "slice":=⟨m,f,k⟩;skip;refine aQ<|aa<|VK i.typeIs (dD tt) ?_;refine aa<|eE i.typeIs j6 (ec j6 i.typeIs YO ?_<|YQ _ _);show aD _ _ (Yi (.ref t)>>=_) _ _ s;refine aa<|tupleItemsOf_ i ?_;refine aa<|l9 j ?_;skip;refine aa ?_;skip;refine aa<|aa<|cR f g (x:=.none) rfl<|aa<|cR f g (x:=.int 3 u) rfl<|aa<|cR f g (x:=.none) rfl<|ag ?_;refine aa<|aeW ?_;show aD _ _ (if(1==0)=aj then _ else _) _ _ s;skip;refine aa<|aeW<|aa<|slicePart_int<|aa<|ag ?_;refine ag ?_;skip;skip;show aD _ _ (do let r<-Yj #[a,b,c];_) _ _ s;first|exact aa<|dH<|ag ⟨_,rfl,ag h⟩|exact aa<|dH<|aa<|ag<|ag ⟨_,rfl,ag h⟩
end
section
theorem Ŝ(h:aG G o [a,b,c,d,e]):∃f g i m n,o=[f,g,i,m,n]/\Tr G f a/\Tr G g b/\Tr G i c:=by cases h using aG.ca with|cons j r=>cases r using aG.ca with|cons k r=>cases r using aG.ca with|cons l r=>cases r using aG.ca with|cons p r=>cases r using aG.ca with|cons q r=>cases r;exact VY _ _ _ _ _ rfl j k l
theorem Ev.RQ(h:Ev C W Ω u<|.tuple [a,b,c,d,e])(hu:Ev C W Ω hi<|.int 3):Ev C W Ω (.Subscript u (.Slice ce (ae hi) ce p) pos)<|.tuple [a,b,c]:=λA G s Q I S=>by
 refine mQ<|Run.use (h A G s Q I S) λv R N y k B=>?_;refine mY .none (.int hu) .none Q y (S.mono k) λf j i m sl vl vu vt L p1 p2 p3=>?_;cases p1;cases p3
 refine gc ((B.mono m.sub).jY i) λl vs q0 P tv=>?_;subst q0;cases p2
 obtain⟨r,w,x,D,E,M,F,H,z⟩:∃r w x D E,vs=#[r,w,x,D,E]/\Tr f r a/\Tr f w b/\Tr f x c:=by refine Y' (Ŝ tv) λr w x D E h F H z=>VY r w x D E (ii.mp h) F H z
 .subst M;haveI ht:IsTup j.heap l #[r,w,x,D,E]:=by refine cc P λo q1=>bu q1 λho q2=>bu q2 λz q3=>cc q3 λn hd=>⟨o,ho,z,n,hd⟩
  refine fX P.typeIs j6.lookup (vP ht L ?_)<|.inr rfl;obtain⟨G',a',b',c'⟩:=iQ (t:=.tuple [a,b,c]) (s':={j with heap:=j.heap.push {cls:=.type "tuple",data:=.seq #[r,w,x]}}) i rfl rfl rfl rfl (Tr.seq (Gh.fD _ _ _) rfl (λq=>absurd q<|dD tt) rfl<|(aG.cons F<|.cons H<|.cons z .nil).mono<|Gh.dT<|i.cL<|al _);exact⟨G',a',(k.trans m).trans b',c'⟩
inductive Nb(C:Cx):cG->List bC->List T->cG->Prop|nil:Nb C Γ [] [] Γ|cons:x∈C.dY->oC Γ x t Γ'->Nb C Γ' xs ts CY->Nb C Γ (x::xs) (t::ts) CY
theorem Nb.run(b:Nb C i xs ts Γ'):∀{s:bk} {a:List aW} {Q:Unit->bk->Prop},St C i Ω G s->Inv W G s->aG G a ts->(∀s',St C Γ' Ω G s'->Inv W G s'->Q () s')->aD W.M A (HD (xs.map λn=>bindName C.env n) a) Q E s:=by induction b with|nil=>intro s a Q S j h q;cases h;exact HE<|q s S j|cons f e b g=>intro s a Q S j h q;cases h using aG.ca with|cons h r=>exact HF<|tE<|S.store j f e h λs' c d _=>g c d r q
theorem Dn{names:List bC}{Q:bk->Prop}(u:Ok A C.n)(S:St C D Ω G s)(I:Inv C.W G s)(h:Tr G v<|.tuple ts)(p:names.length=ts.length)(b:Nb C D names.reverse ts.reverse Γ')(q:∀s',St C Γ' Ω G s'->Inv C.W G s'->Q s'):aD C.W.M A (unpackItems v names.length ah) (λc d=>aD C.W.M A (HD (names.reverse.map λn=>bindName C.env n) c.reverse) (λ_ s'=>Q s') (λ_ _=>False) d) (λ_ _=>False) s:=by
 refine gc (h.jY I) λa B w t g=>?_;subst w;haveI e:=g.length;skip;haveI f:IsTup s.heap a B:=by refine cc t λo x=>bu x λr y=>bu y λk z=>cc z λn l=>⟨o,r,k,n,l⟩
 rw[p,<-e];refine unpackItems_tuple u.hd f λj m=>?_;have E:Ext G s G {s with heap:=j}:=⟨λa o e=>m a o (bJ<|db e) e,λ_ _ e=>e,λ_ _=>.inl⟩;exact b.run (S.mono E) ⟨λa o e=>E.heap a o<|I.hM a o e,I.hb,I.bare,I.os⟩ g.reverse λs' i=>q s' i
theorem bZ.pT(names)(h:Ev C l Ω e<|.tuple ts)(b:Nb C l names.reverse ts.reverse Γ')(k:bZ C Γ' Ω rest P)(t:autoParam (names.length=ts.length) iF)(q:autoParam (vB [.Tuple g n p] e pos.line C.env=bB false) iF)(r:autoParam (m4 [.Tuple g n p] e C.env=bB (ae names)) jX):bZ C l Ω (.Assign [.Tuple g n p] e pos::rest) P:=.step λA G s i I S=>by refine QG (Run.use (h A G s i I S) λv j c d a f=>?_) q r;refine Dn i (S.mono a) d f t b λu o m=>⟨rfl,Γ',Ω,c,m,o,a.sub,k⟩
theorem bZ.JV(names)(h:jb C l Ω e Q)(k:∀t a,Q t a->∃ts Γ',t=.tuple ts/\names.length=ts.length/\Nb C l names.reverse ts.reverse Γ'/\bZ C Γ' a rest P)(r:autoParam (vB [.Tuple g n p] e pos.line C.env=bB false) iF)(u:autoParam (m4 [.Tuple g n p] e C.env=bB (ae names)) jX):bZ C l Ω (.Assign [.Tuple g n p] e pos::rest) P:=.step λA G s i I S=>by refine QG (aC (h A G s i I S) (λv j E=>E.casesOn λc t a q d f B y=>?_) λ_ _ z=>z) r u;refine mG (k t a q) λts Γ' D x b w=>?_;subst D;refine Dn i f d y x b λF o m=>⟨rfl,Γ',a,c,m,o,B,w⟩
inductive adX(C Γ G)(P:List T->bM->Prop)(vs s'):Prop|mk (G') (ts) (bT) (p:P ts bT) (i:Inv C.W G' s') (st:St C Γ bT G' s') (b:Sub G G') (tr:aG G' vs ts)
noncomputable def Bj(C:Cx)(b:cG)(Ω:bM)(c:List gw)(P:List T->bM->Prop):Prop:=∀A G s a,Ok A C.n->Inv C.W G s->St C b Ω G s->aD C.W.M A (yx<|bb a<|aw c C.env) (adX C b G P) (λ_ _=>False) s
theorem Bj.fin(h:Q [] Ω):Bj C c Ω [] Q:=λA G s a b I S=>cE ⟨G,[],Ω,h,I,S,.refl G,.nil⟩
theorem Bj.cons(h:jb C D Ω e P)(k:∀t a,P t a->Bj C D a u (λts b=>Q (t::ts) b))(E:autoParam (∀env,aw (e::u) env=(false,eval e env)::aw u env) eX):Bj C D Ω (e::u) Q:=λA G s w y I S=>by refine nV ?_<|E _;refine aC (h A G s y I S) (λv r x=>x.casesOn λf t a p i l d n=>?_) λ_ _ z=>z;exact aC (k t a p A f r w y i l) (λF B x=>x.casesOn λg ts b q j m c o=>⟨g,t::ts,b,q,j,m,d.trans c,.cons (n.mono c) o⟩) λ_ _ z=>z
theorem jb.tuple(h:Bj C r Ω m Q)(n:∀ts a,Q ts a->ts.length<=aA):jb C r Ω (.Tuple m k pos) λt a=>∃ts,t=.tuple ts/\Q ts a:=λA G s o I S=>by refine AM<|aC (h A G s pos o I S) (λl j p=>p.casesOn λi ts a q b g e d=>⟨d.length▸n _ _ q,?_⟩) λ_ _ z=>z;haveI f:=b.push {cls:=.type "tuple",data:=.seq l.toArray} rfl;haveI c:=Ext.push b {cls:=.type "tuple",data:=.seq l.toArray};exact⟨_,.tuple ts,a,⟨ts,rfl,q⟩,f,g.mono c,e.trans c.sub,Tr.wW rfl rfl 0 rfl (b.cL<|al _) d⟩
end
theorem rD(x m names)(n:Nat)(a:List<|bC×cj)(e:m<=n)(h:(∃c,a.lookup x=ae c/\m<=c)\/(names.any λp=>p.1==x&&p.2==.cell)=aj):∃c,(qx n names a).lookup x=ae c/\m<=c:=by
 induction names generalizing n a with|nil=>exact h.elim id fT|cons y r f=>
  show∃c,(if(y.2==.cell)=aj then _ else _:List<|bC×cj).lookup x=ae c/\m<=c;have h:_\/((y.1==x&&y.2==.cell)||_)=true:=h;by_cases b:(y.2==wK)=aj
  .rw[if_pos b];rw[b] at h;refine f (n+1) _ (LV e) ?_;by_cases d:(x==y.1)=aj;.exact .inl ⟨n,by rw[dC,d],e⟩
   .rw[Bool.not_eq_true] at d;refine h.imp (λz=>z.imp λc z=>⟨by rw[dC,d];exact z.1,z.2⟩) λh=>?_;rw[ahS,d] at h;exact h
  .rw[if_neg b];rw[Bool.eq_false_iff.mpr b,k8] at h;exact f n a e h
noncomputable def Ij(a:Ft)(x:bC):Bool:=a.names.any λp=>p.1==x&&p.2==.cell
theorem gH.cells{b:List mA}(i:autoParam (W.K.lookup f=ae ⟨.type "function",ah,.func a,#[]⟩) jX)(l:autoParam (a.scope.isCoroutine=false) jX)(k:autoParam (a.scope.isGenerator=false) jX)(kind:autoParam (a.scope.kind=.function) jX) (p:autoParam (a.body=.stmts b) jX)(d:autoParam (codeIn W.K a=aj) jX)(g:autoParam (a.globals=a_) jX)(j:autoParam (a.builtins=iy) jX)(st:autoParam (∀L,(dY.all λx=>(pe a f L).kindOf x==ae .local||((pe a f L).kindOf x==ae .cell&&Ij a.scope x))=aj) Â):gH W f a b dY:=⟨ Re _ _ _ i,l,k,kind,p,Ic d,g,j,λL x m=>by
  haveI:=List.all_eq_true.mp (st L) x m;simp only [fO,bg,beq_iff_eq] at this;rcases this with h|⟨n,o⟩;.exact .inl h
  .refine aU (rD x (L+1) a.scope.names (L+1) a.closure (al _)<|.inr o) λc e q=>.inr ⟨n,c,e,q⟩⟩
@[irreducible] noncomputable def nM(a:Ft)(env:Env):List<|bC×Addr:=(pureOf<|Fu a env).getD []
noncomputable abbrev Vf(b:cG)(own:List bC)(a:List Nat):cG:=(own.map λx=>(x,ah))++a.filterMap (b[·]?)
noncomputable abbrev Dp(b:cG)(a:List Nat):List Str:=(a.filterMap (b[·]?)).map (·.1)
noncomputable abbrev wo(b:cG)(a:List Nat):List Str:=(a.filterMap (b[·]?)).filterMap λp=>if p.2.isSome then ae p.1 else ah
theorem Np(l)(h:∀p∈l,p∈d)(k:∀x∈l.filterMap (λp=>if p.2.isSome then ae p.1 else ah),(C.env.kindOf x==ae .local)=false/\(∀L I,(dK C a cl dY L I).env.kindOf x=ae .cell)/\∀L I,(dK C a cl dY L I).env.cells.lookup x=C.env.cells.lookup x):w5 C d a cl dY l:=by induction l with|nil=>exact .nil|cons p l c=>rcases p with⟨x,t⟩;cases t with|none=>exact .own<|c (λp m=>h p<|.tail _ m) k|some t=>
   haveI b:=k x<|.head _;exact .cap (h _<|.head _) b.1 b.2.1 b.2.2<|c (λp m=>h p<|.tail _ m) λy m=>k y<|.tail _ m
theorem Dq(k:w5 C b a cl dY l)(own:List bC):w5 C b a cl dY<|(own.map λx=>(x,ah))++l:=by induction own with|nil=>exact k|cons x own ih=>exact .own ih
noncomputable def Vg(C:Cx)(c:cG)(a:Ft)(own:List bC)(b:List Nat)(L:Nat)(I:zT):Bool:=(pureOf<|Fu a C.env).isSome&&(decide (a.kind=.function)&&((a.names.all λx=>!(x.2==.local)||a.names.lookup x.1==ae .local)&&(decide (((nM a C.env).map (·.1)).Nodup)&&(decide ((own++Dp c b).Nodup)&&(((wo c b).all λx=>!(C.env.kindOf x==ae .local))&&((own.all λx=>(dK C a (nM a C.env) own L I).env.kindOf x==ae .local||((dK C a (nM a C.env) own L I).env.kindOf x==ae .cell&&Ij a x))&&((wo c b).all λx=>(dK C a (nM a C.env) own L I).env.kindOf x==ae .cell)))))))
noncomputable def adY(C:Cx)(c:cG)(a:Ft)(b:List Nat):(Nat->zT->List (Option cj))×List (Option cj):=(λ_ _=>(wo c b).map λx=>C.env.cells.lookup x,(nM a C.env).map λp=>ae p.2)
noncomputable def adZ(C:Cx)(c:cG)(a:Ft)(b:List Nat)(own:List bC):(Nat->zT->List (Option cj))×List (Option cj):=(λL I=>(wo c b).map λx=>(dK C a (nM a C.env) own L I).env.cells.lookup x,(nM a C.env).map λp=>C.env.cells.lookup p.1)
abbrev ad0(C:Cx)(c:cG)(a:Ft)(own:List bC)(b:List Nat):Prop:=(λ_ _=>aj)=Vg C c a own b
abbrev ad1(C:Cx)(c:cG)(a:Ft)(b:List Nat)(own:List bC):Prop:=adY C c a b=adZ C c a b own
theorem jz.of(own f)(b:autoParam (ad0 C j d own f) jX)(c:autoParam (ad1 C j d f own) jX):jz C j d (nM d C.env) own<|Vf j own f:=by
 have h:=λL I=>(congrFun (congrFun b L) I).symm;unfold Vg at h;simp only [bg] at h;have g:=h 0 C.I;have l:=congrArg yP c;exact{
     clos:=by refine cc (Option.isSome_iff_exists.mp g.1) λa k=>?_;unfold nM;rw[k,of_pureOf k];rfl
     kind:=of_decide_eq_true g.2.1
     names:=λx m h=>by have:=List.all_eq_true.mp g.2.2.1 x m;rw[h] at this;simpa using this
     stores:=λL I x m=>by
      have:=List.all_eq_true.mp (h L I).2.2.2.2.2.2.1 x m;simp only [fO,bg,beq_iff_eq] at this;rcases this with h|⟨n,o⟩;.exact .inl h
      .refine aU (rD x (L+1) d.names (L+1) (nM d C.env) (al _)<|.inr o) λc e q=>.inr ⟨n,c,e,q⟩
     RC:=λp m=>(List.map_inj_left.mp (congrArg tQ c) p m).symm
     Î:=of_decide_eq_true g.2.2.2.1
     nodup:=by
      have e:(Vf j own f).map (·.1)=own++Dp j f:=by
       rw[aJ,aE];congr 1;exact VH _
      rw[e];exact of_decide_eq_true g.2.2.2.2.1
     caps:=by
      refine Dq (Np _ (λp m=>?_) λx m=>⟨?_,λL I=>?_,λL I=>?_⟩) own;.refine aU (List.mem_filterMap.mp m) λi _=>aZ
      .have:=List.all_eq_true.mp g.2.2.2.2.2.1 x m;simpa using this
      .exact beq_iff_eq.mp<|List.all_eq_true.mp (h L I).2.2.2.2.2.2.2 x m
      .exact(List.map_inj_left.mp (congrFun (congrFun l L) I) x m).symm}
inductive Wk:cG->cG->Prop|refl:Wk Γ Γ|none:Wk Γ Γ'->Wk ((x,ah)::Γ) ((x,o)::Γ')|same:Wk Γ Γ'->Wk (p::Γ) (p::Γ')
theorem Wk.back(h:Wk b Γ'):∀x t,(x,ae t)∈b->(x,ae t)∈Γ':=by
 induction h with
 |refl=>exact λ_ _ h=>h|none _ a=>
  intro x t m;rcases bf.mp m with e|m;.cases e
  .exact .tail _<|a x t m
 |same _ a=>
  intro x t m;refine dy (bf.mp m) (λe=>?_) λm=>?_;.rw[e];exact .head _
  .exact .tail _<|a x t m
theorem Wk.o1:Wk ((x,ce)::a)<|(x,o)::a:=.none .refl
theorem Wk.o2:Wk ((x,ce)::(y,ce)::a)<|(x,o)::(y,u)::a:=.none<|.none .refl
noncomputable def sW(C:Cx)(f:cG)(Ω:bM)(a:gw)(d:List gw)(c:gw)(t:T)(b:Bool)(r:T):Prop:=∃e,TurnOk C f Ω a d c t b r e
section
theorem sW.mk(d:CD C c a t Γ')(i:Wk c Γ')(g:∀bT,(∀p∈Ω,p∈bT)->A6 C Γ' bT f b)(h:∀bT,(∀p∈Ω,p∈bT)->b=aj->Ev C Γ' bT e r):sW C c Ω a f e t b r:=⟨Γ',d,i.back,g,h⟩
theorem sW.pU(c:CD C b a t Γ')(f:Wk b Γ')(e:∀bT,(∀p∈Ω,p∈bT)->Ev C Γ' bT d r):sW C b Ω a [] d t aj r:=⟨Γ',c,f.back,λ_ _=>.nil,λbT h _=>e bT h⟩
open Classical in theorem Dr{α:Type}{xs:List α}{g:α->T}{p:α->Bool}{f:α->T}(h:∀x∈xs,sW C e Ω a d c (g x) (p x) (f x)):∃Γ':α->cG,∀x∈xs,TurnOk C e Ω a d c (g x) (p x) (f x) (Γ' x):=⟨λx=>if b:x∈xs then(h x b).choose else[],λx b=>by haveI:=(h x b).choose_spec;simp only [b,dif_pos];exact this⟩
theorem Ev.Yx{α:Type}(xs:List α)(g p f)(k:jz C i a cl own d)(c:fR C i Ω i1 e<|xs.map g) (h:∀L I,∀x∈xs,sW (dK C a cl own L I) d (vN Ω) e j b (g x) (p x) (f x))(hsz:xs.length<=aA)(l:autoParam (∀env x,bm i1 env x=bB x) mI):Ev C i Ω (.ListComp b [⟨e,i1,j,0⟩] a pos)<|.list<|(xs.filter p).map f:=by rw[<-lQ];exact Ev.adO k c (λL I=>(Dr<|h L I).casesOn λ_=>ub) (by rw[lQ,af];exact ab (dS _ _) hsz) l
theorem filter_all{α:Type}(xs:List α):xs.filter (λ_=>aj)=xs:=List.filter_eq_self.mpr λ_ _=>rfl
theorem Ev.sX{α:Type}(xs:List α)(g f)(k:jz C i a cl own d)(c:fR C i Ω i1 e<|xs.map g) (h:∀L I,∀x∈xs,sW (dK C a cl own L I) d (vN Ω) e [] b (g x) aj (f x))(hsz:xs.length<=aA)(j:autoParam (∀env x,bm i1 env x=bB x) mI):Ev C i Ω (.ListComp b [⟨e,i1,[],0⟩] a pos)<|.list<|xs.map f:=by haveI:=Ev.Yx (pos:=pos) xs g (λ_=>aj) f k c h hsz j;rwa[filter_all] at this
theorem bZ.uj{α:Type}(xs:List α)(g p f)(k:jz C i a cl own j)(d:fR C i Ω i1 e<|xs.map g) (h:∀L I,∀x∈xs,sW (dK C a cl own L I) j (vN Ω) e l b (g x) (p x) (f x))(hsz:xs.length<=aA) (o:x∈C.dY)(m:oC i x (.list<|(xs.filter p).map f) Γ')(r:bZ C Γ' Ω rest P)(hs:autoParam (fi (.ListComp b [⟨e,i1,l,0⟩] a pos) (ae<|.Name x q) c.line C.env=bB aj) jX) (n:autoParam (∀env x,bm i1 env x=bB x) mI):bZ C i Ω (.Assign [.Name x q] (.ListComp b [⟨e,i1,l,0⟩] a pos) c::rest) P:=by rw[<-lQ] at m;exact bZ.C' k d (λL I=>(Dr<|h L I).casesOn λ_=>ub) (by rw[lQ,af];exact ab (dS _ _) hsz) o m r hs n
theorem bZ.qH{α:Type}(xs:List α)(g f)(k:jz C i a cl own j)(d:fR C i Ω i1 e<|xs.map g) (h:∀L I,∀x∈xs,sW (dK C a cl own L I) j (vN Ω) e [] b (g x) aj (f x))(hsz:xs.length<=aA) (n:x∈C.dY)(m:oC i x (.list<|xs.map f) Γ')(o:bZ C Γ' Ω rest P)(hs:autoParam (fi (.ListComp b [⟨e,i1,[],0⟩] a pos) (ae<|.Name x q) c.line C.env=bB aj) jX) (l:autoParam (∀env x,bm i1 env x=bB x) mI):bZ C i Ω (.Assign [.Name x q] (.ListComp b [⟨e,i1,[],0⟩] a pos) c::rest) P:=by refine bZ.uj xs g (λ_=>aj) f k d h hsz n ?_ o hs l;rw[filter_all];exact m
noncomputable def Nq{e:Type}(C:Cx)(d:cG)(Ω:bM)(o:gw)(k:List gw)(i m:gw)(l:List gw)(g:gw)(t:T)(b:Bool)(j:List e)(h:e->T)(n:e->Bool)(f:e->T):Prop:=∃a,CD C d o t a/\Wk d a/\(∀c,(∀p∈Ω,p∈c)->A6 C a c k b)/\(∀c,(∀p∈Ω,p∈c)->b=aj->fR C a c m i (j.map h))/\(b=aj->∀y∈j,sW C a Ω i l g (h y) (n y) (f y))
open Classical in theorem JX{α:Type}{xs:List α}{g:α->T}{p:α->Bool}{o:α->List k}{l:α->k->T}{n:α->k->Bool}{f:α->k->T}{i1:gw}(h:∀x∈xs,Nq C j Ω A r B z s d (g x) (p x) (o x) (l x) (n x) (f x)):∃(b:α->cG) (c:α->k->cG),∀x∈xs,Ib C j Ω A r B z s d (g x) (p x) (o x) (l x) (n x) (f x) (b x) (c x):=by
 have m:∀x∈xs,∃q:cG×(k->cG),Ib C j Ω A r B z s d (g x) (p x) (o x) (l x) (n x) (f x) q.1 q.2:=λx a=>by
  refine VT (h x a) λe t u v w D=>?_;by_cases y:p x=aj;.refine cc (Dr<|D y) λi E=>⟨(e,i),t,u.back,v,w,λ_=>E⟩
  .exact⟨(e,λ_=>[]),t,u.back,v,w,λq=>absurd q y⟩
 exact⟨λx=>if a:x∈xs then(m x a).choose.1 else[],λx=>if a:x∈xs then(m x a).choose.2 else λ_=>[],λx a=>by have:=(m x a).choose_spec;simp only [a,dif_pos];exact this⟩
theorem Ev.ad2{α:Type}(xs:List α)(g p)(i:α->List l)(s:α->l->T)(e:α->l->Bool)(f:α->l->T)(k:jz C o a cl own j)(d:fR C o Ω i1 n<|xs.map g) (h:∀L I,∀x∈xs,Nq (dK C a cl own L I) j (vN Ω) n q v m r b (g x) (p x) (i x) (s x) (e x) (f x))(hsz:((xs.filter p).flatMap λx=>((i x).filter<|e x).map<|f x).length<=aA) (u:autoParam (∀env x,bm i1 env x=bB x) mI)(c:autoParam (∀env x,bm m env x=bB x) mI):Ev C o Ω (.ListComp b [⟨n,i1,q,0⟩,⟨v,m,r,0⟩] a pos)<|.list<|(xs.filter p).flatMap λx=>((i x).filter<|e x).map<|f x:=by rw[<-oQ];exact Ev.adP k d (λL I=>sC (JX (i1:=i1)<|h L I) λ_ _ t=>w9 t c) (by rw[oQ];exact hsz) u
end
section
theorem oD.e1(h:Ev C b Ω e t)(a:autoParam (∀env,aw [e] env=(false,eval e env)::aw [] env) eX):oD C b Ω [e] [t]:=.cons h .nil a
theorem Ev.len(h:Ev C i Ω e<|.list ts)(d:ts.length<=aA)(c:autoParam (C.env.kindOf "len"=ae .globalImplicit) U3) (hs:autoParam (∀env,aw [e] env=(false,eval e env)::aw [] env) eX) (f:autoParam (∀env,(bb pos<|aw [e] env).any (·.1)=false) eX) (b:autoParam (∀env,eval (.Call (.Name "len" a) [e] [] pos) env=(do bS pos (<-eval (.Name "len" a) env) [] (bb pos<|aw [e] env) (bK pos<|aX [] env))) eX):Ev C i Ω (.Call (.Name "len" a) [e] [] pos)<|.int ts.length:=.call (.builtin (oR C.W) oS oT c) (.builtin _) (.cons h .nil hs) (cf.RA d) (au _) f b
theorem Ev.Ds{α:Type}{f:α->T}{xs:List α}(h:Ev C j Ω e<|.list<|xs.map f)(d:xs.length<=aA)(c:autoParam (C.env.kindOf "len"=ae .globalImplicit) U3) (hs:autoParam (∀env,aw [e] env=(false,eval e env)::aw [] env) eX) (i:autoParam (∀env,(bb pos<|aw [e] env).any (·.1)=false) eX) (b:autoParam (∀env,eval (.Call (.Name "len" a) [e] [] pos) env=(do bS pos (<-eval (.Name "len" a) env) [] (bb pos<|aw [e] env) (bK pos<|aX [] env))) eX):Ev C j Ω (.Call (.Name "len" a) [e] [] pos)<|.int xs.length:=.cast (.len h (ab (aH<|af f) d) c hs i b)<|congrArg (λn:Nat=>T.int n)<|af f
theorem fR.nN{n:Nat}(h:Ev C g Ω e<|.int n)(d:n<=1000000)(c:autoParam (C.env.kindOf "range"=ae .globalImplicit) U3) (a:autoParam (∀env,aw [e] env=(false,eval e env)::aw [] env) eX) (f:autoParam (∀env,(bb pos<|aw [e] env).any (·.1)=false) eX) (b:autoParam (∀env,eval (.Call (.Name "range" p) [e] [] pos) env=(do bS pos (<-eval (.Name "range" p) env) [] (bb pos<|aw [e] env) (bK pos<|aX [] env))) eX):fR C g Ω (.Call (.Name "range" p) [e] [] pos) (.Name x q)<|(aL n).map fq:=by rw[<-RG];exact fR.M6 (.builtin (kK C.W) kL kM c) (.cons h .nil a) (Jw (dD tt) (dD tt) Zm<|bn (bj.mpr d)<|by decide) (by rw[rangeSize_one];exact agm) f b
end
theorem pV{α:Type}{f:α->T}{l:List α}{d:α}(h:k<l.length):(l.map f)[(k:Int).toNat]?=ae (f<|l.getD k d):=by rw[cC,aq,ak,ay h];rfl
theorem Yy:1<=sizeLine:=dN tt
theorem size_le(h:n<=100):n<=sizeLine:=ab h<|dN tt
theorem ad3{a:Nat}(h:b-(c+1)<a/\a<=b):(a-((b-(c+1):Nat))-1)=((a-(b-(c+1))-1:Nat):Int):=((hV<|dr h.1).trans<|congrArg (·-1)<|hV<|aF h.1).symm
theorem Nr(l:List Nat)(h):T.list (l.map λb=>fq<|h b)=T.list (((l.map h).map λ(x:Nat)=>(x:Int)).map .int):=by rw[aE,aE];rfl
section
theorem bZ.Gl{α:Type}(xs:List α)(g p)(m:α->List r)(w:α->r->T)(j:α->r->Bool)(f:α->r->T)(k:jz C n a cl own o)(e:fR C n Ω i1 l<|xs.map g) (h:∀L I,∀x∈xs,Nq (dK C a cl own L I) o (vN Ω) l s v i t b (g x) (p x) (m x) (w x) (j x) (f x))(hsz:((xs.filter p).flatMap λx=>((m x).filter<|j x).map<|f x).length<=aA) (A:x∈C.dY)(u:oC n x (.list<|(xs.filter p).flatMap λx=>((m x).filter<|j x).map<|f x) Γ')(B:bZ C Γ' Ω rest P)(hs:autoParam (fi (.ListComp b [⟨l,i1,s,0⟩,⟨v,i,t,0⟩] a pos) (ae<|.Name x q) c.line C.env=bB aj) jX) (z:autoParam (∀env x,bm i1 env x=bB x) mI)(d:autoParam (∀env x,bm i env x=bB x) mI):bZ C n Ω (.Assign [.Name x q] (.ListComp b [⟨l,i1,s,0⟩,⟨v,i,t,0⟩] a pos) c::rest) P:=by rw[<-oQ] at hsz u;exact bZ.Db k e (λL I=>sC (JX (i1:=i1)<|h L I) λ_ _ y=>w9 y d) hsz A u B hs z
end
theorem RR(W):gH W 466 (Uo 19 "_law_rows" 465) (dA<|oB PP 19) ["words","way"]:=.cells
theorem Aa(h:d.length<=100)(e:∀w∈d,w.length<=1000)(c:way.length<=100)(f:1<=way.length):cf (.ref 466) [.list<|d.map .str,.list<|way.map .int] 1<|.list<|(pf d way).map .str:=by
 refine cf.of RR ["words","way"] [] _ (λj l=>sD l λ_ _=>by kernel_rfl) rfl λW L I _=>bZ.ret (.cast (.sX (aL<|way.length-1) fq (λk=>.str<|Wu d way k) (.of ["k"] [0,1]) (.nN (.cast (.bin (.Ds .n1<|size_le c) .int .fx)<|by rw[hV f];rfl)<|ab (cq ..)<|ab c<|by decide) (λp o i b=>?_)<|by rw[aO];unfold aA;exact(ab (cq ..)<|ab c<|by decide))<|by unfold pf;rw[aE];rfl) rfl;haveI b:=aR.mp b;haveI a:=n8 (xs:=lK d (ae<|way.getD i 0) (ae<|way.getD (i+1) 0) ah) (sep:=" ") (ab (kJ ..) h) (λx m=>e x<|sO m) (by decide)<|by decide
 exact .pU (.name ai .p0) .o1 λn _=>by(with_reducible refine .nK .str (.str _) cQ fN gF ?_ (cf.join a.1 a.2) (au _) (N:=?_) (H:=?_) (p:=?_) (i:=?_));exact(.e1<|Ev.cast (Ev.slice (u:=ae<|way.getD (i+1) 0) .n1 (.int<|.sub (.g 2) .n0<|.list py (fh (cT.mpr<|aB b<|ab (cq ..) c)<|by decide)<|pV<|af9 b) (.int<|.sub (.g 2) (.bin .n0 .int .cZ)<|.list agc (agd c b)<|pV<|Nat.succ_lt_of_lt_pred b) .none (by decide)<|by rw[af];exact size_le h)<|by rw[nB]);exact λ_=>ľ;exact λ_=>rfl;exact λ_=>tt;exact tt
theorem RS(W):gH W 461 adT (dA<|oB PP 18) RE:=.cells
theorem JY(h:c.length<=100)(r:(fL c w c.length).getD 0 0<=1000)(s:∀i,i<(fL c w c.length).getD 0 0->∀way∈lr c w i,way≠[]/\fP way<c.length/\way.length<=1000)(z:∀i,(lr c w i).length<=100000):cf (.ref 461) [.list<|c.map .int,.int w] 1<|.list<|(cr c w).map eR:=by
 refine cf.of RS ["weights","width"] ["size","start","reach","need","ways","turn"] (UH c w ah ah ah ah ah ah) (λa0 hl=>sD hl λ_ _=>by kernel_rfl) rfl λW L I _=>.assign (.Ds .n0<|size_le h) ai (.g 2)<|.assign (.sX (aL c.length) fq (λa=>eR<|ge c w a) (.of ["start"] [2,0,1]) (.nN (.g 2)<|ab h<|by decide) (λR Q a D=>.pU (.name ai .p0) .o1 λm _=>?_)<|by rw[aO];exact size_le h) ai (.g 4) ?_
 .haveI D:=aR.mp D;refine .Yx ((aL<|c.length-a).map (a+1+·)) fq (fits c w a) fq (.of ["stop"] [0,2,3]) ?_ (λa2 a1 b d=>?_)<|by rw[af,aO];unfold aA;exact(ab (cq ..)<|ab h<|by decide)
  .rw[<-RH];exact fR.M7 (.builtin (kK W) kL kM) (.cons (.bin .n0 .int .cZ)<|.e1<|.bin .n1 .int .cZ) (Jw Zn (bn (bj.mpr<|ab D h)<|by decide) Zn<|ago h)<|by rw[rangeSize_one];exact agp
  .refine g7 d λk u=>?_;haveI u:=aR.mp u;haveI e:fits c w a (a+1+k)=(((a+1+k:Nat):Int)==(a:Int)+1||(decide ((lK c (ae (a:Int)) (ae ((a+1+k:Nat):Int)) ah).sum<=w)||false)):=by
    rw[hH];unfold fits;congr 1;rw[gj,beq_iff_eq,beq_iff_eq];exact agq
   rw[e];exact .mk (.name ai .p0) .o1 (λm _=>.one<|.boolOp<|.or (.cmp .n0 (.bin .n1 .int .cZ)<|.eq (n:=0)<|.int _ _) λ_=>.or (.cmp (.call (.builtin (xd W) xe xf) (.builtin _) (.e1<|Ev.cast (Ev.slice (.g 2) (.int .n1) (.int .n0) .none (by decide)<|by rw[af];exact size_le h)<|by rw[nB]) cf.RB<|au _) (.g 3) .U5) λ_=>.CW) λm _ _=>.n0
 refine .assign (.list (.e1 .int) Yy) ai (.g 5)<|bZ.Ws (ts:=iI ((c.length:Int)-1) (-1) c.length) (λi N P=>P=[]/\∃C,N=UH c w (ae<|.int c.length) C (ae<|.list<|(aL c.length).map λa=>eR<|ge c w a) (ae<|eR<|fL c w i) ah ah) ?_ ⟨rfl,_,rfl⟩ ?_ ?_
 .refine fR.wZ (.builtin (kK W) kL kM) (.cons (.bin (.g 2) .int .fx)<|.cons (.neg .int)<|.e1<|.neg .int) (by decide) (Bb<|by decide) ?_<|rangeSize_down _;unfold eo;rw[show bQ ((c.length:Int)-1) (-1) (-1)=c.length from rangeSize_down _];simp only [iv,bg,decide_eq_true_eq,fO];exact⟨⟨⟨⟨⟨ags,agt h⟩,by decide⟩,by decide⟩,V8,agu h⟩,.inr<|by decide⟩
 ·(intro i;intro t;intro j;intro l;intro Δ;intro Qe;intro H;intro A;intro q0;refine bu q0 λq1 q2=>?_;clear q0;subst q1;refine cc q2 λC q3=>?_;clear q2;subst q3);have o:i<c.length:=eB (List.getElem?_eq_some_iff.mp A).1<|j8 _ _ _;haveI et:t=fq (c.length-(i+1)):=by
   skip;rw[aq,dR o] at A;exact(bq A).symm.trans<|congrArg T.int<|agv o
  subst et;refine⟨_,.name ai<|.g 3,?_⟩;haveI G:∀b∈ge c w (c.length-(i+1)),c.length-(i+1)<b/\b<=c.length:=λb d=>g7 ((dM.mp d).1) λk u=>agw<|aR.mp u;haveI F:ge c w (c.length-(i+1))≠[]:=JO<|Rk o;refine .assign (t:=eR<|fL c w<|i+1) (.cast (.bin (.list (.e1<|.bin .int (.call (.builtin (A_ W) Ba F_) (.builtin _) (.e1<|.cast (.sX (ge c w<|c.length-(i+1)) fq (λb=>fq<|(fL c w i).getD (b-(c.length-(i+1))-1) 0) (.of ["stop"] [5,3]) (.list (.sub (.g 4) (.g 3)<|.list agx (agy h)<|by rw[cC,aq,dR<|Rk o];rfl)<|.name _ _) (λR Q b d=>.pU (.name ai .p0) .o1 λm _=>?_) ?_)<|Nr _ _) (cf.F2 (De λq=>F<|List.map_eq_nil_iff.mp q)<|Ie _)<|au _) .cZ) Yy) (.g 5)<|.sE ?_) rfl) ai (.g 5)<|.nil<|H<|.next (.refl _) ⟨rfl,_,rfl⟩
  .have d:=G b d;refine .sub .n1 (.bin (.bin .n0 (.g 2) .fx) .int .fx)<|.list (agz d) (agA h d) ?_;rw[show((b:Int)-((c.length-(i+1):Nat):Int)-1)=((b-(c.length-(i+1))-1:Nat):Int) from ad3 d];exact pV<|by rw[qE];exact agB d
  .refine ab (dS _ _) ?_;rw[af,aO];unfold aA;exact agC h
  .rw[af,qE];show 1+_<=_;unfold aA;exact agD h o
 ·(intro j;intro l;intro q4;refine bu q4 λq5 q6=>?_;clear q4;subst q5;refine cc q6 λC q7=>?_;clear q6;subst q7);refine .assign (.list (.e1<|.list (.e1 .int) Yy) Yy) ai (.g 6) ?_;rw[j8];refine bZ.Ws (λi N P=>P=[]/\∃M,N=UH c w (ae<|.int c.length) C (ae<|.list<|(aL c.length).map λa=>eR<|ge c w a) (ae<|eR<|fL c w c.length) (ae<|.list<|(lr c w i).map eR) M) (.nN (.sub (.g (t:=eR<|fL c w c.length) 5) .int<|.list (by decide) (by decide)<|pV (k:=0)<|by rw[qE];exact V9)<|ab r<|by decide) ⟨rfl,_,rfl⟩ ?_ ?_
  ·(intro i;intro t;intro j;intro l;intro Δ;intro Qe;intro H;intro A;intro q8;refine bu q8 λq9 TX=>?_;clear q8;subst q9;refine cc TX λM Zj=>?_;clear TX;subst Zj);haveI o:i<(fL c w c.length).getD 0 0:=eB (List.getElem?_eq_some_iff.mp A).1<|(af _).trans aO;refine⟨_,.name ai<|.g 7,?_⟩;haveI E:=s i o;haveI S:(lr c w<|i+1).map eR=((lr c w i).filter λ_=>aj).flatMap λway=>((ge c w<|fP way).filter λb=>(((fL c w c.length).getD b 0:Nat):Int)==(((fL c w c.length).getD (fP way) 0:Nat):Int)-1).map λb=>eR<|way++[b]:=by rw[filter_all,lr,lM];congr 1;funext way;rw[aE];rfl
   refine bZ.Gl (lr c w i) eR (λ_=>aj) (λway=>ge c w<|fP way) (λ_=>fq) (λway b=>(((fL c w c.length).getD b 0:Nat):Int)==(((fL c w c.length).getD (fP way) 0:Nat):Int)-1) (λway b=>eR<|way++[b]) (.of ["way","stop"] [5,4]) (.list (.g 6)<|.name _ _) (λR Q way B=>?_) (by rw[<-S,af];exact ab (z _)<|by decide) ai (.g 6)<|.nil<|H<|.next (.refl _) ⟨rfl,_,by rw[<-S];rfl⟩;refine gR (E way B) λh1 h2 h3=>?_;haveI p:way[way.length-1]?=ae (fP way):=by unfold fP;rw[List.getLastD_eq_getLast?,List.getLast?_eq_getElem?,ay<|Zo<|ik.mpr h1];rfl
   have v:-((way.map fq).length:Int)<=-1:=by rw[af];exact agF<|ik.mpr h1
   have y:(way.map fq)[(-1+((way.map fq).length:Int)).toNat]?=ae (fq<|fP way):=by rw[af,aq,show(-1+(way.length:Int)).toNat=way.length-1 from agG,p];rfl
   haveI G:∀b∈ge c w (fP way),fP way<b/\b<=c.length:=λb d=>g7 ((dM.mp d).1) λk u=>agH<|aR.mp u;haveI f:∀x,x<=c.length->((fL c w c.length).map fq)[((x:Nat):Int).toNat]?=ae (fq<|(fL c w c.length).getD x 0):=λx hx=>pV<|by rw[qE];exact Zp hx
   refine⟨_,.name ai .p0,.o1,λ_ _=>.nil,λm _ _=>.list (.sub (.g 3) (.sub .n0 (.neg .int)<|.H5 (by decide) v (by decide) y)<|.list py (FY h h2)<|by rw[cC,aq,dR<|V_ h2];rfl)<|.name _ _,λ_ b d=>?_⟩;haveI d:=G b d;refine .mk (.name ai .p1) (.same .o1) (λm _=>.one<|.cmp (.sub (.g 2) .n1<|.list py (agI h d)<|f b<|agJ d) (.bin (.sub (.g 2) (.sub .n0 (.neg .int)<|.H5 (by decide) v (by decide) y)<|.list py (agK h d)<|f _<|agL d) .int .fx)<|.eq (n:=0)<|.int _ _) λm _ _=>.cast (.bin .n0 (.list (.e1 .n1) Yy)<|.sE ?_) ?_;.rw[af];show way.length+1<=_;unfold aA;exact agM h3
   .show T.list _=T.list _;rw[aJ];rfl
  ·(intro j;intro l;intro Zf;refine bu Zf λZr Zg=>?_;clear Zf;subst Zr;refine cc Zg λM Zu=>?_;clear Zg;subst Zu);rw[af,aO];exact bZ.ret (.g 6) rfl
theorem xv(b:a.length<=16):cf (.ref 461) [.list<|a.map .int,.int w] 1<|.list<|(cr a w).map eR:=JY (wS b) (z6 a w<|wS b) (RI a w<|wS b)<|xk a w b
noncomputable def Nt(s:Bool)(i j x y:Int):Str:=if s then"equal" else if decide (i<j)&&decide (x<y) then"replace" else if decide (i<j) then"delete" else"insert"
noncomputable def xw(s:Bool)(i j x y:Int):List dp:=if decide (i<j)||decide (x<y) then[⟨Nt s i j x y,i,j,x,y⟩] else[]
theorem Nu(W):gH W 483 Ww (dA<|oB PP 22) Ng:=.cells
theorem wq{n:Nat}(h:([T.int 0,T.int n].any<|MK p)=false):¬(p=0)/\¬(p=n):=haveI h:=mn.mp h
 haveI a:=mn.mp h.2
 ⟨λq=>beq_eq_false_iff_ne.mp h.1 (congrArg (λn:Nat=>(n:Int)) q).symm,λq=>beq_eq_false_iff_ne.mp a.1 (congrArg (λn:Nat=>(n:Int)) q).symm⟩
theorem xx{c:List Bool}(hs:c.length<=100):cf (.ref 483) [.list<|c.map .bool,.int d,.int rest] 1<|.list<|(nL c d rest).map dp.t:=by
 refine cf.of Nu ["same","ahead","rest"] ["edges","codes","start","stop","i","j","x","y","tag"] (Ñ c d rest ah ah ah ah ah ah ah ah ah) (λa0 hl=>FX hl λ_ _ _=>by kernel_rfl) rfl λW L I _=>.uj (aL<|c.length+1) fq (j9 c) fq (.of ["place"] [0]) (.nN (.bin (.Ds (.g 0)<|size_le hs) .int .cZ)<|ab (aK hs)<|by decide) (λL' I' p q=>?_) (by rw[aO];unfold aA;exact(az hs<|aB (cb 100)<|ap rfl)) ai (.g 3) ?_
 .haveI q:=aR.mp q;haveI e:j9 c p=(([T.int 0,T.int c.length].any<|MK p)||((c.getD p false !=c.getD (p-1) false)||false)):=by
   rw[hH];unfold j9;congr 1;show _=(MK p (.int 0)||(MK p (.int c.length)||false));unfold MK;rw[hH,gj,fO,fO,beq_iff_eq,beq_iff_eq,beq_iff_eq,beq_iff_eq];exact(or_congr (ml.symm.trans eq_comm)<|ml.symm.trans eq_comm)
  rw[e];refine .mk (.name ai<|.g 0) .o1 (λR _=>.one<|.boolOp<|.or (.cmp (.g 0) (.tuple (.cons .int<|.e1<|.Ds (.g 1)<|size_le hs)<|by show 2<=aA;decide)<|.Ry (n:=0)<|fm (lh.int _ _)<|fm (lh.int _ _) uR) λh=>.or (.cmp (.sub (.g 1) (.g 0)<|.list py (Zv hs q)<|pV<|Zx q<|wq h) (.sub (.g 1) (.bin (.g 0) .int .fx)<|.list (Zy<|wq h) (Zw hs q) ?_) .Wv) λ_=>.CW) λR _ _=>.g 0;rw[show((p:Int)-1)=((p-1:Nat):Int) from(hV<|eA (wq h).1).symm];exact pV<|aB (jt (eA (wq h).1) ju)<|cg q
 refine .newList ai (λa=>.g 4) λa=>?_;haveI hz:∀l:List Nat,(fJ (λa b=>[a,b]) (l.map fq)<|lK (l.map fq) (ae 1) ah ah).map T.tuple=(l.zip<|l.drop 1).map λp=>T.tuple [fq p.1,fq p.2]:=by intro l;rw[nB,z5,Mb,Q3,oI,oI]
 refine bZ.Ws (ts:=((gf c).zip<|(gf c).drop 1).map λp=>T.tuple [fq p.1,fq p.2]) (λk Γ Ω=>Ω=[(a,.list (((((gf c).zip<|(gf c).drop 1).take k).flatMap λp=>jZ c d rest p.1 p.2).map dp.t))]/\∃C D E G H M N,Γ=Ñ c d rest (ae<|eR<|gf c) (ae<|.val<|.ref a) C D E G H M N) ?_ ⟨rfl,Zb _ _ _ _ _ _ _ rfl⟩ ?_ ?_
 .rw[<-hz];refine fR.zip (.builtin (F' W) Ga Nd)<|.cons (.g 3)<|.e1<|.slice (.g 3) (.int .int) .none .none (by decide) ?_;rw[af];haveI:=xh c;unfold aA;exact(ab this<|ab (aK hs)<|by decide)
 ·(intro k;intro t;intro u;intro v;intro Δ;intro Qe;intro r;intro ht;intro q0;refine bu q0 λq1 q2=>?_;clear q0;subst q1;refine aaa q2 λC D E G H M N q3=>?_;clear q2;subst q3);rw[aq,aT] at ht;obtain⟨⟨f,m⟩,q,rfl⟩:=ht;refine⟨_,.tuple<|.cons ai (.g 5)<|.cons ai (.g 6) .nil,?_⟩;(haveI w:=(Df q).1;haveI z:=(Df q).2);haveI A:jZ c d rest f m=xw (c.getD f false) (y8 f d-d) (y8 m d-d) (y9 f rest) (y9 m rest):=rfl;haveI o:=u9 c d rest f m;haveI B:((((gf c).zip<|(gf c).drop 1).take<|k+1).flatMap λp=>jZ c d rest p.1 p.2).map dp.t=((((gf c).zip<|(gf c).drop 1).take k).flatMap λp=>jZ c d rest p.1 p.2).map dp.t++(jZ c d rest f m).map dp.t:=by
   rw[cA,q,jJ,aJ];simp
  haveI h1:((((gf c).zip<|(gf c).drop 1).take k).flatMap λp=>jZ c d rest p.1 p.2).length<=200:=by
   refine ab (Nf _ _ λp _=>u9 ..) ?_;rw[Nat.mul_one,bh,QH];haveI:=xh c;exact(ab (eI ..)<|ab (kz ..)<|ab this<|ab (aK hs)<|by decide)
  rw[B] at r;generalize ((((gf c).zip<|(gf c).drop 1).take k).flatMap λp=>jZ c d rest p.1 p.2)=S at r h1⊢;rw[A] at o r;haveI Q:f<c.length:=wR w z;refine .wk (ts:=[.int<|y8 f d-d,.int<|y8 m d-d,.int<|y9 f rest,.int<|y9 m rest]) (.tuple (.cons (.bin (.call (.builtin (Bd W) Be Nc) (.builtin _) (.cons (.g 5)<|.e1<|.g 1) cf.max2<|au _) (.g 1) .fx) (.cons (.bin (.call (.builtin (Bd W) Be Nc) (.builtin _) (.cons (.g 6)<|.e1<|.g 1) cf.max2<|au _) (.g 1) .fx)<|.cons (.call (.builtin (A_ W) Ba F_) (.builtin _) (.cons (.g 5)<|.e1<|.g 2) cf.min2<|au _)<|.e1<|.call (.builtin (A_ W) Ba F_) (.builtin _) (.cons (.g 6)<|.e1<|.g 2) cf.min2<|au _))<|by show 4<=aA;decide) (.cons ai (.g 7)<|.cons ai (.g 8)<|.cons ai (.g 9)<|.cons ai (.g 10) .nil) ?_;generalize y8 f d-d=i at r o⊢;generalize y8 m d-d=j at r o⊢;generalize y9 f rest=x at r o⊢;generalize y9 m rest=y at r o⊢;refine .assign (t:=.str<|Nt (c.getD f false) i j x y) (.ite (b:=c.getD f false) (.val (.sub (.g 0) (.g 5)<|.list py (ZC hs w z)<|pV Q) .bool) (λh=>.cast .str<|by rw[h];rfl) λh=>.ite (.boolOp<|.and (.cmp (.g 7) (.g 8) .kl) λ_=>.and (.cmp (.g 9) (.g 10) .kl) λ_=>.rT) (λs=>.cast .str ?_) λs=>.ite (.cmp (.g 7) (.g 8) .kl) (λP=>.cast .str ?_) λP=>.cast .str ?_) ai (.g 11) ?_;.rw[iX] at s;unfold Nt;rw[h,s];rfl
  .rw[iX] at s;unfold Nt;rw[h,s,P];rfl
  .rw[iX] at s;unfold Nt;rw[h,s,P];rfl
  refine .n9 (.g 4) (eL.app Δ .here) jD nr (.e1 ?_) (rW (eL.app Δ .here)<|by rw[af,af];unfold aA;exact ZE h1 o)<|.nil<|r<|.next (.refl _) ⟨rfl,Zb _ _ _ _ _ _ _ rfl⟩;refine .ite (.boolOp<|.or (.cmp (.g 7) (.g 8) .kl) λ_=>.or (.cmp (.g 9) (.g 10) .kl) λ_=>.CW) (λh=>?_) λh=>?_
  .rw[hH] at h;unfold xw;rw[if_pos h];exact .list (.e1<|.tuple (.cons (.g 11)<|.cons (.g 7)<|.cons (.g 8)<|.cons (.g 9)<|.e1<|.g 10)<|by show 5<=aA;decide) Yy
  .rw[hH] at h;unfold xw;rw[if_neg<|by rw[h];decide];exact .list .nil<|au _
 ·(intro u;intro v;intro q4;refine bu q4 λq5 q6=>?_;clear q4;subst q5;refine aaa q6 λC D E G H M N q7=>?_;clear q6;subst q7);rw[af,dn];exact .oe [_,_,_,_] _ [] [] iS rfl<|bZ.ret (.g 4) rfl
structure sx where
 row:bC
 room:Int
 fin:Int
noncomputable def sx.t(x:sx):T:=.tuple [.str x.row,.int x.room,.int x.fin]
noncomputable def Dt(a:List bC)(b c:Int)(way:List Nat):List sx:=((pf a<|way.map cS).zip<|way.drop 1).map λp=>⟨p.1,b-1-p.1.length,c+p.2⟩
noncomputable def lu(g:List bC)(d:Int)(b:List Nat)(i:bC)(a f:Nat):List<|List sx:=let c:=(g.drop<|b.getD a 0).take<|b.getD f 0-b.getD a 0
 let h:=if i="replace" then cr (c.map λw=>1+w.length) d else[((b.drop a).take<|f+1-a).map λe=>e-b.getD a 0]
 h.map (Dt c d<|b.getD a 0)
structure ah5 where
 tag:bC
 i:Nat
 j:Nat
structure Cd where
 tag:bC
 i:Nat
 j:Nat
 x:Int
 y:Int
noncomputable def Cd.t(c:Cd):T:=.tuple [.str c.tag,.int c.i,.int c.j,.int c.x,.int c.y]
noncomputable def Cd.ok(b:List bC)(a:List Nat)(c:Cd):Prop:=c.i<=c.j/\c.j<a.length/\a.getD c.i 0<=a.getD c.j 0/\a.getD c.j 0<=b.length/\∀k,c.i<=k->k<=c.j->a.getD c.i 0<=a.getD k 0
noncomputable abbrev ad4:FuncData:=Uo 23 "_law_totals" 487
noncomputable abbrev Nv:List Str:=["words","width","codes","ends","parts","tag","start","stop","inner","ways","many","part","squares","sums","calls","row","room","end"]
theorem WG(W):gH W 488 ad4 (dA<|oB PP 23) Nv:=.cells
section
theorem Ev.Bk(h:Ev C i Ω e<|.str x)(d:x.length<=aA)(c:autoParam (C.env.kindOf "len"=ae .globalImplicit) U3) (hs:autoParam (∀env,aw [e] env=(false,eval e env)::aw [] env) eX) (f:autoParam (∀env,(bb pos<|aw [e] env).any (·.1)=false) eX) (b:autoParam (∀env,eval (.Call (.Name "len" a) [e] [] pos) env=(do bS pos (<-eval (.Name "len" a) env) [] (bb pos<|aw [e] env) (bK pos<|aX [] env))) eX):Ev C i Ω (.Call (.Name "len" a) [e] [] pos)<|.int x.length:=.call (.builtin (oR C.W) oS oT c) (.builtin _) (.cons h .nil hs) (cf.M2 d) (au _) f b
end
noncomputable abbrev sY(h:List bC)(g:Int)(c:List Cd)(i:List Nat)(e q f l d n j part a m b p k o:Option T):cG:=[("words",ae (.list<|h.map .str)),("width",ae (.int g)),("codes",ae (.list<|c.map Cd.t)),("ends",ae (eR i)),("parts",e),("tag",q),("start",f),("stop",l),("inner",d),("ways",n),("many",j),("part",part),("squares",a),("sums",m),("calls",b),("row",p),("room",k),("end",o)]
theorem wt{a:List Nat}(h:k<a.length):(a.map fq)[(k:Int).toNat]?=ae (.int<|a.getD k 0):=by rw[cC,aq,ak,ay h];rfl
theorem JZ(c:b.length<=100)(a:∀w∈b,w.length<=1000):∀r∈pf b way,r.length<=sizeLine:=λr m=>by refine aU (am.mp m) λk _ d=>?_;subst d;unfold pf at m;exact(n8 (ab (kJ ..) c) (λx m=>a x<|sO m) (by decide)<|dN tt).2
theorem nD(a way):(pf a way).length=way.length-1:=by unfold pf;rw[af,aO]
section
variable (W:Wd) (n L:Nat) (I:zT) (words:List bC) (width:Int) (codes:List Cd) (ends:List Nat)
noncomputable abbrev Nw:Cx:=oN W n ad4 488 L Nv I
theorem J0(hn:1<=n)(hw:words.length<=16)(a9:∀w∈words,w.length<=1000)(E:ends.length<=100){rest:List mA}(c:Cd)(hc:c.ok words ends)(r:List T)(hd:r.length<=1000)(Δ:bM) (k:∀q d,P .next (sY words width codes ends (ae<|.val<|.ref a) (ae<|.str c.tag) (ae<|.int c.i) (ae<|.int c.j) q d p1 p2 p3 p4 p5 p6 ah ah)<|Δ++[(a,.list (r++[.list<|(lu words width ends c.tag c.i c.j).map λo=>.list<|o.map sx.t]))])(ss:List mA)(a8:ss=(rc<|AZ (dA<|oB PP 23) 1))(q d:Option T):bZ (Nw W n L I) (sY words width codes ends (ae<|.val<|.ref a) (ae<|.str c.tag) (ae<|.int c.i) (ae<|.int c.j) q d p1 p2 p3 p4 p5 p6 ah ah) (Δ++[(a,.list r)]) ss P:=by
 subst a8;refine Rc hc λh1 h2 h3 h4 h5=>?_;have R:c.i<ends.length:=Z9 h1 h2;haveI C:aA=2^24:=rfl;generalize y:(words.drop<|ends.getD c.i 0).take (ends.getD c.j 0-ends.getD c.i 0)=f;haveI a3:lK words (ae ((ends.getD c.i 0:Nat):Int)) (ae ((ends.getD c.j 0:Nat):Int)) ah=f:=by rw[<-y];exact wl words _ _ h3 h4
 have v:f.length<=16:=by rw[<-y,bh,cH];exact(ab (eI ..)<|ab (cq ..) hw)
 have B:∀w∈f,w.length<=1000:=λw m=>by
  rw[<-y] at m;exact a9 w<|ra<|f8 m
 refine .assign (t:=.list<|f.map .str) ?_ ai (.g 8) ?_;.refine Ev.cast (Ev.slice (.g 0) (.int<|.sub (.g 3) (.g 6)<|.list py (FY E R)<|wt R) (.int<|.sub (.g 3) (.g 7)<|.list py (FY E h2)<|wt h2) .none (by decide)<|by rw[af];exact Z' hw C)<|by rw[nB,a3]
 haveI hj:c.j+1<=ends.length:=ki h2;generalize H:((ends.drop c.i).take<|c.j+1-c.i).map (λe=>e-ends.getD c.i 0)=N;haveI a2:N.map fq=((ends.drop c.i).take<|c.j+1-c.i).map λ(e:Nat)=>T.int<|(e:Int)-(ends.getD c.i 0:Nat):=by
  rw[<-H,aE];apply aI;intro e m;refine cc (mV m) λk z0=>?_;refine cc z0 λhk z1=>?_;subst z1;rw[nW,lb];rw[bh,cH] at hk;haveI:=h5 (c.i+k) HR<|cg<|i6<|aB hk<|kz ..;haveI a6:c.i+k<ends.length:=i6<|aB hk<|eI ..;rw[ak (i:=c.i+k),ay a6,lx] at this;show T.int _=T.int _;congr 1;skip;exact(hV this)
 refine .assign (t:=.list [eR N]) ?_ ai (.g 9) ?_
 .refine .list (.cons ?_ .nil)<|by decide
  unfold eR;rw[a2];refine Ev.sX _ fq _ (.of ["end"] [3,6]) (.list (Ev.cast (Ev.slice (u:=ae ((c.j+1:Nat):Int)) (.g 3) (.int<|.g 6) (.int<|Ev.cast (.bin (.g 7) .int .cZ)<|by congr 1) .none (by decide)<|by rw[af];exact MB E C)<|by rw[nB,wl _ _ _ (ke h1) hj])<|.name _ _) (λL' I' e E=>?_)<|by rw[bh,cH];exact Ã E C
  exact .pU (.name ai<|.g 0) .o1 λa1 _=>.bin (.g 0) (.sub (.g 1) (.g 2)<|.list py (FY (by assumption) R)<|wt R) .fx
 have D:∀d:List<|List Nat,(∀way∈d,way.length<=100/\1<=way.length)->d.length<=100000->d.map (Dt f width<|ends.getD c.i 0)=lu words width ends c.tag c.i c.j->bZ (Nw W n L I) (sY words width codes ends (ae<|.val<|.ref a) (ae<|.str c.tag) (ae<|.int c.i) (ae<|.int c.j) (ae<|.list<|f.map .str) (ae<|.list<|d.map eR) p1 p2 p3 p4 p5 p6 ah ah) (Δ++[(a,.list r)]) ((rc<|AZ (dA<|oB PP 23) 1).drop 3) P:=by
  intro d M x hp;refine .n9 (.g 4) JT fU fV (.cons ?_ .nil) (λA G s vs I S h=>m9 JT (Ä hd C) A G s vs I S h)<|.nil<|k _ _;rw[<-hp,aE];refine Ev.sX d eR _ (.of ["way"] [1,3,6,8]) (.list (.g 9)<|.name _ _) (λL' I' way z=>?_)<|Å C x;(haveI Q:=M way z;haveI w1:=Q.1;haveI w2:=Q.2);refine .pU (.name ai<|.g 0) .o1 λa1 _=>?_;haveI a4:way.map fq=(way.map cS).map .int:=by rw[aE];rfl
  show Ev _ _ _ _<|.list<|(Dt f width (ends.getD c.i 0) way).map sx.t;unfold Dt;rw[aE];refine Ev.sX ((pf f<|way.map cS).zip<|way.drop 1) (λp=>.tuple [.str p.1,fq p.2]) _ (.of ["row","end"] [1,2,3]) ?_ (λb2 b1 p hp=>?_) ?_
  .have ez:(fJ (λa b=>[a,b]) ((pf f<|way.map cS).map T.str)<|(way.drop 1).map fq).map T.tuple=((pf f<|way.map cS).zip<|way.drop 1).map λp=>T.tuple [.str p.1,fq p.2]:=by rw[Mb,Q3,oI,oI]
   rw[<-ez];have a7:=Aa (way:=way.map cS) (wS v) B (by rw[af];exact Æ w1)<|by rw[af];exact Ç w2
   refine .zip (.builtin (F' W) Ga Nd)<|.cons (.call .gl (.k<|by kernel_rfl) (.cons (.g 4)<|.cons (a4▸(.g 0)) .nil) a7 hn)<|.cons (Ev.cast (Ev.slice (.g 0) (.int .int) .none .none (by decide)<|by rw[af];exact È C w1)<|by rw[nB,z5]) .nil
  .refine .pU (.tuple<|.cons ai (.g 0)<|.cons ai (.g 1) .nil) .o2 λb0 _=>?_;haveI a0:=JZ (wS v) B _ (List.of_mem_zip hp).1;show Ev _ [("row",ae (.str p.1)),("end",ae (fq p.2)),("width",ae (.int width)),("ends",ae (eR ends)),("start",ae (.int c.i))] _ _<|.tuple [.str p.1,.int<|width-1-(p.1.length:Int),.int<|((ends.getD c.i 0:Nat):Int)+(p.2:Int)];exact .tuple (.cons (.g 0)<|.cons (.bin (.bin (.g 2) .int .fx) (.Bk (.g 0) a0) .fx)<|.cons (.bin (.sub (.g 3) (.g 4)<|.list py (FY E R)<|wt R) (.g 1) .cZ) .nil)<|by decide
  .rw[QH,nD,af];exact É C w1
 haveI a5:∀l:List Nat,(∀way∈[l],way.length<=100/\1<=way.length)↔l.length<=100/\1<=l.length:=λl=>by simp
 refine .ite (.cmp (.g 5) .str<|.eq (n:=0)<|.str _ _) (λh=>?_) λh=>?_
 .haveI ht:c.tag="replace":=h7 h;have x:(f.map λw=>(1:Int)+w.length).length<=16:=by rw[af];exact v
  refine .assign (t:=.list<|(cr (f.map λw=>(1:Int)+w.length) width).map eR) ?_ ai (.g 9)<|.nil<|D _ (λway z=>?_) ?_ ?_
  .refine .call .gl (.k<|by kernel_rfl) (.cons ?_<|.cons (.g 1) .nil) (xv x) hn;rw[aE];refine Ev.sX f T.str _ (.of ["word"] []) (.list (.g 8)<|.name _ _) (λL' I' w hw=>?_)<|Ê C v;refine .pU (.name ai<|.g 0) .o1 λa1 _=>?_;have:=B w hw;exact .bin .int (.Bk (.g 0)<|Ë C this) .cZ
  ·(haveI Q:=ue _ _ _ way z;haveI q1:=Q.1;haveI q2:=Q.2.1;haveI q3:=Q.2.2.1;haveI q4:=Q.2.2.2);haveI:=z6 (f.map λw=>(1:Int)+w.length) width<|wS x;haveI hb:sw (f.map λw=>(1:Int)+w.length) width 0<=_:=ud _ _ 0<|au _;skip;exact Ì x q3 hb
  .exact xk _ _ x _
  .unfold lu;rw[y];dsimp only;rw[if_pos ht]
 .have ht:¬c.tag="replace":=λe=>by rw[e] at h;exact absurd h<|by decide+kernel
  refine .nil<|D [N] ((a5 _).mpr ?_) (by show 1<=100000;decide) ?_;.rw[<-H,af,bh,cH];exact Í E h1 hj
  .unfold lu;rw[y];dsimp only;rw[if_neg ht,H]
end
theorem jg(h:n.natAbs<2^63):i7 n<=64:=by
 unfold i7;split;.exact(aF<|gA 63)
 .rename_i q;haveI q:n.natAbs≠0:=by
   intro e;haveI:=Int.natAbs_eq_zero.mp e;rw[this] at q;exact absurd (by decide) q
  haveI:=(YJ q).mpr h;exact(ke this)
noncomputable def iY(ps:List<|List<|List sx):Int:=ps.foldl (λm p=>m*p.length) 1
noncomputable def pW(q:Int)(a:Int×Int×List (bC×Int))(x:sx):Int×Int×List (bC×Int):=(a.1+q*x.room*x.room,a.2.1+q*x.fin,mu a.2.2 x.row ((jo a.2.2 x.row).getD 0+q))
noncomputable def pX(m:Int)(a:Int×Int×List (bC×Int))(p:List<|List sx):Int×Int×List (bC×Int):=p.flatten.foldl (pW<|m.fdiv p.length) a
noncomputable def xy(e:List bC)(d:Int)(b:List Cd)(a:List Nat):Stat:=let f:=b.map λc=>lu e d a c.tag c.i c.j
 let r:=f.foldl (pX<|iY f) (0,0,[])
 ⟨iY f,iY f*(a.length-1),r.1,r.2.1,r.2.2⟩
structure wu(ps:List<|List<|List sx):Prop where
 few:ps.length<=100
 cnt:(ps.flatMap λp=>p.flatten).length<=1000000
 len:∀p∈ps,p.length<=1000000
 room:∀p∈ps,∀o∈p,∀x∈o,x.room.natAbs<2^40/\x.fin.natAbs<2^40
theorem J1(q a x):(pW q a x).2.2.length<=a.2.2.length+1:=sV _ _ _
theorem Ab(q:Int)(xs:List sx)(a:Int×Int×List (bC×Int)):(xs.foldl (pW q) a).2.2.length<=a.2.2.length+xs.length:=by induction xs generalizing a with|nil=>exact al _|cons x xs ih=>haveI:=ih<|pW q a x;haveI:=J1 q a x;exact Ug (by assumption) this
theorem Bl{α c:Type}(f:α->List c)(xs:List α)(k x)(h:xs[k]?=ae x):((xs.take k).flatMap f).length+(f x).length<=(xs.flatMap f).length:=by
 refine cc (List.getElem?_eq_some_iff.mp h) λb e=>?_;haveI:xs=xs.take k++x::xs.drop (k+1):=by rw[<-e];simp
 rw[this,jJ,cI,aM,aM];haveI a:(xs.take k++x::xs.drop (k+1)).take k=xs.take k:=by rw[List.take_append_of_le_length<|by rw[bh];exact Ð b,gz<|by rw[bh];exact(kz ..)]
 rw[a];exact Ò
theorem J2{α b:Type}(f)(xs:List α)(l:List b):xs.foldl (λl x=>l++[f x]) l=l++xs.map f:=by induction xs generalizing l with|nil=>exact(bD l).symm|cons x xs a=>rw[gm,a,bW];rfl
theorem Nx(p:List<|List sx):(p.filter λ_=>aj).flatMap (λo=>(o.filter λ_=>aj).map sx.t)=p.flatten.map sx.t:=by rw[filter_all,List.map_flatten,List.flatMap_def];congr 1;apply aI;intro o _;rw[filter_all]
noncomputable def rE(p:List<|List sx):T:=.list<|p.map λo=>.list<|o.map sx.t
section
variable (W:Wd) (n L:Nat) (I:zT) (words:List bC) (width:Int) (codes:List Cd) (ends:List Nat)
theorem Ny(hn:1<=n)(hw:words.length<=16)(a4:∀w∈words,w.length<=1000)(he:ends.length<=100)(u:codes.length<=100)(hc:∀c∈codes,c.ok words ends)(z:wu<|codes.map λc=>lu words width ends c.tag c.i c.j):bZ (Nw W n L I) (sY words width codes ends ah ah ah ah ah ah ah ah ah ah ah ah ah ah) [] (dA<|oB PP 23) λo _ _=>o=.ret ((xy words width codes ends).t W):=by
 haveI N:aA=2^24:=rfl;refine .newList ai (λa=>.g 4) λa=>.F8 codes (λc=>.tuple [.str c.tag,.int c.i,.int c.j]) (λl c=>l++[rE<|lu words width ends c.tag c.i c.j]) [] (λ_=>sY words width codes ends (ae<|.val<|.ref a) ah ah ah ah ah ah ah ah ah ah ah ah ah) (λl=>[(a,.list l)]) (λk l=>l.length<=k) (λ_=>false) (.list (Ev.sX codes Cd.t _ (.of ["code"] []) (.list (.g 2)<|.name _ _) (λL' I' c _=>.pU (.name ai .p0) .o1 λa6 _=>.RQ .n0 .int)<|MB u N)<|.tuple _ _ _) (al _) rfl (λk c l Δ Qe E R S=>?_) λ_=>?_
 .have hk:=(List.getElem?_eq_some_iff.mp R).1;refine⟨ab (aH aM)<|aK S,_,.of<|.tuple<|.cons ai (.g 5)<|.cons ai (.g 6)<|.cons ai (.g 7) .nil,?_⟩;exact J0 W n L I words width codes ends hn hw a4 he (rest:=[]) c (hc c<|aZ R) _ (ab S<|ab (aF hk)<|ab u<|by decide) Δ (λa5 a7=>E<|.next (f4 5) _ rfl rfl) _ rfl _ _
 rw[J2];generalize hP:(codes.map λc=>lu words width ends c.tag c.i c.j)=b at z;haveI a1:[]++(codes.map λc=>rE<|lu words width ends c.tag c.i c.j)=b.map rE:=by rw[<-hP,aE];rfl
 rw[a1];refine bZ.oe [_,_,_,_] _ [] [] iS rfl<|.assign .int ai (.g 10)<|.F8 b rE (λ(m:Int) p=>m*(p.length:Int)) 1 (λm=>sY words width codes ends (ae<|.list<|b.map rE) ah ah ah ah ah (ae<|.int m) ah ah ah ah ah ah ah) (λ_=>[]) (λ_ _=>True) (λ_=>false) (.list (.g 4)<|.name _ _) trivial rfl (λk p m Δ Qe E hp _=>?_) λ_=>?_
 .haveI q:=z.len p<|aZ hp;exact⟨trivial,_,.of<|.name ai<|.g 11,.assign (.bin (.g 10) (.Ds (.g 11)<|CP N q)<|.rS<|.of_right<|jg<|az q<|aB (cb 1000000)<|ap rfl) ai (.g 10)<|.nil<|E<|.next (f4 11) _ rfl rfl⟩
 show bZ _ (sY words width codes ends (ae<|.list<|b.map rE) ah ah ah ah ah (ae<|.int<|iY b) ah ah ah ah ah ah ah) _ _ _;refine .JV ["squares","sums","calls"] (jb.tuple (Q:=λts f=>∃d,ts=[.int 0,.int 0,.val<|.ref d]/\f=[(d,Ob.dk kS W [])]) (.cons (.of .int) λt f h=>?_) λts f h=>?_) λt f h=>?_
 .refine bu h λq0 q1=>?_;subst q0;subst q1;refine .cons (.of .int) λt f h=>?_;refine bu h λq2 q3=>?_;try clear h;subst q2;subst q3
  refine .cons (.newDict kS) λt f h=>?_;refine aU h λd z0 z1=>?_;clear h;subst z0;subst z1;exact .fin ⟨d,rfl,rfl⟩
 .refine aU h λd q6 _=>?_;subst q6;exact by decide
 refine cc h λ_ y0=>?_;clear h;refine bu y0 λy1 y2=>?_;clear y0;subst y1;refine aU y2 λd y3 y4=>?_;clear y2;subst y3;subst y4;refine vG _ _ rfl rfl (.cons ai (.g 14)<|.cons ai (.g 13)<|.cons ai (.g 12) .nil) ?_;refine .F8 b rE (pX<|iY b) (0,0,[]) (λs=>sY words width codes ends (ae<|.list<|b.map rE) ah ah ah ah ah (ae<|.int<|iY b) ah (ae<|.int s.1) (ae<|.int s.2.1) (ae<|.val<|.ref d) ah ah ah) (λs=>[(d,Ob.dk kS W (oE s.2.2))]) (λk s=>s.2.2.length<=((b.take k).flatMap λp=>p.flatten).length) (λ_=>false) (.list (.g 4)<|.name _ _) (au _) rfl (λk p B Δ Qe E hp D=>?_) λ_=>?_
 .haveI a0:=aZ hp;have q:=z.len p a0;have v:=Bl (λp:List<|List sx=>p.flatten) b k p hp;have u:=z.cnt;refine⟨by rw[cA,hp];show _<=((b.take k++[p]).flatMap λp=>p.flatten).length;rw[jJ,aM,pq];exact ab (Ab _ _ _)<|bX D _,_,.of<|.name ai<|.g 11,?_⟩;have r:∀x∈p.flatten,x.room.natAbs<2^40/\x.fin.natAbs<2^40:=λx m=>by
   refine aU (List.mem_flatten.mp m) λo ho hx=>?_;exact z.room p a0 o ho x hx
  have F:=Nx p;have y:p.flatten.length<=1000000:=by
   haveI:(p.flatten).length=((λp:List<|List sx=>p.flatten) p).length:=rfl;exact Ô v u
  generalize M:p.flatten=xs at v r F y;have a3:pX (iY b) B p=xs.foldl (pW<|(iY b).fdiv p.length) B:=by unfold pX;rw[M]
  rw[a3] at E;refine .F8 xs sx.t (pW<|(iY b).fdiv p.length) B (λs=>sY words width codes ends (ae<|.list<|b.map rE) ah ah ah ah ah (ae<|.int<|iY b) (ae<|rE p) (ae<|.int s.1) (ae<|.int s.2.1) (ae<|.val<|.ref d) ah ah ah) (λs=>Δ++[(d,Ob.dk kS W (oE s.2.2))]) (λj s=>s.2.2.length<=B.2.2.length+j) (λ_=>false) (.list (Ev.cast (Ev.ad2 p (λo=>.list<|o.map sx.t) (λ_=>aj) (λo=>o) (λ_=>sx.t) (λ_ _=>aj) (λ_=>sx.t) (.of ["option","one"] []) (.list (.g 11)<|.name _ _) (λL' I' o ho=>⟨_,.name ai .p0,.o1,λ_ _=>.nil,λ_ _ _=>.list .n0<|.name _ _,λ_ x hx=>.pU (.name ai .p1) (.same .o1) λa6 _=>.n1⟩)<|by rw[F,af];exact CP N y)<|by rw[F])<|.tuple _ _ _) (al _) rfl (λj x A P Qe E hx hl=>?_) λ_=>.nil<|E<|.next (Fi 11) _ rfl rfl
  .haveI C:=aZ hx;(haveI b1:=(r x C).1;haveI b2:=(r x C).2);haveI a2:j<xs.length:=(List.getElem?_eq_some_iff.mp hx).1;have H:p.length≠0:=by
    intro e;have:p=[]:=iM e;rw[this] at M;rw[<-M] at C;simp at C
   refine⟨ab (sV _ _ _)<|aK hl,_,.of<|.tuple<|.cons ai (.g 15)<|.cons ai (.g 16)<|.cons ai (.g 17) .nil,?_⟩;haveI G:f9 (iY b) (p.length:Int)=false:=Bb<|az q<|aB (cb 1000000)<|ap rfl;refine .aug (.tail _<|.tail _<|.tail _<|.tail _<|.tail _<|.tail _<|.tail _<|.tail _<|.tail _<|.tail _<|.tail _<|.tail _<|.head _) (.bin (.bin (.bin (.g 10) (.Ds (.g 11)<|CP N q)<|.divInt (MC H) G) (.g 16)<|.rS<|.of_right<|jg<|MD b1) (.g 16)<|.rS<|.of_right<|jg<|MD b1) ai (.g 12) ?_;refine .aug (.tail _<|.tail _<|.tail _<|.tail _<|.tail _<|.tail _<|.tail _<|.tail _<|.tail _<|.tail _<|.tail _<|.tail _<|.tail _<|.head _) (.bin (.bin (.g 10) (.Ds (.g 11)<|CP N q)<|.divInt (MC H) G) (.g 17)<|.rS<|.of_right<|jg<|MD b2) ai (.g 13) ?_;haveI hz:(oE A.2.2).length<=sizeLine:=by unfold oE;rw[af];exact ab hl<|ab (c_ D<|aF a2)<|ab v<|ab u<|by decide
   refine .xn (t:=.int<|(jo A.2.2 x.row).getD 0+(iY b).fdiv p.length) (.bin (.cast (.Dl (.g 14) (.own (av _<|av _<|.head _) rfl)<|.cons (.g 15)<|.cons .int .nil) ?_) (.bin (.g 10) (.Ds (.g 11)<|CP N q)<|.divInt (MC H) G) .cZ) (.g 14) (.g 15) (eL.app P JT) hz<|.nil ?_;.rw[qG];cases jo A.2.2 x.row<;>rfl
   .rw[sU];exact E<|.next (f4 15) (pW ((iY b).fdiv p.length) A x) rfl rfl
 refine bZ.oe [_,_,_,_,_,_,_,_,_,_,_,_,_,_] _ [] [] ui rfl<|.ret ?_ rfl;haveI et:xy words width codes ends=⟨iY b,iY b*((ends.length:Int)-1),(b.foldl (pX<|iY b) (0,0,[])).1,(b.foldl (pX<|iY b) (0,0,[])).2.1,(b.foldl (pX<|iY b) (0,0,[])).2.2⟩:=by unfold xy;rw[hP]
 rw[et];refine .tuple (.cons (.g 10)<|.cons (.bin (.g 10) (.bin (.cast (.len (.g 3)<|by rw[af];exact MB he N)<|by rw[af]) .int .fx)<|.rS<|.of_right<|jg<|Ö he)<|.cons (.g 12)<|.cons (.g 13)<|.cons (.g 14) .nil)<|by decide
end
theorem Nz(r:e.length<=16)(m:∀w∈e,w.length<=1000)(p:g.length<=100)(k:f.length<=100)(o:∀c∈f,c.ok e g)(l:wu<|f.map λc=>lu e h g c.tag c.i c.j):gW W (.ref 488) [.list<|e.map .str,.int h,.list<|f.map Cd.t,eR g] 2 []<|(xy e h f g).t W:=by refine gW.of (WG W) ["words","width","codes","ends"] ["parts","tag","start","stop","inner","ways","many","part","squares","sums","calls","row","room","end"] _ (λn q=>?_) rfl λL I _=>Ny W 1 L I e h f g (al _) r m p k o l;refine Rh q λa b c d=>?_;kernel_rfl
end
section
open PyProof.Rows renaming slot_tupleiter_next->fk,entry_tupleiter_next->pC,args_tupleiter_next->pF,IsTupIter->zC,entry_tuple_iter->YS,args_tuple_iter->YT
open PySem.Builtin.Slots renaming bestBase->Yk
open PySem.Heap.SameBut renaming refl->YU
open PySem.Manifest renaming isStub->HI
open PySem PySem.W PySem.Calls PyProof.Rows PySem.SeqAt Builtin
noncomputable def Bm:Obj:=⟨.type "type",ah,.cls ⟨"Match",[.type "tuple"],[.ref 135,.type "tuple",.type "object"],134,"Match",false,[],[],false,ah,false⟩,#[ae (.ref 65),ah,ae (.str "Match" 253),ae (.str "Match" 261),ae .none,ae (.bool false)]⟩
theorem Bn(W:Wd):W.K.lookup 135=ae Bm:=by kernel_rfl
section
theorem Gm:cU M h (Yk [.type "tuple"])<|.type "tuple":=by refine nX ?_;kernel_rfl
noncomputable abbrev RT:ClassData:=⟨"Match",[.type "tuple"],[.ref 135,.type "tuple",.type "object"],134,"Match",false,[],[],false,ah,false⟩
theorem Du(W:Wd):clsIn W.K 135=ae RT:=by kernel_rfl
theorem uk{W:Wd}(a:W.K.In h):cU M h (VL<|.ref 135) [.ref 135,.type "tuple",.type "object"]:=(ni a<|Du W).andThen .now
theorem rZ{W:Wd}(i:W.K.In h):cU M h (FO<|.ref 135) none:=by intro A Q E s k q;obtain⟨b,g,d,f,c⟩:=s;haveI a:=k _ _<|i _ _<|Bn W;skip;skip;refine aa<|uk (i.keeps k) A _ E _ (λ_ _ e=>e) ?_;refine aa<|jK<|aa<|aa<|aa<|mf a<|ag ?_;exact ag<|ag<|ag q
theorem r0:cU M h (FO<|.type "tuple")<|ae "tuple.__new__":=nX PySem.F.called_tuple.made
theorem sZ{W:Wd}(i:W.K.In h):cU M h (QI<|.ref 135)<|.type "tuple":=by intro A Q E s k q;obtain⟨b,g,d,f,c⟩:=s;haveI a:=i.keeps k;skip;refine aa<|uk a A _ E _ (λ_ _ e=>e) ?_;refine aa<|jK<|aa<|aa<|rZ a A _ E _ (λ_ _ e=>e) ?_;skip;skip;refine aa<|ni a (Du W) A _ E _ (λ_ _ e=>e) ?_;refine aa<|Gm A _ E _ (λ_ _ e=>e)<|ag ?_;dsimp only;rw[eC];refine aa<|aa<|r0 A _ E _ (λ_ _ e=>e) ?_;skip;exact ag<|ag<|ag q
theorem xz{W:Wd}(b:W.K.In h):cU M h (Bind.madeHere "tuple.__new__"<|.ref 135) ():=by intro A Q E s k q;haveI a:=b.keeps k;skip;refine aa<|sZ a A _ E _ (λ_ _ e=>e) ?_;refine aa<|r0 A _ E _ (λ_ _ e=>e) ?_;rw[if_neg<|by simp];exact ag q
theorem qI{W:Wd}(a:W.K.In h):cU M h (jl (.ref 135)<|.type "tuple") true:=il a<|by kernel_rfl
theorem r4{W:Wd}(a:W.K.In h):cU M h (ds (.ref 135) "__init__")<|ae<|.builtin "object.__init__":=dQ a<|by kernel_rfl
end
theorem RU:i4 "tuple.__new__"=ae .builtinFn:=by decide+kernel
theorem NA:LJ "tuple.__new__"=ae ("tuple","__new__"):=by decide+kernel
section
theorem Bo{W:Wd}{l:kZ}{Ty:String}(D:W.K.In h)(s:Ty="list"\/Ty="tuple")(w:h.get? t=ae o)(u:o.cls=.type Ty)(v:o.data=.seq a n)(hsz:a.size<=aA) (x:∀(c:lm) (p:cj),(∀(b:cj) (f:uJ),h.get? b=ae f->c.get? b=ae f)->Q (.ref c.objs.size) ⟨c.push {cls:=.ref 135,dict:=ae p,data:=.seq a},g,d,B,l⟩):aD W.M A (call (.builtin "tuple.__new__") [.ref 135,.ref t]) Q E ⟨h,g,d,B,l⟩:=by
 haveI r:h.get? 135=ae Bm:=D _ _<|Bn W;skip;refine df<|FP (kA _<|by decide+kernel) ?_;unfold eV;rw[RU,NA];dsimp only;haveI j:=xz (M:=W.M) D;haveI m:=sZ (M:=W.M) D;haveI C:=r0 (h:=h) (M:=W.M);haveI z:=qI (M:=W.M) D;haveI y:=r4 (M:=W.M) D;repeat (first|(with_reducible refine bI ?_ ?_;first|rfl|(simp;done))|(with_reducible refine dw ?_ ?_;first|rfl|(simp;done))|lk)
 refine h9 PySem.F.entry_tuple_new ?_;skip;unfold dF.«tuple.__new__»;repeat (first|(with_reducible refine VM (hsz:=hsz) t s w u v ?_)|(with_reducible refine bI ?_ ?_;first|rfl|(simp;done))|(with_reducible refine dw ?_ ?_;first|rfl|(simp;done))|lk)
 intro c k;refine aa<|ag<|aa<|AN<|aa ?_;haveI i:((c.push cO).push {cls:=.ref 135,dict:=ae c.objs.size,data:=.seq a}).get? 135=ae Bm:=aN _<|aN _<|k _ _ r;unfold newObj;dsimp only;haveI q:a.toList.toArray=a:=by rfl
 rw[q,if_neg<|fY hsz];skip;refine aa<|AN<|aa ?_;skip;refine aa<|i_ i ?_;refine ag ?_;skip;refine ag<|ag ?_;haveI:=x (c.push cO) c.objs.size λb f e=>aN _<|k b f e;exact this
end
section
theorem xA{W:Wd}{Ty:String}(j:W.K.In s.heap)(g:fA (.type Ty)=bB (.type "type"))(hs:HI Ty=false) (e:findCls W.K (.type Ty) (.type "type") name=ae (.val v))(f:QD v=aj)(h:Q (v,[]) {s with toks:=s.toks+1}):aD W.M A (h8 (.type Ty) name i) Q E s:=by
 haveI b:cU W.M s.heap (fA<|.type Ty)<|.type "type":=nX g;haveI a:qy (.type Ty)=bB none:=by unfold qy;dsimp only;rw[hs];rfl
 haveI d:cU W.M s.heap (qy<|.type Ty) none:=nX a;haveI c:mU W.K (.type "type") "__getattribute__"=ae (ae<|.builtin "type.__getattribute__"):=by kernel_rfl
 skip;refine aa<|aa<|b.here<|(dQ j c).here ?_;dsimp only;rw[if_pos canon_tga];refine aa<|aC ?_ (λ_ _=>ag) λ_ _ z=>z;exact cls_open j d b c (looks_hook j<|by rfl) (by show subIn W.K _ _=_;rfl) e<|ag<|Jx f h
noncomputable abbrev T.mt(i j k:Int):T:=.seq (.ref 135) [.int i,.int j,.int k]
theorem RV(W:Wd):findCls W.K (.type "tuple") (.type "type") "__new__"=ae (.val<|.builtin "tuple.__new__"):=by kernel_rfl
theorem Gn:HI "tuple"=false:=by decide+kernel
theorem J3:QD (.builtin "tuple.__new__")=true:=by decide+kernel
theorem y':fA (.type "tuple")=bB (.type "type"):=by kernel_rfl
theorem Ev.Dv(ho:Ev C Γ Ω o<|.val<|.type "tuple")(h:oD C Γ Ω i [.val<|.ref 135,.seq c ts])(hc:c=.type "list"\/c=.type "tuple")(hl:ts.length<=aA) (hp:autoParam (∀env,(bb pos<|aw i env).any (·.1)=false) eX) (he:autoParam (∀env,eval (.Call (.Attribute o "__new__" p) i [] pos) env=(do
   let ov<-eval o env
   fy p.atName
   let(f,w)<-gy [ov] (h8 ov "__new__"<|do return (<-jU o env).getD aj)
   bS pos f w (bb pos<|aw i env) (bK pos<|aX [] env))) eX):Ev C Γ Ω (.Call (.Attribute o "__new__" p) i [] pos)<|.seq (.ref 135) ts:=λA G s ok I S=>by
 refine kX ?_<|he _;refine Run.use (ho A G s ok I S) λv u x l y F=>?_;cases F
 refine xA (Ty:="tuple") l.k y' Gn ?_ J3 ?_;.exact RV _
 haveI m:=y.trans<|.bL (s':={u with toks:=u.toks+1}) rfl;refine gG (.builtin _) l.k ?_<|hp _;refine Run.use (h A x _ pos ok (l.bL rfl rfl rfl)<|S.mono m) λR L j b z H=>⟨b.k,?_⟩;cases H using aG.ca with|cons a1 r=>
  cases r using aG.ca with|cons a2 r=>
   cases r
   cases a1
   cases a2 using Tr.rQ with|@seq t o' R n g D _ hd tv=>
    obtain⟨hh,N,d,Q,P⟩:=L;haveI e:=tv.length;skip;haveI B:∀Ty,(Ty="list"\/Ty="tuple")->o'.cls=.type Ty->aD C.W.M A (er (nY "tuple.__new__")<|[]++[ef 135,ef t]) (ua C.W G s<|KT<|.seq (.ref 135) ts) (λ_ _=>False) ⟨hh,N,d,Q,P⟩:=λTy hT E=>by refine Bo b.k hT (b.hM _ _ g) E hd (AY hl e) λh' dd hk=>?_;haveI X3:Ext j ⟨hh,N,d,Q,P⟩ j ⟨h',N,d,Q,P⟩:=⟨hk,λ_ _ e=>e,λ_ _=>.inl⟩;have I3:Inv C.W j ⟨h',N,d,Q,P⟩:=⟨λa o e=>hk a o<|b.hM a o e,b.hb,b.bare,b.os⟩;haveI I4:=I3.push {cls:=.ref 135,dict:=ae dd,data:=.seq R} rfl;haveI X4:=Ext.push I3 {cls:=.ref 135,dict:=ae dd,data:=.seq R};exact⟨_,I4,((m.trans z).trans X3).trans X4,.seq (Gh.fD _ _ _) rfl (λq=>by cases q) rfl<|tv.mono X4.sub⟩
    rcases hc with rfl|rfl;.exact B "list" (.inl rfl) D
    .exact B "tuple" (.inr rfl) D
end
noncomputable abbrev ad5:FuncData:=jG (g8 PP 3 4) "Match.__new__" [] .none .none (mH (g8 PP 3 4) 283) (.str "cpy313.difflib" 194) ah (.ref 81) .none
theorem RW(W):gH W 82 ad5 (dA<|g8 PP 3 4) ["_cls","a","b","size"]:=.plain
theorem J4:gW W (.ref 82) [.val<|.ref 135,.int i,.int j,.int k] 1 []<|T.mt i j k:=by
 refine gW.of (RW W) ["_cls","a","b","size"] [] [("_cls",ae (.val<|.ref 135)),("a",ae (.int i)),("b",ae (.int j)),("size",ae (.int k))] (λe f=>?_) rfl λL I _=>?_
 .refine Rh f λa b c d=>?_;kernel_rfl
 refine .ph .str<|.ret (.Dv (.builtin (xq W) xr xt) (.cons .n0<|.cons (.tuple (.cons .n1<|.cons (.g 2)<|.cons (.g 3) .nil)<|dN tt) .nil) (.inr rfl)<|dN tt) rfl
section
theorem vQ{W:Wd}{s:bk}(a:W.K.In s.heap):cU W.M s.heap (jm (.ref 135) "__call__")<|ae<|.builtin "type.__call__":=YR a<|by kernel_rfl
theorem J5{W:Wd}{s:bk}(a:W.K.In s.heap):cU W.M s.heap (fB (.ref 135)<|.type "type") true:=ahT a<|by kernel_rfl
theorem RX{W:Wd}{c:kZ}(i:W.K.In h)(q:Q (.ref 82) ⟨h,g,d,e+1,c⟩):aD W.M A (l_ (.ref 135) "__new__" b) Q E ⟨h,g,d,e,c⟩:=by
 refine cls_bind (mc:=.type "type") (a:=.ref 136) (obj:=.none) (tp:=.ref 135) i (by kernel_rfl) (by kernel_rfl)<|df<|sm_get (f:=.ref 82) (rest:=[]) i (by kernel_rfl) ?_;exact Jx rfl q
theorem NB(a b c d):jV "object.__init__" ⟨[a,b,c,d],[]⟩:=by unfold jV;kernel_rfl
theorem NC{W:Wd}{l:kZ}(t:W.K.In h)(m:h.get? a=ae o)(f:o.cls=.ref 135)(q:Q .none ⟨h,g,d,p,l⟩):aD W.M A (er (.builtin "object.__init__")<|[.ref a]++[b,c,e]) Q E ⟨h,g,d,p,l⟩:=by
 have r:cU W.M h (fA<|.ref a)<|.ref 135:=f▸(jW (part:=ah) m).andThen .now;haveI k:cU W.M h (jl (.ref 135)<|.type "object") true:=il t<|by kernel_rfl
 haveI j:cU W.M h (fB (.ref a)<|.type "object") true:=r.andThen k;haveI s:=rZ (M:=W.M) t;haveI n:=r4 (M:=W.M) t;refine df<|cz oi_plain entry_oi<|i' (i:="object.__init__") oi_kind oi_split j (NB _ _ _ _) ?_;skip;repeat (first|(with_reducible refine bI ?_ ?_;first|rfl|(simp;done))|(with_reducible refine dw ?_ ?_;first|rfl|(simp;done))|lk)
 exact q
theorem ŝ(h:aG G g [a,b,c]):∃d e f,g=[d,e,f]:=by cases h using aG.ca with|cons i r=>cases r using aG.ca with|cons j r=>cases r using aG.ca with|cons k r=>cases r;exact Re _ _ _ rfl
theorem Go:gW W (.ref 135) [.int i,.int j,.int k] 3 []<|T.mt i j k:=λA G s l D I z hO=>by
 refine Rd (ŝ z) λv1 v2 v3 q0=>?_;subst q0;obtain⟨h,g,d,r,q⟩:=s;generalize B:[v1,v2,v3]=l at z;haveI hC:h.get? 135=ae Bm:=I.k _ _<|Bn W;have X:=I.k;haveI c:=vQ X;haveI t:=J5 X;haveI C:=uk (M:=W.M) X;haveI md:=rZ (M:=W.M) X;dsimp only at c t C md;refine df<|h6 ?_;skip;refine ZA hC ?_;skip;show aD _ _ (FQ (.ref 135) _) _ _ _;skip;refine aa<|c.at ?_;dsimp only;skip;refine aa<|ag<|aa<|ag ?_;refine ag (a:=afd<|.call (.builtin "type.__call__") ⟨.ref 135::l,[]⟩)<|And.intro rfl ?_;refine Jy (kA _<|by decide+kernel) aeX ?_;with_reducible refine i' tc_kind tc_split t (tc_args _ _ _) ?_
 skip;have F:Ok (A.under<|.builtin "type.__call__" ⟨.ref 135::l,[]⟩) 1:=⟨D.hd,by haveI:=D.depth;show A.depth+1+1<=900;exact(aF this),by haveI:=D.units;haveI:=rY A 135 l;exact Ú (by assumption) this⟩;haveI R:Ext G ⟨h,g,d,r,q⟩ G ⟨h,g,d,r+1,q⟩:=.bL rfl;haveI N:Inv W G ⟨h,g,d,r+1,q⟩:=I.bL rfl rfl rfl;have nc:∀{Q:aW->bk->Prop} {E:aW->bk->Prop},(∀v e f,Inv W e f->Ext G ⟨h,g,d,r+1,q⟩ e f->Tr e v (T.mt i j k)->Q v f)->aD W.M (A.under<|.builtin "type.__call__" ⟨.ref 135::l,[]⟩) (er (.ref 82)<|.ref 135::l) Q E ⟨h,g,d,r+1,q⟩:=λ{Q E} hq=>Run.use (J4 _ G _ _ F N (.cons (.val _) z)<|.nil _ _) λv f e a b=>hq v e f a b;repeat (first|(with_reducible refine RX X ?_)|(with_reducible refine nc ?_)|(with_reducible refine bI ?_ ?_;first|rfl|(simp;done))|(with_reducible refine dw ?_ ?_;first|rfl|(simp;done))|lk)
 intro v e f u P H;haveI y:=H;cases H using Tr.rQ with|@seq a o us n S m _ hd tv=>
  obtain⟨p,g',d',a2,a1⟩:=f;haveI x:=u.hM _ _ S;dsimp only at x;have w:=u.k;haveI ty:cU W.M p (fA<|.ref a)<|.ref 135:=m▸(jW x).andThen .now;haveI L:cU W.M p (jl (.ref 135)<|.ref 135) true:=il w<|by kernel_rfl
  haveI a0:=r4 (M:=W.M) w;subst B;unfold fB LK jm;repeat (first|(with_reducible refine NC w x m ?_)|(with_reducible refine bI ?_ ?_;first|rfl|(simp;done))|(with_reducible refine dw ?_ ?_;first|rfl|(simp;done))|lk)
  exact⟨e,u,R.trans P,y⟩
end
section
theorem nE{W:Wd}(a:W.K.In h):cU W.M h (ds (.ref 135) "__iter__")<|ae<|.builtin "tuple.__iter__":=dQ a<|by kernel_rfl
theorem RY{W:Wd}{c:kZ}(z:W.K.In h)(w:h.get? t=ae o)(u:o.cls=.ref 135)(k:Q (.ref h.objs.size) ⟨h.push {cls:=.type "tuple_iterator",data:=.fields #[.ref t,.int 0 0]},g,d,j,c⟩):aD W.M A (rn<|.ref t) Q E ⟨h,g,d,j,c⟩:=by
 have s:cU W.M h (fA<|.ref t)<|.ref 135:=u▸(jW (part:=ah) w).andThen .now;haveI p:=qI (M:=W.M) z;haveI l:cU W.M h (fB (.ref t)<|.type "tuple") true:=s.andThen p;haveI e:=nE z;have r:cU W.M h (jm (.ref t) "__iter__")<|ae<|.builtin "tuple.__iter__":=s.andThen e;haveI y:=PyProof.Rows.slot_tuple_iter.bind<|.ref t;have m:∀{Q:aW->bk->Prop} {E:aW->bk->Prop},Q (.ref h.objs.size) ⟨h.push {cls:=.type "tuple_iterator",data:=.fields #[.ref t,.int 0 0]},g,d,j,c⟩->aD W.M A (er (.builtin "tuple.__iter__")<|[.ref t]++[]) Q E ⟨h,g,d,j,c⟩:=λ{Q E} k=>by
  refine df<|cz PyProof.Rows.slot_tuple_iter.plain YS<|i' (i:="tuple.__iter__") (n:="__iter__") (rest:=[]) (by decide+kernel) (by decide+kernel) l (YT _) ?_;show aD _ _ (do QB (<-Jz "tuple_iterator" [.ref t,LL 0])) _ _ _;exact aa<|dH<|ag k
 skip;refine aa<|r.at ?_;skip;skip;haveI b:aD W.M A (er (.builtin "tuple.__iter__") [.ref t]) (λv x=>aD W.M A (bB<|ae v) (λa=>aD W.M A (match a with
    |some e=>do
     let f<-jm e "__next__"
     match f with
      |none=>do
       rule "iter.non-iterator"
       tG "TypeError" (kY "iter() returned non-iterator of type '"++kY (<-oA e)++kY "'")
      |some q=>bB e
    |none=>do
     let f<-Q4 (ef t) (bo "__getitem__")
     match f with
      |none=>do
       rule "iter.not-iterable"
       tG "TypeError" (kY "'"++kY (<-oA (ef t))++kY "' object is not iterable")
      |some q=>do
       rule "iter.getitem-fallback"
       Jz "iterator" [ef t,<-mkInt 0]) Q E) E x) E ⟨h,g,d,j,c⟩:=by refine m<|ag ?_;haveI T:QJ ⟨h.push {cls:=.type "tuple_iterator",data:=.fields #[.ref t,.int 0 0]},g,d,j,c⟩ (.ref h.objs.size) "tuple_iterator":=⟨_,aS _ rfl,rfl⟩;exact aa<|cP T fk.lookup<|ag k
 refine aa<|aQ<|aa ?_;skip;refine aa<|r.at ?_;refine aa<|mS<|Jv ?_;split;.refine aa ?_;skip;refine ag<|ag ?_;exact aa b
 .refine tH<|aa ?_;skip;refine ag<|ag ?_;exact aa b
end
noncomputable def pY(h:lm)(t:cj)(a:Array aW):Prop:=∃b n,h.get? t=ae b/\b.data=.seq a n
section
theorem pY.at(x:pY h t c)(k:∀o,h.get? t=ae o->d.get? t=ae o):pY d t c:=j7 x λe n a b=>rP e n (k _ a) b
theorem ND(a:zC s.heap e t i)(l:pY s.heap t b)(m:b[i]?=ae x) (j:∀f,zC f e t (i+1)->iO e s.heap f->Q (ae x) {s with heap:=f}):aD (dL prog w) A (l8<|.ref e) Q E s:=by
 refine ix (id a) λo d k c=>j7 l λp n h g=>?_;skip;refine aa<|iD<|eE a.typeIs fk (ec fk a.typeIs pC ?_<|pF _);show aD _ _ (field (.ref e) 0>>=_) _ _ s;refine aa<|cR d c (x:=.ref t) rfl ?_;show aD _ _ (if(ef t==eN)=aj then _ else _) _ _ s;skip;skip;refine aa<|cR d c (x:=.int i 0) rfl ?_;skip;refine aa<|dX h g ?_;simp only [cC,m];refine aa<|tJ d c (by simp)<|ag ⟨x,rfl,ag<|j _ ?_<|cW ..⟩;exact⟨_,cK _ d<|FR<|nt c _,(Mc ..).trans k,by rw[nt c];simp[LL]⟩
theorem RZ(k:A.handled=ah)(b:zC s.heap h t i)(m:pY s.heap t c)(n:c[i]?=ah) (l:∀j,wc h s.heap j->Q ah {s with heap:=j}):aD (dL prog w) A (l8<|.ref h) Q E s:=by
 refine ix (id b) λo f p d=>j7 m λr q g e=>?_;skip;refine aa<|iD<|eE b.typeIs fk (ec fk b.typeIs pC ?_<|pF _);show aD _ _ (field (.ref h) 0>>=_) _ _ s;refine aa<|cR f d (x:=.ref t) rfl ?_;show aD _ _ (if(ef t==eN)=aj then _ else _) _ _ s;skip;skip;refine aa<|cR f d (x:=.int i 0) rfl ?_;skip;refine aa<|dX g e ?_;simp only [cC,n];refine aa<|iB<|aa<|tJ f d (by simp) ?_;skip;refine aa ?_;skip;refine aa<|dH ?_<|by size_fits
 refine aa<|bP (a:=eN) (by first|rfl|(simp only [aeY];rfl)) ?_;refine dH ?_<|by size_fits
 skip;refine aa<|afe ?_;first|rw[show A.in1.handled=ah from k]|rw[k]
 refine aa<|ag<|Ē ?_;refine aa<|eW ⟨_,aS _ rfl,rfl⟩ aeZ ?_;exact ag<|l _<|((cW ..).extBut.push _).push _
theorem NE(m:t≠k)(n i s Q)(f:zC s.heap k t i)(q:pY s.heap t b)(g:i+n<=b.size) (p:∀l,zC l k t (i+n)->iO k s.heap l->Q ((b.toList.drop i).take n) {s with heap:=l}):aD (dL prog w) A (draw (.ref k) n) Q E s:=by induction n generalizing i s Q with|zero=>exact ag<|p s.heap f<|YU ..|succ n u=>have h:=Û g;refine aa<|ND f q (jy h) λr c a=>aa<|aQ<|u (i+1) _ _ c (q.at λo=>a.extBut t o m) (Ü g) λj d e=>ag ?_;haveI:=p j (hW i n▸d)<|a.trans e;rw[jC h,rN] at this;exact this
end
section
theorem J6{W:Wd}(y:A.handled=ah)(F:W.K.In s.heap)(m:s.heap.get? t=ae o)(u:o.cls=.ref 135)(x:o.data=.seq a n) (w:∀q,wc s.heap.objs.size s.heap q->Q a.toList {s with heap:=q}):aD W.M A (unpackItems (.ref t) a.size ah) Q E s:=by
 obtain⟨p,g,d,D,C⟩:=s;haveI k:t≠p.objs.size:=bJ<|db m;haveI B:cU W.M p (fA<|.ref t)<|.ref 135:=u▸(jW (part:=ah) m).andThen .now;haveI z:cU W.M p (jm (.ref t) "__iter__")<|ae<|.builtin "tuple.__iter__":=B.andThen<|nE F;skip;refine aa ?_;skip;refine aa<|z.at ?_;refine ag ?_;skip;refine aa<|aQ<|RY F m u ?_;have h:pY (p.push {cls:=.type "tuple_iterator",data:=.fields #[.ref t,.int 0 0]}) t a:=rP o n (aN _ m) x;refine aa<|aQ<|NE k a.size 0 _ _ ⟨_,aS _ rfl,rfl,rfl⟩ h Ý λv f c=>?_;haveI j:List.take a.size (List.drop 0 a.toList)=a.toList:=by rw[gQ];exact gz<|by simp
 rw[j,if_neg<|by simp];refine aa<|aQ<|RZ y f (h.at λo=>c.extBut t o k) (by simp) λl i=>?_;skip;exact ag<|w l λb o r e=>i b o r<|c.extBut b o r<|aN _ e
theorem R0(r:A.handled=ah)(b:sK C u f [.int i,.int j,.int l] Γ')(S:St C u Ω G s)(I:Inv C.W G s)(h:Tr G v<|T.mt i j l) (q:∀s',St C Γ' Ω G s'->Inv C.W G s'->Q () s'):aD C.W.M A (tC (.Tuple f k pos) C.env v) Q (λ_ _=>False) s:=by cases h using Tr.rQ with|@seq a o w n g c _ p d=>haveI e:=d.length;skip;skip;refine aa<|cF ?_;unfold unpack;rw[b.len.1,b.len.2,<-e];refine aa<|aQ<|J6 r I.k (I.hM _ _ g) c p λm t=>?_;have x:Ext G s G {s with heap:=m}:=⟨λa o e=>t a o (bJ<|db e) e,λ_ _ e=>e,λ_ _=>.inl⟩;exact b.run (S.mono x) ⟨λa o e=>x.heap a o<|I.hM a o e,I.hb,I.bare,I.os⟩ d q
end
end
section
open PySem renaming wpAny_is_plain->ae0
open PySem PySem.W PySem.Calls PyProof.Rows PySem.SeqAt
noncomputable def lD(C:Cx)(c:cG)(Ω:bM)(e:gw)(t:T)(Γ':cG)(bT:bM):Prop:=∀A G s v (Q),Ok A C.n->St C c Ω G s->Inv C.W G s->Tr G v t->(∀a b,St C Γ' bT a b->Inv C.W a b->Sub G a->Q () b)->aD C.W.M A (tC e C.env v) Q (λ_ _=>False) s
section
theorem w7.mt(b:sK C d a [.int i,.int j,.int l] Γ'):w7 C d (.Tuple a k pos) (T.mt i j l) Γ':=λA G s v e Q c S I h=>R0 c b S I h
theorem lD.bnd(b:w7 C g e t Γ'):lD C g Ω e t Γ' Ω:=λA G s v Q d S I h q=>b A G s v Ω Q d.hd S I h λf c a=>q G f c a<|.refl G
theorem lD.name(b:x∈C.dY)(a:oC c x t Γ'):lD C c Ω (.Name x p) t Γ' Ω:=.bnd<|.of<|.name b a
theorem lD.attr{name:bC}{e:cj}(n:Ev C g Ω o t)(l:fs Ω t x e k)(p:eL Ω k (.dict kvs) (.dict<|ee name u kvs) bT) (hz:autoParam (kvs.length<=900) adc)(m:autoParam (setOk C.W.K e name=aj) jX):lD C g Ω (.Attribute o name pos) u g bT:=λA G s v Q r S I h q=>by skip;refine aa<|aQ<|Run.use (n A G s r I S) λy f b c a d=>?_;refine aa<|cF<|aa<|aQ ?_;exact pR c (S.mono a) l d p (h.mono a.sub) hz m λw i j=>aff<|q b w j i a.sub
theorem bZ.assign2(h:jb C M Ω e Q)(k:∀t b,Q t b->∃d f a c,lD C M b g t d f/\lD C d f i t a c/\bZ C a c rest P) (W:autoParam ((ow [g,i] C.env).map (·.2)=[jw g C.env,jw i C.env]) iF)(hw:autoParam (m4 [g,i] e C.env=bB ce) iF):bZ C M Ω (.Assign [g,i] e pos::rest) P:=.step λA G s F I S=>by refine wpAny_Assign_two (aC (h A G s F I S) (λv D zz=>zz.casesOn λn t b q r x l H=>?_) λ_ _ z=>z) W hw;refine Y9 (k t b q) λd f a c N R kk=>N A n D v _ F x r H λo E y u j=>R A o E v _ F y u (H.mono j) λp L B w m=>⟨rfl,a,c,p,w,B,(l.trans j).trans m,kk⟩
theorem bZ.R1(h:jb C Γ Ω e Q)(k:∀t b,Q t b->∃d g f i a c,lD C Γ b j t d g/\lD C d g l t f i/\lD C f i m t a c/\bZ C a c rest P) (he:autoParam ((ow [j,l,m] C.env).map (·.2)=[jw j C.env,jw l C.env,jw m C.env]) iF)(hw:autoParam (m4 [j,l,m] e C.env=bB ce) iF):bZ C Γ Ω (.Assign [j,l,m] e pos::rest) P:=.step λA G s ok I S=>by refine wpAny_Assign_three (aC (h A G s ok I S) (λv R zz=>zz.casesOn λu t b q B H p ht=>?_) λ_ _ z=>z) he hw;refine V0 (k t b q) λd g f i a c a1 a2 a3 kk=>a1 A u R v _ ok H B ht λw W L D n=>a2 A w W v _ ok L D (ht.mono n) λx a0 M E o=>a3 A x a0 v _ ok M E ((ht.mono n).mono o) λy a4 N F r=>⟨rfl,a,c,y,F,N,((p.trans n).trans o).trans r,kk⟩
theorem fe.isNone(h:∀G v,Tr G v a->v=.none\/∃r,v=.ref r)(b)(d:∀G v,Tr G v a->(v==eN)=b):fe .Is a .none b:=λW A G s v u f I c e=>by
 cases e
 refine ae0 ?_ ?_;.rcases h G v c with rfl|⟨r,rfl⟩<;>rfl
 .rw[d G v c];exact⟨G,I,.refl G s,rfl⟩
theorem fe.isNotNone(h:∀G v,Tr G v a->v=.none\/∃r,v=.ref r)(b)(d:∀G v,Tr G v a->(v==eN)=b):fe .IsNot a .none<|!b:=λW A G s v u f I c e=>by
 cases e
 refine wpAny_isNot_plain ?_ ?_;.rcases h G v c with rfl|⟨r,rfl⟩<;>rfl
 .rw[d G v c];exact⟨G,I,.refl G s,rfl⟩
theorem Dw:∀(G) v,Tr G v .none->v=.none\/∃r,v=.ref r:=λG v h=>by cases h;exact .inl rfl
theorem Ik:∀(G) v,Tr G v (.seq c ts)->v=.none\/∃r,v=.ref r:=λG v h=>by cases h;exact .inr ⟨_,rfl⟩
theorem Dx:∀(G) v,Tr G v .none->(v==eN)=true:=λG v h=>by cases h;rfl
theorem Il:∀(G) v,Tr G v (.seq c ts)->(v==eN)=false:=λG v h=>by cases h;rfl
theorem fe.xB:fe .Is (.int i) .none false:=λW A G s v u c I b a=>by
 cases b;cases a
 exact ae0 rfl ⟨G,I,.refl G s,rfl⟩
theorem fe.Gp:fe .Is (.seq c ts) .none false:=fe.isNone Ik _ Il
theorem fe.Dy:fe .Is .none .none true:=fe.isNone Dw _ Dx
theorem fe.rF:fe .IsNot (.seq c ts) .none true:=fe.isNotNone Ik _ Il
theorem fe.pZ:fe .IsNot .none .none false:=fe.isNotNone Dw _ Dx
theorem w8.list(h:jb C M Ω e Q)(t:U9 c)(y:∀u b,Q u b->∃ts,u=.list ts):w8 C M Ω e c λts b=>Q (.list ts) b:=λA G s D I S=>by refine aC (h A G s D I S) (λv i L=>L.casesOn λd u b q f l j p=>?_) λ_ _ z=>z;refine cc (y u b q) λts E=>?_;subst E;refine vH (p.listOf f) λa o n N F g B w x H=>?_;subst F;refine yy ⟨o,B,w,n,x⟩<|(zW t f (Ext.refl d i) g w x H).rec λk P r m=>⟨d,i,k,P,r,ts,b,q,l,j,m⟩
end
end
section
open PySem renaming leftWithCleanup_false_of_bare->AP,outcomeOf->JA,classAt->VN
open PySem.ExcName renaming means->Md
open PySem.Sem renaming wp_mono->rv
open PySem.W renaming layAllW_rest->ahU,namesKept_of->ahV
open PySem.W.WData renaming layableAll->LM
open PySem PySem.W PySem.Calls PyProof.Rows
noncomputable def iT:Code->Bool|.builtin a _=>!(PySem.Builtin.Bytes.decodersThatHold.contains a||guardIds.contains a)|_=>aj
noncomputable def xC(l:List<|Code×Pos):Prop:=∀x∈l,iT x.1=aj
noncomputable def jH(M:Model)(A:mP)(t:Js α)(Q:α->bk->Prop)(E:aW->bk->Prop)(s:bk):Prop:=∀b p,b.In A->iT b.code=aj->xC b.below->Sem.wp M b t (λa _ c=>Q a c) (λe _ c=>E e c) p s
noncomputable def mC(M:Model)(A:mP)(c:Code)(R:LF->bk->Prop)(s:bk):Prop:=∀a p,a.code=c->a.Below A->xC a.below->wpCode M a R p s
section
theorem jH.of(h:aD M A t Q E s):jH M A t Q E s:=λa p i _ _=>h a p i
theorem kO(h:Q a s):jH M A (bB a) Q E s:=λ_ _ _ _ _=>h
theorem fF(h:jH M A t Q E s)(k:∀a s,Q a s->g a s)(j:∀e s,E e s->f e s):jH M A t g f s:=λd p i c b=>rv M d t (λa _=>k a) (λe _=>j e) p s<|h d p i c b
theorem fQ{f:α->Js j}(h:jH M A m (λa s'=>jH M A (f a) Q E s') E s):jH M A (m>>=f) Q E s:=λe p i c b=>by rw[Sem.wp_bind'];exact rv M e m (λa g s' d=>d e g i c b) (λ_ _ _ d=>d) p s<|h e p i c b
theorem dO{f:α->Js b}(h:aD M A m (λa s'=>jH M A (f a) Q E s') E s):jH M A (m>>=f) Q E s:=fQ<|.of h
theorem og[Decidable c](h:¬c)(k:jH M A b Q E s):jH M A (if c then a else b) Q E s:=(congrArg (λm=>jH M A m Q E s)<|if_neg h).mpr k
theorem ko{f:α->Js b}(e:m=bB a)(k:jH M A (f a) Q E s):jH M A (m>>=f) Q E s:=fQ<|(congrArg (λm=>jH M A m (λa=>jH M A (f a) Q E) E s) e).mpr<|kO k
theorem p7(h:jH M A m Q E s):jH M A (gy d m) Q E s:=λa p i c b=>by rw[Sem.wp_holding];exact h a p i c b
theorem Dz(h:jH M A m Q (λe s'=>aD M A (k e) (λ_ d=>E e d) E s') s):jH M A (m.onRaise k) Q E s:=λf p i c b=>by rw[Sem.wp_onRaise];exact rv M f m (λ_ _ _ a=>a) (λe g s' a=>a f g i) p s<|h f p i c b
theorem J7(h:∀st:List<|Code×Pos,xC st->(∀g,A.guards=ae g->guardsOf st=g)->Q st s):jH M A stack Q E s:=λd p i c b=>by
 skip;refine h _ (λx m=>?_) λg a=>by rw[guardsOf_cons];exact i.2.2.2.1 g a
 refine eQ m ?_ λm=>?_;.exact c
 .exact b x m
theorem r5(h:mC M A c R s)(e:∀r s,R r s->d r s):mC M A c d s:=λg p f a b=>wpCode_mono e<|h g p f a b
theorem DA{a:Ctx}(k:iT a.code=aj)(b:xC a.below):xC (a.enter c h p).below:=λx m=>by
 refine eQ m ?_ λm=>?_;.exact k
 .exact b x m
theorem Bp(a:mC M A c (λr s'=>match r with|.ok (.ret v)=>Q v s'|.ok _=>False|.error e=>E e s') s):jH M A (runValue c) Q E s:=λd p i k b=>by rw[Sem.wp_runValue];exact a _ p rfl (i.enter c ah p<|by intro x;cases x)<|DA k b
theorem s0(a:mC M A (.call f ⟨pos,b⟩) (λr s'=>match r with|.ok (.ret v)=>Q v s'|.ok _=>False|.error e=>E e s') s):jH M A (call f pos b) Q E s:=Bp a
theorem jL(k:iT c=aj) (h:jH M (A.under c) (M.den c) (λa s'=>match a with|.done f=>R (.ok f) s'|.again d=>d.quiet=aj/\mC M A d R s') (λe s'=>R (.error e) s') s):mC M A c R s:=λl p j i b=>by rw[wpCode_iff_wp,j];refine rv M l _ (λa m s' g=>?_) (λ_ _ _ g=>g) p s<|h l p (j▸i.in) (by rw[j];exact k) b;cases a with|done f=>exact g|again d=>exact⟨g.1,g.2 (l.goto d) m rfl (i.goto d) b⟩
end
section
theorem xD(h:jH (dL prog w) (A.deeper env) (vA a env) (λf s'=>R (.ok<|.ret<|match f with|.ret v=>v|_=>.none) s') (λe s'=>aD (dL prog w) (A.deeper env) (leaving env e) (λ_ b=>R (.error e) b) (λd b=>R (.error d) b) s') s):mC (dL prog w) A (.func a env) R s:=by
 refine jL rfl ?_;show jH _ (A.deeper env) (do point;match<-(vA a env).onRaise (leaving env) with|.ret v=>QB v|_=>QB .none) _ _ s;refine dO<|AO<|fQ<|Dz<|fF h (λf s' c=>?_) λ_ _ c=>c;cases f<;>exact kO c
theorem re(k:A.depth<Fn)(y:s.heap.get? a=ae o) (t:o.data=.func b)(r:b.scope.isCoroutine=false)(m:b.scope.isGenerator=false)(j:b.body=.stmts l)(q:s.heap.CodeRec b.code b.qualname) (h:aD (dL prog w) A.in1 (FC b f) (λbinds i=>aD (dL prog w) A.in1 (oy b.scope b.globals b.closure binds (b.qualname++".<locals>.") (ae a) b.code ah b.builtins) (λenv d=>d.heap.NoLimit/\mC (dL prog w) A (.func l env) R d) (λe s'=>R (.error e) s') i) (λe s'=>R (.error e) s') s):mC (dL prog w) A (.call (.ref a) f) R s:=by
 refine jL rfl<|.of ?_;show aD _ A.in1 (callAny (.ref a) f) _ _ s;skip;refine aa<|i_ y ?_;refine Mr q λc B D C x v u z=>?_;rw[t];show aD _ A.in1 (callFunction a b f) _ _ s;unfold callFunction;rw[r,m,j,x];rw[x] at h;refine aa<|cR v u z<|aa<|ag ?_;exact aa<|aC h (λbinds i n=>aa<|aC n (λenv d g=>aa<|wpAny_enterFrame g.1 k (ag<|And.intro rfl g.2)) λ_ _ p=>p) λ_ _ p=>p
end
theorem Bq{R:LF->bk->Prop}(c:s.asleep)(k:∀r s',R r s'->tP s'.gens) (h:jH (dL prog w) tZ t (λb s'=>∃f,b=.done f/\R (.ok f) s') (λe s'=>R (.error e) s') s):∃n r s' d,runN (denote mF) prog w n s ⟨t,.builtin "claim.caller" {},rl,[]⟩=.halted (JA r) s'/\schedN (denote mF) prog w n (.single s ⟨t,.builtin "claim.caller" {},rl,[]⟩)=.halted (JA r) s'/\s'.forget=d.forget/\R r d:=Mr (wp_halts_full c<|rv _ _ t (λb q s' a=>a.elim λf a=>a.1▸⟨a.2,AP<|k _ _ a.2⟩) (λ_ _ s' a=>⟨a,AP<|k _ s' a⟩) rl s<|h _ rl caller_in (dD tt) λx m=>absurd m b_) λn r g i p o j l=>⟨n,r,i,g,o,p,j,l⟩
theorem s3{c:ClaimW}{n:List aW->Js PySem.Fin}(hz:s.asleep)(p:s.gens=#[]) (t:∀a,c.pre a=aj->LM a=aj->∀j:List qv->List qv,(∀l,(j l).Perm l)->∃m d,layAllW c.records (VN s.heap) w.params j a s=ae (m,d)/\jH (dL c.prog w) tZ (n m) (λE s'=>∃f,E=.done f/\(c.Ends s a m d (.ok f) s'/\s'.os=s.os/\tP s'.gens/\g s'.heap)) (λe s'=>c.Ends s a m d (.error e) s'/\s'.os=s.os/\tP s'.gens/\g s'.heap) d):c.CallFrom (λm=>⟨n m,.builtin "claim.caller" {},rl,[]⟩) w F G g s:=λa C A j B=>(t a C A j B).elim λm h=>h.elim λd h=>haveI u:=ahU _ _ _ h.1
 (Bq (R:=λr s'=>c.Ends s a m d r s'/\s'.os=s.os/\tP s'.gens/\g s'.heap) (Shared.asleep_of_life u.2.2.2 hz) (λ_ _ z=>z.2.2.1) h.2).elim λk q=>q.elim λr q=>q.elim λs' q=>q.elim λL q=>haveI D:=Shared.forget_eq q.2.2.1
 ⟨m,d,h.1,k,_,s',q.2.1,(q.2.2.2.1.congr D.1).imp (λz=>z.imp λv z=>⟨congrArg JA z.1,z.2.1,z.2.2.1,z.2.2.2.1,λb o y _=>z.2.2.2.2.1 b o y,z.2.2.2.2.2⟩) λz=>z.imp λe z=>z.imp λM z=>z.imp λH z=>⟨congrArg JA z.1,z.2.1,z.2.2.1,z.2.2.2.1,z.2.2.2.2.1,λb o y _=>z.2.2.2.2.2 b o y⟩,λ_ i x I=>nS<|(congrArg (·[i]?) p).symm.trans I,D.1▸q.2.2.2.2.2.2,((runN_life _ _ _ q.1).trans u.2.2.2).symm▸rfl,Shared.rest_eq<|D.2.2.2.1.trans q.2.2.2.2.1⟩
theorem Br{r:OpenRow}{YP:qu->lm->Prop} (H:LeftO r.prog q x Xt Yf Ya N)(hY:∀w s,Yf s=Ya w->YP w s.heap)(a7:∀w h R,YP w h->(∀b o,h.get? b=ae o->R.get? b=ae o)->YP w R) (hX:∀s,Xt s=aj->XP (s.heap.nsMap a_) s.heap)(a6:∀I h R,XP I h->(∀b o,h.get? b=ae o->R.get? b=ae o)->XP I R) (t:defOf q r.name=ae (d,kwd))(hp:r.prog.theDef r.name=ae (d.params,d.body,d.scope))(hk:kwWritten? d.params.kwonlyargs d.params.kw_defaults=ae kwd)(a5:∀s,Xt s=aj->RecFacts r.records s.heap)(a4:(!r.writes||r.records.isEmpty)=aj) (k1:r.wellSaid=aj)(ok:(chainsOk q&&opensWell r.prog&&(frees r.toRowW&&r.within.isEmpty))=aj)(hb:r.prog.bare)(hw:r.toRowW.promised) (Q:∀(w:qu) (j c:bk) (I mb:bC->Option aW),Ground q x r.records XP w j I mb c.heap->YP w c.heap->∀(a:cj) (o:uJ) (pm cd M dV kV:aW),c.heap.get? a=ae o->o.data=.func {docDef d.name d.params d.body d.scope pm cd M with defaults:=dV,kwdefaults:=kV}->c.heap.CodeRec cd d.name->Dflts I c.heap d.params kwd dV kV->I d.name=ae (.ref a)->c.gens=#[]->∀(f:List WData) (A:List aW) (P:List cj),r.claim.pre f=aj->LM f=aj->ReadsAllW r.records (VN j.heap) c.heap A f P->WellAll w.params c.heap A f->(∀a∈P,(a==f_)=false)->jH (dL r.prog w) tZ (er (.ref a) A) (λv s'=>GoodWG r.claim (VN j.heap) (Md j.heap) f c (.ok<|.ret v) s') (λe s'=>GoodWG r.claim (VN j.heap) (Md j.heap) f c (.error e) s') c):r.Holds:=by
 refine⟨k1,hw,?_⟩;(haveI q0:=Bool.and_eq_true_iff.mp ok;haveI ok:=q0.1;haveI k5:=q0.2);refine bu (Bool.and_eq_true_iff.mp ok) λa1 o1=>bu (Bool.and_eq_true_iff.mp k5) λk5 k6=>Rc (frees_parts k5) λu hu ha a8 hm=>⟨⟨hb,o1,by show r.makers.map _=[];rw[hm];rfl⟩,hw.witness,λw=>⟨(H.behind hX a1 w).1,λs' b2=>?_⟩⟩;refine cc ((H.behind (XP:=λI h=>XP I h/\RecFacts r.records h) (λs hs=>⟨hX s hs,a5 s hs⟩) a1 w).2 s' b2) λj z0=>bu z0 λhf z1=>bu z1 λa9 z2=>Y5 z2 λs hT hz m hg i y=>?_;have G0:Ground q x [] XP w s (s.heap.nsMap a_) (s.heap.nsMap iy) s.heap:=⟨i.T,i.B,i.D,i.TE,i.TD,i.W,i.X.1,i.cls,i.has,i.apart,i.once,i.K⟩;have RF:=i.X.2;haveI S:=hT;refine⟨j,hf,a9,s,hT,?_,RF.1,RF.2.1,?_⟩
 .intro n hn;obtain rfl:n=r.name:=by split at hn<;>simp_all
  exact pinned_of_view hg G0 t hp hk
 have m:=Array.eq_empty_of_size_eq_zero<|beq_iff_eq.mp m;have G:=RF.ground G0;refine s3 hz m λf F C b3 E=>?_;obtain⟨⟨vs,c⟩,k⟩:=Option.isSome_iff_exists.mp (layAllW_isSome G.has f r.args s (pre_splitW F).1);have l:=layAllW_keeps _ _ _ k;refine ix (reads_layAllW E _ _ _ k C c.heap λ_ _ e=>e) λP b1 b0 a2=>?_;have a0:=ahU _ _ _ k;have L:Laid r.records w s c f vs P:=⟨⟨b3,E,k⟩,b1,b0,a2,l,a0.1.trans m,a0.2.2.1⟩;have p:=G.keeps a6 l;refine afV (p.fn t) λa o pm cd M dV kV h1 h2 h3 h4 h5=>?_;haveI h:=Q w s c _ _ p (a7 _ _ _ (hY w s y) l) a o pm cd M dV kV h2 h3 h4 h5 (defOf_name t▸h1) L.gens f vs P F C L.reads L.well<|L.low G.low;haveI hi:=ident_freeW hu ha a8;haveI a3:=List.isEmpty_iff.mp k6;refine rP vs c k<|dO<|wpAny_nsGet p.T.g ?_;rw[h1];refine fQ<|fF h (λv s' g=>kO ?_) λe s' g=>?_;.have z:=g.laid u a3 hi L;exact⟨_,rfl,z.1,z.2.1,z.2.2,λq=>⟨ahV S hg _ l g.2.1.old,noTable a4 q⟩⟩
 .have z:=g.laid u a3 hi L;exact⟨z.1,z.2.1,z.2.2,λq=>⟨ahV S hg _ l g.2.1.old,noTable a4 q⟩⟩
noncomputable def DB:Prop:=∀(w) (s),Base w s.heap->Wh s.heap->∀(l) (c) (b),s.heap.IsList l c.toArray->LB c b->b.length<=63->s.gens=#[]->jH (dL PP w) tZ (call (.ref 493) [.ref l]) (λv a=>v=.bool aj/\OldK s.heap a.heap/\a.os=s.os/\tP a.gens) (λ_ _=>False) s
theorem za(L:DB):PySem.Challenge.rw_wz0046_01.Holds:=by
 w_on;rw[HW];refine(holds_law adH λx=>?_);rw[<-HW] at x⊢;refine Br (XP:=λ_ _=>True) (YP:=λw=>(FZ bE w.params).In) (d:=agX) (kwd:=[]) left ?a ?b ?c ?d ?e ?f ?g ?h ?i ?j ?k ?l ?m ?n;case a=>intro w s e;rw[e];exact agW w
 case b=>intro w h h' X k;exact X.keeps k
 case c=>intro _ _;trivial
 case d=>intro _ _ _ _ _;trivial
 case e=>kernel_rfl
 case f=>kernel_rfl
 case g=>kernel_rfl
 case h=>intro s _;exact recFacts_nil rfl
 case i=>rfl
 case j=>assumption
 case k=>decide+kernel
 case l=>exact⟨rfl,rfl,rfl,rfl,rfl,by decide+kernel⟩
 case m=>w_witness2
 case n=>
  intro w F p mg mb G Y M o pm W I dV kV R P y N t Q E H S u r C D A;haveI T:=G.T;haveI B:Base w p.heap:=⟨HX Y,T.nolimit,⟨_,T.g⟩,⟨_,T.b,T.builtins⟩⟩;haveI e:M=493:=Wi (HX Y) T.g t<|by kernel_rfl
  clear R P y N t T;subst e;wrow_args u r C D A;haveI z:=L w p B (⟨Y _ _<|by kernel_rfl,Y _ _<|by kernel_rfl⟩) _ _ _ (by assumption) (by assumption) (bj.mp<|dv.mp<|by assumption) Q;refine fF z (λv s' q=>?_) λ_ _ q=>q.elim;exact Ru q.1 q.2.1 q.2.2.1 q.2.2.2
section
theorem DC{id:String}(h:(PySem.Builtin.Bytes.decodersThatHold.contains id||guardIds.contains id)=false)(a):iT (.builtin id a)=true:=by show(!(_||_))=aj;rw[h];rfl
theorem rG{id:String}(k:iT (.builtin id a)=aj)(g:gN mF id=ae b) (h:jH (dL prog w) (A.under<|.builtin id a) (b a) (λc s'=>match c with|.done f=>R (.ok f) s'|.again d=>d.quiet=aj/\mC (dL prog w) A d R s') (λe s'=>R (.error e) s') s):mC (dL prog w) A (.builtin id a) R s:=by refine jL k ?_;show jH _ _ (match gN mF id with|some b=>b a|none=>unsupported<|(withoutEnding? id "#data").getD id) _ _ s;rw[g];exact h
theorem r6{id:String}(j:yH id=aj)(k:iT (.builtin id a)=aj)(m:gN mF id=ae b) (h:aD (dL prog w) A.in1 (eV id a) (λ_ c=>jH (dL prog w) A.in1 (b a) (λg s'=>match g with|.done f=>R (.ok f) s'|.again i=>i.quiet=aj/\mC (dL prog w) A i R s') (λe s'=>R (.error e) s') c) (λe s'=>R (.error e) s') s):mC (dL prog w) A (.call (.builtin id) a) R s:=by
 refine jL rfl ?_;show jH _ A.in1 (do eV id a;oz (.builtin id a)) _ _ s;refine dO<|aC h (λ_ c d=>kO<|And.intro (iE j _)<|rG k m ?_) λ_ _ l=>l;rw[pG j];exact d
theorem Gq{T:String}(l:TS T o g) (z:HJ T ⟨a,[]⟩=bB ())(j:gN mF g=ae G)(k:∀a,iT (.builtin g a)=aj) (q:gU (dL prog w) A.in1 (.call (.builtin o) ⟨.type T::a,[]⟩) (yI Q₁ E) s) (h:∀obj i,Q₁ obj i->i.TypeIs obj T/\jV g ⟨obj::a,[]⟩/\jH (dL prog w) A.in1.in1 (G ⟨obj::a,[]⟩) (λx s'=>match x with|.done f=>yI (λr b=>r=.none/\Q obj b) E (.ok f) s'|.again D=>D.quiet=aj/\mC (dL prog w) A.in1 D (yI (λr b=>r=.none/\Q obj b) E) s') (λe s'=>yI (λr b=>r=.none/\Q obj b) E (.error e) s') i):jH (dL prog w) A (call (.type T) a) Q E s:=by
 refine sC l.mro λc P p=>?_;haveI n:=l.made;haveI u:=l.sub;refine s0<|jL rfl ?_;skip;refine kO ⟨kA _<|by decide+kernel,rG (DC (by decide+kernel) _) F.entry_type_call ?_⟩;rw[Around.under_plain (weight_type_call_type T a []) rfl];haveI I:=l.notType;haveI L:=l.canCreate;skip;refine og (Bool.eq_false_iff.mp I)<|og (Bool.eq_false_iff.mp L)<|ko z<|ko p<|og fo<|ko n<|ko rfl ?_;refine dO<|aQ<|df<|i8 q λr i t=>?_;cases r with|error e=>exact t|ok H=>
  cases H with
  |ret obj=>
   (haveI y:=(h _ _ t).1;haveI B:=(h _ _ t).2.1;haveI C:=(h _ _ t).2.2);refine dO<|eW y u ?_;refine og fo<|fQ<|p7 ?_;skip;refine dO<|cP y l.init.lookup ?_;refine p7<|ko (l.init.bind _)<|fQ<|s0<|r5 (r6 l.init.plain (k _) j<|l.init.check _ _ _ _ _ _ _ _ y B C) λv b d=>?_;cases v with|error e=>exact d|ok m=>
    cases m with
    |ret r=>
     refine bu d λN M=>?_;try clear d;subst N
     exact kO<|kO M
    |_=>exact d.elim
  |_=>exact t.elim
end
end
section
open PySem.Builtin.Bytes.exported renaming match_1->yS
open PySem PySem.W PySem.Calls PyProof.Rows PySem.Builtin.Bytes
theorem NF:VL (.type "bytearray")=bB [.type "bytearray",.type "object"]:=by rw[mroOf_type];kernel_rfl
theorem zb:ds (.type "bytearray") "__new__"=bB (ae<|.builtin "bytearray.__new__"):=by rw[cp,bt];kernel_rfl
theorem Bs:yC "bytearray" "__init__" "bytearray.__init__":=.of (owner:="bytearray") (n:="__init__") (by rw[cp,bt];kernel_rfl) (by decide+kernel) (by decide+kernel) (by decide+kernel) (by first|exact .inl<|by decide+kernel|exact .inr<|by decide+kernel)<|by rw[dg];kernel_rfl
theorem J8:TS "bytearray" "bytearray.__new__" "bytearray.__init__":=⟨by decide+kernel,by decide+kernel,CN _ _ NF,ĕ NF zb<|by decide+kernel,by decide+kernel,by rw[dg];kernel_rfl,Bs⟩
theorem DD(a):HJ "bytearray" ⟨[a],[]⟩=bB ():=by kernel_rfl
theorem Gr(a):eV "bytearray.__new__" ⟨[.type "bytearray",a],[]⟩=bB ():=by kernel_rfl
theorem Bt:gN mF "bytearray.__new__"=ae dF.«list.__new__»:=FD (id':="list.__new__") (by kernel_rfl) (by first|rfl|decide+kernel) (by decide+kernel)<|by kernel_rfl
theorem zc:gN mF "bytearray.__init__"=ae dF.«bytearray.__init__»:=kg<|by kernel_rfl
theorem Bu:yH "bytearray.__new__"=true:=by decide+kernel
theorem NG:("bytearray.__new__".splitOn ".__new__").headD ""="bytearray":=congrArg (λl=>l.headD "") split_bytearray
theorem Gu:jl (.type "bytearray") (.type "bytearray")=bB true:=by rw[dg];kernel_rfl
theorem NH:ds (.type "bytearray") "__release_buffer__"=bB (ae<|.builtin "bytearray.__release_buffer__"):=by rw[cp,bt];kernel_rfl
theorem int_index:ds (.type "int") "__index__"=bB (ae<|.builtin "int.__index__"):=by rw[cp,bt];kernel_rfl
theorem DE(a b):jV "bytearray.__init__" ⟨[a,b],[]⟩:=by kernel_rfl
section
theorem DF(a)(h:Q₁ (.ref s.heap.objs.size) {s with heap:=s.heap.push {cls:=.type "bytearray",data:=.bytearray #[]}}):gU (dL prog w) A (.call (.builtin "bytearray.__new__") ⟨[.type "bytearray",a],[]⟩) (yI Q₁ E) s:=by
 refine h6 ?_;show aD _ A.in1 (do eV "bytearray.__new__" ⟨[.type "bytearray",a],[]⟩;oz (.builtin "bytearray.__new__" ⟨[.type "bytearray",a],[]⟩)) _ _ s;refine aa<|bP (Gr a)<|ag ⟨iE Bu _,Me Bt rfl λp i=>?_⟩;skip;haveI c:=Gu;obtain⟨e,g,d,j,f⟩:=s;have b:=NG;simp only [b];wp_walk;exact h
theorem R2{id:String}(h:(decodersThatHold.contains id||guardIds.contains id)=aj)(a):¬iT (.builtin id a)=true:=by show¬(!(_||_))=aj;rw[h];simp
theorem s4[Decidable p](c:p->False)(d:∀h,b h=false):dite p a b=false:=(dif_neg c).trans<|d c
theorem J9(h:Q false s):jH (dL prog w) A (exported<|.ref a) Q E s:=by
 skip;refine fQ<|J7 λt n _=>kO ?_;haveI i:∀f,(∀x,iT x.1=aj->f x=false)->t.any f=false:=λf q=>by rw[List.any_eq_false];intro x m;rw[q x<|n x m];simp
 rw[i _ λx k=>?_];.exact h
 .obtain⟨c,p⟩:=x;cases c with
  |builtin d b=>
   have g:∀z,(decodersThatHold.contains z||guardIds.contains z)=aj->d=z->False:=λz r e=>by subst e;exact R2 r _ k
   delta yS;refine s4 (g "bytearray.__contains__"<|by decide+kernel) λ_=>s4 (g "bytearray.__mod__"<|by decide+kernel) λ_=>s4 (g "bytearray.__rmod__"<|by decide+kernel) λ_=>s4 (g "_struct.pack_into.held"<|by decide+kernel) λ_=>s4 (g "bytearray.find.held"<|by decide+kernel) λ_=>?_;obtain⟨l,u⟩:=b;cases l with|nil=>rfl|cons v l=>
    haveI o:decodersThatHold.contains d=false:=by
     haveI j:(!(decodersThatHold.contains d||guardIds.contains d))=true:=k;revert j;cases decodersThatHold.contains d with
     |true=>intro h;cases h
     |false=>intro _;rfl
    exact(congrArg _ o).trans<|k8 _
  |_=>rfl
theorem DG(e:s.heap.get? a=ae {cls:=.type "bytearray",data:=.bytearray b k})(hz:(f b).size<=1000) (h:∀d,(∀c x,c≠a->s.heap.get? c=ae x->d.get? c=ae x)->d.get? a=ae {cls:=.type "bytearray",data:=.bytearray (f b) k}->Q () {s with heap:=d}):aD (dL prog w) A (write (.ref a) f) Q E s:=by
 show aD _ _ (YM a f) _ _ _;skip;refine aa<|i_ e ?_;haveI g:((s.heap.update a<|QC f).get? a)=ae {cls:=.type "bytearray",data:=.bytearray (f b) k}:=by rw[cK _ e rfl];rfl
 refine aa<|ahR e ?_;refine zA g (by unfold L0;simp;rw[fW];exact(ab hz<|ap rfl))<|h _ (λc x i=>(cW ..).extBut c x i) g
theorem J_(b:s.TypeIs (.ref a) "bytearray")(q:Q false s):aD (dL prog w) A (ownRelease<|.ref a) Q E s:=by
 skip;refine aa<|aa<|cP b NH ?_;refine bI (by decide+kernel)<|(show("bytearray.__release_buffer__".dropRight<|"__release_buffer__".length+1)="bytearray" by decide+kernel)▸eW b Gu (ag q)
theorem R3(c:s.heap.get? a=ae {cls:=.type "bytearray",data:=.bytearray b})(q:Q false s):jH (dL prog w) A (exported (.ref a)<||>do return decide ((<-exportsOf (.ref a))>0)) Q E s:=fQ<|J9<|.of<|aa<|aa<|i_ c<|ag<|ag q
theorem R4(p:s.heap.get? a=ae {cls:=.type "bytearray",data:=.bytearray #[]})(k:0<=n)(i:n<=1000) (h:∀z j,(∀c x,c≠a->s.heap.get? c=ae x->j.get? c=ae x)->j.get? a=ae {cls:=.type "bytearray",data:=.bytearray<|mB n.toNat 0}->Q (.done<|.ret .none) {s with heap:=j,toks:=z}):jH (dL prog w) A (dF.«bytearray.__init__» ⟨[.ref a,.int n t],[]⟩) Q E s:=by
 haveI y:s.TypeIs (.ref a) "bytearray":=⟨_,p,rfl⟩;skip;refine dO<|J_ y ?_;refine og fo<|ko (a:=[ae<|.int n t,ah,ah]) rfl<|ko rfl<|ko rfl<|fQ<|R3 p ?_;refine og fo<|.of<|aa<|DG p (dN tt) λr b d=>?_;have l:fitsIndex n=true:=by unfold fitsIndex;simp;exact ß k i
 have q:tooLong n.toNat=false:=by unfold tooLong;simp[fW];exact(cJ i<|by decide)
 have o:(n==2^63-1)=false:=by rw[beq_eq_false_iff_ne];exact á i
 refine aa<|bP rfl<|bI rfl<|aa<|bI rfl<|bI rfl<|ag ?_;refine aa<|cP (FE _ _ _) int_index<|dw rfl<|aa<|bP rfl ?_;refine bI (by rw[l];rfl)<|bI (decide_eq_false<|dv.mpr k)<|bI (by rw[o];rfl)<|bI (by rw[q];rfl)<|aa<|iB ?_;by_cases m:n>0
 .refine dw (decide_eq_true m)<|aa<|DG d (by simp;exact(i)) λu f g=>ag ?_;exact h _ _ (λc x v e=>f c x v<|b c x v e) g
 .haveI:=ã k m;subst this;exact bI (decide_eq_false m)<|ag<|h _ _ b d
theorem R5(j:0<=n)(l:n<=1000) (h:∀g d,(∀c x,s.heap.get? c=ae x->d.get? c=ae x)->d.get? s.heap.objs.size=ae {cls:=.type "bytearray",data:=.bytearray<|mB n.toNat 0}->Q (.ref s.heap.objs.size) {s with heap:=d,toks:=g}):jH (dL prog w) A (call (.type "bytearray") [.int n t]) Q E s:=by
 refine Gq (Q₁:=λf b=>f=.ref s.heap.objs.size/\b={s with heap:=s.heap.push {cls:=.type "bytearray",data:=.bytearray #[]}}) J8 (DD _) zc (DC<|by decide+kernel) (DF _ ⟨rfl,rfl⟩) λf b a=>bu a λm p=>?_;try clear a;subst m;subst p
 have i:(s.heap.push {cls:=.type "bytearray",data:=.bytearray #[]}).get? s.heap.objs.size=ae {cls:=.type "bytearray",data:=.bytearray #[]}:=aS _ rfl;refine⟨⟨_,i,rfl⟩,DE _ _,R4 i j l λg d k o=>?_⟩;refine⟨rfl,h g d (λc x e=>k c x (bJ<|db e)<|aN _ e) o⟩
end
end
section
open PySem renaming methodCallPos->afg
open PySem PySem.W PySem.Calls PyProof.Rows PySem.SeqAt
section
noncomputable def R6(W:Wd)(A:mP)(m:Js α)(G:Gh)(s:bk)(K:α->Gh->bk->Prop):Prop:=jH W.M A m (ua W G s K) (λ_ _=>False) s
noncomputable def QT(C:Cx)(a:cG)(Ω:bM)(e:gw)(t:T):Prop:=∀A G s,Ok A C.n->Inv C.W G s->St C a Ω G s->R6 C.W A (eval e C.env) G s (KT t)
noncomputable def xE(W:Wd)(f:aW)(ts:List T)(n:Nat)(r:T):Prop:=∀A G s a,Ok A n->Inv W G s->aG G a ts->R6 W A (call f a) G s (KT r)
noncomputable def nO(C:Cx)(b:cG)(Ω:bM)(a:List mA)(P:Post):Prop:=∀A G s,Ok A C.n->Inv C.W G s->St C b Ω G s->jH C.W.M A (vA a C.env) (Ends C P G) (λ_ _=>False) s
theorem nO.of(h:bZ C c Ω b P):nO C c Ω b P:=λA G s a I S=>jH.of<|h A G s a I S
theorem QT.of(h:Ev C b Ω e t):QT C b Ω e t:=λA G s a I S=>jH.of<|h A G s a I S
theorem xF{st:mA}(h:jH M A (exec st env) (λf s'=>match f with|.next=>jH M A (vA rest env) Q E s'|f=>Q f s') E s):jH M A (vA (st::rest) env) Q E s:=by skip;refine fQ<|fF h (λf s' a=>?_) λ_ _ z=>z;cases f<;>first|exact a|exact kO a
theorem nO.step{st:mA}(h:∀A G s,Ok A C.n->Inv C.W G s->St C v Ω G s->jH C.W.M A (exec st C.env) (λf s'=>f=.next/\∃Γ' bT d,Inv C.W d s'/\St C Γ' bT d s'/\Sub G d/\nO C Γ' bT rest P) (λ_ _=>False) s):nO C v Ω (st::rest) P:=λA G s g I S=>by
 refine xF<|fF (h A G s g I S) (λf s' i=>?_) λ_ _ z=>z;refine bu i λe m=>?_;try clear i;refine yY m λΓ' bT d j l B k=>?_
 subst e;exact fF (k A d s' g j l) (λf t u=>u.casesOn λo a b c p q r z w=>⟨o,a,b,c,p,q,r,z,B.trans w⟩) λ_ _ z=>z
theorem s5(env:Env)(rest:List mA)(a:List mA):vA (a++rest) env=(do match<-vA a env with|.next=>vA rest env|f=>bB f):=by
 induction a with
 |nil=>
  show vA rest env=(do match<-(bB .next:Js Flow) with|.next=>vA rest env|f=>bB f);rw[pure_bind]
 |cons b a ih=>rw[iw,execs_cons,execs_cons,bind_assoc];congr 1;funext f;cases f<;>first|exact ih|(rw[pure_bind])
theorem nO.seq(h:bZ C v Ω n λo Γ' bT=>o=.next/\nO C Γ' bT rest P):nO C v Ω (n++rest) P:=λA G s d I S=>by rw[s5];refine dO<|aC (h A G s d I S) (λf l t=>?_) λ_ _ z=>z;obtain⟨o,Γ',bT,g,⟨e,k⟩,q,i,j,B⟩:=t;subst e;subst q;exact fF (k A g l d i j) (λf m u=>u.casesOn λo a b c p q r z w=>⟨o,a,b,c,p,q,r,z,B.trans w⟩) λ_ _ z=>z
theorem nO.assign(h:QT C g Ω e t)(m:x∈C.dY)(l:oC g x t Γ')(k:nO C Γ' Ω rest P)(hs:autoParam (fi e (ae<|.Name x p) pos.line C.env=bB false) iF):nO C g Ω (.Assign [.Name x p] e pos::rest) P:=.step λA G s n I S=>by rw[zD C.env x p e pos hs];refine dO<|cF<|fQ<|fF (h A G s n I S) (λv f o=>o.casesOn λb c a d=>?_) λ_ _ z=>z;refine dO<|cF<|.of<|aa ?_;refine tE<|(S.mono a).store c m l d λq j i _=>ag ⟨rfl,Γ',Ω,b,i,j,a.sub,k⟩
theorem NI(h:jH M A m Q E s):jH M A (m.keep d) Q E s:=λa p i c b=>by rw[Sem.wp_keep];exact h a p i c b
theorem r7{W:Wd}(c:Callee W.K f)(o:i.any (·.1)=false) (h:jH W.M A (Qz f aj i []) (λa b=>W.K.In b.heap/\jH W.M A (call f a.pos a.kw) Q E b) E s):jH W.M A (bS pos f [] i []) Q E s:=by
 skip;refine fQ<|p7<|fF h (λa b v=>bu v λm d=>dO<|cF ?_) λ_ _ x=>x;rw[o,show(false||([]:List<|Option bC×Js aW).any λx=>x.1.isNone)=false from rfl];have e:∀{t:Js aW},jH W.M A t Q E b->jH W.M A (t>>=λr=>gy [r] point>>=λ_=>bB r) Q E b:=λq=>fQ<|fF q (λr l p=>.of<|aa<|aQ<|AO<|ag p) λ_ _ x=>x;have g (u):jH W.M A (callMarked u f a.pos a.kw) Q E b:=by unfold callMarked;exact NI d
 cases c with|builtin w=>exact dO<|ag<|e d|type t=>exact dO<|ag<|e d|k n=>refine aU (keeps_K (M:=W.M) n _ m) λk j L=>dO<|L.here ?_;rcases j with rfl|rfl|rfl<;>first|exact e d|(dsimp only;by_cases z:i.length+2*([]:List<|Option bC×Js aW).length>30;rw[if_pos z];exact e d;rw[if_neg z];exact e<|g _)
theorem xG (h:jH M A x (λv a=>aD M A (yx rest) (λd b=>Q (v::d) b) E a) E s):jH M A (yx<|(false,x)::rest) Q E s:=by skip;refine fQ<|fF h (λv a c=>.of ?_) λ_ _ x=>x;skip;exact aa<|ag<|aa<|aQ<|aC c (λd b=>ag) λ_ _ x=>x
theorem ul (h:jH M A (yx<|(false,x)::rest) (λa s'=>Q ⟨a,[]⟩ s') E s):jH M A (Qz f aj ((false,x)::rest) []) Q E s:=by skip;skip;refine fQ<|fF h (λa s' b=>.of ?_) λ_ _ x=>x;refine aQ<|aa<|ag<|aa<|ag<|ag b
theorem QT.call(hf:Ev C Γ Ω f<|.val g)(c:Callee C.W.K g)(h1:QT C Γ Ω e t)(h:oD C Γ Ω l ts)(k:xE C.W g (t::ts) n r)(hn:n<=C.n) (hs:autoParam (∀env,aw (e::l) env=(false,eval e env)::aw l env) eX) (hp:autoParam (∀env,(bb pos<|aw (e::l) env).any (·.1)=false) eX) (hb:autoParam (∀env,∃m,bb pos (aw (e::l) env)=(false,m)::bb pos (aw l env)/\∀(Q:aW->bk->Prop) A s,jH C.W.M A (eval e env) Q (λ_ _=>False) s->jH C.W.M A m Q (λ_ _=>False) s) adI) (he:autoParam (∀env,eval (.Call f (e::l) [] pos) env=(do bS pos (<-eval f env) [] (bb pos<|aw (e::l) env) (bK pos<|aX [] env))) eX):QT C Γ Ω (.Call f (e::l) [] pos) r:=λA G s ok I S=>by
 rw[he];unfold R6;refine dO<|Run.use (hf A G s ok I S) λv N o w d E=>?_;cases E
 skip;refine r7 c (hp _)<|aU (hb C.env) λm e1 e2=>?_;rw[e1];have b:=S.mono d;refine ul<|xG<|e2 _ _ _<|fF (h1 A o N ok w b) (λv P zq=>?_) λ_ _ z=>z;obtain⟨p,y,i,F⟩:=zq;refine Run.use (h A p P pos ok y<|b.mono i) λvs R q a j H=>⟨a.k,?_⟩;exact fF (k A q R (v::vs) (ok.le hn) a<|.cons (F.mono j.sub) H) (λx a0 z=>z.casesOn λu B D L=>⟨u,B,((d.trans i).trans j).trans D,L⟩) λ_ _ z=>z
theorem QT.ad6{K id:String}(x:QT C D Ω o a)(m:Kind a K)(y:TQ K)(i:yC K name id)(l:fA (.builtin id)=bB (.type "method_descriptor"))(k:cf (.builtin id) [a] n r)(w:n<=C.n) (u:autoParam (∀env,dG o name env (eval o env)=eval o env) eX) (e:autoParam ((d.endLine==pos.line)=aj) iF):QT C D Ω (.Call (.Attribute o name d) [] [] pos) r:=λA G s p I S=>by
 rw[arm_eval_Call,u];unfold R6;refine fQ<|fF (x A G s p I S) (λv j B=>B.casesOn λf b g c=>?_) λ_ _ z=>z;(haveI q:=(m.is b c).1;haveI t:=(m.is b c).2);refine .of<|aa<|cF ?_;haveI h:afg aj o C.env d pos=bB pos:=by unfold afg;simp[e]
 rw[show methodCallForm (([]:List gw).length+([]:List ij).length) (bb pos<|aw [] C.env) (bK pos<|aX [] C.env)=aj from rfl];unfold methodCall;refine aa<|aQ<|getMethod_builtin q y i l t ?_;refine aa<|bP h ?_;refine gG (.builtin _) b.k ?_ rfl;exact cE ⟨b.k,Run.ext g<|k C.W A f j _ (p.le w) b<|.cons c .nil⟩
theorem DH(F:gH W f r l dY)(h:r.closure=[])(E:kf s r ⟨q,[]⟩ C)(b:Binds dY d C ts i)(y:aG G (C.map (·.2)) ts) (D:∀x t,(x,ae t)∉d)(N:(d.map (·.1)).Nodup)(S:Ok A<|n+1)(I:Inv W G s) (z:∀p∈Δ,p.1∈wr\/p.2.gT=aj)(B:(Δ.map (·.1)).Nodup)(m:∀p∈Δ,G p.1=ah/\∃o,s.heap.get? p.1=ae o/\p.2.holds G o) (g:∀L a,Inv W G a->St (oN W n r f L dY ⟨G,s,wr⟩) i Δ G a->mC W.M A (.func l<|pe r f L) R a):mC W.M A (.call (.ref f) ⟨q,[]⟩) R s:=by refine Rd F.look λoc od sl H=>VZ F.code λc P Q vs a0 t u v w=>re S.room (I.k _ _ H) rfl F.co F.gen F.body (Rf c _ vs t u (I.k _ _ v) rfl w)<|E _ _ _ _<|Dc F h b y D N I z B m λa j e=>⟨e.nolimit,g s.heap.objs.size a e j⟩
theorem xE.of(F:gH W f w k dY)(names loc)(b:cG) (d:∀a:List aW,a.length=ts.length->FC w ⟨a,[]⟩=bB (names.zip a))(E:(fJ (λx t=>(x,ae t)) names ts)++(loc.map λx=>(x,ah))=b) (hx:∀L I,I.wr=[]->nO (oN W n w f L dY I) b [] k (λo _ _=>o=.ret r)) (c:autoParam (names.length=ts.length) iF)(l:autoParam ((names.all dY.contains)=aj) jX)(Q:autoParam (decide ((names++loc).Nodup)=aj) jX)(P:autoParam (w.closure=[]) jX):xE W (.ref f) ts (n+1) r:=λA G s C B I y=>by
 subst E;haveI D:(names.zip C).map (·.2)=C:=by rw[oH];rw[y.length,c];exact al _
 refine s0<|r5 (DH (Δ:=[]) (wr:=[]) F P (.of_eq<|d C y.length) (Binds.zip names ts C [] y.length c λx m=>by
   haveI:=List.all_eq_true.mp l x m;rwa[lJ] at this) (by rw[D];exact y) Bh (Bi<|of_decide_eq_true Q) B I (λp m=>by cases m) (dD tt) (λp m=>by cases m) (R:=y7<|ua W G s<|KT r) λL u g i=>?_) λr H z=>by rcases r with e|(v|_|_|_)<;>exact z
 refine xD<|fF (hx L ⟨G,s,[]⟩ rfl (A.deeper<|pe w f L) G u ⟨B.hd,?_,?_⟩ g i) (λfl M zz=>zz.casesOn λo a0 a1 N p q h j _=>?_) λ_ _ z=>z.elim;.haveI:=B.depth;show A.depth+1+n<=900;exact Rj this
 .haveI:=B.units;show A.units+3+50*n<=9000;exact V7 this
 .subst p;refine aU q λv q0 S=>?_;try clear q;subst q0
  exact⟨N,h,j.ext.ext rfl,S⟩
end
end
section
open PySem renaming bm_if_false->pu
open PySem.Builtin.Bytes renaming buffer?->nu
open PySem.F renaming bm_called->LN
open PySem PySem.W PySem.Calls PyProof.Rows PySem.SeqAt PySem.Builtin.Bytes
theorem vc:yC "bytearray" "__setitem__" "bytearray.__setitem__":=.of (owner:="bytearray") (n:="__setitem__") (by rw[cp,bt];kernel_rfl) (by decide+kernel) (by decide+kernel) (by decide+kernel) (by first|exact .inl<|by decide+kernel|exact .inr<|by decide+kernel)<|by rw[dg];kernel_rfl
theorem Bv:gN mF "bytearray.__setitem__"=ae dF.«bytearray.__setitem__»:=kg<|by kernel_rfl
theorem DI(a b c):jV "bytearray.__setitem__" ⟨[a,b,c],[]⟩:=by kernel_rfl
theorem DJ:ds (.type "bytearray") "__bytes__"=bB none:=by rw[cp,bt];kernel_rfl
theorem DK:ds (.type "bytearray") "__index__"=bB none:=by rw[cp,bt];kernel_rfl
theorem um:ds (.type "bytearray") "__buffer__"=bB (ae<|.builtin "bytearray.__buffer__"):=by rw[cp,bt];kernel_rfl
noncomputable abbrev DL(b:Array UInt8):Obj:={cls:=.type "bytearray",data:=.bytearray b}
noncomputable def Ob.bz(b:Array UInt8):Ob:=.any (λ_ o=>o=DL b) (λ_ _ _ _ h=>h) λ_ _ v h=>by rw[h];intro q;cases q
section
theorem un{i:Int}(h:s.heap.get? a=ae (DL b))(j:0<=i)(g:i<b.size)(m:0<=v/\v<256)(hsz:b.size<=aA) (l:∀f d,(∀c x,c≠a->s.heap.get? c=ae x->d.get? c=ae x)->d.get? a=ae (DL<|b.setIfInBounds i.toNat v.toNat.toUInt8)->Q () {s with heap:=d,toks:=f}):aD (dL prog w) A (VI (.ref a) (.int i t)<|.int v u) Q E s:=by
 haveI e:s.TypeIs (.ref a) "bytearray":=⟨_,h,rfl⟩;unfold VI;try with_reducible refine aQ ?_
 first|refine aa<|ag ?_|skip
 refine aa<|VK e (dD tt) ?_;refine aa<|eE e vc ?_;refine rp vc e Bv (DI _ _ _) (Bf a i v t u b j g (by unfold aA at hsz;exact ä g hsz) m hsz) ⟨h,λf d k n=>?_⟩;exact ag<|l f d k n
theorem xH{id:String}(b:s.TypeIs (.ref a) "bytearray")(f:ds (.type "bytearray") (bo name)=bB (ae<|.builtin id))(d:(!id.endsWith ("."++name))=false)(c:id.dropRight (name.length+1)="bytearray")(h:Q aj s):aD (dL prog w) A (slotIsOwn (.ref a) name) Q E s:=by skip;refine aa<|cP b f ?_;dsimp only;rw[d,c,if_neg<|by decide];exact eW b Gu h
theorem DM(g:s.heap.get? a=ae (DL b))(hz:b.size<=aA)(h:∀t k,Q (.bytes b t) {s with toks:=k}):aD (dL prog w) A (call (.type "bytes") [.ref a]) Q E s:=by
 haveI f:s.TypeIs (.ref a) "bytearray":=⟨_,g,rfl⟩;refine FF (Q₁:=λe c=>c.TypeIs e "bytes"/\Q e c) LN (F.bm_typeCall _) Mf ?_ λe c d=>?_
 .refine h6 ?_;show aD _ A.in1.in1 (do eV "bytes.__new__" ⟨[.type "bytes",.ref a],[]⟩;oz (.builtin "bytes.__new__" ⟨[.type "bytes",.ref a],[]⟩)) _ _ s;refine aa<|bP (F.bm_newCall _)<|ag ⟨iE F.bm_plain _,h9 F.bm_entry ?_⟩;skip;skip;refine aa<|bP rfl ?_;refine pu rfl<|aa<|bP F.bm_sub ?_;refine pu rfl<|aa<|bP (F.bm_bind _) ?_;refine aa<|bP rfl ?_;refine aa<|bP rfl ?_;refine pu rfl<|aa<|cP f DJ ?_;refine aa<|aa ?_;skip;refine aa<|i_ g ?_;refine ag<|ag ?_;refine pu rfl<|aa<|cP f DK ?_;refine bm_if_true rfl ?_;first|show aD _ _ (nu "bytes.__new__" (.ref a) aj>>=_) _ _ _|(refine aa ?_;show aD _ _ (nu "bytes.__new__" (.ref a) aj>>=_) _ _ _)
  refine aa ?_;unfold nu;refine aa<|cP f um ?_;refine aa<|xH f um (by decide+kernel) (by decide+kernel) ?_;refine pu rfl<|aa<|cP f um ?_;refine aa<|aa<|xH f NH (by decide+kernel) (by decide+kernel)<|ag ?_;refine pu rfl<|aa ?_;skip;refine aa<|aa<|i_ g<|ag<|ag<|ag ?_;wp_walk;exact⟨PySem.W.typeIs_bytes _ _ _,h _ _⟩
 .exact⟨d.1,F.args_object_init_2 e _,VP LN.init.lookup LN.made (dD tt) prog w A.in1 _ c ⟨d.1,rfl,d.2⟩⟩
end
section
theorem Vh(S:St C f Ω G s)(m:(a,Ob.bz b)∈Ω):s.heap.get? a=ae (DL b):=by refine gR (S.own _ m) λ_ d _=>aU d λo c e=>?_;subst e;exact c
theorem bZ.Ka(N:Ev C E Ω e<|.int v)(R:Ev C E Ω o<|.val<|.ref a)(Q:Ev C E Ω k<|.int i)(p:eL Ω a (Ob.bz b) (Ob.bz<|b.setIfInBounds i.toNat v.toNat.toUInt8) bT)(L:0<=i)(M:i<b.size)(W:0<=v/\v<256)(hz:b.size<=aA)(kk:bZ C E bT rest P) (hs:autoParam (fi e (ae<|.Subscript o k z) pos.line C.env=bB false) iF):bZ C E Ω (.Assign [.Subscript o k z] e pos::rest) P:=.step λA G s F I S=>by
 refine ru ?_ hs;refine Run.use (N A G s F I S) λv B l q g u=>?_;have d:=S.mono g;refine Run.use (R A l B F q d) λov D m r h w=>?_;cases w
 have f:=d.mono h;refine Run.use (Q A m D F r f) λkv H n t j x=>?_;cases u;cases x
 have c:=f.mono j;refine un (Vh c p.mem) L M W hz λtk h' y o'=>⟨rfl,E,bT,n,t.dU c p.mem y rfl rfl,c.dU p rfl rfl y ⟨_,o',rfl⟩,Sub.trans (Sub.trans g.sub h.sub) j.sub,kk⟩
theorem Ev.R7(z:Ev C x Ω f<|.val<|.type "bytes")(h:oD C x Ω [e] [.val<|.ref a])(m:(a,Ob.bz b)∈Ω)(hz:b.size<=aA) (B:autoParam (∀env,(bb pos<|aw [e] env).any (·.1)=false) eX) (y:autoParam (∀env,eval (.Call f [e] [] pos) env=(do bS pos (<-eval f env) [] (bb pos<|aw [e] env) (bK pos<|aX [] env))) eX):Ev C x Ω (.Call f [e] [] pos)<|.bytes b:=λA G s u I S=>by
 refine qw ?_<|y _;refine Run.use (z A G s u I S) λv q n i c p=>?_;cases p
 refine gG (.type _) i.k ?_<|B _;refine Run.use (h A n q pos u i<|S.mono c) λD w o j l d=>⟨j.k,?_⟩;cases d using aG.ca with|cons d r=>
  cases r;cases d
  exact DM (Vh ((S.mono c).mono l) m) hz λt k=>⟨o,j.bL rfl rfl rfl,(c.trans l).trans<|.bL rfl,Tr.bytes _ _⟩
theorem nO.ad7{L:cj->cG}(hf:Ev C N Ω f<|.val<|.type "bytearray")(h:Ev C N Ω e<|.int n)(h0:0<=n)(h1:n<=1000)(hx:x∈C.dY)(hp:∀a,oC N x (.val<|.ref a)<|L a) (k:∀a,nO C (L a) ((a,Ob.bz (mB n.toNat 0))::Ω) rest P) (hs:autoParam (fi (.Call f [e] [] d) (ae<|.Name x p) pos.line C.env=bB false) iF) (a0:autoParam (∀env,aw [e] env=[(false,eval e env)]) eX) (hb:autoParam (∀env (Q:aW->bk->Prop) A s,aD C.W.M A (eval e env) Q (λ_ _=>False) s->∃m,bb d (aw [e] env)=[(false,m)]/\aD C.W.M A m Q (λ_ _=>False) s) agY) (he:autoParam (∀env,eval (.Call f [e] [] d) env=(do bS d (<-eval f env) [] (bb d<|aw [e] env) (bK d<|aX [] env))) eX):nO C N Ω (.Assign [.Name x p] (.Call f [e] [] d) pos::rest) P:=.step λA G s ok I S=>by
 rw[zD C.env x p _ pos hs,he];refine dO<|cF<|fQ<|dO<|Run.use (hf A G s ok I S) λv u w y r F=>?_;cases F
 have l:=S.mono r;refine aU (hb C.env _ A u<|h A w u ok y l) λm e1 e2=>?_;rw[e1];skip;refine r7 (.type _) rfl<|ul<|xG<|.of<|aC e2 (λv b zz=>zz.casesOn λg c t H=>?_) λ_ _ z=>z;refine spliced_nil ⟨c.k,?_⟩;cases H
 have i:=l.mono t;refine R5 h0 h1 λtk R kk o'=>dO<|cF<|.of<|aa<|tE ?_;haveI hn:b.heap.get? b.heap.objs.size=none:=aV<|al _;haveI E:Ext g b g {b with heap:=R,toks:=tk}:=⟨λa o=>kk a o,λ_ _ e=>e,λ_ _=>.inl⟩;haveI B:Inv C.W g {b with heap:=R,toks:=tk}:=⟨λa o e=>kk a o<|c.hM a o e,c.hb,c.bare,c.os⟩;have j:=i.mono E;haveI D:St C N ((b.heap.objs.size,Ob.bz (mB n.toNat 0))::Ω) g {b with heap:=R,toks:=tk}:=by
  refine{j with own:=λq m=>?_,hU:=?_}
  .refine eQ m ?_ λm=>?_;.exact⟨c.cL<|al _,⟨_,o',rfl⟩,(i.fresh hn).imp id .inl,(i.fresh_ne hn).1⟩
   .exact j.own q m
  .rw[ax,bV];refine⟨λm=>?_,j.hU⟩;refine aU (am.mp m) λq mq e=>(i.fresh_ne hn).2 q mq e.symm
 exact D.store B hx (hp _) (.val _) λs' S' I' _=>ag ⟨rfl,_,_,g,I',S',Sub.trans r.sub t.sub,k _⟩
end
end
section
open Nat renaming toUInt8->YV
open PySem renaming ClassData->Yl,signature?_of->afh
open PySem.Builtin.Frozenset renaming oneOther->QL
open PySem.MeetsSeq renaming list_pop_last->VQ
open PySem PySem.W PySem.Calls PyProof.Rows PySem.SeqAt
noncomputable abbrev š:FuncData:=jG (oB PP 16) "_byteswap" [] .none .none .none (.str "cpy313.wave" 870) ah (.ref 455) .none
noncomputable abbrev ad8:List Str:=["data","width","swapped_data","i","j"]
theorem ad9(W):gH W 456 š (dA<|oB PP 16) ad8:=.plain
theorem Bw(W:Wd):l7 W.K a_ "bytearray"=ae none:=by kernel_rfl
theorem Bx:cN "bytearray"=ae (.type "bytearray"):=by kernel_rfl
theorem xI(W:Wd):l7 W.K a_ "bytes"=ae none:=by kernel_rfl
theorem xJ:cN "bytes"=ae (.type "bytes"):=by kernel_rfl
noncomputable def swapAt(l:List UInt8)(w p:Nat):UInt8:=l.getD ((p/w)*w+(w-1-p%w)) 0
noncomputable def s6(l:List UInt8)(w:Nat):List UInt8:=(aL l.length).map<|swapAt l w
noncomputable abbrev kP(w m j p:Nat):Prop:=p<m\/(m+w-j<=p/\p<m+w)
noncomputable def lS(l:List UInt8)(w m j:Nat):Array UInt8:=((aL l.length).map λp=>if kP w m j p then swapAt l w p else 0).toArray
theorem xK:(lS l w m j).size=l.length:=by unfold lS;simp
theorem Gv:mB l.length 0=lS l w 0 0:=by apply su;unfold lS;rw[Array.toList_replicate];refine fv (by simp) λi a b=>?_;simp only [List.getElem_replicate,fw,ew];rw[if_neg];unfold kP;simp at a b⊢
theorem Kb:lS l w (k*w) w=lS l w ((k+1)*w) 0:=by
 unfold lS;congr 1;refine aI λp _=>?_;have e:(k+1)*w=k*w+w:=fK k w;have:kP w (k*w) w p↔kP w ((k+1)*w) 0 p:=by unfold kP;rw[e];exact å
 by_cases h:kP w (k*w) w p;.rw[if_pos h,if_pos<|this.mp h]
 .rw[if_neg h,if_neg λz=>h<|this.mpr z]
theorem Kc(h:l.length=k*w):lS l w (k*w) 0=(s6 l w).toArray:=by unfold lS s6;congr 1;refine aI λp a=>?_;rw[aR] at a;rw[if_pos];unfold kP;exact æ h a
theorem NJ(a:j<w):swapAt l w (k*w+w-1-j)=l.getD (k*w+j) 0:=by
 have e:k*w+w-1-j=w*k+(w-1-j):=by rw[uL k w];exact ç a
 unfold swapAt;rw[e,yJ<|è a,Q5,wd<|uS a,o8<|uS a];congr 1;rw[Ym];exact é a
theorem Kd(b:j<w)(e:k*w+w<=l.length):(lS l w (k*w) j).setIfInBounds (k*w+w-1-j) (l.getD (k*w+j) 0)=lS l w (k*w) (j+1):=by
 apply su;unfold lS;rw[Array.toList_setIfInBounds];refine fv (by simp) λi c d=>?_;simp only [List.getElem_set,fw,ew];by_cases a:k*w+w-1-j=i;.rw[if_pos a,if_pos,<-a,NJ b];unfold kP;exact ê b a
 .rw[if_neg a];have:kP w (k*w) j i↔kP w (k*w) (j+1) i:=by unfold kP;exact ë a
  by_cases h:kP w (k*w) j i;.rw[if_pos h,if_pos<|this.mp h]
  .rw[if_neg h,if_neg λz=>h<|this.mpr z]
theorem kR(a:0<w):bQ 0 ((k*w:Nat)) w=k:=by
 unfold bQ;rw[if_pos<|Ui a];rcases tK k with rfl|b;.simp
 .have c:=Nat.mul_pos b a;rw[if_pos<|CQ c];have e:((k*w:Nat))-0-1=((k*w-1:Nat):Int):=ì c;rw[e,<-Int.natCast_ediv];have:(k*w-1)/w=k-1:=by
   have:k*w-1=w*(k-1)+(w-1):=by have:=Nat.mul_sub_one w k;rw[this,uL w k];have:=Nat.le_mul_of_pos_left w b;exact(ll this a).symm
   rw[this,yJ a,o8<|Zo a];exact î
  rw[this];exact(congrArg zt<|du b)
noncomputable abbrev WH(l:List UInt8)(w:Nat)(s i j:Option T):cG:=[("data",ae (.bytes l.toArray)),("width",ae (.int w)),("swapped_data",s),("i",i),("j",j)]
theorem R8{l:List UInt8}(u:0<w)(d:l.length=k*w)(hz:k*w<=1000)(h:w<=1000):xE W (.ref 456) [.bytes l.toArray,.int w] 1<|.bytes (s6 l w).toArray:=by
 have H:=ab (CI k u) hz;refine xE.of (ad9 W) ["data","width"] ["swapped_data","i","j"] (WH l w ah ah ah) (λC d=>?_) rfl λL I _=>?_;.refine sD d λa b=>?_;kernel_rfl
 refine nO.ad7 (n:=l.length) (.builtin (Bw W) Bx<|by decide) (Ev.cast (.call (.builtin (oR W) oS oT) (.builtin _) (.cons (.g 0) .nil) (cf.lenBytes<|by simp;unfold aA;exact ME d hz)<|au _)<|by simp) py (ð d hz) ai (λa=>.g 2) λa=>.of ?_;rw[show((l.length:Nat):Int).toNat=l.length from ñ,Gv (w:=w)];rw[show lS l w 0 0=lS l w (0*w) 0 by rw[uM]];refine .vO (σ:=Unit) (ts:=iI 0 w k) (λ_ _=>WH l w (ae<|.val<|.ref a) ah ah) (λr _=>[(a,Ob.bz (lS l w (r*w) 0))]) (λ_ _=>True) (λ_=>false) () ?_ trivial rfl ?_ ?_
 .refine fR.wZ (a:=0) (b:=l.length) (c:=w) (.builtin (kK W) kL kM) (.cons .int<|.cons (Ev.cast (.call (.builtin (oR W) oS oT) (.builtin _) (.cons (.g 0) .nil) (cf.lenBytes<|by simp;unfold aA;exact ME d hz)<|au _)<|by simp)<|.cons (.g 1) .nil) (ò u) (Bb<|az h<|aB (cb 1000)<|ap rfl) ?_<|by rw[d];exact kR u
  unfold eo;rw[d,kR u];simp only [iv,bg,decide_eq_true_eq,fO];generalize k*w=m at hz⊢;rw[if_pos<|Ui u];simp only [bg,decide_eq_true_eq];refine⟨ ⟨⟨⟨by decide,zO hz⟩,zO h⟩,zO H⟩,.inr<|õ h hz⟩
 .intro r t _ D E z f _;have B:=eB (List.getElem?_eq_some_iff.mp f).1<|j8 _ _ _;have p:t=.int ((r*w:Nat)):=by
   unfold iI at f;rw[aq,dR B] at f;have:=bq f;rw[<-this];show T.int (0+r*w)=_;rw[eb,<-pH]
  subst p;have e:r*w+w<=l.length:=by rw[d,<-fK];exact cw w B
  refine⟨_,.name ai<|.g 3,?_⟩;refine .vO (σ:=Unit) (ts:=iI 0 1 w) (λ_ _=>WH l w (ae<|.val<|.ref a) (ae<|.int<|(r*w:Nat)) ah) (λq _=>D++[(a,Ob.bz (lS l w (r*w) q))]) (λ_ _=>True) (λ_=>false) () ?_ trivial rfl ?_ ?_
  .refine fR.M6 (b:=w) (.builtin (kK W) kL kM) (.cons (.g 1) .nil) (Jw (by decide) (by decide) Zm<|agE h) ?_;unfold bQ;rw[if_pos<|by decide,if_pos<|CQ u];exact ö
  .intro q t _ s E z f _;have y:=eB (List.getElem?_eq_some_iff.mp f).1<|j8 _ _ _;have p:t=.int (q:Int):=by unfold iI at f;rw[aq,dR y] at f;have:=bq f;rw[<-this];show T.int (0+(q:Int)*1)=_;rw[eb,rq]
   subst p;refine⟨_,.name ai<|.g 4,?_⟩;have x:l.length<=1000:=ø d hz;generalize A:r*w=m at e z⊢;have o:=Kd (l:=l) (w:=w) (k:=r) (j:=q) y<|by rw[A];exact e
   rw[A] at o;have F:((m:Int)+(w:Int)-1-(q:Int)).toNat=m+w-1-q:=ù;have G:((m:Int)+(q:Int)).toNat=m+q:=rfl;refine .Ka (i:=(m:Int)+w-1-q) (v:=((l.getD (m+q) 0).toNat:Int)) (b:=lS l w m q) (.cast (.sub (.g 0) (.bin (.g 3) (.g 4) .cZ)<|.bytes (by unfold aA;exact uT x) û<|ü y e)<|by rw[G]) (.g 2) (.bin (.bin (.bin (.g 3) (.g 1) .cZ) .int .fx) (.g 4) .fx) (eL.app s<|eL.app D .here) (ý y) (by rw[xK];exact þ e) ⟨py,?_⟩ (by rw[xK];unfold aA;exact uT x)<|.nil ?_;.have:=(l.getD (m+q) 0).toNat_lt;exact(cT.mpr this)
   .rw[F,cC,show(l.getD (m+q) 0).toNat.toUInt8=l.getD (m+q) 0 from UInt8.ofNat_toNat,o];exact z<|.next (f4 4) () trivial rfl
  .intro _ _;rw[j8,Kb];exact .nil<|z<|.next (f4 3) () trivial rfl
 .intro _ _;rw[j8,Kc d];refine .ret (.R7 (.builtin (xI W) xJ<|by decide) (.cons (.g 2) .nil) (.head _) ?_) rfl;simp[s6];unfold aA;exact ME d hz
noncomputable abbrev Ţ:FuncData:=jG (oB PP 21) "_law_turned" [] .none .none .none (.str "law_wz0046_01" 883) ah (.ref 477) .none
noncomputable abbrev aea:List Str:=["text","width","octets"]
theorem aeb(W):gH W 478 Ţ (dA<|oB PP 21) aea:=.plain
theorem DN(W:Wd):l7 W.K a_ "_byteswap"=ae (ae<|.ref 456):=by kernel_rfl
theorem Ke(W:Wd):l7 W.K a_ "isinstance"=ae none:=by kernel_rfl
theorem Kf:cN "isinstance"=ae (.builtin "isinstance"):=by kernel_rfl
theorem WI(W:Wd):l7 W.K a_ "ord"=ae none:=by kernel_rfl
theorem WJ:cN "ord"=ae (.builtin "ord"):=by kernel_rfl
theorem NK(W:Wd):l7 W.K a_ "chr"=ae none:=by kernel_rfl
theorem NL:cN "chr"=ae (.builtin "chr"):=by kernel_rfl
theorem R9(W:Wd):l7 W.K a_ "max"=ae none:=by kernel_rfl
theorem R_:cN "max"=ae (.builtin "max"):=by kernel_rfl
noncomputable def m_(a:List Nat)(w:Nat):List Nat:=(aL a.length).map λp=>a.getD ((p/w)*w+(w-1-p%w)) 0
noncomputable def lT(x:bC)(w:Nat):Str:=⟨(m_ x.cps.toList w).toArray⟩
theorem DO(b:List Nat):dz "" (b.map λc=>⟨#[c]⟩)=⟨b.toArray⟩:=by
 haveI d:∀(l:List Nat) (a),(l.map λc=>(⟨#[c]⟩:bC)).foldl (λa p=>a++("":bC).cps++p.cps) a=a++l.toArray:=by
  intro l;induction l with|nil=>intro a;simp|cons c l e=>
   intro a;rw[ax,gm,e];apply su;haveI:(("":bC)).cps=#[]:=by rfl
   rw[this];simp
 unfold dz;cases b with|nil=>rfl|cons c b=>haveI:=d b #[c];simp only [ax,mT,gQ,List.headD_cons];rw[this];congr 1;apply su;simp
theorem Kg(h:∀c∈a,c<128):(s6 (a.map λc=>c.toUInt8) w).map (λu=>(⟨#[((u.toNat:Int)).toNat]⟩:bC))=(m_ a w).map λc=>⟨#[c]⟩:=by
 unfold s6 m_;rw[aE,aE,af];refine aI λp _=>?_;dsimp only [LI,swapAt];generalize (p/w)*w+(w-1-p%w)=q;congr 2;rw[ak,ak,aq];cases e:a[q]?with|none=>rfl|some c=>
  haveI:=h c<|aZ e;simp only [Option.map_some,lx,cC];haveI b:(YV c).toNat=c:=by simp[YV,UInt8.toNat_ofNat'];exact(ab this<|ap rfl)
  rw[b]
noncomputable abbrev ag5(x:bC)(w:Int)(o:Option T):cG:=[("text",ae (.str x)),("width",ae (.int w)),("octets",o)]
theorem Im{e:Nat}(C:x.cps.all (·<128)=aj)(B:(if w>1 then w else 1)=(e:Int))(r:x.length=k*e)(hz:x.length<=1000)(z:e<=1000):xE W (.ref 478) [.str x,.int w] 2<|.str<|lT x e:=by
 haveI v:0<e:=by split at B<;>omega
 haveI j:x.cps.toList.length=k*e:=by rw[aP];exact r
 have d:x.cps.toList.length<=1000:=by rw[aP];exact hz
 have o:=λc m=>by haveI:=Array.all_eq_true'.mp C c<|f6.mp m;simpa using this
 refine xE.of (aeb W) ["text","width"] ["octets"] (ag5 x w ah) (λD r=>?_) rfl λL I _=>?_;.refine sD r λa b=>?_;kernel_rfl
 haveI p:=cf.Wx (ns:=x.cps.toList.map cS) (by intro n H;refine aU (am.mp H) λc q M=>?_;subst M;haveI:=o c q;exact⟨bc _,by show(c:Int)<256;exact(cT.mpr<|dI this<|by decide)⟩)<|by rw[af];unfold aA;exact uT d
 refine nO.assign (.call (t:=.bytes (x.cps.toList.map λc=>c.toUInt8).toArray) (.glob (DN W)<|by kernel_rfl) (.k<|by kernel_rfl) (.of ?_) (.cons (.cast (.call (.builtin (R9 W) R_ (by decide)<|by kernel_rfl) (.builtin _) (.cons .int<|.cons .n1 .nil) cf.max2<|au _)<|by rw[B]) .nil) (R8 v (by rw[af];exact j) (Ă j d) z)<|al _) ai (.g 2)<|.of ?_
 .refine .cast (.call (.builtin (xI W) xJ<|by decide) (.type _) (.cons (.cast (.sX x.cps.toList (λc=>.str ⟨#[c]⟩) (λc=>.int c) (.of ["sign"] []) (.str .n0 C) (λG E c o=>.pU (.name ai .p0) .o1 λA _=>.call (.builtin (WI W) WJ<|by decide) (.builtin _) (.cons .n0 .nil) cf.ord<|au _)<|by unfold aA;exact uT d)<|show T.list (x.cps.toList.map λc:Nat=>T.int c)=T.list ((x.cps.toList.map cS).map .int) by rw[aE];rfl) .nil) p<|au _) ?_;unfold byteArr;rw[aE];rfl
 .refine .ret (.ite (.val (.call (.builtin (Ke W) Kf<|by decide) (.builtin _) (.cons (.g 2)<|.cons (.builtin (xI W) xJ<|by decide) .nil) cf.isBytes<|au _) .bool) (λ_=>?_) λh=>by cases h) rfl;haveI l:(m_ x.cps.toList e).length<=1000:=by unfold m_;rw[af,aO];exact d
  haveI f:=n8 (xs:=(m_ x.cps.toList e).map λc=>(⟨#[c]⟩:bC)) (sep:="") (by rw[af];exact l) (λy m=>by refine aU (am.mp m) λc _ N=>?_;subst N;exact al _) (by decide)<|by unfold aA;exact ă
  haveI i:(s6 (x.cps.toList.map λc=>c.toUInt8) e).length<=1000:=by unfold s6;rw[af,aO,af];exact d
  haveI s:=Kg (w:=e) o;refine .cast (t:=.str<|dz ""<|(m_ x.cps.toList e).map λc=>(⟨#[c]⟩:bC)) ?_ ?_;with_reducible refine .nK .str (.str _) cQ fN gF ?_ (cf.join f.1 f.2) (au _) (N:=?_) (H:=?_) (p:=?_) (i:=?_)
  refine(.cons (.cast (.sX (s6 (x.cps.toList.map λc=>c.toUInt8) e) (λu=>.int u.toNat) (λu=>.str ⟨#[((u.toNat:Int)).toNat]⟩) (.of ["octet"] []) (fR.bytes<|.g 2) (λG E u P=>.pU (.name ai .p0) .o1 λA _=>.call (.builtin (NK W) NL<|by decide) (.builtin _) (.cons .n0 .nil) (cf.chr ?_)<|au _)<|by unfold aA;exact uT i) ?_) .nil);.haveI:=u.toNat_lt;rw[mn,decide_eq_false_iff_not,decide_eq_false_iff_not];exact Ą this
  .rw[<-s,aE];rfl
  .exact λ_=>ľ
  .exact λ_=>rfl
  .exact λ_=>tt
  .exact tt
  .unfold lT;rw[DO]
theorem lU:yC "method_descriptor" "__get__" "method_descriptor.__get__":=.of (owner:="method_descriptor") (n:="__get__") (by rw[cp,bt];kernel_rfl) (by decide+kernel) (by decide+kernel) (by decide+kernel) (by first|exact .inl<|by decide+kernel|exact .inr<|by decide+kernel)<|by rw[dg];kernel_rfl
theorem s7:gN mF "method_descriptor.__get__"=ae dF.«method_descriptor.__get__»:=kg<|by kernel_rfl
theorem vd(a b c):jV "method_descriptor.__get__" ⟨[a,b,c],[]⟩:=by unfold jV;kernel_rfl
theorem Kh:ds (.type "method_descriptor") "__set__"=bB none:=by rw[cp,bt];kernel_rfl
theorem Ki:ds (.type "method_descriptor") "__delete__"=bB none:=by rw[cp,bt];kernel_rfl
noncomputable abbrev j0(id:String)(a:cj):Obj:={cls:=.type "builtin_function_or_method",data:=.fields #[.builtin id,.ref a]}
section
theorem Gw{id:String}(d:jl (.type b) (.type<|".".intercalate (id.cutAt '.').dropLast)=bB aj)(c:Manifest.toldItsClass.contains id=false)(e:s.TypeIs (.ref a) b)(h:P (.done<|.ret<|.ref s.heap.objs.size) {s with heap:=s.heap.push<|j0 id a}):aD (dL prog w) A (dF.«method_descriptor.__get__» ⟨[.builtin id,.ref a,.type b],[]⟩) P E s:=by wp_walk;rw[c];wp_walk;exact h
theorem R'(e:m=a)(h:aD M A a Q E s):aD M A m Q E s:=e▸h
theorem Gx{d:uJ}(b:(∃a n,d.data=.dict a n)\/∃a n t,d.data=.set a n t){h:Type}{f:Yl->h}{g:h}:(match d.data with|.cls c=>f c|_=>g)=g:=by rcases b with⟨a,n,e⟩|⟨a,n,t,e⟩<;>rw[e]
theorem WK{id:String}(v:s.heap.get? a=ae e)(m:e.cls=.type l)(u:e.dict=ah)(b:(∃i n,e.data=.dict i n)\/∃i n t,e.data=.set i n t)(y:ds (.type l) nm=bB (ae<|.builtin id))(p:fA (.builtin id)=bB (.type "method_descriptor"))(o:jl (.type l) (.type<|".".intercalate (id.cutAt '.').dropLast)=bB aj)(q:Manifest.toldItsClass.contains id=false)(j:[bo "__module__",bo "__name__",bo "__qualname__",bo "__doc__",bo "__annotations__"].contains nm=false)(h:P (.done<|.ret<|.ref s.heap.objs.size) {s with heap:=s.heap.push<|j0 id a}):aD (dL prog w) A (dF.«object.__getattribute__» ⟨[.ref a,.str nm G],[]⟩) P E s:=by
 haveI r:s.TypeIs (.ref a) l:=⟨_,v,m⟩;haveI z:=lU.lookup;haveI B:=Kh;haveI C:=Ki;obtain⟨D,g,d,x,F⟩:=s;haveI k:=p;repeat (any_goals (first|assumption|wp_step))
 refine R' (Gx (f:=λc=>bB<|ae c.ns) (g:=instanceDict a false) b) ?_;repeat (any_goals (first|assumption|wp_step))
 rw[m,u];repeat (any_goals (first|assumption|wp_step))
 rw[j];repeat (any_goals (first|assumption|wp_step))
 refine cz lU.plain s7<|lU.check _ _ _ _ _ _ _ _ k (vd _ _ _)<|Gw o q r ?_;exact ag h
theorem ve{id:String}(f:yC i "__getattribute__" b)(u:gN mF b=ae dF.«object.__getattribute__»)(r:∀x y,jV b ⟨[x,y],[]⟩)(L:JB (nY b)=false)(q:s.heap.get? a=ae e)(o:e.cls=.type i)(F:e.dict=ah)(c:(∃j n,e.data=.dict j n)\/∃j n t,e.data=.set j n t)(z:ds (.type i) nm=bB (ae<|.builtin id))(C:fA (.builtin id)=bB (.type "method_descriptor"))(v:jl (.type i) (.type<|".".intercalate (id.cutAt '.').dropLast)=bB aj)(D:Manifest.toldItsClass.contains id=false)(l:[bo "__module__",bo "__name__",bo "__qualname__",bo "__doc__",bo "__annotations__"].contains nm=false) (h:Q (.ref s.heap.objs.size) {s with heap:=s.heap.push<|j0 id a,toks:=s.toks+1}):aD (dL prog w) A (l_ (.ref a) nm p) Q E s:=by
 have I:=f.lookup;have B:=f.bind<|.ref a;obtain⟨G,g,d,M,H⟩:=s;have m:∀k,(⟨G,g,d,k,H⟩:bk).TypeIs (.ref a) i:=λk=>⟨_,q,o⟩;repeat (any_goals (first|assumption|exact m _|wp_step))
 rw[o];repeat (any_goals (first|assumption|exact m _|wp_step))
 exact cz f.plain u<|f.check _ _ _ _ _ _ _ _ (m _) (r _ _)<|WK q o F c z C v D l<|ag h
theorem vR(g:s.heap.get? a=ae c)(e:c.cls=.type "dict")(f:c.dict=ah)(b:c.data=.dict i n) (h:Q (.ref s.heap.objs.size) {s with heap:=s.heap.push<|j0 "dict.get" a,toks:=s.toks+1}):aD (dL prog w) A (l_ (.ref a) "get" d) Q E s:=ve F.slot_dict_getattribute F.entry_dict_ga F.args_dict_getattribute_2 (by kernel_rfl) g e f (.inl ⟨_,_,b⟩) (by rw[cp,bt];kernel_rfl) (by show QK _=_;rw[uN];kernel_rfl) (by rw[show(".".intercalate ("dict.get".cutAt '.').dropLast)="dict" by decide+kernel,dg];kernel_rfl) (by kernel_rfl) (by kernel_rfl) h
theorem rf(g:s.heap.get? a=ae c)(e:c.cls=.type "set")(f:c.dict=ah)(b:c.data=.set i n t) (h:Q (.ref s.heap.objs.size) {s with heap:=s.heap.push<|j0 "set.__contains__" a,toks:=s.toks+1}):aD (dL prog w) A (l_ (.ref a) "__contains__" d) Q E s:=ve F.slot_set_getattribute F.entry_set_ga F.args_set_getattribute_2 (by kernel_rfl) g e f (.inr ⟨_,_,_,b⟩) (by rw[cp,bt];kernel_rfl) PySem.F.type_set_contains (by rw[show(".".intercalate ("set.__contains__".cutAt '.').dropLast)="set" by decide+kernel,dg];kernel_rfl) (by kernel_rfl) (by kernel_rfl) h
end
theorem xL:jl (.type "dict") (.type "module")=bB false:=by rw[dg];kernel_rfl
theorem Gy:jl (.type "set") (.type "module")=bB false:=by rw[dg];kernel_rfl
noncomputable abbrev By(a:Bool):Obj:={cls:=.type "set",dict:=ah,data:=.set #[] 0<|.fresh 0 0 a}
section
theorem Bz:mh "dict.get"=ae ⟨.positional,"dict.get","get",.self,[⟨"key",.posOnly,aj⟩,⟨"default",.posOnly,false⟩]⟩:=by rw[afh (n:=['t','e','g']) (by kernel_rfl) PySem.F.owner_dict];kernel_rfl
theorem uo:mh "set.__contains__"=ae ⟨.oneArg,"set.__contains__","__contains__",.self,[⟨"object",.posOnly,aj⟩]⟩:=by rw[afh (n:=['_','_','s','n','i','a','t','n','o','c','_','_']) (by kernel_rfl) PySem.F.owner_set];kernel_rfl
theorem zd:i4 "dict.get"=ae .method:=by kernel_rfl
theorem s8:i4 "set.__contains__"=ae .method:=by kernel_rfl
theorem Gz(e:s.heap.get? a=ae o)(c:o.cls=.type "dict")(j:o.data=.dict h n)(i:Q () s):aD (dL prog w) A (fu "dict.get" ⟨[.ref a,k,d],[]⟩) Q E s:=by haveI b:s.TypeIs (.ref a) "dict":=⟨_,e,c⟩;unfold fu;rw[Bz];skip;rw[zd];dsimp only;skip;refine aa<|eW b xL ?_;skip;refine aa ?_;obtain⟨l,g,f,p,m⟩:=s;unfold isType;repeat (any_goals (first|assumption|wp_step))
theorem vT(c:s.heap.get? a=ae (By d))(f:Q () s):aD (dL prog w) A (fu "set.__contains__" ⟨[.ref a,k],[]⟩) Q E s:=by haveI b:s.TypeIs (.ref a) "set":=⟨_,c,rfl⟩;unfold fu;rw[uo];skip;rw[s8];dsimp only;skip;refine aa<|eW b Gy ?_;skip;refine aa ?_;obtain⟨h,g,e,j,i⟩:=s;unfold isType;repeat (any_goals (first|assumption|wp_step))
theorem xM{id:String}(m:s.heap.get? q=ae (j0 id a))(j:yH id=aj)(l:gN mF id=ae B) (h:aD (dL prog w) A.in1 (fu id ⟨.ref a::g,[]⟩) (λ_ b=>aD (dL prog w) A.in1 (B ⟨.ref a::g,[]⟩) (λc s'=>match c with|.done f=>yI Q E (.ok f) s'|.again i=>i.quiet=aj/\gU (dL prog w) A i (yI Q E) s') (λe s'=>E e s') b) E s):aD (dL prog w) A (call (.ref q) g) Q E s:=by
 refine df<|i8 (R:=yI Q E) (h6 ?_) λr s' k=>by cases r with|error e=>exact k|ok f=>cases f<;>exact k
 show aD _ A.in1 (callAny (.ref q) ⟨g,[]⟩) _ _ s;skip;refine aa<|i_ m ?_;dsimp only;skip;show aD _ _ (do fu id ⟨.ref a::g,[]⟩;oz (.builtin id ⟨.ref a::g,[]⟩)) _ _ _;refine aa<|aC h (λ_ b d=>ag ⟨iE j _,h9 l ?_⟩) λ_ _ z=>z;rw[pG j];exact aC d (λc s' z=>z) λ_ _ z=>z
theorem DP{id:String}(c:d.any (·.1)=false) (h:aD (dL prog w) A (Qz (.ref q) aj d []) (λx b=>b.heap.get? q=ae (j0 id a)/\aD (dL prog w) A (call (.ref q) x.pos x.kw) Q E b) E s):aD (dL prog w) A (bS pos (.ref q) [] d []) Q E s:=by skip;refine aa<|aQ<|aC h (λx b e=>aa<|cF ?_) λ_ _ x=>x;(haveI i:=e.1;haveI f:=e.2);rw[c];refine aa ?_;skip;refine aa<|i_ i ?_;dsimp only;refine ag<|aa<|aC f (λr g j=>aa<|aQ<|AO<|ag j) λ_ _ x=>x
end
section
variable {K:Type}[DecidableEq K] 
noncomputable def T.BA:T:=.any (λG v=>∃a b,v=.ref a/\G a=ae (By b)) λ_ _ _ e f=>j7 f λa b c d=>rP a b c<|e _ _ d
noncomputable def T.Sb(a:cj):T:=.any (λG v=>∃q,v=.ref q/\G q=ae (j0 "dict.get" a)) λ_ _ _ d e=>aU e λq b c=>⟨q,b,d _ _ c⟩
noncomputable def T.NM:T:=.any (λG v=>∃q a b,v=.ref q/\G q=ae (j0 "set.__contains__" a)/\G a=ae (By b)) λ_ _ _ c g=>Mq g λq a b d e f=>VW q a b d (c _ _ e)<|c _ _ f
theorem Tr.anyOf(h:Tr G v<|.any p a):p G v:=by cases h;assumption
theorem Ev.newSet(n:Ev C p Ω f<|.val<|.type "set") (m:autoParam (∀env,eval (.Call f [] [] pos) env=(do bS pos (<-eval f env) [] (bb pos<|aw [] env) (bK pos<|aX [] env))) eX):Ev C p Ω (.Call f [] [] pos) T.BA:=λA G s o I S=>by
 refine qw ?_<|m _;refine Run.use (n A G s o I S) λv b j a c d=>?_;cases d
 refine gG (.type _) a.k ?_ rfl;refine cE ⟨a.k,call_set_0 λe=>?_⟩;obtain⟨l,i,x,h⟩:=iQ (t:=T.BA) (s':={b with heap:=b.heap.push<|By e}) a rfl rfl rfl rfl (.any<|rP _ e rfl<|Gh.fD ..);exact⟨l,i,c.trans x,h⟩
theorem Ev.BB(p:Ev C w Ω o T.BA) (n:autoParam (∀env,eval (.Attribute o "__contains__" pos) env=(do
   let r<-eval o env
   fy pos.atName
   let l<-gy [r] (l_ r "__contains__" aj)
   jR o r l
   bB l)) eX):Ev C w Ω (.Attribute o "__contains__" pos) T.NM:=λA G s q I S=>by refine me ?_<|n _;refine Run.use (p A G s q I S) λv c j b d e=>?_;refine j7 (Tr.anyOf e) λa f u k=>?_;subst u;refine rf (b.hM _ _ k) rfl rfl rfl ?_;obtain⟨m,i,x,h⟩:=iQ (t:=T.NM) (s':={c with heap:=c.heap.push<|j0 "set.__contains__" a,toks:=c.toks+1}) b rfl rfl rfl rfl (.any<|VW _ a f rfl (Gh.fD ..)<|Gh.dT (b.cL<|al _) _ _ k);exact⟨m,i,d.trans x,h⟩
theorem Ev.Sc{κ:j' K}(F:Ev C z Ω o<|.val<|.ref a)(d:ia κ C.W Ω (.val<|.ref a) kvs) (E:autoParam (∀env,eval (.Attribute o "get" pos) env=(do
   let r<-eval o env
   fy pos.atName
   let w<-gy [r] (l_ r "get" aj)
   jR o r w
   bB w)) eX):Ev C z Ω (.Attribute o "get" pos)<|T.Sb a:=λA G s L I S=>by
 refine me ?_<|E _;refine Run.use (F A G s L I S) λv b j c f m=>?_;cases m
 refine mG (d C z j b _ rfl c (S.mono f)<|.val _) λM ob e q p n=>?_;cases e
 refine ix (n.of p) λy D N P=>yY D λH R Q l u k _=>vR l u.1 u.2.1 k ?_;obtain⟨B,i,x,h⟩:=iQ (t:=T.Sb a) (s':={b with heap:=b.heap.push<|j0 "dict.get" a,toks:=b.toks+1}) c rfl rfl rfl rfl (.any ⟨_,rfl,Gh.fD ..⟩);exact⟨B,i,f.trans x,h⟩
theorem Ac{W:Wd}{id:String} (h:aD W.M A (yx<|bb pos<|aw f env) (λg c=>c.heap.get? q=ae (j0 id a)/\aD W.M A (call (.ref q) g) Q E c) E s) (d:∃t ts,bb pos (aw f env)=t::ts/\(t::ts).any (·.1)=false):aD W.M A (bS pos (.ref q) [] (bb pos<|aw f env) []) Q E s:=by
 refine j7 d λt ts e d=>?_;rw[e] at h⊢;refine DP (id:=id) (a:=a) d ?_;obtain⟨b,x⟩:=t;have:b=false:=by cases b with|false=>rfl|true=>exact tF d
 subst this;exact aeT h
theorem Ev.Sd{κ:j' K}(hf:Ev C Q Ω f<|T.Sb a)(d:ia κ C.W Ω (.val<|.ref a) kvs)(h:oD C Q Ω i [κ.enc key,u]) (hp:autoParam (∀env,∃t ts,bb pos (aw i env)=t::ts/\(t::ts).any (·.1)=false) adJ) (he:autoParam (∀env,eval (.Call f i [] pos) env=(do bS pos (<-eval f env) [] (bb pos<|aw i env) (bK pos<|aX [] env))) eX):Ev C Q Ω (.Call f i [] pos)<|(mJ kvs key).getD u:=λA G s ok I S=>by
 refine qw ?_<|he _;refine Run.use (hf A G s ok I S) λv D m n j z=>?_;refine aU (Tr.anyOf z) λq q0 hq=>?_;subst q0;refine Ac (id:="dict.get") (a:=a) ?_<|hp _;refine Run.use (h A m D pos ok n<|S.mono j) λvs l k b c B=>⟨b.hM _ _<|c.sub _ _ hq,?_⟩;cases B using aG.ca with|cons M r=>
  cases r using aG.ca with|cons L r=>
   cases r
   refine mG (d C Q k l _ rfl b ((S.mono j).mono c)<|.val _) λa' ob e x N H=>?_;cases e
   refine ix (H.of N) λE R d2 d3=>yY (id R) λa0 es ep p hx o P=>xM (b.hM _ _<|c.sub _ _ hq) o7.plain zB<|Gz p hx.1 o ?_;refine(LH (κ.knd C.W) a (κ.is _ _ _ _ M) x _) A _ l ⟨yE E,R.mapOf,?_⟩;refine⟨k,b.bL rfl rfl rfl,(j.trans c).trans<|.bL rfl,?_⟩;haveI pg:=lC key d2 d3;cases q:mJ kvs key with|none=>rw[pg.2 q];exact L|some w=>refine aU (pg.1 w q) λy e1 e2=>?_;rw[e1];exact e2
theorem Ev.mK(Q:Ev C M Ω f T.NM)(h:oD C M Ω d [.str x]) (R:autoParam (∀env,∃t ts,bb pos (aw d env)=t::ts/\(t::ts).any (·.1)=false) adJ) (D:autoParam (∀env,eval (.Call f d [] pos) env=(do bS pos (<-eval f env) [] (bb pos<|aw d env) (bK pos<|aX [] env))) eX):Ev C M Ω (.Call f d [] pos)<|.bool false:=λA G s H I S=>by
 refine qw ?_<|D _;refine Run.use (Q A G s H I S) λv y m n j u=>?_;refine Mq (Tr.anyOf u) λq a a0 q0 E P=>?_;subst q0;refine Ac (id:="set.__contains__") (a:=a) ?_<|R _;refine Run.use (h A m y pos H n<|S.mono j) λvs z i b c w=>⟨b.hM _ _<|c.sub _ _ E,?_⟩;cases w using aG.ca with|@cons B _ p r=>
  cases r
  obtain⟨L,rfl⟩:∃L,B=q_ x L:=by cases p;exact⟨_,rfl⟩
  haveI o:=b.hM _ _<|c.sub _ _ P;refine xM (b.hM _ _<|c.sub _ _ E) PySem.F.slot_set_contains.plain entry_set_contains<|vT o ?_;have N:z.heap.SetOf (kS.knd C.W) a (λ_=>false) 0:=afK _ (#[]) 0 _ o ⟨rfl,rfl,rfl⟩ rfl (λe D=>by simp at D) (λk=>by simp) (dN tt) (by rfl) rfl;have l:=kS.is C.W i x _ p;unfold dF.«frozenset.__contains__» QL;simp only [List.isEmpty_nil,bind_assoc];skip;refine aa<|ag ?_;skip;refine aa<|ag ?_;try dsimp only
  refine aa<|tH ?_;refine aQ<|aa<|(kS.knd C.W).pyHash l ?_;refine aa<|wpAny_setFind_of l ?_ N λr hr=>?_;.rfl
  refine ag ?_;skip;exact FJ hr▸ag ⟨i,b.bL rfl rfl rfl,(j.trans c).trans<|.bL rfl,Tr.bool _⟩
end
section
variable {K:Type}[DecidableEq K] 
theorem aG.snoc(h:aG G c<|ts++[t]):∃l v,c=l++[v]/\aG G l ts/\Tr G v t:=by
 induction ts generalizing c with
 |nil=>cases h using aG.ca with|cons h r=>cases r using aG.V3;exact t9 ([]) _ rfl .nil h
 |cons _ ts d=>cases h using aG.ca with|cons h r=>refine gc (d r) λl v e a b=>t9 (_::l) v (congrArg _ e) (.cons h a) b
theorem Se(p:eL Ω a (.list<|ts++[t]) (.list ts) bT)(m:ts.length+1<=aA):∀A G s,Inv C.W G s->St C y Ω G s->aD C.W.M A (call (.builtin "list.pop") [.ref a]) (λv s'=>Inv C.W G s'/\St C y bT G s'/\Tr G v t) (λ_ _=>False) s:=λA G s I S=>by
 refine sB (S.own _ p.mem) λz q0 B n=>?_;refine cc q0 λD q1=>?_;clear q0;refine bu q1 λb q2=>?_;clear q1;refine j7 q2 λd o q3 r=>?_;clear q2;subst q3;refine gc (aG.snoc r) λl v f i u=>?_;haveI j:=i.length;have e:d.size=l.length+1:=by rw[<-aP,f];exact aM
 haveI k:d[d.size-1]?=ae v:=by rw[<-bN,f,e];exact yK
 refine rp o9 ⟨_,b,rfl⟩ zE (PySem.F.args_list_pop_1 _) (VQ a d o v k<|ą m j e) ⟨b,?_⟩;haveI g:iO a s.heap<|s.heap.update a<|cn λw=>w.eraseIdxIfInBounds<|d.size-1:=cW ..;haveI h:=λc x q=>g.extBut c x q;refine⟨I.dU S p.mem h rfl rfl,S.dU p rfl rfl h ⟨_,cK _ b rfl,_,_,rfl,?_⟩,u⟩;haveI:(d.eraseIdxIfInBounds<|d.size-1).toList=l:=by rw[mW];rw[dif_pos<|Ć e];rw[CJ,f,e,Lu,tL<|al _,eK];simp
 rw[this];exact i
theorem jb.Kj{id:String}(L:Ev C D Ω o<|.val<|.ref a)(p:eL Ω a (.list ts) (.list Vc) bT)(w:yC "list" name id)(y:fA (.builtin id)=bB (.type "method_descriptor")) (B:∀A G s,Inv C.W G s->St C D Ω G s->aD C.W.M A (er (nY id) [.ref a]) (λv s'=>Inv C.W G s'/\St C D bT G s'/\Tr G v t) (λ_ _=>False) s) (H:autoParam (∀env,dG o name env (eval o env)=eval o env) eX) (h:autoParam ((m.endLine==pos.line)=aj) iF):jb C D Ω (.Call (.Attribute o name m) [] [] pos) λu i=>u=t/\i=bT:=λA G s N I S=>by
 refine fc (H _) rfl h hZ w y<|Run.use (L A G s N I S) λv x d c g n=>?_;cases n
 have f:=S.mono g;refine gR (f.own _ p.mem) λ_ q0 _=>?_;refine cc q0 λo' q1=>?_;clear q0;refine bu q1 λe q2=>?_;clear q1;refine j7 q2 λP R q3 _=>?_;clear q2;subst q3;refine⟨⟨_,e,rfl⟩,λb q=>by cases q;exact⟨_,e,rfl⟩,gG (.builtin _) c.k ?_ rfl⟩;refine cE ⟨c.k,?_⟩;exact aC (B A d x c f) (λv E Q=>gR Q λj l r=>⟨d,t,bT,⟨rfl,rfl⟩,j,l,g.sub,r⟩) λ_ _ z=>z
end
end
section
open Array renaming forIn_toList->HL
open Int renaming le_of_sub_nonneg->Hz
open List renaming take_succ_eq_append_getElem->t5,lookup->wg,find?_eq_none->JC
open Option renaming map_eq_none_iff->AQ,map_map->Ml
open PyProof.Rows renaming seqObj->nv,listUpdate_at->HK,seqEpoch_at->QM,get?_update_seq->YW
open PySem renaming wpAny_isSame_plain->we,wpAny_eqBool_int->zF,truthOfDropped->ae2,wpAny_newTuple->ae3
open PySem.Builtin.List renaming listItems->YX,listUpdate->YY
open PySem.Builtin.SmallTypes renaming newRecord->afi
open PySem.F renaming slot_dict_setdefault->uO,entry_extend_loop->Mi,plain_extend_loop->Mj
open PySem.Heap renaming get?_push_ne->LO,size_update->Mg
open PySem PySem.W PySem.Calls PyProof.Rows PySem.SeqAt Builtin
noncomputable def MM(a b:Int×Int×Int):Bool:=if a.1=b.1 then(if a.2.1=b.2.1 then decide (a.2.2<b.2.2) else decide (a.2.1<b.2.1)) else decide (a.1<b.1)
noncomputable def Kk(h:lm)(x:cj)(m:Int×Int×Int):Prop:=∃o n t u v,h.get? x=ae o/\o.cls=.ref 135/\o.data=.seq #[.int m.1 t,.int m.2.1 u,.int m.2.2 v] n
section
theorem BC{W:Wd}(h:Q (.bool<|decide<|i<j) s):aD W.M A (richCompare .Lt (.int i t)<|.int j u) Q E s:=show aD W.M A (Yc .Lt (.int i t)<|.int j u) Q E s from wpAny_lt_int h
theorem NN{W:Wd}(X:W.K.In s.heap)(l:Kk s.heap x a)(o:Kk s.heap y b)(h:Q (.bool<|MM a b) s):aD W.M A (er (.builtin "tuple.__lt__") [.ref x,.ref y]) Q E s:=by
 refine Rg l λR L B C D l u w=>?_;refine Rg o λS N G H I o v z=>?_;obtain⟨j,g,d,tk,P⟩:=s;haveI r:cU W.M j (fA<|.ref x)<|.ref 135:=u▸(jW (part:=ah) l).andThen .now;haveI t:cU W.M j (fA<|.ref y)<|.ref 135:=v▸(jW (part:=ah) o).andThen .now;haveI c:=qI (M:=W.M) X;haveI p:cU W.M j (fB (.ref x)<|.type "tuple") true:=r.andThen c;haveI q:cU W.M j (fB (.ref y)<|.type "tuple") true:=t.andThen c;refine df<|cz PySem.F.slot_tuple_lt.plain PySem.F.entry_tuple_lt<|i' (i:="tuple.__lt__") (n:="__lt__") (by decide+kernel) (by decide+kernel) p (PySem.F.args_tuple_lt_2 _ _) ?_;skip;refine aa (m:=slotArgs "__lt__" 1 ⟨[.ref x,.ref y],[]⟩)<|bP (by first|rfl|kernel_rfl) ?_;dsimp only;refine aa<|q.at ?_;skip;wp_walk;rw[w];wp_walk;rw[z];refine ag<|ag ?_;refine aa ?_;show aD _ _ (Fo [(LD a.1 B,LD b.1 G),(.int a.2.1 C,.int b.2.1 H),(.int a.2.2 D,.int b.2.2 I)] _ _) _ _ _;unfold MM at h;rw[eC];refine aa<|aa<|zF ?_;by_cases e:a.1=b.1
 .rw[e];rw[if_pos e] at h;rw[if_neg<|by simp];refine ag ?_;dsimp only;rw[eC];refine aa<|aa<|zF ?_;by_cases f:a.2.1=b.2.1
  .rw[f];rw[if_pos f] at h;rw[if_neg<|by simp];refine ag ?_;dsimp only;rw[eC];refine aa<|aa<|zF ?_;by_cases k:a.2.2=b.2.2
   .rw[k];rw[k] at h;rw[if_neg<|by simp];refine ag ?_;dsimp only;skip;refine ag ?_;have:decide (b.2.2<b.2.2)=false:=by simp
    rw[this] at h;exact ag h
   .haveI:(a.2.2==b.2.2)=false:=by simpa using k
    rw[this,if_pos<|by rfl];refine aa<|iB<|aa<|BC ?_;exact aa<|ag<|ag<|ag<|ag h
  .rw[if_neg f] at h;haveI:(a.2.1==b.2.1)=false:=by simpa using f
   rw[this,if_pos<|by rfl];refine aa<|iB<|aa<|BC ?_;exact aa<|ag<|ag<|ag<|ag h
 .rw[if_neg e] at h;have:(a.1==b.1)=false:=by simpa using e
  rw[this,if_pos<|by rfl];refine aa<|iB<|aa<|BC ?_;exact aa<|ag<|ag<|ag<|ag h
theorem DQ{W:Wd}(N:W.K.In s.heap)(o:A.units<jj)(e:Kk s.heap x a)(p:Kk s.heap y b)(h:Q (MM a b) s):aD W.M A (keyLt' oneType' (.ref x)<|.ref y) Q E s:=by
 rw[keyLt'_oneType,oneLt'_eq];skip;refine aa<|ae1 o ?_;refine aa ?_;haveI i:aD W.M A (er (.builtin "tuple.__lt__") [.ref x,.ref y]) (λv k=>v=.bool (MM a b)/\k=s) E s:=NN N e p ⟨rfl,rfl⟩;refine Rg e λG D H I L e l C=>?_;obtain⟨f,g,d,u,q⟩:=s;haveI j:cU W.M f (fA<|.ref x)<|.ref 135:=l▸(jW (part:=ah) e).andThen .now;haveI t:cU W.M f (jm (.ref x) "__lt__")<|ae<|.builtin "tuple.__lt__":=j.andThen<|dQ N<|by kernel_rfl
 haveI B:=PySem.F.slot_tuple_lt.bind<|.ref x;skip;refine aQ<|aa<|aa<|t.at ?_;skip;skip;haveI c:aD W.M A (er (.builtin "tuple.__lt__") ([.ref x]++[.ref y])>>=λv=>bB<|ae v) (λr=>aD W.M A (match r with
   |some .notImplemented|none=>do
    rule "list.sort.lt-declined"
    ae2 (<-richCompare .Lt (.ref x) (.ref y))
   |some r=>ae2 r) Q E) E ⟨f,g,d,u,q⟩:=by
  refine aa<|aC i (λv k w=>bu w λm n=>?_) λ_ _ z=>z;subst m;subst n;refine ag<|cm h
 refine aa<|mS<|Jv ?_;split;.exact aa<|ag<|ag c
 .exact tH<|aa<|ag<|ag c
end
noncomputable def BD(n:Nat)(b:Nat->Nat->Bool):KasT α->Option α|.ret a=>ae a|.ask i j k=>if i<n/\j<n then BD n b (k<|b i j) else ah
theorem Kl(h:∀i j C,i<n->j<n->C (f i j) s->d i j C s) (e:BD n f t=ae a)(q:Q a s):t.kasWp d Q s:=by
 induction t with|ret b=>exact bq e▸q|ask i j k g=>
  have e:(if i<n/\j<n then BD n f (k<|f i j) else ah)=ae a:=e;by_cases c:i<n/\j<n;.rw[if_pos c] at e;exact h i j _ c.1 c.2<|g _ e
  .rw[if_neg c] at e;cases e
noncomputable abbrev M3:Type:=Int×Int×Int
noncomputable def DR(l:List M3):Option<|List M3:=if l.length<2 then ae l else match BD l.length (λi j=>MM (l.getD i (0,0,0))<|l.getD j (0,0,0)) (kas_sort l.length) with|none=>ah|some p=>if p.toList.all (·<l.length) then ae (p.toList.map λi=>l.getD i (0,0,0)) else ah
noncomputable def qJ(m:M3):T:=T.mt m.1 m.2.1 m.2.2
section
theorem NO{s:bk}(b:∀a o,G a=ae o->s.heap.get? a=ae o)(h:Tr G v<|qJ m):∃x o,v=.ref x/\G x=ae o/\Kk s.heap x m:=by
 skip;skip;cases h using Tr.rQ with|@seq a o k n g f p i j=>
  obtain⟨l⟩:=k;cases j using aG.ca with|cons c r=>
   cases r using aG.ca with|cons d r=>
    cases r using aG.ca with|cons e r=>
     cases c;cases d;cases e
     cases r
     exact⟨a,o,rfl,g,o,n,_,_,_,b _ _ g,f,i⟩
theorem aG.getM{a:List M3}(h:aG G c<|a.map qJ):∀i,i<a.length->Tr G (c.getD i .none) (qJ<|a.getD i (0,0,0)):=by induction a generalizing c with|nil=>intro i b;simp at b|cons m a d=>intro i b;cases h using aG.ca with|cons h r=>cases i with|zero=>exact h|succ i=>exact d r i<|by simpa using b
theorem aG.Vi{a:List M3}(h:aG G c<|a.map qJ)(p:List Nat)(b:∀i∈p,i<a.length):aG G (p.map λi=>c.getD i .none)<|(p.map λi=>a.getD i (0,0,0)).map qJ:=by induction p with|nil=>exact .nil|cons i p ih=>exact .cons (h.getM i<|b i bH)<|ih λj m=>b j<|aY _ m
theorem NP(p:eL Ω a (.list<|E.map qJ) (.list<|F.map qJ) bT)(hs:DR E=ae F)(hl:E.length<64):∀A G s,Ok A C.n->Inv C.W G s->St C Γ Ω G s->aD C.W.M A (call (.builtin "list.sort") [.ref a]) (λ_ s'=>Inv C.W G s'/\St C Γ bT G s') (λ_ _=>False) s:=λA G s ok I S=>by
 obtain⟨hG,⟨o1,l,⟨h⟩,n1,rfl,t1⟩,hf,b4⟩:=S.own _ p.mem;haveI e1:=t1.length;rw[af] at e1;haveI l:s.heap.get? a=ae (nv "list" h.toArray n1):=l;haveI ha:=db l;have d:h.length=E.length:=e1;refine ec slot_list_sort ⟨_,l,rfl⟩ entry_list_sort ?_<|args_list_sort _;rw[list_sort_plain];refine aa<|listItems_at l rfl ?_;refine aa<|HK l rfl ?_ (by rw[gi,fW];exact Uj hl d)<|au _;obtain⟨e,a6⟩:∃e,(s.heap.update a<|cn λ_=>(#[]:Array aW)).get? a=ae (nv "list" #[] e):=⟨_,YW l λ_=>#[]⟩;refine aa<|QM a6 rfl ?_;refine aa<|ae3 ?_<|by show h.length<=_;rw[fW];exact Uj hl d
 refine aa<|afb ?_<|au _;refine aQ ?_;have u:(((s.heap.update a<|cn λ_=>#[]).push<|nv "tuple" h.toArray 0).push<|nv "list" #[] 0).get? a=ae (nv "list" #[] e):=by
  rw[LO _ _ _<|by rw[size_push',Mg];exact bJ<|eY ha,LO _ _ _<|by rw[Mg];exact bJ ha];exact a6
 show aD C.W.M _ _ _ _ {s with heap:=((s.heap.update a<|cn λ_=>#[]).push<|nv "tuple" h.toArray 0).push<|nv "list" #[] 0};dsimp only;haveI s1:iO a s.heap<|s.heap.update a<|cn λ_=>(#[]:Array aW):=cW ..;have r:∀b o,b≠a->s.heap.get? b=ae o->(((s.heap.update a<|cn λ_=>#[]).push<|nv "tuple" h.toArray 0).push<|nv "list" #[] 0).get? b=ae o:=λb o ne e=>aN _<|aN _<|s1.extBut b o ne e;generalize ((s.heap.update a<|cn λ_=>#[]).push<|nv "tuple" h.toArray 0).push (nv "list" #[] 0)=H at u r⊢;have a8:∀f:List aW,f.length=F.length->F.length<64->aG G f (F.map qJ)->∃v,PySem.Fin.done (.ret .none)=.done (.ret v)/\Inv C.W G {s with heap:=H.update a<|cn λ_=>f.toArray}/\St C Γ bT G {s with heap:=H.update a<|cn λ_=>f.toArray}:=λf _ _ to=>by
  refine cc ((⟨_,YW u λ_=>f.toArray⟩:∃e3,(H.update a<|cn λ_=>f.toArray).get? a=ae (nv "list" f.toArray e3))) λe3 b2=>?_;have s2:iO a H<|H.update a<|cn λ_=>f.toArray:=cW ..;haveI hb:=λc x ne e=>s2.extBut c x ne<|r c x ne e;exact⟨_,rfl,I.dU S p.mem hb rfl rfl,S.dU p rfl rfl hb ⟨_,b2,f.toArray,e3,rfl,to⟩⟩
 haveI P:=a8;haveI N:aG G h<|E.map qJ:=t1;by_cases D:h.toArray.size<2
 .have t:E.length<2:=by rw[gi] at D;exact ć d D
  unfold DR at hs;rw[if_pos t] at hs;cases hs
  rw[if_pos D,if_pos D];refine aa<|ag ?_;skip;refine aa<|ag ?_;dsimp only;refine aa<|QM u rfl ?_;haveI B:Array.map (λx:Keyed=>x.2) (arrOf<|SortSt.mk' general' (h.toArray.zip h.toArray) #[] 7 ah)=h.toArray:=by skip;apply su;rw[Array.toList_map,Array.toList_zip];exact oH<|al _
  rw[B];refine aa<|HK u rfl ?_ (au _)<|by rw[gi,fW];exact Ĉ d t
  skip;rw[if_neg<|by simp];exact ag<|P h d hl N
 .have t:¬E.length<2:=by rw[gi] at D;exact ĉ d D
  unfold DR at hs;rw[if_neg t] at hs;cases b3:BD E.length (λi j=>MM (E.getD i (0,0,0))<|E.getD j (0,0,0)) (kas_sort E.length) with|none=>rw[b3] at hs;exact nS hs|some pr=>
   rw[b3] at hs;by_cases a0:(pr.toList.all (·<E.length))=aj
   .replace hs:=(if_pos a0).symm.trans hs;rw[if_neg D,if_neg D];cases hs
    haveI a5:=λb o e=>r b o (λq=>by rw[q] at e;rw[hG] at e;cases e)<|I.hM b o e;haveI X:C.W.K.In H:=(I.dU S p.mem r (s':={s with heap:=H}) rfl rfl).k;refine aa<|kas_kind (T:=.ref 135) (Uk d t) (λv hv=>?_) (dD tt) (dD tt) ?_
    .refine cc (List.mem_iff_getElem.mp hv) λi q0=>cc q0 λR e=>?_;have:=N.getM i<|Ul d R;rw[ak,ay R,lx,e] at this;refine cc (NO I.hM this) λx z0=>?_;refine cc z0 λo z1=>?_;clear z0;refine bu z1 λz2 z3=>?_;clear z1;subst z2;refine bu z3 λg z4=>?_;clear z3;refine Rg z4 λo' n' t' u' v' h1 D h3=>?_;clear z4;haveI b1:=a5 x o g;haveI e1:o'=o:=by rw[I.hM x o g] at h1;cases h1;rfl
     subst e1;exact D▸(jW (part:=ah) b1).andThen .now
    haveI hq:∀i∈pr.toList,i<E.length:=λi m=>by
     haveI:=List.all_eq_true.mp a0 i m;simpa using this
    refine aa<|aC (kat_run (Q:=λL s'=>∃q:Array Nat,q.size=h.length/\arrOf L=q.map (kas_item<|h.toArray.zip h.toArray)/\failedOf L=ah/\q=pr/\s'={s with heap:=H}) rfl (Uk d t) (Um hl d) (λp' L s' a1 a2 a3 a4=>⟨p',a1,a2,a3,a4⟩)<|Kl (λi j K R hj hK=>?_) (by rw[d];exact b3) ⟨rfl,rfl⟩) ?_ λ_ _ z=>z
    .have w:∀i,i<E.length->∃x,h.getD i .none=.ref x/\Kk H x (E.getD i (0,0,0)):=λi R=>by refine gc (NO (s:={s with heap:=H}) a5<|N.getM i R) λx o e g m=>⟨x,e,m⟩
     refine aU (w i<|R) λx ex mx=>aU (w j<|hj) λy ey my=>?_;unfold kas_ask;rw[ex,ey];exact DQ X (by haveI:=ok.units;show A.units+1<jj;unfold jj;exact Ċ this) mx my hK
    .rintro⟨⟨⟩,L⟩ s' ⟨q,a7,a9,b0,rfl,rfl⟩;skip;have B:=kat_snds rfl a9;refine aa<|QM u rfl ?_;rw[B];refine aa<|HK u rfl ?_ (au _)<|by rw[gi,af,aP,a7,fW];exact(d▸aF (dI hl<|by decide))
     rw[b0];show aD _ _ (if(e !=e)=aj then _ else _) _ _ _;rw[if_neg<|by simp];exact ag<|P _ (by simp) (by rw[af,aP,a7];exact Um hl d)<|N.Vi q.toList hq
   .exact nS<|(if_neg a0).symm.trans hs
end
noncomputable abbrev qK:Obj:=n6 (.ref 89)<|.ref 135
noncomputable def T.NQ:T:=.any (λG v=>∃q,v=.ref q/\G q=ae qK) λ_ _ _ c d=>aU d λq a b=>⟨q,a,c _ _ b⟩
theorem Km(W:Wd):findCls W.K (.ref 135) (.type "type") "_make"=ae (.get (.builtin "classmethod.__get__") (.ref 91) .none<|.ref 135):=by kernel_rfl
theorem DS(W:Wd):readsIn W.K 135 (.type "type")=true:=by kernel_rfl
theorem NR(W:Wd):recIn W.K 91 "classmethod"=ae [.ref 89,.bool false]:=by kernel_rfl
section
theorem Ev.NS(m:Ev C p Ω o<|.val<|.ref 135) (l:autoParam (∀env,eval (.Attribute o "_make" pos) env=(do
   let r<-eval o env
   fy pos.atName
   let f<-gy [r] (l_ r "_make" aj)
   jR o r f
   bB f)) eX):Ev C p Ω (.Attribute o "_make" pos) T.NQ:=λA G s n I S=>by
 refine me ?_<|l _;refine Run.use (m A G s n I S) λv b e a c d=>?_;cases d
 refine cls_bind a.k (DS C.W) (Km C.W)<|df<|cm_get a.k (NR C.W)<|Jx rfl ?_;obtain⟨j,i,x,h⟩:=iQ (t:=T.NQ) (s':={b with heap:=b.heap.push qK,toks:=b.toks+1}) a rfl rfl rfl rfl (.any ⟨_,rfl,Gh.fD ..⟩);exact⟨j,i,c.trans x,h⟩
theorem cf.aec:cf (.builtin "len") [T.mt i j k] 0<|.int 3:=λW A G s L E I h=>by
 cases h using aG.ca with|cons h r=>
  cases r
  refine cc (NO (m:=(i,j,k)) I.hM h) λx q0=>?_;refine cc q0 λo q1=>?_;clear q0;refine bu q1 λq2 q3=>?_;clear q1;subst q2;refine bu q3 λg q4=>?_;clear q3;refine Rg q4 λD n t u v y q w=>?_;clear q4;haveI N:W.K.In s.heap:=I.k;haveI z:∀p,Run W A (bB<|.int 3 p) G s<|KT<|.int 3:=λp=>.pure I<|Tr.int _ _;haveI l:∀c,ua W G s (KT<|.int 3) (.int 3<|c-1) {s with toks:=c}:=λc=>⟨G,I.bL rfl rfl rfl,.bL rfl,Tr.int _ _⟩;obtain⟨e,C,d,c,H⟩:=s;have b:cU W.M e (fA<|.ref x)<|.ref 135:=q▸(jW (part:=ah) y).andThen .now;haveI f:cU W.M e (fB (.ref x)<|.type "tuple") true:=b.andThen<|qI N;haveI B:cU W.M e (jm (.ref x) "__len__")<|ae<|.builtin "tuple.__len__":=b.andThen<|dQ N<|by kernel_rfl
  refine yT kind_len plain_len Yn (args_len1 _) ?_;skip;refine aa (m:=oneArg "len" _)<|ag ?_;refine aa ?_;skip;refine aa<|B.at ?_;skip;skip;refine aQ<|aa<|ag<|aa ?_;dsimp only;refine df<|cz PySem.F.slot_tuple_len.plain PySem.F.entry_tuple_len<|i' (i:="tuple.__len__") (n:="__len__") (rest:=[]) (by decide+kernel) (by decide+kernel) f (PySem.F.args_tuple_len_1 _) ?_;skip;refine aa<|bP (a:=(.ref x,[])) (by first|rfl|kernel_rfl) ?_;dsimp only;skip;wp_walk;rw[w];wp_walk;exact⟨_,rfl,G,I.bL rfl rfl rfl,.bL rfl,Tr.int _ _⟩
noncomputable abbrev ŧ:FuncData:=jG (g8 PP 3 5) "Match._make" [] .none .none (mH (g8 PP 3 5) 293) (.str "cpy313.difflib" 194) (ae 92) (.ref 88) .none
theorem aed(W):gH W 89 ŧ (dA<|g8 PP 3 5) ["cls","iterable","result"]:=.plain
theorem Sf:cu W (.ref 89) [.val<|.ref 135,.tuple [.int i,.int j,.int k]] 1 [] λt c=>t=T.mt i j k/\c=[]:=by
 refine cu.of (aed W) ["cls","iterable"] ["result"] [("cls",ae (.val<|.ref 135)),("iterable",ae (.tuple [.int i,.int j,.int k])),("result",ah)] (λd e=>?_) rfl (λL I _=>?_) λt l h p m=>by refine bu h λ_ f=>?_;try clear h;subst f;cases m
 .refine sD e λa b=>?_;kernel_rfl
 refine .ph .str<|.assign (t:=T.mt i j k) (.Dv (.builtin (xq W) xr xt) (.cons .n0<|.cons .n1 .nil) (.inr rfl)<|dN tt) ai (.g 2)<|.ite (.cmp (.call (.builtin (oR W) oS oT) (.builtin _) (.cons (.g 2) .nil) cf.aec<|au _) .int fe.M0) (λh=>?_) λ_=>?_;.exact absurd h<|dD tt
 .exact .nil<|.ret (.g 2)<|.inl ⟨_,rfl,rfl,rfl⟩
theorem Kn(g:Ok A 1)(I:Inv W G s)(d:s.heap.get? q=ae qK)(h:Tr G v<|.tuple [.int i,.int j,.int k]):Run W A (er (.ref q) [v]) G s<|KT<|T.mt i j k:=by
 haveI z:=Sf A G s [.ref 135,v] g I (.cons (.val _)<|.cons h .nil)<|.nil G s;refine df<|i8 (Mh d z) λr m a=>?_;rcases r with e|(v|_|_|_)<;>try exact a.elim
 obtain⟨b,t,l,⟨rfl,rfl⟩,c,x,_,_,f⟩:=a;exact⟨b,c,x.ext rfl,f⟩
end
theorem iL:yC "map" "__next__" "map.__next__":=.of (owner:="map") (n:="__next__") (by rw[cp,bt];kernel_rfl) (by decide+kernel) (by decide+kernel) (by decide+kernel) (by first|exact .inl<|by decide+kernel|exact .inr<|by decide+kernel)<|by rw[dg];kernel_rfl
theorem rH:gN mF "map.__next__"=ae dF.«map.__next__»:=kg<|by kernel_rfl
theorem s9(a):jV "map.__next__" ⟨[a],[]⟩:=by unfold jV;kernel_rfl
theorem NT:VL (.type "map")=bB [.type "map",.type "object"]:=by rw[mroOf_type];kernel_rfl
theorem ze:ds (.type "map") "__new__"=bB (ae<|.builtin "map.__new__"):=by rw[cp,bt];kernel_rfl
theorem BE:yC "map" "__init__" "object.__init__":=.of (owner:="object") (n:="__init__") (by rw[cp,bt];kernel_rfl) (by decide+kernel) (by decide+kernel) (by decide+kernel) (by first|exact .inl<|by decide+kernel|exact .inr<|by decide+kernel)<|by rw[dg];kernel_rfl
theorem ur:TS "map" "map.__new__" "object.__init__":=⟨by decide+kernel,by decide+kernel,CN _ _ NT,ĕ NT ze<|by decide+kernel,by decide+kernel,by rw[dg];kernel_rfl,BE⟩
theorem DT(a b):HJ "map" ⟨[a,b],[]⟩=bB ():=by kernel_rfl
theorem GA(a b):eV "map.__new__" ⟨[.type "map",a,b],[]⟩=bB ():=by kernel_rfl
theorem BF:gN mF "map.__new__"=ae dF.«map.__new__»:=kg<|by kernel_rfl
theorem BG:yH "map.__new__"=true:=by decide+kernel
theorem WL:jl (.type "map") (.type "map")=bB true:=by rw[dg];kernel_rfl
theorem Ko:ds (.type "map") "__len__"=bB none:=by rw[cp,bt];kernel_rfl
theorem GB:ds (.type "map") "__length_hint__"=bB none:=by rw[cp,bt];kernel_rfl
noncomputable abbrev NU(t q:cj):Obj:={cls:=.type "map",data:=.fields #[.ref t,.ref q]}
structure DU(h:lm)(I q l t J i):Prop where
 map:h.get? I=ae (NU t q)
 tup:h.get? t=ae (nv "tuple" #[.ref J] 0)
 it:h.IsListIter J l i
section
theorem NV(ok:Ok A.in1 1)(E:Inv W G s)(M:DU s.heap I q l t J k)(H:G J=ah)(B:J≠I/\J≠t/\J≠q/\J≠l)(N:s.heap.get? q=ae qK)(L:s.heap.IsList l vs)(R:vs[k]?=ae v)(Q:Tr G v<|.tuple [.int i,.int j,.int n]):aD W.M A (l8<|.ref I) (λr s'=>∃x u,r=ae x/\Inv W u s'/\Tr u x (T.mt i j n)/\(∀a o,a≠J->s.heap.get? a=ae o->s'.heap.get? a=ae o)/\s'.heap.IsListIter J l (k+1)/\Sub G u/\∀a o,u a=ae o->G a=ae o\/s.heap.get? a=ah) (λ_ _=>False) s:=by
 haveI C:s.TypeIs (.ref I) "map":=⟨_,M.map,rfl⟩;skip;refine aa<|iD<|eE C iL ?_;refine df<|cz iL.plain rH<|iL.check _ _ _ _ _ _ _ _ C (s9 _) ?_;skip;refine aa<|bP (by first|rfl|kernel_rfl) ?_;dsimp only;refine aa<|cR M.map rfl (x:=.ref t) rfl ?_;refine aa<|dX M.tup rfl ?_;skip;show aD _ _ (Fo (#[ef J]) #[] _>>=_) _ _ _;rw[<-HL];skip;rw[eC];refine aa<|aa<|aa<|aQ<|wpAny_nextOf_list_item M.it L R λF g sb=>?_;refine ag ?_;dsimp only;skip;refine ag ?_;haveI p:=λa o w=>sb.extBut a o w;haveI d:Inv W G {s with heap:=F}:=E.turn H p rfl rfl;refine aa<|cR (p _ _ B.1.symm M.map) rfl (x:=.ref q) rfl ?_;skip;refine aa<|aQ<|Run.use (Kn ok d (p _ _ B.2.2.1.symm N) Q) λx D c f b m=>?_;refine aa<|tM ?_;refine aU g λS h r1=>?_;try clear g
 refine ag<|ag<|afE x c rfl f m (λa o w e=>b.heap a o<|p a o w e) ⟨S,b.heap _ _ h,r1⟩ b.sub λa o e=>?_;refine dy (b.new a o e) (λz=>?_) λz=>?_;.exact .inl z
 .right;cases P:s.heap.get? a with|none=>rfl|some ox=>
   by_cases y:a=J;.subst y;rw[h] at z;cases z
   .rw[p a ox y P] at z;cases z
theorem NW(p:A.handled=ah)(i:Inv W G s)(M:DU s.heap I q l t B k)(m:G B=ah)(u:s.heap.IsList l w)(v:w[k]?=ah):aD W.M A (l8<|.ref I) (λr s'=>r=ah/\Inv W G s'/\(∀a o,a≠B->s.heap.get? a=ae o->s'.heap.get? a=ae o)) (λ_ _=>False) s:=by haveI g:s.TypeIs (.ref I) "map":=⟨_,M.map,rfl⟩;skip;refine aa<|iD<|eE g iL ?_;refine df<|cz iL.plain rH<|iL.check _ _ _ _ _ _ _ _ g (s9 _) ?_;skip;refine aa<|bP (by first|rfl|kernel_rfl) ?_;dsimp only;refine aa<|cR M.map rfl (x:=.ref t) rfl ?_;refine aa<|dX M.tup rfl ?_;skip;show aD _ _ (Fo (#[ef B]) #[] _>>=_) _ _ _;rw[<-HL];skip;rw[eC];refine aa<|aa<|aa<|aQ<|wpAny_nextOf_list_end p M.it u v λj e h y=>aU y λz n d=>?_;haveI c:(⟨j,s.gens,s.drawn,s.toks,s.os⟩:bk).TypeIs (.ref e) "StopIteration":=⟨_,n,d⟩;refine aa<|eW (b:=aj) c (by rw[dg];kernel_rfl) ?_;skip;exact ag ⟨rfl,i.turn m (λa o f=>h a o f) rfl rfl,λa o f=>h a o f⟩
end
section
noncomputable def ut(m:M3):T:=.tuple [.int m.1,.int m.2.1,.int m.2.2]
noncomputable def Io(G:Gh)(s:bk)(b:Gh):Prop:=∀a o,b a=ae o->G a=ae o\/s.heap.get? a=ah
structure Vj(W s₀ G₀ S J)(ms:List M3)(i s G acc c):Prop where
 inv:Inv W G s
 gJ:G J=ah
 gS:G S=ah
 sub:Sub G₀ G
 new:Io G₀ s₀ G
 keep:∀a o,a≠J->a≠S->s₀.heap.get? a=ae o->s.heap.get? a=ae o
 row:s.heap.get? S=ae {cls:=.type "list",data:=.seq acc c}
 tr:aG G acc.toList<|(ms.take i).map qJ
theorem cL{s:bk}{G b:Gh}(c:∀x o,b x=ae o->G x=ae o\/s.heap.get? x=ah)(g:G a=ah)(h:s.heap.get? a=ae o):b a=none:=Option.eq_none_iff_forall_ne_some.mpr λx e=>(c a x e).elim (λz=>nS<|g.symm.trans z) λz=>nS<|z.symm.trans h
theorem NX(B:S≠J/\S≠I/\S≠t)(hJ:J≠I/\J≠t/\J≠q/\J≠l)(hn:p.length<=aA)(ok:Ok A.in1.in1 1)(gq:b q=ae qK)(gl:b l=ae ol)(lc:ol.cls=.type "list")(j:ol.data=.seq vs nl)(tl:aG b vs.toList<|p.map ut) (hR:∀s G d c,Vj W L b S J p p.length s G d c->R (.ok<|.ret a2) s)(k i s G d c)(hk:p.length-i=k)(hi:i<=p.length)(Z:Vj W L b S J p i s G d c)(M:DU s.heap I q l t J i):gU W.M A (.builtin "list.extend.loop" ⟨[.ref S,.ref I,a2],[]⟩) R s:=by
 have f:=tl.length;rw[aP,af] at f;induction k generalizing i s G d c with
 |zero=>
  have:=bA hi<|FK hk;subst this;refine h9 Mi ?_;show aD _ A.in1 (l8 (.ref I)>>=_) _ _ s;refine aa<|aC (NW ok.hd Z.inv M Z.gJ ⟨_,Z.inv.hM _ _<|Z.sub _ _ gl,lc,nl,j⟩<|Array.getElem?_eq_none<|aH f) (λr P Q=>?_) λ_ _ z=>z.elim;refine gR Q λe I' n=>?_;try clear Q
  subst e;exact ag<|hR P G d c ⟨I',Z.gJ,Z.gS,Z.sub,Z.new,λa o E N e=>n a o E<|Z.keep a o E N e,n _ _ B.1 Z.row,Z.tr⟩
 |succ k ih=>
  have h:=č hk;haveI hv:=jy<|Ď h f;have a1:Tr b vs[i]<|ut p[i]:=by
   obtain⟨v,e1,e2⟩:=tl.get (k:=i) (by rw[aq,ay h];rfl);rw[bN,hv] at e1;cases e1;exact e2
  refine h9 Mi ?_;show aD _ A.in1 (l8 (.ref I)>>=_) _ _ s;refine aa<|aC (NV ok Z.inv M Z.gJ hJ (Z.inv.hM _ _<|Z.sub _ _ gq) ⟨_,Z.inv.hM _ _<|Z.sub _ _ gl,lc,nl,j⟩ hv<|a1.mono Z.sub) (λr P Q=>afD Q λx u e w tx n a0 H nw=>?_) λ_ _ z=>z.elim;subst e;haveI C:=n _ _ B.1 Z.row;have y:=cL nw Z.gS Z.row;haveI m:=Z.tr.length;rw[aP,af,bh] at m;refine aa<|gC C rfl (ag ⟨iE Mj _,?_⟩) (ď hn m)<|by show(d.push x).size<=aA+1;rw[Array.size_push];exact(aK<|ab (aH m)<|ab (eI ..) hn)
  have g:∀a o,a≠S->P.heap.get? a=ae o->(P.heap.update S<|cn (·.push x)).get? a=ae o:=(cW ..).extBut;refine aU a0 λoj hj rj=>aU M.it λo0 D _=>ih (i+1) _ u (d.push x) _ (congrArg ahL hk) h ⟨w.turn y g rfl rfl,cL nw Z.gJ D,y,Z.sub.trans H,λa o e=>(nw a o e).elim (Z.new a o) λz=>?_,λa o E N e=>g _ _ N<|n _ _ E<|Z.keep a o E N e,cK _ C rfl,?_⟩ ⟨g _ _ B.2.1.symm<|n _ _ hJ.1.symm M.map,g _ _ B.2.2.symm<|n _ _ hJ.2.1.symm M.tup,⟨oj,g _ _ B.1.symm hj,rj⟩⟩
  .refine .inr<|Option.eq_none_iff_forall_ne_some.mpr λx e=>nS<|z.symm.trans<|Z.keep a x (λq=>?_) (λq=>?_) e;.exact nS<|z.symm.trans<|q▸D
   .exact nS<|z.symm.trans<|q▸Z.row
  .rw[t5 h,aJ,tB];exact(Z.tr.mono H).append<|.cons tx .nil
theorem Sg{W:Wd}{ol:uJ}{nl:Nat}(k:s.heap.IsList l m) (h:∀i I t n,DU i I q l t n 0->(∀a o,s.heap.get? a=ae o->i.get? a=ae o)->s.heap.get? I=ah->s.heap.get? t=ah->s.heap.get? n=ah->n≠I->n≠t->Q (.ref I) {s with heap:=i}):aD W.M A (er (.type "map") [.ref q,.ref l]) Q E s:=by
 refine FF (Q₁:=λd b=>b.TypeIs d "map"/\Q d b) ur (DT _ _) Mf ?_ λd b c=>?_
 .refine h6 ?_;show aD _ A.in1.in1 (do eV "map.__new__" ⟨[.type "map",.ref q,.ref l],[]⟩;oz (.builtin "map.__new__" ⟨[.type "map",.ref q,.ref l],[]⟩)) _ _ s;refine aa<|bP (GA _ _)<|ag ⟨iE BG _,h9 BF ?_⟩;skip;skip;haveI f:=WL;refine aa<|aa<|bP rfl ?_;skip;refine aa<|bP f ?_;skip;refine ag ?_;skip;refine aa<|bP rfl ?_;skip;refine aa ?_;skip;show aD _ _ (Fo [ef l] #[] _>>=_) _ _ _;rw[eC];refine aa<|aa<|aa<|aQ<|yy k ?_;refine ag ?_;dsimp only;skip;refine ag<|ag ?_;refine aa<|ae3 ?_<|by show 1<=_;rw[fW];exact(aF<|dP (oZ 1) 16777214)
  refine aa ?_;unfold afi;refine dH<|ag ?_;haveI g:(s.heap.push {cls:=.type "list_iterator",data:=.fields #[.ref l,.int 0 0]}).objs.size=s.heap.objs.size+1:=e_ ..;haveI j:((s.heap.push {cls:=.type "list_iterator",data:=.fields #[.ref l,.int 0 0]}).push<|nv "tuple" #[.ref s.heap.objs.size] 0).objs.size=s.heap.objs.size+2:=by rw[e_,g]
  refine⟨⟨_,aS _ rfl,rfl⟩,h _ _ (s.heap.push {cls:=.type "list_iterator",data:=.fields #[.ref l,.int 0 0]}).objs.size s.heap.objs.size ⟨aS _ rfl,aN _<|aS _ rfl,⟨_,aN _<|aN _<|aS _ rfl,rfl,rfl⟩⟩ (λa o e=>aN _<|aN _<|aN _ e) (aV ?_) (aV ?_) (aV<|al _) ?_ ?_⟩;.exact ab (bi s.heap.objs.size 2)<|aH j.symm
  .rw[g];exact(ke no)
  .exact bJ<|eB (CE<|by decide) j.symm
  .exact bJ<|eB (cb _) g.symm
 .exact⟨c.1,F.args_object_init_3 d _ _,VP ur.init.lookup ur.made (dD tt) W.M.prog W.w A.in1 _ b ⟨c.1,rfl,c.2⟩⟩
end
theorem s_:yC "map" "__iter__" "map.__iter__":=.of (owner:="map") (n:="__iter__") (by rw[cp,bt];kernel_rfl) (by decide+kernel) (by decide+kernel) (by decide+kernel) (by first|exact .inl<|by decide+kernel|exact .inr<|by decide+kernel)<|by rw[dg];kernel_rfl
theorem zf:gN mF "map.__iter__"=ae dF.«dict_keyiterator.__iter__»:=FD (id':="dict_keyiterator.__iter__") (by kernel_rfl) rfl (by decide+kernel)<|by kernel_rfl
theorem BH(a):jV "map.__iter__" ⟨[a],[]⟩:=by unfold jV;kernel_rfl
section
theorem Sh{W:Wd}(b:s.heap.get? I=ae (NU t q))(h:Q (.ref I) s):aD W.M A (rn<|.ref I) Q E s:=by haveI a:s.TypeIs (.ref I) "map":=⟨_,b,rfl⟩;refine VJ a s_<|ec s_ a zf ?_<|BH _;skip;exact ag ⟨_,rfl,"map",_,a,iL.lookup,h⟩
theorem NY{C:List M3}(hn:C.length<=aA)(N:Ok A 3)(Q:Inv W G s)(M:DU s.heap I q l t J 0)(gJ:G J=ah)(hJ:J≠I/\J≠t/\J≠q/\J≠l)(gq:G q=ae qK)(gl:G l=ae ol)(lc:ol.cls=.type "list")(ld:ol.dict=ah)(B:ol.data=.seq vs nl)(tl:aG G vs.toList<|C.map ut):aD W.M A (er (.type "list") [.ref I]) (λv s'=>∃n,Inv W n s'/\Sub G n/\Io G s n/\(∀a o,a≠J->s.heap.get? a=ae o->s'.heap.get? a=ae o)/\Tr n v (.list<|C.map qJ)) (λ_ _=>False) s:=by
 refine FF (Q₁:=λD j=>D=.ref s.heap.objs.size/\j={s with heap:=s.heap.push {cls:=.type "list",data:=.seq #[]}}) F.called_list (F.typeCall_list_1 _) F.entry_list_init (code_list_new _ ⟨rfl,rfl⟩) λD j i=>bu i λq0 q1=>?_;try clear i;subst q0;subst q1
 have u:(s.heap.push {cls:=.type "list",data:=.seq #[]}).get? s.heap.objs.size=ae {cls:=.type "list",data:=.seq #[]}:=aS _ rfl;refine⟨⟨_,u,rfl⟩,F.args_list_init_2 _ _,?_⟩;generalize H:s.heap.objs.size=S at u⊢;have c:s.heap.get? S=none:=by rw[<-H];exact aV<|al _
 have R:G S=none:=by cases q:G S with|none=>rfl|some o=>rw[Q.hM _ _ q] at c;cases c
 haveI kp:∀a o,s.heap.get? a=ae o->(s.heap.push {cls:=.type "list",data:=.seq #[]}).get? a=ae o:=λa o e=>aN _ e;refine aU M.it λoj hj rj=>?_;have E:∀a o,s.heap.get? a=ae o->S≠a:=λa o e q=>by rw[<-q,c] at e;cases e
 haveI w:=E _ _ hj;have f:=E _ _ M.map;haveI y:=E _ _ M.tup;show aD _ A.in1.in1 (do let P<-YX (.ref S);YY (.ref S) (λ_=>#[]);letGo P.toList.reverse;sr (.ref S) (.ref I) .none) _ _ _;refine aa ?_;skip;refine aa<|dX u rfl<|ag ?_;skip;refine aa<|gC u rfl ?_;haveI g:=cK (cn λ_=>(#[]:Array aW)) u rfl;refine aa<|tM ?_;have m:∀b o,b≠S->s.heap.get? b=ae o->((s.heap.push {cls:=.type "list",data:=.seq #[]}).update S<|cn λ_=>(#[]:Array aW)).get? b=ae o:=λb o z e=>(lg _ _<|zw z).trans<|kp b o e;skip;have L:({s with heap:=(s.heap.push {cls:=.type "list",data:=.seq #[]}).update S<|cn λ_=>(#[]:Array aW)}:bk).TypeIs (.ref I) "map":=⟨_,m _ _ f.symm M.map,rfl⟩;refine aa<|l9 L ?_;haveI h1:mD (.ref S) (.ref I)=false:=by simp[mD,f]
 haveI h2:(eO "map"==eO "list")=false:=by decide
 haveI h3:(eO "map"==eO "tuple")=false:=by decide
 simp only [h1,h2,h3,hH,ev,if_false];refine aa<|Sh (m _ _ f.symm M.map) ?_;refine aa<|aQ ?_;skip;refine aa<|cP L Ko ?_;skip;refine aa<|cP L GB ?_;refine ag ?_;skip;refine aa<|iB ?_;refine aa ?_;skip;refine aa<|gC g rfl ?_;haveI h:=cK (cn (·.push eN)) g rfl;refine gC h rfl ?_;have k:=cK (cn (·.pop)) h rfl;have d:∀b o,b≠S->s.heap.get? b=ae o->((((s.heap.push {cls:=.type "list",data:=.seq #[]}).update S<|cn λ_=>(#[]:Array aW)).update S<|cn (·.push eN)).update S<|cn (·.pop)).get? b=ae o:=λb o z e=>(lg _ _<|zw z).trans<|(lg _ _<|zw z).trans<|m b o z e;refine ag ⟨iE Mj _,?_⟩;haveI p:Inv W G {s with heap:=(((s.heap.push {cls:=.type "list",data:=.seq #[]}).update S<|cn λ_=>(#[]:Array aW)).update S<|cn (·.push eN)).update S<|cn (·.pop)}:=Q.turn R d rfl rfl;refine NX (A:=A.in1) ⟨w,f,y⟩ hJ hn ⟨N.hd,?_,?_⟩ gq gl lc B tl (λs' n r c' Z=>?_) C.length 0 _ G _ _ (f7 _) (au _) ⟨p,gJ,R,.refl G,λa o e=>.inl e,λa o _=>d a o,k,.nil⟩ ⟨d _ _ f.symm M.map,d _ _ y.symm M.tup,⟨oj,d _ _ w.symm hj,rj⟩⟩;.haveI:=N.depth;show A.depth+1<=900;exact ē this
 .haveI:=N.units;show A.units+1+1+1+50*1<=9000;exact Ĕ this
 .refine⟨rfl,n.add S {cls:=.type "list",data:=.seq r c'},⟨λa x e=>?_,λa x e=>Gh.dT Z.gS _ _<|Z.inv.hb _ _ e,Z.inv.bare,Z.inv.os⟩,λa x e=>Gh.dT Z.gS _ _<|Z.sub _ _ e,λa x e=>?_,λa o n1 e=>Z.keep a o n1 (E a o e).symm e,.seq (Gh.fD ..) rfl (λ_=>rfl) rfl<|dn (l:=C)▸Z.tr.mono λa o e=>Gh.dT Z.gS _ _ e⟩
  .rcases Gh.ga e with⟨rfl,rfl⟩|e;.exact Z.row
   .exact Z.inv.hM _ _ e
  .rcases Gh.ga e with⟨rfl,rfl⟩|e;.exact .inr c
   .exact Z.new a x e
theorem Ev.DV{lf:gw}{ms:List M3}(b0:Ev C Γ Ω lf<|.val<|.type "list")(b6:Ev C Γ Ω y<|.val<|.type "map")(a7:oD C Γ Ω [f,x] [T.NQ,.list<|ms.map ut])(hn:ms.length<=aA)(hC:3<=C.n) (b8:autoParam (∀env,aw [.Call y [f,x] [] b] env=(false,bG (.Call y [f,x] [] b) env)::aw [] env) eX) (hp:autoParam (∀env,(bb b<|aw [f,x] env).any (·.1)=false) eX) (b7:autoParam (∀env,(bb pos<|aw [.Call y [f,x] [] b] env).any (·.1)=false) eX) (he:autoParam (∀env,bG (.Call y [f,x] [] b) env=(do bS b (<-bG y env) [] (bb b<|aw [f,x] env) (bK b<|aX [] env))) eX) (a6:autoParam (∀env,bG (.Call lf [.Call y [f,x] [] b] [] pos) env=(do bS pos (<-bG lf env) [] (bb pos<|aw [.Call y [f,x] [] b] env) (bK pos<|aX [] env))) eX):Ev C Γ Ω (.Call lf [.Call y [f,x] [] b] [] pos)<|.list<|ms.map qJ:=λA G s ok I S=>by
 refine qw ?_<|a6 _;refine Run.use (b0 A G s ok I S) λv a4 D i u R=>?_;cases R
 refine gG (.type _) i.k ?_<|b7 _;refine nV ?_<|b8 _;refine qw ?_<|he _;haveI p:=S.mono u;refine Run.use (b6 A D a4 ok i p) λv a5 E j w a0=>?_;cases a0
 haveI H:=p.mono w;refine gG (.type _) j.k ?_<|hp _;refine Run.use (a7 A E a5 b ok j H) λvs d h c L a3=>⟨c.k,?_⟩;cases a3 using aG.ca with|cons a1 r=>
  cases r using aG.ca with|cons a2 r=>
   cases r
   refine aU (Tr.anyOf a1) λq q0 gq=>?_;subst q0;refine vH (a2.listOf c) λl ol nl vs q1 gl Q N P tl=>?_;subst q1;have a9:ol.dict=Option.none:=by cases a2 using Tr.rQ with|seq g hc a8 hd t=>rw[g] at gl;cases gl;exact a8 rfl
   refine Sg (ol:=ol) (nl:=nl) ⟨ol,Q,N,nl,P⟩ λh' Ia t J M kp n1 n2 n3 j1 j2=>?_;have m:Inv C.W h {d with heap:=h'}:=⟨λa o e=>kp a o<|c.hM a o e,c.hb,c.bare,c.os⟩;haveI gn:∀a,d.heap.get? a=ce->h a=Option.none:=λa e=>by cases q:h a with|none=>rfl|some o=>rw[c.hM _ _ q] at e;cases e
   refine cE ⟨m.k,?_⟩;have B:∀a o,d.heap.get? a=ae o->a≠J:=λa o e q=>by rw[q,n3] at e;cases e
   refine aC (NY hn (ok.le hC) m M (gn _ n3) ⟨j1,j2,(B _ _<|c.hM _ _ gq).symm,(B _ _ Q).symm⟩ gq gl N a9 P tl) (λv b9 zz=>VT zz λF b1 b2 b3 b4 b5=>?_) λ_ _ z=>z.elim;refine⟨F,b1,((u.trans w).trans L).trans ⟨λa o e=>b4 a o (B a o e)<|kp a o e,b2,λa o e=>?_⟩,b5⟩;rcases b3 a o e with z|z;.exact .inl z
   .right;cases hs:d.heap.get? a with|none=>rfl|some ox=>rw[kp a ox hs] at z;cases z
end
section
variable {K:Type}[DecidableEq K] 
theorem Kp{κ:j' K}:∀G o,G a=ah->Tr (G.add a o) (.ref a) t->∀x,(Ob.dk κ W<|kvs++[(key,.val (.ref a))]).holds G x->(Ob.dk κ W<|kvs++[(key,t)]).holds (G.add a o) x:=λG o g h x k=>k.casesOn λb d f c=>by
 refine⟨b,d,by simpa using f,?_⟩;rw[aJ] at c;refine gc (aG.snoc c) λl v e i j=>?_;rw[e,aJ];cases j
 exact(i.mono<|Gh.dT g).append<|.cons h .nil
theorem jb.GC{key:K}{E:cj->bM}(ho:Ev C Γ Ω o<|.val<|.ref a)(hk:Ev C Γ Ω k<|κ.enc key)(hg:mJ kvs key=ah)(p:∀l,eL Ω a (Ob.dk κ C.W kvs) (Ob.dk κ C.W<|kvs++[(key,.val (.ref l))])<|E l)(hz:kvs.length<=aA) (hb:autoParam (∀env,dG o "setdefault" env (bG o env)=bG o env) eX) (R:autoParam (∀env,((bb pos<|aw [k,.List [] D] env).all (λx=>!x.1)&&(bK pos<|aX [] env).all (λx=>x.1.isSome)&&decide (([k,.List [] D]:List gw).length+([]:List ij).length+(if([]:List ij).isEmpty then 0 else 1)<30))=aj) eX) (hs:autoParam (∀env,aw [k,.List [] D] env=(false,bG k env)::aw [.List [] D] env) eX) (a8:autoParam (∀env,aw [.List [] D] env=(false,bG (.List [] D) env)::aw [] env) eX) (hp:autoParam (∀env,(bb pos<|aw [k,.List [] D] env).any (·.1)=false) eX) (z:autoParam ((N.endLine==pos.line)=aj) iF):jb C Γ Ω (.Call (.Attribute o "setdefault" N) [k,.List [] D] [] pos) λt H=>∃l,t=.val (.ref l)/\H=(l,.list [])::E l:=λA G s ok I S=>by
 refine fc (hb _) (R _) z j4 uO PySem.F.type_dict_setdefault<|Run.use (ho A G s ok I S) λv w n i r a2=>?_;cases a2
 have j:=S.mono r;have dt:∀G s,Inv C.W G s->St C Γ Ω G s->∃ob,s.heap.get? a=ae ob/\gI κ C.W G ob kvs:=λG s I S=>by refine gR (S.own _ (p 0).mem) λ_ z0 _=>aU z0 λo' e h=>⟨o',e,h⟩
 refine aU (dt n w i j) λob a7 a5=>aU (a5.of a7) λb0 d1 _=>⟨d1.typeIs,λb=>d1.mapOf.noDict b,gG (.builtin _) i.k ?_<|hp _⟩;refine nV ?_<|hs _;refine Run.use (hk A n w ok i j) λkv y q L u a3=>?_;haveI M:=j.mono u;refine nV ?_<|a8 _;refine Fp<|cE ⟨au _,?_⟩;refine bu (M.pS (o:={cls:=.type "list",data:=.seq ([]:List aW).toArray}) (b:=.list []) L rfl<|rP _ _ rfl .nil) λf d=>cE ⟨d.k,?_⟩;generalize hl:y.heap.objs.size=l at f d⊢;haveI p':eL ((l,Ob.list [])::Ω) a (Ob.dk κ C.W kvs) (Ob.dk κ C.W<|kvs++[(key,.val (.ref l))])<|(l,Ob.list [])::E l:=.there<|p l;refine gR (f.own _ p'.mem) λg z1 _=>aU z1 λb1 a0 P=>ix (gI.of a0 P) λm e1 e2 e3=>?_;haveI B:yE m key=none:=(lC key e2 e3).2 hg;refine yF uO e1.typeIs PySem.F.entry_dict_setdefault (PySem.F.args_dict_setdefault_3 _ _ _) (kt_meets_setdefault (κ.knd C.W) a (κ.is _ _ _ _ a3) (d.sL g)<|.ref l) ⟨m,e1,by rw[kn e2];exact hz,(λv hv=>by rw[B] at hv;cases hv),λ_ h' d' hs=>?_⟩;refine aU (Heap.dictOf_iff.mp d') λo' a6 a4=>?_;have hb:∀c x,c≠a->(y.heap.push {cls:=.type "list",data:=.seq ([]:List aW).toArray}).get? c=ae x->h'.get? c=ae x:=λc x ne=>hs.extBut c x ne;(haveI q0:=uh (k:=key) (Tr.val (G:=q)<|.ref l) e2 e3;haveI q1:=q0.1;haveI q2:=q0.2);haveI a1:putK kvs key (.val<|.ref l)=kvs++[(key,.val (.ref l))]:=by unfold putK;rw[if_neg];intro Q;refine aU (ip.mp Q) λx hx a9=>?_;unfold mJ at hg;rw[AQ,JC] at hg;exact absurd a9<|hg x hx
 rw[a1] at q1 q2;exact⟨q,_,_,⟨l,rfl,rfl⟩,d.dU f p'.mem hb rfl rfl,f.dU p' rfl rfl hb ⟨o',a6,⟨_,a4,q1,q2⟩⟩,Sub.trans r.sub u.sub,.val _⟩
end
section
variable {K:Type}[DecidableEq K] 
noncomputable def Kq(t:T):Prop:=t=.none\/∃a,t=.list a
theorem WM(i:Kq a)(f:Kq b)(I:Inv W G s)(h:Tr G v a)(k:Tr G u b)(g:v=u->Q aj s)(d:Q false s):aD W.M A (isSame v u) Q (λ_ _=>False) s:=by
 rcases i with rfl|⟨D,rfl⟩
 .cases h
  rcases f with rfl|⟨p,rfl⟩
  .cases k
   exact we rfl<|g rfl
  .refine y3 (k.listOf I) λx o n q t _=>?_;subst t;exact we rfl d
 .refine Ms (h.listOf I) λx o n q w _ m j _=>?_;subst w;rcases f with rfl|⟨p,rfl⟩
  .cases k
   exact we rfl d
  .refine Ms (k.listOf I) λy C B r z _ c l _=>?_;subst z;by_cases e:x=y
   .subst e;exact wpAny_isSame_ref_self<|g rfl
   .exact wpAny_isSame_ref_other e m c (by rw[j];decide) d
theorem bZ.Vk(h:Ev C B Ω l a)(k:Ev C B Ω r b)(L:Kq a)(D:Kq b) (F:(∃G v,Tr G v a/\Tr G v b)->bZ C B Ω w (ry C rest P))(H:bZ C B Ω g<|ry C rest P)(M:autoParam (iA .Is r=false) iF):bZ C B Ω (.If (.Compare l [.Is] [r] pos) w g E::rest) P:=.block λA G s z I S=>by
 refine Fx<|eg (Run.use (h A G s z I S) λv y q t m n=>?_) M;haveI i:=S.mono m;refine Run.use (k A q y z t i) λu p d f c o=>?_;have j:=i.mono c;haveI x:=Sub.trans m.sub c.sub;skip;refine aa<|WM L D f (n.mono c.sub) o (λe=>ag<|cm ?_)<|ag<|cm ?_;.subst e;exact Ends.lift x<|F (rP d v (n.mono c.sub) o) A d p z f j
 .exact Ends.lift x<|H A d p z f j
theorem lD.item{κ:j' K}(z:Ev C n Ω o<|.val<|.ref a)(y:Ev C n Ω k<|κ.enc key)(p:eL Ω a (Ob.dk κ C.W kvs) (Ob.dk κ C.W<|putK kvs key t) bT)(hz:kvs.length<=aA):lD C n Ω (.Subscript o k pos) t n bT:=λA G s v Q r S I h q=>by
 skip;refine aa<|aQ<|Run.use (z A G s r I S) λE m e g b j=>?_;cases j
 haveI d:=S.mono b;refine aa<|aQ<|Run.use (y A e m r g d) λD u f i c l=>?_;refine aa<|cF<|aa<|aQ ?_;exact oU i (d.mono c) p l ((h.mono b.sub).mono c.sub) hz λB w x=>aff<|q f B x w<|Sub.trans b.sub c.sub
end
noncomputable abbrev ag6:FuncData:=jG (g8 PP 5 3) "SequenceMatcher.set_seq1" [] .none .none (mH (g8 PP 5 3) 435) (.str "cpy313.difflib" 194) ah (.ref 173) .none
theorem WN(W):gH W 174 ag6 (dA<|g8 PP 5 3) ["self","a"]:=.plain
noncomputable abbrev ag7:FuncData:=jG (g8 PP 5 4) "SequenceMatcher.set_seq2" [] .none .none (mH (g8 PP 5 4) 444) (.str "cpy313.difflib" 194) ah (.ref 180) .none
theorem WO(W):gH W 181 ag7 (dA<|g8 PP 5 4) ["self","b"]:=.plain
noncomputable abbrev ag8:FuncData:=jG (g8 PP 5 5) "SequenceMatcher.__chain_b" [] .none .none .none (.str "cpy313.difflib" 194) ah (.ref 187) .none
noncomputable abbrev WQ:List Str:=["self","b","b2j","i","elt","indices","junk","isjunk","popular","n","ntest","idxs"]
theorem WR(W):gH W 188 ag8 (dA<|g8 PP 5 5) WQ:=.plain
noncomputable def GD(t:T)(kvs:List<|bC×T):List<|bC×T:=ee "opcodes" .none<|ee "matching_blocks" .none<|ee "a" t kvs
theorem g0{kvs:List (bC×T)}:(ee name t kvs).length<=kvs.length+1:=by
 induction kvs with|nil=>exact al 1|cons p r ih=>
  show(if(p.1==name)=aj then(p.1,t)::r else(p.1,p.2)::ee name t r).length<=_;by_cases h:(p.1==name)=aj;.rw[if_pos h];exact cB _
  .rw[if_neg h];exact aK ih
theorem DW(e:kvs.lookup (bo "a")=ae f)(o:Kq f)(n:jn f)(hz:kvs.length<=100):cu W (.ref 174) [T.inst x 242 d,.list ts] 1 [(d,.dict kvs)] λt c=>t=.none/\(((∃G v,Tr G v (.list ts)/\Tr G v f)/\c=[(d,.dict kvs)])\/c=[(d,.dict (GD (.list ts) kvs))]):=by
 refine cu.of (WN W) ["self","a"] [] [("self",ae (T.inst x 242 d)),("a",ae (.list ts))] (λk e=>?_) rfl (λL I _=>?_) λt u h p m=>?_;.refine sD e λa b=>?_;kernel_rfl
 .refine .ph .str<|.Vk (.g 1) (.attr (.g 0) .inst (.head _) rfl e n) (.inr ⟨_,rfl⟩) o (λq=>?_) ?_;.exact .A9<|.inl ⟨_,rfl,rfl,.inl ⟨q,rfl⟩⟩
  .refine .nil<|.setAttr (.g 1) (.g 0) .inst .here ?_<|ab hz<|ap rfl;haveI j:=g0 (name:="a") (t:=.list ts) (kvs:=kvs);haveI l:=g0 (name:="matching_blocks") (t:=.none) (kvs:=ee "a" (.list ts) kvs);refine .assign2 (.of .none) λt i h=>?_;refine bu h λr s=>?_;subst r;subst s;exact wQ _ _ _ _ (.attr (.g 0) .inst .here<|Ė hz j) (.attr (.g 0) .inst .here<|ė hz j l)<|.nil<|.inr ⟨rfl,rfl,.inr rfl⟩
 .obtain⟨_,⟨_,rfl⟩|rfl⟩:=h;all_goals rw[ao] at m;subst m;rfl
inductive r8(a t):bM->bM->Prop|nil:r8 a t [] []|keep {p:cj×Ob} {Ω bT:bM}:r8 a t Ω bT->r8 a t (p::Ω) (p::bT)|turn {x:cj} {b b':Ob} {Ω bT:bM}:(b.gT=aj->b'.gT=aj)->(∀(G) o,G a=ah->Tr (G.add a o) (.ref a) t->∀x,b.holds G x->b'.holds (G.add a o) x)->r8 a t Ω bT->r8 a t ((x,b)::Ω) ((x,b')::bT)
theorem r8.refl:∀Ω:bM,r8 a t Ω Ω|[]=>.nil|_::Ω=>.keep<|r8.refl Ω
theorem r8.app(h:r8 a t Ω bT):∀Δ,r8 a t (Δ++Ω)<|Δ++bT|[]=>h|_::Δ=>.keep<|r8.app h Δ
theorem r8.names(h:r8 a t Ω bT):bT.map (·.1)=Ω.map (·.1):=by induction h with|nil=>rfl|keep _ b=>rw[ax,ax,b]|turn _ _ _ b=>rw[ax,ax,b]
theorem r8.mem(h:r8 a t Ω bT):∀p∈bT,∃c,(p.1,c)∈Ω/\(c.gT=aj->p.2.gT=aj)/\∀(G:Gh) o,G a=ah->Tr (G.add a o) (.ref a) t->∀x,c.holds G x->p.2.holds (G.add a o) x:=by
 induction h with
 |nil=>intro p m;exact absurd m b_|@keep q Ω bT _ d=>
  intro p m;rcases bf.mp m with rfl|m;.exact⟨p.2,bH,id,λG o i _ x=>Ob.lz<|Gh.dT i⟩
  .refine aU (d p m) λc e r=>⟨c,aY _ e,r⟩
 |@turn x b j Ω bT f g _ d=>
  intro p m;refine eQ m ?_ λm=>?_;.exact⟨b,bH,f,g⟩
  .refine aU (d p m) λc e r=>⟨c,aY _ e,r⟩
section
variable {K:Type}[DecidableEq K] 
theorem bZ.r9(f:∀G o,G a=ah->(a==f_)=false->b.holds G o->Tr (G.add a o) (.ref a) t)(l:∀y u,(y,ae u)∈Γ'->(y,ae u)∈i\/(y,ae (.val<|.ref a))∈i/\u=t)(j:Γ'.map (·.1)=i.map (·.1))(g:b.gT=false)(r:r8 a t Ω bT) (k:bZ C Γ' bT v P):bZ C i ((a,b)::Ω) v P:=λA G s q I S=>by
 haveI d:=S.hU;rw[ax,bV] at d;refine bZ.Ih f l j bH g (λp m=>⟨λe=>d.1 ?_,?_⟩) (by rw[r.names];exact d.2) k A G s q I S;.rw[<-r.names,<-e];exact am.mpr ⟨p,m,rfl⟩
 .refine aU (r.mem p m) λc n h=>⟨c,aY _ n,h⟩
theorem bZ.Ad(e c:cG)(d:∀G o,G a=ah->(a==f_)=false->b.holds G o->Tr (G.add a o) (.ref a) t)(f:b.gT=false)(r:r8 a t Ω bT)(k:bZ C (e++(x,ae t)::c) bT g P):bZ C (e++(x,ae (.val<|.ref a))::c) ((a,b)::Ω) g P:=bZ.r9 d Ve (by simp) f r k
theorem r8.dk{κ:j' K}(h:r8 a t Ω bT):r8 a t ((b,Ob.dk κ W (kvs++[(key,.val (.ref a))]))::Ω)<|(b,Ob.dk κ W (kvs++[(key,t)]))::bT:=.turn id Kp h
theorem DX(f:G a=ah)(g:Tr (G.add a o) (.ref a) t)(b:kvs.lookup name=ae (.val<|.ref a))(h:gv G d kvs):gv (G.add a o) d<|ee name t kvs:=by
 induction kvs generalizing d with
 |nil=>cases b
 |cons p kvs i=>
  obtain⟨k,u⟩:=p;cases h with|cons h r=>
   rw[dC] at b;unfold ee;by_cases e:k==name
   .rw[if_pos e];have c:(name==k)=true:=by rw[beq_iff_eq] at e⊢;exact e.symm
    rw[c] at b;cases b
    cases h
    exact .cons g<|r.mono<|Gh.dT f
   .rw[if_neg e];have c:(name==k)=false:=by rw[beq_eq_false_iff_ne];intro q;exact e<|by rw[q];simp
    rw[c] at b;exact .cons (h.mono<|Gh.dT f)<|i b r
theorem r8.attr(d:kvs.lookup name=ae (.val<|.ref a))(h:r8 a t Ω bT):r8 a t ((b,.dict kvs)::Ω)<|(b,.dict (ee name t kvs))::bT:=.turn id (λG o c e x z=>⟨z.1,z.2.1,z.2.2.imp λf z=>z.imp λn z=>⟨z.1,DX c e d z.2⟩⟩) h
end
theorem eu(h:(m==n)=false):(ee n t kvs).lookup m=kvs.lookup m:=by
 induction kvs with|nil=>show wg m ((n,t)::[])=_;rw[dC,h]|cons p r a=>
  show wg m (if(p.1==n)=aj then(p.1,t)::r else p::ee n t r)=_;by_cases e:(p.1==n)=aj;.rw[if_pos e,dC,dC,h7 e,h]
  .rw[if_neg e,dC,dC,a]
theorem zg:(ee n t kvs).lookup n=ae t:=by
 induction kvs with|nil=>show wg n ((n,t)::[])=_;rw[dC,beq_self_eq_true]|cons p r a=>
  show wg n (if(p.1==n)=aj then(p.1,t)::r else p::ee n t r)=_;by_cases e:(p.1==n)=aj;.rw[if_pos e,dC,h7 e,beq_self_eq_true]
  .rw[if_neg e,dC,ahS,Bool.eq_false_iff.mpr e,a]
noncomputable def gb(a:List bC)(n:Nat):List<|bC×T:=(a.take n).zipIdx.map λp=>(p.1,.list [.int<|p.2])
theorem NZ(W:Wd):l7 W.K a_ "set"=ae none:=by kernel_rfl
theorem N0:cN "set"=ae (.type "set"):=by kernel_rfl
theorem BI(W:Wd):l7 W.K a_ "enumerate"=ae none:=by kernel_rfl
theorem xN:cN "enumerate"=ae (.type "enumerate"):=by kernel_rfl
theorem xO(h:∀G v,p G v->∃a,v=.ref a):jn<|.any p b:=Gf λG v k=>h G v<|Tr.anyOf k
noncomputable def Ip(a:cj)(kvs:List<|bC×T):List<|bC×T:=ee "bpopular" T.BA<|ee "bjunk" T.BA<|ee "b2j" (.val<|.ref a) kvs
noncomputable abbrev ag9(x d:cj)(c:List bC)(e:cj)(i a b:Option T):cG:=[("self",ae (T.inst x 242 d)),("b",ae (.list<|c.map .str)),("b2j",ae (.val<|.ref e)),("i",i),("elt",a),("indices",b),("junk",ah),("isjunk",ah),("popular",ah),("n",ah),("ntest",ah),("idxs",ah)]
theorem N1(t:f.Nodup)(o:f[i]?=ae r):mJ (gb f i) r=none:=by
 unfold mJ gb;rw[AQ,JC];intro x v s;refine aU (am.mp v) λp u w=>?_;subst w;refine cc (List.getElem?_eq_some_iff.mp o) λg h=>?_;obtain⟨q,j⟩:=p;haveI c:=List.mk_mem_zipIdx_iff_getElem?.mp u;rw[sy] at c;split at c
 .rename_i e;haveI:q=r:=by simpa using s
  refine cc (List.getElem?_eq_some_iff.mp c) λk l=>?_;subst this;haveI:=λa b d m n=>by haveI:=List.pairwise_iff_getElem.mp t a b m n d;exact this
  exact this j i e k g<|l.trans h.symm
 .cases c
theorem N2(c:a[i]?=ae r):gb a (i+1)=gb a i++[(r,.list [.int i])]:=by(haveI b:=(List.getElem?_eq_some_iff.mp c).1;haveI d:=(List.getElem?_eq_some_iff.mp c).2);unfold gb;rw[t5 b,List.zipIdx_append,aJ,d,bh];simp;exact Ę b
theorem N3(D:kvs.lookup (bo "b")=ae (.list<|d.map .str))(E:kvs.lookup (bo "isjunk")=ae .none)(C:kvs.lookup (bo "autojunk")=ae (.bool aj))(hz:kvs.length<=100)(G:d.Nodup)(j:d.length<200):cu W (.ref 188) [T.inst x 242 e] 1 [(e,.dict kvs)] λt w=>t=.none/\∃c,w=[(c,Ob.dk kS W (gb d d.length)),(e,.dict (Ip c kvs))]:=by
 refine cu.of (WR W) ["self"] ["b","b2j","i","elt","indices","junk","isjunk","popular","n","ntest","idxs"] [("self",ae (T.inst x 242 e)),("b",ah),("b2j",ah),("i",ah),("elt",ah),("indices",ah),("junk",ah),("isjunk",ah),("popular",ah),("n",ah),("ntest",ah),("idxs",ah)] (λA j=>?_) rfl (λL I _=>?_) λt a0 h p m=>?_
 .refine vJ j λa=>?_;kernel_rfl
 .refine .assign (.attr (.g 0) .inst (.head _) rfl D fE) ai (.g 1)<|.assign2 (.newDict kS) λt b h=>?_;refine aU h λc q0 q1=>?_;clear h;subst q0;subst q1;refine wQ _ _ _ _ (.attr (.g 0) .inst (.there .here)<|ab hz<|ap rfl) (.name ai<|.g 2) ?_;have f:(ee "b2j" (.val<|.ref c) kvs).length<=101:=ab g0<|bY hz;refine .vO (λ_ _=>ag9 x e d c ah ah ah) (λi _=>[(c,Ob.dk kS W (gb d i)),(e,.dict (ee "b2j" (.val<|.ref c) kvs))]) (λ_ _=>True) (λ_=>false) () (.enum (.builtin (BI W) xN<|by decide)<|.cons (.g 1) .nil) trivial rfl ?_ ?_
  .intro i t _ B Qe z y _;rw[aq] at y;refine aU (aT.mp y) λq H M=>?_;subst M;refine aU (sJ 0 i _ H) λu s N=>?_;subst N;rw[aq,aT] at s;refine aU s λr o P=>?_;try clear s;subst P
   haveI F:=(List.getElem?_eq_some_iff.mp o).1;rw[jA];have k:(gb d i).length<=200:=by unfold gb;rw[af,JD,bh];exact(ab (eI ..)<|aF j)
   refine⟨_,.tuple<|.cons ai (.g 3)<|.cons ai (.g 4) .nil,?_⟩;refine .iK (.GC (.g 2) (.g 4) (N1 G o) (λl=>eL.app B .here)<|by unfold aA;exact(ab k<|ap rfl)) ai λt b h=>?_;refine aU h λl q2 q3=>?_;clear h;subst q2;subst q3;refine⟨_,.g 5,?_⟩;refine .append (.g 5) .here (.g 3) (au _)<|bZ.Ad [_,_,_,_,_] _ iS rfl (r8.app (r8.dk<|.keep .nil) B) ?_;rw[N2 o] at z;exact .nil<|z<|.next (f4 3) () trivial rfl
  .intro _ _;rw[af,pd,af];have n:(ee "bjunk" T.BA<|ee "b2j" (.val<|.ref c) kvs).length<=102:=ab g0<|bY f;refine .assign2 (.of<|.newSet<|.builtin (NZ W) N0<|by decide) λt b h=>?_;refine bu h λQ R=>?_;subst Q;subst R;refine wQ _ _ _ _ (.attr (.g 0) .inst (.there .here)<|ab f<|ap rfl) (.name ai<|.g 6) ?_;refine .assign (.attr (.g 0) .inst (.tail _<|.head _) rfl (by rw[eu<|by decide,eu<|by decide];exact E) lR) ai (.g 7)<|.ite (.val (.g 7) .none) (λh=>by cases h) λ_=>.nil ?_;refine .assign2 (.of<|.newSet<|.builtin (NZ W) N0<|by decide) λt b h=>?_;refine bu h λS v=>?_;try clear h;subst S;subst v
   refine wQ _ _ _ _ (.attr (.g 0) .inst (.there .here)<|ab n<|ap rfl) (.name ai<|.g 8) ?_;refine .assign (.len (.g 1)<|by rw[af];unfold aA;exact Ğ j) ai (.g 9)<|.ite (.boolOp<|.and (.val (.attr (.g 0) .inst (.tail _<|.head _) rfl (by rw[eu<|by decide,eu<|by decide,eu<|by decide];exact C) λG v k=>by cases k;rfl) .bool) λ_=>.and (.cmp (.g 9) .int .U6) λ_=>.rT) (λh=>?_) λ_=>.nil<|.nil<|.inr ⟨rfl,rfl,c,rfl⟩;simp only [Bool.true_and,iX,decide_eq_true_eq] at h;rw[af] at h;omega
 .refine bu h λ_ z0=>?_;clear h;refine cc z0 λc z1=>?_;clear z0;subst z1;exact fm (p:=λq:cj×Ob=>q.2.gT=false) rfl (fm rfl uR) p m
noncomputable def nP(t:T)(kvs:List<|bC×T):List<|bC×T:=ee "fullbcount" .none<|ee "opcodes" .none<|ee "matching_blocks" .none<|ee "b" t kvs
theorem p8(a:(m==(bo "fullbcount"))=false)(b:(m==(bo "opcodes"))=false)(c:(m==(bo "matching_blocks"))=false)(d:(m==(bo "b"))=false):(nP t kvs).lookup m=kvs.lookup m:=by unfold nP;rw[eu a,eu b,eu c,eu d]
theorem WS:(nP t kvs).lookup (bo "b")=ae t:=by unfold nP;rw[eu<|by decide,eu<|by decide,eu<|by decide,zg]
theorem N4:(nP t kvs).length<=kvs.length+4:=by skip;haveI a:=g0 (name:="b") (t:=t) (kvs:=kvs);haveI b:=g0 (name:="matching_blocks") (t:=.none) (kvs:=ee "b" t kvs);haveI c:=g0 (name:="opcodes") (t:=.none) (kvs:=ee "matching_blocks" .none<|ee "b" t kvs);haveI d:=g0 (name:="fullbcount") (t:=.none) (kvs:=ee "opcodes" .none<|ee "matching_blocks" .none<|ee "b" t kvs);exact(ab d<|aK<|ab c<|aK<|ab b<|aK a)
theorem DZ(l:kvs.lookup (bo "b")=ae q)(B:Kq q)(y:jn q)(z:kvs.lookup (bo "isjunk")=ae .none)(w:kvs.lookup (bo "autojunk")=ae (.bool aj))(A:kvs.lookup (bo "_SequenceMatcher__chain_b")=ah)(hz:kvs.length<=50)(o:c.Nodup)(k:c.length<200):cu W (.ref 181) [T.inst x 242 f,.list<|c.map .str] 2 [(f,.dict kvs)] λt d=>t=.none/\(((∃G v,Tr G v (.list<|c.map .str)/\Tr G v q)/\d=[(f,.dict kvs)])\/∃i,d=[(i,Ob.dk kS W (gb c c.length)),(f,.dict (Ip i<|nP (.list<|c.map .str) kvs))]):=by
 refine cu.of (WO W) ["self","b"] [] [("self",ae (T.inst x 242 f)),("b",ae (.list<|c.map .str))] (λs l=>?_) rfl (λL I _=>?_) λt F h p m=>?_;.refine sD l λa b=>?_;kernel_rfl
 .refine .ph .str<|.Vk (.g 1) (.attr (.g 0) .inst (.head _) rfl l y) (.inr ⟨_,rfl⟩) B (λC=>?_) ?_;.exact .A9<|.inl ⟨_,rfl,rfl,.inl ⟨C,rfl⟩⟩
  .refine .nil<|.setAttr (.g 1) (.g 0) .inst .here ?_<|ab hz<|ap rfl;haveI j:=g0 (name:="b") (t:=.list<|c.map .str) (kvs:=kvs);haveI r:=g0 (name:="matching_blocks") (t:=.none) (kvs:=ee "b" (.list<|c.map .str) kvs);haveI u:=g0 (name:="opcodes") (t:=.none) (kvs:=ee "matching_blocks" .none<|ee "b" (.list<|c.map .str) kvs);refine .assign2 (.of .none) λt e h=>?_;refine bu h λD E=>?_;try clear h;subst D;subst E
   refine wQ _ _ _ _ (.attr (.g 0) .inst .here<|ġ hz j) (.attr (.g 0) .inst .here<|ab r<|ab (aK<|ab j<|aK hz)<|by decide) ?_;refine .setAttr .none (.g 0) .inst .here ?_<|ab u<|ab (aK<|ab r<|aK<|ab j<|aK hz)<|by decide
   haveI n:=N4 (t:=.list<|c.map .str) (kvs:=kvs);refine .rB (.nK (Δ:=[(f,.dict (nP (.list<|c.map .str) kvs))]) (.g 0) .inst (.head _) rfl ?_ .nil (.refl _) (λp m=>by rw[ao] at m;subst m;rfl) (N3 WS (by rw[p8 (by decide) (by decide) (by decide)<|by decide];exact z) (by rw[p8 (by decide) (by decide) (by decide)<|by decide];exact w) (ab n<|ab (bX hz 4)<|by decide) o k)<|al _) λt e h=>?_;.rw[show ee "fullbcount" T.none (ee "opcodes" T.none<|ee "matching_blocks" T.none<|ee "b" (.list<|c.map .str) kvs)=nP (.list<|c.map .str) kvs from rfl,p8 (by decide) (by decide) (by decide)<|by decide];exact A
   .refine aU h λd q0 q4=>?_;clear h;refine bu q0 λq1 q2=>?_;clear q0;subst q1;refine cc q2 λi q3=>?_;clear q2;subst q3;subst q4;exact .nil<|.inr ⟨rfl,rfl,.inr ⟨i,rfl⟩⟩
 .obtain⟨_,⟨_,rfl⟩|⟨i,rfl⟩⟩:=h;.rw[ao] at m;subst m;rfl
  .refine eQ m ?_ λm=>?_;.rfl
   .rw[ao] at m;subst m;rfl
noncomputable abbrev aha:FuncData:=jG (g8 PP 5 2) "SequenceMatcher.set_seqs" [] .none .none (mH (g8 PP 5 2) 426) (.str "cpy313.difflib" 194) ah (.ref 166) .none
theorem N5(W):gH W 167 aha (dA<|g8 PP 5 2) ["self","a","b"]:=.plain
noncomputable abbrev aee:FuncData:=jG (g8 PP 5 1) "SequenceMatcher.__init__" [] (.ref 153) .none (mH (g8 PP 5 1) 416) (.str "cpy313.difflib" 194) ah (.ref 159) .none
theorem WT(W):gH W 160 aee (dA<|g8 PP 5 1) ["self","isjunk","a","b","autojunk"]:=.plain
noncomputable abbrev dm(a:List bC):T:=.list<|a.map .str
noncomputable def vf(a b c op:T)(d:cj):List<|bC×T:=[("isjunk",.none),("a",a),("b",b),("autojunk",.bool aj),("matching_blocks",c),("opcodes",op),("fullbcount",.none),("b2j",.val (.ref d)),("bjunk",T.BA),("bpopular",T.BA)]
noncomputable def Õ:List<|bC×T:=[("isjunk",.none),("a",.none),("b",.none),("autojunk",.bool aj)]
theorem Iq(h:Tr G v<|.list ts)(k:Tr G v .none):False:=by cases k;cases h
theorem N6{d:List bC}(h:aG G e<|d.map .str)(k:aG G e<|c.map .str):d=c:=by
 induction d generalizing e c with
 |nil=>
  cases h using aG.V3
  cases c with|nil=>rfl|cons=>cases k
 |cons a d f=>
  cases h using aG.ca with|cons h r=>
   cases c with
   |nil=>cases k
   |cons b c=>cases k using aG.t_ with|cons k q=>cases h;cases k;rw[f r q]
theorem D8(h:Tr G v<|dm c)(k:Tr G v<|dm d):c=d:=by
 cases h using Tr.rQ with|seq f _ _ e g=>
  cases k using Tr.rQ with|seq b _ _ a i=>
   rw[f] at b;cases b
   rw[e] at a;cases a
   exact N6 g i
theorem GE:Ip c (nP b<|GD a Õ)=vf a b .none .none c:=by with_unfolding_all rfl
theorem Kr(q:f.Nodup)(o:f.length<200):cu W (.ref 167) [T.inst x 242 j,dm r,dm f] 3 [(j,.dict Õ)] λt d=>t=.none/\∃i,d=[(i,Ob.dk kS W (gb f f.length)),(j,.dict (vf (dm r) (dm f) .none .none i))]:=by
 refine cu.of (N5 W) ["self","a","b"] [] [("self",ae (T.inst x 242 j)),("a",ae (dm r)),("b",ae (dm f))] (λs u=>?_) rfl (λL I _=>?_) λt z h p m=>?_;.refine FX u λa b c=>?_;kernel_rfl
 .refine .ph .str<|.rB (.nK .n0 .inst (.head _) rfl (by decide) (.cons .n1 .nil) (.refl _) (λp m=>by rw[ao] at m;subst m;rfl) (DW rfl (.inl rfl) lR<|by decide)<|by show 1<=2;decide) λt e h=>?_;obtain⟨d,⟨rfl,h|rfl⟩,rfl⟩:=h;.refine bu h λw _=>j7 w λG v l n=>absurd n λk=>Iq l k
  refine .rB (.nK .n0 .inst (.head _) rfl rfl (.cons (.g 2) .nil) (.refl _) (λp m=>by rw[ao] at m;subst m;rfl) (DZ rfl (.inl rfl) lR rfl rfl rfl (dN tt) q o)<|al _) λt e h=>?_;obtain⟨d,⟨rfl,h|⟨i,rfl⟩⟩,rfl⟩:=h;.refine bu h λy _=>j7 y λG v l n=>absurd n λk=>Iq l k
  exact .nil<|.inr ⟨rfl,rfl,i,by rw[GE];rfl⟩
 .refine bu h λ_ q0=>?_;clear h;refine cc q0 λi q1=>?_;clear q0;subst q1;refine eQ m ?_ λm=>?_;.rfl
  .rw[ao] at m;subst m;rfl
theorem N7(W:Wd)(s)(e:W.K.In s.heap)(a b c d):kf s aee ⟨[a,b,c,d],[]⟩<|(["self","isjunk","a","b","autojunk"]:List bC).zip [a,b,c,d,.bool aj]:=.of_defaults (o:=⟨.type "tuple",ah,.seq #[.none,.str "" 404,.str "" 405,.bool aj] 0,#[]⟩) rfl (e _ _<|by kernel_rfl) rfl (by rfl)<|by kernel_rfl
theorem N8(l:e.Nodup)(k:e.length<200):cu W (.ref 160) [T.inst x 242 j,.none,dm n,dm e] 4 [(j,.dict [])] λt f=>t=.none/\∃i,f=[(i,Ob.dk kS W (gb e e.length)),(j,.dict (vf (dm n) (dm e) .none .none i))]:=by
 refine cu.ofD (WT W) ["self","isjunk","a","b","autojunk"] [] [.bool aj] [.bool aj] (λG=>.cons (.bool _) .nil) [("self",ae (T.inst x 242 j)),("isjunk",ae .none),("a",ae (dm n)),("b",ae (dm e)),("autojunk",ae (.bool aj))] (λs o q r=>?_) rfl (λL I _=>?_) λt w h p m=>?_;.refine Rh r λa b c=>N7 W s q a b c
 .refine .ph .str<|.setAttr .n1 .n0 .inst .here<|.assign2 (.of .none) λt d h=>?_;refine bu h λu v=>?_;try clear h;subst u;subst v
  refine wQ _ _ _ _ (.attr .n0 .inst .here) (.attr .n0 .inst .here) ?_;refine .setAttr (.g 4) .n0 .inst .here<|.rB (.nK .n0 .inst (.head _) rfl rfl (.cons (.g 2)<|.cons (.g 3) .nil) (.refl _) (λp m=>by rw[ao] at m;subst m;rfl) (Kr l k)<|al _) λt d h=>?_;refine aU h λf q0 q4=>?_;clear h;refine bu q0 λq1 q2=>?_;clear q0;subst q1;refine cc q2 λi q3=>?_;clear q2;subst q3;subst q4;exact .nil<|.inr ⟨rfl,rfl,i,rfl⟩
 .refine bu h λ_ q5=>?_;clear h;refine cc q5 λi q6=>?_;clear q5;subst q6;refine eQ m ?_ λm=>?_;.rfl
  .rw[ao] at m;subst m;rfl
theorem D9:GD c (vf a b e op d)=vf c b .none .none d:=by with_unfolding_all rfl
theorem D_:Ip c (nP d<|vf a b e op f)=vf a d .none .none c:=by with_unfolding_all rfl
theorem Ks(A:d.Nodup)(y:d.length<200):cu W (.ref 167) [T.inst x 242 w,dm e,dm d] 3 [(C,Ob.dk kS W (gb u u.length)),(w,.dict (vf (dm D) (dm u) B op C))] λt n=>t=.none/\∃j k l,n=[(j,Ob.dk kS W (gb d d.length)),(w,.dict (vf (dm e) (dm d) k l j))]/\((k=.none/\l=.none)\/(k=B/\l=op/\e=D/\d=u)):=by
 refine cu.of (N5 W) ["self","a","b"] [] [("self",ae (T.inst x 242 w)),("a",ae (dm e)),("b",ae (dm d))] (λE H=>?_) rfl (λL I _=>?_) λt N h p m=>?_;.refine FX H λa b c=>?_;kernel_rfl
 .refine .ph .str<|.rB (.nK .n0 .inst (.tail _<|.head _) rfl rfl (.cons .n1 .nil) (.swap _ _ _) (λp m=>by rw[ao] at m;subst m;rfl) (DW rfl (.inr ⟨_,rfl⟩) fE<|by decide)<|by show 1<=2;decide) λt o h=>?_;refine aU h λn q0 q2=>?_;clear h;refine bu q0 λq1 h=>?_;clear q0;subst q1;subst q2;have s:∃f i,n=[(w,.dict (vf (dm e) (dm u) f i C))]/\((f=.none/\i=.none)\/(f=B/\i=op/\e=D)):=by
   rcases h with⟨⟨G,v,q,r⟩,rfl⟩|rfl;.haveI:=D8 q r;subst this;exact rP B op rfl<|.inr ⟨rfl,rfl,rfl⟩
   .exact rP .none .none (by rw[D9])<|.inl ⟨rfl,rfl⟩
  refine j7 s λf i M z=>?_;try clear s;subst M
  refine .rB (.nK .n0 .inst (.head _) rfl rfl (.cons (.g 2) .nil) (.refl _) (λp m=>by rw[ao] at m;subst m;rfl) (DZ rfl (.inr ⟨_,rfl⟩) fE rfl rfl rfl (dN tt) A y)<|al _) λt o h=>?_;refine aU h λn q3 q5=>?_;clear h;refine bu q3 λq4 h=>?_;clear q3;subst q4;subst q5;rcases h with⟨⟨G,v,q,r⟩,rfl⟩|⟨j,rfl⟩
  .haveI:=D8 q r;subst this;refine .perm (.nil<|.inr ⟨rfl,rfl,C,f,i,rfl,?_⟩)<|.swap _ _ _;rcases z with z|⟨q,r,F⟩;.exact .inl z
   .exact .inr ⟨q,r,F,rfl⟩
  .refine .drop (.nil<|.inr ⟨rfl,rfl,j,.none,.none,by rw[D_];rfl,.inl ⟨rfl,rfl⟩⟩)<|n7 _ _
 .refine bu h λ_ q6=>?_;clear h;refine Mp q6 λj k l q7 _=>?_;clear q6;subst q7;refine eQ m ?_ λm=>?_;.rfl
  .rw[ao] at m;subst m;rfl
noncomputable def p9(d:List<|Int×Int)(j:Int):Int:=((d.find? λp=>p.1==j).map (·.2)).getD 0
noncomputable def qL(b a:Int)(st:M3×List (Int×Int))(i:Int)(o:Option Int):M3×List (Int×Int):=match o with|none=>(st.1,[])|some j=>if j<b then(st.1,[]) else if j>=a then(st.1,[]) else(if p9 st.2 (j-1)+1>st.1.2.2 then(i-(p9 st.2 (j-1)+1)+1,j-(p9 st.2 (j-1)+1)+1,p9 st.2 (j-1)+1) else st.1,[(j,p9 st.2 (j-1)+1)])
noncomputable def p_(d:List<|Option Int)(a b c:Int)(n:Nat):M3×List (Int×Int):=(aL n).foldl (λe (q:Nat)=>qL b c e (a+q)<|d.getD (a+q).toNat ah) ((a,b,0),[])
noncomputable def Ir(a:List<|Option Int)(b:Int)(i j:Int):Option Bool:=if 0<=i/\i<a.length/\0<=j/\j<b then ae (a.getD i.toNat ah==ae j) else ah
noncomputable def Uv(e:List<|Option Int)(f a b d c:Int):Option M3:=let m:=(p_ e a d c (b-a).toNat).1
 if m.1>a/\m.2.1>d/\Ir e f (m.1-1) (m.2.1-1)≠ae false then ah else if m.1+m.2.2<b/\m.2.1+m.2.2<c/\Ir e f (m.1+m.2.2) (m.2.1+m.2.2)≠ae false then ah else ae m
noncomputable abbrev W4:Type:=Int×Int×Int×Int
noncomputable def N9(w:W4)(m:M3):Bool:=decide (w.1<m.1)&&(decide (w.2.2.1<m.2.1)&&aj)
noncomputable def N_(w:W4)(m:M3):Bool:=decide (m.1+m.2.2<w.2.1)&&(decide (m.2.1+m.2.2<w.2.2.2)&&aj)
noncomputable def vg{α:Type}(b:Bool)(w:α)(S:List α):List α:=bif b then w::S else S
noncomputable def BJ(b:List<|Option Int)(c:Int):Nat->List W4->List M3->Option (List M3)|_,[],a=>ae a|0,_::_,_=>ah|n+1,w::S,a=>if 0<=w.1/\w.1<=w.2.1/\w.2.1<=b.length then(Uv b c w.1 w.2.1 w.2.2.1 w.2.2.2).bind λm=>bif m.2.2 !=0 then BJ b c n (vg (N_ w m) (m.1+m.2.2,w.2.1,m.2.1+m.2.2,w.2.2.2)<|vg (N9 w m) (w.1,m.1,w.2.2.1,m.2.1) S) (a++[m]) else BJ b c n S a else ah
noncomputable def nb{α:Type}(b:Bool)(l:List α)(x:α):List α:=bif b then l++[x] else l
noncomputable def kT(st:M3×List M3)(m:M3):M3×List M3:=bif (st.1.1+st.1.2.2==m.1)&&((st.1.2.1+st.1.2.2==m.2.1)&&aj) then((st.1.1,st.1.2.1,st.1.2.2+m.2.2),st.2) else(m,nb (st.1.2.2 !=0) st.2 st.1)
noncomputable def Sj(l:List M3)(b c:Int):List M3:=let a:=l.foldl kT ((0,0,0),[])
 nb (a.1.2.2 !=0) a.2 a.1++[(b,c,0)]
noncomputable def kU(b:List<|Option Int)(a:Int):Option<|List M3:=(BJ b a 50 [(0,b.length,0,a)] []).bind λl=>(DR l).bind λc=>if c.length<100 then ae (Sj c b.length a) else ah
noncomputable def lV(i j a b:Int):Str:=bif decide (i<a)&&(decide (j<b)&&aj) then"replace" else bif decide (i<a) then"delete" else bif decide (j<b) then"insert" else""
noncomputable def BK(st:Int×Int×List dp)(m:M3):Int×Int×List dp:=(m.1+m.2.2,m.2.1+m.2.2,nb (m.2.2 !=0) (nb (((lV st.1 st.2.1 m.1 m.2.1).length:Int) !=0) st.2.2 ⟨lV st.1 st.2.1 m.1 m.2.1,st.1,m.1,st.2.1,m.2.1⟩) ⟨"equal",m.1,m.1+m.2.2,m.2.1,m.2.1+m.2.2⟩)
noncomputable def ta(l:List M3):List dp:=(l.foldl BK (0,0,[])).2.2
noncomputable def aef(b:List<|Option Int)(a:Int):Option<|List dp:=(kU b a).map ta
noncomputable def N'(b:List Bool)(a rest:Nat):List<|Option Int:=(aL<|b.length-a).map λi=>if b.getD (i+a) false&&decide (i+a<rest) then ae ((i+a:Nat)) else ah
noncomputable def cut(b:List Bool)(a rest:Nat):List Bool:=b.zipIdx.map λp=>p.1&&decide (a<=p.2)&&decide (p.2<rest)
noncomputable def Iu(a b:dp):Bool:=a.tag==b.tag&&a.i==b.i&&a.j==b.j&&a.x==b.x&&a.y==b.y
noncomputable def BL:List dp->List dp->Bool|[],[]=>aj|a::r,b::q=>Iu a b&&BL r q|_,_=>false
noncomputable def qa(b:List Bool)(a rest:Nat):Bool:=match aef (N' b a rest) rest with|none=>false|some l=>BL l<|nL (cut b a rest) a rest
noncomputable def nF(a:List bC)(r:bC):Option Int:=(a.findIdx? λb=>b==r).map λn:Nat=>n
theorem D'(r)(a:List bC)(n):mJ (a.zipIdx n|>.map λp=>(p.1,T.list [.int<|p.2])) r=(a.findIdx? λb=>b==r).map λk=>.list [.int<|(n+k:Nat)]:=by
 induction a generalizing n with|nil=>rfl|cons b a c=>
  haveI c:=c<|n+1;unfold mJ at c⊢;rw[Mk,ax,gr,Ju];by_cases e:b=r;.rw[decide_eq_true e,beq_iff_eq.mpr e];rfl
  .rw[decide_eq_false e,beq_eq_false_iff_ne.mpr e];refine c.trans ?_;rw[if_neg fo,Ml];exact congrArg (Option.map · _)<|funext λk=>by rw[Nat.add_right_comm];rfl
theorem Sk(a r):mJ (gb a a.length) r=(nF a r).map λj=>.list [.int j]:=by unfold gb nF;rw[dn,D',Ml];congr 1;funext k;simp
theorem Oa(e:b.Nodup){j:Nat}(h:b[j]?=ae r):nF b r=ae (j:Int):=by refine cc (List.getElem?_eq_some_iff.mp h) λa c=>?_;unfold nF;rw[aT];refine⟨j,?_,rfl⟩;rw[tN];refine⟨a,by simpa using c,λk d=>?_⟩;haveI:=List.pairwise_iff_getElem.mp e k j (Uq a d) a d;rw[c] at this;simpa using this
noncomputable abbrev aeg:FuncData:=jG (g8 PP 5 6) "SequenceMatcher.find_longest_match" [] (.ref 189) .none (mH (g8 PP 5 6) 490) (.str "cpy313.difflib" 194) ah (.ref 195) .none
noncomputable abbrev WU:List Str:=["self","alo","ahi","blo","bhi","a","b","b2j","isbjunk","besti","bestj","bestsize","j2len","nothing","i","j2lenget","newj2len","j","k"]
theorem WV(W):gH W 196 aeg (dA<|g8 PP 5 6) WU:=.plain
theorem Oc(W:Wd)(s)(f:W.K.In s.heap)(a b c d e):kf s aeg ⟨[a,b,c,d,e],[]⟩<|(["self","alo","ahi","blo","bhi"]:List bC).zip [a,b,c,d,e]:=.of_defaults (o:=⟨.type "tuple",ah,.seq #[.int 0 464,.none,.int 0 465,.none] 0,#[]⟩) rfl (f _ _<|by kernel_rfl) rfl (by rfl)<|by kernel_rfl
noncomputable def jT(d:List<|Int×Int):List<|Int×T:=d.map λp=>(p.1,.int p.2)
theorem WW(d j):(mJ (jT d) j).getD (.int 0)=.int (p9 d j):=by
 unfold mJ jT p9;induction d with|nil=>rfl|cons p d c=>
  rw[ax,gr,gr];by_cases e:p.1=j;.subst e;simp
  .haveI a:decide (p.1=j)=false:=by simpa using e
   haveI b:(p.1==j)=false:=by simpa using e
   simp only [a,b];exact c
noncomputable def zh(a b:List bC):List<|Option Int:=a.map<|nF b
noncomputable abbrev aeh(x g p:cj)(e f:List bC)(b a d c:Int)(m:M3)(h:Option T)(o:Option T)(i l n j k:Option T):cG:=[("self",ae (T.inst x 242 g)),("alo",ae (.int b)),("ahi",ae (.int a)),("blo",ae (.int d)),("bhi",ae (.int c)),("a",ae (dm e)),("b",ae (dm f)),("b2j",ae (.val<|.ref p)),("isbjunk",ae T.NM),("besti",ae (.int m.1)),("bestj",ae (.int m.2.1)),("bestsize",ae (.int m.2.2)),("j2len",h),("nothing",o),("i",i),("j2lenget",l),("newj2len",n),("j",j),("k",k)]
theorem Ea(W:Wd):l7 W.K a_ "Match"=ae (ae<|.ref 135):=by kernel_rfl
theorem Eb(d a c b n):p_ d a c b (n+1)=qL c b (p_ d a c b n) (a+n) (d.getD (a+n).toNat ah):=by unfold p_;rw[gk,eU];rfl
theorem Od{st:M3×List (Int×Int)}(e:0=o.toList.length):qL b a st i o=(st.1,[]):=by cases o with|none=>rfl|some j=>cases e
theorem Oe(n:a.Nodup)(c:b.length<200)(d:a.length<200)(h:Ir (zh b a) a.length x y=ae false){g:Prop} (k:∀u v:bC,(b.map T.str)[x.toNat]?=ae (.str u)->(a.map T.str)[y.toNat]?=ae (.str v)->0<=x->x<2^63->0<=y->y<2^63->(u==v)=false->g):g:=by
 unfold Ir at h;split at h
 .rename_i m;refine sB m λl p j q=>?_;have f:=MF l<|by rwa[zh,af] at p
  have i:=MF j q;refine k b[x.toNat] a[y.toNat] (by rw[aq,ay f];rfl) (by rw[aq,ay i];rfl) l (Ur c f) j (Ur d i)<|beq_eq_false_iff_ne.mpr λe=>?_;haveI o:(zh b a).getD x.toNat ah=ae y:=by unfold zh;rw[ak,aq,ay f];show nF a b[x.toNat]=ae y;rw[e,Oa n<|ay i,jP j]
  rw[o] at h;have h:=bq h;simp at h
 .cases h
theorem Of(hn:i.Nodup)(F:A.length<200)(a1:i.length<200)(h0:0<=f)(C:f<=y)(B:y<=A.length)(hm:Uv (zh A i) i.length f y o w=ae m):gW W (.ref 196) [T.inst x 242 dx,.int f,.int y,.int o,.int w] 4 [(E,Ob.dk kS W (gb i i.length)),(dx,.dict (vf (dm A) (dm i) mb op E))]<|T.mt m.1 m.2.1 m.2.2:=by
 refine gW.ofD (WV W) ["self","alo","ahi","blo","bhi"] ["a","b","b2j","isbjunk","besti","bestj","bestsize","j2len","nothing","i","j2lenget","newj2len","j","k"] [] [] (λ_=>.nil) [("self",ae (T.inst x 242 dx)),("alo",ae (.int f)),("ahi",ae (.int y)),("blo",ae (.int o)),("bhi",ae (.int w)),("a",ah),("b",ah),("b2j",ah),("isbjunk",ah),("besti",ah),("bestj",ah),("bestsize",ah),("j2len",ah),("nothing",ah),("i",ah),("j2lenget",ah),("newj2len",ah),("j",ah),("k",ah)] (λs c2 hK hl=>?_) rfl λL I _=>?_;.refine Zd hl λa b c d e=>Oc W s hK a b c d e
 refine .ph .str ?_;haveI a8:(E,(Ob.dk kS W<|gb i i.length).CV)∈vN [(E,Ob.dk kS W (gb i i.length)),(dx,Ob.dict (vf (dm A) (dm i) mb op E))]:=.head _;haveI H:(dx,(Ob.dict<|vf (dm A) (dm i) mb op E).CV)∈vN [(E,Ob.dk kS W (gb i i.length)),(dx,Ob.dict (vf (dm A) (dm i) mb op E))]:=.tail _<|.head _;refine .wk (ts:=[dm A,dm i,.val<|.ref E,T.NM]) (.tuple (.cons (.attr (.g 0) .inst H rfl (by rfl) fE)<|.cons (.attr (.g 0) .inst H rfl (by rfl) fE)<|.cons (.attr (.g 0) .inst H rfl (by rfl) bU)<|.cons (.BB<|.attr (.g 0) .inst H rfl (by rfl)<|xO λG v b=>j7 b λa _ e _=>⟨a,e⟩) .nil)<|by decide) (.cons ai (.g 5)<|.cons ai (.g 6)<|.cons ai (.g 7)<|.cons ai (.g 8) .nil)<|.ite (.cmp (.g 2) .none .xB) (λh=>by cases h) λ_=>.nil ?_;refine .ite (.cmp (.g 4) .none .xB) (λh=>by cases h) λ_=>.nil ?_;refine .pT ["besti","bestj","bestsize"] (.tuple (.cons (.g 1)<|.cons (.g 3)<|.cons .int .nil)<|by decide) (.cons ai (.g 11)<|.cons ai (.g 10)<|.cons ai (.g 9) .nil)<|.iK (.newDict kI) ai λt P h=>?_;refine aU h λd z0 z1=>?_;clear h;subst z0;subst z1;refine⟨_,.g 12,?_⟩;refine .assign (.list .nil<|au _) ai (.g 13) ?_;generalize hR:vN [(E,Ob.dk kS W (gb i i.length)),(dx,Ob.dict (vf (dm A) (dm i) mb op E))]=R at a8 H⊢;haveI a3:((y-f).toNat:Int)=y-f:=by exact(jP<|rk C)
 refine bZ.vO (λq d=>aeh x dx E A i f y o w (p_ (zh A i) f o w q).1 (ae<|.val<|.ref d) (ae<|.list []) ah ah ah ah ah) (λq d=>(d,Ob.dk kI W (jT (p_ (zh A i) f o w q).2))::R) (λ_ _=>True) (λ_=>false) d (.M7 (.builtin (kK W) kL kM) (.cons (.g 1)<|.cons (.g 2) .nil) (Jw (ħ h0) (bn (cJ (Hz<|a3▸bc _) B)<|fh (cT.mpr F)<|by decide) (cJ (by decide)<|cJ h0<|Hz<|a3▸bc _)<|bn B<|fh (cT.mpr F)<|by decide)<|by rw[rangeSize_one]) trivial rfl ?_ ?_
 .intro q t d Δ Qe qe ht _;have hq:q<(y-f).toNat:=by
   have:=(List.getElem?_eq_some_iff.mp ht).1;unfold iI at this;rwa[af,aO] at this
  haveI c0:t=.int (f+(q:Int)):=by
   skip;rw[aq,dR hq] at ht;haveI:=bq ht;rw[<-this];show T.int (f+(q:Int)*1)=_;rw[rq]
  subst c0;rw[Eb] at qe;generalize p_ (zh A i) f o w q=l at qe⊢;have D:(f+(q:Int)).toNat<A.length:=by exact ī h0 B hq
  have b8:(zh A i).getD (f+(q:Int)).toNat ah=nF i (A[(f+(q:Int)).toNat]'D):=by unfold zh;rw[ak,aq,ay D];rfl
  rw[b8] at qe;refine⟨_,.name ai<|.g 14,?_⟩;haveI md:(d,Ob.dk kI W (jT l.2))∈Δ++(d,Ob.dk kI W (jT l.2))::R:=av _<|.head _;refine .assign (.Sc (.g 12)<|.own md rfl) ai (.g 15)<|.iK (.newDict kI) ai λt P h=>?_;refine aU h λd' z2 z3=>?_;clear h;subst z2;subst z3;refine⟨_,.g 16,?_⟩;haveI a9:(E,(Ob.dk kS W<|gb i i.length).CV)∈(d',Ob.dk kI W [])::(Δ++(d,Ob.dk kI W (jT l.2))::R):=.tail _<|av _<|.tail _ a8;haveI a0:(A.map T.str)[(f+(q:Int)).toNat]?=ae (.str<|A[(f+(q:Int)).toNat]'D):=by rw[aq,ay D];rfl
  generalize hr:A[(f+(q:Int)).toNat]'D=r at a0 qe⊢;haveI a6:(mJ (gb i i.length) r).getD (.list [])=.list ((nF i r).toList.map λj=>.int j):=by rw[Sk];cases nF i r<;>rfl
  refine bZ.vO (σ:=M3×List (Int×Int)) (λp z=>aeh x dx E A i f y o w z.1 (ae<|.val<|.ref d) (ae<|.list []) (ae<|.int<|f+(q:Int)) (ae<|T.Sb d) (ae<|.val<|.ref d') ah ah) (λp z=>(d',Ob.dk kI W (jT z.2))::(Δ++(d,Ob.dk kI W (jT l.2))::R)) (λp z=>(p=0->z=(l.1,[]))/\(p=(nF i r).toList.length->qL o w l (f+(q:Int)) (nF i r)=z)) (λ_=>false) (l.1,[]) (.list (.cast (.Dl (.g 7) (.own a9 rfl)<|.cons (.sub (.g 5) (.g 14)<|.list (Ĭ h0) (bn (jc _)<|fh (cT.mpr<|dI D F)<|by decide) a0)<|.cons (.g 13) .nil) a6)<|.name _ _) ⟨λ_=>rfl,Od⟩ rfl ?_ ?_
  .intro p t z N c3 M ht y;have b0:=y.1;clear y;cases hp:nF i r with|none=>rw[hp] at ht;exact nS ht|some j=>
    rw[hp] at ht qe M;haveI b9:p=0:=by
     haveI:=(List.getElem?_eq_some_iff.mp ht).1;simp at this;exact this
    subst b9;haveI hz:=b0 rfl;subst hz;haveI:t=.int j:=by simpa using ht.symm
    subst this;refine⟨_,.name ai<|.g 17,?_⟩;refine .ite (.cmp (.g 17) (.g 3) .kl) (λh=>?_) λh=>.nil ?_
    .haveI h:=of_decide_eq_true h;refine .cont<|M<|.cont (f4 17) (l.1,[]) ⟨λe=>absurd e<|o_ _,λ_=>?_⟩ rfl;show(if j<o then _ else _)=_;rw[if_pos h]
    haveI a2:=of_decide_eq_false h;refine .ite (.cmp (.g 17) (.g 4) .U6) (λh=>?_) λh=>.nil ?_
    .haveI h:=of_decide_eq_true h;refine .brk<|M<|.brk<|?_;haveI hl:qL o w l (f+(q:Int)) (ae j)=(l.1,[]):=by show(if j<o then _ else if j>=w then _ else _)=_;rw[if_neg a2,if_pos h]
     rw[hl] at qe;refine .assign (.g 16) ai (.g 12)<|.perm (.drop (.nil<|qe<|.next (f4 14) d' trivial rfl)<|la _ _)<|((oG).cons _).trans<|(HM _ _<|_++_).trans<|(oG).symm.cons _
    haveI b7:=of_decide_eq_false h;haveI c1:(d,Ob.dk kI W (jT l.2))∈N++(d',Ob.dk kI W (jT []))::(Δ++(d,Ob.dk kI W (jT l.2))::R):=av _<|.tail _<|av _<|.head _;refine .assign2 (.of<|.bin (.cast (.Sd (.g 15) (.own c1 rfl)<|.cons (.bin (.g 17) .int .fx)<|.cons .int .nil)<|WW _ _) .int .cZ) λt P h=>?_;refine bu h λq4 q5=>?_;try clear h;subst q4;subst q5
    refine wQ _ _ _ _ (.name ai<|.g 18) (.item (κ:=kI) (key:=j) (.g 16) (.g 17) (eL.app N .here)<|by unfold aA;exact au _) ?_;haveI a7:qL o w l (f+(q:Int)) (ae j)=(if p9 l.2 (j-1)+1>l.1.2.2 then(f+(q:Int)-(p9 l.2 (j-1)+1)+1,j-(p9 l.2 (j-1)+1)+1,p9 l.2 (j-1)+1) else l.1,[(j,p9 l.2 (j-1)+1)]):=by show(if j<o then _ else if j>=w then _ else _)=_;rw[if_neg a2,if_neg b7]
    refine .ite (.cmp (.g 18) (.g 11) .uU) (λh=>?_) λh=>.nil<|.nil<|M<|.next (f4 17) (l.1,[(j,p9 l.2 (j-1)+1)]) ⟨λe=>absurd e<|o_ _,λ_=>?_⟩ rfl
    .haveI h:=of_decide_eq_true h;refine .pT ["besti","bestj","bestsize"] (.tuple (.cons (.bin (.bin (.g 14) (.g 18) .fx) .int .cZ)<|.cons (.bin (.bin (.g 17) (.g 18) .fx) .int .cZ)<|.cons (.g 18) .nil)<|by decide) (.cons ai (.g 11)<|.cons ai (.g 10)<|.cons ai (.g 9) .nil)<|.nil<|.nil<|M<|.next (f4 17) ((f+(q:Int)-(p9 l.2 (j-1)+1)+1,j-(p9 l.2 (j-1)+1)+1,p9 l.2 (j-1)+1),[(j,p9 l.2 (j-1)+1)]) ⟨λe=>absurd e<|o_ _,λ_=>?_⟩ rfl;rw[a7,if_pos h]
    .haveI h:=of_decide_eq_false h;rw[a7,if_neg h]
  .intro z y;have hl:=y.2;clear y;rw[hl<|af _] at qe;refine .assign (.g 16) ai (.g 12)<|.perm (.drop (.nil<|qe<|.next (f4 14) d' trivial rfl)<|la _ _)<|((oG).cons _).trans<|(HM _ _<|_++_).trans<|(oG).symm.cons _
 .intro d _;haveI el:(iI f 1 (y-f).toNat).length=(y-f).toNat:=j8 ..;rw[el];unfold Uv at hm;dsimp only at hm;generalize p_ (zh A i) f o w (y-f).toNat=l at hm⊢;split at hm;.cases hm
  rename_i b5;split at hm;.cases hm
  rename_i b6;cases hm
  haveI a4:∀{g:Prop},f<l.1.1->o<l.1.2.1->(∀u v:bC,_)->g:=λC B=>Oe hn F a1<|je λhh=>b5 ⟨C,B,hh⟩;haveI a5:∀{g:Prop},l.1.1+l.1.2.2<y->l.1.2.1+l.1.2.2<w->(∀u v:bC,_)->g:=λC B=>Oe hn F a1<|je λhh=>b6 ⟨C,B,hh⟩;refine .sM (.boolOp<|.vL (.cmp (.g 9) (.g 1) .uU) λC=>.vL (.cmp (.g 10) (.g 3) .uU) λB=>a4 (of_decide_eq_true C) (of_decide_eq_true B) λu v e1 e2 b1 b2 Q S G=>.vL (.not<|.val (.mK (.g 8)<|.cons (.sub (.g 6) (.bin (.g 10) .int .fx)<|.list Q S e2) .nil) .bool) λ_=>.Rz<|.cmp (.sub (.g 5) (.bin (.g 9) .int .fx)<|.list b1 b2 e1) (.sub (.g 6) (.bin (.g 10) .int .fx)<|.list Q S e2)<|G▸.eq (n:=0) (.str _ _))<|.sM (.boolOp<|.vL (.cmp (.bin (.g 9) (.g 11) .cZ) (.g 2) .kl) λC=>.vL (.cmp (.bin (.g 10) (.g 11) .cZ) (.g 4) .kl) λB=>a5 (of_decide_eq_true C) (of_decide_eq_true B) λu v e1 e2 b1 b2 Q S G=>.vL (.not<|.val (.mK (.g 8)<|.cons (.sub (.g 6) (.bin (.g 10) (.g 11) .cZ)<|.list Q S e2) .nil) .bool) λ_=>.Rz<|.cmp (.sub (.g 5) (.bin (.g 9) (.g 11) .cZ)<|.list b1 b2 e1) (.sub (.g 6) (.bin (.g 10) (.g 11) .cZ)<|.list Q S e2)<|G▸.eq (n:=0) (.str _ _))<|.sM (.boolOp<|.vL (.cmp (.g 9) (.g 1) .uU) λC=>.vL (.cmp (.g 10) (.g 3) .uU) λB=>a4 (of_decide_eq_true C) (of_decide_eq_true B) λu v e1 e2 b1 b2 Q S G=>.Rz<|.val (.mK (.g 8)<|.cons (.sub (.g 6) (.bin (.g 10) .int .fx)<|.list Q S e2) .nil) .bool)<|.sM (.boolOp<|.vL (.cmp (.bin (.g 9) (.g 11) .cZ) (.g 2) .kl) λC=>.vL (.cmp (.bin (.g 10) (.g 11) .cZ) (.g 4) .kl) λB=>a5 (of_decide_eq_true C) (of_decide_eq_true B) λu v e1 e2 b1 b2 Q S G=>.Rz<|.val (.mK (.g 8)<|.cons (.sub (.g 6) (.bin (.g 10) (.g 11) .cZ)<|.list Q S e2) .nil) .bool)<|.ret (.No (.glob (Ea W)<|by kernel_rfl) (.k<|by kernel_rfl) (.cons (.g 9)<|.cons (.g 10)<|.cons (.g 11) .nil) Go (by show 3<=3;decide) uR pA) rfl
end
section
open PySem PySem.W PySem.Calls PyProof.Rows PySem.SeqAt
section
variable {K:Type}[DecidableEq K] 
theorem jb.oh(h:oD C p Ω m ts)(n:ts.length<=aA):jb C p Ω (.List m pos) λt f=>∃a,t=.val (.ref a)/\f=(a,Ob.list ts)::Ω:=λA G s o I S=>by refine Fp<|Run.use (h A G s pos o I S) λk l g e c d=>⟨d.length▸n,?_⟩;(haveI j:=((S.mono c).pS e (o:={cls:=.type "list",data:=.seq k.toArray}) (b:=Ob.list ts) rfl ⟨k.toArray,_,rfl,d⟩).1;haveI i:=((S.mono c).pS e (o:={cls:=.type "list",data:=.seq k.toArray}) (b:=Ob.list ts) rfl ⟨k.toArray,_,rfl,d⟩).2);exact⟨g,_,_,⟨_,rfl,rfl⟩,i,j,c.sub,.val _⟩
theorem pz.Sl(h:Ev C r Ω e<|.val<|.ref a)(m:(a,Ob.list ts)∈Ω)(i:ts.length<=aA)(n:autoParam (∀env,isTrue e env (bG e env)=(do let v<-bG e env;fy e.pos;gy [v] (Ly v))) eX):pz C r Ω e<|!ts.isEmpty:=λA G s o I S=>by
 refine v9 (Run.use (h A G s o I S) λv j c d b g=>?_)<|n _;cases g
 haveI f:=S.mono b;refine gR (f.own _ m) λ_ q0 _=>?_;refine cc q0 λu q1=>?_;clear q0;refine bu q1 λk q2=>?_;clear q1;refine j7 q2 λq t q3 p=>?_;clear q2;subst q3;have e:=p.length;simp only [aP] at e;refine wpAny_truthy_list ⟨_,k,rfl,_,rfl⟩ (by unfold aA at i;exact Ze i e) ⟨c,d.bL rfl rfl rfl,b.trans<|.bL rfl,?_⟩;haveI l:q.isEmpty=ts.isEmpty:=by cases ts with|nil=>simpa using e|cons x w=>simp only [Q6,LP,e,be];simp
 rw[l]
theorem bZ.GF{id:String}(ho:Ev C r Ω o<|.val<|.ref a)(p:eL Ω a (.list ts) (.list Vc) bT)(H:yC "list" name id)(R:fA (.builtin id)=bB (.type "method_descriptor"))(h:oD C r Ω c us) (a0:∀A G s Q,Ok A C.n->Inv C.W G s->St C r Ω G s->aG G Q us->aD C.W.M A (er (.builtin id)<|.ref a::Q) (λ_ s'=>Inv C.W G s'/\St C r bT G s') (λ_ _=>False) s)(k:bZ C r bT rest P) (hp:autoParam (∀env,(bb pos<|aw c env).any (·.1)=false) eX) (hb:autoParam (∀env,dG o name env (bG o env)=bG o env) eX) (B:autoParam (∀env,((bb pos<|aw c env).all (λx=>!x.1)&&(bK pos<|aX [] env).all (λx=>x.1.isSome)&&decide (c.length+([]:List ij).length+(if([]:List ij).isEmpty then 0 else 1)<30))=aj) eX) (m:autoParam ((y.endLine==pos.line)=aj) iF)(h1:autoParam (jS C.env=false) iF):bZ C r Ω (.Expr (.Call (.Attribute o name y) c [] pos) a1::rest) P:=.expr (λA G s ok I S=>by
 refine fc (hb _) (B _) m hZ H R<|Run.use (ho A G s ok I S) λv L t g j D=>?_;cases D
 have d:=S.mono j;refine gR (d.own _ p.mem) λ_ q0 _=>?_;refine cc q0 λo' q1=>?_;clear q0;refine bu q1 λe q2=>?_;clear q1;refine j7 q2 λa3 n' q3 _=>?_;clear q2;subst q3;refine⟨⟨_,e,rfl⟩,λb q=>by cases q;exact⟨_,e,rfl⟩,gG (.builtin _) g.k ?_<|hp _⟩;refine Run.use (h A t L pos ok g d) λQ N f i l E=>⟨i.k,?_⟩;refine aC (a0 A f N Q ok i (d.mono l) E) (λv a2 zz=>bu zz λu w=>?_) λ_ _ z=>z;exact⟨r,bT,f,u,w,Sub.trans j.sub l.sub,k⟩) h1 rfl
end
end
section
open List renaming perm_append_singleton->yU
open PySem renaming entry_listiter_next->Q7,args_listiter_next->TT
open PySem PySem.W PySem.Calls PyProof.Rows PySem.SeqAt Builtin
section
theorem Kt(a:s.heap.IsListIter e t i)(l:pY s.heap t b)(m:b[i]?=ae x) (j:∀f,f.IsListIter e t (i+1)->iO e s.heap f->Q (ae x) {s with heap:=f}):aD (dL prog w) A (l8<|.ref e) Q E s:=by
 refine ix (id a) λo d k c=>j7 l λp n h g=>?_;skip;refine aa<|iD<|eE a.typeIs lq (ec lq a.typeIs Q7 ?_<|TT _);show aD _ _ (field (.ref e) 0>>=_) _ _ s;refine aa<|cR d c (x:=.ref t) rfl ?_;show aD _ _ (if(ef t==eN)=aj then _ else _) _ _ s;skip;skip;refine aa<|cR d c (x:=.int i 0) rfl ?_;skip;refine aa<|dX h g ?_;simp only [cC,m];refine aa<|tJ d c (by simp)<|ag ⟨x,rfl,ag<|j _ ?_<|cW ..⟩;exact⟨_,cK _ d<|FR<|nt c _,(Mc ..).trans k,by rw[nt c];simp[LL]⟩
theorem Og(k:A.handled=ah)(b:s.heap.IsListIter h t i)(m:pY s.heap t c)(n:c[i]?=ah) (l:∀j,wc h s.heap j->Q ah {s with heap:=j}):aD (dL prog w) A (l8<|.ref h) Q E s:=by
 refine ix (id b) λo f p d=>j7 m λr q g e=>?_;skip;refine aa<|iD<|eE b.typeIs lq (ec lq b.typeIs Q7 ?_<|TT _);show aD _ _ (field (.ref h) 0>>=_) _ _ s;refine aa<|cR f d (x:=.ref t) rfl ?_;show aD _ _ (if(ef t==eN)=aj then _ else _) _ _ s;skip;skip;refine aa<|cR f d (x:=.int i 0) rfl ?_;skip;refine aa<|dX g e ?_;simp only [cC,n];refine aa<|iB<|aa<|tJ f d (by simp) ?_;skip;refine aa ?_;skip;refine aa<|dH ?_<|by size_fits
 refine aa<|bP (a:=eN) (by first|rfl|(simp only [aeY];rfl)) ?_;refine dH ?_<|by size_fits
 skip;refine aa<|afe ?_;first|rw[show A.in1.handled=ah from k]|rw[k]
 refine aa<|ag<|Ē ?_;refine aa<|eW ⟨_,aS _ rfl,rfl⟩ aeZ ?_;exact ag<|l _<|((cW ..).extBut.push _).push _
end
noncomputable def oV(h:lm)(l:cj)(a:Array aW)(b:List<|aW×aW):Prop:=pY h l a/\a.size=b.length/\∀(i:Nat) (p),b[i]?=ae p->∃T,a[i]?=ae (ef T)/\h.IsTuple T #[p.1,p.2]
theorem oV.at(P:oV h l a b)(e:∀o,h.get? l=ae o->c.get? l=ae o)(f:∀(i:Nat) (T:cj),a[i]?=ae (ef T)->∀o,h.get? T=ae o->c.get? T=ae o):oV c l a b:=⟨P.1.at e,P.2.1,λi p d=>(P.2.2 i p d).imp λT z=>⟨z.1,z.2.imp λo y=>⟨f i T z.1 o y.1,y.2⟩⟩⟩
theorem GG{W:Wd}(hh:A.handled=ah)(S:l≠I)(ts)(n:∀(i:Nat) (T:cj),f[i]?=ae (ef T)->T∈ts)(x:I∉ts):WalksU PP W.w A I (I::l::ts) [I] r.length (λi C=>∃p,r[i]?=ae p/\C=#[p.1,p.2]) (λi h=>h.IsListIter I l i/\oV h l f r) λi T h=>T∈ts/\h.IsListIter I l (i+1)/\oV h l f r where
 sub:=λb t=>by rw[ao] at t;subst t;exact .head _
 frame:=λi h D z F=>⟨z.1.imp λo y=>⟨F I (.head _) _ y.1,y.2⟩,z.2.at (F l<|.tail _<|.head _) λi T e=>F T<|.tail _<|.tail _<|n i T e⟩
 item:=λi s Q E hi j B=>sB j λa b c d=>by
  haveI M:=ay hi;refine aU (d i _ M) λT H t2=>Kt a b H λD P G=>?_;have g:=λc o ne=>G.extBut c o ne;have N:∀(i) (T),f[i]?=ae (ef T)->T≠I:=λi T e q=>x<|q▸n i T e;haveI R:=oV.at ⟨b,c,d⟩ (λo=>g l o S) λi T e o=>g T o<|N i T e;haveI:=B T _ D s.toks ⟨_,M,rfl⟩ (aU t2 λo2 u v=>⟨o2,g _ _ (N _ _ H) u,v⟩) ⟨n _ _ H,P,R⟩ λb o t=>g b o<|by simpa using t
  exact this
 go:=λL k a0 i T s Q E j B=>gR j λ_ a b=>uV (.tuple _ _ _) a<|B s.heap ⟨a,b⟩ λb o _ e=>e
 apart:=λi T h j q=>bu j λm _=>by rw[ao] at q;exact x<|q▸m
 done:=λs Q E j B=>sB j λa b c d=>Og hh a b (by rw[<-c];simp) λD G=>B D s.toks λb o t=>G b o<|by simpa using t
 self:=λi s Q E j q=>bu j λa _=>wpAny_pyIter_listiter a q
noncomputable abbrev ahb:FuncData:=jG (g8 PP 5 7) "SequenceMatcher.get_matching_blocks" [] .none .none (mH (g8 PP 5 7) 517) (.str "cpy313.difflib" 194) ah (.ref 202) .none
noncomputable abbrev WX:List Str:=["self","la","lb","queue","matching_blocks","alo","ahi","blo","bhi","i","j","k","x","i1","j1","k1","non_adjacent","i2","j2","k2"]
theorem WY(W):gH W 203 ahb (dA<|g8 PP 5 7) WX:=.plain
theorem BM(W:Wd):l7 W.K a_ "list"=ae none:=by kernel_rfl
theorem WZ(W:Wd):l7 W.K a_ "map"=ae none:=by kernel_rfl
theorem BN:cN "list"=ae (.type "list"):=by kernel_rfl
theorem W0:cN "map"=ae (.type "map"):=by kernel_rfl
theorem BO:("list":bC)≠"__name__":=by decide+kernel
theorem W_:("map":bC)≠"__name__":=by decide+kernel
noncomputable def Ku(w:W4):T:=.tuple [.int w.1,.int w.2.1,.int w.2.2.1,.int w.2.2.2]
theorem Sm{α:Type}[Decidable p]{a b:α}(h:(if p then ae a else ah)=ae b):p/\a=b:=by
 by_cases q:p;.rw[if_pos q] at h;exact⟨q,bq h⟩
 .rw[if_neg q] at h;exact nS h
theorem Ix{α:Type}[Decidable p]{a:Option α}{b:α}(h:(if p then a else ah)=ae b):p/\a=ae b:=by
 by_cases q:p;.rw[if_pos q] at h;exact⟨q,h⟩
 .rw[if_neg q] at h;exact nS h
theorem tb(h:kU c b=ae d):∃l a,BJ c b 50 [(0,c.length,0,b)] []=ae l/\DR l=ae a/\a.length<100/\Sj a c.length b=d:=(Option.bind_eq_some_iff.mp h).elim λl h=>(Option.bind_eq_some_iff.mp h.2).elim λa q=>t9 l a h.1 q.1<|Sm q.2
theorem Oh(h:BJ c b n [] a=ae r):a=r:=by cases n<;>exact bq h
theorem Kv(h:BJ b c n (w::S) a=ae r):∃k m,n=k+1/\(0<=w.1/\w.1<=w.2.1/\w.2.1<=b.length)/\Uv b c w.1 w.2.1 w.2.2.1 w.2.2.2=ae m/\(bif m.2.2 !=0 then BJ b c k (vg (N_ w m) (m.1+m.2.2,w.2.1,m.2.1+m.2.2,w.2.2.2)<|vg (N9 w m) (w.1,m.1,w.2.2.1,m.2.1) S) (a++[m]) else BJ b c k S a)=ae r:=by cases n with|zero=>exact nS h|succ k=>(haveI e:=(Ix h).1;haveI h:=(Ix h).2);refine aU (Option.bind_eq_some_iff.mp h) λm d h=>vG k m rfl e d h
theorem Ae{a:Type}(f:α->a)(b w S):(bif b then S.reverse.map f++[f w] else S.reverse.map f)=(vg b w S).reverse.map f:=by cases b with|true=>show _=(w::S).reverse.map f;rw[gg,aJ];rfl|false=>rfl
theorem Af(b w)(S:List α):(vg b w S).length<=S.length+1:=by cases b with|true=>exact al _|false=>exact cB _
theorem qM{a:Type}(f:α->a)(b l x):(bif b then l.map f++[f x] else l.map f)=(nb b l x).map f:=by cases b with|true=>show _=(l++[x]).map f;rw[aJ];rfl|false=>rfl
theorem mZ(b l)(x:α):(nb b l x).length<=l.length+1:=by cases b with|true=>exact aH aM|false=>exact cB _
theorem W'(h:a<=b+1)(q:b+1+(k+1)<=51):a<1000:=az (ab h<|ab (bi _ _) q)<|dN tt
theorem Xa(h:a<=b+1)(d:c<=a+1)(q:b+1+(k+1)<=51):c+k<=51:=ab (bX (ab d<|aK h) k)<|ab (aH<|hW (b+1) k) q
theorem vh(st m):(kT st m).2.length<=st.2.length+1:=by unfold kT;cases(st.1.1+st.1.2.2==m.1)&&((st.1.2.1+st.1.2.2==m.2.1)&&aj) with|true=>exact cB _|false=>exact mZ _ _ _
noncomputable abbrev aei(x e:cj)(n o:Int)(q p b a d c i j k s i1 g l r f h m:Option T):cG:=[("self",ae (T.inst x 242 e)),("la",ae (.int n)),("lb",ae (.int o)),("queue",q),("matching_blocks",p),("alo",b),("ahi",a),("blo",d),("bhi",c),("i",i),("j",j),("k",k),("x",s),("i1",i1),("j1",g),("k1",l),("non_adjacent",r),("i2",f),("j2",h),("k2",m)]
theorem bZ.apart(h:(Ω.map (·.1)).Nodup->bZ C c Ω b P):bZ C c Ω b P:=λA G s a I S=>h S.hU A G s a I S
theorem bZ.aej(d)(h:pz C g Ω f b)(j:b=aj->bZ C g Ω e (λo Γ' bT=>o=.next/\Γ'=g/\bT=d))(l:b=false->Ω=d)(k:bZ C g d rest P):bZ C g Ω (.If f e [] pos::rest) P:=.ite h (λi=>(j i).mono λo Γ' bT m=>gR m λa b c=>by subst a;subst b;cases c;exact k) λi=>by obtain rfl:=l i;exact .nil k
theorem Oi(hn:c.Nodup)(a0:j.length<200)(a1:c.length<200)(hm:kU (zh j c) c.length=ae M)(a6:mb=.none\/mb=.list (M.map qJ)):cu W (.ref 203) [T.inst x 242 N] 6 [(H,Ob.dk kS W (gb c c.length)),(N,.dict (vf (dm j) (dm c) mb op H))] λt a9=>t=.list (M.map qJ)/\a9=[(H,Ob.dk kS W (gb c c.length)),(N,.dict (vf (dm j) (dm c) (.list<|M.map qJ) op H))]:=by
 refine cu.of (WY W) ["self"] ["la","lb","queue","matching_blocks","alo","ahi","blo","bhi","i","j","k","x","i1","j1","k1","non_adjacent","i2","j2","k2"] _ (λb0 hl=>?_) rfl (λL I _=>?_) λt b1 h p m=>?_;.refine vJ hl λa=>?_;kernel_rfl
 .refine .ph .str ?_;rcases a6 with rfl|rfl;rotate_left
  .exact .ite (.cmp (.attr (.g 0) .inst (.tail _<|.head _) rfl rfl fE) .none .rF) (λ_=>.ret (.attr (.g 0) .inst (.tail _<|.head _) rfl rfl fE)<|.inl ⟨_,rfl,rfl,rfl⟩) λh=>by cases h
  refine .ite (.cmp (.attr (.g 0) .inst (.tail _<|.head _) rfl rfl lR) .none .pZ) (λh=>by cases h) λ_=>.nil ?_;haveI hz:∀n:Nat,n<1000->n<=sizeLine:=λn h=>by unfold aA;exact Us h
  refine .pT ["la","lb"] (.tuple (.cons (.cast (.len (.attr (.g 0) .inst (.tail _<|.head _) rfl rfl fE)<|hz _<|by rw[af];exact Ut a0)<|by rw[af])<|.cons (.cast (.len (.attr (.g 0) .inst (.tail _<|.head _) rfl rfl fE)<|hz _<|by rw[af];exact Ut a1)<|by rw[af]) .nil)<|by decide) (.cons ai (.g 2)<|.cons ai (.g 1) .nil)<|.iK (.oh (.cons (.tuple (.cons .int<|.cons (.g 1)<|.cons .int<|.cons (.g 2) .nil)<|by decide) .nil)<|hz _<|by show 1<1000;exact Į) ai λt i h=>?_;refine aU h λQ q0 q1=>?_;try clear h;subst q0;subst q1
  refine⟨_,.g 3,?_⟩;refine .newList ai (λa=>.g 4) λma=>?_;refine mG (tb hm) λl l' hg hs f hm=>?_;have y:(zh j c).length=j.length:=af _;rw[y] at hg;generalize hR:[(H,Ob.dk kS W (gb c c.length)),(N,Ob.dict (vf (dm j) (dm c) .none op H))]=R;refine bZ.Wt (σ:=List W4×List M3) (λ_=>aei x N j.length c.length (ae<|.val<|.ref Q) (ae<|.val<|.ref ma) ah ah ah ah ah ah ah ah ah ah ah ah ah ah ah) (λz=>(ma,.list (z.2.map qJ))::(Q,.list (z.1.reverse.map Ku))::R) (λn z=>BJ (zh j c) c.length n z.1 z.2=ae l/\z.1.length+n<=51/\z.2.length+n<=50) 50 (λ_=>false) ([(0,j.length,0,c.length)],[]) ⟨hg,į,İ⟩ rfl ?_;intro n z Qe qe a4;obtain⟨qs,d⟩:=z;refine gR a4 λa3 hq P=>?_;try clear a4
  haveI hq:qs.length+n<=51:=hq;haveI P:d.length+n<=50:=P;refine⟨_,.Sl (.g 3) (.tail _<|.head _)<|hz _<|by rw[af,dj];exact ı hq,λC=>?_,λC=>?_⟩;.cases qs with|nil=>exact fT C|cons w S=>
   refine mG (Kv a3) λk m q2 hw hf o=>?_;subst q2;skip;rw[y] at hw;haveI B:S.length+1+(k+1)<=51:=hq;dsimp only;rw[gg,aJ];refine .pQ (.Kj (.g 3) (.there .here) o9 pc<|Se (.there .here)<|hz _<|by rw[af,dj];exact Ĳ B) λt i h=>?_;refine bu h λz0 z1=>?_;clear h;subst z0;subst z1;refine t9 ([.int w.1,.int w.2.1,.int w.2.2.1,.int w.2.2.2]) _ rfl (.cons ai (.g 5)<|.cons ai (.g 6)<|.cons ai (.g 7)<|.cons ai (.g 8) .nil) ?_;haveI mR:∀p∈R,p∈(ma,Ob.list (d.map qJ))::(Q,Ob.list (S.reverse.map Ku))::R:=λp m=>.tail _<|.tail _ m;refine .apart λD=>.assign2 (.of<|.Dk (Δ:=[(H,Ob.dk kS W (gb c c.length)),(N,Ob.dict (vf (dm j) (dm c) .none op H))]) (.g 0) .inst (mR _<|by rw[<-hR];exact .tail _<|.head _) rfl rfl (.cons (.g 5)<|.cons (.g 6)<|.cons (.g 7)<|.cons (.g 8) .nil) (λp h=>⟨p.2,mR _<|by rw[<-hR];exact h,rfl⟩) (by
    rw[<-hR,ax,ax,bV,bV] at D;exact D.2.2) (Of hn a0 a1 hw.1 hw.2.1 hw.2.2 hf)<|by show 4<=5;decide) λt i h=>?_;refine bu h λz2 z3=>?_;clear h;subst z2;subst z3;refine wQ _ _ _ _ (.bnd<|.mt<|.cons ai (.g 9)<|.cons ai (.g 10)<|.cons ai (.g 11) .nil) (.name ai<|.g 12) ?_;refine .ite (.val (.g 11) .int) (λh=>?_) λh=>?_;rotate_left
   .rw[h] at o;exact .nil<|.nil<|qe<|.next (cb k) (f4 5) (S,d) ⟨o,ĳ B,Ĵ P⟩ rfl
   rw[h] at o;refine .append (.g 4) .here (.g 12) (hz _<|by rw[af];exact ĵ P)<|.uc (λl=>(ma,.list (d.map qJ++[qJ m]))::(Q,.list l)::R) (u:=Ku (w.1,m.1,w.2.2.1,m.2.1)) (.boolOp<|.and (.cmp (.g 5) (.g 9) .kl) λ_=>.and (.cmp (.g 7) (.g 10) .kl) λ_=>.rT) (.append (.g 3) (.there .here) (.tuple (.cons (.g 5)<|.cons (.g 9)<|.cons (.g 7)<|.cons (.g 10) .nil)<|by decide) (hz _<|by rw[af,dj];exact Ķ B)<|.nil ⟨rfl,rfl,rfl⟩) ?_;rw[show(decide (w.1<m.1)&&(decide (w.2.2.1<m.2.1)&&aj))=N9 w m from rfl,Ae Ku];haveI l1:=Af (N9 w m) (w.1,m.1,w.2.2.1,m.2.1) S;generalize vg (N9 w m) (w.1,m.1,w.2.2.1,m.2.1) S=S1 at l1 o⊢;refine .uc (λl=>(ma,.list (d.map qJ++[qJ m]))::(Q,.list l)::R) (u:=Ku (m.1+m.2.2,w.2.1,m.2.1+m.2.2,w.2.2.2)) (.boolOp<|.and (.cmp (.bin (.g 9) (.g 11) .cZ) (.g 6) .kl) λ_=>.and (.cmp (.bin (.g 10) (.g 11) .cZ) (.g 8) .kl) λ_=>.rT) (.append (.g 3) (.there .here) (.tuple (.cons (.bin (.g 9) (.g 11) .cZ)<|.cons (.g 6)<|.cons (.bin (.g 10) (.g 11) .cZ)<|.cons (.g 8) .nil)<|by decide) (hz _<|by rw[af,dj];exact W' l1 B)<|.nil ⟨rfl,rfl,rfl⟩) ?_;rw[show(decide (m.1+m.2.2<w.2.1)&&(decide (m.2.1+m.2.2<w.2.2.2)&&aj))=N_ w m from rfl,Ae Ku];haveI l2:=Af (N_ w m) (m.1+m.2.2,w.2.1,m.2.1+m.2.2,w.2.2.2) S1;generalize vg (N_ w m) (m.1+m.2.2,w.2.1,m.2.1+m.2.2,w.2.2.2) S1=S2 at l2 o⊢;rw[show d.map qJ++[qJ m]=(d++[m]).map qJ by rw[aJ];rfl];exact .nil<|.nil<|qe<|.next (cb k) (f4 5) (S2,d++[m]) ⟨o,Xa l1 l2 B,by rw[aM];exact ķ P⟩ rfl
  .cases qs with|cons w S=>rw[gg,aJ] at C;simp at C|nil=>
   obtain rfl:=Oh a3;refine .drop ?_<|.cons_cons _<|la _ _;refine .GF (.g 4) .here PySem.F.slot_list_sort PySem.F.type_list_sort .nil (λA G s vs ok I S h=>by cases h;exact NP .here hs (ĸ P) A G s ok I S)<|.R1 (.of .int) λt i h=>?_;refine bu h λz4 z5=>?_;clear h;subst z4;subst z5;refine afS _ _ _ _ _ _ (.name ai<|.g 13) (.name ai<|.g 14) (.name ai<|.g 15) ?_;refine .newList ai (λa=>.g 16) λna=>bZ.oe [_,_,_,_] _ [_] _ iS rfl<|.F8 l' qJ kT ((0,0,0),[]) (λb=>aei x N j.length c.length (ae<|.val<|.ref Q) (ae<|.list<|l'.map qJ) ah ah ah ah ah ah ah ah (ae<|.int b.1.1) (ae<|.int b.1.2.1) (ae<|.int b.1.2.2) (ae<|.val<|.ref na) ah ah ah) (λb=>(na,.list (b.2.map ut))::R) (λp b=>b.2.length<=p) (λ_=>false) (.list (.g 4)<|.tuple _ _ _) (al _) rfl (λp m b Δ Qe qe hp r=>⟨ab (vh b m)<|aK r,_,.mt<|.cons ai (.g 17)<|.cons ai (.g 18)<|.cons ai (.g 19) .nil,?_⟩) λr=>?_
   .haveI a7:p<l'.length:=(List.getElem?_eq_some_iff.mp hp).1;refine .ite (.boolOp<|.and (.cmp (.bin (.g 13) (.g 15) .cZ) (.g 17)<|.eq (n:=0)<|.int _ _) λ_=>.and (.cmp (.bin (.g 14) (.g 15) .cZ) (.g 18)<|.eq (n:=0)<|.int _ _) λ_=>.rT) (λC=>?_) λC=>?_
    .have e:((b.1.1,b.1.2.1,b.1.2.2+m.2.2),b.2)=kT b m:=by unfold kT;rw[C];rfl
     exact .aug (.tail _<|.tail _<|.tail _<|.tail _<|.tail _<|.tail _<|.tail _<|.tail _<|.tail _<|.tail _<|.tail _<|.tail _<|.tail _<|.tail _<|.tail _<|.head _) (.g 19) ai (.g 15)<|.nil<|.nil<|qe<|.next (f4 17) ((b.1.1,b.1.2.1,b.1.2.2+m.2.2),b.2) e rfl
    .haveI e:(m,nb (b.1.2.2 !=0) b.2 b.1)=kT b m:=by unfold kT;rw[C];rfl
     refine .uc (λl=>Δ++(na,.list l)::R) (u:=ut b.1) (.val (.g 15) .int) (.append (.g 16) (eL.app Δ .here) (.tuple (.cons (.g 13)<|.cons (.g 14)<|.cons (.g 15) .nil)<|by decide) (hz _<|by rw[af];exact Ĺ f r a7)<|.nil ⟨rfl,rfl,rfl⟩) ?_;rw[qM ut];exact .pT ["i1","j1","k1"] (.tuple (.cons (.g 17)<|.cons (.g 18)<|.cons (.g 19) .nil)<|by decide) (.cons ai (.g 15)<|.cons ai (.g 14)<|.cons ai (.g 13) .nil)<|.nil<|.nil<|qe<|.next (f4 17) (m,nb (b.1.2.2 !=0) b.2 b.1) e rfl
   .generalize a8:l'.foldl kT ((0,0,0),[])=b at r⊢;have v:nb (b.1.2.2 !=0) b.2 b.1++[((j.length:Int),(c.length:Int),(0:Int))]=M:=by rw[<-hm];unfold Sj;rw[a8,y]
    refine .uc (λl=>(na,.list l)::R) (u:=ut b.1) (.val (.g 15) .int) (.append (.g 16) .here (.tuple (.cons (.g 13)<|.cons (.g 14)<|.cons (.g 15) .nil)<|by decide) (hz _<|by rw[af];exact ĺ f r)<|.nil ⟨rfl,rfl,rfl⟩) ?_;rw[qM ut];haveI E:(nb (b.1.2.2 !=0) b.2 b.1).length<=101:=ab (mZ _ _ _)<|Ļ f r;generalize nb (b.1.2.2 !=0) b.2 b.1=nl at v E⊢;refine .append (u:=ut (j.length,c.length,0)) (.g 16) .here (.tuple (.cons (.g 1)<|.cons (.g 2)<|.cons .int .nil)<|by decide) (hz _<|by rw[af];exact ļ E) ?_;have a5:nl.map ut++[ut (j.length,c.length,0)]=M.map ut:=by rw[<-v,aJ];rfl
    have a2:M.length<=102:=by rw[<-v,aM];exact Up E
    rw[a5];refine bZ.oe [_,_,_,_,_,_,_,_,_,_,_,_,_,_,_,_] _ [] _ iS rfl ?_;subst hR;refine .setAttr (.DV (.builtin (BM W) BN BO) (.builtin (WZ W) W0 W_) (.cons (.NS<|.glob (Ea W)<|by kernel_rfl)<|.cons (.g 16) .nil) (hz _<|Ľ a2)<|by show 3<=5;decide) (.g 0) .inst (.there .here) ?_ (hz:=by decide);exact .ret (.attr (.g 0) .inst (.tail _<|.head _) rfl rfl fE)<|.inl ⟨_,rfl,rfl,by with_unfolding_all rfl⟩
 .refine bu h λ_ q9=>?_;subst q9;exact fm (p:=λq:cj×Ob=>q.2.gT=false) rfl (fm rfl uR) p m
theorem A4.str(a:x.length<=aA):A4 (.str x)<|(x.length:Int) !=0:=λW A G s v b I h=>by
 cases h
 exact PySem.P.truthy_str (by unfold aA at a;exact Zi a) ⟨G,I.bL rfl rfl rfl,.bL rfl,rfl⟩
noncomputable abbrev ahc:FuncData:=jG (g8 PP 5 8) "SequenceMatcher.get_opcodes" [] .none .none (mH (g8 PP 5 8) 532) (.str "cpy313.difflib" 194) ah (.ref 209) .none
noncomputable abbrev Xb:List Str:=["self","i","j","answer","ai","bj","size","tag"]
theorem Xc(W):gH W 210 ahc (dA<|g8 PP 5 8) Xb:=.plain
noncomputable abbrev aek(x f:cj)(i j:Int)(b d e a c:Option T):cG:=[("self",ae (T.inst x 242 f)),("i",ae (.int i)),("j",ae (.int j)),("answer",b),("ai",d),("bj",e),("size",a),("tag",c)]
theorem Kw(i j a b):(lV i j a b).length<=10:=by unfold lV;cases decide (i<a)<;>cases decide (j<b)<;>decide
theorem GH(st m):(BK st m).2.2.length<=st.2.2.length+2:=by skip;exact ab (mZ _ _ _)<|aK<|mZ _ _ _
theorem Ec(hn:c.Nodup)(F:v.length<200)(G:c.length<200)(hm:kU (zh v c) c.length=ae f)(D:f.length<400)(M:(op=.none/\mb=.none)\/(op=.list ((ta f).map dp.t)/\mb=.list (f.map qJ))):cu W (.ref 210) [T.inst x 242 o] 7 [(j,Ob.dk kS W (gb c c.length)),(o,.dict (vf (dm v) (dm c) mb op j))] λt s=>t=.list ((ta f).map dp.t)/\s=[(j,Ob.dk kS W (gb c c.length)),(o,.dict (vf (dm v) (dm c) (.list<|f.map qJ) (.list<|(ta f).map dp.t) j))]:=by
 refine cu.of (Xc W) ["self"] ["i","j","answer","ai","bj","size","tag"] _ (λa0 D=>?_) rfl (λL I _=>?_) λt bT h p m=>?_
 .refine vJ D λa=>?_;kernel_rfl
 .refine .ph .str ?_;rcases M with⟨rfl,rfl⟩|⟨rfl,rfl⟩;rotate_left
  .exact .ite (.cmp (.attr .n0 .inst (.tail _<|.head _) rfl rfl fE) .none .rF) (λ_=>.ret (.attr .n0 .inst (.tail _<|.head _) rfl rfl fE)<|.inl ⟨_,rfl,rfl,rfl⟩) λh=>by cases h
  refine .ite (.cmp (.attr .n0 .inst (.tail _<|.head _) rfl rfl lR) .none .pZ) (λh=>by cases h) λ_=>.nil ?_;haveI N:∀n:Nat,n<1000->n<=sizeLine:=λn h=>by unfold aA;exact Us h
  refine .assign2 (.of .int) λt i h=>?_;refine bu h λq0 q1=>?_;subst q0;subst q1;refine wQ _ _ _ _ (.name ai .p1) (.name ai<|.g 2) ?_;refine .assign2 (.oh .nil<|au _) λt i h=>?_;refine aU h λd z0 z1=>?_;clear h;subst z0;subst z1;refine wQ _ _ _ _ (.attr .n0 .inst (.there<|.there .here)<|by decide) (.name ai<|.g 3) ?_;skip;generalize S:[(j,Ob.dk kS W (gb c c.length)),(o,Ob.dict (vf (dm v) (dm c) (.list<|f.map qJ) (.val<|.ref d) j))]=R;refine .Vb f qJ BK (0,0,[]) (λb=>aek x o b.1 b.2.1 (ae<|.val<|.ref d) ah ah ah ah) (λb=>R++[(d,.list (b.2.2.map dp.t))]) (λp b=>b.2.2.length<=2*p) (λ_=>false) (.list (.nK (Δ:=[(j,Ob.dk kS W (gb c c.length)),(o,.dict (vf (dm v) (dm c) .none (.val<|.ref d) j))]) .n0 .inst (.tail _<|.tail _<|.head _) rfl rfl .nil (yU _ _).symm (fm rfl<|fm rfl uR) (Oi hn F G hm<|.inl rfl)<|al _) (.tuple _ _ _) λu i z=>aU z λs y _=>⟨_,y.1⟩) (λts Q h=>by
   refine aU h λs y0 y2=>?_;clear h;refine bu y0 λh y1=>?_;clear y0;subst y1;subst y2;injection h with _ h;exact⟨h,by rw[<-S];rfl⟩) (al _) rfl (λp m b Δ Qe E hp r=>?_) λ_=>?_
  .haveI A:p<f.length:=(List.getElem?_eq_some_iff.mp hp).1;haveI k:=Kw b.1 b.2.1 m.1 m.2.1;haveI y:=mZ (((lV b.1 b.2.1 m.1 m.2.1).length:Int) !=0) b.2.2 ⟨lV b.1 b.2.1 m.1 m.2.1,b.1,m.1,b.2.1,m.2.1⟩;refine⟨ ab (GH b m)<|bX r 2,_,.mt<|.cons ai (.g 4)<|.cons ai (.g 5)<|.cons ai (.g 6) .nil,?_⟩;haveI pa:∀l P:List T,eL (Δ++(R++[(d,.list l)])) d (.list l) (.list P)<|Δ++(R++[(d,.list P)]):=λl P=>eL.app Δ<|eL.app R .here;refine .assign .str ai (.g 7) ?_;refine .ag4 (aek x o b.1 b.2.1 (ae<|.val<|.ref d) (ae<|.int m.1) (ae<|.int m.2.1) (ae<|.int m.2.2)<|ae<|.str<|lV b.1 b.2.1 m.1 m.2.1) _ (.boolOp<|.and (.cmp .n1 (.g 4) .kl) λ_=>.and (.cmp (.g 2) (.g 5) .kl) λ_=>.rT) (λw=>.assign (t:=.str<|lV b.1 b.2.1 m.1 m.2.1) (.cast .str<|by unfold lV;rw[w];rfl) ai (.g 7)<|.nil ⟨rfl,rfl,rfl⟩) (λw=>.ite (.cmp .n1 (.g 4) .kl) (λC=>.assign (t:=.str<|lV b.1 b.2.1 m.1 m.2.1) (.cast .str<|by unfold lV;rw[w,C];rfl) ai (.g 7)<|.nil<|.nil ⟨rfl,rfl,rfl⟩) λC=>.ite (.cmp (.g 2) (.g 5) .kl) (λH=>.assign (t:=.str<|lV b.1 b.2.1 m.1 m.2.1) (.cast .str<|by unfold lV;rw[w,C,H];rfl) ai (.g 7)<|.nil<|.nil<|.nil ⟨rfl,rfl,rfl⟩) λH=>.nil<|.nil<|.nil ⟨rfl,by unfold lV;rw[w,C,H];rfl,rfl⟩) ?_;haveI e:BK b m=(m.1+m.2.2,m.2.1+m.2.2,nb (m.2.2 !=0) (nb (((lV b.1 b.2.1 m.1 m.2.1).length:Int) !=0) b.2.2 ⟨lV b.1 b.2.1 m.1 m.2.1,b.1,m.1,b.2.1,m.2.1⟩) ⟨"equal",m.1,m.1+m.2.2,m.2.1,m.2.1+m.2.2⟩):=rfl;rw[e] at E;generalize lV b.1 b.2.1 m.1 m.2.1=B at E y k⊢;refine .uc (λl=>Δ++(R++[(d,.list l)])) (u:=dp.t ⟨B,b.1,m.1,b.2.1,m.2.1⟩) (.val (.name<|.tail _<|.tail _<|.tail _<|.tail _<|.tail _<|.tail _<|.tail _<|.head _)<|.str<|N _<|az k<|aB (cb 10)<|ap rfl) ?_ ?_;.exact .append (.g 3) (pa _ _) (.tuple (.cons (.g 7)<|.cons .n1<|.cons (.g 4)<|.cons (.g 2)<|.cons (.g 5) .nil)<|by decide) (N _<|by rw[af];exact(az r<|az (Jq 2<|aF<|dI A D)<|by decide))<|.nil ⟨rfl,rfl,rfl⟩
   rw[qM dp.t];haveI z:(nb ((B.length:Int) !=0) b.2.2 ⟨B,b.1,m.1,b.2.1,m.2.1⟩).length<=2*p+1:=ab y<|aK r;generalize nb ((B.length:Int) !=0) b.2.2 ⟨B,b.1,m.1,b.2.1,m.2.1⟩=l1 at E z⊢;refine .pT ["i","j"] (.tuple (.cons (.bin (.g 4) (.g 6) .cZ)<|.cons (.bin (.g 5) (.g 6) .cZ) .nil)<|by decide) (.cons ai (.g 2)<|.cons ai .p1 .nil) ?_;refine .uc (λl=>Δ++(R++[(d,.list l)])) (u:=dp.t ⟨"equal",m.1,m.1+m.2.2,m.2.1,m.2.1+m.2.2⟩) (.val (.name<|.tail _<|.tail _<|.tail _<|.tail _<|.tail _<|.tail _<|.head _) .int) ?_ ?_;.exact .append (.g 3) (pa _ _) (.tuple (.cons .str<|.cons (.g 4)<|.cons .n1<|.cons (.g 5)<|.cons (.g 2) .nil)<|by decide) (N _<|by rw[af];exact ŀ D A z)<|.nil ⟨rfl,rfl,rfl⟩
   rw[qM dp.t];exact .nil<|E<|.next (f4 4) (m.1+m.2.2,m.2.1+m.2.2,_) rfl rfl
  .show bZ _ _ (R++[(d,.list ((ta f).map dp.t))]) _ _;rw[<-S];refine .perm (bT:=(d,.list ((ta f).map dp.t))::[(j,Ob.dk kS W (gb c c.length)),(o,Ob.dict (vf (dm v) (dm c) (.list<|f.map qJ) (.val<|.ref d) j))]) ?_<|yU _ _;refine bZ.Ad [_,_,_] _ iS rfl (.keep<|.attr (name:="opcodes") rfl .nil) ?_;skip;exact .ret (.g 3)<|.inl ⟨_,rfl,rfl,rfl⟩
 .refine bu h λ_ q7=>?_;try clear h;subst q7
  exact fm (p:=λq:cj×Ob=>q.2.gT=false) rfl (fm rfl uR) p m
end
section
open PySem renaming wpAny_listPart->mi,listSliceParts_eq->VR,sliceIndices_raw->Yo,slice_no_index->ae4
open PySem.Builtin.List renaming listSubscript?->ly
open PySem.F renaming args_list_getitem_2->vC,entry_list_getitem->wh
open PySem PySem.W PySem.Calls PyProof.Rows PySem.SeqAt Builtin Builtin.List
theorem GI (g:i4 i=ae .method)(hs:LJ i=ae (owner,n))(f:cU M s.heap (fB self<|.type owner) aj)(c:jV i ⟨self::rest,d⟩)(q:Q () s):aD M A (eV i ⟨self::rest,d⟩) Q E s:=by simp only [eV,g,hs];refine aa<|f.here ?_;skip;cases a:mh i with|none=>exact ag q|some b=>simp only [jV,a] at c;haveI e:=c;show aD M A (Q8 i b ⟨self::rest,d⟩) Q E s;rw[e];exact ag q
structure g5(h:lm)(x ox items):Prop where
 at_:h.get? x=ae ox
 cls:ox.cls=.ref 403
 dat:∃n,ox.data=.seq items n
section
theorem g5.ty{s:bk}(S:g5 s.heap x b a):cU M s.heap (fA<|.ref x)<|.ref 403:=S.cls▸(jW (part:=ah) S.at_).andThen .now
theorem g5.UU{W:Wd}{s:bk}(c:W.K.In s.heap)(S:g5 s.heap x b a):cU M s.heap (fB (.ref x)<|.type "list") true:=S.ty.andThen<|il c<|by kernel_rfl
theorem g5.sp{W:Wd}{s:bk}(c:W.K.In s.heap)(S:g5 s.heap x b a)(e:mU W.K (.ref 403) name=ae r):cU M s.heap (jm (.ref x) name) r:=S.ty.andThen<|dQ c e
theorem Ed{W:Wd}{id:String}(t:W.K.In s.heap)(S:g5 s.heap x r i)(o:yH id=aj)(m:gN mF id=ae B)(c:i4 id=ae .method\/i4 id=ae .slot)(d:LJ id=ae ("list",n))(l:jV id ⟨.ref x::a,[]⟩) (h:aD W.M A.in1 (B ⟨.ref x::a,[]⟩) (λb s'=>∃v,b=.done (.ret v)/\Q v s') E s):aD W.M A (call (.builtin id)<|.ref x::a) Q E s:=by
 haveI g:=S.UU (M:=W.M) t;haveI k:aD W.M A.in1 (B ⟨.ref x::a,[]⟩) (λb s'=>match b with|.done f=>yI Q E (.ok f) s'|.again j=>j.quiet=aj/\gU W.M A j (yI Q E) s') (λe=>E e) s:=aC h (λb s' p=>aU p λv e q=>by subst e;exact q) λ_ _ z=>z;refine dy c (λc=>?_) λc=>?_;.exact df<|cz o m<|GI c d g l k
 .exact df<|cz o m<|i' c d g l k
theorem qb{W:Wd}{id:String}(w:W.K.In s.heap)(S:g5 s.heap x t f)(e:mU W.K (.ref 403) name=ae (ae<|.builtin id))(j:AR (.builtin id) (.ref x)=bB (.builtin id,[.ref x])) (p:yH id=aj)(m:gN mF id=ae B)(o:i4 id=ae .method\/i4 id=ae .slot)(c:LJ id=ae ("list",n))(l:jV id ⟨.ref x::a,[]⟩) (h:aD W.M A.in1 (B ⟨.ref x::a,[]⟩) (λb s'=>∃v,b=.done (.ret v)/\Q (ae v) s') E s):aD W.M A (LK (.ref x) name a) Q E s:=by haveI i:=S.sp (M:=W.M) w e;obtain⟨q,g,d,u,r⟩:=s;have k:=Ed w S p m o c l h;dsimp only at i;skip;refine aa<|i.at ?_;skip;refine aQ<|aa ?_;rw[j];refine ag<|aa ?_;exact aC k (λv s'=>ag) λ_ _ z=>z
theorem GJ{W:Wd}(e:W.K.In s.heap)(S:g5 s.heap x d a)(c:a.size<=aA)(h:Q .none {s with heap:=s.heap.update x<|cn (·.push v)}):aD W.M A (call (.builtin "list.append") [.ref x,v]) Q E s:=by refine cc S.dat λn b=>Ed (n:="append") e S fU.plain PySem.F.entry_list_append (.inl<|by decide+kernel) (by decide+kernel) (PySem.F.args_list_append_2 _ _) ?_;skip;refine aa<|ag ?_;skip;refine aa ?_;skip;refine gC S.at_ b<|ag ⟨_,rfl,h⟩
theorem r_{W:Wd}{s:bk}(m:W.K.In s.heap)(S:g5 s.heap x j a):cU M s.heap (sequenceKey (.ref x) i nm) i:=by
 haveI c:=S.ty (M:=M);haveI b:cU M s.heap (jl (.ref 403)<|.type "collections.deque") false:=il m<|by kernel_rfl
 intro A Q E e k q;haveI c:=c.keeps k;obtain⟨f,g,d,l,h⟩:=e;have b:=b.keeps k;skip;skip;repeat (first|(with_reducible refine bI ?_ ?_;first|rfl|(simp;done))|(with_reducible refine dw ?_ ?_;first|rfl|(simp;done))|lk|simp only [List.anyM,ev,if_false,Bool.not_false,if_true])
 exact q
theorem GK{W:Wd}(o:W.K.In s.heap)(S:g5 s.heap x m a)(d:0<=k)(b:k<2^63)(f:a[k.toNat]?=ae v)(h:Q v s):aD W.M A (ig (.ref x)<|.int k t) Q E s:=by refine cc S.dat λn e=>?_;have l:=r_ (i:=.int k t) (nm:="__getitem__") (M:=W.M) o S;skip;refine aQ<|aa<|l.here ?_;refine aa<|qb (n:="__getitem__") o S (by kernel_rfl) (PySem.F.slot_list_getitem.bind<|.ref x) PySem.F.slot_list_getitem.plain wh (.inl<|by decide+kernel) (by decide+kernel) (vC _ _) ?_;show aD _ _ (ly (.int k t)>>=_) _ _ s;refine aa<|wpAny_listSubscript_int (fitsIndex_of d b) ?_;clear b;refine cc (eh d) λj g=>?_;subst g;haveI c:a[j]?=ae v:=f;skip;refine aa<|aa<|wpAny_seqItemAt S.at_ e<|ag ?_;exact(c)▸ag ⟨v,rfl,ag h⟩
theorem BP{W:Wd}{g st:Option Int}(B:W.K.In s.heap)(S:g5 s.heap x z a) (hs:s.heap.IsSliceOf j o q p)(v:v_ o g)(w:v_ q l)(ps:v_ p st)(m:st≠ae 0) (h:Q (.ref s.heap.objs.size) {s with heap:=s.heap.push {cls:=.type "list",data:=.seq<|tR a g l st}}) (hsz:a.size<=aA):aD W.M A (ig (.ref x)<|.ref j) Q E s:=by
 refine cc S.dat λn r=>?_;have y:=r_ (i:=.ref j) (nm:="__getitem__") (M:=W.M) B S;refine ix (id hs) λu b k d=>?_;haveI f:s.TypeIs (.ref j) "slice":=⟨u,b,k⟩;skip;refine aQ<|aa<|y.here ?_;refine aa<|qb (n:="__getitem__") B S (by kernel_rfl) (PySem.F.slot_list_getitem.bind<|.ref x) PySem.F.slot_list_getitem.plain wh (.inl<|by decide+kernel) (by decide+kernel) (vC _ _) ?_;show aD _ _ (ly (.ref j)>>=_) _ _ s;refine aa ?_;skip;refine aa<|cP f ae4 ?_;skip;refine ag ?_;skip;refine aa<|l9 f ?_;skip;rw[VR];haveI e:¬((rawPart st==LL 0)=aj):=by
  cases st with|none=>exact fo|some c=>
   intro t;haveI:c=0:=by simpa [rawPart,LL] using t
   exact m<|by rw[this]
 refine aa<|aa<|cR b d (x:=p) rfl<|aa<|mi ps ?_;rw[if_neg e];refine aa<|cR b d (x:=o) rfl<|aa<|mi v ?_;refine aa<|cR b d (x:=q) rfl<|aa<|mi w<|ag ?_;refine aa ?_;skip;refine aa<|dX S.at_ r<|ag ?_;refine aa<|bP (Yo g l st a.size m) ?_;refine aa<|dH (ag ⟨_,rfl,ag h⟩)<|ab (VF a g l st) hsz
noncomputable def kW(a:Nat)(d:Array aW)(c b:Option Int)(xs:Array aW):Array Value:=xs.extract 0 (i3 c b ah a).1.toNat++d++xs.extract (max (i3 c b ah a).1 (i3 c b ah a).2.1).toNat
theorem BQ{W:Wd}{q:Option Int}(L:W.K.In s.heap)(S:g5 s.heap x I a) (hs:s.heap.IsSliceOf k u v .none)(C:v_ u q)(D:v_ v t)(w:s.heap.IsList y j) (h:Q () {s with heap:=s.heap.update x<|cn<|kW a.size j q t}) (hsz:a.size+j.size<=10000):aD W.M A (VI (.ref x) (.ref k)<|.ref y) Q E s:=by
 refine cc S.dat λn r=>?_;have G:=r_ (i:=.ref k) (nm:="__setitem__") (M:=W.M) L S;refine cc (id w) λB q0=>?_;refine bu q0 λc q1=>?_;clear q0;refine bu q1 λd q2=>?_;clear q1;refine cc q2 λH o=>?_;clear q2;refine ix (id hs) λz b m e=>?_;haveI g:s.TypeIs (.ref k) "slice":=⟨z,b,m⟩;have l:s.TypeIs (.ref y) "list":=⟨B,c,d⟩;haveI p:x≠y:=by
  rintro rfl;rw[S.at_] at c;cases c
  rw[S.cls] at d;cases d
 skip;refine aQ<|aa<|G.here ?_;refine aa<|qb (n:="__setitem__") L S (by kernel_rfl) (PySem.F.slot_list_setitem.bind<|.ref x) PySem.F.slot_list_setitem.plain PySem.F.entry_list_setitem (.inr<|by decide+kernel) (by decide+kernel) (PySem.F.args_list_setitem_3 _ _ _) ?_;show aD _ _ (ly (.ref k)>>=_) _ _ s;refine aa ?_;skip;refine aa<|cP g ae4 ?_;skip;refine ag ?_;skip;refine aa<|l9 g ?_;skip;rw[VR];refine aa<|aa<|cR b e (x:=.none) rfl<|aa<|mi .none ?_;skip;refine aa<|cR b e (x:=u) rfl<|aa<|mi C ?_;refine aa<|cR b e (x:=v) rfl<|aa<|mi D<|ag ?_;have f:listSameRef (.ref x) (.ref y)=false:=by unfold listSameRef;simpa using p
 dsimp only;rw[f,if_neg<|by decide];refine aa ?_;skip;refine aa<|l9 l ?_;skip;skip;refine aa<|dX c o<|ag ?_;refine aa<|aa<|dX S.at_ r<|ag ?_;refine aa<|bP (Yo q t ah a.size<|dD tt) ?_;skip;refine aa<|iB ?_;rw[if_neg<|by unfold listTooLong;simp[fW];exact(ab hsz<|ap rfl)];refine aa ?_;skip;refine gC S.at_ r ?_ (by rw[fW];exact ł hsz)<|by rw[fW];simp only [nJ,Array.size_extract];exact Ń hsz
 refine aa<|tM ?_;exact ag ⟨_,rfl,ag h⟩
end
end
section
open PySem PySem.W PySem.Calls PyProof.Rows PySem.SeqAt
theorem zi(a xs)(i:Nat)(b:i<=xs.size):(kW xs.size a (ae i) ah xs).toList=xs.toList.take i++a.toList:=by
 haveI e:i3 (ae i) ah ah xs.size=((i:Int),(xs.size:Int),1):=by unfold i3;simp;exact ĩ b
 unfold kW;rw[e];haveI c:(max (i:Int) xs.size).toNat=xs.size:=congrArg br<|l5<|bj.mpr b;simp only [c,jE,Array.toList_extract,cC];simp
theorem BR(a xs):(kW xs.size a ah ah xs).toList=a.toList:=by
 haveI e:i3 ah ah ah xs.size=(0,(xs.size:Int),1):=by unfold i3;rfl
 unfold kW;rw[e];haveI b:(max 0 (xs.size:Int)).toNat=xs.size:=rfl;skip;simp
section
variable {K:Type}[DecidableEq K] 
theorem mL(S:St C t Ω G s)(m:(x,b)∈Ω)(l:b.bare=.seq (.ref 403) d ts):∃f a,g5 s.heap x f a/\f.dict=d/\aG G a.toList ts:=by refine gR (S.own _ m) λ_ p _=>aU p λo e h=>?_;haveI c:=Ob.j_.mpr h;rw[l] at c;refine bu c λg q=>bu q λi r=>j7 r λa n j k=>t9 o a ⟨e,g,n,j⟩ i k
theorem tail_sub{W:Wd}(k:W.K.In s.heap)(S:g5 s.heap x j e)(h:aD W.M A (ig (.ref x) i) Q E s) (hs:(fb a false (.ref x) i=k9 [.ref x,i] (ig (.ref x) i))\/fb a false (.ref x) i=k9 [i,.ref x] (ig (.ref x) i)):aD W.M A (vy b a (.ref x) i) Q E s:=by
 haveI g:=S.sp (M:=W.M) (name:="__getitem__") (r:=ae<|.builtin "list.__getitem__") k<|by kernel_rfl
 unfold vy;haveI d:aD W.M A (fb a false (.ref x) i) (λr=>aD W.M A (jR b (.ref x) r>>=λ_=>bB r) Q E) E s:=by rcases hs with hs|hs<;>rw[hs]<;>exact YE<|aC h (λr f c=>aa<|Qy<|ag c) λ_ _ x=>x
 skip;refine aa<|aa<|g.here ?_;exact ag<|aa d
theorem Ev.ahe{a:gw}(h:Ev C E Ω j<|.val<|.ref x)(m:(x,b)∈Ω)(L:b.bare=.seq (.ref 403) d ts)(k:Ev C E Ω a<|.int i)(F:0<=i)(H:i<2^63)(M:ts[i.toNat]?=ae t) (hs:autoParam (∀o i,fb a false o i=k9 [o,i] (ig o i)) mI):Ev C E Ω (.Subscript j a pos) t:=λA G s B I S=>by
 refine mQ<|Run.use (h A G s B I S) λv w l p e q=>?_;cases q
 refine Run.use (k A l w B p<|S.mono e) λu D n c f r=>?_;cases r
 refine gc (mL ((S.mono e).mono f) m L) λQ R z _ P=>aU (P.get M) λv N y=>tail_sub c.k z (GK c.k z F H (by rw[<-bN];exact N) ⟨n,c,e.trans f,y⟩)<|.inl<|hs _ _
theorem Ev.Xd{D st:Option gw}(h:Ev C r Ω n<|.val<|.ref x)(m:(x,b)∈Ω)(P:b.bare=.seq (.ref 403) d ts)(R:Part C r Ω D l)(hu:Part C r Ω Q u)(W:Part C r Ω st t)(N:t≠ae 0)(hsz:ts.length<=aA):Ev C r Ω (.Subscript n (.Slice D Q st p) pos)<|.list<|lK ts l u t:=λA G s E I S=>by
 refine mQ<|Run.use (h A G s E I S) λv F y o f q=>?_;cases q
 refine mY R hu W E o (S.mono f) λz j a i sl vl vu vt w p1 p2 p3=>gc (mL ((S.mono f).mono i) m P) λox vs B _ H=>?_;haveI e:=H.length;skip;refine tail_sub a.k B (BP a.k B w p1 p2 p3 N ?_<|AY hsz e)<|by cases st<;>first|exact .inl rfl|exact .inr rfl
 obtain⟨L,M,b,c⟩:=iQ (s':={j with heap:=j.heap.push {cls:=.type "list",data:=.seq<|PySem.slicePick vs l u t}}) a rfl rfl rfl rfl (Tr.seq (Gh.fD _ _ _) rfl (λ_=>rfl) rfl<|(H.slice l u t).mono<|Gh.dT<|a.cL<|al _);exact⟨L,M,(f.trans i).trans b,c⟩
theorem tc{s:bk}(l:g5 s.heap x j k)(f)(q:j.dict=d)(u:aG G (f k).toList ts):(∀c o,c≠x->s.heap.get? c=ae o->(s.heap.update x<|cn f).get? c=ae o)/\∃o,(s.heap.update x<|cn f).get? x=ae o/\(Ob.seq (.ref 403) d ts).holds G o:=by obtain⟨m,p,n,i⟩:=l;haveI h:iO x s.heap<|s.heap.update x<|cn f:=cW ..;refine⟨λc o t=>h.extBut c o t,?_⟩;refine cc (Obj.data_mapSeq i f) λr g=>⟨_,cK _ m<|Obj.isFreed_of_seq g,(Obj.cls_mapSeq ..).trans p,?_,f k,r,g,u⟩;rw[<-q];obtain⟨a,b,c,e⟩:=j;skip;subst i;rfl
theorem bZ.uu{N:Option gw}(he:Ev C n Ω e<|.list us)(ho:Ev C n Ω o<|.val<|.ref x)(hl:Part C n Ω N l)(hu:Part C n Ω hi u)(q:eL Ω x (.seq (.ref 403) d ts) (.seq (.ref 403) d rs) bT) (z:∀(G:Gh) (xs a:Array aW),aG G xs.toList ts->aG G a.toList us->aG G (kW xs.size a l u xs).toList rs)(hz:ts.length+us.length<=10000)(kk:bZ C n bT rest P) (hs:autoParam (fi e (ae<|.Subscript o (.Slice N hi ce p) E) pos.line C.env=bB false) iF):bZ C n Ω (.Assign [.Subscript o (.Slice N hi ce p) E] e pos::rest) P:=.step λA G s Q I S=>by
 refine ru ?_ hs;refine Run.use (he A G s Q I S) λv F r t m B=>?_;haveI i:=S.mono m;refine Run.use (ho A r F Q t i) λov a1 a0 w g D=>?_;cases D
 haveI j:=i.mono g;refine mY hl hu .none Q w j λb a2 c h sl vl vu vt M p1 p2 p3=>?_;cases p3
 refine gc (((B.mono g.sub).mono h.sub).isList c) λy a q0 hy R=>?_;subst q0;have f:=j.mono h;refine gc (mL f q.mem rfl) λox H L hd W=>?_;haveI e1:=W.length;haveI e2:=R.length;skip;(haveI k1:=(tc L (kW H.size a l u) hd<|z b H a W R).1;haveI k2:=(tc L (kW H.size a l u) hd<|z b H a W R).2);exact BQ c.k L M p1 p2 hy ⟨rfl,n,bT,b,c.dU f q.mem k1 rfl rfl,f.dU q rfl rfl k1 k2,Sub.trans (Sub.trans m.sub g.sub) h.sub,kk⟩<|Ņ hz e1 e2
end
end
section
open PySem PySem.W PySem.Calls PyProof.Rows PySem.SeqAt PySem.Builtin.ObjectAttr PySem.Builtin
theorem UX(W:Wd):mU W.K (.ref 403) "__getattribute__"=ae (ae<|.builtin "list.__getattribute__"):=by kernel_rfl
theorem UZ(W:Wd):mU W.K (.ref 403) "__getattr__"=ae none:=by kernel_rfl
theorem ahf:(CK "list.__getattribute__" !="object.__getattribute__")=false:=by decide+kernel
section
theorem BS{W:Wd}(m:W.K.In s.heap)(I:InstAt s.heap x j 403 d) (g:mU W.K (.ref 403) name=ae (ae v))(i:cU W.M s.heap (fA v) t)(f:t=.type "function"\/t=.type "method_descriptor")(hs:shadowIn d name=ae false)(h:Q (v,[.ref x]) s):aD W.M A (h8 (.ref x) name l) Q E s:=by skip;refine aa<|aa<|I.type.here<|(dQ m<|UX W).here ?_;dsimp only;rw[ahf,if_neg<|by decide];refine aa<|aa<|I.type.here<|(dQ m<|UZ W).here ?_;refine aa<|aa<|I.type.here<|(dQ m g).here<|aa<|i.here ?_;rw[if_neg<|by rcases f with rfl|rfl<;>decide+kernel];refine aa<|mf I.at_ ?_;haveI c:=I.dict;cases e:j.dict with|none=>exact aa<|iB<|ag h|some k=>cases d with|none=>rw[e] at c;exact c.elim|some o=>rw[e] at c;refine aU (aT.mp hs) λr a b=>aa<|aa<|mf c ?_;rw[nsLook_of a];refine ag ?_;rw[b];exact aa<|iB<|ag h
theorem ael{W:Wd}{s:bk}(c:W.K.In s.heap)(I:InstAt s.heap x b 403 a):cU M s.heap (fB (.ref x)<|.type "list") true:=I.type.andThen<|il c<|by kernel_rfl
theorem xP{W:Wd}(r:W.K.In s.heap)(I:InstAt s.heap x q 403 m)(k:findObj W.K 403 m name=ae (.value v))(l:QD v=aj)(h:Q v {s with toks:=s.toks+1}):aD W.M A (l_ (.ref x) name a) Q E s:=by haveI c:=I.type (M:=W.M);haveI e:=dQ (M:=W.M) r<|UX W;haveI f:=dQ (M:=W.M) r<|UZ W;haveI j:=looks_find (M:=W.M) r I k;obtain⟨o,g,d,t,p⟩:=s;have b:=ael (M:=W.M) r I;dsimp only at c e f j b;skip;refine aa<|yD<|aQ<|aa<|c.at<|aa<|e.at ?_;show aD _ _ (nx (.ref x) (.str name t) (.ref 403) (.builtin "list.__getattribute__") aj a) _ _ _;unfold nx hookBefore Yp ae5;refine aa ?_;skip;refine f.at<|aa<|iD<|aQ ?_;rw[show(a&&JB (nY "list.__getattribute__"))=false by cases a<;>rfl,if_neg<|by decide];skip;refine aa<|ag ?_;refine df<|cz PySem.F.slot_list_getattribute.plain AS<|i' (i:="list.__getattribute__") (n:="__getattribute__") (by decide+kernel) (by decide+kernel) b (sv _ _) ?_;skip;refine aa<|ag ?_;skip;refine aa<|ag ?_;refine aa<|c.at<|aa<|j.at ?_;refine ag ?_;show aD _ _ (handedOut v) _ _ _;rw[handedOut_of l];exact ag h
end
section
theorem bZ.Sn(ho:Ev C D Ω o<|.val<|.ref x)(q:eL Ω x (.seq (.ref 403) (ae L) ts) (.seq (.ref 403) (ae L)<|ts++[t]) bT)(m:(L,b)∈Ω)(hb:b.bare=.dict kvs)(hn:kvs.lookup (bo "append")=ah)(h:Ev C D Ω e t)(hz:ts.length<=10000)(kk:bZ C D bT rest P) (E:autoParam (∀env,aw [e] env=(false,eval e env)::aw [] env) eX) (hp:autoParam (∀env,(bb pos<|aw [e] env).any (·.1)=false) eX) (he:autoParam (∀env,eval (.Call (.Attribute o "append" p) [e] [] pos) env=(do
   let R<-eval o env
   fy p.atName
   let(f,w)<-gy [R] (h8 R "append"<|do return (<-jU o env).getD aj)
   bS pos f w (bb pos<|aw [e] env) (bK pos<|aX [] env))) eX) (h1:autoParam (jS C.env=false) iF):bZ C D Ω (.Expr (.Call (.Attribute o "append" p) [e] [] pos) M::rest) P:=.expr (λA G s Q I S=>by
 refine kX ?_<|he _;refine Run.use (ho A G s Q I S) λv u i a j z=>?_;cases z
 haveI c:=S.mono j;refine bu (fs.seq q.mem rfl C D i u (.ref x) a c<|.val _) λ_ q0=>AX q0 λox a1 a2 a3 a4=>yZ (kN c m hb) λod es n d1 d2 d3 d4 d5=>?_;haveI hl:=(km d4 d5 "append").2 hn;refine BS a.k (InstAt.ofTree a1 a2 a3 a4 d1) (by kernel_rfl) (nX fV) (.inr rfl) (by show(FA "append" od).map _=_;rw[hl];rfl)<|gG (.builtin _) a.k ?_<|hp _;refine Run.use ((oD.cons h .nil E) A i u pos Q a c) λvs W y d l B=>⟨d.k,?_⟩;cases B using aG.ca with|cons hv r=>
  cases r
  have g:=c.mono l;refine gc (mL g q.mem rfl) λox vs H hd tv=>?_;haveI e1:=tv.length;skip;obtain⟨N,k2⟩:=tc H (·.push _) hd (by rw[tB];exact tv.append<|.one hv);exact GJ d.k H (by unfold aA;exact ņ hz e1) ⟨D,bT,y,d.dU g q.mem N rfl rfl,g.dU q rfl rfl N k2,Sub.trans j.sub l.sub,kk⟩) h1 rfl
end
end
section
open PySem renaming setAttr->Q9
open PySem PySem.W PySem.Calls PyProof.Rows PySem.SeqAt PySem.Builtin.ObjectAttr
noncomputable def BU(K:np)(name:bC):Bool:=mU K (.ref 403) "__setattr__"==ae (ae<|.builtin "object.__setattr__")&&takerIn K 403 name==ae ah&&tY K 403
noncomputable abbrev Iy:ClassData:=⟨"_Accumulator",[.type "list"],[.ref 403,.type "list",.type "object"],402,"_Accumulator",aj,[],[],false,ah,false⟩
theorem aem(W:Wd):tY W.K 403=true:=by kernel_rfl
theorem uv(W:Wd):clsIn W.K 403=ae Iy:=by kernel_rfl
section
theorem Kx{W:Wd}{s:bk}(y:W.K.In s.heap)(I:InstAt s.heap x w 403 u)(q:takerIn W.K 403 name=ae r) (h:∀b,aD W.M A.in1 (match r with|some a=>setByDescriptor a (.ref x) v|none=>storeInOwnDict (.ref x) (.ref 403) (.str name j) name v b) (λg s'=>match g with|.done f=>R (.ok f) s'|.again k=>k.quiet=aj/\gU W.M A k R s') (λe s'=>R (.error e) s') s):gU W.M A (.call (.builtin "object.__setattr__") ⟨[.ref x,.str name j,v],[]⟩) R s:=by
 haveI d:=PySem.F.store_object;haveI i:cU W.M s.heap (fB (.ref x)<|.type "object") true:=I.type.andThen<|il y<|by kernel_rfl
 refine cz d.slot.plain d.entry<|@check_slot W.M _ _ s "object.__setattr__" "object" "__setattr__" (.ref x) [.str name j,v] [] _ d.kind d.split i (d.args (.ref x) (.str name j) v) ?_;refine aU (Option.bind_eq_some_iff.mp q) λc n l=>?_;haveI p:cU W.M s.heap (VL<|.ref 403) [.ref 403,.type "list",.type "object"]:=(ni y<|uv W).andThen .now;haveI m:cU W.M s.heap (storeTaker? c) r:=by cases c with|none=>cases l;exact .now|some a=>
   refine aU (aT.mp l) λb o t=>?_;subst t;refine(looks_takesIn y o).andThen ?_;cases b<;>exact .now
 rw[osa_eq,refuse_eq];refine aa<|aa<|I.type.here<|aa<|p.here ?_;skip;refine ag<|aa<|I.type.here<|aa<|(dQ y n).here<|aa<|m.here ?_;exact h _
end
section
theorem Ee{W:Wd}(I:W.K.In s.heap)(g:s.heap.get? x=ae r)(i:r.cls=.ref 403)(t:rt r=aj)(j:r.dict=ae d)(k:s.heap.get? d=ae q) (w:q.data=.dict e n)(u:q.cls=.type "dict")(l:q.dict=ah)(y:e.toList.any (·.refKey)=false)(hz:e.size<=900)(m:BU W.K name=aj) (h:∀f H p G,(∀c o,c≠d->s.heap.get? c=ae o->f.get? c=ae o)->(∃a,f.get? d=ae a/\a.cls=.type "dict"/\a.dict=ah/\∃D,a.data=.dict (TR name p (.str name G) v e.toList).toArray D)->Q () {s with heap:=f,toks:=H}):aD W.M A (Q9 (.ref x) name v) Q E s:=by unfold BU at m;simp only [bg,beq_iff_eq] at m;refine bu m λF C=>bu F λz B=>set_plain I (InstAt.ofTree g i t j k) z<|Kx I (InstAt.ofTree g i t j k) B λb=>z7 I g i j k w u l y hz C h
theorem Oj(I:Inv C.W G s)(S:St C f Ω G s)(H:fs Ω t x 403 m)(P:Tr G v t)(p:eL Ω m (.dict kvs) (.dict<|ee name u kvs) bT)(N:Tr G w u)(hz:kvs.length<=900) (L:BU C.W.K name=aj)(h:∀s',Inv C.W G s'->St C f bT G s'->Q () s'):aD C.W.M A (Q9 v name w) Q E s:=by refine bu (H C f G s v I S P) λq0 q1=>?_;subst q0;refine AX q1 λox z B D F=>yZ (kN S p.mem rfl) λod es n g i j l a=>?_;haveI e:=a.length;skip;refine Ee I.k z B D F g l i j a.noRef (Uc hz e) L λh' tk b t0 d zq=>cc zq λc q2=>bu q2 λo q3=>bu q3 λq q4=>bu q4 λr q5=>cc q5 λR y=>h _ (I.dU S p.mem d rfl rfl)<|S.dU p rfl rfl d ⟨c,o,q,r,_,R,y,?_⟩;exact a.put name b t0 N
theorem bZ.Ef(h:Ev C n Ω c u)(F:Ev C n Ω o t)(D:fs Ω t x 403 B)(p:eL Ω B (.dict kvs) (.dict<|ee name u kvs) bT)(k:bZ C n bT rest P) (hz:autoParam (kvs.length<=900) adc)(E:autoParam (BU C.W.K name=aj) jX)(hs:autoParam (fi c (ae<|.Attribute o name l) pos.line C.env=bB false) iF):bZ C n Ω (.Assign [.Attribute o name l] c pos::rest) P:=.step λA G s q I S=>by refine iG ?_ hs;refine Run.use (h A G s q I S) λw m d f a i=>?_;refine Run.use (F A d m q f<|S.mono a) λv r e g b j=>?_;exact Oj g ((S.mono a).mono b) D j p (i.mono b.sub) hz E λH y z=>⟨rfl,n,bT,e,y,z,Sub.trans a.sub b.sub,k⟩
noncomputable def mM(K:np)(f:cj)(name:bC):Bool:=(mU K (.ref 403) name==ae (ae<|.ref f))&&isFn K (.ref f)&&wb K (.ref f)
theorem qc(I:Inv C.W G s)(S:St C L Ω G s)(q:fs Ω t x 403 g)(w:Tr G v t)(m:(g,b)∈Ω)(p:b.bare=.dict kvs) (u:kvs.lookup name=ce)(a:mM C.W.K f name=aj)(h:Q (.ref f,[.ref x]) s):aD C.W.M A (h8 v name pl) Q E s:=by refine bu (q C L G s v I S w) λD F=>?_;subst D;refine AX F λox i j l o=>yZ (kN S m p) λB R n c N P d e=>?_;haveI r:=(km d e name).2 u;unfold mM at a;simp only [bg,beq_iff_eq] at a;refine bu a λH k4=>bu H λy z=>BS I.k (InstAt.ofTree i j l o c) y (LQ I.k<|beq_iff_eq.mp z) (.inl rfl) (by show(FA name B).map _=_;rw[r];rfl) h
theorem Ev.Eg{name:bC}(ho:Ev C N Ω o t)(P:fs Ω t x 403 R)(m:(R,b)∈Ω)(hb:b.bare=.dict kvs)(hn:kvs.lookup name=ce) (h:oD C N Ω d ts)(hm:∀p∈Δ,∃b,(p.1,b)∈Ω/\b.bare=p.2.bare)(L:(Δ.map (·.1)).Nodup)(k:gW C.W (.ref f) (t::ts) n Δ r)(H:n<=C.n)(F:autoParam (mM C.W.K f name=aj) jX) (hp:autoParam (∀env,(bb pos<|aw d env).any (·.1)=false) eX) (he:autoParam (∀env,bG (.Call (.Attribute o name u) d [] pos) env=(do
   let Q<-bG o env
   fy u.atName
   let(f,y)<-gy [Q] (h8 Q name<|do return (<-jU o env).getD aj)
   bS pos f y (bb pos<|aw d env) (bK pos<|aX [] env))) eX):Ev C N Ω (.Call (.Attribute o name u) d [] pos) r:=λA G s M I S=>by
 refine kX ?_<|he _;refine Run.use (ho A G s M I S) λv w j a q i=>?_;have c:=S.mono q;refine bu (P C N j w v a c i) λq0 _=>?_;subst q0;refine qc a c P i m hb hn F ?_;haveI z:wb C.W.K (.ref f)=true:=by unfold mM at F;simp only [bg] at F;exact F.2
 refine gG (.k z) a.k ?_<|hp _;refine Run.use (h A j w pos M a c) λvs E B l e D=>⟨l.k,?_⟩;exact Run.ext (q.trans e)<|k A B E _ (M.le H) l (.cons (i.mono e.sub) D)<|(c.mono e).Bg hm L
theorem jb.Eg(ho:Ev C Γ Ω o t)(hi:fs Ω t x 403 dx)(m:(dx,b)∈Ω)(hb:b.bare=.dict kvs)(hn:kvs.lookup name=ce) (h:oD C Γ Ω d ts)(y:Ω.Perm<|Δ++bT)(R:∀p∈Δ,p.2.gT=false)(k:cu C.W (.ref f) (t::ts) n Δ Pc)(Q:n<=C.n)(P:autoParam (mM C.W.K f name=aj) jX) (hp:autoParam (∀env,(bb pos<|aw d env).any (·.1)=false) eX) (he:autoParam (∀env,bG (.Call (.Attribute o name q) d [] pos) env=(do
   let ov<-bG o env
   fy q.atName
   let(f,u)<-gy [ov] (h8 ov name<|do return (<-jU o env).getD aj)
   bS pos f u (bb pos<|aw d env) (bK pos<|aX [] env))) eX):jb C Γ Ω (.Call (.Attribute o name q) d [] pos) λt D=>∃N,Pc t N/\D=N++bT:=λA G s ok I S=>by
 refine kX ?_<|he _;refine Run.use (ho A G s ok I S) λv r i a l g=>?_;have c:=S.mono l;refine bu (hi C Γ i r v a c g) λq0 _=>?_;subst q0;refine qc a c hi g m hb hn P ?_;haveI w:wb C.W.K (.ref f)=true:=by unfold mM at P;simp only [bg] at P;exact P.2
 refine gG (.k w) a.k ?_<|hp _;refine Run.use (h A i r pos ok a c) λvs a1 a0 j e M=>⟨j.k,?_⟩;exact aC (qF Q y R k ok j (c.mono e)<|.cons (g.mono e.sub) M) (λv a2 zz=>zz.casesOn λF t E p H L B ht=>⟨F,t,E,p,H,L,(Sub.trans l.sub e.sub).trans B,ht⟩) λ_ _ z=>z
noncomputable def Iz(K:np)(name:bC):Bool:=match mU K (.ref 403) name with|some a=>noGet K a|none=>false
theorem Ev.attrL{name:bC}(ho:Ev C q Ω o t)(Q:fs Ω t x 403 D)(m:(D,b)∈Ω)(N:b.bare=.dict kvs)(R:kvs.lookup name=ae u) (hu:jn u)(j:autoParam (Iz C.W.K name=aj) jX) (P:autoParam (∀env,bG (.Attribute o name pos) env=(do
   let r<-bG o env
   fy pos.atName
   let p<-gy [r] (l_ r name aj)
   jR o r p
   bB p)) eX):Ev C q Ω (.Attribute o name pos) u:=λA G s ok I S=>by
 refine me ?_<|P _;refine Run.use (ho A G s ok I S) λv i c a e h=>?_;have d:=S.mono e;refine bu (Q C q c i v a d h) λq0 q1=>?_;subst q0;refine AX q1 λox E F H L=>yZ (kN d m N) λod es n y d2 d3 z B=>aU ((km z B name).1 u R) λw hw f=>?_;unfold Iz at j;cases M:mU C.W.K (.ref 403) name with|none=>rw[M] at j;exact fT j|some l=>
  rw[M] at j;refine xP a.k (InstAt.ofTree E F H L y) (QF (aem C.W) M j hw) (hu _ _ f)<|⟨c,a.bL rfl rfl rfl,e.trans<|.bL rfl,f⟩
end
end
section
open PySem PySem.W PySem.Calls PyProof.Rows PySem.SeqAt
noncomputable abbrev Pr:Type:=bC×bC
noncomputable def wv(p:Pr):T:=.tuple [.str p.1,.str p.2]
noncomputable def xQ:List<|bC×T:=[("_initial_size",.int 0)]
noncomputable abbrev g9(x d:cj)(ps:List Pr):bM:=[(x,.seq (.ref 403) (ae d) (ps.map wv)),(d,.dict xQ)]
theorem nQ:∀p∈g9 x d ps,p.2.gT=false:=λp m=>by
 refine eQ m ?_ λm=>?_;.rfl
 .rw[ao] at m;subst m;rfl
theorem Ol(h:x≠d):((g9 x d ps).map (·.1)).Nodup:=by simp[h]
noncomputable abbrev aen:FuncData:=jG (g8 PP 10 1) "_Accumulator.push" [] .none .none .none (.str "cpy313.email.header" 583) ah (.ref 346) .none
theorem So(W):gH W 347 aen (dA<|g8 PP 10 1) ["self","fws","string"]:=.plain
theorem qN(hz:ps.length<=1000):cu W (.ref 347) [.val<|.ref x,.str a,.str b] 1 (g9 x d ps) λt e=>t=.none/\e=g9 x d (ps++[(a,b)]):=by
 refine cu.of (So W) ["self","fws","string"] [] [("self",ae (.val<|.ref x)),("fws",ae (.str a)),("string",ae (.str b))] (λf i=>?_) rfl (λL I _=>?_) λt k h=>by refine bu h λ_ j=>?_;try clear h;subst j;exact nQ
 .refine FX i λa b c=>?_;kernel_rfl
 refine .Sn .n0 .here (.tail _<|.head _) rfl rfl (.tuple (.cons .n1<|.cons (.g 2) .nil)<|dN tt) (by rw[af];exact(ab hz<|ap rfl))<|.nil<|.inr ⟨rfl,rfl,?_⟩;unfold g9;rw[aJ];rfl
noncomputable abbrev Vl:FuncData:=jG (g8 PP 10 2) "_Accumulator.pop_from" [] (.ref 348) .none .none (.str "cpy313.email.header" 583) ah (.ref 354) .none
theorem Sp(W):gH W 355 Vl (dA<|g8 PP 10 2) ["self","i","popped"]:=.plain
theorem Ky(W:Wd)(s)(c:W.K.In s.heap)(a b):kf s Vl ⟨[a,b],[]⟩<|(["self","i"]:List bC).zip [a,b]:=.of_defaults (o:=⟨.type "tuple",ah,.seq #[.int 0 728] 0,#[]⟩) rfl (c _ _<|by kernel_rfl) rfl (by rfl)<|by kernel_rfl
theorem Kz{ps:List Pr}(j:i<=ps.length)(hz:ps.length<=1000):cu W (.ref 355) [.val<|.ref x,.int i] 1 (g9 x d ps) λt c=>t=.list ((ps.drop i).map wv)/\c=g9 x d (ps.take i):=by
 refine cu.ofD (Sp W) ["self","i"] ["popped"] [] [] (λ_=>.nil) [("self",ae (.val<|.ref x)),("i",ae (.int i)),("popped",ah)] (λs k m b=>?_) rfl (λL I _=>?_) λt p h=>by refine bu h λ_ o=>?_;try clear h;subst o;exact nQ
 .refine sD b λa=>Ky W s m a
 haveI b:(ps.map wv).length=ps.length:=af _;refine .assign (t:=.list<|(ps.drop i).map wv) (.cast (.Xd .n0 (.head _) rfl (.int .n1) .none .none (dD tt)<|by rw[b];unfold aA;exact uT hz)<|by rw[xg _ _,AT]) ai (.g 2) ?_;refine .uu (.list .nil<|au _) .n0 (.int .n1) .none .here (λG q n f l=>?_) (by rw[b];simp;exact(ab hz<|ap rfl))<|.ret (.g 2)<|.inl ⟨_,rfl,rfl,rfl⟩;haveI e:=f.length;rw[b,aP] at e;rw[zi _ _ _<|Ň j e,AU];haveI:=(f.take i).append l;rwa[bD] at this
noncomputable abbrev GL:FuncData:=jG (g8 PP 10 6) "_Accumulator.reset" [] (.ref 378) .none .none (.str "cpy313.email.header" 583) ah (.ref 384) .none
theorem Eh(W):gH W 385 GL (dA<|g8 PP 10 6) ["self","startval"]:=.plain
theorem Ei(W:Wd)(s)(b:W.K.In s.heap)(a):kf s GL ⟨[a],[]⟩<|(["self","startval"]:List bC).zip [a,.none]:=.of_defaults (o:=⟨.type "tuple",ah,.seq #[.none] 0,#[]⟩) rfl (b _ _<|by kernel_rfl) rfl (by rfl)<|by kernel_rfl
theorem Ej(W:Wd)(s)(c:W.K.In s.heap)(a b):kf s GL ⟨[a,b],[]⟩<|(["self","startval"]:List bC).zip [a,b]:=.of_defaults (o:=⟨.type "tuple",ah,.seq #[.none] 0,#[]⟩) rfl (c _ _<|by kernel_rfl) rfl (by rfl)<|by kernel_rfl
theorem Ag(G xs a)(c:aG G xs.toList ts)(b:aG G a.toList us):aG G (kW xs.size a ah ah xs).toList us:=by rw[BR];exact b
theorem vi(hz:ps.length<=1000):cu W (.ref 385) [.val<|.ref x] 1 (g9 x d ps) λt e=>t=.none/\e=g9 x d []:=by
 refine cu.ofD (Eh W) ["self","startval"] [] [.none] [.none] (λ_=>.cons .none .nil) [("self",ae (.val<|.ref x)),("startval",ae .none)] (λs f i b=>?_) rfl (λL I _=>?_) λt l h=>by refine bu h λ_ j=>?_;try clear h;subst j;exact nQ
 .refine vJ b λa=>Ei W s i a
 haveI b:(ps.map wv).length=ps.length:=af _;refine .ite (.cmp .n1 .none .Dy) (λ_=>.assign (.list .nil<|au _) ai .p1<|.nil ?_) λh=>by cases h
 refine .uu .n1 .n0 .none .none .here (λG k c g=>Ag G k c g) (by rw[b];simp;exact(ab hz<|ap rfl))<|.Ef .int .n0 (.seq (.head _) rfl) (.there .here) ?_<|dN tt;skip;exact .nil<|.inr ⟨rfl,rfl,rfl⟩
theorem Ek(hz:ps.length+qs.length<=1000):cu W (.ref 385) [.val<|.ref x,.list<|qs.map wv] 1 (g9 x d ps) λt f=>t=.none/\f=g9 x d qs:=by
 refine cu.ofD (Eh W) ["self","startval"] [] [] [] (λ_=>.nil) [("self",ae (.val<|.ref x)),("startval",ae (.list<|qs.map wv))] (λs g j b=>?_) rfl (λL I _=>?_) λt m h=>by refine bu h λ_ k=>?_;try clear h;subst k;exact nQ
 .refine sD b λa=>Ej W s j a
 haveI b:(ps.map wv).length=ps.length:=af _;haveI c:(qs.map wv).length=qs.length:=af _;refine .ite (.cmp .n1 .none .Gp) (λh=>by cases h) λ_=>.nil ?_;refine .uu .n1 .n0 .none .none .here (λG l e i=>Ag G l e i) (by rw[b,c];exact(ab hz<|ap rfl))<|.Ef .int .n0 (.seq (.head _) rfl) (.there .here) ?_<|dN tt;skip;exact .nil<|.inr ⟨rfl,rfl,rfl⟩
end
section
open PySem PySem.W PySem.Calls PyProof.Rows PySem.SeqAt PySem.Builtin.ObjectAttr
noncomputable abbrev qd(cls id:String)(a:cj):Obj:={cls:=.type cls,data:=.fields #[.builtin id,.ref a]}
theorem qf:yC "wrapper_descriptor" "__get__" "wrapper_descriptor.__get__":=.of (owner:="wrapper_descriptor") (n:="__get__") (by rw[cp,bt];kernel_rfl) (by decide+kernel) (by decide+kernel) (by decide+kernel) (by first|exact .inl<|by decide+kernel|exact .inr<|by decide+kernel)<|by rw[dg];kernel_rfl
theorem BV:gN mF "wrapper_descriptor.__get__"=ae dF.«wrapper_descriptor.__get__»:=kg<|by kernel_rfl
theorem El(a b c):jV "wrapper_descriptor.__get__" ⟨[a,b,c],[]⟩:=by unfold jV;kernel_rfl
section
theorem GM{W:Wd}{id:String}(a:cU W.M s.heap (fB (.ref x)<|.type<|".".intercalate (id.cutAt '.').dropLast) aj)(b:Manifest.toldItsClass.contains id=false)(h:P (.done<|.ret<|.ref s.heap.objs.size) {s with heap:=s.heap.push<|qd "builtin_function_or_method" id x}):aD W.M A (dF.«method_descriptor.__get__» ⟨[.builtin id,.ref x,.ref 403],[]⟩) P E s:=by
 obtain⟨c,g,d,f,e⟩:=s;skip;skip;repeat (first|(with_reducible refine Looks.at a ?_)|wp_step|(with_reducible refine bI ?_ ?_;first|rfl|(simp;done))|(with_reducible refine dw ?_ ?_;first|rfl|(simp;done))|simp only [b,ev,if_false,AV])
 exact h
theorem GN{W:Wd}{id:String}(a:cU W.M s.heap (fB (.ref x)<|.type<|".".intercalate (id.cutAt '.').dropLast) aj)(h:P (.done<|.ret<|.ref s.heap.objs.size) {s with heap:=s.heap.push<|qd "method-wrapper" id x}):aD W.M A (dF.«wrapper_descriptor.__get__» ⟨[.builtin id,.ref x,.ref 403],[]⟩) P E s:=by
 obtain⟨b,g,d,e,c⟩:=s;skip;skip;repeat (first|(with_reducible refine Looks.at a ?_)|wp_step|(with_reducible refine bI ?_ ?_;first|rfl|(simp;done))|(with_reducible refine dw ?_ ?_;first|rfl|(simp;done))|simp only [ev,if_false,AV])
 exact h
noncomputable def xR(W:Wd)(id a c:String):Prop:=∀{A:mP} {E:aW->bk->Prop} {s:bk} {x:cj} {d:uJ} {b:Array aW} {Q:aW->bk->Prop},W.K.In s.heap->g5 s.heap x d b->Q (.ref s.heap.objs.size) {s with heap:=s.heap.push<|qd c id x}->aD W.M A (call (.builtin a) [.builtin id,.ref x,.ref 403]) Q E s
theorem On{id:String}(f:fA (.builtin id)=bB (.type "method_descriptor"))(d:(".".intercalate (id.cutAt '.').dropLast)="list")(e:Manifest.toldItsClass.contains id=false):xR W id "method_descriptor.__get__" "builtin_function_or_method":=λ{A E s x g c Q} i S h=>by haveI a:=S.UU (M:=W.M) i;rw[<-d] at a;haveI b:=f;refine ec lU b (kg<|by kernel_rfl) (GM a e ⟨_,rfl,h⟩)<|vd _ _ _
theorem Em{id:String}(e:fA (.builtin id)=bB (.type "wrapper_descriptor"))(d:(".".intercalate (id.cutAt '.').dropLast)="list"):xR W id "wrapper_descriptor.__get__" "method-wrapper":=λ{A E s x f c Q} g S h=>by haveI a:=S.UU (M:=W.M) g;rw[<-d] at a;haveI b:=e;refine ec qf b BV (GN a ⟨_,rfl,h⟩)<|El _ _ _
theorem w0{K:np}(e:clsIn K a=ae d):∃o,K.lookup a=ae o/\o.data=Data.cls d:=by unfold clsIn at e;cases h:K.lookup a with|none=>rw[h] at e;exact nS e|some o=>rw[h] at e;obtain⟨b,c,f,g⟩:=o;cases f with|cls x=>exact⟨_,rfl,congrArg Data.cls<|bq e⟩|_=>exact nS e
theorem Oo{id:String}(X:W.K.In s.heap)(S:g5 s.heap x R p)(b:s.heap.get? L=ae (QO 403 x 403)) (own:yL (.type "list") name=bB (ae<|.builtin id))(N:fA (.builtin id)=bB w)(q:ds w "__get__"=bB (ae<|.builtin a))(C:xR W id a i)(G:(name==("__class__":bC))=false) (I:Q (.done<|.ret<|.ref s.heap.objs.size) {s with heap:=s.heap.push<|qd i id x}):aD W.M A (dF.«super.__getattribute__» ⟨[.ref L,.str name tk],[]⟩) Q E s:=by
 haveI o:x≠403:=by rintro rfl;refine aU (w0<|uv W) λo H D=>?_;haveI e:=X _ _ H;rw[S.at_] at e;rw[<-bq e] at D;refine cc S.dat λn m=>?_;rw[m] at D;cases D
 have m:(ef x==ef 403)=false:=by simp[o]
 haveI f:(QO 403 x 403).data=.fields #[.ref 403,.ref x,.ref 403]:=rfl;haveI y:(#[.ref 403,.ref x,.ref 403]:Array aW)[0]?=ae (.ref 403):=rfl;haveI z:(#[.ref 403,.ref x,.ref 403]:Array aW)[1]?=ae (.ref x):=rfl;haveI B:(#[.ref 403,.ref x,.ref 403]:Array aW)[2]?=ae (.ref 403):=rfl;haveI u:cU W.M s.heap (VL<|.ref 403) [.ref 403,.type "list",.type "object"]:=(ni X<|uv W).andThen .now;haveI k:cU W.M s.heap (qy<|.ref 403) none:=looks_opaque X<|by kernel_rfl
 haveI j:∀{E:aW->bk->Prop} {r:aW->bk->Prop},r (.ref s.heap.objs.size) {s with heap:=s.heap.push<|qd i id x}->aD W.M A (call (.builtin a) [.builtin id,.ref x,.ref 403]) r E s:=λh=>C X S h;obtain⟨h,g,d,t,P⟩:=s;have F:(([.ref 403,.type "list",.type "object"]:List aW).dropWhile (· !=.ref 403)).drop 1=[.type "list",.type "object"]:=dD tt;dsimp only at b u k j;skip;repeat (first
  |(with_reducible refine cR b f y ?_)|(with_reducible refine cR b f z ?_)|(with_reducible refine cR b f B ?_)|(with_reducible refine ks_wpAny_notOpaque k ?_)|(with_reducible refine Looks.at u ?_;rw[F,eC,own])|(with_reducible refine bP N ?_)|(with_reducible refine bP q ?_)|(with_reducible refine j ?_)|(simp only [G,m,hH,ev,if_false])|wp_step|dsimp only)
 all_goals exact I
end
end
section
open PySem renaming callEnv->g6,wpAt->zG,ks_wpAt_Return_some->Q_
open PySem.F renaming ks_slot_super_ga->ny
open PySem PySem.W PySem.Calls PyProof.Rows PySem.SeqAt PySem.Builtin.ObjectAttr Builtin Builtin.List
section
theorem vV{id:String}(H:W.K.In s.heap)(S:g5 s.heap x D j)(f:s.heap.get? m=ae (QO 403 x 403)) (own:yL (.type "list") name=bB (ae<|.builtin id))(C:fA (.builtin id)=bB p)(k:ds p "__get__"=bB (ae<|.builtin a))(q:xR W id a b)(r:(name==("__class__":bC))=false) (u:Q (.ref s.heap.objs.size,[]) {s with heap:=s.heap.push<|qd b id x,toks:=s.toks+1}):aD W.M A (h8 (.ref m) name G) Q E s:=by
 haveI e:=ny.lookup;haveI c:=PySem.F.ks_canon_super_ga;obtain⟨h,g,d,t,l⟩:=s;haveI i:∀B,(⟨h,g,d,B,l⟩:bk).TypeIs (.ref m) "super":=λ_=>⟨_,f,rfl⟩;skip;refine aa<|cP (i _) e ?_;show aD _ _ (if(CK "super.__getattribute__" !="object.__getattribute__")=aj then _ else _) _ _ _;rw[if_pos c];skip;refine aa<|aa<|yD<|aQ<|aa<|l9 (i _)<|aa<|bP e ?_;show aD _ _ (nx (.ref m) (.str name t) (.type "super") (.builtin "super.__getattribute__") aj false) _ _ _;skip;refine aa<|bP (show(if JB (.type "super") then ds (.type "super") "__getattr__" else bB ah)=bB ah from rfl) ?_;refine aa<|iD<|aQ ?_;skip;refine aa<|bP (ny.bind _) ?_;refine aC (Q:=λv o=>v=.ref h.objs.size/\o=⟨h.push<|qd b id x,g,d,t+1,l⟩) (E:=λ_ _=>False) (ec ny (i _) PySem.F.ks_entry_super_ga (Oo (s:=⟨h,g,d,t+1,l⟩) H ⟨S.at_,S.cls,S.dat⟩ f own C k q r ⟨_,rfl,rfl,rfl⟩)<|PySem.F.ks_gaArgs_super _ _) (λv o n=>?_) λ_ _ z=>z.elim;refine bu n λw y=>?_;try clear n;subst w;subst y
 exact ag<|ag u
theorem xS{W:Wd}{id:String}(b:a="builtin_function_or_method"\/a="method-wrapper")(n:s.heap.get? q=ae (qd a id x))(j:yH id=aj)(l:gN mF id=ae B) (h:aD W.M A.in1 (fu id ⟨.ref x::i,[]⟩) (λ_ c=>aD W.M A.in1 (B ⟨.ref x::i,[]⟩) (λd s'=>∃v,d=.done (.ret v)/\Q v s') E c) E s):aD W.M A (call (.ref q) i) Q E s:=by
 refine df<|i8 (R:=yI Q E) (h6 ?_) λr s' k=>by cases r with|error e=>exact k|ok f=>cases f<;>exact k
 show aD _ A.in1 (callAny (.ref q) ⟨i,[]⟩) _ _ s;skip;refine aa<|i_ n ?_;dsimp only;rw[if_pos<|by rcases b with rfl|rfl<;>decide];haveI m:(eO a !=eO "method")=true:=by rcases b with rfl|rfl<;>decide
 show aD _ _ (if(eO a !=eO "method")=aj then(do fu id ⟨.ref x::i,[]⟩;oz (.builtin id ⟨.ref x::i,[]⟩)) else _) _ _ _;rw[if_pos m];refine aa<|aC h (λ_ c g=>ag ⟨iE j _,h9 l ?_⟩) λ_ _ z=>z;rw[pG j];exact aC g (λd s' o=>aU o λv e z=>by subst e;exact z) λ_ _ z=>z
theorem GO{W:Wd}{id:String}(b:a="builtin_function_or_method"\/a="method-wrapper")(f:s.heap.get? q=ae (qd a id x))(h:aD W.M A (call (.ref q) []) Q E s):aD W.M A (bS pos (.ref q) [] [] []) Q E s:=by
 skip;refine aa<|aQ ?_;skip;refine ag<|aa<|cF ?_;skip;refine aa ?_;skip;refine aa<|i_ f ?_;have e:(eO a !=eO "method")=true:=by rcases b with rfl|rfl<;>decide
 have c:(eO a==eO "builtin_function_or_method"||Value.type a==eO "method-wrapper")=true:=by rcases b with rfl|rfl<;>decide
 show aD _ _ (if(eO a !=eO "method")=aj then bB (if(eO a==eO "builtin_function_or_method"||Value.type a==eO "method-wrapper")=aj then Keeper.machine else .caller) else _) _ _ _;rw[if_pos e,if_pos c];refine ag<|aa<|aC h (λr d g=>aa<|aQ<|AO<|ag g) λ_ _ x=>x
end
theorem KA:(PP.main.file==("/claim/cut.py"))=true:=by kernel_rfl
theorem Op(W:Wd):W.K.lookup 327=ae ⟨.type "cell",ah,.cell<|ae<|.ref 403,#[]⟩:=by kernel_rfl
theorem KB:(PP.main.scope.names.lookup ("super":bC)).isSome=false:=by kernel_rfl
structure vj(W:Wd)(f:cj)(fd:cv):Prop where
 look:W.K.lookup f=ae ⟨.type "function",ah,.func fd,#[]⟩
 glob:fd.globals=a_
 blt:fd.builtins=iy
 clos:fd.closure=([("__class__",327)]:List<|bC×cj)
 kind:fd.scope.kind=.function
 ks:fd.scope.names.lookup ("super":bC)=ae .globalImplicit
 kc:fd.scope.names.lookup ("__class__":bC)=ae .free
 ka:fd.scope.names.lookup ("self":bC)=ae .local
 hp:∃ar,(fd.params.posonlyargs++fd.params.args).head?=ae ar/\ar.arg=("self")
 code:∃c oc od vs sl t,fd.code=.ref c/\W.K.lookup c=ae ⟨oc,od,.fields vs,sl⟩/\vs[2]?=ae (.str "/claim/cut.py" t)
section
theorem BW{id:String}(F:vj W f i)(X:W.K.In s.heap)(l:∀a o,W.h.get? a=ae o->s.heap.get? a=ae o)(S:g5 s.heap x ox a7) (a6:s.heap.Ns L m)(hm:m ("self":bC)=ae (.ref x)) (own:yL (.type "list") name=bB (ae<|.builtin id))(ty:fA (.builtin id)=bB dt)(a8:ds dt "__get__"=bB (ae<|.builtin v))(hb:xR W id v j)(D:j="builtin_function_or_method"\/j="method-wrapper")(hn:(name==("__class__":bC))=false) (hB:∀w q P,(∀a o,s.heap.get? a=ae o->w.get? a=ae o)->w.get? q=ae (qd j id x)->aD W.M A (call (.ref q) []) Q E {s with heap:=w,toks:=P}) (he:autoParam (eval (.Call (.Attribute (.Call (.Name "super" I) [] [] N) name p) [] [] pos) (g6 i L f)=(do
   let ov<-dG (.Call (.Name "super" I) [] [] N) name (g6 i L f) (eval (.Call (.Name "super" I) [] [] N)<|g6 i L f)
   fy p.atName
   let(g,u)<-gy [ov] (h8 ov name<|do return (<-jU (.Call (.Name "super" I) [] [] N) (g6 i L f)).getD aj)
   bS pos g u (bb pos<|aw []<|g6 i L f) [])) iF):zG W.M A (.func a9<|g6 i L f) (eval (.Call (.Attribute (.Call (.Name "super" I) [] [] N) name p) [] [] pos)<|g6 i L f) Q E s:=by
 refine ks_wpAt_MethodCall ?_ he;refine aU F.hp λar hp R=>VZ F.code λc oc od vs sl t a3 a4 a5=>cc W.base.g λmg hg=>aU W.base.b λmb a1 a2=>?_;have G:=hg.keeps l;have a0:=a1.keeps l;haveI ek:∀y,(g6 i L f).kindOf y=i.scope.names.lookup y:=λ_=>rfl;refine ks_wpAt_super_base F.ks F.kc hn rfl (X _ _ F.look) rfl hp a3 (X _ _ a4) rfl a5 KA KB<|ln F.kind F.ks<|wa (by rw[show(g6 i L f).globals=a_ from F.glob];exact G) (TN X G<|by kernel_rfl) (by rw[show(g6 i L f).builtins=iy from F.blt];exact a0) (by rw[a2 "super"<|by decide+kernel];kernel_rfl) ⟨rfl,?_⟩;refine QZ F.kind F.kc (by show i.closure.lookup _=_;rw[F.clos];rfl) ⟨_,X _ _<|Op W,rfl⟩ ?_;rw[R];refine fG F.kind F.ka a6 hm ?_;have r:∃o3,s.heap.get? 403=ae o3/\o3.data=.cls Iy:=by exact aU (w0<|uv W) λo h e=>⟨o,X _ _ h,e⟩
 refine aU r λo3 B C=>?_;try clear r
 refine ks_wpAny_isType_cls B C ⟨rfl,?_⟩;refine cc S.dat λn hd=>?_;obtain⟨hh,g,d,P,os⟩:=s;refine ks_wpAny_call_super B C S.at_ S.cls (λc e=>by rw[hd] at e;cases e) (il X<|by kernel_rfl) λw e k=>?_;haveI X':=X.keeps k;refine vV (s:=⟨w,g,d,P,os⟩) X' ⟨k _ _ S.at_,S.cls,S.dat⟩ e own ty a8 hb hn<|GO (s:=⟨w.push<|qd j id x,g,d,P+1,os⟩) D (aS _ rfl)<|hB _ _ _ (λa o z=>aN _<|k a o z)<|aS _ rfl
end
noncomputable abbrev Ū:FuncData:=jG (g8 PP 10 8) "_Accumulator.part_count" [("__class__",327)] .none .none .none (.str "cpy313.email.header" 583) ah (.ref 399)<|.ref 393
noncomputable abbrev ahg:FuncData:=jG (g8 PP 10 3) "_Accumulator.pop" [("__class__",327)] .none .none .none (.str "cpy313.email.header" 583) ah (.ref 362)<|.ref 356
noncomputable abbrev aeo:FuncData:=jG (g8 PP 10 0) "_Accumulator.__init__" [("__class__",327)] (.ref 332) .none .none (.str "cpy313.email.header" 583) ah (.ref 339)<|.ref 333
noncomputable def BX(K:np)(a:cv):Bool:=M' a.code λc=>sQ K c λ_ b=>xc b[1]? λv=>onStr v λq=>xc b[2]? λv=>onStr v λp=>q==a.qualname&&p==bo "/claim/cut.py"
theorem En{K:np}(h:BX K g=aj):∃c b d a f t u,g.code=.ref c/\K.lookup c=ae ⟨b,d,.fields a,f⟩/\a[1]?=ae (.str g.qualname t)/\a[2]?=ae (.str "/claim/cut.py" u):=by refine aU (Dd h) λc e h=>y3 (pP h) λb d a f i h=>aU (qD h) λv j h=>j7 (sP h) λx t k h=>aU (qD h) λw l h=>j7 (sP h) λy u m h=>?_;have h:=(bg _ _).mp h;exact⟨c,b,d,a,f,t,u,e,i,by rw[j,k,h7 h.1],by rw[l,m,h7 h.2]⟩
theorem vj.mk'(g:autoParam (W.K.lookup f=ae ⟨.type "function",ah,.func a,#[]⟩) jX)(e:autoParam (a.globals=a_) iF)(h:autoParam (a.builtins=iy) iF)(b:autoParam (a.closure=([("__class__",327)]:List<|bC×cj)) iF)(kind:autoParam (a.scope.kind=.function) jX) (o:autoParam (a.scope.names.lookup ("super":bC)=ae .globalImplicit) jX)(n:autoParam (a.scope.names.lookup ("__class__":bC)=ae .free) jX)(m:autoParam (a.scope.names.lookup ("self":bC)=ae .local) jX)(l:autoParam (((a.params.posonlyargs++a.params.args).head?.map (·.arg))=ae ("self":bC)) jX)(d:autoParam (BX W.K a=aj) jX):vj W f a:=⟨g,e,h,b,kind,o,n,m,aT.mp l,by refine cc (En d) λc r=>V0 r λp q v s t u i j w k=>afR c p q v s u i j k⟩
theorem Oq(W):vj W 400 Ū:=.mk'
theorem td(W):vj W 363 ahg:=.mk'
theorem xT(W):vj W 340 aeo:=.mk'
section
theorem qO(F:vj W f d)(m:BX W.K d=aj)(w:Ok A<|n+1)(I:Inv W G s)(j:d.body=.stmts g)(i:kf s d ⟨z,[]⟩ binds)(l:∀x∈d.scope.names,x.2≠.cell)(q:∀x∈binds,d.scope.names.lookup x.1=ae .local) (h:∀L b E,Inv W G b->Ext G s G b->b.heap.Ns L (λy=>binds.reverse.lookup y)->Ok (A.deeper<|g6 d L f) n->s.heap.get? L=ah->zG W.M (A.deeper<|g6 d L f) (.func g<|g6 d L f) (vA g<|g6 d L f) (λH s'=>R (.ok<|.ret<|match H with|.ret v=>v|_=>.none) s') E b) (B:autoParam (d.scope.isCoroutine=false) jX)(p:autoParam (d.scope.isGenerator=false) jX):gU W.M A (.call (.ref f) ⟨z,[]⟩) R s:=by
 refine cc (En m) λc S=>V0 S λoc od vs sl t u N P Q h4=>ks_codeAny_call_defAt w.room (I.k _ _ F.look) rfl I.nolimit (Rf c _ vs t N (I.k _ _ P) rfl Q) j i l q (λr C D=>?_) B p F.kind;refine h s.heap.objs.size {s with heap:=r,toks:=s.toks+binds.length} _ ⟨λa o e=>D a o<|I.hM a o e,I.hb,I.bare,I.os⟩ ⟨D,λ_ _ e=>e,λ_ _=>.inl⟩ C ⟨w.hd,?_,?_⟩<|aV<|al _;.haveI:=w.depth;show A.depth+1+n<=900;exact Rj this
 .haveI:=w.units;show A.units+3+50*n<=9000;exact V7 this
theorem xU(p:iU G s<|g9 x d ps):∃b a,g5 s.heap x b a/\b.dict=ae d/\aG G a.toList (ps.map wv):=by refine bu (p.own _<|qz _) λ_ j=>cc j λo k=>bu k λe l=>bu l λc m=>bu m λf n=>j7 n λa i g h=>t9 o a ⟨e,c,i,g⟩ f h
theorem IA:fA (.builtin "list.__len__")=bB (.type "wrapper_descriptor"):=by show QK _=_;rw[uN];kernel_rfl
theorem Ot:yL (.type "list") "__len__"=bB (ae<|.builtin "list.__len__"):=by kernel_rfl
theorem Sq(x):fu "list.__len__" ⟨[x],[]⟩=bB ():=by kernel_rfl
theorem len_sub{W:Wd}(S:g5 s.heap x k a)(h:∀t b,Q (.done<|.ret<|.int a.size t) {s with toks:=b}):aD W.M A (dF.«list.__len__» ⟨[.ref x],[]⟩) Q E s:=by refine cc S.dat λi c=>?_;obtain⟨f,g,d,b,j⟩:=s;have e:=S.at_;skip;skip;wp_walk;rw[c];wp_walk;exact h _ _
theorem ww:gW W (.ref 400) [.val<|.ref x] 1 (g9 x d ps)<|.int ps.length:=λA G s E p I n H=>by
 cases n using aG.ca with|cons i j=>
  cases i
  cases j
  refine df<|qO (Oq W) (by kernel_rfl) p I (binds:=[("self",.ref x)]) rfl (.of_eq<|by kernel_rfl) (by decide+kernel) (λy m=>by rw[ao] at m;subst m;kernel_rfl) λL h v b c f _ _=>?_;refine gc (xU<|H.mono c) λC g S B u=>?_;haveI e:=u.length;rw[af,aP] at e;refine ja<|Q_<|BW (Oq W) b.k b.base S f rfl Ot IA qf.lookup (Em IA<|by decide+kernel) (.inr rfl) (dD tt) λw q D k l=>?_;refine xS (.inr rfl) l PySem.F.slot_list_len.plain PySem.F.entry_list_len<|bP (Sq _)<|len_sub ⟨k _ _ S.at_,S.cls,S.dat⟩ λt r=>⟨_,rfl,?_⟩;rw[e];exact⟨G,⟨λa o z=>k a o<|b.hM a o z,b.hb,b.bare,b.os⟩,c.trans ⟨k,λ_ _ z=>z,λ_ _=>.inl⟩,.int _ _⟩
end
theorem Ou:yL (.type "list") "pop"=bB (ae<|.builtin "list.pop"):=by kernel_rfl
theorem KC:i4 "list.pop"=ae .method:=by decide+kernel
theorem KD:Bind.lastOf "list.pop"="pop":=by decide+kernel
theorem Sr:Manifest.varargsMethods.contains "list.pop"=false:=by decide+kernel
section
theorem Ss{W:Wd}(v:W.K.In s.heap)(S:g5 s.heap x t f)(h:Q () s):aD W.M A (fu "list.pop" ⟨[.ref x],[]⟩) Q E s:=by
 haveI k:cU W.M s.heap (fB (.ref x)<|.type "module") false:=S.ty.andThen<|il v<|by kernel_rfl
 haveI m:=S.ty (M:=W.M);haveI i:cU W.M s.heap (classData 403) Iy:=ni v<|uv W;haveI l:cU W.M s.heap (fA<|.ref 403)<|.type "type":=LQ v<|by kernel_rfl
 haveI b:∃a,mh "list.pop"=ae a/\Q8 "list.pop" {a with full:=s!"{Iy.qualname.toString}.{"pop"}"} ⟨[.ref x],[]⟩=bB ():=⟨_,rfl,by kernel_rfl⟩;refine aU b λa b o=>cc S.dat λn p=>?_;obtain⟨q,g,d,u,r⟩:=s;have j:=S.at_;dsimp only at k m i l j;unfold fu;rw[b];skip;rw[KC];dsimp only;rw[if_neg<|by decide,Sr,KD];refine aa<|k.at ?_;skip;refine aa<|ks_wpAny_isType_inst j (λc e=>by rw[p] at e;cases e) ?_;skip;refine aa<|m.at ?_;skip;refine aa<|i.at<|aa<|l.at ?_;rw[if_pos<|by decide,o];exact ag h
theorem Su{W:Wd}(S:g5 s.heap x j a)(g:a.toList=b++[v])(i:b.length<=1000)(h:Q (.done<|.ret v) {s with heap:=s.heap.update x<|cn (·.eraseIdxIfInBounds b.length)}):aD W.M A (dF.«list.pop» ⟨[.ref x],[]⟩) Q E s:=by
 refine cc S.dat λn f=>?_;have c:a.size=b.length+1:=by rw[<-aP,g];exact aM
 haveI e:a[b.length]?=ae v:=by rw[<-bN,g];exact yK
 skip;refine aa<|bP (by rfl) ?_;dsimp only;refine aa<|ag ?_;skip;refine aa ?_;skip;refine aa<|dX S.at_ f<|ag ?_;rw[if_neg<|by simp[Q6,c]];haveI d:(n5 (-1) a.size).bind (λk=>a[k]?.map (k,·))=ae (b.length,v):=by
  rw[c];haveI:n5 (-1) (b.length+1)=ae b.length:=by unfold n5;simp;exact ŉ
  rw[this,Option.bind_some,e];rfl
 rw[d];skip;refine aa ?_;skip;refine gC S.at_ f ?_ (by rw[fW];exact Ŋ i c)<|by rw[fW,mW,dif_pos<|Uu c,Array.size_eraseIdx];exact ŋ i c
 exact ag h
end
section
theorem IB(F:vj W f e)(I:Inv W G s)(O:iU G s<|g9 x d ps)(ok:Ok A n)(p:s.heap.Ns L m)(R:m ("self":bC)=ae (.ref x)) (j:mM W.K g name=aj)(hn:xQ.lookup name=ah)(c:gW W (.ref g) [.val<|.ref x] k (g9 x d ps) r)(l:k<=n) (h:∀v i s',Inv W i s'->Ext G s i s'->Tr i v r->Q v s') (N:autoParam (eval (.Call (.Attribute (.Name "self" u) name a) [] [] pos) (g6 e L f)=(do
   let w<-eval (.Name "self" u) (g6 e L f)
   fy a.atName
   let(g,b)<-gy [w] (h8 w name<|do return (<-jU (.Name "self" u) (g6 e L f)).getD aj)
   bS pos g b (bb pos<|aw []<|g6 e L f) (bK pos<|aX []<|g6 e L f))) iF):aD W.M A (eval (.Call (.Attribute (.Name "self" u) name a) [] [] pos)<|g6 e L f) Q E s:=by
 refine kX ?_ N;refine iz (fG F.kind F.ka p R ?_)<|dD tt;refine bu (O.own (d,.dict xQ)<|.tail _<|.head _) λ_ q0=>cc q0 λod q1=>bu q1 λB q2=>bu q2 λe2 q3=>bu q3 λe3 q4=>j7 q4 λes ne C D=>gc (xU O) λox t S H tv=>?_;haveI P:=(km C D name).2 hn;unfold mM at j;simp only [bg,beq_iff_eq] at j;refine bu j λq5 k4=>bu q5 λk2 k3=>?_;haveI o:rt ox=true:=by refine cc S.dat λn q=>?_;unfold rt;rw[q]
 refine BS I.k (InstAt.ofTree S.at_ S.cls o H B) k2 (LQ I.k<|beq_iff_eq.mp k3) (.inl rfl) (by show(FA name od).map _=_;rw[P];rfl)<|gG (.k k4) I.k (cE ⟨I.k,?_⟩) rfl;exact Run.use (c A G s [.ref x] (ok.le l) I (.cons (.val _) .nil) O) λv s' i y z=>h v i s' y z
end
theorem Sv{u:lm}(g:Inv W f s₃)(H:Ext G s f s₃)(i:iU f s₃<|g9 x d ps)(k:∀a o,s₃.heap.get? a=ae o->u.get? a=ae o) (q:∀c o,c≠x->u.get? c=ae o->l.get? c=ae o)(C:∃o,l.get? x=ae o/\(Ob.seq (.ref 403) (ae d)<|qs.map wv).holds f o)(h:∃t j,P t j/\Tr f v t/\j=g9 x d qs):sR W G s (g9 x d ps) P v {s₃ with heap:=l,toks:=F}:=by
 refine gc h λt j A B D=>?_;try clear h;subst D
 have r:f x=none:=(i.own _<|.head _).1;haveI y:=i.nodup;have n:d≠x:=by intro e;subst e;simp at y
 refine⟨f,t,_,A,⟨λa o z=>q a o (λe=>by rw[e,r] at z;cases z)<|k a o<|g.hM a o z,g.hb,g.bare,g.os⟩,⟨λa o z w=>q a o (λe=>w<|by rw[e];exact .head _)<|k a o<|H.heap a o z,H.sub,λa o z=>(H.new a o z).imp id .inl⟩,⟨y,λp m=>?_⟩,λp m=>?_,B⟩
 .rcases bf.mp m with rfl|m;.exact⟨r,C⟩
  .rw[ao] at m;subst m;refine bu (i.own (d,.dict xQ)<|.tail _<|.head _) λa E=>aU E λo b c=>⟨a,o,q _ _ n<|k _ _ b,c⟩
 .rcases bf.mp m with rfl|m;.exact .inl<|.head _
  .rw[ao] at m;subst m;exact .inl<|.tail _<|.head _
theorem Eo(hz:ps.length<=900):cu W (.ref 363) [.val<|.ref x] 2 (g9 x d<|ps++[p]) λt a0=>t=wv p/\a0=g9 x d ps:=λA G s vs ok I hv O=>by
 cases hv using aG.ca with|cons h1 h2=>
  cases h1
  cases h2
  refine qO (td W) (by kernel_rfl) ok I (binds:=[("self",.ref x)]) rfl (.of_eq<|by kernel_rfl) (by decide+kernel) (λy m=>by rw[ao] at m;subst m;kernel_rfl) λL N E' D u M i gL=>?_;haveI H:=O.mono u;refine ja<|vD<|Fx ?_;refine eg ?_<|by rfl
  refine IB (td W) D H i M rfl (by kernel_rfl) rfl ww (al _) λv n a E w hv=>?_;refine v7 ?_;haveI C:Inv W n {a with toks:=a.toks+1}:=E.bL rfl rfl rfl;refine Run.use (fe.eq (.int _ _) (au _) W _ n _ v _ (i.le<|au _) C hv<|.int _ _) λc s₃ o g z hc=>?_;subst hc;refine cm ?_;haveI hb:(((ps++[p]).length:Int)==0)=false:=by rw[aM];simp;exact Ō
  rw[hb,if_neg<|by decide];haveI b:Ext G s o s₃:=(u.trans w).trans<|(Ext.bL (s:=a) (s':={a with toks:=a.toks+1}) rfl).trans z;haveI h:Ext G N o s₃:=w.trans<|(Ext.bL (s:=a) (s':={a with toks:=a.toks+1}) rfl).trans z;have r:=O.mono b;have j:=M.keeps h.heap;refine ag ?_;refine gc (xU r) λox f S hd tv=>?_;rw[aJ] at tv;refine gc (aG.snoc tv) λl lv Q B tl=>?_;haveI e:=B.length;rw[af] at e;refine ja<|Q_<|BW (td W) g.k g.base S j rfl Ou pc lU.lookup (On pc (by decide+kernel)<|by decide+kernel) (.inl rfl) (by decide) λh' q tk k hq=>?_;have P:g5 h' x ox f:=⟨k _ _ S.at_,S.cls,S.dat⟩;refine xS (.inl rfl) hq o9.plain zE<|Ss (g.k.keeps k) P<|Su P Q (ō hz e) ⟨_,rfl,?_⟩;haveI he:(f.eraseIdxIfInBounds l.length).toList=l:=by
   haveI R:f.size=l.length+1:=by rw[<-aP,Q];simp
   rw[mW,dif_pos<|Uu R,CJ,Q,tL<|al _,eK];simp
  obtain⟨k1,k2⟩:=tc (s:={s₃ with heap:=h',toks:=tk}) P (·.eraseIdxIfInBounds l.length) hd (by rw[he];exact B);exact Sv (s₃:=s₃) g b r k k1 k2<|t9 _ _ ⟨rfl,rfl⟩ tl rfl
theorem KF:cu W (.ref 363) [.val<|.ref x] 2 (g9 x d []) λt E=>t=.tuple [.str "",.str ""]/\E=g9 x d []:=λA G s vs R I D O=>by
 cases D using aG.ca with|cons N P=>
  cases N
  cases P
  refine qO (td W) (by kernel_rfl) R I (binds:=[("self",.ref x)]) rfl (.of_eq<|by kernel_rfl) (by decide+kernel) (λy m=>by rw[ao] at m;subst m;kernel_rfl) λL H S n k C h gL=>?_;haveI r:=O.mono k;refine ja<|vD<|Fx ?_;refine eg ?_ rfl;refine IB (td W) n r h C rfl (by kernel_rfl) rfl ww (al _) λv i e q u D=>?_;refine v7 ?_;haveI l:Inv W i {e with toks:=e.toks+1}:=q.bL rfl rfl rfl;refine Run.use (fe.eq (.int _ _) (au _) W _ i _ v _ (h.le<|au _) l D<|.int _ _) λc f F j w Q=>?_;subst Q;refine cm ?_;skip;haveI g:=(k.trans u).trans<|(Ext.bL (s:=e) (s':={e with toks:=e.toks+1}) rfl).trans w;refine zy<|pn<|AM<|f'<|v8<|f'<|v8<|cE ⟨dN tt,?_⟩;obtain⟨M,a,b,c⟩:=iQ (t:=.tuple [.str "",.str ""]) (s':={f with heap:=f.heap.push {cls:=.type "tuple",data:=.seq #[.str "" f.toks,.str "" (f.toks+1)]},toks:=f.toks+1+1}) j rfl rfl rfl rfl (Tr.wW rfl rfl 0 rfl (j.cL<|al _)<|.cons (.str _ _)<|.cons (.str _ _) .nil);have B:=g.trans b;exact⟨M,_,_,⟨rfl,rfl⟩,a,⟨λa o z _=>B.heap a o z,B.sub,λa o z=>(B.new a o z).imp id .inl⟩,O.mono B,λp m=>.inl<|List.mem_map_of_mem m,c⟩
end
section
open Classical renaming em->ahY
open PySem renaming TriplesOk->zH,WalksS->ae7
open PySem.Builtin.Builtins renaming bindParams->Q'
open PySem.GenOnlyQ renaming bare->LR
open PySem.Heap.ExtBut renaming refl->ae6
open PySem.SC renaming joinGen->ah9
open PySem.Value.ref renaming inj->ahX
open PySem PySem.W PySem.Calls PyProof.Rows PySem.SeqAt Builtin
noncomputable def aep:Obj:=⟨.type "type",ah,.cls Iy,#[ae (.ref 324),ah,ae (.str "_Accumulator" 697),ae (.str "_Accumulator" 705),ae (.builtin "list.__new__"),ae (.bool aj)]⟩
theorem IC(W:Wd):W.K.lookup 403=ae aep:=by kernel_rfl
section
theorem BY{W:Wd}(a:W.K.In h):cU M h (VL<|.ref 403) [.ref 403,.type "list",.type "object"]:=(ni a<|uv W).andThen .now
theorem xV{W:Wd}(i:W.K.In h):cU M h (FO<|.ref 403)<|ae "list.__new__":=by intro A Q E s k q;obtain⟨b,g,d,f,c⟩:=s;haveI a:=k _ _<|i _ _<|IC W;skip;skip;refine aa<|BY (i.keeps k) A _ E _ (λ_ _ e=>e) ?_;rw[eC];refine aa<|aa<|aa<|aa<|mf a<|ag ?_;exact ag<|ag<|ag q
theorem GP{W:Wd}(b:W.K.In h):cU M h (QI<|.ref 403)<|.ref 403:=by intro A Q E s k q;skip;haveI a:=b.keeps k;skip;refine aa<|BY a A _ E _ (λ_ _ e=>e) ?_;rw[eC];refine aa<|aa<|aa<|xV a A _ E _ (λ_ _ e=>e) ?_;skip;exact ag<|ag<|ag q
theorem ID{W:Wd}(a:W.K.In h):cU M h (jl (.ref 403)<|.type "list") true:=il a<|by kernel_rfl
end
theorem Sw:i4 "list.__new__"=ae .builtinFn:=by decide+kernel
theorem Ov:LJ "list.__new__"=ae ("list","__new__"):=by decide+kernel
theorem Ow:("list.__new__".splitOn ".__new__").headD ""="list":=congrArg (λl=>l.headD "") split_list
section
theorem GQ{W:Wd}{b:kZ}(n:W.K.In h)(f:Q (.ref<|h.objs.size+1) ⟨(h.push cO).push {cls:=.ref 403,dict:=ae h.objs.size,data:=.seq #[]},g,d,j,b⟩):aD W.M A (call (.builtin "list.__new__") [.ref 403,v]) Q E ⟨h,g,d,j,b⟩:=by
 haveI k:=n _ _<|IC W;skip;refine df<|FP (kA _<|by decide+kernel) ?_;unfold eV;rw[Sw,Ov];dsimp only;haveI c:=GP (M:=W.M) n;haveI l:=xV (M:=W.M) n;haveI i:=ID (M:=W.M) n;repeat (first|(with_reducible refine bI ?_ ?_;first|rfl|(simp;done))|(with_reducible refine dw ?_ ?_;first|rfl|(simp;done))|lk)
 refine Me PySem.F.entry_list_new rfl λp m=>?_;skip;simp only [Ow];repeat (first|(with_reducible refine bI ?_ ?_;first|rfl|(simp;done))|(with_reducible refine dw ?_ ?_;first|rfl|(simp;done))|lk)
 haveI a:((h.push {cls:=.type "dict",data:=.dict #[]}).push {cls:=.ref 403,dict:=ae h.objs.size,data:=.seq #[]}).get? 403=ae aep:=aN _<|aN _<|n _ _<|IC W;skip;refine ZA a ?_;repeat (first|(with_reducible refine bI ?_ ?_;first|rfl|(simp;done))|(with_reducible refine dw ?_ ?_;first|rfl|(simp;done))|lk)
 haveI e:(h.push {cls:=.type "dict",data:=.dict #[]}).objs.size=h.objs.size+1:=e_ ..;rw[e];exact f
end
theorem IE:fA (.builtin "list.__init__")=bB (.type "wrapper_descriptor"):=by show QK _=_;rw[uN];kernel_rfl
theorem Ox:yL (.type "list") "__init__"=bB (ae<|.builtin "list.__init__"):=by kernel_rfl
theorem Sx(x):fu "list.__init__" ⟨[x],[]⟩=bB ():=by kernel_rfl
theorem Oy(W:Wd)(s)(c:W.K.In s.heap)(a b):kf s aeo ⟨[a,b],[]⟩ [("self",a),("initial_size",b)]:=.of_defaults (o:=⟨.type "tuple",ah,.seq #[.int 0 709] 0,#[]⟩) rfl (c _ _<|by kernel_rfl) rfl (by rfl)<|by kernel_rfl
section
theorem Oz{W:Wd}(S:g5 s.heap x c a)(hz:a.size<=1000)(h:Q (.done<|.ret .none) {s with heap:=s.heap.update x<|cn λ_=>#[]}):aD W.M A (dF.«list.__init__» ⟨[.ref x],[]⟩) Q E s:=by
 refine cc S.dat λn b=>?_;unfold dF.«list.__init__»;dsimp only;skip;skip;refine aa ?_;skip;refine aa<|dX S.at_ b<|ag ?_;refine aa ?_;skip;refine gC S.at_ b ?_ (by rw[fW];exact(ab hz<|ap rfl))<|au _;refine aa<|tM ?_;exact ag h
end
theorem BZ:cu W (.ref 340) [.val<|.ref x,.int 0] 1 [(x,.seq (.ref 403) (ae d) []),(d,.dict [])] λt a8=>t=.none/\a8=g9 x d []:=λA G s vs ok I hv O=>by
 cases hv using aG.ca with|cons h1 N=>
  cases h1
  cases N using aG.ca with|cons N h3=>
  cases h3
  cases N
  rename_i a7;refine qO (xT W) (by kernel_rfl) ok I rfl (Oy W s I.k _ _) (by decide+kernel) (λy m=>by
   refine eQ m ?_ λm=>?_;.kernel_rfl
   .rw[ao] at m;subst m;kernel_rfl) λL g E' b l u a1 gL=>?_;have f:=O.mono l;refine bu (f.own (x,.seq (.ref 403) (ae d) [])<|.head _) λgx z0=>?_;refine cc z0 λC z1=>?_;clear z0;refine bu z1 λex z2=>?_;clear z1;refine bu z2 λx1 z3=>?_;clear z2;refine bu z3 λx2 z4=>?_;clear z3;refine j7 z4 λvs n x3 x4=>?_;clear z4;refine bu (f.own (d,.dict [])<|.tail _<|.head _) λgd q5=>cc q5 λod q6=>bu q6 λed q7=>bu q7 λd1 q8=>bu q8 λd2 q9=>j7 q9 λes ne d3 D=>?_;haveI nd:=f.nodup;have v:d≠x:=by
   intro e;subst e;simp at nd
  haveI Q:rt C=true:=by unfold rt;rw[x3]
  refine ja<|vD<|iG ?_ rfl;refine iz (fG (xT W).kind (by kernel_rfl) u rfl ?_)<|by decide
  refine iz (fG (xT W).kind (xT W).ka u rfl ?_)<|by decide
  haveI e0:=D.length;skip;refine Ee b.k ex x1 Q x2 ed d3 d1 d2 D.noRef (Ŏ e0) (by kernel_rfl) λh' tk R t0 hb zq=>cc zq λa0 a2=>bu a2 λe1 a3=>bu a3 λe2 a4=>bu a4 λe3 a5=>cc a5 λn' e4=>?_;haveI h:=hb;have c:Inv W G {g with heap:=h',toks:=tk}:=⟨λa o z=>h a o (λe=>by rw[e,gd] at z;cases z)<|b.hM a o z,b.hb,b.bare,b.os⟩;have i:g5 h' x C vs:=⟨h x C (zw v) ex,x1,n,x3⟩;haveI P:L≠d:=by
   intro e;refine bu (O.own (d,.dict [])<|.tail _<|.head _) λ_ a6=>aU a6 λa9 H _=>?_;rw[e,H] at gL;cases gL
  refine ja<|ks_wpAt_Expr_any<|BW (xT W) c.k c.base i (u.at' λo e=>h _ _ P e) rfl Ox IE qf.lookup (Em IE<|by decide+kernel) (.inr rfl) (by decide) λr q B k hq=>?_;haveI j:g5 r x C vs:=⟨k _ _ i.at_,x1,n,x3⟩;haveI E:=x4.length;skip;refine xS (.inr rfl) hq PySem.F.slot_list_init.plain PySem.F.entry_list_init<|bP (Sx _)<|Oz (s:={g with heap:=r,toks:=B}) j (ŏ E) ⟨_,rfl,?_⟩;refine bu (tc (s:={g with heap:=r,toks:=B}) (G:=G) j (λ_=>#[]) x2 .nil) λS k2=>vD<|ag ?_;haveI M:G x=none:=gx;refine⟨G,.none,_,⟨rfl,rfl⟩,⟨λa o z=>S a o (λe=>by rw[e,M] at z;cases z)<|k a o<|c.hM a o z,b.hb,b.bare,b.os⟩,⟨λa o z w=>S a o (λe=>w<|by rw[e];exact .head _)<|k a o<|h a o (λe=>w<|by rw[e];exact .tail _<|.head _)<|l.heap a o z,λa o z=>z,λa o z=>.inl z⟩,⟨nd,λp m=>?_⟩,λp m=>.inl ?_,.none⟩
  .rcases bf.mp m with rfl|m;.exact⟨gx,k2⟩
   .rw[ao] at m;subst m;refine⟨gd,a0,S _ _ v<|k _ _ e1,e2,e3,_,n',e4,?_⟩;exact D.put "_initial_size" R t0<|.int 0 a7
  .refine eQ m ?_ λm=>?_;.exact .head _
   .rw[ao] at m;subst m;exact .tail _<|.head _
theorem B0:cu W (.ref 403) [.int 0] 3 [] λt q=>∃x d,t=.val (.ref x)/\q=g9 x d []:=λA G s u ok I H O=>by
 obtain⟨b,g,h,j,i⟩:=s;haveI hC:=I.k _ _<|IC W;have X:=I.k;haveI w:cU W.M b (jm (.ref 403) "__call__")<|ae<|.builtin "type.__call__":=YR X<|by kernel_rfl
 haveI a1:cU W.M b (fB (.ref 403)<|.type "type") true:=ahT X<|by kernel_rfl
 haveI a5:=BY (M:=W.M) X;haveI md:=xV (M:=W.M) X;skip;refine h6 ?_;skip;refine ZA hC ?_;skip;show aD _ _ (FQ (.ref 403) _) _ _ _;skip;refine aa<|w.at ?_;dsimp only;skip;refine aa<|ag<|aa<|ag ?_;refine ag (a:=afd<|.call (.builtin "type.__call__") ⟨.ref 403::u,[]⟩)<|And.intro rfl ?_;refine Jy (kA _<|by decide+kernel) aeX ?_;with_reducible refine i' tc_kind tc_split a1 (tc_args _ _ _) ?_
 skip;have a0:Ok (A.under<|.builtin "type.__call__" ⟨.ref 403::u,[]⟩) 2:=⟨ok.hd,by haveI:=ok.depth;show A.depth+1+2<=900;exact(this),by haveI:=ok.units;haveI:=rY A 403 u;exact ő (by assumption) this⟩;haveI y:(b.push cO).objs.size=b.objs.size+1:=e_ ..;haveI f:b.get? b.objs.size=none:=aV<|al _;haveI c:b.get? (b.objs.size+1)=none:=aV<|cB _;haveI I1:Inv W G ⟨b.push cO,g,h,j,i⟩:=I.g4 cO;haveI X1:Ext G ⟨b,g,h,j,i⟩ G ⟨b.push cO,g,h,j,i⟩:=Ext.g4 G ⟨b,g,h,j,i⟩ cO;haveI L:=I1.g4 {cls:=.ref 403,dict:=ae b.objs.size,data:=.seq #[]};haveI X2:=Ext.g4 G ⟨b.push cO,g,h,j,i⟩ {cls:=.ref 403,dict:=ae b.objs.size,data:=.seq #[]};dsimp only at L X2;have l:=X1.trans X2;haveI R:(b.push cO).get? b.objs.size=ae emptyDict:=aS _ rfl;have C:((b.push cO).push {cls:=.ref 403,dict:=ae b.objs.size,data:=.seq #[]}).get? (b.objs.size+1)=ae {cls:=.ref 403,dict:=ae b.objs.size,data:=.seq #[]}:=by rw[<-y];exact aS _ rfl
 haveI O2:iU G ⟨(b.push cO).push {cls:=.ref 403,dict:=ae b.objs.size,data:=.seq #[]},g,h,j,i⟩ [(b.objs.size+1,.seq (.ref 403) (ae b.objs.size) []),(b.objs.size,.dict [])]:=by
  refine⟨by simp,λp m=>?_⟩;rcases bf.mp m with rfl|m;.exact⟨I.cL<|cB _,_,C,rfl,rfl,#[],0,rfl,.nil⟩
  .rw[ao] at m;subst m;exact⟨I.cL<|al _,cO,aN _ R,rfl,rfl,#[],0,rfl,.nil⟩
 haveI nc:∀{Q:aW->bk->Prop} {E:aW->bk->Prop},Q (.ref<|b.objs.size+1) ⟨(b.push cO).push {cls:=.ref 403,dict:=ae b.objs.size,data:=.seq #[]},g,h,j,i⟩->aD W.M (A.under<|.builtin "type.__call__" ⟨.ref 403::u,[]⟩) (er (.builtin "list.__new__")<|.ref 403::u) Q E ⟨b,g,h,j,i⟩:=λ{Q E} S=>by
  cases H using aG.ca with|cons h1 h2=>
   cases h2
   exact GQ X S
 have N:W.K.In<|(b.push cO).push {cls:=.ref 403,dict:=ae b.objs.size,data:=.seq #[]}:=L.k;haveI F:cU W.M ((b.push cO).push {cls:=.ref 403,dict:=ae b.objs.size,data:=.seq #[]}) (fA<|.ref<|b.objs.size+1)<|.ref 403:=(jW (part:=ah) C).andThen .now;haveI a2:cU W.M ((b.push cO).push {cls:=.ref 403,dict:=ae b.objs.size,data:=.seq #[]}) (fB (.ref<|b.objs.size+1)<|.ref 403) true:=F.andThen<|il N<|by kernel_rfl
 haveI a4:cU W.M ((b.push cO).push {cls:=.ref 403,dict:=ae b.objs.size,data:=.seq #[]}) (jm (.ref<|b.objs.size+1) "__init__")<|ae<|.ref 340:=F.andThen<|dQ N<|by kernel_rfl
 haveI a3:cU W.M ((b.push cO).push {cls:=.ref 403,dict:=ae b.objs.size,data:=.seq #[]}) (AR (.ref 340)<|.ref<|b.objs.size+1) (.ref 340,[.ref<|b.objs.size+1]):=VG N _<|by kernel_rfl
 have P:∀{Q:aW->bk->Prop} {E:aW->bk->Prop},(∀D,sR W G ⟨(b.push cO).push {cls:=.ref 403,dict:=ae b.objs.size,data:=.seq #[]},g,h,j,i⟩ [(b.objs.size+1,.seq (.ref 403) (ae b.objs.size) []),(b.objs.size,.dict [])] (λt q=>t=.none/\q=g9 (b.objs.size+1) b.objs.size []) .none D->Q .none D)->aD W.M (A.under<|.builtin "type.__call__" ⟨.ref 403::u,[]⟩) (er (.ref 340)<|[.ref<|b.objs.size+1]++u) Q E ⟨(b.push cO).push {cls:=.ref 403,dict:=ae b.objs.size,data:=.seq #[]},g,h,j,i⟩:=λ{Q E} S=>by
  refine df<|i8 (BZ _ G _ ([.ref<|b.objs.size+1]++u) (a0.le<|dN tt) L (.cons (.val _)<|H.mono l.sub) O2) λr D B=>?_;rcases r with e|(v|_|_|_)<;>first|exact B.elim|skip
  rename_i v;haveI H:v=Value.none:=by obtain⟨_,_,_,⟨rfl,_⟩,_,_,_,_,ht⟩:=B;cases ht;rfl
  subst H;exact S D B
 repeat (first|(with_reducible refine nc ?_)|(with_reducible refine P ?_)|(with_reducible refine bI ?_ ?_;first|rfl|(simp;done))|(with_reducible refine dw ?_ ?_;first|rfl|(simp;done))|lk|simp only [ev,if_false,LP,AV])
 intro D B;obtain⟨G',t,q,⟨rfl,rfl⟩,I',x',o',ha,ht⟩:=B;repeat (first|(with_reducible refine bI ?_ ?_;first|rfl|(simp;done))|(with_reducible refine dw ?_ ?_;first|rfl|(simp;done))|lk|simp only [ev,if_false,bne_self_eq_false])
 refine⟨G',_,_,rP _ _ rfl rfl,I',⟨λa o e n=>x'.heap a o (l.heap a o e) ?_,λa o e=>x'.sub a o<|l.sub a o e,λa o e=>?_⟩,o',λp m=>.inr ?_,.val _⟩
 .intro m;rcases bf.mp m with rfl|m;.rw[c] at e;cases e
  .rw[ax,t6,ao] at m;subst m;rw[f] at e;cases e
 .rcases x'.new a o e with z|z|z;.exact .inl z
  .exact .inr<|.inl<|fH l.heap z
  .refine eQ z ?_ λm=>?_;.exact .inr<|.inl c
   .rw[ax,t6,ao] at m;subst m;exact .inr<|.inl f
 .refine eQ m ?_ λm=>?_;.exact c
  .rw[ao] at m;subst m;exact f
section
theorem KG{W:Wd}{c:kZ}(z:W.K.In h)(w:h.get? t=ae o)(u:o.cls=.ref 403)(k:Q (.ref h.objs.size) ⟨h.push {cls:=.type "list_iterator",data:=.fields #[.ref t,.int 0 0]},g,d,j,c⟩):aD W.M A (rn<|.ref t) Q E ⟨h,g,d,j,c⟩:=by
 have s:cU W.M h (fA<|.ref t)<|.ref 403:=u▸(jW (part:=ah) w).andThen .now;haveI p:=ID (M:=W.M) z;haveI l:cU W.M h (fB (.ref t)<|.type "list") true:=s.andThen p;haveI e:cU W.M h (ds (.ref 403) "__iter__")<|ae<|.builtin "list.__iter__":=dQ z<|by kernel_rfl
 have r:cU W.M h (jm (.ref t) "__iter__")<|ae<|.builtin "list.__iter__":=s.andThen e;haveI y:=slot_list_iter.bind<|.ref t;have m:∀{Q:aW->bk->Prop} {E:aW->bk->Prop},Q (.ref h.objs.size) ⟨h.push {cls:=.type "list_iterator",data:=.fields #[.ref t,.int 0 0]},g,d,j,c⟩->aD W.M A (er (.builtin "list.__iter__")<|[.ref t]++[]) Q E ⟨h,g,d,j,c⟩:=λ{Q E} k=>by
  refine df<|cz slot_list_iter.plain entry_list_iter<|i' (i:="list.__iter__") (n:="__iter__") (rest:=[]) (by decide+kernel) (by decide+kernel) l (args_list_iter _) ?_;show aD _ _ (do QB (<-Jz "list_iterator" [.ref t,LL 0])) _ _ _;exact aa<|dH<|ag k
 skip;refine aa<|r.at ?_;skip;skip;haveI b:aD W.M A (er (.builtin "list.__iter__") [.ref t]) (λv x=>aD W.M A (bB<|ae v) (λa=>aD W.M A (match a with
    |some e=>do
     let f<-jm e "__next__"
     match f with
      |none=>do
       rule "iter.non-iterator"
       tG "TypeError" (kY "iter() returned non-iterator of type '"++kY (<-oA e)++kY "'")
      |some q=>bB e
    |none=>do
     let f<-Q4 (ef t) (bo "__getitem__")
     match f with
      |none=>do
       rule "iter.not-iterable"
       tG "TypeError" (kY "'"++kY (<-oA (ef t))++kY "' object is not iterable")
      |some q=>do
       rule "iter.getitem-fallback"
       Jz "iterator" [ef t,<-mkInt 0]) Q E) E x) E ⟨h,g,d,j,c⟩:=by
  refine m<|ag ?_;haveI T:QJ ⟨h.push {cls:=.type "list_iterator",data:=.fields #[.ref t,.int 0 0]},g,d,j,c⟩ (.ref h.objs.size) "list_iterator":=⟨_,aS _ rfl,rfl⟩;exact aa<|cP T lq.lookup<|ag k
 refine aa<|aQ<|aa ?_;skip;refine aa<|r.at ?_;refine aa<|mS<|Jv ?_;split;.refine aa ?_;skip;refine ag<|ag ?_;exact aa b
 .refine tH<|aa ?_;skip;refine ag<|ag ?_;exact aa b
theorem OA{W:Wd}(d:W.K.In s.heap)(S:g5 s.heap x c a)(b:Q (.ref s.heap.objs.size) {s with heap:=s.heap.push {cls:=.type "list_iterator",data:=.fields #[.ref x,.int 0 0]}}):aD W.M A (rn<|.ref x) Q E s:=KG d S.at_ S.cls b
end
noncomputable def aeq(o:uJ):Prop:=∃a,o=⟨.none,ah,.fields a,#[]⟩/\zH a.toList
noncomputable def li:Ob:=.any (λ_ o=>aeq o) (λ_ _ _ _ h=>h) λ_ o v a=>aU a λb e _=>by rw[e];intro q;cases q
noncomputable def Om(v:aW):Bool:=match v with|.int _ _=>aj|_=>false
noncomputable def U0(v:aW):Bool:=match v with|.bool _=>aj|_=>false
theorem OB(h:Om v=aj):∃i t,v=.int i t:=by cases v with|int i t=>exact⟨i,t,rfl⟩|_=>exact fT h
theorem Xf(h:U0 v=aj):∃b,v=.bool b:=by cases v with|bool b=>exact⟨b,rfl⟩|_=>exact fT h
noncomputable def om(K:np)(c P:cj):Bool:=sQ K c λb a=>b==.type "code"&&(a[11]?==ae (.ref P)&&(a.getD 11 .none==.ref P&&(c !=P&&(Om (a.getD 7 .none)&&(U0 (a.getD 9 .none)&&(Om (a.getD 10 .none)&&onStr (a.getD 18 .none) λ_=>aj))))))
theorem r'{K:np}(e:om K c P=aj):∃b d a f,K.lookup c=ae ⟨b,d,.fields a,f⟩/\b=.type "code"/\a[11]?=ae (.ref P)/\a.getD 11 .none=.ref P/\c≠P/\Om (a.getD 7 .none)=aj/\U0 (a.getD 9 .none)=aj/\Om (a.getD 10 .none)=aj/\(onStr (a.getD 18 .none) λ_=>aj)=true:=by refine y3 (pP e) λb d a f e h=>?_;simp only [bg,beq_iff_eq,bne_iff_ne] at h;exact⟨b,d,a,f,e,h⟩
theorem KH{K:np}(B:K.In h)(e:om K c P=aj)(m:h.get? P=ae ⟨.none,ah,.fields ps,#[]⟩)(n:zH ps.toList):h.IsCode c P ps:=by refine cc (r' e) λy o=>cc o λz p=>cc p λv q=>cc q λA r=>bu r λe s=>Y4 s λ_ _ k l a d f g=>sC (OB a) λi t a=>cc (Xf d) λb d=>sC (OB f) λj u f=>j7 (sP g) λx w g _=>⟨_,v,x,w,i,t,b,j,u,_,B _ _ e,rfl,k,g,a,d,f,m,rfl,n,l⟩
theorem GR{K:np}(k:K.In h)(e:om K c P=aj)(d:h.get? P=ae ⟨.none,ah,.fields ps,#[]⟩):h.TableAt c P ps:=by refine Mr (r' e) λg i f j e a b _=>⟨ vG _ f (k _ _ e) a rfl b,d⟩
theorem xW{h:lm}(b:h.IsCode c P ps):zH ps.toList:=by refine cc b λo r=>cc r λM s=>cc s λi t=>cc t λH u=>cc u λa v=>cc v λI w=>cc w λq x=>cc x λj y=>cc y λL z=>cc z λG A=>bu A λF e=>bu e λE f=>bu f λl g=>Y4 g λB C D k n p d m=>d
theorem Ep(m:env.code=.ref c)(d:s.heap.IsCode c P ps)(a:s.heap.TableAt c P ps) (l:∀g i o,wc P s.heap i->(∃h,i.get? P=ae ⟨.none,ah,.fields h,#[]⟩/\zH h.toList)->Q g {s with heap:=i,toks:=o}):aD M A (genexprCode env pos f j) Q E s:=by cases n:codeAmong pos ps.toList with|some k=>refine wpAny_genexprCode_hit m d n<|l k s.heap s.toks (ae6 _ _) ⟨ps,a.2,xW d⟩|none=>exact wpAny_genexprCodeX m d a n λk i o p _ _ b _ e _=>l _ _ _ p ⟨_,e.2,xW b⟩
structure GS(G:Gh)(h:lm)(z:cj×aW×aW)(q:Pr):Prop where
 gh:∃o,G z.1=ae o
 is:h.IsTuple z.1 #[z.2.1,z.2.2]
 a:∃t,z.2.1=.str q.1 t
 b:∃t,z.2.2=.str q.2 t
theorem Sy(c:∀a o,G a=ae o->h.get? a=ae o)(t:Tr G v<|wv q):∃z,v=.ref z.1/\GS G h z q:=by cases t using Tr.rQ with|@seq a o k n d b i g j=>cases k with|mk l=>cases j using aG.ca with|cons e r=>cases r using aG.ca with|cons f r=>cases r;cases e;cases f;exact⟨(a,_,_),rfl,⟨o,d⟩,⟨o,c _ _ d,b,n,g⟩,⟨_,rfl⟩,⟨_,rfl⟩⟩
theorem OC(c:∀a o,G a=ae o->h.get? a=ae o){ps:List Pr}(f:aG G g<|ps.map wv):∃b:List (cj×aW×aW),g=b.map (λz=>.ref z.1)/\b.length=ps.length/\∀(i:Nat) z,b[i]?=ae z->∃q,ps[i]?=ae q/\GS G h z q:=by induction ps generalizing g with|nil=>cases f;exact⟨[],rfl,rfl,λi z e=>nS e⟩|cons q ps j=>cases f using aG.ca with|cons t r=>exact(Sy c t).elim λz e=>(j r).elim λb h=>⟨z::b,congr (congrArg List.cons e.1) h.1,congrArg (·+1) h.2.1,λi y d=>by cases i with|zero=>cases d;exact⟨q,rfl,e.2⟩|succ i=>exact h.2.2 i y d⟩
structure sa(G h)(items:Array aW)(ps:List Pr)(zs:List<|cj×aW×aW):Prop where
 vs:items.toList=zs.map (λz=>.ref z.1)
 len:zs.length=ps.length
 here:∀(i:Nat) z,zs[i]?=ae z->∃q,ps[i]?=ae q/\GS G h z q
theorem sa.mem(P:sa G h a ps b)(i:Nat)(T)(e:a[i]?=ae (.ref T)):T∈b.map (·.1):=(am.mp<|P.vs▸aZ (bN.trans e)).elim λz e=>am.mpr ⟨z,e.1,ahX e.2⟩
theorem sa.gh(P:sa G h a ps c)(T)(m:T∈c.map (·.1)):∃o,G T=ae o:=(am.mp m).elim λz e=>(List.mem_iff_getElem?.mp e.1).elim λi b=>(P.here i z b).elim λq h=>e.2▸h.2.gh
theorem sa.row(P:sa G h a ps f)(R:pY d x a)(b:∀T∈f.map (·.1),∀o,h.get? T=ae o->d.get? T=ae o):oV d x a<|f.map (·.2):=⟨R,by rw[af,<-aP,P.vs,af],λi p e=>by rw[aq] at e;refine aU (aT.mp e) λz c g=>?_;subst g;refine⟨z.1,by rw[<-bN,P.vs,aq,c];rfl,(P.here i z c).elim λq h=>h.2.is.imp λo h=>⟨b _ (am.mpr ⟨z,aZ c,rfl⟩) o h.1,h.2⟩⟩⟩
theorem WalksS.Xg(e:n=l){a:Nat->bk->Prop} (W:ae7 prog w A I d wr c (passing (λ_=>aj) n 0).length (λj y=>∃i,(passing (λ_=>aj) n 0)[j]?=ae i/\P i y) a):ae7 prog w A I d wr c l P a:=by subst e;rw[show passing (λ_=>aj) n 0=aL n from List.filter_eq_self.mpr λ_ _=>rfl,aO] at W;exact{sub:=W.sub,grefl:=W.grefl,gtrans:=W.gtrans,frame:=W.frame,item:=λi s Q E b o f=>W.item i s Q E b o λv m g=>g.elim λk h=>f v m<|bq ((dR b).symm.trans h.1)▸h.2,done:=W.done,self:=W.self}
theorem Xh(W:Wd):l7 W.K a_ "__builtins__"=ae (ae<|.ref 4):=by kernel_rfl
theorem Xi(W:Wd):W.K.lookup 4=ae ⟨.type "module",ae 0,.plain,#[]⟩:=by kernel_rfl
section
theorem ahh.{u0,u1,u2,u3,u4,u5,u6,u7,u8}{s:Sort u0}{t:Sort u1}{u:Sort u2}{v:Sort u3}{w:Sort u4}{x:Sort u5}{y:Sort u6}{z:Sort u7}{A:Sort u8}{j k l m n o p q r:s->t->u->v->w->x->y->z->A->Prop}(a b c d e f g h i)(B:j a b c d e f g h i)(C:k a b c d e f g h i)(D:l a b c d e f g h i)(E:m a b c d e f g h i)(F:n a b c d e f g h i)(G:o a b c d e f g h i)(H:p a b c d e f g h i)(I:q a b c d e f g h i)(L:r a b c d e f g h i):∃a b c d e f g h i,j a b c d e f g h i/\k a b c d e f g h i/\l a b c d e f g h i/\m a b c d e f g h i/\n a b c d e f g h i/\o a b c d e f g h i/\p a b c d e f g h i/\q a b c d e f g h i/\r a b c d e f g h i:=⟨a,b,c,d,e,f,g,h,i,B,C,D,E,F,G,H,I,L⟩
theorem IF{ps:List Pr}{a7:gw}{F:Pr->aW->Prop} (ok:Ok A C.n)(I:Inv C.W G s)(S:St C Γ Ω G s)(m:(x,b)∈Ω)(hb:b.bare=.seq (.ref 403) d (ps.map wv))(mt:(P,li)∈Ω)(hc:C.env.code=.ref c)(b9:om C.W.K c P=aj) (d5:Ev C Γ Ω a7<|.val<|.ref x)(d4:B.isCoroutine=false)(b1:Fu B C.env=bB cl)(b0:∀y∈B.names,y.2≠.cell)(h0:B.names.lookup (".0":bC)=ae NameKind.local) (e7:B.names.lookup xa=ae .local)(e8:B.names.lookup xb=ae .local)(d3:xa≠xb)(b2:B.kind=.function)(hs:∀x,genFold a7 C.env x=bB x) (c0:∀(A':mP) E' (a6:aW) (Cf:cj) (p:Pr) (t u:Tok) (H:bk) a0,A'.handled=ah->p∈ps->H.heap.Ns Cf a0->a0 xa=ae (.str p.1 t)->a0 xb=ae (.str p.2 u)->(∀b o,C.W.h.get? b=ae o->H.heap.get? b=ae o)->aD C.W.M A' (eval d0<|genEnv B cl Cf a6 iy C.env) (λy s₃=>F p y/\Keeps H s₃) E' H) (hQ:∀(a Cf It g:Nat) (fp:List cj) (a8:Nat->bk->Prop) (N:bk),(∀b o,b≠P->s.heap.get? b=ae o->N.heap.get? b=ae o)->(∃c8,N.heap.get? P=ae ⟨.none,ah,.fields c8,#[]⟩/\zH c8.toList)->tP N.gens->N.os=s.os->s.heap.get? Cf=ah->s.heap.get? It=ah->ae7 PP C.W.w A.in4 a fp [Cf,It] (GenOnlyQ g) ps.length (λj y=>∃p,ps[j]?=ae p/\F p y) a8->(∀i s,a8 i s->s.TypeIs (.ref a) "generator")->a8 0 N->(∀b∈fp,b<N.heap.objs.size)->a∈fp->Q (.ref a) N):aD C.W.M A (eval (.GeneratorExp d0 [⟨.Tuple [.Name xa pa,.Name xb pb] kt pt,a7,[],0⟩] B pos) C.env) Q E s:=by
 refine wpAny_GeneratorExp_walksQT ok.hd d4 b1 b0 h0 e7 e8 d3 b2 ok.room ?_ hs;refine Run.use (d5 A G s ok I S) λv f a2 D a4 c5=>?_;cases c5
 have a3:=S.mono a4;refine gc (mL a3 m hb) λox b3 SA hd tv=>OA D.k SA ?_;haveI L:=D.g4 {cls:=.type "list_iterator",data:=.fields #[.ref x,.int 0 0]};have a5:=Ext.g4 a2 f {cls:=.type "list_iterator",data:=.fields #[.ref x,.int 0 0]};have b4:=a3.mono a5;refine⟨L.nolimit,?_⟩;refine gR (b4.own _ mt) λgP q0 _=>aU q0 λoP eP hP=>?_;obtain⟨f3,d8,e5⟩:aeq oP:=hP;subst d8;refine Ep hc (KH L.k b9 eP e5) (GR L.k b9 eP) λa6 h' tk hx b7=>?_;refine cc C.W.base.g λmg hg=>aU (id b7) λf1 c9 _=>?_;have R:Inv C.W a2 {f with heap:=h',toks:=tk}:=⟨λa o e=>hx a o (λq=>by rw[q,gP] at e;cases e)<|L.hM a o e,L.hb,L.bare,L.os⟩;haveI c1:=hg.keeps R.base;refine wpAny_builtinsFor (by rw[S.glob];exact c1) (ô R.k c1<|Xh C.W) (dD tt) (R.k _ _<|Xi C.W) rfl rfl rfl<|ix (OC D.hM tv) λzs z1 z2 z3=>?_;haveI Z:sa a2 f.heap b3 ps zs:=⟨z1,z2,z3⟩;have d1:=(a3.own _ mt).1;have c7:∀a o,a2 a=ae o->a≠P:=λa o e q=>nS<|d1.symm.trans<|q▸e;have e6:x≠P:=λe=>by haveI e4:=(a5.heap _ _ SA.at_).symm.trans<|(congrArg _ e).trans eP;haveI:=bq e4▸SA.cls;cases this
 haveI a1:∀a o,f.heap.get? a=ae o->a≠f.heap.objs.size:=λa o e=>bJ<|db e;have b6:f.heap.objs.size≠P:=λe=>(a3.own _ mt).2.1.elim λo e2=>a1 _ _ e2.1 e.symm;have l:=λa o ne e=>hx a o ne<|a5.heap a o e;have b5:=hx _ _ b6<|aS f.heap rfl;have c4:=l _ _ e6 SA.at_;have c2:∀a o,s.heap.get? a=ae o->h'.objs.size≠a:=λa o e q=>(ahY<|a=P).elim (λr=>bJ (db c9)<|r▸q.symm) λr=>bJ (db<|l _ _ r<|a4.heap _ _ e) q.symm;refine ahh f.heap.objs.size (f.heap.objs.size::x::zs.map (·.1)) [f.heap.objs.size] (zs.map (·.2)).length _ _ _ (λ_=>aj) (λi y=>∃p,ps[i]?=ae p/\F p y) rfl (λA' d2=>GG d2 (a1 _ _ SA.at_) (zs.map (·.1)) Z.mem λm=>(Z.gh _ m).elim λo e=>a1 _ _ (D.hM _ _ e) rfl) (λi f0 zz=>zz.elim λp e=>⟨_,_,e.2⟩) ⟨⟨_,b5,rfl,rfl⟩,Z.row (SA.dat.elim λn h=>⟨_,n,c4,h⟩) λT m o e=>l _ _ ((Z.gh _ m).elim λo=>c7 _ _) e⟩ (λy my=>?_) R.nolimit (λq=>?_) (λe9 hk=>?_) λa c6 f2 gs a9 c3 e0 hk Wk d9=>?_;.refine eQ my (db b5) λmy=>eQ my (db c4) λmy=>(Z.gh _ my).elim λo e=>db<|l _ _ (c7 _ _ e)<|D.hM _ _ e
 .exact D.nolimit.elim λ_ h=>bJ h.1.lt<|ao.mp q
 .refine⟨λA' E' i va vb H a0 _ _ _ _ _ _=>ag ⟨rfl,H.heap,H.toks,rfl,λ_ _ e=>e⟩,λA' E' i va vb H a0 hh b8 _ d7 e1 e2 d6=>?_⟩;refine aU b8 λp hp e=>?_;try clear b8
  rw[aq] at hp;refine aU (aT.mp hp) λz hz q1=>?_;subst q1;refine aU (Z.here i z hz) λq hq hP=>?_;cases e
  refine hP.a.elim λt e3=>hP.b.elim λu e4=>aC (c0 A' E' a6 _ q t u H a0 hh (aZ hq) d7 (by rw[e1,e3]) (by rw[e2,e4]) λy o e=>d6 y ?_ ?_ o<|hk y o<|R.base y o e) (λy s₃ zz=>⟨⟨q,hq,zz.1⟩,zz.2⟩) λ_ _ z=>z;.exact aR.mpr<|db<|R.base y o e
  .exact λmy=>a1 _ _ (D.base y o e)<|ao.mp my
 .refine hQ a h'.objs.size f.heap.objs.size f.gens.size (a::h'.objs.size::aL h'.objs.size) _ _ (λb o ne e=>hk _ _<|l _ _ ne<|a4.heap _ _ e) (b7.imp λ_ e=>⟨hk _ _ e.1,e.2⟩) (λy my=>(Array.mem_push.mp my).elim (D.bare _) λe=>e▸a9) (D.os.trans I.os.symm) ?_ ?_ (WalksS.Xg ((af _).trans z2) Wk) (λi s st=>st.1.typeIs) d9 (λy my=>?_)<|.head _;.exact Option.eq_none_iff_forall_ne_some.mpr λo e=>c2 _ o e rfl
  .exact Option.eq_none_iff_forall_ne_some.mpr λo e=>bJ (db<|a4.heap _ _ e) rfl
  .show y<c6.objs.size;rw[e0];exact eQ my (cb _) λmy=>eQ my (eY c3) λmy=>eY<|dI (aR.mp my) c3
end
section
theorem Sz{f:Nat->bk->Prop}(W:ae7 prog w A.in1 I m wr G n P f)(r:∀i s,f i s->s.TypeIs (.ref I) "generator")(k:f 0 s)(h:∀b∈m,b<s.heap.objs.size) (d:∀i v,P i v->∃t,v=.int (val i) t)(c:∀j,j<n->InLong (val j)/\InLong (TO val<|j+1)) (q:∀S s' t',s.heap.get? S=ah->Moved (S::wr) G s s'->Q (.int (TO val n) t') s'):aD (dL prog w) A (call (.builtin "sum") [.ref I,.int 0 t]) Q E s:=by refine call_function_tree F.kind_sum F.plain_sum F.entry_sum (by unfold jV;kernel_rfl) ?_;unfold dF.«sum»;refine bI rfl<|aa<|bP (show Q' "sum" ["start"] 0 ⟨[.int 0 t],[]⟩=bB [ae<|.int 0 t] from rfl) ?_;refine aa<|W.self 0 s _ _ k ?_;refine dw rfl<|aa<|iB<|aa<|ě<|aa<|ag ?_;refine aa<|jK<|aa<|aa<|eW (FE _ _ _) PySem.sub_int_str<|bI rfl<|ag ?_;refine jK<|aa<|aa<|eW (FE _ _ _) PySem.sub_int_bytes<|bI rfl<|ag ?_;refine jK<|aa<|aa<|eW (FE _ _ _) PySem.sub_int_bytearray<|bI rfl<|ag ?_;refine A2<|aa<|dH ?_;have g:=λa=>f5 _<|h _ a;have l:∀b o,s.heap.get? b=ae o->(s.heap.push {cls:=.type "list",data:=.seq #[.int 0 s.toks]}).get? b=ae o:=λb o=>aN _;refine ag ⟨iE F.plain_sum_loop _,codeAny_sum_loopS W val d c s.heap.objs.size g n 0 {s with heap:=s.heap.push {cls:=.type "list",data:=.seq #[.int 0 s.toks]},toks:=s.toks+1} s.toks 0 rfl (au _) (W.frame _ _ _ _ k (cB _) λb _ o=>l b o) (aS _ rfl) λs' t' a=>?_⟩;refine q _ s' t' (aV<|al _) ⟨λb o p e=>a.heap b o p<|l b o e,a.gens,a.drawn,a.os,ab (cB _) a.toks⟩
end
theorem SD{W:Wd}(p:env.scope.kind=.function)(t:env.kindOf x=ae .globalImplicit)(n:env.globals=a_)(l:env.builtins=iy)(a:∀b o,W.h.get? b=ae o->s.heap.get? b=ae o) (e:l7 W.K a_ x=ae ce)(r:cN x=ae v)(q:x≠"__name__")(h:Q v s)(m:autoParam ((x==bo "__debug__")=false) Rv):aD W.M A (eval (.Name x pos) env) Q E s:=by refine cc W.base.g λw j=>aU W.base.b λu f i=>?_;haveI c:=j.keeps a;haveI d:=f.keeps a;haveI y:=W.base.k.keeps a;exact iz (ln p t<|wa (n▸c) (TN y c e) (l▸d) (by rw[i x q];exact r) h) m
theorem OD{W:Wd}(j:env.scope.kind=.function)(l:env.kindOf x=ae .globalImplicit)(i:env.globals=a_)(a:∀b o,W.h.get? b=ae o->s.heap.get? b=ae o) (e:l7 W.K a_ x=ae (ae v))(h:Q v s)(f:autoParam ((x==bo "__debug__")=false) Rv):aD W.M A (eval (.Name x pos) env) Q E s:=by refine cc W.base.g λm d=>?_;haveI c:=d.keeps a;haveI n:=W.base.k.keeps a;exact iz (ln j l<|VE (i▸c) (ô n c e) h) f
theorem IG{W:Wd}(d:env.scope.kind=.function)(q:env.kindOf x=ae .local)(n:env.kindOf "len"=ae .globalImplicit)(l:env.globals=a_)(g:env.builtins=iy)(a:∀b o,W.h.get? b=ae o->s.heap.get? b=ae o) (c:s.heap.Ns env.locals m)(p:m x=ae (.str z t))(hz:z.length<=1000)(h:∀t r,Q (.int z.length t) {s with toks:=r})(i:(x==("__debug__":bC))=false) (j:autoParam (eval (.Call (.Name "len" e) [.Name x f] [] pos) env=(do bS pos (<-eval (.Name "len" e) env) [] (bb pos<|aw [.Name x f] env) (bK pos<|aX [] env))) iF):aD W.M A (eval (.Call (.Name "len" e) [.Name x f] [] pos) env) Q E s:=by refine qw (SD d n l g a (by kernel_rfl) (v:=.builtin "len") (by kernel_rfl) (by decide+kernel) ?_) j;haveI u:=W.base.k.keeps a;refine gG (.builtin _) u ?_ rfl;refine f'<|iz (fG d q c p<|cE ⟨u,?_⟩) i;exact ā (Œ hz)<|h _ _
noncomputable def zj(p:Pr):Nat:=p.1.length+p.2.length
noncomputable def kq(ps:List Pr):Nat:=(ps.map zj).sum
theorem Ah(ps:List Pr):∀j,j<=ps.length->TO (λi=>(zj<|ps.getD i ("",""):Nat)) j=(kq<|ps.take j):=by intro j;induction j with|zero=>intro _;rfl|succ j a=>intro h;rw[TO,a<|aF h,cA];unfold kq;rw[ay<|zQ h,aJ,gp,ak,ay<|zQ h];rfl
theorem Er(ps)(h:∀p∈ps,zj p<=2000):kq ps<=ps.length*2000:=by induction ps with|nil=>exact al _|cons p ps a=>haveI:=h p<|.head _;haveI:=a λq m=>h q<|.tail _ m;unfold kq at*;skip;exact œ (by assumption) this
noncomputable abbrev aer:FuncData:=jG (g8 PP 10 4) "_Accumulator.__len__" [] .none .none .none (.str "cpy313.email.header" 583) ah (.ref 369) .none
theorem SE(W):gH W 370 aer (dA<|g8 PP 10 4) ["self"]:=.plain
noncomputable abbrev qg(x d:cj)(ps:List Pr):bM:=(365,li)::g9 x d ps
theorem OE:∀p∈qg x d ps,p.2.gT=false:=λp m=>by
 refine eQ m ?_ λm=>?_;.rfl
 .exact nQ p m
theorem Es(hz:ps.length<=900)(hp:∀p∈ps,p.1.length<=1000/\p.2.length<=1000):cu W (.ref 370) [.val<|.ref x] 2 (qg x d ps) λt b4=>t=.int (kq ps:Nat)/\b4=qg x d ps:=by
 refine cu.of (SE W) ["self"] [] [("self",ae (.val<|.ref x))] (λb9 hl=>?_) rfl (λL I _=>?_) λt c3 h=>by refine bu h λ_ q0=>?_;try clear h;subst q0;exact OE
 .refine vJ hl λa=>?_;kernel_rfl
 refine .Wy (λA G s ok R S=>?_) λt b5 h=>.inl ⟨t,rfl,h⟩;refine qw (Run.use ((show Ev _ _ _ _ _ from .builtin (xd W) xe xf) A G s ok R S) λv z B c H a4=>?_)<|by rfl
 cases a4
 haveI l:=S.mono H;refine gG (.builtin _) c.k ?_ rfl;refine f' ?_<|by rfl
 refine IF (cl:=[]) (F:=λp y=>∃t,y=.int (zj p:Nat) t) ok c l (.tail _<|.head _) rfl (.head _) (by rfl) (by kernel_rfl) (.g 0) (by kernel_rfl) (by kernel_rfl) (by decide+kernel) (by kernel_rfl) (by kernel_rfl) (by kernel_rfl) (by decide+kernel) (by kernel_rfl) (λ_=>by rfl) (λA' E' b6 Cf p t u b8 b7 hh mp a1 e1 e2 M=>?_) λa Cf It g fp c0 f k5 a6 C a5 fC fI Wk hT h0 a7 ha=>?_
 ·(haveI b1:=(hp p mp).1;haveI b2:=(hp p mp).2);refine ÿ<|IG (by kernel_rfl) (by kernel_rfl) (by kernel_rfl) rfl rfl M a1 e1 b1 (λt1 c1=>?_)<|by decide+kernel
  refine IG (by kernel_rfl) (by kernel_rfl) (by kernel_rfl) rfl rfl M a1 e2 b2 (λt2 c2=>?_)<|by decide+kernel
  refine PySem.P.add_int<|⟨⟨_,rfl⟩,_,_,rfl,λ_ _ e=>e⟩
 .refine gR (l.own _<|qz _) λg3 q1 _=>?_;refine aU q1 λo3 e3 _=>?_;haveI E:Inv W B f:=⟨λa o e=>k5 a o (λq=>by rw[q,g3] at e;cases e)<|c.hM a o e,c.hb,C,a5.trans c.os⟩;have D:∃o,f.heap.get? 365=ae o/\li.holds B o:=by refine aU a6 λb3 e t=>?_;exact⟨_,e,b3,rfl,t⟩
  have r:=l.dU (.here:eL (qg x d ps) 365 li li<|qg x d ps) rfl rfl k5 D;refine f' (me ?_<|by rfl)<|by rfl
  refine aU (r.vars _ _<|qz _) λv hv ht=>?_;cases ht
  refine iz (wX r hv ?_)<|by decide
  refine yZ (kN r (.tail _<|.tail _<|.head _) rfl) λod es n d1 d2 d3 d4 d5=>?_;refine gc (mL r (.tail _<|.head _) rfl) λox b0 SA hd tv=>?_;refine aU ((km d4 d5 "_initial_size").1 (.int 0)<|by rfl) λw hw a9=>?_;cases a9
  have a8:rt ox=true:=by
   refine cc SA.dat λn q=>?_;unfold rt;rw[q]
  refine xP E.k (InstAt.ofTree SA.at_ SA.cls a8 hd d1) (QF (aem W) (by kernel_rfl:mU W.K (.ref 403) "_initial_size"=ae ah) rfl hw) rfl<|cE ⟨E.k,?_⟩;haveI a2:∀p∈ps,zj p<=2000:=λp m=>by haveI:=hp p m;unfold zj;exact(c_ this.1 this.2)
  have a0:∀j,zj (ps.getD j ("",""))<=2000:=λj=>by rw[ak];cases e:ps[j]?with|none=>exact au _|some p=>exact a2 p<|aZ e
  have a3:∀j,j<=ps.length->kq (ps.take j)<=1800000:=λj hj=>by
   haveI h1:=Er (ps.take j) λp m=>a2 p<|f8 m;rw[bh] at h1;haveI:min j ps.length*2000<=900*2000:=cw _<|Ŕ hz;exact(ab h1<|ab this<|ap rfl)
  refine Sz (val:=λi=>((zj<|ps.getD i ("",""):Nat):Int)) Wk.in4_1 hT (Wk.frame 0 f f.heap (f.toks+1) h0 (cB _) λ_ _ _ e=>e) a7 (λi v z=>aU z λp h1 y=>cc y λt h2=>⟨t,by rw[h2,ak,h1];rfl⟩) (λj hj=>?_) λSa s' t' fS hm=>?_
  .rw[Ah ps (j+1)<|ki hj];haveI:=a0 j;haveI:=a3 (j+1)<|ki hj;skip;exact Ŗ (by assumption) this
  .rw[Ah ps ps.length<|al _,dn];haveI nS:∀b o,f.heap.get? b=ae o->b≠Sa:=λb o e q=>by rw[q] at e;rw[e] at fS;cases fS
   haveI nC:∀b o,z.heap.get? b=ae o->b≠Cf:=λb o e q=>by rw[q] at e;rw[e] at fC;cases fC
   haveI nI:∀b o,z.heap.get? b=ae o->b≠It:=λb o e q=>by rw[q] at e;rw[e] at fI;cases fI
   haveI N:∀b o o1,z.heap.get? b=ae o1->f.heap.get? b=ae o->s'.heap.get? b=ae o:=λb o o1 e1 e=>hm.heap b o (λQ=>by
    refine dy (bf.mp Q) (λq=>?_) λQ=>?_;.exact nS b o e q
    .refine dy (bf.mp Q) (λq=>?_) λQ=>?_;.exact nC b o1 e1 q
     .rw[ao] at Q;exact nI b o1 e1 Q) e;have kF:∀b o,b≠365->z.heap.get? b=ae o->s'.heap.get? b=ae o:=λb o ne e=>N b o o e<|k5 b o ne e;refine aU D λo5 e5 h5=>?_;refine⟨B,_,_,⟨rfl,rfl⟩,⟨λa o e=>kF a o (λq=>by rw[q,g3] at e;cases e)<|c.hM a o e,c.hb,λy my=>?_,hm.os.trans<|a5.trans c.os⟩,l.dU (.here:eL (qg x d ps) 365 li li<|qg x d ps) rfl rfl kF ⟨o5,N _ _ _ e3 e5,h5⟩,H.sub,.int _ _⟩;exact LR hm.gens C y my
noncomputable def Et(p:Pr):Str:=uP "" [p.1,p.2]
noncomputable def hF(ps:List Pr):Str:=uP ""<|ps.map Et
theorem Eu(W:Wd):l7 W.K a_ "EMPTYSTRING"=ae (ae<|.str "" 587):=by kernel_rfl
theorem OF{W:Wd}(p:env.scope.kind=.function)(v:env.kindOf i=ae .local)(w:env.kindOf j=ae .local)(I:env.kindOf "EMPTYSTRING"=ae .globalImplicit)(H:env.globals=a_)(c:∀b o,W.h.get? b=ae o->s.heap.get? b=ae o) (g:s.heap.Ns env.locals m)(r:m i=ae (.str z P))(u:m j=ae (.str B R))(hz:z.length<=1000/\B.length<=1000)(h:∀t s',Keeps s s'->Q (.str (uP "" [z,B]) t) s')(l:(i==("__debug__":bC))=false)(n:(j==("__debug__":bC))=false) (G:autoParam (dG (.Name "EMPTYSTRING" y) "join" env (eval (.Name "EMPTYSTRING" y) env)=eval (.Name "EMPTYSTRING" y) env) iF) (f:autoParam (((bb pos<|aw [.Tuple [.Name i C,.Name j D] k tp] env).all (λx=>!x.1)&&(bK pos<|aX [] env).all (λx=>x.1.isSome)&&decide ([Expr.Tuple [.Name i C,.Name j D] k tp].length+([]:List ij).length+(if([]:List ij).isEmpty then 0 else 1)<30))=aj) iF) (d:autoParam ((e.endLine==pos.line)=aj) iF):aD W.M A (eval (.Call (.Attribute (.Name "EMPTYSTRING" y) "join" e) [.Tuple [.Name i C,.Name j D] k tp] [] pos) env) Q E s:=by
 haveI S:=W.base.k.keeps c;refine fc G f d cQ fN gF<|OD p I H c (Eu W)<|⟨wi _ _ _,λa q=>(by cases q),gG (.builtin _) S ?_ rfl⟩;refine f'<|AM<|f'<|iz (fG p v g r<|f'<|iz (fG p w g u<|cE ⟨dN tt,cE ⟨S.keeps λb o=>aN _,?_⟩⟩) n) l;refine join_tuple ⟨_,aS _ rfl,rfl,_,rfl⟩ (.cons _ _<|.cons _ _ .nil) ?_ λN L=>h _ _<|rP _ _ rfl λb o=>aN _;show(z.length+(B.length+0))+2*0<=16777216;exact ŗ hz
noncomputable abbrev aes:FuncData:=jG (g8 PP 10 5) "_Accumulator.__str__" [] .none .none .none (.str "cpy313.email.header" 583) ah (.ref 376) .none
theorem SF(W):gH W 377 aes (dA<|g8 PP 10 5) ["self"]:=.plain
noncomputable abbrev xX(x d:cj)(ps:List Pr):bM:=(372,li)::g9 x d ps
theorem OG:∀p∈xX x d ps,p.2.gT=false:=λp m=>by
 refine eQ m ?_ λm=>?_;.rfl
 .exact nQ p m
theorem OH(p):(Et p).length<=zj p:=by skip;haveI:=StrLaws.join_length_le "" [p.1,p.2];refine ab this ?_;skip;exact Ř
theorem KI(ps:List Pr)(a:∀p∈ps,p.1.length<=1000/\p.2.length<=1000):((ps.map Et).map (·.length)).sum<=ps.length*2000:=by induction ps with|nil=>exact al _|cons p ps d=>haveI b:=OH p;haveI c:=a p<|.head _;haveI:=d λq m=>a q<|.tail _ m;skip;skip;exact ř b c this
theorem Ew(hz:ps.length<=900)(hp:∀p∈ps,p.1.length<=1000/\p.2.length<=1000):cu W (.ref 377) [.val<|.ref x] 2 (xX x d ps) λt a7=>t=.str (hF ps)/\a7=xX x d ps:=by
 refine cu.of (SF W) ["self"] [] [("self",ae (.val<|.ref x))] (λb2 hl=>?_) rfl (λL I _=>?_) λt b4 h=>by refine bu h λ_ q0=>?_;try clear h;subst q0;exact OG
 .refine vJ hl λa=>?_;kernel_rfl
 refine .Wy (λA G s ok E S=>?_) λt a8 h=>.inl ⟨t,rfl,h⟩;refine fc (by rfl) rfl rfl cQ fN gF<|Run.use ((show Ev _ _ _ _ _ from .glob (Eu W) (by kernel_rfl)) A G s ok E S) λv z f c r P=>?_;cases P
 haveI m:=S.mono r;refine⟨wi _ _ _,λa q=>(by cases q),gG (.builtin _) c.k ?_ rfl⟩;refine f' ?_ rfl;refine IF (cl:=[]) (F:=λp y=>∃t,y=.str (Et p) t) ok c m (.tail _<|.head _) rfl (.head _) (by rfl) (by kernel_rfl) (.g 0) (by kernel_rfl) (by kernel_rfl) (by decide+kernel) (by kernel_rfl) (by kernel_rfl) (by kernel_rfl) (by decide+kernel) (by kernel_rfl) (λ_=>by rfl) (λA' E' a9 Cf p t u b1 b0 hh mp a2 D e2 M=>?_) λa Cf It g fp b3 B k5 R n Q fC fI Wk hT h0 a0 ha=>?_;.exact OF (W:=W) (by kernel_rfl) (by kernel_rfl) (by kernel_rfl) (by kernel_rfl) rfl M a2 D e2 (hp p mp) (λt s' k=>⟨⟨t,rfl⟩,k⟩) (by decide+kernel)<|by decide+kernel
 .refine gR (m.own _<|qz _) λg3 q1 _=>?_;refine aU q1 λo3 e3 _=>?_;haveI H:Inv W f B:=⟨λa o e=>k5 a o (λq=>by rw[q,g3] at e;cases e)<|c.hM a o e,c.hb,n,Q.trans c.os⟩;haveI C:∃o,B.heap.get? 372=ae o/\li.holds f o:=by refine aU R λa6 e t=>?_;exact⟨_,e,a6,rfl,t⟩
  refine cE ⟨H.k,?_⟩;refine ah9 Wk.in4_2 hT h0 a0 ha (λi v z=>aU z λp h1 y=>cc y λt h2=>CN _ t h2) (λs' l hm N=>?_)<|by unfold aA;exact(ab hz<|ap rfl)
  haveI a1:l.map (·.1)=ps.map Et:=by
   haveI a5:l.length=ps.length:=by haveI:=N.1;rw[gi] at this;rw[<-this];unfold tW;rw[af]
   apply tU;intro j;rw[aq,aq];cases e:l[j]?with
   |none=>
    rw[jB] at e;rw[jB.mpr<|ś a5 e];rfl|some q=>
    haveI:=N.2 j (.str q.1 q.2)<|by
     rw[<-bN];skip;unfold tW;rw[aq,e];rfl
    refine cc this λp q2=>?_;refine bu q2 λa3 q3=>?_;refine cc q3 λt a4=>?_;rw[a3];injection a4 with D e2;show ae q.1=ae (Et p);rw[D]
  rw[a1];refine⟨joinOk_of ?_,λt' tk=>?_⟩
  .haveI:=KI ps hp;skip;exact(ab this<|ab (cw 2000 hz)<|by decide)
  .haveI nC:∀b o,z.heap.get? b=ae o->b≠Cf:=λb o e q=>by rw[q] at e;rw[e] at fC;cases fC
   haveI nI:∀b o,z.heap.get? b=ae o->b≠It:=λb o e q=>by rw[q] at e;rw[e] at fI;cases fI
   haveI w:=λb o o1 D e=>hm.heap b o (λmb=>by
    refine dy (bf.mp mb) (λq=>?_) λmb=>?_;.exact nC b o1 D q
    .rw[ao] at mb;exact nI b o1 D mb) e;have kF:=λb o ne e=>w b o o e<|k5 b o ne e;refine aU C λo5 e5 h5=>?_;refine⟨f,_,_,⟨rfl,rfl⟩,⟨λa o e=>kF a o (λq=>by rw[q,g3] at e;cases e)<|c.hM a o e,c.hb,λy my=>?_,hm.os.trans<|Q.trans c.os⟩,m.dU (.here:eL (xX x d ps) 372 li li<|xX x d ps) rfl rfl kF ⟨o5,w _ _ _ e3 e5,h5⟩,r.sub,.str _ _⟩;exact LR hm.gens n y my
end
section
open PySem.Builtin.Str renaming strOf->qA
open PySem.SC renaming isspace->aia
open PySem PySem.W PySem.Calls PyProof.Rows PySem.SeqAt Builtin Builtin.Str
section
theorem Ok.in1(a:Ok A<|n+1):Ok A.in1 n:=⟨a.hd,by haveI:=a.depth;show A.depth+n<=900;exact(aF this),by haveI:=a.units;show A.units+1+50*n<=9000;exact Ş this⟩
theorem xY(b:Ω.Perm<|Δ++bT)(g:∀p∈Δ,p.2.gT=false)(k:cu C.W f ts n Δ l)(w:Ok A n)(I:Inv C.W G s)(S:St C B Ω G s)(u:aG G j ts):aD C.W.M A (call f j) (XEnd C B G λt c=>∃a,l t a/\c=a++bT) (λ_ _=>False) s:=by haveI h:=S.perm b;refine aC (oO (α:=Unit)<|k A G s j w I u h.owns) (λv i y=>y.casesOn λd t a q e x o m r=>?_) λ_ _ z=>z;exact⟨d,t,a++bT,⟨a,q,rfl⟩,e,h.uf x o m g,x.sub,r⟩
theorem XEnd.trans(B:Sub G i)(h:XEnd C j i Q v s):XEnd C j G Q v s:=by obtain⟨f,t,g,a,b,c,d,e⟩:=h;exact⟨f,t,g,a,b,c,B.trans d,e⟩
theorem Ex(hz:ps.length<=900)(j:∀p∈ps,p.1.length<=1000/\p.2.length<=1000)(a:Ω.Perm<|qg x d ps++bT)(E:Ok A 2)(I:Inv C.W G s)(S:St C L Ω G s)(m:(x,Ob.seq (.ref 403) (ae d) (ps.map wv))∈Ω) (y:∀f s' t,Inv C.W f s'->St C L (qg x d ps++bT) f s'->Sub G f->Q (.done<|.ret<|.int (kq ps:Nat) t) s'):aD C.W.M A (dF.«len» ⟨[.ref x],[]⟩) Q (λ_ _=>False) s:=by
 refine gc (mL S m rfl) λR h n P tv=>?_;haveI F:=n.sp (M:=C.W.M) (name:="__len__") (r:=ae<|.ref 370) I.k<|by kernel_rfl
 haveI g:cU C.W.M s.heap (AR (.ref 370)<|.ref x) (.ref 370,[.ref x]):=VG I.k _<|by kernel_rfl
 skip;refine aa<|ag ?_;dsimp only;skip;refine aa<|aa<|F.here ?_;skip;refine aQ<|aa<|g.here ?_;skip;refine aa<|aC (xY a OE (Es hz j) E I S<|.cons (.val _) .nil) (λv l H=>?_) λ_ _ z=>z.elim;obtain⟨b,t,i,⟨N,⟨o,q⟩,u⟩,c,e,B,D⟩:=H;subst o;subst q;subst u;cases D
 refine ag ?_;dsimp only;refine aa<|aQ<|ag ?_;refine aa<|tM ?_;have w:=ab (Er ps λp m=>by haveI:=j p m;unfold zj;exact(c_ this.1 this.2))<|cw _ hz;rw[if_neg ş,if_neg<|Š w];exact aa<|ě<|ag<|y b _ _ (c.bL rfl rfl rfl) (e.mono<|.bL rfl) B
theorem jb.ahi(N:Ev C E Ω f<|.val<|.builtin "len")(Q:Ev C E Ω o<|.val<|.ref x)(hz:ps.length<=900)(R:∀p∈ps,p.1.length<=1000/\p.2.length<=1000)(b:Ω.Perm<|qg x d ps++bT)(P:3<=C.n) (w:autoParam (∀env,aw [o] env=(false,eval o env)::aw [] env) eX) (u:autoParam (∀env,(bb pos<|aw [o] env).any (·.1)=false) eX) (M:autoParam (∀env,eval (.Call f [o] [] pos) env=(do bS pos (<-eval f env) [] (bb pos<|aw [o] env) (bK pos<|aX [] env))) eX):jb C E Ω (.Call f [o] [] pos) λt h=>t=.int (kq ps)/\h=qg x d ps++bT:=λA G s y I S=>by
 refine qw ?_<|M _;refine Run.use (N A G s y I S) λv q i c a j=>?_;cases j
 refine gG (.builtin _) c.k ?_<|u _;refine Run.use ((oD.cons Q .nil w) A i q pos y c<|S.mono a) λvs D z e g l=>⟨e.k,?_⟩;cases l using aG.ca with|cons W r=>
  cases r
  cases W
  have m:=b.symm.subset<|.tail _<|.head _;refine yT kind_len plain_len Yn (args_len1 _)<|Ex hz R b (y.le P).in1 e ((S.mono a).mono g) m λF s' t H L B=>⟨_,rfl,F,_,_,⟨rfl,rfl⟩,H,L,(Sub.trans a.sub g.sub).trans B,.int _ _⟩
inductive ahj(C Γ G)(P:Bool->bM->Prop)(b s'):Prop|mk (G') (bT) (p:P b bT) (i:Inv C.W G' s') (st:St C Γ bT G' s') (b:Sub G G')
noncomputable def uw(C:Cx)(a:cG)(Ω:bM)(e:gw)(P:Bool->bM->Prop):Prop:=∀A G s,Ok A C.n->Inv C.W G s->St C a Ω G s->aD C.W.M A (isTrue e C.env<|eval e C.env) (ahj C a G P) (λ_ _=>False) s
theorem bZ.OI(h:uw C n Ω l Q)(k:∀b a,Q b a->if b then bZ C n a j (ry C rest P) else bZ C n a d (ry C rest P)):bZ C n Ω (.If l j d pos::rest) P:=.block λA G s m I S=>by refine Fx<|aC (h A G s m I S) (λc i o=>o.casesOn λe a q f g B=>?_) λ_ _ z=>z;haveI:=k c a q;cases c with|true=>exact Ends.lift B<|this A e i m f g|false=>exact Ends.lift B<|this A e i m f g
theorem uw.gt(h:jb C L Ω l λt d=>t=.int a/\d=bT)(k:Ev C L bT r<|.int b)(P:autoParam (iA .Gt r=false) iF):uw C L Ω (.Compare l [.Gt] [r] pos) λc d=>c=decide (b<a)/\d=bT:=λA G s F I S=>by refine eg (aC (h A G s F I S) (λv D Q=>?_) λ_ _ z=>z) P;obtain⟨i,t,d,⟨M,N⟩,n,f,B,q⟩:=Q;subst M;subst N;refine Run.use (k A i D F n f) λu E j o e w=>?_;refine Run.use (fe.uU C.W A j E v u (F.le<|au _) o (q.mono e.sub) w) λx H m p g y=>?_;subst y;exact cm ⟨m,_,⟨rfl,rfl⟩,p,(f.mono e).mono g,(B.trans e.sub).trans g.sub⟩
theorem uw.call(h:jb C p Ω e λt a=>t=.bool b/\a=bT)(m:autoParam (∀env,isTrue e env (eval e env)=(do let v<-eval e env;fy e.pos;gy [v] (Ly v))) eX):uw C p Ω e λc a=>c=b/\a=bT:=λA G s n I S=>by
 refine v9 (aC (h A G s n I S) (λv j o=>?_) λ_ _ z=>z)<|m _;obtain⟨d,t,a,⟨k,l⟩,f,g,B,i⟩:=o;subst k;subst l;cases i
 exact cm ⟨d,_,⟨rfl,rfl⟩,f,g,B⟩
theorem uw.vL(h:uw C m Ω e λc a=>c=false/\a=bT):uw C m Ω (.BoolOp .And (e::n) pos) λc a=>c=false/\a=bT:=λA G s k I S=>by refine uK<|Lz<|aC (h A G s k I S) (λv g l=>?_) λ_ _ z=>z;obtain⟨b,a,⟨i,j⟩,d,f,B⟩:=l;subst i;subst j;exact⟨b,_,⟨rfl,rfl⟩,d,f,B⟩
end
section
theorem SG(hz:ps.length<=900)(h:∀p∈ps,p.1.length<=1000/\p.2.length<=1000)(a:Ω.Perm<|qg x d ps++bT)(j:Ok A 3)(I:Inv C.W G s)(S:St C o Ω G s) (i:∀b s',Inv C.W b s'->St C o (qg x d ps++bT) b s'->Sub G b->Q (((kq ps:Nat):Int) !=0) s'):aD C.W.M A (Ly<|.ref x) Q (λ_ _=>False) s:=by
 have m:=a.symm.subset<|.tail _<|.head _;refine gc (mL S m rfl) λu c e q v=>?_;haveI l:=e.sp (M:=C.W.M) (name:="__bool__") (r:=ah) I.k<|by kernel_rfl
 haveI n:=e.sp (M:=C.W.M) (name:="__len__") (r:=ae<|.ref 370) I.k<|by kernel_rfl
 unfold Ly LK;skip;refine aa<|aa<|l.here<|ag ?_;skip;refine aa<|n.here ?_;skip;refine aa<|wpAny_runValue<|h9 Yn ?_;skip;refine Ex hz h a j.in1 I S m λb s' t f g B=>ag<|i b s' f g B
theorem jb.ahk(q:Ev C u Ω e<|.val<|.ref x)(hz:ps.length<=900)(r:∀p∈ps,p.1.length<=1000/\p.2.length<=1000)(b:Ω.Perm<|qg x d ps++bT)(o:3<=C.n):jb C u Ω (.UnaryOp .Not e pos) λt c=>t=.bool (!(((kq ps:Nat):Int) !=0))/\c=qg x d ps++bT:=λA G s i I S=>by
 refine afa<|Run.use (q A G s i I S) λv j h f a g=>?_;cases g
 refine not_of<|SG hz r b (i.le o) f (S.mono a) λk w l m B=>?_;exact⟨k,_,_,⟨rfl,rfl⟩,l,m,Sub.trans a.sub B,.bool _⟩
theorem OJ(hz:ps.length<=900)(L:∀p∈ps,p.1.length<=1000/\p.2.length<=1000)(a:Ω.Perm<|xX x d ps++bT)(q:Ok A 4)(I:Inv C.W G s)(S:St C Γ Ω G s) (N:∀i s' t,Inv C.W i s'->St C Γ (xX x d ps++bT) i s'->Sub G i->Q (.str (hF ps) t) s'):aD C.W.M A (call (.type "str") [.ref x]) Q (λ_ _=>False) s:=by
 haveI m:=a.symm.subset<|.tail _<|.head _;refine gc (mL S m rfl) λox l w hd tv=>?_;haveI sp:=w.sp (M:=C.W.M) (name:="__str__") (r:=ae<|.ref 377) I.k<|by kernel_rfl
 haveI j:cU C.W.M s.heap (AR (.ref 377)<|.ref x) (.ref 377,[.ref x]):=VG I.k _<|by kernel_rfl
 refine callType_newIn (S:=λA R s=>aD C.W.M A.in1 (qA<|.ref x) (λr s'=>R (.ok<|.ret r) s') (λe s'=>R (.error e) s') s) PySem.F.called_str (dD tt) (PySem.F.typeCall_str_1 _) (PySem.F.newCall_str_1 _) (λn=>PySem.F.args_object_init_2 n _) PySem.F.entry_str_new (.of_wp λA R s h=>?_) ?_
 .rw[str_new_tree];refine aa<|ag ?_;refine aa<|bP isSubtype_str_str ?_;exact aa<|aC h (λr s' H=>ag ⟨_,rfl,H⟩) λ_ _ e=>e
 .haveI g:=q.in1.in1;show aD C.W.M A.in1.in1 (qA<|.ref x) _ _ s;rw[show isExactStr (.ref x)=false from rfl];unfold qA;skip;refine aa<|ae1 g.cl ?_;skip;refine aa<|aa<|sp.here ?_;skip;refine aQ<|aa<|j.here ?_;skip;refine aa<|aC (xY a OG (Ew hz L) g I S<|.cons (.val _) .nil) (λv u zq=>?_) λ_ _ z=>z.elim;obtain⟨b,t,o,⟨a0,⟨y,D⟩,E⟩,c,f,B,P⟩:=zq;subst y;subst D;subst E;cases P
  refine ag ?_;skip;exact aa<|ag<|ag ⟨wi _ _ _,N b _ _ c f B⟩
theorem jb.aet(M:Ev C D Ω f<|.val<|.type "str")(P:Ev C D Ω o<|.val<|.ref x)(hz:ps.length<=900)(Q:∀p∈ps,p.1.length<=1000/\p.2.length<=1000)(g:Ω.Perm<|xX x d ps++bT)(N:4<=C.n) (u:autoParam (∀env,aw [o] env=(false,eval o env)::aw [] env) eX) (q:autoParam (∀env,(bb pos<|aw [o] env).any (·.1)=false) eX) (L:autoParam (∀env,eval (.Call f [o] [] pos) env=(do bS pos (<-eval f env) [] (bb pos<|aw [o] env) (bK pos<|aX [] env))) eX):jb C D Ω (.Call f [o] [] pos) λt h=>t=.str (hF ps)/\h=xX x d ps++bT:=λA G s w I S=>by
 refine qw ?_<|L _;refine Run.use (M A G s w I S) λv m i b a j=>?_;cases j
 refine gG (.type _) b.k ?_<|q _;refine Run.use ((oD.cons P .nil u) A i m pos w b<|S.mono a) λvs z y c e l=>⟨c.k,?_⟩;cases l using aG.ca with|cons R r=>
  cases r
  cases R
  exact OJ hz Q g (w.le N) c ((S.mono a).mono e) λE W t F H B=>⟨E,_,_,⟨rfl,rfl⟩,F,H,(Sub.trans a.sub e.sub).trans B,.str _ _⟩
theorem jb.OK{id:String}(P:jb C R Ω o λt c=>t=.str a/\c=bT)(w:yC "str" name id)(y:fA (.builtin id)=bB (.type "method_descriptor"))(k:cf (.builtin id) [.str a] n r)(N:n<=C.n) (M:autoParam (∀env,dG o name env (eval o env)=eval o env) eX) (g:autoParam ((p.endLine==pos.line)=aj) iF):jb C R Ω (.Call (.Attribute o name p) [] [] pos) λt c=>t=r/\c=bT:=λA G s D I S=>by
 refine fc (M _) rfl g cQ w y<|aC (P A G s D I S) (λv x Q=>?_) λ_ _ z=>z;obtain⟨i,t,c,⟨H,L⟩,d,m,B,f⟩:=Q;subst H;subst L;haveI h:=f;cases f
 refine⟨wi _ _ _,λb q=>(by cases q),gG (.builtin _) d.k (cE ⟨d.k,?_⟩) rfl⟩;exact Run.use (k C.W A i x _ (D.le N) d<|.cons h .nil) λv E j l e u=>⟨j,_,_,⟨rfl,rfl⟩,l,m.mono e,B.trans e.sub,u⟩
theorem jb.aeu(h:Ev C j Ω a<|.bool aj)(k:jb C j Ω b Q):jb C j Ω (.BoolOp .And [a,b] pos) Q:=λA G s i I S=>by
 refine wpAny_And2<|Run.use (h A G s i I S) λv g d e c f=>?_;cases f
 refine cm<|aC (k A d g i e<|S.mono c) (λv l z=>z.trans c.sub) λ_ _ z=>z
theorem jb.ahl(h:jb C l Ω a λt c=>t=.bool false/\c=bT)(k:jb C l bT b Q):jb C l Ω (.BoolOp .Or [a,b] pos) Q:=λA G s j I S=>by
 refine wpAny_Or2<|aC (h A G s j I S) (λv i o=>?_) λ_ _ z=>z;obtain⟨d,t,c,⟨m,n⟩,e,f,B,g⟩:=o;subst m;subst n;cases g
 refine cm<|aC (k A d i j e f) (λv p z=>z.trans B) λ_ _ z=>z
theorem cf.isspace:cf (.builtin "str.isspace") [.str a] 0<|.bool<|eZ a:=λW A G s c b I h=>by
 cases h using aG.ca with|cons h r=>
  cases r;cases h
  exact aia ⟨G,I,.refl G s,.bool _⟩
end
end
section
open PySem PySem.W PySem.Calls PyProof.Rows PySem.SeqAt Builtin
theorem jb.qP(h:jb C o Ω e λt a=>t=r/\a=V5)(l:V5.Perm g):jb C o Ω e λt a=>t=r/\a=g:=λA G s m I S=>aC (h A G s m I S) (λv i n=>by obtain⟨c,t,a,⟨j,k⟩,d,b,B,f⟩:=n;rw[k] at b;exact⟨c,t,g,⟨j,rfl⟩,d,b.perm l,B,f⟩) λ_ _ z=>z
noncomputable abbrev gX(x d:cj)(ps:List Pr):bM:=(365,li)::(372,li)::g9 x d ps
theorem B1:∀p∈gX x d ps,p.2.gT=false:=λp m=>by
 refine eQ m ?_ λm=>?_;.rfl
 .refine eQ m ?_ λm=>?_;.rfl
  .exact nQ p m
theorem wx:(gX x d ps++Ω).Perm<|qg x d ps++(372,li)::Ω:=.cons _<|gV (l₁:=[(372,li)]) (l₂:=g9 x d ps)|>.append_right Ω|>.trans (by rw[bW];exact .refl _)
theorem wy:(gX x d ps++Ω).Perm<|xX x d ps++(365,li)::Ω:=(HM _ _ _).trans<|.cons _<|gV (l₁:=[(365,li)]) (l₂:=g9 x d ps)|>.append_right Ω|>.trans (by rw[bW];exact .refl _)
noncomputable abbrev aev:FuncData:=jG (g8 PP 10 7) "_Accumulator.is_onlyws" [] .none .none .none (.str "cpy313.email.header" 583) ah (.ref 391) .none
theorem SH(W):gH W 392 aev (dA<|g8 PP 10 7) ["self"]:=.plain
theorem gl_str(W:Wd):l7 W.K a_ "str"=ae none:=by kernel_rfl
theorem GT:cN "str"=ae (.type "str"):=by kernel_rfl
theorem GU:("str":bC)≠"__name__":=by decide+kernel
theorem KJ(hz:ps.length<=900)(f:∀p∈ps,p.1.length<=1000/\p.2.length<=1000)(j:kq ps≠0)(k:eZ (hF ps)=false):cu W (.ref 392) [.val<|.ref x] 5 (gX x d ps) λt b=>t=.bool false/\b=gX x d ps:=by
 refine cu.of (SH W) ["self"] [] [("self",ae (.val<|.ref x))] (λi l=>?_) rfl (λL I _=>?_) λt bT h=>by refine bu h λ_ o=>?_;try clear h;subst o;exact B1
 .refine vJ l λa=>?_;kernel_rfl
 haveI m:(x,Ob.seq (.ref 403) (ae d) (ps.map wv))∈gX x d ps:=.tail _<|.tail _<|.head _;refine .Wy (.aeu (.cmp (.attrL (.g 0) (.seq m rfl) (.tail _<|.tail _<|.tail _<|.head _) rfl rfl λG v k=>by cases k;rfl) .int<|.eq (n:=0)<|.int 0 0)<|.ahl (bT:=gX x d ps) (.qP (V5:=qg x d ps++[(372,li)]) ?_ ?_)<|.qP (V5:=xX x d ps++[(365,li)]) ?_ ?_) λt c h=>.inl ⟨t,rfl,h⟩
 .haveI e:(!(((kq ps:Nat):Int) !=0))=false:=by simp;exact(j)
  rw[<-e];exact .ahk (.g 0) hz f (by have:=wx (x:=x) (d:=d) (ps:=ps) (Ω:=[]);rwa[bD] at this)<|by show 3<=4;decide
 .have:=(wx (x:=x) (d:=d) (ps:=ps) (Ω:=[])).symm;rwa[bD] at this
 .rw[<-k];exact .OK (.aet (.builtin (gl_str W) GT GU) (.g 0) hz f (by have:=wy (x:=x) (d:=d) (ps:=ps) (Ω:=[]);rwa[bD] at this)<|by show 4<=4;decide) yM yN cf.isspace<|au _
 .have:=(wy (x:=x) (d:=d) (ps:=ps) (Ω:=[])).symm;rwa[bD] at this
end
section
open PySem PySem.W PySem.Calls PyProof.Rows PySem.SeqAt PySem.Builtin.ObjectAttr Builtin
section
theorem fe.OL:fe .NotEq (.tuple [.str a,.str b]) (.tuple [.str c,.str d])<|!(a==c&&b==d):=λW A G s v u p I M o=>by
 refine gc (M.jY I) λx D Q N z=>?_;subst Q;refine gc (o.jY I) λy C R P B=>?_;subst R;haveI E:∃f g,D=#[.str a f,.str b g]:=by
  generalize n:D.toList=l at z;cases z using aG.ca with|cons h r=>cases r using aG.ca with|cons m r=>cases r;cases h;cases m;exact CN _ _<|ii.mp n
 haveI F:∃f g,C=#[.str c f,.str d g]:=by generalize n:C.toList=l at B;cases B using aG.ca with|cons h r=>cases r using aG.ca with|cons m r=>cases r;cases h;cases m;exact CN _ _<|ii.mp n
 refine sC E λf g q0=>?_;clear E;subst q0;refine sC F λq t q1=>?_;clear F;subst q1;haveI o:A.units<cLine:=by haveI:=p.units;unfold jj;exact(az this<|aB (cb 9000)<|ap rfl)
 haveI i:A.in1.units+0<cLine:=by haveI:=p.units;unfold jj;show A.units+1<9900;exact ţ this
 haveI k:=RcNeAt.tuples (e:=λj=>if j=0 then a==c else b==d) N P o λj H m=>?_
 .haveI e:(!((aL<|min (#[q_ a f,.str b g]).size (#[q_ c q,.str d t]).size).all (λj=>if j=0 then a==c else b==d)&&(#[q_ a f,.str b g]).size==(#[q_ c q,.str d t]).size))=!(a==c&&b==d):=by simp[gk]
  rw[e] at k;exact k PP W.w _ _ ⟨G,I,.refl G s,rfl⟩
 .haveI L:j=0\/j=1:=by haveI:=H;exact Ť this
  rcases L with rfl|rfl;.exact nA I (.str a c) _ _ _ i (.str _ _)<|.str _ _
  .exact nA I (.str b d) _ _ _ i (.str _ _)<|.str _ _
theorem GV{W:Wd}(u:W.K.In s.heap)(I:InstAt s.heap x r 403 p)(l:findObj W.K 403 p name=ae (.bind (.builtin "function.__get__")<|.ref f))(m:typeIn W.K (.ref f)=ae (.type "function")) (h:Q (.ref s.heap.objs.size) {s with heap:=s.heap.push<|n6 (.ref f)<|.ref x,toks:=s.toks+1}):aD W.M A (l_ (.ref x) name a) Q E s:=by haveI c:=I.type (M:=W.M);haveI e:=dQ (M:=W.M) u<|UX W;haveI j:=dQ (M:=W.M) u<|UZ W;haveI k:=looks_find (M:=W.M) u I l;obtain⟨o,g,d,t,q⟩:=s;have b:=ael (M:=W.M) u I;dsimp only at c e j k b;skip;refine aa<|yD<|aQ<|aa<|c.at<|aa<|e.at ?_;show aD _ _ (nx (.ref x) (.str name t) (.ref 403) (.builtin "list.__getattribute__") aj a) _ _ _;unfold nx hookBefore Yp ae5;refine aa ?_;skip;refine j.at<|aa<|iD<|aQ ?_;rw[show(a&&JB (nY "list.__getattribute__"))=false by cases a<;>rfl,if_neg<|by decide];skip;refine aa<|ag ?_;refine df<|cz PySem.F.slot_list_getattribute.plain AS<|i' (i:="list.__getattribute__") (n:="__getattribute__") (by decide+kernel) (by decide+kernel) b (sv _ _) ?_;skip;refine aa<|ag ?_;skip;refine aa<|ag ?_;refine aa<|c.at<|aa<|k.at ?_;refine aa<|aQ<|df<|fn_get u m ?_;refine ag ?_;skip;exact Jx rfl h
noncomputable def GW(K:np)(f:cj)(name:bC):Bool:=tY K 403&&(mU K (.ref 403) name==ae (ae<|.ref f))&&(specialIn K (.ref f) "__get__"==ae (ae<|.builtin "function.__get__"))&&(takesIn K (.ref f)==ae false)&&!(copiedNames.contains name)&&isFn K (.ref f)&&fnIn K f
theorem jb.KL(ho:Ev C Γ Ω o t)(hi:fs Ω t x 403 dx)(m:(dx,b)∈Ω)(hb:b.bare=.dict kvs)(hn:kvs.lookup name=ce) (h:Ev C Γ Ω e<|.tuple ts)(hz:ts.length<=1000)(P:Ω.Perm<|Δ++bT)(a6:∀p∈Δ,p.2.gT=false)(k:cu C.W (.ref f) (t::ts) n Δ Pc)(a5:n+1<=C.n)(hk:autoParam (GW C.W.K f name=aj) jX) (a7:autoParam (∀env,aw [.Starred e y] env=[(aj,bG e env)]) eX) (he:autoParam (∀env,bG (.Call (.Attribute o name L) [.Starred e y] [] pos) env=(do
   let ov<-bG o env
   fy L.atName
   let(f,N)<-gy [ov] (do bB (<-l_ ov name aj,[]))
   let p<-bB pos
   bS p f N (bb pos<|aw [.Starred e y] env) (bK pos<|aX [] env))) eX):jb C Γ Ω (.Call (.Attribute o name L) [.Starred e y] [] pos) λt Q=>∃z,Pc t z/\Q=z++bT:=λA G s ok I S=>by
 rw[he];refine aa<|Run.use (ho A G s ok I S) λv c l q H M=>?_;have u:=S.mono H;refine bu (hi C Γ l c v q u M) λq0 q1=>?_;subst q0;refine AX q1 λox h1 h2 h3 h4=>yZ (kN u m hb) λod es nn d1 d2 d3 d4 d5=>?_;haveI hl:=(km d4 d5 name).2 hn;unfold GW at hk;simp only [bg,beq_iff_eq,Bool.not_eq_true'] at hk;refine bu hk λq2 k7=>bu q2 λq3 k6=>bu q3 λq4 k5=>bu q4 λq5 k4=>bu q5 λq6 k3=>bu q6 λk1 k2=>aa<|cF<|aa<|aQ<|aa ?_;refine GV q.k (InstAt.ofTree h1 h2 h3 h4 d1) (findObj_fn k1 k2 k3 k4 k5 hl) (beq_iff_eq.mp k6)<|ag<|aa<|ag ?_;haveI a0:=(q.g4<|n6 (.ref f)<|.ref x).bL (s':={c with heap:=c.heap.push<|n6 (.ref f)<|.ref x,toks:=c.toks+1}) rfl rfl rfl;have w:=(Ext.g4 l c<|n6 (.ref f)<|.ref x).trans<|.bL (s':={c with heap:=c.heap.push<|n6 (.ref f)<|.ref x,toks:=c.toks+1}) rfl;haveI hq:(c.heap.push<|n6 (.ref f)<|.ref x).get? c.heap.objs.size=ae (n6 (.ref f)<|.ref x):=aS _ rfl;rw[a7];have D:=u.mono w;refine ks_call rfl (keeps_M (self:=.ref x) k7)<|ks_lone ?_;refine Run.use (h A l _ ok a0 D) λv j g d i a4=>?_;refine gc (a4.jY d) λa vs q7 q8 tv=>?_;subst q7;refine cc q8 λoa q9=>bu q9 λha a9=>bu a9 λhc b0=>cc b0 λnn hd=>?_;haveI e1:=tv.length;skip;haveI hT:j.TypeIs (.ref a) "tuple":=⟨oa,ha,hc⟩;refine aa<|cP hT PySem.F.slot_tuple_iter.lookup<|ag ⟨rfl,?_⟩;refine VM a (.inr rfl) ha hc hd (λh' kp=>?_)<|by unfold aA;exact ť hz e1
 haveI B:Inv C.W g {j with heap:=h'}:=⟨λa o e=>kp a o<|d.hM a o e,d.hb,d.bare,d.os⟩;have a2:Ext g j g {j with heap:=h'}:=⟨kp,λ_ _ e=>e,λ_ _=>.inl⟩;have a3:=kp _ _<|i.heap _ _ hq;refine⟨⟨a3,B.k⟩,?_⟩;have a1:=(D.mono i).mono a2;have E:=a1.perm P;refine df<|Mh a3 ?_;haveI a8:=ok.le<|d_ a5;refine i8 (k A g _ (.ref x::vs.toList) a8 B (.cons (M.mono<|Sub.trans w.sub i.sub) tv) E.owns) λr b1 hr=>?_;rcases r with e|(v|_|_|_)<;>first|exact hr.elim|skip
 obtain⟨R,t,z,hp,I',x',o',hh,ht⟩:=hr;exact⟨R,t,z++bT,⟨z,hp,rfl⟩,I',E.uf x' o' hh a6,(Sub.trans H.sub<|Sub.trans w.sub i.sub).trans x'.sub,ht⟩
theorem bZ.Ai{id:String}(ho:Ev C t Ω o<|.val<|.ref a)(m:(a,Ob.list ts)∈Ω)(p:eL Yz a (.list ts) (.list Vc) bT)(Q:yC "list" name id)(a1:fA (.builtin id)=bB (.type "method_descriptor"))(h:Bj C t Ω c λr n=>r=us/\n=Yz) (a2:∀A G s r,Inv C.W G s->St C t Yz G s->aG G r us->aD C.W.M A (er (.builtin id)<|.ref a::r) (λ_ s'=>Inv C.W G s'/\St C t bT G s') (λ_ _=>False) s)(k:bZ C t bT rest P) (hp:autoParam (∀env,(bb pos<|aw c env).any (·.1)=false) eX) (hb:autoParam (∀env,dG o name env (bG o env)=bG o env) eX) (H:autoParam (∀env,((bb pos<|aw c env).all (λx=>!x.1)&&(bK pos<|aX [] env).all (λx=>x.1.isSome)&&decide (c.length+([]:List ij).length+(if([]:List ij).isEmpty then 0 else 1)<30))=aj) eX) (l:autoParam ((E.endLine==pos.line)=aj) iF)(h1:autoParam (jS C.env=false) iF):bZ C t Ω (.Expr (.Call (.Attribute o name E) c [] pos) a5::rest) P:=.expr (λA G s ok I S=>by
 refine fc (hb _) (H _) l hZ Q a1<|Run.use (ho A G s ok I S) λv R w f j L=>?_;cases L
 haveI i:=S.mono j;refine gR (i.own _ m) λ_ q0 _=>?_;refine cc q0 λo' q1=>?_;clear q0;refine bu q1 λe q2=>?_;clear q1;refine j7 q2 λa7 n' q3 _=>?_;clear q2;subst q3;refine⟨⟨_,e,rfl⟩,λb q=>by cases q;exact⟨_,e,rfl⟩,gG (.builtin _) f.k ?_<|hp _⟩;refine aC (h A w R pos ok f i) (λr a0 zq=>?_) λ_ _ z=>z;obtain⟨d,a3,a4,⟨e1,e2⟩,g,B,u,N⟩:=zq;refine⟨g.k,?_⟩;cases e1;cases e2
 refine aC (a2 A d a0 r g B N) (λv a6 zz=>bu zz λy D=>?_) λ_ _ z=>z;exact⟨t,bT,d,y,D,Sub.trans j.sub u,k⟩) h1 rfl
theorem Bj.one(h:jb C g Ω e λu a=>u=t/\a=Yz)(d:autoParam (∀env,aw (e::[]) env=(false,bG e env)::aw [] env) eX):Bj C g Ω [e] λus a=>us=[t]/\a=Yz:=.cons h (λu a f=>bu f λb c=>.fin ⟨congrArg (·::[]) b,c⟩) d
end
end
section
open PySem PySem.W PySem.Calls PyProof.Rows PySem.SeqAt Builtin
noncomputable abbrev Vm:FuncData:=jG (g8 PP 9 3) "_ValueFormatter.newline" [] .none .none .none (.str "cpy313.email.header" 583) ah (.ref 280) .none
theorem IH(W):gH W 281 Vm (dA<|g8 PP 9 3) ["self","end_of_line"]:=.plain
noncomputable def Aj(w:Int)(l x:cj):List<|bC×T:=[("_maxlen",.int w),("_continuation_ws",.str " "),("_continuation_ws_len",.int 1),("_splitchars",.str " "),("_lines",.val (.ref l)),("_current_line",.val (.ref x))]
noncomputable abbrev lE(w:Int)(x d l dh:cj)(ps:List Pr)(ls:List bC):bM:=gX x d ps++[(l,Ob.list (ls.map .str)),(dh,.dict (Aj w l x))]
theorem xZ:∀p∈lE w x d l dh ps ls,p.2.gT=false:=λp m=>by
 rcases bO.mp m with m|m;.exact B1 p m
 .rcases bf.mp m with rfl|m;.rfl
  .rw[ao] at m;subst m;rfl
theorem fM:(dh,Ob.dict (Aj w l x))∈lE w x d l dh ps ls:=av _<|.tail _<|.head _
theorem Vn:(l,Ob.list (ls.map .str))∈lE w x d l dh ps ls:=av _<|.head _
theorem Ak:(x,Ob.seq (.ref 403) (ae d) (ps.map wv))∈lE w x d l dh ps ls:=.tail _<|.tail _<|.head _
theorem Ey:(d,Ob.dict xQ)∈lE w x d l dh ps ls:=.tail _<|.tail _<|.tail _<|.head _
theorem wz:(gX x d ps++Ω).Perm<|g9 x d ps++((365,li)::(372,li)::Ω):=by have h:=gV (l₁:=[(365,li),(372,li)]) (l₂:=g9 x d ps);have:=h.append_right Ω;rwa[bW] at this
section
theorem jb.B2(w:Ev C q (gX x d ps++Ω) o<|.val<|.ref x) (h:oD C q (gX x d ps++Ω) e ts)(k:cu C.W (.ref f) (.val (.ref x)::ts) n (g9 x d ps) λt l=>t=r/\l=g9 x d qs)(m:n<=C.n)(v:autoParam (xQ.lookup name=ce) iF)(u:autoParam (mM C.W.K f name=aj) jX) (y:autoParam (∀env,(bb pos<|aw e env).any (·.1)=false) eX) (s:autoParam (∀env,bG (.Call (.Attribute o name i) e [] pos) env=(do
   let p<-bG o env
   fy i.atName
   let(f,j)<-gy [p] (h8 p name<|do return (<-jU o env).getD aj)
   bS pos f j (bb pos<|aw e env) (bK pos<|aX [] env))) eX):jb C q (gX x d ps++Ω) (.Call (.Attribute o name i) e [] pos) λt g=>t=r/\g=gX x d qs++Ω:=.qP ((jb.Eg w (.seq (.tail _<|.tail _<|.head _) rfl) (bp _<|.tail _<|.tail _<|.tail _<|.head _) rfl v h wz nQ k m u y s).mono λt g z=>aU z λl y c=>⟨y.1,by rw[c,y.2]⟩) wz.symm
theorem jb.Vo(A:Ev C v (gX x d ps++Ω) o<|.val<|.ref x) (h:Ev C v (gX x d ps++Ω) e<|.tuple ts)(hz:ts.length<=1000)(k:cu C.W (.ref f) (.val (.ref x)::ts) n (g9 x d ps) λt m=>t=r/\m=g9 x d qs)(q:n+1<=C.n)(z:autoParam (xQ.lookup name=ce) iF)(y:autoParam (GW C.W.K f name=aj) jX) (s:autoParam (∀env,aw [.Starred e g] env=[(aj,bG e env)]) eX) (w:autoParam (∀env,bG (.Call (.Attribute o name j) [.Starred e g] [] pos) env=(do
   let u<-bG o env
   fy j.atName
   let(f,l)<-gy [u] (do bB (<-l_ u name aj,[]))
   let p<-bB pos
   bS p f l (bb pos<|aw [.Starred e g] env) (bK pos<|aX [] env))) eX):jb C v (gX x d ps++Ω) (.Call (.Attribute o name j) [.Starred e g] [] pos) λt i=>t=r/\i=gX x d qs++Ω:=.qP ((jb.KL A (.seq (.tail _<|.tail _<|.head _) rfl) (bp _<|.tail _<|.tail _<|.tail _<|.head _) rfl z h hz wz nQ k q y s w).mono λt i z=>aU z λm y c=>⟨y.1,by rw[c,y.2]⟩) wz.symm
theorem jb.GX(h:Ev C e (gX x d ps++Ω) f<|.val<|.builtin "len")(j:Ev C e (gX x d ps++Ω) o<|.val<|.ref x)(hz:ps.length<=900)(k:∀p∈ps,p.1.length<=1000/\p.2.length<=1000)(i:3<=C.n) (c:autoParam (∀env,aw [o] env=(false,bG o env)::aw [] env) eX) (b:autoParam (∀env,(bb pos<|aw [o] env).any (·.1)=false) eX) (g:autoParam (∀env,bG (.Call f [o] [] pos) env=(do bS pos (<-bG f env) [] (bb pos<|aw [o] env) (bK pos<|aX [] env))) eX):jb C e (gX x d ps++Ω) (.Call f [o] [] pos) λt a=>t=.int (kq ps)/\a=gX x d ps++Ω:=.qP (.ahi h j hz k wx i c b g) wx.symm
theorem jb.OM(h:Ev C e (gX x d ps++Ω) f<|.val<|.type "str")(j:Ev C e (gX x d ps++Ω) o<|.val<|.ref x)(hz:ps.length<=900)(k:∀p∈ps,p.1.length<=1000/\p.2.length<=1000)(i:4<=C.n) (c:autoParam (∀env,aw [o] env=(false,bG o env)::aw [] env) eX) (b:autoParam (∀env,(bb pos<|aw [o] env).any (·.1)=false) eX) (g:autoParam (∀env,bG (.Call f [o] [] pos) env=(do bS pos (<-bG f env) [] (bb pos<|aw [o] env) (bK pos<|aX [] env))) eX):jb C e (gX x d ps++Ω) (.Call f [o] [] pos) λt a=>t=.str (hF ps)/\a=gX x d ps++Ω:=.qP (.aet h j hz k wy i c b g) wy.symm
theorem bZ.sd(h:jb C d Ω e λu a=>u=t/\a=c)(k:bZ C d c rest P)(f:autoParam (jS C.env=false) iF)(g:autoParam (fi e ah pos.line C.env=bB false) iF):bZ C d Ω (.Expr e pos::rest) P:=.rB h (λu a z=>by rw[z.2];exact k) f g
end
theorem II{C:Cx}{ls YA:List bC}:eL (Δ++(gX x d ps++[(l,Ob.list (ls.map .str)),(dh,.dict kv)])) l (.list<|ls.map .str) (.list<|YA.map .str)<|Δ++(gX x d ps++[(l,Ob.list (YA.map .str)),(dh,.dict kv)]):=by
 have:∀Δ,eL (Δ++[(l,Ob.list (ls.map .str)),(dh,.dict kv)]) l (.list<|ls.map .str) (.list<|YA.map .str)<|Δ++[(l,Ob.list (YA.map .str)),(dh,.dict kv)]:=λΔ=>by induction Δ with|nil=>exact .here|cons p Δ a=>exact .there a
 have:=this<|Δ++gX x d ps;rwa[bW,bW] at this
theorem GY:cu W (.ref 281) [T.inst h 319 dh] 7 (lE w x d l dh [] ls) λt j=>t=.none/\j=lE w x d l dh [] ls:=by
 refine cu.of (IH W) ["self"] ["end_of_line"] [("self",ae (T.inst h 319 dh)),("end_of_line",ah)] (λk m=>?_) rfl (λL I _=>?_) λt o h=>by refine bu h λ_ n=>?_;subst n;exact xZ
 .refine vJ m λa=>?_;kernel_rfl
 refine .iK (.B2 (ps:=[]) (qs:=[]) (r:=wv ("","")) (.attr (.g 0) .inst fM rfl (by rfl) bU) .nil KF<|by show 2<=6;decide) ai λt c e=>?_;refine bu e λf i=>?_;try clear e
 subst f;subst i;refine⟨_,.g 1,?_⟩;refine .aej (lE w x d l dh [("","")] ls) (b:=aj) (.cmp (.g 1) (.tuple (.cons .str<|.cons .str .nil)<|by decide) .OL) (λ_=>?_) (λh=>by cases h) ?_;.exact .sd (.Vo (ps:=[]) (qs:=[("","")]) (.attr (.g 0) .inst fM rfl (by rfl) bU) (.g 1) (by decide) (qN<|by decide)<|by show 2<=6;decide)<|.nil ⟨rfl,rfl,rfl⟩
 refine .OI (.gt (.GX (.builtin (oR W) oS oT) (.attr (.g 0) .inst fM rfl (by rfl) bU) (by decide) (by decide)<|by show 3<=6;decide) .int) λb c e=>?_;refine bu e λf i=>?_;try clear e
 subst f;subst i;rw[if_neg<|by decide];refine .nil<|.sd (.B2 (ps:=[("","")]) (qs:=[]) (.attr (.g 0) .inst fM rfl (by rfl) bU) .nil (vi<|by decide)<|by show 1<=6;decide)<|.nil<|.inr ⟨rfl,rfl,rfl⟩
theorem KM{p:Pr}(hz:(qs++[p]).length<=900)(v:∀q∈qs++[p],q.1.length<=1000/\q.2.length<=1000)(u:p.2≠"")(y:kq (qs++[p])≠0)(B:eZ (hF<|qs++[p])=false)(o:ls.length<=1000):cu W (.ref 281) [T.inst h 319 dh] 7 (lE w x d l dh (qs++[p]) ls) λt n=>t=.none/\n=lE w x d l dh [] (ls++[hF<|qs++[p]]):=by
 refine cu.of (IH W) ["self"] ["end_of_line"] [("self",ae (T.inst h 319 dh)),("end_of_line",ah)] (λA o=>?_) rfl (λL I _=>?_) λt bT h=>by refine bu h λ_ E=>?_;subst E;exact xZ
 .refine vJ o λa=>?_;kernel_rfl
 have m:qs.length<=900:=by rw[aM] at hz;exact Ŧ hz
 refine .iK (.B2 (ps:=qs++[p]) (qs:=qs) (r:=wv p) (.attr (.g 0) .inst fM rfl (by rfl) bU) .nil (Eo m)<|by show 2<=6;decide) ai λt f i=>?_;refine bu i λj k=>?_;try clear i
 subst j;subst k;have D:(!(p.1==" "&&p.2==""))=true:=by
  have:(p.2=="")=false:=by rw[beq_eq_false_iff_ne];exact u
  rw[this];simp
 refine⟨_,.g 1,?_⟩;refine .aej (lE w x d l dh (qs++[p]) ls) (b:=aj) (by rw[<-D];exact .cmp (.g 1) (.tuple (.cons .str<|.cons .str .nil)<|by decide) .OL) (λ_=>?_) (λh=>by cases h) ?_;.exact .sd (.Vo (ps:=qs) (qs:=qs++[p]) (.attr (.g 0) .inst fM rfl (by rfl) bU) (.g 1) (by show 2<=1000;decide) (qN<|by exact(ab m<|ap rfl))<|by show 2<=6;decide)<|.nil ⟨rfl,rfl,rfl⟩
 refine .OI (.gt (.GX (.builtin (oR W) oS oT) (.attr (.g 0) .inst fM rfl (by rfl) bU) hz v<|by show 3<=6;decide) .int) λb f i=>?_;refine bu i λj k=>?_;try clear i
 subst j;subst k;rw[if_pos<|by simp;exact(eA y)];refine .OI (.vL<|.call (bT:=lE w x d l dh (qs++[p]) ls)<|(jb.Eg (Δ:=gX x d<|qs++[p]) (.attr (.g 0) .inst fM rfl (by rfl) bU) (.seq Ak rfl) Ey rfl (by rfl) .nil (.refl _) B1 (KJ hz v y B)<|by show 5<=6;decide).mono λt f z=>aU z λn y c=>⟨y.1,by rw[c,y.2]⟩) λb f i=>?_;refine bu i λj k=>?_;try clear i
 subst j;subst k;rw[if_neg<|by decide];have z:eL (lE w x d l dh (qs++[p]) ls) l (.list<|ls.map .str) (.list<|ls.map .str++[.str<|hF<|qs++[p]])<|lE w x d l dh (qs++[p])<|ls++[hF<|qs++[p]]:=by
  have:=II (C:=oN W 6 Vm 281 L ["self","end_of_line"] I) (Δ:=[]) (x:=x) (d:=d) (l:=l) (dh:=dh) (ps:=qs++[p]) (ls:=ls) (YA:=ls++[hF<|qs++[p]]) (kv:=Aj w l x);have e:(ls++[hF<|qs++[p]]).map T.str=ls.map .str++[.str<|hF<|qs++[p]]:=by rw[aJ];rfl
  rw[e] at this;unfold lE;rw[e];exact this
 have s:(ls.map T.str).length<=sizeLine:=by rw[af];unfold aA;exact uT o
 refine .Ai (us:=[.str<|hF<|qs++[p]]) (Yz:=lE w x d l dh (qs++[p]) ls) (.attr (.g 0) .inst fM rfl (by rfl) bU) Vn z fU fV (.one<|.OM (.builtin (gl_str W) GT GU) (.attr (.g 0) .inst fM rfl (by rfl) bU) hz v<|by show 4<=6;decide) (m9 z s)<|.nil<|.nil ?_;exact .sd (.B2 (ps:=qs++[p]) (qs:=[]) (.attr (.g 0) .inst fM rfl (by rfl) bU) .nil (vi<|by exact(ab hz<|ap rfl))<|by show 1<=6;decide)<|.nil<|.inr ⟨rfl,rfl,rfl⟩
end
section
open PySem PySem.W PySem.Calls PyProof.Rows PySem.SeqAt PySem.Builtin.ObjectAttr Builtin
theorem bZ.nd(h:(Ω.map (·.1)).Nodup->bZ C c Ω b P):bZ C c Ω b P:=λA G s a I S=>h S.hU A G s a I S
noncomputable abbrev aew:FuncData:=jG (g8 PP 9 8) "_ValueFormatter._append_chunk" [] .none .none .none (.str "cpy313.email.header" 583) ah (.ref 315) .none
noncomputable abbrev ON:List Str:=["self","fws","string","ch","i","prevpart","part","remainder"]
theorem Xj(W):gH W 316 aew (dA<|g8 PP 9 8) ON:=.plain
noncomputable abbrev aex(h dh:cj)(f:T)(e:bC)(a i b c d:Option T):cG:=[("self",ae (T.inst h 319 dh)),("fws",ae f),("string",ae (.str e)),("ch",a),("i",i),("prevpart",b),("part",c),("remainder",d)]
noncomputable abbrev bw(a:bC):Pr:=(" ",a)
noncomputable def chunk(w:Int)(b:bC)(a:List Pr×List bC):List Pr×List Str:=if(kq<|a.1++[bw b])<=w\/a.1=[] then(a.1++[bw b],a.2) else([bw b],a.2++[hF a.1])
section
theorem bZ.Xk{a:gw}(f:fR C g Ω a d [])(k:bZ C g Ω c<|ry C rest P)(o:autoParam (∀env x,bm a env x=bB x) mI):bZ C g Ω (.For d a n c pos::rest) P:=.M9 (.of f) (λv b h=>by
  refine bu h λr s=>?_;try clear h;subst r;subst s
  exact⟨λ_ j l=>j=g/\l=b,⟨rfl,rfl⟩,λi t e b w Q q p u=>nS p,λe m h=>h.1▸h.2▸k⟩) o
theorem bZ.OO{b:gw}(m:fR C g Ω b a<|t::ts)(k:∀(Δ:bM) (Q:Post),(∀{g Ω},bZ C g Ω rest P->Q .brk g (Δ++Ω))->∃c,w7 C g a t c/\bZ C c (Δ++Ω) j Q) (r:autoParam (∀env x,bm b env x=bB x) mI):bZ C g Ω (.For a b j l pos::rest) P:=.M9 (.of m) (λD e h=>by
  refine bu h λv w=>?_;try clear h;subst v;subst w
  exact⟨λi n o=>i=0/\n=g/\o=e,⟨rfl,rfl,rfl⟩,λi u d f Δ Q q s p=>by
   refine gR p λy A B=>?_;try clear p;subst y;subst A;subst B
   exact bq s▸k Δ Q λz=>q<|.brk z,λd f h=>absurd h.1<|o_ _⟩) r
theorem bZ.Xl{iter:gw}(hit:fR C Γ Ω iter target [t])(step:∀(Δ:bM) (Q:Post),Q .cont Γ' (Δ++bT)->∃C9,w7 C Γ target t C9/\bZ C C9 (Δ++Ω) body Q)(k:bZ C Γ' bT orelse<|ry C rest P) (hf:autoParam (∀env x,bm iter env x=bB x) mI):bZ C Γ Ω (.For target iter body orelse pos::rest) P:=.M9 (.of hit) (λus rz h=>by refine bu h λq0 q1=>?_;clear h;subst q0;subst q1;refine⟨λi rA IJ=>HB (motive:=λ_=>Prop) i (rA=Γ/\IJ=rz) λ_=>rA=Γ'/\IJ=bT,⟨rfl,rfl⟩,λi u rA IJ Δ Q q ht hv=>?_,λrA IJ h=>h.1▸h.2▸k⟩;cases i with|zero=>refine bu hv λq2 q3=>?_;clear hv;subst q2;subst q3;exact bq ht▸step Δ Q (q<|.cont (.refl _) ⟨rfl,rfl⟩)|succ i=>exact nS ht) hf
end
theorem oW(k:Nat):bQ k 0 (-1)=k:=by
 unfold bQ;simp only [show¬((-1)>0) by decide,if_false];split;.simp only [YK,uI];exact Ũ
 .exact ũ<|by assumption
theorem Al{k:Nat}(h:k<=899):eo k 0 (-1)=true:=by unfold eo;rw[oW];simp only [iv,bg,decide_eq_true_eq,fO];refine⟨⟨⟨⟨⟨V8,bn (bj.mpr h)<|by decide⟩,dD tt⟩,dD tt⟩,V8,bn (bj.mpr h)<|by decide⟩,.inr<|dD tt⟩
theorem OP(hz:(ps++[bw f]).length<=900)(hp:∀q∈ps++[bw f],q.1.length<=1000/\q.2.length<=1000)(P:ls.length<=1000):cu W (.ref 316) [T.inst h 319 dh,.str " ",.str f] 7 (lE w x d l dh ps ls) λt D=>t=.none/\D=lE w x d l dh (chunk w f (ps,ls)).1 (chunk w f (ps,ls)).2:=by
 refine cu.of (Xj W) ["self","fws","string"] ["ch","i","prevpart","part","remainder"] (aex h dh (.str " ") f ah ah ah ah ah) (λa3 P=>?_) rfl (λL I _=>.nd λnd=>?_) λt bT h=>by refine bu h λ_ z0=>?_;subst z0;exact xZ
 .refine FX P λa b c=>?_;kernel_rfl
 have k:ps.length<=899:=by rw[aM] at hz;simp at hz;exact(hz)
 have M:x≠d:=by
  intro e;subst e;simp at nd
 refine .sd (.B2 (ps:=ps) (qs:=ps++[bw f]) (.attr .n0 .inst fM rfl rfl bU) (.cons .n1<|.cons (.g 2) .nil) (qN<|ab k<|ap rfl)<|by show 1<=6;decide)<|.OI (.gt (b:=w) (.GX (.builtin (oR W) oS oT) (.attr .n0 .inst fM rfl rfl bU) hz hp<|by show 3<=6;decide)<|.attr .n0 .inst fM rfl rfl λG v k=>by cases k;rfl) λb v A=>?_;refine bu A λE G=>?_;try clear A
 subst E;subst G;by_cases N:(kq<|ps++[bw f]:Int)<=w
 .rw[if_neg<|by simp;exact(N)];have e:chunk w f (ps,ls)=(ps++[bw f],ls):=by unfold chunk;rw[if_pos<|.inl N]
  rw[e];exact .nil<|.nil<|.inr ⟨rfl,rfl,rfl⟩
 rw[if_pos<|by simp;exact ŭ N];have hc:chunk w f (ps,ls)=if ps=[] then(ps++[bw f],ls) else([bw f],ls++[hF ps]):=by
  unfold chunk;by_cases h:ps=[];.rw[if_pos<|.inr h,if_pos h]
  .rw[if_neg λz=>z.elim N h,if_neg h]
 have s:((ps++[bw f]).length:Int)-1=(ps.length:Nat):=by rw[aM];simp
 have y:∀{o:bM},∀p∈g9 x d (ps++[bw f]),∃b,(p.1,b)∈o++lE w x d l dh (ps++[bw f]) ls/\b.bare=p.2.bare:=λp m=>by
  rcases bf.mp m with rfl|m;.exact⟨_,av _ Ak,rfl⟩
  .rw[ao] at m;subst m;exact⟨_,av _ Ey,rfl⟩
 have R:(ls.map T.str).length<=sizeLine:=by rw[af];unfold aA;exact uT P
 have pl:eL (lE w x d l dh ps ls) l (.list<|ls.map .str) (.list<|ls.map .str++[.str<|hF ps])<|lE w x d l dh ps<|ls++[hF ps]:=by
  have:=II (C:=oN W 6 aew 316 L ON I) (Δ:=[]) (x:=x) (d:=d) (l:=l) (dh:=dh) (ps:=ps) (ls:=ls) (YA:=ls++[hF ps]) (kv:=Aj w l x);have e:(ls++[hF ps]).map T.str=ls.map .str++[.str<|hF ps]:=by rw[aJ];rfl
  rw[e] at this;unfold lE;rw[e];exact this
 have S:∀q∈ps,q.1.length<=1000/\q.2.length<=1000:=λq m=>hp q<|bp _ m;have B:cu W (.ref 355) [.val<|.ref x,.int ps.length] 1 (g9 x d<|ps++[bw f]) λt D=>t=.list ([bw f].map wv)/\D=g9 x d ps:=by
  have:=Kz (W:=W) (x:=x) (d:=d) (ps:=ps++[bw f]) (i:=ps.length) (by simp)<|ab (aH<|Iff.mp ml<|Iff.mp FL s)<|ab (aK k)<|of_decide_eq_true<|id<|lw aj;rwa[List.drop_left,Ra] at this
 have a1:eZ (" ":bC)=true:=by decide+kernel
 by_cases u:ps=[]
 .subst u;rw[hc,if_pos rfl];refine .Xl (Γ':=aex h dh (.str " ") f (ae<|.str " ") ah ah ah ah) (bT:=lE w x d l dh [bw f] ls) (.str (t:=" ") (.attr .n0 .inst fM rfl rfl λG v k=>by cases k;rfl)<|by kernel_rfl) (λo Q q=>⟨_,.of<|.name ai<|.g 3,?_⟩) ?_;.exact .Xk (.wZ (a:=([]:List Pr).length) (b:=0) (c:=-1) (n:=([]:List Pr).length) (.builtin (kK W) kL kM) (.cons (.cast (.bin (.Eg (Δ:=g9 x d<|[]++[bw f]) (.attr .n0 .inst (av _ fM) rfl rfl bU) (.seq (av _ Ak) rfl) (av _ Ey) rfl rfl .nil y (Ol M) ww<|by show 1<=6;decide) .int .fx)<|by rw[s])<|.cons .int<|.cons (.neg .int) .nil) (by decide) (Bb<|by decide) (Al k)<|oW _)<|.cont q
  .refine .pQ (.B2 (ps:=[bw f]) (qs:=[]) (r:=wv<|bw f) (.attr .n0 .inst fM rfl rfl bU) .nil (Eo (ps:=[])<|by decide)<|by show 2<=6;decide) λt v A=>?_;refine bu A λE G=>?_;try clear A
   subst E;subst G;refine⟨_,_,rfl,.cons ai .p1<|.cons ai (.g 6) .nil,?_⟩;refine .ite (b:=false) (.cmp (.attrL (.attr .n0 .inst fM rfl rfl bU) (.seq Ak rfl) Ey rfl rfl λG v k=>by cases k;rfl) .int .uU) (λh=>by cases h) λ_=>.nil ?_;refine .sd (.B2 (ps:=[]) (qs:=[bw f]) (.attr .n0 .inst fM rfl rfl bU) (.cons .n1<|.cons (.g 6) .nil) (qN<|by decide)<|by show 1<=6;decide)<|.A9<|.inl ⟨_,rfl,rfl,rfl⟩
 .rw[hc,if_neg u];have H:0<ps.length:=ik.mpr u;refine .OO (.str (t:=" ") (.attr .n0 .inst fM rfl rfl xl)<|by kernel_rfl) λo Q q=>⟨_,.of<|.name ai<|.g 3,?_⟩;obtain⟨ts,a0⟩:∃ts,iI ps.length (-1) ps.length=.int ps.length::ts:=by
   refine cc (Nat.exists_eq_succ_of_ne_zero<|eJ H) λn hn=>?_;rw[hn];exact⟨_,by rw[iI,iN,ax];exact congrArg (·::_)<|congrArg T.int<|by rw[ů]⟩
  refine .OO (.z_ (.wZ (a:=ps.length) (b:=0) (c:=-1) (n:=ps.length) (.builtin (kK W) kL kM) (.cons (.cast (.bin (.Eg (Δ:=g9 x d<|ps++[bw f]) (.attr .n0 .inst (av _ fM) rfl rfl bU) (.seq (av _ Ak) rfl) (av _ Ey) rfl rfl .nil y (Ol M) ww<|by show 1<=6;decide) .int .fx)<|by rw[s])<|.cons .int<|.cons (.neg .int) .nil) (by decide) (Bb<|by decide) (Al k)<|oW _) a0) λa2 Q2 q2=>⟨_,.of<|.name ai<|.g 4,?_⟩;refine .ite (b:=aj) (.val (.cast (.nK (.g 3) (.str _) cQ yM yN .nil cf.isspace<|au _)<|congrArg T.bool a1) .bool) (λ_=>?_) λh=>by cases h
  refine .assign (t:=.str " ") (.sub (.ahe (.attr .n0 .inst (av _<|av _ fM) rfl rfl bU) (av _<|av _ Ak) rfl (.g 4) py (MH k) (t:=wv<|bw f)<|by simp) .int<|.tuple (by decide) (by decide) (j:=0) rfl rfl) ai .p1<|.ite (b:=aj) (.boolOp<|.and (b:=aj) (.val .n1<|.str<|by decide) λ_=>.and (b:=aj) (.cmp (.sub .n1 .int<|.str (by decide) (c:=32) rfl) (.g 3)<|.eq (n:=0)<|.str _ _) λ_=>.rT) (λ_=>?_) λh=>by cases h
  refine .brk<|q2<|.brk<|q ?_;refine .iK (.B2 (ps:=ps++[bw f]) (qs:=ps) (r:=.list<|[bw f].map wv) (.attr .n0 .inst fM rfl rfl bU) (.cons (.g 4) .nil) B<|by show 1<=6;decide) ai λt v A=>?_;refine bu A λE G=>?_;try clear A
  subst E;subst G;refine⟨_,.g 7,?_⟩;refine .Ai (us:=[.str<|hF ps]) (Yz:=lE w x d l dh ps ls) (.attr .n0 .inst fM rfl rfl bU) Vn pl fU fV (.one<|.OM (.builtin (gl_str W) GT GU) (.attr .n0 .inst fM rfl rfl bU) (Ű k) S<|by show 4<=6;decide) (m9 pl R)<|.sd (.B2 (ps:=ps) (qs:=[bw f]) (.attr .n0 .inst fM rfl rfl bU) (.cons (.g 7) .nil) (Ek<|by show ps.length+1<=1000;exact ű k)<|by show 1<=6;decide)<|.nil<|.nil<|.inr ⟨rfl,rfl,rfl⟩
end
section
open PySem PySem.W PySem.Calls PyProof.Rows PySem.SeqAt
noncomputable abbrev sg(x:bC):List Nat:=x.cps.toList
theorem mv(x y):sg (x++y)=sg x++sg y:=by show(x.cps++y.cps).toList=_;rw[jE]
theorem B3(h:sg x=sg y):x=y:=by
 cases x;cases y
 simp only [sg,ii] at h;rw[h]
theorem gK(x):(sg x).length=x.length:=by show x.cps.toList.length=x.cps.size;rfl
theorem B4(sep):∀l,sg (dz sep l)=eF (sg sep) (l.map sg):=by intro l;rw[StrLaws.glued_eq_join];induction l with|nil=>rfl|cons x r a=>cases r with|nil=>show sg x=_;simp[eF]|cons y r=>show sg (x++sep++Str.join sep (y::r))=_;rw[mv,mv,a];simp[eF,vE]
theorem te(l):sg (uP "" l)=(l.map sg).flatten:=by show sg (dz "" l)=_;rw[B4];skip;induction l.map sg with|nil=>rfl|cons x r a=>cases r with|nil=>simp[eF]|cons y r=>simp[eF] at a⊢;exact a
theorem SI(p):sg (Et p)=sg p.1++sg p.2:=by unfold Et;rw[te];simp
theorem Ez(ps):sg (hF ps)=(ps.map λp=>sg p.1++sg p.2).flatten:=by unfold hF;rw[te,aE];congr 1;apply aI;intro p _;exact SI p
theorem qh(x):eZ x=aj↔sg x≠[]/\∀c∈sg x,cD c=true:=by
 unfold eZ;rw[bg,decide_eq_true_eq,tO];haveI:x.length>0↔sg x≠[]:=by rw[<-gK];exact ik
 rw[this];simp only [sg,f6]
theorem zk(m:p∈ps)(h:eZ p.2=false)(a:0<p.2.length):eZ (hF ps)=false:=by cases e:eZ (hF ps) with|false=>rfl|true=>(haveI k:=((qh _).mp e).2);haveI:eZ p.2=true:=(qh _).mpr ⟨by rw[<-ik,gK];exact a,λc b=>k c<|by rw[Ez];exact List.mem_flatten.mpr ⟨_,am.mpr ⟨p,m,rfl⟩,av _ b⟩⟩;rw[this] at h;cases h
noncomputable def ff(w:Int)(b:List bC):List Pr×List Str:=b.foldl (λa c=>chunk w c a) ([],[])
noncomputable def fz(w:Int)(a:List bC):List Str:=if(ff w a).1=[] then(ff w a).2 else(ff w a).2++[hF (ff w a).1]
theorem nG(w l a):ff w (l++[a])=chunk w a (ff w l):=by unfold ff;rw[eU];rfl
theorem EA(w b a):chunk w b a=(a.1++[bw b],a.2)\/chunk w b a=([bw b],a.2++[hF a.1]):=by
 unfold chunk;split;.exact .inl rfl
 .exact .inr rfl
theorem B5{α:Type}{P:List α->Prop}(b:P [])(c:∀l a,P l->P (l++[a])):∀l,P l:=λl=>by
 haveI:∀r:List α,P r.reverse:=λr=>by induction r with|nil=>exact b|cons a r d=>rw[gg];exact c _ _ d
 haveI:=this l.reverse;rwa[FS] at this
theorem mN(w:Int):∀a:List bC,(ff w a).1.length+(ff w a).2.length<=a.length/\(∀p∈(ff w a).1,∃b∈a,p=bw b)/\(a≠[]->(ff w a).1≠[]):=by
 apply B5;.exact⟨al _,λp m=>(by cases m),absurd rfl⟩
 .intro l b z;refine gR z λd h _=>?_;clear z;rw[nG];haveI c:∀p∈(ff w l).1,∃v∈l++[b],p=bw v:=λp m=>by refine aU (h p m) λv i e=>⟨v,bp _ i,e⟩
  rcases EA w b (ff w l) with e|e
  .rw[e];refine⟨by simp;exact Ų d,λp m=>?_,λ_=>by simp⟩;refine dy (bO.mp m) (λm=>?_) λm=>?_;.exact c p m
   .rw[ao] at m;exact⟨b,by simp,m⟩
  .rw[e];by_cases f:(ff w l).1=[]
   .haveI:chunk w b (ff w l)=((ff w l).1++[bw b],(ff w l).2):=by unfold chunk;rw[if_pos<|.inr f]
    rw[this] at e;haveI g:=congrArg tQ e;simp at g
   .haveI:=ik.mpr f;refine⟨by simp;exact ų d this,λp m=>?_,λ_=>by simp⟩;rw[ao] at m;exact⟨b,by simp,m⟩
end
section
open PySem PySem.W PySem.Calls PyProof.Rows PySem.SeqAt PySem.Builtin.ObjectAttr Builtin
noncomputable abbrev ahm:FuncData:=jG (g8 PP 9 0) "_ValueFormatter.__init__" [] .none .none .none (.str "cpy313.email.header" 583) ah (.ref 259) .none
theorem Xm(W):gH W 260 ahm (dA<|g8 PP 9 0) ["self","headerlen","maxlen","continuation_ws","splitchars"]:=.plain
theorem Xn(W:Wd):l7 W.K a_ "_Accumulator"=ae (ae<|.ref 403):=by kernel_rfl
theorem Xo(W:Wd):l7 W.K a_ "_ValueFormatter"=ae (ae<|.ref 319):=by kernel_rfl
noncomputable def aey(w:Int):List<|bC×T:=[("_maxlen",.int w),("_continuation_ws",.str " "),("_continuation_ws_len",.int 1),("_splitchars",.str " ")]
noncomputable def aez(w:Int)(l:cj):List<|bC×T:=[("_maxlen",.int w),("_continuation_ws",.str " "),("_continuation_ws_len",.int 1),("_splitchars",.str " "),("_lines",.val (.ref l))]
theorem aeA(w l):ee "_lines" (.val<|.ref l) (aey w)=aez w l:=by with_unfolding_all rfl
noncomputable abbrev aeB(w:Int)(x d l dh:cj):bM:=g9 x d []++[(l,Ob.list []),(dh,.dict (Aj w l x))]
theorem B6:cu W (.ref 260) [T.inst h 319 dh,.int 0,.int w,.str " ",.str " "] 4 [(dh,.dict [])] λt i=>t=.none/\∃x d l,i=aeB w x d l dh:=by
 refine cu.of (Xm W) ["self","headerlen","maxlen","continuation_ws","splitchars"] [] [("self",ae (T.inst h 319 dh)),("headerlen",ae (.int 0)),("maxlen",ae (.int w)),("continuation_ws",ae (.str " ")),("splitchars",ae (.str " "))] (λo r=>?_) rfl (λL I _=>?_) λt y h=>?_;.refine Zd r λa b c d e=>?_;kernel_rfl
 .refine .setAttr (.g 2) .n0 .inst .here<|.setAttr (.g 3) .n0 .inst .here<|.setAttr (.cast (.call (.builtin (oR W) oS oT) (.builtin _) (.cons (.g 3) .nil) (cf.M2<|by decide)<|au _) rfl) .n0 .inst .here<|.setAttr (.g 4) .n0 .inst .here ?_;skip;refine .Dj (.oh .nil<|au _) λu f v=>aU v λl j n=>?_;subst j;subst n;refine Za _ _ _ _ (aey w) _ .n0 .inst (.there .here) ?_ (by show 4<=900;decide)<|by kernel_rfl
  rw[aeA];refine .Dj (.call (.glob (Xn W)<|by kernel_rfl) (.k<|by kernel_rfl) (.cons .n1 .nil) (.refl _) (λp m=>by cases m) B0<|by show 3<=3;decide) λu f s=>?_;refine aU s λi q0 q=>?_;clear s;refine j7 q0 λx d j n=>?_;clear q0;subst j;subst n;subst q;refine Za _ _ _ _ (aez w l) _ .n0 .inst (.there<|.there<|.there .here) ?_ (by show 5<=900;decide)<|by kernel_rfl
  skip;exact .nil<|.inr ⟨rfl,rfl,x,d,l,rfl⟩
 .refine bu h λ_ q1=>?_;clear h;refine Rd q1 λx d l q2=>?_;clear q1;subst q2;intro p m;refine dy (bO.mp m) (λm=>?_) λm=>?_;.exact nQ p m
  .refine eQ m ?_ λm=>?_;.rfl
   .rw[ao] at m;subst m;rfl
theorem OQ:cu W (.ref 319) [.int 0,.int w,.str " ",.str " "] 5 [] λt a=>∃h dh,t=T.inst h 319 dh/\∃x d l,a=aeB w x d l dh:=λA G s j i I h f=>JQ (by kernel_rfl) i I h f λh dh=>B6
theorem bZ.ahn(h:Ev C f Ω e t)(i:P (.ret t) f bT)(hs:bT.Sublist Ω):bZ C f Ω (.Return (ae e) pos::rest) P:=.block λA G s j I S=>by refine pn<|Run.use (h A G s j I S) λv g b c a d=>?_;exact⟨.ret t,f,bT,b,i,⟨v,rfl,d⟩,c,(S.mono a).sub hs,a.sub⟩
noncomputable abbrev ib:bM:=[(365,li),(372,li)]
theorem B7:∀p∈ib,p.2.gT=false:=fm rfl<|fm rfl uR
noncomputable abbrev aeC:FuncData:=jG (oB PP 20) "_law_fold" [] .none .none .none (.str "law_wz0046_01" 883) ah (.ref 472) .none
theorem SJ(W):gH W 473 aeC (dA<|oB PP 20) ["words","width","hand","word"]:=.plain
noncomputable abbrev Ø(a:List bC)(w:Int)(b c:Option T):cG:=[("words",ae (.list<|a.map .str)),("width",ae (.int w)),("hand",b),("word",c)]
theorem EB{a:List bC}(f:∀c∈a,0<c.length/\c.length<=900/\eZ c=false)(e:i<=a.length):(ff w<|a.take i).1.length<=i/\(ff w<|a.take i).2.length<=i/\∀q∈(ff w<|a.take i).1,q.1.length<=1000/\q.2.length<=1000:=by(haveI b:=(mN w<|a.take i).1;haveI d:=(mN w<|a.take i).2.1);rw[bh,dB e] at b;refine⟨Ŵ b,ŵ b,λq m=>?_⟩;refine aU (d q m) λv g h=>?_;subst h;exact⟨by show 1<=1000;decide,ab (f v<|f8 g).2.1<|dN tt⟩
theorem Am(F:c.length<=800)(s:∀z∈c,0<z.length/\z.length<=900/\eZ z=false):cu W (.ref 473) [.list<|c.map .str,.int w] 9 ib λt f=>t=.list ((fz w c).map .str)/\f=ib:=by
 refine cu.of (SJ W) ["words","width"] ["hand","word"] (Ø c w ah ah) (λa0 hl=>?_) rfl (λL I _=>?_) λt bT h=>by refine bu h λ_ q0=>?_;try clear h;subst q0;exact B7
 .refine sD hl λa b=>?_;kernel_rfl
 refine .iK (.call (.glob (Xo W)<|by kernel_rfl) (.k<|by kernel_rfl) (.cons .int<|.cons .n1<|.cons .str<|.cons .str .nil) (bT:=ib) (.refl _) (λp m=>by cases m) OQ<|by show 5<=8;decide) ai λt j zq=>?_;refine aU zq λf z0 e3=>?_;clear zq;refine cc z0 λh z1=>?_;clear z0;refine cc z1 λr z2=>?_;clear z1;refine bu z2 λe1 z3=>?_;clear z2;refine Rd z3 λx d l e2=>?_;clear z3;subst e1;subst e2;subst e3;refine⟨_,.g 2,?_⟩;refine .perm ?_ gV;refine .vO (λ_ _=>Ø c w (ae<|T.inst h 319 r) ah) (λi _=>lE w x d l r (ff w<|c.take i).1 (ff w<|c.take i).2) (λ_ _=>True) (λ_=>false) () (.list .n0<|.name _ _) trivial rfl ?_ ?_
 .intro i t _ Δ Qe qe S _;rw[aq] at S;refine aU (aT.mp S) λz o q5=>?_;subst q5;have E:=(List.getElem?_eq_some_iff.mp o).1;refine gR (EB (w:=w) s<|aF E) λA C B=>?_;have H:=s z<|aZ o;haveI e:ff w (c.take<|i+1)=chunk w z (ff w<|c.take i):=by rw[cA,o];exact nG ..
  rw[e] at qe;refine⟨_,.name ai<|.g 3,?_⟩;refine .rB (.nK (.g 2) .inst (av _ fM) rfl rfl (.cons .str<|.cons (.g 3) .nil) gV xZ (OP (by rw[aM];exact(aK<|ab A<|ab (aF E)<|ab F<|by decide)) (λq m=>(bO.mp m).elim (B q) λm=>ao.mp m▸⟨by show 1<=1000;decide,ab H.2.1<|dN tt⟩)<|ab C<|ab (aF E)<|ab F<|by decide)<|by show 7<=8;decide) λt j D=>?_;refine aU D λf z4 z7=>?_;clear D;refine bu z4 λz5 z6=>?_;clear z4;subst z5;subst z6;subst z7;exact .perm (.nil<|qe<|.next (f4 3) () trivial rfl) gV
 .intro _ _;refine gR (EB (w:=w) s<|al _) λA C B=>?_;rw[af,dn];rw[dn] at A C B;have M:cu W (.ref 281) [T.inst h 319 r] 7 (lE w x d l r (ff w c).1 (ff w c).2) λt f=>t=.none/\f=lE w x d l r [] (fz w c):=by
   (haveI R:=(mN w c).2.1;haveI h3:=(mN w c).2.2);unfold fz;by_cases n:(ff w c).1=[]
   .rw[if_pos n,n];exact GY
   .rw[if_neg n];obtain⟨qs,p,G⟩:∃qs p,(ff w c).1=qs++[p]:=(CN _ _ (List.dropLast_concat_getLast n).symm);rw[G] at A B R⊢;refine aU (R p<|by simp) λv N P=>?_;subst P;(haveI Q:=(s v N).1;haveI v2:=(s v N).2.1;haveI v3:=(s v N).2.2);refine KM (Ÿ F A) B (λe=>?_) ?_ (zk (p:=bw v) (by simp) v3 Q)<|by omega
    .haveI:=e;subst this;exact absurd Q<|by decide
    .unfold kq;rw[aJ,gp];skip;skip;show _+(_+v.length+0)≠0;exact Ź Q
  refine .rB (.nK (.g 2) .inst fM rfl rfl .nil (by rw[bD]) xZ M<|by show 7<=8;decide) λt j D=>?_;refine aU D λf z8 Zz=>?_;clear D;refine bu z8 λz9 ZB=>?_;clear z8;subst z9;subst ZB;subst Zz;rw[bD];refine .perm ?_ oG;refine .r9 iS (λy u m=>.inl m) rfl rfl (r8.app (.attr (name:="_lines") rfl .nil)<|gX x d [])<|.drop (bT:=ib++[(r,.dict (ee "_lines" (.list<|(fz w c).map .str)<|Aj w l x))]) ?_<|oF (n7 ib<|g9 x d [])<|.refl _;exact .ahn (.attr (.g 2) .inst (.tail _<|.tail _<|.head _) rfl rfl fE) (.inl ⟨_,rfl,rfl,rfl⟩)<|n7 ib _
end
section
open PyProof.Rows renaming Compare_chain->YZ,chain_link->Y0,chain_last->Y1
open PySem PySem.W PySem.Calls PyProof.Rows PySem.SeqAt
section
end
section
noncomputable def T.Rt(ns:List Int):T:=.any (λG v=>∃l o a n,v=.ref l/\G l=ae o/\o.cls=.type "list"/\o.data=.seq a n/\aG G a.toList (ns.map .int)) λ_ _ _ b h=>Ms h λl o a n c d e f g=>Y_ l o a n c (b _ _ d) e f<|g.mono b
theorem Ev.SK{B st:Option gw}(h:Ev C r Ω k<|T.Rt ns)(W:Part C r Ω B l)(hu:Part C r Ω R u)(ht:Part C r Ω st t)(N:t≠ae 0)(hsz:ns.length<=aA):Ev C r Ω (.Subscript k (.Slice B R st p) pos)<|.list<|lK (ns.map .int) l u t:=λA G s D I S=>by
 refine mQ<|Run.use (h A G s D I S) λv E x m i q=>?_;refine mY W hu ht D m (S.mono i) λy f d j sl vl vu vt w p1 p2 p3=>Ms (Tr.anyOf<|q.mono j.sub) λa o H n q0 g P Q F=>?_;subst q0;haveI z:f.heap.IsList a H:=⟨o,d.hM _ _ g,P,n,Q⟩;haveI e:=F.length;simp only [aP,af] at e;refine fX z.typeIs slot_list_getitem.lookup (HC z w p1 p2 p3 N ?_<|AY hsz e)<|by cases st<;>first|exact .inl rfl|exact .inr rfl
 obtain⟨L,M,b,c⟩:=iQ (s':={f with heap:=f.heap.push {cls:=.type "list",data:=.seq<|tR H l u t}}) d rfl rfl rfl rfl (Tr.seq (Gh.fD _ _ _) rfl (λ_=>rfl) rfl<|(F.slice l u t).mono<|Gh.dT<|d.cL<|al _);exact⟨L,M,(i.trans j).trans b,c⟩
theorem fe.qi(h:sF n xs ys b)(hn:autoParam (n<=100) adc):fe .NotEq (.list xs) (.list ys)<|!b:=λW A G s v u ok I hv hu=>by refine gc (hv.isList I) λa vs q0 hl tv=>?_;subst q0;refine gc (hu.isList I) λc us q1 hb ty=>?_;subst q1;haveI room:=Mw hn ok.units;have q:=mo.at h tv ty (λx y b v z p hx=>nA I p A.in1 v z (ź room) hx) λe he h=>h▸H0 (motive:=λb=>RcNeAt A s (.ref a) (.ref c)<|!b) (λz=>RcNeAt.lists hl hb z (Ux room) he) λz=>RcNeAt.lists_lengths hl hb z<|Ux room;exact q PP W.w _ _ ⟨G,I,.refl G s,rfl⟩
theorem EC[Decidable p] [Decidable q] [Decidable r](h:p↔q/\r):decide p=(decide q&&decide r):=(decide_eq_decide.mpr h).trans<|pD q r
theorem sF.ED{α:Type} [DecidableEq α]{f:α->T}(h:∀a b,lh n (f a) (f b)<|decide<|a=b)(xs c:List α):sF n (xs.map f) (c.map f)<|decide<|xs=c:=by
 induction xs generalizing c with
 |nil=>cases c with|nil=>exact .nil|cons y c=>exact .right _ _
 |cons x xs d=>cases c with|nil=>exact .left _ _|cons y c=>rw[EC<|Iff.of_eq<|FT ..];exact .cons (h x y)<|d c
theorem aeD{α:Type} [DecidableEq α] [BEq α] [LawfulBEq α](a b:α):(a==b)=decide (a=b):=by
 by_cases h:a=b;.rw[decide_eq_true h];exact beq_iff_eq.mpr h
 .rw[decide_eq_false h];exact beq_eq_false_iff_ne.mpr h
theorem lh.zl(a b):lh n (.str a) (.str b)<|decide<|a=b:=(aeD a b)▸.str a b
theorem lh.intD(a b):lh n (.int a) (.int b)<|decide<|a=b:=(aeD a b)▸.int a b
theorem lh.EE{α:Type} [DecidableEq α]{f:α->T}(h:∀a b,lh n (f a) (f b)<|decide<|a=b)(xs c:List α):lh (n+1) (.list<|xs.map f) (.list<|c.map f)<|decide<|xs=c:=.ofList<|sF.ED h xs c
theorem lh.code(a b:dp):lh (n+1) a.t b.t<|decide<|a=b:=by
 haveI:decide (a=b)=(decide (a.tag=b.tag)&&(decide (a.i=b.i)&&(decide (a.j=b.j)&&(decide (a.x=b.x)&&(decide (a.y=b.y)&&aj))))):=by
  cases a;cases b
  simp only [dp.mk.injEq,iX,pD]
 rw[this];exact .HZ<|.cons (.zl _ _)<|.cons (.intD _ _)<|.cons (.intD _ _)<|.cons (.intD _ _)<|.cons (.intD _ _) .nil
theorem Ev.Xp(h:Ev C Γ Ω l a)(h1:Ev C Γ Ω r b)(h2:Ev C Γ Ω t c)(o1:fe f a b x)(o2:fe i b c y) (hm:autoParam (lastMarks [f,i] [r,t]=false) ń):Ev C Γ Ω (.Compare l [f,i] [r,t] pos)<|.bool<|x&&y:=λA G s P I S=>by refine YZ (Run.use (h A G s P I S) λv Q B F m M=>?_) hm;refine Y0<|Run.use (h1 A B Q P F<|S.mono m) λu R D H n q=>?_;refine Run.use (o1 C.W A D R v u (P.le<|au _) H (M.mono n.sub) q) λz a0 j k o e=>?_;subst e;refine cm ?_;haveI d:=(m.trans n).trans o;cases x with|false=>exact⟨j,k,d,.bool _⟩|true=>refine Y1<|Run.use (h2 A j a0 P k<|S.mono d) λw a1 E L p N=>?_;refine Run.ext (d.trans p)<|(o2 C.W A E a1 u w (P.le<|au _) L (q.mono (o.trans p).sub) N).mono ?_;rintro v G' s' _ _ rfl;exact Tr.bool _
theorem EF:∀(l:List<|bC×Tok),aG G (tW l)<|(l.map (·.1)).map .str|[]=>.nil|(x,t)::l=>.cons (.str x t)<|EF l
theorem cf.split(f:x.length<=aA)(d:(nz x<|x.length+1).length<=aA):cf (.builtin "str.split") [.str x] 0<|.list<|(rO x).map .str:=λW A G s i g I h=>by
 cases h using aG.ca with|cons h r=>
  cases r;cases h
  rename_i t;refine rp zI (wi _ _ _) PySem.F.entry_str_split (PySem.F.args_str_split_1 _) (meets_str_split_space x t f d) ?_;have a:∀(l) (c),l.map (·.1)=rO x->ua W G s (KT<|.list<|(rO x).map .str) (.ref s.heap.objs.size) {s with toks:=c,heap:=s.heap.push {cls:=.type "list",data:=.seq (tW l).toArray}}:=λl c e=>by refine iQ I rfl rfl rfl rfl ?_;rw[<-e];exact Tr.wW rfl rfl 0 rfl (I.cL<|al _)<|EF l
  cases b:nz x (x.length+1)==[(0,x.length)]
  .skip;rw[strsFrom_eq];exact a (numbered s.toks<|PySem.wordsOf x) _<|(numbered_texts _ _).trans (if_neg<|ne_true_of_eq_false b).symm
  .skip;exact a [(x,t)] s.toks (if_pos b).symm
end
noncomputable def Gh.more(G:Gh)(b:lm)(l:List cj):Gh:=λa=>match G a with|some o=>ae o|none=>if a∈l then b.get? a else ah
section
variable {K:Type}[DecidableEq K] 
theorem Gh.x5{G:Gh}:∀a o,G a=ae o->G.more b l a=ae o:=λa o e=>by unfold Gh.more;rw[e]
theorem Gh.x6{G:Gh}(c:G a=ah)(m:a∈l):G.more b l a=b.get? a:=by unfold Gh.more;rw[c];exact if_pos m
theorem Gh.Dh{G:Gh}(e:G.more b l a=ae o):G a=ae o\/(a∈l/\b.get? a=ae o):=by
 unfold Gh.more at e;cases h:G a with|some x=>rw[h] at e;exact .inl e|none=>
  rw[h] at e;by_cases m:a∈l;.exact .inr ⟨m,(if_pos m).symm.trans e⟩
  .exact nS<|(if_neg m).symm.trans e
theorem An(I:Inv W G s)(d:∀b o,s.heap.get? b=ae o->c.get? b=ae o)(f:∀a∈l,s.heap.get? a=ah)(g:Tr (G.more c l) v t):ua W G s (KT t) v {s with heap:=c,toks:=i}:=by
 refine⟨G.more c l,⟨λa o e=>?_,λa o e=>Gh.x5 a o<|I.hb a o e,I.bare,I.os⟩,⟨d,Gh.x5,λa o e=>?_⟩,g⟩;.exact(Gh.Dh e).elim (λq=>d _ _<|I.hM _ _ q) λq=>q.2
 .exact(Gh.Dh e).elim .inl λq=>.inr<|f a q.1
theorem EG(c:b.length=ts.length)(h:∀(j:Nat) v t,b[j]?=ae v->ts[j]?=ae t->Tr G v t):aG G b ts:=by
 induction b generalizing ts with
 |nil=>cases ts with|nil=>exact .nil|cons t ts=>cases c
 |cons v b d=>cases ts with
  |nil=>cases c
  |cons t ts=>exact .cons (h 0 v t rfl rfl)<|d (by simpa using c) λj v t a=>h (j+1) v t a
theorem OR(I:Inv W G s)(e:s.heap.get? a=ah):G a=none:=by cases q:G a with|none=>rfl|some o=>rw[I.hM _ _ q] at e;cases e
theorem zm{κ:j' K}(hz:kvs.length<=aA):gW W (.type "list") [T.dk κ W kvs] 0 []<|.list<|kvs.map λp=>κ.enc p.1:=λA G s vs Q I N _=>by
 cases N using aG.ca with|cons h r=>
  refine mG h.Dm λd od R f E i=>?_;subst R;cases r
  have l:=I.hM _ _ E;refine ix (i.of l) λe z o d3=>?_;haveI q:=kn o;refine cc z.dictAt λep B=>?_;haveI b:s.heap.get? s.heap.objs.size=none:=aV<|al _;refine kdl_call (kdl_dict f) Q.hd B (AY hz q) λh' tk g c P D u=>An I P (λa m=>by rw[ao] at m;rw[m];exact b)<|.seq (by rw[Gh.x6 (OR I b)<|ao.mpr rfl];exact D) rfl (λ_=>rfl) rfl ?_;haveI C:g.toList.length=e.length:=by rw[aP];exact u.1
  refine EG (by rw[C,q,af]) λj v t H w=>?_;obtain⟨k,x,L,F⟩:=u.2 j v (by rw[<-bN];exact H);rw[aq] at w;refine aU (aT.mp w) λp M S=>?_;subst S;haveI:p.1=k:=by
   haveI n:(e.map (·.1))[j]?=ae k:=by rw[aq,L];rfl
   haveI y:(kvs.map (·.1))[j]?=ae p.1:=by rw[aq,M];rfl
   rw[o,y] at n;exact bq n
  rw[this];exact κ.of W _ k v F
theorem Ev.listItems{lf:gw}{kvs:List (K×T)}(a3:Ev C Γ Ω lf<|.val<|.type "list")(ho:Ev C Γ Ω o<|T.dk κ C.W kvs)(hz:kvs.length<=aA) (hb:autoParam (∀env,dG o "items" env (bG o env)=bG o env) eX)(u:autoParam ((b.endLine==e.line)=aj) iF) (a5:autoParam (∀env,aw [.Call (.Attribute o "items" b) [] [] e] env=(false,bG (.Call (.Attribute o "items" b) [] [] e) env)::aw [] env) eX) (R:autoParam (∀env,(bb pos<|aw [.Call (.Attribute o "items" b) [] [] e] env).any (·.1)=false) eX) (he:autoParam (∀env,bG (.Call lf [.Call (.Attribute o "items" b) [] [] e] [] pos) env=(do bS pos (<-bG lf env) [] (bb pos<|aw [.Call (.Attribute o "items" b) [] [] e] env) (bK pos<|aX [] env))) eX):Ev C Γ Ω (.Call lf [.Call (.Attribute o "items" b) [] [] e] [] pos)<|.list<|kvs.map λp=>.tuple [κ.enc p.1,p.2]:=λA G s ok I S=>by
 refine qw ?_<|he _;refine Run.use (a3 A G s ok I S) λv a9 a8 l n i=>?_;cases i
 refine gG (.type _) l.k ?_<|R _;refine nV ?_<|a5 _;haveI B:=S.mono n;refine xm ok l B ho ia.stay.typeIs j4 j5 yR .nil (λv vs G' Q I' S' X' i N=>?_) (λenv=>rfl) hb (λenv=>rfl) u;cases N
 refine mG i.Dm λd ob q0 M hG a0=>?_;subst q0;have a4:=I'.hM _ _ hG;refine ix (a0.of a4) λr d1 d2 d3=>?_;haveI en:=kn d2;refine yF j5 d1.typeIs yG (wN _) (Yh (κ.knd C.W) d M) ⟨⟨r,d1⟩,?_⟩;refine cc d1.dictAt λep da=>?_;haveI h:=I'.g4 {cls:=.type "dict_items",data:=.fields #[.ref d]};haveI D:=X'.trans<|Ext.g4 G' Q {cls:=.type "dict_items",data:=.fields #[.ref d]};refine cE ⟨h.k,?_⟩;haveI f:∀a,(Q.heap.push {cls:=.type "dict_items",data:=.fields #[.ref d]}).objs.size<=a->(Q.heap.push {cls:=.type "dict_items",data:=.fields #[.ref d]}).get? a=Option.none:=λa=>aV;refine kdx_call ok.hd ⟨_,aS _ rfl,rfl,rfl⟩ (da.push _) (AY hz en) λh' tk b0 c as kp hD hl hg q=>?_;have H:∀a∈(Q.heap.push {cls:=.type "dict_items",data:=.fields #[.ref d]}).objs.size::as,(Q.heap.push {cls:=.type "dict_items",data:=.fields #[.ref d]}).get? a=Option.none:=λa m=>by
  refine eQ m ?_ λm=>?_;.exact f _<|al _
  .exact f _<|aF<|hg.above a m
 obtain⟨w,z,E,P⟩:=An (t:=.list<|kvs.map λp=>.tuple [κ.enc p.1,p.2]) h kp H (by
  refine .seq (by rw[Gh.x6 (OR h<|f _<|al _) bH];exact hD) rfl (λ_=>rfl) rfl<|EG (by rw[q,af,hl,af,en]) λj v t hj ht=>?_;rw[q,aq] at hj;refine aU (aT.mp hj) λa ha q1=>?_;subst q1;rw[aq] at ht;refine Mq (hg.pairs j a ha) λa7 k x hk hi L=>aU (aT.mp ht) λp R q2=>?_;subst q2;haveI ma:=aZ ha;haveI e1:p.1=k:=by
   haveI a1:(r.map (·.1))[j]?=ae k:=by rw[aq,hk];rfl
   haveI a2:(kvs.map (·.1))[j]?=ae p.1:=by rw[aq,R];rfl
   rw[d2,a2] at a1;exact bq a1
  haveI e2:Tr G' x p.2:=by
   obtain⟨y,hy,a6⟩:=d3.get (k:=j) (t:=p.2) (by rw[aq,R];rfl);rw[aq,hk] at hy;cases hy
   exact a6
  refine .seq (by rw[Gh.x6 (OR h<|H a<|aY _ ma)<|aY _ ma];exact L) rfl (λ_=>rfl) rfl ?_;exact .cons (by rw[e1];exact κ.of C.W _ k a7 hi)<|.one<|e2.mono Gh.x5);exact⟨w,z,(n.trans D).trans E,P⟩
theorem pz.OS(N:Ev C F Ω k x)(W:Ev C F Ω o<|.val<|.ref a)(m:(a,b)∈Ω)(H:b.bare=.list ts)(M:∀t∈ts,lh n t x (f t))(R:autoParam (n<=100) adc) (Q:autoParam (iA .NotIn o=false) iF):pz C F Ω (.Compare k [.NotIn] [o] pos)<|!ts.any f:=λA G s E I S=>by
 refine eg ?_ Q;refine Run.use (N A G s E I S) λv z j p d r=>?_;refine Run.use (W A j z E p<|S.mono d) λu B l i g w=>?_;cases w
 refine gR (((S.mono d).mono g).own _ m) λ_ q0 _=>aU q0 λo D q=>?_;haveI q:=Ob.j_.mpr q;rw[H] at q;refine j7 q λvs c q1 tv=>?_;try clear q;subst q1
 have P:B.heap.IsList a vs:=⟨_,D,rfl,_,rfl⟩;obtain⟨e,L,h⟩:=Rx (A:=A.in1) i (by haveI:=E.units;unfold jj;show A.units+1+n<_;exact Ż R this) (r.mono g.sub) tv M;refine ahN e P (λy hy=>L y<|f6.mpr hy)<|cm ⟨l,i,d.trans g,?_⟩;rw[<-h,ie]
end
end
section
open PySem.Builtin.Tuple renaming tupleCompareSizes->Yq
open PySem.F renaming slot_tuple_ne->AW
open PySem PySem.W PySem.Calls PyProof.Rows PySem.SeqAt AutoSeq1 MeetsSeq MeetsSeq2 MeetsSeq3 SeqRoads2
noncomputable def OT(W:Wd)(op:CmpOp)(a b:T)(r:Bool):Prop:=∀A G s v u,Ok A 0->Inv W G s->Tr G v a->Tr G u b->Run W A (Yc op v u) G s (λx _ _=>x=.bool r)
section
variable {K:Type}[DecidableEq K] 
theorem fe.ū(h:fe op a b r):OT W op a b r:=h W
theorem pz.aho(h:Ev C E Ω l a)(k:Ev C E Ω r b)(o:OT C.W op a b c)(F:autoParam (iA op r=false) iF):pz C E Ω (.Compare l [op] [r] pos) c:=λA G s B I S=>by refine eg (Run.use (h A G s B I S) λv y f j d q=>?_) F;refine Run.use (k A f y B j<|S.mono d) λu z g m e t=>?_;refine Run.use (o A g z v u (B.le<|au _) m (q.mono e.sub) t) λx D i n p w=>?_;subst w;exact cm ⟨i,n,(d.trans e).trans p,rfl⟩
noncomputable def zn(W:Wd)(A:mP)(s:bk)(y x:aW)(b:Bool):Prop:=∀(E) (Q),Q b s->aD W.M A (eqBool y x) Q E s
theorem zn.of(h:TM A s y x b):zn W A s y x b:=λE Q=>h PP W.w E Q
theorem GZ(l b c a n C v i D o) (B:s.heap.get? l=ae {cls:=.type "tuple",dict:=v,data:=.seq c n,slots:=D})(w:s.heap.get? b=ae {cls:=.type "tuple",dict:=i,data:=.seq a C,slots:=o}) (hs:c.size=a.size)(z:∀p∈c.toList.zip a.toList,zn W A s p.1 p.2 aj)(h:Q (.done<|.ret<|.bool false) s):aD W.M A (dF.«tuple.__ne__» ⟨[.ref l,.ref b],[]⟩) Q E s:=by
 obtain⟨r,g,d,u,t⟩:=s;haveI H:=wM;wp_walk using rM B,rM w,wpAny_forIn_list _ (λe b k=>b.1=ah/\k=⟨r,g,d,u,t⟩/\∀p∈e,zn W A ⟨r,g,d,u,t⟩ p.1 p.2 aj) _;case turn=>rintro⟨y,x⟩ e b k ⟨f,rfl,j⟩;refine aa<|j _ (.head _) _ _ ?_;wp_walk;exact⟨rfl,rfl,λq m=>j q<|.tail _ m⟩
 case fin=>rintro⟨F,G⟩ k ⟨f,rfl,j⟩;subst f;wp_walk;simpa [Yq,bne,hs] using h
 case h=>exact⟨rfl,rfl,z⟩
noncomputable def IK(x y:Stat):Prop:=x.a=y.a/\x.b=y.b/\x.c=y.c/\x.d=y.d/\x.e.length=y.e.length/\∀p∈x.e,jo y.e p.1=ae p.2
theorem OU(c:i.map (·.1)=(oE j).map (·.1))(d:aG G (i.map (·.2))<|(oE j).map (·.2))(h:b.map (·.1)=(oE a).map (·.1))(o:aG G (b.map (·.2))<|(oE a).map (·.2))(g:∀p∈a,jo j p.1=ae p.2):KeqHits A s i b true:=by
 induction b generalizing a with|nil=>exact .nil|cons p b w=>cases a with|nil=>exact absurd h<|gE _ _|cons q a=>
   have e:=(gZ h).1;have l:=g q<|.head _;obtain⟨k,v⟩:=p;cases o using aG.t_ with|cons r n=>
    obtain⟨x,rfl⟩:∃t,v=.int q.2 t:=by cases r;exact⟨_,rfl⟩
    obtain⟨y,u,f⟩:=(lC k c d).1 (.int q.2) (by rw[qG,show k=q.1 from e,l];rfl);obtain⟨B,rfl⟩:∃t,y=.int q.2 t:=by cases f;exact⟨_,rfl⟩
    have z:=KeqHits.hit u (CF q.2 x q.2 B)<|w (gZ h).2 n λp m=>g p<|.tail _ m;rw[beq_self_eq_true] at z;exact z
theorem KN(I:Inv W G s)(B:A.units+1<jj)(C:Tr G v<|T.dk kS W<|oE x)(D:Tr G u<|T.dk kS W<|oE y)(z:x.length=y.length)(h:∀p∈x,jo y p.1=ae p.2):zn W A s v u true:=λE Q l=>by
 refine mG C.Dm λa R L g d t=>?_;subst L;refine mG D.Dm λb S M i e w=>?_;subst M;by_cases c:a=b;.subst c;exact(zn.of<|LY _) E Q l
 .skip;refine aQ<|wpAny_ite_split (λq=>absurd (by haveI:=h7 q;injection this) c) λ_=>?_;refine ix (t.of<|I.hM _ _ d) λN m j n=>ix (w.of<|I.hM _ _ e) λP o k r=>?_;haveI F:=kn j;haveI H:=kn k;haveI f:N.length=P.length:=by rw[F,H];unfold oE;rw[af,af];exact z
  refine aa ?_;skip;refine keq_eq g i m o (aF B) (λ_=>OU k r j n h) ?_;rw[f];refine cm ?_;simpa using l
theorem wA(e:i=j)(v u)(b:Tr G v<|.int i)(a:Tr G u<|.int j):zn W A s v u true:=by
 subst e;obtain⟨c,rfl⟩:∃t,v=.int i t:=by cases b;exact⟨_,rfl⟩
 obtain⟨d,rfl⟩:∃t,u=.int i t:=by cases a;exact⟨_,rfl⟩
 exact .of<|beq_self_eq_true i▸CF i c i d
theorem qj(h:∀v u,Tr G v t->Tr G u t'->zn W A s v u aj)(r:∀e us,aG G e ts->aG G us Vc->∀p∈e.zip us,zn W A s p.1 p.2 aj)(e us)(g:aG G e<|t::ts)(f:aG G us<|t'::Vc):∀p∈e.zip us,zn W A s p.1 p.2 true:=by cases g using aG.ca with|cons a b=>cases f using aG.ca with|cons c d=>exact fm (h _ _ a c)<|r _ _ b d
theorem OT.Xq(h:IK x y):OT W .NotEq (x.t W) (y.t W) false:=λA G s v u z I k l=>by
 refine gc (k.jY I) λa p q0 q1 m=>?_;subst q0;refine cc q1 λr q2=>?_;clear q1;refine bu q2 λd q3=>?_;clear q2;refine bu q3 λe q4=>?_;clear q3;refine cc q4 λM g=>?_;clear q4;refine gc (l.jY I) λb o q5 q6 n=>?_;subst q5;refine cc q6 λw q7=>?_;clear q6;refine bu q7 λj q8=>?_;clear q7;refine bu q8 λf q9=>?_;clear q8;refine cc q9 λN i=>?_;clear q9;obtain⟨D,H,P,B⟩:=r;obtain⟨E,L,Q,C⟩:=w;dsimp only at e g f i;subst e;subst g;subst f;subst i;have c:A.units+100<cLine:=by haveI:=z.units;unfold jj;exact(az (bX this 100)<|by decide)
 refine wpAny_richCompare_same_room (op:=.NotEq) ⟨_,d,rfl⟩ ⟨_,j,rfl⟩ AW (ec AW ⟨_,d,rfl⟩ PySem.F.entry_tuple_ne ?_<|PySem.F.args_tuple_ne_2 _ _)<|Ž c;exact GZ a b p o _ _ _ _ _ _ d j (m.length.trans n.length.symm) (qj (wA h.1) (qj (wA h.2.1)<|qj (wA h.2.2.1)<|qj (wA h.2.2.2.1)<|qj (λv u k l=>KN I (show A.units+1+1<jj from ž c) k l h.2.2.2.2.1 h.2.2.2.2.2) λp o k _=>by cases k;exact uR) _ _ m n) ⟨_,rfl,(λq=>nomatch q),⟨G,I,.refl G s,rfl⟩⟩
end
end
section
open Int renaming le_ediv_iff_mul_le->FG
open PySem PySem.W PySem.Calls PyProof.Rows PySem.SeqAt
section
variable {K:Type}[DecidableEq K] 
noncomputable def qk(d:List<|K×T)(kvs:List<|K×T):List<|K×T:=kvs.foldl (λd p=>putK d p.1 p.2) d
theorem KO(kvs):∀d:List<|K×T,(qk d kvs).length<=d.length+kvs.length:=by induction kvs with|nil=>intro d;exact al _|cons p kvs a=>intro d;haveI:=a<|putK d p.1 p.2;haveI:=Nk d p.1 p.2;skip;rw[be];exact Ug (by assumption) this
noncomputable def IL(κ:j' K)(C:Cx)(d:cG)(Ω:bM)(a e f:gw)(ts:List T)(kvs:List<|K×T):Prop:=kvs.length=ts.length/\∀(i:Nat) (t) (p),ts[i]?=ae t->kvs[i]?=ae p->∃b,CD C d a t b/\(∀x t,(x,ae t)∈d->(x,ae t)∈b)/\∀c,(∀p∈Ω,p∈c)->Ev C b c e (κ.enc p.1)/\Ev C b c f p.2
theorem B8{κ:j' K} (io:F3 C.W l it ts J)(cl:IL κ C Γ Ω l kx vx ts kvs)(ok:Ok A C.n)(hz:kvs.length<=aA)(pins G s)(hJ:J 0 pins G)(hI:Inv C.W G s)(hS:St C Γ ((f,Ob.dk κ C.W [])::(i5 pins++Ω)) G s) (hR:∀D s',Inv C.W D s'->(∀a x,G a=ae x->D a=ae x)->St C Γ ((f,Ob.dk κ C.W (qk [] kvs))::Ω) D s'->R (.ok .next) s'):gU C.W.M A (.compLoop (.DictComp kx vx [⟨l,b0,[],0⟩] a9 pos) 0 it (.ref f) C.env) R s:=by
 refine zY (λi b=>b=Ob.dk κ C.W (qk []<|kvs.take i)) (compTurn_dict ..) io ok (λi t b v D b1 e Q ht B hI hS hv hQ=>?_) (λb B=>?_) (au _) hJ hI rfl hS hR
 .subst B;have b3:=cl.1▸(List.getElem?_eq_some_iff.mp ht).1;haveI ho:kvs[i]?=ae kvs[i]:=ay _;refine ix (cl.2 i _ _ ht ho) λb4 B y w=>aa<|B.run ok.hd hS hI hv λa4 h H=>?_;haveI z:qk [] (kvs.take<|i+1)=putK (qk []<|kvs.take i) kvs[i].1 kvs[i].2:=by
   rw[cA,ho];unfold qk;rw[eU];rfl
  haveI a1:(qk []<|kvs.take i).length<=sizeLine:=by
   haveI:=KO (kvs.take i)<|[];rw[bh,wO] at this;exact(ab this<|ab (aH<|jA _)<|ab (eI ..) hz)
  generalize qk [] (kvs.take i)=d at z a1 h w;generalize kvs[i]=p at z w;(haveI e1:=(w ((f,Ob.dk κ C.W d)::(i5 e++Ω)) λp m=>aY _<|av _ m).1;haveI e2:=(w ((f,Ob.dk κ C.W d)::(i5 e++Ω)) λp m=>aY _<|av _ m).2);refine aa<|YH ?_;skip;refine aa<|aa<|Run.use (e1 A D a4 ok H h) λkv a5 E I r a2=>?_;refine aa<|aQ<|Run.use (e2 A E a5 ok I<|h.mono r) λvv j F L u a3=>?_;refine aa<|cF<|aQ ?_;have q:=(h.mono r).mono u;haveI pp:eL ((f,Ob.dk κ C.W d)::(i5 e++Ω)) f (Ob.dk κ C.W d) (Ob.dk κ C.W<|putK d p.1 p.2)<|(f,Ob.dk κ C.W (putK d p.1 p.2))::(i5 e++Ω):=.here;refine gR (q.own _ pp.mem) λg z0 _=>aU z0 λo a8 a7=>ix (gI.of a8 a7) λb2 d1 d2 d3=>wpAny_dictSet_pairs (κ.is _ _ _ _<|a2.mono u.sub) d1 (λh' d' hs=>?_)<|by rw[kn d2];exact a1
  have S:=λc x ne=>hs.extBut c x ne;refine aU (Heap.dictOf_iff.mp d') λo' a0 a6=>?_;(haveI q0:=uh (k:=p.1) a3 d2 d3;haveI q1:=q0.1;haveI q2:=q0.2);haveI N:=L.dU (s':={j with heap:=h',toks:=j.toks+1}) q pp.mem S rfl rfl;haveI P:=q.dU (s':={j with heap:=h',toks:=j.toks+1}) pp rfl rfl S ⟨o',a0,⟨_,a6,q1,q2⟩⟩;exact ag<|hQ _ F _ (congrArg _ z.symm) N (Sub.trans r.sub u.sub)<|P.weak B.names.symm y
 .subst B;rw[<-cl.1,dn]
theorem Ev.OV{κ:j' K}(k:jz C p a cl dY h)(f:fR C p Ω i1 d ts) (e:∀L I,IL κ (dK C a cl dY L I) h (vN Ω) d j n ts kvs)(hsz:kvs.length<=aA) (v:autoParam (∀env x,bm i1 env x=bB x) mI):Ev C p Ω (.DictComp j n [⟨d,i1,[],0⟩] a pos)<|T.dk κ C.W<|qk [] kvs:=λA G s l I S=>by unfold Run;show aD _ _ (pB (.DictComp j n [⟨d,i1,[],0⟩] a pos) a C.env _ _ false (eval i1 C.env) ce) _ _ _;exact C7 (g:=⟨d,i1,[],0⟩) (b0:=Ob.dk κ C.W []) k f rfl (v _) (λs Q=>dH) rfl (gI.new κ C.W) (λ_ _ _ _ _=>codeAny_compStart_dict) (λL I B D c G s b R y w r u t=>B8 (C:=dK C a cl dY L I) y (e L I) l hsz c G s w r u λi m q z=>t i m q) (λG o b=>ui G o) l I S λi m b L=>w6
end
section
theorem x7{α:Type} [DecidableEq α]{x:α}{a:List α}(b)(h:m<a.idxOf x):a[m]≠x:=λe=>absurd (beq_iff_eq.mpr e)<|List.not_of_lt_findIdx h▸fo
theorem cf.Xr{α:Type} [DecidableEq α]{f:α->T}{d:List α}{x:α}(D:∀a b,lh n (f a) (f b)<|decide<|a=b)(w:∀G v a b,Tr G v (f a)->Tr G v (f b)->a=b)(hx:x∈d)(hz:d.length<=aA)(hn:autoParam (n<=100) adc):cf (.builtin "list.index") [.list<|d.map f,f x] 0<|.int<|d.idxOf x:=λW A G s vs ok I h=>by
 classical cases h using aG.ca with|cons h r=>
  cases r using aG.ca with|@cons v _ hv r=>
   cases r
   refine gc (h.isList I) λa C q0 hl R=>?_;subst q0;obtain⟨⟨S,dd,H,sl⟩,P,M,n',N⟩:=id hl;simp only at M N;subst M N;have c:=R.length;simp only [aP,af] at c;have o:=List.idxOf_lt_length_iff.mpr hx;have g:∀j (L) (l:j<d.length),Tr G C[j]<|f d[j]:=λj L l=>by
    refine aU (R.get' (k:=j) (v:=C[j])<|by simp[L]) λt Q E=>?_;rw[aq,ay l] at Q;cases Q
    exact E
   have B:A.in1.units+n<cLine:=by haveI:=ok.units;unfold jj;show A.units+1+n<_;exact Mw hn this
   refine rp yV ⟨_,P,rfl⟩ PySem.F.entry_list_index (PySem.F.args_list_index_2 _ _) (list_indexAt a C n' dd sl v (λy=>decide<|Tr G y<|f x) (d.idxOf x) (Uz c o) (by unfold aA at hz;exact δ hz o) ?_ ?_) ⟨P,λy E=>?_,h_ I rfl rfl rfl<|Tr.int _ _⟩;.refine decide_eq_true ?_;haveI:=g (d.idxOf x) (Uz c o) o;rwa[List.getElem_idxOf o] at this
   .intro m hm p;refine decide_eq_false λq=>?_;have u:m<d.length:=Uq o p;haveI e:=w G _ _ _ (g m hm u) q;exact absurd e<|x7 u p
   .refine cc (Array.getElem_of_mem E) λj z0=>?_;refine cc z0 λi z1=>?_;clear z0;subst z1;have l:j<d.length:=Ul c i;haveI:=nA I (D d[j] x) _ _ _ B (g j i l) hv;have e:decide (Tr G C[j]<|f x)=decide (d[j]=x):=by
     by_cases q:d[j]=x;.rw[decide_eq_true q,decide_eq_true<|by rw[<-q];exact g j i l]
     .rw[decide_eq_false q,decide_eq_false λz=>q<|w G _ _ _ (g j i l) z]
    rw[e];exact this
theorem SL(h:Tr G v<|.int i)(k:Tr G v<|.int j):i=j:=by cases h;cases k;rfl
theorem SM(h:Tr G v<|.str i)(k:Tr G v<|.str j):i=j:=by cases h;cases k;rfl
theorem SN(h:Tr G v<|.tuple ts)(k:Tr G v<|.tuple us):∃l,aG G l ts/\aG G l us:=by
 cases h using Tr.rQ with|seq d _ _ c e=>
  cases k using Tr.rQ with|seq b _ _ a f=>
   rw[d] at b;cases b
   rw[c] at a;cases a
   exact⟨_,e,f⟩
theorem SO{l:List (T×T)}(h:∀p∈l,∀v,Tr G v p.1->Tr G v p.2->p.1=p.2)(d:aG G c<|l.map (·.1))(e:aG G c<|l.map (·.2)):l.map (·.1)=l.map (·.2):=by induction l generalizing c with|nil=>rfl|cons p l f=>cases d using aG.ca with|cons a r=>cases e using aG.t_ with|cons b q=>rw[ax,ax,h p (.head _) _ a b,f (λp m=>h p<|.tail _ m) r q]
theorem code_inj(a b:dp)(h:a.t=b.t):a=b:=by
 cases a;cases b
 unfold dp.t at h;simp only [T.seq.injEq,FT,T.str.injEq,T.int.injEq,and_true,true_and] at h;refine Rc h λc d e f g=>?_;try clear h
 subst c;subst d;subst e;subst f;subst g;rfl
theorem OW(G v)(a b:dp)(h:Tr G v a.t)(k:Tr G v b.t):a=b:=by refine aU (SN h k) λl c d=>?_;have i:∀a b,∀v,Tr G v (.int a)->Tr G v (.int b)->T.int a=T.int b:=λa b v p q=>congrArg T.int<|SL p q;exact code_inj a b<|congrArg T.tuple<|SO (l:=[(.str a.tag,.str b.tag),(.int a.i,.int b.i),(.int a.j,.int b.j),(.int a.x,.int b.x),(.int a.y,.int b.y)]) (fm (λ_ p q=>congrArg T.str<|SM p q)<|fm (i _ _)<|fm (i _ _)<|fm (i _ _)<|fm (i _ _) uR) c d
noncomputable def Xs(C:Cx)(a:cG)(Ω:bM)(e:gw)(Q:T->bM->Prop):Prop:=∀A G s,Ok A C.n->Inv C.W G s->St C a Ω G s->jH C.W.M A (eval e C.env) (XEnd C a G Q) (λ_ _=>False) s
theorem Xs.call(hf:Ev C Γ Ω f<|.val g)(c:Callee C.W.K g)(h1:QT C Γ Ω e t)(h:oD C Γ Ω r ts)(l:Ω.Perm<|Δ++bT)(a1:∀p∈Δ,p.2.gT=false)(k:cu C.W g (t::ts) n Δ Pc)(hn:n<=C.n) (hp:autoParam (∀env,(bb pos<|aw (e::r) env).any (·.1)=false) eX) (hb:autoParam (∀env,∃m,bb pos (aw (e::r) env)=(false,m)::bb pos (aw r env)/\∀(Q:aW->bk->Prop) A s,jH C.W.M A (eval e env) Q (λ_ _=>False) s->jH C.W.M A m Q (λ_ _=>False) s) adI) (he:autoParam (∀env,eval (.Call f (e::r) [] pos) env=(do bS pos (<-eval f env) [] (bb pos<|aw (e::r) env) (bK pos<|aX [] env))) eX):Xs C Γ Ω (.Call f (e::r) [] pos) λt o=>∃a0,Pc t a0/\o=a0++bT:=λA G s ok I S=>by
 rw[he];refine dO<|Run.use (hf A G s ok I S) λv P u y j H=>?_;cases H
 skip;refine r7 c (hp _)<|aU (hb C.env) λm e1 e2=>?_;rw[e1];have a:=S.mono j;refine ul<|xG<|e2 _ _ _<|fF (h1 A u P ok y a) (λv R zz=>zz.casesOn λw D b L=>?_) λ_ _ z=>z;refine Run.use (h A w R pos ok D<|a.mono b) λvs a3 a2 i d N=>⟨i.k,?_⟩;exact .of<|aC (qF hn l a1 k ok i ((a.mono b).mono d)<|.cons (L.mono d.sub) N) (λv a4 zz=>zz.casesOn λx t q p E F B ht=>⟨x,t,q,p,E,F,(Sub.trans j.sub<|Sub.trans b.sub d.sub).trans B,ht⟩) λ_ _ z=>z
theorem nO.iK(h:Xs C i Ω e Q)(o:x∈C.dY)(k:∀t a,Q t a->∃Γ',oC i x t Γ'/\nO C Γ' a rest P)(hs:autoParam (fi e (ae<|.Name x p) pos.line C.env=bB false) iF):nO C i Ω (.Assign [.Name x p] e pos::rest) P:=.step λA G s u I S=>by rw[zD C.env x p e pos hs];refine dO<|cF<|fQ<|fF (h A G s u I S) (λv g w=>w.casesOn λc t a q d f b n=>?_) λ_ _ z=>z;refine aU (k t a q) λΓ' m r=>dO<|cF<|.of<|aa ?_;refine tE<|f.store d o m n λy l j _=>ag ⟨rfl,Γ',a,c,j,l,b,r⟩
theorem uw.Ŭ(h:jb C M Ω l λt d=>t=a/\d=bT)(k:Ev C M bT r b)(o:OT C.W .NotEq a b c)(Q:autoParam (iA .NotEq r=false) iF):uw C M Ω (.Compare l [.NotEq] [r] pos) λx d=>x=c/\d=bT:=λA G s H I S=>by refine eg (aC (h A G s H I S) (λv E R=>?_) λ_ _ z=>z) Q;obtain⟨i,t,d,⟨N,P⟩,n,f,B,w⟩:=R;subst N;subst P;refine Run.use (k A i E H n f) λu F j p e y=>?_;refine Run.use (o A j F v u (H.le<|au _) p (w.mono e.sub) y) λx L m q g D=>?_;subst D;exact cm ⟨m,_,⟨rfl,rfl⟩,q,(f.mono e).mono g,(B.trans e.sub).trans g.sub⟩
theorem uw.Ů(h:uw C p Ω e λx a=>x=false/\a=bT)(k:pz C p bT f c):uw C p Ω (.BoolOp .Or [e,f] pos) λx a=>x=c/\a=bT:=λA G s n I S=>by refine uK<|sq<|aC (h A G s n I S) (λx m t=>?_) λ_ _ z=>z;obtain⟨j,a,⟨q,r⟩,l,d,B⟩:=t;subst q;subst r;skip;refine sq<|Run.use (k A j m n l d) λy o g i b e=>?_;subst e;cases y with|true=>exact⟨g,_,⟨rfl,rfl⟩,i,d.mono b,B.trans b.sub⟩|false=>exact Qx ⟨g,_,⟨rfl,rfl⟩,i,d.mono b,B.trans b.sub⟩
end
noncomputable def B9:List Int:=[0,1,1,1,5,2,2,2,2,2,4,0,0]
noncomputable def OX(ns:List Int)(p:Nat)(f:Int):Int:=f+((lK (lK ns ah (ae 60) ah) (ae p) ah<|ae 13).map λx=>x.fmod 1000003).sum
noncomputable def x8(ns:List Int):List Int:=B9.zipIdx.map λq=>OX ns q.2 q.1
theorem G1(ns):(x8 ns).length=13:=by unfold x8;rw[af];rfl
noncomputable def cellAt(a:List Int)(k:Nat):Int:=a.getD k 0
noncomputable def ahp:List Nat:=[10,9,10,8,10,4,1,0]
noncomputable def aeE:List Nat:=[1,2,3,4,5,8,2,3,12]
noncomputable def OY(a:List Int):Nat:=ahp.getD ((cellAt a 11).fmod 8).toNat 0
noncomputable def lenOf(a:List Int)(p:Nat):Nat:=aeE.getD ((cellAt a p).fmod 9).toNat 0
noncomputable def IM(a:List Int)(p:Nat):Str:=n4 ⟨#[97+p]⟩<|lenOf a p
noncomputable def fg(a:List Int):List Str:=(aL<|OY a).map<|IM a
noncomputable def ic(a:List Int):Int:=5+(cellAt a 10).fmod 8
theorem IN{l:List Nat}(h:∀x∈l,x<=B):l.getD k 0<=B:=by rw[ak];cases e:l[k]?with|none=>exact au _|some x=>exact h x<|aZ e
theorem tf(a):OY a<=10:=IN<|dD tt
theorem EH(a p):lenOf a p<=12:=IN<|dD tt
theorem jh(a:Int){m:Nat}(h:0<m):0<=a.fmod m/\(a.fmod m).toNat<m:=by haveI b:=Int.fmod_nonneg_of_pos a<|CQ h;haveI c:=Int.fmod_lt_of_pos a<|CQ h;exact⟨b,MF b c⟩
theorem Ao(a:List Int)(p:Nat):1<=lenOf a p:=by haveI:=(jh (cellAt a p) (m:=9)<|dN tt).2;unfold lenOf;generalize ((cellAt a p).fmod 9).toNat=k at this;revert k;exact dD tt
noncomputable abbrev ux:List Str:="script"::"cells"::"words"::"width"::"ways"::"way"::"listings"::"low"::"high"::"front"::"text"::"lines"::"room"::"page"::"back"::"old"::"new"::"matcher"::"codes"::"code"::"changes"::"choice"::"mixed"::"taken"::"halves"::"coming"::"half"::"total"::"rows"::"stood"::"same"::"ahead"::"rest"::"left"::"select"::"judge"::"above"::"below"::[]
noncomputable abbrev SP:FuncData:=jG (oB PP 24) "law" [] .none .none .none (.str "law_wz0046_01" 883) ah (.ref 492) .none
theorem Xu(W):gH W 493 SP (dA<|oB PP 24) ux:=.cells
noncomputable abbrev vW:Nat:=15
noncomputable def eM(i:Nat):Stmt:=(dA<|oB PP 24).getD i<|.Pass ⟨0,0,0,0⟩
theorem IP:("enumerate":bC)≠"__name__":=by decide+kernel
noncomputable abbrev tS(l:List bC):T:=.list<|l.map .str
noncomputable abbrev tI(l:List Int):T:=.list<|l.map .int
section
theorem on{α a:Type}(f)(g:α->a)(l:List α):T.list (l.map λx=>f<|g x)=T.list ((l.map g).map f):=by rw[aE];rfl
theorem Ev.nf{c st:Option gw}(h:Ev C b Ω a<|.list<|xs.map f)(i:Part C b Ω c l)(k:Part C b Ω e u)(j:Part C b Ω st t)(d:t≠ae 0)(hsz:xs.length<=aA):Ev C b Ω (.Subscript a (.Slice c e st p) pos)<|.list<|(lK xs l u t).map f:=by
 rw[<-nB];exact .slice h i k j d<|by rw[af];exact hsz
theorem Ev.OZ{c st:Option gw}(h:Ev C b Ω a<|T.Rt ns)(f:Part C b Ω c l)(j:Part C b Ω e u)(i:Part C b Ω st t)(d:t≠ae 0)(hsz:ns.length<=aA):Ev C b Ω (.Subscript a (.Slice c e st p) pos)<|.list<|(lK ns l u t).map .int:=by
 rw[<-nB];exact .SK h f j i d hsz
end
theorem Ap(ts:List T)(i:Nat):m8 i ts=(ts.zipIdx i).map λq=>[.int q.2,q.1]:=by induction ts generalizing i with|nil=>rfl|cons t ts a=>rw[m8,Mk,ax,a]
section
variable (W:Wd) (L:Nat) (I:zT) (ns:List Int)
noncomputable abbrev Ù:Cx:=oN W vW SP 493 L ux I
theorem IQ(a:Int):0<=a.fmod 8/\(a.fmod 8).toNat<8:=jh a<|dN tt
theorem IS(a:Int):0<=a.fmod 9/\(a.fmod 9).toNat<9:=jh a<|dN tt
theorem oo{a:List Int}(h:k<a.length):(a.map T.int)[((k:Nat):Int).toNat]?=ae (.int<|cellAt a k):=by rw[cC,aq,ay h];unfold cellAt;rw[ak,ay h];rfl
theorem B_{l:List Nat}{i:Int}(a:0<=i)(h:i.toNat<l.length):(l.map fq)[i.toNat]?=ae (.int<|l.getD i.toNat 0):=by rw[aq,ay h,ak,ay h];rfl
theorem EI(a p):MulOk ⟨#[97+p]⟩<|lenOf a p:=by
 have b:=EH a p;have c:=Ao a p;refine⟨by simp;exact(bn (bj.mpr b)<|by decide),λ_ _=>?_,λ_ _=>?_⟩
 .show¬((1:Int)>(2^63-1)/(lenOf a p));have:=(FG<|θ<|by assumption).mpr<|ι b;exact(Ff dv this)
 .unfold i9;simp[LA,aA];exact(ab b<|ap rfl)
noncomputable def iV(a:List bC):List Int:=a.map λw=>1+w.length
noncomputable abbrev cM(a:List bC)(way:List Nat):List Str:=pf a<|way.map cS
end
section
variable (W:Wd) (L:Nat) (I:zT) (ns:List Int)
theorem O3{l:List Nat}(h:k<l.length):(l.map fq)[((k:Nat):Int).toNat]?=ae (.int<|l.getD k 0):=by rw[cC,aq,ay h,ak,ay h];rfl
theorem range_getD(l:List Nat):(aL l.length).map (λk=>fq<|l.getD k 0)=l.map fq:=by
 apply fv;.simp
 .intro k a c;simp only [fw,ew];have b:k<l.length:=by simpa using a
  rw[ak,ay b];rfl
theorem Xv(h:Ev C l Ω e<|eR ls)(f:m∈ls)(a:∀x∈ls,m<=x)(d:autoParam (C.env.kindOf "min"=ae .globalImplicit) U3) (hs:autoParam (∀env,aw [e] env=(false,eval e env)::aw [] env) eX) (g:autoParam (∀env,(bb pos<|aw [e] env).any (·.1)=false) eX) (c:autoParam (∀env,eval (.Call (.Name "min" b) [e] [] pos) env=(do bS pos (<-eval (.Name "min" b) env) [] (bb pos<|aw [e] env) (bK pos<|aX [] env))) eX):Ev C l Ω (.Call (.Name "min" b) [e] [] pos)<|fq m:=.call (.builtin (A_ C.W) Ba (dD tt) d) (.builtin _) (.e1 (.cast h<|on .int (λx:Nat=>x) _) hs) (.F2 (am.mpr ⟨m,f,rfl⟩) λx i=>by refine aU (am.mp i) λy j k=>?_;subst k;exact bj.mpr<|a y j) (au _) g c
theorem O4(h:Ev C l Ω e<|eR ls)(f:m∈ls)(a:∀x∈ls,x<=m)(d:autoParam (C.env.kindOf "max"=ae .globalImplicit) U3) (hs:autoParam (∀env,aw [e] env=(false,eval e env)::aw [] env) eX) (g:autoParam (∀env,(bb pos<|aw [e] env).any (·.1)=false) eX) (c:autoParam (∀env,eval (.Call (.Name "max" b) [e] [] pos) env=(do bS pos (<-eval (.Name "max" b) env) [] (bb pos<|aw [e] env) (bK pos<|aX [] env))) eX):Ev C l Ω (.Call (.Name "max" b) [e] [] pos)<|fq m:=.call (.builtin (Bd C.W) Be (dD tt) d) (.builtin _) (.e1 (.cast h<|on .int (λx:Nat=>x) _) hs) (.ag0 (am.mpr ⟨m,f,rfl⟩) λx i=>by refine aU (am.mp i) λy j k=>?_;subst k;exact bj.mpr<|a y j) (au _) g c
structure IT(ways:List<|List Nat)(low:List Nat):Prop where
 len:low.length=(ways.getD 0 []).length
 at_:∀k,k<low.length->low.getD k 0∈ways.map (·.getD k 0)/\∀way∈ways,low.getD k 0<=way.getD k 0
structure O5(ways:List<|List Nat)(high:List Nat):Prop where
 len:high.length=(ways.getD 0 []).length
 at_:∀k,k<high.length->high.getD k 0∈ways.map (·.getD k 0)/\∀way∈ways,way.getD k 0<=high.getD k 0
end
theorem range_all{α:Type}(l:List α)(n)(h:n<=l.length):(aL n).filterMap (l[·]?)=l.take n:=by induction n with|zero=>rfl|succ n a=>rw[gk,lI,a<|aF h,cA,jI,ay h];rfl
theorem SQ(l:List α):lK l ah ah (ae<|-1)=l.reverse:=by unfold lK;rw[krv_bounds];show(rm (l.length-1) (-1)<|-1).filterMap (l[·]?)=_;rw[krv_sliceRange,krv_range,List.filterMap_reverse,range_all l _<|al _,dn]
section
variable (W:Wd) (L:Nat) (I:zT) (ns:List Int)
noncomputable def tg(a:Nat)(x:bC):Str:=x++n4 " " (a-x.length)
noncomputable def KP(b:bC)(a k:Nat):Str:=rL b (k*a)<|k*a+a
end
noncomputable def vX(a:Nat)(b:bC):Str:=n4 " " (a-1-b.length)++b++" "
section
variable (W:Wd) (L:Nat) (I:zT) (ns:List Int)
theorem qQ(way):eR way=T.list ((way.map cS).map T.int):=by unfold eR fq;rw[aE];rfl
theorem O6(a:d<=40)(b:-1000<=d):MulOk (" ") d:=by
 refine⟨by simp;exact⟨cJ (by decide) b,bn a<|by decide⟩,λc _=>?_,λ_ _=>?_⟩
 .have e:((" ":bC).length)=1:=rfl;rw[e];have:=(FG<|aaf c).mpr<|aag a;exact(Ff dv this)
 .unfold i9;have e:((" ":bC).length)=1:=rfl;rw[e];simp[aA];exact aah a
theorem IU:(n4 " " d).length<=d.toNat:=by
 unfold n4;split;.exact au _
 .split
  .rename_i e b;simp at b;rcases b with b|b;.show 1<=_;exact aai b
   .cases b
  .show((ck d.toNat (" ":bC).cps).foldl (·++·) #[]).size<=_;have:∀(n) (a),((ck n (" ":bC).cps).foldl (·++·) a).size=a.size+n:=by intro n;induction n with|zero=>intro a;rfl|succ n c=>
     intro a;rw[im,gm,c,nJ];show a.size+1+n=_;exact af3
   rw[this];simp
theorem len_app(x y:bC):(x++y).length=x.length+y.length:=by rw[<-gK,mv,aM,gK,gK]
noncomputable abbrev Ca(W:Wd)(b a:List bC)(e op:T)(c d:cj):bM:=[(c,Ob.dk kS W (gb a a.length)),(d,.dict (vf (tS b) (tS a) e op c))]
theorem G2:∀p∈Ca W b a d op e c,p.2.gT=false:=λp m=>by
 rcases bf.mp m with rfl|m;.rfl
 .rw[ao] at m;subst m;rfl
noncomputable def Vp(c:dp):Bool:=c.tag !="equal"
theorem O7(c:dp):n5 0 ([T.str c.tag,.int c.i,.int c.j,.int c.x,.int c.y]).length=ae 0:=rfl
end
theorem fe.Ŷ{α:Type} [DecidableEq α]{f:α->T}{xs:List α}{x:α}(d:∀a b,lh n (f a) (f b)<|decide<|a=b)(c:∀a b,f a=f b->a=b)(g:autoParam (n<=100) adc):fe .In (f x) (.list<|xs.map f)<|decide<|x∈xs:=by
 classical
 have e:decide (x∈xs)=(xs.map f).any λt=>decide<|t=f x:=by
  rw[m6,gj,decide_eq_true_iff,ip];constructor;.intro m;exact⟨x,m,decide_eq_true rfl⟩
  ·(intro j;refine aU j λy m h=>?_);rw[<-c y x<|of_decide_eq_true h];exact m
 rw[e];refine .Wn (λt i=>?_) g;refine aU (am.mp i) λy _ k=>?_;subst k;have:decide (f y=f x)=decide (y=x):=by
  by_cases h:y=x;.rw[h];simp
  .rw[decide_eq_false h,decide_eq_false λq=>h<|c _ _ q]
 rw[this];exact d y x
theorem fe.Xw{α:Type} [DecidableEq α]{f:α->T}{xs:List α}{x:α}(d:∀a b,lh n (f a) (f b)<|decide<|a=b)(c:∀a b,f a=f b->a=b)(g:autoParam (n<=100) adc):fe .NotIn (f x) (.list<|xs.map f)<|!decide (x∈xs):=by
 classical
 have e:decide (x∈xs)=(xs.map f).any λt=>decide<|t=f x:=by
  rw[m6,gj,decide_eq_true_iff,ip];constructor;.intro m;exact⟨x,m,decide_eq_true rfl⟩
  ·(intro j;refine aU j λy m h=>?_);rw[<-c y x<|of_decide_eq_true h];exact m
 rw[e];refine .JK (λt i=>?_) g;refine aU (am.mp i) λy _ k=>?_;subst k;have:decide (f y=f x)=decide (y=x):=by
  by_cases h:y=x;.rw[h];simp
  .rw[decide_eq_false h,decide_eq_false λq=>h<|c _ _ q]
 rw[this];exact d y x
theorem O8(a b)(h:tS a=tS b):a=b:=by
 unfold tS at h;injection h with _ h;induction a generalizing b with
 |nil=>cases b with|nil=>rfl|cons y b=>cases h
 |cons x a e=>cases b with
  |nil=>cases h
  |cons y b=>rw[ax,ax] at h;injection h with c d;injection c with c;rw[c,e b d]
noncomputable def se(a:List dp)(b:Nat)(c:dp):Bool:=decide (c∈a)&&(Lx ((b:Int).fdiv<|2^(a.idxOf c)) 1==1)
noncomputable def x9(d a:List bC)(b:Bool)(c:dp):List Str:=if b then lK a (ae c.x) (ae c.y) ah else lK d (ae c.i) (ae c.j) ah
noncomputable def x_(f e:List bC)(a:List dp)(b:Nat)(d:List dp):List Str:=d.flatMap λc=>x9 f e (se a b c) c
theorem ql{α a:Type}{f:α->List a}(l:List α)(h:∀x∈l,(f x).length<=B):(l.flatMap f).length<=l.length*B:=by induction l with|nil=>simp|cons x l ih=>rw[cI,aM,be,fK];have:=h x<|.head _;have:=ih λy m=>h y<|.tail _ m;exact(ab (c_ (by assumption) this)<|aH<|bx ..)
theorem code_at(c:dp)(k:Nat)(i:Int)(h:k<5)(a:i=k):n5 i ([T.str c.tag,.int c.i,.int c.j,.int c.x,.int c.y]).length=ae k:=a▸(by decide+kernel:∀k:Fin 5,n5 (k.1:Int) 5=ae k.1) ⟨k,h⟩
section
variable (W:Wd) (L:Nat) (I:zT) (ns:List Int)
end
noncomputable def EJ(a:List bC):List<|bC×Int:=a.foldl (λd r=>mu d r 1) []
noncomputable def Si(w:Int)(a:bC):Int:=(w-1-a.length)^2
noncomputable def sf(a:List bC)(w:Int)(way:List Nat):Stat:=⟨1,(cM a way).length,((cM a way).map<|Si w).sum,(way.map cS).sum,EJ<|cM a way⟩
noncomputable def EK:Stat:=⟨0,0,0,0,[]⟩
noncomputable def kb(a:List bC)(w:Int)(l:List<|List Nat):Stat:=l.foldl (λt b=>xu t<|sf a w b) EK
noncomputable def rg(a:List bC)(c:List bC)(l:List<|List Nat):List Str:=l.foldl (λc b=>c++(cM a b).filter λr=>!decide (r∈c)) c
noncomputable def eG(b:List<|List Nat)(a:Nat):List<|List Nat:=lK b (ae a) ah<|ae 2
theorem EL(a:List bC)(d:List<|bC×Int):qk (oE d) (a.map λr=>(r,T.int 1))=oE (a.foldl (λd r=>mu d r 1) d):=by induction a generalizing d with|nil=>rfl|cons r a ih=>show qk (putK (oE d) r<|.int 1) _=_;rw[sU,ih];rfl
theorem pz.KQ{α:Type} [DecidableEq α]{f:α->T}{xs:List α}{x:α}(j:Ev C g Ω k<|f x)(r:Ev C g Ω o<|.val<|.ref a)(m:(a,b)∈Ω)(i:b.bare=.list (xs.map f))(d:∀a b,lh n (f a) (f b)<|decide<|a=b)(c:∀a b,f a=f b->a=b)(p:autoParam (n<=100) adc) (l:autoParam (iA .NotIn o=false) iF):pz C g Ω (.Compare k [.NotIn] [o] pos)<|!decide (x∈xs):=by
 classical
 have e:decide (x∈xs)=(xs.map f).any λt=>decide<|t=f x:=by
  rw[m6,gj,decide_eq_true_iff,ip];constructor;.intro m;exact⟨x,m,decide_eq_true rfl⟩
  ·(intro u;refine aU u λy m h=>?_);rw[<-c y x<|of_decide_eq_true h];exact m
 rw[e];refine .OS j r m i (λt s=>?_) p l;refine aU (am.mp s) λy _ v=>?_;subst v;have:decide (f y=f x)=decide (y=x):=by
  by_cases h:y=x;.rw[h];simp
  .rw[decide_eq_false h,decide_eq_false λq=>h<|c _ _ q]
 rw[this];exact d y x
theorem zip_rows{d:Type}(f g)(l:List d):(fJ (λa b=>[a,b]) (l.map f)<|l.map g).map T.tuple=l.map λx=>T.tuple [f x,g x]:=by induction l with|nil=>rfl|cons x l c=>rw[ax,ax,List.zipWith_cons_cons,ax,c,ax]
theorem str_inj(a b)(h:T.str a=T.str b):a=b:=by injection h
section
variable (W:Wd) (L:Nat) (I:zT) (ns:List Int)
end
noncomputable def O9(p:bC×Int):T:=.tuple [.str p.1,.int p.2]
noncomputable def nR(s:Stat):T:=.list<|s.e.map O9
noncomputable def vk(c:dp):Bool:=c.tag==("equal")
noncomputable def Cd.QU(c:Cd):dp:=⟨c.tag,c.i,c.j,c.x,c.y⟩
theorem lh.item(a b):lh (n+1) (O9 a) (O9 b)<|decide<|a=b:=by
 have:decide (a=b)=(decide (a.1=b.1)&&(decide (a.2=b.2)&&aj)):=by
  cases a;cases b
  simp only [yw,iX,pD]
 rw[this];exact .HZ<|.cons (.zl _ _)<|.cons (.intD _ _) .nil
theorem lh.items(a b):lh (n+2) (nR a) (nR b)<|decide<|a.e=b.e:=lh.EE (λa=>.item a) a.e b.e
section
variable (W:Wd) (L:Nat) (I:zT) (ns:List Int)
theorem Aq(p:Ev C v Ω e<|s.t C.W)(hz:s.e.length<=10000)(q:C.env.kindOf "list"=ae .globalImplicit) (m:autoParam (∀env,dG (.Subscript e (.Constant (.int 4) k a) b) "items" env (eval (.Subscript e (.Constant (.int 4) k a) b) env)=eval (.Subscript e (.Constant (.int 4) k a) b) env) eX)(c:autoParam ((d.endLine==f.line)=aj) iF) (hs:autoParam (∀o i,fb (.Constant (.int 4) k a) false o i=k9 [o,i] (ig o i)) CU) (h:autoParam (∀env,aw [.Call (.Attribute (.Subscript e (.Constant (.int 4) k a) b) "items" d) [] [] f] env=(false,eval (.Call (.Attribute (.Subscript e (.Constant (.int 4) k a) b) "items" d) [] [] f) env)::aw [] env) eX) (r:autoParam (∀env,(bb g<|aw [.Call (.Attribute (.Subscript e (.Constant (.int 4) k a) b) "items" d) [] [] f] env).any (·.1)=false) eX) (n:autoParam (∀env,eval (.Call (.Name "list" l) [.Call (.Attribute (.Subscript e (.Constant (.int 4) k a) b) "items" d) [] [] f] [] g) env=(do bS g (<-eval (.Name "list" l) env) [] (bb g<|aw [.Call (.Attribute (.Subscript e (.Constant (.int 4) k a) b) "items" d) [] [] f] env) (bK g<|aX [] env))) eX):Ev C v Ω (.Call (.Name "list" l) [.Call (.Attribute (.Subscript e (.Constant (.int 4) k a) b) "items" d) [] [] f] [] g)<|nR s:=by
 have u:aA=2^24:=rfl;refine .cast (.listItems (.builtin (BM C.W) BN BO q) (.sub p .int<|.tuple (j:=4) (dD tt) (dD tt) rfl rfl hs) (by unfold oE;rw[af];exact aao hz u) m c h r n) ?_;unfold oE nR;rw[aE];rfl
end
noncomputable def ya(b a:List Nat)(k:Nat):Bool:=decide<|lK b (ae k) (ae<|k+2) ah=lK a (ae k) (ae<|k+2) ah
noncomputable def O_(b:List Bool)(a c:Int):List Bool:=b.zipIdx.map λq=>q.1&&(decide (a<=(q.2))&&decide ((q.2)<c))
noncomputable def SR(a:List Int)(n:Nat)(k:Nat):Int×Int:=(1+(cellAt a 12+k).fmod n,(1-2*((cellAt a 12).fdiv 3).fmod 2)*(1+(k:Int).fmod 3))
noncomputable def SS(a:List Int)(n:Nat):List<|Int×Int:=(aL n).map<|SR a n
noncomputable def uy(way a:List Nat)(q:Int×Int):Bool:=(way.getD q.1.toNat 0) !=(a.getD q.1.toNat 0:Int)
noncomputable def lF(b:List<|Int×Int)(way a:List Nat):Int:=(k0 tQ (b.filter<|uy way a)++[0]).headD 0
theorem lh.ahq(a b):lh n (fq a) (fq b)<|decide<|a=b:=by
 have:decide (a=b)=decide (a=(b:Int)):=by
  by_cases h:a=b;.rw[h];simp
  .rw[decide_eq_false h,decide_eq_false<|aap h]
 rw[this];exact .intD _ _
theorem G3(l:List Bool):(m8 0<|l.map T.bool).map T.tuple=l.zipIdx.map λq=>T.tuple [.int q.2,.bool q.1]:=by rw[Ap,List.zipIdx_map,aE,aE];rfl
section
variable (W:Wd) (L:Nat) (I:zT) (ns:List Int)
end
end
section
set_option genInjectivity false
set_option genSizeOf false
open PySem PySem.W PySem.Calls PyProof.Rows PySem.SeqAt
theorem KR(h:n<=16):n<=sizeLine:=ab h<|dN tt
theorem ji(h:n<=50):n<=sizeLine:=ab h<|dN tt
theorem iW(h:n<=1000):n<=sizeLine:=ab h<|dN tt
theorem Cb(h:n<=2000):n<=sizeLine:=ab h<|dN tt
theorem IV(h:n<=10000):n<=sizeLine:=ab h<|dN tt
structure PD where
 cells:List Int
 low:List Nat
 high:List Nat
 w':Nat
 k':Nat
 room:Nat
 kj:Nat
 bl:List M3
 YB:List Cd
 Vq:List M3
namespace PD
variable (D:PD)
noncomputable def words:List Str:=fg D.cells
noncomputable def w:Int:=ic D.cells
noncomputable def ways:List<|List Nat:=cr (iV D.words) D.w
noncomputable def old:List Str:=cM D.words D.low
noncomputable def new:List Str:=cM D.words D.high
noncomputable def text:Str:=dz ""<|D.words.map λx=>(" ":bC)++x
noncomputable def TV:List Str:=rO<|lT D.text D.w'
noncomputable def front:List Str:=fz D.w D.words
noncomputable def lines:List Str:=fz D.w D.TV
noncomputable def joined:Str:=dz ""<|D.lines.map<|tg D.room
noncomputable def EM:Str:=lT D.joined D.room
noncomputable def back:List Str:=((aL D.kj).map<|KP D.EM D.room).reverse
noncomputable def codes:List dp:=ta D.bl
noncomputable def changes:List dp:=D.codes.filter Vp
noncomputable def half(i:Nat):Stat:=kb D.words D.w<|eG D.ways i
noncomputable def SU:List Str:=rg D.words (rg D.words []<|eG D.ways 0)<|eG D.ways 1
noncomputable def tot:Stat:=xu (D.half 0)<|D.half 1
noncomputable def same:List Bool:=(aL D.old.length).map<|ya D.low D.high
noncomputable def ahead:Int:=(1+(cellAt D.cells 11).fdiv 8).fmod 3
noncomputable def cut:Int:=(D.old.length:Int)-(1+(cellAt D.cells 11).fdiv 24).fmod 3
noncomputable def Vr:Int:=if D.cut>0 then D.cut else 0
noncomputable def G4:List Str:=lK D.old (ae D.ahead) ah ah
noncomputable def Cc:List Str:=lK D.new ah (ae D.Vr) ah
noncomputable def left:List dp:=nL (O_ D.same D.ahead D.Vr) D.ahead D.Vr
noncomputable def sel:List<|Int×Int:=SS D.cells D.old.length
noncomputable def cmp(a b:List Nat):Int:=sT D.sel (a.map cS)<|b.map cS
noncomputable def fst(way a:List Nat):Int:=lF D.sel way a
end PD
structure PF(D:PD):Prop where
 hc:D.cells.length=13
 O':∀x∈D.words,0<x.length/\x.length<=900/\eZ x=false
 hwn:D.words.length<=16
 ŷ:0<=D.w/\D.w<=1000
 hne:D.ways≠[]
 hz:D.ways.length<=2000
 hm:1<=D.low.length/\D.low.length<=50
 Vs:D.high.length=D.low.length
 hy:∀way∈D.ways,way.length=D.low.length
 SV:IT D.ways D.low
 IW:O5 D.ways D.high
 ż:∀way∈D.ways,∀r∈cM D.words way,r.length<=100
 Vt:∀r∈D.old,r.length<=100
 Pa:∀r∈D.new,r.length<=100
 Ce:D.front=D.new.map λy=>(" ":bC)++y
 ſ:D.text.cps.all (·<128)=aj
 htw:(if(D.text.length:Int)>1 then(D.text.length:Int) else 1)=(D.w':Int)
 htk:D.text.length=D.k'*D.w'
 V6:D.text.length<=1000
 ahr:(nz (lT D.text D.w')<|(lT D.text D.w').length+1).length<=2000
 ahs:(lT D.text D.w').length<=2000
 aeF:D.TV.length<=800
 aht:∀x∈D.TV,0<x.length/\x.length<=900/\eZ x=false
 Uw:D.lines.length<=20
 hroom:D.room∈1::D.lines.map (·.length)
 G5:∀x∈1::D.lines.map (·.length),x<=D.room
 nT:D.room<=40
 γ:D.joined.cps.all (·<128)=aj
 Wg:D.joined.length=D.kj*D.room
 XW:D.joined.length<=1000
 hpl:D.EM.length=D.kj*D.room
 IX:D.back=D.old.map (vX D.room)
 hold:(D.old.map<|vX D.room).map iC=D.old
 hnew:(D.new.map λy=>(" ":bC)++y).map iC=D.new
 hnd:D.new.Nodup
 Þ:kU (zh D.old D.new) D.new.length=ae D.bl
 ahu:D.bl.length<400
 aeG:D.codes=D.YB.map Cd.QU
 à:D.YB.length<=16
 hmix:∀choice,choice<2^D.changes.length->x_ D.old D.new D.changes choice D.codes∈D.ways.map (cM D.words)
 hke:∀l:List<|List Nat,(∀way∈l,way∈D.ways)->(kb D.words D.w l).e.length<=5000
 hko:∀way∈D.ways,(EJ<|cM D.words way).length<=5000
 ahv:D.tot.e.length<=10000
 ahw:∀c∈D.YB,c.ok D.words D.high
 ζ:wu<|D.YB.map λc=>lu D.words D.w D.high c.tag c.i c.j
 hsame:IK D.tot<|xy D.words D.w D.YB D.high
 ahx:D.tot.e.map (·.1)=D.SU
 hg:∀r∈D.old,∃v,jo D.tot.e r=ae v
 η:D.old.filter (λr=>(jo D.tot.e r).getD 0==(D.ways.length:Int))=(D.codes.filter vk).flatMap λc=>lK D.old (ae c.i) (ae c.j) ah
 aeH:kU (zh D.G4 D.Cc) D.Cc.length=ae D.Vq
 aeI:D.Vq.length<400
 aeJ:ta D.Vq=D.left
 ahy:D.codes=nL D.same 0 D.old.length
 SW:∀p∈D.sel,0<=p.1/\p.1<(D.low.length:Int)
 hcmp:∀way∈D.ways,D.cmp D.high way=D.fst way D.high/\D.cmp way D.high=-D.fst way D.high/\D.cmp way D.low=D.fst way D.low/\D.cmp D.low way=-D.fst way D.low
 hnd':D.Cc.Nodup
namespace PF
variable (F:PF D)
include F
theorem Xx:∀x∈D.words,x.length<=900:=λx m=>(F.O' x m).2.1
theorem Pb:∀x∈D.words,x.length<=1000:=λx m=>ab (F.Xx x m)<|dN tt
theorem Pd:1<=D.low.length/\D.low.length<=100:=⟨F.hm.1,ab F.hm.2<|dN tt⟩
theorem Ar:1<=D.high.length/\D.high.length<=100:=F.Vs▸F.Pd
theorem ol:D.old.length<=50:=by show(cM _ _).length<=_;unfold cM;rw[nD,af];exact(ab (cq ..) F.hm.2)
theorem nl:D.new.length<=50:=by show(cM _ _).length<=_;unfold cM;rw[nD,af,F.Vs];exact(ab (cq ..) F.hm.2)
theorem IY:D.old.length<=100:=ab F.ol<|dN tt
theorem Vu:D.new.length<=100:=ab F.nl<|dN tt
theorem Xy:1<=D.room:=F.G5 1<|.head _
theorem SX:D.codes.length<=16:=by rw[F.aeG,af];exact F.à
theorem chg:D.changes.length<=16:=ab (dS _ _) F.SX
theorem yz:D.ways.length<=sizeLine:=Cb F.hz
theorem lens:∀way∈D.ways,1<=way.length/\way.length<=100:=λway m=>F.hy way m▸F.Pd
theorem Cg:∀x∈D.lines,x.length<=D.room:=λx m=>F.G5 _<|.tail _<|am.mpr ⟨x,m,rfl⟩
theorem hz0(i:Nat):(D.half i).e.length<=10000:=ab (F.hke _ λy=>sO)<|dN tt
theorem rows(a:1<=way.length/\way.length<=100):cf (.ref 466) [tS D.words,eR way] 1<|tS<|cM D.words way:=by rw[qQ];exact Aa (wS F.hwn) F.Pb (by rw[af];exact a.2)<|by rw[af];exact a.1
theorem sl:D.same.length<=100:=by unfold PD.same;rw[af,aO];exact F.IY
theorem Xz:D.sel.length<=1000:=by unfold PD.sel SS;rw[af,aO];exact ab F.ol<|dN tt
end PF
structure LE where
 W:Wd
 L:Nat
 I:zT
 ns:List Int
 x:cj
 dx:cj
 jx:cj
 jd:cj
noncomputable abbrev LE.μ(E:LE)(x a:cj):LE:=⟨E.W,E.L,E.I,E.ns,x,a,E.jx,E.jd⟩
noncomputable abbrev LE.φ(E:LE)(b a:cj):LE:=⟨E.W,E.L,E.I,E.ns,E.x,E.dx,b,a⟩
noncomputable def tm(n k:Nat)(t:T):Option T:=bif f4 n k then ae t else ah
noncomputable def XA(D:PD)(E:LE)(k:Nat):cG:=("script",ae (T.Rt E.ns))::("cells",tm 1 k (tI D.cells))::("words",tm 2 k (tS D.words))::("width",tm 3 k (.int D.w))::("ways",tm 4 k (.list<|D.ways.map eR))::("way",ah)::("listings",tm 5 k (.list<|D.ways.map λa=>tS<|cM D.words a))::("low",tm 6 k (eR D.low))::("high",tm 7 k (eR D.high))::("front",tm 8 k (tS D.front))::("text",tm 9 k (.str D.text))::("lines",tm 10 k (tS D.lines))::("room",tm 11 k (.int D.room))::("page",tm 12 k (.str D.EM))::("back",tm 13 k (tS D.back))::("old",tm 15 k (tS D.old))::("new",tm 15 k (tS D.new))::("matcher",tm 16 k (T.inst E.x 242 E.dx))::("codes",tm 17 k (.list<|D.codes.map dp.t))::("code",ah)::("changes",tm 18 k (.list<|D.changes.map dp.t))::("choice",ah)::("mixed",ah)::("taken",ah)::("halves",tm 21 k (.list [(D.half 0).t E.W,(D.half 1).t E.W]))::("coming",tm 21 k (tS D.SU))::("half",ah)::("total",tm 23 k (D.tot.t E.W))::("rows",ah)::("stood",tm 22 k (.list [nR<|D.half 0,nR<|D.half 1]))::("same",tm 26 k (.list<|D.same.map .bool))::("ahead",tm 27 k (.int D.ahead))::("rest",tm 27 k (.int D.Vr))::("left",tm 29 k (.list<|D.left.map dp.t))::("select",tm 31 k (.list<|D.sel.map sS))::("judge",tm 32 k (T.inst E.jx 431 E.jd))::("above",ah)::("below",ah)::[]
noncomputable abbrev Uy(E:LE):Cx:=Ù E.W E.L E.I
noncomputable abbrev LX(D:PD)(E:LE)(k:Nat)(Ω:bM)(a:List mA)(P:Post):Prop:=bZ (Uy E) (XA D E k) Ω a P
noncomputable abbrev LC(D:PD)(E:LE)(k:Nat)(Ω:bM)(a:List mA)(P:Post):Prop:=nO (Uy E) (XA D E k) Ω a P
theorem Pe:1<=vW:=dN tt
theorem ln2:2<=vW:=dN tt
section
variable {C:Cx} {Γ:cG} {Ω:bM} {e:gw} {α:Type} {a b:α} {i:Decidable (a=b)} (h:a=b)
include h
theorem Pf:(!@decide (a=b) i)=false:=by rw[decide_eq_true h];rfl
theorem pz.TW(t:pz C Γ Ω e<|!@decide (a=b) i):pz C Γ Ω e false:=by rw[Pf h] at t;exact t
end
end
section
open List renaming length_take_le'->FU
open PySem renaming isCodeTable->QP
open PySem.F renaming slot_str_strip->zJ,type_str_strip->zK
open PySem PySem.W PySem.Calls PyProof.Rows PySem.SeqAt
theorem G6(h:n<=900):(" ":bC).length+n<=sizeLine:=iW<|ab (bF h 1)<|dN tt
section
theorem Pg(b:E.ns.length<=63)(e:x8 E.ns=D.cells)(k:LX D E 1 Ω rest P):LX D E 0 Ω (eM 0::rest) P:=by
 refine .assign (t:=tI D.cells) (.cast (.sX B9.zipIdx (λq=>.tuple [.int q.2,.int q.1]) (λq=>.int<|OX E.ns q.2 q.1) (.of ["place","first"] [0]) (.z_ (.enum (ts:=B9.map .int) (.builtin (BI E.W) xN IP)<|.e1 ?_)<|(congrArg (k0 T.tuple)<|Ap _ 0).trans rfl) (λj i q l=>?_) ?_)<|e▸on .int (λq:Int×Nat=>OX E.ns q.2 q.1) _) ai (.g 1) k
 .refine .list ?_ ?_
  .iterate 13 refine .cons ?_ ?_;exact .int
   exact .nil
  .decide
 .have a:(lK E.ns ah (ae 60) ah).length<=1000:=ab (kJ _ _ _ _)<|ab b<|dN tt;refine .pU (.tuple<|.cons ai .p0<|.cons ai .p1 .nil) .o2 λh _=>.bin .n1 (.call (.builtin (xd E.W) xe xf) (.builtin _) (.e1<|.cast (.sX (lK (lK E.ns ah (ae 60) ah) (ae<|q.2) ah<|ae 13) T.int (λx=>.int<|x.fmod 1000003) (.of ["number"] []) (.list (.nf (.OZ (.g 2) .none (.int .int) .none (by decide)<|iW<|ab b<|dN tt) (.int .n0) .none (.int .int) (by decide)<|iW a)<|.name _ _) (λf d x _=>.pU (.name ai .p0) .o1 λc _=>.bin .n0 .int<|.oK<|by decide)<|iW<|ab (kJ _ _ _ _) a)<|on .int (λx:Int=>x.fmod 1000003) _) cf.RB<|au _) .cZ
 .show B9.zipIdx.length<=_;decide
variable (F:PF D)
include F
theorem Ph(k:LX D E 2 Ω rest P):LX D E 1 Ω (eM 1::rest) P:=by
 refine .assign (t:=tS D.words) (.cast (.sX (aL<|OY D.cells) fq (λp=>.str<|IM D.cells p) (.of ["place"] [1]) (.nN ?_<|by have:=tf D.cells;exact ν this) (λe d p b=>?_) ?_)<|on .str (IM D.cells) _) ai (.g 2) k
 .with_reducible refine .sub ?_ ?_<|.list (IQ _).1 (by have:=IQ<|cellAt D.cells 11;exact ξ this)<|B_ (IQ _).1 (IQ _).2
  with_reducible refine .list ?_ ?_
  iterate 8 refine .cons ?_ ?_;exact .int
  exact .nil;decide;exact(.bin (.sub (.g 1) .int<|.list (i:=(11:Nat)) (by decide) (by decide)<|oo<|MI F.hc) .int<|.oK<|by decide)
 .have b:=aR.mp b;have a:=tf D.cells;refine .pU (.name ai .p0) .o1 λc _=>.bin (.call (.builtin (NK E.W) NL<|by decide) (.builtin _) (.e1<|.bin .int .n0 .cZ) (.chr<|by simp;exact ο b a)<|au _) (by
   with_reducible refine .sub ?_ ?_<|.list (ts:=aeE.map fq) (IS _).1 (by have:=IS<|cellAt D.cells p;exact ς this)<|B_ (IS _).1 (IS _).2
   with_reducible refine .list ?_ ?_
   iterate 9 refine .cons ?_ ?_;exact .int
   exact .nil;decide;exact(.bin (.sub .n1 .n0<|.list py (π b a)<|oo<|ρ F.hc b a) .int<|.oK<|by decide)) ?_
  .rw[show(97+(p:Int)).toNat=97+p from τ];exact .F1<|EI D.cells p
 .rw[aO];exact KR<|ab (tf D.cells)<|by decide
theorem Pi(k:LX D E 3 Ω rest P):LX D E 2 Ω (eM 2::rest) P:=.assign (t:=.int D.w) (.bin .int (.bin (.sub (.g 1) .int<|.list (dD tt) (dD tt)<|oo<|υ F.hc) .int<|.oK<|dD tt) .cZ) ai (.g 3) k
theorem SY(k:LX D E 4 Ω rest P):LX D E 3 Ω (eM 3::rest) P:=.assign (t:=.list<|D.ways.map eR) (.call .gl (.k<|by kernel_rfl) (.cons (.cast (.sX D.words T.str (λx=>.int<|1+x.length) (.of ["word"] []) (.list (.g 2)<|.name _ _) (λd c x a=>.pU (.name ai .p0) .o1 λb _=>.bin .int (.Bk .n0<|iW<|F.Pb x a) .cZ)<|KR F.hwn)<|on .int (λx:bC=>1+x.length) _)<|.e1<|.g 3) (xv<|by rw[af];exact F.hwn)<|by show 1<=vW;decide) ai (.g 4) k
theorem SZ(k:LX D E 5 Ω rest P):LX D E 4 Ω (eM 4::rest) P:=.qH D.ways eR (λa=>tS<|cM D.words a) (.of ["way"] [2]) (.list (.g 4)<|.name _ _) (λe d a b=>.pU (.name ai .p0) .o1 λc _=>.call .gl (.k<|by kernel_rfl) (.cons .n1<|.e1 .n0) (F.rows<|F.lens a b) Pe) F.yz ai (.g 6) k
theorem Vv:(D.ways.map eR)[((0:Nat):Int).toNat]?=ae (eR<|D.ways.getD 0 []):=by cases h:D.ways with|nil=>exact absurd h F.hne|cons a b=>rfl
theorem XB(k:LX D E 6 Ω rest P):LX D E 5 Ω (eM 5::rest) P:=by
 refine .assign (t:=eR D.low) (.cast (.sX (own:=["k"]) (aL D.low.length) fq (λk=>fq<|D.low.getD k 0) (.of ["k"] [4]) (.nN (n:=D.low.length) (.cast (.len (.sub (.g 4) .int<|.list (i:=0) (dD tt) (dD tt)<|Vv F)<|by rw[af,<-F.SV.len];exact ji F.hm.2)<|by rw[af,<-F.SV.len])<|ab F.hm.2<|dN tt) (λm l k b=>?_)<|by rw[aO];exact ji F.hm.2)<|by rw[range_getD]) ai (.g 7) k;have b:=aR.mp b;refine .pU (.name ai .p0) .o1 λj _=>Xv (ls:=D.ways.map (·.getD k 0)) (.cast (.sX (own:=["way"]) D.ways eR (λa=>fq<|a.getD k 0) (.of ["way"] [0]) (.list .n1<|.name _ _) (λe d a f=>?_) F.yz)<|on fq (λa:List Nat=>a.getD k 0) _) (F.SV.at_ k b).1 λx h=>g7 h (F.SV.at_ k b).2;exact .pU (.name ai .p0) .o1 λc _=>.sub .n0 .n1<|.list py (FY F.Pd.2 b)<|O3<|by rw[F.hy a f];exact b
theorem S0(k:LX D E 7 Ω rest P):LX D E 6 Ω (eM 6::rest) P:=by
 refine .assign (t:=eR D.high) (.cast (.sX (own:=["k"]) (aL D.high.length) fq (λk=>fq<|D.high.getD k 0) (.of ["k"] [4]) (.nN (n:=D.high.length) (.cast (.len (.sub (.g 4) .int<|.list (i:=0) (dD tt) (dD tt)<|Vv F)<|by rw[af,<-F.IW.len,F.Vs];exact ji F.hm.2)<|by rw[af,<-F.IW.len])<|ab F.Ar.2<|dN tt) (λm l k b=>?_)<|by rw[aO,F.Vs];exact ji F.hm.2)<|by rw[range_getD]) ai (.g 8) k;have b:=aR.mp b;refine .pU (.name ai .p0) .o1 λj _=>O4 (ls:=D.ways.map (·.getD k 0)) (.cast (.sX (own:=["way"]) D.ways eR (λa=>fq<|a.getD k 0) (.of ["way"] [0]) (.list .n1<|.name _ _) (λe d a f=>?_) F.yz)<|on fq (λa:List Nat=>a.getD k 0) _) (F.IW.at_ k b).1 λx h=>g7 h (F.IW.at_ k b).2;exact .pU (.name ai .p0) .o1 λc _=>.sub .n0 .n1<|.list py (FY F.Ar.2 b)<|O3<|by rw[F.hy a f,<-F.Vs];exact b
theorem Pj(k:LX D E 8 ib rest P):LX D E 7 ib (eM 7::rest) P:=by
 refine .iK (.call .gl (.k<|by kernel_rfl) (.cons (.g 2)<|.e1<|.g 3) (by rw[bD]) (fm rfl<|fm rfl uR) (Am (ab F.hwn<|ap rfl) F.O')<|dN tt) ai λt a e=>?_;refine aU e λf q0 d=>?_;clear e;refine bu q0 λb c=>?_;clear q0;subst b;subst c;subst d;exact⟨_,.g 9,k⟩
theorem S3(k:LX D E 9 Ω rest P):LX D E 8 Ω (eM 8::rest) P:=by
 have a:=n8 (xs:=D.words.map λx=>(" ")++x) (sep:="") (B:=901) (by rw[af];exact F.hwn) (λy m=>g7 m λx b=>(len_app " " x).symm▸χ (F.Xx x b) rfl) (dN tt)<|by decide
 refine .assign (t:=.str D.text) ?_ ai (.g 10) k;with_reducible refine .nK .str (.str _) cQ fN gF ?_ (cf.join a.1 a.2) (au _) (N:=?_) (H:=?_) (p:=?_) (i:=?_)
 exact(.e1<|.cast (.sX D.words T.str (λx=>.str<|(" ")++x) (.of ["word"] []) (.list (.g 2)<|.name _ _) (λe d x b=>.pU (.name ai .p0) .o1 λc _=>.bin .str .n0<|.wY<|iW<|ab (bF (F.Xx x b) 1)<|dN tt)<|KR F.hwn)<|on .str (λx=>(" ")++x) _);exact λ_=>ľ;exact λ_=>rfl;exact λ_=>tt;exact tt
theorem Pk(k:LC D E 10 ib rest P):LC D E 9 ib (eM 9::rest) P:=by
 refine .iK (.call .gl (.k<|by kernel_rfl) (t:=.list<|D.TV.map .str) (.ad6 (.call .gl (.k<|by kernel_rfl) (.of<|.g 10) (.e1<|.Bk (.g 10)<|iW F.V6) (Im F.ſ F.htw F.htk F.V6<|by have h:=F.htw;have:=F.V6;split at h<;>omega) ln2) (.str _) cQ zI PySem.F.type_str_split (cf.split (Cb F.ahs)<|Cb F.ahr)<|au _) (.e1<|.g (t:=.int D.w) 3) (bT:=[]) (by rw[bD]) (fm rfl<|fm rfl uR) (Am F.aeF F.aht)<|dN tt) ai λt b z=>?_;refine aU z λe y d=>?_;clear z;refine bu y λa c=>?_;clear y;subst a;subst c;subst d;exact⟨_,.g 11,k⟩
theorem S4(k:LX D E 11 Ω rest P):LX D E 10 Ω (eM 10::rest) P:=.assign (t:=.int D.room) (O4 (.cast (.bin (.list (.e1 .int)<|dN tt) (.sX D.lines T.str (λx=>fq x.length) (.of ["line"] []) (.list (.g 11)<|.name _ _) (λd c x a=>.pU (.name ai .p0) .o1 λb _=>.Bk .n0<|ji<|ab (F.Cg x a)<|ab F.nT<|dN tt)<|ji<|ab F.Uw<|dN tt)<|.sE<|by rw[af];exact ji<|ab (bF F.Uw 1)<|dN tt)<|by show T.list (_::_)=T.list (_::_);rw[aE];rfl) F.hroom F.G5) ai (.g 12) k
end
section
variable (F:PF D)
include F
theorem EN(a:x∈D.lines):(tg D.room x).length<=40:=by unfold tg;rw[len_app];exact aav F.nT (F.Cg x a) IU
theorem S5(a:x∈D.lines):MulOk (" ")<|D.room-x.length:=O6 (cJ (QW _<|bc _)<|bj.mpr F.nT)<|cJ (by decide)<|rk<|bj.mpr<|F.Cg x a
theorem S6(k:LC D E 12 Ω rest P):LC D E 11 Ω (eM 11::rest) P:=by
 have a:=n8 (xs:=D.lines.map<|tg D.room) (sep:="") (B:=40) (by rw[af];exact F.Uw) (λy m=>g7 m λx b=>EN F b) (by decide)<|by decide
 exact .assign (t:=.str D.EM) (.call .gl (.k<|by kernel_rfl) (t:=.str D.joined) (.of<|by(with_reducible refine .nK .str (.str _) cQ fN gF ?_ (cf.join a.1 a.2) (au _) (N:=?_) (H:=?_) (p:=?_) (i:=?_));exact(.e1<|.cast (.sX (own:=["line"]) D.lines T.str (λx=>.str<|tg D.room x) (.of ["line"] [12]) (.list (.g 11)<|.name _ _) (λe d x b=>.pU (.name ai .p0) .o1 λc _=>.bin .n0 (.bin .str (.bin .n1 (.Bk .n0<|ji<|ab (F.Cg x b)<|ab F.nT<|by decide) .fx)<|.F1<|S5 F b)<|.wY<|len_app x _▸ji (ab (EN F b)<|by decide))<|ji<|ab F.Uw<|by decide)<|on .str (tg D.room) _);exact λ_=>ľ;exact λ_=>rfl;exact λ_=>tt;exact tt) (.e1<|.g 12) (Im F.γ (ZN F.Xy) F.Wg F.XW<|ab F.nT<|ap rfl) ln2) ai (.g 13) k
theorem G7:D.kj<=1000:=ab (CI _ F.Xy)<|F.Wg▸F.XW
theorem Pl:D.EM.length<=1000:=F.hpl▸F.Wg▸F.XW
theorem S7(k:LX D E 13 Ω rest P):LX D E 12 Ω (eM 12::rest) P:=by
 refine .assign (t:=tS D.back) (.cast (.nf (.cast (.sX (aL D.kj) (λk=>.int<|0+k*D.room) (λk=>.str<|KP D.EM D.room k) (.of ["k"] [13,12]) (.wZ (.builtin (kK E.W) kL kM) (.cons .int<|.cons (.Bk (.g 13)<|iW<|Pl F)<|.e1<|.g 12) (ω F.Xy) (Bb<|az F.nT<|aB (cb 40)<|ap rfl) ?_<|by rw[F.hpl];exact kR F.Xy) (λf e k b=>?_)<|by rw[aO];exact iW<|G7 F)<|on .str (KP D.EM D.room) _) .none .none (.int<|.neg .int) (dD tt)<|by rw[af,aO];exact iW<|G7 F)<|by rw[SQ];rfl) ai (.g 14) k
 .have c:=Pl F;unfold eo;rw[F.hpl,kR F.Xy];rw[F.hpl] at c;simp only [iv,bg,decide_eq_true_eq,fO];rw[if_pos<|aab F.Xy];simp only [bg,decide_eq_true_eq];exact⟨ ⟨⟨⟨by decide,zO c⟩,zO<|ab F.nT<|by decide⟩,zO<|G7 F⟩,.inr<|aad c F.nT⟩
 .have b:=aR.mp b;have a:=F.hpl▸cw _ b;rw[fK] at a;rw[show(0:Int)+k*D.room=((k*D.room:Nat)) from(eb _).trans (pH _ _).symm];exact .pU (.name ai .p0) .o1 λd _=>.M1 .n1 .n0 (.cast (.bin .n0 (.g 2) .cZ)<|by rw[<-Int.natCast_add]) HR a<|iW<|Pl F
theorem EO(a:y∈D.old):(vX D.room y).length<=200:=by unfold vX;rw[len_app,len_app];exact aaw F.nT (F.Vt y a) IU
theorem XC(k:LX D E 14 Ω rest P):LX D E 13 Ω (eM 13::rest) P:=by
 refine .ite (b:=false) (.boolOp<|.or (b:=false) ?_ λ_=>.or (b:=false) ?_ λ_=>.CW) (λh=>by cases h) λ_=>.nil k
 .refine .TW F.Ce<|.cmp (.g 9) (.cast (.sX D.new T.str (λy=>.str<|(" ")++y) (.of ["row"] []) (.list (.call .gl (.k<|by kernel_rfl) (.cons (.g 2)<|.e1<|.g 8) (F.rows F.Ar) Pe)<|.name _ _) (λi f y c=>?_)<|ji F.nl)<|on .str (λy=>(" ")++y) _)<|.qi (n:=0)<|sF.ED .zl _ _;exact .pU (.name ai .p0) .o1 λd _=>.bin .str .n0<|.wY<|G6<|ab (F.Pa y c)<|dN tt
 .refine .TW F.IX<|.cmp (.g 14) (.cast (.sX (own:=["row"]) D.old T.str (λy=>.str<|vX D.room y) (.of ["row"] [12]) (.list (.call .gl (.k<|by kernel_rfl) (.cons (.g 2)<|.e1<|.g 7) (F.rows F.Pd) Pe)<|.name _ _) (λi f y c=>?_)<|ji F.ol)<|on .str (vX D.room) _)<|.qi (n:=0)<|sF.ED .zl _ _;have e:=F.Vt y c;have j:1<=D.room/\D.room<=40:=⟨F.Xy,F.nT⟩;have a:=EO F c;unfold vX at a;rw[len_app] at a;exact .pU (.name ai .p0) .o1 λd _=>.bin (.bin (.bin .str (.bin (.bin .n1 .int .fx) (.Bk .n0<|iW<|ab e<|dN tt) .fx)<|.F1<|O6 (aaj j)<|aak e) .n0<|.wY<|len_app _ y▸iW (ab (ab (bi _ _) a)<|dN tt)) .str<|.wY<|iW<|ab a<|dN tt
theorem XD(k:LX D E 15 Ω rest P):LX D E 14 Ω (eM 14::rest) P:=by
 refine .pQ (.of<|.tuple (.cons (.cast (.sX D.back T.str (λy=>.str<|iC y) (.of ["row"] []) (.list (.g 14)<|.name _ _) (λh f y a=>?_)<|by rw[F.IX,af];exact ji F.ol)<|on .str iC _)<|.e1<|.cast (.sX D.front T.str (λy=>.str<|iC y) (.of ["row"] []) (.list (.g 9)<|.name _ _) (λh f y a=>?_)<|by rw[F.Ce,af];exact ji F.nl)<|on .str iC _)<|by show 2<=_;decide) λt d z=>?_
 .rw[F.IX] at a;exact .pU (.name ai .p0) .o1 λc _=>.nK .n0 (.str _) cQ zJ zK .nil (cf.strip<|iW<|g7 a λz b=>ab (EO F b)<|dN tt)<|au _
 .rw[F.Ce] at a;exact .pU (.name ai .p0) .o1 λc _=>.nK .n0 (.str _) cQ zJ zK .nil (cf.strip<|g7 a λz b=>len_app " " z▸G6 (ab (F.Pa z b)<|dN tt))<|au _
 .refine bu z λe i=>?_;clear z;subst e;subst i;rw[F.IX,F.hold,F.Ce,F.hnew];exact⟨_,_,rfl,.cons ai (.g 15)<|.cons ai (.g 16) .nil,k⟩
theorem G8(k:∀x a c,LX D (E.μ x a) 16 (Ca E.W D.old D.new .none .none c a++ib) rest P):LX D E 15 ib (eM 15::rest) P:=by
 refine .iK (.call .gl (.k<|by kernel_rfl) (.cons .none<|.cons (.g 15)<|.e1<|.g 16) (bT:=ib) (.refl _) (λp m=>by cases m) (λA G s j i I h f=>JQ (by kernel_rfl) i I h f λx b=>N8 F.hnd<|az F.nl<|dN tt)<|dN tt) ai λt b h=>?_;refine aU h λi q0 f=>?_;clear h;refine cc q0 λx q1=>?_;clear q0;refine cc q1 λa q2=>?_;clear q1;refine bu q2 λd q3=>?_;clear q2;refine cc q3 λc e=>?_;clear q3;subst d;subst e;subst f;exact⟨_,.g 17,k x a c⟩
theorem Pm(k:LX D E 17 (Ca E.W D.old D.new (.list<|D.bl.map qJ) (.list<|D.codes.map dp.t) h E.dx++ib) rest P):LX D E 16 (Ca E.W D.old D.new .none .none h E.dx++ib) (eM 16::rest) P:=by
 refine .iK (.nK (.g 17) .inst (.tail _<|.head _) rfl rfl .nil (.refl _) (G2 E.W) (Ec F.hnd (az F.ol<|dN tt) (az F.nl<|dN tt) F.Þ F.ahu<|.inl ⟨rfl,rfl⟩)<|dN tt) ai λt a e=>?_;refine aU e λf q0 d=>?_;clear e;refine bu q0 λb c=>?_;clear q0;subst b;subst c;subst d;exact⟨_,.g 18,k⟩
theorem G9(k:LX D E 18 Ω rest P):LX D E 17 Ω (eM 17::rest) P:=.uj D.codes dp.t Vp dp.t (.of ["code"] []) (.list (.g 18)<|.name _ _) (λd b c e=>.mk (.name ai .p0) .o1 (λa _=>.one<|.cmp (.sub .n0 .int<|.tuple (dD tt) (dD tt) (O7 c) rfl) .str .adM) λa _ _=>.n0) (KR F.SX) ai (.g 20) k
end
theorem bZ.Ch(i)(h:autoParam (ae (x,ae (.val<|.ref a))=f[i]?) iF)(c:∀G o,G a=ah->(a==f_)=false->b.holds G o->Tr (G.add a o) (.ref a) t)(d:b.gT=false)(r:r8 a t Ω bT)(k:bZ C (f.set i (x,ae t)) bT g P):bZ C f ((a,b)::Ω) g P:=.r9 c (λy u m=>(List.mem_or_eq_of_mem_set m).elim .inl λe=>by cases e;exact .inr ⟨aZ h.symm,rfl⟩) (oC.at h.symm).names d r k
theorem ψ(h:p):(!@decide p i)=false:=by rw[decide_eq_true h];rfl
theorem yb(f:d.length<=100)(e:a.length<=100)(b c):(x9 d a b c).length<=100:=by cases b with|true=>exact ab (kJ _ _ _ _) e|false=>exact ab (kJ _ _ _ _) f
section
variable (F:PF D)
include F
theorem S8(i l)(h:l.length<=16):(x_ D.old D.new D.changes i l).length<=1600:=ab (ql l λc _=>yb F.IY F.Vu _ c)<|ab (cw 100 h)<|dN tt
theorem KS(k:LX D E 19 Ω rest P):LX D E 18 Ω (eM 18::rest) P:=by
 have p:2^D.changes.length<=2^16:=rr (by decide) F.chg;have o:(D.changes.map dp.t).length=D.changes.length:=af _;refine .vO (λ_ _=>XA D E 18) (λ_ _=>Ω) (λ_ _=>True) (λ_=>false) () (.nN (.cast (.bin .int (.len (.g 20)<|o▸KR F.chg)<|.MX py ?_) ?_)<|ab p<|by decide) trivial rfl (λi t _ z Q q l _=>?_) λ_ _=>k
 .rw[o,show i7 2=2 from by decide+kernel];have:=F.chg;omega
 .rw[o,cC];show T.int _=T.int _;congr 1
 rw[aq,aT] at l;refine aU l λj w q0=>?_;clear l;subst q0;obtain⟨v,rfl⟩:i<2^D.changes.length/\i=j:=by
  refine cc (List.getElem?_eq_some_iff.mp w) λh e=>?_;rw[aO] at h;rw[ew] at e;exact⟨h,e⟩
 refine⟨_,.name ai<|.g 21,.newList ai (λa=>.g 22) λa=>?_⟩;refine .vO (λ_ _=>((XA D E 18).set 21 ("choice",ae (fq i))).set 22 ("mixed",ae (.val<|.ref a))) (λn _=>(a,Ob.list ((x_ D.old D.new D.changes i<|D.codes.take n).map .str))::(z++Ω)) (λ_ _=>True) (λ_=>false) () (.list (.g 18)<|.name _ _) trivial rfl (λn t _ d u m l _=>?_) λ_ _=>?_
 .rw[aq,aT] at l;refine aU l λc y q1=>?_;clear l;subst q1;refine⟨_,.name ai<|.g 19,.assign (t:=.bool<|se D.changes i c) (.Wo (.cmp (.g 19) (.g 20)<|.Ŷ (λa b=>lh.code (n:=0) a b) code_inj) λs=>?_) ai (.g 23) ?_⟩;.exact .cmp (.bin (.cast (.bin (.g 21) (.nK (.g 20) (.list _) hZ yV PySem.F.type_list_index (.e1<|.g 19) (cf.Xr (λa b=>lh.code (n:=0) a b) OW (of_decide_eq_true s)<|KR F.chg)<|au _)<|.Wl py)<|by rw[cC]) .int .Wm) .int<|.eq (n:=0)<|.int _ _
  refine .n9 (Vc:=(x_ D.old D.new D.changes i<|D.codes.take n).map .str++(x9 D.old D.new (se D.changes i c) c).map .str) (us:=[tS<|x9 D.old D.new (se D.changes i c) c]) (.g 22) (eL.app d .here) jD nr (.e1<|.ite (.val (.g 23) .bool) (λr=>?_) λr=>?_) (rW (eL.app d .here) ?_)<|.nil<|?_
  .rw[r];exact .nf (.g 16) (.int<|.sub (.g 19) .int<|.tuple (by decide) (by decide) (code_at c 3 _ (by decide) rfl) rfl) (.int<|.sub (.g 19) .int<|.tuple (by decide) (by decide) (code_at c 4 _ (by decide) rfl) rfl) .none (by decide)<|ji F.nl
  .rw[r];exact .nf (.g 15) (.int<|.sub (.g 19) .int<|.tuple (by decide) (by decide) (code_at c 1 _ (by decide) rfl) rfl) (.int<|.sub (.g 19) .int<|.tuple (by decide) (by decide) (code_at c 2 _ (by decide) rfl) rfl) .none (by decide)<|ji F.ol
  .rw[af,af];exact IV<|ab (c_ (S8 F i _<|ab (FU _ _) F.SX)<|yb F.IY F.Vu _ c)<|by decide
  .have e:x_ D.old D.new D.changes i (D.codes.take<|n+1)=x_ D.old D.new D.changes i (D.codes.take n)++x9 D.old D.new (se D.changes i c) c:=by unfold x_;rw[cA,y,jJ];exact congrArg (_++·)<|bD _
   rw[<-aJ,<-e];exact m<|.next (λk=>k==19||k==23) () trivial rfl
 .rw[af,dn];refine .Ch (t:=tS<|x_ D.old D.new D.changes i D.codes) 22 rfl iS rfl (r8.refl _)<|.ite (b:=false) ?_ (λh=>by cases h) λ_=>.nil<|.nil<|q<|.next (λk=>k==21||k==22) () trivial rfl;have h:=fe.Xw (n:=2) (f:=tS) (xs:=D.ways.map<|cM D.words) (x:=x_ D.old D.new D.changes i D.codes) (λa b=>lh.EE (n:=1) .zl a b) O8;rw[ψ<|F.hmix i v] at h;exact .cmp (.g 22) (.cast (.g 6)<|on tS (cM D.words) D.ways) h
end
theorem Po(a):∀(l) (c),(∀way∈l,(cM a way).length<=50)->(rg a c l).length<=c.length+l.length*50:=λl=>by induction l with|nil=>exact λc _=>bi _ _|cons way l d=>intro c h;have b:=d (c++(cM a way).filter λr=>!decide (r∈c)) λy m=>h y<|.tail _ m;rw[aM] at b;rw[be,fK];exact aal b (h way<|.head _)<|dS (λr=>!decide (r∈c))<|cM a way
namespace PD
variable (D:PD)
noncomputable def hw(i:Nat):List<|List Nat:=eG D.ways i
noncomputable def cs(i:Nat):List Str:=(aL i).foldl (λc h=>rg D.words c<|D.hw h) []
noncomputable def hs(i:Nat):List Stat:=(aL i).map D.half
noncomputable def vY(i n:Nat):List Str:=rg D.words (D.cs i)<|(D.hw i).take n
noncomputable def EP(i n:Nat):Stat:=kb D.words D.w<|(D.hw i).take n
noncomputable def XE(i n:Nat)(way:List Nat):List Str:=(cM D.words way).filter λr=>!decide (r∈D.vY i n)
variable {D}
theorem KU(h:(D.hw i)[n]?=ae way):D.vY i (n+1)=D.vY i n++D.XE i n way:=by unfold vY;rw[cA,h];exact eU
theorem KV(h:(D.hw i)[n]?=ae way):D.EP i (n+1)=xu (D.EP i n) (sf D.words D.w way):=by unfold EP;rw[cA,h];exact eU
theorem IZ:D.cs (i+1)=rg D.words (D.cs i) (D.hw i):=by unfold cs;rw[gk];exact eU
theorem S9(W):(D.hs<|i+1).map (Stat.t W)=(D.hs i).map (Stat.t W)++[(D.half i).t W]:=by unfold hs;rw[gk,aJ,aJ];rfl
theorem G_(h:way∈D.hw i):way∈D.ways:=sO h
end PD
section
variable (F:PF D)
include F
theorem EQ(h:way∈D.ways):(cM D.words way).length<=50:=by unfold cM;rw[nD,af,F.hy way h];exact(ab (cq ..) F.hm.2)
theorem Pp(i):(D.hw i).length<=2000:=ab (kJ _ _ _ _) F.hz
theorem I0(l)(b:l.length<=2000)(h:∀way∈l,way∈D.hw i)(a:c.length<=i*100000):(rg D.words c l).length<=(i+1)*100000:=ab (Po _ l c λway m=>EQ F<|PD.G_<|h way m)<|fK i 100000▸c_ a (ab (cw 50 b)<|dN tt)
theorem XF(i):(D.cs i).length<=i*100000:=by induction i with|zero=>exact al _|succ i a=>rw[PD.IZ];exact I0 F _ (Pp F i) (λ_ m=>m) a
theorem Pq(n)(a:i<2):(D.vY i n).length<=200000:=ab (I0 F _ (ab (FU _ _)<|Pp F i) (λ_=>f8)<|XF F i)<|cw 100000 a
noncomputable abbrev UA(D:PD)(E:LE)(b a:cj):cG:=((XA D E 19).set 24 ("halves",ae (.val<|.ref b))).set 25 ("coming",ae (.val<|.ref a))
omit F in theorem KW(k:∀c b,bZ (Uy E) (UA D E c b) ((b,Ob.list [])::(c,Ob.list [])::Ω) rest P):LX D E 19 Ω (eM 19::rest) P:=by
 refine .pQ (.tuple (Q:=λh a=>∃c b,h=[.val<|.ref c,.val<|.ref b]/\a=(b,Ob.list [])::(c,Ob.list [])::Ω) (.cons (.oh .nil<|au _) λt a z=>?_) λh a z=>by refine j7 z λ_ _ e _=>?_;rw[e];show 2<=_;decide) λt a z=>?_;.refine aU z λc d f=>?_;clear z;subst d;subst f;exact .cons (.oh .nil<|au _) λt a z=>aU z λb d f=>.fin ⟨c,b,by rw[d],f⟩
 .refine aU z λh e y=>?_;clear z;refine j7 y λc b d f=>?_;clear y;subst e;subst d;subst f;exact⟨_,_,rfl,.cons ai (.g 24)<|.cons ai (.g 25) .nil,k c b⟩
theorem aeK(h:way∈D.ways)(m:r∈cM D.words way):r.length<=aA/\↑(i7<|D.w-1-r.length)*(2:Int)<=2^27:=have:=F.ż way h r m
 ⟨iW<|ab this<|dN tt,aan<|jg<|aam F.ŷ<|ab this<|dN tt⟩
omit F in theorem Iw{t:T}(d:[fq 0,fq 1][i]?=ae t):i<2/\t=fq i:=by cases i with|zero=>exact⟨by decide,(bq d).symm⟩|succ i=>cases i with|zero=>exact⟨by decide,(bq d).symm⟩|succ i=>exact nS d
set_option maxHeartbeats 1000000 in theorem ae8(k:LX D E 21 Ω rest P):bZ (Uy E) (UA D E v o) ((o,Ob.list [])::(v,Ob.list [])::Ω) (eM 20::rest) P:=by
 refine .vO (σ:=Unit) (ts:=[fq 0,fq 1]) (λ_ _=>UA D E v o) (λi _=>(o,Ob.list ((D.cs i).map .str))::(v,Ob.list ((D.hs i).map<|Stat.t E.W))::Ω) (λ_ _=>True) (λ_=>false) () (.tuple<|.tuple (.cons .int<|.e1 .int)<|by show 2<=_;decide) trivial rfl (λi t _ B Q q d _=>?_) λ_ _=>?_
 .obtain⟨L,rfl⟩:=Iw d;refine⟨_,.name ai<|.g 26,.assign (t:=EK.t E.W) (.tuple (.cons .int<|.cons .int<|.cons .int<|.cons .int<|.e1<|.newDict kS)<|by show 5<=_;decide) ai (.g 27) ?_⟩;refine .vO (σ:=Unit) (ts:=(D.hw i).map λc=>.tuple [eR c,tS<|cM D.words c]) (λn _=>((UA D E v o).set 26 ("half",ae (fq i))).set 27 ("total",ae ((D.EP i n).t E.W))) (λn _=>B++((o,Ob.list ((D.vY i n).map .str))::(v,Ob.list ((D.hs i).map<|Stat.t E.W))::Ω)) (λ_ _=>True) (λ_=>false) () (.z_ (.zip (.builtin (F' E.W) Ga<|by decide)<|.cons (.nf (.g 4) (.int<|.g 26) .none (.int .int) (by decide) F.yz)<|.e1<|.nf (.g 6) (.int<|.g 26) .none (.int .int) (by decide) F.yz)<|zip_rows _ _ _) trivial rfl (λn t _ l I A d _=>?_) λ_ _=>?_
  .rw[aq,aT] at d;refine aU d λc C q0=>?_;clear d;subst q0;have h:=PD.G_<|aZ C;have s:=EQ F h;refine⟨_,.tuple<|.cons ai (.g 5)<|.cons ai (.g 28) .nil,?_⟩;refine .n9 (Vc:=(D.vY i n).map .str++(D.XE i n c).map .str) (us:=[tS<|D.XE i n c]) (.g 25) (eL.app l<|eL.app B .here) jD nr (.e1<|.Yx (own:=["row"]) (cM D.words c) T.str (λr=>!decide (r∈D.vY i n)) T.str (.of ["row"] [25]) (.list (.g 28)<|.name _ _) (λH G r m=>.mk (.name ai .p0) .o1 (λu R=>.one<|.KQ (n:=0) (f:=T.str) (a:=o) (b:=(Ob.list<|(D.vY i n).map .str).CV) .n0 .n1 (R _<|am.mpr ⟨(o,Ob.list ((D.vY i n).map .str)),av _<|av _<|.head _,rfl⟩) rfl .zl str_inj) λu _ _=>.n0)<|ji s) (rW (eL.app l<|eL.app B .here) ?_) ?_;.rw[af,af];exact ab (c_ (Pq F n L)<|ab (dS _ _) s)<|by decide
   refine .assign (t:=(xu (D.EP i n)<|sf D.words D.w c).t E.W) (.Ii .gl (.cons (.g 27)<|.e1<|.tuple (.cons .int<|.cons (.cast (.len (.g 28)<|by rw[af];exact ji s)<|by rw[af];rfl)<|.cons (.call (.builtin (xd E.W) xe xf) (.builtin _) (.e1<|.cast (.sX (own:=["row"]) (cM D.words c) T.str (λr=>.int<|Si D.w r) (.of ["row"] [3]) (.list (.g 28)<|.name _ _) (λH G r m=>?_)<|ji s)<|on .int (Si D.w) _) cf.RB<|au _)<|.cons (.call (.builtin (xd E.W) xe xf) (.builtin _) (.e1<|.cast (.g 5)<|qQ _) cf.RB<|au _)<|.e1<|Ev.cast (t':=T.dk kS E.W<|oE<|EJ<|cM D.words c) (.OV (dY:=["row"]) (κ:=kS) (ts:=(cM D.words c).map T.str) (kvs:=(cM D.words c).map λr=>(r,T.int 1)) (.of ["row"] []) (.list (.g 28)<|.name _ _) (λH G=>?_)<|by rw[af];exact ji s) ?_)<|by show 5<=_;decide) (z' (W:=E.W) (x:=D.EP i n) (y:=sf D.words D.w c) (ab (F.hke _ λy m=>PD.G_<|f8 m)<|by decide)<|ab (F.hko c h)<|by decide) ln2) ai (.g 27)<|.nil ?_;.have:=aeK F h m;exact .pU (.name ai .p0) .o1 λu _=>.bin (.bin (.bin .n1 .int .fx) (.Bk .n0 this.1) .fx) .int<|.MX (by decide) this.2
   .refine⟨by rw[af,af],λj t p d M=>?_⟩;rw[aq,aT] at d M;refine aU d λr s q1=>?_;clear d;subst q1;refine aU M λS z q2=>?_;clear M;subst q2;rw[s] at z;cases z
    exact⟨_,.name ai .p0,Wk.back .o1,λu _=>⟨.n0,.int⟩⟩
   .rw[show([]:List<|bC×T)=oE [] from rfl,EL];rfl
   .rw[<-aJ,<-PD.KU C,<-PD.KV C];exact A<|.next (λk=>k==5||k==28) () trivial rfl
  .have e:D.vY i (D.hw i).length=D.cs (i+1):=by unfold PD.vY;rw[dn,PD.IZ]
   have N:D.EP i (D.hw i).length=D.half i:=by unfold PD.EP;rw[dn];rfl
   rw[af,e,N];refine .n9 (Vc:=(D.hs i).map (Stat.t E.W)++[(D.half i).t E.W]) (us:=[(D.half i).t E.W]) (.g 24) (eL.app B<|.there .here) fU fV (.e1<|.g 27) (m9 (eL.app B<|.there .here) ?_)<|.nil ?_;.unfold PD.hs;rw[af,af,aO];exact ji<|ab (aF L)<|by decide
   .rw[<-PD.S9];exact q<|.next (λk=>k==26||k==27) () trivial rfl
 .refine .Ch (t:=tS D.SU) 25 rfl iS rfl (r8.refl _)<|.Ch (t:=.list [(D.half 0).t E.W,(D.half 1).t E.W]) 24 rfl iS rfl (r8.refl _) k
end
theorem Ev.Vw{s:Stat}(a:Ev C c Ω e<|s.t C.W)(hs:autoParam (∀o i,fb (.Constant (.int 4) k b) false o i=k9 [o,i] (ig o i)) mI):Ev C c Ω (.Subscript e (.Constant (.int 4) k b) d)<|T.dk kS C.W<|oE s.e:=.sub a .int<|.tuple (j:=4) (dD tt) (dD tt) rfl rfl hs
section
variable (F:PF D)
include F
theorem Ps(hs:s∈[D.half 0,D.half 1]):s.e.length<=10000:=by refine eQ hs (F.hz0 0) λhs=>?_;rw[ao] at hs;exact hs▸F.hz0 1
theorem Pu(k:LX D E 22 Ω rest P):LX D E 21 Ω (eM 21::rest) P:=.qH [D.half 0,D.half 1] (Stat.t E.W) nR (.of ["one"] []) (.list (.g 24)<|.name _ _) (λd c s a=>.pU (.name ai .p0) .o1 λb _=>Aq .n0 (Ps F a)<|by kernel_rfl) (by show 2<=_;decide) ai (.g 29) k
theorem Pv(k:LX D E 23 Ω rest P):LX D E 22 Ω (eM 22::rest) P:=.assign (t:=D.tot.t E.W) (.Ii .gl (.cons (.sub (.g 24) .int<|.list (dD tt) (dD tt) rfl)<|.e1<|.sub (.g 24) .int<|.list (dD tt) (dD tt) rfl) (z' (F.hz0 0)<|F.hz0 1) ln2) ai (.g 27) k
omit F in theorem KX(l:List Stat):sF 2 (l.map nR) (l.map nR) true:=by induction l with|nil=>exact .nil|cons s l a=>have:=lh.items (n:=0) s s;rw[decide_eq_true rfl] at this;exact .cons this a
theorem XG(k:LX D E 24 Ω rest P):LX D E 23 Ω (eM 23::rest) P:=by
 have a:T.list (D.codes.map dp.t)=T.list (D.YB.map Cd.t):=by rw[F.aeG,aE];rfl
 refine .ite (b:=false) (.boolOp<|.or (b:=false) ?_ λ_=>.or (b:=false) ?_ λ_=>.or (b:=false) ?_ λ_=>.CW) (λh=>by cases h) λ_=>.nil k;.exact .aho (.g 27) (.Ii .gl (.cons (.g 2)<|.cons (.g 3)<|.cons (.cast (.g 18) a)<|.e1<|.g 8) (Nz F.hwn F.Pb F.Ar.2 (ab F.à<|dN tt) F.ahw F.ζ) ln2)<|.Xq F.hsame
 .have c:=fe.qi (n:=0)<|sF.ED .zl (D.tot.e.map (·.1)) D.SU;rw[show(D.tot.e.map (·.1)).map T.str=(oE D.tot.e).map (λp=>kS.enc p.1) from by unfold oE;rw[aE,aE];rfl] at c;exact .TW F.ahx<|.cmp (.No (.builtin (BM E.W) BN BO) (.type _) (.e1<|.Vw<|.g 27) (zm<|by unfold oE;rw[af];exact(ab F.ahv<|dN tt)) (au _) (λp m=>by cases m)<|by simp) (.g 25) c
 .exact .cmp (.g 29) (.sX [D.half 0,D.half 1] (Stat.t E.W) nR (.of ["one"] []) (.list (.g 24)<|.name _ _) (λj i s d=>.pU (.name ai .p0) .o1 λf _=>Aq .n0 (Ps F d)<|by kernel_rfl)<|by show 2<=_;decide)<|.qi<|KX [D.half 0,D.half 1]
theorem XH(k:LX D E 25 Ω rest P):LX D E 24 Ω (eM 24::rest) P:=by
 have m:(D.codes.filter vk).flatMap (λc=>((lK D.old (ae c.i) (ae c.j) ah).filter λ_=>aj).map T.str)=((D.codes.filter vk).flatMap λc=>lK D.old (ae c.i) (ae c.j) ah).map T.str:=by
  rw[lM];congr 1;funext c;rw[filter_all]
 refine .ite (.TW F.η<|.cmp (.Yx D.old T.str (λr=>(jo D.tot.e r).getD 0==D.ways.length) T.str (.of ["row"] [27,4]) (.list (.g 15)<|.name _ _) (λl d r u=>?_)<|ji F.ol) (.cast (.ad2 D.codes dp.t vk (λc=>lK D.old (ae c.i) (ae c.j) ah) (λ_=>T.str) (λ_ _=>aj) (λ_=>T.str) (.of ["code","row"] [15]) (.list (.g 18)<|.name _ _) (λl d c w=>?_) ?_)<|by rw[m])<|.qi (n:=0)<|sF.ED .zl _ _) (λh=>by cases h) λ_=>.nil k
 .refine cc (F.hg r u) λv b=>.mk (.name ai .p0) .o1 (λa _=>.one ?_) λ_ _ _=>.n0;rw[b];exact .cmp (.subDict (.Vw (s:=D.tot) .n1) .stay .n0<|by rw[qG,b];rfl) (.cast (.len (.g 2)<|by rw[af];exact F.yz)<|by rw[af])<|.eq (n:=0)<|.int _ _
 .refine⟨_,.name ai .p0,.o1,λa _=>.one<|.cmp (.sub .n0 .int<|.tuple (by decide) (by decide) (code_at c 0 _ (dN tt) rfl) rfl) .str<|.eq (n:=0)<|.str _ _,λa _ _=>.list (.nf (.g 2) (.int<|.sub .n0 .int<|.tuple (by decide) (by decide) (code_at c 1 _ (by decide) rfl) rfl) (.int<|.sub .n0 .int<|.tuple (by decide) (by decide) (code_at c 2 _ (by decide) rfl) rfl) .none (by decide)<|ji F.ol)<|.name _ _,λ_ y _=>.pU (.name ai .p1) (.same .o1) λ_ _=>.n1⟩
 .have o:=ql (f:=λc=>((lK D.old (ae c.i) (ae c.j) ah).filter λ_=>aj).map T.str) (B:=100) (D.codes.filter vk) λc _=>by rw[af,filter_all];exact ab (kJ _ _ _ _) F.IY
  have p:=dS vk D.codes;have q:=cw 100<|ab p F.SX;exact Cb<|ab o<|ab q<|by decide
end
section
variable (F:PF D)
include F
theorem S_(k:LX D E 26 Ω rest P):LX D E 25 Ω (eM 25::rest) P:=.qH (aL D.old.length) fq (λk=>.bool<|ya D.low D.high k) (.of ["k"] [8,7]) (.nN (.cast (.len (.g 15)<|by rw[af];exact ji F.ol)<|by rw[af])<|ab F.ol<|dN tt) (λc b k d=>.pU (.name ai .p0) .o1 λa _=>.cmp (.nf (.g 2) (.int .n0) (.int<|.bin .n0 .int .cZ) .none (dD tt)<|ji F.hm.2) (.nf .n1 (.int .n0) (.int<|.bin .n0 .int .cZ) .none (dD tt)<|iW<|ab F.Ar.2<|dN tt)<|.eq (n:=1)<|lh.EE .ahq _ _) (by rw[aO];exact ji F.ol) ai (by rw[on T.bool<|ya D.low D.high];exact .g 30) k
theorem Pw(k:LX D E 27 Ω rest P):LX D E 26 Ω (eM 26::rest) P:=by
 refine .pQ (.of<|.tuple (.cons (.bin (.bin .int (.bin (.sub (.g 1) .int<|.list (by decide) (by decide)<|oo<|MI F.hc) .int<|.divInt (by decide)<|Bb<|by decide) .cZ) .int<|.oK<|by decide)<|.e1<|.call (.builtin (Bd E.W) Be<|by decide) (.builtin _) (.cons .int<|.e1<|.bin (Ev.cast (.len (.g 15)<|by rw[af];exact ji F.ol)<|by rw[af]) (.bin (.bin .int (.bin (.sub (.g 1) .int<|.list (by decide) (by decide)<|oo<|MI F.hc) .int<|.divInt (by decide)<|Bb<|by decide) .cZ) .int<|.oK<|by decide) .fx) cf.max2<|au _)<|by show 2<=_;decide) λt b c=>?_;refine bu c λa d=>?_;try clear c
 subst a;subst d;exact⟨_,_,rfl,.cons ai (.g 31)<|.cons ai (.g 32) .nil,k⟩
theorem Px(k:∀d a b,((a=.none/\b=.none)\/(a=l/\b=op/\D.G4=D.old/\D.Cc=D.new))->LX D E 28 (Ca E.W D.G4 D.Cc a b d E.dx++ib) rest P):LX D E 27 (Ca E.W D.old D.new l op n E.dx++ib) (eM 27::rest) P:=by
 refine .rB (.nK (.g 17) .inst (.tail _<|.head _) rfl rfl (.cons (.nf (.g 15) (.int<|.g 31) .none .none (dD tt)<|ji F.ol)<|.e1<|.nf (.g 16) .none (.int<|.g 32) .none (dD tt)<|ji F.nl) (.refl _) (G2 E.W) (Ks F.hnd'<|az (ab (kJ D.new ah (ae D.Vr) ah) F.nl)<|dN tt)<|dN tt) λt e h=>?_;refine aU h λm q0 j=>?_;clear h;refine bu q0 λf q1=>?_;clear q0;refine Mp q1 λd a b i c=>?_;clear q1;subst f;subst i;subst j;exact k d a b c
theorem Ta(k:LX D E 29 Ω rest P):LX D E 28 Ω (eM 28::rest) P:=by
 have a:D.same.zipIdx.length<=100:=by rw[JD];exact F.sl
 refine .assign (t:=.list<|D.left.map dp.t) (.call .gl (.k<|by kernel_rfl) (.cons (.cast (.sX D.same.zipIdx (λq=>.tuple [.int q.2,.bool q.1]) (λq=>.bool<|q.1&&(decide (D.ahead<=(q.2))&&decide ((q.2)<D.Vr))) (.of ["k","like"] [31,32]) (.z_ (.enum (.builtin (BI E.W) xN IP)<|.e1<|.g 30)<|G3 _) (λd c q e=>?_)<|ab a<|dN tt)<|on .bool (λq:Bool×Nat=>q.1&&(decide (D.ahead<=(q.2))&&decide ((q.2)<D.Vr))) _)<|.cons (.g 31)<|.e1<|.g 32) (xx<|by rw[af];exact a) Pe) ai (.g 33) k;exact .pU (.tuple<|.cons ai .p0<|.cons ai .p1 .nil) .o2 λb _=>.Wo .n1 λ_=>.Xp (.g 2) .n0 (.g 3) .U5 .kl
theorem XI(j:(f=.none/\e=.none)\/(f=.list ((ta D.Vq).map dp.t)/\e=.list (D.Vq.map qJ))) (k:∀o op,LX D E 30 (Ca E.W D.G4 D.Cc o op i E.dx++ib) rest P):LX D E 29 (Ca E.W D.G4 D.Cc e f i E.dx++ib) (eM 29::rest) P:=by
 refine .OI (.Ů (c:=false) (.Ŭ (bT:=Ca E.W D.G4 D.Cc (.list<|D.Vq.map qJ) (.list<|(ta D.Vq).map dp.t) i E.dx++ib) (jb.mono (jb.nK (.g 17) .inst (.tail _<|.head _) rfl rfl .nil (.refl _) (G2 E.W) (Ec F.hnd' (az (ab (kJ _ _ _ _) F.ol)<|dN tt) (az (ab (kJ _ _ _ _) F.nl)<|dN tt) F.aeH F.aeI j)<|dN tt) λt d h=>by refine aU h λq p c=>bu p λa b=>⟨a,by rw[c,b];rfl⟩) (.g (t:=.list<|D.left.map dp.t) 33) ?_) ?_) λb d z=>?_;.refine Pf F.aeJ▸(fe.qi (n:=1)<|sF.ED (λa b=>lh.code (n:=0) a b) _ _).ū
 .exact .TW F.ahy<|.cmp (.g 18) (.call .gl (.k<|by kernel_rfl) (.cons (.g (t:=.list<|D.same.map .bool) 30)<|.cons .int<|.e1<|.cast (.len (ts:=D.old.map .str) (.g 15)<|by rw[af];exact ji F.ol)<|by rw[af]) (xx F.sl) Pe)<|fe.qi (n:=1)<|sF.ED (λa b=>lh.code (n:=0) a b) _ _
 .refine bu z λl m=>?_;clear z;subst l;subst m;rw[if_neg<|by decide];exact .nil<|k _ _
theorem KY(k:LX D E 31 Ω rest P):LX D E 30 Ω (eM 30::rest) P:=by
 refine .qH (aL D.old.length) fq (λk=>sS<|SR D.cells D.old.length k) (.of ["k"] [1,15]) (.nN (Ev.cast (.len (.g 15)<|by rw[af];exact ji F.ol)<|by rw[af])<|ab F.ol<|dN tt) (λf e k b=>?_) (by rw[aO];exact ji F.ol) ai (by rw[on sS (SR D.cells D.old.length)<|aL D.old.length];exact .g 34) k;have b:=aR.mp b;have a:=oo<|aH<|id<|FJ F.hc;have c:((cellAt D.cells 12).fdiv 3).fmod 2=0\/((cellAt D.cells 12).fdiv 3).fmod 2=1:=by
  have:=jh ((cellAt D.cells 12).fdiv 3) (m:=2)<|dN tt;exact aar this.1 this.2
 refine .pU (.name ai .p0) .o1 λd _=>.tuple (.cons (.bin .int (.bin (.bin (.sub .n1 .int<|.list (by decide) (by decide) a) .n0 .cZ) (Ev.cast (.len (.g 2)<|by rw[af];exact ji F.ol)<|by rw[af])<|.oK<|aas b) .cZ)<|.e1<|.bin (.bin .int (.bin .int (.bin (.bin (.sub .n1 .int<|.list (by decide) (by decide) a) .int<|.divInt (by decide)<|Bb<|by decide) .int<|.oK<|by decide)<|.rS<|.of_left<|jg<|by decide) .fx) (.bin .int (.bin .n0 .int<|.oK<|by decide) .cZ)<|.rS<|.of_left<|jg<|by rcases c with h|h<;>rw[h]<;>decide)<|by show 2<=_;decide
theorem Py(k:∀b a,LX D (E.φ b a) 32 ((a,.dict (n_ D.sel))::Ω) rest P):LX D E 31 Ω (eM 31::rest) P:=by
 refine .iK (.call .gl (.k<|by kernel_rfl) (.e1<|.g 34) (.refl _) (λp m=>by cases m) (λA G s j i I h f=>JQ (by kernel_rfl) i I h f λx a=>Gi) ln2) ai λt c h=>?_;refine aU h λi q0 f=>?_;clear h;refine j7 q0 λb a d e=>?_;clear q0;subst d;subst e;subst f;exact⟨_,.g 35,k b a⟩
theorem hd0(l):((l++[0]).map T.int)[((0:Nat):Int).toNat]?=ae (.int<|(l++[0]).headD 0):=by cases l<;>rfl
theorem Tb(E:LE)(d:a.length=D.low.length)(e:b.length=D.low.length):gW E.W (.ref 428) [T.inst g 431 f,eR a,eR b] 1 [(f,.dict (n_ D.sel))]<|.int<|D.cmp a b:=by rw[qQ,qQ];exact JR (λp c=>⟨(F.SW p c).1,by rw[af,d];exact(F.SW p c).2,by rw[af,e];exact(F.SW p c).2⟩) (by rw[af,d];exact ji F.hm.2)<|by rw[af,e];exact ji F.hm.2
theorem Ci(a:q∈D.sel)(b:v.length=D.low.length)(hs:autoParam (∀o i,fb c false o i=k9 [o,i] (ig o i)) CU):vM c (eR v) (.int q.1)<|.int<|v.getD q.1.toNat 0:=have h:=F.SW q a
 .list (hs:=hs) h.1 (aau (ab F.hm.2<|dN tt) h) (B_ h.1<|aat b h)
theorem KZ(k:LX D E 33 ((E.jd,.dict (n_ D.sel))::Ω) rest P):LX D E 32 ((E.jd,.dict (n_ D.sel))::Ω) (eM 32::rest) P:=by
 refine .vO (σ:=Unit) (ts:=D.ways.map eR) (λ_ _=>XA D E 32) (λ_ _=>(E.jd,.dict (n_ D.sel))::Ω) (λ_ _=>True) (λ_=>false) () (.list (.g 4)<|.name _ _) trivial rfl (λi t _ z Q q v _=>?_) λ_ _=>k;rw[aq,aT] at v;refine aU v λc u C=>?_;try clear v;subst C
 have m:=aZ u;have j:=F.hy c m;have x:=F.hcmp c m;have r:∀l,(D.sel.filter<|uy c l).length+1<=sizeLine:=λl=>ab (aK<|ab (dS _ _) F.Xz)<|dN tt;have w:∀l,T.list ((D.sel.filter<|uy c l).map (λq=>T.int q.2)++[T.int 0])=T.list ((k0 tQ (D.sel.filter<|uy c l)++[0]).map T.int):=λl=>by rw[aJ,aE];rfl
 refine⟨_,.name ai<|.g 5,?_⟩;refine .assign (t:=.int<|D.fst c D.high) (.sub (.cast (.bin (.Yx (own:=["column","direction"]) D.sel sS (uy c D.high) (λq=>.int q.2) (.of ["column","direction"] [8,5]) (.list (.g 34)<|.tuple _ _ _) (λB A q s=>?_)<|iW F.Xz) (.list (ts:=[T.int 0]) (.e1 .int)<|dN tt)<|.sE<|by rw[af];exact r _)<|w _) .int<|.list (i:=0) (by decide) (by decide)<|hd0 F _) ai (.g 36) ?_;.exact .mk (.tuple<|.cons ai .p0<|.cons ai .p1 .nil) .o2 (λo _=>.one<|.cmp (.sub (.g 3) .n0<|Ci F s j) (.sub (.g 2) .n0<|Ci F s F.Vs) .M0) λo _ _=>.n1
 refine .assign (t:=.int<|D.fst c D.low) (.sub (.cast (.bin (.Yx (own:=["column","direction"]) D.sel sS (uy c D.low) (λq=>.int q.2) (.of ["column","direction"] [7,5]) (.list (.g 34)<|.tuple _ _ _) (λB A q s=>?_)<|iW F.Xz) (.list (ts:=[T.int 0]) (.e1 .int)<|by decide)<|.sE<|by rw[af];exact r _)<|w _) .int<|.list (i:=0) (by decide) (by decide)<|hd0 F _) ai (.g 37) ?_;.exact .mk (.tuple<|.cons ai .p0<|.cons ai .p1 .nil) .o2 (λo _=>.one<|.cmp (.sub (.g 3) .n0<|Ci F s j) (.sub (.g 2) .n0<|Ci F s rfl) .M0) λo _ _=>.n1
 have d:(E.jd,Ob.dict (n_ D.sel))∈z++((E.jd,.dict (n_ D.sel))::Ω):=av _<|.head _;have e:∀p∈[(E.jd,Ob.dict (n_ D.sel))],∃b,(p.1,b)∈z++((E.jd,Ob.dict (n_ D.sel))::Ω)/\b.bare=p.2.bare:=λp y=>by rw[ao] at y;subst y;exact⟨_,d,rfl⟩
 refine .ite (b:=false) ?_ (λh=>by cases h) λ_=>.nil<|.nil<|q<|.next (λk=>k==5||(k==36||k==37)) () trivial rfl;refine .cmp (a:=tI [D.fst c D.high,-D.fst c D.high,D.fst c D.low,-D.fst c D.low]) (b:=tI [D.fst c D.high,-D.fst c D.high,D.fst c D.low,-D.fst c D.low]) (.list (.cons ?_<|.cons ?_<|.cons ?_<|.e1 ?_)<|by show 4<=_;decide) (.list (.cons (.g 36)<|.cons (.neg<|.g 36)<|.cons (.g 37)<|.e1<|.neg<|.g 37)<|by show 4<=_;decide) ?_;.exact x.1▸.Dk (.g 35) .inst d rfl rfl (.cons (.g 8)<|.e1<|.g 5) e (by simp) (Tb F E F.Vs j) Pe
 .exact x.2.1▸.Dk (.g 35) .inst d rfl rfl (.cons (.g 5)<|.e1<|.g 8) e (by simp) (Tb F E j F.Vs) Pe
 .exact x.2.2.1▸.Dk (.g 35) .inst d rfl rfl (.cons (.g 5)<|.e1<|.g 7) e (by simp) (Tb F E j rfl) Pe
 .exact x.2.2.2▸.Dk (.g 35) .inst d rfl rfl (.cons (.g 7)<|.e1<|.g 5) e (by simp) (Tb F E rfl j) Pe
 .exact Pf rfl▸fe.qi (n:=0) (sF.ED (f:=T.int) .intD [D.fst c D.high,-D.fst c D.high,D.fst c D.low,-D.fst c D.low] [D.fst c D.high,-D.fst c D.high,D.fst c D.low,-D.fst c D.low])
theorem XJ(a:P (.ret<|.bool aj) (XA D E 33) Ω):LX D E 33 Ω (eM 33::rest) P:=by
 refine .ret (t:=.bool<|decide (D.old=D.old)&&decide (D.new=D.new)) (.Wo (.cmp (.g 15) (.call .gl (.k<|by kernel_rfl) (.cons (.g 2)<|.e1<|.g 7) (F.rows F.Pd) Pe)<|.eq (n:=1)<|lh.EE .zl _ _) λ_=>.cmp (.g 16) (.call .gl (.k<|by kernel_rfl) (.cons (.g 2)<|.e1<|.g 8) (F.rows F.Ar) Pe)<|.eq (n:=1)<|lh.EE .zl _ _) ?_;rw[decide_eq_true rfl,decide_eq_true rfl];exact a
end
theorem K0:dA (oB PP 24)=[eM 0,eM 1,eM 2,eM 3,eM 4,eM 5,eM 6,eM 7,eM 8]++(eM 9::([eM 10]++(eM 11::[eM 12,eM 13,eM 14,eM 15,eM 16,eM 17,eM 18,eM 19,eM 20,eM 21,eM 22,eM 23,eM 24,eM 25,eM 26,eM 27,eM 28,eM 29,eM 30,eM 31,eM 32,eM 33]))):=by kernel_rfl
noncomputable abbrev XK:Post:=λo _ a=>o=.ret (.bool aj)/\∃b,a=b++ib
theorem Pz(E)(F:PF D)(b:E.ns.length<=63)(e:x8 E.ns=D.cells):LC D E 0 ib (dA<|oB PP 24) XK:=by
 rw[K0];refine .seq ?_;with_reducible refine Pg b e<|Ph F<|Pi F<|SY F<|SZ F<|XB F<|S0 F<|Pj F<|S3 F ?_
 refine .nil ⟨rfl,?_⟩;refine Pk F<|.seq<|S4 F<|.nil ⟨rfl,S6 F<|.of ?_⟩;refine S7 F<|XC F<|XD F<|G8 F λx i o=>?_;refine Pm F<|G9 F<|KS F<|KW λj g=>ae8 F ?_;with_reducible refine Pu F<|Pv F<|XG F<|XH F<|S_ F<|Pw F<|Px F λf c d a=>?_
 refine Ta F<|XI F ?_ λm n=>KY F<|Py F λl k=>KZ F<|XJ F ⟨rfl,_::_::_::[],rfl⟩;refine a.elim (λh=>.inl ⟨h.2,h.1⟩) λh=>?_;have e:D.bl=D.Vq:=by
  have q:=F.aeH;rw[h.2.2.1,h.2.2.2,F.Þ] at q;exact bq q
 exact .inr ⟨e▸h.2.1,e▸h.1⟩
noncomputable def As(h:lm)(a:cj):Heap:=h.update a λo=>{o with data:=.freed}
theorem qR(h a):(As h a).get? a=none:=by
 cases e:(As h a).get? a with|none=>rfl|some o=>
  refine bu (Heap.get?_some_iff.mp e) λb d=>?_;unfold As Heap.update at b;simp only [Array.getElem?_modify,if_true] at b;cases c:h.objs[a]?with
  |none=>rw[c] at b;cases b
  |some x=>
   rw[c] at b;cases b
   cases d
theorem ng(h)(c:a≠b):(As h a).get? b=h.get? b:=lg _ _ c
noncomputable def pj(h:lm):Heap:=As (As h 365) 372
theorem K1(e:(pj h).get? a=ae o):h.get? a=ae o:=by
 by_cases c:372=a;.subst c;unfold pj at e;rw[qR] at e;cases e
 .unfold pj at e;rw[ng _ c] at e;by_cases b:365=a;.subst b;rw[qR] at e;cases e
  .rwa[ng _ b] at e
theorem si(e:h.get? a=ae o)(b:365≠a)(c:372≠a):(pj h).get? a=ae o:=by unfold pj;rw[ng _ c,ng _ b];exact e
theorem K2(h):(pj h).get? 365=none:=by unfold pj;rw[ng _<|by decide,qR]
theorem Cj(x:h.Ns a m)(d:365≠a)(f:372≠a):(pj h).Ns a m:=by refine Mp x λo c b e r=>⟨o,c,b,si e d f,r⟩
theorem K4(B:Base w h):Base w<|pj h where
 k:=λa o e=>by
  refine si (B.k a o e) (λq=>?_) λq=>?_
  .subst q;have:(wU PP w.params).lookup 365=none:=by kernel_rfl
   rw[this] at e;cases e
  .subst q;have:(wU PP w.params).lookup 372=none:=by kernel_rfl
   rw[this] at e;cases e
 nolimit:=by refine aU B.nolimit λd x y=>⟨d,Cj x (dD tt)<|dD tt,y⟩
 g:=by refine cc B.g λf x=>⟨f,Cj x (dD tt)<|dD tt⟩
 b:=by refine aU B.b λc x y=>⟨c,Cj x (dD tt)<|dD tt,y⟩
theorem PA(h:LB b ns):aG G b<|ns.map .int:=by induction h with|nil=>exact .nil|cons _ _ _ a=>exact .cons (.int _ _) a
theorem Au(a:Wh h):(∃o,h.get? 365=ae o/\li.holds G o)/\∃o,h.get? 372=ae o/\li.holds G o:=⟨⟨_,a.t1,#[],rfl,trivial⟩,⟨_,a.t2,#[],rfl,trivial⟩⟩
theorem yc{K:np}(j:K.In h)(e:om K c P=aj):QP h P:=by refine Mr (r' e) λf g d i e a b _=>⟨c,_,d,j _ _ e,a,rfl,b⟩
noncomputable def yd:Prop:=∀a,a.length=13->∃D,a=D.cells/\PF D
theorem PB(HP:yd):DB:=λw s B i l vs H hl hi hn hg=>by
 let W:Wd:=⟨w,pj s.heap,s.os,K4 B⟩;let G:Gh:=(pj s.heap).get?;have I:Inv W G s:=⟨λa o=>K1,λa o e=>e,by rw[hg];intro x hx;simp at hx,rfl⟩;have ok:Ok tZ<|vW+1:=⟨rfl,dN tt,dN tt⟩;refine cc hl λol z0=>?_;clear hl;refine bu z0 λd z1=>?_;clear z0;refine bu z1 λh z2=>?_;clear z1;refine cc z2 λnl a1=>?_;clear z2;have l1:365≠l:=λq=>by subst q;rw[i.t1] at d;cases d;cases h
 have l2:372≠l:=λq=>by subst q;rw[i.t2] at d;cases d;cases h
 have ht:Tr G (.ref l)<|T.Rt H:=.any ⟨l,ol,vs.toArray,nl,rfl,si d l1 l2,h,a1,by simpa using PA hi⟩;refine aU (HP (x8 H)<|G1 H) λD eD F=>?_;have hO:iU G s ib:=⟨dD tt,λp m=>by
  rcases bf.mp m with rfl|m;.exact⟨K2 _,(Au i).1⟩
  .rw[ao] at m;subst m;exact⟨ qR _ _,(Au i).2⟩⟩;have a0:∀v:aW,kf s SP ⟨[v],[]⟩ [("script",v)]:=λv=>.of_eq<|by kernel_rfl
 refine s0<|r5 (DH (W:=W) (Δ:=ib) (wr:=[365,372]) (n:=vW) (Xu W) rfl (a0 _) (Binds.zip (dY:=ux) (UP:=(ux.drop 1).map λx=>(x,ah)) ["script"] [T.Rt H] [.ref l] [] rfl rfl λx m=>by rw[ao] at m;subst m;exact .head _) (.cons ht .nil) (Bh (names:=["script"]) (loc:=ux.drop 1)) (Bi (names:=["script"]) (loc:=ux.drop 1)<|of_decide_eq_true<|by kernel_rfl) ok I (λp m=>.inl ?_) hO.nodup hO.own (R:=y7 λv N=>∃L g f j,v=.bool aj/\(∃Δ,f=Δ++ib)/\Inv W j N/\St (Ù W L ⟨G,s,[365,372]⟩) g f j N) λL Q t y=>?_) λr N z=>?_
 .rcases bf.mp m with rfl|m;.exact .head _
  .rw[ao] at m;subst m;exact .tail _<|.head _
 .refine xD<|fF (Pz (D:=D) ⟨W,L,⟨G,s,[365,372]⟩,H,0,0,0,0⟩ F hn eD (tZ.deeper<|pe SP 493 L) G Q ⟨rfl,by show tZ.depth+1+vW<=900;decide,by show tZ.units+3+50*vW<=9000;decide⟩ t y) (λfl a3 zq=>?_) λ_ _ z=>z.elim;obtain⟨o,g,f,j,p,q,u,A,_⟩:=zq;refine bu p λq3 a2=>?_;try clear p;subst q3
  refine aU q λv q4 hr=>?_;try clear q;subst q4
  cases hr
  exact⟨L,g,f,j,rfl,a2,u,A⟩
 .rcases r with e|(v|_|_|_)<;>first|exact z.elim|skip
  refine Mr z λL g f j z3 z4 I' S'=>?_;clear z;subst z3;refine cc z4 λΔ z5=>?_;clear z4;subst z5;refine⟨rfl,?_,I'.os,I'.bare⟩;have S:∀P,(P,li)∈ib->∃ps,N.heap.get? P=ae ⟨.none,ah,.fields ps,#[]⟩:=λP m=>by
   refine gR (S'.own _<|av Δ m) λ_ z6 _=>?_;refine cc z6 λo' z7=>?_;clear z6;refine bu z7 λe z8=>?_;clear z7;refine aU z8 λps z9 _=>?_;clear z8;subst z9;exact⟨ps,e⟩
  refine cc (S 365<|.head _) λp1 t1=>cc (S 372<|.tail _<|.head _) λp2 t2=>?_;have c1:QP s.heap 365:=yc (c:=369) B.k<|by kernel_rfl
  have c2:QP s.heap 372:=yc (c:=376) B.k<|by kernel_rfl
  have M:∀b o,s.heap.get? b=ae o->b≠365->b≠372->N.heap.get? b=ae o:=λb o e n1 n2=>S'.ext.heap b o e<|by
   intro m;rcases bf.mp m with q|m;.exact n1 q
   .rw[ao] at m;exact n2 m
  refine⟨λb o e=>?_,λb o e=>?_⟩
  .by_cases C:b=365
   .subst C;rw[i.t1] at e;cases e
    exact .inr<|.inl ⟨c1,rfl,#[],p1,rfl,by simpa using t1⟩
   .by_cases E:b=372
    .subst E;rw[i.t2] at e;cases e
     exact .inr<|.inl ⟨c2,rfl,#[],p2,rfl,by simpa using t2⟩
    .exact .inl<|M b o e C E
  .by_cases C:b=365;.subst C;exact⟨_,t1⟩
   .by_cases E:b=372;.subst E;exact⟨_,t2⟩
    .exact⟨o,M b o e C E⟩
theorem ye(a:yd):PySem.Challenge.rw_wz0046_01.Holds:=za<|PB a
end
section
open List renaming getD_cons_succ->gu
noncomputable def I5(F:Nat->Nat->Bool)(d a:Nat):List Nat:=((aL<|d-a).map (a+1+·)).filter<|F a
noncomputable def U(F:Nat->Nat->Bool)(d:Nat):Nat->Nat->List (List Nat)|0,a=>if a=d then[[a]] else[]|k+1,a=>(I5 F d a).flatMap λb=>(U F d k b).map (a::·)
theorem wB:b∈I5 F d a↔a<b/\b<=d/\F a b=true:=by
 unfold I5;rw[dM,am];constructor
 ·(intro q0;refine bu q0 λq1 h=>?_;clear q0;refine aU q1 λk g q2=>?_;clear q1;subst q2);haveI:=aR.mp g;exact⟨Mx,(HO this).2,h⟩
 ·(intro i;refine gR i λc e f=>?_);exact⟨⟨b-a-1,aR.mpr<|aB (jt (dr c) ju)<|dq e a,cX c⟩,f⟩
structure ft(F:Nat->Nat->Bool)(d k a)(way:List Nat):Prop where
 len:way.length=k+1
 hd:way.getD 0 0=a
 last:way.getD k 0=d
 step:∀i,i<k->way.getD i 0<way.getD (i+1) 0/\F (way.getD i 0) (way.getD (i+1) 0)=aj
theorem ft.mono(h:ft F d k a way):∀i j,i<=j->j<=k->way.getD i 0<=way.getD j 0:=λi j b c=>by
 induction j with|zero=>haveI:i=0:=aax b;subst this;exact al _|succ j g=>
  refine dy (dJ i<|j+1) (λq=>?_) λq=>?_;.haveI e:=g (cg q)<|aF c;haveI f:=(h.step j<|zQ c).1;exact aay e f
  .haveI:i=j+1:=aaz b q;subst this;exact al _
theorem ft.lt(h:ft F d k a way)(i j)(b:i<j)(c:j<=k):way.getD i 0<way.getD j 0:=by haveI e:=(h.step i<|wR b c).1;haveI f:=h.mono (i+1) j (ki b) c;exact wR e f
theorem ft.le(h:ft F d k a way)(i)(b:i<=k):way.getD i 0<=d:=by haveI:=h.mono i k b<|al _;rw[h.last] at this;exact this
theorem ft.cons(h:ft F d k b l)(c:a<b)(e:F a b=aj):ft F d (k+1) a<|a::l where
 len:=by rw[be,h.len]
 hd:=rfl
 last:=by rw[gu];exact h.last
 step:=λi f=>by cases i with|zero=>rw[HG,gu,h.hd];exact⟨c,e⟩|succ i=>rw[gu,gu];exact h.step i<|cg f
theorem ft.tail(h:ft F d (k+1) a<|c::l):c=a/\a<l.getD 0 0/\F a (l.getD 0 0)=aj/\ft F d k (l.getD 0 0) l:=by
 haveI e:c=a:=h.hd;subst e;haveI b:=h.step 0 V9;skip;refine⟨rfl,b.1,b.2,⟨by haveI:=h.len;rw[be] at this;exact aaA this,rfl,?_,λi f=>?_⟩⟩;.haveI:=h.last;rwa[gu] at this
 .haveI:=h.step (i+1)<|bY f;rwa[gu,gu] at this
theorem PC:way∈U F d 0 a↔a=d/\way=[a]:=by
 show way∈(if a=d then[[a]] else[])↔_;by_cases e:a=d;.rw[if_pos e,ao];exact⟨λh=>⟨e,h⟩,λh=>h.2⟩
 .rw[if_neg e];exact⟨λh=>absurd h b_,λh=>absurd h.1 e⟩
theorem lW:way∈U F d k a↔ft F d k a way:=by
 induction k generalizing a way with
 |zero=>
  refine PC.trans ⟨λh=>?_,λh=>⟨h.hd.symm.trans h.last,?_⟩⟩;.rw[h.2];exact⟨rfl,rfl,h.1,λi n=>absurd n<|kB i⟩
  .refine vJ h.len (λx h=>h▸rfl) h.hd
 |succ k g=>
  refine iu.trans ⟨λh=>?_,λh=>?_⟩;.refine aU h λb e p=>?_;have e:=wB.mp e;exact g7 p λl o=>(g.mp o).cons e.1 e.2.2
  .cases way with|nil=>exact kC h.len|cons c l=>refine sB h.tail λq j m f=>?_;subst q;exact⟨l.getD 0 0,wB.mpr ⟨j,f.le 0<|au _,m⟩,am.mpr ⟨l,g.mpr f,rfl⟩⟩
section
variable (ws:List Int) (w:Int)
noncomputable def stp(a:Nat):List Nat:=(ge ws w a).filter λb=>(((fL ws w ws.length).getD b 0:Nat))==(((fL ws w ws.length).getD a 0:Nat):Int)-1
noncomputable def V:Nat->Nat->List (List Nat)|0,a=>[[a]]|k+1,a=>(stp ws w a).flatMap λb=>(V k b).map (a::·)
noncomputable def Tc(way:List Nat):List<|List Nat:=(stp ws w<|fP way).map λb=>way++[b]
theorem Ha(h:l≠[]):fP (a::l)=fP l:=by cases l with|nil=>exact absurd rfl h|cons b l=>rfl
theorem ahz(k a):∀l∈V ws w k a,l≠[]:=λl m=>by cases k with|zero=>exact(ao.mp m)▸gE _ _|succ k=>exact(iu.mp m).elim λb h=>g7 h.2 λc _=>gE _ _
theorem fZ{α b:Type}{l:List α}{f g:α->List b}(h:∀x∈l,f x=g x):l.flatMap f=l.flatMap g:=by induction l with|nil=>rfl|cons x l a=>rw[cI,cI,h x<|.head _,a λy m=>h y<|.tail _ m]
theorem aeL(k a):V ws w (k+1) a=(V ws w k a).flatMap (Tc ws w):=by
 induction k generalizing a with
 |zero=>show(stp ws w a).flatMap (λb=>[[b]].map (a::·))=[[a]].flatMap (Tc ws w);rw[pq];show _=(stp ws w a).map λb=>[a]++[b];induction stp ws w a with|nil=>rfl|cons b l c=>rw[cI,ax,c];rfl
 |succ k c=>show(stp ws w a).flatMap (λb=>(V ws w (k+1) b).map (a::·))=((stp ws w a).flatMap λb=>(V ws w k b).map (a::·)).flatMap (Tc ws w);rw[JE];refine fZ λb _=>?_;rw[c b,lM,lN];refine fZ λl m=>?_;unfold Tc;rw[Ha<|ahz ws w k b l m,aE];rfl
theorem Td(k):lr ws w k=V ws w k 0:=by induction k with|zero=>rfl|succ k a=>rw[aeL,<-a];rfl
theorem vZ{α b:Type}{l:List α}{p:α->Bool}{f:α->List b}(h:∀x∈l,p x=false->f x=[]):(l.filter p).flatMap f=l.flatMap f:=by induction l with|nil=>rfl|cons x l a=>rw[iq,cI];have a:=a λy m=>h y<|.tail _ m;cases e:p x with|true=>rw[if_pos rfl,cI,a]|false=>rw[if_neg<|by decide,a,h x (.head _) e];rfl
theorem sj(k a)(i:a<=ws.length)(h:U (fits ws w) ws.length k a≠[]):sw ws w a<=k:=by refine cc (jF _ h) λd m=>?_;clear h;induction k generalizing a d with|zero=>rw[(PC.mp m).1,wm];exact al _|succ k f=>
  refine aU (iu.mp m) λb e m=>aU (am.mp m) λl g _=>?_;have c:=wB.mp e;exact(ab (Ge ws w<|(iJ ws w).mpr c)<|ab (aH<|bx ..)<|aK<|f b c.2.1 l g)
theorem PE(b:a<=ws.length)(h:sw ws w a=0):a=ws.length:=(dJ a ws.length).elim (λq=>absurd (Ig ws w q)<|h▸f5 0) λq=>bA b q
theorem Vx:U (fits ws w) ws.length 0 ws.length=[[ws.length]]:=if_pos rfl
theorem ZD(k a)(j:a<=ws.length)(h:sw ws w a=k):V ws w k a=U (fits ws w) ws.length k a:=by
 induction k generalizing a with|zero=>rw[PE ws w j h];exact(Vx ws w).symm|succ k p=>
  show(stp ws w a).flatMap _=(ge ws w a).flatMap _;haveI e:(stp ws w a).flatMap (λb=>(V ws w k b).map (a::·))=(stp ws w a).flatMap λb=>(U (fits ws w) ws.length k b).map (a::·):=by
   refine fZ λb m=>?_;skip;refine bu (dM.mp m) λr s=>?_;have n:((sw ws w b:Nat))=(sw ws w a:Int)-1:=h7 s;rw[p b ((iJ ws w).mp r).2.1<|aaC h n]
  rw[e];skip;refine vZ λb m f=>?_;haveI d:sw ws w b≠k:=λq=>by
   haveI:((((fL ws w ws.length).getD b 0:Nat))==(((fL ws w ws.length).getD a 0:Nat):Int)-1)=true:=by haveI g:(fL ws w ws.length).getD b 0=k:=q;haveI i:(fL ws w ws.length).getD a 0=k+1:=h;rw[g,i];simp
   rw[this] at f;cases f
  haveI c:=Ge ws w m;have o:U (fits ws w) ws.length k b=[]:=by cases q:U (fits ws w) ws.length k b with|nil=>rfl|cons x l=>
    haveI:=sj ws w k b ((iJ ws w).mp m).2.1<|by rw[q];simp
    exact absurd (bA this<|AK<|ab (aH<|(bx 1 k).trans h.symm) c) d
  rw[o];rfl
theorem Av:cr ws w=U (fits ws w) ws.length (sw ws w 0) 0:=by unfold cr;rw[Td];exact ZD ws w _ 0 (au _) rfl
theorem PG(k a:Nat)(e:a<=ws.length)(h:sw ws w a=k):U (fits ws w) ws.length k a≠[]:=by
 induction k generalizing a with|zero=>rw[PE ws w e h,Vx];exact gE _ _|succ k m=>
  have c:=(dJ a ws.length).elim id λq=>by rw[bA e q,wm] at h;exact kC h
  haveI j:=xj ws w c;haveI d:(ge ws w a).map (sw ws w)≠[]:=λq=>by have:a+1∈ge ws w a:=(iJ ws w).mpr ⟨HQ,ki c,by unfold fits;simp⟩;rw[List.map_eq_nil_iff.mp q] at this;exact absurd this b_
  refine aU (am.mp<|De d) λx o g=>aU (am.mp o) λb f p=>?_;subst p;haveI i:sw ws w b=k:=aaD h j g;refine cc (jF _<|m b ((iJ ws w).mp f).2.1 i) λl n=>?_;skip;exact JF<|iu.mpr ⟨b,f,am.mpr ⟨l,n,rfl⟩⟩
end
noncomputable def qm(n:Nat)(F:Nat->Nat->Bool):Prop:=∀a b c d,a<=c->c<d->d<=b->b<=n->F a b=aj->F c d=aj
structure zo(F n k g):Prop where
 ch:ft F n k 0 g
 â:∀i,i<k->g.getD (i+1) 0=n\/F (g.getD i 0) (g.getD (i+1) 0+1)=false
section
theorem zo.dom(d:qm n F)(G:zo F n k g)(T:ft F n h 0 t)(i)(b:i<=k)(a:i<=h):t.getD i 0<=g.getD i 0:=by induction i with|zero=>rw[T.hd];exact au _|succ i c=>haveI c:=c (aF b)<|aF a;haveI f:=T.step i a;exact(G.â i b).elim (λe=>e▸T.le (i+1) a) λe=>(dJ (g.getD (i+1) 0)<|t.getD (i+1) 0).elim (λq=>fT<|e.symm.trans<|d _ _ (g.getD i 0) (g.getD (i+1) 0+1) c (ke (G.ch.step i b).1) (ki q) (T.le (i+1) a) f.2) id
theorem zo.least(d:qm n F)(G:zo F n k g)(T:ft F n a 0 t):k<=a:=by
 refine dy (dJ a k) (λq=>?_) λq=>?_;.haveI b:=G.dom d T a (lP q)<|al _;haveI c:=G.ch.lt a k q<|al _;rw[T.last] at b;rw[G.ch.last] at c;exact(absurd c<|fY b)
 .exact q
noncomputable def Hb(F:Nat->Nat->Bool)(n:Nat)(a b:Nat):Bool:=F (n-b)<|n-a
noncomputable def zp(n:Nat)(way:List Nat):List Nat:=(way.map (n-·)).reverse
theorem ER(way):(zp n way).length=way.length:=by unfold zp;rw[dj,af]
theorem j3(h:way.length=k+1)(i)(b:i<=k):(zp n way).getD i 0=n-way.getD (k-i) 0:=by
 unfold zp;haveI a:i<(way.map (n-·)).length:=by rw[af];exact aaF h b
 rw[ak,pI a,aq,af,h,show k+1-1-i=k-i from aaG,ak,ay<|aaH h];rfl
theorem ft.rev(h:ft F n k 0 way):ft (Hb F n) n k 0<|zp n way where
 len:=by rw[ER,h.len]
 hd:=by rw[j3 h.len 0<|au _,f7,h.last,eK]
 last:=by rw[j3 h.len k<|al _,eK,h.hd,f7]
 step:=λi b=>by
  rw[j3 h.len i<|lP b,j3 h.len (i+1)<|ki b];haveI a:=h.step (k-(i+1))<|Rk b;rw[show k-(i+1)+1=k-i from UD b] at a;haveI c:=h.le (k-i) pJ;refine⟨jO (aB a.1 c) a.1,?_⟩;unfold Hb;rw[show n-(n-way.getD (k-(i+1)) 0)=way.getD (k-(i+1)) 0 from cV (ab (aF a.1) c),show n-(n-way.getD (k-i) 0)=way.getD (k-i) 0 from CR c];exact a.2
theorem ft.Vy(h:ft (Hb F n) n k 0 way):ft F n k 0<|zp n way where
 len:=by rw[ER,h.len]
 hd:=by rw[j3 h.len 0<|au _,f7,h.last,eK]
 last:=by rw[j3 h.len k<|al _,eK,h.hd,f7]
 step:=λi a=>by
  rw[j3 h.len i<|lP a,j3 h.len (i+1)<|ki a];haveI b:=h.step (k-(i+1))<|Rk a;rw[show k-(i+1)+1=k-i from UD a] at b;haveI c:=h.le (k-i) pJ;exact⟨jO (aB b.1 c) b.1,b.2⟩
theorem qm.rev(g:qm n F):qm n<|Hb F n:=λa b i j d e c f h=>by skip;exact g _ _ _ _ (UE c) (jO (aB e<|ab c f) e) (UE d) pJ h
structure yf(F n m low high):Prop where
 lo:ft F n m 0 low
 hi:ft F n m 0 high
 le:∀t,ft F n m 0 t->∀i,i<=m->low.getD i 0<=t.getD i 0/\t.getD i 0<=high.getD i 0
 least:∀k t,ft F n k 0 t->m<=k
theorem K5(c:qm n F)(G:zo F n k g)(b:zo (Hb F n) n a l):a=k/\yf F n k (zp n l) g:=by
 have h:=G.least c b.ch.Vy;have j:=b.least c.rev G.ch.rev;haveI e:a=k:=aaJ h j;subst e;refine⟨rfl,b.ch.Vy,G.ch,λt T i d=>⟨?_,G.dom c T i d d⟩,λk t=>G.least c⟩;haveI f:=b.dom c.rev T.rev (a-i) pJ pJ;rw[j3 T.len (a-i) pJ,show a-(a-i)=i from CR d] at f;rw[j3 b.ch.len i d];haveI:=T.le i d;exact(g_<|ab (Hx f)<|aH<|bx ..)
end
end
section
open PySem PySem.W
noncomputable def seg{α:Type}(l:List α)(a b:Nat):List α:=(l.drop a).take<|b-a
theorem yg(c:a<=b)(d:l[b]?=ae x):seg l a (b+1)=seg l a b++[x]:=by unfold seg;rw[show b+1-a=(b-a)+1 from(X_ c),cA,fj,show a+(b-a)=b from zP c,d];rfl
theorem wC(l:List α)(a):seg l a a=[]:=by unfold seg;rw[eK,List.take_zero]
theorem Te(f:α->c)(l a b):seg (l.map f) a b=(seg l a b).map f:=by unfold seg;rw[AU,AT]
theorem oX(l:List α)(c:a<=b)(d:b<=l.length):lK l (ae a) (ae b) ah=seg l a b:=wl l a b c d
theorem ES(l:List α)(c:a<=b):l.take b=l.take a++seg l a b:=by unfold seg;rw[<-TU,show a+(b-a)=b from zP c]
theorem I6(c:List Int)(d:a<=b):(seg c a b).sum=(c.take b).sum-(c.take a).sum:=by rw[ES c d,gp];exact aaL
theorem Hc{l:List Int}(h:∀x∈l,0<=x):0<=l.sum:=by induction l with|nil=>exact kG _|cons x l a=>exact zL (h x<|.head _)<|a λy m=>h y<|.tail _ m
theorem rJ{c:List Int}(h:∀x∈c,0<=x)(d:a<=b):(c.take a).sum<=(c.take b).sum:=by rw[ES c d,gp];exact Int.le_add_of_nonneg_right<|Hc λx m=>h x<|ra<|f8 m
theorem lX(c w)(d:a<b)(e:b<=c.length):fits c w a b=aj↔b=a+1\/(seg c a b).sum<=w:=by unfold fits;rw[oX c (lP d) e,fO,beq_iff_eq,decide_eq_true_eq]
theorem ET(h:∀x∈c,0<=x)(w):qm c.length<|fits c w:=λa b k l g d f i j=>by
 rw[lX c w (aaM g d f) i] at j;rw[lX c w d<|HS f i];refine dy j (λe=>?_) λe=>?_;.left;exact(bA (ab f<|ab (aH e)<|aK g) d)
 .right;rw[I6 c<|ab g<|ab (aF d) f] at e;rw[I6 c<|aF d];haveI:=rJ h g;haveI:=rJ h f;exact(cJ (Int.sub_le_sub this<|by assumption) e)
theorem iZ(a):(iV a).length=a.length:=by unfold iV;rw[af]
theorem Hd(a):∀x∈iV a,0<=x:=λx m=>by skip;refine g7 m λy _=>aaP
theorem PH(l):((kq<|l.map bw:Nat))=(iV l).sum:=by induction l with|nil=>rfl|cons x l a=>show(((1+x.length)+kq (l.map bw):Nat))=(1+x.length)+(iV l).sum;rw[<-a];exact aaQ
theorem wD(c a b):iV (seg c a b)=seg (iV c) a b:=(Te _ _ _ _).symm
theorem He(h:j<c.length):(c++[x]).getD j 0=c.getD j 0:=by rw[ak,ak,zM h]
theorem Hf:(c++[x]).getD c.length 0=x:=by rw[ak,yW<|al _,eK];rfl
noncomputable def v0(c:List bC)(a b:Nat):Str:=hF<|(seg c a b).map bw
section
variable (words:List bC) (w:Int)
noncomputable abbrev Fw:Nat->Nat->Bool:=fits (iV words) w
structure Tf(i)(c:List Nat)(r:Nat):Prop where
 len:c.length=r+1
 hd:c.getD 0 0=0
 step:∀j,j<r->c.getD j 0<c.getD (j+1) 0/\Fw words w (c.getD j 0) (c.getD (j+1) 0)=aj/\Fw words w (c.getD j 0) (c.getD (j+1) 0+1)=false
 cur:c.getD r 0<i
 í:Fw words w (c.getD r 0) i=aj
 st:ff w (words.take i)=((seg words (c.getD r 0) i).map bw,(aL r).map λj=>v0 words (c.getD j 0)<|c.getD (j+1) 0)
theorem Aw(a):Fw words w a (a+1)=true:=by unfold Fw fits;simp
theorem I7(h:a<i)(c:i<=words.length):(seg words a i).map bw≠[]:=λq=>by have b:=congrArg mm q;rw[af] at b;unfold seg at b;rw[bh,cH,wO] at b;exact absurd b<|eJ<|Nat.lt_min.mpr ⟨dr h,dr<|aB h c⟩
theorem I8(a:words[i]?=ae x):seg words i (i+1)=[x]:=by rw[yg (al _) a,wC];rfl
section
variable {c:List Nat}(hc:c.length=r+1)
include hc
theorem yh:(c++[i]).getD (r+1) 0=i:=hc▸Hf
theorem th(a:j<=r):(c++[i]).getD j 0=c.getD j 0:=He<|hc▸bY a
theorem EU{p:Nat->Nat->Prop}(hs:∀j,j<r->p (c.getD j 0) (c.getD (j+1) 0))(h:p (c.getD r 0) i)(j)(a:j<r+1):p ((c++[i]).getD j 0)<|(c++[i]).getD (j+1) 0:=by
 rw[th hc<|cg a];refine(dJ j r).elim (λq=>?_) λq=>?_;.rw[th hc q];exact hs j q
 .rw[bA (cg a) q,yh hc];exact h
theorem EV:(aL<|r+1).map (λj=>v0 words ((c++[i]).getD j 0)<|(c++[i]).getD (j+1) 0)=(aL r).map (λj=>v0 words (c.getD j 0)<|c.getD (j+1) 0)++[v0 words (c.getD r 0) i]:=by rw[gk,aJ,List.map_singleton,th hc<|al r,yh hc];refine congrArg (·++_)<|aI λj a=>?_;have a:=aR.mp a;rw[th hc<|aF a,th hc a]
end
theorem PI(i)(m:i+1<=words.length):∃c r,Tf words w (i+1) c r:=by
 induction i with|zero=>have k:=ay m;generalize words[0]=x at k;refine⟨[0],0,rfl,rfl,λj t=>absurd t<|kB j,dN tt,Aw words w 0,?_⟩;show ff w (words.take<|0+1)=((seg words 0<|0+1).map bw,[]);rw[I8 words k,cA,k];exact(nG w [] x).trans<|if_pos<|.inr rfl|succ i u=>
  refine sC (u<|d_ m) λc r H=>?_;have k:=ay m;generalize words[i+1]=x at k;have d:=H.cur;have n:=yg (aF d) k;have o:ff w (words.take<|i+1+1)=chunk w x ((seg words (c.getD r 0)<|i+1).map bw,(aL r).map λj=>v0 words (c.getD j 0)<|c.getD (j+1) 0):=by rw[cA,k];exact(nG w _ x).trans<|congrArg _ H.st
  have h:(kq<|(seg words (c.getD r 0)<|i+1).map bw++[bw x])=(seg (iV words) (c.getD r 0)<|i+1+1).sum:=by rw[<-wD,<-PH,n,aJ];rfl
  have g:=lX (iV words) w (eY d)<|iZ words▸m;by_cases f:(seg (iV words) (c.getD r 0)<|i+1+1).sum<=w;.refine⟨c,r,H.len,H.hd,H.step,eY d,g.mpr<|.inr f,o.trans ?_⟩;unfold chunk;rw[if_pos<|.inl<|h▸f,n,aJ];rfl
  .have l:=H.len;have s:Fw words w (c.getD r 0) (i+1+1)=false:=by cases q:Fw words w (c.getD r 0) (i+1+1) with|false=>rfl|true=>exact(g.mp q).elim (λe=>absurd (ky e).symm<|bJ d) λe=>absurd e f
   refine⟨c++[i+1],r+1,by rw[aM,l];rfl,(th l<|au _).trans H.hd,?_,by rw[yh l];exact cb _,by rw[yh l];exact Aw words w _,o.trans ?_⟩;.exact EU l (p:=λa b=>a<b/\Fw words w a b=aj/\Fw words w a (b+1)=false) H.step ⟨d,H.í,s⟩
   .unfold chunk;rw[if_neg λz=>z.elim (λz=>f<|h▸z)<|I7 words d<|d_ m,yh l,I8 words k,EV words l];rfl
theorem vm:∃k g,zo (Fw words w) words.length k g/\fz w words=(aL k).map λj=>v0 words (g.getD j 0)<|g.getD (j+1) 0:=by
 cases e:words.length with|zero=>rw[iM e];exact rP 0 [0] ⟨⟨rfl,rfl,rfl,λi l=>absurd l<|kB i⟩,λi l=>absurd l<|kB i⟩ rfl|succ n=>
  refine sC (PI words w n<|aH e.symm) λc r H=>?_;have d:=H.len;refine rP (r+1) (c++[n+1]) ⟨⟨by rw[aM,d];rfl,(th d<|au _).trans H.hd,yh d,?_⟩,λj h=>?_⟩ ?_;.exact EU d (p:=λa b=>a<b/\Fw words w a b=aj) (λj h=>⟨(H.step j h).1,(H.step j h).2.1⟩) ⟨H.cur,H.í⟩
  .refine(dJ j r).elim (λq=>?_) λq=>.inl ?_
   .rw[th d<|aF q,th d q];exact .inr (H.step j q).2.2
   .rw[bA (cg h) q];exact yh d
  .have f:=H.st;rw[<-e,dn] at f;unfold fz;rw[f,e,if_neg<|I7 words H.cur<|aH e.symm,EV words d];rfl
end
theorem I9(l:List α)(e:a<=b)(d:b<=l.length):seg l.reverse a b=(seg l (l.length-b)<|l.length-a).reverse:=by
 unfold seg;apply tU;intro i;rw[sy,fj];by_cases c:i<b-a
 .rw[if_pos c,pI<|aB (i6 c) d];rw[pI<|by rw[bh,cH];exact(eB c ((HN ..).trans<|Mt d).symm),sy,bh,cH,if_pos<|aaS d c,fj];congr 1;exact aaT c
 .rw[if_neg c,FH<|by rw[dj,bh,cH];exact aaU c]
theorem ft.congr(h:ft F n k a g)(e:∀a b,a<b->b<=n->F a b=d a b):ft d n k a g:=⟨h.len,h.hd,h.last,λi c=>⟨(h.step i c).1,by rw[<-e _ _ (h.step i c).1<|h.le (i+1)<|ki c];exact(h.step i c).2⟩⟩
theorem zo.congr(h:zo F n k g)(e:∀a b,a<b->b<=n->F a b=d a b):zo d n k g:=⟨h.ch.congr e,λi c=>by
  have f:=(h.ch.step i c).1;have j:=h.ch.le (i+1)<|ki c;by_cases q:g.getD (i+1) 0=n;.exact .inl q
  .right;rcases h.â i c with z|z;.exact absurd z q
   .rw[<-e _ _ (ke f)<|Lv j q];exact z⟩
section
variable (words:List bC) (w:Int)
theorem PJ(c:a<b)(d:b<=words.length):Fw words.reverse w a b=Hb (Fw words w) words.length a b:=by
 unfold Hb;rw[gj,lX _ _ c<|by rw[iZ,dj];exact d,lX _ _ (jO (aB c d) c)<|by rw[iZ];exact pJ];have e:iV words.reverse=(iV words).reverse:=by unfold iV;rw[lO]
 rw[e,I9 (iV words) (lP c)<|by rw[iZ];exact d,iZ,List.sum_reverse];constructor
 .rintro(h|h);.left;exact aaW d h
  .exact .inr h
 .rintro(h|h);.left;exact aaX d h
  .exact .inr h
structure Setup(k low high):Prop where
 bd:yf (Fw words w) words.length k low high
 ways:cr (iV words) w=U (Fw words w) words.length k 0
 front:fz w words=(aL k).map λj=>v0 words (high.getD j 0)<|high.getD (j+1) 0
 lines:fz w words.reverse=(aL k).map λj=>v0 words.reverse (words.length-low.getD (k-j) 0)<|words.length-low.getD (k-(j+1)) 0
theorem setup:∃k o i,Setup words w k o i:=by
 refine j7 (vm words w) λk g G x=>j7 (vm words.reverse w) λc h d y=>?_;rw[dj] at d;have l:=d.congr λa b m=>PJ words w m;have n:qm words.length<|Fw words w:=by have:=ET (Hd words) w;rwa[iZ] at this
 refine bu (K5 n G l) λe B=>?_;subst e;have p:cr (iV words) w=U (Fw words w) words.length (sw (iV words) w 0) 0:=by
  have:=Av (iV words) w;rwa[iZ] at this
 have m:=sj (iV words) w c 0 (au _)<|by rw[iZ];exact JF<|lW.mpr G.ch
 have u:c<=sw (iV words) w 0:=by
  refine cc (jF _<|PG (iV words) w _ 0 (au _) rfl) λt q=>?_;rw[iZ] at q;exact B.least _ t<|lW.mp q
 have v:sw (iV words) w 0=c:=bA m u;rw[v] at p;refine⟨c,zp words.length h,g,B,p,x,?_⟩;rw[y];apply aI;intro j f;have f:=aR.mp f;have r:words.length-(zp words.length h).getD (c-j) 0=h.getD j 0:=by
  rw[j3 d.ch.len (c-j) pJ,show c-(c-j)=j from(cV<|aF f)];have:=d.ch.le j<|lP f;exact CR this
 have s:words.length-(zp words.length h).getD (c-(j+1)) 0=h.getD (j+1) 0:=by
  rw[j3 d.ch.len (c-(j+1)) aa0,show c-(c-(j+1))=j+1 from(cV f)];have:=d.ch.le (j+1)<|ki f;exact CR this
 rw[r,s]
end
noncomputable def jM(c:List bC)(a b:Nat):Str:=dz " "<|seg c a b
@[elab_as_elim] theorem DY{α:Type}{motive:List α->Prop}(a:∀x,motive [x])(b:∀x y l,motive (y::l)->motive (x::y::l))(L:List α)(h:L≠[]):motive L:=by cases L with|nil=>exact absurd rfl h|cons x l=>clear h;induction l generalizing x with|nil=>exact a x|cons y l ih=>exact b x y l<|ih y
theorem oY(l:List<|List Nat)(h:l≠[]):(l.map λx=>[32]++x).flatten=32::eF [32] l:=by
 refine DY (λx=>?_) (λx y l a=>?_) l h;.simp[eF]
 .skip;rw[ax,eT,a];simp[eF,vE]
theorem I_(c)(d:a<b)(f:b<=c.length):v0 c a b=(" ")++jM c a b:=by
 apply B3;unfold v0 jM;rw[Ez,mv,B4,aE];have e:(seg c a b).map sg≠[]:=λq=>by
  have:=congrArg mm q;rw[af] at this;unfold seg at this;rw[bh,cH,wO] at this;exact(Nat.sub_ne_zero_of_lt d<|(dB<|dq f a).symm.trans this)
 have:=oY ((seg c a b).map sg) e;rw[aE] at this;exact this
theorem i0(h:ft F a.length k 0 way):cM a way=(aL k).map λj=>jM a (way.getD j 0)<|way.getD (j+1) 0:=by
 unfold cM pf;rw[af,h.len];apply aI;intro j b;have b:=aR.mp b;have b:j<k:=b;unfold Wu jM;have g:∀i,i<=k->(way.map cS).getD i 0=((way.getD i 0:Nat)):=λi c=>by rw[ak,aq,ak,ay<|by rw[h.len];exact(bY c)];rfl
 rw[g j<|lP b,g (j+1)<|ki b,oX a (aF (h.step j b).1)<|h.le (j+1)<|ki b]
end
section
open List renaming length_replicate->dc,reverse_append->mX,reverse_replicate->pv,getElem_reverse->rb,drop_append_of_le_length->wj,reverse->CL,drop_of_length_le->CM,reverse_flatten->FV
open Nat renaming le_max_right->Qt,le_max_left->QX
open PyProof.Rows renaming stripBy_eq->Y2
open PySem.KWd renaming step->uQ
open PySem.Str renaming empty->nk
open PySem.StrLaws renaming wsum->QQ
open PySem PySem.W PyProof.Rows Builtin.Str
noncomputable abbrev inter(L:List<|List Nat):List Nat:=eF [32] L
theorem sk(x y l):inter (x::y::l)=x++[32]++inter (y::l):=by simp[inter,eF,vE]
theorem qS(x):inter [x]=x:=by simp[inter,eF]
theorem vn(L:List<|List Nat)(h:L≠[]):(L.map λx=>x++[32]).flatten=inter L++[32]:=by
 refine DY (λx=>?_) (λx y l ih=>?_) L h;.rw[qS];simp
 .rw[ax,eT,ih,sk];simp only [bW]
theorem K6(L)(h:L≠[]):(inter L).reverse=inter (L.map CL).reverse:=by
 haveI b:=oY L h;haveI c:=vn (L.map CL).reverse<|by simpa using h
 haveI a:((L.map λx=>[32]++x).flatten).reverse=(((L.map CL).reverse).map λx=>x++[32]).flatten:=by rw[FV,aE,lO,aE];congr 2;apply aI;intro x _;simp
 rw[b,c,gg] at a;exact List.append_cancel_right a
theorem Ax(L)(h:L≠[]):(inter L).length+1=(L.map λx=>x.length+1).sum:=by
 refine DY (λx=>?_) (λx y l this=>?_) L h;.rw[qS];simp
 .skip;rw[sk,ax,cy,<-this,aM,aM];simp;exact aa4
theorem aeM:cD 32=true:=by decide+kernel
theorem Ck(h:p<10):cD (97+p)=false:=(by decide+kernel:∀p:Fin 10,cD (97+p.val)=false) ⟨p,h⟩
theorem PK(a l)(h:cD c=false):(ck a 32++c::l).takeWhile cD=ck a 32:=by induction a with|zero=>simp[h]|succ a b=>rw[im,iw,List.takeWhile_cons,if_pos aeM,b]
theorem XM(x i j):sg (strSub x i j)=((sg x).drop i).take (j-i):=StrLaws.strSub_toList x i j
theorem strip_eq(a b)(h:sg x=ck a 32++sg y++ck b 32)(i:sg y=c::l)(j:(sg y).reverse=d::n)(k:cD c=false)(m:cD d=false):iC x=y:=by
 apply B3;unfold iC;rw[Y2,XM];haveI f:stripLo cD aj x=a:=by unfold stripLo;skip;show((sg x).takeWhile cD).length=a;rw[h,i,bW,iw,PK a _ k,dc]
 haveI g:stripHi cD aj x a=a+(sg y).length:=by
  unfold stripHi;skip;show x.length-(((sg x).drop a).reverse.takeWhile cD).length=_;have e:(sg x).drop a=sg y++ck b 32:=by rw[h,bW,wj<|by rw[dc];exact al _,CM<|by rw[dc];exact al _,kh]
  rw[e,mX,pv,j,PK b _ m,dc,<-gK,h];rw[aM,aM,dc,dc];exact aa5
 rw[f,g,h,bW,wj<|by rw[dc];exact al _,CM<|by rw[dc];exact al _,kh,show a+(sg y).length-a=(sg y).length from ML,Ra]
structure LS(words:List bC):Prop where
 few:words.length<=10
 one:∀p (h),∃l,1<=l/\l<=12/\sg words[p]=ck l (97+p)
theorem PL(c):∀(n:Nat),sg (n4 ⟨#[c]⟩ n)=ck n c:=λn=>by
 unfold n4;haveI d:∀(n) (a),((ck n (⟨#[c]⟩:bC).cps).foldl (·++·) a).toList=a.toList++ck n c:=by intro n;induction n with|zero=>intro a;simp|succ n e=>intro a;rw[im,gm,e,jE,im];simp
 split
 .haveI:n=0:=aa6<|by assumption
  subst this;rfl
 .split
  .rename_i f b;haveI:n=1:=by
    simp at b;refine dy b (λb=>?_) λb=>?_;.exact aa7 b
    .cases b
   subst this;rfl
  .show((ck (n:Int).toNat (⟨#[c]⟩:bC).cps).foldl (·++·) #[]).toList=_;rw[cC,d];rfl
theorem XN(a:List Int):LS<|fg a where
 few:=by unfold fg;rw[af,aO];exact tf a
 one:=λp h=>by
  refine⟨lenOf a p,Ao a p,IN<|dD tt,?_⟩;haveI e:(fg a)[p]=IM a p:=by simp[fg]
  rw[e];exact PL _ _
section
variable (D:LS words)
include D
theorem LS.ok(m:x∈words):∃p l,p<10/\1<=l/\l<=12/\sg x=ck l (97+p):=by
 refine cc (mV m) λp q0=>?_;refine cc q0 λa q1=>?_;clear q0;subst q1;refine ix (D.one p a) λl b c d=>vG p l (by have:=D.few;exact(ab a<|ab this<|ap rfl)) b c d
theorem LS.ï(m:x∈words):(sg x).reverse=sg x:=by refine mG (D.ok m) λp l _ _ _ h=>?_;rw[h,pv]
theorem LS.good(m:x∈words):0<x.length/\x.length<=12/\eZ x=false:=by
 refine mG (D.ok m) λp l d a c h=>?_;haveI b:x.length=l:=by rw[<-gK,h,dc]
 refine⟨aa9 a b,aba c b,?_⟩;cases e:eZ x with|false=>rfl|true=>
  haveI:=((qh x).mp e).2 (97+p)<|by rw[h];exact List.mem_replicate.mpr ⟨ eJ a,rfl⟩
  rw[Ck d] at this;cases this
theorem Ja(m:x∈seg words a b):x∈words:=ra<|f8 m
omit D in theorem qn(c:a<b)(d):seg l a b=l[a]::seg l (a+1) b:=by unfold seg;rw[jC d,show b-a=(b-(a+1))+1 from((du<|dr c).symm),rN]
omit D in theorem Hg(c:a<b)(d:b<=l.length):seg l a b≠[]:=by rw[qn c<|wR c d];simp
omit D in theorem yi(words a b):sg (jM words a b)=inter ((seg words a b).map sg):=by unfold jM;rw[B4];rfl
omit D in theorem yj:∃l,inter ((c::x)::L)=c::l:=by cases L with|nil=>exact⟨x,qS _⟩|cons y L=>exact⟨_,by rw[sk];rfl⟩
theorem yk(c:a<b)(d:b<=words.length):∃l,sg (jM words a b)=(97+a)::l:=by refine ix (D.one a<|wR c d) λl e g f=>?_;rw[yi,qn c<|wR c d,ax];rw[f,show l=(l-1)+1 from UI e,im];exact yj
theorem Jb(c:a<b)(d:b<=words.length):(sg<|jM words a b).reverse=inter ((seg words a b).reverse.map sg):=by rw[yi,K6 _<|by simpa using Hg c d,aE,lO];congr 2;apply aI;intro x m;exact D.ï<|Ja D m
theorem yl(c:a<b)(d:b<=words.length):∃l,(sg<|jM words a b).reverse=(97+(b-1))::l:=by
 rw[Jb D c d];haveI e:seg words a b=seg words a (b-1)++[words[b-1]'(aB (jt (cY c) ju) d)]:=by haveI:=yg (js c)<|ay<|aB (jt (cY c) ju) d;rwa[show b-1+1=b from(du<|cY c)] at this
 refine ix (D.one (b-1)<|aB (jt (cY c) ju) d) λl f h g=>?_;rw[e,mX,List.reverse_singleton,Fy,ax];rw[g,show l=(l-1)+1 from UI f,im];exact yj
theorem Tg(f:a<b)(j:b<=words.length)(g:i<e)(k:e<=words.length)(h:jM words a b=jM words i e):a=i/\b=e:=by refine cc (yk D f j) λl c=>cc (yk D g k) λo m=>cc (yl D f j) λr d=>cc (yl D g k) λp n=>?_;rw[h,m] at c;rw[h,n] at d;injection c with c _;injection d with d _;exact abe f g c d
theorem Ay(c:a<b)(d:b<=words.length)(i j)(h:sg x=ck i 32++sg (jM words a b)++ck j 32):iC x=jM words a b:=by refine cc (yk D c d) λl e=>cc (yl D c d) λr f=>?_;haveI:=D.few;exact strip_eq i j h e f (Ck<|aB c<|ab d this)<|Ck<|az (dq (ab d this) 1)<|by decide
omit D in theorem vo(l):((l.map sg).map λx=>x.length+1).sum=((iV l).sum).toNat/\0<=(iV l).sum:=by
 induction l with|nil=>exact⟨rfl,kG _⟩|cons x l a=>
  (haveI b:=a.1;haveI c:=a.2);haveI e:(iV<|x::l).sum=1+x.length+(iV l).sum:=by unfold iV;rw[ax,cy]
  rw[ax,ax,cy,b,e,gK];exact abh c
theorem Cm(m:w<=12)(c:a<b)(d:b<=words.length)(k:Fw words w a b=aj):(jM words a b).length<=12:=by
 rw[<-gK,yi];haveI h:=Ax ((seg words a b).map sg)<|by simpa using Hg c d
 (haveI j:=(vo<|seg words a b).1;haveI o:=(vo<|seg words a b).2);rw[j] at h;refine dy ((lX _ _ c<|by rw[iZ];exact d).mp k) (λe=>?_) λe=>?_
 .subst e;haveI f:seg words a (a+1)=[words[a]'(zQ d)]:=by rw[qn HQ<|zQ d,wC]
  refine ix (D.one a<|zQ d) λl n g i=>?_;rw[f,ax,t6,qS,i,dc];exact g
 .rw[<-wD] at e;exact abi m h e
end
theorem K7(l w)(h:l.length=w):m_ l w=l.reverse:=by
 subst h;unfold m_;apply fv;.simp
 .intro i b c;haveI a:i<l.length:=by simpa using b
  rw[fw,ew,rb,o8 a,wd a,uM,jA,ak,ay<|uS a];rfl
theorem qo(x w):sg (lT x w)=m_ (sg x) w:=rfl
theorem PM(b a)(l:List Nat)(h:∀c∈l,cD c=false):l.foldl uQ (b,a)=(b,⟨a.cps++l.toArray⟩):=by
 induction l generalizing a with|nil=>simp|cons c l g=>
  rw[gm];haveI f:=h c<|.head _;haveI e:uQ (b,a) c=(b,a++⟨#[c]⟩):=by unfold uQ;rw[if_neg<|by rw[f];simp]
  rw[e,g _ λd m=>h d<|.tail _ m];congr 1;show(⟨(a.cps++#[c])++l.toArray⟩:bC)=_;congr 1;rw[Array.append_assoc];congr 1;simp
theorem Hh(L)(a:List bC)(h:∀x∈L,0<x.length/\∀c∈sg x,cD c=false):((L.map λx=>sg x++[32]).flatten).foldl uQ (a,nk)=(a++L,nk):=by induction L generalizing a with|nil=>rw[bD];rfl|cons x L d=>haveI b:=h x<|.head _;rw[ax,eT,eU,eU,PM a nk (sg x) b.2,show⟨nk.cps++(sg x).toArray⟩=x from B3 (show(#[]++(sg x).toArray).toList=sg x by rw[jE,kh])];rw[show[32].foldl uQ (a,x)=(a++[x],nk) from(show(if cD 32=aj then(if x.length=0 then(a,x) else(a++[x],nk)) else(a,x++⟨#[32]⟩))=_ from(if_pos aeM).trans (if_neg<|eJ b.1)),d (a++[x]) λy m=>h y<|.tail _ m,bW];rfl
theorem vp(h:∀x∈L,0<x.length/\∀c∈sg x,cD c=false)(b:sg y=(L.map λx=>sg x++[32]).flatten):rO y=L:=by
 haveI a:KWd.scan y=(L,nk):=by show(sg y).foldl uQ ([],nk)=_;rw[b,Hh L [] h];rfl
 rw[KWd.words_of a];exact if_pos rfl
theorem Th(x):(spaceWords x<|x.length+1).length<=x.length+1:=by
 haveI h:=(StrLaws.sw_weight x).1;haveI:∀l,l.length<=QQ l:=λl=>by induction l with|nil=>exact al _|cons p l a=>rw[be,QQ];exact abj a
 exact ab (this _) h
noncomputable def rh(a:List bC):Str:=glued ""<|a.map λx=>(" ")++x
theorem Hi(a):sg (rh a)=(a.map λx=>[32]++sg x).flatten:=by unfold rh;rw[show glued "" (a.map λx=>(" ")++x)=uP "" (a.map λx=>(" ")++x) from rfl,te,aE];congr 1;apply aI;intro x _;exact mv _ _
theorem EW{L:List (List Nat)}(h:∀x∈L,x.length<=B):L.flatten.length<=L.length*B:=by induction L with|nil=>simp|cons x L a=>
  rw[eT,aM,be,fK];haveI:=h x<|.head _;haveI:=a λy m=>h y<|.tail _ m;exact(ab (c_ (by assumption) this)<|aH<|bx ..)
theorem EX{L:List (List Nat)}(h:∀x∈L,x.length=B):L.flatten.length=L.length*B:=by induction L with|nil=>simp|cons x L a=>rw[eT,aM,be,fK,h x<|.head _,a λy m=>h y<|.tail _ m];exact UJ
theorem Hj{L:List (List Nat)}(h:∀x∈L,x.length=B)(q a):((L.flatten).drop<|q*B).take B=L[q]:=by induction L generalizing q with|nil=>exact absurd a<|kB _|cons x L c=>have b:=h x<|.head _;rw[eT];cases q with|zero=>rw[uM];exact List.take_left' b|succ q=>rw[fK,bx,<-yX,List.drop_left' b];exact c (λy m=>h y<|.tail _ m) q<|Nat.lt_of_succ_lt_succ a
theorem Hk(j:0<B)(h:l.length=k*B)(q)(m:q<k):((m_ l B).drop<|q*B).take B=((l.drop<|q*B).take B).reverse:=by
 haveI a:(q+1)*B<=k*B:=cw _ m;rw[fK] at a;haveI b:(m_ l B).length=l.length:=by unfold m_;rw[af,aO]
 apply fv;.simp[b]
 .intro i e n;have c:i<B:=by rw[bh] at e;exact abk e
  haveI d:((l.drop<|q*B).take B).length=B:=by rw[bh,cH];exact abl h a
  rw[nW,lb,rb];unfold m_;rw[fw,ew];haveI f:(q*B+i)/B=q:=by rw[uL,yJ j,o8 c];rfl
  haveI g:(q*B+i)%B=i:=by rw[uL,Q5,wd c]
  rw[f,g,nW,lb,ak,ay<|abm h a c];simp only [lx];congr 1;exact abn d
theorem XO(x a b):sg (rL x a b)=((sg x).drop a).take (b-a):=by skip;show(((x.cps.toList.drop a).take<|b-a).toArray).toList=_;dsimp only
theorem Hl(d):sg (n4 " " d)=ck d.toNat 32:=by
 refine dy (Int.le_total 0 d) (λh=>?_) λh=>?_;.refine cc (eh h) λn a=>?_;subst a;exact PL 32 n
 .haveI:d.toNat=0:=abo h;rw[this];unfold n4;rw[if_pos<|abp this];rfl
theorem PN(h:∀c∈sg x,c<128):x.cps.all (·<128)=true:=by rw[tO];intro c m;exact decide_eq_true<|h c<|f6.mpr m
theorem foldl_max(l)(a:Nat):l.foldl max a∈a::l/\a<=l.foldl max a/\∀x∈l,x<=l.foldl max a:=by induction l generalizing a with|nil=>exact⟨.head _,al _,λx m=>absurd m b_⟩|cons b l c=>have h:=c<|max a b;exact⟨(bf.mp h.1).elim (λe=>bf.mpr<|(Fh a b).elim (λq=>.inr<|bf.mpr<|.inl<|e.trans<|Nat.max_eq_right q) λq=>.inl<|e.trans<|Nat.max_eq_left q) λm=>.tail _<|.tail _ m,ab (QX a b) h.2.1,λx m=>eQ m (ab (Qt a b) h.2.1)<|h.2.2 x⟩
theorem K8{α:Type}{f g:Nat->α}(h:∀i,i<k->f (k-1-i)=g i):((aL k).map f).reverse=(aL k).map g:=by
 rw[<-lO];refine fv (by simp) λi a c=>?_;haveI b:i<k:=by simpa using a
 rw[fw,fw,rb,ew,ew,aO];exact h i b
section
variable (D:LS words) (S:Setup words w k low high) (hw:w<=12)
noncomputable abbrev rowAt(words:List bC)(way:List Nat)(i:Nat):Str:=jM words (way.getD i 0)<|way.getD (i+1) 0
include S
theorem lY(a:i<k):low.getD i 0<low.getD (i+1) 0/\low.getD (i+1) 0<=words.length:=⟨(S.bd.lo.step i a).1,S.bd.lo.le (i+1)<|ki a⟩
theorem qT(a:i<k):high.getD i 0<high.getD (i+1) 0/\high.getD (i+1) 0<=words.length:=⟨(S.bd.hi.step i a).1,S.bd.hi.le (i+1)<|ki a⟩
theorem ym:cM words low=(aL k).map (rowAt words low):=i0 S.bd.lo
theorem uz:cM words high=(aL k).map (rowAt words high):=i0 S.bd.hi
theorem front_eq:fz w words=(cM words high).map λy=>(" ":bC)++y:=by rw[S.front,uz S,aE];apply aI;intro j a;haveI a:=aR.mp a;(haveI b:=(qT S a).1;haveI c:=(qT S a).2);exact I_ words b c
theorem oq:(fz w words.reverse).length=k:=by rw[S.lines,af,aO]
include D in theorem Cn(b:j<k)(h):sg (fz w words.reverse)[j]=32::(sg<|rowAt words low<|k-1-j).reverse:=by
 haveI e:(fz w words.reverse)[j]=v0 words.reverse (words.length-low.getD (k-j) 0) (words.length-low.getD (k-(j+1)) 0):=by
  haveI:=S.lines;haveI a:(fz w words.reverse)[j]?=ae (v0 words.reverse (words.length-low.getD (k-j) 0)<|words.length-low.getD (k-(j+1)) 0):=by rw[this,aq,dR b];rfl
  rw[ay h] at a;exact bq a
 (haveI c:=(lY S<|uS b).1;haveI a:=(lY S<|uS b).2);rw[show k-1-j+1=k-j from UK b] at c a;rw[show k-(j+1)=k-1-j from abq] at e;haveI d:words.length-low.getD (k-j) 0<words.length-low.getD (k-1-j) 0:=jO (aB c a) c;rw[e,I_ words.reverse d<|by rw[dj];exact pJ,mv,yi,I9 words (aF d) pJ,show words.length-(words.length-low.getD (k-1-j) 0)=low.getD (k-1-j) 0 from(cV<|aF<|Nat.sub_pos_iff_lt.mp<|cY d),show words.length-(words.length-low.getD (k-j) 0)=low.getD (k-j) 0 from CR a];unfold rowAt;rw[show k-1-j+1=k-j from UK b,Jb D c a];rfl
include D hw in theorem Hm(a:i<k):(rowAt words low i).length<=12:=by(haveI b:=(lY S a).1;haveI c:=(lY S a).2);exact Cm D hw b c (S.bd.lo.step i a).2
theorem XQ:k<=words.length:=by suffices h:∀i,i<=k->i<=low.getD i 0 from S.bd.lo.last▸h k (al _);intro i h;induction i with|zero=>exact au _|succ i a=>exact az (a<|aF h) (lY S h).1
noncomputable def ti(a:List bC):Nat:=(a.map (·.length)).foldl max 1
include D hw in theorem PO(m:x∈fz w words.reverse):x.length<=13:=by
 refine cc (mV m) λj c=>cc c λa d=>?_;subst d;haveI b:j<k:=by rwa[oq S] at a
 rw[<-gK,Cn D S b a,be,dj,gK];haveI:=Hm D S hw<|uS b;exact(bY this)
include D hw in theorem Ti:ti (fz w words.reverse)<=13:=by
 refine dy (bf.mp (foldl_max ((fz w words.reverse).map (·.length)) 1).1) (λe=>?_) λm=>?_;.unfold ti;rw[e];decide
 .refine aU (am.mp m) λx a e=>?_;unfold ti;rw[<-e];exact PO D S hw a
omit S in theorem Hn(h:x.length<=a):sg (tg a x)=sg x++ck (a-x.length) 32/\(sg<|tg a x).length=a:=by
 haveI e:sg (tg a x)=sg x++ck (a-x.length) 32:=by unfold tg;rw[mv,Hl];congr 2;exact abv
 refine⟨e,?_⟩;rw[e,aM,dc,gK];exact zP h
noncomputable def tj(b:Nat)(a:List bC):Str:=glued ""<|a.map<|tg b
omit S in theorem yn(b a):sg (tj b a)=(a.map λx=>sg<|tg b x).flatten:=by show sg (uP ""<|a.map<|tg b)=_;rw[te,aE];rfl
include D in theorem back_eq(a)(l:∀x∈fz w words.reverse,x.length<=a)(n:0<a):(tj a<|fz w words.reverse).length=k*a/\((aL k).map<|KP (lT (tj a<|fz w words.reverse) a) a).reverse=(cM words low).map (vX a):=by
 have b:∀y∈(fz w words.reverse).map λx=>sg<|tg a x,y.length=a:=λy m=>g7 m λx p=>(Hn<|l x p).2;have j:(sg<|tj a<|fz w words.reverse).length=k*a:=by rw[yn,EX b,af,oq S]
 refine⟨by rw[<-gK];exact j,?_⟩;have g:∀q,q<k->KP (lT (tj a<|fz w words.reverse) a) a q=vX a (rowAt words low<|k-1-q):=λq f=>by
  apply B3;have c:q<(fz w words.reverse).length:=by rw[oq S];exact f
  haveI o:=l _<|Mm c;haveI e:=Cn D S f c;haveI d:((fz w words.reverse)[q]).length=1+(rowAt words low<|k-1-q).length:=by rw[<-gK,e,be,dj,gK];exact abw
  unfold KP;rw[XO,qo,show q*a+a-q*a=a from ML,Hk n j q f,yn,Hj b q<|by rw[af];exact c,fw,(Hn o).1,e];unfold vX;rw[mv,mv,Hl,mX,pv,gg,FS,bW];congr 2;exact abx d
 rw[ym S,aE];exact K8 λi h=>(g (k-1-i)<|uS h).trans<|by rw[cV<|js h];rfl
include D in theorem XR(a):((cM words low).map<|vX a).map iC=cM words low:=by rw[ym S,aE,aE];apply aI;intro i b;haveI b:=aR.mp b;(haveI c:=(lY S b).1;haveI d:=(lY S b).2);skip;refine Ay D c d ((a:Int)-1-(rowAt words low i).length).toNat 1 ?_;unfold vX;rw[mv,mv,Hl];rfl
include D in theorem XS:((cM words high).map λy=>(" ":bC)++y).map iC=cM words high:=by rw[uz S,aE,aE];apply aI;intro i a;haveI a:=aR.mp a;(haveI b:=(qT S a).1;haveI c:=(qT S a).2);show iC ((" ")++rowAt words high i)=_;refine Ay D b c 1 0 ?_;rw[mv];show[32]++sg (rowAt words high i)=[32]++sg (jM words (high.getD i 0)<|high.getD (i+1) 0)++[];rw[bD]
omit S
include D
theorem sm(m:x∈words):∀c∈sg x,cD c=false/\c<128:=λc b=>by refine mG (D.ok m) λp l a d e h=>?_;rw[h] at b;haveI:=(List.mem_replicate.mp b).2;subst this;exact⟨Ck a,abz a⟩
theorem K9:∀c∈sg (rh words),c<128:=λc m=>by
 rw[Hi] at m;refine aU (List.mem_flatten.mp m) λy d a=>aU (am.mp d) λx b e=>?_;subst e;rcases bO.mp a with q|q;.rw[ao] at q;subst q;decide
 .exact(sm D b c q).2
theorem Jc:(rh words).length<=130:=by
 rw[<-gK,Hi];haveI:=EW (L:=words.map λx=>[32]++sg x) λy m=>by
  refine g7 m λx a=>?_;haveI:=(D.good a).2.1;rw[aM,gK];show 1+_<=_;exact abA this
 rw[af] at this;haveI:=D.few;haveI:words.length*13<=10*13:=cw _ this;exact(ab (by assumption)<|ab this<|ap rfl)
theorem Jd:(sg<|rh words).reverse=(words.reverse.map λx=>sg x++[32]).flatten:=by rw[Hi,FV,aE,lO];congr 2;apply aI;intro x m;show([32]++sg x).reverse=_;rw[mX,D.ï m];rfl
theorem K_:∃d i:Nat,(if((rh words).length:Int)>1 then((rh words).length:Int) else 1)=d/\(rh words).length=i*d/\rO (lT (rh words) d)=words.reverse/\(lT (rh words) d).length<=130:=by
 haveI f:=Jc D;have b:∀x∈words.reverse,0<x.length/\∀c∈sg x,cD c=false:=λx m=>by
  rw[vF] at m;exact⟨(D.good m).1,λc j=>(sm D m c j).1⟩
 have a:∀v,(lT (rh words) v).length=(rh words).length:=λv=>by rw[<-gK,qo,<-gK];unfold m_;rw[af,aO]
 rcases tK (rh words).length with e|h
 .haveI g:sg (rh words)=[]:=iM<|by rw[gK];exact e
  refine vG 1 0 (by rw[e];rfl) (by rw[e]) (vp b ?_)<|by rw[a];exact f
  rw[qo,<-Jd D,g];rfl
 .refine vG (rh words).length 1 (ZN h) abC (vp b ?_)<|by rw[a];exact f
  rw[qo,K7 _ _<|gK _,Jd D]
end
end
section
open PySem PySem.W
noncomputable def prs{α:Type}(f:Nat->Nat->α):List Nat->List α|a::b::r=>f a b::prs f (b::r)|_=>[]
theorem Co(f)(g:α->d)(t):(prs f t).map g=prs (λa b=>g<|f a b) t:=by induction t with|nil=>rfl|cons a t c=>cases t with|nil=>rfl|cons b r=>exact congrArg (g (f a b)::·) c
theorem Tj(f:Nat->Nat->α)(a r):prs f (a::r)=(aL r.length).map λj=>f ((a::r).getD j 0)<|(a::r).getD (j+1) 0:=by induction r generalizing a with|nil=>rfl|cons b r c=>rw[be,iN,ax,aE];exact congrArg (f a b::·)<|c b
theorem ot(f:Nat->Nat->α)(m t)(h:t.length=m+1):prs f t=(aL m).map λj=>f (t.getD j 0)<|t.getD (j+1) 0:=by cases t with|nil=>exact kC h|cons a r=>rw[Tj,ky h]
theorem drop_getD(t:List Nat)(i j):(t.drop i).getD j 0=t.getD (i+j) 0:=by rw[ak,fj,ak]
theorem kr(t:List Nat)(h:j<m):(t.take m).getD j 0=t.getD j 0:=by rw[ak,List.getElem?_take_of_lt h,ak]
theorem qp(s t:List Nat)(h:s.length=e)(j):(s++t).getD j 0=if j<e then s.getD j 0 else t.getD (j-e) 0:=by
 rw[<-h];by_cases q:j<s.length;.rw[if_pos q,ak,zM q,ak]
 .rw[if_neg q,ak,yW<|iR.mp q,ak]
section
theorem ft.from_(h:ft F n k a t)(b:i<=k):ft F n (k-i) (t.getD i 0)<|t.drop i where
 len:=by rw[cH,h.len];exact(X_ b)
 hd:=by rw[drop_getD];rfl
 last:=by rw[drop_getD,show i+(k-i)=k from zP b];exact h.last
 step:=λj c=>by rw[drop_getD,drop_getD];exact h.step (i+j)<|i6 c
theorem ft.upto(h:ft F n k a t)(c:i<=k):ft F (t.getD i 0) i a<|t.take<|i+1 where
 len:=by rw[bh,h.len];exact abD c
 hd:=by rw[kr _ V9];exact h.hd
 last:=kr _ HQ
 step:=λj b=>by rw[kr _<|ke b,kr _<|bY b];exact h.step j<|abE c b
theorem ft.glue(h:ft F c e a s)(f:ft F n m c t):ft F n (e+m) a<|s.take e++t:=by
 have k:(s.take e).length=e:=by rw[bh,h.len];exact abF
 have d:∀j,j<=e->(s.take e++t).getD j 0=s.getD j 0:=λj g=>by
  rw[qp _ _ k];by_cases q:j<e;.rw[if_pos q];exact kr _ q
  .rw[if_neg q,bA g<|iR.mp q,eK,f.hd,h.last]
 have b:∀j,(s.take e++t).getD (e+j) 0=t.getD j 0:=λj=>by rw[qp _ _ k,if_neg<|iR.mpr<|bi _ _,o6]
 refine⟨?_,(d 0<|au _).trans h.hd,(b m).trans f.last,λj g=>(dJ j e).elim (λq=>?_) λq=>?_⟩;.rw[aM,k,f.len];exact TY
 .rw[d j<|aF q,d (j+1) q];exact h.step j q
 .refine cc (Nat.le.dest q) λi l=>?_;subst l;rw[b i,fa,b<|i+1];exact f.step i<|Nat.lt_of_add_lt_add_left g
theorem yf.place(B:yf F n k h d)(T:ft F n k 0 t)(c:ft F n k 0 t')(a:i<=k)(b:j<=k)(e:t.getD i 0=t'.getD j 0):i=j:=by
 haveI f:=B.least _ _<|(T.upto a).glue<|e▸c.from_ b;haveI g:=B.least _ _<|(c.upto b).glue<|e▸T.from_ a;exact(bA (ab (aH (cV a).symm)<|g_ g)<|ab (aH (cV b).symm)<|g_ f)
end
theorem tn(h:ft F a.length k 0 way):cM a way=prs (jM a) way:=by rw[i0 h,ot _ k way h.len]
section
variable (S:Setup words w k low high) (D:LS words)
include S D
theorem qU(T:ft (Fw words w) words.length k 0 t)(a:ft (Fw words w) words.length k 0 t')(b:i<k)(c:j<k)(e:rowAt words t i=rowAt words t' j):i=j/\t.getD i 0=t'.getD i 0/\t.getD (i+1) 0=t'.getD (i+1) 0:=by refine bu (Tg D (T.step i b).1 (T.le (i+1)<|ki b) (a.step j c).1 (a.le (j+1)<|ki c) e) λd f=>?_;haveI:=S.bd.place T a (lP b) (lP c) d;subst this;exact⟨rfl,d,f⟩
theorem m0(T:ft (Fw words w) words.length k 0 t):(cM words t).Nodup:=by rw[i0 T];unfold Y3;rw[t7];refine(CH).imp_of_mem λ{a b} d f c e=>?_;haveI:=(qU S D T T (aR.mp d) (aR.mp f) e).1;exact abI c this
theorem Ho(T:ft (Fw words w) words.length k 0 t)(c:ft (Fw words w) words.length k 0 t')(d:i<k)(f:r<=k):nF ((aL r).map<|rowAt words t') (rowAt words t i)=if(t.getD i 0=t'.getD i 0/\t.getD (i+1) 0=t'.getD (i+1) 0)/\i<r then ae (i:Int) else none:=by
 have b:∀j (a),((aL r).map<|rowAt words t')[j]=rowAt words t' j:=λj a=>by rw[fw,ew]
 unfold nF;by_cases h:(t.getD i 0=t'.getD i 0/\t.getD (i+1) 0=t'.getD (i+1) 0)/\i<r
 .rw[if_pos h,tN.mpr ⟨by rw[af,aO];exact h.2,?_,λj a q=>?_⟩];.rfl
  .rw[b,beq_iff_eq];show jM words _ _=jM words _ _;rw[h.1.1,h.1.2]
  .rw[b,beq_iff_eq] at q;exact absurd (qU S D T c d (aB (dI a h.2) f) q.symm).1<|eJ a
 .rw[if_neg h,List.findIdx?_eq_none_iff.mpr λx m=>?_];.rfl
  .refine aU (am.mp m) λj a g=>?_;subst g;have a:=aR.mp a;refine beq_eq_false_iff_ne.mpr λq=>?_;have e:=qU S D T c d (aB a f) q.symm;exact h ⟨e.2,e.1▸a⟩
end
theorem aeN(h:i+1<l.length):seg l i (i+2)=[l.getD i 0,l.getD (i+1) 0]:=by rw[qn (ke no)<|aF h,qn (no)<|h,wC];simp[ak,h,Mn h]
theorem qV(d:b.length=k+1)(e:a.length=k+1)(c:i<k):ya b a i=decide (b.getD i 0=a.getD i 0/\b.getD (i+1) 0=a.getD (i+1) 0):=by unfold ya;rw[show(i+2)=((i+2:Nat):Int) from abN,oX _ UM<|UN d c,oX _ UM<|UN e c,aeN<|UO d c,aeN<|UO e c];simp
noncomputable abbrev eH(b a:List Nat)(k:Nat):List Bool:=(aL k).map<|ya b a
theorem EY(h:i<k):(eH b a k).getD i false=ya b a i:=by rw[ak,aq,dR h];rfl
section
variable (S:Setup words w k low high) (D:LS words)
include S D
theorem PQ(a r)(d:r<=k):zh ((cM words low).drop a) ((cM words high).take r)=N' (eH low high k) a r:=by
 unfold zh N';rw[ym S,uz S,<-AT,<-AU,af,aO];apply fv;.simp
 .intro i c f;haveI b:i+a<k:=by simp at c;exact abO c
  simp only [fw,lb,ew,List.take_range];rw[dB d,Ho S D S.bd.lo S.bd.hi (az (aH<|bx ..) b) d];haveI e:(eH low high k).getD (i+a) false=decide (low.getD (a+i) 0=high.getD (a+i) 0/\low.getD (a+i+1) 0=high.getD (a+i+1) 0):=by rw[<-qV S.bd.lo.len S.bd.hi.len<|az (aH<|bx ..) b,EY b,bx]
  rw[e,bx i a];simp only [bg,decide_eq_true_eq]
end
end
section
open PySem PySem.W PySem.Calls PyProof.Rows PySem.SeqAt Builtin
noncomputable def mk:List Bool->List Bool|a::b::r=>(a&&b)::mk (b::r)|_=>[]
noncomputable def PR:Nat->List (List Bool)×List (List Bool)|0=>([[]],[])|1=>([[aj]],[[false]])|n+2=>((PR<|n+1).1.map (aj::·)++(PR<|n+1).2.map (false::·),(PR n).1.map (λl=>false::aj::l)++(PR<|n+1).2.map (false::·))
theorem XT(n:Nat)(l)(m:l∈(PR n).1):false::l∈(PR<|n+1).2:=by
 cases n with|zero=>haveI e:=ao.mp m;rw[e];exact .head _|succ n=>
  cases n with|zero=>haveI e:=ao.mp m;rw[e];decide|succ n=>
   rcases bO.mp m with m|m;.refine g7 m λx a=>bp _<|am.mpr ⟨x,a,rfl⟩
   .refine g7 m λx a=>av _<|am.mpr ⟨false::x,?_,rfl⟩;clear m;cases n with|zero=>exact av _<|am.mpr ⟨x,a,rfl⟩|succ n=>exact av _<|am.mpr ⟨x,a,rfl⟩
theorem PS(n:Nat)(b:Bool)(E:List Bool)(d:E.length=n)(h:(b::E).getLastD aj=aj):(b=aj->mk (b::E)∈(PR n).1)/\(b=false->mk (b::E)∈(PR n).2):=by
 subst d;induction E generalizing b with|nil=>exact⟨λ_=>.head _,λe=>by rw[e] at h;cases h⟩|cons c E ih=>
  have a:=ih c<|by simpa using h
  clear ih h;show(_->(b&&c)::mk (c::E)∈(PR<|E.length+1).1)/\(_->(b&&c)::mk (c::E)∈(PR<|E.length+1).2);generalize mk (c::E)=l at a;generalize E.length=n at a;refine⟨λe=>?_,λe=>?_⟩
  .subst e;cases c
   .have t:=a.2 rfl;clear a;cases n with|zero=>exact absurd t b_|succ n=>exact av _<|am.mpr ⟨_,t,rfl⟩
   .haveI t:=a.1 rfl;clear a;cases n with|zero=>haveI e:=ao.mp t;rw[e];exact .head _|succ n=>exact bp _<|am.mpr ⟨_,t,rfl⟩
  .subst e;cases c
   .have t:=a.2 rfl;clear a;cases n with|zero=>exact absurd t b_|succ n=>exact av _<|am.mpr ⟨_,t,rfl⟩
   .exact XT n _<|a.1 rfl
noncomputable def LU(n:Nat):Bool:=(PR n).1.all λm=>[0,1,2].all λa=>[0,1,2].all λr=>qa m a<|n-r
theorem ahA:LU 0=true:=by kernel_rfl
theorem ahB:LU 1=true:=by kernel_rfl
theorem ahC:LU 2=true:=by kernel_rfl
theorem ahD:LU 3=true:=by kernel_rfl
theorem ahE:LU 4=true:=by kernel_rfl
theorem ahF:LU 5=true:=by kernel_rfl
theorem ahG:LU 6=true:=by kernel_rfl
theorem ahH:LU 7=true:=by kernel_rfl
theorem ahI:LU 8=true:=by kernel_rfl
theorem ahJ:LU 9=true:=by kernel_rfl
theorem aeO:([0,1,2].all λa=>[0,1,2].all λr=>qa (ck 10 aj) a<|10-r)=true:=by kernel_rfl
@[irreducible] noncomputable def XU(n:Nat):Bool:=LU n
theorem Je(n):XU n=LU n:=by unfold XU;rfl
theorem Tk(n)(h:n<=9):XU n=true:=by
 haveI:n=0\/n=1\/n=2\/n=3\/n=4\/n=5\/n=6\/n=7\/n=8\/n=9:=abP h;rcases this with e|e|e|e|e|e|e|e|e|e<;>rw[e,Je];.exact ahA
 .exact ahB
 .exact ahC
 .exact ahD
 .exact ahE
 .exact ahF
 .exact ahG
 .exact ahH
 .exact ahI
 .exact ahJ
theorem Cp(h:a<=2):a∈[0,1,2]:=by haveI:a=0\/a=1\/a=2:=abQ h;rcases this with e|e|e<;>rw[e]<;>decide
theorem K'(m n a d)(f:n<=9/\m∈(PR n).1\/n=10/\m=ck 10 aj)(b:a<=2)(c:d<=2):qa m a (n-d)=true:=by
 rcases f with⟨h,g⟩|⟨h,e⟩;.haveI:=Tk n h;rw[Je] at this;exact List.all_eq_true.mp (List.all_eq_true.mp (List.all_eq_true.mp this m g) a<|Cp b) d<|Cp c
 .rw[h,e];exact List.all_eq_true.mp (List.all_eq_true.mp aeO a<|Cp b) d<|Cp c
end
section
open Eq renaming trans->vr
open Int renaming add_zero->gD,mul_zero->pE,mul_add->wP,add_pos_of_pos_of_nonneg->yO,mul_assoc->CB,lt_irrefl->CC,zero_mul->Yr,pow_succ->Ys
open List renaming range'->nZ,sum->oJ,filter_append->sA,filter_congr->t8,range_eq_range'->FW,range'_succ->Mo,filter_map->QR,filterMap->Rb
open Nat renaming add_sub_cancel'->JG,le_of_dvd->VS
open PySem PySem.W
theorem aeP(h:n<100):0+n+1+1<400:=by rw[jA];exact dI (gM<|gM h)<|dN tt
theorem Cq(l:List M3)(st):(l.foldl kT st).2.length<=st.2.length+l.length:=by induction l generalizing st with|nil=>exact al _|cons m l a=>exact ab (a<|kT st m)<|ab (bX (vh st m) _)<|aH<|hW _ _
theorem Hp(h:kU f e=ae a):a.length<400:=by refine mG (tb h) λl c _ _ b d=>?_;subst d;unfold Sj;rw[aM];exact az (bX (ab (mZ _ _ _)<|aK<|Cq c _) 1)<|aeP b
theorem PT(h:Iu x y=aj):x=y:=by obtain⟨a,b,c,d,e⟩:=x;obtain⟨j,k,l,m,n⟩:=y;have h:=(bg _ _).mp h;have f:=(bg _ _).mp h.1;have g:=(bg _ _).mp f.1;have i:=(bg _ _).mp g.1;rw[show a=j from h7 i.1,show b=k from h7 i.2,show c=l from h7 g.2,show d=m from h7 f.2,show e=n from h7 h.2]
theorem Hq(h:BL a b=aj):a=b:=by
 induction a generalizing b with
 |nil=>cases b with|nil=>rfl|cons y b=>exact fT h
 |cons x a c=>cases b with|nil=>exact fT h|cons y b=>have h:=(bg _ _).mp h;rw[PT h.1,c h.2]
theorem Cr(h:qa m a r=aj):∃b,kU (N' m a r) r=ae b/\b.length<400/\ta b=nL (cut m a r) a r:=by
 unfold qa aef at h;cases e:kU (N' m a r) r with
 |none=>rw[e] at h;cases h
 |some b=>rw[e] at h;exact⟨b,rfl,Hp e,Hq h⟩
theorem XV(f k a):mk ((nZ a<|k+1).map f)=(nZ a k).map λi=>f i&&f (i+1):=by induction k generalizing a with|zero=>rfl|succ k b=>exact congrArg ((f a&&f (a+1))::·)<|b<|a+1
theorem wE(h:ft F n n 0 t)(i)(q:i<=n):t.getD i 0=i:=by
 have e:∀i,i<=n->i<=t.getD i 0:=λi=>by induction i with|zero=>exact λ_=>au _|succ i c=>exact λd=>az (c<|d_ d) (h.step i d).1
 have f:∀j,j<=n->t.getD (n-j) 0<=n-j:=λj=>by induction j with|zero=>exact λ_=>aH h.last|succ j c=>
   intro b;have a:=(h.step (n-(j+1))<|abR b).1;rw[show n-(j+1)+1=n-j from(du<|dr b)] at a;exact(js<|aB a<|c<|d_ b)
 have a:=f (n-i)<|cq _ _;rw[cV q] at a;exact bA a<|e i q
section
variable (S:Setup words w k low high) (D:LS words)
include S D
omit D in theorem Tl:eH low high k=mk (aj::(nZ 1 k).map λi=>decide<|low.getD i 0=high.getD i 0):=by
 have a:(aj::(nZ 1 k).map λi=>decide<|low.getD i 0=high.getD i 0)=(nZ 0<|k+1).map λi=>decide<|low.getD i 0=high.getD i 0:=by rw[Mo,ax,S.bd.lo.hd,S.bd.hi.hd];rfl
 rw[a,XV];unfold eH;rw[FW];refine aI λi b=>?_;rw[qV S.bd.lo.len S.bd.hi.len<|abU (List.mem_range'_1.mp b).2,pD]
theorem La:k<=9/\eH low high k∈(PR k).1\/k=10/\eH low high k=ck 10 true:=by
 have f:=XQ S;have g:=D.few;refine(dJ k 10).imp (λq=>⟨cg q,?_⟩) λq=>?_;.rw[Tl S];refine(PS k aj _ (by rw[af,List.length_range']) ?_).1 rfl;have c:=decide_eq_true<|S.bd.lo.last.trans S.bd.hi.last.symm;clear S f q;cases k with|zero=>rfl|succ k=>rw[List.range'_concat,aJ,<-iw,ax,t6,show 1+1*k=k+1 from abV,c];exact List.getLastD_concat
 .have d:=bA (ab f g) q;refine⟨d,?_⟩;have c:=S.bd.lo;have e:=S.bd.hi;rw[show words.length=k from(bA (d▸g) f)] at c e;refine(?_:eH low high k=ck k aj).trans<|d▸rfl;refine List.eq_replicate_iff.mpr ⟨by rw[af,aO],λb m=>?_⟩;refine aU (am.mp m) λi a h=>?_;subst h;have a:=aR.mp a;rw[qV S.bd.lo.len S.bd.hi.len a,wE c i<|aF a,wE e i<|aF a,wE c (i+1) a,wE e (i+1) a];exact decide_eq_true ⟨rfl,rfl⟩
theorem PU(a d)(c:a<=2)(e:d<=2):∃b,kU (zh ((cM words low).drop a)<|(cM words high).take<|k-d) ((k-d:Nat))=ae b/\b.length<400/\ta b=nL (cut (eH low high k) a<|k-d) a ((k-d:Nat)):=by rw[PQ S D a (k-d) pJ];refine Cr<|K' _ _ _ _ (La S D) c e
end
theorem Tn(m):cut m 0 m.length=m:=by
 unfold cut;apply fv;.simp
 .intro i b a;simp[a]
theorem Lb(m)(a r:Nat):O_ m a r=cut m a r:=by skip;apply aI;intro q _;rw[Q0];congr 1;congr 1<;>exact decide_eq_decide.mpr<|by first|exact bj|exact cT
inductive Iv(k)(f:Nat->Bool):Nat->List (Nat×Nat)->Prop|nil:Iv k f k []|cons {a q:Nat} {l:List (Nat×Nat)}:a<q->q<=k->(∀i,a<=i->i<q->f i=f a)->(q=k\/f q≠f (q-1))->Iv k f q l->Iv k f a ((a,q)::l)
noncomputable def QV(a:List Bool):List<|Nat×Nat:=(gf a).zip<|(gf a).drop 1
section
variable (same:List Bool)
noncomputable def Az(b:Nat):List Nat:=(nZ b<|same.length+1-b).filter<|j9 same
theorem AA(h:b<=same.length):Az same b=if j9 same b then b::Az same (b+1) else Az same (b+1):=by unfold Az;rw[Nat.sub_add_comm h,Mo,iq,Nat.add_sub_add_right]
theorem To(h:j9 same i=false):same.getD i false=same.getD (i-1) false:=by unfold j9 at h;rw[mn] at h;exact bne_eq_false_iff_eq.mp h.2
theorem EZ:j9 same same.length=true:=by unfold j9;rw[beq_self_eq_true,Bool.or_true];rfl
theorem Tp(h:j9 same i=aj):i=0\/i=same.length\/same.getD i false≠same.getD (i-1) false:=by unfold j9 at h;simp only [fO,beq_iff_eq,bne_iff_ne] at h;exact or_assoc.mp h
theorem PV{f:Nat->Bool}(h:∀i,a+1<=i->i<q->f i=f (i-1))(i)(b:a<=i)(c:i<q):f i=f a:=by induction i with|zero=>rw[Nat.le_zero.mp b]|succ i d=>exact(dJ a<|i+1).elim (λz=>(h _ z c).trans<|d (cg z)<|Mn c) λz=>congrArg f<|bA z b
theorem Tq(m b)(h:b+m=same.length):∃q l,b<=q/\q<=same.length/\j9 same q=aj/\(∀i,b<=i->i<q->j9 same i=false)/\Az same b=q::l/\Iv same.length (λi=>same.getD i false) q ((q::l).zip l):=by induction m generalizing b with|zero=>have h:b=same.length:=h;refine⟨b,[],al _,aH h,h▸EZ same,λi d f=>absurd f<|iR.mpr d,?_,h▸.nil⟩;rw[AA same<|aH h,if_pos<|h▸EZ same,h];unfold Az;rw[eK];rfl|succ m p=>refine VU (p (b+1)<|(hW b m).trans h) λq l d f j k n o=>?_;have e:=AA same<|ab (d_ d) f;cases g:j9 same b with|true=>rw[g,if_pos rfl,n] at e;exact⟨b,q::l,al _,ab (d_ d) f,g,λi d f=>absurd f<|iR.mpr d,e,.cons d f (PV λi a c=>To same<|k i a c) ((Tp same j).elim (λz=>absurd z<|eJ<|cY d) id) o⟩|false=>rw[g,if_neg<|by decide,n] at e;exact⟨q,l,d_ d,f,j,λi a c=>(dJ b i).elim (λz=>k i z c) λz=>bA z a▸g,e,o⟩
theorem PW:Iv same.length (λi=>same.getD i false) 0<|QV same:=by
 refine VU (Tq same same.length 0<|jA _) λq l _ _ _ b c d=>?_;have e:gf same=q::l:=by unfold gf;rw[FW];exact c
 have a:=(tK q).elim id λz=>vq<|b 0 (al _) z;unfold QV;rw[e,<-a];exact d
end
theorem Iv.mem(h:Iv k f a l):∀p∈l,a<=p.1/\p.1<p.2/\p.2<=k:=by
 induction h with|nil=>exact λp m=>absurd m b_|cons b c _ _ _ d=>
  intro p m;refine eQ m ?_ λm=>?_;.exact⟨al _,b,c⟩
  .haveI:=d p m;exact⟨ab (aF b) this.1,this.2⟩
theorem Iv.len(h:Iv k f a l):a+l.length<=k:=by induction h with|nil=>exact al _|cons b d _ _ _ c=>rw[be];exact abZ b c
noncomputable def v4(a:List Bool)(p:Nat×Nat):Cd:=⟨if a.getD p.1 false then"equal" else"replace",p.1,p.2,p.1,p.2⟩
noncomputable def ou(a:List Bool):List Cd:=(QV a).map<|v4 a
theorem PX{a:List Bool}(b:p.1<p.2)(c:p.2<=a.length):jZ a 0 a.length p.1 p.2=[(Cd.QU∘v4 a) p]:=by unfold jZ;rw[show y8 p.1 0-0=p.1 from(Fg _).trans (if_neg UQ),show y8 p.2 0-0=p.2 from(Fg _).trans (if_neg UQ),show y9 p.1 a.length=p.1 from if_neg (dv.mpr<|bj.mpr<|ab (aF b) c),show y9 p.2 a.length=p.2 from if_neg (dv.mpr<|bj.mpr c)];simp only [decide_eq_true<|ĥ b,Bool.and_self,Bool.or_self,if_true];rfl
theorem Lc(a):nL a 0 a.length=(ou a).map Cd.QU:=by unfold nL ou;rw[aE];show(QV a).flatMap _=_;have h:=(PW a).mem;generalize QV a=l at h;induction l with|nil=>rfl|cons p l b=>rw[cI,ax,b λp m=>h p<|.tail _ m,PX (h p<|.head _).2.1 (h p<|.head _).2.2];rfl
theorem AB(g:Nat->α)(b:q<=k):seg ((aL k).map g) a q=(aL<|q-a).map λj=>g<|a+j:=by
 unfold seg;apply fv;.simp;exact UR b
 .intro i c d;simp
theorem Ts(l:List α)(c:a<=q)(d:q<=b):seg l a b=seg l a q++seg l q b:=by unfold seg;rw[show b-a=(q-a)+(b-q) from(((bx ..).trans<|ll d c).symm),TU,yX,JG c]
theorem E0(f:Nat->Nat->α)(x)(h:0<t.length):prs f (x::t)=f x (t.getD 0 0)::prs f t:=by cases t with|nil=>exact absurd h<|f5 0|cons y t=>rfl
theorem E1(f:Nat->Nat->α)(e s t)(hs:s.length=e+1)(a:0<t.length)(h:s.getD e 0=t.getD 0 0):prs f (s.take e++t)=prs f s++prs f t:=by induction e generalizing s with|zero=>exact vJ hs λ_=>rfl|succ e b=>cases s with|nil=>exact kC hs|cons x s=>have hs:=ky hs;rw[rN,iw,E0 f x<|by rw[aM];exact ab0 a,b s hs h,E0 f x<|ab1 hs,iw];refine congrArg (f x ·::_) ?_;cases e with|zero=>exact h.symm|succ e=>cases s with|nil=>exact kC hs|cons y s=>rfl
noncomputable abbrev jN(b a:List Nat)(k:Nat):Nat->Bool:=λi=>(eH b a k).getD i false
section
variable (S:Setup words w k low high)
include S
theorem E2:(eH low high k).length=k:=by unfold eH;rw[af,aO]
omit S in theorem same_iff(B:yf F n k low high)(a:i<k):jN low high k i=aj↔low.getD i 0=high.getD i 0/\low.getD (i+1) 0=high.getD (i+1) 0:=by unfold jN;rw[EY a,qV B.lo.len B.hi.len a,decide_eq_true_iff]
theorem Cs(c:0<q)(d:q<=k)(h:q=k\/jN low high k q≠jN low high k (q-1)):low.getD q 0=high.getD q 0:=by
 refine dy (dJ q k) (λz=>?_) λz=>?_
 .haveI h:=h.resolve_left<|bJ z;by_cases a:jN low high k q=aj;.exact((same_iff S.bd z).mp a).1
  .by_cases b:jN low high k (q-1)=aj
   .haveI:=((same_iff S.bd<|az (cq ..) z).mp b).2;rwa[show q-1+1=q from(du c)] at this
   .exact absurd (by rw[Bool.eq_false_iff.mpr a,Bool.eq_false_iff.mpr b]) h
 .haveI:q=k:=T' d z;subst this;rw[S.bd.lo.last,S.bd.hi.last]
theorem jq:Iv k (jN low high k) 0<|QV<|eH low high k:=by haveI:=PW<|eH low high k;rwa[E2 S] at this
theorem PY(b:Nat×Nat->Bool)(h:Iv k (jN low high k) a l)(e:low.getD a 0=high.getD a 0):∃t,ft (Fw words w) words.length (k-a) (low.getD a 0) t/\prs (jM words) t=l.flatMap λp=>if b p then seg (cM words high) p.1 p.2 else seg (cM words low) p.1 p.2:=by
 generalize B:jN low high k=f at h;induction h with|nil=>refine⟨[words.length],⟨congrArg (·+1) (eK k).symm,S.bd.lo.last.symm,by rw[eK];rfl,λi C=>absurd C<|by rw[eK];exact kB i⟩,rfl⟩|@cons a q l n d E A F D=>
  have u:=Cs S (HT n) d<|B▸A;refine aU (D u) λt r z=>?_;haveI m:∀G,ft (Fw words w) words.length k 0 G->G.getD a 0=low.getD a 0->G.getD q 0=low.getD q 0->∃t,ft (Fw words w) words.length (k-a) (low.getD a 0) t/\prs (jM words) t=seg (cM words G) a q++l.flatMap λp=>if b p then seg (cM words high) p.1 p.2 else seg (cM words low) p.1 p.2:=λG v x y=>by have s:=(v.from_<|US n d).upto<|MN d;rw[drop_getD,show a+(q-a)=q from(cX<|aF n),y,x] at s;haveI g:=s.glue r;rw[show q-a+(k-q)=k-a from((bx ..).trans<|ll d<|aF n)] at g;refine⟨_,g,?_⟩;rw[E1 _ _ _ _ s.len (by rw[r.len];exact ab7)<|by rw[s.last];exact r.hd.symm,z];rw[i0 v,AB _ d,ot _ (q-a) _ s.len];refine congrArg (·++_)<|aI λj o=>?_;have o:=aR.mp o;rw[kr _<|ke o,kr _<|bY o,drop_getD,drop_getD];rfl
  rw[cI];by_cases c:b (a,q)=aj;.rw[if_pos c];exact m high S.bd.hi e.symm u.symm
  .rw[if_neg c];exact m low S.bd.lo rfl rfl
theorem gO:t∈cr (iV words) w↔ft (Fw words w) words.length k 0 t:=by rw[S.ways];exact lW
theorem wF:(cM words low).length=k:=by rw[i0 S.bd.lo,af,aO]
theorem E3:(cM words high).length=k:=by rw[i0 S.bd.hi,af,aO]
theorem XX(a b):x_ (cM words low) (cM words high) a b ((ou<|eH low high k).map Cd.QU)∈(cr (iV words) w).map (cM words):=by obtain⟨t,c,g⟩:=PY S (λp=>se a b (v4 (eH low high k) p).QU) (jq S) (by rw[show low.getD 0 0=0 from S.bd.lo.hd,show high.getD 0 0=0 from S.bd.hi.hd]);rw[show low.getD 0 0=0 from S.bd.lo.hd,f7] at c;refine am.mpr ⟨t,(gO S).mpr c,?_⟩;rw[tn c,g];unfold x_ ou;rw[aE,lN];apply fZ;intro p f;(haveI d:=((jq S).mem p f).2.1;haveI e:=((jq S).mem p f).2.2);skip;show _=if se a b (v4 (eH low high k) p).QU then lK _ (ae<|(p.1:Nat)) (ae<|(p.2:Nat)) ah else lK _ (ae<|(p.1:Nat)) (ae<|(p.2:Nat)) ah;rw[oX _ (lP d)<|by rw[E3 S];exact e,oX _ (lP d)<|by rw[wF S];exact e]
omit S in theorem Ld(g)(r:∀i,i<k->P (g i)=f i)(h:Iv k f a l):(seg ((aL k).map g) a k).filter P=(l.filter λp=>f p.1).flatMap λp=>seg ((aL k).map g) p.1 p.2:=by
 induction h with|nil=>rw[wC];rfl|@cons a q l n d o u v s=>
  rw[Ts _ (aF n) d,sA,s,iq];have e:∀x∈seg ((aL k).map g) a q,P x=f a:=λx m=>by rw[AB _ d] at m;refine aU (am.mp m) λj c t=>?_;subst t;have c:=aR.mp c;exact(r _<|aB (i6 c) d).trans<|o _ HR<|i6 c
  cases b:f a with|true=>rw[if_pos rfl,cI,List.filter_eq_self.mpr λx m=>(e x m).trans b]|false=>rw[if_neg<|by decide,List.filter_eq_nil_iff.mpr λx m=>(e x m).trans b▸fo];rfl
theorem Le(P)(g:∀i,i<k->P (rowAt words low i)=jN low high k i):(cM words low).filter P=(((ou<|eH low high k).map Cd.QU).filter vk).flatMap λc=>lK (cM words low) (ae c.i) (ae c.j) none:=by
 haveI h:=Ld (rowAt words low) g<|jq S;rw[<-i0 S.bd.lo] at h;haveI b:seg (cM words low) 0 k=cM words low:=by unfold seg;rw[gQ,f7,gz<|by rw[wF S];exact al _]
 rw[b] at h;rw[h];unfold ou;rw[aE,QR,lN];haveI d:(vk∘(Cd.QU∘v4 (eH low high k)))=λp=>jN low high k p.1:=by funext p;show((if jN low high k p.1 then("equal":bC) else"replace")==("equal"))=_;cases jN low high k p.1<;>decide+kernel
 rw[d];apply fZ;intro p a;(haveI e:=((jq S).mem p (dM.mp a).1).2.1;haveI f:=((jq S).mem p (dM.mp a).1).2.2);exact(oX _ (lP e)<|by rw[wF S];exact f).symm
end
noncomputable abbrev de(d:List<|bC×Int):List Str:=d.map (·.1)
theorem kd(p d):de (p::d)=p.1::de d:=rfl
theorem AD(a b):de (a++b)=de a++de b:=aJ
theorem uA{α:Type}(f)(l:List α):de (l.map f)=l.map λx=>(f x).1:=aE
noncomputable def mw(d:List<|bC×Int)(r:bC):Int:=(jo d r).getD 0
theorem jr(p d r):jo (p::d) r=if p.1=r then ae p.2 else jo d r:=by
 unfold jo;by_cases h:p.1=r;.rw[if_pos h,gr,decide_eq_true h];rfl
 .rw[if_neg h,gr,decide_eq_false h]
theorem E4(d e r):jo (d++e) r=(jo d r).or (jo e r):=by
 induction d with|nil=>rfl|cons p d a=>
  rw[iw,jr,jr,a];by_cases h:p.1=r;.rw[if_pos h,if_pos h];rfl
  .rw[if_neg h,if_neg h]
theorem uB:jo d r=ah↔r∉de d:=by
 induction d with|nil=>exact⟨λ_=>b_,λ_=>rfl⟩|cons p d a=>
  rw[jr,kd,bf];by_cases h:p.1=r;.rw[if_pos h];exact⟨sN,absurd<|.inl h.symm⟩
  .rw[if_neg h];exact a.trans ⟨λq z=>z.elim (λz=>h z.symm) q,λq z=>q<|.inr z⟩
theorem yo(h:r∈de d):jo d r=ae (mw d r):=by unfold mw;cases e:jo d r with|none=>exact absurd h<|uB.mp e|some v=>rfl
theorem uC(h:r∉de d):mw d r=0:=by unfold mw;rw[uB.mpr h];rfl
theorem Jf:d.any (λkv=>kv.1=k)=aj↔k∈de d:=ip.trans ⟨λz=>aU z λp m e=>am.mpr ⟨p,m,of_decide_eq_true e⟩,λm=>(am.mp m).elim λp h=>⟨p,h.1,decide_eq_true h.2⟩⟩
theorem Ct(h:k∈de d)(v):mu d k v=d.map λkv=>if kv.1=k then(kv.1,v) else kv:=if_pos<|Jf.mpr h
theorem tq(h:k∉de d)(v):mu d k v=d++[(k,v)]:=if_neg λq=>h<|Jf.mp q
theorem PZ(p)(k:bC)(v:Int):(if p.1=k then(p.1,v) else p).1=p.1:=by
 by_cases h:p.1=k;.rw[if_pos h]
 .rw[if_neg h]
theorem uD(d k v):de (mu d k v)=if k∈de d then de d else de d++[k]:=by
 by_cases h:k∈de d;.rw[Ct h,if_pos h,uA];exact aI λp _=>PZ p k v
 .rw[tq h,if_neg h,AD];rfl
theorem Jg(d k v r):jo (d.map λkv=>if kv.1=k then(kv.1,v) else kv) r=if k=r then(jo d r).map λ_=>v else jo d r:=by
 induction d with|nil=>exact(ite_self _).symm|cons p d a=>
  rw[ax,jr,jr,PZ,a];by_cases e:p.1=r
  .rw[if_pos e,if_pos e];by_cases q:k=r;.rw[if_pos q,if_pos<|e.trans q.symm];rfl
   .rw[if_neg q,if_neg λz=>q<|z.symm.trans e]
  .rw[if_neg e,if_neg e]
theorem P0(d k v r):jo (mu d k v) r=if k=r then ae v else jo d r:=by
 by_cases q:k=r
 .rw[if_pos q];by_cases h:k∈de d;.rw[Ct h,Jg,if_pos q,yo<|q▸h];rfl
  .rw[tq h,E4,uB.mpr<|q▸h,jr,if_pos q];rfl
 .rw[if_neg q];by_cases h:k∈de d;.rw[Ct h,Jg,if_neg q]
  .rw[tq h,E4,jr,if_neg q];exact Option.or_none
theorem P_(d k v r):mw (mu d k v) r=if k=r then v else mw d r:=by
 unfold mw;rw[P0];by_cases h:k=r;.rw[if_pos h,if_pos h];rfl
 .rw[if_neg h,if_neg h]
theorem Hr(h:(de d).Nodup)(k v):(de<|mu d k v).Nodup:=by
 rw[uD];by_cases q:k∈de d;.rw[if_pos q];exact h
 .rw[if_neg q];exact dZ.mpr ⟨h,bV.mpr ⟨b_,jk⟩,λa c b f e=>q<|ao.mp f▸e▸c⟩
theorem P':r∈de (mu d k v)↔r∈de d\/r=k:=by
 rw[uD];by_cases h:k∈de d;.rw[if_pos h];exact⟨.inl,λz=>z.elim id λe=>e▸h⟩
 .rw[if_neg h,bO,ao]
noncomputable def tu(d:List<|bC×Int)(p:bC×Int):List<|bC×Int:=mu d p.1<|mw d p.1+p.2
theorem Lf(d p):y_ d p=tu d p:=by unfold y_ tu mw;cases jo d p.1 with|none=>exact congrArg (mu d p.1) (eb _).symm|some o=>rfl
noncomputable def FI(l:List<|bC×Int)(r:bC):Int:=(l.map λp=>if p.1=r then p.2 else 0).sum
theorem lG(l d)(h:(de d).Nodup):(de<|l.foldl tu d).Nodup/\(∀r,mw (l.foldl tu d) r=mw d r+FI l r)/\(∀r,r∈de (l.foldl tu d)↔r∈de d\/r∈de l):=by
 induction l generalizing d with|nil=>exact⟨h,λr=>(gD _).symm,λr=>⟨.inl,λz=>z.elim id λm=>absurd m b_⟩⟩|cons p l a=>
  have z:=a (tu d p)<|Hr h _ _;refine⟨z.1,λr=>(z.2.1 r).trans ?_,λr=>(z.2.2 r).trans ?_⟩
  .show mw (mu d p.1 _) r+_=mw d r+((if p.1=r then p.2 else 0)+FI l r);rw[P_];by_cases q:p.1=r;.rw[if_pos q,if_pos q,q];exact zR
   .rw[if_neg q,if_neg q,eb]
  .rw[kd,bf,<-or_assoc];exact or_congr_left P'
theorem AE(a b)(h:(de<|b++a).Nodup):a.foldl (λb p=>mu b p.1 p.2) b=b++a:=by induction a generalizing b with|nil=>exact(bD _).symm|cons p a c=>have e:mu b p.1 p.2=b++[p]:=tq (λm=>by rw[AD,kd,dZ] at h;exact h.2.2 _ m _ (.head _) rfl) _;rw[gm,e,c (b++[p])<|by rwa[bW],bW];rfl
theorem Qa(h:(de a).Nodup):Nn a=a:=AE a [] h
theorem Cu{α c:Type}{f g:c->α->c}(h:∀b a,f b a=g b a)(l:List α)(b):l.foldl f b=l.foldl g b:=by rw[show f=g from funext λb=>funext<|h b]
theorem AF(h:(de a).Nodup)(b):xp a b=b.foldl tu a:=by unfold xp;rw[Qa h];exact Cu Lf b a
theorem E5(h:a.Nodup):EJ a=a.map λr=>(r,1):=List.foldl_map.symm.trans<|AE (a.map λr=>(r,1)) []<|by rw[kh,uA];exact(qZ _).symm▸h
theorem Qb(h:(de l).Nodup)(r):FI l r=mw l r:=by
 induction l with|nil=>rfl|cons p l a=>
  rw[kd,bV] at h;show(if p.1=r then p.2 else 0)+FI l r=(jo (p::l) r).getD 0;rw[a h.2,jr];by_cases q:p.1=r;.rw[if_pos q,if_pos q,uC<|q▸h.1];exact gD _
  .rw[if_neg q,if_neg q];exact eb _
theorem AG(l d)(h:(de l).Nodup):de (l.foldl tu d)=de d++(de l).filter λr=>!decide (r∈de d):=by
 induction l generalizing d with|nil=>exact(bD _).symm|cons p l b=>
  rw[kd,bV] at h;refine(b _ h.2).trans ?_;unfold tu;rw[uD,kd,iq];by_cases q:p.1∈de d;.rw[if_pos q,decide_eq_true q];rfl
  .rw[if_neg q,decide_eq_false q,if_pos (c:=(!false)=aj) rfl,bW];refine congrArg (de d++·)<|congrArg (p.1::·)<|t8 λx a=>congrArg (!·)<|decide_eq_decide.mpr ⟨λm=>?_,bp _⟩;exact(bO.mp m).elim id λe=>absurd (ao.mp e▸a) h.1
noncomputable def tw{α:Type}(l:List α):List α:=(aL<|(l.length+1)/2).filterMap λk=>l[2*k]?
theorem Lg(n):(n+1+1)/2=(n-1+1)/2+1:=by cases n with|zero=>rfl|succ n=>exact aca
theorem yp(x)(l:List α):tw (x::l)=x::tw (l.drop 1):=by unfold tw;rw[be,cH,Lg,iN,jI,nj];refine congrArg (x::·)<|congrArg (Rb · _)<|funext λk=>?_;show l[2*k+1]?=_;rw[fj,bx]
theorem Qc{n:Nat}(q:h<=n):(if(h:Int)<n then((n:Int)-h+2-1)/2 else 0).toNat=(n-h+1)/2:=by
 by_cases c:(h:Int)<n;.rw[if_pos c];exact Ī q
 .rw[if_neg c];exact ĭ c
theorem wG(l:List α)(h:Nat)(a:h<=1):lK l (ae h) ah (ae 2)=tw (l.drop h):=by
 show(rm (max 0<|min h l.length) l.length 2).filterMap _=_;unfold rm tw;rw[if_pos<|by decide,nj,cH];refine(dJ l.length h).elim (λq=>?_) λq=>?_;.rw[iM<|acb a q];have e:=bA a<|az (au _) q;rw[e];kernel_rfl
 .rw[acd q,Qc q];refine congrArg (Rb · _)<|funext λk=>?_;show l[(h+2*(k:Int)).toNat]?=_;rw[fj];rfl
theorem XY(f:α->Int)(l):((tw l).map f).sum+((tw<|l.drop 1).map f).sum=(l.map f).sum:=by induction l with|nil=>kernel_rfl|cons x l a=>rw[yp,ax,ax,cy,cy,mT,gQ];exact ace a
theorem lZ(a)(f:List Nat->Int):((eG a 0).map f).sum+((eG a 1).map f).sum=(a.map f).sum:=by unfold eG;rw[wG a 0<|ke no,wG a 1<|al 1,gQ];exact XY f a
theorem qW(m:way∈eG a h):way∈a:=sO m
noncomputable def Jh(r:bC)(a:List bC):Int:=(a.map λx=>if x=r then(1:Int) else 0).sum
section
variable (words:List bC) (w:Int)
structure Vz(l:List<|List Nat)(t T:Stat):Prop where
 a:T.a=t.a+(l.map λ_=>1).sum
 b:T.b=t.b+(l.map λway=>((cM words way).length:Int)).sum
 c:T.c=t.c+(l.map λway=>((cM words way).map<|Si w).sum).sum
 d:T.d=t.d+(l.map λway=>(way.map cS).sum).sum
 nd:(de T.e).Nodup
 val:∀r,mw T.e r=mw t.e r+(l.map λway=>Jh r<|cM words way).sum
 mem:∀r,r∈de T.e↔r∈de t.e\/∃way∈l,r∈cM words way
 SU:de T.e=rg words (de t.e) l
theorem Ji(r a):FI (a.map λr=>(r,1)) r=Jh r a:=by unfold FI Jh;rw[aE];rfl
theorem Qd(l:List<|List Nat)(t:Stat)(n:∀way∈l,(cM words way).Nodup)(k:(de t.e).Nodup):Vz words w l t<|l.foldl (λt way=>xu t<|sf words w way) t:=by
 induction l generalizing t with|nil=>exact⟨(gD _).symm,(gD _).symm,(gD _).symm,(gD _).symm,k,λr=>(gD _).symm,λr=>⟨.inl,λh=>h.elim id λz=>aU z λ_ m _=>absurd m b_⟩,rfl⟩|cons way l f=>
  have o:=n way<|.head _;have e:(xu t<|sf words w way).e=((cM words way).map λr=>(r,1)).foldl tu t.e:=(congrArg (xp t.e)<|E5 o).trans<|AF k _;have j:de ((cM words way).map λr=>(r,1))=cM words way:=by rw[uA];exact qZ _
  have g:=lG ((cM words way).map λr=>(r,1)) t.e k;have i:=AG ((cM words way).map λr=>(r,1)) t.e<|j.symm▸o;rw[<-e] at g i;rw[j] at i;have f:=f (xu t<|sf words w way) (λway m=>n way<|.tail _ m) g.1;refine⟨?_,?_,?_,?_,f.nd,λr=>(f.val r).trans ?_,λr=>(f.mem r).trans ?_,f.SU.trans ?_⟩;.exact f.a.trans acf
  .exact f.b.trans acg
  .exact f.c.trans UW
  .exact f.d.trans UW
  .rw[g.2.1,Ji];exact zR
  .rw[g.2.2,j];refine⟨λz=>z.elim (λz=>z.elim .inl λz=>.inr ⟨way,.head _,z⟩) λh=>aU h λy m z=>.inr ⟨y,.tail _ m,z⟩,λz=>z.elim (λz=>.inl<|.inl z) λh=>aU h λy m z=>?_⟩;exact eQ m (λz=>.inl<|.inr z) (λm z=>.inr ⟨y,m,z⟩) z
  .rw[i];rfl
theorem Cv(l)(a:∀way∈l,(cM words way).Nodup):Vz words w l EK<|kb words w l:=Qd words w l EK a<|dD tt
theorem Qf(l c d):rg words (c++d.filter λr=>!decide (r∈c)) l=c++(rg words d l).filter λr=>!decide (r∈c):=by
 induction l generalizing d with|nil=>rfl|cons b l e=>
  refine vr (congrArg (rg words · l) ?_)<|e<|d++(cM words b).filter λr=>!decide (r∈d);show c++d.filter _++_=_;rw[sA,bW,List.filter_filter];refine congrArg (c++·)<|congrArg (d.filter _++·)<|t8 λx _=>?_;by_cases a:x∈c;.rw[decide_eq_true a,decide_eq_true<|bp _ a];rfl
  .rw[decide_eq_false a];refine congrArg (!·)<|decide_eq_decide.mpr ⟨λh=>?_,λh=>av _<|dM.mpr ⟨h,by rw[decide_eq_false a];rfl⟩⟩;exact(bO.mp h).elim (absurd · a) λh=>(dM.mp h).1
structure yq(ways:List<|List Nat)(T:Stat):Prop where
 a:T.a=ways.length
 b:T.b=(ways.map λway=>((cM words way).length:Int)).sum
 c:T.c=(ways.map λway=>((cM words way).map<|Si w).sum).sum
 d:T.d=(ways.map λway=>(way.map cS).sum).sum
 nd:(de T.e).Nodup
 val:∀r,mw T.e r=(ways.map λway=>Jh r<|cM words way).sum
 mem:∀r∈de T.e,∃way∈ways,r∈cM words way
 mem':∀way∈ways,∀r∈cM words way,r∈de T.e
theorem E6{α:Type}(l:List α):(l.map λ_=>(1:Int)).sum=l.length:=by induction l with|nil=>rfl|cons _ l a=>rw[ax,cy,a];exact ach
theorem Lh(h:x∈l):x∈tw l\/x∈tw (l.drop 1):=by induction l with|nil=>exact absurd h b_|cons y l a=>rw[yp,mT,gQ];refine eQ h (.inl<|.head _) λh=>(a h).elim .inr λz=>.inl<|.tail _ z
theorem Tt(f)(k:∀way∈f,(cM words way).Nodup):yq words w f (xu (kb words w<|eG f 0)<|kb words w<|eG f 1)/\(xu (kb words w<|eG f 0)<|kb words w<|eG f 1).e.map (·.1)=rg words (rg words []<|eG f 0) (eG f 1):=by
 have A:=Cv words w (eG f 0) λway m=>k way<|qW m;have B:=Cv words w (eG f 1) λway m=>k way<|qW m;haveI z:∀r,mw EK.e r=0:=λr=>rfl;have o:(xu (kb words w<|eG f 0)<|kb words w<|eG f 1).e=(kb words w<|eG f 1).e.foldl tu (kb words w<|eG f 0).e:=AF A.nd _;(haveI h:=(lG (kb words w<|eG f 1).e (kb words w<|eG f 0).e A.nd).1;haveI i:=(lG (kb words w<|eG f 1).e (kb words w<|eG f 0).e A.nd).2.1;haveI g:=(lG (kb words w<|eG f 1).e (kb words w<|eG f 0).e A.nd).2.2);haveI j:=AG (kb words w<|eG f 1).e (kb words w<|eG f 0).e B.nd;rw[<-o] at h i g j;refine⟨⟨?_,?_,?_,?_,h,λr=>?_,λr m=>?_,λway p r m=>?_⟩,?_⟩
 .show(kb words w<|eG f 1).a+(kb words w<|eG f 0).a=_;rw[A.a,B.a,<-E6 f,<-lZ f];skip;exact HU
 .show(kb words w<|eG f 1).b+(kb words w<|eG f 0).b=_;rw[A.b,B.b,<-lZ f];skip;exact HU
 .show(kb words w<|eG f 1).c+(kb words w<|eG f 0).c=_;rw[A.c,B.c,<-lZ f];skip;exact HU
 .show(kb words w<|eG f 1).d+(kb words w<|eG f 0).d=_;rw[A.d,B.d,<-lZ f];skip;exact HU
 .rw[i,Qb B.nd,A.val,B.val,<-lZ f,z];exact aci
 .rcases(g r).mp m with q|q
  .rcases(A.mem r).mp q with q|⟨way,m,q⟩;.cases q
   .exact⟨way,qW m,q⟩
  .rcases(B.mem r).mp q with q|⟨way,m,q⟩;.cases q
   .exact⟨way,qW m,q⟩
 .rw[g];haveI:way∈eG f 0\/way∈eG f 1:=by
   unfold eG;rw[wG f 0<|ke no,wG f 1<|al 1];exact Lh p
  refine dy this (λq=>?_) λq=>?_;.exact .inl<|(A.mem r).mpr<|.inr ⟨way,q,m⟩
  .exact .inr<|(B.mem r).mpr<|.inr ⟨way,q,m⟩
 .show de _=_;haveI l:de (kb words w<|eG f 0).e=rg words [] (eG f 0):=A.SU;haveI n:de (kb words w<|eG f 1).e=rg words [] (eG f 1):=B.SU;rw[j,l,n];haveI:=Qf words (eG f 1) (rg words []<|eG f 0) [];rw[List.filter_nil,bD] at this;exact this.symm
end
section
theorem aeQ(h:c<b):U F c e b=[]:=List.eq_nil_iff_forall_not_mem.mpr λt m=>by have T:=lW.mp m;exact absurd h<|iR.mpr<|T.hd▸T.le 0 (au _)
theorem Tu{k:Type}(e:c<=n)(g:Nat->List k)(f:∀b,c<b->g b=[]):(I5 F n a).flatMap g=(I5 F c a).flatMap g:=by
 unfold I5;rw[show n-a=(c-a)+(n-a-(c-a)) from acj e,List.range_add,aJ,sA,jJ];haveI:((((aL<|n-a-(c-a)).map (c-a+·)).map (a+1+·)).filter<|F a).flatMap g=[]:=by rw[List.flatMap_eq_nil_iff];intro b d;refine g7 ((dM.mp d).1) λx i=>g7 i λj h=>?_;haveI:=aR.mp h;exact f _ ack
 rw[this,bD]
theorem aeR(g:c<=n)(e m a)(f:e<=m)(h:∀t,ft F n m a t->t.getD e 0=c):U F n m a=(U F c e a).flatMap λs=>(U F n (m-e) c).map (s.take e++·):=by
 induction e generalizing m a with
 |zero=>
  show _=(if a=c then[[a]] else[]).flatMap _;by_cases q:a=c;.rw[if_pos q,pq,q];exact(qZ _).symm
  .rw[if_neg q];refine List.eq_nil_iff_forall_not_mem.mpr λt m=>?_;have T:=lW.mp m;exact q<|T.hd.symm.trans<|h t T
 |succ e i=>cases m with|zero=>exact absurd f<|Nat.not_succ_le_zero _|succ m=>rw[show m+1-(e+1)=m-e from acm];show(I5 F n a).flatMap _=((I5 F c a).flatMap _).flatMap _;rw[JE,<-Tu g (λb=>((U F c e b).map (a::·)).flatMap λs=>(U F n (m-e) c).map (s.take (e+1)++·)) λb d=>by rw[aeQ d];rfl];refine fZ λb d=>?_;have d:=wB.mp d;rw[i m b (cg f) λt T=>h _<|T.cons d.1 d.2.2,lM,lN];exact fZ λs _=>aE
noncomputable def nU(a:Nat->Nat->Int)(b:List<|List Nat):Int:=(b.map λt=>(prs a t).sum).sum
theorem sum_add{α:Type}(f g:α->Int)(l:List α):(l.map λx=>f x+g x).sum=(l.map f).sum+(l.map g).sum:=by induction l with|nil=>rfl|cons x l a=>rw[ax,ax,ax,cy,cy,cy,a];exact aco
theorem AH(n c):((n+1:Nat):Int)*c=n*c+c:=(Int.add_mul n 1 c).trans<|congrArg (_+·)<|wJ c
theorem AI{α:Type}(c:Int)(l:List α):(l.map λ_=>c).sum=l.length*c:=by induction l with|nil=>exact(Yr c).symm|cons x l a=>rw[ax,cy,a,be,AH,uG]
theorem Jj{α:Type}(c)(f:α->Int)(l:List α):(l.map λx=>c*f x).sum=c*(l.map f).sum:=by induction l with|nil=>exact(pE c).symm|cons x l a=>rw[ax,cy,a,ax,cy,wP]
theorem Cw{a:Int}(h:a=b)(k:c=d):a+c=b+d:=h▸k▸rfl
theorem E7(b o p)(d:∀s∈o,ft F c e a s)(j:∀t∈p,ft F n m c t):(o.flatMap λs=>p.map (s.take e++·)).length=o.length*p.length/\nU b (o.flatMap λs=>p.map (s.take e++·))=p.length*nU b o+o.length*nU b p:=by
 induction o with|nil=>refine⟨(uM _).symm,?_⟩;show(0:Int)=p.length*0+0*nU b p;rw[pE,Yr];rfl|cons s o k=>
  have h:=k λs m=>d s<|.tail _ m;have f:=d s<|.head _;have i:nU b (p.map (s.take e++·))=p.length*(prs b s).sum+nU b p:=by unfold nU;rw[aE,<-AI,<-sum_add];refine congrArg oJ<|aI λt l=>?_;have g:=j t l;show(prs b<|s.take e++t).sum=_;rw[E1 b e s t f.len (g.len▸gA _)<|f.last.trans g.hd.symm,gp]
  rw[cI];refine⟨?_,?_⟩;.rw[aM,af,h.1,be,fK];exact UJ
  .show((p.map (s.take e++·)++_).map _).sum=_*((prs b s).sum+nU b o)+_;rw[aJ,gp,be,wP,AH];refine(Cw i h.2).trans<|acp
end
noncomputable def pk:List (Nat×Int)->Nat|[]=>1|p::l=>p.1*pk l
noncomputable def Li(m:Nat)(l:List<|Nat×Int):Int:=(l.map λp=>((m:Int).fdiv p.1)*p.2).sum
theorem yr(h:p∈l):p.1∣pk l:=by induction l with|nil=>exact absurd h b_|cons q l a=>exact eQ h (Nat.dvd_mul_right _ _) λh=>Nat.dvd_trans (a h)<|Nat.dvd_mul_left _ _
theorem tz(m q:Nat):((m:Int).fdiv q)=((m/q:Nat)):=by rw[Int.fdiv_eq_ediv_of_nonneg _<|bc q];rfl
theorem Lj(p l)(h:0<p.1)(b:∀q∈l,0<q.1):Li (pk<|p::l) (p::l)=pk l*p.2+p.1*Li (pk l) l:=by
 unfold Li;rw[ax,cy];congr 1;.rw[tz];show((p.1*pk l/p.1:Nat):Int)*_=_;rw[Nat.mul_div_cancel_left _ h]
 .rw[<-Jj];congr 1;apply aI;intro q a;rw[tz,tz];show((p.1*pk l/q.1:Nat):Int)*_=_;rw[Nat.mul_div_assoc _<|yr a,pH,CB]
section
variable (S:Setup words w k low high)
include S
noncomputable abbrev ku(words:List bC)(w:Int)(low:List Nat)(p:Nat×Nat):List<|List Nat:=U (Fw words w) (low.getD p.2 0) (p.2-p.1)<|low.getD p.1 0
theorem XZ(b:a<=q)(c:q<=k)(e:low.getD a 0=high.getD a 0)(d:low.getD q 0=high.getD q 0)(T:ft (Fw words w) words.length (k-a) (low.getD a 0) t):t.getD (q-a) 0=low.getD q 0:=by
 haveI g:=(S.bd.lo.upto<|HS b c).glue T;rw[show a+(k-a)=k from(cX<|ab b c)] at g;haveI:=S.bd.le _ g q c;haveI l:((low.take<|a+1).take a).length=a:=by rw[bh,bh,S.bd.lo.len];exact acr b c
 rw[qp _ _ l,if_neg<|fY b] at this;exact MO d this
theorem wH(a:p.1<=p.2)(b:p.2<=k):0<(ku words w low p).length:=by haveI s:=(S.bd.lo.from_<|HS a b).upto<|MN b;rw[drop_getD,show p.1+(p.2-p.1)=p.2 from zP a] at s;exact k_<|lW.mpr s
theorem zr(c)(h:Iv k (jN low high k) a l):low.getD a 0=high.getD a 0->(U (Fw words w) words.length (k-a)<|low.getD a 0).length=pk (l.map λp=>((ku words w low p).length,nU c (ku words w low p)))/\nU c (U (Fw words w) words.length (k-a)<|low.getD a 0)=Li (pk<|l.map λp=>((ku words w low p).length,nU c (ku words w low p))) (l.map λp=>((ku words w low p).length,nU c (ku words w low p))):=by
 generalize z:jN low high k=f at h;induction h with|nil=>intro _;rw[eK,S.bd.lo.last];show(if _ then _ else _:List<|List Nat).length=_/\nU c (if _ then _ else _)=_;rw[if_pos rfl];exact⟨rfl,rfl⟩|@cons a q l e d E v y j=>
  intro o;have g:=Cs S (HT e) d<|z▸v;(haveI i:=(j g).1;haveI A:=(j g).2);haveI b:=aeR (S.bd.lo.le q d) (q-a) (k-a) (low.getD a 0) (MN d) λt=>XZ S (lP e) d o g;rw[show k-a-(q-a)=k-q from acu e] at b;(haveI r:=(E7 c (U (Fw words w) (low.getD q 0) (q-a)<|low.getD a 0) (U (Fw words w) words.length (k-q)<|low.getD q 0) (λs=>lW.mp) λs=>lW.mp).1;haveI u:=(E7 c (U (Fw words w) (low.getD q 0) (q-a)<|low.getD a 0) (U (Fw words w) words.length (k-q)<|low.getD q 0) (λs=>lW.mp) λs=>lW.mp).2);rw[b,ax];constructor;.rw[r,i];rfl
  .rw[u,A,Lj _ _ (wH S (by show a<=q;exact lP e) d) λx m=>?_];.rw[i]
   .refine g7 m λp B=>?_;(haveI n:=y.mem p B;haveI C:=n.2.1;haveI D:=n.2.2);exact wH S (lP C) D
end
theorem Qg(f:Nat->Nat->α)(g d):prs f (d.map g)=prs (λa b=>f (g a)<|g b) d:=by induction d with|nil=>rfl|cons a d c=>cases d with|nil=>rfl|cons b r=>exact congrArg (f (g a) (g b)::·) c
theorem Tv(R)(h:α×Nat->d)(e):((prs R e).zip<|e.drop 1).map h=prs (λa b=>h (R a b,b)) e:=by induction e with|nil=>rfl|cons a e c=>cases e with|nil=>rfl|cons b r=>exact congrArg (h (R a b,b)::·) c
theorem Lk(T:ft F n k a c)(h:∀x y,x<y->y<=n->F x y=aj->f x y=g x y):prs f c=prs g c:=by rw[ot f k c T.len,ot g k c T.len];apply aI;intro j b;haveI b:=aR.mp b;exact h _ _ (T.step j b).1 (T.le (j+1)<|ki b) (T.step j b).2
theorem Ll(c d)(h:∀a b,a<b->b<=d->F (c+a) (c+b)=G a b)(a):I5 F (c+d) (c+a)=(I5 G d a).map (c+·):=by unfold I5;rw[HA,show(aL<|d-a).map (c+a+1+·)=((aL<|d-a).map (a+1+·)).map (c+·) from(aI λj _=>acx).trans aE.symm,QR];refine congrArg (k0 (c+·))<|t8 λx f=>?_;refine aU (am.mp f) λj e g=>?_;subst g;exact h _ _ Mx<|(HO<|aR.mp e).2
theorem Tw(c d)(h:∀a b,a<b->b<=d->F (c+a) (c+b)=G a b)(m a):U F (c+d) m (c+a)=(U G d m a).map (k0 (c+·)):=by
 induction m generalizing a with
 |zero=>
  show(if _ then _ else _)=(if _ then _ else _:List<|List Nat).map _;by_cases q:a=d;.rw[if_pos q,if_pos<|congrArg (c+·) q];rfl
  .rw[if_neg q,if_neg<|acv q];rfl
 |succ m e=>show(I5 F (c+d)<|c+a).flatMap _=((I5 G d a).flatMap _).map _;rw[Ll c d h a,lN,lM];refine fZ λb _=>?_;rw[e b,aE,aE];rfl
theorem Tz(k a):(U F d k a).Nodup:=by
 induction k generalizing a with
 |zero=>
  show Y3<|if a=d then[[a]] else[];by_cases q:a=d;.rw[if_pos q];exact bV.mpr ⟨b_,jk⟩
  .rw[if_neg q];exact jk
 |succ k i=>refine List.pairwise_flatMap.mpr ⟨λb _=>t7.mpr<|(i b).imp λh e=>h (gZ e).2,?_⟩;have:(I5 F d a).Pairwise (·≠·):=(t7.mpr<|List.nodup_range.imp λh e=>h<|acy e).filter _;refine this.imp λ{x y} c t f u g e=>aU (am.mp f) λo j m=>?_;subst m;refine aU (am.mp g) λp l n=>?_;subst n;exact c<|(lW.mp j).hd.symm.trans<|(congrArg (List.getD · 0 0) (gZ e).2).trans (lW.mp l).hd
theorem X0{α:Type}{l:List α}{s:α}(a:l.Nodup)(hs:s∈l)(h:∀x∈l,x=s):l=[s]:=by cases l with|nil=>exact absurd hs b_|cons x l=>rw[h x<|.head _];rw[h x<|.head _] at a;refine congrArg (s::·)<|List.eq_nil_iff_forall_not_mem.mpr λy m=>(bV.mp a).1<|h y (.tail _ m)▸m
noncomputable def Jk(c:List bC)(w:Int)(a b:Nat):sx:=⟨jM c a b,w-1-(jM c a b).length,b⟩
theorem Jl(l:List α)(e:b<=d-c):seg (seg l c d) a b=seg l (c+a) (c+b):=by unfold seg;rw[List.drop_take,List.take_take,yX,show min (b-a) (d-c-a)=b-a from acz e,show c+b-(c+a)=b-a from acw]
theorem sn(l:List α)(c:b<=l.length):(seg l a b).length=b-a:=by unfold seg;rw[bh,cH];exact UR c
theorem Qh(i:c<=g)(f:g<=d.length)(e:a<b)(h:b<=g-c):Fw d w (c+a) (c+b)=Fw (seg d c g) w a b:=by
 rw[gj,lX _ _ (acA e)<|by rw[iZ];exact(ab (FM (aF<|Nat.sub_pos_iff_lt.mp<|aB (cY e) h) h) f),lX _ _ e<|by rw[iZ,sn _ f];exact h];rw[<-wD,<-wD,Jl _ h];exact or_congr_left ⟨acC,acD⟩
theorem TA(l:c<=d)(f:d<=b.length)(T:ft (Fw (seg b c d) w) (d-c) m 0 n):Dt (seg b c d) w c n=prs (Jk b w) (n.map (c+·)):=by
 haveI i:=sn b (a:=c) f;haveI g:=T;rw[<-i] at g;unfold Dt;haveI e:=tn g;unfold cM at e;rw[e,Tv,Qg];refine Lk T λx y j h k=>?_;haveI:jM (seg b c d) x y=jM b (c+x) (c+y):=by unfold jM;rw[Jl _ h]
 skip;rw[this];congr 1
section
variable (S:Setup words w k low high)
include S
theorem Hs(a:i<=j)(b:j<=k)(T:ft (Fw words w) (low.getD j 0) m (low.getD i 0) t):j-i<=m:=by haveI g:=(S.bd.lo.upto<|HS a b).glue<|T.glue<|S.bd.lo.from_ b;haveI:=S.bd.least _ _ g;exact acE b this
theorem Qi(a:i<j)(c:j<=k)(h:∀q,i<=q->q<=j->low.getD q 0=high.getD q 0)(T:ft (Fw words w) (low.getD j 0) (j-i) (low.getD i 0) t):t=(high.drop i).take (j+1-i):=by
 haveI g:=(S.bd.lo.upto<|US a c).glue<|T.glue<|S.bd.lo.from_ c;rw[show i+(j-i+(k-j))=k from acF a c] at g;haveI r:((low.take<|i+1).take i).length=i:=by rw[bh,bh,S.bd.lo.len];exact acG a c
 apply fv;.rw[T.len,bh,cH,S.bd.hi.len];exact acH a c
 .intro q f s;have d:q<=j-i:=by rw[T.len] at f;exact(cg f)
  haveI b:=S.bd.le _ g (i+q)<|acJ a c d;haveI e:=h (i+q) HR<|acK a d;rw[qp _ _ r,if_neg abG,show i+q-i=q from ML] at b;have m:(t.take (j-i)++low.drop j).getD q 0=t.getD q 0:=by
   have l:(t.take<|j-i).length=j-i:=by rw[bh,T.len];exact acL
   rw[qp _ _ l];split;.rw[kr _<|by assumption]
   .have:q=j-i:=bA d<|iR.mp<|by assumption
    subst this;rw[eK,drop_getD,T.last];rfl
  rw[m] at b;have n:t[q]=t.getD q 0:=by rw[ak,ay f];rfl
  have o:((high.drop i).take<|j+1-i)[q]=high.getD (i+q) 0:=by
   haveI p:i+q<high.length:=by rw[S.bd.hi.len];exact acO a c d
   rw[nW,lb,ak,ay p];rfl
  rw[n,o];exact(bA b.2<|e▸b.1)
end
section
variable {words:List bC}(hc:c<=c') (hc':c'<=words.length)
include hc hc'
theorem sh(m):U (Fw words w) c' m c=(U (Fw (seg words c c') w) (c'-c) m 0).map (k0 (c+·)):=by have h:=Tw (G:=Fw (seg words c c') w) c (c'-c) (λa b=>Qh hc hc') m 0;rwa[JG hc,Ym] at h
theorem Qj(f:∀m t,ft (Fw words w) c' m c t->n<=m)(a:0<(U (Fw words w) c' n c).length):cr (iV<|seg words c c') w=U (Fw (seg words c c') w) (c'-c) n 0:=by
 have b:(iV<|seg words c c').length=c'-c:=by rw[iZ,sn _ hc']
 have g:=sj _ w _ 0 (au _) λz=>by rw[sh hc hc',af,<-b] at a;exact f5 0<|eB a<|congrArg mm z
 refine cc (jF _<|PG (iV<|seg words c c') w _ 0 (au _) rfl) λt d=>?_;have e:=Av (iV<|seg words c c') w;rw[b] at d e;rw[e,bA g<|f _ (t.map (c+·))<|lW.mp<|by rw[sh hc hc'];exact am.mpr ⟨t,d,rfl⟩]
theorem X5(h:U (Fw words w) c' n c=[f]):[f.map λe=>e-c]=U (Fw (seg words c c') w) (c'-c) n 0:=by refine aU (List.map_eq_singleton_iff.mp<|(sh hc hc' n).symm.trans h) λd b a=>?_;rw[b,<-a,aE];exact congrArg (λx=>[x])<|(aI λe _=>o6 _ e).trans<|qZ _
theorem X6(n):(U (Fw (seg words c c') w) (c'-c) n 0).map (Dt (seg words c c') w c)=(U (Fw words w) c' n c).map (prs<|Jk words w):=by rw[sh hc hc',aE];exact aI λb a=>TA hc hc'<|lW.mp a
end
section
variable (S:Setup words w k low high)
include S
theorem TB(f:i<j)(c:j<=k)(r:∀q,i<=q->q<j->jN low high k q=jN low high k i)(o:low.getD i 0=high.getD i 0)(l:low.getD j 0=high.getD j 0):lu words w high (v4 (eH low high k) (i,j)).tag i j=(ku words w low (i,j)).map (prs<|Jk words w):=by have g:=S.bd.lo.mono i j (aF f) c;have b:=S.bd.lo.le j c;have d:=wH S (p:=(i,j)) (aF f) c;refine vr ?_<|X6 g b<|j-i;show(if _=_ then cr (iV<|seg words (high.getD i 0)<|high.getD j 0) w else[((high.drop i).take<|j+1-i).map λe=>e-high.getD i 0]).map (Dt (seg words (high.getD i 0)<|high.getD j 0) w<|high.getD i 0)=_;rw[<-o,<-l];refine congrArg (k0 _) ?_;cases h:jN low high k i with|true=>rw[show(v4 (eH low high k) (i,j)).tag="equal" from if_pos h,if_neg<|by decide+kernel];have s:=λq u v=>(dJ q j).elim (λz=>((same_iff S.bd<|aB z c).mp<|(r q u z).trans h).1) λz=>bA v z▸l;have a:∀x∈ku words w low (i,j),x=(high.drop i).take (j+1-i):=λx m=>Qi S f c s<|lW.mp m;refine cc (List.exists_mem_of_length_pos d) λx n=>X5 g b<|X0 (Tz _ _) (a x n▸n) a|false=>rw[show(v4 (eH low high k) (i,j)).tag="replace" from if_neg λq=>fo<|h.symm.trans q,if_pos rfl];exact Qj g b (λm t=>Hs S (aF f) c) d
theorem TC(h:Iv k (jN low high k) a l):low.getD a 0=high.getD a 0->∀p∈l,lu words w high (v4 (eH low high k) p).tag p.1 p.2=(ku words w low p).map (prs<|Jk words w):=by generalize hf:jN low high k=f at h;induction h with|nil=>exact λ_ p m=>absurd m b_|@cons i j l h1 h2 h3 h4 h5 ih=>intro ei p m;have ej:=Cs S (HT h1) h2<|hf▸h4;exact eQ (motive:=λp=>lu words w high (v4 (eH low high k) p).tag p.1 p.2=(ku words w low p).map (prs<|Jk words w)) m (TB S h1 h2 (hf▸h3) ei ej)<|ih ej p
end
theorem Ht(x:List (List sx)->Int)(ps:List<|List<|List sx)(m):ps.foldl (λm p=>m*(p.length:Int)) m=m*pk (ps.map λp=>(p.length,x p)):=by induction ps generalizing m with|nil=>exact(rq m).symm|cons p ps a=>refine(a _).trans ?_;show m*p.length*_=m*((p.length*pk _:Nat));rw[pH,CB]
theorem Lm(q)(xs:List sx)(a):(xs.foldl (pW q) a).1=a.1+q*(xs.map λx=>x.room*x.room).sum/\(xs.foldl (pW q) a).2.1=a.2.1+q*(xs.map λx=>x.fin).sum/\(xs.foldl (pW q) a).2.2=(xs.map λx=>(x.row,q)).foldl tu a.2.2:=by induction xs generalizing a with|nil=>exact⟨(gD _).symm.trans<|congrArg (a.1+·) (pE q).symm,(gD _).symm.trans<|congrArg (a.2.1+·) (pE q).symm,rfl⟩|cons x xs b=>have h:=b<|pW q a x;rw[ax,ax,cy,cy,wP,wP];refine⟨h.1.trans ?_,h.2.1.trans zR,h.2.2⟩;show a.1+q*x.room*x.room+_=_;rw[CB];exact zR
theorem Ln(m)(ps:List<|List<|List sx)(a):(ps.foldl (pX m) a).1=a.1+(ps.map λp=>m.fdiv p.length*(p.flatten.map λx=>x.room*x.room).sum).sum/\(ps.foldl (pX m) a).2.1=a.2.1+(ps.map λp=>m.fdiv p.length*(p.flatten.map λx=>x.fin).sum).sum/\(ps.foldl (pX m) a).2.2=(ps.flatMap λp=>p.flatten.map λx=>(x.row,m.fdiv p.length)).foldl tu a.2.2:=by
 induction ps generalizing a with|nil=>exact⟨(gD _).symm,(gD _).symm,rfl⟩|cons p ps b=>
  have h:=b<|pX m a p;have g:=Lm (m.fdiv p.length) p.flatten a;rw[cI,eU,<-g.2.2];refine⟨h.1.trans ?_,h.2.1.trans ?_,h.2.2⟩;.exact(congrArg (·+_) g.1).trans zR
  .exact(congrArg (·+_) g.2.1).trans zR
theorem TF(a b r):FI (a++b) r=FI a r+FI b r:=by unfold FI;rw[aJ,gp]
theorem Lo(m:Int)(r)(ps:List<|List<|List sx):FI (ps.flatMap λp=>p.flatten.map λx=>(x.row,m.fdiv p.length)) r=(ps.map λp=>m.fdiv p.length*(p.flatten.map λx=>if x.row=r then(1:Int) else 0).sum).sum:=by
 induction ps with|nil=>rfl|cons p ps a=>
  rw[cI,TF,a,ax,cy,<-Jj];refine congrArg (·+_)<|congrArg oJ<|aE.trans<|aI λx _=>?_;show(if x.row=r then m.fdiv p.length else 0)=m.fdiv p.length*(if x.row=r then 1 else 0);by_cases h:x.row=r;.rw[if_pos h,if_pos h,rq]
  .rw[if_neg h,if_neg h,pE]
theorem Jm(h:∀p∈l,0<p.2):0<=FI l r/\(r∈de l->0<FI l r):=by
 induction l with|nil=>exact⟨kG 0,λm=>absurd m b_⟩|cons p l b=>
  have i:=b λq m=>h q<|.tail _ m;have a:=h p<|.head _;show 0<=(if p.1=r then p.2 else 0)+FI l r/\(_->0<(if p.1=r then p.2 else 0)+FI l r);by_cases c:p.1=r;.rw[if_pos c];exact⟨zL (nh a) i.1,λ_=>yO a i.1⟩
  .rw[if_neg c,eb];exact⟨i.1,λm=>(bf.mp m).elim (λq=>absurd q.symm c) i.2⟩
theorem Qk(c w d f):((f.map<|prs<|Jk c w).flatten.map d).sum=nU (λa b=>d<|Jk c w a b) f:=by induction f with|nil=>rfl|cons t f e=>rw[ax,eT,aJ,gp,e,Co];rfl
theorem Ql(a r):((a::r).map cS).sum=a+(prs (λ_ b=>(b:Int))<|a::r).sum:=by induction r generalizing a with|nil=>rfl|cons b r c=>exact congrArg ((a:Int)+·)<|c b
theorem Qm(t):(prs (λ_ _=>(0:Int)) t).sum=0:=by induction t with|nil=>rfl|cons a t c=>cases t with|nil=>rfl|cons b t=>exact(eb _).trans c
theorem TG(a:(de l).Nodup)(m:p∈l):mw l p.1=p.2:=by
 induction l with|nil=>exact absurd m b_|cons q l b=>
  rw[kd,bV] at a;unfold mw;rw[jr];refine eQ m ?_ λm=>?_;.rw[if_pos rfl];rfl
  .rw[if_neg λe:q.1=p.1=>a.1<|e▸am.mpr ⟨p,m,rfl⟩];exact b a.2 m
theorem Jn(r a):0<=Jh r a/\(r∈a->0<Jh r a):=by have h:=Jm (l:=a.map λr=>(r,1)) (r:=r) λp m=>g7 m λ_ _=>Int.one_pos;rw[Ji] at h;exact⟨h.1,λm=>h.2<|am.mpr ⟨(r,1),am.mpr ⟨r,m,rfl⟩,rfl⟩⟩
theorem Qn(mr:r∈cM words way)(l:List<|List Nat):0<=(l.map λway=>Jh r<|cM words way).sum/\(way∈l->0<(l.map λway=>Jh r<|cM words way).sum):=by induction l with|nil=>exact⟨kG 0,λm=>absurd m b_⟩|cons x l ih=>have h:=(Jn r<|cM words x).1;exact⟨zL h ih.1,λm=>eQ (motive:=λy=>way=y->_) m (λe=>yO ((Jn r _).2<|e▸mr) ih.1) (λm _=>Int.add_pos_of_nonneg_of_pos h<|ih.2 m) rfl⟩
section
variable (S:Setup words w k low high)
include S
noncomputable abbrev v5(words:List bC)(w:Int)(k:Nat)(low high:List Nat):List<|List<|List sx:=(ou<|eH low high k).map λc=>lu words w high c.tag c.i c.j
theorem ó:low.getD 0 0=high.getD 0 0:=by rw[show low.getD 0 0=0 from S.bd.lo.hd,show high.getD 0 0=0 from S.bd.hi.hd]
theorem Jo:v5 words w k low high=(QV<|eH low high k).map λp=>(ku words w low p).map<|prs<|Jk words w:=by unfold v5 ou;rw[aE];apply aI;intro p m;exact TC S (jq S) (ó S) p m
theorem qX(a):(cr (iV words) w).length=pk ((QV<|eH low high k).map λp=>((ku words w low p).length,nU a (ku words w low p)))/\nU a (cr (iV words) w)=Li (cr (iV words) w).length ((QV<|eH low high k).map λp=>((ku words w low p).length,nU a (ku words w low p))):=by haveI h:=zr S a (jq S)<|ó S;rw[show low.getD 0 0=0 from S.bd.lo.hd,f7,<-S.ways] at h;refine⟨h.1,?_⟩;rw[h.1];exact h.2
theorem qY:iY (v5 words w k low high)=(cr (iV words) w).length:=by rw[Jo S];unfold iY;rw[Ht λ_=>0,wJ,aE,(qX S λ_ _=>0).1];congr 2;apply aI;intro p _;show((k0 _ _).length,0)=(_,nU _ _);rw[af];congr 1;refine(?_:∀b,(0:Int)=nU (λ_ _=>0) b) _;intro b;induction b with|nil=>rfl|cons t b a=>exact((congrArg (·+nU _ b)<|Qm t).trans<|(eb _).trans a.symm).symm
theorem Hu(c):((v5 words w k low high).map λp=>((cr (iV words) w).length:Int).fdiv p.length*(p.flatten.map c).sum).sum=nU (λa b=>c<|Jk words w a b) (cr (iV words) w):=by rw[(qX S λa b=>c<|Jk words w a b).2,Jo S];unfold Li;rw[aE,aE];congr 1;apply aI;intro p _;show Int.fdiv _ ((k0 _ _).length)*_=_;rw[af,Qk];rfl
theorem tA:0<(cr (iV words) w).length:=by rw[S.ways];exact k_<|lW.mpr S.bd.lo
theorem Qo(m:p∈v5 words w k low high):0<((cr (iV words) w).length:Int).fdiv p.length:=by
 rw[Jo S] at m;refine g7 m λq a=>?_;rw[af,tz];haveI d:(ku words w low q).length∣(cr (iV words) w).length:=by rw[(qX S λ_ _=>0).1];exact yr<|am.mpr ⟨q,a,rfl⟩
 (haveI b:=((jq S).mem q a).2.1;haveI c:=((jq S).mem q a).2.2);haveI:=Nat.div_pos (VS (tA S) d)<|wH S (lP b) c;exact CQ this
noncomputable def YC(words:List bC)(w:Int)(k:Nat)(low high:List Nat):List<|bC×Int:=(v5 words w k low high).flatMap λp=>p.flatten.map λx=>(x.row,(iY<|v5 words w k low high).fdiv p.length)
noncomputable def eP(words:List bC)(w:Int)(k:Nat)(low high:List Nat):List<|bC×Int:=(YC words w k low high).foldl tu []
theorem X7:∀p∈YC words w k low high,0<p.2:=λp m=>by refine aU (iu.mp m) λq a m=>g7 m λx _=>?_;show 0<(iY<|v5 words w k low high).fdiv q.length;rw[qY S];exact Qo S a
variable (D:LS words) {T:Stat}(A:yq words w (cr (iV words) w) T)
include D A
theorem e_val(r:bC):mw (eP words w k low high) r=mw T.e r:=by rw[eP,(lG _ [] jk).2.1,YC,Lo,A.val,qY S,Hu S λx=>if x.row=r then(1:Int) else 0];refine(eb _).trans<|congrArg oJ<|aI λa m=>?_;rw[tn<|(gO S).mp m];exact congrArg oJ (Co (jM words) (λx=>if x=r then(1:Int) else 0) a).symm
omit S D in theorem aeS(m:r∈de T.e):0<mw T.e r:=by refine aU (A.mem r m) λc b a=>?_;rw[A.val];exact(Qn a _).2 b
theorem e_keys(r):r∈de (eP words w k low high)↔r∈de T.e:=by
 have a:=e_val S D A r;have f:=lG (YC words w k low high) [] jk;refine⟨λm=>je λq=>?_,λm=>je λq=>?_⟩;.have z:=(Jm<|X7 S).2<|((f.2.2 r).mp m).resolve_left b_;have e:mw (eP words w k low high) r=0+FI (YC words w k low high) r:=f.2.1 r;rw[a,uC q,eb] at e;exact CC 0<|e.symm▸z
 .exact CC 0<|a.symm.trans (uC q)▸aeS A m
theorem Qp:IK T<|xy words w (ou<|eH low high k) high:=by
 have h:=Ln (iY<|v5 words w k low high) (v5 words w k low high) (0,0,[]);refine⟨A.a.trans (qY S).symm,?_,?_,?_,?_,λp m=>?_⟩;.show _=iY (v5 words w k low high)*(high.length-1);rw[A.b,qY S,S.bd.hi.len,<-AI];refine congrArg oJ<|aI λe m=>?_;rw[i0<|(gO S).mp m,af,aO];exact acQ
 .refine vr ?_ (h.1.trans<|eb _).symm;rw[qY S,Hu S λx=>x.room*x.room,A.c];refine congrArg oJ<|aI λe m=>?_;rw[tn<|(gO S).mp m,Co];refine congrArg oJ<|congrArg (prs · e)<|funext λa=>funext λb=>?_;exact(Ys ..).trans<|by rw[Ys,Int.pow_zero,wJ];rfl
 .refine vr ?_ (h.2.1.trans<|eb _).symm;rw[qY S,Hu S λx=>x.fin,A.d];refine congrArg oJ<|aI λe m=>?_;have T:=(gO S).mp m;cases e with|nil=>exact kC T.len|cons a r=>rw[Ql,show a=0 from T.hd];exact eb _
 .refine vr ?_ (congrArg mm h.2.2).symm;have f:=A.nd.length_le_of_subset λr=>(e_keys S D A r).mpr;have g:=(lG (YC words w k low high) [] jk).1.length_le_of_subset λr=>(e_keys S D A r).mp;rw[af,af] at f g;exact bA f g
 .refine(congrArg (jo · p.1) h.2.2).trans ?_;show jo (eP words w k low high) p.1=_;rw[yo<|(e_keys S D A p.1).mpr<|am.mpr ⟨p,m,rfl⟩,e_val S D A,TG A.nd m]
omit A in theorem TH(T)(A:yq words w (cr (iV words) w) T):IK T<|xy words w (ou<|eH low high k) high:=Qp S D A
end
theorem yt(a:List Nat)(i):(a.map cS).getD i 0=((a.getD i 0:Nat)):=by rw[ak,aq,ak];cases a[i]?<;>rfl
theorem Lp(a b q):uy a b q=uy b a q:=by skip;exact bne_comm
theorem E8(c a b):lF c a b=lF c b a:=by unfold lF;rw[show uy a b=uy b a from funext (Lp a b)]
theorem E9(p c a b):lF (p::c) a b=if uy a b p then p.2 else lF c a b:=by unfold lF;rw[iq];split<;>rfl
theorem Cy(c a b)(h:∀p∈c,b.getD p.1.toNat 0<=a.getD p.1.toNat 0):sT c (a.map cS) (b.map cS)=lF c a b/\sT c (b.map cS) (a.map cS)=-lF c a b:=by
 induction c with|nil=>exact⟨rfl,rfl⟩|cons p c j=>
  obtain⟨i,d⟩:=p;have f:=j λp m=>h p<|.tail _ m;have e:b.getD i.toNat 0<=a.getD i.toNat 0:=h _<|.head _;show(if _<_ then-d else if _<_ then d else sT c _ _)=_/\(if _<_ then-d else if _<_ then d else sT c _ _)=_;rw[E9,f.1,f.2,yt,yt,if_neg<|dv.mpr<|bj.mpr e,if_neg<|dv.mpr<|bj.mpr e];by_cases q:b.getD i.toNat 0=a.getD i.toNat 0;.have g:¬((b.getD i.toNat 0:Nat))<((a.getD i.toNat 0:Nat):Int):=q▸CC _;rw[show uy a b (i,d)=false from bne_eq_false_iff_eq.mpr (congrArg zt q.symm),if_neg g,if_neg g];exact⟨rfl,rfl⟩
  .have g:=(Int.lt_or_eq_of_le<|dv.mp<|dv.mpr<|bj.mpr e).resolve_right λe=>q<|ml.mp e;rw[show uy a b (i,d)=aj from bne_iff_ne.mpr (acR q),if_pos g,if_pos g];exact⟨rfl,rfl⟩
theorem X8(a n):∀p∈SS a n,0<=p.1/\p.1<((n+1:Nat))/\p.1.toNat<=n:=λp m=>by refine aU (am.mp m) λj b c=>?_;subst c;unfold SS at m;haveI b:=aR.mp b;haveI:=jh (cellAt a 12+j)<|HT b;unfold SR;skip;exact acT this
theorem Qq(l:List α)(a:b<=l.length):lK l ah (ae b) ah=l.take b:=by haveI:=wl l 0 b (au _) a;rw[gQ,f7] at this;rw[<-this];unfold lK;rw[po,po];simp only [CG];rw[show Fz l.length ((0:Nat))=0 by rw[clipAt_nat];exact acU]
section
variable (S:Setup words w k low high) (D:LS words) (hw:w<=12)
include S
theorem qq(m:way∈cr (iV words) w)(i):low.getD i 0<=way.getD i 0/\way.getD i 0<=high.getD i 0:=by
 have T:=(gO S).mp m;refine dy (dJ k i) (λq=>?_) λq=>?_
 .haveI z:∀l:List Nat,l.length=k+1->l.getD i 0=0:=λl h=>by rw[ak,FH<|acV q h];rfl
  rw[z _ T.len,z _ S.bd.lo.len,z _ S.bd.hi.len];exact acW
 .exact S.bd.le _ T i q
theorem Hv:low∈cr (iV words) w:=(gO S).mpr S.bd.lo
theorem wI:high∈cr (iV words) w:=(gO S).mpr S.bd.hi
theorem ahK(a)(m:way∈cr (iV words) w):sT a (high.map cS) (way.map cS)=lF a way high/\sT a (way.map cS) (high.map cS)=-lF a way high/\sT a (way.map cS) (low.map cS)=lF a way low/\sT a (low.map cS) (way.map cS)=-lF a way low:=by(haveI b:=(Cy a high way λp _=>(qq S m _).2).1;haveI c:=(Cy a high way λp _=>(qq S m _).2).2);(haveI d:=(Cy a way low λp _=>(qq S m _).1).1;haveI e:=(Cy a way low λp _=>(qq S m _).1).2);rw[E8 a way high];exact⟨b,c,d,e⟩
theorem AJ:((cr (iV words) w).getD 0 []).length=k+1:=by
 haveI a:=tA S;haveI:(cr (iV words) w).getD 0 []∈cr (iV words) w:=by rw[ak,ay a];exact Mm _
 exact((gO S).mp this).len
theorem Qr:IT (cr (iV words) w) low where
 len:=by rw[AJ S,S.bd.lo.len]
 at_:=λi _=>⟨am.mpr ⟨low,Hv S,rfl⟩,λa m=>(qq S m i).1⟩
theorem TI:O5 (cr (iV words) w) high where
 len:=by rw[AJ S,S.bd.hi.len]
 at_:=λi _=>⟨am.mpr ⟨high,wI S,rfl⟩,λa m=>(qq S m i).2⟩
include D in theorem E_:(cr (iV words) w).length<=1024:=by
 haveI a:=u_ (iV words) w<|(fL (iV words) w (iV words).length).getD 0 0;haveI b:∀l:List<|List Nat,l.length<=(l.map λu=>2^((iV words).length-fP u)).sum:=λl=>by induction l with|nil=>exact al _|cons x l f=>
   skip;haveI:0<2^((iV words).length-fP x):=eA<|by simp
   exact Ua f this
 have c:=b<|cr (iV words) w;have d:2^(iV words).length<=2^10:=rr (by decide)<|by rw[iZ];exact D.few
 haveI e:=a;exact acX c d e
include D hw in theorem yu(m:way∈cr (iV words) w):∀r∈cM words way,r.length<=100:=λr b=>by have T:=(gO S).mp m;rw[i0 T] at b;refine g7 b λj a=>?_;haveI a:=aR.mp a;haveI:=Cm D hw (T.step j a).1 (T.le (j+1)<|ki a) (T.step j a).2;exact(ab this<|ap rfl)
noncomputable def Cz(words:List bC):List Str:=(aL 11).flatMap λa=>(aL 11).map λb=>jM words a b
omit S in theorem Fa:(Cz words).length=121:=by simp[Cz];rfl
include D in theorem TJ(m:way∈cr (iV words) w):∀r∈cM words way,r∈Cz words:=λr c=>by have T:=(gO S).mp m;haveI b:=D.few;rw[i0 T] at c;refine g7 c λj a=>?_;have a:=aR.mp a;haveI d:=T.le j<|lP a;haveI e:=T.le (j+1)<|ki a;exact iu.mpr ⟨_,aR.mpr<|bY<|ab d b,am.mpr ⟨_,aR.mpr<|bY<|ab e b,rfl⟩⟩
include D in theorem Fb(a:(de e).Nodup)(h:∀r∈de e,∃way∈cr (iV words) w,r∈cM words way):e.length<=121:=by
 haveI:=a.length_le_of_subset λr m=>by refine aU (h r m) λway b=>TJ S D b r
 rwa[af,Fa] at this
include D in theorem TK(a:∀way∈l,way∈cr (iV words) w):(kb words w l).e.length<=121:=by
 have A:=Cv words w l λway m=>m0 S D<|(gO S).mp<|a way m;refine Fb S D A.nd λr m=>?_;rcases(A.mem r).mp m with q|⟨way,m,q⟩;.cases q
 .exact⟨way,a way m,q⟩
omit S in theorem uE(r)(h:a.Nodup):Jh r a=if r∈a then 1 else 0:=by
 induction a with|nil=>rfl|cons x a b=>
  rw[bV] at h;show(if x=r then(1:Int) else 0)+Jh r a=_;rw[b h.2];by_cases q:x=r;.rw[if_pos q,if_neg<|q▸h.1,if_pos<|q▸.head _];rfl
  .rw[if_neg q,eb];by_cases z:r∈a;.rw[if_pos z,if_pos<|.tail _ z]
   .rw[if_neg z,if_neg λm=>(bf.mp m).elim (λe=>q e.symm) z]
omit S in theorem Fc{α:Type}(f:α->Int){l:List α}(h:∀x∈l,f x=0\/f x=1):(l.map f).sum<=l.length/\((l.map f).sum=l.length->∀x∈l,f x=1):=by induction l with|nil=>exact⟨kG 0,λ_ x m=>absurd m b_⟩|cons y l c=>have a:=c λx m=>h x<|.tail _ m;have b:=h y<|.head _;rw[ax,cy,be];exact⟨acZ a.1 b,λe x m=>eQ m (ac0 a.1 b e)<|a.2 (ac1 a.1 b e) x⟩
include D in theorem Lq(T:Stat)(A:yq words w (cr (iV words) w) T)(i:Nat)(d:i<k):((jo T.e<|rowAt words low i).getD 0==((cr (iV words) w).length:Int))=jN low high k i:=by
 have f:∀a∈cr (iV words) w,(cM words a).Nodup:=λa m=>m0 S D<|(gO S).mp m;show(mw T.e (rowAt words low i)==_)=_;rw[A.val];haveI c:∀a∈cr (iV words) w,Jh (rowAt words low i) (cM words a)=0\/Jh (rowAt words low i) (cM words a)=1:=λa m=>by
  rw[uE _<|f a m];split;.exact .inr rfl
  .exact .inl rfl
 (haveI r:=(Fc (λa=>Jh (rowAt words low i)<|cM words a) c).1;haveI g:=(Fc (λa=>Jh (rowAt words low i)<|cM words a) c).2);rw[gj,beq_iff_eq,same_iff S.bd d];constructor
 .intro e;haveI b:=g e high<|wI S;rw[uE _<|f high<|wI S] at b;split at b;.rename_i m;rw[i0 S.bd.hi] at m;refine aU (am.mp m) λj p o=>(qU S D S.bd.lo S.bd.hi d (aR.mp p) o.symm).2
  .exact absurd b<|by decide
 ·(intro q;refine bu q λb n=>?_);rw[<-E6];congr 1;apply aI;intro a m;rw[uE _<|f a m,if_pos];haveI T:=(gO S).mp m;rw[i0 T];refine am.mpr ⟨i,aR.mpr d,?_⟩;haveI h:=qq S m i;haveI l:=qq S m<|i+1;show jM words _ _=jM words _ _;rw[show a.getD i 0=low.getD i 0 from MO b h,show a.getD (i+1) 0=low.getD (i+1) 0 from MO n l]
theorem Jp:(ou<|eH low high k).length<=k:=by unfold ou;rw[af];haveI:=(jq S).len;exact ac2 this
theorem X9:∀c∈ou (eH low high k),c.ok words high:=λc m=>by refine aU (am.mp m) λp f l=>?_;subst l;unfold ou at m;refine gR ((jq S).mem p f) λ_ e b=>?_;haveI d:(v4 (eH low high k) p).i=p.1:=rfl;haveI a:(v4 (eH low high k) p).j=p.2:=rfl;refine⟨UY e d a,by rw[S.bd.hi.len];exact ac3 b a,S.bd.hi.mono _ _ (UY e d a)<|AY b a,S.bd.hi.le _<|AY b a,λq g h=>S.bd.hi.mono _ _ (g)<|ac4 b a h⟩
include D hw in theorem Qs(t:0<=w):wu<|(ou<|eH low high k).map λc=>lu words w high c.tag c.i c.j:=by
 have s:=XQ S;haveI n:=D.few;haveI y:=Jp S;haveI A:=E_ S D;haveI a:=Jo S;unfold v5 at a;have v:=λp m=>by
  haveI B:(ku words w low p).length∣(cr (iV words) w).length:=by
   rw[(qX S λ_ _=>0).1];exact yr<|am.mpr ⟨p,m,rfl⟩
  haveI:=VS (tA S) B;exact(ab this A)
 have d:∀p∈QV (eH low high k),∀I∈ku words w low p,(prs (Jk words w) I).length<=10/\∀x∈prs (Jk words w) I,x.room.natAbs<2^40/\x.fin.natAbs<2^40:=λp m I l=>by
  refine gR ((jq S).mem p m) λ_ H u=>?_;have T:=lW.mp l;have z:=S.bd.lo.le p.2 u;rw[ot _ _ I T.len];refine⟨by rw[af,aO];exact(ab (cq ..)<|ab u<|ab s n),λx E=>?_⟩;refine g7 E λj h=>?_;have h:=aR.mp h;haveI b:=T.le (j+1)<|h;haveI r:=Cm D hw (T.step j h).1 (ac8 z b) (T.step j h).2;haveI F:(Jk words w (I.getD j 0)<|I.getD (j+1) 0).room=w-1-(jM words (I.getD j 0)<|I.getD (j+1) 0).length:=rfl;haveI G:(Jk words w (I.getD j 0)<|I.getD (j+1) 0).fin=(I.getD (j+1) 0):=rfl;skip;exact ac9 hw t n z b r
 haveI e:∀p∈(ou<|eH low high k).map (λc=>lu words w high c.tag c.i c.j),p.flatten.length<=10240:=λp m=>by
  rw[a] at m;refine g7 m λq g=>?_;haveI:=ql (ku words w low q) λI l=>(d q g I l).1;skip;haveI this:=this;haveI:=v q g;exact(ab (by assumption)<|cw 10 this)
 refine⟨by rw[af];exact(ab y<|ab s<|ab n<|by decide),?_,λp m=>?_,λp m=>?_⟩
 .haveI:=ql (f:=λp:List<|List sx=>p.flatten) ((ou<|eH low high k).map λc=>lu words w high c.tag c.i c.j) e;rw[af] at this;exact(ab this<|ab (cw 10240<|ab y<|ab s n)<|by decide)
 .rw[a] at m;refine g7 m λq g=>?_;rw[af];haveI:=v q g;exact(ab this<|ap rfl)
 .rw[a] at m;refine g7 m λq g=>λo C=>g7 C λI l=>(d q g I l).2
end
end
section
open PySem PySem.W PyProof.Rows Builtin.Str
section
variable (S:Setup words w k low high) (D:LS words) (hw:w<=12)
include S D
theorem Lr(d:a<b)(f:b<=words.length):∀c∈sg (jM words a b),c<128:=λc m=>by
 rw[yi] at m;have e:(seg words a b).map sg≠[]:=by simpa using Hg d f
 have h:=oY _ e;have g:c∈(((seg words a b).map sg).map λx=>[32]++x).flatten:=by rw[h];exact .tail _ m
 refine aU (List.mem_flatten.mp g) λy l i=>aU (am.mp l) λx j o=>?_;subst o;refine aU (am.mp j) λz n p=>?_;subst p;rcases bO.mp i with q|q;.rw[ao] at q;subst q;decide
 .exact(sm D (Ja D n) c q).2
theorem Hw(m:x∈fz w words.reverse):∀c∈sg x,c<128:=λc d=>by
 refine cc (mV m) λj g=>cc g λa h=>?_;subst h;have b:j<k:=by rwa[oq S] at a
 rw[Cn D S b a] at d;rcases bf.mp d with q|q;.subst q;decide
 .refine bu (lY S<|uS b) λe f=>Lr S D e f c<|vF.mp q
theorem CA(a)(e:∀x∈fz w words.reverse,x.length<=a):∀c∈sg (tj a<|fz w words.reverse),c<128:=λc m=>by
 rw[yn] at m;refine aU (List.mem_flatten.mp m) λy f b=>aU (am.mp f) λx d g=>?_;subst g;rw[(Hn<|e x d).1] at b;rcases bO.mp b with q|q;.exact Hw S D d c q
 .have:=(List.mem_replicate.mp q).2;exact adg this
end
theorem Fd(x v):(lT x v).length=x.length:=by rw[<-gK,qo,<-gK];unfold m_;rw[af,aO]
theorem Ls:yd:=λb hc=>by
 have g:=XN b;have t:5<=ic b/\ic b<=12:=by have:=jh (cellAt b 10) (m:=8)<|dN tt;unfold ic;exact adh this
 refine Rd (setup (fg b)<|ic b) λk f c S=>?_;have B:=t.2;refine mG (K_ g) λw' k' t1 t2 t3 t4=>?_;have w:=XQ S;have s:=g.few;have G:=wF S;have u:=E3 S;refine gR (foldl_max ((fz (ic b) (fg b).reverse).map (·.length)) 1) λr1 r2 r3=>?_;have h:=Ti g S B;have hr:=λx m=>r3 _<|am.mpr ⟨x,m,rfl⟩;refine bu (back_eq g S (ti<|fz (ic b) (fg b).reverse) hr r2) λH b2=>ix (PU S g 0 0 (aF<|cB<|oZ 0)<|aF<|cB<|oZ 0) λI o1 o2 o3=>bu (jh (1+(cellAt b 11).fdiv 8) (m:=3)<|dN tt) λz1 z2=>bu (jh (1+(cellAt b 11).fdiv 24) (m:=3)<|dN tt) λy1 y2=>?_;have ea:=jP z1;have ed:=jP y1;generalize ((1+(cellAt b 11).fdiv 8).fmod 3).toNat=a at*;generalize ((1+(cellAt b 11).fdiv 24).fmod 3).toNat=d at*;refine ix (PU S g a d (cg z2)<|cg y2) λL q1 q2 q3=>?_;have y:=E2 S;rw[f7,gQ,gz<|aH u] at o1;rw[f7] at o3;have o4:ta I=nL (eH f c k) 0 k:=by
  have:=Tn<|eH f c k;rw[y] at this;rw[o3,this];rfl
 have o5:ta I=(ou<|eH f c k).map Cd.QU:=by
  have:=Lc<|eH f c k;rw[y] at this;rw[o4,this]
 refine bu (Tt (fg b) (ic b) (cr (iV<|fg b)<|ic b) λj m=>m0 S g<|(gO S).mp m) λA0 o=>?_;have hN:=E_ S g;have z:lK (cM (fg b) c) ah (ae ((k-d:Nat):Int)) ah=(cM (fg b) c).take (k-d):=Qq _<|adi u;let D:PD:=⟨b,f,c,w',k',ti<|fz (ic b) (fg b).reverse,k,I,ou<|eH f c k,L⟩;have M:D.TV=(fg b).reverse:=t3;have F:D.lines=fz (ic b) (fg b).reverse:=congrArg (fz<|ic b) M;have E:D.joined=tj (ti<|fz (ic b) (fg b).reverse) (fz (ic b) (fg b).reverse):=congrArg (tj _) F;have R:D.EM=lT (tj (ti<|fz (ic b) (fg b).reverse)<|fz (ic b) (fg b).reverse) (ti<|fz (ic b) (fg b).reverse):=congrArg (lT · _) E;have Q:D.ahead=(a:Int):=ea.symm;have A:yq (fg b) (ic b) (cr (iV<|fg b)<|ic b) D.tot:=A0;have v:D.tot.e.map (·.1)=D.SU:=o;have P:D.codes=(ou<|eH f c k).map Cd.QU:=o5;have W:D.Vr=((k-d:Nat):Int):=by show(if((cM (fg b) f).length:Int)-_>0 then((cM (fg b) f).length:Int)-_ else 0)=_;rw[G,<-ed];split<;>omega
 have e2:D.G4=lK (cM (fg b) f) (ae (a:Int)) ah none:=congrArg (λx=>lK _ (ae x) ah ah) Q;have N:D.Cc=(cM (fg b) c).take (k-d):=(congrArg (λx=>lK _ ah (ae x) ah) W).trans z;refine⟨D,rfl,.mk hc (λx m=>by have:=g.good m;exact⟨this.1,ab this.2.1<|dN tt,this.2.2⟩) (ab s<|ap rfl) (⟨cJ (by decide) t.1,cJ t.2<|by decide⟩) (λq=>f5 0<|eB (tA S)<|congrArg mm q) (ab hN<|ap rfl) (by have:=S.bd.lo.len;exact adm w s this) (by rw[S.bd.lo.len,S.bd.hi.len]) (λj m=>by rw[((gO S).mp m).len,S.bd.lo.len]) (Qr S) (TI S) (λj=>yu S g B) (yu S g B<|Hv S) (yu S g B<|wI S) (front_eq S) (PN<|K9 g) t1 t2 (by have:=Jc g;exact(ab this<|ap rfl)) (by have:=Th<|lT (rh<|fg b) w';exact(ab this<|ab (aK t4)<|by decide)) (ab t4<|ap rfl) (by rw[M,dj];exact(ab s<|ap rfl)) (λx m=>by rw[M] at m;have:=g.good<|vF.mp m;exact⟨this.1,ab this.2.1<|dN tt,this.2.2⟩) (by rw[F,oq S];exact(ab w<|ab s<|ap rfl)) (by rw[F];exact r1) (λx m=>by
   rw[F] at m;rcases bf.mp m with q|q;.subst q;exact r2
   .exact r3 x q) (ab h<|ap rfl) (by rw[E];exact PN<|CA S g _ hr) (by rw[E];exact H) (by
   rw[E,H];have:k*ti (fz (ic b) (fg b).reverse)<=10*13:=Nat.mul_le_mul (ab w<|ab s<|ap rfl) h;exact(ab this<|ap rfl)) (by rw[R,Fd,H]) (by unfold PD.back;rw[R];exact b2) (XR g S _) (XS g S) (m0 S g S.bd.hi) ((congrArg (λn:Nat=>kU (zh (cM (fg b) f)<|cM (fg b) c) (n:Int)) u).trans o1) o2 o5 (by have:=Jp S;exact adw w s this) (λC _=>by unfold PD.changes;rw[P];exact XX S _ _) (λl u=>by have:=TK S g u;exact(ab this<|ap rfl)) (λj m=>by
   show(EJ<|cM (fg b) j).length<=_;rw[E5<|m0 S g<|(gO S).mp m,af,i0<|(gO S).mp m,af,aO];exact(ab w<|ab s<|ap rfl)) (by have:=Fb S g A.nd A.mem;exact(ab this<|ap rfl)) (X9 S) (Qs S g B<|cJ (by decide) t.1) (TH S g D.tot A) v (λr m=>⟨_,yo<|A.mem' f (Hv S) r m⟩) (by rw[P];exact Le S _ λi=>Lq S g D.tot A i) (by rw[e2,N,xg,bh,u,show min (k-d) k=k-d from adB];exact q1) q2 (by unfold PD.left PD.same;rw[Q,W,show D.old.length=k from G,q3];show _=nL (O_ (eH f c k) a ((k-d:Nat):Int)) _ _;rw[Lb]) (by unfold PD.same;rw[show D.old.length=k from G];exact o4) (λp m=>by unfold PD.sel at m;rw[show D.old.length=k from G] at m;have:=X8 b k p m;rw[S.bd.lo.len];exact⟨this.1,this.2.1⟩) (λj=>ahK S _) (N▸(m0 S g S.bd.hi).sublist (List.take_sublist _ _))⟩
theorem wz_holds:PySem.Challenge.rw_wz0046_01.Holds:=za<|PB Ls
end
end
end Mine
theorem PySem.Challenge.cw_wz0046_01_holds : PySem.Challenge.rw_wz0046_01.Holds :=
 Mine.wz_holds
