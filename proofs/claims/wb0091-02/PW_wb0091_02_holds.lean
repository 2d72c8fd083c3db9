import PyProof.Rows.All
import Wide.All
import OpenK.AllK
import Wide.FinOn
import KE.KEqDict
import KE.KIntText
import KE.KDictList
import KE.KSuperObj
import KE.KLam
import Lean
import PySem.Challenge.RW_wb0091_02
set_option maxRecDepth 1000000
set_option Elab.async false
set_option genSizeOf false
set_option genInjectivity false
set_option genCtorIdx false
set_option tactic.hygienic false
set_option backward.match.sparseCases false
set_option linter.all false
set_option linter.unusedVariables false
open PySem.Str renaming ofString->aa,ext'->se,cps_append->sf,empty->xU,join->Bu
open Option.some renaming inj->ab
open PySem renaming wpAny_bind->ae,wpAny_mono->ao,wpAny_pure->au,Expr->ay,wpAny->aD,model->aI,Shared->aN,wpAny_holding->bf,Value->bq,Addr->bz,Str->bD,mainGlobals->bN,Around->bU,builtinsNs->cx,wpAny_standAt->cD,wpAny_items_cons->dQ,letOwnedTupleGo->dS,wpAny_items_nil->eP,sizeLine->fj,wpAny_loadPart_at->fY,bindArgs->gr,typeLookup->gN,eval->gW,wpAny_call_entry->h_,wpAny_Constant_str->ib,Builtin->ic,seg_bind_wrap->ig,codeAny_mono->ij,codeAny->ik,wpAny_callSpecial?_slot->iM,Operator->iT,wpAny_execs_cons->je,builtinLookup_eq_fast->jm,seqIndex?->jt,wpAny_of_eq->jD,wpAny_newObj_type->jE,getMethod_builtin->jF,foldedSetIterable->jG,Scope->jH,Program->jT,pyIter->kf,cellsFrom->kh,typeIs_str->kR,Heap->kT,wpAny_specialOf->lj,starEach->lq,FuncData->lu,swapsWith->lF,wpAny_typeLookup_exc->mB,sizeLine_eq->mC,keywordEach->mD,Spec->mE,entryFor_of_tree->m_,strKind->nN,Comprehension->nP,typeLookup_type->nX,wpAny_rule->oi,wpAny_load->oj,wpAny_call->ol,sysModules->om,Stmt->oq,World->oK,wpAny_truthy_bool->pa,seg_execs_cons->pd,Env->pB,fastLookup->pR,wpAny_attempt->p_,wpAny_letTemporaryGo->qr,wpAny_field->qs,keeperOf->qt,typeIs_float->rn,pushCells->rD,wpAny_setField_rec->rZ,closureFor->sd,wpAny_pyIter_list->te,wpAny_release->tE,wpAny_unpackItems_tuple->ug,wpAny_list_append_plain->uh,wpAny_isInstance->ui,evalEach->uj,entryFor->uk,compareOp->ul,NameKind->um,wpAny_pyNext_list_item->vf,call_type_of->vg,call_meetsIn->vj,call_gives->vk,assignEach->vl,argBest->vm,Keyword->vn,wpAny_operating->vI,wpAny_pyNext_list_end->vO,slicePicked->wW,nsSet->wX,newFunctionEnv->wY,isSubtype_stop->wZ,interactive->w_,intText?->w',backToKw->xb,Const->xf,holding->xT,list_getitem_lookup->ya,wpAny_onRaise->yC,swappedStores->yD,wpAny_pyIter_tuple->zr,call_meets->zt,call_enumerate_str->zu,wpAny_typeOf->Bl,wpAny_pyIter_slot->Bm,wpAny_pyIter_enum->Bn,wpAny_mkText->Bo,wpAny_Assign_Name->Bp,slot_list_setitem->Bq,richCompare_gives->Bs,wpAny_pyIter_gen->CQ,wpAny_eqBool_str->CR,wpAny_askSetting->CS,seqItems?->CT,wpAny_mkInt->DQ,wpAny_alloc->DR,unpackItems->DS,sliceBounds->DT,wpAny_execs_nil->Eg,theTreesLotGoes->Eh,pushCells_keeps->Ei,codeAny_of_tree->Ej,standAt->EM,wpAny_seqItems->Ht,wpAny_loadPart->Hu,wpAny_layCells->Hv,wpAny_bindName->Hw,wpAny_Name->Hx,wpAny_Expr_any->Hy,typeIs_int->Hz,methodCallForm->HA,markedEach->HB,entryFor_alias->HC,constantsAlone->HD,wpAny_mkFloat->Ir,wpAny_handled->It,wpAny_UnaryOp->Iu,slot_gen_next->Iv,size_glued->Iw,methodCallPos->Iy,intBits_le_64->Iz,foldedForSure->IA,comprehension->IB,UnaryOp->ID,codeAmong->Kj,TriplesOk->Kl,Arg->Kn,relabel->My,plainIs->Mz,BoolOp->MB,setField->Qo,compPost->Qp,GenState->Qt,getItem->Vt,OsState->Vu
open Nat renaming le_trans->ag,le_refl->ai,lt_of_lt_of_le->av,le_succ->aQ,mul_le_mul_left->aX,le_add_right->ba,ne_of_lt->bj,eq_of_beq_eq_true->bC,lt_irrefl->bG,add_le_add_left->bJ,not_lt->bL,lt_of_le_of_lt->bP,ne_of_gt->bZ,lt_succ_self->cH,mul_le_mul_right->cP,le_add_left->cR,add_le_add->cX,le_succ_of_le->dg,sub_self->dw,lt_succ_of_le->dA,beq->dB,succ_le_succ->dF,zero_add->dJ,le_of_ble_eq_true->dN,lt_succ_of_lt->dO,le_of_eq->dW,zero_le->dY,add_sub_cancel_left->ed,add_assoc->ej,le_of_lt_succ->eF,le_of_lt->eG,sub_le->eL,mul_le_mul->eS,mul_comm->fa,min_le_left->fq,min_le_right->fx,mul_lt_mul_of_pos_right->fH,add_comm->fJ,lt_add_of_pos_right->fL,add_le_add_right->fP,le_mul_of_pos_left->fV,succ_pos->gP,two_pow_pos->gY,min_eq_left->gZ,lt_trans->il,mul_pos->iw,add_mul->ix,le_of_succ_le->iN,add_lt_add_left->iU,mod_lt->jj,lt_of_succ_lt->jK,add_left_cancel->jU,succ_lt_succ->ki,sub_le_iff_le_add'->kU,mul_assoc->lG,mul_left_comm->lV,pow_le_pow_right->mF,mul_mul_mul_comm->mG,lt_of_mul_lt_mul_right->mH,le_antisymm->nY,add_right_comm->ou,one_mul->oL,succ_mul->pg,succ_add->pj,le_of_succ_le_succ->pk,succ_ne_zero->pS,blt->qc,add_lt_add_right->qw,not_lt_zero->qM,div_le_self->qN,le_of_mul_le_mul_left->sr,eq_of_mul_eq_mul_left->su,add_mul_mod_self_left->sv,ble->tm,exists_eq_add_of_le'->tK,not_le->vy,lt_of_succ_lt_succ->vz,beq_refl->vA,le_max_left->vK,sub_eq_zero_of_le->vT,mul_add->xj,div_lt_of_lt_mul->xk,lt_or_eq_of_le->zD,zero_mul->Bz,succ->BA,lt_trichotomy->BB,compare_eq_lt->BC,compare_eq_gt->BD,compare_eq_eq->BE,zero_lt_succ->CX,succ_ne_self->CY,min_eq_right->CZ,le_max_right->C_,max_le->HL,lt_one_iff->HM,mul_succ->MK,min_self->ML,le_total->MM,two_mul->QC,pow_add->QD,one_pos->QE,mul_sub->QF,mul_one->QG,mod_le->TM,le_min->TN
open List renaming getElem?_eq_some_iff->aj,length_append->ax,mem_cons_self->az,mem_cons_of_mem->aB,length_map->aC,mem_cons->aE,getElem?_eq_getElem->aF,append_assoc->aM,getElem?_set_ne->aS,all_eq_true->aV,range->bc,getElem?_append_right->be,mem_of_getElem?->bh,mem_singleton->bl,range'->bp,mem_append->bt,length_set->bH,getElem?_set_self->bI,append_nil->bK,mem_map->bO,length_cons->bS,length_singleton->b_,lookup_cons->cg,getElem?_append_left->cj,getElem?_map->dh,mem_append_right->dz,getD_eq_getElem?_getD->dD,mem_append_left->dG,set_set->eu,length_range'->eM,getElem?_eq_none->eN,lookup_eq_some_iff->eT,set_append_left->eZ,set_append_right->fB,map_map->fW,map_cons->gC,take_of_length_le->gQ,flatMap_cons->gR,take_append_of_le_length->iy,replicate->iz,range_eq_range'->iA,mem_or_eq_of_mem_set->js,forIn_cons->ju,length_range->jL,getElem_range'->jV,take_length->kj,take_left->kl,length_eq_zero_iff->km,getElem_mem->ko,drop_append_of_le_length->kC,nodup_cons->ly,all_cons->lH,mem_iff_getElem?->lR,reverse_cons->lW,mem_range->mJ,map_fst_zip->ni,length_take->nj,mem_map_of_mem->nB,map_eq_nil_iff->nC,mem_filter->nZ,getElem?_toArray->pD,not_mem_nil->pT,map_flatMap->pU,map_eq_cons_iff->qx,mem_zipIdx_iff_getElem?->qO,map_append->qP,map_congr_left->qU,flatMap_append->qV,map_set->rr,getElem_range->sh,getElem?_zip_eq_some->sy,drop_eq_getElem_cons->sD,mem_range'_1->tn,lookup->tq,any_eq_false->tr,set_comm->tL,length_drop->uu,flatMap_map->uv,length_nil->vL,length_filter_le->vU,contains_iff_mem->vV,length_reverse->yf,getElem_of_mem->yg,eraseDups_cons->yh,length_zipIdx->zF,foldl_toArray->zG,size_toArray->BF,casesOn->BG,range'_succ->C',mem_reverse->Dc,mem_flatMap->Dd,isEmpty_iff->De,getElem_map->Df,flatMap_nil->Dg,filter_cons->Dh,ext_getElem->Di,drop_length->Dj,length->DW,length_zip->Em,find?_cons->En,forIn_nil->HN,drop_zero->HO,drop_left->HP,drop_drop->HQ,sum_cons->IS,any_map->MN,map->QH,drop->Zb
open Bool renaming and_eq_true_iff->aq,and_eq_true->cW,false_ne_true->dR,eq_iff_iff->fR,not_eq_true'->gT,or_eq_true_iff->gV,or_eq_false_iff->iB,or_eq_true->jv,false_eq_true->zV,not_not->BK,true_and->IU
open False renaming elim->ar
open PySem.Heap renaming get?_push_size->aT,lt_size->aU,get?_push_of_some->bu,size_push->dv,dictOf_iff->iO,SameBut->jI,get?_update_self->lQ,ExtBut->qu,get?_update_ne->yd,size_update->CU,nsMap->TB
open PySem.Expr renaming casesOn->aY,Name->Za,Call->Zc
open PySem.Float64 renaming sub->cq,mul->cC,ofInt->dn,cmpInt->eg,isInf->eX,isZero->fo,add->gu,div->iu,cmp->iv,decode->ji,nearestOf->tl,truncOf->vJ,ofFrac->xd,divmod->HG
open Int renaming fmod_eq_emod_of_nonneg->cy,natCast_nonneg->cQ,natAbs_mul->dE,eq_ofNat_of_zero_le->ey,ofNat_lt->eH,add_sub_cancel->fQ,sub_add_cancel->gk,le_trans->gS,le_of_lt->iY,add_comm->iZ,ofNat_ne_zero->jM,lt_of_le_of_lt->kV,fmod_nonneg_of_pos->kW,fdiv_eq_ediv_of_nonneg->mM,fmod_lt_of_pos->ow,lt_trans->pn,mul_le_mul_of_nonneg_right->pV,ofNat_le->rt,ofNat_natAbs_of_nonpos->si,natAbs_neg->sj,natAbs_natCast->sk,le_add_of_nonneg_left->sE,sub_mul->xl,natAbs_of_nonneg->xm,toNat_of_nonneg->yi,ofNat_sub->yH,ofNat_inj->yI,sub_eq_add_neg->zH,lt_of_lt_of_le->zN,emod_lt_of_pos->zO,le_of_eq->BH,natCast_add->Eo,emod_nonneg->Ep,not_lt->HR,add_assoc->IT,zero_add->MP,ne_of_gt->MQ,add_zero->MR,neg_sub->QI,neg_neg->QJ,mul_one->QK,not_le->TO
open PySem.Value renaming casesOn->cK,ref->nf,none->oo,isStrOf_shape->yb,type->zv,isStrOf->IC,str->Kk,int->Y_
open List.cons renaming inj->di
open PySem.NameKind renaming free->dH,casesOn->e_,cell->jb
open PySem.Builtin.Str renaming tooLong->dT,occurrences->d_,glued->pe
open Option renaming map_eq_some_iff->eE,isSome_iff_exists->fw,bind_some->ng,some->DU,map->HK,none->QB
open ForInStep renaming yield->fv
open PySem.Flow renaming casesOn->gj
open PySem.Operator renaming casesOn->gO
open Array renaming getElem?_toList->hV,getD_eq_getD_getElem?->i_,length_toList->jW,eq_empty_of_size_eq_zero->ku,getElem?_eq_some_iff->mP,toList_inj->nq,getElem?_eq_getElem->nv,empty_append->ox,getElem?_eq_none->vB
open PySem.Challenge renaming rw_wb0091_02->iP,pw_wb0091_02->qL
open PySem.BoolOp renaming casesOn->jJ
open PySem.Unicode renaming lowerAt->ls,isDigit->Ek
open PySem.UnaryOp renaming casesOn->lP
open Nat.succ renaming inj->nh
open PySem.Builtin.Int renaming intBits->nA
open PySem.F renaming slot_dict_itemiterator_iter->nO,slot_str_replace->tF,slot_str_isdigit->tG,slot_str_getitem->tH,slot_dict_values->tI,slot_dict_items->uo,plainAttrs_list->uq,plainAttrs_dict->ur,slot_str_lower->vq,slot_str_index->vt,slot_str_count->vv,ks_slot_function_get->vx,slot_str_join->vQ,slot_list_pop->vR,slot_int_rmul->vS,objNew->xe,mro_object->Bx
open PySem.Data renaming casesOn->ot
open Except renaming casesOn->pq
open Ne renaming symm->qa
open PyProof.Rows renaming AllBare->rq,tail_any->xi,eq_fi->zz,getItem_tuple->HJ,floordiv_int->HT,truthy_none->II,sub_if_fits->IJ,sub_fi_fits->IK,mul_if_fits->IL,mul_fi_fits->IM,getItem_str->IP,add_if_fits->IQ,add_fi_fits->IR,sub_float->MC,notIn_str->MD,mul_float->MF,add_float->MH,mod_int'->MW,iadd_str->MX,sub_int->Qu,pow_int->Qv,mul_int->Qw,and_int->Qx,add_str->Qy,add_int->Qz,ne_str->QN,in_str->QO,eq_str->QP,lt_fi->TH,le_if->TJ,le_fi->TK,eq_if->TL
open Iff renaming rfl->ru
open PySem.Obj renaming mapSeq->sg
open PySem.Txt renaming replace->tf
open PySem.StrLaws renaming found_one->ti,placedRaw_le3->vP,lowerAt_le3->yc
open PySem.Sem renaming bind_eq_wrap'->tj,wrap_wrap->yF
open PySem.Builtin.Re renaming reRawOf->tJ
open PySem.GenState renaming casesOn->vp
open PySem.FuncBody renaming stmts->xc
open PySem.AutoFloatG5 renaming float___lt___float_float_0->xg
open PySem.AutoFloatG4 renaming float___gt___float_float_0->xh
open PySem.Heap.SameBut renaming update->ye,refl->Vv
open PySem.Value.ref renaming inj->yE
open Prod.mk renaming injEq->yG
open PySem.Stmt renaming casesOn->zw
open PySem.SeqAt.RcAt renaming lists_lengths->zx,lists->TA
open PySem.Code renaming quiet_builtin->zy
open PUnit renaming unit->zC
open PySem.AutoListH renaming list___mul___list_int_3->zX
open PySem.WalksT renaming enumerateD->Bt
open PySem.Sre.M renaming hasFirstSet->Bv,admitted->HE
open PySem.Heap.Ns1 renaming of_empty->Bw
open PySem.Builtin.SmallTypes renaming stopIteration->By
open Eq renaming trans->BJ
open PySem.AutoFloatOps renaming truediv_if_2->BL,truediv_fi_2->BM,truediv_1->El,lt_0->Vx,le_0->Vy,eq_0->Vz
open UInt64 renaming toNat_inj->CP
open Ordering renaming casesOn->CW
open PySem.Builtin.List renaming listSubscript?->EN,listFitsIndex->HH,listTooLong->IF
open PySem.MeetsSeq renaming list_pop_at->HF
open PySem.AutoIntOps renaming truediv_2->HI
open PySem.Builtin.Generator renaming genWake->HS
open PySem.Sre renaming forSearch->IE,M->agc
open PySem.AutoFloatOpsIf renaming mod->IG
open PySem.Builtin.Range renaming rangeSize->Km
open And renaming intro->Kq
open PySem.SeqAt.EqAt renaming of_refs->MA,same->Y'
open Or renaming imp->MJ,elim->VA
open Decidable renaming em->MU
open PySem.W.X renaming script_toks->MV,script_obj->Qr,script_at->QL
open PySem.W renaming kms_hi->Qq
open PySem.SC renaming replaceW->Qs
open Prod renaming fst->QA
open PySem.CmpOp renaming casesOn->QM
open PySem.Heap.IsSliceOf renaming new->TC
open PySem.GM renaming replace->TF
open PySem.Env renaming kindOf->TG
open PySem.Value.bool renaming inj->acW
open PySem.Value.str renaming inj->acX
open PySem.Value.int renaming inj->acY
open Int.ofNat renaming inj->acZ
noncomputable section
namespace Internal
open PySem
@[elab_as_elim] theorem af.{G5} {α:Sort G5} {a b:α} {motive:α->Prop} (h:a=b) (x:motive b):motive a:=h▸x
@[elab_as_elim] theorem eh.{G5} {α:Sort G5} {a b:α} {motive:α->Prop} (h:a=b) (x:motive a):motive b:=h▸x
@[elab_as_elim] theorem cO.{G5} {α:Type G5} {motive:Option α->Prop} (t:Option α) (none:motive none) (some:∀a,motive (DU a)):motive t:=Option.casesOn t none some
@[elab_as_elim] theorem cB {motive:Bool->Prop} (t:Bool) (false:motive false) (true:motive Bool.true):motive t:=Bool.casesOn t false true
@[elab_as_elim] theorem cL.{G5} {α:Type G5} {motive:List α->Prop} (t:List α) (nil:motive []) (cons:∀a l,motive (a::l)):motive t:=BG t nil cons
@[elab_as_elim] theorem cN {motive:Nat->Prop} (t:Nat) (zero:motive 0) (succ:∀n,motive (n+1)):motive t:=Nat.casesOn t zero succ
@[elab_as_elim] theorem ll.{G5,v} {α:Type G5} {β:Type v} {motive:List α->List β->Prop} (a:List α) (b:List β) (nn:motive [] []) (nc:∀b m,motive [] (b::m)) (cn:∀a l,motive (a::l) []) (cc:∀a l b m,motive l m->motive (a::l) (b::m)):motive a b:=by
 induction a generalizing b with
 |nil=>exact BG b nn nc
 |cons a l ih=>exact BG b (cn a l) λb m=>cc a l b m (ih m)
theorem WQ {α a:Type} {b:a} {m:List a} {K:Prop} (h:([]:List α).length=(b::m).length):K:=absurd h.symm (pS _)
theorem WO {α a:Type} {b:a} {m:List a} {K:Prop} (h:(b::m).length=([]:List α).length):K:=absurd h (pS _)
theorem aW {α:Type} {x:α} {K:Prop} (h:none=some x):K:=nomatch h
theorem bV {K:Prop} (h:false=true):K:=nomatch h
theorem bw {α:Type} {x:α} {K:Prop} (h:x∈([]:List α)):K:=nomatch h
theorem oE.{b} {α:Type b} {c:Prop} (o:Option α) (f:o=none->c) (g:∀a,o=some a->c):c:=Option.rec (motive:=λx=>o=x->c) f g o rfl
theorem agW.{b} {α:Type b} {c:Prop} (o:Option α) (g:∀a,o=some a->c) (f:o=none->c):c:=oE o f g
theorem bE {c:Prop} (b:Bool) (f:b=false->c) (g:b=true->c):c:=Bool.rec (motive:=λx=>b=x->c) f g b rfl
theorem Hb {c:Prop} (b:Bool) (g:b=true->c) (f:b=false->c):c:=bE b f g
theorem lE.{b} {α:Type b} {c:Prop} (l:List α) (f:l=[]->c) (g:∀a m,l=a::m->c):c:=List.rec (motive:=λx=>l=x->c) f (λa m _=>g a m) l rfl
theorem cps {G:Prop} (h:∀K:Prop,(G->K)->K):G:=h G id
theorem zT {a b c:Nat} (h:a<=b) (k:b<=c):a<=c:=ag h k
theorem zA {a b c:Nat} (h:a<b) (k:b<=c):a<c:=av h k
theorem zB {a b c:Nat} (h:a<=b) (k:b<c):a<c:=bP h k
theorem zL {a b:Nat} (h:a<b):a<=b:=eG h
theorem zE {a b:Nat} (h:a=b):a<=b:=dW h
theorem zR {a:Nat}:a<=a:=ai a
theorem zP {a b:Nat}:a<=a+b:=ba a b
theorem zQ {a b:Nat}:b<=a+b:=cR b a
theorem zS {a b c:Nat} (h:a<=b):a+c<=b+c:=fP h c
theorem zM {a b c d:Nat} (h:a<=b) (k:c<=d):a+c<=b+d:=cX h k
theorem zZ {a:Nat}:0<=a:=dY a
theorem zU {a:Nat}:a<a+1:=cH a
theorem zI {a b c:Nat} (h:a+(b+1)<=c):a+1+b<=c:=zT (zE (pj a b)) h
theorem zJ {a b c:Nat} (h:a+(b+1)=c):a+1+b=c:=(pj a b).trans h
theorem zK {a b c:Nat} (h:a+(b+1)=c):a<c:=h▸fL (gP b)
theorem zW {a c b:Nat}:a+c+c*b=a+c*(b+1):=by rw[MK,ej,fJ c]
def acE.{w} (a:Sort w) (f:a) (v:a) (b:Prop):Prop:=v=f/\b
@[elab_as_elim] theorem Es.{w} {β:Sort w} {f:β} {v:β} {p1:Prop} {M:β->Prop} (h:acE β f v p1) (k:p1->M (f)):M v:=have h:v=f/\p1:=h;(h.1).symm▸k h.2
def acD.{w} (a:Sort w) (f:a) (v:a) (b c:Prop):Prop:=v=f/\b/\c
@[elab_as_elim] theorem ac3.{w} {β:Sort w} {f:β} {v:β} {p1 p2:Prop} {M:β->Prop} (h:acD β f v p1 p2) (k:p1->p2->M (f)):M v:=have h:v=f/\p1/\p2:=h;(h.1).symm▸k h.2.1 h.2.2
def acC.{c,w} (a:Sort c) (b:Sort w) (f:a->b) (v:b):Prop:=∃d,v=f d
@[elab_as_elim] theorem bA.{u0,w} {lX:Sort u0} {β:Sort w} {f:lX->β} {v:β} {M:β->Prop} (h:acC lX β f v) (k:∀a0,M (f a0)):M v:=have h:∃a0,v=f a0:=h;h.elim λa0 h=>(h).symm▸k a0
def acu.{c,w} (a:Sort c) (b:Sort w) (f:a->b) (v:b):Prop:=∃d,f d=v
@[elab_as_elim] theorem TP.{u0,w} {lX:Sort u0} {β:Sort w} {f:lX->β} {v:β} {M:β->Prop} (h:acu lX β f v) (k:∀a0,M (f a0)):M v:=have h:∃a0,f a0=v:=h;h.elim λa0 h=>(h)▸k a0
def acB.{d,w} (a:Sort d) (b:Sort w) (f:a->b) (v:b) (e:a->Prop):Prop:=∃c,v=f c/\e c
@[elab_as_elim] theorem Er.{u0,w} {lX:Sort u0} {β:Sort w} {f:lX->β} {v:β} {p1:lX->Prop} {M:β->Prop} (h:acB lX β f v p1) (k:∀a0,p1 a0->M (f a0)):M v:=have h:∃a0,v=f a0/\p1 a0:=h;h.elim λa0 h=>(h.1).symm▸k a0 h.2
def acA.{d,w} (a:Sort d) (b:Sort w) (f:a->b) (v:b) (e:a->Prop):Prop:=∃c,e c/\v=f c
@[elab_as_elim] theorem xn.{u0,w} {lX:Sort u0} {β:Sort w} {f:lX->β} {v:β} {p0:lX->Prop} {M:β->Prop} (h:acA lX β f v p0) (k:∀a0,p0 a0->M (f a0)):M v:=have h:∃a0,p0 a0/\v=f a0:=h;h.elim λa0 h=>(h.2).symm▸k a0 h.1
def acs.{d,w} (a:Sort d) (b:Sort w) (f:a->b) (v:b) (e:a->Prop):Prop:=∃c,e c/\f c=v
@[elab_as_elim] theorem nQ.{u0,w} {lX:Sort u0} {β:Sort w} {f:lX->β} {v:β} {p0:lX->Prop} {M:β->Prop} (h:acs lX β f v p0) (k:∀a0,p0 a0->M (f a0)):M v:=have h:∃a0,p0 a0/\f a0=v:=h;h.elim λa0 h=>(h.2)▸k a0 h.1
def acz.{g,h,w} (a:Sort g) (b:Sort h) (c:Sort w) (f:a->b->c) (v:c) (i:a->b->Prop):Prop:=∃d e,i d e/\v=f d e
@[elab_as_elim] theorem Kt.{u0,u1,w} {lX:Sort u0} {vM:Sort u1} {β:Sort w} {f:lX->vM->β} {v:β} {p0:lX->vM->Prop} {M:β->Prop} (h:acz lX vM β f v p0) (k:∀a0 a1,p0 a0 a1->M (f a0 a1)):M v:=have h:∃a0 a1,p0 a0 a1/\v=f a0 a1:=h;h.elim λa0 h=>h.elim λa1 h=>(h.2).symm▸k a0 a1 h.1
def acy.{g,h,w} (a:Sort g) (b:Sort h) (e:Sort w) (f:a->b->e) (v:e) (i j:a->b->Prop):Prop:=∃c d,v=f c d/\i c d/\j c d
@[elab_as_elim] theorem sF.{u0,u1,w} {lX:Sort u0} {vM:Sort u1} {β:Sort w} {f:lX->vM->β} {v:β} {p1 p2:lX->vM->Prop} {M:β->Prop} (h:acy lX vM β f v p1 p2) (k:∀a0 a1,p1 a0 a1->p2 a0 a1->M (f a0 a1)):M v:=have h:∃a0 a1,v=f a0 a1/\p1 a0 a1/\p2 a0 a1:=h;h.elim λa0 h=>h.elim λa1 h=>(h.1).symm▸k a0 a1 h.2.1 h.2.2
def acx.{g,h,w} (a:Sort g) (b:Sort h) (e:Sort w) (f:a->b->e) (v:e) (i j:a->b->Prop):Prop:=∃c d,i c d/\j c d/\v=f c d
@[elab_as_elim] theorem Ks.{u0,u1,w} {lX:Sort u0} {vM:Sort u1} {β:Sort w} {f:lX->vM->β} {v:β} {p0 p1:lX->vM->Prop} {M:β->Prop} (h:acx lX vM β f v p0 p1) (k:∀a0 a1,p0 a0 a1->p1 a0 a1->M (f a0 a1)):M v:=have h:∃a0 a1,p0 a0 a1/\p1 a0 a1/\v=f a0 a1:=h;h.elim λa0 h=>h.elim λa1 h=>(h.2.2).symm▸k a0 a1 h.1 h.2.1
def acw.{e,g,h,w} (a:Sort e) (b:Sort g) (c:Sort h) (d:Sort w) (f:a->b->c->d) (v:d):Prop:=∃i j k,v=f i j k
@[elab_as_elim] theorem ac2.{u0,u1,u2,w} {lX:Sort u0} {vM:Sort u1} {VB:Sort u2} {β:Sort w} {f:lX->vM->VB->β} {v:β} {M:β->Prop} (h:acw lX vM VB β f v) (k:∀a0 a1 a2,M (f a0 a1 a2)):M v:=have h:∃a0 a1 a2,v=f a0 a1 a2:=h;h.elim λa0 h=>h.elim λa1 h=>h.elim λa2 h=>(h).symm▸k a0 a1 a2
def acv.{i,j,k,w} (a:Sort i) (b:Sort j) (c:Sort k) (h:Sort w) (f:a->b->c->h) (v:h) (l m n:a->b->c->Prop):Prop:=∃d e g,v=f d e g/\l d e g/\m d e g/\n d e g
@[elab_as_elim] theorem Kr.{u0,u1,u2,w} {lX:Sort u0} {vM:Sort u1} {VB:Sort u2} {β:Sort w} {f:lX->vM->VB->β} {v:β} {p1 p2 p3:lX->vM->VB->Prop} {M:β->Prop} (h:acv lX vM VB β f v p1 p2 p3) (k:∀a0 a1 a2,p1 a0 a1 a2->p2 a0 a1 a2->p3 a0 a1 a2->M (f a0 a1 a2)):M v:=have h:∃a0 a1 a2,v=f a0 a1 a2/\p1 a0 a1 a2/\p2 a0 a1 a2/\p3 a0 a1 a2:=h;h.elim λa0 h=>h.elim λa1 h=>h.elim λa2 h=>(h.1).symm▸k a0 a1 a2 h.2.1 h.2.2.1 h.2.2.2
theorem fK {a b:Prop} {c:Prop} (h:a/\b) (k:a->b->c):c:=k h.1 h.2
theorem qk {a b d:Prop} {c:Prop} (h:a/\b/\d) (k:a->b->d->c):c:=k h.1 h.2.1 h.2.2
theorem fg {a b c:Prop} (d:a) (e:b) (f:c):a/\b/\c:=⟨d,e,f⟩
theorem UT {a b d e:Prop} {c:Prop} (h:a/\b/\d/\e) (k:a->b->d->e->c):c:=k h.1 h.2.1 h.2.2.1 h.2.2.2
theorem iJ {a b c d:Prop} (e:a) (f:b) (g:c) (h:d):a/\b/\c/\d:=⟨e,f,g,h⟩
theorem OX {a b c d e:Prop} (f:a) (g:b) (h:c) (i:d) (j:e):a/\b/\c/\d/\e:=⟨f,g,h,i,j⟩
theorem abj {a b c d e f:Prop} (g:a) (h:b) (i:c) (j:d) (k:e) (l:f):a/\b/\c/\d/\e/\f:=⟨g,h,i,j,k,l⟩
theorem abi {a b c d e f g:Prop} (h:a) (i:b) (j:c) (k:d) (l:e) (m:f) (n:g):a/\b/\c/\d/\e/\f/\g:=⟨h,i,j,k,l,m,n⟩
theorem eY.{e} {b:Sort e} {d:b->Prop} {c:Prop} (h:∃a,d a) (k:∀a,d a->c):c:=h.elim λa h=>k a h
theorem OW.{d} {a:Sort d} {c:a->Prop} (b:a) (e:c b):∃b,c b:=⟨b,e⟩
theorem aG.{f} {b:Sort f} {d e:b->Prop} {c:Prop} (h:∃a,d a/\e a) (k:∀a,d a->e a->c):c:=h.elim λa h=>k a h.1 h.2
theorem aP.{e} {b:Sort e} {c d:b->Prop} (a:b) (f:c a) (g:d a):∃a,c a/\d a:=⟨a,f,g⟩
theorem oH.{g} {b:Sort g} {d e f:b->Prop} {c:Prop} (h:∃a,d a/\e a/\f a) (k:∀a,d a->e a->f a->c):c:=h.elim λa h=>k a h.1 h.2.1 h.2.2
theorem eJ.{f} {b:Sort f} {c d e:b->Prop} (a:b) (g:c a) (h:d a) (i:e a):∃a,c a/\d a/\e a:=⟨a,g,h,i⟩
theorem JX.{i} {b:Sort i} {d e f g:b->Prop} {c:Prop} (h:∃a,d a/\e a/\f a/\g a) (k:∀a,d a->e a->f a->g a->c):c:=h.elim λa h=>k a h.1 h.2.1 h.2.2.1 h.2.2.2
theorem OV.{g} {b:Sort g} {c d e f:b->Prop} (a:b) (h:c a) (i:d a) (j:e a) (k:f a):∃a,c a/\d a/\e a/\f a:=⟨a,h,i,j,k⟩
theorem GJ.{j} {b:Sort j} {d e f g i:b->Prop} {c:Prop} (h:∃a,d a/\e a/\f a/\g a/\i a) (k:∀a,d a->e a->f a->g a->i a->c):c:=h.elim λa h=>k a h.1 h.2.1 h.2.2.1 h.2.2.2.1 h.2.2.2.2
theorem UE.{h} {b:Sort h} {c d e f g:b->Prop} (a:b) (i:c a) (j:d a) (k:e a) (l:f a) (m:g a):∃a,c a/\d a/\e a/\f a/\g a:=⟨a,i,j,k,l,m⟩
theorem nu.{g,i} {d:Sort g} {e:Sort i} {f:d->e->Prop} {c:Prop} (h:∃a b,f a b) (k:∀a b,f a b->c):c:=h.elim λa h=>h.elim λb h=>k a b h
theorem sT.{f,g} {a:Sort f} {b:Sort g} {e:a->b->Prop} (c:a) (d:b) (h:e c d):∃c d,e c d:=⟨c,d,h⟩
theorem iQ.{i,j} {d:Sort i} {e:Sort j} {f g:d->e->Prop} {c:Prop} (h:∃a b,f a b/\g a b) (k:∀a b,f a b->g a b->c):c:=h.elim λa h=>h.elim λb h=>k a b h.1 h.2
theorem fX.{g,h} {c:Sort g} {d:Sort h} {e f:c->d->Prop} (a:c) (b:d) (i:e a b) (j:f a b):∃a b,e a b/\f a b:=⟨a,b,i,j⟩
theorem cz.{j,l} {d:Sort j} {e:Sort l} {f g i:d->e->Prop} {c:Prop} (h:∃a b,f a b/\g a b/\i a b) (k:∀a b,f a b->g a b->i a b->c):c:=h.elim λa h=>h.elim λb h=>k a b h.1 h.2.1 h.2.2
theorem eA.{h,i} {c:Sort h} {d:Sort i} {e f g:c->d->Prop} (a:c) (b:d) (j:e a b) (k:f a b) (l:g a b):∃a b,e a b/\f a b/\g a b:=⟨a,b,j,k,l⟩
theorem Pr.{l,m} {d:Sort l} {e:Sort m} {f g i j:d->e->Prop} {c:Prop} (h:∃a b,f a b/\g a b/\i a b/\j a b) (k:∀a b,f a b->g a b->i a b->j a b->c):c:=h.elim λa h=>h.elim λb h=>k a b h.1 h.2.1 h.2.2.1 h.2.2.2
theorem oW.{i,j} {c:Sort i} {d:Sort j} {e f g h:c->d->Prop} (a:c) (b:d) (k:e a b) (l:f a b) (m:g a b) (n:h a b):∃a b,e a b/\f a b/\g a b/\h a b:=⟨a,b,k,l,m,n⟩
theorem Pq.{m,n} {d:Sort m} {e:Sort n} {f g i j l:d->e->Prop} {c:Prop} (h:∃a b,f a b/\g a b/\i a b/\j a b/\l a b) (k:∀a b,f a b->g a b->i a b->j a b->l a b->c):c:=h.elim λa h=>h.elim λb h=>k a b h.1 h.2.1 h.2.2.1 h.2.2.2.1 h.2.2.2.2
theorem aiM.{j,k} {c:Sort j} {d:Sort k} {e f g h i:c->d->Prop} (a:c) (b:d) (l:e a b) (m:f a b) (n:g a b) (o:h a b) (q:i a b):∃a b,e a b/\f a b/\g a b/\h a b/\i a b:=⟨a,b,l,m,n,o,q⟩
theorem aiW.{n,o} {d:Sort n} {e:Sort o} {f g i j l m:d->e->Prop} {c:Prop} (h:∃a b,f a b/\g a b/\i a b/\j a b/\l a b/\m a b) (k:∀a b,f a b->g a b->i a b->j a b->l a b->m a b->c):c:=h.elim λa h=>h.elim λb h=>k a b h.1 h.2.1 h.2.2.1 h.2.2.2.1 h.2.2.2.2.1 h.2.2.2.2.2
theorem UD.{k,l} {c:Sort k} {d:Sort l} {e f g h i j:c->d->Prop} (a:c) (b:d) (m:e a b) (n:f a b) (o:g a b) (q:h a b) (r:i a b) (s:j a b):∃a b,e a b/\f a b/\g a b/\h a b/\i a b/\j a b:=⟨a,b,m,n,o,q,r,s⟩
theorem afS.{m,n} {c:Sort m} {d:Sort n} {e f g h i j k l:c->d->Prop} (a:c) (b:d) (o:e a b) (q:f a b) (r:g a b) (s:h a b) (t:i a b) (u:j a b) (v:k a b) (w:l a b):∃a b,e a b/\f a b/\g a b/\h a b/\i a b/\j a b/\k a b/\l a b:=⟨a,b,o,q,r,s,t,u,v,w⟩
theorem AQ.{j,l,m} {e:Sort j} {f:Sort l} {g:Sort m} {i:e->f->g->Prop} {c:Prop} (h:∃a b d,i a b d) (k:∀a b d,i a b d->c):c:=h.elim λa h=>h.elim λb h=>h.elim λd h=>k a b d h
theorem abh.{h,i,j} {a:Sort h} {b:Sort i} {c:Sort j} {g:a->b->c->Prop} (d:a) (e:b) (f:c) (k:g d e f):∃d e f,g d e f:=⟨d,e,f,k⟩
theorem nH.{l,m,n} {e:Sort l} {f:Sort m} {g:Sort n} {i j:e->f->g->Prop} {c:Prop} (h:∃a b d,i a b d/\j a b d) (k:∀a b d,i a b d->j a b d->c):c:=h.elim λa h=>h.elim λb h=>h.elim λd h=>k a b d h.1 h.2
theorem ww.{i,j,k} {d:Sort i} {e:Sort j} {f:Sort k} {g h:d->e->f->Prop} (a:d) (b:e) (c:f) (l:g a b c) (m:h a b c):∃a b c,g a b c/\h a b c:=⟨a,b,c,l,m⟩
theorem abP.{m,n,o} {e:Sort m} {f:Sort n} {g:Sort o} {i j l:e->f->g->Prop} {c:Prop} (h:∃a b d,i a b d/\j a b d/\l a b d) (k:∀a b d,i a b d->j a b d->l a b d->c):c:=h.elim λa h=>h.elim λb h=>h.elim λd h=>k a b d h.1 h.2.1 h.2.2
theorem abg.{j,k,l} {d:Sort j} {e:Sort k} {f:Sort l} {g h i:d->e->f->Prop} (a:d) (b:e) (c:f) (m:g a b c) (n:h a b c) (o:i a b c):∃a b c,g a b c/\h a b c/\i a b c:=⟨a,b,c,m,n,o⟩
theorem jB.{n,o,q} {e:Sort n} {f:Sort o} {g:Sort q} {i j l m:e->f->g->Prop} {c:Prop} (h:∃a b d,i a b d/\j a b d/\l a b d/\m a b d) (k:∀a b d,i a b d->j a b d->l a b d->m a b d->c):c:=h.elim λa h=>h.elim λb h=>h.elim λd h=>k a b d h.1 h.2.1 h.2.2.1 h.2.2.2
theorem jq.{k,l,m} {d:Sort k} {e:Sort l} {f:Sort m} {g h i j:d->e->f->Prop} (a:d) (b:e) (c:f) (n:g a b c) (o:h a b c) (q:i a b c) (r:j a b c):∃a b c,g a b c/\h a b c/\i a b c/\j a b c:=⟨a,b,c,n,o,q,r⟩
theorem aiV.{o,q,r} {e:Sort o} {f:Sort q} {g:Sort r} {i j l m n:e->f->g->Prop} {c:Prop} (h:∃a b d,i a b d/\j a b d/\l a b d/\m a b d/\n a b d) (k:∀a b d,i a b d->j a b d->l a b d->m a b d->n a b d->c):c:=h.elim λa h=>h.elim λb h=>h.elim λd h=>k a b d h.1 h.2.1 h.2.2.1 h.2.2.2.1 h.2.2.2.2
theorem aiL.{l,m,n} {d:Sort l} {e:Sort m} {f:Sort n} {g h i j k:d->e->f->Prop} (a:d) (b:e) (c:f) (o:g a b c) (q:h a b c) (r:i a b c) (s:j a b c) (t:k a b c):∃a b c,g a b c/\h a b c/\i a b c/\j a b c/\k a b c:=⟨a,b,c,o,q,r,s,t⟩
theorem afY.{q,r,s} {e:Sort q} {f:Sort r} {g:Sort s} {i j l m n o:e->f->g->Prop} {c:Prop} (h:∃a b d,i a b d/\j a b d/\l a b d/\m a b d/\n a b d/\o a b d) (k:∀a b d,i a b d->j a b d->l a b d->m a b d->n a b d->o a b d->c):c:=h.elim λa h=>h.elim λb h=>h.elim λd h=>k a b d h.1 h.2.1 h.2.2.1 h.2.2.2.1 h.2.2.2.2.1 h.2.2.2.2.2
theorem aiK.{m,n,o} {d:Sort m} {e:Sort n} {f:Sort o} {g h i j k l:d->e->f->Prop} (a:d) (b:e) (c:f) (q:g a b c) (r:h a b c) (s:i a b c) (t:j a b c) (u:k a b c) (v:l a b c):∃a b c,g a b c/\h a b c/\i a b c/\j a b c/\k a b c/\l a b c:=⟨a,b,c,q,r,s,t,u,v⟩
theorem aiJ.{n,o,q} {d:Sort n} {e:Sort o} {f:Sort q} {g h i j k l m:d->e->f->Prop} (a:d) (b:e) (c:f) (r:g a b c) (s:h a b c) (t:i a b c) (u:j a b c) (v:k a b c) (w:l a b c) (x:m a b c):∃a b c,g a b c/\h a b c/\i a b c/\j a b c/\k a b c/\l a b c/\m a b c:=⟨a,b,c,r,s,t,u,v,w,x⟩
theorem aiU.{m,n,o,q} {f:Sort m} {g:Sort n} {i:Sort o} {j:Sort q} {l:f->g->i->j->Prop} {c:Prop} (h:∃a b d e,l a b d e) (k:∀a b d e,l a b d e->c):c:=h.elim λa h=>h.elim λb h=>h.elim λd h=>h.elim λe h=>k a b d e h
theorem afX.{n,o,q,r} {f:Sort n} {g:Sort o} {i:Sort q} {j:Sort r} {l m:f->g->i->j->Prop} {c:Prop} (h:∃a b d e,l a b d e/\m a b d e) (k:∀a b d e,l a b d e->m a b d e->c):c:=h.elim λa h=>h.elim λb h=>h.elim λd h=>h.elim λe h=>k a b d e h.1 h.2
theorem afW.{o,q,r,s} {f:Sort o} {g:Sort q} {i:Sort r} {j:Sort s} {l m n:f->g->i->j->Prop} {c:Prop} (h:∃a b d e,l a b d e/\m a b d e/\n a b d e) (k:∀a b d e,l a b d e->m a b d e->n a b d e->c):c:=h.elim λa h=>h.elim λb h=>h.elim λd h=>h.elim λe h=>k a b d e h.1 h.2.1 h.2.2
theorem afR.{l,m,n,o} {e:Sort l} {f:Sort m} {g:Sort n} {h:Sort o} {i j k:e->f->g->h->Prop} (a:e) (b:f) (c:g) (d:h) (q:i a b c d) (r:j a b c d) (s:k a b c d):∃a b c d,i a b c d/\j a b c d/\k a b c d:=⟨a,b,c,d,q,r,s⟩
theorem GH.{q,r,s,t} {f:Sort q} {g:Sort r} {i:Sort s} {j:Sort t} {l m n o:f->g->i->j->Prop} {c:Prop} (h:∃a b d e,l a b d e/\m a b d e/\n a b d e/\o a b d e) (k:∀a b d e,l a b d e->m a b d e->n a b d e->o a b d e->c):c:=h.elim λa h=>h.elim λb h=>h.elim λd h=>h.elim λe h=>k a b d e h.1 h.2.1 h.2.2.1 h.2.2.2
theorem JE.{m,n,o,q} {e:Sort m} {f:Sort n} {g:Sort o} {h:Sort q} {i j k l:e->f->g->h->Prop} (a:e) (b:f) (c:g) (d:h) (r:i a b c d) (s:j a b c d) (t:k a b c d) (u:l a b c d):∃a b c d,i a b c d/\j a b c d/\k a b c d/\l a b c d:=⟨a,b,c,d,r,s,t,u⟩
theorem aiT.{s,t,u,v} {f:Sort s} {g:Sort t} {i:Sort u} {j:Sort v} {l m n o q r:f->g->i->j->Prop} {c:Prop} (h:∃a b d e,l a b d e/\m a b d e/\n a b d e/\o a b d e/\q a b d e/\r a b d e) (k:∀a b d e,l a b d e->m a b d e->n a b d e->o a b d e->q a b d e->r a b d e->c):c:=h.elim λa h=>h.elim λb h=>h.elim λd h=>h.elim λe h=>k a b d e h.1 h.2.1 h.2.2.1 h.2.2.2.1 h.2.2.2.2.1 h.2.2.2.2.2
theorem aiH.{o,q,r,s} {e:Sort o} {f:Sort q} {g:Sort r} {h:Sort s} {i j k l m n:e->f->g->h->Prop} (a:e) (b:f) (c:g) (d:h) (t:i a b c d) (u:j a b c d) (v:k a b c d) (w:l a b c d) (x:m a b c d) (y:n a b c d):∃a b c d,i a b c d/\j a b c d/\k a b c d/\l a b c d/\m a b c d/\n a b c d:=⟨a,b,c,d,t,u,v,w,x,y⟩
theorem abO.{u,v,w,x} {f:Sort u} {g:Sort v} {i:Sort w} {j:Sort x} {l m n o q r s t:f->g->i->j->Prop} {c:Prop} (h:∃a b d e,l a b d e/\m a b d e/\n a b d e/\o a b d e/\q a b d e/\r a b d e/\s a b d e/\t a b d e) (k:∀a b d e,l a b d e->m a b d e->n a b d e->o a b d e->q a b d e->r a b d e->s a b d e->t a b d e->c):c:=h.elim λa h=>h.elim λb h=>h.elim λd h=>h.elim λe h=>k a b d e h.1 h.2.1 h.2.2.1 h.2.2.2.1 h.2.2.2.2.1 h.2.2.2.2.2.1 h.2.2.2.2.2.2.1 h.2.2.2.2.2.2.2
theorem aiG.{r,s,t,u} {e:Sort r} {f:Sort s} {g:Sort t} {h:Sort u} {i j k l m n o q:e->f->g->h->Prop} (a:e) (b:f) (c:g) (d:h) (v:i a b c d) (w:j a b c d) (x:k a b c d) (y:l a b c d) (z:m a b c d) (A:n a b c d) (B:o a b c d) (C:q a b c d):∃a b c d,i a b c d/\j a b c d/\k a b c d/\l a b c d/\m a b c d/\n a b c d/\o a b c d/\q a b c d:=⟨a,b,c,d,v,w,x,y,z,A,B,C⟩
theorem aiS.{o,q,r,s,t} {g:Sort o} {i:Sort q} {j:Sort r} {l:Sort s} {m:Sort t} {n:g->i->j->l->m->Prop} {c:Prop} (h:∃a b d e f,n a b d e f) (k:∀a b d e f,n a b d e f->c):c:=h.elim λa h=>h.elim λb h=>h.elim λd h=>h.elim λe h=>h.elim λf h=>k a b d e f h
theorem aiF.{l,m,n,o,q} {a:Sort l} {b:Sort m} {c:Sort n} {d:Sort o} {e:Sort q} {k:a->b->c->d->e->Prop} (f:a) (g:b) (h:c) (i:d) (j:e) (r:k f g h i j):∃f g h i j,k f g h i j:=⟨f,g,h,i,j,r⟩
theorem afV.{s,t,u,v,w} {g:Sort s} {i:Sort t} {j:Sort u} {l:Sort v} {m:Sort w} {n o q r:g->i->j->l->m->Prop} {c:Prop} (h:∃a b d e f,n a b d e f/\o a b d e f/\q a b d e f/\r a b d e f) (k:∀a b d e f,n a b d e f->o a b d e f->q a b d e f->r a b d e f->c):c:=h.elim λa h=>h.elim λb h=>h.elim λd h=>h.elim λe h=>h.elim λf h=>k a b d e f h.1 h.2.1 h.2.2.1 h.2.2.2
theorem aiE.{o,q,r,s,t} {f:Sort o} {g:Sort q} {h:Sort r} {i:Sort s} {j:Sort t} {k l m n:f->g->h->i->j->Prop} (a:f) (b:g) (c:h) (d:i) (e:j) (u:k a b c d e) (v:l a b c d e) (w:m a b c d e) (x:n a b c d e):∃a b c d e,k a b c d e/\l a b c d e/\m a b c d e/\n a b c d e:=⟨a,b,c,d,e,u,v,w,x⟩
theorem US.{v,w,x,y,z,A} {i:Sort v} {j:Sort w} {l:Sort x} {m:Sort y} {n:Sort z} {o:Sort A} {q r s t u:i->j->l->m->n->o->Prop} {c:Prop} (h:∃a b d e f g,q a b d e f g/\r a b d e f g/\s a b d e f g/\t a b d e f g/\u a b d e f g) (k:∀a b d e f g,q a b d e f g->r a b d e f g->s a b d e f g->t a b d e f g->u a b d e f g->c):c:=h.elim λa h=>h.elim λb h=>h.elim λd h=>h.elim λe h=>h.elim λf h=>h.elim λg h=>k a b d e f g h.1 h.2.1 h.2.2.1 h.2.2.2.1 h.2.2.2.2
theorem UC.{s,t,u,v,w,x} {g:Sort s} {h:Sort t} {i:Sort u} {j:Sort v} {k:Sort w} {l:Sort x} {m n o q r:g->h->i->j->k->l->Prop} (a:g) (b:h) (c:i) (d:j) (e:k) (f:l) (y:m a b c d e f) (z:n a b c d e f) (A:o a b c d e f) (B:q a b c d e f) (C:r a b c d e f):∃a b c d e f,m a b c d e f/\n a b c d e f/\o a b c d e f/\q a b c d e f/\r a b c d e f:=⟨a,b,c,d,e,f,y,z,A,B,C⟩
theorem nt {α:Type} {M:Model} {A:bU} {m:Sem α} {Q:α->aN->Prop} {E:bq->aN->Prop} {s:aN} (h:let t:=s;aD M A m Q E t):aD M A m Q E s:=h
theorem letQ {α:Type} {M:Model} {A:bU} {m:Sem α} {Q:α->aN->Prop} {E:bq->aN->Prop} {s:aN} (h:let K:=Q;aD M A m K E s):aD M A m Q E s:=h
theorem oV {α:Type} {M:Model} {A:bU} {m:Sem α} {Q:α->aN->Prop} {E:bq->aN->Prop} {s:aN} (h:let K:=Q;let t:=s;aD M A m K E t):aD M A m Q E s:=h
end Internal
namespace Internal
open PySem PySem.W PySem.Spec PySem.Calls PyProof.Rows PySem.SeqAt
noncomputable abbrev acS:=bD×bD×List bq×List bD×List bq×Option Bool×Option bz×Option bq×Option bq×Option bq×Option bq×Option bq
noncomputable abbrev xI (C N:bz) (r:acS):Obj:=excClassObj r.1 r.2.1 C N r.2.2.1 [.type "object"] true r.2.2.2.1 r.2.2.2.2.1 false r.2.2.2.2.2.1 r.2.2.2.2.2.2.1 r.2.2.2.2.2.2.2.1 r.2.2.2.2.2.2.2.2.1 r.2.2.2.2.2.2.2.2.2.1 r.2.2.2.2.2.2.2.2.2.2.1 r.2.2.2.2.2.2.2.2.2.2.2 "object.__new__"
structure iR where
 name:bD
 args:Arguments
 body:List oq
 scope:jH
 deriving Inhabited
noncomputable def SK (name:bD):oq->Option iR
 | .FunctionDef n a b [] none [] H _ _ _=>match n==name with
  |true=>some ⟨n,a,b,H⟩
  |false=>none
 |_=>none
noncomputable def cV (name:bD) (l:List oq):iR:=(l.findSome? (SK name)).getD default
noncomputable def clsIn (name:bD):List oq->List oq
 |[]=>[]
 | .ClassDef n _ _ b _ _ _ _ _ _ _::r=>match n==name with
  |true=>b
  |false=>clsIn name r
 |_::r=>clsIn name r
noncomputable def nm (x:String) (v:bq):bD×Value:=(aa x,v)
noncomputable def g2:List (bD×bq):=[nm "max" (.builtin "max"),nm "min" (.builtin "min"),nm "int" (.type "int"),nm "str" (.type "str"),nm "len" (.builtin "len"),nm "chr" (.builtin "chr"),nm "abs" (.builtin "abs"),nm "round" (.builtin "round"),nm "list" (.type "list"),nm "type" (.type "type"),
 nm "enumerate" (.type "enumerate"),nm "zip" (.type "zip"),nm "iter" (.builtin "iter"),nm "range" (.type "range"),nm "ONE_SIXTH" (.float 4595172819793696085 340),nm "TWO_THIRD" (.float 4604180019048437077 344),nm "ONE_THIRD" (.float 4599676419421066581 336),
 nm "_iter_escaped_chars" (.ref 45),nm "_strip_quoted_realnames" (.ref 52),nm "_check_parenthesis" (.ref 59),nm "_pre_parse_validation" (.ref 66),nm "rgb_to_hls" (.ref 73),nm "hls_to_rgb" (.ref 80),nm "_v" (.ref 87),nm "rgb_to_hsv" (.ref 94),nm "hsv_to_rgb" (.ref 101),nm "_netrclex" (.ref 139),
 nm "tspecials" (.ref 148),nm "_name_disallowed_re" (.ref 153),nm "_value_disallowed_re" (.ref 158),nm "_formatparam" (.ref 166),nm "Headers" (.ref 289),nm "_law_draws" (.ref 298),nm "_law_lexer" (.ref 305),nm "_law_paint" (.ref 310),nm "_law_flip" (.ref 315),nm "_law_roads" (.ref 320),nm "_law_row" (.ref 325),nm "_law_turned" (.ref 330)]
noncomputable abbrev fS:List Stmt:=qL.main.body
noncomputable def mf (c x:bD):iR:=cV x (clsIn c fS)
noncomputable def CA:iR:=cV "_iter_escaped_chars" fS
noncomputable def codeN:List Nat:=[14,10,4,1,1,22,0,31,16,127,0,13,7,22,0,31,16,127,0,1]
noncomputable def wJ:List Nat:=[14,14,4,1,1,9,4294966783,0,0,2147483648,0,0,0,0,0,13,11,9,4294966783,0,0,2147483648,0,0,0,0,0,1]
noncomputable abbrev vE:iR:=mf "Headers" "add_header"
noncomputable abbrev oX:iR:=cV "_law_lexer" fS
noncomputable abbrev lc:iR:=cV "law" fS
abbrev aaf:Program:=qL
abbrev tx:OpenRow:=iP.row
noncomputable def qv:Program:=view aaf [0,32]
noncomputable def AB:List Str:=[aa "_wall",aa "_iter_escaped_chars",aa "_strip_quoted_realnames",aa "_check_parenthesis",aa "_pre_parse_validation",aa "ONE_THIRD",aa "ONE_SIXTH",aa "TWO_THIRD",aa "rgb_to_hls",aa "hls_to_rgb",aa "_v",aa "rgb_to_hsv",aa "hsv_to_rgb",aa "_netrclex",aa "tspecials",aa "_name_disallowed_re",aa "_value_disallowed_re",aa "_formatparam",aa "Headers",aa "_law_draws",aa "_law_lexer",aa "_law_paint",aa "_law_flip",aa "_law_roads",aa "_law_row",aa "_law_turned"]
noncomputable def afT:Data->Option lu
 | .func a=>some a
 |_=>none
noncomputable def Pl:Data->Option (Array bq)
 | .fields vs=>some vs
 |_=>none
noncomputable def ZQ:Data->Option (Array bq)
 | .seq vs _=>some vs
 |_=>none
noncomputable def af0:Data->Option ClassData
 | .cls cd=>some cd
 |_=>none
noncomputable def aeK (h:kT) (a:bz):Option (bq×Arguments×FuncBody×jH×bz×List (bD×bz)×bz×bq×bq×bD):=(h.get? a).bind λo=>(afT o.data).map λb=>(o.cls,b.params,b.body,b.scope,b.globals,b.closure,b.builtins,b.defaults,b.code,b.qualname)
noncomputable def afz:Option bq->Option bD
 |some (.str q _)=>some q
 |_=>none
noncomputable def ahF (h:kT) (a:bz):Option Str:=(h.get? a).bind λo=>(Pl o.data).bind λvs=>afz vs[1]?
noncomputable def aiy:bq->Option Unit
 | .str _ _=>some ()
 |_=>none
noncomputable def ahj:bq->Option Unit
 | .int _ _=>some ()
 |_=>none
noncomputable def aiA:bq->Option Unit
 | .bool _=>some ()
 |_=>none
noncomputable def O' (h:kT) (a:bz):Option (bq×Option bq×Option Unit×Option Unit×Option Unit×Option Unit):=(h.get? a).bind λo=>(Pl o.data).map λvs=>(o.cls,vs[11]?,aiy (vs.getD 18 .none),ahj (vs.getD 7 .none),aiA (vs.getD 9 .none),ahj (vs.getD 10 .none))
noncomputable def PU (h:kT) (a:bz):Option (bq×List bq×bz×Bool×Bool×Bool×Nat×Option (Option bq)):=(h.get? a).bind λo=>(af0 o.data).map λcd=>(o.cls,cd.mro,cd.ns,cd.hasDict,cd.abstract,cd.hasDel,o.slots.size,o.slots[4]?)
noncomputable def adi (v:bq):Option Int×Bool:=match v with
 | .int i _=>(some i,true)
 | .none=>(none,true)
 |_=>(none,false)
noncomputable def KE (h:kT) (a:bz):Option (List (Option Int×Bool)):=(h.get? a).bind λo=>(ZQ o.data).map λvs=>vs.toList.map adi
noncomputable def afE:Option bq->Option bz
 |some (.ref c)=>some c
 |_=>none
noncomputable def afP:Option bq->Option Int
 |some (.int i _)=>some i
 |_=>none
noncomputable def ah6 (h:kT) (a:bz):Option (List Nat):=(h.get? a).bind λo=>(ZQ o.data).map λitems=>((items.map tJ).map (·.toNat)).toList
noncomputable def aal (h:kT) (a:bz):Option (bq×Option bz×Option Int×Option (List Nat)):=(h.get? a).bind λo=>(Pl o.data).map λvs=>(o.cls,o.dict,afP vs[6]?,(afE vs[5]?).bind (ah6 h))
noncomputable def aiz:bq->Bool
 | .none=>true
 |_=>false
noncomputable def ZH (h:kT) (a:bz):Option (Bool×Option bz×Nat×Nat):=(h.get? a).bind λo=>(Pl o.data).map λvs=>(aiz o.cls,o.dict,o.slots.size,vs.size)
structure afs where
 a:bz
 d:iR
 q:bD
 df:bq
noncomputable def fns:List afs:=[⟨45,CA,"_iter_escaped_chars",.none⟩,⟨52,cV "_strip_quoted_realnames" fS,"_strip_quoted_realnames",.none⟩,⟨59,cV "_check_parenthesis" fS,"_check_parenthesis",.none⟩,⟨66,cV "_pre_parse_validation" fS,"_pre_parse_validation",.none⟩,⟨73,cV "rgb_to_hls" fS,"rgb_to_hls",.none⟩,⟨80,cV "hls_to_rgb" fS,"hls_to_rgb",.none⟩,⟨87,cV "_v" fS,"_v",.none⟩,⟨94,cV "rgb_to_hsv" fS,"rgb_to_hsv",.none⟩,⟨101,cV "hsv_to_rgb" fS,"hsv_to_rgb",.none⟩,
 ⟨115,mf "_netrclex" "__init__","_netrclex.__init__",.none⟩,⟨122,mf "_netrclex" "_read_char","_netrclex._read_char",.none⟩,⟨129,mf "_netrclex" "get_token","_netrclex.get_token",.none⟩,⟨136,mf "_netrclex" "push_token","_netrclex.push_token",.none⟩,
 ⟨166,cV "_formatparam" fS,"_formatparam",.ref 159⟩,⟨181,mf "Headers" "__init__","Headers.__init__",.ref 174⟩,⟨188,mf "Headers" "_convert_string_type","Headers._convert_string_type",.none⟩,⟨236,mf "Headers" "get","Headers.get",.ref 229⟩,⟨286,vE,"Headers.add_header",.none⟩,
 ⟨298,cV "_law_draws" fS,"_law_draws",.none⟩,⟨305,oX,"_law_lexer",.none⟩,⟨310,cV "_law_paint" fS,"_law_paint",.none⟩,⟨315,cV "_law_flip" fS,"_law_flip",.none⟩,⟨320,cV "_law_roads" fS,"_law_roads",.none⟩,⟨325,cV "_law_row" fS,"_law_row",.none⟩,⟨330,cV "_law_turned" fS,"_law_turned",.none⟩,⟨335,lc,"law",.none⟩]
noncomputable def uI (c x:String) (v:Option bq):bz×bD×Option Value:=(match c with|"L" =>138|_=>288,aa x,v)
noncomputable def WL:List (bz×bD×Option bq):=[uI "L" "__getattribute__" none,uI "L" "__getattr__" none,uI "L" "__setattr__" none,uI "L" "lineno" none,uI "L" "instream" none,uI "L" "whitespace" none,uI "L" "pushback" none,uI "L" "__init__" (some (.ref 115)),uI "L" "_read_char" (some (.ref 122)),uI "L" "get_token" (some (.ref 129)),uI "L" "push_token" (some (.ref 136)),
 uI "H" "__getattribute__" none,uI "H" "__getattr__" none,uI "H" "__setattr__" none,uI "H" "_headers" none,uI "H" "__init__" (some (.ref 181)),uI "H" "_convert_string_type" (some (.ref 188)),uI "H" "get" (some (.ref 236)),uI "H" "add_header" (some (.ref 286))]
noncomputable def Uu (h:kT) (p:bD×bq):Bool:=decide (h.nsMap bN p.1=some p.2)||(decide (h.nsMap bN p.1=none)&&decide (h.nsMap cx p.1=some p.2))
noncomputable def sO (s:aN):=
 (s.toks,fns.map λx=>aeK s.heap x.a,fns.map λx=>ahF s.heap (x.a-1),[O' s.heap 304,O' s.heap 334],[PU s.heap 139,PU s.heap 289],[KE s.heap 159,KE s.heap 174,KE s.heap 229],[aal s.heap 153,aal s.heap 158],[ZH s.heap 300,ZH s.heap 332],
  WL.map λx=>decide (s.heap.nsMap x.1 x.2.1=x.2.2),s.heap.isNs 138&&s.heap.isNs 288&&s.heap.isNs cx&&s.heap.isNs om&&decide (s.heap.nsMap bN "__builtins__" =some (.ref 4))&&decide (s.heap.nsMap bN "law" =some (.ref 335)),g2.map (Uu s.heap))
noncomputable def Pa (T:bz):Option (bq×Option bq×Option Unit×Option Unit×Option Unit×Option Unit):=some (.type "code",some (.ref T),some (),some (),some (),some ())
noncomputable def PV (C N:bz):Option (bq×List bq×bz×Bool×Bool×Bool×Nat×Option (Option bq)):=some (.type "type",[.ref C,.type "object"],N,true,false,false,6,some (some (.builtin "object.__new__")))
noncomputable def aam (c:List Nat):Option (bq×Option bz×Option Int×Option (List Nat)):=some (.type "re.Pattern",none,some 0,some c)
noncomputable def sG (_:oK):=
 ((802:Nat),fns.map λx=>some (zv "function",x.d.args,xc x.d.body,x.d.scope,bN,([]:List (bD×bz)),cx,x.df,nf (x.a-1),x.q),fns.map λx=>some x.q,[Pa 300,Pa 332],[PV 139 138,PV 289 288],
  [some [(none,true),(some (1:Int),true)],some [(none,true)],some [(none,true)]],[aam codeN,aam wJ],[some (true,(none:Option bz),(0:Nat),(0:Nat)),some (true,none,0,0)],WL.map λ_=>true,true,g2.map λ_=>true)
section
set_option maxHeartbeats 0
theorem ag6:LeftO aaf qv AB (λ_=>true) sO sG 4100:=λw=>by kernel_rfl
theorem agL:iP.wellSaid=true:=by kernel_rfl
theorem adI:(chainsOk qv&&opensWell tx.prog&&(frees tx.toRowW&&tx.within.isEmpty))=true:=by kernel_rfl
end
end Internal
namespace Internal
open PySem PySem.W PySem.Spec PySem.Calls PyProof.Rows
theorem aL (h:(a&&b)=true):a=true:=(aq.mp h).1
theorem aR (h:(a&&b)=true):b=true:=(aq.mp h).2
theorem allR (h:(bc n).all f=true) {i} (a:i<n):f i=true:=aV.mp h i (mJ.mpr a)
structure FZ where
 pr:jT
 w:oK
 f:bz->Option Obj
set_option genCtorIdx true in
inductive CV where
 |none
 |bool (b:Bool)
 |int (i:Int)
 |bW (x:UInt64)
 |str (s:bD)
 |tup (l:List CV)
 |lst (l:List CV)
 |gx (l:List (bD×CV))
 |own (i:Nat)
 |obj (v:bq)
 deriving Inhabited
noncomputable abbrev VN (vs:Array bq) (n:Nat):Obj:={cls:= .type "tuple",data:= .seq vs n}
noncomputable abbrev OK (vs:Array bq) (n:Nat):Obj:={cls:= .type "list",data:= .seq vs n}
noncomputable abbrev tabObj (vs:Array bq):Obj:={cls:= .none,data:= .fields vs}
def yA (T:String) (o:Obj) (vs:Array bq):Prop:=∃n,o={cls:= .type T,data:= .seq vs n}
theorem yA.seq (x:yA T o vs):o.cls= .type T/\∃n,o.data= .seq vs n:=eY x λn e=>⟨af e rfl,n,af e rfl⟩
def tb (h:kT) (a:bz) (vs:Array bq):Prop:=∃o,h.get? a=some o/\yA "list" o vs
theorem tb.isList (x:tb h a vs):h.IsList a vs:=aG x λo e c=>aP o e (yA.seq c)
theorem tb.plain (x:tb h a vs):h.PlainList a vs:=aG x λo e c=>eY c λn q=>⟨n,q▸e⟩
theorem tb.of (x:h.PlainList a vs):tb h a vs:=eY x λn e=>aP _ e ⟨n,rfl⟩
def Hm (c:jT) (w:oK) (a:bz) (o:Obj) (b:List (bD×bq)):Prop:=(a==om)=false/\o.IsDictOf (nN c w) b
mutual
def Rep (F:FZ) (O:List bz):CV->bq->Prop
 | .none,v=>v= .none
 | .bool b,v=>v= .bool b
 | .int i,v=>∃t,v= .int i t
 | .bW x,v=>∃t,v= .float x t
 | .str s,v=>∃t,v= .str s t
 | .tup l,v=>∃a o vs,v= .ref a/\F.f a=some o/\yA "tuple" o vs/\bM F O l vs.toList
 | .lst l,v=>∃a o vs,v= .ref a/\F.f a=some o/\yA "list" o vs/\bM F O l vs.toList
 | .gx l,v=>∃a o c,v= .ref a/\F.f a=some o/\Hm F.pr F.w a o c/\ew F O l c
 | .own i,v=>∃a,O[i]?=some a/\v= .ref a
 | .obj w,v=>v=w
def bM (F:FZ) (O:List bz):List CV->List bq->Prop
 |[],vs=>vs=[]
 |c::l,vs=>∃v r,vs=v::r/\Rep F O c v/\bM F O l r
def ew (F:FZ) (O:List bz):List (bD×CV)->List (bD×bq)->Prop
 |[],es=>es=[]
 |(k,c)::l,es=>∃v r,es=(k,v)::r/\Rep F O c v/\ew F O l r
end
def jp (F F':FZ):Prop:=(F'.pr=F.pr/\F'.w=F.w)/\∀a o,F.f a=some o->F'.f a=some o
theorem jp.refl F:jp F F:=⟨⟨rfl,rfl⟩,λa a h=>h⟩
theorem jp.trans (h:jp F F') (b:jp F' c):jp F c:=⟨⟨b.1.1.trans h.1.1,b.1.2.trans h.1.2⟩,λa o e=>b.2 a o (h.2 a o e)⟩
def ny (O aH:List bz):Prop:=∀(i:Nat) a,O[i]?=some a->aH[i]?=some a
theorem ny.refl O:ny O O:=λa a h=>h
theorem ny.append O x:ny O (O++x):=λi a h=>by
 rw[cj]
 ·exact h
 ·exact(aj.mp h).1
mutual
noncomputable def rM (k:Nat):CV->Bool
 | .own i=>decide (i<k)
 | .tup l=>pz k l
 | .lst l=>pz k l
 | .gx l=>yt k l
 |_=>true
noncomputable def pz (k:Nat):List CV->Bool
 |[]=>true
 |c::l=>rM k c&&pz k l
noncomputable def yt (k:Nat):List (bD×CV)->Bool
 |[]=>true
 |(_,c)::l=>rM k c&&yt k l
end
theorem aiZ {P:CV->Prop} (none:P .none) (bool:∀b,P (.bool b)) (int:∀i,P (.int i)) (bW:∀x,P (.bW x)) (str:∀s,P (.str s)) (tup:∀l,(∀c∈l,P c)->P (.tup l)) (lst:∀l,(∀c∈l,P c)->P (.lst l)) (gx:∀l,(∀p∈l,P p.2)->P (.gx l)) (own:∀i,P (.own i)) (obj:∀v,P (.obj v)) (c:CV):P c:=
 CV.rec (motive_1:=P) (motive_2:=λl=>∀c∈l,P c) (motive_3:=λl=>∀p∈l,P p.2) (motive_4:=λp=>P p.2) none bool int bW str tup lst gx own obj
  (λc=>bw) (λc l h h' x hx=>(aE.mp hx).elim (λe=>e▸h) (h' x)) (λc=>bw) (λc l h h' x hx=>(aE.mp hx).elim (λe=>e▸h) (h' x)) (λk c h=>h) c
section
variable {F F':FZ} {O aH:List bz} {n:Nat}
theorem bM.yu {l} (b:∀c∈l,∀v,Rep F O c v->rM n c=true):∀{vs},bM F O l vs->pz n l=true:=by
 induction l with
 |nil=>exact λa=>rfl
 |cons c l d=>exact λh=>cz h λv r a e f=>aq.mpr ⟨b c az v e,d (λc g=>b c (aB _ g)) f⟩
theorem ew.yu {l:List (bD×CV)} (b:∀p∈l,∀v,Rep F O p.2 v->rM n p.2=true):∀{vs},ew F O l vs->yt n l=true:=by
 induction l with
 |nil=>exact λa=>rfl
 |cons c l d=>exact λh=>cz h λv r a e f=>aq.mpr ⟨b c az v e,d (λc g=>b c (aB _ g)) f⟩
theorem Rep.yu c:∀v,Rep F O c v->rM O.length c=true:=by
 induction c using aiZ with
 |tup l b=>exact λv h=>jB h λa o vs a a a r=>bM.yu b r
 |lst l b=>exact λv h=>jB h λa o vs a a a r=>bM.yu b r
 |gx l b=>exact λv h=>jB h λa o vs a a a=>ew.yu b
 |own i=>exact λv h=>aG h λa e a=>decide_eq_true (aj.mp e).1
 |_=>exact λv a=>rfl
theorem Rep.rM (h:Rep F O c v):rM O.length c=true:=Rep.yu c v h
theorem bM.pz (h:bM F O l vs):pz O.length l=true:=bM.yu (λc a=>Rep.yu c) h
theorem ew.yt (h:ew F O l vs):yt O.length l=true:=ew.yu (λp a=>Rep.yu p.2) h
theorem bM.Dl {l} (b:∀c∈l,∀v,Rep F O c v->Internal.rM n c=true->Rep F' aH c v):∀{vs},bM F O l vs->Internal.pz n l=true->bM F' aH l vs:=by
 induction l with
 |nil=>exact λh a=>h
 |cons c l d=>exact λh w=>cz h λv r e f g=>eA v r e (b c az v f (aL w)) (d (λc i=>b c (aB _ i)) g (aR w))
theorem ew.Dl {l:List (bD×CV)} (b:∀p∈l,∀v,Rep F O p.2 v->Internal.rM n p.2=true->Rep F' aH p.2 v):∀{vs},ew F O l vs->Internal.yt n l=true->ew F' aH l vs:=by
 induction l with
 |nil=>exact λh a=>h
 |cons c l d=>exact λh w=>cz h λv r e f g=>eA v r e (b c az v f (aL w)) (d (λc i=>b c (aB _ i)) g (aR w))
theorem Rep.VH (b:jp F F') (g:∀(i:Nat) a,i<n->O[i]?=some a->aH[i]?=some a) c:∀v,Rep F O c v->Internal.rM n c=true->Rep F' aH c v:=by
 induction c using aiZ with
 |tup l d=>exact λv h w=>jB h λa o vs e f q r=>jq a o vs e (b.2 _ _ f) q (bM.Dl d r w)
 |lst l d=>exact λv h w=>jB h λa o vs e f q r=>jq a o vs e (b.2 _ _ f) q (bM.Dl d r w)
 |gx l d=>exact λv h w=>jB h λa o vs e f q r=>jq a o vs e (b.2 _ _ f) (af b.1.1 (af b.1.2 q)) (ew.Dl d r w)
 |own i=>exact λv h w=>aG h λa e q=>aP a (g _ _ (of_decide_eq_true w) e) q
 |_=>exact λv h a=>h
theorem Rep.mono {F F':FZ} {O aH:List bz} (b:jp F F') (d:ny O aH) (h:Rep F O c v):Rep F' aH c v:=Rep.VH b (λi a w=>d i a) c v h h.rM
theorem bM.mono {F F':FZ} {O aH:List bz} (b:jp F F') (d:ny O aH) (h:bM F O l vs):bM F' aH l vs:=bM.Dl (λc a=>Rep.VH b (λi a w=>d i a) c) h h.pz
theorem ew.mono {F F':FZ} {O aH:List bz} (b:jp F F') (c:ny O aH) (h:ew F O l vs):ew F' aH l vs:=ew.Dl (λp a=>Rep.VH b (λi a w=>c i a) p.2) h h.yt
end
theorem bM.length {l}:∀{vs},bM F O l vs->vs.length=l.length:=by
 induction l with
 |nil=>exact congrArg DW
 |cons c l b=>exact λh=>cz h λv r e a d=>af e (congrArg BA (b d))
theorem bM.get {l}:∀{vs},bM F O l vs->∀{i:Nat} {c},l[i]?=some c->∃v,vs[i]?=some v/\Rep F O c v:=by
 induction l with
 |nil=>exact λ{vs} h {i c} e=>aW e
 |cons x l b=>
  refine λ{vs} h {i c} e=>cz h λv r a d f=>af a ?_
  induction i using cN with
  |zero=>exact eh (ab e) (aP v rfl d)
  |succ i=>exact b f e
theorem bM.append {l}:∀{d vs a},bM F O l vs->bM F O d a->bM F O (l++d) (vs++a):=by
 induction l with
 |nil=>exact λh b=>af h b
 |cons c l f=>exact λh b=>cz h λv r e g i=>af e (eA v _ rfl g (f i b))
theorem bM.single (h:Rep F O c v):bM F O [c] [v]:=eA v [] rfl h rfl
theorem bM.nil:bM F O [] []:=rfl
theorem bM.cons (h:Rep F O c v) (a:bM F O l vs):bM F O (c::l) (v::vs):=eA v vs rfl h a
theorem bM.take {l}:∀{vs} n,bM F O l vs->bM F O (l.take n) (vs.take n):=by
 induction l with
 |nil=>exact λn h=>af h (by cases n<;>exact .nil)
 |cons c l a=>exact λn h=>cN n bM.nil λn=>cz h λv r e b d=>af e (.cons b (a n d))
theorem bM.drop {l}:∀{vs} n,bM F O l vs->bM F O (l.drop n) (vs.drop n):=by
 induction l with
 |nil=>exact λn h=>af h (by cases n<;>exact .nil)
 |cons c l a=>exact λn h=>cN n h λn=>cz h λv r e d b=>af e (a n b)
theorem ew.get {l:List (bD×CV)}:∀{es},ew F O l es->∀{i:Nat} {k} {c},l[i]?=some (k,c)->∃v,es[i]?=some (k,v)/\Rep F O c v:=by
 induction l with
 |nil=>exact λ{vs} h {i k c} e=>aW e
 |cons x l b=>
  refine λ{vs} h {i k c} e=>cz h λv r a d f=>af a ?_
  induction i using cN with
  |zero=>obtain rfl:=ab e;exact aP v rfl d
  |succ i=>exact b f e
theorem ew.keys {l:List (bD×CV)}:∀{es},ew F O l es->es.map (·.1)=l.map (·.1):=by
 induction l with
 |nil=>exact congrArg (QH QA)
 |cons x l b=>exact λh=>cz h λv r e a c=>af e (congrArg (x.1:: ·) (b c))
theorem ew.length (h:ew F O l es):es.length=l.length:=by
 have:=congrArg DW h.keys
 rwa [aC,aC] at this
set_option genCtorIdx true in
inductive MO where
 |list (l:List CV)
 |dict (l:List (bD×CV))
 |inst (c:bz) (d:Option Nat)
 |ns (l:List (bD×CV))
 |ei (p:FZ->Obj->bz->Prop) (k:Nat)
noncomputable abbrev aZ:=List MO
def Ip (F:FZ) (O:List bz) (l:List (bD×CV)) (m:bD->Option bq):Prop:=
 (∀x c,l.lookup x=some c->∃v,m x=some v/\Rep F O c v)/\∀x,l.lookup x=none->m x=none
def s' (F:FZ) (O:List bz) (h:kT) (a:bz):MO->Prop
 | .list l=>∃vs,tb h a vs/\bM F O l vs.toList
 | .dict l=>∃o f,h.get? a=some o/\Hm F.pr F.w a o f/\ew F O l f
 | .inst c d=>∃o,h.get? a=some o/\o.cls= .ref c/\(∀c,o.data≠.cls c)/\(∀e es,o.data≠.fields es/\o.data≠.cell e)/\(match d with
  |none=>o.dict=none
  |some j=>∃b,O[j]?=some b/\o.dict=some b)
 | .ns l=>∃m,h.Ns1 a m/\Ip F O l m
 | .ei p k=>∃o b,h.get? a=some o/\O[k]?=some b/\∀F',jp F F'->p F' o b
def Fz (F:FZ) (h:kT):Prop:=∀a o,F.f a=some o->h.get? a=some o
structure Cfg where
 prog:jT
 w:oK
 tabs:List bz
 t0:bz->Array bq
 K:bz->Option Obj
 mg:bD->Option bq
 mb:bD->Option bq
structure Base (C:Cfg) (s:aN):Prop where
 bare:rq s.gens
 tab:∀P∈C.tabs,∃vs,s.heap.get? P=some (tabObj (C.t0 P++vs))
 tok:0<s.toks
def Io (o:Obj) (m:bD->Option bq):Prop:=∃es a,o.data= .dict es a/\StrKeys es/\∀name,nsFind es name=m name
structure DN (C:Cfg) (F:FZ):Prop where
 pr:F.pr=C.prog
 w:F.w=C.w
 k:∀a o,C.K a=some o->F.f a=some o
 tabs:∀P∈C.tabs,F.f P=none
 g:∃o,C.K bN=some o/\Io o C.mg
 b:∃o,C.K cx=some o/\Io o C.mb
 Ja:∃o,C.K om=some o
 lim:∃o m,C.K cStatics=some o/\Io o m/\m "sys.recursionlimit" =none
structure qJ (C:Cfg) (J:aZ) (F:FZ) (O:List bz) (h:kT):Prop where
 len:O.length=J.length
 nodup:∀(i j:Nat) a,O[i]?=some a->O[j]?=some a->i=j
 fr:∀a∈O,F.f a=none/\a∉C.tabs/\a<h.objs.size
 at_:∀(i:Nat) a m,O[i]?=some a->J[i]?=some m->s' F O h a m
structure Wr where
 a:List Addr:=[]
 g:List Nat:=[]
noncomputable abbrev Wr.no:Wr:={}
structure rk (C:Cfg) (W:Wr) F (s:aN) F' (u:aN):Prop where
 le:jp F F'
 fz:Fz F' u.heap
 keep:∀a o,a∉C.tabs->a∉W.a->s.heap.get? a=some o->u.heap.get? a=some o
 new:∀a o,F'.f a=some o->F.f a=some o\/s.heap.objs.size<=a
 size:s.heap.objs.size<=u.heap.objs.size
 os:u.os=s.os
 gens:∀i g,i∉W.g->s.gens[i]?=some g->u.gens[i]?=some g
 base:Base C u
theorem rk.refl (b:Fz F s.heap) (c:Base C s):rk C W F s F s:=
 ⟨.refl F,b,λa a a a e=>e,λa a=> .inl,ai _,rfl,λa a a e=>e,c⟩
theorem rk.weaken (x:rk C W F s F' u) (h:∀a∈W.a,a∈b.a) (c:∀a∈W.g,a∈b.g):rk C b F s F' u:=
 ⟨x.le,x.fz,λa o d e=>x.keep a o d (λq=>e (h a q)),x.new,x.size,x.os,λi g z=>x.gens i g (λq=>z (c i q)),x.base⟩
theorem DN.mono (h:DN C F) (c:jp F F') (d:∀P∈C.tabs,F'.f P=none):DN C F':=⟨c.1.1.trans h.pr,c.1.2.trans h.w,λa o e=>c.2 a o (h.k a o e),d,h.g,h.b,h.Ja,h.lim⟩
theorem Base.lt (h:Base C s):∀P∈C.tabs,P<s.heap.objs.size:=λP b=>eY (h.tab P b) λa=>aU
theorem rk.top (x:rk C W F s F' u) (b:Base C s) (h:DN C F):DN C F':=
 h.mono x.le λP a=>by
  induction e:F'.f P using cO with
  |none=>rfl
  |some o=>
   rcases x.new P o e with q|q
   ·exact aW ((h.tabs P a).symm.trans q)
   ·exact absurd (b.lt P a) (bL.mpr q)
set_option genCtorIdx true in
inductive afq where|loc|Ii|Gn|bad
 deriving DecidableEq
noncomputable def tW:Option um->afq
 |some .local=> .loc
 |some .cell=> .Ii
 |some .free=> .Ii
 |some .globalImplicit=> .Gn
 |_=> .bad
noncomputable abbrev bk:=Nat->Option CV
noncomputable def upd (Z:bk) (i:Nat) (c:CV):bk:=λj=>match dB j i with
 |true=>some c
 |false=>Z j
theorem lA Z i c:upd Z i c i=some c:=by
 unfold upd;rw[vA]
theorem cG Z {i j} c (h:j≠i):upd Z i c j=Z j:=by
 unfold upd
 induction e:dB j i using cB with
 |false=>rfl
 |true=>exact absurd (bC e) h
def kL (U:pB) (h:kT) (x:bD) (v:bq):Prop:=
 match U.kindOf x with
 |some .local=>∃m,h.Ns U.locals m/\m x=some v
 |some .cell=>∃a,U.cells.lookup x=some a/\h.IsCell a (some v)
 |some .free=>(x==("__classdict__" :bD))=false/\∃a,U.cells.lookup x=some a/\h.IsCell a (some v)
 |_=>False
theorem mem_of_lookup:∀{l:List (bD×bz)},l.lookup x=some a->(x,a)∈l:=λh=>by
 refine iQ (eT.mp h) λb c q a=>?_
 simp[q]
structure o_ (C:Cfg) (U:pB) (Γ:List (bD×Nat)) (Z:bk) (F:FZ) (O:List bz) (h:kT):Prop where
 kind:U.scope.kind= .function
 glob:U.globals=bN
 blt:U.builtins=cx
 ns:∃m,h.Ns U.locals m
 Ca:F.f U.locals=none
 Ao:U.locals∉C.tabs/\U.locals∉O
 cell:∀x a,(x,a)∈U.cells->(∃v,h.IsCell a v)/\a∉C.tabs/\a∉O
 inj:∀x y a,U.cells.lookup x=some a->U.cells.lookup y=some a->x=y
 vC:∀x y i,Γ.lookup x=some i->Γ.lookup y=some i->x=y
 vars:∀x i c,Γ.lookup x=some i->Z i=some c->∃v,kL U h x v/\Rep F O c v
noncomputable def dX (U:pB):Wr:={a:=U.locals::U.cells.map (·.2)}
noncomputable def iF (H:jH) (U:pB):Wr:={a:=U.locals::(U.cells.filter λp=>H.names.lookup p.1==some .cell).map (·.2)}
theorem gU:∀a∈(iF H U).a,a∈(dX U).a:=λa h=>by
 simp only[iF,dX,aE,bO] at h ⊢
 rcases h with h|⟨p,b,rfl⟩
 ·exact .inl h
 ·exact .inr (aP p ((nZ.mp b).1) rfl)
theorem IsCell.keeps {h b:kT} (x:h.IsCell a v) (k:∀o,h.get? a=some o->b.get? a=some o):b.IsCell a v:=aG x λo e d=>(aP o (k o e) d)
theorem kL.elim {K:Prop} (y:kL U h x v) (l:U.kindOf x=some .local->∀m,h.Ns U.locals m->m x=some v->K) (c:U.kindOf x=some .cell->∀a,U.cells.lookup x=some a->h.IsCell a (some v)->K)
  (f:U.kindOf x=some .free->(x==("__classdict__" :bD))=false->∀a,U.cells.lookup x=some a->h.IsCell a (some v)->K):K:=by
 unfold kL at y
 induction e:U.kindOf x using cO with
 |none=>rw[e] at y;exact y.elim
 |some k=>
  rw[e] at y
  induction k using e_ with
  |«local»=>exact aG y λm n=>l e m n
  |cell=>exact aG y λa p=>c e a p
  |free=>exact fK y λb y=>aG y λa p=>f e b a p
  |_=>exact y.elim
theorem kL.adL (k:U.kindOf x=some .local) (n:h.Ns U.locals m) (q:m x=some v):kL U h x v:=by
 unfold kL;exact af k (aP m n q)
theorem kL.aar (k:U.kindOf x=some .cell) (p:U.cells.lookup x=some a) (q:h.IsCell a (some v)):kL U h x v:=by
 unfold kL;exact af k (aP a p q)
theorem kL.aaq (k:U.kindOf x=some .free) (b:(x==("__classdict__" :bD))=false) (p:U.cells.lookup x=some a) (q:h.IsCell a (some v)):kL U h x v:=by
 unfold kL;exact af k ⟨b,a,p,q⟩
theorem kL.keeps (y:kL U h x v) (k:∀a o,(a=U.locals\/∃x,U.cells.lookup x=some a)->h.get? a=some o->b.get? a=some o):kL U b x v:=
 y.elim (λe m n q=> .adL e (n.at' λo=>k _ o (.inl rfl)) q) (λe a l c=> .aar e l (IsCell.keeps c λo=>k _ o (.inr ⟨_,l⟩))) λe d a l c=> .aaq e d l (IsCell.keeps c λo=>k _ o (.inr ⟨_,l⟩))
structure Go C (X:Wr) F O s F' aH aO u:Prop where
 ext:rk C ⟨O++X.a,X.g⟩ F s F' u
 jo:ny O aH
 new:∀a∈aH,a∈O\/s.heap.objs.size<=a
 dj:qJ C aO F' aH u.heap
theorem Go.fN (g:Go C X F O s F' aH aO u) (h:F.f a=none) (k:a<s.heap.objs.size):F'.f a=none:=
 oE (F'.f a) (λe=>e) λo e=>(g.ext.new a o e).elim (λz=>aW (h.symm.trans z)) λz=>absurd k (bL.mpr z)
theorem Go.oN (g:Go C X F O s F' aH aO u) (h:a∉O) (k:a<s.heap.objs.size):a∉aH:=λq=>(g.new a q).elim h (vy.mpr k)
theorem Go.refl (b:Fz F s.heap) (c:Base C s) (d:qJ C J F O s.heap):Go C X F O s F O J s:=
 ⟨.refl b c,.refl _,λa=> .inl,d⟩
theorem Go.then (x:Go C X F O s F' aH aO u) (y:Go C Y F' aH u d b c f) (h:∀a∈Y.a,a∈X.a\/s.heap.objs.size<=a) (l:∀i∈Y.g,i∈X.g\/s.gens[i]?=none):Go C X F O s d b c f:=
 ⟨⟨x.ext.le.trans y.ext.le,y.ext.fz,λa o k j e=>y.ext.keep a o k (λq=>(bt.mp q).elim (λq=>(x.new a q).elim (λq=>j (dG _ q)) (vy.mpr (aU e))) λq=>(h a q).elim (λq=>j (dz _ q)) (vy.mpr (aU e))) (x.ext.keep a o k j e),
  λa o e=>(y.ext.new a o e).elim (x.ext.new a o) λq=> .inr (ag x.ext.size q),ag x.ext.size y.ext.size,y.ext.os.trans x.ext.os,λi g h e=>y.ext.gens i g (λq=>(l i q).elim h λz=>aW (z.symm.trans e)) (x.ext.gens i g h e),y.ext.base⟩,
  λi a e=>y.jo i a (x.jo i a e),λa h=>(y.new a h).elim (x.new a) λq=> .inr (ag x.ext.size q),y.dj⟩
theorem Go.trans (x:Go C X F O s F' aH aO u) (y:Go C X F' aH u d b c e):Go C X F O s d b c e:=x.then y (λa=> .inl) λi=> .inl
theorem Go.weaken (x:Go C X F O s F' aH aO u) (h:∀a∈X.a,a∈X'.a) (b:∀a∈X.g,a∈X'.g):Go C X' F O s F' aH aO u:=
 ⟨x.ext.weaken (λa q=>by
  rw[bt] at q ⊢
  exact q.imp id (h a)) b,x.jo,x.new,x.dj⟩
theorem Go.pure (x:Go C .no F O s F' aH aO u):Go C X F O s F' aH aO u:=x.weaken (λa=>bw) λa=>bw
theorem o_.aif (x:o_ C U c Z F O h):∀a∈(dX U).a,a∉O:=λa h=>by
 simp only[dX,aE,bO] at h
 rcases h with rfl|⟨⟨y,b⟩,h,rfl⟩
 ·exact x.Ao.2
 ·exact(x.cell y b h).2.2
theorem o_.own (x:o_ C U b Z F O h):∀a∈(iF H U).a,a∉O:=λa q=>x.aif a (gU a q)
theorem o_.go (x:o_ C U t Z F O s.heap) (g:Go C X F O s F' aH aO u) (d:∀a∈X.a,a∉(dX U).a):o_ C U t Z F' aH u.heap:=by
 have e:=g.ext
 have f:=λo=>e.keep _ o x.Ao.1 (λh=>by
  rcases bt.mp h with h|h
  ·exact x.Ao.2 h
  ·exact d _ h (by simp[dX]))
 have j:=λy a l o q=>
  e.keep _ o (x.cell y a l).2.1 (λh=>by
   rcases bt.mp h with h|h
   ·exact(x.cell y a l).2.2 h
   ·refine d _ h ?_
    simp only[dX,aE,bO]
    exact .inr (aP _ l rfl)) q
 have k:=afX x.ns λm o a a h a=>aU h
 refine⟨x.kind,x.glob,x.blt,?_,g.fN x.Ca k,⟨x.Ao.1,g.oN x.Ao.2 k⟩,?_,x.inj,x.vC,?_⟩
 ·obtain⟨m,n⟩:=x.ns
  exact⟨m,n.at' f⟩
 ·intro y a l
  obtain⟨⟨v,c⟩,b⟩:=x.cell y a l
  exact fg ⟨v,IsCell.keeps c (j y a l)⟩ b.1 (g.oN b.2 (aG c λo q a=>aU q))
 ·refine λy i c w b=>aG (x.vars y i c w b) λv A r=>(aP v (A.keeps ?_) (r.mono e.le g.jo))
  rintro a o (rfl|⟨z,l⟩) q
  ·exact f o q
  ·exact j z a (mem_of_lookup l) o q
section
variable {M:Model} {A:bU} {E:bq->aN->Prop} {s:aN} {U:pB}
theorem oM (b:U.scope.kind= .function) (d:kL U s.heap x v) (h:Q v s):aD M A (loadName U x) Q E s:=
 d.elim (λe m n q=>wpAny_loadName_local b e n q h) (λe a l c=>wpAny_loadName_cell b e l c h) λe f a l c=>wpAny_loadName_free b e l c h f
end
theorem s'.keeps (x:s' F O h a m) (k:∀o,h.get? a=some o->g.get? a=some o):s' F O g a m:=by
 induction m using MO.casesOn with
 |list l=>obtain⟨vs,⟨o,p,q⟩,r⟩:=x;exact(aP vs (aP o (k _ p) q) r)
 |dict l=>exact iQ x λo f p r=>(fX o f (k _ p) r)
 |inst c d=>exact aG x λo p r=>(aP o (k _ p) r)
 |ns l=>obtain⟨m,⟨o,es,i,p,r⟩,q⟩:=x;exact(aP m (ww o es i (k _ p) r) q)
 |ei p j=>exact iQ x λo b e q=>(fX o b (k _ e) q)
theorem Ip.mono (x:Ip F O l m) (a:jp F F') (b:ny O aH):Ip F' aH l m:=
 ⟨λy c e=>aG (x.1 y c e) λv d f=>aP v d (f.mono a b),x.2⟩
theorem s'.mono (x:s' F O h a m) (f:jp F F') (g:ny O aH):s' F' aH h a m:=by
 induction m using MO.casesOn with
 |list l=>exact aG x λvs p r=>(aP vs p (r.mono f g))
 |dict l=>exact cz x λo i p d r=>(eA o i p (af f.1.1 (af f.1.2 d)) (r.mono f g))
 |inst c d=>
  refine GJ x λo p q r k t=>UE o p q r k ?_
  induction d using cO with
  |none=>exact t
  |some j=>exact aG t λb e n=>(aP b (g _ _ e) n)
 |ns l=>exact aG x λm p q=>(aP m p (q.mono f g))
 |ei p j=>exact cz x λo b e s q=>(eA o b e (g _ _ s) (λu v=>q u (f.trans v)))
theorem qJ.ext (x:qJ C J F O s.heap) (e:rk C W F s F' u) (d:∀a∈W.a,a∉O):qJ C J F' O u.heap:=by
 refine⟨x.len,x.nodup,λa h=>?_,λi a m b g=>?_⟩
 ·refine qk (x.fr a h) λp q r=>(fg ?_ q (av r e.size))
  induction z:F'.f a using cO with
  |none=>rfl
  |some o=>
   rcases e.new a o z with G5|G5
   ·exact aW (p.symm.trans G5)
   ·exact absurd r (bL.mpr G5)
 ·have c:=bh b
  exact((x.at_ i a m b g).keeps λo=>e.keep a o (x.fr a c).2.1 (λh=>d a h c)).mono e.le (.refl _)
theorem Go.wi (x:qJ C J F O s.heap) (e:rk C X F s F' u) (b:∀a∈X.a,a∉O):Go C X F O s F' O J u:=
 ⟨e.weaken (λa=>dz _) λa h=>h,.refl _,λa=> .inl,x.ext e b⟩
theorem rk.Cu (g:Fz F s.heap) (d:Base C s) (h:F.f a=none) (l:a∉C.tabs) (i:a∈W.a) (c:jI a s.heap m) (j:s.toks<=n:=by first|exact ai _|exact aQ _|assumption|decide):rk C W F s F {s with heap:=m,toks:=n}:=by
 refine⟨.refl F,λb o e=>((c.2 b (λq=>by subst q;exact aW (h.symm.trans e))).trans (g b o e)),λb o t r e=>((c.2 b λq=>by subst q;exact r i).trans e),λa a=> .inl,dW c.1.symm,rfl,λa a a e=>e,⟨d.bare,λP k=>?_,av d.tok j⟩⟩
 ·exact eY (d.tab P k) λvs e=>⟨vs,(c.2 P λq=>by clear j c i h g;subst q;exact l k).trans e⟩
theorem wk {h:kT} (n:h.Ns b m) (c:h.IsCell a v):b≠a:=by
 rintro rfl
 refine abP n λo es i e d a=>aG c λj f g=>?_
 obtain rfl:=ab (e.symm.trans f)
 cases d.symm.trans g
theorem kY (g:o_ C U Γ Z F O s.heap) (hf:Fz F s.heap) (hb:Base C s)
  (T:Γ.lookup x=some i) (z:U.kindOf x=some .local\/(U.kindOf x=some .cell/\H.names.lookup x=some .cell/\∃a,U.cells.lookup x=some a/\F.f a=none)) (r:Rep F O c v)
  (h:∀u,rk C (iF H U) F s F u->o_ C U Γ (upd Z i c) F O u.heap->u.heap.objs.size=s.heap.objs.size->Q () u):aD M A (storeName U x v) Q E s:=by
 rcases z with z|⟨z,L,a,N,hF⟩
 ·obtain⟨m,n⟩:=g.ns
  refine wpAny_storeName_local z n (λX n' t=>h _ (rk.Cu hf hb g.Ca g.Ao.1 (by simp[iF]) t) ⟨g.kind,g.glob,g.blt,⟨_,n'⟩,g.Ca,g.Ao,λy b l=>?_,g.inj,g.vC,λy j d B D=>?_⟩ t.1) (g.kind▸rfl)
  ·obtain⟨⟨w,k⟩,q⟩:=g.cell y b l
   exact⟨⟨w,IsCell.keeps k λo=>(t.2 b (qa (wk n k))).trans⟩,q⟩
  ·by_cases G:j=i
   ·subst G
    rw[lA] at D
    refine eh (ab D) (af (g.vC y x j B T) (aP v ?_ r))
    exact .adL z n' (by simp)
   ·refine aG (g.vars y j d B ((cG _ _ G).symm.trans D)) λw Y a0=>aP w ?_ a0
    have I:y≠x:=by rintro rfl;exact G (ab (T.symm.trans B)).symm
    have P:∀{b},s.heap.IsCell b (some w)->X.IsCell b (some w):=λk=>IsCell.keeps k λo=>(t.2 _ (qa (wk n k))).trans
    refine Y.elim (λe m2 n2 e2=> .adL e n' ?_) (λe b l k=> .aar e l (P k)) λe h0 b l k=> .aaq e h0 l (P k)
    simp only[I,if_false]
    refine jB n λo es ep a1 a2 a3 a4=>jB n2 λo' a5 a6 b1 b2 b3 b4=>?_
    obtain rfl:=ab (a1.symm.trans b1)
    rw[a2] at b2;injection b2 with b2;subst b2
    rw[<-a4,b4];exact e2
 ·obtain⟨⟨w0,J⟩,hT,b⟩:=g.cell x a (mem_of_lookup N)
  refine wpAny_storeName_cell g.kind z N J λX c' t=>?_
  have ext:=rk.Cu (W:=iF H U) hf hb hF hT (by
   simp only[iF,aE,bO]
   exact .inr (aP (x,a) (nZ.mpr ⟨mem_of_lookup N,af L rfl⟩) rfl)) t
  obtain⟨m,n⟩:=g.ns
  have R:=wk n J
  refine h _ ext ⟨g.kind,g.glob,g.blt,⟨m,n.sameBut t R⟩,g.Ca,g.Ao,λy b l=>?_,g.inj,g.vC,λy j d B D=>?_⟩ t.1
  ·obtain⟨⟨w,k⟩,q⟩:=g.cell y b l
   by_cases S:b=a
   ·clear hT hF;subst S;exact⟨⟨_,c'⟩,q⟩
   ·exact⟨⟨w,IsCell.keeps k λo=>(t.2 b S).trans⟩,q⟩
  ·by_cases G:j=i
   ·clear n ext J L h;subst G
    rw[lA] at D
    refine eh (ab D) (af (g.vC y x j B T) (aP v ?_ r))
    exact .aar z N c'
   ·refine aG (g.vars y j d B ((cG _ _ G).symm.trans D)) λw Y=>aP w ?_
    have I:y≠x:=by rintro rfl;exact G (ab (T.symm.trans B)).symm
    have P:∀{b},U.cells.lookup y=some b->s.heap.IsCell b (some w)->X.IsCell b (some w):=λl k=>IsCell.keeps k λo=>(t.2 _ λq=>I (g.inj _ _ _ (q▸l) N)).trans
    exact Y.elim (λe m2 n2 e2=> .adL e (n2.sameBut t R) e2) (λe b l k=> .aar e l (P l k)) λe h0 b l k=> .aaq e h0 l (P l k)
end Internal
namespace Internal
open PySem
set_option tactic.hygienic true
noncomputable abbrev sz (s:aN):Nat:=s.heap.objs.size
def up (s u:aN):Prop:=sz s<=sz u/\s.toks<=u.toks
theorem up.rfl s:up s s:=⟨ai _,ai _⟩
theorem up.trans (h:up a b) (k:up b c):up a c:=⟨ag h.1 k.1,ag h.2 k.2⟩
theorem up.upd s a f:up s {s with heap:=s.heap.update a f}:=⟨dW (CU ..).symm,ai _⟩
theorem up.push s o:up s {s with heap:=s.heap.push o}:=⟨ag (aQ _) (dW (dv ..).symm),ai _⟩
theorem up.tok s:up s {s with toks:=s.toks+1}:=⟨ai _,aQ _⟩
theorem NR (h:Runs M a p t fs s e u):up s u:=by
 induction h<;>first|assumption|exact up.rfl _|(apply up.trans<;>assumption)|exact(up.upd ..).trans ‹_›|exact(up.push ..).trans ‹_›|exact(up.tok _).trans ‹_›
theorem VG:Wakes M i p g r s res u->up s u:=by
 have d:∀{e p' t fs},(∃b dm,Runs M e p' t fs (s.setGen g .running) b dm/\b.quiet=true/\res=b.result/\u=dm.setGen g b.genState)->up s u:=λh=>Pr h λb dm f a a q=>q▸(NR f:up (s.setGen g .running) dm)
 unfold Wakes
 induction s.gens[g]? using cO with
 |none=>exact ar
 |some st=>
  induction st using vp with
  |fresh c=>
   induction r with
   |send v=>induction v using cK<;>first|exact d|exact λh=>h.2▸up.rfl _
   |throw x=>exact λh=>h.2▸up.rfl _
  |suspended=>exact d
  |_=>exact λh=>h.2▸up.rfl _
theorem agi M i s0 (t:Sem α):∀Q E p s,up s0 s->Sem.wp M i t Q E p s->
  Sem.wp M i t (λa p' u=>up s0 u/\Q a p' u) (λe p' u=>up s0 u/\E e p' u) p s:=by
 induction t with
 |load a _ k d=>exact λQ E p s b h=>aG h λo n h=>aP o n (d o Q E p s b h)
 |genState g k d=>exact λQ E p s b h=>aG h λst q h=>aP st q (d _ Q E p s b h)
 |update a _ f k d=>exact λQ E p s b h=>⟨h.1,d () Q E p _ (b.trans (up.upd ..)) h.2⟩
 |alloc o k d=>exact λQ E p s b h=>d _ Q E p _ (b.trans (up.push ..)) h
 |fresh k d=>exact λQ E p s b h=>d _ Q E p _ (b.trans (up.tok _)) h
 |choose v m k d=>exact λQ E p s b h=>⟨h.1,d _ Q E p _ b h.2⟩
 |call c w _ _ k d=>exact λQ E p s b h=>iQ h λr u j h=>fX r u j (d r Q E p u (b.trans (NR j)) h)
 |resume g r _ k d=>exact λQ E p s b h=>iQ h λres u l h=>fX res u l (d res Q E p u (b.trans (VG l)) h)
 |_=>first|exact λQ E p s b h=>h|exact λQ E p s b h=>⟨b,h⟩|(rename_i d;exact λQ E p s b h=>d _ Q E _ _ b h)
section
variable {α:Type} {M:Model} {A:bU} {s:aN}
theorem gF {t:Sem α} (h:aD M A t (λa u=>up s u->Q a u) (λe u=>up s u->E e u) s):aD M A t Q E s:=
 ao (Q:=λa u=>up s u/\(up s u->Q a u)) (E:=λe u=>up s u/\(up s u->E e u)) (λc p b=>agi M c s t _ _ p s (up.rfl _) (h c p b)) (λa a x=>x.2 x.1) λa a x=>x.2 x.1
theorem fZ {t:Sem α} (h:aD M A t (λa u=>sz s<=sz u->Q a u) (λe u=>sz s<=sz u->E e u) s):aD M A t Q E s:=
 gF (ao h (λa u x y=>x y.1) λa u x y=>x y.1)
theorem et {t:Sem α} (h:aD M A t (λa u=>s.toks<=u.toks->Q a u) (λe u=>s.toks<=u.toks->E e u) s):aD M A t Q E s:=
 gF (ao h (λa u x y=>x y.2) λa u x y=>x y.2)
end
end Internal
namespace Internal
open PySem PySem.W PySem.Spec PySem.Calls PyProof.Rows
set_option tactic.hygienic false
structure Nw C F O J (s:aN):Prop where
 top:DN C F
 fz:Fz F s.heap
 base:Base C s
 dj:qJ C J F O s.heap
theorem Nw.go (x:Nw C F O J s) (g:Go C X F O s F' aH aO u):Nw C F' aH aO u:=
 ⟨g.ext.top x.base x.top,g.ext.fz,g.ext.base,g.dj⟩
theorem Nw.refl (x:Nw C F O J s):Go C X F O s F O J s:= .refl x.fz x.base x.dj
inductive cM C X F O s (Q:CV->aZ->Prop) v u:Prop where
 |mk F' aH aO c:Go C X F O s F' aH aO u->Rep F' aH c v->Q c aO->cM C X F O s Q v u
def a_:bq->aN->Prop:=λ_ _=>False
def bQ (n:Nat) (A:bU):Prop:=A.handled=none/\A.depth+n<=900/\A.units+10*n<=9000
theorem Ey {a n c:Nat} (h:a+10*(n+1)<=9000) (b:c<=10):a+c+10*n<=9000:=zT (zT (zE (ej ..)) (bJ (zT (zE (fJ ..)) (bJ b _)) _)) h
theorem bQ.le (h:bQ n A) (a:m<=n):bQ m A:=(fg h.1 (by have:=h.2.1;exact zT (bJ a _) this) (zT (bJ (aX 10 a) _) h.2.2))
theorem bQ.handled (h:bQ n A):A.handled=none:=h.1
theorem bQ.depth (h:bQ n A):A.depth<recursionLimit:=zB (zT zP h.2.1) (by decide)
theorem bQ.in1 (h:bQ (n+1) A):bQ n A.in1:=(fg h.1 (by have:=h.2.1;exact zT (bJ zP _) this) (Ey h.2.2 (by decide:1<=10)))
theorem bQ.deeper (h:bQ (n+1) A):bQ n (A.deeper U):=(fg h.1 (zI h.2.1) (Ey h.2.2 (by decide:3<=10)))
theorem rk.toks (c:Fz F s.heap) (b:Base C s) (d:s.toks<=f:=by first|exact ai _|exact aQ _|assumption|decide):rk C W F s F {s with toks:=f}:=
 ⟨.refl F,c,λa a a a e=>e,λa a=> .inl,ai _,rfl,λa a a e=>e,⟨b.bare,b.tab,av b.tok d⟩⟩
theorem Go.toks (x:Nw C F O J s) (b:s.toks<=c:=by first|exact ai _|exact aQ _|assumption|decide):Go C X F O s F O J {s with toks:=c}:=
 ⟨.toks x.fz x.base b,.refl _,λa=> .inl,x.dj⟩
theorem cM.toks (x:Nw C F O J s) (r:Rep F O c v) (h:Q c J) (a:s.toks<=b:=by first|exact ai _|exact aQ _|assumption|decide):cM C X F O s Q v {s with toks:=b}:=
 ⟨F,O,J,c,.toks x a,r,h⟩
theorem cM.same (x:Nw C F O J s) (r:Rep F O c v) (h:Q c J):cM C X F O s Q v s:=
 ⟨F,O,J,c,x.refl,r,h⟩
theorem cM.mono (h:cM C X F O s Q v u) (a:∀c J,Q c J->b c J):cM C X F O s b v u:=by
 obtain⟨F',aH,aO,c,x,r,q⟩:=h
 exact⟨F',aH,aO,c,x,r,a c aO q⟩
theorem cM.trans (g:Go C X F O s F' aH aO u) (h:cM C X F' aH u Q v d):cM C X F O s Q v d:=by
 obtain⟨e,a,b,c,x,r,q⟩:=h
 exact⟨e,a,b,c,g.trans x,r,q⟩
theorem oz:Rep F O .none v↔v= .none:=ru
theorem iE:Rep F O (.bool b) v↔v= .bool b:=ru
theorem cw:Rep F O (.int i) v↔∃t,v= .int i t:=ru
theorem eQ:Rep F O (.bW x) v↔∃t,v= .float x t:=ru
theorem ez:Rep F O (.str x) v↔∃t,v= .str x t:=ru
theorem Aj:Rep F O (.tup l) v↔∃a o vs,v= .ref a/\F.f a=some o/\yA "tuple" o vs/\bM F O l vs.toList:=ru
theorem NW:Rep F O (.lst l) v↔∃a o vs,v= .ref a/\F.f a=some o/\yA "list" o vs/\bM F O l vs.toList:=ru
theorem NX:Rep F O (.gx l) v↔∃a o b,v= .ref a/\F.f a=some o/\Hm F.pr F.w a o b/\ew F O l b:=ru
theorem io:Rep F O (.own i) v↔∃a,O[i]?=some a/\v= .ref a:=ru
theorem qi:Rep F O (.obj w) v↔v=w:=ru
def ahl (op:iT) (a b:Int) (Q:CV->Prop):Prop:=match op with
 | .Add=>Q (.int (a+b))
 | .Sub=>Q (.int (a-b))
 | .Mult=>(a.natAbs<2^63\/b.natAbs<2^63)/\Q (.int (a*b))
 | .FloorDiv=>(b≠0/\b.natAbs<1073741824)/\Q (.int (a.fdiv b))
 | .Mod=>b≠0/\Q (.int (a.fmod b))
 | .Pow=>(0<=b/\(nA a:Int)*b<=2^27)/\Q (.int (a^b.toNat))
 | .BitAnd=>Q (.int (Builtin.bitAnd a b))
 | .Div=>(b≠0/\eX (xd (decide (a<0) !=decide (b<0)) a.natAbs b.natAbs)=false)/\Q (.bW (xd (decide (a<0) !=decide (b<0)) a.natAbs b.natAbs))
 |_=>False
def ahz (op:iT) (a b:UInt64) (Q:CV->Prop):Prop:=match op with
 | .Add=>Q (.bW (gu a b))
 | .Sub=>Q (.bW (cq a b))
 | .Mult=>Q (.bW (cC a b))
 | .Div=>fo b=false/\Q (.bW (iu a b))
 | .Mod=>fo b=false/\Q (.bW (HG a b).2)
 |_=>False
def ahy (op:iT) (a:UInt64) (b:Int) (Q:CV->Prop):Prop:=match op with
 | .Add=>b.natAbs<2^1000/\Q (.bW (gu a (dn b)))
 | .Sub=>b.natAbs<2^1000/\Q (.bW (cq a (dn b)))
 | .Mult=>b.natAbs<2^1000/\Q (.bW (cC a (dn b)))
 | .Div=>(eX (dn b)=false/\fo (dn b)=false)/\Q (.bW (iu a (dn b)))
 |_=>False
def ahm (op:iT) (a:Int) (b:UInt64) (Q:CV->Prop):Prop:=match op with
 | .Add=>a.natAbs<2^1000/\Q (.bW (gu (dn a) b))
 | .Sub=>a.natAbs<2^1000/\Q (.bW (cq (dn a) b))
 | .Mult=>a.natAbs<2^1000/\Q (.bW (cC (dn a) b))
 | .Div=>(eX (dn a)=false/\fo b=false)/\Q (.bW (iu (dn a) b))
 |_=>False
def An (op:iT) (a b:CV) (Q:CV->Prop):Prop:=match a with
 | .int x=>(match b with
  | .int y=>ahl op x y Q
  | .bW y=>ahm op x y Q
  |_=>False)
 | .bW x=>(match b with
  | .int y=>ahy op x y Q
  | .bW y=>ahz op x y Q
  |_=>False)
 |_=>False
theorem mU {n:Int} (h:n.natAbs<2^1000):n.natAbs<2^1023:=av h (mF (by decide) (by decide))
theorem mulOk_of (h:a.natAbs<2^63\/b.natAbs<2^63):IntMulOk a b:=by
 rcases h with h|h
 ·exact .of_left (Iz (by grind only) (by grind only))
 ·exact .of_right (Iz (by lia) (by lia))
section
variable {C:Cfg} {X:Wr} {F:FZ} {O:List bz} {J:aZ} {A:bU} {s:aN} {Q:CV->Prop} {prog:jT} {w:oK}
theorem ja (h:b=false):¬b=true:=λe=>bV (h.symm.trans e)
inductive Nums op Q:CV->CV->Prop
 |ii (a b):ahl op a b Q->Nums op Q (.int a) (.int b)
 |aiC (a b):ahm op a b Q->Nums op Q (.int a) (.bW b)
 |fi (a b):ahy op a b Q->Nums op Q (.bW a) (.int b)
 |ff (a b):ahz op a b Q->Nums op Q (.bW a) (.bW b)
theorem Am (h:An op a b Q):Nums op Q a b:=by
 induction a using CV.casesOn with
 |int x=>induction b using CV.casesOn with
  |int y=>exact .ii x y h
  |bW y=>exact .aiC x y h
  |_=>exact ar h
 |bW x=>induction b using CV.casesOn with
  |int y=>exact .fi x y h
  |bW y=>exact .ff x y h
  |_=>exact ar h
 |_=>exact ar h
theorem XT (d:Nw C F O J s) (h:ahl op a b Q):
  aD (aI prog w) A (binaryOp op (.int a t) (.int b e)) (cM C X F O s (λc aO=>Q c/\aO=J)) a_ s:=by
 induction op using gO with
 |Add=>exact Qz (cM.toks d (cw.mpr ⟨_,rfl⟩) ⟨h,rfl⟩)
 |Sub=>exact Qu (cM.toks d (cw.mpr ⟨_,rfl⟩) ⟨h,rfl⟩)
 |Mult=>exact Qw (cM.toks d (cw.mpr ⟨_,rfl⟩) ⟨h.2,rfl⟩) (mulOk_of h.1)
 |FloorDiv=>exact HT h.1.1 (cM.toks d (cw.mpr ⟨_,rfl⟩) ⟨h.2,rfl⟩) (.inl (PyProof.noPylong_small h.1.2))
 |Mod=>exact MW h.1 (cM.toks d (cw.mpr ⟨_,rfl⟩) ⟨h.2,rfl⟩)
 |Pow=>exact Qv h.1.1 h.1.2 (cM.toks d (cw.mpr ⟨_,rfl⟩) ⟨h.2,rfl⟩)
 |BitAnd=>exact Qx (cM.toks d (cw.mpr ⟨_,rfl⟩) ⟨h,rfl⟩)
 |Div=>exact HI (ja (beq_eq_false_iff_ne.mpr h.1.1)) (ja h.1.2) (cM.toks d (eQ.mpr ⟨_,rfl⟩) ⟨h.2,rfl⟩)
 |_=>exact ar h
theorem Yx (d:Nw C F O J s) (h:ahz op a b Q):
  aD (aI prog w) A (binaryOp op (.float a t) (.float b e)) (cM C X F O s (λc aO=>Q c/\aO=J)) a_ s:=by
 induction op using gO with
 |Add=>exact MH (cM.toks d (eQ.mpr ⟨_,rfl⟩) ⟨h,rfl⟩)
 |Sub=>exact MC (cM.toks d (eQ.mpr ⟨_,rfl⟩) ⟨h,rfl⟩)
 |Mult=>exact MF (cM.toks d (eQ.mpr ⟨_,rfl⟩) ⟨h,rfl⟩)
 |Div=>exact El (ja h.1) (cM.toks d (eQ.mpr ⟨_,rfl⟩) ⟨h.2,rfl⟩)
 |Mod=>exact IG ((if_neg (ja h.1))▸(cM.toks d (eQ.mpr ⟨_,rfl⟩) ⟨h.2,rfl⟩))
 |_=>exact ar h
theorem Yw (d:Nw C F O J s) (h:ahy op a b Q):
  aD (aI prog w) A (binaryOp op (.float a t) (.int b e)) (cM C X F O s (λc aO=>Q c/\aO=J)) a_ s:=by
 induction op using gO with
 |Add=>exact IR (mU h.1) (cM.toks d (eQ.mpr ⟨_,rfl⟩) ⟨h.2,rfl⟩)
 |Sub=>exact IK (mU h.1) (cM.toks d (eQ.mpr ⟨_,rfl⟩) ⟨h.2,rfl⟩)
 |Mult=>exact IM (mU h.1) (cM.toks d (eQ.mpr ⟨_,rfl⟩) ⟨h.2,rfl⟩)
 |Div=>exact BM (ja h.1.1) (ja h.1.2) (cM.toks d (eQ.mpr ⟨_,rfl⟩) ⟨h.2,rfl⟩)
 |_=>exact ar h
theorem XU (d:Nw C F O J s) (h:ahm op a b Q):
  aD (aI prog w) A (binaryOp op (.int a t) (.float b e)) (cM C X F O s (λc aO=>Q c/\aO=J)) a_ s:=by
 induction op using gO with
 |Add=>exact IQ (mU h.1) (cM.toks d (eQ.mpr ⟨_,rfl⟩) ⟨h.2,rfl⟩)
 |Sub=>exact IJ (mU h.1) (cM.toks d (eQ.mpr ⟨_,rfl⟩) ⟨h.2,rfl⟩)
 |Mult=>exact IL (mU h.1) (cM.toks d (eQ.mpr ⟨_,rfl⟩) ⟨h.2,rfl⟩)
 |Div=>exact BL (ja h.1.1) (ja h.1.2) (cM.toks d (eQ.mpr ⟨_,rfl⟩) ⟨h.2,rfl⟩)
 |_=>exact ar h
theorem HZ (e:Nw C F O J s) (f:Rep F O a i) (g:Rep F O b j) (h:An op a b Q):
  aD (aI prog w) A (binaryOp op i j) (cM C X F O s (λc aO=>Q c/\aO=J)) a_ s:=by
 cases Am h with
 |ii a b h=>obtain⟨t,rfl⟩:=cw.mp f;obtain⟨d,rfl⟩:=cw.mp g;exact @XT C X F O J A s Q prog w op a b t d e h
 |aiC a b h=>obtain⟨t,rfl⟩:=cw.mp f;obtain⟨d,rfl⟩:=eQ.mp g;exact @XU C X F O J A s Q prog w op a b t d e h
 |fi a b h=>obtain⟨t,rfl⟩:=eQ.mp f;obtain⟨d,rfl⟩:=cw.mp g;exact @Yw C X F O J A s Q prog w op a b t d e h
 |ff a b h=>obtain⟨t,rfl⟩:=eQ.mp f;obtain⟨d,rfl⟩:=eQ.mp g;exact @Yx C X F O J A s Q prog w op a b t d e h
end
end Internal
namespace Internal
open PySem PySem.W PySem.Spec PySem.Calls PyProof.Rows PySem.SeqAt
noncomputable def ace (a b:CV):Bool:=match a with
 | .none=>(match b with| .none=>true|_=>false)
 | .bool x=>(match b with| .bool y=>x==y|_=>false)
 | .int x=>(match b with| .int y=>x==y|_=>false)
 | .str x=>(match b with| .str y=>x==y|_=>false)
 | .bW x=>(match b with| .int y=>eg x y==some .eq|_=>false)
 |_=>false
noncomputable def ab3 (a b:CV):Bool:=match a with
 | .none=>(match b with| .none=>true|_=>false)
 | .bool _=>(match b with| .bool _=>true|_=>false)
 | .int _=>(match b with| .int _=>true|_=>false)
 | .str _=>(match b with| .str _=>true|_=>false)
 | .bW _=>(match b with| .int _=>true|_=>false)
 |_=>false
noncomputable def lN (n:Nat):CV->CV->Bool:=n.rec ace λ_ f a b=>match a with
 | .lst l=>(match b with| .lst c=>l.length==c.length&&(l.zip c).all λp=>f p.1 p.2|_=>false)
 | .tup l=>(match b with| .tup c=>l.length==c.length&&(l.zip c).all λp=>f p.1 p.2|_=>false)
 |a=>ace a b
noncomputable def sq (n:Nat):CV->CV->Bool:=n.rec ab3 λ_ f a b=>match a with
 | .lst l=>(match b with| .lst c=>(l.zip c).all λp=>f p.1 p.2|_=>false)
 | .tup l=>(match b with| .tup c=>(l.zip c).all λp=>f p.1 p.2|_=>false)
 |a=>ab3 a b
inductive Bg:CV->CV->Bool->Prop
 |none:Bg .none .none true
 |bool (a b):Bg (.bool a) (.bool b) (a==b)
 |int (a b):Bg (.int a) (.int b) (a==b)
 |str (a b):Bg (.str a) (.str b) (a==b)
 |fi (a b):Bg (.bW a) (.int b) (eg a b==some .eq)
theorem Ga (h:ab3 a b=true):Bg a b (ace a b):=by
 induction a using CV.casesOn with
 |none=>induction b using CV.casesOn<;>first|exact .none|exact(dR h).elim
 |bool x=>induction b using CV.casesOn<;>first|exact .bool _ _|exact(dR h).elim
 |int x=>induction b using CV.casesOn<;>first|exact .int _ _|exact(dR h).elim
 |str x=>induction b using CV.casesOn<;>first|exact .str _ _|exact(dR h).elim
 |bW x=>induction b using CV.casesOn<;>first|exact .fi _ _|exact(dR h).elim
 |_=>exact(dR h).elim
inductive Vs n:CV->CV->Bool->Prop
 |leaf:Bg a b r->Vs n a b r
 |lst (l l'):((l.zip l').all λp=>sq n p.1 p.2)=true->Vs n (.lst l) (.lst l') (l.length==l'.length&&(l.zip l').all λp=>lN n p.1 p.2)
 |tup (l l'):((l.zip l').all λp=>sq n p.1 p.2)=true->Vs n (.tup l) (.tup l') (l.length==l'.length&&(l.zip l').all λp=>lN n p.1 p.2)
theorem PD (h:sq (n+1) a b=true):Vs n a b (lN (n+1) a b):=by
 induction a using CV.casesOn with
 |lst l=>induction b using CV.casesOn<;>first|exact .lst _ _ h|exact(dR h).elim
 |tup l=>induction b using CV.casesOn<;>first|exact .tup _ _ h|exact(dR h).elim
 |_=>exact .leaf (Ga h)
theorem F_ (h:Bg a b r) (d:Rep F O a v) (f:Rep F O b v):r=true:=by
 induction h with
 |none=>rfl
 |bool a b=>exact beq_iff_eq.mpr (acW ((iE.mp d).symm.trans (iE.mp f)))
 |int a b=>exact beq_iff_eq.mpr (eY (cw.mp d) λt e=>eY (cw.mp f) λg c=>(acY (e.symm.trans c)).1)
 |str a b=>exact beq_iff_eq.mpr (eY (ez.mp d) λt e=>eY (ez.mp f) λg c=>(acX (e.symm.trans c)).1)
 |fi a b=>exact eY (eQ.mp d) λt e=>eY (cw.mp f) λg c=>nomatch e.symm.trans c
theorem VC (m:∀{a b} {v},sq n a b=true->Rep F O a v->Rep F O b v->lN n a b=true) l d:
  ∀vs,((l.zip d).all λp=>sq n p.1 p.2)=true->bM F O l vs->bM F O d vs->l.length=d.length/\((l.zip d).all λp=>lN n p.1 p.2)=true:=by
 induction l,d using ll with
 |nn=>exact λvs a a a=>⟨rfl,rfl⟩
 |nc=>exact λvs a h f=>WQ (h.length.symm.trans f.length)
 |cn=>exact λvs a h f=>WO (h.length.symm.trans f.length)
 |cc c r x y o=>
  intro vs g h f
  refine cps λz q=>cz h λv s i t u=>?_;clear h;subst i
  refine cz f λA w e j k=>?_
  cases e
  have g:=aq.mp g
  exact q (fK (o s g.2 u k) λe1 e2=>⟨congrArg BA e1,aq.mpr ⟨m g.1 t j,e2⟩⟩)
theorem Jh {T} {v:bq} (i:∀{a b} {v},sq n a b=true->Rep F O a v->Rep F O b v->lN n a b=true) {l c} (j:((l.zip c).all λp=>sq n p.1 p.2)=true) (k:∃a o vs,v= .ref a/\F.f a=some o/\yA T o vs/\bM F O l vs.toList)
  (r:∃a o vs,v= .ref a/\F.f a=some o/\yA T o vs/\bM F O c vs.toList):(l.length==c.length&&(l.zip c).all λp=>lN n p.1 p.2)=true:=by
 refine jB k λx o vs e f d q=>jB r λA s g t u h w=>?_
 have y:some o=some s:=f.symm.trans ((congrArg F.f (yE (e.symm.trans t))).trans u)
 have z:vs=g:=eY d λm d=>eY h λB h=>(Data.seq.inj (congrArg Obj.data (d.symm.trans ((ab y).trans h)))).1
 exact fK (VC i l c _ j q (z▸w)) λe1 e2=>aq.mpr ⟨beq_iff_eq.mpr e1,e2⟩
theorem YK {n}:∀{a b} {v},sq n a b=true->Rep F O a v->Rep F O b v->lN n a b=true:=by
 induction n with
 |zero=>exact λc=>F_ (Ga c)
 |succ n f=>
  intro a b v c d e
  have h:=PD c
  generalize lN (n+1) a b=r at h
  clear c
  induction h with
  |leaf h=>exact F_ h d e
  |lst l g c=>exact Jh f c d e
  |tup l g c=>exact Jh f c d e
theorem rF {l b:List CV} (f:Nat->CV->CV->Bool) {e} (g:∀j c i,l[j]?=some c->b[j]?=some i->e j=f n c i) m (k:m=min l.length b.length):
  (bc m).all e=(l.zip b).all λp=>f n p.1 p.2:=by
 subst k
 rw[fR,aV,aV]
 constructor
 ·intro h p o
  obtain⟨j,d,rfl⟩:=yg o
  have a:j<min l.length b.length:=by simpa using d
  have:=h j (mJ.mpr a)
  simpa using ((g j (l[j]'(zA a (fq ..))) (b[j]'(zA a (fx ..))) (aF (zA a (fq ..))) (aF (zA a (fx ..)))).symm.trans this)
 ·intro h j d
  have a:j<min l.length b.length:=mJ.mp d
  refine af (g j (l[j]'(zA a (fq ..))) (b[j]'(zA a (fx ..))) (aF (zA a (fq ..))) (aF (zA a (fx ..)))) ?_
  have:=h ((l[j]'(zA a (fq ..))),(b[j]'(zA a (fx ..)))) (by
   rw[List.mem_iff_getElem]
   exact⟨j,Em▸a,by simp⟩)
  exact this
section
variable {F:FZ} {O:List bz} {s:aN}
def LV (F:FZ) (O:List bz) (h:kT) (v:bq) (l:List CV):Prop:=∃a vs,v= .ref a/\tb h a vs/\bM F O l vs.toList
def TV (F:FZ) (O:List bz) (h:kT) (v:bq) (l:List CV):Prop:=∃a vs,v= .ref a/\h.IsTuple a vs/\bM F O l vs.toList
theorem LV.of (c:Fz F s.heap) (h:Rep F O (.lst l) v):LV F O s.heap v l:=jB h λa o vs b f q r=>af b ((eA a vs rfl (aP o (c _ _ f) q) r))
theorem TV.of (c:Fz F s.heap) (h:Rep F O (.tup l) v):TV F O s.heap v l:=jB h λa o vs b f q r=>af b ((eA a vs rfl (aP o (c _ _ f) q.seq) r))
theorem Gb (h:Bg a b r) (c:Rep F O a i) (d:Rep F O b j):EqAt A s i j r:=by
 induction h with
 |none=>exact af (oz.mp c) (af (oz.mp d) (Y' _))
 |bool a b=>exact af (iE.mp c) (af (iE.mp d) (EqAt.bool_bool _ _))
 |int a b=>exact bA (cw.mp c) λt=>bA (cw.mp d) λg=>EqAt.int_int _ _ _ _
 |str a b=>exact bA (ez.mp c) λt=>bA (ez.mp d) λg=>EqAt.str_str _ _ _ _
 |fi a b=>
  exact bA (eQ.mp c) λt=>bA (cw.mp d) λg=>λprog w E Q h=>bf (wpAny_ite_split (λf=>absurd (eq_of_beq f) λe=>nomatch e) (λa=>ae (zz (pa h))))
theorem bM.size {vs:Array bq} (r:bM F O l vs.toList):vs.size=l.length:=r.length
theorem bM.agX {vs:Array bq} (r:bM F O l vs.toList) {j:Nat} h:∃c,l[j]?=some c/\Rep F O c vs[j]:=by
 have a:j<l.length:=r.size▸h
 refine aG (r.get (aF a)) λv e q=>?_
 rw[hV,nv h] at e
 exact af (ab e) ((aP _ (aF a) q))
theorem Ze {l a:List CV} {j:Nat} {c b} (h:l[j]?=some c) (d:a[j]?=some b):(c,b)∈l.zip a:=
 bh (sy.mpr ⟨h,d⟩)
noncomputable def afd (n:Nat) (l a:List CV) (j:Nat):Bool:=match l[j]?,a[j]? with|some c,some b=>lN n c b|_,_=>true
theorem xN (h:l[j]?=some c) (a:b[j]?=some d):afd n l b j=lN n c d:=by
 unfold afd
 rw[h,a]
theorem items_eqAt (k:∀a b g h,sq n a b=true->Rep F O a g->Rep F O b h->EqAt A s g h (lN n a b))
 {l d} {vs f:Array bq} (m:((l.zip d).all λp=>sq n p.1 p.2)=true) (r:bM F O l vs.toList) (o:bM F O d f.toList) j t (u:j<f.size):
 EqAt A s vs[j] f[j] (afd n l d j):=aG (r.agX t) λc e q=>aG (o.agX u) λw i v=>af (xN e i) (k _ _ _ _ (aV.mp m _ (Ze e i)) q v)
theorem JU (u:Fz F s.heap):∀n A a b f g,A.units+n<cLine->sq n a b=true->Rep F O a f->Rep F O b g->EqAt A s f g (lN n a b):=by
 intro n
 induction n with
 |zero=>
  exact λA a b f g _ i m o=>Gb (Ga i) m o
 |succ n D=>
  intro A a b f g v i m o
  have t:A.in1.units+n<cLine:=zB (zI (ai (A.units+(n+1)))) v
  by_cases z:f=g
  ·subst z
   exact af (YK i m o) (Y' _)
  ·have h:=PD i
   generalize lN (n+1) a b=res at h
   clear i
   induction h with
   |leaf h=>exact Gb h m o
   |tup l E i=>
    refine cz (TV.of u m) λx vs e w r=>?_;clear m;subst e
    refine cz (TV.of u o) λy G e k q=>?_;clear o;subst e
    refine MA (λe=>z (by rw[e])) ?_
    have:=RcAt.tuples w k (zB zP v) (items_eqAt (λa b f g=>D A.in1 a b f g t) i r q)
    rw[rF lN (λj c H B C=>xN B C) _ (by rw[r.size,q.size]),r.size,q.size] at this
    rw[Bool.and_comm]
    exact this
   |lst l E i=>
    refine cz (LV.of u m) λx vs e w r=>?_;clear m;subst e
    refine cz (LV.of u o) λy G e k q=>?_;clear o;subst e
    refine MA (λe=>z (by rw[e])) ?_
    by_cases d:l.length=E.length
    ·have:=TA w.isList k.isList (by rw[r.size,q.size,d]) (zB zP v) (items_eqAt (λa b f g=>D A.in1 a b f g t) i r q)
     rw[rF lN (λj c H B C=>xN B C) _ (by rw[r.size,d,ML])] at this
     exact af (beq_iff_eq.mpr d) this
    ·exact beq_eq_false_iff_ne.mpr d▸zx w.isList k.isList (af r.size (af q.size (bne_iff_ne.mpr d))) (zB zP v)
end
noncomputable def eC (J:aZ):CV->CV
 | .own i=>match J[i]? with
  |some (.list l)=> .lst l
  |some (.dict l)=> .gx l
  |_=> .own i
 |c=>c
def DV (F:FZ) (O:List bz) (h:kT) (v:bq) (l:List (bD×CV)):Prop:=∃a o b,v= .ref a/\h.get? a=some o/\Hm F.pr F.w a o b/\ew F O l b
theorem DV.of {s:aN} (e:Fz F s.heap) (h:Rep F O (.gx l) v):DV F O s.heap v l:=by
 refine jB h λa o b c f d r=>?_;clear h;subst c
 exact(jq a o b rfl (e _ _ f) d r)
def Vw (F:FZ) (O:List bz) (h:kT):CV->bq->Prop
 | .lst l,v=>LV F O h v l
 | .gx l,v=>DV F O h v l
 |c,v=>Rep F O c v
theorem Vw.of {s:aN} (a:Fz F s.heap) (h:Rep F O c v):Vw F O s.heap c v:=by
 induction c using CV.casesOn<;>first|exact h|exact LV.of a h|exact DV.of a h
theorem Vw.eC (b:Nw C F O J s) (h:Rep F O c v):Vw F O s.heap (eC J c) v:=by
 induction c using CV.casesOn with
 |own i=>
  refine xn h λa f=>?_
  show Vw F O s.heap (match J[i]? with|some (.list l)=>CV.lst l|some (.dict l)=> .gx l|_=> .own i) (.ref a)
  have j:Vw F O s.heap (.own i) (.ref a):=aP a f rfl
  induction e:J[i]? using cO with
  |none=>exact j
  |some m=>induction m using MO.casesOn with
   |list l=>exact aG (b.dj.at_ i a _ f e) λvs p r=>eA a vs rfl p r
   |dict l=>exact cz (b.dj.at_ i a _ f e) λo g p d r=>jq a o g rfl p d r
   |_=>exact j
 |_=>exact Vw.of b.fz h
noncomputable def jN (y x:bD):Bool:=!(d_ x y 0 x.length 1).isEmpty
noncomputable def Aq:CV->Bool
 | .bool _=>true
 | .int _=>true
 | .str _=>true
 | .bW _=>true
 | .tup _=>true
 | .lst _=>true
 | .obj v=>(match v with| .ref _=>true|_=>false)
 |_=>false
noncomputable def uA:CV->Option String
 | .obj v=>(match v with| .type t=>some t|_=>none)
 |_=>none
noncomputable def aet (a b:CV):Option Bool:=match b with
 | .none=>(match a with
  | .none=>some true
  |a=>(match Aq a with|true=>some false|false=>none))
 | .bool y=>(match a with| .bool x=>some (x==y)|_=>none)
 |b=>(match uA b with
  |some c=>(match uA a with|some t=>some (t==c)|none=>none)
  |none=>none)
def aj3 (a b:CV) (Q:Bool->Prop):Prop:=match a with
 | .int x=>(match b with| .int y=>Q (x==y)| .bW y=>Q (eg y x==some .eq)|_=>False)
 | .bW x=>(match b with| .bW y=>Q (iv x y==some .eq)| .int y=>Q (eg x y==some .eq)|_=>False)
 | .str x=>(match b with| .str y=>Q (x==y)|_=>False)
 | .bool x=>(match b with| .bool y=>Q (x==y)|_=>False)
 | .lst x=>(match b with| .lst y=>sq 6 (.lst x) (.lst y)=true/\Q (lN 6 (.lst x) (.lst y))|_=>False)
 | .gx x=>(match b with| .gx y=>(x.length==y.length)=false/\Q false|_=>False)
 |_=>False
def ajB (a b:CV) (Q:Bool->Prop):Prop:=match a with
 | .int x=>(match b with| .int y=>Q (x !=y)|_=>False)
 | .str x=>(match b with| .str y=>Q (x !=y)|_=>False)
 | .lst x=>(match b with| .lst y=>sq 6 (.lst x) (.lst y)=true/\Q (!lN 6 (.lst x) (.lst y))|_=>False)
 |_=>False
def ajD (a b:CV) (Q:Bool->Prop):Prop:=match a with
 | .int x=>(match b with| .int y=>Q (decide (x<y))|_=>False)
 | .bW x=>(match b with| .bW y=>Q (iv x y==some .lt)| .int y=>Q (eg x y==some .lt)|_=>False)
 |_=>False
def ajG (a b:CV) (Q:Bool->Prop):Prop:=match a with
 | .int x=>(match b with| .int y=>Q (decide (x<=y))| .bW y=>Q (eg y x==some .gt||eg y x==some .eq)|_=>False)
 | .bW x=>(match b with| .bW y=>Q (iv x y==some .lt||iv x y==some .eq)| .int y=>Q (eg x y==some .lt||eg x y==some .eq)|_=>False)
 |_=>False
def Mj (a b:CV) (Q:Int->Int->Prop):Prop:=match a with
 | .int x=>(match b with| .int y=>Q x y|_=>False)
 |_=>False
def ajK (a b:CV) (Q:Bool->Prop):Prop:=match a with
 | .str y=>(match b with
  | .str x=>Q (jN y x)
  | .lst l=>(l.all λc=>sq 6 c (.str y))=true/\Q (l.any λc=>lN 6 c (.str y))
  |_=>False)
 |_=>False
def wL (op:CmpOp) (a b:CV) (Q:Bool->Prop):Prop:=match op with
 | .Eq=>aj3 a b Q
 | .NotEq=>ajB a b Q
 | .Lt=>ajD a b Q
 | .LtE=>ajG a b Q
 | .Gt=>Mj a b λx y=>Q (decide (y<x))
 | .GtE=>Mj a b λx y=>Q (decide (y<=x))
 | .In=>ajK a b Q
 | .NotIn=>(match a with| .str y=>(match b with| .str x=>Q (!jN y x)|_=>False)|_=>False)
 | .Is=>∃r,aet a b=some r/\Q r
 | .IsNot=>∃r,aet a b=some r/\Q (!r)
section
variable {C:Cfg} {F:FZ} {O:List bz} {A:bU} {s:aN} {Q:Bool->Prop} {prog:jT} {w:oK}
def PB (s:aN) (Q:Bool->Prop):bq->aN->Prop:=λv u=>∃b,v= .bool b/\Q b/\u=s
theorem EQ (r:Vw F O h .none v):v= .none:=oz (F:=F) (O:=O).mp r
theorem tN (r:Vw F O h (.bool x) v):v= .bool x:=iE (F:=F) (O:=O).mp r
theorem gv (r:Vw F O h (.int x) v):∃t,v= .int x t:=cw (F:=F) (O:=O).mp r
theorem nR (r:Vw F O h (.bW x) v):∃t,v= .float x t:=eQ (F:=F) (O:=O).mp r
theorem gG (r:Vw F O h (.str x) v):∃t,v= .str x t:=ez (F:=F) (O:=O).mp r
theorem TX (r:Vw F O h (.obj x) v):v=x:=qi (F:=F) (O:=O).mp r
theorem ac4 (r:Vw F O h (.tup l) v):∃a,v= .ref a:=jB (Aj.mp r) λa b c e d f g=>⟨a,e⟩
theorem JA (u:Fz F s.heap) (h:A.units+10<cLine) {l e} {i k} (v:LV F O s.heap i l) (z:LV F O s.heap k e) (B:sq 6 (.lst l) (.lst e)=true):
  RcAt A s i k (lN 6 (.lst l) (.lst e))/\RcNeAt A s i k (!lN 6 (.lst l) (.lst e)):=by
 refine cz v λx vs g m r=>af g (cz z λy q g f n=>af g ?_)
 by_cases d:l.length=e.length
 ·have t:=items_eqAt (λa b i k=>JU u 5 A.in1 a b i k (zB (bJ (by decide:1+5<=10) A.units) h)) B r n
  have o:lN 6 (.lst l) (.lst e)=(bc vs.size).all (afd 5 l e):=by
   rw[rF lN (λj c G D E=>xN D E) vs.size (by rw[r.size,d,ML])]
   show(l.length==e.length&&_)=_
   refine af (beq_iff_eq.mpr d) ?_
   rfl
  have es:vs.size=q.size:=by rw[r.size,n.size,d]
  exact af o (⟨TA m.isList f.isList es (zB zP h) t,RcNeAt.lists m.isList f.isList es (zB zP h) t⟩)
 ·have o:lN 6 (.lst l) (.lst e)=false:=by
   show(l.length==e.length&&_)=_
   rw[beq_eq_false_iff_ne.mpr d,Bool.false_and]
  have es:(vs.size !=q.size)=true:=af r.size (af n.size (bne_iff_ne.mpr d))
  exact af o (⟨zx m.isList f.isList es (zB zP h),RcNeAt.lists_lengths m.isList f.isList es (zB zP h)⟩)
theorem Oj (h:Aq a=true) (b:Vw F O s.heap a d):Mz d .none=true/\(d== .none)=false:=by
 induction a using CV.casesOn with
 |bool x=>exact af (tN b) ⟨rfl,rfl⟩
 |int x=>exact bA (gv b) λt=>⟨rfl,rfl⟩
 |str x=>exact bA (gG b) λt=>⟨rfl,rfl⟩
 |bW x=>exact bA (nR b) λt=>⟨rfl,rfl⟩
 |tup x=>exact bA (ac4 b) λt=>⟨rfl,rfl⟩
 |lst x=>exact iQ b λt a c a=>af c ⟨rfl,rfl⟩
 |obj x=>
  refine af (TX b) ?_
  clear b;induction x using cK with
  |ref a=>exact⟨rfl,rfl⟩
  |_=>exact(dR h).elim
 |_=>exact(dR h).elim
theorem EU (h:uA a=some t) (b:Vw F O s.heap a c):c= .type t:=by
 induction a using CV.casesOn with
 |obj v=>
  refine af (TX b) ?_
  clear b;induction v using cK with
  |type d=>refine af (ab h) ?_;rfl
  |_=>exact aW h
 |_=>exact aW h
theorem xD (f:Vw F O s.heap a e) (g:Vw F O s.heap b i) (h:aet a b=some r):Mz e i=true/\(e==i)=r:=by
 have c:∀{b},Vw F O s.heap b i->(match uA b with
  |some m=>(match uA a with|some t=>some (t==m)|none=>none)
  |none=>none)=some r->Mz e i=true/\(e==i)=r:=λ{b} g h=>by
  induction j:uA b using cO with
  |none=>exact aW (j▸h)
  |some m=>
   refine oE (uA a) (λk=>?_) λt k=>?_
   ·rw[j,k] at h;exact aW h
   ·
    rw[j,k] at h
    refine af (EU k f) (af (EU j g) ?_)
    injection h with h
    refine⟨rfl,BJ ?_ h⟩
    rw[fR,beq_iff_eq,beq_iff_eq]
    exact⟨λh=>by injection h,λh=>h▸rfl⟩
 induction b using CV.casesOn with
 |none=>
  refine af (EQ g) ?_
  have d:(match Aq a with|true=>some false|false=>none)=some r->Mz e .none=true/\(e== .none)=r:=λh=>by
   refine bE (Aq a) (λl=>?_) λl=>?_
   ·rw[l] at h;exact aW h
   ·rw[l] at h;exact eh (ab h) (Oj l f)
  cases a with
  |none=>exact af (EQ f) (eh (ab h) ⟨rfl,rfl⟩)
  |_=>exact d h
 |bool y=>
  refine af (tN g) ?_
  cases a with
  |bool x=>refine af (tN f) ?_;injection h with h;refine eh h ⟨rfl,?_⟩;clear f;induction x using cB<;>induction y using cB<;>rfl
  |_=>exact aW h
 |_=>exact c g h
noncomputable def Rk (x:bD):bq->Bool
 | .str z _=>z==x
 |_=>false
theorem Gi (m:Fz F s.heap) (n:A.units+10<cLine) (o:LV F O s.heap u l) (a:(l.all λc=>sq 6 c (.str x))=true) (h:Q (l.any λc=>lN 6 c (.str x))):
  aD (aI prog w) A (ul .In (.str x t) u) (PB s Q) a_ s:=by
 refine cz o λy B b g i=>af b ?_
 have d:∀{c} {v},Rep F O c v->sq 6 c (.str x)=true->Rk x v=lN 6 c (.str x):=λ{c v} r h=>by
  induction c using CV.casesOn with
  |str z=>refine bA (ez.mp r) λL=>?_;rfl
  |_=>exact(dR h).elim
 have f:∀l vs,bM F O l vs->(l.all λy=>sq 6 y (.str x))=true->vs.any (Rk x)=l.any λy=>lN 6 y (.str x):=by
  intro l
  induction l with
  |nil=>intro vs r _;subst r;rfl
  |cons c l D=>
   refine λvs r a=>cz r λv E b G H=>?_;clear r;subst b
   have a:=aq.mp a
   exact congr (congrArg or (d G a.1)) (D E H a.2)
 refine in_listAt (Rk x) g.isList (λv I=>?_) (eJ _ rfl (eh Array.any_toList (af (f l _ i a) h)) rfl)
 obtain⟨j,J,rfl⟩:=yg (Array.mem_toList_iff.mpr I)
 refine aG (i.agX J) λc e q=>?_
 have k:=aV.mp a c (bh e)
 exact af (d q k) (JU m 6 A.in1 c (.str x) B[j] (.str x t) (zB (bJ (by decide:1+6<=10) A.units) n) k q (ez.mpr ⟨_,rfl⟩))
theorem YB (k:F.pr=prog) (m:F.w=w) (n:A.units<cLine) {l b} {c f} (g:DV F O s.heap c l) (i:DV F O s.heap f b) (q:(l.length==b.length)=false) (h:Q false):
  aD (aI prog w) A (ul .Eq c f) (PB s Q) a_ s:=by
 refine jB g λx o vs a p d r=>?_;clear g;subst a
 refine jB i λy t u a p' j v=>?_;clear i;subst a
 subst m
 subst k
 have e:(vs.length==u.length)=false:=af r.length (af v.length q)
 exact keq_eq (r:=false) d.1 j.1 (iO.mpr (aP o p d.2)) (iO.mpr (aP t p' j.2)) n (λz=>absurd z (beq_eq_false_iff_ne.mp e)) (eJ _ rfl (af e h) rfl)
theorem PQ {op:CmpOp} {a b:CV} {i j:bq} (q:F.pr=prog) (u:F.w=w) (m:Fz F s.heap) (g:A.units+10<cLine) (d:Vw F O s.heap a i) (c:Vw F O s.heap b j) (h:wL op a b Q):
  aD (aI prog w) A (ul op i j) (PB s Q) a_ s:=by
 have o:∀{op K},(∀x y t e,K x y->aD (aI prog w) A (ul op (.int x t) (.int y e)) (PB s Q) a_ s)->Mj a b K->aD (aI prog w) A (ul op i j) (PB s Q) a_ s:=λk h=>by
  induction a using CV.casesOn with
  |int x=>induction b using CV.casesOn with
   |int y=>refine bA (gv d) λt=>?_;exact bA (gv c) λe=>k x y t e h
   |_=>exact ar h
  |_=>exact ar h
 induction op using QM with
 |Gt=>exact o (λ_ _ _ _ h=>P.gt_int (eJ _ rfl h rfl)) h
 |GtE=>exact o (λ_ _ _ _ h=>P.ge_int (eJ _ rfl h rfl)) h
 |Is=>
  exact aG h λr f n=>wpAny_is_plain (xD d c f).1 (eJ _ rfl ((xD d c f).2▸n) rfl)
 |IsNot=>
  exact aG h λr f n=>wpAny_isNot_plain (xD d c f).1 (eJ _ rfl ((xD d c f).2▸n) rfl)
 |Eq=>
  induction a using CV.casesOn with
  |int x=>
   refine bA (gv d) λt=>?_
   induction b using CV.casesOn with
   |int y=>exact bA (gv c) λe=>P.eq_int (eJ _ rfl h rfl)
   |bW y=>exact bA (nR c) λe=>TL (eJ _ rfl h rfl)
   |_=>exact ar h
  |bW x=>
   refine bA (nR d) λt=>?_
   induction b using CV.casesOn with
   |bW y=>exact bA (nR c) λe=>Vz (eJ _ rfl h rfl)
   |int y=>exact bA (gv c) λe=>zz (eJ _ rfl h rfl)
   |_=>exact ar h
  |str x=>
   refine bA (gG d) λt=>?_
   induction b using CV.casesOn with
   |str y=>exact bA (gG c) λe=>QP (eJ _ rfl h rfl)
   |_=>exact ar h
  |bool x=>
   refine af (tN d) ?_
   induction b using CV.casesOn with
   |bool y=>exact af (tN c) (RcAt.bool_bool _ _ prog w _ _ (eJ _ rfl h rfl))
   |_=>exact ar h
  |lst x=>induction b using CV.casesOn with
   |lst y=>exact(JA m g d c h.1).1 prog w _ _ (eJ _ rfl h.2 rfl)
   |_=>exact ar h
  |gx x=>induction b using CV.casesOn with
   |gx y=>exact YB q u (zB zP g) d c h.1 h.2
   |_=>exact ar h
  |_=>exact ar h
 |NotEq=>
  induction a using CV.casesOn with
  |int x=>
   refine bA (gv d) λt=>?_
   induction b using CV.casesOn with
   |int y=>exact bA (gv c) λe=>P.ne_int (eJ _ rfl h rfl)
   |_=>exact ar h
  |str x=>
   refine bA (gG d) λt=>?_
   induction b using CV.casesOn with
   |str y=>exact bA (gG c) λe=>QN (eJ _ rfl h rfl)
   |_=>exact ar h
  |lst x=>induction b using CV.casesOn with
   |lst y=>exact(JA m g d c h.1).2 prog w _ _ (eJ _ rfl h.2 rfl)
   |_=>exact ar h
  |_=>exact ar h
 |Lt=>
  induction a using CV.casesOn with
  |int x=>
   refine bA (gv d) λt=>?_
   induction b using CV.casesOn with
   |int y=>exact bA (gv c) λe=>P.lt_int (eJ _ rfl h rfl)
   |_=>exact ar h
  |bW x=>
   refine bA (nR d) λt=>?_
   induction b using CV.casesOn with
   |bW y=>exact bA (nR c) λe=>Vx (eJ _ rfl h rfl)
   |int y=>exact bA (gv c) λe=>TH (eJ _ rfl h rfl)
   |_=>exact ar h
  |_=>exact ar h
 |LtE=>
  induction a using CV.casesOn with
  |int x=>
   refine bA (gv d) λt=>?_
   induction b using CV.casesOn with
   |int y=>exact bA (gv c) λe=>P.le_int (eJ _ rfl h rfl)
   |bW y=>exact bA (nR c) λe=>TJ (eJ _ rfl h rfl)
   |_=>exact ar h
  |bW x=>
   refine bA (nR d) λt=>?_
   induction b using CV.casesOn with
   |bW y=>exact bA (nR c) λe=>Vy (eJ _ rfl h rfl)
   |int y=>exact bA (gv c) λe=>TK (eJ _ rfl h rfl)
   |_=>exact ar h
  |_=>exact ar h
 |In=>
  induction a using CV.casesOn with
  |str y=>
   refine bA (gG d) λt=>?_
   induction b using CV.casesOn with
   |str x=>exact bA (gG c) λe=>QO (eJ _ rfl h rfl)
   |lst l=>exact Gi m g c h.1 h.2
   |_=>exact ar h
  |_=>exact ar h
 |NotIn=>
  induction a using CV.casesOn with
  |str y=>
   refine bA (gG d) λt=>?_
   induction b using CV.casesOn with
   |str x=>exact bA (gG c) λe=>MD (eJ _ rfl h rfl)
   |_=>exact ar h
  |_=>exact ar h
end
set_option genCtorIdx true in
inductive BI where
 |len|chr|min|max|round|str|int|type|abs
 deriving DecidableEq
set_option genCtorIdx true in
inductive SM where
 |join|isdigit|index|count|replace|lower
 deriving DecidableEq
mutual
inductive ME where
 |cst (c:CV)
 |var (i:Nat)
 |bin (op:iT) (l r:ME)
 |neg (e:ME)
 |not (e:ME)
 |band (es:List ME)
 |bor (es:List ME)
 |iD (t a b:ME)
 |cmp (l:ME) (ops:List CmpOp) (rs:List ME)
 |tup (es:List ME)
 |lst (es:List ME)
 |gx (ks:List bD) (es:List ME)
 |new (e:ME)
 |idx (o i:ME)
 |pu (o:ME) (l G5:Option ME)
 |bi (b:BI) (args:List ME)
 |eK (f:bz) (args:List ME)
 |kB (m:SM) (o:ME) (args:List ME)
 |gJ (c f:bz) (x:bD) (o:ME) (args:List ME) (kn:List bD) (kv:List ME)
 |attr (c:bz) (o:ME) (x:bD)
 |Jo (o:ME)
 |rep (e i:ME)
 |comp (elt:ME) (gens:List MG)
 |ext (e:ay) (is:List Nat)
 |bad
inductive MG where
 |mk (t:MT) (it:MI) (ifs:List ME)
inductive MI where
 |val (e:ME)
 |range (args:List ME)
 |sU (e:ME)
 |zip (a b:ME)
 |gen (f:bz) (args:List ME)
inductive MT where
 |var (i:Nat)
 |tup (l:List MT)
 |sub (o i:ME)
 |tB (c:bz) (o:ME) (x:bD)
 |bad
end
def Br (b:Bool) (P Q:Prop):Prop:=(b=true->P)/\(b=false->Q)
def uF (J:aZ) (c:CV):aZ->Prop:=match c with
 | .own _=>λaO=>eC aO c=eC J c
 |_=>λ_=>True
structure cZ where
 eK:bz->List CV->List (bD×CV)->aZ->(CV->aZ->Prop)->Prop
 gen:bz->List CV->(List CV->Prop)->Prop
 ext:ay->List CV->aZ->(CV->aZ->Prop)->Prop
noncomputable def iV (Z:bk):List Nat->Option (List CV)
 |[]=>some []
 |i::l=>match Z i,iV Z l with
  |some c,some cs=>some (c::cs)
  |_,_=>none
def nU:CV->(Bool->Prop)->Prop
 | .none,Q=>Q false
 | .bool b,Q=>Q b
 | .int i,Q=>Q (i !=0)
 | .str s,Q=>s.length<=fj/\Q (s.length !=0)
 | .lst l,Q=>l.length<=fj/\Q (l.length !=0)
 |_,_=>False
noncomputable def ie {α:Type} (xs:List α) (l a:Option Int):List α:=(xs.drop (kms_lo l xs.length)).take (kms_hi a xs.length-kms_lo l xs.length)
noncomputable def iW (x:bD) (l a:Option Int):Str:=⟨(ie x.cps.toList l a).toArray⟩
theorem ahf {k:Nat} (h:k<1000): -(2^62)<(k:Int)/\(k:Int)<2^62:=⟨zN (by decide) (cQ k),pn (eH.mpr h) (by decide)⟩
def atC {α:Type} (i:CV) (n:Nat) (get:Nat->Option α) (Q:α->Prop):Prop:=match i with
 | .int i=>(-(2^62)<i/\i<2^62)/\∃j c,jt i n=some j/\get j=some c/\Q c
 |_=>False
def Gj (o i:CV) (Q:CV->Prop):Prop:=match o with
 | .lst l=>atC i l.length (λj=>l[j]?) Q
 | .tup l=>atC i l.length (λj=>l[j]?) Q
 | .str s=>atC i s.length (λj=>s.cps[j]?) λc=>Q (.str ⟨#[c]⟩)
 | .gx l=>(match i with
  | .str k=>∃c,l.lookup k=some c/\Q c
  |_=>False)
 |_=>False
noncomputable def Ak (o:Option CV):Option (Option Int):=match o with
 |none=>some none
 |some c=>(match c with
  | .int i=>some (some i)
  |_=>none)
def ah7 (o:CV) (l a:Option Int) (Q:CV->Prop):Prop:=match o with
 | .lst xs=>xs.length<=fj/\Q (.lst (ie xs l a))
 | .str s=>s.length<=fj/\Q (.str (iW s l a))
 |_=>False
def Ui (o:CV) (l c:Option CV) (Q:CV->Prop):Prop:=∃a b,Ak l=some a/\Ak c=some b/\ah7 o a b Q
noncomputable def intOf:CV->Option Int
 | .int i=>some i
 |_=>none
noncomputable def abC:CV->Option UInt64
 | .bW i=>some i
 |_=>none
noncomputable def strOf:CV->Option bD
 | .str i=>some i
 |_=>none
theorem Ct (h:intOf c=some i):c= .int i:=by
 induction c using CV.casesOn with
 |int x=>exact congrArg CV.int (ab h)
 |_=>exact aW h
theorem JN (h:abC c=some i):c= .bW i:=by
 induction c using CV.casesOn with
 |bW x=>exact congrArg CV.bW (ab h)
 |_=>exact aW h
theorem tQ (h:strOf c=some i):c= .str i:=by
 induction c using CV.casesOn with
 |str x=>exact congrArg CV.str (ab h)
 |_=>exact aW h
noncomputable def sR {α:Type} (g:CV->Option α):List CV->Option (List α)
 |[]=>some []
 |c::l=>(g c).bind λx=>(sR g l).map (x:: ·)
theorem uJ (h:sR g (c::l)=some ys):∃x xs,g c=some x/\sR g l=some xs/\ys=x::xs:=by
 have h:(g c).bind (λx=>(sR g l).map (x:: ·))=some ys:=h
 induction a:g c using cO with
 |none=>exact aW (a▸h)
 |some x=>
  rw[a] at h
  induction b:sR g l using cO with
  |none=>exact aW (b▸h)
  |some xs=>rw[b] at h;exact eh (ab h) (eA x xs rfl rfl rfl)
noncomputable abbrev numsOf:List CV->Option (List Int):=sR intOf
noncomputable abbrev UP:List CV->Option (List UInt64):=sR abC
noncomputable abbrev strsOf:List CV->Option (List bD):=sR strOf
def one (cs:List CV) (f:CV->Prop):Prop:=match cs with
 |[]=>False
 |c::r=>(match r with|[]=>f c|_::_=>False)
theorem Jr (h:one cs f):∃c,cs=[c]/\f c:=by
 induction cs using cL with
 |nil=>exact ar h
 |cons c r=>induction r using cL with
  |nil=>exact aP c rfl h
  |cons _ _=>exact ar h
noncomputable def small (i:Int):Bool:=decide (-1000000<i)&&decide (i<1000000)
noncomputable def aae:List Int->Option (Int×Int)
 |[]=>none
 |a::r=>(match r with
  |[]=>some (0,a)
  |b::r=>(match r with|[]=>some (a,b)|_::_=>none))
noncomputable def pX (cs:List CV):Option (List CV):=((numsOf cs).bind aae).map λp=>(bc (p.2-p.1).toNat).map λk=> .int (p.1+(k:Nat))
noncomputable def tU (cs:List CV):Bool:=match numsOf cs with
 |some l=>l.all small
 |none=>false
noncomputable def aee:CV->Option (List CV)
 | .lst l=>some l
 | .tup l=>some l
 | .str s=>some (s.cps.toList.map λc=> .str ⟨#[c]⟩)
 | .gx l=>some (l.map λp=> .str p.1)
 |_=>none
noncomputable def sS (J:aZ) (c:CV):Option (List CV):=match c with
 | .own k=>match J[k]? with
  |some (.list l)=>some l
  |_=>none
 |c=>aee c
noncomputable def ZM:CV->Option (List CV)
 | .lst l=>some l
 | .str s=>some (s.cps.toList.map λc=> .str ⟨#[c]⟩)
 |_=>none
noncomputable abbrev EPost:=CV->aZ->Prop
section
variable (E:bk->aZ->ME->EPost->Prop)
def qW (Z:bk):List ME->aZ->(List CV->aZ->Prop)->Prop
 |[],J,Q=>Q [] J
 |e::es,J,Q=>E Z J e (λc J=>qW Z es J (λcs J=>Q (c::cs) J))
def QR (Z:bk) (J:aZ):Option ME->(Option CV->aZ->Prop)->Prop
 |none,Q=>Q none J
 |some e,Q=>E Z J e (λc J=>Q (some c) J)
def TS (Z:bk) (op:CmpOp) (a:CV) (es:List ME) (J:aZ) (Q:Bool->aZ->Prop):Prop:=match es with
 |[]=>False
 |e::es=>(match es with
  |[]=>E Z J e (λb J=>wL op (eC J a) (eC J b) (λr=>Q r J))
  |_::_=>False)
def MZ (Z:bk) (b:List CmpOp) (a:CV) (es:List ME) (J:aZ) (Q:Bool->aZ->Prop):Prop:=match b with
 |[]=>False
 |op::b=>(match b with
  |[]=>TS E Z op a es J Q
  |_::_=>False)
def M_ (Z:bk) (c:List CmpOp):CV->List ME->aZ->(Bool->aZ->Prop)->Prop:=
 c.rec (motive:=λ_=>CV->List ME->aZ->(Bool->aZ->Prop)->Prop) (λ_ _ _ _=>False) λop c d a es J Q=>match c with
  |[]=>TS E Z op a es J Q
  |_::_=>(match es with
   |[]=>False
   |e::es=>E Z J e (λb J=>wL op (eC J a) (eC J b) (λr=>Br r (d b es J Q) (Q false J))))
def z' (all:Bool) (Z:bk):List ME->aZ->EPost->Prop
 |[],_,_=>False
 |e::es,J,Q=>match es with
  |[]=>E Z J e Q
  |_::_=>E Z J e (λc J=>nU (eC J c) (λb=>match all with
   |true=>Br b (z' all Z es J Q) (Q c J)
   |false=>Br b (Q c J) (z' all Z es J Q)))
def EO (T:aZ->ME->(Bool->aZ->Prop)->Prop) (all:Bool):List ME->aZ->(Bool->aZ->Prop)->Prop
 |[],J,Q=>Q all J
 |e::es,J,Q=>T J e (λb J=>match all with
  |true=>Br b (EO T all es J Q) (Q false J)
  |false=>Br b (Q true J) (EO T all es J Q))
def gm (Z:bk):Nat->aZ->ME->(Bool->aZ->Prop)->Prop
 |0,_,_,_=>False
 |n+1,J,e,Q=>match e with
  | .not x=>gm Z n J x (λb J=>Q (!b) J)
  | .band es=>EO (gm Z n) true es J Q
  | .bor es=>EO (gm Z n) false es J Q
  | .iD t a b=>gm Z n J t (λr J=>Br r (gm Z n J a Q) (gm Z n J b Q))
  | .cmp l d rs=>E Z J l (λa J=>MZ E Z d a rs J Q)
  |e=>E Z J e (λc J=>nU (eC J c) (λb=>Q b J))
def lI (T:aZ->ME->(Bool->aZ->Prop)->Prop):List ME->aZ->(Bool->aZ->Prop)->Prop
 |[],J,Q=>Q true J
 |e::es,J,Q=>T J e (λb J=>Br b (lI T es J Q) (Q false J))
noncomputable def Up:CV->Option Nat
 | .own k=>some k
 |_=>none
noncomputable def LD:MO->Option (List CV)
 | .list l=>some l
 |_=>none
noncomputable def aio:MO->Option (List (bD×CV))
 | .ns l=>some l
 |_=>none
noncomputable def Sj:MO->Option (bz×Nat)
 | .inst c d=>d.map λd=>(c,d)
 |_=>none
def lK {α:Type} (o:Option α) (f:α->Prop):Prop:=match o with
 |some a=>f a
 |none=>False
theorem jz (h:lK o f):∃a,o=some a/\f a:=by
 induction o using cO with
 |none=>exact ar h
 |some a=>exact aP a rfl h
theorem a' {α c:Type} {o} {f:α->Option c} {b} (h:o.bind f=some b):∃a,o=some a/\f a=some b:=by
 induction o using cO with
 |none=>exact aW h
 |some a=>exact aP a rfl h
theorem FD (h:Up c=some k):c= .own k:=by
 induction c using CV.casesOn with
 |own k=>refine af (ab h) ?_;rfl
 |_=>exact aW h
theorem Xl (h:LD c=some l):c= .list l:=by
 induction c using MO.casesOn with
 |list l=>refine af (ab h) ?_;rfl
 |_=>exact aW h
theorem adO (h:aio c=some l):c= .ns l:=by
 induction c using MO.casesOn with
 |ns l=>refine af (ab h) ?_;rfl
 |_=>exact aW h
theorem XR (h:Sj c=some p):c= .inst p.1 (some p.2):=by
 induction c using MO.casesOn with
 |inst c d=>induction d using cO with
  |none=>exact aW h
  |some d=>refine eh (ab h) ?_;rfl
 |_=>exact aW h
def listIn (J:aZ) (c:CV) (Q:Nat->List CV->Prop):Prop:=lK (Up c) λo=>lK ((J[o]?).bind LD) λl=>Q o l
theorem uR (h:listIn J c Q):∃o l,c= .own o/\J[o]?=some (.list l)/\Q o l:=aG (jz h) λo a h=>aG (jz h) λl b h=>aG (a' b) λm d e=>(eA o l (FD a) (by rw[d,Xl e]) h)
def nsIn (J:aZ) (a:bz) (c:CV) (Q:Nat->List (bD×CV)->Prop):Prop:=lK (Up c) λk=>lK ((J[k]?).bind Sj) λp=>p.1=a/\lK ((J[p.2]?).bind aio) λl=>Q p.2 l
theorem yP (h:nsIn J a c Q):∃k d l,c= .own k/\J[k]?=some (.inst a (some d))/\J[d]?=some (.ns l)/\Q d l:=aG (jz h) λk b e=>oH (jz e) λp f g i=>aG (a' f) λm j n=>aG (jz i) λl o q=>aG (a' o) λt r s=>(jq k p.2 l (FD b) (by rw[j,XR n,g]) (by rw[r,adO s]) q)
noncomputable def y_ (l:List (bD×CV)) (k:bD) (c:CV):List (bD×CV):=
 if l.any (λp=>p.1=k) then l.map (λp=>if p.1=k then(p.1,c) else p) else l++[(k,c)]
noncomputable def nsSet:List (bD×CV)->bD->CV->List (bD×CV)
 |[],k,c=>[(k,c)]
 |p::l,k,c=>if p.1=k then(p.1,c)::l else p::nsSet l k c
def aie (mo:MO) (i:CV) (c:CV) (Q:MO->Prop):Prop:=match mo with
 | .list l=>atC i l.length (λj=>l[j]?) λ_=>lK (intOf i) λi=>0<=i/\Q (.list (l.set i.toNat c))
 | .dict l=>lK (strOf i) λx=>l.length<=1000/\Q (.dict (y_ l x c))
 |_=>False
def setC (J:aZ) (o i c:CV) (Q:aZ->Prop):Prop:=lK (Up o) λk=>lK J[k]? λmo=>aie mo i c λm=>Q (J.set k m)
def Hf (a:bz) (J:aZ) (o:CV) (x:bD) (c:CV) (Q:aZ->Prop):Prop:=nsIn J a o λd l=>l.length<=1000/\Q (J.set d (.ns (nsSet l x c)))
noncomputable def Lc:CV->Bool
 | .obj v=>(match v with| .ref _=>true|_=>false)
 |_=>true
def JH (a:bz) (J:aZ) (o:CV) (x:bD) (Q:CV->Prop):Prop:=nsIn J a o λ_ l=>lK (l.lookup x) λc=>Lc c=true/\Q c
mutual
def du:MT->CV->bk->aZ->(bk->aZ->Prop)->Prop
 | .var i,c,Z,J,Q=>Q (upd Z i c) J
 | .tup ts,c,Z,J,Q=>match eC J c with
  | .tup l=>ts.length=l.length/\mX ts l Z J Q
  | .lst l=>ts.length=l.length/\mX ts l Z J Q
  |_=>False
 | .sub o i,c,Z,J,Q=>E Z J o (λa J=>E Z J i (λb J=>setC J a b c (λJ=>Q Z J)))
 | .tB d o x,c,Z,J,Q=>E Z J o (λa J=>Hf d J a x c (λJ=>Q Z J))
 | .bad,_,_,_,_=>False
def mX:List MT->List CV->bk->aZ->(bk->aZ->Prop)->Prop
 |[],[],Z,J,Q=>Q Z J
 |t::ts,c::cs,Z,J,Q=>du t c Z J (λZ J=>mX ts cs Z J Q)
 |_,_,_,_,_=>False
end
def gD (g:aZ->Prop) (body:CV->List CV->aZ->(List CV->aZ->Prop)->Prop):List CV->List CV->aZ->(List CV->aZ->Prop)->Prop
 |[],a,J,Q=>g J/\Q a J
 |c::cs,a,J,Q=>g J/\body c a J (λa J=>gD g body cs a J Q)
def gE (T:bk->aZ->ME->(Bool->aZ->Prop)->Prop) (I:bk->aZ->MI->(List CV->(aZ->Prop)->aZ->Prop)->Prop) (d:ME):List MG->bk->List CV->aZ->(List CV->aZ->Prop)->Prop
 |[],Z,a,J,Q=>E Z J d (λc J=>a.length<=fj/\Q (a++[c]) J)
 | .mk t it e::f,Z,a,J,Q=>I Z J it (λitems g J=>gD g (λc a J Q=>du E t c Z J (λZ J=>lI (T Z) e J (λb J=>Br b (gE T I d f Z a J Q) (Q a J)))) items a J Q)
def pE (P:cZ) (Z:bk) (J:aZ) (it:MI) (Q:List CV->(aZ->Prop)->aZ->Prop):Prop:=match it with
 | .val e=>E Z J e (λc J=>∃l,sS J c=some l/\Q l (uF J c) J)
 | .range args=>qW E Z args J (λcs J=>tU cs=true/\∃l,pX cs=some l/\Q l (λ_=>True) J)
 | .sU e=>E Z J e (λc J=>∃l,ZM c=some l/\Q (l.zipIdx.map λp=> .tup [.int (p.2:Nat),p.1]) (λ_=>True) J)
 | .zip a b=>E Z J a (λc J=>E Z J b (λg J=>∃l d,[c,g]=[.lst l,.lst d]/\Q ((l.zip d).map λp=> .tup [p.1,p.2]) (λ_=>True) J))
 | .gen f args=>qW E Z args J (λcs J=>P.gen f cs (λl=>Q l (λ_=>True) J))
end
noncomputable def oe {α:Type} (b:α->α->Bool):α->List α->α
 |m,[]=>m
 |m,x::l=>oe b (match b x m with
  |true=>x
  |false=>m) l
noncomputable def oT:Int->List Int->Int:=oe λx m=>decide (x>m)
noncomputable def oS:Int->List Int->Int:=oe λx m=>decide (x<m)
noncomputable def afK:UInt64->List UInt64->UInt64:=oe λx m=>iv x m==some .gt
noncomputable def afI:UInt64->List UInt64->UInt64:=oe λx m=>iv x m==some .lt
def zi (a:Int->List Int->Int) (b:UInt64->List UInt64->UInt64) (cs:List CV) (Q:CV->Prop):Prop:=
 (∃x l,numsOf cs=some (x::l)/\Q (.int (a x l)))\/(∃x l,UP cs=some (x::l)/\Q (.bW (b x l)))
theorem Qf (h:zi a b cs Q):(∃x l,numsOf cs=some (x::l)/\Q (.int (a x l)))\/(∃x l,UP cs=some (x::l)/\Q (.bW (b x l))):=h
noncomputable def lM (a:bD):List bD->bD
 |[x]=>x
 |l=>pe a l
def RO (d:Int->List Int->Int) (e:UInt64->List UInt64->UInt64) (cs:List CV) (Q:CV->Prop):Prop:=match cs with
 |[]=>False
 |a::r=>(match r with
  |[]=>(match a with| .lst l=>zi d e l Q|_=>False)
  |b::r=>(match r with
   |[]=>zi d e [a,b] Q
   |c::r=>(match r with|[]=>zi d e [a,b,c] Q|_::_=>False)))
def YQ (b:BI) (cs:List CV) (Q:CV->Prop):Prop:=match b with
 | .len=>one cs λc=>match c with
  | .str s=>s.length<=fj/\Q (.int s.length)
  | .lst l=>l.length<=fj/\Q (.int l.length)
  |_=>False
 | .abs=>one cs λc=>match c with| .int a=>Q (.int (if a<0 then-a else a))|_=>False
 | .chr=>one cs λc=>match c with| .int a=>(0<=a/\a<=0x10FFFF)/\Q (.str ⟨#[a.toNat]⟩)|_=>False
 | .str=>one cs λc=>match c with| .int a=>a.natAbs<2^1000/\Q (.str (aa (toString a)))|_=>False
 | .int=>one cs λc=>match c with
  | .str s=>s.length<=640/\∃n,w' s=some n/\Q (.int n)
  | .bW x=>∃d m e,ji x= .fin d m e/\Q (.int (vJ d m e))
  |_=>False
 | .type=>one cs λc=>match c with
  | .str _=>Q (.obj (.type "str"))
  | .int _=>Q (.obj (.type "int"))
  | .bW _=>Q (.obj (.type "float"))
  | .lst _=>Q (.obj (.type "list"))
  |_=>False
 | .max=>RO oT afK cs Q
 | .min=>RO oS afI cs Q
 | .round=>one cs λc=>match c with
  | .int a=>Q (.int a)
  | .bW x=>∃d m e,ji x= .fin d m e/\Q (.int (tl d m e))
  |_=>False
def nil (cs:List CV) (Q:Prop):Prop:=match cs with
 |[]=>Q
 |_::_=>False
def Js (cs:List CV) (f:bD->Prop):Prop:=one cs λc=>∃y,strOf c=some y/\f y
def wm (m:SM) (s:bD) (cs:List CV) (Q:CV->Prop):Prop:=match m with
 | .join=>one cs λc=>match c with
  | .lst l=>∃ss,strsOf l=some ss/\dT (ss.toArray.foldl (· + ·.length+s.length) 0)=false/\Q (.str (lM s ss))
  |_=>False
 | .isdigit=>nil cs (Q (.bool (s.length>0&&s.cps.all Ek)))
 | .index=>Js cs λy=>∃i rest,d_ s y 0 s.length 1=i::rest/\Q (.int (i:Nat))
 | .count=>Js cs λy=>Q (.int (d_ s y 0 s.length (s.length+1)).length)
 | .lower=>nil cs (dT (placed s λi _=>ls s.cps i).size=false/\Q (.str ⟨placed s λi _=>ls s.cps i⟩))
 | .replace=>match cs with
  |[]=>False
  |a::r=>one r λb=>∃y z,strOf a=some y/\strOf b=some z/\(d_ s y 0 s.length (s.length+1)).isEmpty=true/\Q (.str s)
def afH (c:CV) (Q:CV->Prop):Prop:=match c with
 | .int i=>Q (.int (-i))
 |_=>False
def acn (op:iT) (a b:CV) (Q:CV->Prop):Prop:=match a with
 | .str x=>(match op with
  | .Add=>(match b with
   | .str y=>x.length+y.length<=fj/\Q (.str (x++y))
   |_=>False)
  |_=>False)
 |a=>An op a b Q
def wU (op:iT) (a b:CV) (Q:CV->Prop):Prop:=match op with
 | .Add=>(match a with
  | .str x=>(match b with
   | .str y=>x.length+y.length<=fj/\Q (.str (x++y))
   |_=>False)
  | .int x=>(match b with
   | .int y=>Q (.int (x+y))
   |_=>False)
  |_=>False)
 | .Sub=>Mj a b λx y=>Q (.int (x-y))
 |_=>False
def afF (J:aZ) (c:CV) (Q:CV->aZ->Prop):Prop:=listIn J c (λo l=>match l with
 |[]=>False
 |x::l=>(x::l).length<=fj/\Q x (J.set o (.list l)))
def UA (c:bz) (x:bD) (a:CV) (J:aZ):Prop:=nsIn J c a λ_ l=>l.lookup x=none
def Ur (c:CV) (J:aZ) (Q:EPost):Prop:=match c with
 | .lst l=>Q (.own J.length) (J++[.list l])
 | .gx l=>Q (.own J.length) (J++[.dict l])
 |_=>False
def aw (P:cZ):Nat->bk->aZ->ME->EPost->Prop
 |0,_,_,_,_=>False
 |n+1,Z,J,e,Q=>match e with
  | .cst c=>Q c J
  | .var i=>match Z i with
   |some c=>Q c J
   |none=>False
  | .bin op l r=>aw P n Z J l (λa J=>aw P n Z J r (λb J=>acn op (eC J a) (eC J b) (λc=>Q c J)))
  | .neg e=>aw P n Z J e (λa J=>afH a (λc=>Q c J))
  | .not e=>aw P n Z J e (λa J=>nU (eC J a) (λb=>Q (.bool (!b)) J))
  | .band es=>z' (aw P n) true Z es J Q
  | .bor es=>z' (aw P n) false Z es J Q
  | .iD t a b=>gm (aw P n) Z n J t (λr J=>Br r (aw P n Z J a Q) (aw P n Z J b Q))
  | .cmp l h rs=>aw P n Z J l (λa J=>M_ (aw P n) Z h a rs J (λb J=>Q (.bool b) J))
  | .tup es=>qW (aw P n) Z es J (λcs J=>cs.length<=1000/\Q (.tup cs) J)
  | .lst es=>qW (aw P n) Z es J (λcs J=>cs.length<=1000/\Q (.lst cs) J)
  | .gx d es=>qW (aw P n) Z es J (λcs J=>d.length=cs.length/\cs.length<=1000/\d.Nodup/\Q (.gx (d.zip cs)) J)
  | .new e=>aw P n Z J e (λc J=>Ur c J Q)
  | .idx o i=>aw P n Z J o (λa J=>aw P n Z J i (λb J=>Gj (eC J a) b (λc=>Q c J)))
  | .pu o l s=>aw P n Z J o (λa J=>QR (aw P n) Z J l (λu J=>QR (aw P n) Z J s (λv J=>Ui (eC J a) u v (λc=>Q c J))))
  | .bi b args=>qW (aw P n) Z args J (λcs J=>YQ b (cs.map (eC J)) (λc=>Q c J))
  | .eK f args=>qW (aw P n) Z args J (λcs J=>P.eK f cs [] J Q)
  | .kB m o args=>aw P n Z J o (λa J=>match a with
   | .str x=>qW (aw P n) Z args J (λcs J=>wm m x (cs.map (eC J)) (λc=>Q c J))
   |_=>False)
  | .gJ c f x o args w kv=>aw P n Z J o (λa J=>UA c x a J/\qW (aw P n) Z args J (λcs J=>qW (aw P n) Z kv J (λd J=>P.eK f (a::cs) (w.zip d) J Q)))
  | .attr y o x=>aw P n Z J o (λa J=>JH y J a x (λc=>Q c J))
  | .Jo o=>aw P n Z J o (λa J=>afF J a Q)
  | .rep e i=>aw P n Z J e (λc J=>aw P n Z J i (λk J=>match k with
   | .int k=>(0<=k/\k<=1000)/\Q (.lst (iz k.toNat c)) J
   |_=>False))
  | .comp j g=>gE (aw P n) (λZ=>gm (aw P n) Z n) (pE (aw P n) P) j g Z [] J (λq J=>Q (.lst q) J)
  | .ext e is=>match iV Z is with
   |some cs=>P.ext e cs J Q
   |none=>False
  | .bad=>False
inductive MS where
 |asg (t:MT) (e:ME)
 |aug (i:Nat) (op:iT) (e:ME)
 |Vb (o i:ME) (op:iT) (e:ME)
 |Vc (c:bz) (o:ME) (x:bD) (op:iT) (e:ME)
 |pO (o:ME) (e:ME)
 |exp (e:ME)
 |iff (t:ME) (a b:List MS)
 |kZ (t:MT) (it:MI) (body:List MS)
 |ret (e:ME)
 |brk
 |cont
 |ext (st:oq)
 |bad
 deriving Inhabited
set_option genCtorIdx true in
inductive Qn where
 |next|brk|cont|ret (c:CV)
noncomputable abbrev fA:=Qn->bk->aZ->Prop
noncomputable def vY (k:bk->aZ->Prop) (Q:fA):fA:=λf Z J=>match f with
 | .next=>k Z J
 |f=>Q f Z J
noncomputable def yx (k:bk->aZ->Prop) (Q:fA):fA:=λf Z J=>match f with
 | .next=>k Z J
 | .cont=>k Z J
 | .brk=>Q .next Z J
 | .ret v=>Q (.ret v) Z J
def eO (g:aZ->Prop) (body:CV->bk->aZ->fA->Prop):List CV->bk->aZ->fA->Prop
 |[],Z,J,Q=>g J/\Q .next Z J
 |c::cs,Z,J,Q=>g J/\body c Z J (yx (λZ J=>eO g body cs Z J Q) Q)
def bX (S:MS->bk->aZ->fA->Prop):List MS->bk->aZ->fA->Prop
 |[],Z,J,Q=>Q .next Z J
 |st::a,Z,J,Q=>S st Z J (vY (λZ J=>bX S a Z J Q) Q)
noncomputable abbrev dZ:=oq->bk->aZ->fA->Prop
def wpS (P:cZ) (PS:dZ):Nat->MS->bk->aZ->fA->Prop
 |0,_,_,_,_=>False
 |n+1,st,Z,J,Q=>match st with
  | .asg t e=>aw P n Z J e (λc J=>du (aw P n) t c Z J (λZ J=>Q .next Z J))
  | .aug i op e=>match Z i with
   |some a=>aw P n Z J e (λb J=>wU op (eC J a) (eC J b) (λc=>Q .next (upd Z i c) J))
   |none=>False
  | .Vb o i op e=>aw P n Z J o (λd J=>aw P n Z J i (λf J=>Gj (eC J d) f (λa=>
    aw P n Z J e (λb J=>wU op (eC J a) (eC J b) (λc=>setC J d f c (λJ=>Q .next Z J))))))
  | .Vc h o x op e=>aw P n Z J o (λd J=>JH h J d x (λa=>
    aw P n Z J e (λb J=>wU op (eC J a) (eC J b) (λc=>Hf h J d x c (λJ=>Q .next Z J)))))
  | .pO o e=>aw P n Z J o (λd J=>listIn J d (λ_ _=>aw P n Z J e (λc J=>listIn J d (λo l=>l.length<=fj/\Q .next Z (J.set o (.list (l++[c])))))))
  | .exp e=>aw P n Z J e (λ_ J=>Q .next Z J)
  | .iff t a b=>gm (aw P n) Z n J t (λr J=>Br r (bX (wpS P PS n) a Z J Q) (bX (wpS P PS n) b Z J Q))
  | .kZ t it body=>pE (aw P n) P Z J it (λitems g J=>eO g (λc Z J Q=>du (aw P n) t c Z J (λZ J=>bX (wpS P PS n) body Z J Q)) items Z J Q)
  | .ret e=>aw P n Z J e (λc J=>Q (.ret c) Z J)
  | .brk=>Q .brk Z J
  | .cont=>Q .cont Z J
  | .ext st=>PS st Z J Q
  | .bad=>False
noncomputable def nI:xf->Option CV
 | .none=>some .none
 | .bool b=>some (.bool b)
 | .int i=>some (.int i)
 | .float x=>some (.bW x)
 | .str s=>some (.str s)
 |_=>none
noncomputable def ES:bq->Option CV
 | .none=>some .none
 | .bool b=>some (.bool b)
 | .int i _=>some (.int i)
 | .float x _=>some (.bW x)
 | .ref a=>some (.obj (.ref a))
 | .type n=>some (.obj (.type n))
 |_=>none
noncomputable def wQ:List (bq×BI):=[(.builtin "len",.len),(.builtin "chr",.chr),(.builtin "min",.min),(.builtin "max",.max),(.builtin "round",.round),(.builtin "abs",.abs),(.type "str",.str),(.type "int",.int),(.type "type",.type)]
noncomputable def BS:List (bD×SM):=[("join",.join),("isdigit",.isdigit),("index",.index),("count",.count),("replace",.replace),("lower",.lower)]
noncomputable abbrev gq:=jH×List (bD×Nat)
inductive EV where
 |cst (c:xf)
 |name (x:bD)
 |bin (l:ay) (op:iT) (r:ay)
 |un (op:ID) (x:ay)
 |bool (op:MB) (es:List ay)
 |iD (t a b:ay)
 |cmp (l:ay) (ops:List CmpOp) (rs:List ay)
 |tup (es:List ay)
 |lst (es:List ay)
 |gx (ks:List (Option ay)) (vs:List ay)
 |sub (o i:ay)
 |tB (o:ay) (x:bD) (p:Pos)
 |call (f:ay) (args:List ay) (aa5:List vn) (p:Pos)
 |comp (elt:ay) (gens:List nP) (H:jH)
 |pu (l G5 st:Option ay)
 |star
 |set
 |Ul
 |xW (v:Option ay)
 |joined (l:List ay)
 |fmt (v:ay) (c:Int) (s:Option ay)
 |other
noncomputable def vw:ay->EV
 | .Constant c _ _=> .cst c
 | .Name x _=> .name x
 | .BinOp l op r _=> .bin l op r
 | .UnaryOp op x _=> .un op x
 | .BoolOp op es _=> .bool op es
 | .IfExp t a b _=> .iD t a b
 | .Compare l e rs _=> .cmp l e rs
 | .Tuple es _ _=> .tup es
 | .List es _=> .lst es
 | .Dict j vs _=> .gx j vs
 | .Subscript o i _=> .sub o i
 | .Attribute o x p=> .tB o x p
 | .Call f args g p=> .call f args g p
 | .ListComp h d H _=> .comp h d H
 | .Slice l k st _=> .pu l k st
 | .Starred .. => .star
 | .Set .. => .set
 | .SetComp .. => .Ul
 | .DictComp .. => .Ul
 | .Yield v _=> .xW v
 | .JoinedStr l _=> .joined l
 | .FormattedValue v c s _=> .fmt v c s
 | .NamedExpr .. => .other
 | .Lambda .. => .other
 | .GeneratorExp .. => .other
 | .Await .. => .other
 | .YieldFrom .. => .other
noncomputable def bR (e:ay):Bool:=e.ctorIdx !=22
noncomputable def mT (e:ay):Bool:=e.ctorIdx !=7
noncomputable def dt (s:gq) (next:Nat) (H:jH):gq×Nat:=
 let a:=H.names.filter λx=>x.2== .local||x.2== .cell
 let b:=H.names.filterMap λx=>if x.2== .free then(s.2.lookup x.1).map λi=>(x.1,i) else none
 ((H,(a.zipIdx.map λp=>(p.1.1,next+p.2))++b),next+a.length)
noncomputable def plainT (e:ay):Bool:=match vw e with
 | .un op _=>(match op with| .Not=>false|_=>true)
 | .bool .. =>false
 | .iD .. =>false
 | .cmp .. =>false
 |_=>true
noncomputable def Kb (g:nP):Bool:=g.is_async==0&&mT g.iter
noncomputable def L' (s:gq) (H:jH):Bool:=
 H.kind== .function&&H.names.all (λx=>H.names.lookup x.1==some x.2)&&
  H.names.all (λx=>x.2 != .free||((s.2.lookup x.1).isSome&&tW (s.1.names.lookup x.1)== .Ii&&x.1 !=("__classdict__" :bD)))
structure Rd where
 G:bD->Option bq
 mt:List ((bD×bD)×(bz×bz)):=[]
 at_:List ((bD×bD)×bz):=[]
 gens:List Addr:=[]
 afG:List Addr:=[]
 aib:Nat:=0
 xE:jH->ay->Option (List bD):=λ_ _=>none
 xS:oq->Bool:=λ_=>false
noncomputable def acq (e:ay):Option {p:List ay×Nat×Pos//e= .Tuple p.1 p.2.1 p.2.2}:=match e with
 | .Tuple es k p=>some ⟨(es,k,p),rfl⟩
 |_=>none
noncomputable def isTup (e:ay):Bool:=(acq e).isSome
theorem T_ (h:isTup t=true):∃es k p,t= .Tuple es k p:=
 oE (acq t) (λe=>bV ((congrArg Option.isSome e).symm.trans h)) λx a=>abh _ _ _ x.2
noncomputable def rC (it:MI):Bool:=match it with
 | .val _=>false
 | .range _=>false
 |_=>true
mutual
noncomputable def oQ:MT->Bool
 | .var _=>true
 | .tup l=>Ez l
 |_=>false
noncomputable def Ez:List MT->Bool
 |[]=>true
 |t::l=>oQ t&&Ez l
end
mutual
noncomputable def lJ:MT->List Nat
 | .var i=>[i]
 | .tup l=>Et l
 |_=>[]
noncomputable def Et:List MT->List Nat
 |[]=>[]
 |t::l=>lJ t++Et l
end
noncomputable def Al (e:ay) (tt:Bool):Bool:=isTup e||(e.ctorIdx !=24&&!tt)
noncomputable def Of (e:ay) (t:MT) (it:MI) (a:List Nat):Bool:=Al e (rC it)&&oQ t&&(lJ t).all λi=>!a.contains i
noncomputable def DJ (d:Nat) (e:ME):ME:=match d with
 |0=>e
 |_+1=> .new e
noncomputable def qE:Option ME->ME
 |some e=>e
 |none=> .bad
noncomputable def mq:List vn->Option (List bD)
 |[]=>some []
 |⟨some x,_,_⟩::l=>(mq l).map (x:: ·)
 |_=>none
noncomputable def mS (e:ay):Bool:=e.ctorIdx !=26
noncomputable def aff (e:ay):Option {p:ay×List ay×List vn//∃q,e= .Call p.1 p.2.1 p.2.2 q}:=match e with
 | .Call f a b q=>some ⟨(f,a,b),q,rfl⟩
 |_=>none
noncomputable def asName (e:ay):Option {x:bD//∃q,e= .Name x q}:=match e with
 | .Name x q=>some ⟨x,q,rfl⟩
 |_=>none
noncomputable def afe (e:ay):Option {l:List ay//∃q,e= .List l q}:=match e with
 | .List l q=>some ⟨l,q,rfl⟩
 |_=>none
noncomputable def ahQ (e:ay):Option {c:xf//∃p q,e= .Constant c p q}:=match e with
 | .Constant c p q=>some ⟨c,p,q,rfl⟩
 |_=>none
noncomputable def ahP (c:xf):Option {i:Int//c= .int i}:=match c with
 | .int i=>some ⟨i,rfl⟩
 |_=>none
noncomputable def ahO (v:bq):Option {a:bz//v= .ref a}:=match v with
 | .ref a=>some ⟨a,rfl⟩
 |_=>none
noncomputable def ai6 (v:bq):Option {t:String//v= .type t}:=match v with
 | .type a=>some ⟨a,rfl⟩
 |_=>none
noncomputable def wj {α:Type} (b:Bool) (o:Option α):Option α:=match b with
 |true=>o
 |false=>none
theorem me {o:Option α} {x} (h:wj b o=some x):b=true/\o=some x:=by
 induction b using cB with
 |true=>exact⟨rfl,h⟩
 |false=>exact aW h
noncomputable def ahr (c:ay×List ay×List vn):Option (bD×List ay):=(asName c.1).bind λn=>wj c.2.2.isEmpty (some (n.1,c.2.1))
noncomputable def headOf (e:ay):Option (bD×List ay):=(aff e).bind λc=>ahr c.1
theorem Sr (h:headOf e=some (x,args)):∃p q,e= .Call (.Name x p) args [] q:=
 aG (a' h) λc a h=>aG (a' h) λn a h=>fK (me h) λb h=>n.2.elim λp d=>c.2.elim λq f=>(sT p q (af f (af d (af (De.mp b) (congrArg (λz:bD×List ay=>Zc (.Name z.1 p) z.2 [] q) (ab h))))))
noncomputable def xA (e:ay):Bool:=match headOf e with
 |some p=>p.1 !=("super" :bD)
 |none=>true
noncomputable def FN (o:ay) (b p:Pos) (args:List ay) (a:List vn):Bool:=xA o&&b.endLine==p.line&&decide (args.length+a.length<25)
noncomputable def aaz {α a:Type} (f:Nat->α->a):Nat->List α->List a
 |_,[]=>[]
 |d,e::es=>f (d%4) e::aaz f (d/4) es
noncomputable def tv:Option Nat->MT
 |some i=> .var i
 |none=> .bad
noncomputable def za (b:Bool) (e:ME):ME:=match b with
 |true=>e
 |false=> .bad
noncomputable def IY (b:Bool) (e:MT):MT:=match b with
 |true=>e
 |false=> .bad
noncomputable def Jg (b:Bool) (e:MS):MS:=match b with
 |true=>e
 |false=> .bad
noncomputable def uV (k:afq):Bool:=k== .Gn
theorem xF (h:uV k=true):k= .Gn:=eq_of_beq h
noncomputable def AG (k:Option um):Bool:=k==some .local||k==some .cell
theorem Gh (h:AG k=true):k=some .local\/k=some .cell:=(gV.mp h).imp eq_of_beq eq_of_beq
noncomputable def refOf (v:bq):Option Addr:=(ahO v).map (·.1)
theorem Jn (h:refOf v=some a):v= .ref a:=aG (eE.mp h) λx a e=>e▸x.2
noncomputable def afw (v:bq):Option String:=(ai6 v).map (·.1)
theorem ZA (h:afw v=some a):v= .type a:=aG (eE.mp h) λx a e=>e▸x.2
noncomputable def oneOf (args:List ay):Option PySem.Expr:=match args with
 |[]=>none
 |a::r=>wj r.isEmpty (some a)
theorem rB (h:oneOf l=some a):l=[a]:=by
 induction l using cL with
 |nil=>exact aW h
 |cons x r=>exact fK (me h) λe h=>congr (congrArg List.cons (ab h)) (De.mp e)
noncomputable def AE (e:ay):Option PySem.Expr:=(afe e).bind λl=>oneOf l.1
theorem OJ (h:AE e=some x):∃p,e= .List [x] p:=by
 obtain⟨⟨l,p,e⟩,_,h⟩:=a' h
 exact⟨p,rB h▸e⟩
noncomputable def EF (k:iT):Bool:=k== .Mult
theorem Sg (h:EF k=true):k= .Mult:=eq_of_beq h
noncomputable def aev (e:ay):Option Int:=(ahQ e).bind λc=>(ahP c.1).map (·.1)
noncomputable def isZero (l:List ay):Bool:=(oneOf l).bind aev==some 0
theorem isZero_eq (h:isZero l=true):∃p q,l=[.Constant (.int 0) p q]:=
 aG (a' (eq_of_beq h)) λe a h=>aG (a' h) λc b h=>aG (eE.mp h) λi b h=>c.2.elim λp d=>d.elim λq f=>(sT p q (by rw[rB a,f,i.2,h]))
structure akc where
 E:gq->Nat->Nat->ay->ME
 I:gq->Nat->ay->MI
 T:gq->Nat->ay->MT
section
variable (R:Rd)
noncomputable def recv (o:ay) (m:bD):Option (bz×bz):=match vw o with
 | .name r=>R.mt.lookup (r,m)
 |_=>none
noncomputable def wg (o:ay) (x:bD):Option Addr:=match vw o with
 | .name r=>R.at_.lookup (r,x)
 |_=>none
noncomputable def Ln (s:gq) (x:bD):ME:=match x==("__debug__" :bD) with
 |true=> .bad
 |false=>match tW (s.1.names.lookup x) with
  | .loc=>qE ((s.2.lookup x).map .var)
  | .Ii=>qE ((s.2.lookup x).map .var)
  | .Gn=>qE ((R.G x).bind λv=>(ES v).map .cst)
  | .bad=> .bad
variable (fE:gq->Nat->Nat->ay->ME) (fI:gq->Nat->ay->MI) (fT:gq->Nat->ay->MT) (s:gq) (L d:Nat)
noncomputable def G_ (l:ay) (op:iT) (r:ay):ME:=match AE l with
 |some e=>(match EF op with
  |true=>za (bR e) (DJ d (.rep (fE s L 0 e) (fE s L 0 r)))
  |false=> .bin op (fE s L 0 l) (fE s L 0 r))
 |none=> .bin op (fE s L 0 l) (fE s L 0 r)
noncomputable def ahZ (op:ID) (x:ME):ME:=match op with
 | .USub=> .neg x
 | .Not=> .not x
 |_=> .bad
noncomputable def ae_ (op:MB) (es:List ME):ME:=match op with
 | .And=> .band es
 | .Or=> .bor es
noncomputable def agG (o i:ay):ME:=match vw i with
 | .pu l a st=>(match st with
  |none=> .pu (fE s L 0 o) (l.map (fE s L 0)) (a.map (fE s L 0))
  |some _=> .bad)
 |_=> .idx (fE s L 0 o) (fE s L 0 i)
noncomputable def Ti (o:ay) (x:bD):ME:=match wg R o x with
 |some c=> .attr c (fE s L 0 o) x
 |none=> .bad
noncomputable def QU (v:bq) (args:List ay):ME:=match refOf v with
 |some a=> .eK a (args.map (fE s L (if R.afG.contains a then 1 else 0)))
 |none=>(match wQ.lookup v with
  |some b=> .bi b (args.map (fE s L 0))
  |none=> .bad)
noncomputable def GS (x:bD) (args:List ay):ME:=match R.G x with
 |some v=>za (uV (tW (s.1.names.lookup x))&&args.all bR) (QU R fE s L v args)
 |none=> .bad
noncomputable def GU (o:ay) (m:bD) (args:List ay) (a:List vn):ME:=match recv R o m with
 |some cf=>(match mq a with
  |some b=> .gJ cf.1 cf.2 m (fE s L 0 o) (args.map (fE s L 0)) b (a.map λk=>fE s L 0 k.value)
  |none=> .bad)
 |none=>(match a with
  |[]=>(match BS.lookup m with
   |some m=> .kB m (fE s L 0 o) (args.map (fE s L 0))
   |none=>za (m==("pop" :bD)&&isZero args) (.Jo (fE s L 0 o)))
  |_::_=> .bad)
noncomputable def ae6 (f:ay) (args:List ay) (a:List vn) (p:Pos):ME:=match vw f with
 | .name x=>(match a with
  |[]=>GS R fE s L x args
  |_::_=> .bad)
 | .tB o m b=>za (args.all bR&&FN o b p args a) (GU R fE s L o m args a)
 |_=> .bad
noncomputable def Gl:List Nat->List nP->List MG
 |_,[]=>[]
 |a,g::b=>match Of g.target (fT s L g.target) (fI s L g.iter) a&&g.is_async==0 with
  |true=> .mk (fT s L g.target) (fI s L g.iter) (g.ifs.map (fE s L 0))::Gl (a++lJ (fT s L g.target)) b
  |false=>[.mk .bad (.val .bad) []]
noncomputable def UW (c:ay) (b:List nP) (H:jH):ME:=match b with
 |[]=> .bad
 |g::e=>
  let u:=(dt s L H).1
  let a:=(dt s L H).2
  za (Of g.target (fT u a g.target) (fI s L g.iter) []&&L' s H&&mT g.iter&&e.all Kb&&g.is_async==0)
   (DJ d (.comp (fE u a (d-1) c) (.mk (fT u a g.target) (fI s L g.iter) (g.ifs.map (fE u a 0))::Gl fE fI fT u a (lJ (fT u a g.target)) e)))
noncomputable def aeX (a:List (Option ay)) (vs:List ay):ME:=match a with
 |[]=>(match vs with
  |[]=>DJ d (.gx [] [])
  |_::_=> .bad)
 |_::_=> .bad
noncomputable def ahH (e:ay):ME:=match vw e with
 | .cst c=>qE ((nI c).map .cst)
 | .name x=>Ln R s x
 | .bin l op r=>G_ fE s L d l op r
 | .un op x=>ahZ op (fE s L 0 x)
 | .bool op es=>ae_ op (es.map (fE s L 0))
 | .iD t a b=> .iD (fE s L 0 t) (fE s L 0 a) (fE s L 0 b)
 | .cmp l h rs=>za (rs.all mT) (.cmp (fE s L 0 l) h (rs.map (fE s L 0)))
 | .tup es=>za (es.all bR) (.tup (aaz (fE s L) d es))
 | .lst es=>za (es.all bR) (DJ d (.lst (es.map (fE s L (d-1)))))
 | .gx m vs=>aeX d m vs
 | .sub o i=>agG fE s L o i
 | .tB o x _=>za (xA o) (Ti R fE s L o x)
 | .call f args j p=>ae6 R fE s L f args j p
 | .comp k g H=>UW fE fI fT s L d k g H
 |_=> .bad
noncomputable def ae8 (e:ay):ME:=match R.xE s.1 e with
 |some k=>za (plainT e&&k.all λx=>(s.2.lookup x).isSome) (.ext e (k.map λx=>(s.2.lookup x).getD 100000))
 |none=>ahH R fE fI fT s L d e
inductive YY:bq->List ay->MI->Prop
 |range args:args.all bR=true->YY (.type "range") args (.range (args.map (fE s L 0)))
 |sU a:bR a=true->YY (.type "enumerate") [a] (.sU (fE s L 0 a))
 |zip a b:bR a=true->bR b=true->YY (.type "zip") [a,b] (.zip (fE s L 0 a) (fE s L 0 b))
 |gen a args:args.all bR=true->YY (.ref a) args (.gen a (args.map (fE s L 0)))
theorem or_elim {α:Type} {o b:Option α} {x} (h:o.or b=some x):o=some x\/b=some x:=by
 induction o using cO with
 |none=>exact .inr h
 |some a=>exact .inl h
noncomputable def ajh (t:String) (args:List ay):Option MI:=wj (t=="range" &&args.all bR) (some (.range (args.map (fE s L 0))))
noncomputable def aji (t:String) (args:List ay):Option MI:=(oneOf args).bind λa=>wj (t=="enumerate" &&bR a) (some (.sU (fE s L 0 a)))
noncomputable def ajf (t:String) (a:ay) (r:List ay):Option MI:=(oneOf r).bind λb=>wj (t=="zip" &&(bR a&&bR b)) (some (.zip (fE s L 0 a) (fE s L 0 b)))
noncomputable def spT (t:String) (args:List ay):Option MI:=(ajh fE s L t args).or ((aji fE s L t args).or (match args with
 |[]=>none
 |a::r=>ajf fE s L t a r))
noncomputable def ajk (a:bz) (args:List ay):Option MI:=wj (args.all bR&&R.gens.contains a) (some (.gen a (args.map (fE s L 0))))
noncomputable def ajg (v:bq) (args:List ay):Option MI:=((afw v).bind λt=>spT fE s L t args).or ((refOf v).bind λa=>ajk R fE s L a args)
noncomputable def ajj (x:bD) (args:List ay):Option MI:=(R.G x).bind λv=>wj (uV (tW (s.1.names.lookup x))) (ajg R fE s L v args)
noncomputable def adv (e:ay):Option MI:=(headOf e).bind λp=>ajj R fE s L p.1 p.2
theorem adt (h:spT fE s L t args=some f):YY fE s L (.type t) args f:=by
 rcases or_elim h with h|h
 ·obtain⟨c,h⟩:=me h
  exact af (eq_of_beq (aq.mp c).1) (eh (ab h) (.range args (aq.mp c).2))
 rcases or_elim h with h|h
 ·refine aG (a' h) λa g h=>?_
  obtain⟨c,h⟩:=me h
  exact af (eq_of_beq (aq.mp c).1) (af (rB g) (eh (ab h) (.sU a (aq.mp c).2)))
 ·induction args using cL with
  |nil=>exact aW h
  |cons a r=>
   refine aG (a' h) λb i h=>?_
   obtain⟨c,h⟩:=me h
   have e:=aq.mp (aq.mp c).2
   exact af (eq_of_beq (aq.mp c).1) (af (rB i) (eh (ab h) (.zip a b e.1 e.2)))
theorem adu (h:adv R fE s L e=some b):∃x args p p' v,e= .Call (.Name x p) args [] p'/\R.G x=some v/\tW (s.1.names.lookup x)= .Gn/\YY fE s L v args b:=by
 refine cps λm c=>?_
 obtain⟨⟨x,args⟩,f,h⟩:=a' h
 refine aG (a' h) λv g h=>?_
 obtain⟨i,h⟩:=me h
 refine c (nu (Sr f) λp p' e=>(aiE x args p p' v e g (xF i) ?_))
 rcases or_elim h with h|h
 ·exact aG (a' h) λt j h=>af (ZA j) (adt fE s L h)
 ·exact aG (a' h) λa k h=>fK (me h) λl h=>af (Jn k) (eh (ab h) (.gen a args (aq.mp l).1))
noncomputable def ai2 (e:ay):MI:=(adv R fE s L e).getD (.val (fE s L 0 e))
noncomputable def wa (x:bD):MT:=match AG (s.1.names.lookup x) with
 |true=>tv (s.2.lookup x)
 |false=> .bad
noncomputable def Nv (o:ay) (x:bD):MT:=match wg R o x with
 |some c=> .tB c (fE s L 0 o) x
 |none=> .bad
noncomputable def aj9 (e:ay):MT:=match vw e with
 | .name x=>wa s x
 | .tup es=>IY (es.all bR) (.tup (es.map (fT s L)))
 | .sub o i=>IY (mS i) (.sub (fE s L 0 o) (fE s L 0 i))
 | .tB o x _=>Nv R fE s L o x
 |_=> .bad
end
section
variable (R:Rd)
noncomputable def cF (n:Nat):akc:=n.rec ⟨λ_ _ _ _=> .bad,λ_ _ _=> .val .bad,λ_ _ _=> .bad⟩ λ_ f=>⟨ae8 R f.E f.I f.T,ai2 R f.E,aj9 R f.E f.T⟩
noncomputable def cE (n:Nat) (s:gq) (L d:Nat) (e:ay):ME:=(cF R n).E s L d e
noncomputable def cI (n:Nat) (s:gq) (L:Nat) (e:ay):MI:=(cF R n).I s L e
noncomputable def cT (n:Nat) (s:gq) (L:Nat) (e:ay):MT:=(cF R n).T s L e
variable {R} {n:Nat} {s:gq} {L d:Nat} {e:ay}
theorem Qa:cE R (n+1) s L d e=ae8 R (cE R n) (cI R n) (cT R n) s L d e:=rfl
theorem ai3:cI R (n+1) s L e=ai2 R (cE R n) s L e:=rfl
theorem GV (h:R.xE s.1 e=some k):cE R (n+1) s L d e=za (plainT e&&k.all λx=>(s.2.lookup x).isSome) (.ext e (k.map λx=>(s.2.lookup x).getD 100000)):=by
 rw[Qa,ae8,h]
theorem A_ (h:R.xE s.1 e=none):cE R (n+1) s L d e=ahH R (cE R n) (cI R n) (cT R n) s L d e:=by
 rw[Qa,ae8,h]
end
theorem ka (h:aw P m Z J (za b e) Q):b=true/\aw P m Z J e Q:=by
 induction b using cB with
 |true=>exact⟨rfl,h⟩
 |false=>induction m using cN<;>exact ar h
noncomputable def Eu (t e:Expr):Bool:=match vw t with
 | .tup _=>(match vw e with
  | .tup vs=>vs.all (IA 8)||!vs.all (HD 8)
  |_=>true)
 | .lst _=>false
 |_=>true
noncomputable def kJ (e:Expr):Bool:=tm 8 e.ctorIdx&&tm e.ctorIdx 10
section
variable (R:Rd) (O:List (bD×Nat))
noncomputable def ownOf (e:ay):Nat:=match vw e with
 | .name x=>(O.lookup x).getD 0
 | .tB _ x _=>(O.lookup x).getD 0
 | .tup es=>es.foldr (λe k=>(match vw e with
  | .name x=>(O.lookup x).getD 0%4
  |_=>0)+4*k) 0
 |_=>0
variable (n:Nat) (s:gq) (L:Nat)
noncomputable def ahN (ts:List ay) (e:ay):MS:=match ts with
 |[]=> .bad
 |t::r=>(match r with
  |[]=>Jg (Eu t e) (.asg (cT R n s L t) (cE R n s L (ownOf O t) e))
  |_::_=> .bad)
noncomputable def aco (x:bD) (op:iT) (e:ME):MS:=match s.2.lookup x with
 |some i=>Jg (AG (s.1.names.lookup x)) (.aug i op e)
 |none=> .bad
noncomputable def Th (o:ay) (x:bD) (op:iT) (e:ME):MS:=match wg R o x with
 |some c=> .Vc c (cE R n s L 0 o) x op e
 |none=> .bad
noncomputable def acp (t:ay) (op:iT) (e:ME):MS:=match vw t with
 | .name x=>aco s x op e
 | .sub o i=>Jg (mS i) (.Vb (cE R n s L 0 o) (cE R n s L 0 i) op e)
 | .tB o x _=>Th R n s L o x op e
 |_=> .bad
noncomputable def Tp (o:ay) (p p':Pos) (args:List ay) (a:List vn):MS:=match oneOf args with
 |some e=>(match a with
  |[]=>Jg (bR e&&FN o p p' args a) (.pO (cE R n s L 0 o) (cE R n s L 0 e))
  |_::_=> .bad)
 |none=> .bad
noncomputable def abH (e:ay):MS:=match vw e with
 | .call f args a p'=>(match vw f with
  | .tB o m p=>(match m==("append" :bD) with
   |true=>Tp R n s L o p p' args a
   |false=> .exp (cE R n s L 0 e))
  | .name _=> .exp (cE R n s L 0 e)
  |_=> .bad)
 |_=> .bad
noncomputable def ahu (t it:ay) (body:List MS) (a:List oq):MS:=match a with
 |[]=>Jg (Al t (rC (cI R n s L it))&&mT it) (.kZ (cT R n s L t) (cI R n s L it) body)
 |_::_=> .bad
noncomputable def agN:Option ay->MS
 |some e=> .ret (cE R n s L R.aib e)
 |none=> .bad
noncomputable def ae7 (f:oq->MS) (st:oq):MS:=match st with
 | .Assign ts e _=>ahN R O n s L ts e
 | .AugAssign t op e _=>acp R n s L t op (cE R n s L 0 e)
 | .Expr e _=>abH R n s L e
 | .If t a b _=> .iff (cE R n s L 0 t) (a.map f) (b.map f)
 | .For t it body c _=>ahu R n s L t it (body.map f) c
 | .Return e _=>agN R n s L e
 | .Break _=> .brk
 | .Continue _=> .cont
 |_=> .bad
noncomputable def cS (n:Nat) (s:gq) (L:Nat):oq->MS:=n.rec (λ_=> .bad) λn f st=>match R.xS st with
 |true=> .ext st
 |false=>ae7 R O n s L f st
variable {R O n s L} {st:oq}
theorem ach (h:R.xS st=true):cS R O (n+1) s L st= .ext st:=by
 show(match R.xS st with|true=>MS.ext st|false=>ae7 R O n s L (cS R O n s L) st)=_
 rw[h]
theorem aci (h:R.xS st=false):cS R O (n+1) s L st=ae7 R O n s L (cS R O n s L) st:=by
 show(match R.xS st with|true=>MS.ext st|false=>ae7 R O n s L (cS R O n s L) st)=_
 rw[h]
end
noncomputable def dU (H:jH):List (bD×Nat):=((H.names.filter λx=>x.2== .local||x.2== .cell||x.2== .free).zipIdx).map λp=>(p.1.1,p.2)
noncomputable def jC (R:Rd) (O:List (bD×Nat)) (d:iR):List MS:=d.body.map (cS R O 60 (d.scope,dU d.scope) (dU d.scope).length)
set_option tactic.hygienic true
section
variable {C:Cfg} {X:Wr} {F:FZ} {O:List bz} {J:aZ} {A:bU} {s:aN} {Q:CV->Prop} {prog:jT} {w:oK}
noncomputable abbrev At (J:aZ) (Q:CV->Prop):CV->aZ->Prop:=λc aO=>Q c/\aO=J
noncomputable def Sf:CV->Bool
 | .int _=>true
 | .bW _=>true
 |_=>false
theorem Dx (h:An op a b Q):Sf a=true/\Sf b=true:=by
 cases Am h<;>exact⟨rfl,rfl⟩
theorem TY (a:Vw F O h c v) (b:Sf c=true):Rep F O c v:=by
 induction c using CV.casesOn with
 |int x=>exact a
 |bW x=>exact a
 |_=>exact(dR b).elim
theorem Qd (c:Nw C F O J s) (d:Vw F O s.heap a e) (f:Vw F O s.heap b g) (h:acn op a b Q):
  aD (aI prog w) A (binaryOp op e g) (cM C X F O s (At J Q)) a_ s:=by
 have num:An op a b Q->aD (aI prog w) A (binaryOp op e g) (cM C X F O s (At J Q)) a_ s:=λh=>
  HZ c (TY d (Dx h).1) (TY f (Dx h).2) h
 induction a using CV.casesOn with
 |str x=>induction op using gO with
  |Add=>induction b using CV.casesOn with
   |str y=>
    exact bA (gG f) λj=>bA (gG d) λt=>et (Qy (λk l i=> .toks c (ez.mpr ⟨_,rfl⟩) ⟨h.2,rfl⟩ i) h.1)
   |_=>exact ar h
  |_=>exact ar h
 |_=>exact num h
theorem So (c:Nw C F O J s) (b:Vw F O s.heap (.int x) d) (e:Vw F O s.heap (.int y) f) (h:Q (.int (x+y))):
  aD (aI prog w) A (inplaceOp .Add d f) (cM C X F O s (At J Q)) a_ s:=by
 refine eY (gv b) λt a=>?_;clear b;subst a
 exact bA (gv e) λg=>P.iadd_int (.toks c (cw.mpr ⟨_,rfl⟩) ⟨h,rfl⟩)
theorem wR (c:Nw C F O J s) (d:Vw F O s.heap a f) (e:Vw F O s.heap b g) (h:wU op a b Q):
  aD (aI prog w) A (inplaceOp op f g) (cM C X F O s (At J Q)) a_ s:=by
 induction op using gO with
 |Add=>induction a using CV.casesOn with
  |str x=>induction b using CV.casesOn with
   |str y=>
    exact bA (gG d) λt=>bA (gG e) λi=>et (MX (λk l j=> .toks c (ez.mpr ⟨_,rfl⟩) ⟨h.2,rfl⟩ j) h.1)
   |_=>exact ar h
  |int x=>induction b using CV.casesOn with
   |int y=>exact So c d e h
   |_=>exact ar h
  |_=>exact ar h
 |Sub=>induction a using CV.casesOn with
  |int x=>induction b using CV.casesOn with
   |int y=>
    exact bA (gv d) λt=>bA (gv e) λi=>P.isub_int (.toks c (cw.mpr ⟨_,rfl⟩) ⟨h,rfl⟩)
   |_=>exact ar h
  |_=>exact ar h
 |_=>exact ar h
def aka (s:aN) (Q:Bool->Prop):Bool->aN->Prop:=λb u=>Q b/\∃a,s.toks<=a/\u={s with toks:=a}
theorem uU (h:n<=fj):n<=16777216:=mC▸h
theorem tu {Q} (r:Vw F O s.heap c v) (h:nU c Q):
  aD (aI prog w) A (truthy v) (aka s Q) a_ s:=by
 induction c using CV.casesOn with
 |none=>exact af (EQ r) (II ⟨h,s.toks,ai _,rfl⟩)
 |bool b=>exact af (tN r) (pa ⟨h,s.toks,ai _,rfl⟩)
 |int i=>exact bA (gv r) λt=>P.truthy_int ⟨h,s.toks,ai _,rfl⟩
 |str x=>
  refine bA (gG r) λt=>?_
  have d:=uU h.1
  refine P.truthy_str (TO.mpr (kV (rt.mpr d) (by decide))) ⟨?_,_,dg (aQ _),rfl⟩
  exact af (by cases x.length<;>rfl:((x.length:Int) !=0)=(x.length !=0)) h.2
 |lst l=>
  refine cz r λa vs e g f=>?_;clear r;subst e
  have d:=uU h.1
  refine wpAny_truthy_list g.isList (kV (rt.mpr (zT (zE f.size) d)) (by decide)) ⟨?_,_,dg (aQ _),rfl⟩
  have:(!vs.isEmpty)=(l.length !=0):=by
   rw[fR,bne_iff_ne,gT,<-Bool.not_eq_true,Array.isEmpty_iff_size_eq_zero,f.size]
  exact af this h.2
 |_=>exact ar h
theorem Oo (b:Nw C F O J s) (r:Rep F O a v) (h:afH a Q):aD (aI prog w) A (unaryOp .USub v) (cM C X F O s (At J Q)) a_ s:=by
 induction a using CV.casesOn with
 |int x=>
  exact bA (cw.mp r) λt=>P.neg_int (.toks b (cw.mpr ⟨_,rfl⟩) ⟨h,rfl⟩)
 |_=>exact ar h
theorem ew.value {l:List (bD×CV)}:∀{es},ew F O l es->∀{k} {c},l.lookup k=some c->∃v,valueAt es k=some v/\Rep F O c v:=by
 induction l with
 |nil=>exact λ{es} h {k c} e=>aW e
 |cons p l g=>
  obtain⟨k,c⟩:=p
  refine λ{es} h {k' i} e=>cz h λv r f j m=>?_;clear h;subst f
  have e:(match k'==k with|true=>some c|false=>l.lookup k')=some i:=e
  induction d:k'==k using cB with
  |true=>rw[d] at e;exact eh (ab e) (aP v (by rw[eq_of_beq d];simp[valueAt]) j)
  |false=>
   rw[d] at e
   refine aG (g m e) λn a b=>aP n ?_ b
   exact BJ (congrArg (HK Prod.snd) (List.find?_cons_of_neg (p:=λkv:bD×bq=>decide (kv.1=k')) (a:=(k,v)) λq=>dR (d.symm.trans (beq_iff_eq.mpr (of_decide_eq_true q).symm)))) a
theorem Bb {get:Nat->Option α} {Q} (h:atC i n get Q):∃k,i= .int k/\(-(2^62)<k/\k<2^62)/\∃j c,jt k n=some j/\get j=some c/\Q c:=by
 induction i using CV.casesOn with
 |int k=>exact aP k rfl h
 |_=>exact ar h
theorem seqIndex_neg (h:jt k n=some j) (a:k<0): -(n:Int)<=k/\j=(k+n).toNat:=by
 simp only[jt,a,if_true] at h
 split at h<;>cases h
 rename_i b
 exact⟨by lia,rfl⟩
theorem yl (h:jt k n=some j) (a:¬k<0):j=k.toNat:=by
 simp only[jt,a,if_false] at h
 split at h<;>cases h
 rfl
theorem bM.at_ {vs:Array bq} {j:Nat} (r:bM F O l vs.toList) (h:l[j]?=some c):∃v,vs[j]?=some v/\Rep F O c v:=aG (r.get h) λv e q=>(aP v (hV▸e) q)
theorem DB (b:Nw C F O J s) (y:Vw F O s.heap o I) (B:Rep F O i L) (h:Gj o i Q):
  aD (aI C.prog C.w) A (Vt I L) (cM C X F O s (At J Q)) a_ s:=by
 induction o using CV.casesOn with
 |lst l=>
  obtain⟨k,rfl,g,j,c,m,z,n⟩:=Bb h
  obtain⟨G,rfl⟩:=cw.mp B
  refine cz y λa vs q D r=>?_;subst q
  refine aG (r.at_ z) λv e u=>?_
  by_cases E:k<0
  ·obtain⟨M,rfl⟩:=seqIndex_neg m E
   exact wpAny_getItem_list_neg D.isList E (r.size▸M) (gS (by decide) (iY g.1)) (r.size▸e) (.same b u ⟨n,rfl⟩)
  ·obtain rfl:=yl m E
   exact wpAny_getItem_list D.isList (HR.mp E) (pn g.2 (by decide)) e (.same b u ⟨n,rfl⟩)
 |tup l=>
  obtain⟨k,rfl,g,j,c,m,z,n⟩:=Bb h
  obtain⟨G,rfl⟩:=cw.mp B
  refine cz (TV.of b.fz y) λa vs q D r=>?_;subst q
  exact aG (r.at_ z) λv e u=>HJ D (gS (by decide) (iY g.1)) (pn g.2 (by decide)) (r.size▸m) e (.same b u ⟨n,rfl⟩)
 |str x=>
  obtain⟨k,rfl,g,j,c,m,z,n⟩:=Bb h
  obtain⟨G,rfl⟩:=cw.mp B
  refine bA (gG y) λt=>IP ?_ (m▸z) (.toks b (ez.mpr ⟨_,rfl⟩) ⟨n,rfl⟩)
  exact iB.mpr ⟨decide_eq_false (HR.mpr (gS (by decide) (iY g.1))),decide_eq_false (TO.mpr (pn g.2 (by decide)))⟩
 |gx l=>induction i using CV.casesOn with
  |str k=>
   refine bA (ez.mp B) λG=>jB y λa o N H f d r=>?_;clear y;subst H
   refine aG h λc m n=>aG (r.value m) λv P u=>?_
   rw[b.top.pr,b.top.w] at d
   exact wpAny_getItem_of (by simp[nN,IC]) (iO.mpr (aP o f d.2)).mapOf P (.toks b u ⟨n,rfl⟩)
  |_=>exact ar h
 |_=>exact ar h
end
set_option tactic.hygienic false
noncomputable def FZ.add (F:FZ) (a:bz) (o:Obj):FZ:={F with f:=λb=>if b=a then some o else F.f b}
section
variable {C:Cfg} {X:Wr} {F:FZ} {O:List bz} {J:aZ} {A:bU} {s:aN}
theorem Fz.j_ (a:Fz F h):F.f h.objs.size=none:=by
 induction e:F.f h.objs.size using cO with
 |none=>rfl
 |some o=>exact absurd (aU (a _ _ e)) (bG _)
theorem FZ.pZ (h:F.f a=none):jp F (F.add a o):=⟨⟨rfl,rfl⟩,λb c e=>by
 exact(if_neg λq=>by subst q;exact aW (h.symm.trans e)).trans e⟩
theorem FZ.jd:(F.add a o).f a=some o:=if_pos rfl
theorem FZ.afi (h:b≠a):(F.add a o).f b=F.f b:=if_neg h
theorem FZ.Kf (e:(F.add a o).f b=some x):(b=a/\o=x)\/F.f b=some x:=
 (MU (b=a)).imp (λh=>⟨h,ab ((if_pos h).symm.trans e)⟩) λh=>(if_neg h).symm.trans e
theorem Base.push (a:Base C s) o {b} (c:s.toks<=b:=by first|exact ai _|exact aQ _|assumption|decide):Base C {s with heap:=s.heap.push o,toks:=b}:=
 ⟨a.bare,λP d=>eY (a.tab P d) λvs e=>⟨vs,bu _ e⟩,av a.tok c⟩
theorem qJ.push (x:qJ C J F O s.heap) o:qJ C J F O (s.heap.push o):=
 ⟨x.len,x.nodup,λa h=>⟨(x.fr a h).1,(x.fr a h).2.1,by rw[dv];exact dO (x.fr a h).2.2⟩,λi a m b c=>(x.at_ i a m b c).keeps λa=>bu _⟩
theorem Go.qC (b:Nw C F O J s) o {c} (d:s.toks<=c:=by first|exact ai _|exact aQ _|assumption|decide):Go C X F O s F O J {s with heap:=s.heap.push o,toks:=c}:=
 ⟨⟨.refl F,λa o e=>bu _ (b.fz a o e),λa a a a=>bu _,λa a=> .inl,by rw[dv];exact aQ _,rfl,λa a a e=>e,b.base.push o d⟩,
  .refl _,λa=> .inl,b.dj.push o⟩
theorem Go.Pe {a:bz} (g:Go C X F O s F' aH aO u) (j:s.heap.objs.size<=a) (k:F'.f a=none) (l:a∉aH) (p:u.heap.get? a=some o):Go C X F O s (F'.add a o) aH aO u:=by
 have c:jp F' (F'.add a o):=FZ.pZ k
 refine⟨⟨g.ext.le.trans c,λb d e=>?_,g.ext.keep,λb d e=>?_,g.ext.size,g.ext.os,g.ext.gens,g.ext.base⟩,g.jo,g.new,⟨g.dj.len,g.dj.nodup,λb h=>⟨?_,(g.dj.fr b h).2⟩,λi b m e1 e2=>(g.dj.at_ i b m e1 e2).mono c (.refl _)⟩⟩
 ·exact(FZ.Kf e).elim (λz=>af z.1 (eh z.2 p)) (g.ext.fz b d)
 ·exact(FZ.Kf e).elim (λz=> .inr (af z.1 j)) (g.ext.new b d)
 ·exact(FZ.afi λz:b=a=>l (z▸h)).trans (g.dj.fr b h).1
theorem Go.Vd {a:bz} (c:Nw C F O d s) (g:Go C X F O s F O J u) (b:s.heap.objs.size<=a) (p:u.heap.get? a=some o):Go C X F O s (F.add a o) O J u:=
 g.Pe b (agW (F.f a) (λh e=>absurd (aU (c.fz _ _ e)) (bL.mpr b)) id) (λz=>absurd (c.dj.fr _ z).2.2 (bL.mpr b)) p
theorem Go.Rz (a:Nw C F O J s) o {b} (c:(s.heap.push o).get? s.heap.objs.size=some o) (d:s.toks<=b:=by first|exact ai _|exact aQ _|assumption|decide):Go C X F O s (F.add s.heap.objs.size o) O J {s with heap:=s.heap.push o,toks:=b}:=Go.Vd a (Go.qC a o d) (ai _) c
inductive my C F O s (Q:List CV->aZ->Prop) (v:bq) u:Prop where
 |mk F' aH aO a vs l:Go C .no F O s F' aH aO u->v= .ref a->s.heap.objs.size<=a->F'.f a=none->a∉aH->a∉C.tabs->tb u.heap a vs->bM F' aH l vs.toList->Q l aO->my C F O s Q v u
theorem my.freeze {Q:EPost} (h:my C F O s (λl=>Q (.lst l)) v u):cM C .no F O s Q v u:=by
 obtain⟨F',aH,aO,a,vs,l,g,rfl,d,b,e,i,⟨c,p,f⟩,r,q⟩:=h
 exact⟨F'.add a c,aH,aO,.lst l,g.Pe d b e p,jq a c vs rfl FZ.jd f (r.mono (FZ.pZ b) (.refl _)),q⟩
theorem yO (h:(O++[a])[i]?=some b):O[i]?=some b\/(i=O.length/\b=a):=by
 rw[List.getElem?_append] at h
 split at h
 ·exact .inl h
 ·rename_i d
  right
  have:i-O.length=0:=by
   by_cases c:i-O.length=0
   ·exact c
   ·exact aW ((eN (by simp;lia)).symm.trans h)
  rw[this] at h
  simp at h
  exact⟨by grind-abstractProof only,h.symm⟩
theorem Go.own {a:bz} (g:Go C .no F O s F' aH aO u) (n:s.heap.objs.size<=a) (o:F'.f a=none) (l:a∉aH) (q:a∉C.tabs) (r:a<u.heap.objs.size)
  (t:s' F' (aH++[a]) u.heap a mo):Go C .no F O s F' (aH++[a]) (aO++[mo]) u:=by
 have d:ny aH (aH++[a]):= .append _ _
 refine⟨g.ext,λi b e=>d i b (g.jo i b e),λb hb=>?_,⟨?_,λi j b e1 e2=>?_,λb hb=>?_,λi b m e1 e2=>?_⟩⟩
 ·rcases bt.mp hb with hb|hb
  ·exact g.new b hb
  ·simp at hb;exact af hb (.inr n)
 ·simp[g.dj.len]
 ·rcases yO e1 with c|⟨c,k⟩<;>rcases yO e2 with h|⟨h,v⟩
  ·exact g.dj.nodup i j b c h
  ·subst v;exact absurd (bh c) l
  ·subst k;exact absurd (bh h) l
  ·rw[c,h]
 ·rcases bt.mp hb with hb|hb
  ·exact g.dj.fr b hb
  ·simp at hb;exact af hb (fg o q r)
 ·rcases yO e1 with c|⟨c,k⟩
  ·exact(g.dj.at_ i b m c ((cj (g.dj.len▸(aj.mp c).1)).symm.trans e2)).mono (.refl _) d
  ·refine af k ?_
   rw[c,g.dj.len,be (ai _)] at e2
   simp at e2;subst e2
   exact t
theorem my.own {Q:EPost} (h:my C F O s (λl J=>Q (.own J.length) (J++[.list l])) v u):cM C .no F O s Q v u:=by
 obtain⟨F',aH,aO,a,vs,l,g,rfl,b,c,d,e,p,r,q⟩:=h
 exact⟨F',aH++[a],aO++[.list l],.own aO.length,g.own b c d e (let ⟨_,p,_⟩:=p;aU p) (aP vs p (r.mono (.refl _) (.append _ _))),aP a (by refine eh g.dj.len ?_;simp) rfl,q⟩
theorem my.trans (g:Go C .no F O s F' aH aO u) (h:my C F' aH u Q v d):my C F O s Q v d:=by
 obtain⟨f,b,c,a,vs,l,x,e,i,j,k,m,n,o,q⟩:=h
 exact⟨f,b,c,a,vs,l,g.trans x,e,ag g.ext.size i,j,k,m,n,o,q⟩
theorem my.made (a:Nw C F O J s) {vs} {l} (r:bM F O l vs) (q:Q l J) {b} {n} (c:s.toks<=b:=by first|exact ai _|exact aQ _|assumption|decide):
  my C F O s Q (.ref s.heap.objs.size) {s with heap:=s.heap.push (OK vs.toArray n),toks:=b}:=
 ⟨F,O,J,_,_,l,.qC a _ c,rfl,ai _,a.fz.j_,λh=>bG _ (a.dj.fr _ h).2.2,λh=>bG _ (a.base.lt _ h),⟨_,aT _ rfl,n,rfl⟩,by simpa using r,q⟩
theorem cM.tuple {Q:EPost} (a:Nw C F O J s) {vs} {l} (r:bM F O l vs) (q:Q (.tup l) J) {b} {n} (c:s.toks<=b:=by first|exact ai _|exact aQ _|assumption|decide):
  cM C X F O s Q (.ref s.heap.objs.size) {s with heap:=s.heap.push (VN vs.toArray n),toks:=b}:=
 ⟨_,O,J,.tup l,.Rz a _ (aT _ rfl) c,(jq _ _ vs.toArray rfl FZ.jd ⟨n,rfl⟩ (by simpa using r.mono (FZ.pZ a.fz.j_) (.refl _))),q⟩
theorem cM.list {Q:EPost} (b:Nw C F O J s) {vs} {l} (r:bM F O l vs) (q:Q (.lst l) J) {a} {n} (c:s.toks<=a:=by first|exact ai _|exact aQ _|assumption|decide):
  cM C .no F O s Q (.ref s.heap.objs.size) {s with heap:=s.heap.push (OK vs.toArray n),toks:=a}:=
 my.freeze (.made b r q c)
end
theorem ahq a n:kms_hi a n<=n:=by
 induction a using cO with
 |none=>exact ai _
 |some y=>
  show(if y<0 then n-(-y).toNat else min y.toNat n)<=n
  split
  ·exact eL ..
  ·exact fx ..
theorem HV items lo a:slicePick items lo a none=(ie items.toList lo a).toArray:=kms_pick_eq items lo a
theorem Ff x l a:wW x l a none=(bc (kms_hi (a.map (·.1)) x.length-kms_lo (l.map (·.1)) x.length)).map (kms_lo (l.map (·.1)) x.length+ ·):=by
 have e:wW x l a none=sliceRange (DT (l.map (·.1)) (a.map (·.1)) none x.length).1 (DT (l.map (·.1)) (a.map (·.1)) none x.length).2.1 (DT (l.map (·.1)) (a.map (·.1)) none x.length).2.2:=rfl
 rw[e,kms_bounds]
 exact sliceRange_one _ _
theorem DZ x l a:(wW x l a none).filterMap (x.cps[·]?)=ie x.cps.toList (l.map (·.1)) (a.map (·.1)):=by
 rw[Ff,pick_run]
 rfl
theorem HU (b:(wW x l a none).length=x.length):iW x (l.map (·.1)) (a.map (·.1))=x:=by
 rw[Ff,aC,jL] at b
 have c:=ahq (a.map (·.1)) x.length
 have e:iW x (l.map (·.1)) (a.map (·.1))=⟨((x.cps.toList.drop (kms_lo (l.map (·.1)) x.length)).take (kms_hi (a.map (·.1)) x.length-kms_lo (l.map (·.1)) x.length)).toArray⟩:=rfl
 refine af e (af b ?_)
 have h2:kms_lo (l.map (·.1)) x.length=0\/x.length=0:=by lia
 rcases h2 with h2|h2
 ·rw[h2,HO,gQ (show x.cps.toList.length<=x.length from dW jW)]
 ·exact af h2 (congrArg Str.mk (ku h2).symm)
theorem Ds (xs:List α) l a:(ie xs l a).length<=xs.length:=
 ag (List.length_take_le' ..) (uu▸eL ..)
theorem bM.slice (r:bM F O l vs) lo a:bM F O (ie l lo a) (ie vs lo a):=by
 unfold ie
 exact af r.length ((r.drop _).take _)
def sZ (F:FZ) (O:List bz):Option CV->bq->Prop
 |none,v=>v= .none
 |some c,v=>Rep F O c v
theorem sZ.part (r:sZ F O l v) (h:Ak l=some a):∃p:Option (Int×Tok),v=partValue p/\p.map (·.1)=a/\IsPart v a:=by
 induction l using cO with
 |none=>exact eh (ab h) ((eJ none r rfl (r▸.none)))
 |some c=>induction c using CV.casesOn with
  |int x=>
   exact eh (ab h) (bA (cw (F:=F) (O:=O).mp r) λt=>(eJ (some (_,t)) rfl rfl (.int _ _)))
  |_=>exact aW h
theorem rH:subscripted (.Slice l a none p) false o i=operate [i,o] (Vt o i):=rfl
theorem kG (h:mS slice=true):subscripted slice false o i=operate [o,i] (Vt o i):=by
 induction slice using aY<;>first|rfl|exact bV h
section
variable {C:Cfg} {F:FZ} {O:List bz} {J:aZ} {A:bU} {s:aN}
theorem NL (k:Nw C F O J s) (m:Vw F O s.heap o G) (H:sZ F O l n) (I:sZ F O L q)
  (h:Ui o l L Q):aD (aI C.prog C.w) A (subscriptTail f (.Slice g i none p) G (.ref s.heap.objs.size)) (cM C .no F O s (At J Q)) a_ {s with heap:=s.heap.push {cls:= .type "slice",data:= .fields #[n,q,.none]}}:=by
 refine oV ?_;intro M u;refine cz h λv y N P h=>?_
 ·refine nt ?_;intro u;refine oH (H.part N) λR S z T=>oH (I.part P) λW X B Y=>?_
  have d:Go C .no F O s F O J {s with heap:=s.heap.push {cls:= .type "slice",data:= .fields #[n,q,.none]}}:= .qC k _
  have b:=k.go d
  induction o using CV.casesOn with
  |lst xs=>
   refine cz m λa vs j D r=>af j (xi (D.isList.push _).typeIs ya (wpAny_getItem_list_slice (D.isList.push _) (TC ..) T Y .none (by simp) ?_ (af r.size h.1)) rH)
   ·rw[HV]
    exact .trans d (.list b (r.slice v y) ⟨h.2,rfl⟩)
  |str x=>
   refine bA (gG m) λt=>oV ?_;intro M u;refine xi (kR _ x t) tH.lookup (wpAny_getItem_str_slice (st:=none) (eJ _ (aT _ rfl) rfl (by refine af S (af X ?_);rfl)) rfl ?_) rH
   have e:=DZ x R W
   rw[z,B] at e
   unfold sliceMade
   split
   ·rename_i Z
    have E:=HU (eq_of_beq (aq.mp Z).2)
    rw[z,B] at E
    exact .trans d (.same b (c:= .str (iW x v y)) (ez.mpr ⟨t,af E rfl⟩) ⟨h.2,rfl⟩)
   ·exact af e (⟨ag (Ds ..) h.1,cM.trans d (.toks b (ez.mpr ⟨s.toks,rfl⟩) ⟨h.2,rfl⟩)⟩)
  |_=>exact ar h
end
structure Ho (C:Cfg) (cl:List (bD×bz)) (F:FZ) (O:List bz) (h:kT):Prop where
 cell:∀x a,(x,a)∈cl->(∃v,h.IsCell a v)/\a∉C.tabs/\a∉O
 inj:∀x y a,cl.lookup x=some a->cl.lookup y=some a->x=y
theorem wN:∀c n b x a,(x,a)∈kh n c b->(x,a)∈b\/n<=a:=by
 intro r
 induction r with
 |nil=>
  exact λd d d d=> .inl
 |cons f r g=>
  obtain⟨name,i⟩:=f
  intro n b x a h
  unfold kh at h
  split at h
  ·rcases g (n+1) _ x a h with q|q
   ·rcases aE.mp q with e|q
    ·cases e;exact .inr (ai _)
    ·exact .inl q
   ·exact .inr (zT zP q)
  ·exact g n b x a h
theorem GR:∀b n c x,((∃a,c.lookup x=some a)\/(x,jb)∈b)->∃a,(kh n b c).lookup x=some a:=by
 intro r
 induction r with
 |nil=>
  intro _ _ _ h
  rcases h with h|h
  ·exact h
  ·cases h
 |cons d r f=>
  obtain⟨name,g⟩:=d
  intro n c x h
  unfold kh
  split
  ·rename_i i
   refine f (n+1) _ x ?_
   rcases h with ⟨a,h⟩|h
   ·left
    refine af cg ?_
    induction j:x==name using cB with
    |true=>exact⟨_,rfl⟩
    |false=>exact⟨a,h⟩
   ·rcases aE.mp h with e|h
    ·injection e with e;refine af e ?_;left;exact⟨n,by simp⟩
    ·exact .inr h
  ·rename_i i
   refine f n c x ?_
   rcases h with h|h
   ·exact .inl h
   ·rcases aE.mp h with e|h
    ·cases e;exact absurd rfl i
    ·exact .inr h
theorem Ec:∀a n b x,(x,jb)∉a->(kh n a b).lookup x=b.lookup x:=by
 intro r
 induction r with
 |nil=>
  exact λc c c c=>rfl
 |cons d r e=>
  obtain⟨name,f⟩:=d
  intro n b x h
  rw[aE,not_or] at h
  unfold kh
  split
  ·rename_i g
   refine af (e (n+1) _ x h.2) (af cg ?_)
   have:(x==name)=false:=by
    rw[beq_eq_false_iff_ne]
    rintro rfl
    exact h.1 (by rw[beq_iff_eq] at g;rw[g])
   rw[this]
  ·exact e n b x h.2
theorem GQ:∀c (n:Nat) (b:List (bD×bz)),(∀x y a,b.lookup x=some a->b.lookup y=some a->x=y)->(∀x a,(x,a)∈b->a<n)->
  ∀x y a,(kh n c b).lookup x=some a->(kh n c b).lookup y=some a->x=y:=by
 intro r
 induction r with
 |nil=>
  exact λl l h l=>h
 |cons j r m=>
  obtain⟨name,o⟩:=j
  intro n b h i
  unfold kh
  split
  ·refine m (n+1) _ (λx y a d f=>?_) λx a q=>?_
   ·rw[cg] at d f
    induction k:x==name using cB with
    |true=>
     rw[k] at d;have d:=ab d;subst d
     refine Hb (y==name) (λg=>?_) λg=>absurd (i _ _ (mem_of_lookup (g▸f))) (bG _)
     ·rw[beq_iff_eq.mp k,beq_iff_eq.mp g]
    |false=>
     rw[k] at d
     refine Hb (y==name) (λg=>?_) λg=>?_
     ·rw[g] at f;have f:=ab f;subst f;exact absurd (i _ _ (mem_of_lookup d)) (bG _)
     ·rw[g] at f;exact h x y a d f
   ·rcases aE.mp q with e|q
    ·cases e;exact cH _
    ·exact dO (i x a q)
  ·exact m n b h i
theorem CD:∀d h f,(∀x a,(x,a)∈f->∃v,h.IsCell a v)->∀x a,(x,a)∈kh h.objs.size d f->∃v,(rD h d).IsCell a v:=by
 intro r
 induction r with
 |nil=>
  exact λm m h x=>h x
 |cons g r j=>
  obtain⟨name,k⟩:=g
  intro h f l x a q
  unfold kh at q
  unfold rD
  split at q
  ·rename_i i
   refine af (if_pos i) (j (h.push {cls:= .type "cell",data:= .cell none}) _ (λy b z=>?_) x a (by rw[dv];exact q))
   rcases aE.mp z with e|z
   ·cases e;exact(fX none _ (aT _ rfl) rfl)
   ·exact eY (l y b z) λv c=>⟨v,c.keeps λa a=>bu _⟩
  ·rename_i i
   exact af (if_neg i) (j h f l x a q)
theorem D_:∀b h,h.objs.size<=(rD h b).objs.size:=by
 intro r
 induction r with
 |nil=>
  exact λf=>ai _
 |cons c r d=>
  obtain⟨a,e⟩:=c
  intro h
  unfold rD
  split
  ·exact ag (by rw[dv];exact aQ _) (d _)
  ·exact d h
section
variable {C:Cfg} {F:FZ} {O:List bz} {J:aZ} {A:bU} {s:aN} {M:Model} {E:bq->aN->Prop}
theorem Go.lC (b:Nw C F O J s) {d} {f} (c:∀a o,s.heap.get? a=some o->d.get? a=some o) (g:s.heap.objs.size<=d.objs.size) (j:s.toks<=f:=by first|exact ai _|exact aQ _|assumption|decide):Go C X F O s F O J {s with heap:=d,toks:=f}:=
 ⟨⟨.refl F,λa o e=>c _ _ (b.fz a o e),λa a a a=>c _ _,λa a=> .inl,g,rfl,λa a a e=>e,⟨b.base.bare,λP k=>eY (b.base.tab P k) λvs e=>⟨vs,c _ _ e⟩,av b.base.tok j⟩⟩,
  .refl _,λa=> .inl,⟨b.dj.len,b.dj.nodup,λa h=>⟨(b.dj.fr a h).1,(b.dj.fr a h).2.1,av (b.dj.fr a h).2.2 g⟩,λi a m l n=>(b.dj.at_ i a m l n).keeps λa=>c _ _⟩⟩
noncomputable def g_ (b:Option pB) (scope:jH) (c globals:bz) (cells:List (bD×bz)) (qual:bD) (d:Option bz) (code:bq) (e:bz):Env:=match b with
 |some a=>{scope:=scope,locals:=c,globals:=globals,cells:=cells,qual:=qual,func:=d,code:=a.code,frame:=a.frame,builtins:=a.builtins}
 |none=>{scope:=scope,locals:=c,globals:=globals,cells:=cells,qual:=qual,func:=d,code:=code,frame:=some c,builtins:=e}
structure Kh C (scope:jH) (cl:List (bD×bz)) F O J s (G6:bz) cells u:Prop where
 go:Go C .no F O s F O J u
 lo:s.heap.objs.size<=G6
 ns:u.heap.Ns G6 (λ_=>none)
 nF:F.f G6=none
 nT:G6∉C.tabs/\G6∉O
 cls:Ho C cells F O u.heap
 same:∀x,(x,jb)∉scope.names->cells.lookup x=cl.lookup x
 has:∀x,((∃a,cl.lookup x=some a)\/(x,jb)∈scope.names)->∃a,cells.lookup x=some a
 mem:∀x a,(x,a)∈cells->(x,a)∈cl\/s.heap.objs.size<=a
theorem af2 (i:Nw C F O J s) (g:Ho C j F O s.heap) T:
  Kh C scope j F O J s s.heap.objs.size (kh (s.heap.objs.size+1) scope.names j) {s with heap:=rD (s.heap.push {cls:=T,data:= .dict #[]}) scope.names}:=by
 have m:(s.heap.push {cls:=T,data:= .dict #[]}).Ns s.heap.objs.size λa=>none:=Heap.Ns.new s.heap T
 have h:∀a o,s.heap.get? a=some o->(rD (s.heap.push {cls:=T,data:= .dict #[]}) scope.names).get? a=some o:=λa o e=>Ei _ _ a o (bu _ e)
 have e1:(s.heap.push {cls:=T,data:= .dict #[]}).objs.size=s.heap.objs.size+1:=dv ..
 have hsz:s.heap.objs.size<=(rD (s.heap.push {cls:=T,data:= .dict #[]}) scope.names).objs.size:=ag (e1▸aQ _) (D_ scope.names _)
 have k:∀x a,(x,a)∈j->a<s.heap.objs.size:=λx a q=>by
  obtain⟨⟨v,c⟩,a⟩:=g.cell x a q
  exact c.lt
 have d:∀a,s.heap.objs.size<=a->F.f a=none/\a∉C.tabs/\a∉O:=λa l=>by
  refine⟨?_,λq=>bL.mpr l (i.base.lt _ q),λq=>bL.mpr l (i.dj.fr _ q).2.2⟩
  induction e:F.f a using cO with
  |none=>rfl
  |some o=>exact absurd (aU (i.fz _ _ e)) (bL.mpr l)
 refine⟨.lC i h hsz,ai _,m.keeps (Ei _ _),(d _ (ai _)).1,(d _ (ai _)).2,⟨λx a q=>?_,(GQ _ _ _ g.inj λx a q=>dO (k x a q))⟩,(Ec _ _ _),(GR _ _ _),λx a q=>(wN _ _ _ x a q).imp id (ag (aQ _))⟩
 ·refine⟨CD scope.names _ j (λy b z=>?_) x a (e1▸q),?_⟩
  ·obtain⟨⟨v,c⟩,a⟩:=g.cell y b z
   exact⟨v,c.keeps λa a=>bu _⟩
  ·rcases wN _ _ _ x a q with z|z
   ·exact(g.cell x a z).2
   ·exact(d a (ag (aQ _) z)).2
theorem pW {code} (m:Nw C F O J s) (i:Ho C n F O s.heap) {Q}
  (h:∀j b u,Kh C scope n F O J s j b u->
   aD M A (forIn g zC λ(x:bD×bq) (_:PUnit)=>(do storeName (g_ c scope j o b f q code r) x.1 x.2;pure (fv zC):Sem (ForInStep PUnit))) (λ_=>Q (g_ c scope j o b f q code r)) E u):
  aD M A (wY scope o n g f q code c r) Q E s:=by
 induction c using cO with
 |none=>
  simp only[wY,Option.isSome_none,zV,if_false]
  refine ae (DR (nt ?_));intro t;exact ae (Hv _ λname d b=>by induction k:d==jb using cB<;>rfl _ _ _ _ (af (show({s with heap:=s.heap.push {cls:= .type "frame",data:= .dict #[]}}:aN).heap.objs.size=s.heap.objs.size+1 from dv ..) (ae (ao (h _ _ _ (af2 m i (.type "frame"))) (λa a=>au) λa a e=>e))))
 |some l=>
  simp only[wY,Option.isSome_some,if_true]
  exact ae (DR (ae (Hv _ λname d b=>by induction k:d==jb using cB<;>rfl _ _ _ _ (af (show({s with heap:=s.heap.push {cls:= .type "dict",data:= .dict #[]}}:aN).heap.objs.size=s.heap.objs.size+1 from dv ..) (ae (ao (h _ _ _ (af2 m i (.type "dict"))) (λa a=>au) λa a e=>e))))))
theorem ux:∀b cs Z s Q,Nw C F O J s->o_ C U m Z F O s.heap->
  (∀p∈cs,(m.lookup p.1).isSome=true/\(U.kindOf p.1=some .local\/(U.kindOf p.1=some .cell/\H.names.lookup p.1=some .cell/\∃a,U.cells.lookup p.1=some a/\F.f a=none)))->ew F O cs b->
  (∀u,Go C (iF H U) F O s F O J u->o_ C U m (cs.foldl (λZ p=>upd Z ((m.lookup p.1).getD 0) p.2) Z) F O u.heap->Q u)->
  aD M A (forIn b zC λ(x:bD×bq) (_:PUnit)=>(do storeName U x.1 x.2;pure (fv zC):Sem (ForInStep PUnit))) (λ_=>Q) E s:=by
 intro b cs
 induction cs generalizing b with
 |nil=>
  intro Z s Q d j _ r h
  subst r
  exact au (h s d.refl j)
 |cons n cs y=>
  obtain⟨k,c⟩:=n
  refine λZ s Q d j w r h=>cz r λv rest o z B=>?_;clear r;subst o
  rw[ju]
  refine fK (w (k,c) az) λl q=>eY (fw.mp l) λi l=>ae (ae (kY j d.fz d.base l q z λu x e a=>au ?_))
  have g:Go C (iF H U) F O s F O J u:= .wi d.dj x j.own
  refine y rest _ u Q (d.go g) e (λp D=>w p (aB _ D)) B λt G I=>h t (g.trans G) ?_
  simpa [l] using I
end
def Apart (C:Cfg) (W:Wr) (F:FZ) (O:List bz) (s:aN):Prop:=∀a∈W.a,F.f a=none/\a∉C.tabs/\a∉O/\a<s.heap.objs.size
section
variable {C:Cfg} {F:FZ} {O:List bz} {J:aZ} {A:bU} {s:aN}
theorem Go.Lg (c:Nw C F O J s) {W} {u} (d:∀b o,b∉W.a->s.heap.get? b=some o->u.heap.get? b=some o) (k:sz s<=sz u) (f:u.os=s.os)
  (r:∀i g,i∉W.g->s.gens[i]?=some g->u.gens[i]?=some g) (t:rq u.gens) (v:s.toks<=u.toks) (j:Apart C W F O s):Go C W F O s F O J u:=
 ⟨⟨.refl F,λa o e=>d a o (λh=>aW (((j a h).1).symm.trans e)) (c.fz a o e),λa o b h=>d a o (λq=>h (dz _ q)),λa a=> .inl,k,f,r,
   ⟨t,λP l=>eY (c.base.tab P l) λvs e=>⟨vs,d P _ (λh=>(j P h).2.1 l) e⟩,av c.base.tok v⟩⟩,.refl _,λa=> .inl,
  ⟨c.dj.len,c.dj.nodup,λa h=>⟨(c.dj.fr a h).1,(c.dj.fr a h).2.1,av (c.dj.fr a h).2.2 k⟩,
   λi a m n w=>(c.dj.at_ i a m n w).keeps λo=>d a o (λh=>(j a h).2.2.1 (bh n))⟩⟩
theorem Go.sM (d:Nw C F O J s) {W} {c} {f} (g:∀b o,b∉W.a->s.heap.get? b=some o->c.get? b=some o) (h:sz s<=c.objs.size) (i:Apart C W F O s) (j:s.toks<=f:=by first|exact ai _|exact aQ _|assumption|decide):
 Go C W F O s F O J {s with heap:=c,toks:=f}:= .Lg d g h rfl (λa a a e=>e) d.base.bare j i
theorem Apart.go (h:Apart C W F O s) (g:Go C X F O s F' aH aO u):Apart C W F' aH u:=λa c=>UT (h a c) λd e f b=>iJ (g.fN d b) e (g.oN f b) (av b g.ext.size)
inductive Yv (C:Cfg) ℓ tt it W F O J s (K:FZ->List bz->aN->Prop):CV->bq->Prop
 |val:Rep F O c v->(∀es k pos A,aD (aI C.prog C.w) A (dS (.Tuple es k pos) it v) (λ_ u=>u=s) a_ s)->K F O s->Yv C ℓ tt it W F O J s K c v
 |tup l T vals:tt=true->s.heap.IsTuple T vals->bM F O l vals.toList->T∉W.a->T∉O->T∉C.tabs->
  (∀es k pos A,bQ ℓ A->aD (aI C.prog C.w) A (dS (.Tuple es k pos) it (.ref T)) (λ_ u=>Go C W F O s F O J u/\Apart C W F O u/\K F O u) a_ s)->Yv C ℓ tt it W F O J s K (.tup l) (.ref T)
def ahR (s:aN) (W b:Wr):Prop:=(∀a∈W.a,a∈b.a)/\(∀a∈b.a,a∈W.a\/s.heap.objs.size<=a)/\b.g=W.g
theorem ahR.refl s W:ahR s W W:=(fg (λa h=>h) (λa=> .inl) rfl)
inductive Nx C ℓ tt it W F O J s c (K:Wr->FZ->List bz->aN->Prop):Option bq->aN->Prop
 |mk v F' W':Go C W F O s F' O J u->ahR s W W'->Apart C W' F' O u->Yv C ℓ tt it W' F' O J u (K W') c v->Nx C ℓ tt it W F O J s c K (some v) u
def CO (C:Cfg) (ℓ:Nat) (A:bU) (it:bq) (W:Wr) (g:aZ->Prop) (Φ:FZ->List bz->aZ->aN->Option bq->aN->Prop) (F:FZ) (O:List bz) (s:aN):Prop:=
 ∀F' aH aO u,bQ ℓ A->Nw C F' aH aO u->Apart C W F' aH u->jp F F'->ny O aH->(∀a∈W.a,∀o,s.heap.get? a=some o->u.heap.get? a=some o)->
  (∀i∈W.g,∀x,s.gens[i]?=some x->u.gens[i]?=some x)->g aO->aD (aI C.prog C.w) A (pyNext it) (Φ F' aH aO u) a_ u
def f_ (C:Cfg) (ℓ:Nat) (A:bU) (tt:Bool) (it:bq) (W:Wr) (g:aZ->Prop) (l:List CV):FZ->List bz->aN->Prop:=
 l.rec (motive:=λ_=>Wr->FZ->List bz->aN->Prop) (λW=>CO C ℓ A it W g λF O J s r u=>r=none/\Go C W F O s F O J u) (λc _ K W=>CO C ℓ A it W g λF O J s=>Nx C ℓ tt it W F O J s c K) W
def Iter (C:Cfg) (ℓ:Nat) (A:bU) (tt:Bool) (it:bq) (W:Wr) (g:aZ->Prop) (cs:List CV) (F:FZ) (O:List bz) (s:aN):Prop:=
 f_ C ℓ A tt it W g cs F O s/\Apart C W F O s/\∀A u,(∀a∈W.a,∀o,s.heap.get? a=some o->u.heap.get? a=some o)->aD (aI C.prog C.w) A (kf it) (λv b=>v=it/\b=u) a_ u
theorem CO.mono (h:CO C ℓ A it W g Φ F O s) (l:jp F F') (m:ny O aH) (n:∀a∈W.a,∀o,s.heap.get? a=some o->u.heap.get? a=some o) (q:∀i∈W.g,∀x,s.gens[i]?=some x->u.gens[i]?=some x):CO C ℓ A it W g Φ F' aH u:=
 λd b c f r t v w y z B=>h d b c f r t v (l.trans w) (λi a e=>y i a (m i a e)) (λa j o e=>z a j o (n a j o e)) (λi k x e=>B i k x (q i k x e))
theorem f_.mono (h:f_ C ℓ A tt it W g cs F O s) (b:jp F F') (c:ny O aH) (d:∀a∈W.a,∀o,s.heap.get? a=some o->u.heap.get? a=some o)
  (e:∀i∈W.g,∀x,s.gens[i]?=some x->u.gens[i]?=some x):f_ C ℓ A tt it W g cs F' aH u:=by
 induction cs using cL<;>exact CO.mono h b c d e
theorem f_.go (h:f_ C ℓ A tt it W g cs F O s) (x:Go C X F O s F' aH aO u) (c:Apart C W F O s) (d:∀a∈W.a,a∉X.a) (e:∀i∈W.g,i∉X.g):f_ C ℓ A tt it W g cs F' aH u:=
 h.mono x.ext.le x.jo (λa b o=>x.ext.keep a o (c a b).2.1 (λq=>by
  rcases bt.mp q with z|z
  ·exact(c a b).2.2.1 z
  ·exact d a b z)) λi f y=>x.ext.gens i y (e i f)
end
structure bT C (H:gq) L (U:pB) Z F O h:Prop where
 kd:∀x,U.kindOf x=H.1.names.lookup x\/(H.1.names.lookup x=some .free/\U.kindOf x=some .cell)
 ok:o_ C U H.2 Z F O h
 top:∀i,L<=i->Z i=none
 lt:∀x i,H.2.lookup x=some i->i<L
 iK:∀x,tW (H.1.names.lookup x)= .Ii->(H.2.lookup x).isSome=true->∃a,U.cells.lookup x=some a
 cF:∀x a,(x,a)∈U.cells->H.1.names.lookup x=some .cell->F.f a=none
theorem bT.go (x:bT C H L U Z F O s.heap) (g:Go C X F O s F' aH aO u) (h:∀a∈X.a,a∉(dX U).a):bT C H L U Z F' aH u.heap:=
 ⟨x.kd,x.ok.go g h,x.top,x.lt,x.iK,λy a d i=>by
  obtain⟨⟨v,c⟩,b⟩:=x.ok.cell y a d
  induction e:F'.f a using cO with
  |none=>rfl
  |some o=>
   rcases g.ext.new a o e with q|q
   ·exact aW ((x.cF y a d i).symm.trans q)
   ·exact absurd c.lt (bL.mpr q)⟩
theorem bT.gb (x:bT C H L U Z F O s.heap) (g:Go C .no F O s F' aH aO u):bT C H L U Z F' aH u.heap:=x.go g λa h=>bw h
def zm (C:Cfg) (c:bz) (mN:bD->Option bq):Prop:=
 ∃N r,C.K c=some (xI c N r)/\∃o,C.K N=some o/\Io o mN
def xR (C:Cfg) (c:bz) (x:bD):Prop:=∃mN,zm C c mN/\mN "__getattribute__" =none/\mN "__setattr__" =none/\mN x=none/\gN (.type "object") x=pure none
def ta (C:Cfg) (c:bz) (x:bD) (f:bz):Prop:=∃mN o a y,zm C c mN/\mN "__getattribute__" =none/\mN "__getattr__" =none/\mN x=some (.ref f)/\C.K f=some o/\o.cls= .type "function" /\o.data= .func a/\gN (.type "object") x=pure y
structure ef (C:Cfg) (R:Rd):Prop where
 aiY:R.G ("__debug__" :bD)=none
 g:∀x v,R.G x=some v->C.mg x=some v\/(C.mg x=none/\C.mb x=some v)
 mt:∀r m c f,R.mt.lookup (r,m)=some (c,f)->ta C c m f
 at_:∀r x c,R.at_.lookup (r,x)=some c->xR C c x
def Callee (C:Cfg) (f:bz):Prop:=∀A s Q,(∀a o,C.K a=some o->s.heap.get? a=some o)->(∀k,Q k s)->aD (aI C.prog C.w) A (qt (.ref f)) Q a_ s
structure oZ C (R:Rd) ℓ (P:cZ):Prop where
 fn:∀f args aa5 J Q,P.eK f args aa5 J Q->Callee C f
 eK:∀f args aa5 J Q,P.eK f args aa5 J Q->∀A F O s vs kv,bQ ℓ A->Nw C F O J s->bM F O args vs->ew F O aa5 kv->aD (aI C.prog C.w) A (call (.ref f) vs kv) (cM C .no F O s Q) a_ s
 gen:∀f args Q,P.gen f args Q->Callee C f/\∃l,Q l/\∀A F O J s vs,bQ ℓ A->Nw C F O J s->bM F O args vs->
  aD (aI C.prog C.w) A (call (.ref f) vs) (λv u=>∃F',Go C .no F O s F' O J u/\∀A,bQ ℓ A->aD (aI C.prog C.w) A (kf v) (λit aia=>∃ai_ W,Go C .no F' O u ai_ O J aia/\Iter C ℓ A true it W (λ_=>True) l ai_ O aia/\(∀a∈W.a,s.heap.objs.size<=a)/\(∀i∈W.g,s.gens[i]?=none)) a_ u) a_ s
 ext:∀e xs H,R.xE H.1 e=some xs->(xs.all λx=>(H.2.lookup x).isSome)=true->∀L U Z F O J s A m cs Q,bT C H L U Z F O s.heap->Nw C F O J s->bQ (m+ℓ) A->iV Z (xs.map λx=>(H.2.lookup x).getD 100000)=some cs->P.ext e cs J Q->aD (aI C.prog C.w) A (gW e U) (cM C .no F O s Q) a_ s
def fO (C:Cfg) (R:Rd) (ℓ:Nat) (P:cZ) (n:Nat):Prop:=∀m H L d e U Z F O J s A Q,
 bT C H L U Z F O s.heap->Nw C F O J s->bQ (m+ℓ) A->aw P m Z J (cE R n H L d e) Q->aD (aI C.prog C.w) A (gW e U) (cM C .no F O s Q) a_ s
section
variable {C:Cfg} {R:Rd} {P:cZ} {ℓ n:Nat} {H:gq} {L d:Nat} {U:pB} {Z:bk} {F:FZ} {O:List bz} {J:aZ} {s:aN} {A:bU} {m:Nat}
theorem ct {b:EPost} (f:Nw C F O J s) (h:aD (aI C.prog C.w) A t (cM C .no F O s b) a_ s)
  (k:∀v F' aH aO u c,Go C .no F O s F' aH aO u->Nw C F' aH aO u->Rep F' aH c v->b c aO->Φ v u):aD (aI C.prog C.w) A t Φ a_ s:=
 ao h (λv u i=>by
  obtain⟨F',aH,aO,c,g,r,q⟩:=i
  exact k v F' aH aO u c g (f.go g) r q) λa a e=>e
theorem vW (a:Nw C F O J s) (g:Go C X F O s F' aH aO u) (r:Rep F O c v):Vw F' aH u.heap (eC aO c) v:=Vw.eC (a.go g) (r.mono g.ext.le g.jo)
inductive Mu C F O s (Q:List CV->aZ->Prop) vs u:Prop where
 |mk F' aH aO cs:Go C .no F O s F' aH aO u->bM F' aH cs vs->Q cs aO->Mu C F O s Q vs u
theorem tR (h:bR e=true):lq (e::rest) U=(false,gW e U)::lq rest U:=by
 induction e using aY<;>first|rfl|exact bV h
theorem oB (x:fO C R ℓ P n) (y:bQ (m+ℓ) A) pos:∀es F O J s Q,bT C H L U Z F O s.heap->Nw C F O J s->es.all bR=true->
  qW (aw P m) Z (es.map (cE R n H L d)) J Q->aD (aI C.prog C.w) A (spliced (backTo pos (lq es U))) (Mu C F O s Q) a_ s:=by
 intro es
 induction es with
 |nil=>
  exact λF O J s Q k i _ h=>eP ⟨F,O,J,[],i.refl,.nil,h⟩
 |cons e es z=>
  intro F O J s Q k i j h
  replace j:=aq.mp j
  refine dQ (ct i (x m H L d e U Z F O J s A _ k i y h) λv F' aH aO u c g l r q=>ao (z F' aH aO u _ (k.gb g) l j.2 q) (λvs B D=>?_) λa a e=>e) (tR j.1)
  obtain⟨o,b,f,cs,t,E,G⟩:=D
  exact⟨o,b,f,c::cs,g.trans t,.cons (r.mono t.ext.le t.jo) E,G⟩
theorem RH (r:Vw F O s.heap c v) (h:nU c Q) {prog} {w}:
 aD (aI prog w) A (unaryOp .Not v) (λx u=>∃b,x= .bool (!b)/\Q b/\∃f,s.toks<=f/\u={s with toks:=f}) a_ s:=bf (ae (ao (tu r h) (λb u g=>au (eJ b rfl g.1 g.2)) λa a e=>e))
theorem kA (y:ef C R) (j:bT C H L U Z F O s.heap) (f:Nw C F O J s) (i:tW (H.1.names.lookup x)= .Gn) (B:R.G x=some v) (D:(x==("__debug__" :bD))=false) (t:Q v s):
  aD (aI C.prog C.w) A (gW (.Name x p) U) Q a_ s:=by
 have c:U.kindOf x=some .globalImplicit:=by
  rcases j.kd x with e|⟨e,a⟩
  ·rw[e]
   induction z:H.1.names.lookup x using cO with
   |none=>rw[z] at i;cases i
   |some k=>rw[z] at i;clear z;induction k using e_<;>first|rfl|cases i
  ·rw[e] at i;exact nomatch i
 refine Name_function_global j.ok.kind c (cps λK_ E=>?_) D
 obtain⟨I,l,M,o,N,S,T⟩:=f.top.g
 obtain⟨W,q,X,r,Y,sb,fb⟩:=f.top.b
 have u:s.heap.Ns U.globals C.mg:=j.ok.glob▸(jq I M o (f.fz _ _ (f.top.k _ _ l)) N S T)
 refine E ?_
 rcases y.g x v B with h|⟨h1,h2⟩
 ·exact loadGlobal_global u h t
 ·exact loadGlobal_builtin u h1 (j.ok.blt▸(jq W X r (f.fz _ _ (f.top.k _ _ q)) Y sb fb)) h2 t
theorem ef.Lk (a:ef C R) (h:R.G x=some v):(x==("__debug__" :bD))=false:=by
 induction e:x=="__debug__" using cB with
 |false=>rfl
 |true=>
  rw[beq_iff_eq] at e
  subst e
  exact aW (a.aiY.symm.trans h)
theorem QV (h:ES v=some c):Rep F O c v:=by
 induction v using cK with
 |none=>exact eh (ab h) (oz.mpr rfl)
 |bool b=>exact eh (ab h) (iE.mpr rfl)
 |int i k=>exact eh (ab h) (cw.mpr ⟨_,rfl⟩)
 |float x k=>exact eh (ab h) (eQ.mpr ⟨_,rfl⟩)
 |ref a=>exact eh (ab h) (qi.mpr rfl)
 |type n=>exact eh (ab h) (qi.mpr rfl)
 |_=>first|exact aW h|exact bV h|exact bw h|exact nomatch h
end
section
variable {C:Cfg} {R:Rd} {P:cZ} {ℓ n:Nat} {H:gq} {L d:Nat} {U:pB} {Z:bk} {F:FZ} {O:List bz} {J:aZ} {s:aN} {A:bU} {m:Nat}
theorem Ik (h:mT e=true):behindInMarks op e=false:=by
 induction e using aY<;>first|rfl|exact bV h
theorem sQ b es:es.all mT=true->HB b es (uj es U)=uj es U:=by
 induction b,es using ll with
 |cn a b=>exact λa=>by induction b using cL<;>rfl
 |cc op b e es f=>
  intro h
  simp only[lH,cW] at h
  rw[arm_evalEach_cons]
  induction b using cL with
  |nil=>
   induction es using cL with
   |nil=>
    show[markedBehindIn op e (gW e U)]=_
    refine af (markedBehindIn_of_false (Ik h.1)) ?_;rfl
   |cons e2 es=>
    show gW e U::HB [] (e2::es) (uj (e2::es) U)=_
    rw[f h.2]
  |cons c b=>
   show gW e U::HB (c::b) es (uj es U)=_
   rw[f h.2]
 |_=>exact λa=>rfl
inductive rW C F O s (Q:Bool->aZ->Prop) b u:Prop where
 |mk F' aH aO:Go C .no F O s F' aH aO u->Q b aO->rW C F O s Q b u
theorem rW.trans (g:Go C .no F O s F' aH aO u) (h:rW C F' aH u Q b e):rW C F O s Q b e:=by
 obtain⟨f,a,c,x,q⟩:=h
 exact⟨f,a,c,g.trans x,q⟩
theorem bQ.cmp (h:bQ k A):A.units+10<cLine:=zB (zM (zT zP h.2.2) (ai 10)) (by decide)
theorem qd {Q:EPost} (g:Go C .no F O s F' aH aO u) (h:aD (aI C.prog C.w) A t (cM C .no F' aH u Q) a_ u):aD (aI C.prog C.w) A t (cM C .no F O s Q) a_ u:=
 ao h (λa a q=>q.trans g) λa a e=>e
theorem mQ (g:Go C .no F O s F' aH aO u) (h:aD (aI C.prog C.w) A t (rW C F' aH u Q) a_ u):aD (aI C.prog C.w) A t (rW C F O s Q) a_ u:=
 ao h (λa a q=>q.trans g) λa a e=>e
theorem cM.at (e:Nw C F O J s) {Q} {a:EPost} {X v u} (h:cM C X F O s (At J Q) v u) (b:∀c,Q c->a c J):cM C X F O s a v u:=
 h.mono λc aO q=>q.2▸b c q.1
theorem Mb {Φ:bq->aN->Prop} (f:Nw C F O J s) (g:Go C .no F O s F' aH aO u) (c:Nw C F' aH aO u) (i:bQ ℓ A) (j:Rep F O a l) (o:Rep F' aH b q) {K} (h:wL op (eC aO a) (eC aO b) K) (k:∀r,K r->Φ (.bool r) u):
  aD (aI C.prog C.w) A (ul op l q) Φ a_ u:=
 ao (PQ c.top.pr c.top.w c.fz i.cmp (vW f g j) (Vw.eC c o) h) (λv t x=>oH x λr e y z=>af z (af e (k r y))) λa a e=>e
theorem Mc (x:fO C R ℓ P n) (k:bQ (m+ℓ) A) pos:∀f es a q F O J s Q,bT C H L U Z F O s.heap->Nw C F O J s->Rep F O a q->
  M_ (aw P m) Z f a (es.map (cE R n H L 0)) J Q->aD (aI C.prog C.w) A (compareChain pos q f (uj es U)) (cM C .no F O s (λc J=>∃b,c= .bool b/\Q b J)) a_ s:=by
 intro f
 induction f with
 |nil=>exact λ_ _ _ _ _ _ _ _ _ _ _ h=>ar h
 |cons op f B=>
  intro es a q F O J s Q t j y h
  induction f using cL with
  |nil=>
   induction es using cL with
   |nil=>exact ar h
   |cons e es=>induction es using cL with
    |nil=>exact ae (bf (ct j (x m H L 0 e U Z F O J s A _ t j k h) λz F' aH aO u b g i l v=>ae (cD (vI (Mb j g i k y l v λr o=> .trans g (.same i (iE.mpr rfl) (aP r rfl o)))))))
    |cons e2 es=>exact ar h
  |cons D f=>induction es using cL with
   |nil=>exact ar h
   |cons e es=>
    refine ae (bf (ct j (x m H L 0 e U Z F O J s A _ t j k h) λz F' aH aO u b g i l v=>ae (cD (ae (bf (Mb j g i k y l v λr o=>ae (tE (ae (bf (pa ?_))))))))))
    induction r using cB with
    |true=>exact qd g (B es b z F' aH aO u Q (t.gb g) i l (o.1 rfl))
    |false=>exact au (.trans g (.same i (iE.mpr rfl) (aP false rfl (o.2 rfl))))
theorem BQ (l:fO C R ℓ P n) (j:bQ (m+ℓ) A) pos c es a k F O J s Q (o:bT C H L U Z F O s.heap) (f:Nw C F O J s) (q:Rep F O a k)
  (h:MZ (aw P m) Z c a (es.map (cE R n H L 0)) J Q):aD (aI C.prog C.w) A (testChain pos k c (uj es U)) (rW C F O s Q) a_ s:=by
 induction c using cL with
 |nil=>exact ar h
 |cons op c=>induction c using cL with
  |nil=>
   induction es using cL with
   |nil=>exact ar h
   |cons e es=>induction es using cL with
    |nil=>exact ae (bf (ct f (l m H L 0 e U Z F O J s A _ o f j h) λz F' aH aO u b g i t v=>ae (cD (ae (vI (Mb f g i j q t v λr x=>bf (pa ⟨F',aH,aO,g,x⟩)))))))
    |cons e2 es=>exact ar h
  |cons y c=>exact ar h
noncomputable def allOf:BoolOp->Bool
 | .And=>true
 | .Or=>false
theorem yz (o:fO C R ℓ P n) (t:bQ (m+ℓ) A) pos op:∀es F O J s Q,bT C H L U Z F O s.heap->Nw C F O J s->
  z' (aw P m) (allOf op) Z (es.map (cE R n H L 0)) J Q->aD (aI C.prog C.w) A (boolOp pos op (uj es U)) (cM C .no F O s Q) a_ s:=by
 intro es
 induction es with
 |nil=>
  exact λ_ _ _ _ _ _ _ h=>ar h
 |cons e es x=>
  intro F O J s Q k j h
  induction es using cL with
  |nil=>exact o m H L 0 e U Z F O J s A _ k j t h
  |cons e2 es=>
   refine ae (ct j (o m H L 0 e U Z F O J s A _ k j t h) λv F' aH aO u c g f r q=>ae (cD (ae (bf (letQ ?_)))));intro E;refine ao (tu (Vw.eC f r) q) (λb z B=>?_) λa a e=>e
   obtain⟨i,y,D,rfl⟩:=B
   have g2:Go C .no F' aH u F' aH aO {u with toks:=y}:= .toks f
   have gp:=f.go g2
   have l:=λh=>x F' aH aO {u with toks:=y} Q ((k.gb g).gb g2) gp h
   clear q h x j;induction op using jJ<;>induction b using cB<;>simp only[allOf] at i l ⊢
   ·exact au (.trans g (.trans g2 (.same gp r (i.2 rfl))))
   ·exact qd (g.trans g2) (l (i.1 rfl))
   ·exact qd (g.trans g2) (l (i.2 rfl))
   ·exact au (.trans g (.trans g2 (.same gp r (i.1 rfl))))
end
set_option tactic.hygienic true
noncomputable def jx:ME->Bool
 | .not _=>false
 | .band _=>false
 | .bor _=>false
 | .iD .. =>false
 | .cmp .. =>false
 |_=>true
theorem uH (h:∀e,o=some e->jx e=true):jx (qE o)=true:=by
 induction o using cO with
 |none=>rfl
 |some e=>exact h e rfl
theorem sX (h:jx e=true):jx (DJ d e)=true:=by
 induction d using cN with
 |zero=>exact h
 |succ d=>rfl
theorem kK (h:jx e=true):jx (za b e)=true:=by
 induction b using cB with
 |true=>exact h
 |false=>rfl
theorem H_:jx (Ln R s x)=true:=by
 unfold Ln
 induction x=="__debug__" using cB with
 |true=>rfl
 |false=>
  have var:jx (qE ((s.2.lookup x).map .var))=true:=uH λe h=>by
   refine oE (s.2.lookup x) (λa=>?_) λi a=>?_
   ·rw[a] at h;first|exact aW h|exact bV h|exact bw h|exact nomatch h
   ·rw[a] at h;refine eh (ab h) ?_;rfl
  induction tW (s.1.names.lookup x) using afq.casesOn with
  |loc=>exact var
  |Ii=>exact var
  |bad=>rfl
  |Gn=>
   exact uH λe h=>by
    induction a:R.G x using cO with
    |none=>rw[a] at h;first|exact aW h|exact bV h|exact bw h|exact nomatch h
    |some v=>
     rw[a,ng] at h
     refine oE (ES v) (λb=>?_) λc b=>?_
     ·rw[b] at h;first|exact aW h|exact bV h|exact bw h|exact nomatch h
     ·rw[b] at h;refine eh (ab h) ?_;rfl
theorem Me:jx (GS R fE s L x args)=true:=by
 unfold GS
 induction R.G x using cO with
 |none=>rfl
 |some v=>
  refine kK ?_
  unfold QU
  induction refOf v using cO with
  |some a=>rfl
  |none=>induction wQ.lookup v using cO<;>rfl
theorem Mg:jx (GU R fE s L o x args a)=true:=by
 unfold GU
 induction recv R o x using cO with
 |some cf=>induction mq a using cO<;>rfl
 |none=>induction a using cL with
  |cons _ _=>rfl
  |nil=>induction BS.lookup x using cO with
   |some m=>rfl
   |none=>exact kK rfl
theorem Ta (h:plainT e=true):jx (ahH R fE fI fT s L d e)=true:=by
 induction e using aY with
 |Constant c k p=>
  exact uH λe h=>by
   refine oE (nI c) (λb=>?_) λv b=>?_
   ·rw[b] at h;first|exact aW h|exact bV h|exact bw h|exact nomatch h
   ·rw[b] at h;refine eh (ab h) ?_;rfl
 |Name x p=>exact H_
 |BinOp l op r p=>
  show jx (G_ fE s L d l op r)=true
  unfold G_
  induction AE l using cO with
  |none=>rfl
  |some e=>induction EF op using cB with
   |true=>exact kK (sX rfl)
   |false=>rfl
 |UnaryOp op x p=>induction op using lP<;>first|rfl|first|exact aW h|exact bV h|exact bw h|exact nomatch h
 |Tuple es k p=>exact kK rfl
 |List es p=>exact kK (sX rfl)
 |Dict m vs p=>induction m using cL with
  |cons _ _=>rfl
  |nil=>induction vs using cL with
   |cons _ _=>rfl
   |nil=>exact sX rfl
 |Subscript o i p=>induction i using aY with
  |Slice l t st q=>induction st using cO<;>rfl
  |_=>rfl
 |Attribute o x p=>
  refine kK ?_
  unfold Ti
  induction wg R o x using cO<;>rfl
 |Call f args j p=>induction f using aY with
  |Name x q=>induction j using cL with
   |nil=>exact Me
   |cons _ _=>rfl
  |Attribute o x q=>exact kK Mg
  |_=>rfl
 |ListComp n a H p=>induction a using cL with
  |nil=>rfl
  |cons g u=>exact kK (sX rfl)
 |BoolOp _ _ _=>first|exact aW h|exact bV h|exact bw h|exact nomatch h
 |IfExp _ _ _ _=>first|exact aW h|exact bV h|exact bw h|exact nomatch h
 |Compare _ _ _ _=>first|exact aW h|exact bV h|exact bw h|exact nomatch h
 |_=>rfl
theorem YN (h:plainT e=true):jx (cE R n s L d e)=true:=by
 induction n using cN with
 |zero=>rfl
 |succ n=>induction a:R.xE s.1 e using cO with
  |some k=>exact af (GV a) (kK rfl)
  |none=>exact af (A_ a) (Ta h)
theorem QQ (h:jx a=true):gm E Z (k+1) J a Q=E Z J a (λc J=>nU (eC J c) (λb=>Q b J)):=by
 induction a using ME.casesOn<;>first|rfl|exact bV h
theorem Gg (h:plainT e=true):isTrue e U a=(do let v<-a;EM e.pos;xT [v] (truthy v)):=by
 induction e using aY<;>first|rfl|exact bV h|(rename_i op _ _;induction op using lP<;>first|rfl|exact bV h)
section
variable {C:Cfg} {R:Rd} {P:cZ} {ℓ n:Nat} {H:gq} {L d:Nat} {U:pB} {Z:bk} {F:FZ} {O:List bz} {J:aZ} {s:aN} {A:bU} {m:Nat}
def Vh (C:Cfg) (R:Rd) (ℓ:Nat) (P:cZ) (n:Nat):Prop:=∀k m H L e U Z F O J s A Q,
 bT C H L U Z F O s.heap->Nw C F O J s->bQ (m+ℓ) A->gm (aw P m) Z k J (cE R n H L 0 e) Q->aD (aI C.prog C.w) A (isTrue e U (gW e U)) (rW C F O s Q) a_ s
theorem Tq (l:Vh C R ℓ P n) (o:bQ (m+ℓ) A) op es:∀F O J s Q,bT C H L U Z F O s.heap->Nw C F O J s->
  EO (gm (aw P m) Z k) (allOf op) (es.map (cE R n H L 0)) J Q->aD (aI C.prog C.w) A (allTrue op es U) (rW C F O s Q) a_ s:=by
 induction es with
 |nil=>exact λF O J s Q i c h=>au ⟨F,O,J,c.refl,by induction op using jJ<;>exact h⟩
 |cons e es q=>
  intro F O J s Q i c h
  refine ae (ao (l k m H L e U Z F O J s A _ i c o h) (λb u r=>?_) λa a e=>e)
  obtain⟨F',aH,aO,g,f⟩:=r
  have j:=λh=>q F' aH aO u Q (i.gb g) (c.go g) h
  clear h c;induction op using jJ<;>induction b using cB<;>simp only[allOf] at f j ⊢
  ·exact au ⟨F',aH,aO,g,f.2 rfl⟩
  ·exact mQ g (j (f.1 rfl))
  ·exact mQ g (j (f.2 rfl))
  ·exact au ⟨F',aH,aO,g,f.1 rfl⟩
theorem Nt (l:fO C R ℓ P n) (o:bQ (m+ℓ) A) {e} {Q} {k} (t:bT C H L U Z F O s.heap) (i:Nw C F O J s) (j:plainT e=true)
  (h:gm (aw P m) Z k J (cE R n H L 0 e) Q):aD (aI C.prog C.w) A (isTrue e U (gW e U)) (rW C F O s Q) a_ s:=by
 induction k using cN with
 |zero=>exact ar h
 |succ k=>
  rw[QQ (YN j)] at h
  refine af (Gg j) (ae (ct i (l m H L 0 e U Z F O J s A _ t i o h) λv F' aH aO u c g f r q=>ae (cD (bf (ao (tu (Vw.eC f r) q) (λb x y=>?_) λa a e=>e)))))
  obtain⟨z,D,B,rfl⟩:=y
  exact⟨F',aH,aO,g.trans (.toks f),z⟩
inductive Hj:ay->Prop
 |bool op vs p:Hj (.BoolOp op vs p)
 |not x p:Hj (.UnaryOp .Not x p)
 |iD t a b p:Hj (.IfExp t a b p)
 |cmp l ops rs p:Hj (.Compare l ops rs p)
theorem Lb {e} (h:plainT e=false):Hj e:=by
 induction e using aY with
 |BoolOp op vs p=>exact .bool ..
 |UnaryOp op x p=>induction op using lP with
  |Not=>exact .not ..
  |_=>exact bV h.symm
 |IfExp t a b p=>exact .iD ..
 |Compare l c rs p=>exact .cmp ..
 |_=>exact bV h.symm
theorem Te {K:Prop} {k Q} (h:gm (aw P m) Z k J .bad Q):K:=by
 induction k using cN with
 |zero=>exact ar h
 |succ k=>induction m using cN<;>exact ar h
theorem qg:∀n,(∀k,k<=n->fO C R ℓ P k)->Vh C R ℓ P n:=by
 intro n
 induction n with
 |zero=>exact λz k m H L e U Z F O J s A Q f i j h=>Te h
 |succ n o=>
 intro z k m H L e U Z F O J s A Q f i j h
 have o:=o λk M=>z k (dg M)
 induction B:plainT e using cB with
 |true=>exact Nt (z (n+1) (ai _)) j f i B h
 |false=>
 induction D:R.xE H.1 e using cO with
 |some x=>rw[GV D,B] at h;exact Te h
 |none=>
 induction k using cN with
 |zero=>exact ar h
 |succ k=>
 rw[A_ D] at h
 have N:=Lb B
 clear B D
 induction N with
 |bool op vs p=>exact Tq (k:=k) o j op vs F O J s Q f i (by induction op using jJ<;>exact h)
 |not x p=>exact ae (ao (o k m H L x U Z F O J s A _ f i j h) (λb u E=>au (let ⟨S,T,s1,g1,W⟩:=E;⟨S,T,s1,g1,W⟩)) λa a e=>e)
 |iD t a b p=>
  refine ae (ao (o k m H L t U Z F O J s A _ f i j h) (λr u E=>?_) λa a e=>e)
  obtain⟨F',aH,aO,g,I⟩:=E
  induction r using cB with
  |true=>exact mQ g (o k m H L a U Z F' aH aO u A Q (f.gb g) (i.go g) j (I.1 rfl))
  |false=>exact mQ g (o k m H L b U Z F' aH aO u A Q (f.gb g) (i.go g) j (I.2 rfl))
 |cmp l w rs p=>
  rw[arm_isTrue_Compare]
  have h:gm (aw P m) Z (k+1) J (za (rs.all mT) (.cmp (cE R n H L 0 l) w (rs.map (cE R n H L 0)))) Q:=h
  induction y:rs.all mT using cB with
  |false=>rw[y] at h;exact Te h
  |true=>
   rw[y] at h
   exact af (sQ w rs y) (ae (ct i (z n (aQ n) m H L 0 l U Z F O J s A _ f i j h) λv F' aH aO u c g G r q=>mQ g (BQ (z n (aQ n)) j p w rs c v F' aH aO u Q (f.gb g) G r q)))
end
set_option tactic.hygienic false
section
variable {prog:jT} {w:oK} {A:bU} {E:bq->aN->Prop} {s:aN}
theorem SJ (l:t≠it) n:∀i s Q,s.heap.IsListIter it t i->s.heap.IsList t items->i+n<=items.size->
  (∀m,m.IsListIter it t (i+n)->jI it s.heap m->Q ((items.toList.drop i).take n) {s with heap:=m})->aD (aI prog w) A (draw (.ref it) n) Q E s:=by
 induction n with
 |zero=>exact λi s Q f a a o=>au (by simpa using o s.heap f (Vv ..))
 |succ n u=>
  intro i s Q f q h o
  have j:i<items.size:=zA (fL (gP n)) h
  refine ae (vf f q (x:=items[i]) (by simp[j]) λr d c=>ae (bf (u (i+1) _ _ d (q.extBut c.extBut l) (zI h) λk e g=>au ?_)))
  have:=o k (zJ (a:=i) (b:=n) rfl▸e) (c.trans g)
  rw[(by simp[sD,j]:items.toList.drop i=items[i]::items.toList.drop (i+1))] at this
  exact this
theorem sH (m:A.handled=none) (g:s.heap.IsList t items)
  (n:∀j,qu s.heap.objs.size s.heap j->Q items.toList {s with heap:=j}):aD (aI prog w) A (DS (.ref t) items.size none) Q E s:=by
 have h:t≠s.heap.objs.size:=aG g λo q a=>bj (aU q)
 refine ae ?_
 ·refine letQ ?_;intro r;refine ae (lj g.typeIs slot_list_iter.lookup (letQ ?_));intro r;refine au (nt ?_);intro u;refine ae (bf (te g (ae (bf (SJ h items.size 0 _ _ (eJ _ (aT _ rfl) rfl rfl) (g.push _) (by grind-abstractProof only) λk d c=>?_)))))
  refine af (gQ (by simp)) (af (if_neg (by simp)) (nt ?_));intro u;refine ae (bf (vO m d ((g.push _).extBut c.extBut h) (by simp) λi f=>au (n i λb o l e=>f b o l (c.extBut b o l (bu _ e)))))
theorem Nd (g:A.handled=none) (d:s.heap.IsTuple t items\/s.heap.IsList t items)
  (i:a.length=items.size) (b:a.findIdx? (·.1)=none)
  (h:∀c,qu s.heap.objs.size s.heap c->s.heap.objs.size<=c.objs.size->aD (aI prog w) A (assignInOrder (a.map (·.2)) items.toList) Q E {s with heap:=c}):
  aD (aI prog w) A (unpack (.ref t) a) Q E s:=by
 unfold unpack
 refine af i (af b (ae (bf (fZ ?_))))
 rcases d with d|d
 ·exact ug g d λc e f=>h c e f
 ·exact sH g d λc e f=>h c e f
end
section
variable {C:Cfg} {X:Wr} {F:FZ} {O:List bz} {J:aZ} {A:bU} {s:aN}
theorem Go.oP (c:Nw C F O J s) {k} {a} {m} {g} {t} (j:O[k]?=some a) (l:∀b o,b≠a->s.heap.get? b=some o->g.get? b=some o) (u:sz s<=g.objs.size) (z:s' F O g a m) (v:s.toks<=t:=by first|exact ai _|exact aQ _|assumption|decide):Go C X F O s F O (J.set k m) {s with heap:=g,toks:=t}:=by
 have w:=bh j
 refine qk (c.dj.fr a w) λx B D=>⟨⟨.refl F,λb o e=>(l b o (λq=>by subst q;exact aW (x.symm.trans e)) (c.fz b o e)),λb o n f e=>(l b o (λq=>by subst q;exact f (dG _ w)) e),λa a=> .inl,u,rfl,λa a a e=>e,⟨c.base.bare,λP y=>(eY (c.base.tab P y) λvs e=>⟨vs,l P _ (λq=>by clear D x v;subst q;exact B y) e⟩),av c.base.tok v⟩⟩,.refl _,λa=> .inl,⟨?_,c.dj.nodup,λb h=>?_,λi b E n f=>?_⟩⟩
 ·exact af bH c.dj.len
 ·exact(fg ((c.dj.fr b h).1) ((c.dj.fr b h).2.1) (av (c.dj.fr b h).2.2 u))
 ·by_cases d:i=k
  ·subst d
   refine eh (ab (j.symm.trans n)) (eh (ab ((bI (c.dj.len▸(aj.mp j).1)).symm.trans f)) ?_)
   exact z
  ·rw[aS λe=>d e.symm] at f
   have r:b≠a:=by
    rintro rfl
    exact d (c.dj.nodup i k b n j)
   exact(c.dj.at_ i b E n f).keeps λo=>l b o r
theorem Fi {k:Int} (h:tb s.heap l items)
  (i:0<=k) (b:k<2^63) (q:k<items.size)
  (m:∀d,tb d l (items.setIfInBounds k.toNat v)->jI l s.heap d->Q () {s with heap:=d}):
  aD (aI prog w) A (setItem (.ref l) (.int k t) v) Q E s:=by
 refine eY h.plain λn e=>?_
 have g:=h.isList.typeIs
 refine bf (ae (wpAny_sequenceKey g (by decide) (ae (iM g Bq
  (h_ Bq g entry_list_setitem ?_ (args_list_setitem _ _ _))))))
 show aD _ _ (EN (.int k t)>>=_) _ _ s
 refine letQ ?_;intro o;refine ae (wpAny_listSubscript_int (fitsIndex_of i b) ?_)
 obtain⟨j,rfl⟩:=ey i
 refine ae (ae (wpAny_seqItemAt e rfl (au (af (nv (by lia)) ?_))))
 refine letQ ?_;intro o;refine eY (Obj.data_mapSeq (f:=(·.setIfInBounds j v)) (show({cls:= .type "list",data:= .seq items n}:Obj).data= .seq items n from rfl)) λn' a=>?_
 have c:tb (s.heap.update l (sg (·.setIfInBounds j v))) l (items.setIfInBounds j v):=
  ⟨_,lQ _ e (Obj.isFreed_of_seq a),n',by
   simp only[sg] at a ⊢
   rw[<-a]⟩
 exact ae (wpAny_setSeqItemAt e rfl (au (aP .none rfl (au (m _ c (ye ..))))))
theorem bM.set {c} {v} (q:Rep F O c v) {l}:∀{vs} j,bM F O l vs->bM F O (l.set j c) (vs.set j v):=by
 induction l with
 |nil=>exact λj h=>af h .nil
 |cons x l d=>exact λj h=>cN j (cz h λy z e b a=>af e (.cons q a)) λj=>cz h λy z e b a=>af e (.cons b (d j a))
theorem ew.set (r:Rep F O c v):∀{l} {es},ew F O l es->ew F O (l.map λp=>if p.1=k then(p.1,c) else p) (es.map λp=>if p.1=k then(p.1,v) else p):=by
 intro l
 induction l with
 |nil=>
  intro _ h
  subst h;exact rfl
 |cons b l e=>
  obtain⟨x,y⟩:=b
  intro _ h
  refine cz h λw z d g f=>?_;clear h;subst d
  refine af gC (af gC ?_)
  by_cases a:x=k
  ·rw[if_pos a,if_pos a]
   exact(eA v _ rfl r (e f))
  ·rw[if_neg a,if_neg a]
   exact(eA w _ rfl g (e f))
theorem ew.snoc (r:Rep F O c v):∀{l} {es},ew F O l es->ew F O (l++[(k,c)]) (es++[(k,v)]):=by
 intro l
 induction l with
 |nil=>
  intro _ h
  subst h;exact eA v [] rfl r rfl
 |cons a l d=>
  obtain⟨x,y⟩:=a
  intro _ h
  refine cz h λw z b e f=>?_;clear h;subst b
  exact(eA w _ rfl e (d f))
theorem ew.y_ (r:Rep F O c v) {l} {es} (h:ew F O l es):ew F O (Internal.y_ l k c) (stored es k v):=by
 have e:(es.any λkv=>decide (kv.1=k))=l.any λp=>decide (p.1=k):=by
  rw[(af MN rfl:(es.any λkv=>decide (kv.1=k))=(es.map (·.1)).any λy=>decide (y=k)),(af MN rfl:(l.any λkv=>decide (kv.1=k))=(l.map (·.1)).any λy=>decide (y=k)),h.keys]
 unfold Internal.y_ stored
 refine af e ?_
 split
 ·exact ew.set r h
 ·exact ew.snoc r h
theorem Dt (e:Nw C F O J s) (I:Rep F O o R) (L:Rep F O i S) (M:Rep F O c v) (h:setC J o i c Q):
  aD (aI C.prog C.w) A (setItem R S v) (λ_ u=>∃aO,Go C .no F O s F O aO u/\Q aO) a_ s:=by
 refine letQ ?_;intro y;refine aG (jz h) λk f N=>?_
 obtain rfl:=FD f
 refine aG (jz N) λmo P h=>letQ ?_;intro y;refine aG (io.mp I) λa q z=>?_;clear I;subst z
 clear N;induction mo using MO.casesOn with
 |list l=>
  refine letQ ?_;intro y;refine cps λK_ T=>aG (e.dj.at_ k a _ q P) λvs p r=>?_
  obtain⟨j,rfl,t,x,d,B,W,g⟩:=Bb h
  have D:=g.1
  obtain⟨Y,rfl⟩:=cw.mp L
  obtain rfl:=yl B (by lia)
  have Z:=(aj.mp W).1
  refine T (Fi p D (by lia) (by refine af r.size ?_;grind-abstractProof only) λh' E n=>(aP _ (.oP (m:= .list (l.set j.toNat c)) e q (λb o t=>(n.2 b t).trans) (dW n.1.symm) (aP _ E ?_)) g.2))
  exact af Array.toList_setIfInBounds (bM.set M j.toNat r)
 |dict l=>
  refine cz (e.dj.at_ k a _ q P) λob a0 p d r=>oV ?_;intro y s_;refine aG (jz h) λx B g=>?_
  obtain rfl:=tQ B
  refine bA (ez.mp L) λY=>?_
  rw[e.top.pr,e.top.w] at d
  refine wpAny_setItem_pairs (k:=x) (by simp[nN,IC]) (iO.mpr (aP ob p d.2)) (λh' G n=>(aP _ (.oP e q (λb o t=>(n.2 b t).trans) (dW n.1.symm) ?_) g.2)) ?_
  ·exact aG (iO.mp G) λH p' d'=>(eA H _ p' (af e.top.pr (af e.top.w ⟨d.1,d'⟩)) (r.y_ M))
  ·have:=r.length;exact af mC (zT (zE this) (zT g.1 (by decide)))
 |_=>exact ar h
end
section
variable {C:Cfg} {R:Rd} {P:cZ} {ℓ n:Nat} {H:gq} {L d:Nat} {U:pB} {Z:bk} {F:FZ} {O:List bz} {J:aZ} {s:aN} {A:bU} {m:Nat}
inductive lO C H L U F O s (Q:bk->aZ->Prop) (u_:Unit) u:Prop where
 |mk F' aH aO xV:Go C (iF H.1 U) F O s F' aH aO u->bT C H L U xV F' aH u.heap->Q xV aO->lO C H L U F O s Q u_ u
theorem lO.trans (g:Go C (iF H.1 U) F O s F' aH aO u) (h:lO C H L U F' aH u Q j f):lO C H L U F O s Q j f:=by
 obtain⟨i,a,b,c,x,e,q⟩:=h
 exact⟨i,a,b,c,g.trans x,e,q⟩
def DP (C:Cfg) (R:Rd) (ℓ:Nat) (P:cZ) (n:Nat):Prop:=∀m H L t U Z F O J s A Q c v,
 bT C H L U Z F O s.heap->Nw C F O J s->bQ (m+ℓ) A->(Rep F O c v\/(isTup t=true/\∃l,c= .tup l/\TV F O s.heap v l))->
 du (aw P m) (cT R n H L t) c Z J Q->aD (aI C.prog C.w) A (assign t U v) (lO C H L U F O s Q) a_ s
theorem rT (h:bR e=true):vl (e::rest) U=(false,assign e U)::vl rest U:=by
 induction e using aY<;>first|rfl|exact bV h
theorem zj:∀es,es.all bR=true->(vl es U).length=es.length/\(vl es U).findIdx? (·.1)=none:=by
 intro es
 induction es with
 |nil=>
  exact λf=>⟨rfl,rfl⟩
 |cons e es a=>
  intro h
  simp only[lH,cW] at h
  refine fK (a h.2) λb c=>af (rT h.1) ⟨by simp[b],?_⟩
  rw[List.findIdx?_cons]
  simp[c]
theorem QT (g:bT C H L U Z F O s.heap) (o:Nw C F O J s) (k:H.1.names.lookup x=some .local\/H.1.names.lookup x=some .cell)
  (q:H.2.lookup x=some i) (r:Rep F O c v) (h:Q (upd Z i c) J):aD (aI C.prog C.w) A (do EM p;bindName U x v) (lO C H L U F O s Q) a_ s:=by
 refine ae (cD (Hw ?_))
 have l:U.kindOf x=some .local\/U.kindOf x=some .cell/\H.1.names.lookup x=some .cell/\∃a,U.cells.lookup x=some a/\F.f a=none:=by
  refine VA k (λk=>?_) λk=>?_
  ·rcases g.kd x with e|⟨e,a⟩
   ·exact .inl (e.trans k)
   ·rw[k] at e;cases e
  ·rcases g.kd x with e|⟨e,a⟩
   ·obtain⟨b,t⟩:=g.iK x (k▸rfl) (q▸rfl)
    exact .inr ⟨e.trans k,k,b,t,g.cF x b (mem_of_lookup t) k⟩
   ·rw[k] at e;cases e
 exact kY g.ok o.fz o.base q l r λu z B a=>⟨F,O,J,upd Z i c,.wi o.dj z g.ok.own,⟨g.kd,B,λj y=>(cG _ _ (by have:=g.lt x i q;exact bZ (zA this y)))▸g.top j y,g.lt,g.iK,g.cF⟩,h⟩
theorem Lf (i:DP C R ℓ P n) (B:bQ (m+ℓ) A):∀es l vs Z F O J s Q,bT C H L U Z F O s.heap->Nw C F O J s->es.all bR=true->
  bM F O l vs->mX (aw P m) (es.map (cT R n H L)) l Z J Q->aD (aI C.prog C.w) A (assignInOrder ((vl es U).map (·.2)) vs) (lO C H L U F O s Q) a_ s:=by
 intro es
 induction es with
 |nil=>exact λl=>cL l (λvs Z F O J s Q j f b r h=>af r au ⟨F,O,J,Z,f.refl,j,h⟩) λb b b b b b b b b b b b b=>ar
 |cons e es D=>
  refine λl=>cL l (λb b b b b b b b b b b=>ar) λc l vs Z F O J s Q j f k r h=>?_
  simp only[lH,cW] at k
  refine cz r λv o t E G=>?_;clear r;subst t
  refine af (rT k.1) (ae (bf (ao (i m H L e U Z F O J s A _ c v j f B (.inl E) h) (λI u M=>?_) λa a e=>e)))
  obtain⟨F',aH,aO,x,g,y,q⟩:=M
  exact ao (D l o x F' aH aO u Q y (f.go g) k.2 (G.mono g.ext.le g.jo) q) (λI N z=>z.trans g) λa a e=>e
theorem QY (f:DP C R ℓ P n) (q:bQ (m+ℓ) A) {es} {k} {p} {l} {v} {Q} (y:bT C H L U Z F O s.heap) (t:Nw C F O J s) (u:es.all bR=true)
  (x:∃T b,v= .ref T/\(s.heap.IsTuple T b\/s.heap.IsList T b)/\bM F O l b.toList) (c:es.length=l.length) (h:mX (aw P m) (es.map (cT R n H L)) l Z J Q):
  aD (aI C.prog C.w) A (assign (.Tuple es k p) U v) (lO C H L U F O s Q) a_ s:=by
 refine cz x λT b i z r=>?_;clear x;subst i
 obtain⟨B,D⟩:=zj es u
 refine ae (cD (Nd q.handled z (by refine af B (af c ?_);simpa using r.length.symm) D λE G hsz=>?_))
 have g:Go C .no F O s F O J {s with heap:=E}:= .lC t (λa o e=>G a o (bj (aU e)) e) hsz
 exact ao (Lf f q es l b.toList Z F O J _ Q (y.gb g) (t.go g) u r h) (λM I j=>j.trans g.pure) λa a e=>e
theorem AH (f:Nw C F O J s) (r:Rep F O (.own k) v) (t:J[k]?=some (.inst g (some d))) (u:J[d]?=some (.ns l)):
  ∃a b m,O[k]?=some a/\O[d]?=some b/\v= .ref a/\a≠b/\s.heap.Inst a g m/\Ip F O l m/\∃o,s.heap.get? a=some o/\o.dict=some b:=by
 refine cps λD w=>aG r λa h i=>?_;clear r;subst i
 obtain⟨o,e,y,j,E,b,q,x⟩:=f.dj.at_ k a _ h t
 refine aG (f.dj.at_ d b _ q u) λm z B=>w ?_
 have c:a≠b:=by
  rintro rfl
  have:=f.dj.nodup k d a h q
  clear w;subst this
  cases t.symm.trans u
 exact⟨a,b,m,h,q,rfl,c,(OV o e y j (.inr (eJ b x (qa c) z))),B,o,e,x⟩
theorem AV (b:Nw C F O J s) (h:zm C a mN):
  ∃N r,s.heap.get? a=some (xI a N r)/\s.heap.Ns N mN:=by
 obtain⟨N,r,c,o,e,es,f,g⟩:=h
 exact⟨N,r,b.fz _ _ (b.top.k _ _ c),o,es,f,b.fz _ _ (b.top.k _ _ e),g⟩
theorem yr:∀l y,(nsSet l x c).lookup y=if y=x then some c else l.lookup y:=by
 intro l
 induction l with
 |nil=>
  intro y
  show tq y [(x,c)]=_
  rw[cg]
  by_cases a:y=x
  ·rw[if_pos a,beq_iff_eq.mpr a]
  ·rw[if_neg a,beq_eq_false_iff_ne.mpr a]
 |cons e l f=>
  obtain⟨k,d⟩:=e
  intro y
  show tq y (if k=x then(k,c)::l else(k,d)::nsSet l x c)=_
  by_cases b:k=x
  ·rw[if_pos b,cg,cg]
   refine eh b ?_
   by_cases a:y=k
   ·rw[if_pos a,beq_iff_eq.mpr a]
   ·rw[if_neg a,beq_eq_false_iff_ne.mpr a]
  ·rw[if_neg b,cg,cg]
   by_cases a:y=k
   ·rw[beq_iff_eq.mpr a,if_neg (a▸b)]
   ·exact af (beq_eq_false_iff_ne.mpr a) (f y)
theorem Ip.set {m} (h:Ip F O l m) (r:Rep F O c v):Ip F O (nsSet l x c) (λy=>if y=x then some v else m y):=by
 refine⟨λy f e=>?_,λy e=>?_⟩
 ·rw[yr] at e
  by_cases a:y=x
  ·exact eh (ab ((if_pos a).symm.trans e)) ((aP v (if_pos a) r))
  ·rw[if_neg a] at e
   show∃b,(if y=x then some v else m y)=some b/\Rep F O f b
   exact af (if_neg a) (h.1 y f e)
 ·rw[yr] at e
  by_cases a:y=x
  ·rw[if_pos a] at e;exact nomatch e
  ·rw[if_neg a] at e
   show(if y=x then some v else m y)=none
   exact af (if_neg a) (h.2 y e)
theorem Ip.within {m} (h:Ip F O l m):Within m (l.map (·.1)):=λy b=>by
 refine oE (l.lookup y) (λe=>(absurd (h.2 y e) b)) λc e=>?_
 ·
  refine iQ (eT.mp e) λf g q a=>af q ?_;simp
theorem ae2 {k:Nat} (f:Nw C F O J s) (c:zm C e mN) (g:O[k]?=some a):a≠e:=by
 rintro rfl
 obtain⟨i,j,h,b⟩:=c
 have:=(f.dj.fr a (bh g)).1
 rw[f.top.k _ _ h] at this
 exact nomatch this
theorem WJ {o a:Obj} (b:o.cls=a.cls) (c:o.data=a.data) (e:o.slots=a.slots) (f:o.dict=a.dict):o=a:=by
 cases o;subst b;subst e;subst c;subst f
 rfl
theorem DM (hO:xR C S x) (t:Nw C F O J s) (ro:Rep F O o vo) (rc:Rep F O c v) (h:Hf S J o x c Q):
  aD (aI C.prog C.w) A (setAttr vo x v) (λ_ u=>∃aO,Go C .no F O s F O aO u/\Q aO) a_ s:=by
 refine letQ ?_;intro Q_;refine cps λK_ k_=>?_
 obtain⟨k,d,l,rfl,hk,hd,y,hq⟩:=yP h
 obtain⟨a,b,m,ha,hb,rfl,T,hI,hl,ob,M,f⟩:=AH t ro hk hd
 refine GJ hO λmN i b z B hB=>?_
 obtain⟨N,r,hC,hN⟩:=AV t i
 obtain⟨hp,g,dr,tk,os⟩:=s
 refine k_ (et (fZ (store_attr PySem.F.store_object hC hN z B hB (ae2 t i ha) hI (λh' a7 W X j hz ht=>(aP _ (.oP t hb (λb' o' Y e=>?_) hz ?_ ht) hq)) hl.within (by rw[aC];exact zT y (by decide)))))
 ·by_cases D:b'=a
  ·clear ht hz hN hC hI t B z b i T ro hb ha hq hd hk h;clear k_ Q_;subst D
   refine eh (ab (M.symm.trans e)) (GJ (j ob M) λE q c1 c2 c3 c4=>?_)
   rw[q,WJ c1 c2 c3 ((c4 _ f).trans f.symm)]
  ·exact X b' o' D (λa5 dx e0 e1=>by
    obtain rfl:=ab (M.symm.trans e0)
    exact eh (ab (f.symm.trans e1)) Y) e
 ·refine JX W λE q a a a0=>GJ (j ob M) λa6 G a a a c4=>?_
  obtain rfl:=ab (q.symm.trans G)
  have I:=c4 _ f
  rcases a0 with ⟨hn,a⟩|⟨d',a3,a,a4⟩
  ·rw[I] at hn;exact nomatch hn
  ·exact af (ab (I.symm.trans a3)) ((aP _ a4 (hl.set rc)))
theorem yL (h:du (aw P m) (IY b t) c Z J Q):b=true/\du (aw P m) t c Z J Q:=by
 induction b using cB with
 |true=>exact⟨rfl,h⟩
 |false=>exact ar h
abbrev Given (F:FZ) (O:List bz) (h:kT) (t:Expr) (c:CV) (v:bq):Prop:=Rep F O c v\/(isTup t=true/\∃l,c= .tup l/\TV F O h v l)
theorem Given.plain (b:Given F O h t c v) (e:isTup t=false):Rep F O c v:=by
 rcases b with r|⟨q,a⟩
 ·exact r
 ·rw[e] at q;exact bV q
theorem rK (b:ef C R) {o} {x} {a} (h:wg R o x=some a):xR C a x:=by
 induction o using aY with
 |Name r p=>exact b.at_ _ _ _ h
 |_=>exact aW h
theorem EX (h:Nw C F O J s) (i:Given F O s.heap t c v) {l} (hl:eC J c= .tup l\/eC J c= .lst l):∃T b,v= .ref T/\(s.heap.IsTuple T b\/s.heap.IsList T b)/\bM F O l b.toList:=by
 rcases i with r|⟨a,j,rfl,T,b,rfl,f,r⟩
 ·have g:=Vw.eC h r
  rcases hl with hl|hl
  ·rw[hl] at g
   exact cz (TV.of h.fz g) λT b e f r=>⟨T,b,e,.inl f,r⟩
  ·rw[hl] at g
   exact cz g λT b e f r=>⟨T,b,e,.inr f.isList,r⟩
 ·rcases hl with hl|hl<;>cases hl
  exact(eA T b rfl (.inl f) r)
theorem GY (h:du (aw P m) (.tup ts) c Z J Q):∃l,(eC J c= .tup l\/eC J c= .lst l)/\ts.length=l.length/\mX (aw P m) ts l Z J Q:=by
 have h:(match eC J c with| .tup l=>ts.length=l.length/\mX (aw P m) ts l Z J Q| .lst l=>ts.length=l.length/\mX (aw P m) ts l Z J Q|_=>False):=h
 induction a:eC J c using CV.casesOn with
 |tup l=>rw[a] at h;exact(aP l (.inl rfl) h)
 |lst l=>rw[a] at h;exact(aP l (.inr rfl) h)
 |_=>rw[a] at h;exact h.elim
theorem jP (X:ef C R):∀n,(∀k,k<=n->fO C R ℓ P k)->DP C R ℓ P n:=by
 intro n
 induction n with
 |zero=>exact λz_ m H L t U Z F O J s A Q c v g j B D=>ar
 |succ n Y=>
  intro T m H L t U Z F O J s A Q c v g j B D h
  have u:=T n (aQ n)
  induction t using aY with
  |Name x p=>
   change du (aw P m) (wa H x) c Z J Q at h
   unfold wa at h
   induction E:AG (H.1.names.lookup x) using cB with
   |false=>rw[E] at h;exact ar h
   |true=>
    rw[E] at h
    refine oE (H.2.lookup x) (λI=>?_) λi I=>?_
    ·rw[I] at h;refine nt ?_;intro s_;exact ar h
    ·
     rw[I] at h
     exact QT g j (Gh E) I (Given.plain D rfl) h
  |Tuple es k p=>
   obtain⟨W,h⟩:=yL (t:= .tup (es.map (cT R n H L))) h
   exact oH (GY h) λl hl z=>QY (Y λk E=>T k (dg E)) B g j W (EX j D hl) (by rw[aC] at z;exact z)
  |Subscript o i p=>
   refine fK (yL (t:= .sub (cE R n H L 0 o) (cE R n H L 0 i)) h) λW h=>oV ?_;intro Q_ s_;exact ae (bf (ct j (u m H L 0 o U Z F O J s A _ g j B h) λvo M w G s1 co g1 f N z=>ae (bf (ct f (u m H L 0 i U Z M w G s1 A _ (g.gb g1) f B z) λvi F2 jy a0 s2 ci g2 gp ri h2=>ae (cD (ae (bf (ao (Dt gp (N.mono g2.ext.le g2.jo) ri ((Given.plain D (by induction mS i using cB<;>rfl)).mono (g1.trans g2).ext.le (g1.trans g2).jo) h2) (λG5 s3 S=>aG S λy g3 q=>tE ⟨F2,jy,y,Z,((g1.trans g2).trans g3).pure,((g.gb g1).gb g2).gb g3,q⟩) λa a e=>e))))))))
  |Attribute o x p=>
   change du (aw P m) (Nv R (cE R n) H L o x) c Z J Q at h
   unfold Nv at h
   refine oE (wg R o x) (λb=>?_) λcl b=>?_
   ·rw[b] at h;exact ar h
   ·
    rw[b] at h
    have r:=Given.plain D rfl
    exact ae (bf (ct j (u m H L 0 o U Z F O J s A _ g j B h) λvo M w G s1 co g1 f N z=>ae (cD (ae (bf (ao (DM (rK X b) f N (r.mono g1.ext.le g1.jo) z) (λG5 s3 S=>aG S λy g3 q=>tE ⟨M,w,y,Z,(g1.trans g3).pure,(g.gb g1).gb g3,q⟩) λa a e=>e))))))
  |_=>exact ar h
end
section
variable {C:Cfg} {F:FZ} {O:List bz} {J:aZ} {A:bU} {s:aN} {ℓ:Nat} {tt:Bool} {g:aZ->Prop}
theorem uT (b:∀a,v≠.ref a):aD (aI C.prog C.w) A (dS (.Tuple es k pos) (.ref it) v) (λ_ u=>u=s) a_ s:=by
 induction v using cK<;>first|exact au rfl|exact absurd rfl (b _)
theorem DA (c:s.heap.get? it=some o) (d:o.cls= .type T) (f:o.data= .fields vs)
  (h:(["enumerate","zip","dict_itemiterator","dict_reverseitemiterator","odict_iterator","itertools.zip_longest","itertools.pairwise"].contains T)=false):
  aD (aI C.prog C.w) A (dS (.Tuple es k pos) (.ref it) v) (λ_ u=>u=s) a_ s:=by
 by_cases b:∃a,v= .ref a
 ·refine bA b λT'=>ae (oj c (af d (af f ?_)))
  show aD _ A (if (["enumerate","zip","dict_itemiterator","dict_reverseitemiterator","odict_iterator","itertools.zip_longest","itertools.pairwise"].contains T&&vs[0]?==some (rawInt T'))=true then _ else _) _ _ s
  exact af h (au rfl)
 ·exact uT λa e=>b ⟨a,e⟩
theorem f_.by {K:Nat->FZ->List bz->aN->Prop} (nil:∀F O s,K items.length F O s->f_ C ℓ A tt it W g [] F O s)
  (cons:∀i c cs F O s,items[i]?=some c->K i F O s->(∀F O s,K (i+1) F O s->f_ C ℓ A tt it W g cs F O s)->f_ C ℓ A tt it W g (c::cs) F O s) {F O s} (k:K 0 F O s):f_ C ℓ A tt it W g items F O s:=by
 have h:∀cs pre,pre++cs=items->∀F O s,K pre.length F O s->f_ C ℓ A tt it W g cs F O s:=λcs=>by
  induction cs with
  |nil=>exact λpre e F O s k=>nil F O s (e▸(bK pre).symm▸k)
  |cons c cs a=>exact λpre e F O s k=>cons _ c cs F O s (e▸(be (ai _)).trans (dw _▸rfl)) k λF O s k=>a (pre++[c]) (aM ..▸e) F O s (ax▸k)
 exact h items [] rfl F O s k
theorem f_.plain {St:Nat->kT->Prop} (H:bQ ℓ A->∀i h f,St i h->(∀o,h.get? it=some o->f.get? it=some o)->St i f)
  (z:∀F' aH aO u Q E,bQ ℓ A->Nw C F' aH aO u->jp F F'->ny O aH->g aO->St items.length u.heap->
   (∀f l,qu it u.heap f->Q none {u with heap:=f,toks:=l})->aD (aI C.prog C.w) A (pyNext (.ref it)) Q E u)
  (step:∀i c F' aH aO u Q E,items[i]?=some c->bQ ℓ A->Nw C F' aH aO u->jp F F'->ny O aH->g aO->St i u.heap->
   (∀v f l,Rep F' aH c v->(∀es k pos A s,s.heap=f->aD (aI C.prog C.w) A (dS (.Tuple es k pos) (.ref it) v) (λ_ u=>u=s) a_ s)->St (i+1) f->qu it u.heap f->Q (some v) {u with heap:=f,toks:=l})->
   aD (aI C.prog C.w) A (pyNext (.ref it)) Q E u) (M:St 0 s.heap):f_ C ℓ A tt (.ref it) ⟨[it],[]⟩ g items F O s:=
 have I:∀{b},b∉[it]->b≠it:=λh e=>h (e▸az)
 f_.by (W:=⟨[it],[]⟩) (K:=λi j d s=>jp F j/\ny O d/\St i s.heap)
  (λj d s k F' aH aO u m n t x y B a D=>gF (z F' aH aO u _ _ m n (k.1.trans x) (λi a e=>y i a (k.2.1 i a e)) D (H m _ _ _ k.2.2 (B it az)) λf l kp q=>⟨rfl,.sM n (λb o G=>kp b o (I G)) q.1 t q.2⟩))
  (λi c cs j d s e k N F' aH aO u m n t x y B a D=>by
   refine letQ ?_;intro R;refine gF (step i c F' aH aO u _ _ e m n (k.1.trans x) (λi a e=>y i a (k.2.1 i a e)) D (H m _ _ _ k.2.2 (B it az)) λv f l r P st kp q=>?_)
   have L:=Go.sM n (λb o G=>kp b o (I G)) q.1 t q.2
   exact .mk v F' _ L (.refl _ _) (t.go L) (.val r (λes k pos A=>P es k pos A _ rfl) (N F' aH _ (fg (k.1.trans x) (λi a e=>y i a (k.2.1 i a e)) st))))
  (fg (.refl F) (.refl _) M)
theorem f_.ofWalks {St} (W:∀A,bQ ℓ A->Walks C.prog C.w A it [it] [it] n x St) {items} (m:items.length=n)
  (r:∀i v c,x i v->items[i]?=some c->(∀F O,Rep F O c v)/\∀a,v≠.ref a):St 0 s.heap->f_ C ℓ A tt (.ref it) ⟨[it],[]⟩ g items F O s:=
 have t:∀{b},b≠it->b∉[it]:=λh e=>h (bl.mp e)
 .plain (λd i h f st k=>(W A d).frame i h f st λb j=>bl.mp j▸k)
  (λa a a u Q E d a a a a st q=>(W A d).done u Q _ (m▸st) λf l k=>q f l λb o j=>k b o (t j))
  λi c F' aH a u Q E e d a a a a st q=>(W A d).item i u Q _ (m▸(aj.mp e).1) st λv f l p st k=>q v f l ((r i v c p e).1 _ _) (λa a a a a a=>uT (r i v c p e).2) st λb o j=>k b o (t j)
theorem f_.list (b:∀F' aH aO u,jp F F'->ny O aH->Nw C F' aH aO u->g aO->∃vs,u.heap.IsList a vs/\bM F' aH items vs.toList):
  s.heap.IsListIter it a 0->f_ C ℓ A tt (.ref it) ⟨[it],[]⟩ g items F O s:=
 .plain (St:=λi h=>h.IsListIter it a i) (λa i h j st=>st.at)
  (λF' aH aO u Q E x l m n t st q=>aG (b F' aH aO u m n l t) λvs w r=>vO x.handled st w (vB (dW r.size)) λj=>q j _)
  λi c F' aH aO u Q E e x l m n t st q=>aG (b F' aH aO u m n l t) λvs w r=>aG (r.at_ e) λv y z=>vf st w y λj f B=>q v j _ z (λes k pos A s e=>oH f λo D G d=>DA (e▸D) G d (by decide)) f B.extBut
theorem f_.tuple (b:∀F' aH aO u,jp F F'->ny O aH->Nw C F' aH aO u->∃vs,u.heap.IsTuple a vs/\bM F' aH items vs.toList) (x:s.heap.IsTupleIter it a 0):f_ C ℓ A tt (.ref it) ⟨[it],[]⟩ g items F O s:=
 .plain (St:=λi h=>h.IsTupleIter it a i) (λa i h j st k=>aG st λo e q=>aP o (k o e) q)
  (λF' aH aO u Q E w l m n y st q=>aG (b F' aH aO u m n l) λvs t r=>wpAny_pyNext_tuple_end w.handled st t (vB (dW r.size)) λj=>q j _)
  (λi c F' aH aO u Q E e w l m n y st q=>aG (b F' aH aO u m n l) λvs t r=>aG (r.at_ e) λv z B=>wpAny_pyNext_tuple_item st t z λj f D=>q v j _ B (λes k pos A s e=>oH f λo G H d=>DA (e▸G) H d (by decide)) f D.extBut) x
theorem f_.dict (b:∀F' aH aO u,jp F F'->ny O aH->Nw C F' aH aO u->g aO->∃d,u.heap.DictAt (nN C.prog C.w) a d B/\ew F' aH items d):
  s.heap.IsKeyIter it a 0 items.length B->f_ C ℓ A tt (.ref it) ⟨[it],[]⟩ g (items.map λp=>CV.str p.1) F O s:=
 .plain (St:=λi h=>h.IsKeyIter it a i items.length B) (λa i h j st=>st.at)
  (λF' aH aO u Q E D l m n o st q=>aG (b F' aH aO u m n l o) λvs x r=>wpAny_pyNext_dict_end D.handled (r.length▸st) x (eN (by rw[r.length,aC];exact ai _)) λj=>q j _)
  λi c F' aH aO u Q E e D l m n o st q=>aG (b F' aH aO u m n l o) λvs x r=>by
   refine aG (eE.mp (dh▸e)) λp e2 y=>?_;subst y
   exact aG (r.get e2) λv G L=>wpAny_pyNext_dict_item (r.length▸st) x G λH j f z I=>bA (yb f) λt=>q _ j _ (ez.mpr ⟨_,rfl⟩) (λes k pos A s e=>uT λa e=>nomatch e) (r.length▸z) I.extBut
inductive jr C ℓ A tt F O J s g l it u:Prop where
 |mk F' W:Go C .no F O s F' O J u->Iter C ℓ A tt it W g l F' O u->(∀a∈W.a,s.heap.objs.size<=a)->(∀i∈W.g,s.gens[i]?=none)->jr C ℓ A tt F O J s g l it u
theorem Apart.new (b:Nw C F O J s) {o} {d} (e:(s.heap.push o).get? s.heap.objs.size=some o):Apart C ⟨[s.heap.objs.size],[]⟩ F O {s with heap:=s.heap.push o,toks:=d}:=λa c=>by
 simp at c;subst c
 exact(iJ b.fz.j_ (λh=>bG _ (b.base.lt _ h)) (λh=>bG _ (b.dj.fr _ h).2.2) (aU e))
theorem jr.new (c:Nw C F O J s) {o} {l} (d:(s.heap.push o).get? s.heap.objs.size=some o) (h:f_ C ℓ A tt (.ref s.heap.objs.size) ⟨[s.heap.objs.size],[]⟩ g l F O {s with heap:=s.heap.push o})
  (f:∀A u,u.heap.get? s.heap.objs.size=some o->aD (aI C.prog C.w) A (kf (.ref s.heap.objs.size)) (λv b=>v= .ref s.heap.objs.size/\b=u) a_ u):
  jr C ℓ A tt F O J s g l (.ref s.heap.objs.size) {s with heap:=s.heap.push o}:=
 ⟨F,_,.qC c o,(fg h (.new c d) (λA u i=>f A u (i _ (by simp) _ d))),λa e=>by simp at e;subst e;exact ai _,λa=>bw⟩
theorem Fd (x:bD) (i:Nat) c (h:(x.cps.toList.map λc=>CV.str ⟨#[c]⟩)[i]?=some c):∃k,x.cps[i]?=some k/\CV.str ⟨#[k]⟩=c:=
 eE.mp (hV▸dh▸h)
theorem Xy (f:Nw C F O J s) {x} {t}:aD (aI C.prog C.w) A (kf (.str x t)) (jr C ℓ A tt F O J s g (x.cps.toList.map λc=> .str ⟨#[c]⟩)) a_ s:=by
 have h:∀i v c,(∃c j,x.cps[i]?=some c/\v= .str ⟨#[c]⟩ j)->(x.cps.toList.map λc=>CV.str ⟨#[c]⟩)[i]?=some c->(∀F O,Rep F O c v)/\∀a,v≠.ref a:=λi v c n q=>Kt n λk j r=>nQ (Fd x i c q) λk' y=>af (ab (r.symm.trans y)) ⟨λF O=>ez.mpr ⟨_,rfl⟩,λa e=>nomatch e⟩
 have l:(x.cps.toList.map λc=>CV.str ⟨#[c]⟩).length=x.cps.size:=aC _
 have b:=λo=>aT s.heap (o:=o)
 induction m:x.cps.all (· <128) using cB
 ·exact wpAny_pyIter_wide m (jr.new f (b _ rfl) (f_.ofWalks (λA d=>Walks.strWide d.handled _ x t) l h (eJ _ (b _ rfl) rfl rfl)) λA u e=>wpAny_pyIter_striter_wide (eJ _ e rfl rfl) ⟨rfl,rfl⟩)
 ·exact wpAny_pyIter_ascii m (jr.new f (b _ rfl) (f_.ofWalks (λA d=>Walks.strAscii d.handled _ x t) l h (eJ _ (b _ rfl) rfl rfl)) λA u e=>wpAny_pyIter_striter_ascii (eJ _ e rfl rfl) ⟨rfl,rfl⟩)
theorem Ge (c:Nw C F O J s) {l} (d:s.heap.IsList a vs) (b:∀F' aH aO u,jp F F'->ny O aH->Nw C F' aH aO u->g aO->∃vs,u.heap.IsList a vs/\bM F' aH l vs.toList):
  aD (aI C.prog C.w) A (kf (.ref a)) (jr C ℓ A tt F O J s g l) a_ s:=
 te d (jr.new c (aT _ rfl) (f_.list b (eJ _ (aT _ rfl) rfl rfl)) λA u e=>wpAny_pyIter_listiter (eJ _ e rfl rfl) ⟨rfl,rfl⟩)
theorem abS (h:eC J (.own k)= .lst l):J[k]?=some (.list l):=
 have h:(match J[k]? with|some (.list l)=>CV.lst l|some (.dict l)=> .gx l|_=> .own k)= .lst l:=h
 agW J[k]? (λm e=>by
  rw[e] at h ⊢
  induction m using MO.casesOn<;>first|exact CV.noConfusion h|exact CV.noConfusion h (· ▸rfl)) λe=>CV.noConfusion (e▸h)
theorem OP (f:Nw C F O J s) (r:Rep F O c v) (h:sS J c=some l):aD (aI C.prog C.w) A (kf v) (jr C ℓ A tt F O J s (uF J c) l) a_ s:=by
 induction c using CV.casesOn with
 |own k=>
  refine nt ?_;intro W;refine xn r λa L=>?_
  have B:J[k]?=some (.list l):=by
   induction e:J[k]? using cO with
   |none=>rw[sS,e] at h;exact aW h
   |some m=>induction m using MO.casesOn<;>(rw[sS,e] at h;first|exact aW h|exact ab h▸rfl)
  exact aG (f.dj.at_ k a _ L B) λvs p a=>Ge f p.isList λF' aH aO u q j d y=>aG (d.dj.at_ k _ _ (j _ _ L) (abS (y.trans (by rw[eC,B])))) λi p D=>aP i p.isList D
 |lst M=>
  obtain rfl:=ab h
  refine cz (LV.of f.fz r) λa vs z B G=>?_;subst z
  exact Ge f B.isList λF' aH aO u q j d y=>cz (LV.of d.fz (r.mono q j)) λb i e p D=>aP i (yE e▸p.isList) D
 |tup M=>
  obtain rfl:=ab h
  refine cz (TV.of f.fz r) λa vs z B G=>?_;subst z
  exact zr B (jr.new f (aT _ rfl) (f_.tuple (λF' aH aO u q j d=>cz (TV.of d.fz (r.mono q j)) λb i e p D=>aP i (yE e▸p) D) (eJ _ (aT _ rfl) rfl rfl)) λA u e=>wpAny_pyIter_tupleiter (eJ _ e rfl rfl) ⟨rfl,rfl⟩)
 |str x=>
  exact eh (ab h) (bA r λt=>Xy f)
 |gx M=>
  obtain rfl:=ab h
  obtain⟨a,o,H,rfl,j,⟨E,N⟩,G⟩:=r
  rw[f.top.pr,f.top.w] at N
  refine Pq (id N) λes X P Q R S T=>wpAny_pyIter_dict E (UD o es (f.fz _ _ j) P Q R S T) (jr.new f (aT _ rfl) (f_.dict (λF' aH aO u q I d y=>?_) (eh (motive:=λn=>Heap.IsKeyIter _ _ _ 0 n _) G.length (eJ _ (aT _ rfl) rfl rfl))) λA u e=>wpAny_pyIter_keyiter (eJ _ e rfl rfl) ⟨rfl,rfl⟩)
  exact(aP H (UD o es (d.fz _ _ (q.2 _ _ j)) P Q R S T) (G.mono q I))
 |_=>exact aW h
end
section
variable {C:Cfg} {F:FZ} {O:List bz} {J:aZ} {A:bU} {s:aN} {ℓ:Nat} {g:aZ->Prop}
theorem f_.Jt {St} (W:∀A,bQ ℓ A->WalksT C.prog C.w A z fp wr n Pt St a6) (t:∀b∈wr,b∈G) (Y:∀b∈fp,b∈G\/∃o,F.f b=some o) {items} (hn:items.length=n)
  (hP:∀i h c F' aH,jp F F'->ny O aH->Pt i h->items[i]?=some c->∃l,c= .tup l/\bM F' aH l h.toList) (Z:Fz F s.heap) (h0:St 0 s.heap):
  f_ C ℓ A true (.ref z) ⟨G,[]⟩ g items F O s:=
 have fr:∀{i d F' aH} {s u:aN} {aO},bQ ℓ A->Nw C F' aH aO u->jp F d->jp d F'->Fz F s.heap->(∀a∈G,∀o,s.heap.get? a=some o->u.heap.get? a=some o)->St i s.heap->St i u.heap:=λv m h1 h2 fz H st=>
  (W A v).frame _ _ _ st λb x o e=>(Y b x).elim (λq=>H b q o e) λ⟨o',q⟩=>ab ((fz b o' q).symm.trans e)▸m.fz b _ (h2.2 _ _ (h1.2 _ _ q))
 f_.by (W:=⟨G,[]⟩) (K:=λi d j s=>jp F d/\ny O j/\Fz F s.heap/\St i s.heap)
  (λd j s k F' aH aO u v m I R ho H a hg=>gF ((W A v).done u _ _ (hn▸fr v m k.1 R k.2.2.1 H k.2.2.2) λh' S kp L=>⟨rfl,.sM m (λb o x=>kp b o (λq=>x (t b q))) L.1 I L.2⟩))
  (λi c cs d j s e k ih F' aH aO u v m I R ho H a hg=>by
   have y:=k.1.trans R
   have M:ny O aH:=λi a e=>ho i a (k.2.1 i a e)
   refine gF ((W A v).item i u _ _ (hn▸(aj.mp e).1) (fr v m k.1 R k.2.2.1 H k.2.2.2) λT h h' S a0 a3 hT N kp L=>?_)
   refine Er (hP i h c F' aH y M a0 e) λl r=>?_
   have X:Go C ⟨G,[]⟩ F' aH u F' aH aO {u with heap:=h',toks:=S}:= .sM m (λb o x=>kp b o (λq=>x (t b q))) L.1 I L.2
   have B:=I.go X
   have no:∀{K},T<u.heap.objs.size->K:=λq=>absurd q (bL.mpr a3)
   refine .mk (.ref T) F' _ X (.refl _ _) B (.tup l T h rfl hT r (λq=>no (I T q).2.2.2) (λq=>no (m.dj.fr T q).2.2) (λq=>no (m.base.lt T q)) λes k pos A' a4=>letQ ?_);intro Q_;refine fZ ((W A' a4).go es k pos i T _ _ _ N λa5 D P Q=>?_)
   have E:Go C ⟨G,[]⟩ F' aH {u with heap:=h',toks:=S} F' aH aO {u with heap:=a5,toks:=S}:= .sM (m.go X) (λb o x=>P b o (λq=>x (t b q))) Q B
   exact fg E (B.go E) (ih _ _ _ (iJ y M (λa o e=>(m.go (X.trans E)).fz a o (y.2 _ _ e)) D)))
  (iJ (.refl F) (.refl _) Z h0)
def u' (C:Cfg) (A:bU) (ℓ:Nat) (tt:Bool) (F:FZ) (O:List bz) (J:aZ) (s:aN) (l:List CV):bq->aN->Prop:=λx u=>
 aD (aI C.prog C.w) A (kf x) (jr C ℓ A tt F O J s (λ_=>True) l) a_ u
theorem u'.of (d:Nw C F O J s) {c} {W:List bz} {l} (n:∀b o,s.heap.get? b=some o->c.get? b=some o) (r:s.heap.objs.size<=c.objs.size) (j:∀a∈W,s.heap.objs.size<=a/\∃o,c.get? a=some o)
  (it:Fz F c->f_ C ℓ A tt (.ref z) ⟨W,[]⟩ (λ_=>True) l F O {s with heap:=c})
  (k:∀A u,(∀a∈W,∀o,c.get? a=some o->u.heap.get? a=some o)->aD (aI C.prog C.w) A (kf (.ref z)) (λv h=>v= .ref z/\h=u) a_ u):u' C A ℓ tt F O J s l (.ref z) {s with heap:=c}:=by
 have m:Go C .no F O s F O J {s with heap:=c}:= .lC d n r
 have t:Apart C ⟨W,[]⟩ F O {s with heap:=c}:=λa i=>fK (j a i) λx y=>
  have no:∀{K},a<s.heap.objs.size->K:=λq=>absurd q (bL.mpr x)
  iJ (oE (F.f a) id λo e=>no (aU (d.fz _ _ e))) (λq=>no (d.base.lt a q)) (λq=>no (d.dj.fr a q).2.2) (eY y λo=>aU)
 refine ao (k A _ λa a a e=>e) (λB u q=>?_) λa a e=>e
 obtain⟨rfl,rfl⟩:=q
 exact⟨F,_,m,fg (it (d.go m).fz) t k,λa i=>(j a i).1,λa=>bw⟩
theorem zipIdx_get (l:List CV) (i:Nat) c (h:(l.zipIdx.map λp=>CV.tup [.int (p.2:Nat),p.1])[i]?=some c):∃d,l[i]?=some d/\c= .tup [.int (i:Nat),d]:=by
 refine aG (eE.mp (dh▸h)) λp e a=>?_;subst a
 refine nQ (eE.mp (List.getElem?_zipIdx.symm.trans e)) λd e2=>?_
 exact aP d e2 (by rw[dJ])
theorem JW (E:Nw C F O J s) {l:List CV} {n G St} (L:∀A:bU,A.handled=none->Draws C.prog C.w A s.heap.objs.size n l.length G St) (r:s.heap.objs.size∈n) (k:∀b∈n,b=s.heap.objs.size\/∃o,F.f b=some o)
  (y:∀i v c F' aH,jp F F'->ny O aH->G i v->l[i]?=some c->Rep F' aH c v) {j} (z:IsEnum j (s.heap.objs.size+1) s.heap.objs.size 0 .none) (B:St 0 j) (lv:∃o,j.get? s.heap.objs.size=some o) (M:j.objs.size=s.heap.objs.size+2)
  (D:∀b o,s.heap.get? b=some o->j.get? b=some o):u' C A ℓ true F O J s (l.zipIdx.map λp=> .tup [.int (p.2:Nat),p.1]) (.ref (s.heap.objs.size+1)) {s with heap:=j}:=by
 have H:s.heap.objs.size+1≠s.heap.objs.size:=CY _
 refine u'.of E (W:=[s.heap.objs.size+1,s.heap.objs.size]) D (zT zP (zE M.symm)) (λa N=>?_)
  (λfz=> .Jt (λA P=>Bt (L A.in1 P.handled) _ H (λq=>(k _ q).elim H λ⟨o,e⟩=>bG _ (jK (aU (E.fz _ _ e)))) r) (λb m=>m) (λb m=>((aE.mp m).elim (λe=> .inl (e▸az)) λm=>(k b m).imp (λe=>by exact af e (aB _ az)) id)) (by rw[aC,zF])
   (λi I c F' aH Q R S T=>?_) fz ⟨⟨.none,z⟩,B⟩) λA u D=>Bn (D _ az _ z) ⟨rfl,rfl⟩
 ·rcases aE.mp N with rfl|h
  ·exact⟨aQ _,_,z⟩
  ·exact af (bl.mp h) ⟨ai _,lv⟩
 ·exact Kt S λt x X=>xn (zipIdx_get l i c T) λd Y=>aP _ rfl (.cons (cw.mpr ⟨t,rfl⟩) (.single (y i x d F' aH Q R X Y)))
theorem GK (b:A.handled=none) a x t:Draws C.prog C.w A a [a] (x.cps.toList.map λc=>CV.str ⟨#[c]⟩).length (λi v=>∃c d,x.cps[i]?=some c/\v= .str ⟨#[c]⟩ d) (λi h=>h.IsStrIter a (strIterType x) x t i):=by
 refine af (aC _:_=x.cps.size) ?_
 unfold strIterType
 induction x.cps.all (· <128) using cB
 ·exact Draws.strWide b _ x t
 ·exact Draws.strAscii b _ x t
theorem NC {x:bD} {i:Nat} (b:∃c a,x.cps[i]?=some c/\v= .str ⟨#[c]⟩ a) (d:(x.cps.toList.map λc=>CV.str ⟨#[c]⟩)[i]?=some c):Rep F O c v:=Kt b λk a e=>nQ (Fd x i c d) λk' f=>af (ab (e.symm.trans f)) (ez.mpr ⟨_,rfl⟩)
theorem CE (j:Nw C F O J s) {c} {v} {l} (r:Rep F O c v) (h:ZM c=some l):
  aD (aI C.prog C.w) A (call (.type "enumerate") [v]) (u' C A ℓ true F O J s (l.zipIdx.map λp=> .tup [.int (p.2:Nat),p.1])) a_ s:=by
 induction c using CV.casesOn with
 |lst H=>
  obtain rfl:=ab h
  exact Kr r λa o vs f q r=>call_enumerate_list (aP o (j.fz _ _ f) q.seq) λB m d n k=>JW j (λA u=>eh r.size (Draws.list u _ a (bj (aU (j.fz _ _ f))) vs)) az
   (λb y=>(aE.mp y).imp id λh=>OW o (by exact af (bl.mp h) f)) (λi v c F' aH D E z G=>aG (r.at_ G) λI e q=>ab (e.symm.trans z)▸q.mono D E) m ⟨d,aP o (k _ _ (j.fz _ _ f)) q.seq⟩ (aG d λo e a=>OW o e) n k
 |str x=>
  obtain rfl:=ab h
  exact bA r λt=>zu λB m d n k=>JW j (λA u=>GK u _ x t) az (λb y=> .inl (bl.mp y)) (λi v c F' aH a a z=>NC z) m d (aG d λo e a=>OW o e) n k
 |_=>exact aW h
theorem zip_get (l b:List CV) (i:Nat) c (h:((l.zip b).map λp=>CV.tup [p.1,p.2])[i]?=some c):∃d f,l[i]?=some d/\b[i]?=some f/\c= .tup [d,f]:=by
 refine aG (eE.mp (dh▸h)) λp e a=>?_;subst a
 have e:=sy.mp e
 exact eA _ _ e.1 e.2 rfl
theorem Ed (h:Nw C F O J s) {l G} (r:Rep F O (.lst l) v) (B:Rep F O (.lst G) X):
  aD (aI C.prog C.w) A (call (.type "zip") [v,X]) (u' C A ℓ true F O J s ((l.zip G).map λp=> .tup [p.1,p.2])) a_ s:=by
 refine letQ ?_;intro Q_;refine Kr r λa o vs f q r=>Kr B λL M n D N B=>?_
 have P:s.heap.IsList a vs:=aP o (h.fz _ _ f) q.seq
 have t:s.heap.IsList L n:=aP M (h.fz _ _ D) N.seq
 refine call_zip_2 P t λh' E j k H I hsz m=>u'.of h (W:=[s.heap.objs.size+4,s.heap.objs.size+2,s.heap.objs.size+3,s.heap.objs.size,s.heap.objs.size+1]) m (zT zP (zE hsz.symm)) (λa Q=>?_)
  (λfz=> .Jt (λA Y=>WalksT.zip2 Y.handled _ _ _ _ _ a L (zipApart_new (aU (h.fz _ _ f)) (aU (h.fz _ _ D))) vs n) (λb z=>?_) (λb z=>?_) (by rw[aC,Em,r.size,B.size]) (λi R c F' aH S T Z hc=>(Ks Z λx y q1 q2=>Ks (zip_get l G i c hc) λd d' e1 e2=>aP _ rfl (.cons (aG (r.at_ e1) λv e q=>ab (e.symm.trans q1)▸q.mono S T) (.single (aG (B.at_ e2) λv e q=>ab (e.symm.trans q2)▸q.mono S T))))) fz
   (abi E j (sT _ _ k) H I (aP o (m _ _ (h.fz _ _ f)) q.seq) (aP M (m _ _ (h.fz _ _ D)) N.seq))) λA u m=>wpAny_pyIter_zip (m _ az _ E) ⟨rfl,rfl⟩
 ·simp at Q
  rcases Q with rfl|rfl|rfl|rfl|rfl
  ·exact⟨zP,_,E⟩
  ·exact⟨zP,_,j⟩
  ·exact⟨zP,_,k⟩
  ·exact⟨zR,aG H λo e a=>OW o e⟩
  ·exact⟨zP,aG I λo e a=>OW o e⟩
 ·simp at z ⊢
  rcases z with rfl|rfl|rfl|rfl<;>simp
 ·simp at z ⊢
  clear fz m hsz I H k j E t P;rcases z with rfl|rfl|rfl|rfl|rfl|rfl|rfl<;>simp[f,D]
end
section
variable {M:Model} {A:bU} {E:bq->aN->Prop} {s:aN} {U:pB}
theorem Ic (d:args.any (·.1)=false) (j:c.all (·.1.isSome)=true)
  (h:aD M A (spliced args) (λvs dm=>aD M A (evalAll (c.map (·.2))) (λg i=>Q ⟨vs,(c.filterMap (·.1)).zip g⟩ i) E dm) E s):aD M A (evalArgs f true args c) Q E s:=by
 have k:∀pos dm,aD M A (evalAll (c.map (·.2))) (λg=>Q ⟨pos,(c.filterMap (·.1)).zip g⟩) E dm->
   aD M A (evalAll (c.map (·.2))>>=λg=>pure pos>>=λp=>pure ⟨p,(c.filterMap (·.1)).zip g⟩) Q E dm:=λpos dm l=>
  ae (ao l (λg i m=>ae (au (au m))) λa a e=>e)
 rcases args with a|⟨⟨b,x⟩,a|⟨y,r⟩⟩
 ·refine ae (ao h (λvs u n=>bf (nt ?_)) λa a e=>e);intro q;exact af (if_pos j) (k vs u n)
 ·have o:=by simpa using d
  subst o
  refine nt ?_;intro q;exact ae (ao h (λvs u n=>bf (af (if_pos j) (k vs u n))) λa a e=>e)
 ·have o:b=false:=by induction b using cB<;>simp at d ⊢
  clear d;subst o
  exact ae (ao h (λvs u n=>bf (af (if_pos j) (k vs u n))) λa a e=>e)
theorem yy (i:args.any (·.1)=false) (j:c.all (·.1.isSome)=true)
  (h:aD M A (spliced args) (λvs dm=>aD M A (evalAll (c.map (·.2))) (λn d=>
   aD M A (qt f) (λ_ l=>aD M A (call f (first++vs) ((c.filterMap (·.1)).zip n)) Q E l) E d) E dm) E s):
  aD M A (callWith pos f first args c) Q E s:=by
 refine ae (bf (ao (Ic (Q:=λa d=>aD M A (qt f) (λb=>aD M A (call f (first++a.pos) a.kw) Q E) E d) i j h) (λa dm m=>ae (cD ?_)) λa a x=>x))
 have o:(c.any (·.1.isNone))=false:=by
  rw[tr]
  intro x u
  have:=aV.mp j x u
  induction q:x.1 using cO with
  |none=>rw[q] at this;exact bV this
  |some y=>simp
 rw[i,o,Bool.or_false]
 refine ae (ao m (λk d e=>?_) λa a x=>x)
 have g:∀{t},aD M A t Q E d->aD M A (t>>=λr=>xT [r] point>>=λa=>pure r) Q E d:=
  λv=>ae (ao v (λr d w=>ae (bf (wpAny_point (au w)))) λa a x=>x)
 cases k
 ·dsimp only
  split
  ·exact g e
  ·exact g (wpAny_keep e)
 ·dsimp only
  split
  ·exact g e
  ·exact g (wpAny_keep e)
 ·exact g e
 ·exact g (vI e)
theorem y' (b:s.heap.get? a=some o) (c:o.data= .func d) (h:Q .frame s):aD M A (qt (.ref a)) Q E s:=ae (oj b (af c au h))
theorem Callee.fn (h:C.K f=some o) (b:o.data= .func e):Callee C f:=
 λa a a c d=>y' (c f o h) b (d _)
theorem eW (b:∀a,f≠.ref a) (h:Q .machine s):aD M A (qt f) Q E s:=by
 induction f using cK<;>first|exact au h|exact absurd rfl (b _)
theorem BR {es} {pos} (h:es.all bR=true):(backTo pos (lq es U)).any (·.1)=false:=by
 induction es with
 |nil=>rfl
 |cons e es a=>
  refine af (tR (aL h)) ?_
  simpa [backTo] using a (aR h)
theorem ir {id} (g:args.all bR=true)
 (h:aD M A (gW (.Name id p) U) (λf dm=>aD M A (spliced (backTo pos (lq args U))) (λvs b=>aD M A (qt f) (λ_ c=>aD M A (call f vs) Q E c) E b) E dm) E s):
 aD M A (gW (.Call (.Name id p) args [] pos) U) Q E s:=wpAny_Call_NameR (ao h (λf dm d=>yy (BR g) rfl (ao d (λvs b e=>au e) λa a x=>x)) λa a x=>x)
end
section
variable {C:Cfg} {F:FZ} {O:List bz} {J:aZ} {A:bU} {s:aN} {ℓ:Nat} {tt:Bool} {g:aZ->Prop}
theorem OR (f:Nw C F O J s) {r} {a b} {t h v} (j:IsRange s.heap r a b 1 t h v) (l: -1000000<a) (m:a<1000000) (n: -1000000<b) (o:b<1000000):
  aD (aI C.prog C.w) A (kf (.ref r)) (jr C ℓ A tt F O J s g ((bc (b-a).toNat).map λk=> .int (a+(k:Nat)))) a_ s:=by
 refine wpAny_pyIter_range j (small_one (gS (by decide) (iY l)) (pn m (by decide)) (gS (by decide) (iY n)) (pn o (by decide))) (jr.new f (aT _ rfl) (f_.ofWalks (λA q=>Walks.range q.handled _ a 1 (b-a).toNat) (by rw[aC,jL]) (λi v c x y=>?_) ?_) λA u e=>wpAny_pyIter_rangeiter e ⟨rfl,rfl⟩)
 ·refine bA x λt=>aG (eE.mp (dh▸y)) λk e d=>?_;subst d
  refine TP (aj.mp e) λz=>?_
  exact⟨λF O=>cw.mpr ⟨t,by rw[sh,QK]⟩,λa e=>nomatch e⟩
 ·exact af (MR a:a+(0:Nat)*1=a) (af (by rw[rangeSize_one];split<;>grind-abstractProof only:Km a b 1=(b-a).toNat-(0:Int)) (aT _ rfl))
theorem aas:∀{xs},numsOf cs=some xs->cs=xs.map .int:=by
 induction cs with
 |nil=>exact λh=>ab h▸rfl
 |cons c cs b=>
  intro xs h
  refine Ks (uJ h) λa e d has=>af (b has) (af (Ct d) ?_);rfl
theorem Wj (h:small i=true): -1000000<i/\i<1000000:=by
 have h:=aq.mp h
 exact⟨of_decide_eq_true h.1,of_decide_eq_true h.2⟩
theorem AZ (y:Nw C F O J s) {cs} {vs} {l} (r:bM F O cs vs) (z:tU cs=true) (d:pX cs=some l):
  aD (aI C.prog C.w) A (call (.type "range") vs) (u' C A ℓ tt F O J s l) a_ s:=by
 have f:∀o j a b t m v,s.toks<=j->o={cls:= .type "range",data:= .fields #[.int a t,.int b m,.int 1 v]}-> -1000000<a/\a<1000000-> -1000000<b/\b<1000000->((bc (b-a).toNat).map λk=>CV.int (a+(k:Nat)))=l->
   u' C A ℓ tt F O J s l (.ref s.heap.objs.size) {s with heap:=s.heap.push o,toks:=j}:=λo j a b t m v S E B qb G=>by
  subst E G
  have q:Go C .no F O s F O J {s with heap:=s.heap.push {cls:= .type "range",data:= .fields #[.int a t,.int b m,.int 1 v]},toks:=j}:= .qC y _
  refine ao (OR (ℓ:=ℓ) (tt:=tt) (g:=λa=>True) (y.go q) (IsRange.new s.heap a b 1 t m v) B.1 B.2 qb.1 qb.2) (λit u h=>?_) λa a e=>e
  obtain⟨F',W,H,I,L,M⟩:=h
  exact⟨F',W,q.trans H,I,λa N=>ag q.ext.size (L a N),λi=>M i⟩
 induction n:numsOf cs using cO with
 |none=>rw[pX,n] at d;exact aW d
 |some xs=>
  obtain rfl:=aas n
  rw[pX,n] at d
  rw[tU,n] at z
  have sm:=λx P=>Wj (aV.mp z x P)
  induction xs using cL with
  |nil=>exact aW d
  |cons a xs=>
   refine sF r λv T Q r=>letQ ?_;intro X;refine bA (cw.mp Q) λt=>?_
   have D:=sm a az
   induction xs using cL with
   |nil=>
    obtain rfl:=r
    exact call_range_1 (f _ _ 0 _ _ _ _ (ba _ 2) rfl (by decide) D (ab d))
   |cons b xs=>
    refine sF r λY Z R r=>bA (cw.mp R) λt2=>?_
    induction xs using cL with
    |nil=>
     obtain rfl:=r
     exact call_range_2 (f _ _ _ _ _ _ _ (aQ _) rfl D (sm b (aB _ az)) (ab d))
    |cons c xs=>exact aW d
end
section
variable {C:Cfg} {R:Rd} {P:cZ} {ℓ n:Nat} {H:gq} {L d:Nat} {U:pB} {Z:bk} {F:FZ} {O:List bz} {J:aZ} {s:aN} {A:bU} {m:Nat}
def Vk (C:Cfg) (A:bU) (ℓ:Nat) (tt:Bool) (F:FZ) (O:List bz) (s:aN) (Q:List CV->(aZ->Prop)->aZ->Prop):bq->aN->Prop:=λx dm=>
 aD (aI C.prog C.w) A (kf x) (λit e=>∃f b c l g W,Go C .no F O s f b c e/\Iter C ℓ A tt it W g l f b e/\(∀a∈W.a,s.heap.objs.size<=a)/\(∀i∈W.g,s.gens[i]?=none)/\Q l g c) a_ dm
theorem Gq {X:Wr} (g:Go C .no F O s F' aH aO u) {i:Nat} (h:u.gens[i]?=none):s.gens[i]?=none:=by
 induction e:s.gens[i]? using cO with
 |none=>rfl
 |some x=>
  exact aW ((g.ext.gens i x (by simp) e).symm.trans h).symm
theorem jr.to {Q:List CV->(aZ->Prop)->aZ->Prop} (j:Go C .no F O s F' aH aO u) (h:jr C ℓ A tt F' aH aO u g l it f) (q:Q l g aO):
  ∃b c e l g W,Go C .no F O s b c e f/\Iter C ℓ A tt it W g l b c f/\(∀a∈W.a,s.heap.objs.size<=a)/\(∀i∈W.g,s.gens[i]?=none)/\Q l g e:=by
 obtain⟨b,W,o,k,r,t⟩:=h
 exact(UC b aH aO l g W (j.trans o) k (λa v=>ag j.ext.size (r a v)) (λi k=>Gq (X:= .no) j (t i k)) q)
theorem qG (hR:ef C R) (hP:oZ C R ℓ P):∀n,(∀k,k<=n->fO C R ℓ P k)->∀m H L e U Z F O J s A Q D,
  bT C H L U Z F O s.heap->Nw C F O J s->bQ (m+ℓ) A->cI R n H L e=D->pE (aw P m) P Z J D Q->aD (aI C.prog C.w) A (gW e U) (Vk C A ℓ (rC D) F O s Q) a_ s:=by
 intro n hE m H L e U Z F O J s A Q D Y E hA j h
 induction n using cN with
 |zero=>
  subst j
  induction m using cN<;>exact ar h
 |succ n=>
 have G:=hE n (aQ n)
 have j:(adv R (cE R n) H L e).getD (.val (cE R n H L 0 e))=D:=j
 induction t:adv R (cE R n) H L e using cO with
 |none=>
  rw[t] at j
  subst j
  exact ct E (G m H L 0 e U Z F O J s A _ Y E hA h) λv F' aH aO u c g f r q=>aG q λl h1 I=>ao (OP f r h1) (λit z y=>jr.to g y I) λa a e=>e
 |some a0=>
 rw[t] at j
 obtain rfl:a0=D:=j
 refine afV (adu R (cE R n) H L t) λx args p p' v a3 hG hk hv=>?_;subst a3
 have ld:args.all bR=true->∀{K} {Q},qW (aw P m) Z (args.map (cE R n H L 0)) J K->(∀vs u F' aH aO cs,Go C .no F O s F' aH aO u->Nw C F' aH aO u->bM F' aH cs vs->K cs aO->
   aD (aI C.prog C.w) A (qt v) (λa M=>aD (aI C.prog C.w) A (call v vs) Q a_ M) a_ u)->aD (aI C.prog C.w) A (gW (.Call (.Name x p) args [] p') U) Q a_ s:=λt {K Q} h k=>
  ir t (kA hR Y E hk hG (hR.Lk hG) (ao (oB G hA p' args F O J s _ Y E t h) (λvs u h'=>by
   obtain⟨F',aH,aO,cs,g,r,q⟩:=h'
   exact k vs u F' aH aO cs g (E.go g) r q) λa a e=>e))
 clear t
 clear hG j;induction hv with
 |range as t=>
  refine letQ ?_;intro N;exact ld t h λvs u F' aH aO cs g f r q=>eW (λa e=>nomatch e) (ao (AZ (tt:=false) f r q.1 q.2.choose_spec.1) (λx z B=>ao B (λit s3 y=>jr.to g y q.2.choose_spec.2) λa a e=>e) λa a e=>e)
 |sU a t=>
  refine letQ ?_;intro N;exact ld (by refine af lH (af t ?_);rfl) (K:=λcs J=>one cs λc=>∃l,ZM c=some l/\Q (l.zipIdx.map λ(p:CV×Nat)=>CV.tup [.int (p.2:Nat),p.1]) (λa=>True) J) h λvs u F' aH aO cs g f r q=>by
   refine cps λK_ k_=>?_
   obtain⟨c,rfl,l,h1,I⟩:=Jr q
   obtain⟨v,vr,rfl,r,rfl⟩:=r
   refine k_ (oV ?_);intro N s_;exact eW (λa e=>nomatch e) (ao (CE f r h1) (λx z B=>ao B (λit s3 y=>jr.to g y I) λa a e=>e) λa a e=>e)
 |zip a b t a4=>
  refine letQ ?_;intro N;exact ld (by refine af lH (af lH (af t (af a4 ?_)));rfl) (K:=λcs J=>∃l l',cs=[.lst l,.lst l']/\Q ((l.zip l').map λ(p:CV×CV)=>CV.tup [p.1,p.2]) (λa=>True) J) h λvs u F' aH aO cs g f r q=>by
   obtain⟨l,l',rfl,q⟩:=q
   obtain⟨v,vr,rfl,r,v',a5,rfl,r',rfl⟩:=r
   exact eW (λa e=>nomatch e) (ao (Ed f r r') (λx z B=>ao B (λit s3 y=>jr.to g y q) λa a e=>e) λa a e=>e)
 |gen a as t=>
  refine letQ ?_;intro N;exact ld t h λvs u F' aH aO cs g f r q=>by
   obtain⟨S,l,hq,hc⟩:=hP.gen _ _ _ q
   have T:=hA.le (cR ..)
   refine S _ _ _ (λa o e=>f.fz _ _ (f.top.k _ _ e)) λa=>ao (hc A F' aH aO u vs T f r) (λx z B=>letQ ?_) λa a e=>e;intro N;exact aG B λF2 g2 I=>ao (I A T) (λit s3 h3=>Pr h3 λF3 W g3 y hw hg=>(UC F3 aH aO l _ W ((g.trans g2).trans g3) y (λa ha=>ag g.ext.size (hw a ha)) (λi y=>Gq (X:= .no) g (hg i y)) hq)) λa a e=>e
end
theorem compTurn_gen {b t iter} (h:a[k]?=some ⟨t,iter,f,0⟩):
  compTurn (.ListComp b a H pos) k it d U=(do
   EM iter.pos
   match<-pyNext it with
   |none=>pure (.done .next)
   |some v=>
    dS t it v
    assign t U v
    let g<-forIn f true λc r=>if r=true then do let g<-isTrue c U (gW c U);pure (fv g) else pure (fv r)
    if g=true then
     match a[k+1]? with
     |some e=>do
      let x<-gW e.iter U
      EM e.iter.pos
      let x<-if e.is_async !=0 then foldedIterable e.iter x else jG e.iter U x
      let _<-runOwn (.compStart (.ListComp b a H pos) (k+1) (<-xT [x] (if e.is_async !=0 then asyncIter x else kf x)) d U) U
      again (.compLoop (.ListComp b a H pos) k it d U)
     |none=>(do let x<-gW b U;let _<-call (.builtin "list.append") [d,x];pure ())>>=λ_=>again (.compLoop (.ListComp b a H pos) k it d U)
    else again (.compLoop (.ListComp b a H pos) k it d U)):=by
 unfold compTurn
 dsimp only
 refine af h ?_
 congr 1
theorem wH (g:b[k]?=some ⟨t,iter,i,0⟩)
  (j:ik (aI prog w) A (.compLoop (.ListComp c b H pos) k it e U) R s)
  (h:aD (aI prog w) A (kf it) (λd u=>ik (aI prog w) A (.compLoop (.ListComp c b H pos) k d e U) R u) a_ s):
  ik (aI prog w) A (.compStart (.ListComp c b H pos) k it e U) R s:=by
 have f:aD (aI prog w) A (kf it) (λd u=>ik (aI prog w) A (.compLoop (.ListComp c b H pos) k d e U) R u) (notedBy (aI prog w) A U λx=>R (.error x)) s:=
  ao h (λa a q=>q) λa a q=>q.elim
 refine Ej (wpAny_notedAt (letQ ?_));intro l;unfold compStart
 refine af (rfl:clausesOf (.ListComp c b H pos)=b) (af g (ae (CS (wpAny_ite ?_))))
 split
 ·exact au (Kq rfl j)
 ·first
   |exact ae (oi (ae (cD (ae (ao f (λd u f=>au (Kq rfl f)) λa a x=>x)))))
   |(refine ae oi ?_)
def mZ (prog:jT) (w:oK) (A:bU) (d:Expr) (c:List nP) (H:jH) (pos:Pos) (k:Nat) (e:bq) (U:pB) (h:aN->Prop) (s:aN):Prop:=
 match c[k+1]? with
 |some i=>aD (aI prog w) A (gW i.iter U) (λx a=>aD (aI prog w) A (kf x) (λg b=>
  ik (aI prog w) A (.compStart (.ListComp d c H pos) (k+1) g e U) (λr f=>r= .ok .next/\h f) b) a_ a) a_ s
 |none=>aD (aI prog w) A (gW d U) (λx a=>aD (aI prog w) A (call (.builtin "list.append") [e,x]) (λ_ b=>h b) a_ a) a_ s
theorem mZ.mono (h:mZ prog w A c b H pos k d U n s) (j:∀s,n s->f s):mZ prog w A c b H pos k d U f s:=by
 unfold mZ at h ⊢
 induction l:b[k+1]? using cO with
 |none=>rw[l] at h;refine letQ ?_;intro u;exact ao h (λx o i=>ao i (λa q=>j _) λa a e=>e) λa a e=>e
 |some g=>rw[l] at h;exact ao h (λx o i=>ao i (λa q t=>ij t λr v m=>⟨m.1,j _ m.2⟩) λa a e=>e) λa a e=>e
noncomputable def E_ (a:List Expr) (U:pB):Sem Bool:=forIn a true λc r=>if r=true then do let b<-isTrue c U (gW c U);pure (fv b) else pure (fv r)
theorem Ig {Φ:aN->Prop} (S:g[k]?=some ⟨t,iter,J,0⟩) (I:Nat->aN->Prop)
  (z:∀n s,I n s->aD (aI prog w) A (pyNext it) (λr dm=>match r with
   |none=>Φ dm
   |some v=>aD (aI prog w) A (dS t it v) (λ_ dm=>aD (aI prog w) A (assign t U v) (λ_ o=>
     aD (aI prog w) A (E_ J U) (λok i=>(ok=true->mZ prog w A L g H pos k M U (λs=>∃m,m<n/\I m s) i)/\(ok=false->∃m,m<n/\I m i)) a_ o) a_ dm) a_ dm) a_ s)
  (N:∀B,g[k+1]?=some B->B.is_async=0/\∀x,jG B.iter U x=pure x)
  n (h:I n s):ik (aI prog w) A (.compLoop (.ListComp L g H pos) k it M U) (λr u=>r= .ok .next/\Φ u) s:=by
 refine codeAny_loop rfl I (λn s T=>wpAny_noted (af (compTurn_gen S) (ao (letQ ?_) (λa a q=>q) λe u (q:a_ e u)=>q.elim))) n h;intro P;refine ae (cD (ae (ao (z n s T) (λr dm y=>?_) λa a c=>c)))
 induction r using cO with
 |none=>exact au ⟨rfl,y⟩
 |some v=>
  refine letQ ?_;intro P;refine ae (ao y (λa o C=>ae (ao C (λa i D=>ae (ao D (λok R b=>?_) λa a c=>c)) λa a c=>c)) λa a c=>c)
  induction ok using cB with
  |false=>exact au ⟨rfl,b.2 rfl⟩
  |true=>
   have b:=b.1 rfl
   refine letQ ?_;intro P;unfold mZ at b
   induction O:g[k+1]? using cO with
   |none=>
    rw[O] at b
    refine nt ?_;intro Z;exact ae (ae (ao b (λx E j=>ae (ao j (λa F l=>au (au ⟨rfl,l⟩)) λa a c=>c)) λa a c=>c))
   |some B=>
    rw[O] at b
    refine fK (N B O) λW X=>?_
    dsimp only
    exact af W (ae (ao b (λx E j=>ae (cD (ae (jD (X x) (ae (bf (ao j (λY F l=>ae (ao (wpAny_runOwn (Q:=λf u=>f= .next/\∃m,m<n/\I m u) (ij l λr G d=>Es d λd=>⟨rfl,d⟩)) (λf G d=>au ⟨rfl,d.2⟩) λa a c=>c)) λa a c=>c))))))) λa a c=>c))
theorem ajC {P:MT->Prop} (var:∀i,P (.var i)) (tup:∀l,(∀t∈l,P t)->P (.tup l)) (sub:∀o i,P (.sub o i)) (tB:∀c o x,P (.tB c o x)) (bad:P .bad) (t:MT):P t:=by
 refine @MT.rec (λa=>True) (λa=>True) (λa=>True) P (λa=>True) (λa=>True) (λa=>True) (λl=>∀t∈l,P t) ?_ ?_ ?_ ?_ ?_ ?_ ?_ ?_ ?_ ?_ ?_ ?_ ?_ ?_ ?_ ?_ ?_ ?_ ?_ ?_ ?_ ?_ ?_ ?_ ?_ ?_ ?_ ?_ ?_ ?_ ?_ ?_ ?_ ?_ ?_ ?_ ?_ ?_ ?_ ?_ ?_ ?_ ?_ ?_ t
 all_goals first|exact var|exact tup|exact λo i a a=>sub o i|exact λc o x a=>tB c o x|exact bad|exact λc=>bw|exact λc l h h' x hx=>(aE.mp hx).elim (λe=>e▸h) (h' x)|(intros;trivial)
theorem ZP {A B:List CV->Prop} (k:∀l,A l->B l) (d:CV):(match d with| .tup l=>A l| .lst l=>A l|_=>False)->(match d with| .tup l=>B l| .lst l=>B l|_=>False):=by
 induction d using CV.casesOn with
 |tup l=>exact k l
 |lst l=>exact k l
 |_=>exact id
def acV (E:bk->aZ->ME->EPost->Prop) (t:MT):Prop:=∀{c Z J Q b},oQ t=true->du E t c Z J Q->(∀a aO,Q a aO->(∀i,i∉lJ t->a i=Z i)->b a aO)->du E t c Z J b
theorem Tc {E} {ts} (j:∀t∈ts,acV E t):∀{cs Z J Q d},Ez ts=true->mX E ts cs Z J Q->(∀b aO,Q b aO->(∀i,i∉Et ts->b i=Z i)->d b aO)->mX E ts cs Z J d:=by
 induction ts with
 |nil=>
  intro cs Z J Q d f h g
  induction cs using cL with
  |nil=>exact g _ _ h λa a=>rfl
  |cons=>exact ar h
 |cons t ts l=>
  intro cs Z J Q d f h g
  induction cs using cL with
  |nil=>exact ar h
  |cons c cs=>exact j t az (aL f) h λm n q e=>l (λt o=>j t (aB _ o)) (aR f) q λr s u e2=>g _ _ u λi k=>(e2 i λz=>k (dz _ z)).trans (e i λz=>k (dG _ z))
theorem Kd {E} t:acV E t:=by
 induction t using ajC with
 |var i=>exact λa h b=>b _ _ h λj d=>cG _ _ λe=>d (e▸List.mem_singleton_self _)
 |tup ts f=>exact λ{c Z J Q k} g h b=>ZP (λl h=>⟨h.1,Tc f g h.2 b⟩) (eC J c) h
 |_=>exact bV
theorem Qc {E:bk->aZ->ME->EPost->Prop} {t:MT} {c:CV} {Z:bk} {J:aZ} {Q:bk->aZ->Prop} (d:oQ t=true) (h:du E t c Z J Q):du E t c Z J (λb aO=>Q b aO/\∀i,i∉lJ t->b i=Z i):=Kd t d h λa a=>Kq
theorem bind_mono {E:bk->aZ->ME->EPost->Prop} {t:MT} {c:CV} {Z:bk} {J:aZ} {Q b:bk->aZ->Prop} (d:oQ t=true) (h:du E t c Z J Q) (e:∀Z J,Q Z J->b Z J):du E t c Z J b:=Kd t d h λa a q a=>e _ _ q
section
variable {C:Cfg} {R:Rd} {P:cZ} {ℓ n:Nat} {H:gq} {L d:Nat} {U:pB} {Z:bk} {F:FZ} {O:List bz} {J:aZ} {s:aN} {A:bU} {m:Nat} {D:bz}
def AccAt (C:Cfg) (U:pB) (D:bz) (b:List CV) (F:FZ) (O:List bz) (s:aN):Prop:=
 (∃vs,tb s.heap D vs/\bM F O b vs.toList)/\F.f D=none/\D∉C.tabs/\D∉O/\D∉(dX U).a
theorem AccAt.go (h:AccAt C U D b F O s) (g:Go C X F O s F' aH aO u) (i:D∉X.a):AccAt C U D b F' aH u:=by
 obtain⟨⟨vs,⟨o,e,q⟩,r⟩,j,c,f,k⟩:=h
 exact⟨(aP vs (aP o (g.ext.keep D o c (λz=>(bt.mp z).elim f i) e) q) (r.mono g.ext.le g.jo)),g.fN j (aU e),c,g.oN f (aU e),k⟩
theorem AccAt.lt (h:AccAt C U D b F O s):D<s.heap.objs.size:=by
 obtain⟨⟨vs,⟨o,e,a⟩,a⟩,a⟩:=h
 exact aU e
noncomputable def tz (H:jH) (U:pB) (D:bz):Wr:=⟨D::(iF H U).a,[]⟩
theorem bT.back (x:bT C H L U a F O h) (b:∀i c,Z i=some c->a i=some c) (e:∀i,L<=i->Z i=none):bT C H L U Z F O h:=
 ⟨x.kd,⟨x.ok.kind,x.ok.glob,x.ok.blt,x.ok.ns,x.ok.Ca,x.ok.Ao,x.ok.cell,x.ok.inj,x.ok.vC,λy i c f g=>x.ok.vars y i c f (b i c g)⟩,e,x.lt,x.iK,x.cF⟩
inductive zk C H L U Z D F O s (Q:List CV->aZ->Prop) u:Prop where
 |mk F' aH aO acc:Go C (tz H.1 U D) F O s F' aH aO u->bT C H L U Z F' aH u.heap->AccAt C U D acc F' aH u->Q acc aO->zk C H L U Z D F O s Q u
theorem zk.trans (g:Go C X F O s F' aH aO u) (k:X= .no\/X=tz H.1 U D) (h:zk C H L U Z D F' aH u Q f):zk C H L U Z D F O s Q f:=by
 obtain⟨i,b,c,j,x,e,a,q⟩:=h
 refine⟨i,b,c,j,?_,e,a,q⟩
 rcases k with rfl|rfl
 ·exact g.pure.trans x
 ·exact g.trans x
theorem Il (o:bT C H L U Z F O s.heap) (f:Nw C F O J s) (b:AccAt C U D e F O s) (r:Rep F O c v) (z:e.length<=fj) (q:Q (e++[c]) J):
  aD (aI C.prog C.w) A (call (.builtin "list.append") [.ref D,v]) (λ_ u=>zk C H L U Z D F O s Q u) a_ s:=by
 obtain⟨⟨vs,B,t⟩,h,i,j,x⟩:=b
 refine uh (hsz:=by have:=t.length;exact zT (zE this) z) B.plain λk l y=>?_
 have E:rk C (tz H.1 U D) F s F {s with heap:=k}:=rk.Cu f.fz f.base h i (by simp[tz]) y
 have g:Go C (tz H.1 U D) F O s F O J {s with heap:=k}:= .wi f.dj E λa b=>by
  rw[tz,aE] at b
  rcases b with rfl|b
  ·exact j
  ·exact o.ok.own a b
 have g1:Go C ⟨[D],[]⟩ F O s F O J {s with heap:=k}:= .wi f.dj (rk.Cu f.fz f.base h i (by simp) y) λa b=>by simp at b;exact af b j
 exact⟨F,O,J,e++[c],g,o.go g1 λa b=>by simp at b;exact af b x,(OX ⟨_,.of l,by simpa using t.append (.single r)⟩ h i j x),q⟩
theorem Sk (t:Vh C R ℓ P n) (v:bQ (m+ℓ) A) {k}:∀f F O J s Q,bT C H L U Z F O s.heap->Nw C F O J s->
  lI (gm (aw P m) Z k) (f.map (cE R n H L 0)) J Q->
  aD (aI C.prog C.w) A (E_ f U) (rW C F O s Q) a_ s:=by
 intro es
 induction es with
 |nil=>
  exact λF O J s Q l j h=>au ⟨F,O,J,j.refl,h⟩
 |cons e es o=>
  intro F O J s Q l j h
  unfold E_
  rw[ju]
  refine ae (ae (ao (t k m H L e U Z F O J s A _ l j v h) (λb u x=>au ?_) λa a e=>e))
  obtain⟨F',aH,aO,g,q⟩:=x
  dsimp only
  induction b using cB with
  |true=>exact mQ g (o F' aH aO u Q (l.gb g) (j.go g) (q.1 rfl))
  |false=>
   have i:∀(es:List Expr),(forIn es false λc r=>if r=true then do let y<-isTrue c U (gW c U);pure (fv y) else pure (fv r):Sem Bool)=pure false:=λes=>by
    induction es with
    |nil=>rfl
    |cons e es o=>
     rw[ju]
     exact o
   rw[i]
   exact au ⟨F',aH,aO,g,q.2 rfl⟩
theorem Go.drop (g:Go C X F O s F' aH aO u) (b:∀a∈X.a,a∈Y.a\/s.heap.objs.size<=a) (c:∀i∈X.g,i∈Y.g\/s.gens[i]?=none):Go C Y F O s F' aH aO u:=by
 refine⟨⟨g.ext.le,g.ext.fz,λa o f j e=>g.ext.keep a o f (λq=>j ?_) e,g.ext.new,g.ext.size,g.ext.os,λi x h e=>g.ext.gens i x (λq=>?_) e,g.ext.base⟩,g.jo,g.new,g.dj⟩
 ·rcases bt.mp q with q|q
  ·exact dG _ q
  ·rcases b a q with q|q
   ·exact dz _ q
   ·exact absurd (aU e) (bL.mpr q)
 ·rcases c i q with q|q
  ·exact h q
  ·exact aW (q.symm.trans e)
theorem o_.l_ (x:o_ C U f Z F O h):∀a∈(dX U).a,a<h.objs.size:=λa q=>by
 rw[dX,aE,bO] at q
 rcases q with rfl|⟨⟨y,b⟩,q,rfl⟩
 ·exact afX x.ns λm o a a e a=>aU e
 ·obtain⟨⟨v,c⟩,a⟩:=x.cell y b q
  exact c.lt
end
section
variable {C:Cfg} {R:Rd} {P:cZ} {ℓ n:Nat} {H:gq} {L d:Nat} {U:pB} {Z:bk} {F:FZ} {O:List bz} {J:aZ} {s:aN} {A:bU} {m:Nat} {D:bz}
theorem XZ t:dS t it v=cond (isTup t||!(t.ctorIdx !=24)) (dS t it v) (pure ()):=by
 induction t using aY<;>rfl
theorem agd (E:bQ ℓ A) (h:Al t tt=true) F O J s c v K (y:Nw C F O J s)
  (B:Yv C ℓ tt it W F O J s K c v):aD (aI C.prog C.w) A (dS t it v) (λ_ u=>Go C W F O s F O J u/\(Apart C W F O s->Apart C W F O u)/\K F O u/\Given F O u.heap t c v) a_ s:=by
 induction i:isTup t using cB with
 |true=>
  refine ac2 (T_ i) λes k p=>?_
  induction B with
  |val r b j=>exact ao (b es k p A) (λa G g=>af g (iJ y.refl id j (.inl r))) λa a e=>e
  |tup l T f q x r I M N b=>exact ao (b es k p A E) (λa G g=>iJ g.1 (λa=>g.2.1) g.2.2 (.inr ⟨rfl,l,rfl,T,f,rfl,aG x λo e q=>aP o (g.1.ext.keep T o N (λz=>(bt.mp z).elim M I) e) q,r⟩)) λa a e=>e
 |false=>
  have h:=aq.mp ((gV.mp h).elim (λz=>bV (i.symm.trans z)) id)
  refine letQ ?_;intro Q;refine nt ?_;intro S;refine jD ((XZ t).trans (by refine af i (af h.1 ?_);rfl)) ?_
  induction B with
  |val r b j=>exact iJ y.refl id j (.inl r)
  |tup l T f q=>exact bV ((congrArg not q).symm.trans h.2)
abbrev rV (C:Cfg) (H:gq) (L:Nat) (U:pB) (Z:bk) (D:bz) (A:bU) (b:Expr) (a:List nP) (scope:jH) (pos:Pos) (k:Nat) (F:FZ) (O:List bz) (s:aN) (Q:List CV->aZ->Prop):Prop:=
 mZ C.prog C.w A b a scope pos k (.ref D) U (zk C H L U Z D F O s Q) s
structure Lp C H L U Z ℓ A tt it g (X:List bz) (W0:Wr) F0 qD (s0:aN)
  l F O J (W:Wr) s:Prop where
 YS:∀a∈W.a,a∉X/\a∉(dX U).a
 new:∀a∈W.a,a∈W0.a\/s0.heap.objs.size<=a
 gens:W.g=W0.g
 go:Go C ⟨X++W0.a,W0.g⟩ F0 qD s0 F O J s
 ev:bT C H L U Z F O s.heap
 nw:Nw C F O J s
 it:f_ C ℓ A tt it W g l F O s
 ap:Apart C W F O s
section
variable {it:bq} {tt:Bool} {g:aZ->Prop} {X:List bz} {W0:Wr} {F0:FZ} {qD:List bz} {s0:aN} {l:List CV} {W:Wr}
theorem Lp.step (b:Lp C H L U Z ℓ A tt it g X W0 F0 qD s0 l F O J W s) (x:Go C ⟨X,[]⟩ F O s F' aH aO u) (e:bT C H L U c F' aH u.heap):Lp C H L U c ℓ A tt it g X W0 F0 qD s0 l F' aH aO W u:=
 ⟨b.YS,b.new,b.gens,b.go.then x (λa q=> .inl (dG _ q)) λi q=>bw q,e,b.nw.go x,b.it.go x b.ap (λa q=>(b.YS a q).1) λi q z=>bw z,b.ap.go x⟩
theorem Lp.turn (a4:DP C R ℓ P n) (hA:bQ (m+ℓ) A) (hg:Al t tt=true) (hX:∀a∈(iF H.1 U).a,a∈X) (a5:∀a∈X,a<s0.heap.objs.size)
  (b:Lp C H L U Z ℓ A tt it g X W0 F0 qD s0 l F O J W s) (M:g J) {Φ Ψ:aN->Prop}
  (kn:l=[]->∀u,Go C W F O s F O J u->Go C ⟨X++W0.a,W0.g⟩ F0 qD s0 F O J u->bT C H L U Z F O u.heap->Φ u)
  (kc:∀c l',l=c::l'->∃Q,du (aw P m) (cT R n H L t) c Z J Q/\∀F' aH aO N W' u,Lp C H L U N ℓ A tt it g X W0 F0 qD s0 l' F' aH aO W' u->Go C ⟨(iF H.1 U).a++W'.a,W'.g⟩ F O s F' aH aO u->Q N aO->Ψ u):
  aD (aI C.prog C.w) A (pyNext it) (λr dm=>match r with
   |none=>Φ dm
   |some v=>aD (aI C.prog C.w) A (dS t it v) (λ_ dm=>aD (aI C.prog C.w) A (assign t U v) (λ_ S=>Ψ S) a_ dm) a_ dm) a_ s:=by
 have E:=hA.le (cR ..)
 induction l using cL with
 |nil=>
  refine ao (b.it F O J s E b.nw b.ap (.refl _) (.refl _) (λa a a e=>e) (λa a a e=>e) M) (λr s2 G=>af G.1 (kn rfl s2 G.2 (b.go.then G.2 (λa q=>(b.new a q).imp (λy=>dz _ y) id) λi q=> .inl (b.gens▸q)) (b.ev.go G.2 λa q=>(b.YS a q).2))) λa a e=>e
 |cons c l=>
  refine letQ ?_;intro Q_;refine ao (b.it F O J s E b.nw b.ap (.refl _) (.refl _) (λa a a e=>e) (λa a a e=>e) M) (λr s2 G=>?_) λa a e=>e
  cases G with
  |mk v F2 I g2 h T hy=>
  have j:=λa q=>(h.2.1 a q).elim (b.YS a) λy=>⟨λz=>absurd (av (a5 a z) b.go.ext.size) (bL.mpr y),λz=>absurd (b.ev.ok.l_ a z) (bL.mpr y)⟩
  have B:=λa q=>(h.2.1 a q).elim (b.new a) λy=> .inr (ag b.go.ext.size y)
  have k:=h.2.2.trans b.gens
  have g2:=g2.weaken h.1 λi q=>h.2.2▸q
  refine ao (agd E hg F2 O J s2 c v _ (b.nw.go g2) hy) (λa s3 h3=>UT h3 λg3 f o hv=>aG (kc c l rfl) λQ hb hk=>?_) λa a e=>e
  have x:=g2.trans g3
  have f:=f T
  have o:f_ C ℓ A tt it I g l F2 O s3:=o
  refine ao (a4 m H L t U Z F2 O J s3 A _ c v (b.ev.go x λa q=>(j a q).2) (b.nw.go x) hA hv hb) (λa s4 h4=>?_) λa a e=>e
  obtain⟨F4,Y,a0,a6,g4,a7,q4⟩:=h4
  have a3:Go C ⟨(iF H.1 U).a++I.a,I.g⟩ F O s F4 Y a0 s4:=Go.then (X:=⟨(iF H.1 U).a++I.a,I.g⟩) (x.weaken (λa q=>dz _ q) λi q=>q) g4 (λa q=> .inl (dG _ q)) λi q=>bw q
  exact hk F4 Y a0 a6 I s4 ⟨j,B,k,b.go.then a3 (λa q=>(bt.mp q).elim (λz=> .inl (dG _ (hX a z))) λz=>(B a z).imp (λy=>dz _ y) id) (λi q=> .inl (k▸q)),
   a7,(b.nw.go x).go g4,o.go g4 f (λa q z=>(j a q).2 (gU (H:=H.1) a z)) λa a z=>bw z,f.go g4⟩ a3 q4
end
inductive Tt C H L U Z D ℓ A tt it g W F O s (K:List CV->List CV->aZ->Prop) num u:Prop where
 |mk l F' aH aO acc W':num=l.length->Lp C H L U Z ℓ A tt it g (tz H.1 U D).a W F O s l F' aH aO W' u->AccAt C U D acc F' aH u->K l acc aO->Tt C H L U Z D ℓ A tt it g W F O s K num u
def ua (P:cZ) (m kt:Nat) (R:Rd) (n':Nat) (H:gq) (L:Nat) (t:Expr) (e:List Expr) (Z:bk) (G:bk->List CV->aZ->(List CV->aZ->Prop)->Prop):CV->List CV->aZ->(List CV->aZ->Prop)->Prop:=
 λc a J Q=>du (aw P m) (cT R n' H L t) c Z J (λZ J=>lI (gm (aw P m) Z kt) (e.map (cE R n' H L 0)) J (λb J=>Br b (G Z a J Q) (Q a J)))
theorem Jy (hg:y[k]?=some ⟨t,iter,B,0⟩) (b0:∀g',y[k+1]?=some g'->g'.is_async=0/\∀x,jG g'.iter U x=pure x)
  (b1:DP C R ℓ P n') (hT:Vh C R ℓ P n') (hA:bQ (m+ℓ) A)
  (N:oQ (cT R n' H L t)=true) (b3:Al t tt=true) (S:∀i∈lJ (cT R n' H L t),Z i=none)
  (b4:∀i,L<=i->Z i=none)
  (T:∀E F O J s f Q,(∀i,i∉lJ (cT R n' H L t)->E i=Z i)->bT C H L U E F O s.heap->Nw C F O J s->AccAt C U D f F O s->G E f J Q->rV C H L U E D A b5 y scope pos k F O s Q)
  (X:∀a∈W.a,a≠D/\a∉(dX U).a) l f F O J s Q (he:bT C H L U Z F O s.heap) (nw:Nw C F O J s) (ha:AccAt C U D f F O s) (b6:f_ C ℓ A tt it W g l F O s) (b7:Apart C W F O s)
  (h:gD g (ua P m kt R n' H L t B Z G) l f J Q):
   ik (aI C.prog C.w) A (.compLoop (.ListComp b5 y scope pos) k it (.ref D) U)
    (λr u=>r= .ok .next/\∃F' aH aO I,Go C ⟨(tz H.1 U D).a++W.a,W.g⟩ F O s F' aH aO u/\bT C H L U Z F' aH u.heap/\AccAt C U D I F' aH u/\Q I aO) s:=by
 refine Ig hg (Tt C H L U Z D ℓ A tt it g W F O s (λl f J=>gD g (ua P m kt R n' H L t B Z G) l f J Q))
  ?_ b0 l.length ⟨l,F,O,J,f,W,rfl,⟨λa q=>⟨λz=>(aE.mp z).elim (X a q).1 λz=>(X a q).2 (gU a z),(X a q).2⟩,λa h=> .inl h,rfl,nw.refl,he,nw,b6,b7⟩,ha,h⟩
 rintro num s1 ⟨l,F1,b8,b9,M,W1,rfl,G6,Y,h1⟩
 refine G6.turn b1 hA b3 (λa q=>aB _ q) (λa q=>(aE.mp q).elim (λe=>e▸ha.lt) λz=>he.ok.l_ a (gU a z)) (by cases l<;>exact h1.1) (λe u g2 g' e'=>?_) λc l' e=>?_
 ·subst e
  exact JE F1 b8 b9 M g' e' (Y.go g2 λq=>(G6.YS D q).1 az) h1.2
 ·subst e
  refine aP _ (Qc N h1.2) λF4 a0 c0 a3 W2 s4 L4 g4 q4=>?_
  have a4:∀{F5 j v s5 o},Go C (tz H.1 U D) F4 a0 s4 F5 j v s5->bT C H L U a3 F5 j s5.heap->AccAt C U D o F5 j s5->gD g (ua P m kt R n' H L t B Z G) l' o v Q->
    ∃m',m'<(c::l').length/\Tt C H L U Z D ℓ A tt it g W F O s (λl f J=>gD g (ua P m kt R n' H L t B Z G) l f J Q) m' s5:=λ{F5 j v s5 o} g5 e5 a5 w5=>
   ⟨l'.length,cH _,l',F5,j,v,o,W2,rfl,L4.step g5 (e5.back (λi c e=>(q4.2 i λz=>aW ((S i z).symm.trans e))▸e) b4),a5,w5⟩
  refine ao (Sk hT hA B F4 a0 c0 s4 _ L4.ev L4.nw q4.1) (λb s5 h5=>?_) λa a e=>e
  obtain⟨F5,j,v,g5,a6⟩:=h5
  have a8:=L4.ev.gb g5
  have a9:=(Y.go g4 λz=>(bt.mp z).elim (λz=>Y.2.2.2.2 (gU D z)) λz=>(L4.YS D z).1 az).go g5 λz=>bw z
  refine⟨λhb=>(T a3 F5 j v s5 M _ q4.2 a8 (L4.nw.go g5) a9 (a6.1 hb)).mono λs7 h7=>?_,λhb=>a4 g5.pure a8 a9 (a6.2 hb)⟩
  obtain⟨F7,c2,c3,c1,g7,e7,a7,q7⟩:=h7
  exact a4 (g5.pure.trans g7) e7 a7 q7
end
theorem nG (h:mT e=true):jG e U x=pure x:=by
 induction e using aY<;>first|rfl|exact bV h
section
variable {C:Cfg} {R:Rd} {P:cZ} {ℓ n:Nat} {H:gq} {L d:Nat} {U:pB} {Z:bk} {F:FZ} {O:List bz} {J:aZ} {s:aN} {A:bU} {m:Nat} {D:bz}
theorem abp (h:gE (aw P m) (λZ=>gm (aw P m) Z m) (pE (aw P m) P) e (Gl (cE R n) (cI R n) (cT R n) H L c (g::f)) Z a J Q):
  Of g.target (cT R n H L g.target) (cI R n H L g.iter) c=true/\
   pE (aw P m) P Z J (cI R n H L g.iter) (λitems gg J=>gD gg (ua P m m R n H L g.target g.ifs Z λZ a J Q=>gE (aw P m) (λZ=>gm (aw P m) Z m) (pE (aw P m) P) e (Gl (cE R n) (cI R n) (cT R n) H L (c++lJ (cT R n H L g.target)) f) Z a J Q) items a J Q):=by
 have h:gE (aw P m) (λZ=>gm (aw P m) Z m) (pE (aw P m) P) e (match Of g.target (cT R n H L g.target) (cI R n H L g.iter) c&&g.is_async==0 with
  |true=> .mk (cT R n H L g.target) (cI R n H L g.iter) (g.ifs.map (cE R n H L 0))::Gl (cE R n) (cI R n) (cT R n) H L (c++lJ (cT R n H L g.target)) f
  |false=>[.mk .bad (.val .bad) []]) Z a J Q:=h
 refine Hb (Of g.target (cT R n H L g.target) (cI R n H L g.iter) c&&g.is_async==0) (λb=>?_) λb=>?_
 ·rw[b] at h;exact⟨(aq.mp b).1,h⟩
 ·
  rw[b] at h
  induction m using cN<;>exact ar h
theorem xx (h:Of e t it b=true):Al e (rC it)=true/\oQ t=true/\∀i∈lJ t,i∉b:=
 fK (aq.mp h) λa c=>fK (aq.mp a) λa f=>fg a f λi g j=>by
  have:=aV.mp c i g
  rw[vV.mpr j] at this
  exact bV this
theorem ze (h:Kb g=true):g.is_async=0/\∀x,jG g.iter U x=pure x:=fK (aq.mp h) λa b=>⟨eq_of_beq a,λx=>nG b⟩
theorem Ih (hR:ef C R) (hP:oZ C R ℓ P) (hE:∀k,k<=n->fO C R ℓ P k) (hA:bQ (m+ℓ) A) {v} {gens} {scope} {pos} {k} {g} {us}
  {G} (hg:gens[k]?=some g) (y:g.is_async=0) (M:∀N,gens[k+1]?=some N->N.is_async=0/\∀x,jG N.iter U x=pure x)
  (S:Of g.target (cT R n H L g.target) (cI R n H L g.iter) us=true) (f:∀i∈lJ (cT R n H L g.target),Z i=none)
  (j:∀c F O J s b Q,(∀i,i∉lJ (cT R n H L g.target)->c i=Z i)->bT C H L U c F O s.heap->Nw C F O J s->AccAt C U D b F O s->G c b J Q->rV C H L U c D A v gens scope pos k F O s Q)
  {b} {F0} {qD} {s0 u} {aO} {F'} {aH} {it} {W} {gg} {l} {Q} (g0:Go C .no F0 qD s0 F' aH aO u) (he:bT C H L U Z F' aH u.heap) (nw:Nw C F' aH aO u) (ha:AccAt C U D b F' aH u)
  (hD:D<s0.heap.objs.size) (T:∀a∈(dX U).a,a<s0.heap.objs.size) (hi:Iter C ℓ A (rC (cI R n H L g.iter)) it W gg l F' aH u) (X:∀a∈W.a,s0.heap.objs.size<=a) (Y:∀i∈W.g,s0.gens[i]?=none)
  (h:gD gg (ua P m m R n H L g.target g.ifs Z G) l b aO Q):
  ik (aI C.prog C.w) A (.compLoop (.ListComp v gens scope pos) k it (.ref D) U) (λr B=>r= .ok .next/\zk C H L U Z D F0 qD s0 Q B) u:=by
 refine cps λK_ k_=>?_
 obtain⟨t,iter,ifs,a⟩:=g
 subst y
 refine qk (xx S) λE o a4=>k_ (ij (Jy hg M (jP hR n hE) (qg n hE) hA o E f he.top j (λa q=>⟨λe=>absurd hD (bL.mpr (e▸X a q)),λz=>absurd (T a z) (bL.mpr (X a q))⟩) l b F' aH aO u Q he nw ha hi.1 hi.2.1 h) λr s6 h6=>?_)
 obtain⟨rfl,F6,a0,a3,I,g6,e6,a6,q6⟩:=h6
 exact⟨rfl,F6,a0,a3,I,Go.drop (g0.pure.trans g6) (λa z=>(bt.mp z).imp id (X a)) (λi z=> .inr (Y i z)),e6,a6,q6⟩
theorem NV (hR:ef C R) (hP:oZ C R ℓ P) (hE:∀k,k<=n->fO C R ℓ P k) (hA:bQ (m+ℓ) A) {E} {b} {scope} {pos} {lo de}
  (j:∀g∈b,Kb g=true) (a0:∀t,oQ (cT R n H L t)=true->∀i∈lJ (cT R n H L t),lo<=i):
  ∀S k Y Z F O J s f Q,b.drop (k+1)=S->bT C H L U Z F O s.heap->Nw C F O J s->AccAt C U D f F O s->
   (∀i,lo<=i->i∉Y->Z i=none)->
   gE (aw P m) (λZ=>gm (aw P m) Z m) (pE (aw P m) P) (cE R n H L de E) (Gl (cE R n) (cI R n) (cT R n) H L Y S) Z f J Q->rV C H L U Z D A E b scope pos k F O s Q:=by
 intro S
 induction S with
 |nil=>
  intro k Y Z F O J s f Q hd w G T I h
  unfold rV mZ
  refine af ((eN (List.drop_eq_nil_iff.mp hd))) ?_
  exact ct G (hE n (ai _) m H L de E U Z F O J s A _ w G hA h) λv F' aH aO u c g a3 r q=>ao (Il (w.gb g) a3 (T.go g bw) r q.1 q.2) (λa b1 a4=>a4.trans g (.inl rfl)) λa a e=>e
 |cons g S ih=>
  intro k Y Z F O J s f Q hd w G T I h
  have hn:b[k+1]?=some g:=by refine eh List.head?_drop (af hd ?_);rfl
  have a5:b.drop (k+1+1)=S:=by refine eh HQ (af hd ?_);rfl
  obtain⟨y,a6⟩:=ze (U:=U) (j g (bh hn))
  obtain⟨M,h⟩:=abp h
  have N:=(xx M).2.1
  unfold rV mZ
  refine af hn (letQ ?_);intro Q_;refine ao (qG hR hP n hE m H L g.iter U Z F O J s A _ _ w G hA rfl h) (λx s4 h4=>letQ ?_) λa a e=>e;intro Q_;refine ao h4 (λb3 s5 h5=>US h5 λF5 b4 b5 l gg W g5 X hw a7 q5=>?_) λa a e=>e
  have B:=Ih hR hP hE hA hn y (λg' a8=>ze (j g' (bh a8))) M (λi X=>I i (a0 _ N i X) (((xx M).2.2) i X))
   (λa9 F O J s f Q b0 w G T=>ih (k+1) _ a9 F O J s f Q a5 w G T (λi h1 h2=>af (b0 i λz=>h2 (dz _ z)) (I i h1 λz=>h2 (dG _ z))))
   g5 (w.gb g5) (G.go g5) (T.go g5 bw) (by obtain⟨⟨vs,⟨o,e,a⟩,a⟩,a⟩:=T;exact aU e) w.ok.l_ X hw a7 q5
  obtain⟨t,it,b6,a⟩:=g
  subst y
  refine wH hn B (ao (X.2.2 A _ λa a a e=>e) (λb7 s6 h6=>?_) λa a e=>e)
  obtain⟨rfl,rfl⟩:=h6
  exact B
end
set_option tactic.hygienic true
theorem lg (h:(dt s L H).1.2.lookup x=some i):
  (∃k b,(H.names.filter λx=>x.2== .local||x.2== .cell)[k]?=some (x,b)/\i=L+k)\/((x,dH)∈H.names/\s.2.lookup x=some i):=by
 have d:=D' h
 rw[dt,bt,bO,List.mem_filterMap] at d
 rcases d with ⟨⟨⟨y,b⟩,k⟩,g,e⟩|⟨⟨y,b⟩,m,e⟩
 ·left
  cases e
  exact(fX k b (qO.mp g) rfl)
 ·right
  split at e
  ·rename_i f
   rw[beq_iff_eq] at f
   subst f
   refine oE (s.2.lookup y) (λc=>(aW (c▸e))) λj c=>?_
   ·rw[c] at e;cases e;exact⟨m,c⟩
  ·exact aW e
where
 D':∀{l:List (bD×Nat)},l.lookup x=some i->(x,i)∈l:=λh=>by
  refine iQ (eT.mp h) λn o q a=>?_
  simp[q]
structure EK (s:gq) (H:jH):Prop where
 kind:H.kind= .function
 cons:∀x k,(x,k)∈H.names->H.names.lookup x=some k
 free:∀x,(x,dH)∈H.names->(s.2.lookup x).isSome=true/\tW (s.1.names.lookup x)= .Ii/\(x==("__classdict__" :bD))=false
theorem wI (h:L' s H=true):EK s H:=by
 simp only[L',cW,beq_iff_eq,aV] at h
 obtain⟨⟨b,c⟩,d⟩:=h
 refine⟨b,λx k=>c (x,k),λx f=>?_⟩
 have a:=d (x,.free) f
 have e:((x,dH).2 !=dH)=false:=rfl
 rw[e,Bool.false_or,cW,cW] at a
 exact(fg a.1.1 (by simpa using a.1.2) (by simpa using a.2))
theorem pY {H:jH} (h:H.names.lookup x=some k):(x,k)∈H.names:=by
 refine iQ (eT.mp h) λb c q a=>?_
 simp[q]
theorem PL (l:EK s H):∀n' t,oQ (cT R n' (dt s L H).1 (dt s L H).2 t)=true->∀i∈lJ (cT R n' (dt s L H).1 (dt s L H).2 t),L<=i:=by
 intro n'
 induction n' with
 |zero=>intro t h;exact bV h
 |succ n m=>
  intro t h
  induction t using aY with
  |Name x p=>
   show∀i∈lJ (wa (dt s L H).1 x),L<=i
   unfold wa
   have q:(dt s L H).1.1=H:=rfl
   refine af q ?_
   induction g:AG (H.names.lookup x) using cB with
   |false=>exact λi=>bw
   |true=>
    induction r:(dt s L H).1.2.lookup x using cO with
    |none=>exact λi=>bw
    |some j=>
     refine λi c=>af (bl.mp c) ?_
     rcases lg r with ⟨k,w,a,rfl⟩|⟨u,a⟩
     ·exact ba ..
     ·rw[l.cons x _ u] at g
      exact bV g
  |Tuple es k p=>
   have h:oQ (IY (es.all bR) (.tup (es.map (cT R n (dt s L H).1 (dt s L H).2))))=true:=h
   show∀i∈lJ (IY (es.all bR) (.tup (es.map (cT R n (dt s L H).1 (dt s L H).2)))),L<=i
   induction d:es.all bR using cB with
   |false=>exact λi=>bw
   |true=>
    rw[d] at h
    have b:∀es:List Expr,Ez (es.map (cT R n (dt s L H).1 (dt s L H).2))=true->∀i∈Et (es.map (cT R n (dt s L H).1 (dt s L H).2)),L<=i:=λes=>by
     induction es with
     |nil=>exact λa i=>bw
     |cons e es f=>
      intro h i c
      have h:=aq.mp h
      exact(bt.mp c).elim (m e h.1 i) (f h.2 i)
    exact b es h
  |Subscript o i p=>
   have h:oQ (IY (mS i) (.sub (cE R n (dt s L H).1 (dt s L H).2 0 o) (cE R n (dt s L H).1 (dt s L H).2 0 i)))=true:=h
   induction d:mS i using cB<;>rw[d] at h<;>exact bV h
  |Attribute o x p=>
   have h:oQ (Nv R (cE R n) (dt s L H).1 (dt s L H).2 o x)=true:=h
   unfold Nv at h
   induction v:wg R o x using cO<;>rw[v] at h<;>exact bV h
  |_=>exact bV h
theorem Ea {U:pB} (a:List (bD×um)) x:
  (a.map λ(n,k)=>if (k==dH&&U.scope.kind== .function&&U.kindOf n==some .cell) then(n,jb) else(n,k)).lookup x=a.lookup x\/
  (a.lookup x=some .free/\U.kindOf x=some .cell/\(a.map λ(n,k)=>if (k==dH&&U.scope.kind== .function&&U.kindOf n==some .cell) then(n,jb) else(n,k)).lookup x=some .cell):=by
 induction a with
 |nil=>exact .inl rfl
 |cons p r d=>
  obtain⟨n,k⟩:=p
  refine af gC ?_
  by_cases b:(k==dH&&U.scope.kind== .function&&U.kindOf n==some .cell)=true
  ·dsimp only
   refine af (if_pos b) (af cg (af cg ?_))
   induction c:x==n using cB with
   |true=>
    right
    rw[beq_iff_eq] at c
    refine af c ?_
    simp only[cW,beq_iff_eq] at b
    exact(fg (b.1.1▸rfl) b.2 rfl)
   |false=>exact d
  ·dsimp only
   refine af (if_neg b) (af cg (af cg ?_))
   induction c:x==n using cB with
   |true=>exact .inl rfl
   |false=>exact d
set_option tactic.hygienic false
noncomputable def wM (U:pB):List (bD×um)->List (bD×bz)->List (bD×bz)
 |[],a=>a
 |(n,k)::r,a=>wM U r (if k== .free then(n,(U.cells.lookup n).getD 0)::a else a)
theorem GP (h:∀x,(x,dH)∈scope.names->∃a,U.cells.lookup x=some a):sd scope U=pure (wM U scope.names []):=by
 have e:∀l b,(∀x,(x,dH)∈l->∃a,U.cells.lookup x=some a)->
   (forIn l b λ(x:bD×um) cs=>if x.2== .free then(do let a<-cellOf U x.1;pure (fv ((x.1,a)::cs))) else pure (fv cs))=pure (wM U l b):=by
  intro l
  induction l with
  |nil=>intro b _;rfl
  |cons y l f=>
   intro b g
   obtain⟨n,k⟩:=y
   rw[ju]
   have c:∀x,(x,dH)∈l->∃a,U.cells.lookup x=some a:=λx j=>g x (aB _ j)
   refine Hb (k==dH) (λd=>?_) λd=>?_
   ·
    rw[beq_iff_eq] at d
    subst d
    obtain⟨a,i⟩:=g n az
    simp only[(by unfold cellOf;rw[i]:cellOf U n=pure a),pure_bind,beq_self_eq_true,if_true]
    rw[f _ c]
    simp[wM,i]
   ·
    simp only[d,zV,if_false,pure_bind]
    rw[f _ c]
    simp[wM,d]
 refine BJ ?_ (congrArg (· >>=pure) (e scope.names [] h))|>.trans (by rfl)
 rfl
theorem xJ:∀l c,(∀x,(x,dH)∈l->∃a,U.cells.lookup x=some a)->∀x a,(x,a)∈wM U l c->(x,a)∈c\/((x,dH)∈l/\U.cells.lookup x=some a):=by
 intro r
 induction r with
 |nil=>
  exact λe e e e=> .inl
 |cons f r j=>
  obtain⟨n,k⟩:=f
  intro c g x a h
  rcases j _ (λx m=>g x (aB _ m)) x a h with q|⟨o,s⟩
  ·refine Hb (k==dH) (λd=>?_) λd=>?_
   ·
    rw[d] at q
    simp only[if_true,aE] at q
    rcases q with q|q
    ·refine fK (Prod.mk.inj q) λe1 e2=>?_
     rw[beq_iff_eq] at d
     rw[d] at g ⊢
     refine eY (g n az) λb i=>?_
     rw[i] at e2
     exact .inr ⟨e1▸az,by refine af e1 (af i (af e2 ?_));rfl⟩
    ·exact .inl q
   ·
    rw[d] at q
    exact .inl (by simpa using q)
  ·exact .inr ⟨aB _ o,s⟩
theorem YI:∀l b x,((∃a,b.lookup x=some a)\/(x,dH)∈l)->∃a,(wM U l b).lookup x=some a:=by
 intro r
 induction r with
 |nil=>
  intro _ _ h
  rcases h with h|h
  ·exact h
  ·cases h
 |cons c r d=>
  obtain⟨n,k⟩:=c
  refine λb x h=>d _ x ?_
  induction f:k==dH using cB with
  |true=>
   simp only[if_true]
   rcases h with ⟨a,h⟩|h
   ·left
    refine af cg ?_
    induction g:x==n using cB with
    |true=>exact⟨_,rfl⟩
    |false=>exact⟨a,h⟩
   ·rcases aE.mp h with e|h
    ·injection e with e;exact af e (.inl ⟨_,by rw[cg,beq_self_eq_true]⟩)
    ·exact .inr h
  |false=>
   rcases h with h|h
   ·exact .inl h
   ·rcases aE.mp h with e|h
    ·cases e;exact nomatch f
    ·exact .inr h
set_option tactic.hygienic true
section
variable {C:Cfg} {R:Rd} {P:cZ} {ℓ n:Nat} {s0:gq} {L d:Nat} {U:pB} {Z:bk} {F:FZ} {O:List bz} {J:aZ} {s:aN} {A:bU} {m:Nat}
theorem Su (f:bT C s0 L U Z F O s.heap) (g:s0.2.lookup x=some i) (h:Z i=some c) (j:tW (s0.1.names.lookup x)= .Ii):
  ∃a v,U.cells.lookup x=some a/\s.heap.IsCell a (some v)/\Rep F O c v:=by
 refine aG (f.ok.vars x i c g h) λv k r=>?_
 refine k.elim (λe a b c=>?_) (λe a e1 e2=>eA a v e1 e2 r) λe a b e1 e2=>eA b v e1 e2 r
 clear g h r
 rcases f.kd x with q|⟨q,l⟩
 ·rw[<-q,e] at j;exact nomatch j
 ·cases l.symm.trans e
theorem yn x:
 TG {g_ (some U) H b g a q c cd e with scope:=My H U} x=H.names.lookup x\/
 (H.names.lookup x=some .free/\U.kindOf x=some .cell/\TG {g_ (some U) H b g a q c cd e with scope:=My H U} x=some .cell):=Ea H.names x
theorem PO (ok:EK s0 H) (j:bT C s0 L U Z F O s.heap) (M:cl=wM U H.names [])
  (B:Kh C H cl F O J s G6 cells u) (X:Fz F s.heap):bT C (dt s0 L H).1 (dt s0 L H).2 {g_ (some U) H G6 U.globals cells q none cd cx with scope:=My H U} Z F O u.heap:=by
 have l:∀x,(x,dH)∈H.names->∃a,U.cells.lookup x=some a:=λx N=>j.iK x (ok.free x N).2.1 (ok.free x N).1
 have t:∀x,(x,dH)∈H.names->∃a,cells.lookup x=some a/\U.cells.lookup x=some a:=λx N=>by
  have Y:(x,jb)∉H.names:=λz=>by
   cases (ok.cons x _ N).symm.trans (ok.cons x _ z)
  obtain⟨a,G⟩:=YI H.names [] x (.inr N)
  refine(aP a (af (B.same x Y) (af M G)) ?_)
  rcases xJ H.names [] l x a (mem_of_lookup G) with z|z
  ·cases z
  ·exact z.2
 refine⟨λx=>?_,⟨ok.kind,j.ok.glob,j.ok.blt,⟨_,B.ns⟩,B.nF,B.nT,B.cls.cell,B.cls.inj,λx y i I D=>?_,λx i c I D=>?_⟩,λi hi=>j.top i ((λi=>ag (ba ..)) i hi),λx i h=>?_,λx Q hi=>?_,λx a I D=>?_⟩
 ·rcases yn x with h|⟨I,a,D⟩
  ·exact .inl h
  ·exact .inr ⟨I,D⟩
 ·rcases lg I with ⟨k,W,e1,rfl⟩|⟨e1,g⟩<;>rcases lg D with ⟨k',a0,e2,w⟩|⟨e2,w⟩
  ·have:k=k':=jU w
   subst this
   rw[e1] at e2
   cases e2;rfl
  ·exact absurd (j.lt _ _ w) (bL.mpr zP)
  ·subst w;exact absurd (j.lt _ _ g) (bL.mpr zP)
  ·exact j.ok.vC x y i g w
 ·rcases lg I with ⟨k,W,e1,rfl⟩|⟨e1,g⟩
  ·exact aW ((j.top _ (ba ..)).symm.trans D)
  ·refine aG (t x e1) λa G S=>cz (Su j g D (ok.free x e1).2.1) λa2 v q1 q2 r=>?_
   obtain rfl:=ab (S.symm.trans q1)
   refine aP v ?_ r
   have q3:u.heap.IsCell a (some v):=by
    refine aG q2 λo e dd=>?_
    have E:=j.ok.cell x a (mem_of_lookup S)
    exact(aP o (B.go.ext.keep a o E.2.1 (λz=>by
     rcases bt.mp z with z|z
     ·exact E.2.2 z
     ·cases z) e) dd)
   exact(yn x).elim (λh=> .aaq (h.trans (ok.cons x _ e1)) (ok.free x e1).2.2 G q3) λh=> .aar h.2.2 G q3
 ·rcases lg h with ⟨k,W,e1,rfl⟩|⟨a,g⟩
  ·have:=(aj.mp e1).1
   exact iU this _
  ·exact av (j.lt _ _ g) (ba ..)
 ·have e0:(dt s0 L H).1.1=H:=rfl
  rw[e0] at Q
  refine oE (H.names.lookup x) (λT=>?_) λW T=>?_
  ·rw[T] at Q;exact nomatch Q
  ·
   rw[T] at Q
   induction W using e_<;>first
    |(cases Q;done)
    |exact B.has x (.inr (pY T))
    |(exact aG (t x (pY T)) λa G b=>⟨a,G⟩)
 ·rcases B.mem x a I with z|z
  ·rcases xJ H.names [] l x a (M▸z) with y|y
   ·cases y
   ·have e:=ok.cons x _ y.1
    cases e.symm.trans D
  ·induction e:F.f a using cO with
   |none=>rfl
   |some o=>exact absurd (aU (X _ _ e)) (bL.mpr z)
end
set_option tactic.hygienic false
section
variable {C:Cfg} {R:Rd} {P:cZ} {ℓ n:Nat} {s0:gq} {L d:Nat} {U:pB} {Z:bk} {F:FZ} {O:List bz} {J:aZ} {s:aN} {A:bU} {m:Nat}
inductive nW C F O s (G6:bz) (Q:List CV->aZ->Prop) (v:bq) u:Prop where
 |mk F' aH aO a vs l:Go C .no F O s F' aH aO u->v= .ref a->s.heap.objs.size<=a->F'.f a=none->a∉aH->a∉C.tabs->tb u.heap a vs->bM F' aH l vs.toList->Q l aO->s.heap.objs.size<=G6->F'.f G6=none->G6∉aH->G6∉C.tabs->a≠G6->(∃m,u.heap.Ns G6 m)->nW C F O s G6 Q v u
theorem nW.ajw (h:nW C F O s a Q v u):∃m,u.heap.Ns a m:=by
 cases h
 assumption
theorem nW.same (x:nW C F O s h Q v u) (i:jI h u.heap f):my C F O s Q v {u with heap:=f}:=by
 obtain⟨F',aH,aO,a,vs,l,g,rfl,j,k,t,w,⟨o,e,y⟩,r,q,z,B,D,E,G,b⟩:=x
 have H:rk C ⟨[h],[]⟩ F' u F' {u with heap:=f}:=rk.Cu g.ext.fz g.ext.base B E (by simp) i
 have I:Go C ⟨[h],[]⟩ F' aH u F' aH aO {u with heap:=f}:= .wi g.dj H λb c=>by simp at c;exact af c D
 have gg:Go C .no F O s F' aH aO {u with heap:=f}:=Go.drop (g.pure.trans I) (λb c=>by simp at c;exact af c (.inr z)) λa=>bw
 exact⟨F',aH,aO,a,vs,l,gg,rfl,j,k,t,w,(aP o ((i.2 a G).trans e) y),r,q⟩
theorem CC (hR:ef C R) (hP:oZ C R ℓ P) {N} (hE:∀k,k<=N->fO C R ℓ P k) (hA:bQ (m+ℓ) A) {b1 t it} {a0} {gs} {H} {pos c1} {de} {use}
  (ok:EK s0 H) (d4:Of t (cT R N (dt s0 L H).1 (dt s0 L H).2 t) (cI R N s0 L it) []=true) (c2:mT it=true) (c3:gs.all Kb=true)
  (he:bT C s0 L U Z F O s.heap) (nw:Nw C F O J s) {Q} {Φ}
  (hK:∀v G6 u,nW C F O s G6 Q v u->Qp (aI C.prog C.w) A a_ use Φ v G6 (.ok .next) u)
  (h:gE (aw P m) (λZ=>gm (aw P m) Z m) (pE (aw P m) P) (cE R N (dt s0 L H).1 (dt s0 L H).2 de b1)
   (.mk (cT R N (dt s0 L H).1 (dt s0 L H).2 t) (cI R N s0 L it) (a0.map (cE R N (dt s0 L H).1 (dt s0 L H).2 0))::Gl (cE R N) (cI R N) (cT R N) (dt s0 L H).1 (dt s0 L H).2 (lJ (cT R N (dt s0 L H).1 (dt s0 L H).2 t)) gs) Z [] J Q):
  aD (aI C.prog C.w) A (IB (.ListComp b1 (⟨t,it,a0,0⟩::gs) H pos) H U c1 (newList []) false (gW it U) use) Φ a_ s:=by
 have M:=λx hx=>he.iK x (ok.free x hx).2.1 (ok.free x hx).1
 refine wpAny_comprehension_free rfl (λx=>nG c2) (GP M) ok.kind (λx hx hl=>by
  have:=ok.cons x.1 x.2 hx;exact hl▸this) (ao (qG hR hP N hE m s0 L it U Z F O J s A _ _ he nw hA rfl h) (λx s1 h1=>letQ ?_) λa a e=>e);intro Q_;refine ao h1 (λc4 I h2=>US h2 λF2 jy c5 l g W g2 Y hw c6 q2=>?_) λa a e=>e
 have gp:=nw.go g2
 refine jE ?_
 have b8:(I.heap.push {cls:= .type "list",data:= .seq [].toArray}).get? I.heap.objs.size=some {cls:= .type "list",data:= .seq [].toArray}:=aT _ rfl
 generalize b9:({I with heap:=I.heap.push {cls:= .type "list",data:= .seq [].toArray}}:aN)=s3
 have g3:Go C .no F2 jy I F2 jy c5 s3:=b9▸.qC gp _
 have b3:=gp.go g3
 have b4:=(he.gb g2).gb g3
 have hD:s3.heap.get? I.heap.objs.size=some {cls:= .type "list",data:= .seq [].toArray}:=b9▸b8
 have T:=aU hD
 have c7:Ho C (wM U H.names []) F2 jy s3.heap:=by
  have hm:∀x a,(x,a)∈wM U H.names []->U.cells.lookup x=some a:=λx a z=>by
   rcases xJ H.names [] M x a z with y|y
   ·cases y
   ·exact y.2
  exact⟨λx a z=>b4.ok.cell x a (mem_of_lookup (hm x a z)),λx y a h1 h2=>b4.ok.inj x y a (hm x a (mem_of_lookup h1)) (hm y a (mem_of_lookup h2))⟩
 refine pW b3 c7 λG6 cells s4 hb=>au ?_
 have b5:=PO (q:=U.qual) (cd:= .none) ok b4 rfl hb b3.fz
 have c8:=b3.go hb.go
 have c9:=(Y.1.go g3 Y.2.1 (λa a z=>bw z) λa a z=>bw z).go hb.go (Y.2.1.go g3) (λa a z=>bw z) λa a z=>bw z
 have X:=λa z=>(Y.2.1 a z).2.2.2
 have j:F2.f I.heap.objs.size=none/\I.heap.objs.size∉C.tabs/\I.heap.objs.size∉jy:=⟨gp.fz.j_,λz=>bG _ (gp.base.lt _ z),λz=>bG _ (gp.dj.fr _ z).2.2⟩
 generalize S:{g_ (some U) H G6 U.globals cells U.qual none .none cx with scope:=My H U}=E at b5
 have D:E.cells=cells:=S▸rfl
 have B:E.locals=G6:=eh S rfl
 have G:=av T hb.lo
 have a7:=g2.ext.size
 have c0:s4.heap.get? I.heap.objs.size=some {cls:= .type "list",data:= .seq [].toArray}:=hb.go.ext.keep _ _ j.2.1 (λz=>by
  rcases bt.mp z with z|z
  ·exact j.2.2 z
  ·cases z) hD
 have b6:∀x a,(x,a)∈wM U H.names []->U.cells.lookup x=some a/\(x,dH)∈H.names:=λx a z=>by
  rcases xJ H.names [] M x a z with y|y
  ·cases y
  ·exact⟨y.2,y.1⟩
 have d5:I.heap.objs.size∉(dX E).a:=λz=>by
  simp only[dX,aE,bO,D,B] at z
  rcases z with z|⟨⟨x,a⟩,z,e⟩
  ·exact absurd G (z▸bG _)
  ·obtain⟨⟨v,o,e1,e2⟩,a⟩:=hb.cls.cell x a z
   dsimp only at e
   rw[e,c0] at e1
   have e1:=ab e1;subst e1
   cases e2
 have d0:∀a∈W.a,a≠I.heap.objs.size/\a∉(dX E).a:=λa z=>by
  refine⟨λe=>by have:=X a z;exact bG _ (e▸this),λy=>?_⟩
  simp only[dX,aE,bO,D,B] at y
  rcases y with y|⟨⟨x,b⟩,y,e⟩
  ·have:=X a z;exact bG _ (il (y▸this) G)
  ·subst e
   rcases hb.mem x b y with q|q
   ·obtain⟨⟨v,c⟩,a⟩:=he.ok.cell x b (mem_of_lookup (b6 x b q).1)
    exact absurd c.lt (bL.mpr (hw b z))
   ·exact absurd (il (X b z) T) (bL.mpr q)
 refine qk (xx d4) λd1 a8 a=>?_
 have a9:∀g∈⟨t,it,a0,0⟩::gs,Kb g=true:=λg hg=>by
  rcases aE.mp hg with rfl|hg
  ·simp[Kb,c2]
  ·exact aV.mp c3 g hg
 have d2:=he.top
 have b7:=Jy (scope:=H) (pos:=pos)
  (by rfl)
  (λg' d6=>ze (a9 g' (bh d6)))
  (jP hR N hE) (qg N hE) hA a8 d1 (λi Y=>d2 i (PL ok _ _ a8 i Y)) b5.top
  (λd7 F O J s d8 Q d9 he nw ha hG=>NV hR hP hE hA a9 (λt=>PL ok N t) gs 0 _ d7 F O J s d8 Q rfl he nw ha (λi h1 h2=>af (d9 i h2) (d2 i h1)) hG)
  d0 l [] F2 jy c5 s4 Q b5 c8 (OX (aP #[] ⟨_,c0,0,rfl⟩ .nil) j.1 j.2.1 j.2.2 d5) c9 ((Y.2.1.go g3).go hb.go) q2
 have b0:ik (aI C.prog C.w) A (.compLoop (.ListComp b1 (⟨t,it,a0,0⟩::gs) H pos) 0 c4 (.ref I.heap.objs.size) E) (Qp (aI C.prog C.w) A a_ use Φ (.ref I.heap.objs.size) G6) s4:=ij b7 λr s6 h6=>by
  obtain⟨rfl,F6,e3,e4,d3,g6,e6,⟨⟨vs,a1,a2⟩,a3,a4,a5,a6⟩,q6⟩:=h6
  refine hK _ G6 s6 ⟨F6,e3,e4,_,vs,d3,(Go.drop (((g2.trans g3).trans hb.go).pure.trans g6) (λa z=> .inr ?_) (λi z=> .inr (c6 i z))),rfl,a7,a3,a5,a4,a1,a2,q6,eG (bP a7 G),B▸e6.ok.Ca,B▸e6.ok.Ao.2,B▸e6.ok.Ao.1,bj G,B▸e6.ok.ns⟩
  rcases bt.mp z with z|z
  ·simp only[tz,iF,aE,bO,D,B] at z
   clear a5 a3 a2 a1 q6 e6 g6 B;rcases z with rfl|rfl|⟨⟨x,b⟩,z,e⟩
   ·exact a7
   ·exact eG (bP a7 G)
   ·obtain⟨z1,z2⟩:=nZ.mp z
    refine eh e ?_
    rcases hb.mem x b z1 with q|q
    ·have e0:(dt s0 L H).1.1=H:=rfl
     rw[e0,(ok.cons x _ (b6 x b q).2)] at z2
     exact bV z2
    ·exact ag a7 (ag (eG T) q)
  ·exact hw a z
 have e5:ik (aI C.prog C.w) A (.compStart (.ListComp b1 (⟨t,it,a0,0⟩::gs) H pos) 0 c4 (.ref I.heap.objs.size) E) (Qp (aI C.prog C.w) A a_ use Φ (.ref I.heap.objs.size) G6) s4:=
  wH (by rfl) b0 (ao (Y.2.2 A s4 (λa ha o e=>hb.go.ext.keep a o (Y.2.1 a ha).2.1 (λz=>by rcases bt.mp z with z|z;exact(Y.2.1 a ha).2.2.1 z;cases z) (g3.ext.keep a o (Y.2.1 a ha).2.1 (λz=>by rcases bt.mp z with z|z;exact(Y.2.1 a ha).2.2.1 z;cases z) e))) (λe7 s6 h6=>by clear b7 d0 c0 D b5 S j X c9 c8 hb c7 T hD b4 b3 g3 b9 gp q2 c6 hw Y g2 h2 h1 h hK;obtain⟨rfl,rfl⟩:=h6;exact b0) λa a e=>e)
 exact e5
end
section
variable {C:Cfg} {R:Rd} {P:cZ} {ℓ n:Nat} {H:gq} {L d:Nat} {U:pB} {Z:bk} {F:FZ} {O:List bz} {J:aZ} {s:aN} {A:bU} {m:Nat}
theorem gc {K:Prop} (h:aw P m Z J .bad Q):K:=by
 exfalso
 induction m using cN<;>exact h
theorem WS (h:aw P (m+1) Z J (DJ (d+1) e) Q):aw P m Z J e (λc J=>Ur c J Q):=h
theorem comp_elim (h:aw P (m+1) Z J (.comp a b) Q):gE (aw P m) (λZ=>gm (aw P m) Z m) (pE (aw P m) P) a b Z [] J (λl J=>Q (.lst l) J):=h
theorem yR (b:aw P m Z J (DJ d e) Q)
  (f:∀k Q,aw P (k+1) Z J e Q->k+1<=m->aD (aI C.prog C.w) A t (my C F O s (λl J=>Q (.lst l) J)) a_ s):
  aD (aI C.prog C.w) A t (cM C .no F O s Q) a_ s:=by
 induction d using cN with
 |zero=>
  induction m using cN with
  |zero=>exact ar b
  |succ m=>exact ao (f m Q b (ai _)) (λv u h=>h.freeze) λa a e=>e
 |succ d=>
  induction m using cN with
  |zero=>exact ar b
  |succ m=>
   induction m using cN with
   |zero=>exact ar b
   |succ m=>exact ao (f m (λc J=>Ur c J Q) b (aQ _)) (λv u=>my.own) λa a e=>e
theorem L_ (e:Nw C F O J s) (h:aw P m Z J (qE ((nI c).map .cst)) Q):aD (aI C.prog C.w) A (gW (.Constant c k p) U) (cM C .no F O s Q) a_ s:=by
 refine letQ ?_;intro g;refine oE (nI c) (λf=>(gc (f▸h))) λj f=>?_
 ·
  induction m using cN with
  |zero=>exact ar h
  |succ m=>
   induction c with
   |none=>exact au (.same e (oz.mpr rfl) h)
   |bool b=>exact af f (au (.same e (iE.mpr rfl) h))
   |int i=>exact DQ (.toks e (cw.mpr ⟨_,rfl⟩) h)
   |float x=>exact Ir (.toks e (eQ.mpr ⟨_,rfl⟩) h)
   |str x=>exact af f (λa a a=> .toks e (ez.mpr ⟨_,rfl⟩) h)
   |_=>exact aW f
theorem Lo {p} {Q} (o:ef C R) (g:bT C H L U Z F O s.heap) (j:Nw C F O J s)
  (h:aw P m Z J (match x==("__debug__" :bD) with
   |true=> .bad
   |false=>match tW (H.1.names.lookup x) with
    | .loc=>qE ((H.2.lookup x).map .var)
    | .Ii=>qE ((H.2.lookup x).map .var)
    | .Gn=>qE ((R.G x).bind λv=>(ES v).map .cst)
    | .bad=> .bad) Q):aD (aI C.prog C.w) A (gW (.Name x p) U) (cM C .no F O s Q) a_ s:=by
 induction b:x=="__debug__" using cB with
 |true=>exact gc (b▸h)
 |false=>
  rw[b] at h
  have var:aw P m Z J (qE ((H.2.lookup x).map .var)) Q->aD (aI C.prog C.w) A (gW (.Name x p) U) (cM C .no F O s Q) a_ s:=λh=>by
   induction k:H.2.lookup x using cO with
   |none=>exact gc (k▸h)
   |some i=>
    rw[k] at h
    induction m using cN with
    |zero=>exact ar h
    |succ m=>
     have h:match Z i with|some c=>Q c J|none=>False:=h
     refine oE (Z i) (λe=>((e▸h).elim)) λc e=>?_
     ·
      rw[e] at h
      exact aG (g.ok.vars x i c k e) λv q r=>Hx (oM g.ok.kind q (.same j r h)) b
  induction a:tW (H.1.names.lookup x) using afq.casesOn with
  |loc=>rw[a] at h;exact var h
  |Ii=>rw[a] at h;exact var h
  |bad=>rw[a] at h;exact gc h
  |Gn=>
   rw[a] at h
   induction l:R.G x using cO with
   |none=>exact gc (l▸h)
   |some v=>
    rw[l] at h
    refine oE (ES v) (λf=>?_) λc f=>?_
    ·simp only[ng,f] at h;refine oV ?_;intro t u;exact gc h
    ·
     simp only[ng,f,Option.map_some,qE] at h
     clear var;induction m using cN with
     |zero=>exact ar h
     |succ m=>
      exact kA o g j a l b (.same j (QV f) h)
end
section
variable {α:Type} (b:α->α->Bool)
noncomputable def zh (f:Nat->α) (k:Nat):α:=f (vm (λi j=>b (f i) (f j)) k)
theorem Pg f:∀l j,(∀i y,l[i]?=some y->y=f (j+1+i))->oe b (zh b f j) l=zh b f (j+l.length):=by
 intro l
 induction l with
 |nil=>
  exact λj g=>rfl
 |cons x l c=>
  intro j h
  have e:(match b x (zh b f j) with
   |true=>x
   |false=>zh b f j)=zh b f (j+1):=by
   rw[h 0 x rfl]
   unfold zh
   rw[vm]
   induction k:b (f (j+1)) (f (vm (λi j=>b (f i) (f j)) j)) using cB<;>rfl
  refine(congrArg (λz=>oe b z l) e).trans ((c (j+1) λi y d=>?_).trans ?_)
  ·have:=h (i+1) y (by simpa using d)
   exact this.trans (congrArg f (zJ (a:=j+1) (b:=i) rfl).symm)
  ·exact congrArg (zh b f) (zJ rfl)
theorem Yl x l (f:Nat->α) (h:∀i y,(x::l)[i]?=some y->y=f i):oe b x l=f (vm (λi j=>b (f i) (f j)) l.length):=by
 have:=Pg b f l 0 λi y a=>by
  have:=h (i+1) y (by simpa using a)
  congr 1;grind-abstractProof only
 rw[dJ] at this
 exact af (h 0 x rfl) this
end
section
variable {prog:jT} {w:oK} {A:bU} {E:bq->aN->Prop} {s:aN}
def BW (prog:jT) (w:oK) (A:bU) (op:CmpOp) (x:bq) (s:aN) (Q:bq->aN->Prop) (E:bq->aN->Prop):Prop:=
 aD (aI prog w) A (kf x) (λit a=>∃I c d n P St e,it= .ref I/\Walks prog w A I c d n P St/\St 0 a.heap/\(∀b∈c,b<a.heap.objs.size)/\0<n/\CmpOf prog w A op P e/\
  ∀v f g,P (vm e (n-1)) v->(∀b o,b∉d->a.heap.get? b=some o->f.get? b=some o)->Q v {a with heap:=f,toks:=g}) E s
theorem G' {St} {vs:Array bq} (f:T<s.heap.objs.size) (k:∀{Q},Q (.ref s.heap.objs.size) {s with heap:=s.heap.push o}->aD (aI prog w) A (kf (.ref T)) Q E s)
  (W:Walks prog w A s.heap.objs.size [s.heap.objs.size,T] [s.heap.objs.size] vs.size (λi v=>vs[i]?=some v) St) (st:St 0 (s.heap.push o)) (l:0<vs.size) (a:CmpOf prog w A op (λi v=>vs[i]?=some v) j)
  (m:∀v c g,vs[vm j (vs.size-1)]?=some v->(∀b o,s.heap.get? b=some o->c.get? b=some o)->Q v {s with heap:=c,toks:=g}):BW prog w A op (.ref T) s Q E:=by
 refine k ⟨_,_,_,_,_,_,j,rfl,W,st,λd n=>(af (dv ..) (dA ((aE.mp n).elim zE λh=>bl.mp h▸zL f))),l,a,λv c g q r=>m v c g q λb o e=>r b o (λt=>?_) (bu _ e)⟩
 ·exact bj (aU e) (bl.mp t)
theorem CmpOf.abB (val:Nat->UInt64) (a:∀i v,P i v->∃t,v= .float (val i) t):
 CmpOf prog w A .Gt P (λi j=>iv (val i) (val j)==some .gt):=λi j b c s Q E d e h=>bA (a j c e) λf=>bA (a i b d) λt=>Bs (rn s _ t) (rn s _ f) PySem.F.slot_float_gt PySem.F.entry_float_gt (PySem.F.args_float_gt_2 _ _) (xh _ _ _ _) (λx=>nomatch x) h
theorem CmpOf.abA (val:Nat->UInt64) (a:∀i v,P i v->∃t,v= .float (val i) t):
 CmpOf prog w A .Lt P (λi j=>iv (val i) (val j)==some .lt):=λi j b c s Q E d e h=>bA (a j c e) λf=>bA (a i b d) λt=>Bs (rn s _ t) (rn s _ f) PySem.F.slot_float_lt PySem.F.entry_float_lt (PySem.F.args_float_lt_2 _ _) (xg _ _ _ _) (λx=>nomatch x) h
end
theorem W_ {mk:α->Tok->bq} (j:∀c x v,g c=some x->Rep F O c v->∃t,v=mk x t) {cs}:
  ∀{vs} {xs},bM F O cs vs->sR g cs=some xs->xs.length=vs.length/\∀i v,vs[i]?=some v->∃t,v=mk (xs.getD i d) t:=by
 induction cs with
 |nil=>exact λr h=>af r (eh (ab h) ⟨rfl,λi v e=>aW e⟩)
 |cons c cs k=>
  intro vs xs r h
  refine cz r λv o a l m=>?_;clear r;subst a
  refine cz (uJ h) λx ys n b f=>?_;clear h;subst f
  obtain⟨i1,i2⟩:=k m b
  refine⟨congrArg BA i1,λi w e=>?_⟩
  induction i using cN with
  |zero=>exact eh (ab e) (j _ _ _ n l)
  |succ i=>exact i2 i w e
section
variable {C:Cfg} {F:FZ} {O:List bz} {J:aZ} {A:bU} {s:aN}
def Mx (C:Cfg) (A:bU) (op:CmpOp) (F:FZ) (O:List bz) (vs:Array bq) (Q:CV->Prop):Prop:=
 0<vs.size/\∃a,CmpOf C.prog C.w A op (λi v=>vs[i]?=some v) a/\∀v,vs[vm a (vs.size-1)]?=some v->∃c,Rep F O c v/\Q c
theorem Qe {d:α} {mk:α->Tok->bq} {a:α->CV} (m:∀c x v,g c=some x->Rep F O c v->∃t,v=mk x t) (n:∀x t,Rep F O (a x) (mk x t)) (r:bM F O cs vs)
  (o:∀P (val:Nat->α),(∀i v,P i v->∃t,v=mk (val i) t)->CmpOf C.prog C.w A op P (λi j=>b (val i) (val j))) (q:sR g cs=some (x::l)) (h:Q (a (oe b x l))):Mx C A op F O vs.toArray Q:=by
 refine fK (W_ (d:=d) m r q) λf k=>⟨BF▸zA (dA zZ) (zE f),_,o _ (λi=>(x::l).getD i d) (λi v e=>k i v (pD▸e)),λv e=>?_⟩
 refine bA (k _ v (pD.symm.trans e)) λt=>?_
 have:=Yl b x l (λi=>(x::l).getD i d) (λi y u=>by refine af dD (af u ?_);rfl)
 exact aP _ (n _ t) (af (Nat.sub_eq_of_eq_add (BF.trans f.symm):vs.toArray.size-1=l.length) (eh this h))
theorem Ha (r:bM F O cs vs) (b:∀P (val:Nat->Int),(∀i v,P i v->∃t,v= .int (val i) t)->CmpOf C.prog C.w A op P (λi j=>f (val i) (val j)))
  (g:∀P (val:Nat->UInt64),(∀i v,P i v->∃t,v= .float (val i) t)->CmpOf C.prog C.w A op P (λi j=>k (val i) (val j))) (h:zi (oe f) (oe k) cs Q):Mx C A op F O vs.toArray Q:=by
 rcases Qf h with ⟨x,l,a,h⟩|⟨x,l,a,h⟩
 ·exact Qe (d:=0) (mk:= .int) (λc x v e r=>cw.mp (Ct e▸r)) (λx t=>cw.mpr ⟨t,rfl⟩) r b a h
 ·exact Qe (d:=0) (mk:= .float) (λc x v e r=>eQ.mp (JN e▸r)) (λx t=>eQ.mpr ⟨t,rfl⟩) r g a h
end
def x' (F:FZ) (O:List bz) (h:kT):List CV->List bq->Prop
 |[],vs=>vs=[]
 |c::l,vs=>∃v r,vs=v::r/\Vw F O h c v/\x' F O h l r
noncomputable def ai5:BI->bq
 | .len=> .builtin "len"
 | .chr=> .builtin "chr"
 | .min=> .builtin "min"
 | .max=> .builtin "max"
 | .round=> .builtin "round"
 | .str=> .type "str"
 | .int=> .type "int"
 | .type=> .type "type"
 | .abs=> .builtin "abs"
section
variable {C:Cfg} {F:FZ} {O:List bz} {J:aZ} {A:bU} {s:aN}
theorem x'.of (b:Nw C F O J s):∀{cs} {vs},bM F O cs vs->x' F O s.heap (cs.map (eC J)) vs:=by
 intro cs
 induction cs with
 |nil=>
  intro vs r
  subst r;rfl
 |cons c cs d=>
  intro vs r
  refine cz r λv e a f g=>?_;clear r;subst a
  exact(eA v e rfl (Vw.eC b f) (d g))
theorem x'.sR {g:CV->Option α} (f:∀c x,g c=some x->∀{v},Vw F O h c v->Rep F O c v):∀{cs} {vs} {xs},x' F O h cs vs->Internal.sR g cs=some xs->bM F O cs vs:=by
 intro cs
 induction cs with
 |nil=>
  intro vs _ r _
  subst r;exact .nil
 |cons c cs i=>
  intro vs xs r e
  refine cz r λv m b j k=>?_;clear r;subst b
  exact cz (uJ e) λx ys l d a=> .cons (f c x l j) (i k d)
theorem x'.best (r:x' F O h cs vs) (e:zi d f cs Q):bM F O cs vs:=by
 rcases e with ⟨x,l,b,a⟩|⟨x,l,b,a⟩
 ·exact r.sR (λc x e {v} r=>by obtain rfl:=Ct e;exact r) b
 ·exact r.sR (λc x e {v} r=>by obtain rfl:=JN e;exact r) b
abbrev YZ (C:Cfg) (A:bU) (F:FZ) (O:List bz) (J:aZ) (s:aN) (f:bq) (vs:List bq) (Q:CV->Prop):Prop:=aD (aI C.prog C.w) A (call f vs) (cM C .no F O s (At J Q)) a_ s
theorem Ke (l:Nw C F O J s) {vs} {h:kT} (m:∀b o,s.heap.get? b=some o->h.get? b=some o) (n:Mx C A op F O vs Q):∃d,CmpOf C.prog C.w A op (λi v=>vs[i]?=some v) d/\
  ∀v f g,vs[vm d (vs.size-1)]?=some v->(∀b o,h.get? b=some o->f.get? b=some o)->up s {s with heap:=f,toks:=g}->cM C .no F O s (At J Q) v {s with heap:=f,toks:=g}:=
 aG n.2 λd t u=>aP d t λv f g e j k=>aG (u v e) λc r q=>⟨F,O,J,c,.lC l (λa o e=>j a o (m a o e)) k.1 k.2,r,q,rfl⟩
theorem Dz (H:Nw C F O J s) (I:A.handled=none) (r:x' F O s.heap cs vs) (h:RO (oe L) (oe M) cs Q)
  (N:∀P (val:Nat->Int),(∀i v,P i v->∃t,v= .int (val i) t)->CmpOf C.prog C.w A.in1 op P (λi j=>L (val i) (val j)))
  (R:∀P (val:Nat->UInt64),(∀i v,P i v->∃t,v= .float (val i) t)->CmpOf C.prog C.w A.in1 op P (λi j=>M (val i) (val j)))
  (T:∀{x} {Q} {E},BW C.prog C.w A.in1 op x s Q E->aD (aI C.prog C.w) A (call f [x]) Q E s)
  (W:∀{a b} {Q} {E},BW C.prog C.w A.in1 op (.ref s.heap.objs.size) {s with heap:=s.heap.push {cls:= .type "tuple",data:= .seq #[a,b]}} Q E->aD (aI C.prog C.w) A (call f [a,b]) Q E s)
  (X:∀{a b c} {Q} {E},BW C.prog C.w A.in1 op (.ref s.heap.objs.size) {s with heap:=s.heap.push {cls:= .type "tuple",data:= .seq #[a,b,c]}} Q E->aD (aI C.prog C.w) A (call f [a,b,c]) Q E s):YZ C A F O J s f vs Q:=by
 have d:∀{cs vs E},bM F O cs vs->zi (oe L) (oe M) cs Q->BW C.prog C.w A.in1 op (.ref s.heap.objs.size) {s with heap:=s.heap.push {cls:= .type "tuple",data:= .seq vs.toArray}} (λv u=>up s u->cM C .no F O s (At J Q) v u) E:=λ{cs vs E} r h=>by
  have m:(s.heap.push {cls:= .type "tuple",data:= .seq vs.toArray}).IsTuple s.heap.objs.size vs.toArray:=⟨_,aT _ rfl,rfl,_,rfl⟩
  have g:=Ha r N R h
  have lt:=aG m λo e a=>aU e
  obtain⟨Y,n,k⟩:=Ke H (λa o=>bu _) g
  exact G' lt (zr m) (Walks.tuple (A:=A.in1) I _ _ (bj lt) vs.toArray) ⟨eJ _ (aT _ rfl) rfl rfl,m.push _⟩ g.1 n λv q y e z=>k v q y e z
 induction cs using cL with
 |nil=>exact ar h
 |cons a cs=>induction cs using cL with
  |nil=>induction a using CV.casesOn with
   |lst l=>
    obtain⟨v,S,rfl,⟨a,vs,rfl,B,Z⟩,rfl⟩:=r
    have g:=Ha Z N R h
    have lt:=aG B.isList λo e a=>aU e
    exact aG (Ke H (λa o e=>e) g) λY n k=>gF (T (G' lt (te B.isList) (Walks.list (A:=A.in1) I _ a (bj lt) vs) ⟨eJ _ (aT _ rfl) rfl rfl,B.isList.push _⟩ g.1 n λv q y e z=>k v q y e z))
   |_=>exact ar h
  |cons b cs=>induction cs using cL with
   |nil=>
    have D:=r.best h
    obtain⟨v,S,rfl,a,v2,G,rfl,a,rfl⟩:=r
    exact gF (W (d D h))
   |cons c cs=>induction cs using cL with
    |nil=>
     have D:=r.best h
     obtain⟨v,S,rfl,a,v2,G,rfl,a,v3,a0,rfl,a,rfl⟩:=r
     exact gF (X (d D h))
    |cons _ _=>exact ar h
end
section
variable {C:Cfg} {F:FZ} {O:List bz} {J:aZ} {A:bU} {s:aN}
theorem Kc (h:wQ.lookup v=some b):v=ai5 b:=by
 refine iQ (eT.mp h) λd e q a=>?_
 have c:(v,b)∈wQ:=by rw[q];simp
 simp only[wQ,aE,yG,pT,or_false] at c
 clear q h;clear a;rcases c with ⟨rfl,rfl⟩|⟨rfl,rfl⟩|⟨rfl,rfl⟩|⟨rfl,rfl⟩|⟨rfl,rfl⟩|⟨rfl,rfl⟩|⟨rfl,rfl⟩|⟨rfl,rfl⟩|⟨rfl,rfl⟩<;>rfl
theorem x'.one (r:x' F O h cs vs) (e:Internal.one cs f):∃c v,vs=[v]/\Vw F O h c v/\f c:=by
 refine aG (Jr e) λc a g=>?_;clear e;subst a
 exact cz r λv j b i d=>af b (af d (eA c v rfl i g))
theorem RV (d:Nw C F O J s) (r:Vw F O s.heap c v) (h:YQ .len [c] Q):YZ C A F O J s (.builtin "len") [v] Q:=by
 induction c using CV.casesOn with
 |str x=>
  exact bA (gG r) λt=>P.len_str (by have:=uU h.1;omega) (.toks d (cw.mpr ⟨_,rfl⟩) ⟨h.2,rfl⟩ (dg (aQ _)))
 |lst l=>
  exact cz r λa vs b f e=>af b (call_len_list f.isList (by have:=uU h.1;refine af e.size ?_;omega) (.toks d (cw.mpr ⟨_,af e.size rfl⟩) ⟨h.2,rfl⟩ (dg (aQ _))))
 |_=>exact ar h
theorem Nj (b:Nw C F O J s) (r:Vw F O s.heap c v) (h:YQ .type [c] Q):YZ C A F O J s (.type "type") [v] Q:=by
 induction c using CV.casesOn with
 |str x=>obtain⟨t,rfl⟩:=gG r;exact vg (kR _ _ _) (by decide) (.same b (qi.mpr rfl) ⟨h,rfl⟩)
 |int x=>obtain⟨t,rfl⟩:=gv r;exact vg (Hz _ _ _) (by decide) (.same b (qi.mpr rfl) ⟨h,rfl⟩)
 |bW x=>obtain⟨t,rfl⟩:=nR r;exact vg (rn _ _ _) (by decide) (.same b (qi.mpr rfl) ⟨h,rfl⟩)
 |lst x=>
  exact cz r λa vs d e f=>af d (vg e.isList.typeIs (by decide) (.same b (qi.mpr rfl) ⟨h,rfl⟩))
 |_=>exact ar h
theorem afa b l {vs} {Q} (f:Nw C F O J s) (k:A.handled=none) (r:x' F O s.heap l vs) (h:YQ b l Q):
  YZ C A F O J s (ai5 b) vs Q:=by
 induction b using BI.casesOn with
 |len=>refine cz (r.one h) λc v g d h=>?_;subst g;exact RV f d h
 |type=>refine cz (r.one h) λc v g d h=>?_;subst g;exact Nj f d h
 |max=>exact Dz f k r h (λa val=>CmpOf.ints_gt val) (λa val=>CmpOf.abB val) call_max_walk call_max_two call_max_three
 |min=>exact Dz f k r h (λa val=>CmpOf.ints_lt val) (λa val=>CmpOf.abA val) call_min_walk call_min_two call_min_three
 |abs=>
  refine sF (r.one h) λc v d h=>?_
  induction c using CV.casesOn with
  |int x=>exact bA (gv d) λt=>et (call_abs_int λu D w=> .toks f (cw.mpr ⟨u,rfl⟩) ⟨h,rfl⟩ w)
  |_=>exact ar h
 |chr=>
  refine sF (r.one h) λc v d h=>?_
  induction c using CV.casesOn with
  |int x=>
   exact bA (gv d) λt=>P.chr_of_int (iB.mpr ⟨decide_eq_false (by omega),decide_eq_false (by omega)⟩) (.toks f (ez.mpr ⟨_,rfl⟩) ⟨h.2,rfl⟩)
  |_=>exact ar h
 |str=>
  refine sF (r.one h) λc v d h=>?_
  induction c using CV.casesOn with
  |int a=>
   refine bA (gv d) λt=>P.str_of_int ?_ (.toks f (ez.mpr ⟨_,rfl⟩) ⟨h.2,rfl⟩)
   by_cases o:a.natAbs=0
   ·refine af o ?_;decide
   ·have:=(Nat.log2_lt o).mpr h.1
    exact zA this (by decide)
  |_=>exact ar h
 |int=>
  refine sF (r.one h) λc v d h=>?_
  induction c using CV.casesOn with
  |str x=>
   refine bA (gG d) λt=>?_
   obtain⟨y,n,z,q⟩:=h
   exact KIN.call_text z y (.toks f (cw.mpr ⟨_,rfl⟩) ⟨q,rfl⟩)
  |bW x=>
   exact bA (nR d) λt=>nH h λB m e i q=>call_int_float i (.toks f (cw.mpr ⟨_,rfl⟩) ⟨q,rfl⟩)
  |_=>exact ar h
 |round=>
  refine sF (r.one h) λc v d h=>?_
  induction c using CV.casesOn with
  |bW x=>
   obtain⟨t,rfl⟩:=nR d
   refine nH h λB m e i q=>Flt.call_round_float k (λj=>?_) (λj=>?_) λj=>af (Flt.toInt_fin i) (.toks f (cw.mpr ⟨_,rfl⟩) ⟨q,rfl⟩)
   ·simp[Float64.isNaN,i] at j
   ·simp[eX,i] at j
  |int a=>
   obtain⟨t,rfl⟩:=gv d
   exact call_round_int (.same f (cw.mpr ⟨_,rfl⟩) ⟨h,rfl⟩)
  |_=>exact ar h
theorem Td (c:wQ.lookup v=some b) (a:Nw C F O J s) (d:A.handled=none) (r:bM F O cs vs) (h:YQ b (cs.map (eC J)) Q):
 aD (aI C.prog C.w) A (call v vs) (cM C .no F O s (At J Q)) a_ s:=af (Kc c) (afa b _ a d (.of a r) h)
end
section
variable {C:Cfg} {R:Rd} {P:cZ} {ℓ n:Nat} {H:gq} {L d:Nat} {U:pB} {Z:bk} {F:FZ} {O:List bz} {J:aZ} {s:aN} {A:bU} {m:Nat}
theorem DL (h:xA o=true):attributeBase o x U a=a:=by
 induction o using aY with
 |Call f args b p=>induction f using aY with
  |Name id q=>induction args using cL with
   |nil=>induction b using cL with
    |nil=>
     have h:(id !="super")=true:=h
     show(if _ then _ else _)=_
     rw[if_pos (af h rfl)]
    |cons _ _=>rfl
   |cons _ _=>clear h;induction b using cL<;>rfl
  |_=>rfl
 |_=>rfl
theorem aec:∀a b p,mq a=some b->(xb p (mD a U)).all (·.1.isSome)=true/\(xb p (mD a U)).filterMap (·.1)=b:=by
 have f:∀a b,mq a=some b->(mD a U).all (·.1.isSome)=true/\(mD a U).filterMap (·.1)=b:=by
  intro a
  induction a with
  |nil=>intro b h;have h:=ab h;subst h;exact⟨rfl,rfl⟩
  |cons k a o=>
   intro b h
   obtain⟨x,v,p⟩:=k
   induction x using cO with
   |none=>exact aW h
   |some x=>
    have h:(mq a).map (x:: ·)=some b:=h
    refine oE (mq a) (λc=>(aW (c▸h))) λl c=>?_
    ·
     rw[c] at h;refine eh (ab h) ?_
     obtain⟨e,g⟩:=o l c
     exact⟨e,congrArg (x:: ·) g⟩
 intro a b p h
 obtain⟨e,g⟩:=f a b h
 constructor
 ·rw[aV] at e ⊢
  refine λz j=>aG (bO.mp j) λy q i=>?_;clear j;subst i
  exact e y q
 ·refine eh g (af List.filterMap_map ?_)
  rfl
theorem WM:∀{es} {p},es.all bR=true->(backTo p (lq es U)).all (λx=>!x.1)=true:=by
 intro es p h
 have:=BR (U:=U) (pos:=p) h
 rw[aV]
 intro z a
 rw[tr] at this
 have:=this z a
 simpa using this
theorem DO (l:FN o q p args b=true) (r:args.all bR=true) (w:mq b=some t)
  (h:aD M A (gW o U) (λu s1=>∃f first c,(∀y v,v (f,first) c->aD M A (getMethod u x y) v E s1)/\
   aD M A (spliced (backTo p (lq args U))) (λvs z=>aD M A (evalAll ((xb p (mD b U)).map (·.2))) (λj B=>aD M A (qt f) (λ_ D=>aD M A (call f (first++vs) (t.zip j)) Q E D) E B) E z) E c) E s):
  aD M A (gW (.Call (.Attribute o x q) args b p) U) Q E s:=by
 simp only[FN,cW,decide_eq_true_eq] at l
 obtain⟨⟨G,I⟩,W⟩:=l
 obtain⟨i,k⟩:=aec b t p w
 rw[arm_eval_Call,DL G]
 refine ae (ao h (λu s1 N=>ae (cD (nH N λf first c S T=>?_))) λa a e=>e)
 have g:HA (args.length+b.length) (backTo p (lq args U)) (xb p (mD b U))=true:=by
  unfold HA
  rw[WM r,i,IU,IU]
  split<;>grind-abstractProof only
 unfold methodCall
 exact af g (ae (bf (S _ _ (ae (jD (by unfold Iy;simp[I]:Iy true o U q p=pure p) (yy (BR r) i (af k T)))))))
theorem kO (j:FN o k p args b=true) (l:args.all bR=true) (q:mq b=some r)
  (h:aD M A (gW o U) (λg s1=>∃f first,(∀t i,i (f,first) s1->aD M A (getMethod g x t) i E s1)/\
   aD M A (spliced (backTo p (lq args U))) (λvs u=>aD M A (evalAll ((xb p (mD b U)).map (·.2))) (λc v=>aD M A (qt f) (λ_ w=>aD M A (call f (first++vs) (r.zip c)) Q E w) E v) E u) E s1) E s):
  aD M A (gW (.Call (.Attribute o x k) args b p) U) Q E s:=
 DO j l q (ao h (λg s1 y=>iQ y λf first z B=>ww f first s1 z B) λa a e=>e)
theorem GF (t:fO C R ℓ P n) (u:bQ (m+ℓ) A) p:∀b F O J s Q,bT C H L U Z F O s.heap->Nw C F O J s->
  qW (aw P m) Z (b.map λk=>cE R n H L 0 k.value) J Q->aD (aI C.prog C.w) A (evalAll ((xb p (mD b U)).map (·.2))) (Mu C F O s Q) a_ s:=by
 intro b
 induction b with
 |nil=>
  exact λF O J s Q g f h=>au ⟨F,O,J,[],f.refl,.nil,h⟩
 |cons i b y=>
  obtain⟨x,v,q⟩:=i
  refine λF O J s Q g f h=>ae (ae (ct f (t m H L 0 v U Z F O J s A _ g f u h) λw z j l s1 c g1 o B D=>ae (cD (au (ae (bf (ao (y z j l s1 _ (g.gb g1) o D) (λvs N E=>?_) λa a e=>e)))))))
  obtain⟨G,jy,r,cs,g2,I,M⟩:=E
  exact au ⟨G,jy,r,c::cs,g1.trans g2,.cons (B.mono g2.ext.le g2.jo) I,M⟩
theorem ew.zip {l:List bD} (r:bM F O cs vs):ew F O (l.zip cs) (l.zip vs):=by
 induction l generalizing cs vs with
 |nil=>exact rfl
 |cons x l b=>
  induction cs using cL with
  |nil=>
   exact af r rfl
  |cons c cs=>
   refine cz r λv g a e f=>?_;clear r;subst a
   exact(eA v _ rfl e (b f))
theorem LF (o:fO C R ℓ P n) (q:bQ (m+ℓ) A) pos:∀es d F O J s Q,bT C H L U Z F O s.heap->Nw C F O J s->es.all bR=true->
  qW (aw P m) Z (aaz (cE R n H L) d es) J Q->aD (aI C.prog C.w) A (spliced (backTo pos (lq es U))) (Mu C F O s Q) a_ s:=by
 intro es
 induction es with
 |nil=>
  exact λd F O J s Q g b E h=>au ⟨F,O,J,[],b.refl,.nil,h⟩
 |cons e es r=>
  intro d F O J s Q g b f h
  replace f:=aq.mp f
  refine af (tR f.1) ?_
  show aD _ _ (do let v<-gW e U;let vs<-xT [v] (spliced (backTo pos (lq es U)));pure (v::vs)) _ _ _
  refine ae (ct b (o m H L (d%4) e U Z F O J s A _ g b q h) λw t i j s1 c g1 k u x=>ae (bf (ao (r (d/4) t i j s1 _ (g.gb g1) k f.2 x) (λvs G y=>?_) λa a e=>e)))
  obtain⟨z,jy,l,cs,g2,B,D⟩:=y
  exact au ⟨z,jy,l,c::cs,g1.trans g2,.cons (u.mono g2.ext.le g2.jo) B,D⟩
end
set_option tactic.hygienic true
noncomputable def agI:SM->bD
 | .join=>"join"
 | .isdigit=>"isdigit"
 | .index=>"index"
 | .count=>"count"
 | .replace=>"replace"
 | .lower=>"lower"
theorem Wi (h:BS.lookup v=some b):v=agI b:=by
 refine iQ (eT.mp h) λd e q a=>?_
 have c:(v,b)∈BS:=by rw[q];simp
 simp only[BS,aE,yG,pT,or_false] at c
 clear q h;clear a;rcases c with ⟨rfl,rfl⟩|⟨rfl,rfl⟩|⟨rfl,rfl⟩|⟨rfl,rfl⟩|⟨rfl,rfl⟩|⟨rfl,rfl⟩<;>rfl
noncomputable def adw:SM->String
 | .join=>"str.join"
 | .isdigit=>"str.isdigit"
 | .index=>"str.index"
 | .count=>"str.count"
 | .replace=>"str.replace"
 | .lower=>"str.lower"
theorem Jc m:Slot "str" (agI m) (adw m)/\typeOf (.builtin (adw m))=pure (.type "method_descriptor"):=by
 induction m using SM.casesOn with
 |join=>exact⟨vQ,PySem.F.type_str_join⟩
 |isdigit=>exact⟨tG,PySem.F.type_str_isdigit⟩
 |index=>exact⟨vt,PySem.F.type_str_index⟩
 |count=>exact⟨vv,PySem.F.type_str_count⟩
 |replace=>exact⟨tF,PySem.F.type_str_replace⟩
 |lower=>exact⟨vq,PySem.F.type_str_lower⟩
section
variable {C:Cfg} {R:Rd} {P:cZ} {ℓ n:Nat} {H:gq} {L d:Nat} {U:pB} {Z:bk} {F:FZ} {O:List bz} {J:aZ} {s:aN} {A:bU} {m:Nat}
theorem Wf:∀{l} {vs} {ss},bM F O l vs->strsOf l=some ss->∃ps:List (bD×Tok),strValues ps=vs/\ps.map (·.1)=ss:=by
 intro cs
 induction cs with
 |nil=>
  intro vs ss r h
  subst r;exact eh (ab h) (aP [] rfl rfl)
 |cons c cs f=>
  intro vs ss r h
  refine cz r λv k a g i=>af a (cz (uJ h) λx ys j e b=>af b ?_)
  clear h;clear b a r;obtain rfl:=tQ j
  exact bA (ez.mp g) λt=>aG (f i e) λps e1 e2=>(aP ((x,t)::ps) (e1▸rfl) (e2▸rfl))
theorem sJ (h:dT n=false):n<=sizeLine:=by
 rw[mC]
 rw[dT,mC] at h
 grind-abstractProof only
theorem Yk (c:bD):∀(ss:List bD) k,ss.foldl (λa b=>a+b.length+c.length) k=k+(ss.map (·.length)).sum+ss.length*c.length:=by
 intro ss
 induction ss with
 |nil=>
  intro k
  simp
 |cons x ss e=>
  intro k
  rw[List.foldl_cons,e]
  simp only[gC,IS,bS,ix,oL]
  grind-abstractProof only
theorem Pc a ss:(pe a ss).length<=ss.toArray.foldl (· + ·.length+a.length) 0:=by
 rw[Iw,zG,Yk,dJ]
 exact bJ (cP _ (eL _ _)) _
theorem Ld (h:dT (placed x f).size=false):(⟨placed x f⟩:bD).length<=sizeLine:=sJ h
theorem x'.nil (r:x' F O h cs vs) (a:Internal.nil cs Q):vs=[]/\Q:=by
 induction cs using cL with
 |nil=>exact⟨r,a⟩
 |cons _ _=>exact ar a
theorem x'.Js (r:x' F O h cs vs) (b:Internal.Js cs f):∃y a,vs=[.str y a]/\f y:=by
 refine cps λk e=>?_
 obtain⟨c,v,rfl,g,y,i,j⟩:=r.one b
 obtain rfl:=tQ i
 exact e (bA (gG g) λa=>fX y a rfl j)
theorem LJ {ps:List (bD×Tok)} (h:∀p,ps≠[p]):lM a (ps.map (·.1))=pe a (ps.map (·.1)):=by
 induction ps using cL with
 |nil=>rfl
 |cons p ps=>induction ps using cL with
  |nil=>exact absurd rfl (h p)
  |cons q ps=>rfl
theorem OO (i:Nw C F O J s) (r:Vw F O s.heap c v) (h:wm .join x [c] Q):YZ C A F O J s (.builtin "str.join") [.str x t,v] Q:=by
 induction c using CV.casesOn with
 |lst l=>
  refine cz r λa o e j k=>af e (oH h λss f b q=>aG (Wf k f) λps e1 e=>?_);clear f;subst e
  refine zt vQ (kR s x t) PySem.F.entry_str_join (PySem.F.args_str_join_2 _ _) (meets_str_join_list x t a ps b) ⟨e1▸j.isList,?_⟩
  unfold joinMade
  split
  ·rename_i p
   exact .same i (ez.mpr ⟨p.2,rfl⟩) ⟨q,rfl⟩
  ·rename_i g
   exact⟨ag (Pc x _) (sJ b),.toks i (ez.mpr ⟨_,rfl⟩) ⟨LJ g▸q,rfl⟩⟩
 |_=>exact ar h
theorem WY {o:SM} {x:bD} {t:Tok} {l:List CV} {vs:List bq} {Q:CV->Prop} (j:Nw C F O J s) (r:x' F O s.heap l vs) (h:wm o x l Q):
  YZ C A F O J s (.builtin (adw o)) (.str x t::vs) Q:=by
 induction o using SM.casesOn with
 |join=>refine cz (r.one h) λc v g u h=>?_;refine af g ?_;exact OO j u h
 |isdigit=>
  refine Es (r.nil h) λh=>?_
  exact vk tG (kR s _ t) PySem.F.entry_str_isdigit (PySem.F.args_str_isdigit_1 _) (gives_str_isdigit _ t) (.same j (iE.mpr rfl) ⟨h,rfl⟩)
 |index=>
  obtain⟨y,k,rfl,i,rest,B,q⟩:=r.Js h
  exact vk vt (kR s _ t) PySem.F.entry_str_index (PySem.F.args_str_index_2 _ _) (gives_str_index _ y t k i rest B) (.toks j (cw.mpr ⟨_,rfl⟩) ⟨q,rfl⟩)
 |count=>
  refine iQ (r.Js h) λy k g q=>?_;refine af g ?_
  exact vk vv (kR s _ t) PySem.F.entry_str_count (PySem.F.args_str_count_2 _ _) (gives_str_count _ y t k) (.toks j (cw.mpr ⟨_,rfl⟩) ⟨q,rfl⟩)
 |lower=>
  refine Es (r.nil h) λh=>?_
  exact vk vq (kR s _ t) PySem.F.entry_str_lower (PySem.F.args_str_lower_1 _) (gives_str_lower _ t h.1) ⟨Ld h.1,.toks j (ez.mpr ⟨_,rfl⟩) ⟨h.2,rfl⟩⟩
 |replace=>induction l using cL with
  |nil=>exact ar h
  |cons a l=>
   refine sF r λv N D r=>?_
   obtain⟨b,S,rfl,E,y,z,G,I,M,q⟩:=r.one h
   obtain rfl:=tQ G
   obtain rfl:=tQ I
   refine bA (gG D) λk=>?_
   refine bA (gG E) λw=>?_
   have f:((d_ x y 0 x.length (x.length+1)).isEmpty||y.length==0&&z.length==0)=true:=af M rfl
   exact vk tF (kR s _ t) PySem.F.entry_str_replace (PySem.F.args_str_replace_3 _ _ _) (gives_str_replace _ y z t k w λe=>bV (f.symm.trans e).symm) (af f (.same j (ez.mpr ⟨_,rfl⟩) ⟨q,rfl⟩))
end
set_option tactic.hygienic false
section
variable {C:Cfg} {R:Rd} {P:cZ} {ℓ n:Nat} {H:gq} {L d:Nat} {U:pB} {Z:bk} {F:FZ} {O:List bz} {J:aZ} {s:aN} {A:bU} {m:Nat}
theorem NY (a:ef C R) (h:recv R o x=some cf):ta C cf.1 x cf.2:=by
 induction o using aY with
 |Name r p=>exact a.mt _ _ _ _ h
 |_=>exact aW h
theorem handed (f:Lc c=true) (r:Rep F O c v):handedOut v=pure v:=by
 induction c using CV.casesOn with
 |none=>rw[oz.mp r];rfl
 |bool x=>rw[iE.mp r];rfl
 |int x=>refine bA (cw.mp r) λt=>?_;rfl
 |bW x=>refine bA (eQ.mp r) λt=>?_;rfl
 |str x=>refine bA (ez.mp r) λt=>?_;rfl
 |tup x=>refine nH (Aj.mp r) λa a a b a=>?_;subst b;rfl
 |lst x=>refine nH (NW.mp r) λa a a b a=>?_;subst b;rfl
 |gx x=>refine nH (NX.mp r) λa a a b a=>?_;subst b;rfl
 |own x=>refine aG (io.mp r) λa a e=>af e ?_;rfl
 |obj x=>
  rw[qi.mp r]
  clear r;induction x using cK with
  |ref a=>rfl
  |_=>exact bV f
theorem wx (D:xR C f x) (i:Nw C F O J s) (E:Rep F O o G) (h:JH f J o x Q):
  aD (aI C.prog C.w) A (getAttr G x z) (cM C .no F O s (At J Q)) a_ s:=by
 refine cps λK_ I=>?_
 obtain⟨k,d,l,rfl,M,S,h⟩:=yP h
 obtain⟨a,b,m,ha,hb,rfl,T,W,X,ob,eo,j⟩:=AH i E M S
 refine oH (jz h) λc Y t q=>GJ D λmN e u a0 y hB=>iQ (AV i e) λN r hC hN=>aG (X.1 x c Y) λv hv B=>?_
 obtain⟨hp,g,dr,tk,os⟩:=s
 exact I (load_attr hC hN u y hB W hv (handed t B) (.toks i B ⟨q,rfl⟩))
theorem FF (h:(a==om)=false):Hm F.pr F.w a {cls:= .type "dict",data:= .dict #[]} []:=by
 refine⟨h,#[],_,fg rfl rfl rfl,rfl,λe b=>?_,.nil,by simp⟩
 simp at b
theorem PC (b:Nw C F O J s) (h:aw P (m+1) Z J (DJ d (.gx [] [])) Q):aD (aI C.prog C.w) A (gW (.Dict [] [] p) U) (cM C .no F O s Q) a_ s:=by
 refine wpAny_Dict_empty ?_
 have c:(s.heap.objs.size==om)=false:=by
  refine eY b.top.Ja λo f=>?_
  have:=aU (b.fz _ _ (b.top.k _ _ f))
  rw[beq_eq_false_iff_ne]
  exact λe=>bG _ (e▸this)
 have a:(s.heap.push {cls:= .type "dict",data:= .dict #[]}).get? s.heap.objs.size=some {cls:= .type "dict",data:= .dict #[]}:=aT _ rfl
 induction d using cN with
 |zero=>
  refine⟨_,O,J,.gx [],.Rz b _ a,NX.mpr (jq _ _ [] rfl FZ.jd (FF c) rfl),h.2.2.2⟩
 |succ d=>
  induction m using cN with
  |zero=>exact ar h
  |succ m=>
   have g:Q (.own J.length) (J++[.dict []]):=h.2.2.2
   refine⟨F,O++[s.heap.objs.size],J++[.dict []],.own J.length,Go.own (.qC b _) (ai _) b.fz.j_ (λh=>bG _ (b.dj.fr _ h).2.2) (λh=>bG _ (b.base.lt _ h)) (aU a) (show s' F (O++[s.heap.objs.size]) (s.heap.push {cls:= .type "dict",data:= .dict #[]}) s.heap.objs.size (.dict []) from(eA _ [] a (FF c) rfl)),io.mpr (aP _ (by refine eh b.dj.len ?_;simp) rfl),g⟩
theorem bM.replicate (r:Rep F O c v):∀k,bM F O (iz k c) (iz k v):=by
 intro k
 induction k with
 |zero=>
  exact .nil
 |succ k a=>
  exact .cons r a
theorem Rt (I:fO C R ℓ P n) (W:bQ (m+1+ℓ) A) {e r} {p M} {Q} (B:bR e=true) (N:bT C H L U Z F O s.heap) (S:Nw C F O J s)
  (h:aw P (m+1) Z J (.rep (cE R n H L 0 e) (cE R n H L 0 r)) Q):aD (aI C.prog C.w) A (gW (.BinOp (.List [e] M) .Mult r p) U) (my C F O s (λl J=>Q (.lst l) J)) a_ s:=by
 have o:=W.le (zS zP)
 refine letQ ?_;intro D;refine wpAny_BinOp (wpAny_List (letQ ?_));intro D;refine af (tR B) ?_
 show aD _ _ (do let v<-gW e U;let vs<-xT [v] (spliced (backTo M (lq [] U)));pure (v::vs)) _ _ _
 refine letQ ?_;intro D;refine ae (ct S (I m H L 0 e U Z F O J s A _ N S o h) λv E g t s1 c g1 f X Y=>ae (bf (au (au ⟨by rw[mC];simp,?_⟩))))
 have x:(s1.heap.push {cls:= .type "list",data:= .seq [v].toArray}).get? s1.heap.objs.size=some {cls:= .type "list",data:= .seq [v].toArray}:=aT _ rfl
 have g2:Go C .no E g s1 E g t {s1 with heap:=s1.heap.push {cls:= .type "list",data:= .seq [v].toArray}}:= .qC f _
 have gp:=f.go g2
 refine letQ ?_;intro D;refine ct gp (I m H L 0 r U Z E g t _ A _ ((N.gb g1).gb g2) gp o Y) λk F3 a0 a3 s3 ck g3 G r3 T=>?_
 induction ck using CV.casesOn with
 |int i=>
  refine bA (cw.mp r3) λy=>?_
  obtain⟨⟨h0,b⟩,q⟩:=T
  have a:=g3.ext.keep s1.heap.objs.size _ (λz=>bG _ (f.base.lt _ z)) (λz=>by
   rcases bt.mp z with z|z
   ·exact bG _ (f.dj.fr _ z).2.2
   ·cases z) x
  refine wpAny_binaryOp_repeat_ref (by decide) ⟨_,a,rfl⟩ (λu=>Hz u i y) noFill_list_mul PySem.F.fills_int_mul vS repeat_list PySem.F.slot_int_index.lookup
   (zt vS (Hz _ i y) PySem.F.entry_int_rmul (PySem.F.args_int_rmul_2 _ _) (int___rmul___int_list i y _ [v].toArray 0)
    (iJ a rfl ⟨_,a,rfl⟩ (zt PySem.F.slot_list_mul (aP _ a rfl) PySem.F.entry_list_mul (PySem.F.args_list_mul_2 _ _)
     (zX _ [v].toArray 0 i y (by simp[HH];omega) (by simp;exact gS b (by decide)) (by simp[IF,fj];exact gS b (by decide))) ⟨a,?_⟩)))
  have e:(List.foldl (λx1 x2=>x1++x2) #[] (iz (if [v].toArray.isEmpty=true then 0 else i.toNat) [v].toArray))=(iz i.toNat v).toArray:=by
   rw[listMul_foldl_if]
   congr 1
   generalize i.toNat=j
   induction j with
   |zero=>rfl
   |succ j ih=>refine af List.replicate_succ (af List.flatten_cons (af ih ?_));rfl
  exact af e (((my.made G (bM.replicate (X.mono (g2.trans g3).ext.le (g2.trans g3).jo) _) q).trans ((g1.trans g2).trans g3)))
 |_=>exact ar T
theorem RA {Q:EPost} (u:Nw C F O J s) (y:O[k]?=some a) (B:J[k]?=some (.list (x::l))) (D:(x::l).length<=fj) (q:Q x (J.set k (.list l))):
  aD (aI C.prog C.w) A (call (.builtin "list.pop") [.ref a,.int 0 t]) (cM C .no F O s Q) a_ s:=by
 refine cps λN E=>aG (u.dj.at_ k a _ y B) λvs c r=>eY c.plain λn i=>cz r λv f e G z=>?_
 have j:vs=(v::f).toArray:=e▸rfl
 clear r c;subst j
 refine E (zt vR (aP _ i rfl) PySem.F.entry_list_pop (PySem.F.args_list_pop_2 _ _) (HF a _ n 0 t 0 v (by decide) (by simp[jt]) (by rfl) (by simpa using (by have:=z.length;exact zT (zS (zE this)) D))) ⟨i,?_⟩)
 have I:sg (λxs=>xs.eraseIdxIfInBounds 0) {cls:= .type "list",data:= .seq (v::f).toArray n}={cls:= .type "list",data:= .seq f.toArray (n+1)}:=by
  simp[sg,Array.eraseIdxIfInBounds,e]
 have g:(s.heap.update a (sg λxs=>xs.eraseIdxIfInBounds 0)).get? a=some {cls:= .type "list",data:= .seq f.toArray (n+1)}:=by
  rw[lQ _ i (by rfl),I]
 have h:jI a s.heap (s.heap.update a (sg λxs=>xs.eraseIdxIfInBounds 0)):=ye ..
 exact⟨F,O,_,x,.oP (m:= .list l) u y (λb o M=>(h.2 b M).trans) (dW h.1.symm) (aP f.toArray ⟨_,g,n+1,rfl⟩ (by simpa using z)),G,q⟩
theorem Ls (hR:ef C R) (hP:oZ C R ℓ P) (z:fO C R ℓ P n) (u:bQ (m+ℓ) A) {o} {x} {ap p} {args} {f} {kn} {cf} {Q} (hm:FN o ap p args f=true) (hs:args.all bR=true) (j:recv R o x=some cf) (B:mq f=some kn) (D:bT C H L U Z F O s.heap) (nw:Nw C F O J s)
  (h:aw P (m+1) Z J (.gJ cf.1 cf.2 x (cE R n H L 0 o) (args.map (cE R n H L 0)) kn (f.map λk=>cE R n H L 0 k.value)) Q):
  aD (aI C.prog C.w) A (gW (.Call (.Attribute o x ap) args f p) U) (cM C .no F O s Q) a_ s:=by
 refine abO (NY hR j) λmN of fd y q E t hf G I a4 hB=>letQ ?_;intro Q_;refine kO hm hs B (ct nw (z m H L 0 o U Z F O J s A _ D nw u h) λva F1 M S s1 a g1 c ra T=>cps λK_ k_=>?_)
 obtain⟨W,T⟩:=T
 obtain⟨k,dd,l,rfl,hk,hd,W⟩:=yP W
 obtain⟨a,b,mA,ha,hb,rfl,a5,hI,hl,ob,eo,X⟩:=AH c ra hk hd
 refine iQ (AV c q) λN r hC hN=>k_ (fX (.ref cf.2) [.ref a] (λpl Q' hq=>?_) ?_)
 ·obtain⟨hp,g,dr,tk,os⟩:=s1
  exact method_of hC hN E t hf (c.fz _ _ (c.top.k _ _ G)) I hB hI (hl.2 x W) hq
 ·refine ao (oB z u p args F1 M S s1 _ (D.gb g1) c hs T) (λvs s2 Y=>?_) λa a e=>e
  obtain⟨F2,jy,a0,cs,g2,r2,Y⟩:=Y
  refine ao (GF z u p f F2 jy a0 s2 _ ((D.gb g1).gb g2) (c.go g2) Y) (λa6 s3 h3=>?_) λa a e=>e
  obtain⟨F3,a3,a7,ks,g3,r3,q3⟩:=h3
  have i:=(c.go g2).go g3
  exact hP.fn _ _ _ _ _ q3 _ _ _ (λa o e=>i.fz _ _ (i.top.k _ _ e)) (λa=>ao (hP.eK _ _ _ _ _ q3 A F3 a3 s3 _ _ (u.le (cR ..)) i (.cons (ra.mono (g2.trans g3).ext.le (g2.trans g3).jo) (r2.mono g3.ext.le g3.jo)) (ew.zip r3)) (λv s4 h4=>h4.trans ((g1.trans g2).trans g3)) λa a e=>e)
theorem Ou (j:fO C R ℓ P n) (k:bQ (m+ℓ) A) {o} {l p} {args} {b} {Q} (B:FN o l p args []=true) (r:args.all bR=true) (u:bT C H L U Z F O s.heap) (x:Nw C F O J s)
  (h:aw P (m+1) Z J (.kB b (cE R n H L 0 o) (args.map (cE R n H L 0))) Q):
  aD (aI C.prog C.w) A (gW (.Call (.Attribute o (agI b) l) args [] p) U) (cM C .no F O s Q) a_ s:=by
 refine letQ ?_;intro D;refine kO B r rfl (ct x (j m H L 0 o U Z F O J s A _ u x k h) λT E f g s1 a g1 c G z=>?_)
 induction a using CV.casesOn with
 |str y=>
  refine bA (ez.mp G) λt=>(fX (.builtin (adw b)) [.str y t] (λW X=>jF (kR s1 y t) PySem.F.plainAttrs_str (Jc b).1 (Jc b).2 λa e=>nomatch e) (ao (oB j k p args E f g s1 _ (u.gb g1) c r z) (λvs Y i=>letQ ?_) λa a e=>e));intro D;refine cps λK_ I=>?_
  obtain⟨F2,jy,M,cs,g2,N,i⟩:=i
  have gp:=c.go g2
  exact I (au (eW (λa e=>nomatch e) (ao (WY gp (.of gp N) i) (λv s3 S=>(S.at gp λa q=>q).trans (g1.trans g2)) λa a e=>e)))
 |_=>exact ar z
theorem Od (G:fO C R ℓ P n) (I:bQ (m+ℓ) A) {o} {u p i} {j} {Q} (M:FN o u p [.Constant (.int 0) j i] []=true) (N:bT C H L U Z F O s.heap) (x:Nw C F O J s)
  (h:aw P (m+1) Z J (.Jo (cE R n H L 0 o)) Q):
  aD (aI C.prog C.w) A (gW (.Call (.Attribute o "pop" u) [.Constant (.int 0) j i] [] p) U) (cM C .no F O s Q) a_ s:=by
 refine letQ ?_;intro W;refine kO M rfl rfl (ct x (G m H L 0 o U Z F O J s A _ N x I h) λX z f q s1 a g1 c S g=>cz (uR g) λk l r B g=>?_);subst r
 induction l using cL with
 |nil=>exact ar g
 |cons y l=>
 refine xn (io.mp S) λb D=>aG (c.dj.at_ k b _ D B) λvs t a=>eY t.plain λn' E=>(fX (.builtin "list.pop") [.ref b] (λY Q'=>jF (aP _ E rfl) uq vR PySem.F.type_list_pop λa e=>by injection e with e;subst e;exact aP _ E rfl) ?_)
 show aD _ _ (do let v<-gW (.Constant (.int 0) j i) U;let vs<-xT [v] (spliced []);pure (v::vs)) _ _ _
 refine ae (DQ (ae (bf (au (au (au ?_))))))
 have g2:Go C .no z f s1 z f q {s1 with toks:=s1.toks+1}:= .toks c
 exact eW (λa e=>nomatch e) (ao (RA (c.go g2) D B g.1 g.2) (λv s3 T=>T.trans (g1.trans g2)) λa a e=>e)
theorem Mf (y:ef C R) (z:oZ C R ℓ P) (i:fO C R ℓ P n) (j:bQ (m+ℓ) A) {o} {x} {u p} {args} {b} {Q} (k:bT C H L U Z F O s.heap) (l:Nw C F O J s)
  (h:aw P (m+1) Z J (za (args.all bR&&FN o u p args b) (GU R (cE R n) H L o x args b)) Q):
  aD (aI C.prog C.w) A (gW (.Call (.Attribute o x u) args b p) U) (cM C .no F O s Q) a_ s:=by
 refine letQ ?_;intro D;refine fK (ka h) λg h=>?_
 obtain⟨q,r⟩:=aq.mp g
 unfold GU at h
 induction a:recv R o x using cO with
 |some cf=>
  rw[a] at h
  refine oE (mq b) (λe=>(gc (e▸h))) λE e=>?_
  ·rw[e] at h;exact Ls y z i j r q a e k l h
 |none=>
  rw[a] at h
  induction b using cL with
  |cons G b=>exact gc h
  |nil=>
   dsimp only at h
   refine agW (BS.lookup x) (λI c=>?_) λc=>?_
   ·rw[c] at h;exact af (Wi c) (Ou i j r q k l h)
   ·
    rw[c] at h
    obtain⟨f,h⟩:=ka h
    refine fK (aq.mp f) λB v=>?_
    clear c a;obtain rfl:=eq_of_beq B
    refine nu (isZero_eq v) λM N t=>?_;clear f v g q;subst t
    exact Od i j r k l h
end
section
variable {C:Cfg} {R:Rd} {P:cZ} {ℓ:Nat}
theorem Mk (h:wQ.lookup v=some b):∀a,v≠.ref a:=by
 refine af (Kc h) ?_
 clear h;induction b using BI.casesOn<;>intro a e<;>cases e
theorem sZ.mono (r:sZ F O l v) (g:Go C X F O s F' aH aO u):sZ F' aH l v:=by
 induction l using cO with
 |none=>exact r
 |some c=>exact Rep.mono g.ext.le g.jo r
theorem FE (d:fO C R ℓ P n) (e:bQ (m+ℓ) A) l F O J s Q
  (f:bT C H L U Z F O s.heap) (b:Nw C F O J s) (h:QR (aw P m) Z J (l.map (cE R n H L 0)) Q):
  aD (aI C.prog C.w) A (evalPart l U) (λv u=>∃F' aH aO c,Go C .no F O s F' aH aO u/\sZ F' aH c v/\Q c aO) a_ s:=by
 induction l using cO with
 |none=>
  exact au (afR F O J none b.refl rfl h)
 |some x=>
  exact ct b (d m H L 0 x U Z F O J s A _ f b e h) λv F' aH aO u c g a r q=>(afR F' aH aO (some c) g r q)
section
variable {n m:Nat} {H:gq} {L d:Nat} {U:pB} {Z:bk} {F:FZ} {O:List bz} {J:aZ} {s:aN} {A:bU} {Q:EPost}
theorem GZ (f:fO C R ℓ P n) (j:bQ (m+ℓ) A) {op} {l r} {p} (k:bT C H L U Z F O s.heap) (o:Nw C F O J s) (h:aw P (m+1) Z J (.bin op (cE R n H L 0 l) (cE R n H L 0 r)) Q):
 aD (aI C.prog C.w) A (gW (.BinOp l op r p) U) (cM C .no F O s Q) a_ s:=wpAny_BinOp (ct o (f m H L 0 l U Z F O J s A _ k o j h) λE t g i s1 a g1 c u x=>ct c (f m H L 0 r U Z t g i s1 A _ (k.gb g1) c j x) λG I jy y M b g2 gp z B=>ao (Qd gp (vW c g2 u) (Vw.eC gp z) B) (λv N D=>(D.at gp λa q=>q).trans (g1.trans g2)) λa a e=>e)
theorem XW (u:mS i=true) (z:Nw C F O J s) (j:Vw F O s.heap c v) (B:Rep F O k D) {Q} (h:Gj c k Q):
  aD (aI C.prog C.w) A (subscriptTail o i v D) (cM C .no F O s (At J Q)) a_ s:=by
 have b:=DB (X:= .no) (A:=A) z j B h
 induction c using CV.casesOn with
 |lst l=>refine cz j λx vs g y r=>?_;subst g;exact xi y.isList.typeIs ya b (kG u)
 |tup l=>refine cz (TV.of z.fz j) λx vs g y r=>?_;subst g;exact xi (oH y λo e q a=>aP o e q) slot_tuple_getitem.lookup b (kG u)
 |str x=>obtain⟨t,rfl⟩:=gG j;exact xi (kR _ _ t) tH.lookup b (kG u)
 |gx l=>obtain⟨x,E,G,rfl,f,⟨a,es,M,I,a⟩,r⟩:=j;exact xi (aP E f I.1) slot_dict_getitem.lookup b (kG u)
 |_=>exact ar h
theorem Sn (f:fO C R ℓ P n) (k:bQ (m+ℓ) A) {o i} {p} (t:mS i=true) (l:bT C H L U Z F O s.heap) (r:Nw C F O J s) (h:aw P (m+1) Z J (.idx (cE R n H L 0 o) (cE R n H L 0 i)) Q):
 aD (aI C.prog C.w) A (gW (.Subscript o i p) U) (cM C .no F O s Q) a_ s:=Subscript_ (ct r (f m H L 0 o U Z F O J s A _ l r k h) λG u g j s1 a g1 c x y=>ct c (f m H L 0 i U Z u g j s1 A _ (l.gb g1) c k y) λI M jy z N b g2 gp B D=>ao (XW t gp (vW c g2 x) B D) (λv S E=>(E.at gp λa q=>q).trans (g1.trans g2)) λa a e=>e)
theorem Rm (b:fO C R ℓ P n) (g:bQ (m+ℓ) A) {o} {l i} {p q} (j:bT C H L U Z F O s.heap) (y:Nw C F O J s) (h:aw P (m+1) Z J (.pu (cE R n H L 0 o) (l.map (cE R n H L 0)) (i.map (cE R n H L 0))) Q):
  aD (aI C.prog C.w) A (gW (.Subscript o (.Slice l i none p) q) U) (cM C .no F O s Q) a_ s:=by
 refine Subscript_ (ct y (b m H L 0 o U Z F O J s A _ j y g h) λX B k r s1 a g1 c D E=>letQ ?_);intro z;refine wpAny_Slice (ao (FE b g l B k r s1 _ (j.gb g1) c E) (λY G t=>letQ ?_) λa a e=>e);intro z;refine afW t λI jy u cl g2 M t=>?_
 have gp:=c.go g2
 refine letQ ?_;intro z;refine ao (FE b g i I jy u G _ ((j.gb g1).gb g2) gp t) (λvu s3 x=>afW x λF3 N S cu g3 T x=>?_) λa a e=>e
 have f:=gp.go g3
 exact au (ao (NL f (vW c (g2.trans g3) D) (M.mono g3) T x) (λv s4 W=>(W.at f λa q=>q).trans ((g1.trans g2).trans g3)) λa a e=>e)
theorem Qi (k:ef C R) (f:fO C R ℓ P n) (l:bQ (m+ℓ) A) {o} {x} {p} {i} (g:xA o=true) (b:wg R o x=some i) (r:bT C H L U Z F O s.heap) (j:Nw C F O J s) (h:aw P (m+1) Z J (.attr i (cE R n H L 0 o) x) Q):
  aD (aI C.prog C.w) A (gW (.Attribute o x p) U) (cM C .no F O s Q) a_ s:=by
 rw[arm_eval_Attribute,DL g]
 exact ae (ct j (f m H L 0 o U Z F O J s A _ r j l h) λD E t u s1 a g1 c y z=>ae (cD (ae (bf (ao (wx (rK k b) c y z) (λv G B=>ae (qr (au ((B.at c λa q=>q).trans g1)))) λa a e=>e)))))
theorem Md (u:ef C R) (M:oZ C R ℓ P) (j:fO C R ℓ P n) (y:bQ (m+ℓ) A) {x} {args} {p q} (z:bT C H L U Z F O s.heap) (f:Nw C F O J s) (h:aw P (m+1) Z J (GS R (cE R n) H L x args) Q):
  aD (aI C.prog C.w) A (gW (.Call (.Name x p) args [] q) U) (cM C .no F O s Q) a_ s:=by
 refine letQ ?_;intro W;unfold GS at h
 induction g:R.G x using cO with
 |none=>exact gc (g▸h)
 |some v=>
 rw[g] at h
 refine fK (ka h) λi h=>?_
 obtain⟨i,B⟩:=aq.mp i
 have i:=xF i
 unfold QU at h
 induction N:refOf v using cO with
 |some a=>
  obtain rfl:=Jn N
  refine ir B (kA u z f i g (u.Lk g) (ao (oB j y q args F O J s _ z f B h) (λvs s1 D=>?_) λa a e=>e))
  obtain⟨S,l,E,cs,g1,r,q⟩:=D
  have c:=f.go g1
  exact M.fn _ _ _ _ _ q _ _ _ (λa o e=>c.fz _ _ (c.top.k _ _ e)) (λa=>ao (M.eK _ _ _ _ _ q A S l s1 vs [] (y.le (cR ..)) c r rfl) (λv T I=>I.trans g1) λa a e=>e)
 |none=>
  rw[N] at h
  refine oE (wQ.lookup v) (λt=>(gc (t▸h))) λb t=>?_
  ·
   refine ir B (kA u z f i g (u.Lk g) (ao (oB j y q args F O J s _ z f B (t▸h)) (λvs s1 D=>?_) λa a e=>e))
   obtain⟨S,l,E,cs,g1,r,q⟩:=D
   have c:=f.go g1
   exact eW (Mk t) (ao (Td t c y.handled r q) (λv T I=>(I.at c λa q=>q).trans g1) λa a e=>e)
theorem PK (j:ef C R) (l:oZ C R ℓ P) (o:∀k,k<=n->fO C R ℓ P k) (q:bQ (m+ℓ) A) {c} {b} {e} {p} (r:bT C H L U Z F O s.heap) (x:Nw C F O J s) (h:aw P (m+1) Z J (UW (cE R n) (cI R n) (cT R n) H L d c b e) Q):
  aD (aI C.prog C.w) A (gW (.ListComp c b e p) U) (cM C .no F O s Q) a_ s:=by
 induction b using cL with
 |nil=>exact gc h
 |cons g M=>
  obtain⟨t,it,y,a⟩:=g
  obtain⟨f,h⟩:=ka h
  simp only[cW,beq_iff_eq] at f
  obtain⟨⟨⟨⟨z,B⟩,D⟩,E⟩,rfl⟩:=f
  exact yR h λk Q h G=>CC j l o (q.le (fP (pk G) ℓ)) (wI B) z D E r x (λv N u i=>eY i.ajw λm I=>aP m I λS=>i.same) h
end
theorem qq (S:ef C R) (hP:oZ C R ℓ P):∀n,fO C R ℓ P n:=by
 intro n
 induction n using Nat.strongRecOn with
 |ind n IH=>
 induction n using cN with
 |zero=>
  exact λm H L d e U Z F O J s A Q w u T=>gc
 |succ n=>
 have hE:=λk W=>IH k (dA W)
 have g:=hE n (ai n)
 intro m H L d e U Z F O J s A Q w u T h
 induction hx:R.xE H.1 e using cO with
 |some kx=>
  rw[GV hx] at h
  obtain⟨hb,h⟩:=ka h
  induction m using cN with
  |zero=>exact ar h
  |succ m=>
   have h:(match iV Z (kx.map λx=>(H.2.lookup x).getD 100000) with|some cs=>P.ext e cs J Q|none=>False):=h
   refine oE (iV Z (kx.map λx=>(H.2.lookup x).getD 100000)) (λI=>((I▸h).elim)) λcs I=>?_
   ·rw[I] at h;exact hP.ext e kx H hx (aq.mp hb).2 L U Z F O J s A (m+1) cs Q w u T I h
 |none=>
 rw[A_ hx] at h
 induction m using cN with
 |zero=>exact ar h
 |succ m=>
 have j:=T.le (fP (aQ m) ℓ)
 induction e using aY with
 |Constant c k p=>exact L_ u h
 |Name x p=>exact Lo S w u h
 |BinOp l op r p=>
  change aw P (m+1) Z J (G_ (cE R n) H L d l op r) Q at h
  unfold G_ at h
  induction N:AE l using cO with
  |none=>rw[N] at h;exact GZ g j w u h
  |some e=>
   rw[N] at h
   refine bE (EF op) (λhm=>?_) λhm=>?_
   ·rw[hm] at h;refine oV ?_;intro Q_ s_;exact GZ g j w u h
   ·
    rw[hm] at h
    exact eY (OJ N) λlp a3=>af (Sg hm) (af a3 (fK (ka h) λE h=>yR h λk Q h W=>Rt g (T.le (zS W)) E w u h))
 |UnaryOp op x p=>
  induction op using lP with
  |USub=>
   exact Iu (ct u (g m H L 0 x U Z F O J s A _ w u j h) λva M y z s1 a g1 B X G=>ao (Oo B X G) (λv s3 h3=>(h3.at B λa q=>q).trans g1) λa a e=>e)
  |Not=>
   refine Iu (ct u (g m H L 0 x U Z F O J s A _ w u j h) λva M y z s1 a g1 B X G=>ao (RH (Vw.eC B X) G) (λv s3 h3=>?_) λa a e=>e)
   obtain⟨b,rfl,hq,tk,a5,rfl⟩:=h3
   exact .trans g1 (.toks B (iE.mpr rfl) hq)
  |_=>exact gc h
 |BoolOp op es p=>
  induction op using jJ with
  |And=>exact yz g j p .And es F O J s Q w u h
  |Or=>exact yz g j p .Or es F O J s Q w u h
 |IfExp t a b p=>
  refine wpAny_IfExp (ao (qg n hE m m H L t U Z F O J s A _ w u j h) (λr s1 G=>?_) λa a e=>e)
  obtain⟨M,y,z,g1,hq⟩:=G
  induction r using cB with
  |true=>exact qd g1 (g m H L 0 a U Z M y z s1 A Q (w.gb g1) (u.go g1) j (hq.1 rfl))
  |false=>exact qd g1 (g m H L 0 b U Z M y z s1 A Q (w.gb g1) (u.go g1) j (hq.2 rfl))
 |Compare l Y rs p=>
  refine fK (ka h) λE h=>?_
  rw[arm_eval_Compare,sQ Y rs E]
  exact ae (ct u (g m H L 0 l U Z F O J s A _ w u j h) λva M y z s1 a g1 B X G=>ao (Mc g j p Y rs a va M y z s1 _ (w.gb g1) B X G) (λv s2 h2=>(h2.mono λc J ⟨b,e,q⟩=>e▸q).trans g1) λa a e=>e)
 |Tuple es k p=>
  refine fK (ka h) λhs h=>wpAny_Tuple (ao (LF g j p es d F O J s _ w u hs h) (λvs s1 G=>?_) λa a e=>e)
  obtain⟨M,y,z,cs,g1,r,N,q⟩:=G
  exact⟨by rw[mC,r.length];exact zT N (by decide),.trans g1 (.tuple (u.go g1) r q)⟩
 |List es p=>
  refine fK (ka h) λhs h=>yR h λk Q h W=>wpAny_List (ao (oB g (T.le (zS (zT zP W))) p es F O J s _ w u hs h) (λvs s1 G=>?_) λa a e=>e)
  obtain⟨M,y,z,cs,g1,r,N,q⟩:=G
  exact⟨by rw[mC,r.length];exact zT N (by decide),.trans g1 (.made (u.go g1) r q)⟩
 |ListComp a6 a4 a7 p=>exact PK S hP hE j w u h
 |Subscript o i p=>
  induction i using aY with
  |Slice l G5 st q=>
   induction st using cO with
   |none=>exact Rm g j w u h
   |some st=>exact gc h
  |_=>exact Sn g j rfl w u h
 |Attribute o x p=>
  refine fK (ka h) λE h=>?_
  unfold Ti at h
  refine oE (wg R o x) (λD=>(gc (D▸h))) λcl D=>?_
  ·rw[D] at h;exact Qi S g j E D w u h
 |Call f args a0 p=>
  induction f using aY with
  |Name x np=>
   induction a0 using cL with
   |cons kw a0=>exact gc h
   |nil=>exact Md S hP g j w u h
  |Attribute o x ap=>exact Mf S hP g j w u h
  |_=>exact gc h
 |Dict ks vs p=>
  induction ks using cL with
  |cons k ks=>exact gc h
  |nil=>
   clear hx;induction vs using cL with
   |cons v vs=>exact gc h
   |nil=>exact PC u h
 |_=>exact gc h
end
def Hn (F:FZ) (O:List bz):Qn->Flow->Prop
 | .next,f=>f= .next
 | .brk,f=>f= .brk
 | .cont,f=>f= .cont
 | .ret c,f=>∃v,f= .ret v/\Rep F O c v
inductive gz C H L U F O s (Q:fA) f u:Prop where
 |mk F' aH aO xV fc:Go C (iF H.1 U) F O s F' aH aO u->bT C H L U xV F' aH u.heap->Hn F' aH fc f->Q fc xV aO->gz C H L U F O s Q f u
theorem gz.trans (g:Go C (iF H.1 U) F O s F' aH aO u) (h:gz C H L U F' aH u Q f d):gz C H L U F O s Q f d:=by
 obtain⟨i,a,b,c,j,x,e,r,q⟩:=h
 exact⟨i,a,b,c,j,g.trans x,e,r,q⟩
def wV (C:Cfg) (R:Rd) (ℓ:Nat) (P:cZ) (PS:dZ) (o:List (bD×Nat)) (H:gq) (L:Nat) (n:Nat):Prop:=∀m st U Z F O J s A Q,
 bT C H L U Z F O s.heap->Nw C F O J s->bQ (m+ℓ) A->wpS P PS m (cS R o n H L st) Z J Q->aD (aI C.prog C.w) A (exec st U) (gz C H L U F O s Q) a_ s
section
variable {C:Cfg} {R:Rd} {P:cZ} {PS:dZ} {ℓ n:Nat} {o:List (bD×Nat)} {H:gq} {L:Nat} {U:pB} {A:bU} {m:Nat}
theorem kI (y:wV C R ℓ P PS o H L n) (z:bQ (m+ℓ) A):∀b Z F O J s Q,bT C H L U Z F O s.heap->Nw C F O J s->
  bX (wpS P PS m) (b.map (cS R o n H L)) Z J Q->aD (aI C.prog C.w) A (execs b U) (gz C H L U F O s Q) a_ s:=by
 intro b
 induction b with
 |nil=>
  exact λZ F O J s Q l j h=>Eg ⟨F,O,J,Z,.next,j.refl,l,rfl,h⟩
 |cons st b B=>
  refine λZ F O J s Q l j h=>je (ao (y m st U Z F O J s A _ l j z h) (λf s1 D=>?_) λa a e=>e)
  obtain⟨t,d,g,i,E,g1,e1,k,u⟩:=D
  induction E using Qn.casesOn with
  |next=>
   subst k
   exact ao (B i t d g s1 Q e1 (j.go g1) u) (λa a q=>q.trans g1) λa a e=>e
  |brk=>
   subst k
   exact⟨t,d,g,i,.brk,g1,e1,rfl,u⟩
  |cont=>
   subst k
   exact⟨t,d,g,i,.cont,g1,e1,rfl,u⟩
  |ret c=>
   refine aG k λv x r=>?_;clear k h j l;subst x
   exact⟨t,d,g,i,.ret c,g1,e1,aP v rfl r,u⟩
end
theorem AL {s} {Φ:Flow->aN->Prop} (I:Nat->aN->Prop)
  (j:∀n s,I n s->aD (aI prog w) A (pyNext it) (λr dm=>match r with
   |none=>Φ .next dm
   |some v=>aD (aI prog w) A (dS t it v) (λ_ dm=>aD (aI prog w) A (assign t U v) (λ_ d=>
    aD (aI prog w) A (execs body U) (λf b=>match f with
     | .next| .cont=>∃m,m<n/\I m b
     | .brk=>Φ .next b
     | .ret v=>Φ (.ret v) b) a_ d) a_ dm) a_ dm) a_ s)
  n (h:I n s):ik (aI prog w) A (.forLoop t it body [] U) (λr u=>∃f,r= .ok f/\Φ f u) s:=by
 refine codeAny_loop' rfl I (λn s x=>wpAny_noted (ao (letQ ?_) (λa a q=>q) λe u (q:a_ e u)=>q.elim)) n h;intro y;refine ae (cD (ae (yC (ao (j n s x) (λr dm g=>?_) λa a i=>i.elim))))
 induction r using cO with
 |none=>exact au (.inr ⟨rfl,codeAny_block (Eg (aP .next rfl g))⟩)
 |some v=>
  refine letQ ?_;intro y;refine ae (ao g (λa d k=>ae (ao k (λa b l=>ae (ao l (λf o c=>?_) λa a i=>i)) λa a i=>i)) λa a i=>i)
  induction f using gj with
  |next=>exact au (.inl ⟨rfl,c⟩)
  |cont=>exact au (.inl ⟨rfl,c⟩)
  |brk=>exact au (aP _ rfl c)
  |ret v=>exact au (aP _ rfl c)
section
variable {C:Cfg} {R:Rd} {P:cZ} {PS:dZ} {ℓ n:Nat} {o:List (bD×Nat)} {H:gq} {L:Nat} {U:pB} {A:bU} {m:Nat}
inductive Tr C H L U (W:Wr) F O s (Q:fA) f u:Prop where
 |mk F' aH aO xV fc:Go C ⟨(iF H.1 U).a++W.a,W.g⟩ F O s F' aH aO u->bT C H L U xV F' aH u.heap->Hn F' aH fc f->Q fc xV aO->Tr C H L U W F O s Q f u
inductive af_ C (K:List CV->bk->aZ->Prop) H L U ℓ A tt it g W F O s num u:Prop where
 |mk l F' aH aO xV W':num=l.length->Lp C H L U xV ℓ A tt it g (iF H.1 U).a W F O s l F' aH aO W' u->K l xV aO->af_ C K H L U ℓ A tt it g W F O s num u
theorem abD {K} {Φ:Flow->Prop} (q:yx K Q b Z J) (d:K Z J->N) (kb:Q .next Z J->Φ .next) (kr:∀c v,Rep F O c v->Q (.ret c) Z J->Φ (.ret v)):Hn F O b f->match f with
  | .next=>N
  | .cont=>N
  | .brk=>Φ .next
  | .ret v=>Φ (.ret v):=by
 intro a
 induction b using Qn.casesOn with
 |next=>exact af a (d q)
 |cont=>exact af a (d q)
 |brk=>exact af a (kb q)
 |ret c=>exact Er a λv r=>kr c v r q
section
variable {t:Expr} {body:List oq} {it:bq} {W:Wr} {g:aZ->Prop} {tt:Bool} {n':Nat} {F:FZ} {O:List bz} {s:aN} {Q:fA}
theorem Yj (x:DP C R ℓ P n') (hS:wV C R ℓ P PS o H L n') (hA:bQ (m+ℓ) A) (hg:Al t tt=true) (k:∀a∈W.a,a∉(dX U).a)
  l Z J (y:bT C H L U Z F O s.heap) (nw:Nw C F O J s) (B:f_ C ℓ A tt it W g l F O s) (D:Apart C W F O s)
  (h:eO g (λc Z J Q=>du (aw P m) (cT R n' H L t) c Z J (λZ J=>bX (wpS P PS m) (body.map (cS R o n' H L)) Z J Q)) l Z J Q):
  ik (aI C.prog C.w) A (.forLoop t it body [] U) (λr u=>∃f,r= .ok f/\Tr C H L U W F O s Q f u) s:=by
 refine AL (af_ C (λl Z J=>eO g (λc Z J Q=>du (aw P m) (cT R n' H L t) c Z J (λZ J=>bX (wpS P PS m) (body.map (cS R o n' H L)) Z J Q)) l Z J Q) H L U ℓ A tt it g W F O s)
  ?_ l.length ⟨l,F,O,J,Z,W,rfl,⟨λa q=>⟨λz=>k a q (gU a z),k a q⟩,λa=> .inl,rfl,nw.refl,y,nw,B,D⟩,h⟩
 rintro num s1 ⟨l,F1,E,G,I,W1,rfl,G6,M⟩
 refine G6.turn x hA hg (λa q=>q) (λa q=>y.ok.l_ a (gU a q)) (by cases l<;>exact M.1) (λe u z_ g' e'=>?_) λc l' e=>?_
 ·clear G6 h y;subst e
  exact⟨F1,E,G,I,.next,g',e',rfl,M.2⟩
 ·subst e
  refine aP _ M.2 λF4 N S T W2 s4 X z_ q4=>ao (kI hS hA body T F4 N S s4 _ X.ev X.nw q4) (λf s5 h5=>?_) λa a e=>e
  obtain⟨Y,b,d,i,fc,g5,j,hr,a0⟩:=h5
  have L5:=X.step g5 j
  exact abD (Φ:=λf=>Tr C H L U W F O s Q f s5) a0 (λq=>⟨l'.length,cH _,l',Y,b,d,i,W2,rfl,L5,q⟩) (λq=>⟨Y,b,d,i,.next,L5.go,j,rfl,q⟩) (λc v r q=>⟨Y,b,d,i,.ret c,L5.go,j,aP v rfl r,q⟩) hr
end
end
end Internal
namespace Internal
set_option tactic.hygienic true
set_option backward.match.sparseCases true
end Internal
namespace Internal
open PySem PySem.W PySem.Spec PySem.Calls PyProof.Rows PySem.SeqAt
set_option tactic.hygienic false
set_option backward.match.sparseCases false
section
variable {C:Cfg} {R:Rd} {P:cZ} {PS:dZ} {ℓ n:Nat} {o:List (bD×Nat)} {H:gq} {L:Nat} {U:pB} {A:bU} {m:Nat} {Z:bk} {F:FZ} {O:List bz} {J:aZ} {s:aN}
theorem DE (M:ef C R) (N:∀n,fO C R ℓ P n) (S:wV C R ℓ P PS o H L n) (T:bQ (m+ℓ) A) {t it} {body} {p} {tt} {Q} (E:bT C H L U Z F O s.heap) (X:Nw C F O J s)
  (b:Al t tt=true) (d:mT it=true)
  (h:aD (aI C.prog C.w) A (gW it U) (Vk C A ℓ tt F O s (λitems g J=>eO g (λc Z J Q=>du (aw P m) (cT R n H L t) c Z J (λZ J=>bX (wpS P PS m) (body.map (cS R o n H L)) Z J Q)) items Z J Q)) a_ s):
  aD (aI C.prog C.w) A (exec (.For t it body [] p) U) (gz C H L U F O s Q) a_ s:=by
 refine letQ ?_;intro Y;refine wpAny_For (ao h (λx s1 h1=>letQ ?_) λa a e=>e) λx=>nG d;intro Y;refine ao h1 (λa0 s2 h2=>US h2 λF2 jy j l g W g2 G I q q2=>?_) λa a e=>e
 have gp:=X.go g2
 have u:=E.gb g2
 refine ij (Yj (jP M n λk a=>N k) S T b (λa z y=>absurd (E.ok.l_ a y) (bL.mpr (I a z))) l Z j u gp G.1 G.2.1 q2) λr s3 h3=>?_
 obtain⟨f,rfl,F3,v,B,D,fc,g3,e3,r3,q3⟩:=h3
 refine⟨F3,v,B,D,fc,g2.pure.then g3 (λa z=>(bt.mp z).imp id (I a)) (λi z=> .inr (q i z)),e3,r3,q3⟩
theorem Sv (e:ef C R) (q:oZ C R ℓ P) (f:∀n,fO C R ℓ P n) (r:wV C R ℓ P PS o H L n) (i:bQ (m+ℓ) A) {t it} {body} {p} {Q} (j:bT C H L U Z F O s.heap) (l:Nw C F O J s)
  (b:Al t (rC (cI R n H L it))=true) (d:mT it=true)
  (h:pE (aw P m) P Z J (cI R n H L it) (λitems g J=>eO g (λc Z J Q=>du (aw P m) (cT R n H L t) c Z J (λZ J=>bX (wpS P PS m) (body.map (cS R o n H L)) Z J Q)) items Z J Q)):
  aD (aI C.prog C.w) A (exec (.For t it body [] p) U) (gz C H L U F O s Q) a_ s:=by
 refine DE e f r i j l b d (qG e q n (λk a=>f k) m H L it U Z F O J s A _ _ j l i rfl h)
end
section
variable {C:Cfg} {R:Rd} {P:cZ} {PS:dZ} {ℓ n:Nat} {o:List (bD×Nat)} {H:gq} {L:Nat} {U:pB} {A:bU} {m:Nat} {Z:bk} {F:FZ} {O:List bz} {J:aZ} {s:aN}
theorem Sl (v:∀n,fO C R ℓ P n) (j:wV C R ℓ P PS o H L n) (f:bQ (m+ℓ) A) {t} {a b} {p} {Q} (g:bT C H L U Z F O s.heap) (i:Nw C F O J s)
  (h:gm (aw P m) Z m J (cE R n H L 0 t) (λr J=>Br r (bX (wpS P PS m) (a.map (cS R o n H L)) Z J Q) (bX (wpS P PS m) (b.map (cS R o n H L)) Z J Q))):
  aD (aI C.prog C.w) A (exec (.If t a b p) U) (gz C H L U F O s Q) a_ s:=by
 refine wpAny_If (ao (qg n (λk a=>v k) m m H L t U Z F O J s A _ g i f h) (λr s1 x=>?_) λa a e=>e)
 obtain⟨l,c,d,g1,u⟩:=x
 induction r using cB with
 |true=>exact ao (kI j f a Z l c d s1 Q (g.gb g1) (i.go g1) (u.1 rfl)) (λa a q=>q.trans g1.pure) λa a e=>e
 |false=>exact ao (kI j f b Z l c d s1 Q (g.gb g1) (i.go g1) (u.2 rfl)) (λa a q=>q.trans g1.pure) λa a e=>e
theorem Rr (i:∀n,fO C R ℓ P n) (j:bQ (m+ℓ) A) {e} {p} {d} {Q} (g:bT C H L U Z F O s.heap) (k:Nw C F O J s) (h:aw P m Z J (cE R n H L d e) (λc J=>Q (.ret c) Z J)):
  aD (aI C.prog C.w) A (exec (.Return (some e) p) U) (gz C H L U F O s Q) a_ s:=by
 refine wpAny_Return_some (ao (i n m H L d e U Z F O J s A _ g k j h) (λv s1 l=>?_) λa a e=>e)
 obtain⟨t,b,f,c,g1,r,q⟩:=l
 exact⟨t,b,f,Z,.ret c,g1.pure,g.gb g1,aP v rfl r,q⟩
theorem Tf (N:∀n,fO C R ℓ P n) (S:bQ (m+ℓ) A) {x} {op} {e} {p p'} {Q} {i} {a} (d:bT C H L U Z F O s.heap) (y:Nw C F O J s)
  (g:H.1.names.lookup x=some .local\/H.1.names.lookup x=some .cell) (u:H.2.lookup x=some i) (T:Z i=some a)
  (h:aw P m Z J (cE R n H L 0 e) (λb J=>wU op (eC J a) (eC J b) (λc=>Q .next (upd Z i c) J))):
  aD (aI C.prog C.w) A (exec (.AugAssign (.Name x p') op e p) U) (gz C H L U F O s Q) a_ s:=by
 refine aG (d.ok.vars x i a u T) λva t B=>wpAny_AugAssign_Name (oM d.ok.kind t (ct y (N n m H L 0 e U Z F O J s A _ d y S h) λvb F1 W Y s1 b g1 l D E=>letQ ?_));intro Q_;refine ao (wR (X:= .no) l (vW y g1 B) (Vw.eC l D) E) (λv s2 h2=>?_) λa a e=>e
 clear E D B t h;obtain⟨G,jy,z,c,g2,r,hq,rfl⟩:=h2
 have k:=(d.gb g1).gb g2
 have gp:=l.go g2
 have q:U.kindOf x=some .local\/U.kindOf x=some .cell/\H.1.names.lookup x=some .cell/\∃a,U.cells.lookup x=some a/\G.f a=none:=by
  refine VA g (λg=>?_) λg=>?_
  ·rcases d.kd x with e|⟨e,a⟩
   ·exact .inl (e.trans g)
   ·rw[g] at e;cases e
  ·rcases d.kd x with e|⟨e,a⟩
   ·obtain⟨b,I⟩:=d.iK x (g▸rfl) (u▸rfl)
    exact .inr ⟨e.trans g,g,b,I,k.cF x b (mem_of_lookup I) g⟩
   ·rw[g] at e;cases e
 exact kY k.ok gp.fz gp.base u q r λs3 x3 e3 a=>⟨G,jy,z,upd Z i c,.next,(g1.trans g2).pure.trans (.wi gp.dj x3 k.ok.own),⟨d.kd,e3,λj M=>(cG _ _ (by have:=d.lt x i u;exact bZ (zA this M)))▸d.top j M,d.lt,d.iK,k.cF⟩,rfl,hq⟩
end
set_option backward.match.sparseCases true
theorem pH (h:kJ e=false):lF e t l U=pure false:=by
 induction e using aY<;>first|rfl|cases h
noncomputable def agF (b b2 c d e:Bool) (a:List bD):Sem (Option (List bD)):=do
 if b then return none
 if b2 then return none
 if c then return none
 if d then return none
 if e then unsupported "assign.tuple-of-constant-expressions:order-of-the-stores"
 return some a
theorem Rf (h:(b||!c)=true):agF e b2 d b c a=pure none\/(agF e b2 d b c a=pure (some a)/\d=false):=by
 induction e using cB with
 |true=>exact .inl rfl
 |false=>induction b2 using cB with
  |true=>exact .inl rfl
  |false=>induction d using cB with
   |true=>exact .inl rfl
   |false=>induction b using cB with
    |true=>exact .inl rfl
    |false=>induction c using cB with
     |true=>exact bV h
     |false=>exact .inr ⟨rfl,rfl⟩
noncomputable def nameAt (U:pB) (l:Nat) (e:Expr):Option Str:=match e with
 | .Name id pos=>if U.kindOf id==some .local&&pos.line==l then some id else none
 |_=>none
noncomputable def fC (U:pB) (ts:List Expr):List Str:=ts.filterMap (nameAt U ((ts.head?.map (·.pos.line)).getD 0))
theorem Lq (h:nameAt U l e=some x):U.kindOf x=some .local/\∃p,e= .Name x p:=by
 induction e using aY with
 |Name id pos=>
  change (if (U.kindOf id==some .local&&pos.line==l)=true then some id else none)=some x at h
  refine bE (U.kindOf id==some .local&&pos.line==l) (λa=>?_) λa=>?_
  ·rw[a] at h;exact aW h
  ·
   rw[a] at h
   exact eh (ab h) (⟨beq_iff_eq.mp (aq.mp a).1,pos,rfl⟩)
 |_=>exact aW h
theorem Ny:∃a b2,yD [.Tuple ts k p] (.Tuple vs k' p') U=
 agF a b2 ((fC U ts).length !=ts.length||(fC U ts).eraseDups.length !=(fC U ts).length) (vs.all (IA 8)) (vs.all (HD 8)) (fC U ts):=sT _ _ rfl
theorem Fc (h:Eu t a=true):yD [t] a U=pure none\/
  ∃ts k p vs k' p',t= .Tuple ts k p/\a= .Tuple vs k' p'/\yD [t] a U=pure (some (fC U ts))/\(fC U ts).length=ts.length/\(fC U ts).eraseDups.length=(fC U ts).length:=by
 induction t using aY with
 |Tuple ts k p=>
  induction a using aY with
  |Tuple vs k' p'=>
   refine nu (Ny (ts:=ts) (vs:=vs) (k:=k) (k':=k') (p:=p) (p':=p') (U:=U)) λg b2 b=>?_
   rcases Rf h with e|⟨e,c⟩
   ·exact .inl (b.trans e)
   ·exact fK (iB.mp c) λd f=> .inr (UC ts k p vs k' p' rfl rfl (b.trans e) (bne_eq_false_iff_eq.mp d) (bne_eq_false_iff_eq.mp f))
  |_=>exact .inl rfl
 |List ts p=>exact bV h
 |_=>exact .inl rfl
set_option backward.match.sparseCases false
noncomputable def dV (a:List (bD×Nat)) (Z:bk) (l:List (bD×CV)):bk:=l.foldl (λZ p=>upd Z ((a.lookup p.1).getD 0) p.2) Z
theorem VJ (h:i≠j):upd (upd Z i c) j d=upd (upd Z j d) i c:=by
 funext k
 by_cases a:k=i
 ·refine af a ?_;rw[lA,cG _ _ h,lA]
 ·by_cases b:k=j
  ·clear h;subst b;rw[lA,cG _ _ a,lA]
  ·rw[cG _ _ b,cG _ _ a,cG _ _ a,cG _ _ b]
theorem ET l a:dV b Z (l++a)=dV b (dV b Z l) a:=by simp[dV]
theorem Nc:∀l Z,(∀p∈l,(a.lookup p.1).getD 0≠i)->dV a (upd Z i c) l=upd (dV a Z l) i c:=by
 intro l
 induction l with
 |nil=>
  exact λb b=>rfl
 |cons p l d=>
  intro Z h
  show dV a (upd (upd Z i c) _ p.2) l=upd (dV a (upd Z _ p.2) l) i c
  exact af (VJ (qa (h p (by simp)))) (d _ λq e=>h q (by simp[e]))
theorem DY:∀l Z,(l.map λp=>(a.lookup p.1).getD 0).Nodup->dV a Z l.reverse=dV a Z l:=by
 intro l
 induction l with
 |nil=>
  exact λb b=>rfl
 |cons p l c=>
  intro Z h
  rw[gC,ly] at h
  rw[lW,ET]
  show upd (dV a Z l.reverse) _ p.2=dV a (upd Z _ p.2) l
  rw[c Z h.2,Nc l Z]
  exact λq d e=>h.1 (e▸nB d)
section
variable {C:Cfg} {R:Rd} {P:cZ} {PS:dZ} {ℓ n:Nat} {o:List (bD×Nat)} {H:gq} {L:Nat} {U:pB} {A:bU} {m:Nat}
theorem Ee (d:bT C H L U Z F O s.heap) (l:Nw C F O J s) (g:H.1.names.lookup x=some .local\/H.1.names.lookup x=some .cell)
  (q:H.2.lookup x=some i) (r:Rep F O c v) (h:Q (upd Z i c) J):aD (aI C.prog C.w) A (bindName U x v) (lO C H L U F O s Q) a_ s:=by
 refine Hw ?_
 have k:U.kindOf x=some .local\/U.kindOf x=some .cell/\H.1.names.lookup x=some .cell/\∃a,U.cells.lookup x=some a/\F.f a=none:=by
  refine VA g (λg=>?_) λg=>?_
  ·rcases d.kd x with e|⟨e,a⟩
   ·exact .inl (e.trans g)
   ·rw[g] at e;cases e
  ·rcases d.kd x with e|⟨e,a⟩
   ·obtain⟨b,t⟩:=d.iK x (g▸rfl) (q▸rfl)
    exact .inr ⟨e.trans g,g,b,t,d.cF x b (mem_of_lookup t) g⟩
   ·rw[g] at e;cases e
 exact kY d.ok l.fz l.base q k r λu z B a=>⟨F,O,J,upd Z i c,.wi l.dj z d.ok.own,⟨d.kd,B,λj y=>(cG _ _ (by have:=d.lt x i q;exact bZ (zA this y)))▸d.top j y,d.lt,d.iK,d.cF⟩,h⟩
theorem Lm (xs:List bD) cs:∀vs Z F O J s Q,bT C H L U Z F O s.heap->Nw C F O J s->
  (∀x∈xs,H.1.names.lookup x=some .local/\(H.2.lookup x).isSome=true)->xs.length=cs.length->bM F O cs vs->Q (dV H.2 Z (xs.zip cs)) J->
  aD (aI C.prog C.w) A (assignInOrder (xs.map λn=>bindName U n) vs) (lO C H L U F O s Q) a_ s:=by
 induction xs,cs using ll with
 |nn=>exact λvs Z F O J s Q f d a a r h=>au ⟨F,O,J,Z,d.refl,f,h⟩
 |nc=>exact λvs Z F O J s Q f d a j r h=>WQ j
 |cn=>exact λvs Z F O J s Q f d a j r h=>WO j
 |cc x xs c cs E=>
  intro vs Z F O J s Q f d B j r h
  refine oV ?_;intro X Y;refine cz r λv l q G I=>?_;subst q
  obtain⟨M,D⟩:=B x (by simp)
  refine oE (H.2.lookup x) (λb=>?_) λi b=>?_
  ·rw[b] at D;exact bV D
  ·
   refine ae (bf (ao (Ee (Q:=λk aO=>k=upd Z i c/\aO=J) f d (.inl M) b G ⟨rfl,rfl⟩) (λN u S=>?_) λa a e=>e))
   obtain⟨F',aH,aO,k,g,t,rfl,rfl⟩:=S
   refine ao (E l _ F' aH _ u Q t (d.go g) (λy T=>B y (by simp[T])) (by simpa using j) (I.mono g.ext.le g.jo) ?_) (λN W z=>z.trans g) λa a e=>e
   have:dV H.2 Z ((x::xs).zip (c::cs))=dV H.2 (upd Z i c) (xs.zip cs):=by
    show dV H.2 (upd Z ((H.2.lookup x).getD 0) c) (xs.zip cs)=_
    refine af b ?_;rfl
   exact eh this h
theorem bM.reverse:∀{l} {vs},bM F O l vs->bM F O l.reverse vs.reverse
 |[],_,h=>by subst h;exact .nil
 |c::l,_,h=>by
  refine cz h λv r a b d=>?_;clear h;subst a
  simp only[lW]
  exact d.reverse.append (.single b)
theorem Ij (xs:List bD) cs:∀Z J Q,mX E (xs.map λx=>tv (b.lookup x)) cs Z J Q->
  xs.length=cs.length/\(∀x∈xs,(b.lookup x).isSome=true)/\Q (dV b Z (xs.zip cs)) J:=by
 induction xs,cs using ll with
 |nn=>exact λZ J Q h=>fg rfl (λa=>bw) h
 |nc=>exact λZ J Q=>ar
 |cn=>exact λZ J Q=>ar
 |cc x xs c cs f=>
  intro Z J Q h
  have h:du E (tv (b.lookup x)) c Z J (λZ J=>mX E (xs.map λx=>tv (b.lookup x)) cs Z J Q):=h
  refine oE (b.lookup x) (λd=>?_) λi d=>?_
  ·rw[d] at h;exact ar h
  ·
   rw[d] at h
   refine qk (f _ J Q h) λg j k=>(fg (by simp[g]) (λy e=>?_) ?_)
   ·rcases aE.mp e with rfl|e
    ·refine af d ?_;rfl
    ·exact j y e
   ·show Q (dV b (upd Z ((b.lookup x).getD 0) c) (xs.zip cs)) J
    exact af d k
theorem xY:∀k (l:List bD),l.length<=k->l.eraseDups.length=l.length->l.Nodup:=by
 have d:∀k (l:List bD),l.length<=k->l.eraseDups.length<=l.length:=by
  intro k
  induction k with
  |zero=>intro l h;induction l using cL with|nil=>simp|cons _ _=>simp at h
  |succ k f=>
   intro l h
   induction l using cL with
   |nil=>simp
   |cons a l=>
    refine af yh (af bS (af bS ?_))
    have c:=vU (λb=>!b==a) l
    have:=f (l.filter λb=>!b==a) (by simp at h;exact zT c h)
    exact zS (zT this c)
 intro k
 induction k with
 |zero=>intro l h _;induction l using cL with|nil=>simp|cons _ _=>simp at h
 |succ k f=>
  intro l h e
  induction l using cL with
  |nil=>simp
  |cons a l=>
   rw[yh,bS,bS] at e
   have c:=vU (λb=>!b==a) l
   have i:=d (l.filter λb=>!b==a).length (l.filter λb=>!b==a) (ai _)
   have g:(l.filter λb=>!b==a).length=l.length:=nY c (zT (zE (nh e).symm) i)
   have j:=by
    have:=List.filter_sublist (l:=l) (p:=λb=>!b==a)
    exact this.eq_of_length g
   rw[j] at e
   refine ly.mpr ⟨λq=>?_,f l (by simp at h;exact h) (nh e)⟩
   have:=List.length_filter_eq_length_iff.mp g a q
   simp at this
end
section
variable {C:Cfg} {R:Rd} {P:cZ} {PS:dZ} {ℓ n:Nat} {o:List (bD×Nat)} {H:gq} {L:Nat} {U:pB} {A:bU} {m:Nat} {Z:bk} {F:FZ} {O:List bz} {J:aZ} {s:aN}
inductive vc C F O s (G6:bz) (Q:EPost) v u:Prop where
 |mk F' aH aO c:Go C .no F O s F' aH aO u->Rep F' aH c v->Q c aO->s.heap.objs.size<=G6->F'.f G6=none->G6∉aH->G6∉C.tabs->(∃m,u.heap.Ns G6 m)->vc C F O s G6 Q v u
theorem nW.abu (h:nW C F O s d (λl=>Q (.lst l)) v u):vc C F O s d Q v u:=by
 obtain⟨F',aH,aO,a,vs,l,g,rfl,e,b,f,B,⟨c,p,i⟩,r,q,j,k,t,w,x,y⟩:=h
 exact⟨F'.add a c,aH,aO,.lst l,g.Pe e b f p,jq a c vs rfl FZ.jd i (r.mono (FZ.pZ b) (.refl _)),q,j,((if_neg λz=>x z.symm).trans k),t,w,y⟩
theorem nW.aik (h:nW C F O s b (λl J=>Q (.own J.length) (J++[.list l])) v u):vc C F O s b Q v u:=by
 obtain⟨F',aH,aO,a,vs,l,g,rfl,c,d,e,f,p,r,q,i,j,k,t,w,x⟩:=h
 refine⟨F',aH++[a],aO++[.list l],.own aO.length,g.own c d e f (let ⟨_,p,_⟩:=p;aU p) (aP vs p (r.mono (.refl _) (.append _ _))),aP a (by refine eh g.dj.len ?_;simp) rfl,q,i,j,?_,t,x⟩
 rw[bt,bl,not_or]
 exact⟨k,qa w⟩
theorem vc.use (I:DP C R ℓ P n) (hA:bQ (m+ℓ) A) (T:bT C H L U Z F O s.heap) (nw:Nw C F O J s)
  (h:vc C F O s d (λc J=>du (aw P m) (cT R n H L (.Name x p)) c Z J Q') v u):
  aD (aI C.prog C.w) A (assign (.Name x p) U v) (λ_ j=>∃m,j.heap.Ns d m/\∀l,jI d j.heap l->lO C H L U F O s Q' () {j with heap:=l}) a_ u:=by
 obtain⟨F',aH,aO,c,g,r,q,W,l2,X,Y,mm,y⟩:=h
 refine ao (I m H L (.Name x p) U Z F' aH aO u A _ c v (T.gb g) (nw.go g) hA (.inl r) q) (λG5 t h2=>?_) λa a e=>e
 obtain⟨i,jy,k,M,g2,N,q2⟩:=h2
 have B:d∉(dX U).a:=λz=>absurd (T.ok.l_ d z) (bL.mpr W)
 have D:d<u.heap.objs.size:=nH y λa a a e a=>aU e
 have E:t.heap.Ns d mm:=y.at' λo=>g2.ext.keep d o Y (λz=>by
  rcases bt.mp z with z|z
  ·exact X z
  ·exact(λz=>B (gU d z)) z)
 have Q:i.f d=none:=by
  induction e:i.f d using cO with
  |none=>rfl
  |some ob=>
   rcases g2.ext.new d ob e with z|z
   ·exact aW (l2.symm.trans z)
   ·exact absurd D (bL.mpr z)
 have S:d∉jy:=λz=>by
  rcases g2.new d z with z|z
  ·exact X z
  ·exact absurd D (bL.mpr z)
 refine aP mm E λl hs=>?_
 have ex:rk C ⟨[d],[]⟩ i t i {t with heap:=l}:=rk.Cu g2.ext.fz g2.ext.base Q Y (by simp) hs
 have g':Go C ⟨[d],[]⟩ i jy t i jy k {t with heap:=l}:= .wi g2.dj ex λb hb=>by simp at hb;exact af hb S
 have ga:Go C ⟨d::(iF H.1 U).a,[]⟩ F O s i jy k {t with heap:=l}:=
  ((g.pure.trans (g2.weaken (X':=⟨d::(iF H.1 U).a,[]⟩) (λa=>aB _) λa z=>z)).trans (g'.weaken λa G=>by simp at G;refine af G ?_;simp λa z=>z))
 exact⟨i,jy,k,M,ga.drop (λb hb=>by
  rcases aE.mp hb with rfl|hb
  ·exact .inr W
  ·exact .inl hb) λa=>bw,N.go g' λa G=>by simp at G;exact af G B,q2⟩
theorem KO:lF a (some t) l U=pure false\/(∃x p,t= .Name x p/\kJ a=true/\lF a (some t) l U=pure true):=by
 induction r:kJ a using cB with
 |false=>exact .inl (pH r)
 |true=>
  have g:∀scope:jH,∀(f:Expr->Sem Bool),(∀x p,f (.Name x p)=pure (U.blockKind== .function&&U.kindOf x==some .local&&p.line==a.pos.line&&!(scope.names.any λ(n,k)=>n==x&&(k== .local||k== .cell))))->(∀t,(∀x p,t≠Za x p)->f t=pure false)->f t=pure false\/∃x p,t= .Name x p/\f t=pure true:=by
   intro scope f i j
   by_cases d:∃x p,t=Za x p
   ·refine nu d λx p q=>af q ?_
    rw[i]
    cases (U.blockKind== .function&&U.kindOf x==some .local&&p.line==a.pos.line&&!(scope.names.any λ(n,k)=>n==x&&(k== .local||k== .cell))) with
    |true=>exact .inr (fX x p rfl rfl)
    |false=>exact .inl rfl
   ·exact .inl (j t λx p e=>d (sT x p e))
  induction a using aY with
  |ListComp c b scope pos=>
   rcases g scope (λt=>lF (.ListComp c b scope pos) (some t) l U) (λx p=>rfl) (λt d=>by induction t using aY<;>first|rfl|exact absurd rfl (d _ _)) with h|⟨x,p,i,j⟩
   ·exact .inl h
   ·exact .inr (eA x p i rfl j)
  |SetComp c b scope pos=>
   rcases g scope (λt=>lF (.SetComp c b scope pos) (some t) l U) (λx p=>rfl) (λt d=>by induction t using aY<;>first|rfl|exact absurd rfl (d _ _)) with h|⟨x,p,i,j⟩
   ·exact .inl h
   ·exact .inr (eA x p i rfl j)
  |DictComp k c b scope pos=>
   rcases g scope (λt=>lF (.DictComp k c b scope pos) (some t) l U) (λx p=>rfl) (λt d=>by induction t using aY<;>first|rfl|exact absurd rfl (d _ _)) with h|⟨x,p,i,j⟩
   ·exact .inl h
   ·exact .inr (eA x p i rfl j)
  |_=>exact bV r
end
section
variable {C:Cfg} {R:Rd} {P:cZ} {PS:dZ} {ℓ n:Nat} {o:List (bD×Nat)} {H:gq} {L:Nat} {U:pB} {A:bU} {m:Nat} {Z:bk} {F:FZ} {O:List bz} {J:aZ} {s:aN}
theorem Zd {α d:Type}:∀(xs:List α) (cs:List d),xs.length=cs.length->xs.reverse.zip cs.reverse=(xs.zip cs).reverse:=by
 intro e f
 induction e,f using ll with
 |nn=>
  exact λi=>rfl
 |nc b m=>
  exact λh=>by cases h
 |cn a l=>
  exact λh=>by cases h
 |cc x xs c cs g=>
  intro h
  rw[lW,lW,List.zip_cons_cons,lW,List.zip_append (by simpa using h),g (by simpa using h)]
  rfl
set_option maxHeartbeats 2000000 in
theorem Nb (I:ef C R) (T:oZ C R ℓ P) (M:∀n,fO C R ℓ P n) (z:bQ (m+ℓ) A) {x:bD} {p:Pos} {e:Expr} {d:Nat} {Q:bk->aZ->Prop} (B:bT C H L U Z F O s.heap) (D:Nw C F O J s) (E:kJ e=true)
  (h:aw P m Z J (cE R n H L d e) (λc J=>du (aw P m) (cT R n H L (.Name x p)) c Z J Q)) (hx:R.xE H.1 e=none):
  aD (aI C.prog C.w) A (evalThenUse e U (assign (.Name x p) U)) (lO C H L U F O s Q) a_ s:=by
 have r:=jP I n λk _=>M k
 induction n using cN with
 |zero=>exact gc h
 |succ n=>
 rw[A_ hx] at h
 induction e using aY with
 |ListComp j b i pos=>
  induction b using cL with
  |nil=>exact gc h
  |cons g gs=>
   obtain⟨t,it,N,a⟩:=g
   obtain⟨y,h⟩:=ka h
   simp only[cW,beq_iff_eq] at y
   obtain⟨⟨⟨⟨W,X⟩,Y⟩,h4⟩,rfl⟩:=y
   show aD _ A (do let _<-IB (.ListComp j (⟨t,it,N,0⟩::gs) i pos) i U _ (newList []) false (gW it U) (some (assign (.Name x p) U))) _ _ s
   generalize hQ:(λc J=>du (aw P m) (cT R (n+1) H L (.Name x p)) c Z J Q)=G at h
   induction d using cN with
   |zero=>
    induction m using cN with
    |zero=>exact ar h
    |succ m=>
     refine ae (ao (CC (Q:=λl J=>G (.lst l) J) (Φ:=λ_ u=>lO C H L U F O s Q () u) (use:=some (assign (.Name x p) U)) I T (λk _=>M k) (z.le (fP (ba m _) ℓ):bQ (m+ℓ) A) (wI X) W Y h4 B D (λv G6 u S=>?_) h) (λ_ u q=>au q) λ_ _ e=>e)
     have f:=nW.abu (Q:=G) S
     rw[<-hQ] at f
     exact vc.use r z B D f
   |succ d=>
    induction m using cN with
    |zero=>exact ar h
    |succ m=>
     induction m using cN with
     |zero=>exact ar h
     |succ m=>
      replace h:=comp_elim (WS h)
      refine ae (ao (CC (Q:=λl J=>G (.own J.length) (J++[.list l])) (Φ:=λ_ u=>lO C H L U F O s Q () u) (use:=some (assign (.Name x p) U)) I T (λk _=>M k) (z.le (fP (ba m 2) ℓ):bQ (m+ℓ) A) (wI X) W Y h4 B D (λv G6 u S=>?_) h) (λ_ u q=>au q) λ_ _ e=>e)
      have f:=nW.aik (Q:=G) S
      rw[<-hQ] at f
      exact vc.use r z B D f
 |SetComp j b i pos=>exact gc h
 |DictComp k j b i pos=>exact gc h
 |_=>first|exact aW E|exact bV E|exact bw E|exact nomatch E
noncomputable def Ud (U:pB) (ts:List Expr) (v:bq):Sem Unit:=do
 let items<-DS v (fC U ts).length none
 assignInOrder ((fC U ts).reverse.map λn=>bindName U n) items.reverse
theorem Nz:∀(ts:List Expr),(ts.filterMap (nameAt U l)).length=ts.length->(∀x∈ts.filterMap (nameAt U l),U.kindOf x=some .local)/\∀H L n,ts.map (cT R (n+1) H L)=(ts.filterMap (nameAt U l)).map (wa H):=by
 intro ts
 induction ts with
 |nil=>
  exact λ_=>⟨λa h=>bw h,λa a a=>rfl⟩
 |cons e ts c=>
  intro h
  have d:=List.length_filterMap_le (nameAt U l) ts
  refine oE (nameAt U l e) (λb=>?_) λx b=>?_
  ·
   rw[List.filterMap_cons_none b,bS] at h
   grind-abstractProof only
  ·
   rw[List.filterMap_cons_some b] at h ⊢
   refine fK (c (nh h)) λi1 i2=>?_
   clear h;obtain⟨f,p,rfl⟩:=Lq b
   refine⟨λy g=>(aE.mp g).elim (λe=>e▸f) (i1 y),λH L n=>af gC (af (i2 H L n) ?_)⟩
   rfl
theorem KR {a:List (bD×Nat)} (b:∀x y i,a.lookup x=some i->a.lookup y=some i->x=y):∀(l:List bD),l.Nodup->(∀x∈l,(a.lookup x).isSome=true)->(l.map λx=>(a.lookup x).getD 0).Nodup:=by
 intro l
 induction l with
 |nil=>
  exact λ_ _=> .nil
 |cons x l h=>
  intro k d
  obtain⟨q,r⟩:=ly.mp k
  refine ly.mpr ⟨λt=>aG (bO.mp t) λy c e=>?_,h r λy c=>d y (aB _ c)⟩
  obtain⟨i,f⟩:=fw.mp (d x az)
  obtain⟨j,g⟩:=fw.mp (d y (aB _ c))
  have e:(a.lookup y).getD 0=(a.lookup x).getD 0:=e
  rw[f,g] at e
  subst e
  exact q (b x y _ f g▸c)
theorem Mm (D:bT C H L U Z F O s.heap) (E:Nw C F O J s) (S:bQ (m+ℓ) A) (r:Rep F O c v)
  (q:(fC U ts).length=ts.length) (G:(fC U ts).eraseDups.length=(fC U ts).length) (h:du (aw P m) (cT R n H L (.Tuple ts k p)) c Z J Q):
  aD (aI C.prog C.w) A (Ud U ts v) (lO C H L U F O s Q) a_ s:=by
 induction n using cN with
 |zero=>exact ar h
 |succ n=>
 refine letQ ?_;intro Q_;refine fK (yL (t:= .tup (ts.map (cT R n H L))) h) λa h=>oH (GY h) λl X a j=>cz (EX E (t:= .Tuple ts k p) (.inl r) X) λT b I u W=>af I ?_
 obtain⟨i,y⟩:=Nz (R:=R) ts q
 have z:∀x∈fC U ts,H.1.names.lookup x=some .local:=λx d=>by
  rcases D.kd x with e|⟨a,e⟩
  ·exact e.symm.trans (i x d)
  ·rw[i x d] at e;first|exact aW e|exact bV e|exact bw e|exact nomatch e
 have j:mX (aw P m) ((fC U ts).map λx=>tv (H.2.lookup x)) l Z J Q:=by
  induction n using cN with
  |zero=>
   have:ts=[]:=by
    induction ts using cL with
    |nil=>rfl
    |cons e ts=>induction l using cL with
     |nil=>exact ar j
     |cons c l=>exact ar j
   subst this
   exact j
  |succ n=>
   rw[y H L n] at j
   have e:(fC U ts).map (wa H)=(fC U ts).map λx=>tv (H.2.lookup x):=qU λx d=>by
    unfold wa
    refine af (z x d) ?_
    rfl
   exact eh e j
 refine qk (Ij _ l Z J Q j) λB b2 Y=>?_
 have go:∀f,qu s.heap.objs.size s.heap f->s.heap.objs.size<=f.objs.size->aD (aI C.prog C.w) A (assignInOrder ((fC U ts).reverse.map λn=>bindName U n) b.toList.reverse) (lO C H L U F O s Q) a_ {s with heap:=f}:=by
  intro f d hz
  have g:Go C .no F O s F O J {s with heap:=f}:= .lC E (λa o e=>d a o (bj (aU e)) e) hz
  refine ao (Lm (fC U ts).reverse l.reverse b.toList.reverse Z F O J _ Q (D.gb g) (E.go g) (λx d=>⟨z x (Dc.mp d),b2 x (Dc.mp d)⟩) (by rw[yf,yf,B]) W.reverse ?_) (λG5 a0 M=>M.trans g.pure) λa a e=>e
  rw[Zd _ l B,DY]
  ·exact Y
  ·have e2:((fC U ts).zip l).map (λp=>(H.2.lookup p.1).getD 0)=(fC U ts).map λx=>(H.2.lookup x).getD 0:=by
    refine eh (congrArg (QH λx=>(H.2.lookup x).getD 0) (ni (dW B))) (af fW ?_);rfl
   exact af e2 (KR D.ok.vC _ (xY _ _ (ai _) G) b2)
 refine ae (fZ (af (by rw[B,W.size]:(fC U ts).length=b.size) ?_))
 rcases u with u|u
 ·exact ug S.handled u λf e N=>go f e N
 ·exact sH S.handled u λf e N=>go f e N
end
section
variable {C:Cfg} {R:Rd} {P:cZ} {PS:dZ} {ℓ n:Nat} {o:List (bD×Nat)} {H:gq} {L:Nat} {U:pB} {A:bU} {m:Nat} {Z:bk} {F:FZ} {O:List bz} {J:aZ} {s:aN}
theorem lO.toS (h:lO C H L U F O s (λZ J=>Q .next Z J) c u):gz C H L U F O s Q .next u:=by
 obtain⟨F',aH,aO,a,g,b,q⟩:=h
 exact⟨F',aH,aO,a,.next,g,b,rfl,q⟩
theorem Hg (D:ef C R) (E:∀n,fO C R ℓ P n) (z:bQ (m+ℓ) A) {t e} {p} {Q} (b:lF e (some t) p.line U=pure false) (d:Eu t e=true) (G:bT C H L U Z F O s.heap) (I:Nw C F O J s)
  (h:aD (aI C.prog C.w) A (gW e U) (cM C .no F O s (λc J=>du (aw P m) (cT R n H L t) c Z J (λZ J=>Q .next Z J))) a_ s):
  aD (aI C.prog C.w) A (exec (.Assign [t] e p) U) (gz C H L U F O s Q) a_ s:=by
 refine ae (cD (letQ ?_));intro M;show aD _ _ (lF e (some t) p.line U>>=_) _ _ _
 refine af b (ae (au (letQ ?_)));intro M;refine ae (ct I h λv N l q s1 c g1 f B j=>?_)
 have g:=G.gb g1
 rcases Fc (U:=U) d with r|⟨ts,k,W,vs,k',p',rfl,rfl,r,i,u⟩
 ·refine af r (ae (au ?_))
  have x:bR t=true:=by
   clear d;induction t using aY<;>first|rfl|skip
   exfalso
   have e:cT R n H L (.Starred ‹_› ‹_›)= .bad:=by clear h b;induction n using cN<;>rfl
   rw[e] at j
   exact j
  exact af (rT x) (ae (ao ((jP D n λk a=>E k) m H L t U Z N l q s1 A _ c v g f z (.inl B) j) (λS T y=>au (gz.trans g1.pure y.toS)) λa a e=>e))
 ·refine af r (ae (au (ae (oi ?_))))
  have:=Mm g f z B i u j
  have e:(do let items<-DS v (fC U ts).length none;assignInOrder ((fC U ts).reverse.map λn=>bindName U n) items.reverse;pure Flow.next:Sem Flow)=Ud U ts v>>=λa=>pure Flow.next:=(bind_assoc ..).symm
  exact af e (ae (ao this (λS T y=>au (gz.trans g1.pure y.toS)) λa a e=>e))
theorem Tj (q:ef C R) (u:oZ C R ℓ P) (f:∀n,fO C R ℓ P n) (g:bQ (m+ℓ) A) {t e} {p} {d} {Q} (hx:R.xE H.1 e=none\/kJ e=false) (i:Eu t e=true) (j:bT C H L U Z F O s.heap) (k:Nw C F O J s)
  (h:aw P m Z J (cE R n H L d e) (λc J=>du (aw P m) (cT R n H L t) c Z J (λZ J=>Q .next Z J))):
  aD (aI C.prog C.w) A (exec (.Assign [t] e p) U) (gz C H L U F O s Q) a_ s:=by
 rcases KO (t:=t) with b|⟨x,v,rfl,r,b⟩
 ·exact Hg q f g b i j k (f n m H L d e U Z F O J s A _ j k g h)
 ·refine ae (cD ?_)
  show aD _ _ (lF e (some (.Name x v)) p.line U>>=_) _ _ _
  refine af b (ae (au ?_))
  have l:R.xE H.1 e=none:=by
   rcases hx with hx|hx
   ·exact hx
   ·exact bV (hx.symm.trans r)
  exact ae (ao (Nb q u f g j k r h l) (λz B y=>au y.toS) λa a e=>e)
theorem GD (j:∀n,fO C R ℓ P n) (k:bQ (m+ℓ) A) {f} {args} {b} {p p'} {Q} (d:bT C H L U Z F O s.heap) (l:Nw C F O J s)
  (h:aw P m Z J (cE R n H L 0 (.Call f args b p)) (λ_ J=>Q .next Z J)):aD (aI C.prog C.w) A (exec (.Expr (.Call f args b p) p') U) (gz C H L U F O s Q) a_ s:=by
 refine Hy (ao (j n m H L 0 _ U Z F O J s A _ d l k h) (λv s1 r=>?_) λa a e=>e) (by unfold w_;refine af d.ok.kind ?_;rfl) rfl
 obtain⟨t,g,i,c,g1,u,q⟩:=r
 exact⟨t,g,i,Z,.next,g1.pure,d.gb g1,rfl,q⟩
theorem To (W:∀n,fO C R ℓ P n) (X:bQ (m+ℓ) A) {t e} {Y p p'} {Q} (hm:FN t Y p [e] []=true) (i:bR e=true) (u:bT C H L U Z F O s.heap) (nw:Nw C F O J s)
  (h:aw P m Z J (cE R n H L 0 t) (λov J=>listIn J ov (λ_ _=>aw P m Z J (cE R n H L 0 e) (λc J=>listIn J ov (λo l=>l.length<=fj/\Q .next Z (J.set o (.list (l++[c])))))))):
  aD (aI C.prog C.w) A (exec (.Expr (.Call (.Attribute t "append" Y) [e] [] p) p') U) (gz C H L U F O s Q) a_ s:=by
 refine letQ ?_;intro x;refine Hy (kO hm (by simp[i]) rfl (ct nw (W n m H L 0 t U Z F O J s A _ u nw X h) λva F1 B D s1 a g1 d ra E=>?_)) (by unfold w_;refine af u.ok.kind ?_;rfl) rfl
 refine cps λK_ k_=>cz (uR E) λk l f hk E=>?_;subst f
 refine aG (io.mp ra) λb y f=>?_;clear ra h hm;subst f
 refine aG (d.dj.at_ k b _ y hk) λvs G a=>eY G.plain λn' ho=>k_ (fX (.builtin "list.append") [.ref b] (λpl Q'=>jF (aP _ ho rfl) uq PySem.F.slot_list_append PySem.F.type_list_append (λa e=>by injection e with e;subst e;exact aP _ ho rfl)) (letQ ?_));intro x;refine af (tR i) ?_
 show aD _ _ (do let v<-gW e U;let vs<-xT [v] (spliced (backTo p (lq [] U)));pure (v::vs)) _ _ _
 refine letQ ?_;intro x;refine ae (ct d (W n m H L 0 e U Z F1 B D s1 A _ (u.gb g1) d X E) λv I jy M s2 c g2 gp r2 z=>letQ ?_);intro x;refine ae (bf (au (au (au (letQ ?_)))));intro x;refine eW (λa e=>nomatch e) (cz (uR z) λk' l2 N S z=>?_)
 injection N with N;subst N
 have j:=g2.jo _ _ y
 refine aG (gp.dj.at_ k b _ j S) λa0 q r=>uh (hsz:=r.size▸z.1) q.plain λh' T hs=>?_
 have g3:Go C .no I jy s2 I jy (M.set k (.list (l2++[c]))) {s2 with heap:=h'}:= .oP gp j (λb o y=>(hs.2 b y).trans) (dW hs.1.symm) (aP _ (.of T) (by simpa using r.append (.single r2)))
 have g:=(g1.trans g2).trans g3
 exact⟨I,jy,_,Z,.next,g.pure,u.gb g,rfl,z.2⟩
theorem Qg (x:∀n,fO C R ℓ P n) (y:bQ (m+ℓ) A) {z i e} {op} {tp p} {Q} (r:mS i=true) (B:bT C H L U Z F O s.heap) (W:Nw C F O J s)
  (h:aw P m Z J (cE R n H L 0 z) (λD J=>aw P m Z J (cE R n H L 0 i) (λE J=>Gj (eC J D) E (λa=>
   aw P m Z J (cE R n H L 0 e) (λb J=>wU op (eC J a) (eC J b) (λc=>setC J D E c (λJ=>Q .next Z J))))))):
  aD (aI C.prog C.w) A (exec (.AugAssign (.Subscript z i tp) op e p) U) (gz C H L U F O s Q) a_ s:=by
 refine letQ ?_;intro Y;refine wpAny_AugAssign_SubscriptAny (ct W (x n m H L 0 z U Z F O J s A _ B W y h) λD F1 G I s1 co g1 d ro h1=>?_) λa a a=>by induction i using aY<;>first|rfl|exact bV r
 have t:=B.gb g1
 refine ct d (x n m H L 0 i U Z F1 G I s1 A _ t d y h1) λE F2 jy a0 s2 ci g2 gp ri h2=>letQ ?_;intro Y;refine ao (DB (X:= .no) gp (vW d g2 ro) ri h2) (λa3 s3 u=>?_) λa a e=>e
 clear h2 h1 h r;obtain⟨F3,M,a4,ca,g3,r3,u,rfl⟩:=u
 have f:=gp.go g3
 refine ct f (x n m H L 0 e U Z F3 M _ s3 A _ ((t.gb g2).gb g3) f y u) λv F4 a5 a6 s4 cb g4 j r4 h4=>letQ ?_;intro Y;refine ao (wR (X:= .no) j (vW f g4 r3) (Vw.eC j r4) h4) (λa7 s5 N=>?_) λa a e=>e
 clear h4 r4 u r3;obtain⟨F5,S,a8,c5,g5,r5,N,rfl⟩:=N
 have k:=(g3.trans g4).trans g5
 have l:=g2.trans k
 refine ao (Dt (j.go g5) (ro.mono l.ext.le l.jo) (ri.mono k.ext.le k.jo) r5 N) (λG5 s6 h6=>aG h6 λT g6 q=>?_) λa a e=>e
 have g:=(g1.trans l).trans g6
 exact⟨F5,S,T,Z,.next,g.pure,B.gb g,rfl,q⟩
theorem Qh (G:ef C R) (I:∀n,fO C R ℓ P n) (M:bQ (m+ℓ) A) {l e} {x} {t} {op} {tp p} {Q} (d:wg R l x=some t) (u:bT C H L U Z F O s.heap) (N:Nw C F O J s)
  (h:aw P m Z J (cE R n H L 0 l) (λy J=>JH t J y x (λa=>
   aw P m Z J (cE R n H L 0 e) (λb J=>wU op (eC J a) (eC J b) (λc=>Hf t J y x c (λJ=>Q .next Z J)))))):
  aD (aI C.prog C.w) A (exec (.AugAssign (.Attribute l x tp) op e p) U) (gz C H L U F O s Q) a_ s:=by
 refine letQ ?_;intro S;refine wpAny_AugAssign_AttributeAny (ct N (I n m H L 0 l U Z F O J s A _ u N M h) λy F1 a0 a3 s1 co g1 k T W=>letQ ?_);intro S;refine ao (wx (rK G d) k T W) (λa4 s3 r=>?_) λa a e=>e
 obtain⟨F3,z,a5,ca,g3,Y,r,rfl⟩:=r
 have f:=k.go g3
 refine ct f (I n m H L 0 e U Z F3 z _ s3 A _ ((u.gb g1).gb g3) f M r) λv F4 a6 a7 s4 cb g4 i r4 h4=>letQ ?_;intro S;refine ao (wR (X:= .no) i (vW f g4 Y) (Vw.eC i r4) h4) (λa8 s5 B=>?_) λa a e=>e
 clear h4 r4 r W Y h;obtain⟨F5,D,a9,c5,g5,r5,B,rfl⟩:=B
 have j:=(g3.trans g4).trans g5
 refine ao (DM (rK G d) (i.go g5) (T.mono j.ext.le j.jo) r5 B) (λG5 s6 h6=>aG h6 λE g6 q=>?_) λa a e=>e
 have g:=(g1.trans j).trans g6
 exact⟨F5,D,E,Z,.next,g.pure,u.gb g,rfl,q⟩
end
def af5 (C:Cfg) (R:Rd) (ℓ:Nat) (PS:dZ) (H:gq) (L:Nat):Prop:=∀st,R.xS st=true->∀U Z F O J s A m Q,bT C H L U Z F O s.heap->Nw C F O J s->bQ (m+ℓ) A->PS st Z J Q->
 aD (aI C.prog C.w) A (exec st U) (gz C H L U F O s Q) a_ s
section
variable {C:Cfg} {R:Rd} {P:cZ} {PS:dZ} {ℓ:Nat} {o:List (bD×Nat)} {H:gq} {L:Nat}
theorem oY {K:Prop} (h:wpS P PS m .bad Z J Q):K:=by
 exfalso
 induction m using cN<;>exact h
theorem rJ (h:wpS P PS m (Jg b t) Z J Q):b=true/\wpS P PS m t Z J Q:=by
 induction b using cB with
 |true=>exact⟨rfl,h⟩
 |false=>exact oY h
section
variable {n m:Nat} {U:pB} {Z:bk} {F:FZ} {O:List bz} {J:aZ} {s:aN} {A:bU} {Q:fA}
theorem Ml (u:ef C R) (g:∀n,fO C R ℓ P n) (j:bQ (m+ℓ) A) {t e} {op} {p} (k:bT C H L U Z F O s.heap) (l:Nw C F O J s)
  (h:wpS P PS (m+1) (acp R n H L t op (cE R n H L 0 e)) Z J Q):aD (aI C.prog C.w) A (exec (.AugAssign t op e p) U) (gz C H L U F O s Q) a_ s:=by
 induction t using aY with
 |Name x z=>
  change wpS P PS (m+1) (aco H x op (cE R n H L 0 e)) Z J Q at h
  unfold aco at h
  induction q:H.2.lookup x using cO with
  |none=>exact oY (q▸h)
  |some i=>
   rw[q] at h
   refine fK (rJ h) λv h=>?_
   have h:(match Z i with|some a=>aw P m Z J (cE R n H L 0 e) (λb J=>wU op (eC J a) (eC J b) (λc=>Q .next (upd Z i c) J))|none=>False):=h
   refine oE (Z i) (λf=>((f▸h).elim)) λa f=>?_
   ·exact Tf g j k l (Gh v) q f (f▸h)
 |Subscript o i y=>
  obtain⟨r,h⟩:=rJ h
  exact Qg g j r k l h
 |Attribute o x y=>
  change wpS P PS (m+1) (Th R n H L o x op (cE R n H L 0 e)) Z J Q at h
  unfold Th at h
  refine oE (wg R o x) (λd=>(oY (d▸h))) λB d=>?_
  ·exact Qh u g j d k l (d▸h)
 |_=>exact oY h
theorem LQ (c:∀n,fO C R ℓ P n) (d:bQ (m+ℓ) A) {e} {p} (g:bT C H L U Z F O s.heap) (i:Nw C F O J s)
  (h:wpS P PS (m+1) (abH R n H L e) Z J Q):aD (aI C.prog C.w) A (exec (.Expr e p) U) (gz C H L U F O s Q) a_ s:=by
 induction e using aY with
 |Call f args a p'=>induction f using aY with
  |Attribute q j r=>
   change wpS P PS (m+1) (match j=="append" with
    |true=>Tp R n H L q r p' args a
    |false=> .exp (cE R n H L 0 (.Call (.Attribute q j r) args a p'))) Z J Q at h
   induction b:j=="append" using cB with
   |false=>exact GD c d g i (b▸h)
   |true=>
    obtain rfl:=eq_of_beq b
    unfold Tp at h
    refine oE (oneOf args) (λk=>(oY (k▸h))) λe k=>?_
    ·
     obtain rfl:=rB k
     induction a using cL with
     |cons _ _=>exact oY h
     |nil=>
      exact fK (rJ h) λl h=>fK (aq.mp l) λt u=>To c d u t g i h
  |Name x v=>exact GD c d g i h
  |_=>exact oY h
 |_=>exact oY h
end
theorem nK (q:ef C R) (r:oZ C R ℓ P) (u:af5 C R ℓ PS H L) (v:∀s e k,R.xE s e=some k->kJ e=false):∀n,wV C R ℓ P PS o H L n:=by
 have j:=qq q r
 intro n
 induction n with
 |zero=>
  exact λm st U Z F O J s A Q d f w=>oY
 |succ n y=>
 intro m st U Z F O J s A Q d f w h
 induction m using cN with
 |zero=>exact ar h
 |succ m=>
 have c:=w.le (fP (aQ m) ℓ)
 refine letQ ?_;intro D;refine Hb (R.xS st) (λl=>?_) λl=>?_
 ·
  rw[ach l] at h
  exact u st l U Z F O J s A (m+1) Q d f w h
 rw[aci l] at h
 induction st using zw with
 |Assign ts e p=>
  induction ts using cL with
  |nil=>exact oY h
  |cons t ts=>induction ts using cL with
   |cons _ _=>exact oY h
   |nil=>
    obtain⟨i,h⟩:=rJ h
    refine Tj q r j c ?_ i d f h
    induction x:R.xE H.1 e using cO with
    |none=>exact .inl rfl
    |some k=>exact .inr (v _ e k x)
 |AugAssign t op e p=>exact Ml q j c d f h
 |Expr e p=>exact LQ j c d f h
 |If t a b p=>exact Sl j y c d f h
 |For t it body g p=>induction g using cL with
  |cons _ _=>exact oY h
  |nil=>
   obtain⟨i,h⟩:=rJ h
   obtain⟨z,B⟩:=aq.mp i
   exact Sv q r j y c d f z B h
 |Return e p=>clear l;induction e using cO with
  |none=>exact oY h
  |some e=>exact Rr j c d f h
 |Break p=>exact wpAny_Break ⟨F,O,J,Z,.brk,f.refl,d,rfl,h⟩
 |Continue p=>exact wpAny_Continue ⟨F,O,J,Z,.cont,f.refl,d,rfl,h⟩
 |_=>exact oY h
end
noncomputable def hU {α a:Type} (f:α->Option a):List α->Option (List a)
 |[]=>some []
 |x::l=>(f x).bind λy=>(hU f l).map (y:: ·)
noncomputable def pL:Nat->Nat->aZ->CV->Option CV
 |0,_,_,_=>none
 |n+1,k,J,c=>match c with
  | .own i=>(match decide (i<k) with
   |true=>some (.own i)
   |false=>(J[i]?).bind λmo=>(match mo with
    | .list l=>(hU (pL n k J) l).map .lst
    | .dict l=>(hU (λp:bD×CV=>(pL n k J p.2).map λc=>(p.1,c)) l).map .gx
    |_=>none))
  | .tup l=>(hU (pL n k J) l).map .tup
  | .lst l=>(hU (pL n k J) l).map .lst
  | .gx l=>(hU (λp:bD×CV=>(pL n k J p.2).map λc=>(p.1,c)) l).map .gx
  |c=>some c
noncomputable def hM (k:Nat):MO->Bool
 | .list l=>pz k l
 | .dict l=>yt k l
 | .inst _ none=>true
 | .inst _ (some d)=>decide (d<k)
 | .ns l=>l.all λp=>match l.lookup p.1 with
  |some c=>rM k c
  |none=>true
 | .ei _ j=>decide (j<k)
section
variable {F F':FZ} {O aH:List bz}
theorem Cg (c:ny O aH) (i:Nat) a (b:i<O.length) (e:aH[i]?=some a):O[i]?=some a:=(aF b).trans ((c i _ (aF b)).symm.trans e)
theorem Rep.cut (a:jp F F') (b:ny O aH) (h:Rep F aH c v) (w:Internal.rM O.length c=true):Rep F' O c v:=Rep.VH a (Cg b) c v h w
theorem bM.cut (b:jp F F') (d:ny O aH) (h:bM F aH l vs) (w:Internal.pz O.length l=true):bM F' O l vs:=bM.Dl (λc a=>Rep.VH b (Cg d) c) h w
theorem ew.cut (b:jp F F') (c:ny O aH) (h:ew F aH l vs) (w:Internal.yt O.length l=true):ew F' O l vs:=ew.Dl (λp a=>Rep.VH b (Cg c) p.2) h w
end
section
variable {C:Cfg} {X:Wr} {F F':FZ} {O aH:List bz} {J aO:aZ} {s u:aN}
theorem OD (x:s' F O h a m):hM O.length m=true:=by
 induction m using MO.casesOn with
 |list l=>exact aG x λvs a=>bM.pz
 |dict l=>exact cz x λo g a a=>ew.yt
 |ns l=>
  refine oH x λm a i a=>aV.mpr λp a=>?_
  induction e:l.lookup p.1 using cO with
  |none=>rfl
  |some c=>
   exact aG (i _ c e) λv a=>Rep.rM
 |inst c d=>
  refine GJ x λo a a a a k=>?_
  induction d using cO with
  |none=>rfl
  |some j=>
   exact aG k λb f a=>decide_eq_true (aj.mp f).1
 |ei p j=>exact cz x λo b a f a=>decide_eq_true (aj.mp f).1
theorem s'.cut (f:jp F F') (g:ny O aH) {h} {a} {m} (x:s' F aH h a m) (w:hM O.length m=true):s' F' O h a m:=by
 induction m using MO.casesOn with
 |list l=>exact aG x λvs e r=>(aP vs e (r.cut f g w))
 |dict l=>exact cz x λo n e d r=>(eA o n e (af f.1.1 (af f.1.2 d)) (r.cut f g w))
 |ns l=>
  refine oH x λm e t i=>(eJ m e (λy c z=>aG (t y c z) λv e1 r=>(aP v e1 (r.cut f g (iQ (eT.mp z) λG H q a=>?_)))) i)
  have:=aV.mp w (y,c) (by refine af q ?_;simp)
  rw[z] at this
  exact this
 |inst c d=>
  refine GJ x λo e t i D B=>UE o e t i D ?_
  induction d using cO with
  |none=>exact B
  |some j=>
   refine aG B λb A e2=>?_
   have k:j<O.length:=of_decide_eq_true w
   have:=g j _ (aF k)
   exact(aP b ((aF k).trans (this.symm.trans A)) e2)
 |ei p j=>
  refine cz x λo b e A q=>?_
  have k:j<O.length:=of_decide_eq_true w
  have:=g j _ (aF k)
  exact(eA o b e ((aF k).trans (this.symm.trans A)) (λE i=>q E (f.trans i)))
end
set_option tactic.hygienic true
section
variable {C:Cfg} {X:Wr} {F F':FZ} {O aH:List bz} {J aO:aZ} {s u:aN}
noncomputable def FZ.cutAt (F:FZ) (O aH:List bz) (h:kT):FZ:={F with f:=λa=>match decide (a∈aH)&&!decide (a∈O) with
 |true=>h.get? a
 |false=>F.f a}
theorem UU (b:Fz F h):jp F (F.cutAt O aH h):=⟨⟨rfl,rfl⟩,λa o e=>by
 show(match decide (a∈aH)&&!decide (a∈O) with|true=>h.get? a|false=>F.f a)=some o
 induction decide (a∈aH)&&!decide (a∈O) using cB with
 |true=>exact b a o e
 |false=>exact e⟩
theorem JZ (e:(F.cutAt O aH h).f a=some o):(a∈aH/\a∉O/\h.get? a=some o)\/F.f a=some o:=by
 have e:(match decide (a∈aH)&&!decide (a∈O) with|true=>h.get? a|false=>F.f a)=some o:=e
 refine bE (decide (a∈aH)&&!decide (a∈O)) (λq=>?_) λq=>?_
 ·rw[q] at e;exact .inr e
 ·rw[q] at e;exact .inl ⟨of_decide_eq_true (aL q),of_decide_eq_false ((gT _).mp (aR q)),e⟩
theorem eB {α c:Type} {o} {f:α->c} {b} (h:o.map f=some b):∃a,o=some a/\f a=b:=by
 induction o using cO with
 |none=>exact aW h
 |some a=>exact(aP a rfl (ab h))
theorem Cv (h:∀c g v,f c=some g->Rep F aH c v->Rep G O g v) l:∀b vs,hU f l=some b->bM F aH l vs->bM G O b vs:=by
 induction l with
 |nil=>exact λb vs e r=>eh (ab e) r
 |cons c l i=>exact λb vs e r=>cz r λv n a j k=>af a (aG (a' e) λy m e=>aG (eB e) λys d a=>eh a (.cons (h _ _ _ m j) (i _ _ d k)))
theorem Gu {f:CV->Option CV} (h:∀c g v,f c=some g->Rep F aH c v->Rep G O g v) l:∀b vs,hU (λp:bD×CV=>(f p.2).map λc=>(p.1,c)) l=some b->ew F aH l vs->ew G O b vs:=by
 induction l with
 |nil=>exact λb vs e r=>eh (ab e) r
 |cons p l i=>exact λb vs e r=>cz r λv j a k m=>af a (aG (a' e) λy n e=>aG (eB e) λys d a=>eh a (aG (eB n) λq o a=>eh a ((eA v j rfl (h _ _ _ o k) (i _ _ d m)))))
theorem abt (N:Fz F h) (H:ny O aH) (D:qJ C J F aH h):∀n c t v,pL n O.length J c=some t->Rep F aH c v->Rep (F.cutAt O aH h) O t v:=by
 have m:jp F (F.cutAt O aH h):=UU N
 intro n
 induction n with
 |zero=>intro c t v e;exact aW e
 |succ n w=>
  intro c t v e r
  induction c using CV.casesOn with
  |own i=>
   refine xn r λa x=>?_
   have e:(match decide (i<O.length) with
    |true=>some (.own i)
    |false=>J[i]?.bind λmo=>(match mo with
     | .list l=>(hU (pL n O.length J) l).map .lst
     | .dict l=>(hU (λp:bD×CV=>(pL n O.length J p.2).map λc=>(p.1,c)) l).map .gx
     |_=>none))=some t:=e
   refine Hb (decide (i<O.length)) (λy=>?_) λy=>?_
   ·
    rw[y] at e
    refine eh (ab e) ?_
    have I:i<O.length:=of_decide_eq_true y
    have:=H i _ (aF I)
    exact(aP a ((aF I).trans (this.symm.trans x)) rfl)
   ·
    rw[y] at e
    have E:a∉O:=λb=>by
     obtain⟨j,L⟩:=lR.mp b
     have:=D.nodup i j a x (H j a L)
     subst this
     exact of_decide_eq_false y (aj.mp L).1
    have z:∀o,h.get? a=some o->(F.cutAt O aH h).f a=some o:=λo e=>by
     show(match decide (a∈aH)&&!decide (a∈O) with|true=>h.get? a|false=>F.f a)=some o
     have:(decide (a∈aH)&&!decide (a∈O))=true:=by refine af (decide_eq_true (bh x)) (af (decide_eq_false E) ?_);rfl
     exact af this e
    refine aG (a' e) λmo M e=>?_
    induction mo using MO.casesOn with
    |list l=>
     obtain⟨vs,⟨o,G,A⟩,k⟩:=D.at_ i a _ x M
     exact nQ (eB e) λB b=>(jq a o vs rfl (z o G) A (Cv w _ _ _ b k))
    |dict l=>
     exact cz (D.at_ i a _ x M) λo q G d k=>nQ (eB e) λB b=>(jq a o q rfl (z o G) d (Gu w _ _ _ b k))
    |_=>exact aW e
  |tup l=>
   obtain⟨B,b,rfl⟩:=eB e
   refine jB r λa o vs g f A k=>?_;subst g
   exact(jq a o vs rfl (m.2 _ _ f) A (Cv w _ _ _ b k))
  |lst l=>
   obtain⟨B,b,rfl⟩:=eB e
   refine jB r λa o vs g f A k=>?_;subst g
   exact(jq a o vs rfl (m.2 _ _ f) A (Cv w _ _ _ b k))
  |gx l=>
   obtain⟨B,b,rfl⟩:=eB e
   refine jB r λa o q g f d k=>?_;subst g
   exact(jq a o q rfl (m.2 _ _ f) d (Gu w _ _ _ b k))
  |_=>exact eh (ab e) r
def Ly (k:Nat) (J aO:aZ):Prop:=aO.take k=J\/(aO.take k).all (hM k)=true
theorem Go.cut (b:Nw C F O J s) (g:Go C .no F O s F' aH aO u) (hl:Ly J.length J aO):Go C .no F O s (F'.cutAt O aH u.heap) O (aO.take J.length) u:=by
 have c:jp F' (F'.cutAt O aH u.heap):=UU g.ext.fz
 have l:O.length=J.length:=b.dj.len
 have d:O.length<=aH.length:=by
  rcases Nat.lt_or_ge aH.length O.length with h|h
  ·have:=g.jo aH.length _ (aF h)
   exact absurd (aj.mp this).1 (bG _)
  ·exact h
 refine⟨⟨g.ext.le.trans c,λa o e=>?_,g.ext.keep,λa o e=>?_,g.ext.size,g.ext.os,g.ext.gens,g.ext.base⟩,.refl _,λa=> .inl,⟨?_,b.dj.nodup,λa k=>(fg ?_ ((b.dj.fr a k).2.1) (av (b.dj.fr a k).2.2 g.ext.size)),λi a m n f=>?_⟩⟩
 ·exact(JZ e).elim (λz=>z.2.2) (g.ext.fz a o)
 ·exact(JZ e).elim (λz=>(g.new a z.1).elim (λq=>absurd q z.2.1) .inr) (g.ext.new a o)
 ·refine af nj (eh g.dj.len (eh l (gZ d).symm))
 ·simp only[FZ.cutAt]
  have:(decide (a∈aH)&&!decide (a∈O))=false:=by simp[k]
  refine af this ?_
  obtain⟨i,r⟩:=lR.mp k
  exact(g.dj.fr a (bh (g.jo i a r))).1
 ·have t:aO[i]?=some m:=by
   rw[List.getElem?_take] at f
   exact(MU (i<J.length)).elim (λz=>(if_pos z).symm.trans f) λz=>aW ((if_neg z).symm.trans f)
  have j:hM O.length m=true:=by
   rcases hl with hl|hl
   ·exact OD (b.dj.at_ i a m n (hl▸f))
   ·exact l▸aV.mp hl m (bh f)
  exact(g.dj.at_ i a m (g.jo i a n) t).cut c g.jo j
end
set_option tactic.hygienic false
set_option backward.match.sparseCases true
theorem GX {b:lu} (c:b.params=p) (d:b.defaults= .none) (h:∀b:lu,gr {b with params:=p,defaults:= .none} a=x):gr b a=x:=by
 have e:b={b with params:=p,defaults:= .none}:=by rw[<-c,<-d]
 exact e▸h b
noncomputable def wc (H:jH):Bool:=H.kind== .function&&!H.isCoroutine&&!H.isGenerator&&H.names.all (λx=>H.names.lookup x.1==some x.2&&x.2 != .free)
noncomputable def eD (H:jH):gq:=(H,dU H)
noncomputable def gI (H:jH):Nat:=(dU H).length
theorem ky (h:(dU H).lookup x=some i):∃k,(H.names.filter λx=>x.2== .local||x.2== .cell||x.2== .free)[i]?=some (x,k)/\i<gI H:=by
 refine iQ (eT.mp h) λc d q a=>?_
 obtain⟨⟨p,j⟩,b,e⟩:=bO.mp (by refine af q ?_;simp:(x,i)∈dU H)
 simp only[yG] at e
 clear a q h;obtain⟨rfl,rfl⟩:=e
 have:=qO.mp b
 refine(aP p.2 (by simpa using this) ?_)
 simp only[gI,dU,aC,zF]
 exact((aj.mp (by simpa using this)).1)
section
variable {C:Cfg} {R:Rd} {P:cZ} {PS:dZ} {ℓ:Nat} {o:List (bD×Nat)} {F:FZ} {O:List bz} {J:aZ} {s:aN} {A:bU} {m:Nat}
theorem Gv (v:H.kind= .function) (b:∀x∈H.names,tq x.1 H.names=some x.2/\(x.2 !=dH)=true) (d:Kh C H [] F O J s w g u) (l:Fz F s.heap):
  bT C (eD H) (gI H) (g_ none H w bN g q f cd cx) (λ_=>none) F O u.heap:=by
 refine⟨λx=> .inl rfl,⟨v,rfl,rfl,⟨_,d.ns⟩,d.nF,d.nT,d.cls.cell,d.cls.inj,λx y i n r=>?_,λx i c a h=>aW h⟩,λa a=>rfl,λx i h=>(ky h).choose_spec.2,λx j E=>?_,λx a n r=>?_⟩
 ·refine aG (ky n) λG e1 a=>aG (ky r) λI e2 a=>?_
  rw[e1] at e2
  clear r;cases e2;rfl
 ·have B:(eD H).1=H:=rfl
  rw[B] at j
  refine oE (H.names.lookup x) (λk=>?_) λD k=>?_
  ·rw[k] at j;exact nomatch j
  ·
   rw[k] at j
   have t:=pY k
   have:=(b _ t).2
   clear k;induction D using e_<;>first
    |(cases j;done)
    |exact d.has x (.inr t)
    |(simp at this)
 ·rcases d.mem x a n with z|z
  ·cases z
  ·induction e:F.f a using cO with
   |none=>rfl
   |some o=>exact absurd (aU (l _ _ e)) (bL.mpr z)
theorem Yn (d:wc H=true) (g:Kh C H [] F O J s h c u) (e:Fz F s.heap):
  bT C (eD H) (gI H) (g_ none H h bN c q f cd cx) (λ_=>none) F O u.heap:=by
 simp only[wc,cW,beq_iff_eq,aV,gT] at d
 obtain⟨⟨⟨i,a⟩,a⟩,b⟩:=d
 exact Gv i b g e
noncomputable def rf (H:jH) (xs:List bD):Bool:=xs.all λx=>((dU H).lookup x).isSome&&(H.names.lookup x==some .local||H.names.lookup x==some .cell)
structure Bh (C:Cfg) f (d:iR) fd:Prop where
 obj:∃o,C.K f=some o/\o.data= .func fd
 params:fd.params=d.args
 body:fd.body= .stmts d.body
 scope:fd.scope=d.scope
 glob:fd.globals=bN
 ai0:fd.closure=[]
 blt:fd.builtins=cx
 code:∃c oc vs t,fd.code= .ref c/\C.K c=some oc/\oc.data= .fields vs/\vs[1]?=some (.str fd.qualname t)
theorem DN.noLimit (h:DN C F) (a:Fz F s.heap):s.heap.NoLimit:=by
 obtain⟨o,m,b,⟨es,c,d,e,f⟩,g⟩:=h.lim
 exact(aP m (jq o es c (a _ _ (h.k _ _ b)) d e f) g)
noncomputable def afD:Qn->Option CV
 | .ret c=>some c
 | .next=>some .none
 |_=>none
noncomputable def fG (J:aZ) (Q:EPost):fA:=λb _ aO=>∃c a,afD b=some c/\pL 8 J.length aO c=some a/\Ly J.length J aO/\Q a (aO.take J.length)
noncomputable def GA (Q:EPost):fA:=λa _ aO=>∃c,afD a=some c/\Q c aO
noncomputable abbrev CN (C:Cfg) (F:FZ) (O:List bz) (s:aN) (Q:EPost):Result->aN->Prop:=λr u=>match r with| .ok (.ret v)=>cM C .no F O s Q v u| .ok _=>False| .error e=>a_ e u
inductive Ts C W F O s (Q:fA) f u:Prop where
 |mk F' aH aO xV fc:Go C W F O s F' aH aO u->Hn F' aH fc f->Q fc xV aO->Ts C W F O s Q f u
theorem gz.agz (c:Go C .no F0 qD s0 F O J s) (d:∀a∈(dX U).a,s0.heap.objs.size<=a) (h:gz C H L U F O s Q f u):Ts C .no F0 qD s0 Q f u:=by
 obtain⟨F',aH,aO,b,i,g,e,r,q⟩:=h
 exact⟨F',aH,aO,b,i,(c.pure.trans g).drop (λa j=> .inr (d a (gU a j))) λa z=>bw z,r,q⟩
theorem rS (E:Bh C f d n) (W:wc d.scope=true) (a9:rf d.scope (cs.map (·.1))=true)
  (hA:bQ (m+ℓ+1) A) (X:Nw C F O J s)
  (hb:∀Q,(∀F' u g,Go C .no F O s F' O J u->ew F' O cs g->Q g u)->aD (aI C.prog C.w) A.in1 (gr n ⟨vs,kv⟩) Q a_ s)
  (hB:∀U A G M,U.code=n.code->U.qual=n.qualname++".<locals>." ->Go C .no F O s G O J M->(∀a∈(dX U).a,s.heap.objs.size<=a)->bT C (eD d.scope) (gI d.scope) U (dV (dU d.scope) (λ_=>none) cs) G O M.heap->Nw C G O J M->bQ (m+ℓ) A->
   aD (aI C.prog C.w) A (execs d.body U) (Ts C .no F O s (GA Q)) a_ M):
  ik (aI C.prog C.w) A (.call (.ref f) ⟨vs,kv⟩) (CN C F O s Q) s:=by
 refine aG E.obj λob b0 Y=>GH E.code λcc oc b1 t b3 b4 b5 b6=>?_
 have H:=W
 simp only[wc,cW,beq_iff_eq,aV,gT] at H
 obtain⟨⟨⟨b7,b8⟩,a0⟩,a8⟩:=H
 refine codeAny_call_function hA.depth (X.fz _ _ (X.top.k _ _ b0)) Y (E.scope▸b8) (E.scope▸a0) E.body (JE cc oc b1 t b3 (X.fz _ _ (X.top.k _ _ b4)) b5 b6) (ao (hb _ λG s1 g g1 rb=>?_) (λa a q=>q) λa a e=>ar e)
 have N:=X.go g1
 refine af E.scope (af E.glob (af E.ai0 (af E.blt ?_)))
 have a3:Ho C [] G O s1.heap:=by
  constructor
  ·intro x a h;cases h
  ·intro x y a h;exact aW h
 refine ao (pW N a3 λG6 cells s2 B=>?_) (λa a q=>q) λa a e=>ar e
 have gp:=N.go B.go
 have I:=Yn (q:=n.qualname++".<locals>.") (f:=some f) (cd:=n.code) W B N.fz
 have a4:∀p∈cs,(((eD d.scope).2.lookup p.1).isSome=true/\((g_ none d.scope G6 bN cells (n.qualname++".<locals>.") (some f) n.code cx).kindOf p.1=some .local\/((g_ none d.scope G6 bN cells (n.qualname++".<locals>.") (some f) n.code cx).kindOf p.1=some .cell/\d.scope.names.lookup p.1=some .cell/\∃a,(g_ none d.scope G6 bN cells (n.qualname++".<locals>.") (some f) n.code cx).cells.lookup p.1=some a/\G.f a=none))):=λp hp=>by
  have:=aV.mp a9 p.1 (nB hp)
  simp only[cW,jv,beq_iff_eq] at this
  refine fK this λh1 h2=>⟨h1,?_⟩
  rcases h2 with h2|h2
  ·exact .inl h2
  ·refine eY (I.iK p.1 (by refine af h2 ?_;rfl) h1) λa S=>?_
   exact .inr ⟨h2,h2,a,S,I.cF p.1 a (mem_of_lookup S) h2⟩
 refine ux g cs (λa=>none) s2 _ gp I.ok a4 rb λM g3 b9=>?_
 have T:=gp.go g3
 refine⟨T.top.noLimit T.fz,codeAny_func ?_⟩
 have a5:bT C (eD d.scope) (gI d.scope) (g_ none d.scope G6 bN cells (n.qualname++".<locals>.") (some f) n.code cx) (dV (dU d.scope) (λa=>none) cs) G O M.heap:=by
  refine⟨I.kd,b9,λi hi=>?_,I.lt,I.iK,I.cF⟩
  have:∀l Z,(∀p∈l,((dU d.scope).lookup p.1).isSome=true)->Z i=none->dV (dU d.scope) Z l i=none:=by
   intro l
   induction l with
   |nil=>intro Z _ h;exact h
   |cons p l ih=>
    intro Z hl h
    show dV (dU d.scope) (upd Z _ p.2) l i=none
    exact ih _ (λq hq=>hl q (by simp[hq])) (eY (fw.mp (hl p (by simp))) λj hj=>af hj (af (cG _ _ (by
     have:=I.lt p.1 j hj
     exact bZ (zA this hi))) h))
  exact this cs _ (λp hp=>(a4 p hp).1) rfl
 have D:∀a∈(dX (g_ none d.scope G6 bN cells (n.qualname++".<locals>.") (some f) n.code cx)).a,s.heap.objs.size<=a:=λa S=>by
  rw[dX,aE,bO] at S
  rcases S with h|⟨⟨x,b⟩,hx,h⟩
  ·exact af h (ag g1.ext.size B.lo)
  ·subst h
   rcases B.mem x b hx with z|z
   ·cases z
   ·exact ag g1.ext.size z
 refine letQ ?_;intro Q_;refine ao (hB _ _ G M rfl rfl (((g1.trans B.go).pure.trans g3).drop (λa S=> .inr (D a (gU a S))) λa z=>bw z) D a5 T hA.deeper) (λfl s4 h4=>?_) λa a e=>ar e
 obtain⟨F4,a6,c0,c3,fc,c1,r4,c,L,q⟩:=h4
 have a7:∀v,Rep F4 a6 c v->cM C .no F O s Q v s4:=λv rv=>⟨F4,a6,c0,c,c1,rv,q⟩
 induction fc using Qn.casesOn with
 |next=>
  subst r4
  have L:=ab L;subst L
  exact a7 .none (oz.mpr rfl)
 |ret cc=>
  refine aG r4 λv c2 r=>af c2 ?_
  have L:=ab L;subst L
  exact a7 v r
 |brk=>exact aW L
 |cont=>exact aW L
theorem wK (l:∀n,wV C R ℓ P PS o (eD d.scope) (gI d.scope) n) (q:Bh C f d r) (c:wc d.scope=true) (i:rf d.scope (cs.map (·.1))=true)
  (j:bQ (m+ℓ+1) A) (k:Nw C F O J s)
  (t:∀Q,(∀F' u b,Go C .no F O s F' O J u->ew F' O cs b->Q b u)->aD (aI C.prog C.w) A.in1 (gr r ⟨vs,kv⟩) Q a_ s)
  (h:bX (wpS P PS m) (d.body.map (cS R o 60 (eD d.scope) (gI d.scope))) (dV (dU d.scope) (λ_=>none) cs) J (GA Q)):
  ik (aI C.prog C.w) A (.call (.ref f) ⟨vs,kv⟩) (CN C F O s Q) s:=
 rS q c i j k t λa a v x a a g y z k j=>ao (kI (l 60) j d.body _ v O J x _ z k h) (λa a h=>h.agz g y) λa a e=>e
theorem ZL (x:qJ C J F O h):J.all (hM J.length)=true:=by
 refine aV.mpr λm b=>?_
 obtain⟨i,a⟩:=lR.mp b
 have:=OD (x.at_ i _ m (aF (x.len▸(aj.mp a).1)) a)
 rwa [x.len] at this
theorem codeAny_func (B:∀n,wV C R ℓ P PS o (eD d.scope) (gI d.scope) n) (D:Bh C f d E) (l:wc d.scope=true) (t:rf d.scope (cs.map (·.1))=true)
  (G:bQ (m+ℓ+1) A) (k:Nw C F O J s)
  (H:∀Q,(∀F' u b,Go C .no F O s F' O J u->ew F' O cs b->Q b u)->aD (aI C.prog C.w) A.in1 (gr E ⟨vs,kv⟩) Q a_ s)
  (h:J.all (hM J.length)=true->bX (wpS P PS m) (d.body.map (cS R o 60 (eD d.scope) (gI d.scope))) (dV (dU d.scope) (λ_=>none) cs) J (fG J Q)):
  ik (aI C.prog C.w) A (.call (.ref f) ⟨vs,kv⟩) (CN C F O s Q) s:=by
 refine ij (wK (Q:=λc aO=>∃a,pL 8 J.length aO c=some a/\Ly J.length J aO/\Q a (aO.take J.length)) B D l t G k H ?_) λr S i=>?_
 ·have e:(GA λc aO=>∃a,pL 8 J.length aO c=some a/\Ly J.length J aO/\Q a (aO.take J.length))=fG J Q:=by
   funext z Z aO
   exact propext ⟨λh=>aG h λc x h=>eY h λa y=>fX c a x y,λh=>iQ h λc a x y=>aP c x ⟨a,y⟩⟩
  exact af e (h (ZL k.dj))
 induction r using pq with
 |error e=>exact i
 |ok z=>
  induction z using gj with
  |ret v=>
   obtain⟨T,I,L,c,g,M,a,N,j,q⟩:=i
   exact⟨_,O,_,a,Go.cut k g j,(abt g.ext.fz g.jo g.dj 8 c a v (k.dj.len▸N) M),q⟩
  |next=>exact ar i
  |brk=>exact ar i
  |cont=>exact ar i
theorem Dk (e:∀n,wV C R ℓ P PS o (eD d.scope) (gI d.scope) n) (g:Bh C f d i) (b:wc d.scope=true) (c:rf d.scope (cs.map (·.1))=true)
 (j:bQ (m+ℓ+1) A) (k:Nw C F O J s)
 (l:∀Q,(∀F' u a,Go C .no F O s F' O J u->ew F' O cs a->Q a u)->aD (aI C.prog C.w) A.in1 (gr i ⟨vs,kv⟩) Q a_ s)
 (h:J.all (hM J.length)=true->bX (wpS P PS m) (d.body.map (cS R o 60 (eD d.scope) (gI d.scope))) (dV (dU d.scope) (λ_=>none) cs) J (fG J Q)):
 aD (aI C.prog C.w) A (call (.ref f) vs kv) (cM C .no F O s Q) a_ s:=ol (codeAny_func e g b c j k l h)
end
set_option backward.match.sparseCases false
section
variable {M:Model} {A:bU} {R:GenEnd} {Y:Protocol} {n:Nat} {ek:aN} {c:Code} {fs:List Frame} {s:aN} {U:pB}
 {K:Flow->Sem Fin} {G7:bq->Sem Fin} {gd:Bool->Bool} {lv:List bq->List bq}
theorem Ro (h:bQ (ℓ+1) A):bQ ℓ (A.over (.func body U) []):=by
 refine fg h.1 ?_ ?_
 ·have:=h.2.1
  show A.depth+1+ℓ<=900
  exact zI this
 ·have:=h.2.2
  show A.units+3+10*ℓ<=9000
  exact Ey this (by decide)
theorem Wx (h:bQ (ℓ+1) A):bQ ℓ (A.over (.forLoop t it b [] e) [.ret k none g l (.func body U) p []]):=by
 refine fg h.1 ?_ ?_
 ·have:=h.2.1
  show A.depth+1+ℓ<=900
  exact zI this
 ·have:=h.2.2
  show A.units+3+10*ℓ<=9000
  exact Ey this (by decide)
theorem Ji {st} (h:aD M (A.over c fs) (exec st U) (λf u=>f= .next/\Seg M A R Y n ek c ((execs rest U).wrap K G7 gd lv) fs u) a_ s):
  Seg M A R Y n ek c ((execs (st::rest) U).wrap K G7 gd lv) fs s:=
 pd (seg_wrap (ao h (λf u q=>Es q λq=>q) λa a=>ar))
theorem adz (h:aD M (A.over c fs) (isTrue t U (gW t U)) (λr u=>Seg M A R Y n ek c ((execs (if r then a else b) U).wrap K G7 gd lv) fs u) a_ s):
  Seg M A R Y n ek c ((exec (.If t a b p) U).wrap K G7 gd lv) fs s:=by
 show Seg M A R Y n ek c (.at p λz=>(isTrue t U (gW t U)>>=λr=>if r=true then execs a U else execs b U).wrap K G7 gd lv) fs s
 refine seg_at (ig (ao h (λr u q=>?_) λa a=>ar))
 induction r using cB<;>exact q
theorem ZS (d:mT it=true)
 (h:aD M (A.over c fs) (gW it U) (λx s1=>aD M (A.over c fs) (kf x) (λb g=>∀p,Seg M A R Y n ek (.forLoop t b body [] U) (M.den (.forLoop t b body [] U))
  (.ret (λr=>((match r with| .ok f=>(.pure f:Sem Flow)| .error e=> .raise e).onRaise λ(x:bq)=>do
   if (<-field x 1)==oo then unsupported "frame.own-activation:exception-without-traceback"
   setFlight x U.frame).wrap K G7 gd lv) none (gd false) (lv []) c p []::fs) g) a_ s1) a_ s):
 Seg M A R Y n ek c ((exec (.For t it body [] p) U).wrap K G7 gd lv) fs s:=ig (cD (ig (ao h (λx s1 i=>ig (jD (nG d) (ig (cD (ig (bf (ao i (λb g=>seg_call) λa a=>ar))))))) λa a=>ar)))
theorem Af (h:aD (aI prog w) (A.over (.forLoop t b body [] U) fs) (pyNext b) (λr s1=>match r with
   |none=>Seg (aI prog w) A R Y n ek (.block [] U) ((aI prog w).den (.block [] U)) fs s1
   |some v=>aD (aI prog w) (A.over (.forLoop t b body [] U) fs) (dS t b v) (λ_ d=>aD (aI prog w) (A.over (.forLoop t b body [] U) fs) (assign t U v) (λ_ g=>
     Seg (aI prog w) A R Y n ek (.forLoop t b body [] U) ((execs body U).wrap (λf=>match f with
      | .next| .cont=> .pure (.again (.forLoop t b body [] U))
      | .brk=> .pure (.done .next)
      | .ret v=> .pure (.done (.ret v))) (λe=>(do noteFrame e U;Eh e:Sem Unit).wrap (λ_=> .raise e) .raise id id) id id) fs g) a_ d) a_ s1) a_ s):
  Seg (aI prog w) A R Y n ek (.forLoop t b body [] U) ((aI prog w).den (.forLoop t b body [] U)) fs s:=by
 show Seg _ A R Y n ek _ ((forTurn t b body [] U).onRaise λx=>do noteFrame x U;Eh x) fs s
 rw[Sem.onRaise_eq_wrap]
 refine ig (cD (ig (yC (ao h (λr s1 i=>?_) λa a=>ar))))
 induction r using cO with
 |none=>exact seg_again rfl i
 |some v=>
  refine ig (ao i (λa d j=>ig (ao j (λa g k=>?_) λa a=>ar)) λa a=>ar)
  rw[tj,yF]
  exact af (Sem.wrap_congr (execs body U) _ _
    λf=>by induction f using gj<;>rfl
    λe=>by exact Sem.bind_eq_wrap _ _) k
end
inductive MY where
 |set (i:Nat) (e:ME)
 |xW (e:ME)
 |iff (t:ME) (a b:List MY)
noncomputable def qh:CV->Bool
 | .none=>true
 | .bool _=>true
 | .int _=>true
 | .bW _=>true
 | .str _=>true
 | .obj _=>true
 |_=>false
noncomputable def aao:CV->Bool
 | .tup l=>l.all qh
 |c=>qh c
def Bf (Z:bk):Prop:=∀i c,Z i=some c->qh c=true
theorem Bf.upd (h:Bf Z) (b:qh c=true):Bf (upd Z i c):=λj d e=>by
 by_cases a:j=i
 ·subst a;rw[lA] at e;exact eh (ab e) b
 ·exact h j d ((cG _ _ a).symm.trans e)
def qy (P:cZ) (m:Nat):Nat->List MY->bk->List CV->(bk->List CV->Prop)->Prop
 |0,_,_,_,_=>False
 |n+1,l,Z,ys,Q=>match l with
  |[]=>Q Z ys
  |y::l=>match y with
   | .set i e=>aw P m Z [] e (λc J=>J=[]/\qh c=true/\qy P m n l (upd Z i c) ys Q)
   | .xW e=>aw P m Z [] e (λc J=>J=[]/\aao c=true/\match ys with
    |[]=>False
    |y::ys=>y=c/\qy P m n l Z ys Q)
   | .iff t a b=>gm (aw P m) Z m [] t (λr J=>J=[]/\Br r (qy P m n a Z ys (λZ ys=>qy P m n l Z ys Q)) (qy P m n b Z ys (λZ ys=>qy P m n l Z ys Q)))
def zY (P:cZ) (m n:Nat) (t:MT) (body:List MY):List CV->bk->List CV->(bk->List CV->Prop)->Prop
 |[],Z,ys,Q=>Q Z ys
 |c::cs,Z,ys,Q=>du (aw P m) t c Z [] (λZ J=>J=[]/\Bf Z/\qy P m n body Z ys (λZ ys=>zY P m n t body cs Z ys Q))
noncomputable def Sh:Option um->Bool
 |some k=>(match k with| .local=>true|_=>false)
 |none=>false
theorem XO (h:Sh k=true):k=some .local:=by
 induction k using cO with
 |none=>exact bV h
 |some k=>induction k using e_<;>first|rfl|exact bV h
noncomputable def ahV (b:Bool) (e:MY):MY:=match b with
 |true=>e
 |false=> .xW .bad
section
variable (R:Rd) (n:Nat) (s:gq) (L:Nat)
noncomputable def Ar (e:Expr):Option Str:=match vw e with
 | .name x=>some x
 |_=>none
theorem RJ (h:Ar e=some x):∃p,e= .Name x p:=by
 induction e using aY with
 |Name y p=>exact af (ab h) ⟨p,rfl⟩
 |_=>exact aW h
noncomputable def Tn (ts:List Expr) (e:Expr):MY:=match (oneOf ts).bind Ar with
 |some x=>(match s.2.lookup x with
  |some i=>ahV (Sh (s.1.names.lookup x)&&!kJ e) (.set i (cE R n s L 0 e))
  |none=> .xW .bad)
 |none=> .xW .bad
noncomputable def age (e:Expr):MY:=match vw e with
 | .xW v=>(match v with
  |some e=> .xW (cE R n s L 0 e)
  |none=> .xW .bad)
 |_=> .xW .bad
noncomputable def aj8 (f:oq->MY) (st:oq):MY:=match st with
 | .Assign ts e _=>Tn R n s L ts e
 | .Expr e _=>age R n s L e
 | .If t a b _=> .iff (cE R n s L 0 t) (a.map f) (b.map f)
 |_=> .xW .bad
noncomputable def cY (n:Nat) (s:gq) (L:Nat):oq->MY:=n.rec (λ_=> .xW .bad) λn f=>aj8 R n s L f
end
noncomputable def FK (C:Cfg):FZ:=⟨C.prog,C.w,C.K⟩
noncomputable def oJ (C:Cfg):Cfg:={C with tabs:=[]}
structure Cm (C:Cfg) (s:aN):Prop where
 k:∀a o,C.K a=some o->s.heap.get? a=some o
 bare:rq s.gens
 tok:0<s.toks
structure vG (C:Cfg):Prop where
 g:∃o,C.K bN=some o/\Io o C.mg
 b:∃o,C.K cx=some o/\Io o C.mb
 Ja:∃o,C.K om=some o
 lim:∃o m,C.K cStatics=some o/\Io o m/\m "sys.recursionlimit" =none
theorem Cm.of (nw:Nw C F O J s):Cm C s:=⟨λa o e=>nw.fz a o (nw.top.k a o e),nw.base.bare,nw.base.tok⟩
theorem Cm.nw (h:Cm C s) (c:vG C):Nw (oJ C) (FK C) [] [] s:=
 ⟨⟨rfl,rfl,λa a e=>e,λa=>bw,c.g,c.b,c.Ja,c.lim⟩,h.k,⟨h.bare,λa=>bw,h.tok⟩,⟨rfl,λi j a e=>by simp at e,λa=>bw,λi a m e=>by simp at e⟩⟩
structure gf (W:List bz) (ek s:aN):Prop where
 keep:∀b o,b∉W->ek.heap.get? b=some o->s.heap.get? b=some o
 size:sz ek<=sz s
 toks:ek.toks<=s.toks
 gens:∀(i:Nat) g,ek.gens[i]?=some g->s.gens[i]?=some g
 os:s.os=ek.os
theorem gf.refl (W s):gf W s s:=⟨λa a a e=>e,ai _,ai _,λa a e=>e,rfl⟩
theorem gf.trans (x:gf W s u) (y:gf W u a):gf W s a:=
 ⟨λb o h e=>y.keep b o h (x.keep b o h e),ag x.size y.size,ag x.toks y.toks,λi g e=>y.gens i g (x.gens i g e),y.os.trans x.os⟩
section
variable {C:Cfg} {R:Rd} {P:cZ} {ℓ:Nat} {H:gq} {L:Nat} {U:pB} {Z:bk} {s u:aN} {A:bU} {m:Nat}
theorem Rep.tT (h:qh c=true):Rep F O c v->Rep F' aH c v:=by
 induction c using CV.casesOn<;>first|(intro r;exact r)|exact bV h
structure GI C H L U Z (s:aN):Prop where
 env:bT (oJ C) H L U Z (FK C) [] s.heap
 cm:Cm C s
 Wq:Bf Z
theorem bT.toK (h:bT (oJ C) H L U Z F [] s.heap) (k:Bf Z) (d:jp (FK C) F):bT (oJ C) H L U Z (FK C) [] s.heap:=by
 have j:∀a,F.f a=none->(FK C).f a=none:=λa e=>by
  induction q:(FK C).f a using cO with
  |none=>rfl
  |some o=>exact aW ((d.2 a o q).symm.trans e).symm
 exact⟨h.kd,⟨h.ok.kind,h.ok.glob,h.ok.blt,h.ok.ns,j _ h.ok.Ca,h.ok.Ao,h.ok.cell,h.ok.inj,h.ok.vC,λx i c g b=>aG (h.ok.vars x i c g b) λv e r=>(aP v e (Rep.tT (k i c b) r))⟩,h.top,h.lt,h.iK,λx a g b=>j _ (h.cF x a g b)⟩
theorem Go.since (g:Go (oJ C) X (FK C) [] s F' [] aO u) (c:s.toks<=u.toks) (d:X.g=[]):gf X.a s u:=
 ⟨λb o h e=>g.ext.keep b o (bw) (by simpa using h) e,g.ext.size,c,λi x=>g.ext.gens i x (by refine af d ?_;simp),g.ext.os⟩
theorem gf.weaken (h:gf W s u) (c:∀a∈W,a∈d):gf d s u:=⟨λb o e=>h.keep b o λz=>e (c b z),h.size,h.toks,h.gens,h.os⟩
inductive Kg (C:Cfg) (W:List bz) ek h c v:Prop where
 |mk F':Rep F' [] c v->Fz F' h->F'.pr=C.prog->F'.w=C.w->(∀a o,F'.f a=some o->C.K a=some o\/(sz ek<=a/\a∉W))->Kg C W ek h c v
theorem LR (f:∀n,fO (oJ C) R ℓ P n) (i:vG C) (j:bQ (m+ℓ) A) {n} {e} {Q:CV->Prop} (b:GI C H L U Z s) (h:aw P m Z [] (cE R n H L 0 e) (λc J=>J=[]/\Q c)):
  aD (aI C.prog C.w) A (gW e U) (λv u=>∃c,Q c/\Kg C [] s u.heap c v/\gf [] s u/\GI C H L U Z u) a_ s:=by
 refine letQ ?_;intro D;refine et (ao (f n m H L 0 e U Z (FK C) [] [] s A _ b.env (b.cm.nw i) j h) (λv s1 l t=>?_) λa a e=>λa=>e)
 obtain⟨x,y,B,c,g,r,rfl,q⟩:=l
 have d:=km.mp g.dj.len
 subst d
 exact⟨c,q,⟨x,r,g.ext.fz,g.ext.le.1.1,g.ext.le.1.2,λa o e=>(g.ext.new a o e).imp id λz=>⟨z,bw⟩⟩,g.since t rfl,(b.env.gb g).toK b.Wq g.ext.le,⟨λa o e=>g.ext.keep a o (bw) (by simp) (b.cm.k a o e),g.ext.base.bare,g.ext.base.tok⟩,b.Wq⟩
theorem adl (i:∀n,fO (oJ C) R ℓ P n) (j:vG C) (l:bQ (m+ℓ) A) {n} {e} {Q:Bool->Prop} (d:GI C H L U Z s) (h:gm (aw P m) Z m [] (cE R n H L 0 e) (λc J=>J=[]/\Q c)):
  aD (aI C.prog C.w) A (isTrue e U (gW e U)) (λb u=>Q b/\gf [] s u/\GI C H L U Z u) a_ s:=by
 refine letQ ?_;intro y;refine et (ao (qg n (λk a=>i k) m m H L e U Z (FK C) [] [] s A _ d.env (d.cm.nw j) l h) (λb s1 r t=>?_) λa a e=>λa=>e)
 obtain⟨z,v,x,g,rfl,q⟩:=r
 have f:=km.mp g.dj.len
 subst f
 exact⟨q,g.since t rfl,(d.env.gb g).toK d.Wq g.ext.le,⟨λa o e=>g.ext.keep a o (bw) (by simp) (d.cm.k a o e),g.ext.base.bare,g.ext.base.tok⟩,d.Wq⟩
end
set_option backward.match.sparseCases true
noncomputable def wy (C:Cfg) (W:List bz) (all:List CV):Protocol:=λn ek v s d=>∃(i:Nat) (c:CV),all[i]?=some c/\i+1+n=all.length/\aao c=true/\Kg C W ek s.heap c v/\gf W ek s/\Cm C s/\(∀b∈W,b<sz s)/\
 ∀a,Cm C a->(∀b∈W,b<sz a)->(∀b∈W,∀o,s.heap.get? b=some o->a.heap.get? b=some o)->d (.send .none) a
noncomputable def wz (C:Cfg) (W:List bz):GenEnd:=λn ek r dm=>r= .ok (.ret .none)/\(n=0/\gf W ek dm/\Cm C dm)
theorem Kg.agV (x:Kg C [] s h c v) (d:sz ek<=sz s) (g:∀b∈W,b<sz s):Kg C W ek h c v:=by
 obtain⟨F,r,f,p,w,q⟩:=x
 exact⟨F,r,f,p,w,λa o e=>(q a o e).imp id λz=>⟨ag d z.1,λy=>absurd (g a y) (bL.mpr z.1)⟩⟩
section
variable {C:Cfg} {R:Rd} {P:cZ} {ℓ:Nat} {H:gq} {L:Nat} {U:pB} {m:Nat} {A:bU}
theorem NE (B:vG C) (d:GI C H L U Z s) (n:H.1.names.lookup x=some .local) (q:H.2.lookup x=some i) (D:qh c=true) (r:Rep (FK C) [] c v)
  (h:∀u,gf [U.locals] s u->GI C H L U (upd Z i c) u->sz u=sz s->Q () u):aD (aI C.prog C.w) A (storeName U x v) Q a_ s:=by
 have nw:=d.cm.nw B
 have l:U.kindOf x=some .local:=by
  rcases d.env.kd x with e|⟨e,a⟩
  ·exact e.trans n
  ·cases n.symm.trans e
 refine et (kY (H:={H.1 with names:=[]}) d.env.ok nw.fz nw.base q (.inl l) r λu f E F=>λG=>?_)
 have t:(iF {H.1 with names:=[]} U).a=[U.locals]:=by
  unfold iF
  simp
 refine h u ⟨λb o I e=>f.keep b o (bw) (t▸I) e,f.size,G,λi g=>f.gens i g (by simp[iF]),f.os⟩ ⟨⟨d.env.kd,E,λj y=>(af (cG _ _ (by have:=d.env.lt x i q;exact bZ (zA this y))) (d.env.top j y)),d.env.lt,d.env.iK,d.env.cF⟩,⟨λa o e=>?_,f.base.bare,f.base.tok⟩,d.Wq.upd D⟩ F
 ·refine f.keep a o (bw) (λz=>?_) (d.cm.k a o e)
  rw[t] at z
  simp at z
  have:=d.env.ok.Ca
  exact aW (e.symm.trans (z▸this)).symm
theorem GI.l_ (d:GI C H L U Z s):∀b∈(dX U).a,b<sz s:=by
 intro b f
 rw[dX,aE,bO] at f
 rcases f with rfl|⟨⟨y,a⟩,l,rfl⟩
 ·obtain⟨m,n⟩:=d.env.ok.ns
  exact AQ n λa a a e=>aU e.1
 ·obtain⟨⟨v,c⟩,q⟩:=d.env.ok.cell y a l
  exact eY c λa e=>aU e.1
theorem GI.later {W:List bz} (d:GI C H L U Z s) (j:Cm C u) (e:∀a∈(dX U).a,a∈W) (f:∀b∈W,∀o,s.heap.get? b=some o->u.heap.get? b=some o):GI C H L U Z u:=by
 have g:∀o,s.heap.get? U.locals=some o->u.heap.get? U.locals=some o:=f _ (e _ (by simp[dX]))
 have h:∀y a,(y,a)∈U.cells->∀o,s.heap.get? a=some o->u.heap.get? a=some o:=λy a l=>f _ (e _ (by rw[dX,aE,bO];exact .inr (aP _ l rfl)))
 refine⟨⟨d.env.kd,⟨d.env.ok.kind,d.env.ok.glob,d.env.ok.blt,?_,d.env.ok.Ca,d.env.ok.Ao,λy a l=>?_,d.env.ok.inj,d.env.ok.vC,λx i c k t=>?_⟩,d.env.top,d.env.lt,d.env.iK,d.env.cF⟩,j,d.Wq⟩
 ·obtain⟨m,n⟩:=d.env.ok.ns
  exact⟨m,n.at' g⟩
 ·obtain⟨⟨v,c⟩,q⟩:=d.env.ok.cell y a l
  exact⟨⟨v,IsCell.keeps c (h y a l)⟩,q⟩
 ·refine aG (d.env.ok.vars x i c k t) λv w r=>(aP v (w.keeps ?_) r)
  rintro a o (rfl|⟨z,l⟩) q
  ·exact g o q
  ·exact h z a (mem_of_lookup l) o q
theorem ZR (hE:∀n,fO (oJ C) R ℓ P n) (E:vG C) {c} {fs} (hA:bQ (m+ℓ) (A.over c fs)) (b3:splitAtGen fs=none) (b4:fs.any Frame.guarded=false) (b5:U.scope.isCoroutine=false)
  {W WI:List bz} (hW:∀a∈(dX U).a,a∈W) (a3:∀a∈WI,a∈W/\a≠U.locals) {Inv:aN->Prop} (Y:∀s u,Inv s->((∀b∈WI,b<sz s)->∀b∈WI,b<sz u)->(∀b∈WI,∀o,s.heap.get? b=some o->u.heap.get? b=some o)->Inv u) {all} (a6:∀Z s,GI C H L U Z s->Inv s->∀b∈W,b<sz s):
  ∀fu n' l Z ek s ys Q K G7 gd lv,gd false=false->GI C H L U Z s->gf W ek s->Inv s->(∃pre,all=pre++ys)->
   qy P m fu (l.map (cY R n' H L)) Z ys Q->
   (∀O F g u,Q O F->GI C H L U O u->gf W g u->Inv u->(∃pre,all=pre++F)->Seg (aI C.prog C.w) A (wz C W) (wy C W all) F.length g c (K .next) fs u)->
   Seg (aI C.prog C.w) A (wz C W) (wy C W all) ys.length ek c ((execs l U).wrap K G7 gd lv) fs s:=by
 intro fu
 induction fu with
 |zero=>intro n' l Z ek s ys Q K G7 gd lv D gi hs S hp h;exact ar h
 |succ fu ih=>
 intro n' l Z ek s ys Q K G7 gd lv D gi hs S hp h B
 have a0:w_ U=false:=by unfold w_;refine af gi.env.ok.kind ?_;rfl
 induction l using cL with
 |nil=>
  exact seg_execs_nil (B Z ys ek s h gi hs S hp)
 |cons st l=>
  have d:∀{W' s1 s2},gf W' s1 s2->(∀a∈W',a∉WI)->Inv s1->Inv s2:=λa7 hd S=>Y _ _ S (λhl b T=>av (hl b T) a7.size) λb T o=>a7.keep b o (λz=>hd b z T)
  induction n' using cN with
  |zero=>exact gc h
  |succ n'=>
  induction st using zw with
  |Assign ts e p=>
   change qy P m (fu+1) (Tn R n' H L ts e::l.map (cY R (n'+1) H L)) Z ys Q at h
   unfold Tn at h
   induction ho:(oneOf ts).bind Ar using cO with
   |none=>exact gc (ho▸h)
   |some x=>
   refine aG (a' ho) λt X h2=>?_
   obtain⟨xp,rfl⟩:=RJ h2
   refine af (rB X) ?_
   rw[ho] at h
   dsimp only at h
   induction G:H.2.lookup x using cO with
   |none=>exact gc (G▸h)
   |some i=>
   rw[G] at h
   refine bE (Sh (H.1.names.lookup x)&&!kJ e) (λI=>(gc (I▸h))) λI=>?_
   ·
    rw[I] at h
    have a4:kJ e=false:=by
     have:=(aq.mp I).2
     induction hc:kJ e using cB with
     |false=>rfl
     |true=>rw[hc] at this;exact bV this
    refine Ji (Bp (ao (LR hE E hA gi h) (λv s1 X=>?_) λa a e=>e) (pH a4))
    obtain⟨cv,⟨J,k⟩,⟨F1,r1,a⟩,j,q⟩:=X
    exact NE E q (XO (aq.mp I).1) G J (Rep.tT J r1) λs2 a8 b6 a=>⟨rfl,(ih (n'+1) l _ ek s2 ys Q K G7 gd lv D b6 ((hs.trans (j.weaken λa=>bw)).trans (a8.weaken λa z=>by simp at z;subst z;exact hW _ (by simp[dX])))
     (d a8 (λa z y=>by simp at z;exact(a3 a y).2 z) (d j (λa=>bw) S)) hp k B)⟩
  |Expr e p=>
   induction e using aY with
   |Yield v yp=>induction v using cO with
    |none=>exact gc h
    |some e=>
     induction ys using cL with
     |nil=>
      refine pd ?_
      rw[exec_Expr U _ p a0 rfl]
      show Seg (aI C.prog C.w) A _ _ _ ek c (.at p λa=>((gW e U>>=λv=>EM yp>>=λa=>yieldOut U v)>>=(dropValue (.Yield (some e) yp) p)).wrap _ G7 gd lv) fs s
      refine seg_at ?_
      rw[tj,tj,yF,yF]
      refine seg_wrap (ao (LR hE E hA gi h) (λv s1 X=>?_) λa a=>ar)
      obtain⟨a,⟨a,hf⟩,a⟩:=X
      exact hf.elim
     |cons y ys=>
      refine pd (seg_Expr_Yield b3 D b4 (ao (LR hE E hA gi h) (λv s1 X=>?_) λa a=>ar) b5 a0)
      obtain⟨cv,⟨a9,b7,k⟩,b0,j,q⟩:=X
      subst b7
      intro c4 b1
      obtain⟨pre,M⟩:=hp
      exact(afS pre.length y (by rw[M];simp) (by rw[M];simp;omega) a9 (b0.agV hs.size (a6 _ _ gi S)) (hs.trans (j.weaken λa=>bw)) q.cm (a6 _ _ q (d j (λa=>bw) S)) (λa5 b8 b9 N=>b1 .none a5 (ih (n'+1) l Z a5 a5 ys Q K G7 gd lv D (q.later b8 hW N) (.refl _ _) (Y _ _ (d j (λa=>bw) S) (λa b T=>b9 b (a3 b T).1) λb T=>N b (a3 b T).1) ⟨pre++[y],by rw[M];simp⟩ k B)))
   |_=>exact gc h
  |If t a b p=>
   refine pd (adz (ao (adl hE E hA gi h) (λr s1 X=>?_) λa a e=>e))
   obtain⟨hq,j,q⟩:=X
   have go:∀br,qy P m fu (br.map (cY R n' H L)) Z ys (λZ ys=>qy P m fu (l.map (cY R (n'+1) H L)) Z ys Q)->Seg (aI C.prog C.w) A (wz C W) (wy C W all) ys.length ek c ((execs br U).wrap (λf=>match f with| .next=>(execs l U).wrap K G7 gd lv|f=>K f) G7 gd lv) fs s1:=λbr T=>
    ih n' br Z ek s1 ys _ _ G7 gd lv D q (hs.trans (j.weaken λa=>bw)) (d j (λa=>bw) S) hp T λO F g u c0 c1 c2 G c3=>ih (n'+1) l O g u F Q K G7 gd lv D c1 c2 G c3 c0 B
   induction r using cB with
   |true=>exact go a (hq.1 rfl)
   |false=>exact go b (hq.2 rfl)
  |_=>exact gc h
end
set_option backward.match.sparseCases false
section
variable {C:Cfg} {R:Rd} {P:cZ} {ℓ:Nat} {H:gq} {L:Nat} {U:pB} {m:Nat} {A:bU}
theorem Cm.since (h:Cm C s) (b:gf W s u) (c:∀a∈W,C.K a=none) (d:rq u.gens):Cm C u:=
 ⟨λa o e=>b.keep a o (λz=>aW ((c a z).symm.trans e)) (h.k a o e),d,av h.tok b.toks⟩
theorem GI.since (d:GI C H L U Z s) (e:gf W s u) (f:∀a∈W,C.K a=none/\a∉(dX U).a) (g:rq u.gens):GI C H L U Z u:=
 d.later (d.cm.since e (λa z=>(f a z).1) g) (λa z=>z) λb c o=>e.keep b o (λz=>(f b z).2 c)
theorem Wp (hR:ef (oJ C) R) (hE:∀n,fO (oJ C) R ℓ P n) (a3:vG C) {t} {z} {body v} {k} {lb} {p} {n' fu}
  (S:bQ (m+ℓ) (A.over (.forLoop t (.ref z) body [] U) [.ret k none false lb (.func v U) p []])) (b4:U.scope.isCoroutine=false)
  {W fp wr} {n} {Pt} {St} {b5} (WT:∀A',A'.handled=none->WalksT C.prog C.w A' z fp wr n Pt St b5)
  (hW:∀a∈(dX U).a,a∈W) (d:∀a∈fp,a∈W/\a∉(dX U).a/\C.K a=none) (b6:∀a∈W,a∈fp\/a∈(dX U).a) {all items} (hn:items.length=n)
  (hP:∀i j c,Pt i j->items[i]?=some c->∃l,c= .tup l/\bM (FK C) [] l j.toList)
  (I:isTup t=true):
  ∀cs r Z ek s ys Q,r++cs=items->GI C H L U Z s->St r.length s.heap->(∀b∈fp,b<sz s)->gf W ek s->(∃pre,all=pre++ys)->
   zY P m fu (cT R n' H L t) (body.map (cY R n' H L)) cs Z ys Q->
   (∀D x f u,Q D x->GI C H L U D u->(∀b∈fp,b<sz u)->gf W f u->(∃pre,all=pre++x)->Seg (aI C.prog C.w) A (wz C W) (wy C W all) x.length f (.block [] U) ((aI C.prog C.w).den (.block [] U)) [.ret k none false lb (.func v U) p []] u)->
   Seg (aI C.prog C.w) A (wz C W) (wy C W all) ys.length ek (.forLoop t (.ref z) body [] U) ((aI C.prog C.w).den (.forLoop t (.ref z) body [] U)) [.ret k none false lb (.func v U) p []] s:=by
 intro cs
 induction cs with
 |nil=>
  refine λr Z ek s ys Q hd J X hl hs hp h y=>Af (et (fZ ((WT _ S.handled).done s _ _ (hn▸(bK r).symm.trans hd▸X) λh' tk hk hz ht=>?_)))
  have a4:gf wr s {s with heap:=h',toks:=tk}:=⟨hk,hz,ht,λa a e=>e,rfl⟩
  exact y Z ys ek _ h (J.since a4 (λa z=>⟨(d a ((WT _ S.handled).sub a z)).2.2,(d a ((WT _ S.handled).sub a z)).2.1⟩) J.cm.bare) (λb Y=>av (hl b Y) hz) (hs.trans (a4.weaken λa z=>(d a ((WT _ S.handled).sub a z)).1)) hp
 |cons c cs ih=>
  refine λr Z ek s ys Q hd J X hl hs hp h y=>?_
  have B:items[r.length]?=some c:=hd▸(be (ai _)).trans (dw _▸rfl)
  have E:=WT _ S.handled
  have M:∀a∈wr,C.K a=none/\a∉(dX U).a:=λa z=>⟨(d a (E.sub a z)).2.2,(d a (E.sub a z)).2.1⟩
  refine Af (et (fZ (E.item r.length s _ _ (hn▸(aj.mp B).1) X λT j h1 F b7 hT b8 N b9 a5 c0=>?_)))
  have a6:gf wr s {s with heap:=h1,toks:=F}:=⟨b9,a5,c0,λa a e=>e,rfl⟩
  refine letQ ?_;intro Q_;refine aG (hP r.length j c b7 B) λl c1 rl=>?_;clear B;subst c1
  refine nt ?_;intro s_;refine AQ (T_ I) λes kk tp c2=>?_;subst c2
  refine letQ ?_;intro Q_;refine fZ (E.go es kk tp r.length T _ _ _ N λh2 a7 a8 a9=>?_)
  have b0:gf wr {s with heap:=h1,toks:=F} {s with heap:=h2,toks:=F}:=⟨a8,a9,ai _,λa a e=>e,rfl⟩
  have a0:=(J.since a6 M J.cm.bare).since b0 M J.cm.bare
  refine nt ?_;intro s_;refine et (ao (jP hR n' (λk a=>hE k) m H L (.Tuple es kk tp) U Z (FK C) [] [] _ _ _ _ _ a0.env (a0.cm.nw a3) S (.inr ⟨I,l,rfl,(aG b8 λo e q=>(eA T j rfl (aP o (a8 T o (E.apart _ _ _ N) e) q) rl))⟩) h) (λG5 s3 h3 c3=>?_) λa a e=>λa=>e)
  obtain⟨F3,d2,d3,b1,g3,c4,rfl,O,h3⟩:=h3
  have c5:=km.mp g3.dj.len
  subst c5
  have G:gf (iF H.1 U).a {s with heap:=h2,toks:=F} s3:=g3.since c3 rfl
  have c6:∀a∈(iF H.1 U).a,C.K a=none:=λa z=>by
   rw[iF,aE,bO] at z
   rcases z with rfl|⟨q,hq,rfl⟩
   ·exact J.env.ok.Ca
   ·have:=nZ.mp hq
    exact J.env.cF q.1 q.2 this.1 (by simpa using this.2)
  have c7:GI C H L U b1 s3:=⟨c4.toK O g3.ext.le,a0.cm.since G c6 g3.ext.base.bare,O⟩
  exact ZR hE a3 S rfl rfl b4 hW (λa z=>⟨(d a z).1,λe=>(d a z).2.1 (by refine af e ?_;simp[dX])⟩) (Inv:=λs=>St (r++[CV.tup l]).length s.heap/\∀b∈fp,b<sz s) (λs u h hl hk=>⟨E.frame _ _ _ h.1 hk,hl h.2⟩)
   (λa a g i b Y=>(b6 b Y).elim (i.2 b) (g.l_ b)) fu n' body b1 ek s3 ys _ _ _ id id rfl c7 (((hs.trans (a6.weaken λa z=>(d a (E.sub a z)).1)).trans (b0.weaken λa z=>(d a (E.sub a z)).1)).trans (G.weaken λa z=>hW a (gU a z))) ⟨(ax:(r++[CV.tup l]).length=_)▸(E.frame _ _ _ a7 λb Y o=>G.keep b o (λz=>(d b Y).2.1 (gU b z))),λb Y=>av (hl b Y) (ag a5 (ag a9 G.size))⟩ hp h3 λD x f u c8 c9 d0 b3 d1=>seg_again rfl (ih (r++[CV.tup l]) D f u x Q (aM ..▸hd) c9 b3.1 b3.2 d0 d1 c8 y)
end
section
variable {prog:jT} {w:oK} {A:bU} {E:bq->aN->Prop} {s:aN}
theorem Oa {P:Nat->aN->aN->Prop} (u:A.handled=none)
  (y:s.heap.NoLimit) (d:A.depth<recursionLimit)
  (h:s.heap.IsGen a g) (f:s.gens[g]?=some q)
  (e:q.Goes (aI prog w) A.in1 (λn ek r dm=>r= .ok (.ret .none)/\P n ek dm) Y n (.send .none) (s.setGen g .running))
  (z:∀v dm c,c.bare=true->Y (n-1) (s.setGen g .running) v dm (λB i=>match n with
    |0=>False
    |m+1=>c.Goes (aI prog w) A.in1 (λn ek r dm=>r= .ok (.ret .none)/\P n ek dm) Y m B i)->Q (some v) (dm.setGen g c))
  (C:∀dm,P n (s.setGen g .running) dm->∀j,(∀b o,dm.heap.get? b=some o->j.get? b=some o)->sz dm<=j.objs.size->Q none {dm.setGen g .finished with heap:=j}):
  aD (aI prog w) A (pyNext (.ref a)) Q E s:=by
 refine ae (p_ (iM h.typeIs Iv
  (h_ Iv h.typeIs entry_gen_next ?_ (args_gen_next _))))
 show aD _ A.in1 (HS (.ref a) (.send .none)) _ _ s
 refine oV ?_;intro D t;refine ae (bf (wpAny_genNumber h (ae (wpAny_genState f ?_))))
 induction q using vp with
 |running=>exact e.elim
 |finished=>exact e.elim
 |_=>
  refine ae (wpAny_roomToWake y d (wpAny_resumeQ f e (λx dm F=>?_) λv dm c k G=>(au (aP v rfl (au (z v dm c k G))))))
  ·refine fK F λl H=>af l ?_
   show aD _ A.in1 (newExc (.type "StopIteration") []>>=_) _ _ _
   refine letQ ?_;intro D;refine ae (nt ?_);intro t;refine ae (jE (ae (jD (by rfl) (nt ?_))) (by size_fits));intro t;refine jE (ae (ae (It ?_))) (by size_fits)
   refine af u ?_
   refine wpAny_throw (ae (ui (aP _ (aT _ rfl) rfl) wZ ?_))
   exact au (C dm H _ (λb o k=>bu _ (bu _ k)) (by
    rw[dv,dv]
    exact dg (aQ _)))
end
section
variable {C:Cfg} {ℓ:Nat} {A:bU} {F:FZ} {O:List bz} {J:aZ} {s:aN}
theorem yk (h:i≠g) (e:s.gens[i]?=some x):(s.setGen g a).gens[i]?=some x:=by
 refine af (Array.getElem?_setIfInBounds_ne (qa h)) ?_
 exact e
theorem Ae (h:rq s.gens) (a:b.bare=true):rq (s.setGen g b).gens:=by
 intro y c
 rcases Array.mem_or_eq_of_mem_setIfInBounds c with d|rfl
 ·exact h y d
 ·exact a
theorem setGen_self (e:s.gens[g]?=some x):(s.setGen g b).gens[g]?=some b:=by
 unfold Shared.setGen
 obtain⟨h,a⟩:=mP.mp e
 rw[Array.getElem?_setIfInBounds_self_of_lt h]
theorem abq (h:s.heap.IsGen a g):aD (aI prog w) A (dS (.Tuple es k pos) (.ref a) v) (λ_ u=>u=s) a_ s:=by
 refine jB h λo nm f e c d a=>?_
 induction v using cK with
 |ref b=>
  exact ae (oj e (af c (af d (au rfl))))
 |_=>exact au rfl
theorem JI {gg:aZ->Prop} (a6:a∉W) (D:all=pre++cs) (hA:bQ ℓ A) (nw:Nw C F' aH aO u) (ap:Apart C ⟨a::m,[g]⟩ F' aH u)
  (a7:∀b∈W,b∈m\/sz u<=b) (L:u.heap.IsGen a g) (M:u.gens[g]?=some gs) (go:gs.Goes (aI C.prog C.w) A.in1 (wz C W) (wy C W all) cs.length (.send .none) (u.setGen g .running))
  (R:∀c G,cs=c::G->∀v d H j,Go C ⟨a::m,[g]⟩ F' aH u d aH aO H->Rep d aH c v->(∀b o,d.f b=some o->F'.f b=some o\/b∉W)->H.heap.IsGen a g->H.gens[g]?=some j->(∀B,Cm C B->(∀b∈W,b<sz B)->(∀b∈W,∀o,H.heap.get? b=some o->B.heap.get? b=some o)->j.Goes (aI C.prog C.w) A.in1 (wz C W) (wy C W all) G.length (.send .none) B)->(∀b∈W,b<sz H)->Φ (some v) H)
  (S:cs=[]->∀H,Go C ⟨a::m,[g]⟩ F' aH u F' aH aO H->Φ none H):aD (aI C.prog C.w) A (pyNext (.ref a)) Φ a_ u:=by
 have a0:∀b o,b∉a::m->u.heap.get? b=some o->b∉W:=λb o X e z=>by
  rcases a7 b z with y|y
  ·exact X (aB _ y)
  ·exact absurd (aU e) (bL.mpr y)
 have n:∀s1 j,gf W (u.setGen g .running) s1->rq s1.gens->j.bare=true->∀h',(∀b o,s1.heap.get? b=some o->h'.get? b=some o)->sz s1<=h'.objs.size->
   Go C ⟨a::m,[g]⟩ F' aH u F' aH aO {s1.setGen g j with heap:=h'}:=λs1 j I X a8 h' Y hz=>by
  refine .Lg nw (λb o X e=>Y b o (I.keep b o (a0 b o X e) e)) (ag I.size hz) I.os (λi x hi e=>?_) (Ae X a8) I.toks ap
  have a3:=by simpa using hi
  exact yk a3 (I.gens i x (yk a3 e))
 refine Oa hA.handled (nw.top.noLimit nw.fz) hA.depth L M go (λv s1 j X hy=>?_) λs1 hp h' Y hz=>?_
 ·obtain⟨i,c',hi,Z,E,⟨F1,r1,a9,b,b,b0⟩,h,t,N,P⟩:=hy
  induction cs using cL with
  |nil=>
   exfalso
   exact P s1 t N λa a a e=>e
  |cons c G=>
   have a4:i=pre.length:=by
    rw[D] at Z
    simp at Z
    grind-abstractProof only
   have hc:=by
    rw[D,a4] at hi
    simp at hi
    exact hi.symm
   subst hc
   have g0:=n s1 j h t.bare X s1.heap (λa a e=>e) (ai _)
   have b1:∃d,Go C ⟨a::m,[g]⟩ F' aH u d aH aO (s1.setGen g j)/\Rep d aH c' v/\∀b o,d.f b=some o->F'.f b=some o\/b∉W:=by
    clear Z go D a4 hi;induction c' using CV.casesOn with
    |tup l=>
     refine jB r1 λT o vs b3 hT so rl=>af b3 ?_
     have a5:∀l vs d,l.all qh=true->bM F1 [] l vs->bM d aH l vs:=by
      intro l
      induction l with
      |nil=>intro vs d _ r;subst r;exact .nil
      |cons c l ih=>
       refine λvs d I r=>cz r λv vr b4 r1 r2=>af b4 ?_
       simp only[lH,cW] at I
       exact .cons (Rep.tT I.1 r1) (ih vr d I.2 r2)
     rcases b0 T o hT with hK|Q
     ·exact(eJ F' g0 (Aj.mpr (jq T o vs rfl (nw.top.k _ _ hK) so (a5 _ _ _ E rl))) λa a=> .inl)
     ·exact(eJ (F'.add T o) (Go.Vd nw g0 Q.1 (a9 T o hT)) (Aj.mpr (jq T o vs rfl FZ.jd so (a5 _ _ _ E rl))) (λb o' e=>by
       simp only[FZ.add] at e
       split at e
       ·rename_i z;exact .inr (z▸Q.2)
       ·exact .inl e))
    |_=>first|exact(eJ F' g0 (Rep.tT rfl r1) λa a=> .inl)|exact bV E
   exact oH b1 λd g1 r b5=>R c' G rfl v d _ j g1 r b5 (nH L λo nm qn e q=>(ww o nm qn (h.keep a o a6 e) q)) (setGen_self (h.gens g .running (setGen_self M))) (λB b6 b7=>P B b6 b7) N
 ·refine qk hp λb8 h t=>?_
  have:=km.mp b8
  exact S this _ (n s1 .finished h t.bare rfl h' Y hz)
theorem f_.gen:∀cs pre d F O s n,all=pre++cs->s.heap.IsGen a g->s.gens[g]?=some n->a∉d->
  (bQ ℓ A->∀j,Cm C j->(∀b∈d,b<sz j)->(∀b∈d,∀o,s.heap.get? b=some o->j.heap.get? b=some o)->∃W,(∀b∈d,b∈W)/\(∀b∈W,b∈d\/sz j<=b)/\n.Goes (aI C.prog C.w) A.in1 (wz C W) (wy C W all) cs.length (.send .none) j)->
  f_ C ℓ A true (.ref a) ⟨a::d,[g]⟩ gg cs F O s:=by
 intro cs
 have pr:∀{cs:List CV} {d F O} {s:aN} {n F' aH aO} {u},s.heap.IsGen a g->s.gens[g]?=some n->a∉d->
   (bQ ℓ A->∀j,Cm C j->(∀b∈d,b<sz j)->(∀b∈d,∀o,s.heap.get? b=some o->j.heap.get? b=some o)->∃W,(∀b∈d,b∈W)/\(∀b∈W,b∈d\/sz j<=b)/\n.Goes (aI C.prog C.w) A.in1 (wz C W) (wy C W all) cs.length (.send .none) j)->
   bQ ℓ A->Nw C F' aH aO u->Apart C ⟨a::d,[g]⟩ F' aH u->jp F F'->ny O aH->(∀b∈a::d,∀o,s.heap.get? b=some o->u.heap.get? b=some o)->(∀i∈[g],∀x,s.gens[i]?=some x->u.gens[i]?=some x)->
   u.heap.IsGen a g/\u.gens[g]?=some n/\∃W,a∉W/\(∀b∈d,b∈W)/\(∀b∈W,b∈d\/sz u<=b)/\n.Goes (aI C.prog C.w) A.in1 (wz C W) (wy C W all) cs.length (.send .none) (u.setGen g .running):=λ{cs d F O s n F' aH aO u} t B P D G m H z_ z_ N E=>
  have Q:u.heap.IsGen a g:=nH t λo nm qn e q=>ww o nm qn (N a az o e) q
  (fg Q (E g az n B) (oH (D G (u.setGen g .running) ⟨λb o e=>m.fz b o (m.top.k b o e),Ae m.base.bare rfl,m.base.tok⟩ (λb hb=>(H b (aB _ hb)).2.2.2) λb hb o=>N b (aB _ hb) o) λW Z I R=>
   OV W (λz=>(I a z).elim P λy=>nH Q λo nm qn e q=>absurd (aU e) (bL.mpr y)) Z I R))
 induction cs with
 |nil=>
  exact λpre d F O s n l t B P D=>λF' aH aO u G m H hF ho N E a=>qk (pr t B P D G m H hF ho N E) λi1 i2 h=>JX h λW h0 Z I R=>JI (gg:=gg) h0 l G m H I i1 i2 R (λa a h=>nomatch h) λa s2 g2=>⟨rfl,g2⟩
 |cons c cs ih=>
  refine λpre d F O s n l t B P D=>λF' aH aO u G m H hF ho N E z_=>qk (pr t B P D G m H hF ho N E) λi1 i2 h=>JX h λW h0 Z I R=>JI (gg:=gg) h0 l G m H I i1 i2 R (λc' a4 e v M s2 a0 g2 r a3 L S T X=>?_) λh=>nomatch h
  cases e
  refine .mk v M ⟨a::W,[g]⟩ g2 (fg (λb hb=>((aE.mp hb).elim (λe=>e▸az) λy=>aB _ (Z b y))) (λb hb=>((aE.mp hb).elim (λe=> .inl (e▸az)) λy=>(I b y).imp (aB _) id)) rfl) (λb hb=>?_) (.val r (λes k pos A=>abq L) (ih (pre++[c]) W M aH s2 a0 (l.trans (List.append_cons ..)) L S h0 λG j cm lt k=>eJ W (λb h=>h) (λb=> .inl) (T j cm lt k)))
  ·have Y:=λz=>(UT (H b z) λq1 q2 q3 q4=>iJ (g2.fN q1 q4) q2 q3 (av q4 g2.ext.size))
   rcases aE.mp hb with hb|hb
   ·exact Y (hb▸az)
   ·refine(I b hb).elim (λy=>Y (aB _ y)) λy=>
    have no:∀{K},b<sz u->K:=λq=>absurd q (bL.mpr y)
    iJ (oE (M.f b) id λo e=>(a3 b o e).elim (λz=>no (aU (m.fz b o z))) (absurd hb)) (λz=>no (m.base.lt b z)) (λz=>no (m.dj.fr b z).2.2) (X b hb)
end
section
variable {C:Cfg} {R:Rd} {P:cZ} {ℓ:Nat} {H:gq} {L:Nat} {U:pB} {m:Nat} {A:bU}
theorem ae0 (d:nI c=some f)
  (h:∀v e,s.toks<=e->(∀F O,Rep F O f v)->Q v {s with toks:=e}):aD M A (gW (.Constant c k p) U) Q E s:=by
 induction c with
 |none=>have d:=ab d;subst d;exact au (h _ s.toks (ai _) λa a=>oz.mpr rfl)
 |bool b=>have d:=ab d;subst d;exact au (h _ s.toks (ai _) λa a=>iE.mpr rfl)
 |int i=>have d:=ab d;subst d;exact DQ (h _ _ (aQ _) λa a=>cw.mpr ⟨_,rfl⟩)
 |float x=>have d:=ab d;subst d;exact Ir (h _ _ (aQ _) λa a=>eQ.mpr ⟨_,rfl⟩)
 |str x=>have d:=ab d;subst d;exact λa a a=>h _ _ (aQ _) λa a=>ez.mpr ⟨_,rfl⟩
 |_=>first|exact aW d|exact bV d|exact bw d|exact nomatch d
theorem Fj {K} (b:vG C) (l:GI C H L U Z s) (y:H.1.names.lookup x=some .local) (B:H.2.lookup x=some i) (d:nI c=some o) (D:qh o=true)
  (h:∀u,gf [U.locals] s u->GI C H L U (upd Z i o) u->sz u=sz s->Seg (aI C.prog C.w) A G Y n ek E ((execs rest U).wrap K G7 gd lv) fs u):
  Seg (aI C.prog C.w) A G Y n ek E ((execs (.Assign [.Name x M] (.Constant c k N) O::rest) U).wrap K G7 gd lv) fs s:=by
 refine Ji (Bp (ae0 d λv q F r=>?_) (pH rfl))
 have t:gf [] s {s with toks:=q}:=⟨λa a a e=>e,ai _,F,λa a e=>e,rfl⟩
 have f:GI C H L U Z {s with toks:=q}:=l.since t (λa z=>bw z) l.cm.bare
 refine NE b f y B D (r _ _) λI g j J=>⟨rfl,h I ((t.weaken λa z=>bw z).trans g) j J⟩
theorem Ss (hR:ef (oJ C) R) (hE:∀n,fO (oJ C) R ℓ P n) (q:vG C) {x1 x2 xa} {a8 a9 b0 b1 b3 b4 p1 p2 p3 p4} {c1 c2} {k1 k2 i1 i2 ia} {y B} {t} {fb r} {E} {Z} {n' fu}
  (hA:bQ (m+ℓ+2) A) (J:U.scope.isCoroutine=false)
  (b5:H.1.names.lookup x1=some .local) (b6:H.2.lookup x1=some i1) (M:nI c1=some y) (b7:qh y=true)
  (b8:H.1.names.lookup x2=some .local) (b9:H.2.lookup x2=some i2) (N:nI c2=some B) (c0:qh B=true)
  (c3:tW (H.1.names.lookup ("enumerate" :bD))= .Gn) (O:R.G ("enumerate" :bD)=some (.type "enumerate"))
  (c4:(xa==("__debug__" :bD))=false) (c5:H.2.lookup xa=some ia) (Q:ia≠i1) (S:ia≠i2) (c6:Z ia=some (.str E))
  (T:isTup t=true) {all}
  (F:zY P m fu (cT R n' H L t) (fb.map (cY R n' H L)) ((E.cps.toList.map λc=>CV.str ⟨#[c]⟩).zipIdx.map λp=> .tup [.int (p.2:Nat),p.1]) (upd (upd Z i1 y) i2 B) all (λZ ys=>qy P m fu (r.map (cY R n' H L)) Z ys (λ_ ys=>ys=[])))
  {s} (gi:GI C H L U Z s):
  ∃W,(∀b∈(dX U).a,b∈W)/\(∀b∈W,b∈(dX U).a\/sz s<=b)/\
   (GenState.fresh (.func (.Assign [.Name x1 a8] (.Constant c1 k1 b0) b3:: .Assign [.Name x2 a9] (.Constant c2 k2 b1) b4:: .For t (.Call (.Name ("enumerate" :bD) p1) [.Name xa p2] [] p3) fb [] p4::r) U)).Goes (aI C.prog C.w) A (wz C W) (wy C W all) all.length (.send .none) s:=by
 refine(OV ((dX U).a++[sz s+1,sz s]) (λb l=>dG _ l) (λb l=>?_) rfl ?_)
 ·rcases bt.mp l with h|h
  ·exact .inl h
  ·refine .inr ?_
   simp at h
   rcases h with rfl|rfl
   ·exact aQ _
   ·exact ai _
 refine seg_func (Fj q gi b5 b6 M b7 λs1 h1 c7 z1=>Fj q c7 b8 b9 N c0 λv h2 f z2=>pd (ZS rfl (letQ ?_)));intro Q_;refine cps λK_ k_=>aG (f.env.ok.vars xa ia _ c5 (by rw[cG _ _ S,cG _ _ Q,c6])) λva X Y=>?_
 obtain⟨tk,rfl⟩:=Y
 refine k_ (ir rfl (kA (C:=oJ C) hR f.env (f.cm.nw q) c3 O (hR.Lk O) (dQ (Hx (oM f.env.ok.kind X (eP (eW (λa e=>nomatch e) (zu λh' he c8 hz hk=>Bn he λp=>?_)))) c4) (tR rfl))))
 have hsz:=z2.trans z1
 have a0:gf [] v {v with heap:=h'}:=⟨λb o a e=>hk b o e,by show _<=h'.objs.size;exact af hz (ba _ _),ai _,λa a e=>e,rfl⟩
 have c9:GI C H L U (upd (upd Z i1 y) i2 B) {v with heap:=h'}:=f.since a0 (λa z=>bw z) f.cm.bare
 have D:∀a,sz v<=a->a∉(dX U).a/\C.K a=none:=λa j=>by
  refine⟨λz=>absurd (f.l_ a z) (bL.mpr j),?_⟩
  induction e:C.K a using cO with
  |none=>rfl
  |some o=>exact absurd (aU (f.cm.k a o e)) (bL.mpr j)
 have a3:∀a∈[U.locals],a∈(dX U).a++[sz s+1,sz s]:=λa j=>by
  simp at j;subst j;simp[dX]
 have a4:gf ((dX U).a++[sz s+1,sz s]) s {v with heap:=h'}:=((h1.weaken a3).trans (h2.weaken a3)).trans (a0.weaken λa z=>bw z)
 have a5:v.heap.objs.size+1≠v.heap.objs.size:=CY _
 refine Wp hR hE q (bQ.le (Wx hA) (aQ _)) J (λA' (d0:Around.handled A'=none)=>Bt (GK (C:=C) (A:=A'.in1) d0 v.heap.objs.size E tk) (v.heap.objs.size+1) a5 (λz=>a5 (bl.mp z)) az)
  (λb l=>dG _ l) (λa j=>?_) (λa j=>?_) (by simp) (λi e2 c hp hc=>(iQ hp λt x q1 d1=>af d1 (aG (zipIdx_get _ i c hc) λd q2 d2=>af d2 ((aP _ rfl (.cons (cw.mpr ⟨t,rfl⟩) (.single (NC q1 q2)))))))) T _ [] _ s _ all _ rfl c9 ⟨⟨.none,he⟩,c8⟩ (λb l=>?_) a4 ⟨[],rfl⟩ F ?_
 ·have:sz v<=a:=by
   simp at j
   rcases j with rfl|rfl
   ·exact aQ _
   ·exact ai _
  refine⟨dz _ ?_,D a this⟩
  rw[<-hsz]
  simpa using j
 ·rcases bt.mp j with h|h
  ·exact .inr h
  ·left
   rw[<-hsz] at h
   simpa using h
 ·show b<h'.objs.size
  rw[hz]
  simp at l
  rcases l with rfl|rfl
  ·exact cH _
  ·exact dO (cH _)
 ·refine λd3 d4 I u hq d5 d6 d7 d8=>seg_leaf (.ok .next) (ZR hE q (Ro (hA.le (aQ _))) rfl rfl J (λb l=>dG _ l) (λa j=>?_)
   (λa a h hl a=>hl h) (λa a g i b l=>?_) fu n' r d3 I u d4 _ _ _ id id rfl d5 d7 d6 d8 hq λe5 e6 d9 e7 e0 a6 a7 e3 e4=>(af e0 (seg_end (.ok (.ret .none)) (iJ rfl rfl a7 a6.cm))))
  ·have e1:sz v<=a:=by
    simp at j
    rcases j with rfl|rfl
    ·exact aQ _
    ·exact ai _
   refine⟨dz _ (by refine eh hsz ?_;simpa using j),λe=>(D a e1).1 (by rw[e];simp[dX])⟩
  ·rcases bt.mp l with h|h
   ·exact g.l_ b h
   ·exact i b (by rw[<-hsz] at h;simpa using h)
end
section
variable {C:Cfg} {R:Rd} {P:cZ} {ℓ m:Nat} {A:bU} {F:FZ} {O:List bz} {J:aZ} {s:aN}
theorem bT.toG (x:bT C H L U Z F O h) (k:Bf Z) (d:jp (FK C) F):bT (oJ C) H L U Z (FK C) [] h:=by
 have j:∀a,F.f a=none->(FK C).f a=none:=λa e=>by
  induction q:(FK C).f a using cO with
  |none=>rfl
  |some o=>exact aW ((d.2 a o q).symm.trans e).symm
 exact⟨x.kd,⟨x.ok.kind,x.ok.glob,x.ok.blt,x.ok.ns,j _ x.ok.Ca,⟨bw,bw⟩,λy a l=>⟨(x.ok.cell y a l).1,bw,bw⟩,x.ok.inj,x.ok.vC,λy i c g b=>aG (x.ok.vars y i c g b) λv e r=>(aP v e (Rep.tT (k i c b) r))⟩,x.top,x.lt,x.iK,λy a g b=>j _ (x.cF y a g b)⟩
structure ake C f d fd:Prop extends Bh C f d fd
noncomputable def ZU (H:jH):Bool:=H.kind== .function&&!H.isCoroutine&&H.isGenerator&&H.names.all (λx=>H.names.lookup x.1==some x.2&&x.2 != .free)
theorem Yd (hR:ef (oJ C) R) (hE:∀n,fO (oJ C) R ℓ P n) (e0:vG C) {f} {d} {l} (X:Bh C f d l) (M:ZU d.scope=true)
  {x1 x2 xa} {e1 e2 e3 e4 e5 e6 p1 p2 p3 p4} {c1 c2} {k1 k2 i1 i2 ia} {a8 a9} {t} {fb a5} {D} {n' fu}
  (b0:d.body=(.Assign [.Name x1 e1] (.Constant c1 k1 e3) e5:: .Assign [.Name x2 e2] (.Constant c2 k2 e4) e6:: .For t (.Call (.Name ("enumerate" :bD) p1) [.Name xa p2] [] p3) fb [] p4::a5))
  (b1:∀(l:lu) v,gr {l with params:=d.args,defaults:= .none} ⟨[v],[]⟩=pure [(xa,v)]) (e7:l.defaults= .none)
  (e8:d.scope.names.lookup x1=some .local) (e9:(dU d.scope).lookup x1=some i1) (c3:nI c1=some a8) (f3:qh a8=true)
  (f5:d.scope.names.lookup x2=some .local) (f6:(dU d.scope).lookup x2=some i2) (c4:nI c2=some a9) (f7:qh a9=true)
  (f8:tW (d.scope.names.lookup ("enumerate" :bD))= .Gn) (f9:R.G ("enumerate" :bD)=some (.type "enumerate"))
  (g0:(xa==("__debug__" :bD))=false) (g4:d.scope.names.lookup xa=some .local) (Y:(dU d.scope).lookup xa=some ia) (c5:ia≠i1) (c6:ia≠i2)
  (c7:isTup t=true) {all}
  (b3:zY P m fu (cT R n' (eD d.scope) (gI d.scope) t) (fb.map (cY R n' (eD d.scope) (gI d.scope))) ((D.cps.toList.map λc=>CV.str ⟨#[c]⟩).zipIdx.map λp=> .tup [.int (p.2:Nat),p.1]) (upd (upd (upd (λ_=>none) ia (.str D)) i1 a8) i2 a9) all (λZ ys=>qy P m fu (a5.map (cY R n' (eD d.scope) (gI d.scope))) Z ys (λ_ ys=>ys=[]))):
  Callee C f/\∀A F O J s vs,bQ (m+ℓ+3) A->Nw C F O J s->bM F O [.str D] vs->
   aD (aI C.prog C.w) A (call (.ref f) vs) (λv u=>∃F',Go C .no F O s F' O J u/\∀A,bQ (m+ℓ+3) A->aD (aI C.prog C.w) A (kf v) (λit b4=>∃c8 W,Go C .no F' O u c8 O J b4/\Iter C (m+ℓ+3) A true it W (λ_=>True) all c8 O b4/\(∀a∈W.a,s.heap.objs.size<=a)/\(∀i∈W.g,s.gens[i]?=none)) a_ u) a_ s:=by
 refine aG X.obj λob c9 a6=>GH X.code λcc oc g5 tc g6 g7 g8 g9=>⟨Callee.fn c9 a6,λA F O J s vs hA N r=>letQ ?_⟩;intro Q_;refine cz r λv vr h3 r1 r2=>?_;subst r2
 clear r;subst h3
 simp only[ZU,cW,beq_iff_eq,aV,gT] at M
 obtain⟨⟨⟨b5,d0⟩,d1⟩,a0⟩:=M
 refine letQ ?_;intro Q_;refine ol (codeAny_call_generator hA.depth (N.fz _ _ (N.top.k _ _ c9)) a6 (X.scope▸d0) (X.scope▸d1) X.body (JE cc oc g5 tc g6 (N.fz _ _ (N.top.k _ _ g7)) g8 g9) (af (GX X.params e7 λl=>b1 l v) (nt ?_)));intro s_;refine au (af X.scope (af X.glob (af X.ai0 (af X.blt ?_))))
 have d2:Ho C [] F O s.heap:=by
  constructor
  ·intro x a h;cases h
  ·intro x y a h;exact aW h
 refine letQ ?_;intro Q_;refine pW N d2 λG6 j s2 Q=>?_
 have gp:=N.go Q.go
 have he:=Gv (q:=l.qualname++".<locals>.") (f:=some f) (cd:=l.code) b5 a0 Q N.fz
 refine ux (H:=d.scope) _ [(xa,.str D)] (λa=>none) s2 _ gp he.ok (λp hp=>?_) ((eA v [] rfl r1 rfl)) λB g3 h4=>?_
 ·simp at hp
  subst hp
  exact⟨by refine af (show(eD d.scope).2=dU d.scope from rfl) (af Y ?_);rfl,.inl g4⟩
 have a3:=gp.go g3
 have S:bT C (eD d.scope) (gI d.scope) (g_ none d.scope G6 bN j (l.qualname++".<locals>.") (some f) l.code cx) (upd (λa=>none) ia (.str D)) F O B.heap:=by
  refine⟨he.kd,by simpa [eD,Y] using h4,λi hi=>?_,he.lt,he.iK,he.cF⟩
  rw[cG _ _ (by have:=he.lt xa ia Y;exact bZ (zA this hi))]
 have d3:∀a∈(dX (g_ none d.scope G6 bN j (l.qualname++".<locals>.") (some f) l.code cx)).a,s.heap.objs.size<=a:=λa I=>by
  simp only[dX,aE,bO] at I
  rcases I with h|⟨⟨x,b⟩,hx,h⟩
  ·exact af h Q.lo
  ·subst h
   rcases Q.mem x b hx with z|z
   ·cases z
   ·exact z
 have b6:Go C .no F O s F O J B:=(Q.go.pure.trans g3).drop (λa I=> .inr (d3 a (gU a I))) λa=>bw
 refine⟨a3.top.noLimit a3.fz,F,?_⟩
 generalize a4:{B with gens:=B.gens.push (.fresh (.func d.body (g_ none d.scope G6 bN j (l.qualname++".<locals>.") (some f) l.code cx))),toks:=B.toks+1+1,heap:=B.heap.push {cls:= .type "generator",data:= .fields #[.int B.gens.size 0,.str l.name B.toks,.str l.qualname (B.toks+1)]}}=L
 have b7:L.heap=B.heap.push {cls:= .type "generator",data:= .fields #[.int B.gens.size 0,.str l.name B.toks,.str l.qualname (B.toks+1)]}:=a4▸rfl
 have b8:L.gens=B.gens.push (.fresh (.func d.body (g_ none d.scope G6 bN j (l.qualname++".<locals>.") (some f) l.code cx))):=a4▸rfl
 have a7:sz L=sz B+1:=by
  show L.heap.objs.size=_
  rw[b7,dv]
 have b9:rq L.gens:=by
  intro y hy
  rcases Array.mem_push.mp (b8▸hy) with h|rfl
  ·exact a3.base.bare y h
  ·rfl
 have c0:∀i x,B.gens[i]?=some x->L.gens[i]?=some x:=λi x e=>by
  refine af b8 (af Array.getElem?_push ?_)
  have:=(mP.mp e).1
  exact af (if_neg (bj this)) e
 have d4:Go C .no F O B F O J L:= .Lg a3 (λb o a e=>(λb o e=>b7▸bu _ e) b o e) (a7▸aQ _) (a4▸rfl) (λi x a=>c0 i x) b9 (a4▸dg (aQ _)) λa=>bw
 have E:L.heap.IsGen B.heap.objs.size B.gens.size:=(jq _ _ _ (b7▸aT _ rfl) rfl rfl rfl)
 have d5:=b6.trans d4
 refine⟨d5,λA' h6=>?_⟩
 have T:=N.go d5
 have d6:GI C (eD d.scope) (gI d.scope) (g_ none d.scope G6 bN j (l.qualname++".<locals>.") (some f) l.code cx) (upd (λa=>none) ia (.str D)) L:=by
  have M:Bf (upd (λa=>none) ia (.str D)):=Bf.upd (λa a=>aW) rfl
  exact⟨(S.gb d4).toG M ⟨⟨T.top.pr,T.top.w⟩,T.top.k⟩,Cm.of T,M⟩
 refine CQ E ?_
 have d7:∀a∈B.heap.objs.size::(dX (g_ none d.scope G6 bN j (l.qualname++".<locals>.") (some f) l.code cx)).a,s.heap.objs.size<=a/\a<sz L:=λa I=>by
  rcases aE.mp I with rfl|h
  ·exact⟨b6.ext.size,a7▸cH _⟩
  ·exact⟨d3 a h,d6.l_ a h⟩
 refine(oW F ⟨B.heap.objs.size::(dX (g_ none d.scope G6 bN j (l.qualname++".<locals>.") (some f) l.code cx)).a,[B.gens.size]⟩ T.refl (fg ?_ ?_ λA2 u hk=>?_) (λa I=>(d7 a I).1) λi hi=>?_)
 ·refine f_.gen _ [] _ F O L _ rfl E (by refine af b8 ?_;simp:L.gens[B.gens.size]?=some (.fresh (.func d.body (g_ none d.scope G6 bN j (l.qualname++".<locals>.") (some f) l.code cx)))) (λz=>?_) λh5 b4 d8 z_ d9=>?_
  ·have:∀a∈(dX (g_ none d.scope G6 bN j (l.qualname++".<locals>.") (some f) l.code cx)).a,a<sz B:=λa I=>by
    simp only[dX,aE,bO] at I
    rcases I with h|⟨⟨x,b⟩,hx,h⟩
    ·exact aiU S.ok.ns λm a a a e=>af h (aU e.1)
    ·obtain⟨⟨v,c⟩,q⟩:=S.ok.cell x b hx
     exact eY c λa e=>eh h (aU e.1)
   exact bG _ (this _ z)
  ·exact af b0 (Ss hR hE e0 h5.in1 d0 e8 e9 c3 f3 f5 f6 c4 f7 f8 f9 g0 Y c5 c6 (lA _ _ _) c7 b3 (d6.later d8 (λa z=>z) d9))
 ·intro a I
  obtain⟨h1,h2⟩:=d7 a I
  refine(iJ ?_ (λz=>absurd (N.base.lt a z) (bL.mpr h1)) (λz=>absurd (N.dj.fr a z).2.2 (bL.mpr h1)) h2)
  induction e:F.f a using cO with
  |none=>rfl
  |some o=>exact absurd (aU (N.fz _ _ e)) (bL.mpr h1)
 ·refine letQ ?_;intro Q_;exact nH E λo nm qn e q=>CQ (ww o nm qn (hk _ (by simp) o e) q) ⟨rfl,rfl⟩
 ·simp at hi
  subst hi
  induction e:s.gens[B.gens.size]? using cO with
  |none=>rfl
  |some x=>
   have:=b6.ext.gens _ x (by simp) e
   simp at this
end
noncomputable def yQ (l:List ay):List Str:=l.filterMap Ar
noncomputable def ahx (e:ay):Option PySem.Expr:=match vw e with
 | .fmt v _ _=>some v
 |_=>none
noncomputable def He (e:ay):Option (ay×bD):=match vw e with
 | .tB o x _=>some (o,x)
 |_=>none
noncomputable def UZ (e:ay):Option (ay×List ay):=match vw e with
 | .call f args _ _=>some (f,args)
 |_=>none
noncomputable def agg (s:jH) (f:ay) (args:List ay):Option (List bD):=match He f with
 |some p=>cond (p.2==("read" :bD)) ((He p.1).map λq=>yQ [q.1]) (cond (p.2==("search" :bD)) (some (yQ (p.1::args))) (cond (p.2==("replace" :bD)) (((UZ p.1).bind λq=>He q.1).map λr=>yQ [r.1]) none))
 |none=>(Ar f).bind λg=>cond (g==("level" :bD)) (some (g::yQ args)) (cond (g==("iter" :bD)&&uV (tW (s.names.lookup g))) (args.head?.bind λa=>(He a).map λq=>yQ [q.1]) (cond (g==("list" :bD)&&uV (tW (s.names.lookup g))) ((oneOf args).bind λa=>(UZ a).bind λq=>(He q.1).bind λr=>cond (r.2==("values" :bD)) (some (yQ [r.1])) none) none))
noncomputable def ahW (s:jH) (e:ay):Option (List bD):=match vw e with
 | .call f args a _=>(match a with|[]=>agg s f args|_::_=>none)
 | .joined ps=>some (yQ (ps.filterMap ahx))
 |_=>none
noncomputable def agf (s:jH) (e:ay):Option (List bD):=cond (kJ e) none (ahW s e)
noncomputable def abd (e:ay):Bool:=match vw e with
 | .other=>true
 |_=>false
noncomputable def ajd:oq->Bool
 | .For _ it _ _ _=>(match vw it with
  | .name x=>x==("fiter" :bD)
  | .call f _ _ _=>(match vw f with
   | .tB _ x _=>x==("items" :bD)
   |_=>false)
  |_=>false)
 | .Assign _ v _=>(match vw v with
  | .other=>true
  | .tup es=>es.any abd
  |_=>false)
 |_=>false
noncomputable def G2 (x:bD):Option Value:=tq x g2
noncomputable def R2:Rd:={G:=G2,mt:=[(("self","_convert_string_type"),(289,188)),(("self","_read_char"),(139,122)),(("lexer","get_token"),(139,129)),(("lexer","push_token"),(139,136)),(("table","get"),(289,236)),(("table","add_header"),(289,286))],at_:=[(("self","_headers"),289),(("self","lineno"),139),(("self","pushback"),139),(("self","whitespace"),139),(("self","instream"),139),(("lexer","lineno"),139)],gens:=[45],afG:=[289],xE:=agf,xS:=ajd}
noncomputable def gX (d:iR) (i:Nat):Stmt:=(d.body[i]?).getD (.Pass ⟨0,0,0,0⟩)
noncomputable def e7:PySem.Expr:=(.Call (.Name (aa "iter") ⟨159,16,159,20⟩) [(.Attribute (.Name (aa "self") ⟨159,21,159,25⟩) (aa "_read_char") ⟨159,21,159,36⟩),(.Constant (.str (aa "")) 0 ⟨159,38,159,40⟩)] [] ⟨159,16,159,41⟩)
noncomputable def e1:PySem.Expr:=(.Call (.Attribute (.Attribute (.Name (aa "self") ⟨150,13,150,17⟩) (aa "instream") ⟨150,13,150,26⟩) (aa "read") ⟨150,13,150,31⟩) [(.Constant (.int 1) 0 ⟨150,32,150,33⟩)] [] ⟨150,13,150,34⟩)
noncomputable def e3:PySem.Expr:=(.JoinedStr [(.FormattedValue (.Name (aa "param") ⟨192,32,192,37⟩) 115 none ⟨192,32,192,37⟩),(.Constant (.str (aa "=\"")) 0 ⟨192,19,192,28⟩),(.FormattedValue (.Name (aa "value") ⟨192,39,192,44⟩) 115 none ⟨192,39,192,44⟩),(.Constant (.str (aa "\"")) 0 ⟨192,19,192,28⟩)] ⟨192,19,192,45⟩)
noncomputable def aj4:PySem.Expr:=(.JoinedStr [(.FormattedValue (.Name (aa "param") ⟨194,30,194,35⟩) 115 none ⟨194,30,194,35⟩),(.Constant (.str (aa "=")) 0 ⟨194,19,194,26⟩),(.FormattedValue (.Name (aa "value") ⟨194,37,194,42⟩) 115 none ⟨194,37,194,42⟩)] ⟨194,19,194,43⟩)
noncomputable def e2:PySem.Expr:=(.Call (.Attribute (.Name (aa "regex") ⟨212,15,212,20⟩) (aa "search") ⟨212,15,212,27⟩) [(.Name (aa "value") ⟨212,28,212,33⟩)] [] ⟨212,15,212,34⟩)
noncomputable def e4:PySem.Expr:=(.Call (.Name (aa "list") ⟨336,20,336,24⟩) [(.Call (.Attribute (.Name (aa "roads") ⟨336,25,336,30⟩) (aa "values") ⟨336,25,336,37⟩) [] [] ⟨336,25,336,39⟩)] [] ⟨336,20,336,40⟩)
noncomputable def e5:PySem.Expr:=(.Call (.Attribute (.Call (.Attribute (.Name (aa "value") ⟨191,20,191,25⟩) (aa "replace") ⟨191,20,191,33⟩) [(.Constant (.str (aa "\\")) 0 ⟨191,34,191,38⟩),(.Constant (.str (aa "\\\\")) 0 ⟨191,40,191,46⟩)] [] ⟨191,20,191,47⟩) (aa "replace") ⟨191,20,191,55⟩) [(.Constant (.str (aa "\"")) 0 ⟨191,56,191,59⟩),(.Constant (.str (aa "\\\"")) 0 ⟨191,61,191,66⟩)] [] ⟨191,20,191,67⟩)
noncomputable def e6:PySem.Expr:=(.Call (.Name (aa "level") ⟨372,36,372,41⟩) [(.Name (aa "i") ⟨372,42,372,43⟩),(.Name (aa "j") ⟨372,45,372,46⟩)] [] ⟨372,36,372,47⟩)
noncomputable def uO:List MS:=[
 (.iff (.cmp (.cst (.str (aa "\""))) [.NotIn] [(.var 0)]) [(.ret (.var 0))] []),
 (.asg (.var 1) (.cst (.int (0)))),
 (.asg (.var 2) (.cst .none)),
 (.asg (.var 3) (.new (.lst []))),
 (.kZ (.tup [(.var 4),(.var 5)]) (.gen 45 [(.var 0)]) [(.iff (.cmp (.var 5) [.Eq] [(.cst (.str (aa "\"")))]) [(.iff (.cmp (.var 2) [.Is] [(.cst .none)]) [(.asg (.var 2) (.var 4))] [(.iff (.cmp (.var 1) [.NotEq] [(.var 2)]) [(.pO (.var 3) (.pu (.var 0) (some (.var 1)) (some (.var 2))))] []),(.asg (.var 1) (.bin .Add (.var 4) (.cst (.int (1))))),(.asg (.var 2) (.cst .none))])] [])]),
 (.iff (.cmp (.var 1) [.Lt] [(.bi .len [(.var 0)])]) [(.pO (.var 3) (.pu (.var 0) (some (.var 1)) none))] []),
 (.ret (.kB .join (.cst (.str (aa ""))) [(.var 3)]))]
noncomputable def uQ:List MS:=[
 (.asg (.var 0) (.eK 52 [(.var 0)])),
 (.asg (.var 1) (.cst (.int (0)))),
 (.kZ (.tup [(.var 2),(.var 3)]) (.gen 45 [(.var 0)]) [(.iff (.cmp (.var 3) [.Eq] [(.cst (.str (aa "(")))]) [(.aug 1 .Add (.cst (.int (1))))] [(.iff (.cmp (.var 3) [.Eq] [(.cst (.str (aa ")")))]) [(.aug 1 .Sub (.cst (.int (1)))),(.iff (.cmp (.var 1) [.Lt] [(.cst (.int (0)))]) [(.ret (.cst (.bool false)))] [])] [])])]),
 (.ret (.cmp (.var 1) [.Eq] [(.cst (.int (0)))]))]
noncomputable def wq:List MS:=[
 (.asg (.var 1) (.new (.lst []))),
 (.kZ (.var 2) (.val (.var 0)) [(.iff (.not (.eK 59 [(.var 2)])) [(.asg (.var 2) (.cst (.str (aa "('', '')"))))] []),(.pO (.var 1) (.var 2))]),
 (.ret (.var 1))]
noncomputable def AD:List MS:=[
 (.asg (.var 3) (.bi .max [(.var 0),(.var 1),(.var 2)])),
 (.asg (.var 4) (.bi .min [(.var 0),(.var 1),(.var 2)])),
 (.asg (.var 5) (.bin .Add (.var 3) (.var 4))),
 (.asg (.var 6) (.bin .Sub (.var 3) (.var 4))),
 (.asg (.var 7) (.bin .Div (.var 5) (.cst (.bW 4611686018427387904)))),
 (.iff (.cmp (.var 4) [.Eq] [(.var 3)]) [(.ret (.tup [(.cst (.bW 0)),(.var 7),(.cst (.bW 0))]))] []),
 (.iff (.cmp (.var 7) [.LtE] [(.cst (.bW 4602678819172646912))]) [(.asg (.var 8) (.bin .Div (.var 6) (.var 5)))] [(.asg (.var 8) (.bin .Div (.var 6) (.bin .Sub (.bin .Sub (.cst (.bW 4611686018427387904)) (.var 3)) (.var 4))))]),
 (.asg (.var 9) (.bin .Div (.bin .Sub (.var 3) (.var 0)) (.var 6))),
 (.asg (.var 10) (.bin .Div (.bin .Sub (.var 3) (.var 1)) (.var 6))),
 (.asg (.var 11) (.bin .Div (.bin .Sub (.var 3) (.var 2)) (.var 6))),
 (.iff (.cmp (.var 0) [.Eq] [(.var 3)]) [(.asg (.var 12) (.bin .Sub (.var 11) (.var 10)))] [(.iff (.cmp (.var 1) [.Eq] [(.var 3)]) [(.asg (.var 12) (.bin .Sub (.bin .Add (.cst (.bW 4611686018427387904)) (.var 9)) (.var 11)))] [(.asg (.var 12) (.bin .Sub (.bin .Add (.cst (.bW 4616189618054758400)) (.var 10)) (.var 9)))])]),
 (.asg (.var 12) (.bin .Mod (.bin .Div (.var 12) (.cst (.bW 4618441417868443648))) (.cst (.bW 4607182418800017408)))),
 (.ret (.tup [(.var 12),(.var 7),(.var 8)]))]
noncomputable def uM:List MS:=[
 (.iff (.cmp (.var 2) [.Eq] [(.cst (.bW 0))]) [(.ret (.tup [(.var 1),(.var 1),(.var 1)]))] []),
 (.iff (.cmp (.var 1) [.LtE] [(.cst (.bW 4602678819172646912))]) [(.asg (.var 3) (.bin .Mult (.var 1) (.bin .Add (.cst (.bW 4607182418800017408)) (.var 2))))] [(.asg (.var 3) (.bin .Sub (.bin .Add (.var 1) (.var 2)) (.bin .Mult (.var 1) (.var 2))))]),
 (.asg (.var 4) (.bin .Sub (.bin .Mult (.cst (.bW 4611686018427387904)) (.var 1)) (.var 3))),
 (.ret (.tup [(.eK 87 [(.var 4),(.var 3),(.bin .Add (.var 0) (.cst (.bW 4599676419421066581)))]),(.eK 87 [(.var 4),(.var 3),(.var 0)]),(.eK 87 [(.var 4),(.var 3),(.bin .Sub (.var 0) (.cst (.bW 4599676419421066581)))])]))]
noncomputable def RU:List MS:=[
 (.asg (.var 2) (.bin .Mod (.var 2) (.cst (.bW 4607182418800017408)))),
 (.iff (.cmp (.var 2) [.Lt] [(.cst (.bW 4595172819793696085))]) [(.ret (.bin .Add (.var 0) (.bin .Mult (.bin .Mult (.bin .Sub (.var 1) (.var 0)) (.var 2)) (.cst (.bW 4618441417868443648)))))] []),
 (.iff (.cmp (.var 2) [.Lt] [(.cst (.bW 4602678819172646912))]) [(.ret (.var 1))] []),
 (.iff (.cmp (.var 2) [.Lt] [(.cst (.bW 4604180019048437077))]) [(.ret (.bin .Add (.var 0) (.bin .Mult (.bin .Mult (.bin .Sub (.var 1) (.var 0)) (.bin .Sub (.cst (.bW 4604180019048437077)) (.var 2))) (.cst (.bW 4618441417868443648)))))] []),
 (.ret (.var 0))]
noncomputable def FV:List MS:=[
 (.asg (.var 3) (.bi .max [(.var 0),(.var 1),(.var 2)])),
 (.asg (.var 4) (.bi .min [(.var 0),(.var 1),(.var 2)])),
 (.asg (.var 5) (.bin .Sub (.var 3) (.var 4))),
 (.asg (.var 6) (.var 3)),
 (.iff (.cmp (.var 4) [.Eq] [(.var 3)]) [(.ret (.tup [(.cst (.bW 0)),(.cst (.bW 0)),(.var 6)]))] []),
 (.asg (.var 7) (.bin .Div (.var 5) (.var 3))),
 (.asg (.var 8) (.bin .Div (.bin .Sub (.var 3) (.var 0)) (.var 5))),
 (.asg (.var 9) (.bin .Div (.bin .Sub (.var 3) (.var 1)) (.var 5))),
 (.asg (.var 10) (.bin .Div (.bin .Sub (.var 3) (.var 2)) (.var 5))),
 (.iff (.cmp (.var 0) [.Eq] [(.var 3)]) [(.asg (.var 11) (.bin .Sub (.var 10) (.var 9)))] [(.iff (.cmp (.var 1) [.Eq] [(.var 3)]) [(.asg (.var 11) (.bin .Sub (.bin .Add (.cst (.bW 4611686018427387904)) (.var 8)) (.var 10)))] [(.asg (.var 11) (.bin .Sub (.bin .Add (.cst (.bW 4616189618054758400)) (.var 9)) (.var 8)))])]),
 (.asg (.var 11) (.bin .Mod (.bin .Div (.var 11) (.cst (.bW 4618441417868443648))) (.cst (.bW 4607182418800017408)))),
 (.ret (.tup [(.var 11),(.var 7),(.var 6)]))]
noncomputable def yW:List MS:=[
 (.iff (.cmp (.var 1) [.Eq] [(.cst (.bW 0))]) [(.ret (.tup [(.var 2),(.var 2),(.var 2)]))] []),
 (.asg (.var 3) (.bi .int [(.bin .Mult (.var 0) (.cst (.bW 4618441417868443648)))])),
 (.asg (.var 4) (.bin .Sub (.bin .Mult (.var 0) (.cst (.bW 4618441417868443648))) (.var 3))),
 (.asg (.var 5) (.bin .Mult (.var 2) (.bin .Sub (.cst (.bW 4607182418800017408)) (.var 1)))),
 (.asg (.var 6) (.bin .Mult (.var 2) (.bin .Sub (.cst (.bW 4607182418800017408)) (.bin .Mult (.var 1) (.var 4))))),
 (.asg (.var 7) (.bin .Mult (.var 2) (.bin .Sub (.cst (.bW 4607182418800017408)) (.bin .Mult (.var 1) (.bin .Sub (.cst (.bW 4607182418800017408)) (.var 4)))))),
 (.asg (.var 3) (.bin .Mod (.var 3) (.cst (.int (6))))),
 (.iff (.cmp (.var 3) [.Eq] [(.cst (.int (0)))]) [(.ret (.tup [(.var 2),(.var 7),(.var 5)]))] []),
 (.iff (.cmp (.var 3) [.Eq] [(.cst (.int (1)))]) [(.ret (.tup [(.var 6),(.var 2),(.var 5)]))] []),
 (.iff (.cmp (.var 3) [.Eq] [(.cst (.int (2)))]) [(.ret (.tup [(.var 5),(.var 2),(.var 7)]))] []),
 (.iff (.cmp (.var 3) [.Eq] [(.cst (.int (3)))]) [(.ret (.tup [(.var 5),(.var 6),(.var 2)]))] []),
 (.iff (.cmp (.var 3) [.Eq] [(.cst (.int (4)))]) [(.ret (.tup [(.var 7),(.var 5),(.var 2)]))] []),
 (.iff (.cmp (.var 3) [.Eq] [(.cst (.int (5)))]) [(.ret (.tup [(.var 2),(.var 5),(.var 6)]))] [])]
noncomputable def yZ:List MS:=[
 (.asg (.tB 139 (.var 0) (aa "lineno")) (.cst (.int (1)))),
 (.asg (.tB 139 (.var 0) (aa "instream")) (.var 1)),
 (.asg (.tB 139 (.var 0) (aa "whitespace")) (.cst (.str (aa "\n\t\x0d ")))),
 (.asg (.tB 139 (.var 0) (aa "pushback")) (.new (.lst [])))]
noncomputable def Ci:List MS:=[
 (.asg (.var 1) (.ext e1 [0])),
 (.iff (.cmp (.var 1) [.Eq] [(.cst (.str (aa "\n")))]) [(.Vc 139 (.var 0) (aa "lineno") .Add (.cst (.int (1))))] []),
 (.ret (.var 1))]
noncomputable def Cj:List MS:=[
 (.pO (.attr 139 (.var 0) (aa "pushback")) (.var 1))]
noncomputable def uN:List MS:=[
 (.iff (.attr 139 (.var 0) (aa "pushback")) [(.ret (.Jo (.attr 139 (.var 0) (aa "pushback"))))] []),
 (.asg (.var 1) (.cst (.str (aa "")))),
 (.asg (.var 2) (.ext e7 [0])),
 (.ext (gX (mf "_netrclex" "get_token") 3)),
 (.ret (.var 1))]
noncomputable def OF:List MS:=[
 (.iff (.band [(.cmp (.var 1) [.IsNot] [(.cst .none)]),(.cmp (.bi .len [(.var 1)]) [.Gt] [(.cst (.int (0)))])]) [(.iff (.bor [(.var 2),.bad]) [(.asg (.var 1) (.ext e5 [1])),(.ret (.ext e3 [0,1]))] [(.ret (.ext aj4 [0,1]))])] [(.ret (.var 0))])]
noncomputable def FW:List MS:=[
 (.asg (.var 1) (.iD (.cmp (.var 1) [.IsNot] [(.cst .none)]) (.var 1) (.lst []))),
 (.iff (.cmp (.bi .type [(.var 1)]) [.IsNot] [(.cst (.obj (.type "list")))]) [.bad] []),
 (.asg (.tB 289 (.var 0) (aa "_headers")) (.var 1)),
 (.iff (.cst (.bool true)) [(.kZ (.tup [(.var 2),(.var 3)]) (.val (.var 1)) [(.exp (.gJ 289 188 (aa "_convert_string_type") (.var 0) [(.var 2)] [(aa "name")] [(.cst (.bool true))])),(.exp (.gJ 289 188 (aa "_convert_string_type") (.var 0) [(.var 3)] [(aa "name")] [(.cst (.bool false))]))])] [])]
noncomputable def Jz:List MS:=[
 (.iff (.cmp (.bi .type [(.var 1)]) [.Is] [(.cst (.obj (.type "str")))]) [(.asg (.var 3) (.iD (.var 2) (.cst (.obj (.ref 153))) (.cst (.obj (.ref 158))))),(.iff (.ext e2 [3,1]) [.bad] []),(.ret (.var 1))] []),
 .bad]
noncomputable def FX:List MS:=[
 (.asg (.var 1) (.gJ 289 188 (aa "_convert_string_type") (.var 0) [(.kB .lower (.var 1) [])] [(aa "name")] [(.cst (.bool true))])),
 (.kZ (.tup [(.var 3),(.var 4)]) (.val (.attr 289 (.var 0) (aa "_headers"))) [(.iff (.cmp (.kB .lower (.var 3) []) [.Eq] [(.var 1)]) [(.ret (.var 4))] [])]),
 (.ret (.var 2))]
noncomputable def OG:List MS:=[
 (.asg (.var 4) (.new (.lst []))),
 (.iff (.cmp (.var 2) [.IsNot] [(.cst .none)]) [(.asg (.var 2) (.gJ 289 188 (aa "_convert_string_type") (.var 0) [(.var 2)] [(aa "name")] [(.cst (.bool false))])),(.pO (.var 4) (.var 2))] []),
 (.ext (gX (mf "Headers" "add_header") 2)),
 (.pO (.attr 289 (.var 0) (aa "_headers")) (.tup [(.gJ 289 188 (aa "_convert_string_type") (.var 0) [(.var 1)] [(aa "name")] [(.cst (.bool true))]),(.kB .join (.cst (.str (aa "; "))) [(.var 4)])]))]
noncomputable def mj:List MS:=[
 (.asg (.var 1) (.new (.lst [(.cst (.int (87380))),(.cst (.int (415054))),(.cst (.int (231832))),(.cst (.int (119319)))]))),
 (.kZ (.tup [(.var 2),(.var 3)]) (.sU (.pu (.var 0) none (some (.cst (.int (60)))))) [(.Vb (.var 1) (.bin .Mod (.var 2) (.cst (.int (4)))) .Add (.bin .Mod (.var 3) (.cst (.int (1000000)))))]),
 (.asg (.var 4) (.comp (.bin .Mod (.bin .FloorDiv (.idx (.var 1) (.cst (.int (0)))) (.var 8)) (.var 9)) [(.mk (.tup [(.var 8),(.var 9)]) (.val (.lst [(.tup [(.cst (.int (1))),(.cst (.int (2)))]),(.tup [(.cst (.int (2))),(.cst (.int (2)))]),(.tup [(.cst (.int (4))),(.cst (.int (48)))]),(.tup [(.cst (.int (192))),(.cst (.int (32)))]),(.tup [(.cst (.int (6144))),(.cst (.int (4)))]),(.tup [(.cst (.int (24576))),(.cst (.int (4)))])])) [])])),
 (.asg (.var 5) (.comp (.tup [(.bin .Mod (.bin .FloorDiv (.var 8) (.bin .Pow (.cst (.int (27))) (.var 9))) (.cst (.int (9)))),(.bin .Mod (.bin .FloorDiv (.bin .FloorDiv (.var 8) (.bin .Pow (.cst (.int (27))) (.var 9))) (.cst (.int (9)))) (.cst (.int (3))))]) [(.mk (.var 8) (.val (.pu (.var 1) (some (.cst (.int (1)))) (some (.cst (.int (3)))))) []),(.mk (.var 9) (.range [(.cst (.int (4)))]) [])])),
 (.asg (.var 6) (.lst [(.cst (.str (aa ""))),(.cst (.str (aa "\\("))),(.cst (.str (aa "\\)"))),(.cst (.str (aa "\"(\""))),(.cst (.str (aa "\")\""))),(.cst (.str (aa "\\\""))),(.cst (.str (aa "\\\\"))),(.cst (.str (aa "\"\\\")\"")))])),
 (.ret (.tup [(.var 4),(.var 5),(.comp (.idx (.var 6) (.bin .Mod (.bin .FloorDiv (.idx (.var 1) (.cst (.int (3)))) (.bin .Pow (.cst (.int (8))) (.var 8))) (.cst (.int (8))))) [(.mk (.var 8) (.range [(.cst (.int (6)))]) [])])]))]
noncomputable def n_:List MS:=[
 (.asg (.tup [(.var 3),(.var 4)]) (.tup [(.cst (.str (aa ""))),(.cst (.int (1)))])),
 (.kZ (.tup [(.var 5),(.var 6)]) (.sU (.var 0)) [(.aug 3 .Add (.idx (.lst [(.cst (.str (aa " "))),(.cst (.str (aa "\n"))),(.cst (.str (aa "\t\x0d"))),(.iD (.cmp (.var 4) [.Eq] [(.cst (.int (1)))]) (.cst (.str (aa ""))) (.cst (.str (aa "\x0d\n"))))]) (.bin .Mod (.bin .Add (.var 2) (.var 5)) (.cst (.int (4)))))),(.asg (.var 7) (.iD (.bor [(.cmp (.idx (.var 1) (.var 5)) [.Eq] [(.cst (.int (0)))]),(.cmp (.var 6) [.In] [(.cst (.str (aa "\"\\")))]),(.band [(.cmp (.idx (.var 1) (.var 5)) [.Eq] [(.cst (.int (2)))]),(.cmp (.var 6) [.In] [(.cst (.str (aa " \n\t")))])])]) (.cst (.str (aa "\\"))) (.cst (.str (aa ""))))),(.aug 3 .Add (.iD (.cmp (.idx (.var 1) (.var 5)) [.Eq] [(.cst (.int (1)))]) (.bin .Add (.bin .Add (.bin .Add (.cst (.str (aa "\""))) (.var 7)) (.var 6)) (.cst (.str (aa "\"")))) (.bin .Add (.var 7) (.var 6)))),(.asg (.var 4) (.idx (.var 1) (.var 5)))]),
 (.ext (gX (cV "_law_lexer" fS) 2)),
 (.ext (gX (cV "_law_lexer" fS) 3)),
 (.ret (.tup [(.eK 139 [(.var 8)]),(.bin .Add (.cst (.int (1))) (.kB .count (.var 3) [(.cst (.str (aa "\n")))]))]))]
noncomputable def uP:List MS:=[
 (.asg (.var 4) (.bin .Add (.bin .Mult (.cst (.int (2))) (.var 2)) (.bin .Mult (.cst (.int (8))) (.var 3)))),
 (.iff (.cmp (.var 1) [.Eq] [(.cst (.int (1)))]) [(.asg (.var 5) (.comp (.bi .round [(.bin .Mult (.var 10) (.cst (.int (64))))]) [(.mk (.var 10) (.val (.eK 80 [(.bin .Div (.var 0) (.cst (.int (48)))),(.bin .Div (.var 4) (.cst (.int (128)))),(.bin .Div (.bin .Mult (.cst (.int (8))) (.var 3)) (.bi .min [(.var 4),(.bin .Sub (.cst (.int (128))) (.var 4))]))])) [])])),(.asg (.var 6) (.idx (.eK 94 [(.idx (.var 5) (.cst (.int (0)))),(.idx (.var 5) (.cst (.int (1)))),(.idx (.var 5) (.cst (.int (2))))]) (.cst (.int (0)))))] [(.asg (.var 5) (.comp (.bi .round [(.var 10)]) [(.mk (.var 10) (.val (.eK 101 [(.bin .Div (.var 0) (.cst (.int (48)))),(.bin .Div (.bin .Mult (.cst (.int (8))) (.var 3)) (.bin .Add (.var 2) (.bin .Mult (.cst (.int (8))) (.var 3)))),(.bin .Add (.var 2) (.bin .Mult (.cst (.int (8))) (.var 3)))])) [])])),(.asg (.var 6) (.idx (.eK 73 [(.bin .Div (.idx (.var 5) (.cst (.int (0)))) (.cst (.int (64)))),(.bin .Div (.idx (.var 5) (.cst (.int (1)))) (.cst (.int (64)))),(.bin .Div (.idx (.var 5) (.cst (.int (2)))) (.cst (.int (64))))]) (.cst (.int (0)))))]),
 (.asg (.var 7) (.comp (.bi .min [(.bin .Mod (.bin .Sub (.var 0) (.var 10)) (.cst (.int (48)))),(.bin .Mod (.bin .Sub (.var 10) (.var 0)) (.cst (.int (48))))]) [(.mk (.var 10) (.val (.lst [(.cst (.int (0))),(.cst (.int (16))),(.cst (.int (32)))])) [])])),
 (.asg (.var 8) (.band [(.cmp (.var 5) [.Eq] [(.comp (.bin .Add (.var 2) (.bin .Mult (.var 3) (.bi .max [(.cst (.int (0))),(.bi .min [(.cst (.int (8))),(.bin .Sub (.cst (.int (16))) (.var 10))])]))) [(.mk (.var 10) (.val (.var 7)) [])])]),(.cmp (.cst (.int (0))) [.LtE,.Lt] [(.var 6),(.cst (.int (1)))])])),
 (.ret (.tup [(.var 5),(.iD (.var 8) (.bin .Mod (.bi .round [(.bin .Mult (.var 6) (.cst (.int (48))))]) (.cst (.int (48)))) (.neg (.cst (.int (1)))))]))]
noncomputable def tV:List MS:=[
 (.asg (.var 5) (.lst [(.idx (.idx (.var 0) (.bin .Sub (.var 1) (.cst (.int (1))))) (.var 2)),(.idx (.idx (.var 0) (.var 1)) (.bin .Sub (.var 2) (.cst (.int (1))))),(.idx (.idx (.var 0) (.var 1)) (.bin .Add (.var 2) (.cst (.int (1))))),(.idx (.idx (.var 0) (.bin .Add (.var 1) (.cst (.int (1))))) (.var 2))])),
 (.iff (.cmp (.comp (.var 10) [(.mk (.tup [(.var 9),(.var 10)]) (.val (.var 5)) [(.cmp (.var 10) [.NotEq] [(.idx (.idx (.var 5) (.cst (.int (0)))) (.cst (.int (1))))])])]) [.Eq] [(.lst [])]) [(.asg (.var 6) (.comp (.bin .Add (.var 9) (.var 10)) [(.mk (.tup [(.var 9),(.var 10)]) (.zip (.idx (.idx (.idx (.var 0) (.var 1)) (.var 2)) (.cst (.int (0)))) (.idx (.idx (.var 5) (.cst (.int (0)))) (.cst (.int (0))))) [])])),(.iff (.cmp (.bin .Mod (.bin .Add (.var 1) (.var 2)) (.cst (.int (2)))) [.Eq] [(.cst (.int (1)))]) [(.asg (.var 7) (.bin .Sub (.idx (.eK 73 [(.bin .Div (.idx (.var 6) (.cst (.int (0)))) (.cst (.int (128)))),(.bin .Div (.idx (.var 6) (.cst (.int (1)))) (.cst (.int (128)))),(.bin .Div (.idx (.var 6) (.cst (.int (2)))) (.cst (.int (128))))]) (.cst (.int (0)))) (.cst (.int (1)))))] [(.asg (.var 7) (.idx (.eK 94 [(.idx (.var 6) (.cst (.int (0)))),(.idx (.var 6) (.cst (.int (1)))),(.idx (.var 6) (.cst (.int (2))))]) (.cst (.int (0)))))]),(.asg (.sub (.idx (.var 0) (.var 1)) (.var 2)) (.eK 310 [(.bin .Add (.bi .round [(.bin .Mult (.var 7) (.cst (.int (48))))]) (.cst (.int (24)))),(.bin .Mod (.bin .Add (.var 1) (.var 2)) (.cst (.int (2)))),(.var 3),(.var 4)]))] [])]
noncomputable def rN:List MS:=[
 (.asg (.tup [(.var 3),(.var 4),(.var 5)]) (.tup [(.new (.gx [] [])),(.new (.lst [])),(.bi .min [(.comp (.var 26) [(.mk (.var 24) (.val (.var 0)) []),(.mk (.tup [(.var 25),(.var 26)]) (.val (.var 24)) [])])])])),
 (.kZ (.var 6) (.range [(.var 1)]) [(.asg (.var 7) (.eK 289 [(.new (.lst []))])),(.kZ (.var 8) (.range [(.var 1)]) [(.asg (.tup [(.var 9),(.var 10),(.var 11)]) (.tup [(.bin .Add (.bin .Mult (.var 6) (.var 1)) (.var 8)),(.cst (.str (aa ""))),(.cst (.str (aa "")))])),(.asg (.var 12) (.iD (.cmp (.var 6) [.Gt] [(.cst (.int (0)))]) (.bi .chr [(.bin .Sub (.bin .Add (.cst (.int (97))) (.var 9)) (.var 1))]) (.bi .str [(.bin .FloorDiv (.var 8) (.cst (.int (2))))]))),(.asg (.var 13) (.iD (.cmp (.var 8) [.Lt] [(.bin .Sub (.var 1) (.cst (.int (1))))]) (.bi .chr [(.bin .Add (.cst (.int (98))) (.var 9))]) (.bi .str [(.bin .FloorDiv (.bin .Add (.var 1) (.var 6)) (.cst (.int (2))))]))),(.asg (.var 14) (.iD (.cmp (.var 6) [.Lt] [(.bin .Sub (.var 1) (.cst (.int (1))))]) (.bi .chr [(.bin .Add (.bin .Add (.cst (.int (97))) (.var 9)) (.var 1))]) (.bi .str [(.bin .FloorDiv (.bin .Sub (.bin .Sub (.bin .Mult (.cst (.int (3))) (.var 1)) (.var 8)) (.cst (.int (1)))) (.cst (.int (2))))]))),(.asg (.var 15) (.iD (.cmp (.var 8) [.Gt] [(.cst (.int (0)))]) (.bi .chr [(.bin .Add (.cst (.int (96))) (.var 9))]) (.bi .str [(.bin .FloorDiv (.bin .Sub (.bin .Sub (.bin .Mult (.cst (.int (4))) (.var 1)) (.var 6)) (.cst (.int (1)))) (.cst (.int (2))))]))),(.kZ (.tup [(.var 16),(.var 17),(.var 18),(.var 19),(.var 20),(.var 21)]) (.val (.lst [(.tup [(.var 6),(.var 8),(.var 6),(.bin .Add (.var 8) (.cst (.int (1)))),(.cst (.int (16))),(.var 12)]),(.tup [(.var 6),(.bin .Add (.var 8) (.cst (.int (1)))),(.bin .Add (.var 6) (.cst (.int (1)))),(.bin .Add (.var 8) (.cst (.int (1)))),(.cst (.int (32))),(.var 13)]),(.tup [(.bin .Add (.var 6) (.cst (.int (1)))),(.var 8),(.bin .Add (.var 6) (.cst (.int (1)))),(.bin .Add (.var 8) (.cst (.int (1)))),(.cst (.int (16))),(.var 14)]),(.tup [(.var 6),(.var 8),(.bin .Add (.var 6) (.cst (.int (1)))),(.var 8),(.cst (.int (32))),(.var 15)])])) [(.asg (.var 22) (.bin .Mod (.bin .Mult (.bin .Sub (.idx (.idx (.idx (.var 0) (.var 16)) (.var 17)) (.cst (.int (1)))) (.idx (.idx (.idx (.var 0) (.var 18)) (.var 19)) (.cst (.int (1))))) (.iD (.cmp (.bin .Mod (.bin .Add (.var 16) (.var 17)) (.cst (.int (2)))) [.Eq] [(.cst (.int (0)))]) (.cst (.int (1))) (.neg (.cst (.int (1)))))) (.cst (.int (48))))),(.asg (.tup [(.var 10),(.var 11)]) (.iD (.cmp (.var 22) [.Eq] [(.var 20)]) (.tup [(.bin .Add (.var 10) (.var 21)),(.var 11)]) (.tup [(.var 10),(.bin .Add (.var 11) (.var 21))])))]),(.iff (.bor [(.cmp (.bi .len [(.var 10)]) [.NotEq] [(.cst (.int (2)))]),(.cmp (.var 5) [.Lt] [(.cst (.int (0)))])]) [(.ret (.gx [] []))] []),(.pO (.var 4) (.bin .Add (.bin .Add (.bin .Add (.var 10) (.cst (.str (aa "; dark=\"")))) (.kB .join (.cst (.str (aa ""))) [(.comp (.iD (.cmp (.var 24) [.In] [(.cst (.str (aa "\"\\")))]) (.bin .Add (.cst (.str (aa "\\"))) (.var 24)) (.var 24)) [(.mk (.var 24) (.val (.bin .Add (.idx (.var 2) (.bin .Mod (.var 9) (.cst (.int (6))))) (.var 11))) [])])])) (.cst (.str (aa "\""))))),(.exp (.gJ 289 286 (aa "add_header") (.var 7) [(.iD (.cmp (.bin .Mod (.var 9) (.cst (.int (2)))) [.Eq] [(.cst (.int (0)))]) (.bi .chr [(.bin .Add (.cst (.int (97))) (.var 9))]) (.bi .chr [(.bin .Add (.cst (.int (65))) (.var 9))])),(.var 10)] [(aa "dark")] [(.bin .Add (.idx (.var 2) (.bin .Mod (.var 9) (.cst (.int (6))))) (.var 11))]))]),(.kZ (.var 9) (.range [(.bin .Mult (.var 6) (.var 1)),(.bin .Add (.bin .Mult (.var 6) (.var 1)) (.var 1))]) [(.asg (.sub (.var 3) (.bi .chr [(.bin .Add (.cst (.int (97))) (.var 9))])) (.gJ 289 236 (aa "get") (.var 7) [(.iD (.cmp (.bin .Mod (.var 9) (.cst (.int (2)))) [.Eq] [(.cst (.int (0)))]) (.bi .chr [(.bin .Add (.cst (.int (65))) (.var 9))]) (.bi .chr [(.bin .Add (.cst (.int (97))) (.var 9))]))] [] []))])]),
 (.ret (.iD (.cmp (.ext e4 [3]) [.Eq] [(.var 4)]) (.var 3) (.gx [] [])))]
noncomputable def wo:List MS:=[
 (.asg (.var 3) (.new (.rep (.cst (.str (aa ""))) (.bin .Mult (.cst (.int (2))) (.var 1))))),
 (.kZ (.var 4) (.range [(.bin .Mult (.cst (.int (2))) (.var 1))]) [(.iff (.cmp (.idx (.var 3) (.var 4)) [.Eq] [(.cst (.str (aa "")))]) [(.asg (.var 5) (.bi .str [(.var 4)])),(.asg (.var 6) (.idx (.comp (.var 10) [(.mk (.var 10) (.val (.var 0)) [(.cmp (.var 5) [.In] [(.iD (.cmp (.var 2) [.Eq] [(.cst (.int (1)))]) (.pu (.idx (.var 0) (.var 10)) (some (.neg (.cst (.int (3))))) (some (.neg (.cst (.int (1)))))) (.pu (.idx (.var 0) (.var 10)) none (some (.cst (.int (2))))))])])]) (.cst (.int (0))))),(.kZ (.var 7) (.range [(.bin .Mult (.var 1) (.var 1))]) [(.asg (.var 8) (.iD (.cmp (.var 2) [.Eq] [(.cst (.int (1)))]) (.pu (.idx (.var 0) (.var 6)) (some (.neg (.cst (.int (3))))) (some (.neg (.cst (.int (1)))))) (.pu (.idx (.var 0) (.var 6)) none (some (.cst (.int (2))))))),(.asg (.tup [(.var 5),(.var 6)]) (.tup [(.var 6),(.iD (.cmp (.idx (.var 8) (.cst (.int (0)))) [.Eq] [(.var 5)]) (.idx (.var 8) (.cst (.int (1)))) (.idx (.var 8) (.cst (.int (0)))))])),(.iff (.kB .isdigit (.var 6) []) [.brk] [])]),(.asg (.tup [(.sub (.var 3) (.var 4)),(.sub (.var 3) (.bi .int [(.var 6)]))]) (.tup [(.cst (.str (aa "("))),(.cst (.str (aa ")")))]))] [])]),
 (.ret (.kB .join (.cst (.str (aa ""))) [(.var 3)]))]
noncomputable def oA:List MS:=[
 (.asg (.tup [(.var 3),(.var 4)]) (.tup [(.cst (.str (aa ""))),(.cst (.int (0)))])),
 (.kZ (.tup [(.var 5),(.var 6)]) (.sU (.var 1)) [(.exp (.gJ 139 136 (aa "push_token") (.var 0) [(.var 6)] [] [])),(.aug 3 .Add (.bin .Add (.idx (.var 2) (.bin .Mod (.var 5) (.cst (.int (6))))) (.var 6))),(.iff (.band [(.cmp (.var 4) [.Eq] [(.cst (.int (0)))]),(.cmp (.var 6) [.Eq] [(.cst (.str (aa ")")))])]) [(.asg (.var 7) (.eK 59 [(.var 3)])),(.asg (.var 4) (.iD (.cmp (.var 7) [.Is] [(.cst (.bool true))]) (.var 5) (.iD (.cmp (.var 7) [.Is] [(.cst (.bool false))]) (.cst (.int (0))) (.neg (.cst (.int (1)))))))] [])]),
 (.exp (.gJ 139 129 (aa "get_token") (.var 0) [] [] [])),
 (.kZ (.var 5) (.range [(.cst (.int (1))),(.bi .len [(.var 1)])]) [(.asg (.var 6) (.gJ 139 129 (aa "get_token") (.var 0) [] [] [])),(.exp (.gJ 139 136 (aa "push_token") (.var 0) [(.iD (.cmp (.var 5) [.Eq] [(.var 4)]) (.cst (.str (aa "("))) (.var 6))] [] []))]),
 (.exp (.gJ 139 136 (aa "push_token") (.var 0) [(.cst (.str (aa ")")))] [] [])),
 (.ret (.kB .join (.cst (.str (aa ""))) [(.comp (.gJ 139 129 (aa "get_token") (.var 0) [] [] []) [(.mk (.var 9) (.val (.var 1)) [])])]))]
noncomputable def fD:List MS:=[
 (.asg (.tup [(.tup [(.var 1),(.var 24),(.var 2),(.var 3),(.var 4),(.var 5)]),(.var 6),(.var 7)]) (.eK 298 [(.var 0)])),
 (.asg (.tup [(.var 25),(.var 8),(.var 9)]) (.tup [(.bin .Add (.cst (.int (3))) (.var 1)),(.bin .Add (.cst (.int (1))) (.var 4)),(.cst (.str (aa "\"\\ \n#\t()a")))])),
 (.asg (.var 11) (.comp (.idx (.var 9) (.bin .Mod (.var 27) (.bin .Pow (.bin .Sub (.var 25) (.cst (.int (1)))) (.cst (.int (2)))))) [(.mk (.tup [(.var 27),(.var 28)]) (.val (.var 6)) [])])),
 (.asg (.tup [(.var 12),(.var 13)]) (.eK 305 [(.var 11),(.comp (.var 28) [(.mk (.tup [(.var 27),(.var 28)]) (.val (.var 6)) [])]),(.var 5)])),
 (.iff (.cmp (.comp (.gJ 139 129 (aa "get_token") (.var 12) [] [] []) [(.mk (.var 27) (.val (.pu (.var 11) (some (.cst (.int (1)))) none)) [])]) [.NotEq] [(.pu (.var 11) none (some (.cst (.int (7)))))]) [(.ret (.cst (.bool false)))] []),
 (.ext (gX (cV "law" fS) 5)),
 (.asg (.var 16) (.new (.comp (.new (.comp (.eK 310 [(.bin .Add (.var 2) (.bin .Mult (.cst (.int (16))) (.ext e6 [15,27,29]))),(.bin .Mod (.bin .Add (.var 27) (.var 29)) (.cst (.int (2)))),(.var 3),(.var 8)]) [(.mk (.var 29) (.range [(.bin .Add (.var 25) (.cst (.int (1))))]) [])])) [(.mk (.var 27) (.range [(.bin .Add (.var 25) (.cst (.int (1))))]) [])]))),
 (.kZ (.var 14) (.val (.pu (.var 11) none (some (.cst (.int (7)))))) [(.exp (.eK 315 [(.var 16),(.bin .Add (.cst (.int (1))) (.bin .FloorDiv (.kB .index (.var 9) [(.var 14)]) (.bin .Sub (.var 25) (.cst (.int (1)))))),(.bin .Add (.cst (.int (1))) (.bin .Mod (.kB .index (.var 9) [(.var 14)]) (.bin .Sub (.var 25) (.cst (.int (1)))))),(.var 3),(.var 8)]))]),
 (.asg (.var 17) (.eK 320 [(.var 16),(.var 25),(.var 7)])),
 (.kZ (.var 18) (.range [(.cst (.int (2)))]) [(.kZ (.var 10) (.range [(.bin .Pow (.bin .Sub (.var 25) (.cst (.int (1)))) (.cst (.int (2))))]) [(.iff (.cmp (.bin .Mod (.bin .Add (.bin .FloorDiv (.var 10) (.bin .Sub (.var 25) (.cst (.int (1))))) (.bin .Mod (.var 10) (.bin .Sub (.var 25) (.cst (.int (1)))))) (.cst (.int (2)))) [.Eq] [(.var 18)]) [(.exp (.eK 315 [(.var 16),(.bin .Add (.cst (.int (1))) (.bin .FloorDiv (.var 10) (.bin .Sub (.var 25) (.cst (.int (1)))))),(.bin .Add (.cst (.int (1))) (.bin .Mod (.var 10) (.bin .Sub (.var 25) (.cst (.int (1)))))),(.var 3),(.var 8)]))] [])])]),
 (.asg (.var 19) (.eK 320 [(.var 16),(.var 25),(.var 7)])),
 (.iff (.bor [(.cmp (.var 17) [.Eq] [(.gx [] [])]),(.cmp (.var 19) [.Eq] [(.gx [] [])])]) [(.ret (.cst (.bool false)))] []),
 (.asg (.tup [(.var 20),(.var 21)]) (.tup [(.eK 325 [(.var 17),(.var 25),(.cst (.int (0)))]),(.eK 325 [(.var 17),(.var 25),(.cst (.int (1)))])])),
 (.iff (.bor [(.cmp (.eK 330 [(.var 12),(.eK 325 [(.var 19),(.var 25),(.cst (.int (0)))]),(.var 7)]) [.NotEq] [(.var 20)]),(.cmp (.eK 330 [(.var 12),(.var 21),(.var 7)]) [.NotEq] [(.eK 325 [(.var 19),(.var 25),(.cst (.int (1)))])])]) [(.ret (.cst (.bool false)))] []),
 (.asg (.tup [(.var 22),(.var 23)]) (.comp (.kB .join (.cst (.str (aa ""))) [(.comp (.bin .Add (.idx (.var 7) (.bin .Mod (.var 29) (.cst (.int (6))))) (.var 30)) [(.mk (.tup [(.var 29),(.var 30)]) (.sU (.var 27)) [])])]) [(.mk (.var 27) (.val (.lst [(.var 20),(.bin .Add (.pu (.var 20) (some (.cst (.int (1)))) none) (.cst (.str (aa "("))))])) [])])),
 (.iff (.cmp (.eK 66 [(.lst [(.var 22),(.var 23),(.var 20)])]) [.NotEq] [(.lst [(.var 22),(.cst (.str (aa "('', '')"))),(.var 20)])]) [(.ret (.cst (.bool false)))] []),
 (.ret (.cmp (.lst [(.gJ 139 129 (aa "get_token") (.var 12) [] [] []),(.gJ 139 129 (aa "get_token") (.var 12) [] [] []),(.attr 139 (.var 12) (aa "lineno"))]) [.Eq] [(.lst [(.idx (.var 11) (.cst (.int (7)))),(.cst (.str (aa ""))),(.var 13)])]))]
theorem XE:jC R2 [("result",1)] (cV "_strip_quoted_realnames" fS)=uO:=by kernel_rfl
theorem XM:jC R2 [] (cV "_check_parenthesis" fS)=uQ:=by kernel_rfl
theorem aek:jC R2 [("accepted_values",1)] (cV "_pre_parse_validation" fS)=wq:=by kernel_rfl
theorem aeo:jC R2 [] (cV "rgb_to_hls" fS)=AD:=by kernel_rfl
theorem XC:jC R2 [] (cV "hls_to_rgb" fS)=uM:=by kernel_rfl
theorem aix:jC R2 [] (cV "_v" fS)=RU:=by kernel_rfl
theorem aen:jC R2 [] (cV "rgb_to_hsv" fS)=FV:=by kernel_rfl
theorem XB:jC R2 [] (cV "hsv_to_rgb" fS)=yW:=by kernel_rfl
theorem XH:jC R2 [("pushback",1)] (mf "_netrclex" "__init__")=yZ:=by kernel_rfl
theorem aa7:jC R2 [] (mf "_netrclex" "_read_char")=Ci:=by kernel_rfl
theorem aa8:jC R2 [] (mf "_netrclex" "push_token")=Cj:=by kernel_rfl
theorem XD:jC R2 [] (mf "_netrclex" "get_token")=uN:=by kernel_rfl
theorem aeq:jC R2 [] (cV "_formatparam" fS)=OF:=by kernel_rfl
theorem XJ:jC R2 [] (mf "Headers" "__init__")=FW:=by kernel_rfl
theorem abc:jC R2 [] (mf "Headers" "_convert_string_type")=Jz:=by kernel_rfl
theorem aep:jC R2 [] (mf "Headers" "get")=FX:=by kernel_rfl
theorem aer:jC R2 [("parts",1)] (mf "Headers" "add_header")=OG:=by kernel_rfl
theorem XK:jC R2 [("sums",1)] (cV "_law_draws" fS)=mj:=by kernel_rfl
theorem XI:jC R2 [] (cV "_law_lexer" fS)=n_:=by kernel_rfl
theorem XG:jC R2 [] (cV "_law_paint" fS)=uP:=by kernel_rfl
theorem abb:jC R2 [] (cV "_law_flip" fS)=tV:=by kernel_rfl
theorem XF:jC R2 [("roads",1),("due",1)] (cV "_law_roads" fS)=rN:=by kernel_rfl
theorem aej:jC R2 [("row",1)] (cV "_law_row" fS)=wo:=by kernel_rfl
theorem Sd:jC R2 [] (cV "_law_turned" fS)=oA:=by kernel_rfl
theorem aem:jC R2 [("board",2)] (cV "law" fS)=fD:=by kernel_rfl
theorem eR (h:pL 8 J.length J c=some c) (q:Q c J):fG J Q (.ret c) (λ_=>none) J:=(oW c c rfl h (.inl kj) (kj▸q))
theorem Br.of {α:Type} {f:α->Prop} {x y} (q:f (cond b x y)) (c:f x->P) (d:f y->R):Br b P R:=by
 induction b using cB with
 |true=>exact⟨λa=>c q,λe=>nomatch e⟩
 |false=>exact⟨λe=>(nomatch e),λa=>d q⟩
theorem Br.mk (a:b=true->P) (c:b=false->R):Br b P R:=⟨a,c⟩
theorem Br.t (h:P):Br true P R:=⟨λa=>h,λe=>nomatch e⟩
theorem Br.f (h:R):Br false P R:=⟨λe=>(nomatch e),λa=>h⟩
noncomputable def U (l:List (Option CV)):bk:=λi=>(l[i]?).join
theorem JV (a:l.length=4) (b:Z 0=U l 0) (c:Z 1=U l 1) (d:Z 2=U l 2) (e:Z 3=U l 3) (h:∀i,Z (i+4)=none):Z=U l:=by
 funext i
 match i with
 |0=>exact b
 |1=>exact c
 |2=>exact d
 |3=>exact e
 |i+4=>exact h i▸(by rw[U,eN (zT (zE a) zQ)];rfl)
theorem Po (a:l.length=6) (b:Z 0=U l 0) (c:Z 1=U l 1) (d:Z 2=U l 2) (e:Z 3=U l 3) (f:Z 4=U l 4) (g:Z 5=U l 5) (h:∀i,Z (i+6)=none):Z=U l:=by
 funext i
 match i with
 |0=>exact b
 |1=>exact c
 |2=>exact d
 |3=>exact e
 |4=>exact f
 |5=>exact g
 |i+6=>exact h i▸(by rw[U,eN (zT (zE a) zQ)];rfl)
noncomputable def iq:List Nat->Nat->Bool->List (Nat×bD)
 |[],p,a=>cond a [(p-1,⟨#[92]⟩)] []
 |c::l,p,a=>cond a ((p,⟨#[92,c]⟩)::iq l (p+1) false) (cond (c==92) (iq l (p+1) true) ((p,⟨#[c]⟩)::iq l (p+1) false))
noncomputable def wG (x:bD):List (Nat×bD):=iq x.cps.toList 0 false
noncomputable def adg (p:Nat×bD):CV:= .tup [.int p.1,.str p.2]
noncomputable def qI:List (Nat×bD)->Int->Bool
 |[],k=>k==0
 |p::l,k=>cond (p.2==("(" :bD)) (qI l (k+1)) (cond (p.2==(")" :bD)) (cond (decide (k-1<0)) false (qI l (k-1))) (qI l k))
noncomputable def jc (l:List MS) (i:Nat):MS:=(l[i]?).getD .bad
noncomputable def aiP:MS->MT
 | .kZ t _ _=>t
 |_=> .bad
noncomputable def JK:MS->List MS
 | .kZ _ _ b=>b
 |_=>[]
noncomputable abbrev iX (P:cZ) (PS:dZ) (n:Nat) (st:MS):CV->bk->aZ->fA->Prop:=λc Z J Q=>du (aw P n) (aiP st) c Z J (λZ J=>bX (wpS P PS n) (JK st) Z J Q)
noncomputable abbrev ke:aZ->Prop:=λ_=>True
theorem PZ {Q:EPost} {K} (g:∀k b c,Q (.bool (k==0)) J->K .next (U [some a,some (.int k),b,c]) J) (h:Q (.bool false) J->∀Z,K (.ret (.bool false)) Z J):
  ∀l k b c Z,Z=U [some a,some (.int k),b,c]->Q (.bool (qI l k)) J->eO ke (iX P PS 17 (jc uQ 2)) (l.map adg) Z J K:=by
 intro l
 induction l with
 |nil=>
  exact λk b c Z e q=>e▸⟨trivial,g _ _ _ q⟩
 |cons p l d=>
  intro k b c Z e q
  subst e
  exact(fg trivial rfl (Br.of (f:=λx=>Q (.bool x) J) q ((d (k+1) _ _ _ (JV rfl rfl rfl rfl rfl λa=>rfl))) λq=>Br.of (f:=λx=>Q (.bool x) J) q (λq=>Br.of (f:=λx=>Q (.bool x) J) q (λq=>h q _) (d (k-1) _ _ _ (JV rfl rfl rfl rfl rfl λa=>rfl))) ((d k _ _ _ (JV rfl rfl rfl rfl rfl λa=>rfl)))))
theorem lD {J:aZ}:(J++[m])[J.length]?=some m:=by rw[be (ai _),dw];rfl
theorem xt {J:aZ} {m a:MO}:(J++[m]).set J.length a=J++[a]:=by rw[fB _ _ (ai _),dw];rfl
theorem AF {J:aZ} (h:Q J.length l):listIn (J++[.list l]) (.own J.length) Q:=by
 show lK (((J++[MO.list l])[J.length]?).bind LD) _
 exact af lD h
theorem YU {K:aZ->Prop} (b:l.length<=fj) (h:K (J++[.list (l++[c])])):listIn (J++[MO.list l]) (.own J.length) (λo a=>a.length<=fj/\K ((J++[MO.list l]).set o (MO.list (a++[c])))):=
 AF ⟨b,af xt h⟩
theorem pN {J:aZ}:eC (J++[.list l]) (.own J.length)= .lst l:=by
 show(match (J++[MO.list l])[J.length]? with|some (.list l)=>CV.lst l|some (.dict l)=> .gx l|_=> .own J.length)=_
 rw[lD]
theorem AM (h:pL 8 J.length (J++t) c=some a) (q:Q a J):fG J Q (.ret c) (λ_=>none) (J++t):=
 (oW c a rfl h (.inl kl) (kl▸q))
theorem Gs:∀{l:List CV},(∀c∈l,f c=some c)->hU f l=some l:=by
 intro l
 induction l with
 |nil=>
  exact λd=>rfl
 |cons c l a=>
  intro h
  show(f c).bind (λy=>(hU f l).map (y:: ·))=_
  refine af (h c az) (af (a λx b=>h x (aB _ b)) ?_);rfl
theorem Ye {J:aZ} (h:hU (pL 7 J.length (J++[.list l])) l=some a):pL 8 J.length (J++[.list l]) (.own J.length)=some (.lst a):=by
 show(match decide (J.length<J.length) with|true=>_|false=>_)=_
 refine af (decide_eq_false (bG _)) (af lD ?_)
 show(hU (pL 7 J.length (J++[.list l])) l).map CV.lst=_
 refine af h ?_;rfl
section
variable {P:cZ} {PS:dZ} {n:Nat} {Z:bk} {J:aZ}
theorem aA (h:Z i=some c) (q:Q c J):aw P (n+1) Z J (.var i) Q:=by
 show match Z i with|some c=>Q c J|none=>False
 exact af h q
theorem bx (q:Q c J):aw P (n+1) Z J (.cst c) Q:=q
theorem cU (q:Q (upd Z i c) J):du E (.var i) c Z J Q:=q
theorem mK (h:k Z J):vY k Q .next Z J:=h
theorem aK {st} (h:wpS P PS n st Z J (vY (λZ J=>bX (wpS P PS n) a Z J Q) Q)):bX (wpS P PS n) (st::a) Z J Q:=h
theorem bY (h:Q .next Z J):bX (wpS P PS n) [] Z J Q:=h
theorem EB (h:aw P n Z J o (λa J=>listIn J a (λ_ _=>aw P n Z J e (λc J=>listIn J a (λo l=>l.length<=fj/\Q .next Z (J.set o (.list (l++[c])))))))):wpS P PS (n+1) (.pO o e) Z J Q:=h
theorem Aw (a:Z i=some (.own J.length)) (b:∀Q:EPost,Q c (J++[.list l])->aw P (n+1) Z (J++[.list l]) e Q) (d:l.length<=fj) (h:Q .next Z (J++[.list (l++[c])])):
  wpS P PS (n+2) (.pO (.var i) e) Z (J++[.list l]) Q:=
 EB (aA a (AF (b _ (YU d h))))
theorem gK (h:aw P n Z J e (λc J=>du (aw P n) t c Z J (λZ J=>Q .next Z J))):wpS P PS (n+1) (.asg t e) Z J Q:=h
theorem sA (b:∀Q:EPost,Q c J->aw P n Z J e Q) (h:bX (wpS P PS (n+1)) a (upd Z i c) J Q):bX (wpS P PS (n+1)) (.asg (.var i) e::a) Z J Q:=b _ h
theorem sN (h:k Z J):bX (wpS P PS n) [] Z J (vY k Q):=h
theorem jA (h:aw P n Z J e (λc J=>Q (.ret c) Z J)):wpS P PS (n+1) (.ret e) Z J Q:=h
theorem OA (h:aw P n Z J l (λa J=>aw P n Z J r (λb J=>wL op (eC J a) (eC J b) (λr=>Q (.bool r) J)))):aw P (n+1) Z J (.cmp l [op] [r]) Q:=h
theorem Xf {e1 e2} (b:∀Q:EPost,Q (.bool true) J->aw P n Z J e1 Q) (h:aw P n Z J e2 Q):aw P (n+1) Z J (.band [e1,e2]) Q:=b _ ⟨λa=>h,λe=>nomatch e⟩
theorem lB (a:∀Q:EPost,Q (.str x) J->aw P n Z J o Q) (b:∀Q:List CV->aZ->Prop,Q cs J->qW (aw P n) Z args J Q) (h:wm m x (cs.map (eC J)) (λc=>Q c J)):aw P (n+1) Z J (.kB m o args) Q:=a _ (b _ h)
theorem mO (h:aw P n Z J e (λc J=>Q (some c) J)):QR (aw P n) Z J (some e) Q:=h
theorem q_ (h:aw P n Z J o (λa J=>QR (aw P n) Z J l (λb J=>QR (aw P n) Z J d (λe J=>Ui (eC J a) b e (λc=>Q c J))))):aw P (n+1) Z J (.pu o l d) Q:=h
end
theorem NK (c:Ak l=some a) (d:Ak e=some b) (f:x.length<=fj) (q:Q (.str (iW x a b))):Ui (.str x) l e Q:=oW a b c d f q
theorem dK (h:n<=1000):n<=sizeLine:=ag h (by decide)
noncomputable def dq:Str:="\""
noncomputable def gn (a:bD):List (Nat×bD)->Int->Option Int->List bD->Int×List bD
 |[],st,_,r=>(st,r)
 |p::l,st,op,r=>cond (p.2==dq) (match op with
  |none=>gn a l st (some p.1) r
  |some o=>cond (st !=o) (gn a l (p.1+1) none (r++[iW a (some st) (some o)])) (gn a l (p.1+1) none r)) (gn a l st op r)
noncomputable def agU:Option Int->CV
 |none=> .none
 |some i=> .int i
noncomputable abbrev sC (l:List bD):List CV:=l.map .str
theorem Ag:sC r++[.str x]=sC (r++[x]):=qP (l₂:=[x]).symm
theorem NB {J:aZ} {K} (i:a.length<=1000) {X:Int×List bD->Prop} (j:∀st op r c d,r.length<=1000->X (st,r)->K .next (U [some (.str a),some (.int st),some (agU op),some (.own J.length),c,d]) (J++[.list (sC r)])):
  ∀l st op r c d Z,Z=U [some (.str a),some (.int st),some (agU op),some (.own J.length),c,d]->l.length+r.length<=1000->X (gn a l st op r)->eO ke (iX P PS 17 (jc uO 4)) (l.map adg) Z (J++[.list (sC r)]) K:=by
 intro l
 induction l with
 |nil=>
  exact λst op r c d Z e g q=>e▸⟨trivial,j _ _ _ _ _ (by simpa using g) q⟩
 |cons p l h=>
  intro st op r c d Z e g q
  subst e
  have b:l.length+r.length<=1000:=zT (zS zP) (bS▸g)
  refine(fg trivial rfl (Br.of q (λq=>?_) (h st op r _ _ _ (Po rfl rfl rfl rfl rfl rfl rfl λa=>rfl) b)))
  induction op using cO with
  |none=>exact(aP true rfl (Br.t (h st (some p.1) r _ _ _ (Po rfl rfl rfl rfl rfl rfl rfl λa=>rfl) b q)))
  |some o=>
   refine(aP false rfl (Br.f (Br.of q (λq=>aK (Aw rfl (λQ q=>q_ (aA rfl (mO (aA rfl (mO (aA rfl (NK rfl rfl (dK i) q))))))) (dK ?_) (af Ag (h (p.1+1) none (r++[iW a (some st) (some o)]) _ _ _ (Po rfl rfl rfl rfl rfl rfl rfl λa=>rfl) (zT (bJ (zE ax) _) (zT (zE (pj l.length r.length).symm) g)) q)))) λq=>h (p.1+1) none r _ _ _ (Po rfl rfl rfl rfl rfl rfl rfl λa=>rfl) b q)))
   ·rw[aC];exact zT zQ b
noncomputable def uE (a:bD):Str:=cond (!jN dq a) a (lM "" (cond (decide ((gn a (wG a) 0 none []).1<a.length)) ((gn a (wG a) 0 none []).2++[iW a (some (gn a (wG a) 0 none []).1) none]) (gn a (wG a) 0 none []).2))
theorem tP:∀l,strsOf (sC l)=some l:=by
 intro l
 induction l with
 |nil=>
  exact rfl
 |cons x l a=>
  show(some x).bind (λy=>(strsOf (sC l)).map (y:: ·))=_
  refine af a ?_;rfl
theorem uW:∀l p e,(iq l p e).length<=l.length+cond e 1 0
 |[],p,e=>by induction e using cB<;>exact ai _
 |c::l,p,true=>dg (dF (uW l (p+1) false))
 |c::l,p,false=>by
  show(cond (c==92) (iq l (p+1) true) ((p,⟨#[c]⟩)::iq l (p+1) false)).length<=_
  induction c==92 using cB with
  |true=>exact uW l (p+1) true
  |false=>exact dF (uW l (p+1) false)
theorem JS a:(wG a).length<=a.length:=by
 have:=uW a.cps.toList 0 false
 rwa [jW] at this
theorem Dr x l a:(iW x l a).length<=x.length:=by
 have:=Ds x.cps.toList l a
 exact this
theorem KP a l:∀st op r,(∀x∈r,x.length<=a.length)->(∀x∈(gn a l st op r).2,x.length<=a.length)/\(gn a l st op r).2.length<=l.length+r.length:=by
 induction l with
 |nil=>exact λst op r h=>⟨h,cR ..⟩
 |cons p l f=>
  intro st op r h
  have c:=λst op=>f st op r h
  have d:=λst op (x:Option Int×Option Int)=>f st op (r++[iW a x.1 x.2]) (λy g=>(bt.mp g).elim (h y) λe=>bl.mp e▸Dr ..)
  have w:∀{a b},a<=l.length+b->a<=(p::l).length+b:=λh=>ag h (bS▸zS zP)
  show(∀x∈(cond (p.2==dq) _ _:Int×List bD).2,_)/\(cond (p.2==dq) _ _:Int×List bD).2.length<=_
  induction p.2==dq using cB with
  |false=>exact⟨(c st op).1,w (c st op).2⟩
  |true=>induction op using cO with
   |none=>exact⟨(c st (some p.1)).1,w (c st (some p.1)).2⟩
   |some o=>
    show(∀x∈(cond (st !=o) _ _:Int×List bD).2,_)/\(cond (st !=o) _ _:Int×List bD).2.length<=_
    induction st !=o using cB with
    |false=>exact⟨(c (p.1+1) none).1,w (c (p.1+1) none).2⟩
    |true=>
     refine⟨(d (p.1+1) none (some st,some o)).1,ag (d (p.1+1) none (some st,some o)).2 ?_⟩
     exact zT (bJ (zE ax) _) (zT (zE (ej ..).symm) (zE (ou ..)))
theorem aby k B:∀(ss:List bD) z,(∀x∈ss,x.length<=B)->ss.foldl (· + ·.length+k) z<=z+ss.length*(B+k):=by
 intro ss
 induction ss with
 |nil=>
  intro z _
  simp
 |cons x ss a=>
  refine λz h=>ag (a (z+x.length+k) λy b=>h y (aB _ b)) ?_
  have:=h x az
  rw[bS,pg]
  exact zT (zS (zS (bJ this _))) (zE (by rw[ej z,ej z,fJ (B+k)]))
theorem oC {s:bD} {ss:List bD} (a:∀x∈ss,x.length<=B) (b:ss.length<=n) (c:n*(B+s.length)<=16777216):dT (ss.toArray.foldl (· + ·.length+s.length) 0)=false:=by
 rw[zG]
 have:=aby s.length B ss 0 a
 have d:ss.length*(B+s.length)<=n*(B+s.length):=cP _ b
 rw[dT,decide_eq_false_iff_not,mC]
 exact bL.mpr (zT this (zT (zE (dJ _)) (zT d c)))
structure acK (P:cZ):Prop where
 SH:∀x Q,Q ((wG x).map adg)->P.gen 45 [.str x] Q
theorem NA (l:acK P) (d:a.length<=1000) (q:Q (.str (uE a)) J):bX (wpS P PS 18) uO (U [some (.str a)]) J (fG J Q):=by
 refine Br.of (f:=λx=>Q (.str x) J) q ((eR rfl)) λq=>⟨dY _,l.SH a _ (NB (r:=[]) (X:=λx=>Q (.str (lM "" (cond (decide (x.1<a.length)) (x.2++[iW a (some x.1) none]) x.2))) J/\(∀y∈x.2,y.length<=a.length)/\x.2.length<=1000) d (λst op r m n i j=>?_) (wG a) 0 none none none _ (Po rfl rfl rfl rfl rfl rfl rfl λa=>rfl) ?_ ⟨q,?_⟩)⟩
 ·refine qk j λj k u=>?_
  have g:∀{b} {c},c=U [some (.str a),some (.int st),some (agU op),some (.own J.length),m,n]->(∀y∈b,y.length<=a.length)->b.length<=1001->Q (.str (lM "" b)) J->bX (wpS P PS 18) [(.ret (.kB .join (.cst (.str (aa ""))) [.var 3]))] c (J++[.list (sC b)]) (fG J Q):=λ{b c} e o s q=>by
   subst e
   exact aK (jA (lB (λa q=>q) (λa q=>q) (af gC (af pN ((eJ b (tP b) (oC o s (zT (aX 1001 d) (by decide))) (AM rfl q)))))))
  refine⟨dK d,Br.of (f:=λx=>Q (.str (lM "" x)) J) j (λq=>?_) λq=>(bY (mK (g rfl k (dg i) q)))⟩
  ·refine aK (Aw rfl (λQ q=>q_ (aA rfl (mO (aA rfl (NK rfl rfl (dK d) q))))) (dK ?_) (af Ag (mK (bY (mK (g rfl (λy t=>(bt.mp t).elim (k y) λe=>bl.mp e▸Dr ..) (af ax (dF i)) q))))))
   ·rw[aC];exact i
 ·have:=JS a
  exact ag this d
 ·have:=KP a (wG a) 0 none [] λa h=>nomatch h
  exact⟨this.1,ag this.2 (ag (JS a) d)⟩
noncomputable def gL (a:bD):Bool:=qI (wG (uE a)) 0
abbrev Vi (P:cZ):Prop:=∀a J (Q:EPost),a.length<=1000->Q (.str (uE a)) J->P.eK 52 [.str a] [] J Q
abbrev Bj (P:cZ):Prop:=∀a J (Q:EPost),a.length<=1000->Q (.bool (gL a)) J->P.eK 59 [.str a] [] J Q
theorem PY (b:acK P) (c:Vi P) (d:a.length<=1000) (q:Q (.bool (gL a)) J):bX (wpS P PS 18) uQ (U [some (.str a)]) J (fG J Q):=c a J _ d (b.SH (uE a) _ (PZ (λa a a=>eR rfl) (λq Z=>eR rfl q) (wG (uE a)) 0 none none _ (JV rfl rfl rfl rfl rfl λa=>rfl) q))
noncomputable def yo (x:bD):Str:=cond (gL x) x "('', '')"
theorem WC {J:aZ} {K} (k:Bj P) {all} (g:all.length<=1000) (m:∀v,K .next (U [some a,some (.own J.length),v]) (J++[.list (sC (all.map yo))])):
  ∀l r c Z,r++l=all->(∀x∈l,x.length<=1000)->Z=U [some a,some (.own J.length),c]->eO ke (iX P PS 17 (jc wq 1)) (sC l) Z (J++[.list (sC (r.map yo))]) K:=by
 intro l
 induction l with
 |nil=>
  intro r c Z e1 _ e
  subst e
  rw[bK] at e1
  exact af e1 ⟨trivial,m _⟩
 |cons x l n=>
  intro r c Z e1 j e
  subst e
  have next:∀y:bD,y=yo x->∀b:bk,b=U [some a,some (.own J.length),some (.str y)]->bX (wpS P PS 17) [(.pO (.var 1) (.var 2))] b (J++[.list (sC (r.map yo))]) (yx (λZ J=>eO ke (iX P PS 17 (jc wq 1)) (sC l) Z J K) K):=λy o b e=>by
   subst e
   refine aK (Aw rfl (λQ=>aA rfl) (dK ?_) (af Ag (af o (eh (List.map_singleton (f:=yo)) (eh qP (n (r++[x]) _ _ (by rw[aM];exact e1) (λz q=>j z (aB _ q)) rfl))))))
   ·rw[aC,aC];exact by rw[<-e1,ax] at g;exact zT zP g
  refine⟨trivial,(k x _ _ (j x az) (Br.mk (λe=>?_) λe=>?_))⟩
  ·have d:gL x=false:=by induction h:gL x using cB with|false=>rfl|true=>rw[h] at e;exact bV e
   exact aK (gK (bx (cU (mK (bY (mK (next _ (by unfold yo;refine af d ?_;rfl) _ (by funext i;match i with|0=>rfl|1=>rfl|2=>rfl|i+3=>rfl))))))))
  ·have d:gL x=true:=by induction h:gL x using cB with|true=>rfl|false=>rw[h] at e;exact nomatch e
   exact bY (mK (next x (by unfold yo;refine af d ?_;rfl) _ (by funext i;match i with|0=>rfl|1=>rfl|2=>rfl|i+3=>rfl)))
theorem WB (d:Bj P) (e:l.length<=1000) (f:∀x∈l,x.length<=1000) (q:Q (.lst (sC (l.map yo))) J):bX (wpS P PS 18) wq (U [some (.lst (sC l))]) J (fG J Q):=by
 refine⟨dY _,sC l,rfl,(WC (a:= .lst (sC l)) d e (λv=>?_) l [] none _ rfl f ?_)⟩
 ·exact aK (jA (aA rfl (AM (Ye (Gs λc g=>by refine aG (bO.mp g) λx a b=>eh b ?_;rfl)) q)))
 ·funext i;match i with|0=>rfl|1=>rfl|2=>rfl|i+3=>rfl
theorem RF:fo 4607182418800017408=false:=by decide+kernel
theorem ajv:fo 4611686018427387904=false:=by decide+kernel
theorem WK:fo 4618441417868443648=false:=by decide+kernel
noncomputable def pM (x:UInt64):UInt64:=(HG x 4607182418800017408).2
noncomputable def LP (x y:UInt64):Bool:=iv x y==some .lt
noncomputable def x_ (x y:UInt64):Bool:=iv x y==some .eq
noncomputable def abG (x y:UInt64):Bool:=iv x y==some .lt||iv x y==some .eq
noncomputable def Ie (a b:UInt64):Option UInt64:=cond (fo b) none (some (iu a b))
theorem t_ (h:Ie a b=some c):fo b=false/\iu a b=c:=by
 unfold Ie at h
 induction d:fo b using cB with
 |true=>rw[d] at h;exact aW h
 |false=>rw[d] at h;exact⟨rfl,ab h⟩
noncomputable def oF (a b:Int):UInt64:=xd (decide (a<0) !=decide (b<0)) a.natAbs b.natAbs
noncomputable def iI (a b:Int):Option UInt64:=cond (b==0) none (cond (eX (oF a b)) none (some (oF a b)))
theorem f' (h:iI a b=some c):(b≠0/\eX (oF a b)=false)/\oF a b=c:=by
 unfold iI at h
 refine Hb (b==0) (λd=>(aW (d▸h))) λd=>?_
 ·
  rw[d] at h
  induction e:eX (oF a b) using cB with
  |true=>rw[e] at h;exact aW h
  |false=>rw[e] at h;exact⟨⟨beq_eq_false_iff_ne.mp d,rfl⟩,ab h⟩
noncomputable def KI (x:UInt64):Option Int:=match ji x with
 | .fin a m e=>some (vJ a m e)
 |_=>none
theorem VS (h:KI x=some i):∃a m e,ji x= .fin a m e/\vJ a m e=i:=by
 unfold KI at h
 cases b:ji x with
 |fin a m e=>rw[b] at h;exact(ww a m e rfl (ab h))
 |_=>exact aW (b▸h)
noncomputable def toN (x:UInt64):Option Int:=match ji x with
 | .fin a m e=>some (tl a m e)
 |_=>none
theorem rx (h:toN x=some i):∃a m e,ji x= .fin a m e/\tl a m e=i:=by
 unfold toN at h
 cases b:ji x with
 |fin a m e=>rw[b] at h;exact(ww a m e rfl (ab h))
 |_=>exact aW (b▸h)
noncomputable def vH (a b h:UInt64):UInt64:=cond (LP h 4595172819793696085)
 (gu a (cC (cC (cq b a) h) 4618441417868443648))
 (cond (LP h 4602678819172646912) b
  (cond (LP h 4604180019048437077)
   (gu a (cC (cC (cq b a) (cq 4604180019048437077 h)) 4618441417868443648))
   a))
abbrev VP (P:cZ):Prop:=∀a b h J (Q:EPost),Q (.bW (vH a b (pM h))) J->P.eK 87 [.bW a,.bW b,.bW h] [] J Q
section
variable {P:cZ} {PS:dZ} {J:aZ} {Q:EPost}
theorem ac5 (q:Q (.bW (vH a b (pM h))) J):bX (wpS P PS 20) RU (U [some (.bW a),some (.bW b),some (.bW h)]) J (fG J Q):=⟨RF,(Br.of (f:=λx=>Q (.bW x) J) q ((eR rfl)) λq=>Br.of (f:=λx=>Q (.bW x) J) q ((eR rfl)) λq=>Br.of (f:=λx=>Q (.bW x) J) q ((eR rfl)) (eR rfl))⟩
noncomputable def Sp (r g:Bool) (a b c:UInt64):UInt64:=pM (iu (cond r (cq c b) (cond g (cq (gu 4611686018427387904 a) c) (cq (gu 4616189618054758400 b) a))) 4618441417868443648)
noncomputable def mx (r g b:UInt64):UInt64:=afK r [g,b]
noncomputable def mn (r g b:UInt64):UInt64:=afI r [g,b]
noncomputable def sm (r g b:UInt64):UInt64:=gu (mx r g b) (mn r g b)
noncomputable def rg (r g b:UInt64):UInt64:=cq (mx r g b) (mn r g b)
noncomputable def lt (r g b:UInt64):UInt64:=iu (sm r g b) 4611686018427387904
noncomputable def t3 (x:UInt64×UInt64×UInt64):CV:= .tup [.bW x.1,.bW x.2.1,.bW x.2.2]
noncomputable def UH (r g b:UInt64):Option UInt64:=
 (Ie (cq (mx r g b) r) (rg r g b)).bind λa=>(Ie (cq (mx r g b) g) (rg r g b)).bind λc=>(Ie (cq (mx r g b) b) (rg r g b)).bind λd=>
  some (Sp (x_ r (mx r g b)) (x_ g (mx r g b)) a c d)
noncomputable def ZV (r g b:UInt64):Option UInt64:=cond (abG (lt r g b) 4602678819172646912) (Ie (rg r g b) (sm r g b)) (Ie (rg r g b) (cq (cq 4611686018427387904 (mx r g b)) (mn r g b)))
noncomputable def yv (r g b:UInt64):Option (UInt64×UInt64×UInt64):=
 cond (x_ (mn r g b) (mx r g b)) (some (0,lt r g b,0)) ((ZV r g b).bind λs=>(UH r g b).map λh=>(h,lt r g b,s))
noncomputable def aiN (r g b:UInt64):bk:=upd (upd (upd (upd (upd (U [some (.bW r),some (.bW g),some (.bW b)]) 3 (.bW (mx r g b))) 4 (.bW (mn r g b))) 5 (.bW (sm r g b))) 6 (.bW (rg r g b))) 7 (.bW (lt r g b))
theorem pv:3<=1000:=by decide
theorem JF (e:UH r g b=some h) (q:Q (t3 (h,lt r g b,s)) J):bX (wpS P PS 20) (AD.drop 7) (upd (aiN r g b) 8 (.bW s)) J (fG J Q):=by
 refine cps λl k=>aG (a' e) λm c e=>aG (a' e) λn d e=>aG (a' e) λo i e=>?_
 obtain⟨j,rfl⟩:=t_ c
 obtain⟨a,rfl⟩:=t_ d
 obtain⟨a,rfl⟩:=t_ i
 have e:=ab e;subst e
 exact k (iJ j j j (Br.of (f:=λx=>Q (t3 (pM (iu x 4618441417868443648),lt r g b,s)) J) q (λq=>(iJ WK RF pv (eR rfl q))) λq=>Br.of (f:=λx=>Q (t3 (pM (iu x 4618441417868443648),lt r g b,s)) J) q (λq=>(iJ WK RF pv (eR rfl q))) λq=>(iJ WK RF pv (eR rfl q))))
theorem XY (h:yv r g b=some x) (q:Q (t3 x) J):bX (wpS P PS 20) AD (U [some (.bW r),some (.bW g),some (.bW b)]) J (fG J Q):=by
 refine .inr (fX _ _ rfl (.inr (fX _ _ rfl ⟨ajv,(Br.of (f:=λo=>o=some x) h (λh=>?_) λh=>?_)⟩)))
 ·have h:=ab h;subst h
  exact⟨pv,eR rfl q⟩
 refine aG (a' h) λs a h=>aG (eB h) λi e c=>?_;subst c
 refine Br.of (f:=λo=>o=some s) a (λa=>?_) λa=>?_
 ·obtain⟨d,rfl⟩:=t_ a
  exact⟨d,JF e q⟩
 ·obtain⟨d,rfl⟩:=t_ a
  exact⟨d,JF e q⟩
noncomputable def aaM (l s:UInt64):UInt64:=cond (abG l 4602678819172646912) (cC l (gu 4607182418800017408 s)) (cq (gu l s) (cC l s))
noncomputable def ag2 (l a:UInt64):UInt64:=cq (cC 4611686018427387904 l) a
noncomputable def ahY (a b h:UInt64):UInt64×UInt64×UInt64:=(vH a b (pM (gu h 4599676419421066581)),vH a b (pM h),vH a b (pM (cq h 4599676419421066581)))
noncomputable def xo (h l s:UInt64):UInt64×UInt64×UInt64:=ahY (ag2 l (aaM l s)) (aaM l s) h
theorem Dm (a:VP P) (q:Q (t3 (ahY (ag2 l b) b h)) J):bX (wpS P PS 20) (uM.drop 2) (upd (U [some (.bW h),some (.bW l),some (.bW s)]) 3 (.bW b)) J (fG J Q):=
 a _ _ _ _ _ (a _ _ _ _ _ (a _ _ _ _ _ ⟨pv,eR rfl q⟩))
theorem Ng (b:VP P) (c:x_ s 0=false) (q:Q (t3 (xo h l s)) J):bX (wpS P PS 20) uM (U [some (.bW h),some (.bW l),some (.bW s)]) J (fG J Q):=by
 refine Br.mk (λe=>(bV (c.symm.trans e))) λa=>?_
 unfold xo aaM at q
 refine Br.mk (λe=>?_) λe=>?_
 ·have e:abG l 4602678819172646912=true:=e
  rw[e] at q
  exact sA (λa q=>q) (sN (Dm b q))
 ·have e:abG l 4602678819172646912=false:=e
  rw[e] at q
  exact sA (λa q=>q) (sN (Dm b q))
noncomputable def DD (r g b:Int):Option (UInt64×UInt64×Int):=
 cond (oS r [g,b]==oT r [g,b]) (some (0,0,oT r [g,b])) ((iI (oT r [g,b]-oS r [g,b]) (oT r [g,b])).bind λs=>
  (iI (oT r [g,b]-r) (oT r [g,b]-oS r [g,b])).bind λa=>(iI (oT r [g,b]-g) (oT r [g,b]-oS r [g,b])).bind λc=>(iI (oT r [g,b]-b) (oT r [g,b]-oS r [g,b])).bind λd=>
   some (Sp (r==oT r [g,b]) (g==oT r [g,b]) a c d,s,oT r [g,b]))
noncomputable def UI (x:UInt64×UInt64×Int):CV:= .tup [.bW x.1,.bW x.2.1,.int x.2.2]
theorem XX (h:DD r g b=some x) (q:Q (UI x) J):bX (wpS P PS 20) FV (U [some (.int r),some (.int g),some (.int b)]) J (fG J Q):=by
 refine .inl (fX _ _ rfl (.inl (fX _ _ rfl (Br.of (f:=λo=>o=some x) h (λh=>?_) λh=>?_))))
 ·have h:=ab h;subst h
  exact⟨pv,eR rfl q⟩
 refine cps λn e=>aG (a' h) λs i h=>aG (a' h) λt a h=>aG (a' h) λu c h=>aG (a' h) λv d h=>?_
 obtain⟨j,rfl⟩:=f' i
 obtain⟨k,rfl⟩:=f' a
 obtain⟨l,rfl⟩:=f' c
 obtain⟨m,rfl⟩:=f' d
 have h:=ab h;subst h
 exact e (OX j k l m (Br.of (f:=λy=>Q (UI (pM (iu y 4618441417868443648),_,_)) J) q (λq=>(iJ WK RF pv (eR rfl q))) λq=>Br.of (f:=λy=>Q (UI (pM (iu y 4618441417868443648),_,_)) J) q (λq=>(iJ WK RF pv (eR rfl q))) λq=>(iJ WK RF pv (eR rfl q))))
noncomputable def pF (s:UInt64) (v:Int):UInt64:=cC (dn v) (cq 4607182418800017408 s)
noncomputable def fF (h:UInt64) (i:Int):UInt64:=cq (cC h 4618441417868443648) (dn i)
noncomputable def Fh (i:Int) (p q t v:CV):Option (List CV):=cond (i==0) (some [v,t,p]) (cond (i==1) (some [q,v,p]) (cond (i==2) (some [p,v,t]) (cond (i==3) (some [p,q,v]) (cond (i==4) (some [t,p,v]) (cond (i==5) (some [v,p,q]) none)))))
theorem JJ (d:qh a=true) (e:qh b=true) (f:qh c=true):pL 8 k J (.tup [a,b,c])=some (.tup [a,b,c]):=by
 show(hU (pL 7 k J) [a,b,c]).map CV.tup=_
 refine af (Gs λx hx=>(λa h=>by induction a using CV.casesOn<;>first|rfl|exact bV h:∀a,qh a=true->pL 7 k J a=some a) x (by rcases aE.mp hx with rfl|hx;exact d;rcases aE.mp hx with rfl|hx;exact e;rcases aE.mp hx with rfl|hx;exact f;exact bw hx)) ?_
 rfl
end
section
variable {P:cZ} {PS:dZ} {J:aZ} {Q:EPost}
theorem ail:(6:Int)≠0:=by decide
theorem Nf (k:x_ s 0=false) (j:KI (cC h 4618441417868443648)=some i) (c:i.natAbs<2^1000) (d:v.natAbs<2^1000)
  (b:Fh (i.fmod 6) (.bW (pF s v)) (.bW (pF (cC s (fF h i)) v)) (.bW (pF (cC s (cq 4607182418800017408 (fF h i))) v)) (.int v)=some l) (q:Q (.tup l) J):
  bX (wpS P PS 20) yW (U [some (.bW h),some (.bW s),some (.int v)]) J (fG J Q):=by
 refine Br.mk (λe=>(bV (k.symm.trans e))) λa=>nH (VS j) λn m r t g=>?_;clear j;subst g
 exact(aiJ n m r t c d d d ail (Br.of (f:=λo=>o=some l) b (λb=>by have b:=ab b;subst b;exact⟨pv,eR (JJ rfl rfl rfl) q⟩) λb=>Br.of (f:=λo=>o=some l) b (λb=>by have b:=ab b;subst b;exact⟨pv,eR (JJ rfl rfl rfl) q⟩) λb=>Br.of (f:=λo=>o=some l) b (λb=>by have b:=ab b;subst b;exact⟨pv,eR (JJ rfl rfl rfl) q⟩) λb=>Br.of (f:=λo=>o=some l) b (λb=>by have b:=ab b;subst b;exact⟨pv,eR (JJ rfl rfl rfl) q⟩) λb=>Br.of (f:=λo=>o=some l) b (λb=>by have b:=ab b;subst b;exact⟨pv,eR (JJ rfl rfl rfl) q⟩) λb=>Br.of (f:=λo=>o=some l) b (λb=>by have b:=ab b;subst b;exact⟨pv,eR (JJ rfl rfl rfl) q⟩) aW))
end
section
variable {P:cZ} {n:Nat} {Z:bk} {J:aZ}
def Tx (P:cZ) (n:Nat) (Z:bk) (J:aZ) (t:MT) (a:ME):List CV->List CV->Prop
 |[],[]=>True
 |c::cs,r::rs=>(∀Q:EPost,Q r J->du (aw P n) t c Z J (λZ J=>aw P n Z J a Q))/\Tx P n Z J t a cs rs
 |_,_=>False
theorem Cr {K} (i:g J) (k:oQ t=true) items rs:
  ∀d,Tx P n Z J t e items rs->d.length+items.length<=1000->K (d++rs) J->
   gD g (λc d J Q=>du (aw P n) t c Z J (λZ J=>lI (T Z) [] J (λb J=>Br b (gE (aw P n) T I e [] Z d J Q) (Q d J)))) items d J K:=by
 induction items,rs using ll with
 |nn=>exact λd a a q=>⟨i,by rw[bK] at q;exact q⟩
 |nc=>exact λd h a a=>ar h
 |cn=>exact λd h a a=>ar h
 |cc c cs r rs l=>
  intro d j f q
  rw[bS] at f
  refine⟨i,bind_mono k (j.1 (λc J=>d.length<=fj/\gD g (λc d J Q=>du (aw P n) t c Z J (λZ J=>lI (T Z) [] J (λb J=>Br b (gE (aw P n) T I e [] Z d J Q) (Q d J)))) cs (d++[c]) J K) ⟨dK (zT zP f),(l (d++[r]) j.2 (by refine af ax (af b_ ?_);exact zI f) ?_)⟩) λZ J=>Br.t⟩
  rw[aM]
  exact q
theorem nJ (e:∀Q:List CV->(aZ->Prop)->aZ->Prop,Q items g J->pE (aw P n) P Z J f Q) (h:g J) (i:oQ t=true)
  (j:Tx P n Z J t d items rs) (k:items.length<=1000) (q:Q (.lst rs) J):aw P (n+1) Z J (.comp d [.mk t f []]) Q:=
 e (λitems g J=>gD g (λc a J Q=>du (aw P n) t c Z J (λZ J=>lI (gm (aw P n) Z n) [] J (λb J=>Br b (gE (aw P n) (λZ=>gm (aw P n) Z n) (pE (aw P n) P) d [] Z a J Q) (Q a J)))) items [] J (λa=>Q (.lst a)))
  (Cr h i items rs [] j (by rw[vL,dJ];exact k) q)
theorem ahp:(64:Int).natAbs<2^1000:=by decide+kernel
theorem aiI:(48:Int).natAbs<2^1000:=by decide+kernel
noncomputable def RQ (x:UInt64):Option Int:=toN (cC x (dn 64))
noncomputable def aai (f e d:Int):Option (Int×Int×Int):=(iI f 48).bind λh=>(iI (2*e+8*d) 128).bind λl=>(iI (8*d) (oS (2*e+8*d) [128-(2*e+8*d)])).bind λs=>
 cond (x_ s 0) none ((RQ (xo h l s).1).bind λa=>(RQ (xo h l s).2.1).bind λb=>(RQ (xo h l s).2.2).map λc=>(a,b,c))
noncomputable def Fl:CV->Option Int
 | .int i=>some i
 | .bW x=>toN x
 |_=>none
noncomputable def qX (i:Int):Option Int:=cond (decide (i.natAbs<1000000)) (some i) none
noncomputable def three {α:Type}:List α->Option (α×α×α)
 |[]=>none
 |a::r=>(match r with|[]=>none|b::r=>(match r with|[]=>none|c::r=>(match r with|[]=>some (a,b,c)|_::_=>none)))
noncomputable def Uo (f e d:Int):Option (Int×Int×Int):=(iI f 48).bind λh=>(iI (8*d) (e+8*d)).bind λs=>cond (x_ s 0) none ((KI (cC h 4618441417868443648)).bind λi=>(qX i).bind λi=>(qX (e+8*d)).bind λv=>
 (Fh (i.fmod 6) (.bW (pF s v)) (.bW (pF (cC s (fF h i)) v)) (.bW (pF (cC s (cq 4607182418800017408 (fF h i))) v)) (.int v)).bind λl=>(three l).bind λx=>(Fl x.1).bind λa=>(Fl x.2.1).bind λb=>(Fl x.2.2).map λc=>(a,b,c))
noncomputable def ZE (x:Int×Int×Int):Option UInt64:=(DD x.1 x.2.1 x.2.2).map λy=>y.1
noncomputable def QZ (x:Int×Int×Int):Option UInt64:=(iI x.1 64).bind λa=>(iI x.2.1 64).bind λb=>(iI x.2.2 64).bind λc=>(yv a b c).map λy=>y.1
noncomputable def GB (a b:Int):Int:=oS ((a-b).fmod 48) [(b-a).fmod 48]
noncomputable def yJ (c b a d:Int):Int:=b+a*oT 0 [oS 8 [16-GB c d]]
noncomputable def wants (c b a:Int):Int×Int×Int:=(yJ c b a 0,yJ c b a 16,yJ c b a 32)
noncomputable def Cx (t:UInt64):Bool:=eg t 0==some .gt||eg t 0==some .eq
noncomputable def xZ (x:UInt64):Option Int:=toN (cC x (dn 48))
noncomputable def AO (e b a:Int) (c:Option (Int×Int×Int)) (d:Int×Int×Int->Option UInt64):Option ((Int×Int×Int)×Int):=c.bind λx=>(d x).bind λt=>
 cond (x==wants e b a) (cond (Cx t) (cond (eg t 1==some .lt) ((xZ t).map λk=>(x,k.fmod 48)) none) none) none
noncomputable def qY (c odd b a:Int):Option ((Int×Int×Int)×Int):=cond (odd==1) (AO c b a (aai c b a) ZE) (AO c b a (Uo c b a) QZ)
noncomputable def fU (x:(Int×Int×Int)×Int):CV:= .tup [.lst [.int x.1.1,.int x.1.2.1,.int x.1.2.2],.int x.2]
end
abbrev Vq (P:cZ):Prop:=∀r g b x J (Q:EPost),yv r g b=some x->Q (t3 x) J->P.eK 73 [.bW r,.bW g,.bW b] [] J Q
abbrev Vg (P:cZ):Prop:=∀h l s J (Q:EPost),x_ s 0=false->Q (t3 (xo h l s)) J->P.eK 80 [.bW h,.bW l,.bW s] [] J Q
abbrev Vp (P:cZ):Prop:=∀r g b x J (Q:EPost),DD r g b=some x->Q (UI x) J->P.eK 94 [.int r,.int g,.int b] [] J Q
abbrev Vf (P:cZ):Prop:=∀h s v i l J (Q:EPost),x_ s 0=false->KI (cC h 4618441417868443648)=some i->i.natAbs<2^1000->v.natAbs<2^1000->
 Fh (i.fmod 6) (.bW (pF s v)) (.bW (pF (cC s (fF h i)) v)) (.bW (pF (cC s (cq 4607182418800017408 (fF h i))) v)) (.int v)=some l->Q (.tup l) J->P.eK 101 [.bW h,.bW s,.int v] [] J Q
section
variable {P:cZ} {PS:dZ} {J:aZ} {Q:EPost}
theorem RK:(48:Int)≠0:=by decide
theorem Br.t' {P R} (e:b=true) (h:P):Br b P R:=⟨λa=>h,λc=>nomatch e.symm.trans c⟩
theorem SV:lN 6 (.lst [.int a,.int b,.int c]) (.lst [.int a,.int b,.int c])=true:=by
 show(a==a&&(b==b&&(c==c&&true)))=true
 rw[beq_self_eq_true,beq_self_eq_true,beq_self_eq_true];rfl
noncomputable def Kw (c b a:Int):List CV:=[.int (yJ c b a 0),.int (yJ c b a 16),.int (yJ c b a 32)]
theorem Dw (d:Z=U [some (.int c),some o,some (.int b),some (.int a),some (.int both),some (.lst (Kw c b a)),some (.bW t)])
  (i:Cx t=true) (j:(eg t 1==some .lt)=true) (h:xZ t=some k) (f:a.natAbs<2^63) (q:Q (fU (wants c b a,k.fmod 48)) J):bX (wpS P PS 20) (uP.drop 2) Z J (fG J Q):=by
 subst d
 refine sA (λQ q=>nJ (rs:=[.int (GB c 0),.int (GB c 16),.int (GB c 32)]) (λQ q=>⟨pv,_,rfl,q⟩) trivial rfl
  (iJ (λQ q=>(fg RK RK (.inl (fX _ _ rfl q)))) (λQ q=>(fg RK RK (.inl (fX _ _ rfl q)))) (λQ q=>(fg RK RK (.inl (fX _ _ rfl q)))) trivial) pv q) (sA (λQ q=>(Xf (λQ q=>OA (aA rfl (nJ (rs:=Kw c b a) (λQ q=>aP _ rfl q) trivial rfl
   (iJ (λQ q=> .inl (fX _ _ rfl (.inl ⟨_,_,rfl,.inl f,q⟩))) (λQ q=> .inl (fX _ _ rfl (.inl ⟨_,_,rfl,.inl f,q⟩))) (λQ q=> .inl (fX _ _ rfl (.inl ⟨_,_,rfl,.inl f,q⟩))) trivial) pv ⟨rfl,af SV q⟩))) (Br.t' i q))) ?_)
 ·refine af j (nH (rx h) λl m e n g=>?_);clear h;subst g
  exact Br.t ⟨aiI,l,m,e,n,RK,(by decide:2<=1000),eR rfl q⟩
theorem abN (a:l.length=7) (b:Z 0=U l 0) (c:Z 1=U l 1) (d:Z 2=U l 2) (e:Z 3=U l 3) (f:Z 4=U l 4) (g:Z 5=U l 5) (j:Z 6=U l 6) (h:∀i,Z (i+7)=none):Z=U l:=by
 funext i
 match i with
 |0=>exact b
 |1=>exact c
 |2=>exact d
 |3=>exact e
 |4=>exact f
 |5=>exact g
 |6=>exact j
 |i+7=>exact h i▸(by rw[U,eN (zT (zE a) zQ)];rfl)
theorem AN (h:AO c b a d e=some x):
  ∃t k,d=some (wants c b a)/\e (wants c b a)=some t/\Cx t=true/\(eg t 1==some .lt)=true/\xZ t=some k/\x=(wants c b a,k.fmod 48):=by
 refine aG (a' h) λp l h=>aG (a' h) λt m h=>?_
 induction i:p==wants c b a using cB with
 |false=>exact aW (i▸h)
 |true=>
  rw[i] at h
  refine eh (eq_of_beq i) (bE (Cx t) (λf=>(aW (f▸h))) λf=>?_)
  ·
   rw[f] at h
   refine bE (eg t 1==some .lt) (λg=>(aW (g▸h))) λg=>?_
   ·
    refine aG (eB (g▸h)) λk n j=>?_;exact eh j (UD t k l m f g n rfl)
theorem VW (h:three l=some x):l=[x.1,x.2.1,x.2.2]:=by
 induction l using cL with
 |nil=>exact aW h
 |cons a l=>induction l using cL with
  |nil=>exact aW h
  |cons b l=>induction l using cL with
   |nil=>exact aW h
   |cons c l=>induction l using cL with
    |nil=>refine eh (ab h) ?_;rfl
    |cons _ _=>exact aW h
theorem KY (h:Fl c=some i) Q (q:Q (.int i) J):du (aw P (n+2)) (.var 10) c Z J (λZ J=>aw P (n+2) Z J (.bi .round [.var 10]) Q):=by
 induction c using CV.casesOn with
 |int j=>exact af (ab h) q
 |bW x=>
  exact nH (rx h) λa m e b d=>(ww a m e b (d▸q))
 |_=>exact aW h
theorem Ad (h:qX i=some j):i=j/\i.natAbs<2^1000:=by
 unfold qX at h
 refine bE (decide (i.natAbs<1000000)) (λa=>?_) λa=>?_
 ·rw[a] at h;exact aW h
 ·
  rw[a] at h
  exact⟨ab h,av (of_decide_eq_true a) (ag (by decide:1000000<=2^20) (mF (by decide) (by decide)))⟩
theorem Cq: -(2^62)<(0:Int)/\(0:Int)<2^62:=by decide
theorem Xx: -(2^62)<(1:Int)/\(1:Int)<2^62:=by decide
theorem aed: -(2^62)<(2:Int)/\(2:Int)<2^62:=by decide
theorem Oe (N:Vq P) (O:Vg P) (R:Vp P) (S:Vf P) (r:e.natAbs<2^63) (T:g.natAbs<2^63) (h:qY u odd g e=some x) (q:Q (fU x) J):bX (wpS P PS 20) uP (U [some (.int u),some (.int odd),some (.int g),some (.int e)]) J (fG J Q):=by
 refine sA (λQ q=>(fg (.inr T) (.inr r) q)) (Br.of (f:=λo=>o=some x) h (λh=>?_) λh=>?_)
 ·obtain⟨t,k,d,n,B,C,D,rfl⟩:=AN h
  refine aG (a' d) λW e1 d=>aG (a' d) λl e2 d=>aG (a' d) λs e3 d=>?_
  induction j:x_ s 0 using cB with
  |true=>exact aW (j▸d)
  |false=>
  rw[j] at d
  refine cps λX E=>aG (a' d) λa w d=>aG (a' d) λb z d=>aG (eB d) λc A m=>aG (eB n) λy F e4=>?_
  obtain⟨G,e1⟩:=f' e1
  obtain⟨I,e2⟩:=f' e2
  refine fK (f' e3) λY e3=>?_
  clear d n h
  subst e1 e2 e3 e4
  refine nH (rx w) λZ ma ea da w=>nH (rx z) λsb mb eb db z=>nH (rx A) λH mc ec dc A=>?_
  obtain rfl:=congrArg (·.1) m
  obtain rfl:=congrArg (·.2.2) m
  obtain rfl:=congrArg (·.2.1) m
  exact E (sA (λQ q=>nJ (rs:=Kw u g e) (λQ q=>(iJ G I (.inr r) (.inl (eA _ _ rfl Y (O _ _ _ _ _ j (aP _ rfl q)))))) trivial rfl
   (iJ (λQ q=>⟨ahp,Z,ma,ea,da,w▸q⟩) (λQ q=>⟨ahp,sb,mb,eb,db,z▸q⟩) (λQ q=>⟨ahp,H,mc,ec,dc,A▸q⟩) trivial) pv q) (sA (λQ q=>⟨Cq,0,_,rfl,rfl,Xx,1,_,rfl,rfl,aed,2,_,rfl,rfl,R _ _ _ y _ _ F ⟨Cq,0,_,rfl,rfl,q⟩⟩) (sN (Dw (abN rfl rfl rfl rfl rfl rfl rfl rfl λa=>rfl) B C D r q))))
 ·obtain⟨t,k,d,n,B,C,D,rfl⟩:=AN h
  refine aG (a' d) λW e1 d=>aG (a' d) λs e2 d=>?_
  induction j:x_ s 0 using cB with
  |true=>exact aW (j▸d)
  |false=>
  rw[j] at d
  refine cps λX E=>aG (a' d) λi e3 d=>aG (a' d) λi' hi d=>aG (a' d) λv hv d=>aG (a' d) λl hl d=>aG (a' d) λp L d=>aG (a' d) λa w d=>aG (a' d) λb z d=>aG (eB d) λc A m=>aG (a' n) λx1 f1 n=>aG (a' n) λx2 f2 n=>aG (a' n) λx3 M n=>aG (eB n) λy F e4=>?_
  obtain⟨G,e1⟩:=f' e1
  obtain⟨I,e2⟩:=f' e2
  refine fK (f' f1) λy1 f1=>?_
  obtain⟨y2,f2⟩:=f' f2
  refine fK (f' M) λy3 M=>fK (Ad hi) λe5 bi=>fK (Ad hv) λe6 bv=>?_
  have e7:=VW L
  obtain rfl:=congrArg (·.1) m
  subst e1 e2 e4 e5 e6 e7 f1 f2 M
  obtain rfl:=congrArg (·.2.1) m
  obtain rfl:=congrArg (·.2.2) m
  exact E (sA (λQ q=>nJ (rs:=Kw u g e) (λQ q=>(abj G (.inr r) (.inr r) I (.inr r) (S _ _ _ i _ _ _ j e3 bi bv hl (aP _ rfl q)))) trivial rfl
   (iJ (KY w) (KY z) (KY A) trivial) pv q) (sA (λQ q=>⟨Cq,0,_,rfl,rfl,y1,Xx,1,_,rfl,rfl,y2,aed,2,_,rfl,rfl,y3,N _ _ _ y _ _ F ⟨Cq,0,_,rfl,rfl,q⟩⟩) (sN (Dw (abN rfl rfl rfl rfl rfl rfl rfl rfl λa=>rfl) B C D r q))))
end
noncomputable def UK (a:Int):List Int:=[(a.fdiv 1).fmod 2,(a.fdiv 2).fmod 2,(a.fdiv 4).fmod 48,(a.fdiv 192).fmod 32,(a.fdiv 6144).fmod 4,(a.fdiv 24576).fmod 4]
noncomputable def uX (a:Int):List (Int×Int):=[0,1,2,3].map λk:Nat=>((a.fdiv (27^k)).fmod 9,((a.fdiv (27^k)).fdiv 9).fmod 3)
noncomputable def nD:List Str:=["","\\(","\\)","\"(\"","\")\"","\\\"","\\\\","\"\\\")\""]
noncomputable def pieceAt (a:Int) (k:Nat):Str:=nD.getD ((a.fdiv (8^k)).fmod 8).toNat ""
noncomputable def agT (a:Int):List Str:=[pieceAt a 0,pieceAt a 1,pieceAt a 2,pieceAt a 3,pieceAt a 4,pieceAt a 5]
noncomputable def iC (l:List Int):List CV:=l.map .int
noncomputable def pC (l:List (Int×Int)):List CV:=l.map λp=> .tup [.int p.1,.int p.2]
noncomputable def LX (a b c d:Int):CV:= .tup [.lst (iC (UK a)),.lst (pC (uX b++uX c)),.lst (sC (agT d))]
theorem ajx {J:aZ} {l a:List CV} {K} (b:k=J.length) (d: -(2^62)<i/\i<2^62) {j} (e:jt i l.length=some j) {x} (f:l[j]?=some x) (g:0<=i) (h:l.set i.toNat c=a) (q:K (J++[.list a])):
  setC (J++[.list l]) (.own k) (.int i) c K:=by
 subst b
 show lK (J++[MO.list l])[J.length]? _
 exact af lD (⟨d,j,x,e,f,g,by show K ((J++[MO.list l]).set J.length (MO.list (l.set i.toNat c)));exact af xt (af h q)⟩)
section
variable {P:cZ} {PS:dZ} {J:aZ} {Q:EPost}
theorem Tg {Q} (g:∀Q:EPost,Q (.own J.length) (J++[.list l])->aw P n Z (J++[.list l]) o Q) (k:∀Q:EPost,Q (.int a) (J++[.list l])->aw P n Z (J++[.list l]) i Q)
 (c: -(2^62)<a/\a<2^62) (d:jt a l.length=some j) (f:l[j]?=some x) (m:∀Q:EPost,Q b (J++[.list l])->aw P n Z (J++[.list l]) e Q) (q:∀J Q,Q r->wU op (eC J x) (eC J b) Q) (s:0<=a) (t:l.set a.toNat r=u)
 (h:Q .next Z (J++[.list u])):wpS P PS (n+1) (.Vb o i op e) Z (J++[.list l]) Q:=g _ (k _ (af pN (⟨c,j,x,d,f,m _ (q _ _ (ajx rfl c d f s t h))⟩)))
noncomputable abbrev aeV (p:Nat×Int):CV:= .tup [.int p.1,.int p.2]
theorem ajP:(1000000:Int)≠0:=by decide
theorem i4:(4:Int)≠0:=by decide
theorem Py {K} (s:∀a b c d g k,K .next (U [some o,some (.own J.length),g,k]) (J++[.list (iC [a,b,c,d])])):∀(l:List (Nat×Int)) a b c d g k Z,Z=U [some o,some (.own J.length),g,k]->
  eO ke (iX P PS 19 (jc mj 1)) (l.map aeV) Z (J++[.list (iC [a,b,c,d])]) K:=by
 intro l
 induction l with
 |nil=>
  exact λa b c d g k Z e=>e▸⟨trivial,s ..⟩
 |cons n l m=>
  obtain⟨p,x⟩:=n
  intro a b c d g k Z e
  subst e
  have m:=λa b c d Z=>m a b c d (some (.int p)) (some (.int x)) Z
  refine fg trivial rfl ?_
  have t:(p:Int).fmod 4=0\/(p:Int).fmod 4=1\/(p:Int).fmod 4=2\/(p:Int).fmod 4=3:=by
   refine af (cy _ (by decide)) ?_;grind-abstractProof only
  have step:∀i j y r,(p:Int).fmod 4=i-> -2^62<i/\i<2^62->jt i 4=some j->(iC [a,b,c,d])[j]?=some (.int y)->0<=i->(iC [a,b,c,d]).set i.toNat (.int (y+x.fmod 1000000))=r->
    (∀f,f=U [some o,some (.own J.length),some (.int p),some (.int x)]->eO ke (iX P PS 19 (jc mj 1)) (l.map aeV) f (J++[.list r]) K)->bX (wpS P PS 19) (JK (jc mj 1)) (upd (upd (U [some o,some (.own J.length),g,k]) 2 (.int p)) 3 (.int x)) (J++[.list (iC [a,b,c,d])]) (yx (λZ J=>eO ke (iX P PS 19 (jc mj 1)) (l.map aeV) Z J K) K):=λi j y r e u v w z A h=>
   aK (Tg (λQ=>aA rfl) (λQ q=>⟨i4,e▸q⟩) u v w (λQ q=>⟨ajP,q⟩) (λa a q=>q) z A (mK (bY (h _ (JV rfl rfl rfl rfl rfl λa=>rfl)))))
  rcases t with e|e|e|e
  ·exact step 0 0 a _ e (by decide) rfl rfl (by decide) rfl λf=>m _ _ _ _ f
  ·exact step 1 1 b _ e (by decide) rfl rfl (by decide) rfl λf=>m _ _ _ _ f
  ·exact step 2 2 c _ e (by decide) rfl rfl (by decide) rfl λf=>m _ _ _ _ f
  ·exact step 3 3 d _ e (by decide) rfl rfl (by decide) rfl λf=>m _ _ _ _ f
theorem eU (h:aw P n Z J l (λa J=>aw P n Z J r (λb J=>acn op (eC J a) (eC J b) (λc=>Q c J)))):aw P (n+1) Z J (.bin op l r) Q:=h
theorem vN:2<=1000:=by decide
theorem ag7:6<=1000:=by decide
theorem Co:8<=1000:=by decide
theorem iG (h:aw P n Z J o (λa J=>aw P n Z J i (λb J=>Gj (eC J a) b (λc=>Q c J)))):aw P (n+1) Z J (.idx o i) Q:=h
theorem Oy (b:Z i=some (.own J.length)) (c: -(2^62)<a/\a<2^62) (d:jt a l.length=some j) (e:l[j]?=some x) (q:Q x (J++[.list l])):
 aw P (n+2) Z (J++[.list l]) (.idx (.var i) (.cst (.int a))) Q:=iG (aA b (bx (af pN ⟨c,j,x,d,e,q⟩)))
theorem ac1 l:((iC l).zipIdx.map λp=>(.tup [.int (p.2:Nat),p.1]:CV))=(l.zipIdx.map λp=>(p.2,p.1)).map aeV:=by
 rw[iC,List.zipIdx_map,fW,fW]
 rfl
theorem Wl l a b:ie (iC l) a b=iC (ie l a b):=by
 unfold ie iC
 rw[aC,List.map_take,List.map_drop]
theorem aaF (a:Z i=some (.own J.length)) (b:l.length<=fj) (q:Q (.lst (ie l (some c) (some v))) (J++[.list l])):
 aw P (n+2) Z (J++[.list l]) (.pu (.var i) (some (.cst (.int c))) (some (.cst (.int v)))) Q:=q_ (aA a (mO (bx (mO (bx (af pN (oW _ _ rfl rfl b q)))))))
theorem qj (h:gE (aw P n) (λZ=>gm (aw P n) Z n) (pE (aw P n) P) b a Z [] J (λc J=>Q (.lst c) J)):aw P (n+1) Z J (.comp b a) Q:=h
theorem adE:pX [.int 4]=some [.int 0,.int 1,.int 2,.int 3]:=rfl
theorem adD:pX [.int 6]=some [.int 0,.int 1,.int 2,.int 3,.int 4,.int 5]:=rfl
theorem j' {e1 e2} (h:aw P n Z J e1 (λa J=>aw P n Z J e2 (λb J=>2<=1000/\Q (.tup [a,b]) J))):aw P (n+1) Z J (.tup [e1,e2]) Q:=h
theorem uL {K} (h:aw P n Z J e (λc J=>∃l,sS J c=some l/\gD (uF J c) (λc a J Q=>du (aw P n) t c Z J (λZ J=>lI (T Z) d J (λb J=>Br b (gE (aw P n) T (pE (aw P n) P) f g Z a J Q) (Q a J)))) l a J K)):
 gE (aw P n) T (pE (aw P n) P) f (.mk t (.val e) d::g) Z a J K:=h
noncomputable def afU:ME:= .tup [(.bin .Mod (.bin .FloorDiv (.var 8) (.bin .Pow (.cst (.int (27))) (.var 9))) (.cst (.int (9)))),(.bin .Mod (.bin .FloorDiv (.bin .FloorDiv (.var 8) (.bin .Pow (.cst (.int (27))) (.var 9))) (.cst (.int (9)))) (.cst (.int (3))))]
theorem i9:((9:Int)≠0/\(9:Int).natAbs<1073741824):=by decide
theorem i3:(3:Int)≠0:=by decide
theorem AR (e:Z 8=some (.int b)) (a:0<=k/\(nA 27:Int)*k<=2^27) (c:(27:Int)^k.toNat≠0/\((27:Int)^k.toNat).natAbs<1073741824) Q (q:Q (.tup [.int ((b.fdiv (27^k.toNat)).fmod 9),.int (((b.fdiv (27^k.toNat)).fdiv 9).fmod 3)]) τ):
  du (aw P (n+6)) (.var 9) (.int k) Z τ (λZ J=>aw P (n+6) Z J afU Q):=by
 have d:∀{m} Q,Q (.int b) τ->aw P (m+1) (upd Z 9 (.int k)) τ (.var 8) Q:=λQ=>aA e
 exact cU (j' (eU (eU (d _ (iJ a c i9.1 (eU (eU (eU (d _ (abj a c i9 i3 vN q))))))))))
theorem GO {K} (c:a.length<=900) (q:K (a++pC (uX b)) τ):
 du (aw P (n+6)) (.var 8) (.int b) Z τ (λZ J=>lI (gm (aw P (n+6)) Z (n+6)) [] J (λr J=>Br r (gE (aw P (n+6)) (λZ=>gm (aw P (n+6)) Z (n+6)) (pE (aw P (n+6)) P) afU [(.mk (.var 9) (.range [(.cst (.int (4)))]) [])] Z a J K) (K a J))):=Br.t ⟨rfl,_,adE,Cr trivial rfl _ (pC (uX b)) a (OX (AR (k:=0) rfl (by decide) (by decide)) (AR (k:=1) rfl (by decide) (by decide)) (AR (k:=2) rfl (by decide) (by decide)) (AR (k:=3) rfl (by decide) (by decide)) trivial) (zT (zS c) (by decide)) q⟩
theorem Ay {e1 e2 e3} (h:aw P n Z J e1 (λa J=>aw P n Z J e2 (λb J=>aw P n Z J e3 (λc J=>3<=1000/\Q (.tup [a,b,c]) J)))):aw P (n+1) Z J (.tup [e1,e2,e3]) Q:=h
theorem WE (h:i=0\/i=1\/i=2\/i=3\/i=4\/i=5\/i=6\/i=7):(-(2^62)<i/\i<2^62)/\∃j c,jt i 8=some j/\(sC nD)[j]?=some c/\c= .str (nD.getD i.toNat ""):=by
 rcases h with rfl|rfl|rfl|rfl|rfl|rfl|rfl|rfl<;>exact⟨by decide,_,_,rfl,rfl,rfl⟩
theorem aip (x:Int):x.fmod 8=0\/x.fmod 8=1\/x.fmod 8=2\/x.fmod 8=3\/x.fmod 8=4\/x.fmod 8=5\/x.fmod 8=6\/x.fmod 8=7:=by
 rw[cy _ (by decide)];grind-abstractProof only
theorem i8:(8:Int)≠0:=by decide
theorem rA (b:Z 1=some (.own J.length)) (e:Z 6=some (.lst (sC nD))) (f:l[3]?=some (.int d)) (a:l.length=4) (g:0<=k/\(nA 8:Int)*k<=2^27) (h:(8:Int)^k.toNat≠0/\((8:Int)^k.toNat).natAbs<1073741824) Q (q:Q (.str (pieceAt d k.toNat)) (J++[.list l])):
  du (aw P (n+7)) (.var 8) (.int k) Z (J++[.list l]) (λZ J=>aw P (n+7) Z J (.idx (.var 6) (.bin .Mod (.bin .FloorDiv (.idx (.var 1) (.cst (.int (3)))) (.bin .Pow (.cst (.int (8))) (.var 8))) (.cst (.int (8))))) Q):=by
 refine cU (iG (aA e (eU (eU (Oy b (by decide) (a▸rfl) f (iJ g h i8 ?_))))))
 obtain⟨z,j,c,i,m,rfl⟩:=WE (aip (d.fdiv (8^k.toNat)))
 exact⟨z,j,_,i,m,q⟩
theorem Pw (g:Z=U [some o,some (.own J.length),h,i]) (q:Q (LX a b c d) J):bX (wpS P PS 20) (mj.drop 2) Z (J++[.list (iC [a,b,c,d])]) (fG J Q):=by
 subst g
 have e:∀f v:Int,f≠0->f.natAbs<1073741824->v≠0->∀Q:EPost,Q (.int ((a.fdiv f).fmod v)) (J++[.list (iC [a,b,c,d])])->du (aw P 18) (.tup [.var 8,.var 9]) (.tup [.int f,.int v]) (U [some o,some (.own J.length),h,i]) (J++[.list (iC [a,b,c,d])]) (λZ J=>aw P 18 Z J (.bin .Mod (.bin .FloorDiv (.idx (.var 1) (.cst (.int 0))) (.var 8)) (.var 9)) Q):=λf v j l m Q q=>
  ⟨rfl,eU (eU (Oy rfl Cq rfl rfl (fg ⟨j,l⟩ m q)))⟩
 exact sA (λQ q=>nJ (rs:=iC (UK a)) (λQ q=>⟨vN,vN,vN,vN,vN,vN,ag7,_,rfl,q⟩) trivial rfl
  (abi (e 1 2 (by decide) (by decide) (by decide)) (e 2 2 (by decide) (by decide) (by decide)) (e 4 48 (by decide) (by decide) (by decide)) (e 192 32 (by decide) (by decide) (by decide)) (e 6144 4 (by decide) (by decide) (by decide)) (e 24576 4 (by decide) (by decide) (by decide)) trivial) (by decide) q) (sA (λQ q=>qj (uL (aaF rfl (dK (by decide:4<=1000)) ⟨[.int b,.int c],rfl,trivial,GO (by decide) ⟨trivial,GO (by decide:4<=900) ⟨trivial,q⟩⟩⟩))) (sA (λQ q=>⟨Co,q⟩) (aK (jA (Ay (aA rfl (aA rfl (nJ (rs:=sC (agT d)) (λQ q=>⟨rfl,_,adD,q⟩) trivial rfl (abi (rA (k:=0) rfl rfl rfl rfl (by decide) (by decide)) (rA (k:=1) rfl rfl rfl rfl (by decide) (by decide)) (rA (k:=2) rfl rfl rfl rfl (by decide) (by decide)) (rA (k:=3) rfl rfl rfl rfl (by decide) (by decide)) (rA (k:=4) rfl rfl rfl rfl (by decide) (by decide)) (rA (k:=5) rfl rfl rfl rfl (by decide) (by decide)) trivial) ag7 ⟨pv,AM rfl q⟩))))))))
theorem Px (e:f.length<=1000) (q:∀a b c d,Q (LX a b c d) J):bX (wpS P PS 20) mj (U [some (.lst (iC f))]) J (fG J Q):=by
 refine⟨by decide,none,some 60,rfl,rfl,dK (by rw[iC,aC];exact e),_,rfl,?_⟩
 rw[Wl,ac1]
 exact Py (λa b c d g h=>Pw rfl (q a b c d)) _ _ _ _ _ none none _ (JV rfl rfl rfl rfl rfl λa=>rfl)
end
noncomputable abbrev Lt:=(Int×Int×Int)×Int
structure Bd (J:aZ) (b:Nat) (rows:List Nat) (B:List (List Lt)):Prop where
 hb:J[b]?=some (.list (rows.map CV.own))
 hl:rows.length=B.length
 hr:∀(i r:Nat) row,rows[i]?=some r->B[i]?=some row->J[r]?=some (.list (row.map fU))
 nd:∀(i j r:Nat),rows[i]?=some r->rows[j]?=some r->i=j
 nb:∀(i r:Nat),rows[i]?=some r->r≠b
theorem oI (h:J[k]?=some (.list l)):eC J (.own k)= .lst l:=by
 show(match J[k]? with|some (.list l)=>CV.lst l|some (.dict l)=> .gx l|_=> .own k)=_
 rw[h]
theorem jg {i n:Nat} (h:i<n):jt (i:Int) n=some i:=seqIndex_of (cQ i) (eH.mpr h)
section
variable {P:cZ} {PS:dZ} {J:aZ} {Q:EPost} {n:Nat} {Z:bk}
theorem ub (d:Bd J b rows B) {v i j r:Nat} {a} {x} {e f} (l:Z v=some (.own b)) (hr:rows[i]?=some r) (c:B[i]?=some a) (g:a[j]?=some x) (h:i<1000) (k:j<1000)
  (m:∀Q:EPost,Q (.int (i:Int)) J->aw P (n+1) Z J e Q) (o:∀Q:EPost,Q (.int (j:Int)) J->aw P (n+2) Z J f Q) (q:Q (fU x) J):aw P (n+3) Z J (.idx (.idx (.var v) e) f) Q:=by
 refine iG (iG (aA l (m _ (af (oI d.hb) ⟨by grind only,i,.own r,?_,dh.trans (hr▸rfl),o _ ?_⟩))))
 ·rw[aC];exact jg (aj.mp hr).1
 ·refine af (oI (d.hr i r a hr c)) ⟨by grind only,j,_,?_,dh.trans (g▸rfl),q⟩
  rw[aC];exact jg (aj.mp g).1
def afu (P:cZ) (n:Nat) (Z:bk) (J:aZ) (t:MT) (a:List ME) (b:ME):List CV->List (bk×Bool×CV)->Prop
 |[],[]=>True
 |c::cs,s::ss=>((∀Q:bk->aZ->Prop,Q s.1 J->du (aw P n) t c Z J Q)/\(∀Q:Bool->aZ->Prop,Q s.2.1 J->lI (gm (aw P n) s.1 n) a J Q)/\(s.2.1=true->∀Q:EPost,Q s.2.2 J->aw P n s.1 J b Q))/\afu P n Z J t a b cs ss
 |_,_=>False
noncomputable def kept:List (bk×Bool×CV)->List CV
 |[]=>[]
 |s::ss=>cond s.2.1 (s.2.2::kept ss) (kept ss)
theorem XA {K} (l:g J) items ss:
  ∀d,afu P n Z J t i j items ss->d.length+items.length<=1000->K (d++kept ss) J->
   gD g (λc d J Q=>du (aw P n) t c Z J (λZ J=>lI (gm (aw P n) Z n) i J (λb J=>Br b (gE (aw P n) (λZ=>gm (aw P n) Z n) I j [] Z d J Q) (Q d J)))) items d J K:=by
 induction items,ss using ll with
 |nn=>exact λd a a q=>⟨l,by rw[kept,bK] at q;exact q⟩
 |nc=>exact λd h a a=>ar h
 |cn=>exact λd h a a=>ar h
 |cc c cs s ss m=>
  intro d r e q
  rw[bS] at e
  obtain⟨⟨u,v,w⟩,o⟩:=r
  refine⟨l,u _ (v _ ?_)⟩
  change K (d++cond s.2.1 (s.2.2::kept ss) (kept ss)) J at q
  induction k:s.2.1 using cB with
  |true=>
   rw[k] at q
   refine Br.t (w k _ ⟨dK (zT zP e),m (d++[s.2.2]) o (by refine af ax (af b_ ?_);exact zI e) ?_⟩)
   rw[aM]
   exact q
  |false=>
   rw[k] at q
   exact Br.f (m d o (zT (bJ zP _) e) q)
theorem PN (d:∀Q:EPost,Q c J->aw P n Z J e Q) (f:sS J c=some items) (g:uF J c J)
  (h:afu P n Z J t a b items ss) (i:items.length<=1000) (q:Q (.lst (kept ss)) J):aw P (n+1) Z J (.comp b [.mk t (.val e) a]) Q:=
 qj (uL (d _ (aP items f (XA g items ss [] h (by rw[vL,dJ];exact i) q))))
noncomputable def aay (x y:Int×Int×Int):Int×Int×Int:=(x.1+y.1,x.2.1+y.2.1,x.2.2+y.2.2)
noncomputable def aax (odd:Bool) (m:Int×Int×Int):Option Int:=(cond odd ((iI m.1 128).bind λa=>(iI m.2.1 128).bind λb=>(iI m.2.2 128).bind λc=>(yv a b c).map λy=>cq y.1 (dn 1)) ((DD m.1 m.2.1 m.2.2).map λy=>y.1)).bind xZ
noncomputable def zb (odd:Bool) (b a:Int) (d c:Lt):Option Lt:=(aax odd (aay d.1 c.1)).bind λk=>qY (k+24) (cond odd 1 0) b a
end
section
variable {P:cZ} {PS:dZ} {J:aZ} {Q:EPost} {n:Nat} {Z:bk}
theorem jS (h:gm (aw P n) Z n J t (λr J=>Br r (aw P n Z J a Q) (aw P n Z J b Q))):aw P (n+1) Z J (.iD t a b) Q:=h
theorem dp {K} (h:aw P n Z J l (λa J=>aw P n Z J r (λb J=>wL op (eC J a) (eC J b) (λr=>K r J)))):gm (aw P n) Z (k+1) J (.cmp l [op] [r]) K:=h
theorem Br.id {K:Bool->Prop} (q:K b):Br b (K true) (K false):=by
 induction b using cB with
 |true=>exact Br.t q
 |false=>exact Br.f q
theorem ab2:sq 6 (.lst l) (.lst [])=true:=by
 induction l using cL<;>rfl
theorem acb:lN 6 (.lst l) (.lst [])=l.isEmpty:=by
 induction l using cL<;>rfl
noncomputable def others (a b c d:Lt):Bool:=!(b.2 !=a.2)&&(!(c.2 !=a.2)&&!(d.2 !=a.2))
noncomputable abbrev OY (Z:bk) (a:Lt):bk:=upd (upd Z 9 (.lst [.int a.1.1,.int a.1.2.1,.int a.1.2.2])) 10 (.int a.2)
noncomputable abbrev DC (Z:bk) (b a:Lt):bk×Bool×CV:=(OY Z a,a.2 !=b.2,.int a.2)
theorem ON:(kept [DC Z a a,DC Z a b,DC Z a c,DC Z a d]).isEmpty=others a b c d:=by
 show(cond (a.2 !=a.2) _ (cond (b.2 !=a.2) _ (cond (c.2 !=a.2) _ (cond (d.2 !=a.2) _ []))):List CV).isEmpty=(!b.2 !=a.2&&(!c.2 !=a.2&&!d.2 !=a.2))
 refine af ((by rw[bne_self_eq_false]:(a.2 !=a.2)=false)) ?_
 induction b.2 !=a.2 using cB<;>induction c.2 !=a.2 using cB<;>induction d.2 !=a.2 using cB<;>rfl
theorem YV {K} {c d e f:Lt} (g:Z 5=some (.lst [fU c,fU d,fU e,fU f])) (q:K (others c d e f) J):
  gm (aw P (n+8)) Z (n+8) J (.cmp (.comp (.var 10) [(.mk (.tup [(.var 9),(.var 10)]) (.val (.var 5)) [(.cmp (.var 10) [.NotEq] [(.idx (.idx (.var 5) (.cst (.int (0)))) (.cst (.int (1))))])])]) [.Eq] [(.lst [])]) K:=by
 have one:∀a:Lt,(∀Q:bk->aZ->Prop,Q (OY Z a) J->du (aw P (n+7)) (.tup [.var 9,.var 10]) (fU a) Z J Q)/\(∀Q:Bool->aZ->Prop,Q (a.2 !=c.2) J->lI (gm (aw P (n+7)) (OY Z a) (n+7)) [(.cmp (.var 10) [.NotEq] [(.idx (.idx (.var 5) (.cst (.int 0))) (.cst (.int 1)))])] J Q)/\((a.2 !=c.2)=true->∀Q:EPost,Q (.int a.2) J->aw P (n+7) (OY Z a) J (.var 10) Q):=λa=>
  ⟨λQ q=>⟨rfl,q⟩,λQ q=>(λQ q=>iG (iG (aA g (bx ⟨Cq,0,_,rfl,rfl,bx ⟨Xx,1,_,rfl,rfl,q⟩⟩))):∀Q:EPost,Q (.int c.2) J->aw P (n+7) (OY Z a) J (.idx (.idx (.var 5) (.cst (.int 0))) (.cst (.int 1))) Q) _ (Br.id (K:=λb=>Q b J) q),λa Q q=>q⟩
 exact dp (PN (ss:=[DC Z c c,DC Z c d,DC Z c e,DC Z c f]) (λQ=>aA g) rfl trivial (OX (one c) (one d) (one e) (one f) trivial) (by decide:4<=1000) (fg (dY _) ab2 (af acb (af ON q))))
abbrev rj (P:cZ):Prop:=∀c odd b a (x:Lt) J (Q:EPost),a.natAbs<2^63->b.natAbs<2^63->qY c odd b a=some x->Q (fU x) J->P.eK 310 [.int c,.int odd,.int b,.int a] [] J Q
noncomputable def abf:MS->List MS
 | .iff _ a _=>a
 |_=>[]
theorem adW {K} (h:aw P n Z J a (λc J=>aw P n Z J b (λe J=>∃l d,[c,e]=[.lst l,.lst d]/\K ((l.zip d).map λp=> .tup [p.1,p.2]) (λ_=>True) J))):pE (aw P n) P Z J (.zip a b) K:=h
theorem aaH (a:∀Q:EPost,Q (.lst (x::l)) J->aw P (n+1) Z J o Q) (b:l.length<1000) (q:Q x J):aw P (n+2) Z J (.idx o (.cst (.int 0))) Q:=
 iG (a _ (bx ⟨Cq,0,x,jg (gP _),rfl,q⟩))
theorem Ox (a:∀Q:EPost,Q (.tup (x::l)) J->aw P (n+1) Z J o Q) (q:Q x J):aw P (n+2) Z J (.idx o (.cst (.int 0))) Q:=
 iG (a _ (bx ⟨Cq,0,x,jg (gP _),rfl,q⟩))
noncomputable abbrev c3 (x:Int×Int×Int):CV:= .lst [.int x.1,.int x.2.1,.int x.2.2]
theorem ah8 {r j:Nat} {K} (h:J[r]?=some (.list l)) (a:j<l.length) (b:j<1000) (q:K (J.set r (.list (l.set j c)))):setC J (.own r) (.int (j:Int)) c K:=by
 show lK J[r]? _
 exact af h ⟨by lia,j,l[j],jg a,aF a,cQ j,q⟩
theorem fM {K} (h:gm (aw P n) Z n J t (λr J=>Br r (bX (wpS P PS n) a Z J K) (bX (wpS P PS n) b Z J K))):wpS P PS (n+1) (.iff t a b) Z J K:=h
theorem mod2 (x:Int):x.fmod 2=cond (x.fmod 2==1) 1 0:=by
 have:x.fmod 2=0\/x.fmod 2=1:=by rw[cy _ (by decide)];grind-abstractProof only
 rcases this with e|e<;>refine af e ?_<;>rfl
theorem nV (h:aw P n Z J e (λc J=>YQ b [eC J c] (λc=>Q c J))):aw P (n+1) Z J (.bi b [e]) Q:=h
theorem lU (h:qW (aw P n) Z args J (λcs J=>P.eK f cs [] J Q)):aw P (n+1) Z J (.eK f args) Q:=h
theorem mL {K} (h:aw P n Z J e (λc J=>qW (aw P n) Z es J (λcs J=>K (c::cs) J))):qW (aw P n) Z (e::es) J K:=h
theorem jh {K} (h:K [] J):qW (aw P n) Z [] J K:=h
theorem agM (b:Z v=some (.bW t)) (a:xZ t=some k) (q:Q (.int k) J):aw P (n+3) Z J (.bi .round [.bin .Mult (.var v) (.cst (.int 48))]) Q:=by
 refine nH (rx a) λc m e d a=>?_
 subst a
 exact nV (eU (aA b ⟨aiI,c,m,e,d,q⟩))
theorem i2:(2:Int)≠0:=by decide
theorem ajQ:(1:Int).natAbs<2^1000:=by decide+kernel
theorem EA {K} (h:aw P n Z J o (λa J=>aw P n Z J e (λb J=>setC J a b c (λJ=>K Z J)))):du (aw P n) (.sub o e) c Z J K:=h
theorem SD {i j r:Nat} {K} (L:rj P) (M:Vq P) (N:Vp P) (z:Bd J b rows B) (hr:rows[i]?=some r) (g:B[i]?=some h) (H:h[j]?=some x) (O:i<1000) (I:j<1000) (A:R.length<900)
  (S:a.natAbs<2^63) (T:d.natAbs<2^63) (W:zb (((i:Int)+j).fmod 2==1) d a x l=some y) (q:∀Z,k' Z (J.set r (.list ((h.set j y).map fU)))):
  bX (wpS P PS 18) (abf (jc tV 1)) (upd (U [some (.own b),some (.int i),some (.int j),some (.int d),some (.int a)]) 5 (.lst (fU l::R))) J (vY k' K):=by
 refine aG (a' W) λk C X=>aG (a' C) λt e C=>?_
 have s:∀{m} {Z} Q,Z 0=some (.own b)->Z 1=some (.int i)->Z 2=some (.int j)->Q (fU x) J->aw P (m+3) Z J (.idx (.idx (.var 0) (.var 1)) (.var 2)) Q:=λQ D v w q=>
  ub z D hr g H O I (λQ=>aA v) (λQ=>aA w) q
 refine sA (c:=c3 (aay x.1 l.1)) (λQ q=>nJ (rs:=[.int (x.1.1+l.1.1),.int (x.1.2.1+l.1.2.1),.int (x.1.2.2+l.1.2.2)]) (λQ q=>adW (Ox (x:=c3 x.1) (λQ=>s Q rfl rfl rfl) (Ox (λQ q=>aaH (λQ=>aA rfl) (zA A (by decide)) q) (fX _ _ rfl q)))) trivial rfl
  (iJ (λQ q=>⟨rfl,q⟩) (λQ q=>⟨rfl,q⟩) (λQ q=>⟨rfl,q⟩) trivial) pv q) ?_
 have u:∀{Z},Z 0=some (.own b)->Z 1=some (.int i)->Z 2=some (.int j)->Z 3=some (.int d)->Z 4=some (.int a)->Z 7=some (.bW t)->bX (wpS P PS 18) ((abf (jc tV 1)).drop 2) Z J (vY k' K):=λ{Z} D v w Y h4 h7=>by
  refine aK (gK (lU (mL ((λQ q=>eU (agM h7 C q):∀Q:EPost,Q (.int (k+24)) J->aw P 16 Z J (.bin .Add (.bi .round [.bin .Mult (.var 7) (.cst (.int 48))]) (.cst (.int 24))) Q) _ (mL ((λQ q=>eU (eU (aA v (aA w ⟨i2,q⟩))):∀Q:EPost,Q (.int (((i:Int)+j).fmod 2)) J->aw P 16 Z J (.bin .Mod (.bin .Add (.var 1) (.var 2)) (.cst (.int 2))) Q) _ (mL (aA Y (mL (aA h4 (jh ?_)))))))))))
  rw[mod2]
  refine L _ _ _ _ y _ _ S T X (EA (iG (aA D (aA v (af (oI z.hb) ⟨by grind only,i,.own r,?_,dh.trans (hr▸rfl),aA w (ah8 (z.hr i r h hr g) (by rw[aC];exact(aj.mp H).1) I (mK (bY ?_)))⟩)))))
  ·rw[aC];exact jg (aj.mp hr).1
  ·exact eh rr (q _)
 refine aK (fM ⟨i2,Br.of (f:=λo=>o=some t) e (λe=>?_) λe=>(aG (eB e) λE F e4=>sA (λQ q=>⟨Cq,0,_,rfl,rfl,Xx,1,_,rfl,rfl,aed,2,_,rfl,rfl,N _ _ _ E _ _ F ⟨Cq,0,_,rfl,rfl,af e4 q⟩⟩) (sN (u rfl rfl rfl rfl rfl rfl)))⟩)
 ·refine cps λK_ k_=>aG (a' e) λx1 f1 e=>aG (a' e) λx2 f2 e=>aG (a' e) λx3 G e=>aG (eB e) λE F e4=>?_
  obtain⟨y1,f1⟩:=f' f1
  obtain⟨y2,f2⟩:=f' f2
  obtain⟨y3,G⟩:=f' G
  subst f1 f2 G
  exact k_ (sA (λQ q=>⟨Cq,0,_,rfl,rfl,y1,Xx,1,_,rfl,rfl,y2,aed,2,_,rfl,rfl,y3,M _ _ _ E _ _ F ⟨Cq,0,_,rfl,rfl,ajQ,e4▸q⟩⟩) (sN (u rfl rfl rfl rfl rfl rfl)))
theorem Yu (q:Q .none J):fG J Q .next (λ_=>none) J:=(oW .none .none rfl rfl (.inl kj) (kj▸q))
theorem Gz (a:J.all (hM J.length)=true) (b:hM J.length m=true) (q:Q .none (J.set r m)):fG J Q .next (λ_=>none) (J.set r m):=by
 have e:(J.set r m).take J.length=J.set r m:=gQ (af bH (ai _))
 refine(oW .none .none rfl rfl (.inr (af e (aV.mpr λx c=>?_))) (af e q))
 clear e q;rcases js c with h|rfl
 ·exact aV.mp a x h
 ·exact b
theorem OC:∀(l:List Lt),pz k (l.map fU)=true:=by
 intro l
 induction l with
 |nil=>
  exact rfl
 |cons a l b=>
  exact b
theorem FQ {e1 e2 e3 e4} (e:∀Q:EPost,Q a J->aw P n Z J e1 Q) (f:∀Q:EPost,Q b J->aw P n Z J e2 Q) (g:∀Q:EPost,Q c J->aw P n Z J e3 Q) (h:∀Q:EPost,Q d J->aw P n Z J e4 Q) (q:Q (.lst [a,b,c,d]) J):aw P (n+1) Z J (.lst [e1,e2,e3,e4]) Q:=
 mL (K:=λcs J=>cs.length<=1000/\Q (.lst cs) J) (e _ (mL (f _ (mL (g _ (mL (h _ (jh ⟨(by decide:4<=1000),q⟩))))))))
theorem SE (M:rj P) (N:Vq P) (O:Vp P) (t:Bd J b rows B) (D:rows[i+1]?=some r) (c:B[i+1]?=some f) (R:f[j+1]?=some x) (u:i<900) (w:j<900)
  {S T} (E:rows[i]?=some S) (o:B[i]?=some z) (F:rows[i+2]?=some T) (s:B[i+2]?=some A) (W:z[j+1]?=some G) (X:f[j]?=some H) (Y:f[j+2]?=some I) (h3:A[j+1]?=some L)
  (hs:a.natAbs<2^63) (hw:d.natAbs<2^63) (C:J.all (hM J.length)=true)
  (hA:others G H I L=true->∃y,zb ((((i+1:Nat):Int)+(j+1:Nat)).fmod 2==1) d a x G=some y/\Q .none (J.set r (.list ((f.set (j+1) y).map fU))))
  (hN:others G H I L=false->Q .none J):
  bX (wpS P PS 19) tV (U [some (.own b),some (.int (i+1:Nat)),some (.int (j+1:Nat)),some (.int d),some (.int a)]) J (fG J Q):=by
 have g:∀{m v k:Nat} {Z},Z v=some (.int (k+1:Nat))->∀Q:EPost,Q (.int k) J->aw P (m+2) Z J (.bin .Sub (.var v) (.cst (.int 1))) Q:=λ{m v k Z} h Q q=>eU (aA h (by
  show Q (.int ((k+1:Int)-1)) J
  exact af (fQ ..) q))
 have l:∀{m v k} {Z},Z v=some (.int (k+1:Nat))->∀Q:EPost,Q (.int (k+2:Nat)) J->aw P (m+2) Z J (.bin .Add (.var v) (.cst (.int 1))) Q:=λh Q q=>eU (aA h q)
 refine sA (λQ q=>FQ
  (λQ q=>ub t rfl E o W (zA u (by decide)) (zB w (by decide)) (g rfl) (λQ q=>aA rfl q) q) (λQ q=>ub t rfl D c X (zB u (by decide)) (zA w (by decide)) (λQ q=>aA rfl q) (g rfl) q)
  (λQ q=>ub t rfl D c Y (zB u (by decide)) (zB (dF w) (by decide)) (λQ q=>aA rfl q) (l rfl) q) (λQ q=>ub t rfl F s h3 (zB (dF u) (by decide)) (zB w (by decide)) (l rfl) (λQ q=>aA rfl q) q) q) (aK (fM (YV rfl (Br.mk (λe=>(aG (hA e) λy hy q=>SD M N O t D c R (zB u (by decide)) (zB w (by decide)) (by decide:3<900) hs hw hy λZ=>Gz C (OC _) q)) λe=>?_))))
 ·exact bY (Yu (hN e))
end
noncomputable def UY (w:bD) (i:Nat):Option Str:=(w.cps[i]?).map λc=>⟨#[c]⟩
noncomputable def UB (s:bD):Bool:=s.length>0&&s.cps.all Ek
noncomputable def KX (c:List (bD×bD)):Nat->bD->bD->Option bD
 |0,_,a=>some a
 |k+1,b,a=>(c.lookup a).bind λw=>(UY w 0).bind λp=>(UY w 1).bind λq=>
  cond (UB (cond (p==b) q p)) (some (cond (p==b) q p)) (KX c k a (cond (p==b) q p))
noncomputable def tM (a:Bool) (v:bD):Str:=cond a (iW v (some (-3)) (some (-1))) (iW v none (some 2))
noncomputable def kE (a:Bool) (b:List (bD×bD)):List (bD×bD):=b.map λp=>(p.1,tM a p.2)
noncomputable def yq (k:Nat):Str:=aa (toString (k:Int))
noncomputable def Ug (a:List (bD×bD)) (b:bD):Option Str:=((a.filter λp=>jN b p.2).head?).map (·.1)
noncomputable def UR (s:bD):Option Nat:=cond (decide (s.length<=640)) ((w' s).bind λi=>cond (decide (0<=i/\i<1000)) (some i.toNat) none) none
noncomputable def KU (b:List (bD×bD)) (a:Nat):List Nat->List bD->Option (List bD)
 |[],c=>some c
 |k::d,c=>(c[k]?).bind λx=>cond (x=="") ((Ug b (yq k)).bind λs=>(KX b a (yq k) s).bind λl=>(UR l).bind λe=>(c[e]?).bind λ_=>KU b a d ((c.set k "(").set e ")")) (KU b a d c)
noncomputable def lY (a:List (bD×bD)):CV:= .gx (a.map λp=>(p.1,.str p.2))
section
variable {P:cZ} {PS:dZ} {J:aZ} {Q:EPost} {n:Nat} {Z:bk}
theorem KG {a:List (bD×bD)}:(a.map λp=>(p.1,CV.str p.2)).lookup x=(a.lookup x).map CV.str:=by
 induction a with
 |nil=>rfl
 |cons p l b=>
  obtain⟨k,v⟩:=p
  refine af gC (af cg (af cg ?_))
  induction x==k using cB with
  |true=>rfl
  |false=>exact b
theorem Kv (h:(kE a b).lookup x=some w):∃v,b.lookup x=some v/\tM a v=w:=by
 induction b with
 |nil=>exact aW h
 |cons p l d=>
  obtain⟨k,v⟩:=p
  have h:tq x ((k,tM a v)::kE a l)=some w:=h
  rw[cg] at h
  refine af cg ?_
  induction c:x==k using cB with
  |true=>rw[c] at h;exact(aP v rfl (ab h))
  |false=>rw[c] at h;exact d h
theorem TU (c:Z 0=some (lY b)) (e:Z 2=some (.int d)) (g:(d==1)=a) (h:Z v=some (.str x)) (i:b.lookup x=some val) (j:val.length<=1000) (q:Q (.str (tM a val)) J):
  aw P (n+9) Z J (.iD (.cmp (.var 2) [.Eq] [(.cst (.int (1)))]) (.pu (.idx (.var 0) (.var v)) (some (.neg (.cst (.int (3))))) (some (.neg (.cst (.int (1)))))) (.pu (.idx (.var 0) (.var v)) none (some (.cst (.int (2)))))) Q:=by
 have k:∀{m} Q,Q (.str val) J->aw P (m+2) Z J (.idx (.var 0) (.var v)) Q:=λQ q=>iG (aA c (aA h (aP _ (by refine af KG (af i ?_);rfl) q)))
 refine jS (dp (aA e (bx ?_)))
 show Br (d==1) _ _
 refine af g ?_
 clear i h g e c;induction a using cB with
 |true=>exact Br.t (q_ (k _ (oW _ _ rfl rfl (dK j) q)))
 |false=>exact Br.f (q_ (k _ (oW _ _ rfl rfl (dK j) q)))
theorem Pn (a:l.length=9) (b:Z 0=U l 0) (c:Z 1=U l 1) (d:Z 2=U l 2) (e:Z 3=U l 3) (f:Z 4=U l 4) (g:Z 5=U l 5) (j:Z 6=U l 6) (k:Z 7=U l 7) (m:Z 8=U l 8) (h:∀i,Z (i+9)=none):Z=U l:=by
 funext i
 match i with
 |0=>exact b
 |1=>exact c
 |2=>exact d
 |3=>exact e
 |4=>exact f
 |5=>exact g
 |6=>exact j
 |7=>exact k
 |8=>exact m
 |i+9=>exact h i▸(by rw[U,eN (zT (zE a) zQ)];rfl)
theorem SU (h:UY w i=some p):∃c,w.cps[i]?=some c/\(⟨#[c]⟩:bD)=p:=eB h
theorem SR (d:Z v=some (.str w)) (e:i<1000) (h:UY w i=some p) (q:Q (.str p) J):aw P (n+2) Z J (.idx (.var v) (.cst (.int i))) Q:=by
 refine aG (SU h) λc b a=>?_;subst a
 exact iG (aA d (bx ⟨ahf e,i,c,jg (mP.mp b).1,b,q⟩))
noncomputable def aim (st:MS) (i:Nat):MS:=jc (JK st) i
noncomputable def KW:MS:=jc (abf (jc (JK (jc wo 1)) 0)) 2
theorem adV {K} (h:K .brk Z J):wpS P PS (n+1) .brk Z J K:=h
theorem aaA {K} (d:Z v=some (.str x)) (h:wm m x [] (λc=>nU (eC J c) (λb=>K b J))):gm (aw P (n+2)) Z (k+1) J (.kB m (.var v) []) K:=lB (λQ=>aA d) (λa q=>q) h
theorem ip {K} (h:du (aw P n) c a Z J (λZ J=>du (aw P n) d b Z J K)):du (aw P n) (.tup [c,d]) (.tup [a,b]) Z J K:=⟨rfl,h⟩
theorem Rq {K} (L:(d==1)=k) (M:∀x v,j.lookup x=some v->v.length<=1000) (B:∀N s u,K .next (U [some (lY j),some (.int cJ),some (.int d),C,D,N,some (.str r),s,u]) J):
  ∀items g b s u Z,Z=U [some (lY j),some (.int cJ),some (.int d),C,D,some (.str g),some (.str b),s,u]->KX (kE k j) items.length g b=some r->
   eO ke (iX P PS 19 KW) items Z J K:=by
 intro items
 induction items with
 |nil=>
  intro g b s u Z e h
  have h:=ab h;subst h;subst e;exact⟨trivial,B _ _ _⟩
 |cons c items O=>
  intro g b s u Z e h
  subst e
  refine cps λT R=>aG (a' h) λw E F=>aG (a' F) λp G H=>aG (a' H) λq S z=>?_
  clear h F H
  refine aG (Kv E) λv I A=>?_;clear E;subst A
  refine R ⟨trivial,(cU (sA (λQ q=>TU rfl rfl L rfl I (M _ _ I) q) (aK (gK (j' (aA rfl (jS (dp (SR rfl (by decide) G (aA rfl ?_))))))))))⟩
  have l:∀m:bD,cond (UB m) (some m) (KX (kE k j) items.length b m)=some r->∀Z:bk,Z=U [some (lY j),some (.int cJ),some (.int d),C,D,some (.str b),some (.str m),some c,some (.str (tM k v))]->
    bX (wpS P PS 19) [aim KW 2] Z J (yx (λZ J=>eO ke (iX P PS 19 KW) items Z J K) K):=λm h Z e=>by
   subst e
   refine aK (fM (aaA rfl (Br.of (f:=λo=>o=some r) h (λh=>?_) λh=>(bY (mK (bY (O b m _ _ _ rfl h)))))))
   ·cases h
    exact aK (adV (B _ _ _))
  show Br (p==g) _ _
  induction y:p==g using cB with
  |true=>
   rw[y] at z
   exact Br.t (SR rfl (by decide) S ⟨vN,ip (cU (cU (mK (l q z _ (Pn rfl rfl rfl rfl rfl rfl rfl rfl rfl rfl λa=>rfl)))))⟩)
  |false=>
   rw[y] at z
   exact Br.f (SR (i:=0) rfl (by decide) G ⟨vN,ip (cU (cU (mK (l p z _ (Pn rfl rfl rfl rfl rfl rfl rfl rfl rfl rfl λa=>rfl)))))⟩)
theorem zc (h:UR s=some e):s.length<=640/\w' s=some (e:Int)/\e<1000:=by
 unfold UR at h
 refine bE (decide (s.length<=640)) (λa=>?_) λa=>?_
 ·rw[a] at h;exact aW h
 ·
  rw[a] at h
  refine aG (a' h) λi c h=>bE (decide (0<=i/\i<1000)) (λb=>?_) λb=>?_
  ·rw[b] at h;exact aW h
  ·
   rw[b] at h
   refine eh (ab h) ?_
   have:=of_decide_eq_true b
   exact(fg (of_decide_eq_true a) (by rw[c,yi this.1]) (by lia))
theorem afA {l:List CV} {K} (b:k<l.length) (a:k<1000) (q:K (J++[.list (l.set k c)])):setC (J++[.list l]) (.own J.length) (.int (k:Int)) c K:=by
 show lK (J++[MO.list l])[J.length]? _
 exact af lD (⟨ahf a,k,l[k],jg b,aF b,cQ k,by
  show K ((J++[MO.list l]).set J.length (MO.list (l.set k c)))
  exact af xt q⟩)
theorem Rx (m:Nat):pX [.int (m:Int)]=some ((bc m).map λk=> .int (k:Nat)):=by
 refine congrArg some (qU λk a=>?_)
 rw[MP]
theorem La {m:Nat} (h:m<1000):tU [.int (m:Int)]=true:=by
 show(decide (-1000000<(m:Int))&&decide ((m:Int)<1000000))&&true=true
 rw[decide_eq_true (by grind-abstractProof only),decide_eq_true (by lia)];rfl
theorem RZ {f:bD×bD->bk}:kept (c.map λp=>(f p,jN b (tM a p.2),CV.str p.1))=((kE a c).filter λp=>jN b p.2).map λp=>CV.str p.1:=by
 induction c with
 |nil=>rfl
 |cons p l d=>
  show cond (jN b (tM a p.2)) (CV.str p.1::kept _) (kept _)=(List.filter (λp=>jN b p.2) ((p.1,tM a p.2)::kE a l)).map _
  refine af Dh ?_
  induction jN b (tM a p.2) using cB with
  |true=>exact congrArg (CV.str p.1:: ·) d
  |false=>exact d
theorem Wg (r:Z 0=some (lY c)) (u:Z 2=some (.int d)) (w:Z 5=some (.str e)) (y:(d==1)=f) (j:∀p∈c,c.lookup p.1=some p.2) (z:∀x v,c.lookup x=some v->v.length<=1000) (A:c.length<=1000)
  (h:Ug (kE f c) e=some s) (q:Q (.str s) J):aw P (n+14) Z J (.idx (.comp (.var 10) [(.mk (.var 10) (.val (.var 0)) [(.cmp (.var 5) [.In] [(.iD (.cmp (.var 2) [.Eq] [(.cst (.int (1)))]) (.pu (.idx (.var 0) (.var 10)) (some (.neg (.cst (.int (3))))) (some (.neg (.cst (.int (1)))))) (.pu (.idx (.var 0) (.var 10)) none (some (.cst (.int (2))))))])])]) (.cst (.int (0)))) Q:=by
 refine aG (eB h) λp g k=>?_;clear h;subst k
 obtain⟨l,m⟩:∃l,(kE f c).filter (λp=>jN e p.2)=p::l:=by
  induction t:(kE f c).filter λp=>jN e p.2 using cL with
  |nil=>exact aW (t▸g)
  |cons a l=>rw[t] at g;exact af (ab g) ⟨l,rfl⟩
 have o:∀l:List (bD×bD),(∀p∈l,c.lookup p.1=some p.2)->afu P (n+12) Z J (.var 10) [(.cmp (.var 5) [.In] [(.iD (.cmp (.var 2) [.Eq] [(.cst (.int 1))]) (.pu (.idx (.var 0) (.var 10)) (some (.neg (.cst (.int 3)))) (some (.neg (.cst (.int 1))))) (.pu (.idx (.var 0) (.var 10)) none (some (.cst (.int 2)))))])] (.var 10) (l.map λp=> .str p.1) (l.map λp=>(upd Z 10 (.str p.1),jN e (tM f p.2),CV.str p.1)):=by
  intro l
  induction l with
  |nil=>exact λa=>trivial
  |cons p l B=>
   refine λj=>⟨⟨λQ q=>cU q,λQ q=>?_,λa Q=>aA rfl⟩,B λp g=>j p (aB _ g)⟩
   have i:=j p az
   have e5:upd Z 10 (.str p.1) 5=some (.str e):=w
   exact dp (aA e5 (TU r u y rfl i (z _ _ i) (Br.id (K:=λb=>Q b J) q)))
 refine iG (PN (λQ=>aA r) ?_ trivial (o c j) (by rw[aC];exact A) (af RZ (af m (bx ⟨Cq,0,_,jg (gP _),rfl,q⟩))))
 ·show some ((c.map λp=>(p.1,CV.str p.2)).map λp=>CV.str p.1)=_
  refine af fW ?_;rfl
end
section
variable {P:cZ} {PS:dZ} {J:aZ} {Q:EPost} {n:Nat} {Z:bk}
theorem Um:(sC a).set k (.str x)=sC (a.set k x):=by
 rw[<-rr]
theorem adq (a:Z v=some (.int (k:Nat))) (b:k<1000) (q:Q (.str (yq k)) J):aw P (n+2) Z J (.bi .str [.var v]) Q:=
 nV (aA a ⟨av b (ag (by decide:1000<=2^10) (mF (by decide) (by decide))),q⟩)
theorem mi {K} (b:∀Q:EPost,Q (.int (m:Nat)) J->aw P n Z J e Q) (c:m<1000) (h:K ((bc m).map λk=> .int (k:Nat)) (λ_=>True) J):pE (aw P n) P Z J (.range [e]) K:=
 mL (K:=λcs J=>tU cs=true/\∃l,pX cs=some l/\K l (λa=>True) J) (b _ (jh ⟨La c,_,Rx m,h⟩))
theorem lS {K} (h:pE (aw P n) P Z J it (λitems g J=>eO g (λc Z J Q=>du (aw P n) t c Z J (λZ J=>bX (wpS P PS n) body Z J Q)) items Z J K)):wpS P PS (n+1) (.kZ t it body) Z J K:=h
theorem FP (c:Z v=some (.int (a:Nat))) (d:Z w=some (.int (b:Nat))) (e:a<1000) (q:Q (.int ((a*b:Nat):Int)) J):aw P (n+2) Z J (.bin .Mult (.var v) (.var w)) Q:=
 eU (aA c (aA d ⟨.inl (av e (by decide)),q⟩))
theorem aaL (b:Z v=some (.int (a:Nat))) (q:Q (.int ((2*a:Nat):Int)) J):aw P (n+2) Z J (.bin .Mult (.cst (.int 2)) (.var v)) Q:=
 eU (bx (aA b ⟨.inl (by decide),q⟩))
theorem aeu (a:Z v=some (.str s)) (h:UR s=some e) (q:Q (.int (e:Nat)) J):aw P (n+2) Z J (.bi .int [.var v]) Q:=
 nV (aA a ⟨(zc h).1,e,(zc h).2.1,q⟩)
theorem Ww {K} {X:List bD->Prop} (M:(d==1)=w) (g:cJ<30) (R:∀p∈c,c.lookup p.1=some p.2) (N:∀x v,c.lookup x=some v->v.length<=1000) (S:c.length<=1000)
  (T:∀b r m o i j,X b->K .next (U [some (lY c),some (.int (cJ:Nat)),some (.int d),some (.own J.length),r,m,o,i,j]) (J++[.list (sC b)])):
  ∀u b r m o i j Z res,Z=U [some (lY c),some (.int (cJ:Nat)),some (.int d),some (.own J.length),r,m,o,i,j]->(∀k∈u,k<1000)->KU (kE w c) (cJ*cJ) u b=some res->X res->
   eO ke (iX P PS 21 (jc wo 1)) (u.map λk=> .int (k:Nat)) Z (J++[.list (sC b)]) K:=by
 intro u
 induction u with
 |nil=>
  refine λb r m o i j Z res e z_ h G=>af (ab h) ?_;subst e;exact⟨trivial,T _ _ _ _ _ _ G⟩
 |cons k u D=>
  intro b r m o i j Z res e z h G
  subst e
  have E:=z k az
  have D:=λb r m o i j Z e h=>D b r m o i j Z res e (λk E=>z k (aB _ E)) h G
  refine aG (a' h) λx A F=>?_
  have B:=(aj.mp A).1
  refine⟨trivial,cU ?_⟩
  have e3:∀Q Z,Z 3=some (.own J.length)->Z 4=some (.int k)->Q (.str x) (J++[.list (sC b)])->aw P 20 Z (J++[.list (sC b)]) (.idx (.var 3) (.var 4)) Q:=λQ Z H I q=>iG (aA H (aA I (af pN (⟨by grind-abstractProof only,k,_,jg (by rw[aC];exact B),dh.trans (A▸rfl),q⟩))))
  refine aK (fM (dp (e3 _ _ rfl rfl (bx ?_))))
  show Br (x=="") _ _
  induction C:x=="" using cB with
  |false=>
   rw[C] at F
   exact Br.f (bY (mK (bY (D b (some (.int k)) m o i j _ (Pn rfl rfl rfl rfl rfl rfl rfl rfl rfl rfl λa=>rfl) F))))
  |true=>
   rw[C] at F
   refine aG (a' F) λs W Y=>aG (a' Y) λl L H=>aG (a' H) λe O I=>aG (a' I) λy hy h5=>Br.t (sA (λQ=>adq rfl E) (sA (λQ=>Wg rfl rfl rfl M R N S W) (aK (lS (mi (λQ=>FP rfl rfl (zA g (by decide))) (bP (eS (eF g) (eF g)) (by decide)) (Rq M N (λw5 w7 w8=>aK (gK (j' (bx (bx ⟨vN,(ip (EA (aA rfl (aA rfl (afA (by rw[aC];exact B) E (EA (aA rfl (aeu rfl O (afA ?_ (zc O).2.2 ?_)))))))))⟩))))) ((bc (cJ*cJ)).map λk=> .int (k:Nat)) (yq k) s i j _ (Pn rfl rfl rfl rfl rfl rfl rfl rfl rfl rfl λa=>rfl) (by rw[aC,jL];exact L)))))))
   ·rw[bH,aC];exact(aj.mp hy).1
   ·exact af Um (af Um (mK (bY (mK (bY (D _ _ _ _ _ _ _ rfl h5))))))
noncomputable def ym (a:List (bD×bD)) (cJ:Nat):Option (List bD):=KU a (cJ*cJ) (bc (2*cJ)) (iz (2*cJ) "")
theorem adX (a:∀Q:EPost,Q c J->aw P n Z J x Q) (b:∀Q:EPost,Q (.int (k:Nat)) J->aw P n Z J i Q) (d:k<=1000) (q:Q (.lst (iz k c)) J):aw P (n+1) Z J (.rep x i) Q:=
 a _ (b _ ⟨⟨cQ k,rt.mpr d⟩,q⟩)
theorem Az (h:aw P n Z J e (λc J=>Ur c J Q)):aw P (n+1) Z J (.new e) Q:=h
theorem Xw (b:Z v=some (.own J.length)) (c:dT (l.toArray.foldl (· + ·.length+0) 0)=false) (q:Q (.str (lM "" l)) (J++[.list (sC l)])):aw P (n+2) Z (J++[.list (sC l)]) (.kB .join (.cst (.str (aa ""))) [.var v]) Q:=
 lB (λa=>bx) (λa q=>mL (aA b (jh q))) (af gC (af pN ((eJ l (tP l) c q))))
theorem ZW {Q} (b:∀Q:EPost,Q c τ->aw P n Z J e Q) (h:bX (wpS P PS (n+1)) a (upd Z i c) τ Q):bX (wpS P PS (n+1)) (.asg (.var i) e::a) Z J Q:=b _ h
theorem Wv (f:(d==1)=e) (c:cJ<30) (g:∀p∈b,b.lookup p.1=some p.2) (i:∀x v,b.lookup x=some v->v.length<=1000) (j:b.length<=1000)
  (h:ym (kE e b) cJ=some res) (l:dT (res.toArray.foldl (· + ·.length+0) 0)=false) (q:Q (.str (lM "" res)) J):bX (wpS P PS 22) wo (U [some (lY b),some (.int (cJ:Nat)),some (.int d)]) J (fG J Q):=by
 refine ZW (λQ q=>Az (adX (λa=>bx) (λa=>aaL rfl) (by lia) q)) (af (show iz (2*cJ) (CV.str (aa ""))=sC (iz (2*cJ) "") by rw[sC,List.map_replicate]) (aK (lS (mi (λa=>aaL rfl) (by lia) (Ww f c g i j (λm s t u w y o=>?_) (bc (2*cJ)) _ none none none none none _ res (Pn rfl rfl rfl rfl rfl rfl rfl rfl rfl rfl λa=>rfl) λk r=>by have:=mJ.mp r;grind-abstractProof only h rfl)))))
 subst o
 exact mK (aK (jA (Xw rfl l (AM rfl q))))
end
noncomputable def cA (k:Nat):Str:=⟨#[k]⟩
noncomputable def Zo (s i j:Nat):Str:=cond (decide (0<i)) (cA (97+(i*s+j)-s)) (yq (j/2))
noncomputable def Ai (s i j:Nat):Str:=cond (decide (j+1<s)) (cA (98+(i*s+j))) (yq ((s+i)/2))
noncomputable def GL (s i j:Nat):Str:=cond (decide (i+1<s)) (cA (97+(i*s+j)+s)) (yq ((3*s-j-1)/2))
noncomputable def FY (s i j:Nat):Str:=cond (decide (0<j)) (cA (96+(i*s+j))) (yq ((4*s-i-1)/2))
section
variable {P:cZ} {PS:dZ} {J:aZ} {Q:EPost} {n:Nat} {Z:bk}
theorem uY (a:∀Q:EPost,Q (.int x) J->aw P n Z J e Q) (b:x=(k:Nat)) (c:k<=0x10FFFF) (q:Q (.str (cA k)) J):aw P (n+1) Z J (.bi .chr [e]) Q:=by
 subst b
 exact nV (a _ ⟨⟨cQ k,by lia⟩,q⟩)
theorem Ac (a:∀Q:EPost,Q (.int x) J->aw P n Z J e Q) (b:x=(k:Nat)) (c:k<1000) (q:Q (.str (yq k)) J):aw P (n+1) Z J (.bi .str [e]) Q:=by
 subst b
 exact nV (a _ ⟨av c (ag (by decide:1000<=2^10) (mF (by decide) (by decide))),q⟩)
theorem eV (h:Z v=some c):∀Q:EPost,Q c J->aw P (n+1) Z J (.var v) Q:=λa=>aA h
theorem eI:∀Q:EPost,Q c J->aw P (n+1) Z J (.cst c) Q:=λa=>bx
theorem mu (c:∀Q:EPost,Q (.int a) J->aw P n Z J l Q) (d:∀Q:EPost,Q (.int b) J->aw P n Z J r Q):∀Q:EPost,Q (.int (a+b)) J->aw P (n+1) Z J (.bin .Add l r) Q:=λa q=>eU (c _ (d _ q))
theorem pA (c:∀Q:EPost,Q (.int a) J->aw P n Z J l Q) (d:∀Q:EPost,Q (.int b) J->aw P n Z J r Q):∀Q:EPost,Q (.int (a-b)) J->aw P (n+1) Z J (.bin .Sub l r) Q:=λa q=>eU (c _ (d _ q))
theorem Pp (c:a.natAbs<2^63\/b.natAbs<2^63) (d:∀Q:EPost,Q (.int a) J->aw P n Z J l Q) (e:∀Q:EPost,Q (.int b) J->aw P n Z J r Q):∀Q:EPost,Q (.int (a*b)) J->aw P (n+1) Z J (.bin .Mult l r) Q:=λa q=>eU (d _ (e _ ⟨c,q⟩))
theorem LU (b:∀Q:EPost,Q (.int a) J->aw P (n+1) Z J l Q):∀Q:EPost,Q (.int (a.fdiv 2)) J->aw P (n+2) Z J (.bin .FloorDiv l (.cst (.int 2))) Q:=λa q=>eU (b _ (bx ⟨by decide,q⟩))
theorem DG (b:m≠0) (c:∀Q:EPost,Q (.int a) J->aw P (n+1) Z J l Q):∀Q:EPost,Q (.int (a.fmod m)) J->aw P (n+2) Z J (.bin .Mod l (.cst (.int m))) Q:=λa q=>eU (c _ (bx ⟨b,q⟩))
theorem Sm (d:∀K:Bool->Prop,K c->wL op (.int x) (.int y) K) (e:∀Q:EPost,Q (.int x) J->aw P (n+1) Z J l Q) (g:∀Q:EPost,Q (.int y) J->aw P (n+1) Z J r Q)
  (h:c=true->∀Q:EPost,Q i J->aw P (n+1) Z J a Q) (j:c=false->∀Q:EPost,Q v J->aw P (n+1) Z J b Q):∀Q:EPost,Q (cond c i v) J->aw P (n+2) Z J (.iD (.cmp l [op] [r]) a b) Q:=λQ q=>
 jS (dp (e _ (g _ (d _ (by
  clear g e d;induction c using cB with
  |true=>exact Br.t (h rfl _ q)
  |false=>exact Br.f (j rfl _ q))))))
theorem ry:cond c (CV.str a) (CV.str v)= .str (cond c a v):=by induction c using cB<;>rfl
theorem xH {a:Int} (h:a=(k:Nat)):a.fdiv 2=((k/2:Nat):Int):=by
 subst h
 refine af (mM _ (by decide)) ?_;rfl
theorem JQ:(((p:Nat):Int).fmod 2==0)=(p%2==0):=by
 rw[cy _ (by decide)]
 show(((p%2:Nat):Int)==0)=_
 cases p%2<;>rfl
theorem half_lt {a b:Nat} (h:a<b):a/2<b:=bP (qN ..) h
theorem OB {j s:Nat}:decide ((j:Int)<s-1)=decide (j+1<s):=decide_eq_decide.mpr (by omega)
theorem Oc {i:Nat}:decide ((0:Int)<i)=decide (0<i):=decide_eq_decide.mpr Int.natCast_pos
theorem afy {a j:Nat} (h:j<a):(a:Int)-j-1=((a-j-1:Nat):Int):=by omega
theorem SY {i j s:Nat} (a:i<s) (b:j<s):i*s+j<s*s:=zA (iU b (i*s)) (pg i s▸cP s a)
theorem AY {i j s:Nat} (a:s<20) (b:i<s) (d:j<s) {c:Nat} (e:c<=200):c+(i*s+j)<=600:=zT (zM e (zT (zL (SY b d)) (eS (zL a) (zL a)))) (by decide)
theorem agk (d:Z 1=some (.int (s:Nat))) (f:Z 6=some (.int (i:Nat))) (g:Z 8=some (.int (j:Nat))) (h:Z 9=some (.int ((i*s+j:Nat):Int))) (b:s<20) (l:i<s) (c:j<s):∀Q:EPost,Q (.str (Zo s i j)) J->
  aw P (n+6) Z J (.iD (.cmp (.var 6) [.Gt] [(.cst (.int (0)))]) (.bi .chr [(.bin .Sub (.bin .Add (.cst (.int (97))) (.var 9)) (.var 1))]) (.bi .str [(.bin .FloorDiv (.var 8) (.cst (.int (2))))])) Q:=λQ q=>
 have m:0<i->s<=i*s:=(fV s)
 Sm (λK k=>by show K (decide ((0:Int)<i));exact af Oc k) (eV f) eI
  (λe a=>uY (pA (mu eI (eV h)) (eV d)) (yH (zT (m (of_decide_eq_true e)) (zT zP zQ))).symm (zT (eL ..) (zT (AY b l c (by decide)) (by decide)))) (λa a=>Ac (LU (eV g)) (xH rfl) (half_lt (zA (il c b) (by decide)))) _ (af ry q)
theorem Wy (c:Z 1=some (.int (s:Nat))) (e:Z 6=some (.int (i:Nat))) (f:Z 8=some (.int (j:Nat))) (g:Z 9=some (.int ((i*s+j:Nat):Int))) (b:s<20) (d:i<s) (h:j<s):∀Q:EPost,Q (.str (Ai s i j)) J->
  aw P (n+6) Z J (.iD (.cmp (.var 8) [.Lt] [(.bin .Sub (.var 1) (.cst (.int (1))))]) (.bi .chr [(.bin .Add (.cst (.int (98))) (.var 9))]) (.bi .str [(.bin .FloorDiv (.bin .Add (.var 1) (.var 6)) (.cst (.int (2))))])) Q:=λQ q=>
 Sm (λK k=>by show K (decide ((j:Int)<s-1));exact af OB k) (eV f) (pA (eV c) eI)
  (λa a=>uY (mu eI (eV g)) (by rfl) (zT (AY b d h (by decide)) (by decide))) (λa a=>Ac (LU (mu (eV c) (eV e))) (xH (by rfl)) (half_lt (zB (zM (zL b) (zL (il d b))) (by decide)))) _ (af ry q)
theorem abR (b:Z 1=some (.int (s:Nat))) (e:Z 6=some (.int (i:Nat))) (f:Z 8=some (.int (j:Nat))) (g:Z 9=some (.int ((i*s+j:Nat):Int))) (c:s<20) (h:i<s) (d:j<s):∀Q:EPost,Q (.str (GL s i j)) J->
  aw P (n+8) Z J (.iD (.cmp (.var 6) [.Lt] [(.bin .Sub (.var 1) (.cst (.int (1))))]) (.bi .chr [(.bin .Add (.bin .Add (.cst (.int (97))) (.var 9)) (.var 1))]) (.bi .str [(.bin .FloorDiv (.bin .Sub (.bin .Sub (.bin .Mult (.cst (.int (3))) (.var 1)) (.var 8)) (.cst (.int (1)))) (.cst (.int (2))))])) Q:=λQ q=>
 Sm (λK k=>by show K (decide ((i:Int)<s-1));exact af OB k) (eV e) (pA (eV b) eI)
  (λa a=>uY (mu (mu eI (eV g)) (eV b)) (by rfl) (zT (zM (AY c h d (by decide)) (zL c)) (by decide))) (λa a=>Ac (LU (pA (pA (Pp (.inl (by decide)) eI (eV b)) (eV f)) eI)) (xH (afy (a:=3*s) (zA d (fV s (by decide))))) (half_lt (zB (zT (eL ..) (zT (eL ..) (aX 3 (zL c)))) (by decide)))) _ (af ry q)
theorem aaW (d:Z 1=some (.int (s:Nat))) (e:Z 6=some (.int (i:Nat))) (f:Z 8=some (.int (j:Nat))) (g:Z 9=some (.int ((i*s+j:Nat):Int))) (b:s<20) (c:i<s) (h:j<s):∀Q:EPost,Q (.str (FY s i j)) J->
  aw P (n+8) Z J (.iD (.cmp (.var 8) [.Gt] [(.cst (.int (0)))]) (.bi .chr [(.bin .Add (.cst (.int (96))) (.var 9))]) (.bi .str [(.bin .FloorDiv (.bin .Sub (.bin .Sub (.bin .Mult (.cst (.int (4))) (.var 1)) (.var 6)) (.cst (.int (1)))) (.cst (.int (2))))])) Q:=λQ q=>
 Sm (λK k=>by show K (decide ((0:Int)<j));exact af Oc k) (eV f) eI
  (λa a=>uY (mu eI (eV g)) (by rfl) (zT (AY b c h (by decide)) (by decide))) (λa a=>Ac (LU (pA (pA (Pp (.inl (by decide)) eI (eV d)) (eV e)) eI)) (xH (afy (a:=4*s) (zA c (fV s (by decide))))) (half_lt (zB (zT (eL ..) (zT (eL ..) (aX 4 (zL b)))) (by decide)))) _ (af ry q)
end
noncomputable def ZZ:List MS:=JK (jc rN 1)
noncomputable def SX:List MS:=JK (jc ZZ 1)
noncomputable def abv:MS:=jc SX 5
noncomputable def jY (a b:Int) (c:Bool):Int:=((a-b)*cond c 1 (-1)).fmod 48
section
variable {P:cZ} {PS:dZ} {J:aZ} {Q:EPost} {n:Nat} {Z:bk}
theorem UG (h:Bd J b rows B) {f g i j r} {a} {x} (k:Z 0=some (.own b)) (l:Z f=some (.int (i:Nat))) (m:Z g=some (.int (j:Nat))) (o:rows[i]?=some r) (c:B[i]?=some a) (s:a[j]?=some x) (d:i<1000) (e:j<1000):
  ∀Q:EPost,Q (.int x.2) J->aw P (n+4) Z J (.idx (.idx (.idx (.var 0) (.var f)) (.var g)) (.cst (.int 1))) Q:=λQ q=>
 iG (ub h k o c s d e (eV l) (eV m) (bx ⟨Xx,1,_,rfl,rfl,q⟩))
theorem mY (h:x.length+y.length<=1000) (b:∀Q:EPost,Q (.str x) J->aw P n Z J l Q) (c:∀Q:EPost,Q (.str y) J->aw P n Z J r Q):∀Q:EPost,Q (.str (x++y)) J->aw P (n+1) Z J (.bin .Add l r) Q:=λa q=>eU (b _ (c _ ⟨dK h,q⟩))
theorem adS:∀Q:EPost,Q (.int (-1)) J->aw P (n+2) Z J (.neg (.cst (.int 1))) Q:=λa q=>q
theorem YE:cond c (CV.int a) (CV.int v)= .int (cond c a v):=by induction c using cB<;>rfl
theorem YF:(cond c (1:Int) (-1)).natAbs<2^63:=by induction c using cB<;>decide
theorem xw {b:Nat} {rows:List Nat} {B:List (List Lt)} (W:Bd J b rows B) {x y z w r r':Nat} {C m:List Lt} {u v:Lt} {d:Int} {lit g A:bD} {k:bk->aZ->Prop} {K:fA} (H:Z 0=some (.own b)) (D:Z 10=some (.str lit)) (E:Z 11=some (.str g))
  (hr:rows[x]?=some r) (F:B[x]?=some C) (hu:C[y]?=some u) (I:rows[z]?=some r') (s:B[z]?=some m) (hv:m[w]?=some v) (hx:x<900) (hy:y<900) (hz:z<900) (hw:w<900) (hl:lit.length+A.length<=1000) (hd:g.length+A.length<=1000)
  (q:∀i:bk,(∀t,t<10\/(12<=t/\t<16)->i t=Z t)->i 10=some (.str (cond (jY u.2 v.2 ((x+y)%2==0)==d) (lit++A) lit))->i 11=some (.str (cond (jY u.2 v.2 ((x+y)%2==0)==d) g (g++A)))->k i J):
  iX P PS (n+13) abv (.tup [.int (x:Nat),.int (y:Nat),.int (z:Nat),.int (w:Nat),.int d,.str A]) Z J (yx k K):=by
 refine⟨rfl,?_⟩
 have L:∀{Z:bk},Z 16=some (.int x)->Z 17=some (.int y)->∀Q:EPost,Q (.int (cond ((x+y)%2==0) 1 (-1))) J->aw P (n+10) Z J (.iD (.cmp (.bin .Mod (.bin .Add (.var 16) (.var 17)) (.cst (.int 2))) [.Eq] [(.cst (.int 0))]) (.cst (.int 1)) (.neg (.cst (.int 1)))) Q:=λj l Q q=>
  Sm (λK k=>by
   show K ((((x+y:Nat):Int)).fmod 2==0)
   exact af JQ k) (DG (by decide) (mu (eV j) (eV l))) eI (λa=>eI) (λa=>adS) _ (YE▸q)
 have M:∀{Z:bk},Z 0=some (.own b)->Z 16=some (.int x)->Z 17=some (.int y)->Z 18=some (.int z)->Z 19=some (.int w)->∀Q:EPost,Q (.int (jY u.2 v.2 ((x+y)%2==0))) J->
   aw P (n+12) Z J (.bin .Mod (.bin .Mult (.bin .Sub (.idx (.idx (.idx (.var 0) (.var 16)) (.var 17)) (.cst (.int 1))) (.idx (.idx (.idx (.var 0) (.var 18)) (.var 19)) (.cst (.int 1)))) (.iD (.cmp (.bin .Mod (.bin .Add (.var 16) (.var 17)) (.cst (.int 2))) [.Eq] [(.cst (.int 0))]) (.cst (.int 1)) (.neg (.cst (.int 1))))) (.cst (.int 48))) Q:=λH j l N O=>
  DG (by decide) (Pp (.inr YF) (pA (UG W H j l hr F hu (zA hx (by decide)) (zA hy (by decide))) (UG W H N O I s hv (zA hz (by decide)) (zA hw (by decide)))) (L j l))
 have o:∀{R S T:CV} (t:Nat),t<10\/12<=t/\t<16->upd (upd (upd (upd (upd (upd (upd (upd (upd Z 16 (.int x)) 17 (.int y)) 18 (.int z)) 19 (.int w)) 20 (.int d)) 21 (.str A)) 22 T) 10 R) 11 S t=Z t:=λt X=>by
  have e:∀{c},16<=c->t≠c:=λk=>bj (zA (X.elim (λh=>zA h (by decide)) λh=>h.2) k)
  have G:∀{c},10<=c->c<12->t≠c:=λk k'=>X.elim (λh=>bj (zA h k)) λh=>bZ (zA k' h.1)
  exact(cG _ _ (G (by decide) (by decide))).trans ((cG _ _ (G (by decide) (by decide))).trans ((cG _ _ (e (by decide))).trans ((cG _ _ (e (by decide))).trans ((cG _ _ (e (by decide))).trans ((cG _ _ (e (by decide))).trans ((cG _ _ (e (by decide))).trans ((cG _ _ (e (by decide))).trans (cG _ _ (e (by decide))))))))))
 refine sA (M H rfl rfl rfl rfl) (aK (gK (jS (dp (aA rfl (aA rfl ?_))))))
 show Br (jY u.2 v.2 ((x+y)%2==0)==d) _ _
 induction Y:jY u.2 v.2 ((x+y)%2==0)==d using cB with
 |true=>
  rw[Y] at q
  exact Br.t (j' (mY hl (eV (by exact D)) (eV rfl) _ (aA E ⟨vN,ip (cU (cU (mK (bY (q _ o rfl rfl)))))⟩)))
 |false=>
  rw[Y] at q
  exact Br.f (j' (aA D (mY hd (eV (by exact E)) (eV rfl) _ (⟨vN,ip (cU (cU (mK (bY (q _ o rfl rfl)))))⟩))))
end
theorem xy:∀k,k<100->(yq k).length<=2:=by decide+kernel
theorem mW {a b:bD} (d:a.length<=m) (e:c=false->b.length<=m):(cond c a b).length<=m:=by
 induction c using cB with
 |true=>exact d
 |false=>exact e rfl
noncomputable def tw (c:Bool) (a:bD) (p:bD×bD):bD×Str:=(cond c (p.1++a) p.1,cond c p.2 (p.2++a))
theorem ee (a b:bD):(a++b).length=a.length+b.length:=by
 show(a.cps++b.cps).size=_
 refine af Array.size_append ?_;rfl
theorem yM (b:p.1.length<=m) (d:p.2.length<=m) (h:a.length<=k):(tw c a p).1.length<=m+k/\(tw c a p).2.length<=m+k:=by
 induction c using cB with
 |true=>exact⟨by show(p.1++a).length<=_;rw[ee];exact zM b h,zT d zP⟩
 |false=>exact⟨zT b zP,by show(p.2++a).length<=_;rw[ee];exact zM d h⟩
noncomputable def hh (G7:Nat->Nat->Int) (s i j:Nat):bD×Str:=
 tw (jY (G7 i j) (G7 (i+1) j) ((i+j)%2==0)==32) (FY s i j) (tw (jY (G7 (i+1) j) (G7 (i+1) (j+1)) ((i+1+j)%2==0)==16) (GL s i j)
  (tw (jY (G7 i (j+1)) (G7 (i+1) (j+1)) ((i+(j+1))%2==0)==32) (Ai s i j) (tw (jY (G7 i j) (G7 i (j+1)) ((i+j)%2==0)==16) (Zo s i j) ("",""))))
structure zo (B:List (List Lt)) (rows:List Nat) s (G7:Nat->Nat->Int):Prop where
 at_:∀i j,i<=s->j<=s->∃r row x,rows[i]?=some r/\B[i]?=some row/\row[j]?=some x/\x.2=G7 i j
section
variable {P:cZ} {PS:dZ} {J:aZ} {Q:EPost} {n:Nat} {Z:bk}
theorem Ax {e1 e2 e3 e4 e5 e6} (g:∀Q:EPost,Q a J->aw P n Z J e1 Q) (h:∀Q:EPost,Q b J->aw P n Z J e2 Q) (i:∀Q:EPost,Q c J->aw P n Z J e3 Q) (j:∀Q:EPost,Q d J->aw P n Z J e4 Q) (k:∀Q:EPost,Q e J->aw P n Z J e5 Q) (l:∀Q:EPost,Q f J->aw P n Z J e6 Q):
  ∀Q:EPost,Q (.tup [a,b,c,d,e,f]) J->aw P (n+1) Z J (.tup [e1,e2,e3,e4,e5,e6]) Q:=λQ q=>
 mL (K:=λcs J=>cs.length<=1000/\Q (.tup cs) J) (g _ (mL (h _ (mL (i _ (mL (j _ (mL (k _ (mL (l _ (jh ⟨ag7,q⟩))))))))))))
theorem DH (h:Z v=some (.int (k:Nat))):∀Q:EPost,Q (.int (k+1:Nat)) J->aw P (n+2) Z J (.bin .Add (.var v) (.cst (.int 1))) Q:=λQ q=>eU (aA h (bx (show Q (.int (k+1)) J from q)))
theorem EC {K} (a:∀Q:EPost,Q c J->aw P n Z J e Q) (b:sS J c=some l) (h:K l (uF J c) J):pE (aw P n) P Z J (.val e) K:=a _ (aP l b h)
theorem PJ {b:Nat} {rows:List Nat} {B:List (List Lt)} (u:Bd J b rows B) {s i j:Nat} {G7:Nat->Nat->Int} (v:zo B rows s G7) (l:s<20) (m:i<s) (o:j<s) {k:bk->aZ->Prop} {K:fA} (w:Z 0=some (.own b)) (g:Z 6=some (.int (i:Nat))) (h:Z 8=some (.int (j:Nat))) (E:Z 10=some (.str "")) (F:Z 11=some (.str ""))
  (G:Z 12=some (.str (Zo s i j))) (H:Z 13=some (.str (Ai s i j))) (I:Z 14=some (.str (GL s i j))) (L:Z 15=some (.str (FY s i j)))
  (q:∀f:bk,(∀t,t<10\/(12<=t/\t<16)->f t=Z t)->f 10=some (.str (hh G7 s i j).1)->f 11=some (.str (hh G7 s i j).2)->k f J):
  wpS P PS (n+14) abv Z J (vY k K):=by
 have aeB:=il m l
 have r:=il o l
 have M:(Zo s i j).length<=2:=mW (by decide:1<=2) λa=>xy _ (half_lt (zA r (by decide)))
 have N:(Ai s i j).length<=2:=mW (by decide:1<=2) λa=>xy _ (half_lt (zB (zM (zL l) (zL aeB)) (by decide)))
 have ld:(GL s i j).length<=2:=mW (by decide:1<=2) λa=>xy _ (half_lt (zB (zT (eL ..) (zT (eL ..) (aX 3 (zL l)))) (by decide)))
 have ll:(FY s i j).length<=2:=mW (by decide:1<=2) λa=>xy _ (half_lt (zB (zT (eL ..) (zT (eL ..) (aX 4 (zL l)))) (by decide)))
 have i9:i<900:=zA aeB (by decide)
 have x:j<900:=zA r (by decide)
 have i8:i+1<900:=zB m (zA l (by decide))
 have y:j+1<900:=zB o (zA l (by decide))
 refine jB (v.at_ i j (zL m) (zL o)) λr1 S x1 T W X Y=>jB (v.at_ i (j+1) (zL m) o) λr2 a0 x2 a2 b2 c2 d2=>jB (v.at_ (i+1) (j+1) m o) λr3 a5 x3 a3 b3 c3 d3=>jB (v.at_ (i+1) j m (zL o)) λr4 a6 x4 a4 b4 c4 d4=>lS (EC
  (λQ=>FQ (Ax (eV g) (eV h) (eV g) (DH h) eI (eV G)) (Ax (eV g) (DH h) (DH g) (DH h) eI (eV H)) (Ax (DH g) (eV h) (DH g) (DH h) eI (eV I)) (Ax (eV g) (eV h) (DH g) (eV h) eI (eV L))) rfl ?_)
 refine⟨trivial,xw u w E F T W X a2 b2 c2 i9 x i9 y (by exact zT (zM (ai 0) M) (by decide)) (by exact zT (zM (ai 0) M) (by decide)) λa7 z d e=>?_⟩
 have A:=yM (c:=jY x1.2 x2.2 ((i+j)%2==0)==16) (p:=("","")) (ai 0) (ai 0) M
 refine⟨trivial,xw u ((z 0 (by decide)).trans w) d e a2 b2 c2 a3 b3 c3 i9 y i8 y (by exact zT (zM A.1 N) (by decide)) (by exact zT (zM A.2 N) (by decide)) λa8 O d e=>?_⟩
 have C:=yM (c:=jY x2.2 x3.2 ((i+(j+1))%2==0)==32) A.1 A.2 N
 refine⟨trivial,xw u ((O 0 (by decide)).trans ((z 0 (by decide)).trans w)) d e a4 b4 c4 a3 b3 c3 i8 x i8 y (by exact zT (zM C.1 ld) (by decide)) (by exact zT (zM C.2 ld) (by decide)) λa9 k3 d e=>?_⟩
 have w3:=yM (c:=jY x4.2 x3.2 ((i+1+j)%2==0)==16) C.1 C.2 ld
 refine⟨trivial,xw u ((k3 0 (by decide)).trans ((O 0 (by decide)).trans ((z 0 (by decide)).trans w))) d e T W X a4 b4 c4 i9 x i8 x (by exact zT (zM w3.1 ll) (by decide)) (by exact zT (zM w3.2 ll) (by decide)) λR k4 d e=>⟨trivial,q R (λt D=>(k4 t D).trans ((k3 t D).trans ((O t D).trans (z t D)))) ?_ ?_⟩⟩
 ·rw[d]
  unfold hh
  rw[<-Y,<-d2,<-d3,<-d4]
  rfl
 ·rw[e]
  unfold hh
  rw[<-Y,<-d2,<-d3,<-d4]
  rfl
end
noncomputable def qb:Str:="\"\\"
noncomputable def DF (c:Nat):Str:=cond (jN ⟨#[c]⟩ qb) ("\\" ++⟨#[c]⟩) ⟨#[c]⟩
noncomputable def oG (x:bD):Str:=lM "" (x.cps.toList.map DF)
noncomputable def rG (lit dk:bD):Str:=lit++"; dark=\"" ++oG dk++"\""
noncomputable def mR (x:bD):Bool:=x.cps.all λc=>decide (32<=c)&&c !=127
noncomputable abbrev qS:Str:="_headers"
abbrev Ki (P:cZ):Prop:=∀t d h l name lit dk J (Q:EPost),J[t]?=some (.inst 289 (some d))->J[d]?=some (.ns [(qS,.own h)])->J[h]?=some (.list l)->l.length<=900->mR name=true->mR lit=true->mR dk=true->0<dk.length->name.length<=100->lit.length<=100->dk.length<=100->
 Q .none (J.set h (.list (l++[.tup [.str name,.str (rG lit dk)]])))->P.eK 286 [.own t,.str name,.str lit] [("dark",.str dk)] J Q
theorem JT c:(DF c).length<=2:=mW (ai 2) λa=>(by decide:1<=2)
theorem adp:∀(l:List bD),(∀x∈l,x.length<=B)->(l.map (·.length)).sum<=B*l.length:=by
 intro l
 induction l with
 |nil=>
  exact λc=>dY _
 |cons x l a=>
  refine λh=>af gC (af IS (af bS ?_))
  have:=a λy b=>h y (aB _ b)
  have:=h x az
  grind-abstractProof only
theorem JG (h:∀x∈l,x.length<=B):(pe "" l).length<=B*l.length:=by
 rw[Iw]
 exact ag (dW (by show _+_*0=_;rw[Nat.mul_zero,Nat.add_zero])) (adp l h)
theorem Gd (h:∀x∈l,x.length<=B):(lM "" l).length<=B*l.length:=by
 induction l using cL with
 |nil=>exact JG h
 |cons x l=>induction l using cL with
  |nil=>exact ag (h x az) (by rw[b_,QG];exact ai _)
  |cons y l=>exact JG h
theorem JR x:(oG x).length<=2*x.length:=ag (Gd λy d=>aG (bO.mp d) λc a b=>eh b (JT c)) (by rw[aC];exact ai _)
section
variable {P:cZ} {PS:dZ} {J:aZ} {Q:EPost} {n:Nat} {Z:bk}
theorem FL {e1 e2} {K} (a:∀K:Bool->aZ->Prop,K false J->gm (aw P n) Z k J e1 K) (b:∀K:Bool->aZ->Prop,K false J->gm (aw P n) Z k J e2 K) (q:K false J):gm (aw P n) Z (k+1) J (.bor [e1,e2]) K:=a _ (Br.f (b _ (Br.f q)))
theorem ml {K} (h:J[o]?=some (.list l)) (q:K o l):listIn J (.own o) K:=by
 show lK (J[o]?.bind LD) _
 exact af h q
theorem Ov {K} (b:Z v=some (.own o)) (a:J[o]?=some (.list l)) (d:∀Q:EPost,Q c J->aw P (n+1) Z J e Q) (f:l.length<=fj) (h:K .next Z (J.set o (.list (l++[c])))):wpS P PS (n+2) (.pO (.var v) e) Z J K:=
 EB (aA b (ml a (d _ (ml a ⟨f,h⟩))))
theorem hJ {K} (a:J[t]?=some (.inst b (some d))) (c:J[d]?=some (.ns l)) (q:K d l):nsIn J b (.own t) K:=by
 show lK (J[t]?.bind Sj) _
 exact af a ⟨rfl,af c q⟩
theorem mV (h:aw P n Z J o (λa J=>UA c x a J/\qW (aw P n) Z args J (λcs J=>qW (aw P n) Z kv J (λb J=>P.eK f (a::cs) (d.zip b) J Q)))):aw P (n+1) Z J (.gJ c f x o args d kv) Q:=h
theorem uK {K} (h:aw P n Z J e (λ_ J=>K .next Z J)):wpS P PS (n+1) (.exp e) Z J K:=h
theorem aeO (h:∀Q:EPost,Q (.str x) J->aw P (n+4) Z J e Q) (g:x.length<=900):∀Q:EPost,Q (.str (oG x)) J->
  aw P (n+6) Z J (.kB .join (.cst (.str (aa ""))) [(.comp (.iD (.cmp (.var 24) [.In] [(.cst (.str (aa "\"\\")))]) (.bin .Add (.cst (.str (aa "\\"))) (.var 24)) (.var 24)) [(.mk (.var 24) (.val e) [])])]) Q:=λQ q=>by
 have b:∀l:List Nat,Tx P (n+4) Z J (.var 24) (.iD (.cmp (.var 24) [.In] [(.cst (.str (aa "\"\\")))]) (.bin .Add (.cst (.str (aa "\\"))) (.var 24)) (.var 24)) (l.map λc=> .str ⟨#[c]⟩) (sC (l.map DF)):=by
  intro l
  induction l with
  |nil=>exact trivial
  |cons c l i=>
   exact⟨λQ q=>cU (jS (dp (aA rfl (bx (Br.of (f:=λx=>Q (.str x) J) q ((mY (x:="\\") (y:=⟨#[c]⟩) (by decide:1+1<=1000) eI (eV rfl) _)) (aA rfl)))))),i⟩
 exact lB (λa=>bx) (λQ q=>mL (nJ (λQ=>EC h rfl) trivial rfl (b x.cps.toList) (by rw[aC];exact ag g (by decide)) (jh q))) ((eJ _ (tP _) (oC (λy j=>aG (bO.mp j) λc a d=>eh d (JT c)) (by rw[aC];exact g) (by decide)) q))
theorem agY {m:Int} (h:0<=m):decide (m<0)=false:=decide_eq_false (by lia)
noncomputable def rL (p:Nat):Str:=cond (p%2==0) (cA (97+p)) (cA (65+p))
theorem Oq (c:Z 9=some (.int (p:Nat))) (d:p<1000) (e:a<200) (f:b<200):∀Q:EPost,Q (.str (cond (p%2==0) (cA (a+p)) (cA (b+p)))) J->
  aw P (n+5) Z J (.iD (.cmp (.bin .Mod (.var 9) (.cst (.int (2)))) [.Eq] [(.cst (.int (0)))]) (.bi .chr [(.bin .Add (.cst (.int (a:Nat))) (.var 9))]) (.bi .chr [(.bin .Add (.cst (.int (b:Nat))) (.var 9))])) Q:=λQ q=>
 Sm (λK k=>by show K ((p:Int).fmod 2==0);exact af JQ k) (DG (by decide) (eV c)) eI
  (λb b q=>uY (mu eI (eV c)) (by rfl) (zT (zM (zL e) (zL d)) (by decide)) q) (λa a q=>uY (mu eI (eV c)) (by rfl) (zT (zM (zL f) (zL d)) (by decide)) q) _ (ry▸q)
theorem Dv (d:Z 2=some (.lst (sC ps))) (e:Z 9=some (.int (p:Nat))) (c:Z 11=some (.str a)) (f:ps.length=6) (g:ps[p%6]?=some pc) (b:pc.length+a.length<=1000):∀Q:EPost,Q (.str (pc++a)) J->
  aw P (n+4) Z J (.bin .Add (.idx (.var 2) (.bin .Mod (.var 9) (.cst (.int (6))))) (.var 11)) Q:=λQ q=>by
 have h:∀Q:EPost,Q (.str pc) J->aw P (n+3) Z J (.idx (.var 2) (.bin .Mod (.var 9) (.cst (.int 6)))) Q:=λQ q=>iG (aA d (DG (by decide) (eV e) _ (af ((cy _ (by decide):(p:Int).fmod 6=((p%6:Nat):Int))) (⟨by grind only,p%6,_,jg (by rw[aC,f];grind only),dh.trans (g▸rfl),q⟩))))
 exact mY b h (eV c) _ q
theorem PI {K} (L:Ki P) (E:Z 2=some (.lst (sC ps))) (M:Z 4=some (.own dI)) (N:Z 5=some (.int m)) (O:Z 7=some (.own t)) (v:Z 9=some (.int (p:Nat))) (g:Z 10=some (.str lit)) (j:Z 11=some (.str b))
  (l:ps.length=6) (o:ps[p%6]?=some pc) (r:pc.length<=20) (s:b.length<=20) (R:0<=m) (c:lit.length=2) (S:p<50) (w:mR (rL p)=true) (x:mR lit=true) (y:mR (pc++b)=true) (z:0<(pc++b).length)
  (T:J[dI]?=some (.list D)) (A:D.length<=900) (F:J[t]?=some (.inst 289 (some d))) (G:J[d]?=some (.ns [(qS,.own h)])) (W:J[h]?=some (.list B)) (C:B.length<=900) (H:dI≠t) (I:dI≠d) (X:dI≠h)
  (q:k Z ((J.set dI (.list (D++[.str (rG lit (pc++b))]))).set h (.list (B++[.tup [.str (rL p),.str (rG lit (pc++b))]])))):
  bX (wpS P PS (n+14)) (SX.drop 6) Z J (yx k K):=by
 refine aK (fM (FL (λK q=>dp (nV (aA g ⟨dK (zT (zE c) (by decide)),bx (af c q)⟩))) (λK q=>dp (aA N (bx ?_))) (Br.f (bY (mK ?_)))))
 ·show K (decide (m<0)) J
  exact af (agY R) q
 have i:(pc++b).length<=40:=by rw[ee];exact zT (zM r s) (by decide)
 have e:pc.length+b.length<=1000:=zT (zM r s) (by decide)
 have u:(oG (pc++b)).length<=200:=ag (JR _) (zT (aX _ i) (by decide))
 refine aK (Ov M T (mY ?_ (mY ?_ (mY ?_ (eV g) eI) (aeO (Dv E v j l o e) (zT i (by decide)))) eI) (dK (zT A (by decide))) (mK ?_))
 ·rw[ee,ee];show lit.length+8+_+1<=1000;exact zT (zM (zM (zE (congrArg (· +8) c)) u) (ai 1)) (by decide)
 ·rw[ee];show lit.length+8+_<=1000;exact zT (zM (zE (congrArg (· +8) c)) u) (by decide)
 ·show lit.length+8<=1000;exact zT (zE (congrArg (· +8) c)) (by decide)
 refine aK (uK (mV (aA O ⟨hJ (by rw[aS H];exact F) (by rw[aS I];exact G) rfl,mL (Oq v (zA S (by decide)) (by decide) (by decide) _ (mL (aA g (jh (mL (Dv E v j l o e _ (jh ?_)))))))⟩)))
 exact L t d h B _ _ _ _ _ (by rw[aS H];exact F) (by rw[aS I];exact G) (af (aS X) W) C w x y z (mW (by decide:1<=100) λa=>(by decide:1<=100)) (zT (zE c) (by decide)) (zT i (by decide)) (mK (bY q))
end
noncomputable def kz (ps:List bD) (p:Nat):Str:=ps.getD (p%6) ""
noncomputable def px (G7:Nat->Nat->Int) (ps:List bD) (s i j:Nat):Str:=rG (hh G7 s i j).1 (kz ps (i*s+j)++(hh G7 s i j).2)
structure rY G7 ps s:Prop where
 lit:∀i j,i<s->j<s->(hh G7 s i j).1.length=2
 ajt:∀i j,i<s->j<s->mR (hh G7 s i j).1=true
 ajs:∀i j,i<s->j<s->mR (kz ps (i*s+j)++(hh G7 s i j).2)=true
 aju:∀i j,i<s->j<s->0<(kz ps (i*s+j)++(hh G7 s i j).2).length
 ajr:∀p,p<s*s->mR (rL p)=true
 la:∀i j,i<s->j<s->(hh G7 s i j).2.length<=20
structure nL (ps:List bD):Prop where
 six:ps.length=6
 short:∀x∈ps,x.length<=20
section
variable {P:cZ} {PS:dZ} {J:aZ} {Q:EPost} {n:Nat} {Z:bk}
theorem Xd {e1 e2 e3} (d:∀Q:EPost,Q a J->aw P n Z J e1 Q) (e:∀Q:EPost,Q b J->aw P n Z J e2 Q) (f:∀Q:EPost,Q c J->aw P n Z J e3 Q):∀Q:EPost,Q (.tup [a,b,c]) J->aw P (n+1) Z J (.tup [e1,e2,e3]) Q:=λa q=>
 Ay (d _ (e _ (f _ ⟨pv,q⟩)))
theorem Ce {K} (h:K (upd (upd (upd Z i a) j b) k c) J):du E (.tup [.var i,.var j,.var k]) (.tup [a,b,c]) Z J K:=⟨rfl,h⟩
theorem SW {K} (I:Ki P) (L:Bd J b rows B) (M:zo B rows s G7) (o:rY G7 ps s) (l:nL ps) (y:s<6) (c:i<s) (e:j<s) (N:0<=m)
  (O:Z 0=some (.own b)) (w:Z 1=some (.int (s:Nat))) (R:Z 2=some (.lst (sC ps))) (S:Z 4=some (.own dI)) (T:Z 5=some (.int m)) (r:Z 6=some (.int (i:Nat))) (W:Z 7=some (.own t)) (u:Z 8=some (.int (j:Nat)))
  (X:J[dI]?=some (.list D)) (z:D.length<=900) (f:J[t]?=some (.inst 289 (some d))) (Y:J[d]?=some (.ns [(qS,.own h)])) (hH:J[h]?=some (.list G)) (A:G.length<=900) (n1:dI≠t) (n2:dI≠d) (n3:dI≠h)
  (q:∀g:bk,(∀t,t<9->g t=Z t)->k g ((J.set dI (.list (D++[.str (px G7 ps s i j)]))).set h (.list (G++[.tup [.str (rL (i*s+j)),.str (px G7 ps s i j)]])))):
  bX (wpS P PS (n+14)) SX Z J (yx k K):=by
 have H:i*s+j<s*s:=SY c e
 have C:s*s<=25:=ag (eS (eF y) (eF y)) (by decide)
 have a:s<20:=zA y (by decide)
 refine aK (gK (Xd (λQ q=>mu (Pp (.inl (bP (eG (zB (zL c) a)) (by decide:20<2^63))) (eV r) (eV w)) (eV u) _ q) eI eI _ (Ce (mK (sA (agk w r u rfl a c e) (sA (Wy w r u rfl a c e) (sA (abR w r u rfl a c e) (sA (aaW w r u rfl a c e) (aK (PJ L M a c e O r u rfl rfl rfl rfl rfl rfl λg v E F=>?_))))))))))
 have x:ps[(i*s+j)%6]?=some (kz ps (i*s+j)):=by
  unfold kz
  refine af dD (af (aF (by rw[l.six];exact jj _ (by decide))) ?_);rfl
 refine PI I ((v 2 (by decide)).trans R) ((v 4 (by decide)).trans S) ((v 5 (by decide)).trans T) ((v 7 (by decide)).trans W) ((v 9 (by decide)).trans rfl) E F l.six x (l.short _ (bh x)) (o.la i j c e) N (o.lit i j c e) (zA H (zT C (by decide))) (o.ajr _ H) (o.ajt i j c e) (o.ajs i j c e) (o.aju i j c e) X z f Y hH A n1 n2 n3 (q g λt f=>(v t (.inl (zA f (by decide)))).trans ?_)
 rw[cG _ _ (bj (zA f (by decide))),cG _ _ (bj (zA f (by decide))),cG _ _ (bj (zA f (by decide))),cG _ _ (bj (zA f (by decide))),cG _ _ (bj (zA f (by decide))),cG _ _ (bj (zA f (by decide))),cG _ _ (bj f)]
end
theorem ah' {J:aZ} (h:a≠b) {x y c d}:(((J.set a x).set b y).set a c).set b d=(J.set a c).set b d:=by
 rw[tL _ _ (qa h),eu,eu]
theorem set_same {J:aZ} (h:J[a]?=some x):J.set a x=J:=by
 obtain⟨b,e⟩:=aj.mp h
 clear h;subst e
 exact List.set_getElem_self b
noncomputable abbrev AP (p:bD×bD):CV:= .tup [.str p.1,.str p.2]
noncomputable def BN (G7:Nat->Nat->Int) (ps:List bD) (s i:Nat) (l:List Nat):List CV:=l.map λj=> .str (px G7 ps s i j)
noncomputable def qH (G7:Nat->Nat->Int) (ps:List bD) (s i:Nat) (l:List Nat):List (bD×bD):=l.map λj=>(rL (i*s+j),px G7 ps s i j)
section
variable {P:cZ} {PS:dZ} {Q:EPost} {n:Nat}
theorem Bd.set (c:Bd J b rows B) {a} {x} (e:a≠b) (f:∀r∈rows,a≠r):Bd (J.set a x) b rows B:=
 ⟨af (aS e) c.hb,c.hl,λi r d e1 e2=>af (aS (f r (bh e1))) (c.hr i r d e1 e2),c.nd,c.nb⟩
theorem ZY {K} (T:Ki P) (W:zo B rows s G7) (X:rY G7 ps s) (x:nL ps) (Y:s<6) (hi:i<s) (hm:0<=m)
  (R:dI≠t) (S:dI≠d) (y:dI≠h) (n4:h≠t) (n5:h≠d) (n6:dI≠b) (n7:h≠b) (n8:∀r∈rows,dI≠r) (n9:∀r∈rows,h≠r):
  ∀k j Z J D f,j+k=s->Bd J b rows B->Z 0=some (.own b)->Z 1=some (.int (s:Nat))->Z 2=some (.lst (sC ps))->Z 4=some (.own dI)->Z 5=some (.int m)->Z 6=some (.int (i:Nat))->Z 7=some (.own t)->
   J[dI]?=some (.list D)->D.length+k<=800->J[t]?=some (.inst 289 (some d))->J[d]?=some (.ns [(qS,.own h)])->J[h]?=some (.list (f.map AP))->f.length+k<=800->
   (∀e:bk,(∀t,t<8->e t=Z t)->K .next e ((J.set dI (.list (D++BN G7 ps s i (bp j k)))).set h (.list ((f++qH G7 ps s i (bp j k)).map AP))))->
   eO ke (iX P PS (n+14) (jc ZZ 1)) ((bp j k).map λj=> .int (j:Nat)) Z J K:=by
 intro k
 induction k with
 |zero=>
  refine λj Z J D f z A C E F G H I L v l g M w o q=>⟨trivial,?_⟩
  have:=q Z λa a=>rfl
  have e1:D++BN G7 ps s i (bp j 0)=D:=bK _
  have e2:f++qH G7 ps s i (bp j 0)=f:=bK _
  rw[e1,e2,set_same v,set_same w] at this
  exact this
 |succ k ih=>
  refine λj Z J D f z A C E F G H I L v l g M w o q=>⟨trivial,cU (SW T A W X x Y hi (z▸fL (gP k)) hm C E F G H I L rfl v (zT zP (zT l (by decide))) g M w (by rw[aC];exact zT zP (zT o (by decide))) R S y λe hk=>?_)⟩
  have c:∀t,t<8->e t=Z t:=λt g=>(hk t (zA g (by decide))).trans (cG _ _ (bj g))
  have N:dI<J.length:=(aj.mp v).1
  refine af ((af qP rfl:f.map AP++[.tup [.str (rL (i*s+j)),.str (px G7 ps s i j)]]=(f++[(rL (i*s+j),px G7 ps s i j)]).map AP)) (ih (j+1) e _ (D++[.str (px G7 ps s i j)]) (f++[(rL (i*s+j),px G7 ps s i j)]) ((pj j k).trans z) ((A.set n6 n8).set n7 n9) ((c 0 (by decide)).trans C) ((c 1 (by decide)).trans E) ((c 2 (by decide)).trans F) ((c 4 (by decide)).trans G) ((c 5 (by decide)).trans H) ((c 6 (by decide)).trans I) ((c 7 (by decide)).trans L)
   ?_ (by refine af ax (af b_ ?_);exact af (ej _ 1 k) (af (fJ 1 k) l)) ?_ ?_ ?_ (by refine af ax (af b_ ?_);exact af (ej _ 1 k) (af (fJ 1 k) o)) λu O=>?_)
  ·rw[aS (qa y),bI N]
  ·refine af (aS n4) (af (aS R) ?_);exact g
  ·refine af (aS n5) (af (aS S) ?_);exact M
  ·rw[bI (af bH ((aj.mp w).1))]
  ·have:=q u λt g=>(O t g).trans (c t g)
   rw[ah' y,aM,aM]
   exact this
end
noncomputable def oU (x:bD):Str:=⟨placed x λi _=>ls x.cps i⟩
noncomputable def wF (es:List (bD×bD)) (name:bD):Option Str:=(es.find? λp=>oU p.1==oU name).map (·.2)
noncomputable def sY (p:Nat):Str:=cond (p%2==0) (cA (65+p)) (cA (97+p))
abbrev Vr (P:cZ):Prop:=∀t d h es name v J (Q:EPost),J[t]?=some (.inst 289 (some d))->J[d]?=some (.ns [(qS,.own h)])->J[h]?=some (.list (es.map AP))->es.length<=900->mR (oU name)=true->name.length<=100->(∀p∈es,p.1.length<=100)->wF es name=some v->
 Q (.str v) J->P.eK 236 [.own t,.str name] [] J Q
noncomputable abbrev dC (R:List (bD×bD)):List (bD×CV):=R.map λp=>(p.1,.str p.2)
noncomputable def md (G7:Nat->Nat->Int) (ps:List bD) (s i:Nat) (l:List Nat):List (bD×bD):=l.map λj=>(cA (97+(i*s+j)),px G7 ps s i j)
theorem ab_ (h:cA a=cA b):a=b:=by
 have:=congrArg (λx:bD=>x.cps.toList) h
 exact List.head_eq_of_cons_eq this
theorem RY (h:∀p∈R,p.1≠x):y_ (dC R) x (.str v)=dC (R++[(x,v)]):=by
 unfold y_
 have e:(dC R).any (λp=>decide (p.1=x))=false:=by
  rw[tr]
  refine λp b=>aG (bO.mp b) λq c a=>eh a ?_
  simpa using h q c
 exact af e (qP (l₂:=[(x,v)]).symm)
theorem Yz:∀p∈qH G7 ps s i l,p.1.length<=100:=λp c=>aG (bO.mp c) λj a b=>eh b (mW (by decide:1<=100) λa=>(by decide:1<=100))
section
variable {P:cZ} {PS:dZ} {Q:EPost} {n:Nat}
theorem ah9 {K} (h:J[r]?=some (.dict (dC R))) (a:R.length<=1000) (b:∀p∈R,p.1≠x) (q:K (J.set r (.dict (dC (R++[(x,v)]))))):setC J (.own r) (.str x) (.str v) K:=by
 show lK J[r]? _
 exact af h ⟨by rw[aC];exact a,(af (RY b) q)⟩
theorem RB {K} (H:Vr P) (F:s<6) (I:i<s) (L:rI≠t) (M:rI≠d) (N:rI≠h) (v:es.length<=900) (w:∀p,p<s*s->mR (oU (sY p))=true) (x:∀p∈es,p.1.length<=100) (O:∀j,j<s->wF es (sY (i*s+j))=some (px G7 ps s i j)):
  ∀k j Z J R,j+k=s->Z 3=some (.own rI)->Z 7=some (.own t)->J[rI]?=some (.dict (dC R))->R.length+k<=800->(∀p∈R,∃z,z<i*s+j/\p.1=cA (97+z))->
   J[t]?=some (.inst 289 (some d))->J[d]?=some (.ns [(qS,.own h)])->J[h]?=some (.list (es.map AP))->
   (∀g:bk,(∀t,t<7->g t=Z t)->K .next g (J.set rI (.dict (dC (R++md G7 ps s i (bp j k))))))->
   eO ke (iX P PS (n+9) (jc ZZ 2)) ((bp j k).map λj=> .int ((i*s+j:Nat):Int)) Z J K:=by
 intro k
 induction k with
 |zero=>
  refine λj Z J R y A B r c C f u D q=>⟨trivial,?_⟩
  have:=q Z λa a=>rfl
  have e1:R++md G7 ps s i (bp j 0)=R:=bK _
  rw[e1,set_same r] at this
  exact this
 |succ k S=>
  intro j Z J R y A B r c C f u D q
  have l:j<s:=y▸fL (gP k)
  have b:i*s+j<s*s:=SY I l
  have m:s*s<=25:=ag (eS (eF F) (eF F)) (by decide)
  refine⟨trivial,cU (aK (gK (mV (aA B ⟨hJ f u rfl,mL (Oq rfl (zA b (zT m (by decide))) (by decide) (by decide) _ (jh (jh (H t d h es _ (px G7 ps s i j) _ _ f u D v (w _ b) (mW (by decide:1<=100) λa=>(by decide:1<=100)) x (O j l) (EA (aA A (uY (mu eI (eV rfl)) (k:=97+(i*s+j)) (by rfl) (zT (zM (ai 97) (zT (zL b) m)) (by decide)) (ah9 r (zT zP (zT c (by decide))) (λp b e=>?_) (mK (bY ?_))))))))))⟩))))⟩
  ·refine aG (C p b) λz G e2=>?_
   have:=ab_ (e2.symm.trans e)
   grind-abstractProof only
  ·refine S (j+1) _ _ (R++[(cA (97+(i*s+j)),px G7 ps s i j)]) ((pj j k).trans y) A B (bI ((aj.mp r).1)) (by refine af ax (af b_ ?_);exact af (ej _ 1 k) (af (fJ 1 k) c)) (λp b=>?_)
    (af (aS L) f) (af (aS M) u) (af (aS N) D) λo E=>?_
   ·rcases bt.mp b with b|b
    ·exact aG (C p b) λz G e2=>(aP z (zA G (bJ zP _)) e2)
    ·exact bl.mp b▸(aP (i*s+j) (ai _) rfl)
   ·have:=q o λt f=>(E t f).trans (cG _ _ (bj (zA f (by decide))))
    rw[eu,aM]
    exact this
end
abbrev acM (P:cZ):Prop:=∀h J (Q:EPost),J[h]?=some (.list [])->Q (.own J.length) (J++[.inst 289 (some (J.length+1)),.ns [(qS,.own h)]])->P.eK 289 [.own h] [] J Q
theorem uB {J:aZ} (h:N<=a):(J.set a x).take N=J.take N:=by
 rw[List.take_set,List.set_eq_of_length_le]
 exact ag (List.length_take_le ..) h
theorem mr {J τ:aZ} {a:Nat} (h:J[a]?=some x):(J++τ)[a]?=some x:=af (cj (aj.mp h).1) h
theorem Bd.pO (a:Bd J b rows B):Bd (J++τ) b rows B:=
 ⟨mr a.hb,a.hl,λi r c e1 e2=>mr (a.hr i r c e1 e2),a.nd,a.nb⟩
noncomputable def ER (G7:Nat->Nat->Int) (ps:List bD) (s:Nat) (l:List Nat):List CV:=l.flatMap λi=>BN G7 ps s i (bp 0 s)
noncomputable def jO (G7:Nat->Nat->Int) (ps:List bD) (s:Nat) (l:List Nat):List (bD×bD):=l.flatMap λi=>md G7 ps s i (bp 0 s)
theorem Rw:pX [.int (a:Nat),.int ((a:Int)+(m:Nat))]=some ((bp 0 m).map λj=> .int ((a+j:Nat):Int)):=by
 show some ((bc ((a:Int)+(m:Nat)-(a:Nat)).toNat).map λk=>CV.int ((a:Int)+(k:Nat)))=_
 refine af (show(a:Int)+(m:Nat)-(a:Nat)=(m:Nat) by grind-abstractProof only) (af iA ?_)
 rfl
section
variable {P:cZ} {PS:dZ} {Q:EPost} {n:Nat}
theorem yS (q:Q (.own J.length) (J++[.list []])):aw P (n+2) Z J (.new (.lst [])) Q:=Az ⟨dY _,q⟩
theorem UM {J:aZ}:(J++[x,y])[J.length]?=some x:=by rw[be (ai _),dw];rfl
theorem UL {J:aZ}:(J++[x,y])[J.length+1]?=some y:=by rw[be (aQ _)];show[x,y][J.length+1-J.length]?=_;rw[ed];rfl
theorem FO {e1 e2} {K} (b:∀Q:EPost,Q (.int (a:Nat)) J->aw P n Z J e1 Q) (c:∀Q:EPost,Q (.int ((a:Int)+(m:Nat))) J->aw P n Z J e2 Q) (d:a+m<1000) (h:K ((bp 0 m).map λj=> .int ((a+j:Nat):Int)) (λ_=>True) J):pE (aw P n) P Z J (.range [e1,e2]) K:=
 mL (K:=λcs J=>tU cs=true/\∃l,pX cs=some l/\K l (λe=>True) J) (b _ (mL (c _ (jh ⟨by
  show((decide (-1000000<(a:Int))&&decide ((a:Int)<1000000))&&((decide (-1000000<(a:Int)+(m:Nat))&&decide ((a:Int)+(m:Nat)<1000000))&&true))=true
  rw[decide_eq_true (by grind-abstractProof only),decide_eq_true (by grind-abstractProof only),decide_eq_true (by grind-abstractProof only),decide_eq_true (by lia)];rfl,_,Rw,h⟩))))
theorem Jk (a:Bd J b rows B):∀r∈rows,r<J.length:=λr hr=>by
 obtain⟨i,c⟩:=lR.mp hr
 have hl:i<B.length:=a.hl▸(aj.mp c).1
 exact(aj.mp (a.hr i r _ c (aF hl))).1
theorem Wu {b:Nat} {rows:List Nat} {B:List (List Lt)} {G7:Nat->Nat->Int} {ps:List bD} {s rI dI:Nat} {m:Int} {g:aZ} {K:fA} (hA:Ki P) (hG:Vr P) (hN:acM P) (hC:zo B rows s G7) (hX:rY G7 ps s) (a5:nL ps) (hs:s<6) (hm:0<=m)
  (a6:∀p,p<s*s->mR (oU (sY p))=true) (hf:∀i j,i<s->j<s->wF (qH G7 ps s i (bp 0 s)) (sY (i*s+j))=some (px G7 ps s i j))
  (n0:dI≠rI) (n1:dI≠b) (n2:∀r∈rows,dI≠r) (n3:rI≠b) (n4:∀r∈rows,rI≠r) (z1:g.length<=dI) (z2:g.length<=rI):
  ∀(k i:Nat) (Z:bk) (J:aZ) (D:List CV) (R:List (bD×bD)),i+k=s->Bd J b rows B->Z 0=some (.own b)->Z 1=some (.int (s:Nat))->Z 2=some (.lst (sC ps))->Z 3=some (.own rI)->Z 4=some (.own dI)->Z 5=some (.int m)->
   J[dI]?=some (.list D)->D.length<=10*i->J[rI]?=some (.dict (dC R))->R.length<=10*i->(∀p∈R,∃z,z<i*s/\p.1=cA (97+z))->J.take g.length=g->
   (∀(O:bk) (aO:aZ),(∀t,t<6->O t=Z t)->aO.take g.length=g->aO[dI]?=some (.list (D++ER G7 ps s (bp i k)))->aO[rI]?=some (.dict (dC (R++jO G7 ps s (bp i k))))->K .next O aO)->
   eO ke (iX P PS (n+15) (jc rN 1)) ((bp i k).map λi=> .int (i:Nat)) Z J K:=by
 intro k
 induction k with
 |zero=>
  intro i Z J D R hi hB h0 A h2 h3 h4 h5 hD C hR E F G q
  exact⟨trivial,q Z J (λz_ z_=>rfl) G (by rw[show D++ER G7 ps s (bp i 0)=D from bK _];exact hD) (by rw[show R++jO G7 ps s (bp i 0)=R from bK _];exact hR)⟩
 |succ k ih=>
  intro i Z J D R hi hB h0 A h2 h3 h4 h5 hD C hR E F G q
  have y:=(aj.mp hD).1
  have S:=(aj.mp hR).1
  have lb:=(aj.mp hB.hb).1
  have lr:=Jk hB
  have u:s<=5:=eF hs
  have a7:s*s<=25:=ag (eS u u) (by decide)
  have l:i<s:=hi▸fL (gP k)
  have T:10*i<=50:=aX 10 (zT (zL l) u)
  have o:i<1000:=zA l (zT u (by decide))
  refine⟨trivial,cU ?_⟩
  have H:i*s+s<=s*s:=pg i s▸cP s l
  let f:aZ:=J++[.list []]
  let τ:aZ:=f++[.inst 289 (some (f.length+1)),.ns [(qS,.own J.length)]]
  have l0:f.length=J.length+1:=by rw[ax];rfl
  have gh:τ[J.length]?=some (.list (([]:List (bD×bD)).map AP)):=mr lD
  have gt:τ[f.length]?=some (.inst 289 (some (f.length+1))):=UM
  have gd:τ[f.length+1]?=some (.ns [(qS,.own J.length)]):=UL
  have ga:∀{a:Nat} {x:MO},J[a]?=some x->τ[a]?=some x:=λh=>mr (mr h)
  have W:Bd τ b rows B:=hB.pO.pO
  have lT:∀{a},a<J.length->a<f.length:=λh=>zA h (zT zP (zE l0.symm))
  have neT:∀{a},a<J.length->a≠f.length:=λh=>bj (lT h)
  have I:∀{a},a<J.length->a≠f.length+1:=λh=>bj (dO (lT h))
  have X:J.length<f.length:=zA zU (zE l0.symm)
  have nb:=bZ lb
  have nr:=λr hr=>bZ (lr r hr)
  refine ZW (τ:=τ) (c:= .own f.length) (λQ q=>lU (mL (yS (jh (hN J.length f _ lD q))))) ?_
  refine aK (lS (mi (eV (by exact A)) (zA hs (by decide)) ?_))
  rw[iA]
  refine ZY (n:=n) (i:=i) hA hC hX a5 hs l hm (dI:=dI) (t:=f.length) (d:=f.length+1) (h:=J.length) (b:=b) (rows:=rows) (neT y) (I y) (bj y) (bj X) (bj (dO X)) n1 nb n2 nr
   s 0 _ τ D [] (dJ s) W (by exact h0) (by exact A) (by exact h2) (by exact h4) (by exact h5) rfl rfl (ga hD) (zT (zM (zT C T) u) (by decide)) gt gd gh (zT (zM (ai 0) u) (by decide)) λv L=>?_
  have Y:∀t,t<6->v t=Z t:=λt w=>(L t (zA w (by decide))).trans ((cG _ _ (bj (zA w (by decide)))).trans (cG _ _ (bj w)))
  have g6:v 6=some (.int (i:Nat)):=(L 6 (by decide)).trans rfl
  have g7:v 7=some (.own f.length):=(L 7 (by decide)).trans rfl
  have a0:τ.length=J.length+3:=by rw[ax,l0];rfl
  have a3:J.length<=τ.length:=zT zP (zE a0.symm)
  have hv:(BN G7 ps s i (bp 0 s)).length=s:=by rw[BN,aC,eM]
  have he:(qH G7 ps s i (bp 0 s)).length=s:=by rw[qH,aC,eM]
  have a8:(md G7 ps s i (bp 0 s)).length=s:=by rw[md,aC,eM]
  refine mK (aK (lS (FO (a:=i*s) (m:=s) (λQ q=>FP g6 ((Y 1 (by decide)).trans A) o q) (λQ q=>mu (λQ=>FP g6 ((Y 1 (by decide)).trans A) o) (eV ((Y 1 (by decide)).trans A)) _ q) (zB (zT H a7) (by decide)) ?_)))
  refine RB (n:=n+5) (i:=i) (es:=qH G7 ps s i (bp 0 s)) hG hs l (rI:=rI) (t:=f.length) (d:=f.length+1) (h:=J.length) (neT S) (I S) (bj S) (zT (zE he) (zT u (by decide))) a6 Yz (hf i · l) s 0 v _ R (dJ s) ((Y 3 (by decide)).trans h3) g7
   (by rw[aS (bZ S),aS n0];exact ga hR) (zT (zM (zT E T) u) (by decide)) F
   (by rw[aS (bj X),aS (neT y)];exact gt) (by rw[aS (bj (dO X)),aS (I y)];exact gd) (by rw[bI (by rw[bH,a0];exact fL (by decide))];rfl) λa4 a9=>?_
  have M:∀t,t<6->a4 t=Z t:=λt w=>(a9 t (zA w (by decide))).trans (Y t w)
  have N:g.length<=J.length:=zL (zB z1 y)
  refine mK (bY ?_)
  refine ih (i+1) a4 _ (D++BN G7 ps s i (bp 0 s)) (R++md G7 ps s i (bp 0 s)) ((pj i k).trans hi) (((W.set n1 n2).set nb nr).set n3 n4)
   ((M 0 (by decide)).trans h0) ((M 1 (by decide)).trans A) ((M 2 (by decide)).trans h2) ((M 3 (by decide)).trans h3) ((M 4 (by decide)).trans h4) ((M 5 (by decide)).trans h5) ?_ (by rw[ax,hv];exact zM C (zT u (by decide))) ?_ (by rw[ax,a8];exact zM E (zT u (by decide))) (λp H=>?_) ?_ λb0 b1 b3 e1 e2 e3=>?_
  ·rw[aS (qa n0),aS (bZ y),bI (zA y a3)]
  ·rw[bI (by rw[bH,bH];exact zA S a3)]
  ·rcases bt.mp H with H|H
   ·obtain⟨z,hz,e⟩:=F p H
    exact⟨z,av hz (cP _ (aQ i)),e⟩
   ·refine nQ (bO.mp H) λj hj=>?_
    exact⟨i*s+j,by rw[pg];exact iU (dJ s▸(tn.mp hj).2) _,rfl⟩
  ·rw[uB z2,uB N,uB z1,iy (zT N (zL X)),iy N]
   exact G
  ·refine q b0 b1 (λt w=>(b3 t w).trans (M t w)) e1 ?_ ?_
   ·rw[aM] at e2;exact e2
   ·rw[aM] at e3;exact e3
end
abbrev acO (P:cZ):Prop:=∀r R J (Q:EPost),J[r]?=some (.dict (dC R))->R.length<=1000->Q (.lst (sC (R.map (·.2)))) J->P.ext e4 [.own r] J Q
theorem xK l:sq 6 (.lst (sC l)) (.lst (sC l))=true/\lN 6 (.lst (sC l)) (.lst (sC l))=true:=by
 have b:∀l:List bD,((sC l).zip (sC l)).all (λp=>sq 5 p.1 p.2)=true:=by
  intro l
  induction l with
  |nil=>rfl
  |cons x l a=>exact a
 have c:∀l:List bD,((sC l).zip (sC l)).all (λp=>lN 5 p.1 p.2)=true:=by
  intro l
  induction l with
  |nil=>rfl
  |cons x l a=>exact aq.mpr ⟨beq_self_eq_true x,a⟩
 refine⟨b l,?_⟩
 show((sC l).length==(sC l).length&&((sC l).zip (sC l)).all λp=>lN 5 p.1 p.2)=true
 rw[beq_self_eq_true,c l];rfl
theorem Ky l:sC ((jO G7 ps s l).map (·.2))=ER G7 ps s l:=by
 rw[sC,jO,pU,pU]
 refine congrArg (l.flatMap) (funext λi=>?_)
 rw[md,fW,fW]
 rfl
noncomputable def oa (B:List (List Lt)):List CV:=B.flatMap λa=>a.map λx=> .int x.2
theorem Lr:∀l x,0<=x->(∀y∈l,0<=y)->0<=oS x l:=by
 intro l
 induction l with
 |nil=>
  exact λb h b=>h
 |cons y l c=>
  intro x h a
  show 0<=oS (match decide (y<x) with|true=>y|false=>x) l
  refine c _ ?_ λz d=>a z (aB _ d)
  induction decide (y<x) using cB with
  |true=>exact a y az
  |false=>exact h
theorem RG:∀l:List Int,numsOf (l.map .int)=some l:=by
 intro l
 induction l with
 |nil=>
  exact rfl
 |cons x l a=>
  show(some x).bind (λy=>(numsOf (l.map .int)).map (y:: ·))=_
  refine af a ?_;rfl
section
variable {P:cZ} {PS:dZ} {Q:EPost} {n:Nat} {Z:bk} {J:aZ}
theorem AA (h:Z i=some c) (q:P.ext k [c] J Q):aw P (n+1) Z J (.ext k [i]) Q:=by
 show match iV Z [i] with|some cs=>P.ext k cs J Q|none=>False
 exact show iV Z [i]=some [c] by unfold iV;refine af h ?_;rfl▸q
theorem abk {K} (s:g J) (rs:List Nat) B:∀f Z,rs.length=B.length->(∀(i r:Nat) d,rs[i]?=some r->B[i]?=some d->J[r]?=some (.list (d.map fU)))->f.length+(oa B).length<=1000->K (f++oa B) J->
  gD g (λc f J Q=>du (aw P (n+3)) (.var 24) c Z J (λZ J=>lI (T Z) [] J (λb J=>Br b (gE (aw P (n+3)) T (pE (aw P (n+3)) P) (.var 26) [(.mk (.tup [(.var 25),(.var 26)]) (.val (.var 24)) [])] Z f J Q) (Q f J)))) (rs.map CV.own) f J K:=by
 induction rs,B using ll with
 |nn=>exact λf Z a a a q=>⟨s,by rw[show oa []=[] from rfl,bK] at q;exact q⟩
 |nc=>exact λf Z h a a a=>WQ h
 |cn=>exact λf Z h a a a=>WO h
 |cc r rs d B m=>
  intro f Z v u k q
  have e:oa (d::B)=(d.map λx=>CV.int x.2)++oa B:=gR
  rw[e] at k q
  rw[ax,aC] at k
  have j:=u 0 r d rfl rfl
  refine⟨s,cU (Br.t (uL (aA rfl (aP (d.map fU) ?_ ?_))))⟩
  ·show(match J[r]? with|some (.list l)=>some l|_=>none)=_
   rw[j]
  ·have o:∀l:List Lt,Tx P (n+3) (upd Z 24 (.own r)) J (.tup [.var 25,.var 26]) (.var 26) (l.map fU) (l.map λx=> .int x.2):=by
    intro l
    induction l with
    |nil=>exact trivial
    |cons x l m=>exact⟨λQ q=>ip (cU (cU (aA rfl q))),m⟩
   refine Cr (g:=uF J (.own r)) rfl rfl (d.map fU) (d.map λx=> .int x.2) f (o d) (by rw[aC];exact zT (bJ zP _) k) (m _ Z (nh v) (λi r d w=>u (i+1) r d w) (by rw[ax,aC];exact zT (zE (ej ..)) k) ?_)
   rw[aM];exact q
theorem RP (q:Q (.own J.length) (J++[.dict []])):aw P (n+2) Z J (.new (.gx [] [])) Q:=Az (iJ rfl (dY _) .nil q)
theorem Xn (a:Bd J b rows B) (d:Z 0=some (.own b)) {m0} {c} (e:oa B=(m0::c).map .int) (f:(oa B).length<=1000):∀Q:EPost,Q (.int (oS m0 c)) J->
  aw P (n+5) Z J (.bi .min [(.comp (.var 26) [(.mk (.var 24) (.val (.var 0)) []),(.mk (.tup [(.var 25),(.var 26)]) (.val (.var 24)) [])])]) Q:=λQ q=>by
 refine nV (qj (uL (aA d (aP (rows.map CV.own) ?_ (abk (g:=uF J (.own b)) rfl rows B [] Z a.hl a.hr (by rw[vL,dJ];exact f) (af e (.inl (fX m0 c (RG _) q))))))))
 ·show(match J[b]? with|some (.list l)=>some l|_=>none)=_
  rw[a.hb]
theorem Yg (a:k<=r) (h:J[r]?=some (.dict (dC R))):pL 8 k J (.own r)=some (.gx (dC R)):=by
 show(match decide (r<k) with|true=>_|false=>_)=_
 refine af (decide_eq_false (bL.mpr a)) (af h ?_)
 show(hU (λp:bD×CV=>(pL 7 k J p.2).map λc=>(p.1,c)) (dC R)).map CV.gx=_
 have:∀R:List (bD×bD),hU (λp:bD×CV=>(pL 7 k J p.2).map λc=>(p.1,c)) (dC R)=some (dC R):=by
  intro R
  induction R with
  |nil=>rfl
  |cons p R b=>
   show(some (p.1,CV.str p.2)).bind (λy=>(hU (λp:bD×CV=>(pL 7 k J p.2).map λc=>(p.1,c)) (dC R)).map (y:: ·))=_
   refine af b ?_;rfl
 rw[this];rfl
theorem Yr {τ:aZ} (a:τ.take J.length=J) (h:pL 8 J.length τ c=some b) (q:Q b J):fG J Q (.ret c) (λ_=>none) τ:=
 (oW c b rfl h (.inl a) (af a q))
noncomputable def kF (G7:Nat->Nat->Int) (ps:List bD) (s:Nat):List (bD×bD):=jO G7 ps s (bp 0 s)
theorem NS (z:Ki P) (A:Vr P) (C:acM P) (f:acO P) (d:Bd J b rows B) (D:zo B rows s G7) (E:rY G7 ps s) (g:nL ps) (e:s<6)
  (h:∀p,p<s*s->mR (oU (sY p))=true) (F:∀i j,i<s->j<s->wF (qH G7 ps s i (bp 0 s)) (sY (i*s+j))=some (px G7 ps s i j)) (G:oa B=(m0::k).map .int) (H:(oa B).length<=1000) (I:0<=m0) (L:∀y∈k,0<=y)
  (q:Q (lY (kF G7 ps s)) J):bX (wpS P PS (n+16)) rN (U [some (.own b),some (.int (s:Nat)),some (.lst (sC ps))]) J (fG J Q):=by
 have v:=(aj.mp d.hb).1
 have w:=Jk d
 have M:∀Q:EPost,Q (.tup [.own J.length,.own (J++[MO.dict []]).length,.int (oS m0 k)]) (J++[.dict []]++[.list []])->aw P (n+15) (U [some (.own b),some (.int s),some (.lst (sC ps))]) J (.tup [(.new (.gx [] [])),(.new (.lst [])),(.bi .min [(.comp (.var 26) [(.mk (.var 24) (.val (.var 0)) []),(.mk (.tup [.var 25,.var 26]) (.val (.var 24)) [])])])]) Q:=λQ q=>
  Ay (RP (yS (Xn d.pO.pO rfl G H _ ⟨pv,q⟩)))
 refine aK (gK (M _ (Ce (mK (aK (lS (mi (eV rfl) (zA e (by decide)) (af iA ?_))))))))
 have ld:(J++[MO.dict []]).length=J.length+1:=ax
 refine Wu z A C D E g e (Lr k m0 I L) h F (bZ (zA zU (zE ld.symm))) (bZ (zA (zA v zP) (zE ld.symm))) (λr m=>by have:=w r m;exact bZ (zA this (zT zP (zE ld.symm)))) (bZ v) (λr m=>by have:=w r m;exact bZ this) (by lia) (ai _)
  s 0 _ _ [] [] (by grind-abstractProof only) d.pO.pO rfl rfl rfl rfl rfl rfl lD (dY _) (mr lD) (dY _) (λa=>bw) (by rw[iy (by lia),kl]) λo aO x u e1 e2=>mK (aK (jA ?_))
 have g3:o 3=some (.own J.length):=(x 3 (by decide)).trans rfl
 have c:(jO G7 ps s (bp 0 s)).length<=1000:=by
  have:∀l:List Nat,(jO G7 ps s l).length=s*l.length:=by
   intro l
   induction l with
   |nil=>rfl
   |cons i l N=>
    show(md G7 ps s i (bp 0 s)++jO G7 ps s l).length=_
    rw[ax,N,md,aC,eM,bS,MK,fJ]
  rw[this,eM]
  exact ag (eS (eF e) (eF e)) (by decide)
 refine jS (dp (AA g3 (f _ _ _ _ e2 c (aA ((x 4 (by decide)).trans rfl) ?_))))
 rw[oI e1,<-Ky]
 exact⟨(xK _).1,(af ((xK _).2) (Br.t (aA g3 (Yr u (Yg (ai _) e2) q))))⟩
end
noncomputable def qF (ln:Int) (st pb:Nat):List (bD×CV):=[("lineno",.int ln),("instream",.own st),("whitespace",.str "\n\t\r "),("pushback",.own pb)]
structure Lx (J:aZ) (t d pb:Nat) ln st:Prop where
 hi:J[t]?=some (.inst 139 (some d))
 hd:J[d]?=some (.ns (qF ln st pb))
 n1:pb≠t
 n2:pb≠d
abbrev Hl (P:cZ):Prop:=∀t d pb st ln l x J (Q:EPost),Lx J t d pb ln st->J[pb]?=some (.list l)->l.length<=900->Q .none (J.set pb (.list (l++[.str x])))->P.eK 136 [.own t,.str x] [] J Q
abbrev Qm (P:cZ):Prop:=∀t d pb st ln l x J (Q:EPost),Lx J t d pb ln st->J[pb]?=some (.list (.str x::l))->l.length<=900->Q (.str x) (J.set pb (.list l))->P.eK 129 [.own t] [] J Q
section
variable {P:cZ} {PS:dZ} {Q:EPost} {n:Nat} {Z:bk} {J:aZ}
theorem Lx.set {t d pb st} (h:Lx J t d pb ln st) {x}:Lx (J.set pb x) t d pb ln st:=⟨af (aS h.n1) h.hi,af (aS h.n2) h.hd,h.n1,h.n2⟩
theorem aaK (h:aw P n Z J o (λa J=>JH c J a x (λc=>Q c J))):aw P (n+1) Z J (.attr c o x) Q:=h
theorem qp (h:Z o=some (.own t)) (a:J[t]?=some (.inst c (some d))) (b:J[d]?=some (.ns l)) (e:l.lookup x=some v) (f:Lc v=true):∀Q:EPost,Q v J->aw P (n+2) Z J (.attr c (.var o) x) Q:=λQ q=>aaK (aA h (hJ a b (af e ⟨f,q⟩)))
theorem aaQ:∀{l},pz k l=true->pz k (l++[.str x])=true:=by
 intro l
 induction l with
 |nil=>
  exact λe=>rfl
 |cons c l a=>
  intro h
  obtain⟨b,d⟩:=aq.mp h
  exact aq.mpr ⟨b,a d⟩
theorem Lw {k:Nat} (a:J.all (hM J.length)=true) (h:J[k]?=some (.list l)):pz J.length l=true:=aV.mp a (.list l) (bh h)
theorem Ry {t d pb st} (c:Lx J t d pb ln st) (b:J[pb]?=some (.list l)) (e:l.length<=900) (a:J.all (hM J.length)=true) (q:Q .none (J.set pb (.list (l++[.str x])))):bX (wpS P PS 10) Cj (U [some (.own t),some (.str x)]) J (fG J Q):=
 aK (EB (qp rfl c.hi c.hd rfl rfl _ (ml b (aA rfl (ml b ⟨dK (zT e (by decide)),mK (bY (Gz a (aaQ (Lw a b)) q))⟩)))))
theorem Yt (b:J.all (hM J.length)=true) (d:hM J.length m=true) (a:∀aO,pL 8 J.length aO c=some c) (q:Q c (J.set r m)):fG J Q (.ret c) (λ_=>none) (J.set r m):=by
 have e:(J.set r m).take J.length=J.set r m:=gQ (af bH (ai _))
 refine(oW c c rfl (a _) (.inr (af e (aV.mpr λx f=>?_))) (af e q))
 clear e q a;rcases js f with h|rfl
 ·exact aV.mp b x h
 ·exact d
theorem Uv {K} (h:aw P n Z J (.attr c o x) (λc J=>nU (eC J c) (λb=>K b J))):gm (aw P n) Z (k+1) J (.attr c o x) K:=h
theorem Ow (h:aw P n Z J o (λa J=>afF J a Q)):aw P (n+1) Z J (.Jo o) Q:=h
theorem WD {t d pb st} (c:Lx J t d pb ln st) (e:J[pb]?=some (.list (.str x::l))) (f:l.length<=900) (b:J.all (hM J.length)=true) (q:Q (.str x) (J.set pb (.list l))):bX (wpS P PS 10) (jc uN 0::rest) (U [some (.own t)]) J (fG J Q):=aK (fM (Uv (qp rfl c.hi c.hd rfl rfl _ (af (oI e) (⟨dK (zT (zS f) (by decide)),Br.t (aK (jA (Ow (qp rfl c.hi c.hd rfl rfl _ (ml e ⟨dK (by show l.length+1<=1000;exact zT (zS f) (by decide)),(Yt b (aq.mp (Lw b e)).2 (λa=>rfl) q)⟩)))))⟩)))))
end
noncomputable def Cc (ps:List bD) (k c:Nat) (text:bD) (m:Int):Int:=cond (m==0) (cond (cA c==")") (cond (gL (text++(kz ps k++cA c))) (k:Nat) 0) m) m
noncomputable def Cd (ps:List bD):List Nat->Nat->bD->Int->Int
 |[],_,_,m=>m
 |c::l,k,text,m=>Cd ps l (k+1) (text++(kz ps k++cA c)) (Cc ps k c text m)
noncomputable abbrev jQ (l:List Nat):List CV:=l.map λc=> .str (cA c)
noncomputable abbrev aiR (p:Nat×Nat):CV:= .tup [.int (p.1:Nat),.str (cA p.2)]
noncomputable def tA (l:List Nat) (k:Nat):List CV:=match l with
 |[]=>[]
 |c::l=>aiR (k,c)::tA l (k+1)
section
variable {P:cZ} {PS:dZ} {Q:EPost} {n:Nat}
theorem Av {K} (h:Z i=some (.str a)) (d:∀Q:EPost,Q (.str b) J->aw P n Z J e Q) (f:a.length+b.length<=1000) (q:K .next (upd Z i (.str (a++b))) J):wpS P PS (n+1) (.aug i .Add e) Z J K:=by
 show(match Z i with|some a=>aw P n Z J e (λb J=>wU .Add (eC J a) (eC J b) (λc=>K .next (upd Z i c) J))|none=>False)
 exact af h (d _ ⟨dK f,q⟩)
theorem Cf {e1 e2} {K} (a:∀K:Bool->aZ->Prop,K c J->gm (aw P n) Z k J e1 K) (d:∀K:Bool->aZ->Prop,K b2 J->gm (aw P n) Z k J e2 K) (q:K (c&&b2) J):gm (aw P n) Z (k+1) J (.band [e1,e2]) K:=
 a _ (by
  clear a;induction c using cB with
  |false=>exact Br.f q
  |true=>exact Br.t (d _ (Br.id (K:=λb=>K b J) q)))
theorem FC (f:Z b=some (.lst (sC ps))) (g:Z v=some (.int (p:Nat))) (h:Z w=some (.str (cA c))) (d:nL ps):∀Q:EPost,Q (.str (kz ps p++cA c)) J->
  aw P (n+4) Z J (.bin .Add (.idx (.var b) (.bin .Mod (.var v) (.cst (.int (6))))) (.var w)) Q:=λQ q=>by
 have e:p%6<ps.length:=by rw[d.six];exact jj _ (by decide)
 have a:ps[p%6]?=some (kz ps p):=by
  unfold kz
  refine af dD (af (aF e) ?_);rfl
 have i:∀Q:EPost,Q (.str (kz ps p)) J->aw P (n+3) Z J (.idx (.var b) (.bin .Mod (.var v) (.cst (.int 6)))) Q:=λQ q=>iG (aA f (DG (by decide) (eV g) _ (af ((cy _ (by decide):(p:Int).fmod 6=((p%6:Nat):Int))) (⟨ahf (zA (jj _ (by decide:0<6)) (by decide)),p%6,_,jg (by rw[aC];exact e),dh.trans (a▸rfl),q⟩))))
 have:=d.short _ (bh a)
 exact mY (by show _+1<=1000;exact zT (zS this) (by decide)) i (eV h) _ q
theorem Jp (a:nL ps) p:(kz ps p).length<=20:=by
 have b:p%6<ps.length:=by refine af a.six ?_;exact jj _ (by decide)
 unfold kz
 refine af dD (af (aF b) ?_)
 exact a.short _ (ko b)
theorem agx {t d pb st} {K} (x:Hl P) (y:Bj P) (D:nL ps):∀l k text m Z J h,Z 0=some (.own t)->Z 2=some (.lst (sC ps))->Z 3=some (.str text)->Z 4=some (.int m)->Lx J t d pb ln st->J[pb]?=some (.list h)->h.length+l.length<=800->text.length+21*l.length<=900->
  (∀b:bk,(∀t,t<3->b t=Z t)->b 4=some (.int (Cd ps l k text m))->K .next b (J.set pb (.list (h++jQ l))))->eO ke (iX P PS (n+10) (jc oA 1)) (tA l k) Z J K:=by
 intro l
 induction l with
 |nil=>
  intro k text m Z J h z A E u j v w g q
  have:=q Z (λa a=>rfl) u
  rw[show h++jQ []=h from bK _,set_same v] at this
  exact⟨trivial,this⟩
 |cons c l H=>
  intro k text m Z J h z A E u j v w g q
  rw[bS] at w g
  have o:=Jp D k
  have lt':(text++(kz ps k++cA c)).length<=text.length+21:=by rw[ee,ee];show _+(_+1)<=_;exact bJ (zT (zS o) (by decide)) _
  refine⟨trivial,ip (cU (cU (aK (uK (mV (aA z ⟨hJ j.hi j.hd rfl,mL (aA rfl (jh (jh (x t d pb st ln h (cA c) J _ j v (zT zP (zT w (by decide))) (mK ?_)))))⟩))))))⟩
  have next:∀b:bk,(∀t,t<3->b t=Z t)->b 3=some (.str (text++(kz ps k++cA c)))->b 4=some (.int (Cc ps k c text m))->eO ke (iX P PS (n+10) (jc oA 1)) (tA l (k+1)) b (J.set pb (.list (h++[.str (cA c)]))) K:=λb B g3 I=>
   H (k+1) _ _ b _ (h++[.str (cA c)]) ((B 0 (by decide)).trans z) ((B 2 (by decide)).trans A) g3 I j.set (bI (aj.mp v).1) (by refine af ax (af b_ ?_);exact zI w) (zT (zS lt') (zT (zE zW) g)) λr C e=>by
    have:=q r (λt g=>(C t g).trans (B t g)) e
    rw[eu,aM]
    exact this
  refine aK (Av E (FC A rfl rfl D) (show text.length+(kz ps k++cA c).length<=1000 by rw[ee];show _+(_+1)<=1000;exact zT (zM (zT zP g) (zS o)) (by decide)) (mK (aK (fM (Cf (λK q=>dp (aA u (bx q))) (λK q=>dp (aA rfl (bx q))) ?_)))))
  have i:∀{L M N} t,t<3->upd (upd (upd Z 5 L) 6 M) 3 N t=Z t:=λt g=>by
   rw[cG _ _ (bj g),cG _ _ (bj (zA g (by decide))),cG _ _ (bj (zA g (by decide)))]
  induction s:m==0&&cA c==")" using cB with
  |false=>
   refine Br.f (bY (mK (bY (next _ i rfl ?_))))
   show Z 4=_
   rw[u]
   unfold Cc
   induction F:m==0 using cB with
   |false=>rfl
   |true=>
    rw[F] at s
    have s:(cA c==")")=false:=s
    refine af s (af (eq_of_beq F) ?_)
    rfl
  |true=>
   obtain⟨O,b2⟩:=aq.mp s
   refine Br.t (sA (λQ q=>lU (mL (aA rfl (jh (y _ _ _ (by grind-abstractProof only) q))))) (sA (λQ q=>?_) (sN (bY (next _ (λt g=>(af (cG _ _ (bj (zA g (by decide)))) (af (cG _ _ (bj (zA g (by decide)))) (i t g)))) rfl rfl)))))
   ·unfold Cc at q
    rw[O,b2] at q
    refine jS (dp (aA rfl (bx (aP _ rfl ?_))))
    induction G:gL (text++(kz ps k++cA c)) using cB with
    |true=>
     rw[G] at q
     exact Br.t (aA rfl q)
    |false=>
     rw[G] at q
     exact Br.f (jS (dp (aA rfl (bx (aP _ rfl (Br.t (bx q)))))))
end
noncomputable def sP (m:Int):List Nat->Nat->List bD
 |[],_=>[]
 |c::l,p=>cond ((p:Int)==m) "(" (cA c)::sP m l (p+1)
theorem WW m:∀l p,(sP m l p).length=l.length:=by
 intro l
 induction l with
 |nil=>
  exact λc=>rfl
 |cons a l b=>
  exact λp=>congrArg BA (b (p+1))
theorem WV m:∀l p,∀x∈sP m l p,x.length<=1:=by
 intro l
 induction l with
 |nil=>
  exact λd x=>bw
 |cons c l b=>
  intro p x h
  rcases aE.mp h with rfl|h
  ·exact mW (by decide:1<=1) λa=>(by decide:1<=1)
  ·exact b (p+1) x h
section
variable {P:cZ} {PS:dZ} {Q:EPost} {n:Nat}
theorem LM {t d pb st} (b:Qm P) (c:Z 0=some (.own t)) (a:Lx J t d pb ln st) (e:J[pb]?=some (.list (.str x::l))) (f:l.length<=900):∀Q:EPost,Q (.str x) (J.set pb (.list l))->aw P (n+2) Z J (.gJ 139 129 (aa "get_token") (.var 0) [] [] []) Q:=λQ q=>
 mV (aA c ⟨hJ a.hi a.hd rfl,jh (jh (b t d pb st ln l x J _ a e f q))⟩)
theorem Un {t d pb st} (a:Hl P) (c:Z 0=some (.own t)) (b:Lx J t d pb ln st) (f:J[pb]?=some (.list l)) (g:l.length<=900) (h:∀Q:EPost,Q (.str x) J->aw P (n+1) Z J e Q):∀Q:EPost,Q .none (J.set pb (.list (l++[.str x])))->aw P (n+2) Z J (.gJ 139 136 (aa "push_token") (.var 0) [e] [] []) Q:=λQ q=>
 mV (aA c ⟨hJ b.hi b.hd rfl,mL (h _ (jh (jh (a t d pb st ln l x J _ b f g q))))⟩)
theorem agw {t d pb st} {K} (o:Hl P) (v:Qm P):∀l p done Z J,Z 0=some (.own t)->Z 4=some (.int m)->Lx J t d pb ln st->J[pb]?=some (.list (jQ l++sC done))->l.length+done.length<=800->
  (∀b:bk,(∀t,t<5->b t=Z t)->K .next b (J.set pb (.list (sC (done++sP m l p)))))->eO ke (iX P PS (n+10) (jc oA 3)) ((bp p l.length).map λj=> .int (j:Nat)) Z J K:=by
 intro l
 induction l with
 |nil=>
  intro p done Z J g r h i u q
  have:=q Z λa a=>rfl
  rw[show done++sP m [] p=done from bK _,set_same (show J[pb]?=some (.list (sC done)) from i)] at this
  exact⟨trivial,this⟩
 |cons c l w=>
  intro p done Z J g r h i u q
  rw[bS] at u
  have e:=(aj.mp i).1
  have f:(jQ l++sC done).length<=900:=by rw[ax,aC,aC];grind only
  refine⟨trivial,cU (ZW (λQ=>LM v (by exact g) h i f Q) (aK (uK (Un (x:=cond (p==m) "(" (cA c)) o (by exact g) h.set (bI e) f (λQ q=>?_) _ (mK (bY ?_))))))⟩
  ·exact Sm (op:= .Eq) (λK k=>k) (eV rfl) (eV (by exact r)) (λa=>eI) (λa=>eV rfl) _ (ry▸q)
  ·rw[eu,aM,Ag]
   refine w (p+1) (done++[cond (p==m) ("(" :bD) (cA c)]) _ _ g r h.set (bI e) (by refine af ax (af b_ ?_);grind only) λb y=>?_
   have:=q b λt s=>(y t s).trans ((cG _ _ (bj (zA s (by decide)))).trans (cG _ _ (bj s)))
   rw[eu,aM]
   exact this
theorem aih {t d pb st} {K} (j:Qm P) (k:∀c,upd Z v c 0=some (.own t)) toks items:∀e J,items.length=toks.length->Lx J t d pb ln st->J[pb]?=some (.list (sC toks))->e.length+toks.length<=800->K (e++sC toks) (J.set pb (.list []))->
  gD ke (λc e J Q=>du (aw P (n+2)) (.var v) c Z J (λZ J=>lI (T Z) [] J (λb J=>Br b (gE (aw P (n+2)) T I (.gJ 139 129 (aa "get_token") (.var 0) [] [] []) [] Z e J Q) (Q e J)))) items e J K:=by
 induction toks,items using ll with
 |nn=>exact λe J a i g f q=>⟨trivial,by
  rw[show e++sC []=e from bK _,show J.set pb (.list [])=J from set_same g] at q;exact q⟩
 |nc=>exact λe J h a a a a=>WO h
 |cn=>exact λe J h a a a a=>WQ h
 |cc x toks c items l=>
  intro e J m i g f q
  rw[bS] at f
  refine⟨trivial,cU (Br.t (LM j (k c) i g (by rw[aC];exact zT zP (zT zQ (zT f (by decide)))) _ ⟨dK (zT zP (zT f (by decide))),(l (e++[.str x]) _ (nh m) i.set (bI ((aj.mp g).1)) (by refine af ax (af b_ ?_);exact zI f) ?_)⟩))⟩
  rw[eu,aM]
  exact q
theorem enum_zip:∀l k,((l.map λc=>CV.str ⟨#[c]⟩).zipIdx k).map (λp=>CV.tup [.int (p.2:Nat),p.1])=tA l k:=by
 intro l
 induction l with
 |nil=>
  exact λb=>rfl
 |cons c l a=>
  exact λk=>congrArg (aiR (k,c):: ·) (a (k+1))
noncomputable def jZ (l:List Nat):Str:=⟨l.toArray⟩
noncomputable def oO (ps:List bD) (a:List Nat):Str:=lM "" (sP (Cd ps a 0 "" 0) a.tail 1++[(")" :bD)])
theorem Jx {K} (a:∀Q:EPost,Q (.str (jZ l)) J->aw P n Z J e Q) (h:K (tA l 0) (λ_=>True) J):pE (aw P n) P Z J (.sU e) K:=
 a _ (aP _ rfl (by
  rw[enum_zip];exact h))
theorem Xe (a:∀Q:EPost,Q (.str x) J->aw P n Z J o Q) (b:∀Q:List CV->aZ->Prop,Q cs τ->qW (aw P n) Z args J Q) (h:wm m x (cs.map (eC τ)) (λc=>Q c τ)):aw P (n+1) Z J (.kB m o args) Q:=a _ (b _ h)
theorem WU:∀x∈sP m l 1++[(")" :bD)],x.length<=1:=λx h=>by
 rcases bt.mp h with h|h
 ·exact WV m l 1 x h
 ·exact bl.mp h▸(by decide:")".length<=1)
theorem KD {t d pb st} (i:Hl P) (u:Qm P) (v:Bj P) (D:nL ps) {J} (m:Lx J t d pb ln st) (w:J[pb]?=some (.list [])) (A:J.all (hM J.length)=true) (e:l.length<=30) (q:Q (.str (oO ps (s::l))) J):
  bX (wpS P PS (n+11)) oA (U [some (.own t),some (.str (jZ (s::l))),some (.lst (sC ps))]) J (fG J Q):=by
 have f:=(aj.mp w).1
 refine aK (gK (j' (bx (bx ⟨vN,ip (cU (cU (mK (aK (lS (Jx (eV rfl) (agx i v D (s::l) 0 "" 0 _ J [] rfl rfl rfl rfl m w (zT (zE (dJ _)) (zT (dF e) (by decide))) (zT (zE (dJ _)) (zT (aX 21 (dF e)) (by decide))) λg o B=>?_)))))))⟩))))
 generalize x:Cd ps (s::l) 0 "" 0=k at B
 have y:g 0=some (.own t):=(o 0 (by decide)).trans rfl
 have g1:g 1=some (.str (jZ (s::l))):=(o 1 (by decide)).trans rfl
 refine mK (aK (uK (LM u y m.set (bI f) (by rw[aC];exact zT e (by decide)) _ (mK ?_))))
 rw[eu]
 have e1:∀Q:EPost,Q (.int (1+l.length:Int)) (J.set pb (.list (jQ l)))->aw P (n+10) g (J.set pb (.list (jQ l))) (.bi .len [.var 1]) Q:=λQ q=>nV (aA g1 ⟨dK (zT (zS e) (by decide)),by
  show Q (.int (l.length+1:Int)) _
  exact af (iZ _ 1) q⟩)
 refine aK (lS (FO (λQ=>bx) (λQ=>e1 Q) (zB (bJ e 1) (by decide)) ?_))
 have e2:((bp 0 l.length).map λj=>CV.int ((1+j:Nat):Int))=(bp 1 l.length).map λj=> .int j:=by
  refine eh iA (af List.range'_eq_map_range (af fW ?_));rfl
 refine af e2 (agw i u l 1 [] g _ y B m.set (af (bI f) (congrArg (λl=>some (MO.list l)) (bK _).symm)) (zT e (by decide)) λz r=>?_)
 have C:z 0=some (.own t):=(r 0 (by decide)).trans y
 rw[eu]
 have h:(sP k l 1).length=l.length:=WW k l 1
 refine mK (aK (uK (Un (l:=sC (sP k l 1)) i C m.set (bI f) (by rw[aC,h];exact zT e (by decide)) (λQ=>bx) _ (mK ?_))))
 have b:(sP k l 1++[(")" :bD)]).length=l.length+1:=by refine af ax (af h ?_);rfl
 rw[eu,Ag]
 refine aK (jA (Xe (τ:=J) (cs:=[.lst (sC (sP k l 1++[(")" :bD)]))]) (λa=>bx) (λQ q=>mL (qj (uL (aA ((r 1 (by decide)).trans g1) (aP _ rfl ?_))))) (eJ _ (tP _) (oC WU (af b (dF e)) (by decide)) (eh x (eR rfl q)))))
 ·refine aih u (λc=>(cG _ _ (by decide)).trans C) (sP k l 1++[(")" :bD)]) _ [] _ ?_ m.set (bI f) (by rw[b];exact zT (zE (dJ _)) (zT (dF e) (by decide))) ?_
  ·rw[b,aC];rfl
  ·rw[eu,set_same w]
   exact jh q
end
noncomputable def aaV:List MY:=[.iff (.var 2) [.xW (.tup [.var 1,.bin .Add (.cst (.str (aa "\\"))) (.var 3)]),.set 2 (.cst (.bool false))] [.iff (.cmp (.var 3) [.Eq] [.cst (.str (aa "\\"))]) [.set 2 (.cst (.bool true))] [.xW (.tup [.var 1,.var 3])]]]
noncomputable def aaU:List MY:=[.iff (.var 2) [.xW (.tup [.var 1,.cst (.str (aa "\\"))])] []]
noncomputable abbrev aaT:MT:= .tup [.var 1,.var 3]
theorem aef c:((⟨#[c]⟩:bD)==aa "\\")=(c==92):=by
 show decide _=_
 induction h:c==92 using cB with
 |true=>rw[beq_iff_eq] at h;subst h;rfl
 |false=>
  rw[decide_eq_false_iff_not]
  intro e
  cases e
  exact bV (h▸rfl)
theorem yT {K} (d:Z i=some (.bool e)) (h:Br e (qy P (m+1) n a Z ys (λZ ys=>qy P (m+1) n l Z ys K)) (qy P (m+1) n b Z ys (λZ ys=>qy P (m+1) n l Z ys K))):
 qy P (m+1) (n+1) (.iff (.var i) a b::l) Z ys K:=aA (P:=P) (n:=m) (Q:=λc J=>nU (eC J c) λr=>J=[]/\Br r (qy P (m+1) n a Z ys (λZ ys=>qy P (m+1) n l Z ys K)) (qy P (m+1) n b Z ys (λZ ys=>qy P (m+1) n l Z ys K))) d ⟨rfl,h⟩
theorem yY {K} (a:∀Q:EPost,Q c []->aw P m Z [] e Q) (b:aao c=true) (h:qy P m n l Z ys K):qy P m (n+1) (.xW e::l) Z (c::ys) K:=a _ (iJ rfl b rfl h)
theorem abJ l:∀k b Z,Z 2=some (.bool b)->(b=true->Z 1=some (.int ((k-1:Nat):Int)))->Bf Z->
  zY P 8 8 aaT aaV (((l.map λc=>CV.str ⟨#[c]⟩).zipIdx k).map λp=> .tup [.int (p.2:Nat),p.1]) Z ((iq l k b).map adg) (λZ ys=>qy P 8 8 aaU Z ys (λ_ ys=>ys=[])):=by
 induction l with
 |nil=>
  intro k b Z e g a
  clear a
  induction b using cB with
  |true=>exact yT e (Br.t (yY (λa q=>j' (aA (g rfl) (bx ⟨by decide,q⟩))) rfl rfl))
  |false=>exact yT e (Br.f rfl)
 |cons c l i=>
  intro k b Z e g j
  have d:Bf (upd (upd Z 1 (.int k)) 3 (.str ⟨#[c]⟩)):=(j.upd rfl).upd rfl
  refine(iJ rfl rfl d (yT e ?_))
  clear g;induction b using cB with
  |true=>exact Br.t (yY (λa q=>j' (aA rfl (eU (bx (aA rfl (fg (show 1+1<=fj by decide) (by decide) q)))))) rfl (fg rfl rfl (i (k+1) false _ rfl (bV) (d.upd rfl))))
  |false=>
   refine Br.f ⟨rfl,?_⟩
   rw[aef]
   induction h:c==92 using cB with
   |true=>
    refine Br.t (fg rfl rfl ?_)
    have:iq (c::l) k false=iq l (k+1) true:=by show cond (c==92) _ _=_;rw[h];rfl
    exact af this (i (k+1) true _ rfl (λa=>rfl) (d.upd rfl))
   |false=>
    have:iq (c::l) k false=(k,⟨#[c]⟩)::iq l (k+1) false:=by show cond (c==92) _ _=_;rw[h];rfl
    exact af this (Br.f (yY (λa q=>j' (aA rfl (aA rfl ⟨by decide,q⟩))) rfl (i (k+1) false _ e (bV) d)))
noncomputable def PM (C:Cfg) (R:Rd) (ℓ:Nat):cZ where
 eK f args d J Q:=Callee C f/\∀A F O s vs kv,bQ ℓ A->Nw C F O J s->bM F O args vs->ew F O d kv->aD (aI C.prog C.w) A (call (.ref f) vs kv) (cM C .no F O s Q) a_ s
 gen f args Q:=Callee C f/\∃l,Q l/\∀A F O J s vs,bQ ℓ A->Nw C F O J s->bM F O args vs->
  aD (aI C.prog C.w) A (call (.ref f) vs) (λv u=>∃F',Go C .no F O s F' O J u/\∀A,bQ ℓ A->aD (aI C.prog C.w) A (kf v) (λit b=>∃c W,Go C .no F' O u c O J b/\Iter C ℓ A true it W (λ_=>True) l c O b/\(∀a∈W.a,s.heap.objs.size<=a)/\(∀i∈W.g,s.gens[i]?=none)) a_ u) a_ s
 ext e cs J Q:=∀xs H,R.xE H.1 e=some xs->(xs.all λx=>(H.2.lookup x).isSome)=true->∀L U Z F O s A m,bT C H L U Z F O s.heap->Nw C F O J s->bQ (m+ℓ) A->iV Z (xs.map λx=>(H.2.lookup x).getD 100000)=some cs->aD (aI C.prog C.w) A (gW e U) (cM C .no F O s Q) a_ s
section
variable {C:Cfg} {R:Rd} {ℓ oy m:Nat}
theorem mz:oZ C R ℓ (PM C R ℓ):=
 ⟨λa a a a a h=>h.1,λa a a a a h=>h.2,λa a a h=>h,λa xs H b c L U Z F O a s A m a a d e f g h=>h xs H b c L U Z F O s A m d e f g⟩
theorem xQ (b:ℓ<=oy) {f} {args} {a} {J} {Q:EPost} (h:(PM C R ℓ).eK f args a J Q):(PM C R oy).eK f args a J Q:=
 ⟨h.1,λA F O s vs kv c=>h.2 A F O s vs kv (c.le b)⟩
noncomputable def qK (C:Cfg) (ℓ:Nat) (d:iR):dZ:=λst Z J Q=>∀U F O s A m,bT C (eD d.scope) (gI d.scope) U Z F O s.heap->Nw C F O J s->bQ (m+ℓ) A->aD (aI C.prog C.w) A (exec st U) (gz C (eD d.scope) (gI d.scope) U F O s Q) a_ s
theorem rz {xs:List bD} {args}:∀{vs},bM F O args vs->ew F O (xs.zip args) (xs.zip vs):=by
 induction xs,args using ll with
 |cn=>exact λh=>af h rfl
 |cc x xs c l b=>exact λh=>cz h λv r e d f=>af e (eA v _ rfl d (b f))
 |_=>exact λa=>rfl
theorem ac6 (u:ef C R) (v:∀s e k,R.xE s e=some k->kJ e=false) {f} {d} {j} {o} {lit} {xs} {args} {J} {Q} (l:Bh C f d j) (g:wc d.scope=true) (w:rf d.scope xs=true)
  (n:args.length=xs.length) (x:∀vs:List bq,vs.length=xs.length->gr j ⟨vs,[]⟩=pure (xs.zip vs)) (b:jC R o d=lit)
  (h:J.all (hM J.length)=true->bX (wpS (PM C R ℓ) (qK C ℓ d) m) lit (dV (dU d.scope) (λ_=>none) (xs.zip args)) J (fG J Q)):(PM C R (m+ℓ+1)).eK f args [] J Q:=by
 refine aG l.obj λG i c=>⟨Callee.fn i c,λA F O s vs kv y t r z=>?_⟩
 subst z
 refine Dk (nK u mz (λa a U a F O a s A m a B D E h=>h U F O s A m B D E) v) l g ?_ y t (λQ q=>(af (x vs (r.length.trans n)) (au (q F s _ t.refl (rz r))))) (b▸h)
 ·rwa [ni (n▸ai _)]
end
theorem Pm:U []=λ_=>none:=rfl
theorem Zn l c:upd (U l) l.length c=U (l++[some c]):=by
 funext j
 by_cases h:j=l.length
 ·subst h
  rw[lA]
  show _=((l++[some c])[l.length]?).join
  rw[be (ai _),dw]
  rfl
 ·rw[cG _ _ h]
  show l[j]?.join=((l++[some c])[j]?).join
  rcases Nat.lt_or_gt_of_ne h with h|h
  ·rw[cj h]
  ·rw[eN (eG h),eN (ax▸h)]
theorem qf (xs:List bD) args:∀l,args.length=xs.length->xs.map (λx=>(b.lookup x).getD 0)=bp l.length xs.length->dV b (U l) (xs.zip args)=U (l++args.map some):=by
 induction xs,args using ll with
 |nn=>exact λl a a=>by rw[List.map_nil,bK];rfl
 |nc=>exact λl h a=>WO h
 |cn=>exact λl h a=>WQ h
 |cc x xs c args e=>
  intro l f g
  refine fK (di g) λd i=>?_
  have d:(b.lookup x).getD 0=l.length:=d
  have:=e (l++[some c]) (nh f) (by refine af i (af ax ?_);rfl)
  rw[aM] at this
  refine BJ ?_ this
  rw[<-Zn]
  show dV b (upd _ ((b.lookup x).getD 0) c) _=_
  refine af d ?_
  rfl
structure gw (d:iR) o lit xs:Prop where
 sc:wc d.scope=true
 bo:rf d.scope xs=true
 bind:∀(fd:lu) v,gr {fd with params:=d.args,defaults:= .none} ⟨(bc xs.length).map v,[]⟩=pure (xs.zip ((bc xs.length).map v))
 lit:jC R2 o d=lit
 vs:xs.map (λx=>((dU d.scope).lookup x).getD 0)=bp 0 xs.length
def pw (C:Cfg) (f:bz) (d:iR):Prop:=∃a,Bh C f d a/\a.defaults= .none
theorem lz (h:agf s e=some k):kJ e=false:=by
 induction q:kJ e using cB with
 |false=>rfl
 |true=>unfold agf at h;exact aW (q▸h)
theorem list_range:(bc vs.length).map (λi=>vs.getD i oo)=vs:=by
 apply Di
 ·rw[aC,jL]
 ·intro i a b
  rw[Df,sh]
  exact(List.getElem_eq_getD oo).symm
section
variable {C:Cfg} {ℓ m:Nat}
theorem QW (n:ef C R2) {f} {d} {o} {lit} {xs} (a:gw d o lit xs) (q:pw C f d) {args} {J} {Q} (j:args.length=xs.length)
  (h:J.all (hM J.length)=true->bX (wpS (PM C R2 ℓ) (qK C ℓ d) m) lit (U (args.map some)) J (fG J Q)):(PM C R2 (m+ℓ+1)).eK f args [] J Q:=by
 refine aG q λb l c=>ac6 n (λs e k=>lz) l a.sc a.bo j (λvs r=>?_) a.lit λg=>?_
 ·have e:b={b with params:=d.args,defaults:= .none}:=by rw[<-l.params,<-c]
  have:=a.bind b λi=>vs.getD i oo
  rw[<-e,<-r,list_range] at this
  exact this
 have:=qf xs args [] j a.vs
 exact af this (h g)
end
theorem abW:gw (cV "_strip_quoted_realnames" fS) [("result",1)] uO ["addr"]:=⟨by kernel_rfl,by kernel_rfl,λa v=>by kernel_rfl,XE,by kernel_rfl⟩
noncomputable abbrev xC:Scope:=CA.scope
theorem OQ:∃t b a p,CA.body=(.Assign [.Name ("pos" :bD) ⟨7,4,7,7⟩] (.Constant (.int 0) 0 ⟨7,10,7,11⟩) ⟨7,4,7,11⟩:: .Assign [.Name ("escape" :bD) ⟨8,4,8,10⟩] (.Constant (.bool false) 0 ⟨8,13,8,18⟩) ⟨8,4,8,18⟩::
  .For t (.Call (.Name ("enumerate" :bD) ⟨9,19,9,28⟩) [.Name ("addr" :bD) ⟨9,29,9,33⟩] [] ⟨9,19,9,34⟩) b [] ⟨9,4,16,27⟩::a)/\CA.args=⟨[],[⟨"addr",none,p⟩],none,[],[],none,[]⟩/\
  cT R2 60 (eD xC) (gI xC) t=aaT/\b.map (cY R2 60 (eD xC) (gI xC))=aaV/\a.map (cY R2 60 (eD xC) (gI xC))=aaU/\isTup t=true:=
 (aiH _ _ _ _ rfl rfl (by kernel_rfl) (by kernel_rfl) (by kernel_rfl) (by kernel_rfl))
theorem ef.oJ (h:ef C R2):ef (oJ C) R2:=⟨h.aiY,h.g,h.mt,h.at_⟩
theorem Zy (g:ef C R2) (j:vG C) (l:pw C 45 CA) (m:11<=ℓ):acK (PM C R2 ℓ):=by
 refine TP (Nat.le.dest m) λk=>?_
 have e:11+k=8+k+3:=by rw[ou]
 rw[e]
 refine aG l λn o d=>aiT OQ λt w i p r y s f b c=>⟨λx Q q=>?_⟩
 obtain⟨u,h⟩:=Yd (n':=60) g.oJ ((qq g.oJ mz)) j o (by kernel_rfl) r (λn v=>by kernel_rfl) d (i1:=1) (i2:=2) (ia:=0)
  (by kernel_rfl) (by kernel_rfl) rfl rfl (by kernel_rfl) (by kernel_rfl) rfl rfl (by kernel_rfl) (by kernel_rfl) (by kernel_rfl) (by kernel_rfl) (by kernel_rfl) (by decide) (by decide) c (af s (af f (af b (abJ x.cps.toList 0 false _ rfl (bV) (Bf.upd (Bf.upd (Bf.upd (λa a=>aW) rfl) rfl) rfl)))))
 exact⟨u,_,q,h⟩
theorem ab1:gw (cV "_check_parenthesis" fS) [] uQ ["addr"]:=⟨by kernel_rfl,by kernel_rfl,λa v=>by kernel_rfl,XM,by kernel_rfl⟩
theorem ahC:gw (cV "_pre_parse_validation" fS) [("accepted_values",1)] wq ["email_header_fields"]:=⟨by kernel_rfl,by kernel_rfl,λa v=>by kernel_rfl,aek,by kernel_rfl⟩
theorem ahE:gw (cV "rgb_to_hls" fS) [] AD ["r","g","b"]:=⟨by kernel_rfl,by kernel_rfl,λa v=>by kernel_rfl,aeo,by kernel_rfl⟩
theorem abU:gw (cV "hls_to_rgb" fS) [] uM ["h","l","s"]:=⟨by kernel_rfl,by kernel_rfl,λa v=>by kernel_rfl,XC,by kernel_rfl⟩
theorem aj7:gw (cV "_v" fS) [] RU ["m1","m2","hue"]:=⟨by kernel_rfl,by kernel_rfl,λa v=>by kernel_rfl,aix,by kernel_rfl⟩
theorem ahD:gw (cV "rgb_to_hsv" fS) [] FV ["r","g","b"]:=⟨by kernel_rfl,by kernel_rfl,λa v=>by kernel_rfl,aen,by kernel_rfl⟩
theorem abT:gw (cV "hsv_to_rgb" fS) [] yW ["h","s","v"]:=⟨by kernel_rfl,by kernel_rfl,λa v=>by kernel_rfl,XB,by kernel_rfl⟩
theorem aeY:gw (mf "_netrclex" "push_token") [] Cj ["self","token"]:=⟨by kernel_rfl,by kernel_rfl,λa v=>by kernel_rfl,aa8,by kernel_rfl⟩
theorem ab0:gw (cV "_law_draws" fS) [("sums",1)] mj ["script"]:=⟨by kernel_rfl,by kernel_rfl,λa v=>by kernel_rfl,XK,by kernel_rfl⟩
theorem abY:gw (cV "_law_paint" fS) [] uP ["hue","odd","white","spread"]:=⟨by kernel_rfl,by kernel_rfl,λa v=>by kernel_rfl,XG,by kernel_rfl⟩
theorem aeZ:gw (cV "_law_flip" fS) [] tV ["board","i","j","white","spread"]:=⟨by kernel_rfl,by kernel_rfl,λa v=>by kernel_rfl,abb,by kernel_rfl⟩
theorem abX:gw (cV "_law_roads" fS) [("roads",1),("due",1)] rN ["board","side","pieces"]:=⟨by kernel_rfl,by kernel_rfl,λa v=>by kernel_rfl,XF,by kernel_rfl⟩
theorem ahB:gw (cV "_law_row" fS) [("row",1)] wo ["told","side","dark"]:=⟨by kernel_rfl,by kernel_rfl,λa v=>by kernel_rfl,aej,by kernel_rfl⟩
theorem YC:gw (cV "_law_turned" fS) [] oA ["lexer","row","pieces"]:=⟨by kernel_rfl,by kernel_rfl,λa v=>by kernel_rfl,Sd,by kernel_rfl⟩
structure PF C:Prop where
 rd:ef C R2
 g:vG C
 SH:pw C 45 CA
 strip:pw C 52 (cV "_strip_quoted_realnames" fS)
 check:pw C 59 (cV "_check_parenthesis" fS)
 pre:pw C 66 (cV "_pre_parse_validation" fS)
 ajU:pw C 73 (cV "rgb_to_hls" fS)
 agm:pw C 80 (cV "hls_to_rgb" fS)
 v:pw C 87 (cV "_v" fS)
 ajR:pw C 94 (cV "rgb_to_hsv" fS)
 agl:pw C 101 (cV "hsv_to_rgb" fS)
 push:pw C 136 (mf "_netrclex" "push_token")
 draws:pw C 298 (cV "_law_draws" fS)
 RE:pw C 310 (cV "_law_paint" fS)
 flip:pw C 315 (cV "_law_flip" fS)
 KV:pw C 320 (cV "_law_roads" fS)
 row:pw C 325 (cV "_law_row" fS)
 turned:pw C 330 (cV "_law_turned" fS)
section
variable {C:Cfg} {ℓ oy m:Nat}
theorem jk (a:ef C R2) {f} {d} {o} {lit} {xs} (b:gw d o lit xs) (c:pw C f d) {args} {J} {Q} ℓ (e:m+ℓ<oy) (g:args.length=xs.length)
 (h:J.all (hM J.length)=true->bX (wpS (PM C R2 ℓ) (qK C ℓ d) m) lit (U (args.map some)) J (fG J Q)):(PM C R2 oy).eK f args [] J Q:=xQ e (QW a b c g h)
theorem Zr (h:PF C) (b:48<=ℓ):Vi (PM C R2 ℓ):=λa a a c q=>jk h.rd abW h.strip 24 (av (by decide) b) rfl λa=>NA (Zy h.rd h.g h.SH (by decide)) c q
theorem Ni (h:PF C) (b:72<=ℓ):Bj (PM C R2 ℓ):=λa a a c q=>jk h.rd ab1 h.check 48 (av (by decide) b) rfl λa=>PY (Zy h.rd h.g h.SH (by decide)) (Zr h (ai _)) c q
abbrev acI (P:cZ):Prop:=∀l J (Q:EPost),l.length<=1000->(∀x∈l,x.length<=1000)->Q (.lst (sC (l.map yo))) J->P.eK 66 [.lst (sC l)] [] J Q
theorem agp (h:PF C) (b:96<=ℓ):acI (PM C R2 ℓ):=λa a a c d q=>jk h.rd ahC h.pre 72 (av (by decide) b) rfl λa=>WB (Ni h (ai _)) c d q
theorem aje (h:PF C) (b:24<=ℓ):VP (PM C R2 ℓ):=λa a a a a q=>jk h.rd aj7 h.v 0 (av (by decide) b) rfl λa=>ac5 q
theorem Zx (h:PF C) (b:24<=ℓ):Vq (PM C R2 ℓ):=λa a a a a a c q=>jk h.rd ahE h.ajU 0 (av (by decide) b) rfl λa=>XY c q
theorem Zw (h:PF C) (b:24<=ℓ):Vp (PM C R2 ℓ):=λa a a a a a c q=>jk h.rd ahD h.ajR 0 (av (by decide) b) rfl λa=>XX c q
theorem Zq (h:PF C) (b:48<=ℓ):Vg (PM C R2 ℓ):=λa a a a a c q=>jk h.rd abU h.agm 24 (av (by decide) b) rfl λa=>Ng (aje h (ai _)) c q
theorem Zp (h:PF C) (b:24<=ℓ):Vf (PM C R2 ℓ):=λa a a a a a a c d e f g q=>jk h.rd abT h.agl 0 (av (by decide) b) rfl λa=>Nf c d e f g q
theorem Nh (h:PF C) (b:72<=ℓ):rj (PM C R2 ℓ):=λa a a a a a a c d e q=>jk h.rd abY h.RE 48 (av (by decide) b) rfl λa=>Oe (Zx h (by decide)) (Zq h (by decide)) (Zw h (by decide)) (Zp h (by decide)) c d e q
abbrev EJ (P:cZ):Prop:=∀e J (Q:EPost),e.length<=1000->(∀a b c d,Q (LX a b c d) J)->P.eK 298 [.lst (iC e)] [] J Q
theorem Zz (h:PF C) (b:24<=ℓ):EJ (PM C R2 ℓ):=λa a a c q=>jk h.rd ab0 h.draws 0 (av (by decide) b) rfl λa=>Px c q
theorem ac9 (h:PF C) (c:24<=ℓ):Hl (PM C R2 ℓ):=λa a a a a a a a a d e f q=>jk h.rd aeY h.push 0 (av (by decide) c) rfl λb=>Ry d e f b q
abbrev Ql (P:cZ):Prop:=∀a b d cJ res J (Q:EPost),(d==1)=b->cJ<30->(∀p∈a,a.lookup p.1=some p.2)->(∀x v,a.lookup x=some v->v.length<=1000)->a.length<=1000->
 ym (kE b a) cJ=some res->dT (res.toArray.foldl (· + ·.length+0) 0)=false->Q (.str (lM "" res)) J->P.eK 325 [lY a,.int (cJ:Nat),.int d] [] J Q
theorem ago (h:PF C) (b:24<=ℓ):Ql (PM C R2 ℓ):=λa a a a a a a c d e f g i j q=>jk h.rd ahB h.row 0 (av (by decide) b) rfl λa=>Wv c d e f g i j q
theorem adf (h:PF C) (w:96<=ℓ) {b} {rows} {B} {i j r:Nat} {d e f} {x o q s t} {c a} {J} {Q:EPost} (z:Bd J b rows B) (A:rows[i+1]?=some r) (l:B[i+1]?=some d) (D:d[j+1]?=some x) (E:i<900) (F:j<900)
  {G H} (u:rows[i]?=some G) (g:B[i]?=some e) (v:rows[i+2]?=some H) (k:B[i+2]?=some f) (I:e[j+1]?=some o) (L:d[j]?=some q) (M:d[j+2]?=some s) (N:f[j+1]?=some t)
  (O:a.natAbs<2^63) (P:c.natAbs<2^63)
  (R:others o q s t=true->∃y,zb ((((i+1:Nat):Int)+(j+1:Nat)).fmod 2==1) c a x o=some y/\Q .none (J.set r (.list ((d.set (j+1) y).map fU))))
  (S:others o q s t=false->Q .none J):(PM C R2 ℓ).eK 315 [.own b,.int (i+1:Nat),.int (j+1:Nat),.int c,.int a] [] J Q:=
 jk h.rd aeZ h.flip 72 (av (by decide) w) rfl λn=>SE (Nh h (ai _)) (Zx h (by decide)) (Zw h (by decide)) z A l D E F u g v k I L M N O P n R S
end
section
variable {C:Cfg} {R:Rd} {H:gq} {L:Nat} {U:pB} {Z:bk} {F:FZ} {O:List bz} {J:aZ} {s:aN} {A:bU}
theorem hY (b:bT C H L U Z F O s.heap) (f:(x==("__debug__" :bD))=false) (d:(H.2.lookup x).isSome=true) (e:Z ((H.2.lookup x).getD 100000)=some c)
  (h:∀v,Rep F O c v->Φ v s):aD (aI C.prog C.w) A (gW (.Name x p) U) Φ a_ s:=by
 refine oE (H.2.lookup x) (λa=>?_) λi a=>?_
 ·rw[a] at d;exact bV d
 ·
  rw[a] at e
  exact aG (b.ok.vars x i c a e) λv g r=>Hx (oM b.ok.kind g (h v r)) f
theorem vals1 (h:iV Z [i]=some [c]):Z i=some c:=by
 have h:(match Z i,some [] with|some c,some cs=>some (c::cs)|_,_=>none)=some [c]:=h
 induction a:Z i using cO with
 |none=>exact aW (a▸h)
 |some d=>rw[a] at h;cases h;rfl
theorem ew.vals:∀{l} {es},ew F O l es->bM F O (l.map (·.2)) (es.map (·.2))
 |[],_,h=>by subst h;rfl
 |(k,c)::l,_,h=>by
  refine cz h λv r a b d=>?_;clear h;subst a
  exact eA v _ rfl b d.vals
theorem Kx {r:Nat} {Q:EPost} (z:A.handled=none) (i:Nw C F O J s) (B:O[r]?=some a) (D:J[r]?=some (.dict l)) (E:l.length<=1000) (q:Q (.lst (l.map (·.2))) J):
  aD (aI C.prog C.w) A (call (.builtin "dict.values") [.ref a]) (λv u=>aD (aI C.prog C.w) A (call (.type "list") [v]) (cM C .no F O s Q) a_ u) a_ s:=by
 obtain⟨o,m,b,⟨k,x⟩,y⟩:=i.dj.at_ r a _ B D
 rw[i.top.pr,i.top.w] at x
 have n:=iO.mpr (aP o b x)
 refine vj tI n.typeIs PySem.F.entry_dict_values (PySem.F.args_dict_values_1 _) (meets_dict_values _ a k) ⟨⟨m,n⟩,eY n.dictAt λS t=>?_⟩
 have g1:Go C .no F O s F O J {s with heap:=s.heap.push {cls:= .type "dict_values",data:= .fields #[.ref a]}}:=Go.qC i _ (ai _)
 refine nt ?_;intro T;refine et (kdl_call kdl_values z ⟨(eJ _ (aT _ rfl) rfl rfl),t.push _⟩ (ag (ew.length y▸E) (by decide)) λG W g c I b f M=>?_)
 have d:=i.go g1
 have N:(s.heap.push {cls:= .type "dict_values",data:= .fields #[.ref a]}).objs.size<=G.objs.size:=eG (aU b)
 have P:bM F O (l.map (·.2)) g.toList:=(kdl_vals_eq g.toList f.1 λj v e=>f.2 j v (hV▸e))▸y.vals
 exact my.freeze ⟨F,O,J,_,g,l.map (·.2),g1.trans (Go.lC (X:= .no) d I N M),rfl,by rw[dv];exact aQ _,d.fz.j_,λh=>bG _ (d.dj.fr _ h).2.2,λh=>bG _ (d.base.lt _ h),⟨_,b,c,rfl⟩,P,q⟩
theorem ada (u:ef C R2) {ℓ}:acO (PM C R2 ℓ):=by
 intro r R J Q j w q xs H b g L U Z F O s A m k h x y
 have b:cond (uV (tW (H.1.names.lookup (aa "list")))) (some [aa "roads"]) none=some xs:=b
 refine bE (uV (tW (H.1.names.lookup (aa "list")))) (λd=>?_) λd=>?_
 ·rw[d] at b;exact aW b
 rw[d] at b
 have b:=ab b;subst b
 refine ir (by rfl) (kA u k h (xF d) (v:= .type "list") (by kernel_rfl) (by kernel_rfl) (dQ (letQ ?_) (by rfl)));intro I;refine kO (by kernel_rfl) (by rfl) (by rfl) (hY k (by kernel_rfl) (by simpa using g:(H.2.lookup (aa "roads")).isSome=true) (vals1 y) λv z=>cps λM B=>aG z λa l i=>?_);subst i
 obtain⟨o,D,c,⟨n,E⟩,N⟩:=h.dj.at_ r a _ l j
 have t:=iO.mpr (aP o c E)
 refine B (fX (.builtin "dict.values") [.ref a] (λP S=>jF t.typeIs ur tI PySem.F.type_dict_values t.mapOf.noDict) (eP (au (eW (λa e=>nomatch e) (ao (Kx x.1 h l j (by rw[aC];exact w) ?_) (λv s1 G=>(eP (eW (λa e=>nomatch e) G))) λa a e=>e)))))
 ·exact af (show(dC R).map (·.2)=sC (R.map (·.2)) from(fW ..).trans (fW (f:=λp:bD×bD=>p.2)).symm) q
end
end Internal
namespace Internal
open PySem PySem.W PySem.Spec PySem.Calls PyProof.Rows PySem.SeqAt PySem.Builtin.Re
section
theorem WG:PlainAttrs "re.Pattern" :=⟨(aP "object.__getattribute__" (by kernel_rfl) (by decide+kernel)),by kernel_rfl⟩
theorem Du:Slot "re.Pattern" "search" "re.Pattern.search" :=
 .of (owner:="re.Pattern") (n:="search") (by kernel_rfl) (by decide+kernel) (by decide+kernel) (by decide+kernel) (.inr (by decide+kernel)) (by kernel_rfl)
theorem NQ:typeOf (.builtin "re.Pattern.search")=pure (.type "method_descriptor"):=by show builtinType _=_;refine af builtinType_eq_fast ?_;kernel_rfl
theorem KS:uk table "re.Pattern.search" =some ic.«re.Pattern.search»:=m_ (by kernel_rfl)
theorem searchArgs a b:argsOk "re.Pattern.search" ⟨[a,b],[]⟩:=by
 kernel_rfl
end
structure CK code (ok:Nat->Bool):Prop where
 head:Sre.header code=(1,1+code.getD 1 0)
 first:∀m:agc,m.code=code->m.hasFirstSet=true
 miss:∀c seen,ok c=true->∃agJ,Sre.inSet code c code.size 5 true seen= .ok (false,agJ)
noncomputable def aap (c:Nat):Bool:=decide (32<=c)&&c !=127
theorem Hh (c:CK m.code ok) (d:∀i,i<m.lim->ok (m.text.getD i 0)=true):∀b i seen,∃a,HE m b i seen= .ok (none,a):=λb=>by
 induction b with
 |zero=>exact λi seen=>⟨seen,rfl⟩
 |succ n f=>
  intro i seen
  unfold HE
  by_cases h:i>=m.lim
  ·exact⟨seen,if_pos h⟩
  ·exact if_neg h▸eY (c.miss _ seen (d i (Nat.lt_of_not_le h))) λa e=>af e (f (i+1) a)
theorem Jj {m:agc} (a:m.answer=some false) (b:m.frames=[]) (c:m.outcome=none):(m.runFor 4).outcome=some .failed:=by
 obtain⟨⟩:=m
 subst a;subst c;subst b
 rfl
theorem HW {code text} (b:CK code c) (d:∀i,i<text.size->c (text.getD i 0)=true):((IE code text g 0 text.size false).runFor 4).outcome=some .failed:=by
 unfold IE
 dsimp only
 split
 ·exact Jj rfl rfl rfl
 ·have e:∀m:agc,m.code=code->m.text=text->m.lim=text.size->m.answer=none->m.frames=[]->m.outcome=none->((m.attemptFrom 0 true).runFor 4).outcome=some .failed:=λm e1 e2 e3 e4 e5 e6=>by
   unfold Sre.M.attemptFrom
   exact af (b.first m e1) (eY (Hh (e1▸b) (af e2 (af e3 d)) (m.lim+1-0) 0 m.seen) λa e=>af e (Jj rfl e5 e6))
  exact e _ rfl rfl rfl rfl rfl rfl
theorem adR:CK codeN.toArray aap:=⟨rfl,λm e=>by unfold Bv;refine af e ?_;rfl,λc seen h=>by
 obtain⟨d,b⟩:=aq.mp h
 show∃a,(if (decide (0<=c)&&decide (c<=31))=true then _ else if (c==127)=true then _ else _)=_
 exact af (by rw[Bool.and_eq_false_iff];exact .inr (decide_eq_false (vy.mpr (of_decide_eq_true d))):(decide (0<=c)&&decide (c<=31))=false) (af (by rw[bne,gT] at b;exact b:(c==127)=false) ⟨_,rfl⟩)⟩
theorem SQ:∀c,c<256->aap c=true->((wJ.toArray.getD (5+(1+c/32)) 0).testBit (c%32))=false:=by decide+kernel
theorem adQ:CK wJ.toArray aap:=⟨rfl,λm e=>by unfold Bv;refine af e ?_;rfl,λc seen h=>by
 have a:(decide (c<256)&&(wJ.toArray.getD (5+(1+c/32)) 0).testBit (c%32))=false:=by
  induction d:decide (c<256) using cB with
  |false=>rfl
  |true=>exact SQ c (of_decide_eq_true d) h
 show∃b,(if (decide (c<256)&&(wJ.toArray.getD (5+(1+c/32)) 0).testBit (c%32))=true then _ else _)=_
 exact af a ⟨_,rfl⟩⟩
structure pP (h:bz->Option Obj) p (code:List Nat):Prop where
 obj:∃o vs c G5,h p=some o/\o.cls= .type "re.Pattern" /\o.dict=none/\o.data= .fields vs/\vs[5]?=some (.ref c)/\vs[6]?=some (.int 0 G5)/\∃oc items n,h c=some oc/\oc.data= .seq items n/\(items.map reRawOf).map (·.toNat)=code.toArray
section
variable {prog:jT} {w:oK} {A:bU} {E:bq->aN->Prop} {s:aN}
theorem Ku {l:List Nat} {f:Nat->Bool} {g:Nat->String} {k} (h:aD (aI prog w) A k Q E s):aD (aI prog w) A (do
  for i in l do
   if f i then rule (g i)
  k) Q E s:=by
 refine ae (wpAny_forIn_list _ (λa a u=>u=s) _ (λx rest b s1 e=>?_) (λb s1 e=>af e h) l _ rfl)
 ·by_cases c:f x=true
  ·exact if_pos c▸ae (oi (au e))
  ·exact af (if_neg c) (au e)
theorem BU (a:(m.runFor 4).outcome=some .failed) (h:Q none s):aD (aI prog w) A (reRunToEnd m) Q E s:=by
 have e:reDrive (2^64) m=pure (m.runFor 4):=by
  show(if (m.runFor 4).outcome.isSome=true then pure (m.runFor 4) else _)=_
  refine af a ?_;rfl
 unfold reRunToEnd
 exact af e (ae (au (Ku (af a au h))))
theorem Rc:∃f:Array bq->Sem ReTarget,reTarget "re.Pattern.search" "search" ⟨[.ref p,.str x t],[]⟩=(fieldsOf (.ref p)>>=f)/\
  ∀fs,reRawNat (fs.getD 6 .none)=0->f fs=(reRawItems (fs.getD 5 .none)>>=λl=>pure {pattern:= .ref p,string:= .str x t,code:=l.map (·.toNat),text:=x.cps,kind:=0,groups:=reRawNat (fs.getD 2 .none),pos:=min 0 x.cps.size,lim:=min ((2:Int)^63-1).toNat x.cps.size}):=by
 refine aP _ rfl λfs h=>?_
 generalize reRawNat (fs.getD 6 .none)=k at h
 subst h
 rfl
theorem Ia {code} (a:CK code.toArray ok) (b:∀i,i<x.cps.size->ok (x.cps.getD i 0)=true) (d:x.length<=1000):
  MeetsIn prog w (ic.«re.Pattern.search» ⟨[.ref p,.str x t],[]⟩) (λ_ R s=>pP s.heap.get? p code/\R (.ok (.ret .none)) s):=by
 refine .of_wp λA R s g=>letQ ?_;intro u;refine cps λv h=>?_
 obtain⟨⟨o,vs,c,y,j,z,B,k,l,m,C,items,n,g1,g2,g3⟩,q⟩:=g
 refine aG (Rc (p:=p) (x:=x) (t:=t)) λf e r=>h ?_
 unfold ic.«re.Pattern.search»
 refine af e (ae (ae (wpAny_fieldsOf j k (af (r vs (by refine af i_ (af m ?_);rfl)) (af i_ (af l ?_))))))
 refine ae (ae (Ht g1 g2 (au (au (ae (BU ?_ (au (aP _ rfl q))))))))
 have e2:min ((2:Int)^63-1).toNat x.cps.size=x.cps.size:=CZ (ag d (by decide))
 exact af g3 (af e2 (HW a b))
end
end Internal
namespace Internal
open PySem PySem.W PySem.Spec PySem.Calls PyProof.Rows PySem.SeqAt
theorem pP.keeps {code} (h:pP f p code) (k:∀a o,f a=some o->g a=some o):pP g p code:=by
 obtain⟨o,vs,c,b,d,e,i,j,l,m,q,items,n,g1,g2,g3⟩:=h
 exact⟨o,vs,c,b,k _ _ d,e,i,j,l,m,q,items,n,k _ _ g1,g2,g3⟩
theorem vals2 (h:iV Z [i,j]=some [c,d]):Z i=some c/\Z j=some d:=by
 have h:(match Z i,iV Z [j] with|some c,some cs=>some (c::cs)|_,_=>none)=some [c,d]:=h
 induction e:Z i using cO with
 |none=>exact aW (e▸h)
 |some a=>
  rw[e] at h
  refine oE (iV Z [j]) (λb=>(aW (b▸h))) λl b=>?_
  ·rw[b] at h;clear e;cases h;exact⟨rfl,vals1 b⟩
theorem adK (h:mR x=true) i (a:i<x.cps.size):aap (x.cps.getD i 0)=true:=by
 have:=Array.all_eq_true.mp h i a
 rwa [i_,nv a]
abbrev acG (P:cZ):Prop:=∀p v J (Q:EPost),p=153\/p=158->mR v=true->v.length<=1000->Q .none J->P.ext e2 [.obj (.ref p),.str v] J Q
theorem ac7 (y:pP C.K 153 codeN) (z:pP C.K 158 wJ):acG (PM C R2 ℓ):=by
 intro p v J Q B D E q xs H f g L U Z F O s A m n h R b
 have f:=ab f;subst f
 refine cps λS G=>?_
 obtain⟨I,i⟩:=aq.mp g
 obtain⟨i,T⟩:=aq.mp i
 obtain⟨M,N⟩:=vals2 b
 obtain⟨code,P,d⟩:∃code:List Nat,CK code.toArray aap/\pP C.K p code:=by
  rcases B with e|e
  ·exact(aP _ adR (e▸y))
  ·exact(aP _ adQ (e▸z))
 have u:=d.keeps λa o e=>h.fz a o (h.top.k a o e)
 refine G (letQ ?_);intro W;refine GH u.obj λo vs c X w g1 g2 a=>kO (by kernel_rfl) (by rfl) (by rfl) (hY n (by kernel_rfl) I M λr j=>?_)
 subst j
 have x:s.TypeIs (.ref p) "re.Pattern" :=aP o w g1
 exact(fX (.builtin "re.Pattern.search") [.ref p] (λY Q'=>jF x WG Du NQ (λa e=>by injection e with e;subst e;exact aP o w g2)) (dQ (hY n (by kernel_rfl) i N λr j=>eY j λt l=>af l (eP (au (eW (λa e=>nomatch e) (vj Du x KS (searchArgs _ _) (Ia P (adK D) E) ⟨u,cM.same (c:= .none) h rfl q⟩))))) (by rfl)))
abbrev CM (P:cZ):Prop:=∀t v b J (Q:EPost),mR v=true->v.length<=1000->Q (.str v) J->P.eK 188 [t,.str v] [("name",.bool b)] J Q
section
variable {P:cZ} {PS:dZ} {J:aZ} {Q:EPost} {n:Nat} {Z:bk}
theorem Oz (h:Z i=some c) (a:Z j=some d) (q:P.ext k [c,d] J Q):aw P (n+1) Z J (.ext k [i,j]) Q:=by
 have e:iV Z [i,j]=some [c,d]:=by
  show(match Z i,iV Z [j] with|some c,some cs=>some (c::cs)|_,_=>none)=_
  refine af h ?_
  show(match some c,(match Z j,some [] with|some c,some cs=>some (c::cs)|_,_=>none) with|some c,some cs=>some (c::cs)|_,_=>none)=_
  rw[a]
 show match iV Z [i,j] with|some cs=>P.ext k cs J Q|none=>False
 exact af e q
theorem afM {K} (h:Z i=some (.bool b)) (q:K b J):gm (aw P (n+1)) Z (k+1) J (.var i) K:=aA (P:=P) (n:=n) (Q:=λc J=>nU (eC J c) λb=>K b J) h q
theorem agZ {K} (h:Z i=some c) (a:Z j=some d) (q:P.ext e [c,d] J (λr J=>nU (eC J r) (λb=>K b J))):gm (aw P (n+1)) Z (k+1) J (.ext e [i,j]) K:=Oz (n:=n) h a q
theorem OU a:aet (.obj (.type a)) (.obj (.type a))=some true:=congrArg some (beq_self_eq_true a)
theorem SO (c:acG P) (d:mR v=true) (e:v.length<=1000) (q:Q (.str v) J):bX (wpS P PS 10) Jz (U [some t,some (.str v),some (.bool b)]) J (fG J Q):=by
 refine aK (fM (dp (nV (aA rfl (aP true (OU "str") (Br.t ?_))))))
 have a:∀p:bz,p=153\/p=158->bX (wpS P PS 9) [.iff (.ext e2 [3,1]) [.bad] [],.ret (.var 1)] (upd (U [some t,some (.str v),some (.bool b)]) 3 (.obj (.ref p))) J (vY (λZ τ=>bX (wpS P PS 10) [.bad] Z τ (fG J Q)) (fG J Q)):=λp g=>aK (fM (agZ rfl rfl (c p v J _ g d e (Br.f (sN (aK (jA (aA rfl (eR rfl q)))))))))
 induction b using cB with
 |true=>exact sA (λQ q=>jS (afM rfl (Br.t (bx q)))) (a 153 (.inl rfl))
 |false=>exact sA (λQ q=>jS (afM rfl (Br.f (bx q)))) (a 158 (.inr rfl))
end
noncomputable def TR:List Str:=["self","value","name"]
noncomputable def Zg:List Str:=["param","value","quote"]
noncomputable def Zf:List Str:=["self","name","default"]
noncomputable def TQ:List Str:=["self","headers"]
noncomputable def Zh:List Str:=["self","_name","_value","_params"]
theorem afc (d:lu) a b c:gr {d with params:=(mf "Headers" "_convert_string_type").args,defaults:= .none} ⟨[a,b],[("name",c)]⟩=pure (TR.zip [a,b,c]):=by kernel_rfl
theorem ahL (d:lu) a b c t:∃g,gr {d with params:=(cV "_formatparam" fS).args,defaults:= .ref a} ⟨[b,c],[]⟩=(CT (.ref a)>>=g)/\g (some #[.none,.int 1 t])=pure (Zg.zip [b,c,.int 1 t]):=(aP _ rfl (by kernel_rfl))
theorem ahK (d:lu) a b c:∃g,gr {d with params:=(mf "Headers" "get").args,defaults:= .ref a} ⟨[b,c],[]⟩=(CT (.ref a)>>=g)/\g (some #[.none])=pure (Zf.zip [b,c,.none]):=(aP _ rfl (by kernel_rfl))
theorem afb (d:lu) a b c:∃g,gr {d with params:=(mf "Headers" "__init__").args,defaults:= .ref a} ⟨[b,c],[]⟩=(CT (.ref a)>>=g)/\g (some #[.none])=pure (TQ.zip [b,c]):=(aP _ rfl (by kernel_rfl))
theorem ahM (l:lu) e f h i:∃g:bz->Sem (List (bD×bq)),gr {l with params:=(mf "Headers" "add_header").args,defaults:= .none} ⟨[e,f,h],[("dark",i)]⟩=(alloc {cls:= .type "dict",data:= .dict #[]}>>=g)/\
 ∀d,∃(α j:Type) (a:Unit->Sem α) (b:α->Sem j) (c:j->Sem (List (bD×bq))),g d=(((wX d "dark" i>>=a)>>=b)>>=c)/\∀k,(((a k)>>=b)>>=c)=pure (Zh.zip [e,f,h,.ref d]):=aP _ rfl λd=>⟨_,_,_,_,_,rfl,λk=>by kernel_rfl⟩
section
variable {C:Cfg} {ℓ m:Nat}
theorem vX (G:ef C R2) {f} {d} {z} {o} {lit} {xs} {args cs} {c} {J} {Q} (B:Bh C f d z) (l:wc d.scope=true) (H:rf d.scope xs=true)
  (D:cs.length=xs.length) (n:xs.map (λx=>((dU d.scope).lookup x).getD 0)=bp 0 xs.length) (i:jC R2 o d=lit)
  (I:∀A F O s vs kv K,Nw C F O J s->bM F O args vs->ew F O c kv->(∀F' u t,Go C .no F O s F' O J u->bM F' O cs t->K (xs.zip t) u)->aD (aI C.prog C.w) A (gr z ⟨vs,kv⟩) K a_ s)
  (h:J.all (hM J.length)=true->bX (wpS (PM C R2 ℓ) (qK C ℓ d) m) lit (U (cs.map some)) J (fG J Q)):(PM C R2 (m+ℓ+1)).eK f args c J Q:=by
 refine aG B.obj λT v j=>⟨Callee.fn v j,λA F O s vs kv L E r M=>?_⟩
 have e:=qf xs cs [] D n
 have b:J.all (hM J.length)=true->bX (wpS (PM C R2 ℓ) (qK C ℓ d) m) (d.body.map (cS R2 o 60 (eD d.scope) (gI d.scope))) (dV (dU d.scope) (λa=>none) (xs.zip cs)) J (fG J Q):=λy=>by
  have:=h y
  rw[<-i] at this
  exact af e this
 refine Dk (nK G mz (λa a U a F O a s A m a N P R h=>h U F O s A m N P R) λs e k=>lz) B l ?_ L E (λK q=>(I _ F O s vs kv K E r M λF' u t g S=>q F' u _ g (rz S))) b
 ·rwa [ni (D▸ai _)]
end
section
variable {C:Cfg} {X:Wr} {F:FZ} {O:List bz} {J:aZ} {A:bU} {s:aN} {ℓ:Nat}
theorem Lj (D:s.heap.get? d=some (dictOf [] 0))
 (h:∀a,jI d s.heap a->a.get? d=some (dictOf (kwEs C.w.params s.toks [(k,v)]) 1)->Q () {s with heap:=a,toks:=s.toks+1}):aD (aI C.prog C.w) A (wX d k v) Q E s:=ae (ae (CS (au (ae (Bo (ae (Hu D (wpAny_updatePart D (h _ (.update ..) (lQ _ D rfl))))))))))
theorem YP {v x y c3} {xs:List bD} (f:Nw C F O J s) (D:Rep F O v j) (E:Rep F O x l) (G:Rep F O y m) (H:Rep F O c3 i)
  (I:∃g:bz->Sem (List (bD×bq)),gr L ⟨[j,l,m],[(k,i)]⟩=(alloc {cls:= .type "dict",data:= .dict #[]}>>=g)/\
   ∀d,∃(α n:Type) (a:Unit->Sem α) (b:α->Sem n) (c:n->Sem (List (bD×bq))),g d=(((wX d k i>>=a)>>=b)>>=c)/\∀M,(((a M)>>=b)>>=c)=pure (xs.zip [j,l,m,.ref d]))
  {K} (q:∀F' u z,Go C .no F O s F' O J u->bM F' O [v,x,y,.gx [(k,c3)]] z->K (xs.zip z) u):aD (aI C.prog C.w) A (gr L ⟨[j,l,m],[(k,i)]⟩) K a_ s:=by
 refine aG I λg e N=>af e (ae (DR ?_))
 obtain⟨α,n,a,b,c,P,Q⟩:=N s.heap.objs.size
 rw[P,bind_assoc,bind_assoc]
 refine nt ?_;intro S;refine ae (Lj (aT _ rfl) λr B R=>?_)
 have t:aD (aI C.prog C.w) A (a ()>>=b>>=c) K a_ {s with heap:=r,toks:=s.toks+1}:=by
  refine af (Q ()) ?_
  have hsz:s.heap.objs.size<=r.objs.size:=by
   have:=dv s.heap (dictOf [] 0)
   exact af B.1 (af this (aQ _))
  have g1:Go C .no F O s F O J {s with heap:=r,toks:=s.toks+1}:=Go.lC f (λa o h=>(B.2 a (bj (aU h))).trans (bu _ h)) hsz
  have g2:=Go.Vd f g1 (ai _) R
  refine au (q _ _ _ g2 ⟨_,_,rfl,D.mono g2.ext.le (.refl _),_,_,rfl,E.mono g2.ext.le (.refl _),_,_,rfl,G.mono g2.ext.le (.refl _),_,_,rfl,(jq _ _ [(k,i)] rfl FZ.jd ⟨(eY f.top.Ja λo e=>beq_eq_false_iff_ne.mpr (bZ (aU (f.fz _ _ (f.top.k _ _ e))))),?_⟩ (eA i [] rfl (H.mono g2.ext.le (.refl _)) rfl)),rfl⟩)
  ·exact af f.top.pr (af f.top.w (kp_isDict s.toks 1 (show[k].Nodup from ly.mpr ⟨bw,.nil⟩)))
 rw[<-bind_assoc]
 exact t
theorem Xz (y:tt=true) {F0} {s0} (R:∀(u:aN) F',Fz F' u.heap->jp F F'->u.heap.DictAt (nN C.prog C.w) a [(k,v)] S) (Y:Rep F O c v) (z:IsItemIter s0.heap it a 0 1 S .none .none) (d:jp F F0):
  f_ C ℓ A tt (.ref it) ⟨[it],[]⟩ (λ_=>True) [.tup [.str k,c]] F0 O s0:=λF' aH aO u hA g B D Z hk hg a0=>by
 have E:∀{b},b∉[it]->b≠it:=λh e=>h (e▸az)
 have i:IsItemIter u.heap it a 0 1 S .none .none:=hk it az _ z
 refine fZ (wpAny_pyNext_items_item i (R u F' g.fz (d.trans D)) rfl λa3 T j l ht hz G hsz=>?_)
 obtain⟨t,rfl⟩:=yb j
 have H:Go C ⟨[it],[]⟩ F' aH u F' aH aO {u with heap:=T}:= .sM g (λb o m=>G b o (E m)) hsz B
 have f:=B.go H
 refine .mk _ F' ⟨[it],[]⟩ H (.refl _ _) f (.tup [.str k,c] _ #[.str k t,v] y ⟨_,ht,rfl,0,rfl⟩ ⟨_,_,rfl,⟨t,rfl⟩,_,_,rfl,Y.mono (d.trans D) Z,rfl⟩ (λh=>bG _ (B _ h).2.2.2) (λh=>bG _ (g.dj.fr _ h).2.2) (λh=>bG _ (g.base.lt _ h)) λes n pos A2 a4=>fZ (wpAny_letOwnedTupleGo_items l λh2 q I r=>?_))
 have g2:Go C ⟨[it],[]⟩ F' aH {u with heap:=T} F' aH aO {u with heap:=h2}:= .sM (g.go H) (λb o m=>I.extBut b o (E m)) r f
 exact fg g2 (f.go g2) λF3 a5 a6 s3 L x M N a7 P a8 W=>fZ (wpAny_pyNext_items_end L.handled (P it az _ q) (R s3 F3 x.fz ((d.trans D).trans N)) rfl λh4 he Q=>⟨rfl,.sM x (λb o m=>he b o (E m)) Q M⟩)
end
noncomputable def Ck:List MS:=[(.asg (.var 5) (.gJ 289 188 (aa "_convert_string_type") (.var 0) [(.var 5)] [(aa "name")] [(.cst (.bool true))])),(.iff (.cmp (.var 6) [.Is] [(.cst .none)]) [(.pO (.var 4) (.kB .replace (.var 5) [(.cst (.str (aa "_"))),(.cst (.str (aa "-")))]))] [(.asg (.var 6) (.gJ 289 188 (aa "_convert_string_type") (.var 0) [(.var 6)] [(aa "name")] [(.cst (.bool false))])),(.pO (.var 4) (.eK 166 [(.kB .replace (.var 5) [(.cst (.str (aa "_"))),(.cst (.str (aa "-")))]),(.var 6)]))])]
theorem LK:∃t a b c d e,gX vE 2= .For t (.Call (.Attribute (.Name ("_params" :bD) b) ("items" :bD) c) [] [] d) a [] e/\FN (.Name ("_params" :bD) b) c d [] []=true/\
  cT R2 60 (eD vE.scope) (gI vE.scope) t= .tup [.var 5,.var 6]/\a.map (cS R2 [("parts",1)] 60 (eD vE.scope) (gI vE.scope))=Ck/\isTup t=true:=
 UC _ _ _ _ _ _ rfl (by kernel_rfl) (by kernel_rfl) (by kernel_rfl) (by kernel_rfl)
section
variable {C:Cfg} {ℓ oy m:Nat} {Z:bk} {J:aZ} {Q:fA}
theorem adG:af5 C R2 ℓ (qK C ℓ d) (eD d.scope) (gI d.scope):=λa a U a F O a s A m a b c e h=>h U F O s A m b c e
theorem Eb:uk table "dict_itemiterator.__iter__" =some ic.«dict_keyiterator.__iter__»:=HC (id':="dict_keyiterator.__iter__") (by kernel_rfl) rfl (by decide+kernel) (by kernel_rfl)
theorem Gf (a:s.TypeIs (.ref it) "dict_itemiterator"):aD (aI C.prog C.w) A (kf (.ref it)) (λv b=>v= .ref it/\b=s) a_ s:=Bm a nO (h_ nO a Eb (au ⟨_,rfl,"dict_itemiterator",_,a,PySem.F.slot_dict_itemiterator_next.lookup,rfl,rfl⟩) (PySem.F.args_dict_itemiterator_iter_1 _))
theorem Wz (l:ef C R2) (D:m+ℓ<=oy) {k} {c} (E:Z 3=some (.gx [(k,c)]))
  (h:eO (λ_=>True) (λc Z J Q=>du (aw (PM C R2 ℓ) m) (.tup [.var 5,.var 6]) c Z J (λZ J=>bX (wpS (PM C R2 ℓ) (qK C ℓ vE) m) Ck Z J Q)) [.tup [.str k,c]] Z J Q):qK C oy vE (gX vE 2) Z J Q:=λU F O s A m' x b y=>by
 refine US LK λt fb p1 p2 p3 p4 e1 e2 e3 e4 d=>af e1 (DE (tt:=true) l (qq l mz) (nK l mz adG (λs e k=>lz) 60) (y.le (ag D (cR _ _))) x b (gV.mpr (.inl d)) (by rfl) (af e3 (af e4 (letQ ?_))));intro G;refine kO e2 (by rfl) (by rfl) (hY x (by kernel_rfl) (by kernel_rfl) E λv H=>cps λK_ I=>?_)
 obtain⟨a,o,L,rfl,z,⟨f,n⟩,B⟩:=H
 refine cz B λv r q M N=>?_;obtain rfl:r=[]:=N
 clear B e4 e3 e2 e1 y;subst q
 rw[b.top.pr,b.top.w] at n
 refine Pq (id n) λes P R S T W X=>?_
 have g:∀(u:aN) F',Fz F' u.heap->jp F F'->u.heap.DictAt (nN C.prog C.w) a [(k,v)] P:=λu F' Y z2=>(UD o es (Y _ _ (z2.2 _ _ z)) R S T W X)
 have j:=iO.mpr (aP o (b.fz _ _ z) n)
 refine I (fX (.builtin "dict.items") [.ref a] (λpl Q'=>jF j.typeIs ur uo PySem.F.type_dict_items j.mapOf.noDict) (oV ?_));intro G s_;refine eP (au (eW (λa e=>nomatch e) (vj uo j.typeIs PySem.F.entry_dict_items (PySem.F.args_dict_items_1 _) (meets_dict_items _ a f) ⟨⟨_,j⟩,?_⟩)))
 have g1:Go C .no F O s F O J {s with heap:=s.heap.push {cls:= .type "dict_items",data:= .fields #[.ref a]}}:=Go.qC b _ (ai _)
 have i:=b.go g1
 refine wpAny_pyIter_items (eJ _ (aT _ rfl) rfl rfl) (g _ F i.fz (.refl F)) ?_
 refine jr.to g1 (jr.new i (aT _ rfl) (Xz rfl g M (aT _ rfl) (.refl F)) λA u e=>?_) h
 exact Gf (aP _ e rfl)
end
end Internal
namespace Internal
open PySem PySem.W PySem.Spec PySem.Calls PyProof.Rows PySem.SeqAt PySem.StrLaws PySem.Builtin.Str
noncomputable def qQ (c:Nat) (z:List Nat) (l:List Nat):List Nat:=l.flatMap λa=>cond (a==c) z [a]
noncomputable def ql (l:List Nat) (c k m:Nat):List Nat:=(bp k m).filter λi=>l[i]?==some c
theorem zd:ql l c k (m+1)=cond (l[k]?==some c) (k::ql l c (k+1) m) (ql l c (k+1) m):=by
 unfold ql
 rw[C',Dh]
 cases l[k]?==some c<;>rfl
theorem sub_one {l:List Nat}:subAt ⟨l.toArray⟩ ⟨#[c]⟩ i=(l[i]?==some c):=by
 rw[subAt_eq,fR]
 exact take1_drop.trans beq_iff_eq.symm
theorem WH m:∀k free (a:Array Nat),free<=k->a.size<=k->k+m=l.length+1->
  (forIn (bp k m) (a,free) (occBody ⟨l.toArray⟩ ⟨#[c]⟩ l.length (l.length+1))).run.fst.toList=a.toList++ql l c k m:=by
 induction m with
 |zero=>exact λk free a f b d=>(bK a.toList).symm
 |succ m i=>
  intro k free a f b d
  rw[C',ju,zd]
  cases g:l[k]?==some c with
  |true=>
   have e:occBody ⟨l.toArray⟩ ⟨#[c]⟩ l.length (l.length+1) k (a,free)=pure (fv (a.push k,k+1)):=
    if_pos ⟨⟨⟨zB b (zK d),f⟩,((aj.mp (beq_iff_eq.mp g)).1)⟩,sub_one.trans g⟩
   rw[e]
   refine BJ (i (k+1) (k+1) (a.push k) (ai _) (by rw[Array.size_push];exact dF b) (zJ d)) ?_
   rw[Array.toList_push,aM];rfl
  |false=>
   have e:occBody ⟨l.toArray⟩ ⟨#[c]⟩ l.length (l.length+1) k (a,free)=pure (fv (a,free)):=
    if_neg λh=>by have:=sub_one.symm.trans h.2;exact absurd (g.symm.trans this) dR
   rw[e]
   exact i (k+1) free a (dg f) (dg b) (zJ d)
theorem YD:ql l c 0 (l.length+1)=ql l c 0 l.length:=by
 unfold ql
 rw[List.range'_1_concat]
 simp
theorem Og:occurrences ⟨l.toArray⟩ ⟨#[c]⟩ 0 l.length (l.length+1)=ql l c 0 l.length:=by
 rw[occ_eq]
 exact(WH (l.length+1) 0 0 #[] (ai _) (ai _) (dJ _)).trans YD
theorem Jb {l:List Nat}:strSub ⟨l.toArray⟩ a k=⟨((l.drop a).take (k-a)).toArray⟩:=se (nq.mp (by rw[strSub_toList]))
theorem join_one m:∀k a,k+m=l.length->a<=k->Bu ⟨z.toArray⟩ (partsFrom ⟨l.toArray⟩ 1 a (ql l c k m))=⟨((l.drop a).take (k-a)++qQ c z (l.drop k)).toArray⟩:=by
 induction m with
 |zero=>
  intro k a h b
  obtain rfl:k=l.length:=h
  rw[Dj]
  show strSub ⟨l.toArray⟩ a l.length=_
  rw[Jb,show qQ c z []=[] from rfl,bK]
 |succ m f=>
  intro k a h b
  have d:k<l.length:=zK h
  rw[zd,sD d]
  have e:qQ c z (l[k]::l.drop (k+1))=cond (l[k]==c) z [l[k]]++qQ c z (l.drop (k+1)):=gR
  rw[e,aF d]
  cases g:l[k]==c with
  |true=>
   rw[show(some l[k]==some c)=true from g]
   have i:=f (k+1) (k+1) (zJ h) (ai _)
   obtain⟨p,r,j⟩:=partsFrom_ne ⟨l.toArray⟩ 1 (k+1) (ql l c (k+1) m)
   show Bu _ (strSub ⟨l.toArray⟩ a k::partsFrom ⟨l.toArray⟩ 1 (k+1) (ql l c (k+1) m))=_
   rw[j] at i ⊢
   show strSub ⟨l.toArray⟩ a k++⟨z.toArray⟩++Bu ⟨z.toArray⟩ (p::r)=_
   rw[i,Jb,dw]
   refine se (nq.mp ?_)
   simp[sf]
  |false=>
   rw[show(some l[k]==some c)=false from g]
   refine(f (k+1) a (zJ h) (dg b)).trans ?_
   have e2:(l.drop a).take (k+1-a)=(l.drop a).take (k-a)++[l[k]]:=by
    rw[Nat.succ_sub b,List.take_add_one,List.getElem?_drop,Nat.add_sub_of_le b,aF d];rfl
   rw[e2,aM];rfl
theorem replace_one:tf ⟨l.toArray⟩ ⟨#[c]⟩ ⟨z.toArray⟩=⟨(qQ c z l).toArray⟩:=by
 have h:=join_one (z:=z) (c:=c) l.length 0 0 (dJ _) (ai _)
 show(if ((occurrences ⟨l.toArray⟩ ⟨#[c]⟩ 0 l.length (l.length+1)).isEmpty||1==0&&_)=true then _ else glued _ (partsBetween _ (occurrences ⟨l.toArray⟩ ⟨#[c]⟩ 0 l.length (l.length+1)) 1))=_
 rw[Og,glued_eq_join,partsBetween_eq]
 cases b:ql l c 0 l.length with
 |nil=>
  rw[b] at h
  exact(sub_whole ⟨l.toArray⟩).symm.trans h
 |cons a r=>
  rw[b] at h
  exact h
end Internal
namespace Internal
open PySem PySem.W PySem.Spec PySem.Calls PyProof.Rows PySem.SeqAt
noncomputable def qB (v:bD):Str:=tf (tf v "\\" "\\\\") "\"" "\\\""
noncomputable def vD (p v:bD):Str:=xU++p++"=\"" ++v++"\""
section
variable {C:Cfg} {F:FZ} {O:List bz} {J:aZ} {s:aN} {A:bU} {U:pB}
theorem AK (i:x.length<=1000) (h:aD (aI C.prog C.w) A (gW d U) (λv s1=>∃t,v= .str x t/\∀e b,s1.toks<=b->Q (.str x e) {s1 with toks:=b}) a_ s):
  aD (aI C.prog C.w) A (gW (.FormattedValue d 115 none pos) U) Q a_ s:=by
 refine ae (ao h (λv dm c=>aG c λt g j=>?_) λa a x=>x);clear c h;subst g
 refine ae (cD ?_)
 have f:∀e b,dm.toks<=b->aD (aI C.prog C.w) A (formatField (.str x e) xU) Q a_ {dm with toks:=b}:=λe b k=>
  wpAny_formatField_str (j e b k) (j b (b+1) (dg k)) (dK i)
 exact ae (bf (wpAny_habitSame_str (f t dm.toks (ai _)) (f dm.toks _ (aQ _)) (dK i)))
end
section
variable {C:Cfg} {R:Rd} {ℓ:Nat}
abbrev aga (P:cZ):Prop:=∀p v J (Q:EPost),p.length<=100->v.length<=900->Q (.str (vD p v)) J->P.ext e3 [.str p,.str v] J Q
theorem ade:aga (PM C R2 ℓ):=by
 intro p v J Q o t q xs H e f L U Z F O s A m u E Y d
 have e:=ab e;subst e
 obtain⟨G,g⟩:=aq.mp f
 obtain⟨g,x3⟩:=aq.mp g
 obtain⟨I,M⟩:=vals2 d
 refine letQ ?_;intro w;refine wpAny_JoinedStr ?_
 have N:∀i,s.toks<=i->bT C H L U Z F O {s with toks:=i}.heap:=λi a=>u
 have x:(xU++p).length<=100:=by rw[ee];exact(dJ _).symm▸o
 have y:(xU++p++aa "=\"").length<=102:=by rw[ee];exact cX x (ai 2)
 have z:(xU++p++aa "=\"" ++v).length<=1002:=by rw[ee];exact ag (cX y t) (by decide)
 have B:(vD p v).length<=1003:=by unfold vD;rw[ee];exact cX z (ai 1)
 have b:∀{n},n<=1003->n<=sizeLine:=λh=>ag h (by decide)
 refine letQ ?_;intro w;refine AK (ag o (by decide)) (hY u (by kernel_rfl) G I λr j=>bA j λP=>(aP P rfl (λk S D=>(eA p k rfl (b (ag x (by decide))) (ib (eA _ _ rfl (b (ag y (by decide))) (letQ ?_)))))));intro w;exact AK (ag t (by decide)) (hY (s:={s with toks:=_}) (N _ (dg D)) (by kernel_rfl) g M λr j=>bA j λT=>(aP T rfl (λl W X=>(eA v l rfl (b (ag z (by decide))) (ib (oW _ _ rfl (b B) (b B) (cM.toks E (c:= .str (vD p v)) ⟨_,rfl⟩ q (dg (dg (ag (dg D) X))))))))))
theorem Jw:∀l:List Nat,(qQ c [a,b] l).length<=2*l.length
 |[]=>ai _
 |x::l=>by
  have d:=Jw (c:=c) (a:=a) (b:=b) l
  show((cond (x==c) [a,b] [x])++qQ c [a,b] l).length<=2*(l.length+1)
  refine af ax ?_
  induction x==c using cB with
  |true=>show 2+_<=_;grind only
  |false=>show 1+_<=_;grind only
theorem we x {c a b}:(tf x ⟨#[c]⟩ ⟨#[a,b]⟩).length<=2*x.length:=by
 have:=replace_one (l:=x.cps.toList) (c:=c) (z:=[a,b])
 exact this▸Jw x.cps.toList
abbrev af4 (P:cZ):Prop:=∀v J (Q:EPost),v.length<=200->Q (.str (qB v)) J->P.ext e5 [.str v] J Q
theorem ac8:af4 (PM C R2 ℓ):=by
 intro v J Q j q xs H d f L U Z F O s A m o l y b
 have d:=ab d;subst d
 have g:=f
 have g:=(aq.mp g).1
 have tok:=l.base.tok
 refine letQ ?_;intro h;refine kO (by kernel_rfl) (by rfl) (by rfl) (letQ ?_);intro h;refine kO (by kernel_rfl) (by rfl) (by rfl) (hY o (by kernel_rfl) g (vals1 b) λr u=>bA u λt=>(fX _ _ (λw x=>TF) (letQ ?_)));intro h;refine dQ (ib (dQ (ib (eP (au (eW (λa e=>nomatch e) (nt ?_))))) (by rfl))) (by rfl);intro z;refine et (Qs (bZ tok) (pS _) (bj (cH _)) (by decide) (ag j (by decide)) (by decide) λB k n=>(fX _ _ (λw x=>TF) (letQ ?_)));intro h;exact dQ (ib (dQ (ib (eP (au (eW (λa e=>nomatch e) (et (Qs (bZ (av tok (ag (ba _ 2) n))) (pS _) (bj (cH _)) (by decide) (ag (we v) (ag (aX 2 j) (by decide))) (by decide) λD E i=>cM.toks l (c:= .str (qB v)) ⟨_,rfl⟩ q (ag (ba _ 2) (ag n (ag (ba _ 2) i))))))))) (by rfl))) (by rfl)
end
section
variable {P:cZ} {PS:dZ} {J:aZ} {Q:EPost} {n:Nat} {Z:bk}
theorem aaB {e1} {K} (a:∀K:Bool->aZ->Prop,K true J->gm (aw P n) Z k J e1 K) (q:K true J):gm (aw P n) Z (k+1) J (.bor (e1::es)) K:=a _ (Br.t q)
theorem ag0 {K} (h:Z i=some (.int x)) (a:(x !=0)=true) (q:K true J):gm (aw P (n+1)) Z (k+1) J (.var i) K:=aA (P:=P) (n:=n) (Q:=λc J=>nU (eC J c) λb=>K b J) h (by
 show K (x !=0) J
 exact af a q)
theorem Yo (b:af4 P) (c:aga P) (d:0<v.length) (a:v.length<=200) (e:p.length<=100) (q:Q (.str (vD p (qB v))) J):bX (wpS P PS 10) OF (U [some (.str p),some (.str v),some (.int 1)]) J (fG J Q):=by
 refine aK (fM (Cf (b2:=true) (λK q=>dp (aA rfl (bx (aP false rfl q)))) (λK q=>dp (nV (aA rfl ⟨dK (ag a (by decide)),bx ?_⟩))) ?_))
 ·show K (decide ((0:Int)<v.length)) J
  exact af (decide_eq_true (show(0:Int)<v.length from eH.mpr d)) q
 exact Br.t (aK (fM (aaB (λK=>ag0 rfl rfl) (Br.t (sA (λQ q=>AA rfl (b v J Q a q)) (aK (jA (Oz rfl rfl (c p (qB v) J _ e (ag (we _) (ag (aX 2 (we v)) (ag (aX 2 (aX 2 a)) (by decide)))) (eR rfl q))))))))))
abbrev acR (P:cZ):Prop:=∀p v J (Q:EPost),0<v.length->v.length<=200->p.length<=100->Q (.str (vD p (qB v))) J->P.eK 166 [.str p,.str v] [] J Q
theorem WN (h:d_ x (aa "_") 0 x.length (x.length+1)=[]) Q (q:Q (.str x)):wm .replace x [.str (aa "_"),.str (aa "-")] Q:=(oW _ _ rfl rfl (h▸rfl) q)
theorem AS (a:CM P) (c:Z 0=some (.own t)) (e:Z i=some (.str x)) (f:J[t]?=some (.inst 289 (some d))) (g:J[d]?=some (.ns [(qS,.own m)])) (h:mR x=true) (j:x.length<=1000) (k:∀Q:EPost,Q (.bool b) J->aw P (n+1) Z J l Q) (q:Q (.str x) J):
  aw P (n+2) Z J (.gJ 289 188 (aa "_convert_string_type") (.var 0) [(.var i)] [(aa "name")] [l]) Q:=
 mV (aA c ⟨hJ f g rfl,mL (aA e (jh (mL (k _ (jh (a _ _ b _ _ h j q))))))⟩)
end
theorem wu:∀l,Bu ⟨#[]⟩ l=⟨(l.flatMap λx=>x.cps.toList).toArray⟩
 |[]=>rfl
 |[x]=>by
  show x=_
  rw[gR,Dg,bK]
 |x::y::l=>by
  show x++⟨#[]⟩++Bu ⟨#[]⟩ (y::l)=_
  exact af (wu (y::l)) (se (nq.mp (by simp[sf])))
theorem oD l:lM "" l=⟨(l.flatMap λx=>x.cps.toList).toArray⟩:=by
 match l with
 |[]=>rfl
 |[x]=>exact wu [x]
 |x::y::l=>exact(StrLaws.glued_eq_join _ _).trans (wu (x::y::l))
theorem Yy c:(DF c).cps.toList=qQ 34 [92,34] (qQ 92 [92,92] [c]):=by
 have e:jN ⟨#[c]⟩ qb=(c==34||c==92):=by
  refine(ti qb c).trans ?_
  rw[fR,decide_eq_true_eq,jv,beq_iff_eq,beq_iff_eq]
  show c∈[34,92]↔_
  rw[aE,bl]
 unfold DF
 refine af e ?_
 induction h:c==34 using cB with
 |true=>refine af (beq_iff_eq.mp h) ?_;rfl
 |false=>induction a:c==92 using cB with
  |true=>refine af (beq_iff_eq.mp a) ?_;rfl
  |false=>
   show[c]=List.flatMap _ (cond (c==92) [92,92] [c]++[])
   refine af a ?_
   show[c]=cond (c==34) [92,34] [c]++[]
   refine af h ?_;rfl
theorem aeP v:qB v=oG v:=by
 have e3:qB v=⟨(qQ 34 [92,34] (qQ 92 [92,92] v.cps.toList)).toArray⟩:=(congrArg (λx=>tf x "\"" "\\\"") (replace_one (l:=v.cps.toList) (c:=92) (z:=[92,92]))).trans replace_one
 rw[e3]
 unfold oG
 rw[oD,uv]
 have:∀l:List Nat,qQ 34 [92,34] (qQ 92 [92,92] l)=l.flatMap λc=>(DF c).cps.toList:=λl=>by
  induction l with
  |nil=>rfl
  |cons c l a=>
   rw[gR,Yy,<-a]
   show qQ 34 _ (cond (c==92) [92,92] [c]++qQ 92 _ l)=qQ 34 _ (cond (c==92) [92,92] [c]++[])++_
   rw[bK]
   exact qV
 rw[this]
theorem Xu lit dk:lM "; " [lit,vD "dark" (qB dk)]=rG lit dk:=by
 rw[aeP]
 refine se (nq.mp ?_)
 show(lit.cps++ #[59,32]++((#[]++ #[100,97,114,107]++ #[61,34]++(oG dk).cps)++ #[34])).toList=((lit.cps++ #[59,32,100,97,114,107,61,34]++(oG dk).cps)++ #[34]).toList
 simp
noncomputable abbrev FU (P:cZ) (PS:dZ) (m:Nat):CV->bk->aZ->fA->Prop:=λc Z J Q=>du (aw P m) (.tup [.var 5,.var 6]) c Z J (λZ J=>bX (wpS P PS m) Ck Z J Q)
theorem PG:d_ (aa "dark") (aa "_") 0 (aa "dark").length ((aa "dark").length+1)=[]:=by decide+kernel
section
variable {P:cZ} {PS:dZ} {J:aZ} {Q:EPost} {n:Nat} {Z:bk}
theorem OT {K} (b:CM P) (k:acR P) (c:Z 0=some (.own t)) (l:Z 4=some (.own e)) (g:J[t]?=some (.inst 289 (some d))) (h:J[d]?=some (.ns [(qS,.own s)])) (m:J[e]?=some (.list [.str lit])) (o:mR dk=true) (r:0<dk.length) (j:dk.length<=100)
  (q:∀a:bk,(∀i,i<5->a i=Z i)->K .next a (J.set e (.list [.str lit,.str (vD "dark" (qB dk))]))):eO (λ_=>True) (FU P PS 10) [.tup [.str "dark",.str dk]] Z J K:=by
 refine⟨trivial,ip (cU (cU (sA (λQ q=>AS b c rfl g h (by decide+kernel) (by decide) (λQ=>bx) q) (aK (fM (dp (aA rfl (bx (aP false rfl (Br.f (sA (λQ q=>AS b c rfl g h o (ag j (by decide)) (λQ=>bx) q) (aK (Ov l m (λQ q=>lU (mL (lB (λQ=>aA rfl) (λQ q=>mL (bx (mL (bx (jh q))))) ?_))) (dK (by show 1<=1000;decide)) (mK (bY (mK (bY ⟨trivial,q _ λi u=>by
   rw[cG _ _ (by lia),cG _ _ (by lia),cG _ _ (by lia),cG _ _ (by lia)]⟩)))))))))))))))))⟩
 ·refine WN PG _ (mL (aA rfl (jh (k _ _ _ _ r (ag j (by decide)) (by decide) q))))
theorem Ys (a:J.all (hM J.length)=true) (b:hM J.length m=true) (q:Q .none (J.set r m)):fG J Q .next Z (J.set r m++τ):=by
 have e:(J.set r m++τ).take J.length=J.set r m:=af (iy (bH▸ai _)) (gQ (af bH (ai _)))
 refine(oW .none .none rfl rfl (.inr (af e (aV.mpr λx c=>?_))) (af e q))
 clear e q;rcases js c with h|rfl
 ·exact aV.mp a x h
 ·exact b
theorem Xj (a:rM k c=true):∀{l},pz k l=true->pz k (l++[c])=true:=by
 intro l
 induction l with
 |nil=>
  exact λf=>aq.mpr ⟨a,rfl⟩
 |cons x l b=>
  intro h
  obtain⟨d,e⟩:=aq.mp h
  exact aq.mpr ⟨d,b e⟩
theorem VI (d:lit.length<=100) (e:dk.length<=100):dT ([lit,vD "dark" (qB dk)].toArray.foldl (· + ·.length+(aa "; ").length) 0)=false:=by
 have h:(vD "dark" (qB dk)).length<=410:=by
  have:=ag (we (c:=34) (a:=92) (b:=34) _) (aX 2 (we (c:=92) (a:=92) (b:=92) dk))
  unfold vD
  rw[ee,ee]
  exact cX (cX (show 0+4+2<=9 by decide) (ag this (aX 2 (aX 2 e)))) (ai 1)
 refine oC (B:=410) (λx hx=>?_) (ai 2) (by decide)
 rcases aE.mp hx with rfl|hx
 ·exact ag d (by decide)
 ·exact af (bl.mp hx) h
theorem YW (s:CM P) (f:CM P') (g:acR P') (x:∀Z J Q,Z 3=some (.gx [("dark",.str dk)])->eO (λ_=>True) (FU P' y 10) [.tup [.str "dark",.str dk]] Z J Q->PS (gX vE 2) Z J Q)
  (z:J[t]?=some (.inst 289 (some d))) (A:J[d]?=some (.ns [(qS,.own h)])) (e:J[h]?=some (.list l)) (B:l.length<=900) (i:mR name=true) (j:mR lit=true) (o:mR dk=true) (C:name.length<=100) (u:lit.length<=100) (v:dk.length<=100) (D:0<dk.length)
  (c:J.all (hM J.length)=true) (q:Q .none (J.set h (.list (l++[.tup [.str name,.str (rG lit dk)]])))):
  bX (wpS P PS 12) OG (U [some (.own t),some (.str name),some (.str lit),some (.gx [("dark",.str dk)])]) J (fG J Q):=by
 have a:∀m:MO,(J++[m])[t]?=some (.inst 289 (some d)):=λm=>mr z
 have b:∀m:MO,(J++[m])[d]?=some (.ns [(qS,.own h)]):=λm=>mr A
 refine ZW (λQ q=>yS q) (aK (fM (dp (aA rfl (bx (aP false rfl (Br.t (sA (λQ q=>AS s rfl rfl (a _) (b _) j (ag u (by decide)) (λQ=>bx) q) (aK (Aw rfl (λQ q=>aA rfl q) (dY _) (mK (bY (mK (aK (x _ _ _ rfl (OT f g rfl rfl (a _) (b _) lD o D v λr k=>mK (af xt ?_)))))))))))))))))
 have w:r 0=some (.own t):=k 0 (by decide)
 refine aK (EB (qp w (a _) (b _) rfl rfl _ (ml (mr e) (j' (AS s w (k 1 (by decide)) (a _) (b _) i (ag C (by decide)) (λQ=>bx) (lB (λQ=>bx) (λQ q=>mL (aA (k 4 (by decide)) (jh q))) ?_))))))
 show wm .join "; " [eC (J++[.list (sC [lit,vD "dark" (qB dk)])]) (.own J.length)] _
 refine af pN (OV _ (tP _) (VI u v) vN (ml (mr e) ⟨dK (ag B (by decide)),mK ?_⟩))
 rw[Xu,eZ _ _ (aj.mp e).1]
 exact bY (Ys c (Xj rfl (Lw c e)) q)
end
section
variable {prog:jT} {w:oK} {A:bU} {E:bq->aN->Prop} {h:kT} {g:Array Qt} {d:Drawn} {t:Nat} {os:Vu}
variable {C N:bz} {r:acS}
noncomputable abbrev made (h:kT) (C:bz):Heap:=(h.push {cls:= .type "dict",data:= .dict #[]}).push {cls:= .ref C,dict:=some h.objs.size,data:= .plain}
theorem S_ {mN:bD->Option bq} {rest:List bq} {fI:bz} {l:Obj} {Q:bq->aN->Prop}
  (f:h.get? C=some (xI C N r)) (m:h.Ns N mN) (n:mN "__init__" =some (.ref fI)) (i:h.get? fI=some l) (j:l.cls= .type "function")
  (q:aD (aI prog w) (A.under (.builtin "type.__call__" ⟨.ref C::rest,[]⟩)) (call (.ref fI) (.ref (h.objs.size+1)::rest)) (λr u=>r= .none/\Q (.ref (h.objs.size+1)) u) E ⟨made h C,g,d,t,os⟩):
  aD (aI prog w) A (call (.ref C) rest) Q E ⟨h,g,d,t,os⟩:=by
 have b:∀{a:bz} {o:Obj},h.get? a=some o->(made h C).get? a=some o:=λe=>bu _ (bu _ e)
 have f1:=tc_lookup
 have f2:=tc_bind (.ref C)
 have z:(⟨h,g,d,t,os⟩:aN).TypeIs (.ref C) "type" :=⟨_,f,rfl⟩
 refine ol (Ej ?_)
 repeat (any_goals (first|assumption|with_reducible refine fY f ?_|wp_step))
 refine⟨rfl,?_⟩
 refine codeAny_call_builtin_at (zy _ (by decide+kernel)) entry_typeCall (wpAny_check_type_call_sub f ?_)
 repeat (first|with_reducible refine fY f ?_|with_reducible refine wpAny_madeBy_exc f ?_|wp_step)
 refine codeAny_call_builtin_code (zy _ xe.quiet) (wpAny_check_obj_new xe f ?_)
 refine codeAny_obj_new xe f m n ?_
 have c:=b f
 have k:(nf C::[zv "object"]).contains (.ref C)=true:=by rw[List.contains_cons,beq_self_eq_true];rfl
 repeat (first|with_reducible refine fY B ?_|(with_reducible refine wpAny_isSubtype_exc c ?_;rw[k])|wp_step)
 refine mB c (nH m λo es s e r=>ww o es s (b e) r) (by kernel_rfl) (by kernel_rfl:gN (.type "object") "__init__" =pure (some (.builtin "object.__init__"))) ?_
 rw[n]
 refine bf (ae ?_)
 refine ae (Bl (T:="function") ⟨_,b i,j⟩ ?_)
 refine au (ae (ao q (λr u v=>?_) λa a x=>x))
 obtain⟨rfl,y⟩:=v
 wp_walk
 exact y
end
section
variable {C:Cfg} {F:FZ} {O:List bz} {J:aZ} {A:bU} {s:aN} {ℓ:Nat}
theorem Callee.cls (h:zm C c mN):Callee C c:=λA s Q d e=>by
 obtain⟨N,g,f,a⟩:=h
 have b:=d _ _ f
 exact ae (oj b (ae (lj (aP _ b rfl) tc_lookup (au (e _)))))
theorem bQ.make (h:bQ (n+1) A):bQ n (A.under (.builtin "type.__call__" ⟨.ref c::vs,[]⟩)):=
 (fg h.1 (by refine af (show(A.under (.builtin "type.__call__" ⟨.ref c::vs,[]⟩)).depth=A.depth+1 from rfl) ?_;have:=h.2.1;grind-abstractProof only) (by
  refine af (show(A.under (.builtin "type.__call__" ⟨.ref c::vs,[]⟩)).units=A.units+1 from rfl) ?_;have:=h.2.2;grind-abstractProof only))
theorem Xa:(made h c).get? (h.objs.size+1)=some {cls:= .ref c,dict:=some h.objs.size,data:= .plain}/\(made h c).get? h.objs.size=some {cls:= .type "dict",data:= .dict #[]}/\(made h c).objs.size=h.objs.size+2:=by
 have e:=aT (h.push {cls:= .type "dict",data:= .dict #[]}) (o:={cls:= .ref c,dict:=some h.objs.size,data:= .plain}) rfl
 rw[dv] at e
 exact(fg e (bu _ (aT _ rfl)) (by rw[dv,dv]))
theorem Go.ahk (d:Nw C F O J s) {c}:Go C .no F O s F (O++[s.heap.objs.size+1]++[s.heap.objs.size]) (J++[.inst c (some (J.length+1)),.ns []]) {s with heap:=made s.heap c}:=by
 refine qk (Xa (h:=s.heap) (c:=c)) λk l i=>?_
 have g:∀{a},s.heap.objs.size<=a->F.f a=none/\a∉O/\a∉C.tabs:=λ{a} j=>⟨by
  induction e:F.f a using cO with
  |none=>rfl
  |some o=>exact absurd (aU (d.fz _ _ e)) (bL.mpr j),λh=>absurd (d.dj.fr _ h).2.2 (bL.mpr j),λh=>absurd (d.base.lt _ h) (bL.mpr j)⟩
 have n:Go C .no F O s F O J {s with heap:=made s.heap c}:=Go.lC d (λa o e=>bu _ (bu _ e)) (i▸ba _ 2)
 refine qk (g (aQ s.heap.objs.size)) λq r t=>qk (g (ai s.heap.objs.size)) λu v w=>?_
 have b:=d.dj.len
 have y:s.heap.objs.size∉O++[s.heap.objs.size+1]:=λh=>by
  rcases bt.mp h with h|h
  ·exact v h
  ·exact absurd (bl.mp h) (bj (cH _))
 have g2:=Go.own (mo:= .ns []) (Go.own (mo:= .ei (λa a a=>True) J.length) n (aQ _) q r t (i▸cH _) (eA _ _ k (by rw[<-b,be (ai _),dw];rfl) λa a=>trivial)) (ai _) u y w (i▸dO (cH _)) (eJ _ (Bw (jq _ #[] _ l rfl (λe z=>absurd z (by simp)) λa=>rfl)) (λx c=>aW) λa a=>rfl)
 have i1:(O++[s.heap.objs.size+1]++[s.heap.objs.size])[J.length]?=some (s.heap.objs.size+1):=by
  rw[aM,<-b,be (ai _),dw];rfl
 have i2:(O++[s.heap.objs.size+1]++[s.heap.objs.size])[J.length+1]?=some s.heap.objs.size:=by
  rw[aM,<-b,be (aQ _)]
  show _[O.length+1-O.length]?=_
  rw[ed];rfl
 have g3:=g2.trans (Go.oP (d.go g2) i1 (m:= .inst c (some (J.length+1))) (λa a a e=>e) (ai _) ⟨_,k,rfl,λa e=>(nomatch e),λa a=>⟨λe=>(nomatch e),λe=>nomatch e⟩,_,i2,rfl⟩ (ai _))
 rw[aM J,fB _ _ (ai _),dw] at g3
 exact g3
theorem Na {Q:EPost} (n:ta C c "__init__" f) (h:(PM C R ℓ).eK f (.own J.length::args) [] (J++[.inst c (some (J.length+1)),.ns []]) (λr aO=>r= .none/\Q (.own J.length) aO)):(PM C R (ℓ+1)).eK c args [] J Q:=by
 refine abO n λmN o M y l t w x i j z P=>⟨Callee.cls l,λA F O s vs kv B d r D=>cps λS E=>?_⟩
 obtain rfl:kv=[]:=D
 obtain⟨N,T,G,H⟩:=AV d l
 refine E (S_ G H x (d.fz _ _ (d.top.k _ _ i)) j ?_)
 have g:=Go.ahk d (c:=c)
 have b:∀{F' aH},ny (O++[s.heap.objs.size+1]++[s.heap.objs.size]) aH->Rep F' aH (.own J.length) (.ref (s.heap.objs.size+1)):=λi=>(aP _ (i _ _ (by
  rw[aM,<-d.dj.len,be (ai _),dw];rfl)) rfl)
 refine ao (h.2 _ _ _ _ (.ref (s.heap.objs.size+1)::vs) [] B.make (d.go g) (.cons (b (.refl _)) (r.mono g.ext.le g.jo)) rfl) (λv u I=>?_) λa a e=>e
 obtain⟨F',aH,aO,W,m,L,rfl,q⟩:=I
 exact⟨L,F',aH,aO,.own J.length,g.trans m,b m.jo,q⟩
end
def aft (C:Cfg) (f:bz) (d:iR) (items:Array bq):Prop:=∃b a o n,Bh C f d b/\b.defaults= .ref a/\C.K a=some o/\o.data= .seq items n
structure PH C:Prop where
 conv:pw C 188 (mf "Headers" "_convert_string_type")
 fmt:∃t,aft C 166 (cV "_formatparam" fS) #[.none,.int 1 t]
 get:aft C 236 (mf "Headers" "get") #[.none]
 aiO:aft C 181 (mf "Headers" "__init__") #[.none]
 add:pw C 286 vE
 cls:ta C 289 "__init__" 181
 aij:pP C.K 153 codeN
 aii:pP C.K 158 wJ
section
variable {C:Cfg} {ℓ oy m:Nat}
theorem CF {xs:List bD} {K} (b:Nw C F O J s) (c:C.K a=some o) (d:o.data= .seq items n)
 (e:∃g,gr f ⟨vs,[]⟩=(CT (.ref a)>>=g)/\g (some items)=pure (xs.zip h)) (q:K (xs.zip h) s):aD (aI C.prog C.w) A (gr f ⟨vs,[]⟩) K a_ s:=aG e λg e1 e2=>af e1 (ae (Ht (b.fz _ _ (b.top.k _ _ c)) d (af e2 (au q))))
theorem KC (l:ef C R2) (h:PH C) (n:11<=ℓ):CM (PM C R2 ℓ):=λt v b J Q o lv q=>by
 refine aG h.conv λg i c=>xQ n (vX (ℓ:=0) l i (xs:=TR) (cs:=[t,.str v,.bool b]) (by kernel_rfl) (by kernel_rfl) rfl (by kernel_rfl) abc (λA F O s vs kv K u r j k=>?_) λw=>SO (ac7 h.aij h.aii) o lv q)
 obtain⟨B,a,rfl,x,D,a,rfl,y,rfl⟩:=r
 refine cz j λE a d z f=>?_;subst f;clear j q;subst d
 have e:g={g with params:=(mf "Headers" "_convert_string_type").args,defaults:= .none}:=by rw[<-i.params,<-c]
 rw[e,afc]
 exact au (k F s _ u.refl ⟨_,_,rfl,x,_,_,rfl,y,_,_,rfl,z,rfl⟩)
theorem agt (g:ef C R2) (h:PH C) (i:11<=ℓ):acR (PM C R2 ℓ):=λp v J Q j lv l q=>by
 refine afV h.fmt λt b a o n d c u w=>xQ i (vX (ℓ:=0) g d (xs:=Zg) (cs:=[.str p,.str v,.int 1]) (by kernel_rfl) (by kernel_rfl) rfl (by kernel_rfl) aeq (λA F O s vs kv K f r x k=>?_) λy=>Yo ac8 ade j lv l q)
 obtain rfl:kv=[]:=x
 obtain⟨z,a,rfl,B,D,a,rfl,E,rfl⟩:=r
 have e:b={b with params:=(cV "_formatparam" fS).args,defaults:= .ref a}:=by rw[<-d.params,<-c]
 exact af e (CF f u w (ahL b a z D t) (k F s _ f.refl ⟨_,_,rfl,B,_,_,rfl,E,_,_,rfl,⟨t,rfl⟩,rfl⟩))
theorem agv (b:ef C R2) (h:PH C) (D:50<=ℓ):Ki (PM C R2 ℓ):=λt d Y l name lit dk J Q w x y c f g i E G H I q=>by
 refine aG h.add λj z n=>xQ (ℓ:=12+35+1) (ag (by decide) D) (vX b z (xs:=Zh) (cs:=[.own t,.str name,.str lit,.gx [("dark",.str dk)]]) (by kernel_rfl) (by kernel_rfl) rfl (by kernel_rfl) aer (λA F O s vs kv K L r B k=>?_) λo=>(YW (P':=PM C R2 20) (KC b h (by decide)) (KC b h (by decide)) (agt b h (by decide)) (λZ J Q e=>Wz b (by decide) e) w x y c f g i G H I E o q))
 ·obtain⟨M,a,rfl,N,P,a,rfl,R,S,a,rfl,T,rfl⟩:=r
  refine cz B λW a u X v=>?_;subst v;clear B q c y x w;subst u
  have e:j={j with params:=vE.args,defaults:= .none}:=by rw[<-z.params,<-n]
  refine YP L N R T X ?_ k
  exact af e (ahM j M P S W)
end
theorem Xk (h:x.length<=1000):dT (placed x λi _=>ls x.cps i).size=false:=by
 have:=vP x.cps (λi a=>ls x.cps i) λi c=>yc _ _
 refine decide_eq_false (bL.mpr (ag this (ag (aX 3 h) ?_)))
 decide
theorem aaP x:(oU x).length<=3*x.length:=vP x.cps (λi a=>ls x.cps i) λi c=>yc _ _
section
variable {P:cZ} {PS:dZ} {J:aZ} {Q:EPost} {n:Nat} {Z:bk}
theorem Uw (a:Z i=some (.str x)) (b:x.length<=1000):∀Q:EPost,Q (.str (oU x)) J->aw P (n+2) Z J (.kB .lower (.var i) []) Q:=λQ q=>
 lB (λQ=>aA a) (λQ=>jh) ⟨Xk b,q⟩
theorem Yb {K} (e:g J) {v} (i:∀Z,K (.ret (.str v)) Z J):∀(es:List (bD×bD)) Z,Z 0=some (.own t)->Z 1=some (.str name)->(∀p∈es,p.1.length<=1000)->(es.find? λp=>oU p.1==name).map (·.2)=some v->
  eO g (iX P PS 10 (jc FX 1)) (es.map AP) Z J K:=by
 intro es
 induction es with
 |nil=>
  exact λZ d b c=>aW
 |cons p es j=>
  refine λZ d b c a=>⟨e,ip (cU (cU (aK (fM (dp (Uw rfl (c p az) _ (aA b ?_)))))))⟩
  show Br (oU p.1==name) _ _
  rw[En] at a
  induction h:oU p.1==name using cB with
  |true=>
   rw[h] at a
   have a:=ab a;subst a
   exact Br.t (aK (jA (aA rfl (i _))))
  |false=>
   rw[h] at a
   exact Br.f (bY (mK (bY (j _ d b (λp k=>c p (aB _ k)) a))))
theorem X_ {dflt} (e:CM P) (a:J[t]?=some (.inst 289 (some d))) (b:J[d]?=some (.ns [(qS,.own h)])) (f:J[h]?=some (.list (es.map AP))) (m:es.length<=900) (g:mR (oU name)=true) (c:name.length<=100) (i:∀p∈es,p.1.length<=100) (j:wF es name=some v) (q:Q (.str v) J):
 bX (wpS P PS 11) FX (U [some (.own t),some (.str name),some dflt]) J (fG J Q):=sA (λQ q=>mV (aA rfl ⟨hJ a b rfl,mL (Uw rfl (ag c (by decide)) _ (jh (mL (bx (jh (e _ _ true _ _ g (ag (aaP name) (ag (aX 3 c) (by decide))) q))))))⟩)) (aK (lS (EC (qp rfl a b rfl rfl) (by
 show(match J[h]? with|some (.list l)=>some l|_=>none)=_
 rw[f]) (Yb (rfl:uF J (.own h) J) (λZ=>eR rfl q) es _ rfl rfl (λp k=>ag (i p k) (by decide)) j))))
theorem Au {K} (h:aw P n Z J o (λa J=>Hf b J a x c (λJ=>K Z J))):du (aw P n) (.tB b o x) c Z J K:=h
theorem aiq {K} (q:K b J):gm (aw P (n+1)) Z (k+1) J (.cst (.bool b)) K:=q
theorem Sq (j:J[t]?=some (.inst 289 (some d))) (i:J[d]?=some (.ns [])) (c:J[h]?=some (.list [])) (b:J.all (hM J.length)=true) (q:Q .none (J.set d (.ns [(qS,.own h)]))):
  bX (wpS P PS 12) FW (U [some (.own t),some (.own h)]) J (fG J Q):=by
 have a:eC J (.own h)= .lst []:=oI c
 have g:∀{n} {Z} Q,Z 1=some (.own h)->Q (.own h) J->aw P (n+1) Z J (.var 1) Q:=λQ e=>aA e
 refine sA (λQ q=>jS (dp (g _ rfl (bx (af a ((aP false rfl (Br.t (g _ rfl q))))))))) (aK (fM (dp (nV (g _ rfl (af a (aP true (OU "list") (Br.f (sN (aK (gK (g _ rfl (Au (aA rfl (hJ j i ⟨dY _,mK (aK (fM (aiq (Br.t (aK (lS (EC (l:=[]) (λQ=>aA rfl) (by
  show(match (J.set d (.ns [(qS,.own h)]))[h]? with|some (.list l)=>some l|_=>none)=_
  rw[aS (λe=>by rw[e,c] at i;exact nomatch i),c]) ⟨rfl,mK (bY (mK (bY ?_)))⟩)))))))⟩)))))))))))))))
 exact Gz b (by
  show(decide (h<J.length)&&true)=true
  refine af (decide_eq_true (aj.mp c).1) ?_;rfl) q
end
section
variable {C:Cfg} {ℓ oy m:Nat}
theorem ags (i:ef C R2) (h:PH C) (u:30<=ℓ):Vr (PM C R2 ℓ):=λt d R es name v J Q w x y c z B D E q=>by
 refine GH h.get λf a o n j g G b=>xQ (ℓ:=11+11+1) (ag (by decide) u) (vX i j (xs:=Zf) (cs:=[.own t,.str name,.none]) (by kernel_rfl) (by kernel_rfl) rfl (by kernel_rfl) aep (λA F O s vs kv K l r H k=>?_) λI=>X_ (KC i h (by decide)) w x y c z B D E q)
 obtain rfl:kv=[]:=H
 obtain⟨L,a,rfl,M,N,a,rfl,P,rfl⟩:=r
 have e:f={f with params:=(mf "Headers" "get").args,defaults:= .ref a}:=by rw[<-j.params,<-g]
 exact af e (CF l G b (ahK f a L N) (k F s _ l.refl ⟨_,_,rfl,M,_,_,rfl,P,_,_,rfl,rfl,rfl⟩))
theorem ac_ (j:ef C R2) (h:PH C) (l:30<=ℓ):acM (PM C R2 ℓ):=λt J Q u q=>by
 refine GH h.aiO λc a o n g d v b=>xQ (ℓ:=12+0+1+1) (ag (by decide) l) (Na h.cls (vX j g (xs:=TQ) (cs:=[.own J.length,.own t]) (by kernel_rfl) (by kernel_rfl) rfl (by kernel_rfl) XJ (λA F O s vs kv K i r w k=>?_) λf=>Sq UM UL (mr u) f ⟨rfl,?_⟩))
 ·obtain rfl:kv=[]:=w
  obtain⟨x,a,rfl,y,z,a,rfl,B,rfl⟩:=r
  have e:c={c with params:=(mf "Headers" "__init__").args,defaults:= .ref a}:=by rw[<-g.params,<-d]
  exact af e (CF i v b (afb c a x z) (k F s _ i.refl ⟨_,_,rfl,y,_,_,rfl,B,rfl⟩))
 ·rw[fB _ _ (aQ _)]
  show Q _ (J++[MO.inst 289 (some (J.length+1)),.ns []].set (J.length+1-J.length) _)
  rw[ed];exact q
theorem Zs (a:ef C R2) (g:PF C) (h:PH C) (k:90<=ℓ) {b} {rows} {B} {G7} {ps} {s} {m0} {e} {J} {Q:EPost} (l:Bd J b rows B) (n:zo B rows s G7) (o:rY G7 ps s) (c:nL ps) (r:s<6)
  (d:∀p,p<s*s->mR (oU (sY p))=true) (t:∀i j,i<s->j<s->wF (qH G7 ps s i (bp 0 s)) (sY (i*s+j))=some (px G7 ps s i j)) (u:oa B=(m0::e).map .int) (v:(oa B).length<=1000) (w:0<=m0) (x:∀y∈e,0<=y)
  (q:Q (lY (kF G7 ps s)) J):(PM C R2 ℓ).eK 320 [.own b,.int (s:Nat),.lst (sC ps)] [] J Q:=
 jk a abX g.KV (m:=17) 60 (av (by decide) k) rfl λf=>NS (agv a h (by decide)) (ags a h (by decide)) (ac_ a h (by decide)) (ada a) l n o c r d t u v w x q
end
set_option tactic.hygienic true
section
open Builtin Builtin.ObjectAttr
theorem aeH:gN (.type "function") "__set__" =pure none:=by kernel_rfl
theorem aeJ:gN (.type "function") "__delete__" =pure none:=by rw[nX,jm];kernel_rfl
section
variable {prog:jT} {w:oK} {A:bU} {E:bq->aN->Prop} {h:kT} {g:Array Qt} {d:Drawn} {t:Nat} {os:Vu}
variable {C N x:bz} {r:acS}
 {mN mA:bD->Option bq} {name:bD} {f:bz} {of:Obj}
noncomputable abbrev hZ (f x:bz):Obj:={cls:= .type "method",data:= .fields #[.ref f,.ref x]}
theorem OE {k:Tok} {y:Option bq} {Q:Fin->aN->Prop}
  (l:h.get? C=some (xI C N r)) (J:h.Ns N mN) (m:mN name=some (.ref f)) (n:h.get? f=some of) (q:of.cls= .type "function") (s:mN "__getattr__" =none)
  (O:gN (.type "object") name=pure y) (I:h.Inst x C mA) (P:mA name=none) (i:((["__module__","__name__","__qualname__","__doc__","__annotations__"]:List bD).contains name)=false) (R:Q (.done (.ret (.ref h.objs.size))) ⟨h.push (hZ f x),g,d,t,os⟩):
  aD (aI prog w) A (ic.«proto.getattr_hooked» ⟨[.ref x,.str name k],[]⟩) Q E ⟨h,g,d,t,os⟩:=by
 obtain⟨o,L,M,z,S⟩:=I
 have T:=vx.lookup
 have j:(⟨h,g,d,t,os⟩:aN).TypeIs (.ref f) "function" :=⟨_,n,q⟩
 have f2:=aeH
 have W:=aeJ
 repeat (first|(with_reducible refine fY L ?_;rw[M])|(with_reducible refine mB l J Bx O ?_;rw[m])|(with_reducible refine Bl j ?_)|wp_step)
 have rest:aD (aI prog w) A (byTheClass (some (.ref f)) (some (.builtin "function.__get__"))) (λa=>aD (aI prog w) A (match a with
    |Found.value v=>ret v
    |Found.missing=>do
     let b<-gN (nf C) (aa "__getattr__")
     missingOrHook (nf x) (Kk name k) name b
    |Found.bind g a=>do
     let b<-gN (nf C) (aa "__getattr__")
     bindWithHook g a (nf x) (nf C) (Kk name k) b) Q E) E ⟨h,g,d,t,os⟩:=by
  refine ae (oi (au ?_))
  refine ae (mB l J Bx F.lk_object_getattr ?_)
  rw[s]
  refine ae (bf ?_)
  refine ao (h_ (Q:=λv u=>v= .ref h.objs.size/\u=⟨h.push (hZ f x),g,d,t,os⟩) vx j F.ks_entry_function_get ?_ (F.ks_getArgs_function _ _ _)) (λv u e=>?_) λa a e=>e
  ·repeat wp_step
   exact⟨_,rfl,rfl,rfl⟩
  ·obtain⟨rfl,rfl⟩:=e
   exact au R
 split
 ·rename_i c B
  exact absurd B (z c)
 repeat (first|(with_reducible refine fY L ?_;rw[M])|with_reducible refine fY l ?_|wp_step)
 rcases S with ⟨D,a⟩|⟨X,G,a,H⟩
 ·rw[D]
  repeat wp_step
  exact i▸au rest
 ·rw[G]
  repeat (first|(with_reducible refine wpAny_nsGet H.ns ?_;rw[P])|wp_step)
  exact i▸au rest
theorem Gp (l:h.get? C=some (xI C N r)) (m:h.Ns N mN) (c:mN "__getattribute__" =none) (e:mN name=some (.ref f)) (i:h.get? f=some of) (j:of.cls= .type "function") (k:mN "__getattr__" =none)
  (q:gN (.type "object") name=pure y) (I:h.Inst x C mA) (s:mA name=none) (b:(["__module__","__name__","__qualname__","__doc__","__annotations__"]:List bD).contains name=false) (u:Q (.ref h.objs.size) ⟨h.push (hZ f x),g,d,t+1,os⟩):
  aD (aI prog w) A (getAttr (.ref x) name n) Q E ⟨h,g,d,t,os⟩:=by
 obtain⟨o,v,z,a⟩:=id I
 repeat (first|(with_reducible refine fY v ?_;rw[z])|(with_reducible refine mB l m Bx F.lk_object_ga ?_;rw[c])|wp_step)
 exact yC (wpAny_runValue (codeAny_builtin F.plainObj_entry_getattr_hooked (OE l m e i j k q I s b (au u))))
end
theorem RL:gN (.type "method") "__call__" =pure (some (.builtin "method.__call__")):=by kernel_rfl
theorem OS:uk table "iter" =some ic.«iter»:=m_ (by kernel_rfl)
section
variable {prog:jT} {w:oK} {A:bU} {E:bq->aN->Prop} {s:aN}
theorem R' (a:s.heap.get? b=some (hZ f x)) (c:Q (.done (.ret (.ref s.heap.objs.size))) {s with heap:=s.heap.push {cls:= .type "callable_iterator",data:= .fields #[.ref b,y,.bool false]}}):
  aD (aI prog w) A (ic.«iter» ⟨[.ref b,y],[]⟩) Q E s:=by
 show aD _ _ (do if (<-specialOf (.ref b) "__call__").isNone then _ else _) _ _ _
 refine ae (lj ⟨_,a,rfl⟩ RL (ae (oi (ae (jE (au c))))))
end
end
set_option tactic.hygienic false
set_option backward.match.sparseCases true
section
open Builtin
noncomputable abbrev tO (b:bz) (y:bq):Obj:={cls:= .type "callable_iterator",data:= .fields #[.ref b,y,.bool false]}
noncomputable abbrev wh:Obj:={cls:= .type "callable_iterator",data:= .fields #[.none,.none,.bool true]}
theorem AW:Slot "callable_iterator" "__next__" "callable_iterator.__next__" :=
 .of (owner:="callable_iterator") (n:="__next__") (by kernel_rfl) (by decide+kernel) (by decide+kernel) (by decide+kernel) (by first|exact .inl (by decide+kernel)|exact .inr (by decide+kernel)) (by kernel_rfl)
theorem PX:uk table "callable_iterator.__next__" =some ic.«callable_iterator.__next__»:=m_ (by kernel_rfl)
theorem UX a:argsOk "callable_iterator.__next__" ⟨[a],[]⟩:=by
 kernel_rfl
theorem PW:Slot "callable_iterator" "__iter__" "callable_iterator.__iter__" :=
 .of (owner:="callable_iterator") (n:="__iter__") (by kernel_rfl) (by decide+kernel) (by decide+kernel) (by decide+kernel) (by first|exact .inl (by decide+kernel)|exact .inr (by decide+kernel)) (by kernel_rfl)
theorem YJ:uk table "callable_iterator.__iter__" =some ic.«dict_keyiterator.__iter__»:=
 HC (id':="dict_keyiterator.__iter__") (by kernel_rfl) rfl (by decide+kernel) (by kernel_rfl)
theorem ab' a:argsOk "callable_iterator.__iter__" ⟨[a],[]⟩:=by
 kernel_rfl
section
variable {prog:jT} {w:oK} {A:bU} {E:bq->aN->Prop} {s:aN}
theorem xX (b:ik M A (.call f ⟨pos,[]⟩) (λr u=>match r with| .ok (.ret v)=>Q v u| .ok _=>False| .error e=>E e u) s):aD M A (callBorrowed f pos) Q E s:=λd p a=>by
 refine wpCode_mono (λr u h=>?_) (b _ p rfl (a.enter (.call f ⟨pos,[]⟩) none p (by intro x;exact aW x)))
 induction r using pq with
 |error e=>exact h
 |ok c=>induction c using gj with
  |ret v=>exact h
  |next=>exact ar h
  |brk=>exact ar h
  |cont=>exact ar h
theorem ab9 (a:s.TypeIs (.ref it) "callable_iterator") (b:Q (.ref it) s):aD (aI prog w) A (kf (.ref it)) Q E s:=Bm a PW (h_ PW a YJ (au ⟨_,rfl,"callable_iterator",_,a,AW.lookup,b⟩) (ab' _))
theorem acg (c:s.heap.get? b=some (hZ f x)) (d:s.heap.get? f=some of) (a:of.data= .func h)
 (g:ik (aI prog w) A (.call (.ref f) ⟨[.ref x],[]⟩) (λr u=>match r with| .ok (.ret v)=>Q v u| .ok _=>False| .error e=>E e u) s):aD (aI prog w) A (callOutOfASlot (.ref b)) Q E s:=ae (ae (oj c (ae (oj d (af a (au (xX (ks_codeAny_call_bound c g))))))))
theorem Dp (c:A.handled=none) (d:∀a e,(∀b o,s.heap.get? b=some o->a.get? b=some o)->s.heap.objs.size<=a.objs.size->(∃o,a.get? e=some o/\o.cls= .type "StopIteration")->E (.ref e) {s with heap:=a}):
  aD (aI prog w) A (By:Sem α) Q E s:=by
 refine ae (ae (jE (ae (jD (by first|rfl|(rfl)) (nt ?_))) (by size_fits)));intro f;refine jE (ae (It (af c (ae (au (wpAny_throw (d _ _ (λb o e=>bu _ (bu _ e)) ?_ (aP _ (aT _ rfl) rfl)))))))) (by size_fits)
 rw[dv,dv]
 exact ba _ 2
theorem Tb (c:s.heap.get? b=some (hZ f x)) (d:s.heap.get? f=some of) (a:of.data= .func g) (e:Q true s):aD (aI prog w) A (borrowsExactly (.ref b)) Q E s:=ae (oj c (ae (oj d (af a au e))))
noncomputable abbrev ae4 (a:bq):Code->Bool:=λ| .builtin "callable_iterator.__next__" x=>x.pos.head?==some a|_=>false
inductive afn (h:kT) it y:Prop
 |mk b f x of fd (hi:h.get? it=some (tO b y)) (hb:h.get? b=some (hZ f x)) (hf:h.get? f=some of) (akj:of.data= .func fd)
theorem ae3 (e:X=(do slotLetsGo "callable_iterator.__next__" (<-field (.ref it) 0) (ae4 (.ref it));Qo (.ref it) 0 .none;Qo (.ref it) 1 .none;Qo (.ref it) 2 (.bool true)))
 (d:s.heap.get? it=some (tO b y)) (g:s.heap.get? b=some (hZ f x)) (h:s.heap.get? f=some of) (a:of.data= .func n)
 (i:∀c,c.get? it=some wh->jI it s.heap c->Q () {s with heap:=c}):aD (aI prog w) A X Q E s:=af e (ae (qs d rfl rfl (ae (ae (Tb g h a (au (ae (rZ d (CX 2) λo g1 j=>ae (rZ g1 (by simp) λq g2 k=>rZ g2 (by simp) λl g3 m=>i l g3 ((j.trans k).trans m))))))))))
theorem ab8 (g:s.heap.get? it=some (tO b y)) (t:s.heap.get? b=some (hZ f x)) (u:s.heap.get? f=some of) (i:of.data= .func W)
  (z:ik (aI prog w) A.in1 (.call (.ref f) ⟨[.ref x],[]⟩) (λr s1=>match r with
   | .ok (.ret v)=>∃j,afn s1.heap it j/\aD (aI prog w) A.in1 (eqBool j v) (λe k=>k=s1/\(e=false->Q (some v) s1)/\
     (e=true->∀c,c.get? it=some wh->qu it s1.heap c->s1.heap.objs.size<=c.objs.size->Q none {s1 with heap:=c})) (λ_ _=>False) s1
   |_=>False) s) (B:A.handled=none):aD (aI prog w) A (pyNext (.ref it)) Q E s:=by
 have l:s.TypeIs (.ref it) "callable_iterator" :=aP _ g rfl
 refine ae (p_ (iM l AW (h_ AW l PX ?_ (UX _))))
 refine ae (au (ae (qs g rfl rfl (letQ ?_))));intro m;refine ae (qs g rfl rfl (ae (p_ (acg t u i (ij z λr s1 h=>?_)))))
 induction r with
 |error e=>refine oV ?_;intro m C;exact ar h
 |ok D=>induction D using gj with
  |next=>exact ar h
  |brk=>exact ar h
  |cont=>exact ar h
  |ret v=>
   obtain⟨j,⟨b,f,x,X,F,i1,G,f1,H⟩,I⟩:=h
   refine ae (qs i1 rfl rfl (letQ ?_));intro m;refine ae (qs i1 rfl rfl (ae (bf (ao I (λe k d=>ac3 d λJ L=>?_) λe k d=>ar d))))
   clear d;induction e using cB with
   |false=>exact au (aP _ rfl (au (J rfl)))
   |true=>
    refine ae (oi (ae (ae3 rfl i1 G f1 H λY M n=>nt ?_)));intro C;exact Dp B λN e6 q O P=>aG P λR S T=>ae (ui (aP R S T) wZ (au (L rfl N (q it _ M) (n.extBut.trans λb o a e=>q b o e) (n.1▸O))))
theorem ab7 (c:s.heap.get? it=some wh) (e:A.handled=none) (f:∀a,(∀b o,s.heap.get? b=some o->a.get? b=some o)->s.heap.objs.size<=a.objs.size->Q none {s with heap:=a}):aD (aI prog w) A (pyNext (.ref it)) Q E s:=by
 have d:s.TypeIs (.ref it) "callable_iterator" :=aP _ c rfl
 refine ae (p_ (iM d AW (h_ AW d PX ?_ (UX _))))
 exact ae (au (ae (qs c rfl rfl (ae (oi (ae (Dp e λg e6 h i j=>aG j λk l m=>ae (ui (aP k l m) wZ (au (f g h i))))))))))
end
end
set_option backward.match.sparseCases false
inductive Vn (F:FZ) (o:Obj) H cl ps body:Prop
 |mk fd sl c oc vs t (h1:o=⟨.type "function",none,.func fd,sl⟩) (h2:fd.body= .expr body) (h3:fd.scope=H) (h4:fd.globals=bN) (h5:fd.closure=cl) (h6:fd.builtins=cx) (h7:fd.params=ps) (h8:fd.defaults= .none)
  (g1:fd.code= .ref c) (g2:F.f c=some oc) (g3:oc.data= .fields vs) (g4:vs[1]?=some (.str fd.qualname t))
def acU (F:FZ) (O:List bz) (b:List (bD×bz)) (x:bD) (c:CV):Prop:=∃a o v,b.lookup x=some a/\F.f a=some o/\o.data= .cell (some v)/\Rep F O c v
noncomputable def LI (H:jH) (a:List bD):Bool:=H.kind== .function&&!H.isCoroutine&&!H.isGenerator&&H.names.all (λx=>H.names.lookup x.1==some x.2&&(x.2 != .free||a.contains x.1))&&a.all λx=>H.names.lookup x==some .free&&!(x==("__classdict__" :bD))
section
variable {C:Cfg} {R:Rd} {P:cZ} {ℓ m n:Nat} {F:FZ} {O:List bz} {J:aZ} {s:aN} {A:bU} {Q:EPost}
theorem uz:∀{l} {Z},dV a Z l i=some c->Z i=some c\/∃x,(x,c)∈l/\(a.lookup x).getD 0=i:=by
 intro l
 induction l with
 |nil=>exact .inl
 |cons p l b=>
  intro Z h
  rcases b (Z:=upd Z ((a.lookup p.1).getD 0) p.2) h with h|⟨x,d,f⟩
  ·by_cases e:i=(a.lookup p.1).getD 0
   ·subst e
    rw[lA] at h
    exact eh (ab h) (.inr (aP p.1 az rfl))
   ·exact .inl ((cG _ _ e).symm.trans h)
  ·exact .inr (aP x (aB _ d) f)
theorem aea (t:LI H (S.map (·.1))=true) (T:∀p∈S,((dU H).lookup p.1).isSome=true/\acU F O cl p.1 p.2) (W:∀x a,(x,a)∈cl->H.names.lookup x=some .free) (l:Kh C H cl F O J s G6 d u) (X:Fz F s.heap):
  bT C (eD H) (gI H) (g_ none H G6 bN d q f cd cx) (dV (dU H) (λ_=>none) S) F O u.heap:=by
 unfold LI at t
 simp only[cW,beq_iff_eq,aV,gT,jv] at t
 obtain⟨⟨⟨⟨hk,z1⟩,z2⟩,b⟩,w⟩:=t
 have r:∀x y i,(dU H).lookup x=some i->(dU H).lookup y=some i->x=y:=λx y i D E=>by
  refine aG (ky D) λk1 e1 d1=>aG (ky E) λk2 e2 d2=>?_
  rw[e1] at e2
  cases e2;rfl
 refine⟨λx=> .inl rfl,⟨hk,rfl,rfl,⟨_,l.ns⟩,l.nF,l.nT,l.cls.cell,l.cls.inj,r,λx i c D E=>?_⟩,λi hi=>?_,λx i h=>(ky h).choose_spec.2,λx G hi=>?_,λx a D E=>?_⟩
 ·rcases uz E with h|⟨y,L,B⟩
  ·exact aW h
  ·refine cps λK_ Y=>?_
   obtain⟨hy,a,o,v,M,c2,c3,c4⟩:=T _ L
   obtain⟨j,Z⟩:=fw.mp hy
   have g:=Z
   rw[g] at B
   subst B
   have:=r x y _ D g
   clear hy;subst this
   have hf:=w x (bO.mpr (aP _ L rfl))
   refine Y (aP v (.aaq hf.1 hf.2 ?_ (aP o (l.go.ext.fz _ _ c2) c3)) c4)
   show d.lookup x=_
   rw[l.same x λN=>?_]
   ·exact M
   ·have h5:=(b _ N).1
    cases hf.1.symm.trans h5
 ·induction e:dV (dU H) (λx=>none) S i using cO with
  |none=>rfl
  |some c=>
   rcases uz e with h|⟨y,L,B⟩
   ·exact aW h
   ·obtain⟨j,Z⟩:=fw.mp (T _ L).1
    have g:=Z
    rw[g] at B
    have B:j=i:=B
    exact absurd (ky g).choose_spec.2 (bL.mpr (B▸hi))
 ·have e0:(eD H).1=H:=rfl
  rw[e0] at G
  refine oE (H.names.lookup x) (λI=>?_) λkd I=>?_
  ·rw[I] at G;cases G
  ·
   rw[I] at G
   have N:=pY I
   clear I;induction kd using e_ with
   |cell=>exact l.has x (.inr N)
   |free=>
    rcases(b _ N).2 with h|h
    ·exact bV h
    ·refine cps λK_ Y=>aG (bO.mp (vV.mp h)) λp hp a0=>?_
     obtain⟨k,a,o,v,M,k2⟩:=T p hp
     rw[a0] at M
     exact Y (l.has x (.inl ⟨a,M⟩))
   |_=>cases G
 ·rcases l.mem x a D with z|z
  ·cases (W x a z).symm.trans E
  ·induction e:F.f a using cO with
   |none=>rfl
   |some o=>exact absurd (aU (X _ _ e)) (bL.mpr z)
structure acT (F:FZ) (H:jH) (cl:List (bD×bz)):Prop where
 cell:∀x a,(x,a)∈cl->∃o v,F.f a=some o/\o.data= .cell v
 inj:∀x y a,cl.lookup x=some a->cl.lookup y=some a->x=y
 free:∀x a,(x,a)∈cl->H.names.lookup x=some .free
theorem acT.ok (h:acT F H d) (b:Nw C F O J s):Ho C d F O s.heap:=⟨λx a e=>by
 refine iQ (h.cell x a e) λo v c f=>(fg (fX v o (b.fz _ _ c) f) (λg=>?_) λi=>?_)
 ·have:=b.top.tabs a g
  exact aW (c.symm.trans this).symm
 ·have:=(b.dj.fr a i).1
  exact aW (c.symm.trans this).symm,h.inj⟩
theorem AU (hE:fO C R ℓ P n) (ho:s.heap.get? D=some o) (hL:Vn F o H cl ps body) (M:LI H (cv.map (·.1))=true) (hv:∀p∈cv,((dU H).lookup p.1).isSome=true/\acU F O cl p.1 p.2) (E:acT F H cl) (a3:rf H (cs.map (·.1))=true)
  (hA:bQ (m+ℓ+1) A) (N:Nw C F O J s) (hb:∀g:lu,g.params=ps->g.defaults= .none->gr g ⟨vs,[]⟩=pure k) (rb:ew F O cs k)
  (h:aw P m (dV (dU H) (dV (dU H) (λ_=>none) cv) cs) J (cE R n (eD H) (gI H) 0 body) Q):ik (aI C.prog C.w) A (.call (.ref D) ⟨vs,[]⟩) (CN C F O s Q) s:=by
 obtain⟨g,sl,c,oc,a4,t,rfl,h2,S,u,h5,h6,h7,h8,g1,g2,g3,g4⟩:=hL
 have l:=M
 unfold LI at l
 simp only[cW,beq_iff_eq,aV,gT,jv] at l
 obtain⟨⟨⟨⟨hk,a5⟩,T⟩,a0⟩,a6⟩:=l
 refine kla_callFunE hA.depth ho rfl (S▸a5) (S▸T) h2 (JE c oc a4 t g1 (N.fz _ _ g2) g3 g4) (af (hb g h7 h8) (au (af S (af u (af h5 (af h6 (pW N (E.ok N) λW cells s2 r=>?_)))))))
 have gp:=N.go r.go
 have B:=aea (q:=g.qualname++".<locals>.") (f:=some D) (cd:=g.code) M hv E.free r N.fz
 have X:∀p∈cs,(((eD H).2.lookup p.1).isSome=true/\((g_ none H W bN cells (g.qualname++".<locals>.") (some D) g.code cx).kindOf p.1=some .local\/((g_ none H W bN cells (g.qualname++".<locals>.") (some D) g.code cx).kindOf p.1=some .cell/\H.names.lookup p.1=some .cell/\∃a,(g_ none H W bN cells (g.qualname++".<locals>.") (some D) g.code cx).cells.lookup p.1=some a/\F.f a=none))):=λp hp=>by
  have:=aV.mp a3 p.1 (nB hp)
  simp only[cW,jv,beq_iff_eq] at this
  refine fK this λh1 h2=>⟨h1,?_⟩
  rcases h2 with h2|h2
  ·exact .inl h2
  ·refine eY (B.iK p.1 (by refine af h2 ?_;rfl) h1) λa G=>?_
   exact .inr ⟨h2,h2,a,G,B.cF p.1 a (mem_of_lookup G) h2⟩
 refine ux k cs _ s2 _ gp B.ok X rb λs3 g3 a7=>?_
 have I:=gp.go g3
 refine⟨I.top.noLimit I.fz,kla_codeExpr ?_⟩
 have Y:bT C (eD H) (gI H) (g_ none H W bN cells (g.qualname++".<locals>.") (some D) g.code cx) (dV (dU H) (dV (dU H) (λa=>none) cv) cs) F O s3.heap:=by
  refine⟨B.kd,a7,λi hi=>?_,B.lt,B.iK,B.cF⟩
  induction e:dV (dU H) (dV (dU H) (λa=>none) cv) cs i using cO with
  |none=>rfl
  |some d=>
   rcases uz e with h|⟨y,S,u⟩
   ·exact aW ((B.top i hi).symm.trans h)
   ·obtain⟨j,hj⟩:=fw.mp (X _ S).1
    have Z:(dU H).lookup y=some j:=hj
    rw[Z] at u
    have u:j=i:=u
    exact absurd (ky Z).choose_spec.2 (bL.mpr (u▸hi))
 have L:∀a∈(iF (eD H).1 (g_ none H W bN cells (g.qualname++".<locals>.") (some D) g.code cx)).a,a∈Wr.no.a\/s.heap.objs.size<=a:=λa G=>by
  rw[iF,aE,bO] at G
  refine .inr ?_
  rcases G with h|⟨⟨x,b⟩,hx,h⟩
  ·exact af h r.lo
  ·subst h
   obtain⟨a8,a9⟩:=nZ.mp hx
   rcases r.mem x b a8 with z|z
   ·have h5:(H.names.lookup x==some .cell)=true:=a9
    rw[E.free x b z] at h5
    exact bV h5
   ·exact z
 have b0:=(r.go.pure.trans g3).drop (λa G=>by
  rcases L a G with z|z
  ·exact .inl z
  ·exact .inr z) λa=>bw
 exact ao (hE m _ _ 0 body _ _ F O J s3 _ Q Y I hA.deeper h) (λv s4 u=>u.trans b0) λa a=>ar
end
section
open Builtin Builtin.ObjectAttr
theorem SA:gN (.type "function") "__getattribute__" =pure (some (.builtin "object.__getattribute__")):=by kernel_rfl
theorem ahw:gN (.type "function") "__getattr__" =pure none:=by rw[nX,jm];kernel_rfl
theorem Sx:gN (.type "function") "read" =pure none:=by rw[nX,jm];kernel_rfl
theorem ahv:gN (.type "function") "__setattr__" =pure (some (.builtin "object.__setattr__")):=by rw[nX,jm];kernel_rfl
theorem Pj:Slot "function" "__getattribute__" "object.__getattribute__" :=
 .of (owner:="object") (n:="__getattribute__") SA (by decide+kernel) (by decide+kernel) (by decide+kernel) (by exact .inl (by decide+kernel)) (by kernel_rfl)
theorem Ph:Slot "function" "__setattr__" "object.__setattr__" :=
 .of (owner:="object") (n:="__setattr__") ahv (by decide+kernel) (by decide+kernel) (by decide+kernel) (by exact .inl (by decide+kernel)) (by kernel_rfl)
theorem Li:uk table "object.__getattribute__" =some ic.«object.__getattribute__»:=m_ (by kernel_rfl)
theorem Lh:uk table "object.__setattr__" =some ic.«object.__setattr__»:=m_ (by kernel_rfl)
theorem Oi a b:argsOk "object.__getattribute__" ⟨[a,b],[]⟩:=by
 kernel_rfl
theorem Oh a b c:argsOk "object.__setattr__" ⟨[a,b,c],[]⟩:=by
 kernel_rfl
section
variable {prog:jT} {w:oK} {A:bU} {E:bq->aN->Prop} {h:kT} {g:Array Qt} {d:Drawn} {t:Nat} {os:Vu}
theorem abz (b:h.get? a=some ⟨.type "function",some c,.func k,l⟩) (e:h.Ns c m) (f:m "read" =some (.ref i)) (j:Q (.done (.ret (.ref i))) ⟨h,g,d,t,os⟩):
  aD (aI prog w) A (ic.«object.__getattribute__» ⟨[.ref a,.str "read" n],[]⟩) Q E ⟨h,g,d,t,os⟩:=by
 have o:(⟨h,g,d,t,os⟩:aN).TypeIs (.ref a) "function" :=⟨_,b,rfl⟩
 have f1:=Sx
 repeat (first|with_reducible refine fY b ?_|(with_reducible refine wpAny_nsGet e ?_;rw[f])|wp_step)
 exact j
theorem Sz (f:h.get? a=some ⟨.type "function",some i,.func q,r⟩) (j:h.Ns i m) (k:m "read" =some (.ref c)) (l:Q (.ref c,[]) ⟨h,g,d,t+1,os⟩):
  aD (aI prog w) A (getMethod (.ref a) "read" x) Q E ⟨h,g,d,t,os⟩:=by
 have b:∀t,(⟨h,g,d,t,os⟩:aN).TypeIs (.ref a) "function" :=λt=>⟨_,f,rfl⟩
 refine ae (lj (b t) SA ?_)
 show aD _ _ (if (Manifest.canonical "object.__getattribute__" !="object.__getattribute__")=true then _ else _) _ _ _
 rw[F.canon_object_ga]
 exact ae (lj (b t) ahw (ae (lj (b t) Sx (ae (ao (Q:=λv u=>v= .ref c/\u=⟨h,g,d,t+1,os⟩) (ae (Bo (bf (ae (Bl (b _) (ae (jD SA (ae (au (ae (p_ (bf (ae (jD (Pj.bind (.ref a)) (vj Pj (b _) Li (Oi _ _) (S:=λA R s=>s=⟨h,g,d,t+1,os⟩/\R (.ok (.ret (.ref c))) s) (.of_wp λA R s n=>by
  obtain⟨rfl,o⟩:=n
  exact abz f j k ⟨_,rfl,o⟩) ⟨rfl,au ⟨rfl,rfl⟩⟩))))))))))))))) (λv u e=>by obtain⟨rfl,rfl⟩:=e;exact au l) λa a e=>e)))))
theorem aeI:mroOf (.type "function")=pure [.type "function",.type "object"]:=by rw[mroOf_type];kernel_rfl
theorem Sy a:refuseLoop a "__setattr__" [.type "function",.type "object"]=pure ():=by kernel_rfl
theorem Ym {a:bz} {m:lu} {n:Array (Option bq)} {v:bq} {F:Tok} {Q:Fin->aN->Prop} (l:h.get? a=some ⟨.type "function",none,.func m,n⟩)
  (G:∀c i,t<=i->c.get? a=some ⟨.type "function",some h.objs.size,.func m,n⟩->c.Ns1 h.objs.size (λy=>if y="read" then some v else none)->(∀b o,b≠a->h.get? b=some o->c.get? b=some o)->c.objs.size=h.objs.size+1->Q (.done (.ret .none)) ⟨c,g,d,i,os⟩):
  aD (aI prog w) A (ic.«object.__setattr__» ⟨[.ref a,.str "read" F,v],[]⟩) Q E ⟨h,g,d,t,os⟩:=by
 have O:(⟨h,g,d,t,os⟩:aN).TypeIs (.ref a) "function" :=⟨_,l,rfl⟩
 have f1:=Sx
 have f2:=aeI
 have j:a≠h.objs.size:=bj (aU l)
 have f:(h.push {cls:= .type "dict",data:= .dict #[]}).get? a=some ⟨.type "function",none,.func m,n⟩:=bu _ l
 have r:((h.push {cls:= .type "dict",data:= .dict #[]}).update a λo=>{cls:=o.cls,dict:=some h.objs.size,data:=o.data,slots:=o.slots}).get? h.objs.size=some {cls:= .type "dict",data:= .dict #[]}:=
  (yd _ _ _ _ j.symm).trans (Heap.get?_push_at rfl rfl)
 have s:((h.push {cls:= .type "dict",data:= .dict #[]}).update a λo=>{cls:=o.cls,dict:=some h.objs.size,data:=o.data,slots:=o.slots}).Ns h.objs.size λa=>none:=
  ⟨_,#[],_,r,rfl,λe H=>absurd H (by simp),λa=>rfl⟩
 have u:∀(x:Unit->aN->Prop),(∀c,c.Ns1 h.objs.size (λy=>if y="read" then some v else none)->jI h.objs.size ((h.push {cls:= .type "dict",data:= .dict #[]}).update a λo=>{cls:=o.cls,dict:=some h.objs.size,data:=o.data,slots:=o.slots}) c->x () ⟨c,g,d,t+1,os⟩)->
   aD (aI prog w) A (wX h.objs.size "read" v) x E ⟨(h.push {cls:= .type "dict",data:= .dict #[]}).update a λo=>{cls:=o.cls,dict:=some h.objs.size,data:=o.data,slots:=o.slots},g,d,t,os⟩:=λx q=>wpAny_nsSet1 (Bw s) λc I=>q c I
 repeat (first|rw[refuse_eq]|rw[(Sy (.ref a))]|with_reducible refine fY l ?_|with_reducible refine u _ λc k z=>?_|wp_step)
 obtain⟨J,L,M,B,C,D⟩:=k.count (Within.cons "read" v Within.nil)
 refine Hu B ?_
 rw[show J.data.pastItsLine=none by exact C▸pastItsLine_dict (ag D (by decide))]
 refine au (au (G c _ (aQ t) ((z.2 a j).trans (lQ _ f rfl)) k (λb o N e=>?_) (by rw[z.1,CU,dv])))
 ·exact(z.2 b (bj (aU e))).trans ((yd _ _ _ _ N).trans (bu _ e))
end
end
noncomputable def aid:Arguments:={posonlyargs:=[],args:=[{arg:="count",annotation:=none,pos:=⟨295,25,295,30⟩:Kn}],vararg:=none,kwonlyargs:=[],kw_defaults:=[],kwarg:=none,defaults:=[]}
noncomputable def agQ:PySem.Expr:= .IfExp (.Compare (.Name "signs" ⟨295,48,295,53⟩) [.NotEq] [.List [] ⟨295,57,295,59⟩] ⟨295,48,295,59⟩) (.Call (.Attribute (.Name "signs" ⟨295,32,295,37⟩) "pop" ⟨295,32,295,41⟩) [.Constant (.int 0) 0 ⟨295,42,295,43⟩] [] ⟨295,32,295,44⟩) (.Constant (.str "") 0 ⟨295,65,295,67⟩) ⟨295,32,295,67⟩
noncomputable def K':Scope:={kind:= .function,names:=[(aa "count",.local),(aa "signs",.free)],isGenerator:=false,isCoroutine:=false,more:=[]}
inductive tC F (o:Obj) b:Prop
 |mk dx fl a fd sl od oc lo m (h1:o=⟨.type "function",some dx,.func fd,sl⟩) (h2:F.f dx=some od) (h3:Io od m) (h4:m "read" =some (.ref fl)) (h5:F.f fl=some lo) (h8:Vn F lo K' [("signs",a)] aid agQ) (h6:F.f a=some oc) (h7:oc.data= .cell (some (.ref b)))
def ai7 (J:aZ) (k:Nat) (l:List Nat) (Q:EPost):Prop:=match l with
 |[]=>Q (.str "") J
 |c::l=>Q (.str (cA c)) (J.set k (.list (jQ l)))
abbrev acH (P:cZ):Prop:=∀t d pb st k ln l J Q,Lx J t d pb ln st->J[st]?=some (.ei tC k)->J[k]?=some (.list (jQ l))->l.length<=900->ai7 J k l Q->P.ext e1 [.own t] J Q
section
variable {C:Cfg} {P:cZ} {ℓ n m:Nat} {F:FZ} {O:List bz} {J:aZ} {s:aN} {A:bU} {Q:EPost}
noncomputable def Lz:ME:= .iD (.cmp (.var 1) [.NotEq] [.lst []]) (.Jo (.var 1)) (.cst (.str ""))
theorem ahg:cE R2 60 (eD K') (gI K') 0 agQ=Lz:=by kernel_rfl
theorem agP (b:Z 1=some (.own k)) (d:J[k]?=some (.list (jQ l))) (e:l.length<=900) (q:ai7 J k l Q):aw P 4 Z J Lz Q:=by
 have a:∀K:Bool->Prop,K (l !=[])->wL .NotEq (eC J (.own k)) (.lst []) K:=λK q=>by
  refine af (oI d) ?_
  induction l using cL with
  |nil=>exact⟨rfl,q⟩
  |cons c l=>exact⟨rfl,q⟩
 refine jS (dp (aA b ⟨by decide,a _ ?_⟩))
 clear a;induction l using cL with
 |nil=>exact Br.f (bx q)
 |cons c l=>exact Br.t (Ow (aA b (ml d ⟨dK (by rw[bS,aC];exact ag e (by decide)),q⟩)))
theorem TZ (W:ef C R2) (E:5<=ℓ):acH (PM C R2 ℓ):=by
 intro t d pb st k ln l J Q X G hk hl q xs H f I L U Z F O s A m he Y hA h
 have f:=ab f;subst f
 have hs:=I
 refine letQ ?_;intro M;refine DO (by kernel_rfl) (by rfl) (by rfl) (letQ ?_);intro M;refine ae (hY he (by kernel_rfl) ((aq.mp hs).1) (vals1 h) λr hr=>letQ ?_);intro M;refine ae (cD (ae (bf (ao (wx (rK W (o:= .Name (aa "self") ⟨150,13,150,17⟩) (by kernel_rfl)) Y hr (hJ X.hi X.hd ⟨rfl,rfl⟩)) (λv j N=>ae (qr (au (cps λK_ k_=>?_)))) λa a e=>e))))
 obtain⟨B,u,w,c1,g1,r1,rfl,rfl⟩:=N
 have c:=Y.go g1
 refine aG (io.mp r1) λa ha R=>?_;subst R
 refine cz (c.dj.at_ st a _ ha G) λo b e1 e2 e3=>?_
 obtain⟨dx,S,ac,fd,sl,od,oc,lo,mm,rfl,N,⟨es,ep,d1,d2,d3⟩,i,h5,h8,h6,h7⟩:=e3 B (.refl _)
 refine k_ (ww (.ref S) [] {j with toks:=j.toks+1} (λpl Q' hq=>?_) ?_)
 ·obtain⟨D,g,dr,tk,os⟩:=j
  exact Sz e1 (jq od es ep (c.fz _ _ N) d1 d2 d3) i hq
 refine letQ ?_;intro M;refine nt ?_;intro s_;refine dQ (wpAny_Constant_int ?_) (by rfl)
 have g2:Go C .no B u j B u w {j with toks:=j.toks+1+1}:=Go.toks c (ba _ 2)
 have gp:=c.go g2
 obtain⟨a0,a3,c2,a4,a5,t2,k1,k2⟩:=id h8
 refine eP (au (y' (gp.fz _ _ h5) (af k1 rfl) ?_))
 have D:aw (PM C R2 0) 4 (dV (dU K') (dV (dU K') (λa=>none) [(aa "signs",.own k)]) [(aa "count",.int 1)]) w Lz Q:=agP rfl hk hl q
 have z:acT B K' [(aa "signs",ac)]:=by
  refine⟨λx a T=>?_,λx y a e1 e2=>((congrArg QA (bl.mp (mem_of_lookup e1))).trans (congrArg QA (bl.mp (mem_of_lookup e2))).symm),λx a T=>?_⟩
  ·cases bl.mp T
   exact fX oc _ h6 h7
  ·cases bl.mp T
   kernel_rfl
 refine nt ?_;intro s9;refine ol (ij (AU (cs:=[(aa "count",.int 1)]) (qq W mz 60) (gp.fz _ _ h5) h8 (by kernel_rfl) (λp D=>(af (bl.mp D) (⟨by kernel_rfl,(jq ac oc _ rfl h6 h7 (io.mpr (aP b e2 rfl)))⟩))) z (by kernel_rfl) (hA.le (ag E (cR ..))) gp (λfd e1 e2=>(GX (x:=pure [(aa "count",.int 1 s_.toks)]) e1 e2 λfd=>by kernel_rfl)) (eA _ _ rfl ⟨_,rfl⟩ rfl) (ahg▸D)) λr s4 i=>?_)
 ·induction r using pq with
  |error e=>exact i
  |ok S=>induction S using gj with
   |ret v=>exact i.trans (g1.trans g2)
   |next=>exact i
   |brk=>exact i
   |cont=>exact i
end
noncomputable def cp (J:aZ) (d k pb st:Nat) (ln:Int) (l:List Nat):aZ:=(J.set d (.ns (qF ln st pb))).set k (.list (jQ l))
structure gM (J:aZ) (t d k pb st:Nat):Prop where
 hi:J[t]?=some (.inst 139 (some d))
 hd:d<J.length
 hk:k<J.length
 hs:J[st]?=some (.ei tC k)
 nk:d≠k
 t1:t≠d
 t2:t≠k
 s1:st≠d
 s2:st≠k
 n1:pb≠t
 n2:pb≠d
 n3:pb≠k
noncomputable def gB (ln:Int) (c:Nat):Int:=cond (c==10) (ln+1) ln
def ahU (J:aZ) (d k pb st:Nat) (ln:Int) (l:List Nat) (Q:EPost):Prop:=match l with
 |[]=>Q (.str "") (cp J d k pb st ln [])
 |c::l=>Q (.str (cA c)) (cp J d k pb st (gB ln c) l)
abbrev Ms (P:cZ):Prop:=∀t d k pb st ln l J Q,gM J t d k pb st->l.length<=900->ahU J d k pb st ln l Q->P.eK 122 [.own t] [] (cp J d k pb st ln l) Q
section
variable {P:cZ} {PS:dZ} {Q:EPost} {n t d k pb st:Nat} {Z:bk} {J:aZ} {ln:Int} {l:List Nat}
theorem adm (h:gM J t d k pb st):(cp J d k pb st ln l)[k]?=some (.list (jQ l)):=bI (af bH h.hk)
theorem Uc (h:gM J t d k pb st):(cp J d k pb st ln l)[d]?=some (.ns (qF ln st pb)):=(aS h.nk.symm).trans (bI h.hd)
theorem sI (a:i≠d) (b:i≠k):(cp J d k pb st ln l)[i]?=J[i]?:=(aS b.symm).trans (aS a.symm)
theorem jf (h:gM J t d k pb st):Lx (cp J d k pb st ln l) t d pb ln st:=⟨(sI h.t1 h.t2).trans h.hi,Uc h,h.n1,h.n2⟩
theorem ZI (h:gM J t d k pb st):(cp J d k pb st ln l)[st]?=some (.ei tC k):=(sI h.s1 h.s2).trans h.hs
theorem pG:(cp J d k pb st ln l).length=J.length:=by unfold cp;rw[bH,bH]
theorem E':(cp J d k pb st ln l).set k (.list (jQ a))=cp J d k pb st ln a:=eu ..
theorem Fb (h:gM J t d k pb st) {a}:(cp J d k pb st ln l).set d (.ns (qF a st pb))=cp J d k pb st a l:=by
 unfold cp
 rw[tL _ _ h.nk.symm,eu]
theorem Qk (a:J.all (hM m)=true) (b:hM m x=true):(J.set i x).all (hM m)=true:=aV.mpr λy c=>by
 rcases js c with h|rfl
 ·exact aV.mp a y h
 ·exact b
theorem ad0:∀l:List Nat,pz m (jQ l)=true:=by
 intro l
 induction l with
 |nil=>
  exact rfl
 |cons a l b=>
  exact b
theorem I_ (h:gM J t d k pb st) {m} (b:(cp J d k pb st ln l).all (hM m)=true) {a} {c}:(cp J d k pb st a c).all (hM m)=true:=by
 rw[<-E',<-Fb h]
 exact Qk (Qk b ((aV.mp b _ (bh (Uc h)):hM m (.ns (qF ln st pb))=true))) (ad0 c)
theorem Cw (h:gM J t d k pb st) {c} {a} {b} (f:(cp J d k pb st ln l).all (hM (cp J d k pb st ln l).length)=true) (g:∀aO,pL 8 (cp J d k pb st ln l).length aO c=some c) (q:Q c (cp J d k pb st a b)):fG (cp J d k pb st ln l) Q (.ret c) (λ_=>none) (cp J d k pb st a b):=by
 have e:(cp J d k pb st a b).take (cp J d k pb st ln l).length=cp J d k pb st a b:=gQ (af pG (af pG (ai _)))
 exact(oW c c rfl (g _) (.inr (af e (I_ h f))) (af e q))
theorem aaE {K} (h:aw P n Z J o (λf J=>JH g J f x (λa=>aw P n Z J e (λb J=>wU op (eC J a) (eC J b) (λc=>Hf g J f x c (λJ=>K .next Z J)))))):wpS P PS (n+1) (.Vc g o x op e) Z J K:=h
theorem SS c a:(cA c==cA a)=(c==a):=by
 induction h:c==a using cB with
 |true=>exact af (beq_iff_eq.mp h) (beq_self_eq_true _)
 |false=>
  refine beq_eq_false_iff_ne.mpr λe=>?_
  cases e
  exact absurd rfl (beq_eq_false_iff_ne.mp h)
theorem Fq (i:acH P) (h:gM J t d k pb st) (g:l.length<=900) (b:(cp J d k pb st ln l).all (hM (cp J d k pb st ln l).length)=true) (q:ahU J d k pb st ln l Q):bX (wpS P PS 10) Ci (U [some (.own t)]) (cp J d k pb st ln l) (fG (cp J d k pb st ln l) Q):=by
 refine aK (gK (AA rfl (i t d pb st k ln l _ _ (jf h) (ZI h) (adm h) g ?_)))
 clear g;induction l using cL with
 |nil=>exact aK (fM (dp (aA rfl (bx (Br.f (bY (mK (aK (jA (aA rfl (Cw h b (λa=>rfl) q)))))))))))
 |cons c l=>
  refine aK (fM (dp (aA rfl (bx (af E' ?_)))))
  have e:∀K:Bool->Prop,K (c==10)->wL .Eq (.str (cA c)) (.str "\n") K:=λK q=>show K (cA c==cA 10) from(SS c 10).symm▸q
  refine e _ (Br.of (f:=λz=>Q (.str (cA c)) (cp J d k pb st z l)) q (λq=>?_) (λq=>(bY (mK (aK (jA (aA rfl (Cw h b (λa=>rfl) q))))))))
  ·refine aK (aaE (aA rfl (hJ (jf h).hi (jf h).hd ⟨rfl,bx ?_⟩)))
   show Hf 139 (cp J d k pb st ln l) (.own t) (aa "lineno") (.int (ln+1)) _
   exact hJ (jf h).hi (jf h).hd ⟨show 4<=1000 by decide,((show(cp J d k pb st ln l).set d (.ns (nsSet (qF ln st pb) (aa "lineno") (.int (ln+1))))=_ from Fb h)▸mK (bY (mK (aK (jA (aA rfl (Cw h b (λa=>rfl) q)))))))⟩
end
inductive uZ (F:FZ) o x:Prop
 |mk b tk (h1:o=tO b (.str "" tk)) (h2:F.f b=some (hZ 122 x))
def pQ (a:FZ) (o:Obj) (b:bz):Prop:=o=wh
inductive acJ C F O s (K:Option CV->aZ->Prop) r u:Prop
 |none F' aH aO (g:Go C .no F O s F' aH aO u) (e:r=QB) (q:K QB aO)
 |some F' aH aO v c (g:Go C .no F O s F' aH aO u) (e:r=DU v) (rv:Rep F' aH c v) (q:K (DU c) aO)
def ai8 (J:aZ) (t d k pb st f:Nat) (ln:Int) (l:List Nat) (K:Option CV->aZ->Prop):Prop:=match l with
 |[]=>K none (cp (J.set f (.ei pQ t)) d k pb st ln [])
 |c::l=>K (some (.str (cA c))) (cp J d k pb st (gB ln c) l)
section
variable {C:Cfg} {R:Rd} {ℓ oy m:Nat}
theorem ab4 (l:ef C R) (n:∀s e k,R.xE s e=some k->kJ e=false) {f} {d} {g} {o} {lit} {xs} {args} {J} {Q} (t:Bh C f d g) (c:wc d.scope=true) (u:rf d.scope xs=true)
  (i:args.length=xs.length) (v:∀vs:List bq,vs.length=xs.length->gr g ⟨vs,[]⟩=pure (xs.zip vs)) (b:jC R o d=lit)
  (h:J.all (hM J.length)=true->bX (wpS (PM C R ℓ) (qK C ℓ d) m) lit (dV (dU d.scope) (λ_=>none) (xs.zip args)) J (fG J Q)) A F O s vs (x:bQ (m+ℓ+1) A) (j:Nw C F O J s) (r:bM F O args vs):
  ik (aI C.prog C.w) A (.call (.ref f) ⟨vs,[]⟩) (CN C F O s Q) s:=by
 refine codeAny_func (nK l mz (λa a U a F O a s A m a y z B h=>h U F O s A m y z B) n) t c ?_ x j (λQ q=>(af (v vs (r.length.trans i)) (au (q F s _ j.refl (rz r))))) (b▸h)
 ·rwa [ni (i▸ai _)]
theorem PP (n:ef C R2) {f} {d} {o} {lit} {xs} (a:gw d o lit xs) (q:pw C f d) {args} {J} {Q} (j:args.length=xs.length)
  (h:J.all (hM J.length)=true->bX (wpS (PM C R2 ℓ) (qK C ℓ d) m) lit (U (args.map some)) J (fG J Q)) A F O s vs (t:bQ (m+ℓ+1) A) (u:Nw C F O J s) (r:bM F O args vs):
  ik (aI C.prog C.w) A (.call (.ref f) ⟨vs,[]⟩) (CN C F O s Q) s:=by
 refine aG q λb l c=>ab4 n (λs e k=>lz) l a.sc a.bo j (λvs v=>?_) a.lit (λg=>?_) A F O s vs t u r
 ·have e:b={b with params:=d.args,defaults:= .none}:=by rw[<-l.params,<-c]
  have:=a.bind b λi=>vs.getD i oo
  rw[<-e,<-v,list_range] at this
  exact this
 have:=qf xs args [] j a.vs
 exact af this (h g)
theorem afZ:gw (mf "_netrclex" "_read_char") [] Ci ["self"]:=⟨by kernel_rfl,by kernel_rfl,λa v=>by kernel_rfl,aa7,by kernel_rfl⟩
abbrev Mt (C:Cfg):Prop:=pw C 122 (mf "_netrclex" "_read_char")
theorem Zt (c:ef C R2) (d:Mt C) (e:16<=ℓ):Ms (PM C R2 ℓ):=λa a a a a a a a a h f q=>jk c afZ d 5 (av (by decide) e) rfl λb=>Fq (TZ c (ai _)) h f b q
section
variable {F:FZ} {O:List bz} {J:aZ} {s:aN} {A:bU} {t d k pb st f:Nat} {ln:Int} {l:List Nat} {K:Option CV->aZ->Prop}
theorem gM.set (h:gM J t d k pb st) {m} (a:f≠t) (b:f≠st):gM (J.set f m) t d k pb st:=
 ⟨(aS a).trans h.hi,af bH h.hd,af bH h.hk,(aS b).trans h.hs,h.nk,h.t1,h.t2,h.s1,h.s2,h.n1,h.n2,h.n3⟩
theorem VX {m} (a:f≠d) (b:f≠k):(cp J d k pb st ln l).set f m=cp (J.set f m) d k pb st ln l:=by
 unfold cp
 rw[tL _ _ (qa b),tL _ _ (qa a)]
structure vF (J:aZ) (t d k st f:Nat) (l:List Nat):Prop where
 fd:f≠d
 fk:f≠k
 ft:f≠t
 fs:f≠st
 hi:J[f]?=some (.ei uZ t)\/(l=[]/\J[f]?=some (.ei pQ t))
theorem Rb (Y:ef C R2) (Z:Mt C) (h:gM J t d k pb st) (hi:vF J t d k st f l) (hl:l.length<=900) {it} (S:O[f]?=some it) (n:Nw C F O (cp J d k pb st ln l) s) (T:bQ 17 A) (q:ai8 J t d k pb st f ln l K):
  aD (aI C.prog C.w) A (pyNext (.ref it)) (acJ C F O s K) a_ s:=by
 have y:(cp J d k pb st ln l)[f]?=J[f]?:=sI hi.fd hi.fk
 rcases hi.hi with i|⟨rfl,i⟩
 ·refine letQ ?_;intro Q_;refine cps λK_ L=>cz (n.dj.at_ f it _ S (y.trans i)) λo x e1 e2 e3=>?_
  obtain⟨b,tk,rfl,hb⟩:=e3 F (.refl _)
  refine aG (id Z) λfd hK a0=>aG hK.obj λof M z=>L (ab8 e1 (n.fz _ _ hb) (n.fz _ _ (n.top.k _ _ M)) z ?_ T.handled)
  have hq:ahU J d k pb st ln l (λc aO=>match l with|[]=>c= .str "" /\aO=cp J d k pb st ln []|a::l=>c= .str (cA a)/\aO=cp J d k pb st (gB ln a) l):=by
   induction l using cL with
   |nil=>exact⟨rfl,rfl⟩
   |cons a l=>exact⟨rfl,rfl⟩
  refine ij (PP Y afZ Z (args:=[.own t]) rfl (λN=>Fq (TZ Y (ai _)) h hl N hq) A.in1 F O s _ T.in1 n (eA _ _ rfl (aP x e2 rfl) rfl)) λr s1 B=>?_
  induction r using pq with
  |error e=>exact B
  |ok fl=>
   induction fl using gj with
   |next=>exact B
   |brk=>exact B
   |cont=>exact B
   |ret v=>
    obtain⟨I,j,a3,c1,g1,r1,q1⟩:=B
    have g:=n.go g1
    have D:=g1.jo f it S
    have u:=g.fz _ _ (g.top.k _ _ M)
    clear hq;induction l using cL with
    |nil=>
     refine cps λK_ L=>?_
     obtain⟨rfl,rfl⟩:=q1
     obtain⟨t1,rfl⟩:=ez.mp r1
     refine cz (g.dj.at_ f it _ D (y.trans i)) λo' Q E P G=>?_
     obtain⟨W,X,rfl,H⟩:=G I (.refl _)
     refine L (aP _ ⟨W,122,Q,of,fd,E,g.fz _ _ H,u,z⟩ (CR (fg rfl (λe=>(bV ((decide_eq_true rfl).symm.trans e).symm)) λa h' i1 i2 i3=>?_)))
     ·have g2:Go C .no I j s1 I j ((cp J d k pb st ln []).set f (.ei pQ t)) {s1 with heap:=h'}:=Go.oP g D i2 i3 (eA wh Q i1 P λa a=>rfl) (ai _)
      exact .none I j _ (g1.trans (VX hi.fd hi.fk▸g2)) rfl q
    |cons a l=>
     obtain⟨rfl,rfl⟩:=q1
     refine bA (ez.mp r1) λt1=>cps λK_ L=>cz (g.dj.at_ f it _ D ((sI hi.fd hi.fk).trans i)) λo' Q E P G=>?_
     obtain⟨W,X,rfl,H⟩:=G I (.refl _)
     refine L (aP _ ⟨W,122,Q,of,fd,E,g.fz _ _ H,u,z⟩ (CR (fg rfl (λb=>(.some I j _ _ (.str (cA a)) g1 rfl ⟨t1,rfl⟩ q)) λe=>?_)))
     ·exact absurd (show 0=1 from congrArg (λx:bD=>x.cps.size) (of_decide_eq_true e)) (by decide)
 ·refine cz (n.dj.at_ f it _ S (y.trans i)) λo x e1 e2 e3=>?_
  obtain rfl:=e3 F (.refl _)
  refine ab7 e1 T.handled λh' B h2=> .none F O (cp J d k pb st ln []) (Go.lC n B h2) rfl ?_
  have q:K none (cp (J.set f (.ei pQ t)) d k pb st ln []):=q
  rwa [set_same i] at q
end
end
noncomputable abbrev akb:=aZ->(Option CV->aZ->Prop)->Prop
def yj (X:akb) (B:CV->bk->aZ->fA->Prop):Nat->bk->aZ->fA->Prop
 |0,_,_,_=>False
 |n+1,Z,J,Q=>X J (λr J=>match r with
  |none=>Q .next Z J
  |some c=>B c Z J (yx (λZ J=>yj X B n Z J Q) Q))
section
variable {C:Cfg} {R:Rd} {P:cZ} {PS:dZ} {ℓ n:Nat} {o:List (bD×Nat)} {H:gq} {L:Nat} {U:pB} {A:bU} {m:Nat} {F:FZ} {O:List bz} {s:aN} {Q:fA}
noncomputable abbrev GW (P:cZ) (PS:dZ) (R:Rd) (m n:Nat) (o:List (bD×Nat)) (H:gq) (L:Nat) (t:ay) (body:List oq):CV->bk->aZ->fA->Prop:=λc Z J Q=>du (aw P m) (cT R n H L t) c Z J (λZ J=>bX (wpS P PS m) (body.map (cS R o n H L)) Z J Q)
inductive afp C X B H L U (f:Nat) it F O s Q num u:Prop
 |mk F' aH aO xV (g:Go C (iF H.1 U) F O s F' aH aO u) (he:bT C H L U xV F' aH u.heap) (nw:Nw C F' aH aO u) (hi:aH[f]?=some it) (q:yj X B num xV aO Q):afp C X B H L U f it F O s Q num u
theorem RT {f num:Nat} (g:Go C (iF H.1 U) F O s F' aH aO u) (c:bT C H L U a F' aH u.heap) (e:Nw C F' aH aO u) (h:aH[f]?=some it)
  (q:yx (λZ J=>yj X B num Z J Q) Q i a aO):Hn F' aH i j->match j with
  | .next=>∃b,b<num+1/\afp C X B H L U f it F O s Q b u
  | .cont=>∃b,b<num+1/\afp C X B H L U f it F O s Q b u
  | .brk=>gz C H L U F O s Q .next u
  | .ret v=>gz C H L U F O s Q (.ret v) u:=by
 intro d
 induction i using Qn.casesOn with
 |next=>subst d;exact⟨num,cH _,F',aH,aO,a,g,c,e,h,q⟩
 |cont=>subst d;exact⟨num,cH _,F',aH,aO,a,g,c,e,h,q⟩
 |brk=>exact af d ⟨F',aH,aO,a,.next,g,c,rfl,q⟩
 |ret k=>
  exact Er d λl r=>⟨F',aH,aO,a,.ret k,g,c,aP l rfl r,q⟩
theorem RS {f num:Nat} (l:DP C R ℓ P n) (hS:wV C R ℓ P PS o H L n) (W:bQ (m+ℓ) A) (ht:∀it v,dS t it v=pure ())
  (hX:∀F O J s K,Nw C F O J s->O[f]?=some it->X J K->aD (aI C.prog C.w) A (pyNext (.ref it)) (acJ C F O s K) a_ s)
  (he:bT C H L U Z F O s.heap) (Y:Nw C F O J s) (hi:O[f]?=some it) (h:yj X (GW P PS R m n o H L t body) num Z J Q):
  ik (aI C.prog C.w) A (.forLoop t (.ref it) body [] U) (λr u=>∃f,r= .ok f/\gz C H L U F O s Q f u) s:=by
 refine AL (afp C X (GW P PS R m n o H L t body) H L U f it F O s Q) ?_ num ⟨F,O,J,Z,Y.refl,he,Y,hi,h⟩
 intro num s1 hI
 obtain⟨F1,q,x,d,g1,g,i,j,q1⟩:=hI
 induction num using cN with
 |zero=>exact ar q1
 |succ num=>
  refine letQ ?_;intro Q_;refine ao (hX F1 q x s1 _ i j q1) (λr s2 h2=>?_) λa a e=>e
  induction h2 with
  |none y jy b g2 e z=>
   subst e
   exact⟨y,jy,b,d,.next,g1.trans g2.pure,g.gb g2,rfl,z⟩
  |some y jy b v c g2 e rv z=>
   subst e
   have gp:=i.go g2
   refine jD (ht _ _) (ao (l m H L t U d y jy b s2 A _ c v (g.gb g2) gp W (.inl rv) z) (λa s4 h4=>?_) λa a e=>e)
   obtain⟨F4,B,D,E,G,I,M⟩:=h4
   have k:=gp.go G
   refine oV ?_;intro Q_ s_;refine ao (kI hS W body E F4 B D s4 _ I k M) (λfl s5 h5=>?_) λa a e=>e
   obtain⟨F5,a0,a3,a4,fc,N,S,hr,T⟩:=h5
   exact RT (((g1.trans g2.pure).trans G).trans N) S (k.go N) (N.jo _ _ (G.jo _ _ (g2.jo _ _ j))) T hr
end
inductive CJ t d k pb st f J K:Prop
 |mk ac0 ln l (e:J=cp ac0 d k pb st ln l) (h:gM ac0 t d k pb st) (hi:vF ac0 t d k st f l) (hl:l.length<=900) (q:ai8 ac0 t d k pb st f ln l K)
section
variable {C:Cfg} {ℓ rE m0 t d k pb st f i num:Nat} {J:aZ} {Z:bk} {Q:fA}
theorem VU (w:ef C R2) (M:Mt C) {g} {o} {x} {y} {q p} {body} (N:m0+rE<=ℓ) (z:17<=m0+rE) (P:(x==("__debug__" :bD))=false) (I:(dU g.scope).lookup x=some i) (R:∀it v,dS y it v=pure ())
  (B:Z i=some (.own f)) (D:J[f]?=some (.ei uZ t)\/J[f]?=some (.ei pQ t)) (h:yj (CJ t d k pb st f) (GW (PM C R2 rE) (qK C rE g) R2 m0 60 o (eD g.scope) (gI g.scope) y body) num Z J Q):qK C ℓ g (.For y (.Name x q) body [] p) Z J Q:=by
 intro U F O s A m L j S
 have n:bQ (m0+rE) A:=S.le (ag N (cR ..))
 refine wpAny_For (hY L P (by refine af I ?_;rfl) (af I B) λr T=>?_) λx=>nG rfl
 refine aG (io.mp T) λit u E=>af E ?_
 have W:s.TypeIs (.ref it) "callable_iterator" :=by
  rcases D with e|e
  ·refine cz (j.dj.at_ f it _ u e) λo x e1 e2 e3=>?_
   obtain⟨b,tk,rfl,hb⟩:=e3 F (.refl _)
   exact aP _ e1 rfl
  ·refine cz (j.dj.at_ f it _ u e) λo x e1 e2 e3=>?_
   obtain rfl:=e3 F (.refl _)
   exact aP _ e1 rfl
 refine ab9 W (ij (RS (jP w 60 λk a=>qq w mz k) (nK (o:=o) (PS:=qK C rE g) w mz (λa a U a F O a s A m a G H c h=>h U F O s A m G H c) (λs e k=>lz) 60) n R (λF O J s K j u X=>?_) L j u h) λr s3 c=>Er c λf c=>c)
 ·obtain⟨Y,ln,l,rfl,G,H,c,h4⟩:=X
  exact Rb w M G H c u j (n.le z) h4
end
noncomputable def wA:oq->List oq
 | .For _ _ b _ _=>b
 |_=>[]
noncomputable def aew:oq->List oq
 | .If _ b _ _=>b
 |_=>[]
noncomputable def aex:oq->List oq
 | .If _ _ b _=>b
 |_=>[]
noncomputable abbrev Uh (l:List oq) (i:Nat):Stmt:=(l[i]?).getD (.Pass ⟨0,0,0,0⟩)
noncomputable abbrev mv:iR:=mf "_netrclex" "get_token"
noncomputable def adk:List Stmt:=wA (gX mv 3)
noncomputable def KL:Stmt:=Uh (aew (Uh adk 1)) 0
noncomputable def KJ:Stmt:=Uh (aex (Uh adk 1)) 2
noncomputable def uw (c:Nat):Bool:=c==10||c==9||c==13||c==32
noncomputable def Fy (f:Nat->Bool):List Nat->Int->bD->bD×Int×List Nat×Bool
 |[],ln,tok=>(tok,ln,[],false)
 |c::l,ln,tok=>cond (f c) (tok,gB ln c,l,true) (cond (c==92) (match l with
  |[]=>(tok,ln,[],false)
  |e::l=>Fy f l (gB ln e) (tok++cA e)) (Fy f l (gB ln c) (tok++cA c)))
noncomputable abbrev HY:=Fy λc=>c==34
noncomputable abbrev Ft:=Fy uw
noncomputable def jn:List Nat->Int->bD×Int×List Nat×Bool
 |[],ln=>("",ln,[],false)
 |c::l,ln=>cond (uw c) (jn l (gB ln c)) (cond (c==34) (HY l (gB ln c) "") (cond (c==92) (match l with
  |[]=>("",ln,[],false)
  |e::l=>Ft l (gB ln e) (cA e)) (Ft l (gB ln c) (cA c))))
noncomputable def yX:MS:= .iff (.cmp (.var 3) [.Eq] [.cst (.str "\\")]) [.asg (.var 3) (.gJ 139 122 (aa "_read_char") (.var 0) [] [] [])] []
noncomputable abbrev OH (e:ME):List MS:=[.iff e [.ret (.var 1)] [yX],.aug 1 .Add (.var 3)]
noncomputable abbrev LA:ME:= .cmp (.var 3) [.Eq] [.cst (.str "\"")]
noncomputable def EE:ME:= .cmp (.var 3) [.In] [.attr 139 (.var 0) (aa "whitespace")]
noncomputable def AC:List MS:=[.iff EE [.cont] [],.iff (.cmp (.var 3) [.Eq] [.cst (.str "\"")]) [.ext KL] [yX,.aug 1 .Add (.var 3),.ext KJ]]
noncomputable abbrev U_ (l:List oq):List MS:=l.map (cS R2 [] 60 (eD mv.scope) (gI mv.scope))
theorem aeh:U_ (wA KL)=(OH LA):=by kernel_rfl
theorem aeg:U_ (wA KJ)=(OH EE):=by kernel_rfl
theorem aei:U_ adk=AC:=by kernel_rfl
noncomputable def Sw:oq->ay
 | .For t _ _ _ _=>t
 |_=> .Constant .none 0 ⟨0,0,0,0⟩
noncomputable def abx:oq->ay
 | .For _ i _ _ _=>i
 |_=> .Constant .none 0 ⟨0,0,0,0⟩
noncomputable def abw:oq->Pos
 | .For _ _ _ _ p=>p
 |_=>⟨0,0,0,0⟩
noncomputable def RI:ay->Pos
 | .Name _ q=>q
 |_=>⟨0,0,0,0⟩
inductive afl (st:oq) lit:Prop
 |mk tg q p body (e:st= .For tg (.Name "fiter" q) body [] p) (hc:U_ body=lit) (ht:cT R2 60 (eD mv.scope) (gI mv.scope) tg= .var 3) (hg:∀it v,dS tg it v=pure ())
theorem agC:afl KL (OH LA):=⟨Sw KL,RI (abx KL),abw KL,wA KL,by kernel_rfl,aeh,by kernel_rfl,λa a=>by kernel_rfl⟩
theorem agB:afl KJ (OH EE):=⟨Sw KJ,RI (abx KJ),abw KJ,wA KJ,by kernel_rfl,aeg,by kernel_rfl,λa a=>by kernel_rfl⟩
theorem agD:afl (gX mv 3) AC:=⟨Sw (gX mv 3),RI (abx (gX mv 3)),abw (gX mv 3),adk,by kernel_rfl,aei,by kernel_rfl,λa a=>by kernel_rfl⟩
structure Ev (Z:bk) t f tok:Prop where
 h0:Z 0=some (.own t)
 h1:Z 1=some (.str tok)
 h2:Z 2=some (.own f)
theorem Ev.ch (h:Ev Z t f tok) c:Ev (upd Z 3 c) t f tok:=⟨h.h0,h.h1,h.h2⟩
theorem Ev.tok {tok} (h:Ev Z t f tok) x:Ev (upd Z 1 (.str x)) t f x:=⟨h.h0,rfl,h.h2⟩
theorem agh c:jN (cA c) "\n\t\r " =uw c:=by
 refine(ti "\n\t\r " c).trans ?_
 unfold uw
 rw[fR,decide_eq_true_eq]
 simp only[jv,beq_iff_eq]
 show c∈[10,9,13,32]↔_
 simp only[aE,pT,or_false]
 constructor
 ·rintro (h|h|h|h)<;>simp[h]
 ·rintro (((h|h)|h)|h)<;>simp[h]
structure CI J t d k pb st f (r:bD×Int×List Nat×Bool) (K:fA):Prop where
 ret:r.2.2.2=true->∀Z,K (.ret (.str r.1)) Z (cp J d k pb st r.2.1 r.2.2.1)
 next:r.2.2.2=false->∀Z,Ev Z t f r.1->K .next Z (cp (J.set f (.ei pQ t)) d k pb st r.2.1 [])
section
variable {P:cZ} {PS:dZ} {n t d k pb st f:Nat} {Z:bk} {J:aZ} {ln:Int} {l:List Nat} {c:Nat} {tok:bD}
theorem Zi {K} (h:gM J t d k pb st) (a:Z 0=some (.own t)) (b:Z 3=some (.str (cA c))) (q:K (uw c) (cp J d k pb st ln l)):gm (aw P (n+2)) Z (j+1) (cp J d k pb st ln l) EE K:=by
 refine dp (aA b (qp a (jf h).hi (jf h).hd rfl rfl _ ?_))
 show K (jN (cA c) "\n\t\r ") _
 rw[agh]
 exact q
theorem Je {K} (b:Ms P) (h:gM J t d k pb st) (i:l.length<=900) (o:Z 0=some (.own t)) (r:Z 3=some (.str (cA c)))
  (j:(c==92)=false->K .next Z (cp J d k pb st ln l)) (s:(c==92)=true->l=[]->K .next (upd Z 3 (.str "")) (cp J d k pb st ln [])) (u:(c==92)=true->∀e m,l=e::m->K .next (upd Z 3 (.str (cA e))) (cp J d k pb st (gB ln e) m)):
  wpS P PS (n+5) yX Z (cp J d k pb st ln l) K:=by
 have g:∀K:Bool->Prop,K (c==92)->wL .Eq (.str (cA c)) (.str "\\") K:=λK q=>show K (cA c==cA 92) from(SS c 92).symm▸q
 refine fM (dp (aA r (bx (g _ ?_))))
 induction e:c==92 using cB with
 |false=>exact Br.f (bY (j e))
 |true=>
  refine Br.t (aK (gK (mV (aA o ⟨hJ (jf h).hi (jf h).hd rfl,b t d k pb st ln l J _ h i ?_⟩))))
  clear j i;induction l using cL with
  |nil=>exact s e rfl
  |cons a l=>exact u e a l rfl
end
theorem vF.tail {t d k st f c} (h:vF J t d k st f (c::l)) a:vF J t d k st f a:=⟨h.fd,h.fk,h.ft,h.fs,h.hi.imp id λx=>nomatch x.1⟩
theorem pJ:Fy g (c::l) ln tok=cond (g c) (tok,gB ln c,l,true) (cond (c==92) (match l with
 |[]=>(tok,ln,[],false)
 |e::l=>Fy g l (gB ln e) (tok++cA e)) (Fy g l (gB ln c) (tok++cA c))):=by induction l using cL<;>rfl
section
variable {P:cZ} {PS:dZ} {n t d k pb st f:Nat} {J:aZ} {K:fA}
noncomputable abbrev OI (P:cZ) (PS:dZ) (n:Nat) (lit:List MS):CV->bk->aZ->fA->Prop:=λc Z J Q=>bX (wpS P PS n) lit (upd Z 3 c) J Q
theorem YT x:x++(aa "")=x:=se Array.append_empty
theorem xM (a:Ev Z t f tok) (b:Z 3=some (.str x)) (c:x.length<=1) (e:tok.length<=950) (q:∀Z,Ev Z t f (tok++x)->K .next Z τ):wpS P PS (n+2) (.aug 1 .Add (.var 3)) Z τ K:=
 Av a.h1 (λQ=>aA b) (ag (cX e c) (by decide)) (q _ (a.tok _))
theorem IW (B:∀{Z ln l c} {K},Z 0=some (.own t)->Z 3=some (.str (cA c))->K (g c) (cp J d k pb st ln l)->gm (aw P (n+7)) Z (n+7) (cp J d k pb st ln l) e K) (u:Ms P) (h:gM J t d k pb st):∀num l ln tok Z,l.length<num->Ev Z t f tok->vF J t d k st f l->tok.length+l.length<=900->CI J t d k pb st f (Fy g l ln tok) K->yj (CJ t d k pb st f) (OI P PS (n+8) (OH e)) num Z (cp J d k pb st ln l) K:=by
 intro num
 induction num with
 |zero=>exact λl a a a r=>absurd r (qM _)
 |succ num v=>
  intro l ln tok Z r z s w j
  have x:l.length<=900:=ag (cR ..) w
  refine⟨J,ln,l,rfl,h,s,x,?_⟩
  induction l using cL with
  |nil=>exact j.next rfl Z z
  |cons c l=>
   have m:l.length<num:=vz r
   have q:tok.length+(l.length+1)<=900:=w
   have b:=z.ch (.str (cA c))
   rw[pJ] at j
   refine aK (fM (B b.h0 rfl ?_))
   clear w r;induction e1:g c using cB with
   |true=>
    exact Br.t (aK (jA (aA b.h1 ((e1▸j).ret rfl _))))
   |false=>
    rw[e1] at j
    have y:tok.length<=950:=ag (ag (ba ..) q) (by decide)
    have A:∀{o:List Nat} {a},o.length<=l.length->(tok++cA a).length+o.length<=900:=λ{o a} C=>by
     rw[ee]
     show tok.length+1+o.length<=900
     grind-abstractProof only
    refine Br.f (aK (Je u h (iN x) b.h0 rfl (λe2=>?_) (λe2 e3=>?_) λe2 a o e3=>?_))
    ·rw[e2] at j
     exact mK (bY (mK (aK (xM b rfl (ai 1) y λZ i=>mK (bY (v l _ _ Z m i (s.tail l) (A (ai _)) j))))))
    ·obtain rfl:=beq_iff_eq.mp e2
     subst e3
     refine mK (bY (mK (aK (xM (b.ch _) rfl (dY 1) y λZ i=>mK (bY (v [] ln tok Z m ?_ (s.tail []) (iN q) j))))))
     rwa [YT] at i
    ·subst e3
     clear e1;clear x;obtain rfl:=beq_iff_eq.mp e2
     exact mK (bY (mK (aK (xM (b.ch _) rfl (ai 1) y λZ i=>mK (bY (v o _ _ Z (jK m) i (s.tail o) (A (aQ _)) j))))))
theorem WR x:(aa "")++x=x:=se ox
abbrev Mv (PS:dZ) (st:oq) (b:List Nat->Int->bD->bD×Int×List Nat×Bool):Prop:=∀t d k pb a f J l ln tok Z K,gM J t d k pb a->Ev Z t f tok->vF J t d k a f l->tok.length+l.length<=900->CI J t d k pb a f (b l ln tok) K->PS st Z (cp J d k pb a ln l) K
theorem xv:jn (c::l) ln=cond (uw c) (jn l (gB ln c)) (cond (c==34) (HY l (gB ln c) "") (cond (c==92) (match l with
 |[]=>("",ln,[],false)
 |e::l=>Ft l (gB ln e) (cA e)) (Ft l (gB ln c) (cA c)))):=by induction l using cL<;>rfl
theorem VV (h:gM J t d k pb st) {num} {ln} {Z} {c} {l} (a:l.length<num) (hi:vF J t d k st f (c::l)) (q:K .next Z (cp (J.set f (.ei pQ t)) d k pb st ln [])):yj (CJ t d k pb st f) B num Z (cp (J.set f (.ei pQ t)) d k pb st ln []) K:=by
 induction num using cN with
 |zero=>exact absurd a (qM _)
 |succ num=>
  have b:f<J.length:=by
   rcases hi.hi with e|e
   ·exact(aj.mp e).1
   ·exact(aj.mp e.2).1
  refine⟨J.set f (.ei pQ t),ln,[],rfl,h.set hi.ft hi.fs,⟨hi.fd,hi.fk,hi.ft,hi.fs,.inr ⟨rfl,bI b⟩⟩,by decide,?_⟩
  show K .next Z (cp ((J.set f (.ei pQ t)).set f (.ei pQ t)) d k pb st ln [])
  rwa [eu]
theorem aaw {K} (a:Z 3=some (.str (cA c))) (q:K (c==34) τ):gm (aw P (n+2)) Z (j+1) τ LA K:=
 dp (aA a (bx (show K (cA c==cA 34) τ from(SS c 34).symm▸q)))
theorem VT (z:Ms P) (E:Mv PS KL HY) (A:Mv PS KJ Ft) (h:gM J t d k pb st):∀num l ln Z,l.length<num->Ev Z t f "" ->vF J t d k st f l->l.length<=900->CI J t d k pb st f (jn l ln) K->yj (CJ t d k pb st f) (OI P PS (n+8) AC) num Z (cp J d k pb st ln l) K:=by
 intro num
 induction num with
 |zero=>exact λl a a y=>absurd y (qM _)
 |succ num F=>
  refine λl ln Z y D m s g=>⟨J,ln,l,rfl,h,m,s,?_⟩
  induction l using cL with
  |nil=>exact g.next rfl Z D
  |cons c l=>
   have o:l.length<num:=vz y
   have u:l.length+1<=900:=s
   have i:=D.ch (.str (cA c))
   have b:∀{r} {B},(∀v Z τ,K (.ret v) Z τ->B (.ret v) Z τ)->(∀Z τ,yj (CJ t d k pb st f) (OI P PS (n+8) AC) num Z τ K->B .next Z τ)->CI J t d k pb st f r K->CI J t d k pb st f r B:=λG H g=>⟨λe Z=>G _ _ _ (g.ret e Z),λe Z j=>H _ _ (VV h o m (g.next e Z j))⟩
   rw[xv] at g
   refine aK (fM (Zi h i.h0 rfl ?_))
   induction e:uw c using cB with
   |true=>
    rw[e] at g
    exact Br.t (aK (F l (gB ln c) _ o i (m.tail l) (iN u) g))
   |false=>
    rw[e] at g
    refine Br.f (bY (mK (aK (fM (aaw rfl ?_)))))
    induction e1:c==34 using cB with
    |true=>
     rw[e1] at g
     exact Br.t (aK (E t d k pb st f J l _ "" _ _ h i (m.tail l) (by show 0+l.length<=900;lia) (b (λa a a q=>q) (λa a q=>mK (bY (mK (bY q)))) g)))
    |false=>
     rw[e1] at g
     have C:∀{w:List Nat} {x},x.length<=1->w.length<=l.length->(aa "" ++x).length+w.length<=900:=λI L=>by
      rw[WR]
      exact ag (cX I L) (by rw[fJ];exact u)
     refine Br.f (aK (Je z h (iN s) i.h0 rfl (λe2=>?_) (λe2 e3=>?_) λe2 a w e3=>?_))
     ·rw[e2] at g
      exact mK (aK (xM i rfl (ai 1) (dY _) λZ j=>mK (aK (A t d k pb st f J l _ _ Z _ h j (m.tail l) (C (ai 1) (ai _)) (b (λa a a q=>q) (λa a q=>mK (bY (mK (bY q)))) g)))))
     ·clear o;subst e3
      clear s;obtain rfl:=beq_iff_eq.mp e2
      exact mK (aK (xM (i.ch _) rfl (dY 1) (dY _) λZ j=>mK (aK (A t d k pb st f J [] ln _ Z _ h j (m.tail []) (C (dY 1) (ai _)) (b (λa a a q=>q) (λa a q=>mK (bY (mK (bY q)))) g)))))
     ·subst e3
      clear y e1 e;clear s;obtain rfl:=beq_iff_eq.mp e2
      exact mK (aK (xM (i.ch _) rfl (ai 1) (dY _) λZ j=>mK (aK (A t d k pb st f J w _ _ Z _ h j (m.tail w) (C (ai 1) (aQ _)) (b (λa a a q=>q) (λa a q=>mK (bY (mK (bY q)))) g)))))
end
theorem Sb a b:argsOk "iter" ⟨[a,b],[]⟩:=by kernel_rfl
theorem Sa (a:s.heap.get? b=some (hZ f x)) (c:Q (.ref s.heap.objs.size) {s with heap:=s.heap.push (tO b y)}):
  aD (aI prog w) A (call (.builtin "iter") [.ref b,y]) Q E s:=
 call_function_entry (by kernel_rfl) (by kernel_rfl) OS (Sb _ _) (R' a (aP _ rfl c))
abbrev acQ (P:cZ):Prop:=∀t d pb st ln J (Q:EPost),Lx J t d pb ln st->Q (.own J.length) (J++[.ei uZ t])->P.ext e7 [.own t] J Q
theorem adb (M:ef C R2):acQ (PM C R2 ℓ):=by
 intro t d pb st ln J Q P q xs H c z L U Z F O s A m R f hA i
 have c:cond (uV (tW (H.1.names.lookup (aa "iter")))) (some [aa "self"]) none=some xs:=c
 refine bE (uV (tW (H.1.names.lookup (aa "iter")))) (λw=>?_) λw=>?_
 ·rw[w] at c;exact aW c
 rw[w] at c
 have c:=ab c;subst c
 have Y:=z
 refine abO (NY M (o:= .Name (aa "self") ⟨159,21,159,25⟩) (x:="_read_char") (cf:=(139,122)) (by kernel_rfl)) λmN of fd y l B n hf D E S hB=>ir (by rfl) (kA M R f (xF w) (v:= .builtin "iter") (by kernel_rfl) (by kernel_rfl) (oV ?_));intro T s_;refine dQ (ae (hY R (by kernel_rfl) ((aq.mp Y).1) (vals1 i) λr hr=>letQ ?_)) (by rfl);intro T;refine cps λK_ k_=>?_
 obtain⟨a,b,mA,W,hb,rfl,a0,hI,hl,ob,eo,G⟩:=AH f hr P.hi P.hd
 obtain⟨N,r_,hC,hN⟩:=AV f l
 refine k_ (ae (cD (ae (bf ?_))))
 obtain⟨j,g,X,I,os⟩:=s
 refine Gp hC hN B hf (f.fz _ _ (f.top.k _ _ D)) E n hB hI (hl.2 _ rfl) (by kernel_rfl) (ae (qr (au (oV ?_))));intro T s_;refine dQ (ib (eP (au (Sa (aT _ rfl) ?_)))) (by rfl)
 have g1:Go C .no F O ⟨j,g,X,I,os⟩ (F.add j.objs.size (hZ 122 a)) O J ⟨j.push (hZ 122 a),g,X,I+1,os⟩:=Go.Rz f _ (aT _ rfl) (aQ _)
 have e:=f.go g1
 have u:(O++[(j.push (hZ 122 a)).objs.size])[J.length]?=some (j.push (hZ 122 a)).objs.size:=by
  rw[<-f.dj.len,be (ai _),dw];rfl
 refine⟨_,_,_,.own J.length,Go.own (mo:= .ei uZ t) (g1.trans (Go.qC e (tO j.objs.size (.str (aa "") (I+1))) (aQ _))) (by rw[dv];exact aQ _) e.fz.j_ (λh=>bG _ (e.dj.fr _ h).2.2) (λh=>bG _ (e.base.lt _ h)) (aU (aT _ rfl)) (eA _ a (aT _ rfl) ?_ λF' hF=>⟨_,_,rfl,hF.2 _ _ FZ.jd⟩),io.mpr (aP _ u rfl),q⟩
 exact af (cj (aj.mp W).1) W
section
variable {C:Cfg} {ℓ:Nat}
theorem FT {st} (i:afl st lit) (j:ef C R2) (l:Mt C) {rE m0 t d k pb u f num} {J} {Z} {K} (m:m0+rE<=ℓ) (a:17<=m0+rE) (b:Z 2=some (.own f)) (c:J[f]?=some (.ei uZ t)\/J[f]?=some (.ei pQ t))
  (h:yj (CJ t d k pb u f) (OI (PM C R2 rE) (qK C rE mv) m0 lit) num Z J K):qK C ℓ mv st Z J K:=by
 obtain⟨n,q,p,body,rfl,g,r,s⟩:=i
 refine VU (o:=[]) (d:=d) (k:=k) (pb:=pb) (st:=u) j l m a (by kernel_rfl) (by kernel_rfl) s b c (num:=num) ?_
 have e:GW (PM C R2 rE) (qK C rE mv) R2 m0 60 [] (eD mv.scope) (gI mv.scope) n body=OI (PM C R2 rE) (qK C rE mv) m0 lit:=by
  have g:body.map (cS R2 [] 60 (eD mv.scope) (gI mv.scope))=lit:=g
  unfold GW
  refine af r (af g ?_)
  rfl
 exact af e h
theorem vF.at_ {t d k st f pb} (h:vF J t d k st f l):(cp J d k pb st ln l)[f]?=some (.ei uZ t)\/(cp J d k pb st ln l)[f]?=some (.ei pQ t):=af (sI h.fd h.fk) (h.hi.imp id (·.2))
theorem ad3 (c:ef C R2) (e:Mt C) (j:24<=ℓ):Mv (qK C ℓ mv) KL HY:=λt d k pb m f J l ln tok Z K h g i n o=>
 FT agC c e j (by decide) g.h2 i.at_ (IW (λa b=>aaw b) (Zt c e (ai _)) h _ l ln tok Z (cH _) g i n o)
theorem ad1 (c:ef C R2) (e:Mt C) (j:24<=ℓ):Mv (qK C ℓ mv) KJ Ft:=λt d k pb m f J l ln tok Z K h g i n o=>
 FT agB c e j (by decide) g.h2 i.at_ (IW (λa b=>Zi h a b) (Zt c e (ai _)) h _ l ln tok Z (cH _) g i n o)
abbrev acN (PS:dZ):Prop:=∀t d k pb a f J l ln Z K,gM J t d k pb a->Ev Z t f "" ->vF J t d k a f l->l.length<=900->CI J t d k pb a f (jn l ln) K->PS (gX mv 3) Z (cp J d k pb a ln l) K
theorem ad2 (a:ef C R2) (b:Mt C) (g:32<=ℓ):acN (qK C ℓ mv):=λt d k pb i f J l ln Z K h c e j m=>
 FT agD a b g (by decide) c.h2 e.at_ (VT (Zt a b (by decide)) (ad3 a b (ai _)) (ad1 a b (ai _)) h _ l ln Z (cH _) c e j m)
end
theorem Fw:∀n l ln tok,l.length<=n->(Fy g l ln tok).2.2.2=false->(Fy g l ln tok).2.2.1=[]:=by
 intro n
 induction n with
 |zero=>intro l ln tok h _;induction l using cL with|nil=>rfl|cons c l=>cases h
 |succ n d=>
  intro l ln tok h b
  induction l using cL with
  |nil=>rfl
  |cons c l=>
   have h:l.length<=n:=pk h
   rw[pJ] at b ⊢
   induction e:g c using cB with
   |true=>exact bV (e▸b).symm
   |false=>
    rw[e] at b
    induction e2:c==92 using cB with
    |true=>
     rw[e2] at b
     induction l using cL with
     |nil=>rfl
     |cons a l=>exact d l _ _ (iN h) b
    |false=>
     rw[e2] at b
     exact d l _ _ h b
theorem aac:∀l ln,(jn l ln).2.2.2=false->(jn l ln).2.2.1=[]:=by
 intro l
 induction l with
 |nil=>intro ln _;rfl
 |cons c l d=>
  intro ln b
  rw[xv] at b ⊢
  induction e:uw c using cB with
  |true=>rw[e] at b;exact d _ b
  |false=>
   rw[e] at b
   induction e1:c==34 using cB with
   |true=>rw[e1] at b;exact Fw _ l _ _ (ai _) b
   |false=>
    rw[e1] at b
    induction e2:c==92 using cB with
    |true=>
     rw[e2] at b
     clear d;induction l using cL with
     |nil=>rfl
     |cons a l=>exact Fw _ l _ _ (ai _) b
    |false=>rw[e2] at b;exact Fw _ l _ _ (ai _) b
abbrev Hi (P:cZ):Prop:=∀t d k pb st ln l J (Q:EPost),gM J t d k pb st->J[pb]?=some (.list [])->l.length<=900->Q (.str (jn l ln).1) (cp J d k pb st (jn l ln).2.1 (jn l ln).2.2.1)->P.eK 129 [.own t] [] (cp J d k pb st ln l) Q
section
variable {P:cZ} {PS:dZ} {Q:EPost} {t d k pb st:Nat} {J:aZ} {ln:Int} {l:List Nat}
theorem I' (h:gM J t d k pb st):cp J d k pb st ln l++[m]=cp (J++[m]) d k pb st ln l:=by
 unfold cp
 rw[eZ _ _ h.hd,eZ _ _ (af bH h.hk)]
theorem gM.pO (h:gM J t d k pb st) {m}:gM (J++[m]) t d k pb st:=by
 have up:∀{i} {x},J[i]?=some x->(J++[m])[i]?=some x:=λe=>(cj (aj.mp e).1).trans e
 exact⟨up h.hi,ax▸dO h.hd,af ax (dO h.hk),up h.hs,h.nk,h.t1,h.t2,h.s1,h.s2,h.n1,h.n2,h.n3⟩
theorem Gy (h:gM J t d k pb st) {c} {Z} {m} {a} {b} (f:(cp J d k pb st ln l).all (hM (cp J d k pb st ln l).length)=true) (g:∀aO,pL 8 (cp J d k pb st ln l).length aO c=some c) (q:Q c (cp J d k pb st a b)):fG (cp J d k pb st ln l) Q (.ret c) Z (cp (J++[m]) d k pb st a b):=by
 refine eh (I' h) ?_
 have e:(cp J d k pb st a b++[m]).take (cp J d k pb st ln l).length=cp J d k pb st a b:=by
  rw[pG,<-pG]
  exact kl
 exact(oW c c rfl (g _) (.inr (af e (I_ h f))) (af e q))
theorem aaD {K} (h:PS s Z τ K):wpS P PS (n+1) (.ext s) Z τ K:=h
theorem VR (i:acQ P) (j:acN PS) (h:gM J t d k pb st) (m:J[pb]?=some (.list [])) (n:l.length<=900) (b:(cp J d k pb st ln l).all (hM (cp J d k pb st ln l).length)=true) (q:Q (.str (jn l ln).1) (cp J d k pb st (jn l ln).2.1 (jn l ln).2.2.1)):bX (wpS P PS 10) uN (U [some (.own t)]) (cp J d k pb st ln l) (fG (cp J d k pb st ln l) Q):=by
 have c:=jf (ln:=ln) (l:=l) h
 refine aK (fM (Uv (qp rfl c.hi c.hd rfl rfl _ (af (oI ((sI h.n2 h.n3).trans m)) ⟨by decide,Br.f (bY (mK (sA (λQ=>bx) (aK (gK (AA rfl (i t d pb st ln _ _ c (af pG (af (I' h) (cU (mK ?_)))))))))))⟩))))
 have o:(J++[MO.ei uZ t])[J.length]?=some (.ei uZ t):=by rw[be (ai _),dw];rfl
 refine aK (aaD (j t d k pb st J.length (J++[.ei uZ t]) l ln _ _ h.pO ⟨rfl,rfl,rfl⟩ ⟨bZ h.hd,bZ h.hk,bZ ((aj.mp h.hi).1),bZ ((aj.mp h.hs).1),.inl o⟩ n ⟨λe Z=>?_,λe Z g=>?_⟩))
 ·exact Gy (Z:=Z) h b (λa=>rfl) q
 ·rw[aac l ln e] at q
  refine mK (aK (jA (aA g.h1 ?_)))
  rw[fB _ _ (ai _),dw]
  exact Gy (Z:=Z) h b (λa=>rfl) q
end
theorem abV:gw mv [] uN ["self"]:=⟨by kernel_rfl,by kernel_rfl,λa v=>by kernel_rfl,XD,by kernel_rfl⟩
section
variable {C:Cfg} {ℓ:Nat}
abbrev afm (C:Cfg):Prop:=pw C 129 mv
theorem agn (c:ef C R2) (d:Mt C) (e:afm C) (f:43<=ℓ):Hi (PM C R2 ℓ):=λa a a a a a a a a h g i q=>jk c abV e 32 (av (by decide) f) rfl λb=>VR (adb c) (ad2 c d (ai _)) h g i b q
theorem agq (c:ef C R2) (d:afm C) (e:43<=ℓ):Qm (PM C R2 ℓ):=λa a a a a a a a a f g h q=>jk c abV d 32 (av (by decide) e) rfl λb=>WD f g h b q
end
abbrev acL (P:cZ):Prop:=∀st J (Q:EPost),Q (.own J.length) (J++[.inst 139 (some (J.length+1)),.ns (qF 1 st (J.length+2)),.list []])->P.eK 139 [.own st] [] J Q
section
variable {P:cZ} {PS:dZ} {Q:EPost} {t d st:Nat} {J:aZ}
theorem aaG (q:Q (.own τ.length) (τ++[.list []])):aw P (n+2) Z τ (.new (.lst [])) Q:=⟨by decide,q⟩
theorem OL (h:J[t]?=some (.inst 139 (some d))) (e:J[d]?=some (.ns [])) (c:t≠d) (q:Q .none (J.set d (.ns (qF 1 st J.length))++[.list []])):bX (wpS P PS 10) yZ (U [some (.own t),some (.own st)]) J (GA Q):=by
 have dl:d<J.length:=(aj.mp e).1
 have a:∀{x},(J.set d x)[t]?=some (.inst 139 (some d)):=(aS c.symm).trans h
 have b:∀{x},(J.set d x)[d]?=some x:=bI dl
 refine aK (gK (bx (Au (aA rfl (hJ h e ⟨by decide,mK (aK (gK (aA rfl (Au (aA rfl (hJ a b ⟨by decide,mK ?_⟩))))))⟩)))))
 rw[eu]
 refine aK (gK (bx (Au (aA rfl (hJ a b ⟨by show 2<=1000;decide,mK ?_⟩)))))
 rw[eu]
 refine aK (gK (aaG (Au (aA rfl (hJ ((cj (aj.mp a).1).trans a) ((cj (aj.mp b).1).trans b) ⟨by show 3<=1000;decide,mK (bY ?_)⟩)))))
 refine aP .none rfl ?_
 rw[eZ _ _ (af bH dl),eu,bH]
 exact q
end
theorem abZ:gw (mf "_netrclex" "__init__") [("pushback",1)] yZ ["self","fp"]:=⟨by kernel_rfl,by kernel_rfl,λa v=>by kernel_rfl,XH,by kernel_rfl⟩
section
variable {C:Cfg} {ℓ oy m:Nat}
theorem KA (w:ef C R2) {f} {d} {o} {lit} {xs} (c:gw d o lit xs) (x:pw C f d) {args} {J} {Q} ℓ (y:m+ℓ<oy) (j:args.length=xs.length)
  (h:bX (wpS (PM C R2 ℓ) (qK C ℓ d) m) lit (U (args.map some)) J (GA Q)):(PM C R2 oy).eK f args [] J Q:=by
 refine aG x λl n t=>aG n.obj λH u g=>⟨Callee.fn u g,λA F O s vs kv z v r B=>?_⟩
 subst B
 have b:=qf xs args [] j c.vs
 rw[Pm] at b
 refine ol (wK (cs:=xs.zip args) (PS:=qK C ℓ d) (o:=o) (nK w mz (λa a U a F O a s A m a D E G h=>h U F O s A m D E G) λs e k=>lz) n c.sc (af ((ni (j▸ai _))) c.bo) (z.le y) v (λK q=>?_) (af (show QH (cS R2 o 60 (eD d.scope) (gI d.scope)) d.body=lit from c.lit) (af b h)))
 ·have e:l={l with params:=d.args,defaults:= .none}:=by rw[<-n.params,<-t]
  have:=c.bind l λi=>vs.getD i oo
  rw[<-e,<-j,<-r.length,list_range] at this
  exact af this (au (q F s _ v.refl (rz r)))
abbrev ai9 (C:Cfg):Prop:=pw C 115 (mf "_netrclex" "__init__")
theorem ac' (a:ef C R2) (b:ai9 C) (c:ta C 139 "__init__" 115) (d:12<=ℓ):acL (PM C R2 ℓ):=λst J Q q=>by
 obtain⟨k,rfl⟩:∃k,ℓ=k+1:=⟨ℓ-1,by lia⟩
 refine Na c (KA a abZ b 0 (by lia) rfl (OL ?_ ?_ (bj (cH _)) ⟨rfl,?_⟩))
 ·rw[be (ai _),dw];rfl
 ·refine af (be (aQ _)) (af (show J.length+1-J.length=1 from ed ..) ?_);rfl
 ·rw[fB _ _ (aQ _),show J.length+1-J.length=1 from ed ..,ax,aM]
  exact q
end
def gA (P:bz) (ps:Array bq) (a:FZ) (o:Obj) (b:bz):Prop:=o=tabObj ps/\b=P
structure zl (C:Cfg) c P:Prop where
 hd:∀h:kT,(∀a o,C.K a=some o->h.get? a=some o)->CodeHd h c P
 blt:∀h:kT,(∀a o,C.K a=some o->h.get? a=some o)->h.BuiltinsAt C.mg P
inductive Vo C F O (J:aZ) j j0 P tps (pos:Pos) s ps body H af1 (v:bq) u:Prop
 |mk F' WA fl fd c oc vs t (g:Go C .no F O s F' O (J.set j (.ei (gA P WA) j0)) u) (e:v= .ref fl) (hn:s.heap.objs.size<=fl) (hf:F'.f fl=none) (ho:u.heap.get? fl=some ⟨.type "function",none,.func fd,#[]⟩)
  (h2:fd.body= .expr body) (h3:fd.scope=H) (h4:fd.globals=bN) (h5:fd.closure=af1) (h6:fd.builtins=cx) (h7:fd.params=ps) (h8:fd.defaults= .none)
  (g1:fd.code= .ref c) (g2:F'.f c=some oc) (g3:oc.data= .fields vs) (g4:vs[1]?=some (.str fd.qualname t)) (ht:WA=tps++ #[rawInt pos.line,rawInt pos.col,.ref c]):Vo C F O J j j0 P tps pos s ps body H af1 v u
section
variable {C:Cfg} {F:FZ} {O:List bz} {J:aZ} {s:aN} {A:bU} {U:pB}
theorem ain (b:Nw C F O J s) (h:∃o,C.K a=some o/\Io o m):s.heap.Ns a m:=by
 obtain⟨o,c,es,d,e,f,g⟩:=h
 exact(jq o es d (b.fz _ _ (b.top.k _ _ c)) e f g)
theorem Cp (d:Nw C F O J s) (Q:U.globals=bN) (R:U.code= .ref c) (G:zl C c P) (l:O[j]?=some P) (S:J[j]?=some (.ei (gA P tps) j0))
  (m:defaultsOf ps U=([],[])) (n:Kl tps.toList) (q:Kj pos tps.toList=none) (r:sd H U=pure f):
  aD (aI C.prog C.w) A (gW (.Lambda ps body H pos) U) (Vo C F O J j j0 P tps pos s ps body H f) a_ s:=by
 have I:∀a o,C.K a=some o->s.heap.get? a=some o:=λa o e=>d.fz _ _ (d.top.k _ _ e)
 refine cz (d.dj.at_ j P _ l S) λZ b e1 e2 e3=>?_
 obtain⟨rfl,u⟩:=e3 F (.refl _)
 have v:bN≠P:=λe=>by
  refine aG d.top.g λo T a=>?_
  have:=(d.dj.fr P (bh l)).1
  rw[<-e,d.top.k _ _ T] at this
  exact aW this.symm
 refine letQ ?_;intro Q_;refine kla_eval m (et (kla_makeFunction r Q (ain d d.top.g) R (G.hd _ I) e1 n q v (G.blt _ I) λx y L M W h z i B n=>GH i λc2 X vs t D E hd Y=>?_))
 injection D with D;subst D
 have N:s.heap.objs.size<=L.objs.size:=ag h (eG z)
 have g1:Go C .no F O s F O (J.set j (.ei (gA P (tps++ #[rawInt pos.line,rawInt pos.col,.ref x])) j0)) {s with heap:=L,toks:=M}:=Go.oP d l W N (eA _ b B e2 λa a=>⟨rfl,u⟩) n
 have g2:=Go.Vd d g1 h E
 have gp:=d.go g2
 exact⟨_,_,_,_,x,X,vs,t,(g2.trans (Go.qC gp (kla_obj "<lambda>" (U.qual++"<lambda>") ps body H f ((C.mg "__name__").getD .none) x y) (ai M))),rfl,N,gp.fz.j_,aT _ rfl,rfl,rfl,rfl,rfl,rfl,rfl,rfl,rfl,FZ.jd,hd,Y,rfl⟩
end
section
variable {C:Cfg} {X:Wr} {F:FZ} {O:List bz} {J:aZ} {s:aN} {A:bU} {U:pB}
theorem Z' l vs:vs.length=l.length->(∀(i:Nat) v c,vs[i]?=some v->l[i]?=some c->Rep F O c v)->bM F O l vs:=by
 induction l,vs using ll with
 |nn=>exact λa a=>rfl
 |nc=>exact λh a=>WO h
 |cn=>exact λh a=>WQ h
 |cc c l v vs b=>exact λh k=>(eA v vs rfl (k 0 v c rfl rfl) (b (nh h) λi v c d=>k (i+1) v c d))
theorem Ib {Q:EPost} (m:A.handled=none) (f:Nw C F O J s) (n:x.length<=1000) (q:Q (.own J.length) (J++[.list (jQ x.cps.toList)])):aD (aI C.prog C.w) A (call (.type "list") [.str x t]) (cM C .no F O s Q) a_ s:=by
 refine et (call_list_str m x t (λo r d u y b e z=>?_) (dK n))
 have g1:Go C .no F O s F O J {s with heap:=o,toks:=r}:=Go.lC f y (eG (aU b)) z
 have B:bM F (O++[s.heap.objs.size]) (jQ x.cps.toList) d.toList:=by
  refine Z' _ _ (by rw[jW,e.1,aC,jW]) λi v c k l=>iQ (e.2 i v (hV▸k)) λa D e1 j=>?_;clear k;subst j
  rw[dh,hV,e1] at l
  exact eh (ab l) ⟨D,rfl⟩
 have g:(O++[s.heap.objs.size])[J.length]?=some s.heap.objs.size:=by
  rw[<-f.dj.len,be (ai _),dw];rfl
 exact⟨_,_,_,.own J.length,Go.own (mo:= .list _) g1 (ai _) f.fz.j_ (λh=>bG _ (f.dj.fr _ h).2.2) (λh=>bG _ (f.base.lt _ h)) (aU b) (aP d ⟨_,b,u,rfl⟩ B),io.mpr (aP _ g rfl),q⟩
end
def afr (b:FZ) (o:Obj) (c:bz):Prop:=∃a:lu,o=⟨.type "function",none,.func a,#[]⟩
noncomputable def ajA:Arguments:={posonlyargs:=[],args:=[],vararg:=none,kwonlyargs:=[],kw_defaults:=[],kwarg:=none,defaults:=[]}
noncomputable def ajz:PySem.Expr:= .Constant .none 0 ⟨294,42,294,46⟩
noncomputable def ajy:Scope:={kind:= .function,names:=[],isGenerator:=false,isCoroutine:=false,more:=[]}
noncomputable def Ll:Pos:=⟨294,34,294,46⟩
noncomputable def aad:Pos:=⟨295,18,295,67⟩
noncomputable def aaN:PySem.Expr:= .Tuple [.Name "signs" ⟨294,4,294,9⟩,.Name "stream" ⟨294,11,294,17⟩] 0 ⟨294,4,294,17⟩
noncomputable def afN:PySem.Expr:= .Tuple [.Call (.Name "list" ⟨294,21,294,25⟩) [.Name "paper" ⟨294,26,294,31⟩] [] ⟨294,21,294,32⟩,.Lambda ajA ajz ajy Ll] 0 ⟨294,20,294,47⟩
noncomputable def ais:Stmt:= .Assign [aaN] afN ⟨294,4,294,47⟩
noncomputable def air:Stmt:= .Assign [.Attribute (.Name "stream" ⟨295,4,295,10⟩) "read" ⟨295,4,295,15⟩] (.Lambda aid agQ K' aad) ⟨295,4,295,67⟩
theorem ael:oX.body=[gX oX 0,gX oX 1,ais,air,gX oX 4]:=by kernel_rfl
noncomputable abbrev HX:gq:=eD oX.scope
noncomputable abbrev FG:Nat:=gI oX.scope
theorem aa9:cT R2 60 HX FG aaN= .tup [.var 9,.var 8]:=by kernel_rfl
section
variable {C:Cfg} {F:FZ} {O:List bz} {J:aZ} {s:aN} {A:bU} {U:pB} {ℓ m:Nat} {Z:bk}
theorem aau:lF afN (some aaN) l U=pure false:=by rfl
theorem Xh (o:ef C R2) {j j0} {c P} {x} {Q} (l:bT C HX FG U Z F O s.heap) (i:Nw C F O J s) (G:bQ (1+m+ℓ) A) (L:U.code= .ref c) (M:zl C c P) (N:O[j]?=some P) (H:J[j]?=some (.ei (gA P #[]) j0)) (R:Z 3=some (.str x)) (u:x.length<=1000)
  (q:∀S,Q .next (upd (upd Z 9 (.own J.length)) 8 (.own (J.length+1))) ((J++[MO.list (jQ x.cps.toList)]).set j (.ei (gA P #[rawInt Ll.line,rawInt Ll.col,.ref S]) j0)++[.ei afr J.length])):
  aD (aI C.prog C.w) A (exec ais U) (gz C HX FG U F O s Q) a_ s:=by
 refine Hg o (qq o mz) (by rw[<-ej];exact G) aau (by kernel_rfl) l i (af aa9 (letQ ?_));intro y;refine wpAny_Tuple (dQ (letQ ?_) (by rfl));intro y;refine ir (by rfl) (kA o l i (by kernel_rfl) (v:= .type "list") (by kernel_rfl) (by kernel_rfl) (letQ ?_));intro y;refine dQ (hY l (by kernel_rfl) (by kernel_rfl) R λr T=>bA T λt=>eP (au (ao (Ib (Q:=λc τ=>c= .own J.length/\τ=J++[MO.list (jQ x.cps.toList)]) G.1 i u ⟨rfl,rfl⟩) (λv s1 W=>?_) λa a e=>e))) (by rfl)
 obtain⟨F1,g,X,c1,g1,Y,rfl,rfl⟩:=W
 have d:=i.go g1
 refine letQ ?_;intro y;refine dQ (ao (Cp d l.ok.glob L M (g1.jo _ _ N) ((cj ((aj.mp H).1)).trans H) rfl trivial rfl (closureFor_none (by intro x u;cases u))) (λv2 s2 h2=>?_) λa a e=>e) (by rfl)
 obtain⟨F2,a0,n,fd,c2,oc,vs,t2,g2,rfl,z,hf,I,a,a,a,a,a,a,a,a,a,a,a,rfl⟩:=h2
 have b:g.length=J.length+1:=by refine af d.dj.len (af ax ?_);rfl
 refine aG (io.mp Y) λB D E=>?_;subst E
 have f:(g++[n])[J.length]?=some B:=(cj (b▸cH _)).trans D
 have k:(g++[n])[J.length+1]?=some n:=by
  rw[<-b,be (ai _),dw];rfl
 have g3:=Go.own (mo:= .ei afr J.length) (g1.trans g2) (ag g1.ext.size z) hf (λh=>bG _ (av (d.dj.fr _ h).2.2 z)) (λh=>bG _ (av (d.base.lt _ h) z)) (aU I) (eA _ B I f λa a=>⟨fd,rfl⟩)
 exact eP ⟨by show 2<=fj;decide,.trans g3 (.tuple (i.go g3) (.cons (io.mpr (aP B f rfl)) (.cons (io.mpr (aP n k rfl)) .nil)) (ip (cU (cU (q c2)))))⟩
end
noncomputable def Bc (H:jH):Scope:={H with names:=H.names.map λp=>(p.1,cond (p.2== .cell) .free p.2)}
theorem aaS x:∀l:List (bD×um),(l.map λp=>(p.1,cond (p.2== .cell) dH p.2)).lookup x=(l.lookup x).map λk=>cond (k== .cell) .free k:=by
 intro l
 induction l with
 |nil=>
  exact rfl
 |cons a l b=>
  obtain⟨z,k⟩:=a
  refine af gC (af cg (af cg ?_))
  induction x==z using cB with
  |true=>rfl
  |false=>exact b
section
variable {C:Cfg} {F F':FZ} {O:List bz} {s:aN} {U:pB} {Z:bk} {H:jH} {vs:List (bD×Nat)} {L:Nat}
theorem bT.rest (d:bT C (H,vs) L U Z F O s.heap) (l:jp F F') (m:F'.f U.locals=none):bT C (Bc H,vs) L U Z F' O s.heap:=by
 have j:∀y,(Bc H).names.lookup y=(H.names.lookup y).map λk=>cond (k== .cell) .free k:=λy=>aaS y H.names
 refine⟨λy=>?_,⟨d.ok.kind,d.ok.glob,d.ok.blt,d.ok.ns,m,d.ok.Ao,d.ok.cell,d.ok.inj,d.ok.vC,λy i c e1 e2=>(aG (d.ok.vars y i c e1 e2) λv n o=>(aP v n (o.mono l (.refl _))))⟩,d.top,d.lt,λy g q=>?_,λy b a g=>?_⟩
 ·rw[j]
  rcases d.kd y with h|⟨r,t⟩
  ·refine af h ?_
   induction H.names.lookup y using cO with
   |none=>exact .inl rfl
   |some k=>induction k using e_<;>first|exact .inl rfl|exact .inr ⟨rfl,rfl⟩
  ·exact af r (.inr ⟨rfl,t⟩)
 ·rw[j] at g
  refine d.iK y ?_ q
  induction e:H.names.lookup y using cO with
  |none=>rw[e] at g;exact g
  |some k=>rw[e] at g;induction k using e_<;>exact g
 ·rw[j] at g
  refine oE (H.names.lookup y) (λe=>?_) λk e=>?_
  ·rw[e] at g;exact aW g
  ·rw[e] at g;exact nomatch k<;>cases g
theorem yV (h:s.heap.Ns b m) (c:s.heap.get? a=some o) (d:o.data= .cell v):b≠a:=λe=>by
 refine abP h λf es g e1 e2 a=>?_
 rw[e,c] at e1
 have e1:=ab e1;subst e1
 cases d.symm.trans e2
theorem xO (h:F.f b=none) (c:b≠a):(F.add a o).f b=none:=by
 show(if b=a then some o else F.f b)=none
 exact af (if_neg c) h
end
noncomputable abbrev agK:gq:=(Bc oX.scope,HX.2)
inductive af6 C U Z F0 qD s0 O (J:aZ) j j0 P st k (fl:Flow) u:Prop
 |mk F' WA (e:fl= .next) (g:Go C .no F0 qD s0 F' O ((J.set j (.ei (gA P WA) j0)).set st (.ei tC k)) u) (he:bT C agK FG U Z F' O u.heap):af6 C U Z F0 qD s0 O J j j0 P st k fl u
section
variable {C:Cfg} {F:FZ} {O:List bz} {J:aZ} {s:aN} {A:bU} {U:pB} {ℓ m:Nat} {Z:bk}
theorem PR (h:U.cells.lookup (aa "signs")=some a):sd K' U=pure [(aa "signs",a)]:=by
 unfold sd K'
 simp only[ju,HN,cellOf,h]
 rfl
theorem Wo (f:s.heap.get? a=some ⟨.type "function",none,.func j,k⟩)
  (l:∀e c,s.toks<=c->e.get? a=some ⟨.type "function",some s.heap.objs.size,.func j,k⟩->e.Ns1 s.heap.objs.size (λy=>if y="read" then some (.ref n) else none)->(∀b o,b≠a->s.heap.get? b=some o->e.get? b=some o)->e.objs.size=s.heap.objs.size+1->Q () {s with heap:=e,toks:=c}):
  aD (aI C.prog C.w) A (setAttr (.ref a) "read" (.ref n)) Q E s:=by
 obtain⟨h,g,d,t,os⟩:=s
 have i:(⟨h,g,d,t+1,os⟩:aN).TypeIs (.ref a) "function" :=aP _ f rfl
 refine ae (Bo (ae (iM i Ph (h_ Ph i Lh (Ym f λe c q r u v x=>aP _ rfl ?_) (Oh _ _ _)))))
 exact au (l e c (iN q) r u v x)
theorem Xg {j j0 st k} (M:Nw C F0 qD a8 s0) (g0:Go C .no F0 qD s0 F O J s) (hp:∀a∈(dX U).a,s0.heap.objs.size<=a) (y:bT C HX FG U Z F O s.heap) (nw:Nw C F O J s)
  (hc:U.code= .ref c) (hK:zl C c P) (ha:O[j]?=some P) (hj:J[j]?=some (.ei (gA P tps) j0)) (N:Kl tps.toList) (Q:Kj aad tps.toList=none) (h8:Z 8=some (.own st)) (h9:Z 9=some (.own k)) (R:J[st]?=some (.ei afr k)) (S:j≠st):
  aD (aI C.prog C.w) A (exec air U) (af6 C U Z F0 qD s0 O J j j0 P st k) a_ s:=by
 refine aG (y.ok.vars (aa "signs") 9 _ (by kernel_rfl) h9) λv9 va r9=>aG (io.mp r9) λak n q=>?_;clear r9;subst q
 have t:HX.1.names.lookup (aa "signs")=some .cell:=by kernel_rfl
 have T:U.kindOf (aa "signs")=some .cell:=by
  rcases y.kd (aa "signs") with e|⟨e,a⟩
  ·exact e.trans t
  ·cases t.symm.trans e
 refine letQ ?_;intro W;unfold kL at va
 obtain⟨H,z,I,Y,B⟩:=T▸va
 refine ae (cD (ae (au (letQ ?_))));intro W;refine ae (ao (Cp nw y.ok.glob hc hK ha hj rfl N Q (PR z)) (λv s1 h1=>?_) λa a e=>e)
 obtain⟨F1,a0,fl,fd,c1,a3,a4,t1,g1,rfl,hn,hf,ho,b2,b3,b4,b5,b6,b7,b8,d1,d2,d3,d4,a⟩:=h1
 have g2:=g1.Pe hn hf (λh=>bG _ (av (nw.dj.fr _ h).2.2 hn)) ho
 have i:=y.gb g2
 have f:=mem_of_lookup z
 refine qk (y.ok.cell _ _ f) λa a5 D=>?_
 have u:=i.cF _ H f t
 have l:=g1.ext.keep H I a5 (af (show(⟨O++Wr.no.a,Wr.no.g⟩:Wr).a=O from bK _) D) Y
 have g3:=(g0.trans g2).Pe (hp H (aB _ (bO.mpr (aP _ f rfl)))) u D l
 obtain⟨mL,a6⟩:=i.ok.ns
 have E:=bT.rest i (FZ.pZ (o:=I) u) (xO i.ok.Ca (yV a6 l B))
 have d:=M.go g3
 refine ae (jD (by rfl) (letQ ?_));intro W;refine ae (ae (bf (hY E (by kernel_rfl) (by kernel_rfl) h8 λr hr=>letQ ?_)));intro W;refine cps λK_ k_=>aG (io.mp hr) λsa x q=>?_;clear hr;subst q
 refine cz (d.dj.at_ st sa _ x ((aS S).trans R)) λo b e1 e2 e3=>?_
 obtain⟨G,rfl⟩:=e3 _ (.refl _)
 refine k_ (ae (cD (ae (bf (Wo e1 λh' a9 N hg a7 hk hz=>tE (au (af (ab (n.symm.trans e2)) (aiV a7 λod es ep q1 q2 q3 q4 q5=>?_))))))))
 have g5:=(Go.oP (X:= .no) d x (m:= .ei (λa o a=>o=⟨.type "function",some s1.heap.objs.size,.func G,#[]⟩) k) hk (hz▸aQ _) (eA _ ak hg n λa a=>rfl) N).Pe (ai _) d.fz.j_ (λh=>bG _ (d.dj.fr _ h).2.2) q1
 have l3:=FZ.pZ (o:=I) u
 have l4:=FZ.pZ (o:=od) d.fz.j_
 have g6:=Go.oP (X:= .no) (d.go g5) x (m:= .ei tC k) (λa a a e=>e) (ai _) (eA _ ak hg n (λF' L=> .mk s1.heap.objs.size fl H G #[] od I _ _ rfl (L.2 _ _ FZ.jd) (eA es ep q2 q3 q5) (if_pos rfl) (L.2 _ _ (l4.2 _ _ (l3.2 _ _ FZ.jd)))
  (.mk fd #[] c1 a3 a4 t1 rfl b2 b3 b4 b5 b6 b7 b8 d1 (L.2 _ _ (l4.2 _ _ (l3.2 _ _ ((FZ.pZ hf).2 _ _ d2)))) d3 d4) (L.2 _ _ (l4.2 _ _ FZ.jd)) B)) (ai _)
 rw[eu] at g6
 have g7:=g5.trans g6
 exact⟨_,a0,rfl,g3.trans g7,E.gb g7⟩
end
noncomputable def rQ (i b:Int):Str:=([" ","\n","\t\r",cond (b==1) "" "\r\n"]:List bD).getD i.toNat ""
noncomputable def NN (y:Int) (c:Nat):Str:=cond (y==0||jN (cA c) "\"\\" ||(y==2&&jN (cA c) " \n\t")) "\\" ""
noncomputable def jR (y:Int) (c:Nat):Str:=cond (y==1) ((aa "\"")++NN y c++cA c++"\"") (NN y c++cA c)
noncomputable def qR (f:Int) (w:Nat->Int):List Nat->Nat->Int->bD->bD
 |[],_,_,t=>t
 |c::l,k,b,t=>qR f w l (k+1) (w k) (t++rQ ((f+(k:Nat)).fmod 4) b++jR (w k) c)
section
variable {P:cZ} {PS:dZ} {Q:EPost} {n:Nat} {Z:bk} {J:aZ}
theorem aaC {e1 e2 e3} {K} (a:∀K:Bool->aZ->Prop,K c J->gm (aw P n) Z k J e1 K) (d:∀K:Bool->aZ->Prop,K b2 J->gm (aw P n) Z k J e2 K) (e:∀K:Bool->aZ->Prop,K b3 J->gm (aw P n) Z k J e3 K) (q:K (c||b2||b3) J):gm (aw P n) Z (k+1) J (.bor [e1,e2,e3]) K:=
 a _ (by
  induction c using cB with
  |true=>exact Br.t q
  |false=>exact Br.f (d _ (by
   clear a d;induction b2 using cB with
   |true=>exact Br.t q
   |false=>exact Br.f (e _ (Br.id (K:=λb=>K b J) q)))))
theorem Pd i b:(rQ i b).length<=2:=by
 unfold rQ
 refine af dD ?_
 cases h:([" ","\n","\t\r",cond (b==1) "" "\r\n"]:List bD)[i.toNat]? with
 |none=>decide
 |some x=>
  have a:=bh h
  simp only[aE,pT,or_false] at a
  clear h;rcases a with rfl|rfl|rfl|rfl
  ·decide
  ·decide
  ·decide
  ·induction b==1 using cB<;>decide
theorem Uk y c:(NN y c).length<=1:=by
 unfold NN
 induction (y==0||jN (cA c) "\"\\" ||(y==2&&jN (cA c) " \n\t")) using cB<;>decide
theorem FA y c:(jR y c).length<=4:=by
 have:=Uk y c
 unfold jR
 induction y==1 using cB with
 |true=>
  show(aa "\"" ++NN y c++cA c++"\"").length<=4
  rw[ee,ee,ee]
  show 1+_+1+1<=4
  lia
 |false=>
  show(NN y c++cA c).length<=4
  rw[ee]
  show _+1<=4
  exact zT (zS this) (by decide)
theorem aiD {K} (h:0<=i/\i<4) (q:K (.str (([a,b,c,d]:List bD).getD i.toNat ""))):Gj (.lst [.str a,.str b,.str c,.str d]) (.int i) K:=by
 have:i=0\/i=1\/i=2\/i=3:=by grind-abstractProof only
 clear h;rcases this with rfl|rfl|rfl|rfl
 ·exact⟨by decide,0,_,rfl,rfl,q⟩
 ·exact⟨by decide,1,_,rfl,rfl,q⟩
 ·exact⟨by decide,2,_,rfl,rfl,q⟩
 ·exact⟨by decide,3,_,rfl,rfl,q⟩
theorem aeF (c:Z 2=some (.int f)) (d:Z 4=some (.int b)) (e:Z 5=some (.int (k:Nat))):∀Q:EPost,Q (.str (rQ ((f+(k:Nat)).fmod 4) b)) J->
  aw P (n+6) Z J (.idx (.lst [(.cst (.str (aa " "))),(.cst (.str (aa "\n"))),(.cst (.str (aa "\t\x0d"))),(.iD (.cmp (.var 4) [.Eq] [(.cst (.int (1)))]) (.cst (.str (aa ""))) (.cst (.str (aa "\x0d\n"))))]) (.bin .Mod (.bin .Add (.var 2) (.var 5)) (.cst (.int (4))))) Q:=λQ q=>by
 have a:∀Q:EPost,Q (.str (cond (b==1) "" "\r\n")) J->aw P (n+4) Z J (.iD (.cmp (.var 4) [.Eq] [(.cst (.int 1))]) (.cst (.str (aa ""))) (.cst (.str (aa "\x0d\n")))) Q:=λQ q=>jS (dp (aA d (bx (Br.of (f:=λz=>Q (.str z) J) q (bx) bx))))
 exact iG (FQ eI eI eI a (DG (by decide) (mu (eV c) (eV e)) _ (aiD (af (cy _ (by decide)) (⟨Ep _ (by decide),zO _ (by decide)⟩)) q)))
theorem Aa (b:Z 1=some (.lst (iC ys))) (c:Z 5=some (.int (k:Nat))) (a:ys[k]?=some y) (d:k<1000):∀Q:EPost,Q (.int y) J->aw P (n+2) Z J (.idx (.var 1) (.var 5)) Q:=λQ q=>
 iG (aA b (aA c ⟨by lia,k,_,jg (by rw[iC,aC];exact(aj.mp a).1),dh.trans (a▸rfl),q⟩))
theorem Xo {K}:∀l k b t Z,Z 1=some (.lst (iC ys))->Z 2=some (.int f)->Z 3=some (.str t)->Z 4=some (.int b)->(∀i,i<l.length->ys[k+i]?=some (w (k+i)))->t.length+6*l.length<=900->k+l.length<=900->
  (∀d:bk,d 3=some (.str (qR f w l k b t))->K .next d J)->eO ke (iX P PS (n+10) (jc n_ 1)) (tA l k) Z J K:=by
 intro l
 induction l with
 |nil=>exact λk b t Z h o r x s j m q=>⟨trivial,q Z r⟩
 |cons c l F=>
  intro k b t Z h o r x s j m q
  rw[bS] at j m
  have e:ys[k]?=some (w k):=s 0 (CX _)
  have y:=Pd ((f+k).fmod 4) b
  have A:=FA (w k) c
  have u:=Uk (w k) c
  have g:k<1000:=zB (zT zP m) (by decide)
  have B:t.length<=900:=zT zP j
  refine⟨trivial,ip (cU (cU (aK (Av r (aeF o x rfl) (zT (zM B y) (by decide)) (mK (sA (λQ q=>(jS (aaC (λK q=>dp (Aa (by exact h) rfl e g _ (bx q))) (λK q=>dp (aA rfl (bx q))) (λK q=>Cf (λK q=>dp (Aa (by exact h) rfl e g _ (bx q))) (λK q=>dp (aA rfl (bx q))) q) (Br.of (f:=λz=>Q (.str z) J) q (bx) bx)))) ?_))))))⟩
  ·have v:∀{d},d 7=some (.str (NN (w k) c))->d 6=some (.str (cA c))->d 1=some (.lst (iC ys))->d 5=some (.int k)->∀Q:EPost,Q (.str (jR (w k) c)) J->aw P (n+9) d J (.iD (.cmp (.idx (.var 1) (.var 5)) [.Eq] [(.cst (.int 1))]) (.bin .Add (.bin .Add (.bin .Add (.cst (.str (aa "\""))) (.var 7)) (.var 6)) (.cst (.str (aa "\"")))) (.bin .Add (.var 7) (.var 6))) Q:=λC D h G Q q=>by
    have E:(aa "\"" ++NN (w k) c).length<=2:=by rw[ee];exact zM (ai 1) u
    refine jS (dp (Aa h G e g _ (bx (Br.of (f:=λz=>Q (.str z) J) q (λq=>(mY (zT (zS (by rw[ee];show _+1<=3;exact zT (zS E) (by decide))) (by decide)) (mY (by show _+1<=1000;exact zT (zS E) (by decide)) (mY (zT (zM (ai 1) u) (by decide)) eI (eV C)) (eV D)) eI _ q)) λq=>?_))))
    ·exact mY (by show _+1<=1000;exact zT (zS u) (by decide)) (eV C) (eV D) _ q
   have lt:(t++rQ ((f+k).fmod 4) b).length<=t.length+2:=by rw[ee];exact bJ y _
   refine aK (Av rfl (v rfl rfl h rfl) (zT (zM (zT lt (zS B)) A) (by decide)) (mK (sA (λQ=>Aa (by exact h) rfl e g _) ?_)))
   have next:∀d:bk,d 1=some (.lst (iC ys))->d 2=some (.int f)->d 3=some (.str (t++rQ ((f+k).fmod 4) b++jR (w k) c))->d 4=some (.int (w k))->eO ke (iX P PS (n+10) (jc n_ 1)) (tA l (k+1)) d J K:=λd g1 g2 g3 H=>F (k+1) (w k) _ d g1 g2 g3 H (λi I=>by
    have:=s (i+1) (ki I)
    exact af (ou k 1 i) this) (by rw[ee];exact zT (zS (zM lt A)) (zT (zE (zW (a:=t.length) (c:=6))) j)) (zI m) q
   exact bY (next _ h o rfl rfl)
end
noncomputable def endsF (x:bD):Int:=(d_ x "\n" 0 x.length (x.length+1)).length
noncomputable def LH (J:aZ) (j:Nat) (P:bz) (tps:Array bq) (x:bD):aZ:=J.set j (.ei (gA P tps) j)++[.list (jQ x.cps.toList),.ei tC J.length,.inst 139 (some (J.length+3)),.ns (qF 1 (J.length+1) (J.length+4)),.list []]
abbrev Vl (P:cZ) (T:bz):Prop:=∀ws ys f w j J (Q:EPost),J[j]?=some (.ei (gA T #[]) j)->(∀i,i<ws.length->ys[i]?=some (w i))->ws.length<=100->
 (∀tps,Q (.tup [.own (J.length+2),.int (1+endsF (qR f w ws 0 1 ""))]) (LH J j T tps (qR f w ws 0 1 "")))->P.eK 305 [.lst (jQ ws),.lst (iC ys),.int f] [] J Q
structure af8 C T:Prop where
 fn:∃fd c,Bh C 305 oX fd/\fd.defaults= .none/\fd.code= .ref c/\zl C c T
theorem LZ:gw oX [] n_ ["words","ways","first"]:=⟨by kernel_rfl,by kernel_rfl,λa v=>by kernel_rfl,XI,by kernel_rfl⟩
theorem ahi:cS R2 [] 60 HX FG (gX oX 1)=jc n_ 1:=by kernel_rfl
section
variable {P:cZ} {PS:dZ} {n:Nat} {Z:bk} {J:aZ}
theorem Xb {K} (a:∀Q:EPost,Q (.lst (jQ l)) J->aw P n Z J e Q) (h:K (tA l 0) (λ_=>True) J):pE (aw P n) P Z J (.sU e) K:=
 a _ (aP _ rfl (by
  show K ((l.map λc=>CV.str ⟨#[c]⟩).zipIdx.map λp=> .tup [.int p.2,p.1]) _ J
  rw[enum_zip];exact h))
theorem ahd (q:Q .next (upd (upd Z 3 (.str "")) 4 (.int 1)) J):wpS P PS (n+3) (jc n_ 0) Z J Q:=gK (j' (bx (bx ⟨vN,ip (cU (cU q))⟩)))
theorem ahc {st} (a:acL P) (b:Z 8=some (.own st)) (c:Z 3=some (.str x)) (q:Q (.ret (.tup [.own J.length,.int (1+endsF x)])) Z (J++[.inst 139 (some (J.length+1)),.ns (qF 1 st (J.length+2)),.list []])):wpS P PS (n+6) (jc n_ 4) Z J Q:=
 jA (j' (lU (mL (aA b (jh (a st J _ (mu eI (λQ q=>lB (m:= .count) (λQ=>aA c) (λQ q=>mL (bx (jh q))) (aP _ rfl q)) _ ⟨vN,q⟩)))))))
end
section
variable {C:Cfg} {ℓ:Nat}
theorem OM f w:∀l k b t,(qR f w l k b t).length<=t.length+6*l.length:=by
 intro l
 induction l with
 |nil=>exact λk b t=>ai _
 |cons c l e=>
  intro k b t
  have d:=e (k+1) (w k) (t++rQ ((f+k).fmod 4) b++jR (w k) c)
  have g:=Pd ((f+k).fmod 4) b
  have h:=FA (w k) c
  rw[ee,ee] at d
  show(qR f w l (k+1) (w k) (t++rQ ((f+k).fmod 4) b++jR (w k) c)).length<=t.length+6*(l.length+1)
  exact zT d (zT (zS (zM (zM (ai _) g) h)) (zE (zW (a:=t.length) (c:=6))))
theorem ads {J:aZ} (a:j<J.length):((((J++[b]).set j x++[y]).set j c).set (J.length+1) z)=J.set j c++[b,z]:=by
 rw[eZ _ _ a,aM,eZ _ _ (af bH a),eu,fB _ _ (by exact af bH (aQ _)),bH,ed ..]
 rfl
theorem Zu (hR:ef C R2) (hN:acL (PM C R2 ℓ)) {T:bz} (hL:af8 C T) {oy:Nat} (hl:ℓ+20<oy):Vl (PM C R2 oy) T:=by
 intro ws ys f w j J Q hj hy hw q
 refine Pr hL.fn λfd c hK a3 hc D=>?_
 refine aG hK.obj λob a4 E=>?_
 refine⟨Callee.fn a4 E,λA F O s vs kv hA x r r0=>?_⟩
 subst r0
 have jl:=(aj.mp hj).1
 obtain⟨a,G⟩:∃a,O[j]?=some a:=⟨O[j]'(x.dj.len▸jl),aF _⟩
 refine cz (x.dj.at_ j a _ G hj) λo b e1 e2 e3=>?_
 obtain⟨rfl,rfl⟩:=e3 F (.refl _)
 obtain rfl:=ab (G.symm.trans e2)
 have l:=qf ["words","ways","first"] [.lst (jQ ws),.lst (iC ys),.int f] [] rfl LZ.vs
 rw[Pm] at l
 refine ol (rS (cs:=(["words","ways","first"]:List bD).zip [.lst (jQ ws),.lst (iC ys),.int f]) (m:=20) (ℓ:=ℓ) hK LZ.sc LZ.bo (hA.le (by rw[fJ 20];exact hl)) x (λK k=>?_) λen A F1 s3 c1 c2 g0 hp y I g=>?_)
 ·have e:fd={fd with params:=oX.args,defaults:= .none}:=by rw[<-hK.params,<-a3]
  have:=LZ.bind fd λi=>vs.getD i oo
  rw[<-e,show(["words","ways","first"]:List bD).length=vs.length from r.length.symm,list_range] at this
  refine af (this) ?_
  exact au (k F s _ x.refl (rz r))
 refine af (ael) ?_
 rw[l] at y
 have hS:=nK (o:=[]) (H:=HX) (L:=FG) (PS:=qK C ℓ oX) hR (mz (C:=C) (R:=R2) (ℓ:=ℓ)) (λa a U a F O a s A m a h1 h2 h3 h=>h U F O s A m h1 h2 h3) (λs e k y=>lz y) 60
 have h0:wpS (PM C R2 ℓ) (qK C ℓ oX) 20 (cS R2 [] 60 HX FG (gX oX 0)) (U [some (.lst (jQ ws)),some (.lst (iC ys)),some (.int f)]) J (λt Z τ=>t= .next/\Z=upd (upd (U [some (.lst (jQ ws)),some (.lst (iC ys)),some (.int f)]) 3 (.str "")) 4 (.int 1)/\τ=J):=by
  exact ahd (n:=17) (fg rfl rfl rfl)
 refine letQ ?_;intro Q_;refine je (ao (hS 20 _ en _ F1 O J s3 A _ y I g h0) (λfl s4 h4=>?_) λa a e=>e)
 obtain⟨F4,a5,u,b5,t,g4,a6,r4,rfl,rfl,rfl⟩:=h4
 obtain rfl:=(r4)
 have M:=I.go g4
 have h1:wpS (PM C R2 ℓ) (qK C ℓ oX) 20 (cS R2 [] 60 HX FG (gX oX 1)) (upd (upd (U [some (.lst (jQ ws)),some (.lst (iC ys)),some (.int f)]) 3 (.str "")) 4 (.int 1)) u (λt Z τ=>t= .next/\Z 3=some (.str (qR f w ws 0 1 ""))/\τ=u):=by
  refine af (ahi) ?_
  refine lS (Xb (λQ=>aA rfl) ?_)
  exact Xo (n:=9) (ys:=ys) ws 0 1 "" _ rfl rfl rfl rfl (λi hi=>by rw[dJ];exact hy i hi) (by show 0+6*ws.length<=900;lia) (by lia) λb6 e=>(fg rfl e rfl)
 refine je (ao (hS 20 _ en _ F4 a5 u s4 A _ a6 M g h1) (λfl s5 h5=>?_) λa a e=>e)
 obtain⟨F5,b7,d,b8,t,g5,a7,r5,rfl,k3,rfl⟩:=h5
 obtain rfl:=(r5)
 have N:=M.go g5
 have P:=c1.trans hc
 have S:=g5.jo _ _ (g4.jo _ _ (g0.jo _ _ G))
 refine letQ ?_;intro Q_;refine je (ao (Xh (m:=19) (ℓ:=ℓ) (j:=j) (j0:=j) hR a7 N g P D S hj k3 (ag (OM f w ws 0 1 "") (by show 0+6*ws.length<=1000;lia)) (Q:=λt Z τ=>t= .next/\Z 8=some (.own (d.length+1))/\Z 9=some (.own d.length)/\Z 3=some (.str (qR f w ws 0 1 ""))/\∃B,τ=(d++[MO.list (jQ (qR f w ws 0 1 "").cps.toList)]).set j (.ei (gA a #[rawInt Ll.line,rawInt Ll.col,.ref B]) j)++[.ei afr d.length]) λB=>⟨rfl,rfl,rfl,k3,B,rfl⟩) (λfl s6 h6=>?_) λa a e=>e)
 obtain⟨F6,a8,b9,W,t,g6,a9,r6,rfl,k8,k9,b0,B,rfl⟩:=h6
 obtain rfl:=(r6)
 have b1:=N.go g6
 have X:j<(d++[MO.list (jQ (qR f w ws 0 1 "").cps.toList)]).length:=ax▸dO jl
 have a0:((d++[MO.list (jQ (qR f w ws 0 1 "").cps.toList)]).set j (.ei (gA a #[rawInt Ll.line,rawInt Ll.col,.ref B]) j)).length=d.length+1:=by refine af bH (af ax ?_);rfl
 refine je (ao (Xg (st:=d.length+1) (k:=d.length) (j:=j) (j0:=j) (tps:= #[rawInt Ll.line,rawInt Ll.col,.ref B]) x ((((g0.pure.trans g4).trans g5).trans g6).drop (Y:= .no) (λa G=> .inr (hp a (gU a G))) (λa z=>by exact bw z)) hp a9 b1 P D (g6.jo _ _ S) ?_ trivial rfl k8 k9 ?_ (bj (dO jl))) (λfl s7 h7=>?_) λa a e=>e)
 ·refine af (cj (af bH X)) ?_
  exact bI X
 ·rw[be (af a0 (ai _)),a0,dw]
  rfl
 obtain⟨F7,v,rfl,g7,b3⟩:=h7
 rw[ads jl] at g7
 have b4:=x.go g7
 have h4:bX (wpS (PM C R2 ℓ) (λa a a a=>False) 20) ([gX oX 4].map (cS R2 [] 60 agK FG)) W (d.set j (.ei (gA a v) j)++[.list (jQ (qR f w ws 0 1 "").cps.toList),.ei tC d.length]) (GA Q):=by
  refine aK (ahc (n:=14) hN k8 b0 (aP _ rfl ?_))
  rw[(by refine af ax (af bH ?_);rfl:(d.set j (.ei (gA a v) j)++[MO.list (jQ (qR f w ws 0 1 "").cps.toList),MO.ei tC d.length]).length=d.length+2),aM]
  exact q v
 exact ao (kI (nK (o:=[]) (H:=agK) (L:=FG) (PS:=λa a a a=>False) hR (mz (C:=C) (R:=R2) (ℓ:=ℓ)) (λa a a a a a a a a a a a a a=>ar) (λs e k y=>lz y) 60) g [gX oX 4] W F7 a8 _ s7 _ b3 b4 h4) (λa a h=>h.agz g7 hp) λa a e=>e
end
noncomputable def adY:Arguments:={posonlyargs:=[],args:=[{arg:="i",annotation:=none,pos:=⟨371,19,371,20⟩:Kn},{arg:="j",annotation:=none,pos:=⟨371,22,371,23⟩:Kn}],vararg:=none,kwonlyargs:=[],kw_defaults:=[],kwarg:=none,defaults:=[]}
noncomputable def aaO:PySem.Expr:= .IfExp (.Compare (.Name "high" ⟨371,53,371,57⟩) [.Eq] [.Constant (.int 1) 0 ⟨371,61,371,62⟩] ⟨371,53,371,62⟩) (.BinOp (.Name "side" ⟨371,25,371,29⟩) .Sub (.Call (.Name "abs" ⟨371,32,371,35⟩) [.BinOp (.BinOp (.Name "side" ⟨371,36,371,40⟩) .Sub (.Name "i" ⟨371,43,371,44⟩) ⟨371,36,371,44⟩) .Sub (.Name "j" ⟨371,47,371,48⟩) ⟨371,36,371,48⟩] [] ⟨371,32,371,49⟩) ⟨371,25,371,49⟩) (.Call (.Name "abs" ⟨371,68,371,71⟩) [.BinOp (.Name "i" ⟨371,72,371,73⟩) .Sub (.Name "j" ⟨371,76,371,77⟩) ⟨371,72,371,77⟩] [] ⟨371,68,371,78⟩) ⟨371,25,371,78⟩
noncomputable def FR:Scope:={kind:= .function,names:=[(aa "i",.local),(aa "j",.local),(aa "high",.free),(aa "side",.free),(aa "abs",.globalImplicit)],isGenerator:=false,isCoroutine:=false,more:=[]}
noncomputable def RR:Pos:=⟨371,12,371,78⟩
inductive yB cJ el F o (b:bz):Prop
 |mk as ah os oh ts th (aki:as≠ah) (h1:Vn F o FR [("side",as),("high",ah)] adY aaO) (h2:F.f as=some os) (h3:os.data= .cell (some (.int cJ ts))) (h4:F.f ah=some oh) (h5:oh.data= .cell (some (.int el th)))
noncomputable def acr (x:Int):Int:=if x<0 then-x else x
noncomputable def xB (cJ el i j:Int):Int:=cond (el==1) (cJ-acr (cJ-i-j)) (acr (i-j))
abbrev vd (P:cZ):Prop:=∀lv cJ el i j J (Q:EPost),J[lv]?=some (.ei (yB cJ el) lv)->Q (.int (xB cJ el i j)) J->P.ext e6 [.own lv,.int i,.int j] J Q
noncomputable def LC:ME:= .iD (.cmp (.var 2) [.Eq] [.cst (.int 1)]) (.bin .Sub (.var 3) (.bi .abs [.bin .Sub (.bin .Sub (.var 3) (.var 0)) (.var 1)])) (.bi .abs [.bin .Sub (.var 0) (.var 1)])
theorem ahh:cE R2 60 (eD FR) (gI FR) 0 aaO=LC:=by kernel_rfl
section
variable {C:Cfg} {P:cZ} {ℓ n:Nat} {Z:bk} {J:aZ} {Q:EPost}
theorem Ve (a:∀Q:EPost,Q (.int x) J->aw P n Z J e Q) (q:Q (.int (acr x)) J):aw P (n+1) Z J (.bi .abs [e]) Q:=nV (a _ q)
theorem ag3 (a:Z 0=some (.int i)) (b:Z 1=some (.int j)) (d:Z 2=some (.int el)) (c:Z 3=some (.int cJ)) (q:Q (.int (xB cJ el i j)) J):aw P 6 Z J LC Q:=by
 refine jS (dp (aA d (bx (Br.of (f:=λz=>Q (.int z) J) q (λq=>(pA (eV c) (λQ=>Ve (pA (pA (eV c) (eV a)) (eV b))) _ q)) λq=>?_))))
 ·exact Ve (pA (eV a) (eV b)) q
theorem vals3 (h:iV Z [i,j,k]=some [c,d,e]):Z i=some c/\Z j=some d/\Z k=some e:=by
 have h:(match Z i,iV Z [j,k] with|some c,some cs=>some (c::cs)|_,_=>none)=some [c,d,e]:=h
 induction f:Z i using cO with
 |none=>exact aW (f▸h)
 |some a=>
  rw[f] at h
  refine oE (iV Z [j,k]) (λb=>(aW (b▸h))) λl b=>?_
  ·
   rw[b] at h
   clear f;cases h
   exact(fg rfl ((vals2 b).1) ((vals2 b).2))
theorem Zv (hR:ef C R2) (hl:7<=ℓ):vd (PM C R2 ℓ):=by
 intro lv cJ el i j J Q u q xs H d w L U Z F O s A m z W hA f
 have d:=ab d;subst d
 obtain⟨x1,B⟩:=aq.mp w
 obtain⟨B,D⟩:=aq.mp B
 obtain⟨D,a⟩:=aq.mp D
 refine qk (vals3 f) λv1 v2 v3=>letQ ?_;intro E;refine ir (by rfl) (hY z (by kernel_rfl) x1 v1 λr g=>aG (io.mp g) λG I M=>af M (letQ ?_));intro E;refine dQ (hY z (by kernel_rfl) B v2 λr g=>eY g λt1 N=>af N (letQ ?_)) (by rfl);intro E;refine dQ (hY z (by kernel_rfl) D v3 λr g=>bA g λt2=>eP (letQ ?_)) (by rfl);intro E;refine cz (W.dj.at_ lv G _ I u) λo b e1 e2 e3=>?_
 obtain⟨X,Y,os,oh,ts,th,k,g1,g2,g3,g4,g5⟩:=e3 F (.refl _)
 have R:aw (PM C R2 0) 6 (dV (dU FR) (dV (dU FR) (λa=>none) [(aa "side",.int cJ),(aa "high",.int el)]) [(aa "i",.int i),(aa "j",.int j)]) J LC Q:=ag3 rfl rfl rfl rfl q
 have S:acT F FR [("side",X),("high",Y)]:=by
  refine⟨λx a T=>?_,λx y a e1 e2=>?_,λx a T=>?_⟩
  ·rcases aE.mp T with h|h
   ·cases h;exact fX os _ g2 g3
   ·cases bl.mp h;exact fX oh _ g4 g5
  ·have m2:=mem_of_lookup e2
   rcases aE.mp (mem_of_lookup e1) with h|h
   ·cases h
    rcases aE.mp m2 with h'|h'
    ·injection h' with h';refine af h' ?_;rfl
    ·cases bl.mp h';exact absurd rfl k
   ·cases bl.mp h
    rcases aE.mp m2 with h'|h'
    ·cases h';exact absurd rfl k
    ·cases bl.mp h';rfl
  ·rcases aE.mp T with h|h
   ·injection h with h;subst h;kernel_rfl
   ·cases bl.mp h;kernel_rfl
 obtain⟨fd,sl,c,oc,vs,t,k1,k2⟩:=id g1
 refine y' e1 (af k1 rfl) (ol (ij (AU (cs:=[(aa "i",.int i),(aa "j",.int j)]) (qq hR mz 60) e1 g1 (by kernel_rfl) (λp R=>?_) S (by kernel_rfl) (hA.le (ag hl (cR ..))) W (λfd e1 e2=>(GX (x:=pure [(aa "i",.int i t1),(aa "j",.int j t2)]) e1 e2 λfd=>by kernel_rfl)) ⟨_,_,rfl,⟨_,rfl⟩,_,_,rfl,⟨_,rfl⟩,rfl⟩ (ahh▸R)) λr s4 l=>?_))
 ·rcases aE.mp R with h|h
  ·subst h;exact⟨by kernel_rfl,X,os,_,rfl,g2,g3,ts,rfl⟩
  ·obtain rfl:=bl.mp h;exact⟨by kernel_rfl,Y,oh,_,rfl,g4,g5,th,rfl⟩
 ·induction r using pq with
  |error e=>exact l
  |ok G=>induction G using gj with
   |ret v=>exact l
   |next=>exact l
   |brk=>exact l
   |cont=>exact l
end
noncomputable abbrev Rn:gq:=eD lc.scope
noncomputable abbrev adM:Nat:=gI lc.scope
noncomputable abbrev ah_:gq:=(Bc lc.scope,Rn.2)
noncomputable def ait:PySem.Expr:= .Name "level" ⟨371,4,371,9⟩
noncomputable def aiu:Stmt:= .Assign [ait] (.Lambda adY aaO FR RR) ⟨371,4,371,78⟩
def Vm (a:List (bD×bz)) (F:FZ) (o:Obj) (b:bz):Prop:=Vn F o FR a adY aaO
inductive af7 C U Z F0 qD s0 (O:List bz) (J:aZ) j j0 P cJ el (fl:Flow) u:Prop
 |mk F' aH WA (e:fl= .next) (g:Go C .no F0 qD s0 F' aH (J.set j (.ei (gA P WA) j0)++[.ei (yB cJ el) J.length]) u) (he:bT C ah_ adM U (upd Z 15 (.own J.length)) F' aH u.heap):af7 C U Z F0 qD s0 O J j j0 P cJ el fl u
section
variable {C:Cfg} {F:FZ} {O:List bz} {J:aZ} {s:aN} {A:bU} {U:pB} {ℓ m:Nat} {Z:bk}
theorem PT (h:U.cells.lookup (aa "high")=some a) (c:U.cells.lookup (aa "side")=some b):sd FR U=pure [(aa "side",b),(aa "high",a)]:=by
 unfold sd FR
 simp only[ju,HN,cellOf,h,c]
 rfl
theorem AX (d:bT C H L U Z F O s.heap) (l:H.2.lookup x=some i) (g:H.1.names.lookup x=some .cell) (h:Z i=some c):∃a o v,U.cells.lookup x=some a/\s.heap.get? a=some o/\o.data= .cell (some v)/\Rep F O c v/\a∉C.tabs/\a∉O:=by
 refine aG (d.ok.vars x i _ l h) λv j r=>?_
 have f:U.kindOf x=some .cell:=by
  rcases d.kd x with e|⟨e,a⟩
  ·exact e.trans g
  ·cases g.symm.trans e
 unfold kL at j
 refine cps λy n=>?_
 obtain⟨a,k,o,q,t⟩:=f▸j
 exact qk (d.ok.cell _ _ (mem_of_lookup k)) λb u w=>n (aiK a o v k q t r u w)
theorem aat:lF (.Lambda adY aaO FR RR) (some ait) l U=pure false:=by rfl
theorem Xi (hR:ef C R2) {j j0} {c P} {tps} {F0} {qD} {R} {s0} {cJ el} (S:Nw C F0 qD R s0) (g0:Go C .no F0 qD s0 F O J s) (T:∀a∈(dX U).a,s0.heap.objs.size<=a) (N:bT C Rn adM U Z F O s.heap) (t:Nw C F O J s) (hA:bQ (1+m+ℓ) A)
  (hc:U.code= .ref c) (hK:zl C c P) (W:O[j]?=some P) (hj:J[j]?=some (.ei (gA P tps) j0)) (ht:Kl tps.toList) (a0:Kj RR tps.toList=none) (x:Z 24=some (.int el)) (y:Z 25=some (.int cJ)):
  aD (aI C.prog C.w) A (exec aiu U) (af7 C U Z F0 qD s0 O J j j0 P cJ el) a_ s:=by
 have kS:Rn.1.names.lookup (aa "side")=some .cell:=by kernel_rfl
 have kH:Rn.1.names.lookup (aa "high")=some .cell:=by kernel_rfl
 have iS:Rn.2.lookup (aa "side")=some 25:=by kernel_rfl
 have iH:Rn.2.lookup (aa "high")=some 24:=by kernel_rfl
 refine letQ ?_;intro Q_;refine nH (AX N iS kS y) λk a a has a=>nH (AX N iH kH x) λl a a g a=>ao (Hg (n:=60) (Q:=λfc a3 τ=>fc= .next/\a3=upd Z 15 (.own J.length)/\∃i,τ=J.set j (.ei (gA P i) j0)++[.ei (Vm [(aa "side",k),(aa "high",l)]) J.length]) hR (qq hR mz) (by rw[<-ej];exact hA) aat (by kernel_rfl) N t ?_) (λr u h=>?_) λa a e=>e
 ·refine letQ ?_;intro Q_;refine ao (Cp t N.ok.glob hc hK W hj rfl ht a0 (PT g has)) (λv s1 h1=>?_) λa a e=>e
  obtain⟨F1,a4,r,fd,c1,a5,a6,t1,g1,rfl,hn,hf,ho,b2,b3,b4,b5,b6,b7,b8,d1,d2,d3,d4,a⟩:=h1
  have a7:r∉O:=λh=>bG _ (av (t.dj.fr _ h).2.2 hn)
  have f:(O++[r])[J.length]?=some r:=by
   rw[<-t.dj.len,be (ai _),dw];rfl
  have g2:=Go.own (mo:= .ei (Vm [(aa "side",k),(aa "high",l)]) J.length) g1 hn hf a7 (λh=>bG _ (av (t.base.lt _ h) hn)) (aU ho) (eA _ r ho f (λF' z=> .mk fd #[] c1 a5 a6 t1 rfl b2 b3 b4 b5 b6 b7 b8 d1 (z.2 _ _ d2) d3 d4))
  exact⟨_,_,_,.own J.length,g2,io.mpr (aP r f rfl),cU ⟨rfl,rfl,a4,rfl⟩⟩
 ·obtain⟨F2,jy,b9,c0,fc,g2,d,r2,rfl,rfl,i,rfl⟩:=h
  refine af r2 (afY (AX d iS kS y) λc2 os vs B D E rs a a8=>?_)
  obtain rfl:=ab (has.symm.trans B)
  refine afY (AX d iH kH x) λc3 oh vh G H I rh a a9=>?_
  obtain rfl:=ab (g.symm.trans G)
  obtain⟨ts,rfl⟩:=cw.mp rs
  obtain⟨th,rfl⟩:=cw.mp rh
  have L:k≠l:=λe=>by
   have:=d.ok.inj _ _ _ has (e▸g)
   exact absurd this (by decide)
  have ms:=mem_of_lookup has
  have mh:=mem_of_lookup g
  have fs:=d.cF _ _ ms kS
  have fh:=xO (o:=os) (d.cF _ _ mh kH) L.symm
  have g4:=(((g0.pure.trans g2).drop (Y:= .no) (λa W=> .inr (T a (gU a W))) λa=>bw).Pe (T k (aB _ (bO.mpr (aP _ ms rfl)))) fs a8 D).Pe (T l (aB _ (bO.mpr (aP _ mh rfl)))) fh a9 H
  have q:=S.go g4
  have l4:=FZ.pZ (o:=oh) fh
  obtain⟨mL,M⟩:=d.ok.ns
  have b0:J.length<jy.length:=(by refine af q.dj.len (af ax (af bH ?_));rfl:jy.length=J.length+1)▸cH _
  have f:=aF b0
  have b1:(J.set j (.ei (gA P i) j0)++[MO.ei (Vm [(aa "side",k),(aa "high",l)]) J.length])[J.length]?=some (.ei (Vm [(aa "side",k),(aa "high",l)]) J.length):=by
   rw[be (af bH (ai _)),bH,dw];rfl
  refine cz (q.dj.at_ _ _ _ f b1) λo b e1 e2 e3=>?_
  have g5:=Go.oP (X:= .no) q f (m:= .ei (yB cJ el) J.length) (λa a a e=>e) (ai _) (eA o b e1 e2 (λF' z=> .mk k l os oh ts th L (e3 F' z) (z.2 _ _ (l4.2 _ _ FZ.jd)) E (z.2 _ _ FZ.jd) I)) (ai _)
  rw[fB _ _ (af bH (ai _)),bH,dw] at g5
  exact⟨_,jy,i,rfl,g4.trans g5,(bT.rest d ((FZ.pZ fs).trans l4) (xO (xO d.ok.Ca (yV M D E)) (yV M H I)))⟩
end
abbrev Mo (P:cZ):Prop:=∀t d pb st ln ps a l J (Q:EPost),nL ps->Lx J t d pb ln st->J[pb]?=some (.list [])->l.length<=30->Q (.str (oO ps (a::l))) J->P.eK 330 [.own t,.str (jZ (a::l)),.lst (sC ps)] [] J Q
theorem VK (h:PF C) (d:afm C) (e:84<=ℓ):Mo (PM C R2 ℓ):=λa a a a a a a a a a c f g i q=>
 jk h.rd YC h.turned (m:=11) 72 (av (by decide) e) rfl λb=>KD (ac9 h (by decide)) (agq h.rd d (by decide)) (Ni h (ai _)) c f g b i q
structure Hd where
 four:Int
 el:Int
 abn:Int
 qz:Int
 less:Int
 first:Int
 og:List (Int×Int)
 ps:List bD
noncomputable def yw (a b c d:Int):Hd:=⟨(a.fdiv 1).fmod 2,(a.fdiv 2).fmod 2,(a.fdiv 4).fmod 48,(a.fdiv 192).fmod 32,(a.fdiv 6144).fmod 4,(a.fdiv 24576).fmod 4,uX b++uX c,agT d⟩
noncomputable def qZ:Str:="\"\\ \n#\t()a"
structure Mw (Z:bk) (h:Hd):Prop where
 ahA:Z 24=some (.int h.el)
 e2:Z 2=some (.int h.abn)
 e3:Z 3=some (.int h.qz)
 e5:Z 5=some (.int h.first)
 e6:Z 6=some (.lst (pC h.og))
 e7:Z 7=some (.lst (sC h.ps))
 e8:Z 8=some (.int (1+h.less))
 e9:Z 9=some (.str qZ)
 Pu:Z 25=some (.int (3+h.four))
section
variable {P:cZ} {PS:dZ} {n:Nat} {Z:bk} {J:aZ} {K:fA}
theorem ad_ (g:EJ P) (h:Z 0=some (.lst (iC f))) (i:f.length<=1000) (q:∀a b c d e,Mw e (yw a b c d)->bX (wpS P PS (n+6)) rest e J K):bX (wpS P PS (n+6)) (jc fD 0::jc fD 1::rest) Z J K:=by
 refine aK (gK (lU (mL (aA h (jh (g f J _ i λa b c d=>(fg rfl rfl (aK (gK (Ay (mu eI (eV rfl) _ (mu eI (eV rfl) _ (bx ⟨pv,Ce (mK ?_)⟩)))))))))))))
 exact q a b c d _ ⟨rfl,rfl,rfl,rfl,rfl,rfl,rfl,rfl,rfl⟩
noncomputable def c_:List Nat:=[34,92,32,10,35,9,40,41,97]
noncomputable def EP (four face:Int):Nat:=c_.getD (face.fmod ((3+four-1)^2)).toNat 0
theorem WX:∀k,k<9->qZ.cps[k]?=some (c_.getD k 0):=by decide
theorem Zk (e:four=0\/four=1) (i:Z 9=some (.str qZ)) (b:Z 25=some (.int (3+four))) (d:Z 27=some (.int face)):∀Q:EPost,Q (.str (cA (EP four face))) J->
  aw P (n+5) Z J (.idx (.var 9) (.bin .Mod (.var 27) (.bin .Pow (.bin .Sub (.var 25) (.cst (.int (1)))) (.cst (.int (2)))))) Q:=λQ q=>by
 have l:(0:Int)<=2/\(nA (3+four-1):Int)*2<=2^27:=by rcases e with rfl|rfl<;>exact⟨by decide,by decide⟩
 have f:0<(3+four-1)^(2:Int).toNat/\(3+four-1)^(2:Int).toNat<=9:=by rcases e with rfl|rfl<;>exact⟨by decide,by decide⟩
 have a:0<(3+four-1)^2/\(3+four-1)^2<=9:=f
 have m:0<=face.fmod ((3+four-1)^2):=(cy _ (iY a.1))▸Ep _ (MQ a.1)
 obtain⟨k,g⟩:=ey m
 have h:k<9:=eH.mp (g▸((cy _ (iY a.1))▸zN (zO _ a.1) a.2))
 refine iG (aA i (eU (aA d (eU (pA (eV b) eI _ (bx (fg l (MQ f.1) ?_)))))))
 show atC (.int (face.fmod ((3+four-1)^2))) 9 (λj=>qZ.cps[j]?) λc=>Q (.str ⟨#[c]⟩) J
 unfold EP at q
 rw[g] at q ⊢
 exact⟨⟨by omega,by omega⟩,k,_,jg h,WX k h,q⟩
end
noncomputable def jw (h:Hd):List Nat:=h.og.map λp=>EP h.four p.1
noncomputable def jX (h:Hd):List Int:=h.og.map λp=>p.2
noncomputable def gH (h:Hd):Str:=qR h.first (λi=>(jX h).getD i 0) (jw h) 0 1 ""
section
variable {P:cZ} {PS:dZ} {n:Nat} {Z:bk} {J:aZ} {K:fA}
theorem aeN (h:∀p Q,Q (f p) J->aw P n (upd (upd Z 27 (.int p.1)) 28 (.int p.2)) J a Q):∀l:List (Int×Int),Tx P n Z J (.tup [.var 27,.var 28]) a (pC l) (l.map f):=by
 intro l
 induction l with
 |nil=>
  exact trivial
 |cons p l b=>
  exact⟨λQ q=>ip (cU (cU (h p Q q))),b⟩
theorem JY (b:Z 6=some (.lst (pC l))) (d:l.length<=1000) (h:∀p Q,Q (f p) J->aw P (n+1) (upd (upd Z 27 (.int p.1)) 28 (.int p.2)) J a Q):∀Q:EPost,Q (.lst (l.map f)) J->aw P (n+2) Z J (.comp a [.mk (.tup [.var 27,.var 28]) (.val (.var 6)) []]) Q:=λQ q=>
 nJ (λQ q=>by
  show aw P (n+1) Z J (.var 6) (λc τ=>∃l,sS τ c=some l/\Q l (uF τ c) τ)
  exact aA b (aP _ rfl q)) trivial rfl (aeN h l) (by rw[pC,aC];exact d) q
theorem ahb (a:Mw Z h) (b:h.four=0\/h.four=1) (d:h.og.length<=1000) (q:bX (wpS P PS (n+8)) rest (upd Z 11 (.lst (jQ (jw h)))) J K):bX (wpS P PS (n+8)) (jc fD 2::rest) Z J K:=by
 have e:h.og.map (λp=>CV.str (cA (EP h.four p.1)))=jQ (jw h):=by
  show _=(h.og.map λp=>EP h.four p.1).map λc=>CV.str (cA c)
  refine af fW ?_;rfl
 refine sA (λQ q=>JY a.e6 d (λp Q=>Zk b (by exact a.e9) (by exact a.Pu) rfl Q) Q (e▸q)) q
theorem Mw.up (a:Mw Z h) {c} {i} (b:i=11\/i=12\/i=13):Mw (upd Z i c) h:=by
 rcases b with rfl|rfl|rfl<;>exact⟨a.ahA,a.e2,a.e3,a.e5,a.e6,a.e7,a.e8,a.e9,a.Pu⟩
theorem aha (e:Vl P T) (b:Mw Z h) (a:Z 11=some (.lst (jQ (jw h)))) (c:h.og.length<=100) (f:J[j]?=some (.ei (gA T #[]) j))
  (q:∀tps,bX (wpS P PS (n+8)) rest (upd (upd Z 12 (.own (J.length+2))) 13 (.int (1+endsF (gH h)))) (LH J j T tps (gH h)) K):bX (wpS P PS (n+8)) (jc fD 3::rest) Z J K:=by
 refine aK (gK (lU (mL (aA a (mL (JY b.e6 (ag c (by decide)) (λp Q=>aA rfl) _ (mL (aA b.e5 (jh (af ((by unfold jX iC;refine af fW ?_;rfl:h.og.map (λp=>CV.int p.2)=iC (jX h))) (e (jw h) (jX h) h.first (λi=>(jX h).getD i 0) j J _ f (λi d=>?_) (by rw[jw,aC];exact c) λtps=>ip (cU (cU (mK (q tps)))))))))))))))
 refine af dD (af (aF (by rw[jX,aC];rw[jw,aC] at d;exact d)) ?_)
 rfl
end
noncomputable def lZ:Nat->List Nat->Int->List bD×Int×List Nat
 |0,l,ln=>([],ln,l)
 |n+1,l,ln=>((jn l ln).1::(lZ n (jn l ln).2.2.1 (jn l ln).2.1).1,(lZ n (jn l ln).2.2.1 (jn l ln).2.1).2)
theorem Fx:∀n l ln tok,l.length<=n->(Fy g l ln tok).2.2.1.length<=l.length:=by
 intro n
 induction n with
 |zero=>intro l ln tok h;induction l using cL with|nil=>exact ai _|cons c l=>cases h
 |succ n b=>
  intro l ln tok h
  induction l using cL with
  |nil=>exact ai _
  |cons c l=>
   have h:l.length<=n:=pk h
   refine af pJ ?_
   induction g c using cB with
   |true=>exact aQ _
   |false=>
    induction c==92 using cB with
    |true=>
     induction l using cL with
     |nil=>exact dY _
     |cons a l=>exact ag (b l _ _ (iN h)) (ba _ 2)
    |false=>exact ag (b l _ _ h) (aQ _)
theorem Fu:∀l ln,(jn l ln).2.2.1.length<=l.length:=by
 intro l
 induction l with
 |nil=>exact λa=>ai _
 |cons c l b=>
  refine λln=>af xv ?_
  induction uw c using cB with
  |true=>exact ag (b _) (aQ _)
  |false=>
   induction c==34 using cB with
   |true=>exact ag (Fx _ l _ _ (ai _)) (aQ _)
   |false=>
    induction c==92 using cB with
    |true=>
     clear b;induction l using cL with
     |nil=>exact dY _
     |cons a l=>exact ag (Fx _ l _ _ (ai _)) (ba _ 2)
    |false=>exact ag (Fx _ l _ _ (ai _)) (aQ _)
section
variable {P:cZ} {PS:dZ} {n t d k pb st v:Nat} {Z:bk} {J:aZ}
theorem KH (a:Hi P) (hi:Z i=some (.own t)) (h:gM J t d k pb st) (b:J[pb]?=some (.list [])) (c:l.length<=900):∀Q:EPost,Q (.str (jn l ln).1) (cp J d k pb st (jn l ln).2.1 (jn l ln).2.2.1)->aw P (n+2) Z (cp J d k pb st ln l) (.gJ 139 129 (aa "get_token") (.var i) [] [] []) Q:=λQ q=>
 mV (aA hi ⟨hJ (jf h).hi (jf h).hd rfl,jh (jh (a t d k pb st ln l J _ h b c q))⟩)
theorem toks {K} (g:Hi P) (j:∀c,upd Z v c i=some (.own t)) (h:gM J t d k pb st) (m:J[pb]?=some (.list [])):∀items a l ln,l.length<=900->a.length+items.length<=800->
  K (a++sC (lZ items.length l ln).1) (cp J d k pb st (lZ items.length l ln).2.1 (lZ items.length l ln).2.2)->
  gD ke (λc a J Q=>du (aw P (n+2)) (.var v) c Z J (λZ J=>lI (T Z) [] J (λb J=>Br b (gE (aw P (n+2)) T I (.gJ 139 129 (aa "get_token") (.var i) [] [] []) [] Z a J Q) (Q a J)))) items a (cp J d k pb st ln l) K:=by
 intro items
 induction items with
 |nil=>
  intro a l ln _ _ q
  have q:K (a++[]) (cp J d k pb st ln l):=q
  rw[bK] at q
  exact⟨trivial,q⟩
 |cons c items o=>
  intro a l ln e f q
  rw[bS] at f
  refine⟨trivial,cU (Br.t (KH g (j c) h m e _ ⟨dK (zT zP (zT f (by decide))),(o (a++[.str (jn l ln).1]) _ _ (ag (Fu l ln) e) (by refine af ax (af b_ ?_);lia) ?_)⟩))⟩
  rw[aM]
  exact q
end
section
variable {P:cZ} {PS:dZ} {n t d k pb st:Nat} {Z:bk} {J:aZ} {K:fA}
theorem ag1 (h:Q none τ):QR (aw P n) Z τ none Q:=h
theorem ag_ (w:Hi P) (a:Z 11=some (.lst (jQ [u,e,g,i,j,m,o,x]))) (s:Z 12=some (.own t)) (h:gM J t d k pb st) (y:J[pb]?=some (.list [])) (z:l.length<=900)
  (A:(lZ 7 l ln).1=[cA u,cA e,cA g,cA i,cA j,cA m,cA o]) (q:bX (wpS P PS (n+8)) rest Z (cp J d k pb st (lZ 7 l ln).2.1 (lZ 7 l ln).2.2) K):bX (wpS P PS (n+8)) (jc fD 4::rest) Z (cp J d k pb st ln l) K:=by
 refine aK (fM (dp (qj (uL (q_ (aA a (mO (bx ⟨_,_,rfl,rfl,dK (by show 8<=1000;decide),_,rfl,(toks w (λc=>(cG _ _ (by decide)).trans s) h y (jQ [e,g,i,j,m,o,x]) [] l ln z (by show 0+7<=800;decide) ?_)⟩))))))))
 show aw P (n+7) Z (cp J d k pb st (lZ 7 l ln).2.1 (lZ 7 l ln).2.2) ((ME.var 11).pu none (some (ME.cst (CV.int 7)))) (λb τ=>wL CmpOp.NotEq (eC τ (CV.lst ([]++sC (lZ 7 l ln).1))) (eC τ b) λr=>_)
 rw[A]
 refine q_ (aA a (ag1 (mO (bx (oW _ _ rfl rfl (dK (by show 8<=1000;decide)) ?_)))))
 have v:=xK [cA u,cA e,cA g,cA i,cA j,cA m,cA o]
 exact⟨v.1,(af v.2 (Br.f (bY (mK q))))⟩
end
section
variable {J:aZ} {j:Nat} {T:bz} {tps:Array bq} {x:bD}
end
section
variable {P:cZ} {PS:dZ} {n:Nat} {Z:bk} {J:aZ}
theorem aaI {Q:EPost} (h:Z i=some c) (b:Z j=some d) (a:Z l=some e) (q:P.ext k [c,d,e] J Q):aw P (n+1) Z J (.ext k [i,j,l]) Q:=by
 have f:iV Z [i,j,l]=some [c,d,e]:=by
  unfold iV
  rw[h]
  unfold iV
  rw[b]
  unfold iV
  rw[a]
  rfl
 show match iV Z [i,j,l] with|some cs=>P.ext k cs J Q|none=>False
 exact af f q
noncomputable def abm (cJ el a:Int) (i j:Nat):Int:=a+16*xB cJ el (i:Nat) (j:Nat)
noncomputable def LG:ME:= .eK 310 [(.bin .Add (.var 2) (.bin .Mult (.cst (.int (16))) (.ext e6 [15,27,29]))),(.bin .Mod (.bin .Add (.var 27) (.var 29)) (.cst (.int (2)))),(.var 3),(.var 8)]
theorem Xm {x:Lt} (h:vd P) (k:rj P) (l:Z 2=some (.int e)) (m:Z 3=some (.int b)) (o:Z 8=some (.int a)) (f:Z 15=some (.own lv)) (c:Z 27=some (.int (i:Nat))) (d:Z 29=some (.int (j:Nat)))
  (g:J[lv]?=some (.ei (yB cJ el) lv)) (r:a.natAbs<2^63) (s:b.natAbs<2^63) (t:qY (abm cJ el e i j) (((i:Nat)+(j:Nat):Int).fmod 2) b a=some x):∀Q:EPost,Q (fU x) J->aw P (n+5) Z J LG Q:=λQ q=>
 lU (mL (mu (eV l) (Pp (.inl (by decide)) eI (λQ q=>aaI f c d (h lv cJ el i j J Q g q))) _ (mL (DG (by decide) (mu (eV c) (eV d)) _ (mL (aA m (mL (aA o (jh (k _ _ _ _ x J Q r s t q))))))))))
def BX (cJ el c b a:Int) (i:Nat) (d:List Lt):Prop:=∀(j:Nat) x,d[j]?=some x->qY (abm cJ el c i j) (((i:Nat)+(j:Nat):Int).fmod 2) b a=some x
theorem abI (o:vd P) (r:rj P) (s:Z 2=some (.int f)) (t:Z 3=some (.int d)) (u:Z 8=some (.int b)) (g:Z 15=some (.own lv)) (l:Z 27=some (.int (i:Nat))) (m:J[lv]?=some (.ei (yB cJ el) lv)) (v:b.natAbs<2^63) (w:d.natAbs<2^63):
  ∀(c:List Lt) a,(∀(j:Nat) x,c[j]?=some x->qY (abm cJ el f i (a+j)) (((i:Nat)+((a+j:Nat):Int):Int).fmod 2) d b=some x)->Tx P (n+5) Z J (.var 29) LG ((bp a c.length).map λk=> .int (k:Nat)) (c.map fU):=by
 intro c
 induction c with
 |nil=>exact λa a=>trivial
 |cons x c z=>
  refine λa h=>⟨λQ q=>cU (Xm o r (by exact s) (by exact t) (by exact u) (by exact g) (by exact l) rfl m v w (h 0 x rfl) Q q),z (a+1) λj y e=>?_⟩
  have:=h (j+1) y e
  exact af (show a+1+j=a+j+1 by grind-abstractProof only) this
noncomputable def afB:ME:= .new (.comp LG [.mk (.var 29) (.range [.bin .Add (.var 25) (.cst (.int (1)))]) []])
theorem adB (r:vd P) (s:rj P) (t:Z 2=some (.int g)) (u:Z 3=some (.int b)) (v:Z 8=some (.int a)) (h:Z 15=some (.own lv)) (k:Z 25=some (.int cJ)) (l:Z 27=some (.int (i:Nat))) (o:J[lv]?=some (.ei (yB cJ el) lv)) (w:a.natAbs<2^63) (y:b.natAbs<2^63)
  (z:cJ+1=(m:Nat)) (d:m<100) (f:c.length=m) (A:BX cJ el g b a i c):∀Q:EPost,Q (.own J.length) (J++[.list (c.map fU)])->aw P (n+7) Z J afB Q:=λQ q=>by
 refine Az (nJ (λQ q=>mi (λQ q=>mu (eV k) eI Q (z▸q)) (zA d (by decide)) q) trivial rfl (af iA (eh f (abI r s t u v h l o w y c 0 λj x e=>?_))) (by rw[aC,jL];exact zT (zL d) (by decide)) q)
 rw[dJ]
 exact A j x e
end
noncomputable abbrev BV (B:List (List Lt)):List MO:=B.map λr=> .list (r.map fU)
section
variable {P:cZ} {PS:dZ} {n:Nat} {Z:bk}
theorem ZX {K} (z:vd P) (A:rj P) (C:Z 2=some (.int l)) (D:Z 3=some (.int h)) (E:Z 8=some (.int f)) (o:Z 15=some (.own lv)) (s:Z 25=some (.int cJ)) (F:f.natAbs<2^63) (G:h.natAbs<2^63)
  (H:cJ+1=(m:Nat)) (u:m<100):∀B a d J,J[lv]?=some (.ei (yB cJ el) lv)->(∀i g,B[i]?=some g->g.length=m/\BX cJ el l h f (a+i) g)->d.length+B.length<=900->
  K (d++(bp J.length B.length).map CV.own) (J++BV B)->
  gD ke (λc d J Q=>du (aw P (n+7)) (.var 27) c Z J (λZ J=>lI (T Z) [] J (λb J=>Br b (gE (aw P (n+7)) T I afB [] Z d J Q) (Q d J)))) ((bp a B.length).map λk=> .int (k:Nat)) d J K:=by
 intro B
 induction B with
 |nil=>
  intro a d J _ _ _ q
  have q:K (d++[]) (J++[]):=q
  rw[bK,bK] at q
  exact⟨trivial,q⟩
 |cons g B L=>
  intro a d J j y v q
  rw[bS] at v
  refine fK (y 0 g rfl) λw x=>⟨trivial,cU (Br.t (adB z A (by exact C) (by exact D) (by exact E) (by exact o) (by exact s) rfl j F G H u w x _ ⟨dK (zT zP (zT v (by decide))),(L (a+1) (d++[.own J.length]) (J++[.list (g.map fU)]) ((cj (aj.mp j).1).trans j) (λi r e=>?_) (by refine af ax (af b_ ?_);exact zI v) ?_)⟩))⟩
  ·have:=y (i+1) r e
   exact af (ou a 1 i) this
  ·rw[aM,aM,ax]
   exact q
theorem ag' {K} (o:vd P) (s:rj P) (t:Z 2=some (.int h)) (u:Z 3=some (.int b)) (v:Z 8=some (.int a)) (j:Z 15=some (.own lv)) (f:Z 25=some (.int cJ)) (w:a.natAbs<2^63) (x:b.natAbs<2^63)
  (l:cJ+1=(m:Nat)) (g:m<100) (k:J[lv]?=some (.ei (yB cJ el) lv)) (c:B.length=m) (y:∀i d,B[i]?=some d->d.length=m/\BX cJ el h b a i d)
  (q:bX (wpS P PS (n+10)) rest (upd Z 16 (.own (J.length+m))) (J++BV B++[.list ((bp J.length m).map CV.own)]) K):bX (wpS P PS (n+10)) (jc fD 6::rest) Z J K:=by
 refine ZW (λQ q=>Az (qj (mi (λQ q=>mu (eV f) eI Q (l▸q)) (zA g (by decide)) (af iA (eh c (ZX o s t u v j f w x l g B 0 [] J k (λi r e=>by rw[dJ];exact y i r e) (by show 0+B.length<=900;lia) ?_)))))) q
 show Q (.own (J++BV B).length) (J++BV B++[.list ((bp J.length B.length).map CV.own)])
 rw[ax,aC,c]
 exact q
end
noncomputable def iL (A:aZ) (B:List (List Lt)):aZ:=A++BV B++[.list ((bp A.length B.length).map CV.own)]
section
variable {A:aZ} {B:List (List Lt)}
theorem ack (h:B[i]?=some a):(iL A B)[A.length+i]?=some (.list (a.map fU)):=by
 unfold iL
 rw[cj (by rw[ax,aC];exact iU ((aj.mp h).1) _),be (ba _ _),ed,dh,h]
 rfl
theorem ahI:(iL A B)[A.length+B.length]?=some (.list ((bp A.length B.length).map CV.own)):=by
 unfold iL
 rw[(by rw[ax,aC]:A.length+B.length=(A++BV B).length),be (ai _),dw]
 rfl
theorem U':Bd (iL A B) (A.length+B.length) (bp A.length B.length) B:=by
 refine⟨ahI,eM,λi r d b c=>?_,λi j r b c=>?_,λi r h=>?_⟩
 ·obtain⟨a,e⟩:=aj.mp b
  rw[jV,oL] at e
  exact eh e (ack c)
 ·obtain⟨a,e1⟩:=aj.mp b
  obtain⟨f,e2⟩:=aj.mp c
  rw[jV,oL] at e1 e2
  exact jU (e1.trans e2.symm)
 ·obtain⟨a,e1⟩:=aj.mp h
  rw[eM] at a
  rw[jV,oL] at e1
  exact λe=>absurd (jU (e1.trans e)) (bj a)
theorem Mi (h:i<B.length):(bp A.length B.length)[i]?=some (A.length+i):=by
 rw[aF (eM▸h),jV,oL]
theorem acj (h:i<B.length):(iL A B).set (A.length+i) (.list (a.map fU))=iL A (B.set i a):=by
 unfold iL
 rw[eZ _ _ (by rw[ax,aC];exact iU h _),fB _ _ (ba _ _),ed,bH]
 congr 2
 exact rr.symm
end
inductive Bi qz spread (B:List (List Lt)) i j B':Prop
 |mk rm row rp x a0 a1 a2 a3 (akh:B[i]?=some rm) (akd:B[i+1]?=some row) (akg:B[i+2]?=some rp) (hx:row[j+1]?=some x) (h0:rm[j+1]?=some a0) (h1:row[j]?=some a1) (h2:row[j+2]?=some a2) (h3:rp[j+1]?=some a3)
  (hA:others a0 a1 a2 a3=true->∃y,zb ((((i+1:Nat):Int)+(j+1:Nat)).fmod 2==1) qz spread x a0=some y/\B'=B.set (i+1) (row.set (j+1) y)) (hN:others a0 a1 a2 a3=false->B'=B)
abbrev CL (P:cZ):Prop:=∀A B c i j b a (Q:EPost),Bi b a B i j c->i<900->j<900->a.natAbs<2^63->b.natAbs<2^63->Q .none (iL A c)->P.eK 315 [.own (A.length+B.length),.int (i+1:Nat),.int (j+1:Nat),.int b,.int a] [] (iL A B) Q
theorem Yq (h:PF C) (k:96<=ℓ):CL (PM C R2 ℓ):=by
 intro A B H i j f d Q u v w z D q
 obtain⟨I,E,J,x,L,M,N,O,b,a,c,F,l,m,n,o,r,s⟩:=u
 have t:=(aj.mp a).1
 refine adf h k U' (Mi t) a F v w (Mi ((aj.mp b).1)) b (Mi ((aj.mp c).1)) c l m n o z D (λe=>?_) λe=>s e▸q
 refine aG (r e) λy G g=>?_;clear e s r o n m l c b k h;subst g
 exact(aP y G (acj t▸q))
def ud (b a:Int) (s1:Nat):List Nat->List (List Lt)->List (List Lt)->Prop
 |[],B,c=>c=B
 |k::e,B,c=>∃d,d.length=B.length/\Bi b a B (k/s1) (k%s1) d/\ud b a s1 e d c
theorem XS:∀k,k<9->d_ qZ (cA (c_.getD k 0)) 0 qZ.length 1=[k]:=by decide+kernel
section
variable {P:cZ} {PS:dZ} {n:Nat} {Z:bk} {J:aZ}
theorem JD (b:k<9) (c:Z 9=some (.str qZ)) (a:Z 14=some (.str (cA (c_.getD k 0)))):∀Q:EPost,Q (.int (k:Nat)) J->aw P (n+2) Z J (.kB .index (.var 9) [(.var 14)]) Q:=λQ q=>
 lB (λQ q=>aA c q) (λQ q=>mL (aA a (jh q))) ⟨_,rfl,k,[],XS k b,q⟩
theorem Pz {cJ:Int} (b:0<s1) (c:s1<100) (d:cJ-1=(s1:Nat)) (a:Z 25=some (.int cJ)) (f:∀Q:EPost,Q (.int (k:Nat)) J->aw P (n+2) Z J e Q):∀Q:EPost,Q (.int ((k/s1+1:Nat):Int)) J->aw P (n+4) Z J (.bin .Add (.cst (.int (1))) (.bin .FloorDiv e (.bin .Sub (.var 25) (.cst (.int (1)))))) Q:=λQ q=>by
 refine mu eI (λQ q=>eU (f _ (pA (eV a) eI _ (af d (⟨⟨jM.mpr (bZ b),zA c (by decide)⟩,(af (mM _ (cQ _):(k:Int).fdiv s1=((k/s1:Nat):Int)) q)⟩))))) Q ?_
 ·exact af (iZ 1 _) q
theorem Ot {cJ:Int} (b:0<s1) (c:cJ-1=(s1:Nat)) (a:Z 25=some (.int cJ)) (d:∀Q:EPost,Q (.int (k:Nat)) J->aw P (n+2) Z J e Q):∀Q:EPost,Q (.int ((k%s1+1:Nat):Int)) J->aw P (n+4) Z J (.bin .Add (.cst (.int (1))) (.bin .Mod e (.bin .Sub (.var 25) (.cst (.int (1)))))) Q:=λQ q=>by
 refine mu eI (λQ q=>eU (d _ (pA (eV a) eI _ (af c (⟨jM.mpr (bZ b),(af (cy _ (cQ _):(k:Int).fmod s1=((k%s1:Nat):Int)) q)⟩))))) Q ?_
 ·exact af (iZ 1 _) q
end
section
variable {P:cZ} {PS:dZ} {n:Nat}
theorem RX {c b cJ:Int} {K} (E:CL P) (x:0<s1) (F:s1<100) (h:cJ-1=(s1:Nat)) (G:b.natAbs<2^63) (H:c.natAbs<2^63):
  ∀f B Z,Z 3=some (.int c)->Z 8=some (.int b)->Z 9=some (.str qZ)->Z 25=some (.int cJ)->Z 16=some (.own (A.length+B.length))->(∀k∈f,k<9)->ud c b s1 f B I->(∀d:bk,(∀v,v≠14->d v=Z v)->K .next d (iL A I))->
  eO ke (iX P PS (n+10) (jc fD 7)) (f.map λk=> .str (cA (c_.getD k 0))) Z (iL A B) K:=by
 intro f
 induction f with
 |nil=>
  exact λB Z i i i i i i o q=>eh o ⟨trivial,q Z λa a=>rfl⟩
 |cons k f J=>
  refine λB Z y z r g j C o q=>oH o λs t u w=>?_
  have m:=C k az
  have next:∀d:bk,(∀v,v≠14->d v=Z v)->eO ke (iX P PS (n+10) (jc fD 7)) (f.map λk=> .str (cA (c_.getD k 0))) d (iL A s) K:=λd e=>J s d ((e 3 (by decide)).trans y) ((e 8 (by decide)).trans z) ((e 9 (by decide)).trans r) ((e 25 (by decide)).trans g) (t▸(e 16 (by decide)).trans j) (λk L=>C k (aB _ L)) w λl M=>q l λv D=>(M v D).trans (e v D)
  exact⟨trivial,cU (aK (uK (lU (mL (aA j (mL (Pz x F h (by exact g) (JD m (by exact r) rfl) _ (mL (Ot x h (by exact g) (JD m (by exact r) rfl) _ (mL (aA y (mL (aA z (jh (E A B s (k/s1) (k%s1) c b _ u (bP (qN ..) (zA m (by decide))) (bP (TM ..) (zA m (by decide))) G H (mK (bY (next _ λv=>cG _ _))))))))))))))))))⟩
end
section
variable {P:cZ} {PS:dZ} {n:Nat} {Z:bk}
theorem ag9 {b a cJ:Int} {K} (t:CL P) (u:0<s1) (w:s1<100) (d:cJ-1=(s1:Nat)) (x:a.natAbs<2^63) (y:b.natAbs<2^63)
 (z:Z 3=some (.int b)) (C:Z 8=some (.int a)) (D:Z 9=some (.str qZ)) (f:Z 25=some (.int cJ)) (g:Z 16=some (.own (A.length+B.length))) (h:Z 11=some (.lst (jQ [c_.getD i 0,c_.getD j 0,c_.getD l 0,c_.getD m 0,c_.getD o 0,c_.getD r 0,c_.getD s 0,H])))
 (E:∀k∈[i,j,l,m,o,r,s],k<9) (F:ud b a s1 [i,j,l,m,o,r,s] B G) (q:∀c:bk,(∀v,v≠14->c v=Z v)->bX (wpS P PS (n+11)) rest c (iL A G) K):bX (wpS P PS (n+11)) (jc fD 7::rest) Z (iL A B) K:=aK (lS (q_ (aA h (ag1 (mO (bx ⟨_,_,rfl,rfl,dK (by show 8<=1000;decide),_,rfl,(RX t u w d x y [i,j,l,m,o,r,s] B Z z C D f g E F λc e=>mK (q c e))⟩))))))
end
inductive rU a B ps s G7:Prop
 |mk m0 ms (hC:zo B (bp a B.length) s G7) (hX:rY G7 ps s) (ajS:nL ps) (hs:s<6) (ajT:∀p,p<s*s->mR (oU (sY p))=true) (hf:∀i j,i<s->j<s->wF (qH G7 ps s i (bp 0 s)) (sY (i*s+j))=some (px G7 ps s i j)) (hm:oa B=(m0::ms).map .int) (hn:(oa B).length<=1000) (h0:0<=m0) (h1:∀y∈ms,0<=y)
abbrev Mr (P:cZ):Prop:=∀A B ps s G7 (Q:EPost),rU A.length B ps s G7->Q (lY (kF G7 ps s)) (iL A B)->P.eK 320 [.own (A.length+B.length),.int (s:Nat),.lst (sC ps)] [] (iL A B) Q
theorem Rp (c:ef C R2) (d:PF C) (h:PH C) (e:90<=ℓ):Mr (PM C R2 ℓ):=λA B ps s G7 Q ⟨m0,o,f,g,a,i,b,j,k,l,m,n⟩ q=>
 Zs c d h e U' f g a i b j k l m n q
section
variable {P:cZ} {PS:dZ} {n:Nat} {Z:bk}
theorem aaY {K} (c:Mr P) (d:rU A.length B ps s G7) (a:Z 16=some (.own (A.length+B.length))) (b:Z 25=some (.int (s:Nat))) (e:Z 7=some (.lst (sC ps)))
  (q:bX (wpS P PS (n+3)) rest (upd Z v (lY (kF G7 ps s))) (iL A B) K):bX (wpS P PS (n+3)) (.asg (.var v) (.eK 320 [(.var 16),(.var 25),(.var 7)])::rest) Z (iL A B) K:=
 sA (λQ q=>lU (mL (aA a (mL (aA b (mL (aA e (jh (c A B ps s G7 Q d q))))))))) q
end
def nM (b a:Int) (s1 odd:Nat):List Nat->List (List Lt)->List (List Lt)->Prop
 |[],B,d=>d=B
 |k::e,B,d=>∃c,c.length=B.length/\(((k/s1+k%s1)%2==odd)=true->Bi b a B (k/s1) (k%s1) c)/\(((k/s1+k%s1)%2==odd)=false->c=B)/\nM b a s1 odd e c d
section
variable {P:cZ} {PS:dZ} {n:Nat}
theorem adF {cJ:Int} (b:0<s1) (c:s1<100) (d:cJ-1=(s1:Nat)) (a:Z 25=some (.int cJ)) (f:∀Q:EPost,Q (.int (k:Nat)) J->aw P (n+2) Z J e Q):∀Q:EPost,Q (.int ((k/s1:Nat):Int)) J->aw P (n+3) Z J (.bin .FloorDiv e (.bin .Sub (.var 25) (.cst (.int (1))))) Q:=λQ q=>eU (f _ (pA (eV a) eI _ (af d (⟨⟨jM.mpr (bZ b),zA c (by decide)⟩,(af (mM _ (cQ _):(k:Int).fdiv s1=((k/s1:Nat):Int)) q)⟩))))
theorem adC {cJ:Int} (b:0<s1) (c:cJ-1=(s1:Nat)) (a:Z 25=some (.int cJ)) (d:∀Q:EPost,Q (.int (k:Nat)) J->aw P (n+2) Z J e Q):∀Q:EPost,Q (.int ((k%s1:Nat):Int)) J->aw P (n+3) Z J (.bin .Mod e (.bin .Sub (.var 25) (.cst (.int (1))))) Q:=λQ q=>eU (d _ (pA (eV a) eI _ (af c (⟨jM.mpr (bZ b),(af (cy _ (cQ _):(k:Int).fmod s1=((k%s1:Nat):Int)) q)⟩))))
noncomputable def ag4:ME:= .cmp (.bin .Mod (.bin .Add (.bin .FloorDiv (.var 10) (.bin .Sub (.var 25) (.cst (.int (1))))) (.bin .Mod (.var 10) (.bin .Sub (.var 25) (.cst (.int (1)))))) (.cst (.int (2)))) [.Eq] [(.var 18)]
noncomputable def ag5:MS:= .iff ag4 [(.exp (.eK 315 [(.var 16),(.bin .Add (.cst (.int (1))) (.bin .FloorDiv (.var 10) (.bin .Sub (.var 25) (.cst (.int (1)))))),(.bin .Add (.cst (.int (1))) (.bin .Mod (.var 10) (.bin .Sub (.var 25) (.cst (.int (1)))))),(.var 3),(.var 8)]))] []
noncomputable def Uy:MS:= .kZ (.var 10) (.range [(.bin .Pow (.bin .Sub (.var 25) (.cst (.int (1)))) (.cst (.int (2))))]) [ag5]
theorem aa':jc fD 9= .kZ (.var 18) (.range [.cst (.int 2)]) [Uy]:=rfl
theorem YM a b:(((a:Nat):Int)==((b:Nat):Int))=(a==b):=by
 induction h:a==b using cB with
 |true=>exact af (beq_iff_eq.mp h) (beq_self_eq_true _)
 |false=>exact beq_eq_false_iff_ne.mpr λe=>absurd (acZ e) (beq_eq_false_iff_ne.mp h)
theorem aa2 {c b cJ:Int} {K} (J:CL P) (s:0<s1) (D:s1<100) (h:cJ-1=(s1:Nat)) (L:b.natAbs<2^63) (M:c.natAbs<2^63):
  ∀i B Z,Z 3=some (.int c)->Z 8=some (.int b)->Z 25=some (.int cJ)->Z 18=some (.int (odd:Nat))->Z 16=some (.own (A.length+B.length))->(∀k∈i,k<900)->nM c b s1 odd i B N->(∀d:bk,(∀v,v≠10->d v=Z v)->K .next d (iL A N))->
  eO ke (iX P PS (n+10) Uy) (i.map λk=> .int (k:Nat)) Z (iL A B) K:=by
 intro i
 induction i with
 |nil=>
  exact λB Z l l l l l l u q=>eh u ⟨trivial,q Z λa a=>rfl⟩
 |cons k i O=>
  refine λB Z E F g m o G u q=>JX u λw x y z C=>?_
  have H:=G k az
  have next:∀d:bk,(∀v,v≠10->d v=Z v)->eO ke (iX P PS (n+10) Uy) (i.map λk=> .int (k:Nat)) d (iL A w) K:=λd e=>O w d ((e 3 (by decide)).trans E) ((e 8 (by decide)).trans F) ((e 25 (by decide)).trans g) ((e 18 (by decide)).trans m) (x▸(e 16 (by decide)).trans o) (λk Q=>G k (aB _ Q)) C λr R=>q r λv j=>(R v j).trans (e v j)
  refine⟨trivial,cU (aK (fM (dp (DG (by decide) (mu (adF s D h (by exact g) (eV rfl)) (adC s h (by exact g) (eV rfl))) _ (aA m (af ((cy _ (by decide):(((k/s1:Nat):Int)+((k%s1:Nat):Int)).fmod 2=(((k/s1+k%s1)%2:Nat):Int))) ?_))))))⟩
  show Br ((((k/s1+k%s1)%2:Nat):Int)==(odd:Int)) _ _
  rw[YM]
  induction I:(k/s1+k%s1)%2==odd using cB with
  |false=>
   exact eh (z I) (Br.f (bY (mK (bY (next _ λv j=>cG _ _ j)))))
  |true=>
   exact Br.t (aK (uK (lU (mL (aA o (mL (Pz s D h (by exact g) (eV rfl) _ (mL (Ot s h (by exact g) (eV rfl) _ (mL (aA E (mL (aA F (jh (J A B w (k/s1) (k%s1) c b _ (y I) (bP (qN ..) H) (bP (TM ..) H) L M (mK (bY (mK (bY (next _ λv j=>cG _ _ j))))))))))))))))))))
end
section
variable {P:cZ} {PS:dZ} {n:Nat}
theorem agH {cJ:Int} (b:s1=2\/s1=3) (c:cJ-1=(s1:Nat)) (a:Z 25=some (.int cJ)):∀Q:EPost,Q (.int ((s1*s1:Nat):Int)) J->aw P (n+3) Z J (.bin .Pow (.bin .Sub (.var 25) (.cst (.int (1)))) (.cst (.int (2)))) Q:=λQ q=>by
 refine eU (pA (eV a) eI _ (bx (af c ?_)))
 clear a c;rcases b with rfl|rfl
 ·exact⟨⟨by decide,by decide⟩,q⟩
 ·exact⟨⟨by decide,by decide⟩,q⟩
theorem ag8 {b a cJ:Int} {K} (y:CL P) (h:s1=2\/s1=3) (i:cJ-1=(s1:Nat)) (z:a.natAbs<2^63) (C:b.natAbs<2^63)
  (l:Z 3=some (.int b)) (m:Z 8=some (.int a)) (d:Z 25=some (.int cJ)) (f:Z 16=some (.own (A.length+B.length))) (D:o.length=B.length) (r:nM b a s1 0 (bc (s1*s1)) B o) (s:nM b a s1 1 (bc (s1*s1)) o w)
  (q:∀c:bk,(∀v,v≠10->v≠18->c v=Z v)->bX (wpS P PS (n+13)) rest c (iL A w) K):bX (wpS P PS (n+13)) (jc fD 9::rest) Z (iL A B) K:=by
 have x:s1*s1<900:=by rcases h with rfl|rfl<;>decide
 have body:∀odd B t Z K,Z 3=some (.int b)->Z 8=some (.int a)->Z 25=some (.int cJ)->Z 18=some (.int odd)->Z 16=some (.own (A.length+B.length))->nM b a s1 odd (bc (s1*s1)) B t->(∀c:bk,(∀v,v≠10->c v=Z v)->K .next c (iL A t))->bX (wpS P PS (n+12)) [Uy] Z (iL A B) K:=λodd B t Z K l m d g f E q=>aK (lS (mi (λQ=>agH h i d Q) (zA x (by decide)) (aa2 y (by lia) (by grind-abstractProof only) i z C (bc (s1*s1)) B Z l m d g f (λk F=>il (mJ.mp F) x) E λc e=>mK (bY (q c e)))))
 exact af aa' (aK (lS (mi (λQ=>bx) (by decide) (⟨trivial,cU (body 0 B o _ _ l m d rfl f r λG e1=>⟨trivial,cU (body 1 o w _ _ ((e1 3 (by decide)).trans l) ((e1 8 (by decide)).trans m) ((e1 25 (by decide)).trans d) rfl (D▸(e1 16 (by decide)).trans f) s λu e2=>⟨trivial,mK (q u λv j g=>(e2 v j).trans ((cG _ _ g).trans ((e1 v j).trans (cG _ _ g))))⟩)⟩)⟩))))
end
inductive tD Np s la l:Prop
 |mk res (hs:s<30) (hu:∀p∈Np,Np.lookup p.1=some p.2) (hl:∀x v,Np.lookup x=some v->v.length<=1000) (hn:Np.length<=1000) (h:ym (kE la Np) s=some res) (ht:dT (res.toArray.foldl (· + ·.length+0) 0)=false) (e:lM "" res=jZ l)
section
variable {P:cZ} {PS:dZ} {n:Nat} {Z:bk} {J:aZ} {K:fA} {rest:List MS}
theorem aaJ (q:Q (.gx []) J):aw P (n+1) Z J (.gx [] []) Q:=(iJ rfl (dY _) .nil q)
theorem UQ {K} (h:Z v=some (.gx l)) (a:l≠[]) (q:K false J):gm (aw P (n+1)) Z (k+1) J (.cmp (.var v) [.Eq] [(.gx [] [])]) K:=
 dp (aA h (aaJ ⟨by clear h;induction l using cL with|nil=>exact absurd rfl a|cons _ _=>rfl,q⟩))
theorem ad' (b:Z 17=some (.gx l)) (c:Z 19=some (.gx e)) (g:l≠[]) (d:e≠[]) (q:bX (wpS P PS (n+4)) rest Z J K):bX (wpS P PS (n+4)) (jc fD 11::rest) Z J K:=
 aK (fM (FL (λa q=>UQ b g q) (λa q=>UQ c d q) (Br.f (bY q))))
theorem Ah (c:Ql P) (h:tD a s b l) (f:(d==1)=b) (g:Z v=some (lY a)) (i:Z w=some (.int (s:Nat))):∀Q:EPost,Q (.str (jZ l)) J->aw P (n+2) Z J (.eK 325 [(.var v),(.var w),(.cst (.int d))]) Q:=λQ q=>by
 obtain⟨res,j,k,m,o,h,r,e⟩:=h
 exact lU (mL (aA g (mL (aA i (mL (bx (jh (c a b d s res J Q f j k m o h r (e▸q)))))))))
theorem ad9 (e:Ql P) (f:tD a s false lit) (g:tD a s true b) (c:Z 17=some (lY a)) (d:Z 25=some (.int (s:Nat)))
  (q:bX (wpS P PS (n+4)) rest (upd (upd Z 20 (.str (jZ lit))) 21 (.str (jZ b))) J K):bX (wpS P PS (n+4)) (jc fD 12::rest) Z J K:=
 aK (gK (j' (Ah e f rfl c d _ (Ah e g rfl c d _ ⟨vN,ip (cU (cU q))⟩))))
theorem EW {t d pb st} (c:Mo P) (f:nL ps) (g:Lx J t d pb ln st) (a:J[pb]?=some (.list [])) (h:l.length<=30) (i:Z j=some (.own t)) (k:Z w=some (.lst (sC ps))) (m:∀Q:EPost,Q (.str (jZ (b::l))) J->aw P (n+1) Z J e Q):
  ∀Q:EPost,Q (.str (oO ps (b::l))) J->aw P (n+2) Z J (.eK 330 [(.var j),e,(.var w)]) Q:=λQ q=>
 lU (mL (aA i (mL (m _ (mL (aA k (jh (c t d pb st ln ps b l J Q f g a h q))))))))
theorem Ut {K} (h:∀Q:EPost,Q (.str x) J->aw P n Z J e Q) (b:∀Q:EPost,Q (.str y) J->aw P n Z J c Q) (a:x=y) (q:K false J):gm (aw P n) Z (k+1) J (.cmp e [.NotEq] [c]) K:=
 dp (h _ (b _ (by
  clear b h;subst a
  show K (x !=x) J
  rw[bne_self_eq_false];exact q)))
theorem ad8 {s t d pb st} (o:Ql P) (r:Mo P) (u:nL ps) (v:Lx J t d pb ln st) (e:J[pb]?=some (.list [])) (z:tD b s false (A::w)) (B:tD b s true c) (j:w.length<=30) (k:x.length<=30)
  (C:oO ps (A::w)=jZ lit) (e1:oO ps (D::x)=jZ c) (y:Z 7=some (.lst (sC ps))) (g:Z 12=some (.own t)) (h:Z 19=some (lY b)) (l:Z 20=some (.str (jZ lit))) (m:Z 21=some (.str (jZ (D::x)))) (i:Z 25=some (.int (s:Nat)))
  (q:bX (wpS P PS (n+6)) rest Z J K):bX (wpS P PS (n+6)) (jc fD 13::rest) Z J K:=
 aK (fM (FL
  (λa q=>Ut (λQ q=>EW r u v e j g y (λQ=>Ah o z rfl h i Q) Q q) (λQ=>aA l) C q)
  (λa q=>Ut (λQ q=>EW r u v e k g y (λQ=>aA m) Q q) (λQ=>Ah o B rfl h i Q) e1 q) (Br.f (bY q))))
end
noncomputable def yN (ps:List bD):List Nat->Nat->List bD
 |[],_=>[]
 |c::l,k=>(kz ps k++cA c)::yN ps l (k+1)
noncomputable def vZ (ps:List bD) (l:List Nat):Str:=lM "" (yN ps l 0)
noncomputable def Z_:ME:= .bin .Add (.idx (.var 7) (.bin .Mod (.var 29) (.cst (.int (6))))) (.var 30)
noncomputable def agE:ME:= .kB .join (.cst (.str (aa ""))) [(.comp Z_ [(.mk (.tup [(.var 29),(.var 30)]) (.sU (.var 27)) [])])]
theorem Fo ps:∀l k,(yN ps l k).length=l.length:=by
 intro l
 induction l with
 |nil=>
  exact λc=>rfl
 |cons a l b=>
  exact λk=>congrArg BA (b (k+1))
theorem Fm (a:nL ps):∀l k,∀x∈yN ps l k,x.length<=21:=by
 intro l
 induction l with
 |nil=>
  exact λd x=>bw
 |cons c l b=>
  intro k x h
  rcases aE.mp h with rfl|h
  ·rw[ee];exact dF (Jp a k)
  ·exact b (k+1) x h
section
variable {P:cZ} {PS:dZ} {n:Nat} {Z:bk} {J:aZ} {K:fA} {rest:List MS}
theorem ED (h:qW (aw P n) Z es J (λcs J=>cs.length<=1000/\Q (.lst cs) J)):aw P (n+1) Z J (.lst es) Q:=h
theorem Xc {K} (g:∀Q:EPost,Q (.str (jZ l)) J->aw P n Z J e Q)
  (h:gD ke (λc a J Q=>du (aw P n) t c Z J (λZ J=>lI (T Z) d J (λb J=>Br b (gE (aw P n) T (pE (aw P n) P) f i Z a J Q) (Q a J)))) (tA l 0) a J K):gE (aw P n) T (pE (aw P n) P) f (.mk t (.sU e) d::i) Z a J K:=
 Jx g h
theorem NT {K} (e:nL ps) (f:Z 7=some (.lst (sC ps))):∀l k a,a.length+l.length<=900->K (a++sC (yN ps l k)) J->
  gD ke (λc a J Q=>du (aw P (n+4)) (.tup [(.var 29),(.var 30)]) c Z J (λZ J=>lI (T Z) [] J (λb J=>Br b (gE (aw P (n+4)) T I Z_ [] Z a J Q) (Q a J)))) (tA l k) a J K:=by
 intro l
 induction l with
 |nil=>
  exact λk a h q=>⟨trivial,by
  rw[show a++sC (yN ps [] k)=a from bK _] at q;exact q⟩
 |cons c l g=>
  intro k a d q
  rw[bS] at d
  refine⟨trivial,ip (cU (cU (Br.t (FC (by exact f) rfl rfl e _ ⟨dK (zT zP (zT d (by decide))),(g (k+1) (a++[.str (kz ps k++cA c)]) (by refine af ax (af b_ ?_);exact zI d) ?_)⟩))))⟩
  rw[aM]
  exact q
theorem Nr (c:nL ps) (d:l.length<=40) (e:Z 7=some (.lst (sC ps))) (b:Z 27=some (.str (jZ l))):∀Q:EPost,Q (.str (vZ ps l)) J->aw P (n+6) Z J agE Q:=λQ q=>
 lB (λa=>bx) (λQ q=>mL (qj (Xc (λQ=>aA b) (NT c e l 0 [] (zT (zE (dJ _)) (zT d (by decide))) (jh q)))))
  (eJ _ (tP _) (oC (Fm c l 0) (by rw[Fo];exact d) (by decide)) q)
theorem Jd:iW (jZ (c::l)) (some 1) none++"(" =jZ (l++[40]):=by
 have e:ie (c::l) (some 1) none=l:=kj
 show(⟨(ie (c::l) (some 1) none).toArray++ #[40]⟩:bD)=⟨(l++[40]).toArray⟩
 exact af e (congrArg Str.mk (List.append_toArray l [40]))
theorem ad7 (e:nL ps) (d:a.length<=30) (f:Z 7=some (.lst (sC ps))) (b:Z 20=some (.str (jZ (g::a))))
  (q:bX (wpS P PS (n+8)) rest (upd (upd Z 22 (.str (vZ ps (g::a)))) 23 (.str (vZ ps (a++[40])))) J K):bX (wpS P PS (n+8)) (jc fD 14::rest) Z J K:=by
 have c:∀Q:EPost,Q (.str (jZ (a++[40]))) J->aw P (n+5) Z J (.bin .Add (.pu (.var 20) (some (.cst (.int 1))) none) (.cst (.str (aa "(")))) Q:=λQ q=>
  mY (by
   rw[<-ee,Jd]
   show(a++[40]).length<=1000
   refine af ax (af b_ ?_);exact zT (dF d) (by decide)) (λQ q=>q_ (aA b (mO (bx (ag1 (oW _ _ rfl rfl (dK (zT (dF d) (by decide))) q)))))) (λQ=>bx) Q (Jd▸q)
 exact aK (gK (qj (uL (ED (mL (aA b (mL (c _ (jh ⟨vN,[.str (jZ (g::a)),.str (jZ (a++[40]))],rfl,⟨trivial,cU (Br.t (Nr e (zT (dF d) (by decide)) (by exact f) rfl _ ⟨dK (by decide),(⟨trivial,cU (Br.t (Nr e (by refine af ax (af b_ ?_);exact zT (dF d) (by decide)) (by exact f) rfl _ ⟨dK (by show 1<=1000;decide),fg trivial rfl q⟩))⟩)⟩))⟩⟩)))))))))
theorem ad6 (g:acI P) (h:x.length<=1000) (i:y.length<=1000) (j:z.length<=1000) (k:gL x=true) (l:gL y=false) (o:gL z=true) (c:Z 22=some (.str x)) (a:Z 23=some (.str y)) (b:Z 20=some (.str z))
  (q:bX (wpS P PS (n+5)) rest Z J K):bX (wpS P PS (n+5)) (jc fD 15::rest) Z J K:=by
 have lst:∀{m} {e} {w},(∀Q:EPost,Q (.str w) J->aw P (m+1) Z J e Q)->∀Q:EPost,Q (.lst (sC [x,w,z])) J->aw P (m+2) Z J (.lst [.var 22,e,.var 20]) Q:=λr Q q=>ED (mL (aA c (mL (r _ (mL (aA b (jh ⟨pv,q⟩)))))))
 refine aK (fM (dp (lU (mL (lst (λQ=>aA a) _ (jh (g [x,y,z] J _ (by show 3<=1000;decide) (λw hw=>?_) ?_)))))))
 ·rcases aE.mp hw with rfl|hw
  ·exact h
  ·clear a;rcases aE.mp hw with rfl|hw
   ·exact i
   ·clear b;rcases aE.mp hw with rfl|hw
    ·exact j
    ·exact bw hw
 ·have e:[x,y,z].map yo=[x,"('', '')",z]:=by
   show[cond (gL x) x "('', '')",cond (gL y) y "('', '')",cond (gL z) z "('', '')"]=_
   refine af k (af l (af o ?_));rfl
  refine af e ?_
  have d:=xK [x,"('', '')",z]
  exact lst (λQ=>bx) _ (⟨d.1,(d.2▸Br.f (bY (mK q)))⟩)
theorem acd a b i:sq 6 (.lst [.str a,.str b,.int i]) (.lst [.str a,.str b,.int i])=true/\lN 6 (.lst [.str a,.str b,.int i]) (.lst [.str a,.str b,.int i])=true:=by
 refine⟨rfl,?_⟩
 show(true&&(a==a&&(b==b&&(i==i&&true))))=true
 rw[beq_self_eq_true,beq_self_eq_true,beq_self_eq_true];rfl
theorem ad5 {t d k pb st} (m:Hi P) (h:gM J t d k pb st) (o:J[pb]?=some (.list [])) (w:l.length<=900) (e:r.length<=900) (s:ws[7]?=some u) (e1:jn l ln=(cA u,f,r,b)) (e2:jn r f=(("" :bD),a,g,x))
  (i:Z 11=some (.lst (jQ ws))) (c:Z 12=some (.own t)) (j:Z 13=some (.int a)) (q:K (.ret (.bool true)) Z (cp J d k pb st a g)):bX (wpS P PS (n+5)) (jc fD 16::rest) Z (cp J d k pb st ln l) K:=by
 refine aK (jA (OA (ED (mL (KH m c h o w _ (af e1 (mL (KH m c h o e _ (af e2 (mL (qp c (jf h).hi (jf h).hd rfl rfl _ (jh ⟨pv,(ED (mL (iG (aA i (bx ⟨by decide,7,_,jg (by rw[aC];exact(aj.mp s).1),dh.trans (af s rfl),?_⟩)))))⟩))))))))))))
 refine mL (bx (mL (aA j (jh ⟨pv,?_⟩))))
 have v:=acd (cA u) "" a
 exact⟨v.1,af v.2 q⟩
end
section
variable {J:aZ} {t d k pb st:Nat} {ln:Int} {l:List Nat} {B:List (List Lt)}
theorem wO {i:Nat} (h:A[i]?=some m):(iL A B)[i]?=some m:=by
 unfold iL
 rw[aM,cj ((aj.mp h).1)]
 exact h
theorem YO (h:gM J t d k pb st):iL (cp J d k pb st ln l) B=cp (iL J B) d k pb st ln l:=by
 unfold iL
 refine af pG ?_
 unfold cp
 rw[aM,aM,eZ _ _ h.hd,eZ _ _ (af bH h.hk)]
theorem Qb:A.length<=(iL A B).length:=by
 unfold iL
 rw[aM,ax]
 exact ba _ _
theorem gM.aj' (h:gM J t d k pb st):gM (iL J B) t d k pb st:=
 ⟨wO h.hi,av h.hd Qb,av h.hk Qb,wO h.hs,h.nk,h.t1,h.t2,h.s1,h.s2,h.n1,h.n2,h.n3⟩
end
structure Tz (h:Hd) s1 ks (B0 B1 B2 B3:List (List Lt)):Prop where
 len:B0.length=s1+2
 rows:∀i row,B0[i]?=some row->row.length=s1+2/\BX (3+h.four) h.el h.abn h.qz (1+h.less) i row
 f0:ud h.qz (1+h.less) s1 ks B0 B1
 l1:B1.length=B0.length
 f1:nM h.qz (1+h.less) s1 0 (bc (s1*s1)) B1 B2
 l2:B2.length=B1.length
 f2:nM h.qz (1+h.less) s1 1 (bc (s1*s1)) B2 B3
 l3:B3.length=B2.length
structure Mp ps s G7 H' c0 c1 ae' l0 l1 aa4 ld:Prop where
 n1:kF G7 ps s≠[]
 n2:kF H' ps s≠[]
 r0:tD (kF G7 ps s) s false (c0::l0)
 r1:tD (kF G7 ps s) s true (c1::l1)
 ajq:tD (kF H' ps s) s false (ae'::aa4)
 ajp:tD (kF H' ps s) s true ld
 z0:l0.length<=30
 z1:l1.length<=30
 ajc:aa4.length<=30
 t0:oO ps (ae'::aa4)=jZ (c0::l0)
 t1:oO ps (c1::l1)=jZ ld
 k1:gL (vZ ps (c0::l0))=true
 k2:gL (vZ ps (l0++[40]))=false
 k3:gL (jZ (c0::l0))=true
structure acP P:Prop where
 ajF:vd P
 RE:rj P
 flip:CL P
 KV:Mr P
 row:Ql P
 turn:Mo P
 pre:acI P
 tok:Hi P
theorem Gm ps (a:nL ps) l (b:l.length<=40):(vZ ps l).length<=1000:=
 ag (Gd (Fm a l 0)) (by rw[Fo];grind-abstractProof only)
section
variable {P:cZ} {PS:dZ} {n:Nat} {Z:bk} {K:fA}
theorem Xp {l0 l1 I ld} {t d k pb st lv} (f:acP P) (c:Mw Z h) (r:s1=2\/s1=3) (s:3+h.four=(s1+1:Nat)) (L:(1+h.less).natAbs<2^63) (M:h.qz.natAbs<2^63) (j:nL h.ps)
  (g:Tz h s1 [N,k1,k2,k3,O,Q,R] B0 B1 B2 B3) (hk:∀k∈[N,k1,k2,k3,O,Q,R],k<9) (hR:rU J.length B1 h.ps (s1+1) G7) (S:rU J.length B3 h.ps (s1+1) H') (a:Mp h.ps (s1+1) G7 H' c0 c1 a5 l0 l1 I ld)
  (hx:gM J t d k pb st) (z:J[pb]?=some (.list [])) (T:(cp J d k pb st ln l)[lv]?=some (.ei (yB (3+h.four) h.el) lv)) (hl:l.length<=900) (W:l'.length<=900) (e1:jn l ln=(cA w7,X,l',b)) (e2:jn l' X=(("" :bD),u,a6,b'))
  (A:Z 11=some (.lst (jQ [c_.getD N 0,c_.getD k1 0,c_.getD k2 0,c_.getD k3 0,c_.getD O 0,c_.getD Q 0,c_.getD R 0,w7]))) (C:Z 12=some (.own t)) (Y:Z 13=some (.int u)) (a0:Z 15=some (.own lv))
  (q:∀a3 τ,(∀i,i≠d->i≠k->i<J.length->τ[i]?=J[i]?)->K (.ret (.bool true)) a3 τ):bX (wpS P PS (n+16)) (fD.drop 6) Z (cp J d k pb st ln l) K:=by
 have D:(cp J d k pb st ln l).length=J.length:=pG
 have a4:3+h.four+1=s1+2:=s▸rfl
 have s0:0<s1:=r.elim (λe=>zA (by decide:0<2) (zE e.symm)) λe=>zA (by decide:0<3) (zE e.symm)
 have s3:s1<=3:=r.elim (λe=>zT (zE e) (by decide)) zE
 have E:3+h.four-1=s1:=by refine af s ?_;exact fQ (s1:Int) 1
 refine ag' f.ajF f.RE c.e2 c.e3 c.e8 a0 c.Pu L M a4 (zB (fP s3 2) (by decide)) T g.len g.rows (eh g.len ?_)
 have F:upd Z 16 (.own ((cp J d k pb st ln l).length+B0.length)) 16=some (.own ((cp J d k pb st ln l).length+B0.length)):=rfl
 refine ag9 f.flip s0 (zB s3 (by decide)) E L M c.e3 c.e8 c.e9 c.Pu F A hk g.f0 λv r1=>?_
 have w:v 16=some (.own ((cp J d k pb st ln l).length+B1.length)):=g.l1▸(r1 16 (by decide)).trans F
 have a7:v 7=some (.lst (sC h.ps)):=(r1 7 (by decide)).trans c.e7
 have G:v 25=some (.int (s1+1:Nat)):=((r1 25 (by decide)).trans c.Pu).trans (s▸rfl)
 refine aaY f.KV (D▸hR) w G a7 (ag8 f.flip r E L M ((r1 3 (by decide)).trans c.e3) ((r1 8 (by decide)).trans c.e8) (((r1 25 (by decide)).trans c.Pu)) w g.l2 g.f1 g.f2 λx o=>?_)
 have b7:x 7=some (.lst (sC h.ps)):=(o 7 (by decide) (by decide)).trans a7
 have y:x 25=some (.int (s1+1:Nat)):=(o 25 (by decide) (by decide)).trans G
 refine aaY f.KV (D▸S) (af g.l3 (af g.l2 ((o 16 (by decide) (by decide)).trans w))) y b7 ?_
 have H:x 17=some (lY (kF G7 h.ps (s1+1))):=(o 17 (by decide) (by decide)).trans rfl
 refine af (YO hx) ?_
 have m:=hx.aj' (B:=B3)
 refine ad' H rfl (λe=>a.n1 (nC.mp e)) (λe=>a.n2 (nC.mp e)) (ad9 f.row a.r0 a.r1 H y (ad8 f.row f.turn j (jf m) ((sI m.n2 m.n3).trans (wO z)) a.ajq a.ajp a.ajc a.z1 a.t0 a.t1 b7 ((o 12 (by decide) (by decide)).trans ((r1 12 (by decide)).trans C)) rfl rfl rfl y (ad7 j a.z0 b7 rfl (ad6 f.pre (Gm _ j _ (by have:=a.z0;exact af bS (zT (zS this) (by decide)))) (Gm _ j _ (by have:=a.z0;exact af ax (af b_ (zT (zS this) (by decide))))) (by have:=a.z0;exact zT (zS this) (by decide)) a.k1 a.k2 a.k3 rfl rfl rfl (ad5 f.tok m (wO z) hl W (ws:=[c_.getD N 0,c_.getD k1 0,c_.getD k2 0,c_.getD k3 0,c_.getD O 0,c_.getD Q 0,c_.getD R 0,w7]) rfl e1 e2 ?_ ?_ ?_ (q _ _ λi h1 h2 hi=>(sI h1 h2).trans ((wO (aF hi)).trans (aF hi).symm)))))))
 ·exact(o 11 (by decide) (by decide)).trans ((r1 11 (by decide)).trans A)
 ·exact(o 12 (by decide) (by decide)).trans ((r1 12 (by decide)).trans C)
 ·exact(o 13 (by decide) (by decide)).trans ((r1 13 (by decide)).trans Y)
end
noncomputable abbrev pI (h:Hd):List bD×Int×List Nat:=lZ 7 (gH h).cps.toList 1
inductive rX (h:Hd):Prop
 |mk s1 k0 k1 k2 k3 k4 k5 k6 w7 c0 c1 ae' l0 l1 aa4 ld B0 B1 B2 B3 G7 H' aiw l' ajH b b'
  (h4:h.four=0\/h.four=1) (hd:h.og.length<=100) (akl:s1=2\/s1=3) (akf:3+h.four=(s1+1:Nat)) (hs:(1+h.less).natAbs<2^63) (hw:h.qz.natAbs<2^63) (ajS:nL h.ps)
  (hB:Tz h s1 [k0,k1,k2,k3,k4,k5,k6] B0 B1 B2 B3) (hk:∀k∈[k0,k1,k2,k3,k4,k5,k6],k<9) (hR:rU 8 B1 h.ps (s1+1) G7) (akk:rU 8 B3 h.ps (s1+1) H') (hT:Mp h.ps (s1+1) G7 H' c0 c1 ae' l0 l1 aa4 ld)
  (hx:(gH h).length<=900) (ws:jw h=[c_.getD k0 0,c_.getD k1 0,c_.getD k2 0,c_.getD k3 0,c_.getD k4 0,c_.getD k5 0,c_.getD k6 0,w7])
  (rd:(pI h).1=[cA (c_.getD k0 0),cA (c_.getD k1 0),cA (c_.getD k2 0),cA (c_.getD k3 0),cA (c_.getD k4 0),cA (c_.getD k5 0),cA (c_.getD k6 0)])
  (e1:jn (pI h).2.2 (pI h).2.1=(cA w7,aiw,l',b)) (e2:jn l' aiw=(("" :bD),1+endsF (gH h),ajH,b')):rX h
theorem Rv:∀n l ln,(lZ n l ln).2.2.length<=l.length:=by
 intro n
 induction n with
 |zero=>exact λl ln=>ai _
 |succ n a=>exact λl ln=>ag (a _ _) (Fu l ln)
noncomputable def afO (T T':bz) (tps Nm:Array bq) (x:List Nat) (cJ el:Int):aZ:=[.ei (gA T tps) 0,.ei (gA T' Nm) 1,.list (jQ x),.ei tC 2,.inst 139 (some 5),.ns (qF 1 3 6),.list [],.ei (yB cJ el) 7]
noncomputable def RW (T T':bz) (tps:Array bq) (x:List Nat):aZ:=[.ei (gA T tps) 0,.ei (gA T' #[]) 1,.list (jQ x),.ei tC 2,.inst 139 (some 5),.ns (qF 1 3 6),.list []]
section
variable {T T':bz} {tps Nm:Array bq} {x:List Nat} {cJ el:Int}
theorem aaZ:gM (afO T T' tps Nm x cJ el) 4 5 2 6 3:=⟨rfl,by show 5<8;decide,by show 2<8;decide,rfl,by decide,by decide,by decide,by decide,by decide,by decide,by decide,by decide⟩
theorem Xs:gM (RW T T' tps x) 4 5 2 6 3:=⟨rfl,by show 5<7;decide,by show 2<7;decide,rfl,by decide,by decide,by decide,by decide,by decide,by decide,by decide,by decide⟩
end
inductive Tv T T' Z τ:Prop
 |mk h (ajT:rX h) tps (hv:Mw Z h) (ako:Z 11=some (.lst (jQ (jw h)))) (akn:Z 12=some (.own 4)) (akm:Z 13=some (.int (1+endsF (gH h))))
  (e:τ=cp (RW T T' tps (gH h).cps.toList) 5 2 6 3 (pI h).2.1 (pI h).2.2):Tv T T' Z τ
section
variable {P:cZ} {PS:dZ} {n:Nat} {Z:bk}
theorem Xq {K} (m:EJ P) (o:Vl P T) (r:Hi P) (g:∀a b c d,rX (yw a b c d)) (s:Z 0=some (.lst (iC t))) (u:t.length<=1000) (q:∀e τ,Tv T T' e τ->K .next e τ):
  bX (wpS P PS (n+8)) (fD.take 5) Z [.ei (gA T #[]) 0,.ei (gA T' #[]) 1] K:=by
 refine ad_ m s u λa b c d v f=>?_
 have i:=g a b c d
 generalize yw a b c d=h at f i
 have k:=i
 obtain⟨s1,I,J,L,M,N,O,Q,R,S,W,w,X,Y,x,ld,B0,B1,B2,B3,G7,H',y,l',z,b,b',A,l,B,C,hs,hw,D,hB,hk,hR,E,F,G,ws,H,e1,e2⟩:=i
 exact ahb f A (ag l (by decide)) (aha (j:=0) o (f.up (.inl rfl)) rfl l rfl λtps=>af (rfl:LH [MO.ei (gA T #[]) 0,MO.ei (gA T' #[]) 1] 0 T tps (gH h)=cp (RW T T' tps (gH h).cps.toList) 5 2 6 3 1 (gH h).cps.toList) (ag_ r (eh ws rfl) rfl Xs rfl G H (bY (q _ _ ⟨h,k,tps,((f.up (.inl rfl)).up (.inr (.inl rfl))).up (.inr (.inr rfl)),rfl,rfl,rfl,rfl⟩))))
theorem Xr {K} (s:acP P) (t:rX h) (u:Mw Z h) (c:Z 11=some (.lst (jQ (jw h)))) (d:Z 12=some (.own 4)) (f:Z 13=some (.int (1+endsF (gH h)))) (g:Z 15=some (.own 7)) (q:∀a τ,τ[0]?=some (.ei (gA T tps) 0)->τ[1]?=some (.ei (gA T' Nm) 1)->K (.ret (.bool true)) a τ):
  bX (wpS P PS (n+16)) (fD.drop 6) Z (cp (afO T T' tps Nm (gH h).cps.toList (3+h.four) h.el) 5 2 6 3 (pI h).2.1 (pI h).2.2) K:=by
 obtain⟨s1,G,H,I,J,L,M,N,O,Q,R,v,S,W,w,ld,X,Y,B2,B3,G7,H',x,y,z,b,b',h4,hd,i,j,A,B,k,C,D,E,l,m,F,ws,rd,e1,e2⟩:=t
 have r:=ag (Rv 7 (gH h).cps.toList 1) F
 have o:y.length<=900:=by
  have:=Fu (pI h).2.2 (pI h).2.1
  rw[e1] at this
  exact ag this r
 exact Xp s u i j A B k C D E l m aaZ rfl rfl r o e1 e2 (ws▸c) d f g λa τ e=>q a τ (e 0 (by decide) (by decide) (by show 0<8;decide)) (e 1 (by decide) (by decide) (by show 1<8;decide))
end
noncomputable abbrev aa1:List Stmt:=[gX lc 0,gX lc 1,gX lc 2,gX lc 3,gX lc 4]
noncomputable abbrev aa0:List Stmt:=[gX lc 6,gX lc 7,gX lc 8,gX lc 9,gX lc 10,gX lc 11,gX lc 12,gX lc 13,gX lc 14,gX lc 15,gX lc 16]
theorem Se:lc.body=aa1++aiu::aa0:=by kernel_rfl
theorem aba:aa1.map (cS R2 [("board",2)] 60 Rn adM)=fD.take 5:=by kernel_rfl
theorem aa_:aa0.map (cS R2 [("board",2)] 60 ah_ adM)=fD.drop 6:=by kernel_rfl
theorem SN:gw lc [("board",2)] fD ["script"]:=⟨by kernel_rfl,by kernel_rfl,λa v=>by kernel_rfl,aem,by kernel_rfl⟩
structure af9 C T':Prop where
 fn:∃fd c,Bh C 335 lc fd/\fd.defaults= .none/\fd.code= .ref c/\zl C c T'
section
variable {C:Cfg} {R:Rd} {P:cZ} {PS:dZ} {ℓ m n L:Nat} {o:List (bD×Nat)} {H:gq} {U:pB} {A:bU}
theorem NF (x:wV C R ℓ P PS o H L n) (y:bQ (m+ℓ) A) {rest} {t} {X:bk->aZ->Prop}:∀b Z F O J s,bT C H L U Z F O s.heap->Nw C F O J s->
  bX (wpS P PS m) (b.map (cS R o n H L)) Z J (λi Z τ=>i= .next/\X Z τ)->
  (∀F' aH τ c u,Go C (iF H.1 U) F O s F' aH τ u->bT C H L U c F' aH u.heap->X c τ->aD (aI C.prog C.w) A (execs rest U) t a_ u)->aD (aI C.prog C.w) A (execs (b++rest) U) t a_ s:=by
 intro b
 induction b with
 |nil=>exact λZ F O J s j d h k=>k F O J Z s d.refl j h.2
 |cons st b z=>
  refine λZ F O J s j d h k=>je (ao (x m st U Z F O J s A _ j d y h) (λf s1 B=>?_) λa a e=>e)
  obtain⟨D,l,q,r,i,g1,e1,E,v⟩:=B
  induction i using Qn.casesOn with
  |next=>
   exact af E (z r D l q s1 e1 (d.go g1) v λF' aH τ c u g e=>k F' aH τ c u (g1.trans g) e)
  |_=>exact nomatch v.1
end
section
variable {C:Cfg} {ℓ:Nat}
theorem agr (z:ef C R2) {T T'} (hD:EJ (PM C R2 ℓ)) (hL:Vl (PM C R2 ℓ) T) (hP:acP (PM C R2 ℓ)) (n:af9 C T') (B:∀a b c d,rX (yw a b c d)) {D} (hn:D.length<=1000) {oy} (hl:ℓ+21<oy) {Q:EPost} (q:∀τ ps E,τ[0]?=some (.ei (gA T ps) 0)->τ[1]?=some (.ei (gA T' E) 1)->Q (.bool true) τ):
  (PM C R2 oy).eK 335 [.lst (iC D)] [] [.ei (gA T #[]) 0,.ei (gA T' #[]) 1] Q:=by
 refine Pr n.fn λG c H I hc J=>aG H.obj λob t g=>⟨Callee.fn t g,λA F O s vs kv hA l r r0=>?_⟩
 subst r0
 refine cps λK_ k_=>?_
 obtain⟨a,u⟩:∃a,O[1]?=some a:=⟨O[1]'(l.dj.len▸cH 1),aF _⟩
 refine cz (l.dj.at_ 1 a _ u rfl) λo b e1 e2 e3=>?_
 obtain rfl:=ab (u.symm.trans e2)
 clear e1 g t n;obtain⟨rfl,rfl⟩:=e3 F (.refl _)
 refine k_ (ol (rS (cs:=(["script"]:List bD).zip [.lst (iC D)]) H SN.sc SN.bo (hA.le (by rw[fJ 21];exact hl)) l (λK k=>?_) λen A F1 s3 c1 c2 g0 L v w j=>?_))
 ·have e:G={G with params:=lc.args,defaults:= .none}:=by rw[<-H.params,<-I]
  have:=SN.bind G λi=>vs.getD i oo
  rw[<-e,show(["script"]:List bD).length=vs.length from r.length.symm,list_range] at this
  exact af this (au (k F s _ l.refl (rz r)))
 refine af Se (letQ ?_);intro Q_;refine NF (X:=Tv T a) (nK (o:=[("board",2)]) z mz (λa a a a a a a a a a a a a a=>ar) (λs e k v=>lz v) 60) j aa1 _ F1 O _ s3 v w (af aba (Xq hD hL hP.tok B rfl hn λM τ x=>⟨rfl,x⟩)) λF4 a4 a5 a6 s4 N P x4=>?_
 obtain⟨h,hO,tps,f,R,S,W,rfl⟩:=x4
 have Z:=w.go N
 refine je (ao (Xi (m:=20) z l ((g0.pure.trans N).drop (Y:= .no) (λa u=> .inr (L a (gU a u))) λa=>bw) L P Z j (c1.trans hc) J (N.jo _ _ (g0.jo _ _ u)) rfl trivial rfl f.ahA f.Pu) (λfl s5 h5=>?_) λa a e=>e)
 obtain⟨F5,a0,a7,rfl,g5,a3⟩:=h5
 have y:=g5
 exact ao (kI (nK z mz (λa a a a a a a a a a a a a a=>ar) (λs e k v=>lz v) 60) j aa0 _ F5 a0 _ s5 (GA Q) a3 (l.go y) (af aa_<|Xr hP hO ⟨f.ahA,f.e2,f.e3,f.e5,f.e6,f.e7,f.e8,f.e9,f.Pu⟩ R S W rfl λM τ z1 z2=>(aP _ rfl (q τ _ _ z1 z2)))) (λa a h=>h.agz y L) λa a e=>e
end
theorem abr {d:Data} (h:afT d=some x):d= .func x:=by
 induction d using ot with
 |func a=>exact congrArg Data.func (ab h)
 |_=>exact aW h
theorem wC {d:Data} (h:Pl d=some x):d= .fields x:=by
 induction d using ot with
 |fields a=>exact congrArg Data.fields (ab h)
 |_=>exact aW h
theorem NP {d:Data} (h:ZQ d=some x):∃n,d= .seq x n:=by
 induction d using ot with
 |seq vs n=>exact⟨n,congrArg (Data.seq · n) (ab h)⟩
 |_=>exact aW h
theorem ab6 {d:Data} (h:af0 d=some x):d= .cls x:=by
 induction d using ot with
 |cls a=>exact congrArg Data.cls (ab h)
 |_=>exact aW h
theorem aes (h:aiz v=true):v= .none:=by
 induction v using cK with
 |none=>rfl
 |_=>exact bV h
theorem JL (e:aeK h a=some t):
  ∃o b,h.get? a=some o/\o.data= .func b/\(o.cls,b.params,b.body,b.scope,b.globals,b.closure,b.builtins,b.defaults,b.code,b.qualname)=t:=
 aG (a' e) λo c e=>aG (eB e) λb d e=>eA o b c (abr d) e
theorem Ri (e:afz o=some q):∃t,o=some (.str q t):=by
 induction o using cO with
 |none=>exact aW e
 |some v=>induction v using cK with
  |str x t=>exact⟨t,congrArg (λz=>some (Kk z t)) (ab e)⟩
  |_=>exact aW e
theorem Ru (e:afE o=some c):o=some (.ref c):=by
 induction o using cO with
 |none=>exact aW e
 |some v=>induction v using cK with
  |ref x=>exact congrArg (λz=>some (nf z)) (ab e)
  |_=>exact aW e
theorem Si (e:afP o=some i):∃t,o=some (.int i t):=by
 induction o using cO with
 |none=>exact aW e
 |some v=>induction v using cK with
  |int x t=>exact⟨t,congrArg (λz=>some (Y_ z t)) (ab e)⟩
  |_=>exact aW e
theorem YL (e:ahF h a=some q):∃o vs t,h.get? a=some o/\o.data= .fields vs/\vs[1]?=some (.str q t):=
 aG (a' e) λo b e=>aG (a' e) λvs c e=>eY (Ri e) λt e=>abg o vs t b (wC c) e
theorem XN (h:aiy v=some a):∃x t,v= .str x t:=by
 induction v using cK with
 |str x t=>exact sT x t rfl
 |_=>exact aW h
theorem JC (h:ahj v=some a):∃x t,v= .int x t:=by
 induction v using cK with
 |int x t=>exact sT x t rfl
 |_=>exact aW h
theorem XQ (h:aiA v=some a):∃x,v= .bool x:=by
 induction v using cK with
 |bool x=>exact⟨x,rfl⟩
 |_=>exact aW h
theorem LL (e:O' h c=Pa T):∃o vs,h.get? c=some o/\o.cls= .type "code" /\o.data= .fields vs/\vs[11]?=some (.ref T)/\∀d:kT,d.get? c=some o->c≠T->CodeHd d c T:=by
 refine aG (a' e) λo i e=>aG (eB e) λvs g e=>?_
 have e2:vs[11]?=some (.ref T):=congrArg (λz=>z.2.1) e
 refine aiM o vs i (congrArg (λz=>z.1) e) (wC g) e2 λd k n=>?_
 refine nu (XN (congrArg (λz=>z.2.2.1) e)) λb j l=>nu (JC (congrArg (λz=>z.2.2.2.1) e)) λa m q=>eY (XQ (congrArg (λz=>z.2.2.2.2.1) e)) λf r=>nu (JC (congrArg (λz=>z.2.2.2.2.2) e)) λtext tt s=>?_
 exact⟨o,vs,b,j,a,m,f,text,tt,k,congrArg (λz=>z.1) e,wC g,e2,by refine af i_ (af e2 ?_);rfl,l,q,r,s,n⟩
theorem Yc {α:Type} {x:α} {l} (h:l.length=n):l=(bc n).map λi=>l[i]?.getD x:=by
 refine Di (by rw[h,aC,jL]) λi a b=>?_
 rw[Df,sh,aF a];rfl
theorem six {α:Type} {x:α} {a} (h:a.size=6) (b:a[4]?=some x):∃c d f g i,a= #[c,d,f,g,x,i]:=by
 obtain⟨l⟩:=a
 have e:l=[l[0]?.getD x,l[1]?.getD x,l[2]?.getD x,l[3]?.getD x,l[4]?.getD x,l[5]?.getD x]:=Yc h
 exact(aiF _ _ _ _ _ (congrArg List.toArray ((congrArg (Option.getD · x) (pD▸b))▸e)))
theorem YH (e:PU h c=PV c N):∃r,h.get? c=some (xI c N r):=by
 refine aG (a' e) λo m e=>aG (eB e) λcd n e=>?_
 obtain⟨i,d,f,b⟩:=o
 obtain⟨nm,s,j,t,q,g,u,sub,v,k,l⟩:=cd
 refine aiS (six (a:=b) (congrArg (λz=>z.2.2.2.2.2.2.1) e) (congrArg (λz=>z.2.2.2.2.2.2.2) e)) λw x y A B C=>?_
 have e1:i= .type "type" :=congrArg (λz=>z.1) e
 have e2:j=[.ref c,.type "object"]:=congrArg (λz=>z.2.1) e
 have e3:t=N:=congrArg (λz=>z.2.2.1) e
 have e4:g=true:=congrArg (λz=>z.2.2.2.1) e
 have e5:v=false:=congrArg (λz=>z.2.2.2.2.1) e
 have e6:l=false:=congrArg (λz=>z.2.2.2.2.2.1) e
 have e7:f=_:=ab6 n
 exact⟨(nm,q,s,u,sub,k,d,w,x,y,A,B),m.trans (by rw[e7,e1,e2,e3,e4,e5,e6,C])⟩
theorem IZ (e:ZH h a=some (true,none,0,0)):h.get? a=some (tabObj #[]):=by
 refine aG (a' e) λo g e=>aG (eB e) λvs i e=>?_
 obtain⟨f,c,d,b⟩:=o
 rw[g,show d=_ from wC i,show f= .none from aes (congrArg (λz=>z.1) e),show c=none from congrArg (λz=>z.2.1) e,show b= #[] from ku (congrArg (λz=>z.2.2.1) e),ku (congrArg (λz=>z.2.2.2) e)]
theorem Wh (e:ah6 h a=some l):∃c items n,h.get? a=some c/\c.data= .seq items n/\(items.map tJ).map (·.toNat)=l.toArray:=
 aG (a' e) λo d e=>aG (eB e) λvs b e=>eY (NP b) λn b=>abg o vs n d b (e▸rfl)
theorem Jq (e:aal h a=aam l):pP h.get? a l:=
 aG (a' e) λo b e=>aG (eB e) λvs d e=>aG (a' (congrArg (λz=>z.2.2.2) e)) λc f e4=>eY (Si (congrArg (λz=>z.2.2.1) e)) λg i=>⟨o,vs,c,g,b,congrArg (λz=>z.1) e,congrArg (λz=>z.2.1) e,wC d,Ru f,i,Wh e4⟩
theorem IV (e:KE h a=some l):∃o vs n,h.get? a=some o/\o.data= .seq vs n/\vs.toList.map adi=l:=
 aG (a' e) λo c e=>aG (eB e) λvs b e=>eY (NP b) λn b=>abg o vs n c b e
theorem Nl (h:adi v=(none,true)):v= .none:=by
 induction v using cK with
 |none=>rfl
 |int i t=>exact aW (congrArg (λz=>z.1) h).symm
 |_=>exact bV (congrArg (λz=>z.2) h)
theorem adh (h:adi v=(some i,true)):∃t,v= .int i t:=by
 induction v using cK with
 |int j t=>exact⟨t,congrArg (λz=>Y_ z t) (ab (congrArg (λz=>z.1) h))⟩
 |_=>exact aW (congrArg (λz=>z.1) h)
theorem ZD (e:KE h a=some [(none,true)]):∃o n,h.get? a=some o/\o.data= .seq #[.none] n:=by
 refine cps λg d=>?_
 obtain⟨o,⟨l⟩,n,f,c,e⟩:=IV e
 refine cz (qx.mp e) λv i b e1 e2=>?_;subst b
 rw[Nl e1,nC.mp e2] at c
 exact d (fX o n f c)
theorem agy (e:KE h a=some [(none,true),(some i,true)]):∃t o n,h.get? a=some o/\o.data= .seq #[.none,.int i t] n:=by
 refine cps λj d=>?_
 obtain⟨o,⟨l⟩,n,f,c,e⟩:=IV e
 obtain⟨v,g,rfl,e1,e⟩:=qx.mp e
 refine cz (qx.mp e) λk g b e2 e3=>?_;obtain⟨t,rfl⟩:=adh e2
 subst b
 rw[Nl e1,nC.mp e3] at c
 exact d (ww t o n f c)
theorem map_eq {α a:Type} {f g:α->a} {l:List α} (h:l.map f=l.map g) {x} (hx:x∈l):f x=g x:=by
 induction l with
 |nil=>exact bw hx
 |cons y l b=>
  injection h with c d
  rcases aE.mp hx with rfl|hx
  ·exact c
  ·exact b d hx
theorem yU {α b:Type} [BEq α] [LawfulBEq α] {x} {v} {l:List (α×b)} (h:l.lookup x=some v):(x,v)∈l:=by
 induction l with
 |nil=>exact aW h
 |cons p l c=>
  obtain⟨k,w⟩:=p
  rw[cg] at h
  refine Hb (x==k) (λa=>?_) λa=>?_
  ·
   rw[a] at h
   exact af (ab h) (af (eq_of_beq a) az)
  ·rw[a] at h;exact aB _ (c h)
structure Be (C:Cfg) (h:kT):Prop where
 k:∀a o,h.get? a=some o->a≠300->a≠332->C.K a=some o
 mg:C.mg=h.nsMap bN
 mb:C.mb=h.nsMap cx
 g:vG C
 b:∃o,C.K 4=some o/\o.cls= .type "module" /\o.dict=some cx/\o.data= .plain
structure agb C:Prop where
 pf:PF C
 ph:PH C
 rc:Mt C
 tk:afm C
 li:ai9 C
 lm:ta C 139 "__init__" 115
 lx:af8 C 300
 lw:af9 C 332
theorem Ra (h:pR "object" x=some r):gN (.type "object") x=pure r:=by rw[nX,jm,h]
theorem ZF:(["_convert_string_type","_read_char","get_token","push_token","get","add_header","_headers","lineno","pushback","whitespace","instream"]:List bD).map (pR "object")=(["_convert_string_type","_read_char","get_token","push_token","get","add_header","_headers","lineno","pushback","whitespace","instream"]:List bD).map λ_=>some none:=by kernel_rfl
theorem Nq:pR "object" "__init__" =some (some (.builtin "object.__init__")):=by kernel_rfl
theorem aeG:(fns.map λx=>(dB x.a 300||dB x.a 332||dB (x.a-1) 300||dB (x.a-1) 332))=fns.map λ_=>false:=by kernel_rfl
theorem EH {a b:Nat} (h:dB a b=false):a≠b:=λe=>by rw[e,vA] at h;exact nomatch h
theorem adN {h:kT} (e:h.nsMap a x=some v):∃o,h.get? a=some o:=by
 unfold TB at e
 induction q:h.get? a using cO with
 |none=>exact aW (q▸e)
 |some o=>exact⟨o,rfl⟩
theorem Cs {h:kT} (e:h.isNs a=true):∃o,h.get? a=some o/\Io o (h.nsMap a):=jB (Heap.Ns.of_isNs e) λo es b c d f g=>⟨o,c,es,b,d,f,g⟩
section
variable {C:Cfg} {s:aN} {w:oK}
inductive FnAt C (x:afs):Prop
 |mk fd o (hK:Bh C x.a x.d fd) (df:fd.defaults=x.df) (co:fd.code= .ref (x.a-1)) (ho:C.K x.a=some o) (hc:o.cls= .type "function") (hd:o.data= .func fd):FnAt C x
theorem wB (S:Be C s.heap) (y:sO s=sG w) {i:Nat} {x} (A:fns[i]?=some x):FnAt C x:=by
 have b:=bh A
 have j:=iB.mp (map_eq aeG b)
 have l:=iB.mp j.1
 have m:=iB.mp l.1
 refine cz (JL (map_eq (f:=λx=>aeK s.heap x.a) (g:=λx=>some (zv "function",x.d.args,xc x.d.body,x.d.scope,bN,[],cx,x.df,nf (x.a-1),x.q)) (congrArg (λz=>z.2.1) y) b)) λo n B r e=>abP (YL (map_eq (f:=λx=>ahF s.heap (x.a-1)) (g:=λx=>some x.q) (congrArg (λz=>z.2.2.1) y) b)) λD vs t c h E=>?_
 have u:=S.k _ _ B (EH m.1) (EH m.2)
 have v:=congrArg (λz=>z.2.2.2.2.2.2.2.2.1) e
 exact .mk n o ⟨aP o u r,congrArg (λz=>z.2.1) e,congrArg (λz=>z.2.2.1) e,congrArg (λz=>z.2.2.2.1) e,congrArg (λz=>z.2.2.2.2.1) e,congrArg (λz=>z.2.2.2.2.2.1) e,congrArg (λz=>z.2.2.2.2.2.2.1) e,(JE (x.a-1) D vs t v (S.k _ _ c (EH l.2) (EH j.2)) h ((show n.qualname=x.q from congrArg (λz=>z.2.2.2.2.2.2.2.2.2) e)▸E))⟩ (congrArg (λz=>z.2.2.2.2.2.2.2.1) e) v u (congrArg (λz=>z.1) e) r
theorem aeL (S:Be C s.heap) (y:sO s=sG w) {i:Nat} {a} {d} {q} (b:fns[i]?=some ⟨a,d,q,.none⟩):pw C a d:=by
 obtain⟨c,o,e,f,g,h,j,k⟩:=wB S y b
 exact aP c e f
theorem lL (y:sO s=sG w) {i:Nat} {N} {x} {v} (b:WL[i]?=some (N,x,v)):s.heap.nsMap N x=v:=
 of_decide_eq_true (map_eq (f:=λx=>decide (s.heap.nsMap x.1 x.2.1=x.2.2)) (g:=λa=>true) (congrArg (λz=>z.2.2.2.2.2.2.2.2.1) y) (bh b))
structure afo (s:aN):Prop where
 n1:s.heap.isNs 138=true
 n2:s.heap.isNs 288=true
 nb:s.heap.isNs cx=true
 nm:s.heap.isNs om=true
 n3:s.heap.nsMap bN "__builtins__" =some (.ref 4)
 n4:s.heap.nsMap bN "law" =some (.ref 335)
theorem wl (y:sO s=sG w):afo s:=by
 have h:(s.heap.isNs 138&&s.heap.isNs 288&&s.heap.isNs cx&&s.heap.isNs om&&decide (s.heap.nsMap bN "__builtins__" =some (.ref 4))&&decide (s.heap.nsMap bN "law" =some (.ref 335)))=true:=congrArg (λz=>z.2.2.2.2.2.2.2.2.2.1) y
 exact⟨aL (aL (aL (aL (aL h)))),aR (aL (aL (aL (aL h)))),aR (aL (aL (aL h))),aR (aL (aL h)),of_decide_eq_true (aR (aL h)),of_decide_eq_true (aR h)⟩
theorem EG (S:Be C s.heap) {c N} (e:PU s.heap c=PV c N) (a:s.heap.isNs N=true) (b:c≠300) (d:c≠332) (f:N≠300) (g:N≠332):zm C c (s.heap.nsMap N):=by
 obtain⟨r,h⟩:=YH e
 exact aG (Cs a) λo i j=>⟨N,r,S.k _ _ h b d,o,S.k _ _ i f g,j⟩
theorem As (d:zm C c (s.heap.nsMap N)) (g:s.heap.nsMap N "__getattribute__" =none) (h:s.heap.nsMap N "__getattr__" =none) (i:s.heap.nsMap N m=some (.ref f)) (j:FnAt C x) (e:x.a=f) (t:pR "object" m=some y):ta C c m f:=by
 subst e
 obtain⟨k,o,q,r,u,l,b,n⟩:=j
 exact(aiG _ o k y d g h i l b n (Ra t))
theorem qA {i:Nat} (a:(["_convert_string_type","_read_char","get_token","push_token","get","add_header","_headers","lineno","pushback","whitespace","instream"]:List bD)[i]?=some x):pR "object" x=some none:=map_eq ZF (bh a)
def AllP {α:Type} (P:α->Prop):List α->Prop
 |[]=>True
 |x::l=>P x/\AllP P l
theorem Ef {l} (h:P x) (a:AllP P l):AllP P (x::l):=⟨h,a⟩
theorem af3 (h:AllP P l) {x} (a:x∈l):P x:=by
 induction l with
 |nil=>exact bw a
 |cons y l b=>exact(aE.mp a).elim (λe=>e▸h.1) (b h.2)
theorem agO (S:Be C s.heap) (y:sO s=sG w):ef C R2:=by
 have N:=wl y
 have l:[PU s.heap 139,PU s.heap 289]=[PV 139 138,PV 289 288]:=congrArg (λz=>z.2.2.2.2.1) y
 have o:=EG S (di l).1 N.n1 (by decide) (by decide) (by decide) (by decide)
 have q:=EG S (di (di l).2).1 N.n2 (by decide) (by decide) (by decide) (by decide)
 have mL:=λ{i j:Nat} {x} {f} {n} {v} (b:WL[i]?=some (138,n,some (.ref f))) (d:fns[j]?=some x) e (t:pR "object" n=some v)=>As o (lL y (i:=0) rfl) (lL y (i:=1) rfl) (lL y b) (wB S y d) e t
 have k:=λ{i j:Nat} {x} {f} {n} {v} (b:WL[i]?=some (288,n,some (.ref f))) (d:fns[j]?=some x) e (t:pR "object" n=some v)=>As q (lL y (i:=11) rfl) (lL y (i:=12) rfl) (lL y b) (wB S y d) e t
 refine⟨by kernel_rfl,λx v e=>?_,λr m c f e=>?_,λr x c e=>?_⟩
 ·have h:Uu s.heap (x,v)=true:=map_eq (g:=λa=>true) (congrArg (λz=>z.2.2.2.2.2.2.2.2.2.2) y) (yU e)
  exact af S.mg (af S.mb ((gV.mp h).imp of_decide_eq_true λh=>⟨of_decide_eq_true (aL h),of_decide_eq_true (aR h)⟩))
 ·have all:AllP (λp:(bD×bD)×bz×bz=>ta C p.2.1 p.1.2 p.2.2) R2.mt:=(Ef (k (i:=16) (j:=15) rfl rfl rfl (qA (i:=0) rfl)) (Ef (mL (i:=8) (j:=10) rfl rfl rfl (qA (i:=1) rfl)) (Ef (mL (i:=9) (j:=11) rfl rfl rfl (qA (i:=2) rfl)) (Ef (mL (i:=10) (j:=12) rfl rfl rfl (qA (i:=3) rfl)) (Ef (k (i:=17) (j:=16) rfl rfl rfl (qA (i:=4) rfl)) (Ef (k (i:=18) (j:=17) rfl rfl rfl (qA (i:=5) rfl)) trivial))))))
  exact af3 all (yU e)
 ·have aL:=λ{i} {x} (b:WL[i]?=some (138,x,none)) t=>((UE _ o (lL y (i:=0) rfl) (lL y (i:=2) rfl) (lL y b) (Ra t)):xR C 139 x)
  have all:AllP (λp:(bD×bD)×bz=>xR C p.2 p.1.2) R2.at_:=(Ef (UE _ q (lL y (i:=11) rfl) (lL y (i:=13) rfl) (lL y (i:=14) rfl) (Ra (qA (i:=6) rfl))) (Ef (aL (i:=3) rfl (qA (i:=7) rfl)) (Ef (aL (i:=6) rfl (qA (i:=8) rfl)) (Ef (aL (i:=5) rfl (qA (i:=9) rfl)) (Ef (aL (i:=4) rfl (qA (i:=10) rfl)) (Ef (aL (i:=3) rfl (qA (i:=7) rfl)) trivial))))))
  exact af3 all (yU e)
theorem Ka (S:Be C s.heap) (y:sO s=sG w) {c T} (e:O' s.heap c=Pa T) (f:c≠300) (g:c≠332) (cT:c≠T) (i:(4:Nat)≠T):zl C c T:=by
 exact Pq (LL e) λo vs j a a a k=>JX S.b λl m b2 n q=>⟨λh d=>k h (d _ _ (S.k _ _ j f g)) cT,λh d=>(afS 4 l (S.mg▸(wl y).n3) (by decide) (by decide) i (d _ _ m) b2 n q)⟩
theorem LN (S:Be C s.heap) (y:sO s=sG w) {i:Nat} {a b} {d} {q} {items} (c:fns[i]?=some ⟨a,d,q,.ref b⟩) (e:∃o n,s.heap.get? b=some o/\o.data= .seq items n) (f:b≠300) (b2:b≠332):aft C a d items:=by
 obtain⟨g,o,h,j,t,u,v,x⟩:=wB S y c
 exact iQ e λl n m r=>(JE g b l n h j (S.k _ _ m f b2) r)
theorem Us {h:bz->Option Obj} (t:h a=some (tabObj #[])) (e:h c=some b) (d:b.data= .seq items n):c≠a:=λz=>by
 rw[z,t] at e
 exact nomatch ab e▸d
theorem pP.of {K} (e:pP h p l) (k:∀a o,h a=some o->a≠300->a≠332->K a=some o) (f:h 300=some (tabObj #[])) (g:h 332=some (tabObj #[])) (i:p≠300) (j:p≠332):pP K p l:=by
 obtain⟨o,vs,c,m,q,e1,e2,e3,e4,e5,r,items,n,b,d,t⟩:=e.obj
 exact⟨o,vs,c,m,k _ _ q i j,e1,e2,e3,e4,e5,r,items,n,k _ _ b (Us f b d) (Us g b d),d,t⟩
theorem v_ (y:sO s=sG w):s.heap.get? 300=some (tabObj #[])/\s.heap.get? 332=some (tabObj #[]):=by
 have a:[ZH s.heap 300,ZH s.heap 332]=[some (true,none,0,0),some (true,none,0,0)]:=congrArg (λz=>z.2.2.2.2.2.2.2.1) y
 exact⟨IZ (di a).1,IZ (di (di a).2).1⟩
theorem afg (S:Be C s.heap) (y:sO s=sG w):agb C:=by
 have N:=wl y
 have l:[PU s.heap 139,PU s.heap 289]=[PV 139 138,PV 289 288]:=congrArg (λz=>z.2.2.2.2.1) y
 have u:=EG S (di l).1 N.n1 (by decide) (by decide) (by decide) (by decide)
 have m:[O' s.heap 304,O' s.heap 334]=[Pa 300,Pa 332]:=congrArg (λz=>z.2.2.2.1) y
 have n:[KE s.heap 159,KE s.heap 174,KE s.heap 229]=[some [(none,true),(some 1,true)],some [(none,true)],some [(none,true)]]:=congrArg (λz=>z.2.2.2.2.2.1) y
 have o:=(di n).2
 obtain⟨v,B,b,c,e,a,a,a⟩:=wB S y (i:=19) rfl
 obtain⟨x,O,f,h,j,a,a,a⟩:=wB S y (i:=25) rfl
 have r:[aal s.heap 153,aal s.heap 158]=[aam codeN,aam wJ]:=congrArg (λz=>z.2.2.2.2.2.2.1) y
 obtain⟨t,A⟩:=agy (di n).1
 have F:∀{i:Nat} {a} {d} {q},fns[i]?=some ⟨a,d,q,.none⟩->pw C a d:=(aeL S y)
 refine⟨⟨agO S y,S.g,F (i:=0) rfl,F (i:=1) rfl,F (i:=2) rfl,F (i:=3) rfl,F (i:=4) rfl,F (i:=5) rfl,F (i:=6) rfl,F (i:=7) rfl,F (i:=8) rfl,F (i:=12) rfl,F (i:=18) rfl,F (i:=20) rfl,F (i:=21) rfl,F (i:=22) rfl,F (i:=23) rfl,F (i:=24) rfl⟩,
  ⟨F (i:=15) rfl,⟨t,LN S y (i:=13) rfl A (by decide) (by decide)⟩,LN S y (i:=16) rfl (ZD (di (di o).2).1) (by decide) (by decide),LN S y (i:=14) rfl (ZD (di o).1) (by decide) (by decide),F (i:=17) rfl,As (EG S (di (di l).2).1 N.n2 (by decide) (by decide) (by decide) (by decide)) (lL y (i:=11) rfl) (lL y (i:=12) rfl) (lL y (i:=15) rfl) (wB S y (i:=14) rfl) rfl Nq,((Jq (di r).1).of S.k (v_ y).1 (v_ y).2 (by decide) (by decide)),?_⟩,
  F (i:=10) rfl,F (i:=11) rfl,F (i:=9) rfl,As u (lL y (i:=0) rfl) (lL y (i:=1) rfl) (lL y (i:=7) rfl) (wB S y (i:=9) rfl) rfl Nq,⟨v,304,b,c,e,(Ka S y (di m).1 (by decide) (by decide) (by decide) (by decide))⟩,⟨x,334,f,h,j,(Ka S y (di (di m).2).1 (by decide) (by decide) (by decide) (by decide))⟩⟩
 ·exact(Jq (di (di r).2).1).of S.k (v_ y).1 (v_ y).2 (by decide) (by decide)
end
section
variable {C:Cfg}
theorem agu (A:agb C) (f:∀a b c d,rX (yw a b c d)) {h} (i:h.length<=1000) {Q:EPost} (q:∀τ ps g,τ[0]?=some (.ei (gA 300 ps) 0)->τ[1]?=some (.ei (gA 332 g) 1)->Q (.bool true) τ):
  (PM C R2 200).eK 335 [.lst (iC h)] [] [.ei (gA 300 #[]) 0,.ei (gA 332 #[]) 1] Q:=by
 have e:=A.pf.rd
 exact agr (ℓ:=100) e (Zz A.pf (by decide)) (Zu e (ac' e A.li A.lm (ai _)) A.lx (by decide)) ⟨Zv e (by decide),Nh A.pf (by decide),Yq A.pf (by decide),Rp e A.pf A.ph (by decide),ago A.pf (by decide),VK A.pf A.tk (by decide),agp A.pf (by decide),agn e A.rc A.tk (by decide)⟩ A.lw f i (by decide) q
end
theorem aic {vs} {a} (h:IntsAre vs a):bM F O (iC a) vs:=by
 induction h with
 |nil=>rfl
 |cons _ t _ b=>exact eA _ _ rfl (cw.mpr ⟨t,rfl⟩) b
set_option tactic.hygienic true
set_option backward.match.sparseCases true
theorem Ju {h b:kT} (e:h.get? a=some o) (c:b.get? a=some o):b.nsMap a=h.nsMap a:=by
 funext x
 unfold TB
 rw[e,c]
noncomputable def Pf (h:kT) (a:bz):Option Obj:=if a=300\/a=332 then none else h.get? a
theorem rR (e:h.get? a=some o) (b:a≠300) (c:a≠332):Pf h a=some o:=by
 unfold Pf
 exact af (if_neg λq=>q.elim b c) e
theorem Yh (e:Pf h a=some o):h.get? a=some o:=by
 by_cases q:a=300\/a=332
 ·exact aW ((if_pos q).symm.trans e)
 ·exact((if_neg q).symm.trans e)
noncomputable abbrev jy:List Addr:=[300,332]
noncomputable abbrev ah5:aZ:=[.ei (gA 300 #[]) 0,.ei (gA 332 #[]) 1]
def aja (c:CV) (τ:aZ):Prop:=c= .bool true/\∃ps a,τ[0]?=some (.ei (gA 300 ps) 0)/\τ[1]?=some (.ei (gA 332 a) 1)
section
variable {w:oK} {ek dm:aN} {mg mb:bD->Option bq}
noncomputable abbrev aca (w:oK) (dm:aN) (mg mb:bD->Option bq):Cfg:=⟨aaf,w,[],λ_=> #[],Pf dm.heap,mg,mb⟩
theorem ZT (G:Ground qv AB tx.records (λ_ _=>True) w ek mg mb dm.heap) (y:sO ek=sG w) (l:∀a o,ek.heap.get? a=some o->dm.heap.get? a=some o):Be (aca w dm mg mb) ek.heap:=by
 have N:=wl y
 have n3:=N.n3
 obtain⟨r,i⟩:=adN n3
 refine aG (Cs N.nb) λs j a=>?_
 have e1:mg=ek.heap.nsMap mainGlobals:=G.T.g.eq_nsMap.trans (Ju i (l _ _ i))
 refine⟨λa o e c=>rR (l a o e) c,e1,(G.T.b.eq_nsMap.trans (Ju j (l _ _ j))),⟨(jB G.T.g λo es k c d f h=>⟨o,rR c (by decide) (by decide),es,k,d,f,h⟩),(jB G.T.b λo es k c d f h=>⟨o,rR c (by decide) (by decide),es,k,d,f,h⟩),(aG (Cs N.nm) λo n a=>⟨o,rR (l _ _ n) (by decide) (by decide)⟩),?_⟩,?_⟩
 ·obtain⟨q,⟨o,es,k,c,d,f,h⟩,m⟩:=G.T.nolimit
  exact(eA o q (rR c (by decide) (by decide)) (eA es k d f h) m)
 ·refine aiW G.T.bmain λt o c a d f h m=>?_
  rw[e1,n3] at c
  cases c
  exact(OV o (rR d (by decide) (by decide)) f h m)
theorem gp (S:Be (aca w dm mg mb) ek.heap) (f:dm.heap.get? 300=some (tabObj #[])) (l:dm.heap.get? 332=some (tabObj #[])) (n:dm.gens= #[]) (q:0<dm.toks):Nw (aca w dm mg mb) ⟨aaf,w,Pf dm.heap⟩ jy ah5 dm:=by
 refine⟨⟨rfl,rfl,λa a e=>e,λa=>bw,S.g.g,S.g.b,S.g.Ja,S.g.lim⟩,λa o=>Yh,⟨n▸AllBare.empty,λa=>bw,q⟩,⟨rfl,λi j a c d=>?_,λa h=>?_,λi a m c d=>?_⟩⟩
 ·have k:∀{i},jy[i]?=some a->i=cond (dB a 300) 0 1:=λ{i} h=>by
   match i,h with
   |0,h=>refine eh (ab h) ?_;rfl
   |1,h=>refine eh (ab h) ?_;rfl
   |_+2,h=>exact aW h
  exact(k c).trans (k d).symm
 ·rcases aE.mp h with rfl|h
  ·exact⟨show(if 300=300\/300=332 then none else dm.heap.get? 300)=none from if_pos (Or.inl rfl),bw,aU f⟩
  rcases aE.mp h with rfl|h
  ·exact⟨show(if 332=300\/332=332 then none else dm.heap.get? 332)=none from if_pos (Or.inr rfl),bw,aU l⟩
  exact bw h
 ·match i,c,d with
  |0,c,d=>have c:=ab c;subst c;have d:=ab d;subst d;exact eA _ 300 f rfl λa a=>⟨rfl,rfl⟩
  |1,c,d=>have c:=ab c;subst c;have d:=ab d;subst d;exact eA _ 332 l rfl λa a=>⟨rfl,rfl⟩
  |_+2,c,_=>exact aW c
theorem ahG (r:∀a b c d,rX (yw a b c d)) (G:Ground qv AB tx.records (λ_ _=>True) w ek mg mb dm.heap) (y:sO ek=sG w) {m} {vs} {s} {L} (i:Laid tx.records w ek dm [ofPy (PyData.list (s.map PyData.int))] [.ref m] L) (M:dm.heap.IsList m vs.toArray) (N:IntsAre vs s) (O:s.length<=1000):
  aD (aI aaf w) callerA (call (.ref 335) [.ref m]) (λv u=>v= .bool true/\OldK dm.heap u.heap/\u.os=dm.os/\rq u.gens) a_ dm:=by
 have S:=ZT G y i.keeps
 have A:=afg S y
 have tt:=v_ y
 have H:=i.keeps _ _ tt.1
 have I:=i.keeps _ _ tt.2
 have n:335<m:=by
  rw[(QL i).1]
  have P:=map_eq (f:=λx:afs=>aeK ek.heap x.a) (g:=λx:afs=>some (zv "function",x.d.args,xc x.d.body,x.d.scope,bN,[],cx,x.df,nf (x.a-1),x.q)) (congrArg (λz=>z.2.1) y) (bh (show fns[25]?=some ⟨335,lc,aa "law",.none⟩ from rfl))
  exact iQ (JL P) λo fd R a=>aU R
 have J:[O' ek.heap 304,O' ek.heap 334]=[Pa 300,Pa 332]:=congrArg (λz=>z.2.2.2.1) y
 refine Pq (LL (di J).1) λT t B Y Z a3 a=>Pq (LL (di (di J).2).1) λo2 C D b1 b2 b3 a=>?_
 refine letQ ?_;intro Q_;refine ao ((agu A r O (Q:=aja) λτ ps j E F=>⟨rfl,ps,j,E,F⟩).2 callerA _ jy dm [.ref m] [] (fg rfl (by decide) (by decide)) (gp S H I i.gens (av (by decide:0<802) (MV i (congrArg (λz=>z.1) y)))) (eA _ _ rfl (NW.mpr (jq m _ _ rfl (rR (Qr i M) (bZ (il (by decide) n)) (bZ (il (by decide) n))) ⟨_,rfl⟩ (aic N))) rfl) rfl) (λv u h=>?_) λa a h=>h
 obtain⟨F',aH,aO,c,g,rv,rfl,ps,j,E,F⟩:=h
 have keep:∀b o,b≠300->b≠332->dm.heap.get? b=some o->u.heap.get? b=some o:=λb o k l e=>g.ext.keep b o (bw) (λh=>(aE.mp h).elim k λh=>(aE.mp h).elim l bw) e
 refine cz (g.dj.at_ 0 300 _ (g.jo 0 300 rfl) E) λo3 a0 e1 e2 e3=>?_
 obtain⟨rfl,a⟩:=e3 F' (.refl _)
 refine cz (g.dj.at_ 1 332 _ (g.jo 1 332 rfl) F) λo4 a4 f1 f2 f3=>?_
 obtain⟨rfl,a⟩:=f3 F' (.refl _)
 refine(iJ (iE.mp rv) ⟨λb o e=>?_,λb o e=>?_⟩ g.ext.os g.ext.base.bare)
 ·by_cases k:b=300
  ·subst k
   obtain rfl:=ab (H.symm.trans e)
   exact .inr (.inl ⟨(jq 304 T t (i.keeps _ _ B) Y Z a3),rfl,#[],ps,rfl,by rw[e1,ox]⟩)
  by_cases l:b=332
  ·subst l
   obtain rfl:=ab (I.symm.trans e)
   exact .inr (.inl ⟨(jq 334 o2 C (i.keeps _ _ D) b1 b2 b3),rfl,#[],j,rfl,by rw[f1,ox]⟩)
  exact .inl (keep b o k l e)
 ·by_cases k:b=300
  ·exact⟨_,k▸e1⟩
  by_cases l:b=332
  ·exact⟨_,l▸f1⟩
  exact⟨o,keep b o k l e⟩
theorem walk2 (k:∀a b c d,rX (yw a b c d)) {d} {l} (m:d.name=aa "law"):WalkX qv AB (λ_ _=>True) sO sG (OpenRow.toRowW tx) d l λf vs=>PySem.call f vs:=by
 intro w ek dm mg mb G y L o M cd z N O P Q A R g T args t W x i j n q r
 wrow_args i j n q r
 rename_i X Y _ _ _ _ B C Z vs _ D ra E r0 F hr hc _
 have S:=ZT G y x.keeps
 rw[m,show mg=_ from S.mg,(wl y).n4] at g
 cases g
 exact ao (ahG k G y x D F (by lia)) (λv u h=>UT h λs H I J=>af s ((iJ (.inl (aiL _ _ [] rfl (λa=>rfl) (ReadsW.bool true) (by wrow_post) λa=>⟨List.nodup_nil,λa=>bw⟩)) H I J))) λe u=>ar
end
set_option tactic.hygienic false
set_option backward.match.sparseCases false
section
set_option maxHeartbeats 0
theorem aiX:∃d a,defOf qv tx.name=some (d,a)/\d.name=aa "law" /\tx.prog.theDef tx.name=some (d.params,d.body,d.scope)/\kwWritten? d.params.kwonlyargs d.params.kw_defaults=some a:=by
 have b:(defOf qv tx.name).isSome=true:=by kernel_rfl
 have c:(defOf qv tx.name).map (λp=>p.1.name)=some (aa "law"):=by kernel_rfl
 have e:(defOf qv tx.name).map (λp=>(p.1.params,p.1.body,p.1.scope))=tx.prog.theDef tx.name:=by kernel_rfl
 have f:(defOf qv tx.name).map (λp=>kwWritten? p.1.params.kwonlyargs p.1.params.kw_defaults)=(defOf qv tx.name).map λp=>some p.2:=by kernel_rfl
 induction h:defOf qv tx.name using cO with
 |none=>rw[h] at b;exact bV b
 |some p=>
  rw[h] at c e f
  exact(oW p.1 p.2 rfl (ab c) e.symm (ab f))
theorem ahJ:tx.prog.bare:=(abj rfl rfl rfl rfl rfl (by decide+kernel))
theorem agS:tx.toRowW.promised:=by w_witness2
theorem aa3 (g:∀a b c d,rX (yw a b c d)):iP.Holds:=Pr aiX λd h i j k l=>holds_law agL λf=>holds_openX (r:=tx) (q:=qv) (loose:=AB) (Xt:=λe=>true) (XP:=λe e=>True) (Yf:=sO) (Ya:=sG) (N:=4100) ag6 (λe e=>trivial) (λe e e e e=>trivial) i k l (λs e=>recFacts_of rfl) rfl f adI ahJ agS (walk2 g j)
end
end Internal
namespace Internal
open PySem PySem.Float64
def Fs (a:Bool) (x:UInt64):Prop:=∃m e,decode x= .fin a m e
def Fn (x:UInt64):Prop:=∃a,Fs a x
theorem GN (d:a<=b+c) (e:b<=a+c):dist a b<=c:=by
 unfold dist
 rcases MM a b with h|h
 ·rw[vT h,dJ];exact kU.mpr e
 ·exact af (vT h) (kU.mpr d)
theorem wt a b:a<=b+dist a b/\b<=a+dist a b:=
 ⟨kU.mp (ba _ _),kU.mp (cR _ _)⟩
theorem ahS:∀k q,q<=2^53->∃t,V t=q*2^k:=by
 intro k
 induction k with
 |zero=>exact λq h=>⟨0*2^52+q,V_at h (.inr rfl)⟩
 |succ k b=>
  intro q h
  rcases MM (2^52) q with a|a
  ·exact⟨(k+1)*2^52+q,V_at h (.inl a)⟩
  ·exact eY (b (2*q) (aX 2 a)) λt e=>⟨t,by rw[e,Nat.pow_succ,fa 2 q,lG,fa 2]⟩
theorem BY {neg} (h:Right r neg W D) (i:W<D*2^1081):∃t,r=pack neg t/\t<infMag/\∀b,dist W (D*V t)<=dist W (D*V b):=by
 refine JX h λt c d f j=>af c ?_
 have a:t<infMag:=Nat.lt_of_le_of_ne d λe=>by
  have g:=ag (aX D (dN (by decide+kernel):2*2^1081<=(2^54-1)*2^2045)) (f.mp e)
  rw[lV] at g
  exact vy.mpr i (sr g (by decide))
 exact(eJ t rfl a (λb=>(j a b).1))
theorem Gr s (h:t<infMag):Fs s (pack s t):=iQ (decode_pack s h) λm e b a=>sT m e b
theorem NU {neg} (h:Right r neg W D) (j:0<D) (b:W<D*2^1081):Fs neg r/\∃T:Nat,val r=sgn neg T/\W<=D*T+D*2^1028/\D*T<=W+D*2^1028:=by
 refine oH (BY h b) λt a c k=>af a ?_
 obtain⟨l,e⟩:=ahS 1028 (W/(D*2^1028)) (eG (xk (by rw[lG];exact b)))
 have d:=k l
 rw[e,lV,fa (W/_)] at d
 have f:=Nat.lt_mul_div_succ W (iw j (gY _):0<D*2^1028)
 rw[xj,QG] at f
 have g:=ag d (GN (eG f) (ag (Nat.mul_div_le ..) (ba _ _)))
 have i:=wt W (D*V t)
 exact⟨Gr neg c,V t,val_pack neg c,ag i.1 (bJ g _),ag i.2 (bJ g _)⟩
theorem ahT (h:V t=V a):t=a:=by
 rcases BB t a with q|q|q
 ·exact absurd h (bj (V_lt q))
 ·exact q
 ·exact absurd h.symm (bj (V_lt q))
noncomputable def dy (n k:Nat):UInt64:=ofFrac false n (2^k)
structure Dy k n:Prop where
 e:dy n k=pack false (dy n k).toNat
 l:(dy n k).toNat<infMag
 v:V (dy n k).toNat=n*2^(1074-k)
 b:n*2^(1074-k)<2^1081
noncomputable def aeW (k n:Nat):Bool:=dB (dy n k).toNat (pack false (dy n k).toNat).toNat&&(qc (dy n k).toNat infMag&&(dB (V (dy n k).toNat) (n*2^(1074-k))&&qc (n*2^(1074-k)) (2^1081)))
theorem Dy.of (h:aeW k n=true):Dy k n:=⟨CP.mp (bC (aL h)),dN (aL (aR h)),bC (aL (aR (aR h))),dN (aR (aR (aR h)))⟩
theorem LW:((bc 9).all (aeW 3)&&((bc 129).all (aeW 6)&&(bc 257).all (aeW 7)))=true:=by kernel_rfl
section
variable {a b k n:Nat}
theorem Dy.fs (h:Dy k n):∃m e,decode (dy n k)= .fin false m e:=h.e▸Gr false h.l
theorem Dy.val (h:Dy k n):val (dy n k)=((n*2^(1074-k):Nat):Int):=by refine af h.e (af (val_pack false h.l) (af h.v ?_));rfl
theorem Jm (h:Right r false W D) (f:0<D) (d:Dy k n) (e:D*(n*2^(1074-k))=W):r=dy n k:=by
 refine oH (BY h (e▸Nat.mul_lt_mul_of_pos_left d.b f)) λt i a j=>?_
 have g:=j (dy n k).toNat
 have c:=wt W (D*V t)
 rw[d.v,e,show dist W W=0 by unfold dist;rw[dw]] at g
 rw[Nat.le_zero.mp g] at c
 exact af i (af d.e (congrArg (pack false) (ahT ((su f ((nY c.2 c.1).trans e.symm)).trans d.v.symm))))
theorem abQ:dy 0 k=zero false:=by
 unfold dy ofFrac zero roundMag
 rw[if_pos (show(0==0)=true from rfl)]
theorem JP (c:(S=0->r=zero false)/\(S≠0->Right r (decide (S<0)) S.natAbs 1)) (d:Dy k n) (e:S=((n*2^(1074-k):Nat):Int)):r=dy n k:=by
 subst e
 by_cases f:n=0
 ·subst f
  exact abQ▸c.1 (by rw[Bz];rfl)
 ·exact Jm (c.2 (jM.mpr (bZ (iw (Nat.pos_of_ne_zero f) (gY _))))) QE d (oL _)
theorem Ew (c:Dy k a) (d:Dy k b) (h:Dy k (a-b)) (e:b<=a):sub (dy a k) (dy b k)=dy (a-b) k:=nu c.fs λa a f=>nu d.fs λa a g=>JP (sub_right f g) h (by rw[c.val,d.val,Nat.sub_mul,yH (cP _ e)])
theorem afj (c:Dy k a) (d:Dy k b) (h:Dy k (a+b)):add (dy a k) (dy b k)=dy (a+b) k:=nu c.fs λa a e=>nu d.fs λa a f=>JP (add_right e f) h (by rw[c.val,d.val,ix];rfl)
theorem ae1 (c:Dy k a) (d:Dy k b):cmp (dy a k) (dy b k)=some (compare a b):=by
 refine nu c.fs λz z f=>nu d.fs λz z g=>af (cmp_right f g) (af c.val (af d.val ?_))
 have e:0<2^(1074-k):=gY _
 rcases BB a b with h|h|h
 ·rw[BC.mpr h,Int.compare_eq_lt.mpr (eH.mpr (fH h e))]
 ·rw[h,BE.mpr rfl,Int.compare_eq_eq.mpr rfl]
 ·rw[BD.mpr h,Int.compare_eq_gt.mpr (eH.mpr (fH h e))]
theorem Dy.nz {e} (h:Dy k n) (f:0<n) (d:decode (dy n k)= .fin false m e):m≠0:=λz=>by
 have c:=val_natAbs d
 rw[h.val,z,Bz] at c
 exact bZ (iw f (gY _)) c
theorem PA (i:Dy 3 m) (f:Dy k a) (d:Dy k b) (c:0<b) (e:8*a=m*b):div (dy a k) (dy b k)=dy m 3:=by
 refine nu f.fs λz z j=>nu d.fs λz z g=>?_
 have h:=div_right j g (d.nz c g)
 rw[f.val,d.val,sk,sk] at h
 refine Jm h (iw c (gY _)) i ?_
 rw[(by rw[show 1074=3+(1074-3) from rfl,QD]:2^1074=8*2^(1074-3)),mG,fa b,<-e,fa 8 a,mG]
theorem SI (c:Dy k a) (e:0<a):fo (dy a k)=false:=by
 refine nu c.fs λm a d=>?_
 unfold fo
 refine af d ?_
 induction m using cN with
 |zero=>exact absurd rfl (c.nz e d)
 |succ m=>rfl
end
section
variable {α:Type} {f:Nat->α} {gt:α->α->Bool} {x y r g b m M:Nat}
theorem max2 (c:gt (f y) (f x)=decide (x<y)):cond (gt (f y) (f x)) (f y) (f x)=f (max x y):=by
 rw[c]
 by_cases q:x<y
 ·rw[decide_eq_true q,Nat.max_eq_right (eG q)];rfl
 ·rw[decide_eq_false q,Nat.max_eq_left (bL.mp q)];rfl
theorem min2 (c:gt (f y) (f x)=decide (y<x)):cond (gt (f y) (f x)) (f y) (f x)=f (min x y):=by
 rw[c]
 by_cases q:y<x
 ·rw[decide_eq_true q,CZ (eG q)];rfl
 ·rw[decide_eq_false q,gZ (bL.mp q)];rfl
theorem afL (c:∀{x y},x<=m->y<=m->gt (f y) (f x)=decide (x<y)) (a:r<=m) (d:g<=m) (e:b<=m) (h:r=m\/g=m\/b=m):
  cond (gt (f b) (cond (gt (f g) (f r)) (f g) (f r))) (f b) (cond (gt (f g) (f r)) (f g) (f r))=f m:=by
 refine af (max2 (c a d)) (af (max2 (c (HL.mpr ⟨a,d⟩) e)) (congrArg f (nY (HL.mpr ⟨HL.mpr ⟨a,d⟩,e⟩) ?_)))
 rcases h with h|h|h
 ·exact h▸ag (vK ..) (vK ..)
 ·exact h▸ag (C_ ..) (vK ..)
 ·exact h▸C_ ..
theorem afJ (c:∀{x y},x<=M->y<=M->gt (f y) (f x)=decide (y<x)) (i:m<=r) (j:m<=g) (k:m<=b) (a:r<=M) (d:g<=M) (e:b<=M) (h:r=m\/g=m\/b=m):
  cond (gt (f b) (cond (gt (f g) (f r)) (f g) (f r))) (f b) (cond (gt (f g) (f r)) (f g) (f r))=f m:=by
 refine af (min2 (c a d)) (af (min2 (c (ag (fq ..) a) e)) (congrArg f (nY ?_ (TN.mpr ⟨TN.mpr ⟨i,j⟩,k⟩))))
 rcases h with h|h|h
 ·exact h▸ag (fq ..) (fq ..)
 ·exact h▸ag (fq ..) (fx ..)
 ·exact h▸fx ..
end
structure afk kr kg kb:Prop where
 r:kr<=8
 g:kg<=8
 b:kb<=8
 top:kr=8\/kg=8\/kb=8
 low:kr=0\/kg=0\/kb=0
noncomputable def tY (kr kg kb:Nat):UInt64:=Sp (kr==8) (kg==8) (dy (8-kr) 3) (dy (8-kg) 3) (dy (8-kb) 3)
theorem adP (h:Fs a x):eX x=false:=by
 refine nu h λm e h=>?_
 unfold eX
 rw[h]
theorem Yi (c:0<b) (h:a<=100*b):eX (ofFrac false a b)=false:=by
 obtain⟨t,e,d,a⟩:=BY (ofFrac_right c rfl c) (by
  rw[show 1081=7+1074 from rfl,QD,lV]
  refine bP ?_ (fH (by decide) (iw c (gY _)):100*(b*2^1074)<2^7*(b*2^1074))
  rw[<-lG]
  exact cP _ h)
 exact af e (adP (Gr false d))
theorem xG (c:0<b) (h:a<=100*b):iI (a:Nat) (b:Nat)=some (ofFrac false a b):=by
 unfold iI
 have e:oF a b=ofFrac false a b:=by
  rfl
 refine af e (af (beq_eq_false_iff_ne.mpr (jM.mpr (bZ c))) (af (Yi c h) ?_))
 rfl
theorem Cz (h:fo b=false):Ie a b=some (iu a b):=by
 unfold Ie
 refine af h ?_;rfl
theorem PE {x y:Nat}:decide ((x:Int)<y)=decide (x<y):=decide_eq_decide.mpr eH
theorem Ba {x y:Nat}:((x:Int)==(y:Int))=(x==y):=by rw[fR,beq_iff_eq,beq_iff_eq];exact yI
noncomputable def ah3 (sp j:Nat):Bool:=dB (ofFrac false (sp*(8-j)) (sp*8)).toNat (dy (8-j) 3).toNat
theorem Wb:((bc 4).all λs=>(bc 9).all (ah3 (s+1)))=true:=by kernel_rfl
section
variable {W sp kr kg kb:Nat}
theorem qe (h:j<=8):W+sp*j<=W+sp*8:=bJ (aX sp h) W
theorem yK (h:j=8):W+sp*j=W+sp*8:=h▸rfl
theorem BO (h:j=0):W+sp*j=W:=h▸rfl
theorem Kz (a:1<=sp):(W+sp*j==W+sp*8)=(j==8):=by
 rw[fR,beq_iff_eq,beq_iff_eq]
 exact⟨λh=>su a (jU h),yK⟩
theorem afv (a:1<=sp):(W==W+sp*8)=false:=beq_eq_false_iff_ne.mpr (bj (fL (iw a (by decide))))
theorem v_sub (h:j<=8):((W+sp*8:Nat):Int)-((W+sp*j:Nat):Int)=((sp*(8-j):Nat):Int):=by
 rw[Eo,Eo,Int.add_sub_add_left,QF,yH (aX sp h)]
theorem OZ (t:afk kr kg kb) (c:1<=sp) (l:sp<=4):∃s v,DD ((W+sp*kr:Nat):Int) ((W+sp*kg:Nat):Int) ((W+sp*kb:Nat):Int)=some (tY kr kg kb,s,v):=by
 have d:oT ((W+sp*kr:Nat):Int) [((W+sp*kg:Nat):Int),((W+sp*kb:Nat):Int)]=((W+sp*8:Nat):Int):=
  afL (gt:=λa b=>decide (a>b)) (λa a=>PE) (qe t.r) (qe t.g) (qe t.b) (t.top.imp yK (MJ yK yK))
 have e:oS ((W+sp*kr:Nat):Int) [((W+sp*kg:Nat):Int),((W+sp*kb:Nat):Int)]=(W:Int):=
  afJ (gt:=λa b=>decide (a<b)) (λa a=>PE) (ba ..) (ba ..) (ba ..) (qe t.r) (qe t.g) (qe t.b) (t.low.imp BO (MJ BO BO))
 have k:0<sp*8:=iw c (by decide)
 have m:((W+sp*8:Nat):Int)-(W:Int)=((sp*8:Nat):Int):=v_sub (dY 8)
 have f:∀{j},j<=8->iI ((sp*(8-j):Nat):Int) ((sp*8:Nat):Int)=some (dy (8-j) 3):=λ{j} h=>by
  refine eY (tK c) λs i=>?_;subst i
  exact af (xG k (ag (aX _ (eL 8 j)) (fV _ (by decide)))) (congrArg some (CP.mp (bC (allR (allR Wb l) (dA h)))))
 unfold DD
 rw[d,e,Ba,afv c,Ba,Ba,Kz c,Kz c,v_sub t.r,v_sub t.g,v_sub t.b,m,f t.r,f t.g,f t.b,xG (av k (cR _ _)) (ag (cR _ W) (fV _ (by decide)))]
 exact sT _ _ rfl
structure DK k N:Prop where
 d:∀{n},n<=N->Dy k n
 two:(4611686018427387904:UInt64)=dy N k
theorem aj6:DK 6 128:=⟨λh=> .of (allR (aL (aR LW)) (dA h)),by decide+kernel⟩
theorem aj5:DK 7 256:=⟨λh=> .of (allR (aR (aR LW)) (dA h)),by decide+kernel⟩
variable {k N:Nat}
theorem Ma (c:Dy k a) (d:Dy k b) o:(cmp (dy a k) (dy b k)==some o)=(compare a b==o):=by
 refine af (ae1 c d) ?_;induction compare a b using CW<;>induction o using CW<;>rfl
theorem aeE {a b:Nat}:(compare a b==Ordering.gt)=decide (b<a):=by
 rw[fR,beq_iff_eq,decide_eq_true_iff];exact BD
theorem adZ {a b:Nat}:(compare a b==Ordering.lt)=decide (a<b):=by
 rw[fR,beq_iff_eq,decide_eq_true_iff];exact BC
theorem aeR {a b:Nat}:(compare a b==Ordering.eq)=(a==b):=by
 rw[fR,beq_iff_eq,beq_iff_eq];exact BE
theorem O_ (D:DK k N) (t:afk kr kg kb) (w:1<=sp) (m:W+sp*8+W<N):∃l s,yv (dy (W+sp*kr) k) (dy (W+sp*kg) k) (dy (W+sp*kb) k)=some (tY kr kg kb,l,s):=by
 have Co:∀{n},n<=W+sp*8->Dy k n:=λh=>D.d (ag h (ag (ba _ W) (eG m)))
 have E:Dy k (W+sp*8+W):=D.d (eG m)
 have i:Dy k (W+sp*8):=Co (ai _)
 have z:Dy k W:=Co (ba _ _)
 have A:0<sp*8:=iw w (by decide)
 have B:Dy k (sp*8):=Co (cR _ _)
 have c:mx (dy (W+sp*kr) k) (dy (W+sp*kg) k) (dy (W+sp*kb) k)=dy (W+sp*8) k:=
  afL (gt:=λa b=>cmp a b==some .gt) (λo q=>(Ma (Co q) (Co o) .gt).trans aeE) (qe t.r) (qe t.g) (qe t.b) (t.top.imp yK (MJ yK yK))
 have f:mn (dy (W+sp*kr) k) (dy (W+sp*kg) k) (dy (W+sp*kb) k)=dy W k:=
  afJ (gt:=λa b=>cmp a b==some .lt) (λo q=>(Ma (Co q) (Co o) .lt).trans adZ) (ba ..) (ba ..) (ba ..) (qe t.r) (qe t.g) (qe t.b) (t.low.imp BO (MJ BO BO))
 have lN:∀{x y},x<=W+sp*8->y<=W+sp*8->x_ (dy x k) (dy y k)=(x==y):=λo q=>(Ma (Co o) (Co q) .eq).trans aeR
 have es:W+sp*8-W=sp*8:=ed ..
 have C:rg (dy (W+sp*kr) k) (dy (W+sp*kg) k) (dy (W+sp*kb) k)=dy (sp*8) k:=by
  unfold rg
  rw[c,f,Ew i z (af es B) (ba _ _),es]
 have u:∃s,ZV (dy (W+sp*kr) k) (dy (W+sp*kg) k) (dy (W+sp*kb) k)=some s:=by
  unfold ZV
  induction abG (lt (dy (W+sp*kr) k) (dy (W+sp*kg) k) (dy (W+sp*kb) k)) 4602678819172646912 using cB with
  |true=>
   refine⟨_,Cz ?_⟩
   unfold sm
   exact af c (af f (af (afj i z E) (SI E (av A (ag (cR _ W) (ba _ W))))))
  |false=>
   refine⟨_,Cz ?_⟩
   rw[c,f,D.two,Ew (D.d (ai _)) i (D.d (eL ..)) (ag (ba _ W) (eG m)),Ew (D.d (eL ..)) z (D.d (ag (eL ..) (eL ..))) (Nat.le_sub_of_add_le' (eG m))]
   exact SI (D.d (ag (eL ..) (eL ..))) (Nat.sub_pos_of_lt (Nat.lt_sub_iff_add_lt'.mpr m))
 have i:∀{j},j<=8->Ie (cq (dy (W+sp*8) k) (dy (W+sp*j) k)) (dy (sp*8) k)=some (dy (8-j) 3):=λ{j} h=>by
  have e:W+sp*8-(W+sp*j)=sp*(8-j):=by rw[Nat.add_sub_add_left,QF]
  have F:Dy k (sp*(8-j)):=Co (ag (aX sp (eL 8 j)) (cR _ _))
  exact af (Cz (SI B A)) (af (Ew i (Co (qe h)) (e▸F) (qe h)) (af e (congrArg some (PA (.of (allR (aL LW) (dA (eL 8 j)))) F B A (by rw[<-lG,fa 8,fa])))))
 have v:UH (dy (W+sp*kr) k) (dy (W+sp*kg) k) (dy (W+sp*kb) k)=some (tY kr kg kb):=by
  unfold UH
  rw[C,c,i t.r,i t.g,i t.b,lN (qe t.r) (ai _),lN (qe t.g) (ai _),Kz w,Kz w]
  rfl
 obtain⟨s,G⟩:=u
 unfold yv
 rw[f,c,lN (ba _ _) (ai _),afv w,G,v]
 exact sT _ _ rfl
end
noncomputable def aiQ (j a:Nat):Nat:=min ((j+48-a)%48) ((a+48-j)%48)
noncomputable def kN (j a:Nat):Nat:=min 8 (16-aiQ j a)
noncomputable def kM (j b a:Nat):Nat:=kN j a+kN ((j+b)%48) a
noncomputable def pK (j a:Nat):Nat:=min (kM j a 0) (min (kM j a 16) (kM j a 32))
noncomputable def kX (j a b:Nat):Nat:=kM j a b-pK j a
noncomputable def Ub (a b c:Nat):Bool:=tm a 8&&(tm b 8&&(tm c 8&&((dB a 8||(dB b 8||dB c 8))&&(dB a 0||(dB b 0||dB c 0)))))
theorem Ua {a b c:Nat} (h:Ub a b c=true):afk a b c:=by
 simp only[Ub,cW,jv,Nat.ble_eq,Nat.beq_eq] at h
 exact⟨h.1,h.2.1,h.2.2.1,h.2.2.2.1,h.2.2.2.2⟩
noncomputable def ah4 (j:Nat):Bool:=Ub (kN j 0) (kN j 16) (kN j 32)&&(Cx (tY (kN j 0) (kN j 16) (kN j 32))&&(eg (tY (kN j 0) (kN j 16) (kN j 32)) 1==some .lt&&(match xZ (tY (kN j 0) (kN j 16) (kN j 32)) with
 |some k=>decide (k.fmod 48=(j:Nat))
 |none=>false)))
noncomputable def Ab (j a:Nat) (lo:Int) (x:UInt64):Bool:=match xZ x with
 |some k=>decide (lo<=k+24)&&(decide (k+24<112)&&decide (((k+24).fmod 48).toNat=(j+48-a)%48))
 |none=>false
noncomputable def ZK (j a:Nat):Bool:=Ub (kX j a 0) (kX j a 16) (kX j a 32)&&(tm (pK j a) 8&&(Ab j a 0 (tY (kX j a 0) (kX j a 16) (kX j a 32))&&Ab j a (-24) (cq (tY (kX j a 0) (kX j a 16) (kX j a 32)) (dn 1))))
theorem Wc:(bc 48).all ah4=true:=by kernel_rfl
theorem ado:(bc 48).all (λj=>ZK j 16)=true:=by kernel_rfl
theorem adn:(bc 48).all (λj=>ZK j 32)=true:=by kernel_rfl
noncomputable def fk:Nat:=3298534883328
noncomputable def fu:Nat:=2^1074
noncomputable def fe:Nat:=2^1028
theorem AJ:0<fu:=gY _
theorem abE:fe*fk<=fu:=dN (by decide+kernel)
theorem aeM (h:Fs a x):Fn x:=⟨a,h⟩
theorem Wn (d:a<=b+c) (e:b<=a+c):(sgn s a-sgn s b).natAbs<=c:=by
 have h:((a:Int)-b).natAbs<=c:=by grind-abstractProof only
 induction s using cB with
 |false=>exact h
 |true=>
  show(-(a:Int)- -b).natAbs<=c
  rw[Int.sub_neg,iZ,<-zH,<-QI,sj]
  exact h
theorem Fp (h:Right r s W D) (a:0<D) (b:W<D*2^1081):Fn r/\(val r*D-sgn s W).natAbs<=D*fe:=by
 obtain⟨c,T,d,e,f⟩:=NU h a b
 rw[d,<-sgn_mul,fa T]
 exact⟨aeM c,Wn f e⟩
structure Ap x n a:Prop where
 f:Fn x
 d:(val x*fk-n*fu).natAbs<=a*fu
theorem aeA (X Y K a n m:Int):(X+Y)*K-(n+m)*a=(X*K-n*a)+(Y*K-m*a):=by grind-abstractProof only
theorem aey X Y K a n m:(X-Y)*K-(n-m)*a=(X*K-n*a)+ -(Y*K-m*a):=by grind-abstractProof only
theorem aez (R X Y K a p n m:Int):(R*K-p*a)*(K*a)=(R*a-X*Y)*(K*K)+(X*K*(Y*K)-n*a*(m*a)+(n*m-p*K)*(a*a)):=by grind-abstractProof only
theorem aho (f K a:Nat):f*K*(K*a)=a*f*(K*K):=by ac_rfl
theorem ahn (e K a:Nat):e*a*(K*a)=e*K*(a*a):=by ac_rfl
theorem uD (a b c:Int):a-b+(b-c)=a-c:=by rw[<-Int.add_sub_assoc,gk]
theorem lh {a b c:Int} (h:a=b+c) (d:b.natAbs<=m) (e:c.natAbs<=n):a.natAbs<=m+n:=h▸ag (Int.natAbs_add_le b c) (cX d e)
theorem Jv {S n:Int} (f:(S=0->∃b,r=zero b)/\(S≠0->Right r (decide (S<0)) S.natAbs 1)) (g:(S*fk-n*fu).natAbs<=a*fu) (l:n.natAbs+a<128*fk):Ap r n (a+1):=by
 have c:Fn r/\(val r-S).natAbs<=fe:=by
  by_cases d:S=0
  ·refine bA (f.1 d) λb=>?_
   have h:zero b=pack b 0:=rfl
   refine iQ (decode_pack b (by decide)) λm e i a=>⟨abh b m e i,(af d (af h (af (val_pack b (by decide)) ?_)))⟩
   clear i h;induction b using cB<;>exact dY _
  ·have j:(S*fk).natAbs<=a*fu+n.natAbs*fu:=lh (gk _ (n*fu)).symm g (dW (dE n fu))
   have o:S.natAbs*fk<128*fu*fk:=by
    rw[dE,<-ix,fJ a] at j
    rw[Nat.mul_right_comm]
    exact bP j (fH l AJ)
   have k:=Fp (f.2 d) QE (mH o)
   rw[Int.natCast_one,QK] at k
   have e:sgn (decide (S<0)) S.natAbs=S:=by
    unfold sgn
    by_cases q:S<0
    ·rw[if_pos (decide_eq_true q),si (iY q),QJ]
    ·rw[if_neg (decide_eq_false q▸bV),xm (HR.mp q)]
   exact e▸k
 refine⟨c.1,fJ 1 a▸(ix 1 a fu▸lh (b:=(val r-S)*fk) ?_ ?_ g)⟩
 ·rw[xl,uD]
 ·rw[dE]
  exact ag (cP fk c.2) abE
section
variable {x y:UInt64} {n m p:Int} {a b e:Nat}
theorem Ap.add (c:Ap x n a) (g:Ap y m b) (h:qc ((n+m).natAbs+(a+b)) (128*fk)=true):Ap (gu x y) (n+m) (a+b+1):=by
 refine AQ c.f λa a a j=>AQ g.f λa a a dy=>?_
 have i:=add_right j dy
 refine Jv ⟨λz=>⟨_,i.1 z⟩,i.2⟩ ?_ (dN h)
 rw[ix]
 exact lh (aeA ..) c.d g.d
theorem Ap.sub (c:Ap x n a) (g:Ap y m b) (h:qc ((n-m).natAbs+(a+b)) (128*fk)=true):Ap (cq x y) (n-m) (a+b+1):=by
 refine AQ c.f λa a a j=>AQ g.f λa a a dy=>?_
 have i:=sub_right j dy
 refine Jv ⟨λz=>⟨_,i.1 z⟩,i.2⟩ ?_ (dN h)
 rw[ix]
 exact lh (aey ..) c.d (by rw[sj];exact g.d)
theorem ZO:sgn (s !=t) (j*k)=sgn s j*sgn t k:=by
 induction s using cB<;>induction t using cB<;>simp[sgn,Int.mul_neg,Int.neg_mul]
noncomputable def FH (n m:Int) (a b:Nat):Nat:=a*b+a*m.natAbs+n.natAbs*b
noncomputable def Cb (n m:Int) (a b:Nat) (p:Int) (e:Nat):Bool:=qc (n.natAbs*m.natAbs+FH n m a b) (128*(fk*fk))&&tm (fk+(FH n m a b+(n*m-p*fk).natAbs)) (e*fk)
theorem Ob (A B N M:Int):A*B-N*M=((A-N)*(B-M)+(A-N)*M)+N*(B-M):=by
 rw[<-Int.mul_add,gk,xl,Int.mul_sub,uD]
theorem Ap.mul (c:Ap x n a) (g:Ap y m b) (h:Cb n m a b p e=true):Ap (cC x y) p e:=by
 refine fK (aq.mp h) λu v=>AQ c.f λs z z i=>AQ g.f λt z z dy=>?_
 have w:val x=sgn s (val x).natAbs:=by rw[val_eq i,sgn_natAbs]
 have A:val y=sgn t (val y).natAbs:=by rw[val_eq dy,sgn_natAbs]
 have e3:∀j k:Nat,j*fu*(k*fu)=j*k*(fu*fu):=λj k=>mG ..
 have l:(val x*fk*(val y*fk)-n*fu*(m*fu)).natAbs<=FH n m a b*(fu*fu):=by
  unfold FH
  rw[ix,ix,<-e3,<-e3,<-e3]
  refine lh (Ob ..) (lh rfl ?_ ?_) ?_
  ·rw[dE];exact eS c.d g.d
  ·rw[dE,dE m fu];exact cP _ c.d
  ·rw[dE,dE n fu];exact aX _ g.d
 have B:(val x).natAbs*(val y).natAbs<fu*2^1081:=by
  have o:(val x*fk*(val y*fk)).natAbs<=FH n m a b*(fu*fu)+n.natAbs*m.natAbs*(fu*fu):=lh (gk _ (n*fu*(m*fu))).symm l (dW (by rw[dE,dE,dE,sk,e3]))
  rw[dE,dE,dE,mG,<-ix,fJ (FH n m a b)] at o
  have C:=bP o (fH (dN u) (iw AJ AJ))
  exact mH C
 obtain⟨D,q⟩:=Fp (mul_right i dy) (gY _) B
 rw[ZO,<-w,<-A] at q
 have r:((val (cC x y)*fk-p*fu)*(fk*fu)).natAbs<=fe*fk*(fk*fu)+(FH n m a b*(fu*fu)+(n*m-p*fk).natAbs*(fu*fu)):=by
  refine lh (aez _ (val x) (val y) fk fu p n m) ?_ (lh rfl l ?_)
  ·rw[dE,aho]
   exact cP _ q
  ·rw[dE]
   exact ai _
 refine⟨D,Nat.le_of_mul_le_mul_right ?_ (iw (by decide) AJ:0<fk*fu)⟩
 rw[dE,<-ix] at r
 refine ag r ?_
 rw[ahn]
 refine ag (fP (cP (fk*fu) abE) _) ?_
 rw[lV,<-ix]
 exact cP _ (dN v)
end
theorem abo (d:0<B) (e:A*fu=v*B) (g:dist A (B*h)<=dist A (B*N)) (i:2*dist v (N*fu)<fu):h=N:=by
 have f:∀j,B*dist v (j*fu)=fu*dist A (B*j):=λj=>by rw[<-dist_mul,<-dist_mul,fa B v,<-e,fa A,fa j,lV]
 have k:dist v (h*fu)<=dist v (N*fu):=sr (by rw[f,f];exact aX fu g) d
 have a:=wt v (h*fu)
 have b:=wt v (N*fu)
 have t:dist (fu*h) (fu*N)<=dist v (N*fu)+dist v (N*fu):=by
  rw[fa fu,fa fu]
  exact GN (ag a.2 (ag (cX b.1 k) (dW (ej ..)))) (ag b.2 (ag (cX (ag a.1 (bJ k _)) (ai _)) (dW (ej ..))))
 rw[dist_mul,<-QC] at t
 have c:=wt h N
 rw[(HM.mp (Nat.lt_of_mul_lt_mul_left (bP t i)):dist h N=0)] at c
 exact nY c.1 c.2
theorem YX (a b:Int):dist a.natAbs b.natAbs<=(a-b).natAbs:=
 GN (lh (by rw[iZ,gk]) (ai _) (ai _)) (lh (c:= -(a-b)) (by rw[QI,iZ,gk]) (ai _) (by rw[sj];exact ai _))
theorem NO (h:(fu:Int)<=a) (b:2*a.natAbs<fu):False:=
 bG _ (bP (ag (rt.mp (gS h Int.le_natAbs)) (fV _ (by decide))) b)
theorem ady (h:2*(sgn s v-i*fu).natAbs<fu):sgn s i.natAbs=i:=by
 rcases Int.lt_trichotomy i 0 with q|q|q
 ·induction s using cB with
  |true=>exact(congrArg Neg.neg (si (iY q))).trans (QJ i)
  |false=>
   exact(NO (gS (Int.neg_le_neg (pV (Int.le_sub_one_of_lt q) (cQ fu))) (sE (cQ v))) h).elim
 ·refine af q ?_;induction s using cB<;>rfl
 ·induction s using cB with
  |false=>exact xm (iY q)
  |true=>
   have h:2*(-v-i*fu).natAbs<fu:=h
   rw[zH,<-Int.neg_add,sj] at h
   exact(NO (gS (pV q (cQ _)) (sE (cQ v))) h).elim
theorem adj (c:Fn x) (h:2*(val x-i*fu).natAbs<fu):toN x=some i:=by
 refine AQ c λs m e d=>?_
 have a:halfEven (shift m 1 e).1 (shift m 1 e).2=i.natAbs:=by
  have b:0<(shift m 1 e).2:=shift_pos m 1 e (by decide)
  refine abo b ((shift_one m e 1074 (decode_ge d)).trans (congrArg (· *(shift m 1 e).2) (val_natAbs d).symm)) (halfEven_nearest _ _ b _) ?_
  have:=YX (val x) (i*fu)
  rw[dE] at this
  exact bP (aX 2 this) h
 unfold toN
 refine af d ?_
 show some (sgn s (halfEven (shift m 1 e).1 (shift m 1 e).2))=some i
 exact af a (congrArg some (ady (val_eq d▸h)))
section
variable {x:UInt64} {n i:Int} {a:Nat}
noncomputable def agA (n:Int) (a:Nat) (i:Int):Bool:=qc (2*(a+(n-i*fk).natAbs)) fk
theorem Ap.toN (b:Ap x n a) (h:agA n a i=true):toN x=some i:=by
 refine adj b.f (mH (a:=fk) ?_)
 have c:((val x-i*fu)*fk).natAbs<=a*fu+(n-i*fk).natAbs*fu:=lh (by rw[xl,xl,Int.mul_right_comm i,uD]) b.d (dW (dE _ fu))
 rw[dE,<-ix] at c
 rw[lG,fa fu]
 refine bP (aX 2 c) ?_
 rw[<-lG]
 exact fH (dN h) AJ
noncomputable def CG (x:UInt64) (n:Int) (a:Nat):Bool:=(match decode x with
 | .fin _ _ _=>true
 |_=>false)&&tm (val x*fk-n*fu).natAbs (a*fu)
theorem Ap.of (h:CG x n a=true):Ap x n a:=by
 obtain⟨b,c⟩:=aq.mp h
 refine⟨?_,dN c⟩
 cases q:decode x with
 |fin s m e=>exact abh s m e q
 |_=>rw[q] at b;exact bV b
theorem Ap.mono (h:Ap x n a) (c:a<=b):Ap x n b:=⟨h.f,ag h.d (cP _ c)⟩
end
noncomputable def ae9:Nat:=68719476736
noncomputable def zg:Nat:=51539607552
noncomputable def c8:Nat:=412316860416
noncomputable def Mn (f:Nat->Nat->Bool):Bool:=(bc 32).all λw=>(bc 4).all λs=>f w (s+1)
theorem CH (h:Mn f=true) {w sp} (a:w<=31) (b:1<=sp) (c:sp<=4):f w sp=true:=by
 obtain⟨s,rfl⟩:=tK b
 exact allR (allR h (dA a)) c
noncomputable def ajI (v:Nat):Bool:=Cb ((v*zg:Nat):Int) ((64*fk:Nat):Int) 27 0 ((v*fk:Nat):Int) 1730&&agA ((v*fk:Nat):Int) 1730 v
noncomputable def kD (w sp:Nat):Int:=(((w+8*sp)*zg:Nat):Int)-((w*zg:Nat):Int)
noncomputable def kQ (w sp t:Nat):Int:=(((w+sp*t)*zg:Nat):Int)-((w*zg:Nat):Int)
noncomputable def ahe (w sp t:Nat):Bool:=qc ((kD w sp).natAbs+(1+1)) (128*fk)&&(Cb (kD w sp) ((t*ae9:Nat):Int) 3 1 ((sp*t*(zg/6):Nat):Int) 4&&(Cb ((sp*t*(zg/6):Nat):Int) ((6*fk:Nat):Int) 4 0 (kQ w sp t) 25&&
 qc ((((w*zg:Nat):Int)+kQ w sp t).natAbs+(1+25)) (128*fk)))
theorem R_:Mn (λw sp=>(bc 9).all (ahe w sp))=true:=by kernel_rfl
theorem aa6:(bc 64).all ajI=true:=by kernel_rfl
theorem S':CG 4618441417868443648 ((6*fk:Nat):Int) 0=true/\CG (dn 64) ((64*fk:Nat):Int) 0=true/\CG 4607182418800017408 fk 0=true:=⟨by kernel_rfl,by kernel_rfl,by kernel_rfl⟩
theorem Lu (a:v<64) (h:Ap y ((v*zg:Nat):Int) 27):RQ y=some (v:Int):=fK (aq.mp (allR aa6 a)) λb=>(h.mul (.of S'.2.1) b).toN
theorem N' (a:w<=31) (f:1<=sp) (b:sp<=4) (c:t<=8) (d:Ap e ((w*zg:Nat):Int) 1) (g:Ap i (((w+8*sp)*zg:Nat):Int) 1) (j:Ap x ((t*ae9:Nat):Int) 1):
  RQ (gu e (cC (cC (cq i e) x) 4618441417868443648))=some ((w+sp*t:Nat):Int):=by
 refine fK (aq.mp (allR (CH R_ a f b) (dA c))) λk h=>?_
 obtain⟨l,h⟩:=aq.mp h
 obtain⟨m,n⟩:=aq.mp h
 have r:=d.add (((g.sub d k).mul j l).mul (.of S'.1) m) n
 rw[kQ,iZ,gk] at r
 exact Lu (dA (cX a (eS b c))) r
noncomputable def Zl (x:UInt64) (t:Nat):Bool:=tm t 8&&cond (LP x 4595172819793696085) (CG x ((t*ae9:Nat):Int) 1) (cond (LP x 4602678819172646912) (dB t 8) (cond (LP x 4604180019048437077) (CG (cq 4604180019048437077 x) ((t*ae9:Nat):Int) 1) (dB t 0)))
theorem agj (b:w<=31) (g:1<=sp) (d:sp<=4) (e:Ap k ((w*zg:Nat):Int) 1) (f:Ap l (((w+8*sp)*zg:Nat):Int) 1) (a:Zl x t=true):
  RQ (vH k l x)=some ((w+sp*t:Nat):Int):=by
 refine fK (aq.mp a) λc a=>?_
 have c:t<=8:=dN c
 unfold vH
 induction h:LP x 4595172819793696085 using cB with
 |true=>rw[h] at a;exact N' b g d c e f (.of a)
 |false=>
  rw[h] at a
  induction i:LP x 4602678819172646912 using cB with
  |true=>
   rw[i] at a
   obtain rfl:t=8:=bC a
   rw[fa sp]
   exact Lu (dA (cX b (aX 8 d))) (f.mono (by decide))
  |false=>
   rw[i] at a
   induction j:LP x 4604180019048437077 using cB with
   |true=>rw[j] at a;exact N' b g d c e f (.of a)
   |false=>
    rw[j] at a
    obtain rfl:t=0:=bC a
    exact Lu (dA (ag b (by decide))) (e.mono (by decide))
theorem Ol (h:b.not=true):b=false:=by induction b using cB with|true=>exact bV h|false=>rfl
theorem EY {o p q:Option Int} (d:o=some a) (e:p=some b) (f:q=some c):(o.bind λa=>p.bind λb=>q.map λc=>(a,b,c))=some (a,b,c):=by refine af d (af e (af f ?_));rfl
noncomputable def rP (i:Nat):Int:=(i:Int)-24
noncomputable def aeC (i:Nat):UInt64:=oF (rP i) 48
noncomputable def tX (i:Nat):Nat:=(i+24)%48
noncomputable def ah1 (i:Nat):Bool:=(eX (aeC i)).not&&(Zl (pM (gu (aeC i) 4599676419421066581)) (kN (tX i) 0)&&(Zl (pM (aeC i)) (kN (tX i) 16)&&Zl (pM (cq (aeC i) 4599676419421066581)) (kN (tX i) 32)))
noncomputable def aeb (w sp:Nat):UInt64:=oF (2*(w:Int)+8*(sp:Int)) 128
noncomputable def mI (w sp:Nat):Int:=oS (2*(w:Int)+8*(sp:Int)) [128-(2*(w:Int)+8*(sp:Int))]
noncomputable def Wt (w sp:Nat):UInt64:=oF (8*(sp:Int)) (mI w sp)
noncomputable def ah0 (w sp:Nat):Bool:=(eX (aeb w sp)).not&&((mI w sp==0).not&&((eX (Wt w sp)).not&&((x_ (Wt w sp) 0).not&&(CG (ag2 (aeb w sp) (aaM (aeb w sp) (Wt w sp))) ((w*zg:Nat):Int) 1&&CG (aaM (aeb w sp) (Wt w sp)) (((w+8*sp)*zg:Nat):Int) 1))))
theorem V':(bc 136).all ah1=true:=by kernel_rfl
theorem VZ:Mn ah0=true:=by kernel_rfl
theorem AI (c:(b==0)=false) (h:(eX (oF a b)).not=true):iI a b=some (oF a b):=by
 unfold iI
 refine af c (af (Ol h) ?_);rfl
noncomputable def oR (w sp j:Nat):Int×Int×Int:=(((w+sp*kN j 0:Nat):Int),((w+sp*kN j 16:Nat):Int),((w+sp*kN j 32:Nat):Int))
theorem aah {i w sp:Nat} (e:i<136) (a:w<=31) (b:1<=sp) (c:sp<=4):aai (rP i) w sp=some (oR w sp (tX i)):=by
 have t:=allR V' e
 have h:=CH VZ a b c
 have d:=aR (aR (aR (aR h)))
 have v:∀{t x},Zl x t=true->RQ (vH _ _ x)=some (w+sp*t:Int):=(agj a b c (.of (aL d)) (.of (aR d)))
 unfold aai
 refine af (AI rfl (aL t)) (af (AI rfl (aL h)) (af (show iI (8*sp) (oS (2*w+8*sp) [128-(2*w+8*sp)])=some (Wt w sp) from AI (Ol (aL (aR h))) (aL (aR (aR h)))) ?_))
 show cond (x_ (Wt w sp) 0) none _=_
 exact af (Ol (aL (aR (aR (aR h))))) (EY (v (aL (aR t))) (v (aL (aR (aR t)))) (v (aR (aR (aR t)))))
noncomputable def sV (w sp:Nat):UInt64:=ofFrac false (8*sp) (w+8*sp)
noncomputable def nS (w sp:Nat):Nat:=8*sp*fk/(w+8*sp)
noncomputable def kP (w sp r n:Nat):Bool:=qc (((fk:Nat):Int)-(n:Int)).natAbs.succ.succ.succ.succ.succ.succ.succ (128*fk)&&(Cb (((w+8*sp)*fk:Nat):Int) ((fk:Int)-(n:Int)) 0 8 (((w+8*sp:Nat):Int)*((fk:Int)-(n:Int))) 600&&agA (((w+8*sp:Nat):Int)*((fk:Int)-(n:Int))) 600 ((w+sp*(8-r):Nat):Int))
noncomputable def kS (w sp r:Nat):Bool:=Cb (nS w sp:Int) ((r*c8:Nat):Int) 2 1 ((nS w sp*r/8:Nat):Int) 7&&kP w sp r (nS w sp*r/8)
noncomputable def tabS (w sp:Nat):Bool:=(x_ (sV w sp) 0).not&&(CG (sV w sp) (nS w sp:Int) 2&&(CG (dn ((w+8*sp:Nat):Int)) (((w+8*sp)*fk:Nat):Int) 0&&(kP w sp 8 (nS w sp)&&(bc 9).all (kS w sp))))
theorem VY:Mn tabS=true:=by kernel_rfl
noncomputable def ah2 (i:Nat):Bool:=(eX (oF (i:Nat) 48)).not&&((match KI (cC (oF (i:Nat) 48) 4618441417868443648) with
 |some k=>decide (k=((i/8:Nat):Int))
 |none=>false)&&(CG (fF (oF (i:Nat) 48) ((i/8:Nat):Int)) ((i%8*c8:Nat):Int) 1&&CG (cq 4607182418800017408 (fF (oF (i:Nat) 48) ((i/8:Nat):Int))) (((8-i%8)*c8:Nat):Int) 1))
theorem Wa:(bc 112).all ah2=true:=by kernel_rfl
section
variable {w sp r n:Nat} {y:UInt64}
theorem aan (a:Ap (dn ((w+8*sp:Nat):Int)) (((w+8*sp)*fk:Nat):Int) 0) (k:kP w sp r n=true) (h:Ap y n 7):toN (pF y ((w+8*sp:Nat):Int))=some ((w+sp*(8-r):Nat):Int):=
 (a.mul ((Ap.of S'.2.2).sub h (aL k)) (aL (aR k))).toN (aR (aR k))
end
noncomputable def NM (i:Nat) (p q t v:Nat):Nat×Nat×Nat:=match i%6 with
 |0=>(v,t,p)
 |1=>(q,v,p)
 |2=>(p,v,t)
 |3=>(p,q,v)
 |4=>(t,p,v)
 |_=>(v,p,q)
theorem adx:(bc 112).all (λi=>decide (NM (i/8) 0 (8-i%8) (i%8) 8=(kN (i%48) 0,kN (i%48) 16,kN (i%48) 32)))=true:=by decide+kernel
theorem tZ c m:((c:Nat):Int).fmod ((m:Nat):Int)=((c%m:Nat):Int):=by
 refine af (cy _ (cQ m)) ?_;rfl
noncomputable def afC (o:Option (List CV)):Option (Int×Int×Int):=o.bind λl=>(three l).bind λx=>(Fl x.1).bind λa=>(Fl x.2.1).bind λb=>(Fl x.2.2).map λc=>(a,b,c)
theorem Wm {p q t v} {g:Nat->Int} (a:Fl p=some (g kp)) (d:Fl q=some (g kq)) (e:Fl t=some (g kt)) (b:Fl v=some (g kv)):
  afC (Fh (((c:Nat):Int).fmod 6) p q t v)=some (g (NM c kp kq kt kv).1,g (NM c kp kq kt kv).2.1,g (NM c kp kq kt kv).2.2):=by
 rw[show 6=((6:Nat):Int) from rfl,tZ]
 unfold NM
 have f:c%6<6:=jj _ (by decide)
 generalize c%6=k at f
 match k,f with
 |0,_=>exact EY b e a
 |1,_=>exact EY d b a
 |2,_=>exact EY a b e
 |3,_=>exact EY a d b
 |4,_=>exact EY e a b
 |5,_=>exact EY b a d
 |_+6,h=>exact absurd h (bL.mpr (cR _ _))
theorem Dq (h:n<1000000):qX ((n:Nat):Int)=some ((n:Nat):Int):=by
 unfold qX
 refine af (decide_eq_true (show(n:Int).natAbs<1000000 from h)) ?_;rfl
theorem aaj {i w sp:Nat} (n:i<112) (s:w<=31) (e:1<=sp) (t:sp<=4):Uo ((i:Nat):Int) w sp=some (oR w sp (i%48)):=by
 have l:=allR Wa n
 have d:=CH VY s e t
 have a:=Ap.of (aL (aR (aR d)))
 have kS:=λ{r} (h:r<9)=>allR (aR (aR (aR (aR d)))) h
 have o:KI (cC (oF (i:Nat) 48) 4618441417868443648)=some ((i/8:Nat):Int):=by
  have m:=aL (aR l)
  induction q:KI (cC (oF (i:Nat) 48) 4618441417868443648) using cO with
  |none=>rw[q] at m;exact bV m
  |some k=>rw[q] at m;rw[of_decide_eq_true m]
 have q:∀{r f},r<9->CG f ((r*c8:Nat):Int) 1=true->toN (pF (cC (sV w sp) f) ((w+8*sp:Nat):Int))=some ((w+sp*(8-r):Nat):Int):=λe u=>aan a (aR (kS e)) ((Ap.of (aL (aR d))).mul (.of u) (aL (kS e)))
 have b:=cX s (aX 8 t)
 unfold Uo
 refine af (AI rfl (aL l)) (af (show iI (8*(sp:Int)) ((w:Int)+8*(sp:Int))=some (sV w sp) from xG (a:=8*sp) (b:=w+8*sp) (av (iw (by decide) e) (cR _ _)) (ag (cR _ w) (fV _ (by decide)))) ?_)
 show cond (x_ (sV w sp) 0) none ((KI (cC (oF (i:Nat) 48) 4618441417868443648)).bind λj=>(qX j).bind λj=>(qX ((w+8*sp:Nat):Int)).bind λv=>
  afC (Fh (j.fmod 6) (.bW (pF (sV w sp) v)) (.bW (pF (cC (sV w sp) (fF (oF (i:Nat) 48) j)) v)) (.bW (pF (cC (sV w sp) (cq 4607182418800017408 (fF (oF (i:Nat) 48) j))) v)) (.int v)))=_
 refine af (Ol (aL d)) (af o ?_)
 show(qX ((i/8:Nat):Int)).bind _=_
 refine af (Dq (bP (qN i 8) (il n (by decide)))) (af (Dq (bP b (by decide))) ((Wm (c:=i/8) (kp:=0) (kq:=8-i%8) (kt:=i%8) (kv:=8) (g:=λk=>((w+sp*k:Nat):Int)) ?_ ?_ ?_ ?_).trans ?_))
 ·exact aan (r:=8) a (aL (aR (aR (aR d)))) ((Ap.of (aL (aR d))).mono (by decide))
 ·exact q (dO (jj _ (by decide))) (aL (aR (aR l)))
 ·refine(q (r:=8-i%8) (dA (eL 8 _)) (aR (aR (aR l)))).trans ?_
  rw[Nat.sub_sub_self (eG (jj i (by decide:8>0)))]
 ·show some ((w+8*sp:Nat):Int)=some ((w+sp*8:Nat):Int)
  rw[fa]
 ·refine af (of_decide_eq_true (allR adx n)) ?_;rfl
noncomputable def uS (w sp j:Nat):Lt:=(oR w sp j,((j:Nat):Int))
theorem VF:(bc 136).all (λi=>decide (oT 0 [oS 8 [16-GB (rP i) 0]]=((kN (tX i) 0:Nat):Int))&&(decide (oT 0 [oS 8 [16-GB (rP i) 16]]=((kN (tX i) 16:Nat):Int))&&decide (oT 0 [oS 8 [16-GB (rP i) 32]]=((kN (tX i) 32:Nat):Int))))=true:=by decide+kernel
theorem VE {i w sp:Nat} (a:i<136):wants (rP i) w sp=oR w sp (tX i):=by
 have h:=allR VF a
 unfold wants yJ
 rw[of_decide_eq_true (aL h),of_decide_eq_true (aL (aR h)),of_decide_eq_true (aR (aR h))]
 rfl
inductive Told j t:Prop
 |mk k (h1:Cx t=true) (h2:(eg t 1==some .lt)=true) (h3:xZ t=some k) (h4:k.fmod 48=((j:Nat):Int)):Told j t
theorem EZ (b:j<48):afk (kN j 0) (kN j 16) (kN j 32)/\Told j (tY (kN j 0) (kN j 16) (kN j 32)):=by
 have h:=allR Wc b
 refine⟨Ua (aL h),?_⟩
 have a:=aR (aR (aR h))
 refine oE (xZ (tY (kN j 0) (kN j 16) (kN j 32))) (λq=>?_) λk q=>?_
 ·rw[q] at a;exact bV a
 ·rw[q] at a;exact⟨k,aL (aR h),aL (aR (aR h)),q,of_decide_eq_true a⟩
theorem GC (c:i<136) (d:b=some (oR w sp (tX i))) (e:a (oR w sp (tX i))=some (tY (kN (tX i) 0) (kN (tX i) 16) (kN (tX i) 32))):
  AO (rP i) w sp b a=some (uS w sp (tX i)):=by
 obtain⟨k,f,g,h,j⟩:=(EZ (show tX i<48 from jj _ (by decide))).2
 subst d
 show(a (oR w sp (tX i))).bind _=_
 refine af e ?_
 show cond (oR w sp (tX i)==wants (rP i) w sp) _ none=_
 rw[VE c,beq_self_eq_true]
 refine af f (af g (af h ?_))
 show some (oR w sp (tX i),k.fmod 48)=_
 refine af j ?_;rfl
theorem VO (a:j<48) (b:1<=sp) (c:sp<=4):ZE (oR w sp j)=some (tY (kN j 0) (kN j 16) (kN j 32)):=nu (OZ (W:=w) (EZ a).1 b c) λs v=>congrArg (HK λy:UInt64×UInt64×Int=>y.1)
theorem afQ (a:W+sp*8<=b) (c:b<=100*2^k) (h:n<=8):iI ((W+sp*n:Nat):Int) ((2^k:Nat):Int)=some (dy (W+sp*n) k):=xG (gY k) (ag (qe h) (ag a c))
theorem VQ (f:j<48) (d:w<=31) (i:sp<=4) (o:1<=sp):QZ (oR w sp j)=some (tY (kN j 0) (kN j 16) (kN j 32)):=by
 have t:=(EZ f).1
 have b:=cX d (cP 8 i)
 refine nu (O_ (W:=w) aj6 t o (bP (cX b d) (by decide))) λl s e=>?_
 have m:=λ{n} (h:n<=8)=>afQ (k:=6) b (by decide) h
 show(iI ((w+sp*kN j 0:Nat):Int) ((2^6:Nat):Int)).bind (λa=>(iI ((w+sp*kN j 16:Nat):Int) ((2^6:Nat):Int)).bind λb=>(iI ((w+sp*kN j 32:Nat):Int) ((2^6:Nat):Int)).bind λc=>(yv a b c).map λy=>y.1)=_
 rw[m t.r,m t.g,m t.b]
 exact congrArg (HK λy:UInt64×UInt64×UInt64=>y.1) e
theorem Uz i:tX i<48:=jj _ (by decide)
theorem aak {i w sp:Nat} (a:i<112) (b:w<=31) (c:1<=sp) (d:sp<=4):qY ((i:Nat):Int) 0 w sp=some (uS w sp (i%48)):=by
 have e:rP (i+24)=((i:Nat):Int):=show(i:Int)+24-24=i from fQ ..
 show AO ((i:Nat):Int) w sp (Uo ((i:Nat):Int) w sp) QZ=_
 exact af (aaj a b c d) (eh e (eh (Nat.add_mod_right i 48) (GC (qw a 24) rfl (VQ (Uz _) b d c))))
theorem abl:(bc 136).all (λn=>decide (((rP n).fmod 48).toNat=tX n))=true:=by decide+kernel
theorem B_ {w sp:Nat} (d: -24<=h) (e:h<112) (i:odd=false->0<=h) (f:w<=31) (a:1<=sp) (b:sp<=4):qY h (cond odd 1 0) w sp=some (uS w sp (h.fmod 48).toNat):=by
 induction odd using cB with
 |true=>
  obtain⟨n,g⟩:=ey (Int.add_le_add_right d 24)
  clear d;obtain rfl:h=rP n:=(fQ h 24).symm.trans (congrArg (· -24) g)
  have c:n<136:=eH.mp (g▸Int.add_lt_add_right e 24)
  exact af (of_decide_eq_true (allR abl c)) (GC c (aah c f a b) (VO (Uz _) a b))
 |false=>
  obtain⟨n,rfl⟩:=ey (i rfl)
  rw[show(48:Int)=((48:Nat):Int) from rfl,tZ]
  exact aak (eH.mp e) f a b
inductive acF j off lo x:Prop
 |mk k (e:xZ x=some k) (h1:lo<=k+24) (h2:k+24<112) (h3:((k+24).fmod 48).toNat=(j+48-off)%48):acF j off lo x
theorem IX (h:Ab j a lo x=true):acF j a lo x:=by
 unfold Ab at h
 refine oE (xZ x) (λq=>?_) λk q=>?_
 ·rw[q] at h;exact bV h
 ·rw[q] at h;exact⟨k,q,of_decide_eq_true (aL h),of_decide_eq_true (aL (aR h)),of_decide_eq_true (aR (aR h))⟩
theorem ZJ (b:j<48) (c:a=16\/a=32):ZK j a=true:=by
 rcases c with rfl|rfl
 ·exact allR ado b
 ·exact allR adn b
theorem adT (e1:iI x 128=some a) (e2:iI y 128=some b) (e3:iI z 128=some c) (e:yv a b c=some (h,l,s)) (q:xZ (cq h (dn 1))=some k):aax true (x,y,z)=some k:=by
 show((iI x 128).bind λa=>(iI y 128).bind λb=>(iI z 128).bind λc=>(yv a b c).map λy=>cq y.1 (dn 1)).bind xZ=_
 refine af e1 (af e2 (af e3 ?_))
 show((yv a b c).map λy=>cq y.1 (dn 1)).bind xZ=_
 exact af e q
theorem adU (e:DD x y z=some (h,s,v)) (q:xZ h=some k):aax false (x,y,z)=some k:=by
 show((DD x y z).map λy=>y.1).bind xZ=_
 exact af e q
theorem Lv:pK j a<=kM j a 0/\pK j a<=kM j a 16/\pK j a<=kM j a 32:=
 ⟨fq ..,ag (fx ..) (fq ..),ag (fx ..) (fx ..)⟩
theorem FI (h:pK j a<=kM j a b):2*w+sp*pK j a+sp*kX j a b=w+sp*kN j b+(w+sp*kN ((j+a)%48) b):=by
 rw[ej,<-xj,show pK j a+kX j a b=kN j b+kN ((j+a)%48) b from Nat.add_sub_cancel' h,xj,QC,Nat.add_add_add_comm]
theorem Pk {j a w sp:Nat} odd (x:j<48) (y:a=16\/a=32) (i:w<=31) (d:1<=sp) (c:sp<=4):zb odd w sp (uS w sp j) (uS w sp ((j+a)%48))=some (uS w sp ((j+48-a)%48)):=by
 have h:=ZJ x y
 have t:=Ua (aL h)
 have b:2*w+sp*pK j a<=2*31+4*8:=cX (aX 2 i) (eS c (dN (aL (aR h))))
 have b2:=cX b (cP 8 c)
 have A:aay (uS w sp j).1 (uS w sp ((j+a)%48)).1=(((2*w+sp*pK j a+sp*kX j a 0:Nat):Int),((2*w+sp*pK j a+sp*kX j a 16:Nat):Int),((2*w+sp*pK j a+sp*kX j a 32:Nat):Int)):=by
  rw[FI Lv.1,FI Lv.2.1,FI Lv.2.2]
  rfl
 unfold zb
 refine af A ?_
 induction odd using cB with
 |true=>
  obtain⟨k,q,f,o,e⟩:=IX (aR (aR (aR h)))
  refine nu (O_ aj5 t d (bP (cX b2 b) (by decide))) λl s u=>?_
  have m:=λ{n} (h:n<=8)=>afQ (k:=7) b2 (by decide) h
  exact af (adT (m t.r) (m t.g) (m t.b) u q) (eh e (B_ (odd:=true) f o (λz=>bV z.symm) i d c))
 |false=>
  obtain⟨k,q,f,o,e⟩:=IX (aL (aR (aR h)))
  exact nu (OZ (W:=2*w+sp*pK j a) t d c) λs v u=>af (adU u q) (eh e (B_ (odd:=false) (gS (by decide) f) o (λB=>f) i d c))
end Internal
namespace Internal
open PySem
structure St where
 b:List (List Nat)
 n:List Nat
 lit:List Nat
 la:List Nat
noncomputable def LY (s1 N:Nat):St:=⟨(bc (s1+2)).map λi=>(bc (s1+2)).map λj=>N/3^((s1+2)*i+j)%3,(bc (s1*s1)).map λk=>N/3^((s1+2)*(s1+2))/2^(4*(s1+1))/64^k%64,
 (bc (2*(s1+1))).map λk=>40+N/3^((s1+2)*(s1+2))/2^k%2,(bc (2*(s1+1))).map λk=>40+N/3^((s1+2)*(s1+2))/2^(2*(s1+1))/2^k%2⟩
noncomputable def NJ:List St:=[92442462465138636,139396800272951460,1467651616206618,49877715454428792,189252187385009565,233340642218647965,280272808382341314].map (LY 2)
noncomputable def NI:List St:=[1455816092434626,48387971408355741,92476480480900509,231850941563709048,280261017110638362,142331812492920996,189286228645765068].map (LY 2)
noncomputable def NH:List St:=[46889150268100265368465449856566,78396674201933372374507318535790,94274476411180441852578901092420,744274991714253762038746538928,141659805407307272070841255121814,16870173522884001859919711542248,33969283932509524818661743682914,204922944953413528834950841023429,220800751689696917063495781782523,66461535415021295818713007313076,160487330384373297825468103914243,173435161702686805171918940494287,284311979144173324993967276817450,114343050475504623369618116753727,130465131134479471933580070996249,240120459877389232202133015767637,252335827119782510147383738156551,268212858805436115586668924757872,193732084666267968108897077342628,303631687333458026916165157406340,315847054574259195719081352692604,335143026969057765097137295968954,347385105152111375450447224440198,363235426144578697338549014343546,382776507209388665162595185093865,395262740083051036203487771684737,414532478807792344250185119626793,426746653600420094864765593992105,442891629364577622464759691144999,460429986323220683601845003019285,477555277531412826575568606981774,490525054639836629238970254654294,508063406924995220251053464013984,522258126445240738911002328951630,539822240281858850764531480513974,554517434940692678252138019302139,571616305958649889164446163870141,587455663678899309129466252319205,603368105706812286580803383370594,619219206291435633105410743273866,635097008501364853331342116126428,650978632148444696398051506290817].map (LY 3)
noncomputable def NG:List St:=[11449409432131337077160902785,15893073056511973532773860572892,31770875266441198113768687012234,47621975851064527218122321797986,63530542407676358517919590406629,79373774667623245598730396115389,96472646646069311750586732063483,111167841276017976116530269441462,127045111539589518205371573128352,144590977237752552957789730405206,160487568817826607622360767720270,173434804055349159929549022883470,190556279385986830209967056872469,208098392585216541703625969102631,224219817555321359139170000170881,240121175173201449151374135278505,252335767510566472551565310455017,268213216455275009237723141633577,287486830695188949583066497746310,303632343020736358759472894750586,315846935358100996501002286975674,335143086577136869243407268709244,456765691859251763521969153683876,363236141440163524054519736452740,382776566816103448218749192095239,504643386398270518543589192157465,414532717241700429409552511526768,426747309287925810027469192243797,536647090690447756005183058590015,351048386278735671470453805087786,477555039100460775639512015526351,584280575572876307288932671934644,398681806880510207265595347768315,522258245662763254084628643705603,446067136604463302326611762068421,617020916870638062906644523672930,634119907103389132903257109208040,493700560001048983671775285728150,650245806566162586167267934626736,556715605146696389366599327443012,572593407355943444037455169250926,604100931289776578044890443656758].map (LY 3)
noncomputable def mw (b:List (List Nat)) (i j:Nat):Nat:=(((b[i]?).getD [])[j]?).getD 0
noncomputable def Cn (b:List (List Nat)) (i j:Nat):Bool:=dB (mw b (i+1) j) (mw b i (j+1))&&(dB (mw b (i+1) (j+2)) (mw b i (j+1))&&dB (mw b (i+2) (j+1)) (mw b i (j+1)))
noncomputable def Gw (b:List (List Nat)) (i j:Nat):List (List Nat):=cond (Cn b i j) (b.set (i+1) (((b[i+1]?).getD []).set (j+1) ((6-mw b (i+1) (j+1)-mw b i (j+1))%3))) b
noncomputable def abM:List Nat->List Nat->Bool
 |[],[]=>true
 |a::l,b::m=>dB a b&&abM l m
 |_,_=>false
noncomputable def eqB:List (List Nat)->List (List Nat)->Bool
 |[],[]=>true
 |a::l,b::m=>abM a b&&eqB l m
 |_,_=>false
noncomputable def Hc (b:List (List Nat)):Nat->Nat->Int:=λi j=>16*((mw b i j:Nat):Int)
noncomputable def uy (a:Bool) (b:List (List Nat)) (s:Nat):List (bD×bD):=(bp 0 s).flatMap λi=>(bp 0 s).map λj=>(cA (97+(i*s+j)),cond a (hh (Hc b) s i j).2 (hh (Hc b) s i j).1)
noncomputable def aj_ (c:Nat):Str:=cA c
noncomputable def aeT:List bD->List Nat->Bool
 |[],[]=>true
 |a::l,b::m=>(a==aj_ b)&&aeT l m
 |_,_=>false
noncomputable def wd (o:Option (List bD)) (l:List Nat):Bool:=match o with
 |some r=>aeT r l
 |none=>false
noncomputable def Uj (m:Nat) (b:List (List Nat)):Bool:=dB b.length m&&b.all λr=>dB r.length m&&r.all λc=>qc c 3
noncomputable def q' (S:List St) (s1:Nat):Bool:=S.all λx=>Uj (s1+2) x.b&&(bc (s1*s1)).all λk=>(match x.n[k]? with
 |some t=>(match S[t]? with
  |some y=>eqB (Gw x.b (k/s1) (k%s1)) y.b
  |none=>false)
 |none=>false)&&(!Cn x.b (k/s1) (k%s1)||!dB (mw x.b (k/s1) (k%s1+1)) (mw x.b (k/s1+1) (k%s1+1)))
noncomputable def Rj (x:bD):Bool:=dB x.length 2&&(mR x&&(oG x==x))
noncomputable def sW (b:List (List Nat)) (s:Nat):Bool:=(bc s).all λi=>(bc s).all λj=>Rj (hh (Hc b) s i j).1&&Rj (hh (Hc b) s i j).2
noncomputable def Fk (S:List St) (s:Nat):Bool:=S.all λx=>sW x.b s&&(wd (ym (uy false x.b s) s) x.lit&&wd (ym (uy true x.b s) s) x.la)
theorem aj2:q' NJ 2=true:=by kernel_rfl
theorem aj1:q' NI 2=true:=by kernel_rfl
theorem aj0:q' NH 3=true:=by kernel_rfl
theorem ajZ:q' NG 3=true:=by kernel_rfl
theorem ajo:Fk NJ 3=true:=by kernel_rfl
theorem ajn:Fk NI 3=true:=by kernel_rfl
theorem ajm:Fk NH 4=true:=by kernel_rfl
theorem ajl:Fk NG 4=true:=by kernel_rfl
noncomputable def nE (w sp j0 c:Nat):Lt:=uS w sp ((j0+16*c)%48)
noncomputable def LB (w sp j0:Nat) (b:List (List Nat)):List (List Lt):=b.map λr=>r.map (nE w sp j0)
structure Shape m (b:List (List Nat)):Prop where
 len:b.length=m
 row:∀r∈b,r.length=m/\∀c∈r,c<3
theorem Jf (h:Uj m b=true):Shape m b:=by
 obtain⟨a,d⟩:=aq.mp h
 refine⟨bC a,λr e=>?_⟩
 obtain⟨f,g⟩:=aq.mp (aV.mp d r e)
 exact⟨bC f,λc i=>by have:=aV.mp g c i;simp[qc] at this;exact zB this (by decide)⟩
section
variable {m:Nat} {b:List (List Nat)}
inductive ajb m b i j:Prop
 |mk r (g:b[i]?=some r) (c:r[j]?=some (mw b i j)) (l:mw b i j<3) (n:r.length=m):ajb m b i j
theorem Shape.at (h:Shape m b) {i j} (f:i<m) (g:j<m):ajb m b i j:=by
 have a:i<b.length:=h.len▸f
 have d:=h.row _ (ko a)
 have c:j<b[i].length:=d.1▸g
 have e1:=aF a
 have e2:=aF c
 have e:mw b i j=b[i][j]:=by
  unfold mw
  refine af e1 ?_
  show(b[i][j]?).getD 0=_
  refine af e2 ?_;rfl
 exact⟨b[i],e1,e▸e2,e▸d.2 _ (ko c),d.1⟩
end
section
variable {w sp j0 m:Nat} {b:List (List Nat)}
theorem EI {i:Nat} (h:b[i]?=some r):(LB w sp j0 b)[i]?=some (r.map (nE w sp j0)):=by
 unfold LB
 refine af dh (af h ?_);rfl
theorem xu {j c:Nat} {r:List Nat} (h:r[j]?=some c):(r.map (nE w sp j0))[j]?=some (nE w sp j0 c):=by
 refine af dh (af h ?_);rfl
noncomputable def afx (j c a:Nat):Bool:=dB c a==((j+16*c)%48==(j+16*a)%48)&&(dB c a||((λo=>dB ((j+16*a)%48) (((j+16*c)%48+o)%48)&&(dB (((j+16*c)%48+48-o)%48) ((j+16*((6-c-a)%3))%48)&&(dB o 16||dB o 32))) (cond (dB ((j+16*a)%48) (((j+16*c)%48+16)%48)) 16 32)))
theorem V_:((bc 48).all λj=>(bc 3).all λc=>(bc 3).all (afx j c))=true:=by decide+kernel
theorem Nu (d:j0<48) (e:c<3) (f:a<3):afx j0 c a=true:=allR (allR (allR V_ d) e) f
theorem KN (a:j0<48) (e:c<3) (f:d<3):((nE w sp j0 c).2 !=(nE w sp j0 d).2)=!dB c d:=af (eq_of_beq (aL (Nu a e f))) (congrArg not Ba)
theorem SF odd (e:j0<48) (f:c<3) (g:a<3) (d:a≠c) (i:w<=31) (j:1<=sp) (k:sp<=4):zb odd w sp (nE w sp j0 c) (nE w sp j0 a)=some (nE w sp j0 ((6-c-a)%3)):=by
 rcases gV.mp (aR (Nu e f g)) with h|h
 ·exact absurd (bC h).symm d
 ·unfold nE
  exact af (bC (aL h)) (eh (bC (aL (aR h))) (Pk odd (jj _ (by decide)) ((gV.mp (aR (aR h))).imp bC bC) i j k))
theorem SG (h:Shape m b) (k:i+2<m) (l:j+2<m) (d:j0<48) (s:Cn b i j=true->mw b i (j+1)≠mw b (i+1) (j+1)) (t:w<=31) (u:1<=sp) (v:sp<=4):
  Bi w sp (LB w sp j0 b) i j (LB w sp j0 (Gw b i j)):=by
 have i1:=jK k
 have e:=jK l
 refine cps λJ x=>?_
 obtain⟨g,g1,y,z,L⟩:=h.at i1 e
 obtain⟨n,a,A,B,C⟩:=h.at i1 (jK e)
 obtain⟨o,c,D,E,F⟩:=h.at i1 l
 obtain⟨M,g3,c3,G,N⟩:=h.at k e
 obtain⟨O,H,I,f,P⟩:=h.at (jK i1) e
 rw[g1] at a c
 clear C;have a:=ab a;subst a
 clear F;have c:=ab c;subst c
 refine x ?_
 have r:others (nE w sp j0 (mw b i (j+1))) (nE w sp j0 (mw b (i+1) j)) (nE w sp j0 (mw b (i+1) (j+2))) (nE w sp j0 (mw b (i+2) (j+1)))=Cn b i j:=by
  unfold others Cn
  rw[KN d B f,KN d E f,KN d G f,BK,BK,BK]
 refine⟨_,_,_,_,_,_,_,_,EI H,EI g1,EI g3,xu y,xu I,xu A,xu D,xu c3,λq=>?_,λq=>?_⟩
 ·rw[r] at q
  refine(aP _ (SF _ d z f (s q) t u v) ?_)
  unfold Gw
  refine af q (af g1 ?_)
  show LB w sp j0 (b.set (i+1) (g.set (j+1) _))=_
  unfold LB
  rw[rr,rr]
 ·rw[r] at q
  unfold Gw
  rw[q];rfl
end
theorem LS:∀{a b},abM a b=true->a=b:=by
 intro a
 induction a with
 |nil=>intro b h;induction b using cL with|nil=>rfl|cons _ _=>exact bV h
 |cons x a c=>
  intro b h
  induction b using cL with
  |nil=>exact bV h
  |cons y b=>
   obtain⟨d,e⟩:=aq.mp h
   rw[bC d,c e]
theorem aeU:∀{a b},eqB a b=true->a=b:=by
 intro a
 induction a with
 |nil=>intro b h;induction b using cL with|nil=>rfl|cons _ _=>exact bV h
 |cons x a c=>
  intro b h
  induction b using cL with
  |nil=>exact bV h
  |cons y b=>
   obtain⟨d,e⟩:=aq.mp h
   rw[LS d,c e]
noncomputable def KQ (S:List St) (x:St) (k:Nat):Option St:=(x.n[k]?).bind λt=>S[t]?
structure Vj S s1 x k y:Prop where
 nx:KQ S x k=some y
 mem:y∈S
 eq:Gw x.b (k/s1) (k%s1)=y.b
 sx:Shape (s1+2) x.b
 ne:Cn x.b (k/s1) (k%s1)=true->mw x.b (k/s1) (k%s1+1)≠mw x.b (k/s1+1) (k%s1+1)
section
variable {S:List St} {s1:Nat} {x:St}
theorem tS (a:q' S s1=true) (c:x∈S):Shape (s1+2) x.b:=Jf (aq.mp (aV.mp a x c)).1
theorem step_at (d:q' S s1=true) (f:x∈S) {k} (g:k<s1*s1):∃y,Vj S s1 x k y:=by
 refine fK (aq.mp (aV.mp d x f)) λh i=>?_
 obtain⟨a,c⟩:=aq.mp (allR i g)
 induction q:x.n[k]? using cO with
 |none=>rw[q] at a;exact bV a
 |some t=>
  rw[q] at a
  refine oE S[t]? (λb=>?_) λy b=>?_
  ·simp only[b] at a;exact bV a
  ·
   simp only[b] at a
   refine⟨y,⟨by unfold KQ;exact af q b,bh b,aeU a,Jf h,λj e=>?_⟩⟩
   rw[j,e,vA] at c
   exact bV c
end
section
variable {S:List St} {s1 w sp j0:Nat}
theorem Fe (h:Vj S s1 x k y) (a:k<s1*s1) (c:j0<48) (d:w<=31) (e:1<=sp) (f:sp<=4):Bi w sp (LB w sp j0 x.b) (k/s1) (k%s1) (LB w sp j0 y.b):=by
 have g:k/s1<s1:=xk a
 have i:k%s1<s1:=jj _ (by rcases Nat.eq_zero_or_pos s1 with q|q;rw[q] at a;exact absurd a (qM k);exact q)
 exact eh h.eq (SG h.sx (qw g _) (qw i _) c h.ne d e f)
theorem ve:(LB w sp j0 b).length=b.length:=aC _
theorem Yp (g:q' S s1=true) (i:j0<48) (j:w<=31) (l:1<=sp) (m:sp<=4):∀a x,(∀k∈a,k<s1*s1)->x∈S->∃y∈S,ud w sp s1 a (LB w sp j0 x.b) (LB w sp j0 y.b):=by
 intro a
 induction a with
 |nil=>exact λx q d=>aP x d rfl
 |cons k a n=>
  intro x f d
  obtain⟨y,c⟩:=step_at g d (f k az)
  exact aG (n y (λk h=>f k (aB _ h)) c.mem) λz o e=>⟨z,o,_,by rw[ve,ve,(tS g c.mem).len,c.sx.len],Fe c (f k az) i j l m,e⟩
noncomputable def uC (S:List St) (s1 odd:Nat):List Nat->St->Option St
 |[],x=>some x
 |k::a,x=>(cond ((k/s1+k%s1)%2==odd) (KQ S x k) (some x)).bind λy=>uC S s1 odd a y
theorem We (l:q' S s1=true) odd (o:j0<48) (r:w<=31) (s:1<=sp) (t:sp<=4):∀a x y,(∀k∈a,k<s1*s1)->x∈S->uC S s1 odd a x=some y->y∈S/\nM w sp s1 odd a (LB w sp j0 x.b) (LB w sp j0 y.b):=by
 intro a
 induction a with
 |nil=>
  intro x y _ i e
  have e:=ab e;subst e
  exact⟨i,rfl⟩
 |cons k a m=>
  intro x y n i e
  have c:=n k az
  have d:∀k∈a,k<s1*s1:=λk h=>n k (aB _ h)
  have e:(cond ((k/s1+k%s1)%2==odd) (KQ S x k) (some x)).bind ((uC S s1 odd a))=some y:=e
  refine bE ((k/s1+k%s1)%2==odd) (λq=>?_) λq=>?_
  ·
   rw[q] at e
   obtain⟨j,f⟩:=m x y d i e
   exact⟨j,_,rfl,λz=>absurd (q.symm.trans z) (by decide),λu=>rfl,f⟩
  ·
   rw[q] at e
   obtain⟨z,g⟩:=step_at l i c
   rw[g.nx] at e
   exact fK (m z y d g.mem e) λj f=>⟨j,_,by rw[ve,ve,(tS l g.mem).len,g.sx.len],λu=>Fe g c o r s t,λw=>absurd (q.symm.trans w) (by decide),f⟩
end
noncomputable def qm:List Nat->Int->Bool
 |[],k=>k==0
 |c::l,k=>cond (dB c 40) (qm l (k+1)) (cond (dB c 41) (cond (decide (k-1<0)) false (qm l (k-1))) (qm l k))
noncomputable def RM:List Nat->List Nat->Nat->Int->Int
 |_,[],_,m=>m
 |pre,c::l,k,m=>RM (pre++[c]) l (k+1) (cond (m==0) (cond (dB c 41) (cond (qm (pre++[c]) 0) (k:Nat) 0) m) m)
noncomputable def Uq (m:Int):List Nat->Nat->List Nat
 |[],_=>[]
 |c::l,p=>cond ((p:Int)==m) 40 c::Uq m l (p+1)
noncomputable def BP (l:List Nat):List Nat:=Uq (RM [] l 0 0) l.tail 1++[41]
noncomputable def acm (l:List Nat):Bool:=l.all λc=>dB c 40||dB c 41
noncomputable def Gk (s:Nat) (x y:St):Bool:=(dB x.lit.length (2*s)&&(dB x.la.length (2*s)&&(dB y.lit.length (2*s)&&dB y.la.length (2*s))))&&((acm x.lit&&(acm x.la&&(acm y.lit&&acm y.la)))&&((abM (BP y.lit) x.lit&&abM (BP x.la) y.la)&&(qm x.lit 0&&!qm (x.lit.tail++[40]) 0)))
noncomputable def Pb (S:List St) (s1:Nat):Bool:=S.all λx=>match (uC S s1 0 (bc (s1*s1)) x).bind (uC S s1 1 (bc (s1*s1))) with
 |some y=>Gk (s1+1) x y
 |none=>false
theorem ajY:Pb NJ 2=true:=by kernel_rfl
theorem ajX:Pb NI 2=true:=by kernel_rfl
theorem ajW:Pb NH 3=true:=by kernel_rfl
theorem ajV:Pb NG 3=true:=by kernel_rfl
noncomputable def fy (x:bD):List Nat:=x.cps.toList
noncomputable def wD (r:List bD):List Nat:=r.flatMap fy
inductive Im:List Nat->List Nat->Prop
 |p0:Im [] []
 |p1:Im [92,40] [92,40]
 |p2:Im [92,41] [92,41]
 |p3:Im [92,34] [92,34]
 |p4:Im [92,92] [92,92]
 |q1:Im [34,40,34] []
 |q2:Im [34,41,34] []
 |q3:Im [34,92,34,41,34] []
inductive Txt:List Nat->List Nat->List Nat->Prop
 |nil:Txt [] [] []
 |cons {c}:Im p p'->c=40\/c=41->Txt A B l->Txt (p++c::A) (p'++c::B) (c::l)
theorem Ux (i n:Nat):W.kms_lo (some (i:Int)) n=min i n:=by
 rfl
theorem UJ (i n:Nat):Qq (some (i:Int)) n=min i n:=by
 rfl
theorem Wk {pre rest:List Nat} (h:st<=pre.length):fy (iW ⟨(pre++rest).toArray⟩ (some (st:Int)) (some (pre.length:Int)))=pre.drop st:=by
 show(ie (pre++rest) (some (st:Int)) (some (pre.length:Int)))=_
 unfold ie
 rw[Ux,UJ,ax,gZ (ag h (ba _ _)),gZ (ba _ _),kC h]
 have:(pre.drop st).length=pre.length-st:=uu ..
 rw[<-this,kl]
theorem Rl {A:List Nat} (h:st<=A.length):fy (iW ⟨A.toArray⟩ (some (st:Int)) none)=A.drop st:=by
 show(ie A (some (st:Int)) none)=_
 unfold ie
 rw[Ux,gZ h]
 have:(A.drop st).length=A.length-st:=uu ..
 show(A.drop st).take (A.length-st)=_
 rw[<-this,kj]
theorem xr (h:c=40\/c=41):gn a (iq (c::rest) pos false) st none r=gn a (iq rest (pos+1) false) st none r:=by
 rcases h with rfl|rfl<;>rfl
theorem Gx r x:wD (r++[x])=wD r++fy x:=by
 unfold wD
 rw[qV,gR,Dg,bK]
inductive Hk (A0 A:List Nat) (pos st:Nat) r X:Prop
 |mk (n:Nat) r' (e:gn ⟨A0.toArray⟩ (iq A pos false) (st:Int) none r=((n:Int),r')) (h:n<=A0.length) (f:wD r'++A0.drop n=wD r++X):Hk A0 A pos st r X
section
variable {A0 A B l p p' pre:List Nat} {c st:Nat} {r:List bD}
theorem Rh (b:∀rest pos,gn ⟨A0.toArray⟩ (iq (p++rest) pos false) (st:Int) none r=gn ⟨A0.toArray⟩ (iq rest (pos+p.length) false) (st:Int) none r) (d:c=40\/c=41) (a:st<=pre.length)
  (h:Hk A0 A (pre++(p++[c])).length st r ((pre++(p++[c])).drop st++B)):Hk A0 (p++c::A) pre.length st r (pre.drop st++(p++c::B)):=by
 obtain⟨n,g,e,h,f⟩:=h
 refine⟨n,g,?_,h,?_⟩
 ·rw[b,xr d,<-e,ax,ax,b_,ej]
 ·rw[f,kC a,aM,aM];rfl
theorem wb (i:∀rest pos,gn ⟨A0.toArray⟩ (iq (p++rest) pos false) (st:Int) none r=cond ((st:Int) !=(pos:Nat)) (gn ⟨A0.toArray⟩ (iq rest (pos+p.length) false) ((pos+p.length:Nat):Int) none (r++[iW ⟨A0.toArray⟩ (some (st:Int)) (some ((pos:Nat):Int))])) (gn ⟨A0.toArray⟩ (iq rest (pos+p.length) false) ((pos+p.length:Nat):Int) none r))
  (b:c=40\/c=41) (e:A0=pre++(p++c::A)) (d:st<=pre.length) (h:∀r,Hk A0 A (pre++(p++[c])).length (pre.length+p.length) r ((pre++(p++[c])).drop (pre.length+p.length)++B)):Hk A0 (p++c::A) pre.length st r (pre.drop st++(c::B)):=by
 rw[show(pre++(p++[c])).length=pre.length+p.length+1 by rw[ax,ax,b_,ej],show(pre++(p++[c])).drop (pre.length+p.length)=[c] by rw[<-aM,<-ax,HP]] at h
 refine Hb ((st:Int) !=(pre.length:Nat)) (λa=>?_) λa=>?_
 ·
  obtain⟨n,g,e1,h,f⟩:=h (r++[iW ⟨A0.toArray⟩ (some (st:Int)) (some ((pre.length:Nat):Int))])
  refine⟨n,g,?_,h,?_⟩
  ·rw[i,a,xr b];exact e1
  ·rw[f,Gx,e,Wk d,aM];rfl
 ·
  obtain⟨n,g,e1,h,f⟩:=h r
  refine⟨n,g,?_,h,?_⟩
  ·rw[i,a,xr b,xr b];exact e1
  ·refine af f (af (yI.mp (bne_eq_false_iff_eq.mp a)) (af Dj ?_));rfl
end
theorem Rg:∀{A B l},Txt A B l->∀pre st r,A0=pre++A->st<=pre.length->Hk A0 A pre.length st r (pre.drop st++B):=by
 intro A B l h
 induction h with
 |nil=>
  intro pre st r e a
  rw[bK] at e
  exact af e ⟨st,r,rfl,a,by rw[bK]⟩
 | @cons p p' A B l c f b g d=>
  intro pre st r e a
  have e2:A0=(pre++(p++[c]))++A:=by rw[e,aM,aM];rfl
  have i2:∀r,Hk A0 A (pre++(p++[c])).length (pre.length+p.length) r ((pre++(p++[c])).drop (pre.length+p.length)++B):=λr=>d _ _ r e2 (af ax (af ax (bJ (ba _ _) _)))
  induction f with
  |q1=>exact wb (p:=[34,40,34]) (λ_ _=>rfl) b e a i2
  |q2=>exact wb (p:=[34,41,34]) (λ_ _=>rfl) b e a i2
  |q3=>exact wb (p:=[34,92,34,41,34]) (λ_ _=>rfl) b e a i2
  |_=>exact Rh (λ_ _=>rfl) b a (d _ st r e2 (af ax (ag a (ba _ _))))
theorem ae5 (h:c=40\/c=41) (a:∀n,qI b n=qm l n):qI ((p,⟨#[c]⟩)::b) n=qm (c::l) n:=by
 rcases h with rfl|rfl
 ·exact a (n+1)
 ·show cond (decide (n-1<0)) false (qI b (n-1))=cond (decide (n-1<0)) false (qm l (n-1))
  rw[a]
theorem aeQ (h:c=40\/c=41):iq (c::rest) pos false=(pos,⟨#[c]⟩)::iq rest (pos+1) false:=by
 rcases h with rfl|rfl<;>rfl
theorem abK (h:Txt A B l):∀pos n,qI (iq B pos false) n=qm l n:=by
 induction h with
 |nil=>exact λ_ _=>rfl
 | @cons p p' A B l c b a g d=>
  intro pos n
  have e:∀q:List Nat,p'=q->(∀rest pos,qI (iq (q++rest) pos false) n=qI (iq rest (pos+q.length) false) n)->qI (iq (p'++c::B) pos false) n=qm (c::l) n:=λq e1 f=>by
   refine af e1 ?_
   rw[f,aeQ a]
   exact ae5 a (d _)
  induction b with
  |p0=>exact e [] rfl λ_ _=>rfl
  |p1=>exact e [92,40] rfl λ_ _=>rfl
  |p2=>exact e [92,41] rfl λ_ _=>rfl
  |p3=>exact e [92,34] rfl λ_ _=>rfl
  |p4=>exact e [92,92] rfl λ_ _=>rfl
  |q1=>exact e [] rfl λ_ _=>rfl
  |q2=>exact e [] rfl λ_ _=>rfl
  |q3=>exact e [] rfl λ_ _=>rfl
theorem QX (h:Txt A B l) (b:34∉A):A=B:=by
 induction h with
 |nil=>rfl
 | @cons p p' A B l c d f g e=>
  have a:34∉p:=λz=>b (dG _ z)
  refine af (e (λz=>b (dz _ (aB _ z)))) ?_
  induction d with
  |p3=>exact absurd (by decide) a
  |q1=>exact absurd (by decide) a
  |q2=>exact absurd (by decide) a
  |q3=>exact absurd (by decide) a
  |_=>rfl
theorem strip_eq (h:Txt A B l):uE ⟨A.toArray⟩=⟨B.toArray⟩:=by
 have f:jN dq ⟨A.toArray⟩=decide (34∈A):=ti ⟨A.toArray⟩ 34
 unfold uE
 by_cases c:34∈A
 ·rw[f,decide_eq_true c]
  obtain⟨n,a,d,g,b⟩:=Rg (A0:=A) h [] 0 [] rfl (ai _)
  have d:gn ⟨A.toArray⟩ (wG ⟨A.toArray⟩) 0 none []=((n:Int),a):=d
  refine af d ?_
  show lM "" (cond (decide ((n:Int)<(A.length:Nat))) (a++[iW ⟨A.toArray⟩ (some (n:Int)) none]) a)=_
  rw[oD]
  have b:wD a++A.drop n=B:=b
  by_cases e:n<A.length
  ·rw[decide_eq_true (eH.mpr e)]
   show(⟨(wD (a++[_])).toArray⟩:bD)=_
   rw[Gx,Rl g,b]
  ·rw[decide_eq_false (λz=>e (eH.mp z))]
   show(⟨(wD a).toArray⟩:bD)=_
   rw[List.drop_of_length_le (bL.mp e),bK] at b
   rw[b]
 ·rw[f,decide_eq_false c,QX h c]
  rfl
theorem zf (h:Txt A B l):gL ⟨A.toArray⟩=qm l 0:=by
 unfold gL
 exact af (strip_eq h) (abK h 0 0)
theorem Txt.pO (h:Txt A B l) {a b c} (d:Txt a b c):Txt (A++a) (B++b) (l++c):=by
 induction h with
 |nil=>exact d
 |cons e f _ g=>rw[aM,aM];exact .cons e f g
structure uc (ps:List bD):Prop where
 six:ps.length=6
 mem:∀x∈ps,x∈nD
theorem adH (h:x∈nD):∃p',Im (fy x) p':=by
 rcases aE.mp h with rfl|h
 ·exact⟨_,.p0⟩
 rcases aE.mp h with rfl|h
 ·exact⟨_,.p1⟩
 rcases aE.mp h with rfl|h
 ·exact⟨_,.p2⟩
 rcases aE.mp h with rfl|h
 ·exact⟨_,.q1⟩
 rcases aE.mp h with rfl|h
 ·exact⟨_,.q2⟩
 rcases aE.mp h with rfl|h
 ·exact⟨_,.p3⟩
 rcases aE.mp h with rfl|h
 ·exact⟨_,.p4⟩
 rcases aE.mp h with rfl|h
 ·exact⟨_,.q3⟩
 exact bw h
theorem BZ (h:uc ps) k:kz ps k∈nD:=by
 unfold kz
 have a:k%6<ps.length:=af h.six (jj _ (by decide))
 refine af dD (af (aF a) ?_)
 exact h.mem _ (ko a)
theorem qo x y:fy (x++y)=fy x++fy y:=by
 unfold fy
 rw[sf,Array.toList_append]
theorem Nk (h:uc ps) {c} (a:c=40\/c=41) k:∃B,Txt (fy (kz ps k++cA c)) B [c]:=eY (adH (BZ h k)) λp' b=>⟨_,by rw[qo];exact .cons b a .nil⟩
def Hp (l:List Nat):Prop:=∀c∈l,c=40\/c=41
theorem VL (h:uc ps):∀l k,Hp l->∃B,Txt (wD (yN ps l k)) B l:=by
 intro l
 induction l with
 |nil=>exact λk _=>⟨[],.nil⟩
 |cons c l b=>
  intro k a
  obtain⟨B,e⟩:=Nk h (a c az) k
  obtain⟨i,f⟩:=b (k+1) λd g=>a d (aB _ g)
  exact⟨_,e.pO f⟩
theorem DI (h:uc ps) {l} (a:Hp l):gL (vZ ps l)=qm l 0:=by
 refine eY (VL h l 0 a) λB b=>?_
 unfold vZ
 rw[oD]
 exact zf b
theorem ZC:∀l,Hp l->Txt l l l:=by
 intro l
 induction l with
 |nil=>exact λ_=> .nil
 |cons c l b=>exact λa=> .cons .p0 (a c az) (b λd e=>a d (aB _ e))
theorem SP (a:Hp l):gL (jZ l)=qm l 0:=zf (ZC l a)
theorem WZ (h:uc ps):∀l pre k text m,Hp l->(∃B,Txt (fy text) B pre)->Cd ps l k text m=RM pre l k m:=by
 intro l
 induction l with
 |nil=>exact λ_ _ _ _ _ _=>rfl
 |cons c l i=>
  intro pre k text m e a
  obtain⟨B,a⟩:=a
  have f:=e c az
  obtain⟨q,g⟩:=Nk h f k
  have b:=a.pO g
  rw[<-qo] at b
  have j:gL (text++(kz ps k++cA c))=qm (pre++[c]) 0:=zf b
  have n:(cA c==(")" :bD))=dB c 41:=by clear g;rcases f with rfl|rfl<;>rfl
  show Cd ps l (k+1) (text++(kz ps k++cA c)) (Cc ps k c text m)=_
  refine af (i (pre++[c]) (k+1) _ _ (λd o=>e d (aB _ o)) ⟨_,b⟩) ?_
  unfold Cc
  refine af j (af n ?_)
  rfl
theorem aav m:∀l p,wD (sP m l p)=Uq m l p:=by
 intro l
 induction l with
 |nil=>exact λ_=>rfl
 |cons c l a=>
  intro p
  show fy (cond ((p:Int)==m) "(" (cA c))++wD (sP m l (p+1))=_
  rw[a]
  show _=cond ((p:Int)==m) 40 c::Uq m l (p+1)
  induction (p:Int)==m using cB<;>rfl
theorem Dn (h:uc ps) {l} (a:Hp l):oO ps l=jZ (BP l):=by
 unfold oO BP
 rw[WZ h l [] 0 "" 0 a ⟨[],.nil⟩,oD]
 show(⟨(wD (_++[_])).toArray⟩:bD)=_
 rw[Gx,aav]
 rfl
noncomputable def cnt:List Nat->Int
 |[]=>0
 |c::l=>gB (cnt l) c
theorem Fv a b c:gB (a+b) c=a+gB b c:=by
 unfold gB
 induction c==10 using cB with
 |true=>exact IT a b 1
 |false=>rfl
theorem uG a b c:a+gB b c=gB a c+b:=by rw[<-Fv,iZ,Fv,iZ]
theorem ab5 l m:cnt (l++m)=cnt l+cnt m:=by
 induction l with
 |nil=>exact(MP _).symm
 |cons c l a=>
  show gB (cnt (l++m)) c=gB (cnt l) c+cnt m
  rw[a,Fv,uG]
theorem YG:∀l k A,A=A.take k++l->k<=A.length->((ql A 10 k l.length).length:Int)=cnt l:=by
 intro l
 induction l with
 |nil=>exact λa a a a=>rfl
 |cons c l f=>
  intro k A e b
  have g:A.length=k+(l.length+1):=by
   have:=congrArg DW e
   rw[ax,nj,gZ b] at this
   exact this
  have h:A[k]?=some c:=by
   rw[e,be (nj▸fq ..),nj,gZ b,dw];rfl
  have e2:A=A.take (k+1)++l:=by
   have i:A.drop k=c::l:=by
    have d:=congrArg (Zb k) e
    rw[kC (af nj (af (gZ b) (ai _))),List.drop_take,dw] at d
    exact d
   exact(by refine eh HQ (af i ?_);rfl:A.drop (k+1)=l)▸(List.take_append_drop (k+1) A).symm
  refine af bS (af zd (af h ?_))
  have:=f (k+1) A e2 (g▸bJ (cR _ _) k)
  show(((cond (some c==some 10) (k::ql A 10 (k+1) l.length) (ql A 10 (k+1) l.length)).length:Nat):Int)=gB (cnt l) c
  have j:(some c==some 10)=(c==10):=rfl
  refine af j ?_
  unfold gB
  induction c==10 using cB with
  |true=>exact congrArg (· +1) this
  |false=>exact this
theorem YA x:endsF x=cnt (fy x):=by
 unfold endsF
 have h:d_ x "\n" 0 x.length (x.length+1)=ql (fy x) 10 0 (fy x).length:=Og (l:=x.cps.toList) (c:=10)
 exact af h (YG (fy x) 0 (fy x) rfl (dY _))
noncomputable def rO (f:Int) (w:Nat->Int):List Nat->Nat->Int->List Nat
 |[],_,_=>[]
 |c::l,k,b=>fy (rQ ((f+(k:Nat)).fmod 4) b)++(fy (jR (w k) c)++rO f w l (k+1) (w k))
theorem aaX f w:∀l k b t,fy (qR f w l k b t)=fy t++rO f w l k b:=by
 intro l
 induction l with
 |nil=>exact λk b t=>(bK _).symm
 |cons c l a=>
  intro k b t
  show fy (qR f w l (k+1) (w k) (t++rQ ((f+(k:Nat)).fmod 4) b++jR (w k) c))=_
  rw[a,qo,qo]
  show _=fy t++(fy (rQ ((f+(k:Nat)).fmod 4) b)++(fy (jR (w k) c)++rO f w l (k+1) (w k)))
  rw[aM,aM]
def Ws (g:List Nat):Prop:=∀x∈g,uw x=true
theorem UN (f:0<=i) (j:i<4):Ws (fy (rQ i b))/\(b≠1->∃x g,fy (rQ i b)=x::g):=by
 refine eY (ey f) λn a=>?_;subst a
 have ws:∀g:List Nat,g.all uw=true->Ws g:=λg h x=>aV.mp h x
 match n,j with
 |0,_=>exact⟨ws [32] (by decide),λc=>sT 32 [] rfl⟩
 |1,_=>exact⟨ws [10] (by decide),λc=>sT 10 [] rfl⟩
 |2,_=>exact⟨ws [9,13] (by decide),λc=>sT 9 [13] rfl⟩
 |3,_=>
  have e:fy (rQ ((3:Nat):Int) b)=cond (b==1) [] [13,10]:=by
   show fy (cond (b==1) "" "\r\n")=_
   induction b==1 using cB<;>rfl
  refine af e ?_
  by_cases d:b=1
  ·exact af d ⟨ws [] rfl,(absurd rfl)⟩
  ·exact beq_eq_false_iff_ne.mpr d▸⟨ws [13,10] (by decide),λc=>sT 13 [10] rfl⟩
theorem ZN:∀g a ln,Ws g->jn (g++a) ln=jn a (ln+cnt g):=by
 intro g
 induction g with
 |nil=>intro a ln _;show jn a ln=jn a (ln+0);rw[MR]
 |cons x g b=>
  intro a ln h
  show cond (uw x) (jn (g++a) (gB ln x)) _=_
  refine af (h x az) ?_
  show jn (g++a) (gB ln x)=jn a (ln+gB (cnt g) x)
  rw[b a _ λy c=>h y (aB _ c),uG]
theorem N_ R ln tok (h:R=[]\/∃x g,R=x::g/\uw x=true):∃a b,Ft R ln tok=(tok,ln+cnt R-cnt a,a,b)/\a=R.tail:=by
 rcases h with rfl|⟨x,g,rfl,c⟩
 ·exact(fX [] false (by rw[fQ];rfl) rfl)
 ·refine fX g true ?_ rfl
  rw[Ft,pJ,c]
  show(tok,gB ln x,g,true)=(tok,ln+gB (cnt g) x-cnt g,g,true)
  rw[uG,fQ]
inductive Wd:List Nat->Nat->Int->Prop
 |bare c y (hy:y≠1) (h1:uw c=false) (h2:c≠34) (h3:c≠92):Wd [c] c y
 |Fg c y (hy:y≠1):Wd [92,c] c y
 |mark c (h2:c≠34) (h3:c≠92):Wd [34,c,34] c 1
 |RN c:Wd [34,92,c,34] c 1
theorem ai1 c:("" :bD)++cA c=cA c:=se ox
theorem Va {a b:Nat} (h:a≠b):(a==b)=false:=beq_eq_false_iff_ne.mpr h
theorem sL (h:(c==10)=false):gB ln c=ln:=by unfold gB;refine af h ?_;rfl
theorem aaa (h:Wd P c y) (j:y≠1->R=[]\/∃x g,R=x::g/\uw x=true) ln:∃a b,jn (P++R) ln=(cA c,ln+cnt (P++R)-cnt a,a,b)/\(a=R\/(y≠1/\a=R.tail)):=by
 induction h with
 |bare c y d k f i=>
  refine iQ (N_ R (gB ln c) (cA c) (j d)) λa b e e2=>(fX a b ?_ (.inr ⟨d,e2⟩))
  show cond (uw c) _ (cond (c==34) _ (cond (c==92) _ (Ft R (gB ln c) (cA c))))=_
  refine af k (af (Va f) (af (Va i) ?_))
  show Ft R (gB ln c) (cA c)=(cA c,ln+gB (cnt R) c-cnt a,a,b)
  rw[e,uG]
 |Fg c y d=>
  refine iQ (N_ R (gB ln c) (cA c) (j d)) λa b e e2=>(fX a b ?_ (.inr ⟨d,e2⟩))
  show Ft R (gB ln c) (cA c)=(cA c,ln+gB (gB (cnt R) c) 92-cnt a,a,b)
  rw[e,sL (c:=92) rfl,uG]
 |mark c f i=>
  refine(fX R true ?_ (.inl rfl))
  have e1:jn ([34,c,34]++R) ln=HY (c::34::R) (gB ln 34) "" :=xv
  rw[e1,HY,pJ,Va f,Va i]
  show HY (34::R) (gB (gB ln 34) c) (("" :bD)++cA c)=_
  rw[HY,pJ]
  show(cA c,gB (gB ln 34) c,R,true)=(cA c,ln+gB (gB (gB (cnt R) 34) c) 34-cnt R,R,true)
  rw[sL (c:=34) rfl,sL (c:=34) rfl,sL (c:=34) rfl,uG,fQ]
 |RN c=>
  refine(fX R true ?_ (.inl rfl))
  show HY (34::R) (gB (gB ln 34) c) (("" :bD)++cA c)=_
  rw[HY,pJ]
  show(cA c,gB (gB ln 34) c,R,true)=(cA c,ln+gB (gB (gB (gB (cnt R) 34) c) 92) 34-cnt R,R,true)
  rw[sL (c:=34) rfl,sL (c:=34) rfl,sL (c:=34) rfl,sL (c:=92) rfl,uG,fQ]
theorem Zj (d:c∈c_) {y} (e:y=0\/y=1\/y=2):Wd (fy (jR y c)) c y:=by
 refine qk ((by decide+kernel:∀c∈c_,(fy (jR 0 c)=[92,c])/\(fy (jR 1 c)=cond (c==34||c==92) [34,92,c,34] [34,c,34])/\(fy (jR 2 c)=cond (c==34||c==92||uw c) [92,c] [c])) c d) λi f g=>?_
 rcases e with rfl|rfl|rfl
 ·exact .Fg c 0 (by decide)
 ·refine af f ?_
  induction a:c==34 using cB with
  |true=>exact .RN c
  |false=>
   induction b:c==92 using cB with
   |true=>exact .RN c
   |false=>exact .mark c (beq_eq_false_iff_ne.mp a) (beq_eq_false_iff_ne.mp b)
 ·refine af g ?_
  induction a:c==34 using cB with
  |true=>exact .Fg c 2 (by decide)
  |false=>
   induction b:c==92 using cB with
   |true=>exact .Fg c 2 (by decide)
   |false=>
    induction h:uw c using cB with
    |true=>exact .Fg c 2 (by decide)
    |false=>exact .bare c 2 (by decide) h (beq_eq_false_iff_ne.mp a) (beq_eq_false_iff_ne.mp b)
section
variable {f:Int} {w:Nat->Int}
def xP (f:Int) (w:Nat->Int) (l:List Nat) (k:Nat) (a:List Nat):Prop:=match l with
 |[]=>a=[]
 |c::l=>∃g,Ws g/\a=g++(fy (jR (w k) c)++rO f w l (k+1) (w k))
theorem Gc:xP f w l k (rO f w l k b):=by
 induction l using cL with
 |nil=>rfl
 |cons c l=>exact(aP _ ((UN (kW _ (by decide)) (ow _ (by decide))).1) rfl)
theorem JB (d:b≠1):(rO f w l k b=[]\/∃x g,rO f w l k b=x::g/\uw x=true)/\xP f w l k (rO f w l k b).tail:=by
 induction l using cL with
 |nil=>exact⟨.inl rfl,rfl⟩
 |cons c l=>
  refine fK (UN (i:=(f+(k:Nat)).fmod 4) (b:=b) (kW _ (by decide)) (ow _ (by decide))) λa h=>nu (h d) λx g e=>?_
  have a:Ws (x::g):=e▸a
  have e2:rO f w (c::l) k b=x::(g++(fy (jR (w k) c)++rO f w l (k+1) (w k))):=by
   show fy (rQ ((f+(k:Nat)).fmod 4) b)++_=_
   refine af e ?_;rfl
  exact af e2 (⟨.inr (fX x _ rfl (a x az)),g,λy j=>a y (aB _ j),rfl⟩)
theorem NZ (i:c∈c_) (b:w k=0\/w k=1\/w k=2) (h:xP f w (c::l) k j) ln:∃a d,jn j ln=(cA c,ln+cnt j-cnt a,a,d)/\xP f w l (k+1) a:=by
 refine xn h λg m=>iQ (aaa (R:=rO f w l (k+1) (w k)) (Zj i b) (λb=>(JB b).1) (ln+cnt g)) λa d e n=>fX a d ?_ ?_
 ·rw[ZN _ _ _ m,e,ab5 g,<-IT]
 ·clear e m h i;rcases n with rfl|⟨o,rfl⟩
  ·exact Gc
  ·exact(JB o).2
theorem aab:∀l m k a ln,(∀c∈l,c∈c_)->(∀i,w i=0\/w i=1\/w i=2)->xP f w (l++m) k a->∃b,lZ l.length a ln=(l.map cA,ln+cnt a-cnt b,b)/\xP f w m (k+l.length) b:=by
 intro l
 induction l with
 |nil=>exact λm k a ln _ _ h=>(aP a (by rw[fQ];rfl) h)
 |cons c l o=>
  refine λm k a ln g j h=>iQ (NZ (g c az) (j k) h ln) λn u e q=>aG (o m (k+1) n (ln+cnt a-cnt n) (λd r=>g d (aB _ r)) j q) λs e2 t=>(aP s ?_ (by rw[bS,fJ l.length 1,<-ej];exact t))
  show((jn a ln).1::(lZ l.length (jn a ln).2.2.1 (jn a ln).2.1).1,(lZ l.length (jn a ln).2.2.1 (jn a ln).2.1).2)=_
  refine af e ?_
  rw[e2,gk]
  rfl
end
noncomputable def Iq (j0:Nat) (b:List (List Nat)):Nat->Nat->Int:=λi j=>(((j0+16*mw b i j)%48:Nat):Int)
theorem VM:((bc 48).all λj=>(bc 3).all λx=>(bc 3).all λy=>[true,false].all λe=>decide (jY (((j+16*x)%48:Nat):Int) (((j+16*y)%48:Nat):Int) e=jY (16*((x:Nat):Int)) (16*((y:Nat):Int)) e))=true:=by decide+kernel
theorem xq (h:j0<48) (a:x<3) (b:y<3) e:jY (((j0+16*x)%48:Nat):Int) (((j0+16*y)%48:Nat):Int) e=jY (16*((x:Nat):Int)) (16*((y:Nat):Int)) e:=
 of_decide_eq_true (aV.mp (allR (allR (allR VM h) a) b) e (by induction e using cB<;>decide))
theorem FJ (h:i∈bp 0 s):i<s:=by
 have:=(tn.mp h).2
 rwa [dJ] at this
theorem agR (h:i<s):i∈bp 0 s:=tn.mpr ⟨dY _,by rw[dJ];exact h⟩
theorem acf {i j s:Nat} (a:i<s) (b:j<s):i*s+j<s*s:=av (iU b _) (by rw[<-pg];exact cP s a)
section
variable {j0 s:Nat} {b:List (List Nat)}
theorem J_ (e:j0<48) (m:Shape (s+1) b) {i j} (a:i<s) (d:j<s):hh (Iq j0 b) s i j=hh (Hc b) s i j:=by
 have c:∀{i j},i<s+1->j<s+1->mw b i j<3:=λa d=>by
  obtain⟨_,_,_,h,_⟩:=m.at a d
  exact h
 show tw (jY (((j0+16*mw b i j)%48:Nat):Int) (((j0+16*mw b (i+1) j)%48:Nat):Int) ((i+j)%2==0)==32) (FY s i j) (tw (jY (((j0+16*mw b (i+1) j)%48:Nat):Int) (((j0+16*mw b (i+1) (j+1))%48:Nat):Int) ((i+1+j)%2==0)==16) (GL s i j)
  (tw (jY (((j0+16*mw b i (j+1))%48:Nat):Int) (((j0+16*mw b (i+1) (j+1))%48:Nat):Int) ((i+(j+1))%2==0)==32) (Ai s i j) (tw (jY (((j0+16*mw b i j)%48:Nat):Int) (((j0+16*mw b i (j+1))%48:Nat):Int) ((i+j)%2==0)==16) (Zo s i j) ("",""))))=_
 have f:=dO a
 have j0:=dO d
 have g:=c f j0
 have k:=c (ki a) j0
 have l:=c f (ki d)
 have c3:=c (ki a) (ki d)
 rw[xq e g k,xq e k c3,xq e l c3,xq e g l]
 rfl
structure Mq (x:bD):Prop where
 len:x.length=2
 ok:mR x=true
 SH:oG x=x
theorem Ue (h:Rj x=true):Mq x:=⟨bC (aL h),aL (aR h),eq_of_beq (aR (aR h))⟩
theorem CB (a:sW b s=true) {i j} (c:i<s) (d:j<s):Mq (hh (Hc b) s i j).1/\Mq (hh (Hc b) s i j).2:=by
 have h:=allR (allR a c) d
 exact⟨Ue (aL h),Ue (aR h)⟩
end
theorem JM {α a:Type} {f g:α->List a} {l:List α} (h:∀x∈l,f x=g x):l.flatMap f=l.flatMap g:=by
 induction l with
 |nil=>rfl
 |cons x l b=>rw[gR,gR,h x az,b λy c=>h y (aB _ c)]
theorem P_ x:(fy x).length=x.length:=jW
theorem ND (h:fy x=fy y):x=y:=se (nq.mp h)
theorem GG x:fy (oG x)=(fy x).flatMap λc=>fy (DF c):=by
 unfold oG
 rw[oD]
 show wD ((fy x).map DF)=_
 unfold wD
 rw[uv]
theorem abL x y:fy (oG (x++y))=fy (oG x)++fy (oG y):=by
 rw[GG,GG,GG,qo,qV]
section
variable {lit dk pc:bD}
theorem M':fy (rG lit dk)=fy lit++(fy "; dark=\"" ++(fy (oG dk)++[34])):=by
 unfold rG
 rw[qo,qo,qo,aM,aM]
 rfl
theorem Zm (h:lit.length=2):tM false (rG lit dk)=lit:=by
 refine ND ?_
 show ie (fy (rG lit dk)) none (some 2)=fy lit
 have a:(fy lit).length=2:=by rw[P_,h]
 refine af M' ?_
 show(Zb 0 _).take (Qq (some ((2:Nat):Int)) _-0)=_
 rw[UJ,ax,a,gZ (ba _ _),HO]
 have:=kl (l₁:=fy lit) (l₂:=fy "; dark=\"" ++(fy (oG dk)++[34]))
 exact a▸this
theorem VD (h:Mq dk):tM true (rG lit (pc++dk))=dk:=by
 refine ND ?_
 show ie (fy (rG lit (pc++dk))) (some (-3)) (some (-1))=fy dk
 have a:(fy dk).length=2:=by rw[P_,h.len]
 rw[M',abL,h.SH]
 refine af ((by simp only[aM]:fy lit++(fy "; dark=\"" ++(fy (oG pc)++fy dk++[34]))=(fy lit++(fy "; dark=\"" ++fy (oG pc)))++(fy dk++[34]))) ?_
 generalize fy lit++(fy "; dark=\"" ++fy (oG pc))=X
 have b:(X++(fy dk++[34])).length=X.length+3:=by refine af ax (af ax (af a ?_));rfl
 unfold ie
 have c:W.kms_lo (some (-3)) (X++(fy dk++[34])).length=X.length:=by
  rw[b];rfl
 have d:Qq (some (-1)) (X++(fy dk++[34])).length=X.length+2:=by
  rw[b];rfl
 rw[c,d,HP,ed]
 have:=kl (l₁:=fy dk) (l₂:=[34])
 exact a▸this
end
section
variable {j0 s:Nat} {b:List (List Nat)} {ps:List bD}
theorem QS a (f:j0<48) (g:Shape (s+1) b) (e:sW b s=true):kE a (kF (Iq j0 b) ps s)=uy a b s:=by
 unfold kE kF jO uy
 refine af pU (JM λi c=>?_)
 unfold md
 refine af fW (qU λj d=>?_)
 have c:=FJ c
 have d:=FJ d
 show(cA (97+(i*s+j)),tM a (rG (hh (Iq j0 b) s i j).1 (kz ps (i*s+j)++(hh (Iq j0 b) s i j).2)))=_
 refine af (J_ f g c d) ?_
 induction a using cB with
 |true=>refine af (VD (CB e c d).2) ?_;rfl
 |false=>refine af (Zm (CB e c d).1.len) ?_;rfl
end
theorem Qj:(bc 16).all (λp=>mR (oU (sY p))&&mR (rL p))=true:=by decide+kernel
theorem YR:(bc 16).all (λp=>(bc 16).all λq=>(oU (rL p)==oU (sY q))==dB p q)=true:=by kernel_rfl
theorem find_name (d:s<=4) (f:i<s):∀l j,(∀k∈l,k<s)->j∈l->wF (qH G7 ps s i l) (sY (i*s+j))=some (px G7 ps s i j):=by
 have e:∀j,j<s->i*s+j<16:=λj a=>av (acf f a) (eS d d)
 intro l
 induction l with
 |nil=>exact λj o=>bw
 |cons k l g=>
  intro j b a
  have m:=b k az
  have c:=b j a
  show(((rL (i*s+k),px G7 ps s i k)::qH G7 ps s i l).find? λp=>oU p.1==oU (sY (i*s+j))).map (·.2)=_
  refine af En ?_
  rw[(eq_of_beq (allR (allR YR (e k m)) (e j c)))]
  by_cases q:k=j
  ·refine af q ?_
   rw[vA];rfl
  ·have n:dB (i*s+k) (i*s+j)=false:=by
    induction z:dB (i*s+k) (i*s+j) using cB with
    |false=>rfl
    |true=>exact absurd (jU (bC z)) q
   refine af n ?_
   rcases aE.mp a with z|z
   ·exact absurd z.symm q
   ·exact g j (λk h=>b k (aB _ h)) z
theorem Le:∀x∈nD,x.length<=5/\mR x=true:=by decide+kernel
theorem uc.ps {ps} (h:uc ps):nL ps:=⟨h.six,λx a=>ag (Le x (h.mem x a)).1 (by decide)⟩
theorem adJ (a:mR x=true) (b:mR y=true):mR (x++y)=true:=by
 unfold mR at*
 rw[sf,Array.all_append,a,b];rfl
section
variable {j0 s w sp:Nat} {b:List (List Nat)} {ps:List bD}
theorem J' (g:j0<48) (f:s<=4) (h:Shape (s+1) b) (l:sW b s=true) (d:uc ps):rY (Iq j0 b) ps s:=by
 have e:=λ{i j} (a:i<s) (c:j<s)=>J_ (j0:=j0) g h a c
 have k:=λ{i j} (a:i<s) (c:j<s)=>CB l a c
 refine⟨λi j a c=>(af (e a c) ((k a c).1.len)),λi j a c=>?_,λi j a c=>?_,λi j a c=>?_,λp d=>?_,λi j a c=>?_⟩
 ·exact af (e a c) ((k a c).1.ok)
 ·exact af (e a c) (adJ (Le _ (BZ d _)).2 (k a c).2.ok)
 ·rw[e a c,ee,(k a c).2.len];exact gP _
 ·exact aR (allR Qj (av d (eS f f)))
 ·rw[e a c,(k a c).2.len];decide
theorem Tu (c:Shape (s+1) b) {i j} (d:i<s+1) (e:j<s+1):∃a,(LB w sp j0 b)[i]?=some a/\a[j]?=some (nE w sp j0 (mw b i j))/\a.length=s+1:=by
 obtain⟨r,f,g,_,h⟩:=c.at d e
 exact(eJ _ (EI f) (xu g) (by rw[aC];exact h))
theorem JO {α a:Type} {f:α->List a}:∀l:List α,(∀x∈l,(f x).length=m)->(l.flatMap f).length=l.length*m:=by
 intro l
 induction l with
 |nil=>exact λe=>(Bz m).symm
 |cons x l c=>intro h;rw[gR,ax,h x az,c λy d=>h y (aB _ d),bS,pg,fJ]
theorem Jl (z:j0<48) (E:0<s) (e:s<=4) (g:Shape (s+1) b) (A:sW b s=true) (x:uc ps):rU a (LB w sp j0 b) ps s (Iq j0 b):=by
 have n:=eS e e
 have o:oa (LB w sp j0 b)=(b.flatMap λr=>r.map λc=>(nE w sp j0 c).2).map CV.int:=by
  unfold oa LB
  rw[uv,pU]
  refine JM λr F=>af fW (af fW ?_);rfl
 have d:(b.flatMap λr=>r.map λc=>(nE w sp j0 c).2).length=(s+1)*(s+1):=by
  rw[JO (m:=s+1) b λr q=>by rw[aC];exact(g.row r q).1,g.len]
 have f:∀y∈b.flatMap λr=>r.map λc=>(nE w sp j0 c).2,0<=y:=λy h=>aG (Dd.mp h) λr a h=>nQ (bO.mp h) λc a=>cQ _
 refine lE (b.flatMap λr=>r.map λc=>(nE w sp j0 c).2) (λt=>?_) λm0 B t=>?_
 ·
  exact absurd (t▸d).symm (bZ (iw (gP _) (gP _)))
 ·
  rw[t] at o f d
  refine⟨m0,B,⟨λi j l u=>?_⟩,J' z e g A x,x.ps,bP e (by decide),λp v=>aL (allR Qj (av v n)),λi j l u=>find_name e l _ j (λk=>FJ) (agR u),o,?_,f m0 az,λy h=>f y (aB _ h)⟩
  ·obtain⟨row,C,D,_⟩:=Tu (w:=w) (sp:=sp) (j0:=j0) g (i:=i) (j:=j) (dA l) (dA u)
   have q:(bp a (LB w sp j0 b).length)[i]?=some (a+i):=by
    rw[ve,g.len,aF (eM▸dA l),jV,oL]
   exact jq _ _ _ q C D rfl
  ·rw[o,aC,d];exact ag (eS (dF e) (dF e)) (by decide)
theorem aeS:∀{r} {l},aeT r l=true->r=l.map cA:=by
 intro r
 induction r with
 |nil=>intro l h;induction l using cL with|nil=>rfl|cons _ _=>exact bV h
 |cons x r a=>
  intro l h
  induction l using cL with
  |nil=>exact bV h
  |cons c l=>
   refine af (eq_of_beq (aL h)) (af (a (aR h)) ?_);rfl
theorem adA (h:wd o l=true):o=some (l.map cA):=by
 induction o using cO with
 |none=>exact bV h
 |some r=>rw[aeS (show aeT r l=true from h)]
theorem Xv l:lM "" (l.map cA)=jZ l:=by
 rw[oD]
 show(⟨(wD (l.map cA)).toArray⟩:bD)=⟨l.toArray⟩
 have:wD (l.map cA)=l:=by
  induction l with
  |nil=>rfl
  |cons c l a=>show c::wD (l.map cA)=_;rw[a]
 rw[this]
theorem keys_nodup (a:s=3\/s=4):((kF G7 ps s).map (·.1)).Nodup:=by
 have e3:(kF G7 ps 3).map (·.1)=(bc 9).map λp=>cA (97+p):=rfl
 have e4:(kF G7 ps 4).map (·.1)=(bc 16).map λp=>cA (97+p):=rfl
 rcases a with rfl|rfl
 ·rw[e3];decide+kernel
 ·rw[e4];decide+kernel
theorem Om {α c:Type} [BEq α] [LawfulBEq α] {l:List (α×c)} (h:(l.map (·.1)).Nodup) {p} (a:p∈l):l.lookup p.1=some p.2:=by
 induction l with
 |nil=>exact bw a
 |cons q l d=>
  obtain⟨k,v⟩:=q
  obtain⟨k',j⟩:=p
  refine fK (ly.mp h) λg i=>af cg ?_
  rcases aE.mp a with e|a
  ·refine af e ?_
   rw[beq_self_eq_true]
  ·have:(k'==k)=false:=beq_eq_false_iff_ne.mpr λe=>g (e▸(nB (f:=λq:α×c=>q.1) a:k'∈l.map (·.1)))
   exact af this (d i a)
theorem aaR {α c:Type} [BEq α] [LawfulBEq α] {x} {v} {l:List (α×c)} (h:l.lookup x=some v):(x,v)∈l:=by
 induction l with
 |nil=>exact aW h
 |cons p l d=>
  obtain⟨k,w⟩:=p
  rw[cg] at h
  refine Hb (x==k) (λa=>?_) λa=>?_
  ·
   rw[a] at h
   have h:=ab h;subst h
   exact af (eq_of_beq a) az
  ·rw[a] at h;exact aB _ (d h)
theorem Ex (k:j0<48) (o:s=3\/s=4) (q:Shape (s+1) b) (r:sW b s=true) (t:uc ps) (z:wd (ym (uy la b s) s) l=true) (A:l.length=2*s):tD (kF (Iq j0 b) ps s) s la l:=by
 have d:s<=4:=o.elim λe=>e▸by decide dW
 have u:=J' k d q r t
 refine⟨l.map cA,bP d (by decide),λp=>Om (keys_nodup o),λx v h=>?_,?_,QS la k q r▸adA z,oC (s:="") (ss:=l.map cA) (B:=1) (n:=8) (λx C=>nQ (bO.mp C) λc a=>ai 1) (by rw[aC,A];exact aX 2 d) (by decide),Xv l⟩
 ·refine aG (Dd.mp (aaR h)) λi f h=>aG (bO.mp h) λj g e=>?_
  have f:=FJ f
  have g:=FJ g
  cases e
  show(rG _ _).length<=1000
  unfold rG
  rw[ee,ee,ee]
  have y:=JR (kz ps (i*s+j)++(hh (Iq j0 b) s i j).2)
  rw[ee] at y
  have D:=(Le _ (BZ t (i*s+j))).1
  have E:=u.la i j f g
  exact ag (cX (cX (cX (dW (u.lit i j f g)) (ai 8)) (ag y (aX 2 (cX D E)))) (ai 1)) (by decide)
 ·unfold kF jO
  exact af (JO (m:=s) _ λi F=>by unfold md;rw[aC,eM]) (af eM (ag (eS d d) (by decide)))
end
noncomputable def tabI (S:List St) (s1:Nat) (el:Int):Bool:=match S[0]? with
 |some x=>(bc (s1+2)).all λi=>(bc (s1+2)).all λj=>decide (0<=xB ((s1+1:Nat):Int) el (i:Nat) (j:Nat))&&(decide (xB ((s1+1:Nat):Int) el (i:Nat) (j:Nat)<=4)&&decide ((xB ((s1+1:Nat):Int) el (i:Nat) (j:Nat)).fmod 3=((mw x.b i j:Nat):Int)))
 |none=>false
theorem aeB:tabI NJ 2 0=true:=by kernel_rfl
theorem ajO:tabI NI 2 1=true:=by kernel_rfl
theorem ajN:tabI NH 3 0=true:=by kernel_rfl
theorem ajM:tabI NG 3 1=true:=by kernel_rfl
structure Tab S s1 el:Prop where
 fl:q' S s1=true
 rw:Fk S (s1+1)=true
 gy:Pb S s1=true
 ajJ:tabI S s1 el=true
theorem tab_of (h:s1=2\/s1=3) (a:el=0\/el=1):∃S,Tab S s1 el:=by
 rcases h with rfl|rfl<;>rcases a with rfl|rfl
 ·exact⟨NJ,aj2,ajo,ajY,aeB⟩
 ·exact⟨NI,aj1,ajn,ajX,ajO⟩
 ·exact⟨NH,aj0,ajm,ajW,ajN⟩
 ·exact⟨NG,ajZ,ajl,ajV,ajM⟩
theorem aag i j:((i:Nat)+(j:Nat):Int).fmod 2=cond ((i+j)%2==1) 1 0:=by
 refine(tZ (i+j) 2).trans ?_
 rcases Nat.mod_two_eq_zero_or_one (i+j) with h|h<;>refine af h ?_<;>rfl
section
variable {S:List St} {s1 w sp j0:Nat} {el:Int}
theorem RD (d:j0<48) (e:w<=31) (f:1<=sp) (g:sp<=4) (h:0<=a) (i:a<=4) (j:a.fmod 3=((c:Nat):Int)):qY (((j0:Nat):Int)+16*a) (cond odd 1 0) w sp=some (nE w sp j0 c):=by
 refine eY (ey h) λn b=>?_;subst b
 have k:j0+16*n<112:=av (Nat.add_lt_add_of_lt_of_le d (aX 16 (rt.mp i))) (by decide)
 have e2:(j0+16*n)%48=(j0+16*c)%48:=by
  rw[<-(yI.mp ((tZ n 3).symm.trans j)),<-Nat.mod_add_div n 3,xj,<-lG,<-ej,sv,sv,Nat.mod_mod]
 refine(B_ (gS (by decide) (cQ (j0+16*n))) (eH.mpr k) (λl=>cQ (j0+16*n)) e f g).trans ?_
 unfold nE
 rw[show(((j0+16*n:Nat):Int).fmod 48).toNat=(j0+16*n)%48 from congrArg Int.toNat (tZ (j0+16*n) 48),e2]
theorem abe (T:Tab S s1 el) (o:j0<48) (r:w<=31) (t:1<=sp) (u:sp<=4):∃x∈S,∀i c,(LB w sp j0 x.b)[i]?=some c->c.length=s1+2/\BX ((s1+1:Nat):Int) el ((j0:Nat):Int) w sp i c:=by
 have h:=T.ajJ
 unfold tabI at h
 refine oE S[0]? (λq=>?_) λx q=>?_
 ·rw[q] at h;exact bV h
 ·
  rw[q] at h
  have m:=bh q
  have g:=tS T.fl m
  refine(aP x m λi c k=>?_)
  have d:i<s1+2:=by
   have:=(aj.mp k).1
   rw[ve,g.len] at this;exact this
  refine oH (Tu (s:=s1+1) (w:=w) (sp:=sp) (j0:=j0) g d d) λe e1 a e3=>?_
  obtain rfl:=ab (k.symm.trans e1)
  refine⟨e3,λj y n=>?_⟩
  have f:j<s1+2:=by
   have:=(aj.mp n).1
   rw[e3] at this;exact this
  refine oH (Tu (s:=s1+1) (w:=w) (sp:=sp) (j0:=j0) g d f) λe f1 f2 a=>?_
  obtain rfl:=ab (k.symm.trans f1)
  refine af (n.symm.trans f2) ?_
  have l:=allR (allR h d) f
  rw[aag]
  exact RD o r t u (of_decide_eq_true (aL l)) (of_decide_eq_true (aL (aR l))) (of_decide_eq_true (aR (aR l)))
end
theorem Mh (h:acm l=true):Hp l:=λc a=>by
 rcases gV.mp (aV.mp h c a) with q|q
 ·exact .inl (bC q)
 ·exact .inr (bC q)
structure ai' s (x y:St):Prop where
 n1:x.lit.length=2*s
 n2:x.la.length=2*s
 n3:y.lit.length=2*s
 n4:y.la.length=2*s
 b1:Hp x.lit
 b2:Hp x.la
 b3:Hp y.lit
 t1:BP y.lit=x.lit
 t2:BP x.la=y.la
 c1:qm x.lit 0=true
 c2:qm (x.lit.tail++[40]) 0=false
theorem aeD (h:Gk s x y=true):ai' s x y:=by
 simp only[Gk,cW] at h
 obtain⟨⟨a,b,c,d⟩,⟨e,b2,f,l⟩,⟨g,i⟩,j,k⟩:=h
 exact⟨bC a,bC b,bC c,bC d,Mh e,Mh b2,Mh f,LS g,LS i,j,Ol k⟩
theorem cons_of {l:List Nat} (h:l.length=n) (a:0<n):∃c m,l=c::m/\m.length+1=n:=by
 induction l using cL with
 |nil=>exact absurd h (bj a)
 |cons c m=>exact fX c m rfl h
theorem Nn (a:s=3\/s=4):kF G7 ps s≠[]:=by
 rcases a with rfl|rfl<;>exact List.cons_ne_nil _ _
theorem ZG (i:j0<48) (a:s=3\/s=4) (v:Shape (s+1) x.b) (w:Shape (s+1) y.b) (d:uc ps) (G:ai' s x y)
  (j:sW x.b s=true/\wd (ym (uy false x.b s) s) x.lit=true/\wd (ym (uy true x.b s) s) x.la=true) (k:sW y.b s=true/\wd (ym (uy false y.b s) s) y.lit=true/\wd (ym (uy true y.b s) s) y.la=true):
  ∃o c1 e m q f ld,Mp ps s (Iq j0 x.b) (Iq j0 y.b) o c1 e m q f ld:=by
 have r:0<2*s:=by rcases a with rfl|rfl<;>decide
 have t:∀{n},n+1=2*s->n<=30:=λh=>ag (aQ _) (ag (dW h) (by rcases a with rfl|rfl<;>decide))
 refine cps λL C=>iQ (cons_of G.n1 r) λo m D E=>iQ (cons_of G.n2 r) λc1 q e1 F=>iQ (cons_of G.n3 r) λe f e2 H=>?_
 have t1:=G.t1
 have t2:=G.t2
 have b1:=G.b1
 have b2:=G.b2
 have b3:=G.b3
 have u:=G.c1
 have z:=G.c2
 have A:=Ex (l:=x.lit) i a v j.1 d j.2.1 G.n1
 have B:=Ex (l:=x.la) i a v j.1 d j.2.2 G.n2
 have g:=Ex (l:=y.lit) i a w k.1 d k.2.1 G.n3
 rw[D] at t1 b1 u z A
 rw[e1] at t2 b2 B
 rw[e2] at t1 b3 g
 refine C ⟨o,c1,e,m,q,f,y.la,Nn a,Nn a,A,B,g,Ex (l:=y.la) i a w k.1 d k.2.2 G.n4,t E,t F,t H,?_,?_,?_,?_,?_⟩
 ·rw[Dn d b3,t1]
 ·rw[Dn d b2,t2]
 ·rw[DI d b1,u]
 ·have I:Hp (m++[40]):=λc J=>by
   rcases bt.mp J with h|h
   ·exact b1 c (aB _ h)
   ·exact .inl (bl.mp h)
  exact af (DI d I) z
 ·rw[SP b1,u]
structure af' (h:Hd):Prop where
 four:h.four=0\/h.four=1
 el:h.el=0\/h.el=1
 u1:0<=h.abn
 u2:h.abn<48
 w1:0<=h.qz
 w2:h.qz<32
 l1:0<=h.less
 l2:h.less<4
 ps:uc h.ps
 og:∃p0 p1 p2 p3 p4 p5 p6 p7,h.og=[p0,p1,p2,p3,p4,p5,p6,p7]
 ahX:∀p∈h.og,p.2=0\/p.2=1\/p.2=2
noncomputable def Cy (four face:Int):Nat:=(face.fmod ((3+four-1)^2)).toNat
theorem fm {a m:Int} (h:0<m):0<=a.fmod m/\a.fmod m<m:=⟨kW a h,ow a h⟩
theorem LO {a:Int} {m:Nat} (h:0<m):(a.fmod m).toNat<m:=(Int.toNat_lt (kW a (eH.mpr h))).mpr (ow a (eH.mpr h))
theorem abF {four face:Int} (h:3+four=(s1+1:Nat)) (a:s1=2\/s1=3):Cy four face<s1*s1/\s1*s1<=9:=by
 unfold Cy
 refine af h ?_
 clear h;rcases a with rfl|rfl
 ·exact⟨LO (m:=4) (by decide),by decide⟩
 ·exact⟨LO (m:=9) (by decide),by decide⟩
theorem name_mem (h:k<9):c_.getD k 0∈c_:=by
 refine af dD (af (aF (show k<c_.length from h)) ?_)
 exact ko _
theorem KZ (j:jw h=l++[c]) (m:l.length=7) (n:∀d∈l++[c],d∈c_) (o:∀i,(jX h).getD i 0=0\/(jX h).getD i 0=1\/(jX h).getD i 0=2):
  (pI h).1=l.map cA/\∃q a,jn (pI h).2.2 (pI h).2.1=(cA c,1+endsF (gH h),q,a)/\jn q (1+endsF (gH h))=(("" :bD),1+endsF (gH h),[],false):=by
 have e:(gH h).cps.toList=rO h.first (λi=>(jX h).getD i 0) (l++[c]) 0 1:=by
  have:=aaX h.first (λi=>(jX h).getD i 0) (jw h) 0 1 ""
  rw[j] at this
  show fy (gH h)=_
  unfold gH
  refine af j (af this ?_);rfl
 refine aG (aab l [c] 0 _ 1 (λd r=>n d (dG _ r)) o (Gc (f:=h.first) (w:=λi=>(jX h).getD i 0) (l:=l++[c]) (k:=0) (b:=1))) λg e1 s=>?_
 rw[m] at e1
 refine iQ (NZ (n c (dz _ az)) (o _) s (1+cnt (rO h.first (λi=>(jX h).getD i 0) (l++[c]) 0 1)-cnt g)) λv a e2 t=>?_
 clear m;subst t
 have u:pI h=(l.map cA,1+cnt (rO h.first (λi=>(jX h).getD i 0) (l++[c]) 0 1)-cnt g,g):=by
  show lZ 7 (gH h).cps.toList 1=_
  rw[e,e1]
 rw[u]
 refine⟨rfl,[],a,(af e2 (af (by rw[YA];show cnt (gH h).cps.toList=_;rw[e]:endsF (gH h)=cnt (rO h.first (λi=>(jX h).getD i 0) (l++[c]) 0 1)) ?_)),rfl⟩
 congr 2
 show _-(0:Int)=_
 grind only
inductive Tw (S:List St) s1 w sp j0 el ks:Prop
 |mk x0 x1 x2 x3 (m0:x0∈S) (m1:x1∈S) (m2:x2∈S) (m3:x3∈S) (i0:∀i row,(LB w sp j0 x0.b)[i]?=some row->row.length=s1+2/\BX ((s1+1:Nat):Int) el ((j0:Nat):Int) w sp i row)
  (f0:ud w sp s1 ks (LB w sp j0 x0.b) (LB w sp j0 x1.b)) (f1:nM w sp s1 0 (bc (s1*s1)) (LB w sp j0 x1.b) (LB w sp j0 x2.b)) (f2:nM w sp s1 1 (bc (s1*s1)) (LB w sp j0 x2.b) (LB w sp j0 x3.b)) (g:Gk (s1+1) x1 x3=true):Tw S s1 w sp j0 el ks
theorem aht (T:Tab S s1 el) (e:j0<48) (f:w<=31) (g1:1<=sp) (g:sp<=4) (o:∀k∈q,k<s1*s1):Tw S s1 w sp j0 el q:=by
 refine aG (abe (w:=w) (sp:=sp) T e f g1 g) λl m0 r=>aG (Yp T.fl e f g1 g _ l o m0) λh i s=>?_
 have c:=aV.mp T.gy h i
 have m:=λodd {x y}=>We (j0:=j0) (w:=w) (sp:=sp) T.fl odd e f g1 g (bc (s1*s1)) x y λk=>mJ.mp
 induction j:uC S s1 0 (bc (s1*s1)) h using cO with
 |none=>rw[j] at c;exact bV c
 |some n=>
  rw[j] at c
  have a:=m 0 i j
  refine oE (uC S s1 1 (bc (s1*s1)) n) (λd=>?_) λt d=>?_
  ·rw[ng,d] at c;exact bV c
  ·
   rw[ng,d] at c
   have b:=m 1 a.1 d
   exact⟨l,h,n,t,m0,i,a.1,b.1,r,s,a.2,b.2,c⟩
theorem ai4 {h:Hd} (T:Tab S s1 h.el) (f:3+h.four=(s1+1:Nat)) (n:h.abn=((j0:Nat):Int)) (e:h.qz=((w:Nat):Int)) (a:1+h.less=((sp:Nat):Int)) (G:Tw S s1 w sp j0 h.el o):
  ∃i c j d,c∈S/\d∈S/\Gk (s1+1) c d=true/\Tz h s1 o (LB w sp j0 i) (LB w sp j0 c.b) (LB w sp j0 j) (LB w sp j0 d.b):=by
 obtain⟨i,c,j,d,m0,k,l,m,q,r,f1,f2,g⟩:=G
 have len:∀{x},x∈S->(LB w sp j0 x.b).length=s1+2:=λs=>by rw[ve,(tS T.fl s).len]
 refine⟨i.b,c,j.b,d,k,m,g,len m0,(af f (af n (af e (af a q)))),?_,(len k).trans (len m0).symm,?_,(len l).trans (len k).symm,?_,(len m).trans (len l).symm⟩
 ·exact af e (af a r)
 ·exact af e (af a f1)
 ·exact af e (af a f2)
theorem ad4 (G7:af' h):rX h:=by
 obtain⟨s1,r,j⟩:∃s1:Nat,3+h.four=(s1+1:Nat)/\(s1=2\/s1=3):=by
  rcases G7.four with e|e
  ·exact⟨2,e▸rfl,.inl rfl⟩
  ·exact⟨3,e▸rfl,.inr rfl⟩
 obtain⟨j0,t⟩:=ey G7.u1
 obtain⟨w,s⟩:=ey G7.w1
 obtain⟨l,u⟩:=ey G7.l1
 have C:j0<48:=eH.mp (kV (BH t.symm) G7.u2)
 have P:w<32:=eH.mp (kV (BH s.symm) G7.w2)
 have Q:l<4:=eH.mp (kV (BH u.symm) G7.l2)
 have v:1+h.less=((l+1:Nat):Int):=(iZ ..).trans (congrArg (· +1) u)
 have y:s1+1=3\/s1+1=4:=j.imp (congrArg (· +1)) (congrArg (· +1))
 obtain⟨S,T⟩:=tab_of j G7.el
 obtain⟨J,R,W,X,Y,Z,p6,p7,D⟩:=G7.og
 have E:=λp:Int×Int=>abF (four:=h.four) (face:=p.1) r j
 have f:jw h=[J,R,W,X,Y,Z,p6].map (λp=>c_.getD (Cy h.four p.1) 0)++[c_.getD (Cy h.four p7.1) 0]:=by
  unfold jw
  refine af D ?_;rfl
 have nm:∀p:Int×Int,c_.getD (Cy h.four p.1) 0∈c_:=λp=>name_mem (av (E p).1 (E p).2)
 have z:∀k∈[J,R,W,X,Y,Z,p6].map λp=>Cy h.four p.1,k<s1*s1:=λk L=>nQ (bO.mp L) λp a=>(E p).1
 refine GH (ai4 T r t s v (aht T C (eF P) (cR 1 l) Q z)) λx0 x1 x2 x3 F G g hB=>?_
 have m:∀{x},x∈S->_:=λ{x} A=>aV.mp T.rw x A
 have H:∀{a b c},(a&&(b&&c))=true->a=true/\b=true/\c=true:=λh=>⟨aL h,aL (aR h),aR (aR h)⟩
 have I:=λ{x} (A:x∈S)=>tS T.fl A
 obtain⟨c0,c1,M,l0,N,O,ld,hT⟩:=ZG C y (I F) (I G) G7.ps (aeD g) (H (m F)) (H (m G))
 have hy:∀i,(jX h).getD i 0=0\/(jX h).getD i 0=1\/(jX h).getD i 0=2:=λi=>by
  unfold jX
  refine af dD (af dh ?_)
  induction q:h.og[i]? using cO with
  |none=>exact .inl rfl
  |some p=>exact G7.ahX p (bh q)
 obtain⟨rd,G6,bb,e1,e2⟩:=KZ f rfl (λd D=>(bt.mp D).elim (λh=>nQ (bO.mp h) λp a=>nm p) λh=>bl.mp h▸nm p7) hy
 have o:h.og.length=8:=af D rfl
 have A:(gH h).length<=900:=by
  have:=OM h.first (λi=>(jX h).getD i 0) (jw h) 0 1 ""
  exact ag (show(jw h).length=8 by unfold jw;rw[aC,o]▸this) (by decide)
 have s0:0<s1+1:=gP _
 have s4:s1+1<=4:=y.elim λe=>e▸by decide dW
 have B:∀{n},n<32->((n:Nat):Int).natAbs<2^63:=λh=>il h (by decide)
 exact .mk s1 _ _ _ _ _ _ _ _ c0 c1 M l0 N O ld _ _ _ _ _ _ _ _ _ bb false G7.four (by rw[o];decide) j r (v▸B (av (ki Q) (by decide))) (s▸B P) G7.ps.ps hB (λk L=>av (z k L) (E J).2) (Jl C s0 s4 (I F) (H (m F)).1 G7.ps) (Jl C s0 s4 (I G) (H (m G)).1 G7.ps) hT A f rd e1 e2
theorem RC a k:pieceAt a k∈nD:=by
 unfold pieceAt
 have b:((a.fdiv (8^k)).fmod 8).toNat<nD.length:=LO (m:=8) (by decide)
 refine af dD (af (aF b) ?_)
 exact ko b
theorem aiv (h:n<2):n=0\/n=1:=(zD (eF h)).imp HM.mp id
theorem ajE (h:n<3):n=0\/n=1\/n=2:=(zD (eF h)).elim (λh=>(aiv h).imp id .inl) λh=> .inr (.inr h)
theorem UO {x:Int} {m:Nat} (h:0<m):∃n,n<m/\x.fmod m=((n:Nat):Int):=(aP _ (LO h) ((yi (fm (eH.mpr h)).1).symm))
theorem aiB {x:Int}:x.fmod 2=0\/x.fmod 2=1:=by
 refine aG (UO (x:=x) (m:=2) (by decide)) λn h e=>?_
 have c:∀{k},n=k->x.fmod 2=((k:Nat):Int):=λz=>z▸e
 exact(aiv h).imp c c
theorem ajL {x:Int}:x.fmod 3=0\/x.fmod 3=1\/x.fmod 3=2:=by
 refine aG (UO (x:=x) (m:=3) (by decide)) λn h e=>?_
 have c:∀{k},n=k->x.fmod 3=((k:Nat):Int):=λz=>z▸e
 exact(ajE h).imp c (MJ c c)
theorem ahs a b c d:af' (yw a b c d):=by
 have f:=fm (a:=a.fdiv 4) (m:=48) (by decide)
 have g:=fm (a:=a.fdiv 192) (m:=32) (by decide)
 have j:=fm (a:=a.fdiv 6144) (m:=4) (by decide)
 have one:∀{e} {p},p∈uX e->p.2=0\/p.2=1\/p.2=2:=λh=>nQ (bO.mp h) λk a=>ajL
 refine⟨aiB,aiB,f.1,f.2,g.1,g.2,j.1,j.2,⟨rfl,λx i=>?_⟩,⟨_,_,_,_,_,_,_,_,rfl⟩,λp h=>(bt.mp h).elim one one⟩
 have i:x∈[0,1,2,3,4,5].map (pieceAt d):=i
 exact nQ (bO.mp i) λk a=>RC d k
theorem afh a b c d:rX (yw a b c d):=ad4 (ahs a b c d)
end Internal
open PySem PySem.W PyProof.Rows
theorem PySem.Challenge.cw_wb0091_02_holds : PySem.Challenge.rw_wb0091_02.Holds := by
 exact Internal.aa3 Internal.afh
end
