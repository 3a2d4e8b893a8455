import PyProof.Rows.All
import Wide.All
import OpenK.AllK
import Wide.FinOn
import Lean
import PySem.Challenge.RW_ux0034_02
set_option maxRecDepth 100000
set_option Elab.async false
set_option linter.all false
set_option genInjectivity false
set_option genSizeOf false
set_option genCtorIdx false
set_option tactic.hygienic false
local macro_rules |`(⋯)=>`(by kernel_rfl)
namespace Internal
open Nat renaming le_trans->aB,le_of_ble_eq_true->aH,le_add_right->aW,le_refl->aZ,lt_of_le_of_lt->bA,add_le_add_right->bD,add_le_add_left->bI,lt_of_lt_of_le->bR,add_assoc->b9,le_of_eq->cC,succ_le_succ->cH,zero_le->cO,add_comm->cQ,zero_add->cZ,eq_of_beq_eq_true->c7,add_le_add->dD,blt->dT,le_of_lt->dY,ble->eB,ne_of_gt->eC,beq->eK,le_succ->eW,lt_irrefl->fN,le_add_left->fO,lt_succ_self->fU,le_of_not_lt->fV,lt_trans->gU,lt_of_succ_lt_succ->g8,le_of_succ_le->i9,lt_succ_of_le->jA,mod_lt->jQ,succ_pos->j2,min_eq_left->j3,ne_of_lt->k8,sub_self->k9,add_sub_cancel_left->lP,not_lt_zero->lR,exists_eq_add_of_le->lU,lt_of_succ_lt->mX,add_lt_add_right->nZ,not_lt->qG,le_succ_of_le->qH,succ_add_eq_add_succ->qL,succ->rK,succ_ne_self->sH,le_of_succ_le_succ->tE,not_succ_le_zero->vK,div_lt_of_lt_mul->vL,mul_le_mul_right->vM,add_right_comm->zS,log2_lt->G2,mul_one->G7,sub_le->MH
open PySem renaming wpAny_bind->aC,wpAny_pure->aI,Value->aJ,Shared->aM,wpAny_mono->bM,wpAny->bZ,Around->cF,Addr->cI,builtinLookup_eq_fast->cL,FuncData->cN,model->c0,Heap->c9,NameKind->dB,typeLookup_type->dH,wpAny_holding->dN,Expr->dO,foldedSetIterable->dQ,keywordEach->dX,compareOp->d7,wpAny_standAt->d8,letOwnedTupleGo->eF,sliceBounds->eP,starEach->fH,callEnvC->fK,swapsWith->f9,typeLookup->gO,wpAny_call_entry->gQ,cellsFrom->gX,backToKw->g6,wpAny_callSpecial?_slot->g7,Scope->iF,rawInt->iQ,codeAny_mono->iV,seqIndex? ->iW,wpAny_specialOf->jE,wpAny_newObj_type->jG,wpAny_of_eq->jS,wpAny_field->jT,isSubtype_type->jY,binaryOp->j7,typeIs_str->kR,standAt->lO,Builtin->lS,assignEach->lV,wpAny_rule->lW,call_meets->lY,Operator->mS,assign->mU,swappedStores->mW,builtinsNs->nO,strKind->nP,bindArgs->nY,backTo->n7,entryFor_of_tree->oI,assignInOrder->o9,codeAny->pR,eval->qI,wpAny_pyIter_tuple->q9,Model->rL,Program->rM,wpAny_truthy_bool->s9,wpAny_evalAll_nil->tC,wpAny_call->tD,wpAny_pyIter_enum->tF,holding->uK,getItem->uL,wpAny_attempt->uO,ExceptHandler->uP,pyNext->uW,wpAny_isInstance->uZ,Stmt->v8,bootBuiltins->wX,wpAny_execs_nil->wY,Keyword->wZ,wpAny_typeOf->w3,wpAny_updateSeq->w4,wpAny_loadPart'->w5,callWith->xL,truthy->AA,wpAny_loadPart->AB,firstArgMember->AF,wpAny_seqItems->AG,subscripted->BC,strIterType->BD,assign->DY,getMethod->DZ,swapsWithSole->D0,inplaceOp->D1,entryFor->D3,wpAny_setField_rec->D4,sysModules->GY,plainObj_wpAny_Assign_Attribute->GZ,sliceRange->G1
open Option.some renaming inj->aD
open List renaming length_append->aE,getElem?_eq_some_iff->aF,length_map->aG,mem_of_getElem? ->aN,mem_append_right->aR,mem_append->aT,mem_singleton->aU,size_toArray->aX,getElem?_eq_getElem->aY,nodup_append->bC,getElem?_append_left->bE,toArray->bG,mem_append_left->bJ,all_eq_true->bN,getD_eq_getElem?_getD->bO,append_nil->bQ,getElem?_map->bX,getElem?_append_right->bY,nodup_cons->b7,getElem?_take_of_lt->b8,range->cE,map_append->cG,mem_iff_getElem? ->cV,getElem?_toArray->cY,append_assoc->c4,lookup_cons->dA,getElem?_eq_none_iff->dC,length_nil->dJ,length_filter_le->dR,mem_map_of_mem->d9,length_cons->eQ,mem_map->eX,flatMap_cons->f8,mem_range->gP,pairwise_map->gT,length_set->gY,length_take_le->gZ,length_take->hY,nodup_nil->iC,length_range->i7,count_append->i8,isEmpty_iff->jK,take_sublist->j8,getElem?_set_ne->kE,nil_append->lJ,map_map->m2,length_singleton->m5,mem_cons->nW,forIn_cons->n9,filterMap_cons->oA,mem_filterMap->pA,reverse_cons->pV,filter_cons_of_pos->rA,filter_cons_of_neg->rB,length_drop->rO,take_length->rP,flatMap_nil->rR,getElem?_set_self->sF,take_of_length_le->sG,mem_filter->tI,mem_of_mem_take->uV,length_take_le'->uX,lookup->wA,getElem?_range->wB,append_toArray->wC,sum_cons->xN,map_cons->xO,getElem?_inj->z8,getElem?_set->z9,mem_range'_1->AD,cons_append->CB,map_fst_zip->CC,map_snd_zip->CD,mem_flatMap->CF,not_mem_of_not_mem_cons->D2,range'->D9,filterMap->HI,ne_of_not_mem_cons->ME
open Bool renaming false_ne_true->bH,and_eq_true_iff->bP,or_eq_true_iff->eA,or_eq_false_iff->fP,false_eq_true->gE,and_false->HG,false_and->HH,and_true->MG
open PySem.Heap renaming get?_push_size->bV,get?_push_of_some->cP,lt_size->c6,SameBut->eY,get?_update_self->eZ,get?_none_of_le->nQ,size_push->pL,ExtBut->q8,get?_update_ne->wD
open Int renaming natCast_nonneg->b6,ofNat_le->fD,lt_of_le_of_lt->iA,natCast_ne_zero->jH,ofNat_lt->lA,not_lt->lC,le_trans->pJ,natAbs_natCast->pK,toNat_natCast->qK,natCast_pow->G4,fdiv_eq_ediv_of_nonneg->HK,fmod_eq_emod_of_nonneg->HL,not_le->MF
open PySem.Builtin.List renaming listFitsIndex->cX,listExtendWith->wE
open PySem.Builtin.Str renaming occurrences->dG,strKind->gK,lastOccurrence->xM,partsBetween->AE,strSub->HJ
open PySem.NameKind renaming cell->dI,free->eM
open PySem.W renaming hideAll_get->dL,hideAll->eJ,hideAll_none->gJ,of_hideAll->kQ,findIn->nH,codeHdIn->uN,Frag->z7,cellsFrom_some->AC,tabObj->DX,looks_findIn->HF,isFn->JY
open Option renaming isSome_iff_exists->d0,none->jV,some->CE
open PySem.Str renaming ofString->gV
open PySem.Heap.SameBut renaming update->iD
open PySem.Around renaming frames_deeper->iE,under_of_weight->JX
open PySem.Builtin.SmallTypes renaming nextOf->jD
open Prod renaming fst->jU,snd->j9
open PySem.Value renaming none->j1,bool->pQ,ref->pT,type->tJ
open PySem.Builtin.Int renaming intBits->j4
open Nat.succ renaming inj->kF
open ForInStep renaming yield->kS
open PySem.F renaming slot_list_getattribute->mD,args_str_split_2->pB,entry_str_split->pS,slot_str_split->qJ,slot_dict_items->G6
open PySem.Builtin.Re renaming reRawNat->m3,reRawOf->tK,reRunToEnd->EB,reRawItems->EC,reDrive->JZ
open PySem.Builtin renaming divisionGoesByPylong->nE
open And renaming imp->nR,intro->G0
open PySem.Builtin.Range renaming rangeSize->n8
open PySem.Obj renaming putNameByArray->pI,mapSeq->uY,putName_eq->v9
open PySem.Value.type renaming inj->rN
open Array renaming getElem?_eq_none->rQ,getElem?_eq_getElem->G5
open Int.ofNat renaming inj->uM
open List.Pairwise renaming filterMap->zT
open PySem.Sre renaming forSearch->zV
open PySem.StrLaws renaming At->EA
open PySem.Calls renaming call_function_entry->G3
open PySem PySem.W PySem.Calls PyProof.Rows
theorem g5{k n:Nat}(h:k≤1000000)(hn:eB 1000000 n=true):k≤n:=aB h (aH hn)
theorem up{c k:Nat}(h:c≤k)(u m:Nat):u+c+m≤u+(m+k):=by rw[b9,cQ c];exact bI (bI h m) u
theorem sn{α:Type}{a:α}{xs:List α}{n k:Nat}(h:xs.length+(n+1)≤k):(xs++ [a]).length+n≤k:=aB (cC ((congrArg (· +n) aE).trans (zS ..))) h
theorem fit{p n k m:Nat}(h:p+(n+1)≤k)(e:k≤m):p+1≤m:=bA (aW p n) (aB h e)
theorem d5{A0 A1:Prop}{P:Prop}(h:A0∧A1)(k:A0->A1->P):P:=k h.1 h.2
theorem u3{A0 A1 A2:Prop}{P:Prop}(h:A0∧A1∧A2)(k:A0->A1->A2->P):P:=k h.1 h.2.1 h.2.2
theorem aJ3{A0 A1 A2 A3:Prop}{P:Prop}(h:A0∧A1∧A2∧A3)(k:A0->A1->A2->A3->P):P:=k h.1 h.2.1 h.2.2.1 h.2.2.2
theorem aAE{A0 A1 A2 A3 A4:Prop}{P:Prop}(h:A0∧A1∧A2∧A3∧A4)(k:A0->A1->A2->A3->A4->P):P:=k h.1 h.2.1 h.2.2.1 h.2.2.2.1 h.2.2.2.2
theorem aNM{A0 A1 A2 A3 A4 A5:Prop}{P:Prop}(h:A0∧A1∧A2∧A3∧A4∧A5)(k:A0->A1->A2->A3->A4->A5->P):P:=k h.1 h.2.1 h.2.2.1 h.2.2.2.1 h.2.2.2.2.1 h.2.2.2.2.2
theorem cD{α0:Sort _}{A0:α0->Prop}{P:Prop}(h:∃x0,A0 x0)(k:∀x0,A0 x0->P):P:=h.elim λx0 z=>k x0 z
theorem bS{α0:Sort _}{A0 A1:α0->Prop}{P:Prop}(h:∃x0,A0 x0∧A1 x0)(k:∀x0,A0 x0->A1 x0->P):P:=h.elim λx0 z=>k x0 z.1 z.2
theorem wF{α0:Sort _}{A0 A1 A2:α0->Prop}{P:Prop}(h:∃x0,A0 x0∧A1 x0∧A2 x0)(k:∀x0,A0 x0->A1 x0->A2 x0->P):P:=h.elim λx0 z=>k x0 z.1 z.2.1 z.2.2
theorem TX{α0:Sort _}{A0 A1 A2 A3:α0->Prop}{P:Prop}(h:∃x0,A0 x0∧A1 x0∧A2 x0∧A3 x0)(k:∀x0,A0 x0->A1 x0->A2 x0->A3 x0->P):P:=h.elim λx0 z=>k x0 z.1 z.2.1 z.2.2.1 z.2.2.2
theorem aNN{α0:Sort _}{A0 A1 A2 A3 A4:α0->Prop}{P:Prop}(h:∃x0,A0 x0∧A1 x0∧A2 x0∧A3 x0∧A4 x0)(k:∀x0,A0 x0->A1 x0->A2 x0->A3 x0->A4 x0->P):P:=h.elim λx0 z=>k x0 z.1 z.2.1 z.2.2.1 z.2.2.2.1 z.2.2.2.2
theorem aNO{α0:Sort _}{A0 A1 A2 A3 A4 A5:α0->Prop}{P:Prop}(h:∃x0,A0 x0∧A1 x0∧A2 x0∧A3 x0∧A4 x0∧A5 x0)(k:∀x0,A0 x0->A1 x0->A2 x0->A3 x0->A4 x0->A5 x0->P):P:=h.elim λx0 z=>k x0 z.1 z.2.1 z.2.2.1 z.2.2.2.1 z.2.2.2.2.1 z.2.2.2.2.2
theorem kG{α0:Sort _}{α1:Sort _}{A0:α0->α1->Prop}{P:Prop}(h:∃x0 x1,A0 x0 x1)(k:∀x0 x1,A0 x0 x1->P):P:=h.elim λx0 z0=>z0.elim λx1 z=>k x0 x1 z
theorem sI{α0:Sort _}{α1:Sort _}{A0 A1:α0->α1->Prop}{P:Prop}(h:∃x0 x1,A0 x0 x1∧A1 x0 x1)(k:∀x0 x1,A0 x0 x1->A1 x0 x1->P):P:=h.elim λx0 z0=>z0.elim λx1 z=>k x0 x1 z.1 z.2
theorem dW{α0:Sort _}{α1:Sort _}{A0 A1 A2:α0->α1->Prop}{P:Prop}(h:∃x0 x1,A0 x0 x1∧A1 x0 x1∧A2 x0 x1)(k:∀x0 x1,A0 x0 x1->A1 x0 x1->A2 x0 x1->P):P:=h.elim λx0 z0=>z0.elim λx1 z=>k x0 x1 z.1 z.2.1 z.2.2
theorem MI{α0:Sort _}{α1:Sort _}{A0 A1 A2 A3:α0->α1->Prop}{P:Prop}(h:∃x0 x1,A0 x0 x1∧A1 x0 x1∧A2 x0 x1∧A3 x0 x1)(k:∀x0 x1,A0 x0 x1->A1 x0 x1->A2 x0 x1->A3 x0 x1->P):P:=h.elim λx0 z0=>z0.elim λx1 z=>k x0 x1 z.1 z.2.1 z.2.2.1 z.2.2.2
theorem aJ4{α0:Sort _}{α1:Sort _}{A0 A1 A2 A3 A4:α0->α1->Prop}{P:Prop}(h:∃x0 x1,A0 x0 x1∧A1 x0 x1∧A2 x0 x1∧A3 x0 x1∧A4 x0 x1)(k:∀x0 x1,A0 x0 x1->A1 x0 x1->A2 x0 x1->A3 x0 x1->A4 x0 x1->P):P:=h.elim λx0 z0=>z0.elim λx1 z=>k x0 x1 z.1 z.2.1 z.2.2.1 z.2.2.2.1 z.2.2.2.2
theorem aNP{α0:Sort _}{α1:Sort _}{A0 A1 A2 A3 A4 A5:α0->α1->Prop}{P:Prop}(h:∃x0 x1,A0 x0 x1∧A1 x0 x1∧A2 x0 x1∧A3 x0 x1∧A4 x0 x1∧A5 x0 x1)(k:∀x0 x1,A0 x0 x1->A1 x0 x1->A2 x0 x1->A3 x0 x1->A4 x0 x1->A5 x0 x1->P):P:=h.elim λx0 z0=>z0.elim λx1 z=>k x0 x1 z.1 z.2.1 z.2.2.1 z.2.2.2.1 z.2.2.2.2.1 z.2.2.2.2.2
theorem ED{α0:Sort _}{α1:Sort _}{α2:Sort _}{A0:α0->α1->α2->Prop}{P:Prop}(h:∃x0 x1 x2,A0 x0 x1 x2)(k:∀x0 x1 x2,A0 x0 x1 x2->P):P:=h.elim λx0 z0=>z0.elim λx1 z1=>z1.elim λx2 z=>k x0 x1 x2 z
theorem HM{α0:Sort _}{α1:Sort _}{α2:Sort _}{A0 A1:α0->α1->α2->Prop}{P:Prop}(h:∃x0 x1 x2,A0 x0 x1 x2∧A1 x0 x1 x2)(k:∀x0 x1 x2,A0 x0 x1 x2->A1 x0 x1 x2->P):P:=h.elim λx0 z0=>z0.elim λx1 z1=>z1.elim λx2 z=>k x0 x1 x2 z.1 z.2
theorem CG{α0:Sort _}{α1:Sort _}{α2:Sort _}{A0 A1 A2:α0->α1->α2->Prop}{P:Prop}(h:∃x0 x1 x2,A0 x0 x1 x2∧A1 x0 x1 x2∧A2 x0 x1 x2)(k:∀x0 x1 x2,A0 x0 x1 x2->A1 x0 x1 x2->A2 x0 x1 x2->P):P:=h.elim λx0 z0=>z0.elim λx1 z1=>z1.elim λx2 z=>k x0 x1 x2 z.1 z.2.1 z.2.2
theorem MJ{α0:Sort _}{α1:Sort _}{α2:Sort _}{A0 A1 A2 A3:α0->α1->α2->Prop}{P:Prop}(h:∃x0 x1 x2,A0 x0 x1 x2∧A1 x0 x1 x2∧A2 x0 x1 x2∧A3 x0 x1 x2)(k:∀x0 x1 x2,A0 x0 x1 x2->A1 x0 x1 x2->A2 x0 x1 x2->A3 x0 x1 x2->P):P:=h.elim λx0 z0=>z0.elim λx1 z1=>z1.elim λx2 z=>k x0 x1 x2 z.1 z.2.1 z.2.2.1 z.2.2.2
theorem EE{α0:Sort _}{α1:Sort _}{α2:Sort _}{A0 A1 A2 A3 A4:α0->α1->α2->Prop}{P:Prop}(h:∃x0 x1 x2,A0 x0 x1 x2∧A1 x0 x1 x2∧A2 x0 x1 x2∧A3 x0 x1 x2∧A4 x0 x1 x2)(k:∀x0 x1 x2,A0 x0 x1 x2->A1 x0 x1 x2->A2 x0 x1 x2->A3 x0 x1 x2->A4 x0 x1 x2->P):P:=h.elim λx0 z0=>z0.elim λx1 z1=>z1.elim λx2 z=>k x0 x1 x2 z.1 z.2.1 z.2.2.1 z.2.2.2.1 z.2.2.2.2
theorem aNQ{α0:Sort _}{α1:Sort _}{α2:Sort _}{A0 A1 A2 A3 A4 A5:α0->α1->α2->Prop}{P:Prop}(h:∃x0 x1 x2,A0 x0 x1 x2∧A1 x0 x1 x2∧A2 x0 x1 x2∧A3 x0 x1 x2∧A4 x0 x1 x2∧A5 x0 x1 x2)(k:∀x0 x1 x2,A0 x0 x1 x2->A1 x0 x1 x2->A2 x0 x1 x2->A3 x0 x1 x2->A4 x0 x1 x2->A5 x0 x1 x2->P):P:=h.elim λx0 z0=>z0.elim λx1 z1=>z1.elim λx2 z=>k x0 x1 x2 z.1 z.2.1 z.2.2.1 z.2.2.2.1 z.2.2.2.2.1 z.2.2.2.2.2
theorem wG{α0:Sort _}{α1:Sort _}{α2:Sort _}{α3:Sort _}{A0:α0->α1->α2->α3->Prop}{P:Prop}(h:∃x0 x1 x2 x3,A0 x0 x1 x2 x3)(k:∀x0 x1 x2 x3,A0 x0 x1 x2 x3->P):P:=h.elim λx0 z0=>z0.elim λx1 z1=>z1.elim λx2 z2=>z2.elim λx3 z=>k x0 x1 x2 x3 z
theorem aJ5{α0:Sort _}{α1:Sort _}{α2:Sort _}{α3:Sort _}{A0 A1:α0->α1->α2->α3->Prop}{P:Prop}(h:∃x0 x1 x2 x3,A0 x0 x1 x2 x3∧A1 x0 x1 x2 x3)(k:∀x0 x1 x2 x3,A0 x0 x1 x2 x3->A1 x0 x1 x2 x3->P):P:=h.elim λx0 z0=>z0.elim λx1 z1=>z1.elim λx2 z2=>z2.elim λx3 z=>k x0 x1 x2 x3 z.1 z.2
theorem aJ6{α0:Sort _}{α1:Sort _}{α2:Sort _}{α3:Sort _}{A0 A1 A2:α0->α1->α2->α3->Prop}{P:Prop}(h:∃x0 x1 x2 x3,A0 x0 x1 x2 x3∧A1 x0 x1 x2 x3∧A2 x0 x1 x2 x3)(k:∀x0 x1 x2 x3,A0 x0 x1 x2 x3->A1 x0 x1 x2 x3->A2 x0 x1 x2 x3->P):P:=h.elim λx0 z0=>z0.elim λx1 z1=>z1.elim λx2 z2=>z2.elim λx3 z=>k x0 x1 x2 x3 z.1 z.2.1 z.2.2
theorem aJ7{α0:Sort _}{α1:Sort _}{α2:Sort _}{α3:Sort _}{A0 A1 A2 A3:α0->α1->α2->α3->Prop}{P:Prop}(h:∃x0 x1 x2 x3,A0 x0 x1 x2 x3∧A1 x0 x1 x2 x3∧A2 x0 x1 x2 x3∧A3 x0 x1 x2 x3)(k:∀x0 x1 x2 x3,A0 x0 x1 x2 x3->A1 x0 x1 x2 x3->A2 x0 x1 x2 x3->A3 x0 x1 x2 x3->P):P:=h.elim λx0 z0=>z0.elim λx1 z1=>z1.elim λx2 z2=>z2.elim λx3 z=>k x0 x1 x2 x3 z.1 z.2.1 z.2.2.1 z.2.2.2
theorem aNR{α0:Sort _}{α1:Sort _}{α2:Sort _}{α3:Sort _}{A0 A1 A2 A3 A4:α0->α1->α2->α3->Prop}{P:Prop}(h:∃x0 x1 x2 x3,A0 x0 x1 x2 x3∧A1 x0 x1 x2 x3∧A2 x0 x1 x2 x3∧A3 x0 x1 x2 x3∧A4 x0 x1 x2 x3)(k:∀x0 x1 x2 x3,A0 x0 x1 x2 x3->A1 x0 x1 x2 x3->A2 x0 x1 x2 x3->A3 x0 x1 x2 x3->A4 x0 x1 x2 x3->P):P:=h.elim λx0 z0=>z0.elim λx1 z1=>z1.elim λx2 z2=>z2.elim λx3 z=>k x0 x1 x2 x3 z.1 z.2.1 z.2.2.1 z.2.2.2.1 z.2.2.2.2
theorem aNS{α0:Sort _}{α1:Sort _}{α2:Sort _}{α3:Sort _}{A0 A1 A2 A3 A4 A5:α0->α1->α2->α3->Prop}{P:Prop}(h:∃x0 x1 x2 x3,A0 x0 x1 x2 x3∧A1 x0 x1 x2 x3∧A2 x0 x1 x2 x3∧A3 x0 x1 x2 x3∧A4 x0 x1 x2 x3∧A5 x0 x1 x2 x3)(k:∀x0 x1 x2 x3,A0 x0 x1 x2 x3->A1 x0 x1 x2 x3->A2 x0 x1 x2 x3->A3 x0 x1 x2 x3->A4 x0 x1 x2 x3->A5 x0 x1 x2 x3->P):P:=h.elim λx0 z0=>z0.elim λx1 z1=>z1.elim λx2 z2=>z2.elim λx3 z=>k x0 x1 x2 x3 z.1 z.2.1 z.2.2.1 z.2.2.2.1 z.2.2.2.2.1 z.2.2.2.2.2
theorem nI{α:Type}{a b:α}{l:List α}{P:Prop}(h:a∈b::l)(x:a=b->P)(y:a∈l->P):P:=(nW.mp h).elim x y
theorem fA{α:Type}{a:α}{p:Prop}(h:none=some a):p:=nomatch h
theorem EF{α β:Type}{o:Option α}{f:α->Option β}{y:β}(e:Option.rec (motive:=λ_=>Option β) none f o=some y):∃x,o=some x∧f x=some y:=by
 cases o with
 | none=>exact fA e
 | some x=>exact⟨x,rfl,e⟩
theorem BE{β:Type}{c:Bool}{o:Option β}{y:β}(e:cond c o none=some y):c=true∧o=some y:=by
 cases c with
 | false=>exact fA e
 | true=>exact⟨rfl,e⟩
theorem turns{j m n:Nat}(h:j+m=n)(l:j < n):∃m',m' < m∧j+1+m'=n:=by
 cases m with
 | zero=>exact absurd l (qG.mpr (cC h.symm))
 | succ k=>exact⟨k,fU _,(Nat.succ_add ..).trans h⟩
inductive aA where
 | none
 | bool (b:Bool)
 | int (i:Int)
 | str (s:List Nat)
 | ref (a:cI)
 | aO (l:Nat)
 | tup (xs:List aA)
 | blt (id:String)
 | typ (n:String)
 | old (s:List Nat) (B T:Nat)
noncomputable abbrev c8(l:List Nat):Str:=⟨l.toArray⟩
noncomputable abbrev Roo:=List cI
mutual
def V(ρ:Roo)(h:c9):aA->aJ->Prop
 | .none,v=>v= .none
 | .bool b,v=>v= .bool b
 | .int i,v=>∃t,v= .int i t
 | .str l,v=>∃t,v= .str (c8 l) t
 | .ref a,v=>v= .ref a
 | .aO l,v=>∃a,ρ[l]? =some a∧v= .ref a
 | .tup xs,v=>∃a vs,v= .ref a∧h.IsTuple a (bG vs)∧Vs ρ h xs vs
 | .blt i,v=>v= .builtin i
 | .typ n,v=>v= .type n
 | .old l B T,v=>∃t,v= .str (c8 l) t∧B≤t∧t < T
def Vs(ρ:Roo)(h:c9):List aA->List aJ->Prop
 | [],vs=>vs= []
 | x::xs,vs=>∃v r,vs=v::r∧V ρ h x v∧Vs ρ h xs r
end
def TK(h h':c9):Prop:=∀a vs,h.IsTuple a vs->h'.IsTuple a vs
def Ke(h h':c9):Prop:=∀b o,h.get? b=some o->h'.get? b=some o
inductive Le(ρ:Roo)(h:c9)(ρ':Roo)(h':c9):Prop where
 | mk (lb:∀(l:Nat) (a:cI),ρ[l]? =some a->ρ'[l]? =some a) (tk:TK h h')
section
variable {ρ ρ' ρ'':Roo} {h h' h'':c9} {s:aM}
theorem Le.refl:Le ρ h ρ h:=⟨λY Y x=>x,λY Y x=>x⟩
theorem Le.trans(x:Le ρ h ρ' h')(y:Le ρ' h' ρ'' h''):Le ρ h ρ'' h'':=⟨λl a z=>y.1 l a (x.1 l a z),λa vs z=>y.2 a vs (x.2 a vs z)⟩
theorem Le.of(k:TK h h'):Le ρ h ρ h':=⟨λY Y x=>x,k⟩
theorem Ke.tk(k:Ke h h'):TK h h':=λY Y t=>t.elim λo z=>⟨o,k _ _ z.1,z.2⟩
theorem Le.ke(k:Ke h h'):Le ρ h ρ h':=.of k.tk
theorem Ke.push(o:Obj):Ke h (h.push o):=λY Y e=>cP _ e
theorem Le.app{x:Roo}(k:TK h h'):Le ρ h (ρ++x) h':=⟨λl a e=>(bE (aF.mp e).1).trans e,k⟩
theorem V.mono(L:Le ρ h ρ' h'){a:aA}{v:aJ}:V ρ h a v->V ρ' h' a v:=by
 refine aA.rec (motive_1:=λa=>∀v,V ρ h a v->V ρ' h' a v) (motive_2:=λxs=>∀vs,Vs ρ h xs vs->Vs ρ' h' xs vs)
  (λY e=>e) (λY Y e=>e) (λY Y e=>e) (λY Y e=>e) (λY Y e=>e) (λY Y e=>e.elim λa z=>⟨a,L.1 _ _ z.1,z.2⟩)
  (λY ih Y e=>?_) (λY Y e=>e) (λY Y e=>e) (λY Y Y Y e=>e) (λY e=>e) (λY Y i1 i2 Y e=>?_) a v
 ·refine dW e λa vs e t r=>?_;exact⟨a,vs,e,L.2 _ _ t,ih vs r⟩
 ·refine dW e λv r e x y=>?_;exact⟨v,r,e,i1 v x,i2 r y⟩
noncomputable def aA.wk(a:aA):aA:=match a with
 | .old l _ _=>.str l
 | a=>a
theorem V.wk{a:aA}{v:aJ}(e:V ρ h a v):V ρ h a.wk v:=by
 cases a with
 | old l B T=>exact e.elim λt z=>⟨t,z.1⟩
 | _=>exact e
theorem Vs.mono(L:Le ρ h ρ' h'){as:List aA}:∀{vs:List aJ},Vs ρ h as vs->Vs ρ' h' as vs:=by
 induction as with
 | nil=>intro _ e;exact e
 | cons x xs ih=>intro _ e;refine dW e λv r e x y=>?_;exact⟨v,r,e,x.mono L,ih y⟩
theorem Vs.length{as:List aA}:∀{vs:List aJ},Vs ρ h as vs->vs.length=as.length:=by
 induction as with
 | nil=>intro _ e;exact congrArg List.length e
 | cons x xs ih=>intro _ e;refine dW e λv r dE x y=>?_;subst dE;exact congrArg rK (ih y)
theorem Vs.get{as:List aA}:∀{vs:List aJ} {i:Nat} {a:aA},Vs ρ h as vs->as[i]? =some a->∃v,vs[i]? =some v∧V ρ h a v:=by
 induction as with
 | nil=>intro _ _ _ _ q;exact fA q
 | cons x xs ih=>
  intro _ i _ e q
  refine dW e λv r dE y z=>?_;subst dE
  cases i with
  | zero=>obtain rfl:=aD q;exact⟨v,rfl,y⟩
  | succ i=>have w:=ih z (i:=i) q;exact w
theorem Vs.nil:Vs ρ h [] []:=rfl
theorem Vs.cons{a:aA}{as:List aA}{v:aJ}{vs:List aJ}(x:V ρ h a v)(y:Vs ρ h as vs):Vs ρ h (a::as) (v::vs):=⟨v,vs,rfl,x,y⟩
theorem Vs.append{as bs:List aA}{ws:List aJ}(f:Vs ρ h bs ws):∀{vs:List aJ},Vs ρ h as vs->Vs ρ h (as++bs) (vs++ws):=by
 induction as with
 | nil=>intro _ e;obtain rfl:=(e:_= []);exact f
 | cons x xs ih=>intro _ e;refine dW e λv r dE x y=>?_;subst dE;exact⟨v,_,rfl,x,ih y⟩
theorem Vs.append'{as bs:List aA}{vs ws:List aJ}(e:Vs ρ h as vs)(f:Vs ρ h bs ws):Vs ρ h (as++bs) (vs++ws):=Vs.append f e
end
theorem u4{M:rL}{Γ:PySem.Ctx}{p:Pos}{t:Sem PySem.Fin}{fs:List Frame}{s s':aM}{e:PySem.End}(h:Runs M Γ p t fs s e s'):s.toks≤s'.toks:=by
 induction h with
 | fresh _ ih=>exact i9 ih
 | call _ _ i1 i2=>exact aB i1 i2
 | resumeFresh _ _ _ _ i1 i2=>exact aB i1 i2
 | resumeSuspended _ _ _ _ i1 i2=>exact aB i1 i2
 | segRet _ _ i1 i2=>exact aB i1 i2
 | segGen _ _ i1 i2=>exact aB i1 i2
 | segSuspGen _ _ _ _ i1 i2=>exact aB i1 i2
 | done=>exact aZ _
 | raise=>exact aZ _
 | «yield» =>exact aZ _
 | _=>assumption
theorem HO{M:rL}{Γ:PySem.Ctx}{p:Pos}{g:Nat}{r:Resume}{s s':aM}{res:GenResult}(h:Wakes M Γ p g r s res s'):s.toks≤s'.toks:=by
 unfold Wakes at h
 split at h
 ·exact h.elim
 ·split at h
  ·obtain⟨e,s1,h,_,_,rfl⟩:=h;have z:=u4 h;exact z
  ·exact h.2▸aZ _
  ·exact h.2▸aZ _
 ·obtain⟨e,s1,h,_,_,rfl⟩:=h;have z:=u4 h;exact z
 all_goals exact h.2▸aZ _
theorem wp_toks{α:Type}{M:rL}{Γ:PySem.Ctx}{n:Nat}{Q:α->Pos->aM->Prop}{E:aJ->Pos->aM->Prop}(t:Sem α):∀{p:Pos} {s:aM},n≤s.toks->Sem.wp M Γ t Q E p s->Sem.wp M Γ t (λa p s'=>n≤s'.toks∧Q a p s') (λe p s'=>n≤s'.toks∧E e p s') p s:=by
 induction t with
 | pure a=>exactλk h=>⟨k,h⟩
 | raise e=>exactλk h=>⟨k,h⟩
 | load a part f ih=>exactλk h=>h.elim λo h=>⟨o,h.1,ih o k h.2⟩
 | update a part f g ih=>exactλk h=>⟨h.1,ih () k h.2⟩
 | fresh f ih=>exactλk h=>ih _ (qH k) h
 | choose src m f ih=>exactλk h=>⟨h.1,ih _ k h.2⟩
 | call c hd g l f ih=>exactλk h=>h.elim λr h=>h.elim λs' h=>⟨r,s',h.1,ih r (aB k (u4 h.1)) h.2⟩
 | genState g f ih=>exactλk h=>h.elim λst h=>⟨st,h.1,ih _ k h.2⟩
 | resume g r l f ih=>exactλk h=>h.elim λres h=>h.elim λs' h=>⟨res,s',h.1,ih res (aB k (HO h.1)) h.2⟩
 | rule _ f ih=>exactλk h=>ih _ k h
 | «at» _ f ih=>exactλk h=>ih _ k h
 | loadIfAlive _ f ih=>exactλk h=>ih _ k h
 | point _ f ih=>exactλk h=>ih _ k h
 | alloc _ f ih=>exactλk h=>ih _ k h
 | ask f ih=>exactλk h=>ih _ k h
 | os _ _ f ih=>exactλk h=>ih _ k h
 | handled _ f ih=>exactλk h=>ih _ k h
 | newGen _ f ih=>exactλk h=>ih _ k h
 | stack f ih=>exactλk h=>ih _ k h
 | thread f ih=>exactλk h=>ih _ k h
 | _=>exactλk h=>h.elim
theorem pW{α:Type}{M:rL}{A:cF}{t:Sem α}{Q:α->aM->Prop}{E:aJ->aM->Prop}{s:aM}{n:Nat}(k:n≤s.toks)(h:bZ M A t (λa s'=>n≤s'.toks->Q a s') (λe s'=>n≤s'.toks->E e s') s):bZ M A t Q E s:=λΓ p i=>
 Sem.wp_mono M Γ t (λ_ _ _ z=>z.2 z.1) (λ_ _ _ z=>z.2 z.1) p s (wp_toks t k (h Γ p i))
noncomputable abbrev fF:=List (Str×dB)
noncomputable abbrev Loc:=List (Option aA)
structure WD where
 prog:rM
 w:World
 K:z7
 mb:Str->Option aJ
 os:OsState
 dr:Drawn
inductive PF(D:WD)(g:c9):Prop where
 | mk (K:D.K.In g) (bns:g.Ns nO D.mb) (blt:∀x:Str,x≠"__name__"->D.mb x=wX x) (nolimit:g.NoLimit) (nodigits:∃mc,g.Ns cStatics mc∧mc "sys.int_max_str_digits"=none) (main:∃mg bm ob,g.Ns mainGlobals mg∧mg "__builtins__"=some (.ref bm)∧g.get? bm=some ob∧ob.cls= .type "module"∧ob.dict=some nO∧ob.data= .plain)
theorem PF.keeps{D:WD}{g h:c9}(p:PF D g)(k:Ke g h):PF D h:=
 ⟨p.1.keeps k,p.2.keeps k,p.3,p.4.keeps k,p.5.elim λmc a=>⟨mc,a.1.keeps k,a.2⟩,
  p.6.elim λmg a=>a.elim λbm a=>a.elim λob a=>⟨mg,bm,ob,a.1.keeps k,a.2.1,k _ _ a.2.2.1,a.2.2.2⟩⟩
def NT(o:Obj):Prop:=∀items n,o.cls= .type "tuple"->o.data= .seq items n->False
theorem NT.ty{o:Obj}{nm:String}(h:o.cls= .type nm)(hn:nm≠"tuple"):NT o:=λY Y q Y=>hn (rN (h.symm.trans q))
theorem NT.cls{o:Obj}(h:o.cls≠.type "tuple"):NT o:=λY Y q Y=>h q
theorem NT.dict{o:Obj}{es n}(h:o.data= .dict es n):NT o:=λY Y Y q=>Data.noConfusion (h.symm.trans q)
theorem NT.cell{o:Obj}{v}(h:o.data= .cell v):NT o:=λY Y Y q=>Data.noConfusion (h.symm.trans q)
theorem NT.fields{o:Obj}{v}(h:o.data= .fields v):NT o:=λY Y Y q=>Data.noConfusion (h.symm.trans q)
theorem TK.but{h h':c9}{a:cI}{o:Obj}(k:∀b,b≠a->h'.get? b=h.get? b)(e:h.get? a=some o)(n:NT o):TK h h':=by
 intro b items t
 by_cases q:b=a
 ·subst q
  obtain⟨o',e',c,n',r⟩:=t
  obtain rfl:o=o':=aD (e.symm.trans e')
  exact(n _ _ c r).elim
 ·refine bS t λo' e' c=>?_
  exact⟨o',(k b q).trans e',c⟩
structure xP where
 nm:fF
 body:dO
 x:Str
 ps:List Str
inductive EG(L:xP)(q:Str)(fd:cN):Prop where
 | mk (body:fd.body= .expr L.body) (gl:fd.globals=mainGlobals) (bl:fd.builtins=nO) (nm:fd.scope.names=L.nm) (nd:(L.nm.map (·.1)).Nodup) (cell:(L.nm.all λp=>p.2 != .cell)=true) (free:(L.nm.all λp=>p.2 != .free || p.1==L.x)=true) (co:fd.scope.isCoroutine=false) (gen:fd.scope.isGenerator=false) (kind:fd.scope.kind= .function) (qn:fd.qualname=q)
  (bd:∀(c:aJ) (cs:List (Str×cI)) (vs:List aJ),vs.length=L.ps.length->nY { fd with closure:=cs,code:=c } ⟨vs,[]⟩=pure (L.ps.zip vs))
noncomputable abbrev Stk:=List (Env×Obj)
def OU(e:Env)(o:Obj)(h:c9):Prop:=e.scope.kind≠.module∧e.frame=some e.locals∧(∃es n,o.data= .dict es n)∧∃sl,h.get? e.locals=some { o with slots:=sl }
noncomputable def mK(ρ:Roo)(zs:List (Pos×Nat)):List aJ:=List.rec [] (λz _ ih=>iQ z.1.line::iQ z.1.col:: .ref (ρ.getD z.2 0)::ih) zs
theorem xQ{ρ ρ':Roo}{f:Nat->Nat}{zs:List (Pos×Nat)}(h:∀z∈zs,ρ'.getD (f z.2) 0=ρ.getD z.2 0):mK ρ' (zs.map λz=>(z.1,f z.2))=mK ρ zs:=by
 induction zs with
 | nil=>rfl
 | cons z r ih=>
  show iQ z.1.line::iQ z.1.col:: .ref (ρ'.getD (f z.2) 0)::mK ρ' (r.map λz=>(z.1,f z.2))=iQ z.1.line::iQ z.1.col:: .ref (ρ.getD z.2 0)::mK ρ r
  rw[h z (.head _),ih λz m=>h z (.tail _ m)]
theorem CH{zs:List (Pos×Nat)}:zs.map (λz=>(z.1,z.2))=zs:=List.map_id zs
theorem CI{ρ:Roo}{l:Nat}(h:l < ρ.length):ρ[l]? =some (ρ.getD l 0):=by rw[bO,aY h];rfl
inductive Pc where
 | gone
 | lst (xs:List aA)
 | ns (fs:List (Str×aA))
 | inst (C:cI) (d:Nat)
 | wH (ps:List (List Nat×aA))
 | rC (a:aA)
 | tG (fd:cN) (c:Nat) (d:Option Nat)
 | HP (fd:cN) (x:Str) (cl:Nat) (c:Nat) (d:Option Nat)
 | pC (q:Str)
 | wI (L:xP) (q:Str) (cl c:Nat)
 | iG (T:cI) (zs:List (Pos×Nat))
 | m6 (f:cI) (x:Nat)
 | hC (b:Nat) (l:List Nat)
 | tL
 | oK (k:Nat)
 | lit (l:Nat)
 | OV (xs:List aA)
 | AH (it:Nat)
 | vw (d:Nat)
 | OC (cls:String) (l:List Nat)
 | fix (ob:Obj) (is:List Int)
def TY(ρ:Roo)(h:c9):Option aA->Option aJ->Prop
 | none,r=>r=none
 | some b,r=>∃v,r=some v∧V ρ h b v
def TZ(h:c9)(a:cI)(m:Str->Option aJ)(k:Nat):Prop:=∃o es ep,h.get? a=some o∧o.data= .dict es ep∧StrKeys es∧(∀name,nsFind es name=m name)∧es.size≤k
def Pc.obj(D:WD)(ρ:Roo)(h:c9)(o:Obj):Pc->Prop
 | .gone=>NT o
 | .lst xs=>∃vs n,o={ cls:=.type "list",data:=.seq (bG vs) n }∧Vs [] h xs vs
 | .ns fs=>∃m:Str->Option aJ,(∃es ep,o.data= .dict es ep∧StrKeys es∧(∀name,nsFind es name=m name)∧es.size≤fs.length)∧∀x,TY ρ h (fs.lookup x) (m x)
 | .inst C d=>∃dx,ρ[d]? =some dx∧∃sl,o=⟨.ref C,some dx,.plain,sl⟩
 | .wH ps=>∃kvs,Vs [] h (ps.map (·.2)) (kvs.map (·.2))∧kvs.map (·.1)=ps.map (λp=>c8 p.1)∧∃es ep,o.ExactDict∧o.data= .dict es ep∧KeysOf (nP D.prog D.w) es∧Pairs (nP D.prog D.w) es.toList kvs∧(kvs.map (·.1)).Nodup
 | .rC b=>∃v,V ρ h b v∧o.data= .cell (some v)
 | .tG fd c d=>∃ac,ρ[c]? =some ac∧∃sl,o=⟨.type "function",d.bind (ρ[·]?),.func { fd with code:=.ref ac },sl⟩∧∀i,d=some i->i < ρ.length
 | .HP fd x cl c d=>∃ax,ρ[cl]? =some ax∧∃ac,ρ[c]? =some ac∧∃sl,o=⟨.type "function",d.bind (ρ[·]?),.func { fd with closure:=[(x,ax)],code:=.ref ac },sl⟩∧∀i,d=some i->i < ρ.length
 | .pC q=>∃vs t,o.data= .fields vs∧vs[1]? =some (.str q t)
 | .wI L q cl c=>∃fd,EG L q fd∧∃ax,ρ[cl]? =some ax∧∃ac,ρ[c]? =some ac∧∃sl,o=⟨.type "function",none,.func { fd with closure:=[(L.x,ax)],code:=.ref ac },sl⟩
 | .iG _ zs=>o=DX (bG (mK ρ zs))∧∀z∈zs,z.2 < ρ.length
 | .m6 f x=>∃ax,ρ[x]? =some ax∧o=methodObj (.ref f) (.ref ax)
 | .hC b l=>∃ab,ρ[b]? =some ab∧∃t,o={ cls:=.type "callable_iterator",data:=.fields #[.ref ab,.str (c8 l) t,.bool false] }
 | .tL=>o={ cls:=.type "callable_iterator",data:=.fields #[.none,.none,.bool true] }
 | .oK k=>∃t u v,o={ cls:=.type "range",dict:=none,data:=.fields #[.int 0 t,.int k u,.int 1 v],slots:=#[] }
 | .lit l=>∃al,ρ[l]? =some al∧o.cls= .type "list_iterator"∧o.data= .fields #[.ref al,.int 0 0]
 | .OV xs=>∃t vs,h.IsTuple t (bG vs)∧Vs [] h xs vs∧o.cls= .type "tuple_iterator"∧o.data= .fields #[.ref t,.int 0 0]
 | .AH it=>∃ai,ρ[it]? =some ai∧∀h:c9,∀a,h.get? a=some o->IsEnum h a ai 0 .none
 | .vw d=>∃ad,ρ[d]? =some ad∧o.cls= .type "dict_items"∧o.data= .fields #[.ref ad]
 | .OC cls l=>∃t,(∃u,h.IsTuple t (bG [.str (c8 l) u]))∧cls≠"tuple"∧∃vs,o.cls= .type cls∧o.data= .fields vs∧vs[0]? =some (.ref t)
 | .fix ob is=>o=ob∧o.cls= .type "list"∧∃vs n,o.data= .seq (bG vs) n∧Vs [] h (is.map .int) vs
noncomputable def Pc.ls:Pc->Option (List aA)
 | .lst xs=>some xs
 | .fix _ is=>some (is.map .int)
 | _=>none
def Pc.sys(a:cI):Pc->Prop
 | .wH _=>(a==GY)=false
 | .iG T _=>a=T
 | _=>True
inductive Pc.ok(D:WD)(ρ:Roo)(h:c9)(a:cI)(p:Pc):Prop where
 | mk' (ex:∃o,h.get? a=some o∧p.obj D ρ h o) (nt:∀o,h.get? a=some o->NT o) (sys:p.sys a)
section
variable {D:WD} {ρ ρ':Roo} {h h':c9} {a:cI} {o:Obj}
theorem Pc.ok.mk{p:Pc}(e:h.get? a=some o)(n:NT o)(z:p.obj D ρ h o)(y:p.sys a):p.ok D ρ h a:=⟨⟨o,e,z⟩,λY e'=>aD (e.symm.trans e')▸n,y⟩
theorem TY.mono(L:Le ρ h ρ' h'):∀{b:Option aA} {r:Option aJ},TY ρ h b r->TY ρ' h' b r
 | none,_,e=>e
 | some _,_,e=>e.elim λv z=>⟨v,z.1,z.2.mono L⟩
theorem Le.bot(L:Le ρ h ρ' h'):Le [] h [] h':=.of L.2
theorem Pc.om(L:Le ρ h ρ' h'){p:Pc}(e:p.obj D ρ h o):p.obj D ρ' h' o:=by
 cases p with
 | lst=>refine sI e λvs n e v=>?_;exact⟨vs,n,e,v.mono L.bot⟩
 | ns=>refine bS e λm e q=>?_;exact⟨m,e,λx=>(q x).mono L⟩
 | inst=>refine bS e λdx i e=>?_;exact⟨dx,L.1 _ _ i,e⟩
 | wH=>refine bS e λkvs v e=>?_;exact⟨kvs,v.mono L.bot,e⟩
 | rC=>refine bS e λv z e=>?_;exact⟨v,z.mono L,e⟩
 | HP fd x cl c d=>
  obtain⟨ax,i,ac,j,sl,e,k⟩:=e
  refine⟨ax,L.1 _ _ i,ac,L.1 _ _ j,sl,e.trans ?_,λi q=>?_⟩
  ·cases d with
   | none=>rfl
   | some i=>have q:=aY (k i rfl);exact congrArg (λz=>(⟨.type "function",z,_,sl⟩:Obj)) (q.trans (L.1 _ _ q).symm)
  ·exact(aF.mp (L.1 _ _ (aY (k i q)))).1
 | tG fd c d=>
  obtain⟨ac,j,sl,e,k⟩:=e
  refine⟨ac,L.1 _ _ j,sl,e.trans ?_,λi q=>?_⟩
  ·cases d with
   | none=>rfl
   | some i=>have q:=aY (k i rfl);exact congrArg (λz=>(⟨.type "function",z,_,sl⟩:Obj)) (q.trans (L.1 _ _ q).symm)
  ·exact(aF.mp (L.1 _ _ (aY (k i q)))).1
 | wI=>obtain⟨fd,F,ax,i,ac,j,e⟩:=e;exact⟨fd,F,ax,L.1 _ _ i,ac,L.1 _ _ j,e⟩
 | iG T zs=>
  have g:∀z∈zs,ρ'[z.2]? =some (ρ.getD z.2 0):=λz m=>L.1 _ _ (CI (e.2 z m))
  have:=xQ (ρ:=ρ) (ρ':=ρ') (f:=λl=>l) (zs:=zs) λz m=>by rw[bO,g z m];rfl
  rw[CH] at this
  exact⟨this.symm▸e.1,λz m=>(aF.mp (g z m)).1⟩
 | m6=>refine bS e λx i e=>?_;exact⟨x,L.1 _ _ i,e⟩
 | hC=>refine bS e λx i e=>?_;exact⟨x,L.1 _ _ i,e⟩
 | lit=>refine bS e λx i e=>?_;exact⟨x,L.1 _ _ i,e⟩
 | AH=>refine bS e λx i e=>?_;exact⟨x,L.1 _ _ i,e⟩
 | OV=>refine dW e λt vs y v e=>?_;exact⟨t,vs,L.2 _ _ y,v.mono L.bot,e⟩
 | vw=>refine bS e λx i e=>?_;exact⟨x,L.1 _ _ i,e⟩
 | OC=>refine bS e λt y e=>?_;exact⟨t,y.elim λu y=>⟨u,L.2 _ _ y⟩,e⟩
 | gone=>exact e
 | pC=>exact e
 | tL=>exact e
 | oK=>exact e
 | fix=>obtain⟨z,y,vs,n,e,v⟩:=e;exact⟨z,y,vs,n,e,v.mono L.bot⟩
theorem Pc.live{p:Pc}(e:p.ok D ρ h a):∃o,h.get? a=some o∧NT o:=e.1.elim λo z=>⟨o,z.1,e.2 _ z.1⟩
theorem Pc.mono{p:Pc}(L:Le ρ h ρ' h')(k:∀o,h.get? a=some o->h'.get? a=some o)(e:p.ok D ρ h a):p.ok D ρ' h' a:=e.1.elim λo z=>.mk (k _ z.1) (e.2 _ z.1) (Pc.om L z.2) e.3
end
structure aK where
 m:Loc
 H:List Pc
structure Ctx where
 D:WD
 n:Nat
 env:Env
 own:List cI
 k:Stk
 ns:fF
 hd:Option aJ
 fs:List Env
 cp:List Nat
noncomputable def Ctx.X(C:Ctx):List cI:=C.env.locals::(C.own++C.k.map (·.1.locals))
inductive HQ(C:Ctx):Prop where
 | mk (kind:C.env.scope.kind= .function) (names:C.env.scope.names=C.ns) (nodup:(C.ns.map (·.1)).Nodup) (globals:C.env.globals=mainGlobals) (blt:C.env.builtins=nO) (cells:(C.env.cells.map (·.2)).Nodup) (has:∀x,(x,dI)∈C.ns∨(x,eM)∈C.ns->(C.env.cells.lookup x).isSome=true) (aAF:∀(i:Nat) x c,C.ns[i]? =some (x,dI)->i∉C.cp->C.env.cells.lookup x=some c->c∈C.own)
def Sto(C:Ctx)(i:Nat)(k:dB):Prop:=k= .local∨(k= .cell∧i∉C.cp)
def GR(D:WD)(x:Str)(a:aA):Prop:=∃v,(∀ρ h,V ρ h a v)∧(nsIn D.K mainGlobals x=some (some v)∨(nsIn D.K mainGlobals x=some none∧x≠"__name__"∧wX x=some v))
def T4(C:Ctx)(ρ:Roo)(h:c9)(M:Str->Option aJ)(x:Str)(a:aA):dB->Prop
 | .local=>∃v,M x=some v∧V ρ h a v
 | .cell=>∃c v,C.env.cells.lookup x=some c∧h.IsCell c (some v)∧V ρ h a v
 | .free=>∃c v,C.env.cells.lookup x=some c∧h.IsCell c (some v)∧V ρ h a v
 | .globalImplicit=>GR C.D x a
 | .globalExplicit=>False
inductive Frs(C:Ctx)(g:c9)(ρ:Roo)(m:Loc)(h:c9):Prop where
 | mk (loc:∃M,h.Ns C.env.locals M∧∀(i:Nat) x k a,C.ns[i]? =some (x,k)->m[i]? =some (some a)->T4 C ρ h M x a k) (cap:∀x c,C.env.cells.lookup x=some c->c∈C.own∨∃o,g.get? c=some o) (aNT:∀c∈C.own,∃v,h.IsCell c v) (stk:∀p∈C.k,OU p.1 p.2 h)
inductive Own(D:WD)(g:c9)(X:List cI)(ρ:Roo)(H:List Pc)(s:aM):Prop where
 | mk (keep:Ke g s.heap) (fresh:∀x∈X++ρ,g.get? x=none) (apart:(X++ρ).Nodup) (len:ρ.length=H.length) (hp:∀(i:Nat) p x,H[i]? =some p->ρ[i]? =some x->p.ok D ρ s.heap x) (gens:s.gens= #[]) (os:s.os=D.os) (dr:s.drawn=D.dr)
inductive aAG(C:Ctx)(A:cF):Prop where
 | mk (depth:A.depth+C.n < 900) (units:A.units+10 * C.n < 9000) (handled:A.handled=C.hd)
inductive At(C:Ctx)(A:cF)(g:c9)(ρ:Roo)(st:aK)(s:aM):Prop where
 | mk (fr:A.frames=some C.fs) (rm:aAG C A) (pf:PF C.D g) (fm:HQ C) (ow:Own C.D g C.X ρ st.H s) (fs:Frs C g ρ st.m s.heap)
section
variable {D:WD} {g:c9} {X:List cI} {ρ ρ':Roo} {H:List Pc} {s:aM} {h':c9} {tk:Nat}
theorem Own.at(a:Own D g X ρ H s){i:Nat}{p:Pc}(e:H[i]? =some p):∃x,ρ[i]? =some x∧p.ok D ρ s.heap x:=
 ⟨_,aY (a.4▸(aF.mp e).1),a.5 i p _ e (aY _)⟩
theorem Own.gn(a:Own D g X ρ H s){b:cI}{o:Obj}(e:g.get? b=some o){x:cI}(h:x∈X++ρ):b≠x:=λq=>by
 rw[q,a.2 x h] at e;exact fA e
theorem Own.nX(a:Own D g X ρ H s){x y:cI}(h:x∈X)(k:y∈ρ):x≠y:=(bC.mp a.3).2.2 x h y k
theorem Own.uniq(a:Own D g X ρ H s){i j:Nat}{x:cI}(h:ρ[i]? =some x)(k:ρ[j]? =some x):i=j:=
 (z8 (aF.mp h).1 (bC.mp a.3).2.1).mp (h.trans k.symm)
theorem Own.upd(a:Own D g X ρ H s){i:Nat}{p:Pc}{x:cI}(hx:ρ[i]? =some x)(hs:∀b,b≠x->h'.get? b=s.heap.get? b)(T:TK s.heap h')(hn:p.ok D ρ h' x):
  Own D g X ρ (H.set i p) { s with heap:=h',toks:=tk }:=⟨
 (λb o e=>(hs b (a.gn e (aR _ (aN hx)))).trans (a.1 b o e)),
 (a.2),
 (a.3),
 (a.4.trans gY.symm),
 (λj q y e hy=>by
  by_cases ij:i=j
  ·subst ij
   obtain rfl:x=y:=aD (hx.symm.trans hy)
   obtain rfl:p=q:=aD ((sF (gY▸(aF.mp e).1)).symm.trans e)
   exact hn
  ·have e':H[j]? =some q:=(kE ij).symm.trans e
   exact Pc.mono (.of T) (λo ho=>(hs y λz=>ij (a.uniq hx (z▸hy))).trans ho) (a.5 j q y e' hy)),
 (a.6),
 (a.7),
 (a.8)⟩
theorem Own.junk(a:Own D g X ρ H s)(k:Ke s.heap h'):Own D g X ρ H { s with heap:=h',toks:=tk }:=
 ⟨λb o e=>k _ _ (a.1 b o e),a.2,a.3,a.4,λi p x e y=>Pc.mono (.ke k) (λo ho=>k _ _ ho) (a.5 i p x e y),a.6,a.7,a.8⟩
end
theorem bK{α:Type}{a:α}{p:Prop}(h:none=some a):p:=nomatch h
section
variable {C:Ctx} {A:cF} {g:c9} {ρ ρ':Roo} {st:aK} {s:aM} {h h':c9} {tk:Nat} {m:Loc}
def Sl(h h':c9)(x:cI):Prop:=∀o,h.get? x=some o->∃sl,h'.get? x=some { o with slots:=sl }
theorem Sl.of{x:cI}(k:∀o,h.get? x=some o->h'.get? x=some o):Sl h h' x:=λo e=>⟨o.slots,k o e⟩
theorem Frs.cell(F:Frs C g ρ m h)(hg:Ke g h)(kc:∀c∈C.own,Sl h h' c)(kg:Ke g h'){x:Str}{c:cI}{v:Option aJ}(e:C.env.cells.lookup x=some c)(i:h.IsCell c v):h'.IsCell c v:=by
 refine bS i λo ho d=>?_
 cases F.2 x c e with
 | inl q=>exact(kc c q o ho).elim λsl e=>⟨_,e,d⟩
 | inr q=>refine cD q λo' q=>?_;exact⟨o,(kg c o' q).trans ((hg c o' q).symm.trans ho),d⟩
theorem T4.mono{M M':Str->Option aJ}{x:Str}{a:aA}(L:Le ρ h ρ' h')(hM:∀v,M x=some v->M' x=some v)(kc:∀c v,C.env.cells.lookup x=some c->h.IsCell c v->h'.IsCell c v){k:dB}(n:T4 C ρ h M x a k):T4 C ρ' h' M' x a k:=by
 cases k with
 | «local» =>refine bS n λv e z=>?_;exact⟨v,hM v e,z.mono L⟩
 | cell=>refine dW n λc v e i z=>?_;exact⟨c,v,e,kc c _ e i,z.mono L⟩
 | free=>refine dW n λc v e i z=>?_;exact⟨c,v,e,kc c _ e i,z.mono L⟩
 | globalImplicit=>exact n
 | globalExplicit=>exact n
theorem Ctx.XL:C.env.locals∈C.X:=.head _
theorem Ctx.Xo{x:cI}(q:x∈C.own):x∈C.X:=.tail _ (bJ _ q)
theorem Ctx.Xk{p:Env×Obj}(q:p∈C.k):p.1.locals∈C.X:=.tail _ (aR _ (d9 (f:=λp:Env×Obj=>p.1.locals) q))
theorem OU.keep{e:Env}{o:Obj}(f:OU e o h)(k:Sl h h' e.locals):OU e o h':=⟨f.1,f.2.1,f.2.2.1,f.2.2.2.elim λsl q=>(k _ q).elim λsl q=>⟨sl,q⟩⟩
theorem Frs.mono(F:Frs C g ρ m h)(hg:Ke g h)(kx:∀x∈C.X,Sl h h' x)(kg:Ke g h')(L:Le ρ h ρ' h'):Frs C g ρ' m h':=by
 refine bS F.1 λM sJ q=>HM sJ λo es ep ho r=>?_
 exact⟨⟨M,(kx _ Ctx.XL o ho).elim λsl e=>⟨_,es,ep,e,r⟩,λi x k a e1 e2=>(q i x k a e1 e2).mono L (λY e=>e) λc v e i=>F.cell hg (λc q=>kx c (Ctx.Xo q)) kg e i⟩,
  F.2,λc q=>(F.3 c q).elim λv z=>z.elim λo y=>(kx c (Ctx.Xo q) o y.1).elim λsl e=>⟨v,_,e,y.2⟩,λp q=>(F.4 p q).keep (kx _ (Ctx.Xk q))⟩
theorem At.go(a:At C A g ρ st s){H:List Pc}(L:Le ρ s.heap ρ' h')(kx:∀x∈C.X,Sl s.heap h' x)(ow:Own C.D g C.X ρ' H { s with heap:=h',toks:=tk }):At C A g ρ' ⟨st.m,H⟩ { s with heap:=h',toks:=tk }:=
 ⟨a.1,a.2,a.3,a.4,ow,a.6.mono a.5.1 kx ow.1 L⟩
theorem At.upd(a:At C A g ρ st s){i:Nat}{p:Pc}{x:cI}(hx:ρ[i]? =some x)(hs:∀b,b≠x->h'.get? b=s.heap.get? b)(T:TK s.heap h')(hn:p.ok C.D ρ h' x):At C A g ρ ⟨st.m,st.H.set i p⟩ { s with heap:=h',toks:=tk }:=
 a.go (.of T) (λy hy=>.of λo e=>(hs y (a.5.nX hy (aN hx))).trans e) (a.5.upd hx hs T hn)
theorem At.junk(a:At C A g ρ st s)(k:Ke s.heap h'):At C A g ρ st { s with heap:=h',toks:=tk }:=a.go (.ke k) (λY Y=>.of λY e=>k _ _ e) (a.5.junk k)
theorem At.toks(a:At C A g ρ st s):At C A g ρ st { s with toks:=tk }:=a.junk (h':=s.heap) λY Y e=>e
theorem Own.add{D:WD}{X:List cI}{H:List Pc}(a:Own D g X ρ H s)(k:Ke s.heap h'){x:cI}(hx:x∉X++ρ)(hg:g.get? x=none){p:Pc}(hn:p.ok D (ρ++ [x]) h' x):
  Own D g X (ρ++ [x]) (H++ [p]) { s with heap:=h',toks:=tk }:=⟨
 (λb o e=>k _ _ (a.1 b o e)),
 (λy hy=>by
  rw[←c4] at hy
  cases aT.mp hy with
  | inl q=>exact a.2 y q
  | inr q=>obtain rfl:=aU.mp q;exact hg),
 (by
  rw[←c4]
  exact bC.mpr ⟨a.3,b7.mpr ⟨λq=>(nomatch q),iC⟩,λy hy z hz q=>by obtain rfl:=aU.mp hz;exact hx (q▸hy)⟩),
 (by rw[aE,aE,a.4];rfl),
 (λi q y e hy=>by
  by_cases c:i < H.length
  ·exact Pc.mono (.app (Ke.tk k)) (λo=>k _ _) (a.5 i q y ((bE c).symm.trans e) ((bE (a.4▸c)).symm.trans hy))
  ·have c:=fV c
   rw[bY c] at e
   rw[bY (a.4▸c),a.4] at hy
   cases hi:i - H.length with
   | zero=>rw[hi] at e hy;obtain rfl:=aD e;obtain rfl:=aD hy;exact hn
   | succ j=>rw[hi] at e;exact bK e),
 (a.6),
 (a.7),
 (a.8)⟩
theorem Own.new{D:WD}{X:List cI}{H:List Pc}(a:Own D g X ρ H s)(k:Ke s.heap h'){x:cI}(hx:s.heap.get? x=none)(oB:∀y∈X,∃o,s.heap.get? y=some o){p:Pc}(hn:p.ok D (ρ++ [x]) h' x):
  Own D g X (ρ++ [x]) (H++ [p]) { s with heap:=h',toks:=tk }:=
 a.add k (λq=>(aT.mp q).elim (λq=>(oB _ q).elim λo e=>bK (hx.symm.trans e)) λq=>by
  refine cD (cV.mp q) λi e=>?_
  refine bS (Pc.live (a.5 i _ _ (aY (a.4▸(aF.mp e).1)) e)) λo e _=>?_
  exact bK (hx.symm.trans e)) (by
  cases q:g.get? x with
  | none=>rfl
  | some o=>exact bK (hx.symm.trans (a.1 _ _ q))) hn
theorem Frs.oB(F:Frs C g ρ m h):∀y∈C.X,∃o,h.get? y=some o:=λy hy=>by
 cases hy with
 | head=>refine bS F.1 λM sJ q=>HM sJ λo es ep ho r=>?_;exact⟨o,ho⟩
 | tail _ hy=>
  cases aT.mp hy with
  | inl q=>refine sI (F.3 y q) λv o e _=>?_;exact⟨o,e⟩
  | inr q=>refine bS (eX.mp q) λp hp dE=>?_;subst dE;obtain⟨_,_,_,sl,e⟩:=F.4 p hp;exact⟨_,e⟩
theorem At.new(a:At C A g ρ st s)(k:Ke s.heap h'){x:cI}(hx:s.heap.get? x=none){p:Pc}(hn:p.ok C.D (ρ++ [x]) h' x):At C A g (ρ++ [x]) ⟨st.m,st.H++ [p]⟩ { s with heap:=h',toks:=tk }:=
 a.go (.app (Ke.tk k)) (λY Y=>.of λY e=>k _ _ e) (a.5.new k hx a.6.oB hn)
theorem lookup_at{β:Type}{ns:List (Str×β)}(nd:(ns.map (·.1)).Nodup){i:Nat}{x:Str}{k:β}(e:ns[i]? =some (x,k)):ns.lookup x=some k:=by
 induction ns generalizing i with
 | nil=>exact bK e
 | cons y r ih=>
  have nd:=b7.mp nd
  cases i with
  | zero=>obtain rfl:=aD e;exact(dA ..).trans (by rw[beq_self_eq_true])
  | succ i=>
   refine(dA ..).trans ?_
   have:(x==y.1)=false:=beq_eq_false_iff_ne.mpr λq=>nd.1 (show y.1∈r.map (·.1) from q▸d9 (f:=(·.1)) (aN (show r[i]? =some (x,k) from e)))
   exact this▸ih nd.2 e
theorem gG{β:Type}{ns:List (Str×β)}(nd:(ns.map (·.1)).Nodup){x:Str}{k:β}(e:(x,k)∈ns):ns.lookup x=some k:=(cV.mp e).elim λi q=>lookup_at nd q
theorem mY(f:HQ C){i:Nat}{x:Str}{k:dB}(e:C.ns[i]? =some (x,k)):C.env.kindOf x=some k:=by
 show C.env.scope.names.lookup x=some k
 exact f.2▸lookup_at f.3 e
theorem HQ.uniq(f:HQ C){i j:Nat}{x:Str}{k k':dB}(e:C.ns[i]? =some (x,k))(e':C.ns[j]? =some (x,k')):i=j:=by
 refine(z8 (l:=C.ns.map (·.1)) ?_ f.3).mp ?_
 ·rw[aG];exact(aF.mp e).1
 ·rw[bX,bX,e,e'];rfl
theorem OW{i j:Nat}{a b:aA}(e:(m.set i (some a))[j]? =some (some b)):(i=j∧a=b)∨(i≠j∧m[j]? =some (some b)):=by
 by_cases q:i=j
 ·subst q
  rw[z9] at e
  rw[if_pos rfl] at e
  by_cases c:i < m.length
  ·rw[if_pos c] at e;cases e;exact .inl ⟨rfl,rfl⟩
  ·rw[if_neg c] at e;exact bK e
 ·exact .inr ⟨q,(kE q).symm.trans e⟩
theorem At.aE1(a:At C A g ρ st s){i:Nat}{x:Str}{b:aA}{v:aJ}{M:Str->Option aJ}(hi:C.ns[i]? =some (x,.local))(hv:V ρ s.heap b v)(hM:s.heap.Ns C.env.locals M)
  (hq:∀(i:Nat) x k a,C.ns[i]? =some (x,k)->st.m[i]? =some (some a)->T4 C ρ s.heap M x a k) (hn:h'.Ns C.env.locals (λy=>if y=x then some v else M y)) (hs:eY C.env.locals s.heap h'):
  Le ρ s.heap ρ h'∧At C A g ρ ⟨st.m.set i (some b),st.H⟩ { s with heap:=h',toks:=tk }:=by
 refine CG hM λo es ep ho hd _=>?_
 have L:Le ρ s.heap ρ h':=.of (TK.but hs.2 ho (.dict hd))
 have sK:=b7.mp (bC.mp a.5.3).1
 have kc:∀c∈C.own,∀o,s.heap.get? c=some o->h'.get? c=some o:=λc q o e=>(hs.2 c λz=>sK.1 (z▸bJ _ q)).trans e
 have kg:Ke g h':=λb o e=>(hs.2 b (a.5.gn e (bJ _ Ctx.XL))).trans (a.5.1 _ _ e)
 refine⟨L,a.1,a.2,a.3,a.4,⟨kg,a.5.2,a.5.3,a.5.4,λi p y e hy=>Pc.mono L (λo ho=>(hs.2 y ((λy hy q=>a.5.nX Ctx.XL hy q.symm:∀y∈ρ,y≠C.env.locals) y (aN hy))).trans ho) (a.5.5 i p y e hy),a.5.6,a.5.7,a.5.8⟩,
  ⟨⟨_,hn,λj y k c e1 e2=>?_⟩,a.6.2,λc q=>(a.6.3 c q).elim λv z=>z.elim λo y=>⟨v,o,kc c q o y.1,y.2⟩,λp q=>(a.6.4 p q).keep (.of λo e=>(hs.2 _ λz=>sK.1 (z.symm▸aR _ (d9 (f:=λp:Env×Obj=>p.1.locals) q))).trans e)⟩⟩
 cases OW e2 with
 | inl q=>
  refine d5 q λu5 dF=>?_;subst u5;subst dF
  cases hi.symm.trans e1
  exact⟨v,if_pos rfl,hv.mono L⟩
 | inr q=>exact(hq j y k c e1 q.2).mono L (λv e=>(if_neg λz=>q.1 (a.4.uniq hi (z▸e1))).trans e) λc v e i=>a.6.cell a.5.1 (λc q=>.of (kc c q)) kg e i
theorem At.aJ8(a:At C A g ρ st s){i:Nat}{x:Str}{w:Option aJ}{M:Str->Option aJ}(hi:C.ns[i]? =some (x,.local))(hM:s.heap.Ns C.env.locals M)
  (hq:∀(i:Nat) x k a,C.ns[i]? =some (x,k)->st.m[i]? =some (some a)->T4 C ρ s.heap M x a k) (hn:h'.Ns C.env.locals (λy=>if y=x then w else M y)) (hs:eY C.env.locals s.heap h'):
  Le ρ s.heap ρ h'∧At C A g ρ ⟨st.m.set i none,st.H⟩ { s with heap:=h',toks:=tk }:=by
 refine CG hM λo es ep ho hd _=>?_
 have L:Le ρ s.heap ρ h':=.of (TK.but hs.2 ho (.dict hd))
 have sK:=b7.mp (bC.mp a.5.3).1
 have kc:∀c∈C.own,∀o,s.heap.get? c=some o->h'.get? c=some o:=λc q o e=>(hs.2 c λz=>sK.1 (z▸bJ _ q)).trans e
 have kg:Ke g h':=λb o e=>(hs.2 b (a.5.gn e (bJ _ Ctx.XL))).trans (a.5.1 _ _ e)
 refine⟨L,a.1,a.2,a.3,a.4,⟨kg,a.5.2,a.5.3,a.5.4,λi p y e hy=>Pc.mono L (λo ho=>(hs.2 y ((λy hy q=>a.5.nX Ctx.XL hy q.symm:∀y∈ρ,y≠C.env.locals) y (aN hy))).trans ho) (a.5.5 i p y e hy),a.5.6,a.5.7,a.5.8⟩,
  ⟨⟨_,hn,λj y k c e1 e2=>?_⟩,a.6.2,λc q=>(a.6.3 c q).elim λv z=>z.elim λo y=>⟨v,o,kc c q o y.1,y.2⟩,λp q=>(a.6.4 p q).keep (.of λo e=>(hs.2 _ λz=>sK.1 (z.symm▸aR _ (d9 (f:=λp:Env×Obj=>p.1.locals) q))).trans e)⟩⟩
 have hij:i≠j:=λq=>by
  subst q
  rw[z9,if_pos rfl] at e2
  split at e2 <;> cases e2
 exact(hq j y k c e1 ((kE hij).symm.trans e2)).mono L (λv e=>(if_neg λz=>hij (a.4.uniq hi (z▸e1))).trans e) λc v e i=>a.6.cell a.5.1 (λc q=>.of (kc c q)) kg e i
theorem At.setC(a:At C A g ρ st s){i:Nat}{x:Str}{b:aA}{v:aJ}{c:cI}(hi:C.ns[i]? =some (x,.cell))(hv:V ρ s.heap b v)(BF:i∉C.cp)(hc:C.env.cells.lookup x=some c)(hn:h'.IsCell c (some v))(hs:eY c s.heap h'):
  Le ρ s.heap ρ h'∧At C A g ρ ⟨st.m.set i (some b),st.H⟩ { s with heap:=h',toks:=tk }:=by
 have J1:=a.4.8 i x c hi BF hc
 refine sI (a.6.3 c J1) λv0 oc TD hdc=>?_
 have L:Le ρ s.heap ρ h':=.of (TK.but hs.2 TD (.cell hdc))
 have sK:=b7.mp (bC.mp a.5.3).1
 have nr:∀y∈ρ,y≠c:=λy hy q=>a.5.nX (Ctx.Xo J1) hy q.symm
 refine bS a.6.1 λM sJ hq=>HM sJ λo es ep ho r=>?_
 refine⟨L,a.1,a.2,a.3,a.4,⟨(λb o e=>(hs.2 b (a.5.gn e (bJ _ (Ctx.Xo J1)))).trans (a.5.1 _ _ e):Ke g h'),a.5.2,a.5.3,a.5.4,λi p y e hy=>Pc.mono L (λo ho=>(hs.2 y (nr y (aN hy))).trans ho) (a.5.5 i p y e hy),a.5.6,a.5.7,a.5.8⟩,
  ⟨⟨M,⟨o,es,ep,(hs.2 C.env.locals λq=>sK.1 (q▸bJ _ J1)).trans ho,r⟩,λj y k d e1 e2=>?_⟩,a.6.2,λd q=>?_,λp q=>(a.6.4 p q).keep (.of λo e=>(hs.2 _ λz=>(bC.mp sK.2).2.2 c J1 _ (d9 (f:=λp:Env×Obj=>p.1.locals) q) z.symm).trans e)⟩⟩
 ·cases OW e2 with
  | inl q=>
   refine d5 q λu5 dF=>?_;subst u5;subst dF
   cases hi.symm.trans e1
   exact⟨c,v,hc,hn,hv.mono L⟩
  | inr q=>
   refine(hq j y k d e1 q.2).mono L (λv e=>e) λd v e i=>?_
   by_cases z:d=c
   ·subst z
    exact(q.1 (a.4.uniq hi ((name_of_addr (gT.mp a.4.6) (mem_of_lookup e) (mem_of_lookup hc))▸e1))).elim
   ·refine bS i λo ho hd=>?_
    exact⟨o,(hs.2 d z).trans ho,hd⟩
 ·by_cases z:d=c
  ·subst z;exact⟨_,hn⟩
  ·refine sI (a.6.3 d q) λv o ho hd=>?_
   exact⟨v,o,(hs.2 d z).trans ho,hd⟩
end
inductive Cov(B g:c9)(C:Ctx)(ρ:Roo):Prop where
 | mk (base:Ke g B) (own:∀x∈C.own++ρ,∃o,B.get? x=some o)
inductive Made(C:Ctx)(A:cF)(g:c9)(ρ:Roo)(cls:String)(msg:aA)(e:cI)(st:aK)(s:aM):Prop where
 | mk (ex:∃h w,At C A g ρ st { s with heap:=h }∧Heap.MadeExc h s.heap e cls [w]∧V ρ h msg w)
inductive Fly(C:Ctx)(A:cF)(g:c9)(ρ:Roo)(l:List Env)(cls:String)(msg:aA)(e:cI)(st:aK)(s:aM):Prop where
 | mk (at':At C A g ρ st s) (ex:∃B t w,Cov B g C ρ∧Heap.FlyingW B l e (.type cls) (.ref t) s.heap∧s.heap.TupAt t [w]∧V ρ s.heap msg w∧B.get? t=none)
def Exc(C:Ctx)(A:cF)(g:c9)(ρ:Roo)(cls:String)(msg:aA)(e:cI)(st:aK)(s:aM):Bool->Prop
 | true=>Made C A g ρ cls msg e st s
 | false=>Fly C A g ρ C.fs cls msg e st s
noncomputable abbrev XQ:=Bool->String->aA->aK->Prop
inductive fX(C:Ctx)(A:cF)(g:c9)(ρ:Roo)(h:c9)(X:XQ):aJ->aM->Prop
 | mk {s':aM} (f:Bool) (e:cI) (cls:String) (msg:aA) (fR:aK) (ρ':Roo) (le:Le ρ h ρ' s'.heap) (ex:Exc C A g ρ' cls msg e fR s' f) (q:X f cls msg fR):fX C A g ρ h X (.ref e) s'
inductive pX{α β:Type}(C:Ctx)(A:cF)(g:c9)(ρ:Roo)(h:c9)(R:Roo->c9->β->α->Prop)(Q:β->aK->Prop):α->aM->Prop
 | mk {x:α} {s':aM} {b:β} {fR:aK} {ρ':Roo} (le:Le ρ h ρ' s'.heap) (r:R ρ' s'.heap b x) (at':At C A g ρ' fR s') (q:Q b fR):pX C A g ρ h R Q x s'
def Wp{α β:Type}(C:Ctx)(R:Roo->c9->β->α->Prop)(t:Sem α)(st:aK)(Q:β->aK->Prop)(X:XQ):Prop:=
 ∀{A:cF} {g:c9} {ρ:Roo} {s:aM},At C A g ρ st s->bZ (c0 C.D.prog C.D.w) A t (pX C A g ρ s.heap R Q) (fX C A g ρ s.heap X) s
def pD{α β:Type}(C:Ctx)(R:Roo->c9->β->α->Prop)(t:aJ->Sem α)(a:aA)(st:aK)(Q:β->aK->Prop)(X:XQ):Prop:=
 ∀{A:cF} {g:c9} {ρ:Roo} {s:aM} {v:aJ},At C A g ρ st s->V ρ s.heap a v->bZ (c0 C.D.prog C.D.w) A (t v) (pX C A g ρ s.heap R Q) (fX C A g ρ s.heap X) s
def d3{α β:Type}(C:Ctx)(R:Roo->c9->β->α->Prop)(t:aJ->aJ->Sem α)(a b:aA)(st:aK)(Q:β->aK->Prop)(X:XQ):Prop:=
 ∀{A:cF} {g:c9} {ρ:Roo} {s:aM} {v w:aJ},At C A g ρ st s->V ρ s.heap a v->V ρ s.heap b w->bZ (c0 C.D.prog C.D.w) A (t v w) (pX C A g ρ s.heap R Q) (fX C A g ρ s.heap X) s
def OpN{α β:Type}(C:Ctx)(R:Roo->c9->β->α->Prop)(t:List aJ->Sem α)(as:List aA)(st:aK)(Q:β->aK->Prop)(X:XQ):Prop:=
 ∀{A:cF} {g:c9} {ρ:Roo} {s:aM} {vs:List aJ},At C A g ρ st s->Vs ρ s.heap as vs->bZ (c0 C.D.prog C.D.w) A (t vs) (pX C A g ρ s.heap R Q) (fX C A g ρ s.heap X) s
def Eqv{α:Type}(_:Roo)(_:c9)(a b:α):Prop:=b=a
inductive bU where
 | next | brk | cont | ret (a:aA)
def F(ρ:Roo)(h:c9):bU->Flow->Prop
 | .next,x=>x= .next
 | .brk,x=>x= .brk
 | .cont,x=>x= .cont
 | .ret a,x=>∃v,x= .ret v∧V ρ h a v
abbrev Ev(C:Ctx)(e:dO)(st:aK)(Q:aA->aK->Prop)(X:XQ):Prop:=Wp C V (qI e C.env) st Q X
abbrev Tr(C:Ctx)(e:dO)(st:aK)(Q:Bool->aK->Prop)(X:XQ):Prop:=Wp C Eqv (isTrue e C.env (qI e C.env)) st Q X
abbrev Ex(C:Ctx)(e:v8)(st:aK)(Q:bU->aK->Prop)(X:XQ):Prop:=Wp C F (exec e C.env) st Q X
abbrev j5(C:Ctx)(e:List v8)(st:aK)(Q:bU->aK->Prop)(X:XQ):Prop:=Wp C F (execs e C.env) st Q X
abbrev Ar(C:Ctx)(es:List dO)(pos:Pos)(st:aK)(Q:List aA->aK->Prop)(X:XQ):Prop:=Wp C Vs (spliced (n7 pos (fH es C.env))) st Q X
abbrev As(C:Ctx)(t:dO)(a:aA)(st:aK)(Q:aK->Prop)(X:XQ):Prop:=pD C Eqv (λv=>DY t C.env v) a st (λ(_:Unit)=>Q) X
section
variable {C:Ctx} {A:cF} {g:c9} {ρ ρ0:Roo} {st:aK} {s:aM} {h0:c9} {X:XQ}
theorem fX.pre{h:c9}{v:aJ}(l:Le ρ0 h0 ρ h)(x:fX C A g ρ h X v s):fX C A g ρ0 h0 X v s:=by
 obtain⟨f,e,cls,msg,fR,ρ',le,ex,q⟩:=x
 exact .mk f e cls msg fR ρ' (l.trans le) ex q
section
variable {α β:Type} {R:Roo->c9->β->α->Prop} {t:Sem α} {Q:β->aK->Prop} {Z:α->aM->Prop} {E:aJ->aM->Prop}
theorem lift(l:Le ρ0 h0 ρ s.heap)(w:bZ (c0 C.D.prog C.D.w) A t (pX C A g ρ s.heap R Q) (fX C A g ρ s.heap X) s):bZ (c0 C.D.prog C.D.w) A t (pX C A g ρ0 h0 R Q) (fX C A g ρ0 h0 X) s:=
 bM w (λx s1 p=>by cases p with | mk le r at' q=>exact .mk (l.trans le) r at' q) λY Y x=>x.pre l
theorem on(w:bZ (c0 C.D.prog C.D.w) A t (pX C A g ρ s.heap R Q) (fX C A g ρ s.heap X) s)(l0:Le ρ0 h0 ρ s.heap)
  (k:∀{x s1 b st1 ρ1},Le ρ s.heap ρ1 s1.heap->Le ρ0 h0 ρ1 s1.heap->R ρ1 s1.heap b x->At C A g ρ1 st1 s1->Q b st1->Z x s1):bZ (c0 C.D.prog C.D.w) A t Z (fX C A g ρ0 h0 X) s:=
 bM w (λx s1 p=>by cases p with | mk le r at' q=>exact k le (l0.trans le) r at' q) λY Y x=>x.pre l0
theorem Wp.mono(w:Wp C R t st Q X){Q':β->aK->Prop}{X':XQ}(k:∀b st,Q b st->Q' b st)(kx:∀f c m st,X f c m st->X' f c m st):Wp C R t st Q' X':=λa=>
 bM (w a) (λx s1 p=>by cases p with | mk le r at' q=>exact .mk le r at' (k _ _ q)) λv s1 p=>by cases p with | mk f e cls msg fR ρ' le ex q=>exact .mk f e cls msg fR ρ' le ex (kx _ _ _ _ q)
end
theorem V.str{h:c9}{l:List Nat}{t:Tok}:V ρ h (.str l) (.str (c8 l) t):=⟨t,rfl⟩
theorem V.int{h:c9}{i:Int}{t:Tok}:V ρ h (.int i) (.int i t):=⟨t,rfl⟩
theorem Ev.int{i:Int}{k:Nat}{pos:Pos}{Q:aA->aK->Prop}(q:Q (.int i) st):Ev C (.Constant (.int i) k pos) st Q X:=λa=>wpAny_Constant_int (.mk .refl V.int a.toks q)
theorem Ev.str{x:List Nat}{k:Nat}{pos:Pos}{Q:aA->aK->Prop}(q:Q (.str x) st):Ev C (.Constant (.str (c8 x)) k pos) st Q X:=λa=>Constant_str (.mk .refl V.str a.toks q)
theorem Ev.bool{b:Bool}{k:Nat}{pos:Pos}{Q:aA->aK->Prop}(q:Q (.bool b) st):Ev C (.Constant (.bool b) k pos) st Q X:=λa=>aI (a:=pQ b) (.mk (b:=.bool b) .refl rfl a q)
theorem Ev.none{k:Nat}{pos:Pos}{Q:aA->aK->Prop}(q:Q .none st):Ev C (.Constant .none k pos) st Q X:=λa=>aI (a:=j1) (.mk (b:=.none) .refl rfl a q)
noncomputable def jL(x:Str):Bool:=!(x==("__debug__":Str)) && !(x==("__classdict__":Str))
theorem not_true{b:Bool}(h:(!b)=true):b=false:=by cases b with | true=>cases h | false=>rfl
theorem u6{E:aJ->aM->Prop}{i:Nat}{x:Str}{k:dB}{b:aA}{pos:Pos}{Z:aJ->aM->Prop}(a:At C A g ρ st s)(hi:C.ns[i]? =some (x,k))(hm:st.m[i]? =some (some b))(hd:jL x=true)(q:∀v,V ρ s.heap b v->Z v s):bZ (c0 C.D.prog C.D.w) A (qI (.Name x pos) C.env) Z E s:=by
 have hd:=bP.mp hd
 have h1:=not_true hd.1
 have hk:=mY a.4 hi
 refine bS a.6.1 λM hM hq=>?_
 have n:=hq i x k b hi hm
 cases k with
 | «local» =>refine bS n λv e z=>?_;exact wpAny_Name (wpAny_loadName_local a.4.1 hk hM e (q _ z)) h1
 | cell=>refine dW n λc v e i z=>?_;exact wpAny_Name (wpAny_loadName_cell a.4.1 hk e i (q _ z)) h1
 | free=>refine dW n λc v e i z=>?_;exact wpAny_Name (wpAny_loadName_free a.4.1 hk e i (q _ z) (not_true hd.2)) h1
 | globalImplicit=>
  refine bS n λv hv hg=>?_
  refine Name_function_global a.4.1 hk ?_ h1
  unfold loadGlobal
  rw[a.4.4,a.4.5]
  cases hg with
  | inl hx=>exact aC ((looks_nsIn (a.3.1.keeps a.5.1) hx).here (aI (q _ (hv _ _))))
  | inr hx=>
   refine aC ((looks_nsIn (a.3.1.keeps a.5.1) hx.1).here (aC (wpAny_nsGet (a.3.2.keeps a.5.1) ?_)))
   rw[a.3.3 x hx.2.1,hx.2.2]
   exact aI (q _ (hv _ _))
 | globalExplicit=>exact n.elim
theorem Ev.name{i:Nat}{x:Str}{k:dB}{b:aA}{pos:Pos}{Q:aA->aK->Prop}(hi:C.ns[i]? =some (x,k))(hm:st.m[i]? =some (some b))(hd:jL x=true)(q:Q b st):Ev C (.Name x pos) st Q X:=λa=>u6 a hi hm hd λv z=>.mk .refl z a q
theorem Ev.binop{l r:dO}{op:mS}{pos:Pos}{Q:aA->aK->Prop}(h:Ev C l st (λx st1=>Ev C r st1 (λy bW=>d3 C V (j7 op) x y bW Q X) X) X):Ev C (.BinOp l op r pos) st Q X:=λa=>
 wpAny_BinOp (on (h a) .refl λY l1 r1 a1 q1=>on (q1 a1) l1 λl2 l3 r2 a2 q2=>lift l3 (q2 a2 (r1.mono l2) r2))
theorem Ev.unop{x:dO}{op:UnaryOp}{pos:Pos}{Q:aA->aK->Prop}(h:Ev C x st (λb st1=>pD C V (unaryOp op) b st1 Q X) X):Ev C (.UnaryOp op x pos) st Q X:=λa=>
 wpAny_UnaryOp (on (h a) .refl λY l1 r1 a1 q1=>lift l1 (q1 a1 r1))
theorem Ev.cmp{l r:dO}{op:CmpOp}{pos:Pos}{Q:aA->aK->Prop}(hm:behindInMarks op r=false)(h:Ev C l st (λx st1=>Ev C r st1 (λy bW=>d3 C V (d7 op) x y bW Q X) X) X):Ev C (.Compare l [op] [r] pos) st Q X:=λa=>
 wpAny_Compare1 (on (h a) .refl λY l1 r1 a1 q1=>on (q1 a1) l1 λl2 l3 r2 a2 q2=>lift l3 (q2 a2 (r1.mono l2) r2)) hm
theorem Tr.cmp{l r:dO}{op:CmpOp}{pos:Pos}{Q:Bool->aK->Prop}(hm:behindInMarks op r=false)(h:Ev C l st (λx st1=>Ev C r st1 (λy bW=>d3 C V (d7 op) x y bW (λc fL=>∃b,c= .bool b∧Q b fL) X) X) X):Tr C (.Compare l [op] [r] pos) st Q X:=λa=>
 wpAny_isTrue_Compare1 (on (h a) .refl λY l1 r1 a1 q1=>on (q1 a1) l1 λl2 l3 r2 a2 q2=>on (q2 a2 (r1.mono l2) r2) l3 λY l4 r3 a3 q3=>by
  refine bS q3 λb dF q=>?_;subst dF
  obtain rfl:=(r3:_=_)
  exact s9 (.mk l4 rfl a3 q)) hm
theorem Tr.not{x:dO}{pos:Pos}{Q:Bool->aK->Prop}(h:Tr C x st (λb=>Q (!b)) X):Tr C (.UnaryOp .Not x pos) st Q X:=λa=>
 wpAny_isTrue_Not (on (h a) .refl λY l1 r1 a1 q1=>.mk l1 (congrArg _ r1) a1 q1)
theorem Tr.ev{e:dO}{Q:Bool->aK->Prop}(he:isTrue e C.env (qI e C.env)=(do let v←qI e C.env;lO e.pos;uK [v] (AA v)))(h:Ev C e st (λb st1=>pD C Eqv AA b st1 Q X) X):Tr C e st Q X:=λa=>by
 show bZ _ _ (isTrue e C.env (qI e C.env)) _ _ _
 exact he▸aC (on (h a) .refl λY l1 r1 a1 q1=>aC (d8 (dN (lift l1 (q1 a1 r1)))))
theorem Ev.aE2{t b o:dO}{pos:Pos}{Q:aA->aK->Prop}(h:Tr C t st (λc st1=>match c with | true=>Ev C b st1 Q X | false=>Ev C o st1 Q X) X):Ev C (.IfExp t b o pos) st Q X:=λa=>
 wpAny_IfExp (on (h a) .refl λ{x _ c _ _} _ l1 r1 a1 q1=>by
  obtain rfl:=(r1:x=c)
  cases x with
  | true=>exact lift l1 ((q1:Ev C b _ Q X) a1)
  | false=>exact lift l1 ((q1:Ev C o _ Q X) a1))
theorem Ev.and{e1 e2:dO}{rest:List dO}{pos:Pos}{Q:aA->aK->Prop}(h:Ev C e1 st (λb st1=>pD C Eqv AA b st1 (λc bW=>match c with | true=>Ev C (.BoolOp .And (e2::rest) pos) bW Q X | false=>Q b bW) X) X):Ev C (.BoolOp .And (e1::e2::rest) pos) st Q X:=λa=>
 BoolOp_and (on (h a) .refl λY l1 r1 a1 q1=>on (q1 a1 r1) l1 λ{x _ c _ _} l2 l3 r2 a2 q2=>by
  obtain rfl:=(r2:x=c)
  cases x with
  | true=>exact lift l3 ((q2:Ev C (.BoolOp .And (e2::rest) pos) _ Q X) a2)
  | false=>exact .mk l3 (r1.mono l2) a2 q2)
theorem Ev.or{e1 e2:dO}{rest:List dO}{pos:Pos}{Q:aA->aK->Prop}(h:Ev C e1 st (λb st1=>pD C Eqv AA b st1 (λc bW=>match c with | true=>Q b bW | false=>Ev C (.BoolOp .Or (e2::rest) pos) bW Q X) X) X):Ev C (.BoolOp .Or (e1::e2::rest) pos) st Q X:=λa=>
 BoolOp_or (on (h a) .refl λY l1 r1 a1 q1=>on (q1 a1 r1) l1 λ{x _ c _ _} l2 l3 r2 a2 q2=>by
  obtain rfl:=(r2:x=c)
  cases x with
  | true=>exact .mk l3 (r1.mono l2) a2 q2
  | false=>exact lift l3 ((q2:Ev C (.BoolOp .Or (e2::rest) pos) _ Q X) a2))
theorem Tr.and{e:dO}{rest:List dO}{pos:Pos}{Q:Bool->aK->Prop}(h:Tr C e st (λc bW=>match c with | true=>Tr C (.BoolOp .And rest pos) bW Q X | false=>Q false bW) X):Tr C (.BoolOp .And (e::rest) pos) st Q X:=λa=>
 isTrue_and (on (h a) .refl λ{x _ c _ _} _ l1 r1 a1 q1=>by
  obtain rfl:=(r1:x=c)
  cases x with
  | true=>exact lift l1 ((q1:Tr C (.BoolOp .And rest pos) _ Q X) a1)
  | false=>exact .mk l1 rfl a1 q1)
theorem Tr.or{e:dO}{rest:List dO}{pos:Pos}{Q:Bool->aK->Prop}(h:Tr C e st (λc bW=>match c with | true=>Q true bW | false=>Tr C (.BoolOp .Or rest pos) bW Q X) X):Tr C (.BoolOp .Or (e::rest) pos) st Q X:=λa=>
 isTrue_or (on (h a) .refl λ{x _ c _ _} _ l1 r1 a1 q1=>by
  obtain rfl:=(r1:x=c)
  cases x with
  | true=>exact .mk l1 rfl a1 q1
  | false=>exact lift l1 ((q1:Tr C (.BoolOp .Or rest pos) _ Q X) a1))
theorem j5.nil{Q:bU->aK->Prop}(q:Q .next st):j5 C [] st Q X:=λa=>wY (.mk (b:=.next) .refl rfl a q)
def aJ9(k:aK->Prop)(Q:bU->aK->Prop):bU->aK->Prop
 | .next,st=>k st
 | fl,st=>Q fl st
theorem j5.cons{x:v8}{rest:List v8}{Q:bU->aK->Prop}(h:Ex C x st (aJ9 (λst1=>j5 C rest st1 Q X) Q) X):j5 C (x::rest) st Q X:=λa=>
 wpAny_execs_cons (on (h a) .refl λ{x _ b _ _} _ l1 r1 a1 q1=>by
  cases b with
  | next=>obtain rfl:=(r1:x=_);exact lift l1 ((q1:j5 C rest _ Q X) a1)
  | brk=>obtain rfl:=(r1:x=_);exact .mk (b:=.brk) l1 rfl a1 q1
  | cont=>obtain rfl:=(r1:x=_);exact .mk (b:=.cont) l1 rfl a1 q1
  | ret b=>refine bS r1 λv dF hv=>?_;subst dF;exact .mk (b:=.ret b) l1 ⟨v,rfl,hv⟩ a1 q1)
theorem Ex.ret{e:dO}{pos:Pos}{Q:bU->aK->Prop}(h:Ev C e st (λb=>Q (.ret b)) X):Ex C (.Return (some e) pos) st Q X:=λa=>
 wpAny_Return_some (on (h a) .refl λ{x _ b _ _} _ l1 r1 a1 q1=>.mk (b:=.ret b) l1 ⟨x,rfl,r1⟩ a1 q1)
theorem Ex.aAH{pos:Pos}{Q:bU->aK->Prop}(q:Q (.ret .none) st):Ex C (.Return none pos) st Q X:=λa=>wpAny_Return_none (.mk (b:=.ret .none) .refl ⟨_,rfl,rfl⟩ a q)
theorem Ex.ite{t:dO}{b o:List v8}{pos:Pos}{Q:bU->aK->Prop}(h:Tr C t st (λc st1=>match c with | true=>j5 C b st1 Q X | false=>j5 C o st1 Q X) X):Ex C (.If t b o pos) st Q X:=λa=>
 wpAny_If (on (h a) .refl λ{x _ c _ _} _ l1 r1 a1 q1=>by
  obtain rfl:=(r1:x=c)
  cases x with
  | true=>exact lift l1 ((q1:j5 C b _ Q X) a1)
  | false=>exact lift l1 ((q1:j5 C o _ Q X) a1))
theorem Ex.cont{pos:Pos}{Q:bU->aK->Prop}(q:Q .cont st):Ex C (.Continue pos) st Q X:=λa=>wpAny_Continue (.mk (b:=.cont) .refl rfl a q)
theorem Ex.brk{pos:Pos}{Q:bU->aK->Prop}(q:Q .brk st):Ex C (.Break pos) st Q X:=λa=>wpAny_Break (.mk (b:=.brk) .refl rfl a q)
theorem Ex.pass{pos:Pos}{Q:bU->aK->Prop}(q:Q .next st):Ex C (.Pass pos) st Q X:=λa=>wpAny_Pass (.mk (b:=.next) .refl rfl a q)
noncomputable def CJ(ns:fF):Env:={ scope:={ kind:=.function,names:=ns,isGenerator:=false,isCoroutine:=false },locals:=0,globals:=0,cells:=[] }
end
def OD(M:rL)(h:c9)(f:aJ):Prop:=∃kp,kp≠Keeper.caller∧kp≠Keeper.boundFrame∧Looks M h (keeperOf f) kp
section
variable {M:rL} {A:cF} {E:aJ->aM->Prop} {s:aM}
theorem kH{pos:Pos}{f:aJ}{first:List aJ}{args:List (Bool×Sem aJ)}{keywords:List (Option Str×Sem aJ)}{Q:aJ->aM->Prop}(aAI:args.any (·.1)=false)(hkw:keywords.any (·.1.isNone)=false)
  (h:bZ M A (evalArgs f true args keywords) (λa s₁=>OD M s₁.heap f∧bZ M A (call f (first++a.pos) a.kw) Q E s₁) E s):
  bZ M A (xL pos f first args keywords) Q E s:=by
 refine aC (dN (bM h (λa s₁ h₁=>aC (d8 ?_)) λY Y x=>x))
 refine d5 h₁ λsJ h₁=>wF sJ λkp hk hk2 L=>?_
 have tail:∀{t:Sem aJ},bZ M A t Q E s₁->bZ M A (t >>=λr=>uK [r] point >>=λY=>pure r) Q E s₁:=
  λht=>aC (bM ht (λr s₂ hr=>aC (dN (wpAny_point (aI hr)))) λY Y x=>x)
 rw[aAI,hkw]
 refine aC (L.here ?_)
 cases kp with
 | caller=>exact absurd rfl hk
 | boundFrame=>exact absurd rfl hk2
 | machine=>exact tail h₁
 | frame=>
  refine wpAny_ite ?_
  split
  ·exact tail h₁
  ·exact tail (by exact wpAny_keep h₁)
end
section
variable {C:Ctx} {st:aK} {X:XQ}
theorem Ar.nil{pos:Pos}{Q:List aA->aK->Prop}(q:Q [] st):Ar C [] pos st Q X:=λa=>args_nil (.mk .refl Vs.nil a q)
theorem Ar.cons{e:dO}{es:List dO}{pos:Pos}{Q:List aA->aK->Prop}(he:fH (e::es) C.env=(false,qI e C.env)::fH es C.env)(h:Ev C e st (λb st1=>Ar C es pos st1 (λbs=>Q (b::bs)) X) X):Ar C (e::es) pos st Q X:=λa=>
 args_cons (on (h a) .refl λY l1 r1 a1 q1=>on (q1 a1) l1 λl2 l3 r2 a2 q2=>.mk l3 (.cons (r1.mono l2) r2) a2 q2) he
abbrev Ks(C:Ctx)(qM:List wZ)(pos:Pos)(st:aK)(Q:List aA->aK->Prop)(X:XQ):Prop:=Wp C Vs (evalAll ((g6 pos (dX qM C.env)).map (·.2))) st Q X
theorem Ks.nil{pos:Pos}{Q:List aA->aK->Prop}(q:Q [] st):Ks C [] pos st Q X:=λa=>tC (.mk .refl Vs.nil a q)
theorem Ks.cons{x:Option Str}{e:dO}{kp:Pos}{qM:List wZ}{pos:Pos}{Q:List aA->aK->Prop}(h:Ev C e st (λb st1=>Ks C qM pos st1 (λbs=>Q (b::bs)) X) X):Ks C (⟨x,e,kp⟩::qM) pos st Q X:=λa=>
 wpAny_evalAll_cons (x:=do let v←qI e C.env;lO pos;pure v) (aC (on (h a) .refl λY l1 r1 a1 q1=>aC (d8 (aI (on (q1 a1) l1 λl2 l3 r2 a2 q2=>.mk l3 (.cons (r1.mono l2) r2) a2 q2)))))
inductive Plain(es:List dO)(qM:List wZ)(kn:List Str):Prop where
 | mk (es:∀env pos,(n7 pos (fH es env)).any (·.1)=false) (kw:∀env pos,(g6 pos (dX qM env)).any (·.1.isNone)=false) (ks:∀env pos,(g6 pos (dX qM env)).all (·.1.isSome)=true) (kn:∀env pos,(g6 pos (dX qM env)).filterMap (·.1)=kn)
variable {A:cF} {g:c9} {ρ ρ0:Roo} {s:aM} {h0:c9}
theorem CK{fv:aJ}{es:List dO}{qM:List wZ}{kn:List Str}{pos:Pos}{Z:Args->aM->Prop}(hp:Plain es qM kn)
  (body:bZ (c0 C.D.prog C.D.w) A (spliced (n7 pos (fH es C.env))) (λvs s₁=>bZ (c0 C.D.prog C.D.w) A (evalAll ((g6 pos (dX qM C.env)).map (·.2))) (λks s₂=>Z ⟨vs,kn.zip ks⟩ s₂) (fX C A g ρ0 h0 X) s₁) (fX C A g ρ0 h0 X) s):
  bZ (c0 C.D.prog C.D.w) A (evalArgs fv true (n7 pos (fH es C.env)) (g6 pos (dX qM C.env))) Z (fX C A g ρ0 h0 X) s:=by
 rw[←hp.4 C.env pos] at body
 have he:=hp.1 C.env pos
 generalize n7 pos (fH es C.env)=as at body he
 cases as with
 | nil=>
  exact evalArgs_kw_nil (hp.3 _ _) λΓ q hΓ=>by
   have t:bZ (c0 C.D.prog C.D.w) A (evalAll ((g6 pos (dX qM C.env)).map (·.2))) (λks s₂=>Z ⟨[],((g6 pos (dX qM C.env)).filterMap (·.1)).zip ks⟩ s₂) (fX C A g ρ0 h0 X) s:=body Γ q hΓ
   exact t Γ q hΓ
 | cons x rest=>
  obtain⟨b,t⟩:=x
  cases b with
  | true=>cases he
  | false=>exact evalArgs_kw (hp.3 _ _) body
theorem EH{fv:aJ}{es:List dO}{qM:List wZ}{kn:List Str}{pos:Pos}{Z:Args->aM->Prop}(hp:Plain es qM kn)(a:At C A g ρ st s)(l0:Le ρ0 h0 ρ s.heap)
  {Q:List aA->aK->Prop} (h:Ar C es pos st Q X)
  (k:∀{as bW ρ2 vs s2},Le ρ s.heap ρ2 s2.heap->Vs ρ2 s2.heap as vs->At C A g ρ2 bW s2->Q as bW->bZ (c0 C.D.prog C.D.w) A (evalAll ((g6 pos (dX qM C.env)).map (·.2))) (λws s3=>Z ⟨vs,kn.zip ws⟩ s3) (fX C A g ρ0 h0 X) s2):
  bZ (c0 C.D.prog C.D.w) A (evalArgs fv true (n7 pos (fH es C.env)) (g6 pos (dX qM C.env))) Z (fX C A g ρ0 h0 X) s:=
 CK hp (on (h a) l0 λl1 l2 r1 a1 q1=>k l1 r1 a1 q1)
theorem EI{fv:aJ}{es:List dO}{qM:List wZ}{kn:List Str}{pos:Pos}{Z:Args->aM->Prop}(hp:Plain es qM kn)(a:At C A g ρ st s)(l0:Le ρ0 h0 ρ s.heap)
  {Q:List aA->List aA->aK->Prop} (h:Ar C es pos st (λas st1=>Ks C qM pos st1 (λks=>Q as ks) X) X)
  (k:∀{as ks bW ρ2 vs ws s2},Le ρ s.heap ρ2 s2.heap->Vs ρ2 s2.heap as vs->Vs ρ2 s2.heap ks ws->At C A g ρ2 bW s2->Q as ks bW->Z ⟨vs,kn.zip ws⟩ s2):
  bZ (c0 C.D.prog C.D.w) A (evalArgs fv true (n7 pos (fH es C.env)) (g6 pos (dX qM C.env))) Z (fX C A g ρ0 h0 X) s:=
 EH hp a l0 h λl1 r1 a1 q1=>on (q1 a1) (l0.trans l1) λl3 l4 r2 a2 q2=>k (l1.trans l3) (r1.mono l3) r2 a2 q2
def fM(C:Ctx)(fa:aA)(as:List aA)(kn:List Str)(ks:List aA)(st:aK)(Q:aA->aK->Prop)(X:XQ):Prop:=
 ∀{A:cF} {g:c9} {ρ:Roo} {s:aM} {fv:aJ} {vs ws:List aJ},At C A g ρ st s->V ρ s.heap fa fv->Vs ρ s.heap as vs->Vs ρ s.heap ks ws->OD (c0 C.D.prog C.D.w) s.heap fv∧bZ (c0 C.D.prog C.D.w) A (call fv vs (kn.zip ws)) (pX C A g ρ s.heap V Q) (fX C A g ρ s.heap X) s
theorem Ev.call{fe:dO}{es:List dO}{qM:List wZ}{kn:List Str}{pos:Pos}{Q:aA->aK->Prop}(hp:Plain es qM kn)
  (he:qI (.Call fe es qM pos) C.env=(do xL pos (←qI fe C.env) [] (n7 pos (fH es C.env)) (g6 pos (dX qM C.env))))
  (h:Ev C fe st (λfa st1=>Ar C es pos st1 (λas bW=>Ks C qM pos bW (λks fL=>fM C fa as kn ks fL Q X) X) X) X):Ev C (.Call fe es qM pos) st Q X:=λa=>by
 show bZ _ _ (qI _ _) _ _ _
 exact he▸aC (on (h a) .refl λY l1 r1 a1 q1=>kH (hp.1 _ _) (hp.2 _ _) (EI hp a1 l1 q1 λl2 r2 r3 a2 q2=>((q2 a2 (r1.mono l2) r2 r3)).imp id λw=>lift (l1.trans l2) w))
def aE3(ρ:Roo)(h:c9)(b:aA×List aA)(x:aJ×List aJ):Prop:=V ρ h b.1 x.1∧Vs ρ h b.2 x.2
def Gm(C:Ctx)(name:Str)(a:aA)(st:aK)(Q:aA×List aA->aK->Prop)(X:XQ):Prop:=∀pl,pD C aE3 (λv=>DZ v name pl) a st Q X
theorem Ev.dS{o:dO}{name:Str}{apos:Pos}{es:List dO}{qM:List wZ}{kn:List Str}{pos:Pos}{pl:Sem Bool}{Q:aA->aK->Prop}(hp:Plain es qM kn)
  (he:qI (.Call (.Attribute o name apos) es qM pos) C.env=(do
   let ov←qI o C.env
   lO apos.atName
   let(f',first)←uK [ov] (DZ ov name pl)
   xL pos f' first (n7 pos (fH es C.env)) (g6 pos (dX qM C.env))))
  (h:Ev C o st (λb st1=>Gm C name b st1 (λfx bW=>Ar C es pos bW (λas fL=>Ks C qM pos fL (λks j6=>fM C fx.1 (fx.2++as) kn ks j6 Q X) X) X) X) X):Ev C (.Call (.Attribute o name apos) es qM pos) st Q X:=λa=>by
 show bZ _ _ (qI _ _) _ _ _
 exact he▸aC (on (h a) .refl λY l1 r1 a1 q1=>aC (d8 (aC (dN (on (q1 pl a1 r1) l1 λ{y _ _ _ _} _ l2 r2 a2 q2=>by
  exact kH (hp.1 _ _) (hp.2 _ _) (EI hp a2 l2 q2 λl3 r3 r4 a3 q3=>(q3 a3 (r2.1.mono l3) (Vs.append' (r2.2.mono l3) r3) r4).imp id λw=>lift (l2.trans l3) w))))))
end
noncomputable def eE:XQ:=λY Y Y Y=>False
section
variable {C:Ctx} {st:aK} {X:XQ} {A:cF} {g:c9} {ρ ρ0:Roo} {s:aM} {h0:c9}
theorem fX.no{v:aJ}{p:Prop}(x:fX C A g ρ h0 eE v s):p:=by
 obtain⟨f,e,cls,msg,fR,ρ',le,ex,q⟩:=x
 exact q.elim
theorem store{i:Nat}{x:Str}{k:dB}{b:aA}{Q:aK->Prop}(hi:C.ns[i]? =some (x,k))(hk:Sto C i k)(q:Q ⟨st.m.set i (some b),st.H⟩):pD C Eqv (λv=>storeName C.env x v) b st (λ(_:Unit)=>Q) X:=λa hv=>by
 cases hk with
 | inl e=>
  subst e
  refine bS a.6.1 λM hM hq=>?_
  refine wpAny_storeName_local (mY a.4 hi) hM (λh' hn hs=>?_) ?_
  ·obtain⟨L,a'⟩:=a.aE1 hi hv hM hq hn hs
   exact .mk (b:=()) L rfl a' q
  ·rw[a.4.1];rfl
 | inr e=>
  obtain rfl:=e.1
  refine cD (d0.mp (a.4.7 x (.inl (aN hi)))) λc hc=>?_
  refine cD (a.6.3 c (a.4.8 i x c hi e.2 hc)) λv0 hc0=>?_
  refine wpAny_storeName_cell a.4.1 (mY a.4 hi) hc hc0 λh' hn hs=>?_
  obtain⟨L,a'⟩:=a.setC (tk:=_) hi hv e.2 hc hn hs
  exact .mk (b:=()) L rfl a' q
theorem As.name{i:Nat}{x:Str}{k:dB}{b:aA}{pos:Pos}{Q:aK->Prop}(hi:C.ns[i]? =some (x,k))(hk:Sto C i k)(q:Q ⟨st.m.set i (some b),st.H⟩):As C (.Name x pos) b st Q X:=λa hv=>wpAny_assign_Name (store hi hk q a hv)
abbrev AI(C:Ctx)(ts:List dO)(as:List aA)(st:aK)(Q:aK->Prop)(X:XQ):Prop:=OpN C Eqv (λvs=>o9 ((lV ts C.env).map (·.2)) vs) as st (λ(_:Unit)=>Q) X
theorem AI.nil{as:List aA}{Q:aK->Prop}(q:Q st):AI C [] as st Q X:=λ{_ _ _ _ vs} a hv=>by
 show bZ _ _ (o9 [] vs) _ _ _
 exact aI (.mk (b:=()) .refl rfl a q)
theorem AI.cons{t:dO}{ts:List dO}{b:aA}{as:List aA}{Q:aK->Prop}(he:lV (t::ts) C.env=(false,DY t C.env)::lV ts C.env)(h:As C t b st (λst1=>AI C ts as st1 Q X) X):AI C (t::ts) (b::as) st Q X:=λ{_ _ _ _ _} a hv=>by
 refine dW hv λv ws dE hx hxs=>?_;subst dE
 show bZ _ _ (o9 ((lV (t::ts) C.env).map (·.2)) (v::ws)) _ _ _
 exact he▸aC (m:=uK ws (DY t C.env v)) (dN (on (h a hx) .refl λY l1 r1 a1 q1=>lift l1 (q1 a1 (hxs.mono l1))))
inductive HR(ts:List dO)(k:Nat):Prop where
 | mk (st:∀env,(lV ts env).findIdx? (·.1)=none) (len:∀env,(lV ts env).length=k)
theorem xR{h':c9}(e:q8 s.heap.objs.size s.heap h'):Ke s.heap h':=λb o q=>e b o (k8 (c6 q)) q
theorem As.tup{elts:List dO}{k:Nat}{pos:Pos}{xs:List aA}{Q:aK->Prop}(hh:C.hd=none)(hp:HR elts xs.length)(h:AI C elts xs st Q X):As C (.Tuple elts k pos) (.tup xs) st Q X:=λa hv=>by
 refine dW hv λt ws dE ht sL=>?_;subst dE
 refine wpAny_assign_Tuple (a.2.3.trans hh) ht (by rw[hp.2,aX,sL.length]) (hp.1 _) λh' e=>?_
 have k:=xR e
 exact lift (.ke k) (h (a.junk k) (sL.mono (.ke k)))
abbrev xS(C:Ctx)(xs:List Str)(as:List aA)(st:aK)(Q:aK->Prop)(X:XQ):Prop:=OpN C Eqv (λvs=>o9 (xs.map λx=>bindName C.env x) vs) as st (λ(_:Unit)=>Q) X
theorem xS.nil{as:List aA}{Q:aK->Prop}(q:Q st):xS C [] as st Q X:=λ{_ _ _ _ vs} a hv=>by
 show bZ _ _ (o9 [] vs) _ _ _
 exact aI (.mk (b:=()) .refl rfl a q)
theorem xS.cons{i:Nat}{x:Str}{k:dB}{xs:List Str}{b:aA}{as:List aA}{Q:aK->Prop}(hi:C.ns[i]? =some (x,k))(hk:Sto C i k)(h:xS C xs as ⟨st.m.set i (some b),st.H⟩ Q X):xS C (x::xs) (b::as) st Q X:=λ{_ _ _ _ _} a hv=>by
 refine dW hv λv ws dE hx hxs=>?_;subst dE
 exact aC (m:=uK ws (bindName C.env x v)) (dN (wpAny_bindName (on (store hi hk (Q:=λst1=>xS C xs as st1 Q X) h a hx) .refl λY l1 r1 a1 q1=>lift l1 (q1 a1 (hxs.mono l1)))))
theorem Vs.reverse{h:c9}{as:List aA}:∀{vs:List aJ},Vs ρ h as vs->Vs ρ h as.reverse vs.reverse:=by
 induction as with
 | nil=>intro _ e;obtain rfl:=(e:_= []);exact .nil
 | cons x xs ih=>
  intro _ e
  refine dW e λv r dE x y=>?_;subst dE
  rw[pV,pV]
  exact .append' (ih y) (.cons x .nil)
theorem Ex.assign{x:Str}{pos':Pos}{value:dO}{pos:Pos}{Q:bU->aK->Prop}(hs:f9 value (some (.Name x pos')) pos.line C.env=pure false)(h:Ev C value st (λb st1=>As C (.Name x pos') b st1 (Q .next) X) X):Ex C (.Assign [.Name x pos'] value pos) st Q X:=λa=>by
 show bZ _ _ (exec _ _) _ _ _
 exact exec_Assign_Name C.env x pos' value pos hs▸aC (d8 (aC (on (h a) .refl λ{v _ _ _ _} _ l1 r1 a1 q1=>aC (m:=mU (.Name x pos') C.env v) (on (q1 a1 r1) l1 λY l2 r2 a2 q2=>aI (.mk (b:=.next) l2 rfl a2 q2)))))
theorem Ex.CL{elts:List dO}{k:Nat}{sM:Pos}{value:dO}{pos:Pos}{Q:bU->aK->Prop}(hs:D0 [.Tuple elts k sM] value pos.line C.env=pure false)(hw:mW [.Tuple elts k sM] value C.env=pure none)
  (h:Ev C value st (λb st1=>As C (.Tuple elts k sM) b st1 (Q .next) X) X):Ex C (.Assign [.Tuple elts k sM] value pos) st Q X:=λa=>
 Assign_Tuple (on (h a) .refl λY l1 r1 a1 q1=>on (q1 a1 r1) l1 λY l2 r2 a2 q2=>.mk (b:=.next) l2 rfl a2 q2) hs hw
theorem Ex.T5{elts:List dO}{k:Nat}{sM:Pos}{value:dO}{pos:Pos}{names:List Str}{Q:bU->aK->Prop}(hh:C.hd=none)(hw:mW [.Tuple elts k sM] value C.env=pure (some names))(hs:D0 [.Tuple elts k sM] value pos.line C.env=pure false)
  (h:Ev C value st (λb st1=>∃xs,b= .tup xs∧names.length=xs.length∧xS C names.reverse xs.reverse st1 (Q .next) X) X):Ex C (.Assign [.Tuple elts k sM] value pos) st Q X:=λa=>
 Assign_Tuple_swapped (on (h a) .refl λ{_ s1 _ _ _} _ l1 r1 a1 q1=>by
  refine wF q1 λxs dF hl q=>?_;subst dF
  refine dW r1 λt ws dE ht sL=>?_;subst dE
  have e:names.length=(bG ws).size:=by rw[hl,aX,sL.length]
  rw[e]
  refine wpAny_unpackItems_tuple (a1.2.3.trans hh) ht λh' e=>?_
  have k:=xR e
  exact on (q (a1.junk (tk:=s1.toks) k) (Vs.reverse (sL.mono (.ke k)))) (l1.trans (.ke k)) λY l2 r2 a2 q2=>.mk (b:=.next) l2 rfl a2 q2) hs hw
theorem Ex.expr{e:dO}{pos:Pos}{Q:bU->aK->Prop}(hs:f9 e none pos.line C.env=pure false)(h:Ev C e st (λY=>Q .next) X):Ex C (.Expr e pos) st Q X:=λa=>
 wpAny_Expr_any (on (h a) .refl λY l1 r1 a1 q1=>.mk (b:=.next) l1 rfl a1 q1) (by unfold interactive;rw[a.4.1];rfl) hs
theorem Ex.assert{test:dO}{pos:Pos}{Q:bU->aK->Prop}(hh:C.hd=none)(h:Tr C test st (λb st1=>b=true∧Q .next st1) X):Ex C (.Assert test none pos) st Q X:=λa=>
 wpAny_Assert_new (a.2.3.trans hh) (on (h a) .refl λ{x _ _ _ _} _ l1 r1 a1 q1=>by
  obtain rfl:=(r1:x=_)
  rw[q1.1,if_pos rfl]
  exact .mk (b:=.next) l1 rfl a1 q1.2)
theorem Ex.aug{i:Nat}{x:Str}{k:dB}{b:aA}{pos':Pos}{op:mS}{value:dO}{pos:Pos}{Q:bU->aK->Prop}(hi:C.ns[i]? =some (x,k))(hk:k= .local)(hm:st.m[i]? =some (some b))
  (h:Ev C value st (λc st1=>d3 C V (D1 op) b c st1 (λd bW=>Q .next ⟨bW.m.set i (some d),bW.H⟩) X) X):Ex C (.AugAssign (.Name x pos') op value pos) st Q X:=λa=>by
 subst hk
 refine bS a.6.1 λM hM hq=>?_
 refine bS (hq i x _ b hi hm) λv hv hx=>?_
 exact wpAny_AugAssign_Name (wpAny_loadName_local a.4.1 (mY a.4 hi) hM hv (on (h a) .refl λY l1 r1 a1 q1=>on (q1 a1 (hx.mono l1) r1) l1 λY l2 r2 a2 q2=>
  on (store hi (.inl rfl) (Q:=Q .next) q2 a2 r2) l2 λY l3 r3 a3 q3=>.mk (b:=.next) l3 rfl a3 q3))
theorem fE{h:c9}:h.get? h.objs.size=none:=by
 cases q:h.get? h.objs.size with
 | none=>rfl
 | some o=>exact absurd (c6 q) (fN _)
theorem Ev.tup{es:List dO}{k:Nat}{pos:Pos}{Q:aA->aK->Prop}(h:Ar C es pos st (λas st1=>as.length≤1000000∧Q (.tup as) st1) X):Ev C (.Tuple es k pos) st Q X:=λa=>
 wpAny_Tuple (on (h a) .refl λ{vs s1 _ _ _} _ l1 r1 a1 q1=>⟨aB (by exact r1.length▸q1.1) (by decide),
  .mk (b:=.tup _) (l1.trans (.ke (Ke.push _))) ⟨_,vs,rfl,⟨_,bV _ rfl,rfl,_,rfl⟩,r1.mono (.ke (Ke.push _))⟩ (a1.junk (tk:=s1.toks) (Ke.push _)) q1.2⟩)
theorem Le.new{h:c9}{x:cI}(k:Ke h h0):Le ρ h (ρ++ [x]) h0:=.app k.tk
theorem iH{H:List Pc}{x:cI}(e:ρ.length=H.length):(ρ++ [x])[H.length]? =some x:=by rw[bY (cC e),e,k9];rfl
mutual
noncomputable def aA.pure:aA->Bool
 | .aO _=>false
 | .tup xs=>vN xs
 | _=>true
noncomputable def vN:List aA->Bool
 | []=>true
 | x::xs=>x.pure && vN xs
end
theorem V.pure{h:c9}{a:aA}{v:aJ}:a.pure=true->V ρ h a v->V [] h a v:=λp e=>by
 refine aA.rec (motive_1:=λa=>a.pure=true->∀v,V ρ h a v->V [] h a v) (motive_2:=λas=>vN as=true->∀vs,Vs ρ h as vs->Vs [] h as vs)
  (λY Y e=>e) (λY Y Y e=>e) (λY Y Y e=>e) (λY Y Y e=>e) (λY Y Y e=>e) (λY p=>nomatch p) (λY ih p Y e=>?_) (λY Y Y e=>e) (λY Y Y e=>e) (λY Y Y Y Y e=>e) (λY Y e=>e) (λY Y i1 i2 p Y e=>?_) a p v e
 ·refine dW e λa vs e t r=>?_;exact⟨a,vs,e,t,ih p vs r⟩
 ·refine dW e λv r e x y=>?_;exact⟨v,r,e,i1 (bP.mp p).1 v x,i2 (bP.mp p).2 r y⟩
theorem Vs.pure{h:c9}{as:List aA}:∀{vs:List aJ},vN as=true->Vs ρ h as vs->Vs [] h as vs:=by
 induction as with
 | nil=>intro _ _ e;exact e
 | cons x xs ih=>intro _ p e;refine dW e λv r e x y=>?_;exact⟨v,r,e,x.pure (bP.mp p).1,ih (bP.mp p).2 y⟩
theorem Ev.list{es:List dO}{pos:Pos}{Q:aA->aK->Prop}(h:Ar C es pos st (λas st1=>as.length≤1000000∧vN as=true∧Q (.aO st1.H.length) ⟨st1.m,st1.H++ [.lst as]⟩) X):Ev C (.List es pos) st Q X:=λa=>
 wpAny_List (on (h a) .refl λ{vs s1 as _ _} _ l1 r1 a1 q1=>⟨aB (by exact r1.length▸q1.1) (by decide),
  .mk (b:=.aO _) (l1.trans (Le.new (Ke.push _))) ⟨_,iH a1.5.4,rfl⟩ (a1.new (tk:=s1.toks) (p:=.lst as) (Ke.push _) fE (.mk (bV _ rfl) (.ty rfl (by decide)) ⟨vs,_,rfl,Vs.mono (.ke (Ke.push _)) (Vs.pure q1.2.1 r1)⟩ trivial)) q1.2.2⟩)
def rS(K:aK->Prop)(Q:bU->aK->Prop):bU->aK->Prop
 | .next,st=>K st
 | .cont,st=>K st
 | .brk,st=>Q .next st
 | .ret a,st=>Q (.ret a) st
theorem Ex.aAJ{test:dO}{body:List v8}{pos:Pos}{Q:bU->aK->Prop}(J:Nat->aK->Prop)(k0:Nat)(h0:J k0 st)
  (h:∀k st,J k st->Tr C test st (λb st1=>match b with | true=>j5 C body st1 (rS (λbW=>∃k',k' < k∧J k' bW) Q) eE | false=>Q .next st1) eE):
  Ex C (.While test body [] pos) st Q X:=λ{A g ρ s} a=>by
 refine wpAny_While (codeAny_whileLoop (λk s'=>∃fR ρ',J k fR∧Le ρ s.heap ρ' s'.heap∧At C A g ρ' fR s') (λk s'=>?_) k0 ⟨st,ρ,h0,.refl,a⟩)
 rintro⟨fR,ρ',hJ,L,a'⟩
 refine bM (on (h k fR hJ a') L λ{x _ b _ _} _ l1 r1 a1 q1=>?_) (λY Y x=>x) λY Y e=>e.no
 obtain rfl:=(r1:x=b)
 cases x with
 | true=>
  refine bM (on ((q1:j5 C body _ _ eE) a1) l1 λ{x _ b _ _} _ l2 r2 a2 q2=>?_) (λY Y x=>x) λY Y e=>e.no
  cases b with
  | next=>obtain rfl:=(r2:x=_);refine bS q2 λk' hk q2=>?_;exact⟨k',hk,_,_,q2,l2,a2⟩
  | cont=>obtain rfl:=(r2:x=_);refine bS q2 λk' hk q2=>?_;exact⟨k',hk,_,_,q2,l2,a2⟩
  | brk=>obtain rfl:=(r2:x=_);exact .mk (b:=.next) l2 rfl a2 q2
  | ret a=>refine bS r2 λw dF hw=>?_;subst dF;exact .mk (b:=.ret a) l2 ⟨w,rfl,hw⟩ a2 q2
 | false=>exact wY (.mk (b:=.next) l1 rfl a1 q1)
end
inductive xT(K:z7)(T:aJ)(name:Str)(f:aJ):Prop where
 | mk (ga:nH K T "__getattribute__"=some (some (.builtin "object.__getattribute__"))) (gt:nH K T "__getattr__"=some none) (me:nH K T name=some (some f)) (tf:typeIn K f=some (.type "function"))
inductive BG(K:z7)(C:cI):Prop where
 | mk (ga:nH K (.ref C) "__getattribute__"=some (some (.builtin "object.__getattribute__"))) (sa:nH K (.ref C) "__setattr__"=some (some (.builtin "object.__setattr__"))) (po:plainOver K C=true) (hd:hasDictIn K C=true)
section
variable {M:rL} {A:cF} {E:aJ->aM->Prop} {s:aM}
theorem TZ.ns{h:c9}{a:cI}{m:Str->Option aJ}{k:Nat}(x:TZ h a m k):h.Ns a m:=
 x.elim λo x=>x.elim λes x=>x.elim λep x=>⟨o,es,ep,x.1,x.2.1,x.2.2.1,x.2.2.2.1⟩
theorem AJ{K:z7}{a:cI}{o:Obj}{d:cI}{m:Str->Option aJ}{T f:aJ}{name:Str}{pl:Sem Bool}{Q:aJ×List aJ->aM->Prop}(X:K.In s.heap)(ho:s.heap.get? a=some o)(hT:o.cls=T)(hod:o.dict=some d)(hn:s.heap.Ns d m)(hm:m name=none)(I:xT K T name f)
  (h:Q (f,[.ref a]) s):bZ M A (DZ (.ref a) name pl) Q E s:=by
 have hT:Looks M s.heap (typeOf (.ref a)) T:=(Looks.ld (part:=none) ho).andThen (hT▸Looks.now)
 refine aC (aC (hT.here ((HF X I.1).here ?_)))
 show bZ M A (if(Manifest.canonical "object.__getattribute__" !="object.__getattribute__")=true then _ else _) Q E s
 rw[show(Manifest.canonical "object.__getattribute__" !="object.__getattribute__")=false by kernel_rfl,if_neg bH]
 refine aC (aC (hT.here ((HF X I.2).here ?_)))
 refine aC (aC (hT.here ((HF X I.3).here ?_)))
 refine aC ((looks_typeIn X I.4).here (aC (AB ho ?_)))
 rw[hod]
 refine aC (wpAny_nsGet hn ?_)
 exact hm▸aC (lW (aI h))
theorem MK{h:c9}{d:cI}{m:Str->Option aJ}(hn:h.Ns d m)(name:Str):∃o,h.get? d=some o∧lookIn name o=some (m name):=by
 refine MJ hn λo es ep ho hd hk hf=>?_
 refine⟨o,ho, ?_⟩
 unfold lookIn
 rw[hd]
 dsimp only
 have aAK:es.toList.any (·.refKey)=false:=List.any_eq_false.mpr λe he=>by
  refine kG (hk e (Array.mem_toList_iff.mp he)) λn t q=>?_
  unfold DictEntry.refKey
  exact q▸bH
 have:=hf name
 unfold nsFind findBy at this
 rw[←Array.find?_toList] at this
 rw[←this]
 cases q:es.toList.find? (·.key.isStr name) with
 | some e=>rfl
 | none=>dsimp only;rw[aAK];rfl
theorem tM{a:cI}{m:Str->Option aJ}{k:Nat}{name:Str}{v:aJ}{Q:Unit->aM->Prop}(hn:TZ s.heap a m k)
  (hQ:∀h',TZ h' a (λx=>if x=name then some v else m x) (if(m name).isSome=true then k else k+1)->eY a s.heap h'->Q () { s with heap:=h',toks:=s.toks+1 }):bZ M A (nsSet a name v) Q E s:=λΓ p Y=>by
 refine EE hn λo es ep ho hd hk hm hz=>?_
 simp only [nsSet,strHash,Sem.wp_bind',Sem.wp_cmd_ask,Sem.wp_pure',Sem.wp_cmd_mkText]
 rw[Sem.wp_loadPart_of M Γ _ p { s with toks:=s.toks+1 } (o:=o) _ ho]
 have aAK:es.any (·.refKey)=false:=by
  rw[Array.any_eq_false'];intro e he;refine kG (hk e he) λn t h=>?_;unfold DictEntry.refKey;exact h▸bH
 simp only [hd,aRefKeyMayBeTheName_eq,aRefKeyMayBeTheNameByArray,aAK,HG,gE,if_false,Sem.wp_cmd_updatePart]
 refine⟨by rw[ho];rfl,hQ _ ?_ (iD ..)⟩
 obtain⟨c,d,dt,sl⟩:=o
 subst hd
 cases hi:es.findIdx? (·.key.isStr name) with
 | some i=>
  refine⟨_,_,ep,eZ _ ho (by rw[v9];unfold pI;dsimp only;rw[hi];rfl),by rw[v9];unfold pI;dsimp only;rw[hi],hk.modify _ _,λx=>?_, ?_⟩
  ·show _=if x=name then some v else m x
   rw[←hm];exact findBy_modify (λn v=>v.isStr n) Value.isStr_inj es name x v i hi
  ·rw[Array.size_modify];split
   ·exact hz
   ·exact qH hz
 | none=>
  refine⟨_,_,ep+1,eZ _ ho (by rw[v9];unfold pI;dsimp only;rw[hi];rfl),by rw[v9];unfold pI;dsimp only;rw[hi],hk.push _ _ _ _,λx=>?_, ?_⟩
  ·show _=if x=name then some v else m x
   rw[←hm]
   refine findBy_push (λn v=>v.isStr n) es name x _ _ v (λy=>?_) hi
   show(name==y)=decide (y=name)
   by_cases h:y=name
   ·rw[h,beq_self_eq_true,decide_eq_true rfl]
   ·rw[decide_eq_false h,beq_eq_false_iff_ne.mpr λe=>h e.symm]
  ·have:m name=none:=by
    rw[←hm];unfold nsFind findBy
    rw[Array.findIdx?_eq_none_iff] at hi
    rw[Array.find?_eq_none.mpr λx hx (q:x.key.isStr name=true)=>bH ((hi x hx).symm.trans q)]
    rfl
   rw[this,Array.size_push]
   exact cH hz
end
section
variable {prog:rM} {w:World} {A:cF} {E:aJ->aM->Prop} {s:aM} {K:z7} {x C dx:cI} {ox od:Obj} {name:Str}
theorem ite_le{p:Prop}[Decidable p]{k n:Nat}(h:k≤n):(if p then k else k+1)≤n+1:=by
 split
 ·exact qH h
 ·exact cH h
theorem CM{v:aJ}{m:Str->Option aJ}{k:Nat}{Q:Unit->aM->Prop}(X:K.In s.heap)(I:InstAt s.heap x ox C (some od))(hd:ox.dict=some dx)(hn:TZ s.heap dx m k)(hk:k≤1000)(hc:BG K C)(ht:takerIn K C name=some none)
  (h:∀h' tk,TZ h' dx (λy=>if y=name then some v else m y) (if(m name).isSome=true then k else k+1)->eY dx s.heap h'->Q () { s with heap:=h',toks:=tk }):bZ (c0 prog w) A (setAttr (.ref x) name v) Q E s:=by
 refine set_plain X I hc.2 ?_
 refine bS (any_some (p:=λc:ClassData=>c.hasDict) hc.4) λcd hcd hd'=>?_
 refine osa_open (s:={ s with toks:=s.toks+1 }) X I hc.3 ht λb=>?_
 obtain⟨hx,YK,hno,-⟩:=I
 obtain⟨oc,odi,oda,OE⟩:=ox
 subst YK
 subst hd
 refine aC (aI (aC (aC (AB (s:={ s with toks:=s.toks+1 }) hx (aC ((looks_clsIn (h:=({ s with toks:=s.toks+1 }:aM).heap) X hcd).here ?_))))))
 rw[hd']
 refine aI (a:=some dx) (aC (aI (aC (tM (s:={ s with toks:=s.toks+1 }) hn λh' T7 TE=>?_))))
 refine bS ((T7.elim λo q=>q.elim λes q=>q.elim λep q=>⟨o,q.1,q.2.1▸pastItsLine_dict (aB q.2.2.2.2 (aB (ite_le hk) (by decide)))⟩:∃o,h'.get? dx=some o∧o.data.pastItsLine=none)) λo' q1 q2=>?_
 exact aC (wpAny_lookBehind q1 q2 (aI (h h' _ T7 TE)))
end
noncomputable def HS(x:Str)(b:aA)(l:List (Str×aA)):List (Str×aA):=
 List.rec ([(x,b)]) (λp r ih=>if x=p.1 then(p.1,b)::r else p::ih) l
theorem EJ{x:Str}{b:aA}(y:Str){fs:List (Str×aA)}:(HS x b fs).lookup y=if y=x then some b else fs.lookup y:=by
 have cons:∀(z:Str) (c:aA) (r:List (Str×aA)),wA y ((z,c)::r)=if y=z then some c else r.lookup y:=λz c r=>by
  rw[dA]
  by_cases h:y=z
  ·rw[if_pos h,h,beq_self_eq_true]
  ·rw[if_neg h,beq_eq_false_iff_ne.mpr h]
 induction fs with
 | nil=>exact cons x b []
 | cons p r ih=>
  obtain⟨z,c⟩:=p
  show(if x=z then(z,b)::r else(z,c)::HS x b r).lookup y=_
  by_cases hx:x=z
  ·subst hx
   rw[if_pos rfl,cons,cons]
   by_cases h:y=x
   ·rw[if_pos h,if_pos h]
   ·rw[if_neg h,if_neg h,if_neg h]
  ·rw[if_neg hx,cons,cons,ih]
   by_cases h:y=z
   ·rw[if_pos h,if_neg λq=>hx (q.symm.trans h),if_pos h]
   ·rw[if_neg h,if_neg h]
theorem EK{x:Str}{b:aA}{fs:List (Str×aA)}:(HS x b fs).length=if(fs.lookup x).isSome=true then fs.length else fs.length+1:=by
 induction fs with
 | nil=>rfl
 | cons p r ih=>
  obtain⟨z,c⟩:=p
  show(if x=z then(z,b)::r else(z,c)::HS x b r).length=_
  by_cases hx:x=z
  ·subst hx;rw[if_pos rfl,dA,beq_self_eq_true];rfl
  ·rw[if_neg hx,eQ,ih,dA,beq_eq_false_iff_ne.mpr hx]
   dsimp only
   split <;> rfl
section
variable {C:Ctx} {st:aK} {X:XQ} {A:cF} {g:c9} {ρ ρ0:Roo} {s:aM} {h0:c9}
inductive Lab(D:WD)(ρ:Roo)(h:c9)(l:Nat)(p:Pc):Prop
 | mk (x:cI) (o:Obj) (hx:ρ[l]? =some x) (ho:h.get? x=some o) (z:p.obj D ρ h o)
theorem At.aO(a:At C A g ρ st s){l:Nat}{p:Pc}(e:st.H[l]? =some p):Lab C.D ρ s.heap l p:=
 (a.5.at e).elim λx z=>z.2.1.elim λo y=>⟨x,o,z.1,y.1,y.2⟩
theorem pY{h:c9}{l:Nat}{x:cI}{v:aJ}(e:ρ[l]? =some x)(hv:V ρ h (.aO l) v):v= .ref x:=
 hv.elim λy z=>z.2.trans (congrArg _ (aD (z.1.symm.trans e)))
inductive aE4(ρ:Roo)(h:c9)(K:cI)(fs:List (Str×aA))(d l:Nat):Prop
 | mk (x:cI) (ox od:Obj) (dx:cI) (mm:Str->Option aJ) (hx:ρ[l]? =some x) (I:InstAt h x ox K (some od)) (hd:ox.dict=some dx) (hdx:ρ[d]? =some dx) (hn:TZ h dx mm fs.length) (hl:∀name,lookIn name od=some (mm name)) (hq:∀y,TY ρ h (fs.lookup y) (mm y))
theorem At.inst(a:At C A g ρ st s){l d:Nat}{K:cI}{fs:List (Str×aA)}(e:st.H[l]? =some (.inst K d))(e2:st.H[d]? =some (.ns fs)):aE4 ρ s.heap K fs d l:=by
 obtain⟨x,o,hx,ho,dx,hd,sl,rfl⟩:=a.aO e
 obtain⟨y,o2,hy,J2,mm,q,q5⟩:=a.aO e2
 cases hy.symm.trans hd
 have hn:TZ s.heap dx mm fs.length:=q.elim λes q=>q.elim λep q=>⟨o2,es,ep,J2,q⟩
 exact⟨x,_,o2,dx,mm,hx,⟨ho,rfl,rfl,J2⟩,rfl,hd,hn,λname=>(MK hn.ns name).elim λo3 h=>aD (J2.symm.trans h.1)▸h.2,q5⟩
abbrev EL(C:Ctx)(name:Str)(b:aA)(st:aK)(Q:aA->aK->Prop)(X:XQ):Prop:=pD C V (λv=>getAttr v name true) b st Q X
abbrev OX(C:Ctx)(name:Str)(b c:aA)(st:aK)(Q:aK->Prop)(X:XQ):Prop:=d3 C Eqv (λv w=>setAttr v name w) b c st (λ(_:Unit)=>Q) X
noncomputable def aA.handed:aA->Bool
 | .blt _=>false
 | _=>true
theorem V.handed{h:c9}{a:aA}{v:aJ}(e:a.handed=true)(x:V ρ h a v):handedIn v=true:=by
 cases a with
 | none=>obtain rfl:=(x:_=_);rfl
 | bool=>obtain rfl:=(x:_=_);rfl
 | int=>refine cD x λt dF=>?_;subst dF;rfl
 | str=>refine cD x λt dF=>?_;subst dF;rfl
 | ref=>obtain rfl:=(x:_=_);rfl
 | aO=>refine bS x λt _ dE=>?_;subst dE;rfl
 | tup=>refine sI x λt _ dE _=>?_;subst dE;rfl
 | blt=>cases e
 | typ=>obtain rfl:=(x:_=_);rfl
 | old=>refine bS x λt dF _=>?_;subst dF;rfl
theorem ML{l d:Nat}{K:cI}{fs:List (Str×aA)}{name:Str}{c:aA}{Q:aA->aK->Prop}(e:st.H[l]? =some (.inst K d))(e2:st.H[d]? =some (.ns fs))(hc:BG C.D.K K)(hno:nH C.D.K (.ref K) name=some none)(hb:fs.lookup name=some c)(hh:c.handed=true)(q:Q c st):EL C name (.aO l) st Q X:=λa hv=>by
 obtain⟨x,ox,od,dx,mm,hx,I,hd,hdx,hn,hl,hq⟩:=a.inst e e2
 obtain rfl:=pY hx hv
 have f:=hq name
 rw[hb] at f
 refine bS f λw hw hV=>?_
 exact get_value (a.3.1.keeps a.5.1) I hc.1 (findObj_own hc.4 hno rfl ((hl name).trans (by rw[hw]))) (hV.handed hh) (.mk .refl hV a.toks q)
theorem MM{l d:Nat}{K:cI}{fs:List (Str×aA)}{name:Str}{c:aA}{Q:aK->Prop}(e:st.H[l]? =some (.inst K d))(e2:st.H[d]? =some (.ns fs))(hc:BG C.D.K K)(ht:takerIn C.D.K K name=some none)(hz:fs.length≤900)(q:Q ⟨st.m,st.H.set d (.ns (HS name c fs))⟩):OX C name (.aO l) c st Q X:=λ{_ _ ρ s _ v} a hv hw=>by
 obtain⟨x,ox,od,dx,mm,hx,I,hd,hdx,hn,hl,hq⟩:=a.inst e e2
 obtain rfl:=pY hx hv
 refine CM (a.3.1.keeps a.5.1) I hd hn (aB hz (by decide)) hc ht λh' tk T7 hs=>?_
 refine CG hn λo es ep ho hdd _=>?_
 have T:=TK.but hs.2 ho (.dict hdd)
 refine .mk (b:=()) (.of T) rfl (a.upd (tk:=tk) (p:=.ns (HS name c fs)) hdx hs.2 T ?_) q
 refine EE T7 λo es ep q1 q2 q3 q4 q5=>?_
 refine .mk q1 (.dict q2) ⟨_,⟨es,ep,q2,q3,q4,aB q5 ?_⟩,λy=>?_⟩ trivial
 ·rw[EK]
  have f:=hq name
  cases hfl:fs.lookup name with
  | some c=>rw[hfl] at f;refine bS f λv' e' _=>?_;exact e'▸aZ _
  | none=>rw[hfl] at f;rw[show mm name=none from f];exact aZ _
 ·rw[EJ]
  by_cases hy:y=name
  ·rw[if_pos hy,if_pos hy];exact⟨v,rfl,hw.mono (.of T)⟩
  ·rw[if_neg hy,if_neg hy];exact(hq y).mono (.of T)
theorem Ev.attr{o:dO}{name:Str}{pos:Pos}{Q:aA->aK->Prop}(he:qI (.Attribute o name pos) C.env=(do let ov←qI o C.env;lO pos.atName;let r←uK [ov] (getAttr ov name true);letTemporaryGo o ov r;pure r))
  (h:Ev C o st (λb st1=>EL C name b st1 Q X) X):Ev C (.Attribute o name pos) st Q X:=λa=>by
 show bZ _ _ (qI _ _) _ _ _
 exact he▸aC (on (h a) .refl λY l1 r1 a1 q1=>aC (d8 (aC (dN (on (q1 a1 r1) l1 λY l2 r2 a2 q2=>aC (wpAny_letTemporaryGo (aI (.mk l2 r2 a2 q2))))))))
theorem Ex.T8{o value:dO}{name:Str}{pos' pos:Pos}{Q:bU->aK->Prop}(hs:f9 value (some (.Attribute o name pos')) pos.line C.env=pure false)(h:Ev C value st (λc st1=>Ev C o st1 (λb bW=>OX C name b c bW (Q .next) X) X) X):Ex C (.Assign [.Attribute o name pos'] value pos) st Q X:=λa=>
 GZ (on (h a) .refl λY l1 r1 a1 q1=>on (q1 a1) l1 λl2 l3 r2 a2 q2=>on (q2 a2 r2 (r1.mono l2)) l3 λY l4 Y a3 q3=>.mk (b:=.next) l4 rfl a3 q3) hs
theorem Ex.MN{o value:dO}{name:Str}{op:mS}{sM pos:Pos}{Q:bU->aK->Prop}(h:Ev C o st (λb st1=>EL C name b st1 (λc bW=>Ev C value bW (λd fL=>d3 C V (D1 op) c d fL (λe j6=>OX C name b e j6 (Q .next) X) X) X) X) X):Ex C (.AugAssign (.Attribute o name sM) op value pos) st Q X:=λa=>
 wpAny_AugAssign_AttributeAny (on (h a) .refl λY l1 r1 a1 q1=>on (q1 a1 r1) l1 λl2 l3 r2 a2 q2=>on (q2 a2) l3 λl4 l5 r3 a3 q3=>on (q3 a3 (r2.mono l4) r3) l5 λl6 l7 r4 a4 q4=>
  on (q4 a4 (r1.mono (l2.trans (l4.trans l6))) r4) l7 λY l8 Y a5 q5=>.mk (b:=.next) l8 rfl a5 q5)
theorem T9{l d:Nat}{K fn:cI}{fs:List (Str×aA)}{name:Str}{Q:aA×List aA->aK->Prop}(e:st.H[l]? =some (.inst K d))(e2:st.H[d]? =some (.ns fs))(I:xT C.D.K (.ref K) name (.ref fn))(hno:fs.lookup name=none)(q:Q (.ref fn,[.aO l]) st):Gm C name (.aO l) st Q X:=λpl {_ _ _ _ _} a hv=>by
 obtain⟨x,ox,od,dx,mm,hx,J,hd,hdx,hn,hl,hq⟩:=a.inst e e2
 obtain rfl:=pY hx hv
 have f:=hq name
 rw[hno] at f
 exact AJ (a.3.1.keeps a.5.1) J.at_ J.cls hd hn.ns f I (.mk (b:=(.ref fn,[.aO l])) .refl ⟨rfl,.cons ⟨x,hx,rfl⟩ .nil⟩ a q)
end
inductive Fn(D:WD)(a:cI)(fd:cN)(names:fF)(body:List v8):Prop where
 | mk (at':∃oc od OE,D.K.lookup a=some ⟨oc,od,.func fd,OE⟩) (body:fd.body= .stmts body) (code:codeIn D.K fd.code fd.qualname=true) (wJ:fd.closure= []) (gl:fd.globals=mainGlobals) (bl:fd.builtins=nO) (nm:fd.scope.names=names) (nd:(names.map (·.1)).Nodup) (free:(names.all λp=>p.2 != .free)=true) (co:fd.scope.isCoroutine=false) (gen:fd.scope.isGenerator=false) (kind:fd.scope.kind= .function)
noncomputable def kD:bU->aA
 | .ret a=>a
 | _=>.none
def Init(D:WD)(ns:fF)(as:List aA)(m:Loc):Prop:=∀(i:Nat) x k b,ns[i]? =some (x,k)->m[i]? =some (some b)->
 ((k= .local∨k= .cell)∧as[i]? =some b)∨(k= .globalImplicit∧GR D x b)
inductive Inn(D:WD)(n:Nat)(names:fF)(fd:cN)(C':Ctx):Prop where
 | mk (D:C'.D=D) (n:C'.n=n) (ns:C'.ns=names) (cp:C'.cp= []) (code:C'.env.code=fd.code) (qual:C'.env.qual=fd.qualname++".<locals>.")
def BR(ns:fF)(ρ:Roo)(h:c9)(as:List aA)(bs:List (Str×aJ)):Prop:=bs.map (·.1)=(ns.take as.length).map (·.1)∧Vs ρ h as (bs.map (·.2))∧∀p∈ns.take as.length,p.2= .local∨p.2= .cell
inductive Wd(D:WD)(n:Nat)(A:cF)(g:c9)(ρ:Roo)(H:List Pc)(s:aM):Prop where
 | mk (depth:A.depth+n < 900) (units:A.units+10 * n < 9000) (fr:∃fs,A.frames=some fs) (pf:PF D g) (ow:Own D g [] ρ H s)
inductive pZ{α β:Type}(D:WD)(g:c9)(ρ:Roo)(h:c9)(R:Roo->c9->β->α->Prop)(Q:β->List Pc->Prop):α->aM->Prop
 | mk {x:α} {s':aM} {b:β} {H':List Pc} {ρ':Roo} (le:Le ρ h ρ' s'.heap) (r:R ρ' s'.heap b x) (ow:Own D g [] ρ' H' s') (q:Q b H'):pZ D g ρ h R Q x s'
abbrev rD:aJ->aM->Prop:=λY Y=>False
def Bind(D:WD)(n:Nat)(ns:fF)(fd:cN)(as:List aA)(kn:List Str)(ks:List aA)(H:List Pc)(Q:List aA->List Pc->Prop):Prop:=
 ∀{A:cF} {g:c9} {ρ:Roo} {s:aM} {vs ws:List aJ},Wd D n A g ρ H s->Vs ρ s.heap as vs->Vs ρ s.heap ks ws->bZ (c0 D.prog D.w) A (nY fd ⟨vs,kn.zip ws⟩) (pZ D g ρ s.heap (BR ns) Q) rD s
theorem HT{kd:Str->Option dB}{x:Str}{bs:List (Str×aJ)}:∀{m:Str->Option aJ},x∉bs.map (·.1)->bindL kd bs m x=m x:=by
 induction bs with
 | nil=>intro m _;rfl
 | cons p r ih=>
  intro m h
  have h:=G0 (ME h) (D2 h)
  unfold bindL
  rw[ih h.2]
  split
  ·exact if_neg h.1
  ·rfl
theorem MO{kd:Str->Option dB}{x:Str}{v:aJ}{bs:List (Str×aJ)}:∀{m:Str->Option aJ},(bs.map (·.1)).Nodup->(x,v)∈bs->kd x=some .local->bindL kd bs m x=some v:=by
 induction bs with
 | nil=>intro m _ h;cases h
 | cons p r ih=>
  intro m nd h hk
  have nd:=b7.mp nd
  unfold bindL
  refine nI h (λe0=>?_) λh=>?_
  ·subst e0;rw[HT nd.1,if_pos hk];exact if_pos rfl
  ·exact ih nd.2 h hk
theorem HU{kd:Str->Option dB}{x:Str}{bs:List (Str×aJ)}:∀{m:Str->Option aJ},x∉bs.map (·.1)->bindC kd bs m x=m x:=by
 induction bs with
 | nil=>intro m _;rfl
 | cons p r ih=>
  intro m h
  have h:=G0 (ME h) (D2 h)
  unfold bindC
  rw[ih h.2]
  split
  ·rfl
  ·exact if_neg h.1
theorem MP{kd:Str->Option dB}{x:Str}{v:aJ}{bs:List (Str×aJ)}:∀{m:Str->Option aJ},(bs.map (·.1)).Nodup->(x,v)∈bs->kd x≠some .local->bindC kd bs m x=some v:=by
 induction bs with
 | nil=>intro m _ h;cases h
 | cons p r ih=>
  intro m nd h hk
  have nd:=b7.mp nd
  unfold bindC
  refine nI h (λe0=>?_) λh=>?_
  ·subst e0;rw[HU nd.1,if_neg hk];exact if_pos rfl
  ·exact ih nd.2 h hk
theorem AK{x:Str}{c:cI}{ns:fF}:∀{k:Nat} {acc:List (Str×cI)},(x,c)∈gX k ns acc->(x,c)∈acc∨(x,dI)∈ns:=by
 induction ns with
 | nil=>intro _ _ h;exact .inl h
 | cons p r ih=>
  intro k acc h
  obtain⟨n,kd⟩:=p
  unfold gX at h
  split at h
  ·rename_i q
   obtain rfl:=eq_of_beq q
   cases ih h with
   | inl h=>cases h with
    | head=>exact .inr (.head _)
    | tail _ h=>exact .inl h
   | inr h=>exact .inr (.tail _ h)
  ·exact(ih h).imp id (.tail _)
theorem AC{x:Str}{ns:fF}:∀{k:Nat} {acc:List (Str×cI)},((acc.lookup x).isSome=true∨(x,dI)∈ns)->((gX k ns acc).lookup x).isSome=true:=by
 induction ns with
 | nil=>intro _ _ h;exact h.elim id λh=>nomatch h
 | cons p r ih=>
  intro k acc h
  unfold gX
  split
  ·refine ih ?_
   rw[dA]
   cases hb:x==p.1 with
   | true=>exact .inl rfl
   | false=>
    cases h with
    | inl h=>exact .inl h
    | inr h=>
     refine nI h (λe0=>?_) λh=>?_
     ·subst e0;rw[beq_self_eq_true] at hb;cases hb
     ·exact .inr h
  ·rename_i q
   refine ih ?_
   cases h with
   | inl h=>exact .inl h
   | inr h=>
    refine nI h (λe0=>?_) λh=>?_
    ·subst e0;exact(q rfl).elim
    ·exact .inr h
noncomputable def ownOf(ns:fF)(cs:List (Str×cI)):List cI:=ns.filterMap λp=>if p.2==.cell then cs.lookup p.1 else none
theorem mem_ownOf{ns:fF}{cs:List (Str×cI)}{c:cI}(h:c∈ownOf ns cs):∃x,(x,dI)∈ns∧cs.lookup x=some c:=by
 obtain⟨⟨x,k⟩,hm,he⟩:=pA.mp h
 dsimp only at he
 split at he
 ·rename_i q;obtain rfl:=eq_of_beq q;exact⟨x,hm,he⟩
 ·exact bK he
theorem qN{ns:fF}{cs:List (Str×cI)}{x:Str}{c:cI}(h:(x,dI)∈ns)(e:cs.lookup x=some c):c∈ownOf ns cs:=
 pA.mpr ⟨(x,.cell),h,(if_pos rfl).trans e⟩
theorem vO{cs:List (Str×cI)}(h:(cs.map (·.2)).Nodup){x y:Str}{c:cI}(a:cs.lookup x=some c)(b:cs.lookup y=some c):x=y:=
 name_of_addr (gT.mp h) (mem_of_lookup a) (mem_of_lookup b)
theorem vP{ns:fF}{cs:List (Str×cI)}(h:(ns.map (·.1)).Nodup)(hc:(cs.map (·.2)).Nodup):(ownOf ns cs).Nodup:=by
 refine zT _ (λa a' tN b hb b' hb' e=>?_) (gT.mp h)
 subst e
 split at hb
 ·split at hb'
  ·exact tN (vO hc hb hb')
  ·exact bK hb'
 ·exact bK hb
theorem OY{h:c9}{l:List cI}{x:cI}{o:Obj}(e:(eJ h l).get? x=some o):x∉l:=λq=>bK ((gJ l q).symm.trans e)
theorem oM{g h:c9}{l:List cI}(k:Ke g h)(f:∀x∈l,g.get? x=none):Ke g (eJ h l):=λb o e=>dL l (k b o e) λq=>bK ((f b q).symm.trans e)
theorem some_or{h:c9}{x:cI}:h.get? x=none∨∃o,h.get? x=some o:=by
 cases h.get? x with
 | none=>exact .inl rfl
 | some o=>exact .inr ⟨o,rfl⟩
section
variable {C C':Ctx} {A A':cF} {g:c9} {ρ ρ':Roo} {st fR:aK} {s s':aM} {kk:Stk}
noncomputable def baseOf(s:aM)(kk:Stk)(ρ:Roo):c9:=eJ s.heap (kk.map (·.1.locals)++ρ)
theorem At.nk(a:At C A g ρ st s)(hs:(kk.map (·.1.locals)).Sublist C.X):(kk.map (·.1.locals)++ρ).Nodup:=by
 have nd:=bC.mp a.5.3
 exact bC.mpr ⟨nd.1.sublist hs,nd.2.1,λx hx y hy=>nd.2.2 x (hs.subset hx) y hy⟩
theorem At.kb(a:At C A g ρ st s)(hs:(kk.map (·.1.locals)).Sublist C.X):Ke g (baseOf s kk ρ):=
 oM a.5.1 λx hx=>(aT.mp hx).elim (λq=>a.5.2 x (bJ _ (hs.subset q))) λq=>a.5.2 x (aR _ q)
theorem At.back(a:At C A g ρ st s)(hs:(kk.map (·.1.locals)).Sublist C.X)(hk:∀p∈kk,OU p.1 p.2 s.heap)(a':At C' A' (baseOf s kk ρ) ρ' fR s')(hkk:C'.k=kk)(hD:C'.D=C.D)(L:Le ρ s.heap ρ' s'.heap):At C A g ρ' ⟨st.m,fR.H⟩ s':=by
 have nd:=bC.mp a.5.3
 have nd':=bC.mp a'.5.3
 have keep:∀b o,b∉kk.map (·.1.locals)++ρ->s.heap.get? b=some o->s'.heap.get? b=some o:=λb o n e=>a'.5.1 b o (dL _ e n)
 have kg:Ke g s'.heap:=λb o e=>a'.5.1 b o (a.kb hs b o e)
 have nr:∀x∈C.X,x∉kk.map (·.1.locals)->x∉kk.map (·.1.locals)++ρ:=λx hx n q=>(aT.mp q).elim n λq=>nd.2.2 x hx x q rfl
 have sl:∀x∈C.X,Sl s.heap s'.heap x:=λx hx o e=>by
  by_cases q:x∈kk.map (·.1.locals)
  ·refine bS (eX.mp q) λp hp dE=>?_;subst dE
   refine cD ((hk p hp).2.2.2) λsl0 e0=>?_
   obtain rfl:=aD (e0.symm.trans e)
   exact(a'.6.4 p (hkk.symm▸hp)).2.2.2
  ·exact⟨o.slots,keep x o (nr x hx q) e⟩
 refine⟨a.1,a.2,a.3,a.4,⟨kg,λx hx=>?_, ?_,a'.5.4,hD▸a'.5.5,a'.5.6,hD▸a'.5.7,hD▸a'.5.8⟩,a.6.mono a.5.1 sl kg L⟩
 ·cases aT.mp hx with
  | inl q=>exact a.5.2 x (bJ _ q)
  | inr q=>exact some_or.elim id λ⟨o,e⟩=>bK ((a'.5.2 x (aR _ q)).symm.trans (a.kb hs _ _ e))
 ·refine bC.mpr ⟨nd.1,nd'.2.1,λx hx y hy e=>?_⟩
  subst e
  by_cases q:x∈kk.map (·.1.locals)
  ·exact nd'.2.2 x (.tail _ (aR _ (hkk.symm▸q))) x hy rfl
  ·refine cD (a.6.oB x hx) λo e=>?_
   exact bK ((a'.5.2 x (aR _ hy)).symm.trans (dL _ e (nr x hx q)))
end
inductive CN(fd:cN)(fa:cI)(bs:List (Str×aJ))(s:aM)(h₂:c9):Prop where
 | mk (kp:Ke s.heap h₂) (ns:h₂.Ns s.heap.objs.size (bindL (fK fd s.heap.objs.size fa).kindOf bs λY=>none)) (cell:∀x c,(fK fd s.heap.objs.size fa).cells.lookup x=some c->h₂.IsCell c (bindC (fK fd s.heap.objs.size fa).kindOf bs (λY=>none) x)) (above:∀x c,(x,c)∈(fK fd s.heap.objs.size fa).cells->s.heap.objs.size < c) (nd:((fK fd s.heap.objs.size fa).cells.map (·.2)).Nodup)
noncomputable abbrev qO(D:WD)(n:Nat)(fd:cN)(names:fF)(L fa:cI)(kk:Stk)(hd:Option aJ)(fs:List Env):Ctx:=⟨D,n,fK fd L fa,ownOf names (fK fd L fa).cells,kk,names,hd,fK fd L fa::fs,[]⟩
section
variable {D:WD} {A':cF} {g:c9} {ρ:Roo} {H:List Pc} {s:aM} {kk:Stk}
theorem Own.live{X:List cI}(a:Own D g X ρ H s){x:cI}(h:x∈ρ):∃o,s.heap.get? x=some o:=
 (cV.mp h).elim λi e=>(Pc.live (a.5 i _ _ (aY (a.4▸(aF.mp e).1)) e)).elim λo z=>⟨o,z.1⟩
theorem enter(a:Own D g (kk.map (·.1.locals)) ρ H s)(pf:PF D g)(hk:∀p∈kk,OU p.1 p.2 s.heap){fd:cN}{names:fF}{body:List v8}{fa:cI}{bs:List (Str×aJ)}{as:List aA}{m0:Loc}{h₂:c9}{tk:Nat}(F:Fn D fa fd names body)
  (EM:BR names ρ s.heap as bs) (hm:Init D names as m0) (N:CN fd fa bs s h₂) {n:Nat} {fs:List Env} {hd:Option aJ} (hfr:A'.frames=some (fK fd s.heap.objs.size fa::fs)) (hr:aAG (qO D n fd names s.heap.objs.size fa kk hd fs) A'):
  At (qO D n fd names s.heap.objs.size fa kk hd fs) A' g ρ ⟨m0,H⟩ { s with heap:=h₂,toks:=tk }:=by
 have above:∀c∈ownOf names (fK fd s.heap.objs.size fa).cells,s.heap.objs.size < c:=λc hc=>(mem_ownOf hc).elim λx z=>N.4 x c (mem_of_lookup z.2)
 have big:∀x,s.heap.objs.size≤x->g.get? x=none:=λx hx=>some_or.elim id λz=>z.elim λo e=>absurd (c6 (a.1 _ _ e)) (qG.mpr hx)
 have live:∀x∈kk.map (·.1.locals)++ρ,x < s.heap.objs.size:=λx hx=>by
  cases aT.mp hx with
  | inl q=>refine bS (eX.mp q) λp hp dE=>?_;subst dE;exact(hk p hp).2.2.2.elim λsl e=>c6 e
  | inr q=>exact(a.live q).elim λo e=>c6 e
 have kd:∀x,(fK fd s.heap.objs.size fa).kindOf x=names.lookup x:=λY=>F.7▸rfl
 have ndb:(bs.map (·.1)).Nodup:=EM.1▸F.8.sublist ((j8 _ _).map _)
 have fok:HQ (qO D n fd names s.heap.objs.size fa kk hd fs):=by
  refine⟨F.12,F.7,F.8,F.5,F.6,N.5,λx hx=>?_,λi x c hx Y hc=>qN (aN hx) hc⟩
  cases hx with
  | inl hx=>exact AC (.inr (F.7.symm▸hx))
  | inr hx=>exact Bool.noConfusion (bN.mp F.9 _ hx:false=true)
 have got:∀{i:Nat} {x:Str} {k:dB} {b:aA},names[i]? =some (x,k)->as[i]? =some b->∃v,(x,v)∈bs∧V ρ s.heap b v:=λ{i x k b} e1 e2=>by
  refine bS (EM.2.1.get e2) λv e3 hv=>?_
  rw[bX] at e3
  cases e4:bs[i]? with
  | none=>rw[e4] at e3;exact bK e3
  | some p=>
   rw[e4] at e3
   obtain rfl:=aD e3
   have e5:=congrArg (·[i]?) EM.1
   rw[bX,bX,e4,b8 (aF.mp e2).1,e1] at e5
   exact⟨_,(aD e5:p.1=x)▸aN e4,hv⟩
 have L:Le ρ s.heap ρ h₂:=.ke N.1
 refine⟨hfr,hr,pf,fok,⟨λb o e=>N.1 b o (a.1 _ _ e),λx hx=>?_, ?_,a.4,λi p x e y=>Pc.mono L (λo=>N.1 _ _) (a.5 i p x e y),a.6,a.7,a.8⟩,
  ⟨⟨_,N.2,λi x k b e1 e2=>?_⟩,λx c hc=>.inl ?_,λc hc=>(mem_ownOf hc).elim λx z=>⟨_,N.3 x c z.2⟩,λp hp=>(hk p hp).keep (.of λo=>N.1 _ _)⟩⟩
 ·cases hx with
  | head=>exact big _ (aZ _)
  | tail _ hx=>
   cases aT.mp hx with
   | inl hx=>cases aT.mp hx with
    | inl hx=>exact big _ (dY (above x hx))
    | inr hx=>exact a.2 _ (bJ _ hx)
   | inr hx=>exact a.2 _ (aR _ hx)
 ·show(_::(_++_)++ρ).Nodup
  rw[CB,c4]
  refine b7.mpr ⟨λq=>?_,bC.mpr ⟨vP F.8 N.5,a.3,λc hc y hy e=>fN _ (gU (above c hc) (e▸live y hy))⟩⟩
  exact(aT.mp q).elim (λq=>fN _ (above _ q)) λq=>fN _ (live _ q)
 ·cases hm i x k b e1 e2 with
  | inl q=>
   refine bS (got e1 q.2) λv hv hV=>?_
   have hk:=lookup_at F.8 e1
   cases q.1 with
   | inl q=>subst q;exact⟨v,MO ndb hv ((kd x).trans hk),hV.mono L⟩
   | inr q=>
    subst q
    refine cD (d0.mp (fok.7 x (.inl (aN e1)))) λc hc=>?_
    refine⟨c,v,hc, ?_,hV.mono L⟩
    have:=N.3 x c hc
    rw[MP ndb hv (by rw[kd,hk];exactλq=>nomatch q)] at this
    exact this
  | inr q=>obtain⟨rfl,q⟩:=q;exact q
 ·cases AK (mem_of_lookup hc) with
  | inl h=>cases h
  | inr h=>exact qN (F.7▸h) hc
end
theorem tO{h h':c9}(x:h.UpToSlots h'):TK h h':=λa vs t=>by
 obtain⟨o,e,c,n,r⟩:=t
 refine cD (x a o e λws q=>Data.noConfusion (r.symm.trans q)) λsl e'=>?_
 exact⟨_,e',c,n,r⟩
theorem CO{h B:c9}{k:Stk}:(∀p∈k,OU p.1 p.2 h)->(∀p∈k,B.get? p.1.locals=none)->h.FunFrames B (k.map (·.1)):=by
 induction k with
 | nil=>intro _ _;trivial
 | cons p r ih=>
  intro x y
  obtain⟨a,b,⟨es,n,c⟩,sl,g⟩:=x p (.head _)
  exact⟨a,⟨_,_,b,y p (.head _),g,λvs q=>Data.noConfusion (c.symm.trans q)⟩,ih (λq hq=>x q (.tail _ hq)) λq hq=>y q (.tail _ hq)⟩
inductive Face(C:Ctx):Prop where
 | mk (own:C.env.frame=some C.env.locals) (fs:C.fs=C.env::C.k.map (·.1))
section
variable {C:Ctx} {A:cF} {g B:c9} {ρ:Roo} {st:aK} {s:aM} {h':c9}
theorem At.slots(a:At C A g ρ st s)(V:Cov B g C ρ)(b1:Ke B s.heap)(b2:Ke B h')(u:s.heap.UpToSlots h'):At C A g ρ st { s with heap:=h' }:=by
 have fR:∀x∈C.own++ρ,∀o,s.heap.get? x=some o->h'.get? x=some o:=λx hx o e=>(V.2 x hx).elim λo' q=>by cases(b1 _ _ q).symm.trans e;exact b2 _ _ q
 have kg:Ke g h':=λb o e=>b2 _ _ (V.1 _ _ e)
 have L:Le ρ s.heap ρ h':=.of (tO u)
 have dict:∀x o,s.heap.get? x=some o->(∃es n,o.data= .dict es n)->Sl s.heap h' x:=λx o e d o' e'=>by
  obtain rfl:=aD (e.symm.trans e')
  exact d.elim λes d=>d.elim λn d=>u _ _ e λws q=>Data.noConfusion (d.symm.trans q)
 refine⟨a.1,a.2,a.3,a.4,⟨kg,a.5.2,a.5.3,a.5.4,λi p x e y=>Pc.mono L (fR x (aR _ (aN y))) (a.5.5 i p x e y),a.5.6,a.5.7,a.5.8⟩,a.6.mono a.5.1 (λx hx=>?_) kg L⟩
 cases hx with
 | head=>refine bS a.6.1 λM sJ _=>CG sJ λo es ep ho hd _=>?_;exact dict _ o ho ⟨es,_,hd⟩
 | tail _ hx=>
  cases aT.mp hx with
  | inl q=>exact .of (fR x (bJ _ q))
  | inr q=>refine bS (eX.mp q) λp hp dE=>?_;subst dE;obtain⟨_,_,d,sl,e⟩:=a.6.4 p hp;exact dict _ _ e d
theorem At.HV(a:At C A g ρ st s):∃o,s.heap.get? C.env.locals=some o∧∃es n,o.data= .dict es n:=by
 refine bS a.6.1 λM sJ _=>CG sJ λo es ep ho hd _=>?_
 exact⟨o,ho,es,_,hd⟩
theorem At.OU(a:At C A g ρ st s)(F:Face C){o:Obj}(ho:s.heap.get? C.env.locals=some o):OU C.env o s.heap:=
 ⟨by rw[a.4.1];decide,F.1,a.HV.elim λo' z=>aD (z.1.symm.trans ho)▸z.2,o.slots,ho⟩
theorem At.all(a:At C A g ρ st s)(F:Face C):∃o,∀p∈(C.env,o)::C.k,Internal.OU p.1 p.2 s.heap:=a.HV.elim λo z=>⟨o,λp hp=>by
 refine nI hp (λe0=>?_) λhp=>?_
 ·subst e0;exact a.OU F z.1
 ·exact a.6.4 p hp⟩
theorem Ctx.sub:(C.env.locals::C.k.map (·.1.locals)).Sublist C.X:=.cons_cons _ (List.sublist_append_right _ _)
theorem At.cov(a:At C A g ρ st s):Cov (eJ s.heap (C.env.locals::C.k.map (·.1.locals))) g C ρ:=by
 have nd:=bC.mp a.5.3
 have sK:=b7.mp nd.1
 refine⟨oM a.5.1 λx hx=>a.5.2 x (bJ _ (Ctx.sub.subset hx)),λx hx=>?_⟩
 have live:(∃o,s.heap.get? x=some o)∧x∉C.env.locals::C.k.map (·.1.locals):=by
  cases aT.mp hx with
  | inl q=>
   refine⟨a.6.oB x (Ctx.Xo q),λz=>?_⟩
   refine nI z (λe0=>?_) λz=>?_
   ·subst e0;exact sK.1 (bJ _ q)
   ·exact(bC.mp sK.2).2.2 x q x z rfl
  | inr q=>
   refine cD (cV.mp q) λi e=>?_
   refine⟨(Pc.live (a.5.5 i _ _ (aY (a.5.4▸(aF.mp e).1)) e)).elim λo z=>⟨o,z.1⟩,λz=>nd.2.2 x (Ctx.sub.subset z) x q rfl⟩
 exact live.1.elim λo e=>⟨o,dL _ e live.2⟩
theorem At.aKA(a:At C A g ρ st s)(F:Face C):s.heap.FunFrames (eJ s.heap (C.env.locals::C.k.map (·.1.locals))) C.fs:=by
 refine cD (a.all F) λo h=>?_
 exact F.2▸CO (k:=(C.env,o)::C.k) h λp hp=>gJ _ (by
  refine nI hp (λe0=>?_) λhp=>?_
  ·subst e0;exact .head _
  ·exact .tail _ (d9 (f:=λp:Env×Obj=>p.1.locals) hp))
theorem Exc.leave{f:Bool}{cls:String}{msg:aA}{e:cI}(F:Face C)(x:Exc C A g ρ cls msg e st s f):
  bZ (c0 C.D.prog C.D.w) A (leaving C.env (.ref e)) (λO s'=>Le ρ s.heap ρ s'.heap∧Fly C A g ρ (C.k.map (·.1)) cls msg e st s') (λO O=>False) s:=by
 cases f with
 | true=>
  refine dW x.1 λh w a hm hv=>?_
  refine wpAny_leaves_madeW (F.2▸a.1) F.1 (λb o e=>kQ _ e) (F.2▸a.aKA F) (Heap.MadeExc.of hm) λh' t x1 x2 x3 x4=>?_
  have L:Le ρ s.heap ρ h':=.of (tO x4)
  exact⟨L,(a.junk (h':=s.heap) (tk:=s.toks) hm.keeps).slots a.cov (λb o e=>hm.keeps _ _ (kQ _ e)) x1.1 x4,_,t,w,a.cov,x1,x2,(hv.mono (.ke hm.keeps)).mono L,x3⟩
 | false=>
  refine EE x.2 λB t w V x1 x2 x3 x4=>?_
  rw[F.2] at x1
  refine wpAny_leaves_onW (F.2▸x.1.1) F.1 x1 λh' y1 y2=>?_
  have L:Le ρ s.heap ρ h':=.of (tO y2)
  exact⟨L,x.1.slots V x1.1 y1.1 y2,B,t,w,V,y1,x2.of_slots y2,x3.mono L,x4⟩
end
section
variable {C:Ctx} {A:cF} {g:c9} {ρ ρ':Roo} {st:aK} {s s':aM} {H':List Pc}
theorem At.wd0(a:At C A g ρ st s):Wd C.D C.n A (eJ s.heap ρ) ρ st.H s:=
 ⟨a.2.1,a.2.2,⟨_,a.1⟩,a.3.keeps (oM a.5.1 λx hx=>a.5.2 x (aR _ hx)),
  λO O e=>kQ _ e,λO hx=>gJ _ hx,(bC.mp a.5.3).2.1,a.5.4,a.5.5,a.5.6,a.5.7,a.5.8⟩
theorem At.of0(a:At C A g ρ st s)(L:Le ρ s.heap ρ' s'.heap)(o:Own C.D (eJ s.heap ρ) [] ρ' H' s'):At C A g ρ' ⟨st.m,H'⟩ s':=by
 have k0:Ke g (eJ s.heap ρ):=oM a.5.1 λx hx=>a.5.2 x (aR _ hx)
 have nX:∀x∈C.X,x∉ρ:=λx hx q=>a.5.nX hx q rfl
 refine⟨a.1,a.2,a.3,a.4,⟨λb o' e=>o.1 _ _ (k0 _ _ e),λx hx=>?_, ?_,o.4,o.5,o.6,o.7,o.8⟩,a.6.mono a.5.1 (λx hx=>.of λo' e=>o.1 _ _ (dL _ e (nX x hx))) (λb o' e=>o.1 _ _ (k0 _ _ e)) L⟩
 ·exact(aT.mp hx).elim (λq=>a.5.2 x (bJ _ q)) λq=>some_or.elim id λz=>z.elim λo' e=>bK ((o.2 x q).symm.trans (k0 _ _ e))
 ·exact bC.mpr ⟨(bC.mp a.5.3).1,o.3,λx hx y hy e=>by
   refine cD (a.6.oB x hx) λo' e'=>?_
   exact bK ((o.2 y hy).symm.trans (dL _ (e▸e') (e▸nX x hx)))⟩
end
section
variable {D:WD} {n:Nat} {A:cF} {g:c9} {ρ:Roo} {H:List Pc} {s:aM}
theorem Wd.in1(a:Wd D (n+1) A g ρ H s):Wd D n A.in1 g ρ H s:=⟨mX a.1,bA (up (by decide:1≤10) _ _) a.2,a.3,a.4,a.5⟩
variable {Q:aA->aK->Prop} {fa:cI} {fd:cN} {names:fF} {body:List v8} {as ks:List aA} {kn:List Str}
theorem Fn.kpr{M:rL}{h:c9}(F:Fn D fa fd names body)(K:D.K.In h):OD M h (.ref fa):=by
 refine ED F.1 λoc od OE ho=>?_
 exact⟨.frame,by decide,by decide,(Looks.ld (part:=none) (K _ _ ho)).andThen .now⟩
noncomputable def flv:Flow->aJ
 | .ret v=>v
 | _=>.none
theorem EN{ρ:Roo}{h:c9}{b:bU}{x:Flow}(r:F ρ h b x):V ρ h (kD b) (flv x):=by
 cases b with
 | next=>obtain rfl:=(r:x=_);rfl
 | brk=>obtain rfl:=(r:x=_);rfl
 | cont=>obtain rfl:=(r:x=_);rfl
 | ret b=>refine bS r λv dF hv=>?_;subst dF;exact hv
theorem xU{args:Args}{R:Result->aM->Prop}(F:Fn D fa fd names body)(w:Wd D (n+1) A g ρ H s){Q':List aA->List Pc->Prop}
  (hb:bZ (c0 D.prog D.w) A.in1 (nY fd args) (pZ D g ρ s.heap (BR names) Q') rD s)
  (h:∀{oC H1 ρ1 s1 bs h2 tk},Le ρ s.heap ρ1 s1.heap->BR names ρ1 s1.heap oC bs->Own D g [] ρ1 H1 s1->Q' oC H1->CN fd fa bs s1 h2->s.toks≤tk->bZ (c0 D.prog D.w) (A.deeper (fK fd s1.heap.objs.size fa)) (execs body (fK fd s1.heap.objs.size fa)) (λf s'=>R (.ok (.ret (flv f))) s')
   (λe s'=>bZ (c0 D.prog D.w) (A.deeper (fK fd s1.heap.objs.size fa)) (leaving (fK fd s1.heap.objs.size fa) e) (λO OZ=>R (.error e) OZ) (λe' OZ=>R (.error e') OZ) s') { s1 with heap:=h2,toks:=tk }):
  pR (c0 D.prog D.w) A (.call (.ref fa) args) R s:=by
 refine ED F.1 λoc od OE ho=>?_
 have hd:A.depth < recursionLimit:=gU (bA (aW _ _) w.1) (by decide)
 refine codeAny_call_function hd (w.5.1 _ _ (w.4.1 _ _ ho)) rfl F.10 F.11 F.2 (codeRec_of (w.4.1.keeps w.5.1) F.3) ?_
 refine pW (aZ _) (bM hb (λbs s1 p kk=>?_) λO O x _=>x.elim)
 obtain @⟨oC,H1,ρ1,L1,EM,o1,q⟩:=p
 rw[F.4,F.5,F.6]
 have kind:∀x∈bs,(x.1,NameKind.local)∈names∨(x.1,dI)∈names:=λx hx=>by
  have e:x.1∈(names.take oC.length).map (·.1):=EM.1▸d9 (f:=(·.1)) hx
  refine bS (eX.mp e) λp hp e=>?_
  obtain⟨px,pk⟩:=p
  subst e
  have hp':=uV hp
  exact(EM.2.2 _ hp).imp (λq=>(show pk= .local from q)▸hp') λq=>(show pk= .cell from q)▸hp'
 refine pW kk (wpAny_newFunctionEnv_cells F.12 (λx hx=>?_) λenv he s₂ Y kk=>?_)
 ·exact F.7▸(kind x hx).imp (gG F.8) λq=>⟨gG F.8 q,AC (.inr q)⟩
 obtain rfl:env=fK fd s1.heap.objs.size fa:=by rw[he];unfold fK;rw[F.5,F.6]
 refine sI Y.done λh₂ tk dE YL=>?_;subst dE
 exact⟨(w.4.4.keeps o1.1).keeps YL,codeAny_func (h L1 EM o1 q ⟨YL,Y.toInCall.ns,Y.cell,Y.above,gT.mpr Y.apart⟩ kk)⟩
theorem qP{args:Args}{R:Result->aM->Prop}(F:Fn D fa fd names body)(w:Wd D (n+1) A g ρ H s){Q':List aA->List Pc->Prop}
  (hb:bZ (c0 D.prog D.w) A.in1 (nY fd args) (pZ D g ρ s.heap (BR names) Q') rD s)
  (h:∀{oC H1 ρ1 s1 bs h2 tk},Le ρ s.heap ρ1 s1.heap->BR names ρ1 s1.heap oC bs->Own D g [] ρ1 H1 s1->Q' oC H1->CN fd fa bs s1 h2->bZ (c0 D.prog D.w) (A.deeper (fK fd s1.heap.objs.size fa)) (execs body (fK fd s1.heap.objs.size fa)) (λf s'=>R (.ok (.ret (flv f))) s')
   (λe s'=>bZ (c0 D.prog D.w) (A.deeper (fK fd s1.heap.objs.size fa)) (leaving (fK fd s1.heap.objs.size fa) e) (λO OZ=>R (.error e) OZ) (λe' OZ=>R (.error e') OZ) s') { s1 with heap:=h2,toks:=tk }):
  pR (c0 D.prog D.w) A (.call (.ref fa) args) R s:=xU F w hb λa b c d e _=>h a b c d e
theorem MQ{args:Args}(F:Fn D fa fd names body)(w:Wd D (n+1) A g ρ H s){Q':List aA->List Pc->Prop}{Z:aJ->aM->Prop}{E:aJ->aM->Prop}
  (hb:bZ (c0 D.prog D.w) A.in1 (nY fd args) (pZ D g ρ s.heap (BR names) Q') rD s)
  (h:∀{oC H1 ρ1 s1 bs h2 tk},Le ρ s.heap ρ1 s1.heap->BR names ρ1 s1.heap oC bs->Own D g [] ρ1 H1 s1->Q' oC H1->CN fd fa bs s1 h2->bZ (c0 D.prog D.w) (A.deeper (fK fd s1.heap.objs.size fa)) (execs body (fK fd s1.heap.objs.size fa)) (λf s'=>Z (flv f) s')
   (λe s'=>bZ (c0 D.prog D.w) (A.deeper (fK fd s1.heap.objs.size fa)) (leaving (fK fd s1.heap.objs.size fa) e) (λO OZ=>E e OZ) (λe' OZ=>E e' OZ) s') { s1 with heap:=h2,toks:=tk }):
  bZ (c0 D.prog D.w) A (call (.ref fa) args.pos args.kw) Z E s:=
 tD (qP F w hb h)
theorem room_in{kk:Stk}{L:cI}{fs:List Env}(w:Wd D (n+1) A g ρ H s):aAG (qO D n fd names L fa kk A.handled fs) (A.deeper (fK fd L fa)):=⟨bA (up (aZ 1) _ _) w.1,bA (up (by decide:3≤10) _ _) w.2,rfl⟩
end
def u7(D:WD)(n:Nat)(hd:Option aJ->Prop)(fa:aA)(as:List aA)(kn:List Str)(ks:List aA)(H:List Pc)(Q:aA->List Pc->Prop):Prop:=
 ∀{A:cF} {g:c9} {ρ:Roo} {s:aM} {fv:aJ} {vs ws:List aJ},Wd D n A g ρ H s->hd A.handled->V ρ s.heap fa fv->Vs ρ s.heap as vs->Vs ρ s.heap ks ws->OD (c0 D.prog D.w) s.heap fv∧bZ (c0 D.prog D.w) A (call fv vs (kn.zip ws)) (pZ D g ρ s.heap V Q) rD s
def CR(Z:aJ->aM->Prop)(r:Result)(s:aM):Prop:=match r with
 | .ok (.ret v)=>Z v s
 | _=>False
theorem CR.mono{Z Z':aJ->aM->Prop}(h:∀v s,Z v s->Z' v s){r:Result}{s:aM}(c:CR Z r s):CR Z' r s:=by
 cases r with
 | error e=>exact c
 | ok f=>cases f with
  | ret v=>exact h _ _ c
  | _=>exact c
def fS(D:WD)(n:Nat)(hd:Option aJ->Prop)(fa:cI)(as:List aA)(kn:List Str)(ks:List aA)(H:List Pc)(Q:aA->List Pc->Prop):Prop:=
 ∀{A:cF} {g:c9} {ρ:Roo} {s:aM} {vs ws:List aJ},Wd D n A g ρ H s->hd A.handled->Vs ρ s.heap as vs->Vs ρ s.heap ks ws->pR (c0 D.prog D.w) A (.call (.ref fa) ⟨vs,kn.zip ws⟩) (CR (pZ D g ρ s.heap V Q)) s
section
variable {D:WD} {n:Nat} {H:List Pc} {fa:cI} {fd:cN} {names:fF} {body:List v8} {as ks:List aA} {kn:List Str}
theorem fS.mono{hd:Option aJ->Prop}{Q Q':aA->List Pc->Prop}(c:fS D n hd fa as kn ks H Q)(h:∀r H',Q r H'->Q' r H'):fS D n hd fa as kn ks H Q':=λw hh hv hw=>
 iV (c w hh hv hw) λr s'=>CR.mono λv s' p=>by cases p with | mk le r o q=>exact .mk le r o (h _ _ q)
theorem u7.of{hd:Option aJ->Prop}{Q:aA->List Pc->Prop}(F:Fn D fa fd names body)(c:fS D n hd fa as kn ks H Q):u7 D n hd (.ref fa) as kn ks H Q:=λ{A g ρ s _ _ _} w hh hf hv hw=>by
 obtain rfl:=(hf:_=_)
 refine⟨F.kpr (w.4.1.keeps w.5.1),tD (iV (c w hh hv hw) λr s' q=>?_)⟩
 cases r with
 | error e=>exact q.elim
 | ok f=>cases f with
  | ret v=>exact q
  | _=>exact q.elim
theorem fS.fn{hd:Option aJ->Prop}{Q:aA->List Pc->Prop}(F:Fn D fa fd names body)
  (hb:Bind D n names fd as kn ks H (λoC H1=>∃m0,Init D names oC m0∧∀C',Inn D n names fd C'->hd C'.hd->j5 C' body ⟨m0,H1⟩ (λfl bW=>Q (kD fl) bW.H) eE)):fS D (n+1) hd fa as kn ks H Q:=λ{A g ρ s _ _} w hh hv hw=>by
 refine qP F w (hb w.in1 hv hw) λ{oC H1 ρ1 s1 bs h2 tk} L1 EM o1 q N=>?_
 refine bS q λm0 hm hB=>?_
 refine cD w.3 λfs UA=>?_
 refine bM (hB _ ⟨rfl,rfl,rfl,rfl,rfl,rfl⟩ hh (enter (kk:=[]) o1 w.4 (λO q=>nomatch q) F EM hm N (tk:=tk) (iE UA) (room_in w))) (λx s3 p=>?_) λv s3 p=>p.no
 obtain⟨le,r,a3,q⟩:=p
 exact .mk (L1.trans ((Le.ke N.1).trans le)) (EN r) ⟨a3.5.1,λx hx=>a3.5.2 x (aR _ hx),(bC.mp a3.5.3).2.1,a3.5.4,a3.5.5,a3.5.6,a3.5.7,a3.5.8⟩ q
inductive CP(C':Ctx)(bW:aK)(i:Nat)(x:Str)(b:aA)(j:Nat)(fd:cN)(c:Nat)(d:Option Nat):Prop where
 | mk (ns:C'.ns[i]? =some (x,.cell)) (m:bW.m[i]? =some (some b)) (f:bW.H[j]? =some (.tG fd c d)) (wJ:fd.closure= [(x,(C'.env.cells.lookup x).getD 0)])
noncomputable def EO(H:List Pc)(j:Nat)(fd:cN)(x:Str)(c:Nat)(d:Option Nat)(b:aA):List Pc:=H.set j (.HP fd x H.length c d)++ [.rC b]
theorem CP.own{C':Ctx}{A':cF}{g:c9}{ρ:Roo}{bW:aK}{s:aM}{i j c:Nat}{x:Str}{b:aA}{fd:cN}{d:Option Nat}(BF:C'.cp= [])(L:CP C' bW i x b j fd c d)(a:At C' A' g ρ bW s):∃y,Own C'.D g [] (ρ++ [y]) (EO bW.H j fd x c d b) s:=by
 refine bS a.6.1 λM _ hq=>?_
 refine dW (hq i x .cell b L.1 L.2) λy v hy EP hv=>?_
 have hyo:=a.4.8 i x y L.1 (by exact BF▸λq=>nomatch q) hy
 have Lr:Le ρ s.heap (ρ++ [y]) s.heap:=.app λO O t=>t
 refine⟨y,a.5.1,λz hz=>?_,(show(ρ++ [y]).Nodup from bC.mpr ⟨(bC.mp a.5.3).2.1,b7.mpr ⟨λq=>(nomatch q),iC⟩,λz hz w hw e=>?_⟩), ?_,λk p z e hz=>?_,a.5.6,a.5.7,a.5.8⟩
 ·cases aT.mp (show z∈ρ++ [y] from hz) with
  | inl q=>exact a.5.2 z (aR _ q)
  | inr q=>obtain rfl:=aU.mp q;exact a.5.2 _ (bJ _ (Ctx.Xo hyo))
 ·obtain rfl:=aU.mp hw
  exact a.5.nX (Ctx.Xo hyo) hz e.symm
 ·unfold EO;rw[aE,aE,gY,a.5.4];rfl
 ·unfold EO at e
  by_cases lt:k < bW.H.length
  ·rw[bE (by rw[gY];exact lt)] at e
   rw[bE (a.5.4▸lt)] at hz
   by_cases kj:j=k
   ·subst kj
    rw[sF lt] at e
    obtain rfl:=aD e
    obtain⟨o,ho,ac,h1,sl,rfl,h3⟩:=(a.5.5 j _ z L.3 hz).1
    refine .mk ho (λO O O q=>Data.noConfusion q) ⟨y,by rw[←a.5.4,bY (aZ _),k9];rfl,ac,Lr.1 _ _ h1,sl, ?_,(λi q=>bR (h3 i q) (by exact aE▸aW _ _):∀i,d=some i->i < (ρ++ [y]).length)⟩ trivial
    have e1:d.bind (ρ[·]?)=d.bind ((ρ++ [y])[·]?):=by
     cases d with
     | none=>rfl
     | some i=>exact(bE (h3 i rfl)).symm
    rw[e1,←(L.4.trans (by rw[hy];rfl):fd.closure= [(x,y)])]
   ·rw[kE kj] at e
    exact Pc.mono Lr (λO h=>h) (a.5.5 k p z e hz)
  ·have lt:=fV lt
   rw[bY (by rw[gY];exact lt),gY] at e
   rw[bY (a.5.4▸lt),a.5.4] at hz
   cases hk:k - bW.H.length with
   | succ n=>rw[hk] at e;exact bK e
   | zero=>
    rw[hk] at e hz
    obtain rfl:=aD e;obtain rfl:=aD hz
    refine bS EP λo ho hd=>?_
    exact .mk ho (.cell hd) ⟨v,hv.mono Lr,hd⟩ trivial
theorem fS.fnX{hd:Option aJ->Prop}{Q:aA->List Pc->Prop}(F:Fn D fa fd names body)
  (hb:Bind D n names fd as kn ks H (λoC H1=>∃m0,Init D names oC m0∧∀C',Inn D n names fd C'->hd C'.hd->j5 C' body ⟨m0,H1⟩ (λfl bW=>∃i x b j fd' c d,CP C' bW i x b j fd' c d∧Q (kD fl) (EO bW.H j fd' x c d b)) eE)):fS D (n+1) hd fa as kn ks H Q:=λ{A g ρ s _ _} w hh hv hw=>by
 refine qP F w (hb w.in1 hv hw) λ{oC H1 ρ1 s1 bs h2 tk} L1 EM o1 q N=>?_
 refine bS q λm0 hm hB=>?_
 refine cD w.3 λfs UA=>?_
 refine bM (hB _ ⟨rfl,rfl,rfl,rfl,rfl,rfl⟩ hh (enter (kk:=[]) o1 w.4 (λO q=>nomatch q) F EM hm N (tk:=tk) (iE UA) (room_in w))) (λx s3 p=>?_) λv s3 p=>p.no
 obtain⟨le,r,a3,q⟩:=p
 obtain⟨i,x,b,j,fd',c,d,L,q⟩:=q
 refine cD (L.own rfl a3) λy o=>?_
 exact .mk ((L1.trans ((Le.ke N.1).trans le)).trans (.app λO O t=>t)) ((EN r).mono (.app λO O t=>t)) o q
theorem u7.cal{C:Ctx}{st:aK}{X:XQ}{hd:Option aJ->Prop}{fa:aA}{Q:aA->aK->Prop}(h:u7 C.D C.n hd fa as kn ks st.H (λr H'=>Q r ⟨st.m,H'⟩))(hh:hd C.hd):fM C fa as kn ks st Q X:=λa hf hv hw=>by
 refine d5 (h a.wd0 (a.2.3.symm▸hh) hf hv hw) λk w=>?_
 refine⟨k,bM w (λx s' p=>?_) λO O x=>x.elim⟩
 obtain⟨le,r,o,q⟩:=p
 exact .mk le r (a.of0 le o) q
theorem fM.fn{C:Ctx}{st:aK}{X:XQ}{Q:aA->aK->Prop}(F:Fn C.D fa fd names body)(Fc:Face C){n:Nat}(hn:C.n=n+1)
  (hb:Bind C.D n names fd as kn ks st.H (λoC H1=>∃m0,Init C.D names oC m0∧∀C',Inn C.D n names fd C'->C'.hd=C.hd->Face C'->j5 C' body ⟨m0,H1⟩ (λfl bW=>Q (kD fl) ⟨st.m,bW.H⟩) (λO cls msg bW=>X false cls msg ⟨st.m,bW.H⟩))):
  fM C (.ref fa) as kn ks st Q X:=λ{A g ρ s _ _ _} a hf hv hw=>by
 obtain rfl:=(hf:_=_)
 have w:=a.wd0
 rw[hn] at w
 refine⟨F.kpr (a.3.1.keeps a.5.1),MQ F w (hb w.in1 hv hw) λ{oC H1 ρ1 s1 bs h2 tk} L1 EM o1 q N=>?_⟩
 refine bS q λm0 hm hB=>?_
 have a1:=a.of0 L1 o1
 refine cD (a1.all Fc) λo hk=>?_
 have hs:(((C.env,o)::C.k).map (·.1.locals)).Sublist C.X:=Ctx.sub
 have kb:=a1.kb hs
 have L2:Le ρ1 s1.heap ρ1 h2:=.ke N.1
 have Fc':Face (qO C.D n fd names s1.heap.objs.size fa ((C.env,o)::C.k) A.handled C.fs):=⟨rfl,congrArg _ Fc.2⟩
 refine bM (hB (qO C.D n fd names s1.heap.objs.size fa ((C.env,o)::C.k) A.handled C.fs) ⟨rfl,rfl,rfl,rfl,rfl,rfl⟩ a.2.3 Fc' (enter (tk:=tk) (⟨λO O e=>kQ _ e,λO hx=>gJ _ hx,a1.nk hs,o1.4,o1.5,o1.6,o1.7,o1.8⟩:Own C.D (baseOf s1 ((C.env,o)::C.k) ρ1) (((C.env,o)::C.k).map (·.1.locals)) ρ1 H1 s1) (a1.3.keeps kb) hk F EM hm N (iE a.1) (room_in w))) (λx s3 p=>?_) λv s3 p=>?_
 ·obtain⟨le,r,a3,q⟩:=p
  exact .mk (L1.trans (L2.trans le)) (EN r) (a1.back hs hk a3 rfl rfl (L2.trans le)) q
 ·obtain⟨f,e,cls,msg,fR,ρ',le,ex,q⟩:=p
  refine bM (ex.leave Fc') (λO s4 z=>?_) λO O e=>e.elim
  have L5:=L2.trans (le.trans z.1)
  refine EE z.2.2 λB t w V x1 x2 x3 x4=>?_
  refine .mk false e cls msg ⟨st.m,fR.H⟩ ρ' (L1.trans L5) ⟨a1.back hs hk z.2.1 rfl rfl L5,B,t,w,⟨λb o e=>V.1 b o (kb b o e),λx hx=>?_⟩,Fc.2▸x1,x2,x3,x4⟩ q
  cases aT.mp hx with
  | inl q=>
   refine cD (a1.6.oB x (Ctx.Xo q)) λo' e'=>?_
   exact⟨o',V.1 _ _ (dL _ e' λz=>(a1.cov.2 x (bJ _ q)).elim λo2 e2=>(aT.mp z).elim (λz=>OY e2 z) λz=>a1.5.nX (Ctx.Xo q) z rfl)⟩
  | inr q=>exact V.2 x (aR _ q)
end
mutual
noncomputable def aA.map(f:Nat->Nat):aA->aA
 | .aO l=>.aO (f l)
 | .tup xs=>.tup (wL f xs)
 | a=>a
noncomputable def wL(f:Nat->Nat):List aA->List aA
 | []=>[]
 | x::xs=>x.map f::wL f xs
end
mutual
noncomputable def aA.all(P:Nat->Bool):aA->Bool
 | .aO l=>P l
 | .tup xs=>HW P xs
 | _=>true
noncomputable def HW(P:Nat->Bool):List aA->Bool
 | []=>true
 | x::xs=>x.all P && HW P xs
end
inductive J3(P:Nat->Bool)(f:Nat->Nat)(ρ:Roo)(h:c9)(ρ':Roo)(h':c9):Prop where
 | mk (lb:∀(l:Nat) (a:cI),P l=true->ρ[l]? =some a->ρ'[f l]? =some a) (tk:TK h h')
section
variable {P:Nat->Bool} {f:Nat->Nat} {ρ ρ':Roo} {h h':c9}
theorem V.map(L:J3 P f ρ h ρ' h'){a:aA}{v:aJ}:a.all P=true->V ρ h a v->V ρ' h' (a.map f) v:=λp e=>by
 refine aA.rec (motive_1:=λa=>a.all P=true->∀v,V ρ h a v->V ρ' h' (a.map f) v) (motive_2:=λas=>HW P as=true->∀vs,Vs ρ h as vs->Vs ρ' h' (wL f as) vs)
  (λY Y e=>e) (λY Y Y e=>e) (λY Y Y e=>e) (λY Y Y e=>e) (λY Y Y e=>e) (λY p Y e=>e.elim λa z=>⟨a,L.1 _ _ p z.1,z.2⟩) (λY ih p Y e=>?_) (λY Y Y e=>e) (λY Y Y e=>e) (λY Y Y Y Y e=>e) (λY Y e=>e) (λY Y i1 i2 p Y e=>?_) a p v e
 ·refine dW e λa vs e t r=>?_;exact⟨a,vs,e,L.2 _ _ t,ih p vs r⟩
 ·refine dW e λv r e x y=>?_;exact⟨v,r,e,i1 (bP.mp p).1 v x,i2 (bP.mp p).2 r y⟩
theorem Vs.map(L:J3 P f ρ h ρ' h'){as:List aA}:∀{vs:List aJ},HW P as=true->Vs ρ h as vs->Vs ρ' h' (wL f as) vs:=by
 induction as with
 | nil=>intro _ _ e;exact e
 | cons x xs ih=>intro _ p e;refine dW e λv r e x y=>?_;exact⟨v,r,e,x.map L (bP.mp p).1,ih (bP.mp p).2 y⟩
noncomputable def O0(f:Nat->Nat)(l:List (Str×aA)):List (Str×aA):=
 List.rec [] (λp _ ih=>(p.1,p.2.map f)::ih) l
noncomputable def YM(P:Nat->Bool)(l:List (Str×aA)):Bool:=
 List.rec true (λp _ ih=>p.2.all P && ih) l
noncomputable def Pc.map(f:Nat->Nat):Pc->Pc
 | .ns fs=>.ns (O0 f fs)
 | .inst C d=>.inst C (f d)
 | .rC a=>.rC (a.map f)
 | .HP fd x cl c d=>.HP fd x (f cl) (f c) (d.map f)
 | .tG fd c d=>.tG fd (f c) (d.map f)
 | .wI K q cl c=>.wI K q (f cl) (f c)
 | .iG T zs=>.iG T (zs.map λz=>(z.1,f z.2))
 | .m6 g x=>.m6 g (f x)
 | .hC b l=>.hC (f b) l
 | .lit l=>.lit (f l)
 | .AH l=>.AH (f l)
 | .vw l=>.vw (f l)
 | p=>p
noncomputable def Pc.all(P:Nat->Bool):Pc->Bool
 | .ns fs=>YM P fs
 | .inst C d=>P d
 | .rC a=>a.all P
 | .HP fd x cl c d=>P cl && P c && d.all P
 | .tG fd c d=>P c && d.all P
 | .wI K q cl c=>P cl && P c
 | .iG T zs=>zs.all λz=>P z.2
 | .m6 g x=>P x
 | .hC b l=>P b
 | .lit l=>P l
 | .AH l=>P l
 | .vw l=>P l
 | p=>true
theorem EQ{fs:List (Str×aA)}:(O0 f fs).length=fs.length:=by
 induction fs with
 | nil=>rfl
 | cons p r ih=>exact congrArg rK ih
theorem TY.map(L:J3 P f ρ h ρ' h'){fs:List (Str×aA)}(p:YM P fs=true){x:Str}{r:Option aJ}(e:TY ρ h (fs.lookup x) r):TY ρ' h' ((O0 f fs).lookup x) r:=by
 induction fs with
 | nil=>exact e
 | cons q t ih=>
  have p:=bP.mp p
  rw[dA] at e
  show TY ρ' h' (wA x ((q.1,q.2.map f)::O0 f t)) r
  rw[dA]
  cases hb:x==q.1 with
  | true=>rw[hb] at e;refine bS e λv e z=>?_;exact⟨v,e,z.map L p.1⟩
  | false=>rw[hb] at e;exact ih p.2 e
theorem Pc.omap{D:WD}{o:Obj}(L:J3 P f ρ h ρ' h'){p:Pc}(k:p.all P=true)(e:p.obj D ρ h o):(p.map f).obj D ρ' h' o:=by
 have B:Le [] h [] h':=.of L.2
 cases p with
 | lst=>refine sI e λvs n e v=>?_;exact⟨vs,n,e,v.mono B⟩
 | ns fs=>refine bS e λm e q=>?_;exact⟨m,(EQ (f:=f) (fs:=fs)).symm▸e,λx=>(q x).map L k⟩
 | inst=>refine bS e λdx i e=>?_;exact⟨dx,L.1 _ _ k i,e⟩
 | wH=>refine bS e λkvs v e=>?_;exact⟨kvs,v.mono B,e⟩
 | rC=>refine bS e λv z e=>?_;exact⟨v,z.map L k,e⟩
 | HP fd x cl c d=>
  have k:=bP.mp k
  have k1:=bP.mp k.1
  obtain⟨ax,i,ac,j,sl,e,q⟩:=e
  cases d with
  | none=>exact⟨ax,L.1 _ _ k1.1 i,ac,L.1 _ _ k1.2 j,sl,e,λY q=>nomatch q⟩
  | some d=>
   have q:=aY (q d rfl)
   have q':=L.1 _ _ k.2 q
   exact⟨ax,L.1 _ _ k1.1 i,ac,L.1 _ _ k1.2 j,sl,e.trans (congrArg (λz=>(⟨.type "function",z,_,sl⟩:Obj)) (q.trans q'.symm)),λi z=>by obtain rfl:=aD z;exact(aF.mp q').1⟩
 | tG fd c d=>
  have k:=bP.mp k
  obtain⟨ac,j,sl,e,q⟩:=e
  cases d with
  | none=>exact⟨ac,L.1 _ _ k.1 j,sl,e,λY q=>nomatch q⟩
  | some d=>
   have q:=aY (q d rfl)
   have q':=L.1 _ _ k.2 q
   exact⟨ac,L.1 _ _ k.1 j,sl,e.trans (congrArg (λz=>(⟨.type "function",z,_,sl⟩:Obj)) (q.trans q'.symm)),λi z=>by obtain rfl:=aD z;exact(aF.mp q').1⟩
 | wI=>obtain⟨fd,F,ax,i,ac,j,e⟩:=e;have k:=bP.mp k;exact⟨fd,F,ax,L.1 _ _ k.1 i,ac,L.1 _ _ k.2 j,e⟩
 | iG T zs=>
  have g:∀z∈zs,ρ'[f z.2]? =some (ρ.getD z.2 0):=λz m=>L.1 _ _ (bN.mp k z m) (CI (e.2 z m))
  exact⟨(xQ (ρ:=ρ) (ρ':=ρ') (f:=f) (zs:=zs) λz m=>by rw[bO,g z m];rfl).symm▸e.1,λz m=>by refine bS (eX.mp m) λy hy dE=>?_;subst dE;exact(aF.mp (g y hy)).1⟩
 | m6=>refine bS e λx i e=>?_;exact⟨x,L.1 _ _ k i,e⟩
 | hC=>refine bS e λx i e=>?_;exact⟨x,L.1 _ _ k i,e⟩
 | lit=>refine bS e λx i e=>?_;exact⟨x,L.1 _ _ k i,e⟩
 | AH=>refine bS e λx i e=>?_;exact⟨x,L.1 _ _ k i,e⟩
 | OV=>refine dW e λt vs y v e=>?_;exact⟨t,vs,L.2 _ _ y,v.mono B,e⟩
 | vw=>refine bS e λx i e=>?_;exact⟨x,L.1 _ _ k i,e⟩
 | OC=>refine bS e λt y e=>?_;exact⟨t,y.elim λu y=>⟨u,L.2 _ _ y⟩,e⟩
 | gone=>exact e
 | pC=>exact e
 | tL=>exact e
 | oK=>exact e
 | fix=>obtain⟨z,y,vs,n,e,v⟩:=e;exact⟨z,y,vs,n,e,v.mono B⟩
theorem Pc.BI{D:WD}{x:cI}{p:Pc}(L:J3 P f ρ h ρ' h')(k:∀o,h.get? x=some o->h'.get? x=some o)(a:p.all P=true)(e:p.ok D ρ h x):(p.map f).ok D ρ' h' x:=
 e.1.elim λo z=>.mk (k _ z.1) (e.2 _ z.1) (Pc.omap L a z.2) (by cases p with | HP fd x cl c d=>cases d <;> trivial | tG fd c d=>cases d <;> trivial | wH=>exact e.3 | iG=>exact e.3 | _=>trivial)
end
noncomputable def pick(H:List Pc)(f:Nat->Nat)(l:List Nat):List Pc:=
 List.rec [] (λi _ ih=>(H.getD i .gone).map f::ih) l
noncomputable def CQ(H:List Pc)(l:List Nat)(ps:List Pc):List Pc:=
 List.rec (motive:=λ_=>List Pc->List Pc->List Pc) (λH _=>H) (λi _ ih H ps=>List.rec H (λp ps _=>ih (H.set i p) ps) ps) l H ps
noncomputable def fY(ρ:Roo)(l:List Nat):Roo:=
 List.rec [] (λi _ ih=>ρ.getD i 0::ih) l
theorem w6{H:List Pc}{f:Nat->Nat}{σ:List Nat}:∀{i:Nat} {p:Pc},(pick H f σ)[i]? =some p->∃j,σ[i]? =some j∧p=(H.getD j .gone).map f:=by
 induction σ with
 | nil=>intro _ _ e;exact bK e
 | cons j r ih=>
  intro i p e
  cases i with
  | zero=>obtain rfl:=aD e;exact⟨j,rfl,rfl⟩
  | succ i=>exact ih e
theorem kI{ρ:Roo}{σ:List Nat}:∀{i:Nat} {x:cI},(fY ρ σ)[i]? =some x->∃j,σ[i]? =some j∧x=ρ.getD j 0:=by
 induction σ with
 | nil=>intro _ _ e;exact bK e
 | cons j r ih=>
  intro i p e
  cases i with
  | zero=>obtain rfl:=aD e;exact⟨j,rfl,rfl⟩
  | succ i=>exact ih e
theorem qQ{ρ:Roo}{σ:List Nat}:(fY ρ σ).length=σ.length:=by
 induction σ with
 | nil=>rfl
 | cons j r ih=>exact congrArg rK ih
theorem tP{H:List Pc}{f:Nat->Nat}{σ:List Nat}:(pick H f σ).length=σ.length:=by
 induction σ with
 | nil=>rfl
 | cons j r ih=>exact congrArg rK ih
theorem tR{σ:List Nat}:∀{H ps:List Pc},(CQ H σ ps).length=H.length:=by
 induction σ with
 | nil=>intro H ps;cases ps <;> rfl
 | cons j r ih=>
  intro H ps
  cases ps with
  | nil=>rfl
  | cons p ps=>exact ih.trans gY
theorem UB{σ:List Nat}:∀{H ps:List Pc} {j:Nat} {p:Pc},(CQ H σ ps)[j]? =some p->(∃i:Nat,σ[i]? =some j∧ps[i]? =some p)∨(H[j]? =some p∧(j∉σ∨ps.length < σ.length)):=by
 induction σ with
 | nil=>intro H ps j p e;cases ps <;> exact .inr ⟨e,.inl λq=>nomatch q⟩
 | cons k r ih=>
  intro H ps j p e
  cases ps with
  | nil=>exact .inr ⟨e,.inr (j2 _)⟩
  | cons q ps=>
   cases ih (show(CQ (H.set k q) r ps)[j]? =some p from e) with
   | inl z=>refine cD z λi z=>?_;exact .inl ⟨i+1,z⟩
   | inr z=>
    by_cases c:k=j
    ·subst c
     have z1:=z.1
     rw[z9,if_pos rfl] at z1
     split at z1
     ·obtain rfl:=aD z1;exact .inl ⟨0,rfl,rfl⟩
     ·exact bK z1
    ·exact .inr ⟨(kE c).symm.trans z.1,z.2.imp (λn q=>(nW.mp q).elim (λq=>c q.symm) n) Nat.succ_lt_succ⟩
noncomputable def mem(l:Nat)(l0:List Nat):Bool:=
 List.rec false (λx _ ih=>eK l x || ih) l0
noncomputable def idx(l:Nat)(l0:List Nat):Nat:=
 List.rec 0 (λx _ ih=>cond (eK l x) 0 (ih+1)) l0
theorem aE5(l x:Nat)(xs:List Nat):idx l (x::xs)=cond (eK l x) 0 (idx l xs+1):=rfl
noncomputable def O5(l:List Nat):Bool:=
 List.rec true (λx xs ih=>!(mem x xs) && ih) l
noncomputable def bel(n:Nat)(l:List Nat):Bool:=
 List.rec true (λx _ ih=>dT x n && ih) l
noncomputable def abv(n:Nat)(l:List Nat):Bool:=
 List.rec true (λx _ ih=>eB n x && ih) l
noncomputable def MR(P:Nat->Bool)(H:List Pc)(l:List Nat):Bool:=
 List.rec true (λi _ ih=>(H.getD i .gone).all P && ih) l
theorem aP{a b:Bool}(h:(a && b)=true):a=true:=(bP.mp h).1
theorem aQ{a b:Bool}(h:(a && b)=true):b=true:=(bP.mp h).2
theorem mem_iff{l:Nat}{σ:List Nat}:mem l σ=true↔l∈σ:=by
 induction σ with
 | nil=>exact⟨λh=>(nomatch h),λh=>(nomatch h)⟩
 | cons x xs ih=>exact(Iff.of_eq (Bool.or_eq_true _ _)).trans ((or_congr ⟨c7,λq=>by rw[q];exact Nat.beq_refl x⟩ ih).trans nW.symm)
theorem HX{l:Nat}{σ:List Nat}(h:l∈σ):σ[idx l σ]? =some l:=by
 induction σ with
 | nil=>cases h
 | cons x xs ih=>
  rw[aE5]
  cases e:eK l x with
  | true=>exact congrArg some (c7 e).symm
  | false=>exact ih ((nW.mp h).resolve_left λq=>by rw[q,Nat.beq_refl] at e;cases e)
theorem xV{σ:List Nat}(h:O5 σ=true):σ.Nodup:=by
 induction σ with
 | nil=>exact iC
 | cons x xs ih=>exact b7.mpr ⟨λq=>(by have:=aP h;rw[mem_iff.mpr q] at this;cases this),ih (aQ h)⟩
theorem oN{n:Nat}{σ:List Nat}(h:bel n σ=true):∀{x},x∈σ->x < n:=by
 induction σ with
 | nil=>intro x q;cases q
 | cons x xs ih=>
  intro y q
  refine nI q (λe0=>?_) λq=>?_
  ·subst e0;exact aH (aP h)
  ·exact ih (aQ h) q
theorem UC{n:Nat}{σ:List Nat}(h:abv n σ=true):∀{x},x∈σ->n≤x:=by
 induction σ with
 | nil=>intro x q;cases q
 | cons x xs ih=>
  intro y q
  refine nI q (λe0=>?_) λq=>?_
  ·subst e0;exact aH (aP h)
  ·exact ih (aQ h) q
theorem tS{P:Nat->Bool}{H:List Pc}{σ:List Nat}(h:MR P H σ=true):∀{x},x∈σ->(H.getD x .gone).all P=true:=by
 induction σ with
 | nil=>intro x q;cases q
 | cons x xs ih=>
  intro y q
  refine nI q (λe0=>?_) λq=>?_
  ·subst e0;exact aP h
  ·exact ih (aQ h) q
theorem oE{ρ:Roo}{σ:List Nat}:∀{i j:Nat},σ[i]? =some j->(fY ρ σ)[i]? =some (ρ.getD j 0):=by
 induction σ with
 | nil=>intro _ _ e;exact bK e
 | cons x r ih=>
  intro i j e
  cases i with
  | zero=>obtain rfl:=aD e;rfl
  | succ i=>exact ih e
theorem oO{α:Type}{l:List α}{i:Nat}{a d:α}(e:l[i]? =some a):l.getD i d=a:=by rw[bO,e];rfl
theorem getD_at{α:Type}{l:List α}{i:Nat}{d:α}(e:i < l.length):l[i]? =some (l.getD i d):=by rw[bO,aY e];rfl
theorem p4{ρ:Roo}{σ:List Nat}(n:ρ.Nodup)(h:σ.Nodup)(b:∀x∈σ,x < ρ.length):(fY ρ σ).Nodup:=by
 induction σ with
 | nil=>exact iC
 | cons x r ih=>
  have h:=b7.mp h
  refine b7.mpr ⟨λq=>?_,ih h.2 λy hy=>b y (.tail _ hy)⟩
  refine cD (cV.mp q) λi e=>?_
  refine bS (kI e) λj e1 e2=>?_
  have bj:=b j (.tail _ (aN e1))
  exact h.1 ((z8 (b x (.head _)) n).mp ((getD_at (b x (.head _))).trans ((congrArg some e2).trans (getD_at bj).symm))▸aN e1)
noncomputable def pM(σ τ:List Nat)(n:Nat)(l:Nat):Nat:=cond (dT l σ.length) (σ.getD l 0) (n+idx l τ)
noncomputable def HY(σ:List Nat)(H:List Pc)(as ks:List aA):Bool:=bel H.length σ && O5 σ && MR (λl=>mem l σ) H σ && HW (λl=>mem l σ) as && HW (λl=>mem l σ) ks
noncomputable def BJ(σ τ:List Nat)(H1:List Pc)(r:aA):Bool:=
 abv σ.length τ && bel H1.length τ && O5 τ && MR (λl=>dT l σ.length || mem l τ) H1 (cE σ.length) && MR (λl=>dT l σ.length || mem l τ) H1 τ && r.all (λl=>dT l σ.length || mem l τ) && eB σ.length H1.length
section
variable {D:WD} {g:c9} {ρ ρ1:Roo} {H H1:List Pc} {s s1:aM} {σ τ:List Nat}
noncomputable abbrev below(s:aM)(ρ0:Roo):c9:=eJ s.heap ρ0
theorem Own.kb(a:Own D g [] ρ H s)(h:bel H.length σ=true):Ke g (below s (fY ρ σ)):=
 oM a.1 λx hx=>a.2 x ((cV.mp hx).elim λi e=>(kI e).elim λj z=>z.2▸aN (getD_at (a.4▸oN h (aN z.1))))
theorem Own.sub(a:Own D g [] ρ H s)(h:bel H.length σ=true)(n:O5 σ=true)(p:MR (λl=>mem l σ) H σ=true):J3 (λl=>mem l σ) (λl=>idx l σ) ρ s.heap (fY ρ σ) s.heap∧Own D (below s (fY ρ σ)) [] (fY ρ σ) (pick H (λl=>idx l σ) σ) s:=by
 have b:∀x∈σ,x < ρ.length:=λx hx=>a.4▸oN h hx
 have R:J3 (λl=>mem l σ) (λl=>idx l σ) ρ s.heap (fY ρ σ) s.heap:=⟨λl x q e=>(oE (HX (mem_iff.mp q))).trans (congrArg some (oO e)),λY Y x=>x⟩
 refine⟨R,λY Y e=>kQ _ e,λx hx=>gJ _ hx,p4 a.3 (xV n) b,qQ.trans tP.symm,λi q x e y=>?_,a.6,a.7,a.8⟩
 refine bS (w6 e) λj e1 dE=>?_;subst dE
 refine bS (kI y) λk e2 dE=>?_;subst dE
 obtain rfl:=aD (e1.symm.trans e2)
 have m:=aN e1
 exact Pc.BI R (λY q=>q) (tS p m) (a.5 j _ _ (getD_at (a.4▸b j m)) (getD_at (b j m)))
theorem Own.put(a:Own D g [] ρ H s)(hb:bel H.length σ=true)(L:Le (fY ρ σ) s.heap ρ1 s1.heap)(b:Own D (below s (fY ρ σ)) [] ρ1 H1 s1){r:aA}(o:BJ σ τ H1 r=true):
  J3 (λl=>dT l σ.length || mem l τ) (pM σ τ H.length) ρ1 s1.heap (ρ++fY ρ1 τ) s1.heap∧Own D g [] (ρ++fY ρ1 τ) (CQ H σ (pick H1 (pM σ τ H.length) (cE σ.length))++pick H1 (pM σ τ H.length) τ) s1:=by
 unfold BJ at o
 have o6:=aQ o;have o:=aP o
 have o:=aP o;have o4:=aQ o;have o:=aP o;have o3:=aQ o;have o:=aP o;have o2:=aQ o;have o:=aP o;have o1:=aQ o;have o0:=aP o
 have kg:=a.kb hb
 have bσ:∀x∈σ,x < ρ.length:=λx hx=>a.4▸oN hb hx
 have bτ:∀x∈τ,x < ρ1.length:=λx hx=>b.4▸oN o1 hx
 have low:∀i,i < σ.length->ρ1[i]? =some (ρ.getD (σ.getD i 0) 0):=λi hi=>L.1 _ _ (oE (getD_at hi))
 have new:∀x∈fY ρ1 τ,x∈ρ1∧x∉fY ρ σ:=λx hx=>by
  refine cD (cV.mp hx) λi e=>?_
  refine bS (kI e) λj e1 dE=>?_;subst dE
  have m:=aN e1
  have ej:=getD_at (d:=0) (bτ j m)
  refine⟨aN ej,λq=>?_⟩
  refine cD (cV.mp q) λk e=>?_
  have lk:=qQ▸(aF.mp e).1
  exact fN _ (bR (b.uniq (L.1 _ _ e) ej▸lk) (UC o0 m))
 have R:J3 (λl=>dT l σ.length || mem l τ) (pM σ τ H.length) ρ1 s1.heap (ρ++fY ρ1 τ) s1.heap:=⟨λl x q e=>by
  unfold pM
  cases c:dT l σ.length with
  | true=>
   have hl:l < σ.length:=aH c
   have m:=bσ _ (aN (getD_at (d:=0) hl))
   exact(bE m).trans ((getD_at m).trans ((low l hl).symm.trans e))
  | false=>
   rw[c] at q
   show(ρ++fY ρ1 τ)[H.length+idx l τ]? =some x
   rw[←a.4,bY (aW _ _),lP,oE (HX (mem_iff.mp q)),oO e],λY Y x=>x⟩
 refine⟨R,λx o e=>b.1 _ _ (kg _ _ e),λx hx=>?_, ?_, ?_,λj p x e y=>?_,b.6,b.7,b.8⟩
 ·exact(aT.mp (show x∈ρ++fY ρ1 τ from hx)).elim (a.2 x) λq=>some_or.elim id λz=>z.elim λo e=>bK ((b.2 x (new x q).1).symm.trans (kg _ _ e))
 ·refine(bC (l₁:=ρ)).mpr ⟨a.3,p4 b.3 (xV o2) bτ,λx hx y hy q=>?_⟩
  subst q
  refine cD (a.live hx) λo e=>?_
  exact bK ((b.2 x (new x hy).1).symm.trans (dL _ e (new x hy).2))
 ·rw[aE,aE,tR,tP,qQ,a.4]
 ·by_cases c:j < ρ.length
  ·have e:(CQ H σ (pick H1 (pM σ τ H.length) (cE σ.length)))[j]? =some p:=(bE (by rw[tR];exact a.4▸c)).symm.trans e
   have y:ρ[j]? =some x:=(bE c).symm.trans y
   cases UB e with
   | inl z=>
    refine bS z λi e1 e2=>?_
    refine bS (w6 e2) λk e3 dE=>?_;subst dE
    have li:=(aF.mp e1).1
    rw[wB li] at e3
    obtain rfl:=aD e3
    have e4:=low i li
    rw[oO e1,oO y] at e4
    exact Pc.BI R (λY q=>q) (tS o3 (gP.mpr li)) (b.5 i _ x (getD_at (bR li (aH o6))) e4)
   | inr z=>
    have n:j∉σ:=z.2.resolve_right λq=>by rw[tP,i7] at q;exact fN _ q
    refine Pc.mono (.app L.2) (λo ho=>b.1 x o (dL _ ho λq=>?_)) (a.5 j p x z.1 y)
    refine cD (cV.mp q) λi e5=>?_
    refine bS (kI e5) λk e6 e7=>?_
    have m:=aN e6
    exact n (a.uniq y ((getD_at (bσ k m)).trans (congrArg some e7.symm))▸m)
  ·have c:=fV c
   rw[bY c] at y
   rw[bY (by rw[tR];exact a.4▸c),tR] at e
   rw[a.4] at y
   refine bS (w6 e) λk e1 dE=>?_;subst dE
   refine bS (kI y) λk' e2 dE=>?_;subst dE
   obtain rfl:=aD (e1.symm.trans e2)
   have m:=aN e1
   exact Pc.BI R (λY q=>q) (tS o4 m) (b.5 k _ _ (getD_at (b.4▸bτ k m)) (getD_at (bτ k m)))
theorem fS.frame{n:Nat}{hd:Option aJ->Prop}{fa:cI}{as ks:List aA}{kn:List Str}{Q Q0:aA->List Pc->Prop}(i:HY σ H as ks=true)(c:fS D n hd fa (wL (λl=>idx l σ) as) kn (wL (λl=>idx l σ) ks) (pick H (λl=>idx l σ) σ) Q0)
  (hq:∀r H1,Q0 r H1->∃τ,BJ σ τ H1 r=true∧Q (r.map (pM σ τ H.length)) (CQ H σ (pick H1 (pM σ τ H.length) (cE σ.length))++pick H1 (pM σ τ H.length) τ)):fS D n hd fa as kn ks H Q:=λ{A g ρ s vs ws} w hh hv hw=>by
 unfold HY at i
 have i5:=aQ i;have i:=aP i;have i4:=aQ i;have i:=aP i;have i3:=aQ i;have i:=aP i
 refine d5 (w.5.sub (aP i) (aQ i) i3) λR o=>?_
 refine iV (c ⟨w.1,w.2,w.3,w.4.keeps (w.5.kb (aP i)),o⟩ hh (hv.map R i4) (hw.map R i5)) λr s1=>CR.mono λx s1 p=>?_
 obtain⟨le,r,o1,q⟩:=p
 refine bS (hq _ _ q) λτ h1 h2=>?_
 refine d5 (w.5.put (aP i) le o1 h1) λR1 o2=>?_
 refine .mk (.app le.2) (r.map R1 ?_) o2 h2
 exact aQ (aP h1)
end
theorem J4{α:Type}{a b:α}{l r:List α}(h:a=b)(k:l=r):a::l=b::r:=by subst h;subst k;rfl
theorem aA.mid(a:aA):a.map (λl=>l)=a:=
 aA.rec (motive_1:=λa=>a.map (λl=>l)=a) (motive_2:=λas=>wL (λl=>l) as=as) rfl (λY=>rfl) (λY=>rfl) (λY=>rfl) (λY=>rfl) (λY=>rfl) (λY ih=>congrArg aA.tup ih) (λY=>rfl) (λY=>rfl) (λY Y Y=>rfl) rfl (λY Y i1 i2=>J4 i1 i2) a
theorem aKB(fs:List (Str×aA)):O0 (λl=>l) fs=fs:=by
 induction fs with
 | nil=>rfl
 | cons p r ih=>obtain⟨x,a⟩:=p;exact J4 (congrArg (Prod.mk x) a.mid) ih
theorem Pc.mid(p:Pc):p.map (λl=>l)=p:=by
 cases p with
 | ns fs=>exact congrArg Pc.ns (aKB fs)
 | rC a=>exact congrArg Pc.rC a.mid
 | HP fd x cl c d=>cases d <;> rfl
 | tG fd c d=>cases d <;> rfl
 | iG T zs=>exact congrArg (Pc.iG T) CH
 | _=>rfl
noncomputable def jW(k:Nat)(o:Option aA):Option aA:=o.bind λa=>cond (a.all λl=>dT l k) (some a) none
noncomputable def qU(k:Nat)(l:Loc):Loc:=
 List.rec [] (λo _ ih=>jW k o::ih) l
noncomputable def lK(k n:Nat)(H:List Pc):Bool:=
 Nat.rec (motive:=λ_=>List Pc->Bool) (λ_=>true) (λ_ ih H=>List.rec false (λp H _=>p.all (λl=>dT l k) && ih H) H) n H
noncomputable def aK.cut(k:Nat)(st:aK):aK:=⟨qU k st.m,st.H.take k⟩
theorem ER{k n:Nat}{H:List Pc}:lK k n H=true->n≤H.length∧∀(i:Nat) p,i < n->H[i]? =some p->p.all (λl=>dT l k)=true:=by
 induction n generalizing H with
 | zero=>exactλY=>⟨cO _,λi p q=>absurd q (lR _)⟩
 | succ n ih=>
  intro h
  cases H with
  | nil=>cases h
  | cons p H=>
   refine d5 (ih (aQ h)) λh1 h2=>?_
   refine⟨cH h1,λi q li e=>?_⟩
   cases i with
   | zero=>obtain rfl:=aD e;exact aP h
   | succ i=>exact h2 i q (g8 li) e
theorem aAL{k:Nat}{m:Loc}:∀{i:Nat} {a:aA},(qU k m)[i]? =some (some a)->m[i]? =some (some a)∧a.all (λl=>dT l k)=true:=by
 induction m with
 | nil=>intro i a e;exact bK e
 | cons o m ih=>
  intro i a e
  cases i with
  | succ i=>exact ih e
  | zero=>cases o with
   | none=>cases e
   | some b=>
    cases c:b.all (λl=>dT l k) with
    | true=>cases(congrArg (λz=>some (cond z (some b) none)) c.symm).trans e;exact⟨rfl,c⟩
    | false=>cases(congrArg (λz=>some (cond z (some b) none)) c.symm).trans e
section
variable {C:Ctx} {A:cF} {g:c9} {ρ ρ':Roo} {st fR:aK} {s s':aM} {k:Nat}
theorem V.free{f:Nat->Nat}{a:aA}{v:aJ}(h:c9)(k:∀ρ h,V ρ h a v):a.map f=a:=by
 cases a with
 | aO l=>refine bS (k [] h) λx e _=>?_;exact bK e
 | tup xs=>
  refine dW (k [] h) λx vs dE t _=>?_;subst dE
  refine dW (k [] (eJ h [x])) λy ws e t _=>?_
  cases e
  refine bS t λo e _=>?_
  exact bK ((gJ [x] (.head _)).symm.trans e)
 | _=>rfl
theorem T4.ren{f:Nat->Nat}{P:Nat->Bool}{h h':c9}(R:J3 P f ρ h ρ' h')(hh:h'=h){M:Str->Option aJ}{x:Str}{a:aA}{kd:dB}(p:a.all P=true)(e:T4 C ρ h M x a kd):T4 C ρ' h' M x (a.map f) kd:=by
 subst hh
 cases kd with
 | «local» =>refine bS e λv e z=>?_;exact⟨v,e,z.map R p⟩
 | cell=>refine dW e λc v e i z=>?_;exact⟨c,v,e,i,z.map R p⟩
 | free=>refine dW e λc v e i z=>?_;exact⟨c,v,e,i,z.map R p⟩
 | globalImplicit=>refine bS e λv hv hg=>?_;rw[V.free h' hv];exact⟨v,hv,hg⟩
 | globalExplicit=>exact e
theorem At.cut(a:At C A g ρ st s)(hk:lK k k st.H=true):At C A g (ρ.take k) (st.cut k) s:=by
 refine d5 (ER hk) λlk hp=>?_
 have R:J3 (λl=>dT l k) (λl=>l) ρ s.heap (ρ.take k) s.heap:=⟨λl x q e=>(b8 (aH q)).trans e,λY Y x=>x⟩
 have sub:(C.X++ρ.take k).Sublist (C.X++ρ):=.append (.refl _) (j8 _ _)
 refine⟨a.1,a.2,a.3,a.4,⟨a.5.1,λx hx=>a.5.2 x (sub.subset hx),a.5.3.sublist sub, ?_,λi p x e y=>?_,a.5.6,a.5.7,a.5.8⟩,
  ⟨a.6.1.imp λM q=>⟨q.1,λi x kd b e1 e2=>?_⟩,a.6.2,a.6.3,a.6.4⟩⟩
 ·show(ρ.take k).length=(st.H.take k).length
  rw[hY,hY,a.5.4]
 ·have li:i < k:=bR (aF.mp y).1 (gZ _ _)
  have e:st.H[i]? =some p:=(b8 li).symm.trans e
  have:=Pc.BI R (λY q=>q) (hp i p li e) (a.5.5 i p x e ((b8 li).symm.trans y:ρ[i]? =some x))
  rw[Pc.mid] at this
  exact this
 ·refine d5 (aAL e2) λh1 h2=>?_
  exact b.mid▸(q.2 i x kd b e1 h1).ren R rfl h2
theorem Le.take{ρ0:Roo}{h0 h:c9}(L:Le ρ0 h0 ρ h)(hk:ρ0.length≤k):Le ρ0 h0 (ρ.take k) h:=⟨λl a e=>(b8 (bR (aF.mp e).1 hk)).trans (L.1 l a e),L.2⟩
theorem Own.cut{D:WD}{g:c9}{ρ:Roo}{H:List Pc}{s:aM}{k:Nat}(a:Own D g [] ρ H s)(hk:lK k k H=true):Own D g [] (ρ.take k) (H.take k) s:=by
 refine d5 (ER hk) λlk hp=>?_
 have sub:=j8 k ρ
 refine⟨a.1,λx hx=>a.2 x (sub.subset hx),a.3.sublist sub, ?_,λi p x e y=>?_,a.6,a.7,a.8⟩
 ·rw[hY,hY,a.4]
 ·have li:i < k:=bR (aF.mp y).1 (gZ _ _)
  have e:H[i]? =some p:=(b8 li).symm.trans e
  have:=Pc.BI (⟨λl x q e=>(b8 (aH q)).trans e,λY Y x=>x⟩:J3 (λl=>dT l k) (λl=>l) ρ s.heap (ρ.take k) s.heap) (λY q=>q) (hp i p li e) (a.5 i p x e ((b8 li).symm.trans y:ρ[i]? =some x))
  rw[Pc.mid] at this
  exact this
noncomputable def rE(σ:List Nat)(o:Option aA):Option aA:=o.bind λa=>cond (a.all λl=>mem l σ) (some (a.map λl=>idx l σ)) none
noncomputable def aK.sel(σ:List Nat)(st:aK):aK:=⟨st.m.map (rE σ),pick st.H (λl=>idx l σ) σ⟩
noncomputable def O6(σ:List Nat)(H:List Pc):Bool:=bel H.length σ && O5 σ && MR (λl=>mem l σ) H σ
theorem aE6{σ:List Nat}{o:Option aA}{b:aA}(h:rE σ o=some b):∃a,o=some a∧a.all (λl=>mem l σ)=true∧b=a.map λl=>idx l σ:=by
 cases o with
 | none=>exact bK h
 | some a=>
  have h:cond (a.all λl=>mem l σ) (some (a.map λl=>idx l σ)) none=some b:=h
  cases c:a.all λl=>mem l σ with
  | true=>rw[c] at h;obtain rfl:=aD h;exact⟨a,rfl,c,rfl⟩
  | false=>rw[c] at h;exact bK h
theorem u8{σ:List Nat}(b:∀x∈σ,x < ρ.length){x:cI}(hx:x∈fY ρ σ):x∈ρ:=
 (cV.mp hx).elim λi e=>(kI e).elim λj z=>z.2▸aN (getD_at (b j (aN z.1)))
theorem At.sel(a:At C A g ρ st s){σ:List Nat}(h:O6 σ st.H=true):At C A g (fY ρ σ) (st.sel σ) s:=by
 have h1:∀{x},x∈σ->x < st.H.length:=oN (aP (aP h));have h2:=aQ (aP h);have h3:=aQ h
 have b:∀x∈σ,x < ρ.length:=λx hx=>a.5.4▸h1 hx
 have R:J3 (λl=>mem l σ) (λl=>idx l σ) ρ s.heap (fY ρ σ) s.heap:=⟨λl x q e=>(oE (HX (mem_iff.mp q))).trans (congrArg some (oO e)),λY Y x=>x⟩
 have nd:=bC.mp a.5.3
 refine⟨a.1,a.2,a.3,a.4,⟨a.5.1,λx hx=>a.5.2 x (aT.mpr ((aT.mp hx).imp id (u8 b))),bC.mpr ⟨nd.1,p4 nd.2.1 (xV h2) b,λx hx y hy=>nd.2.2 x hx y (u8 b hy)⟩,qQ.trans tP.symm,λi q x e y=>?_,a.5.6,a.5.7,a.5.8⟩,
  ⟨a.6.1.imp λM q=>⟨q.1,λi x kd b e1 e2=>?_⟩,a.6.2,a.6.3,a.6.4⟩⟩
 ·refine bS (w6 e) λj e1 dE=>?_;subst dE
  refine bS (kI y) λk e2 dE=>?_;subst dE
  obtain rfl:=aD (e1.symm.trans e2)
  have m:=aN e1
  exact Pc.BI R (λY q=>q) (tS h3 m) (a.5.5 j _ _ (getD_at (a.5.4▸b j m)) (getD_at (b j m)))
 ·have e2:(st.m.map (rE σ))[i]? =some (some b):=e2
  rw[bX] at e2
  cases e3:st.m[i]? with
  | none=>rw[e3] at e2;exact bK e2
  | some o=>
   rw[e3] at e2
   refine wF (aE6 (aD e2)) λc dF hc rF=>?_;subst dF;subst rF
   exact(q.2 i x kd c e1 e3).ren R rfl hc
theorem Le.sel{ρ0:Roo}{h0 h:c9}{τ:List Nat}(L:Le ρ0 h0 ρ h)(hk:ρ0.length≤k)(hb:k≤ρ.length):Le ρ0 h0 (fY ρ (cE k++τ)) h:=⟨λl a e=>by
 have lk:=bR (aF.mp e).1 hk
 have e2:(cE k++τ)[l]? =some l:=by rw[bE (by rw[i7];exact lk),wB lk]
 rw[oE e2,oO (L.1 l a e)],L.2⟩
theorem At.re(a:At C A g ρ st s):Ke g (eJ s.heap (C.X++ρ))∧At C A (eJ s.heap (C.X++ρ)) ρ st s:=by
 have k:Ke g (eJ s.heap (C.X++ρ)):=oM a.5.1 a.5.2
 exact⟨k,a.1,a.2,a.3.keeps k,a.4,⟨λY Y e=>kQ _ e,λY hx=>gJ _ hx,a.5.3,a.5.4,a.5.5,a.5.6,a.5.7,a.5.8⟩,⟨a.6.1,λx c e=>(a.6.2 x c e).imp id λz=>z.elim λo z=>⟨o,k _ _ z⟩,a.6.3,a.6.4⟩⟩
theorem At.un{g':c9}(a:At C A g ρ st s)(k:Ke g g')(b:At C A g' ρ' fR s'):At C A g ρ' fR s':=
 ⟨a.1,a.2,a.3,a.4,⟨λY Y e=>b.5.1 _ _ (k _ _ e),λx hx=>some_or.elim id λz=>z.elim λo e=>bK ((b.5.2 x hx).symm.trans (k _ _ e)),b.5.3,b.5.4,b.5.5,b.5.6,b.5.7,b.5.8⟩,⟨b.6.1,a.6.2,b.6.3,b.6.4⟩⟩
theorem At.others{fi:List cI}{h':c9}{tk:Nat}(a:At C A g ρ st s)(hk:∀b o,b∉fi->s.heap.get? b=some o->h'.get? b=some o)(hl:∀b∈fi,b∉C.X++ρ∧g.get? b=none∧∀o,s.heap.get? b=some o->NT o):Le ρ s.heap ρ h'∧At C A g ρ st { s with heap:=h',toks:=tk }:=by
 have L:Le ρ s.heap ρ h':=.of (λb vs t=>t.elim λo t=>⟨o,hk b o (λq=>(hl b q).2.2 o t.1 _ _ t.2.1 (t.2.2.choose_spec)) t.1,t.2⟩:TK s.heap h')
 have aAF:∀b o,b∈C.X++ρ->s.heap.get? b=some o->h'.get? b=some o:=λb o hb e=>hk b o (λq=>(hl b q).1 hb) e
 exact⟨L,a.go L (λx hx=>.of λo=>aAF x o (bJ _ hx)) ⟨λb o e=>hk b o (λq=>bK ((hl b q).2.1.symm.trans e)) (a.5.1 _ _ e),a.5.2,a.5.3,a.5.4,
  λi p x e y=>Pc.mono L (λo=>aAF x o (aR _ (aN y))) (a.5.5 i p x e y),a.5.6,a.5.7,a.5.8⟩⟩
def ES(fi:List cI)(s s':aM):Prop:=∃h' tk,s'={ s with heap:=h',toks:=tk }∧∀b o,b∉fi->s.heap.get? b=some o->h'.get? b=some o
abbrev aE7(D:WD)(ρ:Roo)(h:c9)(need:List (Nat×Pc)):Prop:=∀p∈need,∃x,ρ[p.1]? =some x∧p.2.ok D ρ h x
inductive sN(D:WD)(uQ:dO)(it:aJ)(fi:List cI)(K:Nat->c9->Prop)(xs:List aA)(need:List (Nat×Pc))(ρ:Roo):Prop where
 | mk (aAM:∀j h h',K j h->(∀b∈fi,∀o,h.get? b=some o->h'.get? b=some o)->TK h h'->K j h') (live:∀j h,K j h->∀b∈fi,∃o,h.get? b=some o∧NT o) (again:∀{A s},K 0 s.heap->bZ (c0 D.prog D.w) A (pyIter it) (λv s1=>v=it∧s1=s) rD s) (next:∀{A s j ρ'},A.handled=none->K j s.heap->(∀(l:Nat) (a:cI),ρ[l]? =some a->ρ'[l]? =some a)->aE7 D ρ' s.heap need->bZ (c0 D.prog D.w) A (uW it) (λr s1=>match xs[j]? with
  | some x=>∃v,r=some v∧bZ (c0 D.prog D.w) A (eF uQ it v) (λY s2=>ES fi s s2∧V ρ' s2.heap x v∧K (j+1) s2.heap) rD s1
  | none=>r=none∧ES fi s s1) rD s)
inductive xW(C:Ctx)(A:cF)(g:c9)(ρ0:Roo)(h0:c9)(uQ:dO)(xs:List aA)(need:List (Nat×Pc))(fR:aK)(it:aJ)(s1:aM):Prop
 | mk (ρ':Roo) (fi:List cI) (K:Nat->c9->Prop) (le:Le ρ0 h0 ρ' s1.heap) (at':At C A g ρ' fR s1) (BK:∀b∈fi,b∉C.X++ρ'∧g.get? b=none) (k:K 0 s1.heap) (ok:sN C.D uQ it fi K xs need ρ')
def rT(C:Ctx)(uQ:dO)(k0:Nat)(a:aA)(xs:List aA)(need:List (Nat×Pc))(st fR:aK):Prop:=
 ∀{A:cF} {g:c9} {ρ0 ρ:Roo} {h0:c9} {s:aM} {v:aJ},At C A g ρ st s->Le ρ0 h0 ρ s.heap->ρ0.length=k0->V ρ s.heap a v->bZ (c0 C.D.prog C.D.w) A (pyIter v) (xW C A g ρ0 h0 uQ xs need fR) rD s
end
inductive xX(C:Ctx)(A:cF)(g:c9)(ρ2:Roo)(h2:c9)(fi:List cI)(K:Nat->c9->Prop)(J:Nat->aK->Prop)(j:Nat)(s:aM):Prop
 | mk (ρ:Roo) (st:aK) (le:Le ρ2 h2 ρ s.heap) (at':At C A g ρ st s) (hj:J j st) (k:K j s.heap) (nf:∀b∈fi,b∉C.X++ρ)
section
variable {C:Ctx} {A:cF} {g h2:c9} {ρ2:Roo} {s:aM} {fi:List cI} {K:Nat->c9->Prop} {J:Nat->aK->Prop} {xs:List aA} {need:List (Nat×Pc)} {uQ:dO} {it:aJ} {j k:Nat}
noncomputable def Pc.aE8(p:Pc):Bool:=match p with | .pC _=>true | _=>false
noncomputable def aAN(k:Nat)(H:List Pc):List Nat:=(cE H.length).filter λi=>eB k i && (H.getD i .gone).aE8
noncomputable def gcL(k:Nat)(H:List Pc):List Nat:=cE k++aAN k H
noncomputable def wM(w:Option (List Nat))(k:Nat)(H:List Pc):Bool:=Option.rec (lK k k H) (λτ=>eB k H.length && O6 (cE k++τ) H) w
noncomputable def pE(w:Option (List Nat))(k:Nat)(st:aK):aK:=Option.rec (st.cut k) (λτ=>st.sel (cE k++τ)) w
noncomputable def MS(u:Bool)(k:Nat)(H:List Pc):Bool:=cond u (eB k H.length && O6 (gcL k H) H) (lK k k H)
noncomputable def ET(u:Bool)(k:Nat)(st:aK):aK:=cond u (st.sel (gcL k st.H)) (st.cut k)
inductive O7(C:Ctx)(A:cF)(g:c9)(ρ2:Roo)(h2:c9)(fi:List cI)(K:Nat->c9->Prop)(J:Nat->aK->Prop)(j k:Nat)(ρ:Roo)(st:aK)(s:aM):Prop where
 | mk (le:Le ρ2 h2 ρ s.heap) (at':At C A (eJ s.heap (C.X++ρ)) ρ st s) (un:∀{ρ' fR s'},At C A (eJ s.heap (C.X++ρ)) ρ' fR s'->At C A g ρ' fR s') (close:∀(w:Option (List Nat)) {ρ' fR s'},Le ρ s.heap ρ' s'.heap->At C A (eJ s.heap (C.X++ρ)) ρ' fR s'->wM w k fR.H=true->J (j+1) (pE w k fR)->xX C A g ρ2 h2 fi K J (j+1) s')
theorem O7.cl{ρ:Roo}{st:aK}(T:O7 C A g ρ2 h2 fi K J j k ρ st s)(u:Bool){ρ':Roo}{fR:aK}{s':aM}(l:Le ρ s.heap ρ' s'.heap)(a:At C A (eJ s.heap (C.X++ρ)) ρ' fR s')(h:MS u k fR.H=true)(q:J (j+1) (ET u k fR)):xX C A g ρ2 h2 fi K J (j+1) s':=by
 cases u with
 | false=>exact T.4 none l a h q
 | true=>exact T.4 (some (aAN k fR.H)) l a h q
theorem J5(IO:sN C.D uQ it fi K xs need ρ2)(hh:C.hd=none)(hl:ρ2.length≤k)(BK:∀b∈fi,g.get? b=none)(hn:∀st,J j st->∀p∈need,st.H[p.1]? =some p.2)(I:xX C A g ρ2 h2 fi K J j s)
  {Zn:aM->Prop} {Zs:aJ->aM->Prop} (hz:xs[j]? =none->∀{ρ st s1},Le ρ2 h2 ρ s1.heap->At C A g ρ st s1->J j st->Zn s1)
  (hs:∀{x v ρ st s1},xs[j]? =some x->O7 C A g ρ2 h2 fi K J j k ρ st s1->V ρ s1.heap x v->J j st->Zs v s1):
  bZ (c0 C.D.prog C.D.w) A (uW it) (λr s1=>match r with | none=>Zn s1 | some v=>bZ (c0 C.D.prog C.D.w) A (eF uQ it v) (λY s2=>Zs v s2) rD s1) rD s:=by
 obtain⟨ρ,st,le,a,hj,kj,nf⟩:=I
 have oth:∀b∈fi,b∉C.X++ρ∧g.get? b=none∧∀o,s.heap.get? b=some o->NT o:=λb hb=>⟨nf b hb,BK b hb,λo e=>(IO.2 j _ kj b hb).elim λo' z=>aD (z.1.symm.trans e)▸z.2⟩
 refine bM (IO.4 (a.2.3.trans hh) kj le.1 λp hp=>a.5.at (hn st hj p hp)) (λr s1 hr=>?_) λY Y e=>e
 cases hx:xs[j]? with
 | none=>
  rw[hx] at hr
  obtain⟨rfl,h3,tk3,rfl,hk3⟩:=hr
  refine d5 (a.others (tk:=tk3) hk3 oth) λL a3=>?_
  exact hz hx (le.trans L) a3 hj
 | some x=>
  rw[hx] at hr
  obtain⟨v,rfl,hr⟩:=hr
  refine bM hr (λY s2 hr=>?_) λY Y e=>e
  refine u3 hr λsJ hv k4=>sI sJ λh4 tk4 dE hk4=>?_;subst dE
  obtain⟨L,a4⟩:=a.others (tk:=tk4) hk4 oth
  obtain⟨kg,a5⟩:=a4.re
  refine hs hx ⟨le.trans L,a5,a4.un kg,λw {ρ' fR s'} l6 a6 hN hJ=>?_⟩ hv hj
  have nf':∀b∈fi,b∉C.X++ρ':=λb hb q=>(IO.2 (j+1) h4 k4 b hb).elim λo z=>bK ((a6.5.2 b q).symm.trans (dL _ z.1 (nf b hb)))
  have st6:=IO.1 (j+1) h4 s'.heap k4 (λb hb o e=>a6.5.1 b o (dL _ e (nf b hb))) l6.2
  have l7:=(le.trans L).trans l6
  cases w with
  | some τ=>exact⟨_,_,l7.sel hl (a6.5.4▸aH (aP hN)),(a4.un kg a6).sel (aQ hN),hJ,st6,λb hb q=>nf' b hb (aT.mpr ((aT.mp q).imp id (u8 λx hx=>a6.5.4▸oN (aP (aP (aQ hN))) hx)))⟩
  | none=>exact⟨ρ'.take k,fR.cut k,l7.take hl,(a4.un kg a6).cut hN,hJ,st6,λb hb q=>nf' b hb ((List.Sublist.append (.refl _) (j8 _ _)).subset q)⟩
end
section
theorem lD{prog:rM}{w:World}{A:cF}{R:Result->aM->Prop}{target:dO}{it:aJ}{body:List v8}{env:Env}(I:Nat->aM->Prop){s:aM}
  (turn:∀n s,I n s->bZ (c0 prog w) A (uW it) (λr s₁=>match r with
   | none=>R (.ok .next) s₁
   | some v=>bZ (c0 prog w) A (eF target it v) (λY s₁'=>bZ (c0 prog w) A (DY target env v) (λY s₂=>bZ (c0 prog w) A (execs body env) (λf s₃=>match f with
     | .next | .cont=>∃m,m < n∧I m s₃
     | .brk=>R (.ok .next) s₃
     | .ret v=>R (.ok (.ret v)) s₃) rD s₂) rD s₁') rD s₁) rD s)
  (n:Nat) (h:I n s):pR (c0 prog w) A (.forLoop target it body [] env) R s:=by
 refine codeAny_loop' rfl I (λn s hI=>?_) n h
 show bZ _ _ ((forTurn target it body [] env).onRaise (λx=>do noteFrame x env;theTreesLotGoes x)) _ _ s
 refine wpAny_noted ?_
 refine aC (d8 (aC (wpAny_onRaise (bM (turn n s hI) (λr s₁ h₁=>?_) λY Y e=>e.elim))))
 cases r with
 | none=>exact aI (.inr ⟨rfl,codeAny_block (wY h₁)⟩)
 | some v=>
  refine aC (bM h₁ (λY s₁' h₁=>?_) λY Y e=>e.elim)
  refine aC (bM h₁ (λY s₂ h₂=>aC (bM h₂ (λf s₃ h₃=>?_) λY Y h'=>h'.elim)) λY Y h'=>h'.elim)
  cases f with
  | next=>exact aI (.inl ⟨rfl,h₃⟩)
  | cont=>exact aI (.inl ⟨rfl,h₃⟩)
  | brk=>exact aI h₃
  | ret v=>exact aI h₃
variable {C:Ctx} {st:aK} {X:XQ}
theorem YN{α β:Type}{A:cF}{g:c9}{ρ ρ0:Roo}{s:aM}{h0:c9}{E:aJ->aM->Prop}{R:Roo->c9->β->α->Prop}{t:Sem α}{Q:β->aK->Prop}{Z:α->aM->Prop}(w:bZ (c0 C.D.prog C.D.w) A t (pX C A g ρ s.heap R Q) (fX C A g ρ s.heap eE) s)(l0:Le ρ0 h0 ρ s.heap)
  (k:∀{x s1 b st1 ρ1},Le ρ s.heap ρ1 s1.heap->Le ρ0 h0 ρ1 s1.heap->R ρ1 s1.heap b x->At C A g ρ1 st1 s1->Q b st1->Z x s1):bZ (c0 C.D.prog C.D.w) A t Z E s:=
 bM w (λx s1 p=>by cases p with | mk le r at' q=>exact k le (l0.trans le) r at' q) λY Y x=>x.no
inductive O8(C:Ctx)(uQ:dO)(k0:Nat)(a:aA)(xs:List aA)(need:List (Nat×Pc))(J:Nat->aK->Prop)(st bW:aK):Prop where
 | mk (it:rT C uQ k0 a xs need st bW) (J0:J 0 bW) (hn:∀j st,J j st->∀p∈need,st.H[p.1]? =some p.2)
end
theorem O9(uQ:dO)(a v:aJ):eF uQ a v=eF (.Tuple [] 0 default) a v∨eF uQ a v=pure ():=by cases uQ <;> first | exact .inl rfl | exact .inr rfl
theorem p5{M:rL}{A:cF}{E:aJ->aM->Prop}{s:aM}{uQ:dO}{it:cI}{v:aJ}{o:Obj}{nm:String}{Q:Unit->aM->Prop}(ho:s.heap.get? it=some o)(hc:o.cls= .type nm)
  (hn:(["enumerate","zip","dict_itemiterator","dict_reverseitemiterator","odict_iterator","itertools.zip_longest","itertools.pairwise"]:List String).contains nm=false) (h:Q () s):
  bZ M A (eF uQ (.ref it) v) Q E s:=by
 have t:bZ M A (eF (.Tuple [] 0 default) (.ref it) v) Q E s:=by
  cases v with
  | ref a=>
   refine aC (wpAny_load ho ?_)
   rw[hc]
   cases o.data with
   | fields vs=>dsimp only;rw[hn,HH,if_neg bH];exact aI h
   | _=>exact aI h
  | _=>exact aI h
 cases O9 uQ (.ref it) v with
 | inl e=>exact e▸t
 | inr e=>exact e▸aI h
theorem ES.of{fi:List cI}{s:aM}{h':c9}{tk:Nat}(k:∀b o,b∉fi->s.heap.get? b=some o->h'.get? b=some o):ES fi s { s with heap:=h',toks:=tk }:=⟨h',tk,rfl,k⟩
theorem ES.same{it:cI}{s:aM}{h':c9}{tk:Nat}(k:eY it s.heap h'):ES [it] s { s with heap:=h',toks:=tk }:=
 .of λb o hb e=>(k.2 b (λq=>hb (q▸.head _))).trans e
theorem ES.ext{it:cI}{s:aM}{h':c9}{tk:Nat}(k:q8 it s.heap h'):ES [it] s { s with heap:=h',toks:=tk }:=
 .of λb o hb e=>k b o (λq=>hb (q▸.head _)) e
inductive It1(D:WD)(uQ:dO)(it:cI)(K:Nat->c9->Prop)(nm:String)(xs:List aA)(need:List (Nat×Pc))(ρ:Roo):Prop where
 | mk (hn:(["enumerate","zip","dict_itemiterator","dict_reverseitemiterator","odict_iterator","itertools.zip_longest","itertools.pairwise"]:List String).contains nm=false∧nm≠"tuple") (aAM:∀j h h',K j h->(∀o,h.get? it=some o->h'.get? it=some o)->TK h h'->K j h') (live:∀j h,K j h->∃o,h.get? it=some o∧o.cls= .type nm) (again:∀{A s},K 0 s.heap->bZ (c0 D.prog D.w) A (pyIter (.ref it)) (λv s1=>v= .ref it∧s1=s) rD s) (next:∀{A s j ρ'},A.handled=none->K j s.heap->(∀(l:Nat) (a:cI),ρ[l]? =some a->ρ'[l]? =some a)->aE7 D ρ' s.heap need->bZ (c0 D.prog D.w) A (uW (.ref it)) (λr s1=>match xs[j]? with
  | some x=>∃v h' tk,r=some v∧s1={ s with heap:=h',toks:=tk }∧eY it s.heap h'∧(TK s.heap h'->V ρ' h' x v∧K (j+1) h')
  | none=>∃h' tk,r=none∧s1={ s with heap:=h',toks:=tk }∧q8 it s.heap h') rD s)
section
variable {C:Ctx} {A:cF} {g:c9} {ρ ρ0:Roo} {st:aK} {s:aM} {h0:c9} {uQ:dO} {k0:Nat} {X:XQ}
theorem It1.ok{D:WD}{it:cI}{K:Nat->c9->Prop}{nm:String}{xs:List aA}{need:List (Nat×Pc)}(I:It1 D uQ it K nm xs need ρ):sN D uQ (.ref it) [it] K xs need ρ:=⟨
 (λj h h' k hk T=>I.2 j h h' k (hk it (.head _)) T),
 (λj h k b hb=>by obtain rfl:=aU.mp hb;exact(I.3 j h k).elim λo z=>⟨o,z.1,.ty z.2 I.1.2⟩),
 (I.4),
 (λ{A s j ρ'} hh k lb hn=>bM (I.5 hh k lb hn) (λr s1 q=>by
  cases hx:xs[j]? with
  | none=>rw[hx] at q;refine dW q λh' tk e rF x=>?_;subst rF;exact⟨e,.ext x⟩
  | some x=>
   rw[hx] at q
   refine MJ q λv h' tk e wN x y=>?_;subst wN
   refine bS (I.3 j _ k) λo ho hc=>?_
   refine d5 (y (TK.but x.2 ho (.ty hc I.1.2))) λhv hk=>?_
   refine bS (I.3 _ _ hk) λo' YO hc'=>?_
   exact⟨v,e,p5 YO hc' I.1.1 ⟨.same x,hv,hk⟩⟩) λY Y e=>e)⟩
theorem xW.new{xs:List aA}{need:List (Nat×Pc)}{K:Nat->c9->Prop}{nm:String}{o:Obj}(a:At C A g ρ st s)(L:Le ρ0 h0 ρ s.heap)(hK:K 0 (s.heap.push o))(I:It1 C.D uQ s.heap.objs.size K nm xs need ρ):xW C A g ρ0 h0 uQ xs need st (.ref s.heap.objs.size) { s with heap:=s.heap.push o }:=
 ⟨ρ,[s.heap.objs.size],K,L.trans (.ke (Ke.push o)),a.junk (Ke.push o),λb hb=>by
  obtain rfl:=aU.mp hb
  refine⟨λq=>?_,some_or.elim id λz=>z.elim λo e=>bK (fE.symm.trans (a.5.1 _ _ e))⟩
  exact(aT.mp q).elim (λq=>(a.6.oB _ q).elim λo e=>bK (fE.symm.trans e)) λq=>(a.5.live q).elim λo e=>bK (fE.symm.trans e),hK,I.ok⟩
theorem V.bot{h:c9}{a:aA}{v:aJ}(e:V [] h a v):V ρ h a v:=e.mono ⟨λY Y q=>absurd q (λq=>by exact bK q),λY Y x=>x⟩
theorem get_none{xs:List aA}{vs:List aJ}{h:c9}{j:Nat}(e:Vs ρ h xs vs)(hx:xs[j]? =none):(bG vs)[j]? =none:=(cY ..).trans (dC.mpr (e.length▸dC.mp hx))
theorem BL{l:Nat}{xs:List aA}(e:st.H[l]? =some (.lst xs)):rT C uQ k0 (.aO l) xs [(l,.lst xs)] st st:=λ{A g ρ0 ρ h0 s v} a L hk hv=>by
 obtain⟨x,o,hx,ho,vs,n,rfl,jB⟩:=a.aO e
 obtain rfl:=pY hx hv
 refine wpAny_pyIter_list ⟨_,ho,rfl,n,rfl⟩ (xW.new a L (nm:="list_iterator") (K:=λj h=>h.IsListIter s.heap.objs.size x j) ⟨_,bV _ rfl,rfl,rfl⟩ ⟨⟨by decide,by decide⟩,λj h h' k hk Y=>k.elim λo k=>⟨o,hk o k.1,k.2⟩,λj h k=>k.elim λo k=>⟨o,k.1,k.2.1⟩,λk=>wpAny_pyIter_listiter k ⟨rfl,rfl⟩,λ{A' s' j ρ'} hh k lb hn=>?_⟩)
 refine bS (hn _ (.head _)) λy hy z=>?_
 cases(lb _ _ hx).symm.trans hy
 obtain⟨o',YO,vs',n',rfl,MT⟩:=z.1
 cases hj:xs[j]? with
 | none=>exact wpAny_pyNext_list_end hh k ⟨_,YO,rfl,n',rfl⟩ (get_none MT hj) λh' zW=>⟨h',_,rfl,rfl,zW⟩
 | some b=>
  refine bS (MT.get hj) λw hw hV=>?_
  exact wpAny_pyNext_list_item k ⟨_,YO,rfl,n',rfl⟩ (x:=w) ((cY ..).trans hw) λh' K' hs=>⟨w,h',_,rfl,rfl,hs,λT=>⟨(hV.mono (.of T)).bot,K'⟩⟩
theorem xY{xs:List aA}:rT C uQ k0 (.tup xs) xs [] st st:=λ{A g ρ0 ρ h0 s v} a L hk hv=>by
 refine dW hv λt vs dE ht jB=>?_;subst dE
 refine q9 ht (xW.new a L (nm:="tuple_iterator") (K:=λj h=>h.IsTupleIter s.heap.objs.size t j∧h.IsTuple t (bG vs)∧Vs ρ h xs vs) ⟨⟨_,bV _ rfl,rfl,rfl⟩,(Ke.push _).tk _ _ ht,jB.mono (.ke (Ke.push _))⟩
  ⟨⟨by decide,by decide⟩,λj h h' k hk T=>⟨k.1.elim λo k=>⟨o,hk o k.1,k.2⟩,T _ _ k.2.1,k.2.2.mono (.of T)⟩,λj h k=>k.1.elim λo k=>⟨o,k.1,k.2.1⟩,λk=>wpAny_pyIter_tupleiter k.1 ⟨rfl,rfl⟩,λ{A' s' j ρ'} hh k lb _=>?_⟩)
 refine u3 k λk ht' MT=>?_
 cases hj:xs[j]? with
 | none=>exact wpAny_pyNext_tuple_end hh k ht' (get_none MT hj) λh' zW=>⟨h',_,rfl,rfl,zW⟩
 | some b=>
  refine bS (MT.get hj) λw hw hV=>?_
  exact wpAny_pyNext_tuple_item k ht' (x:=w) ((cY ..).trans hw) λh' K' hs=>⟨w,h',_,rfl,rfl,hs,λT=>⟨hV.mono ⟨lb,T⟩,K',T _ _ ht',MT.mono (.of T)⟩⟩
theorem aAO(k:Nat):n8 0 k 1=(k:Int):=by
 rw[rangeSize_one,Int.sub_zero]
 cases k with
 | zero=>rfl
 | succ n=>exact if_pos (Int.natCast_pos.mpr (j2 n))
theorem HZ{l k:Nat}(e:st.H[l]? =some (.oK k))(hk:k < 1000000):rT C uQ k0 (.aO l) ((cE k).map λj=>aA.int (j:Nat)) [] st st:=λ{A g ρ0 ρ h0 s v} a L _ hv=>by
 obtain⟨x,o,hx,ho,t,u,w,rfl⟩:=a.aO e
 obtain rfl:=pY hx hv
 have sz:n8 0 k 1=(k:Int):=aAO k
 refine wpAny_pyIter_range ho (small_one (by decide) (by decide) (pJ (by decide) (b6 k)) (Int.lt_trans (lA.mpr hk) (by decide))) (xW.new a L (nm:="range_iterator") (K:=λj h=>IsRangeIter h s.heap.objs.size j ((k:Int) - j) 1) ?_
  ⟨⟨(by decide:_=false),(by decide:"range_iterator"≠"tuple")⟩,λj h h' k hk Y=>hk _ k,λj h k=>⟨_,k,rfl⟩,λk=>wpAny_pyIter_rangeiter k ⟨rfl,rfl⟩,λ{A' s' j ρ'} hh K lb _=>?_⟩)
 ·have:=bV s.heap (o:={ cls:=.type "range_iterator",data:=.fields #[iQ 0,iQ (n8 0 k 1),iQ 1] }) rfl
  rw[sz] at this
  rw[sz]
  exact this.trans (by rw[show((k:Int) - (0:Nat))=k from Int.sub_zero _];rfl)
 ·rw[bX]
  by_cases hj:j < k
  ·rw[wB hj]
   refine wpAny_pyNext_range_item K (Int.sub_pos_of_lt (lA.mpr hj)) λh' K' hs=>⟨_,h',_,rfl,rfl,hs,λT=>⟨⟨_,rfl⟩, ?_⟩⟩
   have e2:((k:Int) - ((j+1:Nat):Int))=(k:Int) - j - 1:=(Int.sub_sub (k:Int) j 1).symm
   exact e2▸K'
  ·rw[dC.mpr (by exact i7▸fV hj)]
   exact wpAny_pyNext_range_end hh K (Int.sub_nonpos_of_le (fD.mpr (fV hj))) λh' zW=>⟨h',_,rfl,rfl,zW⟩
end
noncomputable def pos(x y:List Nat)(hi i:Nat):Bool:=eB (i+y.length) hi && ((x.drop i).take y.length==y)
noncomputable def jR(x y:List Nat)(lo hi:Nat):Option Nat:=(D9 lo (hi+1 - lo)).find? (pos x y hi)
noncomputable def wO(x y:List Nat)(lo hi:Nat):Option Nat:=(D9 lo (hi+1 - lo)).reverse.find? (pos x y hi)
noncomputable def BM:Option Nat->Int
 | some k=>(k:Int)
 | none=>-1
theorem jC(l:List Nat):(c8 l).length=l.length:=rfl
theorem oP(a b:List Nat):c8 a++c8 b=c8 (a++b):=Str.ext' (Str.cps_append _ _ |>.trans (wC a b))
theorem xZ(x y:List Nat)(i:Nat):Builtin.Str.subAt (c8 x) (c8 y) i=((x.drop i).take y.length==y):=StrLaws.subAt_eq ..
theorem pos_at(x y:List Nat)(hi i:Nat):EA (c8 x) (c8 y) hi i↔pos x y hi i=true:=by
 unfold EA pos
 rw[xZ,jC,Bool.and_eq_true,Nat.ble_eq]
theorem EU{p:Nat->Bool}{post:List Nat}{a:Nat}(h:p a=true){pre:List Nat}:(∀i∈pre,¬p i=true)->(pre++a::post).find? p=some a:=by
 induction pre with
 | nil=>intro _;exact List.find?_cons_of_pos h
 | cons b pre ih=>intro hn;exact(List.find?_cons_of_neg (hn b (.head _))).trans (ih λi hi=>hn i (.tail _ hi))
theorem CS(x y:List Nat)(lo hi:Nat):(dG (c8 x) (c8 y) lo hi 1).head? =jR x y lo hi:=by
 unfold jR
 rw[StrLaws.occ_eq]
 cases StrLaws.occ_first (c8 x) (c8 y) hi 1 (aZ 1) (D9 lo (hi+1 - lo)) lo (λi h=>(AD.mp h).1) with
 | inl z=>rw[z.1];exact(List.find?_eq_none.mpr λi hi q=>z.2 i hi ((pos_at ..).mpr q)).symm
 | inr z=>
  refine MJ z λpre a post e h0 ha hn=>?_
  rw[e,EU ((pos_at ..).mp ha) λi hi q=>hn i hi ((pos_at ..).mpr q),←h0,List.head?_eq_getElem?,Array.getElem?_toList,e]
theorem J6(x y:List Nat)(lo hi:Nat):(match dG (c8 x) (c8 y) lo hi 1 with | i::_=>(i:Int) | []=>-1)=BM (jR x y lo hi):=by
 rw[←CS]
 cases dG (c8 x) (c8 y) lo hi 1 <;> rfl
theorem PA(x y:List Nat):(!(dG (c8 x) (c8 y) 0 (c8 x).length 1).isEmpty)=(jR x y 0 x.length).isSome:=by
 rw[←CS,jC]
 cases dG (c8 x) (c8 y) 0 x.length 1 <;> rfl
theorem last_run(x y:List Nat)(hi:Nat){l:List Nat}:∀(st:Option Nat),(forIn l st (StrLaws.lastBody (c8 x) (c8 y) hi)).run=(l.reverse.find? (pos x y hi)).or st:=by
 induction l with
 | nil=>intro st;rfl
 | cons a l ih=>
  intro st
  rw[n9,pV,List.find?_append]
  unfold StrLaws.lastBody
  have e:=pos_at x y hi a
  unfold EA at e
  cases hc:pos x y hi a with
  | true=>
   rw[if_pos (e.mpr hc),List.find?_cons_of_pos hc]
   refine(ih (some a)).trans ?_
   cases l.reverse.find? (pos x y hi) <;> rfl
  | false=>
   have hf:¬pos x y hi a=true:=λq=>Bool.noConfusion (hc.symm.trans q)
   rw[if_neg λq=>hf (e.mp q),List.find?_cons_of_neg hf]
   refine(ih st).trans ?_
   cases l.reverse.find? (pos x y hi) <;> rfl
theorem MU(x y:List Nat)(lo hi:Nat):xM (c8 x) (c8 y) lo hi=wO x y lo hi:=by
 rw[StrLaws.last_eq,last_run]
 unfold wO
 cases List.find? (pos x y hi) (D9 lo (hi+1 - lo)).reverse <;> rfl
section
variable {C:Ctx} {st:aK} {X:XQ} {Q:aA->aK->Prop}
def Flat(c:aA)(v:aJ):Prop:=∀ρ h,V ρ h c v
theorem Flat.int{i:Int}{t:Tok}:Flat (.int i) (.int i t):=λY Y=>⟨t,rfl⟩
theorem Flat.str{l:List Nat}{t:Tok}:Flat (.str l) (.str (c8 l) t):=λY Y=>⟨t,rfl⟩
theorem Flat.bool{b:Bool}:Flat (.bool b) (.bool b):=λY Y=>rfl
theorem d3.i2{k:aJ->aJ->Sem aJ}{a b:Int}{c:aA}(h:∀(A:cF) (s:aM) (t u:Tok) (Q':aJ->aM->Prop) (E:aJ->aM->Prop),(∀v tk,Flat c v->Q' v { s with toks:=tk })->bZ (c0 C.D.prog C.D.w) A (k (.int a t) (.int b u)) Q' E s)(q:Q c st):d3 C V k (.int a) (.int b) st Q X:=λx hv hw=>by
 refine cD hv λt dF=>?_;subst dF
 refine cD hw λu dF=>?_;subst dF
 exact h _ _ t u _ _ λv tk f=>.mk .refl (f _ _) x.toks q
theorem d3.s2{k:aJ->aJ->Sem aJ}{a b:List Nat}{c:aA}(h:∀(A:cF) (s:aM) (t u:Tok) (Q':aJ->aM->Prop) (E:aJ->aM->Prop),(∀v tk,Flat c v->Q' v { s with toks:=tk })->bZ (c0 C.D.prog C.D.w) A (k (.str (c8 a) t) (.str (c8 b) u)) Q' E s)(q:Q c st):d3 C V k (.str a) (.str b) st Q X:=λx hv hw=>by
 refine cD hv λt dF=>?_;subst dF
 refine cD hw λu dF=>?_;subst dF
 exact h _ _ t u _ _ λv tk f=>.mk .refl (f _ _) x.toks q
section
variable {a b:Int}
theorem aAP(q:Q (.int (a+b)) st):d3 C V (j7 .Add) (.int a) (.int b) st Q X:=d3.i2 (λA s t u Q' E k=>PySem.P.add_int (k _ _ .int)) q
theorem UD(q:Q (.int (a+b)) st):d3 C V (D1 .Add) (.int a) (.int b) st Q X:=d3.i2 (λA s t u Q' E k=>PySem.P.iadd_int (k _ _ .int)) q
theorem aAQ(q:Q (.int (a - b)) st):d3 C V (j7 .Sub) (.int a) (.int b) st Q X:=d3.i2 (λA s t u Q' E k=>PySem.P.sub_int (k _ _ .int)) q
theorem UE(q:Q (.int (a - b)) st):d3 C V (D1 .Sub) (.int a) (.int b) st Q X:=d3.i2 (λA s t u Q' E k=>PySem.P.isub_int (k _ _ .int)) q
theorem UF(hb:b≠0)(hz:nE a b=false)(q:Q (.int (a.fdiv b)) st):d3 C V (j7 .FloorDiv) (.int a) (.int b) st Q X:=d3.i2 (λA s t u Q' E k=>AutoIntOps.floordiv_1 (λq=>hb (eq_of_beq q)) (λq=>Bool.noConfusion (hz.symm.trans q)) (k _ _ .int)) q
theorem PB(hb:b≠0)(q:Q (.int (a.fmod b)) st):d3 C V (j7 .Mod) (.int a) (.int b) st Q X:=d3.i2 (λA s t u Q' E k=>AutoIntOps.mod_1 (λq=>hb (eq_of_beq q)) (k _ _ .int)) q
theorem aE9(q:Q (.bool (decide (a < b))) st):d3 C V (d7 .Lt) (.int a) (.int b) st Q X:=d3.i2 (λA s t u Q' E k=>PySem.P.lt_int (k _ _ .bool)) q
theorem aNI(q:Q (.bool (decide (a≤b))) st):d3 C V (d7 .LtE) (.int a) (.int b) st Q X:=d3.i2 (λA s t u Q' E k=>PySem.P.le_int (k _ _ .bool)) q
theorem aFA(q:Q (.bool (decide (a > b))) st):d3 C V (d7 .Gt) (.int a) (.int b) st Q X:=d3.i2 (λA s t u Q' E k=>PySem.P.gt_int (k _ _ .bool)) q
theorem aFB(q:Q (.bool (decide (a≥b))) st):d3 C V (d7 .GtE) (.int a) (.int b) st Q X:=d3.i2 (λA s t u Q' E k=>PySem.P.ge_int (k _ _ .bool)) q
theorem aFC(q:Q (.bool (a==b)) st):d3 C V (d7 .Eq) (.int a) (.int b) st Q X:=d3.i2 (λA s t u Q' E k=>PySem.P.eq_int (k _ _ .bool)) q
theorem aFD(q:Q (.bool (a !=b)) st):d3 C V (d7 .NotEq) (.int a) (.int b) st Q X:=d3.i2 (λA s t u Q' E k=>PySem.P.ne_int (k _ _ .bool)) q
theorem aAR(q:Q (.int (-a)) st):pD C V (unaryOp .USub) (.int a) st Q X:=λx hv=>by
 refine cD hv λt dF=>?_;subst dF
 exact PySem.P.neg_int (.mk .refl V.int x.toks q)
end
section
variable {a b:List Nat}
theorem aAS(hz:a.length+b.length≤1000000)(q:Q (.str (a++b)) st):d3 C V (j7 .Add) (.str a) (.str b) st Q X:=
 d3.s2 (λA s t u Q' E k=>SB.add (λt' tk=>k _ tk (oP a b▸.str)) (g5 hz rfl)) q
theorem UG(hz:a.length+b.length≤1000000)(q:Q (.str (a++b)) st):d3 C V (D1 .Add) (.str a) (.str b) st Q X:=
 d3.s2 (λA s t u Q' E k=>SB.iadd (λt' tk=>k _ tk (oP a b▸.str)) (g5 hz rfl)) q
theorem aFE(q:Q (.bool (a==b)) st):d3 C V (d7 .Eq) (.str a) (.str b) st Q X:=d3.s2 (λA s t u Q' E k=>PySem.P.eq_str (k _ _ .bool)) q
theorem aFF(q:Q (.bool (a !=b)) st):d3 C V (d7 .NotEq) (.str a) (.str b) st Q X:=d3.s2 (λA s t u Q' E k=>PySem.P.ne_str (k _ _ .bool)) q
theorem aFG(q:Q (.bool (jR b a 0 b.length).isSome) st):d3 C V (d7 .In) (.str a) (.str b) st Q X:=d3.s2 (λA s t u Q' E k=>PySem.P.in_str ((PA b a).symm▸k _ _ .bool)) q
theorem PC(q:Q (.bool (!(jR b a 0 b.length).isSome)) st):d3 C V (d7 .NotIn) (.str a) (.str b) st Q X:=d3.s2 (λA s t u Q' E k=>PySem.P.notIn_str ((PA b a).symm▸k _ _ .bool)) q
theorem UH{i:Int}{c:Nat}(hc:(iW i a.length).bind (a[·]?)=some c)(hr:(decide (i < -(2 ^ 63:Int)) || decide (i≥2 ^ 63))=false)(q:Q (.str [c]) st):d3 C V uL (.str a) (.int i) st Q X:=λx hv hw=>by
 refine cD hv λt dF=>?_;subst dF
 refine cD hw λu dF=>?_;subst dF
 exact PySem.P.getItem_str hr ((congrArg ((iW i a.length).bind ·) (funext λY=>cY ..)).trans hc) (.mk (b:=.str [c]) .refl ⟨_,rfl⟩ x.toks q)
end
section
variable {Q:Bool->aK->Prop}
theorem aAT(q:Q false st):pD C Eqv AA .none st Q X:=λx hv=>by obtain rfl:=(hv:_=_);exact aI (a:=false) (.mk .refl rfl x q)
theorem aAU{b:Bool}(q:Q b st):pD C Eqv AA (.bool b) st Q X:=λx hv=>by obtain rfl:=(hv:_=_);exact s9 (.mk .refl rfl x q)
theorem aFH{i:Int}(q:Q (i !=0) st):pD C Eqv AA (.int i) st Q X:=λx hv=>by refine cD hv λt dF=>?_;subst dF;exact PySem.P.truthy_int (.mk .refl rfl x q)
theorem aFI{l:List Nat}(hz:l.length≤1000000)(q:Q (!l.isEmpty) st):pD C Eqv AA (.str l) st Q X:=λx hv=>by
 refine cD hv λt dF=>?_;subst dF
 refine PySem.P.truthy_str (MF.mpr (iA (fD.mpr hz) (by decide))) (.mk (b:=!l.isEmpty) .refl ?_ x.toks q)
 cases l with
 | nil=>rfl
 | cons a r=>exact bne_iff_ne.mpr λq=>Nat.succ_ne_zero _ (uM q)
end
end
noncomputable def iX{α:Type}(xs:List α)(lo hi st:Option Int):List α:=
 ((G1 (eP lo hi st xs.length).1 (eP lo hi st xs.length).2.1 (eP lo hi st xs.length).2.2).filterMap (xs[·]?))
theorem EV(lo hi st:Option Int)(k:Nat):Builtin.Str.strSliceIndices lo hi (st.getD 1) k=G1 (eP lo hi st k).1 (eP lo hi st k).2.1 (eP lo hi st k).2.2:=by
 cases lo <;> cases hi <;> rfl
theorem rU(vs:List aJ)(lo hi st:Option Int):slicePick (bG vs) lo hi st=bG (iX vs lo hi st):=by
 unfold slicePick iX
 exact congrArg bG (congrArg (HI · _) (funext λ_=>cY ..))
theorem Vs.places{ρ:Roo}{h:c9}{xs:List aA}{vs:List aJ}(e:Vs ρ h xs vs)(is:List Nat):Vs ρ h (is.filterMap (xs[·]?)) (is.filterMap (vs[·]?)):=by
 induction is with
 | nil=>exact .nil
 | cons i r ih=>
  rw[oA,oA]
  cases hx:xs[i]? with
  | none=>
   have:vs[i]? =none:=dC.mpr (e.length▸dC.mp hx)
   rw[this];exact ih
  | some x=>
   refine bS (e.get hx) λv hv z=>?_
   rw[hv];exact .cons z ih
theorem Vs.iX{ρ:Roo}{h:c9}{xs:List aA}{vs:List aJ}(e:Vs ρ h xs vs)(lo hi st:Option Int):Vs ρ h (iX xs lo hi st) (iX vs lo hi st):=by
 unfold Internal.iX
 rw[e.length]
 exact e.places _
theorem w7{α β:Type}(g:α->β)(xs:List α)(lo hi st:Option Int):iX (xs.map g) lo hi st=(iX xs lo hi st).map g:=by
 unfold iX
 rw[aG,List.map_filterMap]
 exact congrArg (HI · _) (funext λ_=>bX ..)
theorem g9{α:Type}(xs:List α)(lo hi st:Option Int):(iX xs lo hi st).length≤xs.length:=by
 have h:=slicePick_size_le (bG (xs.map λ_=>j1)) lo hi st
 rwa [rU,w7,aX,aX,aG,aG] at h
theorem PD(a b:Nat):G1 (a:Int) (b:Int) 1=(cE (b - a)).map (a+·):=by
 have e:(if(a:Int) < b then((b:Int) - a+1 - 1) / 1 else 0).toNat=b - a:=by
  by_cases q:(a:Int) < b
  ·rw[if_pos q,Int.ediv_one,Int.add_sub_cancel,Int.toNat_sub]
  ·rw[if_neg q,Nat.sub_eq_zero_of_le (fD.mp (lC.mp q))];rfl
 have f:(λk:Nat=>((a:Int)+1 * k).toNat)=(a+·):=funext λk=>congrArg (λi=>((a:Int)+i).toNat) (Int.one_mul k)
 exact(congrArg (λn=>(cE n).map _) e).trans (congrArg (List.map · _) f)
theorem aKC{α:Type}{x:List α}{lo hi st:Option Int}{a b:Nat}(h:eP lo hi st x.length=((a:Int),(b:Int),1))(hb:b≤x.length):iX x lo hi st=(x.take b).drop a:=by
 unfold iX
 rw[h,PD,List.drop_take]
 by_cases q:a≤b
 ·exact StrLaws.picks x (b - a) a ((Nat.add_sub_cancel' q).symm▸hb)
 ·rw[Nat.sub_eq_zero_of_le (Nat.le_of_not_le q)];rfl
theorem clip(i:Int)(n:Nat):∃a:Nat,max 0 (min i n)=(a:Int)∧a≤n:=by
 refine cD (Int.eq_ofNat_of_zero_le (Int.le_max_left 0 (min i n))) λa h=>?_
 exact⟨a,h,fD.mp (h▸Int.max_le.mpr ⟨b6 _,Int.min_le_right ..⟩)⟩
theorem aKD(lo hi st:Option Int)(n:Nat)(h:st.getD 1=1):∃a b:Nat,eP lo hi st n=((a:Int),(b:Int),1)∧b≤n:=by
 have l:∃a:Nat,(eP lo hi st n).1=a:=by
  unfold eP;rw[h]
  cases lo with
  | none=>exact⟨0,rfl⟩
  | some i=>exact(clip _ n).imp λ_ x=>x.1
 have u:∃b:Nat,(eP lo hi st n).2.1=b∧b≤n:=by
  unfold eP;rw[h]
  cases hi with
  | none=>exact⟨n,rfl,aZ _⟩
  | some i=>exact clip _ n
 refine cD l λa e=>?_
 refine bS u λb f g=>?_
 exact⟨a,b,Prod.ext e (Prod.ext f h),g⟩
theorem MV{α:Type}(xs:List α)(lo hi st:Option Int)(h1:st.getD 1=1)(h2:(G1 (eP lo hi st xs.length).1 (eP lo hi st xs.length).2.1 (eP lo hi st xs.length).2.2).length=xs.length):iX xs lo hi st=xs:=by
 refine sI (aKD lo hi st xs.length h1) λa b e g=>?_
 rw[e,PD,aG,i7] at h2
 rw[aKC e g]
 exact((List.drop_sublist ..).trans (j8 ..)).eq_of_length (by rw[rO,hY,j3 g,h2])
section
variable {C:Ctx} {st:aK} {X:XQ} {Q:aA->aK->Prop} {A:cF} {g:c9} {ρ:Roo} {s:aM}
def Sb(st:aK):aA->Prop
 | .str _=>True
 | .tup _=>True
 | .aO l=>∃p,st.H[l]? =some p∧((∃xs,p= .lst xs)∨∃ps,p= .wH ps)
 | _=>False
theorem At.aFJ(a:At C A g ρ st s){l:Nat}{p:Pc}{xs:List aA}(e:st.H[l]? =some p)(q:p.ls=some xs){v:aJ}(hv:V ρ s.heap (.aO l) v):∃x,ρ[l]? =some x∧v= .ref x∧∃vs,s.heap.IsList x (bG vs)∧Vs [] s.heap xs vs:=by
 refine bS hv λx hx dE=>?_;subst dE
 have z:=(a.5.5 l _ x e hx).1
 cases p with
 | lst=>obtain rfl:=aD q;obtain⟨o,ho,vs,n,rfl,jB⟩:=z;exact⟨x,hx,rfl,vs,⟨_,ho,rfl,n,rfl⟩,jB⟩
 | fix=>obtain rfl:=aD q;obtain⟨o,ho,_,y,vs,n,e2,jB⟩:=z;exact⟨x,hx,rfl,vs,⟨_,ho,y,n,e2⟩,jB⟩
 | _=>exact bK q
theorem At.YP(a:At C A g ρ st s){l:Nat}{xs:List aA}(e:st.H[l]? =some (.lst xs)){v:aJ}(hv:V ρ s.heap (.aO l) v):∃x,ρ[l]? =some x∧v= .ref x∧∃vs,s.heap.IsList x (bG vs)∧Vs [] s.heap xs vs:=a.aFJ e rfl hv
theorem Sb.type{b:aA}(x:Sb st b)(a:At C A g ρ st s){v:aJ}(hv:V ρ s.heap b v):∃T id,s.TypeIs v T∧gO (.type T) "__getitem__"=pure (some (.builtin id)):=by
 cases b with
 | str=>refine cD hv λt dF=>?_;subst dF;exact⟨_,_,kR _ _ _,F.slot_str_getitem.lookup⟩
 | tup=>refine dW hv λt ws dE ht _=>?_;subst dE;exact⟨_,_,IsTup.typeIs ht,slot_tuple_getitem.lookup⟩
 | aO l=>
  refine bS x λp e h=>?_
  cases h with
  | inl h=>refine cD h λxs dF=>?_;subst dF;obtain⟨y,_,rfl,vs,hl,_⟩:=a.YP e hv;exact⟨_,_,hl.typeIs,list_getitem_lookup⟩
  | inr h=>
   refine cD h λps dF=>?_;subst dF
   refine bS hv λy hy dE=>?_;subst dE
   obtain⟨o,ho,kvs,_,_,es,ep,hx,_⟩:=(a.5.5 l _ y e hy).1
   exact⟨_,_,⟨o,ho,hx.1⟩,slot_dict_getitem.lookup⟩
 | _=>exact x.elim
theorem w8{prog:rM}{w:World}{E:aJ->aM->Prop}{value slice:dO}{o i:aJ}{T id:String}{ops:List aJ}{Q:aJ->aM->Prop}(hT:s.TypeIs o T)
  (hl:gO (.type T) "__getitem__"=pure (some (.builtin id))) (h:bZ (c0 prog w) A (uL o i) Q E s) (hs:BC slice false o i=operate ops (uL o i)):bZ (c0 prog w) A (subscriptTail value slice o i) Q E s:=by
 refine aC ?_
 rw[getitemInPython_of_ne hT.not_modules]
 refine aC (jE hT hl ?_)
 have fin:bZ (c0 prog w) A (BC slice false o i) (λr s₃=>bZ (c0 prog w) A (letTemporaryGo value o r >>=λY=>pure r) Q E s₃) E s:=by
  exact hs▸wpAny_operating (bM h (λr s₃ h₃=>aC (wpAny_letTemporaryGo (aI h₃))) λY Y x=>x)
 first
  | exact aI (aC fin)
  | exact aC (aI (aC fin))
  | exact aC fin
theorem Ev.item{value slice:dO}{pos:Pos}(hs:∀o i,BC slice false o i=operate [o,i] (uL o i))(h:Ev C value st (λb st1=>Ev C slice st1 (λi bW=>Sb bW b∧d3 C V uL b i bW Q X) X) X):Ev C (.Subscript value slice pos) st Q X:=λa=>
 Subscript_ (on (h a) .refl λY l1 r1 a1 q1=>on (q1 a1) l1 λl2 l3 r2 a2 q2=>by
  have hv:=r1.mono l2
  refine sI (q2.1.type a2 hv) λT id hT hl=>?_
  exact w8 hT hl (lift l3 (q2.2 a2 hv r2)) (hs _ _))
theorem At.aAV(a:At C A g ρ st s):(s.heap.objs.size==GY)=false:=by
 refine bS a.3.5 λmc sJ _=>HM sJ λo es ep ho _=>?_
 exact beq_eq_false_iff_ne.mpr λq=>absurd ((q:_=1)▸(c6 (a.5.1 _ _ ho):2 < s.heap.objs.size)) (by decide)
abbrev Eo(C:Ctx)(e:Option dO)(st:aK)(Q:aA->aK->Prop)(X:XQ):Prop:=Wp C V (evalPart e C.env) st Q X
theorem Eo.none(h:Q .none st):Eo C jV st Q X:=λa=>aI (a:=j1) (.mk (b:=.none) .refl rfl a h)
noncomputable def aA.part:aA->Option (Option Int)
 | .none=>some jV
 | .int i=>some (some i)
 | _=>jV
theorem aA.qV{h:c9}{b:aA}{o:Option Int}{v:aJ}(x:b.part=some o)(hv:V ρ h b v):IsPart v o:=by
 cases b with
 | none=>obtain rfl:=aD x;obtain rfl:=(hv:_=_);exact .none
 | int=>obtain rfl:=aD x;refine cD hv λt dF=>?_;subst dF;exact .int _ _
 | _=>exact bK x
theorem IsPart.ex{v:aJ}{o:Option Int}(x:IsPart v o):∃q:Option (Int×Tok),v=partValue q∧q.map (·.1)=o:=by
 cases x with
 | none=>exact⟨jV,rfl,rfl⟩
 | int i t=>exact⟨some (i,t),rfl,rfl⟩
theorem nS{lo hi st:Option dO}{p:Pos}{o i:aJ}:∃ops,BC (.Slice lo hi st p) false o i=operate ops (uL o i):=by
 cases st with
 | none=>exact⟨_,rfl⟩
 | some _=>exact⟨_,rfl⟩
def aFK(b:aA)(st:aK)(lo hi k:Option Int)(Q:aA->aK->Prop):Prop:=match b with
 | .str x=>x.length≤1000000∧Q (.str (iX x lo hi k)) st
 | .aO l=>∃p xs,st.H[l]? =some p∧p.ls=some xs∧xs.length≤1000000∧Q (.aO st.H.length) ⟨st.m,st.H++ [.lst (iX xs lo hi k)]⟩
 | _=>False
theorem BN{E:aJ->aM->Prop}{x:List Nat}{t:Tok}{l u k:aJ}{lo hi sp:Option Int}{p:cI}{prog:rM}{w:World}{Z:aJ->aM->Prop}(pl:IsPart l lo)(pu:IsPart u hi)(pk:IsPart k sp)(h0:sp≠some 0)(hz:x.length≤1000000)(hp:s.heap.get? p=some { cls:=.type "slice",data:=.fields #[l,u,k] })
  (q:∀t' tk,(sp.getD 1≠1->t'=s.toks)->Z (.str (c8 (iX x lo hi sp)) t') { s with toks:=tk }):bZ (c0 prog w) A (uL (.str (c8 x) t) (.ref p)) Z E s:=by
 refine bS (IsPart.ex pl) λql dF dE=>?_;subst dF;subst dE
 refine bS (IsPart.ex pu) λqu dF dE=>?_;subst dF;subst dE
 refine bS (IsPart.ex pk) λqk dF dE=>?_;subst dF;subst dE
 have hn0:((qk.map (·.1)).getD 1==0)=false:=by
  cases qk with
  | none=>rfl
  | some y=>exact beq_eq_false_iff_ne.mpr λz=>h0 (congrArg some z)
 refine getItem_meets (kR _ _ _) (by decide) F.slot_str_getitem F.entry_str_getitem (F.args_str_getitem_2 _ _) (meets_str_getitem_slice (c8 x) t p ql qu qk hn0) ⟨⟨_,hp,rfl,rfl⟩, ?_⟩
 have e:slicePicked (c8 x) ql qu qk=G1 (eP (ql.map (·.1)) (qu.map (·.1)) (qk.map (·.1)) x.length).1 (eP (ql.map (·.1)) (qu.map (·.1)) (qk.map (·.1)) x.length).2.1 (eP (ql.map (·.1)) (qu.map (·.1)) (qk.map (·.1)) x.length).2.2:=EV ..
 have e2:(⟨((slicePicked (c8 x) ql qu qk).filterMap ((c8 x).cps[·]?)).toArray⟩:Str)=c8 (iX x (ql.map (·.1)) (qu.map (·.1)) (qk.map (·.1))):=by
  exact e▸congrArg c8 (congrArg (HI · _) (funext λY=>cY ..))
 unfold sliceMade
 by_cases hc:((qk.map (·.1)).getD 1==1 && (slicePicked (c8 x) ql qu qk).length==(c8 x).length)=true
 ·rw[if_pos hc]
  refine d5 (bP.mp hc) λc1 c2=>?_
  have:=q t s.toks λn=>absurd (eq_of_beq c1) n
  rw[(MV _ _ _ _ (eq_of_beq c1) (by exact(e).symm▸eq_of_beq c2):iX x (ql.map (·.1)) (qu.map (·.1)) (qk.map (·.1))=x)] at this
  exact this
 ·rw[if_neg hc,e2]
  exact⟨aB (g9 ..) (g5 hz rfl),q _ _ λ_=>rfl⟩
theorem Ev.slice{value:dO}{lo hi sx:Option dO}{sp pos:Pos}
  (h:Ev C value st (λb st1=>Eo C lo st1 (λl bW=>Eo C hi bW (λu fL=>Eo C sx fL (λk j6=>∃l' u' k',l.part=some l'∧u.part=some u'∧k.part=some k'∧k'≠some 0∧aFK b j6 l' u' k' Q) X) X) X) X):
  Ev C (.Subscript value (.Slice lo hi sx sp) pos) st Q X:=λa=>by
 refine Subscript_ (on (h a) .refl λ{v s1 b _ _} _ l1 r1 a1 q1=>wpAny_Slice (on (q1 a1) l1 λ{vl s2 _ _ _} l2 l12 r2 a2 q2=>on (q2 a2) l12 λ{vu s3 _ _ _} l3 l13 r3 a3 q3=>on (q3 a3) l13 λ{vk s4 _ _ _} l4 l14 r4 a4 q4=>?_))
 refine EE q4 λl' u' k' pl pu pk h0 q=>?_
 have pl:=aA.qV pl (r2.mono (l3.trans l4))
 have pu:=aA.qV pu (r3.mono l4)
 have pk:=aA.qV pk r4
 have hv:=r1.mono ((l2.trans l3).trans l4)
 have K5:=Ke.push (h:=s4.heap) { cls:=.type "slice",data:=.fields #[vl,vu,vk] }
 have a5:=a4.junk (tk:=s4.toks) K5
 have L5:=l14.trans (.ke K5)
 refine cD (nS (lo:=lo) (hi:=hi) (st:=sx) (p:=sp) (o:=v) (i:=.ref s4.heap.objs.size)) λops ho=>?_
 cases b with
 | str x=>
  refine cD hv λt dF=>?_;subst dF
  exact w8 (kR _ _ _) F.slot_str_getitem.lookup (BN pl pu pk h0 q.1 (bV _ rfl) λt' tk _=>.mk L5 V.str a5.toks q.2) ho
 | aO l=>
  refine MI q λp xs hm hp hz q=>?_
  obtain⟨x,hx,rfl,ws,hl,sL⟩:=a5.aFJ hm hp (hv.mono (.ke K5))
  refine w8 hl.typeIs list_getitem_lookup (wpAny_getItem_list_slice hl (Heap.IsSliceOf.new ..) pl pu pk h0 ?_ (by rw[aX,sL.length];exact g5 hz rfl)) ho
  have K6:=Ke.push (h:=s4.heap.push { cls:=.type "slice",data:=.fields #[vl,vu,vk] }) { cls:=.type "list",data:=.seq (slicePick (bG ws) l' u' k') }
  exact .mk (b:=.aO _) (L5.trans (Le.new K6)) ⟨_,iH a5.5.4,rfl⟩ (a5.new (tk:=s4.toks) (p:=.lst _) K6 fE (.mk (bV _ rfl) (.ty rfl (by decide)) ⟨_,_,by rw[←rU],Vs.mono (.ke K6) (sL.iX l' u' k')⟩ trivial)) q
 | _=>exact q.elim
def Sm(i:Int):Prop:=-(2 ^ 63)≤i∧i < 2 ^ 63
noncomputable def sO(k:Int)(n:Nat):Option Nat:=cond (decide (0≤k)) (cond (decide (k < n)) (some k.toNat) none) (cond (decide (0≤k+n)) (some (k+n).toNat) none)
theorem H0{k:Int}{n:Nat}:iW k n=sO k n:=by
 unfold iW sO
 by_cases h:0≤k
 ·have h1:¬k < 0:=lC.mpr h
  dsimp only
  rw[if_neg h1,decide_eq_true h]
  cases decide (k < n) <;> rfl
 ·have h1:k < 0:=MF.mp h
  have h2:k+n < n:=Int.lt_of_lt_of_le (Int.add_lt_add_right h1 n) (Int.le_of_eq (Int.zero_add _))
  dsimp only
  rw[if_pos h1,decide_eq_false h,decide_eq_true h2,MG]
  cases decide (0≤k+n) <;> rfl
theorem MW{k:Int}{n j:Nat}(h:sO k n=some j):(∃i,k=Int.ofNat i∧i=j)∨(k < 0∧0≤k+n∧(k+n).toNat=j):=by
 unfold sO at h
 by_cases h0:0≤k
 ·rw[decide_eq_true h0] at h
  by_cases h1:k < n
  ·rw[decide_eq_true h1] at h
   obtain rfl:=aD h
   exact .inl ⟨_,(Int.toNat_of_nonneg h0).symm,rfl⟩
  ·rw[decide_eq_false h1] at h;exact bK h
 ·rw[decide_eq_false h0] at h
  by_cases h1:0≤k+n
  ·rw[decide_eq_true h1] at h
   obtain rfl:=aD h
   exact .inr ⟨MF.mp h0,h1,rfl⟩
  ·rw[decide_eq_false h1] at h;exact bK h
theorem UI{xs:List aA}{k:Int}{j:Nat}{b:aA}(hj:sO k xs.length=some j)(hx:xs[j]? =some b)(hk:Sm k)(q:Q b st):d3 C V uL (.tup xs) (.int k) st Q X:=λa hv hw=>by
 refine dW hv λt ws dE ht sL=>?_;subst dE
 refine cD hw λu dF=>?_;subst dF
 refine bS (sL.get hx) λy hy z=>?_
 exact PyProof.Rows.getItem_tuple (j:=j) ht hk.1 hk.2 (by rw[aX,sL.length,H0];exact hj) ((cY ..).trans hy) (.mk .refl z a q)
theorem UJ{l:Nat}{xs:List aA}{k:Int}{j:Nat}{b:aA}(e:st.H[l]? =some (.lst xs))(hj:sO k xs.length=some j)(hx:xs[j]? =some b)(hk:Sm k)(q:Q b st):d3 C V uL (.aO l) (.int k) st Q X:=λa hv hw=>by
 obtain⟨x,_,rfl,ws,hl,sL⟩:=a.YP e hv
 refine cD hw λu dF=>?_;subst dF
 refine bS (sL.get hx) λy hy z=>?_
 have hy:=(cY ..).trans hy
 cases MW hj with
 | inl c=>refine bS c λi dF dE=>?_;subst dF;subst dE;exact wpAny_getItem_list (x:=y) hl (b6 _) hk.2 hy (.mk .refl z.bot a q)
 | inr c=>refine u3 c λc1 c2 dE=>?_;subst dE;exact wpAny_getItem_list_neg (x:=y) hl c1 (by rw[aX,sL.length];exact Int.le_of_add_le_add_right (pJ (Int.le_of_eq (Int.add_left_neg _)) c2)) hk.1 (by rw[aX,sL.length];exact hy) (.mk .refl z.bot a q)
end
section
open PySem.SeqAt
noncomputable def EW(x y:List Nat)(l:Nat)(a1:Nat):List (List Nat):=
 Nat.rec (motive:=λ_=>Nat->List (List Nat)) (λlo=>[x.drop lo]) (λ_ ih lo=>Option.rec [x.drop lo] (λc=>(x.drop lo).take (c - lo)::ih (c+y.length)) (jR x y lo x.length)) l a1
theorem sP(x y:List Nat)(k lo:Nat):EW x y (k+1) lo=Option.rec [x.drop lo] (λc=>(x.drop lo).take (c - lo)::EW x y k (c+y.length)) (jR x y lo x.length):=rfl
noncomputable def UK(x y:List Nat):List (List Nat):=EW x y (x.length+1) 0
noncomputable def jn(sep:List Nat)(l:List (List Nat)):List Nat:=
 List.rec [] (λa r ih=>List.rec a (λ_ _ _=>a++sep++ih) r) l
theorem H2{x y:List Nat}{hi i:Nat}(h:pos x y hi i=true):i+y.length≤hi:=aH (bP.mp h).1
theorem PE{x y:List Nat}{lo hi c:Nat}(h:pos x y hi c=true)(hlo:lo≤c)(hn:∀k,lo≤k->k < c->¬pos x y hi k=true):jR x y lo hi=some c:=by
 unfold jR
 have hc:c≤hi:=aB (aW _ _) (H2 h)
 refine cD (Nat.le.dest hlo) λd dF=>?_;subst dF
 refine cD (Nat.le.dest hc) λe dF=>?_;subst dF
 have q:lo+d+e+1 - lo=d+(1+e):=by rw[b9,b9,lP,cQ 1]
 rw[q,←List.range'_append_1,←List.range'_append_1]
 exact EU h λi hi=>(AD.mp hi).elim λa b=>hn i a b
theorem EX{x y:List Nat}{lo hi:Nat}(hn:∀k,lo≤k->¬pos x y hi k=true):jR x y lo hi=none:=
 List.find?_eq_none.mpr λi hi=>hn i (AD.mp hi).1
theorem UL(s:Str):c8 s.cps.toList=s:=rfl
theorem CT(x:List Nat)(a b:Nat):HJ (c8 x) a b=c8 ((x.drop a).take (b - a)):=by
 have:=StrLaws.strSub_toList (c8 x) a b
 exact(UL _).symm.trans (congrArg c8 this)
theorem H3(x y:List Nat){UM:List Nat}:∀(k lo f:Nat),StrLaws.ChainG (c8 x) (c8 y) x.length lo UM f->(∀k,f≤k->¬EA (c8 x) (c8 y) x.length k)->UM.length≤k->
  StrLaws.partsFrom (c8 x) y.length lo UM=(EW x y k lo).map c8:=by
 induction UM with
 | nil=>
  intro k f lo h hn _
  cases(h:lo=f)
  have e2:EW x y k f= [x.drop f]:=by
   cases k with
   | zero=>rfl
   | succ k=>rw[sP];rw[(EX λi hi q=>hn i hi ((pos_at ..).mpr q):jR x y f x.length=none)]
  rw[e2]
  refine congrArg (· :: []) ((CT _ _ _).trans (congrArg c8 ?_))
  rw[jC,←rO,rP]
 | cons c r ih=>
  intro k lo f h hn hk
  refine aJ3 h λh1 h2 h3 h4=>?_
  cases k with
  | zero=>exact absurd hk (vK _)
  | succ k=>
   rw[sP]
   rw[(PE ((pos_at ..).mp h2) h1 λi a b q=>h3 i a b ((pos_at ..).mpr q):jR x y lo x.length=some c)]
   exact(congrArg (HJ (c8 x) lo c::·) (ih k (c+y.length) f h4 hn (tE hk))).trans (congrArg (· ::_) (CT _ _ _))
theorem BO(x y:List Nat)(hy:1≤y.length)(hk:y.all (· < 256)=true):Txt.split (c8 x) (c8 y)=(UK x y).map c8:=by
 have aFL:¬gK (c8 x) < gK (c8 y):=by
  have:gK (c8 y)=1:=by unfold gK;rw[if_pos (Array.all_toList.symm.trans hk)]
  rw[this]
  unfold gK
  split
  ·decide
  ·split <;> decide
 refine bS (StrLaws.occ_tight (c8 x) (c8 y) hy) λf h1 h2=>?_
 have key:=H3 x y (x.length+1) 0 f h1 h2 (StrLaws.occ_length_le (c8 x) (c8 y) 0 (c8 x).length ((c8 x).length+1))
 unfold Txt.split UK
 split
 ·rename_i q
  have q:=of_decide_eq_true ((eA.mp q).resolve_right λq=>aFL (of_decide_eq_true q))
  rw[sP]
  rw[(EX λi hi q'=>absurd (aB (fO _ _) (H2 q')) (Nat.not_le.mpr q):jR x y 0 x.length=none)]
  rfl
 ·split
  ·rename_i q
   rw[jK.mp q] at key
   rw[←key]
   refine congrArg (· :: []) (Eq.symm ((CT _ _ _).trans (congrArg c8 ?_)))
   exact rP
  ·rw[StrLaws.partsBetween_eq]
   exact key
theorem UN(sep:List Nat){ls:List (List Nat)}:Str.join (c8 sep) (ls.map c8)=c8 (jn sep ls):=by
 induction ls with
 | nil=>rfl
 | cons a r ih=>
  cases r with
  | nil=>rfl
  | cons b r=>
   show c8 a++c8 sep++Str.join (c8 sep) ((b::r).map c8)=c8 (a++sep++jn sep (b::r))
   rw[ih,oP,oP]
noncomputable def dec(k:Nat):List Nat:=(Nat.toDigits 10 k).map Char.toNat
theorem J7(k:Nat):gV (toString (k:Int))=c8 (dec k):=text_ofNat k
noncomputable def w9(x:List Nat):List Nat:=x.map up1
noncomputable def tU(x:List Nat):List Nat:=x.map lo1
noncomputable def asc(x:List Nat):Bool:=x.all (dT · 128)
theorem PG{x:List Nat}(h:asc x=true):∀c∈x,c < 128:=λc hc=>aH (bN.mp h c hc)
theorem PH{x:List Nat}(h:asc x=true):Txt.upper (c8 x)=c8 (w9 x):=(upper_ascii (PG h)).trans (congrArg Str.mk (List.map_toArray ..))
theorem PI{x:List Nat}(h:asc x=true):Txt.lower (c8 x)=c8 (tU x):=(lower_ascii (PG h)).trans (congrArg Str.mk (List.map_toArray ..))
noncomputable def nT(x y:List Nat):Bool:=x.take y.length==y
noncomputable def tV(x y:List Nat):Bool:=eB y.length x.length && (x.drop (x.length - y.length)==y)
theorem find_eq(x y:List Nat):Txt.find (c8 x) (c8 y)=BM (jR x y 0 x.length):=J6 x y 0 x.length
theorem H4{x y:List Nat}(h:¬y.length≤x.length):(x.take y.length==y)=false:=beq_eq_false_iff_ne.mpr λq=>h (by exact(q).symm▸uX ..)
theorem MX(x y:List Nat):Txt.startswith (c8 x) (c8 y)=nT x y:=by
 unfold Txt.startswith nT
 rw[jC,jC,xZ]
 by_cases h:y.length≤x.length
 ·rw[cZ,decide_eq_true h];rfl
 ·rw[cZ,decide_eq_false h,H4 h];rfl
theorem UO(x y:List Nat):Txt.endswith (c8 x) (c8 y)=tV x y:=by
 unfold Txt.endswith tV
 rw[jC,jC,xZ,cZ]
 by_cases h:y.length≤x.length
 ·rw[decide_eq_true h,Nat.ble_eq.mpr h,sG (by rw[rO];exact cC (Nat.sub_sub_self h))]
 ·have h':eB y.length x.length=false:=Bool.eq_false_iff.mpr λq=>h (aH q)
  rw[decide_eq_false h,h'];rfl
theorem MY(x:List Nat)(c:Nat):Txt.count (c8 x) (c8 [c])=(x.count c:Nat):=by
 refine(count_cnt (c8 x) c).trans ?_
 show PyProof.Rows.cnt c x=_
 induction x with
 | nil=>rfl
 | cons a r ih=>
  rw[cnt_cons,ih,List.count_cons]
  by_cases e:a=c
  ·rw[if_pos e,beq_iff_eq.mpr e,if_pos rfl];exact Int.add_comm ..
  ·rw[if_neg e,beq_eq_false_iff_ne.mpr e,if_neg bH];exact Int.zero_add _
end
section
open PySem.SeqAt
section
variable {C:Ctx} {st:aK} {X:XQ} {Q:aA->aK->Prop} {A:cF} {g:c9} {ρ:Roo} {s:aM}
theorem OD.blt{M:rL}{h:c9}{i:String}:OD M h (.builtin i):=⟨.machine,by decide,by decide,Looks.now⟩
theorem OD.typ{M:rL}{h:c9}{i:String}:OD M h (.type i):=⟨.machine,by decide,by decide,Looks.now⟩
theorem fM.b{id:String}{as:List aA}(h:OpN C V (λvs=>call (.builtin id) vs) as st Q X):fM C (.blt id) as [] [] st Q X:=λa hf hv hw=>by obtain rfl:=(hf:_=_);exact⟨.blt,h a hv⟩
theorem fM.t{id:String}{as:List aA}(h:OpN C V (λvs=>call (.type id) vs) as st Q X):fM C (.typ id) as [] [] st Q X:=λa hf hv hw=>by obtain rfl:=(hf:_=_);exact⟨.typ,h a hv⟩
theorem fM.bs{id:String}{x:List Nat}{c:aA}(h:∀(A:cF) (s:aM) (t:Tok) (Q':aJ->aM->Prop) (E:aJ->aM->Prop),(∀v tk,Flat c v->Q' v { s with toks:=tk })->bZ (c0 C.D.prog C.D.w) A (call (.builtin id) [.str (c8 x) t]) Q' E s)(q:Q c st):fM C (.blt id) [.str x] [] [] st Q X:=λa hf hv hw=>by
 obtain rfl:=(hf:_=_)
 refine dW hv λ_ _ dF EY e=>cD EY λt rF=>?_;subst dF;subst rF
 obtain rfl:=(e:_= [])
 exact⟨.blt,h _ _ t _ _ λv tk f=>.mk .refl (f _ _) a.toks q⟩
theorem fM.bss{id:String}{x y:List Nat}{c:aA}(h:∀(A:cF) (s:aM) (t u:Tok) (Q':aJ->aM->Prop) (E:aJ->aM->Prop),(∀v tk,Flat c v->Q' v { s with toks:=tk })->bZ (c0 C.D.prog C.D.w) A (call (.builtin id) [.str (c8 x) t,.str (c8 y) u]) Q' E s)(q:Q c st):fM C (.blt id) [.str x,.str y] [] [] st Q X:=λa hf hv hw=>by
 obtain rfl:=(hf:_=_)
 obtain⟨_,_,rfl,⟨t,rfl⟩,_,_,rfl,⟨u,rfl⟩,e⟩:=hv
 obtain rfl:=(e:_= [])
 exact⟨.blt,h _ _ t u _ _ λv tk f=>.mk .refl (f _ _) a.toks q⟩
theorem fM.b4{id:String}{x y:List Nat}{a b:Int}{c:aA}(h:∀(A:cF) (s:aM) (t1 t2 t3 t4:Tok) (Q':aJ->aM->Prop) (E:aJ->aM->Prop),(∀v tk,Flat c v->Q' v { s with toks:=tk })->bZ (c0 C.D.prog C.D.w) A (call (.builtin id) [.str (c8 x) t1,.str (c8 y) t2,.int a t3,.int b t4]) Q' E s)(q:Q c st):fM C (.blt id) [.str x,.str y,.int a,.int b] [] [] st Q X:=λz hf hv hw=>by
 obtain rfl:=(hf:_=_)
 obtain⟨_,_,rfl,⟨t1,rfl⟩,_,_,rfl,⟨t2,rfl⟩,_,_,rfl,⟨t3,rfl⟩,_,_,rfl,⟨t4,rfl⟩,e⟩:=hv
 obtain rfl:=(e:_= [])
 exact⟨.blt,h _ _ t1 t2 t3 t4 _ _ λv tk f=>.mk .refl (f _ _) z.toks q⟩
theorem fM.ts{id:String}{x:List Nat}{c:aA}(h:∀(A:cF) (s:aM) (t:Tok) (Q':aJ->aM->Prop) (E:aJ->aM->Prop),(∀v tk,Flat c v->Q' v { s with toks:=tk })->bZ (c0 C.D.prog C.D.w) A (call (.type id) [.str (c8 x) t]) Q' E s)(q:Q c st):fM C (.typ id) [.str x] [] [] st Q X:=λa hf hv hw=>by
 obtain rfl:=(hf:_=_)
 refine dW hv λ_ _ dF EY e=>cD EY λt rF=>?_;subst dF;subst rF
 obtain rfl:=(e:_= [])
 exact⟨.typ,h _ _ t _ _ λv tk f=>.mk .refl (f _ _) a.toks q⟩
theorem fM.ti{id:String}{x:Int}{c:aA}(h:∀(A:cF) (s:aM) (t:Tok) (Q':aJ->aM->Prop) (E:aJ->aM->Prop),(∀v tk,Flat c v->Q' v { s with toks:=tk })->bZ (c0 C.D.prog C.D.w) A (call (.type id) [.int x t]) Q' E s)(q:Q c st):fM C (.typ id) [.int x] [] [] st Q X:=λa hf hv hw=>by
 obtain rfl:=(hf:_=_)
 refine dW hv λ_ _ dF EY e=>cD EY λt rF=>?_;subst dF;subst rF
 obtain rfl:=(e:_= [])
 exact⟨.typ,h _ _ t _ _ λv tk f=>.mk .refl (f _ _) a.toks q⟩
noncomputable def Pc.ty:Pc->Option String
 | .lst _=>some "list"
 | .wH _=>some "dict"
 | _=>none
noncomputable def PJ(st:aK):aA->Option String
 | .str _=>some "str"
 | .aO l=>st.H[l]?.bind Pc.ty
 | _=>none
theorem At.PJ(a:At C A g ρ st s){b:aA}{T:String}(e:PJ st b=some T){v:aJ}(hv:V ρ s.heap b v):s.TypeIs v T∧∀x,v= .ref x->∃o,s.heap.get? x=some o∧o.dict=none:=by
 cases b with
 | str=>obtain rfl:=aD e;refine cD hv λt dF=>?_;subst dF;exact⟨kR _ _ _,λY e=>nomatch e⟩
 | aO l=>
  refine bS hv λy hy dE=>?_;subst dE
  refine bS (Option.bind_eq_some_iff.mp e) λp hp e=>?_
  refine bS ((a.5.5 l _ y hp hy).1) λo ho z=>?_
  cases p with
  | lst=>obtain rfl:=aD e;refine sI z λvs n dE _=>?_;subst dE;exact⟨⟨_,ho,rfl⟩,λY e=>by cases e;exact⟨_,ho,rfl⟩⟩
  | wH=>obtain rfl:=aD e;obtain⟨kvs,_,_,es,ep,hx,_⟩:=z;exact⟨⟨_,ho,hx.1⟩,λY e=>by cases e;exact⟨_,ho,hx.2.1⟩⟩
  | _=>exact bK e
 | _=>exact bK e
theorem Gm.b{b:aA}{T:String}{name:Str}{id:String}{Q:aA×List aA->aK->Prop}(e:PJ st b=some T)(pa:PlainAttrs T)(slot:Slot T name id)(hty:typeOf (.builtin id)=pure (.type "method_descriptor"))(q:Q (.blt id,[b]) st):Gm C name b st Q X:=λpl Y Y Y Y Y a hv=>
 getMethod_builtin (a.PJ e hv).1 pa slot hty (a.PJ e hv).2 (.mk (b:=(.blt id,[b])) .refl ⟨rfl,.cons hv .nil⟩ a q)
section
variable {x y:List Nat}
theorem aAW(q:Q (.int (BM (jR x y 0 x.length))) st):fM C (.blt "str.find") [.str x,.str y] [] [] st Q X:=fM.bss (λA s t u Q' E k=>SC.find (find_eq x y▸k _ _ .int)) q
theorem CU(q:Q (.bool (nT x y)) st):fM C (.blt "str.startswith") [.str x,.str y] [] [] st Q X:=fM.bss (λA s t u Q' E k=>SC.startswith ((MX x y).symm▸k _ s.toks .bool)) q
theorem H5(q:Q (.bool (tV x y)) st):fM C (.blt "str.endswith") [.str x,.str y] [] [] st Q X:=fM.bss (λA s t u Q' E k=>SC.endswith ((UO x y).symm▸k _ s.toks .bool)) q
theorem tW{a n:Nat}:(max (0:Int) (if(a:Int) < 0 then(a:Int)+(n:Nat) else a)).toNat=a:=by
 rw[if_neg (lC.mpr (b6 a)),Int.max_eq_right (b6 a)];rfl
theorem EZ(x y:List Nat)(a b:Nat)(hb:b≤x.length)(t u v w:Tok):Gives (lS.«str.find» ⟨[.str (c8 x) t,.str (c8 y) u,.int a v,.int b w],[]⟩) (.int (BM (jR x y a b))):=by
 show Gives (match dG (c8 x) (c8 y) (max (0:Int) (if(a:Int) < 0 then(a:Int)+((c8 x).length:Nat) else a)).toNat (min (max (0:Int) (if(b:Int) < 0 then(b:Int)+((c8 x).length:Nat) else b)).toNat (c8 x).length) 1 with | k::_=>retInt k | []=>(do rule "str.find.not-found";retInt (-1))) _
 rw[tW,tW,jC,j3 hb,←J6]
 cases dG (c8 x) (c8 y) a b 1 with
 | nil=>exact .rule (.of_eq rfl)
 | cons k _=>exact .of_eq rfl
theorem CV(x y:List Nat)(a b:Nat)(hb:b≤x.length)(t u v w:Tok):Gives (lS.«str.rfind» ⟨[.str (c8 x) t,.str (c8 y) u,.int a v,.int b w],[]⟩) (.int (BM (wO x y a b))):=by
 show Gives (match xM (c8 x) (c8 y) (max (0:Int) (if(a:Int) < 0 then(a:Int)+((c8 x).length:Nat) else a)).toNat (min (max (0:Int) (if(b:Int) < 0 then(b:Int)+((c8 x).length:Nat) else b)).toNat (c8 x).length) with | some k=>retInt k | jV=>(do rule "str.rfind.not-found";retInt (-1))) _
 rw[tW,tW,jC,j3 hb,MU]
 cases wO x y a b with
 | none=>exact .rule (.of_eq rfl)
 | some k=>exact .of_eq rfl
theorem UP{a b:Nat}(hb:b≤x.length)(q:Q (.int (BM (jR x y a b))) st):fM C (.blt "str.find") [.str x,.str y,.int a,.int b] [] [] st Q X:=fM.b4 (λA s t1 t2 t3 t4 Q' E k=>
 lY PySem.F.slot_str_find (kR _ _ _) PySem.F.entry_str_find (PySem.F.args_str_find_4 _ _ _ _) (EZ x y a b hb _ _ _ _).meets (k _ _ .int)) q
theorem PK{a b:Nat}(hb:b≤x.length)(q:Q (.int (BM (wO x y a b))) st):fM C (.blt "str.rfind") [.str x,.str y,.int a,.int b] [] [] st Q X:=fM.b4 (λA s t1 t2 t3 t4 Q' E k=>
 lY PySem.F.slot_str_rfind (kR _ _ _) PySem.F.entry_str_rfind (PySem.F.args_str_rfind_4 _ _ _ _) (CV x y a b hb _ _ _ _).meets (k _ _ .int)) q
theorem UQ(ha:asc x=true)(hz:x.length≤1000000)(q:Q (.str (w9 x)) st):fM C (.blt "str.upper") [.str x] [] [] st Q X:=fM.bs (λA s t Q' E k=>SC.upper (by rw[PH ha,jC];exact decide_eq_false (qG.mpr ((aG ..).symm▸g5 hz rfl))) (by rw[PH ha];exact k _ _ .str)) q
theorem UR(ha:asc x=true)(hz:x.length≤1000000)(q:Q (.str (tU x)) st):fM C (.blt "str.lower") [.str x] [] [] st Q X:=fM.bs (λA s t Q' E k=>SC.lower (by rw[PI ha,jC];exact decide_eq_false (qG.mpr ((aG ..).symm▸g5 hz rfl))) (by rw[PI ha];exact k _ _ .str)) q
theorem US{c:Nat}(q:Q (.int (x.count c:Nat)) st):fM C (.blt "str.count") [.str x,.str [c]] [] [] st Q X:=fM.bss (λA s t u Q' E k=>SC.count ((MY x c).symm▸k _ _ .int)) q
theorem MZ{k:Nat}(h:k < 10 ^ 10):(k:Int).natAbs.log2 < 1920:=by
 rw[pK]
 by_cases hk:k=0
 ·subst hk;decide
 ·exact gU ((G2 hk (k:=34)).mpr (bR h (by decide))) (by decide)
theorem aKE{k:Nat}(hk:k < 10 ^ 10)(q:Q (.str (dec k)) st):fM C (.typ "str") [.int k] [] [] st Q X:=fM.ti (λA s t Q' E K=>PySem.P.str_of_int (MZ hk) (by show Q' (.str (gV (toString (k:Int))) _) _;rw[J7];exact K _ _ .str)) q
theorem aKF(q:Q (.str x) st):fM C (.typ "str") [.str x] [] [] st Q X:=fM.ts (λA s t Q' E K=>PySem.P.str_of_str (K _ s.toks .str)) q
theorem aKG{k:Nat}(hk:k < 10 ^ 10)(q:Q (.int k) st):fM C (.typ "int") [.str (dec k)] [] [] st Q X:=fM.ts (λA s t Q' E K=>by
 rw[←J7]
 exact KIN.call_num (b6 _) (lA.mpr hk) (K _ _ .int)) q
theorem aAX(hz:x.length≤1000000)(q:Q (.int x.length) st):fM C (.blt "len") [.str x] [] [] st Q X:=fM.bs (λA s t Q' E K=>PySem.P.len_str (MF.mpr (iA (fD.mpr hz) (by decide))) (K _ _ .int)) q
end
end
end
section
open PySem.SeqAt
theorem Vs.bot{ρ:Roo}{h:c9}{as:List aA}{vs:List aJ}(e:Vs [] h as vs):Vs ρ h as vs:=e.mono ⟨λY Y q=>absurd q (λq=>by exact bK q),λY Y x=>x⟩
noncomputable def tX{α:Type}(xs:List α)(k:Nat)(x:α):List α:=xs.take k++x::xs.drop k
section
variable {ρ:Roo} {h:c9}
theorem Vs.take{xs:List aA}:∀{vs:List aJ} (k:Nat),Vs ρ h xs vs->Vs ρ h (xs.take k) (vs.take k):=by
 induction xs with
 | nil=>intro vs k e;obtain rfl:=(e:_= []);rw[List.take_nil];rw[List.take_nil];exact .nil
 | cons x xs ih=>
  intro vs k e
  refine dW e λv r dE a b=>?_;subst dE
  cases k with
  | zero=>exact .nil
  | succ k=>exact .cons a (ih k b)
theorem Vs.drop{xs:List aA}:∀{vs:List aJ} (k:Nat),Vs ρ h xs vs->Vs ρ h (xs.drop k) (vs.drop k):=by
 induction xs with
 | nil=>intro vs k e;obtain rfl:=(e:_= []);rw[List.drop_nil];rw[List.drop_nil];exact .nil
 | cons x xs ih=>
  intro vs k e
  cases k with
  | zero=>exact e
  | succ k=>refine dW e λv r dE a b=>?_;subst dE;exact ih k b
theorem Vs.erase{xs:List aA}:∀{vs:List aJ} (k:Nat),Vs ρ h xs vs->Vs ρ h (xs.eraseIdx k) (vs.eraseIdx k):=by
 induction xs with
 | nil=>intro vs k e;obtain rfl:=(e:_= []);exact .nil
 | cons x xs ih=>
  intro vs k e
  refine dW e λv r dE a b=>?_;subst dE
  cases k with
  | zero=>exact b
  | succ k=>exact .cons a (ih k b)
theorem BP(vs:List aJ)(k:Nat):(bG vs).eraseIdxIfInBounds k=bG (vs.eraseIdx k):=by
 unfold Array.eraseIdxIfInBounds
 split
 ·exact List.eraseIdx_toArray ..
 ·rename_i q;rw[List.eraseIdx_of_length_le (fV q)]
end
theorem E4{k:Nat}(h:k≤1000000):cX k=true:=by
 unfold cX
 rw[Bool.and_eq_true,decide_eq_true_eq,decide_eq_true_eq]
 exact⟨pJ (by decide) (b6 k),iA (fD.mpr h) (by decide)⟩
section
variable {C:Ctx} {st:aK} {X:XQ} {Q:aA->aK->Prop} {A:cF} {g:c9} {ρ:Roo} {s:aM} {l:Nat} {xs ys:List aA}
inductive LstAt(ρ:Roo)(s:aM)(l:Nat)(xs:List aA):aJ->Prop
 | mk (x:cI) (vs:List aJ) (n:Nat) (hx:ρ[l]? =some x) (ho:IsL s.heap x (bG vs) n) (hv:Vs [] s.heap xs vs):LstAt ρ s l xs (.ref x)
theorem At.x5(a:At C A g ρ st s)(e:st.H[l]? =some (.lst xs)){v:aJ}(hv:V ρ s.heap (.aO l) v):LstAt ρ s l xs v:=by
 refine bS hv λx hx dE=>?_;subst dE
 obtain⟨o,ho,vs,n,rfl,jB⟩:=(a.5.5 l _ x e hx).1
 exact⟨x,vs,n,hx,ho,jB⟩
theorem At.aFM(a:At C A g ρ st s){x:cI}{h':c9}{ws:List aJ}{k:Nat}{tk:Nat}{o:Obj}(hx:ρ[l]? =some x)(ho:s.heap.get? x=some o)(hn:NT o)(hs:eY x s.heap h')(hl:IsL h' x (bG ws) k)(hv:Vs [] s.heap ys ws):At C A g ρ ⟨st.m,st.H.set l (.lst ys)⟩ { s with heap:=h',toks:=tk }∧Le ρ s.heap ρ h':=
 have T:=TK.but hs.2 ho hn
 ⟨a.upd hx hs.2 T (.mk hl (.ty rfl (by decide)) ⟨ws,k,rfl,hv.mono (.of T)⟩ trivial),.of T⟩
theorem At.H6(a:At C A g ρ st s){x:cI}{vs ws:List aJ}{k:Nat}{fn:Array aJ->Array aJ}{tk:Nat}(hx:ρ[l]? =some x)(hl:IsL s.heap x (bG vs) k)(he:fn (bG vs)=bG ws)(hv:Vs [] s.heap ys ws):
  At C A g ρ ⟨st.m,st.H.set l (.lst ys)⟩ { s with heap:=s.heap.update x (uY fn),toks:=tk }∧Le ρ s.heap ρ (s.heap.update x (uY fn)):=
 a.aFM hx hl (.ty rfl (by decide)) (iD ..) (he▸hl.update fn) hv
theorem E5{b:aA}(e:st.H[l]? =some (.lst xs))(hb:b.pure=true)(hz:xs.length≤1000000)(q:Q .none ⟨st.m,st.H.set l (.lst (xs++ [b]))⟩):fM C (.blt "list.append") [.aO l,b] [] [] st Q X:=fM.b λa hv=>by
 obtain⟨_,_,rfl,h1,w,_,rfl,h2,e0⟩:=hv
 obtain rfl:=(e0:_= [])
 cases a.x5 e h1 with
 | mk x vs n hx hl jB=>
  refine wpAny_list_append_plain ⟨n,hl⟩ (λh' hl' hs=>?_) (by rw[aX,jB.length];exact g5 hz rfl)
  refine cD hl' λk hk=>?_
  obtain⟨a',L⟩:=a.aFM (tk:=_) hx hl (.ty rfl (by decide)) hs (k:=k) (ws:=vs++ [w]) (ys:=xs++ [b]) (by rw[←List.push_toArray];exact hk) (.append' jB (.cons (h2.pure hb) .nil))
  exact .mk (b:=.none) L rfl a' q
theorem J8{k:Int}{j:Nat}{b:aA}(e:st.H[l]? =some (.lst xs))(hj:sO k xs.length=some j)(hb:xs[j]? =some b)(hf:cX k=true)(hz:xs.length≤1000000)(q:Q b ⟨st.m,st.H.set l (.lst (xs.eraseIdx j))⟩):
  fM C (.blt "list.pop") [.aO l,.int k] [] [] st Q X:=fM.b λ{_ _ _ s _} a hv=>by
 obtain⟨_,_,rfl,h1,w,_,rfl,⟨u,rfl⟩,e0⟩:=hv
 obtain rfl:=(e0:_= [])
 cases a.x5 e h1 with
 | mk x vs c hx hl jB=>
  refine bS (jB.get hb) λy hy z=>?_
  refine d5 (a.H6 (tk:=s.toks) (fn:=λxs=>xs.eraseIdxIfInBounds j) hx hl (BP vs j) (jB.erase j)) λa' L=>?_
  have hs:=jB.length
  exact lY PySem.F.slot_list_pop ⟨_,hl,rfl⟩ PySem.F.entry_list_pop (PySem.F.args_list_pop_2 _ _) (MeetsSeq.list_pop_at x (bG vs) c k u j y hf (by rw[aX,hs,H0];exact hj) ((cY ..).trans hy) (by rw[aX,hs];exact g5 hz rfl))
   ⟨hl,.mk L (z.bot.mono L) a' q⟩
theorem M0{k:Nat}{i:Int}{b:aA}(hi:i=(k:Int))(e:st.H[l]? =some (.lst xs))(hb:b.pure=true)(hk:k≤xs.length)(hz:xs.length≤1000000)(q:Q .none ⟨st.m,st.H.set l (.lst (tX xs k b))⟩):fM C (.blt "list.insert") [.aO l,.int i,b] [] [] st Q X:=fM.b λ{_ _ _ s _} a hv=>by
 obtain⟨_,_,rfl,h1,w,_,rfl,⟨u,rfl⟩,y,_,rfl,hy,e0⟩:=hv
 obtain rfl:=(e0:_= [])
 cases a.x5 e h1 with
 | mk x vs c hx hl jB=>
  have hs:=jB.length
  have e:((λxs:Array aJ=>have j:=if i < 0 then(i+(xs.size:Int)).toNat else min i.toNat xs.size;(xs.extract 0 j).push y++xs.extract j) (bG vs))=bG (tX vs k y):=by
   have h0:¬(i < 0):=hi▸lC.mpr (b6 k)
   have h1:min i.toNat vs.length=k:=hi▸j3 (hs▸hk)
   dsimp only
   rw[if_neg h0,aX,h1]
   apply Array.toList_inj.mp
   unfold tX
   simp
   rw[sG (by simp)]
  refine d5 (a.H6 (tk:=s.toks) (ys:=tX xs k b) (ws:=tX vs k y) (fn:=λxs:Array aJ=>have j:=if i < 0 then(i+(xs.size:Int)).toNat else min i.toNat xs.size;(xs.extract 0 j).push y++xs.extract j) hx hl e (.append' (jB.take k) (.cons (hy.pure hb) (jB.drop k)))) λa' L=>?_
  have aKH:cX i=true:=by exact hi▸E4 (aB hk hz)
  have aFN:¬(!Builtin.List.listFitsIndex i)=true:=by rw[aKH];exact bH
  have hsz:(bG vs).size≤sizeLine:=g5 (by rw[aX,hs];exact hz) rfl
  exact lY PySem.F.slot_list_insert ⟨_,hl,rfl⟩ PySem.F.entry_list_insert (PySem.F.args_list_insert_3 _ _ _) (AutoSeq1.list_insert_list_int_val_1 x (bG vs) c i u y aFN hsz) ⟨hl,.mk (b:=.none) L rfl a' q⟩
theorem PL{k:Nat}{b:aA}(e:st.H[l]? =some (.lst xs))(hb:b.pure=true)(hk:k≤xs.length)(hz:xs.length≤1000000)(q:Q .none ⟨st.m,st.H.set l (.lst (tX xs k b))⟩):fM C (.blt "list.insert") [.aO l,.int k,b] [] [] st Q X:=M0 rfl e hb hk hz q
theorem aAY(e:st.H[l]? =some (.lst xs))(hz:xs.length≤1000000)(q:Q (.int xs.length) st):fM C (.blt "len") [.aO l] [] [] st Q X:=fM.b λa hv=>by
 refine dW hv λ_ _ dE h1 e0=>?_;subst dE
 obtain rfl:=(e0:_= [])
 cases a.x5 e h1 with
 | mk x vs c hx hl jB=>
  exact call_len_list hl.isList (by rw[aX,jB.length];exact iA (fD.mpr hz) (by decide)) (.mk (b:=.int xs.length) .refl ⟨_,by rw[aX,jB.length]⟩ a.toks q)
end
end
section
open PySem.SeqAt
noncomputable def kJ(l:List (List Nat)):Nat:=
 List.rec 0 (λa _ ih=>a.length+ih) l
theorem M1(ls:List (List Nat)):((ls.map c8).map (·.length)).sum=kJ ls:=by
 induction ls with
 | nil=>rfl
 | cons a r ih=>exact(xN ..).trans (congrArg (a.length+·) ih)
theorem UT{x:List Nat}{ls:List (List Nat)}(h:kJ ls+ls.length * x.length≤1000000):JoinOk (c8 x) (ls.map c8)=true:=by
 have:=StrLaws.joinTotal (c8 x) (ls.map c8)
 unfold JoinOk
 rw[this,M1,jC,aG]
 exact congrArg (!·) (decide_eq_false (qG.mpr (g5 (n:=sizeLine) h rfl)))
theorem UU{ρ:Roo}{h:c9}{ls:List (List Nat)}:∀{vs:List aJ},Vs ρ h (ls.map .str) vs->∃l:List (Str×Tok),vs=strValues l∧l.map (·.1)=ls.map c8:=by
 induction ls with
 | nil=>intro _ e;obtain rfl:=(e:_= []);exact⟨[],rfl,rfl⟩
 | cons a r ih=>
  intro _ e
  obtain⟨v,r',rfl,⟨t,rfl⟩,h2⟩:=e
  refine bS (ih h2) λl dF e=>?_;subst dF
  exact⟨(c8 a,t)::l,rfl,congrArg (c8 a::·) e⟩
theorem Vs.texts{ρ:Roo}{h:c9}{l:List (Str×Tok)}:∀{ys:List (List Nat)},l.map (·.1)=ys.map c8->Vs ρ h (ys.map .str) (strValues l):=by
 induction l with
 | nil=>intro ys e;cases ys with
  | nil=>exact .nil
  | cons=>cases e
 | cons p r ih=>intro ys e;cases ys with
  | nil=>cases e
  | cons b ys=>
   obtain⟨a,t⟩:=p
   refine d5 (List.cons.inj e) λe1 e2=>?_
   obtain rfl:=(e1:a=_)
   exact .cons V.str (ih e2)
theorem xA{a b:List Nat}(h:c8 a=c8 b):a=b:=congrArg (λs:Str=>s.cps.toList) h
theorem xB{ρ:Roo}{h:c9}{ys:List (List Nat)}:∀{vs:List aJ},Vs ρ h (ys.map .str) vs->StrsAre vs (ys.map c8):=by
 induction ys with
 | nil=>intro _ e;obtain rfl:=(e:_= []);exact .nil
 | cons y ys ih=>intro _ e;refine dW e λv r dF EY b=>cD EY λt rF=>?_;subst dF;subst rF;exact .cons _ _ (ih b)
theorem J9(k:List Nat)(ys:List (List Nat)):(ys.map c8).any (· ==c8 k)=ys.any (· ==k):=by
 induction ys with
 | nil=>rfl
 | cons y ys ih=>
  rw[xO,List.any_cons,List.any_cons,ih]
  refine congrArg (· || _) ?_
  by_cases e:y=k
  ·rw[e,beq_self_eq_true,beq_self_eq_true]
  ·rw[beq_eq_false_iff_ne.mpr e,beq_eq_false_iff_ne.mpr λq=>e (xA q)]
theorem vQ(x y:List Nat)(k:Nat):∀lo,(EW x y k lo).length≤k+1:=by
 induction k with
 | zero=>intro lo;exact aZ 1
 | succ k ih=>
  intro lo
  rw[sP]
  cases jR x y lo x.length with
  | none=>exact fO 1 _
  | some c=>exact cH (ih _)
section
variable {C:Ctx} {st:aK} {X:XQ} {Q:aA->aK->Prop} {A:cF} {g:c9} {ρ:Roo} {s:aM} {l:Nat} {xs:List aA} {x y:List Nat} {ls:List (List Nat)}
theorem aAZ(e:st.H[l]? =some (.lst (ls.map .str)))(hz:kJ ls+ls.length * x.length≤1000000)(q:Q (.str (jn x ls)) st):fM C (.blt "str.join") [.str x,.aO l] [] [] st Q X:=fM.b λa hv=>by
 obtain⟨_,_,rfl,⟨t,rfl⟩,w,_,rfl,h2,e0⟩:=hv
 obtain rfl:=(e0:_= [])
 cases a.x5 e h2 with
 | mk y vs n hx hl jB=>
  refine bS (UU jB) λl dF e=>?_;subst dF
  refine SC.join hl.isList e (UT hz) λt' k=>.mk (b:=.str (jn x ls)) .refl ⟨t', ?_⟩ a.toks q
  show Value.str (Builtin.Str.glued (c8 x) (ls.map c8)) t'=_
  rw[StrLaws.glued_eq_join,UN]
theorem At.UV(a:At C A g ρ st s){o:Obj}{p:Pc}{tk:Nat}(n:NT o)(h:∀ρ' h',Le ρ s.heap ρ' h'->p.obj C.D ρ' h' o)(q:Q (.aO st.H.length) ⟨st.m,st.H++ [p]⟩)(y:p.sys s.heap.objs.size)(hf:o.isFreed=false):pX C A g ρ s.heap V Q (.ref s.heap.objs.size) { s with heap:=s.heap.push o,toks:=tk }:=
 .mk (b:=.aO _) (Le.new (Ke.push _)) ⟨_,iH a.5.4,rfl⟩ (a.new (Ke.push _) fE (.mk (bV _ hf) n (h _ _ (Le.new (Ke.push _))) y)) q
theorem KA{k:Nat}(hk:k < 1000000)(q:Q (.aO st.H.length) ⟨st.m,st.H++ [.oK k]⟩):fM C (.typ "range") [.int k] [] [] st Q X:=fM.t λa hv=>by
 refine dW hv λ_ _ dF EY e0=>cD EY λt rF=>?_;subst dF;subst rF
 obtain rfl:=(e0:_= [])
 exact call_range_1 (a.UV (p:=.oK k) (.ty rfl (by decide)) (λY Y Y=>⟨_,_,_,rfl⟩) q trivial rfl)
theorem UW(hy:1≤y.length)(hk:y.all (· < 256)=true)(hz:x.length≤1000000)(q:Q (.aO st.H.length) ⟨st.m,st.H++ [.lst ((UK x y).map .str)]⟩):fM C (.blt "str.split") [.str x,.str y] [] [] st Q X:=fM.b λ{A g ρ s _} a hv=>by
 obtain⟨_,_,rfl,⟨t,rfl⟩,_,_,rfl,⟨u,rfl⟩,e0⟩:=hv
 obtain rfl:=(e0:_= [])
 have fin:∀(l:List (Str×Tok)) tk,l.map (·.1)=Txt.split (c8 x) (c8 y)->pX C A g ρ s.heap V Q (.ref s.heap.objs.size) { s with toks:=tk,heap:=s.heap.push { cls:=.type "list",data:=.seq (strValues l).toArray } }:=λl tk hl=>
  a.UV (p:=.lst _) (.ty rfl (by decide)) (λY Y Y=>⟨strValues l,0,rfl,Vs.texts (hl.trans (BO x y hy hk))⟩) q trivial rfl
 have h0:((c8 y).length==0)=false:=beq_eq_false_iff_ne.mpr (eC hy)
 have hzx:(c8 x).length≤sizeLine:=g5 hz rfl
 cases h1:(decide ((c8 x).length < (c8 y).length) || decide (gK (c8 x) < gK (c8 y)))
 ·cases hf:(dG (c8 x) (c8 y) 0 (c8 x).length ((c8 x).length+1)).isEmpty
  ·have e:Txt.split (c8 x) (c8 y)=AE (c8 x) (dG (c8 x) (c8 y) 0 (c8 x).length ((c8 x).length+1)) (c8 y).length:=(if_neg (ne_true_of_eq_false h1)).trans (if_neg (ne_true_of_eq_false hf))
   refine lY qJ (kR _ _ _) pS (pB _ _) (meets_str_split_sep (c8 x) (c8 y) t u h1 h0 hf hzx (by
    rw[←e,BO x y hy hk,aG]
    have:=vQ x y (x.length+1) 0
    exact aB this (aB (bD hz 2) (aH rfl)))) ?_
   show wants _ _ _ { s with toks:=_,heap:=s.heap.push { cls:=.type "list",data:=.seq (strsFrom s.toks (AE (c8 x) (dG (c8 x) (c8 y) 0 (c8 x).length ((c8 x).length+1)) (c8 y).length)).toArray } }
   rw[strsFrom_eq]
   exact fin (numbered s.toks _) _ ((numbered_texts _ _).trans e.symm)
  ·exact lY qJ (kR _ _ _) pS (pB _ _) (meets_str_split_not_found (c8 x) (c8 y) t u h1 h0 hf)
    (fin [(c8 x,t)] _ ((if_neg (ne_true_of_eq_false h1)).trans (if_pos hf)).symm)
 ·exact lY qJ (kR _ _ _) pS (pB _ _) (meets_str_split_cannot_occur (c8 x) (c8 y) t u h1)
   (fin [(c8 x,t)] _ (if_pos h1).symm)
theorem aFO{k:List Nat}(e:st.H[l]? =some (.lst (ls.map .str)))(q:Q (.bool (ls.any (· ==k))) st):d3 C V (d7 .In) (.str k) (.aO l) st Q X:=λa hv hw=>by
 refine cD hv λu dF=>?_;subst dF
 cases a.x5 e hw with
 | mk y vs n hx hl jB=>exact in_list_strs hl.isList (xB jB) (by rw[J9];exact .mk (b:=.bool _) .refl rfl a q)
theorem UX(hh:C.hd=none)(hz:x.length≤1000000)(q:Q (.aO st.H.length) ⟨st.m,st.H++ [.lst (x.map λc=>.str [c])]⟩):fM C (.typ "list") [.str x] [] [] st Q X:=fM.t λ{A g ρ s _} a hv=>by
 refine dW hv λ_ _ dF EY e0=>cD EY λt rF=>?_;subst dF;subst rF
 obtain rfl:=(e0:_= [])
 refine PySem.call_list_str (a.2.3.trans hh) (c8 x) t (λh' tk aFP c' hk hg hI=>.mk (b:=.aO _) (Le.new hk) ⟨_,iH a.5.4,rfl⟩ (a.new (p:=.lst _) hk fE (.mk hg (.ty rfl (by decide)) ⟨aFP.toList,c',rfl, ?_⟩ trivial)) q) (g5 hz rfl)
 have key:∀(x:List Nat) (vs:List aJ),vs.length=x.length->(∀(j:Nat) (v:aJ),vs[j]? =some v->∃(c:Nat) (u:Tok),x[j]? =some c∧v=Value.str ⟨#[c]⟩ u)->Vs [] h' (x.map λc=>aA.str [c]) vs:=by
  intro x
  induction x with
  | nil=>intro vs h _;obtain rfl:=List.length_eq_zero_iff.mp h;exact .nil
  | cons c x ih=>
   intro vs h hv
   cases vs with
   | nil=>cases h
   | cons v vs=>
    refine sI (hv 0 v rfl) λc' u e1 e2=>?_
    obtain rfl:=aD e1
    exact .cons ⟨u,e2⟩ (ih vs (kF h) λj v' hj=>hv (j+1) v' hj)
 refine key x aFP.toList (Array.length_toList.trans hI.1) λj v hj=>?_
 refine sI (hI.2 j v (Array.getElem?_toList.symm.trans hj)) λc u e1 e2=>?_
 exact⟨c,u,(cY ..).symm.trans e1,e2⟩
end
end
section
open PySem.SeqAt
theorem TK.off{fi:List cI}{h h':c9}(hk:∀b o,b∉fi->h.get? b=some o->h'.get? b=some o)(hn:∀b∈fi,∃o,h.get? b=some o∧NT o):TK h h':=λb vs t=>t.elim λo t=>
 ⟨o,hk b o (λq=>(hn b q).elim λo' z=>(aD (z.1.symm.trans t.1)▸z.2) _ _ t.2.1 t.2.2.choose_spec) t.1,t.2⟩
section
variable {C:Ctx} {st:aK} {X:XQ} {Q:aA->aK->Prop} {A:cF} {g:c9} {ρ:Roo} {s:aM} {l k k0:Nat} {xs:List aA}
theorem aA0(e:st.H[l]? =some (.lst xs))(q:Q (.aO (st.H.length+1)) ⟨st.m,st.H++ [.lit l]++ [.AH st.H.length]⟩):fM C (.typ "enumerate") [.aO l] [] [] st Q X:=fM.t λ{A g ρ s _} a hv=>by
 refine dW hv λ_ _ dE h1 e0=>?_;subst dE
 obtain rfl:=(e0:_= [])
 cases a.x5 e h1 with
 | mk x vs c hx hl jB=>
  refine call_enumerate_list hl.isList λh' h1 h2 h3 hk=>?_
  have n1:s.heap.get? (s.heap.objs.size+1)=none:=by
   cases q:s.heap.get? (s.heap.objs.size+1) with
   | none=>rfl
   | some o=>exact absurd (c6 q) (qG.mpr (eW _))
  have k1:Ke s.heap (eJ h' [s.heap.objs.size+1]):=λb o e=>dL _ (hk b o e) λq=>by obtain rfl:=aU.mp q;exact bK (n1.symm.trans e)
  have k2:Ke (eJ h' [s.heap.objs.size+1]) h':=λb o e=>kQ _ e
  refine wF h2 λo ho oc od=>?_
  exact .mk (b:=.aO _) ((Le.app k1.tk).trans (Le.app k2.tk)) ⟨_,by rw[bY (by rw[aE,a.5.4];exact aZ _),aE,a.5.4];exact congrArg (([_]:List cI)[·]?) (k9 _),rfl⟩ ((a.new (tk:=s.toks) (p:=.lit l) k1 fE (.mk (dL _ ho λq=>sH _ (aU.mp q).symm:(eJ h' [s.heap.objs.size+1]).get? s.heap.objs.size=some o) (.ty oc (by decide)) ⟨x,(bE (aF.mp hx).1).trans hx,oc,od⟩ trivial)).new (tk:=s.toks) (p:=.AH st.H.length) k2 (gJ _ (.head _)) (.mk h1 (.ty rfl (by decide)) ⟨s.heap.objs.size,(bE (by rw[aE];exact jA (cC a.5.4.symm))).trans (iH a.5.4),λh b e=>e⟩ trivial)) q
noncomputable def rW(i:Nat)(l:List aA):List aA:=
 List.rec (motive:=λ_=>Nat->List aA) (λ_=>[]) (λx _ ih i=>.tup [.int i,x]::ih (i+1)) l i
theorem E6{xs:List aA}{j:Nat}:∀{i:Nat},(rW i xs)[j]? =xs[j]?.map λx=>.tup [.int (i+j:Nat),x]:=by
 induction j generalizing xs with
 | zero=>intro i;cases xs <;> rfl
 | succ j ih=>intro i;cases xs with
  | nil=>rfl
  | cons x xs=>exact(ih (xs:=xs) (i:=i+1)).trans (by rw[b9,cQ 1 j];rfl)
inductive EnK(e it l:cI)(j:Nat)(h:c9):Prop where
 | mk (en:∃old,IsEnum h e it (j:Nat) old) (li:h.IsListIter it l j)
theorem EnK.live{e it l:cI}{j:Nat}{h:c9}(K:EnK e it l j h):∀b∈[e,it],∃o,h.get? b=some o∧NT o:=λb hb=>by
 refine nI hb (λe0=>?_) λhb=>?_
 ·subst e0;exact K.1.elim λold q=>⟨_,q,.ty rfl (by decide)⟩
 ·obtain rfl:=aU.mp hb;exact K.2.elim λo q=>⟨o,q.1,.ty q.2.1 (by decide)⟩
theorem UY{D:WD}{elts:List dO}{x1:Nat}{pos:Pos}{e it al:cI}(tN:e≠it)(hl:ρ[l]? =some al):sN D (.Tuple elts x1 pos) (.ref e) [e,it] (EnK e it al) (rW 0 xs) [(l,.lst xs)] ρ:=⟨
 (λj h h' K k _=>⟨K.1.elim λold q=>⟨old,k e (.head _) _ q⟩,K.2.elim λo q=>⟨o,k it (.tail _ (.head _)) o q.1,q.2⟩⟩),
 (λj h K=>K.live),
 (λK=>K.1.elim λold q=>tF q ⟨rfl,rfl⟩),
 (λ{A s j ρ'} hh K lb hn=>by
  refine bS (hn _ (.head _)) λy hy z=>?_
  cases(lb _ _ hl).symm.trans hy
  obtain⟨o',YO,vs,n',rfl,jB⟩:=z.1
  have hl':s.heap.IsList al (bG vs):=⟨_,YO,rfl,n',rfl⟩
  refine cD K.1 λold K1=>?_
  rw[E6]
  cases hx:xs[j]? with
  | none=>exact wpAny_pyNext_enum_end hh K1 K.2 hl' (get_none jB hx) λh' zW=>⟨rfl,.of λb o hb e'=>zW b o (λq=>hb (q▸(.tail _ (.head _)))) e'⟩
  | some x=>
   refine bS (jB.get hx) λw hw hV=>?_
   refine wpAny_pyNext_enum_item K1 K.2 hl' (x:=w) ((cY ..).trans hw) tN λh' O K2' ht hz hk=>⟨_,rfl,wpAny_letOwnedTupleGo_enum O λh2 O2 PM=>?_⟩
   replace PM:eY e h' h2:=PM
   have keep:∀b o,b∉ [e,it]->s.heap.get? b=some o->h2.get? b=some o:=λb o hb e'=>(PM.2 b (λq=>hb (q▸.head _))).trans (hk b o (λq=>hb (q▸.head _)) (λq=>hb (q▸.tail _ (.head _))) e')
   have T:TK s.heap h2:=.off keep K.live
   rw[cZ]
   exact⟨.of keep,⟨_,[.int j s.toks,w],rfl,⟨_,(PM.2 _ (eC (c6 K1))).trans ht,rfl,_,rfl⟩,.cons ⟨_,rfl⟩ (.cons (hV.mono (.of T)).bot .nil)⟩,⟨w,O2⟩,K2'.elim λo q=>⟨o,(PM.2 it (Ne.symm tN)).trans q.1,q.2⟩⟩)⟩
theorem M2{elts:List dO}{x1:Nat}{pos:Pos}(hk:k0≤k)(e1:st.H[k]? =some (.lit l))(e2:st.H[k+1]? =some (.AH k))(hl:l < k)(hN:lK k k st.H=true):
  rT C (.Tuple elts x1 pos) k0 (.aO (k+1)) (rW 0 xs) [(l,.lst xs)] st (st.cut k):=λ{A g ρ0 ρ h0 s v} a L hk0 hv=>by
 refine bS hv λe he dE=>?_;subst dE
 obtain⟨o,ho,it,hit,z⟩:=(a.5.5 _ _ e e2 he).1
 obtain⟨o2,J2,al,hal,c,d⟩:=(a.5.5 _ _ it e1 hit).1
 have hE:=z _ _ ho
 have off:∀b i,ρ[i]? =some b->k≤i->b∉C.X++ρ.take k∧g.get? b=none:=λb i q ki=>⟨λm=>by
  cases aT.mp m with
  | inl m=>exact a.5.nX m (aN q) rfl
  | inr m=>
   refine cD (cV.mp m) λj hj=>?_
   have lj:j < k:=bR (aF.mp hj).1 (gZ _ _)
   exact absurd (a.5.uniq q ((b8 lj).symm.trans hj)) (eC (bR lj ki)),a.5.2 b (aR _ (aN q))⟩
 refine tF hE ⟨ρ.take k,[e,it],EnK e it al,L.take (hk0▸hk),a.cut hN,λb hb=>?_,⟨⟨_,hE⟩,o2,J2,c,d⟩,UY (λq=>sH k (a.5.uniq he (q▸hit)):e≠it) ((b8 hl).trans hal)⟩
 refine nI hb (λe0=>?_) λhb=>?_
 ·subst e0;exact off _ _ he (eW _)
 ·obtain rfl:=aU.mp hb;exact off _ _ hit (aZ _)
end
end
section
open PySem.SeqAt
noncomputable abbrev Dps:=List (List Nat×aA)
section
variable {C:Ctx} {st:aK} {X:XQ} {Q:aA->aK->Prop} {A:cF} {g:c9} {ρ:Roo} {s:aM} {l:Nat} {ps:Dps} {x:List Nat}
inductive YQ(D:WD)(ρ:Roo)(s:aM)(l:Nat)(ps:Dps):aJ->Prop
 | mk (d:cI) (kvs:List (Str×aJ)) (hx:ρ[l]? =some d) (hs:(d==GY)=false) (hd:s.heap.DictOf (nP D.prog D.w) d kvs) (hk:kvs.map (·.1)=ps.map (λp=>c8 p.1)) (hv:Vs [] s.heap (ps.map (·.2)) (kvs.map (·.2))) (nd:(kvs.map (·.1)).Nodup):YQ D ρ s l ps (.ref d)
theorem At.isd(a:At C A g ρ st s)(e:st.H[l]? =some (.wH ps)){v:aJ}(hv:V ρ s.heap (.aO l) v):YQ C.D ρ s l ps v:=by
 refine bS hv λd hx dE=>?_;subst dE
 have k:=a.5.5 l _ d e hx
 obtain⟨o,ho,kvs,jB,hk,es,ep,h1,h2,h3,h4,h5⟩:=k.1
 exact⟨d,kvs,hx,k.3,⟨o,es,ep,ho,h1,h2,h3,h4,h5⟩,hk,jB,h5⟩
end
end
noncomputable abbrev G8:=List (Str×cI)
noncomputable def wJ(cells:G8)(r:fF):G8:=(r.filterMap λp=>cond (p.2==.free) (some (p.1,(cells.lookup p.1).getD 0)) none).reverse
theorem AL{env:Env}(fn:Str×dB->G8->Sem (ForInStep G8))
  (hf:∀x k acc,fn (x,k) acc=if k==.free then(do let c←cellOf env x;pure (.yield ((x,c)::acc))) else pure (.yield acc)) {r:fF}:
  ∀(acc:G8),(∀x,(x,eM)∈r->(env.cells.lookup x).isSome=true)->(forIn r acc fn:Sem _)=pure (wJ env.cells r++acc):=by
 induction r with
 | nil=>intro acc _;rfl
 | cons p r ih=>
  intro acc h
  obtain⟨x,k⟩:=p
  have ih:=λacc=>ih acc λy hy=>h y (.tail _ hy)
  rw[n9,hf]
  cases hk:k==.free with
  | true=>
   obtain rfl:=eq_of_beq hk
   refine cD (d0.mp (h x (.head _))) λc hc=>?_
   have e:cellOf env x=pure c:=by unfold cellOf;rw[hc]
   rw[if_pos rfl,e]
   refine(ih ((x,c)::acc)).trans (congrArg pure ?_)
   unfold wJ
   rw[oA,hk,cond_true,hc]
   exact(by rw[pV,c4];rfl)
  | false=>
   rw[if_neg bH]
   refine(ih acc).trans (congrArg (λz:G8=>pure (z.reverse++acc)) ?_)
   rw[oA,hk,cond_false]
theorem rX{scope:iF}{env:Env}(h:∀x,(x,eM)∈scope.names->(env.cells.lookup x).isSome=true):closureFor scope env=pure (wJ env.cells scope.names):=by
 unfold closureFor
 dsimp only
 rw[AL (env:=env) _ (λx k acc=>by cases hk:k==eM <;> simp [hk]) [] h,bQ]
 rfl
theorem xC{cells:G8}{r:fF}{x:Str}{c:cI}:(x,c)∈wJ cells r↔(x,eM)∈r∧c=(cells.lookup x).getD 0:=by
 unfold wJ
 rw[List.mem_reverse,pA]
 constructor
 ·intro ⟨p,hp,e⟩
  obtain⟨y,k⟩:=p
  cases hk:k==.free with
  | true=>obtain rfl:=eq_of_beq hk;cases e;exact⟨hp,rfl⟩
  | false=>rw[show(y,k).2=k from rfl,hk] at e;exact bK e
 ·intro ⟨h,e⟩
  exact⟨_,h,by rw[e];rfl⟩
theorem aA1{cells:G8}{r:fF}(nd:(r.map (·.1)).Nodup)(hc:(cells.map (·.2)).Nodup)(hs:∀x,(x,eM)∈r->(cells.lookup x).isSome=true):(wJ cells r).Pairwise λp q=>p.1≠q.1∧p.2≠q.2:=by
 refine List.pairwise_reverse.mpr ?_
 refine zT _ (λa a' h b hb b' hb'=>?_) ((gT.mp nd).imp_of_mem λa b h=>⟨a,b,h⟩:r.Pairwise λa b=>a∈r∧b∈r∧a.1≠b.1)
 refine u3 h λha ha' tN=>?_
 obtain⟨x,k⟩:=a
 obtain⟨y,k'⟩:=a'
 cases hk:k==.free with
 | false=>rw[show(x,k).2=k from rfl,hk] at hb;exact bK hb
 | true=>
  cases hk':k'==.free with
  | false=>rw[show(y,k').2=k' from rfl,hk'] at hb';exact bK hb'
  | true=>
   obtain rfl:=eq_of_beq hk;obtain rfl:=eq_of_beq hk';obtain rfl:=aD hb;obtain rfl:=aD hb'
   refine⟨λe=>tN e.symm,λe=>?_⟩
   refine cD (d0.mp (hs x ha)) λc h1=>?_
   refine cD (d0.mp (hs y ha')) λd h2=>?_
   have e:(cells.lookup y).getD 0=(cells.lookup x).getD 0:=e
   rw[h1,h2] at e
   obtain rfl:=(e:d=c)
   exact tN (vO hc h1 h2)
inductive M3(h:c9)(ns:fF)(acc:G8):Prop where
 | mk (mem:∀x c,(x,c)∈gX h.objs.size ns acc->(x,c)∈acc∨(h.objs.size≤c∧(pushCells h ns).IsCell c none∧(x,dI)∈ns)) (nd:((gX h.objs.size ns acc).map (·.2)).Nodup)
theorem x6{ns:fF}:∀{h:c9} {acc:G8},(acc.map (·.2)).Nodup->(∀p∈acc,p.2 < h.objs.size)->M3 h ns acc:=by
 induction ns with
 | nil=>intro h acc nd lt;exact⟨λx c e=>.inl e,nd⟩
 | cons p r ih=>
  intro h acc nd lt
  obtain⟨y,k⟩:=p
  cases hk:k==.cell with
  | true=>
   obtain rfl:=eq_of_beq hk
   have e:h.objs.size+1=(h.push { cls:=.type "cell",data:=.cell none }).objs.size:=(pL ..).symm
   have I:=ih (h:=h.push { cls:=.type "cell",data:=.cell none }) (acc:=(y,h.objs.size)::acc) (b7.mpr ⟨λq=>by
    refine bS (eX.mp q) λp hp e=>?_
    exact fN _ ((e:p.2=_)▸lt p hp),nd⟩) (λp hp=>by
    rw[←e]
    refine nI hp (λe0=>?_) λhp=>?_
    ·subst e0;exact fU _
    ·exact Nat.lt_succ_of_lt (lt p hp))
   have e1:gX h.objs.size ((y,.cell)::r) acc=gX (h.push { cls:=.type "cell",data:=.cell none }).objs.size r ((y,h.objs.size)::acc):=e▸rfl
   refine⟨λx c hm=>?_,e1▸I.2⟩
   rw[e1] at hm
   cases I.1 x c hm with
   | inl q=>cases q with
    | head=>exact .inr ⟨aZ _,⟨_,pushCells_keeps r _ _ _ (bV _ rfl),rfl⟩,.head _⟩
    | tail _ q=>exact .inl q
   | inr q=>exact .inr ⟨i9 (aB (cC e) q.1),q.2.1,.tail _ q.2.2⟩
  | false=>
   have I:=ih nd lt
   have e1:gX h.objs.size ((y,k)::r) acc=gX h.objs.size r acc:=if_neg (by exact hk▸bH)
   have e2:pushCells h ((y,k)::r)=pushCells h r:=if_neg (by exact hk▸bH)
   refine⟨λx c hm=>?_,e1▸I.2⟩
   rw[e1] at hm
   exact e2▸(I.1 x c hm).imp id λq=>⟨q.1,q.2.1,.tail _ q.2.2⟩
theorem wP{x:Str}{ns:fF}:∀{k:Nat} {acc:G8},(x,dI)∉ns->(gX k ns acc).lookup x=acc.lookup x:=by
 induction ns with
 | nil=>intro _ _ _;rfl
 | cons p r ih=>
  intro k acc h
  obtain⟨y,kd⟩:=p
  have hr:(x,dI)∉r:=λq=>h (.tail _ q)
  unfold gX
  cases hk:kd==.cell with
  | true=>
   obtain rfl:=eq_of_beq hk
   rw[if_pos rfl,ih hr,dA]
   have:(x==y)=false:=beq_eq_false_iff_ne.mpr λq=>h (q▸.head _)
   rw[this]
  | false=>exact if_neg bH▸ih hr
theorem BQ{β:Type}{ns:List (Str×β)}(nd:(ns.map (·.1)).Nodup){x:Str}{k k':β}(h:(x,k)∈ns)(h':(x,k')∈ns):k=k':=aD ((gG nd h).symm.trans (gG nd h'))
noncomputable def CW(ns r:fF):fF:=r.map λp=>cond (p.2==.free && ns.lookup p.1==some .cell) (p.1,.cell) p
noncomputable def E7(x:Str)(r:fF)(m:Loc):Option aA:=
 List.rec (motive:=λ_=>Loc->Option aA) (λ_=>none) (λp _ ih m=>List.rec none (λo t _=>cond (x==p.1) (cond (p.2==.cell || p.2==.free) o none) (ih t)) m) r m
noncomputable abbrev KB:=List (Str×aA)
noncomputable def H7(G:KB)(ns:fF)(m:Loc)(r:fF):Loc:=r.map λp=>cond (p.2==.free) (E7 p.1 ns m) (cond (p.2==.globalImplicit) (G.lookup p.1) none)
noncomputable def aA2(r:fF):List Nat:=(cE r.length).filter λi=>(r[i]?).any (·.2==.free)
noncomputable def takes(ns r:fF):Bool:=r.all λp=>p.2 != .free || (ns.lookup p.1).any λk=>k==.cell || k==.free
theorem aA3{x:Str}{b:aA}{ns:fF}:∀{m:Loc},E7 x ns m=some b->∃(i:Nat) (k:dB),ns[i]? =some (x,k)∧m[i]? =some (some b)∧(k= .cell∨k= .free):=by
 induction ns with
 | nil=>intro m e;exact bK e
 | cons p r ih=>
  intro m e
  obtain⟨y,k⟩:=p
  cases m with
  | nil=>exact bK e
  | cons o t=>
   have e:cond (x==y) (cond (k==.cell || k==.free) o none) (E7 x r t)=some b:=e
   cases hx:x==y with
   | true=>
    obtain rfl:=eq_of_beq hx
    rw[hx] at e
    cases hk:(k==.cell || k==.free) with
    | true=>
     rw[hk] at e
     obtain rfl:=(e:o=_)
     exact⟨0,k,rfl,rfl,(eA.mp hk).imp eq_of_beq eq_of_beq⟩
    | false=>rw[hk] at e;exact bK e
   | false=>
    rw[hx] at e
    refine dW (ih e) λi k' h1 h2 h3=>?_
    exact⟨i+1,k',h1,h2,h3⟩
noncomputable def compEnv(C:Ctx)(scope:iF)(L:cI):Env:=
 { scope:=relabel scope C.env,locals:=L,globals:=C.env.globals,cells:=gX (L+1) scope.names (wJ C.env.cells scope.names),qual:=C.env.qual,func:=none,code:=C.env.code,frame:=C.env.frame,builtins:=C.env.builtins }
noncomputable abbrev lL(C:Ctx)(scope:iF)(L:cI):Ctx:=⟨C.D,C.n,compEnv C scope L,ownOf scope.names (compEnv C scope L).cells,[],CW C.ns scope.names,C.hd,C.fs,aA2 scope.names⟩
inductive E8(ns:fF)(scope:iF):Prop where
 | mk (kind:scope.kind= .function) (nd:(scope.names.map (·.1)).Nodup) (tk:takes ns scope.names=true)
theorem CX{ns r:fF}(h:takes ns r=true){x:Str}(hx:(x,eM)∈r):(x,dI)∈ns∨(x,eM)∈ns:=by
 have h:(ns.lookup x).any (λk=>k==.cell || k==.free)=true:=bN.mp h _ hx
 cases e:ns.lookup x with
 | none=>rw[e] at h;cases h
 | some k=>
  rw[e] at h
  exact(eA.mp h).imp (λq=>(show k= .cell from eq_of_beq q)▸mem_of_lookup e) λq=>(show k= .free from eq_of_beq q)▸mem_of_lookup e
theorem BS(ns r:fF):(CW ns r).map (·.1)=r.map (·.1):=(m2 ..).trans (List.map_congr_left λp Y=>by
 show(cond _ _ _:Str×dB).1=_
 cases(p.2==.free && ns.lookup p.1==some .cell) <;> rfl)
theorem xD{ns r:fF}{i:Nat}{x:Str}{k:dB}(h:(CW ns r)[i]? =some (x,k)):∃k0,r[i]? =some (x,k0)∧(k0=k∨(k0= .free∧k= .cell)):=by
 unfold CW at h
 rw[bX] at h
 cases e:r[i]? with
 | none=>rw[e] at h;exact bK h
 | some p=>
  rw[e] at h
  obtain⟨y,k0⟩:=p
  cases hb:(k0==.free && ns.lookup y==some .cell) with
  | true=>
   cases(congrArg (λb=>some (cond b (y,dI) (y,k0))) hb).symm.trans h
   exact⟨k0,rfl,.inr ⟨eq_of_beq (bP.mp hb).1,rfl⟩⟩
  | false=>
   cases(congrArg (λb=>some (cond b (y,dI) (y,k0))) hb).symm.trans h
   exact⟨_,rfl,.inl rfl⟩
theorem aA4{r:fF}{i:Nat}(h:i∉aA2 r){x:Str}(e:r[i]? =some (x,.free)):False:=
 h (tI.mpr ⟨gP.mpr (aF.mp e).1,by rw[e];rfl⟩)
section
variable {C:Ctx} {A:cF} {g:c9} {ρ:Roo} {st:aK} {s:aM} {scope:iF}
theorem HQ.rel(f:HQ C)(r:fF):(r.map λ(n,k)=>if(k==eM && C.env.scope.kind==.function && C.env.kindOf n==some .cell) then(n,dI) else(n,k))=CW C.ns r:=List.map_congr_left λp Y=>by
 obtain⟨x,k⟩:=p
 have e:C.env.kindOf x=C.ns.lookup x:=congrArg (λz:fF=>z.lookup x) f.2
 show(if _ then _ else _)=cond (k==.free && C.ns.lookup x==some .cell) (x,.cell) (x,k)
 rw[f.1,e]
 cases k==.free
 ·rfl
 ·cases C.ns.lookup x==some .cell <;> rfl
inductive M4(C:Ctx)(r:fF)(h h':c9):Prop where
 | mk (nd:((gX (h.objs.size+1) r (wJ C.env.cells r)).map (·.2)).Nodup) (new:∀x c,(x,dI)∈r->(gX (h.objs.size+1) r (wJ C.env.cells r)).lookup x=some c->h.objs.size < c∧h'.IsCell c none) (old:∀x,(x,eM)∈r->(gX (h.objs.size+1) r (wJ C.env.cells r)).lookup x=C.env.cells.lookup x) (kinds:∀x c,(gX (h.objs.size+1) r (wJ C.env.cells r)).lookup x=some c->(x,dI)∈r∨(x,eM)∈r)
noncomputable abbrev lM(s:aM)(scope:iF):c9:=pushCells (s.heap.push { cls:=.type "dict",data:=.dict #[] }) scope.names
theorem At.E9(a:At C A g ρ st s){x:Str}{c:cI}(h:C.env.cells.lookup x=some c):∃o,s.heap.get? c=some o:=
 (a.6.2 x c h).elim (λq=>(a.6.3 c q).elim λv z=>z.elim λo y=>⟨o,y.1⟩) λq=>q.elim λo e=>⟨o,a.5.1 _ _ e⟩
theorem At.BT(a:At C A g ρ st s)(K:E8 C.ns scope):M4 C scope.names s.heap (lM s scope):=by
 have has:∀x,(x,eM)∈scope.names->(C.env.cells.lookup x).isSome=true:=λx hx=>a.4.7 x (CX K.3 hx)
 have pw:=aA1 K.2 a.4.6 has
 have hz:(s.heap.push { cls:=.type "dict",data:=.dict #[] }).objs.size=s.heap.objs.size+1:=pL ..
 have lt:∀p∈wJ C.env.cells scope.names,p.2 < (s.heap.push { cls:=.type "dict",data:=.dict #[] }).objs.size:=λp hp=>by
  obtain⟨x,c⟩:=p
  refine d5 (xC.mp hp) λhx dF=>?_;subst dF
  refine cD (d0.mp (has x hx)) λd hd=>?_
  rw[hd,hz]
  exact(a.E9 hd).elim λo e=>Nat.lt_succ_of_lt (c6 e)
 have I:=x6 (ns:=scope.names) (gT.mpr (pw.imp λh=>h.2)) lt
 have M:=I.1
 have N:=I.2
 rw[hz] at M N
 refine⟨N,λx c hx e=>?_,λx hx=>?_,λx c e=>?_⟩
 ·cases M x c (mem_of_lookup e) with
  | inl q=>cases BQ K.2 hx (xC.mp q).1
  | inr q=>exact⟨q.1,q.2.1⟩
 ·rw[wP λq=>by cases BQ K.2 hx q]
  refine cD (d0.mp (has x hx)) λd hd=>?_
  rw[hd]
  exact gG (gT.mpr (pw.imp λh=>h.1)) (xC.mpr ⟨hx,by rw[hd];rfl⟩)
 ·exact(M x c (mem_of_lookup e)).elim (λq=>.inr (xC.mp q).1) λq=>.inl q.2.2
theorem At.YR(a:At C A g ρ st s):Ke s.heap (lM s scope):=λb o e=>pushCells_keeps _ _ b o (cP _ e)
theorem At.comp(a:At C A g ρ st s)(K:E8 C.ns scope){fi:List cI}(BK:∀b∈fi,(∃o,s.heap.get? b=some o)∧b∉C.X++ρ∧g.get? b=none){G:KB}(hG:∀x b,G.lookup x=some b->GR C.D x b):
  At (lL C scope s.heap.objs.size) A (eJ (lM s scope) (fi++((lL C scope s.heap.objs.size).X++ρ))) ρ ⟨H7 G C.ns st.m scope.names,st.H⟩ { s with heap:=lM s scope }:=by
 have W:=a.BT K
 have k4:=a.YR (scope:=scope)
 have own:∀c∈ownOf scope.names (compEnv C scope s.heap.objs.size).cells,s.heap.objs.size < c∧(lM s scope).IsCell c none:=λc hc=>(mem_ownOf hc).elim λx z=>W.2 x c z.1 z.2
 have hX:∀x∈(lL C scope s.heap.objs.size).X,s.heap.objs.size≤x:=λx hx=>by
  refine nI hx (λe0=>?_) λhx=>?_
  ·subst e0;exact aZ _
  ·exact(aT.mp hx).elim (λq=>dY (own x q).1) λq=>nomatch q
 have out:∀x o,s.heap.get? x=some o->x∉fi->x∉ρ->(eJ (lM s scope) (fi++((lL C scope s.heap.objs.size).X++ρ))).get? x=some o:=λx o e n1 n2=>dL _ (k4 _ _ e) λq=>
  (aT.mp q).elim n1 λq=>(aT.mp q).elim (λq=>fN _ (bR (c6 e) (hX x q))) n2
 have YS:(lM s scope).Ns s.heap.objs.size λY=>none:=(Heap.Ns.new s.heap (.type "dict")).keeps (pushCells_keeps _ _)
 have L:Le ρ s.heap ρ (lM s scope):=.ke k4
 refine⟨a.1,⟨a.2.1,a.2.2,a.2.3⟩,a.3.keeps (λb o e=>out b o (a.5.1 _ _ e) (λq=>bK ((BK b q).2.2.symm.trans e)) λq=>bK ((a.5.2 b (aR _ q)).symm.trans e):Ke g (eJ (lM s scope) (fi++((lL C scope s.heap.objs.size).X++ρ)))),⟨K.1,a.4.rel _,(show((CW C.ns scope.names).map (·.1)).Nodup by rw[BS];exact K.2),a.4.4,a.4.5,W.1,λx hx=>?_,λi x c e1 e2 e3=>?_⟩,
  ⟨λY Y e=>kQ _ e,λx hx=>gJ _ (aR _ hx), ?_,a.5.4,λi p x e y=>Pc.mono L (λo=>k4 _ _) (a.5.5 i p x e y),a.5.6,a.5.7,a.5.8⟩,
  ⟨⟨_,YS,λi x k b e1 e2=>?_⟩,λx c e=>?_,λc hc=>⟨_,(own c hc).2⟩,λp hp=>nomatch hp⟩⟩
 ·have:(x,dI)∈scope.names∨(x,eM)∈scope.names:=by
   have go:∀k,(x,k)∈CW C.ns scope.names->k= .cell∨k= .free->(x,dI)∈scope.names∨(x,eM)∈scope.names:=λk hm hk=>by
    refine cD (cV.mp hm) λi e=>?_
    refine bS (xD e) λk0 e0 h=>?_
    have hm':=aN e0
    cases h with
    | inl h=>
     cases hk with
     | inl q=>obtain rfl:=h.trans q;exact .inl hm'
     | inr q=>obtain rfl:=h.trans q;exact .inr hm'
    | inr h=>exact .inr (h.1▸hm')
   exact hx.elim (λq=>go _ q (.inl rfl)) λq=>go _ q (.inr rfl)
  cases this with
  | inl h=>exact AC (.inr h)
  | inr h=>
   have:=W.3 x h
   exact(congrArg Option.isSome this).trans (a.4.7 x (CX K.3 h))
 ·refine bS (xD e1) λk0 e0 h=>?_
  cases h with
  | inl h=>subst h;exact qN (aN e0) e3
  | inr h=>obtain rfl:=h.1;exact(aA4 e2 e0).elim
 ·refine bC.mpr ⟨b7.mpr ⟨λq=>?_, ?_⟩,(bC.mp a.5.3).2.1,λx hx y hy e=>fN _ (bR ((λx hx=>(aT.mp hx).elim (λq=>(a.6.oB x q).elim λo e=>c6 e) λq=>(a.5.live q).elim λo e=>c6 e:∀x∈C.X++ρ,x < s.heap.objs.size) y (aR _ hy)) (e▸hX x hx))⟩
  ·exact(aT.mp q).elim (λq=>fN _ (own _ q).1) λq=>nomatch q
  ·exact(bQ _).symm▸vP K.2 W.1
 ·refine bS (xD e1) λk0 e0 h=>?_
  unfold H7 at e2
  rw[bX,e0] at e2
  have e2:=aD e2
  cases hk:k0==.free with
  | true=>
   obtain rfl:=eq_of_beq hk
   refine dW (aA3 (e2:E7 x C.ns st.m=some b)) λj kj h1 h2 h3=>?_
   refine bS a.6.1 λM _ hq=>?_
   have:∃c v,C.env.cells.lookup x=some c∧s.heap.IsCell c (some v)∧V ρ s.heap b v:=by
    have n:=hq j x kj b h1 h2
    cases h3 with
    | inl z=>subst z;exact n
    | inr z=>subst z;exact n
   refine dW this λc v q1 q2 q3=>?_
   have:∃c v,(compEnv C scope s.heap.objs.size).cells.lookup x=some c∧(lM s scope).IsCell c (some v)∧V ρ (lM s scope) b v:=
    ⟨c,v,(W.3 x (aN e0)).trans q1,q2.elim λo z=>⟨o,k4 _ _ z.1,z.2⟩,q3.mono L⟩
   cases h with
   | inl h=>subst h;exact this
   | inr h=>obtain rfl:=h.2;exact this
  | false=>
   have tN:k0≠.free:=λq=>by rw[q] at hk;cases hk
   cases h with
   | inr h=>exact(tN h.1).elim
   | inl h=>
    subst h
    have e2:cond (k0==.free) (E7 x C.ns st.m) (cond (k0==.globalImplicit) (G.lookup x) none)=some b:=e2
    rw[hk] at e2
    cases hg:k0==.globalImplicit with
    | true=>obtain rfl:=eq_of_beq hg;exact hG x b e2
    | false=>rw[hg] at e2;exact bK e2
 ·cases W.4 x c e with
  | inl h=>exact .inl (qN h e)
  | inr h=>
   have e1:=(W.3 x h).symm.trans e
   refine cD (a.E9 e1) λo ho=>?_
   refine .inr ⟨o,out c o ho (λq=>?_) λq=>?_⟩
   ·cases a.6.2 x c e1 with
    | inl z=>exact(BK c q).2.1 (bJ _ (Ctx.Xo z))
    | inr z=>exact z.elim λo z=>bK ((BK c q).2.2.symm.trans z)
   ·cases a.6.2 x c e1 with
    | inl z=>exact a.5.nX (Ctx.Xo z) q rfl
    | inr z=>exact z.elim λo z=>bK ((a.5.2 c (aR _ q)).symm.trans z)
theorem At.ret{C':Ctx}{A':cF}{B:c9}{ρ':Roo}{fR:aK}{s':aM}(a:At C A g ρ st s)(kg:Ke g B)(hB:∀x∈C.X,∀o,s.heap.get? x=some o->B.get? x=some o)(a':At C' A' B ρ' fR s')(hD:C'.D=C.D)(L:Le ρ s.heap ρ' s'.heap):At C A g ρ' ⟨st.m,fR.H⟩ s':=by
 refine⟨a.1,a.2,a.3,a.4,⟨λb o e=>a'.5.1 _ _ (kg _ _ e),λx hx=>?_, ?_,a'.5.4,hD▸a'.5.5,a'.5.6,hD▸a'.5.7,hD▸a'.5.8⟩,a.6.mono a.5.1 (λx hx=>.of λo e=>a'.5.1 _ _ (hB x hx o e)) (λb o e=>a'.5.1 _ _ (kg _ _ e)) L⟩
 ·cases aT.mp hx with
  | inl q=>exact a.5.2 x (bJ _ q)
  | inr q=>exact some_or.elim id λ⟨o,e⟩=>bK ((a'.5.2 x (aR _ q)).symm.trans (kg _ _ e))
 ·refine bC.mpr ⟨(bC.mp a.5.3).1,(bC.mp a'.5.3).2.1,λx hx y hy e=>?_⟩
  subst e
  refine cD (a.6.oB x hx) λo e=>?_
  exact bK ((a'.5.2 x (aR _ hy)).symm.trans (hB x hx o e))
end
theorem nJ{M:rL}{A:cF}{E:aJ->aM->Prop}{s:aM}{scope:iF}{globals:cI}{cl:List (Str×cI)}{qual:Str}{outer:Env}{Q:Env->aM->Prop}
  (hQ:Q { scope,locals:=s.heap.objs.size,globals,cells:=gX (s.heap.objs.size+1) scope.names cl,qual,func:=none,code:=outer.code,frame:=outer.frame,builtins:=outer.builtins }
   { s with heap:=pushCells (s.heap.push { cls:=.type "dict",data:=.dict #[] }) scope.names }):
  bZ M A (newFunctionEnv scope globals cl [] qual none .none (some outer)) Q E s:=by
 simp only [newFunctionEnv,Option.isSome_some,if_true]
 refine aC (wpAny_alloc (aC (wpAny_layCells _ (λname kind cells=>by cases hkc:kind==dI <;> simp [hkc]) _ _ _ _ ?_)))
 rw[show({ s with heap:=s.heap.push { cls:=.type "dict",data:=.dict #[] } }:aM).heap.objs.size=s.heap.objs.size+1 from pL ..]
 refine aC ?_
 rw[List.forIn_nil]
 exact aI (aI hQ)
noncomputable abbrev qW(ifs:List dO)(env:Env):Sem Bool:=forIn ifs true λc r=>if r=true then do let ok←isTrue c env (qI c env);pure (kS ok) else pure (kS r)
def p6(e:dO)(depth:Nat)(target:dO)(ifs:List dO)(ins:aJ->Env->Sem Unit):Prop:=
 ∀it acc env,∃p,compTurn e depth it acc env=(lO p >>=λY=>uW it >>=λr=>match r with
  | none=>pure (.done .next)
  | some v=>eF target it v >>=λY=>DY target env v >>=λY=>qW ifs env >>=λok=>(if ok=true then ins acc env else pure ()) >>=λY=>again (.compLoop e depth it acc env))
theorem x7{p:Pos}{e:dO}{depth:Nat}{it acc:aJ}{env:Env}{target:dO}{ifs:List dO}{ins:aJ->Env->Sem Unit}{X:Sem Fin}
  (h:X=(lO p >>=λY=>uW it >>=λr=>match r with
   | none=>pure (.done .next)
   | some v=>eF target it v >>=λY=>DY target env v >>=λY=>qW ifs env >>=λok=>if ok=true then(ins acc env >>=λY=>again (.compLoop e depth it acc env)) else again (.compLoop e depth it acc env))):
  X=(lO p >>=λY=>uW it >>=λr=>match r with
   | none=>pure (.done .next)
   | some v=>eF target it v >>=λY=>DY target env v >>=λY=>qW ifs env >>=λok=>(if ok=true then ins acc env else pure ()) >>=λY=>again (.compLoop e depth it acc env)):=by
 rw[h]
 congr 1;funext _;congr 1;funext r
 cases r with
 | none=>rfl
 | some v=>
  dsimp only
  congr 1;funext _;congr 1;funext _;congr 1;funext ok
  cases ok <;> rfl
inductive oQ(e:dO)(depth:Nat):Prop where
 | mk (loop:∀it acc env,(Code.compLoop e depth it acc env).isFrame=false) (start:∀it acc env,(Code.compStart e depth it acc env).isFrame=false) (sync:((clausesOf e)[depth]?).elim false (·.is_async !=0)=false)
section
variable {prog:rM} {w:World} {A:cF} {R:Result->aM->Prop} {e:dO} {depth:Nat} {it acc:aJ} {env:Env} {s:aM}
theorem tY{target:dO}{ifs:List dO}{ins:aJ->Env->Sem Unit}(I:Nat->aM->Prop)
  (he:p6 e depth target ifs ins) (hf:oQ e depth)
  (turn:∀n s,I n s->bZ (c0 prog w) A (uW it) (λr s₁=>match r with
   | none=>R (.ok .next) s₁
   | some v=>bZ (c0 prog w) A (eF target it v) (λY s₁'=>bZ (c0 prog w) A (DY target env v >>=λY=>qW ifs env >>=λok=>if ok=true then ins acc env else pure ()) (λY s₄=>∃m,m < n∧I m s₄) rD s₁') rD s₁) rD s)
  (n:Nat) (h:I n s):pR (c0 prog w) A (.compLoop e depth it acc env) R s:=by
 have hfr:=hf.1 it acc env
 have PN:(Code.compLoop e depth it acc env).frames=0:=if_neg (by exact hfr▸bH)
 refine codeAny_loop rfl I (λn s hI=>?_) n h
 have aA5:(c0 prog w).den (.compLoop e depth it acc env)=(compTurn e depth it acc env).onRaise (λx=>do noteFrame x env;theTreesLotGoes x):=if_neg (by exact hfr▸bH)
 have aA6:A.under (.compLoop e depth it acc env)=A:=JX (by show _+0+0+0=0;rw[PN]) (by show 3 * _=0;rw[PN])
 rw[aA5,aA6]
 refine wpAny_noted ?_
 refine cD (he it acc env) λp hp=>?_
 rw[hp]
 refine aC (d8 (aC (bM (turn n s hI) (λr s₁ h₁=>?_) λY Y e=>e.elim)))
 cases r with
 | none=>exact aI h₁
 | some v=>
  refine aC (bM h₁ (λY s₁' h₁=>?_) λY Y e=>e.elim)
  have:bZ (c0 prog w) A ((DY target env v >>=λY=>qW ifs env >>=λok=>if ok=true then ins acc env else pure ()) >>=λY=>again (.compLoop e depth it acc env)) (λfin s'=>match fin with | .done f=>R (.ok f) s' | .again c'=>c'= .compLoop e depth it acc env∧∃m,m < n∧I m s') rD s₁':=aC (bM h₁ (λY s₄ h₄=>aI ⟨rfl,h₄⟩) λY Y e=>e)
  simp only [bind_assoc] at this
  refine bM this (λfin s' h=>?_) λ_ _ (e:rD _ _)=>e.elim
  cases fin with
  | done f=>exact h
  | again c=>obtain⟨rfl,h⟩:=h;exact⟨rfl,h⟩
theorem m7(hf:oQ e depth)(h:pR (c0 prog w) A (.compLoop e depth it acc env) R s)(hag:bZ (c0 prog w) A (pyIter it) (λv s1=>v=it∧s1=s) rD s):pR (c0 prog w) A (.compStart e depth it acc env) R s:=by
 have hfr:=hf.2 it acc env
 have PN:(Code.compStart e depth it acc env).frames=0:=if_neg (by exact hfr▸bH)
 refine codeAny_of_tree ?_
 have aA5:(c0 prog w).den (.compStart e depth it acc env)=(compStart e depth it acc env).onRaise (λx=>do noteFrame x env;lO theWindowsPlace):=if_neg (by exact hfr▸bH)
 have aA6:A.under (.compStart e depth it acc env)=A:=JX (by show _+0+0+0=0;rw[PN]) (by show 3 * _=0;rw[PN])
 rw[aA5,aA6]
 refine wpAny_notedAt ?_
 unfold compStart
 rw[hf.3]
 simp only [gE,if_false]
 refine aC (wpAny_askSetting (wpAny_ite ?_))
 have fin:bZ (c0 prog w) A (pyIter it >>=λv=>again (.compLoop e depth v acc env)) (λfin s'=>match fin with | .done f=>R (.ok f) s' | .again c'=>c'.quiet=true∧pR (c0 prog w) A c' R s') (notedBy (c0 prog w) A env λx s'=>R (.error x) s') s:=
  aC (bM hag (λv s1 ⟨e1,e2⟩=>by subst e1;subst e2;exact aI (G0 rfl h)) λY Y e=>e.elim)
 split
 ·exact aC (m:=again _) (aI (aI (G0 rfl h)))
 ·refine aC (lW ?_)
  split
  ·exact aC (d8 fin)
  ·exact fin
end
section
variable {C:Ctx} {st:aK} {X:XQ}
abbrev Cd(C:Ctx)(ifs:List dO)(st:aK)(Q:Bool->aK->Prop)(X:XQ):Prop:=Wp C Eqv (qW ifs C.env) st Q X
theorem FA{M:rL}{A:cF}{E:aJ->aM->Prop}{env:Env}{ifs:List dO}{s:aM}{Q:Bool->aM->Prop}(h:Q false s):
  bZ M A (forIn ifs false λc r=>if r=true then do let ok←isTrue c env (qI c env);pure (kS ok) else pure (kS r)) Q E s:=by
 induction ifs with
 | nil=>exact aI h
 | cons c r ih=>
  rw[n9]
  refine aC ?_
  exact if_neg bH▸aI ih
theorem Cd.nil{Q:Bool->aK->Prop}(h:Q true st):Cd C [] st Q X:=λa=>by
 show bZ _ _ (forIn [] true _) _ _ _
 rw[List.forIn_nil]
 exact aI (.mk .refl rfl a h)
theorem Cd.cons{c:dO}{ifs:List dO}{Q:Bool->aK->Prop}(h:Tr C c st (λb st1=>match b with | true=>Cd C ifs st1 Q X | false=>Q false st1) X):Cd C (c::ifs) st Q X:=λa=>by
 show bZ _ _ (forIn (c::ifs) true _) _ _ _
 rw[n9]
 refine aC ?_
 rw[if_pos rfl]
 refine aC (on (h a) .refl λ{x _ b _ _} _ l1 r1 a1 q1=>aI ?_)
 obtain rfl:=(r1:x=b)
 cases x with
 | true=>exact lift l1 ((q1:Cd C ifs _ Q X) a1)
 | false=>exact FA (.mk l1 rfl a1 q1)
def aFQ(k:Nat)(J:Nat->aK->Prop)(j:Nat)(st:aK):Prop:=lK k k st.H=true∧J (j+1) (st.cut k)
inductive KD(C:Ctx)(target:dO)(ifs:List dO)(ins:aJ->Env->Sem Unit)(acc k:Nat)(xs:List aA)(need:List (Nat×Pc))(J:Nat->aK->Prop):Prop where
 | mk (hn:∀j st,J j st->∀p∈need,st.H[p.1]? =some p.2) (turn:∀j x st,xs[j]? =some x->J j st->As C target x st (λst1=>Cd C ifs st1 (λok bW=>match ok with
  | true=>pD C Eqv (λv=>ins v C.env) (.aO acc) bW (λ(_:Unit)=>aFQ k J j) eE
  | false=>aFQ k J j bW) eE) eE)
variable {A:cF} {g:c9} {ρ:Roo} {s:aM} {R:Result->aM->Prop}
theorem tZ{e:dO}{depth:Nat}{target:dO}{ifs:List dO}{ins:aJ->Env->Sem Unit}{it aA7:aJ}{acc:Nat}{xs:List aA}{need:List (Nat×Pc)}{fi:List cI}{K:Nat->c9->Prop}{J:Nat->aK->Prop}
  (he:p6 e depth target ifs ins) (hf:oQ e depth) (IO:sN C.D target it fi K xs need ρ) (hh:C.hd=none) (a:At C A g ρ st s) (hv:V ρ s.heap (.aO acc) aA7) (L:KD C target ifs ins acc st.H.length xs need J) (hJ:J 0 st)
  (BK:∀b∈fi,b∉C.X++ρ∧g.get? b=none) (hK:K 0 s.heap) (H8:∀{ρ' fR s'},Le ρ s.heap ρ' s'.heap->J xs.length fR->At C A g ρ' fR s'->R (.ok .next) s'):pR (c0 C.D.prog C.D.w) A (.compLoop e depth it aA7 C.env) R s:=by
 refine tY (λm s'=>∃j,j+m=xs.length∧xX C A g ρ s.heap fi K J j s') he hf (λm s' hI=>?_) xs.length ⟨0,cZ _,ρ,st,.refl,a,hJ,hK,λb hb=>(BK b hb).1⟩
 refine bS hI λj hj I=>?_
 refine J5 (k:=st.H.length) IO hh (cC a.5.4) (λb hb=>(BK b hb).2) (L.1 j) I (λhx {ρ1 st1 s1} l1 a1 hJ=>?_) λ{x v ρ1 st1 s1} hx T hx1 hJ=>?_
 ·have:j=xs.length:=Nat.le_antisymm (hj▸aW _ _) (dC.mp hx)
  exact H8 l1 (this▸hJ) a1
 ·have dec:=turns hj (aF.mp hx).1
  refine aC (YN (L.2 j x st1 hx hJ T.2 hx1) .refl λ{_ s4 _ j6 ρ4} l4 _ _ a4 q4=>aC (YN (q4 a4) l4 λ{y s5 ok H9 ρ5} _ l5 r5 a5 q5=>?_))
  obtain rfl:=(r5:y=ok)
  cases y with
  | true=>
   rw[if_pos rfl]
   exact YN ((q5:pD C _ _ _ _ _ eE) a5 (hv.mono (T.1.trans l5))) l5 λ{_ s6 _ st6 ρ6} _ l6 _ a6 q6=>dec.elim λm' z=>⟨m',z.1,j+1,z.2,T.cl false l6 a6 q6.1 q6.2⟩
  | false=>
   rw[if_neg bH]
   exact aI (dec.elim λm' z=>⟨m',z.1,j+1,z.2,T.cl false l5 a5 q5.1 q5.2⟩)
end
section
variable {C:Ctx} {st:aK} {X:XQ} {A:cF} {g:c9} {ρ:Roo} {s:aM}
def PO(D:WD)(CY:Sem aJ)(p:Pc):Prop:=
 ∀{M:rL} {A:cF} {E:aJ->aM->Prop} {s:aM} {Q:aJ->aM->Prop},(s.heap.objs.size==GY)=false->(∀h',Ke s.heap h'->(∀ρ,p.ok D ρ h' s.heap.objs.size)->Q (.ref s.heap.objs.size) { s with heap:=h' })->bZ M A CY Q E s
def KE(C:Ctx)(use:Option (aJ->Sem Unit))(acc:Nat)(st:aK)(Q:aA->aK->Prop):Prop:=
 match use with
 | none=>Q (.aO acc) st
 | some u=>pD C Eqv u (.aO acc) st (λ(_:Unit)=>Q .none) eE
theorem At.YT(a:At C A g ρ st s){L:cI}{h':c9}{m:Str->Option aJ}(hm:s.heap.Ns L m)(hs:eY L s.heap h')(n:L∉C.X++ρ)(gL:g.get? L=none):Le ρ s.heap ρ h'∧At C A g ρ st { s with heap:=h' }:=
 a.others (tk:=s.toks) (fi:=[L]) (λb o hb e=>(hs.2 b λq=>hb (q▸.head _)).trans e) λb hb=>by
  obtain rfl:=aU.mp hb
  refine CG hm λo es ep e hd _=>?_
  exact⟨n,gL,λo' e'=>aD (e.symm.trans e')▸.dict hd⟩
inductive YU(C:Ctx)(scope:iF)(target:dO)(ifs:List dO)(ins:aJ->Env->Sem Unit)(k0:Nat)(b:aA)(p0:Pc)(G:KB)(xs:List aA)(need:List (Nat×Pc))(J:Nat->aK->Prop)(st1 bW:aK):Prop where
 | mk (it:rT C target k0 b xs need st1 bW) (J0:J 0 ⟨H7 G C.ns bW.m scope.names,bW.H++ [p0]⟩) (loop:∀L,KD (lL C scope L) target ifs ins bW.H.length (bW.H.length+1) xs need J)
theorem Wp.comp{e:dO}{scope:iF}{pos:Pos}{CY first:Sem aJ}{use:Option (aJ->Sem Unit)}{target iter:dO}{ifs:List dO}{gs:List Comprehension}{ins:aJ->Env->Sem Unit}{p0:Pc}{Q:aA->aK->Prop}
  (YK:clausesOf e=⟨target,iter,ifs,0⟩::gs) (he:p6 e 0 target ifs ins) (hf:oQ e 0) (aKI:PO C.D CY p0) (K:E8 C.ns scope) (hh:C.hd=none) (hs:∀x,dQ iter C.env x=pure x)
  (h:Wp C V first st (λb st1=>∃xs need bW J G,(∀x b,wA x G=some b->GR C.D x b)∧YU C scope target ifs ins st.H.length b p0 G xs need J st1 bW∧∀fL,J xs.length fL->KE C use bW.H.length ⟨bW.m,fL.H⟩ Q) X):
  Wp C V (comprehension e scope C.env pos CY false first use) st Q X:=λ{A g ρ s} a=>by
 refine wpAny_comprehension_free YK hs (rX λx hx=>a.4.7 x (CX K.3 hx)) K.1 (λx hx hl=>by obtain⟨y,k⟩:=x;subst hl;exact gG K.2 hx) ?_
 refine on (h a) .refl λ{v s1 b st1 ρ1} l0 l1 r1 a1 q1=>?_
 obtain⟨xs,need,bW,J,G,hG,CA,H8⟩:=q1
 refine bM (CA.1 a1 l1 a.5.4 r1) (λit s2 p=>?_) λY Y e=>e.elim
 obtain⟨ρ2,fi,K2,OF,a2,BK,hK,IO⟩:=p
 refine aKI a2.aAV λh3 k3 p3=>nJ ?_
 have a3:=a2.new (tk:=s2.toks) k3 fE (p3 _)
 have L3:Le ρ2 s2.heap (ρ2++ [s2.heap.objs.size]) h3:=Le.new k3
 have live:∀b∈fi,∃o,s2.heap.get? b=some o:=λb hb=>(IO.2 0 _ hK b hb).elim λo z=>⟨o,z.1⟩
 have aA8:∀b∈fi,(∃o,h3.get? b=some o)∧b∉C.X++(ρ2++ [s2.heap.objs.size])∧g.get? b=none:=λb hb=>⟨(live b hb).elim λo e=>⟨o,k3 _ _ e⟩,λq=>by
  cases aT.mp q with
  | inl q=>exact(BK b hb).1 (bJ _ q)
  | inr q=>cases aT.mp q with
   | inl q=>exact(BK b hb).1 (aR _ q)
   | inr q=>obtain rfl:=aU.mp q;exact(live _ hb).elim λo e=>bK (fE.symm.trans e),(BK b hb).2⟩
 have k4:=a3.YR (scope:=scope)
 have hK4:K2 0 (lM { s2 with heap:=h3 } scope):=IO.1 0 _ _ (IO.1 0 _ _ hK (λb hb o e=>k3 b o e) k3.tk:K2 0 h3) (λb hb o e=>k4 b o e) k4.tk
 have l4:=(OF.trans L3).trans (.ke k4)
 have hv:V (ρ2++ [s2.heap.objs.size]) (lM { s2 with heap:=h3 } scope) (.aO bW.H.length) (.ref s2.heap.objs.size):=⟨_,iH a2.5.4,rfl⟩
 have hX:∀x∈(lL C scope h3.objs.size).X,h3.get? x=none:=λx hx=>some_or.elim id λz=>z.elim λo e=>(by
  have W:=a3.BT K
  have lt:x < h3.objs.size:=c6 e
  refine nI hx (λe0=>?_) λhx=>?_
  ·subst e0;exact absurd lt (fN _)
  ·cases aT.mp hx with
   | inl q=>refine bS (mem_ownOf q) λy h1 h2=>?_;exact absurd lt (Nat.lt_asymm (W.2 y x h1 h2).1)
   | inr q=>exact nomatch q)
 have out:∀x o,h3.get? x=some o->x∉fi->x∉ρ2++ [s2.heap.objs.size]->(eJ (lM { s2 with heap:=h3 } scope) (fi++((lL C scope h3.objs.size).X++(ρ2++ [s2.heap.objs.size])))).get? x=some o:=λx o e n1 n2=>
  dL _ (k4 _ _ e) λq=>(aT.mp q).elim n1 λq=>(aT.mp q).elim (λq=>bK ((hX x q).symm.trans e)) n2
 have kg:Ke g (eJ (lM { s2 with heap:=h3 } scope) (fi++((lL C scope h3.objs.size).X++(ρ2++ [s2.heap.objs.size])))):=λb o e=>out b o (a3.5.1 _ _ e) (λq=>bK ((BK b q).2.symm.trans e)) λq=>bK ((a3.5.2 b (aR _ q)).symm.trans e)
 have hB:∀x∈C.X,∀o,(lM { s2 with heap:=h3 } scope).get? x=some o->(eJ (lM { s2 with heap:=h3 } scope) (fi++((lL C scope h3.objs.size).X++(ρ2++ [s2.heap.objs.size])))).get? x=some o:=λx hx o e=>by
  refine cD (a3.6.oB x hx) λo' e'=>?_
  cases(k4 _ _ e').symm.trans e
  exact out x o e' (λq=>(BK x q).1 (bJ _ hx)) λq=>a3.5.nX hx q rfl
 refine m7 hf ?_ (IO.3 hK4)
 have hlen:(bW.H++ [p0]).length=bW.H.length+1:=aE
 refine tZ (C:=lL C scope h3.objs.size) he hf (⟨IO.1,IO.2,IO.3,λhh k lb hn=>IO.4 hh k (λl a e=>lb l a (L3.1 l a e)) hn⟩:sN C.D target it fi K2 xs need (ρ2++ [s2.heap.objs.size])) hh (a3.comp K aA8 hG) hv (hlen▸CA.3 _) CA.2 (λb hb=>⟨λq=>?_,gJ _ (bJ _ hb)⟩) hK4 λ{ρ' fR s'} l5 hJ a5=>?_
 ·refine cD ((aA8 b hb).1) λo e=>?_
  exact(aT.mp q).elim (λq=>bK ((hX b q).symm.trans e)) λq=>(aA8 b hb).2.1 (aR _ q)
 have a6:=(a3.junk (tk:=s2.toks) k4).ret kg hB a5 rfl l5
 have q:=H8 fR hJ
 refine bS a5.6.1 λM hM _=>?_
 have nL:h3.objs.size∉C.X++ρ':=λq=>(aT.mp q).elim (λq=>(a3.6.oB _ q).elim λo e=>bK ((hX _ (.head _)).symm.trans e)) λq=>a5.5.nX (.head _) q rfl
 have gL:g.get? h3.objs.size=none:=some_or.elim id λz=>z.elim λo e=>bK ((hX _ (.head _)).symm.trans (a3.5.1 _ _ e))
 have L6:=l4.trans l5
 have hv6:=hv.mono l5
 cases use with
 | none=>
  refine⟨M,hM,λh' TE=>?_⟩
  refine d5 (a6.YT hM TE nL gL) λL7 a7=>?_
  exact .mk (L6.trans L7) (hv6.mono L7) a7 q
 | some u=>
  refine YN ((q:pD C _ _ _ _ _ eE) a6.re.2 hv6) .refl λ{_ s7 _ st7 ρ7} l7 _ _ a7 q7=>?_
  refine HM hM λo es ep e r=>?_
  have e7:=a7.5.1 _ _ (dL _ e nL)
  refine⟨M,⟨o,es,ep,e7,r⟩,λh' TE=>?_⟩
  refine d5 ((a6.un a6.re.1 a7).YT ⟨o,es,ep,e7,r⟩ TE (λq=>bK ((a7.5.2 _ q).symm.trans (dL _ e nL))) gL) λL8 a8=>?_
  exact .mk (b:=.none) ((L6.trans l7).trans L8) rfl a8 q7
end
noncomputable abbrev mL(elt:dO):aJ->Env->Sem Unit:=λacc env=>qI elt env >>=λx=>call (.builtin "list.append") [acc,x] >>=λY=>pure ()
noncomputable abbrev oR(e i2:dO)(depth:Nat):aJ->Env->Sem Unit:=λacc env=>do
 let x←qI i2 env
 lO i2.pos
 let x←dQ i2 env x
 let it←uK [x] (pyIter x)
 let _←runOwn (.compStart e depth it acc env) env
 pure ()
section
variable {elt k v t1 i1 t2 i2:dO} {M6 x8:List dO} {scope:iF} {pos:Pos}
theorem x9:p6 (.ListComp elt [⟨t1,i1,M6,0⟩] scope pos) 0 t1 M6 (mL elt):=λit acc env=>⟨i1.pos,x7 rfl⟩
theorem vR:p6 (.ListComp elt [⟨t1,i1,M6,0⟩,⟨t2,i2,x8,0⟩] scope pos) 1 t2 x8 (mL elt):=λit acc env=>⟨i2.pos,x7 rfl⟩
theorem vS:p6 (.ListComp elt [⟨t1,i1,M6,0⟩,⟨t2,i2,x8,0⟩] scope pos) 0 t1 M6 (oR (.ListComp elt [⟨t1,i1,M6,0⟩,⟨t2,i2,x8,0⟩] scope pos) i2 1):=λit acc env=>by
 refine⟨i1.pos,x7 ?_⟩
 simp only [oR,bind_assoc,pure_bind]
 rfl
theorem M7(gs:List Comprehension)(d:Nat)(h:(gs[d]?).elim false (·.is_async !=0)=false):oQ (.ListComp elt gs scope pos) d:=⟨λY Y Y=>rfl,λY Y Y=>rfl,h⟩
end
theorem nU{D:WD}:PO D (newList []) (.lst []):=λY h=>
 jG (h _ (Ke.push _) λY=>.mk (bV _ rfl) (.ty rfl (by decide)) ⟨[],_,rfl,.nil⟩ trivial) (by size_fits)
section
variable {C:Ctx} {st:aK} {X:XQ}
theorem IA{elt:dO}{l:Nat}{Q:aK->Prop}(h:Ev C elt st (λb st1=>∃xs,st1.H[l]? =some (.lst xs)∧b.pure=true∧xs.length≤1000000∧Q ⟨st1.m,st1.H.set l (.lst (xs++ [b]))⟩) X):
  pD C Eqv (λv=>mL elt v C.env) (.aO l) st (λ(_:Unit)=>Q) X:=λa hv=>
 aC (on (h a) .refl λl1 Y r1 a1 q1=>by
  refine TX q1 λxs e hb hz q=>?_
  exact aC (on ((E5 e hb hz q:fM C (.blt "list.append") [.aO l,_] [] [] _ (λY=>Q) X) a1 (rfl:V _ _ (.blt "list.append") (.builtin "list.append")) (.cons (hv.mono l1) (.cons r1 .nil)) Vs.nil).2 l1 λY l2 Y a2 q2=>aI (.mk (b:=()) l2 rfl a2 q2)))
inductive aFR(C:Ctx)(target:dO)(ifs:List dO)(ins:aJ->Env->Sem Unit)(acc k0:Nat)(b:aA)(xs:List aA)(need:List (Nat×Pc))(J:Nat->aK->Prop)(st1 bW:aK):Prop where
 | mk (it:rT C target k0 b xs need st1 bW) (J0:J 0 bW) (loop:KD C target ifs ins acc bW.H.length xs need J)
theorem PP{e:dO}{target i2:dO}{ifs:List dO}{depth acc:Nat}{ins:aJ->Env->Sem Unit}{Q:aK->Prop}(he:p6 e depth target ifs ins)(hf:oQ e depth)(hh:C.hd=none)(hs:∀x,dQ i2 C.env x=pure x)
  (h:Ev C i2 st (λb st1=>∃xs need bW J,aFR C target ifs ins acc st.H.length b xs need J st1 bW∧∀fL,J xs.length fL->Q fL) eE):pD C Eqv (λv=>oR e i2 depth v C.env) (.aO acc) st (λ(_:Unit)=>Q) eE:=λ{A g ρ s aA7} a hv=>by
 refine aC (on (h a) .refl λ{v s1 b st1 ρ1} l0 l1 r1 a1 q1=>aC (d8 (aC (jS (hs v) (aC (dN ?_))))))
 refine aJ5 q1 λxs need bW J NA H8=>?_
 refine bM (NA.1 a1 l1 a.5.4 r1) (λit s2 p=>?_) λY Y e=>e.elim
 obtain⟨ρ2,fi,K,OF,a2,BK,hK,IO⟩:=p
 refine aC (wpAny_runOwn (h:=none) (m7 hf (tZ (R:=λr s'=>match r with | .ok fl=>bZ (c0 C.D.prog C.D.w) A (pure ()) (pX C A g ρ s.heap Eqv (λ(_:Unit)=>Q)) (fX C A g ρ s.heap eE) s' | .error e=>cameBackBy (c0 C.D.prog C.D.w) A C.env (fX C A g ρ s.heap eE) e s') he hf IO hh a2 (hv.mono OF) NA.3 NA.2 BK hK λL hJ a3=>?_) (IO.3 hK)))
 exact aI (.mk (b:=()) (OF.trans L) rfl a3 (H8 _ hJ))
def BU(C:Ctx)(scope:iF)(target:dO)(ifs:List dO)(ins:aJ->Env->Sem Unit)(p0:Pc)(use:Option (aJ->Sem Unit))(k0:Nat)(Q:aA->aK->Prop)(b:aA)(st1:aK):Prop:=
 ∃xs need bW J G,(∀x b,wA x G=some b->GR C.D x b)∧YU C scope target ifs ins k0 b p0 G xs need J st1 bW∧∀fL,J xs.length fL->KE C use bW.H.length ⟨bW.m,fL.H⟩ Q
section
variable {target iter t2 i2 elt k v:dO} {ifs x8:List dO} {scope:iF} {pos AM:Pos} {Q:aA->aK->Prop}
theorem Ev.lc1(K:E8 C.ns scope)(hh:C.hd= .none)(hs:∀x,dQ iter C.env x=pure x)(h:Ev C iter st (BU C scope target ifs (mL elt) (.lst []) .none st.H.length Q) X):Ev C (.ListComp elt [⟨target,iter,ifs,0⟩] scope pos) st Q X:=
 Wp.comp (use:=.none) rfl x9 (M7 _ _ rfl) nU K hh hs h
theorem Ev.OG(K:E8 C.ns scope)(hh:C.hd= .none)(hs:∀x,dQ iter C.env x=pure x)(h:Ev C iter st (BU C scope target ifs (oR (.ListComp elt [⟨target,iter,ifs,0⟩,⟨t2,i2,x8,0⟩] scope pos) i2 1) (.lst []) .none st.H.length Q) X):Ev C (.ListComp elt [⟨target,iter,ifs,0⟩,⟨t2,i2,x8,0⟩] scope pos) st Q X:=
 Wp.comp (use:=.none) rfl vS (M7 _ _ rfl) nU K hh hs h
variable {x:Str} {pos':Pos} {Q:bU->aK->Prop}
theorem used{t:Sem aJ}{p:Pos}(W:Wp C V t st (λY=>Q .next) X):Wp C F (lO p >>=λY=>(t >>=λY=>pure ()) >>=λY=>pure Flow.next) st Q X:=λa=>
 aC (d8 (aC (aC (on (W a) .refl λY l1 r1 a1 q1=>aI (aI (.mk (b:=.next) l1 rfl a1 q1))))))
theorem Ex.lc1(hsw:f9 (.ListComp elt [⟨target,iter,ifs,0⟩] scope AM) (some (.Name x pos')) pos.line C.env=pure true)(K:E8 C.ns scope)(hh:C.hd=none)(hs:∀x,dQ iter C.env x=pure x)
  (h:Ev C iter st (BU C scope target ifs (mL elt) (.lst []) (some (mU (.Name x pos') C.env)) st.H.length (λY=>Q .next)) X):Ex C (.Assign [.Name x pos'] (.ListComp elt [⟨target,iter,ifs,0⟩] scope AM) pos) st Q X:=by
 show Wp C F (exec _ _) st Q X
 rw[exec_Assign_Name_used x pos' _ pos hsw]
 exact used (Wp.comp (pos:=firstIterPos [⟨target,iter,ifs,0⟩] AM) rfl x9 (M7 _ _ rfl) nU K hh hs h)
theorem Ex.OG(hsw:f9 (.ListComp elt [⟨target,iter,ifs,0⟩,⟨t2,i2,x8,0⟩] scope AM) (some (.Name x pos')) pos.line C.env=pure true)(K:E8 C.ns scope)(hh:C.hd=none)(hs:∀x,dQ iter C.env x=pure x)
  (h:Ev C iter st (BU C scope target ifs (oR (.ListComp elt [⟨target,iter,ifs,0⟩,⟨t2,i2,x8,0⟩] scope AM) i2 1) (.lst []) (some (mU (.Name x pos') C.env)) st.H.length (λY=>Q .next)) X):Ex C (.Assign [.Name x pos'] (.ListComp elt [⟨target,iter,ifs,0⟩,⟨t2,i2,x8,0⟩] scope AM) pos) st Q X:=by
 show Wp C F (exec _ _) st Q X
 rw[exec_Assign_Name_used x pos' _ pos hsw]
 exact used (Wp.comp (pos:=firstIterPos [⟨target,iter,ifs,0⟩,⟨t2,i2,x8,0⟩] AM) rfl vS (M7 _ _ rfl) nU K hh hs h)
end
end
section
open PySem.SeqAt
section
variable {C:Ctx} {st:aK} {X:XQ} {A:cF} {g:c9} {ρ:Roo} {s:aM}
theorem At.add(a:At C A g ρ st s){x:cI}(hx:x∉C.X++ρ)(hg:g.get? x=none){p:Pc}(hn:p.ok C.D (ρ++ [x]) s.heap x):At C A g (ρ++ [x]) ⟨st.m,st.H++ [p]⟩ s:=
 a.go (h':=s.heap) (tk:=s.toks) (.app λY Y t=>t) (λY Y=>.of λY e=>e) (a.5.add (λY Y e=>e) hx hg hn)
theorem At.fresh(a:At C A g ρ st s){x:cI}(h:s.heap.get? x=none):x∉C.X++ρ:=λq=>(aT.mp q).elim (λq=>(a.6.oB x q).elim λo e=>bK (h.symm.trans e)) λq=>by
 refine cD (cV.mp q) λi e=>?_
 refine bS (Pc.live (a.5.5 i _ _ (aY (a.5.4▸(aF.mp e).1)) e)) λo e _=>?_
 exact bK (h.symm.trans e)
noncomputable def M8(o:Option Nat)(H:List Pc)(lT:Nat)(T:cI)(zs:List (Pos×Nat))(pos:Pos)(q:Str):List Pc×Nat:=Option.rec (H.set lT (.iG T (zs++ [(pos,H.length)]))++ [.pC q],H.length) (λk=>(H,k)) o
inductive aKJ(C:Ctx)(A:cF)(g:c9)(ρ:Roo)(h:c9)(st:aK)(z:List Pc×Nat)(params:Arguments)(body:dO)(scope:iF)(v:aJ)(s1:aM):Prop
 | mk (ρ1:Roo) (F ac:cI) (pm BV:aJ) (le:Le ρ h ρ1 s1.heap) (at':At C A g ρ1 ⟨st.m,z.1⟩ s1) (hv:v= .ref F) (hF:s1.heap.get? F=some ⟨.type "function",none,.func (kla_fn "<lambda>" (C.env.qual++"<lambda>") params body scope (wJ C.env.cells scope.names) pm (.ref ac) BV), #[]⟩) (hk:ρ1[z.2]? =some ac) (nF:F∉C.X++ρ1) (gF:g.get? F=none)
theorem M9{zs:List (Pos×Nat)}{z:Pos×Nat}:mK ρ (zs++ [z])=mK ρ zs++ [iQ z.1.line,iQ z.1.col,.ref (ρ.getD z.2 0)]:=by
 induction zs with
 | nil=>rfl
 | cons y r ih=>exact congrArg (λt=>iQ y.1.line::iQ y.1.col:: .ref (ρ.getD y.2 0)::t) ih
theorem aFS{params:Arguments}{body:dO}{scope:iF}{pos:Pos}{T c:cI}{lT:Nat}{zs:List (Pos×Nat)}{E:aJ->aM->Prop}(o:Option Nat)(J1:C.env.code= .ref c)(TF:uN C.D.K c T=true)(e:st.H[lT]? =some (.iG T zs))(ht:∀ρ:Roo,TriplesOk (mK ρ zs))(ho:∀ρ:Roo,codeAmong pos (mK ρ zs)=o.map λk=>.ref (ρ.getD k 0))(hk:∀k,o=some k->k < st.H.length)
  (FB:takes C.ns scope.names=true) (PQ:defaultsOf params C.env=([],[])) (a:At C A g ρ st s):
  bZ (c0 C.D.prog C.D.w) A (qI (.Lambda params body scope pos) C.env) (aKJ C A g ρ s.heap st (M8 o st.H lT T zs pos (C.env.qual++"<lambda>")) params body scope) E s:=by
 refine kla_eval PQ ?_
 obtain⟨mg,bm,ob,G,b1,b2,b3,b4,b5⟩:=a.3.6
 have K:=a.3.1.keeps a.5.1
 have G':=G.keeps a.5.1
 have b2':=a.5.1 _ _ b2
 refine bS (a.5.at e) λx hx ok=>?_
 obtain rfl:x=T:=ok.3
 refine bS ok.1 λo1 hT sJ=>d5 sJ λdE hz=>?_;subst dE
 have hgT:mainGlobals≠x:=λq=>by
  refine CG G' λo es ep e d _=>?_
  cases(q▸e).symm.trans hT;cases d
 have hbT:bm≠x:=λq=>by cases(q▸b2').symm.trans hT;cases b3
 have hbG:bm≠mainGlobals:=λq=>by
  refine CG G' λo es ep e d _=>?_
  cases(q▸b2').symm.trans e;rw[d] at b5;cases b5
 have hbB:bm≠nO:=λq=>by
  refine CG (a.3.2.keeps a.5.1) λo es ep e d _=>?_
  cases(q▸b2').symm.trans e;rw[d] at b5;cases b5
 have YK:=rX (env:=C.env) (scope:=scope) λy hy=>a.4.7 y (CX FB hy)
 cases o with
 | some k=>
  refine kla_makeFunctionHit (mg:=mg) YK a.4.4 G' J1 (codeHd_of_K K TF) hT (ht ρ) (ho ρ) ⟨bm,ob,b1,hbB,hbG,hbT,b2',b3,b4,b5⟩ λBV h' tk hx hge=>?_
  have lk:=a.5.4▸hk k rfl
  have k2:Ke s.heap (h'.push { cls:=.type "function",data:=.func (kla_fn "<lambda>" (C.env.qual++"<lambda>") params body scope (wJ C.env.cells scope.names) ((mg "__name__").getD .none) (.ref (ρ.getD k 0)) BV) }):=λb o e=>cP _ (hx b o e)
  have fr:s.heap.get? h'.objs.size=none:=nQ hge
  exact .mk ρ h'.objs.size (ρ.getD k 0) _ BV (.ke k2) (a.junk k2) rfl (bV _ rfl) (CI lk) (a.fresh fr) (some_or.elim id λz=>z.elim λo e=>bK (fr.symm.trans (a.5.1 _ _ e)))
 | none=>
 refine kla_makeFunction (mg:=mg) YK a.4.4 G' J1 (codeHd_of_K K TF) hT (ht ρ) (ho ρ) hgT ⟨bm,ob,b1,hbB,hbG,hbT,b2',b3,b4,b5⟩ λc' BV h' tk hxb hge TH aKK htb=>?_
 refine aJ7 aKK λc₂ oc us t e2 TD hd hv=>?_
 cases e2
 have hlT:x < s.heap.objs.size:=c6 hT
 have sb:eY x s.heap (s.heap.update x λY=>DX (bG (mK ρ zs)++ #[iQ pos.line,iQ pos.col,.ref c'])):=iD ..
 have hT1:(s.heap.update x λY=>DX (bG (mK ρ zs)++ #[iQ pos.line,iQ pos.col,.ref c'])).get? x=some (DX (bG (mK ρ zs)++ #[iQ pos.line,iQ pos.col,.ref c'])):=eZ _ hT rfl
 have T1:=TK.but sb.2 hT (.fields rfl)
 have a1:=a.upd (tk:=tk) (p:=.gone) hx sb.2 T1 (.mk hT1 (.fields rfl) (.fields rfl) trivial)
 have k2:Ke (s.heap.update x λY=>DX (bG (mK ρ zs)++ #[iQ pos.line,iQ pos.col,.ref c'])) (h'.push (kla_obj "<lambda>" (C.env.qual++"<lambda>") params body scope (wJ C.env.cells scope.names) ((mg "__name__").getD .none) c' BV)):=λb o e=>cP _ (by
  by_cases q:b=x
  ·subst q;obtain rfl:=aD (hT1.symm.trans e);exact htb
  ·exact hxb b o q ((sb.2 b q).symm.trans e))
 have big:∀y,s.heap.objs.size≤y->(s.heap.update x λY=>DX (bG (mK ρ zs)++ #[iQ pos.line,iQ pos.col,.ref c'])).get? y=none:=λy hy=>(sb.2 y (eC (bR hlT hy))).trans (nQ hy)
 have a2:=a1.new (tk:=tk) (p:=.pC (C.env.qual++"<lambda>")) k2 (big _ hge) (.mk (cP _ TD) (.fields hd) ⟨us,t,hd,hv⟩ trivial)
 have bF:=big h'.objs.size (dY (bA hge TH))
 have hc:(ρ++ [c'])[st.H.length]? =some c':=iH a.5.4
 have zW:(ρ++ [c'])[lT]? =some x:=(bE (aF.mp hx).1).trans hx
 have zl:∀z∈zs++ [(pos,st.H.length)],z.2 < (ρ++ [c']).length:=λz m=>by
  rw[aE]
  cases aT.mp m with
  | inl m=>exact bR (hz z m) (aW _ _)
  | inr m=>obtain rfl:=aU.mp m;rw[a.5.4];exact fU _
 have tA:mK (ρ++ [c']) (zs++ [(pos,st.H.length)])=mK ρ zs++ [iQ pos.line,iQ pos.col,.ref c']:=by
  rw[M9,oO hc]
  have:=xQ (ρ:=ρ) (ρ':=ρ++ [c']) (f:=λl=>l) (zs:=zs) λz m=>by rw[bO,bO,bE (hz z m)]
  rw[CH] at this
  rw[this]
 have hT2:(h'.push (kla_obj "<lambda>" (C.env.qual++"<lambda>") params body scope (wJ C.env.cells scope.names) ((mg "__name__").getD .none) c' BV)).get? x=some (DX (bG (mK ρ zs)++ #[iQ pos.line,iQ pos.col,.ref c'])):=k2 _ _ hT1
 have a3:=a2.upd (h':=h'.push (kla_obj "<lambda>" (C.env.qual++"<lambda>") params body scope (wJ C.env.cells scope.names) ((mg "__name__").getD .none) c' BV)) (tk:=tk) (i:=lT) (p:=.iG x (zs++ [(pos,st.H.length)])) zW (λY Y=>rfl) (λY Y t=>t) (.mk hT2 (.fields rfl) ⟨congrArg DX (tA.symm▸wC ..),zl⟩ rfl)
 have eH:((st.H.set lT .gone)++ [Pc.pC (C.env.qual++"<lambda>")]).set lT (.iG x (zs++ [(pos,st.H.length)]))=(M8 none st.H lT x zs pos (C.env.qual++"<lambda>")).1:=by
  have lt:=(aF.mp e).1
  rw[List.set_append_left _ _ (by rw[gY];exact lt),List.set_set];rfl
 refine .mk (ρ++ [c']) h'.objs.size c' _ BV ((Le.of T1).trans (Le.app k2.tk)) (eH▸a3) rfl (bV _ rfl) hc (λq=>?_) (some_or.elim id λz=>z.elim λo e=>bK (bF.symm.trans (a1.5.1 _ _ e)))
 rw[←c4] at q
 exact(aT.mp q).elim (a1.fresh bF) λq=>eC TH (aU.mp q)
theorem KF{params:Arguments}{body:dO}{scope:iF}{pos:Pos}{T c:cI}{lT:Nat}{zs:List (Pos×Nat)}{Q:aA->aK->Prop}(J1:C.env.code= .ref c)(TF:uN C.D.K c T=true)(e:st.H[lT]? =some (.iG T zs))(ht:∀ρ:Roo,TriplesOk (mK ρ zs))(hnf:∀ρ:Roo,codeAmong pos (mK ρ zs)=none)
  (FB:takes C.ns scope.names=true) (PQ:defaultsOf params C.env=([],[]))
  (h:∀q pm cv BV,Q (.aO (st.H.length+1)) ⟨st.m,st.H.set lT (.iG T (zs++ [(pos,st.H.length)]))++ [.pC q]++ [.tG (kla_fn "<lambda>" q params body scope (wJ C.env.cells scope.names) pm cv BV) st.H.length none]⟩):Ev C (.Lambda params body scope pos) st Q X:=λ{A g ρ s} a=>by
 refine bM (aFS none J1 TF e ht hnf (λY q=>nomatch q) FB PQ a (E:=λY Y=>False)) (λv s1 p=>?_) λY Y e=>e.elim
 obtain⟨ρ1,F,ac,pm,BV,le,at',hv,hF,hk,nF,gF⟩:=p
 subst hv
 have lH:(st.H.set lT (.iG T (zs++ [(pos,st.H.length)]))++ [Pc.pC (C.env.qual++"<lambda>")]).length=st.H.length+1:=by rw[aE,gY];rfl
 have ll:ρ1.length=st.H.length+1:=at'.5.4.trans lH
 refine .mk (b:=.aO (st.H.length+1)) (le.trans (.app λY Y t=>t)) ⟨F,by rw[←ll,bY (aZ _),k9];rfl,rfl⟩ (at'.add nF gF (p:=.tG (kla_fn "<lambda>" (C.env.qual++"<lambda>") params body scope (wJ C.env.cells scope.names) pm (.ref ac) BV) st.H.length none) (.mk hF (λY Y Y q=>Data.noConfusion q) ⟨ac, ?_, #[],rfl,λY q=>nomatch q⟩ trivial)) (h _ pm (.ref ac) BV)
 exact(bE (aF.mp hk).1).trans hk
end
end
section
open PySem.SeqAt Builtin Builtin.ObjectAttr
theorem yC:Slot "function" "__setattr__" "object.__setattr__":=
 .of (owner:="object") (n:="__setattr__") (by rw[dH,cL];kernel_rfl) (by decide +kernel) (by decide +kernel) (by decide +kernel)
  (by first | exact .inl (by decide +kernel) | exact .inr (by decide +kernel)) (by rw[jY];kernel_rfl)
theorem CZ:D3 table "object.__setattr__"=some lS.«object.__setattr__»:=oI ⋯
theorem FD(a b c:aJ):argsOk "object.__setattr__" ⟨[a,b,c],[]⟩:=⋯
theorem t0:gO (.type "function") "read"=pure none:=by rw[dH,cL];kernel_rfl
theorem NB(self:aJ):refuseLoop self "__setattr__" [.type "function",.type "object"]=pure ():=by
 kernel_rfl
theorem aA9:mroOf (.type "function")=pure [.type "function",.type "object"]:=⋯
section
variable {M:rL} {A:cF} {E:aJ->aM->Prop} {s:aM} {prog:rM} {w:World}
theorem IB{F:cI}{fd:cN}{sl}{name:Str}{v:aJ}{Q:Unit->aM->Prop}(ho:s.heap.get? F=some ⟨.type "function",none,.func fd,sl⟩)(hl:gO (.type "function") name=pure none)
  (h:∀h' tk,h'.get? F=some ⟨.type "function",some s.heap.objs.size,.func fd,sl⟩->TZ h' s.heap.objs.size (λy=>if y=name then some v else none) 1->(∀b o,b≠F->s.heap.get? b=some o->h'.get? b=some o)->Q () { s with heap:=h',toks:=tk }):
  bZ (c0 prog w) A (setAttr (.ref F) name v) Q E s:=by
 have hT:s.TypeIs (.ref F) "function":=⟨_,ho,rfl⟩
 refine aC (wpAny_mkText ?_)
 have hT':({ s with toks:=s.toks+1 }:aM).TypeIs (.ref F) "function":=hT
 refine aC (g7 (name:=gV "__setattr__") hT' yC (gQ yC hT' CZ ?_ (FD _ _ _)))
 refine aC ?_
 rw[refuse_eq]
 refine aC (w3 hT' ?_)
 rw[aA9]
 refine aC (aI ?_)
 rw[NB]
 refine aI ?_
 refine aC (jS (a:=name) (by first | rfl | kernel_rfl) ?_)
 refine aC (w3 hT' ?_)
 rw[hl]
 refine aC (aI (aC (aI ?_)))
 dsimp only
 unfold storeInOwnDict ownStreamTells
 dsimp only
 rw[if_neg (by decide),if_neg (by decide)]
 refine aC (aI ?_)
 rw[if_neg (by decide)]
 show bZ _ _ (instanceDict F true >>=_) _ _ _
 refine aC (aC (AB (s:={ s with toks:=s.toks+1 }) ho ?_))
 have hth:typeHasDict (.type "function")=true:=⋯
 rw[hth]
 rw[if_neg (by decide)]
 refine aC (wpAny_alloc ?_)
 have J2:({ s with toks:=s.toks+1,heap:=s.heap.push { cls:=.type "dict",data:=.dict #[] } }:aM).heap.get? F=_:=cP _ ho
 refine aC (wpAny_update J2 ?_)
 unfold dictMade
 dsimp only
 rw[show finalisedInACycleAlone "function"=false from by decide +kernel]
 rw[if_neg bH]
 refine aI ?_
 have tN:F≠s.heap.objs.size:=k8 (c6 ho)
 refine aC (aI ?_)
 have hd:((s.heap.push { cls:=.type "dict",data:=.dict #[] }).update F λo=>{ o with dict:=some s.heap.objs.size }).get? s.heap.objs.size=some { cls:=.type "dict",data:=.dict #[] }:=
  (wD _ _ _ _ tN.symm).trans (bV _ rfl)
 refine aC (tM (m:=λY=>none) (k:=0) ⟨_, #[],_,hd,rfl,λe he=>absurd he (by simp),λY=>rfl,aZ _⟩ λh' T7 TE=>?_)
 refine EE (id T7) λo' es' ep' q1 q2 q3 q4 q5=>?_
 refine aC (wpAny_lookBehind q1 (by rw[q2];exact pastItsLine_dict (aB q5 (by rw[sizeLine_eq];simp))) ?_)
 refine aI ⟨_,rfl,aI (h h' _ ?_ T7 λb o hb e=>?_)⟩
 ·exact(TE.2 F tN).trans (eZ _ (cP _ ho) rfl)
 ·exact(TE.2 b (k8 (c6 e))).trans ((wD _ _ _ _ hb).trans (cP _ e))
theorem oS:Slot "function" "__getattribute__" "object.__getattribute__":=
 .of (owner:="object") (n:="__getattribute__") (by rw[dH,cL];kernel_rfl) (by decide +kernel) (by decide +kernel) (by decide +kernel)
  (by first | exact .inl (by decide +kernel) | exact .inr (by decide +kernel)) (by rw[jY];kernel_rfl)
theorem FF:D3 table "object.__getattribute__"=some lS.«object.__getattribute__»:=oI ⋯
theorem IC(a b:aJ):argsOk "object.__getattribute__" ⟨[a,b],[]⟩:=⋯
theorem C0:gO (.type "function") "__getattr__"=pure none:=by rw[dH,cL];kernel_rfl
theorem ID{F d:cI}{fd:cN}{sl}{name:Str}{v:aJ}{mm:Str->Option aJ}{expr:Bool}{Q:aJ->aM->Prop}(ho:s.heap.get? F=some ⟨.type "function",some d,.func fd,sl⟩)(hn:s.heap.Ns d mm)(hv:mm name=some v)(hl:gO (.type "function") name=pure none)(hh:handedIn v=true)
  (h:Q v { s with toks:=s.toks+1 }):bZ (c0 prog w) A (getAttr (.ref F) name expr) Q E s:=by
 have hT:({ s with toks:=s.toks+1 }:aM).TypeIs (.ref F) "function":=⟨_,ho,rfl⟩
 unfold getAttr getAttrBy
 refine aC (wpAny_mkText (dN (aC (w3 hT ?_))))
 rw[oS.lookup]
 refine aC (aI ?_)
 dsimp only
 rw[if_neg (by decide)]
 unfold getAttrByItsOwn
 refine aC (aI (aC (uO (dN ?_))))
 unfold callGetattribute
 rw[if_neg (by simp [onTheHeap])]
 unfold boundAndCalled
 rw[oS.bind]
 refine aC (aI ?_)
 dsimp only
 refine gQ oS hT FF ?_ (IC _ _)
 unfold lS.«object.__getattribute__»
 refine aC (jS (a:=(.ref F,[.str name s.toks])) (by first | rfl | kernel_rfl) ?_)
 dsimp only
 refine aC (jS (a:=name) (by first | rfl | kernel_rfl) ?_)
 refine aC (w3 hT ?_)
 unfold find
 rw[hl]
 refine aC (aC (aI (aC (aI (aC (aI ?_))))))
 unfold ownThenClass inOwnDict Builtin.ObjectAttr.ownDict
 refine aC (aC (aC (wpAny_load (s:={ s with toks:=s.toks+1 }) ho ?_)))
 dsimp only
 unfold instanceDict
 refine aC (AB (s:={ s with toks:=s.toks+1 }) ho ?_)
 dsimp only
 refine aI ?_
 refine wpAny_nsGet (s:={ s with toks:=s.toks+1 }) hn ?_
 rw[hv]
 refine aC (lW (aI ?_))
 refine aI ⟨v,rfl, ?_⟩
 show bZ _ _ (handedOut v) _ _ _
 rw[handedOut_of hh]
 exact aI h
theorem C1{F d:cI}{fd:cN}{sl}{name:Str}{v:aJ}{mm:Str->Option aJ}{pl:Sem Bool}{Q:aJ×List aJ->aM->Prop}(ho:s.heap.get? F=some ⟨.type "function",some d,.func fd,sl⟩)(hn:s.heap.Ns d mm)(hv:mm name=some v)(hl:gO (.type "function") name=pure none)(hh:handedIn v=true)
  (h:Q (v,[]) { s with toks:=s.toks+1 }):bZ (c0 prog w) A (DZ (.ref F) name pl) Q E s:=by
 have hT:s.TypeIs (.ref F) "function":=⟨_,ho,rfl⟩
 refine aC (jE hT oS.lookup ?_)
 dsimp only
 rw[if_neg (by decide +kernel)]
 refine aC (jE hT C0 ?_)
 rw[if_neg (by decide)]
 refine aC (jE hT hl ?_)
 exact aC (ID ho hn hv hl hh (aI h))
end
section
variable {C:Ctx} {st:aK} {X:XQ}
theorem Gm.fx{l c d lg:Nat}{fd:cN}{fs:List (Str×aA)}{name:Str}{Q:aA×List aA->aK->Prop}(e:st.H[l]? =some (.tG fd c (some d)))(e2:st.H[d]? =some (.ns fs))(hl:gO (.type "function") name=pure none)(hb:fs.lookup name=some (.aO lg))(q:Q (.aO lg,[]) st):Gm C name (.aO l) st Q X:=λpl {A g ρ s v} a hv=>by
 refine bS hv λF hF dE=>?_;subst dE
 obtain⟨o,ho,ac,_,sl,rfl,hd⟩:=(a.5.5 l _ F e hF).1
 refine bS (a.5.at e2) λD hD okD=>?_
 obtain⟨o2,J2,mm,⟨es,ep,h1,h2,h3,h4⟩,hq⟩:=okD.1
 have z:=hq name
 rw[hb] at z
 obtain⟨w,hw,G,hG,rfl⟩:=z
 have ho:s.heap.get? F=some ⟨.type "function",some D,.func { fd with code:=.ref ac },sl⟩:=ho.trans (congrArg (λz=>some (⟨.type "function",z,_,sl⟩:Obj)) hD)
 exact C1 ho ⟨o2,es,ep,J2,h1,h2,h3⟩ hw hl rfl (.mk (b:=(.aO lg,[])) .refl ⟨⟨G,hG,rfl⟩,.nil⟩ a.toks q)
theorem Ex.UZ{o value:dO}{name:Str}{pos' pos:Pos}{Q:bU->aK->Prop}(hs:f9 value (some (.Attribute o name pos')) pos.line C.env=pure false)
  (h:Ev C value st (λb st1=>Ev C o st1 (λf bW=>∃l fd c,f= .aO l∧gO (.type "function") name=pure none∧bW.H[l]? =some (.tG fd c none)∧Q .next ⟨bW.m,(bW.H++ [Pc.ns [(name,b)]]).set l (.tG fd c (some bW.H.length))⟩) X) X):Ex C (.Assign [.Attribute o name pos'] value pos) st Q X:=λa=>by
 refine GZ (on (h a) .refl λ{v s1 b _ _} _ l1 r1 a1 q1=>on (q1 a1) l1 λ{u s2 _ bW ρ2} l2 l3 r2 a2 q2=>?_) hs
 refine MJ q2 λl fd c rF hl e q=>?_;subst rF
 refine bS r2 λF hF dE=>?_;subst dE
 obtain⟨o,ho,ac,U0,sl,rfl,hd⟩:=(a2.5.5 l _ F e hF).1
 have hv:=r1.mono l2
 refine IB ho hl λh' tk hF' T7 hk=>?_
 refine EE T7 λoD es ep q1 q2 q3 q4 q5=>?_
 have tN:F≠s2.heap.objs.size:=k8 (c6 ho)
 have sb:eY F h' (h'.update F λY=>⟨.type "function",none,.func { fd with code:=.ref ac },sl⟩):=iD ..
 have hF1:(h'.update F λY=>(⟨.type "function",none,.func { fd with code:=.ref ac },sl⟩:Obj)).get? F=some ⟨.type "function",none,.func { fd with code:=.ref ac },sl⟩:=eZ _ hF' rfl
 have k1:Ke s2.heap (h'.update F λY=>(⟨.type "function",none,.func { fd with code:=.ref ac },sl⟩:Obj)):=λx o' e'=>by
  by_cases z:x=F
  ·subst z;obtain rfl:=aD (ho.symm.trans e');exact hF1
  ·exact(sb.2 x z).trans (hk x o' z e')
 have L1:Le ρ2 s2.heap (ρ2++ [s2.heap.objs.size]) _:=Le.new k1
 have a3:=a2.new (tk:=tk) (p:=.ns [(name,b)]) k1 fE (.mk ((sb.2 _ tN.symm).trans q1) (.dict q2) ⟨_,⟨es,ep,q2,q3,q4,q5⟩,λx=>by
  rw[dA]
  by_cases z:x=name
  ·rw[beq_iff_eq.mpr z,if_pos z];exact⟨v,rfl,hv.mono L1⟩
  ·rw[beq_eq_false_iff_ne.mpr z,if_neg z];rfl⟩ trivial)
 have hl2:(ρ2++ [s2.heap.objs.size])[l]? =some F:=(bE (aF.mp hF).1).trans hF
 have T2:TK (h'.update F λY=>(⟨.type "function",none,.func { fd with code:=.ref ac },sl⟩:Obj)) h':=TK.but (λx hx=>(sb.2 x hx).symm) hF1 λY Y Y q=>Data.noConfusion q
 have a4:=a3.upd (tk:=tk) (p:=.tG fd c (some bW.H.length)) hl2 (λx hx=>(sb.2 x hx).symm) T2 (.mk hF' (λY Y Y q=>Data.noConfusion q) ⟨ac,(bE (aF.mp U0).1).trans U0,sl,congrArg (λz=>(⟨.type "function",z,_,sl⟩:Obj)) (iH a2.5.4).symm,λi z=>by obtain rfl:=aD z;rw[aE,a2.5.4];exact fU _⟩ trivial)
 exact .mk (b:=.next) (l3.trans (L1.trans (.of T2))) rfl a4 q
end
end
theorem IE{bs:List (Str×aJ)}(h:(bs.map (·.1)).Nodup){x:Str}{v:aJ}(hm:(x,v)∈bs):bs.reverse.lookup x=some v:=
 gG (by exact List.map_reverse▸List.pairwise_reverse.mpr (h.imp Ne.symm)) (List.mem_reverse.mpr hm)
def YV(D:WD)(x:Str)(b:aA)(ns:fF)(as:List aA)(m:Loc):Prop:=∀(i:Nat) y k a,ns[i]? =some (y,k)->m[i]? =some (some a)->
 (k= .local∧as[i]? =some a)∨(k= .globalImplicit∧GR D y a)∨(k= .free∧y=x∧a=b)
def aKL(H:List Pc)(lf:Nat)(L:xP)(q:Str)(cl lc:Nat):Prop:=H[lf]? =some (.wI L q cl lc)∨∃fd,EG L q fd∧H[lf]? =some (.HP fd L.x cl lc none)
noncomputable abbrev aKM(D:WD)(n:Nat)(fd:cN)(names:fF)(L F:cI)(cs:G8)(hd:Option aJ)(fs:List Env):Ctx:=
 ⟨D,n,newEnv fd.scope L fd.globals cs (fd.qualname++".<locals>.") (some F) fd.code none fd.builtins,[],[],names,hd,newEnv fd.scope L fd.globals cs (fd.qualname++".<locals>.") (some F) fd.code none fd.builtins::fs,[]⟩
theorem PR{f:Nat->Nat}{as:List aA}:(wL f as).length=as.length:=by
 induction as with
 | nil=>rfl
 | cons a r ih=>exact congrArg rK ih
section
variable {D:WD} {n:Nat} {H:List Pc} {L:xP} {q:Str} {b:aA} {as:List aA} {lf cl lc:Nat} {σ τ:List Nat}
theorem u7.lam{hd:Option aJ->Prop}{Q Q0:aA->List Pc->Prop}(h1:aKL H lf L q cl lc)(h2:H[cl]? =some (.rC b))(h3:H[lc]? =some (.pC q))
  (nσ:(mem lf σ || mem cl σ || mem lc σ)=false) (i:HY σ H as []=true) (hbσ:b.all (λl=>mem l σ)=true) (hps:L.nm.take as.length=L.ps.map λy=>(y,.local)) (hln:as.length=L.ps.length)
  (hb:∃m0,YV D L.x (b.map (λl=>idx l σ)) L.nm (wL (λl=>idx l σ) as) m0∧∀C',C'.D=D->C'.n=n->C'.ns=L.nm->hd C'.hd->Ev C' L.body ⟨m0,pick H (λl=>idx l σ) σ⟩ (λr bW=>Q0 r bW.H) eE)
  (hq:∀r H1,Q0 r H1->BJ σ τ H1 r=true∧Q (r.map (pM σ τ H.length)) (CQ H σ (pick H1 (pM σ τ H.length) (cE σ.length))++pick H1 (pM σ τ H.length) τ)):u7 D (n+1) hd (.aO lf) as [] [] H Q:=λ{A g ρ s fv vs ws} w hh hf hv hw=>by
 unfold HY at i
 have i:=aP i;have i4:=aQ i;have i:=aP i;have i3:=aQ i;have i:=aP i
 refine bS hf λFa hFa dE=>?_;subst dE
 obtain rfl:=(hw:ws= [])
 obtain⟨fd,F,ax,U1,ac,U0,sl,hox⟩:∃fd,EG L q fd∧∃ax,ρ[cl]? =some ax∧∃ac,ρ[lc]? =some ac∧∃sl,s.heap.get? Fa=some ⟨.type "function",none,.func { fd with closure:=[(L.x,ax)],code:=.ref ac },sl⟩:=by
  cases h1 with
  | inl h1=>obtain⟨ox,hox,fd,F,ax,U1,ac,U0,sl,rfl⟩:=(w.5.5 lf _ Fa h1 hFa).1;exact⟨fd,F,ax,U1,ac,U0,sl,hox⟩
  | inr h1=>refine bS h1 λfd F h1=>?_;obtain⟨ox,hox,ax,U1,ac,U0,sl,rfl,_⟩:=(w.5.5 lf _ Fa h1 hFa).1;exact⟨fd,F,ax,U1,ac,U0,sl,hox⟩
 obtain⟨oc,TD,vb,hvb,EP⟩:=(w.5.5 cl _ ax h2 U1).1
 obtain⟨ok,hok,us,tq,hdq,hq1⟩:=(w.5.5 lc _ ac h3 U0).1
 have kp:OD (c0 D.prog D.w) s.heap (.ref Fa):=⟨.frame,by decide,by decide,(Looks.ld (part:=none) hox).andThen .now⟩
 refine d5 (w.5.sub (aP i) (aQ i) i3) λR o=>?_
 have nn:∀{l y},ρ[l]? =some y->mem l σ=false->y∉fY ρ σ:=λ{l y} hy hm q=>by
  refine cD (cV.mp q) λk e=>?_
  refine bS (kI e) λj e1 dE=>?_;subst dE
  have m:=aN e1
  have:=w.5.uniq hy (getD_at (w.5.4▸oN (aP i) m))
  subst this
  exact Bool.noConfusion (hm.symm.trans (mem_iff.mpr m))
 have n3:mem lc σ=false:=(fP.mp nσ).2
 have n2:mem cl σ=false:=(fP.mp (fP.mp nσ).1).2
 have n1:mem lf σ=false:=(fP.mp (fP.mp nσ).1).1
 have gF:=dL (fY ρ σ) hox (nn hFa n1)
 have gx:=dL (fY ρ σ) TD (nn U1 n2)
 have gc:=dL (fY ρ σ) hok (nn U0 n3)
 have kb:=w.5.kb (aP i)
 have pf:=w.4.keeps kb
 have w0:Wd D (n+1) A (below s (fY ρ σ)) (fY ρ σ) (pick H (λl=>idx l σ) σ) s:=⟨w.1,w.2,w.3,pf,o⟩
 have hdp:A.depth < recursionLimit:=gU (bA (aW _ _) w.1) (by decide)
 refine⟨kp, ?_⟩
 refine cD w.3 λfs UA=>?_
 refine tD (kla_callFunE (body:=L.body) (o:=⟨.type "function",none,.func { fd with closure:=[(L.x,ax)],code:=.ref ac },sl⟩) (fd:={ fd with closure:=[(L.x,ax)],code:=.ref ac }) hdp hox rfl F.8 F.9 F.1 ⟨ac,ok,us,tq,rfl,hok,hdq,F.11.symm▸hq1⟩ ?_)
 have hl:L.ps.length=vs.length:=hln.symm.trans hv.length.symm
 have hv':=hv.map R i4
 have e1:(L.ps.zip vs).map (·.1)=L.ps:=CC (cC hl)
 have e2:(L.ps.zip vs).map (·.2)=vs:=CD (cC hl.symm)
 change bZ _ _ (nY { fd with closure:=[(L.x,ax)],code:=.ref ac } ⟨vs,[]⟩) _ _ _
 rw[F.12 _ _ vs hl.symm]
 refine aI ?_
 refine bS hb λm0 hm hB=>?_
 have sK:(L.nm.take as.length).map (·.1)=L.ps:=by rw[hps,m2];exact List.map_id _
 have ndb:((L.ps.zip vs).map (·.1)).Nodup:=e1.symm▸sK▸F.5.sublist ((j8 _ _).map _)
 have aKN:∀y∈L.ps.zip vs,fd.scope.names.lookup y.1=some .local:=λy hy=>by
  have e:y.1∈L.ps:=e1▸d9 (f:=(·.1)) hy
  exact F.4▸gG F.5 (uV (hps▸d9 (f:=λy=>(y,NameKind.local)) e))
 refine wpAny_newFunctionEnv (λy hy=>?_) aKN (λh₂ YS hsb=>?_) F.10
 ·have:(y.2 != .cell)=true:=bN.mp F.6 _ (F.4▸hy)
  exactλq=>by rw[q] at this;cases this
 have YL:Ke s.heap h₂:=λa o e=>hsb.extBut a o (k8 (c6 e)) (cP _ e)
 refine⟨(pf.4.keeps o.1).keeps YL,kla_codeExpr ?_⟩
 have L2:Le (fY ρ σ) s.heap (fY ρ σ) h₂:=.ke YL
 have big:∀y,s.heap.objs.size≤y->(below s (fY ρ σ)).get? y=none:=λy hy=>some_or.elim id λz=>z.elim λo' e=>absurd (c6 (o.1 _ _ e)) (qG.mpr hy)
 have a':At (aKM D n { fd with code:=.ref ac } L.nm s.heap.objs.size Fa [(L.x,ax)] A.handled fs) (A.deeper (newEnv fd.scope s.heap.objs.size fd.globals [(L.x,ax)] (fd.qualname++".<locals>.") (some Fa) (.ref ac) none fd.builtins)) (below s (fY ρ σ)) (fY ρ σ) ⟨m0,pick H (λl=>idx l σ) σ⟩ { s with heap:=h₂,toks:=s.toks+(L.ps.zip vs).length }:=by
  refine⟨iE UA,⟨bA (up (aZ 1) _ _) w.1,bA (up (by decide:3≤10) _ _) w.2,rfl⟩,pf,⟨F.10,F.4,F.5,F.2,F.3,b7.mpr ⟨λq=>(nomatch q),iC⟩,λy hy=>?_,λi y c e Y Y=>?_⟩,
   ⟨λa o' e=>YL a o' (o.1 _ _ e),λy hy=>?_, ?_,o.4,λi p y e hy=>Pc.mono L2 (λo=>YL _ _) (o.5 i p y e hy),o.6,o.7,o.8⟩,⟨⟨_,YS,λi y k a e1 e2=>?_⟩,λy c e=>?_,λY q=>(nomatch q),λY q=>(nomatch q)⟩⟩
  ·cases hy with
   | inl hy=>have:=bN.mp F.6 _ hy;cases this
   | inr hy=>
    have:=bN.mp F.7 _ hy
    have:(y==L.x)=true:=this
    show(([(L.x,ax)]:G8).lookup y).isSome=true
    rw[dA,this];rfl
  ·have:=bN.mp F.6 _ (aN e);cases this
  ·refine nI hy (λe0=>?_) λhy=>?_
   ·subst e0;exact big _ (aZ _)
   ·exact o.2 y hy
  ·exact b7.mpr ⟨λq=>(o.live (show s.heap.objs.size∈fY ρ σ from q)).elim λo e=>absurd (c6 e) (fN _),o.3⟩
  ·cases hm i y k a e1 e2 with
   | inl q=>
    obtain⟨rfl,q⟩:=q
    obtain⟨v,e3,hv⟩:=hv'.get q
    have li:i < as.length:=PR (f:=λl=>idx l σ) (as:=as)▸(aF.mp q).1
    have e4:L.ps[i]? =some y:=by
     have:=congrArg (·[i]?) sK
     rw[bX,b8 li,e1] at this
     exact this.symm
    exact⟨_,IE ndb (aN (i:=i) ((List.getElem?_zip_eq_some (l₁:=L.ps) (l₂:=vs) (z:=(y,v))).mpr ⟨e4,e3⟩)),hv.mono L2⟩
   | inr q=>cases q with
    | inl q=>obtain⟨rfl,q⟩:=q;exact q
    | inr q=>
     obtain⟨rfl,rfl,rfl⟩:=q
     exact⟨ax,vb,(show([(L.x,ax)]:G8).lookup L.x=some ax by rw[dA,beq_self_eq_true]),⟨oc,YL _ _ (o.1 _ _ gx),EP⟩,(hvb.map R hbσ).mono L2⟩
  ·have e:([(L.x,ax)]:G8).lookup y=some c:=e
   rw[dA] at e
   cases hyx:y==L.x with
   | true=>rw[hyx] at e;obtain rfl:=aD e;exact .inr ⟨oc,gx⟩
   | false=>rw[hyx] at e;exact bK e
 refine bM (hB _ rfl rfl rfl hh a') (λr s3 p=>?_) λv s3 p=>p.no
 obtain⟨le,r,a3,q⟩:=p
 refine d5 (hq _ _ q) λz1 z2=>?_
 have L:=L2.trans le
 refine d5 (w.5.put (aP i) L (⟨a3.5.1,λy hy=>a3.5.2 y (aR _ hy),(bC.mp a3.5.3).2.1,a3.5.4,a3.5.5,a3.5.6,a3.5.7,a3.5.8⟩:Own D (below s (fY ρ σ)) [] _ _ s3) z1) λR1 o2=>?_
 exact .mk (.app L.2) (r.map R1 (aQ (aP z1))) o2 z2
end
section
open PySem.SeqAt
def NC(C:Ctx)(e:dO)(y:Str)(fa:aA)(as:List aA)(st:aK)(Q:aA->aK->Prop)(X:XQ):Prop:=
 ∀{A:cF} {g:c9} {ρ:Roo} {s:aM} {fv:aJ} {vs:List aJ},At C A g ρ st s->V ρ s.heap fa fv->Vs ρ s.heap as vs->bZ (c0 C.D.prog C.D.w) A (qI e C.env) (λw s1=>OD (c0 C.D.prog C.D.w) s1.heap fv∧bZ (c0 C.D.prog C.D.w) A (call fv vs [(y,w)]) (pX C A g ρ s.heap V Q) (fX C A g ρ s.heap X) s1) (fX C A g ρ s.heap X) s
section
variable {C:Ctx} {st:aK} {X:XQ} {Q:aA->aK->Prop}
theorem Ev.rY{fe e:dO}{es:List dO}{y:Str}{kp pos:Pos}(hp:Plain es [⟨some y,e,kp⟩] [y])
  (he:qI (.Call fe es [⟨some y,e,kp⟩] pos) C.env=(do xL pos (←qI fe C.env) [] (n7 pos (fH es C.env)) (g6 pos (dX [⟨some y,e,kp⟩] C.env))))
  (h:Ev C fe st (λfa st1=>Ar C es pos st1 (λas bW=>NC C e y fa as bW Q X) X) X):Ev C (.Call fe es [⟨some y,e,kp⟩] pos) st Q X:=λa=>by
 show bZ _ _ (qI _ _) _ _ _
 exact he▸aC (on (h a) .refl λY l1 r1 a1 q1=>kH (hp.1 _ _) (hp.2 _ _) (EH hp a1 l1 q1 λl2 r2 a2 q2=>
  wpAny_evalAll_cons (x:=do let v←qI e C.env;lO pos;pure v) (aC (bM (q2 a2 (r1.mono l2) r2) (λw s3 z=>aC (d8 (aI (tC ⟨z.1,bM z.2 (λx s p=>by cases p with | mk le r at' q=>exact .mk ((l1.trans l2).trans le) r at' q) λY Y x=>x.pre (l1.trans l2)⟩)))) λY Y x=>x.pre (l1.trans l2)))))
theorem ap0{α:Type}{x y:α}(l:List α):(l++ [x,y])[l.length]? =some x:=by rw[bY (aZ _),k9];rfl
theorem ap1{α:Type}{x y:α}(l:List α):(l++ [x,y])[l.length+1]? =some y:=by rw[bY (eW _),show l.length.succ - l.length=1 from lP l.length 1];rfl
theorem PS{k n:Nat}{R:List Pc}:∀{H:List Pc},lK k n H=true->lK k n (H++R)=true:=by
 induction n with
 | zero=>exactλY=>rfl
 | succ n ih=>
  intro H h
  cases H with
  | nil=>cases h
  | cons p H=>exact bP.mpr ⟨aP h,ih (aQ h)⟩
theorem V.pY{ρ:Roo}{h:c9}{a:aA}{v:aJ}{n:Nat}(e:V ρ h a v)(hn:ρ.length=n):a.all (λl=>dT l n)=true:=by
 subst hn
 refine aA.rec (motive_1:=λa=>∀v,V ρ h a v->a.all (λl=>dT l ρ.length)=true) (motive_2:=λas=>∀vs,Vs ρ h as vs->HW (λl=>dT l ρ.length) as=true)
  (λY Y=>rfl) (λY Y Y=>rfl) (λY Y Y=>rfl) (λY Y Y=>rfl) (λY Y Y=>rfl) (λl v e=>e.elim λa z=>Nat.ble_eq_true_of_le (aF.mp z.1).1) (λY ih Y e=>?_) (λY Y Y=>rfl) (λY Y Y=>rfl) (λY Y Y Y Y=>rfl) (λY Y=>rfl) (λY Y i1 i2 Y e=>?_) a v e
 ·refine dW e λa vs e t r=>?_;exact ih vs r
 ·refine dW e λv r e x y=>?_;exact bP.mpr ⟨i1 v x,i2 r y⟩
theorem aKO{ρ ρ':Roo}{x y:cI}(h:∀(l:Nat) (a:cI),(ρ++ [x,y])[l]? =some a->ρ'[l]? =some a)(e:ρ'.length=ρ.length+2):ρ'.take ρ.length=ρ∧ρ'[ρ.length+1]? =some y:=by
 refine⟨List.ext_getElem? λl=>?_,h _ _ (ap1 ρ)⟩
 by_cases c:l < ρ.length
 ·rw[b8 c,aY c]
  exact h _ _ (by rw[bE c];exact aY c)
 ·rw[dC.mpr (fV c),dC.mpr (by rw[hY,j3 (e▸aW _ _)];exact fV c)]
theorem NC.lam{L:xP}{q:Str}{params:Arguments}{body:dO}{scope:iF}{pos:Pos}{T c:cI}{lT i k:Nat}{zs:List (Pos×Nat)}{b fa:aA}{as:List aA}{y:Str}{H1:List Pc}(o:Option Nat)(J1:C.env.code= .ref c)(TF:uN C.D.K c T=true)(hql:C.env.qual++"<lambda>"=q)(e:st.H[lT]? =some (.iG T zs))(ht:∀ρ:Roo,TriplesOk (mK ρ zs))(ho:∀ρ:Roo,codeAmong pos (mK ρ zs)=o.map λk=>.ref (ρ.getD k 0))(hk:∀k,o=some k->k < st.H.length)
  (FB:takes C.ns scope.names=true) (PQ:defaultsOf params C.env=([],[]))
  (hL:∀cl pm cv BV,EG L q (kla_fn "<lambda>" q params body scope cl pm cv BV)) (YK:∀cs:G8,wJ cs scope.names= [(L.x,(cs.lookup L.x).getD 0)])
  (hi:C.ns[i]? =some (L.x,.cell)) (BF:i∉C.cp) (hm:st.m[i]? =some (some b)) (hH:M8 o st.H lT T zs pos q=(H1,k)) (hN:lK H1.length H1.length H1=true) (hh:C.hd=none)
  (con:u7 C.D C.n (· =none) fa as [y] [.aO H1.length] (H1++ [.wI L q (H1.length+1) k,.rC b]) (λr H'=>H'=H1++ [.wI L q (H1.length+1) k,.rC b]∧r.all (λ_=>false)=true∧Q r ⟨st.m,H1⟩)):NC C (.Lambda params body scope pos) y fa as st Q X:=λ{A g ρ s fv vs} a hf hv=>by
 refine bM (aFS o J1 TF e ht ho hk FB PQ a (E:=λY Y=>False)) (λw s1 p=>?_) λY Y e=>e.elim
 rw[hql,hH] at p
 obtain⟨ρ1,F,ac,pm,BV,le,at',hw,hF,hk,nF,gF⟩:=p
 subst hw
 refine bS at'.6.1 λM hM hq=>?_
 refine dW (hq i L.x .cell b hi hm) λz v hz EP hvb=>?_
 have zo:=at'.4.8 i L.x z hi BF hz
 have zX:z∈C.X:=Ctx.Xo zo
 have nd:=bC.mp at'.5.3
 have nz:z∉ρ1:=λq=>nd.2.2 z zX z q rfl
 have nF1:F∉ρ1:=λq=>nF (aR _ q)
 have nFX:F∉C.X:=λq=>nF (bJ _ q)
 have kg:Ke g (eJ s1.heap (ρ1++ [F,z])):=oM at'.5.1 λx hx=>by
  cases aT.mp hx with
  | inl hx=>exact at'.5.2 x (aR _ hx)
  | inr hx=>
   refine nI hx (λe0=>?_) λhx=>?_
   ·subst e0;exact gF
   ·obtain rfl:=aU.mp hx;exact at'.5.2 _ (bJ _ zX)
 have L3:Le ρ1 s1.heap (ρ1++ [F,z]) s1.heap:=Le.app λY Y t=>t
 have l1:ρ1.length=H1.length:=at'.5.4
 have lF:(ρ1++ [F,z])[H1.length]? =some F:=l1▸ap0 ρ1
 have lz:(ρ1++ [F,z])[H1.length+1]? =some z:=l1▸ap1 ρ1
 have o1:Own C.D (eJ s1.heap (ρ1++ [F,z])) [] (ρ1++ [F,z]) (H1++ [.wI L q (H1.length+1) k,.rC b]) s1:=by
  refine⟨λY Y e=>kQ _ e,λx hx=>gJ _ hx,(show(ρ1++ [F,z]).Nodup from bC.mpr ⟨nd.2.1,b7.mpr ⟨λq=>nFX (aU.mp q▸zX),b7.mpr ⟨λq=>(nomatch q),iC⟩⟩,λx hx y hy e=>?_⟩),by rw[aE,aE,l1];rfl,λj p x e hy=>?_,at'.5.6,at'.5.7,at'.5.8⟩
  ·refine nI hy (λe0=>?_) λhy=>?_
   ·subst e0;exact nF1 (e▸hx)
   ·obtain rfl:=aU.mp hy;exact nz (e▸hx)
  ·by_cases c:j < H1.length
   ·rw[bE c] at e
    rw[bE (l1▸c)] at hy
    exact Pc.mono L3 (λY h=>h) (at'.5.5 j p x e hy)
   ·rw[bY (fV c)] at e
    refine cD (lU (fV c)) λd dF=>?_;subst dF
    rw[lP] at e
    match d,e with
    | 0,e=>
     obtain rfl:=aD e
     obtain rfl:=aD (lF.symm.trans hy)
     exact .mk hF (λY Y Y q=>Data.noConfusion q) ⟨_,hL [] pm (.ref ac) BV,z,lz,ac,L3.1 _ _ hk, #[],by rw[hql,YK,hz];rfl⟩ trivial
    | 1,e=>
     obtain rfl:=aD e
     obtain rfl:=aD (lz.symm.trans hy)
     refine bS EP λoc TD hd=>?_
     exact .mk TD (.cell hd) ⟨v,hvb.mono L3,hd⟩ trivial
 have W:Wd C.D C.n A (eJ s1.heap (ρ1++ [F,z])) (ρ1++ [F,z]) (H1++ [.wI L q (H1.length+1) k,.rC b]) s1:=⟨at'.2.1,at'.2.2,⟨_,at'.1⟩,at'.3.keeps kg,o1⟩
 refine d5 (con W (at'.2.3.trans hh) (hf.mono (le.trans L3)) (hv.mono (le.trans L3)) (.cons ⟨F,lF,rfl⟩ .nil)) λK w=>?_
 refine⟨K,bM w (λx s2 p=>?_) λY Y e=>e.elim⟩
 obtain @⟨r,H',ρ',OF,rv,o2,hQ⟩:=p
 obtain⟨rfl,hr,hQ⟩:=hQ
 have len:ρ'.length=ρ1.length+2:=by rw[o2.4,aE,l1];rfl
 obtain⟨e1,e2⟩:=aKO OF.1 len
 have Lr:Le ρ1 s1.heap ρ1 s2.heap:=⟨λY Y x=>x,OF.2⟩
 have o3:=o2.cut (k:=H1.length) (PS hN)
 rw[←l1,e1,l1,List.take_left] at o3
 have keep:∀c,c∉ρ1->c≠F->c≠z->∀o,s1.heap.get? c=some o->s2.heap.get? c=some o:=λc h1 h2 h3 o e=>o2.1 c o (dL _ e λq=>by
  cases aT.mp q with
  | inl q=>exact h1 q
  | inr q=>
   refine nI q (λe0=>?_) λq=>?_
   ·subst e0;exact h2 rfl
   ·exact h3 (aU.mp q))
 have kX:∀c∈C.X,c≠z->∀o,s1.heap.get? c=some o->s2.heap.get? c=some o:=λc hc h3=>keep c (λq=>nd.2.2 c hc c q rfl) (λq=>nFX (q▸hc)) h3
 have kg2:Ke g s2.heap:=λb o e=>o2.1 _ _ (kg _ _ e)
 obtain⟨oc,TD,v',hv',hd'⟩:=(o2.5 (H1.length+1) (.rC b) z (ap1 H1) (l1▸e2)).1
 have lX:C.env.locals≠z:=λq=>(b7.mp nd.1).1 (q▸bJ _ zo)
 have hb1:V ρ1 s2.heap b v':=by
  have:=hv'.map (P:=λl=>dT l H1.length) (f:=λl=>l) (ρ':=ρ1) (h':=s2.heap) ⟨λl x c e=>by
   have c:=aH c
   rw[←e1,b8 (l1▸c)];exact e,λY Y t=>t⟩ (V.pY hvb l1)
  rw[aA.mid] at this
  exact this
 have at2:At C A g ρ1 ⟨st.m,H1⟩ s2:=by
  refine⟨at'.1,at'.2,at'.3,at'.4,⟨kg2,at'.5.2,at'.5.3,at'.5.4,o3.5,o2.6,o2.7,o2.8⟩,⟨⟨M,hM.elim λo h=>h.elim λes h=>h.elim λep h=>⟨o,es,ep,kX _ Ctx.XL lX o h.1,h.2⟩,λj x kd a e1 e2=>?_⟩,at'.6.2,λc hc=>?_,λp hp=>(at'.6.4 p hp).keep (.of λo e=>?_)⟩⟩
  ·by_cases hx:x=L.x
   ·subst hx
    obtain rfl:=at'.4.uniq hi e1
    cases hi.symm.trans e1
    cases hm.symm.trans e2
    exact⟨z,v',hz,⟨oc,TD,hd'⟩,hb1⟩
   ·refine(hq j x kd a e1 e2).mono Lr (λv e=>e) λc v e ic=>?_
    have hcz:c≠z:=λq=>hx (name_of_addr (gT.mp at'.4.6) (mem_of_lookup e) (mem_of_lookup (q▸hz)))
    obtain⟨o,ho,d⟩:=ic
    cases at'.6.2 x c e with
    | inl q=>exact⟨o,kX c (Ctx.Xo q) hcz o ho,d⟩
    | inr q=>obtain⟨o',q⟩:=q;exact⟨o,(kg2 c o' q).trans ((at'.5.1 c o' q).symm.trans ho),d⟩
  ·by_cases h:c=z
   ·subst h;exact⟨_,oc,TD,hd'⟩
   ·obtain⟨v,o,ho,d⟩:=at'.6.3 c hc;exact⟨v,o,kX c (Ctx.Xo hc) h o ho,d⟩
  ·exact kX _ (Ctx.Xk hp) (λq=>(bC.mp (b7.mp nd.1).2).2.2 z zo _ (d9 (f:=λp:Env×Obj=>p.1.locals) hp) q.symm) o e
 have hr1:V ρ1 s2.heap r x:=by
  have:=rv.map (P:=λY=>false) (f:=λl=>l) (ρ':=ρ1) (h':=s2.heap) ⟨λl x c e=>(nomatch c),λY Y t=>t⟩ hr
  rw[aA.mid] at this
  exact this
 exact .mk (le.trans Lr) hr1 at2 hQ
end
end
section
variable {D:WD} {n:Nat} {A:cF} {g:c9} {ρ:Roo} {H:List Pc} {s:aM} {C fI:cI} {as ks:List aA} {kn:List Str} {fd:cN} {names:fF} {body:List v8}
theorem Wd.under{c:Code}(w:Wd D (n+1) A g ρ H s)(hw:c.weight≤1)(hu:c.cUnits≤10){s':aM}{ρ':Roo}{H':List Pc}(o:Own D g [] ρ' H' s'):Wd D n (A.under c) g ρ' H' s':=
 ⟨bA (up hw _ _) w.1,bA (up hu _ _) w.2,w.3.elim λfs e=>⟨c.envs++fs,by show pushEnvs c.envs A.frames=_;rw[e];cases c.envs <;> rfl⟩,w.4,o⟩
inductive yD(K:z7)(C fI:cI):Prop where
 | mk (new:makesIn K C=true) (init:nH K (.ref C) "__init__"=some (some (.ref fI))) (ty:typeIn K (.ref fI)=some (.type "function")) (at':∃oc od cd OE,K.lookup C=some ⟨oc,od,.cls cd,OE⟩) (call:specialIn K (.ref C) "__call__"=some (some (.builtin "type.__call__")))
theorem yD.kpr{K:z7}{M:rL}{h:c9}(c:yD K C fI)(X:K.In h):OD M h (.ref C):=by
 refine wG c.4 λoc od cd OE e=>?_
 refine⟨.machine,by decide,by decide, ?_⟩
 refine(Looks.ld (part:=none) (X _ _ e)).andThen ?_
 exact(looks_specialIn X c.5).andThen .now
theorem u7.cls{hd:Option aJ->Prop}{Q:aA->List Pc->Prop}(c:yD D.K C fI)(h:fS D n hd fI (.aO (H.length+1)::as) kn ks (H++ [.ns []]++ [.inst C H.length]) (λr H'=>r= .none∧Q (.aO (H.length+1)) H')):u7 D (n+1) hd (.ref C) as kn ks H Q:=λ{A g ρ s fv vs ws} w hh hf hv hw=>by
 obtain rfl:=(hf:_=_)
 have X:=w.4.1.keeps w.5.1
 refine⟨c.kpr X,tD ?_⟩
 obtain⟨hp,gg,dd,tk,os⟩:=s
 refine make_core (makes_of X c.1) (HF X c.2) (λself=>bind_fn X self c.3) (.inl rfl) ?_
 have hsz:(hp.push emptyDict).objs.size=hp.objs.size+1:=pL ..
 have o1:=w.5.new (tk:=tk) (p:=.ns []) (Ke.push emptyDict) fE (λy hy=>nomatch hy) (.mk (bV _ rfl) (.dict rfl) ⟨λY=>none,⟨#[],0,rfl,λY he=>absurd he (Array.not_mem_empty _),λY=>rfl,cO _⟩,λY=>rfl⟩ trivial)
 have L:Le ρ hp (ρ++ [hp.objs.size]++ [hp.objs.size+1]) ((hp.push emptyDict).push (instObj C hp.objs.size)):=(Le.new (Ke.push _)).trans (Le.new (Ke.push _))
 have hx:(ρ++ [hp.objs.size]++ [hp.objs.size+1])[H.length+1]? =some (hp.objs.size+1):=by
  have:=iH (x:=hp.objs.size+1) o1.4
  rwa [aE] at this
 refine iV (h (w.under (aH rfl) (aH rfl) (o1.new (tk:=tk) (x:=hp.objs.size+1) (p:=.inst C H.length) (Ke.push (instObj C hp.objs.size)) (hsz▸fE:(hp.push emptyDict).get? (hp.objs.size+1)=none) (λy hy=>nomatch hy) (.mk (hsz▸bV _ rfl) (λY Y Y q=>Data.noConfusion q) ⟨hp.objs.size,(bE (by rw[aE,w.5.4];exact fU _)).trans (iH w.5.4),_,rfl⟩ trivial)):Wd D n (A.under (.builtin "type.__call__" ⟨.ref C::vs,kn.zip ws⟩)) g _ _ ⟨(hp.push emptyDict).push (instObj C hp.objs.size),gg,dd,tk,os⟩) hh (.cons ⟨_,hx,rfl⟩ (hv.mono L)) (hw.mono L)) λr s' q=>?_
 cases r with
 | error e=>exact q.elim
 | ok f=>cases f with
  | ret v=>
   obtain⟨le,r,o,q⟩:=q
   obtain⟨rfl,q⟩:=q;exact⟨r,.mk (b:=.aO _) (L.trans le) ⟨_,le.1 _ _ hx,rfl⟩ o q⟩
  | _=>exact q.elim
end
section
open PySem.SeqAt
theorem kK:Slot "callable_iterator" "__next__" "callable_iterator.__next__":=
 .of (owner:="callable_iterator") (n:="__next__") (by rw[dH,cL];kernel_rfl) (by decide +kernel) (by decide +kernel) (by decide +kernel)
  (by first | exact .inl (by decide +kernel) | exact .inr (by decide +kernel)) (by rw[jY];kernel_rfl)
theorem t5:Slot "callable_iterator" "__iter__" "callable_iterator.__iter__":=
 .of (owner:="callable_iterator") (n:="__iter__") (by rw[dH,cL];kernel_rfl) (by decide +kernel) (by decide +kernel) (by decide +kernel)
  (by first | exact .inl (by decide +kernel) | exact .inr (by decide +kernel)) (by rw[jY];kernel_rfl)
theorem rZ:D3 table "callable_iterator.__next__"=some lS.«callable_iterator.__next__»:=entryFor_of_fast ⋯
theorem AN:D3 table "callable_iterator.__iter__"=some lS.«dict_keyiterator.__iter__»:=
 entryFor_alias (id':="dict_keyiterator.__iter__") ⋯ rfl (by decide +kernel) ⋯
theorem t6(a:aJ):argsOk "callable_iterator.__next__" ⟨[a],[]⟩:=⋯
theorem C2(a:aJ):argsOk "callable_iterator.__iter__" ⟨[a],[]⟩:=⋯
theorem sQ{M:rL}{A:cF}{E:aJ->aM->Prop}{s:aM}{f:aJ}{pos:List aJ}{Q:aJ->aM->Prop}
  (hc:pR M A (.call f ⟨pos,[]⟩) (λr s'=>match r with | .ok (.ret v)=>Q v s' | .ok _=>False | .error e=>E e s') s):
  bZ M A (callBorrowed f pos) Q E s:=λΓ p hΓ=>by
 unfold callBorrowed
 rw[Sem.wp_call]
 refine wpCode_mono (λr s' h=>?_) (hc _ p rfl (hΓ.enter _ none p (by intro x;exact bK x)))
 cases r with
 | error e=>exact h
 | ok f=>cases f <;> first | exact h | exact h.elim
theorem BW{M:rL}{A:cF}{s:aM}{α:Type}{Q:α->aM->Prop}{E:aJ->aM->Prop}(hh:A.handled=none)
  (h:∀h' e,(∀b o,s.heap.get? b=some o->h'.get? b=some o)->({ s with heap:=h' }:aM).TypeIs e "StopIteration"->E e { s with heap:=h' }):bZ M A (Builtin.SmallTypes.stopIteration (α:=α)) Q E s:=by
 refine aC ?_
 show bZ _ _ (newExc (.type "StopIteration") [] >>=_) _ _ _
 refine aC ?_
 simp only [newExc,newTuple]
 refine aC (jG ?_ (by size_fits))
 refine aC (m:=AF _ _) (jS (a:=j1) (by first | rfl | (simp only [AF];rfl)) ?_)
 refine jG ?_ (by size_fits)
 refine aI ?_
 simp only [raiseNew]
 refine aC (wpAny_handled ?_)
 rw[hh]
 refine aC (aI (wpAny_throw ?_))
 exact h _ _ (λb o e=>cP _ (cP _ e)) ⟨_,bV _ rfl,rfl⟩
inductive KG(K:z7)(C:cI)(name:Str)(fn:cI):Prop where
 | mk (pg:plainGet K C name=true) (hh:hasDictIn K C=true) (ha:nH K (.ref C) name=some (some (.ref fn))) (hf:JY K (.ref fn)=true) (gf:specialIn K (.ref fn) "__get__"=some (some (.builtin "function.__get__"))) (ht:takesIn K (.ref fn)=some false) (hc:copiedNames.contains name=false)
theorem IF:D3 table "iter"=some lS.«iter»:=oI ⋯
theorem IG:plainId "iter"=true:=by decide +kernel
theorem ND:builtinKind "iter"=none:=by decide +kernel
theorem NE(a b:aJ):argsOk "iter" ⟨[a,b],[]⟩:=⋯
theorem PU:gO (.type "method") "__call__"=pure (some (.builtin "method.__call__")):=by rw[dH,cL];kernel_rfl
theorem U2(l k:List Nat):(c8 l==c8 k)=(l==k):=by
 by_cases h:l=k
 ·rw[h,beq_self_eq_true,beq_self_eq_true]
 ·rw[beq_eq_false_iff_ne.mpr h,beq_eq_false_iff_ne.mpr λq=>h (xA q)]
def aKP(ρ:Roo)(h:c9):Option aA->Option aJ->Prop
 | some a,x=>∃v,x=some v∧V ρ h a v
 | none,x=>x=none
theorem borrows{prog:rM}{w:World}{A:cF}{s:aM}{Q:Bool->aM->Prop}{E:aJ->aM->Prop}{b x fn:cI}{o:Obj}{fd:cN}(e1:s.heap.get? b=some (methodObj (.ref fn) (.ref x)))(e2:s.heap.get? fn=some o)(e3:o.data= .func fd)(q:Q true s):bZ (c0 prog w) A (borrowsExactly (.ref b)) Q E s:=by
 refine aC (wpAny_load e1 (aC (wpAny_load e2 ?_)))
 exact e3▸aI q
section
variable {C:Ctx} {st:aK} {X:XQ}
abbrev Nx(C:Ctx)(l:Nat)(st:aK)(Q:Option aA->aK->Prop):Prop:=pD C aKP uW (.aO l) st Q eE
def nxQ(l b fn x:Nat)(txt:List Nat)(m:Loc)(Q:Option aA->aK->Prop)(r:aA)(H':List Pc):Prop:=
 ∃k,r= .str k∧H'[l]? =some (.hC b txt)∧H'[b]? =some (.m6 fn x)∧match txt==k with | true=>Q none ⟨m,H'.set l .tL⟩ | false=>Q (some (.str k)) ⟨m,H'⟩
theorem Nx.call{n l b fn x:Nat}{txt:List Nat}{hd:Option aJ->Prop}{Q:Option aA->aK->Prop}(hn:C.n=n+1)(hh:C.hd=none)(TF:hd none)(hi:st.H[l]? =some (.hC b txt))(hb:st.H[b]? =some (.m6 fn x)){oc:aJ}{od:Option cI}{fd:cN}{OE:Array (Option aJ)}
  (hf:C.D.K.lookup fn=some ⟨oc,od,.func fd,OE⟩) (h:fS C.D n hd fn [.aO x] [] [] st.H (nxQ l b fn x txt st.m Q)):Nx C l st Q:=λ{A g ρ s v} a hv=>by
 refine bS hv λit hit dE=>?_;subst dE
 obtain⟨o,ho,ab,hab,t,rfl⟩:=(a.5.5 l _ it hi hit).1
 obtain⟨o2,hbo,ax,U1,rfl⟩:=(a.5.5 b _ ab hb hab).1
 have hT:s.TypeIs (.ref it) "callable_iterator":=⟨_,ho,rfl⟩
 refine aC (uO (g7 (name:=gV "__next__") hT kK (gQ kK hT rZ ?_ (t6 _))))
 show bZ _ _ (field (.ref it) 2 >>=_) _ _ s
 refine aC (jT ho rfl (x:=.bool false) rfl ?_)
 rw[if_neg (show¬((pQ false==pQ true)=true) from bH)]
 refine aC (jT ho rfl (x:=.ref ab) rfl (aC (uO ?_)))
 refine aC (borrows hbo (a.5.1 _ _ (a.3.1 _ _ hf)) rfl ?_)
 rw[if_pos rfl]
 have w:=a.wd0
 rw[hn] at w
 refine sQ (ks_codeAny_call_bound hbo (iV (h w.in1 (show hd A.handled from(a.2.3.trans hh).symm▸TF) (.cons ⟨_,U1,rfl⟩ .nil) (ws:=[]) .nil) λr' s' q=>?_))
 cases r' with
 | error e=>exact q.elim
 | ok fl=>
  cases fl with
  | ret v=>
   obtain @⟨c,H1,ρ1,le,hv,o1,q⟩:=q
   obtain⟨k,rfl,hi1,hb1,q⟩:=q
   obtain⟨u,rfl⟩:=hv
   have a1:=a.of0 le o1
   have aFT:=le.1 _ _ hit
   obtain⟨o3,ho1,ab1,aFU,t1,rfl⟩:=(a1.5.5 l _ it hi1 aFT).1
   cases(le.1 _ _ hab).symm.trans aFU
   obtain⟨o4,aKQ,ax1,aNU,rfl⟩:=(a1.5.5 b _ ab hb1 aFU).1
   show bZ _ _ (field (.ref it) 2 >>=_) _ _ s'
   refine aC (jT ho1 rfl (x:=.bool false) rfl ?_)
   rw[if_neg (show¬((pQ false==pQ true)=true) from bH)]
   refine aC (jT ho1 rfl (x:=.str (c8 txt) t1) rfl (aC (dN (eqBool_str ?_))))
   rw[U2]
   cases hk:txt==k with
   | false=>
    rw[hk] at q
    exact if_pos (show(!false)=true from rfl)▸aI ⟨_,rfl,aI (.mk (b:=some (.str k)) le ⟨_,rfl,u,rfl⟩ a1 q)⟩
   | true=>
    rw[hk] at q
    rw[if_neg (show¬((!true)=true) from bH)]
    refine aC (lW (aC (aC (jT ho1 rfl (x:=.ref ab) rfl (aC (aC (borrows aKQ (a1.5.1 _ _ (a1.3.1 _ _ hf)) rfl ?_)))))))
    rw[if_pos rfl]
    refine aI (aC (D4 ho1 (aH rfl) λh1 e1 s1=>aC (D4 e1 (aH rfl) λh2 e2 s2=>D4 e2 (aH rfl) λh3 e3 s3=>?_)))
    refine BW (a.2.3.trans hh) λh4 e k4 hT4=>aC (uZ (T:="StopIteration") (b:=true) hT4 isSubtype_stop ?_)
    have k:=(s1.trans s2).trans s3
    have T:=TK.but k.2 ho1 (.ty rfl (by decide))
    exact aI (.mk (b:=none) (le.trans ((Le.of T).trans (.ke k4))) rfl ((a1.upd (tk:=s'.toks) (p:=.tL) aFT k.2 T (.mk e3 (.ty rfl (by decide)) rfl trivial)).junk (tk:=s'.toks) k4) q)
  | _=>exact q.elim
theorem Nx.over{l:Nat}{Q:Option aA->aK->Prop}(hh:C.hd=none)(hi:st.H[l]? =some .tL)(q:Q none st):Nx C l st Q:=λ{A g ρ s v} a hv=>by
 refine bS hv λit hit dE=>?_;subst dE
 refine bS ((a.5.5 l _ it hi hit).1) λo ho dE=>?_;subst dE
 have hT:s.TypeIs (.ref it) "callable_iterator":=⟨_,ho,rfl⟩
 refine aC (uO (g7 (name:=gV "__next__") hT kK (gQ kK hT rZ ?_ (t6 _))))
 show bZ _ _ (field (.ref it) 2 >>=_) _ _ s
 refine aC (jT ho rfl (x:=.bool true) rfl ?_)
 rw[if_pos (show(pQ true==pQ true)=true from rfl)]
 refine aC (lW (aC (BW (a.2.3.trans hh) λh4 e k4 hT4=>aC (uZ (T:="StopIteration") (b:=true) hT4 isSubtype_stop ?_))))
 exact aI (.mk (b:=none) (.ke k4) rfl (a.junk (tk:=s.toks) k4) q)
def U3(l:Nat)(st:aK):Prop:=(∃b t,st.H[l]? =some (.hC b t))∨st.H[l]? =some .tL
theorem U3.typeIs{l:Nat}{A:cF}{g:c9}{ρ:Roo}{s:aM}(i:U3 l st)(a:At C A g ρ st s){v:aJ}(hv:V ρ s.heap (.aO l) v):∃it o,v= .ref it∧s.heap.get? it=some o∧o.cls= .type "callable_iterator":=by
 refine bS hv λit hit dE=>?_;subst dE
 cases i with
 | inl h=>refine kG h λb t e=>?_;obtain⟨o,ho,ab,_,u,rfl⟩:=(a.5.5 l _ it e hit).1;exact⟨it,_,rfl,ho,rfl⟩
 | inr h=>refine bS ((a.5.5 l _ it h hit).1) λo ho dE=>?_;subst dE;exact⟨it,_,rfl,ho,rfl⟩
theorem FG{prog:rM}{w:World}{A:cF}{s:aM}{it:cI}{Q:aJ->aM->Prop}{E:aJ->aM->Prop}(hT:s.TypeIs (.ref it) "callable_iterator")(q:Q (.ref it) s):bZ (c0 prog w) A (pyIter (.ref it)) Q E s:=by
 refine wpAny_pyIter_slot hT t5 (gQ t5 hT AN ?_ (C2 _))
 refine aC (aI ?_)
 exact aI ⟨_,rfl,_,_,hT,kK.lookup,q⟩
theorem Ex.n4{target iter:dO}{body:List v8}{pos:Pos}{Q:bU->aK->Prop}(hs:∀x,dQ iter C.env x=pure x)
  (h:Ev C iter st (λb st1=>∃(l:Nat) (J:Nat->aK->Prop) (k0:Nat),b= .aO l∧U3 l st1∧J k0 st1∧∀k st,J k st->Nx C l st (λr bW=>match r with
   | some v=>U3 l bW∧As C target v bW (λfL=>j5 C body fL (rS (λj6=>lK st1.H.length st1.H.length j6.H=true∧∃k':Nat,k' < k∧J k' (j6.cut st1.H.length)) Q) eE) eE
   | none=>Q .next bW)) X):Ex C (.For target iter body [] pos) st Q X:=λ{A g ρ s} a=>by
 refine wpAny_For (on (h a) .refl λ{v s1 b st1 ρ1} l0 l1 r1 a1 q1=>?_) hs
 refine MJ q1 λl J k0 rF hi xE PV=>?_;subst rF
 refine dW (hi.typeIs a1 r1) λit o dE ho hc=>?_;subst dE
 refine FG ⟨o,ho,hc⟩ ?_
 refine lD (λk s'=>∃fR ρ',J k fR∧Le ρ1 s1.heap ρ' s'.heap∧At C A g ρ' fR s') (λk s' hI=>?_) k0 ⟨st1,ρ1,xE,.refl,a1⟩
 refine dW hI λfR ρ' hJ L a'=>?_
 refine YN (PV k fR hJ a' (r1.mono L)) .refl λ{rr s2 r bW ρ2} l2 _ r2 a2 q2=>?_
 cases r with
 | none=>obtain rfl:=(r2:rr=_);exact .mk (b:=.next) (l1.trans (L.trans l2)) rfl a2 q2
 | some w=>
  refine bS r2 λv dF hv=>?_;subst dF
  refine d5 q2 λhi2 q2=>?_
  refine dW (hi2.typeIs a2 (r1.mono (L.trans l2))) λG9 o2 e J2 hc2=>?_
  cases e
  refine p5 J2 hc2 (by decide) (YN (q2 a2 hv) .refl λ{_ s5 _ H9 ρ5} l5 _ _ a5 q5=>YN (q5 a5) l5 λ{y s6 fl st6 ρ6} _ l6 r6 a6 q6=>?_)
  have LL:=(L.trans l2).trans l6
  have again:(lK st1.H.length st1.H.length st6.H=true∧∃k':Nat,k' < k∧J k' (st6.cut st1.H.length))->∃k':Nat,k' < k∧∃fR ρ',J k' fR∧Le ρ1 s1.heap ρ' s6.heap∧At C A g ρ' fR s6:=λq=>q.2.elim λk' z=>⟨k',z.1,_,_,z.2,LL.take (cC a1.5.4),a6.cut q.1⟩
  cases fl with
  | next=>obtain rfl:=(r6:y=_);exact again q6
  | cont=>obtain rfl:=(r6:y=_);exact again q6
  | brk=>obtain rfl:=(r6:y=_);exact .mk (b:=.next) (l1.trans LL) rfl a6 q6
  | ret c=>refine bS r6 λw dF hw=>?_;subst dF;exact .mk (b:=.ret c) (l1.trans LL) ⟨w,rfl,hw⟩ a6 q6
end
end
section
open PySem.SeqAt
section
variable {C:Ctx} {st:aK} {X:XQ} {A:cF} {g:c9} {ρ:Roo} {s:aM}
theorem At.cast{m:Loc}{H H':List Pc}(a:At C A g ρ ⟨m,H⟩ s)(e:H=H'):At C A g ρ ⟨m,H'⟩ s:=e▸a
theorem II{l d:Nat}{K fn:cI}{fs:List (Str×aA)}{name:Str}{Q:aA->aK->Prop}(e:st.H[l]? =some (.inst K d))(e2:st.H[d]? =some (.ns fs))(B:KG C.D.K K name fn)(hno:fs.lookup name=none)(q:Q (.aO st.H.length) ⟨st.m,st.H++ [.m6 fn l]⟩):EL C name (.aO l) st Q X:=λ{A g ρ s v} a hv=>by
 obtain⟨x,ox,od,dx,mm,hx,I,hd,hdx,hn,hl,hq⟩:=a.inst e e2
 obtain rfl:=pY hx hv
 have f:=hq name
 rw[hno] at f
 have X:=a.3.1.keeps a.5.1
 exact get_bind X I (plainGet_of B.1).1 (findObj_fn B.2 B.3 B.5 B.6 B.7 ((hl name).trans (congrArg some (f:mm name=none)))) (plainGet_of B.1).2
  (tD (fn_get (s:={ s with toks:=s.toks+1 }) X (beq_iff_eq.mp B.4) (handed_on rfl (a.UV (p:=.m6 fn l) (tk:=s.toks+1) (.ty rfl (by decide)) (λρ' h' L=>⟨x,L.1 _ _ hx,rfl⟩) q trivial rfl))))
theorem U4{b fn x:Nat}{l:List Nat}{Q:aA->aK->Prop}(hm:st.H[b]? =some (.m6 fn x))(q:Q (.aO st.H.length) ⟨st.m,st.H++ [.hC b l]⟩):fM C (.blt "iter") [.aO b,.str l] [] [] st Q X:=fM.b λ{A g ρ s _} a hv=>by
 obtain⟨_,_,rfl,⟨ab,hab,rfl⟩,_,_,rfl,⟨t,rfl⟩,e0⟩:=hv
 obtain rfl:=(e0:_= [])
 obtain⟨o,hbo,ax,U1,rfl⟩:=(a.5.5 b _ ab hm hab).1
 refine G3 ND IG IF (NE _ _) ?_
 refine aC (jS (a:=[.ref ab,.str (c8 l) t]) (by first | rfl | kernel_rfl) ?_)
 refine aC (jE (⟨_,hbo,rfl⟩:s.TypeIs (.ref ab) "method") PU (aC (lW ?_)))
 refine aC (jG ?_ (by size_fits))
 exact aI ⟨_,rfl,a.UV (p:=.hC b l) (tk:=s.toks) (.ty rfl (by decide)) (λρ' h' L=>⟨ab,L.1 _ _ hab,t,rfl⟩) q trivial rfl⟩
theorem IJ:gO (.type "callable_iterator") "__len__"=pure none:=by rw[dH,cL];kernel_rfl
theorem FH:gO (.type "callable_iterator") "__length_hint__"=pure none:=by rw[dH,cL];kernel_rfl
noncomputable abbrev Ctx.dn(C:Ctx)(m:Nat):Ctx:={ C with n:=m }
theorem At.dn(a:At C A g ρ st s){A':cF}{m:Nat}(hf:A'.frames=A.frames)(hd:A'.depth+m≤A.depth+C.n)(hu:A'.units+10 * m≤A.units+10 * C.n)(hh:A'.handled=A.handled):At (C.dn m) A' g ρ st s:=
 ⟨hf.trans a.1,⟨bA hd a.2.1,bA hu a.2.2,hh.trans a.2.3⟩,a.3,⟨a.4.1,a.4.2,a.4.3,a.4.4,a.4.5,a.4.6,a.4.7,a.4.8⟩,a.5,
  ⟨a.6.1.imp λM q=>⟨q.1,λi x k b e1 e2=>by have z:=q.2 i x k b e1 e2;cases k <;> exact z⟩,a.6.2,a.6.3,a.6.4⟩⟩
theorem At.up{A':cF}{m:Nat}{ρ':Roo}{fR:aK}{s':aM}(a:At C A g ρ st s)(b:At (C.dn m) A' g ρ' fR s'):At C A g ρ' fR s':=
 ⟨a.1,a.2,a.3,a.4,b.5,⟨b.6.1.imp λM q=>⟨q.1,λi x k b e1 e2=>by have z:=q.2 i x k b e1 e2;cases k <;> exact z⟩,b.6.2,b.6.3,b.6.4⟩⟩
inductive PW(C:Ctx)(l S:Nat)(J:Nat->List aA->aK->Prop)(Qe:List aA->aK->Prop):Prop where
 | mk (step:∀k acc st,J k acc st->st.H[S]? =some (.lst acc)∧U3 l st∧Nx C l st (λr bW=>match r with
  | some v=>bW.H[S]? =some (.lst acc)∧v.pure=true∧acc.length < 100000∧∃k',k' < k∧J k' (acc++ [v]) ⟨bW.m,bW.H.set S (.lst (acc++ [v]))⟩
  | none=>Qe acc bW))
theorem IK{l S:Nat}{J:Nat->List aA->aK->Prop}{Qe:List aA->aK->Prop}{m:Nat}(T:PW (C.dn m) l S J Qe){s0:aM}{R:Result->aM->Prop}{ρ0:Roo}{aS ai:cI}(hS:ρ0[S]? =some aS)(hi:ρ0[l]? =some ai)
  (hd:A.in1.depth+m≤A.depth+C.n) (hu:A.in1.units+10 * m≤A.units+10 * C.n)
  (hR:∀{acc ρ st s'},Le ρ0 s0.heap ρ s'.heap->At C A g ρ st s'->Qe acc st->R (.ok (.ret .none)) s') {k:Nat}:
  ∀{acc:List aA} {st:aK} {ρ:Roo} {s:aM},J k acc st->Le ρ0 s0.heap ρ s.heap->At C A g ρ st s->pR (c0 C.D.prog C.D.w) A (.builtin "list.extend.loop" ⟨[.ref aS,.ref ai,.none],[]⟩) R s:=by
 induction k using Nat.strongRecOn with
 | ind k ih=>
  intro acc st ρ s hJ L0 a
  refine codeAny_builtin F.entry_extend_loop ?_
  rw[Around.under_plainId F.plain_extend_loop _]
  show bZ _ A.in1 (uW (.ref ai) >>=_) _ _ s
  refine u3 (T.1 k acc st hJ) λh1 h2 h3=>?_
  refine aC (bM (h3 (a.dn rfl hd hu rfl) ⟨ai,L0.1 _ _ hi,rfl⟩) (λx s2 p=>?_) λY Y e=>e.no)
  obtain @⟨b,bW,ρ2,le,hx,a2,q⟩:=p
  have a2:=a.up a2
  have L2:=L0.trans le
  cases b with
  | none=>obtain rfl:=(hx:x=_);exact aI (hR L2 a2 q)
  | some v=>
   refine bS hx λw dF hw=>?_;subst dF
   obtain⟨e,hp,hlen,k',hk,hJ'⟩:=q
   cases a2.x5 e (v:=.ref aS) ⟨aS,L2.1 _ _ hS,rfl⟩ with
   | mk y vs c hy hl jB=>
    show bZ _ A.in1 (updateSeq aS (·.push w) >>=_) _ _ _
    refine d5 (a2.H6 (tk:=s2.toks) (ys:=acc++ [v]) (ws:=vs++ [w]) (fn:=(·.push w)) hy hl (List.push_toArray ..) (.append' jB (.cons (hw.pure hp) .nil))) λa3 L3=>?_
    exact aC (w4 hl rfl (aI ⟨plainId_quiet F.plain_extend_loop _,ih k' hk hJ' (L2.trans L3) a3⟩) (g5 (by rw[aX,jB.length];exact aB (dY hlen) (by decide)) rfl) (g5 (by rw[Array.size_push,aX,jB.length];exact aB hlen (by decide)) rfl))
theorem U5{l m:Nat}{J:Nat->List aA->aK->Prop}{Qe:List aA->aK->Prop}{k0:Nat}{Q:aA->aK->Prop}(hn:C.n=m+4)(T:PW (C.dn m) l st.H.length J Qe)(hI:U3 l st)(h0:J k0 [] ⟨st.m,st.H++ [.lst []]⟩)(q:∀acc bW,Qe acc bW->Q (.aO st.H.length) bW):
  fM C (.typ "list") [.aO l] [] [] st Q X:=fM.t λ{A g ρ s _} a hv=>by
 refine dW hv λ_ _ dE hl e0=>?_;subst dE
 obtain rfl:=(e0:_= [])
 refine dW (hI.typeIs a hl) λit oi dE hoi hci=>?_;subst dE
 refine bS hl λit' hit e=>?_
 cases e
 refine callType_codes (Q₁:=λobj s₁=>obj= .ref s.heap.objs.size∧s₁={ s with heap:=s.heap.push { cls:=.type "list",data:=.seq #[] } }) F.called_list (F.typeCall_list_1 _) F.entry_list_init
  (code_list_new _ ⟨rfl,rfl⟩) λobj s₁ h₁=>?_
 refine d5 h₁ λu5 dF=>?_;subst u5;subst dF
 have hS:(s.heap.push { cls:=.type "list",data:=.seq #[] }).get? s.heap.objs.size=some { cls:=.type "list",data:=.seq #[] }:=bV _ rfl
 refine⟨⟨_,hS,rfl⟩,F.args_list_init_2 _ _, ?_⟩
 have tN:s.heap.objs.size≠it:=eC (c6 hoi)
 show bZ _ A.in1.in1 (do let old←Builtin.List.listItems (.ref _);Builtin.List.listUpdate (.ref _) (λY=>#[]);letGo old.toList.reverse;wE (.ref _) (.ref it) .none) _ _ _
 have K0:=Ke.push (h:=s.heap) { cls:=.type "list",data:=.seq #[] }
 have a0:=a.new (tk:=s.toks) (p:=.lst []) K0 fE (.mk hS (.ty rfl (by decide)) ⟨[],0,rfl,.nil⟩ trivial)
 have L0:Le ρ s.heap (ρ++ [s.heap.objs.size]) _:=Le.new K0
 have hx:=iH (x:=s.heap.objs.size) a.5.4
 have aBA:∀{H:List Pc} {p q:Pc},(H++ [p]).set H.length q=H++ [q]:=λ{H p q}=>by induction H with
  | nil=>rfl
  | cons x r ih=>exact congrArg (x::·) ih
 refine aC ?_
 refine aC (AG hS rfl (aI ?_))
 show bZ _ _ (updateSeq _ (λY=>#[]) >>=λY=>letGo (#[]:Array aJ).toList.reverse >>=λY=>wE (.ref _) (.ref it) .none) _ _ _
 refine d5 (a0.H6 (tk:=s.toks) (vs:=[]) (ws:=[]) (ys:=[]) (fn:=λY=>#[]) hx hS rfl .nil) λa1 L1=>?_
 refine aC (w4 hS rfl (aC (wpAny_letGo ?_)))
 have hS1:=eZ (uY (λY=>(#[]:Array aJ))) hS rfl
 have aKR:((s.heap.push { cls:=.type "list",data:=.seq #[] }).update s.heap.objs.size (uY λY=>#[])).get? it=some oi:=(wD _ _ _ _ tN.symm).trans (K0 _ _ hoi)
 have hI1:({ s with heap:=(s.heap.push { cls:=.type "list",data:=.seq #[] }).update s.heap.objs.size (uY λY=>#[]) }:aM).TypeIs (.ref it) "callable_iterator":=⟨oi,aKR,hci⟩
 refine aC (w3 hI1 ?_)
 have h1:Builtin.List.listSameRef (.ref s.heap.objs.size) (.ref it)=false:=beq_eq_false_iff_ne.mpr tN
 have h2:(tJ "callable_iterator"==tJ "list")=false:=by decide
 have h3:(tJ "callable_iterator"==tJ "tuple")=false:=by decide
 simp only [h1,h2,h3,Bool.or_false,gE,if_false]
 refine aC (FG hI1 (aC (dN ?_)))
 refine aC (jE hI1 IJ ?_)
 show bZ _ _ (specialOf (pT it) (gV "__length_hint__") >>=_) _ _ _
 refine aC (jE hI1 FH (aI ?_))
 show bZ _ _ (rule "list.extend.makes-room" >>=λY=>Builtin.List.listTouch (.ref _) >>=λY=>
  again (.builtin "list.extend.loop" ⟨[.ref _,.ref it,.none],[]⟩)) _ _ _
 refine aC (lW (aC ?_))
 show bZ _ _ (updateSeq _ (·.push .none) >>=λY=>updateSeq _ (·.pop)) _ _ _
 refine aC (w4 hS1 rfl ?_)
 refine d5 (a1.H6 (tk:=s.toks) (vs:=[]) (ws:=[.none]) (ys:=[.none]) (fn:=(·.push j1)) hx hS1 rfl (.cons (a:=.none) rfl .nil)) λa2 L2=>?_
 have hS2:=eZ (uY (·.push j1)) hS1 rfl
 refine w4 (hz:=by seq_fits) hS2 rfl ?_
 refine d5 (a2.H6 (tk:=s.toks) (vs:=[.none]) (ws:=[]) (ys:=[]) (fn:=(·.pop)) hx hS2 rfl .nil) λa3 L3=>?_
 have LL:=L0.trans (L1.trans (L2.trans L3))
 have a4:=a3.cast (H':=st.H++ [Pc.lst []]) (by show((((st.H++ [Pc.lst []]).set st.H.length (.lst [])).set st.H.length (.lst [.none])).set st.H.length (.lst []))=_;rw[aBA,aBA,aBA])
 have a5:=a4.dn (A':=A.in1) (m:=m+3) rfl (hn▸eW _) (hn▸up (by decide:1≤10) _ _) rfl
 exact aI ⟨plainId_quiet F.plain_extend_loop _,IK (C:=C.dn (m+3)) (A:=A.in1) (s0:={ s with heap:=s.heap.push { cls:=.type "list",data:=.seq #[] } }) (m:=m) T hx (L0.1 _ _ hit) (bI (aW m 3) A.depth) (up (by decide:1≤30) (A.units+1) (10 * m)) (λ{acc ρ' fR s'} L a6 q'=>⟨rfl,.mk (b:=.aO st.H.length) (L0.trans L) ⟨_,L.1 _ _ hx,rfl⟩ (a.up a6) (q acc fR q')⟩) h0 (L1.trans (L2.trans L3)) a5⟩
end
end
section
open PySem.SeqAt
section
variable {C:Ctx} {st:aK} {X:XQ} {Q:aA->aK->Prop}
theorem C3{a:Int}{b:Nat}(h:b < 10 ^ 10):nE a (b:Int)=false:=by
 unfold nE
 have:¬(300 < (if((b:Int)==0)=true then 0 else(b:Int).natAbs.log2 / 30+1)):=by
  split
  ·decide
  ·have h2:(b:Int).natAbs.log2 < 64:=by
    rw[pK]
    by_cases hb:b=0
    ·subst hb;decide
    ·rw[G2 hb];exact gU h (by decide)
   exactλq=>absurd (bR q (cH (Nat.div_le_div_right (dY h2)))) (by decide)
 simp only [gt_iff_lt,Bool.and_eq_false_imp,decide_eq_true_eq]
 intro h3;exact absurd h3 this
theorem U6{a b:Nat}(h0:0 < b)(h:b < 10 ^ 10)(q:Q (.int (a / b:Nat)) st):d3 C V (j7 .FloorDiv) (.int a) (.int b) st Q X:=
 UF (jH.mpr (eC h0)) (C3 h) (by exact HK _ (b6 b)▸q)
theorem PX{a b:Nat}(h0:0 < b)(q:Q (.int (a % b:Nat)) st):d3 C V (j7 .Mod) (.int a) (.int b) st Q X:=
 PB (jH.mpr (eC h0)) (by exact HL _ (b6 b)▸q)
theorem aBB{a:Int}{b:Nat}(h0:0 < b)(q:Q (.int ((a % b).toNat:Nat)) st):d3 C V (j7 .Mod) (.int a) (.int b) st Q X:=
 PB (jH.mpr (eC h0)) (by rw[HL _ (b6 b),←Int.toNat_of_nonneg (Int.emod_nonneg a (jH.mpr (eC h0)))];exact q)
theorem aBC{a:Nat}(ha:2≤a)(ha2:a < 1024):j4 (a:Int)≤10:=by
 unfold j4
 split
 ·exact cO _
 ·exact(G2 (eC (gU Nat.zero_lt_one ha))).mpr ha2
theorem aBD{a k:Nat}(ha:2≤a)(ha2:a < 1024)(hk:k≤20)(q:Q (.int (a ^ k:Nat)) st):d3 C V (j7 .Pow) (.int a) (.int k) st Q X:=by
 cases k with
 | zero=>exact d3.i2 (λA s t u Q' E kk=>AutoIntOps.pow_0 (by decide) (by decide) (kk _ _ .int)) q
 | succ k=>
  refine d3.i2 (c:=.int (a ^ (k+1):Nat)) (λA s t u Q' E kk=>AutoIntOps.pow_4 (b6 _) (λh=>jH.mpr (Nat.succ_ne_zero k) (eq_of_beq h)) (λh=>(eA.mp h).elim (λh=>eC (gU Nat.zero_lt_one ha) (uM (eq_of_beq h))) (λh=>eC ha (uM (eq_of_beq h)))) (λh=>nomatch (eq_of_beq h:Int.ofNat a=Int.negSucc 0)) (λh=>absurd (of_decide_eq_true h) (lC.mpr (pJ (fD.mpr (Nat.mul_le_mul (aBC ha ha2) (qH hk))) (by decide)))) (kk _ _ (by show Flat _ (.int ((a:Int) ^ (k+1)) _);rw[←G4];exact .int))) q
theorem aBE{a b:Nat}{xs ys:List aA}(ha:st.H[a]? =some (.lst xs))(hb:st.H[b]? =some (.lst ys))(hz:xs.length+ys.length≤1000000)(q:Q (.aO st.H.length) ⟨st.m,st.H++ [.lst (xs++ys)]⟩):d3 C V (j7 .Add) (.aO a) (.aO b) st Q X:=λ{A g ρ s _ _} z hv hw=>by
 cases z.x5 ha hv with
 | mk x us nu hx hu hus=>
  cases z.x5 hb hw with
  | mk y ws nw hy hw' sL=>
   exact PySem.P.add_list hu hw' (z.UV (p:=.lst _) (tk:=s.toks) (.ty rfl (by decide)) (λρ' h' L=>⟨us++ws,0,by rw[wC],Vs.append' (hus.mono L.bot) (sL.mono L.bot)⟩) q trivial rfl) (g5 (by rw[aX,aX,hus.length,sL.length];exact hz) rfl)
theorem U7{ρ:Roo}{h:c9}{xs:List Int}:∀{vs:List aJ},Vs ρ h (xs.map .int) vs->∃l:List (Int×Tok),vs=l.map (λp=>Value.int p.1 p.2)∧l.map (·.1)=xs:=by
 induction xs with
 | nil=>intro vs e;obtain rfl:=(e:_= []);exact⟨[],rfl,rfl⟩
 | cons x xs ih=>
  intro vs e
  refine dW e λv r dF EY z=>cD EY λt rF=>?_;subst dF;subst rF
  refine bS (ih z) λl dF dE=>?_;subst dF;subst dE
  exact⟨(x,t)::l,rfl,rfl⟩
theorem aBF{a:Nat}{xs:List Int}(hh:C.hd=none)(ha:st.H[a]? =some (.lst (xs.map .int)))(q:Q (.int xs.sum) st):fM C (.blt "sum") [.aO a] [] [] st Q X:=fM.b λ{A g ρ s _} z hv=>by
 refine dW hv λ_ _ dE h1 e0=>?_;subst dE
 obtain rfl:=(e0:_= [])
 cases z.x5 ha h1 with
 | mk x us nu hx hu hus=>
  refine bS (U7 hus) λl dF dE=>?_;subst dF;subst dE
  refine sum_intListG (xs:=l.toArray) (z.2.3.trans hh) (by simpa [intItems] using hu.isList) λh' tk t' hk=>?_
  rw[preSum_eq,sG (by rw[aX,aG];exact aZ _)]
  exact .mk (b:=.int _) (.ke hk) V.int (z.junk (tk:=tk) hk) q
noncomputable def aA.vl:aA->Option aJ
 | .bool b=>CE (.bool b)
 | .typ t=>CE (.type t)
 | .none=>CE .none
 | _=>jV
noncomputable def aA.nn:aA->Bool
 | .aO _=>true
 | .tup _=>true
 | .str _=>true
 | .int _=>true
 | _=>false
theorem aA.PY{ρ:Roo}{h:c9}{a:aA}{v x:aJ}(e:a.vl=some x)(hv:V ρ h a v):v=x:=by
 cases a with
 | none=>exact aD e▸hv
 | bool=>exact aD e▸hv
 | typ=>exact aD e▸hv
 | _=>exact fA e
theorem aA.aFV{ρ:Roo}{h:c9}{a:aA}{v:aJ}(e:a.nn=true)(hv:V ρ h a v):plainIs v .none=true∧(v==.none)=false:=by
 cases a with
 | int=>refine cD hv λ_ dF=>?_;subst dF;exact⟨rfl,rfl⟩
 | str=>refine cD hv λ_ dF=>?_;subst dF;exact⟨rfl,rfl⟩
 | aO=>refine bS hv λ_ _ dE=>?_;subst dE;exact⟨rfl,rfl⟩
 | tup=>refine sI hv λ_ _ dE _=>?_;subst dE;exact⟨rfl,rfl⟩
 | _=>exact absurd e bH
noncomputable def isG(a b:aA):Option Bool:=Option.rec (Option.rec none (λy=>cond (a.nn && y==.none) (some false) none) b.vl) (λx=>Option.rec none (λy=>cond (plainIs x y) (some (x==y)) none) b.vl) a.vl
noncomputable def aA.bl:aA->Option Bool
 | .bool b=>CE b
 | _=>jV
theorem aA.YW{ρ:Roo}{h:c9}{a:aA}{v:aJ}{x:Bool}(e:a.bl=some x)(hv:V ρ h a v):v= .bool x:=by
 cases a with
 | bool=>exact aD e▸hv
 | _=>exact fA e
noncomputable def isA(a b:aA):Option Bool:=Option.rec (isG a b) (λx=>Option.rec (isG a b) (λy=>some (x==y)) b.bl) a.bl
theorem PZ{ρ:Roo}{h:c9}{a b:aA}{c:Bool}{v w:aJ}(e:isG a b=some c)(hv:V ρ h a v)(hw:V ρ h b w):plainIs v w=true∧(v==w)=c:=by
 unfold isG at e
 cases ea:a.vl with
 | some x=>
  rw[ea] at e
  refine bS (EF e) λy eb e=>?_
  refine d5 (BE e) λc1 e=>?_
  rw[aA.PY ea hv,aA.PY eb hw]
  exact⟨c1,aD e⟩
 | none=>
  rw[ea] at e
  refine bS (EF e) λy eb e=>?_
  refine d5 (BE e) λc1 e=>?_
  rw[aA.PY eb hw,eq_of_beq (aQ c1),←aD e]
  exact aA.aFV (aP c1) hv
theorem P0{ρ:Roo}{h:c9}{a b:aA}{c:Bool}{v w:aJ}(e:isA a b=some c)(hv:V ρ h a v)(hw:V ρ h b w):plainIs v w=true∧(v==w)=c:=by
 unfold isA at e
 cases ea:a.bl with
 | none=>rw[ea] at e;exact PZ e hv hw
 | some x=>
  rw[ea] at e
  cases eb:b.bl with
  | none=>rw[eb] at e;exact PZ e hv hw
  | some y=>
   rw[eb] at e
   rw[aA.YW ea hv,aA.YW eb hw,←aD e]
   exact⟨rfl,by cases x <;> cases y <;> rfl⟩
theorem aKS{a b:aA}{c:Bool}(e:isA a b=some c)(q:Q (.bool c) st):d3 C V (d7 .Is) a b st Q X:=λ{_ _ _ _ v w} z hv hw=>by
 refine d5 (P0 e hv hw) λi1 i2=>?_
 exact wpAny_is_plain (a:=v) (b:=w) i1 (by exact i2▸.mk (b:=.bool c) .refl rfl z q)
theorem U8{a b:aA}{c:Bool}(e:isA a b=some c)(q:Q (.bool (!c)) st):d3 C V (d7 .IsNot) a b st Q X:=λ{_ _ _ _ v w} z hv hw=>by
 refine d5 (P0 e hv hw) λi1 i2=>?_
 exact wpAny_isNot_plain (a:=v) (b:=w) i1 (by exact i2▸.mk (b:=.bool _) .refl rfl z q)
end
end
section
open PySem.SeqAt
section
variable {C:Ctx} {st:aK} {X:XQ}
theorem Ex.raise{cls newId aBG:String}{x:Str}{np AM pos:Pos}{e0:dO}{i:Nat}{k:dB}{Q:bU->aK->Prop}(FC:ExcCallFacts cls newId aBG)(FR:ExcRaiseFacts cls)(hh:C.hd=none)(he:fH [e0] C.env=(false,qI e0 C.env)::fH [] C.env)
  (hi:C.ns[i]? =some (x,k)) (hm:st.m[i]? =some (some (.typ cls))) (hd:jL x=true) (h:Ar C [e0] AM st (λas bW=>∃msg,as= [msg]∧X true cls msg bW) X):
  Ex C (.Raise (some (.Call (.Name x np) [e0] [] AM)) none pos) st Q X:=λ{A g ρ s} a=>
 Raise_madeB FC FR (a.2.3.trans hh) (u6 a hi hm hd λv hv=>⟨hv,on (h a) .refl λ{ws s2 as bW ρ2} l1 _ r2 a2 q2=>by
  refine bS q2 λmsg dF hx=>?_;subst dF
  refine dW r2 λw r dE hw e=>?_;subst dE
  obtain rfl:=(e:r= [])
  exact⟨(by show 1≤sizeLine;decide),λh' e hme=>.mk true e cls msg bW ρ2 (l1.trans (.ke hme.keeps)) ⟨s2.heap,w,a2,hme,hw⟩ hx⟩⟩) he
def Hd(C:Ctx)(hs:List uP)(cls:String)(msg:aA)(st:aK)(Q:bU->aK->Prop):Prop:=
 ∀{A:cF} {g:c9} {ρ:Roo} {s:aM} {e:cI},Fly C A g ρ C.fs cls msg e st s->bZ (c0 C.D.prog C.D.w) A (handleBy (.ref e) C.env hs) (pX C A g ρ s.heap F Q) rD s
theorem Ex.aKT{body:List v8}{h0:uP}{hs:List uP}{pos:Pos}{Q:bU->aK->Prop}(Fc:Face C)
  (h:j5 C body st Q (λf cls msg st1=>f=false∧Hd C (h0::hs) cls msg st1 Q)):Ex C (.Try body (h0::hs) [] [] pos) st Q X:=λ{A g ρ s} a=>by
 refine bM (E:=rD) ?_ (λY Y x=>x) λY Y e=>e.elim
 refine wpAny_Try_except (bM (h a) (λx s1 p=>?_) λv s1 p=>?_)
 ·obtain @⟨b,st1,ρ1,le,r,a1,q⟩:=p
  cases b with
  | next=>obtain rfl:=(r:x=_);exact wY (.mk (b:=.next) le rfl a1 q)
  | brk=>obtain rfl:=(r:x=_);exact .mk (b:=.brk) le rfl a1 q
  | cont=>obtain rfl:=(r:x=_);exact .mk (b:=.cont) le rfl a1 q
  | ret b=>refine bS r λw dF hw=>?_;subst dF;exact .mk (b:=.ret b) le ⟨w,rfl,hw⟩ a1 q
 ·obtain⟨f,e,cls,msg,fR,ρ',le,ex,q⟩:=p
  refine d5 q λu5 hq=>?_;subst u5
  obtain⟨a1,B,t,w,V,x1,x2,x3,x4⟩:=ex
  rw[Fc.2] at x1
  refine wpAny_looks_onW (Fc.2▸a1.1) Fc.1 x1 λh₂ y1 y2=>wpAny_landsW y1 λh₃ z1 z2=>?_
  have u:=y2.trans z2
  have L:Le ρ' s1.heap ρ' h₃:=.of (tO u)
  exact bM (hq ⟨a1.slots V x1.1 z1.1 u,B,t,w,V,Fc.2.symm▸z1,x2.of_slots u,x3.mono L,x4⟩) (λx s' p=>by cases p with | mk l2 r a2 q=>exact .mk ((le.trans L).trans l2) r a2 q) λY Y e=>e
section
variable {cls T:String} {x nm:Str} {np pos:Pos} {b₀:v8} {YX:List v8} {rest:List uP} {i j:Nat} {k:dB} {Q:bU->aK->Prop}
inductive Below(cls T:String)(b:Bool):Prop where
 | mk (exc:isSubtype (.type T) (.type "BaseException")=pure true) (nt:isSubtype (.type ((Manifest.find? T).elim "type" λy=>y.metatype)) (.type "tuple")=pure false) (sub:isSubtype (.type cls) (.type T)=pure b)
noncomputable abbrev Ctx.on(C:Ctx)(v:Option aJ):Ctx:={ C with hd:=v }
theorem At.on{A:cF}{g:c9}{ρ:Roo}{s:aM}(a:At C A g ρ st s)(v:aJ):At (C.on (some v)) (A.mark (some v)) g ρ st s:=
 ⟨a.1,⟨a.2.1,a.2.2,rfl⟩,a.3,⟨a.4.1,a.4.2,a.4.3,a.4.4,a.4.5,a.4.6,a.4.7,a.4.8⟩,a.5,
  ⟨a.6.1.imp λM q=>⟨q.1,λi x k b e1 e2=>by have z:=q.2 i x k b e1 e2;cases k <;> exact z⟩,a.6.2,a.6.3,a.6.4⟩⟩
theorem At.off{A A':cF}{g:c9}{ρ ρ':Roo}{s s':aM}{fR:aK}{v:Option aJ}(a:At C A g ρ st s)(b:At (C.on v) A' g ρ' fR s'):At C A g ρ' fR s':=
 ⟨a.1,a.2,a.3,a.4,b.5,⟨b.6.1.imp λM q=>⟨q.1,λi x k b e1 e2=>by have z:=q.2 i x k b e1 e2;cases k <;> exact z⟩,b.6.2,b.6.3,b.6.4⟩⟩
theorem Hd.hit{l:List Nat}(S:Below cls T true)(aFW:cls≠"tuple")(hi:C.ns[i]? =some (x,k))(hm:st.m[i]? =some (some (.typ T)))(hd:jL x=true)(hj:C.ns[j]? =some (nm,.local))
  (h:∀v,j5 (C.on (some v)) (b₀::YX) ⟨st.m.set j (some (.aO st.H.length)),st.H++ [.OC cls l]⟩ (λfl bW=>Q fl ⟨bW.m.set j none,bW.H⟩) eE):
  Hd C (.ExceptHandler (some (.Name x np)) (some nm) (b₀::YX) pos::rest) cls (.str l) st Q:=λ{A g ρ s ea} fl=>by
 refine EE fl.2 λB t w V x1 x2 x3 x4=>?_
 have hp:(C.env.scope.kind==.class || (C.env.scope.kind==.module && C.env.locals !=C.env.globals))=false:=by rw[fl.1.4.1];rfl
 refine wpAny_handleBy_builtin_as (X:=cls) (T:=T) (b:=true) S.1 S.2 S.3 (u6 (C:=C.on (some (.ref ea))) (fl.1.on (.ref ea)) hi hm hd λv hv=>⟨hv,x1.there, ?_⟩)
 rw[if_pos rfl]
 refine bM (E:=rD) ?_ (λY Y x=>x) λY Y e=>e.elim
 refine lands_againW x1 λh₂ z1 u=>?_
 have a2:=fl.1.slots V x1.1 z1.1 u
 refine cD x3 λud dF=>?_;subst dF
 refine MI z1.first λoe vs hoe aFX aFY aKU=>?_
 have ht2:=x2.of_slots u
 have hB:=z1.2.1
 have nodict:∀{o:Obj},h₂.get? ea=some o->∀es n,o.data= .dict es n->False:=λe es n q=>by obtain rfl:=aD (hoe.symm.trans e);cases aFY.symm.trans q
 have gB:g.get? ea=none:=some_or.elim id λz=>z.elim λo e=>bK (hB.symm.trans (V.1 _ _ e))
 have nX:ea∉C.X++ρ:=λq=>by
  have own:ea∈C.own++ρ->False:=λq=>(V.2 ea q).elim λo e=>bK (hB.symm.trans e)
  cases aT.mp q with
  | inr q=>exact own (aR _ q)
  | inl q=>
   cases q with
   | head=>obtain⟨o,e,es,n,d⟩:=a2.HV;exact nodict e es n d
   | tail _ q=>
    cases aT.mp q with
    | inl q=>exact own (bJ _ q)
    | inr q=>refine bS (eX.mp q) λpp hpp dE=>?_;subst dE;obtain⟨_,_,⟨es,n,d⟩,sl,e⟩:=a2.6.4 pp hpp;exact nodict e es n d
 have L3:Le ρ h₂ (ρ++ [ea]) h₂:=.app λY Y t=>t
 have ow3:=a2.5.add (h':=h₂) (tk:=s.toks) (p:=.OC cls l) (λY Y e=>e) nX gB (.mk hoe (.cls (by rw[aFX];exactλq=>aFW (rN q))) ⟨t,⟨ud,by refine dW ht2 λo n' a b c=>?_;exact⟨o,a,b,n',c⟩⟩,aFW,vs,aFX,aFY,aKU⟩ trivial)
 have a3:=a2.go (h':=h₂) (tk:=s.toks) L3 (λY Y=>.of λY e=>e) ow3
 refine bS a3.6.1 λM hM hq=>?_
 refine wpAny_storeName_local (mY a3.4 hj) hM (λh₃ hn₃ hs₃=>?_) hp
 have aKV:Internal.V (ρ++ [ea]) h₂ (.aO st.H.length) (.ref ea):=⟨ea,iH a2.5.4,rfl⟩
 refine d5 (a3.aE1 (tk:=s.toks+1) hj aKV hM hq hn₃ hs₃) λL4 a4=>?_
 refine bM (h (.ref ea) (a4.on (.ref ea))) (λfl s₄ p=>?_) λY Y e=>e.no
 obtain @⟨b,H9,ρ5,le,r,a5,q⟩:=p
 have a5:=a4.off a5
 refine bS a5.6.1 λM5 hM5 hq5=>?_
 refine wpAny_nameGoes_keeps (mY a5.4 hj) hM5 hp λh₅ v₅ hn₅ hs₅=>?_
 refine d5 (a5.aJ8 (tk:=s₄.toks+1) hj hM5 hq5 hn₅ hs₅) λL6 a6=>?_
 refine .mk (b:=b) (((((.of (tO u):Le ρ s.heap ρ h₂).trans L3).trans L4).trans le).trans L6) ?_ a6 q
 cases b with
 | ret c=>refine bS r λw e hw=>?_;exact⟨w,e,hw.mono L6⟩
 | _=>exact r
end
theorem aBH{l:Nat}{cls nme:String}{x:List Nat}{Q:aA->aK->Prop}(FX:ExcStrFacts cls nme)(hm:st.H[l]? =some (.OC cls x))(q:Q (.str x) st):fM C (.typ "str") [.aO l] [] [] st Q X:=fM.t λ{A g ρ s _} a hv=>by
 refine dW hv λ_ _ dF EY e0=>bS EY λe he rF=>?_;subst dF;subst rF
 obtain rfl:=(e0:_= [])
 obtain⟨o,ho,t,⟨u,o2,h1,h2,n,h3⟩,_,vs,h4,h5,h6⟩:=(a.5.5 l _ e hm he).1
 exact PySem.P.str_of_exc_one FX (gU (nZ (bA (aW _ _) a.2.2) 2) (by decide)) ⟨o,vs,ho,h4,h5,h6⟩ ⟨o2,n,h1,h2,h3⟩ (.mk (b:=.str x) .refl V.str a q)
end
end
section
open PySem.SeqAt
theorem aFZ:gO (.type "re.Match") "__bool__"=pure none:=by rw[dH,cL];kernel_rfl
theorem aJ1:gO (.type "re.Match") "__len__"=pure none:=by rw[dH,cL];kernel_rfl
section
variable {C:Ctx} {st:aK} {X:XQ} {Q:aA->aK->Prop}
theorem aJ2{i:Int}(q:Q (.typ "int") st):fM C (.typ "type") [.int i] [] [] st Q X:=fM.ti (c:=.typ "int") (λA s t Q' E K=>call_type_of (typeIs_int _ _ _) (by decide) (K (.type "int") s.toks λY Y=>rfl)) q
theorem U9{x:List Nat}(q:Q (.typ "str") st):fM C (.typ "type") [.str x] [] [] st Q X:=fM.ts (c:=.typ "str") (λA s t Q' E K=>call_type_of (kR _ _ _) (by decide) (K (.type "str") s.toks λY Y=>rfl)) q
theorem VA{l:Nat}{xs:List aA}(e:st.H[l]? =some (.lst xs))(q:Q (.typ "list") st):fM C (.typ "type") [.aO l] [] [] st Q X:=fM.t λa hv=>by
 refine dW hv λ_ _ dE h1 e0=>?_;subst dE
 obtain rfl:=(e0:_= [])
 cases a.x5 e h1 with
 | mk x vs n hx hl jB=>exact call_type_of ⟨_,hl,rfl⟩ (by decide) (.mk (b:=.typ "list") .refl rfl a q)
end
end
section
open PySem.SeqAt
theorem yE:PlainAttrs "re.Pattern":=
 ⟨⟨"object.__getattribute__",by rw[dH,cL];kernel_rfl,by decide +kernel⟩,by rw[dH,cL];kernel_rfl⟩
theorem vT:Slot "re.Pattern" "search" "re.Pattern.search":=
 .of (owner:="re.Pattern") (n:="search") (by rw[dH,cL];kernel_rfl) (by decide +kernel) (by decide +kernel) (by decide +kernel)
  (by first | exact .inl (by decide +kernel) | exact .inr (by decide +kernel)) (by rw[jY];kernel_rfl)
theorem FI:typeOf (.builtin "re.Pattern.search")=pure (.type "method_descriptor"):=by show builtinType _=_;rw[builtinType_eq_fast];kernel_rfl
theorem C4:D3 table "re.Pattern.search"=some lS.«re.Pattern.search»:=oI ⋯
theorem FJ(a b:aJ):argsOk "re.Pattern.search" ⟨[a,b],[]⟩:=by
 unfold argsOk;kernel_rfl
def yF(code:Array Nat)(x:List Nat):Prop:=∀c∈x,∀seen,∃BX,Sre.inSet code c code.size 5 true seen= .ok (false,BX)
theorem r0{m:Sre.M}{code:Array Nat}{x:List Nat}(hc:m.code=code)(ht:m.text=x.toArray)(hl:m.lim=x.length)(h:yF code x):∀(fuel s:Nat) seen,∃BX,Sre.M.admitted m fuel s seen= .ok (jV,BX)
 | 0,s,seen=>⟨seen,rfl⟩
 | fuel+1,s,seen=>by
  unfold Sre.M.admitted
  by_cases hs:s≥m.lim
  ·exact⟨seen,by rw[if_pos hs]⟩
  ·rw[if_neg hs,hc,ht]
   have TH:s < x.length:=hl▸Nat.lt_of_not_le hs
   refine cD (h (x.toArray.getD s 0) (by simp [Array.getD,TH]) seen) λBX e=>?_
   rw[e]
   exact r0 hc ht hl h fuel (s+1) BX
theorem yG{M:rL}{A:cF}{E:aJ->aM->Prop}{s:aM}{p:Nat->Bool}{f:Nat->String}{Q:PUnit->aM->Prop}(h:Q ⟨⟩ s):∀(l:List Nat),bZ M A (forIn l PUnit.unit λi _=>if p i=true then(do rule (f i);pure (kS PUnit.unit)) else pure (kS PUnit.unit)) Q E s
 | []=>aI h
 | i::r=>by
  rw[n9]
  refine aC ?_
  split
  ·exact aC (lW (aI (yG h r)))
  ·exact aI (yG h r)
theorem AO{M:rL}{A:cF}{E:aJ->aM->Prop}{s:aM}{m:Sre.M}{Q:Option Sre.M->aM->Prop}(h1:m.outcome=none)(h2:m.answer=some false)(h3:m.frames= [])(h:Q none s):bZ M A (EB m) Q E s:=by
 have e:JZ (2 ^ 64) m=pure { m with outcome:=some .failed }:=by
  have:(2:Nat) ^ 64=(2 ^ 64 - 1)+1:=by decide
  rw[this]
  unfold JZ
  have hr:m.runFor Builtin.Re.reTurnSteps={ m with outcome:=some .failed }:=by
   show m.runFor 4=_
   unfold Sre.M.runFor
   rw[h1]
   have hst:m.step={ m with outcome:=some .failed }:=by
    unfold Sre.M.step
    rw[h1,h2,h3]
    rfl
   simp only [Option.isSome_none,gE,if_false]
   rw[hst]
   unfold Sre.M.runFor
   rfl
  simp only [hr]
  rfl
 unfold EB
 rw[e]
 refine aC (aI ?_)
 refine aC (bM (yG (Q:=λ_ s'=>s'=s) rfl _) (λ_ s' hs=>?_) λ_ _ e=>e)
 subst hs
 exact aI h
theorem u9{m:Sre.M}{code:Array Nat}{x:List Nat}{s:Nat}(hf:m.hasFirstSet=true)(hc:m.code=code)(ht:m.text=x.toArray)(hl:m.lim=x.length)(h:yF code x)(h1:m.outcome=none)(h3:m.frames= []):
  (m.attemptFrom s true).outcome=none∧(m.attemptFrom s true).answer=some false∧(m.attemptFrom s true).frames= []:=by
 unfold Sre.M.attemptFrom
 rw[hf]
 simp only [Bool.not_true,gE,if_false]
 refine cD (r0 hc ht hl h (m.lim+1 - s) s m.seen) λBX e'=>?_
 rw[e']
 exact⟨h1,rfl,h3⟩
theorem yH{code:Array Nat}{x:List Nat}{g b:Nat}(hh:Sre.header code=(1,b))(hf:∀m:Sre.M,m.code=code->m.hasFirstSet=true)(h:yF code x):
  (zV code x.toArray g 0 x.length false).outcome=none∧(zV code x.toArray g 0 x.length false).answer=some false∧(zV code x.toArray g 0 x.length false).frames= []:=by
 unfold zV
 simp only [hh]
 by_cases h0:0 > x.length∨x.length - 0 < 1
 ·have h0':(decide (0 > x.length) || decide (x.length - 0 < 1))=true:=by simpa using h0
  simp only [h0',if_true]
  exact⟨rfl,rfl,rfl⟩
 ·have h0':(decide (0 > x.length) || decide (x.length - 0 < 1))=false:=by simpa using h0
  simp only [h0',if_false,gE]
  refine u9 (code:=code) (x:=x) (hf _ ?_) ?_ ?_ ?_ h ?_ ?_ <;> rfl
theorem t7{p T:cI}{op oT:Obj}{x:List Nat}{t:Tok}{fs items:Array aJ}{k b:Nat}{code:Array Nat}(UA:op.data= .fields fs)(hw:m3 (fs.getD 6 .none)=0)(hc:fs.getD 5 .none= .ref T)(hit:oT.data= .seq items k)
  (hcode:(items.map tK).map (·.toNat)=code) (hh:Sre.header code=(1,b)) (hf:∀m:Sre.M,m.code=code->m.hasFirstSet=true) (h:yF code x) (hz:x.length≤1000000):
  Meets (lS.«re.Pattern.search» ⟨[.ref p,.str (c8 x) t],[]⟩) (λ_ R s=>s.heap.get? p=some op∧s.heap.get? T=some oT∧R (.ok (.ret .none)) s):=.of_wp λprog w A R s h'=>by
 refine u3 h' λhp hT hR=>?_
 unfold lS.«re.Pattern.search»
 refine aC ?_
 unfold Builtin.Re.reTarget
 show bZ _ _ (Builtin.Re.reNamed _ _ _ _ _ _ >>=_) _ _ _
 refine aC (jS (a:=[some (Value.str (c8 x) t),none,none]) rfl ?_)
 dsimp only
 refine aC (aI ?_)
 refine aC (aI ?_)
 refine aC (wpAny_fieldsOf hp UA ?_)
 refine aC (m:=Builtin.Re.reTextOf (.str (c8 x) t)) (jS (a:=(x.toArray,0)) rfl ?_)
 rw[hw,hc]
 show bZ _ _ (EC (.ref T) >>=_) _ _ _
 unfold EC
 refine aC (aC (AG hT hit (aI ?_)))
 refine aI ?_
 dsimp only
 simp only [Option.getD_some,hcode]
 have e1:min (Int.toNat 0) x.toArray.size=0:=Nat.zero_min _
 have e2:min (2 ^ 63 - 1:Int).toNat x.toArray.size=x.length:=Nat.min_eq_right (g5 hz rfl)
 rw[e1,e2]
 unfold Builtin.Re.reAnswer
 refine u3 (yH (g:=m3 (fs.getD 2 .none)) hh hf h) λq1 q2 q3=>?_
 refine aC (AO q1 q2 q3 ?_)
 exact aI ⟨_,rfl,hR⟩
noncomputable def sR:Array Nat:=#[14,10,4,1,1,22,0,31,16,127,0,13,7,22,0,31,16,127,0,1]
noncomputable def n5:Array Nat:=#[14,14,4,1,1,9,4294966783,0,0,2147483648,0,0,0,0,0,13,11,9,4294966783,0,0,2147483648,0,0,0,0,0,1]
noncomputable def okN(x:List Nat):Bool:=x.all λc=>decide (31 < c) && c !=127
noncomputable def VB(x:List Nat):Bool:=x.all λc=>decide (c < 128) && !(n5.getD (6+c / 32) 0).testBit (c % 32)
theorem VC{x:List Nat}(h:okN x=true):yF sR x:=λc hc seen=>by
 have z:=bN.mp h c hc
 apply Exists.intro
 show(if(decide (0≤c) && decide (c≤31))=true then _ else _)=_
 rw[decide_eq_false (Nat.not_le.mpr (of_decide_eq_true (aP z))),HG]
 show(if(c==127)=true then _ else _)=_
 rw[(Bool.not_inj (aQ z:_= !false):(c==127)=false)]
 rfl
theorem VD{x:List Nat}(h:VB x=true):yF n5 x:=λc hc seen=>by
 have z:=bN.mp h c hc
 apply Exists.intro
 show(if(decide (c < 256) && (n5.getD (5+(1+c / 32)) 0).testBit (c % 32))=true then _ else _)=_
 rw[←b9 5 1,(Bool.not_inj (aQ z:_= !false):(n5.getD (6+c / 32) 0).testBit (c % 32)=false),HG]
 rfl
theorem VE(m:Sre.M)(h:m.code=sR):m.hasFirstSet=true:=by unfold Sre.M.hasFirstSet;rw[h];decide
theorem VF(m:Sre.M)(h:m.code=n5):m.hasFirstSet=true:=by unfold Sre.M.hasFirstSet;rw[h];decide
inductive YY(D:WD)(p:cI)(code:Array Nat):Prop where
 | mk (at':∃op T oT fs items k,D.K.lookup p=some op∧op.cls= .type "re.Pattern"∧op.dict=none∧op.data= .fields fs∧m3 (fs.getD 6 .none)=0∧fs.getD 5 .none= .ref T∧D.K.lookup T=some oT∧oT.data= .seq items k∧
  (items.map tK).map (·.toNat)=code)
section
variable {C:Ctx} {st:aK} {X:XQ} {Q:aA->aK->Prop}
theorem P3{p:cI}{code:Array Nat}{Q:aA×List aA->aK->Prop}(h:YY C.D p code)(q:Q (.blt "re.Pattern.search",[.ref p]) st):Gm C "search" (.ref p) st Q X:=λpl _ _ _ _ _ a hv=>by
 obtain rfl:=(hv:_=pT p)
 obtain⟨op,T,oT,fs,items,k,a1,a2,a3,_⟩:=h.1
 have hp:=a.5.1 _ _ (a.3.1 _ _ a1)
 exact getMethod_builtin ⟨op,hp,a2⟩ yE vT FI (λa e=>by cases e;exact⟨op,hp,a3⟩) (.mk (b:=(.blt "re.Pattern.search",[.ref p])) .refl ⟨rfl,.cons rfl .nil⟩ a q)
theorem FK{p:cI}{code:Array Nat}{x:List Nat}{b:Nat}(h:YY C.D p code)(hh:Sre.header code=(1,b))(hf:∀m:Sre.M,m.code=code->m.hasFirstSet=true)(hn:yF code x)(hz:x.length≤1000000)(q:Q .none st):
  fM C (.blt "re.Pattern.search") [.ref p,.str x] [] [] st Q X:=fM.b λa hv=>by
 obtain⟨_,_,rfl,h1,_,_,rfl,⟨t,rfl⟩,e0⟩:=hv
 obtain rfl:=(e0:_= [])
 obtain rfl:=(h1:_=pT p)
 obtain⟨op,T,oT,fs,items,k,a1,a2,a3,a4,a5,a6,a7,a8,a9⟩:=h.1
 have hp:=a.5.1 _ _ (a.3.1 _ _ a1)
 have hT:=a.5.1 _ _ (a.3.1 _ _ a7)
 exact lY vT ⟨op,hp,a2⟩ C4 (FJ _ _) (t7 a4 a5 a6 a8 a9 hh hf hn hz) ⟨hp,hT,.mk (b:=.none) .refl rfl a q⟩
theorem IL{p:cI}{x:List Nat}(h:YY C.D p sR)(hn:okN x=true)(hz:x.length≤1000000)(q:Q .none st):fM C (.blt "re.Pattern.search") [.ref p,.str x] [] [] st Q X:=FK (b:=11) h (by decide) VE (VC hn) hz q
theorem IM{p:cI}{x:List Nat}(h:YY C.D p n5)(hn:VB x=true)(hz:x.length≤1000000)(q:Q .none st):fM C (.blt "re.Pattern.search") [.ref p,.str x] [] [] st Q X:=FK (b:=15) h (by decide) VF (VD hn) hz q
end
end
section
open PySem.SeqAt
noncomputable def AP:aA->aA->Bool
 | .int a,.int b=>a==b
 | .str a,.str b=>a==b
 | .bool a,.bool b=>a==b
 | .none,.none=>true
 | _,_=>false
noncomputable def IN:aA->aA->Bool
 | .int _,.int _=>true
 | .str _,.str _=>true
 | .bool _,.bool _=>true
 | .none,.none=>true
 | .none,.str _=>true
 | .str _,.none=>true
 | .str _,.int _=>true
 | .int _,.str _=>true
 | _,_=>false
noncomputable def all2(p:aA->aA->Bool)(xs ys:List aA):Bool:=
 List.rec (motive:=λ_=>List aA->Bool) (λ_=>true) (λx _ ih ys=>List.rec true (λy ys _=>p x y && ih ys) ys) xs ys
noncomputable def AQ(a b:aA):Bool:=match a with
 | .tup xs=>match b with
  | .tup ys=>xs.length==ys.length && all2 AP xs ys
  | b=>AP a b
 | a=>AP a b
noncomputable def NF(a b:aA):Bool:=match a with
 | .tup xs=>match b with
  | .tup ys=>all2 IN xs ys
  | b=>IN a b
 | a=>IN a b
noncomputable def at2(p:aA->aA->Bool)(xs ys:List aA)(j:Nat):Bool:=((xs[j]?).bind λx=>(ys[j]?).map λy=>p x y).getD true
theorem FL{p:aA->aA->Bool}{xs:List aA}:∀{ys:List aA},all2 p xs ys=true->∀(j:Nat) (x y:aA),xs[j]? =some x->ys[j]? =some y->p x y=true:=by
 induction xs with
 | nil=>intro _ _ j _ _ hx;exact bK hx
 | cons a xs ih=>
  intro ys h j x y hx hy
  cases ys with
  | nil=>exact bK hy
  | cons b ys=>
   have h:=bP.mp h
   cases j with
   | zero=>obtain rfl:=aD hx;obtain rfl:=aD hy;exact h.1
   | succ j=>exact ih h.2 j x y hx hy
theorem IP(p:aA->aA->Bool){xs:List aA}:∀{ys:List aA} (e:Nat->Bool),(∀(j:Nat) (x y:aA),xs[j]? =some x->ys[j]? =some y->e j=p x y)->(cE (min xs.length ys.length)).all e=all2 p xs ys:=by
 induction xs with
 | nil=>intro ys e _;rw[dJ,Nat.zero_min];rfl
 | cons a xs ih=>
  intro ys e h
  cases ys with
  | nil=>rfl
  | cons b ys=>
   show(cE (min (xs.length+1) (ys.length+1))).all e=(p a b && all2 p xs ys)
   rw[←(ih (λj=>e (j+1)) λj x y hx hy=>h (j+1) x y hx hy),←(h 0 a b rfl rfl),Nat.succ_min_succ,List.range_succ_eq_map,List.all_cons,List.all_map]
   rfl
theorem BY(p:aA->aA->Bool)(xs ys:List aA):(cE (min xs.length ys.length)).all (at2 p xs ys)=all2 p xs ys:=IP p _ λj x y hx hy=>by unfold at2;rw[hx,hy];rfl
section
variable {ρ:Roo} {h:c9}
theorem P4{A:cF}{s:aM}{a b:aA}{v w:aJ}(ok:IN a b=true)(hv:V ρ h a v)(hw:V ρ h b w):EqAt A s v w (AP a b):=by
 cases a with
 | none=>
  obtain rfl:=(hv:v=_)
  cases b with
  | none=>obtain rfl:=(hw:w=_);exact EqAt.same _
  | str=>refine cD hw λ_ dF=>?_;subst dF;exact EqAt.none_str _ _
  | _=>cases ok
 | bool=>
  obtain rfl:=(hv:v=_)
  cases b with
  | bool=>obtain rfl:=(hw:w=_);exact EqAt.bool_bool _ _
  | _=>cases ok
 | int=>
  refine cD hv λ_ dF=>?_;subst dF
  cases b with
  | int=>refine cD hw λ_ dF=>?_;subst dF;exact EqAt.int_int _ _ _ _
  | str=>refine cD hw λ_ dF=>?_;subst dF;exact EqAt.int_str _ _ _ _
  | _=>cases ok
 | str=>
  refine cD hv λ_ dF=>?_;subst dF
  cases b with
  | none=>obtain rfl:=(hw:w=_);exact EqAt.str_none _ _
  | int=>refine cD hw λ_ dF=>?_;subst dF;exact EqAt.str_int _ _ _ _
  | str=>refine cD hw λ_ dF=>?_;subst dF;exact(SeqRoads2.EqGives.str _ _ _ _).at A s
  | _=>cases ok
 | _=>cases ok
theorem NG{a b:aA}{v:aJ}(ok:IN a b=true)(hv:V ρ h a v)(hw:V ρ h b v):AP a b=true:=by
 cases a with
 | none=>
  cases b with
  | none=>rfl
  | str=>obtain rfl:=(hv:v=_);refine cD hw λ_ q=>?_;cases q
  | _=>cases ok
 | bool=>
  cases b with
  | bool=>obtain rfl:=(hv:v=_);cases(hw:_=_);exact beq_self_eq_true _
  | _=>cases ok
 | int=>
  refine cD hv λ_ dF=>?_;subst dF
  cases b with
  | int=>refine cD hw λ_ q=>?_;cases q;exact beq_self_eq_true _
  | str=>refine cD hw λ_ q=>?_;cases q
  | _=>cases ok
 | str=>
  refine cD hv λ_ dF=>?_;subst dF
  cases b with
  | none=>cases(hw:_=_)
  | int=>refine cD hw λ_ q=>?_;cases q
  | str=>refine cD hw λ_ q=>?_;exact beq_iff_eq.mpr (xA (Value.str.inj q).1)
  | _=>cases ok
 | _=>cases ok
theorem Vs.at{xs:List aA}{vs:List aJ}(e:Vs ρ h xs vs){j:Nat}(hj:j < vs.length):∃x,xs[j]? =some x∧V ρ h x vs[j]:=by
 have hx:=aY (l:=xs) (e.length▸hj)
 refine bS (e.get hx) λv hv z=>?_
 cases(aY hj).symm.trans hv
 exact⟨_,hx,z⟩
theorem AR{xs:List aA}:∀{ys:List aA} {vs:List aJ},Vs ρ h xs vs->Vs ρ h ys vs->all2 IN xs ys=true->all2 AP xs ys=true:=by
 induction xs with
 | nil=>intros;rfl
 | cons a xs ih=>
  intro ys vs hx hy k
  cases ys with
  | nil=>rfl
  | cons b ys=>
   refine dW hx λv r dE x y=>?_;subst dE
   refine dW hy λv' r' q x' y'=>?_
   refine d5 (List.cons.inj q) λu5 dF=>?_;subst u5;subst dF
   have k:=bP.mp k
   exact bP.mpr ⟨NG k.1 x x',ih y y' k.2⟩
theorem aBI{A:cF}{s:aM}{xs ys:List aA}{v w:aJ}(hu:A.units+1 < cLine)(ok:all2 IN xs ys=true)(hv:V ρ s.heap (.tup xs) v)(hw:V ρ s.heap (.tup ys) w):EqAt A s v w (xs.length==ys.length && all2 AP xs ys):=by
 refine dW hv λl vs dE hl jB=>?_;subst dE
 refine dW hw λk ws dE hk sL=>?_;subst dE
 by_cases e:l=k
 ·subst e
  have:vs=ws:=by
   obtain⟨o,h1,_,n1,h2⟩:=hl
   obtain⟨o',h3,_,n3,h4⟩:=hk
   obtain rfl:=aD (h1.symm.trans h3)
   exact congrArg Array.toList (Data.seq.inj (h2.symm.trans h4)).1
  subst this
  have h0:(xs.length==ys.length)=true:=beq_iff_eq.mpr (jB.length.symm.trans sL.length)
  rw[h0,AR jB sL ok]
  exact EqAt.same _
 ·refine EqAt.of_refs e ?_
  have h:=RcAt.tuples (A:=A) (s:=s) (e:=at2 AP xs ys) hl hk (mX hu) λj h1 h2=>by
   refine bS (jB.at (j:=j) h1) λx hx zx=>?_
   refine bS (sL.at (j:=j) h2) λy hy zy=>?_
   have e:at2 AP xs ys j=AP x y:=by unfold at2;rw[hx,hy];rfl
   exact e▸P4 (FL ok j x y hx hy) zx zy
  rw[aX,aX,jB.length,sL.length,BY,Bool.and_comm] at h
  exact h
theorem aBJ{A:cF}{s:aM}{a b:aA}{v w:aJ}(hu:A.units+1 < cLine)(ok:NF a b=true)(hv:V ρ s.heap a v)(hw:V ρ s.heap b w):EqAt A s v w (AQ a b):=by
 cases a with
 | tup xs=>
  cases b with
  | tup ys=>exact aBI hu ok hv hw
  | _=>cases ok
 | _=>exact P4 (by exact ok) hv hw
end
noncomputable def p7(xs ys:List aA):Bool:=xs.length==ys.length && all2 AQ xs ys
section
variable {C:Ctx} {st:aK} {X:XQ} {Q:aA->aK->Prop}
theorem P5{ρ:Roo}{A:cF}{s:aM}{xs ys:List aA}{vs ws:List aJ}(hu:A.units+1 < cLine)(ok:all2 NF xs ys=true)(jB:Vs ρ s.heap xs vs)(sL:Vs ρ s.heap ys ws)(j:Nat)(h1:j < (bG vs).size)(h2:j < (bG ws).size):
  EqAt A s (bG vs)[j] (bG ws)[j] (at2 AQ xs ys j):=by
 refine bS (jB.at (j:=j) h1) λx hx zx=>?_
 refine bS (sL.at (j:=j) h2) λy hy zy=>?_
 have e:at2 AQ xs ys j=AQ x y:=by unfold at2;rw[hx,hy];rfl
 exact e▸aBJ hu (FL ok j x y hx hy) zx zy
theorem KH{xs ys:List aA}(e:xs.length=ys.length):p7 xs ys=(cE xs.length).all (at2 AQ xs ys):=by
 have h:=BY AQ xs ys
 rw[←e,Nat.min_self] at h
 unfold p7
 rw[h,beq_iff_eq.mpr e];rfl
theorem KI{xs ys:List aA}(e:xs.length≠ys.length):p7 xs ys=false:=by unfold p7;rw[beq_eq_false_iff_ne.mpr e];rfl
theorem aF0{a b:Nat}{xs ys:List aA}(ha:st.H[a]? =some (.lst xs))(hb:st.H[b]? =some (.lst ys))(ok:xs.length=ys.length->all2 NF xs ys=true)(q:Q (.bool (p7 xs ys)) st):d3 C V (d7 .Eq) (.aO a) (.aO b) st Q X:=λ{A g ρ s _ _} z hv hw=>by
 have hu:A.units+3 < cLine:=gU (nZ (bA (aW _ _) z.2.2) 3) (by decide)
 cases z.x5 ha hv with
 | mk x vs n hx hl jB=>
  cases z.x5 hb hw with
  | mk y ws n' hy hk sL=>
   have l1:=jB.length
   have l2:=sL.length
   by_cases e:xs.length=ys.length
   ·refine eq_listAt (e:=at2 AQ xs ys) hl.isList hk.isList (by rw[aX,aX,l1,l2];exact e) (bA (aW _ 3) hu) (λj h1 h2=>P5 (A:=A.in1) (mX hu) (ok e) jB sL j h1 h2) ?_
    rw[aX,l1,←KH e]
    exact .mk (b:=.bool _) .refl rfl z q
   ·refine eq_list_lengthsAt hl.isList hk.isList (by rw[aX,aX,l1,l2];exact bne_iff_ne.mpr e) (bA (aW _ 3) hu) ?_
    exact .mk (b:=.bool (p7 xs ys)) .refl (by rw[KI e];rfl) z q
theorem aF1{a b:Nat}{xs ys:List aA}(ha:st.H[a]? =some (.lst xs))(hb:st.H[b]? =some (.lst ys))(ok:xs.length=ys.length->all2 NF xs ys=true)(q:Q (.bool (!p7 xs ys)) st):d3 C V (d7 .NotEq) (.aO a) (.aO b) st Q X:=λ{A g ρ s _ _} z hv hw=>by
 have hu:A.units+3 < cLine:=gU (nZ (bA (aW _ _) z.2.2) 3) (by decide)
 cases z.x5 ha hv with
 | mk x vs n hx hl jB=>
  cases z.x5 hb hw with
  | mk y ws n' hy hk sL=>
   have l1:=jB.length
   have l2:=sL.length
   by_cases e:xs.length=ys.length
   ·refine RcNeAt.lists (e:=at2 AQ xs ys) hl.isList hk.isList (by rw[aX,aX,l1,l2];exact e) (bA (aW _ 3) hu) (λj h1 h2=>P5 (A:=A.in1) (mX hu) (ok e) jB sL j h1 h2) _ _ _ _ ?_
    rw[aX,l1,←KH e]
    exact .mk (b:=.bool _) .refl rfl z q
   ·refine RcNeAt.lists_lengths hl.isList hk.isList (by rw[aX,aX,l1,l2];exact bne_iff_ne.mpr e) (bA (aW _ 3) hu) _ _ _ _ ?_
    exact .mk (b:=.bool (!p7 xs ys)) .refl (by rw[KI e];rfl) z q
end
end
section
open PySem.SeqAt
section
variable {C:Ctx} {st:aK} {X:XQ} {Q:aA->aK->Prop} {l:Nat} {ls:List (List Nat)}
theorem aF2{a b:List Nat}(q:Q (.bool (decide (a < b))) st):d3 C V (d7 .Lt) (.str a) (.str b) st Q X:=d3.s2 (λA s t u Q' E k=>PySem.P.lt_str (k _ _ .bool)) q
theorem aF3{a b:List Nat}(q:Q (.bool (decide (b < a))) st):d3 C V (d7 .Gt) (.str a) (.str b) st Q X:=d3.s2 (λA s t u Q' E k=>PySem.P.gt_str (k _ _ .bool)) q
theorem aF4{a b:Bool}(q:Q (.bool (!a && b)) st):d3 C V (d7 .Lt) (.bool a) (.bool b) st Q X:=λx hv hw=>by
 obtain rfl:=(hv:_=_)
 obtain rfl:=(hw:_=_)
 refine PyProof.Rows.lt_bool (.mk (b:=.bool (!a && b)) .refl ?_ x q)
 cases a <;> cases b <;> rfl
theorem aBK{a b:Nat}(ha:a < 2 ^ 64)(hb:b≤1000000)(q:Q (.int (a * 2 ^ b:Nat)) st):d3 C V (j7 .LShift) (.int a) (.int b) st Q X:=
 d3.i2 (c:=.int (a * 2 ^ b:Nat)) (λA s t u Q' E k=>lshift_int_small (b6 b) (fD.mpr hb) (by rw[pK];exact ha) (k _ _ (by
  rw[qK,show(a:Int) * 2 ^ b=((a * 2 ^ b:Nat):Int) by rw[Int.natCast_mul,G4];rfl]
  exact .int))) q
theorem bits_le{a b:Nat}(h:(b:Int)≥(j4 a:Int)):a / 2 ^ b=0:=by
 have h:=fD.mp h
 unfold j4 at h
 by_cases h0:a=0
 ·rw[h0,Nat.zero_div]
 ·rw[beq_eq_false_iff_ne.mpr (jH.mpr h0),if_neg bH,pK] at h
  exact Nat.div_eq_of_lt ((G2 h0).mp h)
theorem aBL{a b:Nat}(q:Q (.int (a / 2 ^ b:Nat)) st):d3 C V (j7 .RShift) (.int a) (.int b) st Q X:=d3.i2 (c:=.int (a / 2 ^ b:Nat)) (λA s t u Q' E k=>by
 have h0:=lC.mpr (b6 b)
 by_cases h:(b:Int)≥((j4 a:Nat):Int)
 ·refine AutoIntOps.rshift_1 h0 h (k _ _ ?_)
  rw[if_neg (lC.mpr (b6 a)),bits_le h]
  exact .int
 ·refine AutoIntOps.rshift_2 h0 h (k _ _ ?_)
  rw[qK,show(2:Int) ^ b=((2 ^ b:Nat):Int) by rw[G4];rfl,HK _ (b6 _)]
  exact .int) q
theorem aBM{a b:Nat}(q:Q (.int (a &&& b:Nat)) st):d3 C V (j7 .BitAnd) (.int a) (.int b) st Q X:=d3.i2 (c:=.int (a &&& b:Nat)) (λA s t u Q' E k=>PyProof.Rows.and_int (k _ _ (by
 unfold Builtin.bitAnd
 rw[decide_eq_true (b6 a),decide_eq_true (b6 b)]
 exact .int))) q
theorem P6{k:List Nat}(e:st.H[l]? =some (.lst (ls.map .str)))(q:Q (.bool (!ls.any (· ==k))) st):d3 C V (d7 .NotIn) (.str k) (.aO l) st Q X:=λa hv hw=>by
 refine cD hv λu dF=>?_;subst dF
 cases a.x5 e hw with
 | mk y vs n hx hl jB=>exact notin_list_strs hl.isList (xB jB) (by rw[J9];exact .mk (b:=.bool _) .refl rfl a q)
theorem aF5{a b:Int}(hh:C.hd=none)(q:Q (.int (if b > a then b else a)) st):fM C (.blt "max") [.int a,.int b] [] [] st Q X:=fM.b λz hv=>by
 obtain⟨_,_,rfl,⟨t,rfl⟩,_,_,rfl,⟨u,rfl⟩,e⟩:=hv
 obtain rfl:=(e:_= [])
 refine max_two_ints (z.2.3.trans hh) λh' tk hk=>.mk (b:=.int _) (.ke hk) ?_ (z.junk (tk:=tk) hk) q
 split
 ·exact⟨u,rfl⟩
 ·exact⟨t,rfl⟩
theorem aF6{a b:Int}(hh:C.hd=none)(q:Q (.int (if b < a then b else a)) st):fM C (.blt "min") [.int a,.int b] [] [] st Q X:=fM.b λz hv=>by
 obtain⟨_,_,rfl,⟨t,rfl⟩,_,_,rfl,⟨u,rfl⟩,e⟩:=hv
 obtain rfl:=(e:_= [])
 refine min_two_ints (z.2.3.trans hh) λh' tk hk=>.mk (b:=.int _) (.ke hk) ?_ (z.junk (tk:=tk) hk) q
 split
 ·exact⟨u,rfl⟩
 ·exact⟨t,rfl⟩
theorem FM{x y:List Nat}{k:Nat}(h:jR x y 0 x.length=some k)(q:Q (.int k) st):fM C (.blt "str.index") [.str x,.str y] [] [] st Q X:=fM.bss (c:=.int k) (λA s t u Q' E K=>by
 have e:=CS x y 0 x.length
 rw[h] at e
 refine cD (List.head?_eq_some_iff.mp e) λr e=>?_
 exact SC.index (rest:=r) e (K _ _ .int)) q
theorem FN{k:List Nat}(e:st.H[l]? =some (.lst (ls.map .str)))(hk:ls.findIdx (· ==k) < ls.length)(hz:ls.length≤1000000)(q:Q (.int (ls.findIdx (· ==k):Nat)) st):fM C (.blt "list.index") [.aO l,.str k] [] [] st Q X:=fM.b λ{_ _ _ s _} a hv=>by
 obtain⟨_,_,rfl,h1,w,_,rfl,⟨u,rfl⟩,e0⟩:=hv
 obtain rfl:=(e0:_= [])
 cases a.x5 e h1 with
 | mk x vs n hx hl jB=>
  have hi:=xB jB
  have len:vs.length=ls.length:=jB.length.trans (aG ..)
  have at':∀(j:Nat) (h1:j < (bG vs).size) (h2:j < ls.length),isStrOf (c8 k) (bG vs)[j]=(ls[j]==k):=λj h1 h2=>by
   refine bS (jB.at (j:=j) h1) λy hy hv=>?_
   rw[bX,aY h2] at hy
   obtain rfl:=aD hy
   refine cD hv λt ht=>?_
   show isStrOf (c8 k) vs[j]=_
   rw[ht]
   show(c8 ls[j]==c8 k)=_
   by_cases c:ls[j]=k
   ·rw[c,beq_self_eq_true,beq_self_eq_true]
   ·rw[beq_eq_false_iff_ne.mpr c,beq_eq_false_iff_ne.mpr λq=>c (xA q)]
  exact lY PySem.F.slot_list_index ⟨_,hl,rfl⟩ PySem.F.entry_list_index (PySem.F.args_list_index_2 _ _)
   (MeetsSeq.list_index x (bG vs) n (.str (c8 k) u) (isStrOf (c8 k)) (λy hy=>eq_isStrOf (c8 k) u hi y (by simpa using hy)) (ls.findIdx (· ==k)) (by rw[aX,len];exact hk) (iA (fD.mpr (aB (dY hk) hz)) (by decide))
    ((at' _ _ hk).trans (List.findIdx_getElem (p:=(· ==k)) (xs:=ls) (w:=hk))) (λm hm lt=>(at' m hm (gU lt hk)).trans (List.not_of_lt_findIdx lt)))
   ⟨hl,.mk (b:=.int _) .refl V.int a.toks q⟩
theorem NH{p:Str}{r:List Str}(h:risingS p r=true):∀{q:List Nat},q≤p.cps.toList->∀x∈p::r,q≤x.cps.toList:=by
 induction r generalizing p with
 | nil=>exactλk x m=>by obtain rfl:=aU.mp m;exact k
 | cons y r ih=>
  intro q k x m
  have h1:=aP h
  rw[ltCps_eq] at h1
  refine nI m (λe0=>?_) λm=>?_
  ·subst e0;exact k
  ·exact ih (aQ h) (List.le_trans k (of_decide_eq_false (not_true h1):¬y.cps.toList < p.cps.toList)) x m
theorem NI{p:Str}{r:List Str}(h:risingS p r=true):(p::r).Pairwise (λa b=>a.cps.toList≤b.cps.toList):=by
 induction r generalizing p with
 | nil=>exact List.pairwise_singleton _ _
 | cons y r ih=>
  have h1:=aP h
  rw[ltCps_eq] at h1
  exact List.pairwise_cons.mpr ⟨λx m=>NH (aQ h) (of_decide_eq_false (not_true h1):¬y.cps.toList < p.cps.toList) x m,ih (aQ h)⟩
theorem BZ{l:List Str}(h:sortedS l=true):l.Pairwise (λa b=>a.cps.toList≤b.cps.toList):=by
 cases l with
 | nil=>exact .nil
 | cons p r=>exact NI h
theorem aF7{ρ:Roo}{h:c9}{rs:List (List Nat)}:∀{vs:List aJ},StrsAre vs (rs.map c8)->Vs ρ h (rs.map .str) vs:=by
 induction rs with
 | nil=>intro vs h;cases h;exact .nil
 | cons r rs ih=>intro vs h;cases h with | cons _ _ b=>exact .cons ⟨_,rfl⟩ (ih b)
theorem P7{rs:List (List Nat)}(e:st.H[l]? =some (.lst (ls.map .str)))(hz:ls.length < 64)(hp:rs.Perm ls)(hs:sortedS (rs.map c8)=true)(q:Q (.aO st.H.length) ⟨st.m,st.H++ [.lst (rs.map .str)]⟩):fM C (.blt "sorted") [.aO l] [] [] st Q X:=fM.b λ{_ _ _ s _} a hv=>by
 refine dW hv λ_ _ dE h1 e0=>?_;subst dE
 obtain rfl:=(e0:_= [])
 cases a.x5 e h1 with
 | mk x vs n hx hl jB=>
  refine sorted_strs hl.isList (xB jB) (by rw[jB.length,aG];exact hz) λout ss' a1 a2 a3=>?_
  refine cD (sortedAll_at s.heap vs out) λk he=>?_
  have eq:ss'=rs.map c8:=List.Perm.eq_of_pairwise (le:=λa b:Str=>a.cps.toList≤b.cps.toList) (λa b _ _ x y=>Str.ext' (Array.toList_inj.mp (List.le_antisymm x y))) (BZ a3) (BZ hs) (a2.trans (hp.map c8).symm)
  subst eq
  have hk:Ke s.heap (sortedAll s.heap vs out):=λ_ _=>sortedAll_old
  exact .mk (b:=.aO _) (Le.new hk) ⟨_,iH a.5.4,rfl⟩ (a.new (tk:=s.toks) (p:=.lst _) hk (nQ (eW _)) (.mk he (.ty rfl (by decide)) ⟨out.toList,k,rfl,aF7 a1⟩ trivial)) q
end
end
section
open PySem.SeqAt
open AutoSeq1 (wpAny_loadPart')
section
variable {prog:rM} {w:World} {A:cF} {E:aJ->aM->Prop} {s:aM}
theorem IQ{it t:cI}{i:Nat}{items:Array aJ}{x:aJ}{Q:aJ->aM->Prop}(hit:s.heap.IsTupleIter it t i)(ht:s.heap.IsTuple t items)(hx:items[i]? =some x)
  (hQ:∀h',h'.IsTupleIter it t (i+1)->eY it s.heap h'->Q x { s with heap:=h' }):bZ (c0 prog w) A (jD (.ref it)) Q E s:=by
 refine wF (id hit) λo ho hc hd=>?_
 obtain⟨ol,hol,_,nl,hdl⟩:=ht
 unfold jD
 refine aC (g7 (name:=gV "__next__") hit.typeIs F.slot_tuple_iterator_next (gQ F.slot_tuple_iterator_next hit.typeIs F.entry_tuple_iterator_next ?_ (F.args_tuple_iterator_next_1 _)))
 show bZ _ _ (field (.ref it) 0 >>=_) _ _ s
 refine aC (jT ho hd (x:=.ref t) rfl ?_)
 show bZ _ _ (if(pT t==j1)=true then _ else _) _ _ s
 rw[if_neg (show¬((pT t==j1)=true) from bH)]
 show bZ _ _ (field (.ref it) 1 >>=_) _ _ s
 refine aC (jT ho hd (x:=.int i 0) rfl ?_)
 show bZ _ _ (seqItems? (.ref t) >>=_) _ _ s
 refine aC (AG hol hdl ?_)
 simp only [qK,hx]
 refine aC (wpAny_setField ho hd (by simp) (aI ⟨x,rfl,aI (hQ _ ?_ (iD ..))⟩))
 exact⟨_,eZ _ ho (Obj.isFreed_of_fields (Obj.data_mapFields hd _)),(Obj.cls_mapFields ..).trans hc,by rw[Obj.data_mapFields hd];simp [iQ]⟩
theorem B0{it t:cI}{i:Nat}{items:Array aJ}{Q:aJ->aM->Prop}(hh:A.handled=none)(hit:s.heap.IsTupleIter it t i)(ht:s.heap.IsTuple t items)(hx:items[i]? =none)
  (hE:∀h' e,q8 it s.heap h'->(∃o,h'.get? e=some o∧o.cls= .type "StopIteration")->E (.ref e) { s with heap:=h' }):bZ (c0 prog w) A (jD (.ref it)) Q E s:=by
 refine wF (id hit) λo ho hc hd=>?_
 obtain⟨ol,hol,_,nl,hdl⟩:=ht
 unfold jD
 refine aC (g7 (name:=gV "__next__") hit.typeIs F.slot_tuple_iterator_next (gQ F.slot_tuple_iterator_next hit.typeIs F.entry_tuple_iterator_next ?_ (F.args_tuple_iterator_next_1 _)))
 show bZ _ _ (field (.ref it) 0 >>=_) _ _ s
 refine aC (jT ho hd (x:=.ref t) rfl ?_)
 show bZ _ _ (if(pT t==j1)=true then _ else _) _ _ s
 rw[if_neg (show¬((pT t==j1)=true) from bH)]
 show bZ _ _ (field (.ref it) 1 >>=_) _ _ s
 refine aC (jT ho hd (x:=.int i 0) rfl ?_)
 show bZ _ _ (seqItems? (.ref t) >>=_) _ _ s
 refine aC (AG hol hdl ?_)
 simp only [qK,hx]
 refine aC (lW (aC (wpAny_setField ho hd (by simp) ?_)))
 show bZ _ _ (newExc (.type "StopIteration") [] >>=_) _ _ _
 refine aC ?_
 simp only [newExc,newTuple]
 refine aC (jG ?_ (by size_fits))
 refine aC (m:=AF _ _) (jS (a:=j1) (by first | rfl | (simp only [AF];rfl)) ?_)
 refine jG ?_ (by size_fits)
 simp only [raiseNew]
 refine aC (wpAny_handled ?_)
 first | rw[show A.in1.handled=none from hh] | rw[hh]
 refine aC (aI (wpAny_throw ?_))
 exact hE _ _ (((iD ..).extBut.push _).push _) ⟨_,bV _ rfl,rfl⟩
theorem aBN{it t:cI}{items:Array aJ}(hh:A.handled=none)(tN:t≠it):Draws prog w A it [it,t] items.size (λi x=>items[i]? =some x) (λi h=>h.IsTupleIter it t i∧h.IsTuple t items) where
 live:=λi h q=>q.1.elim λo z=>⟨o,z.1⟩
 frame:=λi h h' q k=>⟨q.1.elim λo z=>⟨o,k it (.head _) o z.1,z.2⟩,q.2.elim λo z=>⟨o,k t (.tail _ (.head _)) o z.1,z.2⟩⟩
 item:=λi s Q E lt q k=>IQ q.1 q.2 (G5 lt) λh' h1 h2=>k _ h' s.toks (G5 lt) ⟨h1,q.2.extBut h2.extBut tN⟩ h2
 done:=λs Q E q k=>B0 hh q.1 q.2 (rQ (aZ _)) k
theorem aKW(t:cI)(items:Array aJ)(n:Nat)(wH:Option cI)(sl:Array (Option aJ)):Meets (lS.«enumerate.__new__» ⟨[.type "enumerate",.ref t],[]⟩) (λ_ R s=>s.heap.get? t=some { cls:=.type "tuple",dict:=wH,data:=.seq items n,slots:=sl }∧
   R (.ok (.ret (.ref (s.heap.push { cls:=.type "tuple_iterator",data:=.fields #[.ref t,.int 0 0] }).objs.size))) { s with heap:=(s.heap.push { cls:=.type "tuple_iterator",data:=.fields #[.ref t,.int 0 0] }).push { cls:=.type "enumerate",data:=.fields #[.none,.bool false,.ref s.heap.objs.size,iQ 0,.none,.none] } }):=
 .of_wp λprog w A R s h=>by
  obtain⟨hp,g,d,tk,os⟩:=s;refine d5 h λhl h=>?_
  have aNV:=sub_enumerate
  have hL:Heap.IsTuple (Shared.heap ⟨hp,g,d,tk,os⟩) t items:=⟨_,hl,rfl,n,rfl⟩
  wp_walk using w5 hl
  refine wpAny_stack_any λst=>aI ?_
  split
  ·cases(c==tJ "enumerate")
   ·wp_walk using w5 hl,q9 hL
    exact⟨_,rfl,h⟩
   ·wp_walk using w5 hl,q9 hL
    exact⟨_,rfl,h⟩
  ·wp_walk using w5 hl,q9 hL
   exact⟨_,rfl,h⟩
theorem NJ{e it t:cI}{i:Int}{j:Nat}{items:Array aJ}{old:aJ}{Q:Option aJ->aM->Prop}(hh:A.handled=none)(he:IsEnum s.heap e it i old)(hit:s.heap.IsTupleIter it t j)(ht:s.heap.IsTuple t items)(hx:items[j]? =none)
  (hQ:∀h',q8 it s.heap h'->Q none { s with heap:=h' }):bZ (c0 prog w) A (uW (.ref e)) Q E s:=by
 have hT:s.TypeIs (.ref e) "enumerate":=⟨_,he,rfl⟩
 unfold uW
 refine aC (uO (g7 (name:=gV "__next__") hT F.slot_enumerate_next (gQ F.slot_enumerate_next hT F.entry_enumerate_next ?_ (F.args_enumerate_next_1 _))))
 show bZ _ _ (field (.ref e) 2 >>=_) _ _ _
 refine aC (jT he rfl (x:=.ref it) rfl ?_)
 refine aC (B0 hh hit ht hx λh' x he' zW=>?_)
 refine bS zW λo ho hc=>?_
 refine aC (uZ (T:="StopIteration") (b:=true) ⟨o,ho,hc⟩ isSubtype_stop ?_)
 exact aI (hQ _ he')
theorem IR{t:cI}{items:Array aJ}{Q:aJ->aM->Prop}(hL:s.heap.IsTuple t items)
  (h:∀h',IsEnum h' (s.heap.objs.size+1) s.heap.objs.size 0 .none->h'.IsTupleIter s.heap.objs.size t 0->(∀b o,s.heap.get? b=some o->h'.get? b=some o)->Q (.ref (s.heap.objs.size+1)) { s with heap:=h' }):
  bZ (c0 prog w) A (call (.type "enumerate") [.ref t]) Q E s:=by
 obtain⟨⟨c,wH,dt,sl⟩,hl,hc,n,hd⟩:=hL
 replace hc:c= .type "tuple":=hc
 replace hd:dt= .seq items n:=hd
 subst hc hd
 refine callType_new F.called_enumerate (by decide) (F.typeCall_enumerate_1 _) (F.newCall_enumerate_1 _) (λobj=>F.args_object_init_2 obj _) F.entry_enumerate_new (aKW t items n wH sl) ⟨hl, ?_⟩
 have hz:(s.heap.push { cls:=.type "tuple_iterator",data:=.fields #[.ref t,.int 0 0] }).objs.size=s.heap.objs.size+1:=pL ..
 show _∧_
 rw[hz]
 have he:IsEnum ((s.heap.push { cls:=.type "tuple_iterator",data:=.fields #[.ref t,.int 0 0] }).push { cls:=.type "enumerate",data:=.fields #[.none,.bool false,.ref s.heap.objs.size,iQ 0,.none,.none] }) (s.heap.objs.size+1) s.heap.objs.size 0 .none:=by
  have:=bV (s.heap.push { cls:=.type "tuple_iterator",data:=.fields #[.ref t,.int 0 0] }) (o:={ cls:=.type "enumerate",data:=.fields #[.none,.bool false,.ref s.heap.objs.size,iQ 0,.none,.none] }) rfl
  rw[hz] at this;exact this
 exact⟨⟨_,he,rfl⟩,h _ he ⟨_,cP _ (bV _ rfl),rfl,rfl⟩ λb o x=>cP _ (cP _ x)⟩
end
section
variable {C:Ctx} {st:aK} {X:XQ} {Q:aA->aK->Prop} {A:cF} {g:c9} {ρ:Roo} {s:aM} {l k k0:Nat} {xs:List aA}
theorem VG(hp:vN xs=true)(q:Q (.aO (st.H.length+1)) ⟨st.m,st.H++ [.OV xs]++ [.AH st.H.length]⟩):fM C (.typ "enumerate") [.tup xs] [] [] st Q X:=fM.t λ{A g ρ s _} a hv=>by
 refine dW hv λ_ _ dF EY e0=>dW EY λx vs rF ht jB=>?_;subst dF;subst rF
 obtain rfl:=(e0:_= [])
 refine IR ht λh' h1 h2 hk=>?_
 have n1:s.heap.get? (s.heap.objs.size+1)=none:=nQ (eW _)
 have k1:Ke s.heap (eJ h' [s.heap.objs.size+1]):=λb o e=>dL _ (hk b o e) λq=>by obtain rfl:=aU.mp q;exact bK (n1.symm.trans e)
 have k2:Ke (eJ h' [s.heap.objs.size+1]) h':=λb o e=>kQ _ e
 refine wF h2 λo ho oc od=>?_
 exact .mk (b:=.aO _) ((Le.app k1.tk).trans (Le.app k2.tk)) ⟨_,by rw[bY (by rw[aE,a.5.4];exact aZ _),aE,a.5.4];exact congrArg (([_]:List cI)[·]?) (k9 _),rfl⟩
  ((a.new (tk:=s.toks) (p:=.OV xs) k1 fE (.mk (dL _ ho λq=>sH _ (aU.mp q).symm:(eJ h' [s.heap.objs.size+1]).get? s.heap.objs.size=some o) (.ty oc (by decide)) ⟨x,vs,k1.tk _ _ ht,(jB.pure hp).mono (.of k1.tk),oc,od⟩ trivial)).new (tk:=s.toks) (p:=.AH st.H.length) k2 (gJ _ (.head _)) (.mk h1 (.ty rfl (by decide)) ⟨s.heap.objs.size,(bE (by rw[aE];exact jA (cC a.5.4.symm))).trans (iH a.5.4),λh b e=>e⟩ trivial)) q
inductive EnT(e it t:cI)(vs:List aJ)(xs:List aA)(j:Nat)(h:c9):Prop where
 | mk (en:∃old,IsEnum h e it (j:Nat) old) (it:h.IsTupleIter it t j) (tu:h.IsTuple t (bG vs)) (v:Vs [] h xs vs)
theorem EnT.live{e it t:cI}{vs:List aJ}{j:Nat}{h:c9}(K:EnT e it t vs xs j h):∀b∈[e,it],∃o,h.get? b=some o∧NT o:=λb hb=>by
 refine nI hb (λe0=>?_) λhb=>?_
 ·subst e0;exact K.1.elim λold q=>⟨_,q,.ty rfl (by decide)⟩
 ·obtain rfl:=aU.mp hb;exact K.2.elim λo q=>⟨o,q.1,.ty q.2.1 (by decide)⟩
theorem P8{D:WD}{elts:List dO}{x1:Nat}{pos:Pos}{e it t:cI}{vs:List aJ}(tN:e≠it)(het:e≠t)(hti:t≠it):sN D (.Tuple elts x1 pos) (.ref e) [e,it] (EnT e it t vs xs) (rW 0 xs) [] ρ:=⟨
 (λj h h' K k T=>⟨K.1.elim λold q=>⟨old,k e (.head _) _ q⟩,K.2.elim λo q=>⟨o,k it (.tail _ (.head _)) o q.1,q.2⟩,T _ _ K.3,K.4.mono (.of T)⟩),
 (λj h K=>K.live),
 (λK=>K.1.elim λold q=>tF q ⟨rfl,rfl⟩),
 (λ{A s j ρ'} hh K lb hn=>by
  refine cD K.1 λold K1=>?_
  have len:(bG vs).size=xs.length:=(aX ..).trans K.4.length
  rw[E6]
  cases hx:xs[j]? with
  | none=>exact NJ hh K1 K.2 K.3 (rQ (len▸dC.mp hx)) λh' zW=>⟨rfl,.of λb o hb e'=>zW b o (λq=>hb (q▸(.tail _ (.head _)))) e'⟩
  | some x=>
   refine bS (K.4.get hx) λw hw hV=>?_
   have lt:j < (bG vs).size:=len▸(aF.mp hx).1
   refine wpAny_pyNext_enum_itemD (aBN (A:=A.in1) (items:=bG vs) hh hti) K1 ⟨K.2,K.3⟩ lt tN (λq=>?_) λy h' tk hy O S ht hz hk=>⟨_,rfl,wpAny_letOwnedTupleGo_enum O λh2 O2 PM=>?_⟩
   ·refine nI q (λe0=>?_) λq=>?_
    ·subst e0;exact tN rfl
    ·exact het (aU.mp q)
   obtain rfl:=aD (hw.symm.trans ((cY ..).symm.trans hy))
   replace PM:eY e h' h2:=PM
   have keep:∀b o,b∉ [e,it]->s.heap.get? b=some o->h2.get? b=some o:=λb o hb e'=>(PM.2 b (λq=>hb (q▸.head _))).trans (hk b o (λq=>hb (q▸.head _)) (λq=>hb (q▸.tail _ (.head _))) e')
   have T:TK s.heap h2:=.off keep K.live
   rw[cZ]
   exact⟨.of keep,⟨_,[.int j tk,w],rfl,⟨_,(PM.2 _ (eC (c6 K1))).trans ht,rfl,_,rfl⟩,.cons ⟨_,rfl⟩ (.cons (hV.mono (.of T)).bot .nil)⟩,⟨w,O2⟩,S.1.elim λo q=>⟨o,(PM.2 it (Ne.symm tN)).trans q.1,q.2⟩,T _ _ K.3,K.4.mono (.of T)⟩)⟩
theorem IS{elts:List dO}{x1:Nat}{pos:Pos}(hk:k0≤k)(e1:st.H[k]? =some (.OV xs))(e2:st.H[k+1]? =some (.AH k))(hN:lK k k st.H=true):
  rT C (.Tuple elts x1 pos) k0 (.aO (k+1)) (rW 0 xs) [] st (st.cut k):=λ{A g ρ0 ρ h0 s v} a L hk0 hv=>by
 refine bS hv λe he dE=>?_;subst dE
 obtain⟨o,ho,it,hit,z⟩:=(a.5.5 _ _ e e2 he).1
 obtain⟨o2,J2,t,vs,ht,jB,c,d⟩:=(a.5.5 _ _ it e1 hit).1
 have hE:=z _ _ ho
 have ntu:∀{y:cI} {o:Obj},s.heap.get? y=some o->(∃n,o.cls= .type n∧n≠"tuple")->t≠y:=λ{y o} e q r=>by
  refine wF ht λo3 e3 c3 _=>?_
  subst r
  obtain rfl:=aD (e.symm.trans e3)
  refine bS q λn q r=>?_
  exact r (rN (q.symm.trans c3))
 have off:∀b i,ρ[i]? =some b->k≤i->b∉C.X++ρ.take k∧g.get? b=none:=λb i q ki=>⟨λm=>by
  cases aT.mp m with
  | inl m=>exact a.5.nX m (aN q) rfl
  | inr m=>
   refine cD (cV.mp m) λj hj=>?_
   have lj:j < k:=bR (aF.mp hj).1 (gZ _ _)
   exact absurd (a.5.uniq q ((b8 lj).symm.trans hj)) (eC (bR lj ki)),a.5.2 b (aR _ (aN q))⟩
 refine tF hE ⟨ρ.take k,[e,it],EnT e it t vs xs,L.take (hk0▸hk),a.cut hN,λb hb=>?_,⟨⟨_,hE⟩,⟨o2,J2,c,d⟩,ht,jB⟩,P8 (λq=>sH k (a.5.uniq he (q▸hit)):e≠it) (ntu hE ⟨_,rfl,by decide⟩).symm (ntu J2 ⟨_,c,by decide⟩)⟩
 refine nI hb (λe0=>?_) λhb=>?_
 ·subst e0;exact off _ _ he (eW _)
 ·obtain rfl:=aU.mp hb;exact off _ _ hit (aZ _)
end
end
section
open PySem.SeqAt
section
variable {prog:rM} {w:World} {A:cF} {E:aJ->aM->Prop}
theorem aF8{it t:cI}{items:List aJ}(tN:t≠it)(n:Nat):∀(i:Nat) (s:aM) (Q:List aJ->aM->Prop),s.heap.IsListIter it t i->s.heap.IsList t (bG items)->i+n≤items.length->
  (∀h',h'.IsListIter it t (i+n)->eY it s.heap h'->Q ((items.drop i).take n) { s with heap:=h' })->bZ (c0 prog w) A (draw (.ref it) n) Q E s:=by
 induction n with
 | zero=>exactλi s Q hit _ _ hQ=>aI (hQ s.heap hit (Heap.SameBut.refl ..))
 | succ n ih=>
  intro i s Q hit ht hle hQ
  have TH:i < items.length:=bR (Nat.lt_add_of_pos_right (j2 n)) hle
  show bZ _ _ (uW (.ref it) >>=_) Q E s
  refine aC (wpAny_pyNext_list_item hit ht (x:=items[i]) ((cY ..).trans (aY TH)) λh₁ aBO hs₁=>?_)
  refine aC (dN (ih (i+1) _ _ aBO (ht.extBut hs₁.extBut tN) (aB (cC (qL i n)) hle) λh₂ aKX hs₂=>aI ?_))
  have:=hQ h₂ (qL i n▸aKX) (hs₁.trans hs₂)
  rw[List.drop_eq_getElem_cons TH,List.take_succ_cons] at this
  exact this
theorem VH{s:aM}{t:cI}{items:List aJ}{targets:List (Bool×(aJ->Sem Unit))}{Q:Unit->aM->Prop}(hh:A.handled=none)(ht:s.heap.IsList t (bG items))(hn:targets.length=items.length)(aF9:targets.findIdx? (·.1)=none)
  (h:∀h',q8 s.heap.objs.size s.heap h'->bZ (c0 prog w) A (o9 (targets.map (·.2)) items) Q E { s with heap:=h' }):bZ (c0 prog w) A (unpack (.ref t) targets) Q E s:=by
 have TH:t≠s.heap.objs.size:=by refine bS ht λo ho _=>?_;exact k8 (c6 ho)
 unfold unpack
 rw[hn,aF9]
 refine aC (dN ?_)
 unfold unpackItems
 refine aC ?_
 unfold notIterableAtAll
 refine aC (jE ht.typeIs slot_list_iter.lookup ?_)
 refine aI ?_
 simp only [gE,if_false]
 refine aC (dN (wpAny_pyIter_list ht ?_))
 refine aC (dN (aF8 TH items.length 0 _ _ ⟨_,bV _ rfl,rfl,rfl⟩ (ht.push _) (cC (cZ _)) λh₁ aBO hs₁=>?_))
 rw[List.drop_zero,rP,if_neg (fN _)]
 have ht₁:h₁.IsList t (bG items):=(ht.push _).extBut hs₁.extBut TH
 refine aC (dN (wpAny_pyNext_list_end hh aBO ht₁ (rQ (by rw[aX,cZ];exact aZ _)) λh₂ he₂=>?_))
 simp only [Option.isSome_none,gE,if_false]
 exact aI (h h₂ λb o hb e=>he₂ b o hb (hs₁.extBut b o hb (cP _ e)))
end
section
variable {C:Ctx} {st:aK} {X:XQ}
theorem As.lst{elts:List dO}{k l:Nat}{pos:Pos}{xs:List aA}{Q:aK->Prop}(hh:C.hd=none)(e:st.H[l]? =some (.lst xs))(hp:HR elts xs.length)(h:AI C elts xs st Q X):As C (.Tuple elts k pos) (.aO l) st Q X:=λ{A g ρ s v} a hv=>by
 cases a.x5 e hv with
 | mk x vs n hx hl jB=>
  show bZ _ _ (DY (.Tuple elts k pos) C.env (.ref x)) _ _ _
  rw[arm_assign_Tuple]
  refine aC (d8 (VH (a.2.3.trans hh) hl.isList (by rw[hp.2,jB.length]) (hp.1 _) λh' e=>?_))
  have k:=xR e
  exact lift (.ke k) (h (a.junk (tk:=s.toks) k) (jB.bot.mono (.ke k)))
theorem Tr.P9{l r1 r2:dO}{op1 op2:CmpOp}{pos:Pos}{Q:Bool->aK->Prop}(hm:lastMarks [op1,op2] [r1,r2]=false)
  (h:Ev C l st (λx st1=>Ev C r1 st1 (λy bW=>d3 C V (d7 op1) x y bW (λc fL=>∃b,c= .bool b∧(b=true->Ev C r2 fL (λz j6=>d3 C V (d7 op2) y z j6 (λc H9=>∃b,c= .bool b∧Q b H9) X) X)∧(b=false->Q false fL)) X) X) X):Tr C (.Compare l [op1,op2] [r1,r2] pos) st Q X:=λa=>
 isTrue_chain (on (h a) .refl λY l1 h1 a1 q1=>test_link (on (q1 a1) l1 λl2 l3 h2 a2 q2=>on (q2 a2 (h1.mono l2) h2) l3 λl4 l5 h3 a3 q3=>by
  refine wF q3 λb dF qt qf=>?_;subst dF
  obtain rfl:=(h3:_=_)
  refine s9 ?_
  cases b with
  | false=>exact .mk l5 rfl a3 (qf rfl)
  | true=>exact test_last (on (qt rfl a3) l5 λl6 l7 h4 a4 q4=>on (q4 a4 (h2.mono (l4.trans l6)) h4) l7 λY l8 h5 a5 q5=>by
    refine bS q5 λb dF q=>?_;subst dF
    obtain rfl:=(h5:_=_)
    exact s9 (.mk l8 rfl a5 q)))) hm
end
end
section
variable {C:Ctx} {st:aK} {X:XQ} {T:Nat}
def PT{α β:Type}(C:Ctx)(A:cF)(g:c9)(ρ:Roo)(h:c9)(R:Roo->c9->β->α->Prop)(Q:β->Nat->aK->Prop)(x:α)(s':aM):Prop:=∃T,T≤s'.toks∧pX C A g ρ h R (λb st=>Q b T st) x s'
def KJ{α β:Type}(C:Ctx)(R:Roo->c9->β->α->Prop)(t:Sem α)(T:Nat)(st:aK)(Q:β->Nat->aK->Prop)(X:XQ):Prop:=
 ∀{A:cF} {g:c9} {ρ:Roo} {s:aM},At C A g ρ st s->T≤s.toks->bZ (c0 C.D.prog C.D.w) A t (PT C A g ρ s.heap R Q) (fX C A g ρ s.heap X) s
noncomputable abbrev vA(C:Ctx)(e:dO):=KJ C V (qI e C.env)
noncomputable abbrev uR(C:Ctx)(e:v8):=KJ C F (exec e C.env)
noncomputable abbrev fG(C:Ctx)(e:List v8):=KJ C F (execs e C.env)
noncomputable abbrev yI(C:Ctx)(es:List dO)(pos:Pos):=KJ C Vs (spliced (n7 pos (fH es C.env)))
section
variable {α β:Type} {A:cF} {g:c9} {ρ ρ0:Roo} {s:aM} {h0:c9} {R:Roo->c9->β->α->Prop} {t:Sem α} {Q:β->Nat->aK->Prop} {Z:α->aM->Prop}
theorem Wp.fl(h:Wp C R t st (λb fR=>Q b T fR) X):KJ C R t T st Q X:=λa k=>pW k (bM (h a) (λx s' p kk=>⟨T,kk,p⟩) λ_ _ x _=>x)
theorem OH(w:bZ (c0 C.D.prog C.D.w) A t (PT C A g ρ s.heap R Q) (fX C A g ρ s.heap X) s)(l0:Le ρ0 h0 ρ s.heap)
  (k:∀{x s1 b st1 ρ1 T},Le ρ s.heap ρ1 s1.heap->Le ρ0 h0 ρ1 s1.heap->R ρ1 s1.heap b x->At C A g ρ1 st1 s1->T≤s1.toks->Q b T st1->Z x s1):bZ (c0 C.D.prog C.D.w) A t Z (fX C A g ρ0 h0 X) s:=
 bM w (λx s1 p=>by refine bS p λT kT p=>?_;cases p with | mk le r at' q=>exact k le (l0.trans le) r at' kT q) λY Y x=>x.pre l0
theorem TI{Q:β->aK->Prop}(w:bZ (c0 C.D.prog C.D.w) A t (pX C A g ρ s.heap R Q) (fX C A g ρ s.heap X) s)(kT:T≤s.toks)(l0:Le ρ0 h0 ρ s.heap)
  (k:∀{x s1 b st1 ρ1},Le ρ s.heap ρ1 s1.heap->Le ρ0 h0 ρ1 s1.heap->R ρ1 s1.heap b x->At C A g ρ1 st1 s1->T≤s1.toks->Q b st1->Z x s1):bZ (c0 C.D.prog C.D.w) A t Z (fX C A g ρ0 h0 X) s:=
 pW kT (bM w (λx s1 p kk=>by cases p with | mk le r at' q=>exact k le (l0.trans le) r at' kk q) λY Y x _=>x.pre l0)
theorem liftT(l:Le ρ0 h0 ρ s.heap)(w:bZ (c0 C.D.prog C.D.w) A t (PT C A g ρ s.heap R Q) (fX C A g ρ s.heap X) s):bZ (c0 C.D.prog C.D.w) A t (PT C A g ρ0 h0 R Q) (fX C A g ρ0 h0 X) s:=
 OH w l λ_ l1 r a k q=>⟨_,k,.mk l1 r a q⟩
theorem KJ.mono(w:KJ C R t T st Q X){Q':β->Nat->aK->Prop}(k:∀b T st,Q b T st->Q' b T st):KJ C R t T st Q' X:=λa kT=>
 OH (w a kT) .refl λ_ l1 r a k' q=>⟨_,k',.mk l1 r a (k _ _ _ q)⟩
end
def aKY(k:Nat->aK->Prop)(Q:bU->Nat->aK->Prop):bU->Nat->aK->Prop
 | .next,T,st=>k T st
 | fl,T,st=>Q fl T st
theorem fG.nil{Q:bU->Nat->aK->Prop}(q:Q .next T st):fG C [] T st Q X:=Wp.fl (j5.nil q)
theorem fG.cons{x:v8}{rest:List v8}{Q:bU->Nat->aK->Prop}(h:uR C x T st (aKY (λT1 st1=>fG C rest T1 st1 Q X) Q) X):fG C (x::rest) T st Q X:=λa k=>
 wpAny_execs_cons (OH (h a k) .refl λ{x _ b _ _ T1} _ l1 r1 a1 k1 q1=>by
  cases b with
  | next=>obtain rfl:=(r1:x=_);exact liftT l1 ((q1:fG C rest T1 _ Q X) a1 k1)
  | brk=>obtain rfl:=(r1:x=_);exact⟨T1,k1,.mk (b:=.brk) l1 rfl a1 q1⟩
  | cont=>obtain rfl:=(r1:x=_);exact⟨T1,k1,.mk (b:=.cont) l1 rfl a1 q1⟩
  | ret v=>refine bS r1 λw dF hw=>?_;subst dF;exact⟨T1,k1,.mk (b:=.ret v) l1 ⟨w,rfl,hw⟩ a1 q1⟩)
theorem vA.str{x:List Nat}{k:Nat}{pos:Pos}{Q:aA->Nat->aK->Prop}(q:∀T1,T < T1->Q (.old x T T1) T1 st):vA C (.Constant (.str (c8 x)) k pos) T st Q X:=λ{A g ρ s} a kT=>
 Constant_str ⟨s.toks+1,aZ _,.mk (b:=.old x T (s.toks+1)) .refl ⟨s.toks,rfl,kT,fU _⟩ a.toks (q _ (jA kT))⟩
theorem yI.nil{pos:Pos}{Q:List aA->Nat->aK->Prop}(q:Q [] T st):yI C [] pos T st Q X:=Wp.fl (Ar.nil q)
theorem yI.cons{e:dO}{es:List dO}{pos:Pos}{Q:List aA->Nat->aK->Prop}(he:fH (e::es) C.env=(false,qI e C.env)::fH es C.env)(h:vA C e T st (λb T1 st1=>yI C es pos T1 st1 (λbs=>Q (b::bs)) X) X):yI C (e::es) pos T st Q X:=λa k=>
 args_cons (OH (h a k) .refl λY l1 r1 a1 k1 q1=>OH (q1 a1 k1) l1 λl2 l3 r2 a2 k2 q2=>⟨_,k2,.mk l3 (.cons (r1.mono l2) r2) a2 q2⟩) he
theorem vA.tup{es:List dO}{k:Nat}{pos:Pos}{Q:aA->Nat->aK->Prop}(h:yI C es pos T st (λas T1 st1=>as.length≤1000000∧Q (.tup as) T1 st1) X):vA C (.Tuple es k pos) T st Q X:=λa k=>
 wpAny_Tuple (OH (h a k) .refl λ{vs s1 _ _ _ T1} _ l1 r1 a1 k1 q1=>⟨aB (by exact r1.length▸q1.1) (by decide),
  T1,k1,.mk (b:=.tup _) (l1.trans (.ke (Ke.push _))) ⟨_,vs,rfl,⟨_,bV _ rfl,rfl,_,rfl⟩,r1.mono (.ke (Ke.push _))⟩ (a1.junk (tk:=s1.toks) (Ke.push _)) q1.2⟩)
theorem vA.dS{o:dO}{name:Str}{apos:Pos}{es:List dO}{pos:Pos}{pl:Sem Bool}{Q:aA->Nat->aK->Prop}(hp:Plain es [] [])
  (he:qI (.Call (.Attribute o name apos) es [] pos) C.env=(do
   let ov←qI o C.env
   lO apos.atName
   let(f',first)←uK [ov] (DZ ov name pl)
   xL pos f' first (n7 pos (fH es C.env)) (g6 pos (dX [] C.env))))
  (h:Ev C o st (λb st1=>Gm C name b st1 (λfx bW=>yI C es pos T bW (λas T3 fL=>fM C fx.1 (fx.2++as) [] [] fL (λr st=>Q r T3 st) X) X) X) X):vA C (.Call (.Attribute o name apos) es [] pos) T st Q X:=λa k=>by
 show bZ _ _ (qI _ _) _ _ _
 exact he▸aC (TI (h a) k .refl λY l1 r1 a1 k1 q1=>aC (d8 (aC (dN (TI (q1 pl a1 r1) k1 l1 λ{y _ _ _ _} _ l2 r2 a2 k2 q2=>
  kH (hp.1 _ _) (hp.2 _ _) (CK hp (OH (q2 a2 k2) l2 λ{_ _ _ _ _ T3} l3 l4 r3 a3 k3 q3=>tC ((q3 a3 (r2.1.mono l3) (Vs.append' (r2.2.mono l3) r3) Vs.nil).imp id λw=>TI w k3 l4 λ_ l5 r5 a5 k5 q5=>⟨_,k5,.mk l5 r5 a5 q5⟩))))))))
theorem vA.slice{value:dO}{lo hi sx:Option dO}{sp pos:Pos}{Q:aA->Nat->aK->Prop}
  (h:Ev C value st (λb st1=>Eo C lo st1 (λl bW=>Eo C hi bW (λu fL=>Eo C sx fL (λk j6=>∃x l' u' k',b= .str x∧l.part=some l'∧u.part=some u'∧k.part=some k'∧k'≠some 0∧k'.getD 1≠1∧x.length≤1000000∧∀T1,Q (.old (iX x l' u' k') T T1) T j6) X) X) X) X):
  vA C (.Subscript value (.Slice lo hi sx sp) pos) T st Q X:=λa kT=>by
 refine Subscript_ (TI (h a) kT .refl λ{v s1 b _ _} _ l1 r1 a1 k1 q1=>wpAny_Slice (TI (q1 a1) k1 l1 λ{vl s2 _ _ _} l2 l12 r2 a2 k2 q2=>TI (q2 a2) k2 l12 λ{vu s3 _ _ _} l3 l13 r3 a3 k3 q3=>TI (q3 a3) k3 l13 λ{vk s4 _ _ _} l4 l14 r4 a4 k4 q4=>?_))
 obtain⟨x,l',u',k',rfl,pl,pu,pk,h0,h1,hz,q⟩:=q4
 have pl:=aA.qV pl (r2.mono (l3.trans l4))
 have pu:=aA.qV pu (r3.mono l4)
 have pk:=aA.qV pk r4
 have hv:=r1.mono ((l2.trans l3).trans l4)
 have K5:=Ke.push (h:=s4.heap) { cls:=.type "slice",data:=.fields #[vl,vu,vk] }
 have a5:=a4.junk (tk:=s4.toks) K5
 have L5:=l14.trans (.ke K5)
 refine cD (nS (lo:=lo) (hi:=hi) (st:=sx) (p:=sp) (o:=v) (i:=.ref s4.heap.objs.size)) λops ho=>?_
 refine cD hv λt dF=>?_;subst dF
 refine w8 (kR _ _ _) F.slot_str_getitem.lookup (pW (n:=T) k4 (BN pl pu pk h0 hz (bV _ rfl) λt' tk e kk=>?_)) ho
 exact⟨T,kk,.mk (b:=.old _ T (s4.toks+1)) L5 ⟨t',rfl,(e h1).symm▸k4,(e h1).symm▸fU _⟩ a5.toks (q _)⟩
end
section
variable {C:Ctx} {st:aK} {X:XQ} {T:Nat}
def k6(D:WD)(n:Nat)(hd:Option aJ->Prop)(fa:cI)(as:List aA)(H:List Pc)(T:Nat)(Q:aA->Nat->List Pc->Prop):Prop:=
 ∀{A:cF} {g:c9} {ρ:Roo} {s:aM} {vs:List aJ},Wd D n A g ρ H s->hd A.handled->Vs ρ s.heap as vs->T≤s.toks->pR (c0 D.prog D.w) A (.call (.ref fa) ⟨vs,[]⟩) (CR (λv s'=>∃T',T'≤s'.toks∧pZ D g ρ s.heap V (λr H=>Q r T' H) v s')) s
theorem k6.weak{D:WD}{n:Nat}{hd:Option aJ->Prop}{fa:cI}{as:List aA}{H:List Pc}{Q:aA->List Pc->Prop}(c:k6 D n hd fa as H 0 (λr _ H'=>Q r H')):fS D n hd fa as [] [] H Q:=λ{A g ρ s vs ws} w hh hv hw=>by
 obtain rfl:=(hw:ws= [])
 exact iV (c w hh hv (cO _)) λr s'=>CR.mono λv s' p=>p.elim λ_ z=>z.2
theorem k6.fn{D:WD}{n:Nat}{H:List Pc}{fa:cI}{fd:cN}{names:fF}{body:List v8}{as:List aA}{hd:Option aJ->Prop}{Q:aA->Nat->List Pc->Prop}(F:Fn D fa fd names body)
  (hb:Bind D n names fd as [] [] H (λoC H1=>∃m0,Init D names oC m0∧∀C',Inn D n names fd C'->hd C'.hd->fG C' body T ⟨m0,H1⟩ (λfl T' bW=>Q (kD fl) T' bW.H) eE)):k6 D (n+1) hd fa as H T Q:=λ{A g ρ s _} w hh hv kT=>by
 refine xU F w (hb w.in1 hv (Vs.nil:Vs ρ s.heap [] [])) λ{oC H1 ρ1 s1 bs h2 tk} L1 EM o1 q N kk=>?_
 refine bS q λm0 hm hB=>?_
 refine cD w.3 λfs UA=>?_
 refine bM (hB _ ⟨rfl,rfl,rfl,rfl,rfl,rfl⟩ hh (enter (kk:=[]) o1 w.4 (λO q=>nomatch q) F EM hm N (tk:=tk) (iE UA) (room_in w)) (aB kT kk)) (λx s3 p=>?_) λv s3 p=>p.no
 refine bS p λT' kT' p=>?_
 obtain⟨le,r,a3,q⟩:=p
 exact⟨T',kT',.mk (L1.trans ((Le.ke N.1).trans le)) (EN r) ⟨a3.5.1,λx hx=>a3.5.2 x (aR _ hx),(bC.mp a3.5.3).2.1,a3.5.4,a3.5.5,a3.5.6,a3.5.7,a3.5.8⟩ q⟩
theorem k6.frame{D:WD}{n:Nat}{H:List Pc}{σ:List Nat}{hd:Option aJ->Prop}{fa:cI}{as:List aA}{Q Q0:aA->Nat->List Pc->Prop}(i:HY σ H as []=true)(c:k6 D n hd fa (wL (λl=>idx l σ) as) (pick H (λl=>idx l σ) σ) T Q0)
  (hq:∀r T' H1,Q0 r T' H1->∃τ,BJ σ τ H1 r=true∧Q (r.map (pM σ τ H.length)) T' (CQ H σ (pick H1 (pM σ τ H.length) (cE σ.length))++pick H1 (pM σ τ H.length) τ)):k6 D n hd fa as H T Q:=λ{A g ρ s vs} w hh hv kT=>by
 unfold HY at i
 have i5:=aQ i;have i:=aP i;have i4:=aQ i;have i:=aP i;have i3:=aQ i;have i:=aP i
 refine d5 (w.5.sub (aP i) (aQ i) i3) λR o=>?_
 refine iV (c ⟨w.1,w.2,w.3,w.4.keeps (w.5.kb (aP i)),o⟩ hh (hv.map R i4) kT) λr s1=>CR.mono λx s1 p=>?_
 refine bS p λT' kT' p=>?_
 obtain⟨le,r,o1,q⟩:=p
 refine bS (hq _ _ _ q) λτ h1 h2=>?_
 refine d5 (w.5.put (aP i) le o1 h1) λR1 o2=>?_
 refine⟨T',kT',.mk (.app le.2) (r.map R1 ?_) o2 h2⟩
 exact aQ (aP h1)
def aGA(C:Ctx)(fa:aA)(as:List aA)(T:Nat)(st:aK)(Q:aA->Nat->aK->Prop)(X:XQ):Prop:=
 ∀{A:cF} {g:c9} {ρ:Roo} {s:aM} {fv:aJ} {vs:List aJ},At C A g ρ st s->V ρ s.heap fa fv->Vs ρ s.heap as vs->T≤s.toks->OD (c0 C.D.prog C.D.w) s.heap fv∧bZ (c0 C.D.prog C.D.w) A (call fv vs []) (PT C A g ρ s.heap V Q) (fX C A g ρ s.heap X) s
theorem k6.cal{fd:cN}{names:fF}{body:List v8}{hd:Option aJ->Prop}{fa:cI}{as:List aA}{Q:aA->Nat->aK->Prop}(F:Fn C.D fa fd names body)(c:k6 C.D C.n hd fa as st.H T (λr T' H'=>Q r T' ⟨st.m,H'⟩))(hh:hd C.hd):aGA C (.ref fa) as T st Q X:=λ{A g ρ s _ _} a hf hv kT=>by
 obtain rfl:=(hf:_=_)
 refine⟨F.kpr (a.3.1.keeps a.5.1),tD (iV (c a.wd0 (a.2.3.symm▸hh) hv kT) λr s' q=>?_)⟩
 cases r with
 | error e=>exact q.elim
 | ok f=>cases f with
  | ret v=>
   refine bS q λT' kT' p=>?_
   obtain⟨le,r,o,q⟩:=p
   exact⟨T',kT',.mk le r (a.of0 le o) q⟩
  | _=>exact q.elim
theorem vA.call{fe:dO}{es:List dO}{pos:Pos}{Q:aA->Nat->aK->Prop}(hp:Plain es [] [])
  (he:qI (.Call fe es [] pos) C.env=(do xL pos (←qI fe C.env) [] (n7 pos (fH es C.env)) (g6 pos (dX [] C.env))))
  (h:Ev C fe st (λfa st1=>yI C es pos T st1 (λas T2 bW=>aGA C fa as T2 bW Q X) X) X):vA C (.Call fe es [] pos) T st Q X:=λa k=>by
 show bZ _ _ (qI _ _) _ _ _
 exact he▸aC (TI (h a) k .refl λY l1 r1 a1 k1 q1=>kH (hp.1 _ _) (hp.2 _ _) (CK hp (OH (q1 a1 k1) l1 λl2 l3 r2 a2 k2 q2=>tC ((q2 a2 (r1.mono l2) r2 k2).imp id λw=>liftT l3 w))))
theorem uR.assign{x:Str}{pos':Pos}{value:dO}{pos:Pos}{Q:bU->Nat->aK->Prop}(hs:f9 value (some (.Name x pos')) pos.line C.env=pure false)(h:vA C value T st (λb T1 st1=>As C (.Name x pos') b st1 (Q .next T1) X) X):uR C (.Assign [.Name x pos'] value pos) T st Q X:=λa k=>by
 show bZ _ _ (exec _ _) _ _ _
 exact exec_Assign_Name C.env x pos' value pos hs▸aC (d8 (aC (OH (h a k) .refl λ{v _ _ _ _ T1} _ l1 r1 a1 k1 q1=>aC (m:=mU (.Name x pos') C.env v) (TI (q1 a1 r1) k1 l1 λY l2 r2 a2 k2 q2=>aI ⟨T1,k2,.mk (b:=.next) l2 rfl a2 q2⟩))))
theorem uR.ret{e:dO}{pos:Pos}{Q:bU->Nat->aK->Prop}(h:vA C e T st (λb T1 st1=>Q (.ret b) T1 st1) X):uR C (.Return (some e) pos) T st Q X:=λa k=>
 wpAny_Return_some (OH (h a k) .refl λ{x _ b _ _ T1} _ l1 r1 a1 k1 q1=>⟨T1,k1,.mk (b:=.ret b) l1 ⟨x,rfl,r1⟩ a1 q1⟩)
def KK(again:aK->Prop)(Q:bU->aK->Prop):bU->Nat->aK->Prop:=λfl _ st=>rS again Q fl st
theorem uR.IT{target iter:dO}{body:List v8}{pos:Pos}{Q:bU->Nat->aK->Prop}(hh:C.hd=none)(hs:∀x,dQ iter C.env x=pure x)
  (h:vA C iter T st (λa T1 st1=>∃xs need bW J,O8 C target st.H.length a xs need J st1 bW∧
   (∀j x st,xs[j]? =some x->J j st->As C target x st (λfL=>fG C body T1 fL (KK (λj6=>∃w,wM w bW.H.length j6.H=true∧J (j+1) (pE w bW.H.length j6)) (λfl=>Q fl T1)) eE) eE)∧∀st,J xs.length st->Q .next T1 st) X):uR C (.For target iter body [] pos) T st Q X:=λ{A g ρ s} a kT=>by
 refine wpAny_For (OH (h a kT) .refl λ{v s1 b st1 ρ1 T1} l0 l1 r1 a1 k1 q1=>pW k1 ?_) hs
 refine aJ6 q1 λxs need bW J LA PV H8=>?_
 refine bM (pW k1 (bM (LA.1 a1 l1 a.5.4 r1) (λ_ _ p kk=>G0 kk p) λ_ _ e _=>e)) (λit s2 p _=>?_) λY Y e=>e.elim
 obtain⟨k2,ρ2,fi,K,OF,a2,BK,hK,IO⟩:=p
 refine lD (λm s'=>T1≤s'.toks∧∃j,j+m=xs.length∧xX C A g ρ2 s2.heap fi K J j s') (λm s' hI=>?_) xs.length ⟨k2,0,cZ _,ρ2,bW,.refl,a2,LA.2,hK,λb hb=>(BK b hb).1⟩
 obtain⟨k3,j,hj,I⟩:=hI
 have Z:bZ (c0 C.D.prog C.D.w) A (uW it) (λr s1=>match r with
   | none=>T1≤s1.toks->PT C A g ρ s.heap F Q .next s1
   | some v=>bZ (c0 C.D.prog C.D.w) A (eF target it v) (λ_ s6=>T1≤s6.toks->bZ (c0 C.D.prog C.D.w) A (mU target C.env v) (λ_ s7=>bZ (c0 C.D.prog C.D.w) A (execs body C.env) (λf s3=>match f with
     | .next | .cont=>∃m',m' < m∧(T1≤s3.toks∧∃j,j+m'=xs.length∧xX C A g ρ2 s2.heap fi K J j s3)
     | .brk=>PT C A g ρ s.heap F Q .next s3
     | .ret v=>PT C A g ρ s.heap F Q (.ret v) s3) rD s7) rD s6) rD s1) rD s':=by
  refine J5 (k:=bW.H.length) (Zn:=λs1=>T1≤s1.toks->PT C A g ρ s.heap F Q .next s1) IO hh (cC a2.5.4) (λb hb=>(BK b hb).2) (LA.3 j) I (λhx {ρ st s3} L a3 hJ kk=>?_) λ{x v ρ st s3} hx T hv hJ kk=>?_
  ·have:j=xs.length:=Nat.le_antisymm (hj▸aW _ _) (dC.mp hx)
   exact⟨T1,kk,.mk (b:=.next) (OF.trans L) rfl a3 (H8 st (this▸hJ))⟩
  ·have dec:=turns hj (aF.mp hx).1
   refine pW kk (YN (PV j x st hx hJ T.2 hv) .refl λ{_ s4 _ j6 ρ4} l4 _ _ a4 q4 k4=>?_)
   refine pW k4 (bM (q4 a4 k4) (λfv s5 p k5=>?_) λ_ _ x _=>x.no)
   refine bS p λ_ _ p=>?_
   obtain @⟨fl,H9,ρ5,le5,r5,a5,q5⟩:=p
   have L5:=(OF.trans T.1).trans (l4.trans le5)
   have again:(∃w,wM w bW.H.length H9.H=true∧J (j+1) (pE w bW.H.length H9))->∃m',m' < m∧(T1≤s5.toks∧∃j,j+m'=xs.length∧xX C A g ρ2 s2.heap fi K J j s5):=λq=>q.elim λw q=>dec.elim λm' z=>⟨m',z.1,k5,j+1,z.2,T.4 w (l4.trans le5) a5 q.1 q.2⟩
   cases fl with
   | next=>obtain rfl:=(r5:fv=_);exact again q5
   | cont=>obtain rfl:=(r5:fv=_);exact again q5
   | brk=>obtain rfl:=(r5:fv=_);exact⟨T1,k5,.mk (b:=.next) L5 rfl (T.3 a5) q5⟩
   | ret b=>refine bS r5 λw dF hw=>?_;subst dF;exact⟨T1,k5,.mk (b:=.ret b) L5 ⟨w,rfl,hw⟩ (T.3 a5) q5⟩
 refine pW k3 (bM Z (λr s1 p kk=>?_) λ_ _ e _=>e)
 cases r with
 | none=>exact p kk
 | some v=>exact pW kk (bM p (λ_ _ z=>z) λ_ _ e=>e.elim)
theorem KJ.wk{α β:Type}{R:Roo->c9->β->α->Prop}{t:Sem α}{Q:β->aK->Prop}(h:KJ C R t 0 st (λb _ st=>Q b st) X):Wp C R t st Q X:=λa=>bM (h a (cO _)) (λ_ _ p=>p.elim λ_ z=>z.2) λ_ _ x=>x
theorem As.fl{target:dO}{x:aA}{body:List v8}{K K':aK->Prop}{Q:bU->aK->Prop}(h:As C target x st (λfL=>j5 C body fL (rS K Q) eE) eE)(k:∀st,K st->K' st):As C target x st (λfL=>fG C body T fL (KK K' Q) eE) eE:=λa hv=>
 on (h a hv) .refl λ_ l r a q=>.mk l r a (Wp.fl (Wp.mono q (λfl st h=>by cases fl with | next=>exact k st h | cont=>exact k st h | _=>exact h) λ_ _ _ _ e=>e))
theorem Ex.IT{target iter:dO}{body:List v8}{pos:Pos}{Q:bU->aK->Prop}(hh:C.hd=none)(hs:∀x,dQ iter C.env x=pure x)
  (h:Ev C iter st (λa st1=>∃xs need bW J,O8 C target st.H.length a xs need J st1 bW∧
   (∀j x st,xs[j]? =some x->J j st->As C target x st (λfL=>j5 C body fL (rS (λj6=>∃w,wM w bW.H.length j6.H=true∧J (j+1) (pE w bW.H.length j6)) Q) eE) eE)∧∀st,J xs.length st->Q .next st) X):Ex C (.For target iter body [] pos) st Q X:=
 KJ.wk (uR.IT hh hs (Wp.fl (Wp.mono h (λ_ _ z=>z.elim λxs z=>z.elim λneed z=>z.elim λbW z=>z.elim λJ z=>⟨xs,need,bW,J,z.1,λj x st e hJ=>As.fl (z.2.1 j x st e hJ) λ_ q=>q,z.2.2⟩) λ_ _ _ _ e=>e)))
theorem uw{u:Bool}{k:Nat}{P:aK->Prop}{st:aK}(h:MS u k st.H=true∧P (ET u k st)):∃w,wM w k st.H=true∧P (pE w k st):=by
 cases u with
 | false=>exact⟨none,h⟩
 | true=>exact⟨some (aAN k st.H),h⟩
theorem Ex.kA(u:Bool){target iter:dO}{body:List v8}{pos:Pos}{Q:bU->aK->Prop}(hh:C.hd=none)(hs:∀x,dQ iter C.env x=pure x)
  (h:Ev C iter st (λa st1=>∃xs need bW J,O8 C target st.H.length a xs need J st1 bW∧
   (∀j x st,xs[j]? =some x->J j st->As C target x st (λfL=>j5 C body fL (rS (λj6=>MS u bW.H.length j6.H=true∧J (j+1) (ET u bW.H.length j6)) Q) eE) eE)∧∀st,J xs.length st->Q .next st) X):Ex C (.For target iter body [] pos) st Q X:=
 KJ.wk (uR.IT hh hs (Wp.fl (Wp.mono h (λ_ _ z=>z.elim λxs z=>z.elim λneed z=>z.elim λbW z=>z.elim λJ z=>⟨xs,need,bW,J,z.1,λj x st e hJ=>As.fl (z.2.1 j x st e hJ) λ_ q=>uw q,z.2.2⟩) λ_ _ _ _ e=>e)))
noncomputable def FO(x y z:List Nat):List Nat:=(Txt.replace (c8 x) (c8 y) (c8 z)).cps.toList
theorem NK{x y z:List Nat}{B T1 T2:Nat}{Q:aA->aK->Prop}(hB:0 < B)(hT:T1≤T)(hyz:(c8 y==c8 z)=false)(hx:x.length≤1000)(hz:z.length≤1000)(q:Q (.str (FO x y z)) st):fM C (.blt "str.replace") [.str x,.old y B T1,.old z T T2] [] [] st Q X:=fM.b λ{A g ρ s _} a hv=>by
 obtain⟨_,_,rfl,⟨t,rfl⟩,_,_,rfl,⟨u,rfl,u1,u2⟩,_,_,rfl,⟨v,rfl,v1,v2⟩,e⟩:=hv
 obtain rfl:=(e:_= [])
 have lt:u < v:=bR u2 (aB hT v1)
 have u0:0 < u:=bR hB u1
 refine SC.replace (eC u0) (eC (gU u0 lt)) (k8 lt) hyz (by rw[jC,jC];exact aB (dD hx (Nat.mul_le_mul (cH hx) hz)) (by decide)) λt' k=>?_
 exact .mk (b:=.str (FO x y z)) .refl ⟨t',rfl⟩ a.toks q
end
inductive KC where
 | int (i:Int)
 | str (x:List Nat)
 | bool (b:Bool)
 | none
inductive E:Type where
 | nil
 | cons (a r:E)
 | v (i p:Nat)
 | k (c:KC) (p:Nat)
 | bin (o:mS) (a b:E) (p:Nat)
 | un (o:UnaryOp) (a:E) (p:Nat)
 | cmp (o:CmpOp) (a b:E) (p:Nat)
 | bo (o:BoolOp) (es:E) (p:Nat)
 | YZ (t a b:E) (p:Nat)
 | item (o i:E) (p:Nat)
 | iX (o lo hi st:E) (q p:Nat)
 | tup (es:E) (p:Nat)
 | lst (es:E) (p:Nat)
 | call (f es:E) (ks:List (Nat×Nat)) (wQ:E) (p:Nat)
 | dS (o:E) (j q:Nat) (es:E) (ks:List (Nat×Nat)) (wQ:E) (p:Nat)
 | attr (o:E) (j p:Nat)
 | lc (e t it ifs:E) (sc:iF) (p:Nat)
 | OG (e t it t2 G9:E) (sc:iF) (p:Nat)
 | P9 (o1 o2:CmpOp) (a b c:E) (p:Nat)
 | rY (f es:E) (j kp:Nat) (ys:List (Str×Nat)) (b:E) (sc:iF) (lp p:Nat)
 | dbg (p:Nat)
 | lam (xs:List (Str×Nat)) (b:E) (sc:iF) (p:Nat)
inductive S:Type where
 | nil
 | cons (s r:S)
 | asg (i q:Nat) (e:E) (p:Nat)
 | rG (t e:E) (p:Nat)
 | AS (o:E) (j q:Nat) (e:E) (p:Nat)
 | aug (i q:Nat) (o:mS) (e:E) (p:Nat)
 | MN (o:E) (j q:Nat) (op:mS) (e:E) (p:Nat)
 | ret (e:E) (p:Nat)
 | aAH (p:Nat)
 | ex (e:E) (p:Nat)
 | ite (t:E) (b o:S) (p:Nat)
 | kA (n:Nat) (t it:E) (b:S) (p:Nat)
 | TJ (t:E) (b:S) (p:Nat)
 | pas (p:Nat)
 | brk (p:Nat)
 | cnt (p:Nat)
 | ast (t:E) (p:Nat)
 | del (o i:E) (q p:Nat)
 | rse (i q:Nat) (e:E) (q2 p:Nat)
 | VI (b:S) (i1 q1 x1:Nat) (h1:S) (p1 p:Nat)
noncomputable abbrev dp(n:Nat):Pos:=⟨n / 20736 % 310,n / 144 % 144,n / 20736 % 310+n / 6428160,n % 144⟩
noncomputable def VJ:Str:=⟨#[]⟩
noncomputable def r7(xs:List Str)(i:Nat):Str:=xs.getD i VJ
noncomputable def anT:List Str:=(["append","pop","insert","extend","join","split","startswith","endswith","find","rfind","upper","lower","count","format","items","keys",
 "get","get_all","setdefault","add_header","push_token","get_token","_read_char","_convert_string_type","read","search","lineno","instream","whitespace","pushback","_headers","name","key","replace","index"]:List String).map gV
noncomputable def an(j:Nat):Str:=anT.getD j VJ
noncomputable def kcC:KC->Const
 | .int i=>.int i
 | .str x=>.str (c8 x)
 | .bool b=>.bool b
 | .none=>.none
noncomputable def kcA:KC->aA
 | .int i=>.int i
 | .str x=>.str x
 | .bool b=>.bool b
 | .none=>.none
noncomputable abbrev C6(sc:iF):List Str:=sc.names.map (·.1)
noncomputable abbrev xF(xs:List (Str×Nat)):Arguments:=⟨[],xs.map λx=>⟨x.1,none,dp x.2⟩,none,[],[],none,[]⟩
noncomputable def vB(l:List (Nat×Nat))(a1:List dO):List wZ:=
 List.rec (motive:=λ_=>List dO->List wZ) (λ_=>[]) (λk _ ih es=>⟨some (an k.1),es.headD (.Name VJ (dp 0)),dp k.2⟩::ih es.tail) l a1
structure DE where
 e:dO
 l:List dO
noncomputable abbrev E0:dO:=.Name VJ (dp 0)
noncomputable def eD(xs:List Str)(i:E):DE:=
 E.rec (motive:=λ_=>List Str->DE)
  (λ_=>⟨E0,[]⟩)
  (λ_ _ ha hr xs=>⟨E0,(ha xs).e::(hr xs).l⟩)
  (λi p xs=>⟨.Name (r7 xs i) (dp p),[]⟩)
  (λc p _=>⟨.Constant (kcC c) 0 (dp p),[]⟩)
  (λop _ _ p ha hb xs=>⟨.BinOp (ha xs).e op (hb xs).e (dp p),[]⟩)
  (λop _ p ha xs=>⟨.UnaryOp op (ha xs).e (dp p),[]⟩)
  (λop _ _ p ha hb xs=>⟨.Compare (ha xs).e [op] [(hb xs).e] (dp p),[]⟩)
  (λop _ p wR xs=>⟨.BoolOp op (wR xs).l (dp p),[]⟩)
  (λ_ _ _ p ht ha hb xs=>⟨.IfExp (ht xs).e (ha xs).e (hb xs).e (dp p),[]⟩)
  (λ_ _ p ho hi xs=>⟨.Subscript (ho xs).e (hi xs).e (dp p),[]⟩)
  (λ_ _ _ _ q p ho hlo hhi hst xs=>⟨.Subscript (ho xs).e (.Slice (hlo xs).l.head? (hhi xs).l.head? (hst xs).l.head? (dp q)) (dp p),[]⟩)
  (λ_ p wR xs=>⟨.Tuple (wR xs).l 0 (dp p),[]⟩)
  (λ_ p wR xs=>⟨.List (wR xs).l (dp p),[]⟩)
  (λ_ _ ks _ p hf wR IU xs=>⟨.Call (hf xs).e (wR xs).l (vB ks (IU xs).l) (dp p),[]⟩)
  (λ_ j q _ ks _ p ho wR IU xs=>⟨.Call (.Attribute (ho xs).e (an j) (dp q)) (wR xs).l (vB ks (IU xs).l) (dp p),[]⟩)
  (λ_ j p ho xs=>⟨.Attribute (ho xs).e (an j) (dp p),[]⟩)
  (λe _ _ _ sc p he ht hit aBP xs=>⟨.ListComp (he (C6 sc)).e [⟨(ht (C6 sc)).e,(hit xs).e,(aBP (C6 sc)).l,0⟩] sc (dp p),[]⟩)
  (λe _ _ _ _ sc p he ht hit ht2 aBQ xs=>⟨.ListComp (he (C6 sc)).e [⟨(ht (C6 sc)).e,(hit xs).e,[],0⟩,⟨(ht2 (C6 sc)).e,(aBQ (C6 sc)).e,[],0⟩] sc (dp p),[]⟩)
  (λo1 o2 _ _ _ p ha hb hc xs=>⟨.Compare (ha xs).e [o1,o2] [(hb xs).e,(hc xs).e] (dp p),[]⟩)
  (λ_ _ j kp ys _ sc lp p hf wR hb xs=>⟨.Call (hf xs).e (wR xs).l [⟨some (an j),.Lambda (xF ys) (hb (C6 sc)).e sc (dp lp),dp kp⟩] (dp p),[]⟩)
  (λp _=>⟨.Name ("__debug__":Str) (dp p),[]⟩)
  (λys _ sc p hb _=>⟨.Lambda (xF ys) (hb (C6 sc)).e sc (dp p),[]⟩) i xs
structure DS where
 s:v8
 b:List v8
noncomputable def dst(xs:List Str)(i:S):DS:=
 S.rec
  (⟨.Pass (dp 0),[]⟩)
  (λs _ hs hr=>⟨.Pass (dp 0),hs.s::hr.b⟩)
  (λi q e p=>⟨.Assign [.Name (r7 xs i) (dp q)] (eD xs e).e (dp p),[]⟩)
  (λt e p=>⟨.Assign [(eD xs t).e] (eD xs e).e (dp p),[]⟩)
  (λo j q e p=>⟨.Assign [.Attribute (eD xs o).e (an j) (dp q)] (eD xs e).e (dp p),[]⟩)
  (λi q op e p=>⟨.AugAssign (.Name (r7 xs i) (dp q)) op (eD xs e).e (dp p),[]⟩)
  (λo j q op e p=>⟨.AugAssign (.Attribute (eD xs o).e (an j) (dp q)) op (eD xs e).e (dp p),[]⟩)
  (λe p=>⟨.Return (some (eD xs e).e) (dp p),[]⟩)
  (λp=>⟨.Return none (dp p),[]⟩)
  (λe p=>⟨.Expr (eD xs e).e (dp p),[]⟩)
  (λt b _ p hb ho=>⟨.If (eD xs t).e hb.b ho.b (dp p),[]⟩)
  (λ_ t it b p hb=>⟨.For (eD xs t).e (eD xs it).e hb.b [] (dp p),[]⟩)
  (λt b p hb=>⟨.While (eD xs t).e hb.b [] (dp p),[]⟩)
  (λp=>⟨.Pass (dp p),[]⟩)
  (λp=>⟨.Break (dp p),[]⟩)
  (λp=>⟨.Continue (dp p),[]⟩)
  (λt p=>⟨.Assert (eD xs t).e none (dp p),[]⟩)
  (λo i q p=>⟨.Delete [.Subscript (eD xs o).e (eD xs i).e (dp q)] (dp p),[]⟩)
  (λi q e q2 p=>⟨.Raise (some (.Call (.Name (r7 xs i) (dp q)) [(eD xs e).e] [] (dp q2))) none (dp p),[]⟩)
  (λb i1 q1 x1 _ p1 p hb hh1=>⟨.Try hb.b [.ExceptHandler (some (.Name (r7 xs i1) (dp q1))) (some (r7 xs x1)) hh1.b (dp p1)] [] [] (dp p),[]⟩) i
noncomputable def E.noC:E->Bool
 | .lc .. =>false
 | .OG .. =>false
 | _=>true
noncomputable def E.FP:E->Bool
 | .attr .. =>false
 | _=>true
noncomputable def E.yJ:E->Bool
 | .call .. =>false
 | .rY .. =>false
 | _=>true
inductive Fct(i:E)(e:dO):Prop where
 | mk (bh:∀op,behindInMarks op e=false) (sb:∀o k,BC e false o k=operate [o,k] (uL o k)) (st:∀l env,fH (e::l) env=(false,qI e env)::fH l env) (fo:∀env x,dQ e env x=pure x) (ca:i.FP=true->∀es ks pos env,qI (.Call e es ks pos) env=(do xL pos (←qI e env) [] (n7 pos (fH es env)) (g6 pos (dX ks env)))) (sw:i.noC=true->∀t l env,f9 e t l env=pure false) (as:∀l env,lV (e::l) env=(false,DY e env)::lV l env) (ba:i.yJ=true->∀x env w,attributeBase e x env w=w)
theorem eV{p:Prop}(h:false=true):p:=nomatch h
theorem nG(xs:List Str)(i:E):Fct i (eD xs i).e:=by
 cases i
 case attr=>exact⟨λ_=>rfl,λ_ _=>rfl,λ_ _=>rfl,λ_ _=>rfl,eV,λ_ _ _ _=>rfl,λ_ _=>rfl,λ_ _ _ _=>rfl⟩
 case lc=>exact⟨λ_=>rfl,λ_ _=>rfl,λ_ _=>rfl,λ_ _=>rfl,λ_ _ _ _ _=>rfl,eV,λ_ _=>rfl,λ_ _ _ _=>rfl⟩
 case OG=>exact⟨λ_=>rfl,λ_ _=>rfl,λ_ _=>rfl,λ_ _=>rfl,λ_ _ _ _ _=>rfl,eV,λ_ _=>rfl,λ_ _ _ _=>rfl⟩
 case call=>exact⟨λ_=>rfl,λ_ _=>rfl,λ_ _=>rfl,λ_ _=>rfl,λ_ _ _ _ _=>rfl,λ_ _ _ _=>rfl,λ_ _=>rfl,eV⟩
 case rY=>exact⟨λ_=>rfl,λ_ _=>rfl,λ_ _=>rfl,λ_ _=>rfl,λ_ _ _ _ _=>rfl,λ_ _ _ _=>rfl,λ_ _=>rfl,eV⟩
 all_goals exact⟨λ_=>rfl,λ_ _=>rfl,λ_ _=>rfl,λ_ _=>rfl,λ_ _ _ _ _=>rfl,λ_ _ _ _=>rfl,λ_ _=>rfl,λ_ _ _ _=>rfl⟩
noncomputable def E.cnt(e:E):Nat:=E.rec (motive:=λ_=>Nat) 0 (λ_ _ _ r=>r+1) (λ_ _=>0) (λ_ _=>0) (λ_ _ _ _ _ _=>0) (λ_ _ _ _=>0) (λ_ _ _ _ _ _=>0) (λ_ _ _ _=>0) (λ_ _ _ _ _ _ _=>0) (λ_ _ _ _ _=>0) (λ_ _ _ _ _ _ _ _ _ _=>0) (λ_ _ _=>0) (λ_ _ _=>0) (λ_ _ _ _ _ _ _ _=>0) (λ_ _ _ _ _ _ _ _ _ _=>0) (λ_ _ _ _=>0) (λ_ _ _ _ _ _ _ _ _ _=>0) (λ_ _ _ _ _ _ _ _ _ _ _ _=>0) (λ_ _ _ _ _ _ _ _ _=>0) (λ_ _ _ _ _ _ _ _ _ _ _ _=>0) (λ_=>0) (λ_ _ _ _ _=>0) e
structure lZ where
 as:List aA
 H:List Pc
 r:aA
 H':List Pc
 kn:List Str:=[]
 ks:List aA:=[]
inductive OJ where
 | s
 | y
 | n
 | nat (k:Nat)
 | item (j:Nat) (b:aA)
 | pop (j:Nat) (b:aA)
 | strs (l:List (List Nat))
 | ints (l:List Int)
 | perm (l r:List (List Nat))
 | lG (z:lZ)
 | cmp (a:aA) (st:aK)
noncomputable def OJ.isS(w:OJ):Bool:=match w with | .s=>true | _=>false
inductive R(σ α:Type) where
 | no
 | ok (a:α) (s:σ)
 | ob (p:Prop) (r:R σ α)
 | br (c:Bool) (x y:R σ α)
 | ask (k:OJ->R σ α)
 | ex (f:Bool) (cls:String) (msg:aA) (s:σ)
section
variable {σ α β:Type}
noncomputable def R.bind(r:R σ α)(k:α->σ->R σ β):R σ β:=
 R.rec .no (λa s=>k a s) (λp Y r=>.ob p r) (λc Y Y x y=>.br c x y) (λY g=>.ask g) (λf cls msg s=>.ex f cls msg s) r
def R.post(Q:α->σ->Prop)(X:Bool->String->aA->σ->Prop)(r:R σ α):Prop:=
 R.rec False (λa s=>Q a s) (λp Y r=>p∧r) (λc Y Y x y=>(c=true->x)∧(c=false->y)) (λY g=>∃w,g w) (λf cls msg s=>X f cls msg s) r
variable {Q Q':α->σ->Prop} {X X':Bool->String->aA->σ->Prop}
theorem R.aL{k:α->σ->R σ β}{P:β->σ->Prop}{r:R σ α}:(r.bind k).post P X->r.post (λa s=>(k a s).post P X) X:=by
 induction r with
 | no=>exact id
 | ok a s=>exact id
 | ob p r ih=>exact nR id ih
 | br c x y i1 i2=>exact nR (λh c=>i1 (h c)) (λh c=>i2 (h c))
 | ask k ih=>exactλh=>h.elim λw h=>⟨w,ih w h⟩
 | ex=>exact id
theorem R.lE{k:α->σ->R σ β}{P:β->σ->Prop}{r:R σ α}:r.post (λa s=>(k a s).post P X) X->(r.bind k).post P X:=by
 induction r with
 | no=>exact id
 | ok a s=>exact id
 | ob p r ih=>exact nR id ih
 | br c x y i1 i2=>exact nR (λh c=>i1 (h c)) (λh c=>i2 (h c))
 | ask k ih=>exactλh=>h.elim λw h=>⟨w,ih w h⟩
 | ex=>exact id
theorem R.post.mono{r:R σ α}(h:r.post Q X)(hq:∀a s,Q a s->Q' a s)(hx:∀f c m s,X f c m s->X' f c m s):r.post Q' X':=by
 induction r with
 | no=>exact h
 | ok a s=>exact hq _ _ h
 | ob p r ih=>exact⟨h.1,ih h.2⟩
 | br c x y i1 i2=>exact⟨λc=>i1 (h.1 c),λc=>i2 (h.2 c)⟩
 | ask k ih=>exact h.elim λw h=>⟨w,ih w h⟩
 | ex=>exact hx _ _ _ _ h
inductive Oc(σ α:Type) where
 | ok (a:α) (s:σ)
 | ex (f:Bool) (cls:String) (msg:aA) (s:σ)
noncomputable def Oc.ctorIdx(o:Oc σ α):Nat:=Oc.rec (λ_ _=>0) (λ_ _ _ _=>1) o
def Oc.post(Q:α->σ->Prop)(X:Bool->String->aA->σ->Prop)(o:Oc σ α):Prop:=Oc.rec (λa s=>Q a s) (λf c m s=>X f c m s) o
def R.good(r:R σ α)(o:Oc σ α):Prop:=r.post (λa s=>o= .ok a s) (λf c m s=>o= .ex f c m s)
theorem R.good.post{r:R σ α}{o:Oc σ α}(h:r.good o)(q:o.post Q X):r.post Q X:=R.post.mono h (λa s e=>by subst e;exact q) (λf c m s e=>by subst e;exact q)
noncomputable def pob(p:Prop):Option (Prop×Oc σ α)->Option (Prop×Oc σ α)
 | none=>none
 | some x=>some (p∧x.1,x.2)
noncomputable def brx(c:Bool)(x y:List OJ->Option (Prop×Oc σ α)):List OJ->Option (Prop×Oc σ α)
 | []=>cond c (x []) (y [])
 | w::ws=>match w with
  | .y=>pob (c=true) (x ws)
  | .n=>pob (c=false) (y ws)
  | .s=>cond c (x ws) (y ws)
  | _=>none
noncomputable def aKZ(k:OJ->List OJ->Option (Prop×Oc σ α)):List OJ->Option (Prop×Oc σ α)
 | []=>k .s []
 | w::ws=>k w ws
noncomputable def R.fl(r:R σ α):List OJ->Option (Prop×Oc σ α):=
 R.rec (λY=>none) (λa s Y=>some (True,.ok a s)) (λp Y r ws=>pob p (r ws)) (λc Y Y x y=>brx c x y) (λY g=>aKZ g) (λf c m s Y=>some (True,.ex f c m s)) r
theorem aBR{p:Prop}{x:Option (Prop×Oc σ α)}{P:Prop}{o:Oc σ α}(e:pob p x=some (P,o))(h:P){G:Prop}(k:p->∀P',x=some (P',o)->P'->G):G:=by
 cases x with
 | none=>exact fA e
 | some x=>cases e;exact k h.1 _ rfl h.2
theorem R.leaf{r:R σ α}{P:Prop}{o:Oc σ α}(ws:List OJ)(h:P)(e:r.fl ws=some (P,o)):r.good o:=by
 induction r generalizing ws P with
 | no=>exact fA e
 | ok a s=>cases e;exact(rfl:_=_)
 | ob p r ih=>exact aBR e h λhp P' e h=>⟨hp,ih ws h e⟩
 | br c x y i1 i2=>
  have e:brx c x.fl y.fl ws=some (P,o):=e
  have st:∀vs,cond c (x.fl vs) (y.fl vs)=some (P,o)->(R.br c x y).good o:=λvs e=>by
   cases c with
   | true=>exact⟨λY=>i1 vs h e,λq=>nomatch q⟩
   | false=>exact⟨λq=>(nomatch q),λY=>i2 vs h e⟩
  cases ws with
  | nil=>exact st [] e
  | cons w ws=>
   cases w with
   | y=>exact aBR e h λhc P' e h=>⟨λY=>i1 ws h e,λq=>nomatch hc.symm.trans q⟩
   | n=>exact aBR e h λhc P' e h=>⟨λq=>(nomatch hc.symm.trans q),λY=>i2 ws h e⟩
   | s=>exact st ws e
   | _=>exact fA e
 | ask k ih=>
  cases ws with
  | nil=>exact⟨.s,ih .s [] h e⟩
  | cons w ws=>exact⟨w,ih w ws h e⟩
 | ex=>cases e;exact(rfl:_=_)
theorem R.good.bind{k:α->σ->R σ β}{r:R σ α}{a:α}{s:σ}{o:Oc σ β}(h:r.good (.ok a s))(g:(k a s).good o):(r.bind k).good o:=lE (R.post.mono h (λa' s' e=>by cases e;exact g) λY Y Y Y e=>nomatch e)
theorem kU{a:Prop}(x:a):a∧True:=⟨x,trivial⟩
theorem oU{a b:Prop}(x:a)(y:b):a∧b∧True:=⟨x,y,trivial⟩
theorem vC{a b c:Prop}(x:a)(y:b)(z:c):a∧b∧c∧True:=⟨x,y,z,trivial⟩
theorem yK{a b c d:Prop}(x:a)(y:b)(z:c)(u:d):a∧b∧c∧d∧True:=⟨x,y,z,u,trivial⟩
theorem QA{a b c d e:Prop}(x:a)(y:b)(z:c)(u:d)(v:e):a∧b∧c∧d∧e∧True:=⟨x,y,z,u,v,trivial⟩
theorem pU{a b:Prop}(x:a)(y:b):a∧b:=⟨x,y⟩
theorem VK{a b c d e f g h:Prop}(x:a)(y:b)(z:c)(u:d)(v:e)(w:f)(s:g)(t:h):a∧b∧c∧d∧e∧f∧g∧h∧True:=⟨x,y,z,u,v,w,s,t,trivial⟩
theorem OK{a b c d e f:Prop}(x:a)(y:b)(z:c)(u:d)(v:e)(w:f):a∧b∧c∧d∧e∧f∧True:=⟨x,y,z,u,v,w,trivial⟩
end
inductive Bx(p:Prop):Prop where
 | mk (h:p)
section
variable {σ α:Type} {Q:α->σ->Prop} {X:Bool->String->aA->σ->Prop}
noncomputable def hZ(c:Bool)(r:R σ α):R σ α:=cond c r .no
theorem dM{c:Bool}{r:R σ α}(h:(hZ c r).post Q X){P:Prop}(f:c=true->r.post Q X->P):P:=by
 cases c with
 | true=>exact f rfl h
 | false=>exact h.elim
theorem pN{k:OJ->R σ α}(h:(R.ask k).post Q X){P:Prop}(f:∀w,(k w).post Q X->P):P:=h.elim f
theorem jZ{p:Prop}{r:R σ α}(h:(R.ob p r).post Q X){P:Prop}(f:p->r.post Q X->P):P:=f h.1 h.2
noncomputable def A1(as:List aA)(k:aA->R σ α):R σ α:=List.rec .no (λa r Y=>List.rec (k a) (λY Y Y=>.no) r) as
theorem KL{k:aA->R σ α}{P:List aA->Prop}:∀{as:List aA},(A1 as k).post Q X->(∀a,(k a).post Q X->P [a])->P as
 | [a],h,f=>f a h
noncomputable def A2(as:List aA)(k:aA->aA->R σ α):R σ α:=List.rec .no (λa r Y=>A1 r λb=>k a b) as
theorem NL{k:aA->aA->R σ α}{P:List aA->Prop}{as:List aA}(h:(A2 as k).post Q X)(f:∀a b,(k a b).post Q X->P [a,b]):P as:=by
 cases as with
 | nil=>exact h.elim
 | cons a r=>exact KL (P:=λr=>P (a::r)) h λb h=>f a b h
noncomputable def A3(as:List aA)(k:aA->aA->aA->R σ α):R σ α:=List.rec .no (λa r Y=>A2 r λb=>k a b) as
theorem A3_{k:aA->aA->aA->R σ α}{P:List aA->Prop}{as:List aA}(h:(A3 as k).post Q X)(f:∀a b c,(k a b c).post Q X->P [a,b,c]):P as:=by
 cases as with
 | nil=>exact h.elim
 | cons a r=>exact NL (P:=λr=>P (a::r)) h λb h=>f a b h
noncomputable def A4(as:List aA)(k:aA->aA->aA->aA->R σ α):R σ α:=List.rec .no (λa r Y=>A3 r λb=>k a b) as
theorem A4_{k:aA->aA->aA->aA->R σ α}{P:List aA->Prop}{as:List aA}(h:(A4 as k).post Q X)(f:∀a b c d,(k a b c d).post Q X->P [a,b,c,d]):P as:=by
 cases as with
 | nil=>exact h.elim
 | cons a r=>exact A3_ (P:=λr=>P (a::r)) h λb h=>f a b h
noncomputable def iN(a:aA)(k:R σ α):R σ α:=match a with | .none=>k | _=>.no
noncomputable def iS(a:aA)(k:List Nat->R σ α):R σ α:=match a with | .str x=>k x | _=>.no
noncomputable def iI(a:aA)(k:Int->R σ α):R σ α:=match a with | .int x=>k x | _=>.no
noncomputable def iB(a:aA)(k:Bool->R σ α):R σ α:=match a with | .bool x=>k x | _=>.no
noncomputable def iL(a:aA)(k:Nat->R σ α):R σ α:=match a with | .aO x=>k x | _=>.no
noncomputable def iR(a:aA)(k:cI->R σ α):R σ α:=match a with | .ref x=>k x | _=>.no
noncomputable def iT(a:aA)(k:List aA->R σ α):R σ α:=match a with | .tup x=>k x | _=>.no
noncomputable def iY(a:aA)(k:String->R σ α):R σ α:=match a with | .typ x=>k x | _=>.no
variable {P:aA->Prop} {a:aA}
theorem yL{k:List Nat->R σ α}(h:(iS a k).post Q X)(f:∀x,(k x).post Q X->P (.str x)):P a:=by cases a <;> first | exact h.elim | exact f _ h
theorem oJ{k:Int->R σ α}(h:(iI a k).post Q X)(f:∀x,(k x).post Q X->P (.int x)):P a:=by cases a <;> first | exact h.elim | exact f _ h
theorem iB_{k:Bool->R σ α}(h:(iB a k).post Q X)(f:∀x,(k x).post Q X->P (.bool x)):P a:=by cases a <;> first | exact h.elim | exact f _ h
theorem C7{k:Nat->R σ α}(h:(iL a k).post Q X)(f:∀x,(k x).post Q X->P (.aO x)):P a:=by cases a <;> first | exact h.elim | exact f _ h
theorem iR_{k:cI->R σ α}(h:(iR a k).post Q X)(f:∀x,(k x).post Q X->P (.ref x)):P a:=by cases a <;> first | exact h.elim | exact f _ h
theorem iT_{k:List aA->R σ α}(h:(iT a k).post Q X)(f:∀x,(k x).post Q X->P (.tup x)):P a:=by cases a <;> first | exact h.elim | exact f _ h
noncomputable def nK(i:Int)(k:Nat->R σ α):R σ α:=match i with | .ofNat n=>k n | .negSucc _=>.no
theorem kM{i:Int}{P:Int->Prop}{k:Nat->R σ α}(h:(nK i k).post Q X)(f:∀n:Nat,(k n).post Q X->P n):P i:=by cases i <;> first | exact h.elim | exact f _ h
noncomputable def iO{γ:Type}(o:Option γ)(k:γ->R σ α):R σ α:=Option.rec .no k o
theorem iJ{γ:Type}{o:Option γ}{k:γ->R σ α}(h:(iO o k).post Q X){P:Prop}(f:∀c,o=some c->(k c).post Q X->P):P:=by
 cases o with
 | none=>exact h.elim
 | some c=>exact f c rfl h
noncomputable def Pc.Y0(p:Pc):Option (List aA):=match p with | .lst xs=>some xs | _=>none
noncomputable def Pc.isD(p:Pc):Option (List (List Nat×aA)):=match p with | .wH xs=>some xs | _=>none
noncomputable def Pc.isN(p:Pc):Option (List (Str×aA)):=match p with | .ns xs=>some xs | _=>none
noncomputable def Pc.isI(p:Pc):Option (cI×Nat):=match p with | .inst C d=>some (C,d) | _=>none
theorem Pc.VL{p:Pc}{xs:List aA}:p.Y0=some xs->p= .lst xs:=by
 cases p with
 | lst=>exactλh=>congrArg _ (aD h)
 | _=>exact fA
theorem Pc.aGB{p:Pc}{xs:List (List Nat×aA)}:p.isD=some xs->p= .wH xs:=by
 cases p with
 | wH=>exactλh=>congrArg _ (aD h)
 | _=>exact fA
theorem Pc.aK0{p:Pc}{xs:List (Str×aA)}:p.isN=some xs->p= .ns xs:=by
 cases p with
 | ns=>exactλh=>congrArg _ (aD h)
 | _=>exact fA
theorem Pc.aBS{p:Pc}{xs:cI×Nat}:p.isI=some xs->p= .inst xs.1 xs.2:=by
 cases p with
 | inst=>exactλh=>congrArg (λz:cI×Nat=>Pc.inst z.1 z.2) (aD h)
 | _=>exact fA
noncomputable def gL(o:Option Pc)(k:List aA->R σ α):R σ α:=iO o λp=>iO p.Y0 k
noncomputable def gD(o:Option Pc)(k:List (List Nat×aA)->R σ α):R σ α:=iO o λp=>iO p.isD k
noncomputable def gN(o:Option Pc)(k:List (Str×aA)->R σ α):R σ α:=iO o λp=>iO p.isN k
noncomputable def gI(o:Option Pc)(k:cI->Nat->R σ α):R σ α:=iO o λp=>iO p.isI λz=>k z.1 z.2
variable {o:Option Pc} {P:Prop}
theorem xG{k:List aA->R σ α}(h:(gL o k).post Q X)(f:∀xs,o=some (.lst xs)->(k xs).post Q X->P):P:=iJ h λp e h=>iJ h λxs e2 h=>f xs (e.trans (congrArg some (Pc.VL e2))) h
theorem gD_{k:List (List Nat×aA)->R σ α}(h:(gD o k).post Q X)(f:∀xs,o=some (.wH xs)->(k xs).post Q X->P):P:=iJ h λp e h=>iJ h λxs e2 h=>f xs (e.trans (congrArg some (Pc.aGB e2))) h
theorem gN_{k:List (Str×aA)->R σ α}(h:(gN o k).post Q X)(f:∀xs,o=some (.ns xs)->(k xs).post Q X->P):P:=iJ h λp e h=>iJ h λxs e2 h=>f xs (e.trans (congrArg some (Pc.aK0 e2))) h
theorem gI_{k:cI->Nat->R σ α}(h:(gI o k).post Q X)(f:∀C d,o=some (.inst C d)->(k C d).post Q X->P):P:=iJ h λp e h=>iJ h λz e2 h=>f z.1 z.2 (e.trans (congrArg some (Pc.aBS e2))) h
end
section
open PySem.SeqAt
section
variable {C:Ctx} {st:aK} {X:XQ}
theorem Ex.delItem{o i:dO}{sp pos:Pos}{Q:bU->aK->Prop}
  (h:Ev C o st (λb st1=>Ev C i st1 (λk bW=>∃l xs k' j,b= .aO l∧k= .int k'∧bW.H[l]? =some (.lst xs)∧sO k' xs.length=some j∧cX k'=true∧xs.length≤1000000∧Q .next ⟨bW.m,bW.H.set l (.lst (xs.eraseIdx j))⟩) X) X):
  Ex C (.Delete [.Subscript o i sp] pos) st Q X:=λ{A g ρ s} a=>by
 refine wpAny_Delete (wpAny_deleteEach_cons (wpAny_delete_Subscript (on (h a) .refl λ{v s1 b _ _} _ l1 r1 a1 q1=>on (q1 a1) l1 λ{w s2 k _ _} l2 l3 r2 a2 q2=>?_)))
 obtain⟨l,xs,k',j,rfl,rfl,e,hj,hf,hz,q⟩:=q2
 refine cD r2 λu dF=>?_;subst dF
 cases a2.x5 e (r1.mono l2) with
 | mk x vs c hx hl jB=>
  refine d5 (a2.H6 (tk:=s2.toks) (fn:=λxs=>xs.eraseIdxIfInBounds j) hx hl (BP vs j) (jB.erase j)) λa' L=>?_
  exact PySem.P.delItem_list hl hf (by rw[aX,jB.length,H0];exact hj) (wpAny_deleteEach_nil (.mk (b:=.next) (l3.trans L) rfl a' q)) (by rw[aX,jB.length];exact g5 hz rfl)
theorem aK1{n l d k:Nat}{K fn:cI}{fs:List (Str×aA)}{hd:Option aJ->Prop}{Q:aA->aK->Prop}(hn:C.n=n+1)(TF:hd C.hd)(e:st.H[l]? =some (.inst K d))(e2:st.H[d]? =some (.ns fs))(hs:nH C.D.K (.ref K) "__len__"=some (some (.ref fn)))(hf:JY C.D.K (.ref fn)=true)(hk:k < 2 ^ 62)
  (h:u7 C.D n hd (.ref fn) [.aO l] [] [] st.H (λr H'=>r= .int k∧Q (.int k) ⟨st.m,H'⟩)):fM C (.blt "len") [.aO l] [] [] st Q X:=fM.b λ{A g ρ s _} a hv=>by
 refine dW hv λ_ _ dE h1 e0=>?_;subst dE
 obtain rfl:=(e0:_= [])
 obtain⟨x,ox,od,dx,mm,hx,I,_⟩:=a.inst e e2
 obtain rfl:=pY hx h1
 refine G3 kind_len plain_len entry_len (args_len1 _) ?_
 refine aC (m:=oneArg "len" _) (aI ?_)
 refine aC (m:=callSpecial? (.ref x) (gV "__len__")) (special_fn (a.3.1.keeps a.5.1) I hs (beq_iff_eq.mp hf) ?_)
 have w:=a.wd0
 rw[hn] at w
 refine bM (h w.in1 (show hd A.handled from a.2.3.symm▸TF) rfl (.cons h1 .nil) (ws:=[]) .nil).2 (λv s1 p=>?_) λY Y e=>e.elim
 obtain⟨le,r,o,q⟩:=p
 obtain⟨rfl,q⟩:=q
 obtain⟨t,rfl⟩:=r
 refine aC (dN (aI (aC (wpAny_letGo ?_))))
 show bZ _ _ (if(k:Int) < 0 then _ else _) _ _ _
 rw[if_neg (lC.mpr (b6 k))]
 show bZ _ _ (if(k:Int)≥2 ^ 63 then _ else _) _ _ _
 rw[if_neg (λq=>absurd (pJ q (Int.le_of_lt (lA.mpr hk))) (by decide))]
 exact aC (wpAny_mkInt (aI ⟨_,rfl,.mk (b:=.int k) le V.int (a.of0 le o).toks q⟩))
end
end
section
open PySem.SeqAt
section
variable {C:Ctx} {st:aK} {X:XQ} {ps:Dps}
theorem VM{l:Nat}{Q:aA×List aA->aK->Prop}(e:st.H[l]? =some (.wH ps))(q:Q (.blt "dict.items",[.aO l]) st):Gm C "items" (.aO l) st Q X:=
 Gm.b (T:="dict") (by show st.H[l]?.bind Pc.ty=_;rw[e];rfl) PySem.F.plainAttrs_dict G6 PySem.F.type_dict_items q
theorem VN{l:Nat}{Q:aA->aK->Prop}(e:st.H[l]? =some (.wH ps))(q:Q (.aO st.H.length) ⟨st.m,st.H++ [.vw l]⟩):fM C (.blt "dict.items") [.aO l] [] [] st Q X:=fM.b λ{A g ρ s _} a hv=>by
 refine dW hv λ_ _ dE h1 e0=>?_;subst dE
 obtain rfl:=(e0:_= [])
 cases a.isd e h1 with
 | mk d kvs hx hs hd hk jB nd=>
  exact call_meetsIn G6 hd.typeIs PySem.F.entry_dict_items (PySem.F.args_dict_items_1 _) (meets_dict_items (nP C.D.prog C.D.w) d hs) ⟨⟨kvs,hd⟩,a.UV (p:=.vw l) (tk:=s.toks) (.ty rfl (by decide)) (λρ' h' L=>⟨d,L.1 _ _ hx,rfl,rfl⟩) q trivial rfl⟩
theorem Ex.aK2{target iter:dO}{body:List v8}{pos:Pos}{Q:bU->aK->Prop}(hh:C.hd=none)(hs:∀x,dQ iter C.env x=pure x)
  (h:Ev C iter st (λb st1=>∃v d,b= .aO v∧st1.H[v]? =some (.vw d)∧st1.H[d]? =some (.wH [])∧Q .next st1) X):Ex C (.For target iter body [] pos) st Q X:=λ{A g ρ s} a=>by
 refine wpAny_For (on (h a) .refl λ{v s1 b st1 ρ1} l0 l1 r1 a1 q1=>?_) hs
 refine MI q1 λlv ld dE e1 e2 q=>?_;subst dE
 refine bS r1 λxv hxv dE=>?_;subst dE
 obtain⟨ov,hov,ad,had,hc,hd⟩:=(a1.5.5 lv _ xv e1 hxv).1
 cases a1.isd e2 (v:=.ref ad) ⟨ad,had,rfl⟩ with
 | mk d kvs hx hsy hdd hk jB nd=>
  obtain rfl:=List.map_eq_nil_iff.mp hk
  obtain⟨o,es,ep,ho,hxd,aGC,hks,hp,hnd⟩:=hdd
  have K1:=Ke.push (h:=s1.heap) { cls:=.type "dict_itemiterator",data:=.fields #[.none,.bool false,.ref ad,.int 0 0,.int (([]:List (Str×aJ)).length:Nat) 0,.int ep 0,.none,.none] }
  refine wpAny_pyIter_items ⟨ov,hov,hc,hd⟩ (⟨o,es,ho,hxd,aGC,hks,hp,hnd⟩:s1.heap.DictAt (nP C.D.prog C.D.w) ad [] ep) ?_
  refine lD (λk s'=>s'={ s1 with heap:=s1.heap.push { cls:=.type "dict_itemiterator",data:=.fields #[.none,.bool false,.ref ad,.int 0 0,.int (([]:List (Str×aJ)).length:Nat) 0,.int ep 0,.none,.none] } }) (λk s' TE=>?_) 0 rfl
  subst TE
  refine wpAny_pyNext_items_end (kvs:=[]) (a.2.3.trans hh) (bV _ rfl) ⟨o,es,K1 _ _ ho,hxd,aGC,hks,hp,hnd⟩ rfl λh' zW=>?_
  have K2:Ke s1.heap h':=λb o e=>zW b o (k8 (c6 e)) (K1 b o e)
  exact .mk (b:=.next) (l1.trans (.ke K2)) rfl (a1.junk (tk:=s1.toks) K2) q
end
end
section
set_option tactic.hygienic true
noncomputable abbrev RM:=R aK aA
noncomputable abbrev Fx:=List aA->List Str->List aA->List Pc->R (List Pc) aA
abbrev NoE:Bool->String->aA->List Pc->Prop:=λY Y Y Y=>False
inductive kB(D:WD)(a:cI)(need:Nat)(fx:Fx):Prop where
 | mk (fn:∃fd names body,Fn D a fd names body) (co:∀{n as kn ks H Q},need≤n->(fx as kn ks H).post Q NoE->Bx (fS D n (· =none) a as kn ks H Q))
structure Tb where
 fns:List (cI×Nat×Fx)
 IV:List (cI×Nat×Fx)
 met:List ((cI×Str)×cI)
 att:List ((cI×Str)×Unit)
 bnd:List ((cI×Str)×cI)
 cls:List (cI×cI)
 pat:List (cI×Bool)
 lam:Option (List aA->List aA->List Pc->R (List Pc) aA)
structure LmT where
 c:cI
 T:cI
 q:Str
 l:Nat
structure Cx where
 ns:fF
 n:Nat
 cp:List Nat
 G:KB
 fc:Bool
 hn:Bool
 tb:Tb
 db:Nat
 lm:Option LmT
inductive VO(D:WD)(t:Tb):Prop where
 | mk (fns:∀a k fx,t.fns.lookup a=some (k,fx)->kB D a k fx) (met:∀C x f,t.met.lookup (C,x)=some f->xT D.K (.ref C) x (.ref f)) (att:∀C x,t.att.lookup (C,x)=some ()->BG D.K C∧nH D.K (.ref C) x=some none∧takerIn D.K C x=some none) (bnd:∀C x f,t.bnd.lookup (C,x)=some f->KG D.K C x f) (cls:∀C f,t.cls.lookup C=some f->yD D.K C f) (pat:∀p b,t.pat.lookup p=some b->YY D p (cond b sR n5))
inductive NM(D:WD)(t:Tb):Prop where
 | mk (IV:∀a k fx,t.IV.lookup a=some (k,fx)->∀{C:Ctx} {as kn ks st Q X},C.D=D->k≤C.n->C.hd=none->Face C->(fx as kn ks st.H).post (λr H=>Q r ⟨st.m,H⟩) (λf c m H=>X f c m ⟨st.m,H⟩)->Bx (fM C (.ref a) as kn ks st Q X)) (lam:∀fx,t.lam=some fx->∀{n l as H Q},1≤n->(fx [.aO l] as H).post Q NoE->Bx (u7 D n (· =none) (.aO l) as [] [] H Q))
inductive iZ(C:Ctx)(x:Cx):Prop where
 | mk (ns:C.ns=x.ns) (n:x.n≤C.n) (cp:C.cp=x.cp) (hd:x.hn=true->C.hd=none) (fc:x.fc=true->Face C) (gl:∀y b,x.G.lookup y=some b->GR C.D y b) (nd:∀(i:Nat) (y:Str) (k:dB),eK i x.db=false->C.ns[i]? =some (y,k)->jL y=true) (tb:VO C.D x.tb) (ra:NM C.D x.tb) (lm:∀z,x.lm=some z->C.env.code= .ref z.c∧uN C.D.K z.c z.T=true∧C.env.qual++"<lambda>"=z.q)
section
variable {C:Ctx} {x:Cx} {st:aK} {X:XQ} {Q:aA->aK->Prop}
noncomputable def aGD(o:mS)(a b:aA)(st:aK):RM:=match o with
 | .Add=>(match a with
  | .int i=>iI b λj=>.ok (.int (i+j)) st
  | .str u=>iS b λv=>.ob (u.length+v.length≤1000000) (.ok (.str (u++v)) st)
  | .aO l=>iL b λk=>gL st.H[l]? λxs=>gL st.H[k]? λys=>.ob (xs.length+ys.length≤1000000) (.ok (.aO st.H.length) ⟨st.m,st.H++ [.lst (xs++ys)]⟩)
  | _=>.no)
 | .Sub=>iI a λi=>iI b λj=>.ok (.int (i - j)) st
 | .FloorDiv=>iI a λi=>iI b λj=>nK i λi=>nK j λj=>.ob (0 < j∧j < 10000000000) (.ok (.int (i / j:Nat)) st)
 | .Mod=>iI a λi=>iI b λj=>.ask λw=>match w with
  | .nat k=>.ob (j=(k:Int)∧0 < k) (nK i λi=>.ok (.int (i % k:Nat)) st)
  | _=>nK j λj=>hZ (dT 0 j) (cond w.isS (nK i λi=>.ok (.int (i % j:Nat)) st) (.ok (.int ((i % j).toNat:Nat)) st))
 | .LShift=>iI a λi=>iI b λj=>nK i λi=>nK j λj=>.ob (i < 2 ^ 64∧j≤1000000) (.ok (.int (i * 2 ^ j:Nat)) st)
 | .RShift=>iI a λi=>iI b λj=>nK i λi=>nK j λj=>.ok (.int (i / 2 ^ j:Nat)) st
 | .BitAnd=>iI a λi=>iI b λj=>nK i λi=>nK j λj=>.ok (.int (i &&& j:Nat)) st
 | .Pow=>iI a λi=>iI b λj=>nK i λi=>nK j λj=>hZ (eB 2 i && dT i 1024) (.ob (j≤20) (.ok (.int (i ^ j:Nat)) st))
 | _=>.no
theorem t8{a b:Nat}(h:dT a b=true):a < b:=aH h
theorem aGE{o:mS}{a b:aA}(h:(aGD o a b st).post Q X):Bx (d3 C V (j7 o) a b st Q X):=by
 cases o <;> first | exact h.elim | skip
 case Add=>
  cases a <;> first | exact h.elim | skip
  case int i=>exact oJ (P:=λb=>Bx (d3 C V _ _ b st Q X)) h λj h=>⟨aAP h⟩
  case str u=>exact yL (P:=λb=>Bx (d3 C V _ _ b st Q X)) h λv h=>jZ h λp h=>⟨aAS p h⟩
  case aO l=>exact C7 (P:=λb=>Bx (d3 C V _ _ b st Q X)) h λk h=>xG h λxs e h=>xG h λys e2 h=>jZ h λp h=>⟨aBE e e2 p h⟩
 case Sub=>exact oJ (P:=λa=>Bx (d3 C V _ a b st Q X)) h λi h=>oJ (P:=λb=>Bx (d3 C V _ _ b st Q X)) h λj h=>⟨aAQ h⟩
 case FloorDiv=>exact oJ (P:=λa=>Bx (d3 C V _ a b st Q X)) h λi h=>oJ (P:=λb=>Bx (d3 C V _ _ b st Q X)) h λj h=>kM (P:=λi=>Bx (d3 C V _ (.int i) (.int j) st Q X)) h λi h=>kM (P:=λj=>Bx (d3 C V _ _ (.int j) st Q X)) h λj h=>jZ h λc h=>⟨U6 c.1 c.2 h⟩
 case Mod=>
  exact oJ (P:=λa=>Bx (d3 C V _ a b st Q X)) h λi h=>oJ (P:=λb=>Bx (d3 C V _ _ b st Q X)) h λj h=>pN h λw h=>by
   have go:∀{w:OJ},(nK j λj=>hZ (dT 0 j) (cond w.isS (nK i λi=>.ok (.int (i % j:Nat)) st) (.ok (.int ((i % j).toNat:Nat)) st)):RM).post Q X->Bx (d3 C V (j7 .Mod) (.int i) (.int j) st Q X):=λ{w} h=>kM (P:=λj=>Bx (d3 C V _ _ (.int j) st Q X)) h λj h=>dM h λc h=>by
    cases e:w.isS with
    | true=>rw[e] at h;exact kM (P:=λi=>Bx (d3 C V _ (.int i) _ st Q X)) h λi h=>⟨PX (t8 c) h⟩
    | false=>rw[e] at h;exact⟨aBB (t8 c) h⟩
   cases w with
   | nat k=>exact jZ h λp h=>p.1▸kM (P:=λi=>Bx (d3 C V _ (.int i) _ st Q X)) h λi h=>⟨PX p.2 h⟩
   | _=>exact go h
 case LShift=>exact oJ (P:=λa=>Bx (d3 C V _ a b st Q X)) h λi h=>oJ (P:=λb=>Bx (d3 C V _ _ b st Q X)) h λj h=>kM (P:=λi=>Bx (d3 C V _ (.int i) (.int j) st Q X)) h λi h=>kM (P:=λj=>Bx (d3 C V _ _ (.int j) st Q X)) h λj h=>jZ h λp h=>⟨aBK p.1 p.2 h⟩
 case RShift=>exact oJ (P:=λa=>Bx (d3 C V _ a b st Q X)) h λi h=>oJ (P:=λb=>Bx (d3 C V _ _ b st Q X)) h λj h=>kM (P:=λi=>Bx (d3 C V _ (.int i) (.int j) st Q X)) h λi h=>kM (P:=λj=>Bx (d3 C V _ _ (.int j) st Q X)) h λj h=>⟨aBL h⟩
 case BitAnd=>exact oJ (P:=λa=>Bx (d3 C V _ a b st Q X)) h λi h=>oJ (P:=λb=>Bx (d3 C V _ _ b st Q X)) h λj h=>kM (P:=λi=>Bx (d3 C V _ (.int i) (.int j) st Q X)) h λi h=>kM (P:=λj=>Bx (d3 C V _ _ (.int j) st Q X)) h λj h=>⟨aBM h⟩
 case Pow=>exact oJ (P:=λa=>Bx (d3 C V _ a b st Q X)) h λi h=>oJ (P:=λb=>Bx (d3 C V _ _ b st Q X)) h λj h=>kM (P:=λi=>Bx (d3 C V _ (.int i) (.int j) st Q X)) h λi h=>kM (P:=λj=>Bx (d3 C V _ _ (.int j) st Q X)) h λj h=>dM h λc h=>jZ h λp h=>⟨aBD (aH (aP c)) (t8 (aQ c)) p h⟩
noncomputable def aBT(o:mS)(a b:aA)(st:aK):RM:=match o with
 | .Add=>(match a with
  | .int i=>iI b λj=>.ok (.int (i+j)) st
  | .str u=>iS b λv=>.ob (u.length+v.length≤1000000) (.ok (.str (u++v)) st)
  | _=>.no)
 | .Sub=>iI a λi=>iI b λj=>.ok (.int (i - j)) st
 | _=>.no
theorem Y1{o:mS}{a b:aA}(h:(aBT o a b st).post Q X):Bx (d3 C V (D1 o) a b st Q X):=by
 cases o <;> first | exact h.elim | skip
 case Add=>
  cases a <;> first | exact h.elim | skip
  case int i=>exact oJ (P:=λb=>Bx (d3 C V _ _ b st Q X)) h λj h=>⟨UD h⟩
  case str u=>exact yL (P:=λb=>Bx (d3 C V _ _ b st Q X)) h λv h=>jZ h λp h=>⟨UG p h⟩
 case Sub=>exact oJ (P:=λa=>Bx (d3 C V _ a b st Q X)) h λi h=>oJ (P:=λb=>Bx (d3 C V _ _ b st Q X)) h λj h=>⟨UE h⟩
noncomputable def rIn(neg:Bool)(a b:aA)(st:aK):RM:=iS a λu=>match b with
 | .str v=>.ok (.bool (cond neg (!(jR v u 0 v.length).isSome) (jR v u 0 v.length).isSome)) st
 | .aO l=>gL st.H[l]? λxs=>.ask λw=>match w with
   | .strs ls=>.ob (xs=ls.map .str) (.ok (.bool (cond neg (!ls.any (· ==u)) (ls.any (· ==u)))) st)
   | _=>.no
 | _=>.no
noncomputable def QB(o:CmpOp)(a b:aA)(st:aK):RM:=match o with
 | .Is=>iO (isA a b) λc=>.ok (.bool c) st
 | .IsNot=>iO (isA a b) λc=>.ok (.bool (!c)) st
 | .In=>rIn false a b st
 | .NotIn=>rIn true a b st
 | .Eq=>(match a with
  | .int i=>iI b λj=>.ok (.bool (i==j)) st
  | .str u=>iS b λv=>.ok (.bool (u==v)) st
  | .aO l=>iL b λk=>gL st.H[l]? λxs=>gL st.H[k]? λys=>.ob (xs.length=ys.length->all2 NF xs ys=true) (.ok (.bool (p7 xs ys)) st)
  | _=>.no)
 | .NotEq=>(match a with
  | .int i=>iI b λj=>.ok (.bool (i !=j)) st
  | .str u=>iS b λv=>.ok (.bool (u !=v)) st
  | .aO l=>iL b λk=>gL st.H[l]? λxs=>gL st.H[k]? λys=>.ob (xs.length=ys.length->all2 NF xs ys=true) (.ok (.bool (!p7 xs ys)) st)
  | _=>.no)
 | .Lt=>(match a with
  | .int i=>iI b λj=>.ok (.bool (decide (i < j))) st
  | .str u=>iS b λv=>.ok (.bool (decide (u < v))) st
  | .bool c=>iB b λd=>.ok (.bool (!c && d)) st
  | _=>.no)
 | .LtE=>.no
 | .Gt=>(match a with
  | .int i=>iI b λj=>.ok (.bool (decide (i > j))) st
  | .str u=>iS b λv=>.ok (.bool (decide (v < u))) st
  | _=>.no)
 | .GtE=>iI a λi=>iI b λj=>.ok (.bool (decide (i≥j))) st
theorem aGF{neg:Bool}{a b:aA}(h:(rIn neg a b st).post Q X):Bx (d3 C V (d7 (cond neg .NotIn .In)) a b st Q X):=yL (P:=λa=>Bx (d3 C V _ a b st Q X)) h λu h=>by
 cases b <;> first | exact h.elim | skip
 case str v=>cases neg with
  | true=>exact⟨PC h⟩
  | false=>exact⟨aFG h⟩
 case aO l=>
  exact xG h λxs e h=>pN h λw h=>by
   cases w <;> first | exact h.elim | skip
   exact jZ h λp h=>by
    cases neg with
    | true=>exact⟨P6 (e.trans (congrArg (λz=>some (Pc.lst z)) p)) h⟩
    | false=>exact⟨aFO (e.trans (congrArg (λz=>some (Pc.lst z)) p)) h⟩
theorem KM{o:CmpOp}{a b:aA}(h:(QB o a b st).post Q X):Bx (d3 C V (d7 o) a b st Q X):=by
 cases o
 case Is=>exact iJ h λc e h=>⟨aKS e h⟩
 case IsNot=>exact iJ h λc e h=>⟨U8 e h⟩
 case In=>exact aGF (neg:=false) h
 case NotIn=>exact aGF (neg:=true) h
 case Eq=>
  cases a <;> first | exact h.elim | skip
  case int i=>exact oJ (P:=λb=>Bx (d3 C V _ _ b st Q X)) h λj h=>⟨aFC h⟩
  case str u=>exact yL (P:=λb=>Bx (d3 C V _ _ b st Q X)) h λv h=>⟨aFE h⟩
  case aO l=>exact C7 (P:=λb=>Bx (d3 C V _ _ b st Q X)) h λk h=>xG h λxs e h=>xG h λys e2 h=>jZ h λp h=>⟨aF0 e e2 p h⟩
 case NotEq=>
  cases a <;> first | exact h.elim | skip
  case int i=>exact oJ (P:=λb=>Bx (d3 C V _ _ b st Q X)) h λj h=>⟨aFD h⟩
  case str u=>exact yL (P:=λb=>Bx (d3 C V _ _ b st Q X)) h λv h=>⟨aFF h⟩
  case aO l=>exact C7 (P:=λb=>Bx (d3 C V _ _ b st Q X)) h λk h=>xG h λxs e h=>xG h λys e2 h=>jZ h λp h=>⟨aF1 e e2 p h⟩
 case Lt=>
  cases a <;> first | exact h.elim | skip
  case int i=>exact oJ (P:=λb=>Bx (d3 C V _ _ b st Q X)) h λj h=>⟨aE9 h⟩
  case str u=>exact yL (P:=λb=>Bx (d3 C V _ _ b st Q X)) h λv h=>⟨aF2 h⟩
  case bool c=>exact iB_ (P:=λb=>Bx (d3 C V _ _ b st Q X)) h λd h=>⟨aF4 h⟩
 case LtE=>exact h.elim
 case Gt=>
  cases a <;> first | exact h.elim | skip
  case int i=>exact oJ (P:=λb=>Bx (d3 C V _ _ b st Q X)) h λj h=>⟨aFA h⟩
  case str u=>exact yL (P:=λb=>Bx (d3 C V _ _ b st Q X)) h λv h=>⟨aF3 h⟩
 case GtE=>exact oJ (P:=λa=>Bx (d3 C V _ a b st Q X)) h λi h=>oJ (P:=λb=>Bx (d3 C V _ _ b st Q X)) h λj h=>⟨aFB h⟩
noncomputable def QC(a:aA)(st:aK):R aK Bool:=match a with
 | .none=>.ok false st
 | .bool b=>.ok b st
 | .int i=>.ok (i !=0) st
 | .str u=>.ob (u.length≤1000000) (.ok (!u.isEmpty) st)
 | .aO l=>gL st.H[l]? λxs=>.ob (xs.length≤1000000) (.ok (!xs.isEmpty) st)
 | _=>.no
theorem aGG{l:Nat}{xs:List aA}{Q:Bool->aK->Prop}(e:st.H[l]? =some (.lst xs))(hz:xs.length≤1000000)(q:Q (!xs.isEmpty) st):pD C Eqv AA (.aO l) st Q X:=λ{A g ρ s v} a hv=>by
 cases a.x5 e hv with
 | mk y vs n hx hl jB=>
  have hlen:=jB.length
  refine wpAny_truthy_list (items:=bG vs) hl.isList (by rw[aX,hlen];exact iA (fD.mpr hz) (by decide)) (.mk (b:=!xs.isEmpty) .refl ?_ a.toks q)
  show _=_
  rw[List.isEmpty_toArray]
  cases vs <;> cases xs <;> first | rfl | cases hlen
theorem Y2{a:aA}{Q:Bool->aK->Prop}(h:(QC a st).post Q X):Bx (pD C Eqv AA a st Q X):=by
 cases a <;> first | exact h.elim | skip
 case none=>exact⟨aAT h⟩
 case bool=>exact⟨aAU h⟩
 case int=>exact⟨aFH h⟩
 case str=>exact jZ h λp h=>⟨aFI p h⟩
 case aO=>exact xG h λxs e h=>jZ h λz h=>⟨aGG e z h⟩
noncomputable def smB(k:Int):Bool:=decide (-(2 ^ 63)≤k) && decide (k < 2 ^ 63)
theorem aK3{k:Int}(h:smB k=true):Sm k:=⟨of_decide_eq_true (aP h),of_decide_eq_true (aQ h)⟩
noncomputable def rAt(xs:List aA)(k:Int)(st:aK):RM:=.ask λw=>match w with
 | .s=>hZ (smB k) (iO (sO k xs.length) λj=>iO xs[j]? λb=>.ok b.wk st)
 | .item j b=>.ob (sO k xs.length=some j∧xs[j]? =some b∧Sm k) (.ok b.wk st)
 | _=>.no
theorem aGH{xs:List aA}{k:Int}{P:Prop}(h:(rAt xs k st).post Q X)(f:∀j b,sO k xs.length=some j->xs[j]? =some b->Sm k->Q b.wk st->P):P:=pN h λw h=>by
 cases w <;> first | exact h.elim | skip
 case s=>exact dM h λc h=>iJ h λj e h=>iJ h λb e2 h=>f j b e e2 (aK3 c) h
 case item j b=>exact jZ h λp h=>f j b p.1 p.2.1 p.2.2 h
noncomputable def Y3(a i:aA)(st:aK):RM:=match a with
 | .tup xs=>iI i λk=>rAt xs k st
 | .str u=>iI i λk=>.ask λw=>match w with
  | .nat c=>.ob ((iW k u.length).bind (u[·]?)=some c∧(decide (k < -(2 ^ 63:Int)) || decide (k≥2 ^ 63))=false) (.ok (.str [c]) st)
  | _=>.no
 | .aO l=>gL st.H[l]? λxs=>iI i λk=>rAt xs k st
 | _=>.no
theorem wk2{α:Type}{t:aJ->aJ->Sem aJ}{a i b:aA}(h:Bx (d3 C V t a i st (λr fR=>r=b∧fR=st) X))(q:Q b.wk st):Bx (d3 C V t a i st Q X):=⟨λat' hv hw=>
 bM (h.1 at' hv hw) (λx s1 p=>by cases p with | mk le r at2 z=>refine d5 z λu5 dF=>?_;subst u5;subst dF;exact .mk le r.wk at2 q) λ_ _ x=>x⟩
theorem aBU{a i:aA}(h:(Y3 a i st).post Q X):Sb st a∧Bx (d3 C V uL a i st Q X):=by
 cases a <;> first | exact h.elim | skip
 case tup xs=>exact⟨trivial,oJ (P:=λi=>Bx (d3 C V _ _ i st Q X)) h λk h=>aGH h λj b e e2 c h=>wk2 (α:=Unit) ⟨UI e e2 c ⟨rfl,rfl⟩⟩ h⟩
 case str u=>
  exact⟨trivial,oJ (P:=λi=>Bx (d3 C V _ _ i st Q X)) h λk h=>pN h λw h=>by
   cases w <;> first | exact h.elim | exact jZ h λp h=>⟨UH p.1 p.2 h⟩⟩
 case aO l=>
  exact xG h λxs e h=>⟨⟨_,e,.inl ⟨_,rfl⟩⟩,oJ (P:=λi=>Bx (d3 C V _ _ i st Q X)) h λk h=>aGH h λj b e1 e2 c h=>wk2 (α:=Unit) ⟨UJ e e1 e2 c ⟨rfl,rfl⟩⟩ h⟩
noncomputable def aGI(a l u k:aA)(st:aK):RM:=iO l.part λl'=>iO u.part λu'=>iO k.part λk'=>hZ (match k' with | some i=>i !=0 | none=>true) (match a with
 | .str x=>.ob (x.length≤1000000) (.ok (.str (iX x l' u' k')) st)
 | .aO j=>iO st.H[j]? λp=>iO p.ls λxs=>.ob (xs.length≤1000000) (.ok (.aO st.H.length) ⟨st.m,st.H++ [.lst (iX xs l' u' k')]⟩)
 | _=>.no)
theorem aGJ{a l u k:aA}(h:(aGI a l u k st).post Q X):∃l' u' k',l.part=some l'∧u.part=some u'∧k.part=some k'∧k'≠some 0∧aFK a st l' u' k' Q:=iJ h λl' e1 h=>iJ h λu' e2 h=>iJ h λk' e3 h=>dM h λc h=>by
 refine⟨l',u',k',e1,e2,e3,(λq=>by subst q;exact eV c), ?_⟩
 cases a <;> first | exact h.elim | skip
 case str x=>exact h
 case aO j=>exact iJ h λq e h=>iJ h λxs e2 h=>jZ h λp h=>⟨q,xs,e,e2,p,h⟩
end
end
inductive Al{α β:Type}(P:α->β->Prop):List (α×β)->Prop
 | nil:Al P []
 | cons {a b l}:P a b->Al P l->Al P ((a,b)::l)
theorem Al.at{α β:Type}[BEq α][LawfulBEq α]{P:α->β->Prop}{l:List (α×β)}(h:Al P l){a:α}{b:β}(e:l.lookup a=some b):P a b:=by
 induction h with
 | nil=>exact fA e
 | @cons x y l p _ ih=>
  rw[dA] at e
  cases q:a==x with
  | true=>rw[q] at e;obtain rfl:=aD e;obtain rfl:=eq_of_beq q;exact p
  | false=>rw[q] at e;exact ih e
def MOk(T:String)(j:Nat)(id:String):Prop:=Slot T (an j) id∧typeOf (.builtin id)=pure (.type "method_descriptor")
noncomputable def aGK:List (Nat×String):=[(4,"str.join"),(5,"str.split"),(6,"str.startswith"),(7,"str.endswith"),(8,"str.find"),(9,"str.rfind"),(10,"str.upper"),(11,"str.lower"),(12,"str.count"),(34,"str.index")]
theorem Y4:Al (MOk "str") aGK:=.cons ⟨F.slot_str_join,F.type_str_join⟩ (.cons ⟨F.slot_str_split,F.type_str_split⟩ (.cons ⟨F.slot_str_startswith,F.type_str_startswith⟩ (.cons ⟨F.slot_str_endswith,F.type_str_endswith⟩
 (.cons ⟨F.slot_str_find,F.type_str_find⟩ (.cons ⟨F.slot_str_rfind,F.type_str_rfind⟩ (.cons ⟨F.slot_str_upper,F.type_str_upper⟩ (.cons ⟨F.slot_str_lower,F.type_str_lower⟩ (.cons ⟨F.slot_str_count,F.type_str_count⟩ (.cons ⟨F.slot_str_index,F.type_str_index⟩ .nil)))))))))
noncomputable def aGL:List (Nat×String):=[(0,"list.append"),(1,"list.pop"),(2,"list.insert"),(3,"list.extend"),(34,"list.index")]
theorem Y5:Al (MOk "list") aGL:=.cons ⟨F.slot_list_append,F.type_list_append⟩ (.cons ⟨F.slot_list_pop,F.type_list_pop⟩ (.cons ⟨F.slot_list_insert,F.type_list_insert⟩ (.cons ⟨F.slot_list_extend,F.type_list_extend⟩ (.cons ⟨F.slot_list_index,F.type_list_index⟩ .nil))))
section
variable {σ α:Type}
noncomputable def liftM(m:Loc)(r:R (List Pc) aA):RM:=R.rec .no (λa H=>.ok a ⟨m,H⟩) (λp Y r=>.ob p r) (λc Y Y x y=>.br c x y) (λY g=>.ask g) (λf cls msg H=>.ex f cls msg ⟨m,H⟩) r
noncomputable def yN(m:Loc)(r:R (List Pc) aA):RM:=R.rec .no (λa H=>.ok a ⟨m,H⟩) (λp Y r=>.ob p r) (λc Y Y x y=>.br c x y) (λY g=>.ask g) (λY Y Y Y=>.no) r
theorem aBV{m:Loc}{Q:aA->aK->Prop}{X:XQ}{r:R (List Pc) aA}:(liftM m r).post Q X->r.post (λa H=>Q a ⟨m,H⟩) (λf c msg H=>X f c msg ⟨m,H⟩):=by
 induction r with
 | ob p r ih=>exact nR id ih
 | br c x y i1 i2=>exact nR (λh c=>i1 (h c)) (λh c=>i2 (h c))
 | ask k ih=>exactλh=>h.elim λw h=>⟨w,ih w h⟩
 | _=>exact id
theorem yO{m:Loc}{Q:aA->aK->Prop}{X:XQ}{r:R (List Pc) aA}:(yN m r).post Q X->r.post (λa H=>Q a ⟨m,H⟩) NoE:=by
 induction r with
 | ob p r ih=>exact nR id ih
 | br c x y i1 i2=>exact nR (λh c=>i1 (h c)) (λh c=>i2 (h c))
 | ask k ih=>exactλh=>h.elim λw h=>⟨w,ih w h⟩
 | _=>exact id
end
section
variable {C:Ctx} {x:Cx} {st:aK} {X:XQ} {Q:aA->aK->Prop} {as:List aA}
noncomputable abbrev BH:=Cx->List aA->aK->RM
def t9(f:aA)(h:BH):Prop:=∀{C:Ctx} {x:Cx} {as:List aA} {st:aK} {Q:aA->aK->Prop} {X:XQ},iZ C x->(h x as st).post Q X->Bx (fM C f as [] [] st Q X)
abbrev P1(C:Ctx)(f:aA)(st:aK)(Q:aA->aK->Prop)(X:XQ)(as:List aA):Prop:=Bx (fM C f as [] [] st Q X)
noncomputable def Pc.isM(p:Pc):Option (cI×Nat):=match p with | .m6 f x=>some (f,x) | _=>none
theorem Pc.aBW{p:Pc}{z:cI×Nat}:p.isM=some z->p= .m6 z.1 z.2:=by
 cases p with
 | m6=>exactλh=>congrArg (λz:cI×Nat=>Pc.m6 z.1 z.2) (aD h)
 | _=>exact fA
noncomputable def Pc.isX(p:Pc):Option (String×List Nat):=match p with | .OC c x=>some (c,x) | _=>none
theorem Pc.aK4{p:Pc}{z:String×List Nat}:p.isX=some z->p= .OC z.1 z.2:=by
 cases p with
 | OC=>exactλh=>congrArg (λz:String×List Nat=>Pc.OC z.1 z.2) (aD h)
 | _=>exact fA
noncomputable def aGM:BH:=λx as st=>A1 as λa=>match a with
 | .str u=>.ob (u.length≤1000000) (.ok (.int u.length) st)
 | .aO l=>gL st.H[l]? λxs=>.ob (xs.length≤1000000) (.ok (.int xs.length) st)
 | _=>.no
theorem aGN:t9 (.blt "len") aGM:=λ{C x as st Q X} O h=>KL (P:=P1 C _ st Q X) h λa h=>by
 cases a <;> first | exact h.elim | skip
 case str=>exact jZ h λz h=>⟨aAX z h⟩
 case aO=>exact xG h λxs e h=>jZ h λz h=>⟨aAY e z h⟩
noncomputable def Y6:BH:=λx as st=>A2 as λa b=>iL a λl=>iS b λu=>iO st.H[l]? λp=>iO p.isM λz=>.ok (.aO st.H.length) ⟨st.m,st.H++ [.hC l u]⟩
theorem aBX:t9 (.blt "iter") Y6:=λ{C x as st Q X} O h=>NL (P:=P1 C _ st Q X) h λa b h=>C7 (P:=λa=>P1 C _ st Q X [a,b]) h λl h=>yL (P:=λb=>P1 C _ st Q X [_,b]) h λu h=>iJ h λp e h=>iJ h λz e2 h=>⟨U4 (e.trans (congrArg some (Pc.aBW e2))) h⟩
noncomputable def aGO:BH:=λx as st=>A1 as λa=>iL a λl=>gL st.H[l]? λxs=>hZ x.hn (.ask λw=>match w with
 | .ints is=>.ob (xs=is.map .int) (.ok (.int is.sum) st)
 | _=>.no)
theorem aGP:t9 (.blt "sum") aGO:=λ{C x as st Q X} O h=>KL (P:=P1 C _ st Q X) h λa h=>C7 (P:=λa=>P1 C _ st Q X [a]) h λl h=>xG h λxs e h=>dM h λc h=>pN h λw h=>by
 cases w <;> first | exact h.elim | exact jZ h λp h=>⟨aBF (O.4 c) (e.trans (congrArg (λz=>some (Pc.lst z)) p)) h⟩
noncomputable def Y7:BH:=λx as st=>A2 as λa b=>iS a λu=>iL b λl=>gL st.H[l]? λxs=>.ask λw=>match w with
 | .strs ls=>.ob (xs=ls.map .str) (.ob (kJ ls+ls.length * u.length≤1000000) (.ok (.str (jn u ls)) st))
 | _=>.no
theorem aBY:t9 (.blt "str.join") Y7:=λ{C x as st Q X} O h=>NL (P:=P1 C _ st Q X) h λa b h=>yL (P:=λa=>P1 C _ st Q X [a,b]) h λu h=>C7 (P:=λb=>P1 C _ st Q X [_,b]) h λl h=>xG h λxs e h=>pN h λw h=>by
 cases w <;> first | exact h.elim | exact jZ h λp h=>jZ h λz h=>⟨aAZ (e.trans (congrArg (λz=>some (Pc.lst z)) p)) z h⟩
noncomputable def SS(as:List aA)(k:List Nat->List Nat->RM):RM:=A2 as λa b=>iS a λu=>iS b λv=>k u v
theorem SS_{k:List Nat->List Nat->RM}{P:List aA->Prop}(h:(SS as k).post Q X)(f:∀u v,(k u v).post Q X->P [.str u,.str v]):P as:=NL (P:=P) h λa b h=>yL (P:=λa=>P [a,b]) h λu h=>yL (P:=λb=>P [.str u,b]) h λv h=>f u v h
noncomputable def QD:BH:=λx as st=>SS as λu v=>hZ (eB 1 v.length && v.all (· < 256)) (.ob (u.length≤1000000) (.ok (.aO st.H.length) ⟨st.m,st.H++ [.lst ((UK u v).map .str)]⟩))
theorem VP:t9 (.blt "str.split") QD:=λ{C x as st Q X} O h=>SS_ (P:=P1 C _ st Q X) h λu v h=>dM h λc h=>jZ h λp h=>⟨UW (aH (aP c)) (aQ c) p h⟩
noncomputable def KN:BH:=λx as st=>SS as λu v=>.ok (.bool (nT u v)) st
theorem QE:t9 (.blt "str.startswith") KN:=λ{C x as st Q X} O h=>SS_ (P:=P1 C _ st Q X) h λu v h=>⟨CU h⟩
noncomputable def Y8:BH:=λx as st=>SS as λu v=>.ok (.bool (tV u v)) st
theorem aBZ:t9 (.blt "str.endswith") Y8:=λ{C x as st Q X} O h=>SS_ (P:=P1 C _ st Q X) h λu v h=>⟨H5 h⟩
noncomputable def aB0(as:List aA)(k:List Nat->List Nat->Nat->Nat->RM):RM:=A4 as λa b c d=>iS a λu=>iS b λv=>iI c λi=>iI d λj=>nK i λi=>nK j λj=>k u v i j
theorem Y9{k:List Nat->List Nat->Nat->Nat->RM}{P:List aA->Prop}(h:(aB0 as k).post Q X)(f:∀u v (i j:Nat),(k u v i j).post Q X->P [.str u,.str v,.int i,.int j]):P as:=A4_ (P:=P) h λa b c d h=>yL (P:=λa=>P [a,b,c,d]) h λu h=>yL (P:=λb=>P [.str u,b,c,d]) h λv h=>
 oJ (P:=λc=>P [.str u,.str v,c,d]) h λi h=>oJ (P:=λd=>P [.str u,.str v,.int i,d]) h λj h=>kM (P:=λi=>P [.str u,.str v,.int i,.int j]) h λi h=>kM (P:=λj=>P [.str u,.str v,.int i,.int j]) h λj h=>f u v i j h
noncomputable def is2(as:List aA):Bool:=match as with | [_,_]=>true | _=>false
noncomputable def QF:BH:=λx as st=>cond (is2 as) (SS as λu v=>.ok (.int (BM (jR u v 0 u.length))) st) (aB0 as λu v i j=>.ob (j≤u.length) (.ok (.int (BM (jR u v i j))) st))
theorem aB1:t9 (.blt "str.find") QF:=λ{C x as st Q X} O h=>by
 unfold QF at h
 cases c:is2 as with
 | true=>rw[c] at h;exact SS_ (P:=P1 C _ st Q X) h λu v h=>⟨aAW h⟩
 | false=>rw[c] at h;exact Y9 (P:=P1 C _ st Q X) h λu v i j h=>jZ h λp h=>⟨UP p h⟩
noncomputable def QG:BH:=λx as st=>aB0 as λu v i j=>.ob (j≤u.length) (.ok (.int (BM (wO u v i j))) st)
theorem VQ:t9 (.blt "str.rfind") QG:=λ{C x as st Q X} O h=>Y9 (P:=P1 C _ st Q X) h λu v i j h=>jZ h λp h=>⟨PK p h⟩
noncomputable def QH:BH:=λx as st=>A1 as λa=>iS a λu=>.ob (asc u=true) (.ob (u.length≤1000000) (.ok (.str (w9 u)) st))
theorem VR:t9 (.blt "str.upper") QH:=λ{C x as st Q X} O h=>KL (P:=P1 C _ st Q X) h λa h=>yL (P:=λa=>P1 C _ st Q X [a]) h λu h=>jZ h λp h=>jZ h λz h=>⟨UQ p z h⟩
noncomputable def QI:BH:=λx as st=>A1 as λa=>iS a λu=>.ob (asc u=true) (.ob (u.length≤1000000) (.ok (.str (tU u)) st))
theorem VS:t9 (.blt "str.lower") QI:=λ{C x as st Q X} O h=>KL (P:=P1 C _ st Q X) h λa h=>yL (P:=λa=>P1 C _ st Q X [a]) h λu h=>jZ h λp h=>jZ h λz h=>⟨UR p z h⟩
noncomputable def one(v:List Nat):Option Nat:=match v with | [c]=>some c | _=>none
theorem aK5{v:List Nat}{c:Nat}(h:one v=some c):v= [c]:=by
 cases v with
 | nil=>exact fA h
 | cons a r=>cases r with
  | nil=>obtain rfl:=aD h;rfl
  | cons=>exact fA h
noncomputable def QJ:BH:=λx as st=>SS as λu v=>iO (one v) λc=>.ok (.int (u.count c:Nat)) st
theorem VT:t9 (.blt "str.count") QJ:=λ{C x as st Q X} O h=>SS_ (P:=P1 C _ st Q X) h λu v h=>iJ h λc e h=>aK5 e▸⟨US h⟩
noncomputable def hAppend:BH:=λx as st=>A2 as λa b=>iL a λl=>gL st.H[l]? λxs=>hZ b.pure (.ob (xs.length≤1000000) (.ok .none ⟨st.m,st.H.set l (.lst (xs++ [b]))⟩))
theorem FQ:t9 (.blt "list.append") hAppend:=λ{C x as st Q X} O h=>NL (P:=P1 C _ st Q X) h λa b h=>C7 (P:=λa=>P1 C _ st Q X [a,b]) h λl h=>xG h λxs e h=>dM h λc h=>jZ h λp h=>⟨E5 e c p h⟩
noncomputable def aGQ:BH:=λx as st=>A2 as λa b=>iL a λl=>iI b λk=>gL st.H[l]? λxs=>.ask λw=>match w with
 | .item j b=>hZ (cX k) (.ob (xs.length≤1000000) (.ob (sO k xs.length=some j∧xs[j]? =some b) (.ok b ⟨st.m,st.H.set l (.lst (xs.eraseIdx j))⟩)))
 | .pop j b=>.ob (xs.length≤1000000∧cX k=true) (.ob (sO k xs.length=some j∧xs[j]? =some b) (.ok b ⟨st.m,st.H.set l (.lst (xs.eraseIdx j))⟩))
 | _=>.no
theorem aGR:t9 (.blt "list.pop") aGQ:=λ{C x as st Q X} O h=>NL (P:=P1 C _ st Q X) h λa b h=>C7 (P:=λa=>P1 C _ st Q X [a,b]) h λl h=>oJ (P:=λb=>P1 C _ st Q X [_,b]) h λk h=>xG h λxs e h=>pN h λw h=>by
 cases w <;> first | exact h.elim | skip
 case item=>exact dM h λc h=>jZ h λp h=>jZ h λz h=>⟨J8 e z.1 z.2 c p h⟩
 case pop=>exact jZ h λp h=>jZ h λz h=>⟨J8 e z.1 z.2 p.2 p.1 h⟩
noncomputable def KO:BH:=λx as st=>A3 as λa b d=>iL a λl=>iI b λk=>nK k λk=>gL st.H[l]? λxs=>hZ d.pure (.ob (k≤xs.length) (.ob (xs.length≤1000000) (.ok .none ⟨st.m,st.H.set l (.lst (tX xs k d))⟩)))
theorem QK:t9 (.blt "list.insert") KO:=λ{C x as st Q X} O h=>A3_ (P:=P1 C _ st Q X) h λa b d h=>C7 (P:=λa=>P1 C _ st Q X [a,b,d]) h λl h=>oJ (P:=λb=>P1 C _ st Q X [_,b,d]) h λk h=>kM (P:=λk=>P1 C _ st Q X [_,.int k,d]) h λk h=>xG h λxs e h=>dM h λc h=>jZ h λp h=>jZ h λz h=>⟨PL e c p z h⟩
noncomputable def QL:BH:=λx as st=>A1 as λa=>iL a λl=>gD st.H[l]? λps=>.ok (.aO st.H.length) ⟨st.m,st.H++ [.vw l]⟩
theorem VU:t9 (.blt "dict.items") QL:=λ{C x as st Q X} O h=>KL (P:=P1 C _ st Q X) h λa h=>C7 (P:=λa=>P1 C _ st Q X [a]) h λl h=>gD_ h λps e h=>⟨VN e h⟩
noncomputable def KP:BH:=λx as st=>A2 as λa b=>iR a λp=>iS b λu=>iO (x.tb.pat.lookup p) λb=>.ob (cond b (okN u) (VB u)=true) (.ob (u.length≤1000000) (.ok .none st))
theorem QM:t9 (.blt "re.Pattern.search") KP:=λ{C x as st Q X} O h=>NL (P:=P1 C _ st Q X) h λa b h=>iR_ (P:=λa=>P1 C _ st Q X [a,b]) h λp h=>yL (P:=λb=>P1 C _ st Q X [_,b]) h λu h=>iJ h λb e h=>by
 have T1:=O.8.6 p b e
 cases b with
 | true=>exact jZ h λz h=>jZ h λy h=>⟨IL T1 z y h⟩
 | false=>exact jZ h λz h=>jZ h λy h=>⟨IM T1 z y h⟩
noncomputable def QN:BH:=λx as st=>A1 as λa=>iI a λi=>.ask λw=>match w with
 | .nat k=>.ob (i=(k:Int)) (.ob (k < 1000000) (.ok (.aO st.H.length) ⟨st.m,st.H++ [.oK k]⟩))
 | _=>nK i λk=>.ob (k < 1000000) (.ok (.aO st.H.length) ⟨st.m,st.H++ [.oK k]⟩)
theorem VV:t9 (.typ "range") QN:=λ{C x as st Q X} O h=>KL (P:=P1 C _ st Q X) h λa h=>oJ (P:=λa=>P1 C _ st Q X [a]) h λi h=>pN h λw h=>by
 cases w <;> first | exact kM (P:=λi=>P1 C _ st Q X [.int i]) h λk h=>jZ h λp h=>⟨KA p h⟩ | exact jZ h λe h=>jZ h λp h=>e▸⟨KA p h⟩
noncomputable def ZA:BH:=λx as st=>A1 as λa=>match a with
 | .tup xs=>hZ (vN xs) (.ok (.aO (st.H.length+1)) ⟨st.m,st.H++ [.OV xs]++ [.AH st.H.length]⟩)
 | .aO l=>gL st.H[l]? λxs=>.ok (.aO (st.H.length+1)) ⟨st.m,st.H++ [.lit l]++ [.AH st.H.length]⟩
 | _=>.no
theorem aB2:t9 (.typ "enumerate") ZA:=λ{C x as st Q X} O h=>KL (P:=P1 C _ st Q X) h λa h=>by
 cases a <;> first | exact h.elim | skip
 case tup=>exact dM h λc h=>⟨VG c h⟩
 case aO=>exact xG h λxs e h=>⟨aA0 e h⟩
noncomputable def KQ:BH:=λx as st=>A1 as λa=>iL a λl=>gL st.H[l]? λxs=>.ask λw=>match w with
 | .perm ls rs=>.ob (xs=ls.map .str∧ls.length < 64) (.ob (rs.Perm ls∧sortedS (rs.map c8)=true) (.ok (.aO st.H.length) ⟨st.m,st.H++ [.lst (rs.map .str)]⟩))
 | _=>.no
theorem QO:t9 (.blt "sorted") KQ:=λ{C x as st Q X} O h=>KL (P:=P1 C _ st Q X) h λa h=>C7 (P:=λa=>P1 C _ st Q X [a]) h λl h=>xG h λxs e h=>pN h λw h=>by
 cases w <;> first | exact h.elim | exact jZ h λp h=>jZ h λz h=>⟨P7 (e.trans (congrArg (λz=>some (Pc.lst z)) p.1)) p.2 z.1 z.2 h⟩
noncomputable def aGS:BH:=λx as st=>A2 as λa b=>iI a λi=>iI b λj=>hZ x.hn (.ok (.int (if j > i then j else i)) st)
theorem aGT:t9 (.blt "max") aGS:=λ{C x as st Q X} O h=>NL (P:=P1 C _ st Q X) h λa b h=>oJ (P:=λa=>P1 C _ st Q X [a,b]) h λi h=>oJ (P:=λb=>P1 C _ st Q X [_,b]) h λj h=>dM h λc h=>⟨aF5 (O.4 c) h⟩
noncomputable def aGU:BH:=λx as st=>A2 as λa b=>iI a λi=>iI b λj=>hZ x.hn (.ok (.int (if j < i then j else i)) st)
theorem aGV:t9 (.blt "min") aGU:=λ{C x as st Q X} O h=>NL (P:=P1 C _ st Q X) h λa b h=>oJ (P:=λa=>P1 C _ st Q X [a,b]) h λi h=>oJ (P:=λb=>P1 C _ st Q X [_,b]) h λj h=>dM h λc h=>⟨aF6 (O.4 c) h⟩
noncomputable def KR:BH:=λx as st=>A2 as λa b=>iL a λl=>iS b λu=>gL st.H[l]? λxs=>.ask λw=>match w with
 | .strs ls=>.ob (xs=ls.map .str∧ls.findIdx (· ==u) < ls.length∧ls.length≤1000000) (.ok (.int (ls.findIdx (· ==u):Nat)) st)
 | _=>.no
theorem QP:t9 (.blt "list.index") KR:=λ{C x as st Q X} O h=>NL (P:=P1 C _ st Q X) h λa b h=>C7 (P:=λa=>P1 C _ st Q X [a,b]) h λl h=>yL (P:=λb=>P1 C _ st Q X [_,b]) h λu h=>xG h λxs e h=>pN h λw h=>by
 cases w <;> first | exact h.elim | exact jZ h λp h=>⟨FN (e.trans (congrArg (λz=>some (Pc.lst z)) p.1)) p.2.1 p.2.2 h⟩
noncomputable def KS:BH:=λx as st=>SS as λu v=>.ask λw=>match w with
 | .nat k=>.ob (jR u v 0 u.length=some k) (.ok (.int k) st)
 | _=>iO (jR u v 0 u.length) λk=>.ok (.int k) st
theorem QQ:t9 (.blt "str.index") KS:=λ{C x as st Q X} O h=>SS_ (P:=P1 C _ st Q X) h λu v h=>pN h λw h=>by
 cases w <;> first | exact jZ h λp h=>⟨FM p h⟩ | exact iJ h λk e h=>⟨FM e h⟩
noncomputable def ZB:BH:=λx as st=>A1 as λa=>match a with
 | .str _=>.ok (.typ "str") st
 | .aO l=>gL st.H[l]? λxs=>.ok (.typ "list") st
 | _=>.no
theorem aB3:t9 (.typ "type") ZB:=λ{C x as st Q X} O h=>KL (P:=P1 C _ st Q X) h λa h=>by
 cases a <;> first | exact h.elim | skip
 case str=>exact⟨U9 h⟩
 case aO=>exact xG h λxs e h=>⟨VA e h⟩
noncomputable def exN:List (String×String):=[("ValueError","ValueError")]
theorem aK6:Al ExcStrFacts exN:=.cons F.excStr_ValueError .nil
noncomputable def aGW:BH:=λx as st=>A1 as λa=>iL a λl=>iO st.H[l]? λp=>iO p.isX λz=>iO (exN.lookup z.1) λY=>.ok (.str z.2) st
theorem aGX:t9 (.typ "str") aGW:=λ{C x as st Q X} O h=>KL (P:=P1 C _ st Q X) h λa h=>C7 (P:=λa=>P1 C _ st Q X [a]) h λl h=>iJ h λp e h=>iJ h λz e2 h=>iJ h λY e3 h=>⟨aBH (aK6.at e3) (e.trans (congrArg some (Pc.aK4 e2))) h⟩
end
section
variable {C:Ctx} {A:cF} {g:c9} {ρ ρ0:Roo} {st:aK} {s:aM} {h0:c9} {uQ:dO} {k0:Nat} {X:XQ}
theorem aGY(x:Str):BD x="str_ascii_iterator"∨BD x="str_iterator":=by
 unfold BD
 split
 ·exact .inl rfl
 ·exact .inr rfl
theorem aGZ{nm:String}(h:nm="str_ascii_iterator"∨nm="str_iterator"):(["enumerate","zip","dict_itemiterator","dict_reverseitemiterator","odict_iterator","itertools.zip_longest","itertools.pairwise"]:List String).contains nm=false∧nm≠"tuple":=by
 cases h with
 | inl h=>subst h;exact⟨by decide,by decide⟩
 | inr h=>subst h;exact⟨by decide,by decide⟩
theorem FS{l:List Nat}:rT C uQ k0 (.str l) (l.map λc=>.str [c]) [] st st:=λ{A g ρ0 ρ h0 s v} a L hk hv=>by
 refine cD hv λt dF=>?_;subst dF
 have hty:=aGY (c8 l)
 have cps:∀i:Nat,(c8 l).cps[i]? =l[i]? :=λi=>cY ..
 refine wpAny_pyIter_strU (xW.new a L (nm:=BD (c8 l)) (K:=λj h=>h.IsStrIter s.heap.objs.size (BD (c8 l)) (c8 l) t j) ⟨_,bV _ rfl,rfl,rfl⟩
  ⟨aGZ hty,λj h h' k hk Y=>k.elim λo k=>⟨o,hk o k.1,k.2⟩,λj h k=>k.elim λo k=>⟨o,k.1,k.2.1⟩,λ{A' s'} K=>?_,λ{A' s' j ρ'} hh K lb _=>?_⟩)
 ·cases hty with
  | inl ty=>rw[ty] at K;exact wpAny_pyIter_striter_ascii K ⟨rfl,rfl⟩
  | inr ty=>rw[ty] at K;exact wpAny_pyIter_striter_wide K ⟨rfl,rfl⟩
 ·rw[bX]
  cases hx:l[j]? with
  | none=>
   cases hty with
   | inl ty=>rw[ty] at K;exact wpAny_pyNext_ascii_end hh K ((cps j).trans hx) λh' zW=>⟨h',_,rfl,rfl,zW⟩
   | inr ty=>rw[ty] at K;exact wpAny_pyNext_wide_end hh K ((cps j).trans hx) λh' zW=>⟨h',_,rfl,rfl,zW⟩
  | some c=>
   cases hty with
   | inl ty=>rw[ty] at K ⊢;exact wpAny_pyNext_ascii_item K ((cps j).trans hx) λh' K' hs=>⟨_,h',_,rfl,rfl,hs,λT=>⟨⟨_,rfl⟩,K'⟩⟩
   | inr ty=>rw[ty] at K ⊢;exact wpAny_pyNext_wide_item K ((cps j).trans hx) λh' K' hs=>⟨_,h',_,rfl,rfl,hs,λT=>⟨⟨_,rfl⟩,K'⟩⟩
end
section
open PySem.SeqAt Builtin Builtin.ObjectAttr
theorem yP:Slot "method_descriptor" "__get__" "method_descriptor.__get__":=
 .of (owner:="method_descriptor") (n:="__get__") (by rw[dH,cL];kernel_rfl) (by decide +kernel) (by decide +kernel) (by decide +kernel)
  (by first | exact .inl (by decide +kernel) | exact .inr (by decide +kernel)) (by rw[jY];kernel_rfl)
theorem FT:D3 table "method_descriptor.__get__"=some lS.«method_descriptor.__get__»:=oI ⋯
theorem IW(a b c:aJ):argsOk "method_descriptor.__get__" ⟨[a,b,c],[]⟩:=by unfold argsOk;kernel_rfl
theorem NN{M:rL}{A:cF}{E:aJ->aM->Prop}{s:aM}{a:cI}{P:PySem.Fin->aM->Prop}(hT:s.TypeIs (.ref a) "list")(h:P (.done (.ret (.ref s.heap.objs.size))) { s with heap:=s.heap.push { cls:=.type "builtin_function_or_method",data:=.fields #[.builtin "list.append",.ref a] } }):
  bZ M A (lS.«method_descriptor.__get__» ⟨[.builtin "list.append",.ref a,.type "list"],[]⟩) P E s:=by
 have f4:isSubtype (.type "list") (.type "list")=pure true:=by rw[jY];kernel_rfl
 unfold lS.«method_descriptor.__get__»
 refine aC (jS (a:=(.builtin "list.append",some (.ref a),some (.type "list"))) (by first | rfl | kernel_rfl) ?_)
 dsimp only
 rw[show Manifest.toldItsClass.contains "list.append"=false by decide +kernel,if_neg bH]
 refine aC (aC (jS (a:=((gV "append":Str),tJ "list")) (by first | rfl | kernel_rfl) (aC (uZ (T:="list") (b:=true) hT f4 (aI ?_)))))
 exact aC (jG (aI h))
theorem C8(a:cI)(xs:Array aJ)(k:Nat)(sl:Array (Option aJ))(u:Tok):Meets (lS.«object.__getattribute__» ⟨[.ref a,.str "append" u],[]⟩) (λ_ R s=>s.heap.get? a=some { cls:=.type "list",dict:=none,data:=.seq xs k,slots:=sl }∧
  R (.ok (.ret (.ref s.heap.objs.size))) { s with heap:=s.heap.push { cls:=.type "builtin_function_or_method",data:=.fields #[.builtin "list.append",.ref a] } }):=
 Meets.of_wp λprog w A R s hs=>by
  obtain⟨hp,g,d,tk,os⟩:=s
  refine d5 hs λhx hs=>?_
  have hT:(⟨hp,g,d,tk,os⟩:aM).TypeIs (.ref a) "list":=⟨_,hx,rfl⟩
  have f1:=PySem.F.slot_list_append.lookup
  have f2:=PySem.F.type_list_append
  have f3:=yP.lookup
  have f4:isSubtype (.type "list") (.type "list")=pure true:=by rw[jY];kernel_rfl
  have f5:gO (.type "method_descriptor") "__set__"=pure none:=by rw[dH,cL];kernel_rfl
  have f6:gO (.type "method_descriptor") "__delete__"=pure none:=by rw[dH,cL];kernel_rfl
  unfold lS.«object.__getattribute__»
  repeat (any_goals (first | assumption | ((with_reducible show bZ _ _ (call (Value.builtin "method_descriptor.__get__") _ _) _ _ _);refine gQ yP f2 FT (NN hT ⟨_,rfl, ?_⟩) (IW _ _ _)) | wp_step))
  exact⟨_,rfl,hs⟩
theorem yQ{prog:rM}{w:World}{A:cF}{E:aJ->aM->Prop}{s:aM}{a:cI}{xs:Array aJ}{k:Nat}{Q:aJ->aM->Prop}(hx:IsL s.heap a xs k)
  (h:∀tk,Q (.ref s.heap.objs.size) { s with heap:=s.heap.push { cls:=.type "builtin_function_or_method",data:=.fields #[.builtin "list.append",.ref a] },toks:=tk }):bZ (c0 prog w) A (getAttr (.ref a) "append" true) Q E s:=by
 obtain⟨hp,g,d,tk,os⟩:=s
 have hT:∀tk',(⟨hp,g,d,tk',os⟩:aM).TypeIs (.ref a) "list":=λ_=>⟨_,hx,rfl⟩
 have f3:=mD.lookup
 have f4:=mD.bind (.ref a)
 have f5:=am_list_getattr_none
 unfold getAttr getAttrBy
 repeat (any_goals (first | assumption | exact hT _ | ((with_reducible show bZ _ _ (call (Value.builtin "list.__getattribute__") _ _) _ _ _);refine lY mD (hT _) am_entry_list_getattribute (PySem.F.args_list_getattribute_2 _ _) (C8 a xs k _ _) ⟨hx, ?_⟩) | wp_step))
 show bZ _ _ (handedOut (.ref _)) _ _ _
 rw[handedOut_of rfl]
 exact aI (h _)
section
variable {C:Ctx} {st:aK} {X:XQ} {Q:aA->aK->Prop} {l:Nat} {xs:List aA}
theorem FU(e:st.H[l]? =some (.lst xs))(q:Q (.aO st.H.length) ⟨st.m,st.H++ [.gone]⟩):EL C "append" (.aO l) st Q X:=λa hv=>by
 cases a.x5 e hv with
 | mk x vs n hx hl jB=>
  exact yQ hl λtk=>a.UV (p:=.gone) (.ty rfl (by decide)) (λ_ _ _=>.ty rfl (by decide)) q trivial rfl
end
end
structure SE where
 e:aK->RM
 t:aK->R aK Bool
 a:aK->R aK (List aA)
 b:BoolOp->aK->RM
 c:BoolOp->aK->R aK Bool
 p:aK->RM
 g:aA->aK->R aK Unit
 h:List aA->aK->R aK Unit
 f:aK->R aK Bool
 w:List (Nat×Nat)->aK->R aK (List aA)
noncomputable def VW:SE:=⟨λY=>.no,λY=>.no,λY=>.no,λY Y=>.no,λY Y=>.no,λY=>.no,λY Y=>.no,λY Y=>.no,λY=>.no,λY Y=>.no⟩
noncomputable def ZC(e:aK->RM)(t:aK->R aK Bool):SE:={ VW with e:=e,t:=t }
noncomputable def FV(e:aK->RM):SE:=ZC e λst=>(e st).bind QC
noncomputable def R.nx{σ α:Type}(r:R σ α):R σ α:=R.rec .no (λa s=>.ok a s) (λp Y r=>.ob p r) (λc Y Y x y=>.br c x y) (λY g=>.ask g) (λY Y Y Y=>.no) r
theorem R.nx_{σ α:Type}{Q:α->σ->Prop}{X X':Bool->String->aA->σ->Prop}{r:R σ α}:r.nx.post Q X->r.post Q X':=by
 induction r with
 | ob p r ih=>exact nR id ih
 | br c x y i1 i2=>exact nR (λh c=>i1 (h c)) (λh c=>i2 (h c))
 | ask k ih=>exactλh=>h.elim λw h=>⟨w,ih w h⟩
 | no=>exact id
 | ok=>exact id
 | ex=>exact False.elim
noncomputable def rV(x:Cx)(i:Nat)(st:aK):RM:=iO x.ns[i]? λY=>hZ (!(eK i x.db)) (iO st.m[i]? λo=>iO o λb=>.ok b.wk st)
noncomputable def dB.KU(k:dB):Bool:=match k with | .local=>true | _=>false
noncomputable def dB.QR(k:dB):Bool:=match k with | .cell=>true | _=>false
noncomputable def ZD(x:Cx)(i:Nat)(a:aA)(st:aK):R aK Unit:=iO x.ns[i]? λz=>hZ (dB.KU z.2 || (dB.QR z.2 && !(mem i x.cp))) (.ok () ⟨st.m.set i (some a),st.H⟩)
noncomputable def bT:List (String×BH):=[("len",aGM),("iter",Y6),("list.append",hAppend),("str.join",Y7),("str.lower",QI),("str.upper",QH),("str.split",QD),("str.find",QF),("str.startswith",KN),("str.endswith",Y8),("str.rfind",QG),("list.insert",KO),("list.pop",aGQ),("dict.items",QL),("re.Pattern.search",KP),("str.count",QJ),("sum",aGO),("sorted",KQ),("max",aGS),("min",aGU),("list.index",KR),("str.index",KS)]
noncomputable def tT:List (String×BH):=[("str",aGW),("range",QN),("enumerate",ZA),("type",ZB)]
noncomputable def aG0(x:Cx)(a:cI)(as:List aA)(kn:List Str)(ks:List aA)(st:aK):RM:=iO (x.tb.cls.lookup a) λf=>iO (x.tb.fns.lookup f) λe=>hZ (dT e.1 x.n && x.hn) (yN st.m ((e.2 (.aO (st.H.length+1)::as) kn ks (st.H++ [.ns []]++ [.inst a st.H.length])).bind λr H=>iN r (.ok (.aO (st.H.length+1)) H)))
noncomputable def aB4(x:Cx)(a:cI)(as:List aA)(kn:List Str)(ks:List aA)(st:aK):RM:=
 Option.rec (Option.rec (aG0 x a as kn ks st) (λe=>hZ (eB e.1 x.n && x.hn && x.fc) (liftM st.m (e.2 as kn ks st.H))) (x.tb.IV.lookup a))
  (λe=>hZ (eB e.1 x.n && x.hn) (yN st.m (e.2 as kn ks st.H))) (x.tb.fns.lookup a)
noncomputable def Pc.IX(p:Pc):Option (Nat×List Nat):=match p with | .hC b t=>some (b,t) | _=>none
noncomputable def Pc.isE(p:Pc):Bool:=match p with | .tL=>true | _=>false
noncomputable def uA(l:Nat)(st:aK):Bool:=match st.H[l]? with
 | some p=>p.isE || p.IX.isSome
 | none=>false
noncomputable def IY(x:Cx)(l:Nat)(st:aK):R aK (Option aA):=iO st.H[l]? λp=>cond p.isE (.ok none st) (iO p.IX λz=>iO st.H[z.1]? λq=>iO q.isM λy=>
 iO (x.tb.fns.lookup y.1) λe=>hZ (dT e.1 x.n && x.hn) ((yN st.m (e.2 [.aO y.2] [] [] st.H)).bind λr fR=>iS r λu=>
  iO (fR.H[l]?.bind Pc.IX) λz'=>iO (fR.H[z.1]?.bind Pc.isM) λy'=>.ob (z'=z∧y'=y) (.br (z.2==u) (.ok none ⟨fR.m,fR.H.set l .tL⟩) (.ok (some (.str u)) fR))))
noncomputable def vV(x:Cx)(l S:Nat):Nat->aK->RM
 | 0,_=>.no
 | n+1,st=>hZ (uA l st) (gL st.H[S]? λacc=>(IY x l st).bind λr bW=>Option.rec (.ok (.aO S) bW) (λv=>hZ v.pure (.ob (bW.H[S]? =some (.lst acc)) (.ob (acc.length < 100000) (vV x l S n ⟨bW.m,bW.H.set S (.lst (acc++ [v]))⟩)))) r)
noncomputable def fuel:Nat:=1000000
noncomputable def ZE:BH:=λx as st=>A1 as λa=>match a with
 | .str u=>hZ x.hn (.ob (u.length≤1000000) (.ok (.aO st.H.length) ⟨st.m,st.H++ [.lst (u.map λc=>.str [c])]⟩))
 | .aO l=>hZ (x.hn && eB 4 x.n && uA l st) (vV { x with n:=x.n - 4 } l st.H.length fuel ⟨st.m,st.H++ [.lst []]⟩).nx
 | _=>.no
noncomputable def NO(x:Cx)(fa:aA)(as:List aA)(kn:List Str)(ks:List aA)(st:aK):RM:=match fa with
 | .blt id=>hZ (kn.isEmpty && ks.isEmpty) (iO (bT.lookup id) λh=>h x as st)
 | .typ id=>hZ (kn.isEmpty && ks.isEmpty) (cond (id=="list") (ZE x as st) (iO (tT.lookup id) λh=>h x as st))
 | .ref a=>aB4 x a as kn ks st
 | .aO l=>hZ (kn.isEmpty && ks.isEmpty && x.hn && eB 1 x.n) (iO x.tb.lam λfx=>yN st.m (fx [.aO l] as st.H))
 | _=>.no
noncomputable def ZF(x:Str)(fs:List (Str×aA)):Bool:=(fs.lookup x).isNone
noncomputable def Pc.isF(p:Pc):Option Nat:=match p with | .tG _ _ (some d)=>some d | _=>none
noncomputable def aK7(x:Cx)(j l:Nat)(z:cI×Nat)(st:aK):R aK (aA×List aA):=gN st.H[z.2]? λfs=>hZ (ZF (an j) fs) (iO (x.tb.met.lookup (z.1,an j)) λf=>.ok (.ref f,[.aO l]) st)
noncomputable def aK8(j:Nat)(d:Nat)(st:aK):R aK (aA×List aA):=hZ (eK j 24) (gN st.H[d]? λfs=>iO (fs.lookup (an j)) λb=>iL b λg=>.ok (.aO g,[]) st)
noncomputable def rGm(x:Cx)(j:Nat)(a:aA)(st:aK):R aK (aA×List aA):=match a with
 | .str u=>iO (aGK.lookup j) λid=>.ok (.blt id,[.str u]) st
 | .ref p=>hZ (eK j 25) (iO (x.tb.pat.lookup p) λY=>.ok (.blt "re.Pattern.search",[.ref p]) st)
 | .aO l=>iO st.H[l]? λp=>Option.rec (Option.rec (Option.rec (iO p.isD λY=>hZ (eK j 14) (.ok (.blt "dict.items",[.aO l]) st)) (λd=>aK8 j d st) p.isF) (λz=>aK7 x j l z st) p.isI) (λY=>iO (aGL.lookup j) λid=>.ok (.blt id,[.aO l]) st) p.Y0
 | _=>.no
noncomputable def ZG(x:Cx)(j l:Nat)(z:cI×Nat)(st:aK):RM:=gN st.H[z.2]? λfs=>Option.rec (iO (x.tb.bnd.lookup (z.1,an j)) λf=>.ok (.aO st.H.length) ⟨st.m,st.H++ [.m6 f l]⟩) (λc=>iO (x.tb.att.lookup (z.1,an j)) λY=>hZ c.handed (.ok c st)) (fs.lookup (an j))
noncomputable def aB5(x:Cx)(j:Nat)(a:aA)(st:aK):RM:=iL a λl=>iO st.H[l]? λp=>Option.rec (iO p.isI λz=>ZG x j l z st) (λ_=>hZ (eK j 0) (.ok (.aO st.H.length) ⟨st.m,st.H++ [.gone]⟩)) p.Y0
noncomputable def aB6(x:Cx)(j:Nat)(a c:aA)(st:aK):R aK Unit:=iL a λl=>gI st.H[l]? λK d=>gN st.H[d]? λfs=>iO (x.tb.att.lookup (K,an j)) λY=>hZ (eB fs.length 900) (.ok () ⟨st.m,st.H.set d (.ns (HS (an j) c fs))⟩)
noncomputable def FW(zs:List (Pos×Nat))(pos:Pos):Option Nat:=List.rec none (λz _ ih=>cond (eK z.1.line pos.line && eK z.1.col pos.col) (some z.2) ih) zs
noncomputable def Pc.isT(p:Pc):Option (cI×List (Pos×Nat)):=match p with | .iG T zs=>some (T,zs) | _=>none
noncomputable def iF.pl(sc:iF):Bool:=(match sc.kind with | .function=>true | _=>false) && !sc.isCoroutine && !sc.isGenerator
noncomputable def lm1(ps:List (Str×Nat))(sc:iF):Option (Str×Str):=match ps,sc.names with
 | [a],[b,c]=>cond (a.1==b.1 && b.2==.local && c.2==.free && !(b.1==c.1) && iF.pl sc && (b.1==("low":Str) || b.1==("row":Str))) (some (b.1,c.1)) none
 | _,_=>none
noncomputable abbrev VX(sc:iF)(b:E)(y:Str×Str):xP:=⟨sc.names,(eD (C6 sc) b).e,y.2,[y.1]⟩
noncomputable def OL(ns:fF)(y:Str):Nat:=ns.findIdx (·.1==y)
noncomputable def aG1(h:List Pc×Nat)(L:xP)(q:Str)(bv:aA):List Pc:=h.1++ [.wI L q (h.1.length+1) h.2,.rC bv]
noncomputable def aK9(fx:Fx)(as:List aA)(y:Str)(h:List Pc×Nat)(L:xP)(q:Str)(bv:aA)(st:aK):RM:=hZ (lK h.1.length h.1.length h.1) ((yN st.m (fx as [y] [.aO h.1.length] (aG1 h L q bv))).bind λr fR=>.ob (fR.H=aG1 h L q bv) (hZ (r.all λ_=>false) (.ok r ⟨st.m,h.1⟩)))
noncomputable def rKey(x:Cx)(j:Nat)(ps:List (Str×Nat))(b:E)(sc:iF)(lp:Nat)(fa:aA)(as:List aA)(st:aK):RM:=iO x.lm λz=>iR fa λa=>iO (x.tb.fns.lookup a) λe=>iO (lm1 ps sc) λy=>iO x.ns[OL x.ns y.2]? λw=>
 hZ (w.1==y.2 && dB.QR w.2 && !(mem (OL x.ns y.2) x.cp) && takes x.ns sc.names && x.hn && eB e.1 x.n) (iO st.m[OL x.ns y.2]? λo=>iO o λbv=>iO (st.H[z.l]?.bind Pc.isT) λt=>hZ (eK t.1 z.T && t.2.all λp=>dT p.2 st.H.length)
  (aK9 e.2 as (an j) (M8 (FW t.2 (dp lp)) st.H z.l z.T t.2 (dp lp) z.q) (VX sc b y) z.q bv st))
noncomputable def nV{α:Type}(need:List (Nat×Pc))(st:aK)(r:R aK α):R aK α:=List.rec r (λp Y ih=>.ob (st.H[p.1]? =some p.2) ih) need
noncomputable def Pc.QS(p:Pc):Option Nat:=match p with | .oK k=>some k | _=>none
noncomputable def Pc.ZH(p:Pc):Option Nat:=match p with | .AH k=>some k | _=>none
noncomputable def Pc.isLit(p:Pc):Option Nat:=match p with | .lit k=>some k | _=>none
noncomputable def Pc.QT(p:Pc):Option (List aA):=match p with | .OV k=>some k | _=>none
noncomputable def E.isTup(e:E):Bool:=match e with | .tup _ _=>true | _=>false
noncomputable def TL{α:Type}(t:E)(k0:Nat)(a:aA)(st:aK)(k:List aA->List (Nat×Pc)->aK->R aK α):R aK α:=match a with
 | .tup xs=>k xs [] st
 | .str u=>k (u.map λc=>.str [c]) [] st
 | .aO l=>iO st.H[l]? λp=>Option.rec (Option.rec
   (iO p.ZH λi=>hZ (eK l (i+1) && eB k0 i && t.isTup && lK i i st.H) (iO st.H[i]? λq=>Option.rec (iO q.isLit λl2=>hZ (dT l2 i) (gL st.H[l2]? λxs=>k (rW 0 xs) [(l2,.lst xs)] (st.cut i))) (λxs=>k (rW 0 xs) [] (st.cut i)) q.QT))
   (λn=>.ob (n < 1000000) (k ((cE n).map λj=>aA.int (j:Nat)) [] st)) p.QS) (λxs=>k xs [(l,.lst xs)] st) p.Y0
 | _=>.no
noncomputable def m8(turn:aA->aK->R aK Unit)(need:List (Nat×Pc))(k:Nat):List aA->aK->R aK Unit
 | [],st=>.ok () st
 | y::ys,st=>(turn y st).bind λY fR=>hZ (lK k k fR.H) (nV need (fR.cut k) (m8 turn need k ys (fR.cut k)))
noncomputable def yV(x:Cx)(sc:iF)(t:E)(it:aK->RM)(turn:Nat->aA->aK->R aK Unit)(p0:Pc)(st:aK):RM:=(it st).bind λa st1=>TL t st.H.length a st1 λys need bW=>
 ((nV need ⟨[],bW.H++ [p0]⟩ (m8 (turn bW.H.length) need (bW.H.length+1) ys ⟨H7 x.G x.ns bW.m sc.names,bW.H++ [p0]⟩)).nx).bind λY fL=>.ok (.aO bW.H.length) ⟨bW.m,fL.H⟩
noncomputable def cW(r:RM):RM:=.ask λw=>match w with
 | .cmp a st=>.ob (r.good (.ok a st)) (.ok a st)
 | _=>r
theorem cW_{r:RM}{Q:aA->aK->Prop}{X:Bool->String->aA->aK->Prop}(h:(cW r).post Q X):r.post Q X:=pN h λw h=>by
 cases w <;> first | exact h | exact jZ h λg q=>R.good.post g q
noncomputable def IZ(l:List Str):Bool:=
 List.rec true (λa r ih=>!(r.any (· ==a)) && ih) l
noncomputable def scB(ns:fF)(sc:iF):Bool:=(match sc.kind with | .function=>true | _=>false) && IZ (sc.names.map (·.1)) && takes ns sc.names && sc.names.all λp=>jL p.1
noncomputable def Cx.lI(x:Cx)(sc:iF):Cx:={ x with ns:=CW x.ns sc.names,cp:=aA2 sc.names,fc:=false,db:=1000000,lm:=none }
noncomputable def vW(acc:Nat)(e:aK->RM)(st:aK):R aK Unit:=(e st).bind λb st1=>gL st1.H[acc]? λxs=>hZ b.pure (.ob (xs.length≤1000000) (.ok () ⟨st1.m,st1.H.set acc (.lst (xs++ [b]))⟩))
noncomputable def tests(f:aK->R aK Bool)(k:aK->R aK Unit)(st:aK):R aK Unit:=(f st).bind λc st1=>.br c (k st1) (.ok () st1)
noncomputable def QU(l:E):Bool:=match l with | .nil=>true | .cons _ r=>(match r with | .nil=>true | _=>false) | _=>false
noncomputable def bB{α:Type}(o:BoolOp)(c:Bool)(r q:R aK α):R aK α:=match o with | .And=>.br c r q | .Or=>.br c q r
noncomputable def isNil(r:E):Bool:=match r with | .nil=>true | _=>false
noncomputable def I0(r:E):Bool:=match r with | .cons _ _=>true | _=>false
theorem I1{r:E}:isNil r=true->r= .nil:=by
 cases r with
 | nil=>exactλY=>rfl
 | _=>exact eV
theorem VY{r:E}:I0 r=true->∃a b,r= .cons a b:=by
 cases r with
 | cons a b=>exactλY=>⟨a,b,rfl⟩
 | _=>exact eV
theorem QV{r:E}:r.isTup=true->∃a b,r= .tup a b:=by
 cases r with
 | tup a b=>exactλY=>⟨a,b,rfl⟩
 | _=>exact eV
noncomputable def rTL(a:aA)(st:aK)(k:List aA->R aK Unit):R aK Unit:=match a with | .tup xs=>k xs | .aO l=>gL st.H[l]? k | _=>.no
noncomputable def ev(i:E):Cx->SE:=
 E.rec (motive:=λ_=>Cx->SE)
  (λ_=>{ VW with a:=λst=>.ok [] st,c:=λo st=>.no,p:=λst=>.ok .none st,h:=λas st=>.ok () st,f:=λst=>.ok true st,w:=λks st=>(match ks with | []=>.ok [] st | _=>.no) })
  (λa r ha hr x=>{ VW with
   a:=λst=>((ha x).e st).bind λb st1=>((hr x).a st1).bind λbs bW=>.ok (b::bs) bW
   b:=λo st=>cond (isNil r) ((ha x).e st) (hZ (I0 r) (((ha x).e st).bind λb st1=>(QC b st1).bind λc bW=>bB o c ((hr x).b o bW) (.ok b bW)))
   c:=λo st=>((ha x).t st).bind λc st1=>cond (isNil r) (.ok c st1) (bB o c ((hr x).c o st1) (.ok c st1))
   p:=λst=>(ha x).e st
   h:=λas st=>(match as with | b::bs=>((ha x).g b st).bind λY st1=>(hr x).h bs st1 | []=>.no)
   f:=λst=>((ha x).t st).bind λc st1=>.br c ((hr x).f st1) (.ok false st1)
   w:=λks st=>(match ks with | _::ks'=>((ha x).e st).bind λb st1=>((hr x).w ks' st1).bind λbs bW=>.ok (b::bs) bW | []=>.no) })
  (λi _ x=>{ FV (rV x i) with g:=λb st=>ZD x i b st })
  (λc _ _=>FV λst=>.ok (kcA c) st)
  (λo _ _ _ ha hb x=>FV λst=>((ha x).e st).bind λu st1=>((hb x).e st1).bind λv bW=>aGD o u v bW)
  (λo _ _ ha x=>ZC (λst=>(match o with
   | .USub=>((ha x).e st).bind λu st1=>iI u λi=>.ok (.int (-i)) st1
   | _=>.no)) (λst=>(match o with
   | .Not=>((ha x).t st).bind λc st1=>.ok (!c) st1
   | _=>.no)))
  (λo _ _ _ ha hb x=>ZC (λst=>((ha x).e st).bind λu st1=>((hb x).e st1).bind λv bW=>QB o u v bW)
   (λst=>((ha x).e st).bind λu st1=>((hb x).e st1).bind λv bW=>(QB o u v bW).bind λc fL=>iB c λc=>.ok c fL))
  (λo _ _ wR x=>ZC (λst=>(wR x).b o st) (λst=>(wR x).c o st))
  (λt _ _ _ ht ha hb x=>ZC (λst=>((ht x).t st).bind λc st1=>.br c ((ha x).e st1) ((hb x).e st1)) λY=>.no)
  (λ_ _ _ ho hi x=>FV λst=>((ho x).e st).bind λu st1=>((hi x).e st1).bind λv bW=>Y3 u v bW)
  (λ_ lo hi st _ p ho hlo hhi hst x=>FV λs=>hZ (QU lo && QU hi && QU st) (((ho x).e s).bind λu s1=>((hlo x).p s1).bind λa s2=>((hhi x).p s2).bind λb s3=>((hst x).p s3).bind λc s4=>aGI u a b c s4))
  (λes _ wR x=>{ FV (λst=>((wR x).a st).bind λas st1=>hZ (eB as.length 1000000) (.ok (.tup as) st1)) with
   g:=λb st=>rTL b st λxs=>hZ (x.hn && eK es.cnt xs.length) ((wR x).h xs st) })
  (λ_ _ wR x=>FV λst=>((wR x).a st).bind λas st1=>hZ (eB as.length 1000000 && vN as) (.ok (.aO st1.H.length) ⟨st1.m,st1.H++ [.lst as]⟩))
  (λf _ ks _ _ hf wR IU x=>FV λst=>hZ f.FP (((hf x).e st).bind λfa st1=>((wR x).a st1).bind λas bW=>((IU x).w ks bW).bind λkv fL=>NO x fa as (ks.map λk=>an k.1) kv fL))
  (λo j q es ks _ p ho wR IU x=>FV λst=>hZ (o.yJ && dT (es.cnt+ks.length+1) 30 && eK (dp q).endLine (dp p).line) (((ho x).e st).bind λb st1=>(rGm x j b st1).bind λfx bW=>((wR x).a bW).bind λas fL=>((IU x).w ks fL).bind λkv j6=>NO x fx.1 (fx.2++as) (ks.map λk=>an k.1) kv j6))
  (λo j _ ho x=>FV λst=>hZ o.yJ (((ho x).e st).bind λb st1=>aB5 x j b st1))
  (λe t _ _ sc _ he ht hit aBP x=>FV λst=>hZ (x.hn && scB x.ns sc) (cW (yV x sc t (hit x).e (λacc y st=>((ht (x.lI sc)).g y st).bind λY st1=>tests (aBP (x.lI sc)).f (vW acc (he (x.lI sc)).e) st1) (.lst []) st)))
  (λe t _ t2 _ sc _ he ht hit ht2 aBQ x=>FV λst=>hZ (x.hn && scB x.ns sc) (cW (yV x sc t (hit x).e (λacc y st=>((ht (x.lI sc)).g y st).bind λY st1=>((aBQ (x.lI sc)).e st1).bind λa bW=>TL t2 st1.H.length a bW λys need fL=>
   nV need fL (m8 (λy st=>((ht2 (x.lI sc)).g y st).bind λY st1=>vW acc (he (x.lI sc)).e st1) need fL.H.length ys fL)) (.lst []) st)))
  (λo1 o2 _ _ _ _ ha hb hc x=>ZC (λY=>.no) λst=>((ha x).e st).bind λu st1=>((hb x).e st1).bind λv bW=>(QB o1 u v bW).bind λc fL=>iB c λc=>.br c (((hc x).e fL).bind λw j6=>(QB o2 v w j6).bind λd H9=>iB d λd=>.ok d H9) (.ok false fL))
  (λf _ j _ ps b sc lp _ hf wR _ x=>FV λst=>hZ f.FP (((hf x).e st).bind λfa st1=>((wR x).a st1).bind λas bW=>rKey x j ps b sc lp fa as bW))
  (λ_ _=>FV λst=>.ok (.bool true) st)
  (λ_ _ _ _ _ _=>VW) i
structure SV where
 s:aK->R aK bU
 k:aK->R aK bU
noncomputable def bU.isN(f:bU):Bool:=match f with | .next=>true | _=>false
noncomputable def KV(fl:bU)(again:aK->R aK bU)(st:aK):R aK bU:=match fl with
 | .next=>again st
 | .cont=>again st
 | .brk=>.ok .next st
 | .ret a=>.ok (.ret a) st
noncomputable def forL(u:Bool)(turn:aA->aK->R aK bU)(need:List (Nat×Pc))(k:Nat):List aA->aK->R aK bU
 | [],st=>.ok .next st
 | y::ys,st=>(turn y st).bind λfl fR=>KV fl (λfR=>hZ (MS u k fR.H) (nV need (ET u k fR) (forL u turn need k ys (ET u k fR)))) fR
noncomputable def QW(t:aK->R aK Bool)(b:aK->R aK bU):Nat->aK->R aK bU
 | 0,_=>.no
 | n+1,st=>(t st).bind λc st1=>.br c ((b st1).bind λfl bW=>KV fl (QW t b n) bW) (.ok .next st1)
noncomputable def n4(x:Cx)(turn:aA->aK->R aK bU)(l k:Nat):Nat->aK->R aK bU
 | 0,_=>.no
 | n+1,st=>(IY x l st).bind λr bW=>Option.rec (.ok .next bW) (λv=>hZ (uA l bW) ((turn v bW).bind λfl j6=>KV fl (λj6=>hZ (lK k k j6.H) (n4 x turn l k n (j6.cut k))) j6)) r
noncomputable def Pc.aG2(p:Pc):Option Nat:=match p with | .vw k=>some k | _=>none
noncomputable def QX(u:Bool)(t:E)(k0:Nat)(turn:aA->aK->R aK bU)(a:aA)(st:aK):R aK bU:=TL t k0 a st λys need bW=>(nV need bW (forL u turn need bW.H.length ys bW)).nx
noncomputable def ZI(x:Cx)(turn:aA->aK->R aK bU)(a:aA)(st:aK):R aK bU:=iL a λl=>hZ (uA l st) (n4 x turn l st.H.length fuel st).nx
noncomputable def ZJ(a:aA)(st:aK):R aK bU:=iL a λl=>iO (st.H[l]?.bind Pc.aG2) λd=>gD st.H[d]? λps=>hZ ps.isEmpty (.ok .next st)
noncomputable def Sem.isP{α:Type}(s:Sem α):Option α:=match s with | .pure a=>some a | _=>none
noncomputable def aG3(x:Cx)(l:List Str)(as:List aA)(st:aK):R aK Unit:=
 List.rec (motive:=λ_=>List aA->aK->R aK Unit) (λas st=>List.rec (.ok () st) (λ_ _ _=>.no) as) (λy _ ih as st=>List.rec .no (λa as _=>iO x.ns[OL x.ns y]? λz=>hZ (z.1==y) ((ZD x (OL x.ns y) a st).bind λ_ st1=>ih as st1)) as) l as st
noncomputable abbrev Cx.xs(x:Cx):List Str:=x.ns.map (·.1)
noncomputable def exB:List ((String×String)×Bool):=[(("ValueError","ValueError"),true)]
noncomputable def exC:List (String×Unit):=[("ValueError",())]
noncomputable def R.catch(r:R aK bU)(h:String->aA->aK->R aK bU):R aK bU:=R.rec .no (λa s=>.ok a s) (λp Y r=>.ob p r) (λc Y Y x y=>.br c x y) (λY g=>.ask g) (λf cls msg s=>hZ (!f) (h cls msg s)) r
noncomputable def aG4(x:Cx)(xi:Nat)(b:Cx->aK->R aK bU)(cls:String)(l:List Nat)(st:aK):R aK bU:=iO x.ns[xi]? λz=>hZ (dB.KU z.2) ((b { x with hn:=false } ⟨st.m.set xi (some (.aO st.H.length)),st.H++ [.OC cls l]⟩).nx.bind λfl bW=>.ok fl ⟨bW.m.set xi none,bW.H⟩)
noncomputable def aB7(x:Cx)(i:Nat)(st:aK)(k:String->R aK bU):R aK bU:=(rV x i st).bind λb Y=>iY b k
noncomputable def S.IX(s:S):Bool:=match s with | .cons _ _=>true | _=>false
noncomputable def sv(i:S):Cx->SV:=
 S.rec (motive:=λ_=>Cx->SV)
  (λ_=>⟨λY=>.no,λst=>.ok .next st⟩)
  (λs _ hs hr x=>⟨λY=>.no,λst=>((hs x).s st).bind λfl st1=>cond (fl.isN) ((hr x).k st1) (.ok fl st1)⟩)
  (λi q e p x=>⟨λst=>iO (Sem.isP (f9 (eD x.xs e).e (some (.Name (r7 x.xs i) (dp q))) (dp p).line (CJ x.ns))) λY=>((ev e x).e st).bind λa st1=>(ZD x i a st1).bind λY bW=>.ok .next bW,λY=>.no⟩)
  (λt e p x=>⟨λst=>hZ (x.hn && t.isTup) (iO (Sem.isP (f9 (eD x.xs e).e (some (eD x.xs t).e) (dp p).line (CJ x.ns))) λb=>hZ (!b) (iO (Sem.isP (mW [(eD x.xs t).e] (eD x.xs e).e (CJ x.ns))) λo=>
   Option.rec (((ev e x).e st).bind λa st1=>((ev t x).g a st1).bind λ_ bW=>.ok .next bW)
    (λnames=>((ev e x).e st).bind λa st1=>iT a λas=>hZ (eK names.length as.length) ((aG3 x names.reverse as.reverse st1).bind λY bW=>.ok .next bW)) o)),λY=>.no⟩)
  (λo j _ e _ x=>⟨λst=>hZ e.noC (((ev e x).e st).bind λc st1=>((ev o x).e st1).bind λb bW=>(aB6 x j b c bW).bind λY fL=>.ok .next fL),λY=>.no⟩)
  (λi _ o e _ x=>⟨λst=>iO x.ns[i]? λz=>hZ (dB.KU z.2) ((rV x i st).bind λb Y=>((ev e x).e st).bind λc st1=>(aBT o b c st1).bind λd bW=>.ok .next ⟨bW.m.set i (some d),bW.H⟩),λY=>.no⟩)
  (λo j _ op e _ x=>⟨λst=>((ev o x).e st).bind λb st1=>(aB5 x j b st1).bind λc bW=>((ev e x).e bW).bind λd fL=>(aBT op c d fL).bind λr j6=>(aB6 x j b r j6).bind λY H9=>.ok .next H9,λY=>.no⟩)
  (λe _ x=>⟨λst=>((ev e x).e st).bind λa st1=>.ok (.ret a) st1,λY=>.no⟩)
  (λ_ _=>⟨λst=>.ok (.ret .none) st,λY=>.no⟩)
  (λe _ x=>⟨λst=>hZ e.noC (((ev e x).e st).bind λY st1=>.ok .next st1),λY=>.no⟩)
  (λt _ _ _ hb ho x=>⟨λst=>((ev t x).t st).bind λc st1=>.br c ((hb x).k st1) ((ho x).k st1),λY=>.no⟩)
  (λn t it _ _ hb x=>⟨λst=>hZ x.hn (((ev it x).e st).bind λa st1=>match n with
   | 0=>QX false t st.H.length (λy st=>((ev t x).g y st).bind λY st1=>(hb x).k st1) a st1
   | 1=>ZI x (λy st=>((ev t x).g y st).bind λY st1=>(hb x).k st1) a st1
   | 2=>ZJ a st1
   | _=>QX true t st.H.length (λy st=>((ev t x).g y st).bind λY st1=>(hb x).k st1) a st1),λY=>.no⟩)
  (λt _ _ hb x=>⟨λst=>(QW (ev t x).t (hb x).k fuel st).nx,λY=>.no⟩)
  (λ_ _=>⟨λst=>.ok .next st,λY=>.no⟩)
  (λ_ _=>⟨λst=>.ok .brk st,λY=>.no⟩)
  (λ_ _=>⟨λst=>.ok .cont st,λY=>.no⟩)
  (λt _ x=>⟨λst=>hZ x.hn (((ev t x).t st).bind λc st1=>.ob (c=true) (.ok .next st1)),λY=>.no⟩)
  (λo i _ _ x=>⟨λst=>((ev o x).e st).bind λb st1=>((ev i x).e st1).bind λk bW=>iL b λl=>iI k λk=>gL bW.H[l]? λxs=>hZ (cX k) (.ob (xs.length≤1000000) (.ask λw=>match w with
   | .nat j=>.ob (sO k xs.length=some j) (.ok .next ⟨bW.m,bW.H.set l (.lst (xs.eraseIdx j))⟩)
   | _=>.no)),λY=>.no⟩)
  (λi _ e _ _ x=>⟨λst=>hZ x.hn (aB7 x i st λcls=>iO (exC.lookup cls) λY=>((ev e x).e st).bind λmsg st1=>.ex true cls msg st1),λY=>.no⟩)
  (λ_ i1 _ x1 h1 _ _ hb hh1 x=>⟨λst=>hZ (x.fc && h1.IX) (((hb x).k st).catch λcls msg st1=>iS msg λl=>aB7 x i1 st1 λT1=>iO (exB.lookup (cls,T1)) λc=>hZ c (aG4 x x1 (λx=>(hh1 x).k) cls l st1)),λY=>.no⟩) i
section
variable {C:Ctx} {x:Cx} {st:aK} {X:XQ} {Q:aA->aK->Prop} {as ks:List aA} {kn:List Str} {l:Nat}
theorem aLA{e:dO}(h:Bx (Ev C e st (λb=>Q b.wk) X)):Bx (Ev C e st Q X):=⟨λa=>
 bM (h.1 a) (λx s1 p=>by cases p with | mk le r a2 z=>exact .mk le r.wk a2 z) λ_ _ x=>x⟩
theorem rV_{i p:Nat}(O:iZ C x)(h:(rV x i st).post Q X):Bx (Ev C (.Name (r7 x.xs i) (dp p)) st Q X):=
 iJ h λz e h=>dM h λc h=>iJ h λo e1 h=>iJ h λb e2 h=>by
  have e:C.ns[i]? =some (z.1,z.2):=(congrArg (·[i]?) O.1).trans e
  have hx:r7 x.xs i=z.1:=by
   unfold r7
   rw[bO,bX,←O.1,e]
   rfl
  exact hx▸aLA ⟨Ev.name e (e1.trans (congrArg some e2)) (O.7 _ _ _ (not_true c) e) h⟩
theorem I3{k:dB}(h:dB.KU k=true):k= .local:=by cases k <;> first | rfl | exact eV h
theorem QY{k:dB}(h:dB.QR k=true):k= .cell:=by cases k <;> first | rfl | exact eV h
inductive aG5(C:Ctx)(x:Cx)(i:Nat)(k:dB):Prop where
 | mk (ns:C.ns[i]? =some (r7 x.xs i,k)) (st:Sto C i k)
theorem VZ{i:Nat}{a:aA}{Q:Unit->aK->Prop}(O:iZ C x)(h:(ZD x i a st).post Q X):(∃k,aG5 C x i k)∧Q () ⟨st.m.set i (some a),st.H⟩:=
 iJ h λz e h=>dM h λc h=>by
  have e:C.ns[i]? =some (z.1,z.2):=(congrArg (·[i]?) O.1).trans e
  have hx:r7 x.xs i=z.1:=by
   unfold r7
   rw[bO,bX,←O.1,e]
   rfl
  refine⟨⟨z.2,hx▸e, ?_⟩,h⟩
  cases eA.mp c with
  | inl c=>exact .inl (I3 c)
  | inr c=>exact .inr ⟨QY (aP c),λq=>by have:=aQ c;rw[←O.3,mem_iff.mpr q] at this;exact eV this⟩
theorem bT_:Al (λid h=>t9 (.blt id) h) bT:=.cons aGN (.cons aBX (.cons FQ (.cons aBY (.cons VS (.cons VR (.cons VP (.cons aB1 (.cons QE (.cons aBZ (.cons VQ (.cons QK (.cons aGR (.cons VU (.cons QM (.cons VT (.cons aGP (.cons QO (.cons aGT (.cons aGV (.cons QP (.cons QQ .nil)))))))))))))))))))))
theorem tT_:Al (λid h=>t9 (.typ id) h) tT:=.cons aGX (.cons VV (.cons aB2 (.cons aB3 .nil)))
abbrev HN:Option aJ->Prop:=(· =none)
theorem ofB{D:WD}{n:Nat}{H:List Pc}{fa:cI}{fd:cN}{names:fF}{body:List v8}{Q:aA->List Pc->Prop}(F:Fn D fa fd names body)(c:Bx (fS D n HN fa as kn ks H Q)):Bx (u7 D n HN (.ref fa) as kn ks H Q):=⟨u7.of (hd:=HN) (Q:=Q) F c.1⟩
theorem V0{fa:aA}(h:Bx (u7 C.D C.n HN fa as kn ks st.H (λr H'=>Q r ⟨st.m,H'⟩)))(hh:C.hd=none):Bx (fM C fa as kn ks st Q X):=⟨u7.cal (hd:=HN) h.1 hh⟩
theorem aLB{D:WD}{n:Nat}{H:List Pc}{K fI:cI}{Q:aA->List Pc->Prop}(c:yD D.K K fI)(h:Bx (fS D n HN fI (.aO (H.length+1)::as) kn ks (H++ [.ns []]++ [.inst K H.length]) (λr H'=>r= .none∧Q (.aO (H.length+1)) H'))):Bx (u7 D (n+1) HN (.ref K) as kn ks H Q):=⟨u7.cls (hd:=HN) (Q:=Q) c h.1⟩
theorem aB8{a:cI}{e:Nat×Fx}(O:iZ C x)(e1:x.tb.fns.lookup a=some e)(hk:e.1≤C.n)(hn:x.hn=true)(h:(yN st.m (e.2 as kn ks st.H)).post Q X):Bx (fM C (.ref a) as kn ks st Q X):=by
 have T:=O.8.1 a e.1 e.2 e1
 refine ED T.1 λfd names body F=>?_
 exact V0 (ofB F (T.2 hk (yO h))) (O.4 hn)
theorem iN_{σ α:Type}{Q:α->σ->Prop}{X:Bool->String->aA->σ->Prop}{a:aA}{k:R σ α}(h:(iN a k).post Q X):a= .none∧k.post Q X:=by
 cases a <;> first | exact⟨rfl,h⟩ | exact h.elim
theorem aG6{a:cI}(O:iZ C x)(h:(aG0 x a as kn ks st).post Q X):Bx (fM C (.ref a) as kn ks st Q X):=
 iJ h λf e1 h=>iJ h λe e2 h=>dM h λc h=>by
  refine cD (Nat.exists_eq_add_of_lt (bR (t8 (aP c)) O.2)) λm hm=>?_
  exact V0 (hm▸(aLB (Q:=λr H=>Q r ⟨st.m,H⟩) (O.8.5 a f e1) ((O.8.1 f e.1 e.2 e2).2 (aW e.1 m) ((R.aL (yO h)).mono (λr H q=>iN_ q) λY Y Y Y q=>q)))) (O.4 (aQ c))
theorem aG7{a:cI}(O:iZ C x)(h:(aB4 x a as kn ks st).post Q X):Bx (fM C (.ref a) as kn ks st Q X):=by
 unfold aB4 at h
 cases e1:x.tb.fns.lookup a with
 | some e=>rw[e1] at h;exact dM h λc h=>aB8 O e1 (aB (aH (aP c)) O.2) (aQ c) h
 | none=>
  rw[e1] at h
  cases e2:x.tb.IV.lookup a with
  | some e=>rw[e2] at h;exact dM h λc h=>O.9.1 a e.1 e.2 e2 rfl (aB (aH (aP (aP c))) O.2) (O.4 (aQ (aP c))) (O.5 (aQ c)) (aBV h)
  | none=>rw[e2] at h;exact aG6 O h
theorem Pc.aB9{p:Pc}{z:Nat×List Nat}:p.IX=some z->p= .hC z.1 z.2:=by
 cases p with
 | hC=>exactλh=>congrArg (λz:Nat×List Nat=>Pc.hC z.1 z.2) (aD h)
 | _=>exact fA
theorem Pc.aG8{p:Pc}:p.isE=true->p= .tL:=by
 cases p with
 | tL=>exactλY=>rfl
 | _=>exact eV
theorem KW(h:uA l st=true):U3 l st:=by
 unfold uA at h
 cases e:st.H[l]? with
 | none=>rw[e] at h;exact eV h
 | some p=>
  rw[e] at h
  cases eA.mp h with
  | inl c=>exact .inr (e.trans (congrArg some (Pc.aG8 c)))
  | inr c=>exact(d0.mp c).elim λz q=>.inl ⟨_,_,e.trans (congrArg some (Pc.aB9 q))⟩
theorem KY{β:Type}{o:Option Pc}{f:Pc->Option β}{b:β}(h:o.bind f=some b):∃p,o=some p∧f p=some b:=by
 cases o with
 | none=>exact fA h
 | some p=>exact⟨p,rfl,h⟩
theorem aG9{P:Option aA->aK->Prop}(O:iZ C x)(hn:x.hn=true)(h:(IY x l st).post P eE):Bx (Nx C l st P):=
 iJ h λp e h=>by
  cases c:p.isE with
  | true=>rw[c] at h;exact⟨Nx.over (O.4 hn) (e.trans (congrArg some (Pc.aG8 c))) h⟩
  | false=>
   rw[c] at h
   exact iJ h λz e1 h=>iJ h λq e2 h=>iJ h λy e3 h=>iJ h λen e4 h=>dM h λc h=>by
    have T:=O.8.1 y.1 en.1 en.2 e4
    refine ED T.1 λfd names body F=>?_
    refine ED F.1 λoc od OE ho=>?_
    refine cD (Nat.exists_eq_add_of_lt (bR (t8 (aP c)) O.2)) λm hm=>?_
    refine⟨Nx.call (n:=en.1+m) (hd:=(· =none)) hm (O.4 (aQ c)) rfl (e.trans (congrArg some (Pc.aB9 e1))) (e2.trans (congrArg some (Pc.aBW e3))) ho (T.2 (aW _ _) ((yO (R.aL h)).mono (λr H q=>yL (P:=λr=>nxQ l z.1 y.1 y.2 z.2 st.m _ r H) q λu q=>iJ q λz' f1 q=>iJ q λy' f2 q=>jZ q λw q=>?_) λY Y Y Y q=>q)).1⟩
    refine bS (KY f1) λp1 g1 g2=>?_
    refine bS (KY f2) λp2 g3 g4=>?_
    refine⟨u,rfl,g1.trans (congrArg some (Pc.aB9 (g2.trans (congrArg some w.1)))),g3.trans (congrArg some (Pc.aBW (g4.trans (congrArg some w.2)))), ?_⟩
    cases b:z.2==u with
    | true=>exact q.1 b
    | false=>exact q.2 b
end
section
set_option tactic.hygienic true
section
variable {C:Ctx} {x:Cx} {st:aK} {X:XQ} {Q:aA->aK->Prop} {as ks:List aA} {kn:List Str} {l:Nat}
theorem iZ.dn{m:Nat}(O:iZ C x)(hn:C.n=m+4):iZ (C.dn m) { x with n:=x.n - 4 }:=
 ⟨O.1,Nat.sub_le_iff_le_add.mpr (hn▸O.2),O.3,O.4,λc=>⟨(O.5 c).1,(O.5 c).2⟩,O.6,O.7,O.8,O.9,O.10⟩
theorem pD.mono{α β:Type}{R:Roo->c9->β->α->Prop}{t:aJ->Sem α}{a:aA}{Q Q':β->aK->Prop}{X X':XQ}(w:Bx (pD C R t a st Q X))(k:∀b st,Q b st->Q' b st)(kx:∀f c m st,X f c m st->X' f c m st):pD C R t a st Q' X':=λat' hv=>
 bM (w.1 at' hv) (λx s1 p=>by cases p with | mk le r at' q=>exact .mk le r at' (k _ _ q)) λv s1 p=>by cases p with | mk f e cls msg fR ρ' le ex q=>exact .mk f e cls msg fR ρ' le ex (kx _ _ _ _ q)
def aHA(x:Cx)(l S:Nat)(Q:aA->aK->Prop)(k:Nat)(acc:List aA)(st:aK):Prop:=(vV x l S k st).post Q eE∧st.H[S]? =some (.lst acc)
theorem get_set{H:List Pc}{S:Nat}{p q:Pc}(e:H[S]? =some p):(H.set S q)[S]? =some q:=sF (aF.mp e).1
theorem aCA{S:Nat}(O:iZ C x)(hn:x.hn=true):PW C l S (aHA x l S Q) (λY st=>Q (.aO S) st):=⟨
 (λk acc st h=>by
  refine d5 h λh e0=>?_
  cases k with
  | zero=>exact h.elim
  | succ k=>
   exact dM h λc h=>xG h λys e h=>⟨e0,KW c,pD.mono (aG9 O hn (R.aL h)) (λr bW q=>by
    cases aD (e0.symm.trans e)
    cases r with
    | none=>exact q
    | some v=>exact dM q λhp q=>jZ q λe2 q=>jZ q λhz q=>⟨e2,hp,hz,k,fU k,q,get_set e2⟩) λY Y Y Y q=>q⟩)⟩
theorem qX{σ α:Type}{Q:α->σ->Prop}{X X':Bool->String->aA->σ->Prop}{r:R σ α}(h:r.nx.post Q X):r.post Q X':=R.nx_ h
theorem aCB:t9 (.typ "list") ZE:=λ{C x as st Q X} O h=>KL (P:=P1 C _ st Q X) h λa h=>by
 cases a <;> first | exact h.elim | skip
 case str u=>exact dM h λc h=>jZ h λp h=>⟨UX (O.4 c) p h⟩
 case aO l=>
  exact dM h λc h=>by
   refine cD (lU (aB (aH (aQ (aP c))) O.2)) λm hm=>?_
   have hm:C.n=m+4:=hm.trans (cQ ..)
   exact⟨U5 (k0:=fuel) hm (aCA (O.dn hm) (aP (aP c))) (KW (aQ c)) ⟨qX h,List.getElem?_concat_length⟩ λY Y q=>q⟩
theorem V1{α β:Type}{a:List α}{b:List β}(h:(a.isEmpty && b.isEmpty)=true):a= []∧b= []:=⟨jK.mp (aP h),jK.mp (aQ h)⟩
theorem ZK{fa:aA}(O:iZ C x)(h0:(NO x fa as kn ks st).post Q X):Bx (fM C fa as kn ks st Q X):=by
 cases fa <;> first | exact h0.elim | skip
 case blt id=>exact dM h0 λc h=>iJ h λf e h=>by refine d5 (V1 c) λu5 dF=>?_;subst u5;subst dF;exact bT_.at e O h
 case typ id=>
  exact dM h0 λc h=>by
   refine d5 (V1 c) λu5 dF=>?_;subst u5;subst dF
   cases e:id=="list" with
   | true=>rw[e] at h;obtain rfl:=eq_of_beq e;exact aCB O h
   | false=>rw[e] at h;exact iJ h λf e h=>tT_.at e O h
 case ref a=>exact aG7 O h0
 case aO l=>
  exact dM h0 λc h=>iJ h λfx e h=>by
   refine d5 (V1 (aP (aP c))) λu5 dF=>?_;subst u5;subst dF
   exact V0 (O.9.2 fx e (aB (aH (aQ c)) O.2) (yO h)) (O.4 (aQ (aP c)))
theorem aCC{y:Str}{fs:List (Str×aA)}(h:ZF y fs=true):fs.lookup y=none:=Option.isNone_iff_eq_none.mp h
theorem Pc.aLC{p:Pc}{d:Nat}:p.isF=some d->∃fd c,p= .tG fd c (some d):=by
 cases p with
 | tG fd c o=>cases o with
  | none=>exact fA
  | some d=>exactλh=>⟨fd,c,congrArg (λd=>Pc.tG fd c (some d)) (aD h)⟩
 | _=>exact fA
theorem aCD{j:Nat}{a:aA}{Q:aA×List aA->aK->Prop}(O:iZ C x)(h0:(rGm x j a st).post Q X):Bx (Gm C (an j) a st Q X):=by
 cases a <;> first | exact h0.elim | skip
 case str u=>exact iJ h0 λid e h=>⟨Gm.b rfl F.plainAttrs_str (Y4.at e).1 (Y4.at e).2 h⟩
 case ref p=>exact dM h0 λc h=>iJ h λb e h=>by obtain rfl:=c7 c;exact⟨P3 (O.8.6 p b e) h⟩
 case aO l=>
  exact iJ h0 λp e h=>by
   cases e1:p.Y0 with
   | some xs=>rw[e1] at h;exact iJ h λid e2 h=>⟨Gm.b (T:="list") ((congrArg (·.bind Pc.ty) (e.trans (congrArg some (Pc.VL e1)))).trans rfl) F.plainAttrs_list (Y5.at e2).1 (Y5.at e2).2 h⟩
   | none=>
    rw[e1] at h
    cases e2:p.isI with
    | some z=>rw[e2] at h;exact gN_ h λfs e3 h=>dM h λc h=>iJ h λf e4 h=>⟨T9 (e.trans (congrArg some (Pc.aBS e2))) e3 (O.8.2 _ _ _ e4) (aCC c) h⟩
    | none=>
     rw[e2] at h
     cases e3:p.isF with
     | some d=>
      rw[e3] at h
      refine kG (Pc.aLC e3) λfd c e4=>?_
      exact dM h λcj h=>gN_ h λfs e5 h=>iJ h λb e6 h1=>C7 (P:=λb=>wA (an j) fs=some b->Bx (Gm C (an j) (.aO l) st Q X)) h1 (λg h2 e6=>by obtain rfl:=c7 cj;exact⟨Gm.fx (e.trans (congrArg some e4)) e5 t0 e6 h2⟩) e6
     | none=>rw[e3] at h;exact iJ h λps e4 h=>dM h λcj h=>by obtain rfl:=c7 cj;exact⟨VM (e.trans (congrArg some (Pc.aGB e4))) h⟩
theorem aCE{j:Nat}{z:cI×Nat}(O:iZ C x)(e:st.H[l]? =some (.inst z.1 z.2))(h:(ZG x j l z st).post Q X):Bx (EL C (an j) (.aO l) st Q X):=gN_ h λfs e2 h=>by
 cases e3:fs.lookup (an j) with
 | none=>rw[e3] at h;exact iJ h λf e4 h=>⟨II e e2 (O.8.4 _ _ _ e4) e3 h⟩
 | some c=>rw[e3] at h;exact iJ h λY e4 h=>dM h λhc h=>(O.8.3 _ _ e4).elim λt1 t2=>⟨ML e e2 t1 t2.1 e3 hc h⟩
theorem ZL{j:Nat}{a:aA}(O:iZ C x)(h:(aB5 x j a st).post Q X):Bx (EL C (an j) a st Q X):=C7 (P:=λa=>Bx (EL C (an j) a st Q X)) h λl h=>iJ h λp e h=>by
 cases e1:p.Y0 with
 | some xs=>rw[e1] at h;exact dM h λcj h=>by obtain rfl:=c7 cj;exact⟨FU (e.trans (congrArg some (Pc.VL e1))) h⟩
 | none=>rw[e1] at h;exact iJ h λz e2 h=>aCE O (e.trans (congrArg some (Pc.aBS e2))) h
theorem ZM{j:Nat}{a c:aA}{Q:Unit->aK->Prop}(O:iZ C x)(h:(aB6 x j a c st).post Q X):Bx (OX C (an j) a c st (Q ()) X):=C7 (P:=λa=>Bx (OX C (an j) a c st (Q ()) X)) h λl h=>gI_ h λK d e h=>gN_ h λfs e2 h=>iJ h λY e4 h=>dM h λhz h=>(O.8.3 _ _ e4).elim λt1 t2=>⟨MM e e2 t1 t2.2 (aH hz) h⟩
end
end
section
set_option tactic.hygienic true
theorem Bx.m{α β:Type}{C:Ctx}{R:Roo->c9->β->α->Prop}{t:Sem α}{st:aK}{Q Q':β->aK->Prop}{X:XQ}(w:Bx (Wp C R t st Q X))(k:∀b st,Q b st->Q' b st):Wp C R t st Q' X:=Wp.mono w.1 k λY Y Y Y q=>q
theorem Bx.am{α β:Type}{C:Ctx}{R:Roo->c9->β->α->Prop}{t:aJ->Sem α}{a:aA}{st:aK}{Q Q':β->aK->Prop}{X:XQ}(w:Bx (pD C R t a st Q X))(k:∀b st,Q b st->Q' b st):pD C R t a st Q' X:=pD.mono w k λY Y Y Y q=>q
section
variable {C:Ctx} {x:Cx} {st:aK} {X:XQ} {Q:aA->aK->Prop} {as ks:List aA} {kn:List Str} {l:Nat}
def nd(need:List (Nat×Pc))(st:aK):Prop:=∀p∈need,st.H[p.1]? =some p.2
theorem vD{α:Type}{Q:α->aK->Prop}{need:List (Nat×Pc)}{r:R aK α}:(nV need st r).post Q X->nd need st∧r.post Q X:=by
 induction need with
 | nil=>exactλh=>⟨λp q=>(nomatch q),h⟩
 | cons p need ih=>exactλh=>jZ h λe h=>(ih h).imp (λf q hq=>by cases hq with | head=>exact e | tail _ hq=>exact f q hq) id
theorem Pc.aCF{p:Pc}{k:Nat}:p.QS=some k->p= .oK k:=by
 cases p with
 | oK=>exactλh=>congrArg _ (aD h)
 | _=>exact fA
theorem Pc.QZ{p:Pc}{k:Nat}:p.ZH=some k->p= .AH k:=by
 cases p with
 | AH=>exactλh=>congrArg _ (aD h)
 | _=>exact fA
theorem Pc.aCG{p:Pc}{k:List aA}:p.QT=some k->p= .OV k:=by
 cases p with
 | OV=>exactλh=>congrArg _ (aD h)
 | _=>exact fA
theorem Pc.aCH{p:Pc}{k:Nat}:p.isLit=some k->p= .lit k:=by
 cases p with
 | lit=>exactλh=>congrArg _ (aD h)
 | _=>exact fA
theorem aCI{α:Type}{Q:α->aK->Prop}{t:E}{k0:Nat}{a:aA}{k:List aA->List (Nat×Pc)->aK->R aK α}{P:Prop}{xs:List Str}(h0:(TL t k0 a st k).post Q X)
  (f:∀ys need bW,Bx (rT C (eD xs t).e k0 a ys need st bW)->(k ys need bW).post Q X->P):P:=by
 cases a <;> first | exact h0.elim | skip
 case tup ys=>exact f ys [] st ⟨xY⟩ h0
 case str u=>exact f _ [] st ⟨FS⟩ h0
 case aO l=>
  exact iJ h0 λp e h=>by
   cases e1:p.Y0 with
   | some ys=>rw[e1] at h;exact f ys _ st ⟨BL (e.trans (congrArg some (Pc.VL e1)))⟩ h
   | none=>
    rw[e1] at h
    cases e2:p.QS with
    | some n=>rw[e2] at h;exact jZ h λhn h=>f _ [] st ⟨HZ (e.trans (congrArg some (Pc.aCF e2))) hn⟩ h
    | none=>
     rw[e2] at h
     refine iJ h λi e3 h=>dM h λc h=>iJ h λq g1 hq=>?_
     have e7:=c7 (aP (aP (aP c)))
     refine kG (QV (aQ (aP c))) λa b dE=>?_;subst dE
     rw[e7] at e
     cases e4:q.QT with
     | some ys=>rw[e4] at hq;exact f _ _ _ (e7▸⟨IS (aH (aQ (aP (aP c)))) (g1.trans (congrArg some (Pc.aCG e4))) (e.trans (congrArg some (Pc.QZ e3))) (aQ c)⟩) hq
     | none=>
      rw[e4] at hq
      exact iJ hq λl2 g2 h=>dM h λc2 h=>xG h λys e5 h=>f _ _ _ (e7▸⟨M2 (aH (aQ (aP (aP c)))) (g1.trans (congrArg some (Pc.aCH g2))) (e.trans (congrArg some (Pc.QZ e3))) (t8 c2) (aQ c)⟩) h
theorem aLD{P:aA->Prop}{a:aA}{k:List aA->R aK Unit}{Q:Unit->aK->Prop}(h:(rTL a st k).post Q X)(f:∀xs,(k xs).post Q X->P (.tup xs))(g:∀l xs,st.H[l]? =some (.lst xs)->(k xs).post Q X->P (.aO l)):P a:=by
 cases a <;> first | exact h.elim | skip
 case tup xs=>exact f xs h
 case aO l=>exact xG h λxs e h=>g l xs e h
def B3(C:Ctx)(target:dO)(ifs:List dO)(ins:aJ->Env->Sem Unit)(acc:Nat)(turn:aA->aK->R aK Unit):Prop:=
 ∀{y st P},(turn y st).post P eE->Bx (As C target y st (λst1=>Cd C ifs st1 (λok bW=>match ok with
  | true=>pD C Eqv (λv=>ins v C.env) (.aO acc) bW (λ(_:Unit)=>P ()) eE
  | false=>P () bW) eE) eE)
def cJ(turn:aA->aK->R aK Unit)(need:List (Nat×Pc))(k:Nat)(ys:List aA)(P:Unit->aK->Prop)(j:Nat)(st:aK):Prop:=(m8 turn need k (ys.drop j) st).post P eE∧nd need st
theorem KZ{α:Type}{ys:List α}:∀{j:Nat} {y:α},ys[j]? =some y->ys.drop j=y::ys.drop (j+1):=by
 induction ys with
 | nil=>intro j y e;exact bK e
 | cons z ys ih=>intro j y e;cases j with
  | zero=>obtain rfl:=aD e;rfl
  | succ j=>exact ih e
theorem Q1{target:dO}{ifs:List dO}{ins:aJ->Env->Sem Unit}{acc k:Nat}{turn:aA->aK->R aK Unit}{need:List (Nat×Pc)}{ys:List aA}{P:Unit->aK->Prop}(T:B3 C target ifs ins acc turn):KD C target ifs ins acc k ys need (cJ turn need k ys P):=⟨
 (λj st h=>h.2),
 (λj y st e h=>by
  have h:=h.1
  rw[KZ e] at h
  intro A g ρ s v
  refine Bx.am (T (R.aL h)) ?_
  intro _ st1 q
  refine Bx.m ⟨q⟩ ?_
  intro ok bW q
  cases ok with
  | true=>
   refine Bx.am ⟨q⟩ ?_
   exactλY fL q=>dM q λc q=>⟨c,(vD q).symm⟩
  | false=>exact dM q λc q=>⟨c,(vD q).symm⟩)⟩
theorem Q2{turn:aA->aK->R aK Unit}{need:List (Nat×Pc)}{k:Nat}{ys:List aA}{P:Unit->aK->Prop}(h:cJ turn need k ys P ys.length st):P () st:=by
 have h:=h.1
 rw[List.drop_length] at h
 exact h
theorem iZ.lI(O:iZ C x){sc:iF}(h:scB x.ns sc=true)(L:cI):iZ (lL C sc L) (x.lI sc):=⟨
 (congrArg (CW · sc.names) O.1),
 (O.2),
 (rfl),
 (O.4),
 (eV),
 (O.6),
 (λi y k _ e=>by
  refine bS (xD e) λk0 e _=>?_
  exact bN.mp (aQ h) _ (aN e)),
 (O.8),
 (O.9),
 (λ_ e=>nomatch e)⟩
theorem K3{l:List Str}:IZ l=true->l.Nodup:=by
 induction l with
 | nil=>exactλY=>iC
 | cons a r ih=>exactλh=>b7.mpr ⟨λq=>by have:=aP h;exact Bool.noConfusion ((show r.any (· ==a)=true from List.any_eq_true.mpr ⟨a,q,beq_self_eq_true a⟩).symm.trans (not_true (b:=r.any (· ==a)) this)),ih (aQ h)⟩
theorem V2(O:iZ C x){sc:iF}(h:scB x.ns sc=true):E8 C.ns sc:=⟨
 (by
  have h:=aP (aP (aP h))
  cases e:sc.kind <;> rw[e] at h <;> first | rfl | exact eV h),
 (K3 (aQ (aP (aP h)))),
 (O.1▸aQ (aP h))⟩
theorem V4{sc:iF}{t:E}{iter:dO}{it:aK->RM}{turn:Nat->aA->aK->R aK Unit}{p0:Pc}{ifs:List dO}{ins:aJ->Env->Sem Unit}{use:Option (aJ->Sem Unit)}{Q':aA->aK->Prop}(O:iZ C x)
  (I:∀{Q},(it st).post Q X->Bx (Ev C iter st Q X)) (T:∀acc L,B3 (lL C sc L) (eD (C6 sc) t).e ifs ins acc (turn acc)) (hf:∀acc fL,Q (.aO acc) fL->Bx (KE C use acc fL Q'))
  (h:(yV x sc t it turn p0 st).post Q X):Ev C iter st (BU C sc (eD (C6 sc) t).e ifs ins p0 use st.H.length Q') X:=by
 refine Bx.m (I (R.aL h)) ?_
 intro a st1 h
 exact aCI (C:=C) (xs:=C6 sc) h λys need bW W h=>by
  refine d5 (vD (qX (X':=eE) (R.aL h))) λn0 h=>?_
  exact⟨ys,need,bW,cJ (turn bW.H.length) need (bW.H.length+1) ys (λY fL=>Q (.aO bW.H.length) ⟨bW.m,fL.H⟩),x.G,O.6,⟨W.1,⟨O.1▸h,n0⟩,λL=>Q1 (T bW.H.length L)⟩,λfL h=>(hf _ _ (Q2 h)).1⟩
theorem C9{sc:iF}{t:E}{iter:dO}{it:aK->RM}{turn:Nat->aA->aK->R aK Unit}{p0:Pc}{ifs:List dO}{ins:aJ->Env->Sem Unit}{use:Option (aJ->Sem Unit)}{Q':aA->aK->Prop}(O:iZ C x)
  (I:∀{Q},(it st).post Q X->Bx (Ev C iter st Q X)) (T:∀acc L,B3 (lL C sc L) (eD (C6 sc) t).e ifs ins acc (turn acc)) (hf:∀acc fL,Q (.aO acc) fL->Bx (KE C use acc fL Q'))
  (h:(cW (yV x sc t it turn p0 st)).post Q X):Ev C iter st (BU C sc (eD (C6 sc) t).e ifs ins p0 use st.H.length Q') X:=V4 O I T hf (cW_ h)
theorem K4{C:Ctx}{st:aK}{acc:Nat}{e:aK->RM}{elt:dO}{P:aK->Prop}(I:∀{st Q},(e st).post Q eE->Bx (Ev C elt st Q eE))(h:(vW acc e st).post (λY=>P) eE):Bx (pD C Eqv (λv=>mL elt v C.env) (.aO acc) st (λ(_:Unit)=>P) eE):=by
 refine⟨IA ?_⟩
 refine Bx.m (I (R.aL h)) ?_
 exactλb st1 h=>xG h λxs e h=>dM h λc h=>jZ h λz h=>⟨xs,e,c,z,h⟩
end
end
section
variable {xs:List Str}
theorem Q3{α:Type}{f:α->Bool}{a:α}{l:List α}(h:f a=false)(k:l.any f=false):(a::l).any f=false:=(congrArg (· || _) h).trans k
theorem ZN(es:E)(env:Env)(pos:Pos):(n7 pos (fH (eD xs es).l env)).any (·.1)=false:=by
 induction es with
 | cons a r _ ih=>exact(congrArg (λl=>(n7 pos l).any (·.1)) ((nG xs a).3 (eD xs r).l env)).trans (Q3 rfl ih)
 | _=>rfl
inductive aLE(ks:List (Nat×Nat))(l:List (Option Str×Sem aJ)):Prop where
 | mk (a:l.any (·.1.isNone)=false) (b:l.all (·.1.isSome)=true) (c:l.filterMap (·.1)=ks.map λk=>an k.1) (d:l.isEmpty=ks.isEmpty)
theorem kwL(env:Env)(pos:Pos){ks:List (Nat×Nat)}:∀(es:List dO),aLE ks (g6 pos (dX (vB ks es) env)):=by
 induction ks with
 | nil=>exactλes=>⟨rfl,rfl,rfl,rfl⟩
 | cons k ks ih=>exactλes=>⟨(ih es.tail).1,(ih es.tail).2,congrArg (an k.1::·) (ih es.tail).3,rfl⟩
theorem oV(es wQ:E)(ks:List (Nat×Nat)):Plain (eD xs es).l (vB ks (eD xs wQ).l) (ks.map λk=>an k.1):=
 ⟨ZN es,λenv pos=>(kwL env pos _).1,λenv pos=>(kwL env pos _).2,λenv pos=>(kwL env pos _).3⟩
theorem Q4{ks:List (Nat×Nat)}:∀(es:List dO),(vB ks es).length=ks.length:=by
 induction ks with
 | nil=>exactλY=>rfl
 | cons k ks ih=>exactλes=>congrArg rK (ih _)
theorem aLF(es:E):(eD xs es).l.length=es.cnt:=by
 induction es with
 | cons a r _ ih=>exact congrArg rK ih
 | _=>rfl
theorem tgL(es:E):HR (eD xs es).l es.cnt:=by
 refine⟨λenv=>?_,λenv=>?_⟩
 ·induction es with
  | cons a r _ ih=>
   show(lV ((eD xs a).e::(eD xs r).l) env).findIdx? _=_
   rw[(nG xs a).7,List.findIdx?_cons,ih]
   rfl
  | _=>rfl
 ·induction es with
  | cons a r _ ih=>
   show(lV ((eD xs a).e::(eD xs r).l) env).length=_
   rw[(nG xs a).7]
   exact congrArg rK ih
  | _=>rfl
theorem V5(l:List (Bool×Sem aJ))(h:l.any (·.1)=false):l.all (!·.1)=true:=by
 induction l with
 | nil=>rfl
 | cons a l ih=>
  obtain⟨b,t⟩:=a
  cases b with
  | true=>cases h
  | false=>exact ih h
theorem K7(o es wQ:E)(ks:List (Nat×Nat))(ho:o.yJ=true)(x:Str)(apos pos:Pos)(env:Env)(hl:dT (es.cnt+ks.length+1) 30=true)(hp:eK apos.endLine pos.line=true):
  qI (.Call (.Attribute (eD xs o).e x apos) (eD xs es).l (vB ks (eD xs wQ).l) pos) env=(do
   let ov←qI (eD xs o).e env
   lO apos.atName
   let(f',first)←uK [ov] (DZ ov x (do return (←importBound (eD xs o).e env).getD true))
   xL pos f' first (n7 pos (fH (eD xs es).l env)) (g6 pos (dX (vB ks (eD xs wQ).l) env))):=by
 have h2:methodCallForm ((eD xs es).l.length+(vB ks (eD xs wQ).l).length) (n7 pos (fH (eD xs es).l env)) (g6 pos (dX (vB ks (eD xs wQ).l) env))=true:=by
  unfold methodCallForm
  rw[V5 _ (ZN es env pos),(kwL env pos (ks:=ks) (eD xs wQ).l).2,aLF,Q4]
  refine decide_eq_true (bA (bI ?_ _) (aH hl))
  split
  ·exact cO 1
  ·exact aZ 1
 have h3:methodCallPos true (eD xs o).e env apos pos=pure pos:=by
  unfold methodCallPos
  rw[(show(apos.endLine==pos.line)=true from beq_iff_eq.mpr (c7 hp))]
  rfl
 show(do
  let ov←attributeBase (eD xs o).e x env (qI (eD xs o).e env)
  lO apos.atName
  methodCall (eD xs o).e x apos pos env ov ((eD xs es).l.length+(vB ks (eD xs wQ).l).length) (n7 pos (fH (eD xs es).l env)) (g6 pos (dX (vB ks (eD xs wQ).l) env)))=_
 rw[(nG xs o).8 ho]
 unfold methodCall
 rw[h2,h3]
 rfl
theorem aHB(o:E)(ho:o.yJ=true)(x:Str)(pos:Pos)(env:Env):qI (.Attribute (eD xs o).e x pos) env=(do let ov←qI (eD xs o).e env;lO pos.atName;let r←uK [ov] (getAttr ov x true);letTemporaryGo (eD xs o).e ov r;pure r):=by
 show(do let ov←attributeBase (eD xs o).e x env (qI (eD xs o).e env);_)=_
 rw[(nG xs o).8 ho]
end
inductive oF(C:Ctx)(x:Cx)(s:SE)(d:DE):Prop where
 | mk (e:∀{st Q X},(s.e st).post Q X->Bx (Ev C d.e st Q X)) (t:∀{st Q X},(s.t st).post Q X->Bx (Tr C d.e st Q X)) (a:∀{st Q X} pos,(s.a st).post Q X->Bx (Ar C d.l pos st Q X)) (b:∀{st Q X} o pos,(s.b o st).post Q X->Bx (Ev C (.BoolOp o d.l pos) st Q X)) (c:∀{st Q X} o pos,(s.c o st).post Q X->Bx (Tr C (.BoolOp o d.l pos) st Q X)) (p:∀{st Q X},(s.p st).post Q X->Bx (Eo C d.l.head? st Q X)) (g:∀{st Q X b},(s.g b st).post Q X->Bx (As C d.e b st (Q ()) X)) (h:∀{st Q X as},(s.h as st).post Q X->Bx (AI C d.l as st (Q ()) X)) (f:∀{st Q X},(s.f st).post Q X->Bx (Cd C d.l st Q X)) (w:∀{st Q X ks} pos,(s.w ks st).post Q X->Bx (Ks C (vB ks d.l) pos st Q X)) (u:∀{st Q X Q' y pos' pos},f9 d.e (some (.Name y pos')) pos.line C.env=pure true->(∀acc fL,Q (.aO acc) fL->Bx (pD C Eqv (mU (.Name y pos') C.env) (.aO acc) fL (λ(_:Unit)=>Q' .next) eE))->(s.e st).post Q X->Bx (Ex C (.Assign [.Name y pos'] d.e pos) st Q' X))
section
variable {C:Ctx} {x:Cx} {e:aK->RM} {t:aK->R aK Bool} {d:DE}
theorem okG(g:aA->aK->R aK Unit)(he:∀{st Q X},(e st).post Q X->Bx (Ev C d.e st Q X))(ht:∀{st Q X},(t st).post Q X->Bx (Tr C d.e st Q X))(hg:∀{st Q X b},(g b st).post Q X->Bx (As C d.e b st (Q ()) X))
  (hu:∀t l env,f9 d.e t l env=pure false):oF C x { ZC e t with g:=g } d:=⟨
 (he),
 (ht),
 (λ_ h=>h.elim),
 (λ_ _ h=>h.elim),
 (λ_ _ h=>h.elim),
 (λh=>h.elim),
 (hg),
 (λh=>h.elim),
 (λh=>h.elim),
 (λ_ h=>h.elim),
 (λh=>nomatch (hu _ _ _).symm.trans h)⟩
theorem okT(he:∀{st Q X},(e st).post Q X->Bx (Ev C d.e st Q X))(ht:∀{st Q X},(t st).post Q X->Bx (Tr C d.e st Q X))(hu:∀t l env,f9 d.e t l env=pure false):oF C x (ZC e t) d:=
 okG (λY Y=>.no) he ht (λh=>h.elim) hu
abbrev TrE(C:Ctx)(e:dO):Prop:=isTrue e C.env (qI e C.env)=(do let v←qI e C.env;lO e.pos;uK [v] (AA v))
theorem trB{st:aK}{Q:Bool->aK->Prop}{X:XQ}{e:dO}{r:aK->RM}(he:TrE C e)(h:∀{Q},(r st).post Q X->Bx (Ev C e st Q X))(q:((r st).bind QC).post Q X):Bx (Tr C e st Q X):=by
 refine⟨Tr.ev he ?_⟩
 refine Bx.m (h (R.aL q)) ?_
 exactλb st1 q=>(Y2 q).1
theorem TM(he:∀{st Q X},(e st).post Q X->Bx (Ev C d.e st Q X))(hi:TrE C d.e)(hu:∀t l env,f9 d.e t l env=pure false):oF C x (FV e) d:=
 okT he (λh=>trB hi he h) hu
theorem okC(he:∀{st Q X},(e st).post Q X->Bx (Ev C d.e st Q X))(hi:TrE C d.e)
  (hu:∀{st Q X Q' y pos' pos},f9 d.e (some (.Name y pos')) pos.line C.env=pure true->(∀acc fL,Q (.aO acc) fL->Bx (pD C Eqv (mU (.Name y pos') C.env) (.aO acc) fL (λ(_:Unit)=>Q' .next) eE))->(e st).post Q X->Bx (Ex C (.Assign [.Name y pos'] d.e pos) st Q' X)):oF C x (FV e) d:=⟨
 (he),
 (λh=>trB hi he h),
 (λ_ h=>h.elim),
 (λ_ _ h=>h.elim),
 (λ_ _ h=>h.elim),
 (λh=>h.elim),
 (λh=>h.elim),
 (λh=>h.elim),
 (λh=>h.elim),
 (λ_ h=>h.elim),
 (hu)⟩
end
section
variable {C:Ctx} {x:Cx}
theorem aHC{xs:List Str}:oF C x (ev .nil x) (eD xs .nil):=⟨
 (λh=>h.elim),
 (λh=>h.elim),
 (λpos h=>⟨Ar.nil h⟩),
 (λ_ _ h=>h.elim),
 (λ_ _ h=>h.elim),
 (λh=>⟨Eo.none h⟩),
 (λh=>h.elim),
 (λh=>⟨AI.nil h⟩),
 (λh=>⟨Cd.nil h⟩),
 (λ{st Q X ks} pos h=>by cases ks <;> first | exact⟨Ks.nil h⟩ | exact h.elim),
 (λh=>by cases h)⟩
end
section
variable {C:Ctx} {x:Cx} {xs:List Str} {st:aK} {X:XQ}
theorem I4{pos:Pos}{Q:Bool->aK->Prop}(h:Q true st):Bx (Tr C (.BoolOp .And [] pos) st Q X):=⟨λa=>isTrue_and_nil (.mk .refl rfl a h)⟩
theorem NP{pos:Pos}{Q:Bool->aK->Prop}(h:Q false st):Bx (Tr C (.BoolOp .Or [] pos) st Q X):=⟨λa=>isTrue_or_nil (.mk .refl rfl a h)⟩
theorem V6{a:dO}{l:List dO}{o:BoolOp}{pos:Pos}{Q:Bool->aK->Prop}(h:Bx (Tr C a st (λc st1=>(c=true->(match o with | .And=>Bx (Tr C (.BoolOp o l pos) st1 Q X) | .Or=>Q true st1))∧(c=false->(match o with | .And=>Q false st1 | .Or=>Bx (Tr C (.BoolOp o l pos) st1 Q X)))) X)):Bx (Tr C (.BoolOp o (a::l) pos) st Q X):=by
 cases o with
 | And=>
  refine⟨Tr.and ?_⟩
  refine Bx.m h ?_
  intro c st1 h
  cases c with
  | true=>exact(h.1 rfl).1
  | false=>exact h.2 rfl
 | Or=>
  refine⟨Tr.or ?_⟩
  refine Bx.m h ?_
  intro c st1 h
  cases c with
  | true=>exact h.1 rfl
  | false=>exact(h.2 rfl).1
theorem V7{a b:dO}{l:List dO}{o:BoolOp}{pos:Pos}{Q:aA->aK->Prop}(h:Bx (Ev C a st (λu st1=>Bx (pD C Eqv AA u st1 (λc bW=>(c=true->(match o with | .And=>Bx (Ev C (.BoolOp o (b::l) pos) bW Q X) | .Or=>Q u bW))∧(c=false->(match o with | .And=>Q u bW | .Or=>Bx (Ev C (.BoolOp o (b::l) pos) bW Q X)))) X)) X)):Bx (Ev C (.BoolOp o (a::b::l) pos) st Q X):=by
 cases o with
 | And=>
  refine⟨Ev.and ?_⟩
  refine Bx.m h ?_
  intro u st1 h
  refine Bx.am h ?_
  intro c bW h
  cases c with
  | true=>exact(h.1 rfl).1
  | false=>exact h.2 rfl
 | Or=>
  refine⟨Ev.or ?_⟩
  refine Bx.m h ?_
  intro u st1 h
  refine Bx.am h ?_
  intro c bW h
  cases c with
  | true=>exact h.1 rfl
  | false=>exact(h.2 rfl).1
theorem Bx.mb{α β:Type}{C:Ctx}{R:Roo->c9->β->α->Prop}{t:Sem α}{st:aK}{Q Q':β->aK->Prop}{X:XQ}(w:Bx (Wp C R t st Q X))(k:∀b st,Q b st->Q' b st):Bx (Wp C R t st Q' X):=⟨w.m k⟩
theorem Bx.amb{α β:Type}{C:Ctx}{R:Roo->c9->β->α->Prop}{t:aJ->Sem α}{a:aA}{st:aK}{Q Q':β->aK->Prop}{X:XQ}(w:Bx (pD C R t a st Q X))(k:∀b st,Q b st->Q' b st):Bx (pD C R t a st Q' X):=⟨w.am k⟩
theorem aCJ{a r:E}(A:oF C x (ev a x) (eD xs a))(B:oF C x (ev r x) (eD xs r)):oF C x (ev (.cons a r) x) (eD xs (.cons a r)):=⟨
 (λh=>h.elim),
 (λh=>h.elim),
 (λ{st Q X} pos h=>by
  refine⟨Ar.cons ((nG xs a).3 _ _) ?_⟩
  refine Bx.m (A.1 (R.aL h)) ?_
  intro b st1 h
  refine Bx.m (B.3 pos (R.aL h)) ?_
  exactλbs bW h=>h),
 (λ{st Q X} o pos h=>by
  have h:(cond (isNil r) ((ev a x).e st) (hZ (I0 r) (((ev a x).e st).bind λb st1=>(QC b st1).bind λc bW=>bB o c ((ev r x).b o bW) (.ok b bW)))).post Q X:=h
  cases n:isNil r with
  | true=>rw[n] at h;obtain rfl:=I1 n;exact A.1 h
  | false=>
   rw[n] at h
   exact dM h λc h=>by
    refine kG (VY c) λa2 r2 dE=>?_;subst dE
    exact V7 ((A.1 (R.aL h)).mb λu st1 h=>(Y2 (R.aL h)).amb λc bW h=>by
     cases o with
     | And=>exact⟨λe=>B.4 .And pos (h.1 e),h.2⟩
     | Or=>exact⟨h.1,λe=>B.4 .Or pos (h.2 e)⟩)),
 (λ{st Q X} o pos h=>V6 ((A.2 (R.aL h)).mb λc st1 h=>by
  cases n:isNil r with
  | true=>
   rw[n] at h
   obtain rfl:=I1 n
   cases o with
   | And=>exact⟨λe=>I4 (e▸h),λe=>e▸h⟩
   | Or=>exact⟨λe=>e▸h,λe=>NP (e▸h)⟩
  | false=>
   rw[n] at h
   cases o with
   | And=>exact⟨λe=>B.5 .And pos (h.1 e),λe=>e▸h.2 e⟩
   | Or=>exact⟨λe=>e▸h.1 e,λe=>B.5 .Or pos (h.2 e)⟩)),
 (λh=>⟨(A.1 h).1⟩),
 (λh=>h.elim),
 (λ{st Q X as} h=>by
  cases as with
  | nil=>exact h.elim
  | cons b bs=>
   refine⟨AI.cons ((nG xs a).7 _ _) ?_⟩
   refine Bx.am (A.7 (R.aL h)) ?_
   exactλY st1 h=>(B.8 h).1),
 (λ{st Q X} h=>by
  refine⟨Cd.cons ?_⟩
  refine Bx.m (A.2 (R.aL h)) ?_
  intro c st1 h
  cases c with
  | true=>exact(B.9 (h.1 rfl)).1
  | false=>exact h.2 rfl),
 (λ{st Q X ks} pos h=>by
  cases ks with
  | nil=>exact h.elim
  | cons k ks=>
   refine⟨Ks.cons ?_⟩
   refine Bx.m (A.1 (R.aL h)) ?_
   intro b st1 h
   refine Bx.m (B.10 pos (R.aL h)) ?_
   exactλbs bW h=>h),
 (λh=>nomatch ((rfl:_=pure false).symm.trans h))⟩
end
section
variable {C:Ctx} {x:Cx}
abbrev SO(C:Ctx)(x:Cx)(i:E):Prop:=oF C x (ev i x) (eD x.xs i)
theorem aHD{e:aK->RM}{d:DE}(g:aA->aK->R aK Unit)(he:∀{st Q X},(e st).post Q X->Bx (Ev C d.e st Q X))(hi:TrE C d.e)(hg:∀{st Q X b},(g b st).post Q X->Bx (As C d.e b st (Q ()) X))(hu:∀t l env,f9 d.e t l env=pure false):oF C x { FV e with g:=g } d:=okG g he (λh=>trB hi he h) hg hu
theorem gmm{n:Str}{a:aA}{st:aK}{Q Q':aA×List aA->aK->Prop}{X:XQ}(w:Bx (Gm C n a st Q X))(k:∀b st,Q b st->Q' b st):Gm C n a st Q' X:=λpl=>Bx.am ⟨w.1 pl⟩ k
theorem aHE{α β:Type}{R:Roo->c9->β->α->Prop}{t:aJ->aJ->Sem α}{a b:aA}{st:aK}{Q Q':β->aK->Prop}{X:XQ}(w:Bx (d3 C R t a b st Q X))(k:∀b st,Q b st->Q' b st):d3 C R t a b st Q' X:=λa0 hv hw=>
 bM (w.1 a0 hv hw) (λx s1 p=>by cases p with | mk le r a1 q=>exact .mk le r a1 (k _ _ q)) λY Y x=>x
theorem I5{o1 o2:CmpOp}{i j:E}{a b:dO}(h:Fct i a)(k:Fct j b):lastMarks [o1,o2] [a,b]=false:=k.1 o2
theorem aLG(c:KC)(p:Nat):SO C x (.k c p):=TM (λ{st Q X} h=>by
 cases c
 case int=>exact⟨Ev.int h⟩
 case str=>exact⟨Ev.str h⟩
 case bool=>exact⟨Ev.bool h⟩
 case none=>exact⟨Ev.none h⟩) rfl λY Y Y=>rfl
theorem aLH(O:iZ C x)(i p:Nat):SO C x (.v i p):=aHD (ZD x i · ·) (λh=>rV_ O h) rfl (λh=>by
 refine d5 (VZ O h) λsJ q=>cD sJ λk S=>?_
 exact⟨As.name S.1 S.2 q⟩) λY Y Y=>rfl
theorem aCK{pos:Pos}{st:aK}{Q:aA->aK->Prop}{X:XQ}(q:Q (.bool true) st):Bx (Ev C (.Name ("__debug__":Str) pos) st Q X):=⟨λ{A g ρ s} a=>by
 show bZ _ _ (lO pos >>=λY=>debugConstant) _ _ _
 refine aC (d8 ?_)
 exact aC (lW (aI (.mk (b:=.bool true) .refl rfl a q)))⟩
theorem aCL{o:mS}{a b:E}{p:Nat}(A:SO C x a)(B:SO C x b):SO C x (.bin o a b p):=TM (λ{st Q X} h=>by
 refine⟨Ev.binop ?_⟩
 refine Bx.m (A.1 (R.aL h)) ?_
 intro u st1 h
 refine Bx.m (B.1 (R.aL h)) ?_
 exactλv bW h=>(aGE h).1) rfl λY Y Y=>rfl
theorem aHF{o:UnaryOp}{a:E}{p:Nat}(A:SO C x a):SO C x (.un o a p):=okT (λ{st Q X} h=>by
 cases o <;> first | exact h.elim | skip
 refine⟨Ev.unop ?_⟩
 refine Bx.m (A.1 (R.aL h)) ?_
 exactλu st1 h=>(oJ (P:=λu=>Bx (pD C V (unaryOp .USub) u st1 Q X)) h λi h=>⟨aAR h⟩).1) (λ{st Q X} h=>by
 cases o <;> first | exact h.elim | skip
 refine⟨Tr.not ?_⟩
 refine Bx.m (A.2 (R.aL h)) ?_
 exactλc st1 h=>h) λY Y Y=>rfl
theorem aCM{o:CmpOp}{a b:E}{p:Nat}(A:SO C x a)(B:SO C x b):SO C x (.cmp o a b p):=okT (λ{st Q X} h=>by
 refine⟨Ev.cmp ((nG x.xs b).1 o) ?_⟩
 refine Bx.m (A.1 (R.aL h)) ?_
 intro u st1 h
 refine Bx.m (B.1 (R.aL h)) ?_
 exactλv bW h=>(KM h).1) (λ{st Q X} h=>by
 refine⟨Tr.cmp ((nG x.xs b).1 o) ?_⟩
 refine Bx.m (A.1 (R.aL h)) ?_
 intro u st1 h
 refine Bx.m (B.1 (R.aL h)) ?_
 exactλv bW h=>(KM ((R.aL h).mono (λc fL h=>iB_ (P:=λc=>∃b,c= .bool b∧Q b fL) h λb h=>⟨b,rfl,h⟩) λY Y Y Y q=>q)).1) λY Y Y=>rfl
theorem aHG{o:BoolOp}{es:E}{p:Nat}(A:SO C x es):SO C x (.bo o es p):=okT (A.4 o _) (A.5 o _) λY Y Y=>rfl
theorem aCN{t a b:E}{p:Nat}(T:SO C x t)(A:SO C x a)(B:SO C x b):SO C x (.YZ t a b p):=okT (λ{st Q X} h=>by
 refine⟨Ev.aE2 ?_⟩
 refine Bx.m (T.2 (R.aL h)) ?_
 intro c st1 h
 cases c with
 | true=>exact(A.1 (h.1 rfl)).1
 | false=>exact(B.1 (h.2 rfl)).1) (λh=>h.elim) λY Y Y=>rfl
theorem V8{a b:E}{p:Nat}(A:SO C x a)(B:SO C x b):SO C x (.item a b p):=TM (λ{st Q X} h=>by
 refine⟨Ev.item (nG x.xs b).2 ?_⟩
 refine Bx.m (A.1 (R.aL h)) ?_
 intro u st1 h
 refine Bx.m (B.1 (R.aL h)) ?_
 exactλv bW h=>(aBU h).imp id (λz=>z.1)) rfl λY Y Y=>rfl
theorem aCO{o lo hi s:E}{q p:Nat}(A:SO C x o)(L:SO C x lo)(U:SO C x hi)(K:SO C x s):SO C x (.iX o lo hi s q p):=TM (λ{st Q X} h=>by
 refine⟨Ev.slice ?_⟩
 refine dM h λY h=>?_
 refine Bx.m (A.1 (R.aL h)) ?_
 intro u st1 h
 refine Bx.m (L.6 (R.aL h)) ?_
 intro a bW h
 refine Bx.m (U.6 (R.aL h)) ?_
 intro b fL h
 refine Bx.m (K.6 (R.aL h)) ?_
 exactλc j6 h=>aGJ h) rfl λY Y Y=>rfl
theorem aCP{es:E}{p:Nat}(O:iZ C x)(A:SO C x es):SO C x (.tup es p):=by
 have he:∀{st:aK} {Q:aA->aK->Prop} {X:XQ},(((ev es x).a st).bind λas st1=>hZ (eB as.length 1000000) (.ok (.tup as) st1)).post Q X->Bx (Ev C (eD x.xs (.tup es p)).e st Q X):=λ{st Q X} h=>by
  refine⟨Ev.tup ?_⟩
  refine Bx.m (A.3 _ (R.aL h)) ?_
  exactλas st1 h=>dM h λc h=>⟨aH c,h⟩
 exact aHD (λb st=>rTL b st λxs=>hZ (x.hn && eK es.cnt xs.length) ((ev es x).h xs st)) he rfl (λ{st Q X b} h=>aLD (P:=λb=>Bx (As C _ b st (Q ()) X)) h (λys h=>dM h λc h=>
  ⟨As.tup (O.4 (aP c)) (c7 (aQ c)▸tgL es) (A.8 h).1⟩) λl ys e h=>dM h λc h=>
  ⟨As.lst (O.4 (aP c)) e (c7 (aQ c)▸tgL es) (A.8 h).1⟩) λY Y Y=>rfl
theorem aCQ{es:E}{p:Nat}(A:SO C x es):SO C x (.lst es p):=TM (λ{st Q X} h=>by
 refine⟨Ev.list ?_⟩
 refine Bx.m (A.3 _ (R.aL h)) ?_
 exactλas st1 h=>dM h λc h=>⟨aH (aP c),aQ c,h⟩) rfl λY Y Y=>rfl
theorem V9{f es wQ:E}{ks:List (Nat×Nat)}{p:Nat}(O:iZ C x)(F:SO C x f)(A:SO C x es)(K:SO C x wQ):SO C x (.call f es ks wQ p):=TM (λ{st Q X} h=>dM h λn h=>by
 refine⟨Ev.call (oV es wQ ks) ((nG x.xs f).5 n _ _ _ _) ?_⟩
 refine Bx.m (F.1 (R.aL h)) ?_
 intro fa st1 h
 refine Bx.m (A.3 _ (R.aL h)) ?_
 intro as bW h
 refine Bx.m (K.10 _ (R.aL h)) ?_
 exactλkv fL h=>(ZK O h).1) rfl λY Y Y=>rfl
theorem WA{o es wQ:E}{j q:Nat}{ks:List (Nat×Nat)}{p:Nat}(O:iZ C x)(F:SO C x o)(A:SO C x es)(K:SO C x wQ):SO C x (.dS o j q es ks wQ p):=TM (λ{st Q X} h=>dM h λn h=>by
 refine⟨Ev.dS (oV es wQ ks) (K7 o es wQ ks (aP (aP n)) _ _ _ _ (aQ (aP n)) (aQ n)) ?_⟩
 refine Bx.m (F.1 (R.aL h)) ?_
 intro b st1 h
 refine gmm (aCD O (R.aL h)) ?_
 intro fx bW h
 refine Bx.m (A.3 _ (R.aL h)) ?_
 intro as fL h
 refine Bx.m (K.10 _ (R.aL h)) ?_
 exactλkv j6 h=>(ZK O h).1) rfl λY Y Y=>rfl
theorem WB{o:E}{j p:Nat}(O:iZ C x)(A:SO C x o):SO C x (.attr o j p):=TM (λ{st Q X} h=>dM h λn h=>by
 refine⟨Ev.attr (aHB o n _ _ _) ?_⟩
 refine Bx.m (A.1 (R.aL h)) ?_
 exactλb st1 h=>(ZL O h).1) rfl λY Y Y=>rfl
theorem WC{o1 o2:CmpOp}{a b c:E}{p:Nat}(A:SO C x a)(B:SO C x b)(D:SO C x c):SO C x (.P9 o1 o2 a b c p):=okT (λh=>h.elim) (λ{st Q X} h=>by
 refine⟨Tr.P9 (I5 (nG x.xs b) (nG x.xs c)) ?_⟩
 refine Bx.m (A.1 (R.aL h)) ?_
 intro u st1 h
 refine Bx.m (B.1 (R.aL h)) ?_
 intro v bW h
 refine aHE (KM (R.aL h)) ?_
 intro r fL h
 refine iB_ (P:=λr=>∃b,r= .bool b∧(b=true->Ev C _ fL (λz j6=>d3 C V (d7 _) v z j6 (λc H9=>∃b,c= .bool b∧Q b H9) X) X)∧(b=false->Q false fL)) h λb h=>⟨b,rfl,λe=>?_,h.2⟩
 refine Bx.m (D.1 (R.aL (h.1 e))) ?_
 intro w j6 h
 refine aHE (KM (R.aL h)) ?_
 exactλr H9 h=>iB_ (P:=λr=>∃b,r= .bool b∧Q b H9) h λb h=>⟨b,rfl,h⟩) λY Y Y=>rfl
end
section
variable {ρ:Roo} {zs:List (Pos×Nat)} {pos:Pos}
theorem Q5:∀zs:List (Pos×Nat),TriplesOk (mK ρ zs):=λzs=>by
 induction zs with
 | nil=>trivial
 | cons z r ih=>exact ih
theorem aHH(a b:Nat):((a:Int)==(b:Int))=eK a b:=by
 cases e:eK a b with
 | true=>exact beq_iff_eq.mpr (congrArg _ (c7 e))
 | false=>exact beq_eq_false_iff_ne.mpr λq=>Nat.ne_of_beq_eq_false e (uM q)
theorem DA:codeAmong pos (mK ρ zs)=(FW zs pos).map λk=>.ref (ρ.getD k 0):=by
 induction zs with
 | nil=>rfl
 | cons z r ih=>
  show(if((z.1.line:Int)==pos.line && (z.1.col:Int)==pos.col) then some (.ref (ρ.getD z.2 0)) else codeAmong pos (mK ρ r))=(cond (eK z.1.line pos.line && eK z.1.col pos.col) (some z.2) (FW r pos)).map _
  rw[aHH,aHH,ih]
  cases eK z.1.line pos.line && eK z.1.col pos.col <;> rfl
theorem WE{n:Nat}(h:(zs.all λp=>dT p.2 n)=true):∀k,FW zs pos=some k->k < n:=by
 induction zs with
 | nil=>exactλk e=>nomatch e
 | cons z r ih=>
  intro k e
  have e:cond (eK z.1.line pos.line && eK z.1.col pos.col) (some z.2) (FW r pos)=some k:=e
  cases c:eK z.1.line pos.line && eK z.1.col pos.col with
  | true=>rw[c] at e;obtain rfl:=aD e;exact t8 (aP h)
  | false=>rw[c] at e;exact ih (aQ h) k e
end
theorem Pc.aLI{p:Pc}{z:cI×List (Pos×Nat)}:p.isT=some z->p= .iG z.1 z.2:=by
 cases p with
 | iG=>exactλh=>congrArg (λz:cI×List (Pos×Nat)=>Pc.iG z.1 z.2) (aD h)
 | _=>exact fA
inductive Lm1(ps:List (Str×Nat))(sc:iF)(y:Str×Str):Prop where
 | mk (k:Nat) (ps:ps= [(y.1,k)]) (ns:sc.names= [(y.1,.local),(y.2,.free)]) (ne:y.1≠y.2) (ki:sc.kind= .function) (co:sc.isCoroutine=false) (ge:sc.isGenerator=false) (y1:y.1=("low":Str)∨y.1=("row":Str))
theorem aLJ{ps:List (Str×Nat)}{sc:iF}{y:Str×Str}(h:lm1 ps sc=some y):Lm1 ps sc y:=by
 unfold lm1 at h
 have go:∀{c:Bool} {z:Str×Str},cond c (some z) none=some y->c=true∧z=y:=λ{c z} q=>by
  cases c with
  | true=>exact⟨rfl,aD q⟩
  | false=>exact fA q
 cases ps with
 | nil=>exact fA h
 | cons a r=>cases r with
  | cons=>exact fA h
  | nil=>
   cases hsc:sc.names with
   | nil=>rw[hsc] at h;exact fA h
   | cons b r=>cases r with
    | nil=>rw[hsc] at h;exact fA h
    | cons d r=>cases r with
     | cons=>rw[hsc] at h;exact fA h
     | nil=>
      rw[hsc] at h
      refine d5 (go h) λcc e=>?_
      have c:=aP cc
      obtain⟨b1,b2⟩:=b
      obtain⟨d1,d2⟩:=d
      obtain⟨a1,a2⟩:=a
      subst e
      obtain rfl:=eq_of_beq (aP (aP (aP (aP c))))
      obtain rfl:=eq_of_beq (aQ (aP (aP (aP c))))
      obtain rfl:=eq_of_beq (aQ (aP (aP c)))
      have c2:=aQ c
      unfold iF.pl at c2
      refine⟨a2,rfl,hsc,λq=>?_, ?_,not_true (aQ (aP c2)),not_true (aQ c2),(eA.mp (aQ cc)).imp eq_of_beq eq_of_beq⟩
      ·exact Bool.noConfusion ((beq_iff_eq.mpr q).symm.trans (not_true (aQ (aP c))))
      ·have c3:=aP (aP c2)
       cases e:sc.kind <;> rw[e] at c3 <;> first | rfl | exact eV c3
section
variable {C:Ctx} {x:Cx}
theorem aHI{j:Nat}{ps:List (Str×Nat)}{b:E}{sc:iF}{lp:Nat}{fa:aA}{as:List aA}{st:aK}{Q:aA->aK->Prop}{X:XQ}(O:iZ C x)(h:(rKey x j ps b sc lp fa as st).post Q X):Bx (NC C (.Lambda (xF ps) (eD (C6 sc) b).e sc (dp lp)) (an j) fa as st Q X):=
 iJ h λz e1 h=>iR_ (P:=λfa=>Bx (NC C (.Lambda (xF ps) (eD (C6 sc) b).e sc (dp lp)) (an j) fa as st Q X)) h λa h=>iJ h λe e2 h=>iJ h λy e3 h=>iJ h λw e4 h=>dM h λc h=>iJ h λob e5 h=>iJ h λbv e6 h=>iJ h λt e7 h=>dM h λc2 h=>dM h λhN hz=>by
  obtain⟨kp,rfl,YS,tN,hki,J1,hge,hy⟩:=aLJ e3
  refine u3 (O.10 z e1) λg1 g2 g3=>?_
  refine bS (KY e7) λpz f1 f2=>?_
  have f3:=f1.trans (congrArg some (Pc.aLI f2))
  obtain hT:=c7 (aP c2)
  rw[hT] at f3
  have T:=O.8.1 a e.1 e.2 e2
  refine ED T.1 λfd names body F=>?_
  have hi:C.ns[OL x.ns y.2]? =some (y.2,.cell):=(congrArg (·[OL x.ns y.2]?) O.1).trans (e4.trans (by
   obtain⟨w1,w2⟩:=w
   exact congrArg some (Prod.ext (eq_of_beq (aP (aP (aP (aP (aP c)))))) (QY (aQ (aP (aP (aP (aP c)))))))))
  have BF:OL x.ns y.2∉C.cp:=λq=>by have:=aQ (aP (aP (aP c)));rw[←O.3,mem_iff.mpr q] at this;exact eV this
  refine⟨NC.lam (L:=VX sc b y) (i:=OL x.ns y.2) (H1:=(M8 (FW t.2 (dp lp)) st.H z.l z.T t.2 (dp lp) z.q).1) (k:=(M8 (FW t.2 (dp lp)) st.H z.l z.T t.2 (dp lp) z.q).2) (FW t.2 (dp lp)) g1 g2 g3 f3 (λρ=>Q5 _) (λρ=>DA) (WE (aQ c2)) (O.1.symm▸aQ (aP (aP c))) rfl
   (λcl pm cv BV=>⟨rfl,rfl,rfl,rfl, ?_, ?_, ?_,J1,hge,hki,rfl,λc cs vs hv=>?_⟩) (λcs=>?_) hi BF (e5.trans (congrArg some e6)) rfl hN (O.4 (aQ (aP c)))
   (ofB F (T.2 (aB (aH (aQ c)) O.2) ((yO (R.aL hz)).mono (λr H1 q=>jZ q λp q=>dM q λd q=>⟨p,d,q⟩) λY Y Y Y q=>q))).1⟩
  ·show(sc.names.map (·.1)).Nodup
   rw[YS]
   exact b7.mpr ⟨λq=>tN (aU.mp q),b7.mpr ⟨λq=>(nomatch q),iC⟩⟩
  ·show(sc.names.all λp=>p.2 != .cell)=true
   rw[YS];rfl
  ·show(sc.names.all λp=>p.2 != .free || p.1==y.2)=true
   rw[YS]
   show(_ && ((_ || (y.2==y.2)) && true))=true
   rw[beq_self_eq_true];rfl
  ·cases vs with
   | nil=>cases hv
   | cons v r=>cases r with
    | nil=>
     obtain⟨y1,y2⟩:=y
     cases hy with
     | inl hy=>obtain rfl:=(hy:y1=_);rfl
     | inr hy=>obtain rfl:=(hy:y1=_);rfl
    | cons=>cases hv
  ·rw[YS];rfl
theorem Q6{f es b:E}{j kp lp p:Nat}{ps:List (Str×Nat)}{sc:iF}(O:iZ C x)(F:SO C x f)(A:SO C x es):SO C x (.rY f es j kp ps b sc lp p):=TM (λ{st Q X} h=>dM h λn h=>by
 refine⟨Ev.rY (oV es (.cons (.lam ps b sc lp) .nil) [(j,kp)]) ((nG x.xs f).5 n _ _ _ _) ?_⟩
 refine Bx.m (F.1 (R.aL h)) ?_
 intro fa st1 h
 refine Bx.m (A.3 _ (R.aL h)) ?_
 exactλas bW h=>(aHI O h).1) rfl λY Y Y=>rfl
end
section
variable {C:Ctx} {x:Cx}
abbrev IH(i:E):Prop:=∀C x,iZ C x->SO C x i
theorem aCR(x:Cx)(sc:iF):(x.lI sc).xs=C6 sc:=BS x.ns sc.names
theorem IH.lI{i:E}(h:IH i)(O:iZ C x){sc:iF}(hs:scB x.ns sc=true)(L:cI):oF (lL C sc L) (x.lI sc) (ev i (x.lI sc)) (eD (C6 sc) i):=aCR x sc▸h _ _ (O.lI hs L)
noncomputable def m9(t ifs e:E)(y:Cx)(acc:Nat)(b:aA)(st:aK):R aK Unit:=((ev t y).g b st).bind λY st1=>tests (ev ifs y).f (vW acc (ev e y).e) st1
theorem Q7{t ifs e:E}{C:Ctx}{y:Cx}{xs:List Str}{acc:Nat}(T:oF C y (ev t y) (eD xs t))(I:oF C y (ev ifs y) (eD xs ifs))(E:oF C y (ev e y) (eD xs e)):B3 C (eD xs t).e (eD xs ifs).l (mL (eD xs e).e) acc (m9 t ifs e y acc):=λ{b st P} h=>
 (T.7 (R.aL h)).amb λY st1 h=>by
  refine Bx.m (I.9 (R.aL h)) ?_
  intro c bW h
  cases c with
  | true=>exact(K4 (P:=P ()) E.1 (show R.post (λY=>P ()) eE (vW acc (ev e y).e bW) from h.1 rfl)).1
  | false=>exact h.2 rfl
theorem aCS{t e:E}{C:Ctx}{y:Cx}{xs:List Str}{acc:Nat}(T:oF C y (ev t y) (eD xs t))(E:oF C y (ev e y) (eD xs e)):B3 C (eD xs t).e [] (mL (eD xs e).e) acc (λb st=>((ev t y).g b st).bind λY st1=>vW acc (ev e y).e st1):=λ{b st P} h=>
 (T.7 (R.aL h)).amb λY st1 h=>by
  refine Cd.nil ?_
  exact(K4 E.1 h).1
noncomputable def ZO(t t2 G9 e:E)(y:Cx)(acc:Nat)(b:aA)(st:aK):R aK Unit:=((ev t y).g b st).bind λY st1=>((ev G9 y).e st1).bind λa bW=>TL t2 st1.H.length a bW λys need fL=>
   nV need fL (m8 (λb st=>((ev t2 y).g b st).bind λY st1=>vW acc (ev e y).e st1) need fL.H.length ys fL)
theorem Q8{t t2 G9 e:E}{C:Ctx}{y:Cx}{xs:List Str}{acc:Nat}{w:dO}(hh:C.hd=none)(he:p6 w 1 (eD xs t2).e [] (mL (eD xs e).e))(hf:oQ w 1)(T:oF C y (ev t y) (eD xs t))(T2:oF C y (ev t2 y) (eD xs t2))(I:oF C y (ev G9 y) (eD xs G9))(E:oF C y (ev e y) (eD xs e)):
  B3 C (eD xs t).e [] (oR w (eD xs G9).e 1) acc (ZO t t2 G9 e y acc):=λ{b st P} h=>
 (T.7 (R.aL h)).amb λY st1 h=>by
  refine Cd.nil ?_
  show pD C Eqv (λv=>oR w (eD xs G9).e 1 v C.env) (.aO acc) st1 (λ(_:Unit)=>P ()) eE
  refine PP he hf hh ((nG xs G9).4 _) ?_
  refine Bx.m (I.1 (R.aL h)) ?_
  intro a bW h
  exact aCI (C:=C) (xs:=xs) h λys need fL W h=>by
   refine d5 (vD h) λn0 h=>?_
   exact⟨ys,need,fL,_,⟨W.1,⟨h,n0⟩,Q1 (aCS T2 E)⟩,λfL h=>Q2 h⟩
theorem aHJ{e t it ifs:E}{sc:iF}{p:Nat}(O:iZ C x)(E:IH e)(T:IH t)(I:IH it)(F:IH ifs):SO C x (.lc e t it ifs sc p):=
 okC (λ{st Q X} h=>dM h λc h=>⟨Ev.lc1 (V2 O (aQ c)) (O.4 (aP c)) ((nG x.xs it).4 _) (C9 O (I C x O).1 (λacc L=>Q7 (T.lI O (aQ c) L) (F.lI O (aQ c) L) (E.lI O (aQ c) L)) (λY Y q=>⟨q⟩) h)⟩) rfl
  λ{st Q X Q' y pos' pos} hsw hf h=>dM h λc h=>⟨Ex.lc1 hsw (V2 O (aQ c)) (O.4 (aP c)) ((nG x.xs it).4 _) (C9 O (I C x O).1 (λacc L=>Q7 (T.lI O (aQ c) L) (F.lI O (aQ c) L) (E.lI O (aQ c) L)) hf h)⟩
theorem aCT{e t it t2 G9:E}{sc:iF}{p:Nat}(O:iZ C x)(E:IH e)(T:IH t)(I:IH it)(T2:IH t2)(I2:IH G9):SO C x (.OG e t it t2 G9 sc p):=
 okC (λ{st Q X} h=>dM h λc h=>⟨Ev.OG (V2 O (aQ c)) (O.4 (aP c)) ((nG x.xs it).4 _) (C9 O (I C x O).1 (λacc L=>Q8 (C:=lL C sc L) (O.4 (aP c)) vR (M7 _ _ rfl) (T.lI O (aQ c) L) (T2.lI O (aQ c) L) (I2.lI O (aQ c) L) (E.lI O (aQ c) L)) (λY Y q=>⟨q⟩) h)⟩) rfl
  λ{st Q X Q' y pos' pos} hsw hf h=>dM h λc h=>⟨Ex.OG hsw (V2 O (aQ c)) (O.4 (aP c)) ((nG x.xs it).4 _) (C9 O (I C x O).1 (λacc L=>Q8 (C:=lL C sc L) (O.4 (aP c)) vR (M7 _ _ rfl) (T.lI O (aQ c) L) (T2.lI O (aQ c) L) (I2.lI O (aQ c) L) (E.lI O (aQ c) L)) hf h)⟩
theorem aCU{xs:List (Str×Nat)}{b:E}{sc:iF}{p:Nat}:SO C x (.lam xs b sc p):=okT (e:=λY=>.no) (t:=λY=>.no) (λh=>h.elim) (λh=>h.elim) λY Y Y=>rfl
theorem aCV{p:Nat}:SO C x (.dbg p):=TM (λh=>aCK h) rfl λY Y Y=>rfl
theorem gA(i:E):IH i:=by
 induction i with
 | nil=>exactλC x O=>aHC
 | cons a r A B=>exactλC x O=>aCJ (A C x O) (B C x O)
 | v i p=>exactλC x O=>aLH O i p
 | k c p=>exactλC x O=>aLG c p
 | bin o a b p A B=>exactλC x O=>aCL (A C x O) (B C x O)
 | un o a p A=>exactλC x O=>aHF (A C x O)
 | cmp o a b p A B=>exactλC x O=>aCM (A C x O) (B C x O)
 | bo o es p A=>exactλC x O=>aHG (A C x O)
 | YZ t a b p T A B=>exactλC x O=>aCN (T C x O) (A C x O) (B C x O)
 | item o i p A B=>exactλC x O=>V8 (A C x O) (B C x O)
 | iX o lo hi s q p A L U K=>exactλC x O=>aCO (A C x O) (L C x O) (U C x O) (K C x O)
 | tup es p A=>exactλC x O=>aCP O (A C x O)
 | lst es p A=>exactλC x O=>aCQ (A C x O)
 | call f es ks wQ p F A K=>exactλC x O=>V9 O (F C x O) (A C x O) (K C x O)
 | dS o j q es ks wQ p F A K=>exactλC x O=>WA O (F C x O) (A C x O) (K C x O)
 | attr o j p A=>exactλC x O=>WB O (A C x O)
 | lc e t it ifs sc p E T I F=>exactλC x O=>aHJ O E T I F
 | OG e t it t2 G9 sc p E T I T2 I2=>exactλC x O=>aCT O E T I T2 I2
 | P9 o1 o2 a b c p A B D=>exactλC x O=>WC (A C x O) (B C x O) (D C x O)
 | rY f es j kp ps b sc lp p F A _=>exactλC x O=>Q6 O (F C x O) (A C x O)
 | dbg p=>exactλC x O=>aCV
 | lam xs b sc p _=>exactλC x O=>aCU
end
inductive vE(C:Ctx)(x:Cx)(v:SV)(d:DS):Prop where
 | mk (s:∀{st Q X},(v.s st).post Q X->Bx (Ex C d.s st Q X)) (k:∀{st Q X},(v.k st).post Q X->Bx (j5 C d.b st Q X))
section
variable {C:Ctx} {x:Cx} {st:aK} {X:XQ} {Q:bU->aK->Prop}
theorem D5{s:aK->R aK bU}{d:DS}(hs:∀{st Q X},(s st).post Q X->Bx (Ex C d.s st Q X)):vE C x ⟨s,λY=>.no⟩ d:=⟨hs,λh=>h.elim⟩
theorem Q9{α:Type}{s:Sem α}{a:α}:Sem.isP s=some a->s=pure a:=by
 cases s with
 | pure=>exactλh=>congrArg _ (aD h)
 | _=>exact fA
theorem yX{v:dO}{t:Option dO}{l:Nat}{ns:fF}{env:Env}(hk:env.scope.kind= .function)(hn:env.scope.names=ns):f9 v t l env=f9 v t l (CJ ns):=by
 have h1:env.blockKind=(CJ ns).blockKind:=by unfold Env.blockKind;rw[hk];rfl
 have h2:env.kindOf=(CJ ns).kindOf:=by funext x;unfold Env.kindOf;rw[hn];rfl
 unfold f9
 rw[h1,h2,hk]
 rfl
theorem yY{ts:List dO}{v:dO}{ns:fF}{env:Env}(hk:env.scope.kind= .function)(hn:env.scope.names=ns):mW ts v env=mW ts v (CJ ns):=by
 have h1:env.blockKind=(CJ ns).blockKind:=by unfold Env.blockKind;rw[hk];rfl
 have h2:env.kindOf=(CJ ns).kindOf:=by funext x;unfold Env.kindOf;rw[hn];rfl
 unfold mW
 rw[h1,h2]
theorem d3.mono{α β:Type}{R:Roo->c9->β->α->Prop}{t:aJ->aJ->Sem α}{a b:aA}{Q Q':β->aK->Prop}(w:Bx (d3 C R t a b st Q X))(k:∀b st,Q b st->Q' b st):d3 C R t a b st Q' X:=λat' hv hw=>
 bM (w.1 at' hv hw) (λx s1 p=>by cases p with | mk le r at' q=>exact .mk le r at' (k _ _ q)) λY Y x=>x
theorem aLK{i q:Nat}{a:aA}{Q:aK->Prop}(O:iZ C x)(h:(ZD x i a st).post (λY=>Q) X):Bx (As C (.Name (r7 x.xs i) (dp q)) a st Q X):=by
 refine d5 (VZ O h) λsJ q=>cD sJ λk S=>?_
 exact⟨As.name S.1 S.2 q⟩
theorem aCW{i q p:Nat}{e:E}(O:iZ C x)(A:SO C x e):vE C x (sv (.asg i q e p) x) (dst x.xs (.asg i q e p)):=D5 λ{st Q X} h=>iJ h λb e1 h=>⟨λ{A1 g ρ s} a=>by
 have e2:=(yX a.4.1 (a.4.2.trans O.1)).trans (Q9 e1)
 cases b with
 | true=>exact(A.11 e2 (λacc fL q=>by
   refine d5 (VZ O (R.aL q)) λsJ q=>cD sJ λk S=>?_
   exact⟨As.name S.1 S.2 q⟩) (R.aL h)).1 a
 | false=>
  refine Ex.assign e2 ?_ a
  refine Bx.m (A.1 (R.aL h)) ?_
  exactλb st1 h=>(aLK (Q:=Q .next) O (R.aL h)).1⟩
theorem aHK(O:iZ C x){ys:List Str}{Q:Unit->aK->Prop}:∀{as:List aA} {st:aK},(aG3 x ys as st).post Q X->Bx (xS C ys as st (Q ()) X):=by
 induction ys with
 | nil=>intro as st h;cases as <;> first | exact⟨xS.nil h⟩ | exact h.elim
 | cons y ys ih=>
  intro as st h
  cases as with
  | nil=>exact h.elim
  | cons b bs=>
   exact iJ h λz e h=>dM h λc h=>by
    refine d5 (VZ O (R.aL h)) λsJ h=>cD sJ λk S=>?_
    exact⟨xS.cons (S.1.trans (congrArg (λw=>some (w,k)) ((congrArg jU (aD (((congrArg (·[OL x.ns y]?) O.1).trans e:C.ns[OL x.ns y]? =some z).symm.trans S.1))).symm.trans (eq_of_beq c))):C.ns[OL x.ns y]? =some (y,k)) S.2 (ih h).1⟩
theorem RA{v t:dO}{l:Nat}{env:Env}(h:f9 v (some t) l env=pure false):D0 [t] v l env=pure false:=h
theorem WF{t e:E}{p:Nat}(O:iZ C x)(T:SO C x t)(A:SO C x e):vE C x (sv (.rG t e p) x) (dst x.xs (.rG t e p)):=D5 λ{st Q X} h=>dM h λc h=>iJ h λb e0 h=>dM h λcb h=>iJ h λo e1 hz=>⟨λ{A1 g ρ s} a=>by
 refine kG (QV (aQ c)) λt1 t2 dE=>?_;subst dE
 have e2:=(Q9 e0).trans (congrArg pure (not_true cb))
 have hs:=RA ((yX a.4.1 (a.4.2.trans O.1)).trans e2)
 have hw:=(yY a.4.1 (a.4.2.trans O.1)).trans (Q9 e1)
 cases o with
 | none=>
  refine Ex.CL hs hw ?_ a
  refine Bx.m (A.1 (R.aL hz)) ?_
  exactλb st1 h=>(T.7 (Q:=λY=>Q .next) (R.aL h)).1
 | some names=>
  refine Ex.T5 (O.4 (aP c)) hw hs ?_ a
  refine Bx.m (A.1 (R.aL hz)) ?_
  exactλb st1 h=>iT_ (P:=λb=>∃ys,b= .tup ys∧names.length=ys.length∧xS C names.reverse ys.reverse st1 (Q .next) X) h λys h=>dM h λc h=>⟨ys,rfl,c7 c,(aHK (Q:=λY=>Q .next) O (R.aL h)).1⟩⟩
theorem WG{o e:E}{j q p:Nat}(O:iZ C x)(B:SO C x o)(A:SO C x e):vE C x (sv (.AS o j q e p) x) (dst x.xs (.AS o j q e p)):=D5 λ{st Q X} h=>dM h λc h=>by
 refine⟨Ex.T8 ((nG x.xs e).6 c _ _ _) ?_⟩
 refine Bx.m (A.1 (R.aL h)) ?_
 intro b st1 h
 refine Bx.m (B.1 (R.aL h)) ?_
 exactλd bW h=>(ZM (Q:=λY=>Q .next) O (R.aL h)).1
theorem aCX{i q p:Nat}{o:mS}{e:E}(O:iZ C x)(A:SO C x e):vE C x (sv (.aug i q o e p) x) (dst x.xs (.aug i q o e p)):=D5 λ{st Q X} h=>iJ h λz e1 h=>dM h λc h=>by
 obtain h:=R.aL h
 refine iJ h λY Y h=>dM h λY h=>iJ h λy e2 h=>iJ h λb e3 h=>?_
 have e:C.ns[i]? =some (z.1,z.2):=(congrArg (·[i]?) O.1).trans e1
 have hx:r7 x.xs i=z.1:=by
  unfold r7
  rw[bO,bX,←O.1,e]
  rfl
 show Bx (Ex C (.AugAssign (.Name (r7 x.xs i) (dp q)) o (eD x.xs _).e (dp p)) st Q X)
 rw[hx]
 refine⟨Ex.aug e (I3 c) (e2.trans (congrArg some e3)) ?_⟩
 refine Bx.m (A.1 (R.aL h)) ?_
 intro d st1 h
 exactλa0 hv hw=>(Y1 (R.aL h)).1 a0 hv.wk hw
theorem WH{o e:E}{j q p:Nat}{op:mS}(O:iZ C x)(B:SO C x o)(A:SO C x e):vE C x (sv (.MN o j q op e p) x) (dst x.xs (.MN o j q op e p)):=D5 λ{st Q X} h=>by
 refine⟨Ex.MN ?_⟩
 refine Bx.m (B.1 (R.aL h)) ?_
 intro b st1 h
 refine Bx.am (ZL O (R.aL h)) ?_
 intro c bW h
 refine Bx.m (A.1 (R.aL h)) ?_
 intro d fL h
 refine d3.mono (Y1 (R.aL h)) ?_
 exactλr j6 h=>(ZM (Q:=λY=>Q .next) O (R.aL h)).1
theorem aCY{e:E}{p:Nat}(A:SO C x e):vE C x (sv (.ret e p) x) (dst x.xs (.ret e p)):=D5 λ{st Q X} h=>by
 refine⟨Ex.ret ?_⟩
 refine Bx.m (A.1 (R.aL h)) ?_
 exactλa st1 h=>h
theorem aHL{e:E}{p:Nat}(A:SO C x e):vE C x (sv (.ex e p) x) (dst x.xs (.ex e p)):=D5 λ{st Q X} h=>dM h λc h=>by
 refine⟨Ex.expr ((nG x.xs e).6 c _ _ _) ?_⟩
 refine Bx.m (A.1 (R.aL h)) ?_
 exactλa st1 h=>h
theorem aCZ{t:E}{b o:S}{p:Nat}(T:SO C x t)(B:vE C x (sv b x) (dst x.xs b))(E:vE C x (sv o x) (dst x.xs o)):vE C x (sv (.ite t b o p) x) (dst x.xs (.ite t b o p)):=D5 λ{st Q X} h=>by
 refine⟨Ex.ite ?_⟩
 refine Bx.m (T.2 (R.aL h)) ?_
 intro c st1 h
 cases c with
 | true=>exact(B.2 (h.1 rfl)).1
 | false=>exact(E.2 (h.2 rfl)).1
theorem aC0{t:E}{p:Nat}(O:iZ C x)(T:SO C x t):vE C x (sv (.ast t p) x) (dst x.xs (.ast t p)):=D5 λ{st Q X} h=>dM h λc h=>by
 refine⟨Ex.assert (O.4 c) ?_⟩
 refine Bx.m (T.2 (R.aL h)) ?_
 exactλc st1 h=>jZ h λp h=>⟨p,h⟩
theorem aC1{o i:E}{q p:Nat}(A:SO C x o)(B:SO C x i):vE C x (sv (.del o i q p) x) (dst x.xs (.del o i q p)):=D5 λ{st Q X} h=>by
 refine⟨Ex.delItem ?_⟩
 refine Bx.m (A.1 (R.aL h)) ?_
 intro b st1 h
 refine Bx.m (B.1 (R.aL h)) ?_
 exactλk bW h=>C7 (P:=λb=>∃l xs k' j,b= .aO l∧k= .int k'∧bW.H[l]? =some (.lst xs)∧sO k' xs.length=some j∧cX k'=true∧xs.length≤1000000∧Q .next ⟨bW.m,bW.H.set l (.lst (xs.eraseIdx j))⟩) h λl h=>
  oJ (P:=λk=>∃l' xs k' j,aA.aO l= .aO l'∧k= .int k'∧bW.H[l']? =some (.lst xs)∧sO k' xs.length=some j∧cX k'=true∧xs.length≤1000000∧Q .next ⟨bW.m,bW.H.set l' (.lst (xs.eraseIdx j))⟩) h λk h=>xG h λxs e h=>dM h λc h=>jZ h λz h=>pN h λw h=>by
   cases w <;> first | exact h.elim | exact jZ h λe2 h=>⟨l,xs,k,_,rfl,rfl,e,e2,c,z,h⟩
theorem WI{s r:S}(A:vE C x (sv s x) (dst x.xs s))(B:vE C x (sv r x) (dst x.xs r)):vE C x (sv (.cons s r) x) (dst x.xs (.cons s r)):=⟨λh=>h.elim,λ{st Q X} h=>by
 refine⟨j5.cons ?_⟩
 refine Bx.m (A.1 (R.aL h)) ?_
 intro fl st1 h
 cases fl with
 | next=>exact(B.2 h).1
 | _=>exact h⟩
end
section
variable {C:Ctx} {x:Cx} {st:aK} {X:XQ} {Q:bU->aK->Prop}
theorem I6{again:aK->R aK bU}{K:aK->Prop}{fl:bU}(h:(KV fl again st).post Q X)(f:∀st,(again st).post Q X->K st):rS K Q fl st:=by
 cases fl with
 | next=>exact f _ h
 | cont=>exact f _ h
 | brk=>exact h
 | ret a=>exact h
abbrev RB(C:Ctx)(t:dO)(b:List v8)(turn:aA->aK->R aK bU):Prop:=∀{y st Q},(turn y st).post Q eE->Bx (As C t y st (λst1=>j5 C b st1 Q eE) eE)
def fJ(u:Bool)(turn:aA->aK->R aK bU)(need:List (Nat×Pc))(k:Nat)(ys:List aA)(Q:bU->aK->Prop)(j:Nat)(st:aK):Prop:=(forL u turn need k (ys.drop j) st).post Q eE∧nd need st
theorem I7{t:E}{b:S}(T:SO C x t)(B:vE C x (sv b x) (dst x.xs b)):RB C (eD x.xs t).e (dst x.xs b).b (λy st=>((ev t x).g y st).bind λY st1=>(sv b x).k st1):=λ{y st Q} h=>(T.7 (R.aL h)).amb λY st1 h=>(B.2 h).1
theorem K8(u:Bool){t it:E}{b:S}{p:Nat}{turn:aA->aK->R aK bU}(hh:C.hd=none)(I:SO C x it)(T:RB C (eD x.xs t).e (dst x.xs b).b turn)(h:(((ev it x).e st).bind λa st1=>QX u t st.H.length turn a st1).post Q X):Bx (Ex C (.For (eD x.xs t).e (eD x.xs it).e (dst x.xs b).b [] (dp p)) st Q X):=by
 refine⟨Ex.kA u hh ((nG x.xs it).4 _) ?_⟩
 refine Bx.m (I.1 (R.aL h)) ?_
 intro a st1 h
 refine aCI (C:=C) (xs:=x.xs) h λys need bW W h=>?_
 refine d5 (vD (qX (X':=eE) h)) λn0 h=>?_
 refine⟨ys,need,bW,fJ u turn need bW.H.length ys Q,⟨W.1,⟨h,n0⟩,λj st h=>h.2⟩,λj y st e h=>?_,λst h=>?_⟩
 ·have h:=h.1
  rw[KZ e] at h
  intro A g ρ s v
  refine Bx.am (T (R.aL h)) ?_
  intro _ fL h
  refine Bx.m ⟨h⟩ ?_
  exactλfl j6 h=>I6 h λj6 h=>dM h λc h=>⟨c,(vD h).symm⟩
 ·have h:=h.1
  rw[List.drop_length] at h
  exact h
theorem WJ{t it:E}{b:S}{p:Nat}{turn:aA->aK->R aK bU}(O:iZ C x)(hn:x.hn=true)(I:SO C x it)(T:RB C (eD x.xs t).e (dst x.xs b).b turn)(h:(((ev it x).e st).bind λa st1=>ZI x turn a st1).post Q X):Bx (Ex C (.For (eD x.xs t).e (eD x.xs it).e (dst x.xs b).b [] (dp p)) st Q X):=by
 refine⟨Ex.n4 ((nG x.xs it).4 _) ?_⟩
 refine Bx.m (I.1 (R.aL h)) ?_
 intro a st1 h
 refine C7 (P:=λa=>∃(l:Nat) (J:Nat->aK->Prop) (k0:Nat),a= .aO l∧U3 l st1∧J k0 st1∧∀k st,J k st->Nx C l st (λr bW=>match r with
   | some v=>U3 l bW∧As C (eD x.xs t).e v bW (λfL=>j5 C (dst x.xs b).b fL (rS (λj6=>lK st1.H.length st1.H.length j6.H=true∧∃k':Nat,k' < k∧J k' (j6.cut st1.H.length)) Q) eE) eE
   | none=>Q .next bW)) h λl h=>dM h λc h=>⟨l,λk st=>(n4 x turn l st1.H.length k st).post Q eE,fuel,rfl,KW c,qX h,λk st h=>?_⟩
 cases k with
 | zero=>exact h.elim
 | succ k=>
  refine Bx.am (aG9 O hn (R.aL h)) ?_
  intro r bW h
  cases r with
  | none=>exact h
  | some v=>
   refine dM h λc h=>⟨KW c, ?_⟩
   refine Bx.am (T (R.aL h)) ?_
   intro _ fL h
   refine Bx.m ⟨h⟩ ?_
   exactλfl j6 h=>I6 h λj6 h=>dM h λc h=>⟨c,k,fU k,h⟩
theorem Pc.aHM{p:Pc}{k:Nat}:p.aG2=some k->p= .vw k:=by
 cases p with
 | vw=>exactλh=>congrArg _ (aD h)
 | _=>exact fA
theorem WK{t it:E}{b:S}{p:Nat}(hh:C.hd=none)(I:SO C x it)(h:(((ev it x).e st).bind λa st1=>ZJ a st1).post Q X):Bx (Ex C (.For (eD x.xs t).e (eD x.xs it).e (dst x.xs b).b [] (dp p)) st Q X):=by
 refine⟨Ex.aK2 hh ((nG x.xs it).4 _) ?_⟩
 refine Bx.m (I.1 (R.aL h)) ?_
 exactλa st1 h=>C7 (P:=λa=>∃v d,a= .aO v∧st1.H[v]? =some (.vw d)∧st1.H[d]? =some (.wH [])∧Q .next st1) h λl h=>iJ h λd e h=>gD_ h λps e2 h=>dM h λc h=>by
  refine bS (KY e) λq g1 g2=>?_
  exact⟨l,d,rfl,g1.trans (congrArg some (Pc.aHM g2)),e2.trans (by rw[jK.mp c]),h⟩
theorem aC2{n:Nat}{t it:E}{b:S}{p:Nat}(O:iZ C x)(T:SO C x t)(I:SO C x it)(B:vE C x (sv b x) (dst x.xs b)):vE C x (sv (.kA n t it b p) x) (dst x.xs (.kA n t it b p)):=D5 λ{st Q X} h=>dM h λc h=>by
 cases n with
 | zero=>exact K8 false (O.4 c) I (I7 T B) h
 | succ n=>cases n with
  | zero=>exact WJ O c I (I7 T B) h
  | succ n=>cases n with
   | zero=>exact WK (O.4 c) I h
   | succ n=>exact K8 true (O.4 c) I (I7 T B) h
theorem aC3{t:E}{b:S}{p:Nat}(T:SO C x t)(B:vE C x (sv b x) (dst x.xs b)):vE C x (sv (.TJ t b p) x) (dst x.xs (.TJ t b p)):=D5 λ{st Q X} h=>by
 refine⟨Ex.aAJ (λk st=>(QW (ev t x).t (sv b x).k k st).post Q eE) fuel (qX h) λk st h=>?_⟩
 cases k with
 | zero=>exact h.elim
 | succ k=>
  refine Bx.m (T.2 (R.aL h)) ?_
  intro c st1 h
  cases c with
  | true=>
   refine Bx.m (B.2 (R.aL (h.1 rfl))) ?_
   exactλfl bW h=>I6 h λbW h=>⟨k,fU k,h⟩
  | false=>exact h.2 rfl
theorem aLL:Al (λcls Y=>(∃n i,ExcCallFacts cls n i)∧ExcRaiseFacts cls∧cls≠"tuple") exC:=.cons ⟨⟨_,_,F.excCall_ValueError⟩,F.excRaise_ValueError,by decide⟩ .nil
theorem aLM:Al (λz b=>Below z.1 z.2 b∧z.1≠"tuple") exB:=.cons ⟨⟨⋯,⋯,⋯⟩,by decide⟩ .nil
theorem ZP{i:Nat}{k:String->R aK bU}(O:iZ C x)(h:(aB7 x i st k).post Q X){P:Prop}(f:∀z T,eK i x.db=false->C.ns[i]? =some z->r7 x.xs i=z.1->st.m[i]? =some (some (.typ T))->(k T).post Q X->P):P:=
 iJ (R.aL h) λz e h=>dM h λcd h=>iJ h λo e1 h=>iJ h λb e2 h=>by
  cases b with
  | typ T=>
   have e:C.ns[i]? =some z:=(congrArg (·[i]?) O.1).trans e
   refine f z T (not_true cd) e ?_ (e1.trans (congrArg some e2)) h
   unfold r7
   rw[bO,bX,←O.1,e]
   rfl
  | _=>exact h.elim
theorem aC4{i q q2 p:Nat}{e:E}(O:iZ C x)(A:SO C x e):vE C x (sv (.rse i q e q2 p) x) (dst x.xs (.rse i q e q2 p)):=D5 λ{st Q X} h=>dM h λc h=>ZP O h λz T e0 e1 e2 e3 h=>iJ h λu e4 h=>by
 refine u3 (aLL.at e4) λsJ FR _=>kG sJ λn i FC=>?_
 show Bx (Ex C (.Raise (some (.Call (.Name (r7 x.xs _) (dp q)) [(eD x.xs e).e] [] (dp q2))) none (dp p)) st Q X)
 rw[e2]
 refine⟨Ex.raise FC FR (O.4 c) ((nG x.xs e).3 _ _) e1 e3 (O.7 _ _ _ e0 e1) ?_⟩
 refine Ar.cons ((nG x.xs e).3 _ _) ?_
 refine Bx.m (A.1 (R.aL h)) ?_
 intro b st1 h
 exact Ar.nil ⟨b,rfl,h⟩
theorem aC5{hn:String->aA->aK->R aK bU}{r:R aK bU}:(r.catch hn).post Q X->r.post Q (λf c m st=>f=false∧(hn c m st).post Q X):=by
 induction r with
 | no=>exact id
 | ok a s=>exact id
 | ob p r ih=>exact nR id ih
 | br c x y i1 i2=>exact nR (λh c=>i1 (h c)) (λh c=>i2 (h c))
 | ask k ih=>exactλh=>h.elim λw h=>⟨w,ih w h⟩
 | ex f=>exactλh=>dM h λc h=>⟨not_true c,h⟩
theorem iZ.on(O:iZ C x)(v:aJ):iZ (C.on (some v)) { x with hn:=false }:=⟨O.1,O.2,O.3,eV,λc=>⟨(O.5 c).1,(O.5 c).2⟩,O.6,O.7,O.8,O.9,O.10⟩
theorem sC_{s:S}:s.IX=true->∃a b,s= .cons a b:=by
 cases s with
 | cons a b=>exactλY=>⟨a,b,rfl⟩
 | _=>exact eV
theorem aHN{xi i1 q1 p1:Nat}{h:S}{cls T1:String}{l:List Nat}{rest:List uP}{z:Str×dB}(O:iZ C x)(hc:h.IX=true)(H:∀C x,iZ C x->vE C x (sv h x) (dst x.xs h))(S:Below cls T1 true)(ht:cls≠"tuple")
  (e0:eK i1 x.db=false) (e1:C.ns[i1]? =some z) (e2:r7 x.xs i1=z.1) (e3:st.m[i1]? =some (some (.typ T1))) (q:(aG4 x xi (λx=>(sv h x).k) cls l st).post Q X):Bx (Hd C (.ExceptHandler (some (.Name (r7 x.xs i1) (dp q1))) (some (r7 x.xs xi)) (dst x.xs h).b (dp p1)::rest) cls (.str l) st Q):=
 iJ q λy e q=>dM q λc q=>by
  have e:C.ns[xi]? =some y:=(congrArg (·[xi]?) O.1).trans e
  have hx:r7 x.xs xi=y.1:=by
   unfold r7
   rw[bO,bX,←O.1,e]
   rfl
  rw[e2,hx]
  refine kG (sC_ hc) λa b dE=>?_;subst dE
  refine⟨Hd.hit S ht e1 e3 (O.7 _ _ _ e0 e1) (e.trans (by rw[←I3 c])) λv=>?_⟩
  exact((H _ _ (O.on v)).2 ((qX (X':=eE) (R.aL q)))).1
theorem aC6{b h1:S}{i1 q1 x1 p1 p:Nat}(O:iZ C x)(B:vE C x (sv b x) (dst x.xs b))(H1:∀C x,iZ C x->vE C x (sv h1 x) (dst x.xs h1)):vE C x (sv (.VI b i1 q1 x1 h1 p1 p) x) (dst x.xs (.VI b i1 q1 x1 h1 p1 p)):=D5 λ{st Q X} h=>dM h λc h=>by
 refine⟨Ex.aKT (O.5 (aP c)) ?_⟩
 refine Wp.mono (B.2 (aC5 h)).1 (λY Y q=>q) ?_
 intro f cls msg st1 h
 refine⟨h.1,yL (P:=λm=>Hd C [.ExceptHandler (some (.Name (r7 x.xs i1) (dp q1))) (some (r7 x.xs x1)) (dst x.xs h1).b (dp p1)] cls m st1 Q) h.2 λl h=>ZP O h λz T e0 e1 e2 e3 h=>iJ h λb e4 h=>dM h λcb h=>?_⟩
 refine d5 (aLM.at e4) λS ht=>?_
 cases b with
 | true=>exact(aHN O (aQ c) H1 S ht e0 e1 e2 e3 h).1
 | false=>exact eV cb
theorem pF(s:S):∀C x,iZ C x->vE C x (sv s x) (dst x.xs s):=by
 induction s with
 | nil=>exactλC x O=>⟨λh=>h.elim,λh=>⟨j5.nil h⟩⟩
 | cons s r A B=>exactλC x O=>WI (A C x O) (B C x O)
 | asg i q e p=>exactλC x O=>aCW O (gA e C x O)
 | rG t e p=>exactλC x O=>WF O (gA t C x O) (gA e C x O)
 | AS o j q e p=>exactλC x O=>WG O (gA o C x O) (gA e C x O)
 | aug i q o e p=>exactλC x O=>aCX O (gA e C x O)
 | MN o j q op e p=>exactλC x O=>WH O (gA o C x O) (gA e C x O)
 | ret e p=>exactλC x O=>aCY (gA e C x O)
 | aAH p=>exactλC x O=>D5 λh=>⟨Ex.aAH h⟩
 | ex e p=>exactλC x O=>aHL (gA e C x O)
 | ite t b o p B E=>exactλC x O=>aCZ (gA t C x O) (B C x O) (E C x O)
 | kA n t it b p B=>exactλC x O=>aC2 O (gA t C x O) (gA it C x O) (B C x O)
 | TJ t b p B=>exactλC x O=>aC3 (gA t C x O) (B C x O)
 | pas p=>exactλC x O=>D5 λh=>⟨Ex.pass h⟩
 | brk p=>exactλC x O=>D5 λh=>⟨Ex.brk h⟩
 | cnt p=>exactλC x O=>D5 λh=>⟨Ex.cont h⟩
 | ast t p=>exactλC x O=>aC0 O (gA t C x O)
 | del o i q p=>exactλC x O=>aC1 (gA o C x O) (gA i C x O)
 | rse i q e q2 p=>exactλC x O=>aC4 O (gA e C x O)
 | VI b i1 q1 x1 h1 p1 p B H1=>exactλC x O=>aC6 O (B C x O) H1
end
section
variable {D:WD} {n:Nat} {names:fF} {fd:cN} {as ks:List aA} {kn:List Str} {H:List Pc} {Q:List aA->List Pc->Prop}
noncomputable def mM(ns:fF):Bool:=ns.all λp=>p.2==.local || p.2==.cell
theorem FY{ns:fF}(h:mM ns=true):∀p∈ns,p.2= .local∨p.2= .cell:=λp hp=>(eA.mp (bN.mp h p hp)).imp eq_of_beq eq_of_beq
end
mutual
noncomputable def aA.pY:aA->List Nat
 | .aO l=>[l]
 | .tup xs=>B4 xs
 | _=>[]
noncomputable def B4:List aA->List Nat
 | []=>[]
 | x::xs=>x.pY++B4 xs
end
noncomputable def aHO(l:List (Str×aA)):List Nat:=
 List.rec [] (λp _ ih=>p.2.pY++ih) l
noncomputable def Pc.pY:Pc->List Nat
 | .ns fs=>aHO fs
 | .inst _ d=>[d]
 | .rC a=>a.pY
 | .HP _ _ cl c d=>cl::c::d.toList
 | .tG _ c d=>c::d.toList
 | .wI _ _ cl c=>[cl,c]
 | .iG _ zs=>zs.map (·.2)
 | .m6 _ x=>[x]
 | .hC b _=>[b]
 | .lit l=>[l]
 | .AH l=>[l]
 | .vw l=>[l]
 | _=>[]
noncomputable def reach(H:List Pc)(n:Nat)(ls acc:List Nat):List Nat:=
 Nat.rec (motive:=λ_=>List Nat->List Nat->List Nat) (λ_ acc=>acc) (λ_ ih ls acc=>List.rec acc (λl ls _=>cond (mem l acc) (ih ls acc) (ih ((H.getD l .gone).pY++ls) (acc++ [l]))) ls) n ls acc
noncomputable def aHP(H:List Pc)(l:Nat):List Nat:=
 Nat.rec [] (λn ih=>ih++(H.getD n .gone).pY) l
noncomputable def aLN(H1:List Pc)(k:Nat)(r:aA):List Nat:=(reach H1 400 (r.pY++aHP H1 k) []).filter λl=>eB k l
noncomputable def aHQ(σ:List Nat)(H:List Pc)(r:aA)(H1:List Pc):R (List Pc) aA:=(λτ=>hZ (BJ σ τ H1 r) (.ok (r.map (pM σ τ H.length)) (CQ H σ (pick H1 (pM σ τ H.length) (cE σ.length))++pick H1 (pM σ τ H.length) τ))) (aLN H1 σ.length r)
noncomputable def aHR(sp:Fx)(as:List aA)(kn:List Str)(ks:List aA)(H:List Pc)(σ:List Nat):R (List Pc) aA:=hZ (HY σ H as ks) ((sp (wL (λl=>idx l σ) as) kn (wL (λl=>idx l σ) ks) (pick H (λl=>idx l σ) σ)).bind (aHQ σ H))
noncomputable def eO(sp:Fx):Fx:=λas kn ks H=>aHR sp as kn ks H (reach H 400 (B4 as++B4 ks) [])
inductive FZ(D:WD)(a:cI)(need:Nat)(sp:Fx):Prop where
 | mk (fn:∃fd names body,Fn D a fd names body) (co:∀{n as kn ks H Q},need≤n->(sp as kn ks H).post Q NoE->Bx (fS D n HN a as kn ks H Q))
theorem FZ.fr{D:WD}{a:cI}{need:Nat}{sp:Fx}(S:FZ D a need sp):kB D a need (eO sp):=⟨
 (S.1),
 (λhn h=>dM h λi h=>⟨fS.frame i (S.2 hn (R.aL h)).1 λr H1 q=>dM q λo q=>⟨_,o,q⟩⟩)⟩
noncomputable def TO(ns:fF)(as:List aA)(G:KB):Loc:=
 List.rec (motive:=λ_=>List aA->Loc) (λ_=>[]) (λp _ ih as=>List.rec ((cond (p.2==.globalImplicit) (G.lookup p.1) none)::ih []) (λa as _=>some a::ih as) as) ns as
theorem NQ{D:WD}{G:KB}(hG:∀y b,G.lookup y=some b->GR D y b){ns:fF}:∀{as:List aA},mM (ns.take as.length)=true->Init D ns as (TO ns as G):=by
 induction ns with
 | nil=>intro as _ i y k b e;exact bK e
 | cons p r ih=>
  intro as hk i y k b e1 e2
  cases as with
  | nil=>
   cases i with
   | zero=>
    obtain rfl:=aD e1
    have e2:cond (k==.globalImplicit) (G.lookup y) none=some b:=aD e2
    cases c:k==.globalImplicit with
    | true=>rw[c] at e2;exact .inr ⟨eq_of_beq c,hG _ _ e2⟩
    | false=>rw[c] at e2;exact fA e2
   | succ i=>exact(ih (as:=[]) rfl i y k b e1 e2).imp (λz=>nomatch z.2) id
  | cons a as=>
   cases i with
   | zero=>obtain rfl:=aD e1;cases e2;exact .inl ⟨(eA.mp (aP hk)).imp eq_of_beq eq_of_beq,rfl⟩
   | succ i=>exact ih (aQ hk) i y k b e1 e2
inductive WOk(D:WD)(x:Cx):Prop where
 | mk (gl:∀y b,x.G.lookup y=some b->GR D y b) (nd:∀(i:Nat) (y:Str) (k:dB),eK i x.db=false->x.ns[i]? =some (y,k)->jL y=true) (tb:VO D x.tb) (ra:NM D x.tb)
noncomputable def K9(ns:fF)(n:Nat)(G:KB)(tb:Tb)(lm:Option LmT):Cx:=⟨ns,n,[],G,false,true,tb,ns.findIdx λp=>!(jL p.1),lm⟩
noncomputable abbrev D6(ns:fF)(n:Nat)(G:KB)(tb:Tb):Cx:=K9 ns n G tb none
section
variable {D:WD} {n k:Nat} {ns:fF} {G:KB} {tb:Tb} {fd:cN} {fa:cI} {as ks:List aA} {kn:List Str} {H:List Pc} {ir:S} {lm:Option LmT}
def wS(D:WD)(fd:cN)(lm:Option LmT):Prop:=∀z,lm=some z->fd.code= .ref z.c∧uN D.K z.c z.T=true∧fd.qualname++".<locals>."++"<lambda>"=z.q
theorem wS.no:wS D fd none:=λ_ e=>nomatch e
theorem WOk.cok(W:WOk D (K9 ns k G tb lm))(L:wS D fd lm){C':Ctx}(I:Inn D n ns fd C')(hk:k≤n)(hh:C'.hd=none):iZ C' (K9 ns k G tb lm):=⟨
 (I.3),
 (I.2.symm▸hk),
 (I.4),
 (λ_=>hh),
 (eV),
 (I.1.symm▸W.1),
 (I.3.symm▸W.2),
 (I.1.symm▸W.3),
 (I.1.symm▸W.4),
 (λz e=>by refine u3 (L z e) λl1 l2 l3=>?_;exact⟨I.5.trans l1,I.1.symm▸l2,(congrArg (· ++("<lambda>":Str)) I.6).trans l3⟩)⟩
theorem Bind.mono{D:WD}{n:Nat}{ns:fF}{fd:cN}{as ks:List aA}{kn:List Str}{H:List Pc}{Q Q':List aA->List Pc->Prop}(b:Bind D n ns fd as kn ks H Q)(h:∀oC H1,Q oC H1->Q' oC H1):Bind D n ns fd as kn ks H Q':=λw hv hw=>
 bM (b w hv hw) (λx s' p=>by cases p with | mk le r o q=>exact .mk le r o (h _ _ q)) λY Y e=>e
theorem aHS{Q:aA->List Pc->Prop}(F:Fn D fa fd ns (dst (K9 ns k G tb lm).xs ir).b)(W:WOk D (K9 ns k G tb lm))(L:wS D fd lm)(hk:k≤n)
  (hb:Bind D n ns fd as kn ks H (λoC H1=>mM (ns.take oC.length)=true∧((sv ir (K9 ns k G tb lm)).k ⟨TO ns oC G,H1⟩).post (λfl bW=>Q (kD fl) bW.H) eE)):Bx (fS D (n+1) HN fa as kn ks H Q):=by
 refine⟨fS.fn F ?_⟩
 refine Bind.mono hb ?_
 exactλoC H1 q=>⟨_,NQ W.1 q.1,λC' I hh=>((pF ir C' _ (W.cok L I hk hh)).2 q.2).1⟩
end
noncomputable def gC(K:z7)(a:cI):cN:=match K.lookup a with
 | some o=>(match o.data with | .func fd=>fd | _=>default)
 | none=>default
def fC(K:z7)(fd:cN)(ns:fF)(a k:Nat)(kn:List Str)(ds:List aA):Prop:=
 ∀vs ws:List aJ,vs.length=a->ws.length=k->∃dv,(∀ρ h,Vs ρ h ds dv)∧∀{M:rL} {A:cF} {s:aM} {Q:List (Str×aJ)->aM->Prop} {E:aJ->aM->Prop},K.In s.heap->Q (((ns.take (a+ds.length+k)).map (·.1)).zip (vs++dv++ws)) s->bZ M A (nY fd ⟨vs,kn.zip ws⟩) Q E s
section
variable {D:WD} {n:Nat} {ns:fF} {fd:cN} {as ks:List aA} {kn:List Str} {H:List Pc} {Q:List aA->List Pc->Prop}
theorem Bind.w{ds:List aA}{a k:Nat}(B:fC D.K fd ns a k kn ds)(ha:as.length=a)(hk:ks.length=k)(hn:eB (a+ds.length+k) ns.length=true)(hki:mM (ns.take (a+ds.length+k))=true)(q:Q (as++ds++ks) H):Bind D n ns fd as kn ks H Q:=λ{A g ρ s vs ws} w hv hw=>by
 refine bS (B vs ws (hv.length.trans ha) (hw.length.trans hk)) λdv hf b=>?_
 have V3:Vs ρ s.heap (as++ds++ks) (vs++dv++ws):=.append' (.append' hv (hf _ _)) hw
 have hl:(as++ds++ks).length=a+ds.length+k:=by rw[aE,aE,ha,hk]
 have hlen:((ns.take (a+ds.length+k)).map (·.1)).length=(vs++dv++ws).length:=by
  rw[aG,hY,V3.length,hl,j3 (aH hn)]
 refine b (w.4.1.keeps w.5.1) (.mk .refl ⟨?_, ?_, ?_⟩ w.5 q)
 ·rw[hl];exact CC (cC hlen)
 ·rw[CD (cC hlen.symm)];exact V3
 ·exact hl▸FY hki
end
theorem fS.cut{D:WD}{n:Nat}{fa:cI}{as ks:List aA}{kn:List Str}{H:List Pc}{Q:aA->List Pc->Prop}(k:Nat)(c:Bx (fS D n HN fa as kn ks H (λr H1=>(lK k k H1 && r.all (λl=>dT l k))=true∧Q r (H1.take k))))(hk:H.length≤k):Bx (fS D n HN fa as kn ks H Q):=⟨λw hh hv hw=>
 iV (c.1 w hh hv hw) λr s'=>CR.mono λv s' p=>by
  obtain @⟨b,H',ρ',le,r,o,q⟩:=p
  exact .mk (le.take (w.5.4▸hk)) (b.mid▸r.map (⟨λl x q e=>(b8 (aH q)).trans e,λY Y x=>x⟩:J3 (λl=>dT l k) (λl=>l) ρ' s'.heap (ρ'.take k) s'.heap) (aQ q.1)) (o.cut (aP q.1)) q.2⟩
def RC(fd:cN)(ns:fF)(a:Nat):Prop:=
 ∀vs:List aJ,vs.length=a->∀{M:rL} {A:cF} {s:aM} {Q:List (Str×aJ)->aM->Prop} {E:aJ->aM->Prop},Q (((ns.take (a+1)).map (·.1)).zip (vs++ [.ref s.heap.objs.size])) { s with heap:=s.heap.push { cls:=.type "dict",data:=.dict #[] } }->bZ M A (nY fd ⟨vs,[]⟩) Q E s
theorem Bind.d{D:WD}{n:Nat}{ns:fF}{fd:cN}{as:List aA}{H:List Pc}{Q:List aA->List Pc->Prop}{a:Nat}(B:RC fd ns a)(ha:as.length=a)(hn:eB (a+1) ns.length=true)(hki:mM (ns.take (a+1))=true)(q:Q (as++ [.aO H.length]) (H++ [.wH []])):Bind D n ns fd as [] [] H Q:=λ{A g ρ s vs ws} w hv hw=>by
 have hlen:((ns.take (a+1)).map (·.1)).length=(vs++ [pT s.heap.objs.size]).length:=by
  rw[aG,hY,aE,hv.length,ha,j3 (aH hn)];rfl
 have hl:(as++ [aA.aO H.length]).length=a+1:=by rw[aE,ha];rfl
 have K:Ke s.heap (s.heap.push { cls:=.type "dict",data:=.dict #[] }):=Ke.push _
 have aAV:(s.heap.objs.size==GY)=false:=by
  refine bS w.4.5 λmc sJ _=>HM sJ λo es ep ho _=>?_
  have h2:2 < s.heap.objs.size:=c6 (w.5.1 _ _ ho)
  exact beq_eq_false_iff_ne.mpr λq=>absurd ((q:_=1)▸h2) (by decide)
 obtain⟨o,es,ep,ho,h1,h2,h3,h4,h5⟩:=Heap.DictOf.new (knd:=nP D.prog D.w) s.heap
 have pk:(Pc.wH []).ok D (ρ++ [s.heap.objs.size]) (s.heap.push { cls:=.type "dict",data:=.dict #[] }) s.heap.objs.size:=.mk ho (.dict h2) ⟨[],.nil,rfl,es,ep,h1,h2,h3,h4,h5⟩ aAV
 refine B vs (hv.length.trans ha) (.mk (Le.new K) ⟨?_, ?_, ?_⟩ (w.5.new (tk:=s.toks) K fE (λY q=>nomatch q) pk) q)
 ·rw[hl];exact CC (cC hlen)
 ·rw[CD (cC hlen.symm)];exact .append' (hv.mono (Le.new K)) (.cons ⟨_,iH w.5.4,rfl⟩ .nil)
 ·exact hl▸FY hki
inductive r8(D:WD)(a:cI)(ns:fF)(ir:S):Prop where
 | mk (fn:Fn D a (gC D.K a) ns (dst (ns.map (·.1)) ir).b)
noncomputable def ndB(ns:fF)(db:Nat):Bool:=(cE ns.length).all λi=>eK i db || (ns[i]?).all λp=>jL p.1
theorem aC7{ns:fF}{db:Nat}(h:ndB ns db=true)(i:Nat)(y:Str)(k:dB)(hi:eK i db=false)(e:ns[i]? =some (y,k)):jL y=true:=by
 have:=bN.mp h i (gP.mpr (aF.mp e).1)
 rw[hi,e] at this
 exact this
inductive AT(D:WD)(G:KB)(t:Tb):Prop where
 | mk (gl:∀y b,G.lookup y=some b->GR D y b) (tb:VO D t) (ra:NM D t)
section
variable {D:WD} {n k:Nat} {ns:fF} {G:KB} {tb:Tb} {fa:cI} {as ks:List aA} {kn:List Str} {H:List Pc} {ir:S} {lm:Option LmT}
theorem AT.w(E:AT D G tb)(h:ndB ns (K9 ns k G tb lm).db=true):WOk D (K9 ns k G tb lm):=⟨E.1,aC7 h,E.2,E.3⟩
theorem r8.RD{ds:List aA}{Q:aA->List Pc->Prop}(F:r8 D fa ns ir)(E:AT D G tb)(L:wS D (gC D.K fa) lm)(h:ndB ns (K9 ns k G tb lm).db=true)(hk:k≤n)(B:fC D.K (gC D.K fa) ns as.length ks.length kn ds)(hc:(eB (as.length+ds.length+ks.length) ns.length && mM (ns.take (as.length+ds.length+ks.length)))=true)
  {o:Oc aK bU} (g:((sv ir (K9 ns k G tb lm)).k ⟨TO ns (as++ds++ks) G,H⟩).good o) (q:o.post (λfl bW=>Q (kD fl) bW.H) eE):Bx (fS D (n+1) HN fa as kn ks H Q):=
 aHS F.1 (E.w h) L hk (Bind.w B rfl rfl (aP hc) (aQ hc) ⟨by rw[aE,aE];exact aQ hc,g.post q⟩)
theorem r8.run{ds:List aA}{Q:aA->List Pc->Prop}(F:r8 D fa ns ir)(E:AT D G tb)(h:ndB ns (D6 ns k G tb).db=true)(hk:k≤n)(B:fC D.K (gC D.K fa) ns as.length ks.length kn ds)(hc:(eB (as.length+ds.length+ks.length) ns.length && mM (ns.take (as.length+ds.length+ks.length)))=true)
  {o:Oc aK bU} (g:((sv ir (D6 ns k G tb)).k ⟨TO ns (as++ds++ks) G,H⟩).good o) (q:o.post (λfl bW=>Q (kD fl) bW.H) eE):Bx (fS D (n+1) HN fa as kn ks H Q):=F.RD E .no h hk B hc g q
theorem r8.runC{ds:List aA}{Q:aA->List Pc->Prop}(j:Nat)(F:r8 D fa ns ir)(E:AT D G tb)(L:wS D (gC D.K fa) lm)(h:ndB ns (K9 ns k G tb lm).db=true)(hk:k≤n)(B:fC D.K (gC D.K fa) ns as.length ks.length kn ds)(hc:(eB (as.length+ds.length+ks.length) ns.length && mM (ns.take (as.length+ds.length+ks.length)) && eB H.length j)=true)
  {o:Oc aK bU} (g:((sv ir (K9 ns k G tb lm)).k ⟨TO ns (as++ds++ks) G,H⟩).good o) (q:o.post (λfl bW=>(lK j j bW.H && (kD fl).all (λl=>dT l j))=true∧Q (kD fl) (bW.H.take j)) eE):Bx (fS D (n+1) HN fa as kn ks H Q):=
 fS.cut j (F.RD E L h hk B (aP hc) g q) (aH (aQ hc))
end
noncomputable def F0:fF:=[("a",.local),("x",.local),("lo",.local),("hi",.local),("key",.local),("mid",.local),("ValueError",.globalImplicit),("len",.globalImplicit)]
noncomputable def I8:S:=(.cons (.ite (.cmp .Lt (.v 2 146169) (.k (.int 0) 146893) 146173) (.cons (.rse 6 167928 (.k (.str [108,111,32,109,117,115,116,32,98,101,32,110,111,110,45,110,101,103,97,116,105,118,101]) 169538) 167955 167091) .nil) .nil 6573939) (.cons (.ite (.cmp .Is (.v 3 187641) (.k .none 188513) 187649) (.cons (.asg 3 208522 (.call (.v 7 209248) (.cons (.v 0 209826) .nil) [] .nil 209251) 208531) .nil) .nil 6615379) (.cons (.ite (.cmp .Is (.v 4 229114) (.k .none 230130) 229122) (.cons (.TJ (.cmp .Lt (.v 2 250864) (.v 3 251589) 250869) (.cons (.asg 5 271311 (.bin .FloorDiv (.bin .Add (.v 2 272325) (.v 3 273050) 272330) (.k (.int 2) 274064) 272192) 271328) (.cons (.ite (.cmp .Lt (.item (.v 0 292480) (.v 5 292772) 292485) (.v 1 293785) 292489) (.cons (.asg 2 313362 (.bin .Add (.v 5 314088) (.k (.int 1) 314956) 314092) 313372) .nil) (.cons (.asg 3 354834 (.v 5 355560) 354840) .nil) 19576536) .nil)) 32390808) .nil) (.cons (.TJ (.cmp .Lt (.v 2 396016) (.v 3 396741) 396021) (.cons (.asg 5 416463 (.bin .FloorDiv (.bin .Add (.v 2 417477) (.v 3 418202) 417482) (.k (.int 2) 419216) 417344) 416480) (.cons (.ite (.cmp .Lt (.call (.v 4 437634) (.cons (.item (.v 0 438212) (.v 5 438504) 438217) .nil) [] .nil 437642) (.v 1 439662) 437646) (.cons (.asg 2 458514 (.bin .Add (.v 5 459240) (.k (.int 1) 460108) 459244) 458524) .nil) (.cons (.asg 3 499986 (.v 5 500712) 499992) .nil) 19721688) .nil)) 32535960) .nil) 83794776) (.cons (.ret (.v 2 519997) 518989) .nil))))
noncomputable def aC8:fF:=[("want",.local),("got",.local),("ws",.local),("startpos",.local),("endpos",.local),("w",.local),("ELLIPSIS_MARKER",.globalImplicit),("len",.globalImplicit)]
noncomputable def oW:S:=(.cons (.ite (.cmp .NotIn (.v 6 602374) (.v 0 605698) 602386) (.cons (.ret (.cmp .Eq (.v 0 624259) (.v 1 625418) 624266) 623258) .nil) .nil 7030106) (.cons (.asg 2 643398 (.dS (.v 0 644125) 5 644131 (.cons (.v 6 645731) .nil) [] .nil 644148) 643428) (.cons (.ast (.cmp .GtE (.call (.v 7 665150) (.cons (.v 2 665729) .nil) [] .nil 665154) (.k (.int 2) 666743) 665159) 664151) (.cons (.rG (.tup (.cons (.v 3 684876) (.cons (.v 4 686324) .nil)) 684884) (.tup (.cons (.k (.int 0) 687769) (.cons (.call (.v 7 688206) (.cons (.v 1 688786) .nil) [] .nil 688211) .nil)) 687636) 684900) (.cons (.asg 5 705605 (.item (.v 2 706186) (.k (.int 0) 706620) 706189) 705613) (.cons (.ite (.v 5 726776) (.cons (.ite (.dS (.v 1 748094) 6 748105 (.cons (.v 5 750267) .nil) [] .nil 748108) (.cons (.asg 3 768980 (.call (.v 7 770570) (.cons (.v 5 771148) .nil) [] .nil 770573) 768989) (.cons (.del (.v 2 790290) (.k (.int 0) 790724) 790293 789717) .nil)) (.cons (.ret (.k (.bool false) 832200) 831192) .nil) 26460312) .nil) .nil 32867160) (.cons (.asg 5 850757 (.item (.v 2 851338) (.un .USub (.k (.int 1) 851917) 851773) 851342) 850766) (.cons (.ite (.v 5 871928) (.cons (.ite (.dS (.v 1 893246) 7 893255 (.cons (.v 5 895129) .nil) [] .nil 893258) (.cons (.aug 4 914130 .Sub (.call (.v 7 915577) (.cons (.v 5 916155) .nil) [] .nil 915580) 914140) (.cons (.del (.v 2 935442) (.un .USub (.k (.int 1) 936021) 935877) 935446 934870) .nil)) (.cons (.ret (.k (.bool false) 977352) 976344) .nil) 26605464) .nil) .nil 33012312) (.cons (.ite (.cmp .Gt (.v 3 996351) (.v 4 997944) 996360) (.cons (.ret (.k (.bool false) 1018244) 1017236) .nil) .nil 7424084) (.cons (.kA 0 (.v 5 1037961) (.v 2 1038687) (.cons (.asg 3 1058704 (.dS (.v 1 1060294) 8 1060299 (.cons (.v 5 1061597) (.cons (.v 3 1062039) (.cons (.v 4 1063487) .nil))) [] .nil 1060320) 1058736) (.cons (.ite (.cmp .Lt (.v 3 1079875) (.k (.int 0) 1081463) 1079879) (.cons (.ret (.k (.bool false) 1101768) 1100760) .nil) .nil 7507608) (.cons (.aug 3 1120912 .Add (.call (.v 7 1122647) (.cons (.v 5 1123225) .nil) [] .nil 1122650) 1120922) .nil))) 26750042) (.cons (.ret (.k (.bool true) 1142079) 1141071) .nil)))))))))))
noncomputable def aC9:fF:=[("msg",.local),("start",.local),("end",.local),("i",.local),("len",.globalImplicit)]
noncomputable def RE:S:=(.cons (.rG (.tup (.cons (.v 1 1182537) (.cons (.v 2 1183550) .nil)) 1182542) (.tup (.cons (.k (.int 0) 1184563) (.cons (.call (.v 4 1185000) (.cons (.v 0 1185580) .nil) [] .nil 1185005) .nil)) 1184430) 1182558) (.cons (.asg 3 1203269 (.dS (.v 0 1203851) 8 1203856 (.cons (.k (.str [10]) 1205157) .nil) [] .nil 1203862) 1203286) (.cons (.ite (.cmp .GtE (.v 3 1224440) (.k (.int 0) 1225165) 1224445) (.cons (.asg 2 1245323 (.v 3 1246191) 1245327) .nil) .nil 7652175) (.cons (.asg 3 1265477 (.dS (.v 0 1266059) 8 1266064 (.cons (.k (.str [58]) 1267364) (.cons (.k (.int 0) 1268087) (.cons (.v 2 1268524) .nil))) [] .nil 1266077) 1265501) (.cons (.ite (.cmp .GtE (.v 3 1286648) (.k (.int 0) 1287373) 1286653) (.cons (.asg 2 1307531 (.v 3 1308399) 1307535) .nil) .nil 7714383) (.cons (.asg 3 1327685 (.dS (.v 0 1328267) 9 1328273 (.cons (.k (.str [46]) 1329717) (.cons (.k (.int 0) 1330440) (.cons (.v 2 1330877) .nil))) [] .nil 1328286) 1327710) (.cons (.ite (.cmp .GtE (.v 3 1348856) (.k (.int 0) 1349581) 1348861) (.cons (.asg 1 1369741 (.bin .Add (.v 3 1370897) (.k (.int 1) 1371477) 1370901) 1369749) .nil) .nil 7776597) (.cons (.ret (.iX (.v 0 1390910) (.cons (.v 1 1391492) .nil) (.cons (.v 2 1392360) .nil) .nil 1391496 1390921) 1389913) .nil))))))))
noncomputable def aDA:fF:=[("self",.local),("fp",.local)]
noncomputable def aHT:S:=(.cons (.AS (.v 0 1494156) 26 1494163 (.k (.int 1) 1496183) 1494167) (.cons (.AS (.v 0 1514892) 27 1514901 (.v 1 1517210) 1514906) (.cons (.AS (.v 0 1535628) 28 1535639 (.k (.str [10,9,13,32]) 1538243) 1535651) (.cons (.AS (.v 0 1556364) 29 1556373 (.lst .nil 1558682) 1556378) .nil))))
noncomputable def aDB:fF:=[("self",.local),("ch",.local)]
noncomputable def aHU:S:=(.cons (.asg 1 1618570 (.dS (.attr (.v 0 1619297) 27 1619306) 24 1619311 (.cons (.k (.int 1) 1622049) .nil) [] .nil 1619314) 1618594) (.cons (.ite (.cmp .Eq (.v 1 1639741) (.k (.str [10]) 1640613) 1639749) (.cons (.MN (.v 0 1660624) 26 1660631 .Add (.k (.int 1) 1662796) 1660636) .nil) .nil 8067484) (.cons (.ret (.v 1 1681793) 1680785) .nil)))
noncomputable def aDC:fF:=[("self",.local),("token",.local),("fiter",.local),("ch",.local),("iter",.globalImplicit)]
noncomputable def RF:S:=(.cons (.ite (.attr (.v 0 1743423) 29 1743432) (.cons (.ret (.dS (.attr (.v 0 1765319) 29 1765328) 1 1765332 (.cons (.k (.int 0) 1767926) .nil) [] .nil 1765335) 1764327) .nil) .nil 8171175) (.cons (.asg 1 1784461 (.k (.str []) 1785618) 1784466) (.cons (.asg 2 1805197 (.call (.v 4 1806356) (.cons (.attr (.v 0 1807081) 22 1807092) (.cons (.k (.str []) 1809544) .nil)) [] .nil 1806377) 1805225) (.cons (.kA 1 (.v 3 1826510) (.v 2 1827383) (.cons (.ite (.cmp .In (.v 3 1847681) (.attr (.v 0 1848553) 28 1848564) 1847700) (.cons (.cnt 1868568) .nil) .nil 8275416) (.cons (.ite (.cmp .Eq (.v 3 1889153) (.k (.str [34]) 1890024) 1889160) (.cons (.kA 1 (.v 3 1910614) (.v 2 1911487) (.cons (.ite (.cmp .Eq (.v 3 1931785) (.k (.str [34]) 1932656) 1931792) (.cons (.ret (.v 1 1953684) 1952676) .nil) (.cons (.ite (.cmp .Eq (.v 3 1973547) (.k (.str [92]) 1974419) 1973555) (.cons (.asg 3 1994138 (.dS (.v 0 1994865) 22 1994876 .nil [] .nil 1994878) 1994158) .nil) .nil 8401006) .nil) 21215854) (.cons (.aug 1 2014297 .Add (.v 3 2015599) 2014303) .nil)) 34050847) .nil) (.cons (.ite (.cmp .Eq (.v 3 2055621) (.k (.str [92]) 2056493) 2055629) (.cons (.asg 3 2076502 (.dS (.v 0 2077229) 22 2077240 .nil [] .nil 2077242) 2076522) .nil) .nil 8483370) (.cons (.aug 1 2096661 .Add (.v 3 2097963) 2096667) (.cons (.kA 1 (.v 3 2117974) (.v 2 2118847) (.cons (.ite (.cmp .In (.v 3 2139145) (.attr (.v 0 2140017) 28 2140028) 2139164) (.cons (.ret (.v 1 2161044) 2160036) .nil) (.cons (.ite (.cmp .Eq (.v 3 2180907) (.k (.str [92]) 2181779) 2180915) (.cons (.asg 3 2201498 (.dS (.v 0 2202225) 22 2202236 .nil [] .nil 2202238) 2201518) .nil) .nil 8608366) .nil) 21423214) (.cons (.aug 1 2221657 .Add (.v 3 2222959) 2221663) .nil)) 34258207) .nil))) 104739295) .nil)) 123960991) (.cons (.ret (.v 1 2241668) 2240660) .nil)))))
noncomputable def aDD:fF:=[("self",.local),("token",.local)]
noncomputable def aHV:S:=(.cons (.ex (.dS (.attr (.v 0 2302860) 29 2302869) 0 2302876 (.cons (.v 1 2305906) .nil) [] .nil 2302883) 2302883) .nil)
noncomputable def F2:fF:=[("self",.local),("headers",.local),("k",.local),("v",.local),("type",.globalImplicit),("list",.globalImplicit),("TypeError",.globalImplicit),("__debug__",.globalImplicit)]
noncomputable def ZQ:S:=(.cons (.asg 1 2655375 (.YZ (.cmp .IsNot (.v 1 2658420) (.k .none 2660592) 2658432) (.v 1 2656825) (.lst .nil 2662040) 2656856) 2655416) (.cons (.ite (.cmp .IsNot (.call (.v 4 2676543) (.cons (.v 1 2677271) .nil) [] .nil 2676552) (.v 5 2679588) 2676564) (.cons (.rse 6 2698299 (.k (.str [72,101,97,100,101,114,115,32,109,117,115,116,32,98,101,32,97,32,108,105,115,116,32,111,102,32,110,97,109,101,47,118,97,108,117,101,32,116,117,112,108,101,115]) 2699785) 2698346 2697482) .nil) .nil 9104330) (.cons (.AS (.v 0 2717580) 30 2717589 (.v 1 2719903) 2717599) (.cons (.ite (.k (.bool true) 2738756) (.cons (.kA 0 (.tup (.cons (.v 2 2760209) (.cons (.v 3 2760644) .nil)) 2760212) (.v 1 2761375) (.cons (.ex (.dS (.v 0 2780948) 23 2780969 (.cons (.v 2 2784715) .nil) [(31,2785158)] (.cons (.k (.bool true) 2785878) .nil) 2780983) 2780983) (.cons (.ex (.dS (.v 0 2801684) 23 2801705 (.cons (.v 3 2805451) .nil) [(31,2805895)] (.cons (.k (.bool false) 2806615) .nil) 2801720) 2801720) .nil)) 15615992) .nil) .nil 22022840) .nil))))
noncomputable def RG:fF:=[("self",.local),("value",.local),("name",.local),("regex",.local),("type",.globalImplicit),("str",.globalImplicit),("_name_disallowed_re",.globalImplicit),("_value_disallowed_re",.globalImplicit),("ValueError",.globalImplicit),("AssertionError",.globalImplicit),("repr",.globalImplicit)]
noncomputable def RH:S:=(.cons (.ite (.cmp .Is (.call (.v 4 2863167) (.cons (.v 1 2863893) .nil) [] .nil 2863174) (.v 5 2865341) 2863181) (.cons (.asg 3 2884049 (.YZ (.v 2 2888543) (.v 6 2885223) (.v 7 2890009) 2885257) 2884105) (.cons (.ite (.dS (.v 3 2905220) 25 2905227 (.cons (.v 1 2907105) .nil) [] .nil 2905234) (.cons (.rse 8 2926976 (.k (.str [67,111,110,116,114,111,108,32,99,104,97,114,97,99,116,101,114,115,32,110,111,116,32,97,108,108,111,119,101,100,32,105,110,32,104,101,97,100,101,114,115]) 2928604) 2927021 2926157) .nil) .nil 9333005) (.cons (.ret (.v 1 2947272) 2946264) .nil))) .nil 28575384) (.cons (.rse 9 2967292 (.dS (.k (.str [72,101,97,100,101,114,32,110,97,109,101,115,47,118,97,108,117,101,115,32,109,117,115,116,32,98,101,32,111,102,32,116,121,112,101,32,115,116,114,32,40,103,111,116,32,123,48,125,41]) 2969504) 13 2969511 (.cons (.call (.v 10 2978012) (.cons (.v 1 2978738) .nil) [] .nil 2978019) .nil) [] .nil 2969524) 2967365 2966501) .nil))
noncomputable def RI:fF:=[("self",.local),("name",.cell)]
noncomputable def LB:S:=(.cons (.asg 1 3381132 (.dS (.v 0 3382147) 23 3382168 (.cons (.dS (.v 1 3385917) 11 3385923 .nil [] .nil 3385925) .nil) [(31,3387952)] (.cons (.k (.bool true) 3388672) .nil) 3382193) 3381185) (.cons (.ret (.lc (.item (.v 1 3403026) (.k (.int 1) 3403460) 3403029) (.v 1 3404476) (.attr (.v 0 3405348) 30 3405357) (.cons (.cmp .Eq (.dS (.item (.v 1 3407811) (.k (.int 0) 3408245) 3407814) 11 3407820 .nil [] .nil 3407822) (.v 2 3410278) 3407830) .nil) { kind:=.function,names:=[(".0",.local),("kv",.local),("name",.free)],isGenerator:=false,isCoroutine:=false } 3402935) 3401927) .nil))
noncomputable def RJ:fF:=[("self",.local),("_name",.local),("_value",.local),("_params",.local),("parts",.local),("k",.local),("v",.local),("_formatparam",.globalImplicit)]
noncomputable def ZR:S:=(.cons (.asg 4 4044685 (.lst .nil 4045842) 4044690) (.cons (.ite (.cmp .IsNot (.v 2 4065857) (.k .none 4067885) 4065869) (.cons (.asg 2 4086738 (.dS (.v 0 4088041) 23 4088062 (.cons (.v 2 4091813) .nil) [(31,4092977)] (.cons (.k (.bool false) 4093697) .nil) 4088082) 4086786) (.cons (.ex (.dS (.v 4 4107473) 0 4107480 (.cons (.v 2 4109359) .nil) [] .nil 4107488) 4107488) .nil)) .nil 16921760) (.cons (.kA 2 (.tup (.cons (.v 5 4128205) (.cons (.v 6 4128640) .nil)) 4128208) (.dS (.v 3 4129371) 14 4129377 .nil [] .nil 4129379) (.cons (.asg 5 4148941 (.dS (.v 0 4149524) 23 4149545 (.cons (.v 5 4153291) .nil) [(31,4153734)] (.cons (.k (.bool true) 4154454) .nil) 4149559) 4148983) (.cons (.ite (.cmp .Is (.v 6 4170112) (.k .none 4170840) 4170120) (.cons (.ex (.dS (.v 4 4190997) 0 4191004 (.cons (.dS (.v 5 4192878) 33 4192886 (.cons (.k (.str [95]) 4194330) (.cons (.k (.str [45]) 4195055) .nil)) [] .nil 4192896) .nil) [] .nil 4191025) 4191025) .nil) (.cons (.asg 6 4232465 (.dS (.v 0 4233048) 23 4233069 (.cons (.v 6 4236815) .nil) [(31,4237259)] (.cons (.k (.bool false) 4237979) .nil) 4233084) 4232508) (.cons (.ex (.dS (.v 4 4253205) 0 4253212 (.cons (.call (.v 7 4255097) (.cons (.dS (.v 5 4256971) 33 4256979 (.cons (.k (.str [95]) 4258423) (.cons (.k (.str [45]) 4259148) .nil)) [] .nil 4256989) (.cons (.v 6 4260016) .nil)) [] .nil 4255121) .nil) [] .nil 4253250) 4253250) .nil)) 29882370) .nil)) 42696642) (.cons (.ex (.dS (.attr (.v 0 4272780) 30 4272789) 0 4272796 (.cons (.tup (.cons (.dS (.v 0 4275970) 23 4275991 (.cons (.v 1 4279741) .nil) [(31,4280760)] (.cons (.k (.bool true) 4281480) .nil) 4276009) (.cons (.dS (.k (.str [59,32]) 4282495) 4 4282500 (.cons (.v 4 4283946) .nil) [] .nil 4282507) .nil)) 4275884) .nil) [] .nil 4272861) 4272861) .nil))))
noncomputable def RK:fF:=[("number",.local),("sizes",.local),("left",.local),("order",.local),("rest",.local),("letter",.local),("list",.globalImplicit)]
noncomputable def LC:S:=(.cons (.rG (.tup (.cons (.v 2 4334408) (.cons (.v 3 4335279) .nil)) 4334415) (.tup (.cons (.call (.v 6 4336583) (.cons (.k (.str [97,98,99,100]) 4337310) .nil) [] .nil 4336591) (.cons (.k (.str []) 4338611) .nil)) 4336452) 4334436) (.cons (.kA 0 (.v 4 4355724) (.tup (.cons (.k (.int 4) 4357026) (.cons (.k (.int 3) 4357461) (.cons (.k (.int 2) 4357896) (.cons (.k (.int 1) 4358331) .nil)))) 4356892) (.cons (.asg 5 4376462 (.dS (.v 2 4377765) 1 4377769 (.cons (.bin .Mod (.v 0 4379072) (.v 4 4380375) 4379079) .nil) [] .nil 4377784) 4376488) (.cons (.aug 3 4397197 .Add (.YZ (.bin .Mod (.v 1 4401112) (.k (.int 2) 4402268) 4401116) (.dS (.v 5 4398503) 10 4398509 .nil [] .nil 4398511) (.v 5 4403288) 4398536) 4397240) (.cons (.rG (.tup (.cons (.v 0 4417934) (.cons (.v 1 4419093) .nil)) 4417941) (.tup (.cons (.bin .FloorDiv (.v 0 4420399) (.v 4 4421847) 4420407) (.cons (.bin .FloorDiv (.v 1 4422718) (.k (.int 2) 4424019) 4422723) .nil)) 4420276) 4417972) .nil))) 23639668) (.cons (.ret (.v 3 4439104) 4438096) .nil)))
noncomputable def RL:fF:=[("orders",.local),("number",.local),("words",.local),("page",.local),("order",.local),("dress",.local),("style",.cell),("word",.local),("written",.local)]
noncomputable def RN:S:=(.cons (.rG (.tup (.cons (.v 2 4479561) (.cons (.v 3 4480575) .nil)) 4479567) (.tup (.cons (.lst .nil 4481733) (.cons (.k (.str []) 4482313) .nil)) 4481594) 4479578) (.cons (.kA 0 (.v 4 4500877) (.v 0 4502183) (.cons (.rG (.tup (.cons (.v 5 4521613) (.cons (.v 6 4522628) (.cons (.v 1 4523644) .nil))) 4521628) (.tup (.cons (.bin .Mod (.v 1 4525094) (.k (.int 4) 4526394) 4525098) (.cons (.bin .Mod (.bin .FloorDiv (.v 1 4526834) (.k (.int 4) 4528279) 4526839) (.k (.int 12) 4528860) 4526844) (.cons (.bin .FloorDiv (.v 1 4529444) (.k (.int 48) 4530890) 4529450) .nil))) 4524987) 4521675) (.cons (.asg 7 4542348 (.bin .Add (.bin .Add (.item (.tup (.cons (.k (.str []) 4543506) (.cons (.k (.str [98,46,99,46]) 4544090) (.cons (.k (.str []) 4545246) (.cons (.k (.str [99,46]) 4545828) .nil)))) 4543381) (.v 5 4546699) 4543388) (.v 4 4548004) 4543396) (.item (.tup (.cons (.k (.str []) 4549306) (.cons (.k (.str []) 4549886) (.cons (.k (.str [58,46,32]) 4550469) (.cons (.k (.str [10,46]) 4551484) .nil)))) 4549181) (.v 5 4552499) 4549188) 4543428) 4542420) (.cons (.asg 8 4563087 (.dS (.k (.str []) 4564532) 4 4564537 (.cons (.lc (.YZ (.bo .Or (.cons (.cmp .Eq (.bin .Mod (.v 2 4568015) (.k (.int 3) 4569171) 4568019) (.k (.int 1) 4569896) 4568024) (.cons (.cmp .In (.v 1 4570624) (.k (.str [32,10]) 4571785) 4570633) .nil)) 4568041) (.bin .Add (.k (.str [92]) 4565839) (.v 1 4566854) 4565846) (.v 1 4573379) 4565891) (.v 1 4574684) (.v 7 4575844) .nil { kind:=.function,names:=[(".0",.local),("sign",.local),("style",.free)],isGenerator:=false,isCoroutine:=false } 4565765) .nil) [] .nil 4564614) 4563174) (.cons (.aug 3 4583820 .Add (.bin .Add (.YZ (.bin .Mod (.v 6 4586721) (.k (.int 3) 4587877) 4586725) (.v 8 4585128) (.bin .Add (.bin .Add (.k (.str [34]) 4588894) (.v 7 4589765) 4588901) (.k (.str [34]) 4590779) 4588907) 4585163) (.item (.k (.str [10,32,9,13]) 4591800) (.bin .FloorDiv (.v 6 4593246) (.k (.int 3) 4594547) 4593251) 4591812) 4585044) 4583892) (.cons (.ex (.dS (.v 2 4604557) 0 4604564 (.cons (.v 7 4606441) .nil) [] .nil 4604570) 4604570) .nil))))) 36641114) (.cons (.ret (.tup (.cons (.v 2 4625873) (.cons (.v 3 4626887) .nil)) 4625736) 4624728) .nil)))
noncomputable def RO:fF:=[("page",.local),("stream",.local),("signs",.cell),("list",.globalImplicit),("_netrclex",.globalImplicit)]
noncomputable def pG:S:=(.cons (.asg 2 4666185 (.call (.v 3 4667344) (.cons (.v 0 4668069) .nil) [] .nil 4667350) 4666198) (.cons (.asg 1 4686922 (.lam [] (.k .none 4689385) { kind:=.function,names:=[],isGenerator:=false,isCoroutine:=false } 4688233) 4686937) (.cons (.AS (.v 1 4707658) 24 4707663 (.lam [("size",4710701)] (.YZ (.v 1 4713892) (.dS (.v 1 4711572) 1 4711576 (.cons (.k (.int 0) 4713018) .nil) [] .nil 4711579) (.k (.str []) 4715484) 4711596) { kind:=.function,names:=[("size",.local),("signs",.free)],isGenerator:=false,isCoroutine:=false } 4709724) 4707708) (.cons (.ret (.call (.v 4 4729412) (.cons (.v 1 4730859) .nil) [] .nil 4729420) 4728412) .nil))))
noncomputable def RP:fF:=[("order",.cell),("falls",.local),("pair",.cell),("between",.local),("ahead",.cell),("row",.local),("_ellipsis_match",.globalImplicit),("list",.globalImplicit)]
noncomputable def F6:S:=(.cons (.asg 1 4769865 (.lst .nil 4771022) 4769870) (.cons (.kA 0 (.v 2 4791180) (.tup (.cons (.k (.str [98,97]) 4792485) (.cons (.k (.str [99,97]) 4793355) (.cons (.k (.str [99,98]) 4794225) (.cons (.k (.str [100,97]) 4795095) (.cons (.k (.str [100,98]) 4795965) (.cons (.k (.str [100,99]) 4796835) .nil)))))) 4792372) (.cons (.ite (.call (.v 6 4812362) (.cons (.bin .Add (.bin .Add (.k (.str [46,46,46]) 4814672) (.v 2 4815831) 4814679) (.k (.str [46,46,46]) 4816847) 4814687) (.cons (.v 0 4817862) .nil)) [] .nil 4812391) (.cons (.asg 3 4833235 (.lc (.v 1 4834827) (.v 1 4836132) (.k (.str [97,98,99,100]) 4837294) (.cons (.P9 .Lt .Lt (.item (.v 2 4838742) (.k (.int 1) 4839464) 4838745) (.v 1 4840192) (.item (.v 2 4841207) (.k (.int 0) 4841929) 4841210) 4838762) .nil) { kind:=.function,names:=[(".0",.local),("name",.local),("pair",.free)],isGenerator:=false,isCoroutine:=false } 4834731) 4833291) (.cons (.asg 4 4853969 (.lc (.v 1 4855273) (.v 1 4856578) (.v 3 4857741) (.cons (.call (.v 2 4859344) (.cons (.bin .Add (.bin .Add (.bin .Add (.bin .Add (.k (.str [46,46,46]) 4861654) (.v 1 4862813) 4861661) (.k (.str [46,46,46]) 4863829) 4861669) (.v 4 4864988) 4861676) (.k (.str [46,46,46]) 4866004) 4861684) (.cons (.v 3 4867019) .nil)) [] .nil 4859388) .nil) { kind:=.function,names:=[(".0",.local),("name",.local),("_ellipsis_match",.globalImplicit),("order",.free),("pair",.free)],isGenerator:=false,isCoroutine:=false } 4855213) 4854061) (.cons (.asg 5 4874703 (.bin .Add (.bin .Add (.bin .Add (.lc (.v 1 4875719) (.v 1 4877024) (.k (.str [97,98,99,100]) 4878186) (.cons (.cmp .Lt (.v 1 4879634) (.item (.v 2 4880649) (.k (.int 1) 4881371) 4880652) 4879644) .nil) { kind:=.function,names:=[(".0",.local),("name",.local),("pair",.free)],isGenerator:=false,isCoroutine:=false } 4875613) (.v 4 4882245) 4875621) (.call (.v 7 4883404) (.cons (.v 2 4884129) .nil) [] .nil 4883410) 4875634) (.lc (.v 1 4885434) (.v 1 4886739) (.v 3 4887902) (.cons (.cmp .NotIn (.v 1 4889494) (.v 2 4891235) 4889507) .nil) { kind:=.function,names:=[(".0",.local),("name",.local),("ahead",.free)],isGenerator:=false,isCoroutine:=false } 4885332) 4875684) 4874820) (.cons (.ex (.dS (.v 1 4895441) 0 4895448 (.cons (.tup (.cons (.v 2 4897470) (.cons (.dS (.k (.str []) 4898338) 4 4898343 (.cons (.bin .Add (.v 5 4899499) (.lc (.v 1 4900515) (.v 1 4901820) (.k (.str [97,98,99,100]) 4902982) (.cons (.cmp .Gt (.v 1 4904430) (.item (.v 2 4905445) (.k (.int 0) 4906167) 4905448) 4904440) .nil) { kind:=.function,names:=[(".0",.local),("name",.local),("pair",.free)],isGenerator:=false,isCoroutine:=false } 4900409) 4899545) .nil) [] .nil 4898394) .nil)) 4897387) .nil) [] .nil 4895516) 4895516) .nil)))) .nil 30524636) .nil) 36931484) (.cons (.ret (.v 1 4916032) 4915024) .nil)))
noncomputable def RQ:fF:=[("lexer",.local),("orders",.local),("table",.local),("row",.local),("pair",.local),("order",.local),("high",.local),("name",.local),("low",.local),("behind",.cell),("Headers",.globalImplicit),("_ellipsis_match",.globalImplicit),("iter",.globalImplicit),("bisect_left",.globalImplicit)]
noncomputable def yZ:S:=(.cons (.rG (.tup (.cons (.v 2 4956489) (.cons (.v 3 4957502) .nil)) 4956494) (.tup (.cons (.call (.v 10 4958521) .nil [] .nil 4958523) (.cons (.lst .nil 4960111) .nil)) 4958384) 4956512) (.cons (.kA 0 (.v 4 4977804) (.tup (.cons (.k (.str [98,97]) 4979109) (.cons (.k (.str [99,97]) 4979979) (.cons (.k (.str [99,98]) 4980849) (.cons (.k (.str [100,97]) 4981719) (.cons (.k (.str [100,98]) 4982589) (.cons (.k (.str [100,99]) 4983459) .nil)))))) 4978996) (.cons (.kA 0 (.v 5 4999121) (.v 1 5000427) (.cons (.ite (.call (.v 11 5020302) (.cons (.bin .Add (.bin .Add (.bin .Add (.bin .Add (.k (.str [46,46,46]) 5022612) (.item (.v 4 5023771) (.k (.int 0) 5024493) 5023774) 5022622) (.k (.str [46,46,46]) 5025222) 5022630) (.item (.v 4 5026381) (.k (.int 1) 5027103) 5026384) 5022640) (.k (.str [46,46,46]) 5027832) 5022648) (.cons (.v 5 5028847) .nil)) [] .nil 5020352) (.cons (.ex (.dS (.v 2 5041173) 19 5041184 (.cons (.item (.v 4 5043637) (.k (.int 0) 5044359) 5043640) (.cons (.dS (.item (.v 4 5044942) (.k (.int 1) 5045664) 5044945) 10 5044951 .nil [] .nil 5044953) .nil)) [] .nil 5041210) 5041210) .nil) .nil 11448058) .nil) 17854906) .nil) 24261754) (.cons (.kA 3 (.v 6 5060748) (.k (.str [97,98,99,100]) 5061910) (.cons (.asg 9 5081486 (.lst .nil 5082787) 5081491) (.cons (.ex (.dS (.v 0 5102221) 20 5102232 (.cons (.v 6 5104685) .nil) [] .nil 5102238) 5102238) (.cons (.kA 1 (.v 7 5123536) (.call (.v 12 5124696) (.cons (.attr (.v 0 5125422) 21 5125432) (.cons (.k (.str []) 5127884) .nil)) [] .nil 5124717) (.cons (.kA 0 (.v 8 5144851) (.dS (.v 2 5145868) 17 5145876 (.cons (.v 7 5147897) .nil) [] .nil 5145882) (.cons (.ite (.cmp .NotIn (.v 8 5166022) (.v 9 5167620) 5166036) (.cons (.ex (.dS (.v 9 5186906) 0 5186913 (.cons (.v 8 5188933) .nil) [] .nil 5186918) 5186918) (.cons (.ex (.dS (.v 0 5207641) 20 5207652 (.cons (.v 8 5210104) .nil) [] .nil 5207657) 5207657) .nil)) .nil 18021929) .nil) 24428777) .nil) 30835625) (.cons (.ex (.dS (.v 3 5226635) 2 5226642 (.cons (.rY (.v 13 5228238) (.cons (.v 3 5229970) (.cons (.k (.bool true) 5230696) .nil)) 32 5231599 [("low",5233160)] (.cmp .In (.dS (.v 0 5233885) 10 5233891 .nil [] .nil 5233893) (.v 1 5236063) 5233903) { kind:=.function,names:=[("low",.local),("behind",.free)],isGenerator:=false,isCoroutine:=false } 5232175 5228288) (.cons (.v 6 5237366) .nil)) [] .nil 5226711) 5226711) .nil)))) 56485527) (.cons (.ret (.dS (.k (.str []) 5247805) 4 5247810 (.cons (.v 3 5248966) .nil) [] .nil 5247815) 5246807) .nil))))
noncomputable def RR:fF:=[("orders",.local),("order",.cell),("low",.local),("high",.local),("due",.local),("n",.cell),("range",.globalImplicit),("min",.globalImplicit),("max",.globalImplicit),("len",.globalImplicit),("bisect_left",.globalImplicit)]
noncomputable def LD:S:=(.cons (.kA 3 (.v 5 5288841) (.call (.v 6 5289570) (.cons (.k (.int 5) 5290436) .nil) [] .nil 5289573) (.cons (.asg 4 5309579 (.call (.v 7 5310449) (.cons (.call (.v 8 5311029) (.cons (.call (.v 9 5311609) (.cons (.lc (.v 1 5312334) (.v 1 5313494) (.v 0 5314512) (.cons (.cmp .Lt (.iX (.v 1 5315959) .nil (.cons (.v 2 5316682) .nil) .nil 5316538 5315963) (.iX (.v 3 5317411) .nil (.cons (.v 2 5318422) .nil) .nil 5318278 5317415) 5315975) .nil) { kind:=.function,names:=[(".0",.local),("row",.local),("n",.free),("order",.free)],isGenerator:=false,isCoroutine:=false } 5312232) .nil) [] .nil 5311657) (.cons (.v 2 5319294) .nil)) [] .nil 5311087) (.cons (.v 3 5320165) .nil)) [] .nil 5310518) 5309654) (.cons (.ite (.bo .Or (.cons (.cmp .NotEq (.call (.v 10 5330758) (.cons (.v 0 5332493) (.cons (.iX (.v 1 5333652) .nil (.cons (.v 5 5334663) .nil) .nil 5334519 5333656) (.cons (.v 2 5335245) (.cons (.v 3 5335971) .nil)))) [] .nil 5330788) (.v 4 5337275) 5330795) (.cons (.cmp .NotEq (.rY (.v 10 5338298) (.cons (.v 0 5340033) (.cons (.iX (.v 1 5341192) .nil (.cons (.v 5 5342203) .nil) .nil 5342059 5341196) (.cons (.v 2 5342785) (.cons (.v 3 5343511) .nil)))) 32 5344400 [("row",5345975)] (.iX (.v 0 5346700) .nil (.cons (.v 1 5347423) .nil) .nil 5347279 5346704) { kind:=.function,names:=[("row",.local),("n",.free)],isGenerator:=false,isCoroutine:=false } 5344976 5338353) (.v 4 5348440) 5338360) .nil)) 5330872) (.cons (.ret (.k (.bool false) 5352648) 5351640) .nil) .nil 11758488) .nil)) 24572760) (.cons (.ret (.k (.bool true) 5372223) 5371215) .nil))
noncomputable def LE:fF:=[("order",.local),("falls",.local),("rest",.local),("one",.local),("other",.local),("joined",.local),("bounds",.local),("orders",.local),("pairs",.cell),("name",.cell),("pair",.local),("masks",.cell),("ups",.cell),("top",.cell),("told",.local),("under",.cell),("least",.cell),("up",.local),("_law_placed",.globalImplicit),("sorted",.globalImplicit),("range",.globalImplicit),("_law_falls",.globalImplicit)]
noncomputable def jM:S:=(.cons (.rG (.tup (.cons (.v 7 5412682) (.cons (.v 8 5413841) .nil)) 5412689) (.tup (.cons (.lst (.cons (.k (.str []) 5415288) .nil) 5415145) (.cons (.tup (.cons (.k (.str [98,97]) 5416160) (.cons (.k (.str [99,97]) 5417030) (.cons (.k (.str [99,98]) 5417900) (.cons (.k (.str [100,97]) 5418770) (.cons (.k (.str [100,98]) 5419640) (.cons (.k (.str [100,99]) 5420510) .nil)))))) 5416047) .nil)) 5415040) 5412736) (.cons (.kA 0 (.v 9 5433996) (.k (.str [97,98,99,100]) 5435158) (.cons (.asg 7 5454734 (.OG (.bin .Add (.bin .Add (.iX (.v 1 5456181) .nil (.cons (.v 2 5456904) .nil) .nil 5456760 5456185) (.v 5 5457632) 5456192) (.iX (.v 1 5458646) (.cons (.v 2 5459224) .nil) .nil .nil 5459225 5458650) 5456202) (.v 1 5460386) (.v 7 5461404) (.v 2 5462994) (.call (.v 3 5463723) (.cons (.bin .Add (.call (.v 4 5464591) (.cons (.v 1 5465171) .nil) [] .nil 5464596) (.k (.int 1) 5466184) 5464600) .nil) [] .nil 5463737) { kind:=.function,names:=[(".0",.local),("row",.local),("i",.local),("range",.globalImplicit),("len",.globalImplicit),("name",.free)],isGenerator:=false,isCoroutine:=false } 5456106) 5454810) .nil) 11861658) (.cons (.ite (.un .Not (.call (.v 18 5475910) (.cons (.call (.v 19 5477645) (.cons (.v 7 5478660) .nil) [] .nil 5477653) (.cons (.v 0 5479964) (.cons (.item (.v 6 5480980) (.k (.int 0) 5481990) 5480983) (.cons (.item (.v 6 5482575) (.k (.int 1) 5483585) 5482578) .nil)))) [] .nil 5475955) 5475379) (.cons (.ret (.k (.bool false) 5497220) 5496212) .nil) .nil 11903060) (.cons (.asg 11 5516361 (.lc (.call (.v 2 5517664) (.cons (.lc (.bin .LShift (.k (.int 1) 5518387) (.v 1 5519112) 5518392) (.tup (.cons (.v 1 5519982) (.cons (.v 2 5520420) .nil)) 5519988) (.call (.v 3 5521585) (.cons (.v 4 5523031) .nil) [] .nil 5521592) (.cons (.cmp .Lt (.dS (.v 3 5524479) 34 5524485 (.cons (.item (.v 2 5525930) (.k (.int 0) 5526652) 5525933) .nil) [] .nil 5524494) (.dS (.v 3 5527524) 34 5527530 (.cons (.item (.v 2 5528975) (.k (.int 1) 5529697) 5528978) .nil) [] .nil 5527539) 5524515) .nil) { kind:=.function,names:=[(".0",.local),("i",.local),("pair",.local),("row",.free)],isGenerator:=false,isCoroutine:=false } 5518324) .nil) [] .nil 5517749) (.v 1 5531149) (.v 7 5532167) .nil { kind:=.function,names:=[(".0",.local),("row",.cell),("sum",.globalImplicit),("enumerate",.globalImplicit),("pairs",.free)],isGenerator:=false,isCoroutine:=false } 5517624) 5516472) (.cons (.asg 12 5537095 (.lc (.call (.v 2 5538110) (.cons (.lc (.bin .LShift (.k (.int 1) 5538833) (.v 1 5539558) 5538838) (.tup (.cons (.v 1 5540428) (.cons (.v 2 5540866) .nil)) 5540434) (.call (.v 3 5542031) (.cons (.v 4 5543477) .nil) [] .nil 5542038) (.cons (.cmp .Eq (.bin .BitAnd (.v 2 5544926) (.v 3 5545940) 5544932) (.v 3 5546955) 5544939) .nil) { kind:=.function,names:=[(".0",.local),("i",.local),("mask",.local),("low",.free)],isGenerator:=false,isCoroutine:=false } 5538748) .nil) [] .nil 5538173) (.v 1 5548405) (.v 11 5549422) .nil { kind:=.function,names:=[(".0",.local),("low",.cell),("sum",.globalImplicit),("enumerate",.globalImplicit),("masks",.free)],isGenerator:=false,isCoroutine:=false } 5538047) 5537183) (.cons (.asg 13 5557831 (.dS (.v 7 5558704) 34 5558710 (.cons (.v 0 5560588) .nil) [] .nil 5558717) 5557853) (.cons (.kA 0 (.tup (.cons (.v 10 5579148) (.cons (.v 14 5580018) .nil)) 5579154) (.v 1 5581179) (.cons (.rG (.tup (.cons (.v 15 5599885) (.cons (.v 16 5600900) .nil)) 5599892) (.tup (.cons (.dS (.v 7 5602206) 34 5602212 (.cons (.dS (.v 0 5604090) 33 5604098 (.cons (.v 10 5606119) (.cons (.iX (.v 10 5606989) .nil .nil (.cons (.un .USub (.k (.int 1) 5608146) 5608002) .nil) 5607714 5606995) .nil)) [] .nil 5604116) .nil) [] .nil 5602245) (.cons (.dS (.v 7 5609021) 34 5609027 (.cons (.v 14 5610904) .nil) [] .nil 5609033) .nil)) 5602122) 5599962) (.cons (.asg 17 5620618 (.lc (.v 1 5621487) (.v 1 5622357) (.call (.v 20 5623086) (.cons (.k (.int 24) 5623953) .nil) [] .nil 5623090) (.cons (.cmp .Eq (.bin .BitAnd (.item (.v 4 5624969) (.v 3 5625551) 5624976) (.item (.v 4 5626854) (.v 1 5627432) 5626857) 5624985) (.item (.v 4 5628304) (.v 2 5628884) 5628309) 5624997) .nil) { kind:=.function,names:=[(".0",.local),("i",.local),("top",.free),("under",.free),("ups",.free)],isGenerator:=false,isCoroutine:=false } 5621398) 5620678) (.cons (.ite (.cmp .NotEq (.v 17 5641789) (.lc (.v 1 5642803) (.v 1 5643673) (.call (.v 20 5644402) (.cons (.k (.int 24) 5645269) .nil) [] .nil 5644406) (.cons (.bo .And (.cons (.cmp .Eq (.bin .BitAnd (.item (.v 3 5646287) (.v 1 5647153) 5646290) (.item (.v 3 5647882) (.v 2 5648752) 5647889) 5646305) (.item (.v 3 5650202) (.v 2 5651072) 5650209) 5646321) (.cons (.cmp .Eq (.bin .BitAnd (.item (.v 3 5652667) (.v 1 5653533) 5652670) (.item (.v 3 5654262) (.v 4 5655130) 5654267) 5652683) (.item (.v 3 5656292) (.v 1 5657158) 5656295) 5652695) .nil)) 5646359) .nil) { kind:=.function,names:=[(".0",.local),("i",.local),("least",.free),("masks",.free),("top",.free)],isGenerator:=false,isCoroutine:=false } 5642760) 5641896) (.cons (.ret (.k (.bool false) 5663688) 5662680) .nil) .nil 12069528) (.cons (.ite (.bo .Or (.cons (.cmp .NotEq (.call (.v 21 5683269) (.cons (.v 14 5684858) .nil) [] .nil 5683275) (.lst (.cons (.tup (.cons (.v 10 5686453) (.cons (.v 14 5687323) .nil)) 5686316) .nil) 5686173) 5683293) (.cons (.bo .And (.cons (.cmp .Eq (.v 10 5688918) (.item (.item (.v 1 5690079) (.k (.int 0) 5690945) 5690082) (.k (.int 0) 5691380) 5690085) 5688933) (.cons (.cmp .NotEq (.bin .BitAnd (.bin .RShift (.item (.v 12 5692397) (.dS (.v 7 5692980) 34 5692986 (.cons (.v 2 5694863) .nil) [] .nil 5692992) 5692417) (.v 15 5696314) 5692426) (.k (.int 1) 5697470) 5692430) (.k (.int 1) 5698195) 5692435) .nil)) 5688979) .nil)) 5683364) (.cons (.ret (.k (.bool false) 5705160) 5704152) .nil) .nil 12111000) .nil)))) 44147544) (.cons (.ret (.cmp .Eq (.bin .BitAnd (.item (.v 12 5724734) (.dS (.v 7 5725317) 34 5725323 (.cons (.v 3 5727199) .nil) [] .nil 5725328) 5724753) (.item (.v 12 5728359) (.dS (.v 7 5728942) 34 5728948 (.cons (.v 4 5730826) .nil) [] .nil 5728955) 5728380) 5724780) (.item (.v 12 5732419) (.dS (.v 7 5733002) 34 5733008 (.cons (.v 5 5734887) .nil) [] .nil 5733016) 5732441) 5724809) 5723801) .nil))))))))
noncomputable def RS:fF:=[("row",.local),("asked",.local),("error",.local),("bisect_left",.globalImplicit),("ValueError",.globalImplicit),("str",.globalImplicit)]
noncomputable def ZS:S:=(.cons (.asg 1 5765193 (.lst .nil 5766350) 5765198) (.cons (.VI (.cons (.ex (.call (.v 3 5807251) (.cons (.v 0 5808983) (.cons (.k (.bool true) 5809709) (.cons (.un .USub (.k (.int 1) 5810721) 5810577) .nil))) [(32,5811171)] (.cons (.attr (.v 1 5811740) 0 5811747) .nil) 5807284) 5807284) .nil) 4 5828421 2 (.cons (.ret (.bo .And (.cons (.cmp .Eq (.call (.v 5 5849730) (.cons (.v 2 5850312) .nil) [] .nil 5849737) (.k (.str [108,111,32,109,117,115,116,32,98,101,32,110,111,110,45,110,101,103,97,116,105,118,101]) 5851782) 5849766) (.cons (.cmp .Eq (.v 1 5856112) (.lst .nil 5857414) 5856118) .nil)) 5849782) 5848774) .nil) 12255622 25070470) (.cons (.ret (.k (.bool false) 5869888) 5868880) .nil)))
noncomputable def vX:fF:=[("script",.cell),("numbers",.cell),("typed",.local),("words",.local),("page",.local),("lexer",.local),("word",.local),("read",.local),("order",.local),("one",.local),("other",.local),("pair",.local),("falls",.local),("told",.local),("rest",.local),("joined",.local),("low",.local),("enumerate",.globalImplicit),("range",.globalImplicit),("_law_page",.globalImplicit),("_law_lexer",.globalImplicit),("list",.globalImplicit),("iter",.globalImplicit),("_ellipsis_match",.globalImplicit),("_law_falls",.globalImplicit),("_law_least",.globalImplicit),("_law_refused",.globalImplicit),("_law_judged",.globalImplicit)]
noncomputable def fZ:S:=(.cons (.asg 1 5910347 (.lc (.bin .Mod (.bin .Add (.v 2 5912084) (.call (.v 3 5913098) (.cons (.iX (.iX (.v 4 5913681) .nil (.cons (.k (.int 60) 5914837) .nil) .nil 5914693 5913686) (.cons (.v 1 5915416) .nil) .nil (.cons (.k (.int 3) 5915851) .nil) 5915419 5913692) .nil) [] .nil 5913117) 5912109) (.bin .Pow (.k (.int 10) 5916867) (.k (.int 6) 5917736) 5916872) 5911976) (.tup (.cons (.v 1 5918606) (.cons (.v 2 5919044) .nil)) 5918612) (.call (.v 17 5920209) (.cons (.lst (.cons (.k (.int 78374) 5921800) (.cons (.k (.int 55749) 5922815) (.cons (.k (.int 4002) 5923829) .nil))) 5921670) .nil) [] .nil 5920231) .nil { kind:=.function,names:=[(".0",.local),("i",.local),("base",.local),("sum",.globalImplicit),("script",.free)],isGenerator:=false,isCoroutine:=false } 5911880) 5910440) (.cons (.asg 2 5931081 (.lc (.call (.v 2 5932391) (.cons (.bin .FloorDiv (.item (.v 3 5933983) (.k (.int 0) 5935137) 5933986) (.bin .Pow (.k (.int 24) 5936008) (.v 1 5936877) 5936013) 5933997) (.cons (.bin .FloorDiv (.item (.v 3 5937318) (.k (.int 1) 5938472) 5937321) (.bin .Pow (.k (.int 16) 5939343) (.v 1 5940212) 5939348) 5937332) .nil)) [] .nil 5932437) (.v 1 5941227) (.call (.v 18 5941956) (.cons (.k (.int 3) 5942822) .nil) [] .nil 5941959) .nil { kind:=.function,names:=[(".0",.local),("i",.local),("_law_order",.globalImplicit),("numbers",.free)],isGenerator:=false,isCoroutine:=false } 5932312) 5931160) (.cons (.rG (.tup (.cons (.v 3 5951817) (.cons (.v 4 5952831) .nil)) 5951823) (.call (.v 19 5953851) (.cons (.v 2 5955297) (.cons (.item (.v 1 5956314) (.k (.int 2) 5957468) 5956317) .nil)) [] .nil 5953870) 5951854) (.cons (.asg 5 5972553 (.call (.v 20 5973718) (.cons (.v 4 5975307) .nil) [] .nil 5973724) 5972572) (.cons (.kA 0 (.v 6 5993868) (.lst (.cons (.dS (.v 5 5995174) 21 5995184 .nil [] .nil 5995186) (.cons (.dS (.v 5 5997929) 21 5997939 .nil [] .nil 5997941) .nil)) 5995062) (.cons (.ex (.dS (.v 5 6014605) 20 6014616 (.cons (.v 6 6017069) .nil) [] .nil 6014622) 6014622) .nil) 12421470) (.cons (.asg 7 6034760 (.call (.v 21 6035775) (.cons (.call (.v 22 6036500) (.cons (.attr (.v 5 6037226) 21 6037236) (.cons (.k (.str []) 6039688) .nil)) [] .nil 6036521) .nil) [] .nil 6035802) 6034794) (.cons (.ite (.bo .Or (.cons (.cmp .NotEq (.v 7 6055931) (.v 3 6057092) 6055940) (.cons (.cmp .NotEq (.lc (.call (.v 2 6058561) (.cons (.v 1 6062166) .nil) [] .nil 6058567) (.v 1 6063616) (.v 7 6064776) .nil { kind:=.function,names:=[(".0",.local),("word",.local),("_strip_exception_details",.globalImplicit)],isGenerator:=false,isCoroutine:=false } 6058441) (.v 2 6066082) 6058450) (.cons (.cmp .NotEq (.attr (.v 5 6067387) 26 6067394) (.bin .Add (.dS (.v 4 6069706) 12 6069712 (.cons (.k (.str [10]) 6071301) .nil) [] .nil 6069718) (.k (.int 1) 6072458) 6069722) 6067418) .nil))) 6056042) (.cons (.ret (.k (.bool false) 6077828) 6076820) .nil) .nil 12483668) (.cons (.rG (.tup (.cons (.v 8 6096969) (.cons (.v 9 6097982) (.cons (.v 10 6098709) .nil))) 6096981) (.lc (.dS (.v 1 6100013) 11 6100019 .nil [] .nil 6100021) (.v 1 6102478) (.v 2 6103639) .nil { kind:=.function,names:=[(".0",.local),("name",.local)],isGenerator:=false,isCoroutine:=false } 6099896) 6097016) (.cons (.kA 0 (.v 11 6118284) (.tup (.cons (.k (.str [98,97]) 6119589) (.cons (.k (.str [99,97]) 6120459) (.cons (.k (.str [99,98]) 6121329) (.cons (.k (.str [100,97]) 6122199) (.cons (.k (.str [100,98]) 6123069) (.cons (.k (.str [100,99]) 6123939) .nil)))))) 6119476) (.cons (.ite (.cmp .IsNot (.call (.v 23 6139466) (.cons (.bin .Add (.bin .Add (.bin .Add (.bin .Add (.k (.str [46,46,46]) 6141776) (.item (.v 11 6142935) (.k (.int 0) 6143657) 6142938) 6141786) (.k (.str [46,46,46]) 6144386) 6141794) (.item (.v 11 6145545) (.k (.int 1) 6146267) 6145548) 6141804) (.k (.str [46,46,46]) 6146996) 6141812) (.cons (.v 8 6148011) .nil)) [] .nil 6139516) (.cmp .Lt (.dS (.v 8 6150186) 34 6150192 (.cons (.item (.v 11 6151925) (.k (.int 0) 6152647) 6151928) .nil) [] .nil 6150201) (.dS (.v 8 6153521) 34 6153527 (.cons (.item (.v 11 6155260) (.k (.int 1) 6155982) 6155263) .nil) [] .nil 6153536) 6150224) 6139569) (.cons (.ret (.k (.bool false) 6161352) 6160344) .nil) .nil 12567192) (.cons (.ite (.cmp .IsNot (.call (.v 23 6180938) (.cons (.bin .Add (.bin .Add (.item (.v 11 6183247) (.k (.int 0) 6183969) 6183250) (.k (.str [46,46,46]) 6184698) 6183258) (.item (.v 11 6185857) (.k (.int 1) 6186579) 6185860) 6183268) (.cons (.v 8 6187163) .nil)) [] .nil 6180972) (.bo .And (.cons (.cmp .Eq (.item (.v 8 6189338) (.k (.int 0) 6190204) 6189341) (.item (.v 11 6191077) (.k (.int 0) 6191799) 6191080) 6189352) (.cons (.cmp .Eq (.item (.v 8 6192818) (.k (.int 3) 6193684) 6192821) (.item (.v 11 6194557) (.k (.int 1) 6195279) 6194560) 6192832) .nil)) 6189376) 6181025) (.cons (.ret (.k (.bool false) 6202824) 6201816) .nil) .nil 12608664) .nil)) 31830360) (.cons (.asg 12 6221385 (.call (.v 24 6222550) (.cons (.v 8 6224140) .nil) [] .nil 6222557) 6221405) (.cons (.asg 13 6242120 (.lc (.v 2 6243280) (.tup (.cons (.v 1 6244585) (.cons (.v 2 6245455) .nil)) 6244591) (.v 12 6246616) .nil { kind:=.function,names:=[(".0",.local),("pair",.local),("name",.local)],isGenerator:=false,isCoroutine:=false } 6243161) 6242153) (.cons (.ite (.bo .Or (.cons (.cmp .NotEq (.call (.v 25 6263297) (.cons (.v 5 6264887) (.cons (.v 13 6265901) .nil)) [] .nil 6263310) (.v 8 6267207) 6263319) (.cons (.un .Not (.call (.v 26 6269099) (.cons (.v 13 6270976) .nil) [] .nil 6269105) 6268529) .nil)) 6263345) (.cons (.ret (.k (.bool false) 6285188) 6284180) .nil) .nil 12691028) (.cons (.rG (.tup (.cons (.v 14 6304328) (.cons (.v 15 6305200) .nil)) 6304336) (.tup (.cons (.call (.v 25 6306654) (.cons (.v 5 6308244) (.cons (.iX (.v 13 6309258) (.cons (.k (.int 1) 6309980) .nil) .nil .nil 6309981 6309262) .nil)) [] .nil 6306671) (.cons (.call (.v 25 6310859) (.cons (.v 5 6312449) (.cons (.lst (.cons (.v 9 6313607) (.cons (.v 10 6314334) .nil)) 6313471) .nil)) [] .nil 6310880) .nil)) 6306561) 6304401) (.cons (.asg 16 6325063 (.bin .Mod (.bin .FloorDiv (.item (.v 1 6325937) (.k (.int 0) 6327091) 6325940) (.k (.int 13824) 6327965) 6325949) (.k (.int 25) 6329122) 6325954) 6325090) (.cons (.ret (.call (.v 27 6346822) (.cons (.v 8 6348556) (.cons (.v 12 6349571) (.cons (.v 14 6350585) (.cons (.v 9 6351454) (.cons (.v 10 6352181) (.cons (.v 15 6353197) (.cons (.tup (.cons (.v 16 6354499) (.cons (.bin .Add (.v 16 6355224) (.bin .Mod (.bin .FloorDiv (.item (.v 1 6356098) (.k (.int 1) 6357252) 6356101) (.k (.int 4096) 6358125) 6356109) (.bin .Sub (.k (.int 25) 6359283) (.v 16 6360009) 6359289) 6356122) 6355258) .nil)) 6354395) .nil))))))) [] .nil 6346908) 6345900) .nil)))))))))))))))
noncomputable def bU.ctorIdx(f:bU):Nat:=bU.rec 0 1 2 (λ_=>3) f
noncomputable def S.tk(n:Nat)(b:S):S:=
 Nat.rec (motive:=λ_=>S->S) (λ_=>.nil) (λ_ ih b=>match b with | .cons s r=>.cons s (ih r) | b=>b) n b
noncomputable def S.dr(n:Nat)(b:S):S:=
 Nat.rec (motive:=λ_=>S->S) (λb=>b) (λ_ ih b=>match b with | .cons _ r=>ih r | _=>.nil) n b
noncomputable def S.ss(s:S):List S:=match s with | .cons a r=>[a,r] | .ite _ b o _=>[b,o] | .kA _ _ _ b _=>[b] | .TJ _ b _=>[b] | _=>[]
noncomputable def S.es(s:S):List E:=match s with | .asg _ _ e _=>[e] | .rG t e _=>[t,e] | .AS o _ _ e _=>[o,e] | .ret e _=>[e] | .ex e _=>[e] | .ite t _ _ _=>[t] | .kA _ t i _ _=>[t,i] | .TJ t _ _=>[t] | _=>[]
noncomputable def E.cs(e:E):List E:=match e with | .cons a r=>[a,r] | .bin _ a b _=>[a,b] | .cmp _ a b _=>[a,b] | .bo _ a _=>[a] | .tup a _=>[a] | .call f a _ _ _=>[f,a] | .dS o _ _ a _ _ _=>[o,a] | .lc e t i f _ _=>[e,t,i,f] | .OG e t i u j _ _=>[e,t,i,u,j] | .rY _ _ _ _ _ b _ _ _=>[b] | .lam _ b _ _=>[b] | _=>[]
noncomputable def E.c(i:Nat)(e:E):E:=e.cs.getD i .nil
noncomputable def S.nt(n:Nat)(b:S):S:=cond (b.dr n).IX ((b.dr n).ss.getD 0 .nil) .nil
noncomputable def S.th(s:S):S:=s.ss.getD 0 .nil
noncomputable def S.el(s:S):S:=s.ss.getD 1 .nil
noncomputable def S.p8(s:S):E:=s.es.getD 0 .nil
noncomputable abbrev S.tg(s:S):E:=s.p8
noncomputable def S.y0(s:S):E:=s.es.getD 1 .nil
abbrev gd{α:Type}(r:R aK α)(a:α)(st:aK):Prop:=r.good (.ok a st)
section
variable {x:Cx} {st st1 bW:aK} {o:Oc aK bU}
theorem ntN{b:S}:b.IX=false->b.nt 0= .nil:=by
 cases b with
 | cons=>exactλh=>nomatch h
 | _=>exactλ_=>rfl
theorem tkN{k:Nat}{b:S}:b.IX=false->b.tk (k+1)=b∧b.dr (k+1)= .nil:=by
 cases b with
 | cons=>exactλh=>nomatch h
 | _=>exactλ_=>⟨rfl,rfl⟩
theorem oY{x:Cx}{o:Oc aK bU}{s1:aK}(k:Nat):∀{b:S} {s0:aK},gd ((sv (b.tk k) x).k s0) .next s1->((sv (b.dr k) x).k s1).good o->((sv b x).k s0).good o:=by
 induction k with
 | zero=>
  intro b s0 h g
  have h:Oc.ok bU.next s1=Oc.ok bU.next s0:=h
  cases h
  exact g
 | succ k ih=>
  intro b s0 h g
  cases e:b.IX with
  | true=>
   refine kG (sC_ e) λs r dE=>?_;subst dE
   refine R.lE (R.post.mono (R.aL h) (λfl s2 h=>?_) λ_ _ _ _ e=>nomatch e)
   cases fl with
   | next=>exact ih h g
   | _=>exact nomatch h
  | false=>
   rw[(tkN e).1] at h
   rw[(tkN e).2] at g
   obtain rfl:=(g:o= .ok .next s1)
   exact h
noncomputable def S.kd(s:S):Nat:=match s with | .ite .. =>1 | .TJ .. =>2 | .kA n .. =>n+3 | _=>0
theorem kd1{s:S}:s.kd=1->∃t b o p,s= .ite t b o p:=by
 cases s with
 | ite t b o p=>exactλ_=>⟨t,b,o,p,rfl⟩
 | kA=>exactλh=>nomatch h
 | _=>exactλh=>nomatch h
theorem kd2{s:S}:s.kd=2->∃t b p,s= .TJ t b p:=by
 cases s with
 | TJ t b p=>exactλ_=>⟨t,b,p,rfl⟩
 | kA=>exactλh=>nomatch h
 | _=>exactλh=>nomatch h
theorem rH{b:S}(h:gd ((sv (b.nt 0) x).s st) .next st1)(g:((sv (b.dr 1) x).k st1).good o):((sv b x).k st).good o:=by
 cases e:b.IX with
 | true=>
  refine kG (sC_ e) λs r dE=>?_;subst dE
  exact R.lE (R.post.mono h (λfl s1 e=>by cases e;exact g) λ_ _ _ _ e=>nomatch e)
 | false=>rw[ntN e] at h;exact h.elim
theorem mE{b:S}(h:((sv (b.nt 0) x).s st).good o)(n:b.dr 1= .nil):((sv b x).k st).good o:=by
 cases e:b.IX with
 | true=>
  refine kG (sC_ e) λs r dE=>?_;subst dE
  obtain rfl:=(n:r= .nil)
  refine R.lE (R.post.mono h (λfl s1 e=>?_) λ_ _ _ _ e=>e)
  cases fl with
  | next=>exact e
  | _=>exact e
 | false=>rw[ntN e] at h;exact h.elim
theorem I9{b:S}{v:aA}(h:((sv (b.nt 0) x).s st).good (.ok (.ret v) st1)):((sv b x).k st).good (.ok (.ret v) st1):=by
 cases e:b.IX with
 | true=>
  refine kG (sC_ e) λs r dE=>?_;subst dE
  exact R.lE (R.post.mono h (λfl s1 e=>by cases e;exact(rfl:_=_)) λ_ _ _ _ e=>nomatch e)
 | false=>rw[ntN e] at h;exact h.elim
theorem RT{s:S}(k:s.kd=1)(h:gd ((ev s.p8 x).t st) true st1)(g:((sv s.th x).k st1).good o):((sv s x).s st).good o:=by
 refine wG (kd1 k) λt b q p wN=>?_;subst wN
 exact R.lE (R.post.mono h (λc bW e=>by cases e;exact⟨λ_=>g,λq=>nomatch q⟩) λ_ _ _ _ e=>nomatch e)
theorem LF{s:S}(k:s.kd=1)(h:gd ((ev s.p8 x).t st) false st1)(g:((sv s.el x).k st1).good o):((sv s x).s st).good o:=by
 refine wG (kd1 k) λt b q p wN=>?_;subst wN
 exact R.lE (R.post.mono h (λc bW e=>by cases e;exact⟨λq=>(nomatch q),λ_=>g⟩) λ_ _ _ _ e=>nomatch e)
theorem ZT{α:Type}{r:R aK α}{a:α}:gd r a st->gd r.nx a st:=by
 induction r with
 | ob p r ih=>exact nR id ih
 | br c x y i1 i2=>exact nR (λh c=>i1 (h c)) (λh c=>i2 (h c))
 | ask k ih=>exactλh=>h.elim λw h=>⟨w,ih w h⟩
 | no=>exact id
 | ok=>exact id
 | ex=>exactλh=>nomatch (show Oc.ok a st=Oc.ex _ _ _ _ from h)
theorem aDE{s:S}{fl:bU}(k:s.kd=2)(h:gd (QW (ev s.p8 x).t (sv s.th x).k fuel st) fl st1):gd ((sv s x).s st) fl st1:=by
 refine ED (kd2 k) λt b p rF=>?_;subst rF
 exact ZT h
theorem kd3{s:S}{n:Nat}:s.kd=n+3->∃t it b p,s= .kA n t it b p:=by
 cases s with
 | kA m t it b p=>exactλh=>⟨t,it,b,p,by obtain rfl:=Nat.add_right_cancel h;rfl⟩
 | _=>exactλh=>nomatch h
noncomputable abbrev dU(s:S)(x:Cx)(b:aA)(st:aK):R aK bU:=((ev s.p8 x).g b st).bind λ_ st1=>(sv s.th x).k st1
theorem n6{α:Type}{c:Bool}{r:R aK α}{o:Oc aK α}(h:c=true)(g:r.good o):(hZ c r).good o:=by rw[h];exact g
theorem gIO{α γ:Type}{q:Option γ}{c:γ}{k:γ->R aK α}{o:Oc aK α}(h:q=some c)(g:(k c).good o):(iO q k).good o:=by rw[h];exact g
theorem B5{s:S}{l:Nat}{zs:List aA}{fl:bU}(k:s.kd=3)(hn:x.hn=true)(h:gd ((ev s.y0 x).e st) (.aO l) st1)(e:st1.H[l]? =some (.lst zs))(g:gd (forL false (dU s x) [(l,.lst zs)] st1.H.length zs st1) fl bW):gd ((sv s x).s st) fl bW:=by
 refine wG (kd3 k) λt it b p wN=>?_;subst wN
 refine n6 hn (R.good.bind h ?_)
 exact gIO e (ZT ⟨e,g⟩)
theorem RU{s:S}{zs:List aA}{fl:bU}(k:s.kd=3)(hn:x.hn=true)(h:gd ((ev s.y0 x).e st) (.tup zs) st1)(g:gd (forL false (dU s x) [] st1.H.length zs st1) fl bW):gd ((sv s x).s st) fl bW:=by
 refine wG (kd3 k) λt it b p wN=>?_;subst wN
 exact n6 hn (R.good.bind h (ZT g))
theorem aHW(u:Bool){s:S}{a:aA}{ys:List aA}{need:List (Nat×Pc)}{s1 s2:aK}{fl:bU}(k:s.kd=cond u 6 3)(hn:x.hn=true)(h:gd ((ev s.y0 x).e st) a s1)(hr:∀k:List aA->List (Nat×Pc)->aK->R aK bU,gd (k ys need s2) fl bW->gd (TL s.tg st.H.length a s1 k) fl bW)
  (g:gd (nV need s2 (forL u (dU s x) need s2.H.length ys s2)) fl bW):gd ((sv s x).s st) fl bW:=by
 cases u with
 | false=>
  refine wG (kd3 (n:=0) k) λt it b p wN=>?_;subst wN
  exact n6 hn (R.good.bind h (hr _ (ZT g)))
 | true=>
  refine wG (kd3 (n:=3) k) λt it b p wN=>?_;subst wN
  exact n6 hn (R.good.bind h (hr _ (ZT g)))
theorem AU{α:Type}{a:α}:gd (.ok a st) a st:=rfl
theorem dP{α β:Type}{r:R aK α}{k:α->aK->R aK β}{a:α}{o:Oc aK β}(h:gd r a st)(g:(k a st).good o):(r.bind k).good o:=R.good.bind h g
theorem aHX{α:Type}{c:Bool}{r q:R aK α}{o:Oc aK α}(h:c=true)(g:r.good o):(R.br c r q).good o:=⟨λ_=>g,λe=>nomatch h.symm.trans e⟩
theorem aHY{α:Type}{c:Bool}{r q:R aK α}{o:Oc aK α}(h:c=false)(g:q.good o):(R.br c r q).good o:=⟨λe=>(nomatch h.symm.trans e),λ_=>g⟩
noncomputable def E.aHZ(w:E):Bool:=match w with | .lc .. =>true | _=>false
noncomputable abbrev E.tg(w:E):E:=w.c 1
noncomputable abbrev E.it(w:E):E:=w.c 2
noncomputable abbrev E.el(w:E):E:=w.c 0
noncomputable abbrev E.ifs(w:E):E:=w.c 3
noncomputable def sc0:iF:=⟨.function,[],false,false,[]⟩
noncomputable def E.sc(w:E):iF:=match w with | .lc _ _ _ _ s _=>s | .OG _ _ _ _ _ s _=>s | .lam _ _ s _=>s | .rY _ _ _ _ _ _ s _ _=>s | _=>sc0
theorem aH0{w:E}:w.aHZ=true->∃e t it ifs sc p,w= .lc e t it ifs sc p:=by
 cases w with
 | lc e t it ifs sc p=>exactλ_=>⟨e,t,it,ifs,sc,p,rfl⟩
 | _=>exact eV
noncomputable def uS(w:E)(y:Cx)(acc:Nat):aA->aK->R aK Unit:=match w with
 | .lc e t _ ifs _ _=>m9 t ifs e y acc
 | .OG e t _ t2 G9 _ _=>ZO t t2 G9 e y acc
 | _=>λ_ _=>.no
noncomputable def WL(w:E)(x:Cx)(st:aK):RM:=yV x w.sc w.tg (ev w.it x).e (uS w (x.lI w.sc)) (.lst []) st
noncomputable abbrev lcS(w:E)(x:Cx)(st:aK):aK:=⟨H7 x.G x.ns st.m w.sc.names,st.H++ [.lst []]⟩
theorem mH{w:E}{a:aA}{ys:List aA}{need:List (Nat×Pc)}{s1 s2 s3:aK}(h:gd ((ev w.it x).e st) a s1)(hr:∀k:List aA->List (Nat×Pc)->aK->RM,gd (k ys need s2) (.aO s2.H.length) ⟨s2.m,s3.H⟩->gd (TL w.tg st.H.length a s1 k) (.aO s2.H.length) ⟨s2.m,s3.H⟩)
  (g:gd (nV need ⟨[],s2.H++ [.lst []]⟩ (m8 (uS w (x.lI w.sc) s2.H.length) need (s2.H.length+1) ys (lcS w x s2))) () s3):gd (WL w x st) (.aO s2.H.length) ⟨s2.m,s3.H⟩:=
 R.good.bind h (hr (λys need s2=>((nV need ⟨[],s2.H++ [.lst []]⟩ (m8 (uS w (x.lI w.sc) s2.H.length) need (s2.H.length+1) ys ⟨H7 x.G x.ns s2.m w.sc.names,s2.H++ [.lst []]⟩)).nx).bind λ_ fL=>.ok (.aO s2.H.length) ⟨s2.m,fL.H⟩) (R.good.bind (ZT g) rfl))
theorem gLc{w:E}{a:aA}{ys:List aA}{need:List (Nat×Pc)}{s1 s2 s3:aK}(k:w.aHZ=true)(hs:(x.hn && scB x.ns w.sc)=true)(h:gd ((ev w.it x).e st) a s1)(hr:∀k:List aA->List (Nat×Pc)->aK->RM,TL w.tg st.H.length a s1 k=k ys need s2)
  (g:gd (nV need ⟨[],s2.H++ [.lst []]⟩ (m8 (m9 w.tg w.ifs w.el (x.lI w.sc) s2.H.length) need (s2.H.length+1) ys ⟨H7 x.G x.ns s2.m w.sc.names,s2.H++ [.lst []]⟩)) () s3):gd ((ev w x).e st) (.aO s2.H.length) ⟨s2.m,s3.H⟩:=by
 obtain⟨e,t,it,ifs,sc,p,rfl⟩:=aH0 k
 exact n6 hs ⟨.s,mH (w:=.lc e t it ifs sc p) h (λk q=>hr k▸q) g⟩
noncomputable def S.ZU(s:S):Bool:=match s with | .ret .. =>true | _=>false
theorem aDF{s:S}:s.ZU=true->∃e p,s= .ret e p:=by
 cases s with
 | ret e p=>exactλ_=>⟨e,p,rfl⟩
 | _=>exact eV
theorem aH1{s:S}{a:aA}(k:s.ZU=true)(h:gd ((ev s.p8 x).e st) a st1):((sv s x).s st).good (.ok (.ret a) st1):=by
 refine kG (aDF k) λe p dE=>?_;subst dE
 exact R.good.bind h rfl
section
variable {turn:aA->aK->R aK bU} {l k n:Nat} {v a:aA} {s2 s3 s4 s5:aK} {fl:bU}
theorem B6(h:gd (IY x l st) none s2):gd (n4 x turn l k (n+1) st) .next s2:=R.good.bind h rfl
theorem ZV(h:gd (IY x l st) (some v) s2)(i:uA l s2=true)(t:gd (turn v s2) (.ret a) s3):gd (n4 x turn l k (n+1) st) (.ret a) s3:=R.good.bind h (n6 i (R.good.bind t rfl))
theorem GA{f0:bU}(h:gd (IY x l st) (some v) s2)(i:uA l s2=true)(t:gd (turn v s2) f0 s3)(q:f0= .next∨f0= .cont)(c:lK k k s3.H=true)(e:s3.cut k=s4)(g:gd (n4 x turn l k n s4) fl s5):gd (n4 x turn l k (n+1) st) fl s5:=by
 refine R.good.bind h (n6 i (R.good.bind t ?_))
 subst e
 cases q with
 | inl q=>subst q;exact n6 c g
 | inr q=>subst q;exact n6 c g
end
end
noncomputable def GT:KB:=[("len",.blt "len"),("str",.typ "str"),("iter",.blt "iter"),("type",.typ "type"),("_name_disallowed_re",.ref 113),("_value_disallowed_re",.ref 118),("ELLIPSIS_MARKER",.str [46,46,46]),("enumerate",.typ "enumerate"),("range",.typ "range"),("list",.typ "list"),("Headers",.ref 247),("bisect_left",.ref 47),("_ellipsis_match",.ref 54),("_strip_exception_details",.ref 61),("_netrclex",.ref 99),
 ("_law_order",.ref 258),("_law_page",.ref 263),("_law_lexer",.ref 270),("_law_falls",.ref 275),("_law_least",.ref 282),("_law_placed",.ref 287),("_law_judged",.ref 292),("_law_refused",.ref 299),("sum",.blt "sum"),("sorted",.blt "sorted"),("min",.blt "min"),("max",.blt "max"),("ValueError",.typ "ValueError")]
noncomputable def WM:List ((cI×Str)×cI):=[((247,an 23),148),((247,an 17),186),((247,an 19),244),((99,an 22),82),((99,an 21),89),((99,an 20),96)]
noncomputable def WN:List ((cI×Str)×Unit):=[((247,an 30),()),((99,an 26),()),((99,an 27),()),((99,an 28),()),((99,an 29),())]
noncomputable def WO:List ((cI×Str)×cI):=[((99,an 22),82),((99,an 21),89)]
noncomputable def WP:List (cI×cI):=[(247,141),(99,75)]
noncomputable def aDG:List (cI×Bool):=[(113,true),(118,false)]
noncomputable abbrev sS(fns IV:List (cI×Nat×Fx))(lam:Option (List aA->List aA->List Pc->R (List Pc) aA)):Tb:=⟨fns,IV,WM,WN,WO,WP,aDG,lam⟩
noncomputable def pO:Str:=("_law_least":Str)++".<locals>."++"<lambda>"
noncomputable def uB:Str:=("_law_placed":Str)++".<locals>."++"<lambda>"
inductive Wld(D:WD):Prop where
 | mk (aNW:r8 D 141 F2 ZQ) (aNX:r8 D 148 RG RH) (aNY:r8 D 186 RI LB) (aNZ:r8 D 244 RJ ZR) (f47:r8 D 47 F0 I8) (ZW:r8 D 54 aC8 oW) (f61:r8 D 61 aC9 RE) (f75:r8 D 75 aDA aHT) (f82:r8 D 82 aDB aHU) (D7:r8 D 89 aDC RF) (f96:r8 D 96 aDD aHV) (aDH:r8 D 258 RK LC) (AV:r8 D 263 RL RN) (aN0:r8 D 270 RO pG) (JB:r8 D 275 RP F6) (AW:r8 D 282 RQ yZ) (uC:r8 D 287 RR LD) (sT:r8 D 292 LE jM) (aN1:r8 D 299 RS ZS) (DB:r8 D 304 vX fZ) (aN2:fC D.K (gC D.K 141) F2 1 0 [] [.none]) (aN3:fC D.K (gC D.K 148) RG 2 1 [an 31] []) (aN4:fC D.K (gC D.K 186) RI 2 0 [] []) (aN5:fC D.K (gC D.K 47) F0 2 1 [an 32] [.int 0,.none]) (aN6:fC D.K (gC D.K 47) F0 4 0 [] [.none]) (aN7:fC D.K (gC D.K 47) F0 4 1 [an 32] []) (aN8:fC D.K (gC D.K 47) F0 3 1 [an 32] [.none]) (b54:fC D.K (gC D.K 54) aC8 2 0 [] []) (b61:fC D.K (gC D.K 61) aC9 1 0 [] []) (b75:fC D.K (gC D.K 75) aDA 2 0 [] []) (b82:fC D.K (gC D.K 82) aDB 1 0 [] []) (b89:fC D.K (gC D.K 89) aDC 1 0 [] []) (b96:fC D.K (gC D.K 96) aDD 2 0 [] []) (aN9:fC D.K (gC D.K 258) RK 2 0 [] []) (aOA:fC D.K (gC D.K 263) RL 2 0 [] []) (aOB:fC D.K (gC D.K 270) RO 1 0 [] []) (aOC:fC D.K (gC D.K 275) RP 1 0 [] []) (aOD:fC D.K (gC D.K 282) RQ 2 0 [] []) (aOE:fC D.K (gC D.K 287) RR 4 0 [] []) (aOF:fC D.K (gC D.K 292) LE 7 0 [] []) (aOG:fC D.K (gC D.K 299) RS 1 0 [] []) (aNJ:(gC D.K 270).code= .ref 269∧uN D.K 269 265=true) (aNK:(gC D.K 282).code= .ref 281∧uN D.K 281 277=true∧(gC D.K 282).qualname="_law_least") (aNL:(gC D.K 287).code= .ref 286∧uN D.K 286 284=true∧(gC D.K 287).qualname="_law_placed") (aOH:RC (gC D.K 244) RJ 3) (gl:Al (GR D) GT) (met:Al (λ(z:cI×Str) f=>xT D.K (.ref z.1) z.2 (.ref f)) WM) (att:Al (λ(z:cI×Str) (_:Unit)=>BG D.K z.1∧nH D.K (.ref z.1) z.2=some none∧takerIn D.K z.1 z.2=some none) WN) (bnd:Al (λ(z:cI×Str) f=>KG D.K z.1 z.2 f) WO) (cls:Al (yD D.K) WP) (pat:Al (λp b=>YY D p (cond b sR n5)) aDG)
section
variable {D:WD}
theorem wS.of{fd:cN}{c T l:Nat}{q:Str}(h:fd.code= .ref c∧uN D.K c T=true∧fd.qualname=q):wS D fd (some ⟨c,T,q++".<locals>."++"<lambda>",l⟩):=λz e=>by
 obtain rfl:=aD e
 refine u3 h λa b d=>?_
 exact⟨a,b,by rw[d]⟩
theorem Wld.B7(O:Wld D){l:Nat}:wS D (gC D.K 282) (some ⟨281,277,pO,l⟩):=wS.of O.43
theorem Wld.LG(O:Wld D){l:Nat}:wS D (gC D.K 287) (some ⟨286,284,uB,l⟩):=wS.of O.44
end
section
variable {D:WD}
inductive k7(D:WD):List (cI×Nat×Fx)->Prop
 | nil:k7 D []
 | cons {a k fx l}:kB D a k fx->k7 D l->k7 D ((a,k,fx)::l)
theorem k7.at{l:List (cI×Nat×Fx)}(h:k7 D l){a k fx}(e:l.lookup a=some (k,fx)):kB D a k fx:=by
 induction h with
 | nil=>exact bK e
 | @cons b j g l c _ ih=>
  rw[dA] at e
  cases q:a==b with
  | true=>rw[q] at e;cases e;obtain rfl:=eq_of_beq q;exact c
  | false=>rw[q] at e;exact ih e
theorem Wld.tb(O:Wld D){fns IV lam}(h:k7 D fns):VO D (sS fns IV lam):=⟨λ_ _ _ e=>h.at e,λC x f e=>O.47.at e,λC x e=>O.48.at e,λC x f e=>O.49.at e,λC f e=>O.50.at e,λp b e=>O.51.at e⟩
theorem aDI{fns}:NM D (sS fns [] none):=⟨λ_ _ _ e=>(nomatch e),λ_ e=>(nomatch e)⟩
theorem Wld.env(O:Wld D){fns}(h:k7 D fns):AT D GT (sS fns [] none):=⟨λy b e=>O.46.at e,O.tb h,aDI⟩
theorem kB.s{a need:Nat}{ns:fF}{ir:S}{fx:Fx}(F:r8 D a ns ir)(h:∀{n as kn ks H Q},need≤n->(fx as kn ks H).post Q NoE->Bx (fS D (n+1) HN a as kn ks H Q)):kB D a (need+1) fx:=⟨
 (⟨_,_,_,F.1⟩),
 (λ{n as kn ks H Q} hn q=>by
  cases n with
  | zero=>exact absurd hn (vK _)
  | succ n=>exact h (tE hn) q)⟩
noncomputable def nk(kn:List Str)(ks:List aA)(r:R (List Pc) aA):R (List Pc) aA:=hZ (kn.isEmpty && ks.isEmpty) r
theorem nk_{kn:List Str}{ks:List aA}{r:R (List Pc) aA}{Q:aA->List Pc->Prop}{P:List Str->List aA->Prop}(h:(nk kn ks r).post Q NoE)(f:r.post Q NoE->P [] []):P kn ks:=dM h λc h=>by
 refine d5 (V1 c) λu5 dF=>?_;subst u5;subst dF
 exact f h
end
theorem RV{b:Bool}(h:(!b)=true):b=false:=not_true h
theorem mN{j n:Nat}(h:j < n):sO (j:Int) n=some j:=by
 unfold sO
 rw[decide_eq_true (b6 j),decide_eq_true (lA.mpr h)]
 rfl
theorem DC{j:Nat}(h:j≤1000000):Sm (j:Int):=⟨pJ (by decide) (b6 j),iA (fD.mpr h) (by decide)⟩
theorem RW{n:Nat}:sO (-1) (n+1)=some n:=by
 unfold sO
 rw[decide_eq_false (by decide:¬(0:Int)≤-1),show(-1:Int)+((n+1:Nat):Int)=(n:Int) from(Int.add_comm _ _).trans (Int.add_sub_cancel (n:Int) 1),decide_eq_true (b6 n)];rfl
noncomputable def sW(F:lZ->Prop):Fx:=λas kn ks H=>.ask λw=>match w with
 | .lG z=>.ob (F z∧as=z.as∧kn=z.kn∧ks=z.ks∧H=z.H) (.ok z.r z.H')
 | _=>.no
theorem jN{F:lZ->Prop}{z:lZ}(h:F z):F z∧z.as=z.as∧z.kn=z.kn∧z.ks=z.ks∧z.H=z.H:=⟨h,rfl,rfl,rfl,rfl⟩
theorem TP{D:WD}{a need:Nat}{ns:fF}{ir:S}{F:lZ->Prop}(f:r8 D a ns ir)(h:∀{n z},need≤n->F z->Bx (fS D (n+1) HN a z.as z.kn z.ks z.H (λr H'=>r=z.r∧H'=z.H'))):kB D a (need+1) (eO (sW F)):=FZ.fr ⟨⟨_,_,_,f.1⟩,(kB.s (need:=need) (fx:=sW F) f λ{n as kn ks H Q} hn q=>pN q λw q=>by
 cases w <;> first | exact q.elim | skip
 exact jZ q λp hq=>by
  obtain⟨p,rfl,rfl,rfl,rfl⟩:=p
  exact⟨fS.mono (h hn p).1 λr H' e=>by obtain⟨rfl,rfl⟩:=e;exact hq⟩).2⟩
structure kW where
 uT:cN
 qS:Str
 oZ:cN
noncomputable abbrev OM:List Nat:=[10,9,13,32]
noncomputable abbrev eG(c:Nat):aA:=.str [c]
noncomputable abbrev jO(X:kW)(pend:List (List Nat))(signs:List Nat)(ln:Nat):List Pc:=
 [.inst 99 1,.ns [(an 26,.int ln),(an 27,.aO 2),(an 28,.str OM),(an 29,.aO 9)],.tG X.uT 3 (some 4),.pC X.qS,.ns [(an 24,.aO 5)],.HP X.oZ "signs" 6 8 none,.rC (.aO 7),.lst (signs.map eG),.pC X.oZ.qualname,.lst (pend.map .str)]
noncomputable abbrev eRd:E:=((pG.nt 2).es.getD 1 .nil).c 0
noncomputable abbrev NR:fF:=[("size",.local),("signs",.free)]
noncomputable abbrev aH2:xP:=⟨NR,(eD (NR.map (·.1)) eRd).e,"signs",["size"]⟩
inductive eI(X:kW):Prop where
 | mk (lam:EG aH2 X.oZ.qualname X.oZ)
noncomputable abbrev xRd(cp:List Nat):Cx:=⟨NR,0,cp,GT,false,true,sS [] [] none,1000000,none⟩
section
variable {D:WD} {X:kW} {pend:List (List Nat)} {signs:List Nat} {ln:Nat} {cp:List Nat}
theorem rd1:gd ((ev eRd (xRd cp)).e ⟨[some (.int 1),some (.aO 0)],[.lst []]⟩) (.str []) ⟨[some (.int 1),some (.aO 0)],[.lst []]⟩:=R.leaf [] (kU (cO _:([]:List aA).length≤1000000)) ⋯
theorem rd2(c:Nat)(r:List Nat)(hz:((c::r).map eG).length≤1000000):gd ((ev eRd (xRd cp)).e ⟨[some (.int 1),some (.aO 0)],[.lst ((c::r).map eG)]⟩) (.str [c]) ⟨[some (.int 1),some (.aO 0)],[.lst (r.map eG)]⟩:=
 R.leaf [.s,.item 0 (eG c)] (vC hz hz (show sO 0 ((c::r).map eG).length=some 0∧((c::r).map eG)[0]? =some (eG c) from⟨mN (j:=0) (j2 _),rfl⟩)) ⋯
theorem rd3(hz:signs.length≤1000000):gd ((ev eRd (xRd cp)).e ⟨[some (.int 1),some (.aO 0)],[.lst (signs.map eG)]⟩) (.str (signs.take 1)) ⟨[some (.int 1),some (.aO 0)],[.lst (signs.tail.map eG)]⟩:=by
 cases signs with
 | nil=>exact rd1
 | cons c r=>exact rd2 c r (by rw[aG];exact hz)
noncomputable abbrev zRd(X:kW)(pend:List (List Nat))(signs:List Nat)(ln:Nat):lZ:={ as:=[.aO 5,.int 1],H:=jO X pend signs ln,r:=.str (signs.take 1),H':=jO X pend signs.tail ln }
inductive RdS:lZ->Prop
 | mk (X:kW) (L:eI X) (pend:List (List Nat)) (signs:List Nat) (ln:Nat) (hz:signs.length≤1000000):RdS (zRd X pend signs ln)
noncomputable def WQ(ls as:List aA)(H:List Pc):R (List Pc) aA:=sW RdS (ls++as) [] [] H
theorem aLO(O:Wld D)(L:eI X)(hz:signs.length≤1000000){n:Nat}:Bx (u7 D (n+1) HN (.aO 5) [.int 1] [] [] (jO X pend signs ln) (λr H'=>r= .str (signs.take 1)∧H'=jO X pend signs.tail ln)):=by
 refine⟨u7.lam (hd:=HN) (L:=aH2) (q:=X.oZ.qualname) (σ:=[7]) (τ:=[]) (b:=.aO 7) (Q0:=λr H1=>r= .str (signs.take 1)∧H1= [.lst (signs.tail.map eG)]) (.inr ⟨_,L.1,rfl⟩) rfl rfl rfl rfl rfl rfl rfl ?_ ?_⟩
 ·refine⟨[some (.int 1),some (.aO 0)], ?_,λC' h1 h2 (h3:C'.ns=NR) h4=>?_⟩
  ·intro i y k a e1 e2
   cases i with
   | zero=>cases e1;cases e2;exact .inl ⟨rfl,rfl⟩
   | succ i=>cases i with
    | zero=>cases e1;cases e2;exact .inr (.inr ⟨rfl,rfl,rfl⟩)
    | succ i=>exact fA e2
  ·have O':iZ C' (xRd C'.cp):=⟨h3,cO _,rfl,λY=>h4,eV,h1.symm▸λy b e=>O.46.at e,λi y k Y e=>aC7 (db:=1000000) (ns:=NR) ⋯ i y k (by
     cases i with
     | zero=>rfl
     | succ i=>cases i with
      | zero=>rfl
      | succ i=>rw[h3] at e;exact fA e) (h3▸e),h1.symm▸O.tb .nil,h1.symm▸aDI,λ_ e=>nomatch e⟩
   show Ev C' (eD (NR.map (·.1)) eRd).e ⟨[some (.int 1),some (.aO 0)],[.lst (signs.map eG)]⟩ (λr bW=>r= .str (signs.take 1)∧bW.H= [.lst (signs.tail.map eG)]) eE
   intro A g ρ s
   exact((gA eRd C' _ O').1 ((rd3 hz).post (Q:=λr bW=>r= .str (signs.take 1)∧bW.H= [.lst (signs.tail.map eG)]) ⟨rfl,rfl⟩)).1
 ·rintro r H1 ⟨rfl,rfl⟩
  exact⟨rfl,rfl,rfl⟩
theorem aLP(O:Wld D){fns}:NM D (sS fns [] (some WQ)):=⟨λY Y Y e=>(nomatch e),λfx e=>by
 obtain rfl:=aD e
 intro n l as H Q hn h
 exact pN h λw h=>by
  cases w <;> first | exact h.elim | skip
  exact jZ h λp hq=>by
   refine aAE p λF e1 e2 e3 e4=>?_
   obtain⟨X,L,pend,signs,ln,hz⟩:=F
   cases e1
   subst e4
   cases n with
   | zero=>exact absurd hn (by decide)
   | succ n=>
    refine⟨λw hh hf hv hw=>((aLO O (pend:=pend) (ln:=ln) L hz (n:=n)).1 w hh hf hv hw).imp id λq=>bM q (λx s' p=>?_) λY Y e=>e⟩
    obtain⟨le,r,o,q⟩:=p
    refine d5 q λu5 dF=>?_;subst u5;subst dF;exact .mk le r o hq⟩
theorem Wld.WR(O:Wld D){fns}(h:k7 D fns):AT D GT (sS fns [] (some WQ)):=⟨λy b e=>O.46.at e,O.tb h,aLP O⟩
end
theorem dv(j:Nat)(h:(dT 0 j && dT j 10000000000)=true):0 < j∧j < 10000000000:=⟨t8 (aP h),t8 (aQ h)⟩
noncomputable def y4(lt:Nat->Bool)(l a1 a2:Nat):Nat:=
 Nat.rec (motive:=λ_=>Nat->Nat->Nat) (λlo _=>lo) (λ_ ih lo hi=>cond (decide ((lo:Int) < hi)) (cond (lt ((lo+hi) / 2)) (ih ((lo+hi) / 2+1) hi) (ih lo ((lo+hi) / 2))) lo) l a1 a2
theorem LH(lt:Nat->Bool)(k lo hi:Nat):y4 lt (k+1) lo hi=cond (decide ((lo:Int) < hi)) (cond (lt ((lo+hi) / 2)) (y4 lt k ((lo+hi) / 2+1) hi) (y4 lt k lo ((lo+hi) / 2))) lo:=rfl
theorem y5{lo hi n:Nat}(h:lo < hi)(k:hi≤n):(lo+hi) / 2 < n:=bR (vL (Nat.two_mul hi▸nZ h hi)) k
theorem RX{lo hi:Nat}(h:lo≤hi):lo≤(lo+hi) / 2:=(Nat.le_div_iff_mul_le (by decide)).mpr ((Nat.mul_two lo).symm▸bI h lo)
theorem aDJ{t:aK->R aK Bool}{b:aK->R aK bU}{lt:Nat->Bool}{N:Nat}(st:Nat->Nat->Option aA->aK)(hT:∀lo hi mo,gd (t (st lo hi mo)) (decide ((lo:Int) < hi)) (st lo hi mo))
  (hB:∀lo hi mo,lo < hi->hi≤N->gd (b (st lo hi mo)) .next (cond (lt ((lo+hi) / 2)) (st ((lo+hi) / 2+1) hi (some (.int ((lo+hi) / 2:Nat)))) (st lo ((lo+hi) / 2) (some (.int ((lo+hi) / 2:Nat)))))) (k:Nat):
  ∀(fuel lo hi:Nat) (mo:Option aA),hi≤lo+k->k < fuel->hi≤N->∃hi' mo',gd (QW t b fuel (st lo hi mo)) .next (st (y4 lt k lo hi) hi' mo'):=by
 induction k with
 | zero=>
  intro fuel lo hi mo h1 h2 h3
  cases fuel with
  | zero=>exact absurd h2 (lR _)
  | succ f=>exact⟨_,_,dP (hT lo hi mo) (aHY (decide_eq_false (lC.mpr (fD.mpr h1))) AU)⟩
 | succ k ih=>
  intro fuel lo hi mo h1 h2 h3
  cases fuel with
  | zero=>exact absurd h2 (lR _)
  | succ f=>
   rw[LH]
   cases c:decide ((lo:Int) < hi) with
   | false=>exact⟨_,_,dP (hT lo hi mo) (aHY c AU)⟩
   | true=>
    have hl:lo < hi:=lA.mp (of_decide_eq_true c)
    have B:=hB lo hi mo hl h3
    have f1:=g8 h2
    cases d:lt ((lo+hi) / 2) with
    | true=>
     rw[d] at B
     refine kG (ih f ((lo+hi) / 2+1) hi (some (.int ((lo+hi) / 2:Nat))) (aB h1 (aB (bD (RX (dY hl)) (k+1)) (cC (zS _ 1 k).symm))) f1 h3) λa b g=>?_
     exact⟨a,b,dP (hT lo hi mo) (aHX c (dP B g))⟩
    | false=>
     rw[d] at B
     refine kG (ih f lo ((lo+hi) / 2) (some (.int ((lo+hi) / 2:Nat))) (Nat.le_of_lt_succ (vL ((Nat.two_mul _).symm▸Nat.add_lt_add_of_lt_of_le (jA (aW lo k)) h1))) f1 (aB (Nat.div_le_of_le_mul ((Nat.two_mul hi).symm▸bD (dY hl) hi)) h3)) λa b g=>?_
     exact⟨a,b,dP (hT lo hi mo) (aHX c (dP B g))⟩
noncomputable def S.cK(s:S):E:=((s.p8.c 1).c 0)
noncomputable def E.el1(e:E):E:=((((e.c 0).c 1).c 0).c 0)
noncomputable abbrev E.kb(e:E):E:=e.c 0
noncomputable abbrev E.ks(e:E):iF:=e.sc
noncomputable abbrev RY:E:=((yZ.nt 2).th.nt 3).cK
noncomputable abbrev RZ:E:=((LD.nt 0).th.nt 1).p8.el1
noncomputable abbrev GB:xP:=VX RY.ks RY.kb ("low","behind")
noncomputable abbrev NS:xP:=VX RZ.ks RZ.kb ("row","n")
noncomputable abbrev bL(l:List (List Nat)):Pc:=.lst (l.map .str)
noncomputable abbrev AX(rows behind:List (List Nat)):List Pc:=[bL rows,.wI GB pO 2 4,.rC (.aO 3),bL behind,.pC pO]
noncomputable abbrev GC(rows:List (List Nat))(n:Nat):List Pc:=[bL rows,.wI NS uB 2 3,.rC (.int n),.pC uB]
noncomputable abbrev aDK:fF:=[("low",.local),("behind",.free)]
noncomputable abbrev aDL:fF:=[("row",.local),("n",.free)]
noncomputable abbrev xKy(ns:fF)(cp:List Nat):Cx:=⟨ns,0,cp,GT,false,true,sS [] [] none,1000000,none⟩
section
variable {D:WD} {rows behind:List (List Nat)} {low:List Nat} {n:Nat} {cp:List Nat}
theorem ky1(ha:asc low=true)(hz:low.length≤1000000):gd ((ev RY.kb (xKy aDK cp)).e ⟨[some (.str low),some (.aO 0)],[bL behind]⟩) (.bool (behind.any (· ==w9 low))) ⟨[some (.str low),some (.aO 0)],[bL behind]⟩:=R.leaf [.strs behind] (vC ha hz (rfl:behind.map aA.str=behind.map aA.str)) ⋯
theorem ky2(hz:low.length≤1000000):gd ((ev RZ.kb (xKy aDL cp)).e ⟨[some (.str low),some (.int n)],[]⟩) (.str (iX low none (some (n:Int)) none)) ⟨[some (.str low),some (.int n)],[]⟩:=R.leaf [] (kU hz) ⋯
theorem initK{x:Str}{b c:aA}{y:Str}:YV D x b [(y,.local),(x,.free)] [c] [some c,some b]:=by
 intro i y k a e1 e2
 cases i with
 | zero=>cases e1;cases e2;exact .inl ⟨rfl,rfl⟩
 | succ i=>cases i with
  | zero=>cases e1;cases e2;exact .inr (.inr ⟨rfl,rfl,rfl⟩)
  | succ i=>exact fA e2
theorem okK(O:Wld D){ns:fF}(hs:ndB ns 1000000=true){C':Ctx}(hl:ns.length=2)(h1:C'.D=D)(h3:C'.ns=ns)(h4:C'.hd=none):iZ C' (xKy ns C'.cp):=⟨h3,cO _,rfl,λY=>h4,eV,h1.symm▸λy b e=>O.46.at e,λi y k Y e=>aC7 hs i y k (by
  have hi:i < ns.length:=by have e:ns[i]? =some (y,k):=h3▸e;exact(aF.mp e).1
  rw[hl] at hi
  cases i with
  | zero=>rfl
  | succ i=>cases i with
   | zero=>rfl
   | succ i=>exact absurd hi (by omega)) (h3▸e),h1.symm▸O.tb .nil,h1.symm▸aDI,λ_ e=>nomatch e⟩
theorem aDM(O:Wld D)(ha:asc low=true)(hz:low.length≤1000000){n:Nat}:Bx (u7 D (n+1) HN (.aO 1) [.str low] [] [] (AX rows behind) (λr H'=>r= .bool (behind.any (· ==w9 low))∧H'=AX rows behind)):=by
 refine⟨u7.lam (hd:=HN) (L:=GB) (q:=pO) (σ:=[3]) (τ:=[]) (b:=.aO 3) (Q0:=λr H1=>r= .bool (behind.any (· ==w9 low))∧H1= [bL behind]) (.inl rfl) rfl rfl rfl rfl rfl ⋯ rfl ?_ ?_⟩
 ·refine⟨[some (.str low),some (.aO 0)],initK,λC' h1 h2 (h3:C'.ns=aDK) h4=>?_⟩
  show Ev C' (eD (aDK.map (·.1)) RY.kb).e ⟨[some (.str low),some (.aO 0)],[bL behind]⟩ (λr bW=>r= .bool (behind.any (· ==w9 low))∧bW.H= [bL behind]) eE
  intro A g ρ s
  exact((gA RY.kb C' _ (okK O ⋯ rfl h1 h3 h4)).1 ((ky1 ha hz).post (Q:=λr bW=>r= .bool (behind.any (· ==w9 low))∧bW.H= [bL behind]) ⟨rfl,rfl⟩)).1
 ·rintro r H1 ⟨rfl,rfl⟩
  exact⟨rfl,rfl,rfl⟩
theorem aDN(O:Wld D){k:Nat}(hz:low.length≤1000000){n:Nat}:Bx (u7 D (n+1) HN (.aO 1) [.str low] [] [] (GC rows k) (λr H'=>r= .str (iX low none (some (k:Int)) none)∧H'=GC rows k)):=by
 refine⟨u7.lam (hd:=HN) (L:=NS) (q:=uB) (σ:=[]) (τ:=[]) (b:=.int k) (Q0:=λr H1=>r= .str (iX low none (some (k:Int)) none)∧H1= []) (.inl rfl) rfl rfl rfl rfl rfl ⋯ rfl ?_ ?_⟩
 ·refine⟨[some (.str low),some (.int k)],initK,λC' h1 h2 (h3:C'.ns=aDL) h4=>?_⟩
  show Ev C' (eD (aDL.map (·.1)) RZ.kb).e ⟨[some (.str low),some (.int k)],[]⟩ (λr bW=>r= .str (iX low none (some (k:Int)) none)∧bW.H= []) eE
  intro A g ρ s
  exact((gA RZ.kb C' _ (okK O ⋯ rfl h1 h3 h4)).1 ((ky2 hz).post (Q:=λr bW=>r= .str (iX low none (some (k:Int)) none)∧bW.H= []) ⟨rfl,rfl⟩)).1
 ·rintro r H1 ⟨rfl,rfl⟩
  exact⟨rfl,rfl,rfl⟩
end
noncomputable abbrev aDO(rows behind:List (List Nat))(low:List Nat):lZ:={ as:=[.aO 1,.str low],H:=AX rows behind,r:=.bool (behind.any (· ==w9 low)),H':=AX rows behind }
noncomputable abbrev aDP(rows:List (List Nat))(n:Nat)(low:List Nat):lZ:={ as:=[.aO 1,.str low],H:=GC rows n,r:=.str (iX low none (some (n:Int)) none),H':=GC rows n }
inductive R0:lZ->Prop
 | low (rows behind:List (List Nat)) (low:List Nat) (ha:asc low=true) (hz:low.length≤1000000):R0 (aDO rows behind low)
 | pre (rows:List (List Nat)) (n:Nat) (low:List Nat) (hz:low.length≤1000000):R0 (aDP rows n low)
noncomputable def fxK(ls as:List aA)(H:List Pc):R (List Pc) aA:=sW R0 (ls++as) [] [] H
theorem raK{D:WD}(O:Wld D){fns}:NM D (sS fns [] (some fxK)):=⟨λY Y Y e=>(nomatch e),λfx e=>by
 obtain rfl:=aD e
 intro n l as H Q hn h
 exact pN h λw h=>by
  cases w <;> first | exact h.elim | skip
  exact jZ h λp hq=>by
   refine aAE p λF e1 e2 e3 e4=>?_
   have mv:∀{l:Nat} {as:List aA} {H H':List Pc} {r:aA},Q r H'->Bx (u7 D n HN (.aO l) as [] [] H (λr' H''=>r'=r∧H''=H'))->Bx (u7 D n HN (.aO l) as [] [] H Q):=λhq c=>⟨λw hh hf hv hw=>(c.1 w hh hf hv hw).imp id λq=>bM q (λx s' p=>by
    obtain⟨le,r,o,q⟩:=p
    refine d5 q λu5 dF=>?_;subst u5;subst dF;exact .mk le r o hq) λY Y e=>e⟩
   cases n with
   | zero=>exact absurd hn (by decide)
   | succ n=>
    cases F with
    | low rows behind low ha hz=>cases e1;subst e4;exact mv hq (aDM O ha hz)
    | pre rows k low hz=>cases e1;subst e4;exact mv hq (aDN O hz)⟩
theorem Wld.aDQ{D:WD}(O:Wld D){fns}(h:k7 D fns):AT D GT (sS fns [] (some fxK)):=⟨λy b e=>O.46.at e,O.tb h,raK O⟩
noncomputable abbrev WS:Cx:=D6 F0 1 GT (sS [] [] (some fxK))
noncomputable abbrev ZX(H:List Pc)(x:aA)(k:aA)(lo:Int)(hi mid:Option aA):aK:=⟨[some (.aO 0),some x,some (.int lo),hi,some k,mid,some (.typ "ValueError"),some (.blt "len")],H⟩
noncomputable abbrev wT:S:=(I8.nt 2).th.nt 0
noncomputable abbrev wK:S:=(I8.nt 2).el.nt 0
theorem JC{rows:List (List Nat)}{j:Nat}(hm:j < rows.length)(hz:rows.length≤1000):sO (j:Int) (rows.map aA.str).length=some j∧(rows.map aA.str)[j]? =some (.str (rows.getD j []))∧Sm (j:Int):=
 ⟨mN (by rw[aG];exact hm),by rw[bX,bO,aY hm];rfl,DC (aB (dY hm) (aB hz (by decide)))⟩
section
variable {rows behind:List (List Nat)} {x:List Nat} {n:Nat}
noncomputable abbrev mT(rows:List (List Nat))(x:List Nat)(lo hi:Nat)(mo:Option aA):aK:=ZX [bL rows] (.str x) .none lo (some (.int hi)) mo
noncomputable def ltT(rows:List (List Nat))(x:List Nat)(j:Nat):Bool:=decide (rows.getD j [] < x)
theorem bT1(lo hi:Nat)(mo:Option aA):gd ((ev wT.p8 WS).t (mT rows x lo hi mo)) (decide ((lo:Int) < hi)) (mT rows x lo hi mo):=R.leaf [] trivial ⋯
theorem bT2(hz:rows.length≤1000)(lo hi:Nat)(mo:Option aA)(h:lo < hi)(hk:hi≤rows.length):gd ((sv wT.th WS).k (mT rows x lo hi mo)) .next (cond (ltT rows x ((lo+hi) / 2)) (mT rows x ((lo+hi) / 2+1) hi (some (.int ((lo+hi) / 2:Nat)))) (mT rows x lo ((lo+hi) / 2) (some (.int ((lo+hi) / 2:Nat))))):=by
 have o:=JC (y5 h hk) hz
 cases c:ltT rows x ((lo+hi) / 2) with
 | true=>exact R.leaf [.item ((lo+hi) / 2) (.str (rows.getD ((lo+hi) / 2) [])),.y] (vC (dv 2 rfl) o c) ⋯
 | false=>exact R.leaf [.item ((lo+hi) / 2) (.str (rows.getD ((lo+hi) / 2) [])),.n] (vC (dv 2 rfl) o c) ⋯
theorem ge0{lo:Nat}:decide ((lo:Int) < 0)=false:=decide_eq_false (lC.mpr (b6 lo))
theorem bT3(hz:rows.length≤1000)(lo hi:Nat)(hk:hi≤rows.length):∃h m,((sv I8 WS).k (mT rows x lo hi none)).good (.ok (.ret (.int (y4 (ltT rows x) hi lo hi))) (ZX [bL rows] (.str x) .none (y4 (ltT rows x) hi lo hi) h m)):=by
 refine kG (aDJ (mT rows x) bT1 (bT2 hz) hi fuel lo hi none (fO _ _) (bA (aB hk hz) (by decide)) hk) λa b g=>?_
 exact⟨some (.int a),b,oY 2 (s1:=mT rows x lo hi none) (R.leaf [.n] (kU (ge0 (lo:=lo))) ⋯) (rH (RT ⋯ (R.leaf (o:=.ok true (mT rows x lo hi none)) [] trivial ⋯) (mE (aDE ⋯ g) ⋯)) (R.leaf [] trivial ⋯))⟩
noncomputable abbrev mP(rows:List (List Nat))(n:Nat)(x:List Nat)(lo hi:Nat)(mo:Option aA):aK:=ZX (GC rows n) (.str x) (.aO 1) lo (some (.int hi)) mo
noncomputable def ltP(rows:List (List Nat))(n:Nat)(x:List Nat)(j:Nat):Bool:=decide (iX (rows.getD j []) none (some (n:Int)) none < x)
def Sma(rows:List (List Nat)):Prop:=∀j,(rows.getD j []).length≤1000000
theorem bP1(lo hi:Nat)(mo:Option aA):gd ((ev wK.p8 WS).t (mP rows n x lo hi mo)) (decide ((lo:Int) < hi)) (mP rows n x lo hi mo):=R.leaf [] trivial ⋯
theorem bP2(hr:Sma rows)(hz:rows.length≤1000)(lo hi:Nat)(mo:Option aA)(h:lo < hi)(hk:hi≤rows.length):gd ((sv wK.th WS).k (mP rows n x lo hi mo)) .next (cond (ltP rows n x ((lo+hi) / 2)) (mP rows n x ((lo+hi) / 2+1) hi (some (.int ((lo+hi) / 2:Nat)))) (mP rows n x lo ((lo+hi) / 2) (some (.int ((lo+hi) / 2:Nat))))):=by
 have o:=JC (y5 h hk) hz
 have z:=jN (R0.pre rows n (rows.getD ((lo+hi) / 2) []) (hr _))
 cases c:ltP rows n x ((lo+hi) / 2) with
 | true=>exact R.leaf [.item ((lo+hi) / 2) (.str (rows.getD ((lo+hi) / 2) [])),.lG (aDP rows n (rows.getD ((lo+hi) / 2) [])),.y] (yK (dv 2 rfl) o z c) ⋯
 | false=>exact R.leaf [.item ((lo+hi) / 2) (.str (rows.getD ((lo+hi) / 2) [])),.lG (aDP rows n (rows.getD ((lo+hi) / 2) [])),.n] (yK (dv 2 rfl) o z c) ⋯
theorem bP3(hr:Sma rows)(hz:rows.length≤1000)(lo hi:Nat)(hk:hi≤rows.length):∃h m,((sv I8 WS).k (mP rows n x lo hi none)).good (.ok (.ret (.int (y4 (ltP rows n x) hi lo hi))) (ZX (GC rows n) (.str x) (.aO 1) (y4 (ltP rows n x) hi lo hi) h m)):=by
 refine kG (aDJ (mP rows n x) bP1 (bP2 hr hz) hi fuel lo hi none (fO _ _) (bA (aB hk hz) (by decide)) hk) λa b g=>?_
 exact⟨some (.int a),b,oY 2 (s1:=mP rows n x lo hi none) (R.leaf [.n] (kU (ge0 (lo:=lo))) ⋯) (rH (LF ⋯ (R.leaf (o:=.ok false (mP rows n x lo hi none)) [] trivial ⋯) (mE (aDE ⋯ g) ⋯)) (R.leaf [] trivial ⋯))⟩
noncomputable abbrev WT(rows behind:List (List Nat))(lo hi:Nat)(mo:Option aA):aK:=ZX (AX rows behind) (.bool true) (.aO 1) lo (some (.int hi)) mo
noncomputable def ZY(rows behind:List (List Nat))(j:Nat):Bool:=!(behind.any (· ==w9 (rows.getD j []))) && true
def Asc(rows:List (List Nat)):Prop:=∀j,asc (rows.getD j [])=true∧(rows.getD j []).length≤1000000
theorem bL1(lo hi:Nat)(mo:Option aA):gd ((ev wK.p8 WS).t (WT rows behind lo hi mo)) (decide ((lo:Int) < hi)) (WT rows behind lo hi mo):=R.leaf [] trivial ⋯
theorem bL2(hr:Asc rows)(hz:rows.length≤1000)(lo hi:Nat)(mo:Option aA)(h:lo < hi)(hk:hi≤rows.length):gd ((sv wK.th WS).k (WT rows behind lo hi mo)) .next (cond (ZY rows behind ((lo+hi) / 2)) (WT rows behind ((lo+hi) / 2+1) hi (some (.int ((lo+hi) / 2:Nat)))) (WT rows behind lo ((lo+hi) / 2) (some (.int ((lo+hi) / 2:Nat))))):=by
 have o:=JC (y5 h hk) hz
 have z:=jN (R0.low rows behind (rows.getD ((lo+hi) / 2) []) (hr _).1 (hr _).2)
 cases c:ZY rows behind ((lo+hi) / 2) with
 | true=>exact R.leaf [.item ((lo+hi) / 2) (.str (rows.getD ((lo+hi) / 2) [])),.lG (aDO rows behind (rows.getD ((lo+hi) / 2) [])),.y] (yK (dv 2 rfl) o z c) ⋯
 | false=>exact R.leaf [.item ((lo+hi) / 2) (.str (rows.getD ((lo+hi) / 2) [])),.lG (aDO rows behind (rows.getD ((lo+hi) / 2) [])),.n] (yK (dv 2 rfl) o z c) ⋯
theorem bL3(hr:Asc rows)(hz:rows.length≤1000):∃h m,((sv I8 WS).k (ZX (AX rows behind) (.bool true) (.aO 1) 0 (some .none) none)).good (.ok (.ret (.int (y4 (ZY rows behind) rows.length 0 rows.length))) (ZX (AX rows behind) (.bool true) (.aO 1) (y4 (ZY rows behind) rows.length 0 rows.length) h m)):=by
 refine kG (aDJ (WT rows behind) bL1 (bL2 hr hz) rows.length fuel 0 rows.length none (fO _ _) (bA hz (by decide)) (aZ _)) λa b g=>?_
 have e:ZX (AX rows behind) (.bool true) (.aO 1) 0 (some (.int (rows.map aA.str).length)) none=WT rows behind 0 rows.length none:=by rw[aG];rfl
 exact⟨some (.int a),b,oY 2 (s1:=WT rows behind 0 rows.length none) (e▸R.leaf [] (kU (a:=(rows.map aA.str).length≤1000000) (by rw[aG];exact aB hz (by decide))) ⋯) (rH (LF ⋯ (R.leaf (o:=.ok false (WT rows behind 0 rows.length none)) [] trivial ⋯) (mE (aDE ⋯ g) ⋯)) (R.leaf [] trivial ⋯))⟩
end
noncomputable abbrev zBl(rows behind:List (List Nat)):lZ:={ as:=[.aO 0,.bool true],kn:=[an 32],ks:=[.aO 1],H:=AX rows behind,r:=.int (y4 (ZY rows behind) rows.length 0 rows.length),H':=AX rows behind }
noncomputable abbrev zBp(rows:List (List Nat))(n:Nat)(x:List Nat)(lo hi:Nat):lZ:={ as:=[.aO 0,.str x,.int lo,.int hi],kn:=[an 32],ks:=[.aO 1],H:=GC rows n,r:=.int (y4 (ltP rows n x) hi lo hi),H':=GC rows n }
noncomputable abbrev zBt(rows:List (List Nat))(x:List Nat)(lo hi:Nat):lZ:={ as:=[.aO 0,.str x,.int lo,.int hi],H:=[bL rows],r:=.int (y4 (ltT rows x) hi lo hi),H':=[bL rows] }
inductive y6:lZ->Prop
 | low (rows behind:List (List Nat)) (hr:Asc rows) (hz:rows.length≤1000):y6 (zBl rows behind)
 | pre (rows:List (List Nat)) (n:Nat) (x:List Nat) (lo hi:Nat) (hr:Sma rows) (hz:rows.length≤1000) (hk:hi≤rows.length):y6 (zBp rows n x lo hi)
 | txt (rows:List (List Nat)) (x:List Nat) (lo hi:Nat) (hz:rows.length≤1000) (hk:hi≤rows.length):y6 (zBt rows x lo hi)
theorem aH3{D:WD}(O:Wld D):kB D 47 2 (eO (sW y6)):=TP O.5 λ{n z} hn h=>by
 cases h with
 | low rows behind hr hz=>
  refine kG (bL3 (behind:=behind) hr hz) λa b g=>?_
  exact O.5.run (k:=1) (O.aDQ .nil) ⋯ hn O.24 ⋯ g ⟨rfl,rfl⟩
 | pre rows k x lo hi hr hz hk=>
  refine kG (bP3 (n:=k) (x:=x) hr hz lo hi hk) λa b g=>?_
  exact O.5.run (k:=1) (O.aDQ .nil) ⋯ hn O.26 ⋯ g ⟨rfl,rfl⟩
 | txt rows x lo hi hz hk=>
  refine kG (bT3 (x:=x) hz lo hi hk) λa b g=>?_
  exact O.5.run (k:=1) (O.aDQ .nil) ⋯ hn O.25 ⋯ g ⟨rfl,rfl⟩
noncomputable abbrev E.a0(e:E):E:=(e.c 1).c 0
theorem R2{l:List (List Nat)}{j:Nat}(h:j < l.length)(hz:j≤1000000):sO (j:Int) (l.map aA.str).length=some j∧(l.map aA.str)[j]? =some (.str (l.getD j []))∧Sm (j:Int):=
 ⟨mN (by rw[aG];exact h),by rw[bX,bO,aY h];rfl,DC hz⟩
noncomputable def DD(st c:Nat):Bool:=(((st % 3:Nat):Int)==1) || (jR [32,10] [c] 0 2).isSome
noncomputable def iK(st c:Nat):List Nat:=cond (DD st c) [92,c] [c]
noncomputable def o5:List (List Nat):=[[],[98,46,99,46],[],[99,46]]
noncomputable def y7:List (List Nat):=[[],[],[58,46,32],[10,46]]
noncomputable def d6(n:Nat)(o:List Nat):List Nat:=o5.getD (n % 4) []++o++y7.getD (n % 4) []
noncomputable def JD(st:Nat)(w:List Nat):List Nat:=jn [] (w.map (iK st))
noncomputable def nM(st:Nat):Nat:=[10,32,9,13].getD (st / 3) 0
noncomputable def lN(n:Nat):Nat:=n / 4 % 12
noncomputable def vY(n:Nat)(o:List Nat):List Nat:=cond (((lN n % 3:Nat):Int) !=0) (JD (lN n) (d6 n o)) ([34]++d6 n o++ [34])++ [nM (lN n)]
noncomputable abbrev y8:Cx:=D6 RL 0 GT (sS [] [] none)
noncomputable abbrev AV:S:=RN.nt 1
noncomputable abbrev DF:E:=(AV.th.nt 2).p8.a0
noncomputable abbrev aH4:Cx:=y8.lI DF.sc
noncomputable abbrev mO(os:List (List Nat))(n:Nat)(ws:List (List Nat))(pg:List Nat)(o d s w r:Option aA)(G:List Pc):aK:=⟨[some (.aO 0),some (.int n),some (.aO 1),some (.str pg),o,d,s,w,r],[bL os,bL ws]++G⟩
noncomputable abbrev NU(os ws:List (List Nat))(st:Nat)(sg:Option aA)(acc:List (List Nat)):aK:=⟨[none,sg,some (.int st)],[bL os,bL ws,bL acc]⟩
section
variable {os ws acc:List (List Nat)} {st n:Nat} {pg:List Nat} {sg:Option aA}
theorem R3{α β:Type}{f:α->β}{l:List α}{a:α}:(l++ [a]).map f=l.map f++ [f a]:=cG
theorem pc1(c:Nat)(hz:(acc.map aA.str).length≤1000000):gd (m9 DF.tg DF.ifs DF.el aH4 2 (eG c) (NU os ws st sg acc)) () (NU os ws st (some (eG c)) (acc++ [iK st c])):=by
 unfold NU bL iK DD
 rw[R3]
 cases h1:(((st % 3:Nat):Int)==1) with
 | true=>exact R.leaf [.s,.s,.y,.y] (yK h1 h1 (by decide:2≤1000000) hz) ⋯
 | false=>cases h2:(jR [32,10] [c] 0 2).isSome with
  | true=>exact R.leaf [.s,.s,.n,.y] (yK h1 h2 (by decide:2≤1000000) hz) ⋯
  | false=>exact R.leaf [.s,.s,.n,.n] (vC h1 h2 hz) ⋯
theorem pc2(w:List Nat):∀(acc:List (List Nat)) (sg:Option aA),acc.length+w.length≤1000000->∃AY,gd (m8 (m9 DF.tg DF.ifs DF.el aH4 2) [] 3 (w.map eG) (NU os ws st sg acc)) () (NU os ws st AY (acc++w.map (iK st))):=by
 induction w with
 | nil=>exactλacc sg _=>⟨sg,by rw[show [].map (iK st)= [] from rfl,bQ];exact AU⟩
 | cons c r ih=>
  intro acc sg hz
  refine cD (ih (acc++ [iK st c]) (some (eG c)) (by rw[aE,m5,b9,cQ 1];exact hz)) λAY g=>?_
  rw[c4] at g
  exact⟨AY,dP (pc1 c (by rw[aG];exact aB (aW _ _) hz)) g⟩
theorem WU(st c:Nat):(iK st c).length≤2:=by
 unfold iK
 cases DD st c with
 | true=>exact aZ 2
 | false=>exact eW 1
theorem y9(st:Nat)(w:List Nat):kJ (w.map (iK st))≤w.length * 2:=by
 induction w with
 | nil=>exact aZ 0
 | cons c r ih=>exact aB (dD (WU st c) ih) (cC (by rw[eQ,Nat.succ_mul,cQ]))
theorem d4(n:Nat):n % 4 < 4:=jQ n (by decide)
theorem JE(n:Nat):(o5.getD (n % 4) []).length≤4:=by
 have:∀j < 4,(o5.getD j []).length≤4:=by decide
 exact this _ (d4 n)
theorem R4(n:Nat):(y7.getD (n % 4) []).length≤3:=by
 have:∀j < 4,(y7.getD j []).length≤3:=by decide
 exact this _ (d4 n)
theorem JF{n:Nat}{o:List Nat}(ho:o.length≤4):(d6 n o).length≤11:=by
 unfold d6
 rw[aE,aE]
 exact dD (dD (JE n) ho) (R4 n)
theorem aDR(n:Nat):lN n / 3 < 4:=vL (jQ _ (by decide))
theorem R5(n:Nat):(iW ((lN n / 3:Nat):Int) ([10,32,9,13]:List Nat).length).bind (([10,32,9,13]:List Nat)[·]?)=some (nM (lN n))∧(decide (((lN n / 3:Nat):Int) < -(2 ^ 63:Int)) || decide (((lN n / 3:Nat):Int)≥2 ^ 63))=false:=by
 unfold nM
 have:∀j < 4,(iW ((j:Nat):Int) ([10,32,9,13]:List Nat).length).bind (([10,32,9,13]:List Nat)[·]?)=some (([10,32,9,13]:List Nat).getD j 0)∧(decide (((j:Nat):Int) < -(2 ^ 63:Int)) || decide (((j:Nat):Int)≥2 ^ 63))=false:=by decide
 exact this _ (aDR n)
section
variable {o w:List Nat} {a b c d e:Option aA} {G:List Pc}
theorem ps0:gd ((sv (AV.th.nt 0) y8).s (mO os n ws pg (some (.str o)) a b c d G)) .next (mO os (n / 48) ws pg (some (.str o)) (some (.int (n % 4:Nat))) (some (.int (lN n))) c d G):=R.leaf [.s,.s] (oU (dv 4 rfl) (dv 48 rfl)) ⋯
theorem ps1(ho:o.length≤4){k:Nat}:gd ((sv (AV.th.nt 1) y8).s (mO os k ws pg (some (.str o)) (some (.int (n % 4:Nat))) b c d G)) .next (mO os k ws pg (some (.str o)) (some (.int (n % 4:Nat))) b (some (.str (d6 n o))) d G):=
 R.leaf [.item (n % 4) (.str (o5.getD (n % 4) [])),.item (n % 4) (.str (y7.getD (n % 4) []))] (yK (R2 (l:=o5) (d4 n) (aB (dY (d4 n)) (by decide))) (show(o5.getD (n % 4) []).length+o.length≤1000000 from aB (dD (JE n) ho) (by decide)) (R2 (l:=y7) (d4 n) (aB (dY (d4 n)) (by decide)))
  (show(o5.getD (n % 4) []++o).length+(y7.getD (n % 4) []).length≤1000000 by rw[aE];exact aB (dD (dD (JE n) ho) (R4 n)) (by decide))) ⋯
theorem ps2(hw:w.length≤11){k:Nat}:gd ((sv (AV.th.nt 2) y8).s (mO os k ws pg a b (some (.int st)) (some (.str w)) d [])) .next (mO os k ws pg a b (some (.int st)) (some (.str w)) (some (.str (JD st w))) [bL (w.map (iK st))]):=by
 refine cD (pc2 (os:=os) (ws:=ws) (st:=st) w [] none (by rw[dJ,cZ];exact aB hw (by decide))) λsg g=>?_
 have C:gd (WL DF y8 (mO os k ws pg a b (some (.int st)) (some (.str w)) d [])) (.aO 2) (mO os k ws pg a b (some (.int st)) (some (.str w)) d [bL (w.map (iK st))]):=
  mH (w:=DF) (st:=mO os k ws pg a b (some (.int st)) (some (.str w)) d []) (s2:=mO os k ws pg a b (some (.int st)) (some (.str w)) d []) (s3:=NU os ws st sg (w.map (iK st))) (a:=.str w) (ys:=w.map eG) (need:=[]) (R.leaf [] trivial ⋯) (λk q=>q) g
 have z:kJ (w.map (iK st))+(w.map (iK st)).length * ([]:List Nat).length≤1000000:=aB (dD (aB (y9 st w) (vM 2 hw)) (cC (Nat.mul_zero _))) (by decide)
 exact R.leaf [.cmp (.aO 2) (mO os k ws pg a b (some (.int st)) (some (.str w)) d [bL (w.map (iK st))]),.strs (w.map (iK st))] (vC C (rfl:(w.map (iK st)).map aA.str=(w.map (iK st)).map aA.str) z) ⋯
theorem ps3(hw:w.length≤11)(hr:(JD (lN n) w).length≤22)(hp:pg.length+30≤1000000){k:Nat}:gd ((sv (AV.th.nt 3) y8).s (mO os k ws pg a b (some (.int (lN n))) (some (.str w)) (some (.str (JD (lN n) w))) G)) .next
  (mO os k ws (pg++(cond (((lN n % 3:Nat):Int) !=0) (JD (lN n) w) ([34]++w++ [34])++ [nM (lN n)])) a b (some (.int (lN n))) (some (.str w)) (some (.str (JD (lN n) w))) G):=by
 cases c:(((lN n % 3:Nat):Int) !=0) with
 | true=>exact R.leaf [.s,.y,.nat (nM (lN n))] (QA c (dv 3 rfl) (R5 n) (show(JD (lN n) w).length+1≤1000000 from aB (bD hr 1) (by decide)) (show pg.length+(JD (lN n) w++ [nM (lN n)]).length≤1000000 by
   rw[aE];exact aB (bI (aB (bD hr 1) (by decide)) _) hp)) ⋯
 | false=>exact R.leaf [.s,.n,.nat (nM (lN n))] (pU c (OK (show 1+w.length≤1000000 from aB (bI hw 1) (by decide)) (show([34]++w).length+1≤1000000 by rw[aE];exact aB (bD (bI hw 1) 1) (by decide)) (dv 3 rfl) (R5 n)
   (show([34]++w++ [34]).length+1≤1000000 by rw[aE,aE];exact aB (bD (bD (bI hw 1) 1) 1) (by decide))
   (show pg.length+([34]++w++ [34]++ [nM (lN n)]).length≤1000000 by rw[aE,aE,aE];exact aB (bI (aB (bD (bD (bI hw 1) 1) 1) (by decide)) _) hp))) ⋯
theorem ps4(hz:ws.length≤1000){k:Nat}:gd ((sv (AV.th.nt 4) y8).s (mO os k ws pg a b c (some (.str w)) d G)) .next (mO os k (ws++ [w]) pg a b c (some (.str w)) d G):=by
 unfold mO bL
 rw[R3]
 exact R.leaf [] (kU (show(ws.map aA.str).length≤1000000 by rw[aG];exact aB hz (by decide))) ⋯
theorem jn0(l:List (List Nat)):(jn [] l).length=kJ l:=by
 induction l with
 | nil=>rfl
 | cons a r ih=>
  cases r with
  | nil=>exact(Nat.add_zero _).symm
  | cons b r=>
   show(a++ []++jn [] (b::r)).length=a.length+kJ (b::r)
   rw[bQ,aE,ih]
theorem LI(hw:w.length≤11):(JD st w).length≤22:=by
 unfold JD
 rw[jn0]
 exact aB (y9 st w) (vM 2 hw)
theorem pt1(ho:o.length≤4)(hz:ws.length≤1000)(hp:pg.length+30≤1000000):gd (dU AV y8 (.str o) (mO os n ws pg a b c d e [])) .next (mO os (n / 48) (ws++ [d6 n o]) (pg++vY n o) (some (.str o)) (some (.int (n % 4:Nat))) (some (.int (lN n))) (some (.str (d6 n o))) (some (.str (JD (lN n) (d6 n o)))) [bL ((d6 n o).map (iK (lN n)))]):=
 have hw:=JF (n:=n) ho
 dP (a:=()) (k:=λ_ st1=>(sv AV.th y8).k st1) (st:=mO os n ws pg (some (.str o)) b c d e []) (R.leaf [] trivial ⋯) (rH (ps0 (a:=b) (b:=c)) (rH (ps1 ho) (rH (ps2 hw) (rH (ps3 hw (LI hw) hp) (mE (ps4 hz) ⋯)))))
noncomputable def ON(l:List (List Nat))(n:Nat)(ws:List (List Nat))(pg:List Nat):List (List Nat)×List Nat:=
 List.rec (motive:=λ_=>Nat->List (List Nat)->List Nat->List (List Nat)×List Nat) (λ_ ws pg=>(ws,pg)) (λo _ ih n ws pg=>ih (n / 48) (ws++ [d6 n o]) (pg++vY n o)) l n ws pg
theorem qY(ho:o.length≤4):(vY n o).length≤30:=by
 have hw:=JF (n:=n) ho
 unfold vY
 rw[aE]
 cases(((lN n % 3:Nat):Int) !=0) with
 | true=>exact aB (bD (LI hw) 1) (by decide)
 | false=>
  show([34]++d6 n o++ [34]).length+1≤30
  rw[aE,aE]
  exact aB (bD (bD (bI hw 1) 1) 1) (by decide)
theorem pt2:∀(rs:List (List Nat)) (n:Nat) (ws:List (List Nat)) (pg:List Nat) (a b c d e:Option aA),(∀o∈rs,o.length≤4)->ws.length+rs.length≤1000->pg.length+30 * rs.length≤100000->
  ∃n' a' b' c' d' e',gd (forL false (dU AV y8) [(0,bL os)] 2 (rs.map .str) (mO os n ws pg a b c d e [])) .next (mO os n' (ON rs n ws pg).1 (ON rs n ws pg).2 a' b' c' d' e' []):=by
 intro rs
 induction rs with
 | nil=>exactλn ws pg a b c d e _ _ _=>⟨n,a,b,c,d,e,AU⟩
 | cons o r ih=>
  intro n ws pg a b c d e ho hz hp
  have h1:=ho o (.head _)
  have hp':pg.length+30+30 * r.length≤100000:=by rw[b9,cQ 30,←Nat.mul_succ];exact hp
  obtain⟨n',a',b',c',d',e',g⟩:=ih (n / 48) (ws++ [d6 n o]) (pg++vY n o) (some (.str o)) (some (.int (n % 4:Nat))) (some (.int (lN n))) (some (.str (d6 n o))) (some (.str (JD (lN n) (d6 n o)))) (λq h=>ho q (.tail _ h)) (by rw[aE,m5,b9,cQ 1];exact hz)
   (aB (bD (by rw[aE];exact bI (qY h1) _) _) hp')
  exact⟨n',a',b',c',d',e',dP (pt1 h1 (aB (aW _ _) hz) (aB (aB (aW _ _) hp') (by decide))) ⟨rfl,g⟩⟩
theorem pt3(ho:∀o∈os,o.length≤4)(hz:os.length≤1000):∃st,((sv RN y8).k ⟨[some (.aO 0),some (.int n),none,none,none,none,none,none,none],[bL os]⟩).good (.ok (.ret (.tup [.aO 1,.str (ON os n [] []).2])) ⟨st,[bL os,bL (ON os n [] []).1]⟩):=by
 obtain⟨n',a,b,c,d,e,g⟩:=pt2 (os:=os) os n [] [] none none none none none ho (by rw[dJ,cZ];exact hz) (by rw[dJ,cZ];exact aB (Nat.mul_le_mul_left 30 hz) (by decide))
 exact⟨_,oY 1 (s1:=mO os n [] [] none none none none none []) (R.leaf [] trivial ⋯) (rH (B5 (l:=0) (zs:=os.map .str) (st1:=mO os n [] [] none none none none none []) ⋯ rfl (R.leaf [] trivial ⋯) rfl g) (R.leaf (o:=Oc.ok (bU.ret (.tup [.aO 1,.str (ON os n [] []).2])) (mO os n' (ON os n [] []).1 (ON os n [] []).2 a b c d e [])) [] trivial ⋯))⟩
noncomputable abbrev zPg(os:List (List Nat))(n:Nat):lZ:={ as:=[.aO 0,.int n],H:=[bL os],r:=.tup [.aO 1,.str (ON os n [] []).2],H':=[bL os,bL (ON os n [] []).1] }
inductive PgS:lZ->Prop
 | mk (os:List (List Nat)) (n:Nat) (ho:∀o∈os,o.length≤4) (hz:os.length≤1000):PgS (zPg os n)
theorem aH5{D:WD}(O:Wld D):kB D 263 1 (eO (sW PgS)):=TP O.13 λ{n z} hn h=>by
 obtain⟨os,k,ho,hz⟩:=h
 refine cD (pt3 (n:=k) ho hz) λst g=>?_
 exact O.13.run (k:=0) (O.env .nil) ⋯ hn O.35 ⋯ g ⟨rfl,rfl⟩
end
end
noncomputable abbrev aH6:Cx:=D6 RG 0 GT (sS [] [] none)
noncomputable abbrev WV(h:aA)(x:List Nat)(b:Bool)(r:Option aA)(H:List Pc):aK:=⟨[some h,some (.str x),some (.bool b),r,some (.typ "type"),some (.typ "str"),some (.ref 113),some (.ref 118),some (.typ "ValueError"),none,none],H⟩
section
variable {h:aA} {x:List Nat} {H:List Pc}
theorem cv1(o:okN x=true)(hz:x.length≤1000000):((sv RH aH6).k (WV h x true none H)).good (.ok (.ret (.str x)) (WV h x true (some (.ref 113)) H)):=R.leaf [.s,.s] (oU o hz) ⋯
theorem cv2(o:VB x=true)(hz:x.length≤1000000):((sv RH aH6).k (WV h x false none H)).good (.ok (.ret (.str x)) (WV h x false (some (.ref 118)) H)):=R.leaf [.s,.s] (oU o hz) ⋯
noncomputable def ZZ:Fx:=λas kn ks H=>hZ (kn==[an 31]) (A2 as λh a=>iS a λx=>A1 ks λk=>iB k λb=>.ob (cond b (okN x) (VB x)=true) (.ob (x.length≤1000) (.ok (.str x) H)))
theorem aH7{D:WD}(O:Wld D):kB D 148 1 ZZ:=kB.s O.2 λ{n as kn ks H Q} hn h=>dM h λc h=>by
 obtain rfl:=eq_of_beq c
 exact NL (P:=λas=>Bx (fS D (n+1) HN 148 as [an 31] ks H Q)) h λu a h=>yL (P:=λa=>Bx (fS D (n+1) HN 148 [u,a] [an 31] ks H Q)) h λx h=>KL (P:=λks=>Bx (fS D (n+1) HN 148 [u,.str x] [an 31] ks H Q)) h λk h=>iB_ (P:=λk=>Bx (fS D (n+1) HN 148 [u,.str x] [an 31] [k] H Q)) h λb h=>jZ h λo h=>jZ h λhz hq=>by
  have hz:=aB hz (by decide:1000≤1000000)
  cases b with
  | true=>exact O.2.run (k:=0) (O.env .nil) ⋯ hn O.22 ⋯ (cv1 o hz) hq
  | false=>exact O.2.run (k:=0) (O.env .nil) ⋯ hn O.22 ⋯ (cv2 o hz) hq
noncomputable abbrev sU:=List (List Nat×List Nat)
noncomputable abbrev DG(p:List Nat×List Nat):aA:=.tup [.str p.1,.str p.2]
noncomputable abbrev nN(ps:sU):List Pc:=[.inst 247 1,.ns [(an 30,.aO 2)],.lst (ps.map DG)]
noncomputable def okH(x:List Nat):Bool:=asc x && okN x && okN (tU x) && eB x.length 1000
inductive NV(x:List Nat):Prop where
 | mk (a:asc x=true) (n:okN x=true) (l:okN (tU x)=true) (z:x.length≤1000) (z6:x.length≤1000000) (zl:(tU x).length≤1000)
theorem aDS{x:List Nat}(h:okH x=true):NV x:=
 have z:=aH (aQ h)
 ⟨aP (aP (aP h)),aQ (aP (aP h)),aQ (aP h),z,aB z (by decide),(aG (as:=x) lo1).symm▸z⟩
noncomputable def F1:List (cI×Nat×Fx):=[(148,1,ZZ)]
theorem F1_{D:WD}(O:Wld D):k7 D F1:=.cons (aH7 O) .nil
def oG(ps:sU):Prop:=(∀p∈ps,NV p.1)∧ps.length≤1000
end
theorem zA{α:Type}{need:List (Nat×Pc)}{st:aK}{r:R aK α}{o:Oc aK α}(h:nd need st)(g:r.good o):(nV need st r).good o:=by
 induction need with
 | nil=>exact g
 | cons p need ih=>exact⟨h p (.head _),ih λq hq=>h q (.tail _ hq)⟩
section
variable {α β σ τ:Type} {need:List (Nat×Pc)} {k:Nat} {inA:α->aA}
inductive Z0(need:List (Nat×Pc))(k:Nat)(st:aK):Prop where
 | mk (a:lK k k st.H=true) (c:st.cut k=st) (n:nd need st)
theorem vZ{turn:aA->aK->R aK Unit}{mk:σ->List β->aK}{nx:α->σ}{out:α->List β}{P:α->Prop}(hp:∀x sg acc,P x->acc.length≤1000000->gd (turn (inA x) (mk sg acc)) () (mk (nx x) (acc++out x)))(hk:∀x acc,Z0 need k (mk (nx x) acc))(ho:∀x,(out x).length≤1):
  ∀(L:List α) (acc:List β) (sg:σ),(∀x∈L,P x)->acc.length+L.length≤1000000->∃AY,gd (m8 turn need k (L.map inA) (mk sg acc)) () (mk AY (acc++L.flatMap out)):=by
 intro L
 induction L with
 | nil=>exactλacc sg _ _=>⟨sg,by rw[rR,bQ];exact AU⟩
 | cons x r ih=>
  intro acc sg h hz
  refine cD (ih (acc++out x) (nx x) (λy hy=>h y (.tail _ hy)) (by rw[aE,b9];exact aB (bI (aB (bD (ho x) _) (cC (cQ _ _))) _) hz)) λAY g=>?_
  have K:=hk x (acc++out x)
  rw[f8,←c4]
  refine⟨AY,dP (hp x sg acc (h x (.head _)) (aB (aW _ _) hz)) (n6 K.1 ?_)⟩
  rw[K.2]
  exact zA K.3 g
theorem uD{f:α->Bool}(L:List α):L.flatMap (λx=>cond (f x) [x] [])=L.filter f:=by
 induction L with
 | nil=>rfl
 | cons x r ih=>
  rw[f8,ih]
  cases e:f x with
  | true=>rw[rA e];rfl
  | false=>rw[rB (by rw[e];exact bH)];rfl
theorem l9{α:Type}{b:Bool}{x:α}:(cond b [x] []).length≤1:=by
 cases b with
 | true=>exact aZ 1
 | false=>exact cO 1
theorem lcG{w:E}{x:Cx}{st:aK}{a:aA}{mk:σ->List β->aK}{nx:α->σ}{out:α->List β}{P:α->Prop}{sg0:σ}{L:List α}(h:gd ((ev w.it x).e st) a st)(hr:∀k:List aA->List (Nat×Pc)->aK->RM,TL w.tg st.H.length a st k=k (L.map inA) need st)(hm:lcS w x st=mk sg0 [])(hn:nd need ⟨[],st.H++ [.lst []]⟩)
  (hp:∀y sg acc,P y->acc.length≤1000000->gd (uS w (x.lI w.sc) st.H.length (inA y) (mk sg acc)) () (mk (nx y) (acc++out y))) (hk:∀y acc,Z0 need (st.H.length+1) (mk (nx y) acc)) (ho:∀y,(out y).length≤1) (hP:∀y∈L,P y) (hz:L.length≤1000000):∃AY,gd (WL w x st) (.aO st.H.length) ⟨st.m,(mk AY (L.flatMap out)).H⟩:=by
 refine cD (vZ hp hk ho L [] sg0 hP (by rw[dJ,cZ];exact hz)) λAY g=>?_
 exact⟨AY,mH (s1:=st) (s2:=st) (s3:=mk AY (L.flatMap out)) h (λk q=>(hr k).symm▸q) (zA hn (hm▸g))⟩
end
noncomputable def GD(got:List Nat)(hi:Nat)(l:List (List Nat))(a1:Nat):Bool:=
 List.rec (motive:=λ_=>Nat->Bool) (λ_=>true) (λw _ ih lo=>Option.rec false (λk=>ih (k+w.length)) (jR got w lo hi)) l a1
theorem aDT(got:List Nat)(hi:Nat)(w:List Nat)(r:List (List Nat))(lo:Nat):GD got hi (w::r) lo=Option.rec false (λk=>GD got hi r (k+w.length)) (jR got w lo hi):=rfl
noncomputable def WW(got:List Nat)(q:List (List Nat))(b:List Nat)(lo:Nat):Bool:=
 cond b.isEmpty (cond (decide ((lo:Int) > got.length)) false (GD got got.length (q++ [b]) lo)) (cond (tV got b) (cond (decide ((lo:Int) > (got.length - b.length:Nat))) false (GD got (got.length - b.length) q lo)) false)
noncomputable def R6(got:List Nat)(a:List Nat)(q:List (List Nat))(b:List Nat):Bool:=cond a.isEmpty (WW got (a::q) b 0) (cond (nT got a) (WW got q b a.length) false)
noncomputable def aH8(got:List Nat):List (List Nat)->Bool
 | a::r=>R6 got a r.dropLast (r.getLastD [])
 | []=>false
noncomputable def TQ(want got:List Nat):Bool:=cond (jR want [46,46,46] 0 want.length).isSome (aH8 got (UK want [46,46,46])) (want==got)
noncomputable abbrev xH:Cx:=D6 aC8 0 GT (sS [] [] none)
noncomputable abbrev AZ(x y:List Nat)(ws s e w:Option aA)(H:List Pc):aK:=⟨[some (.str x),some (.str y),ws,s,e,w,some (.str [46,46,46]),some (.blt "len")],H⟩
noncomputable abbrev kY:List Nat:=[46,46,46]
noncomputable abbrev ZW:S:=(oW.dr 9).nt 0
section
variable {x y:List Nat}
theorem e1(h:(!(jR x kY 0 x.length).isSome)=true):((sv oW xH).k (AZ x y none none none none [])).good (.ok (.ret (.bool (x==y))) (AZ x y none none none none [])):=R.leaf [.y] (kU h) ⋯
theorem e2(h:(!(jR x kY 0 x.length).isSome)=false)(hz:x.length≤1000000):gd ((sv (oW.tk 2) xH).k (AZ x y none none none none [])) .next (AZ x y (some (.aO 0)) none none none [.lst ((UK x kY).map .str)]):=R.leaf [.n] (oU h hz) ⋯
theorem e3(a:List Nat)(r:List (List Nat))(hz:y.length≤1000000)(hl:(((a::r).map aA.str).length)≤1000000)(h2:decide ((((a::r).map aA.str).length:Int)≥2)=true):
  gd ((sv ((oW.dr 2).tk 3) xH).k (AZ x y (some (.aO 0)) none none none [.lst ((a::r).map .str)])) .next (AZ x y (some (.aO 0)) (some (.int 0)) (some (.int y.length)) (some (.str a)) [.lst ((a::r).map .str)]):=
 R.leaf [.item 0 (.str a)] (yK hl h2 hz (show sO 0 ((a::r).map aA.str).length=some 0∧((a::r).map aA.str)[0]? =some (.str a)∧Sm 0 from⟨mN (j:=0) (j2 _),rfl,by decide,by decide⟩)) ⋯
theorem e4a(r:List (List Nat)):gd ((sv ((oW.dr 5).nt 0) xH).s (AZ x y (some (.aO 0)) (some (.int 0)) (some (.int y.length)) (some (.str [])) [.lst (([]::r).map .str)])) .next (AZ x y (some (.aO 0)) (some (.int 0)) (some (.int y.length)) (some (.str [])) [.lst (([]::r).map .str)]):=R.leaf [] (kU (cO _:([]:List Nat).length≤1000000)) ⋯
theorem e4b(c:Nat)(a:List Nat)(r:List (List Nat))(hs:nT y (c::a)=true)(hz:(c::a).length≤1000000)(hl:((((c::a)::r).map aA.str).length)≤1000000):
  gd ((sv ((oW.dr 5).nt 0) xH).s (AZ x y (some (.aO 0)) (some (.int 0)) (some (.int y.length)) (some (.str (c::a))) [.lst (((c::a)::r).map .str)])) .next (AZ x y (some (.aO 0)) (some (.int (c::a).length)) (some (.int y.length)) (some (.str (c::a))) [.lst (r.map .str)]):=
 R.leaf [.s,.y,.nat 0] (QA hz hs hz hl (mN (j:=0) (j2 _):sO 0 (((c::a)::r).map aA.str).length=some 0)) ⋯
theorem e4c(c:Nat)(a:List Nat)(H:List Pc)(hs:nT y (c::a)=false)(hz:(c::a).length≤1000000):
  ((sv ((oW.dr 5).nt 0) xH).s (AZ x y (some (.aO 0)) (some (.int 0)) (some (.int y.length)) (some (.str (c::a))) H)).good (.ok (.ret (.bool false)) (AZ x y (some (.aO 0)) (some (.int 0)) (some (.int y.length)) (some (.str (c::a))) H)):=
 R.leaf [.s,.n] (oU hz hs) ⋯
theorem LJ(q:List (List Nat))(b:List Nat):sO (-1) ((q++ [b]).map aA.str).length=some q.length∧((q++ [b]).map aA.str)[q.length]? =some (.str b)∧Sm (-1):=by
 refine⟨?_, ?_,by decide,by decide⟩
 ·rw[aG,aE];exact RW
 ·rw[bX,bY (aZ _),k9];rfl
noncomputable abbrev mq(x y:List Nat)(q:List (List Nat))(b:List Nat)(s e:Int)(w:List Nat):aK:=AZ x y (some (.aO 0)) (some (.int s)) (some (.int e)) (some (.str w)) [.lst ((q++ [b]).map .str)]
theorem e5(q:List (List Nat))(b:List Nat)(s e:Int)(w:List Nat):gd ((sv ((oW.dr 6).nt 0) xH).s (mq x y q b s e w)) .next (mq x y q b s e b):=R.leaf [.item q.length (.str b)] (kU (LJ q b)) ⋯
theorem e6a(q:List (List Nat))(s e:Int):gd ((sv ((oW.dr 7).nt 0) xH).s (mq x y q [] s e [])) .next (mq x y q [] s e []):=R.leaf [] (kU (cO _:([]:List Nat).length≤1000000)) ⋯
theorem JG(q:List (List Nat))(b:List Nat):((q++ [b]).map aA.str).eraseIdx q.length=q.map .str:=by
 rw[cG,List.eraseIdx_append_of_length_le (by rw[aG];exact aZ _),aG,k9]
 exact bQ _
theorem e6b(q:List (List Nat))(c:Nat)(b:List Nat)(s:Int)(hs:tV y (c::b)=true)(hz:(c::b).length≤1000000)(hl:((q++ [c::b]).map aA.str).length≤1000000)(hle:(c::b).length≤y.length):
  gd ((sv ((oW.dr 7).nt 0) xH).s (mq x y q (c::b) s y.length (c::b))) .next (AZ x y (some (.aO 0)) (some (.int s)) (some (.int (y.length - (c::b).length:Nat))) (some (.str (c::b))) [.lst (q.map .str)]):=by
 rw[←JG q (c::b),Int.ofNat_sub hle]
 exact R.leaf [.s,.y,.nat q.length] (QA hz hs hz hl (LJ q (c::b)).1) ⋯
theorem e6c(q:List (List Nat))(c:Nat)(b:List Nat)(s e:Int)(hs:tV y (c::b)=false)(hz:(c::b).length≤1000000):
  ((sv ((oW.dr 7).nt 0) xH).s (mq x y q (c::b) s e (c::b))).good (.ok (.ret (.bool false)) (mq x y q (c::b) s e (c::b))):=R.leaf [.s,.n] (oU hz hs) ⋯
noncomputable abbrev ml(x y:List Nat)(zs:List aA)(lo hi:Nat)(w:Option aA):aK:=AZ x y (some (.aO 0)) (some (.int lo)) (some (.int hi)) w [.lst zs]
theorem l1(zs:List aA)(lo hi:Nat)(w:List Nat)(hh:hi≤y.length):gd ((sv (ZW.th.tk 1) xH).k (ml x y zs lo hi (some (.str w)))) .next (AZ x y (some (.aO 0)) (some (.int (BM (jR y w lo hi)))) (some (.int hi)) (some (.str w)) [.lst zs]):=R.leaf [] (kU hh) ⋯
theorem l2(zs:List aA)(k hi:Nat)(w:List Nat)(hz:w.length≤1000000):gd ((sv (ZW.th.dr 1) xH).k (AZ x y (some (.aO 0)) (some (.int (BM (some k)))) (some (.int hi)) (some (.str w)) [.lst zs])) .next (ml x y zs (k+w.length) hi (some (.str w))):=R.leaf [] (kU hz) ⋯
theorem l3(zs:List aA)(hi:Nat)(w:List Nat):((sv (ZW.th.dr 1) xH).k (AZ x y (some (.aO 0)) (some (.int (BM none))) (some (.int hi)) (some (.str w)) [.lst zs])).good (.ok (.ret (.bool false)) (AZ x y (some (.aO 0)) (some (.int (-1))) (some (.int hi)) (some (.str w)) [.lst zs])):=R.leaf [] trivial ⋯
theorem l0(zs:List aA)(lo hi:Nat)(w:List Nat)(w0:Option aA):gd ((ev ZW.p8 xH).g (.str w) (ml x y zs lo hi w0)) () (ml x y zs lo hi (some (.str w))):=R.leaf [] trivial ⋯
theorem eL(zs:List aA)(hi:Nat)(hh:hi≤y.length):∀(ws:List (List Nat)) (lo:Nat) (w0:Option aA),(∀w∈ws,w.length≤1000000)->∃st,gd (forL false (dU ZW xH) [(0,.lst zs)] 1 (ws.map .str) (ml x y zs lo hi w0)) (cond (GD y hi ws lo) .next (.ret (.bool false))) st:=by
 intro ws
 induction ws with
 | nil=>exactλlo w0 Y=>⟨_,AU⟩
 | cons w r ih=>
  intro lo w0 hw
  have L:=l1 (x:=x) zs lo hi w hh
  rw[aDT]
  cases e:jR y w lo hi with
  | none=>
   rw[e] at L
   exact⟨_,dP (dP (l0 zs lo hi w w0) (oY 1 L (l3 zs hi w))) AU⟩
  | some k=>
   rw[e] at L
   refine cD (ih (k+w.length) (some (.str w)) λw h=>hw w (.tail _ h)) λst g=>?_
   exact⟨st,dP (dP (l0 zs lo hi w w0) (oY 1 L (l2 zs k hi w (hw w (.head _))))) ⟨rfl,g⟩⟩
theorem e9(q:List (List Nat))(lo hi:Nat)(w:Option aA)(hh:hi≤y.length)(hw:∀w∈q,w.length≤1000000)(c:decide ((lo:Int) > (hi:Int))=false):∃st,((sv (oW.dr 8) xH).k (ml x y (q.map .str) lo hi w)).good (.ok (.ret (.bool (GD y hi q lo))) st):=by
 refine cD (eL (x:=x) (q.map .str) hi hh q lo w hw) λst g=>?_
 have a:gd ((sv ((oW.dr 8).nt 0) xH).s (ml x y (q.map .str) lo hi w)) .next (ml x y (q.map .str) lo hi w):=R.leaf [.n] (kU c) ⋯
 have f:∀{fl bW},gd (forL false (dU ZW xH) [(0,.lst (q.map .str))] 1 (q.map .str) (ml x y (q.map .str) lo hi w)) fl bW->gd ((sv ZW xH).s (ml x y (q.map .str) lo hi w)) fl bW:=λg=>B5 (l:=0) (zs:=q.map .str) (st1:=ml x y (q.map .str) lo hi w) ⋯ rfl (R.leaf [] trivial ⋯) rfl g
 cases e:GD y hi q lo with
 | true=>rw[e] at g;exact⟨st,rH a (rH (f g) (R.leaf [] trivial ⋯))⟩
 | false=>rw[e] at g;exact⟨_,rH a (I9 (f g))⟩
theorem e8(q:List (List Nat))(lo hi:Nat)(w:Option aA)(c:decide ((lo:Int) > (hi:Int))=true):((sv (oW.dr 8) xH).k (ml x y (q.map .str) lo hi w)).good (.ok (.ret (.bool false)) (ml x y (q.map .str) lo hi w)):=R.leaf [.y] (kU c) ⋯
theorem e10(q:List (List Nat))(lo hi:Nat)(w:Option aA)(hh:hi≤y.length)(hw:∀w∈q,w.length≤1000000):∃st,((sv (oW.dr 8) xH).k (ml x y (q.map .str) lo hi w)).good (.ok (.ret (.bool (cond (decide ((lo:Int) > (hi:Int))) false (GD y hi q lo)))) st):=by
 cases c:decide ((lo:Int) > (hi:Int)) with
 | true=>exact⟨_,e8 q lo hi w c⟩
 | false=>exact e9 q lo hi w hh hw c
theorem WX{b:List Nat}(h:tV y b=true):b.length≤y.length:=aH (aP h)
theorem e11(q:List (List Nat))(b:List Nat)(lo:Nat)(w:List Nat)(hl:((q++ [b]).map aA.str).length≤1000000)(hw:∀w∈q++ [b],w.length≤1000000):∃st,((sv (oW.dr 6) xH).k (mq x y q b lo y.length w)).good (.ok (.ret (.bool (WW y q b lo))) st):=by
 cases b with
 | nil=>
  refine cD (e10 (x:=x) (y:=y) (q++ [[]]) lo y.length (some (.str [])) (aZ _) hw) λst g=>?_
  exact⟨st,rH (e5 q [] lo y.length w) (rH (e6a q lo y.length) g)⟩
 | cons c b=>
  unfold WW
  have hb:=hw (c::b) (aR _ (.head _))
  cases e:tV y (c::b) with
  | true=>
   refine cD (e10 (x:=x) (y:=y) q lo (y.length - (c::b).length) (some (.str (c::b))) (MH _ _) λw h=>hw w (bJ _ h)) λst g=>?_
   exact⟨st,rH (e5 q (c::b) lo y.length w) (rH (e6b q c b lo e hb hl (WX e)) g)⟩
  | false=>exact⟨_,rH (e5 q (c::b) lo y.length w) (I9 (e6c q c b lo y.length e hb))⟩
theorem e12(a:List Nat)(q:List (List Nat))(b:List Nat)(hz:y.length≤1000000)(hl:(((a::(q++ [b])).map aA.str).length)≤1000000)(hw:∀w∈a::(q++ [b]),w.length≤1000000):∃st,((sv (oW.dr 2) xH).k (AZ x y (some (.aO 0)) none none none [.lst ((a::(q++ [b])).map .str)])).good (.ok (.ret (.bool (R6 y a q b))) st):=by
 have E3:=e3 (x:=x) a (q++ [b]) hz hl (decide_eq_true (by rw[aG,eQ,aE];exact fD.mpr (cH (fO 1 _))))
 cases a with
 | nil=>
  refine cD (e11 (x:=x) (y:=y) ([]::q) b 0 [] hl hw) λst g=>?_
  exact⟨st,oY 3 E3 (rH (e4a (q++ [b])) g)⟩
 | cons c a=>
  unfold R6
  have ha:=hw (c::a) (.head _)
  cases e:nT y (c::a) with
  | true=>
   refine cD (e11 (x:=x) (y:=y) q b (c::a).length (c::a) (i9 hl:((q++ [b]).map aA.str).length≤1000000) λw h=>hw w (.tail _ h)) λst g=>?_
   exact⟨st,oY 3 E3 (rH (e4b c a (q++ [b]) e ha hl) g)⟩
  | false=>exact⟨_,oY 3 E3 (I9 (e4c c a _ e ha))⟩
theorem WY(x y:List Nat)(k:Nat):∀lo,∃a r,EW x y k lo=a::r:=by
 cases k with
 | zero=>exactλlo=>⟨_,_,rfl⟩
 | succ k=>
  intro lo
  rw[sP]
  cases jR x y lo x.length with
  | none=>exact⟨_,_,rfl⟩
  | some c=>exact⟨_,_,rfl⟩
theorem JH(x y:List Nat)(k:Nat):∀lo,∀w∈EW x y k lo,w.length≤x.length:=by
 have dl:∀lo,(x.drop lo).length≤x.length:=λlo=>by exact rO▸MH _ _
 induction k with
 | zero=>intro lo w h;obtain rfl:=aU.mp h;exact dl lo
 | succ k ih=>
  intro lo w h
  rw[sP] at h
  cases e:jR x y lo x.length with
  | none=>rw[e] at h;obtain rfl:=aU.mp h;exact dl lo
  | some c=>
   rw[e] at h
   refine nI h (λe0=>?_) λh=>?_
   ·subst e0;exact aB (uX _ _) (dl lo)
   ·exact ih _ w h
theorem WZ{x y:List Nat}(h:(!(jR x y 0 x.length).isSome)=false):∃a q b,UK x y=a::(q++ [b]):=by
 unfold UK
 rw[sP]
 cases e:jR x y 0 x.length with
 | none=>rw[e] at h;cases h
 | some c=>
  refine kG (WY x y x.length (c+y.length)) λa r e=>?_
  refine⟨(x.drop 0).take (c - 0),(a::r).dropLast,(a::r).getLast (by exactλz=>nomatch z), ?_⟩
  rw[List.dropLast_concat_getLast]
  exact congrArg _ e
theorem aH9(got a:List Nat)(q:List (List Nat))(b:List Nat):aH8 got (a::(q++ [b]))=R6 got a q b:=by
 show R6 got a (q++ [b]).dropLast ((q++ [b]).getLastD [])=_
 rw[List.dropLast_concat,List.getLastD_concat]
theorem aLQ(hx:x.length≤1000)(hy:y.length≤1000):∃st,((sv oW xH).k (AZ x y none none none none [])).good (.ok (.ret (.bool (TQ x y))) st):=by
 have zW:=aB hx (by decide:1000≤1000000)
 unfold TQ
 cases e:(!(jR x kY 0 x.length).isSome) with
 | true=>exact RV e▸⟨_,e1 e⟩
 | false=>
  have e':(jR x kY 0 x.length).isSome=true:=by
   cases h:(jR x kY 0 x.length).isSome with
   | true=>rfl
   | false=>rw[h] at e;cases e
  rw[e']
  have hs:=JH x kY (x.length+1) 0
  have hl:=vQ x kY (x.length+1) 0
  have E2:=e2 (y:=y) e zW
  refine ED (WZ e) λa q b e=>?_
  unfold UK at e E2 ⊢
  rw[e] at hs hl E2 ⊢
  rw[cond_true,aH9]
  refine cD (e12 (x:=x) a q b (aB hy (by decide)) (by rw[aG];exact aB hl (aB (cH (cH hx)) (by decide:1002≤1000000))) λw h=>aB (hs w h) zW) λst g=>?_
  exact⟨st,oY 2 E2 g⟩
noncomputable def R7:Fx:=λas kn ks H=>nk kn ks (A2 as λa b=>iS a λx=>iS b λy=>hZ H.isEmpty (.ob (x.length≤1000∧y.length≤1000) (.ok (.bool (TQ x y)) [])))
theorem aDU{D:WD}(O:Wld D):kB D 54 1 (eO R7):=FZ.fr ⟨⟨_,_,_,O.6.1⟩,(kB.s (need:=0) (fx:=R7) O.6 λ{n as kn ks H Q} hn h=>nk_ (P:=λkn ks=>Bx (fS D (n+1) HN 54 as kn ks H Q)) h λh=>NL (P:=λas=>Bx (fS D (n+1) HN 54 as [] [] H Q)) h λa b h=>yL (P:=λa=>Bx (fS D (n+1) HN 54 [a,b] [] [] H Q)) h λx h=>yL (P:=λb=>Bx (fS D (n+1) HN 54 [_,b] [] [] H Q)) h λy h=>dM h λhH h=>jZ h λhz hq=>by
 obtain rfl:=jK.mp hH
 refine cD (aLQ hz.1 hz.2) λst g=>?_
 exact O.6.runC (k:=0) 0 (O.env .nil) .no ⋯ hn O.28 ⋯ g ⟨rfl,hq⟩).2⟩
end
noncomputable def abcd:List Nat:=[97,98,99,100]
noncomputable def DH(p0 p1:Nat):List Nat:=abcd.filter λc=>decide ([p1] < [c]) && decide ([c] < [p0])
noncomputable def sV(o:List Nat)(p0 p1:Nat):Bool:=TQ (kY++ [p0,p1]++kY) o
noncomputable def aDV(o:List Nat)(p0 p1 c:Nat):Bool:=TQ (kY++ [c]++kY++ [p0,p1]++kY) o
noncomputable def HA(o:List Nat)(p0 p1:Nat):List Nat:=(DH p0 p1).filter (aDV o p0 p1)
noncomputable def Z1(o:List Nat)(p0 p1 c:Nat):Bool:=!((HA o p0 p1).map λc=>[c]).any (· ==[c])
noncomputable def DI(o:List Nat)(p0 p1:Nat):List Nat:=(abcd.filter λc=>decide ([c] < [p1]))++HA o p0 p1++ [p0,p1]++(DH p0 p1).filter (Z1 o p0 p1)
noncomputable def oH(o:List Nat)(p0 p1:Nat):List Nat:=DI o p0 p1++abcd.filter λc=>decide ([p0] < [c])
noncomputable def told(o:List Nat)(p0 p1:Nat):List Nat:=jn [] ((oH o p0 p1).map λc=>[c])
noncomputable def F5:List (cI×Nat×Fx):=[(54,1,eO R7)]
theorem F5_{D:WD}(O:Wld D):k7 D F5:=.cons (aDU O) .nil
noncomputable abbrev gW:Cx:=D6 RP 1 GT (sS F5 [] none)
noncomputable abbrev JB:S:=F6.nt 1
noncomputable abbrev o7:S:=JB.th.nt 0
noncomputable abbrev E.bl(e:E):E:=e.c 0
noncomputable abbrev E.br(e:E):E:=e.c 1
noncomputable abbrev TR(p0 p1 B T:Nat):aA:=.old [p0,p1] B T
noncomputable abbrev JI(o:List Nat)(pr bt ah rv:Option aA)(H:List Pc):aK:=⟨[some (.str o),some (.aO 0),pr,bt,ah,rv,some (.ref 54),some (.typ "list")],H⟩
noncomputable abbrev nB(l:List Nat):Pc:=.lst (l.map eG)
noncomputable abbrev cf1:E:=(o7.th.nt 0).p8
noncomputable abbrev cf2:E:=(o7.th.nt 1).p8
noncomputable abbrev ex3:E:=(o7.th.nt 2).p8
noncomputable abbrev cf3:E:=ex3.bl.bl.bl
noncomputable abbrev cf5:E:=ex3.br
noncomputable def S.apX(s:S):E:=((((s.p8.c 1).c 0).c 0).c 1).c 0
noncomputable abbrev ex4:E:=(o7.th.nt 3).apX
noncomputable abbrev cf6:E:=ex4.a0.br
section
variable {o:List Nat} {p0 p1 B T c:Nat} {acc:List Nat} {nm:Option aA} {fl bt ah:List aA}
theorem y0(p0 p1:Nat):(iW (0:Int) ([p0,p1]:List Nat).length).bind (([p0,p1]:List Nat)[·]?)=some p0∧(decide ((0:Int) < -(2 ^ 63:Int)) || decide ((0:Int)≥2 ^ 63))=false:=⟨rfl,rfl⟩
theorem it1(p0 p1:Nat):(iW (1:Int) ([p0,p1]:List Nat).length).bind (([p0,p1]:List Nat)[·]?)=some p1∧(decide ((1:Int) < -(2 ^ 63:Int)) || decide ((1:Int)≥2 ^ 63))=false:=⟨rfl,rfl⟩
noncomputable abbrev i1(p0 p1 B T:Nat)(fl:List aA)(nm:Option aA)(acc:List Nat):aK:=⟨[none,nm,some (TR p0 p1 B T)],[.lst fl,nB acc]⟩
theorem p9{l:List Nat}{b:Bool}:nB (l++cond b [c] [])= .lst (l.map eG++(cond b [c] []).map eG):=by unfold nB;rw[cG]
theorem fa1(hz:acc.length≤1000000):gd (m9 cf1.tg cf1.ifs cf1.el (gW.lI cf1.sc) 1 (eG c) (i1 p0 p1 B T fl nm acc)) () (i1 p0 p1 B T fl (some (eG c)) (acc++cond (decide ([p1] < [c]) && decide ([c] < [p0])) [c] [])):=by
 unfold i1
 rw[p9]
 have hz:(acc.map eG).length≤1000000:=by rw[aG];exact hz
 cases h1:decide ([p1] < [c]) with
 | false=>rw[show(cond (false && decide ([c] < [p0])) [c] []).map eG= [] from rfl,bQ];exact R.leaf [.nat p1,.n] (oU (it1 p0 p1) h1) ⋯
 | true=>cases h2:decide ([c] < [p0]) with
  | false=>rw[show(cond (true && false) [c] []).map eG= [] from rfl,bQ];exact R.leaf [.nat p1,.y,.nat p0,.n] (yK (it1 p0 p1) h1 (y0 p0 p1) h2) ⋯
  | true=>exact R.leaf [.nat p1,.y,.nat p0,.y] (QA (it1 p0 p1) h1 (y0 p0 p1) h2 hz) ⋯
noncomputable abbrev i2(o:List Nat)(p0 p1 B T:Nat)(H:List Pc)(nm:Option aA)(acc:List Nat):aK:=⟨[none,nm,some (.ref 54),some (.str o),some (TR p0 p1 B T)],H++ [nB acc]⟩
theorem fa2(ho:o.length≤4)(hz:acc.length≤1000000):gd (m9 cf2.tg cf2.ifs cf2.el (gW.lI cf2.sc) 2 (eG c) (i2 o p0 p1 B T [.lst fl,.lst bt] nm acc)) () (i2 o p0 p1 B T [.lst fl,.lst bt] (some (eG c)) (acc++cond (aDV o p0 p1 c) [c] [])):=by
 unfold i2
 rw[p9]
 have hz:(acc.map eG).length≤1000000:=by rw[aG];exact hz
 have z:(kY++ [c]++kY++ [p0,p1]++kY).length≤1000∧o.length≤1000:=⟨(by decide:12≤1000),aB ho (by decide)⟩
 have l1:3+1≤1000000:=by decide
 have l2:4+3≤1000000:=by decide
 have l3:7+2≤1000000:=by decide
 have l4:9+3≤1000000:=by decide
 cases h1:aDV o p0 p1 c with
 | false=>rw[show(cond false [c] []).map eG= [] from rfl,bQ];exact R.leaf [.n] (OK l1 l2 l3 l4 z h1) ⋯
 | true=>exact R.leaf [.y] (pU l1 (OK l2 l3 l4 z h1 hz)) ⋯
noncomputable abbrev i3(p0 p1 B T:Nat)(H:List Pc)(nm:Option aA)(acc:List Nat):aK:=⟨[none,nm,some (TR p0 p1 B T)],H++ [nB acc]⟩
theorem fa3(hz:acc.length≤1000000):gd (m9 cf3.tg cf3.ifs cf3.el (gW.lI cf3.sc) 3 (eG c) (i3 p0 p1 B T [.lst fl,.lst bt,.lst ah] nm acc)) () (i3 p0 p1 B T [.lst fl,.lst bt,.lst ah] (some (eG c)) (acc++cond (decide ([c] < [p1])) [c] [])):=by
 unfold i3
 rw[p9]
 have hz:(acc.map eG).length≤1000000:=by rw[aG];exact hz
 cases h1:decide ([c] < [p1]) with
 | false=>rw[show(cond false [c] []).map eG= [] from rfl,bQ];exact R.leaf [.nat p1,.n] (oU (it1 p0 p1) h1) ⋯
 | true=>exact R.leaf [.nat p1,.y] (vC (it1 p0 p1) h1 hz) ⋯
noncomputable abbrev i5(TS:List Nat)(fl bt:List aA)(l3 l4 l5 l6:List aA)(nm:Option aA)(acc:List Nat):aK:=⟨[none,nm,some (.aO 2)],[.lst fl,.lst bt,nB TS,.lst l3,.lst l4,.lst l5,.lst l6,nB acc]⟩
theorem fa5{TS:List Nat}{l3 l4 l5 l6:List aA}(hz:acc.length≤1000000):gd (m9 cf5.tg cf5.ifs cf5.el (gW.lI cf5.sc) 7 (eG c) (i5 TS fl bt l3 l4 l5 l6 nm acc)) () (i5 TS fl bt l3 l4 l5 l6 (some (eG c)) (acc++cond (!(TS.map λc=>[c]).any (· ==[c])) [c] [])):=by
 unfold i5
 rw[p9]
 have hz:(acc.map eG).length≤1000000:=by rw[aG];exact hz
 have e:TS.map eG=(TS.map λc=>[c]).map aA.str:=by rw[m2];rfl
 cases h1: !(TS.map λc=>[c]).any (· ==[c]) with
 | false=>rw[show(cond false [c] []).map eG= [] from rfl,bQ];exact R.leaf [.strs (TS.map λc=>[c]),.n] (oU e h1) ⋯
 | true=>exact R.leaf [.strs (TS.map λc=>[c]),.y] (vC e h1 hz) ⋯
noncomputable abbrev i6(p0 p1 B T:Nat)(H:List Pc)(nm:Option aA)(acc:List Nat):aK:=⟨[none,nm,some (TR p0 p1 B T)],H++ [nB acc]⟩
theorem fa6{l2 l3 l4 l5 l6 l7 l8:List aA}(hz:acc.length≤1000000):gd (m9 cf6.tg cf6.ifs cf6.el (gW.lI cf6.sc) 9 (eG c) (i6 p0 p1 B T [.lst fl,.lst bt,.lst l2,.lst l3,.lst l4,.lst l5,.lst l6,.lst l7,.lst l8] nm acc)) () (i6 p0 p1 B T [.lst fl,.lst bt,.lst l2,.lst l3,.lst l4,.lst l5,.lst l6,.lst l7,.lst l8] (some (eG c)) (acc++cond (decide ([p0] < [c])) [c] [])):=by
 unfold i6
 rw[p9]
 have hz:(acc.map eG).length≤1000000:=by rw[aG];exact hz
 cases h1:decide ([p0] < [c]) with
 | false=>rw[show(cond false [c] []).map eG= [] from rfl,bQ];exact R.leaf [.nat p0,.n] (oU (y0 p0 p1) h1) ⋯
 | true=>exact R.leaf [.nat p0,.y] (vC (y0 p0 p1) h1 hz) ⋯
end
section
variable {o:List Nat} {p0 p1 B T:Nat} {pr bt ah rv:Option aA} {fl:List aA}
theorem R8{st:aK}:nd [] st:=λ_ h=>nomatch h
theorem sK{st:aK}{l:Nat}{p:Pc}(h:st.H[l]? =some p):nd [(l,p)] st:=λq hq=>by
 refine nI hq (λe0=>?_) λhq=>?_
 ·subst e0;exact h
 ·exact nomatch hq
theorem W0(l:List Nat):l.map eG=(l.map λc=>[c]).map aA.str:=by rw[m2];rfl
noncomputable abbrev mF(o:List Nat)(p0 p1 B T:Nat)(bt ah rv:Option aA)(H:List Pc):aK:=JI o (some (TR p0 p1 B T)) bt ah rv H
theorem fs0(ho:o.length≤4):gd ((ev o7.p8 gW).t (mF o p0 p1 B T bt ah rv [.lst fl])) (sV o p0 p1) (mF o p0 p1 B T bt ah rv [.lst fl]):=
 R.leaf [] (vC (by decide:3+2≤1000000) (by decide:5+3≤1000000) (⟨(by decide:8≤1000),aB ho (by decide)⟩:(kY++ [p0,p1]++kY).length≤1000∧o.length≤1000)) ⋯
theorem fs1:gd ((sv (o7.th.nt 0) gW).s (mF o p0 p1 B T bt ah rv [.lst fl])) .next (mF o p0 p1 B T (some (.aO 1)) ah rv [.lst fl,nB (DH p0 p1)]):=by
 refine cD (lcG (need:=[]) (w:=cf1) (x:=gW) (st:=mF o p0 p1 B T bt ah rv [.lst fl]) (a:=.str abcd) (L:=abcd) (inA:=eG) (P:=λ_=>True) (mk:=i1 p0 p1 B T fl) (nx:=λc=>some (eG c)) (sg0:=none) (R.leaf [] trivial ⋯) (λ_=>rfl) rfl R8 (λc sg acc _ hz=>fa1 hz) (λc acc=>⟨rfl,rfl,R8⟩) (λc=>l9) (λ_ _=>trivial) (by decide)) λsg C=>?_
 rw[uD] at C
 exact R.leaf [.cmp (.aO 1) (mF o p0 p1 B T bt ah rv [.lst fl,nB (DH p0 p1)])] (kU C) ⋯
theorem W1:(DH p0 p1).length≤4:=dR _ abcd
theorem W2:(HA o p0 p1).length≤4:=aB (dR _ _) W1
theorem m4{n:Nat}(h:n≤4):n≤1000000:=aB h (by decide)
theorem fs2(ho:o.length≤4):gd ((sv (o7.th.nt 1) gW).s (mF o p0 p1 B T (some (.aO 1)) ah rv [.lst fl,nB (DH p0 p1)])) .next (mF o p0 p1 B T (some (.aO 1)) (some (.aO 2)) rv [.lst fl,nB (DH p0 p1),nB (HA o p0 p1)]):=by
 refine cD (lcG (need:=[(1,nB (DH p0 p1))]) (w:=cf2) (x:=gW) (st:=mF o p0 p1 B T (some (.aO 1)) ah rv [.lst fl,nB (DH p0 p1)]) (a:=.aO 1) (L:=DH p0 p1) (inA:=eG) (P:=λ_=>True) (mk:=i2 o p0 p1 B T [.lst fl,nB (DH p0 p1)]) (nx:=λc=>some (eG c)) (sg0:=none) (R.leaf [] trivial ⋯) (λ_=>rfl) rfl (sK rfl) (λc sg acc _ hz=>fa2 ho hz) (λc acc=>⟨rfl,rfl,sK rfl⟩) (λc=>l9) (λ_ _=>trivial) (m4 W1)) λsg C=>?_
 rw[uD] at C
 exact R.leaf [.cmp (.aO 2) (mF o p0 p1 B T (some (.aO 1)) ah rv [.lst fl,nB (DH p0 p1),nB (HA o p0 p1)])] (kU C) ⋯
noncomputable abbrev wU(p1:Nat):List Nat:=abcd.filter λc=>decide ([c] < [p1])
noncomputable abbrev A6(p0:Nat):List Nat:=abcd.filter λc=>decide ([p0] < [c])
noncomputable abbrev ntL(o:List Nat)(p0 p1:Nat):List Nat:=(DH p0 p1).filter (Z1 o p0 p1)
noncomputable abbrev hF3(o:List Nat)(p0 p1:Nat)(fl:List aA):List Pc:=[.lst fl,nB (DH p0 p1),nB (HA o p0 p1)]
noncomputable abbrev hF7(o:List Nat)(p0 p1:Nat)(fl:List aA):List Pc:=[.lst fl,nB (DH p0 p1),nB (HA o p0 p1),nB (wU p1),.lst ((wU p1).map eG++(HA o p0 p1).map eG),nB [p0,p1],.lst ((wU p1).map eG++(HA o p0 p1).map eG++ [p0,p1].map eG)]
theorem W3{p:Nat}:(wU p).length≤4:=dR _ abcd
theorem aIA{p:Nat}:(A6 p).length≤4:=dR _ abcd
theorem nt4:(ntL o p0 p1).length≤4:=aB (dR _ _) W1
theorem W4:(wU p1).map eG++(HA o p0 p1).map eG++ [p0,p1].map eG++(ntL o p0 p1).map eG=(DI o p0 p1).map eG:=by
 unfold DI
 rw[cG,cG,cG]
theorem W5{xs ys:List Nat}{a b:Nat}(h:xs.length≤a)(k:ys.length≤b)(d:eB (a+b) 1000000=true):(xs.map eG).length+(ys.map eG).length≤1000000:=by
 rw[aG,aG];exact aB (dD h k) (aH d)
theorem JJ{xs ys:List Nat}{a b:Nat}(h:xs.length≤a)(k:ys.length≤b):(xs++ys).length≤a+b:=by rw[aE];exact dD h k
theorem aDW:([p0,p1]:List Nat).length≤2:=aZ 2
theorem Z2:(DI o p0 p1).length≤14:=by
 exact JJ (JJ (JJ W3 W2) aDW) nt4
theorem fs3:gd ((sv (o7.th.nt 2) gW).s (mF o p0 p1 B T (some (.aO 1)) (some (.aO 2)) rv (hF3 o p0 p1 fl))) .next (mF o p0 p1 B T (some (.aO 1)) (some (.aO 2)) (some (.aO 8)) (hF7 o p0 p1 fl++ [nB (ntL o p0 p1),nB (DI o p0 p1)])):=by
 refine cD (lcG (need:=[]) (w:=cf3) (x:=gW) (st:=mF o p0 p1 B T (some (.aO 1)) (some (.aO 2)) rv (hF3 o p0 p1 fl)) (a:=.str abcd) (L:=abcd) (inA:=eG) (P:=λ_=>True) (mk:=i3 p0 p1 B T (hF3 o p0 p1 fl)) (nx:=λc=>some (eG c)) (sg0:=none) (R.leaf [] trivial ⋯) (λ_=>rfl) rfl R8 (λc sg acc _ hz=>fa3 hz) (λc acc=>⟨rfl,rfl,R8⟩) (λc=>l9) (λ_ _=>trivial) (by decide)) λsg C=>?_
 rw[uD] at C
 obtain⟨sg,C5⟩:=lcG (need:=[(1,nB (DH p0 p1))]) (w:=cf5) (x:=gW) (st:=mF o p0 p1 B T (some (.aO 1)) (some (.aO 2)) rv (hF7 o p0 p1 fl)) (a:=.aO 1) (L:=DH p0 p1) (inA:=eG) (P:=λ_=>True) (mk:=i5 (HA o p0 p1) fl ((DH p0 p1).map eG) ((wU p1).map eG) ((wU p1).map eG++(HA o p0 p1).map eG) ([p0,p1].map eG) ((wU p1).map eG++(HA o p0 p1).map eG++ [p0,p1].map eG)) (nx:=λc=>some (eG c)) (sg0:=none)
  (R.leaf [] trivial ⋯) (λ_=>rfl) rfl (sK rfl) (λc sg acc _ hz=>fa5 hz) (λc acc=>⟨rfl,rfl,sK rfl⟩) (λc=>l9) (λ_ _=>trivial) (m4 W1)
 rw[uD] at C5
 rw[show nB (DI o p0 p1)= .lst ((wU p1).map eG++(HA o p0 p1).map eG++ [p0,p1].map eG++(ntL o p0 p1).map eG) from congrArg Pc.lst W4.symm]
 exact R.leaf [.cmp (.aO 3) (mF o p0 p1 B T (some (.aO 1)) (some (.aO 2)) rv (hF3 o p0 p1 fl++ [nB (wU p1)])),.cmp (.aO 7) (mF o p0 p1 B T (some (.aO 1)) (some (.aO 2)) rv (hF7 o p0 p1 fl++ [nB (ntL o p0 p1)]))]
  (OK C (W5 (W3 (p:=p1)) (W2 (o:=o) (p0:=p0) (p1:=p1)) rfl) (by decide:2≤1000000) (show((wU p1).map eG++(HA o p0 p1).map eG).length+([p0,p1].map eG).length≤1000000 by rw[←cG];exact W5 (JJ W3 W2) aDW rfl) C5 (show((wU p1).map eG++(HA o p0 p1).map eG++ [p0,p1].map eG).length+((ntL o p0 p1).map eG).length≤1000000 by rw[←cG,←cG];exact W5 (JJ (JJ W3 W2) aDW) nt4 rfl)) ⋯
noncomputable abbrev HB(o:List Nat)(p0 p1:Nat)(fl:List aA):List Pc:=hF7 o p0 p1 fl++ [nB (ntL o p0 p1),nB (DI o p0 p1)]
theorem W6(l:List Nat):kJ (l.map λc=>[c])=l.length:=by
 induction l with
 | nil=>rfl
 | cons c r ih=>exact(congrArg (1+·) ih).trans (cQ 1 _)
theorem fs4:gd ((ev ex4 gW).e (mF o p0 p1 B T (some (.aO 1)) (some (.aO 2)) (some (.aO 8)) (HB o p0 p1 fl))) (.str (told o p0 p1)) (mF o p0 p1 B T (some (.aO 1)) (some (.aO 2)) (some (.aO 8)) (HB o p0 p1 fl++ [nB (A6 p0),nB (oH o p0 p1)])):=by
 refine cD (lcG (need:=[]) (w:=cf6) (x:=gW) (st:=mF o p0 p1 B T (some (.aO 1)) (some (.aO 2)) (some (.aO 8)) (HB o p0 p1 fl)) (a:=.str abcd) (L:=abcd) (inA:=eG) (P:=λ_=>True) (mk:=i6 p0 p1 B T (HB o p0 p1 fl)) (nx:=λc=>some (eG c)) (sg0:=none) (R.leaf [] trivial ⋯) (λ_=>rfl) rfl R8 (λc sg acc _ hz=>fa6 hz) (λc acc=>⟨rfl,rfl,R8⟩) (λc=>l9) (λ_ _=>trivial) (by decide)) λsg C=>?_
 rw[uD] at C
 have e:(DI o p0 p1).map eG++(A6 p0).map eG=(oH o p0 p1).map eG:=cG.symm
 rw[show nB (oH o p0 p1)= .lst ((DI o p0 p1).map eG++(A6 p0).map eG) from congrArg Pc.lst e.symm]
 exact R.leaf [.cmp (.aO 9) (mF o p0 p1 B T (some (.aO 1)) (some (.aO 2)) (some (.aO 8)) (HB o p0 p1 fl++ [nB (A6 p0)])),.strs ((oH o p0 p1).map λc=>[c])]
  (yK C (W5 (Z2 (o:=o) (p0:=p0) (p1:=p1)) (aIA (p:=p0)) rfl) (e.trans (W0 _)) (show kJ ((oH o p0 p1).map λc=>[c])+((oH o p0 p1).map λc=>[c]).length * ([]:List Nat).length≤1000000 by rw[W6,dJ,Nat.mul_zero];exact aB (JJ Z2 aIA:(oH o p0 p1).length≤18) (by decide))) ⋯
end
noncomputable def Pc.tb(T:cI)(p:Pc):Bool:=match p with | .iG S _=>eK S T | _=>false
noncomputable def aLR(T:cI)(H:List Pc):List Nat:=(cE H.length).filter λi=>(H.getD i .gone).tb T
noncomputable def vF(T:cI)(sp:Fx):Fx:=λas kn ks H=>aHR sp as kn ks H (reach H 400 (B4 as++B4 ks++aLR T H) [])
theorem FZ.frT{D:WD}{a:cI}{need:Nat}{sp:Fx}(T:cI)(S:FZ D a need sp):kB D a need (vF T sp):=⟨
 (S.1),
 (λhn h=>dM h λi h=>⟨fS.frame i (S.2 hn (R.aL h)).1 λr H1 q=>dM q λo q=>⟨_,o,q⟩⟩)⟩
theorem aIB{D:WD}{a need:Nat}{ns:fF}{ir:S}{F:lZ->Prop}(T:cI)(f:r8 D a ns ir)(h:∀{n z},need≤n->F z->Bx (fS D (n+1) HN a z.as z.kn z.ks z.H (λr H'=>r=z.r∧H'=z.H'))):kB D a (need+1) (vF T (sW F)):=FZ.frT T ⟨⟨_,_,_,f.1⟩,(kB.s (need:=need) (fx:=sW F) f λ{n as kn ks H Q} hn q=>pN q λw q=>by
 cases w <;> first | exact q.elim | skip
 exact jZ q λp hq=>by
  obtain⟨p,rfl,rfl,rfl,rfl⟩:=p
  exact⟨fS.mono (h hn p).1 λr H' e=>by obtain⟨rfl,rfl⟩:=e;exact hq⟩).2⟩
noncomputable def F7:List (cI×Nat×Fx):=[(47,2,eO (sW y6))]
theorem F7_{D:WD}(O:Wld D):k7 D F7:=.cons (aH3 O) .nil
noncomputable abbrev LG:LmT:=⟨286,284,uB,1⟩
noncomputable abbrev qA:Cx:=K9 RR 2 GT (sS F7 [] none) (some LG)
noncomputable abbrev uC:S:=LD.nt 0
noncomputable abbrev E.a1(e:E):E:=e.a0
noncomputable abbrev r9:E:=((uC.th.nt 0).p8.a1.a1.a1)
noncomputable abbrev zB:Pos:=dp 5344976
noncomputable abbrev pre(r:List Nat)(n:Nat):List Nat:=iX r none (some (n:Int)) none
noncomputable def LK(n:Nat)(o r:List Nat):Bool:=decide (pre r n < pre o n)
noncomputable def GE(rows:List (List Nat))(n:Nat)(o:List Nat):Nat:=((rows.filter (LK n o)).map aA.str).length
noncomputable def pP(rows:List (List Nat))(n:Nat)(o:List Nat)(lo hi:Int):Int:=if hi < (if lo > (GE rows n o:Int) then lo else(GE rows n o:Int)) then hi else(if lo > (GE rows n o:Int) then lo else(GE rows n o:Int))
noncomputable abbrev mA(o:List Nat)(lo hi:Nat)(d:Option aA)(n:Option aA)(H:List Pc):aK:=⟨[some (.aO 0),some (.str o),some (.int lo),some (.int hi),d,n,some (.typ "range"),some (.blt "min"),some (.blt "max"),some (.blt "len"),some (.ref 47)],H⟩
section
variable {rows:List (List Nat)} {o:List Nat} {lo hi n:Nat} {d:Option aA} {zs:List (Pos×Nat)}
noncomputable abbrev iP(o:List Nat)(n:Nat)(H:List Pc)(r:Option aA)(acc:List (List Nat)):aK:=⟨[none,r,some (.int n),some (.str o)],H++ [bL acc]⟩
theorem strs_snoc{l:List (List Nat)}{x:List Nat}{b:Bool}:bL (l++cond b [x] [])= .lst (l.map .str++(cond b [x] []).map .str):=by unfold bL;rw[cG]
noncomputable abbrev NW(rows:List (List Nat)):List Pc:=[bL rows,.iG 284 [],.oK 5]
noncomputable abbrev DJ(rows:List (List Nat)):List Pc:=[bL rows,.iG 284 [(zB,3)],.oK 5,.pC uB]
theorem pl0{sg:Option aA}{acc:List (List Nat)}{x:List Nat}(hx:x.length≤1000000)(ho:o.length≤1000000)(hz:acc.length≤1000000):gd (m9 r9.tg r9.ifs r9.el (qA.lI r9.sc) 3 (.str x) (iP o n (NW rows) sg acc)) () (iP o n (NW rows) (some (.str x)) (acc++cond (LK n o x) [x] [])):=by
 unfold iP
 rw[strs_snoc]
 have hz:(acc.map aA.str).length≤1000000:=by rw[aG];exact hz
 cases h1:LK n o x with
 | false=>rw[show(cond false [x] []).map aA.str= [] from rfl,bQ];exact R.leaf [.n] (vC hx ho h1) ⋯
 | true=>exact R.leaf [.y] (yK hx ho h1 hz) ⋯
theorem pl1{sg:Option aA}{acc:List (List Nat)}{x:List Nat}(hx:x.length≤1000000)(ho:o.length≤1000000)(hz:acc.length≤1000000):gd (m9 r9.tg r9.ifs r9.el (qA.lI r9.sc) 4 (.str x) (iP o n (DJ rows) sg acc)) () (iP o n (DJ rows) (some (.str x)) (acc++cond (LK n o x) [x] [])):=by
 unfold iP
 rw[strs_snoc]
 have hz:(acc.map aA.str).length≤1000000:=by rw[aG];exact hz
 cases h1:LK n o x with
 | false=>rw[show(cond false [x] []).map aA.str= [] from rfl,bQ];exact R.leaf [.n] (vC hx ho h1) ⋯
 | true=>exact R.leaf [.y] (yK hx ho h1 hz) ⋯
inductive kC(rows:List (List Nat))(o:List Nat)(hi:Nat):Prop where
 | mk (z:rows.length≤1000) (r:∀x∈rows,x.length≤1000) (o:o.length≤1000) (hi:hi≤rows.length)
theorem kC.sma(K:kC rows o hi):Sma rows:=λj=>by
 rw[bO]
 cases e:rows[j]? with
 | none=>exact cO _
 | some x=>exact aB (K.2 x (aN e)) (by decide)
theorem DK:((rows.filter (LK n o)).map aA.str).length≤rows.length:=by rw[aG];exact dR _ _
theorem OO{n:Nat}(h:n≤1000):n≤1000000:=aB h (by decide)
theorem aLS(K:kC rows o hi):gd ((sv (uC.th.nt 0) qA).s (mA o lo hi d (some (.int n)) (NW rows))) .next (mA o lo hi (some (.int (pP rows n o lo hi))) (some (.int n)) (NW rows++ [bL (rows.filter (LK n o))])):=by
 refine cD (lcG (need:=[(0,bL rows)]) (w:=r9) (x:=qA) (st:=mA o lo hi d (some (.int n)) (NW rows)) (a:=.aO 0) (L:=rows) (inA:=aA.str) (P:=λx=>x.length≤1000) (mk:=iP o n (NW rows)) (nx:=λc=>some (.str c)) (sg0:=none) (R.leaf [] trivial ⋯) (λ_=>rfl) rfl (sK rfl) (λc sg acc hx hz=>pl0 (OO hx) (OO K.3) hz) (λc acc=>⟨rfl,rfl,sK rfl⟩) (λc=>l9) K.2 (OO K.1)) λsg C=>?_
 rw[uD] at C
 exact R.leaf [.cmp (.aO 3) (mA o lo hi d (some (.int n)) (NW rows++ [bL (rows.filter (LK n o))]))] (oU C (aB DK (OO K.1):((rows.filter (LK n o)).map aA.str).length≤1000000)) ⋯
theorem aLT(K:kC rows o hi):gd ((sv (uC.th.nt 0) qA).s (mA o lo hi d (some (.int n)) (DJ rows))) .next (mA o lo hi (some (.int (pP rows n o lo hi))) (some (.int n)) (DJ rows++ [bL (rows.filter (LK n o))])):=by
 refine cD (lcG (need:=[(0,bL rows)]) (w:=r9) (x:=qA) (st:=mA o lo hi d (some (.int n)) (DJ rows)) (a:=.aO 0) (L:=rows) (inA:=aA.str) (P:=λx=>x.length≤1000) (mk:=iP o n (DJ rows)) (nx:=λc=>some (.str c)) (sg0:=none) (R.leaf [] trivial ⋯) (λ_=>rfl) rfl (sK rfl) (λc sg acc hx hz=>pl1 (OO hx) (OO K.3) hz) (λc acc=>⟨rfl,rfl,sK rfl⟩) (λc=>l9) K.2 (OO K.1)) λsg C=>?_
 rw[uD] at C
 exact R.leaf [.cmp (.aO 4) (mA o lo hi d (some (.int n)) (DJ rows++ [bL (rows.filter (LK n o))]))] (oU C (aB DK (OO K.1):((rows.filter (LK n o)).map aA.str).length≤1000000)) ⋯
inductive pH(rows:List (List Nat))(o:List Nat)(lo hi n:Nat):Prop where
 | mk (t:(((y4 (ltT rows (pre o n)) hi lo hi:Nat):Int) !=pP rows n o lo hi)=false) (p:(((y4 (ltP rows n (pre o n)) hi lo hi:Nat):Int) !=pP rows n o lo hi)=false)
noncomputable abbrev hP2(rows cs:List (List Nat)):List Pc:=[bL rows,.iG 284 [(zB,4)],.oK 5,bL cs,.pC uB]
theorem aLU{cs:List (List Nat)}(K:kC rows o hi)(E:pH rows o lo hi n):gd ((sv (uC.th.nt 1) qA).s (mA o lo hi (some (.int (pP rows n o lo hi))) (some (.int n)) (NW rows++ [bL cs]))) .next (mA o lo hi (some (.int (pP rows n o lo hi))) (some (.int n)) (hP2 rows cs)):=
 R.leaf [.lG (zBt rows (pre o n) lo hi),.n,.lG (zBp rows n (pre o n) lo hi),.n] (pU (OO K.3:o.length≤1000000) (OK (jN (y6.txt rows (pre o n) lo hi K.1 K.4)) E.1 (OO K.3:o.length≤1000000) (jN (y6.pre rows n (pre o n) lo hi K.sma K.1 K.4)) (rfl:hP2 rows cs++ [Pc.wI NS uB 6 4,.rC (.int n)]=hP2 rows cs++ [Pc.wI NS uB 6 4,.rC (.int n)]) E.2)) ⋯
theorem aLV{cs:List (List Nat)}(K:kC rows o hi)(E:pH rows o lo hi n):gd ((sv (uC.th.nt 1) qA).s (mA o lo hi (some (.int (pP rows n o lo hi))) (some (.int n)) (DJ rows++ [bL cs]))) .next (mA o lo hi (some (.int (pP rows n o lo hi))) (some (.int n)) (DJ rows++ [bL cs])):=
 R.leaf [.lG (zBt rows (pre o n) lo hi),.n,.lG (zBp rows n (pre o n) lo hi),.n] (pU (OO K.3:o.length≤1000000) (OK (jN (y6.txt rows (pre o n) lo hi K.1 K.4)) E.1 (OO K.3:o.length≤1000000) (jN (y6.pre rows n (pre o n) lo hi K.sma K.1 K.4)) (rfl:DJ rows++ [bL cs]++ [Pc.wI NS uB 6 3,.rC (.int n)]=DJ rows++ [bL cs]++ [Pc.wI NS uB 6 3,.rC (.int n)]) E.2)) ⋯
theorem zC{y:aA}{ys:List aA}{st fR bW fL:aK}{fl:bU}(t:gd (dU uC qA y st) .next fR)(a:MS true 3 fR.H=true)(c:ET true 3 fR=bW)(g:gd (forL true (dU uC qA) [] 3 ys bW) fl fL):gd (forL true (dU uC qA) [] 3 (y::ys) st) fl fL:=by
 subst c
 exact dP t (n6 a g)
theorem plA(K:kC rows o hi)(E:pH rows o lo hi n){m:Option aA}:gd (dU uC qA (.int n) (mA o lo hi d m (NW rows))) .next (mA o lo hi (some (.int (pP rows n o lo hi))) (some (.int n)) (hP2 rows (rows.filter (LK n o)))):=
 dP (a:=()) (k:=λ_ st1=>(sv uC.th qA).k st1) (st:=mA o lo hi d (some (.int n)) (NW rows)) (R.leaf [] trivial ⋯) (rH (aLS K) (mE (aLU K E) ⋯))
theorem plB(K:kC rows o hi)(E:pH rows o lo hi n){m:Option aA}:gd (dU uC qA (.int n) (mA o lo hi d m (DJ rows))) .next (mA o lo hi (some (.int (pP rows n o lo hi))) (some (.int n)) (DJ rows++ [bL (rows.filter (LK n o))])):=
 dP (a:=()) (k:=λ_ st1=>(sv uC.th qA).k st1) (st:=mA o lo hi d (some (.int n)) (DJ rows)) (R.leaf [] trivial ⋯) (rH (aLT K) (mE (aLV K E) ⋯))
theorem plC(K:kC rows o hi)(E:∀n < 5,pH rows o lo hi n):gd (forL true (dU uC qA) [] 3 [.int (0:Nat),.int (1:Nat),.int (2:Nat),.int (3:Nat),.int (4:Nat)] (mA o lo hi none none (NW rows))) .next (mA o lo hi (some (.int (pP rows 4 o lo hi))) (some (.int (4:Nat))) (DJ rows)):=
 zC (plA K (E 0 (by decide))) ⋯ ⋯ (zC (plB (d:=some (.int (pP rows 0 o lo hi))) (m:=some (.int (0:Nat))) K (E 1 (by decide))) ⋯ ⋯ (zC (plB (d:=some (.int (pP rows 1 o lo hi))) (m:=some (.int (1:Nat))) K (E 2 (by decide))) ⋯ ⋯ (zC (plB (d:=some (.int (pP rows 2 o lo hi))) (m:=some (.int (2:Nat))) K (E 3 (by decide))) ⋯ ⋯ (zC (plB (d:=some (.int (pP rows 3 o lo hi))) (m:=some (.int (3:Nat))) K (E 4 (by decide))) ⋯ ⋯ AU))))
theorem plD(K:kC rows o hi)(E:∀n < 5,pH rows o lo hi n):((sv LD qA).k (mA o lo hi none none [bL rows,.iG 284 []])).good (.ok (.ret (.bool true)) (mA o lo hi (some (.int (pP rows 4 o lo hi))) (some (.int (4:Nat))) (DJ rows))):=
 rH (aHW true (a:=.aO 2) (ys:=[.int (0:Nat),.int (1:Nat),.int (2:Nat),.int (3:Nat),.int (4:Nat)]) (need:=[]) (s1:=mA o lo hi none none (NW rows)) (s2:=mA o lo hi none none (NW rows)) ⋯ rfl (R.leaf [.nat 5] (oU (rfl:((5:Nat):Int)=((5:Nat):Int)) (by decide:5 < 1000000)) ⋯) (λk q=>pU (by decide:5 < 1000000) q) (plC K E)) (R.leaf (o:=Oc.ok (bU.ret (.bool true)) (mA o lo hi (some (.int (pP rows 4 o lo hi))) (some (.int (4:Nat))) (DJ rows))) [] trivial ⋯)
inductive PlS:lZ->Prop
 | mk (rows:List (List Nat)) (o:List Nat) (lo hi:Nat) (K:kC rows o hi) (E:∀n < 5,pH rows o lo hi n):PlS { as:=[.aO 0,.str o,.int lo,.int hi],H:=[bL rows,.iG 284 []],r:=.bool true,H':=DJ rows }
theorem aIC{D:WD}(O:Wld D):kB D 287 3 (vF 284 (sW PlS)):=aIB 284 O.17 λ{n z} hn h=>by
 obtain⟨rows,o,lo,hi,K,E⟩:=h
 exact O.17.RD (k:=2) (lm:=some LG) (O.env (F7_ O)) O.LG ⋯ hn O.39 ⋯ (plD K E) ⟨rfl,rfl⟩
end
noncomputable def zY(c:Nat):Bool:=c==10 || c==9 || c==13 || c==32
noncomputable def nC(signs:List Nat)(ln:Nat):Nat:=cond (signs.take 1==[10]) (ln+1) ln
noncomputable abbrev x82:Cx:=D6 aDB 1 GT (sS [] [] (some WQ))
section
variable {D:WD} {X:kW} {pend:List (List Nat)} {signs:List Nat} {ln:Nat}
theorem rc1(L:eI X)(hz:signs.length≤1000000):((sv aHU x82).k ⟨[some (.aO 0),none],jO X pend signs ln⟩).good (.ok (.ret (.str (signs.take 1))) ⟨[some (.aO 0),some (.str (signs.take 1))],jO X pend signs.tail (nC signs ln)⟩):=by
 have z:=jN (RdS.mk X L pend signs ln hz)
 unfold nC
 cases c:signs.take 1==[10] with
 | true=>exact R.leaf [.lG (zRd X pend signs ln),.y] (oU z c) ⋯
 | false=>exact R.leaf [.lG (zRd X pend signs ln),.n] (oU z c) ⋯
noncomputable abbrev zRc(X:kW)(pend:List (List Nat))(signs:List Nat)(ln:Nat):lZ:={ as:=[.aO 0],H:=jO X pend signs ln,r:=.str (signs.take 1),H':=jO X pend signs.tail (nC signs ln) }
inductive Z3:lZ->Prop
 | mk (X:kW) (L:eI X) (pend:List (List Nat)) (signs:List Nat) (ln:Nat) (hz:signs.length≤1000000):Z3 (zRc X pend signs ln)
theorem aLW(O:Wld D):kB D 82 2 (eO (sW Z3)):=TP O.9 λ{n z} hn h=>by
 obtain⟨X,L,pend,signs,ln,hz⟩:=h
 exact O.9.run (k:=1) (O.WR .nil) ⋯ hn O.31 ⋯ (rc1 L hz) ⟨rfl,rfl⟩
theorem pu1{t:List Nat}(hz:pend.length≤1000000):((sv aHV (D6 aDD 0 GT (sS [] [] none))).k ⟨[some (.aO 0),some (.str t)],jO X pend signs ln⟩).good (.ok .next ⟨[some (.aO 0),some (.str t)],jO X (pend++ [t]) signs ln⟩):=by
 unfold jO
 rw[cG]
 exact R.leaf [] (kU (show(pend.map aA.str).length≤1000000 by rw[aG];exact hz)) ⋯
inductive PuS:lZ->Prop
 | mk (X:kW) (pend:List (List Nat)) (signs:List Nat) (ln:Nat) (t:List Nat) (hz:pend.length≤1000000):PuS { as:=[.aO 0,.str t],H:=jO X pend signs ln,r:=.none,H':=jO X (pend++ [t]) signs ln }
theorem aID(O:Wld D):kB D 96 1 (eO (sW PuS)):=TP O.11 λ{n z} hn h=>by
 obtain⟨X,pend,signs,ln,t,hz⟩:=h
 exact O.11.run (k:=0) (O.env .nil) ⋯ hn O.33 ⋯ (pu1 hz) ⟨rfl,rfl⟩
noncomputable def F3:List (cI×Nat×Fx):=[(82,2,eO (sW Z3))]
theorem F3_(O:Wld D):k7 D F3:=.cons (aLW O) .nil
noncomputable abbrev mI:Cx:=D6 aDC 3 GT (sS F3 [] (some WQ))
noncomputable abbrev aIE(X:kW)(signs:List Nat)(ln:Nat)(it:Pc):List Pc:=jO X [] signs ln++ [.m6 82 0,it]
noncomputable abbrev hC:Pc:=.hC 10 []
noncomputable abbrev mG(X:kW)(tok:List Nat)(ch:Option aA)(signs:List Nat)(ln:Nat)(it:Pc):aK:=⟨[some (.aO 0),some (.str tok),some (.aO 11),ch,some (.blt "iter")],aIE X signs ln it⟩
theorem tk1(t:List Nat)(r:List (List Nat))(hz:(((t::r).map aA.str)).length≤1000000):((sv RF mI).k ⟨[some (.aO 0),none,none,none,some (.blt "iter")],jO X (t::r) signs ln⟩).good (.ok (.ret (.str t)) ⟨[some (.aO 0),none,none,none,some (.blt "iter")],jO X r signs ln⟩):=
 R.leaf [.s,.item 0 (.str t)] (vC hz hz (show sO 0 ((t::r).map aA.str).length=some 0∧((t::r).map aA.str)[0]? =some (.str t) from⟨mN (j:=0) (j2 _),rfl⟩)) ⋯
theorem tk2:gd ((sv (RF.tk 3) mI).k ⟨[some (.aO 0),none,none,none,some (.blt "iter")],jO X [] signs ln⟩) .next (mG X [] none signs ln hC):=R.leaf [] (kU (cO _:([]:List aA).length≤1000000)) ⋯
theorem nx1{tok:List Nat}{ch:Option aA}(L:eI X)(c:Nat)(r:List Nat)(hz:(c::r).length≤1000000):gd (IY mI 11 (mG X tok ch (c::r) ln hC)) (some (.str [c])) (mG X tok ch r (nC (c::r) ln) hC):=
 R.leaf [.lG (zRc X [] (c::r) ln)] (oU (jN (Z3.mk X L [] (c::r) ln hz)) (show(10,([]:List Nat))=(10,[])∧(82,0)=(82,0) from⟨rfl,rfl⟩)) ⋯
theorem nx0{tok:List Nat}{ch:Option aA}(L:eI X):gd (IY mI 11 (mG X tok ch [] ln hC)) none (mG X tok ch [] ln .tL):=
 R.leaf [.lG (zRc X [] [] ln)] (oU (jN (Z3.mk X L [] [] ln (cO _))) (show(10,([]:List Nat))=(10,[])∧(82,0)=(82,0) from⟨rfl,rfl⟩)) ⋯
theorem nxe{tok:List Nat}{ch:Option aA}:gd (IY mI 11 (mG X tok ch [] ln .tL)) none (mG X tok ch [] ln .tL):=R.leaf [] trivial ⋯
end
noncomputable def zD:List Nat->List Nat->Nat->List Nat×List Nat×Nat
 | [],acc,ln=>(acc,[],ln)
 | c::r,acc,ln=>cond (c==34) (acc,r,nC [c] ln) (cond (c==92) (match r with
  | []=>(acc++ [],[],nC [c] ln)
  | d::r'=>zD r' (acc++ [d]) (nC [d] (nC [c] ln))) (zD r (acc++ [c]) (nC [c] ln)))
noncomputable def rI:List Nat->List Nat->Nat->List Nat×List Nat×Nat
 | [],acc,ln=>(acc,[],ln)
 | c::r,acc,ln=>cond (zY c) (acc,r,nC [c] ln) (cond (c==92) (match r with
  | []=>(acc++ [],[],nC [c] ln)
  | d::r'=>rI r' (acc++ [d]) (nC [d] (nC [c] ln))) (rI r (acc++ [c]) (nC [c] ln)))
noncomputable def qC(l:List Nat)(a1:Nat):List Nat×List Nat×Nat:=
 List.rec (motive:=λ_=>Nat->List Nat×List Nat×Nat) (λln=>([],[],ln)) (λc r ih ln=>cond (zY c) (ih (nC [c] ln)) (cond (c==34) (zD r [] (nC [c] ln)) (cond (c==92) (rI r.tail (r.take 1) (nC r (nC [c] ln))) (rI r [c] (nC [c] ln))))) l a1
theorem zE(c:Nat)(r:List Nat)(ln:Nat):qC (c::r) ln=cond (zY c) (qC r (nC [c] ln)) (cond (c==34) (zD r [] (nC [c] ln)) (cond (c==92) (rI r.tail (r.take 1) (nC r (nC [c] ln))) (rI r [c] (nC [c] ln)))):=rfl
theorem vG(c:Nat)(r acc:List Nat)(ln:Nat):zD (c::r) acc ln=cond (c==34) (acc,r,nC [c] ln) (cond (c==92) (zD r.tail (acc++r.take 1) (nC r (nC [c] ln))) (zD r (acc++ [c]) (nC [c] ln))):=by cases r <;> rfl
theorem qZ(c:Nat)(r acc:List Nat)(ln:Nat):rI (c::r) acc ln=cond (zY c) (acc,r,nC [c] ln) (cond (c==92) (rI r.tail (acc++r.take 1) (nC r (nC [c] ln))) (rI r (acc++ [c]) (nC [c] ln))):=by cases r <;> rfl
theorem A7{c d:Nat}{b:Bool}(h:(c==d)=b):([c]==[d])=b:=(MG _).trans h
theorem LM(c d:Nat):([d]==[c])=(c==d):=(MG _).trans (Bool.beq_comm)
theorem uE(c:Nat):(jR OM [c] 0 OM.length).isSome=zY c:=by
 have e:(jR OM [c] 0 OM.length).isSome=(([10]==[c]) || (([9]==[c]) || (([13]==[c]) || (([32]==[c]) || false)))):=List.isSome_find?
 rw[e,LM,LM,LM,LM,Bool.or_false]
 unfold zY
 rw[Bool.or_assoc,Bool.or_assoc]
section
variable {D:WD} {X:kW} {signs:List Nat} {ln:Nat}
noncomputable abbrev D7:S:=RF.nt 3
noncomputable abbrev fQ:S:=(D7.th.nt 1).th.nt 0
noncomputable abbrev fB:S:=(D7.th.nt 1).el.nt 2
theorem q1{tok r:List Nat}{c:Nat}{ch:Option aA}(h:(c==34)=true):gd (dU fQ mI (.str [c]) (mG X tok ch r ln hC)) (.ret (.str tok)) (mG X tok (some (.str [c])) r ln hC):=R.leaf [.y] (kU (A7 h)) ⋯
theorem q2{tok r:List Nat}{c:Nat}{ch:Option aA}(L:eI X)(h:(c==34)=false)(h2:(c==92)=true)(hr:r.length≤1000000)(hz:tok.length+(r.take 1).length≤1000000):gd (dU fQ mI (.str [c]) (mG X tok ch r ln hC)) .next (mG X (tok++r.take 1) (some (.str (r.take 1))) r.tail (nC r ln) hC):=R.leaf [.n,.y,.lG (zRc X [] r ln)] (yK (A7 h) (A7 h2) (jN (Z3.mk X L [] r ln hr)) hz) ⋯
theorem q3{tok r:List Nat}{c:Nat}{ch:Option aA}(h:(c==34)=false)(h2:(c==92)=false)(hz:tok.length+ [c].length≤1000000):gd (dU fQ mI (.str [c]) (mG X tok ch r ln hC)) .next (mG X (tok++ [c]) (some (.str [c])) r ln hC):=R.leaf [.n,.n] (vC (A7 h) (A7 h2) hz) ⋯
theorem b1{tok r:List Nat}{c:Nat}{ch:Option aA}(h:zY c=true):gd (dU fB mI (.str [c]) (mG X tok ch r ln hC)) (.ret (.str tok)) (mG X tok (some (.str [c])) r ln hC):=R.leaf [.y] (kU ((uE c).trans h)) ⋯
theorem b2{tok r:List Nat}{c:Nat}{ch:Option aA}(L:eI X)(h:zY c=false)(h2:(c==92)=true)(hr:r.length≤1000000)(hz:tok.length+(r.take 1).length≤1000000):gd (dU fB mI (.str [c]) (mG X tok ch r ln hC)) .next (mG X (tok++r.take 1) (some (.str (r.take 1))) r.tail (nC r ln) hC):=R.leaf [.n,.y,.lG (zRc X [] r ln)] (yK ((uE c).trans h) (A7 h2) (jN (Z3.mk X L [] r ln hr)) hz) ⋯
theorem b3{tok r:List Nat}{c:Nat}{ch:Option aA}(h:zY c=false)(h2:(c==92)=false)(hz:tok.length+ [c].length≤1000000):gd (dU fB mI (.str [c]) (mG X tok ch r ln hC)) .next (mG X (tok++ [c]) (some (.str [c])) r ln hC):=R.leaf [.n,.n] (vC ((uE c).trans h) (A7 h2) hz) ⋯
inductive A8(X:kW)(r:R aK bU)(z:List Nat×List Nat×Nat):Prop
 | ret (ch:Option aA) (g:gd r (.ret (.str z.1)) (mG X z.1 ch z.2.1 z.2.2 hC))
 | over (ch:Option (List Nat)) (e:z.2.1= []) (g:gd r .next (mG X z.1 (ch.map aA.str) [] z.2.2 .tL))
theorem itL{tok r:List Nat}{ch:Option aA}:uA 11 (mG X tok ch r ln hC)=true:=⋯
theorem alL{r:List Nat}{it:Pc}(h:it=hC∨it= .tL):lK 12 12 (aIE X r ln it)=true:=by cases h <;> (subst it;kernel_rfl)
theorem aDX{tok r w:List Nat}{it:Pc}:(mG X tok (some (.str w)) r ln it).cut 12=mG X tok (some (.str w)) r ln it:=⋯
theorem aLX{tok r:List Nat}{it:Pc}:(mG X tok none r ln it).cut 12=mG X tok none r ln it:=⋯
theorem GF{f:S}{k:Nat}{tok aIF r r':List Nat}{c l':Nat}{ch:Option aA}{s':List Nat}{z:List Nat×List Nat×Nat}{f0:bU}(q:f0= .next∨f0= .cont)(L:eI X)(hz:(c::r).length≤1000000)(t:gd (dU f mI (.str [c]) (mG X tok ch r (nC (c::r) ln) hC)) f0 (mG X aIF (some (.str s')) r' l' hC))
  (e:A8 X (n4 mI (dU f mI) 11 12 k (mG X aIF (some (.str s')) r' l' hC)) z):A8 X (n4 mI (dU f mI) 11 12 (k+1) (mG X tok ch (c::r) ln hC)) z:=by
 cases e with
 | ret ch g=>exact .ret ch (GA (nx1 L c r hz) itL t q (alL (.inl rfl)) aDX g)
 | over ch e g=>exact .over ch e (GA (nx1 L c r hz) itL t q (alL (.inl rfl)) aDX g)
theorem aIG{f:S}{k:Nat}{tok r:List Nat}{c:Nat}{ch:Option aA}(L:eI X)(hz:(c::r).length≤1000000)(t:gd (dU f mI (.str [c]) (mG X tok ch r (nC (c::r) ln) hC)) (.ret (.str tok)) (mG X tok (some (.str [c])) r (nC (c::r) ln) hC)):A8 X (n4 mI (dU f mI) 11 12 (k+1) (mG X tok ch (c::r) ln hC)) (tok,r,nC [c] ln):=
 .ret (some (.str [c])) (ZV (nx1 L c r hz) itL t)
theorem tz{tok r:List Nat}{c:Nat}(hz:tok.length+(c::r).length≤1000000):tok.length+(r.take 1).length≤1000000:=aB (bI (aB (gZ _ _) (cH (cO _))) _) hz
theorem tl{r:List Nat}{c k:Nat}(h:(c::r).length < k+1):r.tail.length < k:=bA (by rw[List.length_tail];exact MH _ _) (g8 h)
theorem tz2{tok r:List Nat}{c:Nat}(hz:tok.length+(c::r).length≤1000000):(tok++r.take 1).length+r.tail.length≤1000000:=by
 rw[aE,b9]
 refine aB (bI ?_ _) hz
 cases r with
 | nil=>exact cO _
 | cons d r=>exact aB (cC (cQ 1 r.length)) (eW _)
theorem lQ(L:eI X)(k:Nat):∀(signs tok:List Nat) (ch:Option (List Nat)) (ln:Nat),signs.length < k->tok.length+signs.length≤1000000->A8 X (n4 mI (dU fQ mI) 11 12 k (mG X tok (ch.map aA.str) signs ln hC)) (zD signs tok ln):=by
 induction k with
 | zero=>exactλ_ _ _ _ h=>absurd h (lR _)
 | succ k ih=>
  intro signs tok ch ln h hz
  cases signs with
  | nil=>exact .over ch rfl (B6 (nx0 L))
  | cons c r=>
   have hs:(c::r).length≤1000000:=aB (fO _ _) hz
   have hr:r.length≤1000000:=i9 hs
   rw[vG]
   cases e:c==34 with
   | true=>exact aIG L hs (q1 e)
   | false=>
    cases e2:c==92 with
    | true=>exact GF (.inl rfl) L hs (q2 L e e2 hr (tz hz)) (ih r.tail (tok++r.take 1) (some (r.take 1)) _ (tl h) (tz2 hz))
    | false=>exact GF (.inl rfl) L hs (q3 e e2 (aB (bI (cH (cO _)) _) hz)) (ih r (tok++ [c]) (some [c]) _ (g8 h) (by rw[aE,b9,cQ _ r.length];exact hz))
theorem lB(L:eI X)(k:Nat):∀(signs tok:List Nat) (ch:Option (List Nat)) (ln:Nat),signs.length < k->tok.length+signs.length≤1000000->A8 X (n4 mI (dU fB mI) 11 12 k (mG X tok (ch.map aA.str) signs ln hC)) (rI signs tok ln):=by
 induction k with
 | zero=>exactλ_ _ _ _ h=>absurd h (lR _)
 | succ k ih=>
  intro signs tok ch ln h hz
  cases signs with
  | nil=>exact .over ch rfl (B6 (nx0 L))
  | cons c r=>
   have hs:(c::r).length≤1000000:=aB (fO _ _) hz
   have hr:r.length≤1000000:=i9 hs
   rw[qZ]
   cases e:zY c with
   | true=>exact aIG L hs (b1 e)
   | false=>
    cases e2:c==92 with
    | true=>exact GF (.inl rfl) L hs (b2 L e e2 hr (tz hz)) (ih r.tail (tok++r.take 1) (some (r.take 1)) _ (tl h) (tz2 hz))
    | false=>exact GF (.inl rfl) L hs (b3 e e2 (aB (bI (cH (cO _)) _) hz)) (ih r (tok++ [c]) (some [c]) _ (g8 h) (by rw[aE,b9,cQ _ r.length];exact hz))
theorem t1{r:List Nat}{c:Nat}{ch:Option aA}(h:zY c=true):gd (dU D7 mI (.str [c]) (mG X [] ch r ln hC)) .cont (mG X [] (some (.str [c])) r ln hC):=R.leaf [.y] (kU ((uE c).trans h)) ⋯
theorem tg{r:List Nat}{c:Nat}{ch:Option aA}:gd ((ev D7.p8 mI).g (.str [c]) (mG X [] ch r ln hC)) () (mG X [] (some (.str [c])) r ln hC):=R.leaf [] trivial ⋯
theorem ti{r:List Nat}{c:Nat}(h:zY c=false):gd ((sv (D7.th.nt 0) mI).s (mG X [] (some (.str [c])) r ln hC)) .next (mG X [] (some (.str [c])) r ln hC):=R.leaf [.n] (kU ((uE c).trans h)) ⋯
theorem tq{r:List Nat}{c:Nat}{b:Bool}(h:(c==34)=b):gd ((ev (D7.th.nt 1).p8 mI).t (mG X [] (some (.str [c])) r ln hC)) (c==34) (mG X [] (some (.str [c])) r ln hC):=by
 rw[←A7 (d:=34) (rfl:(c==34)=(c==34))]
 exact R.leaf [] trivial ⋯
theorem tb1{r:List Nat}{c:Nat}(L:eI X)(h2:(c==92)=true)(hr:r.length≤1000000):gd ((sv ((D7.th.nt 1).el.tk 2) mI).k (mG X [] (some (.str [c])) r ln hC)) .next (mG X (r.take 1) (some (.str (r.take 1))) r.tail (nC r ln) hC):=R.leaf [.y,.lG (zRc X [] r ln)] (vC (A7 h2) (jN (Z3.mk X L [] r ln hr)) (show([]:List Nat).length+(r.take 1).length≤1000000 from by rw[dJ,cZ];exact aB (gZ _ _) (by decide))) ⋯
theorem tb2{r:List Nat}{c:Nat}(h2:(c==92)=false):gd ((sv ((D7.th.nt 1).el.tk 2) mI).k (mG X [] (some (.str [c])) r ln hC)) .next (mG X [c] (some (.str [c])) r ln hC):=R.leaf [.n] (oU (A7 h2) (show([]:List Nat).length+ [c].length≤1000000 from(by decide:0+1≤1000000))) ⋯
theorem iQ'{tok r:List Nat}{ch:Option aA}:gd ((ev fQ.y0 mI).e (mG X tok ch r ln hC)) (.aO 11) (mG X tok ch r ln hC):=R.leaf [] trivial ⋯
theorem iB'{tok r:List Nat}{ch:Option aA}:gd ((ev fB.y0 mI).e (mG X tok ch r ln hC)) (.aO 11) (mG X tok ch r ln hC):=R.leaf [] trivial ⋯
theorem LN{s:S}{st1 bW:aK}{st:aK}{l:Nat}{fl:bU}{x:Cx}(k:s.kd=4)(hn:x.hn=true)(h:gd ((ev s.y0 x).e st) (.aO l) st1)(c:uA l st1=true)(g:gd (n4 x (dU s x) l st1.H.length fuel st1) fl bW):gd ((sv s x).s st) fl bW:=by
 refine wG (kd3 k) λt it b p wN=>?_;subst wN
 exact n6 hn (R.good.bind h (n6 c (ZT g)))
theorem tQ{r:List Nat}{c:Nat}{ch:Option aA}(L:eI X)(h:zY c=false)(h2:(c==34)=true)(hz:r.length≤900000):A8 X (dU D7 mI (.str [c]) (mG X [] ch r ln hC)) (zD r [] ln):=by
 have T:=tq (X:=X) (r:=r) (ln:=ln) h2
 rw[h2] at T
 have f:∀{fl st},gd (n4 mI (dU fQ mI) 11 12 fuel (mG X [] (some (.str [c])) r ln hC)) fl st->gd ((sv fQ mI).s (mG X [] (some (.str [c])) r ln hC)) fl st:=λg=>LN (l:=11) (st1:=mG X [] (some (.str [c])) r ln hC) ⋯ rfl iQ' rfl g
 cases lQ (X:=X) L fuel r [] (some [c]) ln (bA hz (by decide)) (by rw[dJ,cZ];exact aB hz (by decide)) with
 | ret R9 g=>exact .ret R9 (dP tg (rH (ti h) (mE (RT ⋯ T (I9 (f g))) ⋯)))
 | over R9 e g=>exact .over R9 e (dP tg (rH (ti h) (mE (RT ⋯ T (mE (f g) ⋯)) ⋯)))
theorem tB{r r' tok w:List Nat}{c l':Nat}{ch:Option aA}(L:eI X)(h:zY c=false)(h2:(c==34)=false)(hz:tok.length+r'.length≤900000)(g0:gd ((sv ((D7.th.nt 1).el.tk 2) mI).k (mG X [] (some (.str [c])) r ln hC)) .next (mG X tok (some (.str w)) r' l' hC)):A8 X (dU D7 mI (.str [c]) (mG X [] ch r ln hC)) (rI r' tok l'):=by
 have T:=tq (X:=X) (r:=r) (ln:=ln) h2
 rw[h2] at T
 have f:∀{fl st},gd (n4 mI (dU fB mI) 11 12 fuel (mG X tok (some (.str w)) r' l' hC)) fl st->gd ((sv fB mI).s (mG X tok (some (.str w)) r' l' hC)) fl st:=λg=>LN (l:=11) (st1:=mG X tok (some (.str w)) r' l' hC) ⋯ rfl iB' rfl g
 cases lB (X:=X) L fuel r' tok (some w) l' (bA (aB (fO _ _) hz) (by decide)) (aB hz (by decide)) with
 | ret R9 g=>exact .ret R9 (dP tg (rH (ti h) (mE (LF ⋯ T (oY 2 g0 (I9 (f g)))) ⋯)))
 | over R9 e g=>exact .over R9 e (dP tg (rH (ti h) (mE (LF ⋯ T (oY 2 g0 (mE (f g) ⋯))) ⋯)))
theorem SA{k:Nat}{r:List Nat}{c:Nat}{ch:Option aA}{z:List Nat×List Nat×Nat}(L:eI X)(hz:(c::r).length≤1000000)(e:A8 X (dU D7 mI (.str [c]) (mG X [] ch r (nC (c::r) ln) hC)) z):A8 X (n4 mI (dU D7 mI) 11 12 (k+2) (mG X [] ch (c::r) ln hC)) z:=by
 cases e with
 | ret R9 g=>exact .ret R9 (ZV (nx1 L c r hz) itL g)
 | over R9 e g=>
  cases R9 with
  | none=>exact .over none e (GA (nx1 L c r hz) itL g (.inl rfl) (alL (.inr rfl)) aLX (B6 nxe))
  | some w=>exact .over (some w) e (GA (nx1 L c r hz) itL g (.inl rfl) (alL (.inr rfl)) aDX (B6 nxe))
theorem lT(L:eI X)(k:Nat):∀(signs:List Nat) (ch:Option (List Nat)) (ln:Nat),signs.length < k->signs.length≤800000->A8 X (n4 mI (dU D7 mI) 11 12 (k+1) (mG X [] (ch.map aA.str) signs ln hC)) (qC signs ln):=by
 induction k with
 | zero=>exactλ_ _ _ h=>absurd h (lR _)
 | succ k ih=>
  intro signs ch ln h hz
  cases signs with
  | nil=>exact .over ch rfl (B6 (nx0 L))
  | cons c r=>
   have hs:(c::r).length≤1000000:=aB hz (by decide)
   have hr:r.length≤800000:=i9 hz
   rw[zE]
   cases e:zY c with
   | true=>
    exact GF (.inr rfl) L hs (t1 e) (ih r (some [c]) (nC [c] ln) (g8 h) hr)
   | false=>
    cases e2:c==34 with
    | true=>exact SA L hs (tQ L e e2 (aB hr (by decide)))
    | false=>
     cases e3:c==92 with
     | true=>exact SA L hs (tB L e e2 (aB (dD (gZ _ _) (aB (by rw[List.length_tail];exact MH _ _) hr)) (by decide:1+800000≤900000)) (tb1 L e3 (aB hr (by decide))))
     | false=>exact SA L hs (tB L e e2 (aB (bI hr 1) (by decide:1+800000≤900000)) (tb2 e3))
noncomputable def uF(pend:List (List Nat))(signs:List Nat)(ln:Nat):List Nat×List (List Nat)×List Nat×Nat:=match pend with
 | t::r=>(t,r,signs,ln)
 | []=>((qC signs ln).1,[],(qC signs ln).2.1,(qC signs ln).2.2)
inductive TT:lZ->Prop
 | mk (X:kW) (L:eI X) (pend LO:List (List Nat)) (signs JK tok:List Nat) (ln ln':Nat) (hp:pend.length≤1000000) (hz:signs.length≤800000) (e:uF pend signs ln=(tok,LO,JK,ln')):TT { as:=[.aO 0],H:=jO X pend signs ln,r:=.str tok,H':=jO X LO JK ln' }
theorem iT'{ch:Option aA}{it:Pc}:gd ((ev D7.y0 mI).e (mG X [] ch signs ln it)) (.aO 11) (mG X [] ch signs ln it):=R.leaf [] trivial ⋯
theorem rt{tok:List Nat}{ch:Option aA}:((sv (RF.dr 4) mI).k (mG X tok ch [] ln .tL)).good (.ok (.ret (.str tok)) (mG X tok ch [] ln .tL)):=R.leaf [] trivial ⋯
theorem aIH(O:Wld D):kB D 89 4 (eO (sW TT)):=TP O.10 λ{n z} hn h=>by
 obtain⟨X,L,pend,LO,signs,JK,tok,ln,ln',hp,hz,e⟩:=h
 cases pend with
 | cons t r=>
  cases e
  exact O.10.run (k:=3) (O.WR (F3_ O)) ⋯ hn O.32 ⋯ (tk1 tok LO (by rw[aG];exact hp)) ⟨rfl,rfl⟩
 | nil=>
  cases e
  have f:∀{fl st},gd (n4 mI (dU D7 mI) 11 12 fuel (mG X [] none signs ln hC)) fl st->gd ((sv D7 mI).s (mG X [] none signs ln hC)) fl st:=λg=>LN (l:=11) (st1:=mG X [] none signs ln hC) ⋯ rfl iT' rfl g
  cases lT (X:=X) L 999999 signs none ln (bA hz (by decide)) hz with
  | ret ch g=>exact O.10.runC (k:=3) 10 (O.WR (F3_ O)) .no ⋯ hn O.32 ⋯ (oY 3 tk2 (I9 (f g))) ⟨rfl,rfl,rfl⟩
  | over ch e g=>exact O.10.runC (k:=3) 10 (O.WR (F3_ O)) .no ⋯ hn O.32 ⋯ (oY 3 tk2 (rH (f g) rt)) ⟨rfl,rfl,by rw[e];rfl⟩
end
section
variable {α:Type}
end
section
variable {x:List Nat} {ps:sU}
noncomputable abbrev aDY:Cx:=D6 RI 1 GT (sS F1 [] none)
noncomputable abbrev NX(x:List Nat)(H:List Pc):aK:=⟨[some (.aO 0),some (.str x)],H⟩
noncomputable abbrev A9:E:=(LB.nt 1).p8
noncomputable abbrev aDZ:Cx:=aDY.lI A9.sc
noncomputable def getAll(ps:sU)(x:List Nat):List (List Nat):=(ps.filter λp=>tU p.1==tU x).map (·.2)
theorem ga1(o:NV x):gd ((sv (LB.tk 1) aDY).k (NX x (nN ps))) .next (NX (tU x) (nN ps)):=R.leaf [] (yK o.1 o.5 o.3 o.6) ⋯
noncomputable abbrev B8(x:List Nat)(kv:Option aA)(ps:sU)(acc:List aA):aK:=⟨[none,kv,some (.str x)],nN ps++ [.lst acc]⟩
theorem ga2{kv:Option aA}{acc:List aA}(p:List Nat×List Nat)(c:(tU p.1==x)=true)(o:NV p.1)(hz:acc.length≤1000000):gd (m9 A9.tg A9.ifs A9.el aDZ 3 (DG p) (B8 x kv ps acc)) () (B8 x (some (DG p)) ps (acc++ [.str p.2])):=R.leaf [.s,.y] (yK o.1 o.5 c hz) ⋯
theorem ga3{kv:Option aA}{acc:List aA}(p:List Nat×List Nat)(c:(tU p.1==x)=false)(o:NV p.1):gd (m9 A9.tg A9.ifs A9.el aDZ 3 (DG p) (B8 x kv ps acc)) () (B8 x (some (DG p)) ps acc):=R.leaf [.s,.n] (vC o.1 o.5 c) ⋯
theorem ga4(qs:sU):∀(kv:Option aA) (acc:List aA),(∀p∈qs,NV p.1)->acc.length+qs.length≤1000000->∃kv',gd (m8 (m9 A9.tg A9.ifs A9.el aDZ 3) [(2,.lst (ps.map DG))] 4 (qs.map DG) (B8 (tU x) kv ps acc)) () (B8 (tU x) kv' ps (acc++(getAll qs x).map .str)):=by
 induction qs with
 | nil=>exactλkv acc Y Y=>⟨kv,by rw[show(getAll [] x).map aA.str= [] from rfl,bQ];exact AU⟩
 | cons p r ih=>
  intro kv acc h hz
  have o:=h p (.head _)
  have h':∀q∈r,NV q.1:=λq hq=>h q (.tail _ hq)
  unfold getAll
  cases c:tU p.1==tU x with
  | true=>
   refine cD (ih (some (DG p)) (acc++ [.str p.2]) h' (by rw[aE,m5,b9,cQ 1];exact hz)) λkv' g=>?_
   rw[rA (p:=λp:List Nat×List Nat=>tU p.1==tU x) c]
   rw[c4] at g
   exact⟨kv',dP (ga2 p c o (aB (aW _ _) hz)) ⟨rfl,g⟩⟩
  | false=>
   refine cD (ih (some (DG p)) acc h' (aB (eW _) hz)) λkv' g=>?_
   rw[rB (p:=λp:List Nat×List Nat=>tU p.1==tU x) (by exact c▸bH)]
   exact⟨kv',dP (ga3 p c o) ⟨rfl,g⟩⟩
theorem ga5(o:NV x)(h:oG ps):((sv LB aDY).k (NX x (nN ps))).good (.ok (.ret (.aO 3)) (NX (tU x) (nN ps++ [.lst ((getAll ps x).map .str)]))):=by
 refine cD (ga4 (x:=x) (ps:=ps) ps none [] h.1 (by rw[dJ,cZ];exact aB h.2 (by decide))) λkv g=>?_
 exact oY 1 (ga1 o) (I9 (aH1 ⋯ (gLc (a:=.aO 2) (s1:=NX (tU x) (nN ps)) (s2:=NX (tU x) (nN ps)) (ys:=ps.map DG) (need:=[(2,.lst (ps.map DG))]) ⋯ ⋯ (R.leaf [] trivial ⋯) (λk=>rfl) ⟨rfl,g⟩)))
inductive xI:lZ->Prop
 | mk (ps:sU) (x:List Nat) (o:NV x) (h:oG ps):xI { as:=[.aO 0,.str x],H:=nN ps,r:=.aO 3,H':=nN ps++ [.lst ((getAll ps x).map .str)] }
theorem aII{D:WD}(O:Wld D):kB D 186 2 (eO (sW xI)):=TP O.3 λ{n z} hn h=>by
 obtain⟨ps,x,o,h⟩:=h
 exact O.3.run (k:=1) (O.env (F1_ O)) ⋯ hn O.23 ⋯ (ga5 o h) ⟨rfl,rfl⟩
end
section
variable {ps:sU}
theorem mapA(ps:sU)(x y:List Nat):(ps++ [(x,y)]).map DG=ps.map DG++ [DG (x,y)]:=cG
noncomputable abbrev aLY:Cx:=D6 RJ 1 GT (sS F1 [] none)
theorem ah1{x y:List Nat}(h:oG ps)(o:okN x=true)(hx:x.length≤1000)(v:VB y=true)(hy:y.length≤1000):((sv ZR aLY).k ⟨[some (.aO 0),some (.str x),some (.str y),some (.aO 3),none,none,none,none],nN ps++ [.wH []]⟩).good (.ok .next ⟨[some (.aO 0),some (.str x),some (.str y),some (.aO 3),some (.aO 4),none,none,none],nN (ps++ [(x,y)])++ [.wH [],.lst [.str y],.vw 3]⟩):=by
 unfold nN
 rw[mapA]
 exact R.leaf [.s,.strs [y]] (VK v hy (cO _:([]:List aA).length≤1000000) o hx (rfl: [aA.str y]= [aA.str y]) (show kJ [y]+1 * 2≤1000000 from aB (bD (show y.length+0≤1000 from hy) 2) (by decide)) (show(ps.map DG).length≤1000000 by rw[aG];exact aB h.2 (by decide))) ⋯
inductive W7:lZ->Prop
 | mk (ps:sU) (x y:List Nat) (h:oG ps) (o:okN x=true) (hx:x.length≤1000) (v:VB y=true) (hy:y.length≤1000):W7 { as:=[.aO 0,.str x,.str y],H:=nN ps,r:=.none,H':=nN (ps++ [(x,y)]) }
theorem aIJ{D:WD}(O:Wld D):kB D 244 2 (eO (sW W7)):=TP O.4 λ{n z} hn h=>by
 obtain⟨ps,x,y,h,o,hx,v,hy⟩:=h
 exact fS.cut 3 (aHS O.4.1 ((O.env (F1_ O)).w (k:=1) ⋯) .no hn (Bind.d O.45 rfl ⋯ ⋯ ⟨⋯,(ah1 h o hx v hy).post ⟨rfl,rfl,rfl⟩⟩)) (aZ 3)
noncomputable abbrev aLZ:Cx:=D6 F2 1 GT (sS F1 [] none)
theorem in1:((sv ZQ aLZ).k ⟨TO F2 [.aO 0,.none] GT,[.inst 247 1,.ns []]⟩).good (.ok .next ⟨TO F2 [.aO 0,.aO 2] GT,nN []⟩):=R.leaf [] (kU (rfl:(nN [])[2]? =some (.lst []))) ⋯
inductive SD:lZ->Prop
 | mk:SD { as:=[.aO 0],H:=[.inst 247 1,.ns []],r:=.none,H':=nN [] }
theorem aIK{D:WD}(O:Wld D):kB D 141 2 (eO (sW SD)):=TP O.1 λ{n z} hn h=>by
 obtain⟨⟩:=h
 exact O.1.run (k:=1) (O.env (F1_ O)) ⋯ hn O.21 ⋯ in1 ⟨rfl,rfl⟩
end
structure FE where
 a:Nat
 b:Nat
 B:Nat
 T:Nat
noncomputable def FE.v(e:FE):aA:=.old [e.a,e.b] e.B e.T
noncomputable def FE.f(o:List Nat)(e:FE):aA:=.tup [e.v,.str (told o e.a e.b)]
noncomputable abbrev mQ(o:List Nat)(es:List FE):List aA:=(es.filter λe=>sV o e.a e.b).map (FE.f o)
noncomputable abbrev esF:E:=.cons (.tup (.cons (.v 2 4897470) (.cons ex4 .nil)) 4897387) .nil
section
variable {D:WD} {C:Ctx} {o:List Nat} {p0 p1 B T:Nat} {fl:List aA}
theorem aL0(O:iZ C gW)(hf:fl.length≤1000){Q:bU->aK->Prop}(q:Q .next (mF o p0 p1 B T (some (.aO 1)) (some (.aO 2)) (some (.aO 8)) (.lst (fl++ [.tup [TR p0 p1 B T,.str (told o p0 p1)]])::(HB o p0 p1 fl).tail++ [nB (A6 p0),nB (oH o p0 p1)]))):
  Ex C (dst gW.xs (o7.th.nt 3)).s (mF o p0 p1 B T (some (.aO 1)) (some (.aO 2)) (some (.aO 8)) (HB o p0 p1 fl)) Q eE:=by
 show Ex C (.Expr (.Call (.Attribute (eD gW.xs (.v 1 4895441)).e (an 0) (dp 4895448)) (eD gW.xs esF).l (vB [] (eD gW.xs .nil).l) (dp 4895516)) (dp 4895516)) _ Q eE
 refine Ex.expr rfl ?_
 refine Ev.dS (oV (xs:=gW.xs) esF .nil []) (K7 (.v 1 4895441) esF .nil [] rfl (an 0) _ _ _ rfl rfl) ?_
 refine Bx.m ((gA (.v 1 4895441) C _ O).1 (R.good.post (o:=.ok (.aO 0) (mF o p0 p1 B T (some (.aO 1)) (some (.aO 2)) (some (.aO 8)) (HB o p0 p1 fl))) (Q:=λb st1=>b= .aO 0∧st1=mF o p0 p1 B T (some (.aO 1)) (some (.aO 2)) (some (.aO 8)) (HB o p0 p1 fl)) (R.leaf [] trivial ⋯) ⟨rfl,rfl⟩)) ?_
 rintro b st1 ⟨rfl,rfl⟩
 refine gmm (aCD O (j:=0) (a:=.aO 0) (R.good.post (o:=.ok (.blt "list.append",[.aO 0]) (mF o p0 p1 B T (some (.aO 1)) (some (.aO 2)) (some (.aO 8)) (HB o p0 p1 fl))) (Q:=λb st1=>b=(.blt "list.append",[.aO 0])∧st1=mF o p0 p1 B T (some (.aO 1)) (some (.aO 2)) (some (.aO 8)) (HB o p0 p1 fl)) (R.leaf [] trivial ⋯) ⟨rfl,rfl⟩)) ?_
 rintro fx st1 ⟨rfl,rfl⟩
 refine Ar.cons ((nG gW.xs (.tup (.cons (.v 2 4897470) (.cons ex4 .nil)) 4897387)).3 _ _) ?_
 refine Ev.tup (Ar.cons ((nG gW.xs (.v 2 4897470)).3 _ _) ?_)
 refine Ev.name (i:=2) (b:=TR p0 p1 B T) (by rw[O.1];rfl) rfl ⋯ ?_
 refine Ar.cons ((nG gW.xs ex4).3 _ _) ?_
 refine Bx.m ((gA ex4 C _ O).1 (fs4.post (Q:=λb st1=>b= .str (told o p0 p1)∧st1=mF o p0 p1 B T (some (.aO 1)) (some (.aO 2)) (some (.aO 8)) (HB o p0 p1 fl++ [nB (A6 p0),nB (oH o p0 p1)])) ⟨rfl,rfl⟩)) ?_
 rintro b st1 ⟨rfl,rfl⟩
 refine Ar.nil ⟨(by decide:2≤1000000), ?_⟩
 refine Ar.nil ?_
 refine Ks.nil ?_
 have g:gd (hAppend gW [.aO 0,.tup [TR p0 p1 B T,.str (told o p0 p1)]] (mF o p0 p1 B T (some (.aO 1)) (some (.aO 2)) (some (.aO 8)) (HB o p0 p1 fl++ [nB (A6 p0),nB (oH o p0 p1)]))) .none (mF o p0 p1 B T (some (.aO 1)) (some (.aO 2)) (some (.aO 8)) (.lst (fl++ [.tup [TR p0 p1 B T,.str (told o p0 p1)]])::(HB o p0 p1 fl).tail++ [nB (A6 p0),nB (oH o p0 p1)])):=R.leaf [] (kU (aB hf (by decide):fl.length≤1000000)) ⋯
 intro _ _ _ _ _ _ _
 exact(FQ O (g.post (Q:=λ_ st=>Q .next st) q)).1
theorem aIL(O:iZ C gW)(ho:o.length≤4)(hf:fl.length≤1000){bt ah rv:Option aA}{Q:bU->aK->Prop}(q0:sV o p0 p1=false->Q .next (mF o p0 p1 B T bt ah rv [.lst fl]))(q1:sV o p0 p1=true->Q .next (mF o p0 p1 B T (some (.aO 1)) (some (.aO 2)) (some (.aO 8)) (.lst (fl++ [.tup [TR p0 p1 B T,.str (told o p0 p1)]])::(HB o p0 p1 fl).tail++ [nB (A6 p0),nB (oH o p0 p1)]))):
  j5 C (dst gW.xs JB.th).b (mF o p0 p1 B T bt ah rv [.lst fl]) Q eE:=by
 show j5 C (.If (eD gW.xs o7.p8).e (dst gW.xs o7.th).b [] (dp 56236700):: []) _ Q eE
 refine j5.cons ?_
 refine Ex.ite ?_
 refine Bx.m ((gA o7.p8 C _ O).2 ((fs0 ho).post (Q:=λc st=>c=sV o p0 p1∧st=mF o p0 p1 B T bt ah rv [.lst fl]) ⟨rfl,rfl⟩)) ?_
 rintro c st ⟨rfl,rfl⟩
 cases e:sV o p0 p1 with
 | false=>
  refine j5.nil ?_
  exactλa=>j5.nil (q0 e) a
 | true=>
  show j5 C ((dst gW.xs (o7.th.nt 0)).s::(dst gW.xs (o7.th.nt 1)).s::(dst gW.xs (o7.th.nt 2)).s::(dst gW.xs (o7.th.nt 3)).s:: []) _ _ eE
  refine j5.cons ?_
  refine Bx.m ((pF (o7.th.nt 0) C _ O).1 (fs1.post (Q:=λfl' st=>fl'= .next∧st=mF o p0 p1 B T (some (.aO 1)) ah rv [.lst fl,nB (DH p0 p1)]) ⟨rfl,rfl⟩)) ?_
  rintro _ _ ⟨rfl,rfl⟩
  refine j5.cons ?_
  refine Bx.m ((pF (o7.th.nt 1) C _ O).1 ((fs2 ho).post (Q:=λfl' st=>fl'= .next∧st=mF o p0 p1 B T (some (.aO 1)) (some (.aO 2)) rv (hF3 o p0 p1 fl)) ⟨rfl,rfl⟩)) ?_
  rintro _ _ ⟨rfl,rfl⟩
  refine j5.cons ?_
  refine Bx.m ((pF (o7.th.nt 2) C _ O).1 (fs3.post (Q:=λfl' st=>fl'= .next∧st=mF o p0 p1 B T (some (.aO 1)) (some (.aO 2)) (some (.aO 8)) (HB o p0 p1 fl)) ⟨rfl,rfl⟩)) ?_
  rintro _ _ ⟨rfl,rfl⟩
  refine j5.cons ?_
  refine aL0 O hf ?_
  refine j5.nil ?_
  exactλa=>j5.nil (q1 e) a
noncomputable def gH:List (Nat×Nat):=[(98,97),(99,97),(99,98),(100,97),(100,98),(100,99)]
inductive sA(T T':Nat)(es:List FE):Prop where
 | mk (m:es.map (λe=>(e.a,e.b))=gH) (b:∀e∈es,T≤e.B∧e.T≤T')
theorem aIM{es:List FE}{j:Nat}{e:FE}(h:es[j]? =some e):mQ o (es.take (j+1))=mQ o (es.take j)++cond (sV o e.a e.b) [e.f o] []:=by
 unfold mQ
 rw[List.take_add_one,h,List.filter_append,cG]
 cases c:sV o e.a e.b with
 | true=>exact congrArg (_++·) (congrArg (List.map (FE.f o)) (rA c))
 | false=>exact congrArg (_++·) (congrArg (List.map (FE.f o)) (rB (by rw[c];exact bH)))
theorem fG.gd{x:Cx}{s:S}{rest:List v8}{T:Nat}{st st1:aK}{Q:bU->Nat->aK->Prop}(O:iZ C x)(g:gd ((sv s x).s st) .next st1)(k:fG C rest T st1 Q eE):fG C ((dst x.xs s).s::rest) T st Q eE:=
 fG.cons (Wp.fl (Bx.m ((pF s C x O).1 (g.post (Q:=λfl st=>fl= .next∧st=st1) ⟨rfl,rfl⟩)) (by rintro _ _ ⟨rfl,rfl⟩;exactλa kT=>k a kT)))
abbrev jF(o:List Nat)(es:List FE)(j:Nat)(st:aK):Prop:=∃pr bt ah rv,st=JI o pr bt ah rv [.lst (mQ o (es.take j))]
theorem W8{es:List FE}{j:Nat}(h:es.length≤1000):(mQ o (es.take j)).length≤1000:=by
 unfold mQ
 rw[aG]
 exact aB (dR _ _) (aB (uX _ _) h)
theorem aIN(O:iZ C gW)(BF:C.cp= [])(ho:o.length≤4){es:List FE}(hz:es.length≤1000){T1:Nat}{Q:bU->aK->Prop}(j:Nat)(x:aA)(st:aK)(hx:(es.map FE.v)[j]? =some x)(h:jF o es j st):
  As C (eD gW.xs (.v 2 4791180)).e x st (λfL=>fG C (dst gW.xs JB.th).b T1 fL (KK (λj6=>∃w,wM w 1 j6.H=true∧jF o es (j+1) (pE w 1 j6)) Q) eE) eE:=by
 rw[bX] at hx
 cases e:es[j]? with
 | none=>rw[e] at hx;exact bK hx
 | some e'=>
  rw[e] at hx
  obtain rfl:=aD hx
  obtain⟨pr,bt,ah,rw',rfl⟩:=h
  have S:=aIM (o:=o) e
  intro _ _ _ _ _
  refine As.name (i:=2) (k:=.cell) (by rw[O.1];rfl) (.inr ⟨rfl,by rw[BF];exactλq=>nomatch q⟩) ?_
  refine Wp.fl (aIL (p0:=e'.a) (p1:=e'.b) (B:=e'.B) (T:=e'.T) (bt:=bt) (ah:=ah) (rv:=rw') O ho (W8 hz) (λc=>?_) λc=>?_)
  ·rw[c] at S
   exact⟨none,rfl,_,_,_,_,by rw[S];show _=JI o _ _ _ _ [.lst (mQ o (es.take j)++ [])];rw[bQ];rfl⟩
  ·rw[c] at S
   exact⟨none,rfl,_,_,_,_,by rw[S];rfl⟩
noncomputable abbrev twC(c:(Nat×Nat)×Nat):E:=.k (.str [c.1.1,c.1.2]) c.2
noncomputable def twE(cs:List ((Nat×Nat)×Nat)):E:=List.rec .nil (λc _ ih=>.cons (twC c) ih) cs
inductive W9(cs:List ((Nat×Nat)×Nat))(T T':Nat)(es:List FE):Prop where
 | mk (m:es.map (λe=>(e.a,e.b))=cs.map (·.1)) (b:∀e∈es,T≤e.B∧e.T≤T') (l:T+cs.length≤T')
theorem yI.tw{C:Ctx}{st:aK}{X:XQ}{xs:List Str}{pos:Pos}(cs:List ((Nat×Nat)×Nat)):∀(T:Nat) {Q:List aA->Nat->aK->Prop},(∀es T',W9 cs T T' es->Q (es.map FE.v) T' st)->yI C (eD xs (twE cs)).l pos T st Q X:=by
 induction cs with
 | nil=>exactλT Q q=>yI.nil (q [] T ⟨rfl,λ_ h=>(nomatch h),aZ _⟩)
 | cons c cs ih=>
  intro T Q q
  refine @yI.cons _ _ _ _ _ _ _ _ ((nG xs (twC c)).3 _ _) (vA.str λT1 h1=>?_)
  refine ih T1 λes T' K=>q (⟨c.1.1,c.1.2,T,T1⟩::es) T' ?_
  have l1:=dY h1
  have l2:=aB (aW _ _) K.3
  refine⟨congrArg (c.1::·) K.1,λe he=>?_,aB (cC (qL T cs.length).symm) (aB (bD h1 _) K.3)⟩
  refine nI he (λe0=>?_) λhe=>?_
  ·subst e0;exact⟨aZ _,l2⟩
  ·exact⟨aB l1 (K.2 e he).1,(K.2 e he).2⟩
theorem vA.tw{C:Ctx}{st:aK}{X:XQ}{xs:List Str}{T p:Nat}{cs:List ((Nat×Nat)×Nat)}{Q:aA->Nat->aK->Prop}(hz:cs.length≤1000000)(q:∀es T',W9 cs T T' es->Q (.tup (es.map FE.v)) T' st):vA C (eD xs (.tup (twE cs) p)).e T st Q X:=
 vA.tup (yI.tw cs T λes T' K=>⟨by rw[aG,←aG (as:=es) (λe=>(e.a,e.b)),K.1,aG];exact hz,q es T' K⟩)
theorem W9.fes{cs:List ((Nat×Nat)×Nat)}{T T':Nat}{es:List FE}(h:cs.map (·.1)=gH)(K:W9 cs T T' es):sA T T' es:=⟨K.1.trans h,K.2⟩
noncomputable abbrev aIO:List ((Nat×Nat)×Nat):=[((98,97),4792485),((99,97),4793355),((99,98),4794225),((100,97),4795095),((100,98),4795965),((100,99),4796835)]
theorem GG(O:Wld D){n:Nat}(hn:1≤n)(ho:o.length≤4){T:Nat}{Q:aA->Nat->List Pc->Prop}(q:∀es T',sA T T' es->Q (.aO 0) T' [.lst (mQ o es)]):k6 D (n+1) HN 275 [.str o] [] T Q:=by
 have W:WOk D gW:=(O.env (F5_ O)).w ⋯
 intro _ _ _ _ _
 refine k6.fn O.15.1 ?_
 refine Bind.mono (Bind.w (ds:=[]) O.37 rfl rfl ⋯ ⋯ (Q:=λoC H1=>oC= [.str o]∧H1= []) ⟨rfl,rfl⟩) ?_
 rintro oC H1 ⟨rfl,rfl⟩
 refine⟨_,NQ W.1 ⋯,λC' I hh=>?_⟩
 have O':=W.cok .no I hn hh
 show fG C' ((dst gW.xs (F6.nt 0)).s:: .For (eD gW.xs (.v 2 4791180)).e (eD gW.xs JB.y0).e (dst gW.xs JB.th).b [] (dp 36931484)::(dst gW.xs (F6.nt 2)).s:: []) T _ _ eE
 refine fG.gd O' (st1:=JI o none none none none [.lst []]) (R.leaf [] trivial ⋯) ?_
 refine fG.cons (uR.IT hh ((nG gW.xs JB.y0).4 _) ?_)
 refine vA.tw (xs:=gW.xs) (p:=4792372) (cs:=aIO) (by decide:6≤1000000) ?_
 intro es T6 K0
 have K:=K0.fes rfl
 have hl:es.length=6:=(aG (as:=es) (λe=>(e.a,e.b))).symm.trans (congrArg List.length K.1)
 refine⟨es.map FE.v,[],JI o none none none none [.lst []],jF o es,⟨xY,⟨none,none,none,none,rfl⟩,λj st _ p hp=>nomatch hp⟩,λj x st hx h=>aIN O' I.4 ho (hl▸(by decide:6≤1000)) j x st hx h,λst h=>?_⟩
 refine wG h λpr bt ah rw' wN=>?_;subst wN
 rw[aG,rP]
 refine fG.cons (Wp.fl (Bx.m ((pF (F6.nt 2) C' gW O').1 (R.good.post (o:=.ok (.ret (.aO 0)) (JI o pr bt ah rw' [.lst (mQ o es)])) (Q:=λfl st=>fl= .ret (.aO 0)∧st=JI o pr bt ah rw' [.lst (mQ o es)]) (R.leaf [] trivial ⋯) ⟨rfl,rfl⟩)) ?_))
 rintro _ _ ⟨rfl,rfl⟩
 exact q es T6 K
end
noncomputable def F8:List (cI×Nat×Fx):=[(141,2,eO (sW SD)),(244,2,eO (sW W7)),(96,1,eO (sW PuS)),(89,4,eO (sW TT)),(186,2,eO (sW xI)),(47,2,eO (sW y6)),(54,1,eO R7)]
theorem F8_{D:WD}(O:Wld D):k7 D F8:=.cons (aIK O) (.cons (aIJ O) (.cons (aID O) (.cons (aIH O) (.cons (aII O) (.cons (aH3 O) (.cons (aDU O) .nil))))))
noncomputable abbrev B7:LmT:=⟨281,277,pO,11⟩
noncomputable abbrev kZ:Cx:=K9 RQ 5 GT (sS F8 [] none) (some B7)
noncomputable abbrev sY:Pos:=dp 5232175
set_option genCtorIdx true in
inductive Lay where
 | a | b | c
structure XA where
 X:kW
 ln:Nat
 os:List (List Nat)
noncomputable def Lay.h0(L:Lay)(z:XA):List Pc:=match L with
 | .a=>jO z.X [] [] z.ln++ [bL z.os,.iG 277 []]
 | .b=>jO z.X [] [] z.ln++ [bL z.os,.iG 277 [(sY,12)],.pC pO]
 | .c=>[]
noncomputable def Lay.h(L:Lay)(z:XA)(pend:List (List Nat))(tb:sU)(row:List (List Nat))(G:List Pc):List Pc:=match L with
 | .a=>jO z.X pend [] z.ln++ [bL z.os,.iG 277 [],.ns [(an 30,.aO 14)],.inst 247 12,.lst (tb.map DG),bL row]++G
 | .b=>jO z.X pend [] z.ln++ [bL z.os,.iG 277 [(sY,12)],.pC pO,.ns [(an 30,.aO 15)],.inst 247 13,.lst (tb.map DG),bL row]++G
 | .c=>jO z.X pend [] z.ln++ [bL z.os,.iG 277 [(sY,16)],.ns [(an 30,.aO 14)],.inst 247 12,.lst (tb.map DG),bL row,.pC pO]++G
noncomputable def Lay.t(L:Lay):Nat:=match L with | .a=>13 | .b=>14 | .c=>13
noncomputable def Lay.r(L:Lay):Nat:=match L with | .a=>15 | .b=>16 | .c=>15
noncomputable def Lay.n(L:Lay):Nat:=match L with | .a=>16 | .b=>17 | .c=>17
noncomputable abbrev jX(L:Lay)(pr od hi nm lw bh:Option aA)(H:List Pc):aK:=⟨[some (.aO 0),some (.aO 10),some (.aO L.t),some (.aO L.r),pr,od,hi,nm,lw,bh,some (.ref 247),some (.ref 54),some (.blt "iter"),some (.ref 47)],H⟩
section
variable {L:Lay} {z:XA} {pr od hi nm lw bh:Option aA} {pend beh row:List (List Nat)} {tb:sU} {G:List Pc}
noncomputable abbrev aIP:lZ:={ as:=[.aO 0],H:=[.inst 247 1,.ns []],r:=.none,H':=nN [] }
theorem le0(h:L= .a∨L= .b):gd ((sv (yZ.nt 0) kZ).s ⟨[some (.aO 0),some (.aO 10),none,none,none,none,none,none,none,none,some (.ref 247),some (.ref 54),some (.blt "iter"),some (.ref 47)],L.h0 z⟩) .next (jX L none none none none none none (L.h z [] [] [] [])):=by
 cases h with
 | inl h=>subst h;exact R.leaf [.lG aIP] (kU (jN SD.mk)) ⋯
 | inr h=>subst h;exact R.leaf [.lG aIP] (kU (jN SD.mk)) ⋯
noncomputable abbrev SF:S:=yZ.nt 1
noncomputable abbrev aIQ:S:=SF.th.nt 0
noncomputable def DL(p0 p1:Nat)(o:List Nat):Bool:=TQ (kY++ [p0]++kY++ [p1]++kY) o
noncomputable abbrev aIR(ps:sU)(x y:List Nat):lZ:={ as:=[.aO 0,.str x,.str y],H:=nN ps,r:=.none,H':=nN (ps++ [(x,y)]) }
theorem uG(p0 p1:Nat):(iW (0:Int) ([p0,p1]:List Nat).length).bind (([p0,p1]:List Nat)[·]?)=some p0∧(decide ((0:Int) < -(2 ^ 63:Int)) || decide ((0:Int)≥2 ^ 63))=false:=⟨rfl,rfl⟩
theorem vH(p0 p1:Nat):(iW (1:Int) ([p0,p1]:List Nat).length).bind (([p0,p1]:List Nat)[·]?)=some p1∧(decide ((1:Int) < -(2 ^ 63:Int)) || decide ((1:Int)≥2 ^ 63))=false:=⟨rfl,rfl⟩
inductive JM(p0 p1:Nat):Prop where
 | mk (a:asc [p1]=true) (n:okN [p0]=true) (v:VB (w9 [p1])=true) (h:NV [p0])
theorem le1{p0 p1:Nat}{o:List Nat}(h:L= .a∨L= .b)(P:JM p0 p1)(ho:o.length≤1000)(ht:oG tb):gd (dU aIQ kZ (.str o) (jX L (some (.str [p0,p1])) od hi nm lw bh (L.h z [] tb row []))) .next (jX L (some (.str [p0,p1])) (some (.str o)) hi nm lw bh (L.h z [] (tb++cond (DL p0 p1 o) [([p0],w9 [p1])] []) row [])):=by
 have l1:3+1≤1000000:=by decide
 have l2:4+3≤1000000:=by decide
 have l3:7+1≤1000000:=by decide
 have l4:8+3≤1000000:=by decide
 have z1:(kY++ [p0]++kY++ [p1]++kY).length≤1000∧o.length≤1000:=⟨(by decide:11≤1000),ho⟩
 cases e:DL p0 p1 o with
 | false=>
  rw[show(cond false [([p0],w9 [p1])] []:sU)= [] from rfl,bQ]
  cases h with
  | inl h=>subst h;exact R.leaf [.nat p0,.nat p1,.n] (VK (uG p0 p1) l1 l2 (vH p0 p1) l3 l4 z1 e) ⋯
  | inr h=>subst h;exact R.leaf [.nat p0,.nat p1,.n] (VK (uG p0 p1) l1 l2 (vH p0 p1) l3 l4 z1 e) ⋯
 | true=>
  have A:=jN (W7.mk tb [p0] (w9 [p1]) ht P.2 (by decide:1≤1000) P.3 (by decide:1≤1000))
  cases h with
  | inl h=>subst h;exact R.leaf [.nat p0,.nat p1,.y,.nat p0,.nat p1,.lG (aIR tb [p0] (w9 [p1]))] (pU (uG p0 p1) (pU l1 (pU l2 (pU (vH p0 p1) (pU l3 (VK l4 z1 e (uG p0 p1) (vH p0 p1) P.1 (by decide:1≤1000000) A)))))) ⋯
  | inr h=>subst h;exact R.leaf [.nat p0,.nat p1,.y,.nat p0,.nat p1,.lG (aIR tb [p0] (w9 [p1]))] (pU (uG p0 p1) (pU l1 (pU l2 (pU (vH p0 p1) (pU l3 (VK l4 z1 e (uG p0 p1) (vH p0 p1) P.1 (by decide:1≤1000000) A)))))) ⋯
noncomputable def XB(p:Nat×Nat)(os:List (List Nat)):sU:=os.flatMap λo=>cond (DL p.1 p.2 o) [([p.1],w9 [p.2])] []
noncomputable def vI(ps:List (Nat×Nat))(os:List (List Nat)):sU:=ps.flatMap λp=>XB p os
noncomputable def Lay.k(L:Lay):Nat:=match L with | .a=>16 | .b=>17 | .c=>16
theorem XC{b:Bool}{p0 p1:Nat}(P:JM p0 p1)(ht:oG tb)(hz:tb.length+1≤1000):oG (tb++cond b [([p0],w9 [p1])] []):=by
 cases b with
 | false=>rw[show(cond false [([p0],w9 [p1])] []:sU)= [] from rfl,bQ];exact ht
 | true=>
  refine⟨λp hp=>?_,by rw[aE];exact hz⟩
  cases aT.mp hp with
  | inl q=>exact ht.1 p q
  | inr q=>obtain rfl:=aU.mp q;exact P.4
theorem NY{b:Bool}{p:List Nat×List Nat}{r k:Nat}(hz:tb.length+(r+1)≤k):(tb++cond b [p] []).length+r≤k:=by
 rw[aE,b9]
 refine aB (bI ?_ _) hz
 cases b with
 | false=>exact aB (cC (cZ r)) (eW r)
 | true=>exact cC (cQ 1 r)
def OS(o:Option aA):Prop:=o=none∨∃t,o=some (.str t)
theorem OF(h:L= .a∨L= .b){p:Nat×Nat}(P:JM p.1 p.2):∀(rs:List (List Nat)) (tb:sU) (od:Option aA),(∀o∈rs,o.length≤1000)->oG tb->tb.length+rs.length≤1000->OS od->
  ∃LP,OS LP∧gd (forL false (dU aIQ kZ) [(10,bL z.os)] L.k (rs.map .str) (jX L (some (.str [p.1,p.2])) od none none none none (L.h z [] tb row []))) .next (jX L (some (.str [p.1,p.2])) LP none none none none (L.h z [] (tb++XB p rs) row [])):=by
 intro rs
 induction rs with
 | nil=>exactλtb od _ _ _ O=>⟨od,O,by rw[show XB p []= [] from rfl,bQ];exact AU⟩
 | cons o r ih=>
  intro tb od ho ht hz _
  have hz1:tb.length+1≤1000:=aB (bI (cH (cO _)) _) hz
  refine bS (ih (tb++cond (DL p.1 p.2 o) [([p.1],w9 [p.2])] []) (some (.str o)) (λq h=>ho q (.tail _ h)) (XC P ht hz1) (NY hz) (.inr ⟨o,rfl⟩)) λLP O' g=>?_
  rw[c4] at g
  have t:=le1 (z:=z) (od:=od) (hi:=none) (nm:=none) (lw:=none) (bh:=none) (row:=row) h P (ho o (.head _)) ht
  refine⟨LP,O',dP t ?_⟩
  cases h with
  | inl h=>subst h;exact⟨rfl,g⟩
  | inr h=>subst h;exact⟨rfl,g⟩
theorem le3(h:L= .a∨L= .b){p:Nat×Nat}(P:JM p.1 p.2){pr:Option aA}(ho:∀o∈z.os,o.length≤1000)(ht:oG tb)(hz:tb.length+z.os.length≤1000)(O:OS od):
  ∃LP,OS LP∧gd (dU SF kZ (.str [p.1,p.2]) (jX L pr od none none none none (L.h z [] tb row []))) .next (jX L (some (.str [p.1,p.2])) LP none none none none (L.h z [] (tb++XB p z.os) row [])):=by
 refine bS (OF (z:=z) (row:=row) h P z.os tb od ho ht hz O) λLP O' g=>?_
 refine⟨LP,O',dP (a:=()) (k:=λ_ st1=>(sv SF.th kZ).k st1) (st:=jX L (some (.str [p.1,p.2])) od none none none none (L.h z [] tb row [])) (R.leaf [] trivial (by cases h with | inl h=>subst h;kernel_rfl | inr h=>subst h;kernel_rfl)) (mE ?_ ⋯)⟩
 cases h with
 | inl h=>subst h;exact B5 (l:=10) (zs:=z.os.map .str) (st1:=jX .a (some (.str [p.1,p.2])) od none none none none (Lay.h .a z [] tb row [])) ⋯ rfl (R.leaf [] trivial ⋯) rfl g
 | inr h=>subst h;exact B5 (l:=10) (zs:=z.os.map .str) (st1:=jX .b (some (.str [p.1,p.2])) od none none none none (Lay.h .b z [] tb row [])) ⋯ rfl (R.leaf [] trivial ⋯) rfl g
theorem LQ{p:Nat×Nat}(os:List (List Nat)):(XB p os).length≤os.length:=by
 unfold XB
 induction os with
 | nil=>exact aZ 0
 | cons o r ih=>rw[f8,aE,eQ,cQ];exact dD ih l9
theorem aD0{p:Nat×Nat}(P:JM p.1 p.2){os:List (List Nat)}(ht:oG tb)(hz:tb.length+os.length≤1000):oG (tb++XB p os):=by
 refine⟨λq hq=>?_,by rw[aE];exact aB (bI (LQ os) _) hz⟩
 cases aT.mp hq with
 | inl k=>exact ht.1 q k
 | inr k=>
  refine bS (CF.mp k) λo _ ho=>?_
  cases e:DL p.1 p.2 o with
  | false=>rw[e] at ho;exact nomatch ho
  | true=>rw[e] at ho;obtain rfl:=aU.mp ho;exact P.4
noncomputable abbrev DM(p:Nat×Nat):aA:=.str [p.1,p.2]
theorem le4(h:L= .a∨L= .b)(ho:∀o∈z.os,o.length≤1000):∀(rs:List (Nat×Nat)) (tb:sU) (pr od:Option aA),(∀p∈rs,JM p.1 p.2)->oG tb->tb.length+rs.length * z.os.length≤1000->OS od->OS pr->
  ∃pr' LP,OS pr'∧OS LP∧gd (forL false (dU SF kZ) [] L.k (rs.map DM) (jX L pr od none none none none (L.h z [] tb row []))) .next (jX L pr' LP none none none none (L.h z [] (tb++vI rs z.os) row []))∧oG (tb++vI rs z.os):=by
 intro rs
 induction rs with
 | nil=>exactλtb pr od _ ht _ O O2=>⟨pr,od,O2,O,by rw[show vI [] z.os= [] from rfl,bQ];exact⟨AU,ht⟩⟩
 | cons p r ih=>
  intro tb pr od hp ht hz O _
  rw[eQ,Nat.succ_mul,cQ (r.length * _),←b9] at hz
  have hz1:tb.length+z.os.length≤1000:=aB (aW _ _) hz
  refine bS (le3 (z:=z) (row:=row) (pr:=pr) h (hp p (.head _)) ho ht hz1 O) λLP O' t=>?_
  refine MI (ih (tb++XB p z.os) (some (.str [p.1,p.2])) LP (λq k=>hp q (.tail _ k)) (aD0 (hp p (.head _)) ht hz1) (by rw[aE];exact aB (bD (bI (LQ _) _) _) hz) O' (.inr ⟨_,rfl⟩)) λpr2 od2 P2 O2 g H=>?_
  rw[c4] at g H
  refine⟨pr2,od2,P2,O2,dP t ?_,H⟩
  cases h with
  | inl h=>subst h;cases O' with
   | inl e=>subst e;exact g
   | inr e=>refine cD e λw dF=>?_;subst dF;exact g
  | inr h=>subst h;cases O' with
   | inl e=>subst e;exact g
   | inr e=>refine cD e λw dF=>?_;subst dF;exact g
theorem XD:∀p∈gH,JM p.1 p.2:=λp hp=>by
 have:∀p∈gH,(asc [p.2] && okN [p.1] && VB (w9 [p.2]) && okH [p.1])=true:=by decide
 have h:=this p hp
 exact⟨aP (aP (aP h)),aQ (aP (aP h)),aQ (aP h),aDS (aQ h)⟩
theorem le5(h:L= .a∨L= .b)(ho:∀o∈z.os,o.length≤1000)(hz:z.os.length≤100):∃pr od,OS pr∧OS od∧gd ((sv SF kZ).s (jX L none none none none none none (L.h z [] [] row []))) .next (jX L pr od none none none none (L.h z [] (vI gH z.os) row []))∧oG (vI gH z.os):=by
 refine MI (le4 (z:=z) (row:=row) h ho gH [] none none XD ⟨λ_ q=>(nomatch q),cO _⟩ (by exact aB (bI (Nat.mul_le_mul_left 6 hz) 0) (by decide)) (.inl rfl) (.inl rfl)) λpr od P O g H=>?_
 refine⟨pr,od,P,O, ?_,H⟩
 cases h with
 | inl h=>subst h;exact RU (zs:=gH.map DM) (st1:=jX .a none none none none none none (Lay.h .a z [] [] row [])) ⋯ rfl (R.leaf [] trivial ⋯) g
 | inr h=>subst h;exact RU (zs:=gH.map DM) (st1:=jX .b none none none none none none (Lay.h .b z [] [] row [])) ⋯ rfl (R.leaf [] trivial ⋯) g
end
noncomputable def jP(s:List (List Nat)×List (List Nat))(low:List Nat):List (List Nat)×List (List Nat):=cond (!s.2.any (· ==low)) (s.1++ [low],s.2++ [low]) s
noncomputable def DN(ps:sU)(n:Nat)(q b:List (List Nat)):Option (List (List Nat)):=
 Nat.rec (motive:=λ_=>List (List Nat)->List (List Nat)->Option (List (List Nat))) (λ_ _=>none) (λ_ ih q b=>List.rec (some b) (λt r _=>ih ((getAll ps t).foldl jP (r,b)).1 ((getAll ps t).foldl jP (r,b)).2) q) n q b
noncomputable abbrev AW:S:=yZ.nt 2
noncomputable abbrev NZ:S:=AW.th.nt 2
noncomputable abbrev aD1:S:=NZ.th.nt 0
noncomputable abbrev wV(L:Lay):Pc:=.hC (L.n+1) []
section
variable {L:Lay} {z:XA} {pr od nm lw bh:Option aA} {pend beh row ga:List (List Nat)} {tb:sU} {c:Nat} {it:Pc}
noncomputable abbrev mB(L:Lay)(z:XA)(pr od:Option aA)(c:Nat)(nm lw:Option aA)(pend:List (List Nat))(tb:sU)(row beh:List (List Nat))(G:List Pc):aK:=jX L pr od (some (eG c)) nm lw (some (.aO L.n)) (L.h z pend tb row (bL beh::G))
theorem lb0:gd ((sv (AW.th.nt 0) kZ).s (jX L pr od (some (eG c)) nm lw bh (L.h z pend tb row []))) .next (mB L z pr od c nm lw pend tb row [] []):=by
 cases L with
 | a=>exact R.leaf [] trivial ⋯
 | b=>exact R.leaf [] trivial ⋯
 | c=>exact R.leaf [] trivial ⋯
noncomputable abbrev zPu(X:kW)(ln:Nat)(pend:List (List Nat))(t:List Nat):lZ:={ as:=[.aO 0,.str t],H:=jO X pend [] ln,r:=.none,H':=jO X (pend++ [t]) [] ln }
theorem lb1(hz:pend.length≤1000000):gd ((sv (AW.th.nt 1) kZ).s (mB L z pr od c nm lw pend tb row beh [])) .next (mB L z pr od c nm lw (pend++ [[c]]) tb row beh []):=by
 have A:=jN (PuS.mk z.X pend [] z.ln [c] hz)
 cases L with
 | a=>exact R.leaf [.lG (zPu z.X z.ln pend [c])] (kU A) ⋯
 | b=>exact R.leaf [.lG (zPu z.X z.ln pend [c])] (kU A) ⋯
 | c=>exact R.leaf [.lG (zPu z.X z.ln pend [c])] (kU A) ⋯
theorem lb2:gd ((ev NZ.y0 kZ).e (mB L z pr od c nm lw pend tb row beh [])) (.aO (L.n+2)) (mB L z pr od c nm lw pend tb row beh [.m6 89 0,wV L]):=by
 cases L with
 | a=>exact R.leaf [] trivial ⋯
 | b=>exact R.leaf [] trivial ⋯
 | c=>exact R.leaf [] trivial ⋯
noncomputable abbrev zGt(X:kW)(ln:Nat)(p:List (List Nat))(t:List Nat)(q:List (List Nat)):lZ:={ as:=[.aO 0],H:=jO X p [] ln,r:=.str t,H':=jO X q [] ln }
theorem ln1(K:eI z.X)(a:Nat)(t:List Nat)(hz:((a::t)::pend).length≤1000000):gd (IY kZ (L.n+2) (mB L z pr od c nm lw ((a::t)::pend) tb row beh [.m6 89 0,wV L])) (some (.str (a::t))) (mB L z pr od c nm lw pend tb row beh [.m6 89 0,wV L]):=by
 have A:=jN (TT.mk z.X K ((a::t)::pend) pend [] [] (a::t) z.ln z.ln hz (cO _) rfl)
 cases L with
 | a=>exact R.leaf [.lG (zGt z.X z.ln ((a::t)::pend) (a::t) pend)] (oU A (⟨rfl,rfl⟩:((17,[]):Nat×List Nat)=(17,[])∧((89,0):Nat×Nat)=(89,0))) ⋯
 | b=>exact R.leaf [.lG (zGt z.X z.ln ((a::t)::pend) (a::t) pend)] (oU A (⟨rfl,rfl⟩:((18,[]):Nat×List Nat)=(18,[])∧((89,0):Nat×Nat)=(89,0))) ⋯
 | c=>exact R.leaf [.lG (zGt z.X z.ln ((a::t)::pend) (a::t) pend)] (oU A (⟨rfl,rfl⟩:((18,[]):Nat×List Nat)=(18,[])∧((89,0):Nat×Nat)=(89,0))) ⋯
theorem ln0(K:eI z.X):gd (IY kZ (L.n+2) (mB L z pr od c nm lw [] tb row beh [.m6 89 0,wV L])) none (mB L z pr od c nm lw [] tb row beh [.m6 89 0,.tL]):=by
 have A:=jN (TT.mk z.X K [] [] [] [] [] z.ln z.ln (cO _) (cO _) rfl)
 cases L with
 | a=>exact R.leaf [.lG (zGt z.X z.ln [] [] [])] (oU A (⟨rfl,rfl⟩:((17,[]):Nat×List Nat)=(17,[])∧((89,0):Nat×Nat)=(89,0))) ⋯
 | b=>exact R.leaf [.lG (zGt z.X z.ln [] [] [])] (oU A (⟨rfl,rfl⟩:((18,[]):Nat×List Nat)=(18,[])∧((89,0):Nat×Nat)=(89,0))) ⋯
 | c=>exact R.leaf [.lG (zGt z.X z.ln [] [] [])] (oU A (⟨rfl,rfl⟩:((18,[]):Nat×List Nat)=(18,[])∧((89,0):Nat×Nat)=(89,0))) ⋯
noncomputable abbrev zGa(tb:sU)(x:List Nat):lZ:={ as:=[.aO 0,.str x],H:=nN tb,r:=.aO 3,H':=nN tb++ [.lst ((getAll tb x).map .str)] }
noncomputable abbrev JN(L:Lay)(ga:List (List Nat)):List Pc:=[.m6 89 0,wV L,bL ga]
theorem lv1{t:List Nat}(o:NV t)(h:oG tb):gd ((ev aD1.y0 kZ).e (mB L z pr od c (some (.str t)) lw pend tb row beh [.m6 89 0,wV L])) (.aO (L.n+3)) (mB L z pr od c (some (.str t)) lw pend tb row beh (JN L (getAll tb t))):=by
 have A:=jN (xI.mk tb t o h)
 cases L with
 | a=>exact R.leaf [.lG (zGa tb t)] (kU A) ⋯
 | b=>exact R.leaf [.lG (zGa tb t)] (kU A) ⋯
 | c=>exact R.leaf [.lG (zGa tb t)] (kU A) ⋯
theorem lv2(low:List Nat)(hb:beh.length≤1000000)(hp:pend.length≤1000000):gd (dU aD1 kZ (.str low) (mB L z pr od c nm lw pend tb row beh (JN L ga))) .next (mB L z pr od c nm (some (.str low)) (jP (pend,beh) low).1 tb row (jP (pend,beh) low).2 (JN L ga)):=by
 have e:beh.map aA.str=beh.map aA.str:=rfl
 have hb:(beh.map aA.str).length≤1000000:=by rw[aG];exact hb
 have A:=jN (PuS.mk z.X pend [] z.ln low hp)
 unfold jP
 cases h: !beh.any (· ==low) with
 | false=>cases L with
  | a=>exact R.leaf [.strs beh,.n] (oU e h) ⋯
  | b=>exact R.leaf [.strs beh,.n] (oU e h) ⋯
  | c=>exact R.leaf [.strs beh,.n] (oU e h) ⋯
 | true=>
  show gd _ _ (mB L z pr od c nm (some (.str low)) (pend++ [low]) tb row (beh++ [low]) (JN L ga))
  unfold mB bL
  rw[R3]
  cases L with
  | a=>exact R.leaf [.strs beh,.y,.lG (zPu z.X z.ln pend low)] (yK e h hb A) ⋯
  | b=>exact R.leaf [.strs beh,.y,.lG (zPu z.X z.ln pend low)] (yK e h hb A) ⋯
  | c=>exact R.leaf [.strs beh,.y,.lG (zPu z.X z.ln pend low)] (yK e h hb A) ⋯
theorem OS.qU{o:Option aA}{k:Nat}(h:OS o):jW k o=o:=by
 cases h with
 | inl h=>subst h;rfl
 | inr h=>refine cD h λt dF=>?_;subst dF;rfl
theorem aL1(h1:OS pr)(h2:OS od)(h3:OS nm)(h4:OS lw):(mB L z pr od c nm lw pend tb row beh (JN L ga)).cut (L.n+4)=mB L z pr od c nm lw pend tb row beh (JN L ga):=by
 cases L with
 | a=>show(⟨[_,_,_,_,jW 20 pr,jW 20 od,_,jW 20 nm,jW 20 lw,_,_,_,_,_],_⟩:aK)=_;rw[h1.qU,h2.qU,h3.qU,h4.qU];rfl
 | b=>show(⟨[_,_,_,_,jW 21 pr,jW 21 od,_,jW 21 nm,jW 21 lw,_,_,_,_,_],_⟩:aK)=_;rw[h1.qU,h2.qU,h3.qU,h4.qU];rfl
 | c=>show(⟨[_,_,_,_,jW 21 pr,jW 21 od,_,jW 21 nm,jW 21 lw,_,_,_,_,_],_⟩:aK)=_;rw[h1.qU,h2.qU,h3.qU,h4.qU];rfl
theorem aL2(h1:OS pr)(h2:OS od)(h3:OS nm)(h4:OS lw):(mB L z pr od c nm lw pend tb row beh (JN L ga)).cut (L.n+3)=mB L z pr od c nm lw pend tb row beh [.m6 89 0,wV L]:=by
 cases L with
 | a=>show(⟨[_,_,_,_,jW 19 pr,jW 19 od,_,jW 19 nm,jW 19 lw,_,_,_,_,_],_⟩:aK)=_;rw[h1.qU,h2.qU,h3.qU,h4.qU];rfl
 | b=>show(⟨[_,_,_,_,jW 20 pr,jW 20 od,_,jW 20 nm,jW 20 lw,_,_,_,_,_],_⟩:aK)=_;rw[h1.qU,h2.qU,h3.qU,h4.qU];rfl
 | c=>show(⟨[_,_,_,_,jW 20 pr,jW 20 od,_,jW 20 nm,jW 20 lw,_,_,_,_,_],_⟩:aK)=_;rw[h1.qU,h2.qU,h3.qU,h4.qU];rfl
theorem allI:lK (L.n+4) (L.n+4) (L.h z pend tb row (bL beh::JN L ga))=true:=by cases L <;> kernel_rfl
theorem aL3:lK (L.n+3) (L.n+3) (L.h z pend tb row (bL beh::JN L ga))=true:=by cases L <;> kernel_rfl
theorem ndI:(L.h z pend tb row (bL beh::JN L ga))[L.n+3]? =some (bL ga):=by cases L <;> rfl
theorem aD2(low:List Nat):(jP (pend,beh) low).1.length≤pend.length+1∧(jP (pend,beh) low).2.length≤beh.length+1:=by
 unfold jP
 cases !beh.any (· ==low) with
 | false=>exact⟨eW _,eW _⟩
 | true=>exact⟨by rw[cond_true,aE];exact aZ _,by rw[cond_true,aE];exact aZ _⟩
theorem lv3(h1:OS pr)(h2:OS od)(h3:OS nm):∀(rs:List (List Nat)) (pend beh:List (List Nat)) (lw:Option aA),OS lw->pend.length+rs.length≤900000->beh.length+rs.length≤900000->
  ∃uU,OS uU∧gd (forL false (dU aD1 kZ) [(L.n+3,bL ga)] (L.n+4) (rs.map .str) (mB L z pr od c nm lw pend tb row beh (JN L ga))) .next (mB L z pr od c nm uU (rs.foldl jP (pend,beh)).1 tb row (rs.foldl jP (pend,beh)).2 (JN L ga))∧(rs.foldl jP (pend,beh)).1.length≤pend.length+rs.length∧(rs.foldl jP (pend,beh)).2.length≤beh.length+rs.length:=by
 intro rs
 induction rs with
 | nil=>exactλpend beh lw h _ _=>⟨lw,h,AU,aZ _,aZ _⟩
 | cons low r ih=>
  intro pend beh lw _ hp hb
  have T:=lv2 (L:=L) (z:=z) (pr:=pr) (od:=od) (nm:=nm) (lw:=lw) (row:=row) (tb:=tb) (c:=c) (ga:=ga) (beh:=beh) (pend:=pend) low (aB (aB (aW _ _) hb) (by decide)) (aB (aB (aW _ _) hp) (by decide))
  have S:=aD2 (pend:=pend) (beh:=beh) low
  have e1:(jP (pend,beh) low).1.length+r.length≤pend.length+(r.length+1):=aB (bD S.1 _) (cC (by rw[b9,cQ 1]))
  have e2:(jP (pend,beh) low).2.length+r.length≤beh.length+(r.length+1):=aB (bD S.2 _) (cC (by rw[b9,cQ 1]))
  refine TX (ih (jP (pend,beh) low).1 (jP (pend,beh) low).2 (some (.str low)) (.inr ⟨_,rfl⟩) (aB e1 hp) (aB e2 hb)) λuU O g l1 l2=>?_
  refine⟨uU,O,dP T (n6 allI ?_),aB l1 e1,aB l2 e2⟩
  show gd (nV _ ((mB L z pr od c nm _ _ tb row _ (JN L ga)).cut (L.n+4)) (forL _ _ _ _ _ ((mB L z pr od c nm _ _ tb row _ (JN L ga)).cut (L.n+4)))) _ _
  rw[aL1 h1 h2 h3 (.inr ⟨_,rfl⟩)]
  exact⟨ndI,g⟩
inductive sZ(t:List Nat):Prop where
 | mk (h:NV t) (n:∃a r,t=a::r)
theorem lv4{t:List Nat}(K:eI z.X)(h1:OS pr)(h2:OS od)(h4:OS lw)(o:NV t)(ht:oG tb)(hp:pend.length+(getAll tb t).length≤900000)(hb:beh.length+(getAll tb t).length≤900000):
  ∃uU,OS uU∧gd (dU NZ kZ (.str t) (mB L z pr od c nm lw pend tb row beh [.m6 89 0,wV L])) .next (mB L z pr od c (some (.str t)) uU ((getAll tb t).foldl jP (pend,beh)).1 tb row ((getAll tb t).foldl jP (pend,beh)).2 (JN L (getAll tb t)))∧((getAll tb t).foldl jP (pend,beh)).1.length≤pend.length+(getAll tb t).length∧((getAll tb t).foldl jP (pend,beh)).2.length≤beh.length+(getAll tb t).length:=by
 refine TX (lv3 (L:=L) (z:=z) (pr:=pr) (od:=od) (nm:=some (.str t)) (row:=row) (tb:=tb) (c:=c) (ga:=getAll tb t) h1 h2 (.inr ⟨_,rfl⟩) (getAll tb t) pend beh lw h4 hp hb) λuU O g l1 l2=>?_
 refine⟨uU,O,dP (a:=()) (k:=λ_ st1=>(sv NZ.th kZ).k st1) (st:=mB L z pr od c (some (.str t)) lw pend tb row beh [.m6 89 0,wV L]) (R.leaf [] trivial (by cases L <;> kernel_rfl)) (mE ?_ ⋯),l1,l2⟩
 refine B5 (l:=L.n+3) (zs:=(getAll tb t).map .str) ⋯ rfl (lv1 o ht) ndI ?_
 cases L <;> exact g
theorem SG{P:List Nat->Prop}{low:List Nat}(h:∀t∈pend,P t)(k:P low):∀t∈(jP (pend,beh) low).1,P t:=by
 unfold jP
 cases !beh.any (· ==low) with
 | false=>exact h
 | true=>exactλt q=>(aT.mp q).elim (h t) λq=>by obtain rfl:=aU.mp q;exact k
theorem SH{P:List Nat->Prop}:∀(rs pend beh:List (List Nat)),(∀t∈pend,P t)->(∀t∈rs,P t)->∀t∈(rs.foldl jP (pend,beh)).1,P t:=by
 intro rs
 induction rs with
 | nil=>exactλ_ _ h _=>h
 | cons low r ih=>exactλpend beh h k=>ih _ _ (SG h (k low (.head _))) λt q=>k t (.tail _ q)
theorem aD3{P:List Nat->Prop}{t:List Nat}(h:∀p∈tb,P p.2):∀v∈getAll tb t,P v:=λv hv=>by
 refine bS (eX.mp hv) λp hp dE=>?_;subst dE
 exact h p (tI.mp hp).1
theorem aD4{t:List Nat}(h:tb.length≤1000):(getAll tb t).length≤1000:=by
 unfold getAll
 rw[aG]
 exact aB (dR _ _) h
theorem aIS:uA (L.n+2) (mB L z pr od c nm lw pend tb row beh [.m6 89 0,wV L])=true:=by cases L <;> kernel_rfl
theorem Z4{a g n:Nat}(h:a+1000 * (n+1)≤900000)(k:g≤1000):a+g+1000 * n≤900000:=aB (by rw[b9];exact bI (aB (bD k _) (cC (by rw[Nat.mul_succ,cQ]))) _) h
theorem lv5(K:eI z.X)(h1:OS pr)(h2:OS od)(ht:oG tb)(hv:∀p∈tb,sZ p.2)(n:Nat):∀(pend beh res:List (List Nat)) (nm lw:Option aA) (Fu:Nat),DN tb n pend beh=some res->(∀t∈pend,sZ t)->pend.length+1000 * n≤900000->beh.length+1000 * n≤900000->n≤Fu->OS nm->OS lw->
  ∃D8 uU,OS D8∧OS uU∧gd (n4 kZ (dU NZ kZ) (L.n+2) (L.n+3) Fu (mB L z pr od c nm lw pend tb row beh [.m6 89 0,wV L])) .next (mB L z pr od c D8 uU [] tb row res [.m6 89 0,.tL]):=by
 induction n with
 | zero=>exactλ_ _ _ _ _ _ e=>nomatch e
 | succ n ih=>
  intro pend beh res nm lw Fu e hp lp lb hF h3 h4
  cases Fu with
  | zero=>exact absurd hF (vK _)
  | succ Fu=>
   cases pend with
   | nil=>
    obtain rfl:=(aD e:beh=res)
    exact⟨nm,lw,h3,h4,B6 (ln0 K)⟩
   | cons t q=>
    obtain⟨ot,a,r,rfl⟩:=hp t (.head _)
    have G:=aD4 (tb:=tb) (t:=a::r) ht.2
    have lp1:q.length+1000 * (n+1)≤900000:=aB (bD (eW _) _) lp
    have lp2:q.length+(getAll tb (a::r)).length+1000 * n≤900000:=Z4 lp1 G
    have lb2:beh.length+(getAll tb (a::r)).length+1000 * n≤900000:=Z4 lb G
    refine TX (lv4 (L:=L) (z:=z) (pr:=pr) (od:=od) (nm:=nm) (lw:=lw) (row:=row) (tb:=tb) (c:=c) (beh:=beh) (pend:=q) K h1 h2 h4 ot ht (aB (aW _ _) lp2) (aB (aW _ _) lb2)) λlw1 O1 T b1 b2=>?_
    refine dW (ih _ _ res (some (.str (a::r))) lw1 Fu e (SH _ _ _ (λt k=>hp t (.tail _ k)) (aD3 hv)) (aB (bD b1 _) lp2) (aB (bD b2 _) lb2) (tE hF) (.inr ⟨_,rfl⟩) O1) λD8 uU O3 O4 g=>?_
    exact⟨D8,uU,O3,O4,GA (ln1 K a r (aB (aB (aW _ _) lp) (by decide))) aIS T (.inl rfl) aL3 (aL2 h1 h2 (.inr ⟨_,rfl⟩) O1) g⟩
end
theorem SI{α β:Type}{f:α->β}{xs:List α}{k:Nat}{x:α}:tX (xs.map f) k (f x)=(tX xs k x).map f:=by
 unfold tX
 rw[cG,List.map_take,xO,List.map_drop]
theorem aD5{lt:Nat->Bool}(k:Nat):∀lo hi,lo≤hi->y4 lt k lo hi≤hi:=by
 induction k with
 | zero=>exactλ_ _ h=>h
 | succ k ih=>
  intro lo hi h
  rw[LH]
  cases c:decide ((lo:Int) < hi) with
  | false=>exact h
  | true=>
   have hl:lo < hi:=lA.mp (of_decide_eq_true c)
   have m1:(lo+hi) / 2 < hi:=y5 hl (aZ _)
   cases lt ((lo+hi) / 2) with
   | true=>exact ih _ _ m1
   | false=>exact aB (ih _ _ (RX h)) (dY m1)
noncomputable def putL(row beh:List (List Nat))(c:Nat):List (List Nat):=tX row (y4 (ZY row beh) row.length 0 row.length) [c]
section
variable {L:Lay} {z:XA} {pr od nm lw bh:Option aA} {pend beh row ga res:List (List Nat)} {tb:sU} {c:Nat} {it:Pc}
theorem lw1(K:eI z.X)(h1:OS pr)(h2:OS od)(h3:OS nm)(h4:OS lw)(ht:oG tb)(hv:∀p∈tb,sZ p.2)(hc:sZ [c])(e:DN tb 100 [[c]] []=some res):
  ∃D8 uU,OS D8∧OS uU∧gd ((sv NZ kZ).s (mB L z pr od c nm lw [[c]] tb row [] [])) .next (mB L z pr od c D8 uU [] tb row res [.m6 89 0,.tL]):=by
 refine dW (lv5 (L:=L) (z:=z) (pr:=pr) (od:=od) (row:=row) (tb:=tb) (c:=c) K h1 h2 ht hv 100 [[c]] [] res nm lw fuel e (λt q=>by obtain rfl:=aU.mp q;exact hc) (by decide:1+1000 * 100≤900000) (by decide:0+1000 * 100≤900000) (by decide) h3 h4) λD8 uU O3 O4 g=>?_
 refine⟨D8,uU,O3,O4,LN (l:=L.n+2) (st1:=mB L z pr od c nm lw [[c]] tb row [] [.m6 89 0,wV L]) ⋯ rfl lb2 aIS ?_⟩
 cases L <;> exact g
noncomputable def Lay.h2(L:Lay)(z:XA)(tb:sU)(row beh:List (List Nat)):List Pc:=match L with
 | .a=>jO z.X [] [] z.ln++ [bL z.os,.iG 277 [(sY,19)],.ns [(an 30,.aO 14)],.inst 247 12,.lst (tb.map DG),bL row,bL beh,.m6 89 0,.tL,.pC pO]
 | .b=>Lay.h .b z [] tb row [bL beh,.m6 89 0,.tL]
 | .c=>Lay.h .c z [] tb row [bL beh,.m6 89 0,.tL]
noncomputable def Lay.nx(L:Lay):Lay:=match L with | .b=>.b | _=>.c
theorem lw2(hr:Asc row)(hz:row.length≤1000):gd ((sv (AW.th.nt 3) kZ).s (mB L z pr od c nm lw [] tb row beh [.m6 89 0,.tL])) .next (jX L pr od (some (eG c)) nm lw (some (.aO L.n)) (L.h2 z tb (putL row beh c) beh)):=by
 have A:=jN (y6.low row beh hr hz)
 have l1:(row.map aA.str).length≤1000000:=by rw[aG];exact aB hz (by decide)
 have l2:y4 (ZY row beh) row.length 0 row.length≤(row.map aA.str).length:=by rw[aG];exact aD5 _ _ _ (cO _)
 have e:(putL row beh c).map aA.str=tX (row.map aA.str) (y4 (ZY row beh) row.length 0 row.length) (eG c):=SI.symm
 cases L with
 | a=>
  unfold Lay.h2 bL
  rw[e]
  exact R.leaf [.lG (zBl row beh)] (yK A (rfl:Lay.h2 .a z tb row beh++ [.wI GB pO 21 19,.rC (.aO 16)]=Lay.h2 .a z tb row beh++ [.wI GB pO 21 19,.rC (.aO 16)]) l2 l1) ⋯
 | b=>
  unfold Lay.h2 Lay.h bL
  rw[e]
  exact R.leaf [.lG (zBl row beh)] (yK A (rfl:Lay.h2 .b z tb row beh++ [.wI GB pO 21 12,.rC (.aO 17)]=Lay.h2 .b z tb row beh++ [.wI GB pO 21 12,.rC (.aO 17)]) l2 l1) ⋯
 | c=>
  unfold Lay.h2 Lay.h bL
  rw[e]
  exact R.leaf [.lG (zBl row beh)] (yK A (rfl:Lay.h2 .c z tb row beh++ [.wI GB pO 21 16,.rC (.aO 17)]=Lay.h2 .c z tb row beh++ [.wI GB pO 21 16,.rC (.aO 17)]) l2 l1) ⋯
theorem OS.sel{o:Option aA}{σ:List Nat}(h:OS o):rE σ o=o:=by
 cases h with
 | inl h=>subst h;rfl
 | inr h=>refine cD h λt dF=>?_;subst dF;rfl
theorem lt1(K:eI z.X)(h1:OS pr)(h2:OS od)(h3:OS nm)(h4:OS lw)(ht:oG tb)(hv:∀p∈tb,sZ p.2)(hc:sZ [c])(e:DN tb 100 [[c]] []=some res)(hr:Asc row)(hz:row.length≤1000){hi:Option aA}:
  ∃D8 uU,OS D8∧OS uU∧gd (dU AW kZ (eG c) (jX L pr od hi nm lw bh (L.h z [] tb row []))) .next (jX L pr od (some (eG c)) D8 uU (some (.aO L.n)) (L.h2 z tb (putL row res c) res)):=by
 refine dW (lw1 (L:=L) (z:=z) (pr:=pr) (od:=od) (row:=row) K h1 h2 h3 h4 ht hv hc e) λD8 uU O3 O4 g=>?_
 exact⟨D8,uU,O3,O4,dP (a:=()) (k:=λ_ st1=>(sv AW.th kZ).k st1) (st:=jX L pr od (some (eG c)) nm lw bh (L.h z [] tb row [])) (R.leaf [] trivial (by cases L <;> kernel_rfl)) (rH lb0 (rH (lb1 (cO _)) (rH g (mE (lw2 hr hz) ⋯))))⟩
theorem lt2:MS true L.k (L.h2 z tb row beh)=true:=by cases L <;> kernel_rfl
theorem lt3(h1:OS pr)(h2:OS od)(h3:OS nm)(h4:OS lw):ET true L.k (jX L pr od (some (eG c)) nm lw (some (.aO L.n)) (L.h2 z tb row beh))=jX L.nx pr od (some (eG c)) nm lw none (L.nx.h z [] tb row []):=by
 cases L with
 | a=>show(⟨[_,_,_,_,rE _ pr,rE _ od,_,rE _ nm,rE _ lw,_,_,_,_,_],_⟩:aK)=_;rw[h1.sel,h2.sel,h3.sel,h4.sel];kernel_rfl
 | b=>show(⟨[_,_,_,_,rE _ pr,rE _ od,_,rE _ nm,rE _ lw,_,_,_,_,_],_⟩:aK)=_;rw[h1.sel,h2.sel,h3.sel,h4.sel];kernel_rfl
 | c=>show(⟨[_,_,_,_,rE _ pr,rE _ od,_,rE _ nm,rE _ lw,_,_,_,_,_],_⟩:aK)=_;rw[h1.sel,h2.sel,h3.sel,h4.sel];kernel_rfl
noncomputable def DO(B:Nat->List (List Nat))(cs:List Nat)(row:List (List Nat)):List (List Nat):=cs.foldl (λrow c=>putL row (B c) c) row
noncomputable def Lay.en(L:Lay)(n:Nat):Lay:=match n with | 0=>L | _=>L.nx
theorem aIT:L.nx.nx=L.nx:=by cases L <;> rfl
theorem aL4:L.nx.k=L.k:=by cases L <;> rfl
theorem aD6(h:∀x∈row,asc x=true∧x.length≤1000000):Asc row:=λj=>by
 rw[bO]
 cases e:row[j]? with
 | none=>exact⟨rfl,cO _⟩
 | some x=>exact h x (aN e)
theorem LR{x:List Nat}{res:List (List Nat)}(h:x∈putL row res c):x∈row∨x= [c]:=by
 unfold putL tX at h
 cases aT.mp h with
 | inl q=>exact .inl (uV q)
 | inr q=>cases nW.mp q with
  | inl q=>exact .inr q
  | inr q=>exact .inl (List.mem_of_mem_drop q)
theorem LS{res:List (List Nat)}:(putL row res c).length=row.length+1:=by
 unfold putL tX
 rw[aE,eQ,←b9,←aE,List.take_append_drop]
theorem lt4(K:eI z.X)(h1:OS pr)(h2:OS od)(ht:oG tb)(hv:∀p∈tb,sZ p.2)(B:Nat->List (List Nat)):∀(cs:List Nat) (L:Lay) (row:List (List Nat)) (hi nm lw bh:Option aA),(∀c∈cs,sZ [c]∧DN tb 100 [[c]] []=some (B c))->(∀x∈row,asc x=true∧x.length≤1000000)->row.length+cs.length≤1000->OS nm->OS lw->
  ∃L' hi' D8 uU bh',L'=L.en cs.length∧gd (forL true (dU AW kZ) [] L.k (cs.map eG) (jX L pr od hi nm lw bh (L.h z [] tb row []))) .next (jX L' pr od hi' D8 uU bh' (L'.h z [] tb (DO B cs row) [])):=by
 intro cs
 induction cs with
 | nil=>exactλL row hi nm lw bh _ _ _ _ _=>⟨L,hi,nm,lw,bh,rfl,AU⟩
 | cons c r ih=>
  intro L row hi nm lw bh hc hr hz h3 h4
  refine d5 (hc c (.head _)) λhc1 hc2=>?_
  have hz1:row.length+1+r.length≤1000:=by rw[b9,cQ 1];exact hz
  refine dW (lt1 (L:=L) (z:=z) (pr:=pr) (od:=od) (nm:=nm) (lw:=lw) (bh:=bh) (row:=row) (hi:=hi) K h1 h2 h3 h4 ht hv hc1 hc2 (aD6 hr) (aB (aB (eW _) (aW _ _)) hz1)) λD8 uU O3 O4 T=>?_
  obtain⟨L',hi',nm2,lw2,bh',eL,g⟩:=ih L.nx (putL row (B c) c) (some (eG c)) D8 uU none (λx q=>hc x (.tail _ q)) (λx q=>(LR q).elim (hr x) λq=>by subst q;exact⟨hc1.1.1,(by decide:1≤1000000)⟩) (by rw[LS];exact hz1) O3 O4
  refine⟨L',hi',nm2,lw2,bh',eL.trans ?_,dP T (n6 lt2 ?_)⟩
  ·cases r with
   | nil=>rfl
   | cons=>exact aIT
  ·show gd (forL _ _ _ _ _ (ET true L.k _)) _ _
   rw[lt3 h1 h2 O3 O4,←aL4]
   exact g
theorem JO{l:List (List Nat)}(h:∀x∈l,x.length≤1):kJ l≤l.length:=by
 induction l with
 | nil=>exact aZ 0
 | cons x r ih=>exact aB (dD (h x (.head _)) (ih λy q=>h y (.tail _ q))) (cC (cQ 1 _))
theorem SJ{B:Nat->List (List Nat)}:∀(cs:List Nat) (row:List (List Nat)),(∀x∈row,x.length≤1)->∀x∈DO B cs row,x.length≤1:=by
 intro cs
 induction cs with
 | nil=>exactλ_ h=>h
 | cons c r ih=>exactλrow h=>ih (putL row (B c) c) λx q=>(LR q).elim (h x) λq=>by subst q;exact aZ 1
theorem SK{B:Nat->List (List Nat)}:∀(cs:List Nat) (row:List (List Nat)),(DO B cs row).length=row.length+cs.length:=by
 intro cs
 induction cs with
 | nil=>exactλrow=>rfl
 | cons c r ih=>exactλrow=>(ih (putL row (B c) c)).trans (by rw[LS,eQ,b9,cQ 1])
theorem lt6{hi:Option aA}(hj:kJ row+row.length * ([]:List Nat).length≤1000000):((sv (yZ.nt 3) kZ).s (jX L pr od hi nm lw bh (L.h z [] tb row []))).good (.ok (.ret (.str (jn [] row))) (jX L pr od hi nm lw bh (L.h z [] tb row []))):=by
 have e:row.map aA.str=row.map aA.str:=rfl
 cases L with
 | a=>exact R.leaf [.strs row] (oU e hj) ⋯
 | b=>exact R.leaf [.strs row] (oU e hj) ⋯
 | c=>exact R.leaf [.strs row] (oU e hj) ⋯
theorem lt7{bW:aK}{fl:bU}(h:L= .a∨L= .b)(g:gd (forL true (dU AW kZ) [] L.k (abcd.map eG) (jX L pr od none none none none (L.h z [] tb row []))) fl bW):gd ((sv AW kZ).s (jX L pr od none none none none (L.h z [] tb row []))) fl bW:=by
 refine aHW true (a:=.str abcd) (ys:=abcd.map eG) (need:=[]) (s1:=jX L pr od none none none none (L.h z [] tb row [])) (s2:=jX L pr od none none none none (L.h z [] tb row [])) ⋯ rfl (R.leaf [] trivial (by cases L <;> kernel_rfl)) (λk q=>q) ?_
 cases h with
 | inl h=>subst h;exact g
 | inr h=>subst h;exact g
theorem hjL{l:List (List Nat)}(h:∀x∈l,x.length≤1)(k:l.length≤1000):kJ l+l.length * ([]:List Nat).length≤1000000:=by
 rw[dJ,Nat.mul_zero]
 exact aB (JO h) (aB k (by decide))
theorem lt5(K:eI z.X)(h:L= .a∨L= .b)(ho:∀o∈z.os,o.length≤1000)(hz:z.os.length≤100)(hv:∀p∈vI gH z.os,sZ p.2)(B:Nat->List (List Nat))(hB:∀c∈abcd,sZ [c]∧DN (vI gH z.os) 100 [[c]] []=some (B c)):
  ∃m,((sv yZ kZ).k ⟨[some (.aO 0),some (.aO 10),none,none,none,none,none,none,none,none,some (.ref 247),some (.ref 54),some (.blt "iter"),some (.ref 47)],L.h0 z⟩).good (.ok (.ret (.str (jn [] (DO B abcd [])))) ⟨m,L.nx.h z [] (vI gH z.os) (DO B abcd []) []⟩):=by
 refine MI (le5 (L:=L) (z:=z) (row:=[]) h ho hz) λpr od P O g1 H=>?_
 obtain⟨L',hi,nm,lw,bh,eL,g2⟩:=lt4 (z:=z) (tb:=vI gH z.os) (pr:=pr) (od:=od) K P O H hv B abcd L [] none none none none hB (λ_ q=>nomatch q) (by decide) (.inl rfl) (.inl rfl)
 have lr:(DO B abcd []).length=4:=SK abcd []
 have hj:=hjL (SJ (B:=B) abcd [] λ_ q=>nomatch q) (aB (cC lr) (by decide:4≤1000))
 have eL:L'=L.nx:=eL
 subst eL
 exact⟨(jX L.nx pr od hi nm lw bh []).m,rH (le0 h) (rH g1 (rH (lt7 h g2) (mE (lt6 hj) ⋯)))⟩
inductive GH(os:List (List Nat))(B:Nat->List (List Nat)):Prop where
 | mk (o:∀o∈os,o.length≤1000) (z:os.length≤100) (v:∀p∈vI gH os,sZ p.2) (b:∀c∈abcd,sZ [c]∧DN (vI gH os) 100 [[c]] []=some (B c))
noncomputable abbrev zLe(L:Lay)(z:XA)(B:Nat->List (List Nat)):lZ:={ as:=[.aO 0,.aO 10],H:=L.h0 z,r:=.str (jn [] (DO B abcd [])),H':=L.nx.h z [] (vI gH z.os) (DO B abcd []) [] }
inductive LeS:lZ->Prop
 | mk (L:Lay) (z:XA) (B:Nat->List (List Nat)) (K:eI z.X) (h:L= .a∨L= .b) (O:GH z.os B):LeS (zLe L z B)
theorem aIU{D:WD}(O:Wld D):kB D 282 6 (vF 277 (sW LeS)):=aIB 277 O.16 λ{n w} hn h=>by
 obtain⟨L,z,B,K,h,P⟩:=h
 refine cD (lt5 K h P.1 P.2 P.3 B P.4) λm g=>?_
 cases h with
 | inl h=>subst h;exact O.16.RD (k:=5) (lm:=some B7) (O.env (F8_ O)) O.B7 ⋯ hn O.38 ⋯ g ⟨rfl,rfl⟩
 | inr h=>subst h;exact O.16.RD (k:=5) (lm:=some B7) (O.env (F8_ O)) O.B7 ⋯ hn O.38 ⋯ g ⟨rfl,rfl⟩
end
theorem Vs.imp{α:Type}{f g:α->aA}{ρ:Roo}{h:c9}(k:∀a v,V ρ h (f a) v->V ρ h (g a) v):∀{l:List α} {vs:List aJ},Vs ρ h (l.map f) vs->Vs ρ h (l.map g) vs:=λ{l}=>by
 induction l with
 | nil=>intro _ e;exact e
 | cons a r ih=>intro _ e;refine dW e λv vs e x y=>?_;exact⟨v,vs,e,k a v x,ih y⟩
theorem FE.aL5{o:List Nat}{ρ:Roo}{h:c9}(e:FE)(v:aJ)(w:V ρ h (e.f o) v):V ρ h (.tup [.str [e.a,e.b],.str (told o e.a e.b)]) v:=by
 obtain⟨t,vs,rfl,ht,v1,r,rfl,⟨u,hu,_⟩,w⟩:=w
 exact⟨t,_,rfl,ht,v1,r,rfl,⟨u,hu⟩,w⟩
noncomputable abbrev fW(o:List Nat)(p:Nat×Nat):aA:=.tup [.str [p.1,p.2],.str (told o p.1 p.2)]
noncomputable abbrev zF(o:List Nat):List (Nat×Nat):=gH.filter λp=>sV o p.1 p.2
theorem Own.wk1{D:WD}{g:c9}{X:List cI}{ρ:Roo}{s:aM}{xs ys:List aA}(f:∀{vs:List aJ},Vs [] s.heap xs vs->Vs [] s.heap ys vs)(o:Own D g X ρ [.lst xs] s):Own D g X ρ [.lst ys] s:=by
 refine⟨o.1,o.2,o.3,o.4,λj p x e hx=>?_,o.6,o.7,o.8⟩
 cases j with
 | succ j=>exact nomatch e
 | zero=>
  obtain rfl:=aD e
  cases o.5 0 _ x rfl hx with
  | mk' ex nt sys=>obtain⟨o,ho,vs,n,e,w⟩:=ex;exact⟨⟨o,ho,vs,n,e,f w⟩,nt,sys⟩
theorem aD7{o:List Nat}{es:List FE}(h:es.map (λe=>(e.a,e.b))=gH):(es.filter λe=>sV o e.a e.b).map (λe=>aA.tup [.str [e.a,e.b],.str (told o e.a e.b)])=(zF o).map (fW o):=by
 unfold zF
 rw[←h,List.filter_map,m2]
 rfl
inductive zG:lZ->Prop
 | mk (o:List Nat) (ho:o.length≤4):zG { as:=[.str o],H:=[],r:=.aO 0,H':=[.lst ((zF o).map (fW o))] }
theorem aIV{D:WD}(O:Wld D):kB D 275 2 (eO (sW zG)):=TP O.15 λ{n z} hn h=>by
 obtain⟨o,ho⟩:=h
 refine⟨λ{A g ρ s vs ws} w hh hv hw=>iV (k6.weak (GG (T:=0) (Q:=λr _ H'=>∃es,es.map (λe:FE=>(e.a,e.b))=gH∧r= .aO 0∧H'= [.lst (mQ o es)]) O hn ho λes T' K=>⟨es,K.1,rfl,rfl⟩) w hh hv hw) λr s'=>CR.mono λv s' p=>?_⟩
 obtain⟨le,r,ow,q⟩:=p
 refine wF q λes hm dE rF=>?_;subst dE;subst rF
 refine .mk le r (Own.wk1 (λ{vs} k=>?_) ow) ⟨rfl,congrArg (λl=>[Pc.lst l]) (aD7 hm)⟩
 exact Vs.imp FE.aL5 k
section
variable {α β σ:Type} {need:List (Nat×Pc)} {k:Nat} {inA:α->aA}
theorem B9(w:Nat){turn:aA->aK->R aK Unit}{mk:σ->List β->aK}{out:α->List β}{P:α->Prop}{S:σ->Prop}(hp:∀x sg acc,P x->S sg->acc.length+w≤100000->∃fR AY,S AY∧gd (turn (inA x) (mk sg acc)) () fR∧lK k k fR.H=true∧fR.cut k=mk AY (acc++out x)∧nd need (mk AY (acc++out x)))(ho:∀x,P x->(out x).length≤w):
  ∀(L:List α) (acc:List β) (sg:σ),(∀x∈L,P x)->S sg->acc.length+L.length * w≤100000->∃AY,S AY∧gd (m8 turn need k (L.map inA) (mk sg acc)) () (mk AY (acc++L.flatMap out)):=by
 intro L
 induction L with
 | nil=>exactλacc sg _ hS _=>⟨sg,hS,by rw[rR,bQ];exact AU⟩
 | cons x r ih=>
  intro acc sg h hS hz
  rw[eQ,Nat.succ_mul,cQ (r.length * w),←b9] at hz
  refine aJ4 (hp x sg acc (h x (.head _)) hS (aB (aW _ _) hz)) λfR sg1 s1 t a e n=>?_
  refine bS (ih (acc++out x) sg1 (λy hy=>h y (.tail _ hy)) s1 (by rw[aE];exact aB (bD (bI (ho x (h x (.head _))) _) _) hz)) λAY s2 g=>?_
  rw[f8,←c4]
  refine⟨AY,s2,dP t (n6 a ?_)⟩
  rw[e]
  exact zA n g
end
noncomputable def F9:List (cI×Nat×Fx):=[(287,3,vF 284 (sW PlS)),(275,2,eO (sW zG))]
theorem F9_{D:WD}(O:Wld D):k7 D F9:=.cons (aIC O) (.cons (aIV O) .nil)
noncomputable abbrev dK:Cx:=D6 LE 4 GT (sS F9 [] none)
noncomputable abbrev sT:S:=jM.nt 1
noncomputable abbrev cR:E:=(sT.th.nt 0).p8
noncomputable def N0(c:Nat)(r:List Nat)(i:Nat):List Nat:=iX r none (some (i:Int)) none++ [c]++iX r (some (i:Int)) none none
noncomputable def qD(c:Nat)(r:List Nat):List (List Nat):=(cE (r.length+1)).flatMap λi=>[N0 c r i]
noncomputable def Z5:List Nat->List (List Nat)->List (List Nat)
 | [],rs=>rs
 | c::cs,rs=>Z5 cs (rs.flatMap (qD c))
noncomputable abbrev xE(fls:List aA):List Pc:=[.lst fls,.iG 284 [],bL [[]]]
noncomputable abbrev sB(fls:List aA)(rs:List (List Nat)):List Pc:=[.lst fls,.iG 284 [],bL [[]],bL rs]
noncomputable abbrev tH(c:Nat)(r i:Option aA)(H:List Pc)(acc:List (List Nat))(G:List Pc):aK:=⟨[none,r,i,some (.typ "range"),some (.blt "len"),some (eG c)],H++ [bL acc]++G⟩
section
variable {fls:List aA} {rs:List (List Nat)} {c:Nat} {r:List Nat} {io ro:Option aA} {acc:List (List Nat)} {n:Nat}
noncomputable abbrev E.t2(e:E):E:=e.c 3
noncomputable abbrev E.i2(e:E):E:=e.c 4
noncomputable abbrev yR:Cx:=dK.lI cR.sc
noncomputable abbrev tIn(acc:Nat)(b:aA)(st:aK):R aK Unit:=((ev cR.t2 yR).g b st).bind λ_ st1=>vW acc (ev cR.el yR).e st1
noncomputable abbrev aIW(acc:Nat)(b:aA)(st:aK):R aK Unit:=((ev cR.tg yR).g b st).bind λ_ st1=>((ev cR.i2 yR).e st1).bind λa bW=>TL cR.t2 st1.H.length a bW λys need fL=>nV need fL (m8 (tIn acc) need fL.H.length ys fL)
theorem jr1(hr:r.length≤4)(hz:acc.length≤1000000)(i:Nat):gd (tIn 3 (.int i) (tH c (some (.str r)) io (xE fls) acc [.oK n])) () (tH c (some (.str r)) (some (.int i)) (xE fls) (acc++ [N0 c r i]) [.oK n]):=by
 unfold tH bL
 rw[R3]
 have hr6:r.length≤1000000:=aB hr (by decide)
 have l1:(iX r none (some (i:Int)) none).length≤4:=aB (g9 ..) hr
 have l2:(iX r (some (i:Int)) none none).length≤4:=aB (g9 ..) hr
 have a1:(iX r none (some (i:Int)) none).length+1≤1000000:=aB (bD l1 1) (by decide)
 have a2:(iX r none (some (i:Int)) none++ [c]).length+(iX r (some (i:Int)) none none).length≤1000000:=by rw[aE];exact aB (dD (bD l1 1) l2) (by decide)
 have hz:(acc.map aA.str).length≤1000000:=by rw[aG];exact hz
 exact R.leaf [] (QA hr6 a1 hr6 a2 hz) ⋯
def OI(o:Option aA):Prop:=o=none∨∃i:Int,o=some (.int i)
theorem OI.qU{o:Option aA}{k:Nat}(h:OI o):jW k o=o:=by
 cases h with
 | inl h=>subst h;rfl
 | inr h=>refine cD h λt dF=>?_;subst dF;rfl
theorem jr2(hr:r.length≤4)(hI:OI io):∀(acc:List (List Nat)),acc.length+5≤100000->∃DP,OI DP∧gd (m8 (tIn 3) [] 5 ((cE (r.length+1)).map λj=>aA.int (j:Nat)) (tH c (some (.str r)) io (xE fls) acc [.oK n])) () (tH c (some (.str r)) DP (xE fls) (acc++qD c r) [.oK n]):=by
 intro acc hz
 refine B9 (β:=List Nat) (σ:=Option aA) (need:=[]) (k:=5) (inA:=λj:Nat=>aA.int (j:Nat)) (S:=OI) (P:=λ_=>True) (mk:=λio acc=>tH c (some (.str r)) io (xE fls) acc [.oK n]) 1 (out:=λi=>[N0 c r i]) (λi io acc _ _ hz=>⟨_,some (.int i),.inr ⟨_,rfl⟩,jr1 hr (aB (aB (aW _ _) hz) (by decide)) i, ?_, ?_,R8⟩) (λ_ _=>aZ 1) (cE (r.length+1)) acc io (λ_ _=>trivial) hI ?_
 ·kernel_rfl
 ·kernel_rfl
 ·rw[i7,G7];exact aB (bI (cH hr) _) hz
theorem aL6(hr:r.length≤4)(hz:acc.length≤1000000)(i:Nat):gd (tIn 4 (.int i) (tH c (some (.str r)) io (sB fls rs) acc [.oK n])) () (tH c (some (.str r)) (some (.int i)) (sB fls rs) (acc++ [N0 c r i]) [.oK n]):=by
 unfold tH bL
 rw[R3]
 have hr6:r.length≤1000000:=aB hr (by decide)
 have l1:(iX r none (some (i:Int)) none).length≤4:=aB (g9 ..) hr
 have l2:(iX r (some (i:Int)) none none).length≤4:=aB (g9 ..) hr
 have a1:(iX r none (some (i:Int)) none).length+1≤1000000:=aB (bD l1 1) (by decide)
 have a2:(iX r none (some (i:Int)) none++ [c]).length+(iX r (some (i:Int)) none none).length≤1000000:=by rw[aE];exact aB (dD (bD l1 1) l2) (by decide)
 have hz:(acc.map aA.str).length≤1000000:=by rw[aG];exact hz
 exact R.leaf [] (QA hr6 a1 hr6 a2 hz) ⋯
theorem aL7(hr:r.length≤4)(hI:OI io):∀(acc:List (List Nat)),acc.length+5≤100000->∃DP,OI DP∧gd (m8 (tIn 4) [] 6 ((cE (r.length+1)).map λj=>aA.int (j:Nat)) (tH c (some (.str r)) io (sB fls rs) acc [.oK n])) () (tH c (some (.str r)) DP (sB fls rs) (acc++qD c r) [.oK n]):=by
 intro acc hz
 refine B9 (β:=List Nat) (σ:=Option aA) (need:=[]) (k:=6) (inA:=λj:Nat=>aA.int (j:Nat)) (S:=OI) (P:=λ_=>True) (mk:=λio acc=>tH c (some (.str r)) io (sB fls rs) acc [.oK n]) 1 (out:=λi=>[N0 c r i]) (λi io acc _ _ hz=>⟨_,some (.int i),.inr ⟨_,rfl⟩,aL6 hr (aB (aB (aW _ _) hz) (by decide)) i, ?_, ?_,R8⟩) (λ_ _=>aZ 1) (cE (r.length+1)) acc io (λ_ _=>trivial) hI ?_
 ·kernel_rfl
 ·kernel_rfl
 ·rw[i7,G7];exact aB (bI (cH hr) _) hz
theorem jr3(hr:r.length≤4)(hI:OI io)(hz:acc.length+5≤100000):∃DP,OI DP∧gd (uS cR yR 3 (.str r) (tH c ro io (xE fls) acc [])) () (tH c (some (.str r)) DP (xE fls) (acc++qD c r) [.oK (r.length+1)]):=by
 refine bS (jr2 (fls:=fls) (c:=c) (n:=r.length+1) hr hI acc hz) λDP I g=>?_
 refine⟨DP,I, ?_⟩
 show gd (aIW 3 (.str r) (tH c ro io (xE fls) acc [])) () _
 refine dP (α:=Unit) (a:=()) (st:=tH c (some (.str r)) io (xE fls) acc []) (R.leaf [] trivial ⋯) (dP (a:=aA.aO 4) (st:=tH c (some (.str r)) io (xE fls) acc [.oK (r.length+1)]) (R.leaf [] (oU (aB hr (by decide):r.length≤1000000) (bA (cH hr) (by decide):r.length+1 < 1000000)) ⋯) ?_)
 exact pU (bA (cH hr) (by decide):r.length+1 < 1000000) g
theorem aL8(hr:r.length≤4)(hI:OI io)(hz:acc.length+5≤100000):∃DP,OI DP∧gd (uS cR yR 4 (.str r) (tH c ro io (sB fls rs) acc [])) () (tH c (some (.str r)) DP (sB fls rs) (acc++qD c r) [.oK (r.length+1)]):=by
 refine bS (aL7 (fls:=fls) (rs:=rs) (c:=c) (n:=r.length+1) hr hI acc hz) λDP I g=>?_
 refine⟨DP,I, ?_⟩
 show gd (aIW 4 (.str r) (tH c ro io (sB fls rs) acc [])) () _
 refine dP (α:=Unit) (a:=()) (st:=tH c (some (.str r)) io (sB fls rs) acc []) (R.leaf [] trivial ⋯) (dP (a:=aA.aO 5) (st:=tH c (some (.str r)) io (sB fls rs) acc [.oK (r.length+1)]) (R.leaf [] (oU (aB hr (by decide):r.length≤1000000) (bA (cH hr) (by decide):r.length+1 < 1000000)) ⋯) ?_)
 exact pU (bA (cH hr) (by decide):r.length+1 < 1000000) g
theorem aL9(h1:OS ro)(h2:OI io){n:Nat}:(tH c ro io (xE fls) acc [.oK n]).cut 4=tH c ro io (xE fls) acc []:=by
 show(⟨[_,jW 4 ro,jW 4 io,_,_,_],_⟩:aK)=_
 rw[h1.qU,h2.qU]
 rfl
theorem aMA(h1:OS ro)(h2:OI io){n:Nat}:(tH c ro io (sB fls rs) acc [.oK n]).cut 5=tH c ro io (sB fls rs) acc []:=by
 show(⟨[_,jW 5 ro,jW 5 io,_,_,_],_⟩:aK)=_
 rw[h1.qU,h2.qU]
 rfl
theorem GI(hr:r.length≤4):(qD c r).length≤5:=by
 unfold qD
 rw[List.length_flatMap]
 have:∀l:List Nat,(l.map λi=>([N0 c r i]:List (List Nat)).length).sum=l.length:=λl=>by
  induction l with
  | nil=>rfl
  | cons a t ih=>rw[xO,xN,ih,eQ,cQ];rfl
 rw[this,i7]
 exact cH hr
structure JA where
 o:List Nat
 rest:List Nat
 one:List Nat
 other:List Nat
 joined:List Nat
 lo:Nat
 hi:Nat
structure JL where
 nm:Option aA
 pr:Option aA
 ms:Option aA
 us:Option aA
 tp:Option aA
 td:Option aA
 un:Option aA
 le:Option aA
 up:Option aA
noncomputable abbrev OP:JL:=⟨none,none,none,none,none,none,none,none,none⟩
noncomputable abbrev mJ(a:JA)(od:Option aA)(l:JL)(H:List Pc):aK:=⟨[some (.str a.o),some (.aO 0),some (.str a.rest),some (.str a.one),some (.str a.other),some (.str a.joined),some (.tup [.int a.lo,.int a.hi]),od,some (.tup (gH.map DM)),l.nm,l.pr,l.ms,l.us,l.tp,l.td,l.un,l.le,l.up,some (.ref 287),some (.blt "sorted"),some (.typ "range"),some (.ref 275)],H⟩
theorem jr4{a:JA}:gd (WL cR dK (mJ a (some (.aO 2)) { OP with nm:=some (eG c) } (xE fls))) (.aO 3) (mJ a (some (.aO 2)) { OP with nm:=some (eG c) } (xE fls++ [bL ([[]].flatMap (qD c))])):=by
 obtain⟨sg,_,g⟩:=B9 (β:=List Nat) (σ:=Option aA×Option aA) (need:=[(2,bL [[]])]) (k:=4) (inA:=aA.str) (S:=λsg=>OS sg.1∧OI sg.2) (P:=λr=>r.length≤4) (mk:=λsg acc=>tH c sg.1 sg.2 (xE fls) acc []) 5 (out:=qD c) (turn:=uS cR yR 3)
  (λr sg acc hr hS hz=>by
   obtain⟨DP,I,t⟩:=jr3 (fls:=fls) (c:=c) (ro:=sg.1) (io:=sg.2) hr hS.2 hz
   exact⟨_,(some (.str r),DP),⟨.inr ⟨_,rfl⟩,I⟩,t,⋯,aL9 (.inr ⟨_,rfl⟩) I,sK rfl⟩) (λr hr=>GI hr) [[]] [] (none,none) (λr q=>by obtain rfl:=aU.mp q;exact cO _) ⟨.inl rfl,.inl rfl⟩ (by decide)
 exact mH (w:=cR) (st:=mJ a (some (.aO 2)) { OP with nm:=some (eG c) } (xE fls)) (s1:=mJ a (some (.aO 2)) { OP with nm:=some (eG c) } (xE fls)) (s2:=mJ a (some (.aO 2)) { OP with nm:=some (eG c) } (xE fls)) (s3:=tH c sg.1 sg.2 (xE fls) ([[]].flatMap (qD c)) []) (a:=.aO 2) (ys:=[[]].map aA.str) (need:=[(2,bL [[]])]) (R.leaf [] trivial ⋯) (λk q=>q) ⟨rfl,g⟩
theorem aMB{a:JA}(hL:∀r∈rs,r.length≤4)(hz:rs.length≤1000):gd (WL cR dK (mJ a (some (.aO 3)) { OP with nm:=some (eG c) } (sB fls rs))) (.aO 4) (mJ a (some (.aO 3)) { OP with nm:=some (eG c) } (sB fls rs++ [bL (rs.flatMap (qD c))])):=by
 obtain⟨sg,_,g⟩:=B9 (β:=List Nat) (σ:=Option aA×Option aA) (need:=[(3,bL rs)]) (k:=5) (inA:=aA.str) (S:=λsg=>OS sg.1∧OI sg.2) (P:=λr=>r.length≤4) (mk:=λsg acc=>tH c sg.1 sg.2 (sB fls rs) acc []) 5 (out:=qD c) (turn:=uS cR yR 4)
  (λr sg acc hr hS hz=>by
   obtain⟨DP,I,t⟩:=aL8 (fls:=fls) (rs:=rs) (c:=c) (ro:=sg.1) (io:=sg.2) hr hS.2 hz
   exact⟨_,(some (.str r),DP),⟨.inr ⟨_,rfl⟩,I⟩,t,⋯,aMA (.inr ⟨_,rfl⟩) I,sK rfl⟩) (λr hr=>GI hr) rs [] (none,none) hL ⟨.inl rfl,.inl rfl⟩ (aB (cC (cZ _)) (aB (vM 5 hz) (by decide)))
 exact mH (w:=cR) (st:=mJ a (some (.aO 3)) { OP with nm:=some (eG c) } (sB fls rs)) (s1:=mJ a (some (.aO 3)) { OP with nm:=some (eG c) } (sB fls rs)) (s2:=mJ a (some (.aO 3)) { OP with nm:=some (eG c) } (sB fls rs)) (s3:=tH c sg.1 sg.2 (sB fls rs) (rs.flatMap (qD c)) []) (a:=.aO 3) (ys:=rs.map aA.str) (need:=[(3,bL rs)]) (R.leaf [] trivial ⋯) (λk q=>q) ⟨rfl,g⟩
end
section
variable {D:WD} {C:Ctx} {fls:List aA} {rs:List (List Nat)} {a:JA} {c:Nat} {nm:Option aA}
noncomputable abbrev wW(c:Nat):JL:={ OP with nm:=some (eG c) }
theorem jt1:gd ((sv (sT.th.nt 0) dK).s (mJ a (some (.aO 2)) (wW c) (xE fls))) .next (mJ a (some (.aO 3)) (wW c) (sB fls ([[]].flatMap (qD c)))):=
 R.leaf [.cmp (.aO 3) (mJ a (some (.aO 2)) (wW c) (xE fls++ [bL ([[]].flatMap (qD c))]))] (kU (jr4 (a:=a) (c:=c) (fls:=fls))) ⋯
theorem jt2(hL:∀r∈rs,r.length≤4)(hz:rs.length≤1000):gd ((sv (sT.th.nt 0) dK).s (mJ a (some (.aO 3)) (wW c) (sB fls rs))) .next (mJ a (some (.aO 4)) (wW c) (sB fls rs++ [bL (rs.flatMap (qD c))])):=
 R.leaf [.cmp (.aO 4) (mJ a (some (.aO 3)) (wW c) (sB fls rs++ [bL (rs.flatMap (qD c))]))] (kU (aMB (a:=a) (c:=c) (fls:=fls) hL hz)) ⋯
theorem jk1:wM (some [3]) 3 (sB fls rs)=true:=⋯
theorem jk2:pE (some [3]) 3 (mJ a (some (.aO 3)) (wW c) (sB fls rs))=mJ a (some (.aO 3)) (wW c) (sB fls rs):=⋯
theorem jk3{r2:List (List Nat)}:wM (some [4]) 3 (sB fls rs++ [bL r2])=true:=⋯
theorem jk4{r2:List (List Nat)}:pE (some [4]) 3 (mJ a (some (.aO 4)) (wW c) (sB fls rs++ [bL r2]))=mJ a (some (.aO 3)) (wW c) (sB fls r2):=⋯
noncomputable abbrev aIX(j:Nat):List (List Nat):=Z5 (abcd.take j) [[]]
noncomputable def HC(a:JA)(fls:List aA):Nat->aK
 | 0=>mJ a (some (.aO 2)) OP (xE fls)
 | j+1=>mJ a (some (.aO 3)) (wW (abcd.getD j 0)) (sB fls (aIX (j+1)))
theorem aMC(O:iZ C dK)(BF:C.cp= []){Q:bU->aK->Prop}(j:Nat)(x:aA)(hx:(abcd.map eG)[j]? =some x):
  As C (eD dK.xs (.v 9 5433996)).e x (HC a fls j) (λfL=>j5 C (dst dK.xs sT.th).b fL (rS (λj6=>∃w,wM w 3 j6.H=true∧pE w 3 j6=HC a fls (j+1)) Q) eE) eE:=by
 have nm9:∀{st:aK} {R:aK->Prop},R ⟨st.m.set 9 (some x),st.H⟩->Bx (As C (eD dK.xs (.v 9 5433996)).e x st R eE):=λq=>by
  refine⟨?_⟩
  intro _ _ _ _ _
  exact As.name (i:=9) (k:=.cell) (by rw[O.1];rfl) (.inr ⟨rfl,by rw[BF];exactλq=>nomatch q⟩) q
 have fin:∀{st fR:aK} {w:Option (List Nat)},gd ((sv (sT.th.nt 0) dK).s st) .next fR->wM w 3 fR.H=true->pE w 3 fR=HC a fls (j+1)->j5 C (dst dK.xs sT.th).b st (rS (λj6=>∃w,wM w 3 j6.H=true∧pE w 3 j6=HC a fls (j+1)) Q) eE:=λ{st fR w} g h1 h2=>by
  show j5 C ((dst dK.xs (sT.th.nt 0)).s:: []) st _ eE
  refine j5.cons ?_
  refine Bx.m ((pF (sT.th.nt 0) C dK O).1 (g.post (Q:=λfl s=>fl= .next∧s=fR) ⟨rfl,rfl⟩)) ?_
  rintro _ _ ⟨rfl,rfl⟩
  refine j5.nil ?_
  exact⟨w,h1,h2⟩
 match j,hx with
 | 0,hx=>obtain rfl:=aD hx;intro _ _ _ _ _;refine(nm9 ?_).1;intro _ _ _ _;exact fin jt1 jk1 jk2
 | 1,hx=>obtain rfl:=aD hx;intro _ _ _ _ _;refine(nm9 ?_).1;intro _ _ _ _;exact fin (jt2 (by decide) (by decide)) jk3 jk4
 | 2,hx=>obtain rfl:=aD hx;intro _ _ _ _ _;refine(nm9 ?_).1;intro _ _ _ _;exact fin (jt2 (by decide) (by decide)) jk3 jk4
 | 3,hx=>obtain rfl:=aD hx;intro _ _ _ _ _;refine(nm9 ?_).1;intro _ _ _ _;exact fin (jt2 (by decide) (by decide)) jk3 jk4
 | j+4,hx=>exact nomatch hx
theorem jr5(O:iZ C dK)(BF:C.cp= [])(hh:C.hd=none){Q:bU->aK->Prop}(q:Q .next (HC a fls 4)):Ex C (dst dK.xs sT).s (HC a fls 0) Q eE:=by
 show Ex C (.For (eD dK.xs (.v 9 5433996)).e (eD dK.xs sT.y0).e (dst dK.xs sT.th).b [] (dp 11861658)) _ Q eE
 intro _ _ _ _
 refine Ex.IT hh ((nG dK.xs sT.y0).4 _) ?_
 refine Bx.m ((gA sT.y0 C dK O).1 (R.good.post (o:=.ok (.str abcd) (HC a fls 0)) (Q:=λb s=>b= .str abcd∧s=HC a fls 0) (R.leaf [] trivial ⋯) ⟨rfl,rfl⟩)) ?_
 rintro _ _ ⟨rfl,rfl⟩
 refine⟨abcd.map eG,[],HC a fls 0,λj st=>st=HC a fls j,⟨FS,rfl,λj st _ p hp=>nomatch hp⟩,λj x st hx h=>?_,λst h=>?_⟩
 ·subst h
  intro _ _ _ _ _
  exact aMC O BF j x hx
 ·subst h
  exact q
end
noncomputable abbrev kN:List (List Nat):=aIX 4
noncomputable def c5:List (List Nat):=["abcd","abdc","acbd","acdb","adbc","adcb","bacd","badc","bcad","bcda","bdac","bdca","cabd","cadb","cbad","cbda","cdab","cdba","dabc","dacb","dbac","dbca","dcab","dcba"].map λs=>s.toList.map Char.toNat
theorem N1:c5.Perm kN:=by decide +kernel
theorem GJ:sortedS (c5.map c8)=true:=by decide +kernel
section
variable {a:JA} {fls:List aA}
noncomputable abbrev hJ2(fls:List aA):List Pc:=[.lst fls,.iG 284 [(zB,5)],bL [[]],bL kN,bL c5,.pC uB]
noncomputable abbrev zPl(a:JA):lZ:={ as:=[.aO 0,.str a.o,.int a.lo,.int a.hi],H:=[bL c5,.iG 284 []],r:=.bool true,H':=DJ c5 }
theorem js2(K:kC c5 a.o a.hi)(E:∀n < 5,pH c5 a.o a.lo a.hi n):gd ((sv (jM.nt 2) dK).s (mJ a (some (.aO 3)) (wW 100) (sB fls kN))) .next (mJ a (some (.aO 3)) (wW 100) (hJ2 fls)):=
 R.leaf [.perm kN c5,.s,.s,.lG (zPl a)] (vC (⟨rfl,by decide⟩:kN.map aA.str=kN.map aA.str∧kN.length < 64) (⟨N1,GJ⟩:c5.Perm kN∧sortedS (c5.map c8)=true) (jN (PlS.mk c5 a.o a.lo a.hi K E))) ⋯
end
noncomputable abbrev nA(n:Nat):aA:=.int (n:Nat)
noncomputable abbrev gS(l:List Nat):Pc:=.lst (l.map nA)
noncomputable abbrev zH(fls:List aA)(rs ss:List (List Nat)):List Pc:=[.lst fls,.iG 284 [(zB,5)],bL [[]],bL rs,bL ss,.pC uB]
noncomputable abbrev cM:E:=(jM.nt 3).p8
noncomputable abbrev E.c1a(e:E):E:=e.a0
noncomputable abbrev cMi:E:=cM.el.c1a
noncomputable abbrev yM:Cx:=dK.lI cM.sc
noncomputable abbrev zM:Cx:=yM.lI cMi.sc
noncomputable def prE:List (Nat×(Nat×Nat)):=[(0,(98,97)),(1,(99,97)),(2,(99,98)),(3,(100,97)),(4,(100,98)),(5,(100,99))]
noncomputable abbrev inE(e:Nat×(Nat×Nat)):aA:=.tup [nA e.1,DM e.2]
noncomputable def zZ(r:List Nat)(c:Nat):Nat:=(jR r [c] 0 r.length).getD 0
def DQ(r:List Nat):Prop:=∀c∈abcd,jR r [c] 0 r.length=some (zZ r c)
noncomputable def ltR(r:List Nat)(p:Nat×Nat):Bool:=decide ((zZ r p.1:Int) < zZ r p.2)
section
variable {a:JA} {fls:List aA} {rs ss:List (List Nat)} {r:List Nat} {i p ro:Option aA} {acc ms:List Nat} {e:Nat×(Nat×Nat)}
noncomputable abbrev iM(r:List Nat)(i p:Option aA)(H:List Pc)(acc:List Nat):aK:=⟨[none,i,p,some (.str r)],H++ [gS acc]⟩
noncomputable abbrev hM(fls:List aA)(rs ss:List (List Nat))(ms:List Nat):List Pc:=zH fls rs ss++ [gS ms]
theorem ints_snoc{l:List Nat}{b:Bool}{n:Nat}:gS (l++cond b [n] [])= .lst (l.map nA++(cond b [n] []).map nA):=by unfold gS;rw[cG]
theorem UV(h0:jR r [e.2.1] 0 r.length=some (zZ r e.2.1))(h1:jR r [e.2.2] 0 r.length=some (zZ r e.2.2))(hi:e.1≤1000000)(hz:acc.length≤1000000):gd (uS cMi zM 7 (inE e) (iM r i p (hM fls rs ss ms) acc)) () (iM r (some (nA e.1)) (some (DM e.2)) (hM fls rs ss ms) (acc++cond (ltR r e.2) [1 * 2 ^ e.1] [])):=by
 unfold iM
 rw[ints_snoc]
 have hz:(acc.map nA).length≤1000000:=by rw[aG];exact hz
 cases c:ltR r e.2 with
 | false=>rw[show(cond false [1 * 2 ^ e.1] []).map nA= [] from rfl,bQ];exact R.leaf [.nat e.2.1,.nat (zZ r e.2.1),.nat e.2.2,.nat (zZ r e.2.2),.n] (QA (uG e.2.1 e.2.2) h0 (vH e.2.1 e.2.2) h1 c) ⋯
 | true=>exact R.leaf [.nat e.2.1,.nat (zZ r e.2.1),.nat e.2.2,.nat (zZ r e.2.2),.y] (pU (uG e.2.1 e.2.2) (OK h0 (vH e.2.1 e.2.2) h1 c (⟨by decide,hi⟩:1 < 2 ^ 64∧e.1≤1000000) hz)) ⋯
noncomputable def v3(r:List Nat):List Nat:=prE.flatMap λe=>cond (ltR r e.2) [1 * 2 ^ e.1] []
noncomputable def hO(r:List Nat):Nat:=(v3 r).sum
noncomputable abbrev OQ(r:Option aA)(H:List Pc)(G:List Pc):aK:=⟨[none,r,some (.blt "sum"),some (.typ "enumerate"),some (.tup (gH.map DM))],H++G⟩
theorem mk2(hr:DQ r):gd (WL cMi yM (OQ (some (.str r)) (hM fls rs ss ms) [])) (.aO 7) (OQ (some (.str r)) (hM fls rs ss ms) [gS (v3 r)]):=by
 obtain⟨sg,g⟩:=vZ (β:=Nat) (σ:=Option aA×Option aA) (need:=[]) (k:=8) (inA:=inE) (P:=λe=>jR r [e.2.1] 0 r.length=some (zZ r e.2.1)∧jR r [e.2.2] 0 r.length=some (zZ r e.2.2)∧e.1≤1000000) (turn:=uS cMi zM 7) (mk:=λsg acc=>iM r sg.1 sg.2 (hM fls rs ss ms) acc) (nx:=λe=>(some (nA e.1),some (DM e.2))) (out:=λe=>cond (ltR r e.2) [1 * 2 ^ e.1] []) (λe sg acc h hz=>UV h.1 h.2.1 h.2.2 hz) (λe acc=>⟨⋯,⋯,R8⟩) (λe=>l9) prE [] (none,none)
  (λe he=>by
   have:∀e∈prE,e.2.1∈abcd∧e.2.2∈abcd∧e.1≤1000000:=by decide
   obtain⟨h1,h2,h3⟩:=this e he
   exact⟨hr _ h1,hr _ h2,h3⟩) (by decide)
 exact mH (w:=cMi) (st:=OQ (some (.str r)) (hM fls rs ss ms) []) (s1:=OQ (some (.str r)) (hM fls rs ss ms) [.OV (gH.map DM),.AH 7]) (s2:=OQ (some (.str r)) (hM fls rs ss ms) []) (s3:=iM r sg.1 sg.2 (hM fls rs ss ms) (v3 r)) (a:=.aO 8) (ys:=prE.map inE) (need:=[]) (R.leaf [] trivial ⋯) (λk q=>q) g
theorem sum_nat(l:List Nat):(l.map λn:Nat=>(n:Int)).sum=((l.sum:Nat):Int):=by
 induction l with
 | nil=>rfl
 | cons a t ih=>rw[xO,xN,xN,ih];exact(Int.natCast_add _ _).symm
theorem SL(l:List Nat):l.map nA=(l.map λn:Nat=>(n:Int)).map aA.int:=by rw[m2];rfl
theorem mk3(hr:DQ r)(hz:ms.length≤1000000):gd (uS cM yM 6 (.str r) (OQ ro (hM fls rs ss ms) [])) () (OQ (some (.str r)) (hM fls rs ss (ms++ [hO r])) [gS (v3 r)]):=by
 have hz:(ms.map nA).length≤1000000:=by rw[aG];exact hz
 have e:nA (hO r)= .int ((v3 r).map λn:Nat=>(n:Int)).sum:=congrArg aA.int (sum_nat _).symm
 unfold hM
 rw[show gS (ms++ [hO r])= .lst (ms.map nA++ [nA (hO r)]) from congrArg Pc.lst cG,e]
 exact R.leaf [.s,.cmp (.aO 7) (OQ (some (.str r)) (hM fls rs ss ms) [gS (v3 r)]),.ints ((v3 r).map λn:Nat=>(n:Int))] (vC (mk2 (fls:=fls) (rs:=rs) (ss:=ss) (ms:=ms) hr) (SL (v3 r)) hz) ⋯
theorem aMD(h:OS ro){b:List Nat}:(OQ ro (hM fls rs ss ms) [gS b]).cut 7=OQ ro (hM fls rs ss ms) []:=by
 show(⟨[_,jW 7 ro,_,_,_],_⟩:aK)=_
 rw[h.qU]
 rfl
theorem N2:∀r∈kN,DQ r:=by
 have:∀r∈kN,∀c∈abcd,jR r [c] 0 r.length=some (zZ r c):=by decide +kernel
 exact this
noncomputable abbrev jn2:JL:={ wW 100 with ms:=some (.aO 6) }
theorem LT{α β:Type}{f:α->β}(l:List α):(l.flatMap λx=>[f x])=l.map f:=by
 induction l with
 | nil=>rfl
 | cons a t ih=>rw[f8,ih];rfl
noncomputable abbrev hJ3(fls:List aA)(rs ss:List (List Nat)):List Pc:=hM fls rs ss (rs.map hO)
theorem aME(hR:∀r∈rs,DQ r)(hz:rs.length≤1000):gd ((sv (jM.nt 3) dK).s (mJ a (some (.aO 3)) (wW 100) (zH fls rs ss))) .next (mJ a (some (.aO 3)) jn2 (hJ3 fls rs ss)):=by
 obtain⟨sg,_,g⟩:=B9 (β:=Nat) (σ:=Option aA) (need:=[(3,bL rs)]) (k:=7) (inA:=aA.str) (S:=OS) (P:=DQ) (mk:=λro acc=>OQ ro (hM fls rs ss acc) []) 1 (out:=λr=>[hO r]) (turn:=uS cM yM 6)
  (λr ro acc hr hS hz=>⟨_,some (.str r),.inr ⟨_,rfl⟩,mk3 hr (aB (aB (aW _ _) hz) (by decide)),⋯,aMD (.inr ⟨_,rfl⟩),sK rfl⟩) (λ_ _=>aZ 1) rs [] none hR (.inl rfl) (by rw[dJ,cZ,G7];exact aB hz (by decide))
 rw[LT] at g
 have G:=mH (w:=cM) (x:=dK) (st:=mJ a (some (.aO 3)) (wW 100) (zH fls rs ss)) (s1:=mJ a (some (.aO 3)) (wW 100) (zH fls rs ss)) (s2:=mJ a (some (.aO 3)) (wW 100) (zH fls rs ss)) (s3:=OQ sg (hJ3 fls rs ss) []) (a:=.aO 3) (ys:=rs.map aA.str) (need:=[(3,bL rs)]) (R.leaf [] trivial ⋯) (λk q=>q) ⟨rfl,g⟩
 exact R.leaf [.cmp (.aO 6) (mJ a (some (.aO 3)) (wW 100) (hJ3 fls rs ss))] (kU G) ⋯
end
noncomputable def N3(i:Nat)(l:List Nat):List (Nat×Nat):=match l with
 | []=>[]
 | x::r=>(i,x)::N3 (i+1) r
noncomputable abbrev inU(e:Nat×Nat):aA:=.tup [nA e.1,nA e.2]
theorem XE(l:List Nat):∀i,rW i (l.map nA)=(N3 i l).map inU:=by
 induction l with
 | nil=>exactλ_=>rfl
 | cons x r ih=>exactλi=>congrArg (inU (i,x)::·) (ih (i+1))
noncomputable abbrev cU:E:=(jM.nt 4).p8
noncomputable abbrev cUi:E:=cU.el.c1a
noncomputable abbrev yU:Cx:=dK.lI cU.sc
noncomputable abbrev zU:Cx:=yU.lI cUi.sc
noncomputable def upB(low m:Nat):Bool:=((m &&& low:Nat):Int)==(low:Int)
section
variable {a:JA} {fls:List aA} {rs ss:List (List Nat)} {i p ro:Option aA} {acc ms us:List Nat} {e:Nat×Nat} {low:Nat}
noncomputable abbrev hU(fls:List aA)(rs ss:List (List Nat))(ms us:List Nat):List Pc:=hM fls rs ss ms++ [gS us]
noncomputable abbrev iU(low:Nat)(i p:Option aA)(H:List Pc)(acc:List Nat):aK:=⟨[none,i,p,some (nA low)],H++ [gS acc]⟩
theorem uk1(hi:e.1≤1000000)(hz:acc.length≤1000000):gd (uS cUi zU 8 (inU e) (iU low i p (hU fls rs ss ms us) acc)) () (iU low (some (nA e.1)) (some (nA e.2)) (hU fls rs ss ms us) (acc++cond (upB low e.2) [1 * 2 ^ e.1] [])):=by
 unfold iU
 rw[ints_snoc]
 have hz:(acc.map nA).length≤1000000:=by rw[aG];exact hz
 cases c:upB low e.2 with
 | false=>rw[show(cond false [1 * 2 ^ e.1] []).map nA= [] from rfl,bQ];exact R.leaf [.n] (kU c) ⋯
 | true=>exact R.leaf [.y] (vC c (⟨by decide,hi⟩:1 < 2 ^ 64∧e.1≤1000000) hz) ⋯
noncomputable def v4(ms:List Nat)(low:Nat):List Nat:=(N3 0 ms).flatMap λe=>cond (upB low e.2) [1 * 2 ^ e.1] []
noncomputable def rJ(ms:List Nat)(low:Nat):Nat:=(v4 ms low).sum
noncomputable abbrev OR(low:Option aA)(H:List Pc)(G:List Pc):aK:=⟨[none,low,some (.blt "sum"),some (.typ "enumerate"),some (.aO 6)],H++G⟩
theorem aD8{l:List Nat}:∀{i:Nat},∀e∈N3 i l,e.1 < i+l.length:=by
 induction l with
 | nil=>exactλe h=>nomatch h
 | cons x r ih=>
  intro i e h
  cases nW.mp h with
  | inl h=>subst h;exact Nat.lt_add_of_pos_right (j2 _)
  | inr h=>exact bR (ih e h) (cC (by rw[eQ,b9,cQ 1]))
theorem XF(l:List Nat):∀i,(N3 i l).length=l.length:=by
 induction l with
 | nil=>exactλ_=>rfl
 | cons x r ih=>exactλi=>congrArg rK (ih (i+1))
theorem uk2(hz:ms.length≤1000):gd (WL cUi yU (OR (some (nA low)) (hU fls rs ss ms us) [])) (.aO 8) (OR (some (nA low)) (hU fls rs ss ms us) [gS (v4 ms low)]):=by
 obtain⟨sg,g⟩:=vZ (β:=Nat) (σ:=Option aA×Option aA) (need:=[(6,gS ms)]) (k:=9) (inA:=inU) (P:=λe=>e.1≤1000000) (turn:=uS cUi zU 8) (mk:=λsg acc=>iU low sg.1 sg.2 (hU fls rs ss ms us) acc) (nx:=λe=>(some (nA e.1),some (nA e.2))) (out:=λe=>cond (upB low e.2) [1 * 2 ^ e.1] []) (λe sg acc h hz=>uk1 h hz) (λe acc=>⟨⋯,⋯,sK rfl⟩) (λe=>l9) (N3 0 ms) [] (none,none)
  (λe he=>dY (bR (aD8 e he) (aB (cC (cZ _)) (aB hz (by decide))))) (by rw[XF,dJ,cZ];exact aB hz (by decide))
 rw[←XE] at g
 exact mH (w:=cUi) (x:=yU) (st:=OR (some (nA low)) (hU fls rs ss ms us) []) (s1:=OR (some (nA low)) (hU fls rs ss ms us) [.lit 6,.AH 8]) (s2:=OR (some (nA low)) (hU fls rs ss ms us) []) (s3:=iU low sg.1 sg.2 (hU fls rs ss ms us) (v4 ms low)) (a:=.aO 9) (ys:=rW 0 (ms.map nA)) (need:=[(6,gS ms)]) (R.leaf [] trivial ⋯) (λk q=>q) ⟨rfl,g⟩
theorem uk3(hm:ms.length≤1000)(hz:us.length≤1000000):gd (uS cU yU 7 (nA low) (OR ro (hU fls rs ss ms us) [])) () (OR (some (nA low)) (hU fls rs ss ms (us++ [rJ ms low])) [gS (v4 ms low)]):=by
 have hz:(us.map nA).length≤1000000:=by rw[aG];exact hz
 have e:nA (rJ ms low)= .int ((v4 ms low).map λn:Nat=>(n:Int)).sum:=congrArg aA.int (sum_nat _).symm
 unfold hU
 rw[show gS (us++ [rJ ms low])= .lst (us.map nA++ [nA (rJ ms low)]) from congrArg Pc.lst cG,e]
 exact R.leaf [.s,.cmp (.aO 8) (OR (some (nA low)) (hU fls rs ss ms us) [gS (v4 ms low)]),.ints ((v4 ms low).map λn:Nat=>(n:Int))] (vC (uk2 (fls:=fls) (rs:=rs) (ss:=ss) (us:=us) (low:=low) hm) (SL (v4 ms low)) hz) ⋯
theorem aMF(h:OI ro){b:List Nat}:(OR ro (hU fls rs ss ms us) [gS b]).cut 8=OR ro (hU fls rs ss ms us) []:=by
 show(⟨[_,jW 8 ro,_,_,_],_⟩:aK)=_
 rw[h.qU]
 rfl
noncomputable abbrev jn3:JL:={ jn2 with us:=some (.aO 7) }
theorem aMG(hz:ms.length≤1000):gd ((sv (jM.nt 4) dK).s (mJ a (some (.aO 3)) jn2 (hM fls rs ss ms))) .next (mJ a (some (.aO 3)) jn3 (hU fls rs ss ms (ms.map (rJ ms)))):=by
 obtain⟨sg,_,g⟩:=B9 (β:=Nat) (σ:=Option aA) (need:=[(6,gS ms)]) (k:=8) (inA:=nA) (S:=OI) (P:=λ_=>True) (mk:=λro acc=>OR ro (hU fls rs ss ms acc) []) 1 (out:=λr=>[rJ ms r]) (turn:=uS cU yU 7)
  (λr ro acc hr hS hz2=>⟨_,some (nA r),.inr ⟨_,rfl⟩,uk3 hz (aB (aB (aW _ _) hz2) (by decide)),⋯,aMF (.inr ⟨_,rfl⟩),sK rfl⟩) (λ_ _=>aZ 1) ms [] none (λ_ _=>trivial) (.inl rfl) (by rw[dJ,cZ,G7];exact aB hz (by decide))
 rw[LT] at g
 have G:=mH (w:=cU) (x:=dK) (st:=mJ a (some (.aO 3)) jn2 (hM fls rs ss ms)) (s1:=mJ a (some (.aO 3)) jn2 (hM fls rs ss ms)) (s2:=mJ a (some (.aO 3)) jn2 (hM fls rs ss ms)) (s3:=OR sg (hU fls rs ss ms (ms.map (rJ ms))) []) (a:=.aO 6) (ys:=ms.map nA) (need:=[(6,gS ms)]) (R.leaf [] trivial ⋯) (λk q=>q) ⟨rfl,g⟩
 exact R.leaf [.cmp (.aO 7) (mJ a (some (.aO 3)) jn2 (hU fls rs ss ms (ms.map (rJ ms))))] (kU G) ⋯
end
noncomputable def jI(rs:List (List Nat))(o:List Nat):Nat:=rs.findIdx (· ==o)
section
variable {a:JA} {fls:List aA} {rs ss:List (List Nat)} {ms us:List Nat}
noncomputable abbrev jn4(t:Nat):JL:={ jn3 with tp:=some (nA t) }
theorem js5(h:jI rs a.o < rs.length)(hz:rs.length≤1000):gd ((sv (jM.nt 5) dK).s (mJ a (some (.aO 3)) jn3 (hU fls rs ss ms us))) .next (mJ a (some (.aO 3)) (jn4 (jI rs a.o)) (hU fls rs ss ms us)):=
 R.leaf [.strs rs] (kU (⟨rfl,h,aB hz (by decide)⟩:rs.map aA.str=rs.map aA.str∧rs.findIdx (· ==a.o) < rs.length∧rs.length≤1000000)) ⋯
end
theorem uR.CL{C:Ctx}{st:aK}{X:XQ}{T:Nat}{elts:List dO}{k:Nat}{sM:Pos}{value:dO}{pos:Pos}{Q:bU->Nat->aK->Prop}(hs:D0 [.Tuple elts k sM] value pos.line C.env=pure false)(hw:mW [.Tuple elts k sM] value C.env=pure none)
  (h:vA C value T st (λb T1 st1=>As C (.Tuple elts k sM) b st1 (Q .next T1) X) X):uR C (.Assign [.Tuple elts k sM] value pos) T st Q X:=λa kT=>
 Assign_Tuple (OH (h a kT) .refl λ{_ _ _ _ _ T1} _ l1 r1 a1 k1 q1=>TI (q1 a1 r1) k1 l1 λY l2 r2 a2 k2 q2=>⟨T1,k2,.mk (b:=.next) l2 rfl a2 q2⟩) hs hw
theorem gM{l:List Nat}{j:Nat}(hm:j < l.length)(hz:l.length≤1000):sO (j:Int) (l.map nA).length=some j∧(l.map nA)[j]? =some (nA (l.getD j 0))∧Sm (j:Int):=
 ⟨mN (by rw[aG];exact hm),by rw[bX,bO,aY hm];rfl,DC (aB (dY hm) (aB hz (by decide)))⟩
noncomputable abbrev JP:S:=jM.nt 6
noncomputable abbrev E.cr(e:E):E:=e.c 1
noncomputable abbrev cA:E:=(JP.th.nt 1).p8
noncomputable abbrev cB:E:=(JP.th.nt 2).p8.cr
noncomputable abbrev yA:Cx:=dK.lI cA.sc
noncomputable abbrev yB:Cx:=dK.lI cB.sc
structure JT where
 p0:Nat
 p1:Nat
 B:Nat
 T:Nat
 td:List Nat
 un:Nat
 le:Nat
section
variable {a:JA} {fls:List aA} {rs ss:List (List Nat)} {i:Option aA} {acc ms us:List Nat} {t u k j:Nat}
noncomputable abbrev mC(l:List Nat)(i:Nat):Nat:=l.getD i 0
noncomputable def GK(x y z:Nat):Bool:=((x &&& y:Nat):Int)==(z:Int)
noncomputable abbrev imA(t u:Nat)(i:Option aA)(H:List Pc)(acc:List Nat):aK:=⟨[none,i,some (nA t),some (nA u),some (.aO 7)],H++ [gS acc]⟩
noncomputable abbrev imB(k t:Nat)(i:Option aA)(H:List Pc)(acc:List Nat):aK:=⟨[none,i,some (nA k),some (.aO 6),some (nA t)],H++ [gS acc]⟩
noncomputable def upA(us:List Nat)(t u j:Nat):Bool:=GK (mC us u) (mC us j) (mC us t)
noncomputable def upM(ms:List Nat)(k t j:Nat):Bool:=GK (mC ms j) (mC ms k) (mC ms k) && GK (mC ms j) (mC ms t) (mC ms j)
noncomputable abbrev SM(fls:List aA)(rs ss:List (List Nat))(ms us:List Nat):List Pc:=hU fls rs ss ms us++ [.oK 24]
noncomputable abbrev vJ(us:List Nat)(t u:Nat):List Nat:=(cE 24).filter (upA us t u)
noncomputable abbrev zI(ms:List Nat)(k t:Nat):List Nat:=(cE 24).filter (upM ms k t)
noncomputable abbrev XG(fls:List aA)(rs ss:List (List Nat))(ms us:List Nat)(t u:Nat):List Pc:=SM fls rs ss ms us++ [gS (vJ us t u),.oK 24]
theorem ua1(hj:j < us.length)(ht:t < us.length)(hu:u < us.length)(hz:us.length≤1000)(ha:acc.length≤1000000):gd (uS cA yA 9 (nA j) (imA t u i (SM fls rs ss ms us) acc)) () (imA t u (some (nA j)) (SM fls rs ss ms us) (acc++cond (upA us t u j) [j] [])):=by
 unfold imA
 rw[ints_snoc]
 have ha:(acc.map nA).length≤1000000:=by rw[aG];exact ha
 cases c:upA us t u j with
 | false=>rw[show(cond false [j] []).map nA= [] from rfl,bQ];exact R.leaf [.item u (nA (mC us u)),.item j (nA (mC us j)),.item t (nA (mC us t)),.n] (yK (gM hu hz) (gM hj hz) (gM ht hz) c) ⋯
 | true=>exact R.leaf [.item u (nA (mC us u)),.item j (nA (mC us j)),.item t (nA (mC us t)),.y] (QA (gM hu hz) (gM hj hz) (gM ht hz) c ha) ⋯
theorem ub1(hj:j < ms.length)(ht:t < ms.length)(hk:k < ms.length)(hz:ms.length≤1000)(ha:acc.length≤1000000):gd (uS cB yB 11 (nA j) (imB k t i (XG fls rs ss ms us t u) acc)) () (imB k t (some (nA j)) (XG fls rs ss ms us t u) (acc++cond (upM ms k t j) [j] [])):=by
 unfold imB upM
 rw[ints_snoc]
 have ha:(acc.map nA).length≤1000000:=by rw[aG];exact ha
 cases c:GK (mC ms j) (mC ms k) (mC ms k) with
 | false=>rw[HH,show(cond false [j] []).map nA= [] from rfl,bQ];exact R.leaf [.item j (nA (mC ms j)),.item k (nA (mC ms k)),.item k (nA (mC ms k)),.n,.n] (QA (gM hj hz) (gM hk hz) (gM hk hz) c c) ⋯
 | true=>
  rw[Bool.true_and]
  cases d:GK (mC ms j) (mC ms t) (mC ms j) with
  | false=>rw[show(cond false [j] []).map nA= [] from rfl,bQ];exact R.leaf [.item j (nA (mC ms j)),.item k (nA (mC ms k)),.item k (nA (mC ms k)),.y,.item j (nA (mC ms j)),.item t (nA (mC ms t)),.item j (nA (mC ms j)),.n] (VK (gM hj hz) (gM hk hz) (gM hk hz) c (gM hj hz) (gM ht hz) (gM hj hz) d) ⋯
  | true=>exact R.leaf [.item j (nA (mC ms j)),.item k (nA (mC ms k)),.item k (nA (mC ms k)),.y,.item j (nA (mC ms j)),.item t (nA (mC ms t)),.item j (nA (mC ms j)),.y] (pU (gM hj hz) (VK (gM hk hz) (gM hk hz) c (gM hj hz) (gM ht hz) (gM hj hz) d ha)) ⋯
noncomputable abbrev HD(t:Nat)(z:JT)(up:Option aA):JL:={ jn4 t with pr:=some (.old [z.p0,z.p1] z.B z.T),td:=some (.str z.td),un:=some (nA z.un),le:=some (nA z.le),up:=up }
theorem Z6:∀j∈cE 24,j < 24:=λj h=>gP.mp h
theorem aMH{z:JT}{up:Option aA}(ht:t < 24)(hu:z.un < 24)(hz:us.length=24):gd ((sv (JP.th.nt 1) dK).s (mJ a (some (.aO 3)) (HD t z up) (hU fls rs ss ms us))) .next (mJ a (some (.aO 3)) (HD t z (some (.aO 9))) (SM fls rs ss ms us++ [gS (vJ us t z.un)])):=by
 refine cD (vZ (β:=Nat) (σ:=Option aA) (need:=[]) (k:=10) (inA:=nA) (P:=λj=>j < 24) (turn:=uS cA yA 9) (mk:=λsg acc=>imA t z.un sg (SM fls rs ss ms us) acc) (nx:=λj=>some (nA j)) (out:=λj=>cond (upA us t z.un j) [j] []) (λj sg acc h ha=>ua1 (hz▸h) (hz▸ht) (hz▸hu) (hz▸(by decide)) ha) (λe acc=>⟨⋯,⋯,R8⟩) (λe=>l9) (cE 24) [] none Z6 (by decide)) λsg g=>?_
 rw[uD] at g
 have G:=mH (w:=cA) (x:=dK) (st:=mJ a (some (.aO 3)) (HD t z up) (hU fls rs ss ms us)) (s1:=mJ a (some (.aO 3)) (HD t z up) (SM fls rs ss ms us)) (s2:=mJ a (some (.aO 3)) (HD t z up) (SM fls rs ss ms us)) (s3:=imA t z.un sg (SM fls rs ss ms us) (vJ us t z.un)) (a:=.aO 8) (ys:=(cE 24).map nA) (need:=[]) (R.leaf [.nat 24] (oU (rfl:((24:Nat):Int)=((24:Nat):Int)) (by decide:24 < 1000000)) ⋯) (λk q=>pU (by decide:24 < 1000000) q) g
 exact R.leaf [.cmp (.aO 9) (mJ a (some (.aO 3)) (HD t z up) (SM fls rs ss ms us++ [gS (vJ us t z.un)]))] (kU G) ⋯
theorem zJ{a b:Bool}(h:a=true)(k:b=true):(a && b)=true:=bP.mpr ⟨h,k⟩
theorem GL(p:aA->aA->Bool)(xs:List aA)(h:∀x∈xs,p x x=true):all2 p xs xs=true:=by
 induction xs with
 | nil=>rfl
 | cons x r ih=>exact zJ (h x (.head _)) (ih λy m=>h y (.tail _ m))
theorem SN(l:List Nat):p7 (l.map nA) (l.map nA)=true:=zJ (beq_self_eq_true _) (GL _ _ λx m=>by refine bS (eX.mp m) λp _ dE=>?_;subst dE;exact beq_self_eq_true (p:Int))
theorem XH(l m:List Nat):all2 NF (l.map nA) (m.map nA)=true:=by
 induction l generalizing m with
 | nil=>rfl
 | cons x l ih=>cases m with
  | nil=>rfl
  | cons y m=>exact ih m
theorem aMI{z:JT}(ht:t < 24)(hk:z.le < 24)(hz:ms.length=24)(he:vJ us t z.un=zI ms z.le t):gd ((sv (JP.th.nt 2) dK).s (mJ a (some (.aO 3)) (HD t z (some (.aO 9))) (SM fls rs ss ms us++ [gS (vJ us t z.un)]))) .next (mJ a (some (.aO 3)) (HD t z (some (.aO 9))) (XG fls rs ss ms us t z.un++ [gS (zI ms z.le t)])):=by
 refine cD (vZ (β:=Nat) (σ:=Option aA) (need:=[]) (k:=12) (inA:=nA) (P:=λj=>j < 24) (turn:=uS cB yB 11) (mk:=λsg acc=>imB z.le t sg (XG fls rs ss ms us t z.un) acc) (nx:=λj=>some (nA j)) (out:=λj=>cond (upM ms z.le t j) [j] []) (λj sg acc h ha=>ub1 (hz▸h) (hz▸ht) (hz▸hk) (hz▸(by decide)) ha) (λe acc=>⟨⋯,⋯,R8⟩) (λe=>l9) (cE 24) [] none Z6 (by decide)) λsg g=>?_
 rw[uD] at g
 have G:=mH (w:=cB) (x:=dK) (st:=mJ a (some (.aO 3)) (HD t z (some (.aO 9))) (SM fls rs ss ms us++ [gS (vJ us t z.un)])) (s1:=mJ a (some (.aO 3)) (HD t z (some (.aO 9))) (XG fls rs ss ms us t z.un)) (s2:=mJ a (some (.aO 3)) (HD t z (some (.aO 9))) (XG fls rs ss ms us t z.un)) (s3:=imB z.le t sg (XG fls rs ss ms us t z.un) (zI ms z.le t)) (a:=.aO 10) (ys:=(cE 24).map nA) (need:=[]) (R.leaf [.nat 24] (oU (rfl:((24:Nat):Int)=((24:Nat):Int)) (by decide:24 < 1000000)) ⋯) (λk q=>pU (by decide:24 < 1000000) q) g
 exact R.leaf [.cmp (.aO 11) (mJ a (some (.aO 3)) (HD t z (some (.aO 9))) (XG fls rs ss ms us t z.un++ [gS (zI ms z.le t)])),.n] (vC G (λ_=>XH _ _:((vJ us t z.un).map nA).length=((zI ms z.le t).map nA).length->all2 NF ((vJ us t z.un).map nA) ((zI ms z.le t).map nA)=true) (show(!p7 ((vJ us t z.un).map nA) ((zI ms z.le t).map nA))=false by rw[he,SN];rfl)) ⋯
end
noncomputable abbrev sC(p0 p1:Nat)(td:List Nat):aA:=.tup [.str [p0,p1],.str td]
noncomputable abbrev zFa(td:List Nat):lZ:={ as:=[.str td],H:=[],r:=.aO 0,H':=[.lst ((zF td).map (fW td))] }
noncomputable abbrev GM(q0 q1 qB qT:Nat)(qd:List Nat):aA:=.tup [.old [q0,q1] qB qT,.str qd]
section
variable {a:JA} {fls:List aA} {rs ss:List (List Nat)} {ms us:List Nat} {t q0 q1 qB qT:Nat} {qd:List Nat}
noncomputable abbrev hA3(fls:List aA)(rs ss:List (List Nat))(ms us:List Nat)(t:Nat)(z:JT):List Pc:=XG fls rs ss ms us t z.un++ [gS (zI ms z.le t)]
noncomputable abbrev hA4(fls:List aA)(rs ss:List (List Nat))(ms us:List Nat)(t:Nat)(z:JT):List Pc:=hA3 fls rs ss ms us t z++ [.lst ((zF z.td).map (fW z.td)),.lst [sC z.p0 z.p1 z.td]]
noncomputable def XI(us:List Nat)(ix u:Nat):Bool:=((mC us ix / 2 ^ u &&& 1:Nat):Int) !=1
inductive aIY(rs:List (List Nat))(ms us:List Nat)(a:JA)(t:Nat)(q0 q1:Nat)(z:JT):Prop where
 | mk (un:z.un < 24) (le:z.le < 24) (up:vJ us t z.un=zI ms z.le t) (td:z.td.length≤4) (fa:(zF z.td).map (fW z.td)= [sC z.p0 z.p1 z.td]) (re:([z.p0,z.p1]==[q0,q1])=true->XI us (jI rs a.rest) z.un=false)
theorem SP(p0 p1:Nat)(td:List Nat):p7 [sC p0 p1 td] [sC p0 p1 td]=true:=by
 have h:AQ (sC p0 p1 td) (sC p0 p1 td)=true:=zJ (beq_self_eq_true [p0,p1]) (zJ (beq_self_eq_true td) rfl)
 exact zJ (beq_self_eq_true _) (zJ h rfl)
theorem aMJ{z:JT}(K:aIY rs ms us a t q0 q1 z)(hf:fls[0]? =some (GM q0 q1 qB qT qd))(hr:jI rs a.rest < rs.length)(hz:rs.length≤1000)(hu:us.length=24)(h24:rs.length=24):gd ((sv (JP.th.nt 3) dK).s (mJ a (some (.aO 3)) (HD t z (some (.aO 9))) (hA3 fls rs ss ms us t z))) .next (mJ a (some (.aO 3)) (HD t z (some (.aO 9))) (hA4 fls rs ss ms us t z)):=by
 have f0:sO (0:Int) fls.length=some 0∧fls[0]? =some (GM q0 q1 qB qT qd)∧Sm (0:Int):=⟨mN (j:=0) (aF.mp hf).1,hf,DC (j:=0) (by decide)⟩
 have c1:((zF z.td).map (fW z.td)).length= [sC z.p0 z.p1 z.td].length->all2 NF ((zF z.td).map (fW z.td)) [sC z.p0 z.p1 z.td]=true:=λ_=>by rw[K.5];rfl
 have c2:(!p7 ((zF z.td).map (fW z.td)) [sC z.p0 z.p1 z.td])=false:=by rw[K.5,SP];rfl
 have hx:rs.map aA.str=rs.map aA.str∧rs.findIdx (· ==a.rest) < rs.length∧rs.length≤1000000:=⟨rfl,hr,aB hz (by decide)⟩
 cases c:([z.p0,z.p1]==[q0,q1]) with
 | false=>exact R.leaf [.lG (zFa z.td),.n,.item 0 (GM q0 q1 qB qT qd),.s,.n,.n] (OK (jN (zG.mk z.td K.4)) c1 c2 f0 c c) ⋯
 | true=>exact R.leaf [.lG (zFa z.td),.n,.item 0 (GM q0 q1 qB qT qd),.s,.y,.strs rs,.item (jI rs a.rest) (nA (mC us (jI rs a.rest))),.n] (VK (jN (zG.mk z.td K.4)) c1 c2 f0 c hx (gM (hu▸h24▸hr) (hu▸(by decide))) (K.6 c)) ⋯
end
noncomputable abbrev tgU:E:=.tup (.cons (.v 15 5599885) (.cons (.v 16 5600900) .nil)) 5599892
noncomputable abbrev eM1:E:=.un .USub (.k (.int 1) 5608146) 5608002
noncomputable abbrev eS:E:=.iX (.v 10 5606989) .nil .nil (.cons eM1 .nil) 5607714 5606995
noncomputable abbrev eRa:E:=.cons (.v 10 5606119) (.cons eS .nil)
noncomputable abbrev eR:E:=.dS (.v 0 5604090) 33 5604098 eRa [] .nil 5604116
noncomputable abbrev eU:E:=.dS (.v 7 5602206) 34 5602212 (.cons eR .nil) [] .nil 5602245
noncomputable abbrev eT:E:=.dS (.v 7 5609021) 34 5609027 (.cons (.v 14 5610904) .nil) [] .nil 5609033
noncomputable abbrev vU:E:=.cons eU (.cons eT .nil)
section
variable {D:WD} {C:Ctx} {a:JA} {fls:List aA} {rs ss:List (List Nat)} {ms us:List Nat} {t p0 p1 B T0 T1:Nat} {td:List Nat} {ou ol op:Option aA}
noncomputable abbrev LU(t p0 p1 B T0:Nat)(td:List Nat)(ou ol op:Option aA):JL:={ jn4 t with pr:=some (.old [p0,p1] B T0),td:=some (.str td),un:=ou,le:=ol,up:=op }
theorem aMK(p0 p1:Nat):iX [p0,p1] none none (some (-1))= [p1,p0]:=⋯
theorem aML(O:iZ C dK)(BF:C.cp= [])(hh:C.hd=none)(hB:0 < B)(hT:T0≤T1)(tN:(c8 [p0,p1]==c8 [p1,p0])=false)(ho:a.o.length≤1000)(h1:jI rs (FO a.o [p0,p1] [p1,p0]) < rs.length)(h2:jI rs td < rs.length)(hz:rs.length≤1000){Q:bU->Nat->aK->Prop}
  (q:∀T2,T1≤T2->Q .next T2 (mJ a (some (.aO 3)) (HD t ⟨p0,p1,B,T0,td,jI rs (FO a.o [p0,p1] [p1,p0]),jI rs td⟩ op) (hU fls rs ss ms us))):
  uR C (dst dK.xs (JP.th.nt 0)).s T1 (mJ a (some (.aO 3)) (LU t p0 p1 B T0 td ou ol op) (hU fls rs ss ms us)) Q eE:=by
 show uR C (.Assign [.Tuple (eD dK.xs (.cons (.v 15 5599885) (.cons (.v 16 5600900) .nil))).l 0 (dp 5599892)] (.Tuple (eD dK.xs vU).l 0 (dp 5602122)) (dp 5599962)) _ _ Q eE
 intro A g ρ s at' kT
 refine uR.CL (RA ((yX at'.4.1 (at'.4.2.trans O.1)).trans (Q9 ⋯))) ((yY at'.4.1 (at'.4.2.trans O.1)).trans (Q9 ⋯)) ?_ at' kT
 refine vA.tup ?_
 refine yI.cons ((nG dK.xs eU).3 _ _) ?_
 refine vA.dS (oV (xs:=dK.xs) (.cons eR .nil) .nil []) (K7 (.v 7 5602206) (.cons eR .nil) .nil [] rfl (an 34) _ _ _ rfl rfl) ?_
 refine Ev.name (i:=7) (b:=.aO 3) (by rw[O.1];rfl) rfl ⋯ ?_
 refine gmm (aCD O (j:=34) (a:=.aO 3) (R.good.post (o:=.ok (.blt "list.index",[.aO 3]) (mJ a (some (.aO 3)) (LU t p0 p1 B T0 td ou ol op) (hU fls rs ss ms us))) (Q:=λb st1=>b=(.blt "list.index",[.aO 3])∧st1=mJ a (some (.aO 3)) (LU t p0 p1 B T0 td ou ol op) (hU fls rs ss ms us)) (R.leaf [] trivial ⋯) ⟨rfl,rfl⟩)) ?_
 rintro fx st1 ⟨rfl,rfl⟩
 refine yI.cons ((nG dK.xs eR).3 _ _) ?_
 refine vA.dS (oV (xs:=dK.xs) eRa .nil []) (K7 (.v 0 5604090) eRa .nil [] rfl (an 33) _ _ _ rfl rfl) ?_
 refine Ev.name (i:=0) (b:=.str a.o) (by rw[O.1];rfl) rfl ⋯ ?_
 refine Gm.b rfl F.plainAttrs_str F.slot_str_replace F.type_str_replace ?_
 refine yI.cons ((nG dK.xs (.v 10 5606119)).3 _ _) (Wp.fl ?_)
 refine Ev.name (i:=10) (b:=.old [p0,p1] B T0) (by rw[O.1];rfl) rfl ⋯ ?_
 refine yI.cons ((nG dK.xs eS).3 _ _) ?_
 refine vA.slice ?_
 refine Bx.m ((gA (.v 10 5606989) C _ O).1 (R.good.post (o:=.ok (.str [p0,p1]) (mJ a (some (.aO 3)) (LU t p0 p1 B T0 td ou ol op) (hU fls rs ss ms us))) (Q:=λb st1=>b= .str [p0,p1]∧st1=mJ a (some (.aO 3)) (LU t p0 p1 B T0 td ou ol op) (hU fls rs ss ms us)) (R.leaf [] trivial ⋯) ⟨rfl,rfl⟩)) ?_
 rintro b st1 ⟨rfl,rfl⟩
 show Eo C jV _ _ eE
 refine Eo.none ?_
 show Eo C jV _ _ eE
 refine Eo.none ?_
 show Ev C (eD dK.xs eM1).e _ _ eE
 refine Bx.m ((gA eM1 C _ O).1 (R.good.post (o:=.ok (.int (-1)) (mJ a (some (.aO 3)) (LU t p0 p1 B T0 td ou ol op) (hU fls rs ss ms us))) (Q:=λb st1=>b= .int (-1)∧st1=mJ a (some (.aO 3)) (LU t p0 p1 B T0 td ou ol op) (hU fls rs ss ms us)) (R.leaf [] trivial ⋯) ⟨rfl,rfl⟩)) ?_
 rintro b st1 ⟨rfl,rfl⟩
 refine⟨[p0,p1],none,none,some (-1),rfl,rfl,rfl,rfl,(by decide),(by decide),(by decide:2≤1000000),λT2=>?_⟩
 refine yI.nil ?_
 rw[aMK]
 refine NK hB hT tN ho (by decide:2≤1000) ?_
 refine yI.nil ?_
 refine FN (l:=3) (ls:=rs) (by exact rfl) h1 (aB hz (by decide)) ?_
 refine yI.cons ((nG dK.xs eT).3 _ _) (Wp.fl ?_)
 have g2:gd ((ev eT dK).e (mJ a (some (.aO 3)) (LU t p0 p1 B T0 td ou ol op) (hU fls rs ss ms us))) (nA (jI rs td)) (mJ a (some (.aO 3)) (LU t p0 p1 B T0 td ou ol op) (hU fls rs ss ms us)):=R.leaf [.strs rs] (kU (⟨rfl,h2,aB hz (by decide)⟩:rs.map aA.str=rs.map aA.str∧rs.findIdx (· ==td) < rs.length∧rs.length≤1000000)) ⋯
 show Ev C (eD dK.xs eT).e (mJ a (some (.aO 3)) (LU t p0 p1 B T0 td ou ol op) (hU fls rs ss ms us)) _ eE
 refine Bx.m ((gA eT C _ O).1 (g2.post (Q:=λb st1=>b=nA (jI rs td)∧st1=mJ a (some (.aO 3)) (LU t p0 p1 B T0 td ou ol op) (hU fls rs ss ms us)) ⟨rfl,rfl⟩)) ?_
 rintro b st1 ⟨rfl,rfl⟩
 refine yI.nil ⟨(by decide:2≤1000000), ?_⟩
 have g3:gd ((ev tgU dK).g (.tup [nA (jI rs (FO a.o [p0,p1] [p1,p0])),nA (jI rs td)]) (mJ a (some (.aO 3)) (LU t p0 p1 B T0 td ou ol op) (hU fls rs ss ms us))) () (mJ a (some (.aO 3)) (HD t ⟨p0,p1,B,T0,td,jI rs (FO a.o [p0,p1] [p1,p0]),jI rs td⟩ op) (hU fls rs ss ms us)):=R.leaf [] trivial ⋯
 show As C (eD dK.xs tgU).e (.tup [nA (jI rs (FO a.o [p0,p1] [p1,p0])),nA (jI rs td)]) (mJ a (some (.aO 3)) (LU t p0 p1 B T0 td ou ol op) (hU fls rs ss ms us)) (Q .next T1) eE
 intro _ _ _ _ _
 exact((gA tgU C _ O).7 (g3.post (Q:=λ_ st=>Q .next T1 st) (q T1 (aZ T1)))).1
end
noncomputable abbrev tgF:E:=.tup (.cons (.v 10 5579148) (.cons (.v 14 5580018) .nil)) 5579154
noncomputable def XJ(rs:List (List Nat))(o:List Nat)(p:Nat×Nat):Nat:=jI rs (FO o [p.1,p.2] [p.2,p.1])
inductive JQ(rs:List (List Nat))(ms us:List Nat)(o:List Nat)(p:Nat×Nat):Prop where
 | mk (ne:(c8 [p.1,p.2]==c8 [p.2,p.1])=false) (un:XJ rs o p < 24) (le:jI rs (told o p.1 p.2) < 24) (up:vJ us (jI rs o) (XJ rs o p)=zI ms (jI rs (told o p.1 p.2)) (jI rs o)) (td:(told o p.1 p.2).length≤4) (fa:(zF (told o p.1 p.2)).map (fW (told o p.1 p.2))= [sC p.1 p.2 (told o p.1 p.2)])
inductive sD(rs:List (List Nat))(ms us:List Nat)(a:JA):Prop where
 | mk (r:rs.length=24) (m:ms.length=24) (u:us.length=24) (o4:a.o.length≤4) (io:jI rs a.o < 24) (ir:jI rs a.rest < 24) (i1:jI rs a.one < 24) (i2:jI rs a.other < 24) (i3:jI rs a.joined < 24)
  (fall:∀p∈zF a.o,JQ rs ms us a.o p) (re:∀p,(zF a.o).head? =some p->XI us (jI rs a.rest) (XJ rs a.o p)=false) (fin:GK (mC us (jI rs a.one)) (mC us (jI rs a.other)) (mC us (jI rs a.joined))=true)
section
variable {D:WD} {C:Ctx} {a:JA} {rs ss:List (List Nat)} {ms us:List Nat} {es:List FE} {T0 T1:Nat}
noncomputable abbrev jnL(t:Nat)(pr td un le:Option aA):JL:={ jn4 t with pr:=pr,td:=td,un:=un,le:=le }
abbrev jJ(a:JA)(fls:List aA)(rs ss:List (List Nat))(ms us:List Nat)(st:aK):Prop:=∃pr td un le,st=mJ a (some (.aO 3)) (jnL (jI rs a.o) pr td un le) (hU fls rs ss ms us)
theorem DR{o:List Nat}(h:es.map (λe=>(e.a,e.b))=gH):zF o=(es.filter λe=>sV o e.a e.b).map λe=>(e.a,e.b):=by
 unfold zF
 rw[←h,List.filter_map]
 rfl
theorem SQ{p0 p1 q0 q1:Nat}(h:([p0,p1]==[q0,q1])=true):p0=q0∧p1=q1:=by
 have:=eq_of_beq h
 injection this with h1 h2
 injection h2 with h2 _
 exact⟨h1,h2⟩
theorem As.gd{C:Ctx}{x:Cx}(O:iZ C x){t:E}{b:aA}{st st1:aK}{Q:aK->Prop}(g:Internal.gd ((ev t x).g b st) () st1)(q:Q st1):Bx (As C (eD x.xs t).e b st Q eE):=(gA t C x O).7 (g.post (Q:=λ_ st=>Q st) q)
theorem aMM(O:iZ C dK)(BF:C.cp= [])(hh:C.hd=none)(J:sD rs ms us a)(K:sA T0 T1 es)(h0:0 < T0){T2:Nat}(h2:T1≤T2){Q:bU->aK->Prop}(j:Nat)(x:aA)(st:aK)(hx:(mQ a.o es)[j]? =some x)(h:jJ a (mQ a.o es) rs ss ms us st):
  As C (eD dK.xs tgF).e x st (λfL=>fG C (dst dK.xs JP.th).b T2 fL (KK (λj6=>∃w,wM w 8 j6.H=true∧jJ a (mQ a.o es) rs ss ms us (pE w 8 j6)) Q) eE) eE:=by
 obtain⟨pr,td,un,le,rfl⟩:=h
 unfold mQ at hx
 rw[bX] at hx
 cases he:(es.filter λe=>sV a.o e.a e.b)[j]? with
 | none=>rw[he] at hx;exact bK hx
 | some e=>
  rw[he] at hx
  obtain rfl:=aD hx
  have hm:=aN he
  have me:=(tI.mp hm).1
  have hp:(e.a,e.b)∈zF a.o:=by rw[DR K.1];exact eX.mpr ⟨e,hm,rfl⟩
  have G:=J.10 _ hp
  obtain⟨b1,b2⟩:=K.2 e me
  cases hl:(es.filter λe=>sV a.o e.a e.b) with
  | nil=>rw[hl] at hm;cases hm
  | cons e0 er=>
   have hf:(mQ a.o es)[0]? =some (GM e0.a e0.b e0.B e0.T (told a.o e0.a e0.b)):=by unfold mQ;rw[hl];rfl
   have hd:(zF a.o).head? =some (e0.a,e0.b):=by rw[DR K.1,hl];rfl
   have KT:aIY rs ms us a (jI rs a.o) e0.a e0.b ⟨e.a,e.b,e.B,e.T,told a.o e.a e.b,XJ rs a.o (e.a,e.b),jI rs (told a.o e.a e.b)⟩:=⟨G.2,G.3,G.4,G.5,G.6,λq=>by
    obtain⟨q1,q2⟩:=SQ q
    have:=J.11 _ hd
    rw[←q1,←q2] at this
    exact this⟩
   have g3:gd ((ev tgF dK).g (FE.f a.o e) (mJ a (some (.aO 3)) (jnL (jI rs a.o) pr td un le) (hU (mQ a.o es) rs ss ms us))) () (mJ a (some (.aO 3)) (LU (jI rs a.o) e.a e.b e.B e.T (told a.o e.a e.b) un le none) (hU (mQ a.o es) rs ss ms us)):=R.leaf [] trivial ⋯
   intro _ _ _ _ _
   refine(As.gd O g3 ?_).1
   show fG C ((dst dK.xs (JP.th.nt 0)).s::(dst dK.xs (JP.th.nt 1)).s::(dst dK.xs (JP.th.nt 2)).s::(dst dK.xs (JP.th.nt 3)).s:: []) T2 _ _ eE
   have w:=J.1.symm▸(by decide:24≤1000)
   refine @fG.cons _ _ _ _ _ _ _ ?_
   refine aML (us:=us) (p0:=e.a) (p1:=e.b) (td:=told a.o e.a e.b) O BF hh (bR h0 b1) (aB b2 h2) G.1 (aB J.4 (by decide)) (J.1.symm▸G.2) (J.1.symm▸G.3) w ?_
   intro T3 _
   refine fG.gd O (aMH J.5 G.2 J.3) ?_
   refine fG.gd O (aMI J.5 G.3 J.2 G.4) ?_
   refine fG.gd O (aMJ KT hf (J.1.symm▸J.6) w J.3 J.1) ?_
   refine fG.nil ?_
   exact⟨none,⋯,some (.old [e.a,e.b] e.B e.T),some (.str (told a.o e.a e.b)),some (nA (XJ rs a.o (e.a,e.b))),some (nA (jI rs (told a.o e.a e.b))),⋯⟩
end
noncomputable abbrev aD9:S:=jM.nt 7
noncomputable abbrev asJ(a:JA):List aA:=[.str a.o,.aO 0,.str a.rest,.str a.one,.str a.other,.str a.joined,.tup [.int a.lo,.int a.hi]]
section
variable {D:WD} {C:Ctx} {a:JA} {fls:List aA} {rs ss:List (List Nat)} {ms us:List Nat} {es:List FE} {T0 T1:Nat} {pr td un le:Option aA}
theorem js0:gd ((sv (jM.nt 0) dK).s ⟨TO LE (asJ a) GT,[.lst fls,.iG 284 []]⟩) .next (HC a fls 0):=R.leaf [] trivial ⋯
theorem js7(J:sD rs ms us a):((sv aD9 dK).s (mJ a (some (.aO 3)) (jnL (jI rs a.o) pr td un le) (hU fls rs ss ms us))).good (.ok (.ret (.bool true)) (mJ a (some (.aO 3)) (jnL (jI rs a.o) pr td un le) (hU fls rs ss ms us))):=by
 have ix:∀{o:List Nat},jI rs o < 24->(rs.map aA.str=rs.map aA.str∧rs.findIdx (· ==o) < rs.length∧rs.length≤1000000):=λh=>⟨rfl,J.1.symm▸h,J.1.symm▸(by decide)⟩
 have it:∀{o:List Nat},jI rs o < 24->sO (jI rs o:Int) (us.map nA).length=some (jI rs o)∧(us.map nA)[jI rs o]? =some (nA (mC us (jI rs o)))∧Sm (jI rs o:Int):=λh=>gM (J.3.symm▸h) (J.3.symm▸(by decide))
 rw[←J.12]
 exact R.leaf [.strs rs,.item (jI rs a.one) (nA (mC us (jI rs a.one))),.strs rs,.item (jI rs a.other) (nA (mC us (jI rs a.other))),.strs rs,.item (jI rs a.joined) (nA (mC us (jI rs a.joined)))] (OK (ix J.7) (it J.7) (ix J.8) (it J.8) (ix J.9) (it J.9)) ⋯
theorem js6(O:iZ C dK)(BF:C.cp= [])(hh:C.hd=none)(J:sD rs ms us a)(K:sA T0 T1 es)(h0:0 < T0){T:Nat}(h2:T1≤T){Q:bU->Nat->aK->Prop}(q:∀st,jJ a (mQ a.o es) rs ss ms us st->Q .next T st):
  uR C (dst dK.xs JP).s T (mJ a (some (.aO 3)) (jn4 (jI rs a.o)) (hU (mQ a.o es) rs ss ms us)) Q eE:=by
 show uR C (.For (eD dK.xs tgF).e (eD dK.xs (.v 1 5581179)).e (dst dK.xs JP.th).b [] (dp 44147544)) T _ Q eE
 refine uR.IT hh ((nG dK.xs (.v 1 5581179)).4 _) ?_
 refine Wp.fl ?_
 refine Ev.name (i:=1) (b:=.aO 0) (by rw[O.1];rfl) rfl ⋯ ?_
 exact⟨mQ a.o es,[(0,.lst (mQ a.o es))],mJ a (some (.aO 3)) (jn4 (jI rs a.o)) (hU (mQ a.o es) rs ss ms us),λ_=>jJ a (mQ a.o es) rs ss ms us,⟨BL rfl,⟨none,none,none,none,rfl⟩,λj st h p hp=>by
  refine wG h λpr td un le wN=>?_;subst wN
  obtain rfl:=aU.mp hp
  rfl⟩,λj x st hx h=>aMM O BF hh J K h0 h2 j x st hx h,λst h=>q st h⟩
theorem fG.last{C:Ctx}{x:Cx}{s:S}{T:Nat}{st st1:aK}{v:aA}{Q:aA->Nat->List Pc->Prop}(O:iZ C x)(g:((sv s x).s st).good (.ok (.ret v) st1))(q:Q v T st1.H):fG C [(dst x.xs s).s] T st (λfl T' bW=>Q (kD fl) T' bW.H) eE:=
 fG.cons (Wp.fl (Bx.m ((pF s C x O).1 (g.post (Q:=λfl st=>fl= .ret v∧st=st1) ⟨rfl,rfl⟩)) (by rintro _ _ ⟨rfl,rfl⟩;exact q)))
theorem aMN(O:iZ C dK)(BF:C.cp= [])(hh:C.hd=none)(hR:∀r∈rs,DQ r)(J:sD rs (rs.map hO) ((rs.map hO).map (rJ (rs.map hO))) a)(K:sA T0 T1 es)(h0:0 < T0){T:Nat}(h2:T1≤T){Q:aA->Nat->List Pc->Prop}(q:Q (.bool true) T (hU (mQ a.o es) rs ss (rs.map hO) ((rs.map hO).map (rJ (rs.map hO))))):
  fG C ((dst dK.xs (jM.nt 3)).s::(dst dK.xs (jM.nt 4)).s::(dst dK.xs (jM.nt 5)).s::(dst dK.xs JP).s::(dst dK.xs aD9).s:: []) T (mJ a (some (.aO 3)) (wW 100) (zH (mQ a.o es) rs ss)) (λfl T' bW=>Q (kD fl) T' bW.H) eE:=by
 have hz:rs.length≤1000:=J.1.symm▸(by decide)
 refine @fG.gd _ _ _ _ _ _ _ _ O (aME hR hz) ?_
 refine @fG.gd _ _ _ _ _ _ _ _ O (aMG (by rw[aG];exact hz)) ?_
 refine @fG.gd _ _ _ _ _ _ _ _ O (js5 (J.1.symm▸J.5) hz) ?_
 refine @fG.cons _ _ _ _ _ _ _ ?_
 refine js6 O BF hh J K h0 h2 λst h=>?_
 refine wG h λpr td un le wN=>?_;subst wN
 exact fG.last O (js7 J) q
end
section
variable {D:WD} {a:JA} {es:List FE} {T0 T1:Nat} {fls:List aA}
theorem aMO:HC a fls 4=mJ a (some (.aO 3)) (wW 100) (sB fls kN):=⋯
theorem aMP:hJ2 fls=zH fls kN c5:=⋯
theorem aMQ(R:kC c5 a.o a.hi)(E:∀n < 5,pH c5 a.o a.lo a.hi n):gd ((sv (jM.nt 2) dK).s (HC a fls 4)) .next (mJ a (some (.aO 3)) (wW 100) (zH fls kN c5)):=by
 rw[aMO,←aMP]
 exact js2 R E
theorem N4(O:Wld D){n:Nat}(hn:4≤n){rs ss:List (List Nat)}(h1:∀fls,gd ((sv (jM.nt 2) dK).s (HC a fls 4)) .next (mJ a (some (.aO 3)) (wW 100) (zH fls rs ss)))(hR:∀r∈rs,DQ r)(J:sD rs (rs.map hO) ((rs.map hO).map (rJ (rs.map hO))) a)(K:sA T0 T1 es)(h0:0 < T0){T:Nat}(h2:T1≤T){Q:aA->Nat->List Pc->Prop}(q:Q (.bool true) T (hU (mQ a.o es) rs ss (rs.map hO) ((rs.map hO).map (rJ (rs.map hO))))):k6 D (n+1) HN 292 (asJ a) [.lst (mQ a.o es),.iG 284 []] T Q:=by
 have W:WOk D dK:=(O.env (F9_ O)).w ⋯
 intro _ _ _ _ _
 refine k6.fn O.18.1 ?_
 refine Bind.mono (Bind.w (ds:=[]) O.40 rfl rfl ⋯ ⋯ (Q:=λoC H1=>oC=asJ a∧H1= [.lst (mQ a.o es),.iG 284 []]) ⟨rfl,rfl⟩) ?_
 rintro oC H1 ⟨rfl,rfl⟩
 refine⟨_,NQ W.1 ⋯,λC' I hh=>?_⟩
 have O':=W.cok .no I hn hh
 show fG C' ((dst dK.xs (jM.nt 0)).s::(dst dK.xs sT).s::(dst dK.xs (jM.nt 2)).s::(dst dK.xs (jM.nt 3)).s::(dst dK.xs (jM.nt 4)).s::(dst dK.xs (jM.nt 5)).s::(dst dK.xs JP).s::(dst dK.xs aD9).s:: []) T _ _ eE
 refine @fG.gd _ _ _ _ _ _ _ _ O' js0 ?_
 refine @fG.cons _ _ _ _ _ _ _ (Wp.fl (jr5 O' I.4 hh ?_))
 refine @fG.gd _ _ _ _ _ _ _ _ O' (h1 _) ?_
 exact aMN O' I.4 hh hR J K h0 h2 q
end
section
set_option tactic.hygienic true
noncomputable abbrev N5(ns:fF)(n:Nat)(G:KB)(tb:Tb):Cx:=⟨ns,n,[],G,true,true,tb,ns.findIdx λp=>!(jL p.1),none⟩
inductive SR(D:WD)(a:cI)(need:Nat)(fx:Fx):Prop where
 | mk (IV:∀{C:Ctx} {as kn ks st Q X},C.D=D->need≤C.n->C.hd=none->Face C->(fx as kn ks st.H).post (λr H=>Q r ⟨st.m,H⟩) (λf c m H=>X f c m ⟨st.m,H⟩)->Bx (fM C (.ref a) as kn ks st Q X))
noncomputable def aA.exc(a:aA):Option (String×aA):=match a with
 | .tup xs=>(match xs with
  | x::ys=>(match x with
   | .typ c=>ys.head?.map λm=>(c,m)
   | _=>.none)
  | []=>.none)
 | _=>.none
noncomputable def oX(z:lZ):R (List Pc) aA:=Option.rec (.ok z.r z.H') (λe=>.ex false e.1 e.2 z.H') z.r.exc
noncomputable def sX(F:lZ->Prop):Fx:=λas kn ks H=>.ask λw=>match w with
 | .lG z=>.ob (F z∧as=z.as∧kn=z.kn∧ks=z.ks∧H=z.H) (oX z)
 | _=>.no
theorem okX{D:WD}{a need:Nat}{F:lZ->Prop}(h:∀{C:Ctx} {m:Loc} {z Q X},C.D=D->need≤C.n->C.hd=none->Face C->F z->(oX z).post (λr H=>Q r ⟨m,H⟩) (λf c v H=>X f c v ⟨m,H⟩)->Bx (fM C (.ref a) z.as z.kn z.ks ⟨m,z.H⟩ Q X)):SR D a need (sX F):=⟨
 (λ{C as kn ks st Q X} h1 h2 h3 h4 q=>pN q λw q=>by
  cases w <;> first | exact q.elim | skip
  rename_i z
  have q':(F z∧as=z.as∧kn=z.kn∧ks=z.ks∧st.H=z.H)∧(oX z).post (λr H=>Q r ⟨st.m,H⟩) (λf c m H=>X f c m ⟨st.m,H⟩):=q
  clear q
  refine d5 q' λsJ qq=>aAE sJ λp dE rF wN e=>?_;subst dE;subst rF;subst wN
  obtain⟨m,H⟩:=st
  obtain rfl:=(e:H=z.H)
  exact h (Q:=Q) (X:=X) h1 h2 h3 h4 p qq)⟩
inductive v5(D:WD):List (cI×Nat×Fx)->Prop
 | nil:v5 D []
 | cons {a k fx l}:SR D a k fx->v5 D l->v5 D ((a,k,fx)::l)
theorem v5.at{D:WD}{l:List (cI×Nat×Fx)}(h:v5 D l){a k fx}(e:l.lookup a=some (k,fx)):SR D a k fx:=by
 induction h with
 | nil=>exact bK e
 | @cons b j g l c _ ih=>
  rw[dA] at e
  cases q:a==b with
  | true=>rw[q] at e;cases e;obtain rfl:=eq_of_beq q;exact c
  | false=>rw[q] at e;exact ih e
theorem Wld.envX{D:WD}(O:Wld D){fns IV}(h:k7 D fns)(r:v5 D IV):AT D GT (sS fns IV none):=⟨λy b e=>O.46.at e,O.tb h,λa k fx e=>(r.at e).1,λ_ e=>(nomatch e)⟩
theorem r8.IV{D:WD}{k:Nat}{ns:fF}{G:KB}{tb:Tb}{fa:cI}{as ks:List aA}{kn:List Str}{ir:S}{ds:List aA}{C:Ctx}{st:aK}{Q:aA->aK->Prop}{X:XQ}(F:r8 D fa ns ir)(E:AT D G tb)(h:ndB ns (N5 ns k G tb).db=true)(hD:C.D=D)(hk:k+1≤C.n)(hh:C.hd=none)(Fc:Face C)(B:fC D.K (gC D.K fa) ns as.length ks.length kn ds)
  (hc:(eB (as.length+ds.length+ks.length) ns.length && mM (ns.take (as.length+ds.length+ks.length)))=true) {o:Oc aK bU} (g:((sv ir (N5 ns k G tb)).k ⟨TO ns (as++ds++ks) G,st.H⟩).good o)
  (q:o.post (λfl bW=>Q (kD fl) ⟨st.m,bW.H⟩) (λ_ cls msg bW=>X false cls msg ⟨st.m,bW.H⟩)):Bx (fM C (.ref fa) as kn ks st Q X):=by
 subst hD
 refine cD (lU hk) λn hn=>?_
 have hn:C.n=(k+n)+1:=hn.trans (zS k 1 n)
 refine⟨fM.fn F.1 Fc hn (Bind.w B rfl rfl (aP hc) (aQ hc) ⟨_,NQ E.1 ?_,λC' I hh' Fc'=>?_⟩)⟩
 ·rw[aE,aE];exact aQ hc
 ·have W:=(E.w (k:=k) h).cok .no I (aW k n) (hh'.trans hh)
  intro A g' ρ s
  exact((pF ir C' (N5 ns k G tb) ⟨W.1,W.2,W.3,W.4,λ_=>Fc',W.6,W.7,W.8,W.9,W.10⟩).2 (g.post q)).1
noncomputable def aEA:List Nat:=[108,111,32,109,117,115,116,32,98,101,32,110,111,110,45,110,101,103,97,116,105,118,101]
noncomputable abbrev eN:aA:=.tup [.typ "ValueError",.str aEA]
noncomputable abbrev y47:Cx:=N5 F0 0 GT (sS [] [] none)
noncomputable abbrev aIZ(r k:aA)(H:List Pc):aK:=⟨TO F0 [r,.bool true,.int (-1),.none,k] GT,H⟩
theorem rb1{r k:aA}{H:List Pc}:((sv I8 y47).k (aIZ r k H)).good (.ex true "ValueError" (.str aEA) (aIZ r k H)):=R.leaf [] trivial ⋯
noncomputable abbrev zN(r k:aA)(H:List Pc):lZ:={ as:=[r,.bool true,.int (-1)],kn:=[an 32],ks:=[k],H:=H,r:=eN,H':=H }
inductive XK:lZ->Prop
 | mk (r k:aA) (H:List Pc):XK (zN r k H)
theorem aI0{D:WD}(O:Wld D):SR D 47 1 (sX XK):=okX λ{C m z Q X} hD hn hh Fc p q=>by
 obtain⟨r,k,H⟩:=p
 exact O.5.IV (k:=0) (O.envX .nil .nil) ⋯ hD hn hh Fc O.27 ⋯ rb1 q
end
section
variable {D:WD}
noncomputable abbrev x75:Cx:=D6 aDA 0 GT (sS [] [] none)
noncomputable abbrev XM(uT oZ:cN)(qS qR:Str):List Pc:=[.tG uT 3 (some 4),.pC qS,.ns [(an 24,.aO 5)],.tG oZ 6 none,.pC qR]
theorem ni1{uT oZ:cN}{qS qR:Str}:((sv aHT x75).k ⟨[some (.aO 0),some (.aO 2)],.inst 99 1:: .ns []::XM uT oZ qS qR⟩).good (.ok .next ⟨[some (.aO 0),some (.aO 2)],.inst 99 1:: .ns [(an 26,.int 1),(an 27,.aO 2),(an 28,.str OM),(an 29,.aO 7)]::XM uT oZ qS qR++ [.lst []]⟩):=R.leaf [] trivial ⋯
noncomputable abbrev zNi(uT oZ:cN)(qS qR:Str):lZ:={ as:=[.aO 0,.aO 2],H:=.inst 99 1:: .ns []::XM uT oZ qS qR,r:=.none,H':=.inst 99 1:: .ns [(an 26,.int 1),(an 27,.aO 2),(an 28,.str OM),(an 29,.aO 7)]::XM uT oZ qS qR++ [.lst []] }
inductive NiS:lZ->Prop
 | mk (uT oZ:cN) (qS qR:Str):NiS (zNi uT oZ qS qR)
theorem aMR(O:Wld D):kB D 75 1 (eO (sW NiS)):=TP O.8 λ{n z} hn h=>by
 obtain⟨uT,oZ,qS,qR⟩:=h
 exact O.8.run (k:=0) (O.env .nil) ⋯ hn O.30 ⋯ ni1 ⟨rfl,rfl⟩
noncomputable def F4:List (cI×Nat×Fx):=[(75,1,eO (sW NiS))]
theorem F4_(O:Wld D):k7 D F4:=.cons (aMR O) .nil
noncomputable abbrev zK:Cx:=D6 RO 2 GT (sS F4 [] none)
noncomputable abbrev GN(kO:List Nat)(s g:Option aA)(H:List Pc):aK:=⟨[some (.str kO),s,g,some (.typ "list"),some (.ref 99)],H⟩
theorem lx0{kO:List Nat}(hz:kO.length≤1000000):gd ((sv (pG.nt 0) zK).s (GN kO none none [.iG 265 []])) .next (GN kO none (some (.aO 1)) [.iG 265 [],.lst (kO.map eG)]):=R.leaf [] (kU hz) ⋯
noncomputable abbrev XN(kO:List Nat)(zs:List (Pos×Nat))(uT oZ:cN)(qS qR:Str):List Pc:=[.iG 265 zs,.lst (kO.map eG),.pC qS,.tG uT 2 (some 6),.pC qR,.tG oZ 4 none,.ns [(an 24,.aO 5)]]
theorem lx3{kO:List Nat}{zs:List (Pos×Nat)}{uT oZ:cN}{qS qR:Str}:((sv (pG.nt 3) zK).s (GN kO (some (.aO 3)) (some (.aO 1)) (XN kO zs uT oZ qS qR))).good (.ok (.ret (.aO 8)) (GN kO (some (.aO 3)) (some (.aO 1)) (XN kO zs uT oZ qS qR++ [.ns [(an 26,.int 1),(an 27,.aO 3),(an 28,.str OM),(an 29,.aO 9)],.inst 99 7,.lst []]))):=
 R.leaf [.lG (zNi uT oZ qS qR)] (kU (jN (NiS.mk uT oZ qS qR))) ⋯
noncomputable abbrev aI1(X:kW)(kO:List Nat)(zs:List (Pos×Nat)):List Pc:=[.iG 265 zs,.lst (kO.map eG),.pC X.qS,.tG X.uT 2 (some 6),.pC X.oZ.qualname,.HP X.oZ "signs" 10 4 none,.ns [(an 24,.aO 5)],.ns [(an 26,.int 1),(an 27,.aO 3),(an 28,.str OM),(an 29,.aO 9)],.inst 99 7,.lst [],.rC (.aO 1)]
noncomputable abbrev GO:List (Pos×Nat):=[(dp 4688233,2),(dp 4709724,4)]
theorem aEB(O:Wld D){n:Nat}{kO:List Nat}(hz:kO.length≤1000000)(hn:2≤n){Q:aA->List Pc->Prop}(q:∀X,eI X->Q (.aO 8) (aI1 X kO GO)):Bx (fS D (n+1) HN 270 [.str kO] [] [] [.iG 265 []] Q):=by
 have W:WOk D zK:=(O.env (F4_ O)).w ⋯
 refine⟨fS.fnX O.14.1 ?_⟩
 refine Bind.mono (Bind.w (ds:=[]) O.36 rfl rfl ⋯ ⋯ (Q:=λoC H1=>oC= [.str kO]∧H1= [.iG 265 []]) ⟨rfl,rfl⟩) ?_
 rintro oC H1 ⟨rfl,rfl⟩
 refine⟨_,NQ W.1 ⋯,λC' I hh=>?_⟩
 have O':=W.cok .no I hn hh
 have hcd:C'.env.code= .ref 269:=I.5.trans O.42.1
 show j5 C' ((dst zK.xs (pG.nt 0)).s::(dst zK.xs (pG.nt 1)).s::(dst zK.xs (pG.nt 2)).s::(dst zK.xs (pG.nt 3)).s:: []) (GN kO none none [.iG 265 []]) _ eE
 refine j5.cons ?_
 refine Wp.mono ((pF (pG.nt 0) C' zK O').1 ((lx0 hz).post (Q:=λfl st=>fl= .next∧st=GN kO none (some (.aO 1)) [.iG 265 [],.lst (kO.map eG)]) ⟨rfl,rfl⟩)).1 ?_ (λY Y Y Y e=>e)
 rintro fl st ⟨rfl,rfl⟩
 refine j5.cons ?_
 refine Ex.assign rfl ?_
 refine KF (lT:=0) (zs:=[]) hcd (I.1.symm▸O.42.2) rfl (λ_=>Q5 _) (λ_=>DA.trans rfl) (I.3.symm▸by kernel_rfl) rfl λqS pm cvS BV=>?_
 refine As.name (i:=1) (by rw[I.3];rfl) (.inl rfl) ?_
 refine j5.cons ?_
 refine Ex.UZ rfl ?_
 refine KF (lT:=0) hcd (I.1.symm▸O.42.2) rfl (λ_=>Q5 _) (λ_=>DA.trans rfl) (I.3.symm▸by kernel_rfl) rfl λqR pmR cR ctR=>?_
 refine Ev.name (i:=1) (b:=.aO 3) (by rw[I.3];rfl) rfl ⋯ ?_
 refine⟨3,_,2,rfl,t0,rfl, ?_⟩
 have last:∀(uT oZ:cN) (qR:Str) (hq:oZ.qualname=qR) (wJ:oZ.closure= [(("signs":Str),(C'.env.cells.lookup ("signs":Str)).getD 0)]) (L:eI ⟨uT,qS,oZ⟩),j5 C' [(dst zK.xs (pG.nt 3)).s] (GN kO (some (.aO 3)) (some (.aO 1)) (XN kO GO uT oZ qS qR)) (λfl bW=>∃i x b j fd' c d,CP C' bW i x b j fd' c d∧Q (kD fl) (EO bW.H j fd' x c d b)) eE:=λuT oZ qR hq wJ L=>by
  subst hq
  refine j5.cons ?_
  refine Wp.mono ((pF (pG.nt 3) C' zK O').1 (lx3.post (Q:=λfl st=>fl= .ret (.aO 8)∧st=GN kO (some (.aO 3)) (some (.aO 1)) (XN kO GO uT oZ qS oZ.qualname++ [.ns [(an 26,.int 1),(an 27,.aO 3),(an 28,.str OM),(an 29,.aO 9)],.inst 99 7,.lst []])) ⟨rfl,rfl⟩)).1 ?_ (λY Y Y Y e=>e)
  rintro fl st ⟨rfl,rfl⟩
  exact⟨2,"signs",.aO 1,5,oZ,4,none,⟨by rw[I.3];rfl,rfl,rfl,wJ⟩,q ⟨uT,qS,oZ⟩ L⟩
 change j5 C' [(dst zK.xs (pG.nt 3)).s] ⟨[some (.str kO),some (.aO 3),some (.aO 1),some (.typ "list"),some (.ref 99)],[.iG 265 GO,.lst (kO.map eG),.pC qS,.tG _ 2 (some 6),.pC qR,.tG _ 4 none,.ns [(an 24,.aO 5)]]⟩ _ eE
 intro A g ρ s
 refine last _ _ _ ?h0 ?h1 ?h2
 case h0=>rfl
 case h1=>rfl
 case h2=>exact⟨⟨rfl,rfl,rfl,rfl,by decide,rfl,by decide,rfl,rfl,rfl,rfl,λc cs vs hv=>by
  cases vs with
  | nil=>cases hv
  | cons v r=>cases r with
   | nil=>kernel_rfl
   | cons=>cases hv⟩⟩
end
structure OrS where
 l:List Nat
 o:List Nat
 n:Nat
 k:Nat
noncomputable def aI2(k c:Nat):Nat:=cond (((k % 2:Nat):Int) !=0) (up1 c) c
noncomputable def s8(s:OrS)(r:Nat):OrS:=⟨s.l.eraseIdx (s.n % r),s.o++ [aI2 s.k (s.l.getD (s.n % r) 0)],s.n / r,s.k / 2⟩
noncomputable def JR(n k:Nat):OrS:=⟨[97,98,99,100],[],n,k⟩
noncomputable def uH(n k:Nat):List Nat:=(s8 (s8 (s8 (s8 (JR n k) 4) 3) 2) 1).o
noncomputable abbrev XO:Cx:=D6 RK 0 GT (sS [] [] none)
noncomputable abbrev aDH:S:=LC.nt 1
noncomputable abbrev GP(s:OrS)(r c:Option aA):aK:=⟨[some (.int s.n),some (.int s.k),some (.aO 0),some (.str s.o),r,c,some (.typ "list")],[.lst (s.l.map eG)]⟩
theorem or0{n k:Nat}:gd ((sv (LC.tk 1) XO).k ⟨[some (.int n),some (.int k),none,none,none,none,some (.typ "list")],[]⟩) .next (GP (JR n k) none none):=R.leaf [] (kU (by decide:([97,98,99,100]:List Nat).length≤1000000)) ⋯
inductive ST(s:OrS)(r:Nat):Prop where
 | mk (b:0 < r∧r < 10000000000) (l:s.l.length=r) (a:∀c∈s.l,c=97∨c=98∨c=99∨c=100) (o:s.o.length+r≤4) (z:r≤1000)
theorem N6{α β:Type}{f:α->β}:∀{l:List α} {i:Nat},(l.map f).eraseIdx i=(l.eraseIdx i).map f:=λ{l}=>by
 induction l with
 | nil=>intro i;rfl
 | cons a r ih=>intro i;cases i with
  | zero=>rfl
  | succ i=>exact congrArg (f a::·) ih
theorem or1{s:OrS}{r:Nat}{a b:Option aA}(O:ST s r):gd (dU aDH XO (.int r) (GP s a b)) .next (GP (s8 s r) (some (.int r)) (some (eG (s.l.getD (s.n % r) 0)))):=by
 obtain⟨hr,hl,ha,YO,hz⟩:=O
 have ho:s.o.length+1≤1000000:=aB (bI hr.1 _) (aB YO (by decide))
 have hm:s.n % r < s.l.length:=by rw[hl];exact jQ _ hr.1
 have p1:(s.l.map eG).length≤1000000∧cX ((s.n % r:Nat):Int)=true:=⟨by rw[aG,hl];exact aB hz (by decide),E4 (aB (dY (jQ _ hr.1)) (aB hz (by decide)))⟩
 have p2:sO ((s.n % r:Nat):Int) (s.l.map eG).length=some (s.n % r)∧(s.l.map eG)[s.n % r]? =some (eG (s.l.getD (s.n % r) 0)):=⟨mN (by rw[aG];exact hm),by rw[bX,bO,aY hm];rfl⟩
 have pa:asc [s.l.getD (s.n % r) 0]=true:=by
  rw[bO,aY hm]
  have:=ha _ (List.getElem_mem hm)
  show asc [s.l[s.n % r]]=true
  rcases this with e | e | e | e <;> rw[e] <;> rfl
 unfold GP s8 aI2
 rw[←N6]
 cases c:(((s.k % 2:Nat):Int) !=0) with
 | true=>exact R.leaf [.nat r,.pop (s.n % r) (eG (s.l.getD (s.n % r) 0)),.s,.y] (pU (⟨rfl,hr.1⟩:(r:Int)=(r:Int)∧0 < r) (VK p1 p2 c pa (by decide:1≤1000000) ho hr (dv 2 rfl))) ⋯
 | false=>exact R.leaf [.nat r,.pop (s.n % r) (eG (s.l.getD (s.n % r) 0)),.s,.n] (pU (⟨rfl,hr.1⟩:(r:Int)=(r:Int)∧0 < r) (OK p1 p2 c ho hr (dv 2 rfl))) ⋯
theorem ST.next{s:OrS}{r:Nat}(O:ST s (r+2)):ST (s8 s (r+2)) (r+1):=by
 obtain⟨hr,hl,ha,ho,hz⟩:=O
 refine⟨⟨j2 r,mX hr.2⟩, ?_,λc h=>ha c (List.mem_of_mem_eraseIdx h), ?_,i9 hz⟩
 ·show(s.l.eraseIdx (s.n % (r+2))).length=r+1
  rw[List.length_eraseIdx_of_lt (by rw[hl];exact jQ _ hr.1),hl];rfl
 ·show(s.o++ [_]).length+(r+1)≤4
  rw[aE,m5,b9,cQ 1]
  exact ho
theorem or2{n k:Nat}:∃a b,gd (forL false (dU aDH XO) [] 1 [.int 4,.int 3,.int 2,.int 1] (GP (JR n k) none none)) .next (GP (s8 (s8 (s8 (s8 (JR n k) 4) 3) 2) 1) a b):=by
 have o4:ST (JR n k) 4:=⟨by decide,rfl,(by decide:∀c∈([97,98,99,100]:List Nat),c=97∨c=98∨c=99∨c=100),(by decide:([]:List Nat).length+4≤4),by decide⟩
 exact⟨_,_,dP (or1 o4) (dP (or1 o4.next) (dP (or1 o4.next.next) (dP (or1 o4.next.next.next) AU)))⟩
theorem or3{n k:Nat}:∃st,((sv LC XO).k ⟨[some (.int n),some (.int k),none,none,none,none,some (.typ "list")],[]⟩).good (.ok (.ret (.str (uH n k))) st):=by
 refine kG (or2 (n:=n) (k:=k)) λa b g=>?_
 exact⟨_,oY 1 or0 (rH (RU (zs:=[.int 4,.int 3,.int 2,.int 1]) (st1:=GP (JR n k) none none) ⋯ rfl (R.leaf [] trivial ⋯) g) (R.leaf (o:=Oc.ok (bU.ret (.str (uH n k))) (GP (s8 (s8 (s8 (s8 (JR n k) 4) 3) 2) 1) a b)) [] trivial ⋯))⟩
noncomputable def aEC:Fx:=λas kn ks H=>nk kn ks (A2 as λa b=>iI a λi=>iI b λj=>nK i λn=>nK j λk=>hZ H.isEmpty (.ok (.str (uH n k)) []))
theorem aI3{D:WD}(O:Wld D):kB D 258 1 (eO aEC):=FZ.fr ⟨⟨_,_,_,O.12.1⟩,(kB.s (need:=0) (fx:=aEC) O.12 λ{n as kn ks H Q} hn h=>nk_ (P:=λkn ks=>Bx (fS D (n+1) HN 258 as kn ks H Q)) h λh=>NL (P:=λas=>Bx (fS D (n+1) HN 258 as [] [] H Q)) h λa b h=>oJ (P:=λa=>Bx (fS D (n+1) HN 258 [a,b] [] [] H Q)) h λi h=>oJ (P:=λb=>Bx (fS D (n+1) HN 258 [_,b] [] [] H Q)) h λj h=>kM (P:=λi=>Bx (fS D (n+1) HN 258 [.int i,.int j] [] [] H Q)) h λi h=>kM (P:=λj=>Bx (fS D (n+1) HN 258 [_,.int j] [] [] H Q)) h λj h=>dM h λhH hq=>by
 obtain rfl:=jK.mp hH
 refine cD (or3 (n:=i) (k:=j)) λst g=>?_
 exact O.12.runC (k:=0) 0 (O.env .nil) .no ⋯ hn O.34 ⋯ g ⟨rfl,hq⟩).2⟩
noncomputable def Z7(x:List Nat):Nat:=(jR x [58] 0 ((jR x [10] 0 x.length).getD x.length)).getD ((jR x [10] 0 x.length).getD x.length)
noncomputable def stS(o:Option Nat):Nat:=(o.map (· +1)).getD 0
noncomputable def N7(x:List Nat):List Nat:=iX x (some (stS (wO x [46] 0 (Z7 x)):Nat)) (some (Z7 x:Nat)) none
theorem aED{x y:List Nat}{hi i:Nat}(h:pos x y hi i=true):i≤hi:=aB (aW _ _) (H2 h)
theorem aEE{x y:List Nat}{lo hi i:Nat}(h:jR x y lo hi=some i):i≤hi:=aED (List.find?_some h)
theorem LX{x y:List Nat}{lo hi n:Nat}(h:hi≤n):(jR x y lo hi).getD hi≤n:=by
 cases e:jR x y lo hi with
 | none=>exact h
 | some i=>exact aB (aEE e) h
noncomputable abbrev x61:Cx:=D6 aC9 0 GT (sS [] [] none)
noncomputable abbrev Z8(x:List Nat)(s e i:Option aA)(H:List Pc):aK:=⟨[some (.str x),s,e,i,some (.blt "len")],H⟩
section
variable {x:List Nat} {H:List Pc}
theorem st1(hz:x.length≤1000000):gd ((sv (RE.tk 2) x61).k (Z8 x none none none H)) .next (Z8 x (some (.int 0)) (some (.int x.length)) (some (.int (BM (jR x [10] 0 x.length)))) H):=R.leaf [] (kU hz) ⋯
theorem bW(o:Option Nat)(e:Nat)(h:o.getD e≤x.length):gd ((sv ((RE.dr 2).tk 2) x61).k (Z8 x (some (.int 0)) (some (.int e)) (some (.int (BM o))) H)) .next (Z8 x (some (.int 0)) (some (.int (o.getD e:Nat))) (some (.int (BM (jR x [58] 0 (o.getD e))))) H):=by
 cases o with
 | none=>exact R.leaf [] (kU h) ⋯
 | some i=>exact R.leaf [] (kU h) ⋯
theorem fL(o:Option Nat)(e:Nat)(h:o.getD e≤x.length):gd ((sv ((RE.dr 4).tk 2) x61).k (Z8 x (some (.int 0)) (some (.int e)) (some (.int (BM o))) H)) .next (Z8 x (some (.int 0)) (some (.int (o.getD e:Nat))) (some (.int (BM (wO x [46] 0 (o.getD e))))) H):=by
 cases o with
 | none=>exact R.leaf [] (kU h) ⋯
 | some i=>exact R.leaf [] (kU h) ⋯
theorem j6(o:Option Nat)(e:Nat)(hz:x.length≤1000000):((sv (RE.dr 6) x61).k (Z8 x (some (.int 0)) (some (.int e)) (some (.int (BM o))) H)).good (.ok (.ret (.str (iX x (some (stS o:Nat)) (some (e:Nat)) none))) (Z8 x (some (.int (stS o:Nat))) (some (.int e)) (some (.int (BM o))) H)):=by
 cases o with
 | none=>exact R.leaf [] (kU hz) ⋯
 | some i=>exact R.leaf [] (kU hz) ⋯
noncomputable def aI4:Fx:=λas kn ks H=>nk kn ks (A1 as λa=>iS a λx=>.ob (x.length≤1000) (.ok (.str (N7 x)) H))
theorem aMS{D:WD}(O:Wld D):kB D 61 1 aI4:=kB.s O.7 λ{n as kn ks H Q} hn h=>nk_ (P:=λkn ks=>Bx (fS D (n+1) HN 61 as kn ks H Q)) h λh=>KL (P:=λas=>Bx (fS D (n+1) HN 61 as [] [] H Q)) h λa h=>yL (P:=λa=>Bx (fS D (n+1) HN 61 [a] [] [] H Q)) h λx h=>jZ h λhz h=>by
 have hz:=aB hz (by decide:1000≤1000000)
 have e1:(jR x [10] 0 x.length).getD x.length≤x.length:=LX (aZ _)
 exact O.7.run (k:=0) (O.env .nil) ⋯ hn O.29 ⋯ (oY 2 (st1 hz) (oY 2 (bW _ _ e1) (oY 2 (fL _ _ (LX e1:Z7 x≤x.length)) (j6 _ _ hz)))) h
end
structure Sc where
 ob:Obj
 xs:List Int
noncomputable def XP(xs:Sc)(i:Nat)(b:Int):Nat:=((b+(iX (iX xs.xs none (some 60) none) (some (i:Int)) none (some 3)).sum) % ((1000000:Nat):Int)).toNat
noncomputable def F10:List (cI×Nat×Fx):=[(258,1,eO aEC),(263,1,eO (sW PgS)),(89,4,eO (sW TT)),(96,1,eO (sW PuS)),(61,1,aI4),(54,1,eO R7),(282,6,vF 277 (sW LeS))]
theorem aI5{D:WD}(O:Wld D):k7 D F10:=.cons (aI3 O) (.cons (aH5 O) (.cons (aIH O) (.cons (aID O) (.cons (aMS O) (.cons (aDU O) (.cons (aIU O) .nil))))))
noncomputable abbrev Z9(R:List (cI×Nat×Fx)):Cx:=N5 vX 10 GT (sS F10 R none)
noncomputable abbrev dZ:Cx:=Z9 []
structure L4 where
 nu:Option aA
 ty:Option aA
 wo:Option aA
 pg:Option aA
 lx:Option aA
 wd:Option aA
 rd:Option aA
 od:Option aA
 on:Option aA
 ot:Option aA
 pr:Option aA
 fl:Option aA
 td:Option aA
 rs:Option aA
 jo:Option aA
 lo:Option aA
noncomputable abbrev XR:L4:=⟨none,none,none,none,none,none,none,none,none,none,none,none,none,none,none,none⟩
noncomputable abbrev fT(l:L4)(H:List Pc):aK:=⟨[some (.aO 3),l.nu,l.ty,l.wo,l.pg,l.lx,l.wd,l.rd,l.od,l.on,l.ot,l.pr,l.fl,l.td,l.rs,l.jo,l.lo,some (.typ "enumerate"),some (.typ "range"),some (.ref 263),some (.ref 270),some (.typ "list"),some (.blt "iter"),some (.ref 54),some (.ref 275),some (.ref 282),some (.ref 299),some (.ref 292)],H⟩
noncomputable abbrev BA(n:Nat):E:=(fZ.nt n).p8
noncomputable abbrev c3:List aA:=[.int 78374,.int 55749,.int 4002]
noncomputable abbrev hA(xs:Sc)(G:List Pc):List Pc:=.iG 265 []:: .iG 277 []:: .iG 284 []:: .fix xs.ob xs.xs:: .lst c3::G
noncomputable abbrev h00(xs:Sc):List Pc:=.iG 265 []:: .iG 277 []:: .iG 284 []:: .fix xs.ob xs.xs:: []
section
variable {xs:Sc} {acc:List aA} {u v:Option aA}
noncomputable abbrev mNu(u v:Option aA)(H:List Pc):aK:=⟨[none,u,v,some (.blt "sum"),some (.aO 3)],H⟩
theorem leM(a:Nat)(h:eB a 1000000=true):a≤1000000:=aH h
theorem nu1{i:Nat}{b:Int}(hz:xs.xs.length≤1000)(ha:acc.length≤1000000):gd (uS (BA 0) (dZ.lI (BA 0).sc) 5 (.tup [.int i,.int b]) (mNu u v (hA xs [.lst acc]))) () (mNu (some (.int i)) (some (.int b)) (hA xs [.lst (acc++ [.int (XP xs i b)]),.lst (iX (xs.xs.map .int) none (some 60) none),.lst (iX (iX (xs.xs.map .int) none (some 60) none) (some (i:Int)) none (some 3))])):=by
 have h1:(xs.xs.map aA.int).length≤1000000:=by rw[aG];exact aB hz (by decide)
 have h2:(iX (xs.xs.map aA.int) none (some 60) none).length≤1000000:=aB (g9 ..) h1
 have e:iX (iX (xs.xs.map aA.int) none (some 60) none) (some (i:Int)) none (some 3)=(iX (iX xs.xs none (some 60) none) (some (i:Int)) none (some 3)).map .int:=by rw[w7,w7]
 exact R.leaf [.s,.ints (iX (iX xs.xs none (some 60) none) (some (i:Int)) none (some 3)),.n] (QA h1 h2 e (by decide:6≤20) ha) ⋯
noncomputable abbrev n0(xs:Sc):Nat:=XP xs 0 78374
noncomputable abbrev n1(xs:Sc):Nat:=XP xs 1 55749
noncomputable abbrev n2(xs:Sc):Nat:=XP xs 2 4002
noncomputable abbrev nuL(xs:Sc):List aA:=[.int (n0 xs),.int (n1 xs),.int (n2 xs)]
theorem nu2(hz:xs.xs.length≤1000):gd (WL (BA 0) dZ (fT XR (h00 xs))) (.aO 5) (fT XR (hA xs [.lst (nuL xs)])):=
 mH (w:=BA 0) (x:=dZ) (st:=fT XR (h00 xs)) (a:=.aO 6) (ys:=rW 0 c3) (need:=[(4,.lst c3)]) (s1:=fT XR (hA xs [.lit 4,.AH 5])) (s2:=fT XR (hA xs [])) (s3:=mNu (some (.int (2:Nat))) (some (.int 4002)) (hA xs [.lst (nuL xs)]))
  (R.leaf [] trivial ⋯) (λk q=>q) ⟨rfl,dP (nu1 (acc:=[]) (i:=0) (b:=78374) hz (cO _)) ⟨rfl,dP (nu1 (acc:=[.int (n0 xs)]) (i:=1) (b:=55749) hz (leM 1 rfl)) ⟨rfl,dP (nu1 (acc:=[.int (n0 xs),.int (n1 xs)]) (i:=2) (b:=4002) hz (leM 2 rfl)) ⟨rfl,AU⟩⟩⟩⟩
noncomputable abbrev XS:L4:={ XR with nu:=some (.aO 5) }
noncomputable abbrev hN(xs:Sc)(G:List Pc):List Pc:=hA xs (.lst (nuL xs)::G)
theorem lq0(hz:xs.xs.length≤1000):gd ((sv (fZ.nt 0) dZ).s (fT XR (h00 xs))) .next (fT XS (hN xs [])):=
 R.leaf [.cmp (.aO 5) (fT XR (hA xs [.lst (nuL xs)]))] (kU (nu2 hz)) ⋯
noncomputable abbrev mTy(i:Option aA)(H:List Pc):aK:=⟨[none,i,some (.ref 258),some (.aO 5)],H⟩
noncomputable abbrev qE(xs:Sc)(i:Nat):List Nat:=uH (n0 xs / 24 ^ i) (n1 xs / 16 ^ i)
theorem pw{b e k:Nat}(hb:0 < b)(hk:k≤e)(h:dT (b ^ e) 10000000000=true):0 < b ^ k∧b ^ k < 10000000000:=⟨Nat.pow_pos hb,bA (Nat.pow_le_pow_right hb hk) (t8 h)⟩
theorem ty1{i m:Nat}(hi:i≤2)(ha:acc.length≤1000000):gd (uS (BA 1) (dZ.lI (BA 1).sc) 7 (.int i) (mTy u (hN xs [.oK m,.lst acc]))) () (mTy (some (.int i)) (hN xs [.oK m,.lst (acc++ [.str (qE xs i)])])):=
 R.leaf [] (QA (aB hi (by decide:2≤20)) (pw (b:=24) (e:=2) (by decide) hi rfl) (aB hi (by decide:2≤20)) (pw (b:=16) (e:=2) (by decide) hi rfl) ha) ⋯
noncomputable abbrev j0(xs:Sc):List (List Nat):=[qE xs 0,qE xs 1,qE xs 2]
noncomputable abbrev hT(xs:Sc)(G:List Pc):List Pc:=hN xs (.oK 3::bL (j0 xs)::G)
theorem ty2:gd (WL (BA 1) dZ (fT XS (hN xs []))) (.aO 7) (fT XS (hT xs [])):=
 mH (w:=BA 1) (x:=dZ) (st:=fT XS (hN xs [])) (a:=.aO 6) (ys:=[.int (0:Nat),.int (1:Nat),.int (2:Nat)]) (need:=[]) (s1:=fT XS (hN xs [.oK 3])) (s2:=fT XS (hN xs [.oK 3])) (s3:=mTy (some (.int (2:Nat))) (hT xs []))
  (R.leaf [.nat 3] (oU (rfl:((3:Nat):Int)=((3:Nat):Int)) (by decide:3 < 1000000)) ⋯) (λk q=>pU (by decide:3 < 1000000) q) (dP (ty1 (acc:=[]) (i:=0) (by decide) (cO _)) (dP (ty1 (acc:=[.str (qE xs 0)]) (i:=1) (by decide) (leM 1 rfl)) (dP (ty1 (acc:=[.str (qE xs 0),.str (qE xs 1)]) (i:=2) (by decide) (leM 2 rfl)) AU)))
noncomputable abbrev l42:L4:={ XS with ty:=some (.aO 7) }
theorem lq1:gd ((sv (fZ.nt 1) dZ).s (fT XS (hN xs []))) .next (fT l42 (hT xs [])):=
 R.leaf [.cmp (.aO 7) (fT XS (hT xs []))] (kU (ty2 (xs:=xs))) ⋯
theorem kP(n k:Nat):(uH n k).length≤4:=aZ 4
noncomputable abbrev z3(xs:Sc):List (List Nat)×List Nat:=ON (j0 xs) (n2 xs) [] []
noncomputable abbrev hP(xs:Sc)(G:List Pc):List Pc:=hT xs (bL (z3 xs).1::G)
noncomputable abbrev N8(xs:Sc):L4:={ l42 with wo:=some (.aO 8),pg:=some (.str (z3 xs).2) }
theorem lq2:gd ((sv (fZ.nt 2) dZ).s (fT l42 (hT xs []))) .next (fT (N8 xs) (hP xs [])):=
 R.leaf [.s,.lG (zPg (j0 xs) (n2 xs))] (kU (jN (PgS.mk (j0 xs) (n2 xs) (λo h=>by
  refine nI h (λe0=>?_) λh=>?_
  ·subst e0;exact kP _ _
  ·refine nI h (λe0=>?_) λh=>?_
   ·subst e0;exact kP _ _
   ·refine nI h (λe0=>?_) λh=>?_
    ·subst e0;exact kP _ _
    ·cases h) (by decide:3≤1000)))) ⋯
end
noncomputable abbrev zsL:List (Pos×Nat):=[(dp 4688233,12),(dp 4709724,17)]
noncomputable abbrev hE(xs:Sc)(X:kW)(pend:List (List Nat))(signs:List Nat)(ln:Nat)(G:List Pc):List Pc:=.iG 265 zsL:: .iG 277 []:: .iG 284 []:: .fix xs.ob xs.xs:: .lst c3:: .lst (nuL xs):: .oK 3::bL (j0 xs)::bL (z3 xs).1::
 .inst 99 10:: .ns [(an 26,.int ln),(an 27,.aO 11),(an 28,.str OM),(an 29,.aO 18)]:: .tG X.uT 12 (some 13):: .pC X.qS:: .ns [(an 24,.aO 14)]:: .HP X.oZ "signs" 15 17 none:: .rC (.aO 16):: .lst (signs.map eG):: .pC X.oZ.qualname:: .lst (pend.map .str)::G
noncomputable abbrev xJ(xs:Sc):L4:={ N8 xs with lx:=some (.aO 9) }
section
variable {C:Ctx} {x:Cx} {Q:bU->aK->Prop} {rest:List v8} {st st1:aK}
theorem exS(O:iZ C x){s:S}(g:gd ((sv s x).s st) .next st1)(h:j5 C rest st1 Q eE):j5 C ((dst x.xs s).s::rest) st Q eE:=by
 refine j5.cons ?_
 refine Wp.mono ((pF s C x O).1 (g.post (Q:=λfl fR=>fl= .next∧fR=st1) (X:=eE) ⟨rfl,rfl⟩)).1 ?_ (λ_ _ _ _ e=>e)
 rintro fl fR ⟨rfl,rfl⟩
 exact h
theorem lq3(O:iZ C dZ)(W:Wld C.D)(hh:C.hd=none){xs:Sc}(hn:3≤C.n)(hz:(z3 xs).2.length≤1000000)(h:∀X,eI X->j5 C rest (fT (xJ xs) (hE xs X [] (z3 xs).2 1 [])) Q eE):j5 C ((dst dZ.xs (fZ.nt 3)).s::rest) (fT (N8 xs) (hP xs [])) Q eE:=by
 refine j5.cons ?_
 show Ex C (.Assign [.Name (r7 dZ.xs 5) (dp 5972553)] (eD dZ.xs (.call (.v 20 5973718) (.cons (.v 4 5975307) .nil) [] .nil 5973724)).e (dp 5972572)) (fT (N8 xs) (hP xs [])) _ eE
 refine Ex.assign ((nG dZ.xs (.call (.v 20 5973718) (.cons (.v 4 5975307) .nil) [] .nil 5973724)).6 rfl _ _ _) ?_
 refine Ev.call (oV (.cons (.v 4 5975307) .nil) .nil []) ((nG dZ.xs (.v 20 5973718)).5 rfl _ _ _ _) ?_
 refine Wp.mono ((gA (.v 20 5973718) C dZ O).1 ((R.leaf [] trivial ⋯:gd ((ev (.v 20 5973718) dZ).e (fT (N8 xs) (hP xs []))) (.ref 270) (fT (N8 xs) (hP xs []))).post (Q:=λb st1=>b= .ref 270∧st1=fT (N8 xs) (hP xs [])) (X:=eE) ⟨rfl,rfl⟩)).1 ?_ (λ_ _ _ _ e=>e)
 rintro _ _ ⟨rfl,rfl⟩
 refine Wp.mono ((gA (.cons (.v 4 5975307) .nil) C dZ O).3 (dp 5973724) ((R.leaf [] trivial ⋯:gd ((ev (.cons (.v 4 5975307) .nil) dZ).a (fT (N8 xs) (hP xs []))) [.str (z3 xs).2] (fT (N8 xs) (hP xs []))).post (Q:=λb st1=>b= [.str (z3 xs).2]∧st1=fT (N8 xs) (hP xs [])) (X:=eE) ⟨rfl,rfl⟩)).1 ?_ (λ_ _ _ _ e=>e)
 rintro _ _ ⟨rfl,rfl⟩
 refine Ks.nil ?_
 have key:∀n,C.n=n+1->2≤n->∀{Qf:aA->List Pc->Prop},(∀X,eI X->Qf (.aO 9) (hE xs X [] (z3 xs).2 1 []))->u7 C.D C.n HN (.ref 270) [.str (z3 xs).2] [] [] (fT (N8 xs) (hP xs [])).H Qf:=λn e hk {Qf} hq=>by
  rw[e]
  refine u7.of (hd:=HN) W.14.1 (fS.frame (σ:=[0]) (Q0:=λr H1=>∃X,eI X∧r= .aO 8∧H1=aI1 X (z3 xs).2 GO) ⋯ (aEB W hz hk λX L=>⟨X,L,rfl,rfl⟩).1 ?_)
  rintro r H1 ⟨X,L,rfl,rfl⟩
  have f:∀a b,a= .aO 9->b=hE xs X [] (z3 xs).2 1 []->Qf a b:=by
   rintro _ _ rfl rfl
   exact hq X L
  exact⟨[8,7,3,2,6,5,10,1,4,9],⋯,f _ _ ⋯ ⋯⟩
 obtain⟨k,hk⟩:=lU hn
 have g:∀X,eI X->As C (.Name (r7 dZ.xs 5) (dp 5972553)) (.aO 9) ⟨(fT (N8 xs) (hP xs [])).m,hE xs X [] (z3 xs).2 1 []⟩ (λst1=>j5 C rest st1 Q eE) eE:=λX L=>As.name (i:=5) ((congrArg (·[5]?) O.1).trans ⋯) (.inl rfl) λ{A g ρ s}=>h X L
 have c:Bx (fM C (.ref 270) [.str (z3 xs).2] [] [] (fT (N8 xs) (hP xs [])) (λb st1=>As C (.Name (r7 dZ.xs 5) (dp 5972553)) b st1 (λst1=>j5 C rest st1 Q eE) eE) eE):=V0 ⟨key (k+2) (hk.trans (cQ ..)) (fO _ _) g⟩ hh
 intro A g' ρ s fv vs ws
 exact c.1
end
noncomputable abbrev GQ(X:kW)(p p':List (List Nat))(s s' t:List Nat)(l l':Nat):lZ:={ as:=[.aO 0],H:=jO X p s l,r:=.str t,H':=jO X p' s' l' }
noncomputable abbrev aI6(X:kW)(p:List (List Nat))(s t:List Nat)(l:Nat):lZ:={ as:=[.aO 0,.str t],H:=jO X p s l,r:=.none,H':=jO X (p++ [t]) s l }
section
variable {xs:Sc} {X:kW} {wd:Option aA} {G:List aA} {s:List Nat} {l:Nat}
noncomputable abbrev XT:S:=fZ.nt 4
theorem aI7{p:List (List Nat)}{w:List Nat}(hp:p.length≤1000000):gd (dU XT dZ (.str w) (fT { xJ xs with wd:=wd } (hE xs X p s l [.lst G]))) .next (fT { xJ xs with wd:=some (.str w) } (hE xs X (p++ [w]) s l [.lst G])):=by
 show gd _ _ (fT { xJ xs with wd:=some (.str w) } (hE xs X (p++ [w]) s l [.lst G]))
 exact R.leaf [.lG (aI6 X p s w l)] (kU (jN (z:=aI6 X p s w l) (PuS.mk X p s l w hp))) ⋯
theorem aMT{t1 t2 s1 s2:List Nat}{l1 l2:Nat}(L:eI X)(hz:s.length≤800000)(h1:s1.length≤800000)(e1:uF [] s l=(t1,[],s1,l1))(e2:uF [] s1 l1=(t2,[],s2,l2)):gd ((ev XT.y0 dZ).e (fT (xJ xs) (hE xs X [] s l []))) (.aO 19) (fT (xJ xs) (hE xs X [] s2 l2 [.lst [.str t1,.str t2]])):=
 R.leaf [.lG (GQ X [] [] s s1 t1 l l1),.lG (GQ X [] [] s1 s2 t2 l1 l2)] (oU (jN (z:=GQ X [] [] s s1 t1 l l1) (TT.mk X L [] [] s s1 t1 l l1 (cO _) hz e1)) (jN (z:=GQ X [] [] s1 s2 t2 l1 l2) (TT.mk X L [] [] s1 s2 t2 l1 l2 (cO _) h1 e2))) ⋯
def Toks(s:List Nat)(l fin:Nat):List (List Nat)->List (List Nat)->Prop
 | p,[]=>p= []∧uF [] s l=([],[],[],fin)
 | p,t::r=>([]==t)=false∧(match p with
  | q::p'=>q=t∧Toks s l fin p' r
  | []=>∃s' l',uF [] s l=(t,[],s',l')∧s'.length≤800000∧Toks s' l' fin [] r)
noncomputable abbrev SU:Cx:={ dZ with n:=6 }
theorem tk0{p p':List (List Nat)}{s s' t:List Nat}{l l':Nat}{acc:List aA}(L:eI X)(hp:p.length≤1000000)(hz:s.length≤800000)(e:uF p s l=(t,p',s',l'))(ne:([]==t)=false):gd (IY SU 21 (fT { xJ xs with wd:=wd } (hE xs X p s l [.lst G,.m6 89 9,.hC 20 [],.lst acc]))) (some (.str t)) (fT { xJ xs with wd:=wd } (hE xs X p' s' l' [.lst G,.m6 89 9,.hC 20 [],.lst acc])):=
 R.leaf [.lG (GQ X p p' s s' t l l'),.n] (vC (jN (z:=GQ X p p' s s' t l l') (TT.mk X L p p' s s' t l l' hp hz e)) (show((20,[]):Nat×List Nat)=(20,[])∧((89,9):cI×Nat)=(89,9) from⟨rfl,rfl⟩) ne) ⋯
theorem tkE{s:List Nat}{l fin:Nat}{acc:List aA}(L:eI X)(hz:s.length≤800000)(e:uF [] s l=([],[],[],fin)):gd (IY SU 21 (fT { xJ xs with wd:=wd } (hE xs X [] s l [.lst G,.m6 89 9,.hC 20 [],.lst acc]))) none (fT { xJ xs with wd:=wd } (hE xs X [] [] fin [.lst G,.m6 89 9,.tL,.lst acc])):=
 R.leaf [.lG (GQ X [] [] s [] [] l fin),.y] (vC (jN (z:=GQ X [] [] s [] [] l fin) (TT.mk X L [] [] s [] [] l fin (cO _) hz e)) (show((20,[]):Nat×List Nat)=(20,[])∧((89,9):cI×Nat)=(89,9) from⟨rfl,rfl⟩) (rfl:(([]:List Nat)==[])=true)) ⋯
theorem aI8{x:Cx}{l S n:Nat}{st bW:aK}{acc:List aA}(i:uA l st=true)(a:st.H[S]? =some (.lst acc))(h:gd (IY x l st) none bW):gd (vV x l S (n+1) st) (.aO S) bW:=n6 i (gIO a (gIO rfl (dP h AU)))
theorem aI9{x:Cx}{l S n:Nat}{st bW fL j6:aK}{acc:List aA}{v:aA}(i:uA l st=true)(a:st.H[S]? =some (.lst acc))(h:gd (IY x l st) (some v) bW)(p:v.pure=true)(a2:bW.H[S]? =some (.lst acc))(z:acc.length < 100000)(e:⟨bW.m,bW.H.set S (.lst (acc++ [v]))⟩=fL)(g:gd (vV x l S n fL) (.aO S) j6):gd (vV x l S (n+1) st) (.aO S) j6:=by
 subst e
 exact n6 i (gIO a (gIO rfl (dP h (n6 p ⟨a2,z,g⟩))))
theorem tkL(L:eI X)(d:Nat)(ts:List (List Nat)):∀(p:List (List Nat)) (s:List Nat) (l fin:Nat) (acc:List aA),Toks s l fin p ts->p.length≤1000000->s.length≤800000->acc.length+ts.length < 100000->
  gd (vV SU 21 22 (d+ts.length+1) (fT { xJ xs with wd:=wd } (hE xs X p s l [.lst G,.m6 89 9,.hC 20 [],.lst acc]))) (.aO 22) (fT { xJ xs with wd:=wd } (hE xs X [] [] fin [.lst G,.m6 89 9,.tL,.lst (acc++ts.map .str)])):=by
 induction ts with
 | nil=>
  intro p s l fin acc h hp hz ha
  refine d5 ((h:p= []∧uF [] s l=([],[],[],fin))) λu5 e=>?_;subst u5
  rw[show acc++([]:List (List Nat)).map aA.str=acc from bQ acc]
  exact aI8 (acc:=acc) ⋯ ⋯ (tkE L hz e)
 | cons t r ih=>
  intro p s l fin acc h hp hz ha
  rw[eQ] at ha
  have key:∃p' s' l',uF p s l=(t,p',s',l')∧Toks s' l' fin p' r∧p'.length≤1000000∧s'.length≤800000:=by
   cases p with
   | nil=>obtain⟨_,s',l',e,h1,h2⟩:=h;exact⟨[],s',l',e,h2,cO _,h1⟩
   | cons q p'=>refine u3 h λ_ dF h2=>?_;subst dF;exact⟨p',s,l,rfl,h2,aB (eW _) hp,hz⟩
  have ne:([]==t)=false:=by cases p with
   | nil=>exact h.1
   | cons q p'=>exact h.1
  refine MJ key λp' s' l' e h2 h3 h4=>?_
  have g:=ih p' s' l' fin (acc++ [.str t]) h2 h3 h4 (by exact sn (by assumption))
  rw[c4] at g
  exact aI9 (acc:=acc) ⋯ ⋯ (tk0 L hp hz e ne) rfl ⋯ (by exact fit (by assumption) (by decide)) ⋯ g
theorem lq4{t1 t2 s1 s2:List Nat}{l1 l2:Nat}(L:eI X)(hz:s.length≤800000)(h1:s1.length≤800000)(e1:uF [] s l=(t1,[],s1,l1))(e2:uF [] s1 l1=(t2,[],s2,l2)):
  gd ((sv XT dZ).s (fT (xJ xs) (hE xs X [] s l []))) .next (fT { xJ xs with wd:=some (.str t2) } (hE xs X [t1,t2] s2 l2 [.lst [.str t1,.str t2]])):=
 B5 (s:=XT) ⋯ ⋯ (aMT (xs:=xs) L hz h1 e1 e2) rfl (dP (aI7 (p:=[]) (wd:=none) (cO _)) ⟨rfl,dP (aI7 (p:=[t1]) (wd:=some (.str t1)) (by exact(by decide:1≤1000000))) ⟨rfl,AU⟩⟩)
noncomputable def S.aAA(s:S):Bool:=match s with | .asg .. =>true | _=>false
noncomputable def S.ix(s:S):Nat:=match s with | .asg i _ _ _=>i | _=>0
theorem aEF{s:S}:s.aAA=true->∃i q e p,s= .asg i q e p:=by
 cases s with
 | asg i q e p=>exactλ_=>⟨i,q,e,p,rfl⟩
 | _=>exact eV
theorem aMU{s:S}{x:Cx}{a:aA}{st st1 bW:aK}(k:s.aAA=true)(n:s.p8.noC=true)(h:gd ((ev s.p8 x).e st) a st1)(g:gd (ZD x s.ix a st1) () bW):gd ((sv s x).s st) .next bW:=by
 refine wG (aEF k) λi q e p wN=>?_;subst wN
 exact gIO (c:=false) (congrArg Sem.isP ((nG x.xs e).6 n _ _ _)) (dP h (dP g AU))
noncomputable def E.aAB(w:E):Bool:=match w with | .call f _ ks wQ _=>f.FP && ks.isEmpty && isNil wQ | _=>false
noncomputable abbrev E.fn(w:E):E:=w.c 0
noncomputable abbrev E.as(w:E):E:=w.c 1
theorem aEG{w:E}:w.aAB=true->∃f es p,w= .call f es [] .nil p∧f.FP=true:=by
 cases w with
 | call f es ks wQ p=>
  intro h
  obtain rfl:=jK.mp (aQ (aP h))
  obtain rfl:=I1 (aQ h)
  exact⟨f,es,p,rfl,aP (aP h)⟩
 | _=>exact eV
theorem aMV{w:E}{x:Cx}{fa:aA}{as:List aA}{st st1 bW:aK}{o:Oc aK aA}(k:w.aAB=true)(h:gd ((ev w.fn x).e st) fa st1)(g:gd ((ev w.as x).a st1) as bW)(c:(NO x fa as [] [] bW).good o):((ev w x).e st).good o:=by
 refine HM (aEG k) λf es p rF n=>?_;subst rF
 exact n6 n (dP h (dP g (dP (a:=[]) AU c)))
theorem aJA{x:Cx}{l:Nat}{st:aK}:NO x (.typ "list") [.aO l] [] [] st=hZ (x.hn && eB 4 x.n && uA l st) (vV { x with n:=x.n - 4 } l st.H.length fuel ⟨st.m,st.H++ [.lst []]⟩).nx:=⋯
noncomputable abbrev N9:S:=fZ.nt 5
noncomputable abbrev mR(xs:Sc)(wd:Option aA)(H:List Pc):aK:=fT { xJ xs with wd:=wd,rd:=some (.aO 22) } H
noncomputable abbrev gR(G:List aA)(its:List aA)(Q:List Pc):List Pc:=.lst G:: .m6 89 9:: .tL:: .lst its::Q
theorem aMW{p:List (List Nat)}{fin:Nat}{ts:List (List Nat)}(L:eI X)(h:Toks s l fin p ts)(hp:p.length≤1000000)(hz:s.length≤800000)(ha:ts.length≤900):gd (NO dZ (.typ "list") [.aO 21] [] [] (fT { xJ xs with wd:=wd } (hE xs X p s l [.lst G,.m6 89 9,.hC 20 []]))) (.aO 22) (fT { xJ xs with wd:=wd } (hE xs X [] [] fin (gR G (ts.map .str) []))):=by
 have g:=tkL (xs:=xs) (wd:=wd) (G:=G) L (999999 - ts.length) ts p s l fin [] h hp hz (by rw[dJ,cZ];exact bA ha (by decide))
 have e:999999 - ts.length+ts.length+1=fuel:=(congrArg (· +1) (Nat.sub_add_cancel (aB ha (by decide))):999999 - ts.length+ts.length+1=999999+1)
 rw[e] at g
 rw[aJA]
 exact n6 ⋯ (ZT g)
set_option maxHeartbeats 4000000 in
theorem lq5{p:List (List Nat)}{fin:Nat}{ts:List (List Nat)}(L:eI X)(h:Toks s l fin p ts)(hp:p.length≤1000000)(hz:s.length≤800000)(ha:ts.length≤900):gd ((sv N9 dZ).s (fT { xJ xs with wd:=wd } (hE xs X p s l [.lst G]))) .next (mR xs wd (hE xs X [] [] fin (gR G (ts.map .str) []))):=by
 have c:=aMW (xs:=xs) (wd:=wd) (G:=G) L h hp hz ha
 have a1:gd ((ev N9.p8.fn dZ).e (fT { xJ xs with wd:=wd } (hE xs X p s l [.lst G]))) (.typ "list") (fT { xJ xs with wd:=wd } (hE xs X p s l [.lst G])):=R.leaf [] trivial ⋯
 have a2:gd ((ev N9.p8.as dZ).a (fT { xJ xs with wd:=wd } (hE xs X p s l [.lst G]))) [.aO 21] (fT { xJ xs with wd:=wd } (hE xs X p s l [.lst G,.m6 89 9,.hC 20 []])):=R.leaf [] trivial ⋯
 have a3:gd (ZD dZ N9.ix (.aO 22) (fT { xJ xs with wd:=wd } (hE xs X [] [] fin (gR G (ts.map .str) [])))) () (mR xs wd (hE xs X [] [] fin (gR G (ts.map .str) []))):=R.leaf [] trivial ⋯
 have a4:=aMV (w:=N9.p8) ⋯ a1 a2 c
 exact aMU (s:=N9) ⋯ ⋯ a4 a3
end
theorem GS(l:List (List Nat)):p7 (l.map .str) (l.map .str)=true:=zJ (beq_self_eq_true _) (GL _ _ λx m=>by refine bS (eX.mp m) λp _ dE=>?_;subst dE;exact beq_self_eq_true p)
theorem LY(l m:List (List Nat)):all2 NF (l.map .str) (m.map .str)=true:=by
 induction l generalizing m with
 | nil=>rfl
 | cons a r ih=>cases m with
  | nil=>rfl
  | cons b q=>exact ih q
noncomputable abbrev E.cl1(e:E):E:=e.c 0
noncomputable abbrev E.bo1(e:E):E:=((e.c 0).c 1).c 0
noncomputable abbrev cS:E:=(BA 6).bo1.cl1
noncomputable abbrev yS:Cx:=dZ.lI cS.sc
section
variable {xs:Sc} {X:kW} {G:List aA} {fin:Nat} {wd u:Option aA} {acc:List (List Nat)} {w:List Nat}
noncomputable abbrev o8(xs:Sc):List (List Nat):=(z3 xs).1
noncomputable abbrev hR(xs:Sc)(X:kW)(fin:Nat)(G:List aA)(Q:List Pc):List Pc:=hE xs X [] [] fin (gR G ((o8 xs).map .str) Q)
noncomputable abbrev mSt(u:Option aA)(H:List Pc):aK:=⟨[none,u,some (.ref 61)],H⟩
theorem aMX(hw:w.length≤1000)(ha:acc.length≤1000000):gd (uS cS yS 23 (.str w) (mSt u (hR xs X fin G [bL acc]))) () (mSt (some (.str w)) (hR xs X fin G [bL (acc++ [N7 w])])):=by
 have ha:(acc.map aA.str).length≤1000000:=by rw[aG];exact ha
 rw[show bL (acc++ [N7 w])= .lst (acc.map .str++ [.str (N7 w)]) from congrArg Pc.lst cG]
 exact R.leaf [] (oU hw ha) ⋯
theorem lq6(hl:∀w∈o8 xs,w.length≤1000)(hz:(o8 xs).length≤1000)(hs:(o8 xs).map N7=j0 xs)(hf:fin=(z3 xs).2.count 10+1):gd ((sv (fZ.nt 6) dZ).s (mR xs wd (hR xs X fin G []))) .next (mR xs wd (hR xs X fin G [bL (j0 xs)])):=by
 refine cD (vZ (β:=List Nat) (σ:=Option aA) (need:=[(22,bL (o8 xs))]) (k:=24) (inA:=aA.str) (P:=λw=>w.length≤1000) (turn:=uS cS yS 23) (mk:=λsg acc=>mSt sg (hR xs X fin G [bL acc])) (nx:=λw=>some (.str w)) (out:=λw=>[N7 w]) (λw sg acc h ha=>aMX h ha) (λe acc=>⟨⋯,⋯,sK rfl⟩) (λe=>aZ 1) (o8 xs) [] none hl (by rw[dJ,cZ];exact aB hz (by decide))) λsg g=>?_
 rw[LT,lJ,hs] at g
 have C:=mH (w:=cS) (x:=dZ) (st:=mR xs wd (hR xs X fin G [])) (s1:=mR xs wd (hR xs X fin G [])) (s2:=mR xs wd (hR xs X fin G [])) (s3:=mSt sg (hR xs X fin G [bL (j0 xs)])) (a:=.aO 22) (ys:=(o8 xs).map .str) (need:=[(22,bL (o8 xs))]) (R.leaf [] trivial ⋯) (λk q=>q) ⟨rfl,g⟩
 have e:((fin:Int) !=(((z3 xs).2.count 10:Nat):Int)+1)=false:=by rw[hf];exact bne_self_eq_false _
 exact R.leaf [.n,.cmp (.aO 23) (mR xs wd (hR xs X fin G [bL (j0 xs)])),.n,.n] (OK (λ_=>LY _ _:((o8 xs).map aA.str).length=((o8 xs).map aA.str).length->all2 NF ((o8 xs).map aA.str) ((o8 xs).map aA.str)=true) (show(!(p7 ((o8 xs).map aA.str) ((o8 xs).map aA.str)))=false by rw[GS];rfl) C
  (λ_=>LY _ _:((j0 xs).map aA.str).length=((j0 xs).map aA.str).length->all2 NF ((j0 xs).map aA.str) ((j0 xs).map aA.str)=true) (show(!(p7 ((j0 xs).map aA.str) ((j0 xs).map aA.str)))=false by rw[GS];rfl) e) ⋯
noncomputable abbrev S.asW(s:S):E:=s.y0
noncomputable abbrev cW':E:=(fZ.nt 7).asW
noncomputable abbrev yW:Cx:=dZ.lI cW'.sc
noncomputable abbrev mLw(u:Option aA)(H:List Pc):aK:=⟨[none,u],H⟩
noncomputable abbrev DT(xs:Sc)(i:Nat):List Nat:=tU (qE xs i)
noncomputable abbrev aJB(xs:Sc):List (List Nat):=[DT xs 0,DT xs 1,DT xs 2]
theorem lo1(hw:asc w=true)(hl:w.length≤1000)(ha:acc.length≤1000000):gd (uS cW' yW 24 (.str w) (mLw u (hR xs X fin G [bL (j0 xs),bL acc]))) () (mLw (some (.str w)) (hR xs X fin G [bL (j0 xs),bL (acc++ [tU w])])):=by
 have ha:(acc.map aA.str).length≤1000000:=by rw[aG];exact ha
 rw[show bL (acc++ [tU w])= .lst (acc.map .str++ [.str (tU w)]) from congrArg Pc.lst cG]
 exact R.leaf [] (vC hw (aB hl (by decide):w.length≤1000000) ha) ⋯
noncomputable abbrev hW(xs:Sc)(X:kW)(fin:Nat)(G:List aA)(Q:List Pc):List Pc:=hR xs X fin G (bL (j0 xs)::bL (aJB xs)::Q)
noncomputable abbrev l45(xs:Sc)(wd:Option aA):L4:={ xJ xs with wd:=wd,rd:=some (.aO 22),od:=some (.str (DT xs 0)),on:=some (.str (DT xs 1)),ot:=some (.str (DT xs 2)) }
theorem lq7(ha:∀w∈j0 xs,asc w=true∧w.length≤1000):gd ((sv (fZ.nt 7) dZ).s (mR xs wd (hR xs X fin G [bL (j0 xs)]))) .next (fT (l45 xs wd) (hW xs X fin G [])):=by
 refine cD (vZ (β:=List Nat) (σ:=Option aA) (need:=[(7,bL (j0 xs))]) (k:=25) (inA:=aA.str) (P:=λw=>asc w=true∧w.length≤1000) (turn:=uS cW' yW 24) (mk:=λsg acc=>mLw sg (hR xs X fin G [bL (j0 xs),bL acc])) (nx:=λw=>some (.str w)) (out:=λw=>[tU w]) (λw sg acc h ha=>lo1 h.1 h.2 ha) (λe acc=>⟨⋯,⋯,sK rfl⟩) (λe=>aZ 1) (j0 xs) [] none ha (by exact(by decide:0+3≤1000000))) λsg g=>?_
 have C:=mH (w:=cW') (x:=dZ) (st:=mR xs wd (hR xs X fin G [bL (j0 xs)])) (s1:=mR xs wd (hR xs X fin G [bL (j0 xs)])) (s2:=mR xs wd (hR xs X fin G [bL (j0 xs)])) (s3:=mLw sg (hW xs X fin G [])) (a:=.aO 7) (ys:=(j0 xs).map .str) (need:=[(7,bL (j0 xs))]) (R.leaf [] trivial ⋯) (λk q=>q) ⟨rfl,g⟩
 exact R.leaf [.cmp (.aO 24) (mR xs wd (hW xs X fin G []))] (kU C) ⋯
end
structure LV where
 xs:Sc
 X:kW
 ln:Nat
 a7:List aA
 a8:List aA
 a19:List aA
 a22:List aA
 a23:List aA
 a24:List aA
 n0:Nat
 n1:Nat
 n2:Nat
 o:List Nat
 p:List Nat
 q:List Nat
 pg:List Nat
 wd:List Nat
noncomputable abbrev hV(V:LV)(zs:List (Pos×Nat))(G:List Pc):List Pc:=.iG 265 zsL:: .iG 277 zs:: .iG 284 []:: .fix V.xs.ob V.xs.xs:: .lst c3:: .lst [.int V.n0,.int V.n1,.int V.n2]:: .oK 3:: .lst V.a7:: .lst V.a8::
 .inst 99 10:: .ns [(an 26,.int V.ln),(an 27,.aO 11),(an 28,.str OM),(an 29,.aO 18)]:: .tG V.X.uT 12 (some 13):: .pC V.X.qS:: .ns [(an 24,.aO 14)]:: .HP V.X.oZ "signs" 15 17 none:: .rC (.aO 16):: .lst []:: .pC V.X.oZ.qualname:: .lst []::
 .lst V.a19:: .m6 89 9:: .tL:: .lst V.a22:: .lst V.a23:: .lst V.a24::G
structure LW where
 pr:Option aA
 fl:Option aA
 td:Option aA
 rs:Option aA
 jo:Option aA
 lo:Option aA
noncomputable abbrev OA:LW:=⟨none,none,none,none,none,none⟩
noncomputable abbrev mV(V:LV)(l:LW)(H:List Pc):aK:=⟨[some (.aO 3),some (.aO 5),some (.aO 7),some (.aO 8),some (.str V.pg),some (.aO 9),some (.str V.wd),some (.aO 22),some (.str V.o),some (.str V.p),some (.str V.q),l.pr,l.fl,l.td,l.rs,l.jo,l.lo,some (.typ "enumerate"),some (.typ "range"),some (.ref 263),some (.ref 270),some (.typ "list"),some (.blt "iter"),some (.ref 54),some (.ref 275),some (.ref 282),some (.ref 299),some (.ref 292)],H⟩
noncomputable abbrev DB:S:=fZ.nt 8
inductive GU(o:List Nat)(p:Nat×Nat):Prop where
 | mk (h0:jR o [p.1] 0 o.length=some (zZ o p.1)) (h1:jR o [p.2] 0 o.length=some (zZ o p.2)) (e1:(!(DL p.1 p.2 o==decide ((zZ o p.1:Int) < zZ o p.2)))=false)
  (c d:Nat) (hc:(iW (0:Int) o.length).bind (o[·]?)=some c) (hd:(iW (3:Int) o.length).bind (o[·]?)=some d) (e2:(!(TQ ([p.1]++kY++ [p.2]) o==([c]==[p.1] && [d]==[p.2])))=false)
theorem aJC{a b c d e f g:Prop}(x:a)(y:b)(z:c)(u:d)(v:e)(w:f)(s:g):a∧b∧c∧d∧e∧f∧g∧True:=⟨x,y,z,u,v,w,s,trivial⟩
section
variable {V:LV} {l:LW} {zs:List (Pos×Nat)} {p0 p1 B T:Nat}
noncomputable abbrev lwP(p0 p1 B T:Nat):LW:={ OA with pr:=some (.old [p0,p1] B T) }
theorem aMY{p:Nat×Nat}(K:GU V.o p)(ho:V.o.length≤1000):gd ((sv (DB.th.nt 0) dZ).s (mV V (lwP p.1 p.2 B T) (hV V [] []))) .next (mV V (lwP p.1 p.2 B T) (hV V [] [])):=by
 obtain⟨h0,h1,e1,_⟩:=K
 exact R.leaf [.nat p.1,.nat p.2,.nat p.1,.nat (zZ V.o p.1),.nat p.2,.nat (zZ V.o p.2),.n] (pU (uG p.1 p.2) (pU (by decide:3+1≤1000000) (pU (by decide:4+3≤1000000) (pU (vH p.1 p.2) (pU (by decide:7+1≤1000000) (pU (by decide:8+3≤1000000) (OK (⟨by decide,ho⟩:11≤1000∧V.o.length≤1000) (uG p.1 p.2) h0 (vH p.1 p.2) h1 e1))))))) ⋯
theorem aMZ{p:Nat×Nat}(K:GU V.o p)(ho:V.o.length≤1000):gd ((sv (DB.th.nt 1) dZ).s (mV V (lwP p.1 p.2 B T) (hV V [] []))) .next (mV V (lwP p.1 p.2 B T) (hV V [] [])):=by
 obtain⟨_,_,_,c,d,hc,hd,e2⟩:=K
 have i0:(iW (0:Int) V.o.length).bind (V.o[·]?)=some c∧(decide ((0:Int) < -(2 ^ 63:Int)) || decide ((0:Int)≥2 ^ 63))=false:=⟨hc,rfl⟩
 have i3:(iW (3:Int) V.o.length).bind (V.o[·]?)=some d∧(decide ((3:Int) < -(2 ^ 63:Int)) || decide ((3:Int)≥2 ^ 63))=false:=⟨hd,rfl⟩
 cases k:([c]==[p.1]) with
 | false=>
  rw[k,HH] at e2
  exact R.leaf [.nat p.1,.nat p.2,.nat c,.nat p.1,.n,.n] (pU (uG p.1 p.2) (pU (by decide:1+3≤1000000) (aJC (vH p.1 p.2) (by decide:4+1≤1000000) (⟨(by decide:5≤1000),ho⟩:5≤1000∧V.o.length≤1000) i0 (uG p.1 p.2) k (show(!(TQ ([p.1]++kY++ [p.2]) V.o==([c]==[p.1])))=false by rw[k];exact e2)))) ⋯
 | true=>
  rw[k,Bool.true_and] at e2
  exact R.leaf [.nat p.1,.nat p.2,.nat c,.nat p.1,.y,.nat d,.nat p.2,.n] (pU (uG p.1 p.2) (pU (by decide:1+3≤1000000) (pU (vH p.1 p.2) (pU (by decide:4+1≤1000000) (aJC (⟨(by decide:5≤1000),ho⟩:5≤1000∧V.o.length≤1000) i0 (uG p.1 p.2) k i3 (vH p.1 p.2) e2))))) ⋯
end
section
variable {D:WD} {C:Ctx} {V:LV} {T:Nat}
noncomputable abbrev lwR(pr:Option aA):LW:={ OA with pr:=pr }
theorem XU{es:List FE}(h:es.map (λe=>(e.a,e.b))=gH){e:FE}(he:e∈es):(e.a,e.b)∈gH:=h▸eX.mpr ⟨e,he,rfl⟩
noncomputable abbrev aJD:List ((Nat×Nat)×Nat):=[((98,97),6119589),((99,97),6120459),((99,98),6121329),((100,97),6122199),((100,98),6123069),((100,99),6123939)]
theorem lq8(O:iZ C dZ)(hh:C.hd=none)(hA:∀p∈gH,GU V.o p)(ho:V.o.length≤1000){Q:bU->Nat->aK->Prop}(q:∀T1 pr,0 < T1->Q .next T1 (mV V (lwR pr) (hV V [] []))):uR C (dst dZ.xs DB).s T (mV V OA (hV V [] [])) Q eE:=by
 show uR C (.For (eD dZ.xs (.v 11 6118284)).e (eD dZ.xs DB.y0).e (dst dZ.xs DB.th).b [] (dp 31830360)) T _ Q eE
 refine uR.IT hh ((nG dZ.xs DB.y0).4 _) ?_
 refine vA.tw (xs:=dZ.xs) (p:=6119476) (cs:=aJD) (by decide:6≤1000000) ?_
 intro es T6 K0
 have K:es.map (λe=>(e.a,e.b))=gH:=K0.1
 have h0:0 < T6:=bR (bR (by decide:0 < 6) (fO _ T)) K0.3
 refine⟨es.map FE.v,[],mV V OA (hV V [] []),λ_ st=>∃pr,st=mV V (lwR pr) (hV V [] []),⟨xY,⟨none,rfl⟩,λj st _ p hp=>nomatch hp⟩,λj x st hx h=>?_,λst h=>?_⟩
 ·obtain⟨pr,rfl⟩:=h
  rw[bX] at hx
  cases e1:es[j]? with
  | none=>rw[e1] at hx;exact bK hx
  | some e=>
   rw[e1] at hx
   obtain rfl:=aD hx
   have A:=hA _ (XU K (aN e1))
   intro _ _ _ _ _
   refine As.name (i:=11) (k:=.local) (by rw[O.1];rfl) (.inl rfl) ?_
   show fG C ((dst dZ.xs (DB.th.nt 0)).s::(dst dZ.xs (DB.th.nt 1)).s:: []) T6 (mV V (lwP e.a e.b e.B e.T) (hV V [] [])) _ eE
   refine @fG.gd _ _ _ _ _ _ _ _ O (aMY A ho) ?_
   refine @fG.gd _ _ _ _ _ _ _ _ O (aMZ A ho) ?_
   refine fG.nil ?_
   exact⟨none,⋯,some (.old [e.a,e.b] e.B e.T),⋯⟩
 ·refine cD h λpr dF=>?_;subst dF
  exact q T6 pr h0
noncomputable abbrev lwF(pr:Option aA):LW:={ lwR pr with fl:=some (.aO 25) }
theorem lq9(O:iZ C dZ)(W:Wld C.D)(hh:C.hd=none){n:Nat}(hn:C.n=n+1)(h1:1≤n)(ho:V.o.length≤4){pr:Option aA}{Q:bU->Nat->aK->Prop}(q:∀es T1,sA T T1 es->Q .next T1 (mV V (lwF pr) (hV V [] [.lst (mQ V.o es)]))):uR C (dst dZ.xs (fZ.nt 9)).s T (mV V (lwR pr) (hV V [] [])) Q eE:=by
 show uR C (.Assign [.Name (r7 dZ.xs 12) (dp 6221385)] (eD dZ.xs (.call (.v 24 6222550) (.cons (.v 8 6224140) .nil) [] .nil 6222557)).e (dp 6221405)) T _ Q eE
 refine uR.assign ((nG dZ.xs (.call (.v 24 6222550) (.cons (.v 8 6224140) .nil) [] .nil 6222557)).6 rfl _ _ _) ?_
 refine vA.call (oV (.cons (.v 8 6224140) .nil) .nil []) ((nG dZ.xs (.v 24 6222550)).5 rfl _ _ _ _) ?_
 refine Ev.name (i:=24) (b:=.ref 275) (by rw[O.1];rfl) rfl ⋯ ?_
 refine yI.cons ((nG dZ.xs (.v 8 6224140)).3 _ _) (Wp.fl ?_)
 refine Ev.name (i:=8) (b:=.str V.o) (by rw[O.1];rfl) rfl ⋯ ?_
 refine yI.nil ?_
 refine k6.cal (hd:=HN) W.15.1 ?_ hh
 rw[hn]
 intro _ _ _ _ _
 refine k6.frame (σ:=[]) (Q0:=λr T' H1=>∃es,sA T T' es∧r= .aO 0∧H1= [.lst (mQ V.o es)]) ⋯ (GG W h1 ho λes T' K=>⟨es,K,rfl,rfl⟩) ?_
 rintro r T' H1 ⟨es,K,rfl,rfl⟩
 refine⟨[0],⋯, ?_⟩
 show As C (.Name (r7 dZ.xs 12) (dp 6221385)) (.aO 25) ⟨(mV V (lwR pr) (hV V [] [])).m,hV V [] [.lst (mQ V.o es)]⟩ _ eE
 intro _ _ _ _ _
 exact As.name (i:=12) (k:=.local) (by rw[O.1];rfl) (.inl rfl) (q es T' K)
end
noncomputable def LZ(o:List Nat):List (List Nat):=(zF o).map λp=>told o p.1 p.2
noncomputable abbrev cT:E:=BA 10
noncomputable abbrev yT:Cx:=dZ.lI cT.sc
noncomputable abbrev mTd(u v:Option aA)(H:List Pc):aK:=⟨[none,u,v],H⟩
section
variable {V:LV} {acc:List (List Nat)} {fl:List aA} {u v pr:Option aA}
theorem td1{e:FE}(ha:acc.length≤1000000):gd (uS cT yT 26 (FE.f V.o e) (mTd u v (hV V [] [.lst fl,bL acc]))) () (mTd (some e.v) (some (.str (told V.o e.a e.b))) (hV V [] [.lst fl,bL (acc++ [told V.o e.a e.b])])):=by
 have ha:(acc.map aA.str).length≤1000000:=by rw[aG];exact ha
 rw[show bL (acc++ [told V.o e.a e.b])= .lst (acc.map .str++ [.str (told V.o e.a e.b)]) from congrArg Pc.lst cG]
 exact R.leaf [] (kU ha) ⋯
noncomputable abbrev lwT(pr:Option aA):LW:={ lwF pr with td:=some (.aO 26) }
theorem aM0{es:List FE}{T T1:Nat}(K:sA T T1 es):gd ((sv (fZ.nt 10) dZ).s (mV V (lwF pr) (hV V [] [.lst (mQ V.o es)]))) .next (mV V (lwT pr) (hV V [] [.lst (mQ V.o es),bL (LZ V.o)])):=by
 have ht:LZ V.o=(es.filter λe=>sV V.o e.a e.b).map λe=>told V.o e.a e.b:=by unfold LZ;rw[DR K.1,m2];rfl
 have hl:es.length=6:=(aG (as:=es) (λe=>(e.a,e.b))).symm.trans (congrArg List.length K.1)
 obtain⟨sg,g⟩:=vZ (β:=List Nat) (σ:=Option aA×Option aA) (need:=[(25,.lst (mQ V.o es))]) (k:=27) (inA:=FE.f V.o) (P:=λ_=>True) (turn:=uS cT yT 26) (mk:=λsg acc=>mTd sg.1 sg.2 (hV V [] [.lst (mQ V.o es),bL acc])) (nx:=λe=>(some e.v,some (.str (told V.o e.a e.b)))) (out:=λe=>[told V.o e.a e.b]) (λe sg acc _ ha=>td1 ha) (λe acc=>⟨⋯,⋯,sK rfl⟩) (λe=>aZ 1) (es.filter λe=>sV V.o e.a e.b) [] (none,none) (λ_ _=>trivial)
  (by rw[dJ,cZ];exact aB (dR _ _) (by rw[hl];decide))
 rw[LT,lJ,←ht] at g
 have G:=mH (w:=cT) (x:=dZ) (st:=mV V (lwF pr) (hV V [] [.lst (mQ V.o es)])) (s1:=mV V (lwF pr) (hV V [] [.lst (mQ V.o es)])) (s2:=mV V (lwF pr) (hV V [] [.lst (mQ V.o es)])) (s3:=mTd sg.1 sg.2 (hV V [] [.lst (mQ V.o es),bL (LZ V.o)])) (a:=.aO 25) (ys:=mQ V.o es) (need:=[(25,.lst (mQ V.o es))]) (R.leaf [] trivial ⋯) (λk q=>q) ⟨rfl,g⟩
 exact R.leaf [.cmp (.aO 26) (mV V (lwF pr) (hV V [] [.lst (mQ V.o es),bL (LZ V.o)]))] (kU G) ⋯
end
noncomputable def R47:List (cI×Nat×Fx):=[(47,1,sX XK)]
theorem aM1{D:WD}(O:Wld D):v5 D R47:=.cons (aI0 O) .nil
noncomputable abbrev aM2:Cx:=N5 RS 1 GT (sS [] R47 none)
noncomputable abbrev aJE(a:Option aA)(H:List Pc):aK:=⟨[some (.aO 26),a,none,some (.ref 47),some (.typ "ValueError"),some (.typ "str")],H⟩
noncomputable abbrev gRf:List Pc:=[.lst [],.gone,.OC "ValueError" aEA,.lst []]
noncomputable abbrev hF(f:Nat->Pc):List Pc:=(cE 28).map f
noncomputable abbrev aM3(f:Nat->Pc):lZ:=zN (.aO 26) (.aO 29) (hF f++ [.lst [],.gone])
theorem rf1{f:Nat->Pc}:((sv ZS aM2).k (aJE none (hF f))).good (.ok (.ret (.bool true)) (aJE (some (.aO 28)) (hF f++gRf))):=
 R.leaf [.lG (aM3 f)] (oU (jN (XK.mk (.aO 26) (.aO 29) (hF f++ [.lst [],.gone]))) (λ_=>rfl:([]:List aA).length=([]:List aA).length->all2 NF [] []=true)) ⋯
noncomputable abbrev zRf(f:Nat->Pc):lZ:={ as:=[.aO 26],H:=hF f,r:=.bool true,H':=hF f++gRf }
inductive XV:lZ->Prop
 | mk (f:Nat->Pc):XV (zRf f)
theorem aEH{D:WD}(O:Wld D):SR D 299 2 (sX XV):=okX λ{C m z Q X} hD hn hh Fc p q=>by
 obtain⟨f⟩:=p
 exact O.19.IV (k:=1) (O.envX .nil (aM1 O)) ⋯ hD hn hh Fc O.41 ⋯ rf1 q
noncomputable def aJF:List (cI×Nat×Fx):=[(299,2,sX XV)]
theorem aJG{D:WD}(O:Wld D):v5 D aJF:=.cons (aEH O) .nil
noncomputable abbrev nD:Cx:=Z9 aJF
noncomputable def atF(H:List Pc)(i:Nat):Pc:=H.getD i .gone
section
variable {V:LV} {fl:List aA} {os:List (List Nat)} {pr:Option aA} {B B2:Nat->List (List Nat)}
noncomputable abbrev zLa(V:LV)(os:List (List Nat))(B:Nat->List (List Nat)):lZ:=zLe .a ⟨V.X,V.ln,os⟩ B
noncomputable abbrev zLb(V:LV)(os:List (List Nat))(B:Nat->List (List Nat)):lZ:=zLe .b ⟨V.X,V.ln,os⟩ B
noncomputable abbrev zsC:List (Pos×Nat):=[(sY,27)]
noncomputable abbrev h28(V:LV)(fl:List aA)(os:List (List Nat))(G:List Pc):List Pc:=hV V zsC (.lst fl::bL os:: .pC pO::G)
noncomputable abbrev z4(B:Nat->List (List Nat)):List Nat:=jn [] (DO B abcd [])
theorem aM4(K:eI V.X)(L:GH os B)(e:z4 B=V.o):gd ((sv (fZ.nt 11) nD).s (mV V (lwT pr) (hV V [] [.lst fl,bL os]))) .next (mV V (lwT pr) (h28 V fl os gRf)):=
 R.leaf [.lG (zLa V os B),.n,.lG (zRf (atF (h28 V fl os []))),.s] (vC (jN (LeS.mk .a ⟨V.X,V.ln,os⟩ B K (.inl rfl) L)) (show(z4 B !=V.o)=false by rw[e];exact bne_self_eq_false _) (jN (XV.mk (atF (h28 V fl os []))))) ⋯
end
section
variable {V:LV} {fl:List aA} {os:List (List Nat)} {pr:Option aA} {B1 B2:Nat->List (List Nat)}
noncomputable abbrev tl1(os:List (List Nat)):List (List Nat):=iX os (some 1) none none
noncomputable abbrev gSl(os:List (List Nat)):Pc:=.lst (iX (os.map .str) (some 1) none none)
theorem aEI:gSl os=bL (tl1 os):=congrArg Pc.lst (w7 ..)
theorem aJH{F:lZ->Prop}{z:lZ}{H:List Pc}(h:F z)(e:H=z.H):F z∧z.as=z.as∧z.kn=z.kn∧z.ks=z.ks∧H=z.H:=⟨h,rfl,rfl,rfl,e⟩
noncomputable abbrev lwU(pr:Option aA)(B1 B2:Nat->List (List Nat)):LW:={ lwT pr with rs:=some (.str (z4 B1)),jo:=some (.str (z4 B2)) }
noncomputable abbrev h34(V:LV)(fl:List aA)(os:List (List Nat)):List Pc:=h28 V fl os (gRf++ [bL (tl1 os),bL [V.p,V.q]])
theorem aM5(K:eI V.X)(hz:os.length≤1000)(L1:GH (tl1 os) B1)(L2:GH [V.p,V.q] B2):gd ((sv (fZ.nt 12) nD).s (mV V (lwT pr) (h28 V fl os gRf))) .next (mV V (lwU pr B1 B2) (h34 V fl os)):=
 R.leaf [.lG (zLb V (tl1 os) B1),.lG (zLb V [V.p,V.q] B2)] (vC (show(os.map aA.str).length≤1000000 by rw[aG];exact aB hz (by decide)) (aJH (H:=jO V.X [] [] V.ln++ [gSl os,.iG 277 [(sY,12)],.pC pO]) (LeS.mk .b ⟨V.X,V.ln,tl1 os⟩ B1 K (.inr rfl) L1) (congrArg (λp=>jO V.X [] [] V.ln++ [p,.iG 277 [(sY,12)],.pC pO]) aEI)) (jN (LeS.mk .b ⟨V.X,V.ln,[V.p,V.q]⟩ B2 K (.inr rfl) L2))) ⋯
end
noncomputable abbrev XW:E:=.cons (.v 8 6348556) (.cons (.v 12 6349571) (.cons (.v 14 6350585) (.cons (.v 9 6351454) (.cons (.v 10 6352181) (.cons (.v 15 6353197) (.cons (.tup (.cons (.v 16 6354499) (.cons (.bin .Add (.v 16 6355224) (.bin .Mod (.bin .FloorDiv (.item (.v 1 6356098) (.k (.int 1) 6357252) 6356101) (.k (.int 4096) 6358125) 6356109) (.bin .Sub (.k (.int 25) 6359283) (.v 16 6360009) 6359289) 6356122) 6355258) .nil)) 6354395) .nil))))))
section
variable {C:Ctx} {V:LV} {fl:List aA} {os:List (List Nat)} {pr:Option aA} {B1 B2:Nat->List (List Nat)} {T T0 T1:Nat} {es:List FE}
noncomputable abbrev XX(V:LV):Nat:=V.n0 / 13824 % 25
noncomputable abbrev hiV(V:LV):Nat:=XX V+V.n1 / 4096 % (25 - XX V)
noncomputable abbrev lwX(V:LV)(pr:Option aA)(B1 B2:Nat->List (List Nat)):LW:={ lwU pr B1 B2 with lo:=some (.int (XX V)) }
theorem aM6:gd ((sv (fZ.nt 13) nD).s (mV V (lwU pr B1 B2) (h34 V fl os))) .next (mV V (lwX V pr B1 B2) (h34 V fl os)):=
 R.leaf [] (kU (dv 13824 rfl)) ⋯
theorem aJI(n:Nat):(25:Int) - ((n % 25:Nat):Int)=((25 - n % 25:Nat):Int)∧0 < 25 - n % 25:=by
 have h:=jQ n (by decide:25 > 0)
 exact⟨(Int.ofNat_sub (dY h)).symm,Nat.sub_pos_of_lt h⟩
noncomputable abbrev aV(V:LV)(B1 B2:Nat->List (List Nat)):JA:=⟨V.o,z4 B1,V.p,V.q,z4 B2,XX V,hiV V⟩
theorem aJJ:gd ((ev XW nD).a (mV V (lwX V pr B1 B2) (h34 V fl os))) [.str V.o,.aO 25,.str (z4 B1),.str V.p,.str V.q,.str (z4 B2),.tup [.int (XX V),.int (hiV V)]] (mV V (lwX V pr B1 B2) (h34 V fl os)):=
 R.leaf [.s,.nat (25 - XX V)] (oU (dv 4096 rfl) (aJI (V.n0 / 13824))) ⋯
end
noncomputable abbrev zsD:List (Pos×Nat):=[(zB,34)]
noncomputable abbrev aJK(V:LV)(fl:List aA)(os:List (List Nat)):List Pc:=.iG 265 zsL:: .iG 277 zsC:: .iG 284 zsD::(h34 V fl os).drop 3++ [.pC uB]
section
variable {C:Ctx} {V:LV} {fl:List aA} {os:List (List Nat)} {pr:Option aA} {B1 B2:Nat->List (List Nat)} {T T0 T1:Nat} {es:List FE}
theorem aM7(O:iZ C nD)(W:Wld C.D)(hh:C.hd=none){n:Nat}(hn:C.n=n+1)(h4:4≤n){rs ss:List (List Nat)}(g1:∀fls,gd ((sv (jM.nt 2) dK).s (HC (aV V B1 B2) fls 4)) .next (mJ (aV V B1 B2) (some (.aO 3)) (wW 100) (zH fls rs ss)))(hR:∀r∈rs,DQ r)(J:sD rs (rs.map hO) ((rs.map hO).map (rJ (rs.map hO))) (aV V B1 B2))(K:sA T0 T1 es)(h0:0 < T0)(h2:T1≤T){Q:aA->Nat->List Pc->Prop}(q:Q (.bool true) T (aJK V (mQ V.o es) os)):
  uR C (dst nD.xs (fZ.nt 14)).s T (mV V (lwX V pr B1 B2) (h34 V (mQ V.o es) os)) (λfl T' bW=>Q (kD fl) T' bW.H) eE:=by
 show uR C (.Return (some (eD nD.xs (.call (.v 27 6346822) XW [] .nil 6346908)).e) (dp 6345900)) T _ _ eE
 refine uR.ret ?_
 refine vA.call (oV XW .nil []) ((nG nD.xs (.v 27 6346822)).5 rfl _ _ _ _) ?_
 refine Ev.name (i:=27) (b:=.ref 292) (by rw[O.1];rfl) rfl ⋯ ?_
 refine Wp.fl ?_
 refine Wp.mono ((gA XW C nD O).3 (dp 6346908) (aJJ.post (Q:=λb st1=>b= [.str V.o,.aO 25,.str (z4 B1),.str V.p,.str V.q,.str (z4 B2),.tup [.int (XX V),.int (hiV V)]]∧st1=mV V (lwX V pr B1 B2) (h34 V (mQ V.o es) os)) (X:=eE) ⟨rfl,rfl⟩)).1 ?_ (λ_ _ _ _ e=>e)
 rintro _ _ ⟨rfl,rfl⟩
 refine k6.cal (hd:=HN) W.18.1 ?_ hh
 rw[hn]
 intro _ _ _ _ _
 refine k6.frame (σ:=[25,2]) (Q0:=λr T' H1=>T'=T∧r= .bool true∧H1=hU (mQ V.o es) rs ss (rs.map hO) ((rs.map hO).map (rJ (rs.map hO)))) ⋯ (N4 W h4 g1 hR J K h0 h2 ⟨rfl,rfl,rfl⟩) ?_
 rintro r T' H1 ⟨rfl,rfl,rfl⟩
 exact⟨[5],⋯,q⟩
end
theorem SW{N:Nat}{lt lt':Nat->Bool}(h:∀j,j < N->lt j=lt' j)(k:Nat):∀lo hi,hi≤N->y4 lt k lo hi=y4 lt' k lo hi:=by
 induction k with
 | zero=>exactλ_ _ _=>rfl
 | succ k ih=>
  intro lo hi h3
  rw[LH,LH]
  cases d:decide ((lo:Int) < hi) with
  | false=>rfl
  | true=>
   have m:=y5 (lA.mp (of_decide_eq_true d)) h3
   rw[h _ m,ih _ _ h3,ih _ _ (dY m)]
noncomputable def aM8(c lo hi:Int):Int:=if hi < (if lo > c then lo else c) then hi else(if lo > c then lo else c)
theorem XY:((cE 25).all λc=>(cE 25).all λhi=>(cE (hi+1)).all λlo=>!(((y4 (λj=>decide (j < c)) hi lo hi:Nat):Int) !=aM8 c lo hi))=true:=by decide +kernel
noncomputable def aJL(o:List Nat)(n:Nat):Bool:=(cE 24).all λj=>(ltT c5 (pre o n) j==decide (j < GE c5 n o)) && (ltP c5 n (pre o n) j==decide (j < GE c5 n o))
theorem zL:c5.length=24:=by decide +kernel
theorem aEJ{o:List Nat}{n lo hi:Nat}(h:aJL o n=true)(hl:lo≤hi)(hh:hi≤24):pH c5 o lo hi n:=by
 have g:=λj (hj:j < 24)=>bN.mp h j (gP.mpr hj)
 have hc:GE c5 n o < 25:=jA (aB DK (cC zL))
 have d:(((y4 (λj=>decide (j < GE c5 n o)) hi lo hi:Nat):Int) !=pP c5 n o lo hi)=false:=not_true (bN.mp (bN.mp (bN.mp XY _ (gP.mpr hc)) hi (gP.mpr (jA hh))) lo (gP.mpr (jA hl)))
 exact⟨SW (λj hj=>eq_of_beq (aP (g j hj))) hi lo hi hh▸d,SW (λj hj=>eq_of_beq (aQ (g j hj))) hi lo hi hh▸d⟩
theorem XZ:(c5.all λo=>(cE 5).all λn=>aJL o n)=true:=by decide +kernel
theorem X0{o:List Nat}{hi:Nat}(ho:o∈c5)(hh:hi≤24):kC c5 o hi:=by
 have l:∀x∈c5,x.length≤1000:=by
  have:(c5.all λx=>eB x.length 1000)=true:=by decide +kernel
  exactλx m=>aH (bN.mp this x m)
 exact⟨by rw[zL];decide,l,l o ho,by rw[zL];exact hh⟩
theorem aJM{o:List Nat}{lo hi:Nat}(ho:o∈c5)(hl:lo≤hi)(hh:hi≤24):∀n < 5,pH c5 o lo hi n:=λn hn=>aEJ (bN.mp (bN.mp XZ o ho) n (gP.mpr hn)) hl hh
noncomputable def f7:List (List Nat):=[[100,99,98,97],[99,100,98,97],[99,98,100,97],[99,98,97,100],[100,98,99,97],[98,100,99,97],[98,99,100,97],[98,99,97,100],[100,98,97,99],[98,100,97,99],[98,97,100,99],[98,97,99,100],[100,99,97,98],[99,100,97,98],[99,97,100,98],[99,97,98,100],[100,97,99,98],[97,100,99,98],[97,99,100,98],[97,99,98,100],[100,97,98,99],[97,100,98,99],[97,98,100,99],[97,98,99,100]]
noncomputable def TU:List Nat:=[63,31,15,7,59,43,11,3,57,41,33,1,62,30,22,6,60,52,20,4,56,48,32,0]
noncomputable def HE:List Nat:=[1,3,7,15,17,49,119,255,273,817,1841,4095,4097,12291,28675,61455,69633,200705,487427,1044495,1118481,3346705,7542577,16777215]
noncomputable def JS:List (List Nat×List Bool×Nat):=[([97,98,99,100],[false,false,false,false,false,false],16777215),([97,98,100,99],[false,false,false,false,false,true],7542577),([97,99,98,100],[false,false,true,false,false,false],1044495),([97,99,100,98],[false,false,true,false,true,false],487427),([97,100,98,99],[false,false,false,false,true,true],3346705),([97,100,99,98],[false,false,true,false,true,true],200705),([98,97,99,100],[true,false,false,false,false,false],4095),([98,97,100,99],[true,false,false,false,false,true],1841),([98,99,97,100],[true,true,false,false,false,false],255),([98,99,100,97],[true,true,false,true,false,false],119),([98,100,97,99],[true,false,false,true,false,true],817),([98,100,99,97],[true,true,false,true,false,true],49),([99,97,98,100],[false,true,true,false,false,false],61455),([99,97,100,98],[false,true,true,false,true,false],28675),([99,98,97,100],[true,true,true,false,false,false],15),([99,98,100,97],[true,true,true,true,false,false],7),([99,100,97,98],[false,true,true,true,true,false],12291),([99,100,98,97],[true,true,true,true,true,false],3),([100,97,98,99],[false,false,false,true,true,true],1118481),([100,97,99,98],[false,false,true,true,true,true],69633),([100,98,97,99],[true,false,false,true,true,true],273),([100,98,99,97],[true,true,false,true,true,true],17),([100,99,97,98],[false,true,true,true,true,true],4097),([100,99,98,97],[true,true,true,true,true,true],1)]
theorem GV:kN=f7:=by decide +kernel
theorem aEK:f7.map hO=TU:=by decide +kernel
theorem aEL:TU.map (rJ TU)=HE:=by decide +kernel
noncomputable def OB(tb:sU)(c:Nat):List (List Nat):=(DN tb 100 [[c]] []).getD []
noncomputable def leB(tb:sU):Bool:=abcd.all λc=>(DN tb 100 [[c]] []).isSome
noncomputable def leT(tb:sU):List Nat:=z4 (OB tb)
theorem aEM:∀p∈gH,sZ (w9 [p.2]):=λp m=>by
 have:(gH.all λp=>okH (w9 [p.2]))=true:=by decide +kernel
 exact⟨aDS (bN.mp this p m),_,_,rfl⟩
theorem X1:∀c∈abcd,sZ [c]:=λc m=>by
 have:(abcd.all λc=>okH [c])=true:=by decide +kernel
 exact⟨aDS (bN.mp this c m),_,_,rfl⟩
theorem aJN{os:List (List Nat)}:∀p∈vI gH os,sZ p.2:=λp m=>by
 unfold vI XB at m
 refine bS (CF.mp m) λq hq m=>?_
 refine bS (CF.mp m) λo _ m=>?_
 cases e:DL q.1 q.2 o with
 | false=>rw[e] at m;cases m
 | true=>rw[e] at m;obtain rfl:=aU.mp m;exact aEM q hq
theorem aEN{os:List (List Nat)}(ho:∀o∈os,o.length≤1000)(hz:os.length≤100)(h:leB (vI gH os)=true):GH os (OB (vI gH os)):=⟨ho,hz,aJN,λc m=>⟨X1 c m,by
 have:=bN.mp h c m
 unfold OB
 cases e:DN (vI gH os) 100 [[c]] [] with
 | none=>rw[e] at this;exact eV this
 | some x=>rfl⟩⟩
noncomputable def SX(o:List Nat):List Bool:=gH.map λp=>DL p.1 p.2 o
noncomputable def tbH(hs:List (List Bool)):sU:=prE.flatMap λe=>hs.flatMap λh=>cond (h.getD e.1 false) [([e.2.1],w9 [e.2.2])] []
theorem X2(os:List (List Nat)):vI gH os=tbH (os.map SX):=by
 unfold vI tbH gH prE
 simp only [f8,rR,List.flatMap_map]
 rfl
theorem SY:(c5.map λo=>(o,SX o,mC HE (jI f7 o)))=JS:=by decide +kernel
noncomputable def aAC(a b:List Nat×List Bool×Nat):Bool:=leB (tbH [a.2.1,b.2.1]) && Option.rec false (λe=>GK a.2.2 b.2.2 e.2.2) (JS.find? λe=>e.1==leT (tbH [a.2.1,b.2.1]))
theorem SZ:(JS.all λa=>JS.all λb=>aAC a b)=true:=by decide +kernel
noncomputable def X3(o:List Nat)(i:Int):Option Nat:=(iW i o.length).bind (o[·]?)
noncomputable def aEO(o:List Nat)(p:Nat×Nat):Bool:=(jR o [p.1] 0 o.length==some (zZ o p.1)) && (jR o [p.2] 0 o.length==some (zZ o p.2)) && (DL p.1 p.2 o==decide ((zZ o p.1:Int) < zZ o p.2)) &&
 Option.rec false (λc=>Option.rec false (λd=>TQ ([p.1]++kY++ [p.2]) o==([c]==[p.1] && [d]==[p.2])) (X3 o 3)) (X3 o 0)
theorem aJO{o:List Nat}{p:Nat×Nat}(h:aEO o p=true):GU o p:=by
 unfold aEO at h
 have h3:=aQ h;have h:=aP h;have h2:=aQ h;have h:=aP h
 cases e1:X3 o 0 with
 | none=>rw[e1] at h3;exact eV h3
 | some c=>
  cases e2:X3 o 3 with
  | none=>rw[e1,e2] at h3;exact eV h3
  | some d=>
   rw[e1,e2] at h3
   exact⟨eq_of_beq (aP h),eq_of_beq (aQ h),by rw[h2];rfl,c,d,e1,e2,by rw[show(TQ ([p.1]++kY++ [p.2]) o==([c]==[p.1] && [d]==[p.2]))=true from h3];rfl⟩
noncomputable def S0(o:List Nat)(p:Nat×Nat):Bool:=dT (XJ f7 o p) 24 && dT (jI f7 (told o p.1 p.2)) 24 && (vJ HE (jI f7 o) (XJ f7 o p)==zI TU (jI f7 (told o p.1 p.2)) (jI f7 o)) && eB (told o p.1 p.2).length 4 && (zF (told o p.1 p.2)==[p]) && (told (told o p.1 p.2) p.1 p.2==told o p.1 p.2)
theorem aJP:∀p∈gH,(c8 [p.1,p.2]==c8 [p.2,p.1])=false:=by decide +kernel
theorem aEP{o:List Nat}{p:Nat×Nat}(hp:p∈gH)(h:S0 o p=true):JQ f7 TU HE o p:=by
 unfold S0 at h
 have h6:=aQ h;have h:=aP h;have h5:=aQ h;have h:=aP h;have h4:=aQ h;have h:=aP h;have h3:=aQ h;have h:=aP h
 refine⟨aJP p hp,t8 (aP h),t8 (aQ h),eq_of_beq h3,aH h4, ?_⟩
 rw[eq_of_beq h5]
 show [aA.tup [.str [p.1,p.2],.str (told (told o p.1 p.2) p.1 p.2)]]=_
 rw[eq_of_beq h6]
noncomputable abbrev tbT(o:List Nat):sU:=vI gH (LZ o)
noncomputable abbrev tbS(o:List Nat):sU:=vI gH (tl1 (LZ o))
noncomputable def aJQ(o:List Nat):Bool:=eB o.length 4 && dT (jI f7 o) 24 && gH.all (aEO o) && (zF o).all (S0 o) && leB (tbT o) && (leT (tbT o)==o) && leB (tbS o) && dT (jI f7 (leT (tbS o))) 24 &&
 Option.rec true (λp=>!(XI HE (jI f7 (leT (tbS o))) (XJ f7 o p))) (zF o).head? && (LZ o).all λt=>eB t.length 1000
theorem X4:(c5.all aJQ)=true:=by decide +kernel
inductive aJR(o:List Nat):Prop where
 | mk (l:o.length≤4) (i:jI f7 o < 24) (a:∀p∈gH,GU o p) (f:∀p∈zF o,JQ f7 TU HE o p) (l1:GH (LZ o) (OB (tbT o))) (e1:z4 (OB (tbT o))=o) (l2:GH (tl1 (LZ o)) (OB (tbS o))) (i2:jI f7 (z4 (OB (tbS o))) < 24) (b:∀p,(zF o).head? =some p->XI HE (jI f7 (z4 (OB (tbS o)))) (XJ f7 o p)=false)
theorem JU(o:List Nat):(LZ o).length≤6:=by
 unfold LZ zF
 rw[aG]
 exact dR _ _
theorem X5{α:Type}{l:List α}{a b c:Option Int}{x:α}(h:x∈iX l a b c):x∈l:=by
 unfold iX at h
 refine bS (pA.mp h) λi _ e=>?_
 exact aN e
theorem zO{o:List Nat}(hm:o∈c5):aJR o:=by
 have h:=bN.mp X4 o hm
 unfold aJQ at h
 have h10:=aQ h;have h:=aP h;have h9:=aQ h;have h:=aP h;have h8:=aQ h;have h:=aP h;have h7:=aQ h;have h:=aP h;have h6:=aQ h;have h:=aP h;have h5:=aQ h;have h:=aP h;have h4:=aQ h;have h:=aP h;have h3:=aQ h;have h:=aP h
 have ht:∀t∈LZ o,t.length≤1000:=λt m=>aH (bN.mp h10 t m)
 refine⟨aH (aP h),t8 (aQ h),λp m=>aJO (bN.mp h3 p m),λp m=>aEP (tI.mp m).1 (bN.mp h4 p m),aEN ht (aB (JU o) (by decide)) h5,eq_of_beq h6,
  aEN (λt m=>ht t (X5 m)) (aB (g9 ..) (aB (JU o) (by decide))) h7,t8 h8,λp e=>?_⟩
 rw[e] at h9
 exact not_true h9
inductive aEQ(p q:List Nat):Prop where
 | mk (l:GH [p,q] (OB (vI gH [p,q]))) (i:jI f7 (z4 (OB (vI gH [p,q]))) < 24) (f:GK (mC HE (jI f7 p)) (mC HE (jI f7 q)) (mC HE (jI f7 (z4 (OB (vI gH [p,q])))))=true)
theorem L9{o:List Nat}(h:o∈c5):(o,SX o,mC HE (jI f7 o))∈JS:=SY▸eX.mpr ⟨o,h,rfl⟩
theorem aER{e:List Nat×List Bool×Nat}(h:e∈JS):e.1∈c5∧e.2.2=mC HE (jI f7 e.1):=by
 rw[←SY] at h
 refine bS (eX.mp h) λo hm dE=>?_;subst dE
 exact⟨hm,rfl⟩
theorem S1{β:Type}{l:List (List Nat×β)}{t:List Nat}{x:List Nat×β}(h:(l.find? λe=>e.1==t)=some x):x∈l∧x.1=t:=⟨List.mem_of_find?_eq_some h,eq_of_beq (List.find?_some (p:=λe:List Nat×β=>e.1==t) h)⟩
theorem S2{p q:List Nat}(hp:p∈c5)(hq:q∈c5):aEQ p q:=by
 have h:=bN.mp (bN.mp SZ _ (L9 hp)) _ (L9 hq)
 unfold aAC at h
 dsimp only at h
 rw[show tbH [SX p,SX q]=vI gH [p,q] from(X2 [p,q]).symm] at h
 cases e:JS.find? λe=>e.1==leT (vI gH [p,q]) with
 | none=>rw[e] at h;exact eV (aQ h)
 | some x=>
  rw[e] at h
  refine d5 (S1 e) λm0 d=>?_
  refine d5 (aER m0) λm k=>?_
  unfold leT at d
  rw[d] at m k
  have f:=aQ h
  dsimp only at f
  rw[k] at f
  refine⟨aEN (λo m=>?_) (by exact(by decide:2≤100)) (aP h),(zO m).2,f⟩
  refine nI m (λe0=>?_) λm=>?_
  ·subst e0;exact aB (zO hp).1 (by decide)
  ·obtain rfl:=aU.mp m;exact aB (zO hq).1 (by decide)
noncomputable abbrev B1o(o:List Nat):Nat->List (List Nat):=OB (tbS o)
noncomputable abbrev B2o(p q:List Nat):Nat->List (List Nat):=OB (vI gH [p,q])
theorem aJS{o p q:List Nat}(ho:o∈c5)(hp:p∈c5)(hq:q∈c5)(a:JA)(h1:a.o=o)(h2:a.rest=z4 (B1o o))(h3:a.one=p)(h4:a.other=q)(h5:a.joined=z4 (B2o p q)):sD f7 TU HE a:=by
 have A:=zO ho
 have P:=S2 hp hq
 have ip:=(zO hp).2
 have iq:=(zO hq).2
 have l1:f7.length=24:=by decide +kernel
 have l2:TU.length=24:=by decide +kernel
 have l3:HE.length=24:=by decide +kernel
 refine⟨l1,l2,l3, ?_, ?_, ?_, ?_, ?_, ?_, ?_, ?_, ?_⟩
 ·rw[h1];exact A.1
 ·rw[h1];exact A.2
 ·rw[h2];exact A.8
 ·rw[h3];exact ip
 ·rw[h4];exact iq
 ·rw[h5];exact P.2
 ·rw[h1];exact A.4
 ·rw[h1,h2];exact A.9
 ·rw[h3,h4,h5];exact P.3
theorem aES{o p q r j:List Nat}{lo hi:Nat}(ho:o∈c5)(hp:p∈c5)(hq:q∈c5)(h2:r=z4 (B1o o))(h5:j=z4 (B2o p q)):sD f7 TU HE ⟨o,r,p,q,j,lo,hi⟩:=aJS ho hp hq _ rfl h2 rfl rfl h5
theorem aET{a:JA}(J:sD f7 TU HE a):sD f7 (f7.map hO) ((f7.map hO).map (rJ (f7.map hO))) a:=by
 rw[aEK,aEL]
 exact J
noncomputable abbrev TV(c:Nat):Nat:=cond (c==10) 1 0
theorem sE(c:Nat)(r:List Nat)(ln:Nat):nC (c::r) ln=ln+TV c:=by
 show cond ((c==10) && true) (ln+1) ln=_
 unfold TV
 cases c==10 <;> rfl
theorem uI(c:Nat)(w:List Nat):(c::w).count 10=TV c+w.count 10:=by
 rw[List.count_cons]
 unfold TV
 cases c==10 <;> exact cQ _ _
theorem aEU{r:List Nat}:∀(w acc:List Nat) (ln:Nat),(∀c∈w,(c==34)=false∧(c==92)=false)->zD (w++34::r) acc ln=(acc++w,r,ln+w.count 10):=by
 intro w
 induction w with
 | nil=>
  intro acc ln _
  rw[lJ,bQ,vG,sE]
  rfl
 | cons c w ih=>
  intro acc ln h
  refine d5 (h c (.head _)) λh1 h2=>?_
  rw[CB,vG,h1,h2,sE,cond_false,cond_false,ih _ _ λd m=>h d (.tail _ m),uI,c4,b9]
  rfl
theorem aEV{st s:Nat}{r:List Nat}(hs:zY s=true):∀(w acc:List Nat) (ln:Nat),(∀c∈w,DD st c=true∨(zY c=false∧(c==92)=false))->rI (w.flatMap (iK st)++s::r) acc ln=(acc++w,r,ln+w.count 10+TV s):=by
 intro w
 induction w with
 | nil=>
  intro acc ln _
  rw[rR,lJ,bQ,qZ,hs,sE]
  rfl
 | cons c w ih=>
  intro acc ln h
  have ih:=λacc ln=>ih acc ln λd m=>h d (.tail _ m)
  have done:∀x:Nat×List Nat,x=x->((acc++ [c]++w,r,ln+TV c+w.count 10+TV s):List Nat×List Nat×Nat)=(acc++c::w,r,ln+(c::w).count 10+TV s):=λ_ _=>by rw[c4,uI,b9 ln];rfl
  rw[f8]
  cases e:DD st c with
  | true=>
   rw[show iK st c= [92,c] by unfold iK;rw[e];rfl]
   show rI (92::c::(w.flatMap (iK st)++s::r)) acc ln=_
   rw[qZ]
   show rI (w.flatMap (iK st)++s::r) (acc++ [c]) (nC (c::(w.flatMap (iK st)++s::r)) (nC [92] ln))=_
   rw[ih,sE,sE]
   exact done (0,[]) rfl
  | false=>
   refine d5 ((h c (.head _)).resolve_left (by rw[e];exact bH)) λh1 h2=>?_
   rw[show iK st c= [c] by unfold iK;rw[e];rfl]
   show rI (c::(w.flatMap (iK st)++s::r)) acc ln=_
   rw[qZ,h1,h2,cond_false,cond_false,ih,sE]
   exact done (0,[]) rfl
theorem X6(l:List (List Nat)):jn [] l=l.flatMap id:=by
 induction l with
 | nil=>rfl
 | cons a r ih=>
  cases r with
  | nil=>exact(bQ a).symm
  | cons b r=>
   show a++ []++jn [] (b::r)=a++(b::r).flatMap id
   rw[ih,bQ]
theorem GW(st:Nat)(w:List Nat):JD st w=w.flatMap (iK st):=by
 unfold JD
 rw[X6,List.flatMap_map]
 rfl
theorem X7(st:Nat)(w:List Nat):(w.flatMap (iK st)).count 10=w.count 10:=by
 induction w with
 | nil=>rfl
 | cons c w ih=>
  rw[f8,i8,ih,uI]
  unfold iK
  cases DD st c with
  | true=>rw[cond_true,uI,uI];exact congrArg (· +w.count 10) (cZ _)
  | false=>rw[cond_false,uI];rfl
noncomputable def OT(c:Nat):Bool:=!(c==34) && !(c==92) && (!(zY c) || (jR [32,10] [c] 0 2).isSome)
theorem X8{c:Nat}(h:OT c=true):(c==34)=false∧(c==92)=false∧(zY c=false∨(jR [32,10] [c] 0 2).isSome=true):=by
 unfold OT at h
 refine⟨not_true (aP (aP h)),not_true (aQ (aP h)), ?_⟩
 cases eA.mp (aQ h) with
 | inl h=>exact .inl (not_true h)
 | inr h=>exact .inr h
inductive aM9(n:Nat)(o rest:List Nat)(ln:Nat):Prop
 | mk (s':List Nat) (ln':Nat) (e1:qC (vY n o++rest) ln=(d6 n o,s',ln')) (e2:s'.length≤rest.length+1) (e3:qC s' ln'=qC rest (ln+(vY n o).count 10))
theorem aJT(st:Nat)(h:st < 12):zY (nM st)=true:=by
 have:∀j:Fin 12,zY (nM j.1)=true:=by decide +kernel
 exact this ⟨st,h⟩
theorem zP{n:Nat}{o rest:List Nat}{ln:Nat}(hg:∀c∈d6 n o,OT c=true)(hn:∃a r,d6 n o=a::r):aM9 n o rest ln:=by
 have hs:=aJT (lN n) (jQ _ (by decide))
 cases e:(((lN n % 3:Nat):Int) !=0) with
 | false=>
  have hp:vY n o= [34]++d6 n o++ [34]++ [nM (lN n)]:=by unfold vY;rw[e];rfl
  refine⟨nM (lN n)::rest,ln+(d6 n o).count 10, ?_,aZ _, ?_⟩
  ·rw[hp,show([34]++d6 n o++ [34]++ [nM (lN n)])++rest=34::(d6 n o++34::(nM (lN n)::rest)) by simp only [c4,CB,lJ],zE]
   show zD (d6 n o++34::(nM (lN n)::rest)) [] (nC [34] ln)=_
   rw[aEU _ _ _ λc m=>⟨(X8 (hg c m)).1,(X8 (hg c m)).2.1⟩]
   rfl
  ·rw[zE,hs,cond_true,sE]
   rw[hp,i8,i8,i8,uI (nM (lN n)),b9]
   rw[show List.count 10 [34]=0 from rfl,cZ,Nat.add_zero]
   rfl
 | true=>
  have hp:vY n o=JD (lN n) (d6 n o)++ [nM (lN n)]:=by unfold vY;rw[e];rfl
  refine kG hn λa w hw=>?_
  have key:∀c∈d6 n o,DD (lN n) c=true∨(zY c=false∧(c==92)=false):=λc m=>by
   refine u3 (X8 (hg c m)) λg1 g2 g3=>?_
   cases g3 with
   | inl g=>exact .inr ⟨g,g2⟩
   | inr g=>exact .inl (by unfold DD;rw[g,Bool.or_true])
  refine⟨rest,ln+(d6 n o).count 10+TV (nM (lN n)), ?_,eW _, ?_⟩
  ·rw[hp,GW,c4]
   rw[hw] at key hg ⊢
   rw[f8,uI]
   have kw:=λc m=>key c (.tail a m)
   have B:=λln=>aEV (r:=rest) hs w [a] ln kw
   cases ea:DD (lN n) a with
   | true=>
    rw[show iK (lN n) a= [92,a] by unfold iK;rw[ea];rfl]
    show qC (92::a::(w.flatMap (iK (lN n))++nM (lN n)::rest)) ln=_
    rw[zE]
    show rI (w.flatMap (iK (lN n))++nM (lN n)::rest) [a] (nC (a::(w.flatMap (iK (lN n))++nM (lN n)::rest)) (nC [92] ln))=_
    rw[B,sE,sE,show ln+TV 92=ln from rfl,b9 ln]
    rfl
   | false=>
    refine d5 ((key a (.head _)).resolve_left (by rw[ea];exact bH)) λh1 h2=>?_
    rw[show iK (lN n) a= [a] by unfold iK;rw[ea];rfl]
    show qC (a::(w.flatMap (iK (lN n))++nM (lN n)::rest)) ln=_
    rw[zE,h1,(X8 (hg a (.head _))).1,h2,cond_false,cond_false,cond_false,B,sE,b9 ln]
    rfl
  ·rw[hp,GW,i8,X7,uI,b9]
   rfl
noncomputable def X9(i r:Nat)(b:Nat)(s:List Nat×List Nat):List Nat×List Nat:=(s.1.eraseIdx i,s.2++ [cond (((b:Nat):Int) !=0) (up1 (s.1.getD i 0)) (s.1.getD i 0)])
noncomputable def aJU(i j h m b0 b1 b2 b3:Nat):List Nat:=(X9 m 1 b3 (X9 h 2 b2 (X9 j 3 b1 (X9 i 4 b0 ([97,98,99,100],[]))))).2
theorem aEW(n k:Nat):uH n k=aJU (n % 4) (n / 4 % 3) (n / 4 / 3 % 2) (n / 4 / 3 / 2 % 1) (k % 2) (k / 2 % 2) (k / 2 / 2 % 2) (k / 2 / 2 / 2 % 2):=rfl
noncomputable def z5(z:Nat):Nat:=cond (z==10 || z==58 || z==46) z 97
noncomputable def aJV(o:List Nat):Bool:=c5.contains (tU o) && asc o && o.all λc=>OT c && z5 c==97
noncomputable def allR(n:Nat)(p:Nat->Bool):Bool:=(cE n).all p
theorem v6{n:Nat}{p:Nat->Bool}(h:allR n p=true)(hn:0 < n)(i:Nat):p (i % n)=true:=bN.mp h _ (gP.mpr (jQ _ hn))
theorem YA:(allR 4 λi=>allR 3 λj=>allR 2 λh=>allR 1 λm=>allR 2 λb0=>allR 2 λb1=>allR 2 λb2=>allR 2 λb3=>aJV (aJU i j h m b0 b1 b2 b3))=true:=by decide +kernel
theorem JV(n k:Nat):aJV (uH n k)=true:=by
 rw[aEW]
 have h:=v6 YA (by decide) n
 have h:=v6 h (by decide) (n / 4)
 have h:=v6 h (by decide) (n / 4 / 3)
 have h:=v6 h (by decide) (n / 4 / 3 / 2)
 have h:=v6 h (by decide) k
 have h:=v6 h (by decide) (k / 2)
 have h:=v6 h (by decide) (k / 2 / 2)
 exact v6 h (by decide) (k / 2 / 2 / 2)
theorem DU(n k:Nat):tU (uH n k)∈c5:=List.contains_iff_mem.mp (aP (aP (JV n k)))
theorem YB(n k:Nat):asc (uH n k)=true:=aQ (aP (JV n k))
theorem xK(n k:Nat):∀c∈uH n k,OT c=true∧z5 c=97:=λc m=>by
 have:=bN.mp (aQ (JV n k)) c m
 exact⟨aP this,eq_of_beq (aQ this)⟩
theorem S3(n:Nat)(o:List Nat):d6 n o=d6 (n % 4) o:=by unfold d6;rw[Nat.mod_mod]
theorem zQ{n:Nat}{o:List Nat}(h:∀c∈o,OT c=true):∀c∈d6 n o,OT c=true:=λc m=>by
 have d:∀j:Fin 4,(o5.getD j.1 []).all OT=true∧(y7.getD j.1 []).all OT=true:=by decide +kernel
 have d:=d ⟨n % 4,jQ _ (by decide)⟩
 unfold d6 at m
 cases aT.mp m with
 | inl m=>cases aT.mp m with
  | inl m=>exact bN.mp d.1 c m
  | inr m=>exact h c m
 | inr m=>exact bN.mp d.2 c m
theorem aJW{c z:Nat}(h:c=10∨c=58∨c=46):(z5 z==c)=(z==c):=by
 unfold z5
 cases e:(z==10 || z==58 || z==46) with
 | true=>rfl
 | false=>
  rw[cond_false]
  have e1:=(fP.mp e).2
  have e2:=(fP.mp (fP.mp e).1)
  rcases h with h | h | h <;> subst h
  ·rw[e2.1];rfl
  ·rw[e2.2];rfl
  ·rw[e1];rfl
theorem MA{x:List Nat}{c hi i:Nat}(h:c=10∨c=58∨c=46):pos (x.map z5) [c] hi i=pos x [c] hi i:=by
 have:∀l:List Nat,((l.map z5).take [c].length==[c])=(l.take [c].length==[c]):=λl=>by
  cases l with
  | nil=>rfl
  | cons a r=>
   show(z5 a==c && true)=(a==c && true)
   rw[aJW h]
 unfold pos
 rw[←List.map_drop,this]
theorem MB{x:List Nat}{c lo hi:Nat}(h:c=10∨c=58∨c=46):jR (x.map z5) [c] lo hi=jR x [c] lo hi:=by
 unfold jR
 exact congrArg (λf=>List.find? f _) (funext λi=>MA h)
theorem S4{x:List Nat}{c lo hi:Nat}(h:c=10∨c=58∨c=46):wO (x.map z5) [c] lo hi=wO x [c] lo hi:=by
 unfold wO
 exact congrArg (λf=>List.find? f _) (funext λi=>MA h)
theorem YC(x:List Nat):Z7 (x.map z5)=Z7 x:=by
 unfold Z7
 rw[MB (.inr (.inl rfl)),MB (.inl rfl),aG]
theorem YD(x:List Nat):N7 x=iX x (some (stS (wO (x.map z5) [46] 0 (Z7 (x.map z5))):Nat)) (some (Z7 (x.map z5):Nat)) none:=by
 rw[YC,S4 (.inr (.inr rfl))]
 rfl
theorem S5(n a b c d:Nat)(h:∀z∈[a,b,c,d],z5 z=97):N7 (d6 n [a,b,c,d])= [a,b,c,d]:=by
 have e:∀j,(d6 j [a,b,c,d]).map z5=(d6 j [97,97,97,97]).map z5:=λj=>by
  unfold d6
  rw[cG,cG,cG,cG]
  have: [a,b,c,d].map z5= [97,97,97,97].map z5:=by
   show [z5 a,z5 b,z5 c,z5 d]=_
   rw[h a (.head _),h b (.tail _ (.head _)),h c (.tail _ (.tail _ (.head _))),h d (.tail _ (.tail _ (.tail _ (.head _))))]
   rfl
  rw[this]
 rw[YD,e,S3 n [a,b,c,d],S3 n [97,97,97,97]]
 have:=jQ n (by decide:4 > 0)
 revert this
 generalize n % 4=j
 intro hj
 match j,hj with
 | 0,_=>kernel_rfl
 | 1,_=>kernel_rfl
 | 2,_=>kernel_rfl
 | 3,_=>kernel_rfl
theorem DV(n m k:Nat):N7 (d6 n (uH m k))=uH m k:=S5 n _ _ _ _ λz h=>(xK m k z h).2
inductive Pg3(pg w0 w1 w2:List Nat):Prop
 | mk (s1:List Nat) (l1:Nat) (s2:List Nat) (l2:Nat) (e1:uF [] pg 1=(w0,[],s1,l1)) (z1:s1.length≤800000) (e2:uF [] s1 l1=(w1,[],s2,l2)) (z2:s2.length≤800000) (h:Toks s2 l2 (pg.count 10+1) [w0,w1] [w0,w1,w2])
theorem uJ{s p:List Nat}{l ln:Nat}{t s':List Nat}{l':Nat}(h:qC s l=qC p ln)(e:qC p ln=(t,s',l')):uF [] s l=(t,[],s',l'):=by
 show((qC s l).1,[],(qC s l).2.1,(qC s l).2.2)=_
 rw[h,e]
theorem mZ{n:Nat}{o:List Nat}(h:∃a r,o=a::r):∃a r,d6 n o=a::r:=by
 refine kG h λa r dE=>?_;subst dE
 unfold d6
 cases o5.getD (n % 4) [] with
 | nil=>exact⟨a,_,rfl⟩
 | cons b q=>exact⟨b,_,rfl⟩
theorem DW{w:List Nat}(h:∃a r,w=a::r):(([]:List Nat)==w)=false:=by
 refine kG h λa r dE=>?_;subst dE
 rfl
theorem aJX{n:Nat}{o0 o1 o2:List Nat}(h0:∀c∈o0,OT c=true)(h1:∀c∈o1,OT c=true)(h2:∀c∈o2,OT c=true)(n0:∃a r,o0=a::r)(n1:∃a r,o1=a::r)(n2:∃a r,o2=a::r)(z0:o0.length≤4)(z1:o1.length≤4)(z2:o2.length≤4):
  Pg3 (ON [o0,o1,o2] n [] []).2 (d6 n o0) (d6 (n / 48) o1) (d6 (n / 48 / 48) o2):=by
 have e:(ON [o0,o1,o2] n [] []).2=vY n o0++(vY (n / 48) o1++(vY (n / 48 / 48) o2++ [])):=by
  show []++vY n o0++vY (n / 48) o1++vY (n / 48 / 48) o2=_
  rw[lJ,bQ,c4]
 obtain⟨s1,l1,a1,a2,a3⟩:=zP (rest:=vY (n / 48) o1++(vY (n / 48 / 48) o2++ [])) (ln:=1) (zQ (n:=n) h0) (mZ n0)
 obtain⟨s2,l2,b1,b2,b3⟩:=zP (rest:=vY (n / 48 / 48) o2++ []) (ln:=1+(vY n o0).count 10) (zQ (n:=n / 48) h1) (mZ n1)
 obtain⟨s3,l3,c1,c2,c3⟩:=zP (rest:=[]) (ln:=1+(vY n o0).count 10+(vY (n / 48) o1).count 10) (zQ (n:=n / 48 / 48) h2) (mZ n2)
 have p1:=qY (n:=n / 48) z1
 have p2:=qY (n:=n / 48 / 48) z2
 have y1:s1.length≤800000:=aB a2 (by rw[aE,bQ];exact aB (cH (dD p1 p2)) (by decide))
 have y2:s2.length≤800000:=aB b2 (by rw[bQ];exact aB (cH p2) (by decide))
 have y3:s3.length≤800000:=aB c2 (by decide)
 rw[e]
 refine⟨s1,l1,s2,l2,uJ rfl a1,y1,uJ a3 b1,y2,DW (mZ n0),rfl,DW (mZ n1),rfl,DW (mZ n2),s3,l3,uJ b3 c1,y3,rfl, ?_⟩
 refine uJ c3 ?_
 rw[i8,i8,bQ,cQ _ 1,b9,b9]
 rfl
section
variable {C:Ctx}
theorem exW{x:Cx}{Q:bU->aK->Prop}{rest:List v8}{st st1:aK}(O:iZ C x){s:S}(g:gd ((sv s x).s st) .next st1)(h:Bx (j5 C rest st1 Q eE)):Bx (j5 C ((dst x.xs s).s::rest) st Q eE):=⟨exS O g h.1⟩
theorem fG.ex{b:List v8}{st:aK}{Q:bU->aK->Prop}(h:Bx (fG C b 0 st (λfl _ bW=>Q fl bW) eE)):Bx (j5 C b st Q eE):=⟨KJ.wk h.1⟩
theorem fG.aJY{s:v8}{T:Nat}{st:aK}{Q:aA->Nat->List Pc->Prop}(h:Bx (uR C s T st (λfl T' bW=>Q (kD fl) T' bW.H) eE)):Bx (fG C [s] T st (λfl T' bW=>Q (kD fl) T' bW.H) eE):=by
 refine⟨@fG.cons _ _ _ _ _ _ _ ?_⟩
 refine KJ.mono h.1 ?_
 intro fl T1 st1 q
 cases fl with
 | next=>intro _ _ _ _;exact fG.nil q
 | _=>exact q
theorem zR(n k:Nat):∃a r,uH n k=a::r:=⟨_,_,rfl⟩
theorem YE{xs:Sc}{P:List Nat->Prop}(h:∀n k,P (uH n k)):∀w∈j0 xs,P w:=λw m=>by
 refine nI m (λe0=>?_) λm=>?_
 ·subst e0;exact h _ _
 ·refine nI m (λe0=>?_) λm=>?_
  ·subst e0;exact h _ _
  ·refine nI m (λe0=>?_) λm=>?_
   ·subst e0;exact h _ _
   ·cases m
theorem MC(xs:Sc):o8 xs= [d6 (n2 xs) (qE xs 0),d6 (n2 xs / 48) (qE xs 1),d6 (n2 xs / 48 / 48) (qE xs 2)]:=rfl
noncomputable abbrev w0(xs:Sc):List Nat:=d6 (n2 xs) (qE xs 0)
noncomputable abbrev w1(xs:Sc):List Nat:=d6 (n2 xs / 48) (qE xs 1)
noncomputable abbrev w2(xs:Sc):List Nat:=d6 (n2 xs / 48 / 48) (qE xs 2)
theorem YF{xs:Sc}:∀w∈o8 xs,w.length≤1000:=λw m=>by
 rw[MC] at m
 have l:=λ{n:Nat} {i:Nat}=>aB (JF (n:=n) (kP (n0 xs / 24 ^ i) (n1 xs / 16 ^ i))) (by decide:11≤1000)
 refine nI m (λe0=>?_) λm=>?_
 ·subst e0;exact l
 ·refine nI m (λe0=>?_) λm=>?_
  ·subst e0;exact l
  ·refine nI m (λe0=>?_) λm=>?_
   ·subst e0;exact l
   ·cases m
theorem aNA(xs:Sc):(o8 xs).map N7=j0 xs:=by
 rw[MC]
 show [N7 _,N7 _,N7 _]=_
 rw[DV,DV,DV]
theorem pg3(xs:Sc):Pg3 (z3 xs).2 (w0 xs) (w1 xs) (w2 xs):=aJX (λc m=>(xK _ _ c m).1) (λc m=>(xK _ _ c m).1) (λc m=>(xK _ _ c m).1) (zR _ _) (zR _ _) (zR _ _) (kP _ _) (kP _ _) (kP _ _)
theorem S6(xs:Sc):(z3 xs).2.length≤800000:=by
 show([]++vY (n2 xs) (qE xs 0)++vY (n2 xs / 48) (qE xs 1)++vY (n2 xs / 48 / 48) (qE xs 2)).length≤800000
 rw[aE,aE,aE]
 exact aB (dD (dD (dD (aZ 0) (qY (kP _ _))) (qY (kP _ _))) (qY (kP _ _))) (by decide)
noncomputable abbrev vOf(xs:Sc)(X:kW):LV:=⟨xs,X,(z3 xs).2.count 10+1,(j0 xs).map .str,(o8 xs).map .str,[.str (w0 xs),.str (w1 xs)],(o8 xs).map .str,(j0 xs).map .str,(aJB xs).map .str,n0 xs,n1 xs,n2 xs,DT xs 0,DT xs 1,DT xs 2,(z3 xs).2,w1 xs⟩
theorem v_eq{xs:Sc}{X:kW}:fT (l45 xs (some (.str (w1 xs)))) (hW xs X ((z3 xs).2.count 10+1) [.str (w0 xs),.str (w1 xs)] [])=mV (vOf xs X) OA (hV (vOf xs X) [] []):=⋯
def aEX(xs:Sc)(r:aA)(H:List Pc):Prop:=r= .bool true∧H.take 4= [.iG 265 zsL,.iG 277 zsC,.iG 284 zsD,.fix xs.ob xs.xs]
end
theorem aNB{a:JA}(R:kC c5 a.o a.hi)(E:∀n < 5,pH c5 a.o a.lo a.hi n)(fls:List aA):gd ((sv (jM.nt 2) dK).s (HC a fls 4)) .next (mJ a (some (.aO 3)) (wW 100) (zH fls f7 c5)):=by
 rw[←GV]
 exact aMQ R E
theorem S7:∀r∈f7,DQ r:=by
 rw[←GV]
 exact N2
theorem aJZ(a b:Nat):a % 25+b % (25 - a % 25)≤24:=by
 have h:=jQ a (by decide:25 > 0)
 have:=jQ b (Nat.sub_pos_of_lt h)
 omega
theorem S8(V:LV):XX V≤hiV V∧hiV V≤24:=⟨aW _ _,aJZ _ _⟩
noncomputable abbrev aAD:List v8:=[(dst dZ.xs (fZ.nt 8)).s,(dst dZ.xs (fZ.nt 9)).s,(dst dZ.xs (fZ.nt 10)).s,(dst nD.xs (fZ.nt 11)).s,(dst nD.xs (fZ.nt 12)).s,(dst nD.xs (fZ.nt 13)).s,(dst nD.xs (fZ.nt 14)).s]
theorem YG{C:Ctx}(O1:iZ C dZ)(O2:iZ C nD)(W:Wld C.D)(hh:C.hd=none){n:Nat}(hn:C.n=n+1)(h4:4≤n){V:LV}(L:eI V.X)(ho:V.o∈c5)(hp:V.p∈c5)(hq:V.q∈c5){Q:aA->Nat->List Pc->Prop}(q:∀T fl os,Q (.bool true) T (aJK V fl os)):
  Bx (fG C aAD 0 (mV V OA (hV V [] [])) (λfl T bW=>Q (kD fl) T bW.H) eE):=by
 have A:=zO ho
 have P:=S2 hp hq
 refine d5 (S8 V) λb1 b2=>?_
 have J:=aET (aES ho hp hq (r:=z4 (B1o V.o)) (j:=z4 (B2o V.p V.q)) (lo:=XX V) (hi:=hiV V) rfl rfl)
 refine⟨@fG.cons _ _ _ _ _ _ _ ?_⟩
 refine lq8 O1 hh A.3 (aB A.1 (by decide)) ?_
 intro T1 pr h0
 refine @fG.cons _ _ _ _ _ _ _ ?_
 refine lq9 O1 W hh hn (aB (by decide) h4) A.1 ?_
 intro es T2 K
 refine @fG.gd _ _ _ _ _ _ _ _ O1 (aM0 K) ?_
 refine @fG.gd _ _ _ _ _ _ _ _ O2 (aM4 L A.5 A.6) ?_
 refine @fG.gd _ _ _ _ _ _ _ _ O2 (aM5 L (aB (JU V.o) (by decide)) A.7 P.1) ?_
 refine @fG.gd _ _ _ _ _ _ _ _ O2 aM6 ?_
 refine(fG.aJY (Q:=Q) ⟨?_⟩).1
 intro A' g ρ s
 exact aM7 O2 W hh hn h4 (aNB (X0 ho b2) (aJM ho b1 b2)) S7 J K h0 (aZ T2) (q T2 (mQ V.o es) (LZ V.o))
theorem aEY{C:Ctx}{xs:Sc}(O1:iZ C dZ)(O2:iZ C nD)(W:Wld C.D)(hh:C.hd=none){n:Nat}(hn:C.n=n+1)(h4:4≤n)(hz:xs.xs.length≤1000):Bx (j5 C (dst (vX.map (·.1)) fZ).b (fT XR (h00 xs)) (λfl bW=>aEX xs (kD fl) bW.H) eE):=by
 have e:(dst (vX.map (·.1)) fZ).b=(dst dZ.xs (fZ.nt 0)).s::(dst dZ.xs (fZ.nt 1)).s::(dst dZ.xs (fZ.nt 2)).s::(dst dZ.xs (fZ.nt 3)).s::(dst dZ.xs (fZ.nt 4)).s::(dst dZ.xs (fZ.nt 5)).s::(dst dZ.xs (fZ.nt 6)).s::(dst dZ.xs (fZ.nt 7)).s::aAD:=⋯
 rw[e]
 have hp:(z3 xs).2.length≤1000000:=aB (S6 xs) (by decide)
 refine exW O1 (lq0 hz) (exW O1 lq1 (exW O1 lq2 ⟨lq3 O1 W hh (by rw[hn];exact cH (aB (by decide) h4)) hp λX L=>?_⟩))
 obtain⟨s1,l1,s2,l2,e1,z1,e2,z2,T⟩:=pg3 xs
 refine exS O1 (lq4 L (S6 xs) z1 e1 e2) ?_
 refine exS O1 (lq5 L T (by exact(by decide:2≤1000000)) z2 (by exact(by decide:3≤900))) ?_
 refine exS O1 (lq6 YF (by exact(by decide:3≤1000)) (aNA xs) rfl) ?_
 refine exS O1 (lq7 (YE λn k=>⟨YB n k,aB (kP n k) (by decide)⟩)) ?_
 rw[v_eq]
 refine(fG.ex (YG (Q:=λr _ H=>aEX xs r H) O1 O2 W hh hn h4 L (DU _ _) (DU _ _) (DU _ _) λT fl os=>⟨rfl,rfl⟩)).1
noncomputable def qF(K:z7)(a:cI):Obj:=(K.lookup a).getD default
inductive FnRaw(K:z7)(a:cI)(ns:fF)(ir:S):Prop where
 | mk (e1:K.lookup a=some ⟨(qF K a).cls,(qF K a).dict,.func (gC K a),(qF K a).slots⟩) (e2:((gC K a).body,(gC K a).closure,(gC K a).globals,(gC K a).builtins,(gC K a).scope.names,(gC K a).scope.kind,(gC K a).scope.isCoroutine,(gC K a).scope.isGenerator)=(.stmts (dst (ns.map (·.1)) ir).b,[],mainGlobals,nO,ns,.function,false,false)) (e3:(codeIn K (gC K a).code (gC K a).qualname && IZ (ns.map (·.1)) && ns.all λp=>p.2 != .free)=true)
theorem FnRaw.k{D:WD}{a:cI}{ns:fF}{ir:S}(h:FnRaw D.K a ns ir):r8 D a ns ir:=⟨
 (by
  have e:=h.2
  have e2:=congrArg j9 e;have e3:=congrArg j9 e2;have e4:=congrArg j9 e3;have e5:=congrArg j9 e4;have e6:=congrArg j9 e5;have e7:=congrArg j9 e6
  exact⟨⟨_,_,_,h.1⟩,congrArg jU e,aP (aP h.3),congrArg jU e2,congrArg jU e3,congrArg jU e4,congrArg jU e5,K3 (aQ (aP h.3)),aQ h.3,congrArg jU e7,congrArg j9 e7,congrArg jU e6⟩)⟩
theorem GX{α β:Type}{P:α->β->Prop}(f:α->β->Bool){l:List (α×β)}(h:(l.all λz=>f z.1 z.2)=true)(k:∀a b,f a b=true->P a b):Al P l:=by
 induction l with
 | nil=>exact .nil
 | cons z r ih=>exact .cons (k _ _ (aP h)) (ih (aQ h))
noncomputable def strAt(o:Option (Option aJ))(l:List Nat):Bool:=match o.join with
 | some (.str y _)=>y==c8 l
 | _=>false
theorem aEZ{o:Option (Option aJ)}{l:List Nat}(h:strAt o l=true):∃t,o=some (some (.str (c8 l) t)):=by
 unfold strAt at h
 cases o with
 | none=>exact eV h
 | some o=>cases o with
  | none=>exact eV h
  | some v=>cases v <;> first | exact⟨_,congrArg (λz=>some (some (Value.str z _))) (eq_of_beq h)⟩ | exact eV h
noncomputable def glB(K:z7)(x:Str)(a:aA):Bool:=match a with
 | .ref v=>nsIn K mainGlobals x==some (some (.ref v))
 | .str l=>strAt (nsIn K mainGlobals x) l
 | .blt id=>nsIn K mainGlobals x==some none && !(x=="__name__") && wX x==some (.builtin id)
 | .typ id=>nsIn K mainGlobals x==some none && !(x=="__name__") && wX x==some (.type id)
 | _=>false
theorem aNC{D:WD}{x:Str}{a:aA}(h:glB D.K x a=true):GR D x a:=by
 have nn:(!(x=="__name__"))=true->x≠"__name__":=λh e=>by rw[e,beq_self_eq_true] at h;exact eV h
 cases a with
 | ref v=>exact⟨_,λ_ _=>rfl,.inl (eq_of_beq h)⟩
 | str l=>exact(aEZ h).elim λt e=>⟨_,λ_ _=>⟨t,rfl⟩,.inl e⟩
 | blt id=>exact⟨_,λ_ _=>rfl,.inr ⟨eq_of_beq (aP (aP h)),nn (aQ (aP h)),eq_of_beq (aQ h)⟩⟩
 | typ id=>exact⟨_,λ_ _=>rfl,.inr ⟨eq_of_beq (aP (aP h)),nn (aQ (aP h)),eq_of_beq (aQ h)⟩⟩
 | _=>exact eV h
noncomputable def aND(K:z7)(z:cI×Str)(f:cI):Bool:=nH K (.ref z.1) "__getattribute__"==some (some (.builtin "object.__getattribute__")) && (nH K (.ref z.1) "__getattr__"==some none && (nH K (.ref z.1) z.2==some (some (.ref f)) && typeIn K (.ref f)==some (.type "function")))
noncomputable def aNE(K:z7)(z:cI×Str)(_:Unit):Bool:=nH K (.ref z.1) "__getattribute__"==some (some (.builtin "object.__getattribute__")) && (nH K (.ref z.1) "__setattr__"==some (some (.builtin "object.__setattr__")) && (plainOver K z.1 && (hasDictIn K z.1 && (nH K (.ref z.1) z.2==some none && takerIn K z.1 z.2==some none))))
noncomputable def aNF(K:z7)(z:cI×Str)(f:cI):Bool:=plainGet K z.1 z.2 && (hasDictIn K z.1 && (nH K (.ref z.1) z.2==some (some (.ref f)) && (JY K (.ref f) && (specialIn K (.ref f) "__get__"==some (some (.builtin "function.__get__")) && (takesIn K (.ref f)==some false && !(copiedNames.contains z.2))))))
noncomputable def clB(o:Option Obj):Bool:=match o with
 | some ob=>(match ob.data with | .cls _=>true | _=>false)
 | none=>false
theorem aNG{o:Option Obj}(h:clB o=true):∃oc od cd OE,o=some ⟨oc,od,.cls cd,OE⟩:=by
 cases o with
 | none=>exact eV h
 | some ob=>
  obtain⟨oc,od,d,sl⟩:=ob
  cases d <;> first | exact⟨_,_,_,_,rfl⟩ | exact eV h
noncomputable def aJ0(K:z7)(C f:cI):Bool:=makesIn K C && (nH K (.ref C) "__init__"==some (some (.ref f)) && (typeIn K (.ref f)==some (.type "function") && (clB (K.lookup C) && specialIn K (.ref C) "__call__"==some (some (.builtin "type.__call__")))))
theorem bw{K:z7}{fd:cN}{ns:fF}{a k:Nat}{kn:List Str}{ds:List aA}(dv:List aJ)(hd:∀ρ h,Vs ρ h ds dv)(e:∀vs:List aJ,vs.length=a->∀ws:List aJ,ws.length=k->∀S,peek K S (nY fd ⟨vs,kn.zip ws⟩)=some (((ns.take (a+ds.length+k)).map (·.1)).zip (vs++dv++ws))):fC K fd ns a k kn ds:=
 λvs ws h1 h2=>⟨dv,hd,λ{M A s Q E} X q=>(Looks.of_peek (M:=M) X (e vs h1 ws h2 _)).here q⟩
section
variable {P:List aJ->Prop}
theorem vl0(h:P [])(vs:List aJ)(e:vs.length=0):P vs:=by
 cases vs with
 | nil=>exact h
 | cons a r=>cases e
theorem vl1(h:∀a,P [a])(vs:List aJ)(e:vs.length=1):P vs:=by
 cases vs with
 | nil=>cases e
 | cons a r=>exact vl0 (P:=λr=>P (a::r)) (h a) r (kF e)
theorem vl2(h:∀a b,P [a,b])(vs:List aJ)(e:vs.length=2):P vs:=by
 cases vs with
 | nil=>cases e
 | cons a r=>exact vl1 (P:=λr=>P (a::r)) (h a) r (kF e)
theorem vl3(h:∀a b c,P [a,b,c])(vs:List aJ)(e:vs.length=3):P vs:=by
 cases vs with
 | nil=>cases e
 | cons a r=>exact vl2 (P:=λr=>P (a::r)) (h a) r (kF e)
theorem vl4(h:∀a b c d,P [a,b,c,d])(vs:List aJ)(e:vs.length=4):P vs:=by
 cases vs with
 | nil=>cases e
 | cons a r=>exact vl3 (P:=λr=>P (a::r)) (h a) r (kF e)
end
def TW(K:z7)(fd:cN)(ns:fF)(n:Nat)(kn:List Str)(dv vs ws:List aJ):Prop:=∀S,peek K S (nY fd ⟨vs,kn.zip ws⟩)=some (((ns.take n).map (·.1)).zip (vs++dv++ws))
theorem bw1{K:z7}{fd:cN}{ns:fF}(e:∀a,TW K fd ns 1 [] [] [a] []):fC K fd ns 1 0 [] []:=bw [] (λ_ _=>.nil) (vl1 λa=>vl0 (e a))
theorem bw2{K:z7}{fd:cN}{ns:fF}(e:∀a b,TW K fd ns 2 [] [] [a,b] []):fC K fd ns 2 0 [] []:=bw [] (λ_ _=>.nil) (vl2 λa b=>vl0 (e a b))
theorem bw4{K:z7}{fd:cN}{ns:fF}(e:∀a b c d,TW K fd ns 4 [] [] [a,b,c,d] []):fC K fd ns 4 0 [] []:=bw [] (λ_ _=>.nil) (vl4 λa b c d=>vl0 (e a b c d))
theorem bwk{K:z7}{fd:cN}{ns:fF}{y:Str}(e:∀a b c,TW K fd ns 3 [y] [] [a,b] [c]):fC K fd ns 2 1 [y] []:=bw [] (λ_ _=>.nil) (vl2 λa b=>vl1 (e a b))
theorem bwd1{K:z7}{fd:cN}{ns:fF}(e:∀a,TW K fd ns 2 [] [.none] [a] []):fC K fd ns 1 0 [] [.none]:=bw [.none] (λ_ _=>.cons rfl .nil) (vl1 λa=>vl0 (e a))
theorem vl5{P:List aJ->Prop}(h:∀a b c d e,P [a,b,c,d,e])(vs:List aJ)(q:vs.length=5):P vs:=by
 cases vs with
 | nil=>cases q
 | cons a r=>exact vl4 (P:=λr=>P (a::r)) (h a) r (kF q)
theorem vl6{P:List aJ->Prop}(h:∀a b c d e f,P [a,b,c,d,e,f])(vs:List aJ)(q:vs.length=6):P vs:=by
 cases vs with
 | nil=>cases q
 | cons a r=>exact vl5 (P:=λr=>P (a::r)) (h a) r (kF q)
theorem vl7{P:List aJ->Prop}(h:∀a b c d e f g,P [a,b,c,d,e,f,g])(vs:List aJ)(q:vs.length=7):P vs:=by
 cases vs with
 | nil=>cases q
 | cons a r=>exact vl6 (P:=λr=>P (a::r)) (h a) r (kF q)
theorem bw7{K:z7}{fd:cN}{ns:fF}(e:∀a b c d e f g,TW K fd ns 7 [] [] [a,b,c,d,e,f,g] []):fC K fd ns 7 0 [] []:=bw [] (λ_ _=>.nil) (vl7 λa b c d e' f g=>vl0 (e a b c d e' f g))
theorem bwA47{K:z7}{fd:cN}{ns:fF}{y:Str}(t:Tok)(e:∀a b c,TW K fd ns 5 [y] [.int 0 t,.none] [a,b] [c]):fC K fd ns 2 1 [y] [.int 0,.none]:=bw [.int 0 t,.none] (λ_ _=>.cons ⟨t,rfl⟩ (.cons rfl .nil)) (vl2 λa b=>vl1 (e a b))
theorem bwB47{K:z7}{fd:cN}{ns:fF}(e:∀a b c d,TW K fd ns 5 [] [.none] [a,b,c,d] []):fC K fd ns 4 0 [] [.none]:=bw [.none] (λ_ _=>.cons rfl .nil) (vl4 λa b c d=>vl0 (e a b c d))
theorem bwC47{K:z7}{fd:cN}{ns:fF}{y:Str}(e:∀a b c d k,TW K fd ns 5 [y] [] [a,b,c,d] [k]):fC K fd ns 4 1 [y] []:=bw [] (λ_ _=>.nil) (vl4 λa b c d=>vl1 (e a b c d))
theorem bwD47{K:z7}{fd:cN}{ns:fF}{y:Str}(e:∀a b c k,TW K fd ns 5 [y] [.none] [a,b,c] [k]):fC K fd ns 3 1 [y] [.none]:=bw [.none] (λ_ _=>.cons rfl .nil) (vl3 λa b c=>vl1 (e a b c))
theorem bwA{fd:cN}{ns:fF}(e:∀a b c,nY fd ⟨[a,b,c],[]⟩=(alloc { cls:=.type "dict",data:=.dict #[] } >>=λd=>pure (((ns.take 4).map (·.1)).zip [a,b,c,.ref d]))):RC fd ns 3:=λvs h {M A s Q E} q=>by
 refine vl3 (P:=λvs=>Q (((ns.take (3+1)).map (·.1)).zip (vs++ [.ref s.heap.objs.size])) { s with heap:=s.heap.push { cls:=.type "dict",data:=.dict #[] } }->bZ M A (nY fd ⟨vs,[]⟩) Q E s) (λa b c q=>?_) vs h q
 rw[e]
 exact aC (wpAny_alloc (aI q))
noncomputable def noList(K:z7):Bool:=K.all λp=>match p.2.cls with
 | .type n=>!(n=="list")
 | _=>true
theorem YH{K:z7}(h:noList K=true){a:cI}{o:Obj}(e:K.lookup a=some o):o.cls≠.type "list":=by
 intro q
 have hm:(a,o)∈K:=by
  clear h
  induction K with
  | nil=>exact bK e
  | cons p r ih=>
   rw[dA] at e
   cases hb:a==p.1 with
   | true=>rw[hb] at e;obtain rfl:=aD e;obtain rfl:=eq_of_beq hb;exact .head _
   | false=>rw[hb] at e;exact .tail _ (ih e)
 have:=bN.mp h (a,o) hm
 rw[q] at this
 exact eV this
theorem S9{vs:List aJ}{xs:List Int}(h:IntsAre vs xs)(g:c9):Vs [] g (xs.map .int) vs:=by
 induction h with
 | nil=>exact .nil
 | cons n t _ ih=>exact .cons ⟨t,rfl⟩ ih
noncomputable def YI(o:Obj):Array aJ:=match o.data with
 | .fields fs=>fs
 | _=>#[]
noncomputable def TA(o:Obj):Array aJ×Nat:=match o.data with
 | .seq items k=>(items,k)
 | _=>(#[],0)
noncomputable def refOf(v:aJ):cI:=match v with
 | .ref a=>a
 | _=>0
noncomputable abbrev paT(K:z7)(p:cI):cI:=refOf ((YI (qF K p)).getD 5 .none)
inductive MD(K:z7)(p:cI)(code:Array Nat):Prop where
 | mk (e:(K.lookup p,(qF K p).cls,(qF K p).dict,(qF K p).data,m3 ((YI (qF K p)).getD 6 .none),(YI (qF K p)).getD 5 .none,K.lookup (paT K p),(qF K (paT K p)).data,((TA (qF K (paT K p))).1.map tK).map (·.toNat))
  =(some (qF K p),.type "re.Pattern",none,.fields (YI (qF K p)),0,.ref (paT K p),some (qF K (paT K p)),.seq (TA (qF K (paT K p))).1 (TA (qF K (paT K p))).2,code))
theorem MD.k{D:WD}{p:cI}{code:Array Nat}(h:MD D.K p code):YY D p code:=
 have e1:=h.1;have e2:=congrArg j9 e1;have e3:=congrArg j9 e2;have e4:=congrArg j9 e3;have e5:=congrArg j9 e4;have e6:=congrArg j9 e5;have e7:=congrArg j9 e6;have e8:=congrArg j9 e7
 ⟨_,_,_,_,_,_,congrArg jU e1,congrArg jU e2,congrArg jU e3,congrArg jU e4,congrArg jU e5,congrArg jU e6,congrArg jU e7,congrArg jU e8,congrArg j9 e8⟩
noncomputable def tokAt(K:z7):Tok:=match (gC K 47).defaults with
 | .ref T=>(match (qF K T).data with
  | .seq items _=>(match items.getD 0 .none with
   | .int _ t=>t
   | _=>default)
  | _=>default)
 | _=>default
theorem nt_{b:Bool}(h:(!b)=true):b=false:=RV h
section
variable {D:WD}
theorem glW(h:(GT.all λz=>glB D.K z.1 z.2)=true):Al (GR D) GT:=GX _ h λ_ _=>aNC
theorem metW(h:(WM.all λz=>aND D.K z.1 z.2)=true):Al (λ(z:cI×Str) f=>xT D.K (.ref z.1) z.2 (.ref f)) WM:=GX _ h λ_ _ e=>⟨eq_of_beq (aP e),eq_of_beq (aP (aQ e)),eq_of_beq (aP (aQ (aQ e))),eq_of_beq (aQ (aQ (aQ e)))⟩
theorem attW(h:(WN.all λz=>aNE D.K z.1 z.2)=true):Al (λ(z:cI×Str) (_:Unit)=>BG D.K z.1∧nH D.K (.ref z.1) z.2=some none∧takerIn D.K z.1 z.2=some none) WN:=GX _ h λ_ _ e=>⟨⟨eq_of_beq (aP e),eq_of_beq (aP (aQ e)),aP (aQ (aQ e)),aP (aQ (aQ (aQ e)))⟩,eq_of_beq (aP (aQ (aQ (aQ (aQ e))))),eq_of_beq (aQ (aQ (aQ (aQ (aQ e)))))⟩
theorem bndW(h:(WO.all λz=>aNF D.K z.1 z.2)=true):Al (λ(z:cI×Str) f=>KG D.K z.1 z.2 f) WO:=GX _ h λ_ _ e=>⟨aP e,aP (aQ e),eq_of_beq (aP (aQ (aQ e))),aP (aQ (aQ (aQ e))),eq_of_beq (aP (aQ (aQ (aQ (aQ e))))),eq_of_beq (aP (aQ (aQ (aQ (aQ (aQ e)))))),nt_ (aQ (aQ (aQ (aQ (aQ (aQ e))))))⟩
theorem clsW(h:(WP.all λz=>aJ0 D.K z.1 z.2)=true):Al (yD D.K) WP:=GX _ h λ_ _ e=>⟨aP e,eq_of_beq (aP (aQ e)),eq_of_beq (aP (aQ (aQ e))),aNG (aP (aQ (aQ (aQ e)))),eq_of_beq (aQ (aQ (aQ (aQ e))))⟩
theorem patW(h1:MD D.K 113 sR)(h2:MD D.K 118 n5):Al (λp b=>YY D p (cond b sR n5)) aDG:=.cons h1.k (.cons h2.k .nil)
end
theorem aNH{D:WD}{n:Nat}{fa:cI}{fd:cN}{names:fF}{body:List v8}{as:List aA}{H:List Pc}{Q:aA->List Pc->Prop}(F:Fn D fa fd names body)
  (hb:Bind D n names fd as [] [] H (λoC H1=>∃m0,Init D names oC m0∧∀C',Inn D n names fd C'->C'.hd=none->Face C'->Bx (j5 C' body ⟨m0,H1⟩ (λfl bW=>Q (kD fl) bW.H) eE)))
  {A:cF} {g:c9} {ρ:Roo} {s:aM} {vs:List aJ} (w:Wd D (n+1) A g ρ H s) (hf:A.frames=some []) (hh:A.handled=none) (hv:Vs ρ s.heap as vs):bZ (c0 D.prog D.w) A (call (.ref fa) vs []) (pZ D g ρ s.heap V Q) rD s:=by
 have c:pR (c0 D.prog D.w) A (.call (.ref fa) ⟨vs,[]⟩) (CR (pZ D g ρ s.heap V Q)) s:=by
  refine qP F w (hb (vs:=vs) (ws:=[]) w.in1 hv .nil) λ{oC H1 ρ1 s1 bs h2 tk} L1 EM o1 q N=>?_
  refine bS q λm0 hm hB=>?_
  have a':=enter (kk:=[]) o1 w.4 (λ_ q=>nomatch q) F EM hm N (tk:=tk) (iE hf) (room_in w)
  refine bM ((hB _ ⟨rfl,rfl,rfl,rfl,rfl,rfl⟩ hh ⟨rfl,rfl⟩).1 a') (λx s3 p=>?_) λv s3 p=>p.no
  obtain⟨le,r,a3,q⟩:=p
  exact .mk (L1.trans ((Le.ke N.1).trans le)) (EN r) ⟨a3.5.1,λx hx=>a3.5.2 x (aR _ hx),(bC.mp a3.5.3).2.1,a3.5.4,a3.5.5,a3.5.6,a3.5.7,a3.5.8⟩ q
 refine tD (iV c λr s' q=>?_)
 cases r with
 | error e=>exact q.elim
 | ok f=>cases f with
  | ret v=>exact q
  | _=>exact q.elim
theorem YJ{D:WD}(W:Wld D)(b:fC D.K (gC D.K 304) vX 1 0 [] []){A:cF}{g:c9}{ρ:Roo}{s:aM}{xs:Sc}{a:cI}(w:Wd D 20 A g ρ (h00 xs) s)(hf:A.frames=some [])(hh:A.handled=none)(hz:xs.xs.length≤1000)(ha:ρ[3]? =some a):
  bZ (c0 D.prog D.w) A (call (.ref 304) [.ref a] []) (pZ D g ρ s.heap V (aEX xs)) rD s:=by
 have E1:=W.envX (aI5 W) .nil
 have E2:=W.envX (aI5 W) (aJG W)
 refine aNH (as:=[.aO 3]) W.20.1 (Bind.w (ds:=[]) b rfl rfl ⋯ ⋯ ⟨_,NQ E1.1 ⋯,λC' I hh' Fc=>?_⟩) w hf hh (.cons ⟨a,ha,rfl⟩ .nil)
 have O1:=(E1.w (ns:=vX) (k:=10) ⋯).cok .no I (by decide) hh'
 have O2:=(E2.w (ns:=vX) (k:=10) ⋯).cok .no I (by decide) hh'
 exact aEY (C:=C') (n:=18) ⟨O1.1,O1.2,O1.3,O1.4,λ_=>Fc,O1.6,O1.7,O1.8,O1.9,O1.10⟩ ⟨O2.1,O2.2,O2.3,O2.4,λ_=>Fc,O2.6,O2.7,O2.8,O2.9,O2.10⟩ (I.1.symm▸W) hh' I.2 (by decide) hz
noncomputable abbrev v7:List cI:=[265,277,284]
inductive RunIn(D:WD)(s:aM)(a:cI)(ob:Obj)(xs:List Int):Prop where
 | mk (K:D.K.In s.heap) (tab:∀t∈v7,s.heap.get? t=some (DX #[])) (main:∃mg bm ob,s.heap.Ns mainGlobals mg∧mg "__builtins__"=some (.ref bm)∧s.heap.get? bm=some ob∧ob.cls= .type "module"∧ob.dict=some nO∧ob.data= .plain) (bns:s.heap.Ns nO D.mb) (blt:∀x:Str,x≠"__name__"->D.mb x=wX x) (nolimit:s.heap.NoLimit) (nodigits:∃mc,s.heap.Ns cStatics mc∧mc "sys.int_max_str_digits"=none) (nl:noList D.K=true) (nt:∀t∈v7,D.K.lookup t=none) (ho:s.heap.get? a=some ob) (hc:ob.cls= .type "list") (hd:∃vs n,ob.data= .seq (bG vs) n∧IntsAre vs xs) (gens:s.gens= #[]) (os:s.os=D.os) (dr:s.drawn=D.dr)
section
variable {D:WD} {s:aM} {a:cI} {ob:Obj} {xs:List Int}
noncomputable abbrev BB(a:cI):List cI:=[265,277,284,a]
theorem TC{a b:cI}(h:b∈BB a):b∈v7∨b=a:=by
 refine nI h (λe0=>?_) λh=>?_
 ·subst e0;exact .inl (.head _)
 ·refine nI h (λe0=>?_) λh=>?_
  ·subst e0;exact .inl (.tail _ (.head _))
  ·refine nI h (λe0=>?_) λh=>?_
   ·subst e0;exact .inl (.tail _ (.tail _ (.head _)))
   ·exact .inr (aU.mp h)
theorem RunIn.ne(R:RunIn D s a ob xs){t:cI}(ht:t∈v7):t≠a:=λq=>by
 have h:=R.10
 rw[←q,R.2 t ht] at h
 obtain rfl:=aD h
 cases R.11
theorem RunIn.nd(R:RunIn D s a ob xs):(BB a).Nodup:=by
 have h1:=R.ne (t:=265) (.head _)
 have h2:=R.ne (t:=277) (.tail _ (.head _))
 have h3:=R.ne (t:=284) (.tail _ (.tail _ (.head _)))
 refine b7.mpr ⟨λq=>?_,b7.mpr ⟨λq=>?_,b7.mpr ⟨λq=>h3 (aU.mp q),b7.mpr ⟨λq=>(nomatch q),iC⟩⟩⟩⟩
 ·cases q with
  | tail _ q=>cases q with
   | tail _ q=>exact h1 (aU.mp q)
 ·cases q with
  | tail _ q=>exact h2 (aU.mp q)
theorem RunIn.keep(R:RunIn D s a ob xs){b:cI}{o:Obj}(e:s.heap.get? b=some o)(n:b∉BB a):(eJ s.heap (BB a)).get? b=some o:=dL _ e n
theorem RunIn.out(R:RunIn D s a ob xs){b:cI}{o:Obj}(e:s.heap.get? b=some o)(h:(∃n,o.cls= .type n∧n≠"list")∨∃es ep,o.data= .dict es ep):b∉BB a:=λq=>by
 cases TC q with
 | inl q=>
  cases(R.2 b q).symm.trans e
  cases h with
  | inl h=>refine bS h λn h _=>?_;cases h
  | inr h=>refine kG h λes ep h=>?_;cases h
 | inr q=>
  subst q
  obtain rfl:=aD (R.10.symm.trans e)
  cases h with
  | inl h=>refine bS h λn h h2=>?_;exact h2 (rN (h.symm.trans R.11))
  | inr h=>refine kG h λes ep h=>?_;refine sI R.12 λvs n e2 _=>?_;cases e2.symm.trans h
theorem RunIn.ns(R:RunIn D s a ob xs){N:cI}{M:Str->Option aJ}(h:s.heap.Ns N M):(eJ s.heap (BB a)).Ns N M:=
 h.elim λo z=>z.elim λes z=>z.elim λep z=>⟨o,es,ep,R.keep z.1 (R.out z.1 (.inr ⟨es,_,z.2.1⟩)),z.2⟩
theorem RunIn.pf(R:RunIn D s a ob xs):PF D (eJ s.heap (BB a)):=⟨
 (λb o e=>R.keep (R.1 _ _ e) λq=>by
  cases TC q with
  | inl q=>cases(R.9 b q).symm.trans e
  | inr q=>subst q;obtain rfl:=aD (R.10.symm.trans (R.1 _ _ e));exact YH R.8 e R.11),
 (R.ns R.4),
 (R.5),
 (R.6.elim λmc h=>⟨mc,R.ns h.1,h.2⟩),
 (R.7.elim λmc h=>⟨mc,R.ns h.1,h.2⟩),
 (R.3.elim λmg h=>h.elim λbm h=>h.elim λo h=>⟨mg,bm,o,R.ns h.1,h.2.1,R.keep h.2.2.1 (R.out h.2.2.1 (.inl ⟨_,h.2.2.2.1,by decide⟩)),h.2.2.2⟩)⟩
theorem JW(R:RunIn D s a ob xs){ρ:Roo}{t:cI}(ht:t∈v7):(Pc.iG t []).ok D ρ s.heap t:=.mk (R.2 t ht) (λ_ _ q=>by cases q) ⟨rfl,λ_ q=>nomatch q⟩ rfl
theorem RunIn.own(R:RunIn D s a ob xs):Own D (eJ s.heap (BB a)) [] (BB a) [.iG 265 [],.iG 277 [],.iG 284 [],.fix ob xs] s:=⟨
 (λ_ _ e=>kQ _ e),
 (λ_ h=>gJ _ h),
 R.nd,
 (rfl),
 (λi p x e y=>by
  match i,e,y with
  | 0,e,y=>obtain rfl:=aD e;obtain rfl:=aD y;exact JW R (.head _)
  | 1,e,y=>obtain rfl:=aD e;obtain rfl:=aD y;exact JW R (.tail _ (.head _))
  | 2,e,y=>obtain rfl:=aD e;obtain rfl:=aD y;exact JW R (.tail _ (.tail _ (.head _)))
  | 3,e,y=>obtain rfl:=aD e;obtain rfl:=aD y;exact .mk R.10 (.ty R.11 (by decide)) ⟨rfl,R.11,R.12.elim λvs z=>z.elim λn z=>⟨vs,n,z.1,S9 z.2 _⟩⟩ trivial
  | i+4,e,y=>exact bK e),
 (R.13),
 (R.14),
 (R.15)⟩
theorem all3{P:cI->Prop}(h1:P 265)(h2:P 277)(h3:P 284):∀t∈v7,P t:=λt h=>by
 refine nI h (λe0=>?_) λh=>?_
 ·subst e0;exact h1
 ·refine nI h (λe0=>?_) λh=>?_
  ·subst e0;exact h2
  ·refine nI h (λe0=>?_) λh=>?_
   ·subst e0;exact h3
   ·cases h
inductive aE0(s s':aM)(v:aJ):Prop where
 | mk (v:v= .bool true) (gens:s'.gens= #[]) (os:s'.os=s.os) (tab:∀t∈v7,∃ps,s'.heap.get? t=some (DX ps)) (old:∀b o,s.heap.get? b=some o->b∈v7∨s'.heap.get? b=some o)
theorem law_run(W:Wld D)(b:fC D.K (gC D.K 304) vX 1 0 [] [])(R:RunIn D s a ob xs)(hz:xs.length≤1000){A:cF}(h1:A.depth+20 < 900)(h2:A.units+10 * 20 < 9000)(hf:A.frames=some [])(hh:A.handled=none):bZ (c0 D.prog D.w) A (call (.ref 304) [.ref a] []) (λv s'=>aE0 s s' v) rD s:=by
 refine bM (YJ (xs:=⟨ob,xs⟩) W b ⟨h1,h2,⟨[],hf⟩,R.pf,R.own⟩ hf hh hz (a:=a) rfl) (λv s' p=>?_) λ_ _ e=>e
 obtain @⟨b,H',ρ',le,r,o,q⟩:=p
 refine d5 q λu5 e=>?_;subst u5
 have g:∀i < 4,H'[i]? = [Pc.iG 265 zsL,.iG 277 zsC,.iG 284 zsD,.fix ob xs][i]? :=λi h=>by rw[←e,b8 h]
 have tb:∀(i:Nat) (t:cI) (zs:List (Pos×Nat)),H'[i]? =some (.iG t zs)->ρ'[i]? =some t->∃ps,s'.heap.get? t=some (DX ps):=λi t zs h1 h2=>by
  refine wF ((o.5 i _ _ h1 h2).1) λo' t1 dE _=>?_;subst dE
  exact⟨_,t1⟩
 refine wF ((o.5 3 _ _ (g 3 (by decide)) (le.1 3 a rfl)).1) λ_ t2 dE _=>?_;subst dE
 refine⟨r,o.6,o.7.trans R.14.symm,λt ht=>?_,λb ob' e=>?_⟩
 ·refine nI ht (λe0=>?_) λht=>?_
  ·subst e0;exact tb 0 265 zsL (g 0 (by decide)) (le.1 0 265 rfl)
  ·refine nI ht (λe0=>?_) λht=>?_
   ·subst e0;exact tb 1 277 zsC (g 1 (by decide)) (le.1 1 277 rfl)
   ·refine nI ht (λe0=>?_) λht=>?_
    ·subst e0;exact tb 2 284 zsD (g 2 (by decide)) (le.1 2 284 rfl)
    ·cases ht
 ·by_cases q:b∈BB a
  ·cases TC q with
   | inl q=>exact .inl q
   | inr q=>subst q;obtain rfl:=aD (R.10.symm.trans e);exact .inr t2
  ·exact .inr (o.1 _ _ (R.keep e q))
end
theorem saidL:PySem.Challenge.rw_ux0034_02.wellSaid=true:=by
 unfold OpenLaw.wellSaid
 iterate 18 refine look_both ?_ (by decide +kernel)
 unfold OpenRow.wellSaid
 iterate 2 refine look_both ?_ (by decide +kernel)
 unfold OpenRow.partSaid
 iterate 13 refine look_both ?_ (by decide +kernel)
 unfold looksOpen
 iterate 3 refine look_both ?_ (by decide +kernel)
 decide +kernel
theorem hd.tw6997932946544875998:True:=⟨⟩
theorem hd.tw11513489003450839364:True:=⟨⟩
theorem hd.tw5727495731531949257:True:=⟨⟩
theorem hd.tw14469182797978768247:True:=⟨⟩
theorem hd.tw15009173949682060117:True:=⟨⟩
theorem hd.tw893137082321284019:True:=⟨⟩
theorem hd.tw17058166996486771748:True:=⟨⟩
theorem hd.tw15497791716928828153:True:=⟨⟩
theorem hd.tw11693258092547772106:True:=⟨⟩
theorem hd.tw7427411563360338177:True:=⟨⟩
theorem hd.tw15999404234225547064:True:=⟨⟩
theorem hd.tw826180646817822160:True:=⟨⟩
theorem hd.tw5804843865802868776:True:=⟨⟩
theorem hd.tw11257713925879054527:True:=⟨⟩
theorem hd.tw5860129760369596817:True:=⟨⟩
theorem hd.tw6945325130093623359:True:=⟨⟩
theorem hd.tw17257173465149494714:True:=⟨⟩
theorem hd.tw13548124558842535249:True:=⟨⟩
theorem hd.tw5019779354490680658:True:=⟨⟩
theorem hd.tw6152981223194531009:True:=⟨⟩
theorem hd.tw7562066621460479855:True:=⟨⟩
theorem hd.tw13403894056764834993:True:=⟨⟩
theorem hd.tw15817739405329848341:True:=⟨⟩
theorem hd.tw4153587878327112064:True:=⟨⟩
theorem hd.tw7954022839337599249:True:=⟨⟩
theorem hd.tw17133566892352576458:True:=⟨⟩
theorem hd.tw6837704874054251680:True:=⟨⟩
theorem hd.tw13612830711409150470:True:=⟨⟩
theorem hd.tw6433973699717608173:True:=⟨⟩
theorem hd.tw15052752960402935660:True:=⟨⟩
theorem hd.tw14348552707202098355:True:=⟨⟩
theorem hd.tw14971878586221334332:True:=⟨⟩
theorem hd.tw9709073966801621590:True:=⟨⟩
theorem hd.tw82300018779286415:True:=⟨⟩
theorem hd.tw43384653314860418:True:=⟨⟩
theorem hd.tw6933562540147155180:True:=⟨⟩
theorem hd.tw4655705638598906800:True:=⟨⟩
theorem hd.tw13214145603774018873:True:=⟨⟩
theorem hd.tw11988720858263494795:True:=⟨⟩
theorem hd.tw6788029928833092824:True:=⟨⟩
theorem hd.tw1731875299379027824:True:=⟨⟩
theorem hd.tw3966281820911499932:True:=⟨⟩
theorem hd.tw2845966028866938362:True:=⟨⟩
theorem hd.tw12923380237140775829:True:=⟨⟩
theorem hd.tw5529821557260402199:True:=⟨⟩
theorem hd.tw1944504369077830016:True:=⟨⟩
theorem hd.tw882893469326859868:True:=⟨⟩
theorem hd.tw16624150136650608520:True:=⟨⟩
theorem hd.tw8154684933122916543:True:=⟨⟩
theorem hd.tw1413174768022740861:True:=⟨⟩
theorem hd.tw5434698040693932060:True:=⟨⟩
theorem hd.tw202728956601336389:True:=⟨⟩
theorem hd.tw8102964069444367078:True:=⟨⟩
theorem hd.tw12448952742096070163:True:=⟨⟩
theorem hd.tw18188287197678335648:True:=⟨⟩
theorem hd.tw15114544219447212027:True:=⟨⟩
theorem hd.tw12161273550846044928:True:=⟨⟩
theorem hd.tw13940859661378993245:True:=⟨⟩
theorem hd.tw3469156724231326115:True:=⟨⟩
theorem hd.tw2245311599384607468:True:=⟨⟩
theorem hd.tw10392483242637480492:True:=⟨⟩
theorem hd.tw15593747137696908787:True:=⟨⟩
theorem hd.tw7050028721970766094:True:=⟨⟩
theorem hd.tw2056524150232711516:True:=⟨⟩
theorem hd.tw11474934111426491260:True:=⟨⟩
theorem hd.tw2377584763577142263:True:=⟨⟩
theorem hd.tw1492920272029315988:True:=⟨⟩
theorem hd.tw10965685287471913894:True:=⟨⟩
theorem hd.tw14779043918684391712:True:=⟨⟩
theorem hd.tw9106768218121229700:True:=⟨⟩
theorem hd.tw14301370601945162044:True:=⟨⟩
theorem hd.tw2492269483886926087:True:=⟨⟩
theorem hd.tw12306506108289384701:True:=⟨⟩
theorem hd.tw8735068509669416409:True:=⟨⟩
theorem hd.tw3119782221384844768:True:=⟨⟩
theorem hd.tw6480591704842671431:True:=⟨⟩
theorem hd.tw17139283298595857740:True:=⟨⟩
theorem hd.tw11060312919212673600:True:=⟨⟩
theorem hd.tw7718342968863221448:True:=⟨⟩
theorem hd.tw6047057218342449154:True:=⟨⟩
theorem hd.tw5152858519953853985:True:=⟨⟩
theorem hd.tw9793919083051461601:True:=⟨⟩
theorem hd.tw12805717491534875087:True:=⟨⟩
theorem hd.tw5753498334791517567:True:=⟨⟩
theorem hd.tw10865293071261761346:True:=⟨⟩
theorem hd.tw469052561074611798:True:=⟨⟩
theorem hd.tw5400462925646382545:True:=⟨⟩
theorem hd.tw1289711181234957809:True:=⟨⟩
theorem hd.tw14477324352427246711:True:=⟨⟩
theorem hd.tw9663187027716159180:True:=⟨⟩
theorem hd.tw7141079179341789797:True:=⟨⟩
theorem hd.tw10574863511915220739:True:=⟨⟩
theorem hd.tw904164649452708584:True:=⟨⟩
theorem hd.tw14738598200318543233:True:=⟨⟩
theorem hd.tw5402163456391837881:True:=⟨⟩
theorem hd.tw9001952124189092007:True:=⟨⟩
theorem hd.tw5453995407635669502:True:=⟨⟩
theorem hd.tw14349493244449400994:True:=⟨⟩
theorem hd.tw14178633725558897709:True:=⟨⟩
theorem hd.tw13945635085816249577:True:=⟨⟩
theorem hd.tw11902867308383104635:True:=⟨⟩
theorem hd.tw173135792938478064:True:=⟨⟩
theorem hd.tw4179265321548180786:True:=⟨⟩
theorem hd.tw11290624176303221618:True:=⟨⟩
theorem hd.tw11581430092928222297:True:=⟨⟩
theorem hd.tw8760525629693598002:True:=⟨⟩
theorem hd.tw16671641837757964955:True:=⟨⟩
theorem hd.tw7880933706046927162:True:=⟨⟩
theorem hd.tw16047902330302748761:True:=⟨⟩
theorem hd.tw13038027109382074104:True:=⟨⟩
theorem hd.tw8718731696551146652:True:=⟨⟩
theorem hd.tw14258861960119941024:True:=⟨⟩
theorem hd.tw12266130348658892483:True:=⟨⟩
theorem hd.tw13784274549805495388:True:=⟨⟩
theorem hd.tw2008280420872713622:True:=⟨⟩
theorem hd.tw17520182998317773022:True:=⟨⟩
theorem hd.tw2928506496150146841:True:=⟨⟩
theorem hd.tw2320562150761524678:True:=⟨⟩
theorem hd.tw10890545106594554739:True:=⟨⟩
theorem hd.tw5753108497856023020:True:=⟨⟩
theorem hd.tw11133436300934848493:True:=⟨⟩
theorem hd.tw1651321946728639595:True:=⟨⟩
theorem hd.tw1099665936852001206:True:=⟨⟩
theorem hd.tw13290102881659926906:True:=⟨⟩
theorem hd.tw15678427648793608808:True:=⟨⟩
theorem hd.tw7213217687226886720:True:=⟨⟩
theorem hd.tw11562092783540118793:True:=⟨⟩
theorem hd.tw1392663872802866975:True:=⟨⟩
theorem hd.tw13094651006523987230:True:=⟨⟩
theorem hd.tw14165883053135146787:True:=⟨⟩
theorem hd.tw5598743033335487785:True:=⟨⟩
theorem hd.tw2820072796180569060:True:=⟨⟩
theorem hd.tw1144219476795260070:True:=⟨⟩
theorem hd.tw3654699203649154360:True:=⟨⟩
theorem hd.tw8866599676168509812:True:=⟨⟩
theorem hd.tw1239417350240595311:True:=⟨⟩
theorem hd.tw4193394213414652919:True:=⟨⟩
theorem hd.tw8589531953792132672:True:=⟨⟩
theorem hd.tw8186162423539702082:True:=⟨⟩
theorem hd.tw11602357821171611496:True:=⟨⟩
theorem hd.tw3139340090392033464:True:=⟨⟩
theorem hd.tw12377984385833612098:True:=⟨⟩
theorem hd.tw5016847194895110630:True:=⟨⟩
theorem hd.tw15695530338428521049:True:=⟨⟩
theorem hd.tw11545326874067876449:True:=⟨⟩
theorem hd.tw10848958470259746749:True:=⟨⟩
theorem hd.tw8786170107641011926:True:=⟨⟩
theorem hd.tw11595816992686948428:True:=⟨⟩
theorem hd.tw12206261785789890669:True:=⟨⟩
theorem hd.tw17369972315388169072:True:=⟨⟩
theorem hd.tw5338192173278452256:True:=⟨⟩
theorem hd.tw2626526391636417999:True:=⟨⟩
theorem hd.tw334508204125360182:True:=⟨⟩
theorem hd.tw7410339088278563437:True:=⟨⟩
theorem hd.tw11345552808863079754:True:=⟨⟩
theorem hd.tw4393534728107590735:True:=⟨⟩
theorem hd.tw10742329881321767594:True:=⟨⟩
theorem hd.tw6366568345164524182:True:=⟨⟩
theorem hd.tw2848372389219974284:True:=⟨⟩
theorem hd.tw9367548023483310234:True:=⟨⟩
theorem hd.tw11587189459589271:True:=⟨⟩
theorem hd.tw7568168241831918506:True:=⟨⟩
theorem hd.tw1227460844418999599:True:=⟨⟩
theorem hd.tw14452056930019356448:True:=⟨⟩
theorem hd.tw1887411990797159005:True:=⟨⟩
theorem hd.tw14025536341287964139:True:=⟨⟩
theorem hd.tw15244663214663843479:True:=⟨⟩
theorem hd.tw10860967145484525269:True:=⟨⟩
theorem hd.tw15279526353798705772:True:=⟨⟩
theorem hd.tw17690202650392844338:True:=⟨⟩
theorem hd.tw17749788690761918544:True:=⟨⟩
theorem hd.tw12871633749768148069:True:=⟨⟩
theorem hd.tw101922433275776466:True:=⟨⟩
theorem hd.tw14742048150501957901:True:=⟨⟩
theorem hd.tw11786416389324129043:True:=⟨⟩
theorem hd.tw5125498721168091467:True:=⟨⟩
theorem hd.tw4773458834280566362:True:=⟨⟩
theorem hd.tw12999642992478983476:True:=⟨⟩
theorem hd.tw7466097812155078355:True:=⟨⟩
theorem hd.tw3964923869552250717:True:=⟨⟩
theorem hd.tw9914644556707033377:True:=⟨⟩
theorem hd.tw14290423060000269657:True:=⟨⟩
theorem hd.tw10665278153753488358:True:=⟨⟩
theorem hd.tw6700225418162832351:True:=⟨⟩
theorem hd.tw18421135390528765203:True:=⟨⟩
theorem hd.tw313985304670684521:True:=⟨⟩
theorem hd.tw3806229682564492635:True:=⟨⟩
theorem hd.tw764280391356695847:True:=⟨⟩
theorem hd.tw2359293500649179588:True:=⟨⟩
theorem hd.tw10075818427768521578:True:=⟨⟩
theorem hd.tw9990854237507128546:True:=⟨⟩
theorem hd.tw9084613747539263150:True:=⟨⟩
theorem hd.tw13432671492455668465:True:=⟨⟩
theorem hd.tw13434124577421800626:True:=⟨⟩
theorem hd.tw1094403024686072914:True:=⟨⟩
theorem hd.tw8923540963333682522:True:=⟨⟩
theorem hd.tw2042042928548689241:True:=⟨⟩
theorem hd.tw10726158900718542740:True:=⟨⟩
theorem hd.tw9468994536159387368:True:=⟨⟩
theorem hd.tw9769410230878716277:True:=⟨⟩
theorem hd.tw17781441561105844256:True:=⟨⟩
theorem hd.tw2842910388789499201:True:=⟨⟩
theorem hd.tw15381594909902210864:True:=⟨⟩
theorem hd.tw7822540148344514165:True:=⟨⟩
theorem hd.tw236607690984116086:True:=⟨⟩
theorem hd.tw4995346963289987101:True:=⟨⟩
theorem hd.tw4615014568471574654:True:=⟨⟩
theorem hd.tw5697700964702106522:True:=⟨⟩
theorem hd.tw24441621105271749:True:=⟨⟩
theorem hd.tw1459795914260650307:True:=⟨⟩
theorem hd.tw3881254895492011321:True:=⟨⟩
theorem hd.tw7341936335531581999:True:=⟨⟩
theorem hd.tw2403230823933928637:True:=⟨⟩
theorem hd.tw17168490086171053022:True:=⟨⟩
theorem hd.tw1746000170988532097:True:=⟨⟩
theorem hd.tw14330326232105547283:True:=⟨⟩
theorem hd.tw12455103086781849638:True:=⟨⟩
theorem hd.tw7746754953690816364:True:=⟨⟩
theorem hd.tw16980693693005314516:True:=⟨⟩
theorem hd.tw12163800244546989999:True:=⟨⟩
theorem hd.tw2835518560102734989:True:=⟨⟩
theorem hd.tw15864853391178135988:True:=⟨⟩
theorem hd.tw623696288853445375:True:=⟨⟩
theorem hd.tw17563727119780254191:True:=⟨⟩
theorem hd.tw2730348047652872521:True:=⟨⟩
theorem hd.tw8688225022689949262:True:=⟨⟩
theorem hd.tw15003820354723822195:True:=⟨⟩
theorem hd.tw3312005496115186892:True:=⟨⟩
theorem hd.tw7244771537619644807:True:=⟨⟩
theorem hd.tw8519383621262380410:True:=⟨⟩
theorem hd.tw16956393499946987019:True:=⟨⟩
theorem hd.tw12371508496049959679:True:=⟨⟩
theorem hd.tw8318406996274602851:True:=⟨⟩
theorem hd.tw3415516956984166381:True:=⟨⟩
theorem hd.tw2523712352050760426:True:=⟨⟩
theorem hd.tw7382406923237350546:True:=⟨⟩
theorem hd.tw5600417157310758611:True:=⟨⟩
theorem hd.tw15251410585421389472:True:=⟨⟩
theorem hd.tw10140960926464624683:True:=⟨⟩
theorem hd.tw17798512609682917413:True:=⟨⟩
theorem hd.tw8502823132190071803:True:=⟨⟩
theorem hd.tw15522919220213378971:True:=⟨⟩
theorem hd.tw15492712182305420176:True:=⟨⟩
theorem hd.tw11579371501097318840:True:=⟨⟩
theorem hd.tw11037928916309703038:True:=⟨⟩
theorem hd.tw13826536605769969390:True:=⟨⟩
theorem hd.tw5030248397850124408:True:=⟨⟩
theorem hd.tw1219998159448165659:True:=⟨⟩
theorem hd.tw9736849876406862071:True:=⟨⟩
theorem hd.tw9249187085595546751:True:=⟨⟩
theorem hd.tw10429980902143460950:True:=⟨⟩
theorem hd.tw13463945692020685540:True:=⟨⟩
theorem hd.tw4118430333363257053:True:=⟨⟩
theorem hd.tw11824619205240528852:True:=⟨⟩
theorem hd.tw7502770682046562993:True:=⟨⟩
theorem hd.tw11663534713319249077:True:=⟨⟩
theorem hd.tw16874452486922954552:True:=⟨⟩
theorem hd.tw14273163943010146383:True:=⟨⟩
theorem hd.tw11102082477538948765:True:=⟨⟩
theorem hd.tw5320063200073466437:True:=⟨⟩
theorem hd.tw10475400870986221716:True:=⟨⟩
theorem hd.tw104784629726787265:True:=⟨⟩
theorem hd.tw5632257065526106720:True:=⟨⟩
theorem hd.tw8732141156338659416:True:=⟨⟩
theorem hd.tw13228938541287761243:True:=⟨⟩
theorem hd.tw13111144742108753517:True:=⟨⟩
end Internal
open PySem PySem.W PySem.Calls PyProof.Rows
set_option Elab.async true
set_option tactic.hygienic true
set_option maxHeartbeats 16000000 in
theorem Internal.hd:PySem.Challenge.rw_ux0034_02.Holds:=by
 (w_on;refine PySem.W.holds_law Internal.saidL λsaid=>?_;k_head;(case hw=>w_witness2))
 intro w s₀ s₁ mg mb G Y fa o pm cd doc dV kV ho hd' hcd hD hmg hg args vals as hpre hlay hrd hwl hlo
 have KX:=km_in_of Y
 have TX1:=km_tabs_of Y 265 (by decide)
 have TX2:=km_tabs_of Y 277 (by decide)
 have TX3:=km_tabs_of Y 284 (by decide)
 have TG:=G.T.g
 have TB:=G.T.b
 have TN:=G.T.nolimit
 have TND:=G.T.nodigits
 have TBI:=G.T.builtins
 have TBM:=G.T.bmain
 have hfa:fa=304:=by
  have h1:=mg_of (n:=Str.ofString "law") (v:=.ref 304) KX TG ⋯
  exact Value.ref.inj (Option.some.inj (hmg.symm.trans h1))
 subst hfa
 have hc1:CodeHd s₁.heap 269 265:=codeHd_of_K KX ⋯
 have hc2:CodeHd s₁.heap 281 277:=codeHd_of_K KX ⋯
 have hc3:CodeHd s₁.heap 286 284:=codeHd_of_K KX ⋯
 have hno:Internal.noList (Internal.hd.heap_1_1 w.params)=true:=⋯
 have hn1:(Internal.hd.heap_1_1 w.params).lookup 265=none:=⋯
 have hn2:(Internal.hd.heap_1_1 w.params).lookup 277=none:=⋯
 have hn3:(Internal.hd.heap_1_1 w.params).lookup 284=none:=⋯
 clear ho hd' hcd hD G Y hmg
 wrow_args hpre hlay hrd hwl hlo
 rename_i xs _ _ _ _ _ _ _ a vs _ hL _ _ _ hI _ hc _
 obtain⟨oL,hoL,hcL,kL,hdL⟩:=hL
 obtain⟨bm,ob,b1,_,b3⟩:=TBM
 have R:Internal.RunIn ⟨PySem.Challenge.rw_ux0034_02.row.prog,w,Internal.hd.heap_1_1 w.params,mb,s₁.os,s₁.drawn⟩ s₁ a oL xs:=⟨KX,Internal.all3 TX1 TX2 TX3,⟨mg,bm,ob,TG,b1,b3⟩,TB,TBI,TN,TND,hno,Internal.all3 hn1 hn2 hn3,hoL,hcL,⟨vs,kL,hdL,hI⟩,hg,rfl,rfl⟩
 have W:Internal.Wld ⟨PySem.Challenge.rw_ux0034_02.row.prog,w,Internal.hd.heap_1_1 w.params,mb,s₁.os,s₁.drawn⟩:=⟨Internal.FnRaw.k ⟨⋯,⋯,⋯⟩,Internal.FnRaw.k ⟨⋯,⋯,⋯⟩,Internal.FnRaw.k ⟨⋯,⋯,⋯⟩,Internal.FnRaw.k ⟨⋯,⋯,⋯⟩,Internal.FnRaw.k ⟨⋯,⋯,⋯⟩,Internal.FnRaw.k ⟨⋯,⋯,⋯⟩,Internal.FnRaw.k ⟨⋯,⋯,⋯⟩,Internal.FnRaw.k ⟨⋯,⋯,⋯⟩,Internal.FnRaw.k ⟨⋯,⋯,⋯⟩,Internal.FnRaw.k ⟨⋯,⋯,⋯⟩,Internal.FnRaw.k ⟨⋯,⋯,⋯⟩,Internal.FnRaw.k ⟨⋯,⋯,⋯⟩,Internal.FnRaw.k ⟨⋯,⋯,⋯⟩,Internal.FnRaw.k ⟨⋯,⋯,⋯⟩,Internal.FnRaw.k ⟨⋯,⋯,⋯⟩,Internal.FnRaw.k ⟨⋯,⋯,⋯⟩,Internal.FnRaw.k ⟨⋯,⋯,⋯⟩,Internal.FnRaw.k ⟨⋯,⋯,⋯⟩,Internal.FnRaw.k ⟨⋯,⋯,⋯⟩,Internal.FnRaw.k ⟨⋯,⋯,⋯⟩,Internal.bwd1 (λ_ S=>⋯),Internal.bwk (λ_ _ _ S=>⋯),Internal.bw2 (λ_ _ S=>⋯),Internal.bwA47 (Internal.tokAt (Internal.hd.heap_1_1 w.params)) (λ_ _ _ S=>⋯),Internal.bwB47 (λ_ _ _ _ S=>⋯),Internal.bwC47 (λ_ _ _ _ _ S=>⋯),Internal.bwD47 (λ_ _ _ _ S=>⋯),Internal.bw2 (λ_ _ S=>⋯),Internal.bw1 (λ_ S=>⋯),Internal.bw2 (λ_ _ S=>⋯),Internal.bw1 (λ_ S=>⋯),Internal.bw1 (λ_ S=>⋯),Internal.bw2 (λ_ _ S=>⋯),Internal.bw2 (λ_ _ S=>⋯),Internal.bw2 (λ_ _ S=>⋯),Internal.bw1 (λ_ S=>⋯),Internal.bw1 (λ_ S=>⋯),Internal.bw2 (λ_ _ S=>⋯),Internal.bw4 (λ_ _ _ _ S=>⋯),Internal.bw7 (λ_ _ _ _ _ _ _ S=>⋯),Internal.bw1 (λ_ S=>⋯),⟨⋯,⋯⟩,⟨⋯,⋯,⋯⟩,⟨⋯,⋯,⋯⟩,Internal.bwA (λ_ _ _=>⋯),Internal.glW ⋯,Internal.metW ⋯,Internal.attW ⋯,Internal.bndW ⋯,Internal.clsW ⋯,Internal.patW ⟨⋯⟩ ⟨⋯⟩⟩
 refine wpAny_mono (Internal.law_run (A:=callerA) W (Internal.bw1 (λ_ S=>⋯)) R (by omega) (by decide) (by decide) rfl rfl) (λv s' q=>?_) (λ_ _ e=>e.elim)
 obtain⟨rfl,hg',hos',h1,old⟩:=q
 have hct:=Internal.all3 (P:=λt=>∃c,CodeHd s₁.heap c t) ⟨_,hc1⟩ ⟨_,hc2⟩ ⟨_,hc3⟩
 have hTX:=Internal.all3 (P:=λt=>s₁.heap.get? t=some (tabObj #[])) TX1 TX2 TX3
 refine⟨.inl ⟨_,.bool true,[],rfl,λ_=>rfl,.bool true, ?_,λ_=>⟨.nil,λ_ h=>by cases h⟩⟩,⟨λb o' e=>?_,λb o' e=>?_⟩,hos',.of_eq hg'⟩
 ·show _=true
  first | kernel_rfl | w_fin
 ·rcases old b o' e with h | h
  ·obtain⟨ps,h1⟩:=h1 b h
   obtain⟨c,hcode⟩:=hct b h
   rw[hTX b h] at e;cases e
   exact .inr (.inl ⟨(hcode.tab (hTX b h)).isCodeTable,rfl, #[],ps,rfl,by rw[h1];simp [tabObj]⟩)
  ·exact .inl h
 ·rcases old b o' e with h | h
  ·obtain⟨ps,h1⟩:=h1 b h
   exact⟨_,h1⟩
  ·exact⟨_,h⟩
theorem PySem.Challenge.cw_ux0034_02_holds : PySem.Challenge.rw_ux0034_02.Holds :=
  Internal.hd
