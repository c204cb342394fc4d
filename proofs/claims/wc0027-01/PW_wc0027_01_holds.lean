import PyProof.Rows.All
import PyProof.Meets
import PyProof.RaisesAny
import PyProof.RulesRaise
import PyProof.AttrMissHeap
import PyProof.FString2
import PyProof.FString5
import PyProof.PlainList
import PyProof.SeqRoads2
import PyProof.EnumMake
import PyProof.ExcFactsAll.TypeError
import PyProof.ExcFactsAll.ZeroDivisionError
import PyProof.StationsW
import PyProof.ExcStrAll.TypeError
import PyProof.ExcStrAll.ZeroDivisionError
import PyProof.ExcStrCall
import PyProof.LetGo
import PyProof.NsDelKeeps
import PyProof.ReprNest
import PyProof.ReprReads
import PyProof.Rows.Catch
import PyProof.Rows.CatchPack
import PyProof.Rows.FactsExc_ZeroDivisionError
import PyProof.Rows.CatchTuple
import PyProof.Rows.RaiseClass
import OpenK.KCall
import KE.KEqDict
import KE.KIntText
import KE.KRevIter
import KE.KTypeName
import Wide.FinOn
import OpenK.AllK
import Wide.All
import PySem.Challenge.RW_wc0027_01
set_option Elab.async false
set_option bootstrap.genMatcherCode false
set_option genSizeOf false
set_option genInjectivity false
set_option linter.all false
set_option genCtorIdx false
set_option tactic.hygienic false
set_option maxRecDepth 100000
open Nat renaming add_assoc->eZ,add_comm->dR,add_le_add->cG,add_le_add_left->u6,add_le_add_right->bW,add_sub_cancel_left->fq,div_add_mod->j0,exists_eq_add_of_le->kH,le_add_left->bj,le_add_right->bb,le_antisymm->ea,le_of_ble_eq_true->eI,le_of_eq->dc,le_of_lt->dF,le_of_lt_succ->lR,le_of_not_le->pM,le_of_succ_le->iP,le_refl->az,le_succ->kG,le_total->lQ,le_trans->aa,lt_add_of_pos_right->fm,lt_irrefl->aW,lt_of_lt_of_le->af,lt_of_succ_lt->lP,lt_or_ge->lO,lt_succ_of_le->fk,lt_succ_self->fK,lt_trans->gw,min_eq_left->iz,min_eq_right->jl,min_le_left->uY,mul_comm->ew,mul_le_mul->gV,mul_le_mul_left->c9,mul_le_mul_right->fg,mul_succ->eY,ne_of_gt->b9,ne_of_lt->bG,not_le_of_lt->pK,not_lt->pJ,pow_le_pow_right->gu,sub_add_cancel->cF,sub_le_sub_right->uU,sub_pos_of_lt->iO,succ_le_succ->eQ,succ_ne_zero->pG,succ_pos->jk,two_mul->uT,zero_add->eu,zero_le->bD
open PySem renaming annotationsOf->iM,assignEach->dU,bootBuiltins->bB,bootMainNames->gH,builtinLookup_eq_fast->bw,builtinsNs->cM,callEnvC->bv,call_meets->gt,cellsFrom->dG,codeAmong->iD,codeAny_of_tree->fj,compTurn->iy,compareOp->de,constantsAlone->eG,foldedSetIterable->gC,isSubtype->dv,isSubtype_type->cW,letOwnedTupleGo->d0,mainGlobals->aP,plainExc_TypeError->gq,recursionLimit->bL,sizeLine->aM,sizeLine_eq->av,starEach->bY,strKind_is->gp,swappedStores->iL,sysModules->du,typeIs_int->gn,typeIs_str->c8,typeLookup->en,typeLookup_type->cB,wpAny_Assign_Name->dp,wpAny_BinOp->fV,wpAny_Call_NameR->bX,wpAny_Call_method_late->cQ,wpAny_Constant_int->c7,wpAny_Expr_any->dT,wpAny_List->fI,wpAny_Name->bU,wpAny_Return_some->d6,wpAny_assign_Tuple->gm,wpAny_bind->ab,wpAny_bindName->gk,wpAny_call->gj,wpAny_execs_cons->ay,wpAny_execs_nil->cz,wpAny_field->gB,wpAny_holding->aX,wpAny_isInstance->gR,wpAny_isTrue_Compare1->fG,wpAny_list_append_plain->gQ,wpAny_loadName_local->br,wpAny_mono->bE,wpAny_newObj_type->fB,wpAny_pure->am,wpAny_pyReprObj_gives->ij,wpAny_raiseErrorMade->fU,wpAny_setField->iw,wpAny_specialOf->bQ,wpAny_standAt->bf,wpAny_storeName_local->eB,wpAny_truthy_bool->dl,wpAny_with_toks->bP
open Option renaming bind_eq_some_iff->aA,bind_some->ac,isSome_iff_exists->dB,map_eq_some_iff->ba,map_some->cw,none_or->lN
open List renaming all_cons->jP,all_eq_true->aj,any_eq_true->pO,append_assoc->cT,append_nil->cC,cons_append->dS,contains_cons->kj,contains_iff_mem->cJ,count_cons->fy,drop_drop->lU,drop_eq_getElem_cons->gc,drop_zero->lT,filterMap_cons->fC,filterMap_cons_none->jO,filterMap_cons_some->fb,flatMap_append->jB,flatMap_cons->bo,flatten_cons->fw,foldl_cons->j3,forIn_cons->uZ,getD_eq_getElem?_getD->dK,getElem?_cons_succ->ej,getElem?_eq_getElem->aL,getElem?_eq_none_iff->eF,getElem?_eq_some_iff->bO,getElem?_map->cg,getElem?_replicate->fu,getElem?_set_ne->uW,isEmpty_iff->eU,length->uV,length_append->aC,length_cons->aK,length_drop->fL,length_eq_zero_iff->cK,length_map->aY,length_nil->j2,length_pos_iff->gM,length_range->iQ,length_reverse->gL,length_singleton->iH,length_take->pN,lookup_append->io,lookup_cons->aG,mapM_cons->fX,map_append->dM,map_congr_left->dC,map_cons->ax,map_map->cf,mem_append->ec,mem_append_left->ei,mem_append_right->cr,mem_cons->aw,mem_cons_of_mem->ah,mem_cons_self->ag,mem_iff_getElem?->nX,mem_map->bg,mem_of_getElem?->bz,mem_range->gW,mem_singleton->aE,nodup_append->lS,nodup_cons->dd,not_mem_nil->eT,of_mem_zip->j1,range->bl,replicate->aJ,replicate_succ->gK,reverse_cons->dX,size_toArray->bI,sum_cons->cU,take_of_length_le->ey,zip_cons_cons->eh
open Int renaming add_mul->eD,ediv_ediv_of_nonneg->kJ,ediv_lt_of_lt_mul->c6,ediv_nonneg->bT,emod_lt_of_pos->bt,emod_nonneg->bM,eq_ofNat_of_zero_le->fx,fdiv_eq_ediv_of_nonneg->ez,fmod_eq_emod_of_nonneg->fY,le_of_lt->al,le_refl->dL,le_trans->ee,lt_of_le_of_lt->eV,lt_of_lt_of_le->bJ,mul_comm->ed,mul_ediv_add_emod->bA,mul_le_mul_of_nonneg_left->dZ,mul_le_mul_of_nonneg_right->bd,mul_nonneg->d8,natAbs_of_nonneg->uX,natCast_add->bC,natCast_mul->j4,natCast_nonneg->aI,ne_of_gt->bh,ofNat_le->cj,ofNat_lt->cy,ofNat_sub->rR,one_mul->kI,pow_add->dY,pow_succ->jm,toNat_natCast->aQ,toNat_of_nonneg->gN
open Bool renaming and_eq_true->an,and_eq_true_iff->aF,false_eq_true->eX,false_ne_true->bn,not_eq_true'->eA,or_false->rS
open PySem.Str renaming empty_append->gU,join->dV,length->fJ,length_append->gE,ofString->ao
open PySem.Heap renaming get?_none_of_le->fZ,get?_push_of_some->aq,get?_push_size->au,get?_update_other->cR,get?_update_self->cV,lt_size->aB,size_push->eJ
open PySem.Builtin.Range renaming rangeSize->aD
open PySem.NameKind renaming cell->gI,free->aT
open PySem.Builtin renaming bitAnd->cY,bitNot->fD,bitOr->fO,bitXor->iC,divisionGoesByPylong->aU
open PySem.Builtin.Int renaming intBits->bc
open PySem.PyData renaming canLay0->b0,canLayAll0->dH,depth->cx,depthAll->dJ,eqv->dA,eqvAll->bp
open PySem.Calls renaming callWith_builtin->dQ,callWith_function->d7,loadGlobal_builtin->gr,spliced_cons->bq,spliced_nil->bR
open PySem.Value renaming none->bV,ref->dz,type->eH
open PySem.Builtin.Str renaming occurrences->cq,tooLong->ga
open PySem.Obj renaming data_mapFields->er,isFreed_of_fields->im,mapFields->cX,mapSeq->hY
open Array renaming empty_append->km,getElem?_eq_some_iff->dg
open Ne renaming symm->dh
open LawfulBEq renaming eq_of_beq->dw
open PySem.Txt renaming join->fW,replace->dE
open PySem.Heap.DictOf renaming new->d5
open PySem.SeqAt renaming compareEq_reads->eC,compareNe_reads->fH
open PySem.Claim2Try renaming globalOf_of_ns->eP
open PySem.F renaming plainAttrs_list->gF,plainAttrs_str->eW,slot_int_rmul->ib,slot_str_replace->gx
open PySem.Heap.SameBut renaming update->fc
open PySem.Manifest renaming find?->iA,isStub->f9
open PySem.StrLaws renaming glued_eq_join->il,partsFrom->gD
open LawfulMonad renaming pure_bind->gS
open PySem.W renaming behindTheImports->gT,hideAll_get->ix
open PySem.Heap.UpToSlots renaming of_keeps->gX
open ForInStep renaming yield->iB
open PySem.ReadsAll renaming cons->iN
open PySem.Pin renaming staticOf_of_ns->jN
open PySem.Builtin.Bytes renaming buffer?->lq
open PySem.P renaming getItem_str->u5
namespace Mine.Internal
open PySem PySem.W PySem.Calls PyProof.Rows PySem.Challenge
theorem xA{P0:Prop}{P1:Prop}{G:Prop}(h:P0/\P1)(k:P0->P1->G):G:=by obtain ⟨h0,h1⟩:=h;exact k h0 h1
theorem aN{α:Sort _}{P0:α->Prop}{P1:α->Prop}{G:Prop}(h: ∃x:α,P0 x/\P1 x)(k: ∀x:α,P0 x->P1 x->G):G:=by obtain ⟨x,h1,h2⟩:=h;exact k x h1 h2
theorem jj{P0:Prop}{P1:Prop}{P2:Prop}{G:Prop}(h:P0/\P1/\P2)(k:P0->P1->P2->G):G:=by obtain ⟨h0,h1,h2⟩:=h;exact k h0 h1 h2
theorem fT{α:Sort _}{P0:α->Prop}{P1:α->Prop}{P2:α->Prop}{G:Prop}(h: ∃x:α,P0 x/\P1 x/\P2 x)(k: ∀x:α,P0 x->P1 x->P2 x->G):G:=by obtain ⟨x,h1,h2,h3⟩:=h;exact k x h1 h2 h3
theorem d9{α:Sort _}{β:Sort _}{P0:α->β->Prop}{P1:α->β->Prop}{G:Prop}(h: ∃x:α,∃y:β,P0 x y/\P1 x y)(k: ∀x:α,∀y:β,P0 x y->P1 x y->G):G:=by obtain ⟨x,y,h2,h3⟩:=h;exact k x y h2 h3
theorem ek{α:Sort _}{β:Sort _}{P0:α->β->Prop}{P1:α->β->Prop}{P2:α->β->Prop}{G:Prop}(h: ∃x:α,∃y:β,P0 x y/\P1 x y/\P2 x y)(k: ∀x:α,∀y:β,P0 x y->P1 x y->P2 x y->G):G:=by obtain ⟨x,y,h2,h3,h4⟩:=h;exact k x y h2 h3 h4
theorem jL{α:Sort _}{β:Sort _}{P0:α->β->Prop}{P1:α->β->Prop}{P2:α->β->Prop}{P3:α->β->Prop}{G:Prop}(h: ∃x:α,∃y:β,P0 x y/\P1 x y/\P2 x y/\P3 x y)(k: ∀x:α,∀y:β,P0 x y->P1 x y->P2 x y->P3 x y->G):G:=by obtain ⟨x,y,h2,h3,h4,h5⟩:=h;exact k x y h2 h3 h4 h5
theorem lf{α:Sort _}{β:Sort _}{P0:α->β->Prop}{P1:α->β->Prop}{P2:α->β->Prop}{P3:α->β->Prop}{P4:α->β->Prop}{G:Prop}(h: ∃x:α,∃y:β,P0 x y/\P1 x y/\P2 x y/\P3 x y/\P4 x y)(k: ∀x:α,∀y:β,P0 x y->P1 x y->P2 x y->P3 x y->P4 x y->G):G:=by obtain ⟨x,y,h2,h3,h4,h5,h6⟩:=h;exact k x y h2 h3 h4 h5 h6
theorem n9{α:Sort _}{P0:α->Prop}{P1:α->Prop}{P2:α->Prop}{P3:α->Prop}{G:Prop}(h: ∃x:α,P0 x/\P1 x/\P2 x/\P3 x)(k: ∀x:α,P0 x->P1 x->P2 x->P3 x->G):G:=by obtain ⟨x,h1,h2,h3,h4⟩:=h;exact k x h1 h2 h3 h4
theorem ji{P0:Prop}{P1:Prop}{P2:Prop}{P3:Prop}{G:Prop}(h:P0/\P1/\P2/\P3)(k:P0->P1->P2->P3->G):G:=by obtain ⟨h0,h1,h2,h3⟩:=h;exact k h0 h1 h2 h3
theorem iJ{α:Sort _}{β:Sort _}{γ:Sort _}{P0:α->β->γ->Prop}{P1:α->β->γ->Prop}{P2:α->β->γ->Prop}{P3:α->β->γ->Prop}{P4:α->β->γ->Prop}{P5:α->β->γ->Prop}{G:Prop}(h: ∃x:α,∃y:β,∃z:γ,P0 x y z/\P1 x y z/\P2 x y z/\P3 x y z/\P4 x y z/\P5 x y z)(k: ∀x:α,∀y:β,∀z:γ,P0 x y z->P1 x y z->P2 x y z->P3 x y z->P4 x y z->P5 x y z->G):G:=by obtain ⟨x,y,z,h3,h4,h5,h6,h7,h8⟩:=h;exact k x y z h3 h4 h5 h6 h7 h8
theorem kE{α:Sort _}{β:Sort _}{γ:Sort _}{P0:α->β->γ->Prop}{P1:α->β->γ->Prop}{P2:α->β->γ->Prop}{P3:α->β->γ->Prop}{P4:α->β->γ->Prop}{G:Prop}(h: ∃x:α,∃y:β,∃z:γ,P0 x y z/\P1 x y z/\P2 x y z/\P3 x y z/\P4 x y z)(k: ∀x:α,∀y:β,∀z:γ,P0 x y z->P1 x y z->P2 x y z->P3 x y z->P4 x y z->G):G:=by obtain ⟨x,y,z,h3,h4,h5,h6,h7⟩:=h;exact k x y z h3 h4 h5 h6 h7
theorem mP{α:Sort _}{β:Sort _}{γ:Sort _}{P0:α->β->γ->Prop}{P1:α->β->γ->Prop}{P2:α->β->γ->Prop}{P3:α->β->γ->Prop}{G:Prop}(h: ∃x:α,∃y:β,∃z:γ,P0 x y z/\P1 x y z/\P2 x y z/\P3 x y z)(k: ∀x:α,∀y:β,∀z:γ,P0 x y z->P1 x y z->P2 x y z->P3 x y z->G):G:=by obtain ⟨x,y,z,h3,h4,h5,h6⟩:=h;exact k x y z h3 h4 h5 h6
theorem ql{α:Sort _}{β:Sort _}{γ:Sort _}{P0:α->β->γ->Prop}{P1:α->β->γ->Prop}{P2:α->β->γ->Prop}{G:Prop}(h: ∃x:α,∃y:β,∃z:γ,P0 x y z/\P1 x y z/\P2 x y z)(k: ∀x:α,∀y:β,∀z:γ,P0 x y z->P1 x y z->P2 x y z->G):G:=by obtain ⟨x,y,z,h3,h4,h5⟩:=h;exact k x y z h3 h4 h5
theorem gO{α:Sort _}{β:Sort _}{γ:Sort _}{P0:α->β->γ->Prop}{P1:α->β->γ->Prop}{G:Prop}(h: ∃x:α,∃y:β,∃z:γ,P0 x y z/\P1 x y z)(k: ∀x:α,∀y:β,∀z:γ,P0 x y z->P1 x y z->G):G:=by obtain ⟨x,y,z,h3,h4⟩:=h;exact k x y z h3 h4
theorem rQ{α:Sort _}{β:Sort _}{P0:α->β->Prop}{G:Prop}(h: ∃x:α,∃y:β,P0 x y)(k: ∀x:α,∀y:β,P0 x y->G):G:=by obtain ⟨x,y,h2⟩:=h;exact k x y h2
theorem xEEE{α:Sort _}{β:Sort _}{γ:Sort _}{P0:α->β->γ->Prop}{G:Prop}(h: ∃x:α,∃y:β,∃z:γ,P0 x y z)(k: ∀x:α,∀y:β,∀z:γ,P0 x y z->G):G:=by obtain ⟨x,y,z,h3⟩:=h;exact k x y z h3
theorem z49{α:Sort _}{β:Sort _}{γ:Sort _}{δ:Sort _}{P0:α->β->γ->δ->Prop}{P1:α->β->γ->δ->Prop}{G:Prop}(h: ∃x:α,∃y:β,∃z:γ,∃u:δ,P0 x y z u/\P1 x y z u)(k: ∀x:α,∀y:β,∀z:γ,∀u:δ,P0 x y z u->P1 x y z u->G):G:=by obtain ⟨x,y,z,u,h4,h5⟩:=h;exact k x y z u h4 h5
theorem z50{α:Sort _}{β:Sort _}{γ:Sort _}{δ:Sort _}{P0:α->β->γ->δ->Prop}{P1:α->β->γ->δ->Prop}{P2:α->β->γ->δ->Prop}{G:Prop}(h: ∃x:α,∃y:β,∃z:γ,∃u:δ,P0 x y z u/\P1 x y z u/\P2 x y z u)(k: ∀x:α,∀y:β,∀z:γ,∀u:δ,P0 x y z u->P1 x y z u->P2 x y z u->G):G:=by obtain ⟨x,y,z,u,h4,h5,h6⟩:=h;exact k x y z u h4 h5 h6
theorem z1x{α:Sort _}{β:Sort _}{γ:Sort _}{δ:Sort _}{P0:α->β->γ->δ->Prop}{P1:α->β->γ->δ->Prop}{P2:α->β->γ->δ->Prop}{P3:α->β->γ->δ->Prop}{G:Prop}(h: ∃x:α,∃y:β,∃z:γ,∃u:δ,P0 x y z u/\P1 x y z u/\P2 x y z u/\P3 x y z u)(k: ∀x:α,∀y:β,∀z:γ,∀u:δ,P0 x y z u->P1 x y z u->P2 x y z u->P3 x y z u->G):G:=by obtain ⟨x,y,z,u,h4,h5,h6,h7⟩:=h;exact k x y z u h4 h5 h6 h7
theorem bK{α:Sort _}{P0:α->Prop}{P1:α->Prop}(x:α)(h1:P0 x)(h2:P1 x): ∃x:α,P0 x/\P1 x:=⟨x,h1,h2⟩
theorem et{α:Sort _}{P0:α->Prop}{P1:α->Prop}{P2:α->Prop}(x:α)(h1:P0 x)(h2:P1 x)(h3:P2 x): ∃x:α,P0 x/\P1 x/\P2 x:=⟨x,h1,h2,h3⟩
theorem k6{α:Sort _}{P0:α->Prop}{P1:α->Prop}{P2:α->Prop}{P3:α->Prop}(x:α)(h1:P0 x)(h2:P1 x)(h3:P2 x)(h4:P3 x): ∃x:α,P0 x/\P1 x/\P2 x/\P3 x:=⟨x,h1,h2,h3,h4⟩
theorem eM{α:Sort _}{β:Sort _}{P0:α->β->Prop}{P1:α->β->Prop}(x:α)(y:β)(h2:P0 x y)(h3:P1 x y): ∃x:α,∃y:β,P0 x y/\P1 x y:=⟨x,y,h2,h3⟩
theorem eg{α:Sort _}{β:Sort _}{P0:α->β->Prop}{P1:α->β->Prop}{P2:α->β->Prop}(x:α)(y:β)(h2:P0 x y)(h3:P1 x y)(h4:P2 x y): ∃x:α,∃y:β,P0 x y/\P1 x y/\P2 x y:=⟨x,y,h2,h3,h4⟩
theorem jK{α:Sort _}{β:Sort _}{P0:α->β->Prop}{P1:α->β->Prop}{P2:α->β->Prop}{P3:α->β->Prop}(x:α)(y:β)(h2:P0 x y)(h3:P1 x y)(h4:P2 x y)(h5:P3 x y): ∃x:α,∃y:β,P0 x y/\P1 x y/\P2 x y/\P3 x y:=⟨x,y,h2,h3,h4,h5⟩
theorem kg{α:Sort _}{β:Sort _}{P0:α->β->Prop}{P1:α->β->Prop}{P2:α->β->Prop}{P3:α->β->Prop}{P4:α->β->Prop}(x:α)(y:β)(h2:P0 x y)(h3:P1 x y)(h4:P2 x y)(h5:P3 x y)(h6:P4 x y): ∃x:α,∃y:β,P0 x y/\P1 x y/\P2 x y/\P3 x y/\P4 x y:=⟨x,y,h2,h3,h4,h5,h6⟩
theorem iX{α:Sort _}{β:Sort _}{P0:α->β->Prop}{P1:α->β->Prop}{P2:α->β->Prop}{P3:α->β->Prop}{P4:α->β->Prop}{P5:α->β->Prop}(x:α)(y:β)(h2:P0 x y)(h3:P1 x y)(h4:P2 x y)(h5:P3 x y)(h6:P4 x y)(h7:P5 x y): ∃x:α,∃y:β,P0 x y/\P1 x y/\P2 x y/\P3 x y/\P4 x y/\P5 x y:=⟨x,y,h2,h3,h4,h5,h6,h7⟩
theorem gz{α:Sort _}{β:Sort _}{γ:Sort _}{P0:α->β->γ->Prop}{P1:α->β->γ->Prop}(x:α)(y:β)(z:γ)(h3:P0 x y z)(h4:P1 x y z): ∃x:α,∃y:β,∃z:γ,P0 x y z/\P1 x y z:=⟨x,y,z,h3,h4⟩
theorem su{α:Sort _}{β:Sort _}{γ:Sort _}{P0:α->β->γ->Prop}{P1:α->β->γ->Prop}{P2:α->β->γ->Prop}(x:α)(y:β)(z:γ)(h3:P0 x y z)(h4:P1 x y z)(h5:P2 x y z): ∃x:α,∃y:β,∃z:γ,P0 x y z/\P1 x y z/\P2 x y z:=⟨x,y,z,h3,h4,h5⟩
theorem mO{α:Sort _}{β:Sort _}{γ:Sort _}{P0:α->β->γ->Prop}{P1:α->β->γ->Prop}{P2:α->β->γ->Prop}{P3:α->β->γ->Prop}(x:α)(y:β)(z:γ)(h3:P0 x y z)(h4:P1 x y z)(h5:P2 x y z)(h6:P3 x y z): ∃x:α,∃y:β,∃z:γ,P0 x y z/\P1 x y z/\P2 x y z/\P3 x y z:=⟨x,y,z,h3,h4,h5,h6⟩
theorem oW{α:Sort _}{β:Sort _}{γ:Sort _}{P0:α->β->γ->Prop}{P1:α->β->γ->Prop}{P2:α->β->γ->Prop}{P3:α->β->γ->Prop}{P4:α->β->γ->Prop}(x:α)(y:β)(z:γ)(h3:P0 x y z)(h4:P1 x y z)(h5:P2 x y z)(h6:P3 x y z)(h7:P4 x y z): ∃x:α,∃y:β,∃z:γ,P0 x y z/\P1 x y z/\P2 x y z/\P3 x y z/\P4 x y z:=⟨x,y,z,h3,h4,h5,h6,h7⟩
theorem kW{α:Sort _}{β:Sort _}{γ:Sort _}{P0:α->β->γ->Prop}{P1:α->β->γ->Prop}{P2:α->β->γ->Prop}{P3:α->β->γ->Prop}{P4:α->β->γ->Prop}{P5:α->β->γ->Prop}(x:α)(y:β)(z:γ)(h3:P0 x y z)(h4:P1 x y z)(h5:P2 x y z)(h6:P3 x y z)(h7:P4 x y z)(h8:P5 x y z): ∃x:α,∃y:β,∃z:γ,P0 x y z/\P1 x y z/\P2 x y z/\P3 x y z/\P4 x y z/\P5 x y z:=⟨x,y,z,h3,h4,h5,h6,h7,h8⟩
theorem nd{α:Sort _}{β:Sort _}{γ:Sort _}{δ:Sort _}{P0:α->β->γ->δ->Prop}{P1:α->β->γ->δ->Prop}(x:α)(y:β)(z:γ)(u:δ)(h4:P0 x y z u)(h5:P1 x y z u): ∃x:α,∃y:β,∃z:γ,∃u:δ,P0 x y z u/\P1 x y z u:=⟨x,y,z,u,h4,h5⟩
theorem sP{α:Sort _}{β:Sort _}{γ:Sort _}{δ:Sort _}{P0:α->β->γ->δ->Prop}{P1:α->β->γ->δ->Prop}{P2:α->β->γ->δ->Prop}(x:α)(y:β)(z:γ)(u:δ)(h4:P0 x y z u)(h5:P1 x y z u)(h6:P2 x y z u): ∃x:α,∃y:β,∃z:γ,∃u:δ,P0 x y z u/\P1 x y z u/\P2 x y z u:=⟨x,y,z,u,h4,h5,h6⟩
theorem tb{α:Sort _}{β:Sort _}{γ:Sort _}{δ:Sort _}{P0:α->β->γ->δ->Prop}{P1:α->β->γ->δ->Prop}{P2:α->β->γ->δ->Prop}{P3:α->β->γ->δ->Prop}(x:α)(y:β)(z:γ)(u:δ)(h4:P0 x y z u)(h5:P1 x y z u)(h6:P2 x y z u)(h7:P3 x y z u): ∃x:α,∃y:β,∃z:γ,∃u:δ,P0 x y z u/\P1 x y z u/\P2 x y z u/\P3 x y z u:=⟨x,y,z,u,h4,h5,h6,h7⟩
theorem mN{α:Sort _}{β:Sort _}{γ:Sort _}{P0:α->β->Prop}{P1:α->β->Prop}{P2:α->β->γ->Prop}{P3:α->β->γ->Prop}(x:α)(y:β)(h2:P0 x y)(h3:P1 x y)(z:γ)(h5:P2 x y z)(h6:P3 x y z): ∃x:α,∃y:β,P0 x y/\P1 x y/\ ∃z:γ,P2 x y z/\P3 x y z:=⟨x,y,h2,h3,z,h5,h6⟩
theorem z51{α:Sort _}{β:Sort _}{γ:Sort _}{P0:α->Prop}{P1:α->β->γ->Prop}{P2:α->β->γ->Prop}{P3:α->β->γ->Prop}(x:α)(h1:P0 x)(y:β)(z:γ)(h4:P1 x y z)(h5:P2 x y z)(h6:P3 x y z): ∃x:α,P0 x/\ ∃y:β,∃z:γ,P1 x y z/\P2 x y z/\P3 x y z:=⟨x,h1,y,z,h4,h5,h6⟩
theorem z5a{α:Sort _}{P0:α->Prop}{P1:α->Prop}{P2:α->Prop}{P3:α->Prop}{P4:α->Prop}(x:α)(h1:P0 x)(h2:P1 x)(h3:P2 x)(h4:P3 x)(h5:P4 x): ∃x:α,P0 x/\P1 x/\P2 x/\P3 x/\P4 x:=⟨x,h1,h2,h3,h4,h5⟩
@[elab_as_elim] theorem gen {α:Sort _} {M:α->Prop} (a:α) (h: ∀x,M x):M a:=h a
@[elab_as_elim] theorem genE {α:Sort _} {M:α->Prop} (a:α) (h: ∀x,a=x->M x):M a:=h a rfl
noncomputable def z9h(t:Stmt):Option DefRec:=if h:t.ctorIdx=0 then Stmt.FunctionDef.elim (motive_2:=λJ=>Option DefRec) t h λn a b J J J sc J J pos=>some ⟨n,a,b,sc,pos⟩else none
section
variable{α:Type}(e:Expr)
noncomputable def qe(k:Str->Pos->Option α):Option α:=if h:e.ctorIdx=23 then Expr.Name.elim (motive_1:=λJ=>Option α) e h k else none
noncomputable def zwy(k:Const->Nat->Pos->Option α):Option α:=if h:e.ctorIdx=19 then Expr.Constant.elim (motive_1:=λJ=>Option α) e h k else none
noncomputable def sr(k:Expr->List Expr->Pos->Option α):Option α:=if h:e.ctorIdx=16 then Expr.Call.elim (motive_1:=λJ=>Option α) e h λf a J p=>k f a p else none
noncomputable def z9i(k:List Expr->Pos->Option α):Option α:=if h:e.ctorIdx=24 then Expr.List.elim (motive_1:=λJ=>Option α) e h k else none
noncomputable def jcq(k:Expr->Expr->Pos->Option α):Option α:=if h:e.ctorIdx=2 then Expr.BinOp.elim (motive_1:=λJ=>Option α) e h λl J r p=>k l r p else none
noncomputable def z9j(k:List (Option Expr)->List Expr->Pos->Option α):Option α:=if h:e.ctorIdx=6 then Expr.Dict.elim (motive_1:=λJ=>Option α) e h k else none
noncomputable def rP(k:Int->Nat->Pos->Option α):Option α:=zwy e λc n p=>match c with
 | .int i=>k i n p
 |_=>none
noncomputable def onStr(k:Str->Nat->Pos->Option α):Option α:=zwy e λc n p=>match c with
 | .str i=>k i n p
 |_=>none
end
noncomputable def on1{α:Type}(l:List Expr)(k:Expr->Option α):Option α:=match l with
 | [a]=>k a
 |_=>none
end Mine.Internal
namespace Mine.Internal
open PySem PySem.W PySem.Calls PyProof.Rows PySem.Challenge
set_option backward.match.sparseCases false
inductive PV where
 |none
 |bool (b:Bool)
 |int (i:Int)
 |str (s:Str)
 |lit (s:Str)
 |frs (s:Str)
 |byt (b:Array UInt8)
 |list (xs:List PV)
 |tuple (xs:List PV)
 |dict (kvs:List (Str×PV))
 |range (lo hi step:Int)
 |fn (f:Str)
 |ty (n:String)
 |bi (id:String)
 |b1
 |b3
 deriving Inhabited
set_option genCtorIdx true in
inductive Slot where
 |val (p:PV)
 |own (xs:List PV)
 |ownD (kvs:List (Str×PV))
 deriving Inhabited
theorem cu{α:Type}{z:α}{p:Prop}(h:(none:Option α)=some z):p:=nomatch h
noncomputable abbrev Rho:=List (Option Slot)
noncomputable def valOf:Slot->Option PV
 | .val p=>some p
 |_=>none
noncomputable def z5b:Slot->Option (List PV)
 | .own p=>some p
 |_=>none
noncomputable def z5c:Slot->Option (List (Str×PV))
 | .ownD p=>some p
 |_=>none
noncomputable def Slot.pv:Slot->PV
 | .val p=>p
 | .own xs=>.list xs
 | .ownD kvs=>.dict kvs
noncomputable def Slot.isOwn0:Slot->Bool
 | .val _=>false
 |_=>true
noncomputable def slotAt(ρ:Rho)(i:Nat):Option Slot:=(ρ[i]?).bind id
theorem nP(h:slotAt ρ i=some s):ρ[i]?=some (some s):=by
 refine aN (aA.mp h) λa h1 h2=>?_
 rw [h1];exact congrArg some h2
theorem nK(h:ρ[i]?=some (some s)):slotAt ρ i=some s:=by rw [slotAt,h];rfl
theorem zw0{s:Slot}{p:PV}(h:valOf s=some p):s= .val p:=by
 induction s with
 |val _=>exact congrArg Slot.val (Option.some.inj h)
 |_=>exact cu h
theorem zut{s:Slot}{p:List PV}(h:z5b s=some p):s= .own p:=by
 induction s with
 |own _=>exact congrArg Slot.own (Option.some.inj h)
 |_=>exact cu h
theorem zuu{s:Slot}{p:List (Str×PV)}(h:z5c s=some p):s= .ownD p:=by
 induction s with
 |ownD _=>exact congrArg Slot.ownD (Option.some.inj h)
 |_=>exact cu h
noncomputable def valAt(ρ:Rho)(i:Nat):Option PV:=(slotAt ρ i).bind valOf
noncomputable def ownAt(ρ:Rho)(i:Nat):Option (List PV):=(slotAt ρ i).bind z5b
noncomputable def kA(ρ:Rho)(i:Nat):Option (List (Str×PV)):=(slotAt ρ i).bind z5c
theorem zw1(h:valAt ρ i=some p):ρ[i]?=some (some (.val p)):=by obtain ⟨J,h1,h2⟩:=aA.mp h;exact (zw0 h2)▸nP h1
theorem zpc(h:ownAt ρ i=some p):ρ[i]?=some (some (.own p)):=by obtain ⟨J,h1,h2⟩:=aA.mp h;exact (zut h2)▸nP h1
theorem tZ(h:kA ρ i=some p):ρ[i]?=some (some (.ownD p)):=by obtain ⟨J,h1,h2⟩:=aA.mp h;exact (zuu h2)▸nP h1
theorem oV(h:ρ[i]?=some (some (.val p))):valAt ρ i=some p:=by rw [valAt,nK h];rfl
theorem ztb(h:ρ[i]?=some (some (.own p))):ownAt ρ i=some p:=by rw [ownAt,nK h];rfl
theorem zpd(h:ρ[i]?=some (some (.ownD p))):kA ρ i=some p:=by rw [kA,nK h];rfl
mutual
inductive PE where
 |none
 |bool (b:Bool)
 |int (i:Int)
 |str (s:Str)
 |byt (b:List UInt8)
 |var (i:Nat)
 |glob (x:Str)
 |bin (op:Operator) (a b:PE)
 |neg (a:PE)
 |inv (a:PE)
 |not (a:PE)
 |and (es:List PE)
 |or (es:List PE)
 |cmp (op:CmpOp) (a b:PE)
 |ifx (t a b:PE)
 |sub (a i:PE)
 |subOwn (x:Nat) (i:PE)
 |notinOwn (a:PE) (x:Nat)
 |slice (a:PE) (lo hi:Option PE)
 |list (es:List PE)
 |tuple (es:List PE)
 |dict (ks vs:List PE)
 |call (f:PE) (args:List PE)
 |meth (o:PE) (m:Str) (args:List PE)
 |repl (o:PE) (y z:Str)
 |repl2 (o a:PE) (i:Int) (b:PE) (j:Int)
 |comp (elt:PE) (gens:List PG)
 |dcomp (k v:PE) (gens:List PG)
inductive PG where
 |mk (ts:List Nat) (single:Bool) (it:PI) (ifs:List PE)
inductive PI where
 |plain (e:PE)
 |revd (e:PE)
end
inductive PS where
 |asg (t:Nat) (e:PE)
 |asgOwn (t:Nat) (e:PE)
 |asgT (ts:List Nat) (e:PE)
 |asgL (ts:List Nat) (e:PE)
 |asgTOwn (ts:List Nat) (ow:List Bool) (es:List PE)
 |aug (t:Nat) (op:Operator) (e:PE)
 |setD (t:Nat) (k e:PE)
 |app (t:Nat) (e:PE)
 |revI (t:Nat)
 |upd (t:Nat) (e:PE)
 |ret (e:PE)
 |ite (t:PE) (a b:List PS)
 |forS (ts:List Nat) (single:Bool) (it:PI) (body:List PS)
 |whileS (t:PE) (body:List PS)
 |tryS (body:List PS)
 |freeze (t:Nat)
 |fail
set_option genCtorIdx true in
inductive Out where
 |next (ρ:Rho)
 |ret (v:PV)
noncomputable def jV(n:Int):Bool:=decide (n<=134217728)
noncomputable def nA(x y:Int):Bool:=decide (bc x<=64)||decide (bc y<=64)||decide (bc x+bc y<=134217728)
noncomputable def f0(n:Nat):Bool:=decide (n<=16777216)
noncomputable def intOf:PV->Option Int
 | .int y=>some y
 |_=>none
noncomputable def strOf:PV->Option Str
 | .str y=>some y
 |_=>none
noncomputable def litOf:PV->Option Str
 | .lit y=>some y
 |_=>none
noncomputable def i4:PV->Option Str
 | .str y=>some y
 | .lit y=>some y
 | .frs y=>some y
 |_=>none
noncomputable def jcr:PV->Option Str
 | .frs y=>some y
 |_=>none
noncomputable def listOf:PV->Option (List PV)
 | .list y=>some y
 |_=>none
noncomputable def dictOf:PV->Option (List (Str×PV))
 | .dict y=>some y
 |_=>none
theorem zmr{x:PV}{a:List (Str×PV)}(h:dictOf x=some a):x= .dict a:=by cases x<;>first|exact cu h|exact congrArg PV.dict (Option.some.inj h)
noncomputable def boolOf:PV->Option Bool
 | .bool y=>some y
 |_=>none
noncomputable def tyOf:PV->Option String
 | .ty y=>some y
 |_=>none
noncomputable def tupP:PV->Option (List PV)
 | .tuple xs=>some xs
 |_=>none
theorem nJ{x:PV}{a:Int}(h:intOf x=some a):x= .int a:=by cases x<;>first|exact cu h|exact congrArg PV.int (Option.some.inj h)
theorem tA{x:PV}{a:Str}(h:strOf x=some a):x= .str a:=by cases x<;>first|exact cu h|exact congrArg PV.str (Option.some.inj h)
theorem zw2{x:PV}{a:Str}(h:litOf x=some a):x= .lit a:=by cases x<;>first|exact cu h|exact congrArg PV.lit (Option.some.inj h)
theorem zms{x:PV}{a:List PV}(h:listOf x=some a):x= .list a:=by cases x<;>first|exact cu h|exact congrArg PV.list (Option.some.inj h)
theorem zuv{x:PV}{a:Bool}(h:boolOf x=some a):x= .bool a:=by cases x<;>first|exact cu h|exact congrArg PV.bool (Option.some.inj h)
theorem z1z{x:PV}{a:String}(h:tyOf x=some a):x= .ty a:=by cases x<;>first|exact cu h|exact congrArg PV.ty (Option.some.inj h)
theorem z10{x:PV}{a:List PV}(h:tupP x=some a):x= .tuple a:=by cases x<;>first|exact cu h|exact congrArg PV.tuple (Option.some.inj h)
noncomputable def ii(x y:PV)(f:Int->Int->Option PV):Option PV:=(intOf x).bind λa=>(intOf y).bind λb=>f a b
theorem jf(h:ii x y f=some z): ∃a b,x= .int a/\y= .int b/\f a b=some z:=by obtain ⟨a,h1,h⟩:=aA.mp h;obtain ⟨b,h2,h⟩:=aA.mp h;exact ⟨a,b,nJ h1,nJ h2,h⟩
noncomputable def one:List PV->Option PV
 | [x]=>some x
 |_=>none
noncomputable def two:List PV->Option (PV×PV)
 | [x,y]=>some (x,y)
 |_=>none
theorem z52{xs:List PV}{a:PV}(h:one xs=some a):xs=[a]:=by
 cases xs with
 |nil=>exact cu h
 |cons x r=>cases r with
  |nil=>exact congrArg (λx=>[x]) (Option.some.inj h)
  |cons=>exact cu h
theorem z53{xs:List PV}{a:PV×PV}(h:two xs=some a):xs=[a.1,a.2]:=by
 cases xs with
 |nil=>exact cu h
 |cons x r=>cases r with
  |nil=>exact cu h
  |cons y r=>cases r with
   |nil=>exact congrArg (λx:PV×PV=>[x.1,x.2]) (Option.some.inj h)
   |cons=>exact cu h
theorem gP{α:Type}{c:Prop}[Decidable c]{a z:α}(h:(if c then some a else none)=some z):c/\a=z:=by
 by_cases hc:c
 ·rw [if_pos hc]at h;exact ⟨hc,Option.some.inj h⟩
 ·rw [if_neg hc]at h;exact cu h
theorem mR{α:Type}{c:Prop}[Decidable c]{a:Option α}{z:α}(h:(if c then none else a)=some z): ¬c/\a=some z:=by
 by_cases hc:c
 ·rw [if_pos hc]at h;exact cu h
 ·rw [if_neg hc]at h;exact ⟨hc,h⟩
theorem jD{α:Type}{c:Prop}[Decidable c]{a:Option α}{z:α}(h:(if c then a else none)=some z):c/\a=some z:=by
 by_cases hc:c
 ·rw [if_pos hc]at h;exact ⟨hc,h⟩
 ·rw [if_neg hc]at h;exact cu h
theorem tf{p:Prop}(h:true=false):p:=Bool.noConfusion h
theorem ft{p:Prop}(h:false=true):p:=Bool.noConfusion h
theorem z11: ∀n:Nat,((n:Int)-1).toNat=n-1
 |0=>rfl
 |n+1=>by rw [Int.natCast_succ,Int.add_sub_cancel];rfl
theorem oj(h:some a=some b):b=a:=(Option.some.inj h).symm
theorem kO[Decidable c](h:(if c then a else b)=some z):(c/\a=some z)\/(¬c/\b=some z):=by
 by_cases hc:c
 ·rw [if_pos hc]at h;exact .inl ⟨hc,h⟩
 ·rw [if_neg hc]at h;exact .inr ⟨hc,h⟩
theorem jR(h:(intOf y).bind f=some z): ∃b,y= .int b/\f b=some z:=by obtain ⟨b,h1,h⟩:=aA.mp h;exact ⟨b,nJ h1,h⟩
theorem lA(h:(strOf y).bind f=some z): ∃b,y= .str b/\f b=some z:=by obtain ⟨b,h1,h⟩:=aA.mp h;exact ⟨b,tA h1,h⟩
theorem z54(h:(litOf y).bind f=some z): ∃b,y= .lit b/\f b=some z:=by obtain ⟨b,h1,h⟩:=aA.mp h;exact ⟨b,zw2 h1,h⟩
theorem kN(h:(listOf y).bind f=some z): ∃b,y= .list b/\f b=some z:=by obtain ⟨b,h1,h⟩:=aA.mp h;exact ⟨b,zms h1,h⟩
theorem z9k(h:(tupP y).bind f=some z): ∃b,y= .tuple b/\f b=some z:=by obtain ⟨b,h1,h⟩:=aA.mp h;exact ⟨b,z10 h1,h⟩
theorem mapI(h:(intOf y).map f=some z): ∃b,y= .int b/\f b=z:=by obtain ⟨b,h1,h⟩:=ba.mp h;exact ⟨b,nJ h1,h⟩
theorem mapS(h:(strOf y).map f=some z): ∃b,y= .str b/\f b=z:=by obtain ⟨b,h1,h⟩:=ba.mp h;exact ⟨b,tA h1,h⟩
theorem mapB(h:(boolOf y).map f=some z): ∃b,y= .bool b/\f b=z:=by obtain ⟨b,h1,h⟩:=ba.mp h;exact ⟨b,zuv h1,h⟩
theorem jcs(h:(tyOf y).map f=some z): ∃b,y= .ty b/\f b=z:=by obtain ⟨b,h1,h⟩:=ba.mp h;exact ⟨b,z1z h1,h⟩
theorem sy{x y:PV}{z:Bool}{f:Int->Int->Bool}(h:((intOf x).bind λa=>(intOf y).map λb=>f a b)=some z): ∃a b,x= .int a/\y= .int b/\f a b=z:=by obtain ⟨a,h1,h⟩:=jR h;obtain ⟨b,h2,h⟩:=mapI h;exact ⟨a,b,h1,h2,h⟩
theorem kT(h:(one xs).bind f=some z): ∃b,xs=[b]/\f b=some z:=by obtain ⟨b,h1,h⟩:=aA.mp h;exact ⟨b,z52 h1,h⟩
theorem ny(h:(two xs).bind f=some z): ∃a b,xs=[a,b]/\f (a,b)=some z:=by obtain ⟨b,h1,h⟩:=aA.mp h;exact ⟨b.1,b.2,z53 h1,h⟩
noncomputable def binP(op:Operator)(x y:PV):Option PV:=match op with
 | .Add=>(match x with
  | .int a=>(intOf y).map λb=>.int (a+b)
  | .str a=>(strOf y).bind λb=>if f0 (a.length+b.length)then some (.str (a++b))else none
  | .list a=>(listOf y).bind λb=>if f0 (a.length+b.length)then some (.list (a++b))else none
  |_=>none)
 | .Sub=>ii x y λx y=>some (.int (x-y))
 | .Mult=>(match x with
  | .int x=>(intOf y).bind λy=>if nA x y then some (.int (x*y))else none
  | .str x=>(intOf y).bind λn=>if f0 (x.length*n.toNat)&&(decide (n<1000000)&&decide (-1000000<n))then some (.str ⟨(aJ n.toNat x.cps.toList).flatten.toArray⟩)else none
  | .list x=>(intOf y).bind λn=>if f0 (x.length*n.toNat)&&(decide (n<1000000)&&decide (-1000000<n))then some (.list (aJ n.toNat x).flatten)else none
  |_=>none)
 | .FloorDiv=>ii x y λx y=>if y=0 then none else if aU x y then none else some (.int (x.fdiv y))
 | .Mod=>ii x y λx y=>if y=0 then none else some (.int (x.fmod y))
 | .Pow=>ii x y λx n=>if 0<=n&&jV (bc x*n)then some (.int (x^n.toNat))else none
 | .LShift=>ii x y λx n=>if 0<=n&&jV (bc x+n)then some (.int (x*2^n.toNat))else none
 | .RShift=>ii x y λx n=>if 0<=n then some (.int (x.fdiv (2^n.toNat)))else none
 | .BitAnd=>ii x y λx y=>some (.int (cY x y))
 | .BitOr=>ii x y λx y=>some (.int (fO x y))
 | .BitXor=>ii x y λx y=>some (.int (iC x y))
 |_=>none
noncomputable def jo:PV->Option PyData
 | .int i=>some (.int i)
 | .bool b=>some (.bool b)
 |_=>none
noncomputable def eqP(x y:PV):Option Bool:=match x with
 | .bool a=>(boolOf y).map (a== ·)
 | .int a=>(intOf y).map (a== ·)
 | .str a=>(i4 y).map (a== ·)
 | .list a=>(listOf y).bind λb=>(a.mapM jo).bind λx=>(b.mapM jo).map λy=>bp x y
 | .tuple a=>(tupP y).bind λb=>(a.mapM jo).bind λx=>(b.mapM jo).map λy=>bp x y
 |_=>none
noncomputable def isP(x y:PV):Option Bool:=match x with
 | .bool a=>(boolOf y).map (a== ·)
 | .none=>(match y with
  | .none=>some true
  | .str _=>some false
  |_=>none)
 | .str _=>(match y with
  | .none=>some false
  |_=>none)
 | .ty a=>(tyOf y).map (a== ·)
 |_=>none
noncomputable def lz(xs:List PV):Option (List Str):=xs.mapM i4
noncomputable def jn(xs:List PV):Option (List Int):=xs.mapM intOf
noncomputable def m7(xs:List PV):Option (List Str):=xs.mapM strOf
noncomputable def inP(x y:PV):Option Bool:=match x with
 | .int x=>(listOf y).bind λys=>(jn ys).map (·.contains x)
 | .str x=>(strOf y).map λy=>!(cq y x 0 y.length 1).isEmpty
 |_=>none
noncomputable def lZ(x:PV):Option (List Str):=(listOf x).bind lz
noncomputable def ku(q:Str×PV):Option (Str×Str):=(i4 q.2).map λy=>(q.1,y)
noncomputable def ot(a b:List (Str×Str)):Bool:=a.length==b.length&&a.all λq=>b.lookup q.1==some q.2
noncomputable def jQ(x:Str):Bool:=x.cps.all (· <0x110000)
noncomputable def z9l(x y:PV):Option Bool:=match x with
 | .list xs=>(xs.mapM lZ).bind λa=>(listOf y).bind λys=>(ys.mapM lZ).bind λb=>if a.all (·.all jQ)&&b.all (·.all jQ)then some (decide (a=b))else none
 | .dict kvs=>(kvs.mapM ku).bind λa=>(dictOf y).bind λl=>(l.mapM ku).map λb=>ot a b
 |_=>none
noncomputable def sx:PV->Bool
 | .list xs=>(xs.mapM jo).isNone
 | .dict _=>true
 |_=>false
noncomputable def eqV(x y:PV):Option Bool:=if sx x then z9l x y else eqP x y
noncomputable def cmpP(op:CmpOp)(x y:PV):Option Bool:=match op with
 | .Eq=>eqV x y
 | .NotEq=>(eqV x y).map (!·)
 | .Lt=>(intOf x).bind λa=>(intOf y).map λb=>decide (a<b)
 | .LtE=>(intOf x).bind λa=>(intOf y).map λb=>decide (a<=b)
 | .Gt=>(match x with
  | .str a=>(strOf y).map λb=>decide (b.cps.toList<a.cps.toList)
  |x=>(intOf x).bind λa=>(intOf y).map λb=>decide (b<a))
 | .GtE=>(intOf x).bind λa=>(intOf y).map λb=>decide (b<=a)
 | .Is=>isP x y
 | .IsNot=>(isP x y).map (!·)
 | .In=>inP x y
 | .NotIn=>(inP x y).map (!·)
noncomputable def jU:PV->Option Bool
 | .bool b=>some b
 | .int i=>some (i !=0)
 | .list xs=>some (!xs.isEmpty)
 | .str s=>some (s.length !=0)
 | .none=>some false
 |_=>none
noncomputable def iK(lo hi st:Int):List PV:=(bl (aD lo hi st).toNat).map λ(k:Nat)=>.int (lo+(k:Int)*st)
noncomputable def jM(kvs:List (Str×PV))(k:Str)(v:PV):List (Str×PV):=if kvs.any (λkv=>kv.1=k)then kvs.map (λkv=>if kv.1=k then (kv.1,v)else kv)else kvs++ [(k,v)]
noncomputable def iF(kvs more:List (Str×PV)):List (Str×PV):=more.foldl (λacc kv=>jM acc kv.1 kv.2) kvs
noncomputable def iW(lo hi st:Int):Bool:=decide (0<st)&&Builtin.Range.small lo hi st&&decide (aD lo hi st<=16777216)&&!aU (hi-lo) st
noncomputable def jZ(s:Str):List PV:=s.cps.toList.map λc=>.str ⟨#[c]⟩
noncomputable def lY:PV->Option (List PV)
 | .list xs=>some xs
 | .tuple xs=>some xs
 | .str s=>some (jZ s)
 | .lit s=>some (jZ s)
 | .frs s=>some (jZ s)
 | .range a b c=>some (iK a b c)
 |_=>none
noncomputable def subP(x y:PV):Option PV:=match x with
 | .list xs=>(intOf y).bind λk=>if 0<=k&&decide (k<1000000000)then xs[k.toNat]? else none
 | .tuple xs=>(intOf y).bind λk=>if 0<=k&&decide (k<1000000000)then xs[k.toNat]? else none
 | .str s=>(intOf y).bind λk=>if 0<=k&&decide (k<1000000000)then (s.cps[k.toNat]?).map λc=>.str ⟨#[c]⟩else none
 | .lit s=>(intOf y).bind λk=>if 0<=k&&decide (k<1000000000)then (s.cps[k.toNat]?).map λc=>.str ⟨#[c]⟩else none
 | .dict kvs=>(strOf y).bind λk=>kvs.lookup k
 |_=>none
theorem zpf(hc:(decide (0<=k)&&decide (k<1000000000))=true):subP (.list xs) (.int k)=xs[k.toNat]?:=(ac k (λk:Int=>if 0<=k&&decide (k<1000000000)then xs[k.toNat]? else none)).trans (if_pos hc)
theorem z12(hc:(decide (0<=k)&&decide (k<1000000000))=true):subP (.str s) (.int k)=(s.cps[k.toNat]?).map λc=>.str ⟨#[c]⟩:=(ac k (λk:Int=>if 0<=k&&decide (k<1000000000)then (s.cps[k.toNat]?).map λc=>PV.str ⟨#[c]⟩else none)).trans (if_pos hc)
noncomputable def lX{α:Type}(xs:List α)(lo hi st:Option Int):List α:=(sliceRange (sliceBounds lo hi st xs.length).1 (sliceBounds lo hi st xs.length).2.1 (sliceBounds lo hi st xs.length).2.2).filterMap (xs[·]?)
noncomputable def sw:PV->Option Int->Option Int->Option PV
 | .list xs,lo,hi=>if f0 (lX xs lo hi none).length then some (.list (lX xs lo hi none))else none
 | .str s,lo,hi=>some (.str (Txt.slice s lo hi))
 |_,_,_=>none
noncomputable def lenP:PV->Option PV
 | .list xs=>some (.int xs.length)
 | .str s=>some (.int s.length)
 |_=>none
noncomputable def bOrd(args:List PV):Option PV:=(one args).bind λx=>(strOf x).bind λs=>if s.length=1 then (s.cps[0]?).map λ(c:Nat)=>.int (c:Int)else none
noncomputable def bChr(args:List PV):Option PV:=(one args).bind λx=>(intOf x).bind λn=>if 0<=n&&n<0x110000 then some (.str ⟨#[n.toNat]⟩)else none
noncomputable def bSum(args:List PV):Option PV:=(one args).bind λx=>(listOf x).bind λxs=>(jn xs).map λl=>.int l.sum
noncomputable def bDm(args:List PV):Option PV:=(two args).bind λq=>ii q.1 q.2 λa b=>if b=0 then none else if aU a b then none else some (.tuple [.int (a.fdiv b),.int (a.fmod b)])
noncomputable def bMax(args:List PV):Option PV:=(one args).bind λx=>(listOf x).bind λxs=>(jn xs).bind λl=>match l with
 | []=>none
 |k::r=>some (.int (r.foldl max k))
noncomputable def bMin(args:List PV):Option PV:=(two args).bind λq=>ii q.1 q.2 λa b=>some (.int (min a b))
noncomputable def jh(id:String)(args:List PV):Option PV:=
 if id= "len" then (one args).bind lenP
 else if id= "ord" then bOrd args
 else if id= "chr" then bChr args
 else if id= "sum" then bSum args
 else if id= "divmod" then bDm args
 else if id= "max" then bMax args
 else if id= "min" then bMin args
 else none
noncomputable def z9m:List PV->Option PV
 | [x]=>(intOf x).bind λn=>if iW 0 n 1 then some (.range 0 n 1)else none
 | [x,y]=>ii x y λa b=>if iW a b 1 then some (.range a b 1)else none
 | [x,y,z]=>(intOf z).bind λc=>ii x y λa b=>if iW a b c then some (.range a b c)else none
 |_=>none
noncomputable def z9n:PV->Option PV
 | .range a b c=>some (.list (iK a b c))
 |_=>none
noncomputable def mt(n:String)(args:List PV):Option PV:=
 if n= "range" then z9m args
 else if n= "list" then (one args).bind z9n
 else if n= "type" then (one args).bind λx=>(intOf x).map λJ=>.ty "int"
 else if n= "int" then (one args).bind λx=>(strOf x).bind λs=>if s.length=1 then (s.cps[0]?).bind λc=>if 48<=c/\c<=57 then some (.int ((c-48:Nat):Int))else none else none
 else none
noncomputable def kR:List Int:=[173,847,6150,6155,6156,6157,8203,8204,8205,8288,65279]++(bl 16).map λ(k:Nat)=>(65024+k:Int)
noncomputable def isB1:PV->Bool
 | .b1=>true
 |_=>false
theorem z13{x:PV}(h:isB1 x=true):x= .b1:=by cases x<;>first|rfl|exact ft h
noncomputable def cmpV(op:CmpOp)(x y:PV):Option Bool:=if op= .In/\isB1 y=true then (intOf x).map λk=>kR.contains k else cmpP op x y
noncomputable def jct(s:Str)(args:List PV):Option PV:=(two args).bind λq=>(litOf q.1).bind λa=>(jcr q.2).bind λb=>if a !=b&&f0 (s.length+(s.length+1)*b.length)then some (.str (PySem.Txt.replace s a b))else none
noncomputable def z9o(s:Str)(args:List PV):Option PV:=(one args).bind λx=>(strOf x).map λa=>.int (PySem.Txt.count s a)
noncomputable def jcu(s:Str)(args:List PV):Option PV:=(one args).bind λx=>(listOf x).bind λxs=>if xs.isEmpty then some (.frs (fW s []))else (lz xs).bind λl=>if f0 ((l.map (·.length)).sum+l.length*s.length)then some (.str (fW s l))else none
noncomputable def z5d(s:Str)(args:List PV):Option PV:=if args.isEmpty&&f0 (Txt.lower s).length then some (.str (PySem.Txt.lower s))else none
noncomputable def jY(s:Str)(m:Str)(args:List PV):Option PV:=
 if m== "replace" then jct s args
 else if m== "count" then z9o s args
 else if m== "join" then jcu s args
 else if m== "lower" then z5d s args
 else none
noncomputable def dGet(kvs:List (Str×PV))(m:Str)(args:List PV):Option PV:=if m== "get" then (two args).bind λq=>(strOf q.1).map λk=>(kvs.lookup k).getD q.2 else none
noncomputable def methP(x:PV)(m:Str)(args:List PV):Option PV:=match x with
 | .str s=>jY s m args
 | .frs s=>jY s m args
 | .dict kvs=>dGet kvs m args
 | .int i=>if m== "bit_length" &&args.isEmpty then some (.int (bc i))else none
 |_=>none
theorem z55(h:iW 0 n 1=true):mt "range" [.int n]=some (.range 0 n 1):=(if_pos rfl).trans ((ac n (λn=>if iW 0 n 1 then some (PV.range 0 n 1)else none)).trans (if_pos h))
theorem zw6(h:iW a b 1=true):mt "range" [.int a,.int b]=some (.range a b 1):=(if_pos rfl).trans ((ac a (λa=>(intOf (.int b)).bind λb=>if iW a b 1 then some (PV.range a b 1)else none)).trans ((ac b (λb=>if iW a b 1 then some (PV.range a b 1)else none)).trans (if_pos h)))
theorem z56(h:iW a b c=true):mt "range" [.int a,.int b,.int c]=some (.range a b c):=(if_pos rfl).trans ((ac c (λc=>ii (.int a) (.int b) λa b=>if iW a b c then some (PV.range a b c)else none)).trans ((ac a (λa=>(intOf (.int b)).bind λb=>if iW a b c then some (PV.range a b c)else none)).trans ((ac b (λb=>if iW a b c then some (PV.range a b c)else none)).trans (if_pos h))))
theorem ordP{s:Str}{c:Nat}(h:s.length=1)(h2:s.cps[0]?=some c):jh "ord" [.str s]=some (.int (c:Int)):=(if_neg (by decide)).trans ((if_pos rfl).trans ((ac s (λs=>if s.length=1 then (s.cps[0]?).map λ(c:Nat)=>PV.int (c:Int)else none)).trans ((if_pos h).trans (by rw [h2];rfl))))
theorem chrP(h:(decide (0<=n)&&decide (n<0x110000))=true):jh "chr" [.int n]=some (.str ⟨#[n.toNat]⟩):=(if_neg (by decide)).trans ((if_neg (by decide)).trans ((if_pos rfl).trans ((ac n (λn:Int=>if 0<=n&&n<0x110000 then some (PV.str ⟨#[n.toNat]⟩)else none)).trans (if_pos h))))
theorem sumP(h:jn xs=some l):jh "sum" [.list xs]=some (.int l.sum):=by have e:(listOf (.list xs)).bind (λxs=>(jn xs).map λl=>PV.int l.sum)=some (.int l.sum):=(ac xs (λxs=>(jn xs).map λl:List Int=>PV.int l.sum)).trans (by rw [h];rfl);exact (if_neg (by decide)).trans ((if_neg (by decide)).trans ((if_neg (by decide)).trans ((if_pos rfl).trans e)))
theorem jcv(hn:xs.isEmpty=false)(h:lz xs=some l)(h2:f0 ((l.map (·.length)).sum+l.length*s.length)=true):methP (.str s) ("join":Str) [.list xs]=some (.str (fW s l)):=by show jY s _ _=_;unfold jY;rw [if_neg (by decide),if_neg (by decide),if_pos (by decide)];show (if xs.isEmpty then some (PV.frs (fW s []))else (lz xs).bind λl=>if f0 ((l.map (·.length)).sum+l.length*s.length)then some (PV.str (fW s l))else none)=_;rw [hn,h];exact if_pos h2
theorem z9p:methP (.str s) ("join":Str) [.list []]=some (.frs (fW s [])):=by show jY s _ _=_;unfold jY;rw [if_neg (by decide),if_neg (by decide),if_pos (by decide)];rfl
theorem countP:methP (.str s) ("count":Str) [.str a]=some (.int (PySem.Txt.count s a)):=by show jY s _ _=_;unfold jY;rw [if_neg (by decide),if_pos (by decide)];rfl
theorem z9q(h:f0 (Txt.lower s).length=true):methP (.str s) ("lower":Str) []=some (.str (PySem.Txt.lower s)):=by show jY s _ _=_;unfold jY;rw [if_neg (by decide),if_neg (by decide),if_neg (by decide),if_pos (by decide),z5d,h];rfl
theorem z57(h:jn xs=some l):inP (.int k) (.list xs)=some (l.contains k):=by show (listOf (.list xs)).bind (λys=>(jn ys).map λl:List Int=>l.contains k)=_;rw [listOf,ac,h];rfl
noncomputable def isB3:PV->Bool
 | .b3=>true
 |_=>false
theorem z14{x:PV}(h:isB3 x=true):x= .b3:=by cases x<;>first|rfl|exact ft h
noncomputable def optStr:Option Str->PV
 |some s=>.str s
 |none=>.none
noncomputable def setR(ρ:Rho)(i:Nat)(s:Slot):Rho:=ρ.set i (some s)
noncomputable def gZ:List Nat->List PV->Rho->Option Rho
 | [],xs,ρ=>(match xs with
  | []=>some ρ
  |_::_=>none)
 |t::ts,xs,ρ=>(match xs with
  | []=>none
  |x::xs=>gZ ts xs (setR ρ t (.val x)))
noncomputable def hK(ts:List Nat)(single:Bool)(x:PV)(ρ:Rho):Option Rho:=if single then gZ ts [x] ρ else (tupP x).bind λxs=>gZ ts xs ρ
noncomputable def isTup:PV->Bool
 | .tuple _=>true
 |_=>false
noncomputable def lc(x:PV)(i:Int):Option Str:=(i4 x).bind λs=>if 0<=i then (s.cps[i.toNat]?).map λc=>⟨#[c]⟩else none
noncomputable def mY(x p:PV)(i:Int)(q:PV)(j:Int):Option PV:=(i4 x).bind λs=>(lc p i).bind λy=>(lc q j).bind λz=>if y !=z&&f0 (s.length+(s.length+1)*1)then (if (cq s y 0 s.length (s.length+1)).isEmpty then some x else some (.frs (dE s y z)))else none
structure GT where
 gv:Str->Option PV
 fns:Str->List PV->Option PV
 b3get:Int->Option (Option Str)
noncomputable def kY(G:GT)(f:PV)(args:List PV):Option PV:=
 match f with
 | .fn n=>G.fns n args
 | .bi id=>jh id args
 | .ty n=>mt n args
 |_=>none
mutual
noncomputable def be(G:GT):PE->Rho->Option PV
 | .none,_=>some .none
 | .bool b,_=>some (.bool b)
 | .int i,_=>some (.int i)
 | .str s,_=>some (.str s)
 | .byt b,_=>some (.byt b.toArray)
 | .var i,ρ=>valAt ρ i
 | .glob x,_=>G.gv x
 | .bin op a b,ρ=>(be G a ρ).bind λx=>(be G b ρ).bind λy=>binP op x y
 | .neg a,ρ=>(be G a ρ).bind λx=>(intOf x).map λi=>.int (-i)
 | .inv a,ρ=>(be G a ρ).bind λx=>(intOf x).map λi=>.int (fD i)
 | .not _,_=>none
 | .and _,_=>none
 | .or _,_=>none
 | .cmp op a b,ρ=>(be G a ρ).bind λx=>(be G b ρ).bind λy=>(cmpV op x y).map .bool
 | .ifx t a b,ρ=>(el G t ρ).bind λc=>if c then be G a ρ else be G b ρ
 | .sub a i,ρ=>(be G a ρ).bind λx=>(be G i ρ).bind λy=>subP x y
 | .subOwn x i,ρ=>(be G i ρ).bind λy=>(slotAt ρ x).bind λs=>subP s.pv y
 | .notinOwn a x,ρ=>(be G a ρ).bind λy=>(kA ρ x).bind λkvs=>(strOf y).map λk=>.bool (!(kvs.lookup k).isSome)
 | .slice a lo hi,ρ=>(be G a ρ).bind λx=>(kK G lo ρ).bind λl=>(kK G hi ρ).bind λh=>sw x l h
 | .list es,ρ=>(gh G es ρ).map .list
 | .tuple es,ρ=>(gh G es ρ).map .tuple
 | .dict ks vs,ρ=>(gh G ks ρ).bind λk=>(gh G vs ρ).bind λv=>(m7 k).bind λk=>if k.length=v.length&&(k.length !=0&&decide (k.length<=15))||v.isEmpty&&k.isEmpty then some (.dict (iF [] (k.zip v)))else none
 | .call f args,ρ=>(be G f ρ).bind λg=>(gh G args ρ).bind λas=>kY G g as
 | .meth o m args,ρ=>(be G o ρ).bind λx=>(gh G args ρ).bind λas=>if isB3 x then (one as).bind λa=>(intOf a).bind λk=>if m== "get" then (G.b3get k).map optStr else none else methP x m as
 | .repl o y z,ρ=>(be G o ρ).bind λx=>(strOf x).bind λs=>if y !=z&&f0 (s.length+(s.length+1)*z.length)then some (.str (dE s y z))else none
 | .repl2 o a i b j,ρ=>(be G o ρ).bind λx=>(be G a ρ).bind λp=>(be G b ρ).bind λq=>mY x p i q j
 | .comp elt gens,ρ=>(kr G gens (λρ'=>be G elt ρ') ρ).bind λl=>if f0 l.length then some (.list l)else none
 | .dcomp k v [.mk ts single it []],ρ=>(iS G it ρ).bind λitems=>if single||items.all isTup then
   (items.mapM λx=>(hK ts single x ρ).bind λρ'=>(be G k ρ').bind λkk=>(strOf kk).bind λy=>(be G v ρ').map λz=>(y,z)).bind λl=>if l.length<=1000 then some (.dict (iF [] l))else none else none
 | .dcomp ..,_=>none
noncomputable def kK(G:GT):Option PE->Rho->Option (Option Int)
 |none,_=>some none
 |some e,ρ=>(be G e ρ).bind λx=>(intOf x).map some
noncomputable def gh(G:GT):List PE->Rho->Option (List PV)
 | [],_=>some []
 |e::es,ρ=>(be G e ρ).bind λx=>(gh G es ρ).map λxs=>x::xs
noncomputable def el(G:GT):PE->Rho->Option Bool
 | .not a,ρ=>(el G a ρ).map (!·)
 | .and es,ρ=>allP G true es ρ
 | .or es,ρ=>allP G false es ρ
 | .ifx t a b,ρ=>(el G t ρ).bind λc=>if c then el G a ρ else el G b ρ
 | .none,_=>some false
 | .bool b,_=>some b
 | .int i,_=>some (i !=0)
 | .str s,_=>some (s.length !=0)
 | .var i,ρ=>(valAt ρ i).bind jU
 | .glob x,_=>(G.gv x).bind jU
 | .cmp op a b,ρ=>(be G a ρ).bind λx=>(be G b ρ).bind λy=>cmpV op x y
 | .notinOwn a x,ρ=>(be G a ρ).bind λy=>(kA ρ x).bind λkvs=>(strOf y).map λk=>!(kvs.lookup k).isSome
 | .call f args,ρ=>(be G f ρ).bind λg=>(gh G args ρ).bind λas=>(kY G g as).bind jU
 | .bin ..,_=>none
 | .neg _,_=>none
 | .inv _,_=>none
 | .sub ..,_=>none
 | .subOwn ..,_=>none
 | .slice ..,_=>none
 | .list _,_=>none
 | .tuple _,_=>none
 | .dict ..,_=>none
 | .meth ..,_=>none
 | .repl ..,_=>none
 | .repl2 ..,_=>none
 | .byt ..,_=>none
 | .comp ..,_=>none
 | .dcomp ..,_=>none
noncomputable def allP(G:GT)(isAnd:Bool):List PE->Rho->Option Bool
 | [],_=>some isAnd
 |e::es,ρ=>(el G e ρ).bind λc=>if c==isAnd then allP G isAnd es ρ else some (!isAnd)
noncomputable def iS(G:GT):PI->Rho->Option (List PV)
 | .plain e,ρ=>(be G e ρ).bind lY
 | .revd e,ρ=>(be G e ρ).bind λx=>(listOf x).map List.reverse
noncomputable def kr(G:GT):List PG->(Rho->Option PV)->Rho->Option (List PV)
 | [],elt,ρ=>(elt ρ).map λx=>[x]
 | .mk ts single it ifs::gs,elt,ρ=>(iS G it ρ).bind λitems=>if single||items.all isTup then
   (items.mapM λx=>(hK ts single x ρ).bind λρ'=>(allP G true ifs ρ').bind λc=>if c then kr G gs elt ρ' else some []).map List.flatten else none
end
noncomputable def forP(step:PV->Rho->Option Out):List PV->Rho->Option Out
 | [],ρ=>some (.next ρ)
 |x::xs,ρ=>match step x ρ with
  |some (.next ρ')=>forP step xs ρ'
  |r=>r
noncomputable def jT(test:Rho->Option Bool)(step:Rho->Option Out):Nat->Rho->Option Out
 |0,_=>none
 |n+1,ρ=>match test ρ with
  |some true=>(match step ρ with
   |some (.next ρ')=>jT test step n ρ'
   |r=>r)
  |some false=>some (.next ρ)
  |none=>none
noncomputable def ownOf:PV->Option Slot
 | .list xs=>some (.own xs)
 | .dict kvs=>some (.ownD kvs)
 |_=>none
noncomputable def mW:List Nat->List Bool->List PV->Rho->Option Rho
 | [],bs,xs,ρ=>if bs.isEmpty&&xs.isEmpty then some ρ else none
 |t::ts,bs,xs,ρ=>(xs.head?).bind λx=>(bs.head?).bind λb=>(if b then ownOf x else some (.val x)).bind λs=>mW ts bs.tail xs.tail (setR ρ t s)
noncomputable def augP(op:Operator)(x y:PV):Option PV:=match op with
 | .Add=>(match x with
  | .int a=>(intOf y).map λb=>.int (a+b)
  | .str a=>(strOf y).bind λb=>if f0 (a.length+b.length)then some (.str (a++b))else none
  |_=>none)
 | .Sub=>ii x y λx y=>some (.int (x-y))
 | .Mult=>ii x y λx y=>if nA x y then some (.int (x*y))else none
 | .LShift=>ii x y λx n=>if 0<=n&&jV (bc x+n)then some (.int (x*2^n.toNat))else none
 | .RShift=>ii x y λx n=>if 0<=n then some (.int (x.fdiv (2^n.toNat)))else none
 | .FloorDiv=>ii x y λx y=>if y=0 then none else if aU x y then none else some (.int (x.fdiv y))
 |_=>none
noncomputable def augS(op:Operator)(s:Slot)(y:PV):Option Slot:=match s with
 | .val p=>(augP op p y).map .val
 |_=>none
mutual
noncomputable def fN(G:GT):PS->Rho->Option Out
 | .asg t e,ρ=>(be G e ρ).map λx=>.next (setR ρ t (.val x))
 | .asgOwn t e,ρ=>(be G e ρ).bind λx=>(ownOf x).map λs=>.next (setR ρ t s)
 | .asgT ts e,ρ=>(be G e ρ).bind λx=>(tupP x).bind λxs=>(gZ ts xs ρ).map .next
 | .asgL ts e,ρ=>(be G e ρ).bind λx=>(listOf x).bind λxs=>(gZ ts xs ρ).map .next
 | .asgTOwn ts ow es,ρ=>(gh G es ρ).bind λxs=>(mW ts ow xs ρ).map .next
 | .aug t op e,ρ=>(slotAt ρ t).bind λs=>(be G e ρ).bind λy=>augS op s y|>.map λz=>.next (setR ρ t z)
 | .setD t k e,ρ=>(be G e ρ).bind λy=>(be G k ρ).bind λk=>(kA ρ t).bind λkvs=>(strOf k).bind λk=>if kvs.length<=1000 then some (.next (setR ρ t (.ownD (jM kvs k y))))else none
 | .app t e,ρ=>(ownAt ρ t).bind λxs=>(be G e ρ).bind λy=>if f0 (xs.length+1)then some (.next (setR ρ t (.own (xs++ [y]))))else none
 | .revI t,ρ=>(ownAt ρ t).map λxs=>.next (setR ρ t (.own xs.reverse))
 | .upd t e,ρ=>(kA ρ t).bind λkvs=>(be G e ρ).bind λx=>(dictOf x).bind λl=>if kvs.length+l.length<=1000 then some (.next (setR ρ t (.ownD (iF kvs l))))else none
 | .ret e,ρ=>(be G e ρ).map .ret
 | .ite t a b,ρ=>(el G t ρ).bind λc=>if c then eK G a ρ else eK G b ρ
 | .forS ts single it body,ρ=>(iS G it ρ).bind λitems=>if single||items.all isTup then
   forP (λx ρ'=>(hK ts single x ρ').bind λρ''=>eK G body ρ'') items ρ else none
 | .whileS t body,ρ=>jT (λρ'=>el G t ρ') (λρ'=>eK G body ρ') 6 ρ
 | .tryS body,ρ=>eK G body ρ
 | .freeze t,ρ=>(slotAt ρ t).bind λs=>if s.isOwn0 then some (.next (setR ρ t (.val s.pv)))else none
 | .fail,_=>none
noncomputable def eK(G:GT):List PS->Rho->Option Out
 | [],ρ=>some (.next ρ)
 |s::ss,ρ=>match fN G s ρ with
  |some (.next ρ')=>eK G ss ρ'
  |r=>r
end
theorem eE:(∀(G:GT) (ρ:Rho),be G .none ρ=some .none)/\ (∀(G:GT) b (ρ:Rho),be G (.bool b) ρ=some (.bool b))/\ (∀(G:GT) i (ρ:Rho),be G (.int i) ρ=some (.int i))/\ (∀(G:GT) s (ρ:Rho),be G (.str s) ρ=some (.str s))/\ (∀(G:GT) i (ρ:Rho),be G (.var i) ρ=valAt ρ i)/\ (∀(G:GT) x (ρ:Rho),be G (.glob x) ρ=G.gv x)/\ (∀(G:GT) op a b (ρ:Rho),be G (.bin op a b) ρ=(be G a ρ).bind λx=>(be G b ρ).bind λy=>binP op x y)/\ (∀(G:GT) a (ρ:Rho),be G (.neg a) ρ=(be G a ρ).bind λx=>(intOf x).map λi=>.int (-i))/\ (∀(G:GT) a (ρ:Rho),be G (.inv a) ρ=(be G a ρ).bind λx=>(intOf x).map λi=>.int (fD i))/\ (∀(G:GT) y0 (ρ:Rho),be G (.not y0) ρ=none)/\ (∀(G:GT) y0 (ρ:Rho),be G (.and y0) ρ=none)/\ (∀(G:GT) y0 (ρ:Rho),be G (.or y0) ρ=none)/\ (∀(G:GT) op a b (ρ:Rho),be G (.cmp op a b) ρ=(be G a ρ).bind λx=>(be G b ρ).bind λy=> (cmpV op x y).map .bool)/\ (∀(G:GT) t a b (ρ:Rho),be G (.ifx t a b) ρ=(el G t ρ).bind λc=>if c then be G a ρ else be G b ρ)/\ (∀(G:GT) a i (ρ:Rho),be G (.sub a i) ρ=(be G a ρ).bind λx=>(be G i ρ).bind λy=>subP x y)/\ (∀(G:GT) x i (ρ:Rho),be G (.subOwn x i) ρ=(be G i ρ).bind λy=>(slotAt ρ x).bind λs=>subP s.pv y)/\ (∀(G:GT) a x (ρ:Rho),be G (.notinOwn a x) ρ=(be G a ρ).bind λy=>(kA ρ x).bind λkvs=>(strOf y).map λk=>.bool (!(kvs.lookup k).isSome))/\ (∀(G:GT) a lo hi (ρ:Rho),be G (.slice a lo hi) ρ=(be G a ρ).bind λx=>(kK G lo ρ).bind λl=>(kK G hi ρ).bind λh=>sw x l h)/\ (∀(G:GT) es (ρ:Rho),be G (.list es) ρ=(gh G es ρ).map .list)/\ (∀(G:GT) es (ρ:Rho),be G (.tuple es) ρ=(gh G es ρ).map .tuple)/\ (∀(G:GT) ks vs (ρ:Rho),be G (.dict ks vs) ρ=(gh G ks ρ).bind λk=>(gh G vs ρ).bind λv=>(m7 k).bind λk=>if k.length=v.length&&(k.length !=0&&decide (k.length<=15))||v.isEmpty&&k.isEmpty then some (.dict (iF [] (k.zip v)))else none)/\ (∀(G:GT) f args (ρ:Rho),be G (.call f args) ρ=(be G f ρ).bind λg=>(gh G args ρ).bind λas=>kY G g as)/\ (∀(G:GT) o m args (ρ:Rho),be G (.meth o m args) ρ=(be G o ρ).bind λx=>(gh G args ρ).bind λas=> if isB3 x then (one as).bind λa=>(intOf a).bind λk=>if m== "get" then (G.b3get k).map optStr else none else methP x m as)/\ (∀(G:GT) o y z (ρ:Rho),be G (.repl o y z) ρ=(be G o ρ).bind λx=>(strOf x).bind λs=>if y !=z&&f0 (s.length+(s.length+1)*z.length)then some (.str (dE s y z))else none)/\ (∀(G:GT) b (ρ:Rho),be G (.byt b) ρ=some (.byt b.toArray))/\ (∀(G:GT) o a i b j (ρ:Rho),be G (.repl2 o a i b j) ρ=(be G o ρ).bind λx=>(be G a ρ).bind λp=>(be G b ρ).bind λq=>mY x p i q j)/\ (∀(G:GT) elt gens (ρ:Rho),be G (.comp elt gens) ρ=(kr G gens (λρ'=>be G elt ρ') ρ).bind λl=>if f0 l.length then some (.list l)else none)/\ (∀(G:GT) k v ts single it (ρ:Rho),be G (.dcomp k v [.mk ts single it []]) ρ=(iS G it ρ).bind λitems=>if single||items.all isTup then (items.mapM λx=>(hK ts single x ρ).bind λρ'=>(be G k ρ').bind λkk=>(strOf kk).bind λy=>(be G v ρ').map λz=>(y,z)).bind λl=>if l.length<=1000 then some (.dict (iF [] l))else none else none):=by and_intros<;>intros<;>rfl
theorem tE:(∀(G:GT) a (ρ:Rho),el G (.not a) ρ=(el G a ρ).map (!·))/\ (∀(G:GT) es (ρ:Rho),el G (.and es) ρ=allP G true es ρ)/\ (∀(G:GT) es (ρ:Rho),el G (.or es) ρ=allP G false es ρ)/\ (∀(G:GT) t a b (ρ:Rho),el G (.ifx t a b) ρ=(el G t ρ).bind λc=>if c then el G a ρ else el G b ρ)/\ (∀(G:GT) (ρ:Rho),el G .none ρ=some false)/\ (∀(G:GT) b (ρ:Rho),el G (.bool b) ρ=some b)/\ (∀(G:GT) i (ρ:Rho),el G (.int i) ρ=some (i !=0))/\ (∀(G:GT) s (ρ:Rho),el G (.str s) ρ=some (s.length !=0))/\ (∀(G:GT) i (ρ:Rho),el G (.var i) ρ=(valAt ρ i).bind jU)/\ (∀(G:GT) x (ρ:Rho),el G (.glob x) ρ=(G.gv x).bind jU)/\ (∀(G:GT) op a b (ρ:Rho),el G (.cmp op a b) ρ=(be G a ρ).bind λx=>(be G b ρ).bind λy=> cmpV op x y)/\ (∀(G:GT) a x (ρ:Rho),el G (.notinOwn a x) ρ=(be G a ρ).bind λy=>(kA ρ x).bind λkvs=>(strOf y).map λk=>!(kvs.lookup k).isSome)/\ (∀(G:GT) f args (ρ:Rho),el G (.call f args) ρ=(be G f ρ).bind λg=>(gh G args ρ).bind λas=>(kY G g as).bind jU)/\ (∀(G:GT) x0 x1 x2 (ρ:Rho),el G (.bin x0 x1 x2) ρ=none)/\ (∀(G:GT) y0 (ρ:Rho),el G (.neg y0) ρ=none)/\ (∀(G:GT) y0 (ρ:Rho),el G (.inv y0) ρ=none)/\ (∀(G:GT) x0 x1 (ρ:Rho),el G (.sub x0 x1) ρ=none)/\ (∀(G:GT) x0 x1 (ρ:Rho),el G (.subOwn x0 x1) ρ=none)/\ (∀(G:GT) x0 x1 x2 (ρ:Rho),el G (.slice x0 x1 x2) ρ=none)/\ (∀(G:GT) y0 (ρ:Rho),el G (.list y0) ρ=none)/\ (∀(G:GT) y0 (ρ:Rho),el G (.tuple y0) ρ=none)/\ (∀(G:GT) x0 x1 (ρ:Rho),el G (.dict x0 x1) ρ=none)/\ (∀(G:GT) x0 x1 x2 (ρ:Rho),el G (.meth x0 x1 x2) ρ=none)/\ (∀(G:GT) x0 x1 x2 (ρ:Rho),el G (.repl x0 x1 x2) ρ=none)/\ (∀(G:GT) x0 x1 x2 x3 x4 (ρ:Rho),el G (.repl2 x0 x1 x2 x3 x4) ρ=none)/\ (∀(G:GT) x0 (ρ:Rho),el G (.byt x0) ρ=none)/\ (∀(G:GT) x0 x1 (ρ:Rho),el G (.comp x0 x1) ρ=none)/\ (∀(G:GT) x0 x1 x2 (ρ:Rho),el G (.dcomp x0 x1 x2) ρ=none):=by and_intros<;>intros<;>rfl
theorem xE:(∀(G:GT) t e (ρ:Rho),fN G (.asg t e) ρ=(be G e ρ).map λx=>.next (setR ρ t (.val x)))/\ (∀(G:GT) t e (ρ:Rho),fN G (.asgOwn t e) ρ=(be G e ρ).bind λx=>(ownOf x).map λs=>.next (setR ρ t s))/\ (∀(G:GT) ts e (ρ:Rho),fN G (.asgT ts e) ρ=(be G e ρ).bind λx=>(tupP x).bind λxs=>(gZ ts xs ρ).map .next)/\ (∀(G:GT) ts e (ρ:Rho),fN G (.asgL ts e) ρ=(be G e ρ).bind λx=>(listOf x).bind λxs=>(gZ ts xs ρ).map .next)/\ (∀(G:GT) ts ow es (ρ:Rho),fN G (.asgTOwn ts ow es) ρ=(gh G es ρ).bind λxs=>(mW ts ow xs ρ).map .next)/\ (∀(G:GT) t op e (ρ:Rho),fN G (.aug t op e) ρ=(slotAt ρ t).bind λs=>(be G e ρ).bind λy=>augS op s y|>.map λz=>.next (setR ρ t z))/\ (∀(G:GT) t k e (ρ:Rho),fN G (.setD t k e) ρ=(be G e ρ).bind λy=>(be G k ρ).bind λk=>(kA ρ t).bind λkvs=>(strOf k).bind λk=>if kvs.length<=1000 then some (.next (setR ρ t (.ownD (jM kvs k y))))else none)/\ (∀(G:GT) t e (ρ:Rho),fN G (.app t e) ρ=(ownAt ρ t).bind λxs=>(be G e ρ).bind λy=>if f0 (xs.length+1)then some (.next (setR ρ t (.own (xs++ [y]))))else none)/\ (∀(G:GT) t (ρ:Rho),fN G (.revI t) ρ=(ownAt ρ t).map λxs=>.next (setR ρ t (.own xs.reverse)))/\ (∀(G:GT) t e (ρ:Rho),fN G (.upd t e) ρ=(kA ρ t).bind λkvs=>(be G e ρ).bind λx=>(dictOf x).bind λl=>if kvs.length+l.length<=1000 then some (.next (setR ρ t (.ownD (iF kvs l))))else none)/\ (∀(G:GT) e (ρ:Rho),fN G (.ret e) ρ=(be G e ρ).map .ret)/\ (∀(G:GT) t a b (ρ:Rho),fN G (.ite t a b) ρ=(el G t ρ).bind λc=>if c then eK G a ρ else eK G b ρ)/\ (∀(G:GT) ts single it body (ρ:Rho),fN G (.forS ts single it body) ρ=(iS G it ρ).bind λitems=>if single||items.all isTup then forP (λx ρ'=>(hK ts single x ρ').bind λρ''=>eK G body ρ'') items ρ else none)/\ (∀(G:GT) t body (ρ:Rho),fN G (.whileS t body) ρ=jT (λρ'=>el G t ρ') (λρ'=>eK G body ρ') 6 ρ)/\ (∀(G:GT) body (ρ:Rho),fN G (.tryS body) ρ=eK G body ρ)/\ (∀(G:GT) t (ρ:Rho),fN G (.freeze t) ρ=(slotAt ρ t).bind λs=>if s.isOwn0 then some (.next (setR ρ t (.val s.pv)))else none)/\ (∀(G:GT) (ρ:Rho),fN G .fail ρ=none):=by and_intros<;>intros<;>rfl
theorem pE:(∀(G:GT) (ρ:Rho),kK G none ρ=some none)/\ (∀(G:GT) e (ρ:Rho),kK G (some e) ρ=(be G e ρ).bind λx=>(intOf x).map some)/\ (∀(G:GT) (ρ:Rho),gh G [] ρ=some [])/\ (∀(G:GT) e es (ρ:Rho),gh G (e::es) ρ=(be G e ρ).bind λx=>(gh G es ρ).map λxs=>x::xs)/\ (∀(G:GT) b (ρ:Rho),allP G b [] ρ=some b)/\ (∀(G:GT) b e es (ρ:Rho),allP G b (e::es) ρ=(el G e ρ).bind λc=>if c==b then allP G b es ρ else some (!b))/\ (∀(G:GT) e (ρ:Rho),iS G (.plain e) ρ=(be G e ρ).bind lY)/\ (∀(G:GT) e (ρ:Rho),iS G (.revd e) ρ=(be G e ρ).bind λx=>(listOf x).map List.reverse)/\ (∀(G:GT) elt (ρ:Rho),kr G [] elt ρ=(elt ρ).map λx=>[x])/\ (∀(G:GT) ts single it ifs gs elt (ρ:Rho),kr G (.mk ts single it ifs::gs) elt ρ=(iS G it ρ).bind λitems=>if single||items.all isTup then (items.mapM λx=>(hK ts single x ρ).bind λρ'=>(allP G true ifs ρ').bind λc=>if c then kr G gs elt ρ' else some []).map List.flatten else none)/\ (∀ρ,gZ [] [] ρ=some ρ)/\ (∀x xs ρ,gZ [] (x::xs) ρ=none)/\ (∀t ts ρ,gZ (t::ts) [] ρ=none)/\ (∀t ts x xs ρ,gZ (t::ts) (x::xs) ρ=gZ ts xs (setR ρ t (.val x)))/\ (∀bs xs ρ,mW [] bs xs ρ=if bs.isEmpty&&xs.isEmpty then some ρ else none)/\ (∀t ts bs xs ρ,mW (t::ts) bs xs ρ=(xs.head?).bind λx=>(bs.head?).bind λb=>(if b then ownOf x else some (.val x)).bind λs=>mW ts bs.tail xs.tail (setR ρ t s))/\ (∀(G:GT) (ρ:Rho),eK G [] ρ=some (.next ρ))/\ (∀(G:GT) s ss (ρ:Rho),eK G (s::ss) ρ=match fN G s ρ with
   |some (.next ρ')=>eK G ss ρ'
   |r=>r)/\
  (∀step ρ,forP step [] ρ=some (.next ρ))/\
  (∀step x xs ρ,forP step (x::xs) ρ=match step x ρ with
   |some (.next ρ')=>forP step xs ρ'
   |r=>r)/\
  (∀test step ρ,jT test step 0 ρ=none)/\
  (∀test step n ρ,jT test step (n+1) ρ=match test ρ with
   |some true=>(match step ρ with
    |some (.next ρ')=>jT test step n ρ'
    |r=>r)
   |some false=>some (.next ρ)
   |none=>none):=
 by and_intros<;>intros<;>rfl
theorem zw7(G:GT)(s:PS)(ss:List PS)(ρ:Rho):eK G (s::ss) ρ=match fN G s ρ with
  |some (.next ρ')=>eK G ss ρ'
  |r=>r:=rfl
theorem z9r(test:Rho->Option Bool)(step:Rho->Option Out)(n:Nat)(ρ:Rho):jT test step (n+1) ρ=match test ρ with
  |some true=>(match step ρ with
   |some (.next ρ')=>jT test step n ρ'
   |r=>r)
  |some false=>some (.next ρ)
  |none=>none:=rfl
theorem vE:(∀a,intOf (.int a)=some a)/\(∀a,strOf (.str a)=some a)/\(∀a,listOf (.list a)=some a)/\(∀a,dictOf (.dict a)=some a)/\(∀a,tupP (.tuple a)=some a)/\(∀a,ownOf (.list a)=some (.own a))/\(∀a,ownOf (.dict a)=some (.ownD a))/\(∀a,one [a]=some a)/\ jU .none=some false/\(∀b,jU (.bool b)=some b)/\(∀i,jU (.int i)=some (i !=0))/\(∀s,jU (.str s)=some (s.length !=0))/\ (∀op p y,augS op (.val p) y=(augP op p y).map .val):=⟨by intros;rfl,by intros;rfl,by intros;rfl,by intros;rfl,by intros;rfl,by intros;rfl,by intros;rfl,by intros;rfl,rfl,by intros;rfl,by intros;rfl,by intros;rfl,by intros;rfl⟩
noncomputable def idx:List Str->Str->Option Nat
 | [],_=>none
 |y::r,x=>if x==y then some r.length else idx r x
theorem idxE(y:Str)(r:List Str)(x:Str):idx (y::r) x=if x==y then some r.length else idx r x:=rfl
structure CE where
 sc:Scope
 σ:List Str
 own:List Str
 base:Nat:=0
noncomputable abbrev CE.up(c:CE)(xs:List Str):CE:={c with σ:=xs.reverse++c.σ}
noncomputable def visK(base i:Nat):Option NameKind->Bool
 |some .local=>decide (base<=i)
 |some .cell=>decide (base<=i)
 |some .free=>true
 |_=>false
noncomputable def qd:Option NameKind->Bool
 |some .local=>true
 |some .cell=>true
 |some .free=>true
 |_=>false
end Mine.Internal
namespace Mine.Internal
open PySem PySem.W PySem.Calls PyProof.Rows PySem.Challenge
noncomputable abbrev tx(l:List Nat):Str:=⟨l.toArray⟩
noncomputable abbrev Chain:=List (Nat×List Nat)
noncomputable def ms(ch:Chain):List PS:=(ch.map λx=>.ite (.cmp .In (.str (tx [x.1])) (.var 0)) [.asg 0 (.repl (.var 0) (tx [x.1]) (tx x.2))] [])++ [.ret (.var 0)]
noncomputable def chainOf:Nat->Chain
 |0=>[(38,[38,97,109,112,59]),(60,[38,108,116,59]),(62,[38,103,116,59])]
 |1=>[(38,[38,97,109,112,59]),(60,[38,108,116,59]),(62,[38,103,116,59]),(34,[38,113,117,111,116,59]),(13,[38,35,49,51,59]),(10,[38,35,49,48,59]),(9,[38,35,48,57,59])]
 |2=>[(38,[38,97,109,112,59]),(62,[38,103,116,59]),(34,[38,113,117,111,116,59])]
 |3=>[(38,[38,97,109,112,59]),(60,[38,108,116,59]),(62,[38,103,116,59]),(13,[38,35,120,68,59])]
 |_=>[(38,[38,97,109,112,59]),(60,[38,108,116,59]),(34,[38,113,117,111,116,59]),(9,[38,35,120,57,59]),(10,[38,35,120,65,59]),(13,[38,35,120,68,59])]
noncomputable def tY:List Nat:=[10,9,8]
noncomputable def zph:Nat:=11
noncomputable def tX:List PS:=[
 .ite (.cmp .LtE (.bin .Sub (.meth (.var 10) ("bit_length":Str) []) (.var 8)) (.glob "_DIV_LIMIT")) [.ret (.call (.glob "divmod") [.var 10,.var 9])] [],
 .asg 7 (.bin .BitAnd (.var 8) (.int 1)),
 .ite (.var 7) [.aug 10 .LShift (.int 1),.aug 9 .LShift (.int 1),.aug 8 .Add (.int 1)] [],
 .asg 6 (.bin .RShift (.var 8) (.int 1)),
 .asg 5 (.bin .Sub (.bin .LShift (.int 1) (.var 6)) (.int 1)),
 .asgT [4,3] (.tuple [.bin .RShift (.var 9) (.var 6),.bin .BitAnd (.var 9) (.var 5)]),
 .asgT [2,1] (.call (.glob "_div3n2n") [.bin .RShift (.var 10) (.var 8),.bin .BitAnd (.bin .RShift (.var 10) (.var 6)) (.var 5),.var 9,.var 4,.var 3,.var 6]),
 .asgT [0,1] (.call (.glob "_div3n2n") [.var 1,.bin .BitAnd (.var 10) (.var 5),.var 9,.var 4,.var 3,.var 6]),
 .ite (.var 7) [.aug 1 .RShift (.int 1)] [],
 .ret (.tuple [.bin .BitOr (.bin .LShift (.var 2) (.var 6)) (.var 0),.var 1])]
noncomputable def tW:List Nat:=[7,6,5,4,3,2]
noncomputable def zpi:Nat:=8
noncomputable def tV:List PS:=[
 .ite (.cmp .Eq (.bin .RShift (.var 7) (.var 2)) (.var 4)) [.asgT [1,0] (.tuple [.bin .Sub (.bin .LShift (.int 1) (.var 2)) (.int 1),.bin .Add (.bin .Sub (.var 7) (.bin .LShift (.var 4) (.var 2))) (.var 4)])] [.asgT [1,0] (.call (.glob "_div2n1n") [.var 7,.var 4,.var 2])],
 .asg 0 (.bin .Sub (.bin .BitOr (.bin .LShift (.var 0) (.var 2)) (.var 6)) (.bin .Mult (.var 1) (.var 3))),
 .whileS (.cmp .Lt (.var 0) (.int 0)) [.aug 1 .Sub (.int 1),.aug 0 .Add (.var 5)],
 .ret (.tuple [.var 1,.var 0])]
noncomputable def uq:List Nat:=[8,7]
noncomputable def zjy:Nat:=9
noncomputable def uo:List PS:=[
 .asg 6 (.meth (.var 7) ("bit_length":Str) []),
 .asg 5 (.call (.glob "_int2digits") [.var 8,.var 6]),
 .asg 4 (.int 0),
 .asgOwn 3 (.list []),
 .forS [2] true (.revd (.var 5)) [.asgT [1,4] (.call (.glob "_div2n1n") [.bin .Add (.bin .LShift (.var 4) (.var 6)) (.var 2),.var 7,.var 6]),.app 3 (.var 1)],
 .revI 3,
 .freeze 3,
 .asg 0 (.call (.glob "_digits2int") [.var 3,.var 6]),
 .ret (.tuple [.var 0,.var 4])]
noncomputable def un:List Nat:=[3,2]
noncomputable def zjz:Nat:=4
noncomputable def um:List PS:=[
 .ite (.cmp .Eq (.var 2) (.int 0)) [.fail] [.ite (.cmp .Lt (.var 2) (.int 0)) [.asgT [1,0] (.call (.glob "int_divmod") [.neg (.var 3),.neg (.var 2)]),.ret (.tuple [.var 1,.neg (.var 0)])] [.ite (.cmp .Lt (.var 3) (.int 0)) [.asgT [1,0] (.call (.glob "int_divmod") [.inv (.var 3),.var 2]),.ret (.tuple [.inv (.var 1),.bin .Add (.var 2) (.inv (.var 0))])] [.ret (.call (.glob "_divmod_pos") [.var 3,.var 2])]]]]
noncomputable def uz:List Nat:=[0]
noncomputable def zh4:Nat:=1
noncomputable def uy:List PS:=[
 .ret (.cmp .In (.call (.glob "ord") [.var 0]) (.glob "b1_set"))]
noncomputable def uE:List Nat:=[1]
noncomputable def zg3:Nat:=2
noncomputable def uC:List PS:=[
 .asg 0 (.meth (.glob "b3_exceptions") ("get":Str) [.call (.glob "ord") [.var 1]]),
 .ite (.cmp .IsNot (.var 0) .none) [.ret (.var 0)] [],
 .ret (.meth (.var 1) ("lower":Str) [])]
noncomputable def zf2:List Nat:=[0]
noncomputable def zma:Nat:=1
noncomputable def zf3:List PS:=[.tryS (ms (chainOf 0))]
noncomputable def zft:List Nat:=[0]
noncomputable def zks:Nat:=1
noncomputable def zfu:List PS:=[.tryS (ms (chainOf 1))]
noncomputable def zdk:List Nat:=[0]
noncomputable def zgx:Nat:=1
noncomputable def zdl:List PS:=[.tryS (ms (chainOf 2))]
noncomputable def zdq:List Nat:=[0]
noncomputable def zhd:Nat:=1
noncomputable def zdr:List PS:=[.tryS (ms (chainOf 3))]
noncomputable def zdm:List Nat:=[0]
noncomputable def zgy:Nat:=1
noncomputable def zdn:List PS:=[.tryS (ms (chainOf 4))]
noncomputable def zkt:List Nat:=[3]
noncomputable def zuz:Nat:=4
noncomputable def nU:List PS:=[
 .asg 2 (.list [.glob "_escape_cdata",.glob "_escape_attrib",.glob "_escape_attrib_html",.glob "_escape_cdata_c14n",.glob "_escape_attrib_c14n"]),
 .asg 1 (.sub (.list [.str "&<>",.str "&<>\u0022\u000d\u000a\u0009",.str "&>\u0022",.str "&<>\u000d",.str "&<\u0022\u0009\u000a\u000d"]) (.var 3)),
 .asgOwn 0 (.dict [.str "&",.str "<",.str ">",.str "\u0022",.str "\u000d",.str "\u000a",.str "\u0009"] [.str "&amp;",.str "&lt;",.str "&gt;",.str "&quot;",.str "&#xD;",.str "&#xA;",.str "&#x9;"]),
 .upd 0 (.ifx (.cmp .Eq (.var 3) (.int 1)) (.dict [.str "\u000d",.str "\u000a",.str "\u0009"] [.str "&#13;",.str "&#10;",.str "&#09;"]) (.dict [] [])),
 .freeze 0,
 .ret (.tuple [.sub (.var 2) (.var 3),.var 1,.var 0])]
noncomputable def ux:List Nat:=[7,6,5]
noncomputable def zh5:Nat:=9
noncomputable def uw:List PS:=[
 .asgOwn 4 (.dict [.str "ff",.str "fi",.str "fl",.str "ss",.str "st",.str "hp"] [.str "\ufb00",.str "\ufb01",.str "\ufb02",.str "\u00df",.str "\ufb06",.str "\u33cb"]),
 .upd 4 (.dict [.str "kk",.str "km",.str "wb",.str "rs",.str "no"] [.str "\u33cd",.str "\u33ce",.str "\u33dd",.str "\u20a8",.str "\u2116"]),
 .asg 3 (.bin .Add (.list [.int 97,.int 65]) (.comp (.bin .Add (.int 119808) (.bin .Mult (.int 52) (.var 8))) [.mk [8] true (.plain (.tuple [.int 0,.int 1,.int 2,.int 4,.int 7,.int 8,.int 9,.int 10,.int 11,.int 12])) []])),
 .freeze 4,
 .asg 2 (.ifx (.cmp .Eq (.bin .Mod (.var 6) (.int 2)) (.int 1)) (.meth (.var 4) ("get":Str) [.var 7,.str ""]) (.str "")),
 .aug 6 .FloorDiv (.int 2),
 .forS [1] true (.plain (.ifx (.cmp .Eq (.var 2) (.str "")) (.var 7) (.str ""))) [.aug 2 .Add (.call (.glob "chr") [.bin .Sub (.bin .Add (.sub (.var 3) (.bin .Mod (.var 6) (.int 12))) (.call (.glob "ord") [.var 1])) (.int 97)]),.aug 6 .FloorDiv (.int 12)],
 .asg 0 (.ifx (.cmp .Lt (.bin .Mod (.var 6) (.int 81)) (.int 27)) (.call (.glob "chr") [.sub (.var 5) (.bin .Mod (.var 6) (.int 81))]) (.str "")),
 .ret (.ifx (.cmp .Eq (.bin .Mod (.bin .FloorDiv (.var 6) (.int 81)) (.int 2)) (.int 0)) (.bin .Add (.var 0) (.var 2)) (.bin .Add (.var 2) (.var 0)))]
noncomputable def ue:List Nat:=[4,3,2]
noncomputable def zmt:Nat:=5
noncomputable def ud:List PS:=[
 .asg 1 (.list [.str "",.sub (.var 3) (.int 0),.sub (.var 3) (.int 1),.bin .Mult (.sub (.var 3) (.int 0)) (.int 2),.var 3,.bin .Add (.sub (.var 3) (.int 1)) (.sub (.var 3) (.int 0)),.bin .Mult (.sub (.var 3) (.int 1)) (.int 2)]),
 .asg 0 (.list [.sub (.var 1) (.bin .Mod (.var 4) (.int 7)),.sub (.var 1) (.bin .Mod (.bin .FloorDiv (.var 4) (.int 7)) (.int 7))]),
 .ret (.tuple [.var 0,.list [.call (.glob "_law_spelled") [.sub (.var 0) (.int 0),.bin .FloorDiv (.var 4) (.int 49),.var 2],.call (.glob "_law_spelled") [.sub (.var 0) (.int 1),.bin .FloorDiv (.bin .FloorDiv (.var 4) (.int 49)) (.int 46656),.var 2]]])]
noncomputable def uc:List Nat:=[0]
noncomputable def tU:Nat:=2
noncomputable def ub:List PS:=[
 .ret (.meth (.str "") ("join":Str) [.comp (.call (.glob "map_table_b3") [.var 1]) [.mk [1] true (.plain (.var 0)) [.not (.call (.glob "in_table_b1") [.var 1])]]])]
noncomputable def ua:List Nat:=[11,10,9,8,7,6]
noncomputable def zmu:Nat:=13
noncomputable def t9:List PS:=[
 .asgTOwn [5,4] [true,true] [.dict [.str ""] [.var 10],.dict [.str ""] [.var 10]],
 .forS [3] true (.plain (.var 11)) [.forS [2] true (.plain (.call (.glob "range") [.call (.glob "len") [.var 3]])) [.ite (.notinOwn (.slice (.var 3) none (some (.bin .Add (.var 2) (.int 1)))) 4) [.asgT [1,0] (.tuple [.sub (.var 9) (.call (.glob "int") [.sub (.var 3) (.var 2)]),.slice (.var 3) none (some (.var 2))]),.setD 5 (.slice (.var 3) none (some (.bin .Add (.var 2) (.int 1)))) (.meth (.meth (.call (.var 8) [.subOwn 5 (.var 0)]) ("replace":Str) [.sub (.var 6) (.int 0),.sub (.var 1) (.sub (.var 7) (.int 0))]) ("replace":Str) [.sub (.var 6) (.int 1),.sub (.var 1) (.sub (.var 7) (.int 1))]),.setD 4 (.slice (.var 3) none (some (.bin .Add (.var 2) (.int 1)))) (.meth (.str "") ("join":Str) [.comp (.sub (.var 1) (.var 12)) [.mk [12] true (.plain (.subOwn 4 (.var 0))) []]])] []]],
 .freeze 5,
 .freeze 4,
 .ret (.tuple [.var 5,.var 4])]
noncomputable def rB:List Nat:=[8]
noncomputable def t8:Nat:=12
noncomputable def rA:List PS:=[
 .asg 7 (.list [.str ""]),
 .forS [6] true (.plain (.call (.glob "range") [.int 4])) [.asg 7 (.comp (.bin .Add (.var 9) (.var 10)) [.mk [9] true (.plain (.var 7)) [],.mk [10] true (.plain (.str "0123")) [.cmp .NotIn (.var 10) (.var 9)]])],
 .asg 5 (.comp (.bin .Mod (.call (.glob "len") [.comp (.int 1) [.mk [10] true (.plain (.call (.glob "range") [.int 4])) [],.mk [11] true (.plain (.call (.glob "range") [.var 10])) [.cmp .Gt (.sub (.var 9) (.var 11)) (.sub (.var 9) (.var 10))]]]) (.int 2)) [.mk [9] true (.plain (.var 7)) []]),
 .asgL [4,3,2] (.comp (.var 9) [.mk [9] true (.plain (.str "0123")) [.cmp .NotEq (.var 9) (.var 8)]]),
 .asg 1 (.list [.bin .Add (.bin .Add (.bin .Add (.bin .Add (.var 4) (.var 3)) (.var 4)) (.var 3)) (.var 2),.bin .Add (.bin .Add (.bin .Add (.bin .Add (.var 3) (.var 4)) (.var 3)) (.var 4)) (.var 2),.bin .Add (.bin .Add (.bin .Add (.bin .Add (.var 2) (.var 4)) (.var 3)) (.var 3)) (.var 4),.bin .Add (.bin .Add (.bin .Add (.bin .Add (.var 2) (.var 3)) (.var 4)) (.var 4)) (.var 3)]),
 .asg 0 (.list [.bin .Add (.bin .Add (.bin .Add (.bin .Add (.var 4) (.var 3)) (.var 3)) (.var 4)) (.var 2),.bin .Add (.bin .Add (.bin .Add (.bin .Add (.var 3) (.var 4)) (.var 4)) (.var 3)) (.var 2),.bin .Add (.bin .Add (.bin .Add (.bin .Add (.var 2) (.var 4)) (.var 3)) (.var 4)) (.var 3),.bin .Add (.bin .Add (.bin .Add (.bin .Add (.var 2) (.var 3)) (.var 4)) (.var 3)) (.var 4)]),
 .ret (.bin .Add (.comp (.comp (.sub (.var 7) (.var 10)) [.mk [10] true (.plain (.call (.glob "range") [.int 24])) [.cmp .Eq (.sub (.var 5) (.var 10)) (.var 9)]]) [.mk [9] true (.plain (.tuple [.int 0,.int 1])) []]) (.list [.var 1,.var 0]))]
noncomputable def uu:List Nat:=[5]
noncomputable def zku:Nat:=6
noncomputable def ut:List PS:=[
 .asgT [4,3,2,1] (.tuple [.bin .Add (.int 22) (.bin .Mod (.var 5) (.int 50)),.bin .Add (.int 4096) (.bin .Mod (.bin .FloorDiv (.var 5) (.int 50)) (.int 1000)),.bin .Add (.int 1) (.bin .Mod (.bin .FloorDiv (.var 5) (.int 50000)) (.int 1000)),.bin .FloorDiv (.var 5) (.int 50000000)]),
 .ite (.cmp .Eq (.bin .Mod (.var 1) (.int 16)) (.int 5)) [.asgT [4,2] (.tuple [.bin .Add (.var 4) (.int 2200),.bin .Sub (.bin .Mult (.var 2) (.bin .Pow (.int 2) (.int 4103))) (.int 1)])] [],
 .aug 1 .FloorDiv (.int 16),
 .asg 0 (.list [.tuple [.int 7,.str "7 (type int)"],.tuple [.none,.str "None (type NoneType)"],.tuple [.list [.str "&"],.str "['&'] (type list)"],.tuple [.byt [38],.str "b'&' (type bytes)"]]),
 .ret (.tuple [.tuple [.var 4,.var 3,.var 2,.bin .Mod (.var 1) (.var 2)],.bin .FloorDiv (.var 1) (.int 4),.sub (.var 0) (.bin .Mod (.var 1) (.int 4))])]
noncomputable def uv:List Nat:=[21,20,19,18,17]
noncomputable def zh6:Nat:=24
noncomputable def ph:List PS:=[
 .asgT [16,15,14,13] (.var 19),
 .asg 12 (.comp (.comp (.ifx (.cmp .Eq (.var 23) (.var 20)) (.int 1) (.var 15)) [.mk [23] true (.plain (.var 22)) []]) [.mk [22] true (.plain (.var 21)) []]),
 .asg 11 (.call (.glob "sum") [.comp (.call (.glob "_digits2int") [.var 22,.var 16]) [.mk [22] true (.plain (.var 12)) []]]),
 .asg 10 (.comp (.call (.glob "sum") [.comp (.sub (.var 23) (.var 22)) [.mk [23] true (.plain (.var 12)) [.cmp .Gt (.call (.glob "len") [.var 23]) (.var 22)]]]) [.mk [22] true (.plain (.call (.glob "range") [.call (.glob "max") [.comp (.call (.glob "len") [.var 22]) [.mk [22] true (.plain (.var 12)) []]]])) []]),
 .asgT [9,8] (.tuple [.ifx (.cmp .NotEq (.var 10) (.list [])) (.bin .Add (.bin .Add (.var 10) (.list [.int 0,.int 0])) (.var 10)) (.list []),.bin .Mult (.var 11) (.bin .Add (.bin .Pow (.int 2) (.bin .Mult (.var 16) (.bin .Add (.call (.glob "len") [.var 10]) (.int 2)))) (.int 1))]),
 .ite (.or [.cmp .NotEq (.call (.glob "_int2digits") [.var 8,.var 16]) (.var 9),.cmp .NotEq (.call (.glob "_digits2int") [.var 9,.var 16]) (.var 8)]) [.ret (.bool false)] [],
 .asgT [7,6] (.sub (.list [.tuple [.int 1,.int 1],.tuple [.int 1,.neg (.int 1)],.tuple [.neg (.int 1),.int 1],.tuple [.neg (.int 1),.neg (.int 1)]]) (.bin .Mod (.var 17) (.int 4))),
 .asgT [5,4,3] (.tuple [.bin .Sub (.bin .Pow (.int 2) (.var 16)) (.int 1),.bin .Mult (.bin .Mult (.var 6) (.bin .Sub (.bin .Pow (.int 2) (.var 16)) (.int 1))) (.var 14),.bin .FloorDiv (.bin .Sub (.var 11) (.var 18)) (.bin .Sub (.bin .Pow (.int 2) (.var 16)) (.int 1))]),
 .forS [2,1] false (.plain (.tuple [.tuple [.bin .Add (.bin .Mult (.var 11) (.var 14)) (.var 13),.bin .Add (.bin .Mult (.bin .Add (.bin .Mult (.var 3) (.var 5)) (.var 18)) (.var 14)) (.var 13)],.tuple [.bin .Mult (.bin .Sub (.var 11) (.var 18)) (.bin .Pow (.var 14) (.int 2)),.bin .Mult (.bin .Mult (.var 3) (.var 5)) (.bin .Pow (.var 14) (.int 2))]])) [.asg 0 (.call (.glob "int_divmod") [.bin .Mult (.var 7) (.var 2),.var 4]),.ite (.or [.cmp .NotEq (.var 0) (.tuple [.bin .FloorDiv (.bin .Mult (.var 7) (.var 1)) (.var 4),.bin .Mod (.bin .Mult (.var 7) (.var 1)) (.var 4)]),.cmp .NotEq (.comp (.cmp .Is (.call (.glob "type") [.var 22]) (.glob "int")) [.mk [22] true (.plain (.var 0)) []]) (.list [.bool true,.bool true])]) [.ret (.bool false)] []],
 .ret (.bool true)]
noncomputable def z5e:List Nat:=[26]
noncomputable def jcw:Nat:=29
noncomputable def kM:List PS:=[
 .asg 25 (.tuple [.int 18521,.int 4580874,.int 7187668721,.int 118988171,.int 4554030609,.int 4800345203]),
 .asg 24 (.comp (.bin .Add (.sub (.var 25) (.var 27)) (.call (.glob "sum") [.comp (.bin .Mod (.sub (.var 26) (.var 28)) (.bin .Pow (.int 10) (.int 12))) [.mk [28] true (.plain (.call (.glob "range") [.var 27,.call (.glob "min") [.call (.glob "len") [.var 26],.int 60],.int 6])) []]])) [.mk [27] true (.plain (.call (.glob "range") [.int 6])) []]),
 .asgT [23,22,21] (.call (.glob "_law_hand") [.bin .Mod (.sub (.var 24) (.int 0)) (.int 5)]),
 .asg 20 (.bin .Mod (.bin .FloorDiv (.sub (.var 24) (.int 0)) (.int 5)) (.call (.glob "len") [.var 22])),
 .asg 19 (.bin .Add (.sub (.var 22) (.var 20)) (.sub (.var 22) (.bin .Mod (.bin .Add (.bin .Add (.var 20) (.int 1)) (.bin .Mod (.bin .FloorDiv (.sub (.var 24) (.int 0)) (.int 35)) (.bin .Sub (.call (.glob "len") [.var 22]) (.int 1)))) (.call (.glob "len") [.var 22])))),
 .asg 18 (.sub (.list [.str "fi",.str "fl",.str "st",.str "hp",.str "km",.str "wb",.str "rs",.str "no"]) (.bin .Mod (.bin .FloorDiv (.sub (.var 24) (.int 0)) (.int 210)) (.int 8))),
 .asg 17 (.bin .Add (.list [.int 173,.int 847,.int 6150,.int 6155,.int 6156,.int 6157,.int 8203,.int 8204,.int 8205,.int 8288,.int 65279]) (.call (.glob "list") [.call (.glob "range") [.int 65024,.int 65040]])),
 .asg 16 (.comp (.call (.glob "_law_rule") [.var 27,.var 18,.var 17]) [.mk [27] true (.plain (.slice (.var 24) (some (.int 1)) (some (.int 5)))) []]),
 .asg 15 (.bin .Add (.meth (.str "") ("join":Str) [.comp (.var 28) [.mk [27] true (.plain (.var 16)) [],.mk [28] true (.plain (.sub (.var 27) (.int 1))) []]]) (.str "\u00ac\u00ae\u034e\u0350\u1805\u1807\u180a\u180e\u200a\u200e\u205f\u2061\ufdff\ufe10\ufefe\uff00")),
 .asgT [14,13] (.tuple [.comp (.call (.glob "in_table_b1") [.var 27]) [.mk [27] true (.plain (.var 15)) []],.comp (.cmp .In (.call (.glob "ord") [.var 27]) (.var 17)) [.mk [27] true (.plain (.var 15)) []]]),
 .asg 12 (.comp (.comp (.call (.glob "_law_read") [.var 28]) [.mk [28] true (.plain (.sub (.var 27) (.int 1))) []]) [.mk [27] true (.plain (.var 16)) []]),
 .ite (.or [.cmp .NotEq (.comp (.cmp .Is (.var 27) (.bool true)) [.mk [27] true (.plain (.var 14)) []]) (.var 13),.cmp .NotEq (.comp (.cmp .IsNot (.var 27) (.bool false)) [.mk [27] true (.plain (.var 14)) []]) (.var 13),.cmp .NotEq (.var 12) (.comp (.sub (.var 27) (.int 0)) [.mk [27] true (.plain (.var 16)) []])]) [.ret (.bool false)] [],
 .asg 11 (.comp (.dcomp (.sub (.var 19) (.var 28)) (.repl2 (.repl2 (.sub (.var 27) (.var 28)) (.var 18) 0 (.var 19) 0) (.var 18) 1 (.var 19) 1) [.mk [28] true (.plain (.tuple [.int 0,.int 1])) []]) [.mk [27] true (.plain (.var 12)) []]),
 .asg 10 (.call (.glob "_law_sides") [.sub (.str "0123") (.bin .Mod (.bin .FloorDiv (.sub (.var 24) (.int 0)) (.int 5040)) (.int 4))]),
 .asg 9 (.comp (.var 28) [.mk [27] true (.plain (.var 10)) [],.mk [28] true (.plain (.var 27)) []]),
 .asg 8 (.sub (.list [.sub (.var 19) (.int 0),.sub (.var 19) (.int 1),.var 19]) (.bin .Mod (.bin .FloorDiv (.sub (.var 24) (.int 0)) (.int 1680)) (.int 3))),
 .asgT [7,6] (.call (.glob "_law_runs") [.var 9,.var 8,.var 11,.var 23,.var 19,.list [.sub (.var 21) (.sub (.var 19) (.int 0)),.sub (.var 21) (.sub (.var 19) (.int 1))]]),
 .ite (.cmp .NotEq (.var 7) (.var 6)) [.ret (.bool false)] [],
 .asgT [5,4,3] (.call (.glob "_law_sizes") [.sub (.var 24) (.int 5)]),
 .forS [2] true (.plain (.tuple [.int 0,.int 2])) [.asg 1 (.call (.glob "sum") [(.comp (.bin .Add (.meth (.sub (.var 6) (.var 27)) ("count":Str) [.sub (.var 19) (.int 0)]) (.bin .Mult (.sub (.var 5) (.int 1)) (.meth (.sub (.var 6) (.var 27)) ("count":Str) [.sub (.var 19) (.int 1)]))) [.mk [27] true (.plain (.sub (.var 10) (.var 2))) []])]),.forS [0] true (.plain (.tuple [.var 2,.bin .Add (.var 2) (.int 1)])) [.ite (.not (.call (.glob "_law_counted") [.comp (.sub (.var 7) (.var 27)) [.mk [27] true (.plain (.sub (.var 10) (.var 0))) []],.sub (.var 19) (.int 0),.var 5,.var 1,.bin .Add (.var 4) (.var 0)])) [.ret (.bool false)] []]],
 .ret (.call (.glob "_law_refused") [.var 23,.sub (.var 3) (.int 0),.sub (.var 3) (.int 1)])]
def i0(o:Obj):Prop:=o.cls= .type "code" /\ ∃vs,o.data= .fields vs
theorem qN(hd:o.data= .dict es n): ¬i0 o:=λz=>by obtain ⟨J,vs,q⟩:=z;rw [hd]at q;cases q
theorem j9(e:o.cls= .type a)(h:a≠ "code"): ¬i0 o:=λq=>h (Value.type.inj (e.symm.trans q.1))
theorem z9s{h:Heap}{a:Addr}{m:Str->Option Value}{o:Obj}(n:h.Ns a m)(e:h.get? a=some o): ¬i0 o:=λz=>by
 obtain ⟨J,vs,q⟩:=z;refine ql n λo' es ep e' hd J=>?_
 rw [e]at e';replace e':=oj e';subst e';rw [q]at hd;cases hd
theorem z58{h:Heap}{a:Addr}{v:Option Value}{o:Obj}(n:h.IsCell a v)(e:h.get? a=some o): ¬i0 o:=λz=>by
 obtain ⟨J,vs,q⟩:=z;refine aN n λo' e' hd=>?_
 rw [e]at e';replace e':=oj e';subst e';rw [q]at hd;cases hd
structure Lits where
 lit:Str->Tok->Prop
 tk:Nat
 nz: ∀{x t},lit x t->t≠0
 lt: ∀{x t},lit x t->t<tk
noncomputable def Lits.no:Lits:=⟨λJ J=>False,0,λh=>h.elim,λh=>h.elim⟩
structure CX where
 prog:Program
 w:World
 mg:Str->Option Value
 mb:Str->Option Value
 n₀:Nat
 n4:4<=n₀
 Inv:Heap->Prop
 L:Lits
 keep: ∀{h h':Heap},(∀b o,(b<n₀\/i0 o)->h.get? b=some o->h'.get? b=some o)->Inv h->Inv h'
 low: ∀{h:Heap},Inv h->n₀<=h.objs.size
 g: ∀{h:Heap},Inv h->h.Ns aP mg
 b: ∀{h:Heap},Inv h->h.Ns cM mb
 nolimit: ∀{h:Heap},Inv h->h.NoLimit
noncomputable def CX.relit(C:CX)(L:Lits):CX:={C with L:=L}
theorem CX.keepBut(C:CX)(lo:C.n₀<=a)(nc: ∀o,h.get? a=some o-> ¬i0 o)(k: ∀b o,b≠a->h.get? b=some o->h'.get? b=some o):C.Inv h->C.Inv h':=
 C.keep λb o hb e=>k b o (λq=>by
  subst q;rcases hb with hb|hb
  ·exact aW _ (af hb lo)
  ·exact nc o e hb) e
structure Ext0(C:CX)(s s':Shared):Prop where
 new: ∀b o,C.n₀<=b->s.heap.get? b=some o->s'.heap.get? b=some o
 inv:C.Inv s.heap->C.Inv s'.heap
 gens:s'.gens=s.gens
 drawn:s'.drawn=s.drawn
 os:s'.os=s.os
theorem Ext0.refl(s:Shared):Ext0 C s s:=⟨λJ J J e=>e,id,rfl,rfl,rfl⟩
theorem Ext0.trans(x:Ext0 C a b)(y:Ext0 C b c):Ext0 C a c:=⟨λq o h e=>y.new q o h (x.new q o h e),λh=>y.inv (x.inv h),y.gens.trans x.gens,y.drawn.trans x.drawn,y.os.trans x.os⟩
theorem Ext0.toks(k:Nat):Ext0 C s {s with toks:=k}:=⟨λJ J J e=>e,id,rfl,rfl,rfl⟩
theorem Ext0.grow(x: ∀b o,s.heap.get? b=some o->h'.get? b=some o):Ext0 C s {s with heap:=h',toks:=k}:=⟨λb o J e=>x b o e,C.keep λb o J e=>x b o e,rfl,rfl,rfl⟩
theorem Ext0.push(o:Obj)(k:Nat):Ext0 C s {s with heap:=s.heap.push o,toks:=k}:=.grow λJ J e=>aq o e
def Heap.IsRangeAt(h:Heap)(a:Addr)(lo hi st:Int):Prop:=∃t1 t2 t3,IsRange h a lo hi st t1 t2 t3
noncomputable abbrev ff(vs:List Value)(n:Nat):Obj:={cls:=.type "list",data:=.seq vs.toArray n}
noncomputable abbrev tupO(vs:List Value)(n:Nat):Obj:={cls:=.type "tuple",data:=.seq vs.toArray n}
mutual
noncomputable def Rep(C:CX)(h:Heap)(W:Addr->Prop):PV->Value->Prop
 | .none,v=>v= .none
 | .bool b,v=>v= .bool b
 | .int i,v=>∃t,v= .int i t
 | .str s,v=>∃t,v= .str s t/\s.length<=aM
 | .lit s,v=>∃t,v= .str s t/\s.length<=aM/\C.L.lit s t
 | .frs s,v=>∃t,v= .str s t/\s.length<=aM/\t≠0/\C.L.tk<=t
 | .byt b,v=>∃t,v= .bytes b t
 | .list xs,v=>∃a vs n,v= .ref a/\ ¬W a/\C.n₀<=a/\h.get? a=some (ff vs n)/\RepL C h W xs vs/\xs.length<=aM
 | .tuple xs,v=>∃a vs n,v= .ref a/\ ¬W a/\C.n₀<=a/\h.get? a=some (tupO vs n)/\RepL C h W xs vs
 | .dict kvs,v=>∃a l,v= .ref a/\ ¬W a/\C.n₀<=a/\h.DictOf (strKind C.prog C.w) a l/\RepD C h W kvs l
 | .range lo hi st,v=>∃a,v= .ref a/\ ¬W a/\C.n₀<=a/\Heap.IsRangeAt h a lo hi st/\iW lo hi st=true
 | .fn f,v=>C.mg f=some v
 | .ty n,v=>v= .type n
 | .bi id,v=>v= .builtin id
 | .b1,v=>C.mg "b1_set" =some v
 | .b3,v=>C.mg "b3_exceptions" =some v
noncomputable def RepL(C:CX)(h:Heap)(W:Addr->Prop):List PV->List Value->Prop
 | [],vs=>vs=[]
 |x::xs,vs=>∃v r,vs=v::r/\Rep C h W x v/\RepL C h W xs r
noncomputable def RepD(C:CX)(h:Heap)(W:Addr->Prop):List (Str×PV)->List (Str×Value)->Prop
 | [],es=>es=[]
 |(k,x)::xs,es=>∃v r,es=(k,v)::r/\Rep C h W x v/\RepD C h W xs r
end
def Stay(C:CX)(h h':Heap)(W W':Addr->Prop):Prop:=∀b o,C.n₀<=b-> ¬W b->h.get? b=some o->h'.get? b=some o/\ ¬W' b
theorem Rep.stay(k:Stay C h h' W W')(p:PV): ∀v:Value,Rep C h W p v->Rep C h' W' p v:=by
 refine PV.rec (motive_1:=λp=>∀v,Rep C h W p v->Rep C h' W' p v) (motive_2:=λl=>∀v,RepL C h W l v->RepL C h' W' l v) (motive_3:=λl=>∀v,RepD C h W l v->RepD C h' W' l v) (motive_4:=λq=>∀v,Rep C h W q.2 v->Rep C h' W' q.2 v)
  (λJ x=>x) (λJ J x=>x) (λJ J x=>x) (λJ J x=>x) (λJ J x=>x) (λJ J x=>x) (λJ J x=>x) (λxs ih v x=>?_) (λxs ih v x=>?_) (λxs ih v x=>?_) (λJ J J v x=>?_) (λJ J x=>x) (λJ J x=>x) (λJ J x=>x) (λJ x=>x) (λJ x=>x)
  (λJ x=>x) (λy ys i1 i2 v x=>?_) (λJ x=>x) (λq ys i1 i2 v x=>?_) (λJ J ih=>ih) p
 ·refine iJ x λa vs n e_ hw ha ho hl hz=>?_
  exact kW a vs n e_ ((k a _ ha hw ho).2) ha ((k a _ ha hw ho).1) (ih vs hl) hz
 ·refine kE x λa vs n e_ hw ha ho hl=>?_
  exact oW a vs n e_ ((k a _ ha hw ho).2) ha ((k a _ ha hw ho).1) (ih vs hl)
 ·refine lf x λa es e_ hw ha g hl=>?_
  refine gO g λo e1 e2 ho hr=>?_
  exact kg a es e_ ((k a _ ha hw ho).2) ha (gz o e1 e2 ((k a _ ha hw ho).1) hr) (ih _ hl)
 ·obtain ⟨a,e,hw,ha,⟨t1,t2,t3,ho⟩,r⟩:=x;exact z5a a e ((k a _ ha hw ho).2) ha ⟨t1,t2,t3,(k a _ ha hw ho).1⟩ r
 ·refine ek x λa r e_ h1 h2=>?_
  exact eg a r e_ (i1 a h1) (i2 r h2)
 ·refine ek x λa r e_ h1 h2=>?_
  exact eg a r e_ (i1 a h1) (i2 r h2)
theorem RepL.stay(k:Stay C h h' W W')(p:List PV): ∀v:List Value,RepL C h W p v->RepL C h' W' p v:=by
 induction p with
 |nil=>exact λJ x=>x
 |cons y ys ih=>
  intro v x;refine ek x λa r e_ h1 h2=>?_
  exact eg a r e_ (Rep.stay k y a h1) (ih r h2)
theorem RepD.stay(k:Stay C h h' W W')(p:List (Str×PV)): ∀v:List (Str×Value),RepD C h W p v->RepD C h' W' p v:=by
 induction p with
 |nil=>exact λJ x=>x
 |cons q ys ih=>
  intro v x;refine ek x λa r e_ h1 h2=>?_
  exact eg a r e_ (Rep.stay k q.2 a h1) (ih r h2)
theorem Ext0.stay(x:Ext0 C s s')(W:Addr->Prop):Stay C s.heap s'.heap W W:=λb o h hw e=>⟨x.new b o h e,hw⟩
theorem Rep.ext(x:Ext0 C s s')(r:Rep C s.heap W p v):Rep C s'.heap W p v:=Rep.stay (x.stay W) p v r
theorem RepL.ext(x:Ext0 C s s')(r:RepL C s.heap W p v):RepL C s'.heap W p v:=RepL.stay (x.stay W) p v r
theorem RepL.length: ∀{p:List PV} {v:List Value},RepL C h W p v->v.length=p.length:=by
 intro p;induction p with
 |nil=>intro v x;obtain rfl:_=_:=x;rfl
 |cons z zs ih=>
  intro v x;refine ek x λa r e_ J h2=>?_
  subst e_;exact congrArg Nat.succ (ih h2)
theorem RepL.append: ∀{p q:List PV} {v u:List Value},RepL C h W p v->RepL C h W q u->RepL C h W (p++q) (v++u):=by
 intro p;induction p with
 |nil=>intro q v u x y;obtain rfl:_=_:=x;exact y
 |cons z zs ih=>
  intro q v u x y;refine ek x λa r e_ h1 h2=>?_
  subst e_;exact eg a _ rfl h1 (ih h2 y)
theorem RepL.get: ∀{p:List PV} {v:List Value} (i:Nat) {x:PV},RepL C h W p v->p[i]?=some x-> ∃y,v[i]?=some y/\Rep C h W x y:=by
 intro p;induction p with
 |nil=>intro v i x J e;exact cu e
 |cons z zs ih=>
  intro v i x r e;refine ek r λa r e_ h1 h2=>?_
  subst e_;cases i with
  |zero=>replace e:=oj e;subst e;exact bK a rfl h1
  |succ i=>exact ih i h2 e
theorem RepL.cons(a:Rep C h W x v)(b:RepL C h W xs vs):RepL C h W (x::xs) (v::vs):=by exact eg v vs rfl a b
inductive fQ(h:Heap)(env:Env)(n₀:Nat)(x:Str)(v:Value):Prop
 |loc {m:Str->Option Value} (k:env.kindOf x=some .local) (n:h.Ns env.locals m) (e:m x=some v)
 |cell {c:Addr} (k:env.kindOf x=some .cell\/env.kindOf x=some .free) (l:env.cells.lookup x=some c) (lo:n₀<=c) (i:h.IsCell c (some v))
inductive RepS(C:CX)(h:Heap)(W O:Addr->Prop):Slot->Value->Prop
 |val {p:PV} {v:Value} (r:Rep C h W p v):RepS C h W O (.val p) v
 |own {xs:List PV} {a:Addr} {vs:List Value} {n:Nat} (w:O a) (lo:C.n₀<=a) (l:h.get? a=some (ff vs n)) (r:RepL C h W xs vs) (z:xs.length<=aM):RepS C h W O (.own xs) (.ref a)
 |ownD {kvs:List (Str×PV)} {a:Addr} {l:List (Str×Value)} (w:O a) (lo:C.n₀<=a) (g:h.DictOf (strKind C.prog C.w) a l)
   (r:RepD C h W kvs l):RepS C h W O (.ownD kvs) (.ref a)
noncomputable def Slot.isOwn:Slot->Bool
 | .val _=>false
 |_=>true
structure dq(C:CX)(c:CE)(env:Env)(W O:Addr->Prop)(h:Heap)(ρ:Rho):Prop where
 glob:env.globals=aP
 bui:env.builtins=cM
 kind:env.scope.kind= .function
 ow: ∀b,O b->W b
 lo: ∀b,O b->C.n₀<=b
 loc:O env.locals
 ns: ∃m,h.Ns env.locals m
 names: ∀x,env.kindOf x=c.sc.names.lookup x\/(c.sc.names.lookup x=some .free/\env.kindOf x=some .cell)\/c.sc.names.lookup x=none
 cells: ∀x,(c.sc.names.lookup x=some .cell\/c.sc.names.lookup x=some .free)-> ∃a v,env.cells.lookup x=some a/\O a/\h.IsCell a v
 cinj: ∀x y a,env.cells.lookup x=some a->env.cells.lookup y=some a->x=y
 top: ∀i s,ρ[i]?=some (some s)->i<c.σ.length
 vars: ∀x i s,idx c.σ x=some i->visK c.base i (c.sc.names.lookup x)=true->ρ[i]?=some (some s)-> ∃v,fQ h env C.n₀ x v/\RepS C h W (λb=>O b/\b≠env.locals) s v
 apart: ∀x y i j s t v,idx c.σ x=some i->idx c.σ y=some j->visK c.base i (c.sc.names.lookup x)=true->visK c.base j (c.sc.names.lookup y)=true->ρ[i]?=some (some s)->ρ[j]?=some (some t)->s.isOwn=true->t.isOwn=true->
  fQ h env C.n₀ x v->fQ h env C.n₀ y v->i=j
theorem fQ.keep(k: ∀b o,n₀<=b->h.get? b=some o->h'.get? b=some o)(hl:n₀<=env.locals)(y:fQ h env n₀ x v):fQ h' env n₀ x v:=by
 induction y with
 |loc hk n e=>
  refine gO n λo es ep ho r=>?_
  exact .loc hk (gz o es ep (k _ _ hl ho) r) e
 |cell hk l lo i=>
  refine aN i λo ho r=>?_
  exact .cell hk l lo (bK o (k _ _ lo ho) r)
theorem z5f{h:Heap}{a:Addr}{m m':Str->Option Value}(x:h.Ns a m)(y:h.Ns a m'):m=m':=by
 refine mP x λo es ep ho hd hk hm=>?_
 refine mP y λo' es' ep' ho' hd' hk' hm'=>?_
 rw [ho]at ho';replace ho':=oj ho';subst ho';rw [hd]at hd';cases hd';funext k;rw [<-hm k,<-hm' k]
theorem zu0{h:Heap}{a:Addr}{v v':Option Value}(x:h.IsCell a v)(y:h.IsCell a v'):v=v':=by
 refine aN x λo ho hd=>?_
 refine aN y λo' ho' hd'=>?_
 rw [ho]at ho';replace ho':=oj ho';subst ho';rw [hd]at hd';cases hd';rfl
theorem fQ.fn{h:Heap}{env:Env}{n₀:Nat}{x:Str}{v u:Value}(a:fQ h env n₀ x v)(b:fQ h env n₀ x u):v=u:=by
 induction a with
 |loc k n e=>
  cases b with
  |loc k' n' e'=>have:=z5f n n';subst this;rw [e]at e';replace e':=oj e';subst e';rfl
  |cell k' l' lo' i'=>rw [k]at k';rcases k' with h|h<;>cases h
 |cell k l lo i=>
  induction b with
  |loc k' n' e'=>rw [k']at k;rcases k with h|h<;>cases h
  |cell k' l' lo' i'=>rw [l]at l';replace l':=oj l';subst l';have:=zu0 i i';replace this:=oj this;subst this;rfl
theorem RepS.ext(x:Ext0 C s s')(r:RepS C s.heap W O p v):RepS C s'.heap W O p v:=by
 induction r with
 |val r=>exact .val (r.ext x)
 |own w lo l r z=>exact .own w lo (x.new _ _ lo l) (r.ext x) z
 |ownD w lo g r=>
  refine gO g λo e1 e2 ho hr=>?_
  exact .ownD w lo (gz o e1 e2 (x.new _ _ lo ho) hr) (RepD.stay (x.stay W) _ _ r)
theorem dq.ext(e:dq C c env W O s.heap ρ)(x:Ext0 C s s'):dq C c env W O s'.heap ρ where
 glob:=e.glob
 bui:=e.bui
 kind:=e.kind
 ow:=e.ow
 lo:=e.lo
 loc:=e.loc
 ns:=by obtain ⟨m,o,es,ep,ho,r⟩:=e.ns;exact nd m o es ep (x.new _ _ (e.lo _ e.loc) ho) r
 names:=e.names
 cells:=λy hy=>by obtain ⟨a,v,h1,h2,o,ho,hd⟩:=e.cells y hy;exact mN a v h1 h2 o (x.new _ _ (e.lo _ h2) ho) hd
 cinj:=e.cinj
 top:=e.top
 vars:=λy i sl h1 h2 h3=>by obtain ⟨v,a,b⟩:=e.vars y i sl h1 h2 h3;exact bK v (a.keep x.new (e.lo _ e.loc)) (b.ext x)
 apart:=λy z i j sl tl v h1 h2 k1 k2 h3 h4 h5 h6 h7 h8=>by
  refine aN (e.vars y i sl h1 k1 h3) λu a J=>?_
  refine aN (e.vars z j tl h2 k2 h4) λu' a' J=>?_
  have e1:=h7.fn (a.keep x.new (e.lo _ e.loc));have e2:=h8.fn (a'.keep x.new (e.lo _ e.loc));subst e1 e2;exact e.apart y z i j sl tl _ h1 h2 k1 k2 h3 h4 h5 h6 a a'
noncomputable abbrev Room(A:Around)(K:Nat):Prop:=A.handled=none/\A.depth+2*K+110<bL/\A.units+16*K+200<cLine
def Snd0(C:CX)(A:Around)(s:Shared)(W:Addr->Prop)(t:Sem Value)(p:PV):Prop:=∀(Q E:Value->Shared->Prop),(∀v s',Ext0 C s s'->Rep C s'.heap W p v->Q v s')->wpAny (model C.prog C.w) A t Q E s
structure Ext(C:CX)(s s':Shared):Prop extends Ext0 C s s' where
 toks:s.toks<=s'.toks
theorem Ext.refl(s:Shared):Ext C s s:=⟨.refl s,az _⟩
theorem Ext.trans(x:Ext C a b)(y:Ext C b c):Ext C a c:=⟨x.toExt0.trans y.toExt0,aa x.toks y.toks⟩
def Snd(C:CX)(A:Around)(s:Shared)(W:Addr->Prop)(t:Sem Value)(p:PV):Prop:=∀(Q E:Value->Shared->Prop),(∀v s',Ext C s s'->Rep C s'.heap W p v->Q v s')->wpAny (model C.prog C.w) A t Q E s
theorem Snd0.up(x:Snd0 C A s W t p):Snd C A s W t p:=λQ E q=>bP (az s.toks) (x _ _ λv s' e r ht=>q v s' ⟨e,ht⟩ r)
section
variable{C:CX}{c:CE}{env:Env}{W O:Addr->Prop}{s:Shared}{ρ:Rho}{A:Around}
end
theorem zh7(h:nA x y=true):IntMulOk x y:=by
 unfold nA at h;simp only [Bool.or_eq_true,decide_eq_true_eq]at h;rcases h with (h|h)|h
 ·exact .of_left h
 ·exact .of_right h
 ·unfold IntMulOk Builtin.Int.intTooBig;intro k;simp only [an,decide_eq_true_eq]at k;have:=k.2;simp only [bitsLine]at this;lia
theorem Ext0.tok1:Ext0 C s {s with toks:=s.toks+1}:=.toks _
theorem tz(n:Nat)(a:Array α)(b:Array α):(aJ n a).foldl (· ++ ·) b=b++(aJ n a.toList).flatten.toArray:=by
 induction n generalizing b with
 |zero=>simp
 |succ n ih=>rw [gK,j3,ih,gK,fw];apply Array.ext';simp
section
variable{C:CX}{W:Addr->Prop}{s:Shared}{A:Around}
theorem ef(r:Rep C h W (.int i) v): ∃t,v= .int i t:=r
theorem gA(r:Rep C h W (.str x) v): ∃t,v= .str x t/\x.length<=aM:=r
theorem iU(r:Rep C h W (.list xs) v): ∃a vs n,v= .ref a/\ ¬W a/\C.n₀<=a/\h.get? a=some (ff vs n)/\RepL C h W xs vs/\xs.length<=aM:=r
theorem nI(r:Rep C h W (.tuple xs) v): ∃a vs n,v= .ref a/\ ¬W a/\C.n₀<=a/\h.get? a=some (tupO vs n)/\RepL C h W xs vs:=r
theorem gg:Rep C h W (.int i) (.int i t):=⟨_,rfl⟩
theorem jd(l:x.length<=aM):Rep C h W (.str x) (.str x t):=bK _ rfl l
theorem gy:Rep C h W (.bool b) (.bool b):=rfl
structure At(C:CX)(W:Addr->Prop)(s:Shared):Prop where
 inv:C.Inv s.heap
 wocc: ∀b,W b->C.n₀<=b/\ ∃o,s.heap.get? b=some o
 tok:C.L.tk<s.toks
theorem At.ext(a:At C W s)(x:Ext C s s'):At C W s':=⟨x.inv a.inv,λb h=>by obtain ⟨lo,o,e⟩:=a.wocc b h;exact ⟨lo,o,x.new b o lo e⟩,af a.tok x.toks⟩
theorem At.low(a:At C W s):C.n₀<=s.heap.objs.size:=C.low a.inv
theorem At.nw(a:At C W s): ¬W s.heap.objs.size:=λh=>by obtain ⟨J,J,e⟩:=a.wocc _ h;exact aW _ (aB e)
theorem qM{Q:Value->Shared->Prop}{xs:List PV}{vs:List Value}{n k:Nat}(a:At C W s)(r:RepL C s.heap W xs vs)(z:xs.length<=aM)(q: ∀v s',Ext0 C s s'->Rep C s'.heap W (.list xs) v->Q v s'):Q (.ref s.heap.objs.size) {s with heap:=s.heap.push (ff vs n),toks:=k}:=by have e:Ext0 C s {s with heap:=s.heap.push (ff vs n),toks:=k}:=.push _ _;refine q _ _ e ?_;exact kW _ vs n rfl a.nw a.low (au _ rfl) (r.ext e) z
theorem zpj{Q:Value->Shared->Prop}{xs:List PV}{vs:List Value}{n k:Nat}(a:At C W s)(r:RepL C s.heap W xs vs)(q: ∀v s',Ext0 C s s'->Rep C s'.heap W (.tuple xs) v->Q v s'):Q (.ref s.heap.objs.size) {s with heap:=s.heap.push (tupO vs n),toks:=k}:=by have e:Ext0 C s {s with heap:=s.heap.push (tupO vs n),toks:=k}:=.push _ _;refine q _ _ e ?_;exact oW _ vs n rfl a.nw a.low (au _ rfl) (r.ext e)
theorem qz{op:Operator}{x y z:PV}{v u:Value}(e:binP op x y=some z)(a:At C W s)(rx:Rep C s.heap W x v)(ry:Rep C s.heap W y u):Snd0 C A s W (binaryOp op v u) z:=by
 induction op with
 |Add=>
  cases x with
  |int x=>
  refine aN (mapI e) λb e_ g=>?_
  subst e_;obtain ⟨t,rfl⟩:=ef rx;obtain ⟨t',rfl⟩:=ef ry;induction g;intro Q E q;exact PySem.P.add_int (q _ _ .tok1 gg)
  |str xs=>
  refine aN (lA e) λys e_ g=>?_
  subst e_;obtain ⟨t,rfl,hx⟩:=gA rx;obtain ⟨t',rfl,hy⟩:=gA ry;refine xA (gP g) λhz e_=>?_
  subst e_;have hz':xs.length+ys.length<=16777216:=by simpa [f0] using hz
  have hl:(xs++ys).length<=aM:=by rw [gE,av];exact hz'
  intro Q E q;refine PySem.P.add_str ?_;by_cases h1:(xs.length==0)=true
  ·rw [if_pos h1];have e:xs++ys=ys:=by
    have:xs=⟨#[]⟩:=by obtain ⟨c⟩:=xs;simp [fJ]at h1;rw [h1]
    rw [this];exact gU ys
   rw [e]at q;exact q _ _ (.refl _) ry
  ·rw [if_neg h1];by_cases h2:(ys.length==0)=true
   ·rw [if_pos h2];have e:xs++ys=xs:=by
     have:ys=⟨#[]⟩:=by obtain ⟨c⟩:=ys;simp [fJ]at h2;rw [h2]
     rw [this];obtain ⟨c⟩:=xs;show Str.mk (c++ #[])=_;simp
    rw [e]at q;exact q _ _ (.refl _) rx
   ·rw [if_neg h2];exact ⟨hl,q _ _ .tok1 (jd hl)⟩
  |list xs=>
  refine aN (kN e) λys e_ g=>?_
  subst e_;refine iJ (iU rx) λl vs n e_ J J ho hl J=>?_
  subst e_;refine iJ (iU ry) λl' vs' n' e_ J J ho' hl' J=>?_
  subst e_;refine xA (gP g) λhz e_=>?_
  subst e_;have hz':xs.length+ys.length<=16777216:=by simpa [f0] using hz
  have e:vs.toArray++vs'.toArray=(vs++vs').toArray:=by simp
  intro Q E q;refine concat_meets (bK _ ho rfl) (bK _ ho' rfl) noFill_list_add seq_list_add PySem.F.slot_list_add PySem.F.entry_list_add (PySem.F.args_list_add_2 _ _)
   (list_addW l l' vs.toArray vs'.toArray n n' none none #[] #[] (by simp only [bI,hl.length,hl'.length,av];exact hz')) ⟨ho,ho',?_⟩
  rw [e];exact qM (n:=0) a (hl.append hl') (by rw [aC,av];exact hz') q
  |_=>exact cu e
 |Sub=>
  refine ek (jf e) λa b e_ e_1 g=>?_
  subst e_ e_1;obtain ⟨t,rfl⟩:=ef rx;obtain ⟨t',rfl⟩:=ef ry;replace g:=oj g;subst g;intro Q E q;exact PySem.P.sub_int (q _ _ .tok1 gg)
 |Mult=>
  cases x with
  |int x=>
  refine aN (jR e) λb e_ g=>?_
  subst e_;obtain ⟨t,rfl⟩:=ef rx;obtain ⟨t',rfl⟩:=ef ry;refine xA (gP g) λhm e_=>?_
  subst e_;intro Q E q;exact PySem.P.mul_int (q _ _ .tok1 gg) (zh7 hm)
  |str xs=>
  refine aN (jR e) λn e_ g=>?_
  subst e_;obtain ⟨t,rfl,hx⟩:=gA rx;obtain ⟨t',rfl⟩:=ef ry;refine xA (gP g) λhz e_=>?_
  subst e_;simp only [f0,an,decide_eq_true_eq]at hz;refine jj hz λhz1 hz2 hz3=>?_
  have hlen:(Str.mk (aJ n.toNat xs.cps.toList).flatten.toArray).length<=aM:=by
   have:(aJ n.toNat xs.cps.toList).flatten.length=n.toNat*xs.length:=by simp [fJ]
   simp only [fJ,bI];rw [this,av,ew];exact hz1
  have hbig: ∀k:Int,1<=k->k<1000000-> ¬((xs.length:Int)>(2^63-1)/k):=λk h1 h2=>by
   rw [av]at hx;have:(xs.length:Int)<=16777216:=by lia
   have h3:(16777216:Int)<=(2^63-1)/k:=by refine Int.le_ediv_of_mul_le ‹_› ?_;have:(16777216:Int)*k<=16777216*1000000:=dZ (al ‹_›) (by decide);lia
   lia
  intro Q E q;refine PySem.P.mul_str (by simp only [Bool.or_eq_false_iff,decide_eq_false_iff_not];lia) (λh1 J=>hbig n (by lia) hz2) (λh1 J=>by simp only [ga,decide_eq_false_iff_not,pJ,av];exact hz1) ?_;by_cases h1:n<1
  ·rw [if_pos h1];have e0:n.toNat=0:=by lia
   rw [e0]at q;exact ⟨bD _,q _ _ .tok1 (jd (bD _))⟩
  ·rw [if_neg h1];by_cases h2:(n==1||xs.length==0)=true
   ·rw [if_pos h2];have e0:Str.mk (aJ n.toNat xs.cps.toList).flatten.toArray=xs:=by
     simp only [Bool.or_eq_true,beq_iff_eq]at h2;rcases h2 with h2|h2
     ·subst h2;obtain ⟨c⟩:=xs;simp
     ·obtain ⟨c⟩:=xs;simp only [fJ,Array.size_eq_zero_iff]at h2;subst h2;simp
    rw [e0]at q;exact q _ _ (.refl _) rx
   ·rw [if_neg h2,tz,km];exact ⟨hlen,q _ _ .tok1 (jd hlen)⟩
  |list xs=>
  refine aN (jR e) λn e_ g=>?_
  subst e_;obtain ⟨l,vs,k,rfl,J,J,ho,hl,hxl⟩:=iU rx;obtain ⟨t',rfl⟩:=ef ry;refine xA (gP g) λhz e_=>?_
  subst e_;simp only [f0,an,decide_eq_true_eq]at hz;refine jj hz λhz1 hz2 hz3=>?_
  have hvl:=hl.length;have hz1':vs.toArray.size*n.toNat<=2^24:=by simp only [bI,hvl];exact hz1
  have hrep:RepL C s.heap W (aJ n.toNat xs).flatten (aJ n.toNat vs).flatten:=by
   generalize n.toNat=j;induction j with
   |zero=>rfl
   |succ j ih=>simp only [gK,fw];exact hl.append ih
  have hzz:(aJ n.toNat xs).flatten.length<=aM:=by
   have:(aJ n.toNat xs).flatten.length=n.toNat*xs.length:=by simp
   rw [this,av,ew];exact hz1
  intro Q E q;refine wpAny_binaryOp_repeat_ref (T:="list") (U:="int") (by decide) (bK _ ho rfl) (λs'=>gn s' n t') noFill_list_mul F.fills_int_mul ib repeat_list F.slot_int_index.lookup
   (gt ib (gn s n t') F.entry_int_rmul (F.args_int_rmul_2 _ _) (int___rmul___int_list n t' l vs.toArray k)
    ⟨ho,rfl,(bK _ ho rfl),gt F.slot_list_mul (bK _ ho rfl) F.entry_list_mul (F.args_list_mul_2 _ _)
     (AutoListH.list___mul___list_int_3 l vs.toArray k n t' (by simp [Builtin.List.listFitsIndex];lia) (by lia) (by simp [Builtin.List.listTooLong,aM,hvl];exact hz1))
     ⟨ho,?_⟩⟩)
  have e1:List.foldl (λx1 x2=>x1++x2) #[] (aJ (if vs.toArray.isEmpty=true then 0 else n.toNat) vs.toArray)=(aJ n.toNat vs).flatten.toArray:=by
   rw [tz,km];by_cases he:vs.toArray.isEmpty=true
   ·rw [if_pos he];have:vs=[]:=by simpa using he
    subst this;simp
   ·rw [if_neg he]
  rw [e1];exact qM (n:=0) a hrep hzz q
  |_=>exact cu e
 |FloorDiv=>
  refine ek (jf e) λa b e_ e_1 g=>?_
  subst e_ e_1;obtain ⟨t,rfl⟩:=ef rx;obtain ⟨t',rfl⟩:=ef ry;refine xA (mR g) λh0 g=>?_
  refine xA (mR g) λhp k=>?_
  replace k:=oj k;subst k;intro Q E q;exact floordiv_int h0 (q _ _ .tok1 gg) (.inl (by simpa using hp))
 |Mod=>
  refine ek (jf e) λa b e_ e_1 g=>?_
  subst e_ e_1;obtain ⟨t,rfl⟩:=ef rx;obtain ⟨t',rfl⟩:=ef ry;refine xA (mR g) λh0 k=>?_
  replace k:=oj k;subst k;intro Q E q;exact mod_int' h0 (q _ _ .tok1 gg)
 |Pow=>
  refine ek (jf e) λa b e_ e_1 g=>?_
  subst e_ e_1;obtain ⟨t,rfl⟩:=ef rx;obtain ⟨t',rfl⟩:=ef ry;refine xA (gP g) λh0 e_=>?_
  subst e_;simp only [jV,an,decide_eq_true_eq]at h0;intro Q E q;exact pow_int h0.1 h0.2 (q _ _ .tok1 gg)
 |LShift=>
  refine ek (jf e) λa b e_ e_1 g=>?_
  subst e_ e_1;obtain ⟨t,rfl⟩:=ef rx;obtain ⟨t',rfl⟩:=ef ry;refine xA (gP g) λh0 e_=>?_
  subst e_;simp only [jV,an,decide_eq_true_eq]at h0;intro Q E q;exact lshift_int h0.1 h0.2 (q _ _ .tok1 gg)
 |RShift=>
  refine ek (jf e) λa b e_ e_1 g=>?_
  subst e_ e_1;obtain ⟨t,rfl⟩:=ef rx;obtain ⟨t',rfl⟩:=ef ry;refine xA (gP g) λh0 e_=>?_
  subst e_;intro Q E q;exact rshift_int h0 (q _ _ .tok1 gg)
 |BitAnd=>
  refine ek (jf e) λa b e_ e_1 g=>?_
  subst e_ e_1;obtain ⟨t,rfl⟩:=ef rx;obtain ⟨t',rfl⟩:=ef ry;replace g:=oj g;subst g;intro Q E q;exact and_int (q _ _ .tok1 gg)
 |BitOr=>
  refine ek (jf e) λa b e_ e_1 g=>?_
  subst e_ e_1;obtain ⟨t,rfl⟩:=ef rx;obtain ⟨t',rfl⟩:=ef ry;replace g:=oj g;subst g;intro Q E q;exact or_int (q _ _ .tok1 gg)
 |BitXor=>
  refine ek (jf e) λa b e_ e_1 g=>?_
  subst e_ e_1;obtain ⟨t,rfl⟩:=ef rx;obtain ⟨t',rfl⟩:=ef ry;replace g:=oj g;subst g;intro Q E q;exact xor_int (q _ _ .tok1 gg)
 |_=>exact cu e
end
section
variable{C:CX}{W:Addr->Prop}{s:Shared}{A:Around}
theorem oU(r:Rep C h W .none v):v= .none:=r
theorem mQ(r:Rep C h W (.bool b) v):v= .bool b:=r
theorem sv(r:Rep C h W (.ty b) v):v= .type b:=r
theorem oD(r:Rep C h W (.lit x) v): ∃t,v= .str x t/\x.length<=aM/\C.L.lit x t:=r
theorem oC(r:Rep C h W (.frs x) v): ∃t,v= .str x t/\x.length<=aM/\t≠0/\C.L.tk<=t:=r
theorem zpk{h:Heap}{lo hi st:Int}{v:Value}(r:Rep C h W (.range lo hi st) v): ∃a,v= .ref a/\ ¬W a/\C.n₀<=a/\Heap.IsRangeAt h a lo hi st/\iW lo hi st=true:=r
theorem oQ(r:Rep C h W (.dict kvs) v): ∃a l,v= .ref a/\ ¬W a/\C.n₀<=a/\h.DictOf (strKind C.prog C.w) a l/\RepD C h W kvs l:=r
theorem z9t(r:Rep C h W .b1 v):C.mg "b1_set" =some v:=r
theorem z9u(r:Rep C h W .b3 v):C.mg "b3_exceptions" =some v:=r
theorem z59(r:Rep C s.heap W (.int i) v):Snd0 C A s W (unaryOp .USub v) (.int (-i)):=λQ E q=>by obtain ⟨t,rfl⟩:=ef r;exact PySem.P.neg_int (q _ _ .tok1 gg)
theorem z6a(r:Rep C s.heap W (.int i) v):Snd0 C A s W (unaryOp .Invert v) (.int (fD i)):=λQ E q=>by obtain ⟨t,rfl⟩:=ef r;exact invert_int (q _ _ .tok1 gg)
theorem ki(h:(x::xs).mapM f=some r): ∃a l,f x=some a/\xs.mapM f=some l/\a::l=r:=by
 rw [fX]at h;refine aN (aA.mp h) λa h1 h=>?_
 refine aN (aA.mp h) λl h2 h=>?_
 exact eg a l h1 h2 (Option.some.inj h)
theorem ri: ∀{ds:List PyData} {vs:List Value},xs.mapM jo=some ds->RepL C h W xs vs->ReadsAll h vs ds []/\dH ds=true/\dJ ds=0:=by
 induction xs with
 |nil=>intro ds vs e r;obtain rfl:vs=[]:=r;obtain rfl: []=ds:=Option.some.inj e;exact ⟨.nil,rfl,rfl⟩
 |cons x xs ih=>
  intro ds vs e r;show let g_:=_;g_;intro g_;obtain ⟨v,u,rfl,hx,hr⟩: ∃v u,vs=v::u/\Rep C h W x v/\RepL C h W xs u:=r;refine ek (ki e) λd l hx' hxs e_=>?_
  subst e_;refine jj (ih hxs hr) λh1 h2 h3=>?_
  cases x with
  |int i=>obtain rfl:=Option.some.inj hx';obtain ⟨t,rfl⟩:=ef hx;exact ⟨iN (as:=[]) (bs:=[]) (.int _ t) h1,by rw [dH,h2];rfl,by rw [dJ,h3];rfl⟩
  |bool b=>obtain rfl:=Option.some.inj hx';obtain rfl:=mQ hx;exact ⟨iN (as:=[]) (bs:=[]) (.bool _) h1,by rw [dH,h2];rfl,by rw [dJ,h3];rfl⟩
  |_=>exact cu hx'
theorem o6(ho:h.get? a=some (ff vs n))(r:ReadsAll h vs ds []):Reads h (.ref a) (.list ds) [a]:=Reads.list (o:=ff vs n) (vs:=vs.toArray) ho rfl rfl r
theorem qW(ho:h.get? a=some (tupO vs n))(r:ReadsAll h vs ds []):Reads h (.ref a) (.tuple ds) []:=Reads.tuple (o:=tupO vs n) (vs:=vs.toArray) ho rfl rfl r
theorem oB(e:i4 y=some b)(r:Rep C h W y u): ∃t,u= .str b t:=by
 cases y with
 |str y=>replace e:=oj e;subst e;obtain ⟨t,h,J⟩:=gA r;exact ⟨t,h⟩
 |lit y=>replace e:=oj e;subst e;obtain ⟨t,h,J⟩:=oD r;exact ⟨t,h⟩
 |frs y=>replace e:=oj e;subst e;obtain ⟨t,h,J⟩:=oC r;exact ⟨t,h⟩
 |_=>exact cu e
theorem z6b(e:eqP x y=some z)(rx:Rep C s.heap W x v)(ry:Rep C s.heap W y u)(hu:A.units+200<cLine): Snd0 C A s W (de .Eq v u) (.bool z)/\Snd0 C A s W (de .NotEq v u) (.bool (!z)):=by
 show let g_:=_;g_;intro g_;cases x with
 |bool a=>
  refine aN (mapB e) λb e_ g=>?_
  subst e_;obtain rfl:=mQ rx;obtain rfl:=mQ ry;induction g;refine ⟨λQ E q=>eC (.bool a) (.bool b) rfl rfl (by show A.units+min 0 0<_;lia) ?_,λQ E q=>fH (.bool a) (.bool b) rfl rfl (by show A.units+min 0 0<_;lia) ?_⟩
  ·have:dA (.bool a) (.bool b)=(a==b):=by simp [dA]
   rw [this];exact q _ _ (.refl _) gy
  ·have:dA (.bool a) (.bool b)=(a==b):=by simp [dA]
   rw [this];exact q _ _ (.refl _) gy
 |int a=>
  refine aN (mapI e) λb e_ g=>?_
  subst e_;obtain ⟨t,rfl⟩:=ef rx;obtain ⟨t',rfl⟩:=ef ry;induction g;exact ⟨λQ E q=>PySem.P.eq_int (q _ _ (.refl _) gy),λQ E q=>PySem.P.ne_int (q _ _ (.refl _) gy)⟩
 |str a=>
  refine aN (ba.mp e) λb h g=>?_
  refine aN (gA rx) λt e_ J=>?_
  subst e_;obtain ⟨t',rfl⟩:=oB h ry;induction g;exact ⟨λQ E q=>PyProof.Rows.eq_str (q _ _ (.refl _) gy),λQ E q=>PyProof.Rows.ne_str (q _ _ (.refl _) gy)⟩
 |list xs=>
  refine aN (kN e) λys e_ g=>?_
  subst e_;refine iJ (iU rx) λl vs n e_ J J ho hl J=>?_
  subst e_;refine iJ (iU ry) λl' vs' n' e_ J J ho' hl' J=>?_
  subst e_;refine aN (aA.mp g) λdx hx g=>?_
  refine aN (ba.mp g) λdy hy g=>?_
  cases g;refine jj (ri hx hl) λa1 a2 a3=>?_
  refine jj (ri hy hl') λb1 b2 b3=>?_
  have hd:A.units+min (cx (.list dx)) (cx (.list dy))<cLine:=by rw [cx,cx,a3,b3];lia
  have ev:dA (.list dx) (.list dy)=bp dx dy:=by simp only [dA]
  have c1:b0 (.list dx)=true:=by simpa only [b0] using a2
  have c2:b0 (.list dy)=true:=by simpa only [b0] using b2
  exact ⟨λQ E q=>eC (o6 ho a1) (o6 ho' b1) c1 c2 hd (by rw [ev];exact q _ _ (.refl _) gy),
   λQ E q=>fH (o6 ho a1) (o6 ho' b1) c1 c2 hd (by rw [ev];exact q _ _ (.refl _) gy)⟩
 |tuple xs=>
  refine aN (z9k e) λys e_ g=>?_
  subst e_;refine kE (nI rx) λl vs n e_ J J ho hl=>?_
  subst e_;refine kE (nI ry) λl' vs' n' e_ J J ho' hl'=>?_
  subst e_;refine aN (aA.mp g) λdx hx g=>?_
  refine aN (ba.mp g) λdy hy g=>?_
  cases g;refine jj (ri hx hl) λa1 a2 a3=>?_
  refine jj (ri hy hl') λb1 b2 b3=>?_
  have hd:A.units+min (cx (.tuple dx)) (cx (.tuple dy))<cLine:=by rw [cx,cx,a3,b3];lia
  have ev:dA (.tuple dx) (.tuple dy)=bp dx dy:=by simp only [dA]
  have c1:b0 (.tuple dx)=true:=by simpa only [b0] using a2
  have c2:b0 (.tuple dy)=true:=by simpa only [b0] using b2
  exact ⟨λQ E q=>eC (qW ho a1) (qW ho' b1) c1 c2 hd (by rw [ev];exact q _ _ (.refl _) gy),
   λQ E q=>fH (qW ho a1) (qW ho' b1) c1 c2 hd (by rw [ev];exact q _ _ (.refl _) gy)⟩
 |_=>exact cu e
theorem t7: ∀{kvs:List (Str×PV)} {l:List (Str×Value)} {k:Str},RepD C h W kvs l->kvs.lookup k=none->valueAt l k=none:=by
 intro zz;induction zz with
 |nil=>intro J J hr J;obtain rfl:_=_:=hr;rfl
 |cons zq r ih=>
  obtain ⟨q,y⟩:=zq;intro l k hr e;obtain ⟨v,l',rfl,hx,hr⟩:=hr;rw [aG]at e;by_cases hq:k=q
  ·subst hq;rw [beq_self_eq_true]at e;cases e
  ·rw [beq_eq_false_iff_ne.mpr hq]at e;have h1:=ih hr e;unfold valueAt at h1⊢;rw [List.find?_cons];simp only [decide_eq_false (dh hq)];exact h1
theorem pf: ∀{kvs:List (Str×PV)} {l:List (Str×Value)} {k:Str} {x:PV},RepD C h W kvs l->kvs.lookup k=some x-> ∃v,valueAt l k=some v/\Rep C h W x v:=by
 intro zz;induction zz with
 |nil=>intro J J J J e;simp at e
 |cons zq r ih=>
  obtain ⟨q,y⟩:=zq;intro l k x hr e;obtain ⟨v,l',rfl,hx,hr⟩:=hr;rw [aG]at e;by_cases hq:k=q
  ·subst hq;rw [beq_self_eq_true]at e;replace e:=oj e;subst e;exact bK v (by simp [valueAt]) hx
  ·rw [beq_eq_false_iff_ne.mpr hq]at e;obtain ⟨v',h1,h2⟩:=ih hr e;refine bK v' ?_ h2;unfold valueAt at h1⊢;rw [List.find?_cons];simp only [decide_eq_false (dh hq)];exact h1
theorem mM(h:C.n₀<=a):(a==du)=false:=by
 have:=C.n4;rw [beq_eq_false_iff_ne];intro e;rw [e]at h;have h1:du<4:=by decide
 exact pK h1 (aa this h)
theorem zu1: ∀{l:List Str} {vs:List Value},xs.mapM i4=some l->RepL C h W xs vs->ReadsAll h vs (l.map .str) []/\dJ (l.map .str)=0:=by
 induction xs with
 |nil=>intro l vs e r;obtain rfl:vs=[]:=r;obtain rfl: []=l:=Option.some.inj e;exact ⟨.nil,rfl⟩
 |cons x xs ih=>
  intro l vs e r;obtain ⟨v,u,rfl,hx,hr⟩: ∃v u,vs=v::u/\Rep C h W x v/\RepL C h W xs u:=r;refine ek (ki e) λd l hx' hxs e_=>?_
  subst e_;refine xA (ih hxs hr) λh1 h3=>?_
  obtain ⟨t,rfl⟩:=oB hx' hx;exact ⟨iN (as:=[]) (bs:=[]) (.str _ t) h1,by rw [ax,dJ,h3];rfl⟩
theorem z15(l:List Str):dH (l.map .str)=l.all jQ:=by
 induction l with
 |nil=>rfl
 |cons x l ih=>rw [ax,dH,ih,jP];rfl
noncomputable def iR(a:List (List Str)):List PyData:=a.map λl=>.list (l.map .str)
theorem sZ(a:List (List Str)):dH (iR a)=a.all (·.all jQ):=by
 induction a with
 |nil=>rfl
 |cons x l ih=>show dH (PyData.list (x.map .str)::iR l)=_;rw [dH,ih,jP,b0,z15]
theorem z16: ∀(l m:List Str),bp (l.map .str) (m.map .str)=decide (l=m):=by
 intro l;induction l with
 |nil=>intro m;cases m<;>simp [bp]
 |cons x l ih=>
  intro m;cases m with
  |nil=>simp [bp]
  |cons y m=>rw [ax,ax,bp,ih];by_cases h:x=y<;>by_cases h':l=m<;>simp [dA,h,h']
theorem ztd: ∀(a b:List (List Str)),bp (iR a) (iR b)=decide (a=b):=by
 intro a;induction a with
 |nil=>intro b;cases b<;>simp [iR,bp]
 |cons x l ih=>
  intro b;cases b with
  |nil=>simp [iR,bp]
  |cons y m=>show bp (PyData.list (x.map .str)::iR l) (PyData.list (y.map .str)::iR m)=_;rw [bp,ih,dA,z16];by_cases h:x=y<;>by_cases h':l=m<;>simp [h,h']
theorem zmv: ∀{a:List (List Str)} {vs:List Value},xs.mapM lZ=some a->RepL C h W xs vs-> ∃as,ReadsAll h vs (iR a) as/\dJ (iR a)<=1:=by
 induction xs with
 |nil=>intro a vs e r;obtain rfl:vs=[]:=r;obtain rfl: []=a:=Option.some.inj e;exact bK _ .nil (bD _)
 |cons x xs ih=>
  intro a vs e r;show let g_:=_;g_;intro g_;obtain ⟨v,u,rfl,hx,hr⟩: ∃v u,vs=v::u/\Rep C h W x v/\RepL C h W xs u:=r;refine ek (ki e) λd l hx' hxs e_=>?_
  subst e_;refine aN (ih hxs hr) λas h1 h3=>?_
  refine aN (kN hx') λys e_ g=>?_
  subst e_;refine iJ (iU hx) λad ws n e_ J J ho hl J=>?_
  subst e_;refine xA (zu1 g hl) λk1 k2=>?_
  refine bK _ (iN (o6 ho k1) h1) ?_;show dJ (PyData.list (d.map .str)::iR l)<=1;rw [dJ,cx,k2];exact Nat.max_le.mpr ⟨az _,h3⟩
theorem zw9: ∀{kvs:List (Str×PV)} {b:List (Str×Str)},kvs.mapM ku=some b->b.lookup k=(kvs.lookup k).bind i4:=by
 intro kvs;induction kvs with
 |nil=>intro b e;obtain rfl: []=b:=Option.some.inj e;rfl
 |cons p r ih=>
  intro b e;refine ek (ki e) λd l h1 h2 e_=>?_
  subst e_;refine aN (ba.mp h1) λt h3 e_=>?_
  subst e_;rw [aG,aG,ih h2];cases k==p.1 with
  |true=>exact h3.symm
  |false=>rfl
theorem zxa(hb:RepD C h W kvs2 kb)(e_2:kvs2.mapM ku=some b): ∀{kvs:List (Str×PV)} {ka:List (Str×Value)} {a:List (Str×Str)},RepD C h W kvs ka->kvs.mapM ku=some a->PySem.W.KeqHits A' s' kb ka (a.all λq=>b.lookup q.1==some q.2):=by
 intro kvs;induction kvs with
 |nil=>intro ka a r e;obtain rfl:ka=[]:=r;obtain rfl: []=a:=Option.some.inj e;exact .nil
 |cons p r ih=>
  intro ka a hr e;obtain ⟨k,x⟩:=p;obtain ⟨v,l',rfl,hx,hr⟩:=hr;obtain ⟨d,l,h1,h2,rfl⟩:=ki e;obtain ⟨t,h3,rfl⟩:=ba.mp h1;obtain ⟨u,rfl⟩:=oB h3 hx;rw [jP,zw9 e_2];cases hl:kvs2.lookup k with
  |none=>exact .miss (t7 hb hl)
  |some y=>
   obtain ⟨w,g1,g2⟩:=pf hb hl;have hy: ∃ty,i4 y=some ty:=by
    have hm: ∀{l:List (Str×PV)} {b:List (Str×Str)},l.mapM ku=some b->l.lookup k=some y-> ∃ty,i4 y=some ty:=λ{l}=>by
     induction l with
     |nil=>intro b J h;exact cu h
     |cons q r ih=>
      intro b e h;show let g_:=_;g_;intro g_;obtain ⟨d,l,k1,k2,rfl⟩:=ki e;obtain ⟨t,k3,rfl⟩:=ba.mp k1;rw [aG]at h;cases hq:k==q.1 with
      |true=>rw [hq]at h;exact ⟨t,oj h▸k3⟩
      |false=>rw [hq]at h;exact ih k2 h
    exact hm e_2 hl
   obtain ⟨ty,hty⟩:=hy;obtain ⟨u',rfl⟩:=oB hty g2;have e3:((some y:Option PV).bind i4==some t)=(t==ty):=by show (i4 y==some t)=_;rw [hty];exact Option.some_beq_some.trans BEq.comm
   rw [e3];exact .hit g1 (SeqAt.EqAt.str_str _ _ _ _) (ih hr h2)
theorem RepD.len: ∀{kvs:List (Str×PV)} {l:List (Str×Value)},RepD C h W kvs l->l.length=kvs.length:=by
 intro kvs;induction kvs with
 |nil=>intro l r;obtain rfl:l=[]:=r;rfl
 |cons p r ih=>intro l hr;obtain ⟨k,x⟩:=p;obtain ⟨v,l',rfl,hx,hr⟩:=hr;rw [aK,aK,ih hr]
theorem zte: ∀{l:List α} {r:List β},l.mapM f=some r->r.length=l.length:=by
 intro l;induction l with
 |nil=>intro r e;obtain rfl: []=r:=Option.some.inj e;rfl
 |cons x l ih=>intro r e;obtain ⟨d,m,h1,h2,rfl⟩:=ki e;rw [aK,aK,ih h2]
theorem ztf(e:eqV x y=some z)(rx:Rep C s.heap W x v)(ry:Rep C s.heap W y u)(hu:A.units+200<cLine): Snd0 C A s W (de .Eq v u) (.bool z)/\Snd0 C A s W (de .NotEq v u) (.bool (!z)):=by
 show let g_:=_;g_;intro g_;rcases kO e with ⟨J,e⟩|⟨J,e⟩
 ·cases x with
  |list xs=>
   refine aN (aA.mp (show (xs.mapM lZ).bind _=some z from e)) λa h1 e1=>?_
   refine aN (kN e1) λys e_ e2=>?_
   subst e_;refine aN (aA.mp e2) λb h2 e3=>?_
   refine xA (gP e3) λhz e_=>?_
   subst e_;have hz':=aF.mp hz;refine iJ (iU rx) λl vs n e_ J J ho hl J=>?_
   subst e_;refine iJ (iU ry) λl' vs' n' e_ J J ho' hl' J=>?_
   subst e_;refine aN (zmv h1 hl) λas a1 a2=>?_
   refine aN (zmv h2 hl') λbs b1 b2=>?_
   have hd:A.units+min (cx (.list (iR a))) (cx (.list (iR b)))<cLine:=by rw [cx,cx];lia
   have ev:dA (.list (iR a)) (.list (iR b))=decide (a=b):=by rw [dA,ztd]
   have c1:b0 (.list (iR a))=true:=by rw [b0,sZ];exact hz'.1
   have c2:b0 (.list (iR b))=true:=by rw [b0,sZ];exact hz'.2
   exact ⟨λQ E q=>eC (Reads.list (o:=ff vs n) (vs:=vs.toArray) ho rfl rfl a1) (Reads.list (o:=ff vs' n') (vs:=vs'.toArray) ho' rfl rfl b1) c1 c2 hd (by rw [ev];exact q _ _ (.refl _) gy),
    λQ E q=>fH (Reads.list (o:=ff vs n) (vs:=vs.toArray) ho rfl rfl a1) (Reads.list (o:=ff vs' n') (vs:=vs'.toArray) ho' rfl rfl b1) c1 c2 hd (by rw [ev];exact q _ _ (.refl _) gy)⟩
  |dict kvs=>
   refine aN (aA.mp (show (kvs.mapM ku).bind _=some z from e)) λa h1 e1=>?_
   refine aN (aA.mp e1) λl hy e2=>?_
   obtain rfl:=zmr hy;refine aN (ba.mp e2) λb h2 e_=>?_
   subst e_;refine lf (oQ rx) λd ka e_ J n1 da ra=>?_
   subst e_;refine lf (oQ ry) λd' kb e_ J n2 db rb=>?_
   subst e_;have hits:=zxa (A':=A.in1) (s':=s) rb h2 ra h1;have hl:(ka.length==kb.length&&a.all λq=>b.lookup q.1==some q.2)=ot a b:=by rw [ra.len,rb.len,<-zte h1,<-zte h2];rfl
   have hu':=Nat.lt_of_le_of_lt (bb _ _) hu;exact ⟨λQ E q=>PySem.W.keq_eq (mM n1) (mM n2) da db hu' (λJ=>hits) (by rw [hl];exact q _ _ (.refl _) gy),
    λQ E q=>PySem.W.keq_ne (mM n1) (mM n2) da db hu' (λJ=>hits) (by rw [hl];exact q _ _ (.refl _) gy)⟩
  |_=>exact cu e
 ·exact z6b e rx ry hu
theorem zxb(e:isP x y=some z)(rx:Rep C s.heap W x v)(ry:Rep C s.heap W y u): Snd0 C A s W (de .Is v u) (.bool z)/\Snd0 C A s W (de .IsNot v u) (.bool (!z)):=by
 cases x with
 |bool a=>
  refine aN (mapB e) λb e_ g=>?_
  subst e_;obtain rfl:=mQ rx;obtain rfl:=mQ ry;induction g;have h:(Value.bool a==Value.bool b)=(a==b):=by induction a<;>induction b<;>decide
  exact ⟨λQ E q=>wpAny_is_plain rfl (by rw [h];exact q _ _ (.refl _) gy),λQ E q=>wpAny_isNot_plain rfl (by rw [h];exact q _ _ (.refl _) gy)⟩
 |none=>
  cases y with
  |none=>
  obtain rfl:=oU rx;obtain rfl:=oU ry;replace e:=oj e;subst e;exact ⟨λQ E q=>wpAny_is_self rfl (q _ _ (.refl _) gy),λQ E q=>wpAny_isNot_self rfl (q _ _ (.refl _) gy)⟩
  |str y=>
  obtain rfl:=oU rx;obtain ⟨t,rfl,J⟩:=gA ry;replace e:=oj e;subst e;exact ⟨λQ E q=>wpAny_is_other rfl (by intro h;cases h) (q _ _ (.refl _) gy),λQ E q=>wpAny_isNot_other rfl (by intro h;cases h) (q _ _ (.refl _) gy)⟩
  |_=>exact cu e
 |str x=>
  cases y with
  |none=>
  obtain ⟨t,rfl,J⟩:=gA rx;obtain rfl:=oU ry;replace e:=oj e;subst e;exact ⟨λQ E q=>wpAny_is_other rfl (by intro h;cases h) (q _ _ (.refl _) gy),λQ E q=>wpAny_isNot_other rfl (by intro h;cases h) (q _ _ (.refl _) gy)⟩
  |_=>exact cu e
 |ty a=>
  refine aN (jcs e) λb e_ g=>?_
  subst e_;obtain rfl:=sv rx;obtain rfl:=sv ry;induction g;have h:(eH a==eH b)=(a==b):=by rw [Bool.eq_iff_iff];simp
  exact ⟨λQ E q=>wpAny_is_plain rfl (by rw [h];exact q _ _ (.refl _) gy),λQ E q=>wpAny_isNot_plain rfl (by rw [h];exact q _ _ (.refl _) gy)⟩
 |_=>exact cu e
theorem qL: ∀{ns:List Int} {vs:List Value},jn xs=some ns->RepL C h W xs vs->IntsAre vs ns:=by
 induction xs with
 |nil=>intro ns vs e r;obtain rfl:vs=[]:=r;obtain rfl: []=ns:=Option.some.inj e;exact .nil
 |cons x xs ih=>
  intro ns vs e r;obtain ⟨v,u,rfl,hx,hr⟩: ∃v u,vs=v::u/\Rep C h W x v/\RepL C h W xs u:=r;refine ek (ki e) λd l hx' hxs e_=>?_
  subst e_;obtain rfl:=nJ hx';obtain ⟨t,rfl⟩:=ef hx;exact .cons _ t (ih hxs hr)
theorem zpl(k:Int): ∀{vs:List Value} {ns:List Int},IntsAre vs ns->vs.any (isInt k)=ns.contains k
 |_,_,.nil=>rfl
 |_,_,.cons n t r=>by
  rw [List.any_cons,kj,zpl k r];have:isInt k (.int n t)=(k==n):=by
   show (n==k)=_;by_cases h:n=k
   ·subst h;rfl
   ·rw [beq_eq_false_iff_ne.mpr h,beq_eq_false_iff_ne.mpr (dh h)]
  rw [this]
theorem zxc(e:inP x y=some z)(rx:Rep C s.heap W x v)(ry:Rep C s.heap W y u): Snd0 C A s W (de .In v u) (.bool z)/\Snd0 C A s W (de .NotIn v u) (.bool (!z)):=by
 show let g_:=_;g_;intro g_;cases x with
 |int k=>
  refine aN (kN e) λys e_ g=>?_
  subst e_;obtain ⟨t,rfl⟩:=ef rx;refine iJ (iU ry) λl vs n e_ J J ho hl J=>?_
  subst e_;refine aN (ba.mp g) λns hi g=>?_
  induction g;have hA:=qL hi hl;have he:vs.toArray.any (isInt k)=ns.contains k:=by rw [List.any_toArray];exact zpl k hA
  have hq: ∀y,y∈vs.toArray->MeetsSeq.EqGives y (.int k t) (isInt k y):=λy hy=>eq_isInt k t hA y (by simpa using hy)
  exact ⟨λQ E q=>SeqRoads2.in_list (isInt k) hq ho (by rw [he];exact q _ _ (.refl _) gy),
    λQ E q=>SeqRoads2.notIn_list (isInt k) hq ho (by rw [he];exact q _ _ (.refl _) gy)⟩
 |str x=>
  refine aN (mapS e) λy e_ g=>?_
  subst e_;obtain ⟨t,rfl,J⟩:=gA rx;obtain ⟨t',rfl,J⟩:=gA ry;induction g;exact ⟨λQ E q=>PyProof.Rows.in_str (q _ _ (.refl _) gy),λQ E q=>PyProof.Rows.notIn_str (q _ _ (.refl _) gy)⟩
 |_=>exact cu e
theorem z6c(e:cmpP op x y=some z)(rx:Rep C s.heap W x v)(ry:Rep C s.heap W y u)(hu:A.units+200<cLine): Snd0 C A s W (de op v u) (.bool z):=by
 induction op with
 |Eq=>exact (ztf e rx ry hu).1
 |NotEq=>
  show let g_:=_;g_;intro g_;refine aN (ba.mp e) λb h g=>?_
  induction g;exact (ztf h rx ry hu).2
 |Is=>exact (zxb e rx ry).1
 |IsNot=>
  refine aN (ba.mp e) λb h g=>?_
  induction g;exact (zxb h rx ry).2
 |In=>exact (zxc e rx ry).1
 |NotIn=>
  refine aN (ba.mp e) λb h g=>?_
  induction g;exact (zxc h rx ry).2
 |Lt=>
  refine ek (sy e) λa b e_ e_1 g=>?_
  subst e_ e_1;obtain ⟨t,rfl⟩:=ef rx;obtain ⟨t',rfl⟩:=ef ry;induction g;exact λQ E q=>PySem.P.lt_int (q _ _ (.refl _) gy)
 |LtE=>
  refine ek (sy e) λa b e_ e_1 g=>?_
  subst e_ e_1;obtain ⟨t,rfl⟩:=ef rx;obtain ⟨t',rfl⟩:=ef ry;induction g;exact λQ E q=>PySem.P.le_int (q _ _ (.refl _) gy)
 |Gt=>
  cases x with
  |str a=>
   refine aN (mapS e) λb e_ g=>?_
   subst e_;obtain ⟨t,rfl,J⟩:=gA rx;obtain ⟨t',rfl,J⟩:=gA ry;induction g;exact λQ E q=>PySem.P.gt_str (q _ _ (.refl _) gy)
  |int a=>
   refine aN (mapI e) λb e_ g=>?_
   subst e_;obtain ⟨t,rfl⟩:=ef rx;obtain ⟨t',rfl⟩:=ef ry;induction g;exact λQ E q=>PySem.P.gt_int (q _ _ (.refl _) gy)
  |_=>exact cu e
 |GtE=>
  refine ek (sy e) λa b e_ e_1 g=>?_
  subst e_ e_1;obtain ⟨t,rfl⟩:=ef rx;obtain ⟨t',rfl⟩:=ef ry;induction g;exact λQ E q=>PySem.P.ge_int (q _ _ (.refl _) gy)
def uQ(C:CX)(A:Around)(s:Shared)(t:Sem Bool)(b:Bool):Prop:=∀(Q:Bool->Shared->Prop) (E:Value->Shared->Prop),(∀s',Ext0 C s s'->Q b s')->wpAny (model C.prog C.w) A t Q E s
def SndB(C:CX)(A:Around)(s:Shared)(t:Sem Bool)(b:Bool):Prop:=∀(Q:Bool->Shared->Prop) (E:Value->Shared->Prop),(∀s',Ext C s s'->Q b s')->wpAny (model C.prog C.w) A t Q E s
theorem uQ.up(x:uQ C A s t b):SndB C A s t b:=λQ E q=>bP (az s.toks) (x _ _ λs' e ht=>q s' ⟨e,ht⟩)
theorem zxd(e:jU x=some z)(rx:Rep C s.heap W x v):uQ C A s (truthy v) z:=λQ E q=>by
 show let g_:=_;g_;intro g_;cases x with
 |bool x=>obtain rfl:=mQ rx;replace e:=oj e;subst e;exact dl (q _ (.refl _))
 |int x=>obtain ⟨t,rfl⟩:=ef rx;replace e:=oj e;subst e;exact PySem.P.truthy_int (q _ (.refl _))
 |list xs=>
  obtain ⟨l,vs,n,rfl,J,J,ho,hl,hz⟩:=iU rx;replace e:=oj e;subst e;have hv:=hl.length;have hem:vs.toArray.isEmpty=xs.isEmpty:=by cases vs<;>induction xs<;>first|rfl|(simp at hv)
  refine wpAny_truthy_list (items:=vs.toArray) ⟨_,ho,rfl,_,rfl⟩ (by simp only [bI,hv];rw [av]at hz;lia) ?_;rw [hem];exact q _ (.toks _)
 |str x=>
  obtain ⟨t,rfl,hz⟩:=gA rx;replace e:=oj e;subst e;refine PySem.P.truthy_str (by rw [av]at hz;lia) ?_;have:((x.length:Int) !=0)=(x.length !=0):=by rw [Bool.eq_iff_iff];simp
  rw [this];exact q _ (.toks _)
 |none=>obtain rfl:=oU rx;replace e:=oj e;subst e;exact λJ J J=>q _ (.refl _)
 |_=>exact cu e
end
theorem zkz(slice:Expr)(o i:Value): ∃ops,subscripted slice false o i=operate ops (getItem o i):=by
 cases slice with
 |Slice a b c p=>induction c<;>exact ⟨_,rfl⟩
 |_=>exact ⟨_,rfl⟩
def j8(prog:Program)(w:World)(A:Around)(o i:Value)(Q E:Value->Shared->Prop)(s:Shared):Prop:=∃T id,en (.type T) "__getitem__" =pure (some (.builtin id))/\s.TypeIs o T/\wpAny (model prog w) A (getItem o i) Q E s
theorem pg(h:wpAny (model prog w) A (eval value env) (λo s₁=>wpAny (model prog w) A (eval slice env) (λi s_2=>j8 prog w A o i Q E s_2) E s₁) E s): wpAny (model prog w) A (eval (.Subscript value slice pos) env) Q E s:=by
 rw [arm_eval_Subscript];refine ab (bE h (λo s₁ h_1=>ab (aX (bE h_1 (λi s_2 h_2=>ab (bf ?_)) λJ J x=>x))) λJ J x=>x);show let g_:=_;g_;intro g_;refine ek h_2 λT id hl hT hg=>?_
 obtain ⟨ops,hs⟩:=zkz slice o i;exact tail_any hT hl hg hs
theorem rt(h0:0<=k)(h:k.toNat<n):seqIndex? k n=some k.toNat:=by
 unfold seqIndex?;have h1: ¬k<0:=by lia
 have h2:k<n:=by lia
 simp [h1,h0,h2]
section
variable{C:CX}{W:Addr->Prop}{s:Shared}{A:Around}
theorem zxe(e:subP x y=some z)(rx:Rep C s.heap W x v)(ry:Rep C s.heap W y u)(q: ∀v s',Ext0 C s s'->Rep C s'.heap W z v->Q v s'):j8 C.prog C.w A v u Q E s:=by
 show let g_:=_;g_;intro g_;cases x with
 |list xs=>
  refine aN (jR e) λk e_ g=>?_
  subst e_;obtain ⟨l,vs,n,rfl,J,J,ho,hl,J⟩:=iU rx;obtain ⟨t,rfl⟩:=ef ry
  ·refine xA (jD g) λhk g=>?_
   simp only [an,decide_eq_true_eq]at hk;refine aN (hl.get _ g) λy h1 h2=>?_
   exact eg ("list") _ slot_list_getitem.lookup (bK _ ho rfl) (wpAny_getItem_list (items:=vs.toArray) ⟨_,ho,rfl,_,rfl⟩ hk.1 (by lia) (by simpa using h1) (q _ _ (.refl _) h2))
 |tuple xs=>
  refine aN (jR e) λk e_ g=>?_
  subst e_;obtain ⟨l,vs,n,rfl,J,J,ho,hl⟩:=nI rx;obtain ⟨t,rfl⟩:=ef ry
  ·show let g_:=_;g_;intro g_;refine xA (jD g) λhk g=>?_
   simp only [an,decide_eq_true_eq]at hk;refine aN (hl.get _ g) λy h1 h2=>?_
   have hlt:=(bO.mp h1).1;refine eg ("tuple") _ slot_tuple_getitem.lookup (bK _ ho rfl) (PyProof.Rows.getItem_tuple (j:=k.toNat) (items:=vs.toArray) ⟨_,ho,rfl,n,rfl⟩ (by lia) (by lia) ?_ (by simpa using h1) (q _ _ (.refl _) h2));exact rt hk.1 (by simpa using hlt)
 |str x=>
  refine aN (jR e) λk e_ g=>?_
  subst e_;obtain ⟨t,rfl,hz⟩:=gA rx;obtain ⟨t',rfl⟩:=ef ry
  ·show let g_:=_;g_;intro g_;refine xA (jD g) λhk g=>?_
   simp only [an,decide_eq_true_eq]at hk;cases hc:x.cps[k.toNat]? with
   |none=>rw [hc]at g;exact cu g
   |some c=>rw [hc]at g;replace g:=oj g;subst g;refine eg ("str") _ F.slot_str_getitem.lookup (c8 _ _ _) (u5 (c:=c) (by simp;lia) ?_ (q _ _ .tok1 (jd (by show 1<=_;decide))));have hlt:k.toNat<x.length:=(dg.mp hc).1;rw [rt hk.1 hlt];exact hc
 |lit x=>
  refine aN (jR e) λk e_ g=>?_
  subst e_;obtain ⟨t,rfl,hz,J⟩:=oD rx;obtain ⟨t',rfl⟩:=ef ry
  ·refine xA (jD g) λhk g=>?_
   simp only [an,decide_eq_true_eq]at hk;cases hc:x.cps[k.toNat]? with
   |none=>rw [hc]at g;exact cu g
   |some c=>rw [hc]at g;replace g:=oj g;subst g;refine eg ("str") _ F.slot_str_getitem.lookup (c8 _ _ _) (u5 (c:=c) (by simp;lia) ?_ (q _ _ .tok1 (jd (by show 1<=_;decide))));have hlt:k.toNat<x.length:=(dg.mp hc).1;rw [rt hk.1 hlt];exact hc
 |dict kvs=>
  refine aN (lA e) λk e_ g=>?_
  subst e_;obtain ⟨a,l,rfl,J,hn,hd,hl⟩:=oQ rx;obtain ⟨t,rfl,J⟩:=gA ry;refine aN (pf hl g) λv h1 h2=>?_
  have hkey:(strKind C.prog C.w).is k (.str k t)=true:=by show (k==k)=true;simp
  exact eg ("dict") _ slot_dict_getitem.lookup hd.typeIs (wpAny_getItem_of hkey hd.mapOf h1 (q _ _ .tok1 h2))
 |_=>exact cu e
end
section
variable{C:CX}{W:Addr->Prop}{s:Shared}{A:Around}
theorem jcx:Rep C h W (.ty b) (.type b):=rfl
theorem zxf{x z:PV}{v vl vu:Value}{lo hi:Option Int}{sl:Addr}{Q E:Value->Shared->Prop}(e:sw x lo hi=some z)(a:At C W s)(rx:Rep C s.heap W x v)(hsl:s.heap.get? sl=some {cls:=.type "slice",data:=.fields #[vl,vu,.none]})(pl:IsPart vl lo)(pu:IsPart vu hi)(q: ∀v s',Ext0 C s s'->Rep C s'.heap W z v->Q v s'):j8 C.prog C.w A v (.ref sl) Q E s:=by
 show let g_:=_;g_;intro g_;cases x with
 |list xs=>
  refine iJ (iU rx) λl vs n e_ J J ho hl hz=>?_
  subst e_;refine xA (gP e) λhz2 e_=>?_
  subst e_;have hv:=hl.length;have hz2':(lX xs lo hi none).length<=16777216:=by simpa [f0] using hz2
  refine eg ("list") _ slot_list_getitem.lookup (bK _ ho rfl) (wpAny_getItem_list_slice (items:=vs.toArray) (lo:=lo) (hi:=hi) (st:=none) ⟨_,ho,rfl,_,rfl⟩ (et _ hsl rfl rfl) pl pu .none (by simp) ?_ (by simpa [hv] using hz));have hs:slicePick vs.toArray lo hi none=(lX vs lo hi none).toArray:=by unfold slicePick lX;simp
  rw [hs];have hr:RepL C s.heap W (lX xs lo hi none) (lX vs lo hi none):=by
   unfold lX;rw [hv];generalize sliceRange _ _ _=idx;induction idx with
   |nil=>rfl
   |cons j r ih=>
    cases hj:xs[j]? with
    |none=>
     have:vs[j]?=none:=by rw [eF]at hj⊢;lia
     rw [jO hj,jO this];exact ih
    |some y=>
     refine aN (hl.get j hj) λw h1 h2=>?_
     rw [fb hj,fb h1];exact RepL.cons h2 ih
  exact qM (n:=0) (k:=s.toks) a hr hz2' q
 |str x=>
  refine aN (gA rx) λt e_ hz=>?_
  subst e_;replace e:=oj e;subst e;have hpart: ∀{v o},IsPart v o-> ∃p:Option (Int×Tok),v=partValue p/\p.map (·.1)=o:=λh=>by
   cases h with
   |none=>exact bK none rfl rfl
   |int i t=>exact bK (some (i,t)) rfl rfl
  refine aN (hpart pl) λl e_ hlo=>?_
  subst e_;refine aN (hpart pu) λu e_ hhi=>?_
  subst e_ hlo hhi;refine eg ("str") _ F.slot_str_getitem.lookup (c8 _ _ _) (wpAny_getItem_str_slice (l:=l) (u:=u) (st:=none) (et _ hsl rfl rfl) rfl ?_);exact post_val_or_str ⟨aa (Txt.slice_le x _ _) hz,λt' k=>q _ _ (.toks _) (jd (aa (Txt.slice_le x _ _) hz))⟩
 |_=>exact cu e
theorem ir(r:RepL C h W [] vs):vs=[]:=r
theorem gY(r:RepL C h W (x::xs) vs): ∃v u,vs=v::u/\Rep C h W x v/\RepL C h W xs u:=r
theorem z6e: ∀{vs:List Value} {ns:List Int} {i:Nat} {v:Value},IntsAre vs ns->vs[i]?=some v-> ∃t,v= .int (ns.getD i 0) t:=by
 intro vs ns i v h;induction h generalizing i with
 |nil=>intro e;exact cu e
 |cons n t r ih=>
  intro e;cases i with
  |zero=>replace e:=oj e;exact ⟨t,e⟩
  |succ i=>exact ih e
theorem zxg{ns:List Int}{n:Nat}:preSum (λj=>ns.getD j 0) n=(ns.take n).sum:=by
 induction n with
 |zero=>simp [preSum]
 |succ n ih=>rw [preSum,ih,PySem.sum_take_succ]
inductive BI:String->List PV->PV->Prop
 |len (xs:List PV):BI "len" [.list xs] (.int xs.length)
 |lenS (x:Str):BI "len" [.str x] (.int x.length)
 |ord (k:Nat):BI "ord" [.str ⟨#[k]⟩] (.int k)
 |chr (n:Int) (h:(decide (0<=n)&&decide (n<0x110000))=true):BI "chr" [.int n] (.str ⟨#[n.toNat]⟩)
 |sum (xs:List PV) (ns:List Int) (h:jn xs=some ns):BI "sum" [.list xs] (.int ns.sum)
 |dm (a b:Int) (h0: ¬b=0) (hp: ¬aU a b=true):BI "divmod" [.int a,.int b] (.tuple [.int (a.fdiv b),.int (a.fmod b)])
 |mx (xs:List PV) (k:Int) (r:List Int) (h:jn xs=some (k::r)):BI "max" [.list xs] (.int (r.foldl max k))
 |mn (a b:Int):BI "min" [.int a,.int b] (.int (min a b))
theorem bE1(a:List PV):jh "len" a=(one a).bind lenP:=if_pos rfl
theorem bE2(a:List PV):jh "ord" a=bOrd a:=(if_neg (by decide)).trans (if_pos rfl)
theorem bE3(a:List PV):jh "chr" a=bChr a:=(if_neg (by decide)).trans ((if_neg (by decide)).trans (if_pos rfl))
theorem bE4(a:List PV):jh "sum" a=bSum a:=(if_neg (by decide)).trans ((if_neg (by decide)).trans ((if_neg (by decide)).trans (if_pos rfl)))
theorem bE5(a:List PV):jh "divmod" a=bDm a:=(if_neg (by decide)).trans ((if_neg (by decide)).trans ((if_neg (by decide)).trans ((if_neg (by decide)).trans (if_pos rfl))))
theorem bE7(a:List PV):jh "max" a=bMax a:=(if_neg (by decide)).trans ((if_neg (by decide)).trans ((if_neg (by decide)).trans ((if_neg (by decide)).trans ((if_neg (by decide)).trans (if_pos rfl)))))
theorem bE8(a:List PV):jh "min" a=bMin a:=(if_neg (by decide)).trans ((if_neg (by decide)).trans ((if_neg (by decide)).trans ((if_neg (by decide)).trans ((if_neg (by decide)).trans ((if_neg (by decide)).trans (if_pos rfl))))))
theorem bE6{id:String}(h1: ¬id= "len")(h2: ¬id= "ord")(h3: ¬id= "chr")(h4: ¬id= "sum")(h5: ¬id= "divmod")(h6: ¬id= "max")(h7: ¬id= "min")(a:List PV):jh id a=none:=(if_neg h1).trans ((if_neg h2).trans ((if_neg h3).trans ((if_neg h4).trans ((if_neg h5).trans ((if_neg h6).trans (if_neg h7))))))
theorem z6f: ∀(r:List Int) (k:Int),k<=r.foldl max k/\(∀a∈r,a<=r.foldl max k)/\(r.foldl max k=k\/r.foldl max k∈r):=by
 intro r;induction r with
 |nil=>exact λk=>⟨dL _,(λJ h=>nomatch h),.inl rfl⟩
 |cons x r ih=>
  intro k;refine jj (ih (max k x)) λh1 h2 h3=>?_
  refine ⟨ee (Int.le_max_left k x) h1,λa ha=>?_,?_⟩
  ·rcases aw.mp ha with e|ha
   ·rw [e];exact ee (Int.le_max_right k x) h1
   ·exact h2 a ha
  ·rcases h3 with h3|h3
   ·rcases Int.le_total k x with h|h
    ·exact .inr (aw.mpr (.inl (h3.trans (Int.max_eq_right h))))
    ·exact .inl (h3.trans (Int.max_eq_left h))
   ·exact .inr (ah _ h3)
theorem zu2{k M:Int}{r:List Int}(h1:M∈k::r)(h2: ∀a∈k::r,a<=M):M=r.foldl max k:=by
 refine jj (z6f r k) λg1 g2 g3=>?_
 refine Int.le_antisymm ?_ ?_
 ·rcases aw.mp h1 with e|h
  ·rw [e];exact g1
  ·exact g2 M h
 ·rcases g3 with e|h
  ·rw [e];exact h2 k ag
  ·exact h2 _ (ah _ h)
theorem z9v{id:String}{args:List PV}{z:PV}(e:jh id args=some z):BI id args z:=by
 by_cases h1:id= "len"
 ·subst h1;refine aN (kT ((bE1 args).symm.trans e)) λx e_ g=>?_
  subst e_;clear e;cases x with
  |list xs=>obtain rfl:=oj g;exact .len xs
  |str x=>obtain rfl:=oj g;exact .lenS x
  |_=>exact cu g
 by_cases h2:id= "ord"
 ·subst h2;refine aN (kT ((bE2 args).symm.trans e)) λx e_ g=>?_
  subst e_;clear e;obtain ⟨⟨⟨c⟩⟩,rfl,g⟩:=lA g;refine xA (jD g) λh1 g=>?_
  match c,h1,g with
  | [k],_,g=>obtain rfl:=oj g;exact .ord k
 by_cases h3:id= "chr"
 ·subst h3;refine aN (kT ((bE3 args).symm.trans e)) λx e_ g=>?_
  subst e_;clear e;refine aN (jR g) λn e_ g=>?_
  subst e_;refine xA (gP g) λh1 e_=>?_
  subst e_;exact .chr n h1
 by_cases h4:id= "sum"
 ·subst h4;refine aN (kT ((bE4 args).symm.trans e)) λx e_ g=>?_
  subst e_;clear e;refine aN (kN g) λxs e_ g'=>?_
  subst e_;refine aN (ba.mp g') λns hi e_=>?_
  subst e_;exact .sum xs ns hi
 by_cases h5:id= "divmod"
 ·subst h5;refine d9 (ny ((bE5 args).symm.trans e)) λx y e_ g=>?_
  subst e_;clear e;refine ek (jf g) λa' b' hx hy g'=>?_
  obtain rfl:x= .int a':=hx;obtain rfl:y= .int b':=hy;refine xA (mR g') λh0 g'=>?_
  refine xA (mR g') λhp k=>?_
  obtain rfl:=oj k;exact .dm a' b' h0 hp
 by_cases h6:id= "max"
 ·subst h6;refine aN (kT ((bE7 args).symm.trans e)) λx e_ g=>?_
  subst e_;clear e;refine aN (kN g) λxs e_ g'=>?_
  subst e_;refine aN (aA.mp g') λns hi g'=>?_
  cases ns with
  |nil=>exact cu g'
  |cons k r=>obtain rfl:=oj g';exact .mx xs k r hi
 by_cases h7:id= "min"
 ·subst h7;refine d9 (ny ((bE8 args).symm.trans e)) λx y e_ g=>?_
  subst e_;clear e;refine ek (jf g) λa' b' hx hy g'=>?_
  obtain rfl:x= .int a':=hx;obtain rfl:y= .int b':=hy;obtain rfl:=oj g';exact .mn a' b'
 ·exact cu ((bE6 h1 h2 h3 h4 h5 h6 h7 args).symm.trans e)
theorem zrk{id:String}{args:List PV}{z:PV}{vs:List Value}(e:jh id args=some z)(a:At C W s)(hh:A.handled=none)(r:RepL C s.heap W args vs):Snd0 C A s W (call (.builtin id) vs) z:=by
 have b:=z9v e;clear e;show let g_:=_;g_;intro g_;induction b with
 |len xs=>
  show let g_:=_;g_;intro g_;obtain ⟨v,u,rfl,rx,r⟩:=gY r;obtain rfl:=ir r;refine iJ (iU rx) λl vs n e_ J J ho hl hz=>?_
  subst e_;have hv:=hl.length;intro Q E q;refine call_len_list (items:=vs.toArray) ⟨_,ho,rfl,_,rfl⟩ (by simp only [bI,hv];rw [av]at hz;lia) ?_;simp only [bI,hv];exact q _ _ (.toks _) gg
 |lenS x=>
  obtain ⟨v,u,rfl,rx,r⟩:=gY r;obtain rfl:=ir r;refine aN (gA rx) λt e_ hz=>?_
  subst e_;exact λQ E q=>PyProof.Rows.len_str (by rw [av]at hz;lia) (q _ _ (.toks _) gg)
 |ord k=>
  obtain ⟨v,u,rfl,rx,r⟩:=gY r;obtain rfl:=ir r;refine aN (gA rx) λt e_ hz=>?_
  subst e_;exact λQ E q=>PySem.P.ord_of_char (q _ _ .tok1 gg)
 |chr n h1=>obtain ⟨v,u,rfl,rx,r⟩:=gY r;obtain rfl:=ir r;obtain ⟨t,rfl⟩:=ef rx;simp only [an,decide_eq_true_eq]at h1;exact λQ E q=>PySem.P.chr_of_int (by simp;lia) (q _ _ .tok1 (jd (by show 1<=_;decide)))
 |sum xs ns hi=>
  obtain ⟨v,u,rfl,rx,r⟩:=gY r;obtain rfl:=ir r;refine iJ (iU rx) λl vs n e_ J J ho hl hz=>?_
  subst e_;have hA:=qL hi hl;have hL:s.heap.IsList l vs.toArray:=⟨_,ho,rfl,_,rfl⟩;have hlt:=aB ho;intro Q E q;refine call_sum_walkG (wpAny_pyIter_list hL ?_);refine ⟨s.heap.objs.size,[s.heap.objs.size,l],[s.heap.objs.size],_,_,_,λj=>ns.getD j 0,rfl,Walks.list (A:=A.in1) hh _ l (bG hlt) vs.toArray,
   ⟨(et _ (au _ rfl) rfl rfl),hL.push _⟩,λb hb=>?_,λi v hi=>z6e hA (by simpa using hi),λh' tk t' hk=>?_⟩
  ·show b<(s.heap.push _).objs.size;rw [eJ];simp only [aw,eT,or_false]at hb;rcases hb with rfl|rfl
   ·exact fK _
   ·exact Nat.lt_succ_of_lt hlt
  ·have hn:(ns.take vs.toArray.size)=ns:=ey (by simp only [bI];rw [hA.length];exact az _);rw [zxg,hn];exact q _ _ (.grow λb o e=>hk b o (λhb=>by simp only [aE]at hb;exact bG (aB e) hb) (aq _ e)) gg
 |mx xs k ks hi=>
  obtain ⟨v,u,rfl,rx,r⟩:=gY r;obtain rfl:=ir r;refine iJ (iU rx) λl vs n e_ J J ho hl hz=>?_
  subst e_;have hA:=qL hi hl;obtain ⟨xs',e⟩:=hA.allInts.items;have hns:k::ks=xs'.toList.map (·.1):=by rw [<-hA.numsOf,<-nums_intItems,<-e]
  have hsz:0<xs'.size:=by have:=congrArg uV hns;rw [aY]at this;exact Nat.lt_of_lt_of_eq (jk ks.length) this
  have hL:s.heap.IsList l (intItems xs'):=⟨_,ho,rfl,_,by rw [<-e]⟩;intro Q E q;refine max_intList hh hL hsz λv h' tk hv hk=>?_
  obtain ⟨t,rfl⟩:=intItems_at hv;refine xA (argBest_gt (numAt xs') (xs'.size-1)) λh1 h2=>?_
  have hM:numAt xs' (argBest (λi j=>decide (numAt xs' i>numAt xs' j)) (xs'.size-1))=ks.foldl max k:=zu2
   (by rw [hns,numAt_eq];exact getD_mem (by rw [aY,Array.length_toList];lia))
   (λa ha=>by
    rw [hns]at ha;refine aN (mem_getD ha) λj hj e_=>?_
    subst e_;rw [aY,Array.length_toList]at hj;rw [<-numAt_eq];exact h2 j (by lia))
  rw [hM];exact q _ _ (.grow hk) gg
 |mn a' b'=>
  obtain ⟨v,u,rfl,rx,r⟩:=gY r;obtain ⟨v',u,rfl,ry,r⟩:=gY r;obtain rfl:=ir r;obtain ⟨t,rfl⟩:=ef rx;obtain ⟨t',rfl⟩:=ef ry;intro Q E q;refine min_two_ints hh λh' tk hk=>?_
  by_cases h:b'<a'
  ·rw [if_pos h,show min a' b'=b' from Int.min_eq_right (al h)]at*;exact q _ _ (.grow hk) gg
  ·rw [if_neg h];rw [show min a' b'=a' from Int.min_eq_left (Int.not_lt.mp h)]at q;exact q _ _ (.grow hk) gg
 |dm a' b' h0 hp=>obtain ⟨v,u,rfl,rx,r⟩:=gY r;obtain ⟨v',u,rfl,ry,r⟩:=gY r;obtain rfl:=ir r;obtain ⟨t,rfl⟩:=ef rx;obtain ⟨t',rfl⟩:=ef ry;intro Q E q;refine PyProof.Rows.divmod_int h0 ?_ (.inl (by simpa using hp));exact zpj (xs:=[.int _,.int _]) (vs:=[.int _ s.toks,.int _ (s.toks+1)]) (n:=0) (k:=s.toks+1+1) a (RepL.cons gg (RepL.cons gg rfl)) q
end
section
variable{C:CX}{W:Addr->Prop}{s:Shared}{A:Around}
theorem z6g: ∀{xs:List PV} {vs:List Value},vs.length=xs.length->(∀(j:Nat) (v:Value),vs[j]?=some v-> ∃x,xs[j]?=some x/\Rep C h W x v)->RepL C h W xs vs:=by
 intro xs;induction xs with
 |nil=>intro vs e J;exact cK.mp e
 |cons x xs ih=>intro vs e hp;cases vs with
  |nil=>cases e
  |cons v vs=>
  refine aN (hp 0 v rfl) λy h1 h2=>?_
  replace h1:=oj h1;subst h1;exact RepL.cons h2 (ih (Nat.succ.inj e) λj u hj=>hp (j+1) u hj)
theorem tH{Q:Value->Shared->Prop}{lo hi st:Int}{t1 t2 t3:Tok}{k:Nat}(a:At C W s)(ok:iW lo hi st=true)(q: ∀v s',Ext0 C s s'->Rep C s'.heap W (.range lo hi st) v->Q v s'): Q (.ref s.heap.objs.size) {s with heap:=s.heap.push {cls:=.type "range",data:=.fields #[.int lo t1,.int hi t2,.int st t3]},toks:=k}:=by refine q _ _ (.push _ _) ?_;exact z5a _ rfl a.nw a.low ⟨t1,t2,t3,au _ rfl⟩ ok
theorem zu3(h:48<=k/\k<=57):PySem.intText? ⟨#[k]⟩=some ((k-48:Nat):Int):=by
 have key: ∀d<10,PySem.intText? ⟨#[48+d]⟩=some ((48+d-48:Nat):Int):=by decide+kernel
 obtain ⟨d,rfl⟩:=kH h.1;exact key d (Nat.lt_of_add_lt_add_left (fk h.2:48+d<48+10))
theorem sO{n:String}{args:List PV}{z:PV}{vs:List Value}(e:mt n args=some z)(a:At C W s)(hh:A.handled=none)(r:RepL C s.heap W args vs):Snd0 C A s W (call (.type n) vs) z:=by
 rcases kO e with ⟨rfl,e⟩|⟨-,e⟩
 ·match args,e with
  | [x],e=>
  refine aN (jR e) λn e_ g=>?_
  subst e_;obtain ⟨v,u,rfl,rx,r⟩:=gY r;obtain rfl:=ir r;obtain ⟨t,rfl⟩:=ef rx;refine xA (gP g) λh e_=>?_
  subst e_;intro Q E q;exact call_range_1 (tH a h q)
  | [x,y],e=>
  refine ek (jf e) λlo hi e_ e_1 g=>?_
  subst e_ e_1;obtain ⟨v,u,rfl,rx,r⟩:=gY r;obtain ⟨v',u,rfl,ry,r⟩:=gY r;obtain rfl:=ir r;obtain ⟨t,rfl⟩:=ef rx;obtain ⟨t',rfl⟩:=ef ry;refine xA (gP g) λh e_=>?_
  subst e_;intro Q E q;exact call_range_2 (tH a h q)
  | [x,y,z],e=>
  refine aN (jR e) λst e_ g=>?_
  subst e_;refine ek (jf g) λlo hi e_ e_1 g'=>?_
  subst e_ e_1;obtain ⟨v,u,rfl,rx,r⟩:=gY r;obtain ⟨v',u,rfl,ry,r⟩:=gY r;obtain ⟨v'',u,rfl,rz,r⟩:=gY r;obtain rfl:=ir r;obtain ⟨t,rfl⟩:=ef rx;obtain ⟨t',rfl⟩:=ef ry;obtain ⟨t'',rfl⟩:=ef rz;refine xA (gP g') λh e_=>?_
  subst e_;have h':=h;simp only [iW,an,decide_eq_true_eq]at h';intro Q E q;exact call_range_3 (by lia) (tH (k:=s.toks) a h q) (.inl (by simpa using h'.2))
 rcases kO e with ⟨rfl,e⟩|⟨-,e⟩
 ·show let g_:=_;g_;intro g_;refine aN (kT e) λx e_ g=>?_
  subst e_;cases x with
  |range lo hi st=>
  obtain ⟨v,u,rfl,rx,r⟩:=gY r;obtain rfl:=ir r;obtain ⟨l,rfl,J,J,⟨t1,t2,t3,hr⟩,ok⟩:=zpk rx;replace g:=oj g;subst g;have ok':=ok;simp only [iW,an,decide_eq_true_eq]at ok';have h0:0<=aD lo hi st:=by
   unfold aD;rw [if_pos (by lia)];split
   ·have:0<=(hi-lo-1)/st:=bT (by lia) (by lia);lia
   ·exact dL _
  have hn:=(gN h0).symm;intro Q E q;refine call_list_range hh hr ok'.1.1.2 hn (by have:=ok'.1.2;lia) λh' tk acc' c' hk hL hI=>?_
  refine q _ _ (.grow hk) ?_;refine kW _ acc'.toList c' rfl a.nw a.low (by simpa using hL) ?_ ?_
  ·refine z6g (by simp [iK,hI.1]) λj v hj=>?_
   have hlt:j<acc'.size:=by have:=(bO.mp hj).1;simpa using this
   obtain ⟨t,rfl⟩:=hI.2 j v (by simpa using hj);refine bK (.int (lo+(j:Int)*st)) ?_ gg;rw [hI.1]at hlt;simp [iK,hlt]
  ·simp only [iK,aY,iQ];rw [av];have:=ok'.1.2;lia
  |_=>exact cu g
 rcases kO e with ⟨rfl,e⟩|⟨-,e⟩
 ·show let g_:=_;g_;intro g_;refine aN (kT e) λx e_ g=>?_
  subst e_;refine aN (mapI g) λn e_ g'=>?_
  subst e_;obtain ⟨v,u,rfl,rx,r⟩:=gY r;obtain rfl:=ir r;obtain ⟨t,rfl⟩:=ef rx;induction g';intro Q E q;exact call_type_of (gn s _ t) (by decide) (q _ _ (.refl _) jcx)
 rcases kO e with ⟨rfl,e⟩|⟨-,e⟩
 ·refine aN (kT e) λx e_ g=>?_
  subst e_;obtain ⟨⟨⟨c⟩⟩,rfl,g⟩:=lA g;refine xA (jD g) λh1 g=>?_
  obtain ⟨v,u,rfl,rx,r⟩:=gY r;obtain rfl:=ir r;refine aN (gA rx) λt e_ J=>?_
  subst e_
  match c,h1,g with
  | [k],_,g=>
   refine xA (gP g) λh2 e_=>?_
   subst e_;exact λQ E q=>PySem.W.KIN.call_text (zu3 h2) (by show 1<=_;decide) (q _ _ .tok1 gg)
 ·exact cu e
def SndL(C:CX)(A:Around)(s:Shared)(W:Addr->Prop)(t:Sem (List Value))(ps:List PV):Prop:=∀(Q:List Value->Shared->Prop) (E:Value->Shared->Prop),(∀vs s',Ext C s s'->RepL C s'.heap W ps vs->Q vs s')->wpAny (model C.prog C.w) A t Q E s
theorem qK:SndL C A s W (spliced []) []:=λQ E q=>bR (q [] s (.refl s) rfl)
theorem qV(h:Snd C A s W x p)(hr: ∀s',Ext C s s'->SndL C A s' W (spliced rest) ps): SndL C A s W (spliced ((false,x)::rest)) (p::ps):=λQ E q=>bq (h _ _ λv s₁ e₁ r_1=>hr s₁ e₁ _ _ λvs s_2 e_2 r_2=>q _ s_2 (e₁.trans e_2) (RepL.cons (r_1.ext e_2.toExt0) r_2))
theorem i7(hp:args.any (·.1)=false)(h:wpAny M A (spliced args) (λvs s'=>Q ⟨vs,[]⟩ s') E s):wpAny M A (evalArgs f true args []) Q E s:=by
 induction args with
 |nil=>refine ab (bE h (λvs s' h'=>?_) λJ J x=>x);refine aX ?_;exact ab (am (ab (am (am h'))))
 |cons a r=>
  obtain ⟨b,x⟩:=a;have hb:b=false:=by simp at hp;exact hp.1
  subst hb;exact evalArgs_plain h
theorem zpm{pos:Pos}{id:String}{first:List Value}{args:List (Bool×Sem Value)}{ps:List PV}{z:PV}(hp:args.any (·.1)=false)(hl:SndL C A s W (spliced args) ps)(k: ∀vs s',Ext C s s'->RepL C s'.heap W ps vs->Snd0 C A s' W (call (.builtin id) (first++vs)) z):Snd C A s W (callWith pos (.builtin id) first args []) z:=λQ E q=>dQ hp (i7 hp (hl _ _ λvs s₁ e₁ r_1=>(k vs s₁ e₁ r_1).up _ _ λv s_2 e_2 r_2=>q v s_2 (e₁.trans e_2) r_2))
theorem znt(rx:Rep C s.heap W (.str x) v)(ry:Rep C s.heap W (.str y) u):Snd0 C A s W (call (.builtin "str.count") [v,u]) (.int (Txt.count x y)):=λQ E q=>by obtain ⟨t,rfl,J⟩:=gA rx;obtain ⟨t',rfl,J⟩:=gA ry;exact SC.count (q _ _ .tok1 gg)
theorem znu(hz:f0 (Txt.lower x).length=true)(rx:Rep C s.heap W (.str x) v):Snd0 C A s W (call (.builtin "str.lower") [v]) (.str (Txt.lower x)):=λQ E q=>by
 refine aN (gA rx) λt e_ J=>?_
 subst e_;have hz':=of_decide_eq_true hz;exact SC.lower (by simp only [ga,av];exact decide_eq_false (by lia)) (q _ _ .tok1 (jd (by rw [av];exact hz')))
theorem z17: ∀{ns:List Str} {vs:List Value},lz xs=some ns->RepL C h W xs vs->StrsAre vs ns:=by
 induction xs with
 |nil=>intro ns vs e r;obtain rfl:vs=[]:=r;obtain rfl: []=ns:=Option.some.inj e;exact .nil
 |cons x xs ih=>
  intro ns vs e r;obtain ⟨v,u,rfl,hx,hr⟩: ∃v u,vs=v::u/\Rep C h W x v/\RepL C h W xs u:=r;refine ek (ki e) λd l hx' hxs e_=>?_
  subst e_;obtain ⟨t,rfl⟩:=oB hx' hx;exact .cons _ t (ih hxs hr)
theorem zpn(e:lz xs=some ys)(hz:f0 ((ys.map (·.length)).sum+ys.length*x.length)=true)(rx:Rep C s.heap W (.str x) v)(ry:Rep C s.heap W (.list xs) u): Snd0 C A s W (call (.builtin "str.join") [v,u]) (.str (fW x ys)):=λQ E q=>by
 show let g_:=_;g_;intro g_;refine aN (gA rx) λt e_ J=>?_
 subst e_;refine iJ (iU ry) λl vs n e_ J J ho hl J=>?_
 subst e_;have hz':=of_decide_eq_true hz;refine PyProof.Rows.join_list (items:=vs.toArray) ⟨_,ho,rfl,_,rfl⟩ (by simpa using z17 e hl) hz' λt' k=>q _ _ (.toks _) (jd ?_)
 show (Builtin.Str.glued x ys).length<=aM;rw [il,av];exact aa (StrLaws.join_length_le x ys) hz'
theorem znv(a:At C W s)(rx:Rep C s.heap W (.str x) v)(ry:Rep C s.heap W (.list []) u):Snd0 C A s W (call (.builtin "str.join") [v,u]) (.frs (fW x [])):=λQ E q=>by
 show let g_:=_;g_;intro g_;refine aN (gA rx) λt e_ J=>?_
 subst e_;refine iJ (iU ry) λl vs n e_ J J ho hl J=>?_
 subst e_;obtain rfl:=ir hl;have hz:(fW x []).length<=aM:=bD _;exact gt F.slot_str_join (c8 _ _ _) F.entry_str_join (F.args_str_join_2 _ _) (meets_str_join_list x t l [] rfl) ⟨⟨_,ho,rfl,_,rfl⟩,hz,q _ _ .tok1 (k6 _ rfl hz (b9 (Nat.lt_of_le_of_lt (bD _) a.tok)) (dF a.tok))⟩
theorem zpo(ro:Rep C s.heap W (.dict kvs) o)(rk:Rep C s.heap W (.str k) v)(rd:Rep C s.heap W d u): Snd0 C A s W (call (.builtin "dict.get") [o,v,u]) ((kvs.lookup k).getD d):=λQ E q=>by
 refine lf (oQ ro) λa l e_ J n hd hr=>?_
 subst e_;refine aN (gA rk) λt e_ J=>?_
 subst e_;refine call_meetsIn F.slot_dict_get hd.typeIs F.entry_dict_get (F.args_dict_get_3 _ _ _) (meets_dict_get_default (strKind C.prog C.w) a (gp _ _ k t) (mM n) u) (bK (valueAt l) hd.mapOf ?_);refine q _ _ .tok1 ?_;cases hl:kvs.lookup k with
 |none=>rw [t7 hr hl];exact rd
 |some y=>
  refine aN (pf hr hl) λw g1 g2=>?_
  rw [g1];exact g2
theorem zf8(hu:u≠0)(hv:u'≠0)(huv:u≠u')(hyz:(y !=z)=true)(hz:f0 (x.length+(x.length+1)*z.length)=true)(rx:Rep C s.heap W (.str x) v): Snd0 C A s W (call (.builtin "str.replace") [v,.str y u,.str z u']) (.str (dE x y z)):=λQ E q=>by
 refine aN (gA rx) λt e_ J=>?_
 subst e_;have hz':=of_decide_eq_true hz;refine SC.replace hu hv huv (by simpa [bne] using hyz) hz' λt' k=>q _ _ (.toks _) (jd ?_)
 unfold dE;split
 ·rw [av];assumption
 ·exact fits_replaced y hz'
theorem zmb(rx:Rep C s.heap W (.int i) v):Snd0 C A s W (call (.builtin "int.bit_length") [v]) (.int (bc i)):=λQ E q=>by obtain ⟨t,rfl⟩:=ef rx;exact call_int_bit_length (q _ _ .tok1 gg)
end
structure FnOk(C:CX)(G:GT)(K:Nat):Prop where
 revd:C.mg "reversed" =none/\C.mb "reversed" =some (.type "reversed")
 gv: ∀x p,G.gv x=some p-> ∃v,(C.mg x=some v\/(C.mg x=none/\C.mb x=some v))/\ ∀h W,Rep C h W p v
 fn: ∀f args p,G.fns f args=some p-> ∃a o fd,C.mg f=some (.ref a)/\o.data= .func fd/\(∀h,C.Inv h->h.get? a=some o)/\
  ∀A W s vs,Room A K->At C W s->RepL C s.heap W args vs->Snd C A s W (call (.ref a) vs) p
 b1: ∀v,C.mg "b1_set" =some v-> ∀A W s (k:Int) t,At C W s->Snd C A s W (de .In (.int k t) v) (.bool (kR.contains k))
 b3: ∀v,C.mg "b3_exceptions" =some v-> ∃d f,v= .ref d/\(d==du)=false/\(∀h,C.Inv h->h.MapOf (intKind C.prog C.w) d f)/\
  ∀k r,G.b3get k=some r-> ∃t,(f k).getD .none=(match r with|some x=>.str x t|none=>.none)/\ ∀x,r=some x->x.length<=aM
def uP(c:CE)(e:Expr)(x:PE):Prop:=∀(C:CX) (G:GT) (K:Nat) (_:FnOk C G K) (env:Env) (W O:Addr->Prop) (s:Shared) (ρ:Rho) (A:Around) (p:PV),dq C c env W O s.heap ρ->At C W s->Room A K->
  be G x ρ=some p->Snd C A s W (eval e env) p
def jcy(c:CE)(e:Expr)(x:PE):Prop:=∀(C:CX) (G:GT) (K:Nat) (_:FnOk C G K) (env:Env) (W O:Addr->Prop) (s:Shared) (ρ:Rho) (A:Around) (b:Bool),dq C c env W O s.heap ρ->At C W s->Room A K->
  el G x ρ=some b->SndB C A s (isTrue e env (eval e env)) b
structure SE(c:CE)(e:Expr)(x:PE):Prop where
 v:uP c e x
 t:jcy c e x
 ns: ∀r env,bY (e::r) env=(false,eval e env)::bY r env
theorem SE.val{c:CE}{e:Expr}{x:PE}(h:SE c e x){C:CX}{G:GT}{K:Nat}(ok:FnOk C G K){env:Env}{W O:Addr->Prop}{s:Shared}{ρ:Rho}{A:Around}{p:PV}(ev:dq C c env W O s.heap ρ)(a:At C W s)(rm:Room A K)(hp:be G x ρ=some p):Snd C A s W (eval e env) p:=h.v C G K ok env W O s ρ A p ev a rm hp
theorem SE.tst{c:CE}{e:Expr}{x:PE}(h:SE c e x){C:CX}{G:GT}{K:Nat}(ok:FnOk C G K){env:Env}{W O:Addr->Prop}{s:Shared}{ρ:Rho}{A:Around}{b:Bool}(ev:dq C c env W O s.heap ρ)(a:At C W s)(rm:Room A K)(hp:el G x ρ=some b):SndB C A s (isTrue e env (eval e env)) b:=h.t C G K ok env W O s ρ A b ev a rm hp
theorem SE.plain(val:uP c e x)(ht: ∀G ρ,el G x ρ=(be G x ρ).bind jU)(he: ∀env whole,isTrue e env whole=(do let v<-whole;standAt e.pos;holding [v] (truthy v)))(ns: ∀r env,bY (e::r) env=(false,eval e env)::bY r env):SE c e x where
 v:=val
 ns:=ns
 t:=λC G K ok env W O s ρ A b ev a rm h Q E q=>by
  rw [ht]at h;cases hp:be _ x ρ with
  |none=>rw [hp]at h;exact cu h
  |some p=>rw [hp]at h;exact isTrue_plain (val C G K ok env W O s ρ A p ev a rm hp _ _ λv s₁ e₁ r_1=>(zxd h r_1).up _ _ λs_2 e_2=>q s_2 (e₁.trans e_2)) (he _ _)
theorem SE.only(val:uP c e x)(ht: ∀G ρ,el G x ρ=none)(ns: ∀r env,bY (e::r) env=(false,eval e env)::bY r env):SE c e x where
 v:=val
 ns:=ns
 t:=λC G K ok env W O s ρ A b ev a rm h=>by rw [ht]at h;exact cu h
theorem Ext.tok1:Ext C s {s with toks:=s.toks+1}:=⟨.toks _,kG _⟩
section
variable{c:CE}{pos p_1:Pos}{k:Nat}
theorem lk(ev:dq C c env W O s.heap ρ)(hcd:(x==("__classdict__" :Str))=false)(hv:fQ s.heap env C.n₀ x v)(q:Q v s):wpAny M A (loadName env x) Q E s:=by
 induction hv with
 |loc k n e'=>exact br ev.kind k n e' q
 |cell k l lo i=>
  rcases k with k|k
  ·exact wpAny_loadName_cell ev.kind k l i q
  ·exact wpAny_loadName_free ev.kind k l i q hcd
theorem z6i:SE c (.Constant .none k pos) .none:=.plain (λC G K J env W O s ρ A p J J J h Q E q=>by simp only [eE]at h;replace h:=oj h;subst h;exact wpAny_Constant_none (q _ _ (.refl _) rfl)) (λG ρ=>by simp [eE,tE,vE]) (λJ J=>rfl) (λJ J=>rfl)
theorem z6j:SE c (.Constant (.bool b) k pos) (.bool b):=.plain (λC G K J env W O s ρ A p J J J h Q E q=>by simp only [eE]at h;replace h:=oj h;subst h;exact wpAny_Constant_bool (q _ _ (.refl _) gy)) (λG ρ=>by simp [eE,tE,vE]) (λJ J=>rfl) (λJ J=>rfl)
theorem z9w:SE c (.Constant (.int i) k pos) (.int i):=.plain (λC G K J env W O s ρ A p J J J h Q E q=>by simp only [eE]at h;replace h:=oj h;subst h;exact c7 (q _ _ .tok1 gg)) (λG ρ=>by simp [eE,tE,vE]) (λJ J=>rfl) (λJ J=>rfl)
theorem z9x(hx:f0 x.length=true):SE c (.Constant (.str x) k pos) (.str x):=.plain (λC G K J env W O s ρ A p J J J h Q E q=>by simp only [eE]at h;replace h:=oj h;subst h;exact Constant_str (q _ _ .tok1 (jd (by rw [av];exact of_decide_eq_true hx)))) (λG ρ=>by simp [eE,tE,vE]) (λJ J=>rfl) (λJ J=>rfl)
theorem z9y(hd:(x==("__debug__" :Str))=false)(hcd:(x==("__classdict__" :Str))=false)(hi:idx c.σ x=some i)(hk:visK c.base i (c.sc.names.lookup x)=true):SE c (.Name x pos) (.var i):=
 .plain (λC G K J env W O s ρ A p ev J J h=>by
  exact λQ E q=>by
   show let g_:=_;g_;intro g_;refine aN (ev.vars x i _ hi hk (zw1 h)) λv hv r=>?_
   cases r with
   |val r=>exact bU (lk ev hcd hv (q v s (.refl s) r)) hd) (λG ρ=>by simp only [eE,tE]) (λJ J=>rfl) (λJ J=>rfl)
theorem z6k(hd:(x==("__debug__" :Str))=false)(hk:c.sc.names.lookup x=some .globalImplicit):SE c (.Name x pos) (.glob x):=
 .plain (λC G K ok env W O s ρ A p ev a J h Q E q=>by
  refine aN (ok.gv _ _ h) λv hv r=>?_
  have k:env.kindOf x=some .globalImplicit:=by
   show let g_:=_;g_;intro g_;rcases ev.names x with h|⟨h,J⟩|h
   ·exact h.trans hk
   ·rw [hk]at h;cases h
   ·rw [hk]at h;cases h
  refine Name_function_global ev.kind k ?_ hd;have fin:=q v s (.refl s) (r _ _);rcases hv with hv|⟨h1,h2⟩
  ·exact loadGlobal_global (ev.glob▸_root_.Mine.Internal.CX.g _ a.inv) hv fin
  ·exact gr (ev.glob▸_root_.Mine.Internal.CX.g _ a.inv) h1 (ev.bui▸_root_.Mine.Internal.CX.b _ a.inv) h2 fin) (λG ρ=>by simp only [eE,tE]) (λJ J=>rfl) (λJ J=>rfl)
theorem bind_some{α β:Type}{o:Option α}{f:α->Option β}{y:β}(h:o.bind f=some y): ∃x,o=some x/\f x=some y:=by
 cases o with
 |none=>exact cu h
 |some x=>exact bK x rfl h
theorem gf{α β:Type}{o:Option α}{f:α->β}{y:β}(h:o.map f=some y): ∃x,o=some x/\f x=y:=by
 cases o with
 |none=>exact cu h
 |some x=>exact bK x rfl (by simpa using h)
theorem z9z(ha:SE c a x)(hb:SE c b y):SE c (.BinOp a op b pos) (.bin op x y):=.only (λC G K ok env W O s ρ A p ev at' rm h Q E q=>by
 show let g_:=_;g_;intro g_;refine aN (bind_some h) λu h1 h=>?_
 refine aN (bind_some h) λv h2 h=>?_
 exact fV (ha.val ok ev at' rm h1 _ _ λu' s₁ e₁ r_1=>hb.val ok (ev.ext e₁.toExt0) (at'.ext e₁) rm h2 _ _ λv' s_2 e_2 r_2=>(qz h ((at'.ext e₁).ext e_2) (r_1.ext e_2.toExt0) r_2).up _ _ λz s3 e_3 r_3=>q z s3 ((e₁.trans e_2).trans e_3) r_3)) (λG ρ=>by simp only [tE]) (λJ J=>rfl)
theorem z90(ha:SE c a x):SE c (.UnaryOp .USub a pos) (.neg x):=.only (λC G K ok env W O s ρ A p ev at' rm h Q E q=>by
 show let g_:=_;g_;intro g_;refine aN (bind_some h) λu h1 h=>?_
 refine aN (mapI h) λk e_ g=>?_
 subst e_;induction g;exact UnaryOp_ (ha.val ok ev at' rm h1 _ _ λu' s₁ e₁ r_1=>(z59 r_1).up _ _ λz s3 e_3 r_3=>q z s3 (e₁.trans e_3) r_3)) (λG ρ=>by simp only [tE]) (λJ J=>rfl)
theorem z91(ha:SE c a x):SE c (.UnaryOp .Invert a pos) (.inv x):=.only (λC G K ok env W O s ρ A p ev at' rm h Q E q=>by
 show let g_:=_;g_;intro g_;refine aN (bind_some h) λu h1 h=>?_
 refine aN (mapI h) λk e_ g=>?_
 subst e_;induction g;exact UnaryOp_ (ha.val ok ev at' rm h1 _ _ λu' s₁ e₁ r_1=>(z6a r_1).up _ _ λz s3 e_3 r_3=>q z s3 (e₁.trans e_3) r_3)) (λG ρ=>by simp only [tE]) (λJ J=>rfl)
theorem z92(ha:SE c a x):SE c (.UnaryOp .Not a pos) (.not x) where
 v:=λC G K ok env W O s ρ A p ev at' rm h=>by simp only [eE]at h;exact cu h
 ns:=λJ J=>rfl
 t:=λC G K ok env W O s ρ A b ev at' rm h Q E q=>by
  refine aN (gf h) λu h1 h=>?_
  subst h;exact isTrue_not (ha.tst ok ev at' rm h1 _ _ λs₁ e₁=>q s₁ e₁)
theorem z93(ht:SE c t u)(ha:SE c a x)(hb:SE c b y):SE c (.IfExp t a b pos) (.ifx u x y) where
 v:=λC G K ok env W O s ρ A p ev at' rm h Q E q=>by
  refine aN (bind_some h) λw h1 h=>?_
  refine IfExp_ (ht.tst ok ev at' rm h1 _ _ λs₁ e₁=>?_);cases w with
  |true=>exact ha.val ok (ev.ext e₁.toExt0) (at'.ext e₁) rm h _ _ λz s3 e_3 r_3=>q z s3 (e₁.trans e_3) r_3
  |false=>exact hb.val ok (ev.ext e₁.toExt0) (at'.ext e₁) rm h _ _ λz s3 e_3 r_3=>q z s3 (e₁.trans e_3) r_3
 ns:=λJ J=>rfl
 t:=λC G K ok env W O s ρ A p ev at' rm h Q E q=>by
  refine aN (bind_some h) λw h1 h=>?_
  refine isTrue_IfExp (ht.tst ok ev at' rm h1 _ _ λs₁ e₁=>?_);cases w with
  |true=>exact ha.tst ok (ev.ext e₁.toExt0) (at'.ext e₁) rm h _ _ λs3 e_3=>q s3 (e₁.trans e_3)
  |false=>exact hb.tst ok (ev.ext e₁.toExt0) (at'.ext e₁) rm h _ _ λs3 e_3=>q s3 (e₁.trans e_3)
inductive SEs(c:CE):List Expr->List PE->Prop
 |nil:SEs c [] []
 |cons {e x es xs}:SE c e x->SEs c es xs->SEs c (e::es) (x::xs)
theorem SEs.length(h:SEs c es xs):es.length=xs.length:=by induction h<;>simp [*]
theorem SEs.star(h:SEs c es xs)(env:Env):(backTo pos (bY es env)).any (·.1)=false:=by
 induction h with
 |nil=>rfl
 |cons h _ ih=>rw [h.ns];simpa [backTo] using ih
theorem SEs.sndL{es:List Expr}{xs:List PE}(hs:SEs c es xs){C:CX}{G:GT}{K:Nat}(ok:FnOk C G K){env:Env}{W O:Addr->Prop}{ρ:Rho}{A:Around}(rm:Room A K): ∀{s:Shared} {ps:List PV},dq C c env W O s.heap ρ->At C W s->gh G xs ρ=some ps->SndL C A s W (spliced (backTo pos (bY es env))) ps:=by
 induction hs with
 |nil=>intro s ps ev at' h;simp only [pE]at h;replace h:=oj h;subst h;exact qK
 |cons h _ ih=>
  intro s ps ev at' hp;refine aN (bind_some hp) λp h1 hp=>?_
  refine aN (gf hp) λr h2 hp=>?_
  subst hp;rw [h.ns];exact qV (h.val ok ev at' rm h1) λs' e'=>ih (ev.ext e'.toExt0) (at'.ext e') h2
theorem rE: ∀{xs:List PE} {ps:List PV},gh G xs ρ=some ps->ps.length=xs.length:=by
 intro zz;induction zz with
 |nil=>intro ps h;simp only [pE]at h;replace h:=oj h;subst h;rfl
 |cons x xs ih=>
  intro ps h;refine aN (bind_some h) λp h1 h=>?_
  refine aN (gf h) λr h2 h=>?_
  subst h;simp [ih h2]
theorem zpp{C:CX}{W:Addr->Prop}{s:Shared}{Q:Value->Shared->Prop}{xs:List PV}{vs:List Value}{n k:Nat}(hk:s.toks<=k)(a:At C W s)(r:RepL C s.heap W xs vs)(z:xs.length<=aM)(q: ∀v s',Ext C s s'->Rep C s'.heap W (.list xs) v->Q v s'):Q (.ref s.heap.objs.size) {s with heap:=s.heap.push (ff vs n),toks:=k}:=qM (Q:=λv s'=>s.toks<=s'.toks->Q v s') a r z (λv s' e r ht=>q v s' ⟨e,ht⟩ r) hk
theorem zu4{C:CX}{W:Addr->Prop}{s:Shared}{Q:Value->Shared->Prop}{xs:List PV}{vs:List Value}{n k:Nat}(hk:s.toks<=k)(a:At C W s)(r:RepL C s.heap W xs vs)(q: ∀v s',Ext C s s'->Rep C s'.heap W (.tuple xs) v->Q v s'):Q (.ref s.heap.objs.size) {s with heap:=s.heap.push (tupO vs n),toks:=k}:=zpj (Q:=λv s'=>s.toks<=s'.toks->Q v s') a r (λv s' e r ht=>q v s' ⟨e,ht⟩ r) hk
theorem zxh(hs:SEs c es xs)(hz:f0 es.length=true):SE c (.List es pos) (.list xs):=.only (λC G K ok env W O s ρ A p ev at' rm h Q E q=>by
 refine aN (gf h) λps h1 h=>?_
 subst h;have hz':=of_decide_eq_true hz;refine fI (hs.sndL ok rm ev at' h1 _ _ λvs s₁ e₁ r_1=>?_);have hl:ps.length<=aM:=by rw [rE h1,<-hs.length,av];exact hz'
 exact ⟨by rw [r_1.length];exact hl,zpp (n:=0) (k:=s₁.toks) (az _) (at'.ext e₁) r_1 hl λv s' e' r'=>q v s' (e₁.trans e') r'⟩) (λG ρ=>by simp only [tE]) (λJ J=>rfl)
theorem sY(hs:SEs c es xs)(hz:f0 es.length=true):SE c (.Tuple es k pos) (.tuple xs):=.only (λC G K ok env W O s ρ A p ev at' rm h Q E q=>by
 show let g_:=_;g_;intro g_;refine aN (gf h) λps h1 h=>?_
 subst h;refine wpAny_Tuple (hs.sndL ok rm ev at' h1 _ _ λvs s₁ e₁ r_1=>?_);have hl:ps.length<=aM:=by rw [rE h1,<-hs.length,av];exact (of_decide_eq_true hz)
 exact ⟨by rw [r_1.length];exact hl,zu4 (n:=0) (k:=s₁.toks) (az _) (at'.ext e₁) r_1 λv s' e' r'=>q v s' (e₁.trans e') r'⟩) (λG ρ=>by simp only [tE]) (λJ J=>rfl)
theorem z6l{C:CX}{G:GT}{K:Nat}(ok:FnOk C G K){env:Env}{W O:Addr->Prop}{ρ:Rho}{A:Around}(rm:Room A K)(whole:Sem Value){es:List Expr}{xs:List PE}(hs:SEs c es xs): ∀{s:Shared} {b:Bool},dq C c env W O s.heap ρ->At C W s->allP G true xs ρ=some b->SndB C A s (isTrue (.BoolOp .And es pos) env whole) b:=by
 induction hs with
 |nil=>intro s b ev at' h Q E q;simp only [pE]at h;replace h:=oj h;subst h;exact isTrue_and_nil (q s (.refl s))
 |cons h _ ih=>
  intro s b ev at' hp Q E q;refine aN (bind_some hp) λw h1 hp=>?_
  refine isTrue_and (h.tst ok ev at' rm h1 _ _ λs₁ e₁=>?_);cases w with
  |true=>exact ih (ev.ext e₁.toExt0) (at'.ext e₁) hp _ _ λs_2 e_2=>q s_2 (e₁.trans e_2)
  |false=>replace hp:=oj hp;subst hp;exact q s₁ e₁
theorem z94{C:CX}{G:GT}{K:Nat}(ok:FnOk C G K){env:Env}{W O:Addr->Prop}{ρ:Rho}{A:Around}(rm:Room A K)(whole:Sem Value){es:List Expr}{xs:List PE}(hs:SEs c es xs): ∀{s:Shared} {b:Bool},dq C c env W O s.heap ρ->At C W s->allP G false xs ρ=some b->SndB C A s (isTrue (.BoolOp .Or es pos) env whole) b:=by
 induction hs with
 |nil=>intro s b ev at' h Q E q;simp only [pE]at h;replace h:=oj h;subst h;exact isTrue_or_nil (q s (.refl s))
 |cons h _ ih=>
  intro s b ev at' hp Q E q;refine aN (bind_some hp) λw h1 hp=>?_
  refine isTrue_or (h.tst ok ev at' rm h1 _ _ λs₁ e₁=>?_);cases w with
  |false=>exact ih (ev.ext e₁.toExt0) (at'.ext e₁) hp _ _ λs_2 e_2=>q s_2 (e₁.trans e_2)
  |true=>replace hp:=oj hp;subst hp;exact q s₁ e₁
theorem z95(hs:SEs c es xs):SE c (.BoolOp .And es pos) (.and xs) where
 v:=λC G K ok env W O s ρ A p ev at' rm h=>by simp only [eE]at h;exact cu h
 ns:=λJ J=>rfl
 t:=λC G K ok env W O s ρ A b ev at' rm h=>z6l ok rm _ hs ev at' (by simpa only [tE] using h)
theorem jcz(hs:SEs c es xs):SE c (.BoolOp .Or es pos) (.or xs) where
 v:=λC G K ok env W O s ρ A p ev at' rm h=>by simp only [eE]at h;exact cu h
 ns:=λJ J=>rfl
 t:=λC G K ok env W O s ρ A b ev at' rm h=>z94 ok rm _ hs ev at' (by simpa only [tE] using h)
theorem z18{C:CX}{G:GT}{K:Nat}(ok:FnOk C G K){W:Addr->Prop}{s:Shared}{A:Around}{op:CmpOp}{x y:PV}{z:Bool}{v u:Value}(e:cmpV op x y=some z)(a:At C W s)(rx:Rep C s.heap W x v)(ry:Rep C s.heap W y u)(rm:Room A K): Snd C A s W (de op v u) (.bool z):=by
 unfold cmpV at e;split at e
 ·rename_i hc;obtain ⟨rfl,hb⟩:=hc;obtain rfl:=z13 hb;obtain ⟨k,rfl,g⟩:=mapI e;induction g;obtain ⟨t,rfl⟩:=ef rx;exact ok.b1 _ (z9t ry) A W s _ t a
 ·exact (z6c e rx ry (by have:=rm.2.2;lia)).up
theorem z5g(ha:SE c a x)(hb:SE c b y)(hm:behindInMarks op b=false): SE c (.Compare a [op] [b] pos) (.cmp op x y):=by
 have key: ∀(C:CX) (G:GT) (K:Nat) (_:FnOk C G K) (env:Env) (W O:Addr->Prop) (s:Shared) (ρ:Rho) (A:Around) (z:Bool),dq C c env W O s.heap ρ->At C W s->Room A K->
   ((be G x ρ).bind λu=>(be G y ρ).bind λw=>cmpV op u w)=some z->
   ∀(Q E:Value->Shared->Prop),(∀s',Ext C s s'->Q (.bool z) s')->
    wpAny (model C.prog C.w) A (eval a env) (λa s₁=>wpAny (model C.prog C.w) A (eval b env) (λb s_2=>wpAny (model C.prog C.w) A (de op a b) Q E s_2) E s₁) E s:=by
  intro C G K ok env W O s ρ A z ev at' rm h Q E q;show let g_:=_;g_;intro g_;refine aN (bind_some h) λu h1 h=>?_
  refine aN (bind_some h) λw h2 h=>?_
  refine ha.val ok ev at' rm h1 _ _ λu' s₁ e₁ r_1=>hb.val ok (ev.ext e₁.toExt0) (at'.ext e₁) rm h2 _ _ λv' s_2 e_2 r_2=>?_
  exact z18 ok h ((at'.ext e₁).ext e_2) (r_1.ext e_2.toExt0) r_2 rm _ _ λv s3 e_3 r_3=>by obtain rfl:=mQ r_3;exact q s3 ((e₁.trans e_2).trans e_3)
 have e1: ∀G ρ,be G (.cmp op x y) ρ=(((be G x ρ).bind λu=>(be G y ρ).bind λw=>cmpV op u w)).map .bool:=λG ρ=>by
  simp only [eE];cases be G x ρ with
  |none=>rfl
  |some u=>cases be G y ρ with
   |none=>rfl
   |some w=>rfl
 exact {
  v:=λC G K ok env W O s ρ A p ev at' rm h Q E q=>by
   rw [e1]at h;show let g_:=_;g_;intro g_;refine aN (gf h) λz h1 h=>?_
   subst h;exact wpAny_Compare1 (key C G K ok env W O s ρ A z ev at' rm h1 _ _ λs' e'=>q _ s' e' gy) hm
  ns:=λJ J=>rfl
  t:=λC G K ok env W O s ρ A p ev at' rm h Q E q=>by rw [(λG ρ=>by simp only [tE]: ∀G ρ,el G (.cmp op x y) ρ=((be G x ρ).bind λu=>(be G y ρ).bind λw=>cmpV op u w))]at h;exact fG (key C G K ok env W O s ρ A p ev at' rm h _ _ λs' e'=>dl (q s' e')) hm}
end
end Mine.Internal
namespace Mine.Internal
open PySem PySem.W PySem.Calls PyProof.Rows PySem.Challenge
set_option backward.match.sparseCases false
section
variable{c:CE}{pos p_1:Pos}{k:Nat}
theorem j8.mono(h:j8 prog w A o i Q E s)(hq: ∀v s',Q v s'->Q' v s'):j8 prog w A o i Q' E s:=by obtain ⟨T,id,h1,h2,h3⟩:=h;exact eg T id h1 h2 (bE h3 hq λJ J e=>e)
theorem j8.up(h: ∀Q E:Value->Shared->Prop,(∀v s',Ext0 C s s'->Rep C s'.heap W z v->Q v s')->j8 C.prog C.w A o i Q E s)(q: ∀v s',Ext C s s'->Rep C s'.heap W z v->Q v s'):j8 C.prog C.w A o i Q E s:=by
 refine ek (h (λv s'=>s.toks<=s'.toks->Q v s') (λv s'=>s.toks<=s'.toks->E v s') λv s' e r ht=>q v s' ⟨e,ht⟩ r) λT id h1 h2 h3=>?_
 exact eg T id h1 h2 (bP (az _) h3)
theorem z96(ha:SE c a x)(hi:SE c i y):SE c (.Subscript a i pos) (.sub x y):=.only (λC G K ok env W O s ρ A p ev at' rm h Q E q=>by
 show let g_:=_;g_;intro g_;refine aN (bind_some h) λu h1 h=>?_
 refine aN (bind_some h) λw h2 h=>?_
 exact pg (ha.val ok ev at' rm h1 _ _ λu' s₁ e₁ r_1=>hi.val ok (ev.ext e₁.toExt0) (at'.ext e₁) rm h2 _ _ λw' s_2 e_2 r_2=>j8.up (λQ E q=>zxe h (r_1.ext e_2.toExt0) r_2 q) λv s3 e_3 r_3=>q v s3 ((e₁.trans e_2).trans e_3) r_3)) (λG ρ=>by simp only [tE]) (λJ J=>rfl)
noncomputable def ma(c:CE):Option Expr->Option PE->Prop
 |none,none=>True
 |some e,some x=>SE c e x
 |_,_=>False
theorem ztg{C:CX}{G:GT}{K:Nat}(ok:FnOk C G K){env:Env}{W O:Addr->Prop}{s:Shared}{ρ:Rho}{A:Around}{o:Option Int}{e:Option Expr}{x:Option PE}(hp:ma c e x)(ev:dq C c env W O s.heap ρ)(a:At C W s)(rm:Room A K)(h:kK G x ρ=some o)(Q E:Value->Shared->Prop)(q: ∀v s',Ext C s s'->IsPart v o->Q v s'):wpAny (model C.prog C.w) A (evalPart e env) Q E s:=by
 cases e with
 |none=>
  cases x with
  |none=>simp only [pE]at h;replace h:=oj h;subst h;rw [evalPart_none];exact am (q _ _ (.refl _) .none)
  |some x=>exact hp.elim
 |some e=>
  cases x with
  |none=>exact hp.elim
  |some x=>
   refine aN (bind_some h) λu h1 h=>?_
   refine aN (mapI h) λk e_ g=>?_
   subst e_;induction g;rw [evalPart_some];exact SE.val hp ok ev a rm h1 _ _ λv s' e' r'=>by obtain ⟨t,rfl⟩:=ef r';exact q _ _ e' (.int _ t)
theorem z19{a:Expr}{lo hi:Option Expr}{x:PE}{l h':Option PE}(ha:SE c a x)(hl:ma c lo l)(hh:ma c hi h'):SE c (.Subscript a (.Slice lo hi none p_1) pos) (.slice x l h'):=.only (λC G K ok env W O s ρ A p ev at' rm h Q E q=>by
 show let g_:=_;g_;intro g_;refine aN (bind_some h) λu h1 h=>?_
 refine aN (bind_some h) λw h2 h=>?_
 refine aN (bind_some h) λw' h3 h=>?_
 refine pg (ha.val ok ev at' rm h1 _ _ λu' s₁ e₁ r_1=>wpAny_Slice (ztg ok hl (ev.ext e₁.toExt0) (at'.ext e₁) rm h2 _ _ λvl s_2 e_2 r_2=>ztg ok hh ((ev.ext e₁.toExt0).ext e_2.toExt0) ((at'.ext e₁).ext e_2) rm h3 _ _ λvu s3 e_3 r_3=>?_));rw [evalPart_none];refine am ?_;have e4:Ext C s3 {s3 with heap:=s3.heap.push {cls:=.type "slice",data:=.fields #[vl,vu,.none]}}:=⟨.push _ _,az _⟩;have e04:=((e₁.trans e_2).trans e_3).trans e4;refine j8.up (λQ E q=>zxf h (at'.ext e04) (((r_1.ext e_2.toExt0).ext e_3.toExt0).ext e4.toExt0) (au _ rfl) r_2 r_3 q) λv s5 e_5 r_5=>q v s5 (e04.trans e_5) r_5) (λG ρ=>by simp only [tE]) (λJ J=>rfl)
theorem zxi(hd:(x==("__debug__" :Str))=false)(hcd:(x==("__classdict__" :Str))=false)(hj:idx c.σ x=some j)(hk:visK c.base j (c.sc.names.lookup x)=true)(hi:SE c i y): SE c (.Subscript (.Name x p_1) i pos) (.subOwn j y):=.only (λC G K ok env W O s ρ A p ev at' rm h Q E q=>by
 show let g_:=_;g_;intro g_;refine aN (bind_some h) λw h2 h=>?_
 refine aN (bind_some h) λsl hr g=>?_
 refine aN (ev.vars x j _ hj hk (nP hr)) λv hv r=>?_
 refine pg (bU (lk ev hcd hv (hi.val ok ev at' rm h2 _ _ λw' s_2 e_2 r_2=>?_)) hd);show let g_:=_;g_;intro g_;induction r with
 |val r=>exact j8.up (λQ E q=>zxe g (r.ext e_2.toExt0) r_2 q) λv s3 e_3 r_3=>q v s3 (e_2.trans e_3) r_3
 | @own xs a vs n ho lo l r z=>
  refine aN (jR (y:=w) g) λk' e_ g'=>?_
  subst e_;obtain ⟨t,rfl⟩:=ef r_2;refine xA (jD g') λhk g=>?_
  simp only [an,decide_eq_true_eq]at hk;have ho:=e_2.new _ _ lo l;refine aN ((r.ext e_2.toExt0).get _ g) λy h1 h2'=>?_
  exact eg ("list") _ slot_list_getitem.lookup (bK _ ho rfl) (wpAny_getItem_list (items:=vs.toArray) ⟨_,ho,rfl,_,rfl⟩ hk.1 (by lia) (by simpa using h1) (q _ _ e_2 h2'))
 | @ownD kvs a vs ho lo l r=>
  refine aN (lA (y:=w) g) λk' e_ g'=>?_
  subst e_;refine aN (gA r_2) λt e_ J=>?_
  subst e_;refine gO l λo e1 e2 ho' hr'=>?_
  have hd':s_2.heap.DictOf (strKind C.prog C.w) a vs:=gz o e1 e2 (e_2.new _ _ lo ho') hr';refine aN (pf (RepD.stay (e_2.toExt0.stay W) _ _ r) g') λv h1 h2'=>?_
  exact (eg ("dict") _ slot_dict_getitem.lookup hd'.typeIs (wpAny_getItem_of (gp _ _ _ _) hd'.mapOf h1 (q _ _ (e_2.trans .tok1) h2')))) (λG ρ=>by simp only [tE]) (λJ J=>rfl)
end
end Mine.Internal
namespace Mine.Internal
open PySem PySem.W PySem.Calls PyProof.Rows PySem.Challenge
theorem pw{M:Model}{A:Around}{E:Value->Shared->Prop}{s:Shared}{pos:Pos}{id:String}{first:List Value}{args:List (Bool×Sem Value)}{Q:Value->Shared->Prop}(hplain:args.any (·.1)=false)(h:wpAny M A (evalArgs (.type id) true args []) (λa s₁=>wpAny M A (call (.type id) (first++a.pos) a.kw) Q E s₁) E s): wpAny M A (callWith pos (.type id) first args []) Q E s:=by refine ab (aX (bE h (λa s₁ h_1=>ab (bf ?_)) λJ J x=>x));rw [hplain];refine ab (am ?_);exact ab (bE h_1 (λr s_2 hr=>ab (aX (wpAny_point (am hr)))) λJ J x=>x)
noncomputable def argd(e:Expr):Bool:=if h:e.ctorIdx=16 then Expr.Call.elim (motive_1:=λJ=>Bool) e h λJ a J J=>!a.isEmpty else false
noncomputable def lj(e:Expr):Bool:=!Nat.beq e.ctorIdx 16||argd e
theorem lp(h:lj o=true):attributeBase o name env whole=whole:=by
 cases o with
 |Call f args _ _=>cases args with
  |nil=>exact ft h
  |cons=>cases f<;>rfl
 |_=>rfl
section
variable{c:CE}{pos p_1:Pos}{k:Nat}
theorem z2a{C:CX}{G:GT}{K:Nat}(ok:FnOk C G K){env:Env}{W O:Addr->Prop}{s:Shared}{ρ:Rho}{A:Around}{p f:PV}{ps:List PV}{x:Str}{args:List Expr}{fe:PE}{xs:List PE}(hf:SE c (.Name x p_1) fe)(hs:SEs c args xs)(ev:dq C c env W O s.heap ρ)(at':At C W s)(rm:Room A K)(h1:be G fe ρ=some f)(h2:gh G xs ρ=some ps)(h:kY G f ps=some p):Snd C A s W (eval (.Call (.Name x p_1) args [] pos) env) p:=λQ E q=>by
 refine bX (hf.val ok ev at' rm h1 _ _ λfv s₁ e₁ r_1=>?_);have hst:=hs.star (pos:=pos) env;have hL:SndL C A s₁ W (spliced (backTo pos (bY args env))) ps:=hs.sndL ok rm (ev.ext e₁.toExt0) (at'.ext e₁) h2;show let g_:=_;g_;intro g_;cases f with
 |fn n=>
  refine mP (ok.fn _ _ _ h) λa o fd g1 g2 g3 g4=>?_
  have hv:fv= .ref a:=by have:C.mg n=some fv:=r_1;rw [g1]at this;replace this:=oj this;subst this;rfl
  subst hv;exact d7 (o:=o) (fd:=fd) (i7 hst (hL _ _ λvs s_2 e_2 r_2=>⟨⟨g3 _ ((at'.ext e₁).ext e_2).inv,g2⟩,
   g4 A W s_2 vs rm ((at'.ext e₁).ext e_2) r_2 _ _ λv s3 e_3 r_3=>q v s3 ((e₁.trans e_2).trans e_3) r_3⟩))
 |bi id=>subst r_1;exact zpm (first:=[]) hst hL (λvs s' e' r'=>by rw [List.nil_append];exact zrk h ((at'.ext e₁).ext e') rm.1 r') _ _ λv s3 e_3 r_3=>q v s3 (e₁.trans e_3) r_3
 |ty n=>obtain rfl:=sv r_1;exact pw hst (i7 hst (hL _ _ λvs s_2 e_2 r_2=>(sO h ((at'.ext e₁).ext e_2) rm.1 r_2).up _ _ λv s3 e_3 r_3=>q v s3 ((e₁.trans e_2).trans e_3) r_3))
 |_=>exact cu h
theorem z6m(hf:SE c (.Name x p_1) fe)(hs:SEs c args xs):SE c (.Call (.Name x p_1) args [] pos) (.call fe xs):=.plain (λC G K ok env W O s ρ A p ev at' rm h=>by
 show let g_:=_;g_;intro g_;refine aN (bind_some h) λf h1 h=>?_
 refine aN (bind_some h) λps h2 h=>?_
 exact z2a ok hf hs ev at' rm h1 h2 h) (λG ρ=>by
  simp only [eE,tE];cases be G fe ρ with
  |none=>rfl
  |some f=>cases gh G xs ρ with
   |none=>rfl
   |some ps=>rfl) (λJ J=>rfl) (λJ J=>rfl)
def MethAt(C:CX)(A:Around)(s:Shared)(W:Addr->Prop)(m:Str)(ov:Value)(ps:List PV)(p:PV):Prop:=
 ∃T id,PlainAttrs T/\PySem.Slot T m id/\typeOf (.builtin id)=pure (.type "method_descriptor")/\s.TypeIs ov T/\(∀a,ov= .ref a-> ∃ob,s.heap.get? a=some ob/\ob.dict=none)/\
  ∀vs s',Ext C s s'->RepL C s'.heap W ps vs->Snd0 C A s' W (call (.builtin id) ([ov]++vs)) p
theorem zmw(at':At C W s)(hz:s'.length<=aM)(g:jY s' m ps=some p):MethAt C A s W m (.str s' t) ps p:=by
 rcases kO g with ⟨hm,g⟩|⟨-,g⟩
 ·have hm:m= "replace" :=dw hm;subst hm;refine d9 (ny g) λy z e_ g1=>?_
  subst e_;refine aN (z54 g1) λy' hy g2=>?_
  refine aN (aA.mp g2) λz' hz' g3=>?_
  obtain rfl:y= .lit y':=hy;refine xA (gP g3) λhm e_=>?_
  subst e_;simp only [an]at hm;refine iX ("str") ("str.replace") eW gx F.type_str_replace (c8 _ _ _) (λa e=>by cases e) (λvs s_2 e_2 r_2=>?_);obtain ⟨v,u,rfl,ry,r_2⟩:=gY r_2;obtain ⟨v',u,rfl,rz,r_2⟩:=gY r_2;obtain rfl:=ir r_2;refine fT (oD ry) λt1 e_ J l1=>?_
  subst e_;have apart: ∃t2,v'= .str z' t2/\t2≠0/\t1≠t2:=by
   show let g_:=_;g_;intro g_;cases z with
   |frs z=>
    obtain rfl:=oj hz';refine n9 (oC rz) λt2 e_ J h0 h1=>?_
    subst e_;exact et t2 rfl h0 (bG (af (C.L.lt l1) h1))
   |_=>exact cu hz'
  refine fT apart λt2 e_ h0 h1=>?_
  subst e_;exact zf8 (C.L.nz l1) h0 h1 hm.1 hm.2 (jd hz)
 rcases kO g with ⟨hm,g⟩|⟨-,g⟩
 ·have hm:m= "count" :=dw hm;show let g_:=_;g_;intro g_;subst hm;refine aN (kT g) λy e_ g1=>?_
  subst e_;refine aN (mapS g1) λy' e_ e_1=>?_
  subst e_ e_1;refine iX ("str") ("str.count") eW F.slot_str_count F.type_str_count (c8 _ _ _) (λa e=>by cases e) (λvs s_2 e_2 r_2=>?_);obtain ⟨v,u,rfl,ry,r_2⟩:=gY r_2;obtain rfl:=ir r_2;exact znt (jd hz) ry
 rcases kO g with ⟨hm,g⟩|⟨-,g⟩
 ·have hm:m= "join" :=dw hm;subst hm;refine aN (kT g) λy e_ g1=>?_
  subst e_;refine aN (kN g1) λy' e_ g2=>?_
  subst e_;refine iX ("str") ("str.join") eW F.slot_str_join F.type_str_join (c8 _ _ _) (λa e=>by cases e) (λvs s_2 e_2 r_2=>?_);obtain ⟨v,u,rfl,ry,r_2⟩:=gY r_2;obtain rfl:=ir r_2;rcases kO g2 with ⟨h0,g2⟩|⟨-,g2⟩
  ·obtain rfl:=eU.mp h0;obtain rfl:=oj g2;exact znv (at'.ext e_2) (jd hz) ry
  ·refine aN (bind_some g2) λys h3 g3=>?_
   refine xA (gP g3) λhz2 e_=>?_
   subst e_;exact zpn h3 hz2 (jd hz) ry
 rcases kO g with ⟨hm,g⟩|⟨-,g⟩
 ·have hm:m= "lower" :=dw hm;subst hm;refine xA (gP g) λh0 e_=>?_
  subst e_;rw [an]at h0;obtain rfl:=eU.mp h0.1;refine iX ("str") ("str.lower") eW F.slot_str_lower F.type_str_lower (c8 _ _ _) (λa e=>by cases e) (λvs s_2 e_2 r_2=>?_);obtain rfl:=ir r_2;exact znu h0.2 (jd hz)
 ·exact cu g
theorem z6n(at':At C W s)(g:methP f m ps=some p)(r_1:Rep C s.heap W f ov):MethAt C A s W m ov ps p:=by
 show let g_:=_;g_;intro g_;cases f with
 |str s'=>
  refine aN (gA r_1) λt e_ hz=>?_
  subst e_;exact zmw at' hz g
 |frs s'=>
  refine fT (oC r_1) λt e_ hz J=>?_
  subst e_;exact zmw at' hz g
 |dict kvs=>
  refine xA (jD g) λhm g=>?_
  have hm:=dw hm;subst hm;refine d9 (ny g) λy d e_ g=>?_
  subst e_;refine aN (mapS g) λk e_ e_1=>?_
  subst e_ e_1;refine lf (oQ r_1) λa l e_ J n hd hr=>?_
  subst e_;refine iX ("dict") ("dict.get") F.plainAttrs_dict F.slot_dict_get F.type_dict_get hd.typeIs hd.mapOf.noDict (λvs s_2 e_2 r_2=>?_);obtain ⟨v,u,rfl,ry,r_2⟩:=gY r_2;obtain ⟨v',u,rfl,rz,r_2⟩:=gY r_2;obtain rfl:=ir r_2;exact zpo (r_1.ext e_2.toExt0) ry rz
 |int i=>
  obtain ⟨t,rfl⟩:=ef r_1;refine xA (gP g) λh0 e_=>?_
  subst e_;rw [an]at h0;have hm:=dw h0.1;subst hm;obtain rfl:=eU.mp h0.2;refine iX ("int") ("int.bit_length") F.plainAttrs_int F.slot_int_bit_length F.type_int_bit_length (gn _ _ _) (λa e=>by cases e) (λvs s_2 e_2 r_2=>?_);obtain rfl:=ir r_2;exact zmb gg
 |_=>exact cu g
theorem z6o(ho:SE c o x)(hs:SEs c args xs)(hb:lj o=true)(hlen:decide (args.length<30)=true)(hline:(p_1.endLine==pos.line)=true): SE c (.Call (.Attribute o m p_1) args [] pos) (.meth x m xs):=.only (λC G K ok env W O s ρ A p ev at' rm h Q E q=>by
 refine aN (bind_some h) λf h1 hA=>?_
 refine aN (bind_some hA) λps h2 hB=>?_
 clear h hA;have h:=hB;clear hB;have hst:=hs.star (pos:=pos) env;refine cQ (lp hb) (by
  have e1:((backTo pos (bY args env)).all λx=>!x.fst)=true:=by rw [List.all_eq_not_any_not];simpa using hst
  rw [e1];exact decide_eq_true (show args.length+0+0<30 from of_decide_eq_true hlen)) hline rfl (ho.val ok ev at' rm h1 _ _ λov s₁ e₁ r_1=>?_)
 have fin: ∀{id:String},(∀vs s',Ext C s₁ s'->RepL C s'.heap W ps vs->Snd0 C A s' W (call (.builtin id) ([ov]++vs)) p)->wpAny (model C.prog C.w) A (callWith pos (.builtin id) [ov] (backTo pos (bY args env)) []) Q E s₁:=λhk=>zpm hst (hs.sndL ok rm (ev.ext e₁.toExt0) (at'.ext e₁) h2) hk _ _ λv s3 e_3 r_3=>q v s3 (e₁.trans e_3) r_3
 show let g_:=_;g_;intro g_;obtain ⟨g⟩|⟨g⟩:(isB3 f=true/\((one ps).bind λa=>(intOf a).bind λk=>if m== "get" then (G.b3get k).map optStr else none)=some p)\/methP f m ps=some p:=by
  cases hb:isB3 f
  ·rw [hb]at h;exact .inr h
  ·rw [hb]at h;exact .inl ⟨rfl,h⟩
 ·obtain ⟨hb3,g⟩:=g;obtain rfl:=z14 hb3;obtain ⟨x1,rfl,g1⟩:=kT g;refine aN (jR g1) λk e_ g2=>?_
  subst e_;refine xA (jD g2) λhm g3=>?_
  refine aN (gf g3) λr h3 e_=>?_
  subst e_;have hm:=dw hm;subst hm;refine jL (ok.b3 _ (z9u r_1)) λd f hd1 hd2 hd3 hd4=>?_
  subst hd1;refine aN (hd4 k r h3) λt ht hz=>?_
  refine iX ("dict") ("dict.get") F.plainAttrs_dict F.slot_dict_get F.type_dict_get ((hd3 _ (at'.ext e₁).inv).typeIs) ((hd3 _ (at'.ext e₁).inv).noDict) ?_;cases hs with
  |nil=>simp only [pE]at h2;cases h2
  |cons ha hr=>
   refine aN (bind_some h2) λu h5 h6=>?_
   refine aN (gf h6) λus h7 h8=>?_
   cases h8;induction hr with
   |cons _ _=>
    show let g_:=_;g_;intro g_;refine aN (bind_some h7) λJ J h9=>?_
    refine aN (gf h9) λJ J h9=>?_
    cases h9
   |nil=>
    rw [ha.ns];refine wpAny_dict_get1 (knd:=intKind C.prog C.w) hd2 (ha.val ok (ev.ext e₁.toExt0) (at'.ext e₁) rm h5 _ _ λv s_2 e_2 r_2=>?_);obtain ⟨t',rfl⟩:=ef r_2;refine eg k f (intKind_is _ _ _ _) (hd3 _ ((at'.ext e₁).ext e_2).inv) ?_;rw [ht];refine q _ _ ((e₁.trans e_2).trans .tok1) ?_;cases r with
    |none=>rfl
    |some y=>exact jd (hz y rfl)
 ·obtain ⟨T,id,k1,k2,k3,k4,k5,hk⟩:=z6n (A:=A) (s:=s₁) (at'.ext e₁) g r_1;exact (iX T id k1 k2 k3 k4 k5 (fin hk))) (λG ρ=>by simp only [tE]) (λJ J=>rfl)
end
end Mine.Internal
namespace Mine.Internal
open PySem PySem.W PySem.Calls PyProof.Rows PySem.Challenge
set_option backward.match.sparseCases false
theorem Stay.grow(keep: ∀b o,C.n₀<=b->h.get? b=some o->h'.get? b=some o)(fresh: ∀b,W' b->W b\/h.get? b=none):Stay C h h' W W':=λb o hb hw e=>⟨keep b o hb e,λhw'=>by rcases fresh b hw' with h1|h1;exact hw h1;rw [e]at h1;cases h1⟩
theorem RepS.grow(keep: ∀b o,C.n₀<=b->h.get? b=some o->h'.get? b=some o)(fresh: ∀b,W' b->W b\/h.get? b=none)(r:RepS C h W O p v):RepS C h' W' O p v:=by
 induction r with
 |val r=>exact .val (Rep.stay (Stay.grow keep fresh) _ _ r)
 |own w lo l r z=>exact .own w lo (keep _ _ lo l) (RepL.stay (Stay.grow keep fresh) _ _ r) z
 |ownD w lo g r=>
  show let g_:=_;g_;intro g_;refine gO g λo e1 e2 ho hr=>?_
  exact .ownD w lo (gz o e1 e2 (keep _ _ lo ho) hr) (RepD.stay (Stay.grow keep fresh) _ _ r)
theorem dq.grow(e:dq C c env W O h ρ)(keep: ∀b o,C.n₀<=b->h.get? b=some o->h'.get? b=some o)(sub: ∀b,W b->W' b)(fresh: ∀b,W' b->W b\/h.get? b=none):dq C c env W' O h' ρ where
 glob:=e.glob
 bui:=e.bui
 kind:=e.kind
 ow:=λb hb=>sub b (e.ow b hb)
 lo:=e.lo
 loc:=e.loc
 ns:=by obtain ⟨m,o,es,ep,ho,r⟩:=e.ns;exact nd m o es ep (keep _ _ (e.lo _ e.loc) ho) r
 names:=e.names
 cells:=λy hy=>by obtain ⟨a,v,h1,h2,o,ho,hd⟩:=e.cells y hy;exact mN a v h1 h2 o (keep _ _ (e.lo _ h2) ho) hd
 cinj:=e.cinj
 top:=e.top
 vars:=λy i sl h1 h2 h3=>by obtain ⟨v,a,b⟩:=e.vars y i sl h1 h2 h3;exact bK v (a.keep keep (e.lo _ e.loc)) (b.grow keep fresh)
 apart:=λy z i j sl tl v h1 h2 k1 k2 h3 h4 h5 h6 h7 h8=>by
  refine aN (e.vars y i sl h1 k1 h3) λu a J=>?_
  refine aN (e.vars z j tl h2 k2 h4) λu' a' J=>?_
  have e1:=h7.fn (a.keep keep (e.lo _ e.loc));have e2:=h8.fn (a'.keep keep (e.lo _ e.loc));subst e1 e2;exact e.apart y z i j sl tl _ h1 h2 k1 k2 h3 h4 h5 h6 a a'
section
variable{c:CE}{pos p_1 p_2 p_3:Pos}{k_1 k_2:Nat}
theorem z6p(ho:SE c o x)(hb:lj o=true)(hline:(p_1.endLine==pos.line)=true): SE c (.Call (.Attribute o ("replace":Str) p_1) [.Constant (.str y) k_1 p_2,.Constant (.str z) k_2 p_3] [] pos) (.repl x y z):=.only (λC G K ok env W O s ρ A p ev at' rm h Q E q=>by
 show let g_:=_;g_;intro g_;refine aN (bind_some h) λf h1 h=>?_
 refine aN (lA h) λx' e_ g=>?_
 subst e_;refine xA (gP g) λhm e_=>?_
 subst e_;simp only [an]at hm;refine cQ (lp hb) (by rfl) hline rfl (ho.val ok ev at' rm h1 _ _ λov s₁ e₁ r_1=>?_);refine aN (gA r_1) λt e_ hz=>?_
 subst e_;refine iX ("str") ("str.replace") eW gx F.type_str_replace (c8 _ _ _) (λa e=>by cases e) ?_;refine dQ rfl (i7 rfl (bq (Constant_str (k:=k_1) (pos:=p_2) (bq (Constant_str (k:=k_2) (pos:=p_3) (bR ?_))))));exact (zf8 (W:=W) (u:=s₁.toks) (u':=s₁.toks+1) (b9 (Nat.lt_of_le_of_lt (bD _) (at'.ext e₁).tok)) (pG _) (bG (fK _)) hm.1 hm.2 (jd hz)).up _ _ λv s3 e_3 r_3=>q v s3 ((e₁.trans (⟨.toks _,by show s₁.toks<=s₁.toks+1+1;lia⟩)).trans e_3) r_3) (λG ρ=>by simp only [tE]) (λJ J=>rfl)
noncomputable def lL(env:Env)(pos:Pos):List Expr->List Expr->List (Sem Value×Sem Value)
 |k::ks,v::vs=>(eval k env,do let x<-eval v env;standAt pos;pure x)::lL env pos ks vs
 |_,_=>[]
theorem zu5(env:Env)(pos:Pos)(k:Expr)(ks:List Expr)(v:Expr)(vs:List Expr):lL env pos (k::ks) (v::vs)=(eval k env,do let x<-eval v env;standAt pos;pure x)::lL env pos ks vs:=rfl
theorem nW(env:Env): ∀{ks vs:List Expr},ks.length=vs.length->(lL env pos ks vs).length=ks.length:=by
 intro ks;induction ks with
 |nil=>intro vs h;cases vs with
  |nil=>rfl
  |cons _ _=>cases h
 |cons k ks ih=>intro vs h;cases vs with
  |nil=>cases h
  |cons v vs=>exact congrArg Nat.succ (ih (Nat.succ.inj h))
theorem rF(env:Env): ∀{ks vs:List Expr},ks.length=vs.length-> (evalEachOpt (ks.map some) env).zip ((evalEach vs env).map λv=>do let x<-v;standAt pos;pure x)=(lL env pos ks vs).map λp=>(some p.1,p.2)
 | [],[],_=>rfl
 |k::ks,v::vs,h=>by simp only [ax,arm_evalEachOpt_cons,arm_evalEach_cons,arm_evalOpt_some,eh,zu5];rw [(rF env (ks:=ks) (vs:=vs) (by simpa using h))]
theorem zic{C:CX}{G:GT}{K:Nat}(ok:FnOk C G K){env:Env}{W O:Addr->Prop}{ρ:Rho}{A:Around}(rm:Room A K): ∀{ks vs:List Expr} {xs ys:List PE} {s:Shared} {kp vp:List PV} {kst:List Str},SEs c ks xs->SEs c vs ys->ks.length=vs.length->dq C c env W O s.heap ρ->At C W s->gh G xs ρ=some kp->m7 kp=some kst->gh G ys ρ=some vp-> ∀(Q:List (Value×Value)->Shared->Prop) (E:Value->Shared->Prop),(∀l s',Ext C s s'->l.length=ks.length->(∃kvs,Carries (strKind C.prog C.w) l kvs/\RepD C s'.heap W (kst.zip vp) kvs)->Q l s')-> wpAny (model C.prog C.w) A (evalPairs (lL env pos ks vs)) Q E s:=by
 intro ks vs xs ys s kp vp kst hk;induction hk generalizing vs ys s kp vp kst with
 |nil=>
  intro hv hl ev at' h1 h2 h3 Q E q;induction hv with
  |cons _ _=>simp at hl
  |nil=>simp only [pE]at h1 h3;replace h1:=oj h1;subst h1;replace h3:=oj h3;subst h3;simp [m7]at h2;subst h2;exact evalPairs_nil (q [] s (.refl s) rfl (bK [] trivial rfl))
 |cons ha hr ih=>
  intro hv hl ev at' h1 h2 h3 Q E q;show let g_:=_;g_;intro g_;induction hv with
  |nil=>simp at hl
  |cons hb hs=>
   refine aN (bind_some h1) λp g1 h1=>?_
   refine aN (gf h1) λps g2 h1=>?_
   refine aN (bind_some h3) λw g3 h3=>?_
   refine aN (gf h3) λws g4 h3=>?_
   subst h1 h3;refine ek (ki h2) λkx kxs hp hps e_=>?_
   subst e_;obtain rfl:=tA hp;refine evalPairs_cons (ha.val ok ev at' rm g1 _ _ λkv s₁ e₁ r_1=>ab (hb.val ok (ev.ext e₁.toExt0) (at'.ext e₁) rm g3 _ _ λvv s_2 e_2 r_2=>ab (bf (am ?_))));refine ih hs (by simpa using hl) ((ev.ext e₁.toExt0).ext e_2.toExt0) ((at'.ext e₁).ext e_2) g2 hps g4 _ _ λl s3 e_3 hlen ⟨kvs,hc,hd⟩=>?_
   refine aN (gA r_1) λt e_ J=>?_
   subst e_;refine q _ s3 ((e₁.trans e_2).trans e_3) (by simp [hlen]) (bK ((kx,vv)::kvs) ⟨gp _ _ _ _,rfl,hc⟩ ?_);exact eg vv kvs rfl (r_2.ext e_3.toExt0) hd
theorem tT(hd:RepD C h W kvs l)(hx:Rep C h W x v):RepD C h W (jM kvs k x) (stored l k v):=by
 have hany: ∀{kvs:List (Str×PV)} {l:List (Str×Value)},RepD C h W kvs l->kvs.any (λkv=>kv.1=k)=l.any (λkv=>kv.1=k):=λ{kvs}=>by
  induction kvs with
  |nil=>intro l hd;obtain rfl:_=_:=hd;rfl
  |cons p r ih=>
   intro l hd;obtain ⟨q,y⟩:=p;refine ek hd λu l' e_ J hr=>?_
   subst e_;simp only [List.any_cons,ih hr]
 unfold jM stored;rw [hany hd];split
 ·rename_i hh;clear hany hh;induction kvs generalizing l with
  |nil=>obtain rfl:_=_:=hd;rfl
  |cons p r ih=>
   obtain ⟨q,y⟩:=p;refine ek hd λu l' e_ hu hr=>?_
   subst e_;by_cases hq:q=k
   ·subst hq;rw [ax,ax,if_pos rfl,if_pos rfl];exact eg v _ rfl hx (ih hr)
   ·rw [ax,ax,if_neg hq,if_neg hq];exact eg u _ rfl hu (ih hr)
 ·rename_i hh;clear hany hh;induction kvs generalizing l with
  |nil=>obtain rfl:_=_:=hd;exact eg v [] rfl hx rfl
  |cons p r ih=>
   obtain ⟨q,y⟩:=p;refine ek hd λu l' e_ hu hr=>?_
   subst e_;exact eg u _ rfl hu (ih hr)
theorem o9: ∀{more:List (Str×PV)} {ml:List (Str×Value)} {kvs:List (Str×PV)} {l:List (Str×Value)},RepD C h W kvs l->RepD C h W more ml->RepD C h W (iF kvs more) (merged l ml):=by
 intro zz;induction zz with
 |nil=>intro J J J h1 h2;obtain rfl:_=_:=h2;exact h1
 |cons zq r ih=>
  obtain ⟨k,x⟩:=zq;intro ml kvs l h1 h2;refine ek h2 λu l' e_ hu hr=>?_
  subst e_;have:=ih (tT (k:=k) h1 hu) hr;exact this
theorem sX(a:At C W s)(hd:d=s.heap.objs.size)(e:Ext C {s with heap:=s.heap.push {cls:=.type "dict",data:=.dict #[]}} s_2)(hD:h'.DictOf (strKind C.prog C.w) d l)(hs:Heap.SameBut d s_2.heap h')(hr:RepD C s_2.heap (λb=>W b\/b=d) kvs l)(hk:s_2.toks<=k): Ext C s {s_2 with heap:=h',toks:=k}/\Rep C h' W (.dict kvs) (.ref d):=by
 subst hd;refine ⟨⟨⟨λb o hb eb=>?_,λhi=>?_,e.gens,e.drawn,e.os⟩,aa e.toks hk⟩,?_⟩
 ·have hne:b≠s.heap.objs.size:=λh=>by rw [h]at eb;exact aW _ (aB eb)
  exact (hs.2 b hne).trans (e.new b o hb (aq _ eb))
 ·have h2:C.Inv s_2.heap:=e.inv (C.keep (λb o J eb=>aq _ eb) hi);exact C.keepBut a.low (λo eo=>by have:=e.new s.heap.objs.size {cls:=.type "dict",data:=.dict #[]} a.low (au _ rfl);rw [this]at eo;replace eo:=oj eo;subst eo;exact j9 (a:="dict") rfl (by decide)) (λb o hb eb=>(hs.2 b hb).trans eb) h2
 ·refine kg _ l rfl a.nw a.low hD (RepD.stay (λb o hb hw eb=>⟨?_,λh=>hw (.inl h)⟩) _ _ hr);exact (hs.2 b (λh=>hw (.inr h))).trans eb
theorem z6q(hk:SEs c ks xs)(hv:SEs c vs ys)(hl:ks.length=vs.length)(h0:ks≠ [])(h15:ks.length<=15):SE c (.Dict (ks.map some) vs pos) (.dict xs ys):=.only (λC G K ok env W O s ρ A p ev at' rm h Q E q=>by
 show let g_:=_;g_;intro g_;refine aN (bind_some h) λkp h1 h=>?_
 refine aN (bind_some h) λvp h2 h=>?_
 refine aN (bind_some h) λkst h3 h=>?_
 refine xA (gP h) λJ e_=>?_
 subst e_;refine wpAny_Dict_pairs (knd:=strKind C.prog C.w) (rF env hl) (λh=>h0 (cK.mp (by rw [<-nW (pos:=pos) env hl,h];rfl))) (by rw [nW env hl];exact h15) ?_;have e1:Ext C s {s with heap:=s.heap.push {cls:=.type "dict",data:=.dict #[]}}:=⟨.push _ _,az _⟩;have hfr:s.heap.get? s.heap.objs.size=none:=by
  cases hh:s.heap.get? s.heap.objs.size with
  |none=>rfl
  |some o=>exact absurd (aB hh) (aW _)
 have ev1:dq C c env (λb=>W b\/b=s.heap.objs.size) O (s.heap.push {cls:=.type "dict",data:=.dict #[]}) ρ:=ev.grow (λb o J eb=>aq _ eb) (λb hb=>.inl hb) (λb hb=>by rcases hb with hb|rfl;exact .inl hb;exact .inr hfr);have at1:At C (λb=>W b\/b=s.heap.objs.size) {s with heap:=s.heap.push {cls:=.type "dict",data:=.dict #[]}}:=⟨(at'.ext e1).inv,λb hb=>by rcases hb with hb|rfl;exact (at'.ext e1).wocc b hb;exact ⟨at'.low,_,au _ rfl⟩,at'.tok⟩;refine zic ok rm hk hv hl ev1 at1 h1 h3 h2 _ _ λl s_2 e_2 _ ⟨kvs,hc,hd⟩=>⟨kvs,hc,?_,λh' hD hs=>?_⟩
 ·refine gO (d5 (knd:=strKind C.prog C.w) s.heap) λo a1 a2 ho hr=>?_
  exact gz o a1 a2 (e_2.new _ _ at'.low ho) hr
 ·refine xA (sX (k:=s_2.toks+l.length) at' rfl e_2 hD hs (o9 (kvs:=[]) (l:=[]) rfl hd) (bb _ _)) λx1 x2=>?_
  exact q _ _ x1 x2) (λG ρ=>by simp only [tE]) (λJ J=>rfl)
theorem zth:SE c (.Dict [] [] pos) (.dict [] []):=.only (λC G K ok env W O s ρ A p ev at' rm h Q E q=>by simp [eE,pE,m7,iF]at h;subst h;rw [arm_eval_Dict];refine ab (bf ?_);show wpAny _ A newDict Q E s;refine fB (T:="dict") ?_;refine q _ _ ⟨.push _ s.toks,az _⟩ ?_;exact (kg _ [] rfl at'.nw at'.low (d5 _) rfl)) (λG ρ=>by simp only [tE]) (λJ J=>rfl)
end
end Mine.Internal
namespace Mine.Internal
open PySem PySem.W PySem.Calls PyProof.Rows PySem.Challenge
section
variable{c:CE}{pos p_1 p_2 p_3 p_4 p_5:Pos}{k_1 k_2:Nat}
theorem zti(e:i4 y=some b)(r:Rep C h W y u): ∃t,u= .str b t/\b.length<=aM:=by
 show let g_:=_;g_;intro g_;cases y with
 |str y=>obtain rfl:=oj e;obtain ⟨t,h,z⟩:=gA r;exact bK t h z
 |lit y=>obtain rfl:=oj e;obtain ⟨t,h,z,J⟩:=oD r;exact bK t h z
 |frs y=>obtain rfl:=oj e;obtain ⟨t,h,z,J⟩:=oC r;exact bK t h z
 |_=>exact cu e
theorem sW(e:lc x i=some z): ∃s c,i4 x=some s/\0<=i/\s.cps[i.toNat]?=some c/\z=⟨#[c]⟩:=by
 refine aN (bind_some e) λs h e=>?_
 refine xA (jD e) λh0 e=>?_
 refine aN (gf e) λc h1 e=>?_
 exact jK s c h h0 h1 e.symm
theorem ztj(e:lc x i=some z)(r:Rep C h W x v)(q:Q (.str z s.toks) {s with toks:=s.toks+1}): j8 C.prog C.w A v (.int i t) Q E s:=by
 show let g_:=_;g_;intro g_;refine jL (sW e) λst c h1 h0 h2 e_=>?_
 subst e_;refine aN (zti h1 r) λt' e_ hz=>?_
 subst e_;have hlt:i.toNat<st.length:=(dg.mp h2).1;have hb:i<16777217:=by rw [av]at hz;lia
 refine eg ("str") _ F.slot_str_getitem.lookup (c8 _ _ _) (u5 (c:=c) (by simp;lia) ?_ q);rw [rt h0 hlt];exact h2
theorem zpq{C:CX}{A:Around}{W:Addr->Prop}{h:Heap}{s:Shared}{f:PV}{st:Str}{a b:Nat}{t t1 t2:Tok}{p:PV}(a':At C W s)(n1:t1≠0)(n2:t2≠0)(ne:t1≠t2)(hyz:((⟨#[a]⟩:Str) !=⟨#[b]⟩)=true)(hz:f0 (st.length+(st.length+1)*1)=true)(g1:i4 f=some st)(r:Rep C s.heap W f (.str st t))(e:(if (cq st ⟨#[a]⟩ 0 st.length (st.length+1)).isEmpty then some f else some (.frs (dE st ⟨#[a]⟩ ⟨#[b]⟩)))=some p): Snd0 C A s W (call (.builtin "str.replace") [.str st t,.str ⟨#[a]⟩ t1,.str ⟨#[b]⟩ t2]) p:=λQ E q=>by
 have hz':=of_decide_eq_true hz;have hl:ga (st.length+(cq st ⟨#[a]⟩ 0 st.length (st.length+1)).length*(⟨#[b]⟩:Str).length)=false:=by have h1:=StrLaws.occ_length_le st ⟨#[a]⟩ 0 st.length (st.length+1);have h2:(⟨#[b]⟩:Str).length=1:=rfl;rw [h2];simp only [ga,av];exact decide_eq_false (by lia)
 have hc:((cq st ⟨#[a]⟩ 0 st.length (st.length+1)).isEmpty||((⟨#[a]⟩:Str).length==0&&(⟨#[b]⟩:Str).length==0))=(cq st ⟨#[a]⟩ 0 st.length (st.length+1)).isEmpty:=rS _;have hg:=PySem.gives_str_replace st ⟨#[a]⟩ ⟨#[b]⟩ t t1 t2 λJ=>⟨by simp [n1,n2],by simp [ne],by simpa [bne] using hyz,hl⟩
 have hR:dE st ⟨#[a]⟩ ⟨#[b]⟩=if (cq st ⟨#[a]⟩ 0 st.length (st.length+1)).isEmpty=true then st else Builtin.Str.glued ⟨#[b]⟩ (Builtin.Str.partsBetween st (cq st ⟨#[a]⟩ 0 st.length (st.length+1)) (⟨#[a]⟩:Str).length):=by unfold dE;rw [hc]
 rw [hc]at hg;refine call_gives gx (c8 _ _ _) F.entry_str_replace (F.args_str_replace_3 _ _ _) hg ?_;cases he:(cq st ⟨#[a]⟩ 0 st.length (st.length+1)).isEmpty with
 |true=>rw [he]at e;obtain rfl:=oj e;rw [if_pos rfl];exact q _ _ (.refl _) r
 |false=>rw [he]at e hR;obtain rfl:=oj e;rw [if_neg bn]at hR⊢;have hfit:=fits_replaced (z:=(⟨#[b]⟩:Str)) ⟨#[a]⟩ hz';rw [hR]at q;exact ⟨hfit,q _ _ .tok1 (k6 _ rfl hfit (b9 (Nat.lt_of_le_of_lt (bD _) a'.tok)) (dF a'.tok))⟩
theorem z2b{o a b:Expr}{x y z:PE}{i j:Int}(ho:SE c o x)(ha:SE c a y)(hb:SE c b z)(hbase:lj o=true)(hline:(p_1.endLine==pos.line)=true): SE c (.Call (.Attribute o ("replace":Str) p_1) [.Subscript a (.Constant (.int i) k_1 p_2) p_3,.Subscript b (.Constant (.int j) k_2 p_4) p_5] [] pos) (.repl2 x y i z j):=.only (λC G K ok env W O s ρ A p ev at' rm h Q E q=>by
 show let g_:=_;g_;intro g_;refine aN (bind_some h) λf h1 h=>?_
 refine aN (bind_some h) λpa h2 h=>?_
 refine aN (bind_some h) λpb h3 h=>?_
 refine aN (bind_some h) λst g1 h=>?_
 refine aN (bind_some h) λya g2 h=>?_
 refine aN (bind_some h) λza g3 h=>?_
 refine xA (jD h) λhm h=>?_
 have hm:=aF.mp hm;refine jL (sW g2) λJ ca J J J e_=>?_
 subst e_;refine jL (sW g3) λJ cb J J J e_=>?_
 subst e_;refine cQ (lp hbase) (by rfl) hline rfl (ho.val ok ev at' rm h1 _ _ λov s₁ e₁ r_1=>?_);refine aN (zti g1 r_1) λt e_ hz=>?_
 subst e_;refine iX ("str") ("str.replace") eW gx F.type_str_replace (c8 _ _ _) (λa e=>by cases e) ?_;have ev_1:=ev.ext e₁.toExt0;have a_1:=at'.ext e₁;refine dQ rfl (i7 rfl (bq (pg (ha.val ok ev_1 a_1 rm h2 _ _ λu_2 s_2 e_2 r_2=>c7 (ztj g2 r_2 (bq (pg ?_)))))));have e12:=e_2.trans (⟨.toks _,bb s_2.toks 2⟩);refine hb.val ok (ev_1.ext e12.toExt0) (a_1.ext e12) rm h3 _ _ λu_3 s3 e_3 r_3=>c7 (ztj g3 r_3 (bR ?_))
 have e13:=(e12.trans e_3).trans (⟨.toks _,bb s3.toks 2⟩);have ht:=e_3.toks;exact (zpq (A:=A) (h:=s3.heap) (a_1.ext e13) (pG _) (pG _) (bG (by show s_2.toks+1<s3.toks+1;lia)) hm.1 hm.2 g1 (r_1.ext e13.toExt0) h).up _ _ λv s4 e_4 r_4=>q v s4 ((e₁.trans e13).trans e_4) r_4) (λG ρ=>by simp only [tE]) (λJ J=>rfl)
end
end Mine.Internal
namespace Mine.Internal
open PySem PySem.W PySem.Calls PyProof.Rows PySem.Challenge
set_option backward.match.sparseCases false
theorem k9: ∀{σ:List Str} {x:Str} {i:Nat},idx σ x=some i->i<σ.length:=by
 intro σ;induction σ with
 |nil=>intro x i h;exact cu h
 |cons y r ih=>
  intro x i h;rw [idxE]at h;by_cases e:(x==y)=true
  ·rw [if_pos e]at h;replace h:=oj h;subst h;exact fK _
  ·rw [if_neg e]at h;exact Nat.lt_succ_of_lt (ih h)
theorem tS: ∀{ns σ:List Str} {x:Str} {i:Nat},idx (ns++σ) x=some i->i<σ.length->idx σ x=some i:=by
 intro ns;induction ns with
 |nil=>intro σ x i h J;exact h
 |cons y ns ih=>
  intro σ x i h hi;rw [dS]at h;rw [idxE]at h;by_cases e:(x==y)=true
  ·rw [if_pos e]at h;replace h:=oj h;subst h;rw [aC]at hi;exact absurd (bj _ _) (Nat.not_le.mpr hi)
  ·rw [if_neg e]at h;exact ih h hi
theorem zmc: ∀{ns σ:List Str} {x:Str},x∉ns->idx (ns++σ) x=idx σ x:=by
 intro ns;induction ns with
 |nil=>intro σ x J;rfl
 |cons y ns ih=>intro σ x h;refine Eq.trans (if_neg (c:=(x==y)=true) λe=>h ?_) (ih λhm=>h (ah _ hm));rw [dw e];exact ag
theorem kc: ∀{σ:List Str} {x y:Str} {i:Nat},idx σ x=some i->idx σ y=some i->x=y:=by
 intro σ;induction σ with
 |nil=>intro x y i h1;exact cu h1
 |cons z r ih=>
  intro x y i h1 h2;rw [idxE]at h1 h2;by_cases e1:(x==z)=true
  ·rw [if_pos e1]at h1;replace h1:=oj h1;subst h1;by_cases e2:(y==z)=true
   ·rw [dw e1,dw e2]
   ·rw [if_neg e2]at h2;exact absurd (k9 h2) (aW _)
  ·rw [if_neg e1]at h1;by_cases e2:(y==z)=true
   ·rw [if_pos e2]at h2;replace h2:=oj h2;subst h2;exact absurd (k9 h1) (aW _)
   ·rw [if_neg e2]at h2;exact ih h1 h2
section
variable{C:CX}{c:CE}{env:Env}{W W' O:Addr->Prop}{h h':Heap}{ρ:Rho}
theorem tG(h:visK b i k=true):k≠none:=λe=>by rw [e]at h;exact ft h
theorem dq.cellO(e:dq C c env W O h ρ)(hx:c.sc.names.lookup x≠none)(k:env.kindOf x=some .cell\/env.kindOf x=some .free)(l:env.cells.lookup x=some a):O a:=by
 have:c.sc.names.lookup x=some .cell\/c.sc.names.lookup x=some .free:=by
  rcases e.names x with h1|⟨h1,J⟩|h1
  ·rw [<-h1];exact k
  ·exact .inr h1
  ·exact absurd h1 hx
 refine ek (e.cells x this) λa' v h1 h2 J=>?_
 rw [l]at h1;replace h1:=oj h1;subst h1;exact h2
theorem dq.varKeep(e:dq C c env W O h ρ)(keep: ∀b o,O b->h.get? b=some o->h'.get? b=some o)(hx:c.sc.names.lookup x≠none)(y:fQ h env C.n₀ x v):fQ h' env C.n₀ x v:=by
 induction y with
 |loc hk n ev=>
  refine gO n λo es ep ho r=>?_
  exact .loc hk (gz o es ep (keep _ _ e.loc ho) r) ev
 |cell hk l lo i=>
  refine aN i λo ho r=>?_
  exact .cell hk l lo (bK o (keep _ _ (e.cellO hx hk l) ho) r)
theorem dq.move(e:dq C c env W O h ρ)(keep: ∀b o,C.n₀<=b->(¬W b\/O b)->h.get? b=some o->h'.get? b=some o)(sub: ∀b,O b->W' b)(fresh: ∀b,W' b->W b\/h.get? b=none):dq C c env W' O h' ρ:=by
 have hO: ∀b o,O b->h.get? b=some o->h'.get? b=some o:=λb o hb=>keep b o (e.lo b hb) (.inr hb)
 have hS:Stay C h h' W W':=λb o hb hw eb=>⟨keep b o hb (.inl hw) eb,λhw'=>by rcases fresh b hw' with h1|h1;exact hw h1;rw [eb]at h1;cases h1⟩
 exact {
  glob:=e.glob
  bui:=e.bui
  kind:=e.kind
  ow:=sub
  lo:=e.lo
  loc:=e.loc
  ns:=by obtain ⟨m,o,es,ep,ho,r⟩:=e.ns;exact nd m o es ep (hO _ _ e.loc ho) r
  names:=e.names
  cells:=λy hy=>by obtain ⟨a,v,h1,h2,o,ho,hd⟩:=e.cells y hy;exact mN a v h1 h2 o (hO _ _ h2 ho) hd
  cinj:=e.cinj
  top:=e.top
  vars:=λy i sl h1 h2 h3=>by
   refine aN (e.vars y i sl h1 h2 h3) λv a b=>?_
   refine bK v (e.varKeep hO (tG h2) a) ?_;induction b with
   |val r=>exact .val (Rep.stay hS _ _ r)
   |own w lo l r z=>exact .own w lo (hO _ _ w.1 l) (RepL.stay hS _ _ r) z
   |ownD w lo g r=>
    show let g_:=_;g_;intro g_;refine gO g λo e1 e2 ho hr=>?_
    exact .ownD w lo (gz o e1 e2 (hO _ _ w.1 ho) hr) (RepD.stay hS _ _ r)
  apart:=λy z i j sl tl v h1 h2 k1 k2 h3 h4 h5 h6 h7 h8=>by
   refine aN (e.vars y i sl h1 k1 h3) λu a J=>?_
   refine aN (e.vars z j tl h2 k2 h4) λu' a' J=>?_
   have e1:=h7.fn (e.varKeep hO (tG k1) a);have e2:=h8.fn (e.varKeep hO (tG k2) a');subst e1 e2;exact e.apart y z i j sl tl _ h1 h2 k1 k2 h3 h4 h5 h6 a a'}
theorem dq.push(e:dq C c env W O h ρ)(ns:List Str):dq C {c with σ:=ns++c.σ} env W O h ρ where
 glob:=e.glob
 bui:=e.bui
 kind:=e.kind
 ow:=e.ow
 lo:=e.lo
 loc:=e.loc
 ns:=e.ns
 names:=e.names
 cells:=e.cells
 cinj:=e.cinj
 top:=λi s hi=>by rw [aC];exact af (e.top i s hi) (bj _ _)
 vars:=λx i s h1 h2 h3=>e.vars x i s (tS h1 (e.top i s h3)) h2 h3
 apart:=λx y i j s t v h1 h2 k1 k2 h3 h4 h5 h6 h7 h8=>e.apart x y i j s t v (tS h1 (e.top i s h3)) (tS h2 (e.top j t h4)) k1 k2 h3 h4 h5 h6 h7 h8
theorem dq.forget{ρ':Rho}{ns:List Str}(e:dq C {c with σ:=ns++c.σ} env W O h ρ')(hns: ∀x∈ns,qd (c.sc.names.lookup x)=true/\c.sc.names.lookup x≠some .free/\ ∀i,idx c.σ x=some i->i<c.base)(hle: ∀(i:Nat) (s:Slot),ρ[i]?=some (some s)->ρ'[i]?=some (some s))(ht: ∀(i:Nat) (s:Slot),ρ[i]?=some (some s)->i<c.σ.length):dq C c env W O h ρ:=by
 have key: ∀x i,idx c.σ x=some i->visK c.base i (c.sc.names.lookup x)=true->idx (ns++c.σ) x=some i:=λx i h1 h2=>by
  by_cases hx:x∈ns
  ·refine jj (hns x hx) λg1 g2 g3=>?_
   have:=g3 i h1;exfalso;revert h2 g1 g2;cases c.sc.names.lookup x with
   |none=>exact λh J J=>ft h
   |some k=>induction k<;>first|exact λh J J=>ft h|exact λJ J h=>h rfl|exact λh J J=>absurd (of_decide_eq_true h) (pK this)
  ·rw [zmc hx];exact h1
 exact {
  glob:=e.glob
  bui:=e.bui
  kind:=e.kind
  ow:=e.ow
  lo:=e.lo
  loc:=e.loc
  ns:=e.ns
  names:=e.names
  cells:=e.cells
  cinj:=e.cinj
  top:=ht
  vars:=λx i s h1 h2 h3=>e.vars x i s (key x i h1 h2) h2 (hle i s h3)
  apart:=λx y i j s t v h1 h2 k1 k2 h3 h4 h5 h6 h7 h8=>e.apart x y i j s t v (key x i h1 k1) (key y j h2 k2) k1 k2 (hle _ _ h3) (hle _ _ h4) h5 h6 h7 h8}
theorem js(h:(setR ρ i s)[j]?=some (some t)):(j=i/\t=s)\/(j≠i/\ρ[j]?=some (some t)):=by
 unfold setR at h;by_cases e:i=j
 ·subst e;rw [List.getElem?_set]at h;simp at h;exact .inl ⟨rfl,h.2.symm⟩
 ·rw [uW e]at h;exact .inr ⟨λe'=>e e'.symm,h⟩
theorem dq.stored(e:dq C c env W O h ρ)(hi:idx c.σ x=some i)(other: ∀y u,y≠x->fQ h env C.n₀ y u->fQ h' env C.n₀ y u)(own:fQ h' env C.n₀ x v)(keep: ∀b o,C.n₀<=b-> ¬W b->h.get? b=some o->h'.get? b=some o)(rest: ∀y s u,y≠x->fQ h env C.n₀ y u->RepS C h W (λb=>O b/\b≠env.locals) s u->RepS C h' W (λb=>O b/\b≠env.locals) s u)(ns: ∃m,h'.Ns env.locals m)(cells: ∀a u,O a->h.IsCell a u-> ∃u',h'.IsCell a u')(r:RepS C h' W (λb=>O b/\b≠env.locals) sl v)(ap:sl.isOwn=true-> ∀y j t,y≠x->idx c.σ y=some j->visK c.base j (c.sc.names.lookup y)=true->ρ[j]?=some (some t)->t.isOwn=true-> ¬fQ h env C.n₀ y v):dq C c env W O h' (setR ρ i sl) where
 glob:=e.glob
 bui:=e.bui
 kind:=e.kind
 ow:=e.ow
 lo:=e.lo
 loc:=e.loc
 ns:=ns
 names:=e.names
 cells:=λy hy=>by obtain ⟨a,u,h1,h2,h3⟩:=e.cells y hy;obtain ⟨u',h4⟩:=cells a u h2 h3;exact eg a u' h1 h2 h4
 cinj:=e.cinj
 top:=λj t hj=>by
  show let g_:=_;g_;intro g_;rcases js hj with ⟨rfl,J⟩|⟨J,hj⟩
  ·exact k9 hi
  ·exact e.top j t hj
 vars:=λy j t h1 h2 h3=>by
  rcases js h3 with ⟨rfl,rfl⟩|⟨hne,h3⟩
  ·have:=kc h1 hi;subst this;exact bK v own r
  ·obtain ⟨u,a,b⟩:=e.vars y j t h1 h2 h3;have hy:y≠x:=λe'=>by subst e';rw [hi]at h1;replace h1:=oj h1;subst h1;exact hne rfl
   exact bK u (other y u hy a) (rest y t u hy a b)
 apart:=λy z j k s t u h1 h2 k1 k2 h3 h4 h5 h6 h7 h8=>by
  rcases js h3 with ⟨rfl,rfl⟩|⟨hne,g3⟩
  ·rcases js h4 with ⟨rfl,rfl⟩|⟨hne',h4⟩
   ·rfl
   ·have:=kc h1 hi;subst this;have hz:z≠y:=λe'=>by subst e';rw [h1]at h2;replace h2:=oj h2;subst h2;exact hne' rfl
    show let g_:=_;g_;intro g_;obtain ⟨w,a,J⟩:=e.vars z k t h2 k2 h4;have e1:=h8.fn (other z w hz a);have e2:=h7.fn own;subst e1 e2;exact absurd a (ap h5 z k t hz h2 k2 h4 h6)
  ·have hy:y≠x:=λe'=>by subst e';rw [hi]at h1;replace h1:=oj h1;subst h1;exact hne rfl
   obtain ⟨w,a,J⟩:=e.vars y j s h1 k1 g3;have e1:=h7.fn (other y w hy a);subst e1;rcases js h4 with ⟨rfl,rfl⟩|⟨hne',h4⟩
   ·have:=kc h2 hi;subst this;have e2:=h8.fn own;subst e2;exact absurd a (ap h6 y j s hy h1 k1 g3 h5)
   ·have hz:z≠x:=λe'=>by subst e';rw [hi]at h2;replace h2:=oj h2;subst h2;exact hne' rfl
    show let g_:=_;g_;intro g_;obtain ⟨w',a',J⟩:=e.vars z k t h2 k2 h4;have e2:=h8.fn (other z w' hz a');subst e2;exact e.apart y z j k s t _ h1 h2 k1 k2 g3 h4 h5 h6 a a'
structure ExtO(C:CX)(O:Addr->Prop)(s s':Shared):Prop where
 new: ∀b o,C.n₀<=b-> ¬O b->s.heap.get? b=some o->s'.heap.get? b=some o
 occ: ∀b o,C.n₀<=b->s.heap.get? b=some o-> ∃o',s'.heap.get? b=some o'
 inv:C.Inv s.heap->C.Inv s'.heap
 gens:s'.gens=s.gens
 drawn:s'.drawn=s.drawn
 os:s'.os=s.os
 toks:s.toks<=s'.toks
theorem Ext.toO(x:Ext C s s'):ExtO C O s s':=⟨λb o hb J e=>x.new b o hb e,λb o hb e=>⟨o,x.new b o hb e⟩,x.inv,x.gens,x.drawn,x.os,x.toks⟩
theorem ExtO.trans(x:ExtO C O s s')(y:ExtO C O s' s''):ExtO C O s s'':=⟨λb o hb ho e=>y.new b o hb ho (x.new b o hb ho e),λb o hb e=>by obtain ⟨o',e'⟩:=x.occ b o hb e;exact y.occ b o' hb e',λh=>y.inv (x.inv h),y.gens.trans x.gens,y.drawn.trans x.drawn,y.os.trans x.os,aa x.toks y.toks⟩
theorem ExtO.mono(x:ExtO C O s s')(hO: ∀b,O b->O' b):ExtO C O' s s':=⟨λb o hb ho e=>x.new b o hb (λh=>ho (hO b h)) e,x.occ,x.inv,x.gens,x.drawn,x.os,x.toks⟩
theorem At.extO(a:At C W s)(x:ExtO C O s s'):At C W s':=⟨x.inv a.inv,λb h=>by obtain ⟨lo,o,e⟩:=a.wocc b h;exact ⟨lo,x.occ b o lo e⟩,af a.tok x.toks⟩
theorem ExtO.sameBut(hs:Heap.SameBut a s.heap h')(hO:O a)(lo:C.n₀<=a)(occ: ∃o',h'.get? a=some o')(nc: ∀o,s.heap.get? a=some o-> ¬i0 o)(hk:s.toks<=k):ExtO C O s {s with heap:=h',toks:=k} where
 new:=λb o hb ho e=>(hs.2 b λh=>ho (h▸hO)).trans e
 occ:=λb o hb e=>by
  by_cases h:b=a
  ·subst h;exact occ
  ·exact ⟨o,(hs.2 b h).trans e⟩
 inv:=C.keepBut lo nc λb o hb e=>(hs.2 b hb).trans e
 gens:=rfl
 drawn:=rfl
 os:=rfl
 toks:=hk
theorem rh(x:h.Ns a m)(y:h.IsCell b v):a≠b:=λe=>by
 subst e;refine ql x λo es ep ho hd J=>?_
 refine aN y λo' ho' hd'=>?_
 rw [ho]at ho';replace ho':=oj ho';subst ho';rw [hd]at hd';cases hd'
theorem ur(x:h.get? a=some (ff vs n))(y:h.IsCell b v):a≠b:=λe=>by
 subst e;refine aN y λo ho hd=>?_
 rw [x]at ho;replace ho:=oj ho;subst ho;cases hd
theorem uj(x:h.DictOf (strKind C.prog C.w) a l)(y:h.IsCell b v):a≠b:=λe=>by
 subst e;refine aN y λo ho hd=>?_
 refine mP x λo' e1 e2 ho' J hd' J=>?_
 rw [ho]at ho';replace ho':=oj ho';subst ho';rw [hd]at hd';cases hd'
def OWr(c:CE)(env:Env)(b:Addr):Prop:=b=env.locals\/ ∃x,c.sc.names.lookup x=some .cell/\env.cells.lookup x=some b
theorem dq.owr(e:dq C c env W O h ρ)(hb:OWr c env b):O b:=by
 rcases hb with rfl|⟨x,h1,h2⟩
 ·exact e.loc
 ·refine ek (e.cells x (.inl h1)) λa v g1 g2 J=>?_
  rw [h2]at g1;replace g1:=oj g1;subst g1;exact g2
theorem zj1(e:dq C c env W O s.heap ρ)(hi:idx c.σ x=some i)(hk:c.sc.names.lookup x=some .local\/c.sc.names.lookup x=some .cell)(r:RepS C s.heap W (λb=>O b/\b≠env.locals) sl v)(ap:sl.isOwn=true-> ∀y j t,y≠x->idx c.σ y=some j->visK c.base j (c.sc.names.lookup y)=true->ρ[j]?=some (some t)->t.isOwn=true-> ¬fQ s.heap env C.n₀ y v)(q: ∀s',ExtO C (OWr c env) s s'->dq C c env W O s'.heap (setR ρ i sl)->fQ s'.heap env C.n₀ x v->Q () s'):wpAny M A (storeName env x v) Q E s:=by
 show let g_:=_;g_;intro g_;obtain ⟨m,hn⟩:=e.ns;have hp:(env.scope.kind== .class||(env.scope.kind== .module&&env.locals !=env.globals))=false:=by rw [e.kind];rfl
 have repKeep: ∀{h':Heap} {a_0:Addr} {y:Slot} {u:Value},Heap.SameBut a_0 s.heap h'->O a_0->(∀a vs n,s.heap.get? a=some (ff vs n)->a≠env.locals->a≠a_0)->
   (∀a l,s.heap.DictOf (strKind C.prog C.w) a l->a≠env.locals->a≠a_0)->RepS C s.heap W (λb=>O b/\b≠env.locals) y u->RepS C h' W (λb=>O b/\b≠env.locals) y u:=λ{h' a_0 y u} hs hO h1 h2 hr=>by
  have hS:Stay C s.heap h' W W:=λb o hb hw eb=>⟨(hs.2 b λh=>hw (e.ow _ (h▸hO))).trans eb,hw⟩
  induction hr with
  |val r=>exact .val (Rep.stay hS _ _ r)
  |own w lo l r z=>exact .own w lo ((hs.2 _ (h1 _ _ _ l w.2)).trans l) (RepL.stay hS _ _ r) z
  |ownD w lo g r=>
   refine gO g λo e1 e2 ho hr=>?_
   exact .ownD w lo (gz o e1 e2 ((hs.2 _ (h2 _ _ g w.2)).trans ho) hr) (RepD.stay hS _ _ r)
 rcases hk with hk|hk
 ·have k:env.kindOf x=some .local:=by
   rcases e.names x with h|⟨h,J⟩|h
   ·exact h.trans hk
   ·rw [hk]at h;cases h
   ·rw [hk]at h;cases h
  refine eB k hn (λh' hn' hs=>?_) hp;have rk: ∀{y u},RepS C s.heap W (λb=>O b/\b≠env.locals) y u->RepS C h' W (λb=>O b/\b≠env.locals) y u:=λhr=>repKeep hs e.loc (λJ J J J h=>h) (λJ J J h=>h) hr
  refine q _ (.sameBut hs (.inl rfl) (e.lo _ e.loc) (by obtain ⟨o,J,J,ho,J⟩:=hn';exact ⟨o,ho⟩) (λo eo=>z9s hn eo) (kG _)) (e.stored (v:=v) hi ?_ (.loc k hn' (by simp)) ?_ (λy t u hy J hr=>rk hr) ⟨_,hn'⟩ ?_ (rk r) ap) (.loc k hn' (by simp))
  ·intro y u hy hv;induction hv with
   |loc k' n' e'=>have:=z5f hn n';subst this;exact .loc k' hn' (by simp [hy,e'])
   |cell k' l lo i'=>
    refine aN i' λo ho hd=>?_
    exact .cell k' l lo (bK o ((hs.2 _ (dh (rh hn (bK o ho hd)))).trans ho) hd)
  ·intro b o hb hw eb;exact (hs.2 b λh=>hw (e.ow _ (h▸e.loc))).trans eb
  ·intro a u J ⟨o,ho,hd⟩;exact eM u o ((hs.2 _ (dh (rh hn (bK o ho hd)))).trans ho) hd
 ·have k:env.kindOf x=some .cell:=by
   rcases e.names x with h|⟨h,J⟩|h
   ·exact h.trans hk
   ·rw [hk]at h;cases h
   ·rw [hk]at h;cases h
  refine ek (e.cells x (.inl hk)) λa u0 g1 g2 g3=>?_
  refine wpAny_storeName_cell e.kind k g1 g3 λh' hc hs=>?_
  have rk: ∀{y u},RepS C s.heap W (λb=>O b/\b≠env.locals) y u->RepS C h' W (λb=>O b/\b≠env.locals) y u:=λhr=>repKeep hs g2 (λJ J J h J=>ur h g3) (λJ J h J=>uj h g3) hr
  refine q _ (.sameBut hs (.inr (bK x hk g1)) (e.lo _ g2) (by obtain ⟨o,ho,J⟩:=hc;exact ⟨o,ho⟩) (λo eo=>z58 g3 eo) (az _)) (e.stored (v:=v) hi ?_ (.cell (.inl k) g1 (e.lo _ g2) hc) ?_ (λy t u hy J hr=>rk hr) ?_ ?_ (rk r) ap) (.cell (.inl k) g1 (e.lo _ g2) hc)
  ·intro y u hy hv;induction hv with
   |loc k' n' e'=>
    refine gO n' λo es ep ho rr=>?_
    exact .loc k' (gz o es ep ((hs.2 _ (rh (gz o es ep ho rr) g3)).trans ho) rr) e'
   |cell k' l lo i'=>
    refine aN i' λo ho hd=>?_
    exact .cell k' l lo (bK o ((hs.2 _ ((λhl h=>by subst h;exact hy (e.cinj _ _ _ hl g1)) l)).trans ho) hd)
  ·intro b o hb hw eb;exact (hs.2 b λh=>hw (e.ow _ (h▸g2))).trans eb
  ·refine gO hn λo es ep ho rr=>?_
   exact nd m o es ep ((hs.2 _ (rh (gz o es ep ho rr) g3)).trans ho) rr
  ·intro b u J ⟨o,ho,hd⟩;by_cases hb:b=a
   ·subst hb;exact ⟨_,hc⟩
   ·exact eM u o ((hs.2 _ hb).trans ho) hd
theorem lm(e:dq C c env W O s.heap ρ)(hi:idx c.σ x=some i)(hk:c.sc.names.lookup x=some .local\/c.sc.names.lookup x=some .cell)(r:RepS C s.heap W (λb=>O b/\b≠env.locals) sl v)(ap:sl.isOwn=true-> ∀y j t,y≠x->idx c.σ y=some j->visK c.base j (c.sc.names.lookup y)=true->ρ[j]?=some (some t)->t.isOwn=true-> ¬fQ s.heap env C.n₀ y v)(q: ∀s',ExtO C (OWr c env) s s'->dq C c env W O s'.heap (setR ρ i sl)->Q () s'):wpAny M A (storeName env x v) Q E s:=zj1 e hi hk r ap λs' h1 h2 J=>q s' h1 h2
end
end Mine.Internal
namespace Mine.Internal
open PySem PySem.W PySem.Calls PyProof.Rows PySem.Challenge
inductive Src(C:CX)(A:Around)(W:Addr->Prop)(h:Heap)(I:Addr):Bool->List Addr->List Addr->List PV->(Nat->Heap->Prop)->Prop
 |one {fp wr:List Addr} {n:Nat} {P:Nat->Value->Prop} {St:Nat->Heap->Prop} {items:List PV} (w:Walks C.prog C.w A I fp wr n P St) (hn:n=items.length) (live: ∀i h,St i h-> ∀b∈wr,∃o,h.get? b=some o/\ ¬i0 o)
   (rep: ∀i v,i<n->P i v-> ∃x,items[i]?=some x/\Rep C h W x v):Src C A W h I true fp wr items St
 |many {fp wr:List Addr} {n:Nat} {Pt:Nat->Array Value->Prop} {St:Nat->Heap->Prop} {Mid:Nat->Addr->Heap->Prop} {items:List PV} (w:WalksU C.prog C.w A I fp wr n Pt St Mid) (hn:n=items.length) (live: ∀i h,St i h-> ∀b∈wr,∃o,h.get? b=some o/\ ¬i0 o)
   (rep: ∀i vals,i<n->Pt i vals-> ∃ps,items[i]?=some (.tuple ps)/\RepL C h W ps vals.toList):Src C A W h I false fp wr items St
section
variable{C:CX}{A:Around}{W W' O:Addr->Prop}{h h':Heap}{I:Addr}{single:Bool}{fp wr:List Addr}{items:List PV}{St:Nat->Heap->Prop}
theorem Src.stay(x:Src C A W h I single fp wr items St)(k:Stay C h h' W W'):Src C A W' h' I single fp wr items St:=by
 induction x with
 |one w hn live rep=>exact .one w hn live λi v hi hp=>by obtain ⟨y,h1,h2⟩:=rep i v hi hp;exact bK y h1 (Rep.stay k _ _ h2)
 |many w hn live rep=>exact .many w hn live λi v hi hp=>by obtain ⟨y,h1,h2⟩:=rep i v hi hp;exact bK y h1 (RepL.stay k _ _ h2)
theorem Src.frame(x:Src C A W h I single fp wr items St)(st:St i h_1)(k: ∀b∈fp,∀o,h_1.get? b=some o->h_2.get? b=some o):St i h_2:=by
 induction x with
 |one w hn live rep=>exact w.frame _ _ _ st k
 |many w hn live rep=>exact w.frame _ _ _ st k
theorem Src.sub(x:Src C A W h I single fp wr items St): ∀b∈wr,b∈fp:=by
 induction x with
 |one w hn live rep=>exact w.sub
 |many w hn live rep=>exact w.sub
theorem Src.self(x:Src C A W h I single fp wr items St)(st:St i s.heap)(q:Q (.ref I) s):wpAny (model C.prog C.w) A (pyIter (.ref I)) Q E s:=by
 induction x with
 |one w hn live rep=>exact w.self i s Q E st q
 |many w hn live rep=>exact w.self i s Q E st q
theorem Src.live'(x:Src C A W h I single fp wr items St)(st:St i h_1): ∀b∈wr,∃o,h_1.get? b=some o/\ ¬i0 o:=by
 induction x with
 |one w hn live rep=>exact live _ _ st
 |many w hn live rep=>exact live _ _ st
theorem Src.live(x:Src C A W h I single fp wr items St)(st:St i h_1): ∀b∈wr,∃o,h_1.get? b=some o:=λb hb=>by obtain ⟨o,e,J⟩:=x.live' st b hb;exact ⟨o,e⟩
theorem Src.low(x:Src C A W h I single fp wr items St)(st:St i h_1)(lo: ∀b∈fp,C.n₀<=b)(hb:b<C.n₀\/i0 o)(e:h_1.get? b=some o):b∉wr:=λhm=>by
 rcases hb with hb|hb
 ·exact aW _ (af hb (lo b (x.sub b hm)))
 ·refine aN (x.live' st b hm) λo' e' hc=>?_
  rw [e]at e';replace e':=oj e';subst e';exact hc hb
structure ExtN(C:CX)(O N:Addr->Prop)(s s':Shared):Prop where
 new: ∀b o,C.n₀<=b-> ¬O b-> ¬N b->s.heap.get? b=some o->s'.heap.get? b=some o
 occ: ∀b o,C.n₀<=b-> ¬N b->s.heap.get? b=some o-> ∃o',s'.heap.get? b=some o'
 inv:C.Inv s.heap->C.Inv s'.heap
 gens:s'.gens=s.gens
 drawn:s'.drawn=s.drawn
 os:s'.os=s.os
 toks:s.toks<=s'.toks
theorem ExtO.toN(x:ExtO C O s s'):ExtN C O N s s':=⟨λb o h1 h2 J e=>x.new b o h1 h2 e,λb o h1 J e=>x.occ b o h1 e,x.inv,x.gens,x.drawn,x.os,x.toks⟩
theorem ExtN.trans(x:ExtN C O N s s')(y:ExtN C O N s' s''):ExtN C O N s s'':=⟨λb o h1 h2 h3 e=>y.new b o h1 h2 h3 (x.new b o h1 h2 h3 e),λb o h1 h3 e=>by obtain ⟨o',e'⟩:=x.occ b o h1 h3 e;exact y.occ b o' h1 h3 e',λh=>y.inv (x.inv h),y.gens.trans x.gens,y.drawn.trans x.drawn,y.os.trans x.os,aa x.toks y.toks⟩
theorem ExtN.mono(x:ExtN C O N s s')(h1: ∀b,O b->O' b)(h2: ∀b,N b->N' b):ExtN C O' N' s s':=⟨λb o a1 a2 a3 e=>x.new b o a1 (λh=>a2 (h1 b h)) (λh=>a3 (h2 b h)) e,λb o a1 a3 e=>x.occ b o a1 (λh=>a3 (h2 b h)) e,x.inv,x.gens,x.drawn,x.os,x.toks⟩
theorem ExtN.drop(x:ExtO C O s s₁)(y:ExtN C O N s₁ s_2)(hN: ∀b,N b->s.heap.get? b=none):ExtO C O s s_2:=
 ⟨λb o h1 h2 e=>y.new b o h1 h2 (λhn=>by rw [hN b hn]at e;exact cu e) (x.new b o h1 h2 e),
  λb o h1 e=>by obtain ⟨o',e'⟩:=x.occ b o h1 e;exact y.occ b o' h1 (λhn=>by rw [hN b hn]at e;exact cu e) e',λh=>y.inv (x.inv h),y.gens.trans x.gens,y.drawn.trans x.drawn,y.os.trans x.os,aa x.toks y.toks⟩
structure SrcAt(C:CX)(W O:Addr->Prop)(h:Heap)(fp wr:List Addr):Prop where
 w: ∀b∈wr,W b/\ ¬O b
 f: ∀b∈fp,C.n₀<=b/\(b∈wr\/ ¬W b)
inductive i6:List Expr->List Str->Prop
 |nil:i6 [] []
 |cons {x:Str} {p:Pos} {es:List Expr} {xs:List Str}:i6 es xs->i6 (.Name x p::es) (x::xs)
inductive ly:Expr->List Str->Bool->Prop
 |one {x:Str} {p:Pos}:ly (.Name x p) [x] true
 |many {es:List Expr} {xs:List Str} {k:Nat} {p:Pos}:i6 es xs->ly (.Tuple es k p) xs false
inductive Places(c:CE):List Str->List Nat->Prop
 |nil:Places c [] []
 |cons {x:Str} {i:Nat} {xs:List Str} {is:List Nat}:idx c.σ x=some i->(c.sc.names.lookup x=some .local\/c.sc.names.lookup x=some .cell)->Places c xs is->Places c (x::xs) (i::is)
variable{c:CE}{env:Env}{ρ ρ':Rho}{s:Shared}
theorem ExtO.stay(x:ExtO C O s s')(hO: ∀b,O b->W b):Stay C s.heap s'.heap W W:=λb o hb hw e=>⟨x.new b o hb (λh=>hw (hO b h)) e,hw⟩
theorem i6.star(h:i6 es xs)(env:Env):(dU es env).length=xs.length/\(dU es env).findIdx? (·.1)=none:=by
 induction h with
 |nil=>exact ⟨rfl,rfl⟩
 |cons _ ih=>
  refine ⟨?_,?_⟩
  ·show ((false,_)::dU _ env).length=_;simp [ih.1]
  ·show ((false,_)::dU _ env).findIdx? (·.1)=none;rw [List.findIdx?_cons];simp [ih.2]
theorem o8(hn:i6 es xs): ∀{ts:List Nat} {ps:List PV} {vals:List Value} {s:Shared} {ρ ρ':Rho} {Q:Unit->Shared->Prop},Places c xs ts->dq C c env W O s.heap ρ-> RepL C s.heap W ps vals->gZ ts ps ρ=some ρ'->(∀s',ExtO C (OWr c env) s s'->dq C c env W O s'.heap ρ'->Q () s')->wpAny (model C.prog C.w) A (assignInOrder ((dU es env).map (·.2)) vals) Q E s:=by
 induction hn with
 |nil=>
  intro ts ps vals s ρ ρ' Q hp ev hr hb q;cases hp;induction ps with
  |nil=>replace hb:=oj hb;subst hb;obtain rfl:=ir hr;exact am (q s (Ext.refl s).toO ev)
  |cons _ _=>exact cu hb
 |cons h ih=>
  intro ts ps vals s ρ ρ' Q hp ev hr hb q;show let g_:=_;g_;intro g_;cases hp with
  |cons hi hk hrest=>
   cases ps with
   |nil=>exact cu hb
   |cons p ps=>
    refine ek (gY hr) λv u e_ hv hu=>?_
    subst e_;refine ab (aX (wpAny_assign_Name (lm ev hi hk (.val hv) (λh=>by exact ft h) λs₁ e₁ ev_1=>?_)));exact ih hrest ev_1 (RepL.stay (e₁.stay λb hb=>ev.ow b (ev.owr hb)) _ _ hu) hb λs_2 e_2 ev2=>q s_2 (e₁.trans e_2) ev2
theorem oY(hp:Places c xs ts): ∀{ps:List PV} {ρ ρ':Rho},gZ ts ps ρ=some ρ'->xs.length=ps.length:=by
 induction hp with
 |nil=>intro ps ρ ρ' h;induction ps with
  |nil=>rfl
  |cons _ _=>exact cu h
 |cons _ _ _ ih=>intro ps ρ ρ' h;induction ps with
  |nil=>exact cu h
  |cons p ps=>simp [ih h]
theorem zpr{E:Value->Shared->Prop}{tgt:Expr}{xs:List Str}{ts:List Nat}{i:Nat}{x:PV}{Q:Shared->Prop}(hh:A.handled=none)(src:Src C A W s.heap I single fp wr items St)(sa:SrcAt C W O s.heap fp wr)(ev:dq C c env W O s.heap ρ)(at':At C W s)(st:St i s.heap)(hx:items[i]?=some x)(ht:ly tgt xs single)(hp:Places c xs ts)(hb:hK ts single x ρ=some ρ')(q: ∀s',ExtN C (OWr c env) (· ∈wr) s s'->dq C c env W O s'.heap ρ'->St (i+1) s'.heap->Q s'): wpAny (model C.prog C.w) A (pyNext (.ref I)) (λr s₁=>match r with
   |none=>False
   |some v=>wpAny (model C.prog C.w) A (d0 tgt (.ref I) v) (λJ s_2=>wpAny (model C.prog C.w) A (assign tgt env v) (λJ s3=>Q s3) E s_2) E s₁) E s:=by
 show let z_:=_;let y_:=_;wpAny _ _ _ z_ y_ _;intro z_ y_;have hi:=(bO.mp hx).1;have moved: ∀{h':Heap} {k:Nat},s.toks<=k->(∀b o,b∉wr->s.heap.get? b=some o->h'.get? b=some o)->ExtN C (OWr c env) (· ∈wr) s {s with heap:=h',toks:=k}:=λ{h' k} hk hkeep=>⟨λb o J J hn e=>hkeep b o hn e,λb o J hn e=>⟨o,hkeep b o hn e⟩,C.keep λb o hb e=>hkeep b o (src.low st (λb hb=>(sa.f b hb).1) hb e) e,rfl,rfl,rfl,hk⟩
 have evm: ∀{h':Heap},(∀b o,b∉wr->s.heap.get? b=some o->h'.get? b=some o)->dq C c env W O h' ρ:=λ{h'} hkeep=>ev.move (λb o J hb e=>hkeep b o (λhm=>by rcases hb with hb|hb;exact hb (sa.w b hm).1;exact (sa.w b hm).2 hb) e) ev.ow λb hb=>.inl hb
 have stm: ∀{h':Heap},(∀b o,b∉wr->s.heap.get? b=some o->h'.get? b=some o)->Stay C s.heap h' W W:=λ{h'} hkeep b o _ hw e=>⟨hkeep b o (λhm=>hw (sa.w b hm).1) e,hw⟩
 have fpO: ∀b∈fp,¬O b:=λb hb ho=>by
  rcases (sa.f b hb).2 with h1|h1
  ·exact (sa.w b h1).2 ho
  ·exact h1 (ev.ow b ho)
 show let g_:=_;g_;intro g_;cases src with
 |one w hn live rep=>
  cases ht with
  | @one y px=>
   cases hp with
   |cons hi' hk hrest=>
    cases hrest;replace hb:=oj hb;subst hb;refine bP (az s.toks) (w.item i s _ _ (hn▸hi) st λv h' tk hPv st' hkeep htk=>?_);show let g_:=_;g_;intro g_;refine aN (rep i v (hn▸hi) hPv) λx' hx' hr=>?_
    rw [hx]at hx';replace hx':=oj hx';subst hx';refine am (wpAny_assign_Name (lm (evm hkeep) hi' hk (.val (Rep.stay (stm hkeep) _ _ hr)) (λh=>by exact ft h) λs3 e_3 ev3=>?_));refine q s3 ((moved htk hkeep).trans e_3.toN) ev3 (w.frame _ _ _ st' λb hb' o e=>e_3.new b o (sa.f b hb').1 (λh=>fpO b hb' (ev.owr h)) e)
 |many w hn live rep=>
  cases ht with
  | @many es _ k px hnames=>
   refine bP (az s.toks) (w.item i s _ _ (hn▸hi) st λT vals h' tk hPv hT hM hkeep htk=>?_);show let g_:=_;g_;intro g_;refine aN (rep i vals (hn▸hi) hPv) λps hx' hr=>?_
   rw [hx]at hx';replace hx':=oj hx';subst hx';refine w.go es k px i T _ _ _ hM λh'' st'' hkeep'=>?_
   have hT':h''.IsTuple T vals:=by
    refine aN hT λo ho r=>?_
    exact bK o (hkeep' T o (w.apart _ _ _ hM) ho) r
   have hlen:(dU es env).length=vals.size:=by rw [(hnames.star env).1,(oY hp hb),<-hr.length];simp
   refine gm hh hT' hlen (hnames.star env).2 λh_3 hx_3=>?_
   have hkeep3: ∀b o,b∉wr->s.heap.get? b=some o->h_3.get? b=some o:=λb o hb' e=>by have e2:=hkeep' b o hb' (hkeep b o hb' e);exact hx_3 b o (λh=>by subst h;exact aW _ (aB e2)) e2
   have st3:=w.frame _ _ _ st'' λb hb' o e=>hx_3 b o (λh=>by subst h;exact aW _ (aB e)) e
   refine o8 hnames hp (evm hkeep3) (RepL.stay (stm hkeep3) _ _ hr) hb λs4 e_4 ev4=>?_
   refine q s4 ((moved htk hkeep3).trans e_4.toN) ev4 (w.frame _ _ _ st3 λb hb' o e=>e_4.new b o (sa.f b hb').1 (λh=>fpO b hb' (ev.owr h)) e)
end
def SIv(c:CE)(e:Expr)(x:PI)(single:Bool):Prop:=∀(C:CX) (G:GT) (K:Nat) (_:FnOk C G K) (env:Env) (W O:Addr->Prop) (s:Shared) (ρ:Rho) (A:Around) (items:List PV),dq C c env W O s.heap ρ->At C W s->Room A K->
  iS G x ρ=some items->(single||items.all isTup)=true-> ∀(Q:Value->Shared->Prop) (E:Value->Shared->Prop),
  (∀I s' fp wr St,Ext C s s'->Src C A (λb=>W b\/b∈wr) s'.heap I single fp wr items St->St 0 s'.heap->(∀b∈wr,C.n₀<=b/\s.heap.get? b=none)->(∀b∈fp,C.n₀<=b/\(b∈wr\/ ¬W b))->(∀b∈fp,∃o,s'.heap.get? b=some o)->Q (.ref I) s')->
  wpAny (model C.prog C.w) A (eval e env) (λv s₁=>wpAny (model C.prog C.w) A (pyIter v) Q E s₁) E s
structure SI(c:CE)(e:Expr)(x:PI)(single:Bool):Prop where
 v:SIv c e x single
 f: ∀env y,gC e env y=pure y
noncomputable def qU(e:Expr):Bool:=!Nat.beq e.ctorIdx 7
theorem uh(h:qU e=true)(env:Env)(y:Value):gC e env y=pure y:=by cases e<;>first|rfl|exact ft h
section
variable{C:CX}{A:Around}{W:Addr->Prop}{s:Shared}
theorem jA{h:Heap}:h.get? h.objs.size=none:=by
 cases hh:h.get? h.objs.size with
 |none=>rfl
 |some o=>exact absurd (aB hh) (aW _)
theorem kD:Ext C s {s with heap:=s.heap.push o}:=⟨.push _ _,az _⟩
theorem jr{P:Addr->Prop}{a:Addr}(h:P a): ∀x∈ [a],P x:=λJ hx=>aE.mp hx▸h
theorem z6r{P:Addr->Prop}{a:Addr}{l:List Addr}(h:P a)(k: ∀x∈l,P x): ∀x∈a::l,P x:=λx hx=>by
 rcases aw.mp hx with e|hx
 ·rw [e];exact h
 ·exact k x hx
theorem oq{P:Addr->Prop}{a b:Addr}(h:P a)(k:P b): ∀x∈ [a,b],P x:=z6r h (jr k)
theorem sN:Stay C s.heap (s.heap.push o) W (λb=>W b\/b∈ [s.heap.objs.size]):=Stay.grow (λb o J e=>aq _ e) λb hb=>hb.imp_right (jr (P:=λb=>s.heap.get? b=none) jA b)
theorem z6s(hl:RepL C s.heap W xs vs):RepL C (s.heap.push o) (λb=>W b\/b∈ [s.heap.objs.size]) xs vs:=RepL.stay sN _ _ hl
theorem zxj(hl:RepL C h W items vs)(k:Stay C h h' W W')(i:Nat)(v:Value)(_:i<vs.toArray.size)(hv:vs.toArray[i]?=some v): ∃x,items[i]?=some x/\Rep C h' W' x v:=by
 have hv':vs[i]?=some v:=by simpa using hv
 have hi:=hl.length▸(bO.mp hv').1;refine aN (hl.get i (aL hi)) λw h1 h2=>?_
 rw [hv']at h1;exact bK _ (aL hi) (Rep.stay k _ _ (oj h1▸h2))
theorem qA(hl:RepL C h W items vs):vs.toArray.size=items.length:=hl.length
theorem ztk{items:List PV}{vs:List Value}{l:Addr}{o lo:Obj}{st:Nat->Heap->Prop}(a:At C W s)(hl:RepL C s.heap W items vs)(hfr:o.isFreed=false)(ho:s.heap.get? l=some lo)(hn:C.n₀<=l)(hw: ¬W l)(w:Walks C.prog C.w A s.heap.objs.size [s.heap.objs.size,l] [s.heap.objs.size] vs.toArray.size (λi v=>vs.toArray[i]?=some v) st)(live: ∀i h,st i h-> ∃o,h.get? s.heap.objs.size=some o/\ ¬i0 o)(h0:st 0 (s.heap.push o)){Q:Value->Shared->Prop}(q: ∀I s' fp wr St,Ext C s s'->Src C A (λb=>W b\/b∈wr) s'.heap I true fp wr items St->St 0 s'.heap->(∀b∈wr,C.n₀<=b/\s.heap.get? b=none)->(∀b∈fp,C.n₀<=b/\(b∈wr\/ ¬W b))->(∀b∈fp,∃o,s'.heap.get? b=some o)->Q (.ref I) s'): Q (.ref s.heap.objs.size) {s with heap:=s.heap.push o}:=
 q _ _ _ _ _ kD (.one w (qA hl) (λi h k=>jr (live i h k)) (zxj hl sN)) h0 (jr ⟨a.low,jA⟩)
  (oq ⟨a.low,.inl ag⟩ ⟨hn,.inr hw⟩) (oq ⟨_,au _ hfr⟩ ⟨_,aq _ ho⟩)
theorem ti{y:Str}{t:Tok}(hh:A.handled=none)(a:At C W s){Q E:Value->Shared->Prop}(q: ∀I s' fp wr St,Ext C s s'->Src C A (λb=>W b\/b∈wr) s'.heap I true fp wr (jZ y) St->St 0 s'.heap->(∀b∈wr,C.n₀<=b/\s.heap.get? b=none)->(∀b∈fp,C.n₀<=b/\(b∈wr\/ ¬W b))->(∀b∈fp,∃o,s'.heap.get? b=some o)->Q (.ref I) s'): wpAny (model C.prog C.w) A (pyIter (.str y t)) Q E s:=by
 have rep: ∀{h:Heap} (i:Nat) (v:Value),i<y.cps.size->SignAt y i v-> ∃x,(jZ y)[i]?=some x/\Rep C h (λb=>W b\/b∈ [s.heap.objs.size]) x v:=λi v J z=>by
  refine d9 z λc u hc hv=>?_
  refine bK (.str ⟨#[c]⟩) ?_ (by subst hv;exact jd (by show 1<=_;decide));simp only [jZ,cg];have:y.cps.toList[i]?=some c:=by simpa using hc
  rw [this];rfl
 have hz:y.cps.size=(jZ y).length:=by simp [jZ]
 have hw:=jr (P:=λb=>C.n₀<=b/\s.heap.get? b=none) ⟨a.low,jA⟩;have hfp:=jr (P:=λb=>C.n₀<=b/\(b∈ [s.heap.objs.size]\/ ¬W b)) ⟨a.low,.inl ag⟩;cases ha:y.cps.all (· <128)
 ·exact wpAny_pyIter_wide ha (q _ _ _ _ _ kD (.one (Walks.strWide hh _ y t) hz (λi h st=>jr (by obtain ⟨o,ho,hc,J⟩:=st;exact (bK o ho (j9 hc (by decide))))) rep)
   (et _ (au _ rfl) rfl rfl) hw hfp (jr ⟨_,au _ rfl⟩))
 ·exact wpAny_pyIter_ascii ha (q _ _ _ _ _ kD (.one (Walks.strAscii hh _ y t) hz (λi h st=>jr (by obtain ⟨o,ho,hc,J⟩:=st;exact (bK o ho (j9 hc (by decide))))) rep)
   (et _ (au _ rfl) rfl rfl) hw hfp (jr ⟨_,au _ rfl⟩))
theorem z2c{x:PV}{items:List PV}{v:Value}(hh:A.handled=none)(a:At C W s)(e:lY x=some items)(rx:Rep C s.heap W x v){Q E:Value->Shared->Prop}(q: ∀I s' fp wr St,Ext C s s'->Src C A (λb=>W b\/b∈wr) s'.heap I true fp wr items St->St 0 s'.heap->(∀b∈wr,C.n₀<=b/\s.heap.get? b=none)->(∀b∈fp,C.n₀<=b/\(b∈wr\/ ¬W b))->(∀b∈fp,∃o,s'.heap.get? b=some o)->Q (.ref I) s'): wpAny (model C.prog C.w) A (pyIter v) Q E s:=by
 show let g_:=_;g_;intro g_;cases x with
 |list xs=>
  obtain ⟨l,vs,n,rfl,hw,hn,ho,hl,hz⟩:=iU rx;replace e:=oj e;subst e;have hL:s.heap.IsList l vs.toArray:=⟨_,ho,rfl,_,rfl⟩;exact wpAny_pyIter_list hL (ztk a hl rfl ho hn hw (Walks.list hh _ l (bG (aB ho)) vs.toArray) (λi h st=>by obtain ⟨o,ho,hc,J⟩:=st.1;exact (bK o ho (j9 hc (by decide))))
   ⟨(et _ (au _ rfl) rfl rfl),hL.push _⟩ q)
 |tuple xs=>
  obtain ⟨l,vs,n,rfl,hw,hn,ho,hl⟩:=nI rx;replace e:=oj e;subst e;have hL:s.heap.IsTuple l vs.toArray:=⟨_,ho,rfl,_,rfl⟩;exact wpAny_pyIter_tuple hL (ztk a hl rfl ho hn hw (Walks.tuple hh _ l (bG (aB ho)) vs.toArray) (λi h st=>by obtain ⟨o,ho,hc,J⟩:=st.1;exact (bK o ho (j9 hc (by decide))))
   ⟨(et _ (au _ rfl) rfl rfl),hL.push _⟩ q)
 |str y=>obtain ⟨t,rfl,J⟩:=gA rx;replace e:=oj e;subst e;exact ti hh a q
 |lit y=>obtain ⟨t,rfl,J⟩:=oD rx;replace e:=oj e;subst e;exact ti hh a q
 |frs y=>obtain ⟨t,rfl,J⟩:=oC rx;replace e:=oj e;subst e;exact ti hh a q
 |range lo hi st=>
  obtain ⟨l,rfl,hw,hn,⟨t1,t2,t3,hr⟩,ok⟩:=zpk rx;replace e:=oj e;subst e;have ok':=ok;simp only [iW,an,decide_eq_true_eq]at ok';refine wpAny_pyIter_range hr ok'.1.1.2 ?_;have h0:0<=aD lo hi st:=by
   unfold aD;rw [if_pos (by lia)];split
   ·have:0<=(hi-lo-1)/st:=bT (by lia) (by lia);lia
   ·exact dL _
  refine q _ _ [s.heap.objs.size] [s.heap.objs.size] _ kD (.one (Walks.range hh _ lo st (aD lo hi st).toNat) (by simp [iK]) (λi h st'=>jr (bK _ st' (j9 rfl (by decide)))) λi v hi' ⟨t,hv⟩=>?_) ?_ (jr ⟨a.low,jA⟩)
   (jr ⟨a.low,.inl ag⟩) (jr ⟨_,au _ rfl⟩)
  ·refine bK (.int (lo+(i:Int)*st)) ?_ (by subst hv;exact gg);simp [iK,hi']
  ·show IsRangeIter _ _ _ _ _;have e1:lo+((0:Nat):Int)*st=lo:=by simp
   have e2:(((aD lo hi st).toNat:Nat):Int)-((0:Nat):Int)=aD lo hi st:=by simp [gN h0]
   rw [e1,e2];exact au _ rfl
 |_=>exact cu e
theorem td(h:SE c e x)(hp:qU e=true):SI c e (.plain x) true where
 f:=uh hp
 v:=λC G K ok env W O s ρ A items ev a rm hi J Q E q=>by
  show let g_:=_;g_;intro g_;refine aN (bind_some hi) λp h1 h2=>?_
  refine h.val ok ev a rm h1 _ _ λv s₁ e₁ r_1=>z2c rm.1 (a.ext e₁) h2 r_1 λI s' fp wr St e' src st hw hf hz=>?_
  refine q I s' fp wr St (e₁.trans e') src st (λb hb=>⟨(hw b hb).1,?_⟩) hf hz;cases hh:s.heap.get? b with
  |none=>rfl
  |some o=>have:=e₁.new b o (hw b hb).1 hh;rw [(hw b hb).2]at this;exact cu this
theorem WalksU.ofWalks{prog:Program}{w:World}{A:Around}{I:Addr}{fp wr:List Addr}{n:Nat}{P:Nat->Value->Prop}{St:Nat->Heap->Prop}(W:Walks prog w A I fp wr n P St)(Ts:Nat->Addr)(vals:Nat->Array Value)(hP: ∀i v,i<n->P i v->v= .ref (Ts i))(hTw: ∀j,j<n->Ts j∉wr)(go: ∀(elts:List Expr) (k:Nat) (pos:Pos) i T (s:Shared) (Q:Unit->Shared->Prop) (E:Value->Shared->Prop),St i s.heap->Q () s->wpAny (model prog w) A (d0 (.Tuple elts k pos) (.ref I) (.ref T)) Q E s): WalksU prog w A I (fp++(bl n).map Ts) wr n (λj v=>j<n/\v=vals j) (λj h=>St j h/\ ∀k,k<n->h.IsTuple (Ts k) (vals k)) (λj T h=>(j<n/\T=Ts j)/\St (j+1) h/\ ∀k,k<n->h.IsTuple (Ts k) (vals k)) where
 sub:=λb hb=>ei _ (W.sub b hb)
 frame:=λi h h' st hk=>⟨W.frame _ _ _ st.1 λb hb o e=>hk b (ei _ hb) o e,
  λk hk'=>(st.2 k hk').at λo e=>hk (Ts k) (cr _ (bg.mpr ⟨k,gW.mpr hk',rfl⟩)) o e⟩
 item:=λi s Q E hi st hQ=>W.item i s Q E hi st.1 λv h' tk hPv st' hk=>by
  obtain rfl:=hP i v hi hPv;have tup: ∀k,k<n->h'.IsTuple (Ts k) (vals k):=λk hk'=>(st.2 k hk').at λo e=>hk _ o (hTw k hk') e
  exact hQ (Ts i) (vals i) h' tk ⟨hi,rfl⟩ (tup i hi) ⟨⟨hi,rfl⟩,st',tup⟩ hk
 go:=λelts k pos i T s Q E hm hQ=>go elts k pos (i+1) T s Q E hm.2.1 (hQ s.heap ⟨hm.2.1,hm.2.2⟩ λJ J J e=>e)
 apart:=λj T h hm=>hm.1.2▸hTw j hm.1.1
 done:=λs Q E st hQ=>W.done s Q E st.1 hQ
 self:=λi s Q E st hQ=>W.self i s Q E st.1 hQ
theorem zk2{x1}(hit:s.heap.IsTupleIter I l i)(hQ:Q () s): wpAny (model prog w) A (d0 (.Tuple elts x1 pos) (.ref I) (.ref T)) Q E s:=by
 refine fT hit λo ho hc hd=>?_
 refine ab (wpAny_load ho ?_);rw [hc,hd];show wpAny _ A (if (["enumerate","zip","dict_itemiterator","dict_reverseitemiterator","odict_iterator","itertools.zip_longest","itertools.pairwise"].contains "tuple_iterator" &&
   (#[.ref l,.int i 0]:Array Value)[0]?==some (rawInt T))=true then _ else _) Q E s
 rw [if_neg (by intro h;rw [show (["enumerate","zip","dict_itemiterator","dict_reverseitemiterator","odict_iterator","itertools.zip_longest","itertools.pairwise"].contains "tuple_iterator")=false from by decide,Bool.false_and]at h;exact ft h)];exact am hQ
theorem zxk(h:isTup y=true): ∃ps,y= .tuple ps:=by cases y<;>first|exact ft h|exact ⟨_,rfl⟩
inductive TupAt(C:CX)(W:Addr->Prop)(h:Heap)(vs:List Value)(items:List PV)(i:Nat)(T:Addr)(us:Array Value):Prop where
 |mk {l:List Value} {k:Nat} {ps:List PV} (r:vs[i]?=some (.ref T)) (lo:C.n₀<=T) (nw: ¬W T) (o:h.get? T=some (tupO l k)) (e:us=l.toArray) (it:items[i]?=some (.tuple ps)) (rep:RepL C h W ps l)
theorem tups(hl:RepL C h W items vs)(hall:items.all isTup=true): ∃f:Nat->Addr×Array Value,∀i,i<items.length->TupAt C W h vs items i (f i).1 (f i).2:=by
 refine Classical.axiomOfChoice (r:=λi (p:Addr×Array Value)=>i<items.length->TupAt C W h vs items i p.1 p.2) λi=>?_
 show let g_:=_;g_;intro g_;by_cases hi:i<items.length
 ·have hx:items[i]?=some items[i]:=aL hi;refine aN (hl.get i hx) λw g1 g2=>?_
  obtain ⟨ps,e⟩:=zxk (aj.mp hall _ (List.getElem_mem hi));rw [e]at g2 hx;refine kE (nI g2) λT us k e_ a1 a2 a3 a4=>?_
  subst e_;exact ⟨(T,us.toArray),λJ=>⟨g1,a2,a1,a3,rfl,hx,a4⟩⟩
 ·exact ⟨(0,#[]),λh=>absurd h hi⟩
theorem zxl{c:CE}{e:Expr}{x:PE}(h:SE c e x)(hp:qU e=true)(htup: ∀G ρ p,be G x ρ=some p-> ∃l,p= .tuple l):SI c e (.plain x) false where
 f:=uh hp
 v:=λC G K ok env W O s ρ A items ev a rm hi hall Q E q=>by
  show let g_:=_;g_;intro g_;refine aN (bind_some hi) λp h1 h2=>?_
  obtain ⟨ps,rfl⟩:=htup _ _ _ h1;obtain rfl:ps=items:=oj h2.symm;refine h.val ok ev a rm h1 _ _ λv s₁ e₁ r_1=>?_
  show let g_:=_;g_;intro g_;refine kE (nI r_1) λad vs n e_ hw hn ho hl=>?_
  subst e_;obtain ⟨f,hf⟩:=tups hl hall;have hL:s₁.heap.IsTuple ad vs.toArray:=⟨_,ho,rfl,_,rfl⟩;have hsz:=qA hl;have hf': ∀i,i<vs.toArray.size->TupAt C W s₁.heap vs ps i (f i).1 (f i).2:=λi hi=>hf i (hsz▸hi)
  have hne: ∀i,i<vs.toArray.size->(f i).1∉ [s₁.heap.objs.size]:=λi hi hm=>by obtain ⟨J,J,J,o,J,J,J⟩:=hf' i hi;exact absurd (aE.mp hm) (bG (aB o))
  have hfresh:s.heap.get? s₁.heap.objs.size=none:=by
   cases hh:s.heap.get? s₁.heap.objs.size with
   |none=>rfl
   |some o=>have:=e₁.new _ o (a.ext e₁).low hh;rw [jA]at this;exact cu this
  have all: ∀{P:Addr->Prop},P s₁.heap.objs.size->P ad->(∀i,i<vs.toArray.size->P (f i).1)-> ∀b∈ [s₁.heap.objs.size,ad]++(bl vs.toArray.size).map λi=>(f i).1,P b:=λh1 h2 h3 b hb=>by
   rcases ec.mp hb with hb|hb
   ·exact oq h1 h2 b hb
   ·refine aN (bg.mp hb) λj hj e=>?_
    exact e▸h3 j (gW.mp hj)
  refine wpAny_pyIter_tuple hL (q s₁.heap.objs.size _ _ [s₁.heap.objs.size] _ (e₁.trans kD)
   (.many (WalksU.ofWalks (Walks.tuple rm.1 _ ad (bG (aB ho)) vs.toArray) (λi=>(f i).1) (λi=>(f i).2) (λi v hi hv=>?_) hne λelts k pos i T s Q E st hQ=>zk2 st.1 hQ) hsz
    (λi h st=>jr (by obtain ⟨o,ho,hc,J⟩:=st.1.1;exact (bK o ho (j9 hc (by decide))))) λi v hi hv=>?_)
   ⟨⟨(et _ (au _ rfl) rfl rfl),hL.push _⟩,λk hk=>?_⟩ (jr ⟨(a.ext e₁).low,hfresh⟩) (all ⟨(a.ext e₁).low,.inl ag⟩ ⟨hn,.inr hw⟩ λi hi=>?_) (all ⟨_,au _ rfl⟩ ⟨_,aq _ ho⟩ λi hi=>?_))
  ·obtain ⟨r,J,J,J,J,J,J⟩:=hf' i hi;have hv':vs[i]?=some v:=by simpa using hv
   exact oj (r.symm.trans hv')
  ·refine xA hv λJ e_=>?_
   subst e_;obtain ⟨J,J,J,J,b5,b6,b7⟩:=hf' i hi;exact bK _ b6 (by rw [b5];exact z6s b7)
  ·obtain ⟨J,J,J,b4,b5,J,J⟩:=hf' k hk;exact ⟨_,aq _ b4,rfl,_,by rw [b5]⟩
  ·obtain ⟨J,b2,b3,J,J,J,J⟩:=hf' i hi;exact ⟨b2,.inr b3⟩
  ·obtain ⟨J,J,J,b4,J,J,J⟩:=hf' i hi;exact ⟨_,aq _ b4⟩
end
noncomputable def lJ(env:Env):Expr->Bool->Sem (ForInStep Bool):=λc r=>if r=true then do let ok<-isTrue c env (eval c env);pure (iB ok)else pure (iB r)
theorem zn3(hg:gens[d]?=some ⟨t,iter,ifs,0⟩)(hn:gens[d+1]?=none): iy (.ListComp elt gens scope pos) d it acc env=(standAt iter.pos>>=λJ=>pyNext it>>=λr=>match r with
   |none=>pure (.done .next)
   |some v=>d0 t it v>>=λJ=>assign t env v>>=λJ=>forIn ifs true (lJ env)>>=λok=>
    if ok=true then (eval elt env>>=λx=>call (.builtin "list.append") [acc,x]>>=λJ=>pure ())>>=λJ=>again (.compLoop (.ListComp elt gens scope pos) d it acc env)
    else again (.compLoop (.ListComp elt gens scope pos) d it acc env)):=by
 unfold iy;dsimp only;rw [hg,hn];rfl
theorem zn4(hg:gens[d]?=some ⟨t,iter,ifs,0⟩)(hn:gens[d+1]?=some ⟨t',iter',ifs',0⟩): iy (.ListComp elt gens scope pos) d it acc env=(standAt iter.pos>>=λJ=>pyNext it>>=λr=>match r with
   |none=>pure (.done .next)
   |some v=>d0 t it v>>=λJ=>assign t env v>>=λJ=>forIn ifs true (lJ env)>>=λok=>
    if ok=true then eval iter' env>>=λx=>standAt iter'.pos>>=λJ=>gC iter' env x>>=λx=>holding [x] (pyIter x)>>=λit'=>runOwn (.compStart (.ListComp elt gens scope pos) (d+1) it' acc env) env>>=λJ=>again (.compLoop (.ListComp elt gens scope pos) d it acc env)
    else again (.compLoop (.ListComp elt gens scope pos) d it acc env)):=by
 unfold iy;dsimp only;rw [hg,hn];rfl
section
variable{c:CE}
theorem zrn: ∀(ifs:List Expr),(forIn ifs false (lJ env):Sem Bool)=pure false:=by
 intro zz;induction zz with
 |nil=>exact rfl
 |cons e es ih=>rw [uZ];show (pure (iB false)>>=_)=_;rw [gS];exact ih
theorem zxm{C:CX}{G:GT}{K:Nat}(ok:FnOk C G K){env:Env}{W O:Addr->Prop}{ρ:Rho}{A:Around}(rm:Room A K){ifs:List Expr}{fs:List PE}(hs:SEs c ifs fs): ∀{s:Shared} {b:Bool},dq C c env W O s.heap ρ->At C W s->allP G true fs ρ=some b->SndB C A s (forIn ifs true (lJ env)) b:=by
 induction hs with
 |nil=>intro s b ev at' h Q E q;simp only [pE]at h;replace h:=oj h;subst h;exact am (q s (.refl s))
 |cons h _ ih=>
  intro s b ev at' hp Q E q;refine aN (bind_some hp) λw h1 hp=>?_
  rw [uZ];refine ab ?_;show let z_:=_;let y_:=_;wpAny _ _ _ z_ y_ _;intro z_ y_;refine ab (h.tst ok ev at' rm h1 _ _ λs₁ e₁=>am ?_);cases w with
  |true=>exact ih (ev.ext e₁.toExt0) (at'.ext e₁) hp _ _ λs_2 e_2=>q s_2 (e₁.trans e_2)
  |false=>replace hp:=oj hp;subst hp;show wpAny _ A (forIn _ false (lJ env)) _ E s₁;rw [zrn];exact am (q s₁ e₁)
structure GOk(c:CE)(t:Expr)(xs:List Str)(ts:List Nat)(single:Bool):Prop where
 tgt:ly t xs single
 places:Places (c.up xs) xs ts
 fresh: ∀x∈xs.reverse,qd (c.sc.names.lookup x)=true/\c.sc.names.lookup x≠some .free/\ ∀i,idx c.σ x=some i->i<c.base
 above: ∀t∈ts,c.σ.length<=t
inductive SGs:CE->List Comprehension->List PG->CE->Prop
 |nil {c:CE}:SGs c [] [] c
 |cons {c c2:CE} {gs:List Comprehension} {ps:List PG} {t iter:Expr} {ifs:List Expr} {it:PI} {fs:List PE} {xs:List Str} {ts:List Nat} {single:Bool}:SI c iter it single->GOk c t xs ts single->
   SEs (c.up xs) ifs fs->SGs (c.up xs) gs ps c2->SGs c (⟨t,iter,ifs,0⟩::gs) (.mk ts single it fs::ps) c2
theorem zmx{xs:List Str}{ts:List Nat}{n:Nat}(ha: ∀t∈ts,n<=t): ∀{ps:List PV} {ρ ρ':Rho},gZ ts ps ρ=some ρ'-> ∀i,i<n->ρ'[i]?=ρ[i]?:=by
 induction ts with
 |nil=>intro ps ρ ρ' h i hi;cases ps with
  |nil=>replace h:=oj h;subst h;rfl
  |cons _ _=>exact cu h
 |cons t ts ih=>intro ps ρ ρ' h i hi;cases ps with
  |nil=>exact cu h
  |cons p ps=>rw [ih (λt ht=>ha t (ah _ ht)) h i hi];have:=ha t ag;unfold setR;rw [uW (by lia)]
theorem zpt{ts:List Nat}{n:Nat}{single:Bool}{x:PV}(ha: ∀t∈ts,n<=t){ρ ρ':Rho}(h:hK ts single x ρ=some ρ'): ∀i,i<n->ρ'[i]?=ρ[i]?:=by
 unfold hK at h;split at h
 ·exact zmx (xs:=[]) ha h
 ·refine aN (aA.mp h) λJ J g=>?_
  exact zmx (xs:=[]) ha g
noncomputable def rM(G:GT)(ts:List Nat)(single:Bool)(fs:List PE)(ps:List PG)(elt:PE)(ρ:Rho)(x:PV):Option (List PV):=(hK ts single x ρ).bind λρ'=>(allP G true fs ρ').bind λc=>if c then kr G ps (λρ'=>be G elt ρ') ρ' else some []
inductive AccAt(C:CX)(h:Heap)(W:Addr->Prop)(D:Addr):PV->Prop
 |list {ps:List PV} {vs:List Value} {n:Nat} (g:h.get? D=some (ff vs n)) (r:RepL C h W ps vs):AccAt C h W D (.list ps)
 |dict {kvs:List (Str×PV)} {l:List (Str×Value)} (g:h.DictOf (strKind C.prog C.w) D l) (r:RepD C h W kvs l):AccAt C h W D (.dict kvs)
structure Acc(C:CX)(W:Addr->Prop)(h:Heap)(D:Addr)(p:PV):Prop where
 lo:C.n₀<=D
 w:W D
 at':AccAt C h W D p
theorem AccAt.lst'(a:AccAt C h W D p): ∀{ps:List PV},listOf p=some ps-> ∃vs n,h.get? D=some (ff vs n)/\RepL C h W ps vs:=by
 induction a with
 |list g r=>intro ps e;obtain rfl:=oj e;exact eM _ _ g r
 |dict g r=>intro ps e;exact cu e
theorem AccAt.lst(a:AccAt C h W D (.list ps)): ∃vs n,h.get? D=some (ff vs n)/\RepL C h W ps vs:=a.lst' rfl
theorem AccAt.dct'(a:AccAt C h W D p): ∀{kvs:List (Str×PV)},dictOf p=some kvs-> ∃l,h.DictOf (strKind C.prog C.w) D l/\RepD C h W kvs l:=by
 induction a with
 |list g r=>intro ps e;exact cu e
 |dict g r=>intro ps e;obtain rfl:=oj e;exact bK _ g r
theorem AccAt.dct(a:AccAt C h W D (.dict kvs)): ∃l,h.DictOf (strKind C.prog C.w) D l/\RepD C h W kvs l:=a.dct' rfl
theorem AccAt.live(a:AccAt C h W D p): ∃o,h.get? D=some o:=by
 induction a with
 |list g r=>exact ⟨_,g⟩
 |dict g r=>obtain ⟨o,J,J,e,J⟩:=g;exact ⟨o,e⟩
theorem AccAt.stay(a:AccAt C h W D p)(hD: ∀o,h.get? D=some o->h'.get? D=some o)(k:Stay C h h' W W'):AccAt C h' W' D p:=by
 induction a with
 |list g r=>exact .list (hD _ g) (RepL.stay k _ _ r)
 |dict g r=>obtain ⟨o,es,ep,e,q⟩:=g;exact .dict (gz o es ep (hD _ e) q) (RepD.stay k _ _ r)
end
section
variable{C:CX}{c:CE}{env:Env}{W O:Addr->Prop}{ρ:Rho}{D:Addr}{accP:PV}
theorem Acc.stay(a:Acc C W h D accP)(hD: ∀o,h.get? D=some o->h'.get? D=some o)(k:Stay C h h' W W')(w:W' D):Acc C W' h' D accP where
 lo:=a.lo
 w:=w
 at':=a.at'.stay hD k
structure LS(C:CX)(c:CE)(env:Env)(W O:Addr->Prop)(s:Shared)(ρ:Rho)(D:Addr)(accP:PV):Prop where
 ev:dq C c env W O s.heap ρ
 a:At C W s
 acc:Acc C W s.heap D accP
 nO: ¬O D
theorem LS.ext(l:LS C c env W O s ρ D accP)(e:Ext C s s'):LS C c env W O s' ρ D accP:=⟨l.ev.ext e.toExt0,l.a.ext e,l.acc.stay (λo eo=>e.new _ o l.acc.lo eo) (e.stay W) l.acc.w,l.nO⟩
theorem ExtN.stay(x:ExtN C O N s s')(hO: ∀b,O b->W b)(hN: ∀b,N b->W b):Stay C s.heap s'.heap W W:=λb o hb hw e=>⟨x.new b o hb (λh=>hw (hO b h)) (λh=>hw (hN b h)) e,hw⟩
theorem zg5(hc:clausesOf e=gens)(hg:gens[d]?=some ⟨t,iter,ifs,0⟩)(h0:codeAny (model prog w) A (.compLoop e d it acc env) R s)(h:wpAny (model prog w) A (pyIter it) (λit' s'=>codeAny (model prog w) A (.compLoop e d it' acc env) R s') (notedBy (model prog w) A env λx s'=>R (.error x) s') s): wpAny (model prog w) A ((compStart e d it acc env).onRaise (λx=>do noteFrame x env;standAt theWindowsPlace)) (λfin s'=>match fin with
   | .done f=>R (.ok f) s'
   | .again c'=>c'.quiet=true/\codeAny (model prog w) A c' R s') (λx s'=>R (.error x) s') s:=by
 show let z_:=_;let y_:=_;wpAny _ _ _ z_ y_ _;intro z_ y_;refine wpAny_notedAt ?_;unfold compStart;rw [hc,hg];refine ab (wpAny_askSetting (wpAny_ite ?_));split
 ·exact ab (am (am (And.intro rfl h0)))
 ·exact ab (wpAny_rule (ab (bf (ab (bE h (λit' s' h'=>am (And.intro rfl h')) λJ J x=>x)))))
theorem zdo(hg:gens[d]?=some ⟨t,iter,ifs,0⟩)(h0:codeAny (model prog w) A (.compLoop (.ListComp elt gens scope pos) d it acc env) R s)(h:wpAny (model prog w) A (pyIter it) (λit' s'=>codeAny (model prog w) A (.compLoop (.ListComp elt gens scope pos) d it' acc env) R s') (notedBy (model prog w) A env λx s'=>R (.error x) s') s): codeAny (model prog w) A (.compStart (.ListComp elt gens scope pos) d it acc env) R s:=fj (zg5 rfl hg h0 h)
theorem zfz(hg:gens[d]?=some ⟨t,iter,ifs,0⟩)(h0:codeAny (model prog w) A (.compLoop (.DictComp ke ve gens scope pos) d it acc env) R s)(h:wpAny (model prog w) A (pyIter it) (λit' s'=>codeAny (model prog w) A (.compLoop (.DictComp ke ve gens scope pos) d it' acc env) R s') (notedBy (model prog w) A env λx s'=>R (.error x) s') s): codeAny (model prog w) A (.compStart (.DictComp ke ve gens scope pos) d it acc env) R s:=fj (zg5 rfl hg h0 h)
theorem SrcAt.heap(x:SrcAt C W O h fp wr):SrcAt C W O h' fp wr:=⟨x.w,x.f⟩
theorem zxn{A:Around}{F:Value->Sem PySem.Fin}{p:Pos}{s:Shared}{items:List PV}{I:Addr}{fp wr:List Addr}{single:Bool}{St:Nat->Heap->Prop}{R:Result->Shared->Prop}{Q:PySem.Fin->Shared->Prop}{E:Value->Shared->Prop}(ls:LS C c env W O s ρ D accP)(src:Src C A W s.heap I single fp wr items St)(sa:SrcAt C W O s.heap fp wr)(st:St items.length s.heap)(hDw:D∉wr)(hQ: ∀s',R (.ok .next) s'->Q (.done .next) s')(hR: ∀s',ExtN C (λb=>OWr c env b\/b=D) (· ∈wr) s s'->dq C c env (λb=>W b/\b∉wr) O s'.heap ρ->Acc C (λb=>W b/\b∉wr) s'.heap D accP->R (.ok .next) s'): wpAny (model C.prog C.w) A (standAt p>>=λJ=>pyNext (.ref I)>>=λr=>match r with|none=>pure (.done .next)|some v=>F v) Q E s:=by
 have fin: ∀h' tk,s.toks<=tk->(∀b o,b∉wr->s.heap.get? b=some o->h'.get? b=some o)->R (.ok .next) {s with heap:=h',toks:=tk}:=λh' tk htk hk=>by
  refine hR _ ⟨λb o J J hn e=>hk b o hn e,λb o J hn e=>⟨o,hk b o hn e⟩,C.keep λb o hb e=>hk b o (src.low st (λb hb=>(sa.f b hb).1) hb e) e,rfl,rfl,rfl,htk⟩ ?_ ?_
  ·exact ls.ev.move (λb o J hb e=>hk b o (λhm=>by rcases hb with hb|hb;exact hb (sa.w b hm).1;exact (sa.w b hm).2 hb) e) (λb hb=>⟨ls.ev.ow b hb,(λb hb hm=>(sa.w b hm).2 hb) b hb⟩) λb hb=>.inl hb.1
  ·exact ls.acc.stay (λo e=>hk D o hDw e) (λb o hb hw e=>⟨hk b o (λhm=>hw (sa.w b hm).1) e,λh=>hw h.1⟩) ⟨ls.acc.w,hDw⟩
 refine ab (bf (ab ?_));induction src with
 |one w hn live rep=>exact bP (az s.toks) (w.done s _ _ (hn▸st) λh' tk hk htk=>am (hQ _ (fin h' tk htk hk)))
 |many w hn live rep=>exact bP (az s.toks) (w.done s _ _ (hn▸st) λh' tk hk htk=>am (hQ _ (fin h' tk htk hk)))
theorem zxo{G:GT}{K:Nat}(ok:FnOk C G K){A:Around}(rm:Room A K){F:Bool->Sem PySem.Fin}{p:Pos}{s:Shared}{items:List PV}{I:Addr}{fp wr:List Addr}{single:Bool}{St:Nat->Heap->Prop}{Q:PySem.Fin->Shared->Prop}{E:Value->Shared->Prop}{t:Expr}{ifs:List Expr}{xs:List Str}{ts:List Nat}{fs:List PE}{i:Nat}{y:PV}{ρ':Rho}{b:Bool}(ls:LS C c env W O s ρ D accP)(src:Src C A W s.heap I single fp wr items St)(sa:SrcAt C W O s.heap fp wr)(st:St i s.heap)(hDw:D∉wr)(gok:GOk c t xs ts single)(hifs:SEs (c.up xs) ifs fs)(hy:items[i]?=some y)(hb:hK ts single y ρ=some ρ')(ha:allP G true fs ρ'=some b)(q: ∀s',ExtN C (OWr c env) (· ∈wr) s s'->LS C (c.up xs) env W O s' ρ' D accP->Src C A W s'.heap I single fp wr items St->St (i+1) s'.heap->wpAny (model C.prog C.w) A (F b) Q E s'): wpAny (model C.prog C.w) A (standAt p>>=λJ=>pyNext (.ref I)>>=λr=>match r with
   |none=>pure (.done .next)
   |some v=>d0 t (.ref I) v>>=λJ=>assign t env v>>=λJ=>forIn ifs true (lJ env)>>=F) Q E s:=by
 refine ab (bf (ab (bE (zpr (Q:=λs3=>wpAny (model C.prog C.w) A (forIn ifs true (lJ env)>>=F) Q E s3) rm.1 src sa (ls.ev.push xs.reverse) ls.a st hy gok.tgt gok.places hb ?_) (λr s₁ h=>?_) λJ J e=>e)))
 ·intro s3 e_3 ev3 st_3;have hWocc:At C W s3:=⟨e_3.inv ls.a.inv,λb' hb'=>by
   show let g_:=_;g_;intro g_;obtain ⟨lo,o,eo⟩:=ls.a.wocc b' hb';by_cases hm:b'∈wr
   ·exact ⟨lo,src.live st_3 b' hm⟩
   ·exact ⟨lo,e_3.occ b' o lo hm eo⟩,af ls.a.tok e_3.toks⟩
  have hS:=e_3.stay (λb' hb'=>ls.ev.ow _ (ls.ev.owr hb')) (λb' hb'=>(sa.w b' hb').1);refine ab (zxm ok rm hifs ev3 hWocc ha _ _ λs4 e_4=>?_);exact q s4 (e_3.trans e_4.toO.toN) ((⟨ev3,hWocc,ls.acc.stay (λo eo=>e_3.new D o ls.acc.lo (λh=>ls.nO (ls.ev.owr h)) hDw eo) hS ls.acc.w,ls.nO⟩:LS C (c.up xs) env W O s3 ρ' D accP).ext e_4) ((src.stay hS).stay (e_4.toExt0.stay W)) (src.frame st_3 λb' hb' o eo=>e_4.new b' o (sa.f b' hb').1 eo)
 ·cases r with
  |none=>exact h.elim
  |some v=>exact ab (bE h (λJ s_2 h_2=>ab (bE h_2 (λJ s3 h_3=>h_3) λJ J e=>e)) λJ J e=>e)
theorem LS.forget(gok:GOk c t xs ts single)(hb:hK ts single y ρ=some ρ')(htop: ∀(i:Nat) (s:Slot),ρ[i]?=some (some s)->i<c.σ.length)(l:LS C (c.up xs) env W O s ρ' D accP):LS C c env W O s ρ D accP:=⟨l.ev.forget gok.fresh (λi sl h=>by rw [zpt gok.above hb i (htop i sl h)];exact h) htop,l.a,l.acc,l.nO⟩
theorem zro{A:Around}{s:Shared}{p:PV}{v:Value}{accP:List PV}{Q:Value->Shared->Prop}{E:Value->Shared->Prop}(ls:LS C c env W O s ρ D (.list accP))(hz:accP.length<=aM)(hv:Rep C s.heap W p v)(q: ∀s',ExtN C (λb=>OWr c env b\/b=D) (λJ=>False) s s'->LS C c env W O s' ρ D (.list (accP++ [p]))->(∀b o,b≠D->s.heap.get? b=some o->s'.heap.get? b=some o)->Q .none s'): wpAny (model C.prog C.w) A (call (.builtin "list.append") [.ref D,v]) Q E s:=by
 refine d9 ls.acc.at'.lst λvs n h1 h2=>?_
 refine gQ (items:=vs.toArray) ⟨n,h1⟩ (λh' hl hs=>?_) (by simp only [bI,h2.length];exact hz);have hk: ∀b o,b≠D->s.heap.get? b=some o->h'.get? b=some o:=λb o hb e=>(hs.2 b hb).trans e
 have hS:Stay C s.heap h' W W:=λb o hb hw e=>⟨hk b o (λh=>hw (h▸ls.acc.w)) e,hw⟩
 show let g_:=_;g_;intro g_;obtain ⟨n',hl'⟩:=hl;have hl'':h'.get? D=some (ff (vs++ [v]) n'):=by rw [hl'];simp [ff]
 have hocc: ∀b o,C.n₀<=b->s.heap.get? b=some o-> ∃o',h'.get? b=some o':=λb o J e=>by
  show let g_:=_;g_;intro g_;by_cases hb:b=D
  ·show let g_:=_;g_;intro g_;subst hb;exact ⟨_,hl''⟩
  ·exact ⟨o,hk b o hb e⟩
 refine q {s with heap:=h'} ⟨λb o J hb J e=>hk b o (λh=>hb (.inr h)) e,λb o lo J e=>hocc b o lo e,C.keepBut ls.acc.lo (λo e=>by rw [h1]at e;replace e:=oj e;subst e;exact j9 rfl (by decide)) hk,rfl,rfl,rfl,az _⟩
  ⟨ls.ev.move (λb o J hb e=>hk b o (λh=>by subst h;rcases hb with hb|hb;exact hb ls.acc.w;exact ls.nO hb) e) ls.ev.ow λb hb=>.inl hb,?_,?_,ls.nO⟩ hk
 ·exact ⟨C.keepBut ls.acc.lo (λo e=>by rw [h1]at e;replace e:=oj e;subst e;exact j9 rfl (by decide)) hk ls.a.inv,λb hb=>by obtain ⟨lo,o,e⟩:=ls.a.wocc b hb;exact ⟨lo,hocc b o lo e⟩,ls.a.tok⟩
 ·exact ⟨ls.acc.lo,ls.acc.w,.list hl'' ((RepL.stay hS _ _ h2).append (RepL.cons (Rep.stay hS _ _ hv) rfl))⟩
end
section
variable{C:CX}{env:Env}{D:Addr}
theorem At.extO'(a:At C W s)(x:ExtO C O s s'):At C W s':=⟨x.inv a.inv,λb h=>by obtain ⟨lo,o,e⟩:=a.wocc b h;exact ⟨lo,x.occ b o lo e⟩,af a.tok x.toks⟩
def z2e(C:CX)(env:Env)(D:Addr)(G:GT)(A:Around)(elt:Expr)(gens:List Comprehension)(scope:Scope)(pos:Pos)(x:PE)(gs:List Comprehension):Prop:=
  ∀{c c2:CE} {ps:List PG} {d:Nat} {t iter:Expr} {ifs:List Expr} {xs:List Str} {ts:List Nat} {single:Bool} {fs:List PE},
  SGs (c.up xs) gs ps c2->gens[d]?=some ⟨t,iter,ifs,0⟩->gens.drop (d+1)=gs->GOk c t xs ts single->SEs (c.up xs) ifs fs->SE c2 elt x->
  ∀{W O:Addr->Prop} {s:Shared} {ρ:Rho} {items:List PV} {rs:List (List PV)} {I:Addr} {fp wr:List Addr} {St:Nat->Heap->Prop} {i:Nat} {accP:List PV} {R:Result->Shared->Prop},
  LS C c env W O s ρ D (.list accP)->Src C A W s.heap I single fp wr items St->SrcAt C W O s.heap fp wr->St i s.heap->i<=items.length->D∉wr->
  (items.drop i).mapM (rM G ts single fs ps x ρ)=some rs->accP.length+rs.flatten.length<=aM->
  (∀s',ExtN C (λb=>OWr c env b\/b=D) (· ∈wr) s s'->dq C c env (λb=>W b/\b∉wr) O s'.heap ρ->Acc C (λb=>W b/\b∉wr) s'.heap D (.list (accP++rs.flatten))->R (.ok .next) s')->
  codeAny (model C.prog C.w) A (.compLoop (.ListComp elt gens scope pos) d (.ref I) (.ref D) env) R s
set_option tactic.hygienic true in
noncomputable def Runs(G:GT)(ts:List Nat)(single:Bool)(fs:List PE)(ρ:Rho)(S:Rho->PV->PV->Prop)(l:List PV):PV->PV->Prop:=l.rec (λp r=>p=r) λx J ih p r=>∃ρ' b q,hK ts single x ρ=some ρ'/\allP G true fs ρ'=some b/\(b=true->S ρ' p q)/\(b=false->q=p)/\ih q r
def SL(G:GT)(ps:List PG)(x:PE)(ρ':Rho)(p q:PV):Prop:=∃l r,p= .list l/\kr G ps (λρ'=>be G x ρ') ρ'=some r/\l.length+r.length<=aM/\q= .list (l++r)
theorem zpu{G:GT}{ρ:Rho}{S:Rho->PV->PV->Prop}(hb:hK ts single x ρ=some ρ')(ha:allP G true fs ρ'=some b)(h1:b=true->S ρ' p q)(h2:b=false->q=p)(h:Runs G ts single fs ρ S l q r):Runs G ts single fs ρ S (x::l) p r:=oW _ _ _ hb ha h1 h2 h
theorem zpv{G:GT}{ts:List Nat}{single:Bool}{fs:List PE}{ps:List PG}{x:PE}{ρ:Rho}: ∀(xs:List PV) {l:List PV} {rs:List (List PV)},xs.mapM (rM G ts single fs ps x ρ)=some rs->l.length+rs.flatten.length<=aM-> Runs G ts single fs ρ (SL G ps x) xs (.list l) (.list (l++rs.flatten)):=by
 intro xs;induction xs with
 |nil=>intro l rs h J;obtain rfl: []=rs:=Option.some.inj h;rw [List.flatten_nil,cC];rfl
 |cons a xs ih=>
  intro l rs h hz;refine ek (ki h) λr rs' h1 h2 e=>?_
  subst e;refine aN (bind_some h1) λρ' hb h1=>?_
  refine aN (bind_some h1) λb ha h1=>?_
  rw [fw,aC,<-eZ]at hz;rw [fw,<-cT];refine zpu hb ha (λe=>?_) (λe=>?_) (ih h2 (by rw [aC];exact hz))
  ·subst e;exact jK l r rfl h1 (aa (bb _ _) hz) rfl
  ·subst e;obtain rfl: []=r:=Option.some.inj h1;rw [cC]
theorem zu6{items:List PV}(h:items.drop i=x::xs):items[i]?=some x/\items.drop (i+1)=xs:=by have h1:=List.getElem?_drop (xs:=items) (i:=i) (j:=0);rw [h]at h1;have h2:=List.tail_drop (l:=items) (i:=i);rw [h]at h2;exact ⟨h1.symm,h2.symm⟩
theorem tF{G:GT}{K:Nat}(ok:FnOk C G K){A:Around}(rm:Room A K){L:Expr}{d:Nat}{I:Addr}{F:Bool->Sem PySem.Fin}{pp:Pos}{t:Expr}{ifs:List Expr}{xs:List Str}{ts:List Nat}{single:Bool}{fs:List PE}{c:CE}(hT:iy L d (.ref I) (.ref D) env=(standAt pp>>=λJ=>pyNext (.ref I)>>=λr=>match r with
   |none=>pure (.done .next)
   |some v=>d0 t (.ref I) v>>=λJ=>assign t env v>>=λJ=>forIn ifs true (lJ env)>>=F))
  (hU:A.under (.compLoop L d (.ref I) (.ref D) env)=A) (hD:(model C.prog C.w).den (.compLoop L d (.ref I) (.ref D) env)=(iy L d (.ref I) (.ref D) env).onRaise (λx=>do noteFrame x env;theTreesLotGoes x)) (hF:F false=again (.compLoop L d (.ref I) (.ref D) env)) (gok:GOk c t xs ts single) (hifs:SEs (c.up xs) ifs fs) {items:List PV} {fp wr:List Addr} {St:Nat->Heap->Prop} {R:Result->Shared->Prop} {W O:Addr->Prop} {ρ:Rho} {S:Rho->PV->PV->Prop} {h0:Heap}
  (hstep: ∀{ρ':Rho} {p q:PV} {i:Nat} {s:Shared} {Q:PySem.Fin->Shared->Prop} {E:Value->Shared->Prop},S ρ' p q->LS C (c.up xs) env W O s ρ' D p->Src C A W s.heap I single fp wr items St->St i s.heap->
   (∀s',ExtN C (λb=>OWr c env b\/b=D) (· ∈wr) s s'->LS C (c.up xs) env W O s' ρ' D q->Src C A W s'.heap I single fp wr items St->St i s'.heap->wpAny (model C.prog C.w) A (again (.compLoop L d (.ref I) (.ref D) env)) Q E s')->wpAny (model C.prog C.w) A (F true) Q E s)
  (sa:SrcAt C W O h0 fp wr) (hDw:D∉wr) (l:List PV) {r:PV}:
  ∀{p:PV} {i:Nat} {s:Shared},Runs G ts single fs ρ S l p r->items.drop i=l->LS C c env W O s ρ D p->Src C A W s.heap I single fp wr items St->St i s.heap->i<=items.length->
  (∀s',ExtN C (λb=>OWr c env b\/b=D) (· ∈wr) s s'->dq C c env (λb=>W b/\b∉wr) O s'.heap ρ->Acc C (λb=>W b/\b∉wr) s'.heap D r->R (.ok .next) s')->
  codeAny (model C.prog C.w) A (.compLoop L d (.ref I) (.ref D) env) R s:=by
 induction l with
 |nil=>intro p i s h hd ls src st hi hR;obtain rfl:p=r:=h;have hie:=ea hi (List.drop_eq_nil_iff.mp hd);subst hie;refine fj ?_;rw [hU,hD];refine wpAny_noted ?_;rw [hT];exact zxn (R:=R) ls src sa.heap st hDw (λs' h=>h) hR
 |cons x l ih=>
  intro p i s h hd ls src st hi hR;refine kE h λρ' b q hb ha hs hf hn=>?_
  refine xA (zu6 hd) λhy hd'=>?_
  have hlt:=(bO.mp hy).1;refine fj ?_;rw [hU,hD];refine wpAny_noted ?_;show let Z:=_;let E:=_;wpAny _ _ _ Z E _;intro Z E;rw [hT];refine zxo ok rm ls src sa.heap st hDw gok hifs hy hb ha λs₁ e₁ ls1 src1 st1=>?_
  have e1':ExtN C (λb=>OWr c env b\/b=D) (· ∈wr) s s₁:=e₁.mono (λJ h=>.inl h) λJ h=>h
  cases b with
  |false=>obtain rfl:=hf rfl;rw [hF];exact am ⟨rfl,ih hn hd' (ls1.forget gok hb ls.ev.top) src1 st1 hlt λs' e'=>hR s' (e1'.trans e')⟩
  |true=>exact hstep (hs rfl) ls1 src1 st1 λs_2 e_2 ls2 src2 st2=>am ⟨rfl,ih hn hd' (ls2.forget gok hb ls.ev.top) src2 st2 hlt λs' e'=>hR s' ((e1'.trans e_2).trans e')⟩
theorem zxp{G:GT}{K:Nat}(ok:FnOk C G K){A:Around}(rm:Room A K){elt:Expr}{gens:List Comprehension}{scope:Scope}{pos:Pos}{x:PE}: ∀gs,z2e C env D G A elt gens scope pos x gs:=by
 intro gs;induction gs with
 |nil=>
  intro c c2 ps d t iter ifs xs ts single fs sg hg hdrop gok hifs hx W O s ρ items rs I fp wr St i accP R ls src sa st hi hDw hm hsz hR;cases sg;have hn:gens[d+1]?=none:=by rw [eF];have:=congrArg uV hdrop;rw [fL]at this;exact Nat.le_of_sub_eq_zero this
  refine tF ok rm (zn3 hg hn) rfl rfl (if_neg (by decide)) gok hifs (λ{ρ' p q i s Q E} hs ls src st k=>?_) sa hDw _ (zpv _ hm hsz) rfl ls src st hi hR;refine jL hs λl r e h1 hz e'=>?_
  subst e e';refine aN (gf h1) λp hp e=>?_
  subst e;rw [if_pos rfl];refine ab (ab (hx.val ok ls.ev ls.a rm hp _ _ λv s_2 e_2 r_2=>ab (zro (ls.ext e_2) (aa (bb _ _) hz) r_2 λs3 e_3 ls3 hk3=>am (k s3 (e_2.toO.toN.trans (e_3.mono (λJ h=>h) λJ h=>h.elim)) ls3 ?_ ?_))))
  ·exact (src.stay (e_2.toExt0.stay W)).stay (e_3.stay (W:=W) (λb hb=>by rcases hb with hb|rfl;exact ls.ev.ow b (ls.ev.owr hb);exact ls.acc.w) λJ h=>h.elim)
  ·refine src.frame (src.frame st λb hb o eo=>e_2.new b o (sa.f b hb).1 eo) λb hb o eo=>hk3 b o (λh=>?_) eo
   subst h;rcases (sa.f _ hb).2 with h1|h1
   ·exact hDw h1
   ·exact h1 ls.acc.w
 |cons g gs ihg=>
  intro c c2 ps d t iter ifs xs ts single fs sg hg hdrop gok hifs hx W O s ρ items rs I fp wr St i accP R ls src sa st hi hDw hm hsz hR;cases sg with
  | @cons _ _ _ ps' t' iter' ifs' it' fs' xs' ts' single' si gok' hifs' sgs'=>
  have hn:gens[d+1]?=some ⟨t',iter',ifs',0⟩:=by have:=congrArg (·[0]?) hdrop;simpa using this
  have hdrop':gens.drop (d+1+1)=gs:=by have:=congrArg List.tail hdrop;simpa using this
  refine tF ok rm (zn4 hg hn) rfl rfl (if_neg (by decide)) gok hifs (λ{ρ' p q i s₁ Q E} hs ls1 src1 st1 k=>?_) sa hDw _ (zpv _ hm hsz) rfl ls src st hi hR;refine jL hs λaccP r e h1 hsz2 e'=>?_
  subst e e';refine aN (bind_some h1) λitems' hit h1=>?_
  rw [if_pos rfl];refine xA (jD h1) λhall h1=>?_
  refine aN (gf h1) λrs2 hrs2 e=>?_
  subst e;refine ab (bE (si.v C G K ok env W O s₁ ρ' A items' ls1.ev ls1.a rm hit hall
   (λit2 s_2=>wpAny (model C.prog C.w) A (runOwn (.compStart (.ListComp elt gens scope pos) (d+1) it2 (.ref D) env) env>>=λJ=>again (.compLoop (.ListComp elt gens scope pos) d (.ref I) (.ref D) env)) Q E s_2)
   E λI' s_2 fp' wr' St' e_2 src2 st2 hw2 hf2 hz_2=>?_)
   (λv s_2 h=>ab (bf (ab (wpAny_of_eq (si.f env v) (ab (aX h)))))) λJ J e=>e)
  have notwr: ∀b,W b->b∉wr':=λb hb hm=>by obtain ⟨J,o,ho⟩:=ls1.a.wocc b hb;have:=(hw2 b hm).2;rw [ho]at this;cases this
  have ls2:LS C (c.up xs) env (λb=>W b\/b∈wr') O s_2 ρ' D (.list accP):=by
   refine ⟨ls1.ev.grow (λb o lo eo=>e_2.new b o lo eo) (λb hb=>.inl hb) (λb hb=>by rcases hb with hb|hb;exact .inl hb;exact .inr (hw2 b hb).2),⟨e_2.inv ls1.a.inv,λb hb=>?_,af ls1.a.tok e_2.toks⟩,?_,ls.nO⟩
   ·rcases hb with hb|hb
    ·exact (ls1.a.ext e_2).wocc b hb
    ·exact ⟨(hw2 b hb).1,src2.live st2 b hb⟩
   ·exact ls1.acc.stay (λo eo=>e_2.new D o ls1.acc.lo eo) (Stay.grow (λb o lo eo=>e_2.new b o lo eo) (λb hb=>by rcases hb with hb|hb;exact .inl hb;exact .inr (hw2 b hb).2)) (.inl ls1.acc.w)
  have sa2:SrcAt C (λb=>W b\/b∈wr') O s_2.heap fp' wr':=⟨λb hb=>⟨.inr hb,λho=>notwr b (ls.ev.ow b ho) hb⟩,λb hb=>by
   refine xA (hf2 b hb) λh1 h2=>?_
   refine ⟨h1,?_⟩;by_cases hm:b∈wr'
   ·exact .inl hm
   ·rcases h2 with h2|h2
    ·exact absurd h2 hm
    ·exact .inr λh=>by rcases h with h|h;exact h2 h;exact hm h⟩
  have inner:codeAny (model C.prog C.w) A (.compLoop (.ListComp elt gens scope pos) (d+1) (.ref I') (.ref D) env) (λr s'=>match r with
    | .ok f=>wpAny (model C.prog C.w) A (again (.compLoop (.ListComp elt gens scope pos) d (.ref I) (.ref D) env)) Q E s'
    | .error e=>cameBackBy (model C.prog C.w) A env E e s') s_2:=by
   refine ihg sgs' hn hdrop' gok' hifs' hx (ρ:=ρ') ls2 src2 sa2 st2 (bD _) (λhm=>by obtain ⟨o,ho⟩:=ls1.acc.at'.live;have:=(hw2 D hm).2;rw [ho]at this;cases this) (rs:=rs2) (by rw [lT];exact hrs2) hsz2 λs3 e_3 ev3 acc3=>?_
   have e13:ExtO C (λb=>OWr c env b\/b=D) s₁ s3:=ExtN.drop (e_2.toO) e_3 (λb hb=>(hw2 b hb).2);refine k s3 e13.toN ⟨ev3.move (λb o J J eo=>eo) ls.ev.ow (λb hb=>.inl ⟨.inl hb,notwr b hb⟩),ls1.a.extO' e13,acc3.stay (λo eo=>eo) (λb o lo hw eo=>⟨eo,λhb=>hw ⟨.inl hb,notwr b hb⟩⟩) ls.acc.w,ls.nO⟩ (src1.stay (e13.stay (λb hb=>by rcases hb with hb|rfl;exact ls.ev.ow b (ls.ev.owr hb);exact ls.acc.w))) (src.frame st1 λb hb o eo=>?_);refine e13.new b o (sa.f b hb).1 (λh=>?_) eo;rcases h with h|rfl
   ·rcases (sa.f b hb).2 with h1|h1
    ·exact (sa.w b h1).2 (ls.ev.owr h)
    ·exact h1 (ls.ev.ow b (ls.ev.owr h))
   ·rcases (sa.f b hb).2 with h1|h1
    ·exact hDw h1
    ·exact h1 ls.acc.w
  exact ab (wpAny_runOwn (h:=none) (zdo hn inner (src2.self st2 inner)))
end
noncomputable def iV(env:Env):List (Str×NameKind)->List (Str×Addr)->List (Str×Addr)
 | [],acc=>acc
 |(n,k)::r,acc=>if k== .free then iV env r ((n,(env.cells.lookup n).getD 0)::acc)else iV env r acc
theorem mL(env:Env)(n:Str)(k:NameKind)(r:List (Str×NameKind))(acc:List (Str×Addr)):iV env ((n,k)::r) acc=if k== .free then iV env r ((n,(env.cells.lookup n).getD 0)::acc)else iV env r acc:=rfl
theorem zie(h: ∀n,(n,aT)∈scope.names-> ∃a,env.cells.lookup n=some a):closureFor scope env=pure (iV env scope.names []):=by
 have key: ∀(names:List (Str×NameKind)) (acc:List (Str×Addr)),(∀n,(n,aT)∈names-> ∃a,env.cells.lookup n=some a)->
   (forIn names acc λx cs=>match x with|(name,kind)=>if (kind==aT)=true then (do let a<-cellOf env name;pure (iB ((name,a)::cs)))else pure (iB cs):Sem (List (Str×Addr)))=pure (iV env names acc):=by
  intro names;induction names with
  |nil=>intro acc J;rfl
  |cons x r ih=>
   intro acc hx;obtain ⟨n,k⟩:=x;rw [uZ];by_cases hk:k= .free
   ·subst hk;obtain ⟨a,ha⟩:=hx n ag;have hc:cellOf env n=pure a:=by unfold cellOf;rw [ha]
    show ((if (aT==aT)=true then _ else _)>>=_)=_;rw [if_pos (c:=(aT==aT)=true) rfl,hc,gS,gS];refine (ih _ λm hm=>hx m (ah _ hm)).trans ?_;rw [mL,if_pos (beq_self_eq_true _),ha];rfl
   ·have hb:(k==aT)=false:=by simpa using hk
    show ((if (k==aT)=true then _ else _)>>=_)=_;have hb': ¬(k==aT)=true:=by rw [hb];exact bn
    rw [if_neg hb',gS];refine (ih _ λm hm=>hx m (ah _ hm)).trans ?_;rw [mL,if_neg hb']
 have:=key scope.names [] h;show (forIn scope.names [] _>>=λcs=>pure cs)=_;rw [bind_pure];exact this
theorem jF{κ α:Type}[BEq κ][LawfulBEq κ]{l:List (κ×α)}{x:κ}{k:α}(h:l.lookup x=some k):(x,k)∈l:=by
 refine d9 (List.lookup_eq_some_iff.mp h) λl1 l2 e J=>?_
 rw [e];exact cr _ ag
theorem rC{α:Type}{l:List (Str×α)}{x:Str}{k:α}(h:(x,k)∈l):(l.lookup x).isSome=true:=List.lookup_isSome_iff.mpr (bK _ h (beq_self_eq_true x))
theorem uF{κ α:Type}[BEq κ][LawfulBEq κ]{l:List (κ×α)}{x:κ}{k:α}(hn:(l.map (·.1)).Nodup)(h:(x,k)∈l):l.lookup x=some k:=by
 induction l with
 |nil=>exact nomatch h
 |cons p r ih=>
  rw [ax,dd]at hn;rcases aw.mp h with e|h
  ·rw [<-e];exact List.lookup_cons_self
  ·have hne:(x==p.1)=false:=beq_eq_false_iff_ne.mpr λe=>hn.1 (e▸bg.mpr (bK _ h rfl))
   exact (by rw [aG,hne]:(p::r).lookup x=r.lookup x).trans (ih hn.2 h)
theorem zu7: ∀{acc:List (Str×Addr)},(x,a)∈iV env names acc->(x,a)∈acc\/((x,aT)∈names/\(env.cells.lookup x).getD 0=a):=by
 induction names with
 |nil=>exact λh=>.inl h
 |cons p r ih=>
  intro acc h;have up:(x,a)∈acc\/((x,aT)∈r/\(env.cells.lookup x).getD 0=a)->(x,a)∈acc\/((x,aT)∈p::r/\(env.cells.lookup x).getD 0=a):=λh=>h.imp_right λh=>⟨ah _ h.1,h.2⟩
  by_cases hk:(p.2== .free)=true
  ·rw [mL,if_pos hk]at h;rcases ih h with h|h
   ·rcases aw.mp h with e|h
    ·refine xA (Prod.mk.inj e) λe1 e2=>?_
     exact .inr ⟨aw.mpr (.inl (by rw [e1,<-dw hk])),by rw [e1];exact e2.symm⟩
    ·exact .inl h
   ·exact up (.inr h)
  ·rw [mL,if_neg hk]at h;exact up (ih h)
theorem zrp: ∀{acc:List (Str×Addr)},q∈acc->q∈iV env names acc:=by
 induction names with
 |nil=>exact λh=>h
 |cons p r ih=>
  intro acc h;rw [mL];by_cases hk:(p.2== .free)=true
  ·rw [if_pos hk];exact ih (ah _ h)
  ·rw [if_neg hk];exact ih h
theorem zpw(h:(x,aT)∈names): ∀{acc:List (Str×Addr)},∃a,(x,a)∈iV env names acc:=by
 induction names with
 |nil=>exact nomatch h
 |cons p r ih=>
  intro acc;rcases aw.mp h with e|h
  ·rw [<-e,mL,if_pos (beq_self_eq_true _)];exact ⟨_,zrp ag⟩
  ·rw [mL];by_cases hk:(p.2== .free)=true
   ·rw [if_pos hk];exact ih h
   ·rw [if_neg hk];exact ih h
theorem pj(env:Env)(names:List (Str×NameKind)){x:Str}{a:Addr}(h:(iV env names []).lookup x=some a):(x,aT)∈names/\(env.cells.lookup x).getD 0=a:=(zu7 (jF h)).resolve_left nofun
theorem zmy(env:Env)(names:List (Str×NameKind)){x:Str}(h:(x,aT)∈names): ∃a,(iV env names []).lookup x=some a:=by obtain ⟨a,ha⟩:=zpw (env:=env) (acc:=[]) h;exact dB.mp (rC ha)
theorem ol(n:Nat)(x:Str)(k:NameKind)(r:List (Str×NameKind))(acc:List (Str×Addr)):dG n ((x,k)::r) acc=if k== .cell then dG (n+1) r ((x,n)::acc)else dG n r acc:=rfl
theorem uk(names:List (Str×NameKind)): ∀(n:Nat) (acc:List (Str×Addr)),dG n names acc=dG n names []++acc:=by
 induction names with
 |nil=>exact λJ J=>rfl
 |cons p r ih=>
  intro n acc;rw [ol,ol];by_cases hk:(p.2== .cell)=true
  ·rw [if_pos hk,if_pos hk,ih,ih _ [_],cT];rfl
  ·rw [if_neg hk,if_neg hk];exact ih _ _
theorem zxq: ∀{n:Nat},(x,a)∈dG n names []->(x,gI)∈names:=by
 induction names with
 |nil=>exact λh=>nomatch h
 |cons p r ih=>
  intro n h;rw [ol]at h;by_cases hk:(p.2== .cell)=true
  ·rw [if_pos hk,uk]at h;rcases ec.mp h with h|h
   ·exact ah _ (ih h)
   ·exact aw.mpr (.inl (by rw [(Prod.mk.inj (aE.mp h)).1,<-dw hk]))
  ·rw [if_neg hk]at h;exact ah _ (ih h)
theorem zk4(h:(x,gI)∈names): ∀{n:Nat} {acc:List (Str×Addr)},∃a,(x,a)∈dG n names acc:=by
 induction names with
 |nil=>exact nomatch h
 |cons p r ih=>
  intro n acc;rcases aw.mp h with e|h
  ·rw [<-e,ol,if_pos (beq_self_eq_true _),uk];exact ⟨n,cr _ ag⟩
  ·rw [ol];by_cases hk:(p.2== .cell)=true
   ·rw [if_pos hk];exact ih h
   ·rw [if_neg hk];exact ih h
theorem zfv(names:List (Str×NameKind))(n:Nat){x:Str}{a:Addr}(h:(dG n names []).lookup x=some a):(x,gI)∈names:=zxq (jF h)
theorem zif(names:List (Str×NameKind))(n:Nat){x:Str}(h:(x,gI)∈names): ∃a,(dG n names []).lookup x=some a:=by obtain ⟨a,ha⟩:=zk4 (n:=n) (acc:=[]) h;exact dB.mp (rC ha)
theorem zmd:(relabel scope env).names.lookup x=scope.names.lookup x\/(scope.names.lookup x=some .free/\(relabel scope env).names.lookup x=some .cell):=by
 unfold relabel;simp only;generalize scope.names=names;induction names with
 |nil=>exact .inl rfl
 |cons p r ih=>
  obtain ⟨n,k⟩:=p;simp only [ax];by_cases hx:x=n
  ·subst hx;by_cases hc:(k== .free&&env.scope.kind== .function&&env.kindOf x==some .cell)=true
   ·rw [if_pos hc];simp only [an]at hc;have:k= .free:=by simpa using hc.1.1
    subst this;exact .inr (by simp [aG])
   ·rw [if_neg hc];exact .inl (by simp [aG])
  ·have hb:(x==n)=false:=beq_eq_false_iff_ne.mpr hx;split
   ·simp only [aG,hb];exact ih
   ·simp only [aG,hb];exact ih
section
variable{M:Model}{A:Around}{E:Value->Shared->Prop}{s:Shared}
theorem zho(h:Q (newEnv scope s.heap.objs.size globals (dG (s.heap.objs.size+1) scope.names cl) qual none .none (some env) cM) {s with heap:=pushCells (s.heap.push {cls:=.type "dict",data:=.dict #[]}) scope.names}): wpAny M A (newFunctionEnv scope globals cl [] qual none .none (some env)) Q E s:=by simp only [newFunctionEnv,Option.isSome_some,if_true];refine ab (wpAny_alloc ?_);refine ab (wpAny_layCells _ (λname kind cells=>by cases hkc:kind==gI<;>simp [hkc]) _ _ _ _ ?_);rw [show ({s with heap:=s.heap.push {cls:=.type "dict",data:=.dict #[]}}:Shared).heap.objs.size=s.heap.objs.size+1 from eJ ..];exact am h
end
end Mine.Internal
namespace Mine.Internal
open PySem PySem.Calls PyProof.Rows
structure ScOk(c:CE)(scope:Scope):Prop where
 kind:scope.kind= .function
 nodup:(scope.names.map (·.1)).Nodup
 free: ∀n,(n,aT)∈scope.names->(c.sc.names.lookup n=some .cell\/c.sc.names.lookup n=some .free)/\ ∀i,idx c.σ n=some i->visK c.base i (c.sc.names.lookup n)=true
section
variable{C:CX}{c:CE}{env:Env}{W O:Addr->Prop}{ρ:Rho}
noncomputable def kV(scope:Scope)(L:Addr)(env:Env):Env:={newEnv scope L env.globals (dG (L+1) scope.names (iV env scope.names [])) env.qual none .none (some env) cM with scope:=relabel scope env}
theorem oP(e:Ext C s s₁)(hb:C.n₀<=b)(h:s₁.heap.get? b=none):s.heap.get? b=none:=by
 cases hh:s.heap.get? b with
 |none=>rfl
 |some o=>have:=e.new _ o hb hh;rw [h]at this;exact cu this
theorem zu8{h:Heap}{b:Addr}(hb:h.objs.size<=b):h.get? b=none:=by
 cases hh:h.get? b with
 |none=>rfl
 |some o=>exact absurd (aB hh) (pJ.mpr hb)
theorem z2f{s:Shared}{scope:Scope}(ev:dq C c env W O s.heap ρ)(a:At C W s)(so:ScOk c scope): let h':=pushCells (s.heap.push {cls:=.type "dict",data:=.dict #[]}) scope.names
  (∀b o,s.heap.get? b=some o->h'.get? b=some o)/\
  ∃N:Addr->Prop,(∀b,N b->C.n₀<=b/\s.heap.get? b=none/\ ∃o,h'.get? b=some o)/\(∀b,N b->s.heap.objs.size<=b)/\(∀b,OWr {c with sc:=scope,base:=c.σ.length} (kV scope s.heap.objs.size env) b->N b)/\
   dq C {c with sc:=scope,base:=c.σ.length} (kV scope s.heap.objs.size env) (λb=>W b\/N b) (λb=>O b\/N b) h' ρ:=by
 intro h';have hkeep: ∀b o,s.heap.get? b=some o->h'.get? b=some o:=λb o e=>pushCells_keeps _ _ b o (aq _ e)
 refine ⟨hkeep,?_⟩;have hcells:=cellsFrom_ok scope.names (s.heap.push {cls:=.type "dict",data:=.dict #[]}) (s.heap.objs.size+1) [] ⟨λJ J hm=>(nomatch hm),List.Pairwise.nil⟩ (by rw [eJ];exact az _);rw [eJ]at hcells
 let nc:=dG (s.heap.objs.size+1) scope.names []
 let cl:=iV env scope.names []
 have hcs:(kV scope s.heap.objs.size env).cells=nc++cl:=uk _ _ _;have hL:h'.Ns s.heap.objs.size λJ=>none:=(Heap.Ns.new s.heap (.type "dict")).keeps (pushCells_keeps _ _)
 let N:Addr->Prop:=λb=>b=s.heap.objs.size\/ ∃n,(n,b)∈nc
 have hN: ∀b,N b->C.n₀<=b/\s.heap.get? b=none/\ ∃o,h'.get? b=some o:=λb hb=>by
  show let g_:=_;g_;intro g_;rcases hb with rfl|⟨n,hn⟩
  ·refine gO hL λo J J ho J=>?_
   exact ⟨a.low,jA,o,ho⟩
  ·obtain ⟨⟨o,ho,J⟩,hlo⟩:=hcells.empty n b hn;exact ⟨aa (Nat.le_succ_of_le a.low) hlo,zu8 (iP hlo),o,ho⟩
 have hfree: ∀n,(n,aT)∈scope.names-> ∃b v,env.cells.lookup n=some b/\O b/\s.heap.IsCell b v:=λn hn=>ev.cells n (so.free n hn).1
 have look_free: ∀{n:Str},scope.names.lookup n=some .free-> ∃b v,(kV scope s.heap.objs.size env).cells.lookup n=some b/\env.cells.lookup n=some b/\O b/\s.heap.IsCell b v:=λ{n} hn=>by
  have hm:=jF hn;show let g_:=_;g_;intro g_;refine ek (hfree n hm) λb v h1 h2 h3=>?_
  refine jK b v ?_ h1 h2 h3;rw [hcs,io];have:nc.lookup n=none:=by
   cases hc:nc.lookup n with
   |none=>rfl
   |some b'=>have:=uF so.nodup (zfv _ _ hc);rw [hn]at this;cases this
  rw [this,lN];obtain ⟨b',hb'⟩:=zmy env scope.names hm;have:=(pj env scope.names hb').2;rw [h1]at this;subst this;exact hb'
 have kindOf': ∀x,(kV scope s.heap.objs.size env).kindOf x=scope.names.lookup x\/(scope.names.lookup x=some .free/\(kV scope s.heap.objs.size env).kindOf x=some .cell):=λx=>zmd
 have varsKey: ∀x i sl,idx c.σ x=some i->visK c.σ.length i (scope.names.lookup x)=true->ρ[i]?=some (some sl)->
   ∃v,fQ s.heap env C.n₀ x v/\fQ h' (kV scope s.heap.objs.size env) C.n₀ x v/\RepS C s.heap W (λb=>O b/\b≠env.locals) sl v/\visK c.base i (c.sc.names.lookup x)=true:=λx i sl h1 h2 h3=>by
  have hf:scope.names.lookup x=some .free:=by
   revert h2;cases scope.names.lookup x with
   |none=>exact ft
   |some k=>intro h2;induction k<;>first|rfl|exact absurd (of_decide_eq_true h2) (Nat.not_le.mpr (k9 h1))|exact ft h2
  have hvis:=(so.free x (jF hf)).2 i h1;show let g_:=_;g_;intro g_;refine aN (ev.vars x i sl h1 hvis h3) λv g1 g2=>?_
  refine jL (look_free hf) λb u k1 k2 k3 k4=>?_
  refine k6 v g1 ?_ g2 hvis;have hkk:(kV scope s.heap.objs.size env).kindOf x=some .cell\/(kV scope s.heap.objs.size env).kindOf x=some .free:=by
   rcases kindOf' x with h|⟨J,h⟩
   ·exact .inr (h.trans hf)
   ·exact .inl h
  induction g1 with
  |loc k n e'=>
   exfalso;rcases ev.names x with h|⟨h,h'⟩|h
   ·show let g_:=_;g_;intro g_;rcases (so.free x (jF hf)).1 with g|g<;>rw [h,g]at k<;>cases k
   ·rw [h']at k;cases k
   ·rcases (so.free x (jF hf)).1 with g|g<;>rw [h]at g<;>cases g
  |cell k l lo i'=>
   rw [k2]at l;replace l:=oj l;subst l;refine aN i' λo ho hd=>?_
   exact .cell hkk k1 lo (bK o (hkeep _ _ ho) hd)
 refine k6 N hN (λb hb=>?_) (λb hb=>?_) ?_
 ·show let g_:=_;g_;intro g_;rcases hb with rfl|⟨n,hn⟩
  ·exact az _
  ·exact iP (hcells.empty n b hn).2
 ·rcases hb with rfl|⟨x,h1,h2⟩
  ·exact .inl rfl
  ·rw [hcs,io]at h2;cases hc:nc.lookup x with
   |some b'=>rw [hc]at h2;simp at h2;subst h2;exact .inr ⟨x,jF hc⟩
   |none=>obtain ⟨b',hb'⟩:=zif scope.names (s.heap.objs.size+1) (jF h1);rw [show nc.lookup x=some b' from hb']at hc;cases hc
 ·have hne: ∀b o,s.heap.get? b=some o->b≠s.heap.objs.size:=λb o e h=>by subst h;exact aW _ (aB e)
  exact {
   glob:=ev.glob
   bui:=ev.bui
   kind:=so.kind
   ow:=λb hb=>by rcases hb with hb|hb;exact .inl (ev.ow b hb);exact .inr hb
   lo:=λb hb=>by rcases hb with hb|hb;exact ev.lo b hb;exact (hN b hb).1
   loc:=.inr (.inl rfl)
   ns:=⟨_,hL⟩
   names:=λx=>(kindOf' x).imp_right .inl
   cells:=λx hx=>by
    show let g_:=_;g_;intro g_;rcases hx with hx|hx
    ·obtain ⟨b,hb⟩:=zif scope.names (s.heap.objs.size+1) (jF hx);refine eg b none ?_ (.inr (.inr ⟨x,jF hb⟩)) ((hcells.empty x b (jF hb)).1);rw [hcs,io,show nc.lookup x=some b from hb];rfl
    ·obtain ⟨b,u,k1,k2,k3,o,ho,hd⟩:=look_free hx;exact mN b u k1 (.inl k3) o (hkeep _ _ ho) hd
   cinj:=λx y b hx hy=>by
    rw [hcs,io]at hx hy;have old: ∀{z},cl.lookup z=some b->env.cells.lookup z=some b/\ ∃o,s.heap.get? b=some o:=λ{z} hz=>by
     show let g_:=_;g_;intro g_;refine xA (pj env scope.names hz) λg1 g2=>?_
     obtain ⟨b',v,k1,k2,o,ho,J⟩:=hfree z g1;rw [k1]at g2;simp at g2;subst g2;exact ⟨k1,o,ho⟩
    have new: ∀{z},nc.lookup z=some b->s.heap.get? b=none:=λ{z} hz=>(hN b (.inr ⟨z,jF hz⟩)).2.1
    cases hcx:nc.lookup x with
    |some bx=>
     rw [hcx]at hx;simp at hx;subst hx;cases hcy:nc.lookup y with
     |some by'=>rw [hcy]at hy;simp at hy;subst hy;exact name_of_addr hcells.apart (jF hcx) (jF hcy)
     |none=>rw [hcy,lN]at hy;obtain ⟨J,o,ho⟩:=old hy;rw [new hcx]at ho;exact cu ho
    |none=>
     rw [hcx,lN]at hx;obtain ⟨e1,o,ho⟩:=old hx;cases hcy:nc.lookup y with
     |some by'=>rw [hcy]at hy;simp at hy;subst hy;rw [new hcy]at ho;exact cu ho
     |none=>rw [hcy,lN]at hy;exact ev.cinj x y b e1 (old hy).1
   top:=ev.top
   vars:=λx i sl h1 h2 h3=>by
    refine n9 (varsKey x i sl h1 h2 h3) λv g1 g2 g3 J=>?_
    refine bK v g2 ?_;have hS:Stay C s.heap h' W (λb=>W b\/N b):=Stay.grow (λb o J e=>hkeep b o e) λb hb=>by rcases hb with hb|hb;exact .inl hb;exact .inr (hN b hb).2.1
    show let g_:=_;g_;intro g_;induction g3 with
    |val r=>exact .val (Rep.stay hS _ _ r)
    |own w lo l r z=>exact .own ⟨.inl w.1,hne _ _ l⟩ lo (hkeep _ _ l) (RepL.stay hS _ _ r) z
    |ownD w lo g r=>
     refine gO g λo e1 e2 ho hr=>?_
     exact .ownD ⟨.inl w.1,hne _ _ ho⟩ lo (gz o e1 e2 (hkeep _ _ ho) hr) (RepD.stay hS _ _ r)
   apart:=λx y i j sl tl v h1 h2 k1 k2 h3 h4 h5 h6 h7 h8=>by
    refine n9 (varsKey x i sl h1 k1 h3) λu g1 g2 J g4=>?_
    refine n9 (varsKey y j tl h2 k2 h4) λu' g1' g2' J g4'=>?_
    have e1:=h7.fn g2;have e2:=h8.fn g2';subst e1 e2;exact ev.apart x y i j sl tl _ h1 h2 g4 g4' h3 h4 h5 h6 g1 g1'}
end
section
variable{c:CE}{pos:Pos}
noncomputable def iu(c:CE)(scope:Scope):CE:={c with sc:=scope,base:=c.σ.length}
structure CompEnd(C:CX)(W:Addr->Prop)(s s5:Shared)(L D:Addr)(P:Addr->Prop)(l:PV):Prop where
 ext:Ext C s s5
 priv: ∀b,P b->C.n₀<=b/\s.heap.get? b=none
 pL:P L
 pD: ¬P D
 wD: ¬W D
 dn:s.heap.get? D=none
 dlo:C.n₀<=D
 ns: ∃m,s5.heap.Ns L m
 acc:AccAt C s5.heap (λb=>W b\/P b) D l
theorem AccAt.rep(a:AccAt C h W D l)(hw: ¬W D)(lo:C.n₀<=D)(hz: ∀xs,listOf l=some xs->xs.length<=aM):Rep C h W l (.ref D):=by
 induction a with
 |list g r=>exact kW D _ _ rfl hw lo g r (hz _ rfl)
 |dict g r=>exact kg D _ rfl hw lo g r
theorem CompEnd.fin(x:CompEnd C W s s5 L D P l)(hz: ∀xs,listOf l=some xs->xs.length<=aM)(hs:Heap.SameBut L s5.heap h'):Ext C s {s5 with heap:=h'}/\Rep C h' W l (.ref D):=by
 refine ⟨⟨⟨λb o lo eo=>(hs.2 b (λh=>?_)).trans (x.ext.new b o lo eo),λhi=>C.keepBut (x.priv _ x.pL).1 (λo eo=>by obtain ⟨m,hn⟩:=x.ns;exact z9s hn eo) (λb o hb eo=>(hs.2 b hb).trans eo) (x.ext.inv hi),x.ext.gens,x.ext.drawn,x.ext.os⟩,x.ext.toks⟩,?_⟩
 ·show let g_:=_;g_;intro g_;subst h;rw [(x.priv _ x.pL).2]at eo;exact cu eo
 ·refine (x.acc.stay (W':=W) (λo eo=>(hs.2 D (λh=>by subst h;exact x.pD x.pL)).trans eo) (λb o lo hw eo=>⟨(hs.2 b (λh=>?_)).trans eo,λhb=>hw (.inl hb)⟩)).rep x.wD x.dlo hz;subst h;exact hw (.inr x.pL)
theorem zpy{e t iter:Expr}{ifs:List Expr}{gs:List Comprehension}{scope:Scope}{xs:List Str}{ts:List Nat}{single:Bool}{it:PI}{mk:Sem Value}{o0:Obj}{acc0 accN:PV}(si:SI c iter it single)(so:ScOk c scope)(gok:GOk (iu c scope) t xs ts single)(hcl:clausesOf e=⟨t,iter,ifs,0⟩::gs){C:CX}{G:GT}{K:Nat}(ok:FnOk C G K){env:Env}{W O:Addr->Prop}{s:Shared}{ρ:Rho}{A:Around}(ev:dq C c env W O s.heap ρ)(a:At C W s)(rm:Room A K){items:List PV}(hmk: ∀{Q E:Value->Shared->Prop} {s:Shared},Q (.ref s.heap.objs.size) {s with heap:=s.heap.push o0}->wpAny (model C.prog C.w) A mk Q E s)(hfr:o0.isFreed=false)(h00: ∀{h:Heap} {W:Addr->Prop},AccAt C (h.push o0) W h.objs.size acc0)(start: ∀{R:Result->Shared->Prop} {s:Shared} {it acc:Value} {env:Env},codeAny (model C.prog C.w) A (.compLoop e 0 it acc env) R s-> wpAny (model C.prog C.w) A (pyIter it) (λit' s'=>codeAny (model C.prog C.w) A (.compLoop e 0 it' acc env) R s') (notedBy (model C.prog C.w) A env λx s'=>R (.error x) s') s->codeAny (model C.prog C.w) A (.compStart e 0 it acc env) R s)(loop: ∀{env:Env} {W O:Addr->Prop} {s:Shared} {I D:Addr} {fp wr:List Addr} {St:Nat->Heap->Prop} {R:Result->Shared->Prop},LS C (iu c scope) env W O s ρ D acc0->Src C A W s.heap I single fp wr items St->SrcAt C W O s.heap fp wr->St 0 s.heap->D∉wr-> (∀s',ExtN C (λb=>OWr (iu c scope) env b\/b=D) (· ∈wr) s s'->dq C (iu c scope) env (λb=>W b/\b∉wr) O s'.heap ρ->Acc C (λb=>W b/\b∉wr) s'.heap D accN->R (.ok .next) s')-> codeAny (model C.prog C.w) A (.compLoop e 0 (.ref I) (.ref D) env) R s)(hit:iS G it ρ=some items)(hall:(single||items.all isTup)=true){use:Option (Value->Sem Unit)}{Q E:Value->Shared->Prop}{pos:Pos}(k: ∀s5 L D P,CompEnd C W s s5 L D P accN->compPost (model C.prog C.w) A E use Q (.ref D) L (.ok .next) s5): wpAny (model C.prog C.w) A (comprehension e scope env pos mk false (eval iter env) use) Q E s:=by
 refine wpAny_comprehension_free (use:=use) hcl (si.f env) (zie (λn hn=>by obtain ⟨b,J,hb,J⟩:=ev.cells n (so.free n hn).1;exact ⟨b,hb⟩)) so.kind (λy hy hl=>by obtain ⟨n,k⟩:=y;subst hl;exact uF so.nodup hy) ?_;refine si.v C G K ok env W O s ρ A items ev a rm hit hall _ _ λI s_2 fp wr St e_2 src2 st2 hw2 hf2 hz_2=>?_
 refine hmk ?_
 let s3:Shared:={s_2 with heap:=s_2.heap.push o0}
 let D:Addr:=s_2.heap.objs.size
 show let z_:=_;let y_:=_;wpAny _ _ _ z_ y_ _;intro z_ y_;have e_3:Ext C s_2 s3:=kD;have hs3z:s3.heap.objs.size=D+1:=eJ ..
 let W3:Addr->Prop:=λb=>W b\/b∈wr\/b=D
 have wrocc:=src2.live st2;have a_2:=a.ext e_2;have wrW: ∀b,W b->b∉wr:=λb hb hm=>by obtain ⟨J,o,ho⟩:=a.wocc b hb;have:=(hw2 b hm).2;rw [ho]at this;cases this
 have DW:=a_2.nw;have a_3:At C W3 s3:=⟨e_3.inv a_2.inv,λb hb=>by
  rcases hb with hb|hb|rfl
  ·exact (a_2.ext e_3).wocc b hb
  ·obtain ⟨o,ho⟩:=wrocc b hb;exact ⟨(hw2 b hb).1,o,aq _ ho⟩
  ·exact ⟨a_2.low,_,au _ hfr⟩,(a_2.ext e_3).tok⟩
 have ev3:dq C c env W3 O s3.heap ρ:=ev.grow (λb o lo eo=>(e_2.trans e_3).new b o lo eo) (λb hb=>.inl hb) λb hb=>by
  rcases hb with hb|hb|rfl
  ·exact .inl hb
  ·exact .inr (hw2 b hb).2
  ·exact .inr (oP e_2 a_2.low jA)
 show let g_:=_;g_;intro g_;obtain ⟨keep4,N,hN,hNz,hOW,ev4⟩:=z2f (scope:=scope) ev3 a_3 so;refine zho ?_
 let s4:Shared:={s3 with heap:=pushCells (s3.heap.push {cls:=.type "dict",data:=.dict #[]}) scope.names}
 have e_4:Ext C s3 s4:=⟨.grow keep4,az _⟩
 let W4:Addr->Prop:=λb=>W3 b\/N b
 let O4:Addr->Prop:=λb=>O b\/N b
 have a_4:At C W4 s4:=⟨e_4.inv a_3.inv,λb hb=>by
  rcases hb with hb|hb
  ·exact (a_3.ext e_4).wocc b hb
  ·exact ⟨(hN b hb).1,(hN b hb).2.2⟩,(a_3.ext e_4).tok⟩
 have NwrD: ∀b,N b->b∉wr/\b≠D/\ ¬W b:=λb hb=>by
  have hn:=(hN b hb).2.1;refine ⟨λhm=>?_,λh=>?_,λhw=>?_⟩
  ·obtain ⟨o,ho⟩:=wrocc b hm;rw [aq _ ho]at hn;cases hn
  ·have:=hNz b hb;rw [hs3z]at this;subst h;exact aW _ this
  ·obtain ⟨J,o,ho⟩:=(a_2.ext e_3).wocc b hw;rw [ho]at hn;cases hn
 have fresh4: ∀b,W4 b->W b\/(b∈wr\/(b=D\/N b)):=λb hb=>by
  rcases hb with (hb|hb|hb)|hb
  ·exact .inl hb
  ·exact .inr (.inl hb)
  ·exact .inr (.inr (.inl hb))
  ·exact .inr (.inr (.inr hb))
 have src4:Src C A W4 s4.heap I single fp wr items St:=src2.stay λb o lo hw eo=>⟨keep4 b o (aq _ eo),λhb=>by
  rcases fresh4 b hb with h|h|h|h
  ·exact hw (.inl h)
  ·exact hw (.inr h)
  ·subst h;exact aW _ (aB eo)
  ·have:=(hN b h).2.1;rw [aq _ eo]at this;cases this⟩
 have st4:=src2.frame st2 λb J o eo=>keep4 b o (aq _ eo)
 have sa4:SrcAt C W4 O4 s4.heap fp wr:=⟨λb hb=>⟨.inl (.inr (.inl hb)),λh=>by
   rcases h with h|h
   ·exact wrW b (ev.ow b h) hb
   ·exact (NwrD b h).1 hb⟩,λb hb=>by
   refine ⟨(hf2 b hb).1,?_⟩;by_cases hm:b∈wr
   ·exact .inl hm
   ·refine .inr λh=>?_
    rcases fresh4 b h with h|h|h|h
    ·rcases (hf2 b hb).2 with h2|h2
     ·exact hm h2
     ·exact h2 h
    ·exact hm h
    ·have:=(by obtain ⟨J,ho⟩:=hz_2 b hb;exact aB ho:b<s_2.heap.objs.size);subst h;exact aW _ this
    ·have h1:=hNz b h;rw [hs3z]at h1;have:=(by obtain ⟨J,ho⟩:=hz_2 b hb;exact aB ho:b<s_2.heap.objs.size);exact aW _ (gw this (Nat.lt_of_succ_le h1))⟩
 have ls4:LS C (iu c scope) (kV scope s3.heap.objs.size env) W4 O4 s4 ρ D acc0:=⟨ev4,a_4,⟨a_2.low,.inl (.inr (.inr rfl)),(h00 (h:=s_2.heap) (W:=W4)).stay (λo eo=>keep4 _ _ eo) λb o J hw eo=>⟨keep4 _ _ eo,hw⟩⟩,λh=>by
  rcases h with h|h
  ·exact DW (ev.ow D h)
  ·exact (NwrD D h).2.1 rfl⟩
 have inner:codeAny (model C.prog C.w) A (.compLoop e 0 (.ref I) (.ref D) (kV scope s3.heap.objs.size env)) (compPost (model C.prog C.w) A E use Q (.ref D) s3.heap.objs.size) s4:=by
  refine loop ls4 src4 sa4 st4 (λhm=>by obtain ⟨o,ho⟩:=wrocc D hm;exact aW _ (aB ho)) λs5 e_5 ev5 acc5=>?_
  have hL3:s3.heap.objs.size≠D:=by rw [hs3z];exact Nat.succ_ne_self _
  refine k s5 s3.heap.objs.size D N ⟨⟨⟨λb o lo eo=>?_,λhi=>e_5.inv (e_4.inv (e_3.inv (e_2.inv hi))),e_5.gens.trans e_2.gens,e_5.drawn.trans e_2.drawn,e_5.os.trans e_2.os⟩,aa e_2.toks e_5.toks⟩,λb hb=>⟨(hN b hb).1,oP (e_2.trans e_3) (hN b hb).1 (hN b hb).2.1⟩,(hOW _ (.inl rfl)),
   λh=>(NwrD D h).2.1 rfl,DW,oP e_2 a_2.low jA,a_2.low,ev5.ns,?_⟩
  ·have o2:=e_2.new b o lo eo;have hlt:=aB o2;exact e_5.new b o lo (λh=>by rcases h with h|h;exact (λhb=>by have:=hNz b hb;rw [hs3z]at this;exact aW _ (gw hlt (Nat.lt_of_succ_le this))) (hOW b h);subst h;exact aW _ hlt) (λhm=>by have:=(hw2 b hm).2;rw [eo]at this;cases this) (keep4 b o (aq _ o2))
  ·exact acc5.at'.stay (λo eo=>eo) λb o lo hw eo=>⟨eo,λhb=>by
    rcases hb with hb|hb
    ·exact hw ⟨.inl (.inl hb),wrW b hb⟩
    ·exact hw ⟨.inr hb,(NwrD b hb).1⟩⟩
 exact start inner (src4.self st4 inner)
theorem zpz{elt t iter:Expr}{ifs:List Expr}{gs:List Comprehension}{scope:Scope}{x:PE}{xs:List Str}{ts:List Nat}{single:Bool}{it:PI}{fs:List PE}{ps:List PG}{c2:CE}(si:SI c iter it single)(so:ScOk c scope)(gok:GOk (iu c scope) t xs ts single)(hifs:SEs ((iu c scope).up xs) ifs fs)(sgs:SGs ((iu c scope).up xs) gs ps c2)(hx:SE c2 elt x){C:CX}{G:GT}{K:Nat}(ok:FnOk C G K){env:Env}{W O:Addr->Prop}{s:Shared}{ρ:Rho}{A:Around}(ev:dq C c env W O s.heap ρ)(a:At C W s)(rm:Room A K){items:List PV}{rs:List (List PV)}(hit:iS G it ρ=some items)(hall:(single||items.all isTup)=true)(hrs:items.mapM (rM G ts single fs ps x ρ)=some rs)(hsz:f0 rs.flatten.length=true){use:Option (Value->Sem Unit)}{Q E:Value->Shared->Prop}(k: ∀s5 L D P,CompEnd C W s s5 L D P (.list rs.flatten)->compPost (model C.prog C.w) A E use Q (.ref D) L (.ok .next) s5): wpAny (model C.prog C.w) A (comprehension (.ListComp elt (⟨t,iter,ifs,0⟩::gs) scope pos) scope env (firstIterPos (⟨t,iter,ifs,0⟩::gs) pos) (newList []) (firstAsync (⟨t,iter,ifs,0⟩::gs)) (firstIter (⟨t,iter,ifs,0⟩::gs) env) use) Q E s:=
 zpy (o0:={cls:=.type "list",dict:=none,data:=.seq ([]:List Value).toArray}) (acc0:=.list []) si so gok rfl ok ev a rm (λq=>fB (T:="list") q (by show ([]:List Value).toArray.size<=aM;exact bD _)) rfl (.list (au _ rfl) rfl) (zdo rfl)
  (λls src sa st hD hR=>zxp ok rm gs (c:=iu c scope) sgs rfl rfl gok hifs hx ls src sa st (bD _) hD (rs:=rs) (by rw [lT];exact hrs) (by rw [j2,eu,av];exact of_decide_eq_true hsz) hR) hit hall k
theorem tD{rs:List (List PV)}(hsz:f0 rs.flatten.length=true)(xs:List PV)(e:listOf (.list rs.flatten)=some xs):xs.length<=aM:=by obtain rfl:=oj e;rw [av];exact of_decide_eq_true hsz
theorem zmz(h:be G (.comp x (.mk ts single it fs::ps)) ρ=some p): ∃items rs,iS G it ρ=some items/\(single||items.all isTup)=true/\items.mapM (rM G ts single fs ps x ρ)=some rs/\f0 rs.flatten.length=true/\p= .list rs.flatten:=by
 show let g_:=_;g_;intro g_;refine aN (bind_some h) λl h1 h2=>?_
 refine aN (bind_some h1) λitems hit h1=>?_
 refine xA (jD h1) λhall h3=>?_
 refine aN (gf h3) λrs hrs e_=>?_
 subst e_;refine xA (gP h2) λhsz e_=>?_
 subst e_;exact kg items rs hit hall hrs hsz rfl
theorem zxr(si:SI c iter it single)(so:ScOk c scope)(gok:GOk (iu c scope) t xs ts single)(hifs:SEs ((iu c scope).up xs) ifs fs)(sgs:SGs ((iu c scope).up xs) gs ps c2)(hx:SE c2 elt x): SE c (.ListComp elt (⟨t,iter,ifs,0⟩::gs) scope pos) (.comp x (.mk ts single it fs::ps)):=.only (λC G K ok env W O s ρ A p ev a rm h Q E q=>by
 refine lf (zmz h) λitems rs hit hall hrs hsz e_=>?_
 subst e_;rw [eval_ListComp];refine zpz si so gok hifs sgs hx ok ev a rm hit hall hrs hsz λs5 L D P ce=>?_
 obtain ⟨m,hm⟩:=ce.ns;exact (bK m hm (λh' hs=>q _ _ (ce.fin (tD hsz) hs).1 (ce.fin (tD hsz) hs).2))) (λG ρ=>by simp only [tE]) (λJ J=>rfl)
end
end Mine.Internal
namespace Mine.Internal
open PySem PySem.W PySem.Calls PyProof.Rows PySem.Challenge
set_option backward.match.sparseCases false
structure Fr'(C:CX)(s0:Shared)(W₀ O0 W O:Addr->Prop)(s:Shared):Prop where
 ext:ExtO C O0 s0 s
 w: ∀b,W b->W₀ b\/O b
 w0: ∀b,W₀ b->W b
 fresh: ∀b,O b->O0 b\/s0.heap.get? b=none
 dj: ∀b,W₀ b-> ¬O b
section
variable{C:CX}{c:CE}{env:Env}{W₀ O0 W O:Addr->Prop}{s0 s s':Shared}{ρ:Rho}
theorem Fr'.step(f:Fr' C s0 W₀ O0 W O s)(x:ExtO C X s s')(hX: ∀b,X b->O b):Fr' C s0 W₀ O0 W O s' where
 ext:=⟨λb o lo h0 e=>x.new b o lo (λh=>by rcases f.fresh b (hX b h)with h1|h1;exact h0 h1;rw [h1]at e;exact cu e) (f.ext.new b o lo h0 e),
  λb o lo e=>by obtain ⟨o',e'⟩:=f.ext.occ b o lo e;exact x.occ b o' lo e',λh=>x.inv (f.ext.inv h),x.gens.trans f.ext.gens,x.drawn.trans f.ext.drawn,x.os.trans f.ext.os,aa f.ext.toks x.toks⟩
 w:=f.w
 w0:=f.w0
 fresh:=f.fresh
 dj:=f.dj
theorem Fr'.ext'(f:Fr' C s0 W₀ O0 W O s)(x:Ext C s s'):Fr' C s0 W₀ O0 W O s':=⟨f.ext.trans x.toO,f.w,f.w0,f.fresh,f.dj⟩
noncomputable def After(C:CX)(c:CE)(env:Env)(s0:Shared)(W₀ O0:Addr->Prop)(Q:Flow->Shared->Prop):Out->Prop
 | .next ρ'=>∀W O s',Fr' C s0 W₀ O0 W O s'->dq C c env W O s'.heap ρ'->At C W s'->Q .next s'
 | .ret v=>∀val s',ExtO C O0 s0 s'->Rep C s'.heap W₀ v val->Q (.ret val) s'
def SSx(c:CE)(run:Env->Sem Flow)(l:GT->Rho->Option Out):Prop:=∀(C:CX) (G:GT) (K:Nat) (_:FnOk C G K) (env:Env) (A:Around) (s0:Shared) (W₀ O0:Addr->Prop),Room A K-> ∀(W O:Addr->Prop) (s:Shared) (ρ:Rho) (out:Out),
  Fr' C s0 W₀ O0 W O s->dq C c env W O s.heap ρ->At C W s->l G ρ=some out-> ∀(Q:Flow->Shared->Prop) (E:Value->Shared->Prop),After C c env s0 W₀ O0 Q out->wpAny (model C.prog C.w) A (run env) Q E s
def SS(c:CE)(st:Stmt)(l:List PS):Prop:=SSx c (exec st) λG ρ=>eK G l ρ
def SSs(c:CE)(ss:List Stmt)(l:List PS):Prop:=SSx c (execs ss) λG ρ=>eK G l ρ
theorem zn5: ∀(a b:List PS) (ρ:Rho),eK G (a++b) ρ=match eK G a ρ with|some (.next ρ')=>eK G b ρ'|r=>r:=by
 intro zz;induction zz with
 |nil=>exact λb ρ=>rfl
 |cons p a ih=>
  intro b ρ;rw [dS,zw7,zw7];cases fN G p ρ with
  |none=>rfl
  |some o=>induction o with
   |next ρ'=>exact ih b ρ'
   |ret v=>rfl
theorem zxs:eK G (p::l) ρ=match fN G p ρ with
  |some (.next ρ')=>eK G l ρ'
  |r=>r:=rfl
theorem z6t:SSs c [] []:=λC G K ok env A s0 W₀ O0 rm W O s ρ out f ev a h Q E k=>by replace h:=oj h;subst h;exact cz (k W O s f ev a)
theorem z2g{st:Stmt}{ss:List Stmt}{l l':List PS}(h1:SS c st l)(h2:SSs c ss l'):SSs c (st::ss) (l++l'):=λC G K ok env A s0 W₀ O0 rm W O s ρ out f ev a h Q E k=>by
 replace h:=(zn5 l l' ρ).symm.trans h;cases hl:eK G l ρ with
 |none=>rw [hl]at h;exact cu h
 |some o=>
  rw [hl]at h;refine ay (h1 C G K ok env A s0 W₀ O0 rm W O s ρ o f ev a hl _ E ?_);induction o with
  |next ρ'=>exact λW' O' s' f' ev' a'=>h2 C G K ok env A s0 W₀ O0 rm W' O' s' ρ' out f' ev' a' h Q E k
  |ret v=>replace h:=oj h;subst h;exact k
theorem ju:eK G [p] ρ=fN G p ρ:=by
 rw [zxs];cases fN G p ρ with
 |none=>rfl
 |some o=>induction o<;>rfl
theorem z97(h:SE c e x):SS c (.Return (some e) pos) [.ret x]:=λC G K ok env A s0 W₀ O0 rm W O s ρ out f ev a hp Q E k=>by
 simp only [ju,xE]at hp;cases hx:be G x ρ with
 |none=>rw [hx]at hp;exact cu hp
 |some p=>rw [hx]at hp;replace hp:=oj hp;subst hp;refine d6 (h.val ok ev a rm hx _ _ λv s' e' r'=>?_);exact k v s' (f.ext.trans e'.toO) (Rep.stay (λb o lo hw eo=>⟨eo,λhb=>hw (f.w0 b hb)⟩) _ _ r')
theorem z98(ht:SE c t x)(ha:SSs c a la)(hb:SSs c b lb):SS c (.If t a b pos) [.ite x la lb]:=λC G K ok env A s0 W₀ O0 rm W O s ρ out f ev at' h Q E k=>by
 simp only [ju,xE]at h;refine aN (bind_some h) λz h1 h=>?_
 refine wpAny_If (ht.tst ok ev at' rm h1 _ _ λs₁ e₁=>?_);cases z with
 |true=>exact ha C G K ok env A s0 W₀ O0 rm W O s₁ ρ out (f.ext' e₁) (ev.ext e₁.toExt0) (at'.ext e₁) h Q E k
 |false=>exact hb C G K ok env A s0 W₀ O0 rm W O s₁ ρ out (f.ext' e₁) (ev.ext e₁.toExt0) (at'.ext e₁) h Q E k
noncomputable def jq(e:Expr):Bool:=Nat.ble 8 e.ctorIdx&&Nat.ble e.ctorIdx 10
theorem mo(h:jq value=false)(ht:t.isSome=true):swapsWith value t n env=pure false:=by cases value<;>first|rfl|exact tf h
theorem z99(h:SE c e x)(hc:jq e=false)(hi:idx c.σ y=some i)(hk:c.sc.names.lookup y=some .local\/c.sc.names.lookup y=some .cell): SS c (.Assign [.Name y p] e pos) [.asg i x]:=λC G K ok env A s0 W₀ O0 rm W O s ρ out f ev a hp Q E k=>by
 simp only [ju,xE]at hp;show let g_:=_;g_;intro g_;refine aN (gf hp) λv hv e_=>?_
 subst e_;refine dp (h.val ok ev a rm hv _ _ λu s₁ e₁ r_1=>?_) (mo hc rfl);refine lm (ev.ext e₁.toExt0) hi hk (.val r_1) (λh=>by exact ft h) λs_2 e_2 ev2=>?_
 exact k W O s_2 ((f.ext' e₁).step e_2 λb hb=>(ev.ext e₁.toExt0).owr hb) ev2 ((a.ext e₁).extO e_2)
theorem zm0{i:Nat}{x:Str}{W O:Addr->Prop}{sl:Slot}{p:PV}{ad:Addr}(hi:idx c.σ x=some i)(hk:visK c.base i (c.sc.names.lookup x)=true)(f:Fr' C s0 W₀ O0 W O s)(ev:dq C c env W O s.heap ρ)(a:At C W s)(hsl:ρ[i]?=some (some sl))(hown:sl.isOwn=true)(hv:fQ s.heap env C.n₀ x (.ref ad))(hO:O ad)(hL:ad≠env.locals)(hcell: ∀b v,s.heap.IsCell b v->ad≠b)(hrep:Rep C s.heap (λb=>W b/\b≠ad) p (.ref ad)): ∃W' O',Fr' C s0 W₀ O0 W' O' s/\dq C c env W' O' s.heap (setR ρ i (.val p))/\At C W' s:=by
 have h0: ∀b,W₀ b->b≠ad:=λb hb h=>by subst h;exact f.dj b hb hO
 have hS:Stay C s.heap s.heap W (λb=>W b/\b≠ad):=λb o J hw eo=>⟨eo,λh=>hw h.1⟩
 refine eg (λb=>W b/\b≠ad) (λb=>O b/\b≠ad) ⟨f.ext,λb hb=>?_,λb hb=>⟨f.w0 b hb,h0 b hb⟩,λb hb=>f.fresh b hb.1,λb hb h=>f.dj b hb h.1⟩ ?_ ⟨a.inv,λb hb=>a.wocc b hb.1,a.tok⟩
 ·rcases f.w b hb.1 with h|h
  ·exact .inl h
  ·exact .inr ⟨h,hb.2⟩
 ·exact {
   glob:=ev.glob
   bui:=ev.bui
   kind:=ev.kind
   ow:=λb hb=>⟨ev.ow b hb.1,hb.2⟩
   lo:=λb hb=>ev.lo b hb.1
   loc:=⟨ev.loc,dh hL⟩
   ns:=ev.ns
   names:=ev.names
   cells:=λy hy=>by obtain ⟨b,v,h1,h2,h3⟩:=ev.cells y hy;exact eg b v h1 ⟨h2,dh (hcell b v h3)⟩ h3
   cinj:=ev.cinj
   top:=λj t hj=>by
    show let g_:=_;g_;intro g_;rcases js hj with ⟨rfl,J⟩|⟨J,hj⟩
    ·exact k9 hi
    ·exact ev.top j t hj
   vars:=λy j t h1 h2 h3=>by
    rcases js h3 with ⟨rfl,rfl⟩|⟨hne,h3⟩
    ·have:=kc h1 hi;subst this;exact bK _ hv (.val hrep)
    ·refine aN (ev.vars y j t h1 h2 h3) λu g1 g2=>?_
     refine bK u g1 ?_;have hne': ∀{a':Addr},t.isOwn=true->u= .ref a'->a'≠ad:=λht hu h=>by subst hu h;exact hne (ev.apart y x j i t sl _ h1 hi h2 hk h3 hsl ht hown g1 hv)
     induction g2 with
     |val r=>exact .val (Rep.stay hS _ _ r)
     |own w lo l r z=>exact .own ⟨⟨w.1,hne' rfl rfl⟩,w.2⟩ lo l (RepL.stay hS _ _ r) z
     |ownD w lo g r=>exact .ownD ⟨⟨w.1,hne' rfl rfl⟩,w.2⟩ lo g (RepD.stay hS _ _ r)
   apart:=λy z j k t u v h1 h2 k1 k2 h3 h4 h5 h6 h7 h8=>by
    rcases js h3 with ⟨J,rfl⟩|⟨J,g3⟩
    ·exact ft h5
    ·rcases js h4 with ⟨J,rfl⟩|⟨J,g4⟩
     ·exact ft h6
     ·exact ev.apart y z j k t u v h1 h2 k1 k2 g3 g4 h5 h6 h7 h8}
theorem zxt(hi:idx c.σ x=some i)(hk:visK c.base i (c.sc.names.lookup x)=true)(f:Fr' C s0 W₀ O0 W O s)(ev:dq C c env W O s.heap ρ)(a:At C W s)(h:fN G (.freeze i) ρ=some out): ∃ρ' W' O',out= .next ρ'/\Fr' C s0 W₀ O0 W' O' s/\dq C c env W' O' s.heap ρ'/\At C W' s:=by
 show let g_:=_;g_;intro g_;refine aN (aA.mp h) λsl hs g=>?_
 have hsl:=nP hs;refine aN (ev.vars x i _ hi hk hsl) λv hv r=>?_
 induction r with
 |val r=>exact cu g
 | @own xs ad vs n w lo l r z=>
  replace g:=oj g;subst g;obtain ⟨W',O',g1,g2,g3⟩:=zm0 (p:=.list xs) hi hk f ev a hsl rfl hv w.1 w.2 (λb u hb=>ur l hb) (by exact (kW ad vs n rfl (λh=>h.2 rfl) lo l (RepL.stay (λb o J hw eo=>⟨eo,λh=>hw h.1⟩) _ _ r) z));exact mO _ W' O' rfl g1 g2 g3
 | @ownD kvs ad vs w lo l r=>
  replace g:=oj g;subst g;obtain ⟨W',O',g1,g2,g3⟩:=zm0 (p:=.dict kvs) hi hk f ev a hsl rfl hv w.1 w.2 (λb u hb=>uj l hb) (by exact (kg ad vs rfl (λh=>h.2 rfl) lo l (RepD.stay (λb o J hw eo=>⟨eo,λh=>hw h.1⟩) _ _ r)));exact mO _ W' O' rfl g1 g2 g3
inductive Fzs(c:CE):List PS->Prop
 |nil:Fzs c []
 |cons {i:Nat} {x:Str} {l:List PS}:idx c.σ x=some i->visK c.base i (c.sc.names.lookup x)=true->Fzs c l->Fzs c (.freeze i::l)
theorem zxu{fz l:List PS}{run:Env->Sem Flow}(hf:Fzs c fz)(h:SSx c run λG ρ=>eK G l ρ):SSx c run λG ρ=>eK G (fz++l) ρ:=by
 induction hf with
 |nil=>exact h
 |cons hi hk _ ih=>
  intro C G K ok env A s0 W₀ O0 rm W O s ρ out f ev a hp Q E k;replace hp:=zxs.symm.trans hp;show let g_:=_;g_;intro g_;cases hx:fN G (.freeze _) ρ with
  |none=>rw [hx]at hp;exact cu hp
  |some o=>
   rw [hx]at hp;refine mP (zxt hi hk f ev a hx) λρ' W' O' e_ g1 g2 g3=>?_
   subst e_;exact ih C G K ok env A s0 W₀ O0 rm W' O' s ρ' out g1 g2 g3 hp Q E k
end
end Mine.Internal
namespace Mine.Internal
open PySem PySem.W PySem.Calls PyProof.Rows PySem.Challenge
section
variable{C:CX}{c:CE}{env:Env}{W₀ O0 W O:Addr->Prop}{s0 s s':Shared}{ρ:Rho}
theorem ExtN.sameBut(hs:Heap.SameBut L s.heap h')(lo:C.n₀<=L)(nc: ∀o,s.heap.get? L=some o-> ¬i0 o):ExtN C X (· =L) s {s with heap:=h'} where
 new:=λb o J J hb e=>(hs.2 b hb).trans e
 occ:=λb o J hb e=>⟨o,(hs.2 b hb).trans e⟩
 inv:=C.keepBut lo nc λb o hb e=>(hs.2 b hb).trans e
 gens:=rfl
 drawn:=rfl
 os:=rfl
 toks:=az _
theorem zrq(si:SI c iter it single)(so:ScOk c scope)(gok:GOk (iu c scope) t xs ts single)(hifs:SEs ((iu c scope).up xs) ifs fs)(sgs:SGs ((iu c scope).up xs) gs ps c2)(hx:SE c2 elt x)(hi:idx c.σ y=some i)(hk:c.sc.names.lookup y=some .local\/c.sc.names.lookup y=some .cell): SS c (.Assign [.Name y p] (.ListComp elt (⟨t,iter,ifs,0⟩::gs) scope pos) spos) [.asg i (.comp x (.mk ts single it fs::ps))]:=λC G K ok env A s0 W₀ O0 rm W O s ρ out f ev a hp Q E k=>by
 simp only [ju,xE]at hp;refine aN (gf hp) λv hv e_=>?_
 subst e_;cases hb:(env.blockKind== .function&&env.kindOf y==some .local&&p.line==pos.line&&!(scope.names.any λ(n,k)=>n==y&&(k== .local||k== .cell)))
 ·have hs:swapsWith (.ListComp elt (⟨t,iter,ifs,0⟩::gs) scope pos) (some (.Name y p)) spos.line env=pure false:=by exact congrArg pure hb
  refine dp ((zxr si so gok hifs sgs hx).val ok ev a rm hv _ _ λu s₁ e₁ r_1=>?_) hs;refine lm (ev.ext e₁.toExt0) hi hk (.val r_1) (λh=>by exact ft h) λs_2 e_2 ev2=>?_
  exact k W O s_2 ((f.ext' e₁).step e_2 λb hb=>(ev.ext e₁.toExt0).owr hb) ev2 ((a.ext e₁).extO e_2)
 ·have hs:swapsWith (.ListComp elt (⟨t,iter,ifs,0⟩::gs) scope pos) (some (.Name y p)) spos.line env=pure true:=by exact congrArg pure hb
  refine lf (zmz hv) λitems rs hit hall hrs hsz e_=>?_
  subst e_;rw [exec_Assign_Name_used _ _ _ _ hs];refine ab (bf (ab ?_));show let z_:=_;let y_:=_;wpAny _ _ _ z_ y_ _;intro z_ y_;refine ab (zpz si so gok hifs sgs hx ok ev a rm hit hall hrs hsz λs5 L D P ce=>?_);have ev5:dq C c env (λb=>W b\/P b) O s5.heap ρ:=ev.grow (λb o lo eo=>ce.ext.new b o lo eo) (λb hb=>.inl hb) λb hb=>by
   rcases hb with hb|hb
   ·exact .inl hb
   ·exact .inr (ce.priv b hb).2
  have r_5:Rep C s5.heap (λb=>W b\/P b) (.list rs.flatten) (.ref D):=by exact ce.acc.rep (λh=>by rcases h with h|h;exact ce.wD h;exact ce.pD h) ce.dlo (tD hsz)
  have hLO: ¬O L:=λh=>by obtain ⟨J,o,ho⟩:=a.wocc L (ev.ow L h);rw [(ce.priv L ce.pL).2]at ho;exact cu ho
  refine wpAny_assign_Name (lm ev5 hi hk (.val r_5) (λh=>by exact ft h) λs6 e_6 ev6=>?_);refine z49 ce.ns λm o es ep ho hr=>?_
  refine bK m (gz o es ep (e_6.new L o (ce.priv L ce.pL).1 (λh=>hLO (ev5.owr h)) ho) hr) (λh' hs'=>?_);have ex:ExtO C (OWr c env) s {s6 with heap:=h'}:=ExtN.drop (N:=(· =L)) ce.ext.toO (e_6.toN.trans (ExtN.sameBut hs' (ce.priv L ce.pL).1 (λo' eo=>by rw [e_6.new L o (ce.priv L ce.pL).1 (λh=>hLO (ev5.owr h)) ho]at eo;replace eo:=oj eo;subst eo;exact qN hr.1))) (λb hb=>by subst hb;exact (ce.priv _ ce.pL).2);refine am (am (k W O _ (f.step ex λb hb=>ev.owr hb) ?_ (a.extO ex)));exact ev6.move (λb o lo hb eo=>(hs'.2 b (λh=>by subst h;rcases hb with hb|hb;exact hb (.inr ce.pL);exact hLO hb)).trans eo) ev.ow λb hb=>.inl (.inl hb)
theorem z6u(e:augP op x y=some z)(rx:Rep C s.heap W x v)(ry:Rep C s.heap W y u):Snd0 C A s W (inplaceOp op v u) z:=λQ E q=>by
 show let g_:=_;g_;intro g_;induction op with
 |Add=>
  cases x with
  |int x=>
  show let g_:=_;g_;intro g_;refine aN (mapI e) λb e_ g=>?_
  subst e_;obtain ⟨t,rfl⟩:=ef rx;obtain ⟨t',rfl⟩:=ef ry;induction g;exact PySem.P.iadd_int (q _ _ .tok1 gg)
  |str x=>
  refine aN (lA e) λy e_ g=>?_
  subst e_;obtain ⟨t,rfl,hx⟩:=gA rx;obtain ⟨t',rfl,hy⟩:=gA ry;refine xA (gP g) λhz e_=>?_
  subst e_;have hz':=of_decide_eq_true hz;exact PyProof.Rows.iadd_str (λt' tk=>q _ _ (.toks _) (jd (by rw [gE,av];exact hz'))) (by rw [av];exact hz')
  |_=>exact cu e
 |Sub=>
  refine ek (jf e) λa b e_ e_1 g=>?_
  subst e_ e_1;obtain ⟨t,rfl⟩:=ef rx;obtain ⟨t',rfl⟩:=ef ry;replace g:=oj g;subst g;exact PySem.P.isub_int (q _ _ .tok1 gg)
 |Mult=>
  refine ek (jf e) λa b e_ e_1 g=>?_
  subst e_ e_1;obtain ⟨t,rfl⟩:=ef rx;obtain ⟨t',rfl⟩:=ef ry;refine xA (gP g) λhm e_=>?_
  subst e_;exact PySem.P.imul_int (q _ _ .tok1 gg) (zh7 hm)
 |LShift=>
  refine ek (jf e) λa b e_ e_1 g=>?_
  subst e_ e_1;obtain ⟨t,rfl⟩:=ef rx;obtain ⟨t',rfl⟩:=ef ry;refine xA (gP g) λh0 e_=>?_
  subst e_;simp only [jV,an,decide_eq_true_eq]at h0;exact ilshift_int h0.1 h0.2 (q _ _ .tok1 gg)
 |RShift=>
  refine ek (jf e) λa b e_ e_1 g=>?_
  subst e_ e_1;obtain ⟨t,rfl⟩:=ef rx;obtain ⟨t',rfl⟩:=ef ry;refine xA (gP g) λh0 e_=>?_
  subst e_;exact irshift_int h0 (q _ _ .tok1 gg)
 |FloorDiv=>
  refine ek (jf e) λa b e_ e_1 g=>?_
  subst e_ e_1;obtain ⟨t,rfl⟩:=ef rx;obtain ⟨t',rfl⟩:=ef ry;refine xA (mR g) λh0 g=>?_
  refine xA (mR g) λhp k=>?_
  replace k:=oj k;subst k;exact ifloordiv_int h0 (q _ _ .tok1 gg) (.inl (by simpa using hp))
 |_=>exact cu e
theorem zp0{i:Nat}{x:Str}{xs xs':List PV}{ad:Addr}{vs':List Value}{n':Nat}{h':Heap}(ev:dq C c env W O s.heap ρ)(hi:idx c.σ x=some i)(hk:visK c.base i (c.sc.names.lookup x)=true)(hsl:ρ[i]?=some (some (.own xs)))(hv:fQ s.heap env C.n₀ x (.ref ad))(hs:Heap.SameBut ad s.heap h')(hl:h'.get? ad=some (ff vs' n'))(hr:RepL C s.heap W xs' vs')(hz:xs'.length<=aM): ExtO C O s {s with heap:=h'}/\dq C c env W O h' (setR ρ i (.own xs'))/\fQ h' env C.n₀ x (.ref ad)/\ (∀y j t,y≠x->idx c.σ y=some j->visK c.base j (c.sc.names.lookup y)=true->ρ[j]?=some (some t)->t.isOwn=true-> ¬fQ s.heap env C.n₀ y (.ref ad)):=by
 refine aN (ev.vars x i _ hi hk hsl) λu g1 g2=>?_
 have:=g1.fn hv;subst this;cases g2 with
 |own w lo l r z=>
 have hO:=w.1;have hL:=w.2;have hcell: ∀b v,s.heap.IsCell b v->b≠ad:=λb v hb=>dh (ur l hb)
 have hap: ∀y j t,y≠x->idx c.σ y=some j->visK c.base j (c.sc.names.lookup y)=true->ρ[j]?=some (some t)->t.isOwn=true-> ¬fQ s.heap env C.n₀ y (.ref ad):=λy j t hy h1 h2 h3 h4 h5=>by have:=ev.apart y x j i t _ _ h1 hi h2 hk h3 hsl h4 rfl h5 hv;subst this;exact hy (kc h1 hi)
 have hS:Stay C s.heap h' W W:=λb o hb hw eb=>⟨(hs.2 b λh=>hw (ev.ow _ (h▸hO))).trans eb,hw⟩
 have keepV: ∀y u,fQ s.heap env C.n₀ y u->fQ h' env C.n₀ y u:=λy u hy=>by
  show let g_:=_;g_;intro g_;induction hy with
  |loc k' n' e'=>
   refine gO n' λo es ep ho rr=>?_
   exact .loc k' (gz o es ep ((hs.2 _ (dh hL)).trans ho) rr) e'
  |cell k' l' lo' i'=>
   refine aN i' λo ho hd=>?_
   exact .cell k' l' lo' (bK o ((hs.2 _ (hcell _ _ (bK o ho hd))).trans ho) hd)
 have ex:ExtO C O s {s with heap:=h'}:=.sameBut hs hO lo ⟨_,hl⟩ (λo eo=>by rw [l]at eo;replace eo:=oj eo;subst eo;exact j9 rfl (by decide)) (az _);refine ⟨ex,?_,keepV x _ hv,hap⟩;exact {
  glob:=ev.glob
  bui:=ev.bui
  kind:=ev.kind
  ow:=ev.ow
  lo:=ev.lo
  loc:=ev.loc
  ns:=by obtain ⟨m,o,es,ep,ho,rr⟩:=ev.ns;exact nd m o es ep ((hs.2 _ (dh hL)).trans ho) rr
  names:=ev.names
  cells:=λy hy=>by obtain ⟨a,v,h1,h2,o,ho,hd⟩:=ev.cells y hy;exact mN a v h1 h2 o ((hs.2 _ (hcell _ _ (bK o ho hd))).trans ho) hd
  cinj:=ev.cinj
  top:=λj t hj=>by
   rcases js hj with ⟨rfl,J⟩|⟨J,hj⟩
   ·exact k9 hi
   ·exact ev.top j t hj
  vars:=λy j t h1 h2 h3=>by
   rcases js h3 with ⟨rfl,rfl⟩|⟨hne,h3⟩
   ·have:=kc h1 hi;subst this;exact bK _ (keepV _ _ hv) (.own ⟨hO,hL⟩ lo hl (RepL.stay hS _ _ hr) hz)
   ·refine aN (ev.vars y j t h1 h2 h3) λu k1 k2=>?_
    have hy:y≠x:=λe'=>by subst e';rw [hi]at h1;replace h1:=oj h1;subst h1;exact hne rfl
    refine bK u (keepV _ _ k1) ?_;induction k2 with
    |val r=>exact .val (Rep.stay hS _ _ r)
    |own w' lo' l' r' z'=>exact .own w' lo' ((hs.2 _ (λh=>by subst h;exact hap y j _ hy h1 h2 h3 rfl k1)).trans l') (RepL.stay hS _ _ r') z'
    |ownD w' lo' g' r'=>
     have h0:=(λJ hvb h=>by subst h;exact hap y j _ hy h1 h2 h3 rfl hvb: ∀{b l},s.heap.DictOf (strKind C.prog C.w) b l->fQ s.heap env C.n₀ y (.ref b)->b≠ad) g' k1;show let g_:=_;g_;intro g_;refine gO g' λo e1 e2 ho hr'=>?_
     exact .ownD w' lo' (gz o e1 e2 ((hs.2 _ h0).trans ho) hr') (RepD.stay hS _ _ r')
  apart:=λy z j k t u v h1 h2 k1 k2 h3 h4 h5 h6 h7 h8=>by
   have back: ∀{y:Str} {j:Nat} {v:Value},idx c.σ y=some j->visK c.base j (c.sc.names.lookup y)=true->(∃t:Slot,ρ[j]?=some (some t))->fQ h' env C.n₀ y v->fQ s.heap env C.n₀ y v:=λ{y j v} h1 h2 z h7=>by
    obtain ⟨t',h3⟩:=z;refine aN (ev.vars y j t' h1 h2 h3) λu k1 J=>?_
    rw [h7.fn (keepV _ _ k1)];exact k1
   have sl1: ∃t',ρ[j]?=some (some t')/\t'.isOwn=true:=by
    show let g_:=_;g_;intro g_;rcases js h3 with ⟨rfl,rfl⟩|⟨J,h3⟩
    ·exact bK _ hsl rfl
    ·exact bK _ h3 h5
   have sl2: ∃t',ρ[k]?=some (some t')/\t'.isOwn=true:=by
    rcases js h4 with ⟨rfl,rfl⟩|⟨J,h4⟩
    ·exact bK _ hsl rfl
    ·exact bK _ h4 h6
   refine aN sl1 λt' q1 q2=>?_
   refine aN sl2 λu' q3 q4=>?_
   exact ev.apart y z j k t' u' v h1 h2 k1 k2 q1 q3 q2 q4 (back h1 k1 ⟨_,q1⟩ h7) (back h2 k2 ⟨_,q3⟩ h8)}
end
section
variable{C:CX}{c:CE}{env:Env}{W₀ O0 W O:Addr->Prop}{s0 s s':Shared}{ρ:Rho}
theorem jaa(h:SE c e x)(hi:idx c.σ y=some i)(hk:c.sc.names.lookup y=some .local\/c.sc.names.lookup y=some .cell)(hvis:visK c.base i (c.sc.names.lookup y)=true)(hcd:(y==("__classdict__" :Str))=false):SS c (.AugAssign (.Name y p) op e pos) [.aug i op x]:=λC G K ok env A s0 W₀ O0 rm W O s ρ out f ev a hp Q E k=>by
 simp only [ju,xE]at hp;show let g_:=_;g_;intro g_;refine aN (bind_some hp) λsl h0 g=>?_
 refine aN (bind_some g) λu hu g1=>?_
 refine aN (gf g1) λsl' g2 e_=>?_
 subst e_;refine aN (ev.vars y i _ hi hvis (nP h0)) λv hv r=>?_
 induction r with
 |val r=>
  refine aN (gf g2) λz hz e_=>?_
  subst e_;refine wpAny_AugAssign_Name (lk ev hcd hv (h.val ok ev a rm hu _ _ λu' s₁ e₁ r_1=>(z6u hz (r.ext e₁.toExt0) r_1).up _ _ λz' s_2 e_2 r_2=>?_));have e12:=e₁.trans e_2;refine lm (ev.ext e12.toExt0) hi hk (.val r_2) (λh=>by exact ft h) λs3 e_3 ev3=>?_
  exact k W O s3 ((f.ext' e12).step e_3 λb hb=>(ev.ext e12.toExt0).owr hb) ev3 ((a.ext e12).extO e_3)
 |_=>exact cu g2
end
section
variable{C:CX}{c:CE}{env:Env}{W₀ O0 W O:Addr->Prop}{s0 s s':Shared}{ρ:Rho}
theorem lM(h:env.scope.kind= .function):interactive env=false:=by unfold interactive;rw [h];rfl
theorem zp1: ∀{xs:List PV} {vs:List Value},RepL C h W xs vs->RepL C h W xs.reverse vs.reverse:=by
 intro zz;induction zz with
 |nil=>intro vs r;obtain rfl:=ir r;rfl
 |cons z zs ih=>
  intro vs r;refine ek (gY r) λv u e_ h1 h2=>?_
  subst e_;simp only [dX];exact (ih h2).append (RepL.cons h1 rfl)
theorem jab(h:SE c e x)(hi:idx c.σ y=some i)(hvis:visK c.base i (c.sc.names.lookup y)=true)(hd:(y==("__debug__" :Str))=false)(hcd:(y==("__classdict__" :Str))=false)(hline:(p_1.endLine==pos.line)=true): SS c (.Expr (.Call (.Attribute (.Name y p) ("append":Str) p_1) [e] [] pos) spos) [.app i x]:=λC G K ok env A s0 W₀ O0 rm W O s ρ out f ev a hp Q E k=>by
 simp only [ju,xE]at hp;show let g_:=_;g_;intro g_;refine aN (bind_some hp) λxs h0 g=>?_
 have hsl:=zpc h0;refine aN (bind_some g) λu hu hq=>?_
 refine xA (gP hq) λhz e_=>?_
 subst e_;refine aN (ev.vars y i _ hi hvis hsl) λv hv r=>?_
 cases r with
 | @own _ ad vs n w lo l r zz=>
 refine dT ?_ (lM ev.kind) rfl;have hst:(backTo pos (bY [e] env)).any (·.1)=false:=by rw [h.ns];rfl
 refine cQ (lp rfl) (by rw [h.ns];rfl) hline rfl (bU (lk ev hcd hv ?_) hd);refine iX ("list") ("list.append") gF F.slot_list_append F.type_list_append (bK _ l rfl) (λb hb=>by cases hb;exact (bK _ l rfl)) ?_;refine dQ hst (i7 hst ?_);rw [h.ns];refine bq (h.val ok ev a rm hu _ _ λu' s₁ e₁ r_1=>bR ?_);refine gQ (items:=vs.toArray) ⟨n,(e₁.new _ _ lo l)⟩ (λh' hl_2 hs_2=>?_) (by simp only [bI,r.length];exact zz);show let g_:=_;g_;intro g_;obtain ⟨n_2,hl_2⟩:=hl_2;have hl2':h'.get? ad=some (ff (vs++ [u']) n_2):=by rw [hl_2];simp [ff]
 obtain ⟨ex,ev2,hv_2,hap⟩:=zp0 (xs':=xs++ [u]) (ev.ext e₁.toExt0) hi hvis hsl (hv.keep e₁.new (ev.lo _ ev.loc)) hs_2 hl2' ((r.ext e₁.toExt0).append (RepL.cons r_1 rfl)) (by rw [aC,av];exact (of_decide_eq_true hz));exact k W O _ ((f.ext' e₁).step ex λb hb=>hb) ev2 ((a.ext e₁).extO ex)
theorem jac(hi:idx c.σ y=some i)(hvis:visK c.base i (c.sc.names.lookup y)=true)(hd:(y==("__debug__" :Str))=false)(hcd:(y==("__classdict__" :Str))=false)(hline:(p_1.endLine==pos.line)=true): SS c (.Expr (.Call (.Attribute (.Name y p) ("reverse":Str) p_1) [] [] pos) spos) [.revI i]:=λC G K ok env A s0 W₀ O0 rm W O s ρ out f ev a hp Q E k=>by
 simp only [ju,xE]at hp;show let g_:=_;g_;intro g_;refine aN (gf hp) λxs h0 e_=>?_
 subst e_;have hsl:=zpc h0;refine aN (ev.vars y i _ hi hvis hsl) λv hv r=>?_
 cases r with
 | @own _ ad vs n w lo l r zz=>
 refine dT ?_ (lM ev.kind) rfl;refine cQ (lp rfl) rfl hline rfl (bU (lk ev hcd hv ?_) hd);refine iX ("list") ("list.reverse") gF F.slot_list_reverse F.type_list_reverse (bK _ l rfl) (λb hb=>by cases hb;exact (bK _ l rfl)) ?_;refine dQ rfl (i7 rfl (bR ?_));refine gt PySem.F.slot_list_reverse (bK _ l rfl) PySem.F.entry_list_reverse (PySem.F.args_list_reverse_1 _) (AutoSeq1.list_reverse_list_0 ad vs.toArray n (by simp only [bI,r.length];exact zz)) ⟨l,?_⟩;have hm: ∃n',hY (λx=>x.reverse) (ff vs n)=ff vs.reverse n':=⟨_,by simp only [hY,ff,List.reverse_toArray];rfl⟩;show let g_:=_;g_;intro g_;obtain ⟨n',hm⟩:=hm;have hl_2:(s.heap.update ad (hY λx=>x.reverse)).get? ad=some (ff vs.reverse n'):=by rw [cV _ l (by rw [hm];rfl),hm]
 refine ji (zp0 (xs':=xs.reverse) ev hi hvis hsl hv (fc ..) hl_2 (zp1 r) (by simpa using zz)) λex ev2 hv_2 hap=>?_
 exact k W O _ (f.step ex λb hb=>hb) ev2 (a.extO ex)
end
end Mine.Internal
namespace Mine.Internal
open PySem PySem.W PySem.Calls PyProof.Rows PySem.Challenge
set_option backward.match.sparseCases false
noncomputable def lC(C:CX)(h:Heap)(W:Addr->Prop)(ad:Addr):PV->Prop
 | .list xs=>∃vs n,h.get? ad=some (ff vs n)/\RepL C h (λb=>W b\/b=ad) xs vs/\xs.length<=aM
 | .dict kvs=>∃l,h.DictOf (strKind C.prog C.w) ad l/\RepD C h (λb=>W b\/b=ad) kvs l
 |_=>False
def SEF(c:CE)(e:Expr)(x:PE):Prop:=∀(C:CX) (G:GT) (K:Nat) (_:FnOk C G K) (env:Env) (W O:Addr->Prop) (s:Shared) (ρ:Rho) (A:Around) (p:PV),dq C c env W O s.heap ρ->At C W s->Room A K->
  be G x ρ=some p-> ∀(Q E:Value->Shared->Prop),(∀ad s',Ext C s s'->lC C s'.heap W ad p->C.n₀<=ad->s.heap.get? ad=none-> ¬W ad->Q (.ref ad) s')->wpAny (model C.prog C.w) A (eval e env) Q E s
section
variable{c:CE}{pos:Pos}
theorem zm1{C:CX}{W:Addr->Prop}{s:Shared}{o:Obj}{xs:List PV}{vs:List Value}(r:RepL C s.heap W xs vs):RepL C (s.heap.push o) (λb=>W b\/b=s.heap.objs.size) xs vs:=
 RepL.stay (Stay.grow (λb o J e=>aq _ e) λb hb=>by
  rcases hb with hb|rfl
  ·exact .inl hb
  ·exact .inr jA) _ _ r
theorem z2h(hs:SEs c es xs)(hz:f0 es.length=true):SEF c (.List es pos) (.list xs):=λC G K ok env W O s ρ A p ev at' rm h Q E q=>by
 show let g_:=_;g_;intro g_;refine aN (gf h) λps h1 h=>?_
 subst h;refine fI (hs.sndL ok rm ev at' h1 _ _ λvs s₁ e₁ r_1=>?_);have hl:ps.length<=aM:=by rw [rE h1,<-hs.length,av];exact (of_decide_eq_true hz)
 have a_1:=at'.ext e₁;exact ⟨by rw [r_1.length];exact hl,q s₁.heap.objs.size _ (e₁.trans kD) (eg vs 0 (au _ rfl) (zm1 r_1) hl) a_1.low (oP e₁ a_1.low jA) a_1.nw⟩
theorem zxv(a:At C W s)(hz':xs.length+ys.length<=16777216)(rx:Rep C s.heap W (.list xs) v)(ry:Rep C s.heap W (.list ys) u)(q: ∀vs n,RepL C (s.heap.push (ff vs n)) (λb=>W b\/b=s.heap.objs.size) (xs++ys) vs->Q (.ref s.heap.objs.size) {s with heap:=s.heap.push (ff vs n)}):wpAny (model C.prog C.w) A (binaryOp .Add v u) Q E s:=by
 show let g_:=_;g_;intro g_;refine iJ (iU rx) λl vs n e_ J J ho hl J=>?_
 subst e_;refine iJ (iU ry) λl' vs' n' e_ J J ho' hl' J=>?_
 subst e_;have e:vs.toArray++vs'.toArray=(vs++vs').toArray:=by simp
 refine concat_meets (bK _ ho rfl) (bK _ ho' rfl) noFill_list_add seq_list_add PySem.F.slot_list_add PySem.F.entry_list_add (PySem.F.args_list_add_2 _ _)
  (list_addW l l' vs.toArray vs'.toArray n n' none none #[] #[] (by simp only [bI,hl.length,hl'.length,av];exact hz')) ⟨ho,ho',?_⟩
 rw [e];exact q (vs++vs') 0 (zm1 (hl.append hl'))
theorem z6v(ha:SE c a x)(hb:SE c b y)(hx: ∀G ρ p,be G x ρ=some p-> ∃l,p= .list l):SEF c (.BinOp a .Add b pos) (.bin .Add x y):=λC G K ok env W O s ρ A p ev at' rm h Q E q=>by
 show let g_:=_;g_;intro g_;refine aN (bind_some h) λu h1 hA=>?_
 refine aN (bind_some hA) λv h2 hB=>?_
 clear h hA;obtain ⟨l,rfl⟩:=hx _ _ _ h1;refine fV (ha.val ok ev at' rm h1 _ _ λu' s₁ e₁ r_1=>hb.val ok (ev.ext e₁.toExt0) (at'.ext e₁) rm h2 _ _ λv' s_2 e_2 r_2=>?_);show let g_:=_;g_;intro g_;refine aN (kN (y:=v) hB) λl' e_ g=>?_
 subst e_;refine xA (gP g) λhz e_=>?_
 subst e_;have hz':=of_decide_eq_true hz;have a_2:=(at'.ext e₁).ext e_2;refine zxv a_2 hz' (r_1.ext e_2.toExt0) r_2 λvs n hr=>?_
 exact q s_2.heap.objs.size _ ((e₁.trans e_2).trans kD) (eg vs n (au _ rfl) hr (by rw [aC,av];exact hz')) a_2.low (oP (e₁.trans e_2) a_2.low jA) a_2.nw
theorem zp2{C:CX}{env:Env}{W₀ O0 W O:Addr->Prop}{s0 s s₁:Shared}{ρ:Rho}{M:Model}{A:Around}{x:Str}{i:Nat}{p:PV}{sl:Slot}{ad:Addr}{Q:Unit->Shared->Prop}{E:Value->Shared->Prop}(f:Fr' C s0 W₀ O0 W O s)(ev:dq C c env W O s.heap ρ)(e₁:Ext C s s₁)(a_1:At C W s₁)(hp:ownOf p=some sl)(ho:lC C s₁.heap W ad p)(lo:C.n₀<=ad)(hf:s.heap.get? ad=none)(hw: ¬W ad)(hi:idx c.σ x=some i)(hk:c.sc.names.lookup x=some .local\/c.sc.names.lookup x=some .cell)(q: ∀W' O' s',Fr' C s0 W₀ O0 W' O' s'->dq C c env W' O' s'.heap (setR ρ i sl)->At C W' s'->Q () s'):wpAny M A (storeName env x (.ref ad)) Q E s₁:=by
 have hocc: ∃o,s₁.heap.get? ad=some o:=by
  show let g_:=_;g_;intro g_;cases p with
  |list xs=>obtain ⟨vs,n,h,J⟩:=ho;exact ⟨_,h⟩
  |dict kvs=>obtain ⟨l,⟨o,J,J,h,J⟩,J⟩:=ho;exact ⟨o,h⟩
  |_=>exact ho.elim
 have hOne: ∀b,O b->b≠ad:=λb hb h=>hw (h▸ev.ow b hb)
 have hL:ad≠env.locals:=λh=>hOne _ ev.loc h.symm
 have ev2:dq C c env (λb=>W b\/b=ad) (λb=>O b\/b=ad) s₁.heap ρ:=by
  have g:=ev.grow (W':=λb=>W b\/b=ad) (λb o lo eo=>e₁.new b o lo eo) (λb hb=>.inl hb) λb hb=>by
   rcases hb with hb|rfl
   ·exact .inl hb
   ·exact .inr hf
  exact {
   glob:=g.glob
   bui:=g.bui
   kind:=g.kind
   ow:=λb hb=>by rcases hb with hb|hb;exact g.ow b hb;exact .inr hb
   lo:=λb hb=>by rcases hb with hb|rfl;exact g.lo b hb;exact lo
   loc:=.inl g.loc
   ns:=g.ns
   names:=g.names
   cells:=λy hy=>by obtain ⟨b,v,h1,h2,h3⟩:=g.cells y hy;exact eg b v h1 (.inl h2) h3
   cinj:=g.cinj
   top:=g.top
   vars:=λy j t h1 h2 h3=>by
    obtain ⟨v,k1,k2⟩:=g.vars y j t h1 h2 h3;refine bK v k1 ?_;induction k2 with
    |val r=>exact .val r
    |own w lo l r z=>exact .own ⟨.inl w.1,w.2⟩ lo l r z
    |ownD w lo g' r=>exact .ownD ⟨.inl w.1,w.2⟩ lo g' r
   apart:=g.apart}
 have hsl:RepS C s₁.heap (λb=>W b\/b=ad) (λb=>(O b\/b=ad)/\b≠env.locals) sl (.ref ad):=by
  show let g_:=_;g_;intro g_;cases p with
  |list xs=>simp only [vE]at hp;replace hp:=oj hp;subst hp;obtain ⟨vs,n,h1,h2,h3⟩:=ho;exact .own ⟨.inr rfl,hL⟩ lo h1 h2 h3
  |dict kvs=>simp only [vE]at hp;replace hp:=oj hp;subst hp;obtain ⟨l,h1,h2⟩:=ho;exact .ownD ⟨.inr rfl,hL⟩ lo h1 h2
  |_=>exact ho.elim
 have a_2:At C (λb=>W b\/b=ad) s₁:=⟨a_1.inv,λb hb=>by
  rcases hb with hb|rfl
  ·exact a_1.wocc b hb
  ·exact ⟨lo,hocc⟩,a_1.tok⟩
 have hfs0:s0.heap.get? ad=none:=by
  cases hh:s0.heap.get? ad with
  |none=>rfl
  |some o=>obtain ⟨o',e'⟩:=f.ext.occ ad o lo hh;rw [hf]at e';exact cu e'
 have f_2:Fr' C s0 W₀ O0 (λb=>W b\/b=ad) (λb=>O b\/b=ad) s₁:=⟨f.ext.trans e₁.toO,λb hb=>by
   rcases hb with hb|rfl
   ·rcases f.w b hb with h|h
    ·exact .inl h
    ·exact .inr (.inl h)
   ·exact .inr (.inr rfl),λb hb=>.inl (f.w0 b hb),λb hb=>by
   rcases hb with hb|rfl
   ·exact f.fresh b hb
   ·exact .inr hfs0,λb hb h=>by
   rcases h with h|rfl
   ·exact f.dj b hb h
   ·exact hw (f.w0 _ hb)⟩
 refine lm ev2 hi hk hsl (λJ z j t hz hj hvj ht hto hvz=>?_) λs3 e_3 ev3=>q _ _ s3 (f_2.step e_3 λb hb=>ev2.owr hb) ev3 (a_2.extO e_3)
 obtain ⟨v,k1,k2⟩:=(ev.ext e₁.toExt0).vars z j t hj hvj ht;have:=k1.fn hvz;subst this;cases k2 with
 |val r=>exact ft hto
 |own w _ _ _ _=>exact hOne _ w.1 rfl
 |ownD w _ _ _=>exact hOne _ w.1 rfl
theorem zxw(h:SEF c e x)(hc:jq e=false)(hi:idx c.σ y=some i)(hk:c.sc.names.lookup y=some .local\/c.sc.names.lookup y=some .cell): SS c (.Assign [.Name y p] e pos) [.asgOwn i x]:=λC G K ok env A s0 W₀ O0 rm W O s ρ out f ev a hp Q E k=>by
 simp only [ju,xE]at hp;show let g_:=_;g_;intro g_;refine aN (bind_some hp) λv hv hp=>?_
 refine aN (gf hp) λsl hsl e_=>?_
 subst e_;refine dp (h C G K ok env W O s ρ A v ev a rm hv _ _ λad s₁ e₁ ho lo hf hw=>?_) (mo hc rfl);exact zp2 f ev e₁ (a.ext e₁) hsl ho lo hf hw hi hk k
end
section
variable{C:CX}{c:CE}{env:Env}{W₀ O0 W1 O₁ W O:Addr->Prop}{s0 s₁ s s':Shared}{ρ:Rho}
theorem ExtO.base(f:Fr' C s0 W₀ O0 W1 O₁ s₁)(x:ExtO C O₁ s₁ s):ExtO C O0 s0 s where
 new:=λb o lo h0 e=>x.new b o lo (λh=>by rcases f.fresh b h with h1|h1;exact h0 h1;rw [h1]at e;exact cu e) (f.ext.new b o lo h0 e)
 occ:=λb o lo e=>by obtain ⟨o',e'⟩:=f.ext.occ b o lo e;exact x.occ b o' lo e'
 inv:=λh=>x.inv (f.ext.inv h)
 gens:=x.gens.trans f.ext.gens
 drawn:=x.drawn.trans f.ext.drawn
 os:=x.os.trans f.ext.os
 toks:=aa f.ext.toks x.toks
structure jad(C:CX)(c:CE)(env:Env)(A:Around)(s₁:Shared)(W₀ O₁:Addr->Prop)(I:Addr)(single:Bool)(fp wr:List Addr)(items:List PV)(St:Nat->Heap->Prop)(W O:Addr->Prop)(s:Shared)(ρ:Rho)(i:Nat):Prop where
 fr:Fr' C s₁ (λb=>W₀ b\/b∈wr) O₁ W O s
 ev:dq C c env W O s.heap ρ
 a:At C W s
 src:Src C A W s.heap I single fp wr items St
 st:St i s.heap
 fpo: ∀b∈fp,C.n₀<=b/\(b∈wr\/ ¬W b)/\ ∃o,s.heap.get? b=some o
 le:i<=items.length
theorem Fr'.stepN{wr:List Addr}(f:Fr' C s₁ W₀ O₁ W O s)(x:ExtN C (OWr c env) (· ∈wr) s s')(hX: ∀b,OWr c env b->O b)(hwr: ∀b∈wr,s₁.heap.get? b=none):Fr' C s₁ W₀ O₁ W O s' where
 ext:=⟨λb o lo h0 e=>x.new b o lo (λh=>by rcases f.fresh b (hX b h)with h1|h1;exact h0 h1;rw [h1]at e;exact cu e) (λh=>by rw [hwr b h]at e;exact cu e) (f.ext.new b o lo h0 e),
  λb o lo e=>by obtain ⟨o',e'⟩:=f.ext.occ b o lo e;exact x.occ b o' lo (λh=>by rw [hwr b h]at e;exact cu e) e',λh=>x.inv (f.ext.inv h),x.gens.trans f.ext.gens,x.drawn.trans f.ext.drawn,x.os.trans f.ext.os,aa f.ext.toks x.toks⟩
 w:=f.w
 w0:=f.w0
 fresh:=f.fresh
 dj:=f.dj
noncomputable abbrev tc(G:GT)(ts:List Nat)(single:Bool)(l:List PS)(x:PV)(ρ:Rho):Option Out:=(hK ts single x ρ).bind λρ''=>eK G l ρ''
inductive FInv(C:CX)(c:CE)(env:Env)(A:Around)(s₁:Shared)(W₀ O₁:Addr->Prop)(I:Addr)(single:Bool)(fp wr:List Addr)(items:List PV)(St:Nat->Heap->Prop)(step:PV->Rho->Option Out)(out:Out)(n:Nat)(s':Shared):Prop
 |mk (W O:Addr->Prop) (ρ:Rho) (i:Nat) (e:n=items.length-i) (F:jad C c env A s₁ W₀ O₁ I single fp wr items St W O s' ρ i) (h:forP step (items.drop i) ρ=some out)
theorem jc0{step:PV->Rho->Option Out}:forP step (x::xs) ρ=match step x ρ with
  |some (.next ρ')=>forP step xs ρ'
  |r=>r:=rfl
theorem z2i{G:GT}{K:Nat}(ok:FnOk C G K){A:Around}(rm:Room A K){tgt:Expr}{xs:List Str}{ts:List Nat}{single:Bool}{body:List Stmt}{l:List PS}(ht:ly tgt xs single)(hp:Places c xs ts)(hb:SSs c body l){I:Addr}{fp wr:List Addr}{items:List PV}{St:Nat->Heap->Prop}{out:Out}{R:Result->Shared->Prop}(hwr: ∀b∈wr,s₁.heap.get? b=none)(hw0: ∀b∈wr,¬W₀ b)(hR:After C c env s₁ W₀ O₁ (λf s'=>R (.ok f) s') out)(F:jad C c env A s₁ W₀ O₁ I single fp wr items St W O s ρ 0)(h:forP (λx ρ'=>(hK ts single x ρ').bind λρ''=>eK G l ρ'') items ρ=some out): codeAny (model C.prog C.w) A (.forLoop tgt (.ref I) body [] env) R s:=by
 refine codeAny_forLoop_any (FInv C c env A s₁ W₀ O₁ I single fp wr items St (tc G ts single l) out) ?_ items.length
  ⟨W,O,ρ,0,rfl,F,by rw [lT];exact h⟩
 rintro n s_2 ⟨W,O,ρ,i,rfl,F,h⟩;show let z_:=_;let y_:=_;wpAny _ _ _ z_ y_ _;intro z_ y_;have sa:SrcAt C W O s_2.heap fp wr:=⟨λb hb'=>⟨F.fr.w0 b (.inr hb'),F.fr.dj b (.inr hb')⟩,λb hb'=>⟨(F.fpo b hb').1,(F.fpo b hb').2.1⟩⟩;show let g_:=_;g_;intro g_;by_cases hlt:i<items.length
 ·rw [gc hlt]at h;rw [jc0]at h;cases hs:tc G ts single l items[i] ρ with
  |none=>rw [hs]at h;exact cu h
  |some o=>
   show let z_:=_;let y_:=_;wpAny _ _ _ z_ y_ _;intro z_ y_;refine aN (bind_some hs) λρ'' hbt hex=>?_
   rw [hs]at h;refine bE (zpr (Q:=λs3=>wpAny (model C.prog C.w) A (execs body env) (λf s3=>match f with
      | .next| .cont=>∃m,m<items.length-i/\FInv C c env A s₁ W₀ O₁ I single fp wr items St (tc G ts single l) out m s3
      | .brk=>R (.ok .next) s3
      | .ret v=>R (.ok (.ret v)) s3) (notedBy (model C.prog C.w) A env λe s'=>R (.error e) s') s3) rm.1 F.src sa F.ev F.a F.st (aL hlt) ht hp hbt ?_) (λr s₁ hr=>by
     cases r with
     |none=>exact hr.elim
     |some v=>exact hr) λJ J e=>e
   intro s3 e_3 ev3 st_3;have fr3:=F.fr.stepN e_3 (λb hb'=>F.ev.owr hb') hwr;have a_3:At C W s3:=⟨e_3.inv F.a.inv,λb' hb'=>by
    obtain ⟨lo,o,eo⟩:=F.a.wocc b' hb';by_cases hm:b'∈wr
    ·exact ⟨lo,F.src.live st_3 b' hm⟩
    ·exact ⟨lo,e_3.occ b' o lo hm eo⟩,af F.a.tok e_3.toks⟩
   have hS3:=e_3.stay (W:=W) (λb' hb'=>F.ev.ow _ (F.ev.owr hb')) (λb' hb'=>(sa.w b' hb').1);have src3:=F.src.stay hS3;have fpo3: ∀b∈fp,C.n₀<=b/\(b∈wr\/ ¬W b)/\ ∃o,s3.heap.get? b=some o:=λb hb'=>by
    show let g_:=_;g_;intro g_;obtain ⟨h1,h2,o,ho⟩:=F.fpo b hb';refine ⟨h1,h2,?_⟩;by_cases hm:b∈wr
    ·exact F.src.live st_3 b hm
    ·exact e_3.occ b o h1 hm ho
   have base:Fr' C s3 (λb=>W₀ b\/b∈wr) O W O s3:=⟨(Ext.refl s3).toO,fr3.w,fr3.w0,λb hb'=>.inl hb',fr3.dj⟩;refine hb C G K ok env A s3 (λb=>W₀ b\/b∈wr) O rm W O s3 ρ'' o base ev3 a_3 hex _ _ ?_;show let g_:=_;g_;intro g_;induction o with
   |ret v=>replace h:=oj h;subst h;exact λval s' e' r'=>hR val s' (ExtO.base fr3 e') (Rep.stay (λb o J hw eo=>⟨eo,λhb'=>hw (.inl hb')⟩) _ _ r')
   |next ρ'=>
    intro W' O' s' f' ev' a';have hS':Stay C s3.heap s'.heap W W':=λb o lo hw eo=>⟨f'.ext.new b o lo (λh=>hw (ev3.ow b h)) eo,λhw'=>by
     rcases f'.w b hw' with h1|h1
     ·exact hw (fr3.w0 b h1)
     ·rcases f'.fresh b h1 with h2|h2
      ·exact hw (ev3.ow b h2)
      ·rw [h2]at eo;exact cu eo⟩
    refine ⟨items.length-(i+1),Nat.sub_lt_sub_left hlt (fK i),W',O',ρ',i+1,rfl,⟨⟨ExtO.base fr3 f'.ext,f'.w,f'.w0,λb hb'=>?_,f'.dj⟩,ev',a',src3.stay hS',F.src.frame st_3 λb hb' o eo=>?_,λb hb'=>?_,hlt⟩,h⟩
    ·rcases f'.fresh b hb' with h1|h1
     ·exact fr3.fresh b h1
     ·refine .inr ?_;cases hh:s₁.heap.get? b with
      |none=>rfl
      |some o=>obtain ⟨o',e'⟩:=fr3.ext.occ b o (ev'.lo b hb') hh;rw [h1]at e';exact cu e'
    ·refine jj (fpo3 b hb') λh1 h2 J=>?_
     exact f'.ext.new b o h1 (λho=>by rcases h2 with h2|h2;exact (sa.w b h2).2 ho;exact h2 (ev3.ow b ho)) eo
    ·obtain ⟨h1,h2,o,ho⟩:=fpo3 b hb';refine ⟨h1,?_,f'.ext.occ b o h1 ho⟩;by_cases hm:b∈wr
     ·exact .inl hm
     ·rcases h2 with h2|h2
      ·exact absurd h2 hm
      ·exact .inr (hS' b o h1 h2 ho).2
 ·have hie:i=items.length:=ea F.le (pJ.mp hlt);subst hie;rw [List.drop_length]at h;replace h:=oj h;subst h;have fin: ∀h' tk,s_2.toks<=tk->(∀b o,b∉wr->s_2.heap.get? b=some o->h'.get? b=some o)->R (.ok .next) {s_2 with heap:=h',toks:=tk}:=λh' tk htk hk=>by
   have ex:ExtN C (OWr c env) (· ∈wr) s_2 {s_2 with heap:=h',toks:=tk}:=⟨λb o J J hn e=>hk b o hn e,λb o J hn e=>⟨o,hk b o hn e⟩,C.keep λb o hb' e=>hk b o (F.src.low F.st (λb hb=>(sa.f b hb).1) hb' e) e,rfl,rfl,rfl,htk⟩;have fr:=F.fr.stepN ex (λb hb'=>F.ev.owr hb') hwr;refine hR (λb=>W b/\b∉wr) O _ ⟨fr.ext,λb hb'=>?_,λb hb'=>⟨fr.w0 b (.inl hb'),λhm=>?_⟩,fr.fresh,λb hb'=>fr.dj b (.inl hb')⟩
    (F.ev.move (λb o J hb' e=>hk b o (λhm=>by rcases hb' with hb'|hb';exact hb' (sa.w b hm).1;exact (sa.w b hm).2 hb') e) (λb hb'=>⟨F.ev.ow b hb',(λb hb' hm=>(sa.w b hm).2 hb') b hb'⟩) λb hb'=>.inl hb'.1)
    ⟨ex.inv F.a.inv,λb hb'=>by obtain ⟨lo,o,eo⟩:=F.a.wocc b hb'.1;exact ⟨lo,o,hk b o hb'.2 eo⟩,af F.a.tok htk⟩
   ·rcases fr.w b hb'.1 with h1|h1
    ·rcases h1 with h1|h1
     ·exact .inl h1
     ·exact absurd h1 hb'.2
    ·exact .inr h1
   ·exact hw0 b hm hb'
  cases F.src with
  |one w hn live rep=>exact bP (az s_2.toks) (w.done s_2 _ _ (hn▸F.st) λh' tk hk htk=>cz (fin h' tk htk hk))
  |many w hn live rep=>exact bP (az s_2.toks) (w.done s_2 _ _ (hn▸F.st) λh' tk hk htk=>cz (fin h' tk htk hk))
theorem zrr:exec (.For target iter body [] pos) env=(standAt pos>>=λJ=>eval iter env>>=λy=>gC iter env y>>=λx=>standAt iter.pos>>=λJ=>holding [x] (pyIter x)>>=λit=> runOwn (.forLoop target it body [] env) env):=rfl
theorem jae{tgt iter:Expr}{xs:List Str}{ts:List Nat}{single:Bool}{it:PI}{body:List Stmt}{l:List PS}{pos:Pos}(si:SI c iter it single)(ht:ly tgt xs single)(hp:Places c xs ts)(hb:SSs c body l): SS c (.For tgt iter body [] pos) [.forS ts single it l]:=λC G K ok env A s0 W₀ O0 rm W O s ρ out f ev a h Q E k=>by
 simp only [ju,xE]at h;refine aN (bind_some h) λitems hit h=>?_
 split at h
 ·rename_i hall;rw [zrr];refine ab (bf (ab (bE (si.v C G K ok env W O s ρ A items ev a rm hit hall
   (λit s_2=>wpAny (model C.prog C.w) A (runOwn (.forLoop tgt it body [] env) env) Q E s_2) E λI s_2 fp wr St e_2 src2 st2 hw2 hf2 hz_2=>?_)
   (λv s_2 h=>ab (wpAny_of_eq (si.f env v) (ab (bf (ab (aX h)))))) λJ J e=>e)))
  have notwr: ∀b,W b->b∉wr:=λb hb' hm=>by obtain ⟨J,o,ho⟩:=a.wocc b hb';have:=(hw2 b hm).2;rw [ho]at this;exact cu this.symm
  refine wpAny_runOwn (h:=none) ?_;refine z2i (s₁:=s) (W₀:=W₀) (O₁:=O) (W:=λb=>W b\/b∈wr) (O:=O) (I:=I) (fp:=fp) (wr:=wr) (St:=St) ok rm ht hp hb (λb hb'=>(hw2 b hb').2) (λb hb' hw=>notwr b (f.w0 b hw) hb') ?_ ⟨⟨e_2.toO,λb hb'=>?_,λb hb'=>?_,λb hb'=>.inl hb',λb hb' ho=>?_⟩,
   ev.grow (λb o lo eo=>e_2.new b o lo eo) (λb hb'=>.inl hb') (λb hb'=>by rcases hb' with hb'|hb';exact .inl hb';exact .inr (hw2 b hb').2),⟨e_2.inv a.inv,λb hb'=>?_,af a.tok e_2.toks⟩,src2,st2,λb hb'=>?_,bD _⟩ h
  ·
   induction out with
   |next ρ'=>
    intro W' O' s' f' ev' a';refine k W' O' s' ⟨ExtO.base f f'.ext,f'.w,f'.w0,λb hb'=>?_,f'.dj⟩ ev' a';rcases f'.fresh b hb' with h1|h1
    ·exact f.fresh b h1
    ·refine .inr ?_;cases hh:s0.heap.get? b with
     |none=>rfl
     |some o=>obtain ⟨o',e'⟩:=f.ext.occ b o (ev'.lo b hb') hh;rw [h1]at e';exact cu e'
   |ret v=>exact λval s' e' r'=>k val s' (ExtO.base f e') r'
  ·rcases hb' with hb'|hb'
   ·rcases f.w b hb' with h1|h1
    ·exact .inl (.inl h1)
    ·exact .inr h1
   ·exact .inl (.inr hb')
  ·rcases hb' with hb'|hb'
   ·exact .inl (f.w0 b hb')
   ·exact .inr hb'
  ·rcases hb' with hb'|hb'
   ·exact f.dj b hb' ho
   ·exact notwr b (ev.ow b ho) hb'
  ·rcases hb' with hb'|hb'
   ·exact (a.ext e_2).wocc b hb'
   ·exact ⟨(hw2 b hb').1,src2.live st2 b hb'⟩
  ·refine ⟨(hf2 b hb').1,?_,hz_2 b hb'⟩;by_cases hm:b∈wr
   ·exact .inl hm
   ·refine .inr λhW=>?_
    rcases hW with hW|hW
    ·rcases (hf2 b hb').2 with h2|h2
     ·exact hm h2
     ·exact h2 hW
    ·exact hm hW
 ·exact cu h
end
section
variable{C:CX}{c:CE}{env:Env}{W₀ O0 W O:Addr->Prop}{s0 s s':Shared}{ρ:Rho}
theorem zu9{G:GT}{K:Nat}(ok:FnOk C G K){A:Around}(rm:Room A K){t:Expr}{x:PE}{body:List Stmt}{l:List PS}(ht:SE c t x)(hb:SSs c body l){out:Out}{R:Result->Shared->Prop}(hR:After C c env s0 W₀ O0 (λf s'=>R (.ok f) s') out): ∀(n:Nat) {W O:Addr->Prop} {s:Shared} {ρ:Rho},Fr' C s0 W₀ O0 W O s->dq C c env W O s.heap ρ->At C W s-> jT (λρ'=>el G x ρ') (λρ'=>eK G l ρ') n ρ=some out->codeAny (model C.prog C.w) A (.whileLoop t body [] env) R s:=by
 intro n;induction n with
 |zero=>intro W O s ρ f ev a h;exact cu h
 |succ n ih=>
  intro W O s ρ f ev a h;refine fj ?_;refine wpAny_noted ?_;have e0:whileTurn t body [] env=(isTrue t env (eval t env)>>=λb=>if b=true then execs body env>>=λf=>(match f with
    | .next| .cont=>again (.whileLoop t body [] env)
    | .brk=>pure (.done .next)
    | .ret v=>pure (.done (.ret v)))else execs [] env>>=λf=>pure (.done f)):=by unfold whileTurn;rfl
  rw [e0];rw [z9r]at h;show let g_:=_;g_;intro g_;show let z_:=_;let y_:=_;wpAny _ _ _ z_ y_ _;intro z_ y_;cases hx:el G x ρ with
  |none=>rw [hx]at h;exact cu h
  |some b=>
   rw [hx]at h;refine ab (ht.tst ok ev a rm hx _ _ λs₁ e₁=>?_);show let g_:=_;g_;intro g_;cases b with
   |false=>replace h:=oj h;subst h;exact ab (cz (am (hR W O s₁ (f.ext' e₁) (ev.ext e₁.toExt0) (a.ext e₁))))
   |true=>
    dsimp only at h;cases hl:eK G l ρ with
    |none=>rw [hl]at h;exact cu h
    |some o=>
     rw [hl]at h;refine ab (hb C G K ok env A s0 W₀ O0 rm W O s₁ ρ o (f.ext' e₁) (ev.ext e₁.toExt0) (a.ext e₁) hl _ _ ?_);induction o with
     |next ρ'=>exact λW' O' s' f' ev' a'=>am ⟨rfl,ih f' ev' a' h⟩
     |ret v=>replace h:=oj h;subst h;exact λval s' e' r'=>am (hR val s' e' r')
theorem z2j(ht:SE c t x)(hb:SSs c body l):SS c (.While t body [] pos) [.whileS x l]:=λC G K ok env A s0 W₀ O0 rm W O s ρ out f ev a h Q E k=>by
 simp only [ju,xE]at h;exact wpAny_While (zu9 ok rm ht hb (by
  induction out with
  |next ρ'=>exact k
  |ret v=>exact k) 6 f ev a h)
theorem jaf(hb:SSs c body l):SS c (.Try body (h₀::hs) [] [] pos) [.tryS l]:=λC G K ok env A s0 W₀ O0 rm W O s ρ out f ev a h Q E k=>by
 simp only [ju,xE]at h;refine wpAny_Try_except (hb C G K ok env A s0 W₀ O0 rm W O s ρ out f ev a h _ _ ?_);induction out with
 |next ρ'=>exact λW' O' s' f' ev' a'=>cz (k W' O' s' f' ev' a')
 |ret v=>exact k
theorem z6w{st:Stmt}:SS c st [.fail]:=λC G K ok env A s0 W₀ O0 rm W O s ρ out f ev a h Q E k=>by simp only [ju,xE]at h;exact cu h
end
end Mine.Internal
namespace Mine.Internal
open PySem PySem.W PySem.Calls PyProof.Rows PySem.Challenge
section
variable{C:CX}{c:CE}{env:Env}{W₀ O0 W O:Addr->Prop}{s0 s s':Shared}{ρ:Rho}
noncomputable def ou(e:Expr):Bool:=Nat.beq e.ctorIdx 25
theorem tC(h:ou e=false):iL [.Tuple ts k tp] e env=pure none:=by cases e<;>first|rfl|exact tf h
theorem zxx(h:jq e=false):swapsWithSole [.Tuple ts k tp] e n env=pure false:=by show swapsWith e (some (.Tuple ts k tp)) n env=pure false;exact mo h rfl
theorem oF(x:Heap.ExtBut s.heap.objs.size s.heap h'):Ext C s {s with heap:=h'}:=
 have hk: ∀b o,s.heap.get? b=some o->h'.get? b=some o:=λb o e=>x b o (λh=>by subst h;exact aW _ (aB e)) e
 ⟨⟨λb o J e=>hk b o e,C.keep λb o J e=>hk b o e,rfl,rfl,rfl⟩,az _⟩
theorem z6x(h:SE c e x)(hn:i6 es xs)(hp:Places c xs ts)(hc:jq e=false)(ht:ou e=false): SS c (.Assign [.Tuple es k tp] e pos) [.asgT ts x]:=λC G K ok env A s0 W₀ O0 rm W O s ρ out f ev a hx Q E q=>by
 simp only [ju,xE]at hx;show let g_:=_;g_;intro g_;refine aN (bind_some hx) λv h1 h2=>?_
 refine aN (bind_some h2) λvs h3 h4=>?_
 refine aN (gf h4) λρ' h5 e_=>?_
 subst e_;cases v with
 |tuple ps=>
  replace h3:=oj h3;subst h3;refine Assign_Tuple (h.val ok ev a rm h1 _ _ λu s₁ e₁ r_1=>?_) (zxx hc) (tC ht);show let g_:=_;g_;intro g_;refine kE r_1 λT us n e_ hw lo ho r=>?_
  subst e_;have hlen:(dU es env).length=us.toArray.size:=by rw [(hn.star env).1,(oY hp h5),<-r.length];simp
  refine gm rm.1 ⟨_,ho,rfl,_,rfl⟩ hlen (hn.star env).2 λh' hx'=>?_
  have e_2:=oF (C:=C) hx';have ev2:=(ev.ext e₁.toExt0).ext e_2.toExt0;refine o8 hn hp ev2 (RepL.stay ((e_2.toO (O:=λJ=>False)).stay λJ h=>False.elim h) _ _ (by simpa using r)) h5 λs3 e_3 ev3=>?_
  exact q W O s3 (((f.ext' e₁).ext' e_2).step e_3 λb hb=>ev2.owr hb) ev3 (((a.ext e₁).ext e_2).extO e_3)
 |_=>cases h3
end
theorem zxy(h:i≠j):setR (setR ρ i s) j t=setR (setR ρ j t) i s:=by exact List.set_comm _ _ h
theorem zrs: ∀{ts:List Nat} {ps:List PV} {ρ:Rho},i∉ts->gZ ts ps (setR ρ i s)=(gZ ts ps ρ).map λr=>setR r i s:=by
 intro ts;induction ts with
 |nil=>intro ps ρ J;cases ps<;>rfl
 |cons t ts ih=>intro ps ρ h;cases ps with
  |nil=>rfl
  |cons p ps=>
  show gZ ts ps (setR (setR ρ i s) t _)=_;rw [zxy (λe=>h (by subst e;exact .head _))];exact ih λhm=>h (.tail _ hm)
theorem zva: ∀{ts:List Nat} {ps:List PV} {ρ:Rho},ts.length=ps.length->gZ (ts++ [i]) (ps++ [p]) ρ=(gZ ts ps ρ).map λr=>setR r i (.val p):=by
 intro ts;induction ts with
 |nil=>intro ps ρ h;cases ps with
  |nil=>rfl
  |cons _ _=>cases h
 |cons t ts ih=>intro ps ρ h;cases ps with
  |nil=>cases h
  |cons q ps=>exact ih (Nat.succ.inj h)
theorem tR: ∀{ts:List Nat} {ps:List PV} {ρ ρ':Rho},gZ ts ps ρ=some ρ'->ts.length=ps.length:=by
 intro ts;induction ts with
 |nil=>intro ps ρ ρ' h;cases ps with
  |nil=>rfl
  |cons _ _=>exact cu h
 |cons t ts ih=>intro ps ρ ρ' h;cases ps with
  |nil=>exact cu h
  |cons q ps=>exact congrArg Nat.succ (ih h)
theorem zxz: ∀{ts:List Nat} {ps:List PV} {ρ ρ':Rho},ts.Nodup->gZ ts ps ρ=some ρ'->gZ ts.reverse ps.reverse ρ=some ρ':=by
 intro ts;induction ts with
 |nil=>intro ps ρ ρ' J h;cases ps with
  |nil=>exact h
  |cons _ _=>exact cu h
 |cons t ts ih=>intro ps ρ ρ' hn h;cases ps with
  |nil=>exact cu h
  |cons p ps=>
  have hl:=tR h;refine xA (dd.mp hn) λh1 h2=>?_
  replace h:=(zrs (s:=.val p) (ρ:=ρ) h1).symm.trans h;refine aN (gf h) λr hr e_=>?_
  subst e_;rw [dX,dX,zva (by rw [gL,gL];exact Nat.succ.inj hl),ih h2 hr];rfl
section
variable{C:CX}{c:CE}{env:Env}{W₀ O0 W O:Addr->Prop}{s0 s s':Shared}{ρ:Rho}{A:Around}
theorem Places.get(hp:Places c xs ts): ∀t∈ts,∃x∈xs,idx c.σ x=some t:=by
 induction hp with
 |nil=>intro t h;cases h
 |cons h1 _ _ ih=>
  intro t h;rcases aw.mp h with rfl|h
  ·exact bK _ (.head _) h1
  ·refine aN (ih t h) λx a b=>?_
   exact bK x (.tail _ a) b
theorem Places.nodup(hp:Places c xs ts):xs.Nodup->ts.Nodup:=by
 induction hp with
 |nil=>exact λJ=>.nil
 |cons h1 _ hr ih=>
  intro h;refine xA (dd.mp h) λa b=>?_
  refine dd.mpr ⟨λhm=>?_,ih b⟩;refine aN (hr.get _ hm) λx hx hi=>?_
  have:=kc hi h1;subst this;exact a hx
theorem Places.snoc(hp:Places c xs ts)(hi:idx c.σ x=some i)(hk:c.sc.names.lookup x=some .local\/c.sc.names.lookup x=some .cell):Places c (xs++ [x]) (ts++ [i]):=by
 induction hp with
 |nil=>exact .cons hi hk .nil
 |cons a b _ ih=>exact .cons a b ih
theorem Places.rev(hp:Places c xs ts):Places c xs.reverse ts.reverse:=by
 induction hp with
 |nil=>exact .nil
 |cons a b _ ih=>rw [dX,dX];exact ih.snoc a b
theorem RepL.snoc: ∀{ps:List PV} {vs:List Value},RepL C h W ps vs->Rep C h W p v->RepL C h W (ps++ [p]) (vs++ [v]):=by
 intro zz;induction zz with
 |nil=>intro vs r rp;obtain rfl:=ir r;exact eg _ _ rfl rp rfl
 |cons q ps ih=>
  intro vs r rp;refine ek (gY r) λv' u e_ hv hu=>?_
  subst e_;exact eg _ _ rfl hv (ih hu rp)
theorem RepL.rev: ∀{ps:List PV} {vs:List Value},RepL C h W ps vs->RepL C h W ps.reverse vs.reverse:=by
 intro zz;induction zz with
 |nil=>intro vs r;obtain rfl:=ir r;exact r
 |cons q ps ih=>
  intro vs r;refine ek (gY r) λv' u e_ hv hu=>?_
  subst e_;rw [dX,dX];exact (ih hu).snoc hv
theorem zx0: ∀{ts:List Nat} {ps:List PV} {vals:List Value} {s:Shared} {ρ ρ':Rho} {Q:Unit->Shared->Prop},Places c xs ts->dq C c env W O s.heap ρ-> RepL C s.heap W ps vals->gZ ts ps ρ=some ρ'->(∀s',ExtO C (OWr c env) s s'->dq C c env W O s'.heap ρ'->Q () s')->wpAny (model C.prog C.w) A (assignInOrder (xs.map λn=>bindName env n) vals) Q E s:=by
 induction xs with
 |nil=>
  intro ts ps vals s ρ ρ' Q hp ev hr hb q;cases hp;induction ps with
  |nil=>replace hb:=oj hb;subst hb;obtain rfl:=ir hr;exact am (q s (Ext.refl s).toO ev)
  |cons _ _=>exact cu hb
 |cons x xs ih=>
  intro ts ps vals s ρ ρ' Q hp ev hr hb q;show let g_:=_;g_;intro g_;cases hp with
  |cons hi hk hrest=>
   cases ps with
   |nil=>exact cu hb
   |cons p ps=>
    refine ek (gY hr) λv u e_ hv hu=>?_
    subst e_;refine ab (aX (gk (lm ev hi hk (.val hv) (λh=>by exact ft h) λs₁ e₁ ev_1=>?_)));exact ih hrest ev_1 (RepL.stay (e₁.stay λb hb=>ev.ow b (ev.owr hb)) _ _ hu) hb λs_2 e_2 ev2=>q s_2 (e₁.trans e_2) ev2
end
section
variable{C:CX}{c:CE}{env:Env}{W₀ O0 W O:Addr->Prop}{s0 s s':Shared}{ρ:Rho}{A:Around}
theorem i6.filter{es:List Expr}{xs:List Str}(hn:i6 es xs){f:Expr->Option Str}{c:Str->Pos->Bool}(hf: ∀x p,f (.Name x p)=if c x p=true then some x else none)(hl:(es.filterMap f).length=es.length):es.filterMap f=xs:=by
 induction hn with
 |nil=>rfl
 | @cons x p es' xs' h ih=>
  cases hc:c x p with
  |true=>rw [fb (by rw [hf,hc];rfl)]at hl⊢;rw [ih (Nat.succ.inj hl)]
  |false=>rw [jO (by rw [hf,hc];rfl)]at hl;exact absurd hl (bG (fk (List.length_filterMap_le f es')))
theorem qc{α:Type}{c:Prop}[Decidable c]{a b x y:α}(ha:a=x)(hb: ¬c->b=x\/b=y):(if c then a else b)=x\/(if c then a else b)=y:=by
 by_cases h:c
 ·exact .inl ((if_pos h).trans ha)
 ·rw [if_neg h];exact hb h
theorem zn8{es vs:List Expr}{xs:List Str}{k k2:Nat}{p p2:Pos}(hn:i6 es xs)(hd:xs.Nodup)(hc:vs.all (eG 8)=false)(env:Env): iL [.Tuple es k p] (.Tuple vs k2 p2) env=pure none\/iL [.Tuple es k p] (.Tuple vs k2 p2) env=pure (some xs):=by
 refine qc rfl λJ=>qc rfl λJ=>qc rfl λhl=>qc rfl λJ=>.inr ((if_neg (c:=vs.all (eG 8)=true) (by rw [hc];decide)).trans ?_)
 exact congrArg (λz=>(pure (some z):Sem (Option (List Str)))) (hn.filter (c:=λid pos=>env.kindOf id==some .local&&pos.line==(Option.map (λx=>x.pos.line) es.head?).getD 0) (λJ J=>rfl) (bne_eq_false_iff_eq.mp (Bool.or_eq_false_iff.mp (Bool.not_eq_true _▸hl)).1))
theorem z2k(h:SE c (.Tuple vs k2 p2) x)(hn:i6 es xs)(hp:Places c xs ts)(hd:xs.Nodup)(hc:vs.all (eG 8)=false): SS c (.Assign [.Tuple es k tp] (.Tuple vs k2 p2) pos) [.asgT ts x]:=λC G K ok env A s0 W₀ O0 rm W O s ρ out f ev a hx Q E q=>by
 simp only [ju,xE]at hx;show let g_:=_;g_;intro g_;refine aN (bind_some hx) λv h1 h2=>?_
 refine aN (bind_some h2) λvs' h3 h4=>?_
 refine aN (gf h4) λρ' h5 e_=>?_
 subst e_;cases v with
 |tuple ps=>
  replace h3:=oj h3;subst h3;rcases zn8 (k:=k) (p:=tp) (k2:=k2) (p2:=p2) hn hd hc env with hw|hw
  ·refine Assign_Tuple (h.val ok ev a rm h1 _ _ λu s₁ e₁ r_1=>?_) rfl hw;refine kE r_1 λT us n e_ hw lo ho r=>?_
   subst e_;have hlen:(dU es env).length=us.toArray.size:=by rw [(hn.star env).1];have h1:=r.length;have h2:=oY hp h5;rw [h2,<-h1];simp
   refine gm rm.1 ⟨_,ho,rfl,_,rfl⟩ hlen (hn.star env).2 λh' hx'=>?_
   have e_2:=oF (C:=C) hx';have ev2:=(ev.ext e₁.toExt0).ext e_2.toExt0;refine o8 hn hp ev2 (RepL.stay ((e_2.toO (O:=λJ=>False)).stay λJ h=>False.elim h) _ _ (by simpa using r)) h5 λs3 e_3 ev3=>?_
   exact q W O s3 (((f.ext' e₁).ext' e_2).step e_3 λb hb=>ev2.owr hb) ev3 (((a.ext e₁).ext e_2).extO e_3)
  ·refine Assign_Tuple_swapped (h.val ok ev a rm h1 _ _ λu s₁ e₁ r_1=>?_) rfl hw;refine kE r_1 λT us n e_ hw lo ho r=>?_
   subst e_;have hlen:xs.length=us.toArray.size:=by have h1:=r.length;have h2:=oY hp h5;rw [h2,<-h1];simp
   rw [hlen];refine wpAny_unpackItems_tuple rm.1 ⟨_,ho,rfl,_,rfl⟩ λh' hx'=>?_
   have e_2:=oF (C:=C) hx';have ev2:=(ev.ext e₁.toExt0).ext e_2.toExt0;refine zx0 hp.rev ev2 (by simpa using (RepL.stay ((e_2.toO (O:=λJ=>False)).stay λJ h=>False.elim h) _ _ r).rev) (zxz (hp.nodup hd) h5) λs3 e_3 ev3=>?_
   exact q W O s3 (((f.ext' e₁).ext' e_2).step e_3 λb hb=>ev2.owr hb) ev3 (((a.ext e₁).ext e_2).extO e_3)
 |_=>cases h3
end
section
variable{C:CX}{c:CE}{env:Env}{W₀ O0 W O:Addr->Prop}{s0 s s':Shared}{ρ:Rho}
theorem RepL.setAt: ∀{ps:List PV} {vs:List Value} (i:Nat),RepL C h W ps vs->Rep C h W p v->RepL C h W (ps.set i p) (vs.set i v):=by
 intro zz;induction zz with
 |nil=>intro vs i r rp;obtain rfl:=ir r;exact r
 |cons q ps ih=>
  intro vs i r rp;refine ek (gY r) λv' u e_ hv hu=>?_
  subst e_;cases i with
  |zero=>exact eg _ _ rfl rp hu
  |succ i=>exact eg _ _ rfl hv (ih i hu rp)
theorem z6y{A:Around}{E:Value->Shared->Prop}{l:Addr}{vs:List Value}{n:Nat}{k:Int}{t:Tok}{v:Value}{Q:Unit->Shared->Prop}(hl:s.heap.get? l=some (ff vs n))(h0:0<=k)(hfit:k<2^63)(hn:k<vs.length)(q: ∀h' n',h'.get? l=some (ff (vs.set k.toNat v) n')->Heap.SameBut l s.heap h'->Q () {s with heap:=h'}):wpAny (model C.prog C.w) A (setItem (.ref l) (.int k t) v) Q E s:=by
 have ty:s.heap.IsList l vs.toArray:=⟨_,hl,rfl,_,rfl⟩;have hd:(ff vs n).data= .seq vs.toArray n:=rfl;unfold setItem
 try with_reducible refine aX ?_
 first|refine ab (am ?_)|skip
 refine ab (wpAny_sequenceKey ty.typeIs (by decide) (ab (wpAny_callSpecial?_slot (name:=ao "__setitem__") ty.typeIs slot_list_setitem
  (wpAny_call_entry slot_list_setitem ty.typeIs entry_list_setitem ?_ (args_list_setitem _ _ _)))))
 show wpAny _ _ (Builtin.List.listSubscript? (.int k t)>>=_) _ _ s;show let z_:=_;let y_:=_;wpAny _ _ _ z_ y_ _;intro z_ y_;refine ab (wpAny_listSubscript_int (fitsIndex_of h0 hfit) ?_);clear hfit;obtain ⟨j,rfl⟩:=fx h0;have hj:j<vs.toArray.size:=by simp only [bI];exact cy.mp ‹_›
 refine ab (ab (wpAny_seqItemAt hl hd (am ?_)));rw [Array.getElem?_eq_getElem hj];have hm: ∃n',hY (·.setIfInBounds j v) (ff vs n)=ff (vs.set j v) n':=⟨_,by simp only [hY,ff,List.setIfInBounds_toArray];rfl⟩;obtain ⟨n',hm⟩:=hm;have fin:(s.heap.update l (hY (·.setIfInBounds j v))).get? l=some (ff (vs.set j v) n'):=by rw [cV _ hl (by rw [hm];rfl),hm]
 refine ab (wpAny_setSeqItemAt hl hd ?_)
 first
  |exact ab (am (am ⟨.none,rfl,am (q _ n' fin (fc ..))⟩))
  |exact am ⟨.none,rfl,am (q _ n' fin (fc ..))⟩
end
variable{c:CE}{p_1 pos:Pos}
theorem zx1(ev:dq C c env W O s.heap ρ)(a:At C W s)(hd:(x==("__debug__" :Str))=false)(hk:c.sc.names.lookup x=some .globalImplicit)(hg:C.mg x=none/\C.mb x=some (.type n))(q:Q (.type n) s):wpAny (model C.prog C.w) A (eval (.Name x p_1) env) Q E s:=by
 have k:env.kindOf x=some .globalImplicit:=by
  rcases ev.names x with h|⟨h,J⟩|h
  ·exact h.trans hk
  ·rw [hk]at h;cases h
  ·rw [hk]at h;cases h
 refine Name_function_global ev.kind k ?_ hd;exact gr (ev.glob▸CX.g _ a.inv) hg.1 (ev.bui▸CX.b _ a.inv) hg.2 q
theorem jag(h:SE c e x)(hk:c.sc.names.lookup ("reversed":Str)=some .globalImplicit):SI c (.Call (.Name "reversed" p_1) [e] [] pos) (.revd x) true where
 f:=uh rfl
 v:=λC G K ok env W O s ρ A items ev a rm hi J Q E q=>by
  show let g_:=_;g_;intro g_;obtain ⟨p,h1,h2⟩:=bind_some hi;obtain ⟨xs,hx,g⟩:=gf h2;cases zms hx;cases g;refine bX (zx1 ev a (by decide) hk ok.revd ?_);show let z_:=_;let y_:=_;wpAny _ _ _ z_ y_ _;intro z_ y_;have hst:(backTo pos (bY [e] env)).any (·.1)=false:=by rw [h.ns];rfl
  refine pw hst (i7 hst ?_);rw [h.ns];refine bq (h.val ok ev a rm h1 _ _ λv s₁ e₁ r_1=>bR ?_);have a_1:=a.ext e₁;show let g_:=_;g_;intro g_;obtain ⟨l,vs,n,rfl,hw,hn,ho,hl,hz⟩:=iU r_1;have hL:s₁.heap.IsList l vs.toArray:=⟨_,ho,rfl,_,rfl⟩;have hfr:s.heap.get? s₁.heap.objs.size=none:=by
   cases hh:s.heap.get? s₁.heap.objs.size with
   |none=>rfl
   |some o=>have:=e₁.new _ o a_1.low hh;rw [jA]at this;exact cu this
  refine call_reversed_list hL (wpAny_pyIter_revIter (i:=(vs.toArray.size:Int)-1) (et _ (au _ rfl) rfl rfl) ?_);refine q _ _ [s₁.heap.objs.size,l] [s₁.heap.objs.size] _ (e₁.trans kD) (.one (Walks.listRev rm.1 _ l (bG (aB ho)) vs.toArray) (by rw [gL];exact qA hl) (λi h st=>jr (by obtain ⟨o,ho,hc,J⟩:=st.2.1;exact (bK o ho (j9 hc (by decide))))) λi v hi hv=>?_)
   ⟨bD _,(et _ (au _ rfl) rfl (by simp [revObj])),hL.push _⟩ (jr ⟨a_1.low,hfr⟩) (oq ⟨a_1.low,.inl ag⟩ ⟨hn,.inr hw⟩) (oq ⟨_,au _ rfl⟩ ⟨_,aq _ ho⟩)
  show let g_:=_;g_;intro g_;obtain ⟨x,g1,g2⟩:=zxj hl sN (vs.toArray.size-1-i) v (Nat.lt_of_le_of_lt (Nat.sub_le _ _) (Nat.sub_lt (Nat.lt_of_le_of_lt (bD i) hi) Nat.one_pos)) (by simpa using hv);have hz:=qA hl;refine bK x ?_ g2;rw [List.getElem?_reverse (by lia),<-hz];exact g1
variable{c:CE}{p_1 pos:Pos}
theorem zrt(ha:SE c a x)(hi:idx c.σ nm=some j)(hk:visK c.base j (c.sc.names.lookup nm)=true)(hd:(nm==("__debug__" :Str))=false)(hcd:(nm==("__classdict__" :Str))=false)(hm:behindInMarks .NotIn (.Name nm p_1)=false):SE c (.Compare a [.NotIn] [.Name nm p_1] pos) (.notinOwn x j):=by
 have key: ∀(C:CX) (G:GT) (K:Nat) (_:FnOk C G K) (env:Env) (W O:Addr->Prop) (s:Shared) (ρ:Rho) (A:Around) (z:Bool),dq C c env W O s.heap ρ->At C W s->Room A K->
   el G (.notinOwn x j) ρ=some z->
   ∀(Q E:Value->Shared->Prop),(∀s',Ext C s s'->Q (.bool z) s')->
    wpAny (model C.prog C.w) A (eval a env) (λa s₁=>wpAny (model C.prog C.w) A (eval (.Name nm p_1) env) (λb s_2=>wpAny (model C.prog C.w) A (de .NotIn a b) Q E s_2) E s₁) E s:=by
  intro C G K ok env W O s ρ A z ev at' rm h Q E q;show let g_:=_;g_;intro g_;refine aN (bind_some h) λu h1 h=>?_
  refine aN (bind_some h) λkvs h0 g=>?_
  refine aN (mapS (y:=u) g) λk e_ e_1=>?_
  subst e_ e_1;refine aN (ev.vars nm j _ hi hk (tZ h0)) λv hv r=>?_
  cases r with
  | @ownD _ ad vs ho lo l r=>
  refine ha.val ok ev at' rm h1 _ _ λu' s₁ e₁ r_1=>?_
  refine bU (lk (ev.ext e₁.toExt0) hcd (hv.keep e₁.new (ev.lo _ ev.loc)) ?_) hd;show let g_:=_;g_;intro g_;refine aN (gA r_1) λt e_ J=>?_
  subst e_;refine gO l λo q1 q2 ho' hr'=>?_
  have hd':s₁.heap.DictOf (strKind C.prog C.w) ad vs:=gz o q1 q2 (e₁.new _ _ lo ho') hr';have hiff:(valueAt vs k).isSome=(kvs.lookup k).isSome:=by
   cases hl:kvs.lookup k with
   |none=>rw [t7 r hl];rfl
   |some z=>obtain ⟨w,g1,J⟩:=pf r hl;rw [g1];rfl
  refine wpAny_notIn_of (gp _ _ _ _) (mM lo) hd'.mapOf ?_;rw [hiff];exact q _ (e₁.trans .tok1)
 have e1: ∀G ρ,be G (.notinOwn x j) ρ=(el G (.notinOwn x j) ρ).map .bool:=λG ρ=>by
  simp only [eE,tE];cases be G x ρ with
  |none=>rfl
  |some u=>
   simp only [ac];cases kA ρ j with
   |none=>rfl
   |some kvs=>cases strOf u<;>rfl
 exact {
  v:=λC G K ok env W O s ρ A p ev at' rm h Q E q=>by
   rw [e1]at h;show let g_:=_;g_;intro g_;refine aN (gf h) λz h1 h=>?_
   subst h;exact wpAny_Compare1 (key C G K ok env W O s ρ A z ev at' rm h1 _ _ λs' e'=>q _ s' e' gy) hm
  ns:=λJ J=>rfl
  t:=λC G K ok env W O s ρ A p ev at' rm h Q E q=>by exact fG (key C G K ok env W O s ρ A p ev at' rm h _ _ λs' e'=>dl (q s' e')) hm}
section
variable{C:CX}{c:CE}{env:Env}{W₀ O0 W O:Addr->Prop}{s0 s s':Shared}{ρ:Rho}
theorem zm2{i:Nat}{x:Str}{xs xs':List (Str×PV)}{ad:Addr}{vs':List (Str×Value)}{h':Heap}(ev:dq C c env W O s.heap ρ)(hi:idx c.σ x=some i)(hk:visK c.base i (c.sc.names.lookup x)=true)(hsl:ρ[i]?=some (some (.ownD xs)))(hv:fQ s.heap env C.n₀ x (.ref ad))(hs:Heap.SameBut ad s.heap h')(hl:h'.DictOf (strKind C.prog C.w) ad vs')(hr:RepD C s.heap W xs' vs'): ExtO C O s {s with heap:=h'}/\dq C c env W O h' (setR ρ i (.ownD xs'))/\fQ h' env C.n₀ x (.ref ad)/\ (∀y j t,y≠x->idx c.σ y=some j->visK c.base j (c.sc.names.lookup y)=true->ρ[j]?=some (some t)->t.isOwn=true-> ¬fQ s.heap env C.n₀ y (.ref ad)):=by
 refine aN (ev.vars x i _ hi hk hsl) λu g1 g2=>?_
 have:=g1.fn hv;subst this;cases g2 with
 |ownD w lo l r=>
 have hO:=w.1;have hL:=w.2;have hcell: ∀b v,s.heap.IsCell b v->b≠ad:=λb v hb=>dh (uj l hb)
 have hap: ∀y j t,y≠x->idx c.σ y=some j->visK c.base j (c.sc.names.lookup y)=true->ρ[j]?=some (some t)->t.isOwn=true-> ¬fQ s.heap env C.n₀ y (.ref ad):=λy j t hy h1 h2 h3 h4 h5=>by have:=ev.apart y x j i t _ _ h1 hi h2 hk h3 hsl h4 rfl h5 hv;subst this;exact hy (kc h1 hi)
 have hS:Stay C s.heap h' W W:=λb o hb hw eb=>⟨(hs.2 b λh=>hw (ev.ow _ (h▸hO))).trans eb,hw⟩
 have keepV: ∀y u,fQ s.heap env C.n₀ y u->fQ h' env C.n₀ y u:=λy u hy=>by
  cases hy with
  |loc k' n' e'=>
   refine gO n' λo es ep ho rr=>?_
   exact .loc k' (gz o es ep ((hs.2 _ (dh hL)).trans ho) rr) e'
  |cell k' l' lo' i'=>
   refine aN i' λo ho hd=>?_
   exact .cell k' l' lo' (bK o ((hs.2 _ (hcell _ _ (bK o ho hd))).trans ho) hd)
 have ex:ExtO C O s {s with heap:=h'}:=.sameBut hs hO lo (by obtain ⟨o,J,J,h,J⟩:=hl;exact ⟨o,h⟩) (λo eo=>by
  refine mP l λo' es ep e' J hd J=>?_
  rw [e']at eo;replace eo:=oj eo;subst eo;exact qN hd) (az _)
 refine ⟨ex,?_,keepV x _ hv,hap⟩;exact {
  glob:=ev.glob
  bui:=ev.bui
  kind:=ev.kind
  ow:=ev.ow
  lo:=ev.lo
  loc:=ev.loc
  ns:=by obtain ⟨m,o,es,ep,ho,rr⟩:=ev.ns;exact nd m o es ep ((hs.2 _ (dh hL)).trans ho) rr
  names:=ev.names
  cells:=λy hy=>by obtain ⟨a,v,h1,h2,o,ho,hd⟩:=ev.cells y hy;exact mN a v h1 h2 o ((hs.2 _ (hcell _ _ (bK o ho hd))).trans ho) hd
  cinj:=ev.cinj
  top:=λj t hj=>by
   rcases js hj with ⟨rfl,J⟩|⟨J,hj⟩
   ·exact k9 hi
   ·exact ev.top j t hj
  vars:=λy j t h1 h2 h3=>by
   rcases js h3 with ⟨rfl,rfl⟩|⟨hne,h3⟩
   ·have:=kc h1 hi;subst this;exact bK _ (keepV _ _ hv) (.ownD ⟨hO,hL⟩ lo hl (RepD.stay hS _ _ hr))
   ·refine aN (ev.vars y j t h1 h2 h3) λu k1 k2=>?_
    have hy:y≠x:=λe'=>by subst e';rw [hi]at h1;replace h1:=oj h1;subst h1;exact hne rfl
    refine bK u (keepV _ _ k1) ?_;induction k2 with
    |val r=>exact .val (Rep.stay hS _ _ r)
    |own w' lo' l' r' z'=>exact .own w' lo' ((hs.2 _ (λh=>by subst h;exact hap y j _ hy h1 h2 h3 rfl k1)).trans l') (RepL.stay hS _ _ r') z'
    |ownD w' lo' g' r'=>
     have h0:=(λJ hvb h=>by subst h;exact hap y j _ hy h1 h2 h3 rfl hvb: ∀{b l},s.heap.DictOf (strKind C.prog C.w) b l->fQ s.heap env C.n₀ y (.ref b)->b≠ad) g' k1;refine gO g' λo e1 e2 ho hr'=>?_
     exact .ownD w' lo' (gz o e1 e2 ((hs.2 _ h0).trans ho) hr') (RepD.stay hS _ _ r')
  apart:=λy z j k t u v h1 h2 k1 k2 h3 h4 h5 h6 h7 h8=>by
   have back: ∀{y:Str} {j:Nat} {v:Value},idx c.σ y=some j->visK c.base j (c.sc.names.lookup y)=true->(∃t:Slot,ρ[j]?=some (some t))->fQ h' env C.n₀ y v->fQ s.heap env C.n₀ y v:=λ{y j v} h1 h2 z h7=>by
    obtain ⟨t',h3⟩:=z;refine aN (ev.vars y j t' h1 h2 h3) λu k1 J=>?_
    rw [h7.fn (keepV _ _ k1)];exact k1
   have sl1: ∃t',ρ[j]?=some (some t')/\t'.isOwn=true:=by
    show let g_:=_;g_;intro g_;rcases js h3 with ⟨rfl,rfl⟩|⟨J,h3⟩
    ·exact bK _ hsl rfl
    ·exact bK _ h3 h5
   have sl2: ∃t',ρ[k]?=some (some t')/\t'.isOwn=true:=by
    rcases js h4 with ⟨rfl,rfl⟩|⟨J,h4⟩
    ·exact bK _ hsl rfl
    ·exact bK _ h4 h6
   refine aN sl1 λt' q1 q2=>?_
   refine aN sl2 λu' q3 q4=>?_
   exact ev.apart y z j k t' u' v h1 h2 k1 k2 q1 q3 q2 q4 (back h1 k1 ⟨_,q1⟩ h7) (back h2 k2 ⟨_,q3⟩ h8)}
end
section
variable{C:CX}{c:CE}{env:Env}{W₀ O0 W O:Addr->Prop}{s0 s s':Shared}{ρ:Rho}
theorem RepD.length: ∀{kvs:List (Str×PV)} {l:List (Str×Value)},RepD C h W kvs l->l.length=kvs.length:=by
 intro zz;induction zz with
 |nil=>intro J r;obtain rfl:_=_:=r;rfl
 |cons zq t ih=>obtain ⟨q,y⟩:=zq;intro l r;obtain ⟨v,l',rfl,J,r⟩:=r;simp [ih r]
theorem zx2{e:Expr}{y:Str}{i:Nat}{p p_1 pos spos:Pos}{A:Around}{kvs l₂:List (Str×PV)}(hi:idx c.σ y=some i)(hvis:visK c.base i (c.sc.names.lookup y)=true)(hd:(y==("__debug__" :Str))=false)(hcd:(y==("__classdict__" :Str))=false)(hline:(p_1.endLine==pos.line)=true)(hns:bY [e] env=[(false,eval e env)])(ev:dq C c env W O s.heap ρ)(hsl:ρ[i]?=some (some (.ownD kvs)))(hz:kvs.length+l₂.length<=1000){P:Lits->Prop}(h: ∀Q' E',(∀v s₁ L,P L->Ext C s s₁->dq (C.relit L) c env W O s₁.heap ρ->At (C.relit L) W s₁->Rep (C.relit L) s₁.heap W (.dict l₂) v->Q' v s₁)->wpAny (model C.prog C.w) A (eval e env) Q' E' s){Q:Flow->Shared->Prop}{E:Value->Shared->Prop}(k: ∀L s',P L->ExtO C O s s'->dq (C.relit L) c env W O s'.heap (setR ρ i (.ownD (iF kvs l₂)))->At (C.relit L) W s'->Q .next s'): wpAny (model C.prog C.w) A (exec (.Expr (.Call (.Attribute (.Name y p) ("update":Str) p_1) [e] [] pos) spos) env) Q E s:=by
 show let g_:=_;g_;intro g_;refine aN (ev.vars y i _ hi hvis hsl) λv hv r=>?_
 cases r with
 | @ownD _ ad vs w lo l r=>
 refine dT ?_ (lM ev.kind) rfl;have hst:(backTo pos (bY [e] env)).any (·.1)=false:=by rw [hns];rfl
 refine cQ (lp rfl) (by rw [hns];rfl) hline rfl (bU (lk ev hcd hv ?_) hd);refine iX ("dict") ("dict.update") F.plainAttrs_dict F.slot_dict_update F.type_dict_update l.typeIs l.mapOf.noDict ?_;refine dQ hst (i7 hst ?_);rw [hns];refine bq (h _ _ λu' s₁ L pL e₁ ev_1 a_1 r_1=>bR ?_);show let g_:=_;g_;intro g_;refine lf r_1 λb ml e_ hw lob hdb hrb=>?_
 subst e_;refine aN (ev_1.vars y i _ hi hvis hsl) λv' hv' r'=>?_
 have:=(hv.keep e₁.new (ev.lo _ ev.loc)).fn hv';subst this;cases r' with
 | @ownD _ _ vs' w' lo' l' r'=>
 refine call_meetsIn PySem.F.slot_dict_update l'.typeIs PySem.F.entry_dict_update (PySem.F.args_dict_update_2 _ _) (meets_dict_update (strKind C.prog C.w) ad b (λh=>hw (h▸ev.ow _ w.1)) (mM lob)) (jK vs' ml l' hdb ?_ (λh' hm J hs=>?_))
 ·rw [r'.length,hrb.length,av];exact aa ‹_› (by decide)
 ·show let g_:=_;g_;intro g_;refine ji (zm2 (xs':=iF kvs l₂) ev_1 hi hvis hsl hv' hs hm (o9 r' hrb)) λex ev2 hv_2 hap=>?_
  exact k L _ pL (e₁.toO.trans ⟨ex.new,ex.occ,ex.inv,ex.gens,ex.drawn,ex.os,ex.toks⟩) ev2 (a_1.extO ex)
theorem jah{e:Expr}{x:PE}{y:Str}{i:Nat}{p p_1 pos spos:Pos}(h:SE c e x)(hi:idx c.σ y=some i)(hvis:visK c.base i (c.sc.names.lookup y)=true)(hd:(y==("__debug__" :Str))=false)(hcd:(y==("__classdict__" :Str))=false)(hline:(p_1.endLine==pos.line)=true): SS c (.Expr (.Call (.Attribute (.Name y p) ("update":Str) p_1) [e] [] pos) spos) [.upd i x]:=λC G K ok env A s0 W₀ O0 rm W O s ρ out f ev a hp Q E k=>by
 simp only [ju,xE]at hp;show let g_:=_;g_;intro g_;refine aN (bind_some hp) λxs h0 g=>?_
 refine aN (bind_some g) λu hu g1=>?_
 refine aN (bind_some g1) λl₂ h1 g2=>?_
 cases zmr h1;refine xA (gP g2) λhz e_=>?_
 subst e_;exact zx2 (P:=λL=>L=C.L) hi hvis hd hcd hline (h.ns [] env) ev (tZ h0) hz (λQ' E' q=>h.val ok ev a rm hu _ _ λv s₁ e₁ r_1=>q v s₁ C.L rfl e₁ (ev.ext e₁.toExt0) (a.ext e₁) r_1) λL s' hL x' ev' a'=>by subst hL;exact k W O s' (f.step x' λb hb=>hb) ev' a'
end
section
variable{C:CX}{c:CE}{env:Env}{W₀ O0 W O:Addr->Prop}{s0 s s':Shared}{ρ:Rho}
theorem z6z(h1:SE c i y)(h2:SE c e x)(hc:jq e=false)(hi:idx c.σ nm=some j)(hk:visK c.base j (c.sc.names.lookup nm)=true)(hd:(nm==("__debug__" :Str))=false)(hcd:(nm==("__classdict__" :Str))=false): SS c (.Assign [.Subscript (.Name nm p) i tpos] e pos) [.setD j y x]:=λC G K ok env A s0 W₀ O0 rm W O s ρ out f ev a hp Q E k=>by
 simp only [ju,xE]at hp;show let g_:=_;g_;intro g_;refine aN (bind_some hp) λvv hvv g=>?_
 refine aN (bind_some g) λkv hkv g=>?_
 refine aN (bind_some g) λkvs h0 g=>?_
 refine aN (lA g) λkey e_ g=>?_
 subst e_;refine xA (gP g) λhz e_=>?_
 subst e_;have hsl:=tZ h0;refine aN (ev.vars nm j _ hi hk hsl) λv hv r=>?_
 cases r with
 | @ownD _ ad vs w lo l r=>
 refine wpAny_Assign_Subscript (h2.val ok ev a rm hvv _ _ λu s₁ e₁ r_1=>?_) (mo hc rfl);have ev_1:=ev.ext e₁.toExt0;refine bU (lk ev_1 hcd (hv.keep e₁.new (ev.lo _ ev.loc)) ?_) hd;refine h1.val ok ev_1 (a.ext e₁) rm hkv _ _ λiv s_2 e_2 r_2=>?_
 show let g_:=_;g_;intro g_;refine aN (gA r_2) λt e_ J=>?_
 subst e_;have e12:=e₁.trans e_2;refine gO l λo q1 q2 ho' hr'=>?_
 have hr2:=RepD.stay (e12.toExt0.stay W) _ _ r;refine wpAny_setItem_pairs (knd:=strKind C.prog C.w) (gp _ _ key t) (gz o q1 q2 (e12.new _ _ lo ho') hr') (λh' hm hs=>?_) (by rw [hr2.length,av];exact aa hz (by decide));show let g_:=_;g_;intro g_;refine ji (zm2 (xs':=jM kvs key vv) (ev.ext e12.toExt0) hi hk hsl (hv.keep e12.new (ev.lo _ ev.loc)) hs hm (tT hr2 (r_1.ext e_2.toExt0))) λex ev3 hv_3 hap=>?_
 have ex':=ex.trans (Ext.toO (O:=O) (⟨.toks (s_2.toks+1),kG _⟩:Ext C {s_2 with heap:=h'} {s_2 with heap:=h',toks:=s_2.toks+1}));exact k W O _ ((f.ext' e12).step ex' λb hb=>hb) ev3 ((a.ext e12).extO ex')
end
noncomputable def z5h(G:GT)(ts:List Nat)(single:Bool)(k v:PE)(ρ:Rho)(x:PV):Option (Str×PV):=(hK ts single x ρ).bind λρ'=>(be G k ρ').bind λkk=>(strOf kk).bind λy=>(be G v ρ').map λz=>(y,z)
theorem z2l: iy (.DictComp ke ve [⟨t,iter,[],0⟩] scope pos) 0 it (.ref D) env=(standAt iter.pos>>=λJ=>pyNext it>>=λr=>match r with
   |none=>pure (.done .next)
   |some v=>d0 t it v>>=λJ=>assign t env v>>=λJ=>forIn [] true (lJ env)>>=λok=>
    if ok=true then (eval ke env>>=λkv=>holding [kv] (eval ve env)>>=λvv=>standAt {ke.pos with endLine:=ve.pos.endLine,endCol:=ve.pos.endCol}>>=λJ=>holding [kv,vv] (dictSet D kv vv))>>=λJ=>again (.compLoop (.DictComp ke ve [⟨t,iter,[],0⟩] scope pos) 0 it (.ref D) env)
    else again (.compLoop (.DictComp ke ve [⟨t,iter,[],0⟩] scope pos) 0 it (.ref D) env)):=by rfl
section
variable{C:CX}{c:CE}{env:Env}{W O:Addr->Prop}{ρ:Rho}{D:Addr}
theorem z2m(ls:LS C c env W O s ρ D (.dict kvs))(hz:kvs.length<=1000)(hv:Rep C s.heap W p v)(q: ∀s',ExtN C (λb=>OWr c env b\/b=D) (λJ=>False) s s'->LS C c env W O s' ρ D (.dict (jM kvs k p))->(∀b o,b≠D->s.heap.get? b=some o->s'.heap.get? b=some o)->Q () s'): wpAny (model C.prog C.w) A (dictSet D (.str k t) v) Q E s:=by
 refine aN ls.acc.at'.dct λl g r=>?_
 refine wpAny_dictSet_pairs (knd:=strKind C.prog C.w) (gp _ _ k t) g (λh' hl hs=>?_) (by rw [r.len,av];exact aa hz (by decide));have hk: ∀b o,b≠D->s.heap.get? b=some o->h'.get? b=some o:=λb o hb e=>(hs.2 b hb).trans e
 have hS:Stay C s.heap h' W W:=λb o hb hw e=>⟨hk b o (λh=>hw (h▸ls.acc.w)) e,hw⟩
 have hocc: ∀b o,C.n₀<=b->s.heap.get? b=some o-> ∃o',h'.get? b=some o':=λb o J e=>by
  show let g_:=_;g_;intro g_;by_cases hb:b=D
  ·subst hb;obtain ⟨o',J,J,e',J⟩:=hl;exact ⟨o',e'⟩
  ·exact ⟨o,hk b o hb e⟩
 have hnc: ∀o,s.heap.get? D=some o-> ¬i0 o:=λo e=>by
  show let g_:=_;g_;intro g_;refine mP g λo' es ep e' J hd J=>?_
  rw [e']at e;obtain rfl:=oj e;exact qN hd
 have hinv:=λi=>C.keepBut ls.acc.lo hnc hk i
 exact q {s with heap:=h',toks:=s.toks+1} ⟨λb o J hb J e=>hk b o (λh=>hb (.inr h)) e,λb o lo J e=>hocc b o lo e,hinv,rfl,rfl,rfl,kG _⟩
  ⟨ls.ev.move (λb o J hb e=>hk b o (λh=>by subst h;rcases hb with hb|hb;exact hb ls.acc.w;exact ls.nO hb) e) ls.ev.ow λb hb=>.inl hb,
   ⟨hinv ls.a.inv,λb hb=>by obtain ⟨lo,o,e⟩:=ls.a.wocc b hb;exact ⟨lo,hocc b o lo e⟩,Nat.lt_succ_of_lt ls.a.tok⟩,
   ⟨ls.acc.lo,ls.acc.w,.dict hl (tT (RepD.stay hS _ _ r) (Rep.stay hS _ _ hv))⟩,ls.nO⟩ hk
def SD(G:GT)(k v:PE)(ρ':Rho)(p q:PV):Prop:=∃kvs y z,p= .dict kvs/\be G k ρ'=some (.str y)/\be G v ρ'=some z/\kvs.length<1000/\q= .dict (jM kvs y z)
theorem zx3(kvs:List (Str×PV))(y:Str)(z:PV):(jM kvs y z).length<=kvs.length+1:=by
 unfold jM;by_cases h:kvs.any (λkv=>kv.1=y)=true
 ·rw [if_pos h,aY];exact kG _
 ·rw [if_neg h,aC];exact az _
theorem zx4{G:GT}{ts:List Nat}{single:Bool}{k v:PE}{ρ:Rho}: ∀(xs:List PV) {kvs l:List (Str×PV)},xs.mapM (z5h G ts single k v ρ)=some l->kvs.length+l.length<=1000-> Runs G ts single [] ρ (SD G k v) xs (.dict kvs) (.dict (iF kvs l)):=by
 intro xs;induction xs with
 |nil=>intro kvs l h J;obtain rfl: []=l:=Option.some.inj h;rfl
 |cons a xs ih=>
  intro kvs l h hz;refine ek (ki h) λr l' h1 h2 e=>?_
  subst e;refine aN (bind_some h1) λρ' hb h1=>?_
  refine aN (bind_some h1) λkk hk h1=>?_
  refine aN (lA h1) λy e h1=>?_
  subst e;refine aN (gf h1) λz hv e=>?_
  subst e;rw [aK]at hz;exact zpu (b:=true) hb rfl (λJ=>⟨kvs,y,z,rfl,hk,hv,af (fm (jk _)) hz,rfl⟩) (λe=>nomatch e)
   (ih h2 (aa (bW (zx3 kvs y z) _) (by rw [eZ,dR 1];exact hz)))
theorem zvb{G:GT}{K:Nat}(ok:FnOk C G K){A:Around}(rm:Room A K){ke ve t iter:Expr}{scope:Scope}{pos:Pos}{xk xv:PE}{xs:List Str}{ts:List Nat}{single:Bool}(gok:GOk c t xs ts single)(hke:SE (c.up xs) ke xk)(hve:SE (c.up xs) ve xv){items:List PV}{I:Addr}{fp wr:List Addr}{St:Nat->Heap->Prop}{R:Result->Shared->Prop}{s:Shared}{l:List (Str×PV)}(ls:LS C c env W O s ρ D (.dict []))(src:Src C A W s.heap I single fp wr items St)(sa:SrcAt C W O s.heap fp wr)(st:St 0 s.heap)(hDw:D∉wr)(hm:items.mapM (z5h G ts single xk xv ρ)=some l)(hsz:l.length<=1000)(hR: ∀s',ExtN C (λb=>OWr c env b\/b=D) (· ∈wr) s s'->dq C c env (λb=>W b/\b∉wr) O s'.heap ρ->Acc C (λb=>W b/\b∉wr) s'.heap D (.dict (iF [] l))->R (.ok .next) s'): codeAny (model C.prog C.w) A (.compLoop (.DictComp ke ve [⟨t,iter,[],0⟩] scope pos) 0 (.ref I) (.ref D) env) R s:=by
 refine tF ok rm z2l rfl rfl (if_neg (by decide)) gok .nil (λ{ρ' p q i s Q E} hs ls src st k=>?_) sa hDw _ (zx4 _ hm (by rw [j2,eu];exact hsz)) rfl ls src st (bD _) hR;refine kE hs λkvs y z e hkk hz hn e'=>?_
 subst e e';rw [if_pos rfl];refine ab (ab (hke.val ok ls.ev ls.a rm hkk _ _ λv s_2 e_2 r_2=>?_));refine aN (gA r_2) λtk e_ J=>?_
 subst e_;refine ab (aX (hve.val ok (ls.ev.ext e_2.toExt0) (ls.a.ext e_2) rm hz _ _ λu s3 e_3 r_3=>ab (bf (aX (z2m ((ls.ext e_2).ext e_3) (dF hn) r_3 λs4 e_4 ls4 hk_4=>k s4 ((e_2.toO.toN.trans e_3.toO.toN).trans (e_4.mono (λJ h=>h) λJ h=>h.elim)) ls4 ?_ ?_)))))
 ·exact ((src.stay (e_2.toExt0.stay W)).stay (e_3.toExt0.stay W)).stay (e_4.stay (W:=W) (λb hb=>by rcases hb with hb|rfl;exact ls.ev.ow b (ls.ev.owr hb);exact ls.acc.w) (λJ h=>h.elim))
 ·refine src.frame (src.frame (src.frame st λb hb o eo=>e_2.new b o (sa.f b hb).1 eo) λb hb o eo=>e_3.new b o (sa.f b hb).1 eo) λb hb o eo=>hk_4 b o (λh=>?_) eo
  subst h;rcases (sa.f _ hb).2 with h1|h1
  ·exact hDw h1
  ·exact h1 ls.acc.w
theorem z2n(si:SI c iter it single)(so:ScOk c scope)(gok:GOk (iu c scope) t xs ts single)(hk:SE ((iu c scope).up xs) ke xk)(hv:SE ((iu c scope).up xs) ve xv): SE c (.DictComp ke ve [⟨t,iter,[],0⟩] scope pos) (.dcomp xk xv [.mk ts single it []]):=.only (λC G K ok env W O s ρ A p ev a rm h Q E q=>by
 refine aN (bind_some h) λitems hit h=>?_
 refine xA (jD h) λhall h=>?_
 refine aN (bind_some h) λl hl h=>?_
 refine xA (gP h) λhz e_=>?_
 subst e_;rw [arm_eval_DictComp];refine zpy (o0:={cls:=.type "dict",data:=.dict #[]}) (acc0:=.dict []) (accN:=.dict (iF [] l)) si so gok rfl ok ev a rm (λq=>?_) rfl (.dict (d5 _) rfl) (zfz rfl)
  (λls src sa st hD hR=>zvb ok rm gok hk hv ls src sa st hD (l:=l) hl hz hR) hit hall λs5 L D P ce=>?_
 ·simp only [newDict,newObj];exact ab (wpAny_alloc (am q))
 ·obtain ⟨m,hm⟩:=ce.ns;have hno: ∀xs,listOf (.dict (iF [] l))=some xs->xs.length<=aM:=λJ h=>cu h
  exact (bK m hm (λh' hs=>q _ _ (ce.fin hno hs).1 (ce.fin hno hs).2))) (λG ρ=>by simp only [tE]) (λJ J=>rfl)
end
theorem zx5{prog:Program}{w:World}{A:Around}{I:Addr}{fp wr:List Addr}{n:Nat}{P:Nat->Value->Prop}{St:Nat->Heap->Prop}(W:Walks prog w A I fp wr n P St){E:Value->Shared->Prop}: ∀(m i:Nat) (s:Shared) (Q:List Value->Shared->Prop),St i s.heap->i+m<=n-> (∀vs h' tk,vs.length=m->(∀j v,vs[j]?=some v->P (i+j) v)->St (i+m) h'->(∀b o,b∉wr->s.heap.get? b=some o->h'.get? b=some o)->Q vs {s with heap:=h',toks:=tk})->wpAny (model prog w) A (draw (.ref I) m) Q E s:=by
 intro m;induction m with
 |zero=>exact λi s Q st J q=>am (q [] s.heap s.toks rfl (λj v h=>cu h) st λJ J J e=>e)
 |succ m ih=>
  intro i s Q st hi q;refine ab (W.item i s _ _ (by lia) st λv h_1 tk_1 hP st1 hk_1=>?_);refine ab (aX (ih (i+1) _ _ st1 (by lia) λvs h_2 tk_2 hl hv st2 hk_2=>am (q (v::vs) h_2 tk_2 (by rw [aK,hl]) (λj u hj=>?_) (by rw [show i+(m+1)=i+1+m by lia];exact st2) λb o hb e=>hk_2 b o hb (hk_1 b o hb e))));cases j with
  |zero=>obtain rfl:=oj hj;exact hP
  |succ j=>rw [show i+(j+1)=i+1+j by lia];exact hv j u hj
section
variable{C:CX}{c:CE}{env:Env}{W₀ O0 W O:Addr->Prop}{s0 s s':Shared}{ρ:Rho}
theorem zru(hh:A.handled=none)(ho:s.heap.get? t=some (ff vs n))(hn:(dU elts env).length=vs.length)(hstar:(dU elts env).findIdx? (·.1)=none)(h: ∀s',Ext C s s'->wpAny (model C.prog C.w) A (assignInOrder ((dU elts env).map (·.2)) vs) Q E s'):wpAny (model C.prog C.w) A (assign (.Tuple elts x1 pos) env (.ref t)) Q E s:=by
 have hL:s.heap.IsList t vs.toArray:=⟨_,ho,rfl,_,rfl⟩;rw [arm_assign_Tuple];refine ab (bf ?_);unfold unpack;rw [hn,hstar];refine ab (aX ?_);show let z_:=_;let y_:=_;wpAny _ _ _ z_ y_ _;intro z_ y_;refine ab ?_;refine ab (bQ hL.typeIs slot_list_iter.lookup (am ?_));refine ab (aX (wpAny_pyIter_list hL ?_));have Wk:=Walks.list (prog:=C.prog) (w:=C.w) hh s.heap.objs.size t (bG (aB ho)) vs.toArray;refine bP (s:={s with heap:=s.heap.push _}) (az s.toks) ?_;refine ab (aX (zx5 Wk vs.length 0 _ _ ⟨(et _ (au _ rfl) rfl rfl),hL.push _⟩ (by rw [eu];exact az _) λus h_1 tk_1 hl hv st1 hk_1=>?_));have hus:us=vs:=by
  refine List.ext_getElem? λj=>?_
  cases hj:us[j]? with
  |none=>rw [eF]at hj;exact (eF.mpr (hl▸hj)).symm
  |some v=>have:=hv j v hj;rw [eu]at this;simpa using this.symm
 subst hus;rw [if_neg (aW _)];rw [eu]at st1;refine ab (aX (Wk.done _ _ _ (by simpa using st1) λh_2 tk_2 hk_2=>?_));refine am λht=>h _ ⟨.grow λb o e=>?_,ht⟩
 have hb:b∉ [s.heap.objs.size]:=λhm=>by rw [aE.mp hm]at e;exact aW _ (aB e)
 exact hk_2 b o hb (hk_1 b o hb (aq _ e))
theorem z2o:swapsWithSole [.Tuple ts k tp] e n env=pure false:=by cases e<;>rfl
theorem z60(h:SE c e x)(hn:i6 es xs)(hp:Places c xs ts)(ht:ou e=false): SS c (.Assign [.Tuple es k tp] e pos) [.asgL ts x]:=λC G K ok env A s0 W₀ O0 rm W O s ρ out f ev a hx Q E q=>by
 simp only [ju,xE]at hx;show let g_:=_;g_;intro g_;refine aN (bind_some hx) λv h1 h2=>?_
 refine aN (kN h2) λps e_ h4=>?_
 subst e_;refine aN (gf h4) λρ' h5 e_=>?_
 subst e_;refine Assign_Tuple (h.val ok ev a rm h1 _ _ λu s₁ e₁ r_1=>?_) z2o (tC ht);show let g_:=_;g_;intro g_;refine iJ r_1 λT us n e_ hw lo ho r hz=>?_
 subst e_;have hlen:(dU es env).length=us.length:=by rw [(hn.star env).1,(oY hp h5),<-r.length]
 refine zru rm.1 ho hlen (hn.star env).2 λs_2 e_2=>?_
 have ev2:=(ev.ext e₁.toExt0).ext e_2.toExt0;refine o8 hn hp ev2 (r.ext e_2.toExt0) h5 λs3 e_3 ev3=>?_
 exact q W O s3 (((f.ext' e₁).ext' e_2).step e_3 λb hb=>ev2.owr hb) ev3 (((a.ext e₁).ext e_2).extO e_3)
end
variable{c:CE}{pos:Pos}
theorem zx6:SEF c (.Dict [] [] pos) (.dict [] []):=λC G K ok env W O s ρ A p ev at' rm h Q E q=>by simp [eE,pE,m7,iF]at h;subst h;rw [arm_eval_Dict];refine ab (bf ?_);show wpAny _ A newDict Q E s;refine fB (T:="dict") ?_;exact q s.heap.objs.size _ kD (bK [] (d5 s.heap) rfl) at'.low jA at'.nw
section
variable{C:CX}{h h':Heap}{W W':Addr->Prop}{ad:Addr}{p:PV}
theorem lC.stay(o:lC C h W ad p)(lo:C.n₀<=ad)(k:Stay C h h' (λb=>W b\/b=ad) (λb=>W' b\/b=ad))(ha: ∀o,h.get? ad=some o->h'.get? ad=some o):lC C h' W' ad p:=by
 show let g_:=_;g_;intro g_;cases p with
 |list xs=>
  refine ek o λvs n h1 h2 h3=>?_
  exact eg vs n (ha _ h1) (RepL.stay k _ _ h2) h3
 |dict kvs=>obtain ⟨l,⟨o,q1,q2,ho,hr⟩,h2⟩:=o;exact bK l (gz o q1 q2 (ha _ ho) hr) (RepD.stay k _ _ h2)
 |_=>exact o.elim
theorem lC.occ(o:lC C h W ad p): ∃o,h.get? ad=some o:=by
 show let g_:=_;g_;intro g_;cases p with
 |list xs=>obtain ⟨vs,n,h,J⟩:=o;exact ⟨_,h⟩
 |dict kvs=>obtain ⟨l,⟨o,J,J,h,J⟩,J⟩:=o;exact ⟨o,h⟩
 |_=>exact o.elim
end
end Mine.Internal
namespace Mine.Internal
open PySem PySem.W PySem.Calls PyProof.Rows PySem.Challenge
set_option backward.match.sparseCases false
variable{c:CE}
noncomputable def OwnW(C:CX)(h:Heap)(W:Addr->Prop)(ad:Addr):PV->Prop
 | .list xs=>∃vs n,h.get? ad=some (ff vs n)/\RepL C h W xs vs/\xs.length<=aM
 | .dict kvs=>∃l,h.DictOf (strKind C.prog C.w) ad l/\RepD C h W kvs l
 |_=>False
theorem z61{C:CX}{env:Env}{W O:Addr->Prop}{h:Heap}{ρ:Rho}{ad:Addr}(ev:dq C c env W O h ρ)(hW:W ad)(lo:C.n₀<=ad):dq C c env W (λb=>O b\/b=ad) h ρ:=
 {
   glob:=ev.glob
   bui:=ev.bui
   kind:=ev.kind
   ow:=λb hb=>by rcases hb with hb|rfl;exact ev.ow b hb;exact hW
   lo:=λb hb=>by rcases hb with hb|rfl;exact ev.lo b hb;exact lo
   loc:=.inl ev.loc
   ns:=ev.ns
   names:=ev.names
   cells:=λy hy=>by obtain ⟨b,v,h1,h2,h3⟩:=ev.cells y hy;exact eg b v h1 (.inl h2) h3
   cinj:=ev.cinj
   top:=ev.top
   vars:=λy j t h1 h2 h3=>by
    refine aN (ev.vars y j t h1 h2 h3) λv k1 k2=>?_
    refine bK v k1 ?_;induction k2 with
    |val r=>exact .val r
    |own w lo l r z=>exact .own ⟨.inl w.1,w.2⟩ lo l r z
    |ownD w lo g' r=>exact .ownD ⟨.inl w.1,w.2⟩ lo g' r
   apart:=ev.apart}
theorem zm3{C:CX}{env:Env}{W O:Addr->Prop}{s:Shared}{ρ:Rho}{M:Model}{A:Around}{x:Str}{i:Nat}{p:PV}{sl:Slot}{ad:Addr}{Q:Unit->Shared->Prop}{E:Value->Shared->Prop}(ev:dq C c env W O s.heap ρ)(hW:W ad)(hO: ¬O ad)(hp:ownOf p=some sl)(ho:OwnW C s.heap W ad p)(lo:C.n₀<=ad)(hi:idx c.σ x=some i)(hk:c.sc.names.lookup x=some .local\/c.sc.names.lookup x=some .cell)(q: ∀s',ExtO C (OWr c env) s s'->dq C c env W (λb=>O b\/b=ad) s'.heap (setR ρ i sl)->Q () s'):wpAny M A (storeName env x (.ref ad)) Q E s:=by
 have hL:ad≠env.locals:=λh=>hO (h▸ev.loc)
 have hsl:RepS C s.heap W (λb=>(O b\/b=ad)/\b≠env.locals) sl (.ref ad):=by
  show let g_:=_;g_;intro g_;cases p with
  |list xs=>simp only [vE]at hp;replace hp:=oj hp;subst hp;obtain ⟨vs,n,h1,h2,h3⟩:=ho;exact .own ⟨.inr rfl,hL⟩ lo h1 h2 h3
  |dict kvs=>simp only [vE]at hp;replace hp:=oj hp;subst hp;obtain ⟨l,h1,h2⟩:=ho;exact .ownD ⟨.inr rfl,hL⟩ lo h1 h2
  |_=>exact ho.elim
 refine lm (z61 ev hW lo) hi hk hsl (λJ z j t hz hj hvj ht hto hvz=>?_) λs3 e_3 ev3=>q s3 e_3 ev3
 refine aN (ev.vars z j t hj hvj ht) λv k1 k2=>?_
 have:=k1.fn hvz;subst this;cases k2 with
 |val r=>exact ft hto
 |own w _ _ _ _=>exact hO w.1
 |ownD w _ _ _=>exact hO w.1
end Mine.Internal
namespace Mine.Internal
open PySem PySem.W PySem.Calls PyProof.Rows PySem.Challenge
variable{c:CE}{pos:Pos}
inductive SEFs(c:CE):List Expr->List PE->Prop
 |nil:SEFs c [] []
 |cons {e:Expr} {x:PE} {es:List Expr} {xs:List PE}:SEF c e x->(∀r env,bY (e::r) env=(false,eval e env)::bY r env)->SEFs c es xs->SEFs c (e::es) (x::xs)
inductive lB(C:CX)(h:Heap)(W:Addr->Prop):List Addr->List PV->Prop
 |nil:lB C h W [] []
 |cons {ad:Addr} {p:PV} {ads:List Addr} {ps:List PV}:OwnW C h W ad p->C.n₀<=ad->lB C h W ads ps->lB C h W (ad::ads) (p::ps)
theorem OwnW.of{C:CX}{h h':Heap}{W W':Addr->Prop}{ad:Addr}{p:PV}(o:lC C h W ad p)(k:Stay C h h' (λb=>W b\/b=ad) W')(ha: ∀o,h.get? ad=some o->h'.get? ad=some o):OwnW C h' W' ad p:=by
 show let g_:=_;g_;intro g_;cases p with
 |list xs=>obtain ⟨vs,n,h1,h2,h3⟩:=o;exact eg vs n (ha _ h1) (RepL.stay k _ _ h2) h3
 |dict kvs=>obtain ⟨l,⟨o,q1,q2,ho,hr⟩,h2⟩:=o;exact bK l (gz o q1 q2 (ha _ ho) hr) (RepD.stay k _ _ h2)
 |_=>exact o.elim
theorem z2p{C:CX}{G:GT}{K:Nat}(ok:FnOk C G K){env:Env}{O:Addr->Prop}{ρ:Rho}{A:Around}(rm:Room A K){E:Value->Shared->Prop}{es:List Expr}{xs:List PE}(hs:SEFs c es xs): ∀{W:Addr->Prop} {s:Shared} {ps:List PV} {Q:List Value->Shared->Prop},dq C c env W O s.heap ρ->At C W s->gh G xs ρ=some ps-> (∀ads s',Ext C s s'->dq C c env (λb=>W b\/b∈ads) O s'.heap ρ->At C (λb=>W b\/b∈ads) s'->lB C s'.heap (λb=>W b\/b∈ads) ads ps->ads.Nodup->(∀a∈ads,s.heap.get? a=none/\ ¬W a)->Q (ads.map .ref) s')-> wpAny (model C.prog C.w) A (spliced (backTo pos (bY es env))) Q E s:=by
 induction hs with
 |nil=>
  intro W s ps Q ev a h q;replace h:=oj h;subst h;have e:(λb=>W b\/b∈([]:List Addr))=W:=by funext b;simp
  exact bR (q [] s (.refl s) (by rw [e];exact ev) (by rw [e];exact a) .nil .nil λa ha=>by cases ha)
 |cons h1 ns _ ih=>
  intro W s ps Q ev a h q;refine aN (bind_some h) λp hp h=>?_
  refine aN (gf h) λps' hps e_=>?_
  subst e_;rw [ns];refine bq (h1 C G K ok env W O s ρ A p ev a rm hp _ _ λad s₁ e₁ ho lo hf hw=>?_);have ev_1:dq C c env (λb=>W b\/b=ad) O s₁.heap ρ:=ev.grow (λb o lo eo=>e₁.new b o lo eo) (λb hb=>.inl hb) λb hb=>by
   rcases hb with hb|rfl
   ·exact .inl hb
   ·exact .inr hf
  have a_1:At C (λb=>W b\/b=ad) s₁:=⟨e₁.inv a.inv,λb hb=>by
   rcases hb with hb|rfl
   ·exact (a.ext e₁).wocc b hb
   ·exact ⟨lo,ho.occ⟩,(a.ext e₁).tok⟩
  refine ih ev_1 a_1 hps λads s_2 e_2 ev2 a_2 hos hnd hnew=>?_
  have e:(λb=>(W b\/b=ad)\/b∈ads)=λb=>W b\/b∈ad::ads:=by funext b;simp [or_assoc]
  rw [e]at ev2 a_2 hos;refine q (ad::ads) s_2 (e₁.trans e_2) ev2 a_2 (.cons (OwnW.of ho (Stay.grow (λb o lo eo=>e_2.new b o lo eo) λb hb=>?_) λo ho=>e_2.new ad o lo ho) lo hos) (dd.mpr ⟨λhm=>?_,hnd⟩) λb hb=>?_
  ·rcases hb with hb|hb
   ·exact .inl (.inl hb)
   ·rcases aw.mp hb with rfl|hb
    ·exact .inl (.inr rfl)
    ·exact .inr (hnew b hb).1
  ·exact (hnew ad hm).2 (.inr rfl)
  ·show let g_:=_;g_;intro g_;rcases aw.mp hb with rfl|hb
   ·exact ⟨hf,hw⟩
   ·refine ⟨?_,λh=>(hnew b hb).2 (.inl h)⟩;cases hh:s.heap.get? b with
    |none=>rfl
    |some o=>have:=e₁.new b o ((a_2.wocc b (.inr (.tail _ hb))).1) hh;rw [(hnew b hb).1]at this;exact cu this
variable{c:CE}{pos:Pos}
theorem OwnW.stay{C:CX}{h h':Heap}{W:Addr->Prop}{ad:Addr}{p:PV}(o:OwnW C h W ad p)(k:Stay C h h' W W)(ha: ∀o,h.get? ad=some o->h'.get? ad=some o):OwnW C h' W ad p:=by
 show let g_:=_;g_;intro g_;cases p with
 |list xs=>obtain ⟨vs,n,h1,h2,h3⟩:=o;exact eg vs n (ha _ h1) (RepL.stay k _ _ h2) h3
 |dict kvs=>obtain ⟨l,⟨o,q1,q2,ho,hr⟩,h2⟩:=o;exact bK l (gz o q1 q2 (ha _ ho) hr) (RepD.stay k _ _ h2)
 |_=>exact o.elim
theorem lB.stay(o:lB C h W ads ps)(k:Stay C h h' W W):(∀a∈ads,C.n₀<=a-> ∀o,h.get? a=some o->h'.get? a=some o)->lB C h' W ads ps:=by
 induction o with
 |nil=>exact λJ=>.nil
 |cons h1 lo _ ih=>exact λha=>.cons (h1.stay k (ha _ (.head _) lo)) lo (ih λa hm=>ha a (.tail _ hm))
variable{c:CE}
theorem lB.length(o:lB C h W ads ps):ads.length=ps.length:=by
 induction o with
 |nil=>rfl
 |cons _ _ _ ih=>simp [ih]
theorem i6.len(h:i6 es xs):es.length=xs.length:=by
 induction h with
 |nil=>rfl
 |cons _ ih=>simp [ih]
theorem SEFs.length(h:SEFs c es xs):es.length=xs.length:=by
 induction h with
 |nil=>rfl
 |cons _ _ _ ih=>simp [ih]
variable{c:CE}
theorem zx7(h:i≠j):setR (setR ρ i a) j b=setR (setR ρ j b) i a:=by exact List.set_comm _ _ h
noncomputable def sM(e:Expr):Bool:=Nat.beq e.ctorIdx 6
noncomputable def qb(c:CE)(es vs:List Expr)(n1 n2:Str):Bool:=vs.length==2&&vs.all sM&&(es.all λe=>e.pos.line==(es.head?.map (·.pos.line)).getD 0)&&(c.sc.names.lookup n1==some .local)&&(c.sc.names.lookup n2==some .local)&&!vs.all (foldedForSure 8)
theorem zvc{e:Expr}(h:sM e=true): ∃a b p,e= .Dict a b p:=by cases e<;>first|exact ⟨_,_,_,rfl⟩|exact ft h
theorem jai{f:Expr->Bool}{l:List Expr}(h: ∀a b p,f (.Dict a b p)=false)(hl:l.all sM=true): ¬l.any f=true:=λe=>by
 refine aN (pO.mp e) λx hx he=>?_
 refine xEEE (zvc (aj.mp hl x hx)) λa b p e_=>?_
 subst e_;exact ft ((h a b p).symm.trans he)
theorem jaj{f:Expr->Option Str}{e1 e2:Expr}{n1 n2:Str}(h1:f e1=some n1)(h2:f e2=some n2): [e1,e2].filterMap f=[n1,n2]:=(fb h1).trans (congrArg (n1:: ·) (fb h2))
theorem z2q{f:Expr->Option Str}{e1 e2:Expr}{n1 n2:Str}(h1:f e1=some n1)(h2:f e2=some n2)(hne:n1≠n2): ¬(([e1,e2].filterMap f).length !=2||([e1,e2].filterMap f).eraseDups.length !=([e1,e2].filterMap f).length)=true:=λe=>by
 rw [jaj h1 h2]at e;have: [n1,n2].eraseDups=[n1,n2]:=by simp [List.eraseDups_cons,dh hne]
 rw [this]at e;exact ft (show false=true from e)
theorem ztn{x:Str}(ev:dq C c env W O h ρ)(hk:c.sc.names.lookup x=some .local):env.kindOf x=some .local:=by
 rcases ev.names x with h|⟨h,J⟩|h
 ·exact h.trans hk
 ·rw [hk]at h;cases h
 ·rw [hk]at h;cases h
theorem zp4{n1 n2:Str}{k k2:Nat}{p p2:Pos}(hn:i6 es [n1,n2])(hd: [n1,n2].Nodup)(hs:qb c es vs n1 n2=true)(hc:vs.all (eG 8)=false)(ev:dq C c env W O h ρ): iL [.Tuple es k p] (.Tuple vs k2 p2) env=pure (some [n1,n2]):=by
 unfold qb at hs;simp only [an,beq_iff_eq,eA]at hs;show let g_:=_;g_;intro g_;obtain ⟨⟨⟨⟨⟨h1,h2⟩,h3⟩,h4⟩,h5⟩,h6⟩:=hs;have k1:=ztn ev h4;have k2':=ztn ev h5;cases hn with
 | @cons _ q1 _ _ hn=>
 cases hn with
 | @cons _ q2 _ _ hn=>
 cases hn;simp only [jP,List.all_nil,Bool.and_true,an]at h3;refine (if_neg (by rw [h1,show env.blockKind= .function by unfold Env.blockKind;rw [ev.kind];rfl];exact λe=>ft (show false=true from e))).trans ((if_neg (jai (λJ J J=>rfl) h2)).trans ((if_neg (z2q (e1:=.Name n1 q1) (e2:=.Name n2 q2) (n1:=n1) (n2:=n2) ?_ ?_ (λe=>by rw [e]at hd;simp at hd))).trans ((if_neg (λe=>ft (h6.symm.trans e))).trans ((if_neg (λe=>ft (hc.symm.trans e))).trans (congrArg (λz=>(pure (some z):Sem (Option (List Str)))) (jaj (e1:=.Name n1 q1) (e2:=.Name n2 q2) ?_ ?_))))))
 ·exact if_pos (by rw [k1];exact h3.1)
 ·exact if_pos (by rw [k2'];exact h3.2)
 ·exact if_pos (by rw [k1];exact h3.1)
 ·exact if_pos (by rw [k2'];exact h3.2)
theorem zvd(hs:SEFs c vs [x1,x2])(hn:i6 es [n1,n2])(hp:Places c [n1,n2] [t1,t2])(hd: [n1,n2].Nodup)(hc:vs.all (eG 8)=false)(hsw:qb c es vs n1 n2=true): SS c (.Assign [.Tuple es k tp] (.Tuple vs k2 p2) pos) [.asgTOwn [t1,t2] [true,true] [x1,x2]]:=λC G K ok env A s0 W₀ O0 rm W O s ρ out f ev a hx Q E q=>by
 simp only [ju,xE]at hx;show let g_:=_;g_;intro g_;refine aN (bind_some hx) λps h1 h2=>?_
 refine aN (gf h2) λρ' h5 e_=>?_
 subst e_;refine Assign_Tuple_swapped (wpAny_Tuple (z2p ok rm hs ev a h1 λads s₁ e₁ ev_1 a_1 hos hnd hnew=>?_)) rfl (zp4 (k:=k) (p:=tp) (k2:=k2) (p2:=p2) hn hd hsw hc ev);have hl:ads.length=2:=by rw [hos.length,rE h1];rfl
 refine ⟨by rw [aY,hl,av];decide,?_⟩
 match ads,hl,hos,hnd,hnew,h5,ev_1,a_1 with
 | [ad1,ad2],_,hos,hnd,hnew,h5,ev_1,a_1=>
 refine wpAny_unpackItems_tuple rm.1 (items:=#[.ref ad1,.ref ad2]) ⟨_,au _ rfl,rfl,_,rfl⟩ λh' hx'=>?_
 have e_2:=(kD (C:=C) (s:=s₁) (o:={cls:=.type "tuple",data:=.seq ([ad1,ad2].map dz).toArray})).trans (oF (C:=C) hx');have ev2:=ev_1.ext e_2.toExt0;have ho2:=hos.stay (e_2.toExt0.stay _) λa J lo o eo=>e_2.new a o lo eo
 have h0: ∀b∈ [ad1,ad2],s0.heap.get? b=none:=λb hb=>by
  cases hh:s0.heap.get? b with
  |none=>rfl
  |some o=>obtain ⟨o',e'⟩:=f.ext.occ b o (a_1.wocc b (.inr hb)).1 hh;rw [(hnew b hb).1]at e';exact cu e'
 have hin: ∀b∈ [ad1,ad2],¬O b:=λb hb h=>(hnew b hb).2 (ev.ow b h)
 have hne:ad1≠ad2:=λh=>by rw [h]at hnd;simp at hnd
 show let g_:=_;g_;intro g_;cases ho2 with
 |cons g1 lo1 ho2=>
 cases ho2 with
 |cons g2 lo2 ho2=>
 cases ho2;rename_i p1' p2';cases hp with
 |cons hi1 hk1 hp=>
 cases hp with
 |cons hi2 hk2 hp=>
 simp only [pE,List.head?_cons,ac,if_true,List.tail_cons]at h5;refine aN (bind_some h5) λs1 hs1 h5=>?_
 refine aN (bind_some h5) λs2 hs2 h5=>?_
 obtain rfl:=oj h5;have ht:t1≠t2:=λh=>by subst h;have:=kc hi1 hi2;rw [this]at hd;simp at hd
 refine ab (aX (gk (zm3 ev2 (.inr (.tail _ (.head _))) (hin ad2 (.tail _ (.head _))) hs2 g2 lo2 hi2 hk2 λs3 e_3 ev3=>?_)));refine ab (aX (gk (zm3 ev3 (.inr (.head _)) (λh=>?_) hs1 (g1.stay (e_3.stay λb hb=>.inl (ev.ow b (ev2.owr hb))) λo eo=>e_3.new ad1 o lo1 (λh=>hin ad1 (.head _) (ev2.owr h)) eo) lo1 hi1 hk1 λs4 e_4 ev4=>am ?_)))
 ·rcases h with h|h
  ·exact hin ad1 (.head _) h
  ·exact hne h
 have ex:=(e_3.mono λb hb=>(.inl (ev2.owr hb):O b\/b∈ [ad1,ad2])).trans (e_4.mono λb hb=>by
  rcases ev3.owr hb with h|h
  ·exact (.inl h:O b\/b∈ [ad1,ad2])
  ·exact .inr (h▸ .tail _ (.head _)))
 have eO:(λb=>(O b\/b=ad2)\/b=ad1)=λb=>O b\/b∈ [ad1,ad2]:=by funext b;simp only [aw,eT,or_false,eq_iff_iff,or_assoc];exact or_congr_right Or.comm
 rw [eO,zx7 (dh ht)]at ev4;refine q _ _ s4 (Fr'.step (W:=λb=>W b\/b∈ [ad1,ad2]) (O:=λb=>O b\/b∈ [ad1,ad2]) ⟨((f.ext' e₁).ext' e_2).ext,λb hb=>?_,λb hb=>.inl (f.w0 b hb),λb hb=>?_,λb hb h=>?_⟩ ex λb hb=>hb) ev4 ((a_1.ext e_2).extO ex)
 ·rcases hb with hb|hb
  ·rcases f.w b hb with h|h
   ·exact .inl h
   ·exact .inr (.inl h)
  ·exact .inr (.inr hb)
 ·rcases hb with hb|hb
  ·exact f.fresh b hb
  ·exact .inr (h0 b hb)
 ·rcases h with h|h
  ·exact f.dj b hb h
  ·exact (hnew b h).2 (f.w0 b hb)
theorem jak:SE c (.Constant (.bytes b) k pos) (.byt b):=.only (λC G K J env W O s ρ A p J J J h Q E q=>by simp only [eE]at h;replace h:=oj h;subst h;exact λJ J J=>(q _ _ .tok1 ⟨_,rfl⟩)) (λG ρ=>by simp only [tE]) (λJ J=>rfl)
noncomputable def qa(c:CE):(es:List Expr)->Option {xs:List Str//i6 es xs}
 | []=>some ⟨[],.nil⟩
 |e::r=>if h:e.ctorIdx=23 then Expr.Name.elim (motive_1:=λe=>Option {xs:List Str//i6 (e::r) xs}) e h λx J=>(qa c r).map λa=>⟨x::a.1,.cons a.2⟩else none
noncomputable def tgtC(c:CE)(t:Expr):Option {p:List Str×Bool//ly t p.1 p.2}:=
 if h:t.ctorIdx=23 then Expr.Name.elim (motive_1:=λt=>Option {p:List Str×Bool//ly t p.1 p.2}) t h λx J=>some ⟨([x],true),.one⟩
 else if h:t.ctorIdx=25 then Expr.Tuple.elim (motive_1:=λt=>Option {p:List Str×Bool//ly t p.1 p.2}) t h λes J J=>(qa c es).map λa=>⟨(a.1,false),.many a.2⟩
 else none
noncomputable def nx(c:CE):(xs:List Str)->Option {ts:List Nat//Places c xs ts}
 | []=>some ⟨[],.nil⟩
 |x::r=>match h:idx c.σ x with
  |some i=>if hk:c.sc.names.lookup x=some .local\/c.sc.names.lookup x=some .cell then (nx c r).map λa=>⟨i::a.1,.cons h hk a.2⟩else none
  |none=>none
noncomputable def gokC(c:CE)(t:Expr):Option {p:List Str×List Nat×Bool//GOk c t p.1 p.2.1 p.2.2}:=
 match tgtC c t with
 |none=>none
 |some n=>match nx (c.up n.1.1) n.1.1 with
  |none=>none
  |some ts=>if h1:n.1.1.reverse.all (λx=>qd (c.sc.names.lookup x)&&c.sc.names.lookup x !=some .free&&((idx c.σ x).all λi=>decide (i<c.base)))=true then
    if h2:ts.1.all (λt=>decide (c.σ.length<=t))=true then
     some ⟨(n.1.1,ts.1,n.1.2),⟨n.2,ts.2,λx hx=>by have:=aj.mp h1 x hx;simp only [an,bne_iff_ne,ne_eq,Option.all_eq_true,decide_eq_true_eq]at this;exact ⟨this.1.1,this.1.2,λi hi=>this.2 i hi⟩,λt ht=>of_decide_eq_true (aj.mp h2 t ht)⟩⟩
    else none
   else none
noncomputable def n7(c:CE)(scope:Scope):Bool:=scope.kind== .function&&decide (scope.names.map (·.1)).Nodup&&
 scope.names.all λn=>n.2 != .free||((c.sc.names.lookup n.1==some .cell||c.sc.names.lookup n.1==some .free)&&((idx c.σ n.1).all λi=>visK c.base i (c.sc.names.lookup n.1)))
theorem sL(h:n7 c scope=true):ScOk c scope:=by simp only [n7,an,beq_iff_eq,decide_eq_true_eq]at h;obtain ⟨⟨h1,h2⟩,h3⟩:=h;refine ⟨h1,h2,λn hn=>?_⟩;have:=aj.mp h3 _ hn;simp only [bne_self_eq_false,Bool.false_or,an,Bool.or_eq_true,beq_iff_eq,Option.all_eq_true]at this;exact ⟨this.1,λi hi=>this.2 i hi⟩
noncomputable def jal(c:CE)(x:Str)(p:Pos):Option {y:PE//SE c (.Name x p) y}:=
 if hd:(x==("__debug__" :Str))=false then
  match hi:idx c.σ x with
  |some i=>if hcd:(x==("__classdict__" :Str))=false then if hk:visK c.base i (c.sc.names.lookup x)=true then some ⟨.var i,z9y hd hcd hi hk⟩else none else none
  |none=>if hk:c.sc.names.lookup x=some .globalImplicit then some ⟨.glob x,z6k hd hk⟩else none
 else none
structure OwnN(c:CE)(x:Str)(j:Nat):Prop where
 d:(x==("__debug__" :Str))=false
 cd:(x==("__classdict__" :Str))=false
 i:idx c.σ x=some j
 k:visK c.base j (c.sc.names.lookup x)=true
noncomputable def ownC(c:CE)(x:Str):Option {j:Nat//OwnN c x j}:=
 if c.own.contains x then
  if hd:(x==("__debug__" :Str))=false then if hcd:(x==("__classdict__" :Str))=false then
   match hi:idx c.σ x with
   |some i=>if hk:visK c.base i (c.sc.names.lookup x)=true then some ⟨i,⟨hd,hcd,hi,hk⟩⟩else none
   |none=>none
  else none else none
 else none
noncomputable def uR(e:Expr):Option {q:Str×Pos//e= .Name q.1 q.2}:=if h:e.ctorIdx=23 then Expr.Name.elim (motive_1:=λe=>Option {q:Str×Pos//e= .Name q.1 q.2}) e h λx p=>some ⟨(x,p),rfl⟩else none
noncomputable def z5i(e:Expr):Option {q:Const×Nat×Pos//e= .Constant q.1 q.2.1 q.2.2}:=if h:e.ctorIdx=19 then Expr.Constant.elim (motive_1:=λe=>Option {q:Const×Nat×Pos//e= .Constant q.1 q.2.1 q.2.2}) e h λx k p=>some ⟨(x,k,p),rfl⟩else none
noncomputable def strD(e:Expr):Option {q:Str×Nat×Pos//e= .Constant (.str q.1) q.2.1 q.2.2}:=(z5i e).bind λq=>match q with
 |⟨(.str x,k,p),h⟩=>some ⟨(x,k,p),h⟩
 |_=>none
noncomputable def intD(e:Expr):Option {q:Int×Nat×Pos//e= .Constant (.int q.1) q.2.1 q.2.2}:=(z5i e).bind λq=>match q with
 |⟨(.int x,k,p),h⟩=>some ⟨(x,k,p),h⟩
 |_=>none
noncomputable def ownE(c:CE)(e:Expr):Option {q:Str×Nat×Pos//e= .Name q.1 q.2.2/\OwnN c q.1 q.2.1}:=(uR e).bind λn=>(ownC c n.1.1).map λo=>⟨(n.1.1,o.1,n.1.2),n.2,o.2⟩
noncomputable abbrev AttR(c:CE)(e:Expr):={r:Expr×PE×Str×Pos//e= .Attribute r.1 r.2.2.1 r.2.2.2/\SE c r.1 r.2.1}
noncomputable abbrev SubR(c:CE)(e:Expr):={r:Expr×PE×Int×Nat×Pos×Pos//e= .Subscript r.1 (.Constant (.int r.2.2.1) r.2.2.2.1 r.2.2.2.2.1) r.2.2.2.2.2/\SE c r.1 r.2.1}
noncomputable abbrev SliR(c:CE)(e:Expr):={r:Option Expr×Option Expr×Option PE×Option PE×Pos//e= .Slice r.1 r.2.1 none r.2.2.2.2/\ma c r.1 r.2.2.1/\ma c r.2.1 r.2.2.2.1}
structure ResX(c:CE)(e:Expr)where
 v:Option {x:PE//SE c e x}
 i:(single:Bool)->Option {x:PI//SI c e x single}
 a:Option (AttR c e)
 u:Option (SubR c e)
 s:Option (SliR c e)
noncomputable def mkR{c:CE}{e:Expr}(v:Option {x:PE//SE c e x}):ResX c e where
 v:=v
 i:=λsingle=>match single with
  |true=>if h:qU e=true then v.map λx=>⟨.plain x.1,td x.2 h⟩else none
  |false=>none
 a:=none
 u:=none
 s:=none
noncomputable def noR{c:CE}{e:Expr}:ResX c e:=⟨none,λJ=>none,none,none,none⟩
theorem z2r(h:be G (.tuple xs) ρ=some p): ∃l,p= .tuple l:=by
 refine aN (gf h) λl J e_=>?_
 subst e_;exact ⟨l,rfl⟩
theorem z2s(e:ks=es.map some)(hk:SEs c es xs)(hv:SEs c vs ys)(h:es.length=vs.length/\es≠ []/\es.length<=15):SE c (.Dict ks vs pos) (.dict xs ys):=by subst e;exact z6q hk hv h.1 h.2.1 h.2.2
theorem z2t(h:es=l.map some):some e::es=(e::l).map some:=by rw [h];rfl
theorem z2u(hf:f= .Attribute o m p_1/\SE c o x)(h1:a= .Constant (.str y) k_1 p_2)(h2:b= .Constant (.str z) k_2 p_3)(h:m=ao "replace" /\lj o=true/\(p_1.endLine==pos.line)=true): SE c (.Call f [a,b] [] pos) (.repl x y z):=by obtain ⟨rfl,ho⟩:=hf;obtain ⟨rfl,h3,h4⟩:=h;subst h1 h2;exact z6p ho h3 h4
theorem zx9(hf:f= .Attribute o m p_1/\SE c o x)(h1:a= .Subscript a' (.Constant (.int i) k_1 p_2) p_3/\SE c a' y)(h2:b= .Subscript b' (.Constant (.int j) k_2 p_4) p_5/\SE c b' z)(h:m=ao "replace" /\lj o=true/\(p_1.endLine==pos.line)=true): SE c (.Call f [a,b] [] pos) (.repl2 x y i z j):=by obtain ⟨rfl,ho⟩:=hf;obtain ⟨rfl,h3,h4⟩:=h;obtain ⟨rfl,ha⟩:=h1;obtain ⟨rfl,hb⟩:=h2;exact z2b ho ha hb h3 h4
theorem z63(hf:f= .Name n p_1)(h:SE c e x)(hk:n=ao "reversed" /\c.sc.names.lookup ("reversed":Str)=some .globalImplicit):SI c (.Call f [e] [] pos) (.revd x) true:=by subst hf;obtain ⟨rfl,h2⟩:=hk;exact jag h h2
theorem z2v(hf:f= .Attribute o m p_1/\SE c o x)(hs:SEs c args xs)(h:lj o=true/\decide (args.length<30)=true/\(p_1.endLine==pos.line)=true):SE c (.Call f args [] pos) (.meth x m xs):=by obtain ⟨rfl,ho⟩:=hf;exact z6o ho hs h.1 h.2.1 h.2.2
theorem z2w(hf:f= .Name n p_1)(hg:SE c (.Name n p_1) g)(hs:SEs c args xs):SE c (.Call f args [] pos) (.call g xs):=by subst hf;exact z6m hg hs
theorem zp5(hb:b= .Name n p_1/\OwnN c n j)(ha:SE c a x):SE c (.Compare a [.NotIn] [b] pos) (.notinOwn x j):=by obtain ⟨rfl,o⟩:=hb;exact zrt ha o.i o.k o.d o.cd rfl
theorem zya{lo hi:Option Expr}{l h':Option PE}(h:i= .Slice lo hi none p_1)(ha:SE c a x)(hl:ma c lo l)(hh:ma c hi h'):SE c (.Subscript a i pos) (.slice x l h'):=by subst h;exact z19 ha hl hh
theorem zve(ha:a= .Name n p_1/\OwnN c n j)(hi:SE c i y):SE c (.Subscript a i pos) (.subOwn j y):=by obtain ⟨rfl,o⟩:=ha;exact zxi o.d o.cd o.i o.k hi
section
variable{c:CE}{f:Expr}{args:List Expr}{pos:Pos}
noncomputable def callC(a:Option (AttR c f))(xs:Option {xs:List PE//SEs c args xs}):Option {x:PE//SE c (.Call f args [] pos) x}:=match a with
 |some r=>if h:lj r.1.1=true/\decide (args.length<30)=true/\(r.1.2.2.2.endLine==pos.line)=true then xs.map λxs=>⟨.meth r.1.2.1 r.1.2.2.1 xs.1,z2v r.2 xs.2 h⟩else none
 |none=>(uR f).bind λn=>(jal c n.1.1 n.1.2).bind λg=>xs.map λxs=>⟨.call g.1 xs.1,z2w n.2 g.2 xs.2⟩
noncomputable def jc1{a b:Expr}(r:Option (AttR c f))(u:Option (SubR c a))(v:Option (SubR c b)):Option {x:PE//SE c (.Call f [a,b] [] pos) x}:=r.bind λr=>
 if h:r.1.2.2.1=ao "replace" /\lj r.1.1=true/\(r.1.2.2.2.endLine==pos.line)=true then
  ((strD a).bind λy=>(strD b).map λz=>⟨.repl r.1.2.1 y.1.1 z.1.1,z2u r.2 y.2 z.2 h⟩)<|>(u.bind λy=>v.map λz=>⟨.repl2 r.1.2.1 y.1.2.1 y.1.2.2.1 z.1.2.1 z.1.2.2.1,zx9 r.2 y.2 z.2 h⟩)
 else none
end
mutual
noncomputable def fM:(e:Expr)->(c:CE)->ResX c e
 | .Constant .none _ _,_=>mkR (some ⟨.none,z6i⟩)
 | .Constant (.bool b) _ _,_=>mkR (some ⟨.bool b,z6j⟩)
 | .Constant (.int i) _ _,_=>mkR (some ⟨.int i,z9w⟩)
 | .Constant (.str s) _ _,_=>mkR (if h:f0 s.length=true then some ⟨.str s,z9x h⟩else none)
 | .Constant (.bytes b) _ _,_=>mkR (some ⟨.byt b,jak⟩)
 | .Name x p,c=>mkR (jal c x p)
 | .BoolOp .And es _,c=>mkR ((jJ es c).map λa=>⟨.and a.1,z95 a.2⟩)
 | .BoolOp .Or es _,c=>mkR ((jJ es c).map λa=>⟨.or a.1,jcz a.2⟩)
 | .BinOp a op b _,c=>mkR ((fM a c).v.bind λx=>(fM b c).v.map λy=>⟨.bin op x.1 y.1,z9z x.2 y.2⟩)
 | .UnaryOp .USub a _,c=>mkR ((fM a c).v.map λx=>⟨.neg x.1,z90 x.2⟩)
 | .UnaryOp .Invert a _,c=>mkR ((fM a c).v.map λx=>⟨.inv x.1,z91 x.2⟩)
 | .UnaryOp .Not a _,c=>mkR ((fM a c).v.map λx=>⟨.not x.1,z92 x.2⟩)
 | .IfExp t a b _,c=>mkR ((fM t c).v.bind λx=>(fM a c).v.bind λy=>(fM b c).v.map λz=>⟨.ifx x.1 y.1 z.1,z93 x.2 y.2 z.2⟩)
 | .Dict [] [] _,_=>mkR (some ⟨.dict [] [],zth⟩)
 | .Dict ks vs _,c=>mkR ((sq ks c).bind λx=>(jJ vs c).bind λy=>if h:x.1.1.length=vs.length/\x.1.1≠ []/\x.1.1.length<=15 then some ⟨.dict x.1.2 y.1,z2s x.2.1 x.2.2 y.2 h⟩else none)
 | .List es _,c=>mkR ((jJ es c).bind λa=>if h:f0 es.length=true then some ⟨.list a.1,zxh a.2 h⟩else none)
 | .Tuple es _ _,c=>
  let a:=jJ es c
  if h:f0 es.length=true then
   {noR with v:=a.map λa=>⟨.tuple a.1,sY a.2 h⟩,i:=λsingle=>match single with
    |true=>a.map λa=>⟨.plain (.tuple a.1),td (sY a.2 h) rfl⟩
    |false=>a.map λa=>⟨.plain (.tuple a.1),zxl (sY a.2 h) rfl λJ J J h=>z2r h⟩}
  else noR
 | .ListComp elt (⟨t,iter,ifs,0⟩::gs) scope _,c=>mkR (if so:n7 c scope=true then
   match gokC (iu c scope) t with
   |none=>none
   |some g=>((fM iter c).i g.1.2.2).bind λit=>(jJ ifs ((iu c scope).up g.1.1)).bind λfs=>
     (sp gs ((iu c scope).up g.1.1)).bind λps=>(fM elt ps.1.2).v.map λx=>⟨.comp x.1 (.mk g.1.2.1 g.1.2.2 it.1 fs.1::ps.1.1),zxr it.2 (sL so) g.2 fs.2 ps.2 x.2⟩
  else none)
 | .DictComp ke ve [⟨t,iter,[],0⟩] scope _,c=>mkR (if so:n7 c scope=true then
   match gokC (iu c scope) t with
   |none=>none
   |some g=>((fM iter c).i g.1.2.2).bind λit=>(fM ke ((iu c scope).up g.1.1)).v.bind λx=>(fM ve ((iu c scope).up g.1.1)).v.map λy=>⟨.dcomp x.1 y.1 [.mk g.1.2.1 g.1.2.2 it.1 []],z2n it.2 (sL so) g.2 x.2 y.2⟩
  else none)
 | .Compare a [.NotIn] [b] _,c=>mkR (match ownE c b with
   |some o=>(fM a c).v.map λy=>⟨.notinOwn y.1 o.1.2.1,zp5 o.2 y.2⟩
   |none=>(fM a c).v.bind λx=>(fM b c).v.bind λy=>if h:behindInMarks .NotIn b=false then some ⟨.cmp .NotIn x.1 y.1,z5g x.2 y.2 h⟩else none)
 | .Compare a [op] [b] _,c=>mkR ((fM a c).v.bind λx=>(fM b c).v.bind λy=>if h:behindInMarks op b=false then some ⟨.cmp op x.1 y.1,z5g x.2 y.2 h⟩else none)
 | .Attribute o m p,c=>{noR with a:=(fM o c).v.map λx=>⟨(o,x.1,m,p),rfl,x.2⟩}
 | .Call f [x,y] [] _,c=>
  let r:=(fM f c).a
  let x:=fM x c
  let y:=fM y c
  mkR (jc1 r x.u y.u<|>callC r (x.v.bind λp=>y.v.map λq=>⟨[p.1,q.1],.cons p.2 (.cons q.2 .nil)⟩))
 | .Call f [y] [] _,c=>
  let a:=(fM y c).v
  let v:=callC (fM f c).a (a.map λx=>⟨[x.1],.cons x.2 .nil⟩)
  {mkR v with i:=λsingle=>match single with
   |true=>((uR f).bind λn=>if h:n.1.1=ao "reversed" /\c.sc.names.lookup ("reversed":Str)=some .globalImplicit then a.map λx=>⟨.revd x.1,z63 n.2 x.2 h⟩else none)<|>(v.map λx=>⟨.plain x.1,td x.2 rfl⟩)
   |false=>none}
 | .Call f args [] _,c=>mkR (callC (fM f c).a (jJ args c))
 | .Slice lo hi none p,c=>{noR with s:=(jam lo c).bind λl=>(jam hi c).map λh=>⟨(lo,hi,l.1,h.1,p),rfl,l.2,h.2⟩}
 | .Subscript a i p,c=>
  let x:=(fM a c).v
  let y:=fM i c
  match y.s with
  |some q=>mkR (x.map λx=>⟨.slice x.1 q.1.2.2.1 q.1.2.2.2.1,zya q.2.1 x.2 q.2.2.1 q.2.2.2⟩)
  |none=>{mkR ((match ownE c a with
   |some o=>y.v.map λy=>⟨.subOwn o.1.2.1 y.1,zve o.2 y.2⟩
   |none=>x.bind λx=>y.v.map λy=>⟨.sub x.1 y.1,z96 x.2 y.2⟩))with
   u:=x.bind λx=>(intD i).map λn=>⟨(a,x.1,n.1.1,n.1.2.1,n.1.2.2,p),congrArg (Expr.Subscript a · p) n.2,x.2⟩}
 |_,_=>noR
noncomputable def jam:(o:Option Expr)->(c:CE)->Option {x:Option PE//ma c o x}
 |none,_=>some ⟨none,trivial⟩
 |some e,c=>(fM e c).v.map λx=>⟨some x.1,x.2⟩
noncomputable def jJ:(es:List Expr)->(c:CE)->Option {xs:List PE//SEs c es xs}
 | [],_=>some ⟨[],.nil⟩
 |e::es,c=>(fM e c).v.bind λx=>(jJ es c).map λxs=>⟨x.1::xs.1,.cons x.2 xs.2⟩
noncomputable def sq:(ks:List (Option Expr))->(c:CE)->Option {p:List Expr×List PE//ks=p.1.map some/\SEs c p.1 p.2}
 | [],_=>some ⟨([],[]),rfl,.nil⟩
 |some e::es,c=>(fM e c).v.bind λx=>(sq es c).map λxs=>⟨(e::xs.1.1,x.1::xs.1.2),z2t xs.2.1,.cons x.2 xs.2.2⟩
 |none::_,_=>none
noncomputable def sp:(gs:List Comprehension)->(c:CE)->Option {p:List PG×CE//SGs c gs p.1 p.2}
 | [],c=>some ⟨([],c),.nil⟩
 |⟨t,iter,ifs,0⟩::gs,c=>match gokC c t with
   |none=>none
   |some g=>((fM iter c).i g.1.2.2).bind λit=>(jJ ifs (c.up g.1.1)).bind λfs=>(sp gs (c.up g.1.1)).map λps=>⟨(.mk g.1.2.1 g.1.2.2 it.1 fs.1::ps.1.1,ps.1.2),.cons it.2 g.2 fs.2 ps.2⟩
 |_,_=>none
end
end Mine.Internal
namespace Mine.Internal
open PySem PySem.W PySem.Calls PyProof.Rows PySem.Challenge
set_option backward.match.sparseCases false
section
variable{c:CE}{pos:Pos}
theorem z2x(eks:ks=es.map some)(hk:SEs c es xs)(hv:SEs c vs ys)(hl:es.length=vs.length/\es≠ []/\es.length<=15):SEF c (.Dict ks vs pos) (.dict xs ys):=λC G K ok env W O s ρ A p ev at' rm h Q E q=>by
 show let g_:=_;g_;intro g_;subst eks;refine aN (bind_some h) λkp h1 h=>?_
 refine aN (bind_some h) λvp h2 h=>?_
 refine aN (bind_some h) λkst h3 h=>?_
 split at h
 ·replace h:=oj h;subst h;have hne:lL env pos es vs≠ []:=λh=>hl.2.1 (cK.mp (by rw [<-nW (pos:=pos) env hl.1,h];rfl))
  refine wpAny_Dict_pairs (knd:=strKind C.prog C.w) (rF env hl.1) hne (by rw [nW env hl.1];exact hl.2.2) ?_;have e1:Ext C s {s with heap:=s.heap.push {cls:=.type "dict",data:=.dict #[]}}:=⟨.push _ _,az _⟩;have hfr:s.heap.get? s.heap.objs.size=none:=jA;have ev1:dq C c env (λb=>W b\/b=s.heap.objs.size) O (s.heap.push {cls:=.type "dict",data:=.dict #[]}) ρ:=ev.grow (λb o J eb=>aq _ eb) (λb hb=>.inl hb) (λb hb=>by rcases hb with hb|rfl;exact .inl hb;exact .inr hfr);have at1:At C (λb=>W b\/b=s.heap.objs.size) {s with heap:=s.heap.push {cls:=.type "dict",data:=.dict #[]}}:=⟨(at'.ext e1).inv,λb hb=>by rcases hb with hb|rfl;exact (at'.ext e1).wocc b hb;exact ⟨at'.low,_,au _ rfl⟩,at'.tok⟩;refine zic ok rm hk hv hl.1 ev1 at1 h1 h3 h2 _ _ λl s_2 e_2 _ ⟨kvs,hc,hd⟩=>⟨kvs,hc,?_,λh' hD hs=>?_⟩
  ·show let g_:=_;g_;intro g_;refine gO (d5 (knd:=strKind C.prog C.w) s.heap) λo a1 a2 ho hr=>?_
   exact gz o a1 a2 (e_2.new _ _ at'.low ho) hr
  ·have hm:=o9 (kvs:=[]) (l:=[]) rfl hd;refine xA (sX (k:=s_2.toks+l.length) at' rfl e_2 hD hs hm (bb _ _)) λx1 x2=>?_
   refine q _ _ x1 (bK _ hD ?_) at'.low hfr at'.nw;refine RepD.stay (λb o hb hw eb=>⟨?_,hw⟩) _ _ hm;exact (hs.2 b (λh=>hw (.inr h))).trans eb
 ·exact cu h
theorem zyd(h:be G (.list xs) ρ=some p): ∃l,p= .list l:=by
 refine aN (gf h) λl J e_=>?_
 subst e_;exact ⟨l,rfl⟩
def jan(e:Expr):Prop:=∀r env,bY (e::r) env=(false,eval e env)::bY r env
noncomputable def jao:(e:Expr)->(c:CE)->Option {x:PE//SEF c e x/\jan e}
 | .List es _,c=>(jJ es c).bind λa=>if h:f0 es.length=true then some ⟨.list a.1,z2h a.2 h,λJ J=>rfl⟩else none
 | .BinOp (.List es _) .Add b _,c=>(jJ es c).bind λa=>(fM b c).v.bind λy=>if h:f0 es.length=true then some ⟨.bin .Add (.list a.1) y.1,z6v (zxh a.2 h) y.2 λJ J J h=>zyd h,λJ J=>rfl⟩else none
 | .Dict [] [] _,_=>some ⟨.dict [] [],zx6,λJ J=>rfl⟩
 | .Dict ks vs _,c=>(sq ks c).bind λx=>(jJ vs c).bind λy=>if h:x.1.1.length=vs.length/\x.1.1≠ []/\x.1.1.length<=15 then some ⟨.dict x.1.2 y.1,z2x x.2.1 x.2.2 y.2 h,λJ J=>rfl⟩else none
 |_,_=>none
noncomputable def z5j:(es:List Expr)->(c:CE)->Option {xs:List PE//SEFs c es xs}
 | [],_=>some ⟨[],.nil⟩
 |e::es,c=>(jao e c).bind λx=>(z5j es c).map λxs=>⟨x.1::xs.1,.cons x.2.1 x.2.2 xs.2⟩
end
noncomputable abbrev Fz:=List (Nat×List Str)
noncomputable def lineOf(s:Stmt):Nat:=s.pos.line
noncomputable def fzsC(c:CE):(xs:List Str)->Option {l:List PS//Fzs c l}
 | []=>some ⟨[],.nil⟩
 |x::r=>match hi:idx c.σ x with
  |some i=>if hk:visK c.base i (c.sc.names.lookup x)=true then (fzsC c r).map λa=>⟨.freeze i::a.1,.cons hi hk a.2⟩else none
  |none=>none
structure LocN(c:CE)(x:Str)(j:Nat):Prop where
 i:idx c.σ x=some j
 k:c.sc.names.lookup x=some .local\/c.sc.names.lookup x=some .cell
noncomputable def locC(c:CE)(x:Str):Option {j:Nat//LocN c x j}:=match hi:idx c.σ x with
 |some i=>if hk:c.sc.names.lookup x=some .local\/c.sc.names.lookup x=some .cell then some ⟨i,⟨hi,hk⟩⟩else none
 |none=>none
theorem z64(h:SE c e x)(o:OwnN c y i)(hm:m=ao "append" /\(p_1.endLine==pos.line)=true): SS c (.Expr (.Call (.Attribute (.Name y p) m p_1) [e] [] pos) spos) [.app i x]:=by obtain ⟨rfl,hl⟩:=hm;exact jab h o.i o.k o.d o.cd hl
theorem z65(h:SE c e x)(o:OwnN c y i)(hm:m=ao "update" /\(p_1.endLine==pos.line)=true): SS c (.Expr (.Call (.Attribute (.Name y p) m p_1) [e] [] pos) spos) [.upd i x]:=by obtain ⟨rfl,hl⟩:=hm;exact jah h o.i o.k o.d o.cd hl
theorem z66(o:OwnN c y i)(hm:m=ao "reverse" /\(p_1.endLine==pos.line)=true): SS c (.Expr (.Call (.Attribute (.Name y p) m p_1) [] [] pos) spos) [.revI i]:=by obtain ⟨rfl,hl⟩:=hm;exact jac o.i o.k o.d o.cd hl
noncomputable def jc2(c:CE)(t v:Expr)(pos:Pos):Option {l:List PS//SS c (.Assign [t] v pos) l}:=match t with
 | .Name x p=>(locC c x).bind λi=>
   if c.own.contains x then (jao v c).bind λe=>if hc:jq v=false then some ⟨[.asgOwn i.1 e.1],zxw e.2.1 hc i.2.i i.2.k⟩else none
   else match v with
    | .ListComp elt (⟨t,iter,ifs,0⟩::gs) scope _=>if so:n7 c scope=true then
      match gokC (iu c scope) t with
      |none=>none
      |some g=>((fM iter c).i g.1.2.2).bind λit=>(jJ ifs ((iu c scope).up g.1.1)).bind λfs=>
        (sp gs ((iu c scope).up g.1.1)).bind λps=>(fM elt ps.1.2).v.map λx=>⟨[.asg i.1 (.comp x.1 (.mk g.1.2.1 g.1.2.2 it.1 fs.1::ps.1.1))],zrq it.2 (sL so) g.2 fs.2 ps.2 x.2 i.2.i i.2.k⟩
      else none
    |v=>(fM v c).v.bind λe=>if hc:jq v=false then some ⟨[.asg i.1 e.1],z99 e.2 hc i.2.i i.2.k⟩else none
 | .Tuple es k p=>(qa c es).bind λxs=>(nx c xs.1).bind λts=>
   match v with
   | .Tuple vs k2 p2=>
    if xs.1.any c.own.contains then
     (z5j vs c).bind λys=>
      match xs,ts,ys with
      |⟨[n1,n2],hn⟩,⟨[t1,t2],hp⟩,⟨[x1,x2],hs⟩=>if h: [n1,n2].Nodup/\vs.all (eG 8)=false/\qb c es vs n1 n2=true then
        some ⟨[.asgTOwn [t1,t2] [true,true] [x1,x2]],zvd hs hn hp h.1 h.2.1 h.2.2⟩else none
      |_,_,_=>none
    else (fM (.Tuple vs k2 p2) c).v.bind λx=>if h:xs.1.Nodup/\vs.all (eG 8)=false then some ⟨[.asgT ts.1 x.1],z2k x.2 xs.2 ts.2 h.1 h.2⟩else none
   |v=>(fM v c).v.bind λx=>if h:jq v=false/\ou v=false then some ⟨[.asgT ts.1 x.1],z6x x.2 xs.2 ts.2 h.1 h.2⟩
     else if h:ou v=false then some ⟨[.asgL ts.1 x.1],z60 x.2 xs.2 ts.2 h⟩else none
 | .Subscript (.Name x p) i _=>(ownC c x).bind λo=>(fM i c).v.bind λy=>(fM v c).v.bind λe=>if hc:jq v=false then some ⟨[.setD o.1 y.1 e.1],z6z y.2 e.2 hc o.2.i o.2.k o.2.d o.2.cd⟩else none
 |_=>none
mutual
noncomputable def jc3:(st:Stmt)->(c:CE)->(fz:Fz)->Option {l:List PS//SS c st l}
 | .Assign [t] v pos,c,fz=>jc2 c t v pos
 | .AugAssign (.Name x p) op v pos,c,fz=>(locC c x).bind λi=>(fM v c).v.bind λe=>if h:visK c.base i.1 (c.sc.names.lookup x)=true/\(x==("__classdict__" :Str))=false then some ⟨[.aug i.1 op e.1],jaa e.2 i.2.i i.2.k h.1 h.2⟩else none
 | .Expr (.Call (.Attribute (.Name y p) m p_1) [e] [] pos) spos,c,fz=>(ownC c y).bind λo=>(fM e c).v.bind λx=>
   if h:m=ao "append" /\(p_1.endLine==pos.line)=true then some ⟨[.app o.1 x.1],z64 x.2 o.2 h⟩
   else if h:m=ao "update" /\(p_1.endLine==pos.line)=true then some ⟨[.upd o.1 x.1],z65 x.2 o.2 h⟩else none
 | .Expr (.Call (.Attribute (.Name y p) m p_1) [] [] pos) spos,c,fz=>(ownC c y).bind λo=>if h:m=ao "reverse" /\(p_1.endLine==pos.line)=true then some ⟨[.revI o.1],z66 o.2 h⟩else none
 | .Return (some e) _,c,fz=>(fM e c).v.map λx=>⟨[.ret x.1],z97 x.2⟩
 | .If t a b _,c,fz=>(fM t c).v.bind λx=>(l9 a c fz).bind λl=>(l9 b c fz).map λr=>⟨[.ite x.1 l.1 r.1],z98 x.2 l.2 r.2⟩
 | .For t it body [] _,c,fz=>(tgtC c t).bind λn=>(nx c n.1.1).bind λts=>((fM it c).i n.1.2).bind λi=>(l9 body c fz).map λl=>⟨[.forS ts.1 n.1.2 i.1 l.1],jae i.2 n.2 ts.2 l.2⟩
 | .While t body [] _,c,fz=>(fM t c).v.bind λx=>(l9 body c fz).map λl=>⟨[.whileS x.1 l.1],z2j x.2 l.2⟩
 | .Try body (h₀::hs) [] [] _,c,fz=>(l9 body c fz).map λl=>⟨[.tryS l.1],jaf l.2⟩
 | .Raise a b p,_,_=>some ⟨[.fail],z6w⟩
 |_,_,_=>none
noncomputable def l9:(ss:List Stmt)->(c:CE)->(fz:Fz)->Option {l:List PS//SSs c ss l}
 | [],_,_=>some ⟨[],z6t⟩
 |st::ss,c,fz=>(fzsC c ((fz.lookup (lineOf st)).getD [])).bind λf=>(jc3 st c fz).bind λa=>(l9 ss c fz).map λb=>⟨(f.1++a.1)++b.1,z2g (zxu f.2 a.2) b.2⟩
end
end Mine.Internal
namespace Mine.Internal
open PySem PySem.W PySem.Calls PyProof.Rows PySem.Challenge
theorem zk8{ns:List Str}{vs:List Value}(h:ns.length=vs.length)(n:Str)(hn:n∈ns):((ns.zip vs).lookup n).isSome=true:=by obtain ⟨p,hp,e⟩:=bg.mp (by rw [List.map_fst_zip (dc h)];exact hn:n∈(ns.zip vs).map (·.1));exact List.lookup_isSome_iff.mpr ⟨p,hp,by rw [e];exact beq_self_eq_true n⟩
theorem zoa: ∀{ns:List Str} {vs:List Value} (pre:List (Str×Value)),ns.length=vs.length->ns.Nodup->(∀n∈ns,∀x∈pre,x.1≠n)-> ns.filterMap (λn=>((pre++ns.zip vs).lookup n).map λv=>(n,v))=ns.zip vs:=by
 intro ns;induction ns with
 |nil=>intro vs pre J J J;rfl
 |cons m ns ih=>
  intro vs pre hl hn hp;cases vs with
  |nil=>cases hl
  |cons v vs=>
  have hn':=dd.mp hn;have h1: ∀(pre:List (Str×Value)),(∀x∈pre,x.1≠m)->(pre++(m,v)::ns.zip vs).lookup m=some v:=λpre=>by
   induction pre with
   |nil=>intro J;rw [List.nil_append,aG,beq_self_eq_true]
   |cons x r ih=>
    intro h;obtain ⟨a,b⟩:=x;have:(m==a)=false:=beq_eq_false_iff_ne.mpr λe=>h (a,b) ag e.symm
    rw [dS,aG,this];exact ih λy hy=>h y (ah _ hy)
  rw [eh,fC,h1 pre (hp m ag)];refine congrArg ((m,v):: ·) ?_;have:=ih (vs:=vs) (pre++ [(m,v)]) (Nat.succ.inj hl) hn'.2 (λn hn x hx=>by
   rcases ec.mp hx with hx|hx
   ·exact hp n (ah _ hn) x hx
   ·obtain rfl:=aE.mp hx;intro e;subst e;exact hn'.1 hn)
  rw [cT]at this;exact this
theorem nG{fd:FuncData}{as:List Arg}{vals:List Value}(hp:fd.params=⟨[],as,none,[],[],none,[]⟩)(hd:fd.defaults= .none)(hl:as.length=vals.length)(hn:(as.map (·.arg)).Nodup): bindArgs fd ⟨vals,[]⟩=pure ((as.map (·.arg)).zip vals):=by
 have hl':(as.map (·.arg)).length=vals.length:=by simpa using hl
 have h1:(((as.map (·.arg)).take ((as.map (·.arg)).length-0)).filter λn=>(((as.map (·.arg)).zip vals).lookup n).isNone)=[]:=by rw [List.filter_eq_nil_iff];intro n hn;have:=zk8 hl' n (List.mem_of_mem_take hn);simpa [Option.isNone_iff_eq_none,Option.isSome_iff_ne_none] using this
 have h2:=zoa [] hl' hn (λJ J J h=>nomatch h);simp only [List.nil_append]at h2;cases fd;dsimp only at hp hd;subst hp hd;refine Eq.trans (if_neg (c:=(decide (vals.length>(as.map (·.arg)).length)&&true)=true) ?_) ?_
 ·rw [aY,hl,decide_eq_false (aW _)];exact bn
 dsimp only;generalize hds:(List.drop (((none:Option (Array Value)).getD #[]).toList.length-(List.map (λx:Arg=>x.arg) []++List.map (λx=>x.arg) as).length) ((none:Option (Array Value)).getD #[]).toList)=ds;obtain rfl:ds=[]:=hds.symm.trans List.drop_nil;refine Eq.trans (if_neg (c:=(!(((as.map (·.arg)).take ((as.map (·.arg)).length-0)).filter λn=>(((as.map (·.arg)).zip vals).lookup n).isNone).isEmpty)=true) ?_) ?_
 ·rw [h1];exact bn
 rw [List.zip_nil_right];show (pure ((as.map (λx:Arg=>x.arg)++ []).filterMap (λn=>(((as.map (λx:Arg=>x.arg)).zip vals).lookup n).map (n,·))):Sem (List (Str×Value)))=_;rw [cC,h2]
theorem tQ{prog:Program}{w:World}{A:Around}{s:Shared}{R:Result->Shared->Prop}{a:Addr}{o:Obj}{fd:FuncData}{body:List Stmt}{vals:List Value}{binds:List (Str×Value)}(hroom:A.depth<bL)(ho:s.heap.get? a=some o)(hdata:o.data= .func fd)(hlim:s.heap.NoLimit)(hcd:s.heap.CodeRec fd.code fd.qualname)(hbody:fd.body= .stmts body)(hbind:bindArgs fd ⟨vals,[]⟩=pure binds)(hclo:fd.closure=[])(hkind: ∀x∈binds,fd.scope.names.lookup x.1=some .local\/(fd.scope.names.lookup x.1=some .cell/\((dG (s.heap.objs.size+1) fd.scope.names []).lookup x.1).isSome=true))(hco:fd.scope.isCoroutine=false)(hgen:fd.scope.isGenerator=false)(hk:fd.scope.kind= .function)(h: ∀s₁,InCallC s (bv fd s.heap.objs.size a).locals (bindL (bv fd s.heap.objs.size a).kindOf binds λJ=>none) (bv fd s.heap.objs.size a).cells (bindC (bv fd s.heap.objs.size a).kindOf binds λJ=>none) s₁->s.toks<=s₁.toks-> wpAny (model prog w) (A.deeper (bv fd s.heap.objs.size a)) (execs body (bv fd s.heap.objs.size a)) (λf s'=>R (.ok (.ret (match f with| .ret v=>v|_=>.none))) s') (λe s'=>wpAny (model prog w) (A.deeper (bv fd s.heap.objs.size a)) (leaving (bv fd s.heap.objs.size a) e) (λJ s''=>R (.error e) s'') (λe' s''=>R (.error e') s'') s') s₁): codeAny (model prog w) A (.call (.ref a) ⟨vals,[]⟩) R s:=by refine codeAny_call_function hroom ho hdata hco hgen hbody hcd ?_;rw [hbind,hclo];show let z_:=_;let y_:=_;wpAny _ _ _ z_ y_ _;intro z_ y_;refine am (bP (az s.toks) (wpAny_newFunctionEnv_cells hk hkind λenv he s' x htk=>?_));subst he;exact ⟨hlim.keeps x.toInCall.keep,codeAny_func (h s' x htk)⟩
theorem mU: ∀{ts:List Nat} {ps:List PV} {ρ ρ':Rho},gZ ts ps ρ=some ρ'-> ∀{i:Nat} {s:Slot},ρ'[i]?=some (some s)->(ρ[i]?=some (some s)/\i∉ts)\/ ∃(j:Nat) (p:PV),ts[j]?=some i/\ps[j]?=some p/\s= .val p:=by
 intro ts;induction ts with
 |nil=>intro ps ρ ρ' h i s e;cases ps with
  |nil=>replace h:=oj h;subst h;exact .inl ⟨e,eT⟩
  |cons _ _=>exact cu h
 |cons t ts ih=>intro ps ρ ρ' h i s e;cases ps with
  |nil=>exact cu h
  |cons p ps=>
  rcases ih h e with ⟨h1,h2⟩|⟨j,q,h1,h2,h3⟩
  ·rcases js h1 with ⟨rfl,rfl⟩|⟨hne,h1⟩
   ·exact .inr (eg 0 p rfl rfl rfl)
   ·exact .inl ⟨h1,λhm=>by rcases aw.mp hm with e|hm;exact hne e;exact h2 hm⟩
  ·exact .inr (eg (j+1) q h1 h2 h3)
theorem Places.at(hp:Places c xs ts): ∀{j i:Nat},ts[j]?=some i-> ∃x,xs[j]?=some x/\idx c.σ x=some i/\(c.sc.names.lookup x=some .local\/c.sc.names.lookup x=some .cell):=by
 induction hp with
 |nil=>intro j i h;simp at h
 | @cons x i xs is h1 h2 _ ih=>
  intro j i' h;cases j with
  |zero=>simp at h;subst h;exact et x rfl h1 h2
  |succ j=>simpa using ih (by simpa using h)
theorem Places.length(hp:Places c xs ts):xs.length=ts.length:=by induction hp<;>simp [*]
theorem z5k(k:Str->Option NameKind)(n:Str)(v:Value)(r:List (Str×Value))(m:Str->Option Value):bindL k ((n,v)::r) m=bindL k r (if k n=some .local then λy=>if y=n then some v else m y else m):=rfl
theorem z2y: ∀{xs:List Str} {vs:List Value} {m:Str->Option Value} {j:Nat} {x:Str} {v:Value},xs.Nodup->xs[j]?=some x->vs[j]?=some v->k x=some .local->bindL k (xs.zip vs) m x=some v:=by
 have keep: ∀{xs:List Str} {vs:List Value} {m:Str->Option Value} {x:Str},x∉xs->bindL k (xs.zip vs) m x=m x:=by
  intro xs;induction xs with
  |nil=>intro vs m x J;rfl
  |cons y ys ih=>
   intro vs m x hx;cases vs with
   |nil=>rfl
   |cons u us=>
    rw [eh,z5k,ih (λh=>hx (ah _ h))];by_cases hk:k y=some .local
    ·rw [if_pos hk];exact if_neg λh:x=y=>hx (by rw [h];exact ag)
    ·rw [if_neg hk]
 intro xs;induction xs with
 |nil=>intro vs m j x v J h;simp at h
 |cons y ys ih=>
  intro vs m j x v hn hx hv hk;cases vs with
  |nil=>simp at hv
  |cons u us=>
   rw [eh,z5k];cases j with
   |zero=>simp at hx hv;subst hx hv;rw [keep (dd.mp hn).1,if_pos hk];simp
   |succ j=>exact ih (dd.mp hn).2 (by simpa using hx) (by simpa using hv) hk
theorem z2z: ∀{xs:List Str} {vs:List Value} {m:Str->Option Value} {j:Nat} {x:Str} {v:Value},xs.Nodup->xs[j]?=some x->vs[j]?=some v->k x=some .cell->bindC k (xs.zip vs) m x=some v:=by
 have keep: ∀{xs:List Str} {vs:List Value} {m:Str->Option Value} {x:Str},x∉xs->bindC k (xs.zip vs) m x=m x:=by
  intro xs;induction xs with
  |nil=>intro vs m x J;rfl
  |cons y ys ih=>
   intro vs m x hx;cases vs with
   |nil=>rfl
   |cons u us=>
    rw [eh,bindC,ih (λh=>hx (ah _ h))];split
    ·rfl
    ·show (if x=y then _ else _)=_;rw [if_neg (λh:x=y=>hx (by rw [h];exact ag))]
 intro xs;induction xs with
 |nil=>intro vs m j x v J h;simp at h
 |cons y ys ih=>
  intro vs m j x v hn hx hv hk;cases vs with
  |nil=>simp at hv
  |cons u us=>
   rw [eh,bindC];cases j with
   |zero=>simp at hx hv;subst hx hv;rw [keep (dd.mp hn).1,if_neg (by rw [hk];decide)];simp
   |succ j=>exact ih (dd.mp hn).2 (by simpa using hx) (by simpa using hv) hk
theorem nN(h:names.lookup x=some .cell/\(names.map (·.1)).Nodup):((dG n names acc).lookup x).isSome=true:=by obtain ⟨a,ha⟩:=zk4 (n:=n) (acc:=acc) (jF h.1);exact rC ha
structure kQ(sc:Scope):Prop where
 kind:sc.kind= .function
 nodup:(sc.names.map (·.1)).Nodup
 nofree: ∀x,sc.names.lookup x≠some .free
 nogen:sc.isGenerator=false
 noco:sc.isCoroutine=false
section
variable{C:CX}
def allO(env:Env)(b:Addr):Prop:=b=env.locals\/ ∃x,env.cells.lookup x=some b
def entO(c:CE)(env:Env)(b:Addr):Prop:=b=env.locals\/ ∃x,c.sc.names.lookup x≠none/\env.cells.lookup x=some b
theorem entO.all(h:entO c env b):allO env b:=h.imp_right λ⟨x,h⟩=>⟨x,h.2⟩
theorem tB(hsc: ∀x,c.sc.names.lookup x=fd.scope.names.lookup x\/c.sc.names.lookup x=none)(hb:c.base=0)(fs:kQ fd.scope)(hgl:fd.globals=aP)(hbu:fd.builtins=cM)(hp:Places c xs ts)(hn:xs.Nodup)(hr:RepL C s.heap W args vs)(at':At C W s)(h0: ∀i:Nat,ρ0[i]?≠some none->ρ0[i]?=none)(htk:s.toks<=s₁.toks)(hbind:gZ ts args ρ0=some ρ)(ic:InCallC s (bv fd s.heap.objs.size a).locals (bindL (bv fd s.heap.objs.size a).kindOf (xs.zip vs) λJ=>none) (bv fd s.heap.objs.size a).cells (bindC (bv fd s.heap.objs.size a).kindOf (xs.zip vs) λJ=>none) s₁): Ext C s s₁/\(∀b,allO (bv fd s.heap.objs.size a) b->s.heap.get? b=none)/\dq C c (bv fd s.heap.objs.size a) (λb=>W b\/allO (bv fd s.heap.objs.size a) b) (entO c (bv fd s.heap.objs.size a)) s₁.heap ρ/\At C (λb=>W b\/allO (bv fd s.heap.objs.size a) b) s₁:=by
 have hkind': ∀x,c.sc.names.lookup x≠none->(bv fd s.heap.objs.size a).kindOf x=c.sc.names.lookup x:=λx hx=>by
  rcases hsc x with h|h
  ·rw [h];rfl
  ·exact absurd h hx
 have hkinds: ∀x,(bv fd s.heap.objs.size a).kindOf x=c.sc.names.lookup x\/c.sc.names.lookup x=none:=λx=>(hsc x).imp_left λh=>h.symm
 have hkind: ∀{x k},c.sc.names.lookup x=some k->(bv fd s.heap.objs.size a).kindOf x=some k:=λ{x k} h=>(hkind' x (by rw [h];simp)).trans h
 generalize henv:bv fd s.heap.objs.size a=env at ic hkind hkinds⊢;have hloc:env.locals=s.heap.objs.size:=by rw [<-henv];rfl
 show let g_:=_;g_;intro g_;refine d9 ic.done λh' tk es keep=>?_
 have hlow:=at'.low;have hfresh: ∀b,s.heap.objs.size<=b->s.heap.get? b=none:=λb hb=>by
  cases hq:s.heap.get? b with
  |none=>rfl
  |some o=>exact absurd (aB hq) (pJ.mpr hb)
 have habove: ∀x b,env.cells.lookup x=some b->s.heap.objs.size<b:=λx b h=>hloc▸ic.above x b (mem_of_lookup h)
 have ext:Ext C s s₁:=by subst es;exact ⟨.grow keep,htk⟩
 have hOf: ∀b,allO env b->s.heap.objs.size<=b:=λb hb=>by
  rcases hb with rfl|⟨x,hx⟩
  ·exact dc hloc.symm
  ·exact dF (habove x b hx)
 obtain ⟨om,hom⟩: ∃o,s₁.heap.get? env.locals=some o:=by obtain ⟨o,J,J,e,J⟩:=ic.toInCall.ns;exact ⟨o,e⟩
 refine ⟨ext,λb hb=>hfresh b (hOf b hb),?_,⟨ext.inv at'.inv,λb hb=>?_,af at'.tok htk⟩⟩
 ·exact {
   glob:=by rw [<-henv];exact hgl
   bui:=by rw [<-henv];exact hbu
   kind:=by rw [<-henv];exact fs.kind
   ow:=λb hb=>.inr hb.all
   lo:=λb hb=>aa hlow (hOf b hb.all)
   loc:=.inl rfl
   ns:=⟨_,ic.toInCall.ns⟩
   names:=λx=>by
    rcases hkinds x with h|h
    ·exact .inl h
    ·exact .inr (.inr h)
   cells:=λx hx=>by
    rcases hx with hx|hx
    ·have h1:(env.cells.lookup x).isSome=true:=by rw [<-henv];exact nN (⟨(by rcases hsc x with h|h;exact h.symm.trans hx;rw [h]at hx;exact cu hx),fs.nodup⟩)
     obtain ⟨b,hb⟩:=dB.mp h1;exact eg b _ hb (.inr (bK x (by rw [hx];simp) hb)) (ic.cell x b hb)
    ·rcases hsc x with h|h
     ·rw [h]at hx;exact absurd hx (fs.nofree x)
     ·rw [h]at hx;exact cu hx
   cinj:=λx y b h1 h2=>name_of_addr ic.apart (mem_of_lookup h1) (mem_of_lookup h2)
   top:=λi sl h=>by
    rcases mU hbind h with ⟨h1,J⟩|⟨j,p,h1,J,J⟩
    ·have:=h0 i (by rw [h1];simp);rw [h1]at this;cases this
    ·refine fT (hp.at h1) λx J hx J=>?_
     exact k9 hx
   vars:=λx i sl h1 J h3=>by
    rcases mU hbind h3 with ⟨h1,J⟩|⟨j,p,g1,g2,rfl⟩
    ·have:=h0 i (by rw [h1];simp);rw [h1]at this;cases this
    ·show let g_:=_;g_;intro g_;refine fT (hp.at g1) λy hy hyi hyk=>?_
     obtain rfl:=kc hyi h1;refine aN (hr.get j g2) λv hv rv=>?_
     refine bK v ?_ (.val (Rep.stay (Stay.grow (λb o J e=>ic.toInCall.keep b o e) λb hb=>?_) _ _ rv))
     ·rcases hyk with hk|hk
      ·exact .loc (hkind hk) ic.toInCall.ns (z2y hn hy hv (hkind hk))
      ·have h1:(env.cells.lookup y).isSome=true:=by rw [<-henv];exact nN (⟨(by rcases hsc y with h|h;exact h.symm.trans hk;rw [h]at hk;exact cu hk),fs.nodup⟩)
       obtain ⟨b,hb⟩:=dB.mp h1;have:=ic.cell y b hb;rw [z2z hn hy hv (hkind hk)]at this;exact .cell (.inl (hkind hk)) hb (aa hlow (dF (habove y b hb))) this
     ·rcases hb with hb|hb
      ·exact .inl hb
      ·exact .inr (hfresh b (hOf b hb))
   apart:=λx y i j sl tl v J J J J h5 J h7 J J J=>by
    rcases mU hbind h5 with ⟨h1,J⟩|⟨J,p,J,J,rfl⟩
    ·have:=h0 i (by rw [h1];simp);rw [h1]at this;cases this
    ·cases h7}
 ·rcases hb with hb|hb
  ·exact (at'.ext ext).wocc b hb
  ·refine ⟨aa hlow (hOf b hb),?_⟩;rcases hb with rfl|⟨x,hx⟩
   ·exact ⟨om,hom⟩
   ·refine aN (ic.cell x b hx) λo e J=>?_
    exact ⟨o,e⟩
end
noncomputable def jap:Option Out->Option PV
 |some (.ret v)=>some v
 |_=>none
theorem zye(h:jap o=some v):o=some (.ret v):=by
 cases o with
 |none=>exact cu h
 |some x=>cases x with
  |next=>exact cu h
  |ret u=>exact congrArg (λz=>some (Out.ret z)) (Option.some.inj h)
noncomputable def jb(G:GT)(ts:List Nat)(ss:List PS)(n:Nat)(args:List PV):Option PV:=(gZ ts args (aJ n none)).bind λρ=>jap (eK G ss ρ)
theorem zme(h:(dG n names []).lookup x=some b):(names.lookup x).isSome=true:=rC (zfv names n h)
theorem tP{C:CX}{K:Nat}{d:DefRec}{c:CE}{ts:List Nat}{n:Nat}{as:List Arg}{a:Addr}{o:Obj}{pm code doc:Value}(hsc:c.sc=d.scope)(hb:c.base=0)(fs:kQ d.scope)(hpar:d.params=⟨[],as,none,[],[],none,[]⟩)(hn:(as.map (·.arg)).Nodup)(hp:Places c (as.map (·.arg)) ts)(ho: ∀h,C.Inv h->h.get? a=some o)(hd:o.data= .func (d.data pm code doc))(hcode: ∀h,C.Inv h->h.CodeRec code d.name){args:List PV}{ρ:Rho}(h1:gZ ts args (aJ n none)=some ρ){A:Around}{W:Addr->Prop}{s:Shared}{vs:List Value}(rm:Room A (K+1))(at':At C W s)(hr:RepL C s.heap W args vs){Q E:Value->Shared->Prop}(q: ∀env s₁ W1 O₁,env.frame=some env.locals->Room (A.deeper env) K->Fr' C s W (λJ=>False) W1 O₁ s₁->dq C c env W1 O₁ s₁.heap ρ->At C W1 s₁-> ∀(Q':Flow->Shared->Prop) E',(∀val s',Q val s'->Q' (.ret val) s')->wpAny (model C.prog C.w) (A.deeper env) (execs d.body env) Q' E' s₁): wpAny (model C.prog C.w) A (call (.ref a) vs) Q E s:=by
 have hl:as.length=vs.length:=by rw [hr.length,<-tR h1,<-hp.length];simp
 obtain ⟨r1,r2,r3⟩:=rm;refine gj (tQ (fd:=d.data pm code doc) (by lia) (ho _ at'.inv) hd (C.nolimit at'.inv) (hcode _ at'.inv) rfl (nG (fd:=d.data pm code doc) hpar rfl hl hn) rfl (λx hx=>?_) fs.noco fs.nogen fs.kind λs₁ ic htk=>?_)
 ·show let g_:=_;g_;intro g_;obtain ⟨j,hj⟩:=nX.mp (j1 (a:=x.1) (b:=x.2) hx).1;have:j<ts.length:=by have:=bO.mp hj;obtain ⟨h,J⟩:=this;rw [<-hp.length];exact h
  obtain ⟨y,g1,g2,g3⟩:=hp.at (aL this);rw [hj]at g1;replace g1:=oj g1;subst g1;rw [hsc]at g3;rcases g3 with g3|g3
  ·exact .inl g3
  ·exact .inr ⟨g3,nN (⟨g3,fs.nodup⟩)⟩
 ·show let g_:=_;g_;intro g_;obtain ⟨ext,hf,ev,a_1⟩:=tB (c:=c) (fd:=d.data pm code doc) (a:=a) (λx=>.inl (by rw [hsc];rfl)) hb fs rfl rfl hp hn hr at' (λi h=>by
   rw [fu]at h⊢;split at h
   ·exact absurd rfl h
   ·rename_i q;rw [if_neg q]) htk h1 ic
  have eO: ∀b,allO (bv (d.data pm code doc) s.heap.objs.size a) b->entO c (bv (d.data pm code doc) s.heap.objs.size a) b:=λb hb=>hb.imp_right λ⟨x,h⟩=>⟨x,(λh1=>by
   have h2:(d.scope.names.lookup x)=none:=by rw [<-hsc];exact h1
   have h3:(d.scope.names.lookup x).isSome=true:=zme h;rw [h2]at h3;exact ft h3),h⟩
  have fr:Fr' C s W (λJ=>False) (λb=>W b\/allO (bv (d.data pm code doc) s.heap.objs.size a) b) (entO c (bv (d.data pm code doc) s.heap.objs.size a)) s₁:=
   ⟨ext.toO,λb hb=>hb.imp_right (eO b),λb hb=>.inl hb,λb hb=>.inr (hf b hb.all),λb hb ho=>by obtain ⟨J,o,e⟩:=at'.wocc b hb;rw [hf b ho.all]at e;exact cu e⟩
  exact q _ s₁ _ _ rfl ⟨r1,by show A.depth+1+2*K+110<bL;lia,by show A.units+3+16*K+200<cLine;lia⟩ fr ev a_1 _ _ λval s' h=>h
theorem z67{C:CX}{G:GT}{K:Nat}(ok:FnOk C G K){d:DefRec}{c:CE}{ts:List Nat}{ss:List PS}{n:Nat}{as:List Arg}{a:Addr}{o:Obj}{pm code doc:Value}(hsc:c.sc=d.scope)(hb:c.base=0)(fs:kQ d.scope)(hpar:d.params=⟨[],as,none,[],[],none,[]⟩)(hn:(as.map (·.arg)).Nodup)(hp:Places c (as.map (·.arg)) ts)(hss:SSs c d.body ss)(ho: ∀h,C.Inv h->h.get? a=some o)(hd:o.data= .func (d.data pm code doc))(hcode: ∀h,C.Inv h->h.CodeRec code d.name){args:List PV}{p:PV}(h:jb G ts ss n args=some p){A:Around}{W:Addr->Prop}{s:Shared}{vs:List Value}(rm:Room A (K+1))(at':At C W s)(hr:RepL C s.heap W args vs):Snd C A s W (call (.ref a) vs) p:=λQ E q=>by
 refine aN (bind_some h) λρ h1 h2=>?_
 refine tP hsc hb fs hpar hn hp ho hd hcode h1 rm at' hr λenv s₁ W1 O₁ J rm' fr ev a_1 Q' E' k=>?_
 refine hss C G K ok env _ s W (λJ=>False) rm' W1 O₁ s₁ ρ _ fr ev a_1 (zye h2) Q' E' λval s' x r=>k val s' (q val s' ⟨⟨λb o lo e=>x.new b o lo (λh=>h) e,x.inv,x.gens,x.drawn,x.os⟩,x.toks⟩ r)
end Mine.Internal
namespace Mine.Internal
open PySem PySem.W PySem.Calls PyProof.Rows PySem.Challenge
set_option backward.match.sparseCases false
theorem zyf: ∀{n:Nat} {s:Shared} {t:Thread} {f:Flow} {s':Shared},runN den prog w n s t= .halted (.done f) s'-> ∃m t',runN den prog w m s t= .running s' t'/\step den prog w s' t'= .halt (.done f) s':=by
 intro n;induction n with
 |zero=>intro s t f s' h;exact nomatch h
 |succ n ih=>
  intro s t f s' h;rw [runN]at h;cases hs:step den prog w s t with
  |go s₁ t_1=>
   rw [hs]at h;refine d9 (ih h) λm t' h1 h2=>?_
   exact eM (m+1) t' (by rw [runN,hs];exact h1) h2
  |halt o s₁=>
   rw [hs]at h
   injection h with h1 h2
   subst h1 h2;have e:=step_halt_same den prog w s s₁ t _ hs;subst e;exact eM 0 t rfl hs
noncomputable def p0:Step->Bool
 | .halt (.done _) _=>true
 |_=>false
theorem ztq(h:p0 (finish o s)=true):p0 (.halt o s)=true:=by
 unfold finish at h;generalize leftWithCleanup s.gens=x at h;cases x
 ·exact h
 ·exact absurd h bn
theorem zla: ∀{s:Shared} {t:Thread},p0 (step den prog w s t)=true->through t=true
 |s,⟨cur,code,pos,stack⟩,h=>by
  have no: ∀{b:Bool},b=true->b=false->through ⟨cur,code,pos,stack⟩=true:=λ{b} h h'=>absurd (h'.symm.trans h) bn
  cases cur with
  |pure q=>cases q with
   |again c=>exact no h rfl
   |done g=>cases stack with
    |nil=>rfl
    |cons F r=>cases F<;>exact no h rfl
  |raise e=>cases stack with
   |nil=>exact no (ztq h) rfl
   |cons F r=>cases F<;>exact no h rfl
  |finish e=>exact no (ztq (o:=.ended e) h) rfl
  |load a _ k=>delta step at h;dsimp only at h;generalize s.heap.get? a=x at h;cases x<;>exact no h rfl
  |update a _ g k=>delta step at h;dsimp only at h;generalize (s.heap.get? a).isSome=x at h;cases x<;>exact no h rfl
  |choose src n k=>cases n<;>exact no h rfl
  |genState g k=>delta step at h;dsimp only at h;generalize s.gens[g]?=x at h;cases x<;>exact no h rfl
  |resume g r l k=>
   delta step at h;dsimp only at h;generalize s.gens[g]?=x at h
   cases x with
   |none=>exact no h rfl
   |some y=>cases y with
    |fresh c=>cases r with
     |send v=>cases v<;>exact no h rfl
     |throw e=>exact no h rfl
    |_=>exact no h rfl
  |yield v g0 l kk=>delta step at h;dsimp only at h;generalize splitAtGen stack=x at h;cases x<;>exact no h rfl
  |_=>exact no h rfl
theorem zlb(h:step den prog w s t= .halt (.done f) s'):through t=true:=zla ((congrArg p0 h).trans rfl)
theorem zmf{prog:Program}{w:World}{t:Sem Fin}{s:Shared}{R:Shared->Prop}(hreg:s.asleep)(h:wpAny (model prog w) callerA t (λfin s'=>∃f,fin= .done f/\R s'/\s'.gens= #[]) (λJ J=>False) s): ∃n s' t',schedN (denote table) prog w n (.single s ⟨t,.builtin "claim.caller" {},default,[]⟩)= .running (.single s' t')/\through t'=true/\s'.heap.life=s.heap.life/\R s'/\s'.gens= #[]:=by
 show let g_:=_;g_;intro g_;obtain ⟨n,r,s₁,hn,hR⟩:=(wp_iff_halts (M:=model prog w) (c:=.builtin "claim.caller" {}) t (λr s'=>(∃f,r= .ok f)/\R s'/\s'.gens= #[]) default s).mp
  (wp_of_wpAny_done (R:=λr s'=>((∃f,r= .ok f)/\R s'/\s'.gens= #[])/\leftWithCleanup s'.gens=false) caller_in (bE h (by rintro fin s' ⟨f,e,h1,h2⟩;exact (et f e ⟨⟨f,rfl⟩,h1,h2⟩ (by rw [h2];decide+kernel))) λJ J x=>x.elim) default)
 obtain ⟨⟨f,rfl⟩,hR,hg⟩:=hR;refine fT (runNI_real (model prog w).den prog w hn (outcomeOf_ends _)) λs_2 hr hf hc=>?_
 obtain rfl:=Shared.eq_of_forget_eq hf hg;refine d9 (zyf hr) λm t' h1 h2=>?_
 have hne: ∀k s2',runN (model prog w).den prog w k s ⟨t,.builtin "claim.caller" {},default,[]⟩≠ .halted (.unsupported "lifetime:generator-with-cleanup-left-suspended") s2':=by
  intro k s2' hk;have a:=runN_mono (model prog w).den prog w n k s _ _ s_2 hr;rw [dR,(runN_mono (model prog w).den prog w k n s _ _ s2' hk)]at a
  injection a with a1 _
  cases a1
 exact oW m s_2 t' ((schedN_eq_runN (model prog w).den prog w s _ hreg ⟨hc,hne⟩ m).trans (congrArg Run.lift h1)) (zlb h2) (runN_life_running h1) hR hg
end Mine.Internal
namespace Mine.Internal
open PySem PySem.W PySem.Calls PyProof.Rows PySem.Challenge
section
variable{prog:Program}{w:World}{K:Type}[DecidableEq K]{knd:KeyKind prog w K}{A:Around}{E:Value->Shared->Prop}{s:Shared}
theorem zyg(h:Pairs knd es kvs): ∀{i:Nat} {e:DictEntry} {kv:K×Value},es[i]?=some e->kvs[i]?=some kv->knd.is kv.1 e.key=true/\e.val=kv.2:=by
 induction h with
 |nil=>intro i e kv h J;simp at h
 |cons h1 h2 _ ih=>
  intro i e kv a b;cases i with
  |zero=>simp at a b;subst a b;exact ⟨h1,h2⟩
  |succ i=>simp at a b;exact ih a b
theorem z20(hkey:knd.is k key=true)(hm:s.heap.DictOf knd d kvs)(hQ: ∀h',h'.DictOf knd d (stored kvs k v)->Heap.SameBut d s.heap h'->Q () {s with heap:=h'})(hsz:kvs.length<=aM):wpAny (model prog w) A (dictPut d (knd.hash k) key v) Q E s:=by
 refine iJ hm λo es ep ho hc hd hk hp hn=>?_
 have hes:es.size<=aM:=by
  have e1:=hp.length;have e2:es.toList.length=es.size:=by simp
  lia
 refine ab (wpAny_dictFind_of hkey ho hd hk ?_);have hidx:(es.findIdx? λe=>knd.is k e.key)=kvs.findIdx? λkv=>decide (kv.1=k):=by rw [<-hp.findIdx k];obtain ⟨l⟩:=es;simp
 cases hi:es.findIdx? λe=>knd.is k e.key with
 |some i=>
  have hst:stored kvs k v=kvs.map (λkv=>if kv.1=k then (kv.1,v)else kv):=by rw [stored,if_pos (any_of_findIdx_some (hidx▸hi))]
  refine wpAny_updateDict ho hd (hQ _ (kW _ _ ep (cV _ ho (Obj.isFreed_of_dict (Obj.data_mapDict hd _))) (hc.mapDict _) (Obj.data_mapDict hd _) (hk.modify _ _) ?_ ?_) (fc ..))
  ·rw [hst];have hl:(es.toList.findIdx? λe=>knd.is k e.key)=some i:=by rw [<-hi];obtain ⟨l⟩:=es;simp
   have:=hp.modify hn hl v;obtain ⟨l⟩:=es;simpa using this
  ·rw [hst,keys_map_store];exact hn
 |none=>
  have hnot:k∉kvs.map (·.1):=not_mem_of_findIdx_none (hidx▸hi);have hany: ¬(kvs.any λkv=>decide (kv.1=k))=true:=by rw [pO];rintro ⟨kv,hkv,he⟩;exact hnot (bg.mpr (bK kv hkv (of_decide_eq_true he)))
  refine wpAny_updateDictKeys (hz:=hes) ho hd (hQ _ (kW _ _ (ep+1) (cV _ ho (Obj.isFreed_of_dict (Obj.data_mapDictKeys hd _))) (hc.mapDictKeys _) (Obj.data_mapDictKeys hd _) (hk.push hkey _) ?_ ?_) (fc ..))
  ·rw [stored,if_neg hany];have:=hp.append hkey (knd.hash k) v;obtain ⟨l⟩:=es;simpa using this
  ·rw [stored,if_neg hany,dM,lS];refine ⟨hn,by simp,?_⟩;intro a ha b hb;simp only [ax,List.map_nil,aE]at hb;subst hb;exact λe=>hnot (e▸ha)
theorem zob:dv (.type "dict") (.type "dict")=pure true:=by rw [cW];kernel_rfl
theorem jaq[Decidable c](h: ¬c)(k:wpAny M A b Q E s):wpAny M A (if c then a else b) Q E s:=by rw [if_neg h];exact k
theorem zoc(hdo:d≠o)(hoS:(o==du)=false)(hd:s.heap.DictOf knd d kvs)(hne:kvs≠ [])(ho:s.heap.DictOf knd o more)(hQ: ∀h',h'.DictOf knd d (merged kvs more)->Heap.SameBut d s.heap h'->Q () {s with heap:=h'})(hsz:kvs.length+more.length<=aM): wpAny (model prog w) A (mergeMapping d (.ref o) false) Q E s:=by
 show let g_:=_;g_;intro g_;refine iJ (id hd) λod esd epd hod hcd hdd hkd hpd hnd=>?_
 refine iJ (id ho) λoo eso epo hoo hco hdo' hko hpo hno=>?_
 have hlen:more.length=eso.size:=by rw [<-hpo.length];simp
 have hde:esd.isEmpty=false:=by
  cases he:esd.isEmpty with
  |false=>rfl
  |true=>
   have h1:esd.size=0:=by simpa [Array.isEmpty] using he
   have h2:=hpd.length;have h3:esd.toList.length=esd.size:=by simp
   exact absurd (cK.mp (by lia)) hne
 refine ab (m:=isInstance (.ref o) (.type "dict")) (gR ho.typeIs zob ?_);refine ab (bQ ho.typeIs F.slot_dict_iter.lookup ?_);refine jaq (c:=(o==du)=true) (by rw [hoS];exact bn) ?_;refine ab (wpAny_dictEntries hod hdd ?_);refine jaq (by rw [hde];exact bn) ?_;refine ab (wpAny_dictEntries hoo hdo' ?_);refine ab (wpAny_dictEpoch hoo hdo' ?_);refine ab ?_;rw [List.range_eq_range'];show let z_:=_;let y_:=_;wpAny _ _ _ z_ y_ _;intro z_ y_;refine wpAny_forIn_list _
  (λrest J s'=>∃h' i,s'={s with heap:=h'}/\rest=List.range' i (eso.size-i)/\i<=eso.size/\h'.DictOf knd d (merged kvs (more.take i))/\h'.get? o=some oo/\Heap.SameBut d s.heap h')
  _ ?_ ?_ _ _ (iX s.heap 0 rfl (by simp) (bD _) (by simpa [merged] using hd) hoo (Heap.SameBut.refl _ _))
 ·rintro x rest b s' ⟨h',i,rfl,hr,hi,hd',hoo',hs'⟩;show let z_:=_;let y_:=_;wpAny _ _ _ z_ y_ _;intro z_ y_;have hlt:i<eso.size:=by
   rcases lO i eso.size with h|h
   ·exact h
   ·rw [Nat.sub_eq_zero_of_le h]at hr;simp at hr
  obtain ⟨rfl,hrest⟩:x=i/\rest=List.range' (i+1) (eso.size-(i+1)):=by
   rw [((cF (iO hlt)).symm),List.range'_succ]at hr
   injection hr with h1 h2
   exact ⟨h1,h2⟩
  refine ab (wpAny_dictEntries hoo' hdo' ?_);rw [Array.getElem?_eq_getElem hlt];obtain ⟨kv,hkv⟩: ∃kv,more[x]?=some kv:=⟨more[x]'(by rw [hlen];exact hlt),aL _⟩;obtain ⟨k,v⟩:=kv;refine xA (zyg hpo (e:=eso[x]) (by simp [hlt]) hkv) λhkey hval=>?_
  refine aN (hko eso[x] (Array.getElem_mem hlt)) λk' hkey' hhash=>?_
  obtain rfl:k'=k:=knd.inj _ _ _ hkey' hkey;dsimp only;rw [hhash,hval];have hmx:(merged kvs (more.take x)).length<=aM:=by
   have e1:=merged_length_le kvs (more.take x);have e2:(more.take x).length<=more.length:=by rw [pN];exact Nat.min_le_right _ _
   lia
  refine ab (aX (z20 hkey hd' (λh'' hd'' hs''=>?_) hmx));have hoo'':=(hs''.2 o (dh hdo)).trans hoo';refine ab (wpAny_dictEpoch hoo'' hdo' ?_);rw [if_neg (by simp)];exact am (iX h'' (x+1) rfl hrest hlt (by rw [merged_take_succ kvs more x (k',v) hkv];exact hd'') hoo'' (hs'.trans hs''))
 ·rintro b s' ⟨h',i,rfl,hr,hi,hd',hoo',hs'⟩;have hin:i=eso.size:=by
   rcases lO i eso.size with h|h
   ·have e:eso.size-i=(eso.size-(i+1))+1:=(cF (iO h)).symm;rw [e,List.range'_succ]at hr;cases hr
   ·exact ea hi h
  subst hin;refine am (hQ h' ?_ hs');rw [ey (by lia)]at hd';exact hd'
end
def LitK(k:Sem Value)(i:Int):Prop:=∀(M:Model) (A:Around) (Q E:Value->Shared->Prop) (s:Shared),(∀t tk,Q (.int i t) {s with toks:=tk})->wpAny M A k Q E s
def LitV(v:Sem Value)(x:Str):Prop:=∀(M:Model) (A:Around) (Q E:Value->Shared->Prop) (s:Shared),(∀t tk,Q (.str x t) {s with toks:=tk})->wpAny M A v Q E s
inductive jE:List (Sem Value×Sem Value)->List (Int×Str)->Prop
 |nil:jE [] []
 |cons {k v i x ps ts}:LitK k i->LitV v x->jE ps ts->jE ((k,v)::ps) ((i,x)::ts)
theorem jE.length{ps ts}(h:jE ps ts):ts.length=ps.length:=by induction h<;>simp [*]
theorem jE.append{ps ts qs us}(h:jE ps ts)(g:jE qs us):jE (ps++qs) (ts++us):=by
 induction h with
 |nil=>exact g
 |cons a b _ ih=>exact .cons a b ih
inductive ja:List (Int×Value)->List (Int×Str)->Prop
 |nil:ja [] []
 |cons {i x t l ts}:ja l ts->ja ((i,.str x t)::l) ((i,x)::ts)
theorem ja.keys{l ts}(h:ja l ts):l.map (·.1)=ts.map (·.1):=by induction h<;>simp [*]
theorem ja.length{l ts}(h:ja l ts):l.length=ts.length:=by induction h<;>simp [*]
theorem ja.append{l ts l' ts'}(h:ja l ts)(g:ja l' ts'):ja (l++l') (ts++ts'):=by
 induction h with
 |nil=>exact g
 |cons _ ih=>exact .cons ih
theorem ja.at{l ts}(h:ja l ts)(k:Int):(match valueAt l k with|some v=>∃x t,v= .str x t/\ts.lookup k=some x|none=>ts.lookup k=none):=by
 induction h with
 |nil=>rfl
 | @cons i x t l ts _ ih=>
  by_cases hk:i=k
  ·subst hk;simp [valueAt,List.lookup]
  ·have h1:valueAt ((i,Value.str x t)::l) k=valueAt l k:=by simp [valueAt,List.find?_cons,hk]
   have h2:((i,x)::ts).lookup k=ts.lookup k:=by
    have:(k==i)=false:=by simpa using λh=>hk h.symm
    simp [List.lookup,this]
   rw [h1,h2];exact ih
section
variable{prog:Program}{w:World}{A:Around}{E:Value->Shared->Prop}{s:Shared}
theorem zyh: ∀(ps:List (Sem Value×Sem Value)) (ts done:List (Int×Str)) (l:List (Int×Value)) (s:Shared) (Q:PUnit->Shared->Prop),jE ps ts->s.heap.DictOf (intKind prog w) d l->ja l done-> ((done++ts).map (·.1)).Nodup->(done++ts).length<=aM-> (∀h' l' tk,h'.DictOf (intKind prog w) d l'->ja l' (done++ts)->Heap.SameBut d s.heap h'->Q PUnit.unit {s with heap:=h',toks:=tk})-> wpAny (model prog w) A (forIn ps PUnit.unit λ(x:Sem Value×Sem Value) (_:PUnit)=>(match x with|(k,v)=>do let kv<-k;let vv<-holding [kv] v;holding [kv,vv] (dictSet d kv vv);pure (iB PUnit.unit):Sem (ForInStep PUnit))) Q E s:=by
 intro zz;induction zz with
 |nil=>intro ts done l s Q hp hd ht J J hQ;cases hp;rw [List.forIn_nil];exact am (by simpa using hQ s.heap l s.toks hd (by simpa using ht) (Heap.SameBut.refl _ _))
 |cons zq ps ih=>
  obtain ⟨k,v⟩:=zq;intro ts done l s Q hp hd ht hn hz hQ;cases hp with
  | @cons _ _ i x _ ts hk hv hp=>
  rw [uZ];refine ab (ab (hk _ _ _ _ _ λt tk=>ab (aX (hv _ _ _ _ _ λt' tk'=>ab (aX
   (wpAny_dictSet_pairs (knd:=intKind prog w) (k:=i) (s:={s with toks:=tk'}) (hsz:=?_) (by simp [intKind,Value.isInt]) hd λh_1 hm_1 hs_1=>am ?_))))))
  rotate_left
  ·rw [ht.length];simp only [aC]at hz;lia
  ·have hfresh:stored l i (.str x t')=l++ [(i,.str x t')]:=by unfold stored;rw [if_neg];rw [pO];rintro ⟨kv,hkv,he⟩;have h1:=bg.mpr ⟨kv,hkv,of_decide_eq_true he⟩;rw [ht.keys]at h1;rw [dM,ax,lS]at hn;exact hn.2.2 i h1 i (ag ..) rfl
   rw [hfresh]at hm_1;refine ih ts (done++ [(i,x)]) _ _ Q hp hm_1 (ht.append (.cons .nil)) (by simpa using hn) (by simpa using hz) λh' l' tk'' a b c=>?_
   have:=hQ h' l' tk'' a (by simpa using b) (hs_1.trans c);exact this
theorem zvf: ∀(ps:List (Sem Value×Sem Value)) (ts:List (Int×Str)) (s:Shared) (Q:List (Value×Value)->Shared->Prop),jE ps ts-> (∀vs l tk,Carries (intKind prog w) vs l->ja l ts->Q vs {s with toks:=tk})->wpAny (model prog w) A (evalPairs ps) Q E s:=by
 intro zz;induction zz with
 |nil=>intro ts s Q hp hQ;cases hp;exact evalPairs_nil (hQ [] [] s.toks trivial .nil)
 |cons zq ps ih=>
  obtain ⟨k,v⟩:=zq;intro ts s Q hp hQ;show let g_:=_;g_;intro g_;cases hp with
  | @cons _ _ i x _ ts hk hv hp=>
  refine evalPairs_cons (hk _ _ _ _ _ λt tk=>hv _ _ _ _ _ λt' tk'=>ih ts _ _ hp λvs l tk'' hc ht=>?_);exact hQ _ ((i,.str x t')::l) tk'' ⟨by simp [intKind,Value.isInt],rfl,hc⟩ (.cons ht)
theorem ztr(hp:jE ps ts)(hn:(ts.map (·.1)).Nodup)(hz:ts.length<=aM)(hQ: ∀h' l tk,h'.DictOf (intKind prog w) s.heap.objs.size l->ja l ts->(∀b o,s.heap.get? b=some o->h'.get? b=some o)->s.heap.objs.size<=h'.objs.size->Q s.heap.objs.size {s with heap:=h',toks:=tk}): wpAny (model prog w) A (subDict ps) Q E s:=by
 by_cases hl:ps.length<=15
 ·refine wpAny_subDict (knd:=intKind prog w) hl (zvf ps ts _ _ hp λvs l tk hc ht=>(et l hc (d5 _) (λh' hD hs=>?_)));rw [merged_nil_of_nodup l (by rw [ht.keys];exact hn)]at hD;exact hQ h' l _ hD ht (λb o e=>(hs.2 b (bG (aB e))).trans (aq _ e)) (by rw [hs.1,eJ];exact kG _)
 ·unfold subDict;refine ab (wpAny_alloc (ab (aX ?_)));rw [if_neg hl];refine ab (wpAny_rule (ab (zyh ps ts [] [] _ _ hp (d5 _) .nil (by simpa using hn) (by simpa using hz) λh' l tk hD ht hs=>am ?_)));exact am (hQ h' l tk hD (by simpa using ht) (λb o e=>(hs.2 b (bG (aB e))).trans (aq _ e)) (by rw [hs.1,eJ];exact kG _))
end
inductive rO(prog:Program)(w:World)(s:Shared)(tbl:List (Int×Str))(main:Option Addr)(run rest:List (Sem Value×Sem Value))(s':Shared):Prop
 |mk (h':Heap) (tk:Tok) (done tr tt:List (Int×Str)) (e:s'={s with heap:=h',toks:=tk}) (hk: ∀b o,s.heap.get? b=some o->h'.get? b=some o) (hz:s.heap.objs.size<=h'.objs.size) (h1:jE run tr) (h2:jE rest tt) (he:done++(tr++tt)=tbl)
  (hm:(main=none/\done=[])\/ ∃d l,main=some d/\s.heap.objs.size<=d/\h'.DictOf (intKind prog w) d l/\ja l done/\done≠ [])
section
variable{prog:Program}{w:World}{A:Around}{E:Value->Shared->Prop}{s:Shared}
theorem zlc{tbl:List (Int×Str)}{main:Option Addr}{run rest:List (Sem Value×Sem Value)}{s':Shared}{Q:Option Addr->Shared->Prop}(low:du<s.heap.objs.size)(hn:(tbl.map (·.1)).Nodup)(hz:tbl.length<=aM)(h:rO prog w s tbl main run rest s')(hQ: ∀main' s'',rO prog w s tbl main' [] rest s''->Q main' s''): wpAny (model prog w) A (if run.isEmpty=true then pure main else match (generalizing:=false) main with
   |none=>do return some (<-subDict run)
   |some d=>do
    let sub<-holding [.ref d] (subDict run)
    (holding [.ref d,.ref sub] (mergeMapping d (.ref sub) false)).onRaise λx=>do let _<-holding [.ref d,x] (runValue (.builtin "proto.let_go" {}))
    return some d) Q E s':=by
 obtain ⟨h',tk,done,tr,tt,rfl,hk,hsz,hr,ht,he,hm⟩:=h;by_cases hrun:run.isEmpty=true
 ·rw [if_pos hrun];have hr0:=eU.mp hrun;subst hr0;exact am (hQ _ _ ⟨h',tk,done,tr,tt,rfl,hk,hsz,hr,ht,he,hm⟩)
 ·rw [if_neg hrun];have hz2:done.length+tr.length<=aM:=by rw [<-he]at hz;simp only [aC]at hz;lia
  have hn2:((done++tr).map (·.1)).Nodup:=by rw [<-he,<-cT,dM,lS]at hn;exact hn.1
  have hn3:(tr.map (·.1)).Nodup:=by rw [dM,lS]at hn2;exact hn2.2.1
  show let g_:=_;g_;intro g_;rcases hm with ⟨rfl,rfl⟩|⟨d,l,rfl,hd0,hD,hT,hdn⟩
  ·refine ab (ztr (s:={s with heap:=h',toks:=tk}) hr hn3 (by lia) λh_2 l tk_2 hD ht_2 hk_2 hs_2=>am ?_);exact hQ _ _ ⟨h_2,tk_2,tr,[],tt,rfl,λb o e=>hk_2 b o (hk b o e),aa hsz hs_2,.nil,ht,by simpa using he,.inr (kg _ l rfl hsz hD ht_2 (λe=>hrun (by have:=hr.length;rw [e]at this;exact eU.mpr (cK.mp this.symm))))⟩
  ·refine ab (aX (ztr (s:={s with heap:=h',toks:=tk}) hr hn3 (by lia) λh_2 l₂ tk_2 hD2 ht_2 hk_2 hs_2=>?_));have hlt:d<h'.objs.size:=by obtain ⟨J,J,J,ho,J⟩:=hD;exact aB ho
   have hD':h_2.DictOf (intKind prog w) d l:=by obtain ⟨o,es,ep,ho,r⟩:=hD;exact gz o es ep (hk_2 _ _ ho) r
   refine ab (wpAny_onRaise (aX (zoc (knd:=intKind prog w) (s:={s with heap:=h_2,toks:=tk_2}) (bG hlt) ?_ hD' ?_ hD2 (λh_3 hD3 hs3=>am ?_) ?_)))
   ·exact beq_eq_false_iff_ne.mpr (b9 (af low hsz))
   ·intro e;subst e;exact hdn (by have:=hT.length;exact cK.mp this.symm)
   ·have e1:merged l l₂=l++l₂:=merged_append_of_fresh l l₂ (by rw [dM,hT.keys,ht_2.keys,<-dM];exact hn2);rw [e1]at hD3;refine hQ _ _ ⟨h_3,tk_2,done++tr,[],tt,rfl,λb o e=>?_,?_,.nil,ht,by simpa using he,.inr (kg d _ rfl hd0 hD3 (hT.append ht_2) (by simp [hdn]))⟩
    ·exact (hs3.2 b (λq=>by subst q;exact absurd (aB e) (pJ.mpr hd0))).trans (hk_2 b o (hk b o e))
    ·rw [hs3.1];exact aa hsz hs_2
   ·rw [hT.length,ht_2.length];exact hz2
theorem zp6(low:du<s.heap.objs.size)(hn:(tbl.map (·.1)).Nodup)(hz:tbl.length<=aM)(hne:tbl≠ [])(hp:jE ps tbl)(hQ: ∀h' tk d l,s.heap.objs.size<=d->h'.DictOf (intKind prog w) d l->ja l tbl->(∀b o,s.heap.get? b=some o->h'.get? b=some o)->Q (.ref d) {s with heap:=h',toks:=tk}): wpAny (model prog w) A (dictDisplay (ps.map λp=>(some p.1,p.2))) Q E s:=by
 refine ab ?_;show let z_:=_;let y_:=_;wpAny _ _ _ z_ y_ _;intro z_ y_;refine wpAny_forIn_list _ (λrest st s'=>∃ps',rest=ps'.map (λp=>(some p.1,p.2))/\st.2.length<17/\rO prog w s tbl st.1 st.2 ps' s') _ ?_ ?_ _ _ ⟨ps,rfl,by simp,s.heap,s.toks,[],[],tbl,rfl,λJ J e=>e,az _,.nil,hp,by simp,.inl ⟨rfl,rfl⟩⟩
 ·rintro x rest ⟨main,run⟩ s' ⟨ps',hr,hlen,hS⟩;show let z_:=_;let y_:=_;wpAny _ _ _ z_ y_ _;intro z_ y_;cases ps' with
  |nil=>cases hr
  |cons p ps'=>
   obtain ⟨rfl,rfl⟩:x=(some p.1,p.2)/\rest=ps'.map (λp=>(some p.1,p.2)):=by rw [ax]at hr;exact List.cons.inj hr
   dsimp only;have hS':rO prog w s tbl main (run++ [(p.1,p.2)]) ps' s':=by
    show let g_:=_;g_;intro g_;obtain ⟨h',tk,done,tr,tt,e1,hk,hsz,h1,h2,he,hm⟩:=hS;cases h2 with
    | @cons k v i x _ ts hk' hv' h2=>
    exact ⟨h',tk,done,tr++ [(i,x)],ts,e1,hk,hsz,h1.append (.cons hk' hv' .nil),h2,by simpa using he,hm⟩
   split
   ·refine ab (zlc low hn hz hS' λmain' s'' h''=>am ?_);exact et ps' rfl (by simp) h''
   ·rename_i hc;refine am (et ps' rfl ?_ hS');simp at hc hlen⊢;lia
 ·rintro ⟨main,run⟩ s' ⟨ps',hr,hlen,hS⟩;have:ps'=[]:=by cases ps' with|nil=>rfl|cons _ _=>cases hr
  subst this;refine ab (zlc low hn hz hS λmain' s'' h''=>?_);show let g_:=_;g_;intro g_;obtain ⟨h',tk,done,tr,tt,rfl,hk,hsz,h1,h2,he,hm⟩:=h'';cases h1;cases h2;rcases hm with ⟨rfl,rfl⟩|⟨d,l,rfl,hd0,hD,hT,hdn⟩
  ·exact absurd he.symm (by simpa using hne)
  ·exact am (hQ h' tk d l hd0 hD (by simpa [<-he] using hT) hk)
end
noncomputable def mkCX(prog:Program)(w:World)(mg mb:Str->Option Value)(h₀:Heap)(n₀:Nat)(n4:4<=n₀)(L:Lits)(last: ∃b o,b+1=n₀/\h₀.get? b=some o)(g:h₀.Ns aP mg)(b:h₀.Ns cM mb)(nl:h₀.NoLimit):CX where
 prog:=prog
 w:=w
 mg:=mg
 mb:=mb
 n₀:=n₀
 n4:=n4
 Inv:=λh=>∀b o,b<n₀->h₀.get? b=some o->h.get? b=some o
 L:=L
 keep:=λk i b o hb e=>k b o (.inl hb) (i b o hb e)
 low:=λ{h} i=>by
  refine d9 last λc o e_ e=>?_
  subst e_;exact aB (i c o (fK _) e)
 g:=λ{h} i=>g.at λo e=>i _ o (af (by decide) n4) e
 b:=λ{h} i=>b.at λo e=>i _ o (af (by decide) n4) e
 nolimit:=λ{h} i=>nl.at λo e=>i _ o (af (by decide) n4) e
noncomputable def jar(prog:Program)(w:World)(mg mb:Str->Option Value)(h₀:Heap)(g:h₀.Ns aP mg)(b:h₀.Ns cM mb)(nl:h₀.NoLimit):CX:=mkCX prog w mg mb h₀ 4 (az _) Lits.no (by obtain ⟨o,J,J,e,J⟩:=g;exact (eM 3 o rfl e)) g b nl
theorem zrx(e:s.heap=h₀)(x:Ext0 (jar prog w mg mb h₀ g b nl) s s'): ∀b o,s.heap.get? b=some o->s'.heap.get? b=some o:=λc o h=>by
 rcases lO c 4 with q|q
 ·exact x.inv (λb' o' J e'=>by rw [e];exact e') c o q (e▸h)
 ·exact x.new c o q h
theorem z68:Snd C A s W (eval (.Constant (.int i) k pos) env) (.int i):=λQ E q=>c7 (q _ _ .tok1 gg)
theorem zp7: ∀(l:List (Int×Nat×Pos)) (s:Shared),SndL C A s W (spliced (backTo pos (bY (l.map λx=>.Constant (.int x.1) x.2.1 x.2.2) env))) (l.map λx=>.int x.1):=by
 intro zz;induction zz with
 |nil=>exact λs=>qK
 |cons x l ih=>exact λs=>qV (z68 (k:=x.2.1) (pos:=x.2.2)) λs' J=>ih s'
theorem oX: ∀(L:List Int),jn (L.map PV.int)=some L:=by
 intro zz;induction zz with
 |nil=>exact rfl
 |cons x L ih=>have ih:=ih;unfold jn at ih⊢;rw [ax,fX,ih];rfl
theorem z22: ∀(L:List Int) (k:Int),((bl L.length).map λi=>L.getD i 0).any (· ==k)=L.contains k:=λL k=>by
 have:((bl L.length).map λi=>L.getD i 0)=L:=by
  apply List.ext_getElem
  ·simp
  ·intro i h1 h2;simp at h1;simp [List.getD,h1]
 rw [this,List.contains_eq_any_beq];congr 1;funext x;exact Bool.beq_comm
theorem z23:bB "set" =some (.type "set"):=by decide+kernel
theorem zyi:bB "list" =some (.type "list"):=by decide+kernel
theorem zvg:bB "range" =some (.type "range"):=by decide+kernel
section
variable{prog:Program}{w:World}{A:Around}{E:Value->Shared->Prop}{s:Shared}{mg mb:Str->Option Value}{c F:Addr}
theorem sV(hmod:prog.main.scope.kind= .module)(hd:(x==("__debug__" :Str))=false)(g:s.heap.Ns aP mg)(b:s.heap.Ns cM mb)(h1:mg x=none)(h2:mb x=some v)(q:Q v s): wpAny (model prog w) A (eval (.Name x p) (mainEnv prog c F)) Q E s:=Name_module hmod rfl (gr (env:=mainEnv prog c F) g h1 b h2 q) hd
theorem z24{l:List (Int×Nat×Pos)}{a b:Int}{k1 k2:Nat}{p1 p2 p3 p4 p5 p6 p7 p8 p9 p10:Pos}{Q:Value->Shared->Prop}(hmod:prog.main.scope.kind= .module)(hh:A.handled=none)(g:s.heap.Ns aP mg)(hb:s.heap.Ns cM mb)(nl:s.heap.NoLimit)(tok:0<s.toks)(m1:mg "set" =none)(m2:mg "list" =none)(m3:mg "range" =none)(b1:mb "set" =some (.type "set"))(b2:mb "list" =some (.type "list"))(b3:mb "range" =some (.type "range"))(hr:iW a b 1=true)(hl:l.length+(iK a b 1).length<4000)(h: ∀h' tk d n,(∀b o,s.heap.get? b=some o->h'.get? b=some o)->s.heap.get? d=none-> h'.SetOf (intKind prog w) d (λk=>(l.map (·.1)++(bl (aD a b 1).toNat).map λ(k:Nat)=>a+(k:Int)).contains k) n->Q (.ref d) {s with heap:=h',toks:=tk}): wpAny (model prog w) A (eval (.Call (.Name "set" p1) [.BinOp (.List (l.map λx=>.Constant (.int x.1) x.2.1 x.2.2) p2) .Add (.Call (.Name "list" p3) [.Call (.Name "range" p4) [.Constant (.int a) k1 p5,.Constant (.int b) k2 p6] [] p7] [] p8) p9] [] p10) (mainEnv prog c F)) Q E s:=by
 let C:=jar prog w mg mb s.heap g hb nl
 have low: ∀s':Shared,Ext0 C s s'->C.Inv s'.heap:=λs' x=>x.inv λb o J e=>e
 have at0:At C (λJ=>False) s:=⟨λb o J e=>e,λb h=>h.elim,tok⟩;have sl:Snd C A s (λJ=>False) (eval (.List (l.map λx=>.Constant (.int x.1) x.2.1 x.2.2) p2) (mainEnv prog c F)) (.list (l.map λx=>PV.int x.1)):=λQ E q=>by
  refine fI (zp7 (C:=C) (W:=λJ=>False) l s _ _ λvs s₁ e₁ r_1=>?_);have hl1:(l.map λx=>PV.int x.1).length<=aM:=by rw [aY,av];lia
  exact ⟨by rw [r_1.length];exact hl1,zpp (n:=0) (k:=s₁.toks) (az _) (at0.ext e₁) r_1 hl1 λv s_2 e_2 r_2=>q v s_2 (e₁.trans e_2) r_2⟩
 refine bX (sV hmod (by decide) g hb m1 b1 ?_);refine pw (args:=backTo p10 (bY [.BinOp _ _ _ _] _)) rfl (i7 rfl ?_);refine (qV (C:=C) (W:=λJ=>False) (A:=A) (p:=.list (l.map (λx=>PV.int x.1)++iK a b 1)) (ps:=[]) (λQ E q=>fV ?_) λs' J=>qK) _ _ λvs s₁ e₁ r_1=>?_
 ·refine sl _ _ λv s_2 e_2 r_2=>?_
  have a2:=at0.ext e_2;have in2:=a2.inv;refine bX (sV hmod (by decide) (C.g in2) (C.b in2) m2 b2 ?_);refine pw (args:=backTo p8 (bY [.Call _ _ _ _] _)) rfl (i7 rfl ?_);refine (qV (C:=C) (W:=λJ=>False) (A:=A) (p:=.range a b 1) (ps:=[]) (λQ E q=>?_) λs' J=>qK) _ _ λvs s3 e_3 r_3=>?_
  ·refine bX (sV hmod (by decide) (C.g in2) (C.b in2) m3 b3 ?_);refine pw (args:=backTo p7 (bY [.Constant _ _ _,.Constant _ _ _] _)) rfl (i7 rfl ?_);refine (zp7 (C:=C) (W:=λJ=>False) [(a,k1,p5),(b,k2,p6)] s_2) _ _ λvs s3 e_3 r_3=>?_
   exact (sO (n:="range") (args:=[.int a,.int b]) (zw6 hr) (a2.ext e_3) hh r_3).up _ _ λv s4 e_4 r_4=>q v s4 (e_3.trans e_4) r_4
  ·refine (sO (n:="list") (args:=[.range a b 1]) (z:=.list (iK a b 1)) rfl (a2.ext e_3) hh r_3).up _ _ λv' s4 e_4 r_4=>?_
   refine (qz (op:=.Add) (x:=.list (l.map λx=>PV.int x.1)) (y:=.list (iK a b 1)) (z:=.list (l.map (λx=>PV.int x.1)++iK a b 1)) ?_ ((a2.ext e_3).ext e_4) ((r_2.ext e_3.toExt0).ext e_4.toExt0) r_4).up _ _ λv'' s5 e_5 r_5=>?_
   ·show (if decide ((l.map λx=>PV.int x.1).length+(iK a b 1).length<=16777216)=true then some (PV.list (l.map (λx=>PV.int x.1)++iK a b 1))else none)=_;rw [aY,if_pos (by simp;exact dF (af ‹_› (by decide)))]
   ·exact q v'' s5 (((e_2.trans e_3).trans e_4).trans e_5) r_5
 ·show let g_:=_;g_;intro g_;refine ek (gY r_1) λv u e_ rx r=>?_
  subst e_;obtain rfl:=ir r;refine iJ (iU rx) λad vs n e_ J J ho hrl J=>?_
  subst e_;have hvs:IntsAre vs (l.map (·.1)++(bl (aD a b 1).toNat).map λ(k:Nat)=>a+(k:Int)):=by
   refine qL ?_ hrl;have:(l.map (λx=>PV.int x.1)++iK a b 1)=((l.map (·.1)++(bl (aD a b 1).toNat).map λ(k:Nat)=>a+(k:Int))).map PV.int:=by simp [iK];rfl
   rw [this];exact oX _
  have hsz:vs.length<4000:=by rw [hrl.length,aC,aY];exact hl
  refine call_set_list (items:=vs.toArray) hh ⟨_,ho,rfl,n,rfl⟩ hvs (by unfold scanBound;simp;exact Nat.lt_of_le_of_lt ‹_› (by decide)) λh' tk hS hk=>?_
  have es:({s₁ with heap:=h',toks:=tk}:Shared)={s with heap:=h',toks:=tk}:=by have h1:=e₁.gens;have h2:=e₁.drawn;have h3:=e₁.os;cases s;cases s₁;simp_all
  rw [es];have hkeep:=zrx (s:=s) rfl e₁.toExt0;refine h h' tk _ _ (λc o e=>hk c o (aB (hkeep c o e)) (hkeep c o e)) ?_ (SetOf_congr hS (λk=>?_) rfl)
  ·cases hq:s.heap.get? s₁.heap.objs.size with
   |none=>rfl
   |some o=>exact absurd (aB (hkeep _ _ hq)) (aW _)
  ·have hln:vs.toArray.size=(l.map (·.1)++(bl (aD a b 1).toNat).map λ(k:Nat)=>a+(k:Int)).length:=by rw [bI];exact IntsAre.length hvs
   rw [firstMet_any,hln,z22]
end
noncomputable abbrev Fact:=Addr->Value->Heap->Prop
def mE(P:Fact):Prop:=∀Pl v h h',(∀b o,b≠Pl->b≠aP->h.get? b=some o->h'.get? b=some o)->P Pl v h->P Pl v h'
structure iZ(h₀:Heap)(mg0:Str->Option Value)(c Pl:Addr)(s:Shared)(mg:Str->Option Value)(poss:List (Nat×Nat))(facts:List (Str×Fact))(names:List Str):Prop where
 main: ∃l:List (Pos×Addr),s.heap.Main mg c Pl (triples l).toArray/\poss=l.map λx=>(x.1.line,x.1.col)
 keep: ∀b o,b≠Pl->b≠aP->h₀.get? b=some o->s.heap.get? b=some o
 held: ∀p∈facts,∃v,mg p.1=some v/\p.2 Pl v s.heap
 stab: ∀p∈facts,mE p.2
 fnames: ∀p∈facts,p.1∈names
 others: ∀x,x∉names->mg x=mg0 x
 tok:0<s.toks
inductive jas(d:DefRec)(Pl:Addr)(v:Value)(h:Heap):Prop where
 |mk (a:Addr) (o:Obj) (pm:Value) (code:Addr) (doc:Value) (P:Addr) (e:v= .ref a) (n1:a≠Pl) (n2:a≠aP) (ho:h.get? a=some o) (hd:o.data= .func (d.data pm (.ref code) doc)) (hc:h.CodeRec (.ref code) d.name) (n3:code≠Pl) (n4:code≠aP)
  (hh:CodeHd h code P) (hP:h.get? P=some (tabObj #[])) (n5:P≠Pl) (n6:P≠aP)
noncomputable abbrev nh(d:DefRec):Fact:=jas d
theorem qT(x:CodeHd h c P)(k: ∀o,h.get? c=some o->h'.get? c=some o):CodeHd h' c P:=by obtain ⟨o,vs,file,tf,flags,tg,inF,text,tt,e,r⟩:=x;exact ⟨o,vs,file,tf,flags,tg,inF,text,tt,k _ e,r⟩
theorem zoe(d:DefRec):mE (nh d):=λPl v h h' k z=>by obtain ⟨a,o,pm,code,doc,P,e,n1,n2,ho,hd,hc,n3,n4,hh,hP,n5,n6⟩:=z;exact ⟨a,o,pm,code,doc,P,e,n1,n2,k _ _ n1 n2 ho,hd,hc.at λo=>k _ o n3 n4,n3,n4,qT hh λo=>k _ o n3 n4,k _ _ n5 n6 hP,n5,n6⟩
theorem z69{M:Model}{A:Around}{E:Value->Shared->Prop}{s:Shared}{prog:Program}{c Pl F:Addr}{d:DefRec}{mg}{ps:Array Value}{Q:Flow->Shared->Prop}(hd:d.Plain prog)(hmod:prog.main.scope.kind= .module)(hm:s.heap.Main mg c Pl ps)(hnf:iD d.pos ps.toList=none)(h: ∀a c' doc h' tk,s.heap.objs.size<=a->h'.Main (λx=>if x=d.name then some (.ref a)else mg x) c Pl (ps++ #[rawInt d.pos.line,rawInt d.pos.col,.ref c'])-> h'.get? a=some {cls:=.type "function",data:=.func (d.data ((mg "__name__").getD .none) (.ref c') doc)}->(s.heap.objs.size<=c'/\h'.CodeRec (.ref c') d.name)->(∃P',s.heap.objs.size<=P'/\h'.IsCode c' P' #[]/\h'.TableAt c' P' #[])-> (∀b o,b≠Pl->b≠aP->s.heap.get? b=some o->h'.get? b=some o)->Q .next {s with heap:=h',toks:=tk}): wpAny M A (exec d.stmt (mainEnv prog c F)) Q E s:=by
 cases hdoc:docOf d.body with
 |none=>exact wpAny_plainDefN hd.tree hd.free hdoc hd.loc hd.qual hm (λa c' h' tk ha hm' hf hc ht keep=>h a c' .none h' tk ha hm' hf hc ht keep) hd.nb hmod hnf
 |some t=>exact plainDef_docN hd.tree hd.free hdoc hd.loc hd.qual hm (λa c' tk0 h' tk ha hm' hf hc ht keep=>h a c' (.str t tk0) h' tk ha hm' hf hc ht keep) hd.nb hmod hnf
noncomputable def nv(i:Int):Fact:=λJ v J=>∃t,v= .int i t
theorem zmg(i:Int):mE (nv i):=λJ J J J J h=>h
noncomputable def sK(Q:Addr->Heap->Prop):Fact:=λPl v h=>∃a,v= .ref a/\a≠Pl/\a≠aP/\Q a h
theorem zg6(hq: ∀a h h',(∀o,h.get? a=some o->h'.get? a=some o)->Q a h->Q a h'):mE (sK Q):=λPl v h h' k z=>by
 refine n9 z λa e n1 n2 q=>?_
 exact k6 a e n1 n2 (hq a h h' (λo=>k a o n1 n2) q)
structure kC(s s':Shared):Prop where
 gens:s'.gens=s.gens
 drawn:s'.drawn=s.drawn
 os:s'.os=s.os
section
variable{prog:Program}{w:World}{A:Around}{E:Value->Shared->Prop}{s:Shared}{c Pl F:Addr}{h₀:Heap}{mg0 mg:Str->Option Value}{poss:List (Nat×Nat)}{facts:List (Str×Fact)}{names:List Str}
theorem z7a{d:DefRec}{Q:Flow->Shared->Prop}(hd:d.Plain prog)(hmod:prog.main.scope.kind= .module)(T:iZ h₀ mg0 c Pl s mg poss facts names)(hn:(facts.map (·.1)).contains d.name=false)(hp:poss.contains (d.pos.line,d.pos.col)=false)(q: ∀s' mg',iZ h₀ mg0 c Pl s' mg' (poss++ [(d.pos.line,d.pos.col)]) ((d.name,nh d)::facts) (d.name::names)->kC s s'->Q .next s'): wpAny (model prog w) A (exec d.stmt (mainEnv prog c F)) Q E s:=by
 show let g_:=_;g_;intro g_;refine aN T.main λl hm e_=>?_
 subst e_;refine bP (az s.toks) (z69 hd hmod hm ?_ λa c' doc h' tk ha hm' hf hc ⟨P',hP1,hP2,hP3⟩ keep htk=>?_)
 ·rw [List.toList_toArray];refine codeAmong_triples _ _ λx hx e=>?_
  have:(l.map λx=>(x.1.line,x.1.col)).contains (d.pos.line,d.pos.col)=true:=by rw [cJ];exact bg.mpr (bK x hx (by rw [e.1,e.2]))
  rw [hp]at this;exact ft this
 ·have hPl:Pl<s.heap.objs.size:=hm.code.lt.2;have hG:=hm.g.lt;refine q _ _ ⟨(bK (l++ [(d.pos,c')]) (by rw [triples_append];simpa using hm') (by simp)),λb o h1 h2 e=>keep b o h1 h2 (T.keep b o h1 h2 e),?_,?_,?_,?_,af T.tok htk⟩ ⟨rfl,rfl,rfl⟩
  ·intro p hp';rcases aw.mp hp' with rfl|hp'
   ·refine ⟨.ref a,by simp,a,_,_,c',doc,P',rfl,b9 (af hPl ha),b9 (af hG ha),hf,rfl,hc.2,b9 (af hPl hc.1),b9 (af hG hc.1),CodeHd.of hP2 hP3,hP3.2,b9 (af hPl hP1),b9 (af hG hP1)⟩
   ·refine aN (T.held p hp') λv hv hP=>?_
    refine bK v ?_ (T.stab p hp' _ _ _ _ keep hP);rw [if_neg]
    ·exact hv
    ·intro e;have:(facts.map (·.1)).contains d.name=true:=by rw [cJ];exact bg.mpr (bK p hp' e)
     rw [hn]at this;exact ft this
  ·intro p hp';rcases aw.mp hp' with rfl|hp'
   ·exact zoe d
   ·exact T.stab p hp'
  ·intro p hp';rcases aw.mp hp' with rfl|hp'
   ·exact ag
   ·exact ah _ (T.fnames p hp')
  ·intro x hx;rw [if_neg (λe=>hx (by rw [e];exact ag))];exact T.others x λh=>hx (ah _ h)
theorem qw(hmod:prog.main.scope.kind= .module)(hloc:prog.main.scope.names.lookup x=some .local)(hnb:x≠ "__builtins__")(T:iZ h₀ mg0 c Pl s mg poss facts names)(hn:(facts.map (·.1)).contains x=false)(st:mE P)(hs:swapsWith value (some (.Name x pos')) pos.line (mainEnv prog c F)=pure false)(hval: ∀Q' E':Value->Shared->Prop,(∀v s',(∀b o,s.heap.get? b=some o->s'.heap.get? b=some o)->kC s s'->(∀h',(∀b o,b≠Pl->b≠aP->s'.heap.get? b=some o->h'.get? b=some o)->P Pl v h')->Q' v s')->wpAny (model prog w) A (eval value (mainEnv prog c F)) Q' E' s)(q: ∀s' mg',iZ h₀ mg0 c Pl s' mg' poss ((x,P)::facts) (x::names)->kC s s'->Q .next s'): wpAny (model prog w) A (exec (.Assign [.Name x pos'] value pos) (mainEnv prog c F)) Q E s:=by
 refine bP (az s.toks) (dp (hval _ _ λv s₁ hk_1 r_1 hP=>?_) hs);refine aN T.main λl hm e_=>?_
 subst e_;refine eB (env:=mainEnv prog c F) hloc (hm.g.keeps hk_1) (λh' hg' hs' htk=>?_)
  (by show (prog.main.scope.kind== .class||(prog.main.scope.kind== .module&&aP !=aP))=false;rw [hmod];rfl)
 show let g_:=_;g_;intro g_;obtain ⟨bm,o,hbm,hne0,hneG,hneP,hbo,hrest⟩:=hm.bmod;have keep': ∀b o,b≠Pl->b≠aP->s₁.heap.get? b=some o->h'.get? b=some o:=λb o J hG e=>(hs'.2 _ hG).trans e
 have keep: ∀b o,b≠Pl->b≠aP->s.heap.get? b=some o->h'.get? b=some o:=λb o h1 h2 e=>keep' b o h1 h2 (hk_1 b o e)
 refine q _ _ ⟨⟨l,⟨hg',(hm.code.keeps hk_1).sameBut hs' (b9 hm.low.1) (b9 hm.low.2),hm.low,
   (iX bm o (by simp only [dh hnb,if_false];exact hbm) hne0 hneG hneP ((hs'.2 _ hneG).trans (hk_1 _ _ hbo)) hrest)⟩,rfl⟩,λb o h1 h2 e=>keep b o h1 h2 (T.keep b o h1 h2 e),?_,?_,?_,?_,af T.tok htk⟩ ⟨r_1.gens,r_1.drawn,r_1.os⟩
 ·intro p hp';rcases aw.mp hp' with rfl|hp'
  ·exact bK v (by simp) (hP _ keep')
  ·show let g_:=_;g_;intro g_;refine aN (T.held p hp') λv' hv hP'=>?_
   refine bK v' ?_ (T.stab p hp' _ _ _ _ keep hP');rw [if_neg]
   ·exact hv
   ·intro e;have:(facts.map (·.1)).contains x=true:=by rw [cJ];exact bg.mpr (bK p hp' e)
    rw [hn]at this;exact ft this
 ·intro p hp';rcases aw.mp hp' with rfl|hp'
  ·exact st
  ·exact T.stab p hp'
 ·intro p hp';rcases aw.mp hp' with rfl|hp'
  ·exact ag
  ·exact ah _ (T.fnames p hp')
 ·intro y hy;rw [if_neg (λe=>hy (by rw [e];exact ag))];exact T.others y λh=>hy (ah _ h)
theorem iZ.drop(T:iZ h₀ mg0 c Pl s mg poss (p::facts) names):iZ h₀ mg0 c Pl s mg poss facts names:=⟨T.main,T.keep,λq hq=>T.held q (ah _ hq),λq hq=>T.stab q (ah _ hq),λq hq=>T.fnames q (ah _ hq),T.others,T.tok⟩
theorem kC.trans{a b c:Shared}(x:kC a b)(y:kC b c):kC a c:=⟨y.gens.trans x.gens,y.drawn.trans x.drawn,y.os.trans x.os⟩
theorem z25(hmod:prog.main.scope.kind= .module)(hloc:prog.main.scope.names.lookup x=some .local)(hnb:x≠ "__builtins__")(T:iZ h₀ mg0 c Pl s mg poss facts names)(hn:(facts.map (·.1)).contains x=false)(q: ∀s' mg',iZ h₀ mg0 c Pl s' mg' poss facts (x::names)->kC s s'->Q .next s'): wpAny (model prog w) A (exec (.Assign [.Name x p'] (.Constant (.str y) k p_1) pos) (mainEnv prog c F)) Q E s:=qw (P:=λJ J J=>True) hmod hloc hnb T hn (λJ J J J J h=>h) rfl (λQ' E' h=>Constant_str (h _ _ (λJ J e=>e) ⟨rfl,rfl,rfl⟩ λJ J=>trivial)) λs' mg' T' r=>q s' mg' T'.drop r
theorem z7b(hmod:prog.main.scope.kind= .module)(hloc:prog.main.scope.names.lookup x=some .local)(hnb:x≠ "__builtins__")(T:iZ h₀ mg0 c Pl s mg poss facts names)(hn:(facts.map (·.1)).contains x=false)(q: ∀s' mg',iZ h₀ mg0 c Pl s' mg' poss ((x,nv i)::facts) (x::names)->kC s s'->Q .next s'): wpAny (model prog w) A (exec (.Assign [.Name x p'] (.Constant (.int i) k p_1) pos) (mainEnv prog c F)) Q E s:=qw (P:=nv i) hmod hloc hnb T hn (zmg i) rfl (λQ' E' h=>c7 (h _ _ (λJ J e=>e) ⟨rfl,rfl,rfl⟩ λJ J=>⟨_,rfl⟩)) q
end
theorem zyj(env:Env): ∀as:List Arg,(as.all (·.annotation.isNone))=true->iM as env=[]:=by
 intro as;induction as with
 |nil=>exact λJ=>rfl
 |cons a r ih=>
  intro h;obtain ⟨n,o,p⟩:=a;cases o with
  |none=>exact ih (aF.mp h).2
  |some a=>exact ft (aF.mp h).1
noncomputable def zp8(a:Arguments):Bool:=a.posonlyargs.isEmpty&&(a.vararg.isNone&&(a.kwonlyargs.isEmpty&&(a.kw_defaults.isEmpty&&(a.kwarg.isNone&&(a.defaults.isEmpty&&a.args.all (·.annotation.isNone))))))
theorem tO(h:zp8 params=true):PlainDefTree name params body scope pos:=by
 obtain ⟨po,as,va,ko,kd,kw,df⟩:=params;cases po with
 |cons=>exact ft h
 |nil=>cases va with
 |some=>exact ft h
 |none=>cases ko with
 |cons=>exact ft h
 |nil=>cases kd with
 |cons=>exact ft h
 |nil=>cases kw with
 |some=>exact ft h
 |none=>cases df with
 |cons=>exact ft h
 |nil=>
  intro env;have e:(λe=>iM (as++ []++(none:Option Arg).toList++ []++(none:Option Arg).toList) e++((evalOpt none e).map ((("return" :Str),·))).toList)=λJ=>[]:=by funext e;show iM (as++ []++ []++ []++ []) e++ []=[];rw [cC,cC,cC,cC,cC,zyj e as h]
  show defStmt name name ⟨[],as,none,[],[],none,[]⟩ body scope pos env [] none [] [] (defaultsOf ⟨[],as,none,[],[],none,[]⟩ env) (λe=>iM (as++ []++(none:Option Arg).toList++ []++(none:Option Arg).toList) e++((evalOpt none e).map ((("return" :Str),·))).toList) (.FunctionDef name ⟨[],as,none,[],[],none,[]⟩ body [] none [] scope none name pos)=_;rw [e];rfl
noncomputable def uO(p:Program)(d:DefRec):Bool:=zp8 d.params&&d.scope.names.all (λx=>x.2 != .free)&&p.main.scope.names.lookup d.name==some .local&&
 (qualnameIn {scope:=p.main.scope,locals:=aP,globals:=aP,cells:=[]} d.name d.name==d.name)&&d.name != "__builtins__"
theorem zrz(h:uO p d=true):d.Plain p:=by simp only [uO,an,aj,bne_iff_ne,beq_iff_eq]at h;obtain ⟨⟨⟨⟨h1,h2⟩,h3⟩,h4⟩,h5⟩:=h;exact ⟨tO h1,λx hx=>h2 x hx,h3,h4,h5⟩
theorem zvh(hop:opening p=plainProg p.main.scope.names):(∃s,AfterRun (opening p) w s)/\ ∀s,AfterRun (opening p) w s->s.gens= #[]/\0<s.toks/\ ∃mb mg c Pl,BootLeft9 (opening p) s.heap mb mg c Pl:=by
 have hbody:(opening p).main.body=[]:=by rw [hop];rfl
 have hmore:(opening p).main.more=[]:=by rw [hop];rfl
 have h9:(∃s,AfterImport (opening p) w s)/\ ∀s,AfterImport (opening p) w s->s.gens= #[]/\ ∃mb mg c Pl,BootLeft9 (opening p) s.heap mb mg c Pl:=
  AfterImport.of_wp (wpAny_boot9 (M:=model (opening p) w) (A:={}) (E:=λJ J=>False) (opening p) (λs'=>(s'.gens= #[]/\ ∃mb mg c Pl,BootLeft9 (opening p) s'.heap mb mg c Pl)/\s'.gens= #[])
   (λhp tk mb mg c Pl F hB=>by rw [hbody];exact codeAny_body rfl rfl (cz ⟨⟨_,rfl⟩,⟨rfl,mb,mg,c,Pl,hB⟩,rfl⟩)) hmore _ default boot_in)
 refine ⟨h9.1,λs hs=>?_⟩;refine xA (h9.2 s hs) λhg hB=>?_
 refine ⟨hg,?_,hB⟩;have hb:=boot_plain w p.main.scope.names;rw [<-hop]at hb;refine aN (ba.mp hb) λs' hs' hv=>?_
 rw [<-table_eq_tree]at hs';have e:=AfterImport.unique (AfterImport.of_importEnds hs') hs;subst e;have:s'.toks=boot_toks:=congrArg (λx=>x.2.2.2) hv;rw [this];decide
structure z5l(p:Program)(s₁:Shared)(mg mb:Str->Option Value)(facts:List (Str×Fact)):Prop where
 asleep:s₁.asleep
 gens:s₁.gens= #[]
 g:s₁.heap.Ns aP mg
 b:s₁.heap.Ns cM mb
 blt: ∀x:Str,x≠ "__name__" ->mb x=bB x
 nolimit:s₁.heap.NoLimit
 tok:0<s₁.toks
 bmain:BMain s₁.heap mg
 mods: ∃mm,s₁.heap.Ns du mm
 statics:s₁.heap.Ns cStatics λJ=>none
 held: ∀q∈facts,∃v Pl,mg q.1=some v/\q.2 Pl v s₁.heap
theorem z26(hop:opening p=plainProg p.main.scope.names)(hbeh:gT p=p.main.body)(hf: ∀s,fenceModules? p s=some s)(hann:hasAnns p.main.body=false)(hdoc:docOf p.main.body=none)(hnm:names.all p.boundNames.contains=true)(hnm2:bootMainNames.all (startupNames.contains)=true)(hlaid:laidNames.all (λx=>!names.contains x)=true)(walk: ∀(s:Shared) (mg mb:Str->Option Value) (c Pl F:Addr) (Q:Flow->Shared->Prop),iZ s.heap mg c Pl s mg [] [] []->s.heap.Ns cM mb->(∀x:Str,x≠ "__name__" ->mb x=bB x)->s.heap.NoLimit->(∀x,x∉gH->mg x=none)->(∃mm,s.heap.Ns du mm)-> (∀s' mg' poss,iZ s.heap mg c Pl s' mg' poss facts names->kC s s'->Q .next s')->wpAny (model p w) (callerA.deeper (mainEnv p c F)) (execs p.main.body (mainEnv p c F)) Q (λJ J=>False) s): (∃s,AfterRun (opening p) w s)/\ ∀s,AfterRun (opening p) w s-> ∃s0,fenceModules? p s=some s0/\s0.gens= #[]/\ ∃s₁,TopRan p w s0 s₁/\ ∃mg mb,z5l p s₁ mg mb facts:=by
 refine xA (zvh (w:=w) hop) λhex hall=>?_
 refine ⟨hex,λs hs=>(et s (hf s) ((hall s hs).1) ?_)⟩;show let g_:=_;g_;intro g_;obtain ⟨hg,ht,mb,mg,c_0,Pl0,B⟩:=hall s hs;have hz:=AfterImport.life hs;have key:=zmf (prog:=p) (w:=w) (s:=s) (t:=(topStub p).cur) (R:=λs'=>s'.os=s.os/\ ∃mg' c Pl poss,s.heap.get? c=none/\s.heap.get? Pl=none/\iZ s.heap mg c Pl s' mg' poss facts names) hz ?_
 ·show let g_:=_;g_;intro g_;obtain ⟨n,s',t',hsch,hthr,hlife,⟨hos,mg',c,Pl,poss,hc,hP,T⟩,hgens⟩:=key;refine aN T.main λl hm J=>?_
  have keep: ∀b o,b≠aP->s.heap.get? b=some o->s'.heap.get? b=some o:=λb o h1 e=>T.keep b o (λh=>by rw [h,hP]at e;exact cu e) h1 e
  have b':=B.b.at λo=>keep _ o (by decide)
  have st':=B.statics.at λo=>keep _ o (by decide)
  have gl: ∀x,globalOf s'.heap x=mg' x:=λx=>eP hm.g x
  have bm: ∃bm o,mg' "__builtins__" =some (.ref bm)/\s'.heap.get? bm=some o/\o.cls= .type "module" /\o.dict=some cM:=by show let g_:=_;g_;intro g_;obtain ⟨bm,o,h1,h2,h3,h4,h5,h6,h7,h8⟩:=hm.bmod;exact jK bm o h1 h5 h6 h7
  refine ⟨s',⟨(eM n t' hsch hthr),hlife,Shared.rest_eq hos,λb o e hn=>keep b o (λh=>hn (.inl h)) e,?_,?_,PySem.Pin.keysAreStrs_of_ns hm.g,?_,?_,?_,?_,?_⟩,mg',mb,
   ⟨Shared.asleep_of_life hlife hz,hgens,hm.g,b',B.builtins,Heap.NoLimit.at (bK _ B.statics rfl) λo=>keep _ o (by decide),T.tok,(by obtain ⟨bm,o,h1,h2,J,J,h5,h6,h7,h8⟩:=hm.bmod;exact (iX bm o h1 h2 h5 h6 h7 h8)),?_,st',λq hq=>by obtain ⟨v,h1,h2⟩:=T.held q hq;exact (eM v Pl h1 h2)⟩⟩
  ·intro key v hv;rw [jN st']at hv;exact cu hv
  ·intro key;exact .inl (by rw [jN st',jN B.statics])
  ·intro x hx;rw [PySem.Pin.builtinOf_of_ns b'];exact B.builtins x hx
  ·refine jL bm λbm o h1 h2 h3 h4=>?_
   exact jK bm o ((gl _).trans h1) h2 h3 h4
  ·intro g hg';rw [hgens]at hg';simp at hg'
  ·intro x v hv;rw [gl]at hv;by_cases hx:x∈names
   ·exact .inr (cJ.mp (aj.mp hnm x hx))
   ·rw [T.others x hx]at hv;by_cases hy:x∈gH
    ·exact .inl (cJ.mp (aj.mp hnm2 x hy))
    ·rw [B.others x hy]at hv;exact cu hv
  ·intro x hx;rw [gl,(λx=>eP B.g x)];have:=aj.mp hlaid x hx;refine T.others x λh=>?_
   rw [cJ.mpr h]at this;exact ft this
  ·refine aN B.noPylong λmm hmm J=>?_
   exact ⟨mm,hmm.at λo=>keep _ o (by decide)⟩
 ·show wpAny _ _ (do
   let code<-moduleCode p.main
   let frame<-newBodyFrame code mainNs mainNs
   let _<-run (.body (gT p) {scope:=p.main.scope,locals:=mainNs,globals:=mainNs,cells:=[],code,frame:=some frame})
   ret .none) _ _ s
  show let z_:=_;let y_:=_;wpAny _ _ _ z_ y_ _;intro z_ y_;refine ab (bP (az s.toks) (wpAny_moduleCode λc Pl h_1 tk_1 hk_1 hc hP hcode htk=>?_));have g_1:=B.g.keeps hk_1;refine ab (ab (wpAny_nsGet g_1 (wpAny_alloc ?_)));have hlt: ∀b o,s.heap.get? b=some o->b<s.heap.objs.size:=λb o e=>aB e
  have hk_2: ∀b o,s.heap.get? b=some o-> ∀o',(h_1.push o').get? b=some o:=λb o e o'=>aq _ (hk_1 b o e)
  have fresh: ∀b,s.heap.objs.size<=b->s.heap.get? b=none:=λb hb=>by
   cases hq:s.heap.get? b with
   |none=>rfl
   |some o=>exact absurd (hlt b o hq) (pJ.mpr hb)
  rw [hbeh];refine ab (wpAny_run (codeAny_body hann hdoc (bE (walk _ mg mb c Pl _ _ ⟨(bK [] ⟨g_1.push _,hcode.push _,⟨af B.g.lt hc,af B.g.lt hP⟩,?_⟩ rfl),λJ J J J e=>e,(λJ h=>nomatch h),(λJ h=>nomatch h),(λJ h=>nomatch h),λJ J=>rfl,?_⟩ ?_ B.builtins ?_ B.others ?_ λs' mg' poss T r=>?_) (λJ J x=>x) λJ J x=>x.elim)))
  ·show let g_:=_;g_;intro g_;obtain ⟨bm,o,h1,h2,h3,h4,h5,h6⟩:=B.bmod;exact iX bm o h1 h2 h3 (bG (af (hlt _ _ h5) hP)) (hk_2 _ _ h5 _) h6
  ·exact af ht htk
  ·exact B.b.at λo e=>hk_2 _ _ e _
  ·exact Heap.NoLimit.at (bK _ B.statics rfl) λo e=>hk_2 _ _ e _
  ·refine aN B.noPylong λmm hmm J=>?_
   exact ⟨mm,hmm.at (h':=h_1.push _) λo e=>hk_2 _ _ e _⟩
  ·refine am (et _ rfl ⟨r.os,mg',c,Pl,poss,fresh c hc,fresh Pl hP,⟨T.main,λb o h1 h2 e=>T.keep b o h1 h2 (hk_2 b o e _),T.held,T.stab,T.fnames,T.others,T.tok⟩⟩ (r.gens.trans hg))
end Mine.Internal
namespace Mine.Internal
open PySem PySem.W PySem.Calls PyProof.Rows PySem.Challenge
set_option genCtorIdx true in
inductive Step
 |fn (d:DefRec)
 |txt (x:Str)
 |int (x:Str) (i:Int)
 |set (x:Str) (ks:List Int)
 |dict (x:Str) (tbl:List (Int×Str))
inductive Tree
 |fn (d:DefRec)
 |txt (x t:Str) (k:Nat) (px pc pos:Pos)
 |int (x:Str) (i:Int) (k:Nat) (px pc pos:Pos)
 |set (x:Str) (li:List (Int×Nat×Pos)) (a b:Int) (ka kb:Nat) (px p1 p2 p3 p4 p5 p6 p7 p8 p9 p10 pos:Pos)
 |dict (x:Str) (l:List ((Int×Nat×Pos)×(Str×Nat×Pos))) (px pd pos:Pos)
noncomputable def intE(x:Int×Nat×Pos):Expr:=.Constant (.int x.1) x.2.1 x.2.2
noncomputable def strE(x:Str×Nat×Pos):Expr:=.Constant (.str x.1) x.2.1 x.2.2
noncomputable def Tree.stmt:Tree->Stmt
 | .fn d=>.FunctionDef d.name d.params d.body [] none [] d.scope none d.name d.pos
 | .txt x t k px pc pos=>.Assign [.Name x px] (.Constant (.str t) k pc) pos
 | .int x i k px pc pos=>.Assign [.Name x px] (.Constant (.int i) k pc) pos
 | .set x li a b ka kb px p1 p2 p3 p4 p5 p6 p7 p8 p9 p10 pos=>.Assign [.Name x px] (.Call (.Name "set" p1) [.BinOp (.List (li.map intE) p2) .Add (.Call (.Name "list" p3) [.Call (.Name "range" p4) [.Constant (.int a) ka p5,.Constant (.int b) kb p6] [] p7] [] p8) p9] [] p10) pos
 | .dict x l px pd pos=>.Assign [.Name x px] (.Dict (l.map λq=>some (intE q.1)) (l.map λq=>strE q.2) pd) pos
noncomputable def intsOf(l:List Expr):List (Int×Nat×Pos):=l.filterMap λe=>rP e λi k p=>some (i,k,p)
noncomputable def strsOf(l:List Expr):List (Str×Nat×Pos):=l.filterMap λe=>onStr e λi k p=>some (i,k,p)
noncomputable def z7d(x:Str)(px pos:Pos)(e:Expr):Option Tree:=
 (sr e λf a p10=>qe f λJ p1=>on1 a λe=>jcq e λl r p9=>z9i l λes p2=>sr r λf a p8=>qe f λJ p3=>on1 a λe=>sr e λf a p7=>qe f λJ p4=>rP (a.headD e) λa' ka p5=>on1 a.tail λv=>rP v λb kb p6=>some (.set x (intsOf es) a' b ka kb px p1 p2 p3 p4 p5 p6 p7 p8 p9 p10 pos))<|>
 (rP e λi k pc=>some (.int x i k px pc pos))<|>(onStr e λt k pc=>some (.txt x t k px pc pos))<|>z9j e λks vs pd=>some (.dict x ((intsOf (ks.filterMap id)).zip (strsOf vs)) px pd pos)
noncomputable def treeOf(t:Stmt):Option Tree:=((z9h t).map .fn)<|>if h:t.ctorIdx=5 then Stmt.Assign.elim (motive_2:=λJ=>Option Tree) t h λts v pos=>on1 ts λe=>qe e λx px=>z7d x px pos v else none
noncomputable def Tree.step:Tree->Step
 | .fn d=>.fn d
 | .txt x _ _ _ _ _=>.txt x
 | .int x i _ _ _ _=>.int x i
 | .set x li a b _ _ _ _ _ _ _ _ _ _ _ _ _ _=>.set x (li.map (·.1)++(bl (aD a b 1).toNat).map λ(k:Nat)=>a+(k:Int))
 | .dict x l _ _ _=>.dict x (l.map λq=>(q.1.1,q.2.1))
noncomputable def kvP(env:Env)(pos:Pos)(q:(Int×Nat×Pos)×(Str×Nat×Pos)):Sem Value×Sem Value:=(eval (intE q.1) env,do let x<-eval (strE q.2) env;standAt pos;pure x)
theorem zr0(env:Env)(pos:Pos): ∀l:List ((Int×Nat×Pos)×(Str×Nat×Pos)),jE (l.map (kvP env pos)) (l.map λq=>(q.1.1,q.2.1))/\ (evalEachOpt (l.map λq=>some (intE q.1)) env).zip ((evalEach (l.map λq=>strE q.2) env).map λv=>do let x<-v;standAt pos;pure x)=(l.map (kvP env pos)).map λp=>(some p.1,p.2):=by
 intro zz;induction zz with
 |nil=>exact ⟨.nil,rfl⟩
 |cons q l ih=>obtain ⟨g1,g2⟩:=ih;refine ⟨.cons (λM A Q E s q=>c7 (q _ _)) (λM A Q E s q=>ab (Constant_str (ab (bf (am (q _ _)))))) g1,?_⟩;rw [ax,ax,arm_evalEachOpt_cons,arm_evalEach_cons,arm_evalOpt_some,ax,eh,g2];rfl
noncomputable def rising:List Int->Bool
 |a::b::r=>decide (a<b)&&rising (b::r)
 |_=>true
theorem zyk(a b:Int)(r:List Int):rising (a::b::r)=(decide (a<b)&&rising (b::r)):=rfl
theorem zyl: ∀{l:List Int} {a:Int},rising (a::l)=true-> ∀b∈l,a<b:=by
 intro zz;induction zz with
 |nil=>intro a J b h;simp at h
 |cons c l ih=>
  intro a hr b h;rw [zyk,an,decide_eq_true_eq]at hr;rcases aw.mp h with rfl|h
  ·exact hr.1
  ·exact Int.lt_trans hr.1 (ih hr.2 b h)
theorem zr1(h:rising (a::l)=true):rising l=true:=by
 cases l with
 |nil=>rfl
 |cons b r=>rw [zyk,an]at h;exact h.2
theorem zj3: ∀{l:List Int},rising l=true->l.Nodup:=by
 intro zz;induction zz with
 |nil=>exact λJ=>List.nodup_nil
 |cons a l ih=>exact λh=>dd.mpr ⟨λhm=>Int.lt_irrefl _ (zyl h a hm),ih (zr1 h)⟩
noncomputable def Tree.ok:Tree->Bool
 | .set _ li a b _ _ _ _ _ _ _ _ _ _ _ _ _ _=>iW a b 1&&decide (li.length+(iK a b 1).length<4000)
 | .dict _ l _ _ _=>rising (l.map λq=>q.1.1)&&decide (l.length<=4000)&&!l.isEmpty
 |_=>true
noncomputable def nu(prog:Program)(w:World)(ks:List Int):Fact:=sK λa h=>∃n,h.SetOf (intKind prog w) a (λk=>ks.contains k) n
noncomputable def nB(prog:Program)(w:World)(tbl:List (Int×Str)):Fact:=sK λa h=>∃l,h.DictOf (intKind prog w) a l/\ja l tbl/\a≠du
theorem zmh:mE (nu prog w ks):=zg6 λa h h' k z=>by obtain ⟨n,o,es,ep,t,ho,r⟩:=z;exact ⟨n,o,es,ep,t,k o ho,r⟩
theorem zle:mE (nB prog w tbl):=zg6 λa h h' k z=>by obtain ⟨l,⟨o,es,ep,ho,r⟩,t⟩:=z;exact bK l (gz o es ep (k o ho) r) t
noncomputable def Step.name:Step->Str
 | .fn d=>d.name
 | .txt x=>x
 | .int x _=>x
 | .set x _=>x
 | .dict x _=>x
noncomputable def Step.facts(prog:Program)(w:World):Step->List (Str×Fact)
 | .fn d=>[(d.name,nh d)]
 | .txt _=>[]
 | .int x i=>[(x,nv i)]
 | .set x ks=>[(x,nu prog w ks)]
 | .dict x tbl=>[(x,nB prog w tbl)]
noncomputable def Step.keys:Step->List Str
 | .txt _=>[]
 |st=>[st.name]
theorem Step.facts_keys(prog:Program)(w:World)(st:Step):(st.facts prog w).map (·.1)=st.keys:=by cases st<;>rfl
noncomputable def Step.poss:Step->List (Nat×Nat)
 | .fn d=>[(d.pos.line,d.pos.col)]
 |_=>[]
noncomputable def okFn(p:Program)(poss:List (Nat×Nat)):Step->Bool
 | .fn d=>uO p d&&!poss.contains (d.pos.line,d.pos.col)
 |_=>true
noncomputable def pY(p:Program)(poss:List (Nat×Nat))(keys:List Str)(st:Step):Bool:=!keys.contains st.name&&(p.main.scope.names.lookup st.name==some .local&&(st.name != "__builtins__" &&(st.name != "set" &&(st.name != "list" &&(st.name != "range" &&okFn p poss st)))))
inductive jat(p:Program)(poss:List (Nat×Nat))(keys:List Str)(st:Step):Prop where
 |mk (k1:keys.contains st.name=false) (k2:p.main.scope.names.lookup st.name=some .local) (k3:st.name≠ "__builtins__") (n1:st.name≠ "set") (n2:st.name≠ "list") (n3:st.name≠ "range") (k4:okFn p poss st=true)
theorem nott(h:(!b)=true):b=false:=by cases b with
 |false=>rfl
 |true=>exact ft h
theorem zm5{p:Program}{poss:List (Nat×Nat)}{keys:List Str}{st:Step}(h:pY p poss keys st=true):jat p poss keys st:=by have h1:=aF.mp h;have h2:=aF.mp h1.2;have h3:=aF.mp h2.2;have h4:=aF.mp h3.2;have h5:=aF.mp h4.2;have h6:=aF.mp h5.2;exact ⟨nott h1.1,dw h2.1,bne_iff_ne.mp h3.1,bne_iff_ne.mp h4.1,bne_iff_ne.mp h5.1,bne_iff_ne.mp h6.1,h6.2⟩
noncomputable def oz(p:Program):List (Nat×Nat)->List Str->List Step->Bool
 |_,_,[]=>true
 |poss,keys,st::r=>pY p poss keys st&&oz p (poss++st.poss) (st.keys++keys) r
theorem z27(p:Program)(poss:List (Nat×Nat))(keys:List Str)(st:Step)(r:List Step):oz p poss keys (st::r)=(pY p poss keys st&&oz p (poss++st.poss) (st.keys++keys) r):=rfl
noncomputable def mf(prog:Program)(w:World):List Step->List (Str×Fact)->List (Str×Fact)
 | [],fs=>fs
 |st::r,fs=>mf prog w r (st.facts prog w++fs)
noncomputable def qJ:List Step->List Str->List Str
 | [],ns=>ns
 |st::r,ns=>qJ r (st.name::ns)
section
variable{prog:Program}{w:World}{A:Around}{E:Value->Shared->Prop}{c Pl F:Addr}{h₀:Heap}{mg0 mb:Str->Option Value}
theorem iZ.nil(T:iZ h₀ mg0 c Pl s mg poss facts names):iZ h₀ mg0 c Pl s mg (poss++ []) facts names:=(cC poss).symm▸T
theorem z28{s:Shared}{mg:Str->Option Value}{poss:List (Nat×Nat)}{facts:List (Str×Fact)}{names:List Str}{stmt:Stmt}{st:Step}{tr:Tree}{Q:Flow->Shared->Prop}(hmod:prog.main.scope.kind= .module)(hh:A.handled=none)(hst:stmt=tr.stmt)(hst2:st=tr.step)(htr:tr.ok=true)(T:iZ h₀ mg0 c Pl s mg poss facts names)(ok:pY prog poss (facts.map (·.1)) st=true)(hb:h₀.Ns cM mb)(blt: ∀x:Str,x≠ "__name__" ->mb x=bB x)(nl:h₀.NoLimit)(oth: ∀x,x∉gH->mg0 x=none)(hPl:aP<Pl)(hsm: ∃mm,h₀.Ns du mm)(hns:names.contains "set" =false/\names.contains "list" =false/\names.contains "range" =false)(q: ∀s' mg',iZ h₀ mg0 c Pl s' mg' (poss++st.poss) (st.facts prog w++facts) (st.name::names)->kC s s'->Q .next s'): wpAny (model prog w) A (exec stmt (mainEnv prog c F)) Q E s:=by
 obtain ⟨k1,k2,k3,J,J,J,k4⟩:=zm5 ok;have hsm':du<s.heap.objs.size:=by obtain ⟨mm,x⟩:=hsm;exact (x.at (h':=s.heap) λo=>T.keep _ o (bG (gw (by decide) hPl)) (by decide)).lt
 have hg:s.heap.Ns aP mg:=by obtain ⟨J,m,J⟩:=T.main;exact m.g
 have hPlive: ∃o,s.heap.get? Pl=some o:=by
  show let g_:=_;g_;intro g_;refine aN T.main λl m J=>?_
  obtain ⟨J,J,J,J,J,J,J,J,J,op,J,J,J,J,J,J,J,e,J⟩:=m.code;exact ⟨op,e⟩
 have hGlive: ∃o,s.heap.get? aP=some o:=by obtain ⟨o,J,J,e,J⟩:=hg;exact ⟨o,e⟩
 have newNe: ∀d,s.heap.get? d=none->d≠Pl/\d≠aP:=by
  intro d hd;constructor
  ·intro e;obtain ⟨o,ho⟩:=hPlive;rw [e,ho]at hd;cases hd
  ·intro e;obtain ⟨o,ho⟩:=hGlive;rw [e,ho]at hd;cases hd
 subst hst2 hst;cases tr with
 |fn d=>have k5:=aF.mp k4;exact z7a (zrz k5.1) hmod T k1 (nott k5.2) q
 |int x i k px pc pos=>exact z7b hmod k2 k3 T k1 λs' mg' T'=>q s' mg' T'.nil
 |txt x t k px pc pos=>exact z25 hmod k2 k3 T k1 λs' mg' T'=>q s' mg' T'.nil
 |set x li a b ka kb px p1 p2 p3 p4 p5 p6 p7 p8 p9 p10 pos=>
  have hr:=aF.mp htr;have mgn: ∀x:Str,names.contains x=false->x∉gH->mg x=none:=λx h1 h2=>by rw [T.others x (λh=>by rw [cJ.mpr h]at h1;exact tf h1)];exact oth x h2
  refine qw (P:=nu prog w _) hmod k2 k3 T k1 zmh rfl (λQ' E' h=>z24 hmod hh hg (hb.at λo=>T.keep _ o (bG (gw (by decide) hPl)) (by decide)) (nl.at λo=>T.keep _ o (bG (gw (by decide) hPl)) (by decide)) T.tok (mgn _ hns.1 (by decide)) (mgn _ hns.2.1 (by decide)) (mgn _ hns.2.2 (by decide))
   ((blt _ (by decide)).trans z23) ((blt _ (by decide)).trans zyi) ((blt _ (by decide)).trans zvg) hr.1 (of_decide_eq_true hr.2) λh' tk d n hk hd hS=>h _ _ hk ⟨rfl,rfl,rfl⟩ λh'' k=>?_) λs' mg' T'=>q s' mg' T'.nil
  show let g_:=_;g_;intro g_;refine xA (newNe d hd) λe1 e2=>?_
  refine z49 hS λo es ep t ho r=>?_
  exact ⟨d,rfl,e1,e2,n,o,es,ep,t,k _ _ e1 e2 ho,r⟩
 |dict x l px pd pos=>
  have hr:(rising (l.map λq=>q.1.1)&&decide (l.length<=4000)&&!l.isEmpty)=true:=htr;rw [an,an]at hr;refine xA (zr0 (mainEnv prog c F) pd l) λg1 g2=>?_
  refine qw (P:=nB prog w _) hmod k2 k3 T k1 zle rfl (λQ' E' h=>?_) λs' mg' T'=>q s' mg' T'.nil
  rw [arm_eval_Dict,g2];refine ab (bf (zp6 hsm' (by rw [cf];exact zj3 hr.1.1) (by rw [aY,av];exact aa (of_decide_eq_true hr.1.2) (by decide)) (λe=>by rw [List.map_eq_nil_iff]at e;subst e;exact absurd hr.2 (by decide)) g1 λh' tk d l' hd hD hT hk=>h _ _ hk ⟨rfl,rfl,rfl⟩ λh'' k=>?_));have hdn:s.heap.get? d=none:=by
   cases hq:s.heap.get? d with
   |none=>rfl
   |some o=>exact absurd (aB hq) (pJ.mpr hd)
  show let g_:=_;g_;intro g_;refine xA (newNe d hdn) λe1 e2=>?_
  refine gO hD λo es ep ho r=>?_
  exact ⟨d,rfl,e1,e2,l',(gz o es ep (k _ _ e1 e2 ho) r),hT,b9 (af hsm' hd)⟩
theorem zym(hmod:prog.main.scope.kind= .module)(hh:A.handled=none)(hb:h₀.Ns cM mb)(blt: ∀x:Str,x≠ "__name__" ->mb x=bB x)(nl:h₀.NoLimit)(oth: ∀x,x∉gH->mg0 x=none)(hPl:aP<Pl)(hsm: ∃mm,h₀.Ns du mm): ∀(trs:List Tree) (s:Shared) (mg:Str->Option Value) (poss:List (Nat×Nat)) (facts:List (Str×Fact)) (names:List Str) (Q:Flow->Shared->Prop),trs.all Tree.ok=true->iZ h₀ mg0 c Pl s mg poss facts names->oz prog poss (facts.map (·.1)) (trs.map Tree.step)=true-> names.contains "set" =false/\names.contains "list" =false/\names.contains "range" =false-> (∀s' mg' poss',iZ h₀ mg0 c Pl s' mg' poss' (mf prog w (trs.map Tree.step) facts) (qJ (trs.map Tree.step) names)->kC s s'->Q .next s')->wpAny (model prog w) A (execs (trs.map Tree.stmt) (mainEnv prog c F)) Q E s:=by
 intro zz;induction zz with
 |nil=>exact λs mg poss facts names Q J T J J q=>cz (q s mg poss T ⟨rfl,rfl,rfl⟩)
 |cons tr trs ih=>
  intro s mg poss facts names Q h T ok hns q;rw [jP,an]at h;rw [ax,z27,an]at ok;refine ay (z28 hmod hh rfl rfl h.1 T ok.1 hb blt nl oth hPl hsm hns λs₁ mg1 T_1 r_1=>?_);refine ih s₁ mg1 _ _ _ Q h.2 T_1 (by rw [dM,Step.facts_keys];exact ok.2) ?_ λs' mg' poss' T' r'=>q s' mg' poss' T' (r_1.trans r')
  obtain ⟨J,J,J,n1,n2,n3,J⟩:=zm5 ok.1;refine ⟨?_,?_,?_⟩
  ·rw [kj,hns.1,rS,beq_eq_false_iff_ne];exact λe=>n1 e.symm
  ·rw [kj,hns.2.1,rS,beq_eq_false_iff_ne];exact λe=>n2 e.symm
  ·rw [kj,hns.2.2,rS,beq_eq_false_iff_ne];exact λe=>n3 e.symm
end
end Mine.Internal
namespace Mine.Internal
open PySem PySem.W PySem.Calls PyProof.Rows PySem.Challenge
noncomputable def trees(p:Program):List Tree:=p.main.body.filterMap treeOf
noncomputable def steps(p:Program):List Step:=(trees p).map Tree.step
noncomputable def uM(p:Program):Bool:=(trees p).all Tree.ok&&oz p [] [] (steps p)&&!hasAnns p.main.body&&(docOf p.main.body).isNone&&(importedModules p.main.body).isEmpty&&
 (qJ (steps p) []).all p.boundNames.contains&&laidNames.all (λx=>!(qJ (steps p) []).contains x)&&p.main.scope.kind== .module
theorem zyn(ok:uM p=true)(hbody:(trees p).map Tree.stmt=p.main.body)(hop:opening p=plainProg p.main.scope.names)(hbeh:gT p=p.main.body)(hf: ∀s,fenceModules? p s=some s): (∃s,AfterRun (opening p) w s)/\ ∀s,AfterRun (opening p) w s-> ∃s0,fenceModules? p s=some s0/\s0.gens= #[]/\ ∃s₁,TopRan p w s0 s₁/\ ∃mg mb,z5l p s₁ mg mb (mf p w (steps p) []):=by
 simp only [uM,an,eA,Option.isNone_iff_eq_none,eU,beq_iff_eq]at ok;show let g_:=_;g_;intro g_;obtain ⟨⟨⟨⟨⟨⟨⟨h1,h2⟩,h3⟩,h4⟩,J⟩,h6⟩,h7⟩,h8⟩:=ok;refine z26 hop hbeh hf h3 h4 h6 (by decide+kernel) h7 λs mg mb c Pl F Q T hb blt nl oth hsm q=>?_
 have hPl:aP<Pl:=by obtain ⟨J,m,J⟩:=T.main;exact m.low.2
 rw [<-hbody];exact zym h8 (by rfl) hb blt nl oth hPl hsm _ s mg [] [] [] Q h1 T h2 ⟨rfl,rfl,rfl⟩ q
def Local(P:Fact):Prop:=∀Pl v h,P Pl v h->(∃o,h.get? 3=some o)-> ∃k o,h.get? k=some o/\ ∀h',(∀b o,b<=k->h.get? b=some o->h'.get? b=some o)->P Pl v h'
theorem zyo{p:Nat->Prop}{a b:Nat}(ha:p a)(hb:p b): ∃k,p k/\a<=k/\b<=k:=(lQ a b).elim (λq=>(et b hb q (az _))) λq=>et a ha (az _) q
theorem zp9(d:DefRec):Local (nh d):=λPl v h z J=>by
 show let g_:=_;g_;intro g_;obtain ⟨a,o,pm,code,doc,P,e,n1,n2,ho,hd,hc,n3,n4,hh,hP,n5,n6⟩:=z;refine fT (zyo (p:=λk=>∃o,h.get? k=some o) ⟨o,ho⟩ ⟨_,hP⟩) λk_1 h1 l1 l2=>?_
 have q_2: ∃o,h.get? code=some o:=by obtain ⟨J,oc,J,J,e_2,g,J⟩:=hc;obtain rfl:=Value.ref.inj e_2;exact ⟨oc,g⟩
 obtain ⟨k,⟨o',h2⟩,l3,l4⟩:=zyo (p:=λk=>∃o,h.get? k=some o) h1 q_2;exact eM k o' h2 (λh' kk=>⟨a,o,pm,code,doc,P,e,n1,n2,kk a o (aa l1 l3) ho,hd,hc.at λo=>kk code o l4,n3,n4,qT hh λo=>kk code o l4,kk P _ (aa l2 l3) hP,n5,n6⟩)
theorem zog(i:Int):Local (nv i):=λJ J J h z=>z.elim λo e=>eM 3 o e (λJ J=>h)
theorem zoh:Local (nu prog w ks):=λPl v h z J=>by obtain ⟨a,e,n1,n2,n,o,es,ep,t,ho,r⟩:=z;exact eM a o ho (λh' k=>⟨a,e,n1,n2,n,o,es,ep,t,k a o (az _) ho,r⟩)
theorem zmi:Local (nB prog w tbl):=λPl v h z J=>by obtain ⟨a,e,n1,n2,l,⟨o,es,ep,ho,r⟩,t⟩:=z;exact eM a o ho (λh' k=>⟨a,e,n1,n2,l,(gz o es ep (k a o (az _) ho) r),t⟩)
theorem zoi: ∀(sts:List Step) (fs:List (Str×Fact)),(∀q∈fs,Local q.2)-> ∀q∈mf prog w sts fs,Local q.2:=by
 intro sts;induction sts with
 |nil=>exact λJ h=>h
 |cons st r ih=>
  intro fs h;refine ih _ λq hq=>?_
  rcases ec.mp hq with hq|hq
  ·cases st with
   |fn d=>obtain rfl:=aE.mp hq;exact zp9 _
   |txt x=>exact (eT hq).elim
   |int x i=>obtain rfl:=aE.mp hq;exact zog _
   |set x ks=>obtain rfl:=aE.mp hq;exact zoh
   |dict x tbl=>obtain rfl:=aE.mp hq;exact zmi
  ·exact h q hq
theorem z7f{mg:Str->Option Value}{h:Heap}(h3: ∃o,h.get? 3=some o): ∀(facts:List (Str×Fact)),(∀q∈facts,Local q.2)->(∀q∈facts,∃v Pl,mg q.1=some v/\q.2 Pl v h)-> ∃k o,3<=k/\h.get? k=some o/\ ∀q∈facts,∃v Pl,mg q.1=some v/\ ∀h',(∀b o,b<=k->h.get? b=some o->h'.get? b=some o)->q.2 Pl v h':=by
 intro zz;induction zz with
 |nil=>intro J J;obtain ⟨o,e⟩:=h3;exact eg 3 o (az _) e (λJ h=>nomatch h)
 |cons q r ih=>
  intro hl hh;show let g_:=_;g_;intro g_;refine ek (ih (λp hp=>hl p (ah _ hp)) (λp hp=>hh p (ah _ hp))) λk o k3 ho hr=>?_
  refine d9 (hh q ag) λv Pl hv hP=>?_
  refine d9 (hl q ag Pl v h hP h3) λk' o' ho' hk'=>?_
  have key: ∀p∈q::r,∃v Pl,mg p.1=some v/\ ∀h',(∀b o,b<=max k k'->h.get? b=some o->h'.get? b=some o)->p.2 Pl v h':=λp hp=>by
   show let g_:=_;g_;intro g_;rcases aw.mp hp with rfl|hp
   ·exact eM v Pl hv (λh' k=>hk' h' λb o hb=>k b o (aa hb (Nat.le_max_right ..)))
   ·refine d9 (hr p hp) λv Pl hv hP=>?_
    exact eM v Pl hv (λh' k=>hP h' λb o hb=>k b o (aa hb (Nat.le_max_left ..)))
  rcases lQ k k' with z|z
  ·rw [Nat.max_eq_right z]at key;exact eg k' o' (aa k3 z) ho' key
  ·rw [Nat.max_eq_left z]at key;exact eg k o k3 ho key
theorem z29{mg:Str->Option Value}{h:Heap}(h3: ∃o,h.get? 3=some o){bm:Addr}{ob:Obj}(hb:h.get? bm=some ob)(facts:List (Str×Fact))(hl: ∀q∈facts,Local q.2)(hh: ∀q∈facts,∃v Pl,mg q.1=some v/\q.2 Pl v h): ∃k o,3<=k/\bm<=k/\h.get? k=some o/\ ∀q∈facts,∃v Pl,mg q.1=some v/\ ∀h',(∀b o,b<=k->h.get? b=some o->h'.get? b=some o)->q.2 Pl v h':=by
 show let g_:=_;g_;intro g_;refine ek (z7f h3 facts hl hh) λk o k3 ho hr=>?_
 rcases lQ bm k with q|q
 ·exact jK k o k3 q ho hr
 ·exact jK bm ob (aa k3 q) (az _) hb (λp hp=>by obtain ⟨v,Pl,hv,hP⟩:=hr p hp;exact (eM v Pl hv (λh' kk=>hP h' λb o hb=>kk b o (aa hb q))))
structure jS(p:Program)(w:World)(s:Shared)(mg mb:Str->Option Value)(k:Addr)(ad:Addr)(ns:List Int):Prop where
 gens:s.gens= #[]
 g:s.heap.Ns aP mg
 b:s.heap.Ns cM mb
 blt: ∀x:Str,x≠ "__name__" ->mb x=bB x
 nolimit:s.heap.NoLimit
 tok:0<s.toks
 k3:3<=k
 live: ∃o,s.heap.get? k=some o
 held: ∀q∈mf p w (steps p) [],∃v Pl,mg q.1=some v/\ ∀h',(∀b o,b<=k->s.heap.get? b=some o->h'.get? b=some o)->q.2 Pl v h'
 lo:k<ad
 oth: ∀x v,mg x=some v->x∈startupNames\/x∈p.boundNames
 script: ∃vs,s.heap.get? ad=some (ff vs 0)/\IntsAre vs ns
 bmain: ∃bm ob,bm<=k/\mg "__builtins__" =some (.ref bm)/\bm≠cM/\s.heap.get? bm=some ob/\ob.cls= .type "module" /\ob.dict=some cM/\ob.data= .plain
def OldO(h h':Heap)(b:Addr)(o:Obj):Prop:=h'.get? b=some o\/(isCodeTable h b/\o=tabObj #[]/\ ∃ps,h'.get? b=some (tabObj ps))
theorem OldO.asItWas(x:OldO h h' b o):asItWas h h' b o:=by
 rcases x with x|⟨x,rfl,ps,e⟩
 ·exact .inl x
 ·exact .inr (.inl ⟨x,rfl,#[],ps,rfl,by rw [km];exact e⟩)
theorem zvi(x:IntsAre vs ns):ReadsAllW R cl h vs (ns.map .int) []:=by
 induction x with
 |nil=>exact .nil
 |cons i t _ ih=>exact .cons (.int i t) ih
theorem zqa: ∀(ns:List Int) (s:Shared),∃vs k,layAllW R cl P ord (ns.map .int) s=some (vs,{s with toks:=k})/\s.toks<=k/\IntsAre vs ns:=by
 intro zz;induction zz with
 |nil=>exact λs=>eg [] s.toks (by simp [layAllW]) (az _) .nil
 |cons n ns ih=>
  intro s;refine ek (ih {s with toks:=s.toks+1}) λvs k h1 h2 h3=>?_
  refine eg (.int n s.toks::vs) k ?_ (iP h2) (.cons _ _ h3);simp only [ax,layAllW,layW,h1]
theorem zvj(ns:List Int)(s:Shared): ∃vs k,layAllW R cl P ord [.list (ns.map .int)] s=some ([.ref s.heap.objs.size],{s with heap:=s.heap.push (ff vs 0),toks:=k})/\s.toks<=k/\IntsAre vs ns:=by
 refine ek (zqa (R:=R) (cl:=cl) (P:=P) (ord:=ord) ns s) λvs k h1 h2 h3=>?_
 exact eg vs k (by simp only [layAllW,layW,h1]) h2 h3
theorem zvk{R:WRecords}{cl:Str->Option Addr}{h:Heap}{ad:Addr}{vs:List Value}{ns:List Int}(e:h.get? ad=some (ff vs 0))(x:IntsAre vs ns):ReadsAllW R cl h [.ref ad] [.list (ns.map .int)] [ad]:=.cons (.list (as:=[]) e rfl rfl (zvi x)) .nil
theorem zr2{l:OpenLaw}(hm:l.most=some 63)(hb:l.bound=none){args:List WData}(h:l.row.toRowW.claim.pre args=true): ∃ns:List Int,args=[.list (ns.map .int)]/\ns.length<=63:=by
 refine xA (pre_splitW h) λh1 h2=>?_
 refine ek (hasAllW_cons (e:=.list .int) (es:=[]) h1) λd r e_ h3 h4=>?_
 subst e_;obtain rfl:=hasAllW_nil h4;refine aN (hasW_list h3) λxs e_ h5=>?_
 subst e_;obtain ⟨ns,rfl⟩:=items_int h5;refine ⟨ns,rfl,?_⟩;have h2':(l.pre.holds [] {args:=[.list (ns.map .int)]})=true:=h2;rcases lO 63 ns.length with q|q
 ·have e:less? (WData.int 63) (WData.int (ns.length:Int))=some true:=congrArg some (decide_eq_true (cy.mpr q));unfold OpenLaw.pre WTm.holds at h2';rw [hm,hb]at h2';simp [WTm.value,e]at h2'
 ·exact q
theorem qS: ∀(sts:List Step) (fs:List (Str×Fact)),(Step.fn d∈sts\/(d.name,nh d)∈fs)->(d.name,nh d)∈mf prog w sts fs:=by
 intro zz;induction zz with
 |nil=>
  intro fs h;rcases h with h|h
  ·cases h
  ·exact h
 |cons st r ih=>
  intro fs h;refine ih _ ?_;rcases h with h|h
  ·rcases aw.mp h with rfl|h
   ·exact .inr (ei _ (by simp [Step.facts]))
   ·exact .inl h
  ·exact .inr (cr _ h)
theorem zyp(l:OpenLaw)(args ds:List WData):l.row.toRowW.claim.post args (.bool true) ds=true:=by refine aF.mpr ⟨rfl,?_⟩;show (WTm.eq .res (.lit (.bool true))).holds [] {args:=args,res:=some (.bool true),after:=ds}=true;have h:(WTm.eq .res (.lit (.bool true))).value [] {args:=args,res:=some (.bool true),after:=ds}=some (.bool true):=congrArg (λb=>some (WData.bool b)) (by decide+kernel:same (.bool true) (.bool true)=true);unfold WTm.holds;rw [h]
theorem law_holds{l:OpenLaw}{d:DefRec}(said:l.wellSaid=true)(hm:l.most=some 63)(hb:l.bound=none)(hwr:l.writes=false)(ok:uM l.prog=true)(hbody:(trees l.prog).map Tree.stmt=l.prog.main.body)(hop:opening l.prog=plainProg l.prog.main.scope.names)(hbeh:gT l.prog=l.prog.main.body)(hf: ∀s,fenceModules? l.prog s=some s)(hbare:l.prog.bare)(hopens:opensWell l.prog=true)(hprom:l.row.toRowW.promised)(hstep:Step.fn d∈steps l.prog)(hname:d.name=l.name)(hdef:l.prog.theDef l.name=some (d.params,d.body,d.scope))(hpar:d.params.defaults=[])(hkw:kwWritten? d.params.kwonlyargs d.params.kw_defaults=some [])(call: ∀(w:World) (s:Shared) (mg mb:Str->Option Value) (k ad:Addr) (ns:List Int),ns.length<=63->jS l.prog w s mg mb k ad ns-> ∀f,mg l.name=some f-> ∀(Q E:Value->Shared->Prop),(∀s',(∀b o,s.heap.get? b=some o->OldO s.heap s'.heap b o)->s'.os=s.os->s'.gens= #[]->Q (.bool true) s')->wpAny (model l.prog w) callerA (PySem.call f [.ref ad]) Q E s):l.Holds:=by
 refine ⟨said,row_said said,hprom,⟨hbare,hopens,rfl⟩,hprom.witness,λw=>⟨(zyn (w:=w) ok hbody hop hbeh hf).1,λs' hs'=>?_⟩⟩;show let g_:=_;g_;intro g_;obtain ⟨s0,hf0,hg0,s,hT,mg,mb,H⟩:=(zyn (w:=w) ok hbody hop hbeh hf).2 s' hs';refine ⟨s0,hf0,hg0,s,hT,λn hn=>?_,(λJ h=>nomatch h),(λJ h=>nomatch h),?_⟩
 ·have hn':n=l.name:=by have:n∈ [l.name]:=hn;simpa using this
  subst hn';obtain ⟨v,Pl,hv,a,o,pm,code,doc,J,rfl,J,J,ho,hd,J⟩:=H.held _ (qS (d:=d) (steps l.prog) [] (.inl hstep));refine ⟨a,o,_,d.params,d.body,d.scope,?_,ho,hd,hdef,hname,hname,rfl,rfl,rfl,rfl,rfl,rfl,.inl ⟨hpar,rfl⟩,[],hkw,.inl ⟨rfl,rfl⟩⟩;rw [eP H.g,<-hname];exact hv
 ·refine ClaimW.callFrom_of_specG (c:=l.row.toRowW.claim) (tree:=λvs=>do match<-nsGet mainNs l.name with
   |some f=>do ret (<-PySem.call f vs)
   |none=>unsupported "claim.caller:no-such-global") H.asleep H.gens λargs hpre hlay ord hord=>?_
  show let g_:=_;g_;intro g_;refine aN (zr2 hm hb hpre) λns e_ hlen=>?_
  subst e_;refine ek (zvj (R:=l.row.toRowW.claim.records) (cl:=classAt s.heap) (P:=w.params) (ord:=ord) ns s) λvs k h1 h2 h3=>?_
  refine eM _ _ h1 ?_;show let z_:=_;let y_:=_;wpAny _ _ _ z_ y_ _;intro z_ y_;have keep: ∀b o,s.heap.get? b=some o->(s.heap.push (ff vs 0)).get? b=some o:=λb o e=>aq _ e
  have h3': ∃o,s.heap.get? 3=some o:=by obtain ⟨o,J,J,e,J⟩:=H.g;exact ⟨o,e⟩
  show let g_:=_;g_;intro g_;refine jL H.bmain λbm ob b1 b2 b3 b4=>?_
  refine jL (z29 (mg:=mg) h3' b3 (mf l.prog w (steps l.prog) []) (zoi _ _ λJ h=>nomatch h) H.held) λkk ok' k3 kb hk hheld=>?_
  have CC:jS l.prog w {s with heap:=s.heap.push (ff vs 0),toks:=k} mg mb kk s.heap.objs.size ns:={
   gens:=H.gens
   g:=H.g.keeps keep
   b:=H.b.keeps keep
   blt:=H.blt
   nolimit:=H.nolimit.at λo=>keep _ o
   tok:=af H.tok h2
   k3:=k3
   live:=⟨ok',keep _ _ hk⟩
   held:=λq hq=>by
    show let g_:=_;g_;intro g_;refine d9 (hheld q hq) λv Pl hv hP=>?_
    refine eM v Pl hv (λh' k=>hP h' λb o hb e=>k b o hb (keep b o e))
   lo:=aB hk
   oth:=λx v hx=>hT.2.2.2.2.2.2.2.2.2.2.1 x v ((eP H.g x).trans hx)
   script:=bK vs (au _ rfl) h3
   bmain:=(kg bm ob kb b1 b2 (keep _ _ b3) b4)}
  refine d9 (H.held _ (qS (d:=d) (steps l.prog) [] (.inl hstep))) λv Pl hv J=>?_
  rw [hname]at hv;refine ab (wpAny_nsGet CC.g ?_);rw [hv];refine ab (call w _ mg mb kk _ ns hlen CC v hv _ _ λs' hk' hos hgens=>am (bK _ rfl ?_));have hlist:s'.heap.get? s.heap.objs.size=some (ff vs 0):=by
   show let g_:=_;g_;intro g_;rcases hk' _ _ (au _ rfl)with e|⟨_,e,_⟩
   ·exact e
   ·cases e
  refine ⟨.inl ⟨.bool true,rfl,λcls=>rfl,⟨.bool true,[.list (ns.map .int)],[],[s.heap.objs.size],.bool true,(zvk hlist h3),zyp l _ _,(λJ=>⟨List.nodup_nil,(λJ h=>nomatch h),(λJ h=>nomatch h)⟩),λJ J=>ident_freeW rfl rfl rfl _ _⟩,(λi hi=>by exact cu hi),(λb o e J J=>(hk' b o e).asItWas),λi hi=>by cases hi⟩,hos,AllBare.of_eq hgens,λh=>?_⟩;have h':l.writes=true:=h;rw [hwr]at h';exact ft h'
structure Comp(d:DefRec)where
 as:List Arg
 c:CE
 ts:List Nat
 ss:List PS
 hpar:d.params=⟨[],as,none,[],[],none,[]⟩
 hn:(as.map (·.arg)).Nodup
 hsc:c.sc=d.scope
 hb:c.base=0
 fs:kQ d.scope
 hp:Places c (as.map (·.arg)) ts
 hss:SSs c d.body ss
noncomputable def qI(sc:Scope):Bool:=sc.kind== .function&&decide (sc.names.map (·.1)).Nodup&&sc.names.all (λx=>x.2 != .free)&&!sc.isGenerator&&!sc.isCoroutine
theorem tM(h:qI sc=true):kQ sc:=by simp only [qI,an,beq_iff_eq,decide_eq_true_eq,aj,eA]at h;obtain ⟨⟨⟨⟨h1,h2⟩,h3⟩,h4⟩,h5⟩:=h;refine ⟨h1,h2,λx hx=>?_,h4,h5⟩;have:=h3 _ (mem_of_lookup hx);simp at this
noncomputable def rg(sc:Scope):List Str:=sc.names.filterMap λ(n,k)=>if qd (some k)&&k != .free then some n else none
noncomputable def jc4(d:DefRec)(own:List Str)(fz:Fz):Option (Comp d):=match h:d.params with
 |⟨[],as,none,[],[],none,[]⟩=>
  if hn:(as.map (·.arg)).Nodup then if hs:qI d.scope=true then
   match nx ⟨d.scope,rg d.scope,own,0⟩ (as.map (·.arg)),l9 d.body ⟨d.scope,rg d.scope,own,0⟩ fz with
   |some ts,some ss=>some ⟨as,⟨d.scope,rg d.scope,own,0⟩,ts.1,ss.1,h,hn,rfl,rfl,tM hs,ts.2,ss.2⟩
   |_,_=>none
  else none else none
 |_=>none
noncomputable def dOf(p:Program)(name:Str):Option DefRec:=(steps p).findSome? λst=>match st with
 | .fn d=>if d.name=name then some d else none
 |_=>none
theorem jX(h:dOf p name=some d):Step.fn d∈steps p/\d.name=name:=by
 refine aN (List.exists_of_findSome?_eq_some h) λst h1 h2=>?_
 cases st with
 |fn e=>
  simp only at h2;split at h2
  ·replace h2:=oj h2;subst h2;exact ⟨h1,by assumption⟩
  ·exact cu h2
 |_=>cases h2
noncomputable def small(p:Program)(name:Str)(own:List Str)(fz:Fz):Option (List Nat×List PS):=(dOf p name).bind λd=>(jc4 d own fz).map λx=>(x.ts,x.ss)
structure Entry(p:Program)(name:Str)(ts:List Nat)(ss:List PS):Prop where
 ex: ∃own fz,small p name own fz=some (ts,ss)
noncomputable abbrev Tab:=List (Str×List Nat×List PS×Nat)
structure GP where
 gv:Str->Option PV
 b3get:Int->Option (Option Str)
 tab:Tab
 spec:Nat->Str->List PV->Option PV
noncomputable def mkG(g:GP):Nat->GT
 |0=>{gv:=g.gv,fns:=λJ J=>none,b3get:=g.b3get}
 |d+1=>{gv:=g.gv,fns:=λf args=>(g.tab.lookup f).elim (g.spec d f args) λq=>jb (mkG g d) q.1 q.2.1 q.2.2 args,b3get:=g.b3get}
theorem z7g(g:GP)(d:Nat)(f:Str)(args:List PV):(mkG g (d+1)).fns f args=(g.tab.lookup f).elim (g.spec d f args) λq=>jb (mkG g d) q.1 q.2.1 q.2.2 args:=rfl
theorem iG(g:GP)(d:Nat):(mkG g d).gv=g.gv:=by cases d<;>rfl
theorem jau(g:GP)(d:Nat):(mkG g d).b3get=g.b3get:=by cases d<;>rfl
structure FnAt(C:CX)(d:DefRec)(a:Addr):Prop where
 g:C.mg d.name=some (.ref a)
 o: ∃o pm code doc,o.data= .func (d.data pm code doc)/\ ∀h,C.Inv h->h.get? a=some o/\h.CodeRec code d.name
theorem z3a(revd:C.mg "reversed" =none/\C.mb "reversed" =some (.type "reversed"))(gv: ∀x v,g.gv x=some v-> ∃u,(C.mg x=some u\/(C.mg x=none/\C.mb x=some u))/\ ∀h W,Rep C h W v u)(hfn: ∀d,Step.fn d∈steps p-> ∃a,FnAt C d a)(htab: ∀x∈g.tab,Entry p x.1 x.2.1 x.2.2.1)(hspec: ∀d f args v,g.spec d f args=some v-> ∃a o fd,C.mg f=some (.ref a)/\o.data= .func fd/\(∀h,C.Inv h->h.get? a=some o)/\ ∀A W s vs,Room A (d+1)->At C W s->RepL C s.heap W args vs->Snd C A s W (call (.ref a) vs) v)(b1: ∀v,C.mg "b1_set" =some v-> ∀A W s (k:Int) t,At C W s->Snd C A s W (de .In (.int k t) v) (.bool (kR.contains k)))(b3: ∀v,C.mg "b3_exceptions" =some v-> ∃d f,v= .ref d/\(d==du)=false/\(∀h,C.Inv h->h.MapOf (intKind C.prog C.w) d f)/\ ∀k r,g.b3get k=some r-> ∃t,(f k).getD .none=(match r with|some x=>.str x t|none=>.none)/\ ∀x,r=some x->x.length<=aM): ∀d,FnOk C (mkG g d) d:=λd=>by
 induction d with
 |zero=>exact {revd:=revd,gv:=gv,fn:=λf args v h=>cu h,b1:=b1,b3:=b3}
 |succ d ih=>exact {
  revd:=revd
  gv:=gv
  b1:=b1
  b3:=b3
  fn:=λf args v h=>by
   rw [z7g]at h;show let g_:=_;g_;intro g_;cases hl:g.tab.lookup f with
   |some q=>
    obtain ⟨ts,ss,n⟩:=q;rw [hl]at h;refine rQ ((htab (f,ts,ss,n) (mem_of_lookup hl)).ex) λown fz hsm=>?_
    refine aN (bind_some hsm) λdr hd hsm=>?_
    refine aN (gf hsm) λcm hcm he=>?_
    cases he;refine xA (jX hd) λhmem hname'=>?_
    have hname:dr.name=f:=hname';obtain ⟨a,ha,o,pm,code,doc,hod,hio⟩:=hfn dr hmem;refine mO a o _ (by rw [<-hname];exact ha) hod (λh hi=>(hio h hi).1) (λA W s vs rm at' hr=>?_);exact z67 ih cm.hsc cm.hb cm.fs cm.hpar cm.hn cm.hp cm.hss (λh hi=>(hio h hi).1) hod (λh hi=>(hio h hi).2) h rm at' hr
   |none=>rw [hl]at h;exact hspec d f args v h}
noncomputable def trunc(h:Heap)(k:Nat):Heap:={h with objs:=h.objs.extract 0 (k+1)}
theorem zqb:(trunc h k).get? b=if b<=k then h.get? b else none:=by
 unfold Heap.get? trunc;rw [Array.getElem?_extract,eu];by_cases hb:b<=k
 ·rw [if_pos hb];by_cases hs:b<h.objs.size
  ·rw [if_pos (by lia)]
  ·rw [if_neg (by lia),Array.getElem?_eq_none (by lia)]
 ·rw [if_neg hb,if_neg (by lia)]
theorem rn: ∀b o,b<=k->h.get? b=some o->(trunc h k).get? b=some o:=λb o hb e=>by rw [zqb,if_pos hb];exact e
theorem nE: ∀b o,(trunc h k).get? b=some o->b<=k/\h.get? b=some o:=λb o e=>by
 rw [zqb]at e;split at e
 ·exact ⟨by assumption,e⟩
 ·exact cu e
theorem oZ{prog:Program}{w:World}{st:Step}{q:Str×Fact}(hq:q∈st.facts prog w): ∀(sts:List Step) (fs:List (Str×Fact)),(st∈sts\/q∈fs)->q∈mf prog w sts fs:=by
 intro zz;induction zz with
 |nil=>
  intro fs h;rcases h with h|h
  ·cases h
  ·exact h
 |cons st' r ih=>
  intro fs h;refine ih _ ?_;rcases h with h|h
  ·rcases aw.mp h with rfl|h
   ·exact .inr (ei _ hq)
   ·exact .inl h
  ·exact .inr (cr _ h)
theorem zr3: ∀{l:List (Int×Str)} {n:Int} {c:Str},l.lookup n=some c->(n,c)∈l:=λh=>jF h
section
variable{p:Program}{w:World}{s:Shared}{mg mb:Str->Option Value}{k ad:Addr}{ns:List Int}
theorem zoj(pos p:Pos)(c:Value): ∀(l:List Value),TriplesOk l->iD pos (l++ [rawInt p.line,rawInt p.col,c])=match iD pos l with
  |some x=>some x
  |none=>if (((p.line:Nat):Int)==((pos.line:Nat):Int)&&((p.col:Nat):Int)==((pos.col:Nat):Int))=true then some c else none:=λl h=>by
 fun_induction TriplesOk l with
 |case1=>rfl
 |case2 a t b u x rest ih=>
  simp only [dS,iD];split
  ·rfl
  ·exact ih h
 |case3 l h1 h2=>exact h.elim
noncomputable abbrev jI:=Addr×Pos×Str
def TabOk(n₀:Nat)(h:Heap)(q:jI):Prop:=∃ps,h.get? q.1=some (tabObj ps)/\TriplesOk ps.toList/\(iD q.2.1 ps.toList=none\/
 ∃c' o vs t,n₀<=c'/\iD q.2.1 ps.toList=some (.ref c')/\h.get? c'=some o/\o.cls= .type "code" /\o.data= .fields vs/\vs[1]?=some (.str q.2.2 t))
theorem TabOk.new(e:h.get? q.1=some (tabObj #[])):TabOk n₀ h q:=et (#[]) e trivial (.inl rfl)
structure j7(s:Shared)(k:Addr)(tabs:List jI):Prop where
 lo: ∀q∈tabs,q.1<=k
 at': ∀q∈tabs,s.heap.get? q.1=some (tabObj #[])
 ct: ∀q∈tabs,isCodeTable s.heap q.1
 uniq: ∀q∈tabs,∀q'∈tabs,q.2.1.line=q'.2.1.line->q.2.1.col=q'.2.1.col->q.2.2=q'.2.2
theorem j7.ne(N:j7 s k tabs)(e:s.heap.get? b=some o)(h:o≠tabObj #[]):b∉tabs.map (λq:jI=>q.1):=λhm=>by
 refine aN (bg.mp hm) λq hq e_=>?_
 subst e_;rw [N.at' q hq]at e;replace e:=oj e;subst e;exact h rfl
noncomputable def fP(H:jS p w s mg mb k ad ns){tabs:List jI}(N:j7 s k tabs)(L:Lits):CX where
 prog:=p
 w:=w
 mg:=mg
 mb:=mb
 n₀:=k+1
 n4:=eQ H.k3
 Inv:=λh=>(∀b o,b<=k->b∉tabs.map (λq:jI=>q.1)->s.heap.get? b=some o->h.get? b=some o)/\ ∀q∈tabs,TabOk (k+1) h q
 L:=L
 keep:=λkk i=>⟨λb o hb hn e=>kk b o (.inl (fk hb)) (i.1 b o hb hn e),λq hq=>by
  refine fT (i.2 q hq) λps e ht hc=>?_
  refine et ps (kk _ _ (.inl (fk (N.lo q hq))) e) ht ?_;show let g_:=_;g_;intro g_;rcases hc with hc|⟨c',o,vs,t,h0,h1,h2,h3,h4,h5⟩
  ·exact .inl hc
  ·exact .inr ⟨c',o,vs,t,h0,h1,kk _ _ (.inr ⟨h3,vs,h4⟩) h2,h3,h4,h5⟩⟩
 low:=λ{h} i=>by
  obtain ⟨o,e⟩:=H.live;by_cases hk:k∈tabs.map (λq:jI=>q.1)
  ·refine aN (bg.mp hk) λq hq e_=>?_
   subst e_;refine aN (i.2 q hq) λps e' J=>?_
   exact aB e'
  ·exact aB (i.1 k o (az _) hk e)
 g:=λ{h} i=>by obtain ⟨o,es,ep,e,hd,r⟩:=H.g;exact su o es ep (i.1 _ _ H.k3 (N.ne e λq=>by rw [q]at hd;cases hd) e) hd r
 b:=λ{h} i=>by obtain ⟨o,es,ep,e,hd,r⟩:=H.b;exact su o es ep (i.1 _ _ (aa (by decide) H.k3) (N.ne e λq=>by rw [q]at hd;cases hd) e) hd r
 nolimit:=λ{h} i=>by obtain ⟨mc,⟨o,es,ep,e,hd,r⟩,x⟩:=H.nolimit;exact bK mc (su o es ep (i.1 _ _ (aa (by decide) H.k3) (N.ne e λq=>by rw [q]at hd;cases hd) e) hd r) x
variable(H:jS p w s mg mb k ad ns){tabs:List jI}(N:j7 s k tabs){L:Lits}
theorem nt(hi:(fP H N L).Inv h): ∀b o,o≠tabObj #[]->(trunc s.heap k).get? b=some o->h.get? b=some o:=λb o hn e=>by obtain ⟨h1,h2⟩:=nE b o e;exact hi.1 b o h1 (N.ne h2 hn) h2
theorem ztt(hd:Step.fn d∈steps p): ∃a,FnAt (fP H N L) d a:=by
 refine d9 (H.held _ (qS (d:=d) (steps p) [] (.inl hd))) λv Pl hv hP=>?_
 obtain ⟨a,o,pm,code,doc,P,rfl,J,J,ho,hod,hc,J,J,hh,J⟩:=hP _ rn;refine ⟨a,hv,o,pm,_,doc,hod,λh hi=>⟨nt H N hi _ _ (λq=>by rw [q]at hod;cases hod) ho,hc.at λo' e'=>nt H N hi _ o' (λq=>?_) e'⟩⟩;obtain ⟨o_2,J,J,J,J,J,J,J,J,e_2,hcls,J⟩:=hh;rw [e_2]at e';replace e':=oj e';subst e';rw [q]at hcls;cases hcls
theorem jav{ks:List Int}(hs:Step.set "b1_set" ks∈steps p)(hk:ks=kR): ∀v,(fP H N L).mg "b1_set" =some v-> ∀A W s' (k':Int) t,At (fP H N L) W s'->Snd (fP H N L) A s' W (de .In (.int k' t) v) (.bool (kR.contains k')):=λv hv A W s' k' t a Q E q=>by
 show let g_:=_;g_;intro g_;refine d9 (H.held _ (oZ (q:=("b1_set",nu p w ks)) (st:=Step.set "b1_set" ks) (by simp [Step.facts]) (steps p) [] (.inl hs))) λv' Pl hv' hP=>?_
 have e:=hv.symm.trans hv';replace e:=oj e;subst e;obtain ⟨ad',rfl,J,J,n,o,es,ep,tt,ho,hcl,hdd,r⟩:=hP _ rn;subst hk;exact wpAny_inSet_of (knd:=intKind p w) (k:=k') (intKind_is _ _ _ _) rfl ((tb o es ep tt (nt H N a.inv _ _ (λq=>by rw [q]at hdd;cases hdd) ho) hcl hdd r)) (q _ _ .tok1 gy)
set_option tactic.hygienic true in
theorem jaw{tbl:List (Int×Str)}(hs:Step.dict "b3_exceptions" tbl∈steps p)(hz:tbl.all (λx=>decide (x.2.length<=1000))=true): ∀v,(fP H N L).mg "b3_exceptions" =some v-> ∃d f,v= .ref d/\(d==du)=false/\(∀h,(fP H N L).Inv h->h.MapOf (intKind p w) d f)/\ ∀k' r,(some (tbl.lookup k'):Option (Option Str))=some r-> ∃t,(f k').getD .none=(match r with|some x=>.str x t|none=>.none)/\ ∀x,r=some x->x.length<=aM:=λv hv=>by
 show let g_:=_;g_;intro g_;refine d9 (H.held _ (oZ (q:=("b3_exceptions",nB p w tbl)) (st:=Step.dict "b3_exceptions" tbl) (by simp [Step.facts]) (steps p) [] (.inl hs))) λv' Pl hv' hP=>?_
 have e:=hv.symm.trans hv';replace e:=oj e;subst e;obtain ⟨d,rfl,J,J,l,⟨o,es,ep,ho,hex,hdd,r⟩,hT,hns⟩:=hP _ rn;refine jK d (valueAt l) rfl (beq_eq_false_iff_ne.mpr hns) (λh hi=>Heap.DictOf.mapOf (mO o es ep (nt H N hi _ _ (λq=>by rw [q]at hdd;cases hdd) ho) hex hdd r)) (λk' r hr=>?_);replace hr:=oj hr;subst hr;have:=hT.at k';split at this
 ·rename_i v hvv;show let g_:=_;g_;intro g_;refine d9 this λx t e_ hx=>?_
  subst e_;refine bK t ?_ (λy hy=>?_)
  ·rw [hx,hvv];rfl
  ·rw [hx]at hy;replace hy:=oj hy;subst hy;rw [av];exact aa (of_decide_eq_true (aj.mp hz _ (zr3 hx))) (by decide)
 ·rename_i hvv;refine bK 0 ?_ (λy hy=>?_)
  ·rw [this,hvv];rfl
  ·rw [this]at hy;exact cu hy
theorem t6(h1:startupNames.contains x=false)(h2:p.boundNames.contains x=false)(hb:bB x=some v):(fP H N L).mg x=none/\(fP H N L).mb x=some v:=by
 refine ⟨?_,?_⟩
 ·cases hx:mg x with
  |none=>exact hx
  |some u=>
   rcases H.oth x u hx with h|h
   ·rw [cJ.mpr h]at h1;exact tf h1
   ·rw [cJ.mpr h]at h2;exact tf h2
 ·refine (H.blt x λe=>?_).trans hb;subst e;exact absurd h1 (by decide)
end
end Mine.Internal
namespace Mine.Internal
open PySem PySem.W PySem.Calls PyProof.Rows PySem.Challenge
set_option backward.match.sparseCases false
theorem szok(h:n<=16777216):f0 n=true:=decide_eq_true h
noncomputable def kn(G:GT)(ts:List Nat)(single:Bool)(body:List PS):List PV->Rho->Option Out
 | [],ρ=>some (.next ρ)
 |x::xs,ρ=>match (hK ts single x ρ).bind λρ''=>eK G body ρ'' with
  |some (.next ρ')=>kn G ts single body xs ρ'
  |r=>r
theorem forE(step:PV->Rho->Option Out)(x:PV)(xs:List PV)(ρ:Rho):forP step (x::xs) ρ=match step x ρ with
  |some (.next ρ')=>forP step xs ρ'
  |r=>r:=rfl
theorem jax(G:GT)(ts:List Nat)(single:Bool)(body:List PS)(x:PV)(xs:List PV)(ρ:Rho):kn G ts single body (x::xs) ρ=match (hK ts single x ρ).bind λρ''=>eK G body ρ'' with
  |some (.next ρ')=>kn G ts single body xs ρ'
  |r=>r:=rfl
theorem zyr(G:GT)(ts:List Nat)(single:Bool)(body:List PS): ∀(items:List PV) (ρ:Rho),forP (λx ρ'=>(hK ts single x ρ').bind λρ''=>eK G body ρ'') items ρ=kn G ts single body items ρ:=by
 intro zz;induction zz with
 |nil=>exact λρ=>rfl
 |cons x xs ih=>
  intro ρ;rw [forE,jax];cases (hK ts single x ρ).bind λρ''=>eK G body ρ'' with
  |none=>rfl
  |some o=>induction o with
   |next ρ'=>exact ih ρ'
   |ret v=>rfl
noncomputable def my(G:GT)(ts:List Nat)(single:Bool)(body:List PS)(x:PV)(ρ:Rho):Option Out:=(hK ts single x ρ).bind λρ''=>eK G body ρ''
theorem qH:kn G ts single body [] ρ=some (.next ρ):=rfl
theorem lh(h:my G ts single body x ρ=some (.next ρ')):kn G ts single body (x::xs) ρ=kn G ts single body xs ρ':=by unfold my at h;simp only [jax,h]
theorem mD(h1:iS G it ρ=some items)(h2:(single||items.all isTup)=true)(h3:kn G ts single body items ρ=out):fN G (.forS ts single it body) ρ=out:=by simp only [xE,h1,ac,h2,if_true];rw [<-h3];exact zyr ..
noncomputable def mw(G:GT)(ts:List Nat)(single:Bool)(ifs:List PE)(gs:List PG)(elt:PE)(ρ:Rho)(x:PV):Option (List PV):=(hK ts single x ρ).bind λρ'=>(allP G true ifs ρ').bind λc=>if c then kr G gs (λρ'=>be G elt ρ') ρ' else some []
theorem rf(h1:iS G it ρ=some items)(h2:(single||items.all isTup)=true)(h3:items.mapM (mw G ts single ifs gs elt ρ)=some ls):kr G (.mk ts single it ifs::gs) (λρ'=>be G elt ρ') ρ=some ls.flatten:=by simp only [pE,h1,ac,h2,if_true];have:(λx=>(hK ts single x ρ).bind λρ'=>(allP G true ifs ρ').bind λc=>if c=true then kr G gs (λρ'=>be G elt ρ') ρ' else some [])=mw G ts single ifs gs elt ρ:=rfl;rw [this,h3];rfl
theorem sQ(h:kr G gens (λρ'=>be G elt ρ') ρ=some l)(hz:l.length<=16777216):be G (.comp elt gens) ρ=some (.list l):=by simp only [eE,h,ac];rw [if_pos (szok hz)]
theorem dD(h:fN G p ρ=some (.next ρ'))(h2:eK G ps ρ'=r):eK G (p::ps) ρ=r:=by simp only [pE,h];exact h2
theorem hC(h:fN G p ρ=some (.ret v)):eK G (p::ps) ρ=some (.ret v):=by simp only [pE,h]
theorem iq:eK G [] ρ=some (.next ρ):=rfl
theorem gG(h:be G e ρ=some v):fN G (.asg t e) ρ=some (.next (setR ρ t (.val v))):=by simp only [xE,h,cw]
theorem zqc(h:be G e ρ=some v)(ho:ownOf v=some s):fN G (.asgOwn t e) ρ=some (.next (setR ρ t s)):=by simp only [xE,h,ac,ho,cw]
theorem jt(h:be G e ρ=some (.tuple xs))(hb:gZ ts xs ρ=some ρ'):fN G (.asgT ts e) ρ=some (.next ρ'):=by simp only [xE,h,ac,vE,hb,cw]
theorem jg(h:be G e ρ=some v):fN G (.ret e) ρ=some (.ret v):=by simp only [xE,h,cw]
theorem ie(h:el G t ρ=some c)(h2:eK G (if c then a else b) ρ=r):fN G (.ite t a b) ρ=r:=by simp only [xE,h,ac];induction c<;>exact h2
theorem k8(h0:ρ[t]?=some (some (.val p)))(h:be G e ρ=some y)(h2:augP op p y=some z):fN G (.aug t op e) ρ=some (.next (setR ρ t (.val z))):=by simp only [xE,nK h0,h,ac,vE,h2,cw]
theorem jay(h0:ρ[t]?=some (some (.own xs)))(h:be G e ρ=some y)(hz:xs.length+1<=16777216):fN G (.app t e) ρ=some (.next (setR ρ t (.own (xs++ [y])))):=by simp only [xE,ztb h0,h,ac,szok hz,if_true]
theorem zys(h0:ρ[t]?=some (some (.own xs))):fN G (.freeze t) ρ=some (.next (setR ρ t (.val (.list xs)))):=by simp only [xE,nK h0];rfl
theorem tL(h0:ρ[t]?=some (some (.ownD kvs))):fN G (.freeze t) ρ=some (.next (setR ρ t (.val (.dict kvs)))):=by simp only [xE,nK h0];rfl
theorem z7h(h0:ρ[t]?=some (some (.own xs))):fN G (.revI t) ρ=some (.next (setR ρ t (.own xs.reverse))):=by simp only [xE,ztb h0,cw]
theorem jaz(h0:ρ[t]?=some (some (.ownD kvs)))(h:be G e ρ=some (.dict l))(hz:kvs.length+l.length<=1000):fN G (.upd t e) ρ=some (.next (setR ρ t (.ownD (iF kvs l)))):=by simp only [xE,zpd h0,h,ac,vE,if_pos hz]
theorem ja0:fN G (.tryS body) ρ=eK G body ρ:=by simp only [xE]
section
variable{G:GT}{ρ:Rho}{a b e i t:PE}{x y z v:PV}
theorem aO(h:ρ[k]?=some (some (.val v))):be G (.var k) ρ=some v:=by simp only [eE,oV h]
theorem fA(h:G.gv n=some v):be G (.glob n) ρ=some v:=by simp only [eE,h]
theorem cE(h1:be G a ρ=some x)(h2:be G b ρ=some y)(h3:binP op x y=some z):be G (.bin op a b) ρ=some z:=by simp only [eE,h1,h2,ac,h3]
theorem sn(h:be G a ρ=some (.int k)):be G (.neg a) ρ=some (.int (-k)):=by simp only [eE,h,ac,vE,cw]
theorem sj(h:be G a ρ=some (.int k)):be G (.inv a) ρ=some (.int (fD k)):=by simp only [eE,h,ac,vE,cw]
theorem og(h1:be G a ρ=some x)(h2:be G b ρ=some y)(h3:cmpV op x y=some c):be G (.cmp op a b) ρ=some (.bool c):=by simp only [eE,h1,h2,ac,h3,cw]
theorem gb(h1:be G a ρ=some x)(h2:be G b ρ=some y)(h3:cmpV op x y=some c):el G (.cmp op a b) ρ=some c:=by simp only [tE,h1,h2,ac,h3]
theorem lG(h:el G t ρ=some c)(h2:be G (if c then a else b) ρ=some v):be G (.ifx t a b) ρ=some v:=by simp only [eE,h,ac];induction c<;>exact h2
theorem fF(h1:be G a ρ=some x)(h2:be G i ρ=some y)(h3:subP x y=some z):be G (.sub a i) ρ=some z:=by simp only [eE,h1,h2,ac,h3]
theorem dW:gh G [] ρ=some []:=by simp only [pE]
theorem bN(h1:be G a ρ=some x)(h2:gh G es ρ=some xs):gh G (a::es) ρ=some (x::xs):=by simp only [pE,h1,h2,ac,cw]
theorem nr(h:gh G es ρ=some xs):be G (.list es) ρ=some (.list xs):=by simp only [eE,h,cw]
theorem iT(h:gh G es ρ=some xs):be G (.tuple es) ρ=some (.tuple xs):=by simp only [eE,h,cw]
theorem ge(h1:be G f ρ=some g)(h2:gh G as ρ=some xs)(h3:kY G g xs=some v):be G (.call f as) ρ=some v:=by simp only [eE,h1,h2,ac,h3]
theorem zyv(h1:be G f ρ=some g)(h2:gh G as ρ=some xs)(h3:kY G g xs=some v)(h4:jU v=some c):el G (.call f as) ρ=some c:=by simp only [tE,h1,h2,ac,h3,h4]
theorem ng(h:ρ[k]?=some (some (.val v)))(h4:jU v=some c):el G (.var k) ρ=some c:=by simp only [tE,oV h,ac,h4]
theorem z5m(h1:el G a ρ=some c)(h2:c=false->el G b ρ=some d):el G (.or [a,b]) ρ=some (c||d):=by
 simp only [tE,pE,h1,ac];cases c with
 |true=>rfl
 |false=>simp [h2 rfl];induction d<;>rfl
end
theorem z7i{test:Rho->Option Bool}{step:Rho->Option Out}{n:Nat}{ρ ρ':Rho}(h:test ρ=some true)(h2:step ρ=some (.next ρ')):jT test step (n+1) ρ=jT test step n ρ':=by simp only [pE,h,h2]
theorem z7j{test:Rho->Option Bool}{step:Rho->Option Out}{n:Nat}{ρ:Rho}(h:test ρ=some false):jT test step (n+1) ρ=some (.next ρ):=by simp only [pE,h]
end Mine.Internal
namespace Mine.Internal
open PySem PySem.W PySem.Calls PyProof.Rows PySem.Challenge
noncomputable def uL:Tab:=[
 ("_div2n1n",tY,tX,zph),
 ("_div3n2n",tW,tV,zpi),
 ("_divmod_pos",uq,uo,zjy),
 ("int_divmod",un,um,zjz),
 ("in_table_b1",uz,uy,zh4),
 ("map_table_b3",uE,uC,zg3),
 ("_escape_cdata",zf2,zf3,zma),
 ("_escape_attrib",zft,zfu,zks),
 ("_escape_attrib_html",zdk,zdl,zgx),
 ("_escape_cdata_c14n",zdq,zdr,zhd),
 ("_escape_attrib_c14n",zdm,zdn,zgy),
 ("_law_hand",zkt,nU,zuz),
 ("_law_spelled",ux,uw,zh5),
 ("_law_rule",ue,ud,zmt),
 ("_law_read",uc,ub,tU),
 ("_law_runs",ua,t9,zmu),
 ("_law_sides",rB,rA,t8),
 ("_law_sizes",uu,ut,zku),
 ("_law_counted",uv,ph,zh6),
 ("law",z5e,kM,jcw)]
noncomputable def qR:List Str:=["_div2n1n","_div3n2n","_int2digits","_digits2int","_divmod_pos","int_divmod","in_table_b1","map_table_b3","_escape_cdata","_escape_attrib","_escape_attrib_html","_escape_cdata_c14n","_escape_attrib_c14n","_law_hand","_law_spelled","_law_rule","_law_read","_law_runs","_law_sides","_law_sizes","_law_counted","_law_refused","law"]
noncomputable def rL:List (Str×PV):=[("_DIV_LIMIT",.int 4000),("b1_set",.b1),("b3_exceptions",.b3),("range",.ty "range"),("list",.ty "list"),("type",.ty "type"),("int",.ty "int"),("len",.bi "len"),("ord",.bi "ord"),("chr",.bi "chr"),("sum",.bi "sum"),("divmod",.bi "divmod"),("max",.bi "max"),("min",.bi "min")]
noncomputable def gv01(x:Str):Option PV:=match rL.lookup x with
 |some v=>some v
 |none=>if qR.contains x then some (.fn x)else none
noncomputable def digitsOf(a n:Int):List Int:=(bl ((bc a+n.toNat-1)/n.toNat)).map λk=>a/2^(n.toNat*k)%2^n.toNat
noncomputable def numberOf(n:Int):List Int->Int
 | []=>0
 |x::r=>numberOf n r*2^n.toNat+x
theorem gJ:(∀n,numberOf n []=0)/\(∀n x r,numberOf n (x::r)=numberOf n r*2^n.toNat+x):=⟨λJ=>rfl,λJ J J=>rfl⟩
noncomputable def sI2d(d:Nat)(args:List PV):Option PV:=(two args).bind λq=>ii q.1 q.2 λa n=>if 0<=a/\0<n/\n<=250000/\(digitsOf a n).length<=256/\10<=d then some (.list ((digitsOf a n).map .int))else none
noncomputable def sD2i(d:Nat)(args:List PV):Option PV:=(two args).bind λq=>(listOf q.1).bind λxs=>(intOf q.2).bind λn=>(jn xs).bind λl=>if 0<n/\n<=250000/\l.length<=256/\l.all (λx=>decide (bc x<=250000))=true/\10<=d then some (.int (numberOf n l))else none
noncomputable def nM(d:Nat)(f:Str)(args:List PV):Option PV:=
 if f= "_int2digits" then sI2d d args
 else if f= "_digits2int" then sD2i d args
 else none
noncomputable def lI:List (PV×Str):=[(.int 7,"7 (type int)"),(.none,"None (type NoneType)"),(.list [.str "&"],"['&'] (type list)"),(.byt #[38],"b'&' (type bytes)")]
noncomputable def j6(p:Program):List (Int×Str):=((steps p).findSome? λst=>match st with
 | .dict x t=>if x= "b3_exceptions" then some t else none
 |_=>none).getD []
noncomputable def g01:GP:={gv:=gv01,b3get:=λk=>some ((j6 pw_wc0027_01).lookup k),tab:=uL,spec:=nM}
noncomputable abbrev G2(d:Nat):GT:=mkG g01 d
theorem jy(h1:gZ ts args (aJ n none)=some ρ)(h2:eK G ss ρ=some (.ret v)):jb G ts ss n args=some v:=by rw [jb,h1,ac,h2];rfl
end Mine.Internal
namespace Mine.Internal
open PySem PySem.Builtin PySem.Builtin.Str PySem.Challenge PyProof.Rows
theorem jc(l:List Nat):(tx l).length=l.length:=by simp [fJ]
theorem sf(a b:List Nat):tx a++tx b=tx (a++b):=by show Str.append _ _=_;simp [Str.append]
theorem se(h:tx a=tx b):a=b:=by injection h with h;simpa using congrArg Array.toList h
theorem j5:(tx a==tx b)=decide (a=b):=by
 by_cases h:a=b
 ·subst h;simp
 ·rw [decide_eq_false h];exact beq_eq_false_iff_ne.mpr λe=>h (se e)
theorem ja1(x:Str):x=tx x.cps.toList:=by cases x;simp
theorem qQ: ∀l:List Nat,c∉l->(l.flatMap λa=>if a=c then z else [a])=l:=by
 intro zz;induction zz with
 |nil=>exact λJ=>rfl
 |cons k r ih=>intro h;rw [bo,if_neg (λe=>h (by rw [e];exact ag)),ih λm=>h (ah _ m)];rfl
theorem z3c(c:Nat)(z:List Nat): ∀parts:List Str,(∀p∈parts,c∉p.cps.toList)->((dV ⟨#[c]⟩ parts).cps.toList.flatMap λa=>if a=c then z else [a])=(dV (tx z) parts).cps.toList:=by
 intro parts;induction parts with
 |nil=>exact λJ=>rfl
 |cons p r ih=>
  intro h;cases r with
  |nil=>exact qQ _ (h p (aE.mpr rfl))
  |cons q r=>
  show ((p++⟨#[c]⟩++dV ⟨#[c]⟩ (q::r)).cps.toList.flatMap _)=(p++tx z++dV (tx z) (q::r)).cps.toList;simp only [Str.cps_append,Array.toList_append,jB];rw [ih λa ha=>h a (ah _ ha),qQ _ (h p ag)];simp
theorem zyy(l:List Nat)(c:Nat)(z:List Nat):dE (tx l) ⟨#[c]⟩ (tx z)=tx (l.flatMap λa=>if a=c then z else [a]):=by rw [StrLaws.replace_one,ja1 (dV _ _),<-z3c c z _ (StrLaws.split_free (tx l) c),StrLaws.join_split]
theorem sd:StrLaws.At (tx l) ⟨#[c]⟩ (tx l).length i↔l[i]?=some c:=by
 constructor
 ·intro h;have:=(StrLaws.subAt_one (tx l) c i).mp h;simpa using this
 ·intro h;exact (StrLaws.subAt_one (tx l) c i).mpr (by simpa using h)
theorem zy0{l:List Nat}{c a:Nat}(h: ∀k,a<=k->l[k]?≠some c):(l.drop a).count c=0:=by rw [List.count_eq_zero];intro hm;obtain ⟨j,hj⟩:=List.getElem?_of_mem hm;rw [List.getElem?_drop]at hj;exact h _ (bb _ _) hj
theorem modN(x:Int)(N:Nat)(h:0<N): ∃j:Nat,x%(N:Int)=j/\j<N:=by obtain ⟨j,hj⟩:=fx (bM x (bh (cy.mpr h)));exact ⟨j,hj,cy.mp (hj▸bt x (cy.mpr h))⟩
theorem lt4(h:j<4):j=0\/j=1\/j=2\/j=3:=match j,h with
 |0,_=>.inl rfl
 |1,_=>.inr (.inl rfl)
 |2,_=>.inr (.inr (.inl rfl))
 |3,_=>.inr (.inr (.inr rfl))
theorem lt5(h:j<5):j=0\/j=1\/j=2\/j=3\/j=4:=match j,h with
 |0,_=>.inl rfl
 |j+1,h=>.inr ((lt4 (Nat.lt_of_succ_lt_succ h)).imp (congrArg (· +1)) λh=>h.imp (congrArg (· +1)) λh=>h.imp (congrArg (· +1)) (congrArg (· +1)))
theorem zvl{l:List Nat}{c:Nat}: ∀(n a:Nat),l[a+n]?=some c->(∀k,k<n->l[a+k]?≠some c)->(l.drop a).count c=1+(l.drop (a+n+1)).count c:=by
 intro zz;induction zz with
 |zero=>intro a hb h;obtain ⟨hi,hv⟩: ∃hi:a<l.length,l[a]=c:=bO.mp hb;rw [gc hi,hv,List.count_cons_self,dR]
 |succ n ih=>
  intro a hb h;have hi:=Nat.lt_of_le_of_lt (bb _ _) (bO.mp hb).1;rw [gc hi,List.count_cons_of_ne (λe=>h 0 (jk _) (by rw [Nat.add_zero,aL hi,e]))];have e: ∀k,a+1+k=a+(k+1):=λk=>Nat.add_right_comm a 1 k
  have:=ih (a+1) (by rw [e];exact hb) λk h2=>by rw [e];exact h _ (Nat.succ_lt_succ h2)
  rw [e]at this;exact this
theorem zlh{l:List Nat}{c:Nat}: ∀(cuts:List Nat) (a f:Nat),StrLaws.ChainG (tx l) ⟨#[c]⟩ (tx l).length a cuts f->(∀k,f<=k-> ¬StrLaws.At (tx l) ⟨#[c]⟩ (tx l).length k)->cuts.length=(l.drop a).count c:=by
 intro zz;induction zz with
 |nil=>intro a f h hf;have:f=a:=h;subst this;rw [zy0 λk hk e=>hf k hk (sd.mpr e)];rfl
 |cons b r ih=>
  intro a f h hf;refine ji h λh1 h2 h3 h4=>?_
  obtain ⟨n,rfl⟩:=kH h1;rw [aK,ih _ f h4 hf,zvl n a (sd.mp h2) λk g2 e=>h3 _ (bb _ _) (Nat.add_lt_add_left g2 a) (sd.mpr e)];exact dR _ _
theorem zy1(l:List Nat)(c:Nat):Txt.count (tx l) ⟨#[c]⟩=(l.count c:Nat):=by
 refine aN (StrLaws.occ_tight (tx l) ⟨#[c]⟩ (az 1)) λf h1 h2=>?_
 have:=zlh _ _ _ h1 h2;unfold Txt.count;rw [this];rfl
theorem z3d(l:List Nat)(c:Nat):(!(occurrences (tx l) ⟨#[c]⟩ 0 (tx l).length 1).isEmpty)=decide (c∈l):=by rw [StrLaws.found_one]
theorem zvm(l:List Nat)(s:Nat): ∀c,(bl c).filterMap (λk=>l[s+k]?)=(l.drop s).take c:=by
 intro zz;induction zz with
 |zero=>simp
 |succ c ih=>rw [List.range_succ,List.filterMap_append,ih,List.take_add_one,List.getElem?_drop];cases h:l[s+c]?<;>simp [h]
theorem qG{A B:Int}{a b:Nat}(hA:A=a)(hB:B=b):sliceRange A B 1=(bl (b-a)).map λk=>a+k:=by
 subst hA hB;unfold sliceRange;simp only [show (1:Int)>0 from by decide,if_true];have e3:(if (a:Int)<(b:Int)then ((b:Int)-(a:Int)+1-1)/1 else 0).toNat=b-a:=by
  split
  ·rw [Int.add_sub_cancel,Int.ediv_one];exact Int.toNat_sub b a
  ·rename_i h;exact (Nat.sub_eq_zero_of_le (cj.mp (Int.not_lt.mp h))).symm
 rw [e3];apply dC;intro k J;lia
theorem qv(a n:Nat):max 0 (min (a:Int) (n:Int))=((min a n:Nat):Int):=by
 rw [Int.max_eq_right (Int.le_min.mpr ⟨aI a,aI n⟩)];rcases lQ a n with h|h
 ·rw [iz h,Int.min_eq_left (cj.mpr h)]
 ·rw [jl h,Int.min_eq_right (cj.mpr h)]
theorem qu(a:Nat): ¬(a:Int)<0:=Int.not_lt.mpr (aI a)
theorem zy2(l:List Nat){lo hi:Option Int}{a b:Nat}(ha:lo=none/\a=0\/lo=some (a:Int))(hb:hi=none/\b=l.length\/hi=some (b:Int))(hab:a<=b):Txt.slice (tx l) lo hi=tx ((l.drop a).take (b-a)):=by
 have hidx:strSliceIndices lo hi 1 (tx l).length=(bl (min b l.length-min a l.length)).map λk=>min a l.length+k:=by
  rw [jc];rcases ha with ⟨rfl,rfl⟩|rfl<;>rcases hb with ⟨rfl,rfl⟩|rfl
  ·exact qG (by simp) (by simp)
  ·exact qG (by simp) (by simp only [show (1:Int)>0 from by decide,if_true,qu,if_false,qv])
  ·exact qG (by simp only [show (1:Int)>0 from by decide,if_true,qu,if_false,qv]) (by simp)
  ·exact qG (by simp only [show (1:Int)>0 from by decide,if_true,qu,if_false,qv]) (by simp only [show (1:Int)>0 from by decide,if_true,qu,if_false,qv])
 unfold Txt.slice;rw [hidx];have hlen:((bl (min b l.length-min a l.length)).map λk=>min a l.length+k).length=min b l.length-min a l.length:=by simp
 rw [hlen,jc];have hpick:((bl (min b l.length-min a l.length)).map λk=>min a l.length+k).filterMap (λi=>(tx l).cps[i]?)=(l.drop a).take (b-a):=by
  rw [List.filterMap_map];have:((λi=>(tx l).cps[i]?)∘λk=>min a l.length+k)=λk=>l[min a l.length+k]?:=by funext k;simp
  rw [this,zvm];by_cases h1:a<=l.length
  ·rw [iz h1];by_cases h2:b<=l.length
   ·rw [iz h2]
   ·rw [jl (pM h2),ey (by simp),ey (by rw [fL];exact uU (pM h2) a)]
  ·rw [jl (pM h1),List.drop_of_length_le (az l.length),List.drop_of_length_le (pM h1)];simp
 split
 ·rename_i h;simp only [beq_self_eq_true,Bool.true_and,beq_iff_eq]at h;by_cases h0:l.length=0
  ·have:l=[]:=cK.mp h0;subst this;simp
  ·have z:min a l.length=0:=by
    rcases Nat.eq_zero_or_pos (min a l.length)with z|z
    ·exact z
    ·exact absurd h (bG (af (Nat.sub_lt (Nat.pos_of_ne_zero λe=>h0 (by rw [<-h,e,Nat.zero_sub])) z) (Nat.min_le_right b l.length)))
   have:a=0:=by
    rcases lQ a l.length with g|g
    ·rw [iz g]at z;exact z
    ·rw [jl g]at z;exact absurd z h0
   subst this;rw [Nat.zero_min,Nat.sub_zero]at h;rw [lT,ey (show l.length<=b-0 from aa (dc h.symm) (uY _ _))]
 ·rw [<-hpick]
noncomputable def escC(ch:Chain)(a:Nat):List Nat:=(ch.lookup a).getD [a]
noncomputable def qt(ch:Chain):Bool:=decide (ch.Pairwise λx y=>y.1∉x.2)&&ch.all λx=>decide (x.2.length<=6)
theorem zvn[BEq α]: ∀(l r:List (α×β)) (x:α),(l++r).lookup x=((l.lookup x).or (r.lookup x)):=by
 intro zz;induction zz with
 |nil=>intro r x;simp
 |cons zq l ih=>
  obtain ⟨a,b⟩:=zq;intro r x;rw [dS,aG,aG];cases x==a with
  |true=>simp
  |false=>exact ih r x
theorem zm7: ∀{l:List (Nat×β)} {x:Nat} {v:β},l.lookup x=some v->(x,v)∈l:=λh=>by
 refine d9 (List.lookup_eq_some_iff.mp h) λl1 l2 e J=>?_
 rw [e];exact cr _ ag
theorem zy3(h: ∀x∈ch,c∉x.2)(a:Nat):((escC ch a).flatMap λb=>if b=c then z else [b])=escC (ch++ [(c,z)]) a:=by
 unfold escC;rw [zvn];cases hl:ch.lookup a with
 |some n=>exact qQ _ (h _ (zm7 hl))
 |none=>
  simp only [Option.getD_none,lN,bo,List.flatMap_nil,cC];rw [aG];by_cases hac:a=c
  ·subst hac;simp
  ·rw [show (a==c)=false by simpa using hac,if_neg hac];rfl
theorem z3e(h:ch.all (λx=>decide (x.2.length<=6))=true)(a:Nat):(escC ch a).length<=6:=by
 unfold escC;cases hl:ch.lookup a with
 |some n=>exact of_decide_eq_true (aj.mp h _ (zm7 hl))
 |none=>simp
theorem ztu{f:Nat->List Nat}(h: ∀a,(f a).length<=6): ∀l:List Nat,(l.flatMap f).length<=6*l.length
 | []=>by simp
 |a::r=>by have:=ztu h r;have:=h a;rw [bo,aC,aK];lia
theorem z7l(h:be G o ρ=some (.str s))(hne:y≠z)(hz:s.length+(s.length+1)*z.length<=16777216):be G (.repl o y z) ρ=some (.str (dE s y z)):=by simp only [eE,h,ac,vE];rw [if_pos (by simp [szok hz];exact hne)]
theorem z3f{G:GT}(l:List Nat)(hl:l.length<=100000): ∀(rest done:Chain),qt (done++rest)=true->(∀x∈rest,tx [x.1]≠tx x.2)-> eK G (ms rest) [some (.val (.str (tx (l.flatMap (escC done)))))]=some (.ret (.str (tx (l.flatMap (escC (done++rest)))))):=by
 intro zz;induction zz with
 |nil=>intro done J J;rw [cC];exact hC (jg (aO rfl))
 |cons zq rest ih=>
  obtain ⟨c,z⟩:=zq;intro done hok hne;have hok':qt ((done++ [(c,z)])++rest)=true:=by rw [cT];exact hok
  have hok2:=hok;simp only [qt,an,decide_eq_true_eq]at hok2;obtain ⟨hp,hlen⟩:=hok2;have hdl:done.all (λx=>decide (x.2.length<=6))=true:=by rw [List.all_append,an]at hlen;exact hlen.1
  have hzl:=of_decide_eq_true (aj.mp hlen (c,z) (cr _ ag));have hcur:=ztu (z3e hdl) l;have hmul:((l.flatMap (escC done)).length+1)*z.length<=((l.flatMap (escC done)).length+1)*6:=c9 _ hzl;have hstep:((l.flatMap (escC done)).flatMap λb=>if b=c then z else [b])=l.flatMap (escC (done++ [(c,z)])):=by rw [List.flatMap_assoc];congr 1;funext a;exact zy3 (λx hx=>(List.pairwise_append.mp hp).2.2 x hx (c,z) ag) a
  have ih:=ih (done++ [(c,z)]) hok' λx hx=>hne x (ah _ hx)
  rw [cT,List.singleton_append]at ih;have hfound:inP (.str (tx [c])) (.str (tx (l.flatMap (escC done))))=some (decide (c∈l.flatMap (escC done))):=by show some (!(occurrences _ _ 0 _ 1).isEmpty)=_;rw [z3d]
  refine dD (ρ':=[some (.val (.str (tx (l.flatMap (escC (done++ [(c,z)]))))))]) (ie (c:=decide (c∈l.flatMap (escC done))) (gb rfl (aO rfl) hfound) ?_) ih;by_cases hm:c∈l.flatMap (escC done)
  ·rw [decide_eq_true hm];refine dD (gG (z7l (aO rfl) (hne _ ag) ?_)) ?_
   ·rw [jc,jc];show _+_*z.length<=_;lia
   ·rw [zyy,hstep];rfl
  ·rw [decide_eq_false hm,<-hstep,qQ _ hm];rfl
noncomputable def ig:Nat->Str
 |0=>"_escape_cdata"
 |1=>"_escape_attrib"
 |2=>"_escape_attrib_html"
 |3=>"_escape_cdata_c14n"
 |_=>"_escape_attrib_c14n"
theorem zy4: ∀h<5,qt (chainOf h)=true:=by decide+kernel
theorem zy5: ∀h<5,(chainOf h).all (λx=>decide (tx [x.1]≠tx x.2))=true:=by decide+kernel
theorem oy(hh:h<5)(l:List Nat)(hl:l.length<=100000):jb G [0] [.tryS (ms (chainOf h))] 1 [.str (tx l)]=some (.str (tx (l.flatMap (escC (chainOf h))))):=by
 refine jy rfl ?_;refine hC (ja0.trans ?_);have:=z3f (G:=G) l hl (chainOf h) [] (zy4 h hh) λx hx=>of_decide_eq_true (aj.mp (zy5 h hh) x hx)
 have e:l.flatMap (escC [])=l:=by
  have:escC []=λa=>[a]:=by funext a;rfl
  rw [this];simp
 rw [e]at this;exact this
theorem z7m(d:Nat)(hh:h<5)(l:List Nat)(hl:l.length<=100000):(G2 (d+1)).fns (ig h) [.str (tx l)]=some (.str (tx (l.flatMap (escC (chainOf h))))):=by
 have h5:h=0\/h=1\/h=2\/h=3\/h=4:=by lia
 rcases h5 with rfl|rfl|rfl|rfl|rfl
 ·exact oy (G:=G2 d) (h:=0) (by decide) l hl
 ·exact oy (G:=G2 d) (h:=1) (by decide) l hl
 ·exact oy (G:=G2 d) (h:=2) (by decide) l hl
 ·exact oy (G:=G2 d) (h:=3) (by decide) l hl
 ·exact oy (G:=G2 d) (h:=4) (by decide) l hl
noncomputable def jw:List Nat:=[38,60,62,34,13,10,9]
noncomputable def nmC(h:Nat)(c:Nat):List Nat:=
 if c=38 then [38,97,109,112,59]else if c=60 then [38,108,116,59]else if c=62 then [38,103,116,59]else if c=34 then [38,113,117,111,116,59]
 else if c=13 then if h=1 then [38,35,49,51,59]else [38,35,120,68,59]
 else if c=10 then if h=1 then [38,35,49,48,59]else [38,35,120,65,59]
 else if h=1 then [38,35,48,57,59]else [38,35,120,57,59]
noncomputable def fR(h:Nat):List Nat:=(chainOf h).map (·.1)
theorem rc: ∀h<5,(fR h).all (λc=>decide (escC (chainOf h) c=nmC h c)&&jw.contains c)=true:=by decide+kernel
theorem gv_h(d:Nat)(h:qR.contains f=true)(h2:rL.lookup f=none):(G2 d).gv f=some (.fn f):=by rw [iG];show gv01 f=_;unfold gv01;rw [h2];simp only;rw [if_pos h]
theorem zvo(d:Nat)(ρ:Rho):be (G2 d) (.list [(.glob "_escape_cdata"),(.glob "_escape_attrib"),(.glob "_escape_attrib_html"),(.glob "_escape_cdata_c14n"),(.glob "_escape_attrib_c14n")]) ρ= some (.list [.fn (ig 0),.fn (ig 1),.fn (ig 2),.fn (ig 3),.fn (ig 4)]):=nr (bN (fA (gv_h d (by decide+kernel) (by rfl))) (bN (fA (gv_h d (by decide+kernel) (by rfl))) (bN (fA (gv_h d (by decide+kernel) (by rfl))) (bN (fA (gv_h d (by decide+kernel) (by rfl))) (bN (fA (gv_h d (by decide+kernel) (by rfl))) dW)))))
end Mine.Internal
namespace Mine.Internal
open PySem PySem.W PySem.Calls PyProof.Rows PySem.Challenge
noncomputable abbrev bits(x:Int):Nat:=bc x
theorem mK(h:x≠0):bits x=x.natAbs.log2+1:=by unfold bits bc;rw [if_neg (by simpa using h)]
theorem tu:bits 0=0:=rfl
theorem je(h:x.natAbs<2^k):bits x<=k:=by
 by_cases hx:x=0
 ·subst hx;exact bD _
 ·rw [mK hx];exact (Nat.log2_lt (by lia)).mpr h
theorem mJ(x:Int):x.natAbs<2^bits x:=by
 by_cases hx:x=0
 ·subst hx;decide
 ·rw [mK hx];exact Nat.lt_log2_self
theorem mj(h:0<x):1<=bits x:=by rw [mK (bh ‹_›)];exact bj _ _
theorem z7n(h:0<x):2^(bits x-1)<=x.natAbs:=by rw [mK (bh ‹_›),Nat.add_sub_cancel];exact Nat.log2_self_le (by lia)
theorem pw2(n:Nat):(0:Int)<2^n:=Int.pow_pos (by decide)
theorem zy6{x:Int}{k:Nat}(h0:0<=x)(h:x<2^k):x.natAbs<2^k:=by
 have:((x.natAbs:Nat):Int)<((2^k:Nat):Int):=by rw [uX h0];simpa using h
 exact cy.mp this
theorem iY(h0:0<=x)(h:x<2^k):bits x<=k:=je (zy6 h0 h)
theorem mT(h0:0<=x):x<2^bits x:=by have:=mJ x;have:((x.natAbs:Nat):Int)<((2^bits x:Nat):Int):=cy.mpr this;rw [uX h0]at this;simpa using this
theorem tK(h:0<x):2^(bits x-1)<=x:=by have:=z7n h;have:((2^(bits x-1):Nat):Int)<=((x.natAbs:Nat):Int):=cj.mpr this;rw [uX (al ‹_›)]at this;simpa using this
theorem cdiv(hn:1<=n):b<=n*((b+n-1)/n):=by
 have e:=j0 (b+n-1) n;have r:=Nat.mod_lt (b+n-1) hn;generalize n*((b+n-1)/n)=P at e⊢;generalize (b+n-1)%n=Q at e r;have h:b+n<=P+Q+1:=by rw [e,cF (aa hn (bj _ _))];exact az _
 exact Nat.le_of_add_le_add_right (aa h (u6 r P))
theorem rl(h0:0<=x):cY x (2^k-1)=x%2^k:=by
 have hm:(0:Int)<=2^k-1:=by have:=pw2 k;lia
 unfold cY;rw [decide_eq_true h0,decide_eq_true hm];show (((x.toNat&&&((2:Int)^k-1).toNat:Nat)):Int)=x%2^k;have e:((2:Int)^k-1).toNat=2^k-1:=by
  have:((2:Int)^k)=((2^k:Nat):Int):=by simp
  rw [this];exact z11 _
 rw [e,Nat.and_two_pow_sub_one_eq_mod];have:x=(x.toNat:Int):=(gN h0).symm
 conv=>rhs;rw [this]
 simp
theorem zvp(h0:0<=x):cY x 1=x%2:=by have:=rl (x:=x) (k:=1) h0;simpa using this
theorem zqe(hx:0<=x)(hy:0<=y)(h:y<2^k):fO (x*2^k) y=x*2^k+y:=by
 have hxk:=d8 hx (al (pw2 k));unfold fO cY fD;rw [decide_eq_false (by lia),decide_eq_false (by lia)];show-(-(((-(-(x*2^k)-1)-1).toNat|||(-(-y-1)-1).toNat:Nat):Int)-1)-1=_;have e1: -(-(x*2^k)-1)-1=x*2^k:=by lia
 have e2: -(-y-1)-1=y:=by lia
 rw [e1,e2];have hx':=(gN hx).symm;have hy':y=(y.toNat:Int):=(gN ‹_›).symm;have e3:(x*2^k).toNat=2^k*x.toNat:=by
  rw [hx'];have:((x.toNat:Int)*2^k)=((x.toNat*2^k:Nat):Int):=by simp
  rw [this,aQ,aQ,ew]
 have h':y.toNat<2^k:=by
  have:((y.toNat:Nat):Int)<((2^k:Nat):Int):=by rw [<-hy'];simpa using h
  exact cy.mp this
 rw [e3,<-Nat.two_pow_add_eq_or_of_lt h'];have:((2^k*x.toNat+y.toNat:Nat):Int)=x*2^k+y:=by rw [bC,j4,<-hx',<-hy',ed];simp
 lia
theorem ztv{x:Int}{k:Nat}:x.fdiv (2^k)=x/2^k:=ez _ (al (pw2 k))
theorem l8{a b q r:Int}(h:a=q*b+r)(h0:0<=r)(h1:r<b):a/b=q/\a%b=r:=by
 have hb:0<b:=eV ‹_› ‹_›;subst h;constructor
 ·rw [Int.add_comm,Int.add_mul_ediv_right _ _ (bh ‹_›),Int.ediv_eq_zero_of_lt h0 h1,Int.zero_add]
 ·rw [Int.add_comm,Int.add_mul_emod_self_right,Int.emod_eq_of_lt h0 h1]
theorem zy7(h:Nat):(2:Int)^(2*h)=2^h*2^h:=by rw [uT,dY]
theorem lW{x:Int}{n:Nat}:binP .RShift (.int x) (.int n)=some (.int (x/2^n)):=by show (if (0:Int)<=(n:Int)then some (PV.int (x.fdiv (2^(n:Int).toNat)))else none)=_;rw [if_pos (aI n),aQ,ztv]
theorem lw(h:bits x+n<=134217728):binP .LShift (.int x) (.int n)=some (.int (x*2^n)):=by
 have:jV ((bc x:Int)+(n:Int))=true:=by unfold jV;exact decide_eq_true (by unfold bits at h;exact cj.mpr ‹_›)
 show (if (decide ((0:Int)<=(n:Int))&&jV ((bc x:Int)+(n:Int)))=true then some (PV.int (x*2^(n:Int).toNat))else none)=_;rw [this,decide_eq_true (aI n),aQ];rfl
theorem jG(h:bits x+bits y<=134217728):binP .Mult (.int x) (.int y)=some (.int (x*y)):=by
 have:nA x y=true:=by unfold nA;simp;exact .inr h
 exact if_pos this
theorem ja2(h:bits x+n<=134217728):augP .LShift (.int x) (.int n)=some (.int (x*2^n)):=by
 have:jV ((bc x:Int)+(n:Int))=true:=by unfold jV;exact decide_eq_true (by unfold bits at h;exact cj.mpr ‹_›)
 show (if (decide ((0:Int)<=(n:Int))&&jV ((bc x:Int)+(n:Int)))=true then some (PV.int (x*2^(n:Int).toNat))else none)=_;rw [this,decide_eq_true (aI n),aQ];rfl
theorem jc5{x:Int}{n:Nat}:augP .RShift (.int x) (.int n)=some (.int (x/2^n)):=by show (if (0:Int)<=(n:Int)then some (PV.int (x.fdiv (2^(n:Int).toNat)))else none)=_;rw [if_pos (aI n),aQ,ztv]
theorem zr7(d:Nat)(args:List PV):(G2 (d+1)).fns "_div3n2n" args=jb (G2 d) tW tV zpi args:=rfl
theorem zlk(d:Nat)(args:List PV):(G2 (d+1)).fns "_div2n1n" args=jb (G2 d) tY tX zph args:=rfl
theorem zy8(d:Nat):(G2 d).gv "_div2n1n" =some (.fn "_div2n1n"):=by rw [iG];rfl
theorem zy9(d:Nat):(G2 d).gv "_div3n2n" =some (.fn "_div3n2n"):=by rw [iG];rfl
theorem rY(d:Nat):(G2 d).gv "_DIV_LIMIT" =some (.int 4000):=by rw [iG];rfl
theorem zqg(d:Nat):(G2 d).gv "divmod" =some (.bi "divmod"):=by rw [iG];rfl
theorem z3g(h:jT (λρ'=>el G t ρ') (λρ'=>eK G body ρ') 6 ρ=r):fN G (.whileS t body) ρ=r:=by simp only [xE];exact h
noncomputable abbrev mV(q r a12 a3 b b1 b2:Int)(n:Nat):Rho:=[some (.val (.int r)),some (.val (.int q)),some (.val (.int n)),some (.val (.int b2)),some (.val (.int b1)),some (.val (.int b)),some (.val (.int a3)),some (.val (.int a12))]
theorem zvr(hb:0<b): ∀(fuel:Nat) (k:Nat) (q r:Int),k<fuel-> -((k:Int)*b)<=r->r<b-> ∃j:Int,jT (λρ'=>el G (.cmp .Lt (.var 0) (.int 0)) ρ') (λρ'=>eK G [.aug 1 .Sub (.int 1),.aug 0 .Add (.var 5)] ρ') fuel (mV q r a12 a3 b b1 b2 n)=some (.next (mV (q-j) (r+j*b) a12 a3 b b1 b2 n))/\0<=r+j*b/\r+j*b<b:=by
 intro zz;induction zz with
 |zero=>intro k q r hk J J;lia
 |succ fuel ih=>
  intro k q r hk h1 h2;show let g_:=_;g_;intro g_;by_cases hr:r<0
  ·cases k with
   |zero=>simp at h1;exact absurd h1 (Int.not_le.mpr hr)
   |succ k=>
    have h1': -((k:Int)*b)<=r+b:=by
     have:((k+1:Nat):Int)*b=(k:Int)*b+b:=by rw [bC,eD];simp
     lia
    refine fT (ih k (q-1) (r+b) (lR ‹_›) h1' (by lia)) λj e h3 h4=>?_
    refine et (j+1) ?_ ?_ ?_
    ·have ht:el G (.cmp .Lt (.var 0) (.int 0)) (mV q r a12 a3 b b1 b2 n)=some true:=gb (aO rfl) rfl (by show some (decide (r<0))=_;rw [decide_eq_true hr]);have hs:eK G [.aug 1 .Sub (.int 1),.aug 0 .Add (.var 5)] (mV q r a12 a3 b b1 b2 n)=some (.next (mV (q-1) (r+b) a12 a3 b b1 b2 n)):=dD (k8 rfl rfl rfl) (dD (k8 rfl (aO rfl) rfl) iq);rw [z7i ht hs,e];have e1:q-1-j=q-(j+1):=by lia
     have e2:r+b+j*b=r+(j+1)*b:=by rw [eD];lia
     rw [e1,e2]
    ·have e2:r+b+j*b=r+(j+1)*b:=by rw [eD];lia
     lia
    ·have e2:r+b+j*b=r+(j+1)*b:=by rw [eD];lia
     lia
  ·refine et 0 ?_ (by lia) (by lia);rw [z7j (gb (aO rfl) rfl (by show some (decide (r<0))=_;rw [decide_eq_false hr]))];simp
theorem ja3{d:Nat}{a12 a3 b b1 b2:Int}{n:Nat}(hn:1<=n)(hN:n<=1000000)(hb:b=b1*2^n+b2)(h20:0<=b2)(h21:b2<2^n)(h10:2^(n-1)<=b1)(h11:b1<2^n)(h30:0<=a3)(h31:a3<2^n)(h00:0<=a12)(h01:a12*2^n+a3<b*2^n)(ih: ∀a,0<=a->a<b1*2^n->(G2 d).fns "_div2n1n" [.int a,.int b1,.int n]=some (.tuple [.int (a/b1),.int (a%b1)])): (G2 (d+1)).fns "_div3n2n" [.int a12,.int a3,.int b,.int b1,.int b2,.int n]=some (.tuple [.int ((a12*2^n+a3)/b),.int ((a12*2^n+a3)%b)]):=by
 rw [zr7];have hp:=pw2 n;have hp1:=pw2 (n-1);have hpp:(2:Int)^n=2*2^(n-1):=by
  have:n=(n-1)+1:=(cF ‹_›).symm
  conv=>lhs;rw [this,jm]
  lia
 have hb1:0<b1:=by lia
 have hab:a12<b:=by
  have:a12*2^n<b*2^n:=by lia
  exact Int.lt_of_mul_lt_mul_right this (al hp)
 have hup:a12/2^n<=b1:=by
  have:a12<(b1+1)*2^n:=by rw [eD];lia
  have:=c6 hp this;lia
 have hbl:b1*2^n<=b:=by lia
 obtain ⟨q,r,hq0,hq1,hr0,hqr,hrb,hex⟩: ∃q r:Int,0<=q/\q<2^n/\0<=r/\a12=q*b1+r/\r*2^n+a3-q*b2<b/\
   fN (G2 d) (.ite (.cmp .Eq (.bin .RShift (.var 7) (.var 2)) (.var 4)) [.asgT [1,0] (.tuple [(.bin .Sub (.bin .LShift (.int 1) (.var 2)) (.int 1)),(.bin .Add (.bin .Sub (.var 7) (.bin .LShift (.var 4) (.var 2))) (.var 4))])] [.asgT [1,0] (.call (.glob "_div2n1n") [(.var 7),(.var 4),(.var 2)])])
    [none,none,some (.val (.int n)),some (.val (.int b2)),some (.val (.int b1)),some (.val (.int b)),some (.val (.int a3)),some (.val (.int a12))]=some (.next (mV q r a12 a3 b b1 b2 n)):=by
  by_cases hc:a12/2^n=b1
  ·refine iX (2^n-1) (a12-b1*2^n+b1) (by lia) (by lia) ?_ ?_ ?_ ?_
   ·have:=Int.ediv_mul_le a12 (show (2:Int)^n≠0 from bh ‹_›);rw [hc]at this;lia
   ·rw [Int.sub_mul,kI,ed b1];lia
   ·have e1:(a12-b1*2^n+b1)*2^n+a3-(2^n-1)*b2=a12*2^n+a3-(b*2^n-b):=by rw [hb];grind
    rw [e1];lia
   ·refine ie (c:=true) (gb (cE (aO rfl) (aO rfl) lW) (aO rfl) ?_) ?_
    ·show some ((a12/2^n)==b1)=_;rw [beq_iff_eq.mpr hc]
    ·refine dD (jt (iT (bN (cE (cE rfl (aO rfl) (lw ?_)) rfl rfl) (bN (cE (cE (aO rfl) (cE (aO rfl) (aO rfl) (lw ?_)) rfl) (aO rfl) rfl) dW))) rfl) ?_
     ·have:bits 1=1:=by decide
      lia
     ·have:=iY (x:=b1) (al ‹_›) h11;lia
     ·rw [kI];exact iq
  ·have hlt:a12<b1*2^n:=Int.lt_mul_of_ediv_lt hp (by lia);refine iX (a12/b1) (a12%b1) (bT h00 (al ‹_›)) (c6 hb1 (by rw [ed];exact hlt)) (bM _ (bh ‹_›)) (by rw [ed];exact (bA a12 b1).symm) ?_ ?_
   ·have h1:=bt a12 hb1;have h2:=d8 (bT h00 (al ‹_›)) h20;have h3:(a12%b1+1)*2^n<=b1*2^n:=bd ‹_› (al ‹_›);rw [eD]at h3;lia
   ·refine ie (c:=false) (gb (cE (aO rfl) (aO rfl) lW) (aO rfl) ?_) ?_
    ·show some ((a12/2^n)==b1)=_;rw [beq_eq_false_iff_ne.mpr hc]
    ·exact dD (jt (ge (fA (zy8 d)) (bN (aO rfl) (bN (aO rfl) (bN (aO rfl) dW))) (ih a12 h00 hlt)) rfl) iq
 have hA:a12*2^n+a3=q*b+(r*2^n+a3-q*b2):=by rw [hqr,hb];grind
 have hqb:q*b2<=2*b:=by
  have h1:q*b2<=2^n*2^n:=Int.mul_le_mul (al ‹_›) (al ‹_›) h20 (al ‹_›);have h2:2^(n-1)*2^n<=b1*2^n:=bd h10 (al ‹_›);have h3:(2:Int)^n*2^n=2*(2^(n-1)*2^n):=by
   conv=>lhs;lhs;rw [hpp]
   rw [Int.mul_assoc]
  lia
 have hR0:0<=r*2^n:=d8 hr0 (al ‹_›);refine fT (zvr (G:=G2 d) (a12:=a12) (a3:=a3) (b:=b) (b1:=b1) (b2:=b2) (n:=n) (by lia) 6 2 q (r*2^n+a3-q*b2) (bj _ _) (by lia) hrb) λj hw hw0 hw1=>?_
 have hres:=l8 (a:=a12*2^n+a3) (b:=b) (q:=q-j) (r:=r*2^n+a3-q*b2+j*b) (by rw [hA,Int.sub_mul];lia) hw0 hw1;rw [hres.1,hres.2];have hrbits:bits r<=n+n+1:=by
  refine iY hr0 ?_;have h1:r<=a12:=by have:0<=q*b1:=d8 hq0 (al ‹_›);lia
  have h2:b1*2^n+b2<2^n*2^n+2^n:=by have:b1*2^n<=2^n*2^n:=bd (al ‹_›) (al ‹_›);lia
  have h3:(2:Int)^(n+n+1)=2*(2^n*2^n):=by rw [jm,dY];lia
  have h4:(2:Int)^n*1<=2^n*2^n:=dZ ‹_› (al ‹_›);lia
 refine jy rfl ?_;refine dD hex ?_;refine dD (gG (cE (cE (cE (aO rfl) (aO rfl) (lw (by lia))) (aO rfl) rfl) (cE (aO rfl) (aO rfl) (jG ?_)) rfl)) ?_
 ·have h1:=iY hq0 hq1;have h2:=iY h20 h21;lia
 ·rw [zqe hr0 h30 h31];refine dD (z3g hw) ?_;exact hC (jg (iT (bN (aO rfl) (bN (aO rfl) dW))))
theorem mI(h:m<=n):(2:Int)^m<=2^n:=by obtain ⟨k,rfl⟩:=Nat.le.dest h;rw [dY];have h1:=pw2 m;have h2:=pw2 k;have:(2:Int)^m*1<=2^m*2^k:=dZ ‹_› (al ‹_›);lia
theorem noPylong(h:bits x<=bits y+4000):aU x y=false:=by
 unfold aU;simp only [Bool.and_eq_false_iff,decide_eq_false_iff_not];by_cases hx:x=0
 ·subst hx;right;simp
 ·by_cases hy:y=0
  ·subst hy;left;simp
  ·right;rw [mK hx,mK hy]at h;rw [if_neg (by simpa using hx),if_neg (by simpa using hy)];lia
theorem zll(ha:0<=a)(hb:0<b)(h:bits a<=bits b+4000):kY (G2 d) (.bi "divmod") [.int a,.int b]=some (.tuple [.int (a/b),.int (a%b)]):=by refine ((if_neg (by decide)).trans ((if_neg (by decide)).trans ((if_neg (by decide)).trans ((if_neg (by decide)).trans (if_pos rfl)))):jh "divmod" [.int a,.int b]=bDm [.int a,.int b]).trans ?_;show (if b=0 then none else if aU a b then none else some (PV.tuple [.int (a.fdiv b),.int (a.fmod b)]))=_;rw [if_neg (bh ‹_›),noPylong h,(ez _ (al ‹_›)),(fY _ (al ‹_›))];rfl
theorem oa(h:be G e ρ=some (.int x)):be G (.meth e ("bit_length":Str) []) ρ=some (.int (bits x)):=by simp only [eE,h,ac,pE];rfl
noncomputable abbrev jc6(a b:Int)(n:Nat)(pad half mask b1 b2 q1 r q2:Option Slot):Rho:=[q2,r,q1,b2,b1,mask,half,pad,some (.val (.int n)),some (.val (.int b)),some (.val (.int a))]
theorem jc7: ∀(m d:Nat),2*m<=d-> ∀(n:Nat),1<=n->n<=4000*2^m->n<=500000-> ∀a b:Int,0<=a->2^(n-1)<=b->b<2^n->a<b*2^n-> (G2 (d+1)).fns "_div2n1n" [.int a,.int b,.int n]=some (.tuple [.int (a/b),.int (a%b)]):=by
 intro m;induction m with
 |zero=>
  intro d J n hn1 hnm hN a b ha hb1 hb2 hab;have hbp:=bJ (pw2 (n-1)) hb1;have hbb:bits b=n:=by
   have h1:=iY (al ‹_›) hb2;have h2: ¬bits b<=n-1:=λh=>by have h3:=mT (x:=b) (al ‹_›);exact absurd (bJ h3 (mI h)) (Int.not_lt.mpr hb1)
   exact ea h1 (Nat.le_of_pred_lt (Nat.lt_of_not_le h2))
  have hba:bits a<=n+n:=iY ha (by have:b*2^n<=2^n*2^n:=bd (al ‹_›) (al (pw2 n));rw [dY];lia);rw [zlk];refine jy rfl ?_;refine hC (ie (c:=true) (gb (cE (oa (aO rfl)) (aO rfl) rfl) (fA (rY d)) ?_) ?_)
  ·show some (decide ((bits a:Int)-n<=4000))=_;rw [decide_eq_true (by simp only [Nat.pow_zero]at hnm;lia)]
  ·refine hC (jg (ge (fA (zqg d)) (bN (aO rfl) (bN (aO rfl) dW)) (zll ha hbp (by simp only [Nat.pow_zero]at hnm;lia))))
 |succ m ih=>
  intro d hd n hn1 hnm hN a b ha hb1 hb2 hab;have hbp:=bJ (pw2 (n-1)) hb1;have hbb:bits b=n:=by
   have h1:=iY (al ‹_›) hb2;have h2: ¬bits b<=n-1:=λh=>by have h3:=mT (x:=b) (al ‹_›);exact absurd (bJ h3 (mI h)) (Int.not_lt.mpr hb1)
   exact ea h1 (Nat.le_of_pred_lt (Nat.lt_of_not_le h2))
  rw [zlk];by_cases hdir:(bits a:Int)-n<=4000
  ·refine jy rfl ?_;refine hC (ie (c:=true) (gb (cE (oa (aO rfl)) (aO rfl) rfl) (fA (rY d)) ?_) ?_)
   ·show some (decide ((bits a:Int)-n<=4000))=_;rw [decide_eq_true hdir]
   ·refine hC (jg (ge (fA (zqg d)) (bN (aO rfl) (bN (aO rfl) dW)) (zll ha hbp (by lia))))
  ·obtain ⟨e,rfl⟩: ∃e,d=e+2:=⟨d-2,(cF (aa (bj 2 (2*m)) ‹2*(m+1)<=d›)).symm⟩;have hba:bits a<=n+n:=iY ha (by have:b*2^n<=2^n*2^n:=bd (al ‹_›) (al (pw2 n));rw [dY];lia);have core: ∀(a' b':Int) (h:Nat) (pd:Int),1<=h->h<=4000*2^m->h<=500000->0<=a'->2^(2*h-1)<=b'->b'<2^(2*h)->a'<b'*2^(2*h)->
     eK (G2 (e+2)) [.asg 6 (.bin .RShift (.var 8) (.int 1)),.asg 5 (.bin .Sub (.bin .LShift (.int 1) (.var 6)) (.int 1)),.asgT [4,3] (.tuple [(.bin .RShift (.var 9) (.var 6)),(.bin .BitAnd (.var 9) (.var 5))]),
      .asgT [2,1] (.call (.glob "_div3n2n") [.bin .RShift (.var 10) (.var 8),.bin .BitAnd (.bin .RShift (.var 10) (.var 6)) (.var 5),.var 9,.var 4,.var 3,.var 6]),
      .asgT [0,1] (.call (.glob "_div3n2n") [.var 1,.bin .BitAnd (.var 10) (.var 5),.var 9,.var 4,.var 3,.var 6]),
      .ite (.var 7) [.aug 1 .RShift (.int 1)] [],.ret (.tuple [.bin .BitOr (.bin .LShift (.var 2) (.var 6)) (.var 0),.var 1])]
      (jc6 a' b' (2*h) (some (.val (.int pd))) none none none none none none none)=some (.ret (.tuple [.int (a'/b'),.int (if pd=0 then a'%b' else a'%b'/2)])):=by
    intro a' b' h pd h1 hm hN' ha' hb1' hb2' hab';have hp:=pw2 h;have hpp:=zy7 h;have hbp':=bJ (pw2 (2*h-1)) hb1';have b2def:b'=b'/2^h*2^h+b'%2^h:=by rw [ed];exact (bA b' (2^h)).symm
    have m0:0<=b'%2^h:=bM _ (bh ‹_›);have m1:b'%2^h<2^h:=bt _ hp;have b1lo:2^(h-1)<=b'/2^h:=by
     refine Int.le_ediv_of_mul_le hp ?_;have:(2:Int)^(h-1)*2^h=2^(2*h-1):=by rw [<-dY];congr 1;exact (Nat.sub_add_comm h1).symm.trans (by rw [uT])
     lia
    have b1hi:=c6 hp (by rw [<-hpp];exact hb2');have ihh: ∀a,0<=a->a<b'/2^h*2^h->(G2 (e+1)).fns "_div2n1n" [.int a,.int (b'/2^h),.int h]=some (.tuple [.int (a/(b'/2^h)),.int (a%(b'/2^h))]):=λa h0 h1'=>ih e (by lia) h h1 hm hN' a (b'/2^h) h0 b1lo b1hi h1'
    have A1:a'/2^(2*h)*2^h+a'/2^h%2^h=a'/2^h:=by rw [hpp,<-kJ (al hp)];have:=bA (a'/2^h) (2^h);rw [ed]at this;exact this
    have A1lt:=c6 hp (by rw [Int.mul_assoc,<-hpp];exact hab');have c1:=ja3 (d:=e+1) (a12:=a'/2^(2*h)) (a3:=a'/2^h%2^h) (b:=b') (b1:=b'/2^h) (b2:=b'%2^h) (n:=h) h1 (aa ‹_› (by decide)) b2def m0 m1 b1lo b1hi (bM _ (bh ‹_›)) (bt _ hp) (bT ha' (al (pw2 _))) (by rw [A1];exact A1lt) ihh;rw [A1]at c1;have r0:0<=a'/2^h%b':=bM _ (bh ‹_›);have r1:a'/2^h%b'<b':=bt _ hbp';have y0:0<=a'%2^h:=bM _ (bh ‹_›);have y1:a'%2^h<2^h:=bt _ hp;have A2lt:a'/2^h%b'*2^h+a'%2^h<b'*2^h:=by have:(a'/2^h%b'+1)*2^h<=b'*2^h:=bd ‹_› (al ‹_›);rw [eD]at this;lia
    have A20:0<=a'/2^h%b'*2^h+a'%2^h:=by have:=d8 r0 (al hp);lia
    have c2:=ja3 (d:=e+1) (a12:=a'/2^h%b') (a3:=a'%2^h) (b:=b') (b1:=b'/2^h) (b2:=b'%2^h) (n:=h) h1 (aa ‹_› (by decide)) b2def m0 m1 b1lo b1hi y0 y1 r0 A2lt ihh;generalize hA2:a'/2^h%b'*2^h+a'%2^h=A2 at c2 A2lt A20;have hh:((2*h:Nat):Int)/2^1=(h:Int):=by simp
    have q10:0<=a'/2^h/b':=bT (bT ha' (al ‹_›)) (al ‹_›);have whole:=l8 (a:=a') (b:=b') (q:=a'/2^h/b'*2^h+A2/b') (r:=A2%b') (by have e1:=bA a' (2^h);have e2:=bA (a'/2^h) b';have e3:=bA A2 b';generalize a'/2^h/b'=Q1 at*;generalize A2/b'=Q2 at*;generalize A2%b'=R2 at*;generalize a'/2^h%b'=R1 at*;generalize a'%2^h=Y at*;rw [<-e2]at e1;rw [<-e1];grind) (bM _ (bh ‹_›)) (bt _ hbp');rw [whole.1,whole.2];refine dD (gG (v:=.int h) (cE (aO rfl) rfl ?_)) ?_
    ·have:=lW (x:=((2*h:Nat):Int)) (n:=1);rw [hh]at this;exact this
    refine dD (gG (v:=.int (2^h-1)) (cE (cE rfl (aO rfl) (lw ?_)) rfl ?_)) ?_
    ·have:bits 1=1:=by decide
     lia
    ·show some (PV.int (1*2^h-1))=_;rw [kI]
    refine dD (jt (xs:=[.int (b'/2^h),.int (b'%2^h)]) (iT (bN (cE (aO rfl) (aO rfl) lW) (bN (cE (aO rfl) (aO rfl) ?_) dW))) rfl) ?_
    ·show some (PV.int (cY b' (2^h-1)))=_;rw [rl (al ‹_›)]
    refine dD (jt (xs:=[.int (a'/2^h/b'),.int (a'/2^h%b')]) (ge (fA (zy9 _)) (bN (cE (aO rfl) (aO rfl) lW) (bN (cE (z:=.int (a'/2^h%2^h)) (cE (aO rfl) (aO rfl) lW) (aO rfl) ?_) (bN (aO rfl) (bN (aO rfl) (bN (aO rfl) (bN (aO rfl) dW)))))) c1) rfl) ?_
    ·show some (PV.int (cY (a'/2^h) (2^h-1)))=_;rw [rl (bT ha' (al ‹_›))]
    refine dD (jt (ge (fA (zy9 _)) (bN (aO rfl) (bN (cE (z:=.int (a'%2^h)) (aO rfl) (aO rfl) ?_) (bN (aO rfl) (bN (aO rfl) (bN (aO rfl) (bN (aO rfl) dW)))))) c2) rfl) ?_
    ·show some (PV.int (cY a' (2^h-1)))=_;rw [rl ha']
    have hor:binP .BitOr (.int (a'/2^h/b'*2^h)) (.int (A2/b'))=some (.int (a'/2^h/b'*2^h+A2/b')):=by show some (PV.int (fO (a'/2^h/b'*2^h) (A2/b')))=_;rw [zqe q10 (bT A20 (al ‹_›)) (c6 hbp' (by rw [ed];exact A2lt))]
    have hq1b:bits (a'/2^h/b')+h<=134217728:=by have:=iY q10 (c6 hbp' (by rw [ed];exact A1lt));lia
    by_cases hpd:pd=0
    ·subst hpd;refine dD (ie (c:=false) (ng rfl rfl) iq) ?_;rw [if_pos rfl];exact hC (jg (iT (bN (cE (cE (aO rfl) (aO rfl) (lw hq1b)) (aO rfl) hor) (bN (aO rfl) dW))))
    ·refine dD (ie (c:=true) (ng rfl (by show some (pd !=0)=_;rw [bne_iff_ne.mpr hpd])) (dD (k8 rfl rfl (jc5 (n:=1))) iq)) ?_;rw [if_neg hpd];exact hC (jg (iT (bN (cE (cE (aO rfl) (aO rfl) (lw hq1b)) (aO rfl) hor) (bN (aO rfl) dW))))
   refine jy rfl ?_;refine dD (ie (c:=false) (gb (cE (oa (aO rfl)) (aO rfl) rfl) (fA (rY _)) ?_) iq) ?_
   ·show some (decide ((bits a:Int)-n<=4000))=_;rw [decide_eq_false hdir]
   refine dD (gG (v:=.int ((n:Int)%2)) (cE (aO rfl) rfl ?_)) ?_
   ·show some (PV.int (cY n 1))=_;rw [zvp (aI _)]
   by_cases hodd:(n:Int)%2=0
   ·obtain ⟨h,hh⟩: ∃h,n=2*h:=⟨n/2,by lia⟩;subst hh;rw [hodd];refine dD (ie (c:=false) (ng rfl rfl) iq) ?_;have:=core a b h 0 (by lia) (by rw [Nat.pow_succ]at hnm;lia) (by lia) ha hb1 hb2 hab;rw [if_pos rfl]at this;exact this
   ·obtain ⟨h,hh⟩: ∃h,n+1=2*h:=⟨(n+1)/2,by lia⟩;have hodd1:(n:Int)%2=1:=by lia
    rw [hodd1];refine dD (ie (c:=true) (ng rfl rfl) (dD (k8 rfl rfl (ja2 (n:=1) (by lia))) (dD (k8 rfl rfl (ja2 (n:=1) (by lia))) (dD (k8 rfl rfl rfl) iq)))) ?_;have e1:(2:Int)^(2*h)=2^n*2:=by rw [<-hh,jm]
    have e2:(2:Int)^(2*h-1)=2^(n-1)*2:=by
     have:2*h-1=(n-1)+1:=by rw [<-hh,Nat.add_sub_cancel,cF ‹1<=n›]
     rw [this,jm]
    have:=core (a*2^1) (b*2^1) h 1 (by lia) (by rw [Nat.pow_succ]at hnm;lia) (by lia) (by lia) (by rw [e2];lia) (by rw [e1];lia) (by
     rw [e1];have:b*2^1*(2^n*2)=b*2^n*4:=by grind
     rw [this];have hh0:=d8 (al ‹_›) (al (pw2 n));lia)
    rw [if_neg (by decide)]at this;have e34:=l8 (a:=a*2^1) (b:=b*2^1) (q:=a/b) (r:=a%b*2) (by have:=bA a b;generalize a/b=Q at*;generalize a%b=R at*;rw [<-this];grind) (by have:=bM a (show b≠0 from bh ‹_›);lia) (by have:=bt a hbp;lia);have e4:a*2^1%(b*2^1)/2=a%b:=by rw [e34.2];exact Int.mul_ediv_cancel _ (by decide)
    rw [e34.1,e4]at this;have e5:((n:Int)+1)=((2*h:Nat):Int):=by lia
    rw [<-this];show eK _ _ [none,none,none,none,none,none,none,some (.val (.int 1)),some (.val (.int ((n:Int)+1))),some (.val (.int (b*2^1))),some (.val (.int (a*2^1)))]=_;rw [e5]
noncomputable def figs(N:Nat)(a:Int):Nat->List Int
 |0=>[]
 |c+1=>a%2^N::figs N (a/2^N) c
theorem mv:(∀N a,figs N a 0=[])/\(∀N a c,figs N a (c+1)=a%2^N::figs N (a/2^N) c):=⟨λJ J=>rfl,λJ J J=>rfl⟩
theorem zvs(N:Nat): ∀(c:Nat) (a:Int),0<=a->(bl c).map (λk=>a/2^(N*k)%2^N)=figs N a c:=by
 intro zz;induction zz with
 |zero=>exact λa J=>rfl
 |succ c ih=>intro a ha;rw [List.range_succ_eq_map,ax,cf];simp only [Nat.mul_zero,Int.pow_zero,Int.ediv_one,mv,List.cons.injEq,true_and];rw [<-ih (a/2^N) (bT ha (al (pw2 N)))];apply dC;intro k J;show a/2^(N*(k+1))%2^N=_;rw [Nat.mul_add,Nat.mul_one,dR,dY,<-kJ (al (pw2 N))]
theorem nR{a:Int}{N:Nat}(ha:0<=a):digitsOf a N=figs N a ((bits a+N-1)/N):=by exact zvs N _ a ha
theorem zlm(N:Nat): ∀(c:Nat) (a:Int),(figs N a c).length=c:=by
 intro zz;induction zz with
 |zero=>exact λJ=>rfl
 |succ c ih=>intro a;simp [mv,ih]
theorem zoo(N:Nat): ∀(c:Nat) (a:Int),0<=a->a<2^(N*c)->numberOf N (figs N a c)=a:=by
 intro zz;induction zz with
 |zero=>intro a h0 h;simp at h;simp [mv,gJ];lia
 |succ c ih=>
  intro a h0 h;have hp:=pw2 N;simp only [mv,gJ,aQ];rw [ih (a/2^N) (bT h0 (al hp)) (c6 hp (by
   rw [<-dY];have:N*c+N=N*(c+1):=by rw [Nat.mul_add,Nat.mul_one]
   rw [this];exact h)),ed]
  exact bA a (2^N)
theorem zvt(N:Nat): ∀(c:Nat) (a:Int),∀x∈figs N a c,0<=x/\x<2^N:=by
 intro zz;induction zz with
 |zero=>intro a x h;cases h
 |succ c ih=>
  intro a x h;rcases aw.mp h with rfl|h
  ·exact ⟨bM _ (by have:=pw2 N;exact bh ‹_›),bt _ (pw2 N)⟩
  ·exact ih _ x h
theorem zln{a:Int}{N:Nat}(ha:0<=a)(hN:1<=N):numberOf N (digitsOf a N)=a:=by rw [nR ha];refine zoo N _ a ha ?_;have h1:=mT ha;have:=mI (cdiv ‹_›:bits a<=N*((bits a+N-1)/N));lia
noncomputable def highs(N:Nat):Int->List Int->Int
 |v,[]=>v
 |v,x::xs=>highs N (v*2^N+x) xs
theorem ja4(N:Nat)(v x:Int)(xs:List Int):highs N v (x::xs)=highs N (v*2^N+x) xs:=rfl
theorem zqi(N:Nat): ∀(xs:List Int) (v y:Int),highs N v (xs++ [y])=highs N v xs*2^N+y:=by
 intro zz;induction zz with
 |nil=>exact λv y=>rfl
 |cons x xs ih=>exact λv y=>ih _ y
theorem zg8(N:Nat): ∀(l:List Int),numberOf N l=highs N 0 l.reverse:=by
 intro zz;induction zz with
 |nil=>exact rfl
 |cons x l ih=>rw [dX,zqi,<-ih];simp [gJ]
noncomputable def ldiv(N:Nat)(b:Int):Int->List Int->List Int×Int
 |r,[]=>([],r)
 |r,x::xs=>((r*2^N+x)/b::(ldiv N b ((r*2^N+x)%b) xs).1,(ldiv N b ((r*2^N+x)%b) xs).2)
theorem rK:(∀N b r,ldiv N b r []=([],r))/\(∀N b r x xs,ldiv N b r (x::xs)=((r*2^N+x)/b::(ldiv N b ((r*2^N+x)%b) xs).1,(ldiv N b ((r*2^N+x)%b) xs).2)):=⟨λJ J J=>rfl,λJ J J J J=>rfl⟩
theorem zzb(N:Nat)(hb:0<b): ∀(xs:List Int) (Q r:Int),0<=r->r<b->highs N (Q*b+r) xs=highs N Q (ldiv N b r xs).1*b+(ldiv N b r xs).2/\0<=(ldiv N b r xs).2/\(ldiv N b r xs).2<b:=by
 intro zz;induction zz with
 |nil=>exact λQ r h0 h1=>⟨rfl,h0,h1⟩
 |cons x xs ih=>
  intro Q r h0 h1;have ih:=ih (Q*2^N+(r*2^N+x)/b) ((r*2^N+x)%b) (bM _ (bh ‹_›)) (bt _ hb);refine ⟨?_,ih.2⟩;simp only [ja4,rK];rw [<-ih.1];congr 1;have:=bA (r*2^N+x) b;generalize (r*2^N+x)/b=q at*;generalize (r*2^N+x)%b=t at*;have e:(Q*b+r)*2^N+x=Q*b*2^N+(r*2^N+x):=by rw [eD];lia
  rw [e,<-this];grind
theorem zr9(N:Nat)(b:Int): ∀(xs:List Int) (r:Int),(ldiv N b r xs).1.length=xs.length:=by
 intro zz;induction zz with
 |nil=>exact λJ=>rfl
 |cons x xs ih=>intro r;simp [rK,ih]
theorem zvu(N:Nat)(hb:0<b): ∀(xs:List Int) (r:Int),(∀x∈xs,0<=x/\x<2^N)->0<=r->r<b-> ∀q∈(ldiv N b r xs).1,0<=q/\q<2^N:=by
 intro zz;induction zz with
 |nil=>intro r J J J q h;cases h
 |cons x xs ih=>
  intro r hx h0 h1 q h;have hp:=pw2 N;have hxx:=hx x ag;rcases aw.mp h with rfl|h
  ·refine ⟨bT (by have:=d8 h0 (al hp);lia) (al ‹_›),c6 hb ?_⟩;have:(r+1)*2^N<=b*2^N:=bd ‹_› (al ‹_›);rw [eD]at this;rw [ed (2^N)];lia
  ·exact ih _ (λy hy=>hx y (ah _ hy)) (bM _ (bh ‹_›)) (bt _ hb) q h
theorem zmj(d:Nat)(args:List PV):(G2 (d+1)).fns "_divmod_pos" args=jb (G2 d) uq uo zjy args:=rfl
theorem z5n(d:Nat):(G2 d).gv "_int2digits" =some (.fn "_int2digits"):=by rw [iG];rfl
theorem rX(d:Nat):(G2 d).gv "_digits2int" =some (.fn "_digits2int"):=by rw [iG];rfl
theorem ja5(d:Nat):(G2 d).gv "_divmod_pos" =some (.fn "_divmod_pos"):=by rw [iG];rfl
theorem rW(d:Nat):(G2 d).gv "int_divmod" =some (.fn "int_divmod"):=by rw [iG];rfl
theorem ztw{d:Nat}{a:Int}{n:Nat}(ha:0<=a)(hn:1<=n)(hN:n<=250000)(hl:(digitsOf a n).length<=256)(hd:10<=d):kY (G2 (d+1)) (.fn "_int2digits") [.int a,.int n]=some (.list ((digitsOf a n).map .int)):=by show nM d "_int2digits" [.int a,.int n]=_;unfold nM;rw [if_pos rfl];exact if_pos ⟨ha,(cy.mpr ‹_›),by lia,hl,hd⟩
theorem sU{d:Nat}{l:List Int}{n:Nat}(hn:1<=n)(hN:n<=250000)(hl:l.length<=256)(hb: ∀x∈l,bits x<=250000)(hd:10<=d):kY (G2 (d+1)) (.fn "_digits2int") [.list (l.map .int),.int n]=some (.int (numberOf n l)):=by show nM d "_digits2int" [.list (l.map .int),.int n]=_;unfold nM;rw [if_neg (by decide),if_pos rfl];show (jn (l.map PV.int)).bind _=_;rw [oX,ac];exact if_pos ⟨(cy.mpr ‹_›),(cj.mpr ‹_›),hl,aj.mpr λx hx=>decide_eq_true (hb x hx),hd⟩
theorem z3i{d m:Nat}(hd:2*m<=d){n:Nat}(hn:1<=n)(hnm:n<=4000*2^m)(hN:n<=125000){a b:Int}{ads:PV}(hb1:2^(n-1)<=b)(hb2:b<2^n): ∀(xs qs:List Int) (r:Int) (o1 o2:Option Slot),(∀x∈xs,0<=x/\x<2^n)->0<=r->r<b->qs.length+xs.length<=1000-> ∃o1' o2',kn (G2 (d+1)) [2] true [.asgT [1,4] (.call (.glob "_div2n1n") [(.bin .Add (.bin .LShift (.var 4) (.var 6)) (.var 2)),(.var 7),(.var 6)]),.app 3 (.var 1)] (xs.map .int) [none,o1,o2,some (.own (qs.map .int)),some (.val (.int r)),some (.val ads),some (.val (.int n)),some (.val (.int b)),some (.val (.int a))]= some (.next [none,o1',o2',some (.own ((qs++(ldiv n b r xs).1).map .int)),some (.val (.int (ldiv n b r xs).2)),some (.val ads),some (.val (.int n)),some (.val (.int b)),some (.val (.int a))]):=by
 intro zz;induction zz with
 |nil=>exact λqs r o1 o2 J J J J=>⟨o1,o2,by simp [qH,rK]⟩
 |cons x xs ih=>
  intro qs r o1 o2 hx h0 h1 hl;have hp:=pw2 n;have hbp:=bJ (pw2 (n-1)) hb1;have hxx:=hx x ag;have ht0:0<=r*2^n+x:=by have:=d8 h0 (al hp);lia
  have ht1:r*2^n+x<b*2^n:=by have:(r+1)*2^n<=b*2^n:=bd ‹_› (al ‹_›);rw [eD]at this;lia
  simp only [aK]at hl;obtain ⟨o1',o2',e⟩:=ih (qs++ [(r*2^n+x)/b]) ((r*2^n+x)%b) (some (.val (.int ((r*2^n+x)/b)))) (some (.val (.int x))) (λy hy=>hx y (ah _ hy)) (bM _ (bh ‹_›)) (bt _ hbp) (by simp;lia);refine ⟨o1',o2',(lh (ρ':=[none,some (.val (.int ((r*2^n+x)/b))),some (.val (.int x)),some (.own ((qs++ [(r*2^n+x)/b]).map .int)),some (.val (.int ((r*2^n+x)%b))),some (.val ads),some (.val (.int n)),some (.val (.int b)),some (.val (.int a))]) ?_).trans ?_⟩
  ·refine dD (jt (ge (fA (zy8 _)) (bN (cE (cE (aO rfl) (aO rfl) (lw ?_)) (aO rfl) rfl) (bN (aO rfl) (bN (aO rfl) dW))) (jc7 m d hd n hn hnm (aa hN (by decide)) (r*2^n+x) b ht0 hb1 hb2 ht1)) rfl) ?_
   ·have:=iY h0 (Int.lt_trans h1 hb2);lia
   ·have:=jay (G:=G2 (d+1)) (t:=3) (e:=.var 1) (ρ:=[none,some (.val (.int ((r*2^n+x)/b))),some (.val (.int x)),some (.own (qs.map .int)),some (.val (.int ((r*2^n+x)%b))),some (.val ads),some (.val (.int n)),some (.val (.int b)),some (.val (.int a))]) rfl (aO rfl) (by simp;lia);refine dD this ?_;rw [dM];exact iq
  ·rw [e];simp only [rK,cT,List.singleton_append]
theorem zvv{d m:Nat}(hd:2*m<=d)(h8:10<=d){a b:Int}(ha:0<=a)(hb:0<b)(hbm:bits b<=4000*2^m)(hN:bits b<=125000)(hl:(bits a+bits b-1)/bits b<=256): (G2 (d+2)).fns "_divmod_pos" [.int a,.int b]=some (.tuple [.int (a/b),.int (a%b)]):=by
 rw [zmj];have hn1:=mj hb;have hb1:=tK hb;have hb2:=mT (x:=b) (al ‹_›);generalize hn:bits b=n at*;have hlen:(digitsOf a n).length<=256:=by rw [nR ha,zlm];exact hl
 have hdb: ∀x∈(digitsOf a n).reverse,0<=x/\x<2^n:=λx hx=>zvt n _ a x (by rw [<-nR ha];exact List.mem_reverse.mp hx)
 obtain ⟨o1,o2,e⟩:=z3i hd hn1 hbm hN (a:=a) (ads:=.list ((digitsOf a n).map .int)) hb1 hb2 (digitsOf a n).reverse [] 0 none none hdb (dL _) hb (by simp;exact aa ‹_› (by decide));have hsp:=zzb n hb (digitsOf a n).reverse 0 0 (dL _) hb;have hqb:=zvu n hb (digitsOf a n).reverse 0 hdb (dL _) hb;have hql:=zr9 n b (digitsOf a n).reverse 0;generalize hL:ldiv n b 0 (digitsOf a n).reverse=L at*;rw [Int.zero_mul,Int.zero_add,<-zg8,zln ha hn1]at hsp;have hres:=l8 hsp.1 hsp.2.1 hsp.2.2;rw [hres.1,hres.2];refine jy rfl ?_;refine dD (gG (v:=.int n) ?_) ?_
 ·have:=oa (G:=G2 (d+1)) (e:=.var 7) (ρ:=[none,none,none,none,none,none,none,some (.val (.int b)),some (.val (.int a))]) (x:=b) (aO rfl);rw [hn]at this;exact this
 refine dD (gG (ge (fA (z5n _)) (bN (aO rfl) (bN (aO rfl) dW)) (ztw ha hn1 (aa ‹_› (by decide)) hlen h8))) ?_;refine dD (gG rfl) ?_;refine dD (zqc (v:=.list []) rfl rfl) ?_;refine dD (mD (items:=(digitsOf a n).reverse.map .int) ?_ rfl e) ?_
 ·show some (((digitsOf a n).map PV.int).reverse)=_;rw [List.map_reverse]
 refine dD (z7h rfl) ?_;refine dD (zys rfl) ?_;have hrev:(([]++L.1).map PV.int).reverse=(L.1.reverse).map PV.int:=by rw [List.nil_append,List.map_reverse]
 rw [hrev];refine dD (gG (ge (fA (rX _)) (bN (aO rfl) (bN (aO rfl) dW)) (sU hn1 (aa ‹_› (by decide)) ?_ ?_ h8))) ?_
 ·rw [gL,hql,gL];exact hlen
 ·intro x hx;have:=hqb x (List.mem_reverse.mp hx);have:=iY this.1 this.2;lia
 ·rw [zg8,List.reverse_reverse];exact hC (jg (iT (bN (aO rfl) (bN (aO rfl) dW))))
theorem uB(d:Nat)(args:List PV):(G2 (d+1)).fns "int_divmod" args=jb (G2 d) un um zjz args:=rfl
theorem oO(h:x.natAbs<=y.natAbs):bits x<=bits y:=je (Nat.lt_of_le_of_lt h (mJ y))
theorem oN:bits (-x)=bits x:=by exact ea (oO (dc (Int.natAbs_neg x))) (oO (dc (Int.natAbs_neg x).symm))
theorem zze(h:a'<=a)(h2:(a+n-1)/n<=256):(a'+n-1)/n<=256:=aa (Nat.div_le_div_right (uU (bW h n) 1)) h2
theorem ztx(hd:2*m<=d)(h8:10<=d)(ha:0<=a)(hb:0<b)(hbm:bits b<=4000*2^m)(hN:bits b<=125000)(hl:(bits a+bits b-1)/bits b<=256): (G2 (d+3)).fns "int_divmod" [.int a,.int b]=some (.tuple [.int (a/b),.int (a%b)]):=by rw [uB];refine jy rfl ?_;refine hC (ie (c:=false) (gb (aO rfl) rfl (by show some (b==0)=_;rw [beq_eq_false_iff_ne.mpr (bh ‹_›)])) ?_);refine hC (ie (c:=false) (gb (aO rfl) rfl (by show some (decide (b<0))=_;rw [decide_eq_false (by lia)])) ?_);refine hC (ie (c:=false) (gb (aO rfl) rfl (by show some (decide (a<0))=_;rw [decide_eq_false (by lia)])) ?_);exact hC (jg (ge (fA (ja5 _)) (bN (aO rfl) (bN (aO rfl) dW)) (zvv hd h8 ha hb hbm hN hl)))
theorem fdm{a b:Int}(hb:0<b):a.fdiv b=a/b/\a.fmod b=a%b:=⟨ez _ (al ‹_›),fY _ (al ‹_›)⟩
theorem zqj(hd:2*m<=d)(h8:10<=d)(hb:0<b)(hbm:bits b<=4000*2^m)(hN:bits b<=125000)(hl:(bits a+bits b-1)/bits b<=256): (G2 (d+4)).fns "int_divmod" [.int a,.int b]=some (.tuple [.int (a/b),.int (a%b)]):=by
 by_cases ha:0<=a
 ·exact ztx (d:=d+1) (by lia) (by lia) ha hb hbm hN hl
 ·rw [uB];have ha':0<= -a-1:=by lia
  have ih:=ztx hd h8 ha' hb hbm hN (zze (oO (by lia)) hl);have hdv:=l8 (a:=a) (b:=b) (q:=-((-a-1)/b)-1) (r:=b+(-((-a-1)%b)-1)) (by
   have:=bA (-a-1) b;generalize (-a-1)/b=Q at*;generalize (-a-1)%b=R at*;have e:(-Q-1)*b= -(b*Q)-b:=by grind
   rw [e];lia) (by have:=bt (-a-1) hb;lia) (by have:=bM (-a-1) (show b≠0 from bh ‹_›);lia)
  rw [hdv.1,hdv.2];refine jy rfl ?_;refine hC (ie (c:=false) (gb (aO rfl) rfl (by show some (b==0)=_;rw [beq_eq_false_iff_ne.mpr (bh ‹_›)])) ?_);refine hC (ie (c:=false) (gb (aO rfl) rfl (by show some (decide (b<0))=_;rw [decide_eq_false (by lia)])) ?_);refine hC (ie (c:=true) (gb (aO rfl) rfl (by show some (decide (a<0))=_;rw [decide_eq_true (by lia)])) ?_);refine dD (jt (ge (fA (rW _)) (bN (sj (aO rfl)) (bN (aO rfl) dW)) ih) rfl) ?_;exact hC (jg (iT (bN (sj (aO rfl)) (bN (cE (aO rfl) (sj (aO rfl)) rfl) dW))))
theorem idiv{d m:Nat}(hd:2*m<=d)(h8:10<=d){a b:Int}(hb:b≠0)(hbm:bits b<=4000*2^m)(hN:bits b<=125000)(hl:(bits a+bits b-1)/bits b<=256): (G2 (d+5)).fns "int_divmod" [.int a,.int b]=some (.tuple [.int (a.fdiv b),.int (a.fmod b)]):=by
 by_cases hb0:0<b
 ·rw [(fdm hb0).1,(fdm hb0).2];exact zqj (d:=d+1) (by lia) (by lia) hb0 hbm hN hl
 ·have hb':0< -b:=by lia
  have e1:a.fdiv b= -a/ -b:=by rw [<-(fdm hb').1,Int.neg_fdiv_neg]
  have e2:a.fmod b= -(-a% -b):=by
   have h2:=bA (-a) (-b);rw [(Int.fmod_def a b),e1];have e:b*(-a/ -b)= -(-b*(-a/ -b)):=by rw [Int.neg_mul,Int.neg_neg]
   rw [e];lia
  rw [e1,e2,uB];refine jy rfl ?_;refine hC (ie (c:=false) (gb (aO rfl) rfl (by show some (b==0)=_;rw [beq_eq_false_iff_ne.mpr ‹_›])) ?_);refine hC (ie (c:=true) (gb (aO rfl) rfl (by show some (decide (b<0))=_;rw [decide_eq_true (by lia)])) ?_);refine dD (jt (ge (fA (rW _)) (bN (sn (aO rfl)) (bN (sn (aO rfl)) dW)) (zqj (a:=-a) (b:=-b) hd h8 hb' (by rw [oN];exact hbm) (by rw [oN];exact hN) (by rw [oN,oN];exact hl))) rfl) ?_;exact hC (jg (iT (bN (aO rfl) (bN (sn (aO rfl)) dW))))
section
variable{p:Program}{w:World}{s0 s:Shared}{mg mb:Str->Option Value}{k ad:Addr}{ns:List Int}
variable(H:jS p w s0 mg mb k ad ns){tabs:List jI}(N:j7 s0 k tabs){L:Lits}
theorem zvw(hd:CodeHd s0.heap c P)(ck:c<=k)(hi:(fP H N L).Inv h):CodeHd h c P:=
 qT hd λo e=>hi.1 c o ck (N.ne e λq=>by obtain ⟨o_2,J,J,J,J,J,J,J,J,e_2,hcls,J⟩:=hd;rw [e_2]at e;replace e:=oj e;subst e;rw [q]at hcls;cases hcls) e
theorem zsa(hq:q∈tabs)(hd:CodeHd s0.heap c q.1)(ck:c<=k)(hi:(fP H N L).Inv s.heap)(he:env.code= .ref c)(h: ∀c' h' tk,Ext0 (fP H N L) s {s with heap:=h',toks:=tk}->k+1<=c'->h'.CodeRec (.ref c') q.2.2->(∃o,h'.get? c'=some o/\i0 o)->Q (.ref c') {s with heap:=h',toks:=tk}): wpAny M A (functionCode env q.2.1 firstLine name q.2.2 params scope body) Q E s:=by
 show let g_:=_;g_;intro g_;refine fT (hi.2 q hq) λps hP ht hc=>?_
 have hh:=zvw H N hd ck hi;rcases hc with hc|⟨c',o,vs,t,hn,hc,ho,hcls,hdt,hv⟩
 ·refine wpAny_functionCodeX he (hh.code hP ht) (hh.tab hP) hc λc' h' tk hx hge hlt J hrec htb htb'=>?_
  show let g_:=_;g_;intro g_;obtain ⟨P',J,J,⟨⟨oc,vc,e1,e2,e3,J⟩,J⟩⟩:=htb';refine z1x (id hrec) λc_2 oc2 vs t e4 g1 g2 g3=>?_
  cases e4;rw [e1]at g1;cases (g1);rw [e3]at g2;cases g2;have hlow:=(fP H N L).low hi;refine h c' h' tk ⟨λb o lo e=>hx b o (λr=>by subst r;exact aW _ (af (fk (N.lo q hq)) lo)) e,λJ=>⟨λb o hb hn e=>?_,λq' hq'=>?_⟩,rfl,rfl,rfl⟩ (aa hlow hge) hrec ⟨oc,e1,e2,vc,e3⟩
  ·exact hx b o (λr=>hn (bg.mpr (bK q hq r.symm))) (hi.1 b o hb hn e)
  ·show let g_:=_;g_;intro g_;by_cases hqq:q'.1=q.1
   ·refine fT (hi.2 q' hq') λps' hP' ht' hc'=>?_
    rw [hqq,hP]at hP';cases hP';refine et _ (by rw [hqq];exact htb.2) (by simpa using TriplesOk_snoc _ _ _ _ ht) ?_;have ha:(ps++ #[rawInt q.2.1.line,rawInt q.2.1.col,dz c']).toList=ps.toList++ [rawInt q.2.1.line,rawInt q.2.1.col,.ref c']:=by simp
    rw [ha,zoj _ _ _ _ ht];rcases hc' with hc'|⟨c_1,o_1,vs1,t_1,h0,h1,h2,h3,h4,h5⟩
    ·rw [hc'];by_cases hp:(((q.2.1.line:Nat):Int)==((q'.2.1.line:Nat):Int)&&((q.2.1.col:Nat):Int)==((q'.2.1.col:Nat):Int))=true
     ·refine .inr ⟨c',oc,vc,t,aa hlow hge,by simp only [hp,if_true],e1,e2,e3,?_⟩;rw [<-N.uniq q hq q' hq' (by lia) (by lia)];exact g3
     ·exact .inl (by simp only [hp];rfl)
    ·rw [h1];exact .inr ⟨c_1,o_1,vs1,t_1,h0,rfl,hx _ _ (λr=>by subst r;exact aW _ (af (fk (N.lo q hq)) h0)) h2,h3,h4,h5⟩
   ·refine fT (hi.2 q' hq') λps' hP' ht' hc'=>?_
    refine et ps' (hx _ _ hqq hP') ht' ?_;show let g_:=_;g_;intro g_;rcases hc' with hc'|⟨c_1,o_1,vs1,t_1,h0,h1,h2,h3⟩
    ·exact .inl hc'
    ·exact .inr (tb c_1 o_1 vs1 t_1 h0 h1 (hx _ _ (λr=>by subst r;exact aW _ (af (fk (N.lo q hq)) h0)) h2) h3)
 ·exact wpAny_functionCode_hit he (hh.code hP ht) hc (h c' s.heap s.toks (.refl s) hn (tb c' o vs t rfl ho hdt hv) ⟨o,ho,hcls,vs,hdt⟩)
structure ja6(C:CX)(s s':Shared)(f:Addr)(name qual:Str)(params:Arguments)(body:List Stmt)(scope:Scope)(clos:List (Str×Addr)):Prop where
 ext:Ext0 C s s'
 new:s.heap.get? f=none
 lo:C.n₀<=f
 fn: ∃doc pm c' ctv o,s'.heap.get? f=some o/\o.data= .func (fnX name qual params body scope clos .none .none doc pm none (.ref c') ctv)/\C.n₀<=c'/\s'.heap.CodeRec (.ref c') qual/\ ∃o',s'.heap.get? c'=some o'/\i0 o'
theorem zzf(hq:q∈tabs)(hd:CodeHd s0.heap c q.1)(ck:c<=k)(hi:(fP H N L).Inv s.heap)(he:env.code= .ref c)(hg:env.globals=aP)(hcl:closureFor scope env=pure clos)(hdoc:docOf body=none)(h: ∀f s',ja6 (fP H N L) s s' f name q.2.2 params body scope clos->Q (.ref f) s'): wpAny M A (makeFunction name q.2.2 params (.stmts body) scope env [] [] [] q.2.1 firstLine) Q E s:=by
 rw [makeFunction_eq];simp only [List.zip_nil_right,List.filterMap_nil,List.isEmpty_nil,if_true,gS];unfold makeTail;rw [hcl,hg];refine ab (am ?_);obtain ⟨bm,ob,bk,b1,b2,b3,b4,b5,b6⟩:=H.bmain;have rest: ∀(s₁:Shared) (cv:Value),Ext0 (fP H N L) s s₁->wpAny M A (functionCode env q.2.1 firstLine name q.2.2 params scope (.stmts body)>>=λcode=>builtinsFor aP env.builtins>>=λbu=>nsGet aP "__name__" >>=λpm=>pure bV>>=λdoc=>newObj (.type "function") (.func {name:=name,qualname:=q.2.2,params:=params,body:=.stmts body,scope:=scope,globals:=aP,closure:=clos,closureTuple:=cv,code:=code,builtins:=bu,defaults:=bV,kwdefaults:=bV,annotations:=none,pyModule:=pm.getD .none,doc:=doc})) Q E s₁:=λs₁ cv x=>by
  refine ab (zsa H N hq hd ck (x.inv hi) he λc' h' tk x' hn hrec ho=>?_);have i':=x'.inv (x.inv hi);refine ab (wpAny_builtinsFor ((fP H N L).g i') b1 b2 ((λhi'=>hi'.1 bm ob bk (N.ne b3 λq=>by rw [q]at b4;cases b4) b3) i') b4 b5 b6 ?_);refine ab (wpAny_nsGet ((fP H N L).g i') (ab (am (fB ?_ (by size_fits)))));refine h _ _ ⟨x.trans (x'.trans (.push _ _)),?_,(fP H N L).low i',?_⟩
  ·cases e:s.heap.get? h'.objs.size with
   |none=>rfl
   |some o=>exact absurd (aB (x'.new _ o ((fP H N L).low i') (x.new _ o ((fP H N L).low i') e))) (aW _)
  ·refine aN ho λo' e' hc'=>?_
   exact ⟨_,_,c',cv,_,au _ rfl,rfl,hn,hrec.push _,o',aq _ e',hc'⟩
 have hb:(match FuncBody.stmts body with
  | .stmts b=>(match docOf b with|some s=>mkText s|none=>pure bV)
  | .expr _=>pure bV:Sem Value)=pure bV:=by simp only [hdoc]
 cases clos with
 |nil=>simp only [List.isEmpty_nil,if_true];refine ab (am ?_);rw [hdoc];exact rest s .none (.refl s)
 |cons a r=>simp only [List.isEmpty_cons,eX,if_false];refine ab (wpAny_newTextTuple ?_);rw [hdoc];exact rest _ _ (.push _ _)
end
structure kB(C:CX)(h:Heap)(f:Addr)(name qual:Str)(params:Arguments)(body:List Stmt)(scope:Scope)(clos:List (Str×Addr)):Prop where
 lo:C.n₀<=f
 fn: ∃doc pm c' ctv o,h.get? f=some o/\o.data= .func (fnX name qual params body scope clos .none .none doc pm none (.ref c') ctv)/\C.n₀<=c'/\h.CodeRec (.ref c') qual/\ ∃o',h.get? c'=some o'/\i0 o'
theorem kB.keep(x:kB C h f name qual params body scope clos)(k: ∀b o,C.n₀<=b->(i0 o\/ ∃fd,o.data= .func fd)->h.get? b=some o->h'.get? b=some o):kB C h' f name qual params body scope clos:=by show let g_:=_;g_;intro g_;obtain ⟨lo,doc,pm,c',ctv,o,e,hd,hc,hr,o',e',ho⟩:=x;exact ⟨lo,doc,pm,c',ctv,o,k f o lo (.inr ⟨_,hd⟩) e,hd,hc,hr.at λo_2 e_2=>k c' o_2 hc (.inl (by rw [e']at e_2;replace e_2:=oj e_2;subst e_2;exact ho)) e_2,o',k c' o' hc (.inl ho) e',ho⟩
theorem zvx: ∀{xs:List Str} {vs:List Value} {j:Nat} {x:Str} {v:Value},xs.Nodup->xs[j]?=some x->vs[j]?=some v->(xs.zip vs).reverse.lookup x=some v:=by
 intro xs;induction xs with
 |nil=>intro vs j x v J h;simp at h
 |cons y ys ih=>
  intro vs j x v hn hx hv;cases vs with
  |nil=>simp at hv
  |cons u us=>
   rw [eh,dX,io];cases j with
   |zero=>
    simp at hx hv;subst hx hv;have: ∀(l:List (Str×Value)),(∀q∈l,q.1≠y)->l.lookup y=none:=λl=>by
     induction l with
     |nil=>intro J;rfl
     |cons q r ih'=>
      intro h;obtain ⟨a,b⟩:=q;have:(y==a)=false:=by simpa using λe=>h (a,b) ag e.symm
      rw [aG,this];exact ih' λq hq=>h q (ah _ hq)
    rw [this _ λq hq e=>(dd.mp hn).1 (by obtain ⟨a,b⟩:=q;simp only at e;subst e;exact (j1 (List.mem_reverse.mp hq)).1)];simp
   |succ j=>rw [ih (dd.mp hn).2 (by simpa using hx) (by simpa using hv)];rfl
section
variable{C:CX}{c:CE}{W OO:Addr->Prop}{s:Shared}
structure rV(C:CX)(c:CE)(W OO:Addr->Prop)(h:Heap)(scope:Scope)(clos:List (Str×Addr))(ρ0:Rho):Prop where
 sc: ∀x,c.sc.names.lookup x=scope.names.lookup x\/c.sc.names.lookup x=none
 base:c.base=0
 ow: ∀b,OO b->W b
 cells: ∀x,c.sc.names.lookup x=some .free-> ∃b v,clos.lookup x=some b/\OO b/\h.IsCell b v
 cinj: ∀x y b,clos.lookup x=some b->clos.lookup y=some b->x=y
 top: ∀(i:Nat) (sl:Slot),ρ0[i]?=some (some sl)-> ∃x,idx c.σ x=some i/\c.sc.names.lookup x=some .free/\ ∃b v,clos.lookup x=some b/\h.IsCell b (some v)/\RepS C h W OO sl v
 one: ∀(i j:Nat) (sl t:Slot),ρ0[i]?=some (some sl)->ρ0[j]?=some (some t)->sl.isOwn=true->t.isOwn=true->i=j
theorem zm8(hk:scope.kind= .function)(hco:scope.isCoroutine=false)(hgen:scope.isGenerator=false)(hcell: ∀x∈scope.names,x.2≠ .cell)(hpar:params=⟨[],as,none,[],[],none,[]⟩)(hn:(as.map (·.arg)).Nodup)(hp:Places c (as.map (·.arg)) ts)(hloc: ∀a∈as,c.sc.names.lookup a.arg=some .local)(hin:kB C s.heap f name qual params body scope clos)(ni:rV C c W OO s.heap scope clos ρ0)(at':At C W s)(hr:RepL C s.heap W args vs)(hb:gZ ts args ρ0=some ρ)(hroom:A.depth<bL)(h: ∀env s₁,env.locals=s.heap.objs.size->env.cells=clos->env.scope=scope->Ext C s s₁->dq C c env (λb=>W b\/b=env.locals) (λb=>OO b\/b=env.locals) s₁.heap ρ->At C (λb=>W b\/b=env.locals) s₁-> wpAny (model C.prog C.w) (A.deeper env) (execs body env) (λfl s'=>Q (match fl with| .ret v=>v|_=>.none) s') (λJ J=>False) s₁):wpAny (model C.prog C.w) A (call (.ref f) vs) Q E s:=by
 show let g_:=_;g_;intro g_;obtain ⟨lo,doc,pm,c',ctv,o,e,hd,hc,hrec,o',e',ho⟩:=hin;have hl:as.length=vs.length:=by rw [hr.length,<-tR hb,<-hp.length];simp
 have hhl: ∀b,s.heap.get? b=some o->True:=λJ J=>trivial
 refine gj (codeAny_call_def (fd:=fnX name qual params body scope clos .none .none doc pm none (.ref c') ctv) (body:=body) (binds:=(as.map (·.arg)).zip vs) hroom e hd (C.nolimit at'.inv) hrec rfl
  (BindsTo.of_eq (nG (fd:=fnX name qual params body scope clos .none .none doc pm none (.ref c') ctv) (by exact hpar) rfl hl hn)) hcell (λx hx=>?_) (λh₀ hns keep=>?_) hco hgen hk)
 ·have hx1:=(j1 (a:=x.1) (b:=x.2) hx).1;show let g_:=_;g_;intro g_;refine aN (bg.mp hx1) λa ha hae=>?_
  have h1:=hloc a ha;rw [hae]at h1;rcases ni.sc x.1 with h2|h2
  ·exact h2.symm.trans h1
  ·rw [h2]at h1;exact cu h1
 ·generalize henv:callEnv (fnX name qual params body scope clos .none .none doc pm none (.ref c') ctv) s.heap.objs.size f=env at hns⊢;have hL:env.locals=s.heap.objs.size:=by rw [<-henv];rfl
  have hcl:env.cells=clos:=by rw [<-henv];rfl
  have hsc:env.scope=scope:=by rw [<-henv];rfl
  have hlow:=at'.low;have ext:Ext C s {s with heap:=h₀,toks:=s.toks+((as.map (·.arg)).zip vs).length}:=⟨.grow keep,bb _ _⟩;have hkind: ∀{x k},c.sc.names.lookup x=some k->env.kindOf x=some k:=λ{x k} hx=>by
   rcases ni.sc x with h2|h2
   ·show env.scope.names.lookup x=_;rw [hsc,<-h2,hx]
   ·rw [h2]at hx;exact cu hx
  have hS:Stay C s.heap h₀ W (λb=>W b\/b=env.locals):=λb o lo hw eo=>⟨keep b o eo,λhq=>by
   rcases hq with hq|hq
   ·exact hw hq
   ·rw [hq,hL]at eo;exact aW _ (aB eo)⟩
  have inW: ∀b,OO b->C.n₀<=b/\ ∃o,s.heap.get? b=some o:=λb hb=>at'.wocc b (ni.ow b hb)
  have repS: ∀{sl v},RepS C s.heap W OO sl v->RepS C h₀ (λb=>W b\/b=env.locals) (λb=>(OO b\/b=env.locals)/\b≠env.locals) sl v:=λ{sl v} r=>by
   have nl: ∀{b},OO b->b≠env.locals:=λ{b} hb h=>(hL▸at'.nw) (h▸ni.ow b hb)
   induction r with
   |val r=>exact .val (Rep.stay hS _ _ r)
   |own w lo l r z=>exact .own ⟨.inl w,nl w⟩ lo (keep _ _ l) (RepL.stay hS _ _ r) z
   |ownD w lo g r=>
    show let g_:=_;g_;intro g_;refine gO g λo e1 e2 ho hr=>?_
    exact .ownD ⟨.inl w,nl w⟩ lo (gz o e1 e2 (keep _ _ ho) hr) (RepD.stay hS _ _ r)
  have slots: ∀x i sl,idx c.σ x=some i->ρ[i]?=some (some sl)-> ∃v,fQ h₀ env C.n₀ x v/\RepS C h₀ (λb=>W b\/b=env.locals) (λb=>(OO b\/b=env.locals)/\b≠env.locals) sl v:=λx i sl hi hsl=>by
   show let g_:=_;g_;intro g_;rcases mU hb hsl with ⟨h1,J⟩|⟨j,q,g1,g2,rfl⟩
   ·obtain ⟨y,hy,hf,b,v,hbl,hcb,hrs⟩:=ni.top i sl h1;obtain rfl:=kc hy hi;refine ek (ni.cells y hf) λb' v' h2 h3 h4=>?_
    rw [hbl]at h2;cases (h2);refine aN hcb λob hob hod=>?_
    exact bK v (.cell (.inr (hkind hf)) (by rw [hcl];exact hbl) (inW b h3).1 (bK ob (keep _ _ hob) hod)) (repS hrs)
   ·refine fT (hp.at g1) λy hy hyi J=>?_
    obtain rfl:=kc hyi hi;refine aN (hr.get j g2) λv hv rv=>?_
    have hyl:c.sc.names.lookup y=some .local:=by
     rw [cg]at hy;refine aN (ba.mp hy) λa ha hae=>?_
     rw [<-hae];exact hloc a (bz ha)
    exact bK v (.loc (hkind hyl) (hL▸hns) (zvx hn hy hv)) (repS (.val rv))
  have ev:dq C c env (λb=>W b\/b=env.locals) (λb=>OO b\/b=env.locals) h₀ ρ:={
   glob:=by rw [<-henv];rfl
   bui:=by rw [<-henv];rfl
   kind:=by rw [hsc];exact hk
   ow:=λb hb=>hb.imp_left (ni.ow b)
   lo:=λb hb=>by
    rcases hb with hb|hb
    ·exact (inW b hb).1
    ·rw [hb,hL];exact hlow
   loc:=.inr rfl
   ns:=⟨_,hL▸hns⟩
   names:=λx=>by
    rcases ni.sc x with h2|h2
    ·exact .inl (by show env.scope.names.lookup x=_;rw [hsc,<-h2])
    ·exact .inr (.inr h2)
   cells:=λx hx=>by
    rcases hx with hx|hx
    ·rcases ni.sc x with h2|h2
     ·rw [h2]at hx;exact absurd rfl (hcell _ (mem_of_lookup hx))
     ·rw [h2]at hx;exact cu hx
    ·show let g_:=_;g_;intro g_;obtain ⟨b,v,h1,h2,ob,hob,hod⟩:=ni.cells x hx;exact mN b v (by rw [hcl];exact h1) (.inl h2) ob (keep _ _ hob) hod
   cinj:=λx y b h1 h2=>ni.cinj x y b (by rw [<-hcl];exact h1) (by rw [<-hcl];exact h2)
   top:=λi sl hi=>by
    rcases mU hb hi with ⟨h1,J⟩|⟨j,q,g1,J,J⟩
    ·refine aN (ni.top i sl h1) λy hy J=>?_
     exact k9 hy
    ·refine fT (hp.at g1) λy J hyi J=>?_
     exact k9 hyi
   vars:=λx i sl hi J hsl=>slots x i sl hi hsl
   apart:=λx y i j sl t v h1 h2 J J h3 h4 h5 h6 J J=>by
    rcases mU hb h3 with ⟨g1,J⟩|⟨J,q,J,J,rfl⟩
    ·rcases mU hb h4 with ⟨g2,J⟩|⟨J,q,J,J,rfl⟩
     ·exact ni.one i j sl t g1 g2 h5 h6
     ·exact ft h6
    ·cases h5}
  refine bE (h env _ hL hcl hsc ext ev ⟨ext.inv at'.inv,λb hb=>?_,af at'.tok ext.toks⟩) (λfl s' hq=>?_) λJ J x=>x.elim
  ·show let g_:=_;g_;intro g_;rcases hb with hb|hb
   ·obtain ⟨lo',ob,eb⟩:=at'.wocc b hb;exact ⟨lo',ob,keep _ _ eb⟩
   ·refine gO hns λob J J eo J=>?_
    exact ⟨by rw [hb,hL];exact hlow,ob,by rw [hb,hL];exact eo⟩
  ·exact hq
end
section
variable{C:CX}{c:CE}{env:Env}{W O:Addr->Prop}{s:Shared}{ρ:Rho}{A:Around}{E:Value->Shared->Prop}
theorem nq{G:GT}{K:Nat}(ok:FnOk C G K)(rm:Room A K){e:Expr}{x:PE}{y:Str}{i:Nat}{p pos:Pos}{v:PV}{Q:Flow->Shared->Prop}(h:SE c e x)(hc:jq e=false)(hi:idx c.σ y=some i)(hk:c.sc.names.lookup y=some .local)(hnc: ∀x,c.sc.names.lookup x≠some .cell)(ev:dq C c env W O s.heap ρ)(a:At C W s)(hv:be G x ρ=some v)(q: ∀s',ExtO C (λb=>b=env.locals) s s'->dq C c env W O s'.heap (setR ρ i (.val v))->At C W s'->Q .next s'): wpAny (model C.prog C.w) A (exec (.Assign [.Name y p] e pos) env) Q E s:=by
 refine dp (h.val ok ev a rm hv _ _ λu s₁ e₁ r_1=>?_) (mo hc rfl);refine lm (ev.ext e₁.toExt0) hi (.inl hk) (.val r_1) (λh=>by exact ft h) λs_2 e_2 ev2=>?_
 have e2':ExtO C (λb=>b=env.locals) s₁ s_2:=e_2.mono λb hb=>by
  rcases hb with hb|⟨x,hx,J⟩
  ·exact hb
  ·exact absurd hx (hnc x)
 exact q s_2 (e₁.toO.trans e2') ev2 ((a.ext e₁).extO e_2)
theorem nL{G:GT}{K:Nat}(ok:FnOk C G K)(rm:Room A K){x:Str}{args:List Expr}{xs:List PE}{ps:List PV}{f:Addr}{p_1 pos:Pos}{name qual:Str}{params:Arguments}{body:List Stmt}{scope:Scope}{clos:List (Str×Addr)}{Q:Value->Shared->Prop}(hs:SEs c args xs)(ev:dq C c env W O s.heap ρ)(a:At C W s)(hd:(x==("__debug__" :Str))=false)(hcd:(x==("__classdict__" :Str))=false)(hv:fQ s.heap env C.n₀ x (.ref f))(hin:kB C s.heap f name qual params body scope clos)(h2:gh G xs ρ=some ps)(q: ∀vs s',Ext C s s'->RepL C s'.heap W ps vs->wpAny (model C.prog C.w) A (call (.ref f) vs) Q E s'):wpAny (model C.prog C.w) A (eval (.Call (.Name x p_1) args [] pos) env) Q E s:=by show let g_:=_;g_;intro g_;obtain ⟨lo,doc,pm,c',ctv,o,e,hod,J⟩:=hin;refine bX (bU (lk ev hcd hv ?_) hd);refine d7 (o:=o) (i7 (hs.star env) ((hs.sndL ok rm ev a h2) _ _ λvs s_2 e_2 r_2=>⟨⟨e_2.new _ _ lo e,hod⟩,?_⟩));exact q vs s_2 e_2 r_2
theorem ExtO.dropO(x:ExtO C (λb=>X b\/b=L) s s')(h:s.heap.get? L=none):ExtO C X s s':=
 ⟨λb o lo hb e=>x.new b o lo (λhx=>by
  rcases hx with hx|rfl
  ·exact hb hx
  ·rw [h]at e;exact cu e) e,x.occ,x.inv,x.gens,x.drawn,x.os,x.toks⟩
theorem dq.around(ev:dq C c env W O s.heap ρ)(x:ExtO C X s s')(hX: ∀b,X b->W b/\ ¬O b):dq C c env W O s'.heap ρ:=
 ev.move (λb o lo hb e=>x.new b o lo (λh=>by
  rcases hb with hb|hb
  ·exact hb (hX b h).1
  ·exact (hX b h).2 hb) e) ev.ow λb hb=>.inl hb
theorem zvy(hin:kB C s.heap f name qual params body scope clos)(x:ExtO C X s s')(hX: ∀b,X b-> ∀o,s.heap.get? b=some o-> ¬(i0 o\/ ∃fd,o.data= .func fd)):kB C s'.heap f name qual params body scope clos:=hin.keep λb o lo ho e=>x.new b o lo (λh=>hX b h o e ho) e
end
theorem z7o(h:0<=x):iC x (x/2^k*2^k)=x%2^k:=by
 obtain ⟨m,rfl⟩:=fx h;have e1:((m:Int)/2^k*2^k)=((m/2^k*2^k:Nat):Int):=by simp
 have e2:((m:Int)%2^k)=((m%2^k:Nat):Int):=by simp
 rw [e1,e2];have hy:m=(m/2^k*2^k)|||(m%2^k):=by have:=Nat.two_pow_add_eq_or_of_lt (b:=m%2^k) (i:=k) (Nat.mod_lt _ (Nat.two_pow_pos k)) (m/2^k);rw [ew,<-this];exact (j0 m (2^k)).symm
 generalize hq:m/2^k*2^k=y at hy⊢;have hr:m%2^k=m-y:=by have:=j0 m (2^k);rw [ew,hq,dR]at this;exact Nat.eq_sub_of_add_eq this
 have hle:y<=m:=by have:=j0 m (2^k);rw [ew,hq]at this;exact aa (bb _ _) (dc this)
 have hor:m|||y=m:=by apply Nat.eq_of_testBit_eq;intro i;rw [hy];simp only [Nat.testBit_or];cases y.testBit i<;>simp
 have hand:m&&&y=y:=by
  apply Nat.eq_of_testBit_eq;intro i;rw [Nat.testBit_and]
  conv=>lhs;rw [hy]
  simp only [Nat.testBit_or];cases y.testBit i<;>simp
 unfold iC;have b1:fO (m:Int) (y:Int)=(m:Int):=by
  unfold fO cY fD;rw [decide_eq_false (by lia),decide_eq_false (by lia)];show-(-(((-(-(m:Int)-1)-1).toNat|||(-(-(y:Int)-1)-1).toNat:Nat):Int)-1)-1=_;have e1: ∀u:Nat,(-(-(u:Int)-1)-1).toNat=u:=λu=>by lia
  rw [e1,e1,hor];lia
 have b2:cY (m:Int) (y:Int)=(y:Int):=by unfold cY;rw [decide_eq_true ‹_›,decide_eq_true (aI _)];show (((m:Int).toNat&&&(y:Int).toNat:Nat):Int)=_;rw [aQ,aQ,hand]
 rw [b1,b2,hr];exact (rR ‹_›).symm
noncomputable def digF(n:Nat):Nat->Int->Nat->Nat->List Int->List Int
 |0,x,L,_,xs=>xs.set L x
 |k+1,x,L,R,xs=>if L+1=R then xs.set L x else
   digF n k (x/2^(((L+R)/2-L)*n)) ((L+R)/2) R (digF n k (x%2^(((L+R)/2-L)*n)) L ((L+R)/2) xs)
theorem rJ(n k:Nat)(x:Int)(L R:Nat)(xs:List Int):digF n (k+1) x L R xs=if L+1=R then xs.set L x else digF n k (x/2^(((L+R)/2-L)*n)) ((L+R)/2) R (digF n k (x%2^(((L+R)/2-L)*n)) L ((L+R)/2) xs):=rfl
theorem zsb: ∀{k:Nat} {x:Int} {L R:Nat} {xs:List Int},(digF n k x L R xs).length=xs.length:=by
 intro k;induction k with
 |zero=>intro x L R xs;exact List.length_set
 |succ k ih=>
  intro x L R xs;rw [rJ];by_cases h:L+1=R
  ·rw [if_pos h,List.length_set]
  ·rw [if_neg h,ih,ih]
theorem kF: ∀{xs:List Int} {vs:List Value},RepL C h W (xs.map .int) vs->RepL C h' W' (xs.map .int) vs:=by
 intro xs;induction xs with
 |nil=>exact λr=>r
 |cons x xs ih=>
  intro vs r;refine ek r λv u e_ h1 h2=>?_
  exact eg v u e_ h1 (ih h2)
inductive ja7(c:CE)(body:List Stmt):Prop
 |mk (t:Expr) (pn:Pos) (iE:Expr) (ps:Pos) (vE:Expr) (pa:Pos) (pr:Pos) (pif:Pos) (e1:Expr) (q1:Pos) (r1:Pos) (e2:Expr) (q2:Pos) (r2:Pos) (e3:Expr) (q3:Pos) (r3:Pos) (e4:Expr) (q4:Pos) (r4:Pos) (a1:List Expr) (w1:Pos) (w2:Pos) (w3:Pos) (a2:List Expr) (u1:Pos) (u2:Pos) (u3:Pos)
  (x0:body=[.If t [.Assign [.Subscript (.Name "a_digits" pn) iE ps] vE pa,.Return none pr] [] pif,.Assign [.Name "mid" q1] e1 r1,.Assign [.Name "shift" q2] e2 r2,.Assign [.Name "upper" q3] e3 r3,.Assign [.Name "lower" q4] e4 r4,
   .Expr (.Call (.Name "inner" w1) a1 [] w2) w3,.Expr (.Call (.Name "inner" u1) a2 [] u2) u3]) (x1:SE c t (.cmp .Eq (.bin .Add (.var 2) (.int 1)) (.var 3))) (x2:SE c iE (.var 2)) (x3:SE c vE (.var 1)) (x4:jq vE=false) (x5:(SE c e1 (.bin .RShift (.bin .Add (.var 2) (.var 3)) (.int 1))/\jq e1=false)) (x6:(SE c e2 (.bin .Mult (.bin .Sub (.var 4) (.var 2)) (.var 0))/\jq e2=false)) (x7:(SE c e3 (.bin .RShift (.var 1) (.var 5))/\jq e3=false)) (x8:(SE c e4 (.bin .BitXor (.var 1) (.bin .LShift (.var 6) (.var 5)))/\jq e4=false)) (x9:SEs c a1 [.var 7,.var 2,.var 4]) (x10:SEs c a2 [.var 6,.var 4,.var 3])
structure FormA(c:CE)(as:List Arg)(body:List Stmt)(scope:Scope):Prop where
 kind:scope.kind= .function
 noco:scope.isCoroutine=false
 nogen:scope.isGenerator=false
 nocell: ∀x∈scope.names,x.2≠ .cell
 nodup:(as.map (·.arg)).Nodup
 places:Places c (as.map (·.arg)) [1,2,3]
 loc: ∀a∈as,c.sc.names.lookup a.arg=some .local
 sc: ∀x,c.sc.names.lookup x=scope.names.lookup x\/c.sc.names.lookup x=none
 base:c.base=0
 nocell': ∀x,c.sc.names.lookup x≠some .cell
 free: ∀x,c.sc.names.lookup x=some .free->x=("n":Str)
 nf:c.sc.names.lookup ("n":Str)=some .free
 ni:idx c.σ ("n":Str)=some 0
 mi:idx c.σ ("mid":Str)=some 4
 si:idx c.σ ("shift":Str)=some 5
 ui:idx c.σ ("upper":Str)=some 6
 li:idx c.σ ("lower":Str)=some 7
 ml:c.sc.names.lookup ("mid":Str)=some .local
 sl:c.sc.names.lookup ("shift":Str)=some .local
 ul:c.sc.names.lookup ("upper":Str)=some .local
 ll:c.sc.names.lookup ("lower":Str)=some .local
 fa:scope.names.lookup ("a_digits":Str)=some .free
 fi:scope.names.lookup ("inner":Str)=some .free
 form:ja7 c body
section
variable{name qual:Str}{as:List Arg}{body:List Stmt}{scope:Scope}{clos:List (Str×Addr)}
structure CloA(C:CX)(name qual:Str)(as:List Arg)(body:List Stmt)(scope:Scope)(clos:List (Str×Addr))(W:Addr->Prop)(h:Heap)(f cn ci ca ad:Addr)(n:Nat)(xs:List Int):Prop where
 inn:kB C h f name qual ⟨[],as,none,[],[],none,[]⟩ body scope clos
 cn': ∃t,h.IsCell cn (some (.int n t))
 ci':h.IsCell ci (some (.ref f))
 ca':h.IsCell ca (some (.ref ad))
 l: ∃vs k,h.get? ad=some (ff vs k)/\RepL C h W (xs.map .int) vs
 wn:W cn
 wi:W ci
 wa:W ca
 wd:W ad
theorem zoq{h:Heap}{ad:Addr}{vs:List Value}{k:Nat}(e:h.get? ad=some (ff vs k)): ∀o,h.get? ad=some o-> ¬(i0 o\/ ∃fd,o.data= .func fd):=λo eo hc=>by
 rw [e]at eo;replace eo:=oj eo;subst eo;rcases hc with hc|⟨fd,hc⟩
 ·exact (j9 (o:=ff vs k) (a:="list") rfl (by decide)) hc
 ·cases hc
theorem CloA.step{C:CX}{W W':Addr->Prop}{s s':Shared}{f cn ci ca ad:Addr}{n:Nat}{xs xs':List Int}(x:CloA C name qual as body scope clos W s.heap f cn ci ca ad n xs)(a:At C W s)(e:ExtO C (λb=>b=ad) s s')(hW: ∀b,W b->W' b)(l: ∃vs k,s'.heap.get? ad=some (ff vs k)/\RepL C s'.heap W' (xs'.map .int) vs):CloA C name qual as body scope clos W' s'.heap f cn ci ca ad n xs':=by
 refine d9 x.l λvs k hl J=>?_
 have cell: ∀{b v},W b->s.heap.IsCell b v->s'.heap.IsCell b v:=λ{b v} hb z=>by obtain ⟨o,ho,hd⟩:=z;exact bK o (e.new b o (a.wocc b hb).1 (λh=>by subst h;rw [hl]at ho;replace ho:=oj ho;subst ho;cases hd) ho) hd
 obtain ⟨t,ht⟩:=x.cn';exact {
     inn:=zvy x.inn e λb hb=>by subst hb;exact zoq hl
     cn':=⟨t,cell x.wn ht⟩
     ci':=cell x.wi x.ci'
     ca':=cell x.wa x.ca'
     l:=l
     wn:=hW _ x.wn
     wi:=hW _ x.wi
     wa:=hW _ x.wa
     wd:=hW _ x.wd}
end
section
variable{C:CX}{c:CE}{as:List Arg}{body:List Stmt}{scope:Scope}{clos:List (Str×Addr)}{name qual:Str}
structure CloL(clos:List (Str×Addr))(cn ci ca:Addr):Prop where
 n:clos.lookup ("n":Str)=some cn
 i:clos.lookup ("inner":Str)=some ci
 a:clos.lookup ("a_digits":Str)=some ca
 inj: ∀x y b,clos.lookup x=some b->clos.lookup y=some b->x=y
theorem Room.mono{A:Around}{K K':Nat}(h:Room A K)(hk:K'<=K):Room A K':=⟨h.1,by have:=h.2.1;lia,by have:=h.2.2;lia⟩
theorem Room.deeper{A:Around}{K:Nat}{env:Env}(h:Room A (K+1)):Room (A.deeper env) K:=⟨h.1,by have:=h.2.1;show A.depth+1+2*K+110<_;lia,by have:=h.2.2;show A.units+3+16*K+200<_;lia⟩
theorem ExtO.listSet{s:Shared}{ad:Addr}{h':Heap}{vs vs':List Value}{k k':Nat}(lo:C.n₀<=ad)(hl:s.heap.get? ad=some (ff vs k))(hl':h'.get? ad=some (ff vs' k'))(hs:Heap.SameBut ad s.heap h'):ExtO C (λb=>b=ad) s {s with heap:=h'} where
 new:=λb o J hb e=>(hs.2 b hb).trans e
 occ:=λb o J e=>by
  by_cases hb:b=ad
  ·subst hb;exact ⟨_,hl'⟩
  ·exact ⟨o,(hs.2 b hb).trans e⟩
 inv:=C.keepBut lo (λo e=>by rw [hl]at e;replace e:=oj e;subst e;exact j9 (a:="list") rfl (by decide)) λb o hb e=>(hs.2 b hb).trans e
 gens:=rfl
 drawn:=rfl
 os:=rfl
 toks:=az _
noncomputable abbrev rhoA(n:Nat)(x L R:Int)(mid sh up lo:Option Slot):Rho:=[some (.val (.int n)),some (.val (.int x)),some (.val (.int L)),some (.val (.int R)),mid,sh,up,lo]
def uK(C:CX)(c:CE)(name qual:Str)(as:List Arg)(body:List Stmt)(scope:Scope)(clos:List (Str×Addr))(K:Nat)(f cn ci ca ad:Addr)(n k:Nat):Prop:=
  ∀(x:Int) (L R:Nat) (xs:List Int) (A:Around) (W:Addr->Prop) (s:Shared) (vs:List Value),Room A (K+k+1)->At C W s->CloA C name qual as body scope clos W s.heap f cn ci ca ad n xs->C.n₀<=ad->C.n₀<=ca->C.n₀<=ci->
   RepL C s.heap W [.int x,.int L,.int R] vs->0<=x->bits x<=64000000->L<R->R-L<=2^k->R<=xs.length->R<=256-> ∀(Q E:Value->Shared->Prop),
   (∀s',ExtO C (λb=>b=ad) s s'->At C W s'->CloA C name qual as body scope clos W s'.heap f cn ci ca ad n (digF n k x L R xs)->Q .none s')->wpAny (model C.prog C.w) A (call (.ref f) vs) Q E s
theorem nC{x y:Int}(h0:0<=y)(h:y<=x):bits y<=bits x:=iY h0 (eV h (mT (ee h0 h)))
theorem z7q{x m:Int}(h0:0<=x)(hm:0<m):x%m<=x:=by have:=bA x m;have:=d8 (al hm) (bT h0 (al hm));lia
theorem ja8{L R:Nat}:binP .RShift (.int ((L:Int)+R)) (.int 1)=some (.int (((L+R)/2:Nat):Int)):=by have:=lW (x:=(L:Int)+R) (n:=1);rw [show ((1:Nat):Int)=1 from rfl]at this;rw [this];congr 2
theorem zzh{m L n:Nat}(h:L<=m)(h2:m<=256)(hN:n<=250000):binP .Mult (.int ((m:Int)-L)) (.int n)=some (.int (((m-L)*n:Nat):Int)):=by rw [((rR h).symm)];have b1:bits ((m-L:Nat):Int)<=9:=je (Nat.lt_of_le_of_lt (aa (Nat.sub_le m L) h2) (by decide));have b2:bits (n:Int)<=20:=je (Nat.lt_of_le_of_lt hN (by decide));rw [jG (by lia)];congr 2
theorem ExtO.thenLoc{X:Addr->Prop}{L:Addr}{s s' s'':Shared}(x:ExtO C X s s')(y:ExtO C (λb=>b=L) s' s'')(h:s.heap.get? L=none):ExtO C X s s'':=((x.mono λJ h=>.inl h).trans (y.mono λJ h=>.inr h)).dropO h
theorem zqk{n k:Nat}{x:Int}{L:Nat}{xs:List Int}:digF n k x L (L+1) xs=xs.set L x:=by
 cases k with
 |zero=>rfl
 |succ k=>rw [rJ,if_pos rfl]
theorem tdf{a b:Nat}:((a:Int)==(b:Int))=decide (a=b):=by
 by_cases h:a=b
 ·subst h;simp
 ·rw [decide_eq_false h];exact beq_eq_false_iff_ne.mpr (by lia)
theorem z5o{c k:Nat}(h1:1<=c)(hl: ¬c=1)(hk:c<=2^(k+1)): ∃p q,c/2=p/\p+q=c/\1<=p/\1<=q/\p<=2^k/\q<=2^k:=by
 have e:=j0 c 2;have r:=Nat.mod_lt c (show 0<2 from Nat.two_pos);rw [Nat.pow_succ]at hk;refine (eg (c/2) (c/2+c%2) rfl ?_ ?_)<;>generalize c/2=p at e⊢ <;>generalize c%2=s at e r⊢ <;>generalize 2^k=T at hk⊢
 ·rw [<-eZ,<-uT];exact e
 ·subst e;have p1:1<=p:=by lia
  exact ⟨p1,Nat.le_add_right_of_le p1,by lia,by lia⟩
theorem mids{L R k m:Nat}(h1:L<R)(h2: ¬L+1=R)(h3:R-L<=2^(k+1))(h4:m=(L+R)/2):L<m/\m<R/\m-L<=2^k/\R-m<=2^k:=by obtain ⟨c,rfl⟩:=kH (dF h1);rw [fq]at h3;obtain ⟨p,q,e,rfl,p1,q1,pk,qk⟩:=z5o (Nat.pos_of_lt_add_right h1) (λe=>h2 (congrArg (L+ ·) e).symm) h3;rw [<-eZ,<-uT,Nat.mul_add_div Nat.two_pos,e]at h4;subst h4;rw [fq,<-eZ,fq];exact ⟨fm p1,fm q1,pk,qk⟩
theorem ja9{L R:Nat}(h:L<R)(h2:R-L<=2^0):L+1=R:=ea h (Nat.sub_le_iff_le_add'.mp h2)
theorem zm9{G:GT}{K:Nat}(ok:FnOk C G K)(frm:FormA c as body scope){cn ci ca f ad:Addr}{n:Nat}(cl:CloL clos cn ci ca)(hn:1<=n)(hN:n<=250000)(k:Nat)(ih: ∀k',k=k'+1->uK C c name qual as body scope clos K f cn ci ca ad n k'):uK C c name qual as body scope clos K f cn ci ca ad n k:=by
 intro x L R xs A W s vs rm at' hcl lo lca lci hr h0 hb hLR hk hRl hR Q E q;show let g_:=_;g_;intro g_;obtain ⟨t,pn,iE,ps,vE,pa,pr,pif,e1,q1,r1,e2,q2,r2,e3,q3,r3,e4,q4,r4,a1,w1,w2,w3,a2,u1,u2,u3,hbody,ht,hiE,hvE,hcv,⟨h1,hc1⟩,⟨h2,hc2⟩,⟨h3,hc3⟩,⟨h4,hc4⟩,ha1,ha2⟩:=frm.form;have ni:rV C c W (λb=>b=cn) s.heap scope clos (some (.val (.int n))::aJ 7 none):={
   sc:=frm.sc
   base:=frm.base
   ow:=λb hb=>by subst hb;exact hcl.wn
   cells:=λy hy=>by obtain rfl:=frm.free y hy;obtain ⟨t,ht⟩:=hcl.cn';exact eg cn _ cl.n rfl ht
   cinj:=cl.inj
   top:=λi sl hi=>by
    rcases i with J|i
    ·simp at hi;subst hi;obtain ⟨t,ht⟩:=hcl.cn';exact ⟨_,frm.ni,frm.nf,cn,_,cl.n,ht,.val gg⟩
    ·rw [ej,fu]at hi;split at hi<;>simp at hi
   one:=λi j sl u hi hj=>by
    rcases i with J|i
    ·simp at hi;subst hi;intro h;exact ft h
    ·rw [ej,fu]at hi;split at hi<;>simp at hi}
 refine zm8 frm.kind frm.noco frm.nogen frm.nocell rfl frm.nodup frm.places frm.loc hcl.inn ni at' hr (ρ:=rhoA n x L R none none none none) rfl (by have:=rm.2.1;lia) λenv s₁ hL hcells hscope e₁ ev_1 a_1=>?_
 show let z_:=_;let y_:=_;wpAny _ _ _ z_ y_ _;intro z_ y_;have rm':Room (A.deeper env) (K+k):=rm.deeper;have rmK:=rm'.mono (bb _ _);have fresh:s.heap.get? env.locals=none:=by rw [hL];exact jA
 have hcl1:CloA C name qual as body scope clos (λb=>W b\/b=env.locals) s₁.heap f cn ci ca ad n xs:=hcl.step at' e₁.toO (λb h=>.inl h) (by
  show let g_:=_;g_;intro g_;refine d9 hcl.l λvs k h1 h2=>?_
  exact (eM vs k (e₁.new _ _ lo h1) (kF h2)))
 have kf: ∀{y},scope.names.lookup y=some .free->env.kindOf y=some .free:=λ{y} h=>by show env.scope.names.lookup y=_;rw [hscope];exact h
 have dO: ∀b,b=ad->(W b\/b=env.locals)/\ ¬(b=cn\/b=env.locals):=λb hb=>by
  subst hb;refine ⟨.inl hcl.wd,λh=>?_⟩;refine d9 hcl.l λvs k hl J=>?_
  rcases h with h|h
  ·subst h;refine d9 hcl.cn' λt o ho hd=>?_
   rw [hl]at ho;replace ho:=oj ho;subst ho;cases hd
  ·rw [h,fresh]at hl;exact cu hl
 rw [hbody];refine ay (wpAny_If (ht.tst ok ev_1 a_1 rmK (b:=decide (L+1=R)) (gb (cE (aO rfl) rfl rfl) (aO rfl) (by show some (((L:Int)+1)==(R:Int))=_;rw [<-tdf];rfl)) _ _ λs_2 e_2=>?_));have ev2:=ev_1.ext e_2.toExt0;have a_2:=a_1.ext e_2;have hcl2:CloA C name qual as body scope clos (λb=>W b\/b=env.locals) s_2.heap f cn ci ca ad n xs:=hcl1.step a_1 e_2.toO (λb h=>h) (by
  refine d9 hcl1.l λvs k h1 h2=>?_
  exact (eM vs k (e_2.new _ _ lo h1) (kF h2)))
 by_cases hleaf:L+1=R
 ·rw [decide_eq_true hleaf];show let z_:=_;let y_:=_;wpAny _ _ _ z_ y_ _;intro z_ y_;refine ay (wpAny_Assign_Subscript (hvE.val ok ev2 a_2 rmK (aO rfl) _ _ λv s3 e_3 r_3=>?_) (mo hcv rfl));have e13:=(e₁.trans e_2).trans e_3;refine bU (lk (ev2.ext e_3.toExt0) rfl (v:=.ref ad) (.cell (.inr (kf frm.fa)) (by rw [hcells];exact cl.a) lca ?_) ?_) rfl
  ·refine aN hcl.ca' λo ho hd=>?_
   exact bK o (e13.new _ _ lca ho) hd
  refine hiE.val ok (ev2.ext e_3.toExt0) (a_2.ext e_3) rmK (aO rfl) _ _ λiv s4 e_4 r_4=>?_
  show let g_:=_;g_;intro g_;obtain ⟨tt,rfl⟩:=ef r_4;have e14:=e13.trans e_4;refine d9 hcl.l λus kk hl hrl=>?_
  have hl4:=e14.new _ _ lo hl;have hlen:us.length=xs.length:=by rw [hrl.length];simp
  refine z6y hl4 (aI _) (by lia) (by lia) λh' n' hl' same=>?_
  refine ay (wpAny_Return_none ?_);have eO:=(e14.toO (O:=λb=>b=ad)).trans (ExtO.listSet lo hl4 hl' same);refine q _ eO (at'.extO eO) (hcl.step at' eO (λb h=>h) (eM (us.set L v) n' (by simpa using hl') ?_));subst hleaf;rw [zqk,List.map_set];exact RepL.setAt L (kF hrl) r_3
 ·rw [decide_eq_false hleaf];show let z_:=_;let y_:=_;wpAny _ _ _ z_ y_ _;intro z_ y_;refine cz ?_;show let g_:=_;g_;intro g_;cases k with
  |zero=>exact absurd (ja9 hLR hk) hleaf
  |succ k=>
  have ihk:=ih k rfl;have hnc:=frm.nocell';obtain ⟨m,hm⟩: ∃m,m=(L+R)/2:=⟨_,rfl⟩;refine ji (mids hLR hleaf hk hm) λhLm hmR hmk hmk2=>?_
  have hm64:=aa (dF hmR) hR;obtain ⟨sh,hsh⟩: ∃sh,sh=(m-L)*n:=⟨_,rfl⟩;have hshl:sh<=64000000:=by rw [hsh];exact aa (gV (aa (Nat.sub_le _ _) hm64) hN) (by decide)
  have hup:=bT h0 (al (pw2 sh));have hlow:0<=x%2^sh:=bM _ (bh (pw2 sh));have hupb:=nC hup (Int.ediv_le_self _ h0);have hlowb:=nC hlow (z7q h0 (pw2 sh));refine ay (nq ok rmK h1 hc1 frm.mi frm.ml hnc ev2 a_2 (v:=.int m) (cE (cE (aO rfl) (aO rfl) rfl) rfl (by rw [hm];exact ja8)) λs3 e_3 ev3 a_3=>?_);refine ay (nq ok rmK h2 hc2 frm.si frm.sl hnc ev3 a_3 (v:=.int sh) (cE (cE (aO rfl) (aO rfl) rfl) (aO rfl) (by rw [hsh];exact zzh (dF hLm) hm64 hN)) λs4 e_4 ev4 a_4=>?_);refine ay (nq ok rmK h3 hc3 frm.ui frm.ul hnc ev4 a_4 (v:=.int (x/2^sh)) (cE (aO rfl) (aO rfl) lW) λs5 e_5 ev5 a_5=>?_);refine ay (nq ok rmK h4 hc4 frm.li frm.ll hnc ev5 a_5 (v:=.int (x%2^sh)) (cE (aO rfl) (cE (aO rfl) (aO rfl) (lw (by lia))) (by show some (PV.int (iC _ _))=_;rw [z7o h0])) λs6 e_6 ev6 a_6=>?_);have hne:ad≠env.locals:=λh=>(dO ad rfl).2 (.inr h)
  have eO6:=(((((e₁.trans e_2).toO (O:=λb=>b=ad)).thenLoc e_3 fresh).thenLoc e_4 fresh).thenLoc e_5 fresh).thenLoc e_6 fresh;have hcl6:CloA C name qual as body scope clos (λb=>W b\/b=env.locals) s6.heap f cn ci ca ad n xs:=hcl.step at' eO6 (λb h=>.inl h) (by
   show let g_:=_;g_;intro g_;refine d9 hcl2.l λvs k h1 h2=>?_
   exact (eM vs k (e_6.new _ _ lo hne (e_5.new _ _ lo hne (e_4.new _ _ lo hne (e_3.new _ _ lo hne h1)))) (kF h2)))
  refine ay (dT (nL ok rmK (ps:=[.int (x%2^sh),.int L,.int m]) ha1 ev6 a_6 rfl rfl (.cell (.inr (kf frm.fi)) (by rw [hcells];exact cl.i) lci hcl6.ci') hcl6.inn
   (bN (aO rfl) (bN (aO rfl) (bN (aO rfl) dW))) λvs1 s7 e_7 r_7=>?_) (lM ev6.kind) rfl)
  have hcl7:CloA C name qual as body scope clos (λb=>W b\/b=env.locals) s7.heap f cn ci ca ad n xs:=hcl6.step a_6 e_7.toO (λb h=>h) (by
   show let g_:=_;g_;intro g_;refine d9 hcl6.l λvs k h1 h2=>?_
   exact (eM vs k (e_7.new _ _ lo h1) (kF h2)))
  refine ihk _ L m xs _ _ s7 vs1 rm' (a_6.ext e_7) hcl7 lo lca lci r_7 hlow (aa ‹_› ‹_›) hLm hmk (aa (dF hmR) hRl) hm64 _ _ λs8 e8 a8 hcl8=>?_
  have ev8:=(ev6.ext e_7.toExt0).around e8 dO;refine ay (dT (nL ok rmK (ps:=[.int (x/2^sh),.int m,.int R]) ha2 ev8 a8 rfl rfl (.cell (.inr (kf frm.fi)) (by rw [hcells];exact cl.i) lci hcl8.ci') hcl8.inn
   (bN (aO rfl) (bN (aO rfl) (bN (aO rfl) dW))) λvs_2 s9 e9 r_9=>?_) (lM ev8.kind) rfl)
  have hcl9:=hcl8.step (xs':=digF n k (x%2^sh) L m xs) (W':=λb=>W b\/b=env.locals) a8 e9.toO (λb h=>h) (by
   show let g_:=_;g_;intro g_;refine d9 hcl8.l λvs k h1 h2=>?_
   exact (eM vs k (e9.new _ _ lo h1) (kF h2)))
  refine ihk _ m R _ _ _ s9 vs_2 rm' (a8.ext e9) hcl9 lo lca lci r_9 hup (aa ‹_› ‹_›) hmR hmk2 (by rw [zsb];exact hRl) hR _ _ λs' e' a' hcl'=>cz ?_
  have eO:=(((eO6.trans e_7.toO).trans e8).trans e9.toO).trans e';refine q _ eO (at'.extO eO) (hcl.step at' eO (λb h=>h) ?_);refine d9 hcl'.l λvs kk h1 h2=>?_
  refine eM vs kk h1 ?_;have:digF n (k+1) x L R xs=digF n k (x/2^sh) m R (digF n k (x%2^sh) L m xs):=by rw [rJ,if_neg hleaf,<-hm,<-hsh]
  rw [this];exact kF h2
theorem zql{G:GT}{K:Nat}(ok:FnOk C G K)(frm:FormA c as body scope){cn ci ca f ad:Addr}{n:Nat}(cl:CloL clos cn ci ca)(hn:1<=n)(hN:n<=250000): ∀k,uK C c name qual as body scope clos K f cn ci ca ad n k
 |0=>zm9 ok frm cl hn hN 0 λJ h=>by lia
 |k+1=>zm9 ok frm cl hn hN (k+1) λk' h=>by
  obtain rfl:k=k':=by lia
  exact zql ok frm cl hn hN k
end
theorem zvz(hexec:PlainDefTree name params body scope pos)(h:wpAny M A (makeFunction name (qualnameIn env name name) params (.stmts body) scope env [] [] [] pos pos.line) (λf s'=>wpAny M A (storeName env name f) (λJ s''=>Q .next s'') E s') E s):wpAny M A (exec (.FunctionDef name params body [] none [] scope none name pos) env) Q E s:=by rw [hexec];exact ab (bf (ab (aX (bE h (λf s' h'=>ab (bf (ab (gk (bE h' (λJ s'' q=>am q) λJ J x=>x))))) λJ J x=>x))))
theorem zzi(a:At C W s)(hz:xs.length*n.toNat<=16777216)(hn1:n<1000000)(hn0: -1000000<n)(rx:Rep C s.heap W (.list xs) v)(ry:Rep C s.heap W (.int n) u)(q: ∀vs k,RepL C s.heap W (aJ n.toNat xs).flatten vs->Q (.ref s.heap.objs.size) {s with heap:=s.heap.push (ff vs k)}):wpAny (model C.prog C.w) A (binaryOp .Mult v u) Q E s:=by
 show let g_:=_;g_;intro g_;obtain ⟨l,vs,k,rfl,J,J,ho,hl,hxl⟩:=iU rx;obtain ⟨t',rfl⟩:=ef ry;have hvl:=hl.length;have hrep:RepL C s.heap W (aJ n.toNat xs).flatten (aJ n.toNat vs).flatten:=by
  generalize n.toNat=j;induction j with
  |zero=>rfl
  |succ j ih=>simp only [gK,fw];exact hl.append ih
 refine wpAny_binaryOp_repeat_ref (T:="list") (U:="int") (by decide) (bK _ ho rfl) (λs'=>gn s' n t') noFill_list_mul F.fills_int_mul ib repeat_list F.slot_int_index.lookup
   (gt ib (gn s n t') F.entry_int_rmul (F.args_int_rmul_2 _ _) (int___rmul___int_list n t' l vs.toArray k)
    ⟨ho,rfl,(bK _ ho rfl),gt F.slot_list_mul (bK _ ho rfl) F.entry_list_mul (F.args_list_mul_2 _ _)
     (AutoListH.list___mul___list_int_3 l vs.toArray k n t' (by simp [Builtin.List.listFitsIndex];lia) (by simp only [bI,hvl];lia) (by simp [Builtin.List.listTooLong,aM,hvl];exact hz))
     ⟨ho,?_⟩⟩)
 have e1:List.foldl (λx1 x2=>x1++x2) #[] (aJ (if vs.toArray.isEmpty=true then 0 else n.toNat) vs.toArray)=(aJ n.toNat vs).flatten.toArray:=by
  rw [tz,km];by_cases he:vs.toArray.isEmpty=true
  ·rw [if_pos he];have:vs=[]:=by simpa using he
   subst this;simp
  ·rw [if_neg he]
 rw [e1];exact q _ 0 hrep
theorem ExtO.free(x:ExtO C X s s')(h: ∀b,X b->s.heap.get? b=none):Ext C s s':=⟨⟨λb o lo e=>x.new b o lo (λhb=>by rw [h b hb]at e;exact cu e) e,x.inv,x.gens,x.drawn,x.os⟩,x.toks⟩
section
variable{p:Program}{w:World}{s0 s:Shared}{mg mb:Str->Option Value}{k ad:Addr}{ns:List Int}
variable(H:jS p w s0 mg mb k ad ns){tabs:List jI}(N:j7 s0 k tabs){L:Lits}
theorem zzj(hq:q∈tabs)(hd:CodeHd s0.heap cc q.1)(ck:cc<=k)(hi:(fP H N L).Inv s.heap)(he:env.code= .ref cc)(hg:env.globals=aP)(hk:env.scope.kind= .function)(hkind:env.kindOf name=some .cell)(hcI:env.cells.lookup name=some cI)(lo:(fP H N L).n₀<=cI)(hcell:s.heap.IsCell cI v0)(hqual:env.qual++name=q.2.2)(hfree: ∀n,(n,aT)∈scI.names-> ∃a,env.cells.lookup n=some a)(hdoc:docOf bodyI=none)(htree:PlainDefTree name params bodyI scI q.2.1)(h: ∀f s',ExtO (fP H N L) (λb=>b=cI) s s'->kB (fP H N L) s'.heap f name q.2.2 params bodyI scI (iV env scI.names [])->s'.heap.IsCell cI (some (.ref f))->Q .next s'): wpAny (model p w) A (exec (.FunctionDef name params bodyI [] none [] scI none name q.2.1) env) Q E s:=by
 have hqn:qualnameIn env name name=q.2.2:=by unfold qualnameIn;rw [hkind];exact hqual
 refine zvz htree ?_;rw [hqn];refine bP (az s.toks) (zzf H N hq hd ck hi he hg (zie hfree) hdoc λf s₁ hN htk=>?_);show let g_:=_;g_;intro g_;obtain ⟨e,hfr,lof,hfn⟩:=hN;obtain ⟨oc,hoc,hcd⟩:=hcell;refine wpAny_storeName_cell hk hkind hcI (bK oc (e.new _ _ lo hoc) hcd) λh' hc' same=>?_
 have eO:ExtO (fP H N L) (λb=>b=cI) s {s₁ with heap:=h'}:={
  new:=λb o lo' hb eb=>(same.2 b hb).trans (e.new b o lo' eb)
  occ:=λb o lo' eb=>by
   by_cases hb:b=cI
   ·show let g_:=_;g_;intro g_;subst hb;obtain ⟨o',ho',J⟩:=hc';exact ⟨o',ho'⟩
   ·exact ⟨o,(same.2 b hb).trans (e.new b o lo' eb)⟩
  inv:=λhi'=>CX.keepBut (fP H N L) lo (λo eo hcode=>by rw [e.new _ _ lo hoc]at eo;replace eo:=oj eo;subst eo;obtain ⟨J,vs,hq⟩:=hcode;rw [hcd]at hq;cases hq) (λb o hb eb=>(same.2 b hb).trans eb) (e.inv hi')
  gens:=e.gens
  drawn:=e.drawn
  os:=e.os
  toks:=htk}
 refine h f _ eO ?_ hc';exact (⟨lof,hfn⟩:kB (fP H N L) s₁.heap f name q.2.2 params bodyI scI (iV env scI.names [])).keep λb o J ho eb=>(same.2 b (λhb=>by subst hb;rw [e.new _ _ lo hoc]at eb;replace eb:=oj eb;subst eb;rcases ho with ⟨J,vs,hq⟩|⟨fd,hq⟩<;>rw [hcd]at hq<;>cases hq)).trans eb
end
theorem zsc{x a b:Int}(ha:0<a)(hb:0<b):x%(a*b)/a=x/a%b:=by
 have h1:=bA x a;have h2:=bA (x/a) b;have r1:=bM x (show a≠0 from bh ‹_›);have r2:=bt x ha;have r3:=bM (x/a) (show b≠0 from bh ‹_›);have r4:=bt (x/a) hb;generalize x/a/b=q at h2;generalize x/a%b=r at h2 r3 r4⊢;generalize x/a=u at h1 h2;generalize x%a=v at h1 r1 r2;have e:x=q*(a*b)+(a*r+v):=by rw [<-h1,<-h2];grind
 have hlt:a*r+v<a*b:=by
  have:a*r+a<=a*b:=by have:=dZ (show r+1<=b from ‹_›) (al ha);rw [Int.mul_add,Int.mul_one]at this;exact this
  lia
 have hnn:0<=a*r+v:=by have:=d8 (al ha) r3;lia
 rw [(l8 e hnn hlt).2];exact (l8 (q:=r) (r:=v) (by rw [ed]) r1 r2).1
theorem zsd{x a b:Int}:x%(a*b)%a=x%a:=Int.emod_emod_of_dvd x ⟨b,rfl⟩
theorem zv0(N:Nat): ∀(p q:Nat) (x:Int),figs N x (p+q)=figs N (x%2^(p*N)) p++figs N (x/2^(p*N)) q:=by
 intro zz;induction zz with
 |zero=>intro q x;simp [mv]
 |succ p ih=>
  intro q x;have e:(2:Int)^((p+1)*N)=2^N*2^(p*N):=by rw [Nat.succ_mul,dR,dY]
  rw [show p+1+q=(p+q)+1 by lia];simp only [mv,dS];rw [e,zsd,zsc (pw2 _) (pw2 _),ih q (x/2^N),kJ (al (pw2 N))]
theorem z7r{α:Type}{a:List α}{b:List α}{L:Nat}{xs:List α}(h:L<xs.length)(x:α):xs.set L x=xs.take L++x::xs.drop (L+1):=by rw [List.set_eq_take_append_cons_drop,if_pos h]
theorem zqm{n k:Nat}{x:Int}{L:Nat}{xs:List Int}(h0:0<=x)(hx:x<2^(1*n))(hR:L+1<=xs.length):digF n k x L (L+1) xs=xs.take L++(figs n x 1++xs.drop (L+1)):=by rw [zqk,z7r (a:=xs) (b:=xs) hR];rw [Nat.one_mul]at hx;show _=xs.take L++(x%2^n::xs.drop (L+1));rw [Int.emod_eq_of_lt h0 hx]
theorem z7s(n k:Nat): ∀(x:Int) (L c:Nat) (xs:List Int),0<=x->x<2^(c*n)->1<=c->c<=2^k->L+c<=xs.length->digF n k x L (L+c) xs=xs.take L++(figs n x c++xs.drop (L+c)):=by
 induction k with
 |zero=>intro x L c xs h0 hx h1 hk hR;obtain rfl:c=1:=ea hk h1;exact zqm h0 hx hR
 |succ k ih=>
  intro x L c xs h0 hx h1 hk hR;by_cases hl:c=1
  ·subst hl;exact zqm h0 hx hR
  ·obtain ⟨p,q,e1,rfl,p1,q1,pk,qk⟩:=z5o h1 hl hk;have em:(L+(L+(p+q)))/2=L+p:=by rw [<-eZ,<-uT,Nat.mul_add_div Nat.two_pos,e1]
   have hpw:=pw2 (p*n);rw [Nat.add_mul,dY]at hx;rw [rJ,if_neg (λe=>hl (Nat.add_left_cancel e).symm),em,fq];rw [<-eZ]at hR⊢;have hR':=aa (bb _ _) hR;rw [ih _ L p xs (bM _ (bh hpw)) (bt _ hpw) p1 pk hR',<-cT];have hA:(xs.take L++figs n (x%2^(p*n)) p).length=L+p:=by rw [aC,zlm,List.length_take_of_le (aa (bb _ _) hR')]
   rw [zv0 n p q x];generalize figs n (x%2^(p*n)) p=F at hA⊢;rw [ih _ (L+p) q _ (bT h0 (al hpw)) (c6 hpw (by rw [ed];exact hx)) q1 qk (by rw [aC,hA,fL,Nat.add_sub_cancel' hR'];exact hR),List.take_left' hA,<-lU,List.drop_left' hA,lU];simp only [cT]
theorem z3k(ha:0<a)(hn:1<=n)(hk:(bits a+n-1)/n<=2^k):digF n k a 0 ((bits a+n-1)/n) (aJ ((bits a+n-1)/n) 0)=digitsOf a n:=by
 have h0:bits a+n-1=bits a-1+n:=by rw [Nat.sub_add_comm (mj ha)]
 have h2:bits a<=(bits a+n-1)/n*n:=by rw [ew];exact cdiv hn
 have h3:=z7s n k a 0 _ (aJ ((bits a+n-1)/n) 0) (al ha) (bJ (mT (al ha)) (mI h2)) ((Nat.le_div_iff_mul_le hn).mpr (by rw [h0,Nat.one_mul];exact bj _ _)) hk (by rw [List.length_replicate,eu];exact az _);rw [eu]at h3;rw [h3,nR (al ha)];simp
inductive jba(c:CE)(d:DefRec)(asI:List Arg)(bodyI:List Stmt)(scI:Scope)(pI:Pos):Prop
 |mk (q0:Pos) (eL:Expr) (eN:Expr) (pe:Pos) (r0:Pos) (t:Expr) (pt:Pos) (args:List Expr) (w1:Pos) (w2:Pos) (w3:Pos) (r1:Pos) (r2:Pos)
  (x0:d.body=[.Assign [.Name "a_digits" q0] (.BinOp eL .Mult eN pe) r0,.FunctionDef "inner" ⟨[],asI,none,[],[],none,[]⟩ bodyI [] none [] scI none ("inner":Str) pI,
   .If t [.Expr (.Call (.Name "inner" w1) args [] w2) w3] [] pt,.Return (some (.Name "a_digits" r1)) r2]) (x1:SE c eL (.list [.int 0])) (x2:SE c eN (.bin .FloorDiv (.bin .Sub (.bin .Add (.meth (.var 0) ("bit_length":Str) []) (.var 1)) (.int 1)) (.var 1))) (x3:SE c t (.var 0)) (x4:SEs c args [.var 0,.int 0,.call (.glob "len") [.var 2]])
structure jbb(c:CE)(d:DefRec)(as' asI:List Arg)(cI:CE)(bodyI:List Stmt)(scI:Scope)(pI:Pos):Prop where
 inn:FormA cI asI bodyI scI
 fs:kQ d.scope
 base:c.base=0
 hsc: ∀x,c.sc.names.lookup x=d.scope.names.lookup x\/c.sc.names.lookup x=none
 hpar:d.params=⟨[],as',none,[],[],none,[]⟩
 hn:(as'.map (·.arg)).Nodup
 hp:Places c (as'.map (·.arg)) [0,1]
 ai:idx c.σ ("a_digits":Str)=some 2
 ak:c.sc.names.lookup ("a_digits":Str)=some .cell
 ni:idx c.σ ("n":Str)=some 1
 nk:c.sc.names.lookup ("n":Str)=some .cell
 ik:c.sc.names.lookup ("inner":Str)=none
 id':d.scope.names.lookup ("inner":Str)=some .cell
 docI:docOf bodyI=none
 treeI:PlainDefTree ("inner":Str) ⟨[],asI,none,[],[],none,[]⟩ bodyI scI pI
 freeI: ∀n,(n,aT)∈scI.names->n=ao "a_digits" \/n=ao "inner" \/n=ao "n"
 memA:(ao "a_digits",aT)∈scI.names
 memI:(ao "inner",aT)∈scI.names
 memN:(ao "n",aT)∈scI.names
 form:jba c d asI bodyI scI pI
theorem nV(hm:(x,aT)∈names)(hb:env.cells.lookup x=some b):(iV env names []).lookup x=some b:=by obtain ⟨a,ha⟩:=zmy env names hm;obtain ⟨J,h⟩:=pj env names ha;rw [hb]at h;rw [ha];exact congrArg some h.symm
theorem zzk(hfree: ∀n,(n,aT)∈names-> ∃a,env.cells.lookup n=some a)(hinj: ∀x y a,env.cells.lookup x=some a->env.cells.lookup y=some a->x=y): ∀x y b,(iV env names []).lookup x=some b->(iV env names []).lookup y=some b->x=y:=λx y b hx hy=>by
 refine xA (pj env names hx) λm1 g1=>?_
 refine xA (pj env names hy) λm2 g2=>?_
 obtain ⟨a1,e1⟩:=hfree x m1;obtain ⟨a2,e2⟩:=hfree y m2;rw [e1]at g1;rw [e2]at g2;subst g1 g2;exact hinj x y _ e1 e2
def uJ(C:CX)(cc:Addr)(q:jI):Prop:=∀(A:Around) (s:Shared) (env:Env) (name:Str) (cI:Addr) (v0:Option Value) (params:Arguments) (bodyI:List Stmt) (scI:Scope),C.Inv s.heap->env.code= .ref cc->env.globals=aP->
  env.scope.kind= .function->env.kindOf name=some .cell->env.cells.lookup name=some cI->C.n₀<=cI->s.heap.IsCell cI v0->env.qual++name=q.2.2->(∀n,(n,aT)∈scI.names-> ∃a,env.cells.lookup n=some a)->docOf bodyI=none->
  PlainDefTree name params bodyI scI q.2.1-> ∀(Q:Flow->Shared->Prop) (E:Value->Shared->Prop),
   (∀f s',ExtO C (λb=>b=cI) s s'->kB C s'.heap f name q.2.2 params bodyI scI (iV env scI.names [])->s'.heap.IsCell cI (some (.ref f))->Q .next s')->
   wpAny (model C.prog C.w) A (exec (.FunctionDef name params bodyI [] none [] scI none name q.2.1) env) Q E s
theorem fQ.cellOf(y:fQ h env n₀ x v)(k:env.kindOf x=some .cell)(hb:env.cells.lookup x=some b):n₀<=b/\h.IsCell b (some v):=by
 cases y with
 |loc k' n e=>rw [k]at k';cases k'
 |cell k' l lo i=>rw [hb]at l;replace l:=oj l;subst l;exact ⟨lo,i⟩
theorem zna{c:CE}{d:DefRec}{as':List Arg}{ts:List Nat}{vs:List Value}{n:Nat}(hsc: ∀x,c.sc.names.lookup x=d.scope.names.lookup x\/c.sc.names.lookup x=none)(hp:Places c (as'.map (·.arg)) ts)(fs:kQ d.scope): ∀x∈(as'.map (·.arg)).zip vs,d.scope.names.lookup x.1=some .local\/(d.scope.names.lookup x.1=some .cell/\((dG n d.scope.names []).lookup x.1).isSome=true):=λx hx=>by
 show let g_:=_;g_;intro g_;obtain ⟨j,hj⟩:=nX.mp (j1 (a:=x.1) (b:=x.2) hx).1;have:j<ts.length:=by have:=bO.mp hj;obtain ⟨h,J⟩:=this;rw [<-hp.length];exact h
 refine fT (hp.at (aL this)) λy g1 g2 g3=>?_
 rw [hj]at g1;replace g1:=oj g1;subst g1;have g4:d.scope.names.lookup x.1=some .local\/d.scope.names.lookup x.1=some .cell:=by
  rcases hsc x.1 with h|h
  ·rw [<-h];exact g3
  ·rw [h]at g3;rcases g3 with g3|g3<;>cases g3
 rcases g4 with g4|g4
 ·exact .inl g4
 ·exact .inr ⟨g4,nN (⟨g4,fs.nodup⟩)⟩
section
variable{C:CX}
theorem z7u{G:GT}(ok:FnOk C G 0)(hlen:G.gv ("len":Str)=some (.bi "len")){c cI':CE}{d:DefRec}{as' asI:List Arg}{bodyI:List Stmt}{scI:Scope}{q:jI}(fo:jbb c d as' asI cI' bodyI scI q.2.1)(hqual:(d.name++ ".<locals>.")++("inner":Str)=q.2.2){a:Addr}{o:Obj}{pm doc:Value}{cc:Addr}(DI:uJ C cc q)(ho: ∀h,C.Inv h->h.get? a=some o)(hdt:o.data= .func (d.data pm (.ref cc) doc))(hcode: ∀h,C.Inv h->h.CodeRec (.ref cc) d.name){aV:Int}{n:Nat}(h0:0<=aV)(hn:1<=n)(hN:n<=250000)(hl:(bits aV+n-1)/n<=256){A:Around}{W:Addr->Prop}{s:Shared}{vs:List Value}(rm:Room A 11)(at':At C W s)(hr:RepL C s.heap W [.int aV,.int n] vs): Snd C A s W (call (.ref a) vs) (.list ((digitsOf aV n).map .int)):=λQ E k'=>by
 have hl2:as'.length=vs.length:=by rw [hr.length];have:=fo.hp.length;simpa using this
 obtain ⟨q0,eL,eN,pe,r0,t,pt,args,w1,w2,w3,r1,r2,hbody,hL,hNn,ht,hargs⟩:=fo.form;refine gj (tQ (prog:=C.prog) (w:=C.w) (fd:=d.data pm (.ref cc) doc) (body:=d.body) (by have:=rm.2.1;lia) (ho _ at'.inv) hdt (C.nolimit at'.inv) (hcode _ at'.inv) rfl (nG (fd:=d.data pm (.ref cc) doc) fo.hpar rfl hl2 fo.hn) rfl (zna fo.hsc fo.hp fo.fs) fo.fs.noco fo.fs.nogen fo.fs.kind λs₁ ic htk=>?_);show let z_:=_;let y_:=_;wpAny _ _ _ z_ y_ _;intro z_ y_;obtain ⟨e₁,hf,ev_1,a_1⟩:=tB (c:=c) (fd:=d.data pm (.ref cc) doc) (a:=a) (ρ0:=[none,none,none]) (ρ:=[some (.val (.int aV)),some (.val (.int n)),none]) fo.hsc fo.base fo.fs rfl rfl fo.hp fo.hn hr at' (λi h=>by rcases i with J|J|J|i<;>simp at h⊢) htk rfl ic;have hkind: ∀x,(bv (d.data pm (.ref cc) doc) s.heap.objs.size a).kindOf x=d.scope.names.lookup x:=λJ=>rfl
 have hcode':(bv (d.data pm (.ref cc) doc) s.heap.objs.size a).code= .ref cc:=rfl;have hqual':(bv (d.data pm (.ref cc) doc) s.heap.objs.size a).qual=d.name++ ".<locals>." :=rfl;have hcel: ∀x,d.scope.names.lookup x=some .cell-> ∃b,(bv (d.data pm (.ref cc) doc) s.heap.objs.size a).cells.lookup x=some b:=λx hx=>dB.mp (nN (⟨hx,fo.fs.nodup⟩))
 have hsk:(bv (d.data pm (.ref cc) doc) s.heap.objs.size a).scope.kind= .function:=fo.fs.kind;have hgl:(bv (d.data pm (.ref cc) doc) s.heap.objs.size a).globals=aP:=rfl;generalize bv (d.data pm (.ref cc) doc) s.heap.objs.size a=env at*;have rmK:Room (A.deeper env) 10:=rm.deeper;have rm0:Room (A.deeper env) 0:=rmK.mono (bj _ _);have dof: ∀{x k},c.sc.names.lookup x=some k->d.scope.names.lookup x=some k:=λ{x k} h=>by
  rcases fo.hsc x with h'|h'
  ·rw [<-h',h]
  ·rw [h']at h;exact cu h
 obtain ⟨cA,hcA⟩:=hcel _ (dof fo.ak);obtain ⟨cN,hcN⟩:=hcel _ (dof fo.nk);obtain ⟨cI,hcI⟩:=hcel _ fo.id';have icA:=ic.cell _ _ hcA;have icN:=ic.cell _ _ hcN;have loA:=(a_1.wocc cA (.inr (.inr ⟨_,hcA⟩))).1;have loI:=(a_1.wocc cI (.inr (.inr ⟨_,hcI⟩))).1;have loN:=(a_1.wocc cN (.inr (.inr ⟨_,hcN⟩))).1;have hnIA:cI≠cA:=λh=>by subst h;exact absurd (ev_1.cinj _ _ _ hcI hcA) (by decide)
 have hnIL:cI≠env.locals:=λh=>aW _ (h▸ic.above _ _ (mem_of_lookup hcI))
 obtain ⟨cnt,hcn⟩:=(⟨_,rfl⟩: ∃cnt,cnt=(bits aV+n-1)/n);have hbn:=aa (cdiv hn) (aa (c9 n hl) (dc (ew n 256)));have hfl:binP .FloorDiv (.int ((bits aV:Int)+n-1)) (.int n)=some (.int cnt):=by
  have e:((bits aV:Int)+n-1)=((bits aV+n-1:Nat):Int):=by rw [rR (aa hn (bj _ _)),bC];rfl
  have hb1:bits ((bits aV+n-1:Nat):Int)<=40:=je (Nat.lt_of_le_of_lt (Nat.sub_le _ _) (Nat.lt_of_le_of_lt (cG (aa hbn (c9 256 hN)) hN) (by decide)));rw [e];show (if (n:Int)=0 then none else if aU _ _=true then none else some (PV.int (Int.fdiv _ _)))=_;rw [if_neg (by lia),(noPylong (by lia)),if_neg (by simp)];congr 2;rw [ez _ (aI _),hcn];rfl
 rw [hbody];refine ay (dp (fV (hL.val ok ev_1 a_1 rm0 (nr (bN rfl dW)) _ _ λu s_2 e_2 r_2=>hNn.val ok (ev_1.ext e_2.toExt0) (a_1.ext e_2) rm0
  (cE (cE (cE (oa (aO rfl)) (aO rfl) rfl) rfl rfl) (aO rfl) hfl) _ _ λu' s3 e_3 r_3=>zzi ((a_1.ext e_2).ext e_3) (by simp;lia) (by lia) (aI _) (r_2.ext e_3.toExt0) r_3 λvs' kk hrep=>?_)) (mo rfl rfl))
 have e13:=(e₁.trans e_2).trans e_3;have a_3:=(a_1.ext e_2).ext e_3;have hz:(aJ (cnt:Int).toNat [PV.int 0]).flatten=(aJ cnt (0:Int)).map .int:=by
  rw [aQ];generalize cnt=j;induction j with
  |zero=>rfl
  |succ j ih=>rw [gK,fw,ih];rfl
 rw [hz]at hrep;have e_4:Ext C s3 {s3 with heap:=s3.heap.push (ff vs' kk)}:=kD;have ev4:=ev_1.ext ((e_2.trans e_3).trans e_4).toExt0;have hg4:(s3.heap.push (ff vs' kk)).get? s3.heap.objs.size=some (ff vs' kk):=au _ rfl;have loD:=a_3.low;have nwD:=a_3.nw;have frD:s.heap.get? s3.heap.objs.size=none:=by
  cases hh:s.heap.get? s3.heap.objs.size with
  |none=>rfl
  |some o=>exact absurd (aB (e13.new _ o loD hh)) (aW _)
 generalize s3.heap.objs.size=adL at*;generalize hs4:({s3 with heap:=s3.heap.push (ff vs' kk)}:Shared)=s4 at*;have hg4':s4.heap.get? adL=some (ff vs' kk):=by rw [<-hs4];exact hg4
 have rep4:Rep C s4.heap (λb=>W b\/allO env b) (.list ((aJ cnt (0:Int)).map .int)) (.ref adL):=by exact kW adL vs' kk rfl nwD loD hg4' (kF hrep) (by rw [av];simp;lia)
 refine zj1 ev4 fo.ai (.inr fo.ak) (.val rep4) (λh=>by exact ft h) λs5 e_5 ev5 hv5=>?_
 have a_5:=(a_3.ext e_4).extO e_5;have owrO: ∀b,OWr c env b->allO env b:=λb hb=>(ev4.owr hb).all
 have neD: ∀b,allO env b->b≠adL:=λb hb h=>nwD (h▸ .inr hb)
 show let g_:=_;g_;intro g_;refine xA (hv5.cellOf (hkind _|>.trans (dof fo.ak)) hcA) λJ icA5=>?_
 obtain ⟨uN,hvN,rN⟩:=ev5.vars ("n":Str) 1 _ fo.ni (by rw [fo.base,fo.nk];rfl) (show (setR _ 2 _)[1]?=some (some (.val (.int n))) from rfl);refine xA (hvN.cellOf (hkind _|>.trans (dof fo.nk)) hcN) λJ icN5=>?_
 have icI5: ∃v,s5.heap.IsCell cI v:=by
  refine aN (ic.cell _ _ hcI) λo ho' hd'=>?_
  refine eM _ o (e_5.new _ _ loI (λh=>?_) (((e_2.trans e_3).trans e_4).new _ _ loI ho')) hd';rcases h with h|⟨x,hx,hxl⟩
  ·exact hnIL h
  ·obtain rfl:=ev_1.cinj _ _ _ hxl hcI;rw [fo.ik]at hx;exact cu hx
 obtain ⟨v0,icI5⟩:=icI5;have hfree: ∀y,(y,aT)∈scI.names-> ∃b,env.cells.lookup y=some b:=λy hy=>by
  rcases fo.freeI y hy with rfl|rfl|rfl
  ·exact ⟨_,hcA⟩
  ·exact ⟨_,hcI⟩
  ·exact ⟨_,hcN⟩
 refine ay (DI _ s5 env ("inner":Str) cI v0 ⟨[],asI,none,[],[],none,[]⟩ bodyI scI a_5.inv hcode' hgl hsk (hkind _|>.trans fo.id') hcI loI icI5 (by rw [hqual'];exact hqual) hfree fo.docI fo.treeI _ _ λf s6 e_6 hin icI6=>?_);have ev6:=ev5.around e_6 λb hb=>by
  subst hb;refine ⟨.inr (.inr ⟨_,hcI⟩),λh=>?_⟩;rcases h with h|⟨x,hx,hxl⟩
  ·exact hnIL h
  ·obtain rfl:=ev_1.cinj _ _ _ hxl hcI;exact hx fo.ik
 have a_6:=a_5.extO e_6;have cellKeep: ∀{b v},C.n₀<=b->b≠cI->s5.heap.IsCell b v->s6.heap.IsCell b v:=λ{b v} lo hne z=>by obtain ⟨o,ho',hd'⟩:=z;exact bK o (e_6.new _ _ lo hne ho') hd'
 have icA6:=cellKeep loA (dh hnIA) icA5;have uN': ∃tN,uN= .int n tN:=by
  cases rN with
  |val r=>exact ef r
 obtain ⟨tN,rfl⟩:=uN';have eX6:ExtO C (λb=>allO env b\/b=adL) s s6:=((e13.trans e_4).toO.trans (e_5.mono λb hb=>.inl (owrO b hb))).trans (e_6.mono λb hb=>.inl (.inr ⟨_,hb▸hcI⟩));have fin: ∀sE,ExtO C (λb=>allO env b\/b=adL) s sE->sE.heap.IsCell cA (some (.ref adL))->(∃us j,sE.heap.get? adL=some (ff us j)/\RepL C sE.heap W ((digitsOf aV n).map .int) us)->
   wpAny (model C.prog C.w) (A.deeper env) (execs [.Return (some (.Name "a_digits" r1)) r2] env) (λf s'=>(match f with| .ret v=>(λv s'=>Q v s') v s'|_=>Q .none s'))
    (λJ J=>False) sE:=λsE eE icE z=>by
  show let g_:=_;g_;intro g_;refine d9 z λus j hlE hrE=>?_
  refine ay (d6 (bU (wpAny_loadName_cell hsk (hkind _|>.trans (dof fo.ak)) hcA icE ?_) rfl));refine k' _ _ (eE.free λb hb=>?_) ?_
  ·rcases hb with hb|rfl
   ·exact hf b hb
   ·exact frD
  ·refine kW adL us j rfl (λh=>nwD (.inl h)) loD hlE hrE ?_;have hlen':(digitsOf aV n).length=cnt:=by unfold digitsOf;simp only [aY,iQ,aQ];exact hcn.symm
   rw [av,aY,hlen'];lia
 refine ay (wpAny_If (ht.tst ok ev6 a_6 rm0 (b:=aV !=0) (ng rfl rfl) _ _ λs7 e_7=>?_));have a_7:=a_6.ext e_7;have ck7: ∀{b v},C.n₀<=b->s6.heap.IsCell b v->s7.heap.IsCell b v:=λ{b v} lo z=>by obtain ⟨o,ho',hd'⟩:=z;exact bK o (e_7.new _ _ lo ho') hd'
 have hl_7:=e_7.new _ _ loD (e_6.new _ _ loD (λh=>neD cI (.inr ⟨_,hcI⟩) h.symm) (e_5.new _ _ loD (λh=>neD _ (owrO _ h) rfl) hg4'));by_cases hz0:aV=0
 ·rw [show (aV !=0)=false by simp [hz0]];refine cz ?_;have hfin: ∀(fl:Flow) (s':Shared),(match fl with| .ret v=>(λv s'=>Q v s') v s'|_=>Q .none s')->(match (Except.ok (Flow.ret (match fl with| .ret v=>v|_=>bV)):Result)with| .ok (.ret v)=>Q v s'| .ok _=>False| .error e=>E e s'):=λfl s' h=>by cases fl<;>exact h
  refine bE (fin s7 (eX6.trans e_7.toO) (ck7 loA icA6) (eM vs' kk hl_7 ?_)) hfin λJ J h=>h.elim
  have hc0:cnt=0:=by rw [hcn,hz0,tu];exact Nat.div_eq_of_lt (by rw [eu];exact Nat.sub_lt hn Nat.one_pos)
  have:digitsOf aV n=aJ cnt 0:=by unfold digitsOf;rw [hc0,show (bc aV+(n:Int).toNat-1)/(n:Int).toNat=0 from by rw [aQ];rw [hcn]at hc0;exact hc0];rfl
  rw [this];exact kF hrep
 ·rw [show (aV !=0)=true by simp [hz0]];show let z_:=_;let y_:=_;wpAny _ _ _ z_ y_ _;intro z_ y_;have hfin: ∀(fl:Flow) (s':Shared),(match fl with| .ret v=>(λv s'=>Q v s') v s'|_=>Q .none s')->(match (Except.ok (Flow.ret (match fl with| .ret v=>v|_=>bV)):Result)with| .ok (.ret v)=>Q v s'| .ok _=>False| .error e=>E e s'):=λfl s' h=>by cases fl<;>exact h
  have hin7:=hin.keep λb o lo J e=>e_7.new b o lo e
  have icI7:=ck7 loI icI6;refine ay (dT (nL ok rm0 (ps:=[.int aV,.int ((0:Nat):Int),.int (cnt:Nat)]) hargs (ev6.ext e_7.toExt0) a_7 rfl rfl (.cell (.inl (hkind _|>.trans fo.id')) hcI loI icI7) hin7
   (bN (aO rfl) (bN rfl (bN (ge (fA hlen) (bN (aO rfl) dW) (by show some (PV.int (((aJ cnt (0:Int)).map PV.int).length:Nat))=_;simp)) dW))) λvs1 s8 e8 r_8=>?_) (lM hsk) rfl)
  have a8:=a_7.ext e8;have ck8: ∀{b v},C.n₀<=b->s7.heap.IsCell b v->s8.heap.IsCell b v:=λ{b v} lo z=>by obtain ⟨o,ho',hd'⟩:=z;exact bK o (e8.new _ _ lo ho') hd'
  have hl8:=e8.new _ _ loD hl_7;have a8':At C (λb=>(W b\/allO env b)\/b=adL) s8:=⟨a8.inv,λb hb=>by
   rcases hb with hb|rfl
   ·exact a8.wocc b hb
   ·exact ⟨loD,_,hl8⟩,a8.tok⟩
  have hclo:CloA C ("inner":Str) q.2.2 asI bodyI scI (iV env scI.names []) (λb=>(W b\/allO env b)\/b=adL) s8.heap f cN cI cA adL n (aJ cnt 0):={
   inn:=hin7.keep λb o lo J e=>e8.new b o lo e
   cn':=⟨tN,ck8 loN (ck7 loN (cellKeep loN (dh (λh=>by subst h;exact absurd (ev_1.cinj _ _ _ hcI hcN) (by decide))) icN5))⟩
   ci':=ck8 loI icI7
   ca':=ck8 loA (ck7 loA icA6)
   l:=eM vs' kk hl8 (kF hrep)
   wn:=.inl (.inr (.inr ⟨_,hcN⟩))
   wi:=.inl (.inr (.inr ⟨_,hcI⟩))
   wa:=.inl (.inr (.inr ⟨_,hcA⟩))
   wd:=.inr rfl}
  have hpos:0<aV:=by lia
  have hcp:1<=cnt:=by rw [hcn];have:=mj hpos;exact (Nat.le_div_iff_mul_le hn).mpr (by rw [Nat.sub_add_comm this,Nat.one_mul];exact bj _ _)
  refine zql ok fo.inn (⟨nV fo.memN hcN,nV fo.memI hcI,nV fo.memA hcA,zzk hfree ev_1.cinj⟩) hn hN 8 aV 0 cnt _ _ _ s8 vs1 (rmK.mono (bj _ _)) a8' hclo loD loA loI (kF (xs:=[aV,((0:Nat):Int),(cnt:Int)]) r_8) h0 (by lia) ‹_› (by lia) (by simp) (by lia) _ _ λs9 e9 a9 hcl9=>cz ?_
  show let g_:=_;g_;intro g_;refine d9 hcl9.l λus j hus hru=>?_
  refine bE (fin s9 (((eX6.trans e_7.toO).trans e8.toO).trans (e9.mono λb hb=>.inr hb)) hcl9.ca' (eM us j hus ?_)) hfin λJ J h=>h.elim
  have hd:digF n 8 aV 0 cnt (aJ cnt 0)=digitsOf aV n:=by rw [hcn];exact z3k hpos hn (by show _<=256;exact hl)
  rw [hd]at hru;exact kF hru
end
theorem zqn(n:Nat): ∀(a b:List Int),numberOf n (a++b)=numberOf n b*2^(a.length*n)+numberOf n a:=by
 intro zz;induction zz with
 |nil=>intro b;simp [gJ]
 |cons x a ih=>intro b;simp only [dS,gJ,ih b,aQ,aK];rw [eD,Int.mul_assoc,<-dY,show a.length*n+n=(a.length+1)*n by rw [Nat.succ_mul]];lia
theorem zv1(k:Nat):((2:Int)^k).natAbs=2^k:=by
 have:((2:Int)^k)=((2^k:Nat):Int):=by simp
 rw [this,Int.natAbs_natCast]
theorem t5(hx:bits x<=k)(hy:bits y<=k):bits (x+y)<=k+1:=by refine je ?_;have h1:=af (mJ x) (gu (by decide) hx);have h2:=af (mJ y) (gu (by decide) hy);have h3:=Int.natAbs_add_le x y;rw [Nat.pow_succ];lia
theorem zse(hx:bits x<=k):bits (x*2^n)<=k+n:=by refine je ?_;rw [Int.natAbs_mul,zv1,Nat.pow_add];exact Nat.mul_lt_mul_of_pos_right (af (mJ x) (gu (by decide) hx)) (Nat.two_pow_pos n)
theorem zsf{n:Nat}: ∀(l:List Int),(∀x∈l,bits x<=250000)->bits (numberOf n l)<=250000+l.length*(n+1):=by
 intro zz;induction zz with
 |nil=>intro J;simp [gJ,tu]
 |cons x r ih=>intro h;simp only [gJ,aQ,aK];have h2:=t5 (k:=250000+r.length*(n+1)+n) (zse (n:=n) (ih λy hy=>h y (ah _ hy))) (aa (h x ag) (by lia));rw [Nat.succ_mul];lia
noncomputable abbrev numB(n:Nat)(xs:List Int)(L R:Nat):Int:=numberOf n ((xs.drop L).take (R-L))
theorem zzl(h:xs[L]?=some x):numB n xs L (L+1)=x:=by unfold numB;obtain ⟨hL,hx⟩:=bO.mp h;rw [fq,gc hL,hx];simp [gJ]
theorem zv2{n:Nat}{xs:List Int}{L m R:Nat}(h1:L<=m)(h2:m<=R)(h3:R<=xs.length):numB n xs L R=numB n xs m R*2^((m-L)*n)+numB n xs L m:=by
 unfold numB;have:(xs.drop L).take (R-L)=(xs.drop L).take (m-L)++(xs.drop m).take (R-m):=by rw [<-Nat.sub_add_sub_cancel h2 h1,dR (R-m),List.take_add,lU,Nat.add_sub_cancel' h1]
 rw [this,zqn,pN,fL,iz (uU (aa h2 h3) L)]
theorem zzm{n:Nat}{xs:List Int}{L R:Nat}(hb: ∀x∈xs,bits x<=250000)(hN:n<=250000)(hR:R<=256):bits (numB n xs L R)<=66000000:=by
 have h1:=zsf (n:=n) ((xs.drop L).take (R-L)) λx hx=>hb x (List.mem_of_mem_drop (List.mem_of_mem_take hx))
 have h2:((xs.drop L).take (R-L)).length<=256:=by rw [pN];exact aa (uY _ _) (aa (Nat.sub_le _ _) hR)
 have h3:=gV h2 (eQ hN);lia
inductive jbc(c:CE)(body:List Stmt):Prop
 |mk (t:Expr) (eR:Expr) (pR:Pos) (pif:Pos) (e1:Expr) (q1:Pos) (r1:Pos) (e2:Expr) (q2:Pos) (r2:Pos) (a1:List Expr) (w1:Pos) (w2:Pos) (eS:Expr) (pS:Pos) (a2:List Expr) (u1:Pos) (u2:Pos) (pA:Pos) (pZ:Pos)
  (x0:body=[.If t [.Return (some eR) pR] [] pif,.Assign [.Name "mid" q1] e1 r1,.Assign [.Name "shift" q2] e2 r2,
   .Return (some (.BinOp (.BinOp (.Call (.Name "inner" w1) a1 [] w2) .LShift eS pS) .Add (.Call (.Name "inner" u1) a2 [] u2) pA)) pZ]) (x1:SE c t (.cmp .Eq (.bin .Add (.var 2) (.int 1)) (.var 3))) (x2:SE c eR (.sub (.var 1) (.var 2))) (x3:(SE c e1 (.bin .RShift (.bin .Add (.var 2) (.var 3)) (.int 1))/\jq e1=false)) (x4:(SE c e2 (.bin .Mult (.bin .Sub (.var 4) (.var 2)) (.var 0))/\jq e2=false)) (x5:SE c eS (.var 5)) (x6:SEs c a1 [.var 4,.var 3]) (x7:SEs c a2 [.var 2,.var 4])
structure rI(c:CE)(as:List Arg)(body:List Stmt)(scope:Scope):Prop where
 kind:scope.kind= .function
 noco:scope.isCoroutine=false
 nogen:scope.isGenerator=false
 nocell: ∀x∈scope.names,x.2≠ .cell
 nodup:(as.map (·.arg)).Nodup
 places:Places c (as.map (·.arg)) [2,3]
 loc: ∀a∈as,c.sc.names.lookup a.arg=some .local
 sc: ∀x,c.sc.names.lookup x=scope.names.lookup x\/c.sc.names.lookup x=none
 base:c.base=0
 nocell': ∀x,c.sc.names.lookup x≠some .cell
 free: ∀x,c.sc.names.lookup x=some .free->x=ao "n" \/x=ao "digits"
 nf:c.sc.names.lookup ("n":Str)=some .free
 df:c.sc.names.lookup ("digits":Str)=some .free
 ni:idx c.σ ("n":Str)=some 0
 di:idx c.σ ("digits":Str)=some 1
 mi:idx c.σ ("mid":Str)=some 4
 si:idx c.σ ("shift":Str)=some 5
 ml:c.sc.names.lookup ("mid":Str)=some .local
 sl:c.sc.names.lookup ("shift":Str)=some .local
 fi:scope.names.lookup ("inner":Str)=some .free
 form:jbc c body
section
variable{C:CX}{c:CE}{name qual:Str}{as:List Arg}{body:List Stmt}{scope:Scope}{clos:List (Str×Addr)}
structure CloB(C:CX)(name qual:Str)(as:List Arg)(body:List Stmt)(scope:Scope)(clos:List (Str×Addr))(W:Addr->Prop)(h:Heap)(f cn ci cd:Addr)(n:Nat)(xs:List Int):Prop where
 inn:kB C h f name qual ⟨[],as,none,[],[],none,[]⟩ body scope clos
 cn': ∃t,h.IsCell cn (some (.int n t))
 ci':h.IsCell ci (some (.ref f))
 cd': ∃v,h.IsCell cd (some v)/\Rep C h W (.list (xs.map .int)) v
 wn:W cn
 wi:W ci
 wd:W cd
 ln:C.n₀<=cn
 li:C.n₀<=ci
 ld:C.n₀<=cd
theorem CloB.grow{W W':Addr->Prop}{s s':Shared}{f cn ci cd:Addr}{n:Nat}{xs:List Int}(x:CloB C name qual as body scope clos W s.heap f cn ci cd n xs)(keep: ∀b o,C.n₀<=b->s.heap.get? b=some o->s'.heap.get? b=some o)(hW: ∀b,W b->W' b)(hf: ∀b,W' b->W b\/s.heap.get? b=none):CloB C name qual as body scope clos W' s'.heap f cn ci cd n xs:=by
 have cell: ∀{b v},C.n₀<=b->s.heap.IsCell b v->s'.heap.IsCell b v:=λ{b v} lo z=>by obtain ⟨o,ho,hd⟩:=z;exact bK o (keep b o lo ho) hd
 show let g_:=_;g_;intro g_;obtain ⟨t,ht⟩:=x.cn';refine aN x.cd' λv hv r=>?_
 exact {
     inn:=x.inn.keep λb o lo J e=>keep b o lo e
     cn':=⟨t,cell x.ln ht⟩
     ci':=cell x.li x.ci'
     cd':=bK v (cell x.ld hv) (Rep.stay (Stay.grow keep hf) _ _ r)
     wn:=hW _ x.wn
     wi:=hW _ x.wi
     wd:=hW _ x.wd
     ln:=x.ln
     li:=x.li
     ld:=x.ld}
def uI(C:CX)(name qual:Str)(as:List Arg)(body:List Stmt)(scope:Scope)(clos:List (Str×Addr))(K:Nat)(f cn ci cd:Addr)(n:Nat)(xs:List Int)(k:Nat):Prop:=
  ∀(L R:Nat) (A:Around) (W:Addr->Prop) (s:Shared) (vs:List Value),Room A (K+k+1)->At C W s->CloB C name qual as body scope clos W s.heap f cn ci cd n xs->
   RepL C s.heap W [.int L,.int R] vs->L<R->R-L<=2^k->R<=xs.length->Snd C A s W (call (.ref f) vs) (.int (numB n xs L R))
structure CloM(clos:List (Str×Addr))(cn ci cd:Addr):Prop where
 n:clos.lookup ("n":Str)=some cn
 i:clos.lookup ("inner":Str)=some ci
 d:clos.lookup ("digits":Str)=some cd
 inj: ∀x y b,clos.lookup x=some b->clos.lookup y=some b->x=y
theorem zlo{G:GT}{K:Nat}(ok:FnOk C G K)(frm:rI c as body scope){cn ci cd f:Addr}{n:Nat}(cl:CloM clos cn ci cd)(hN:n<=250000){xs:List Int}(hb: ∀x∈xs,bits x<=250000)(hlen:xs.length<=256)(k:Nat)(ih: ∀k',k=k'+1->uI C name qual as body scope clos K f cn ci cd n xs k'):uI C name qual as body scope clos K f cn ci cd n xs k:=by
 intro L R A W s vs rm at' hcl hr hLR hk hR Q E q;show let g_:=_;g_;intro g_;obtain ⟨t,eR,pR,pif,e1,q1,r1,e2,q2,r2,a1,w1,w2,eS,pS,a2,u1,u2,pA,pZ,hbody,ht,heR,⟨h1,hc1⟩,⟨h2,hc2⟩,hS,ha1,ha2⟩:=frm.form;have ni:rV C c W (λb=>b=cn\/b=cd) s.heap scope clos (some (.val (.int n))::some (.val (.list (xs.map .int)))::aJ 4 none):={
   sc:=frm.sc
   base:=frm.base
   ow:=λb hb=>by
    rcases hb with rfl|rfl
    ·exact hcl.wn
    ·exact hcl.wd
   cells:=λy hy=>by
    rcases frm.free y hy with rfl|rfl
    ·obtain ⟨t,ht⟩:=hcl.cn';exact eg cn _ cl.n (.inl rfl) ht
    ·refine aN hcl.cd' λv hv J=>?_
     exact eg cd _ cl.d (.inr rfl) hv
   cinj:=cl.inj
   top:=λi sl hi=>by
    rcases i with J|J|i
    ·simp at hi;subst hi;obtain ⟨t,ht⟩:=hcl.cn';exact ⟨_,frm.ni,frm.nf,cn,_,cl.n,ht,.val gg⟩
    ·simp at hi;subst hi;refine aN hcl.cd' λv hv r=>?_
     exact ⟨_,frm.di,frm.df,cd,_,cl.d,hv,.val r⟩
    ·rw [ej,ej,fu]at hi;split at hi<;>simp at hi
   one:=λi j sl u hi hj=>by
    rcases i with J|J|i
    ·simp at hi;subst hi;intro h;exact ft h
    ·simp at hi;subst hi;intro h;exact ft h
    ·rw [ej,ej,fu]at hi;split at hi<;>simp at hi}
 refine zm8 frm.kind frm.noco frm.nogen frm.nocell rfl frm.nodup frm.places frm.loc hcl.inn ni at' hr (ρ:=[some (.val (.int n)),some (.val (.list (xs.map .int))),some (.val (.int L)),some (.val (.int R)),none,none]) rfl (by have:=rm.2.1;lia) λenv s₁ hL hcells hscope e₁ ev_1 a_1=>?_
 show let z_:=_;let y_:=_;wpAny _ _ _ z_ y_ _;intro z_ y_;have rm':Room (A.deeper env) (K+k):=rm.deeper;have rmK:=rm'.mono (bb _ _);have fresh:s.heap.get? env.locals=none:=by rw [hL];exact jA
 have kf: ∀{y},scope.names.lookup y=some .free->env.kindOf y=some .free:=λ{y} h=>by show env.scope.names.lookup y=_;rw [hscope];exact h
 have hgrow: ∀{s'},Ext C s s'->CloB C name qual as body scope clos (λb=>W b\/b=env.locals) s'.heap f cn ci cd n xs:=λ{s'} e=>hcl.grow e.new (λb h=>.inl h) λb h=>by
  rcases h with h|rfl
  ·exact .inl h
  ·exact .inr fresh
 have back: ∀{s':Shared} {x:Int} {v:Value},Rep C s'.heap (λb=>W b\/b=env.locals) (.int x) v->Rep C s'.heap W (.int x) v:=λr=>r
 rw [hbody];refine ay (wpAny_If (ht.tst ok ev_1 a_1 rmK (b:=decide (L+1=R)) (gb (cE (aO rfl) rfl rfl) (aO rfl) (by show some (((L:Int)+1)==(R:Int))=_;rw [<-tdf];rfl)) _ _ λs_2 e_2=>?_));have ev2:=ev_1.ext e_2.toExt0;have a_2:=a_1.ext e_2;by_cases hleaf:L+1=R
 ·rw [decide_eq_true hleaf];show let z_:=_;let y_:=_;wpAny _ _ _ z_ y_ _;intro z_ y_;have hLl:L<xs.length:=aa ‹_› ‹_›;refine ay (d6 (heR.val ok ev2 a_2 rmK (p:=.int xs[L]) (fF (aO rfl) (aO rfl) ?_) _ _ λv s3 e_3 r_3=>?_))
  ·rw [zpf (by simp;lia),aQ,cg,aL hLl];rfl
  ·show let g_:=_;g_;intro g_;subst hleaf;refine q v s3 ((e₁.trans e_2).trans e_3) ?_;rw [zzl (aL hLl)];exact back r_3
 ·rw [decide_eq_false hleaf];show let z_:=_;let y_:=_;wpAny _ _ _ z_ y_ _;intro z_ y_;refine cz ?_;show let g_:=_;g_;intro g_;cases k with
  |zero=>exact absurd (ja9 hLR hk) hleaf
  |succ k=>
  have ihk:=ih k rfl;have hnc:=frm.nocell';obtain ⟨m,hm⟩: ∃m,m=(L+R)/2:=⟨_,rfl⟩;refine ji (mids hLR hleaf hk hm) λhLm hmR hmk hmk2=>?_
  have hmR':=dF hmR;have hLm':=dF hLm;have hm64:=aa (aa hmR' hR) hlen;obtain ⟨sh,hsh⟩: ∃sh,sh=(m-L)*n:=⟨_,rfl⟩;have hshl:sh<=64000000:=by rw [hsh];exact aa (gV (aa (Nat.sub_le _ _) hm64) hN) (by decide)
  refine ay (nq ok rmK h1 hc1 frm.mi frm.ml hnc ev2 a_2 (v:=.int m) (cE (cE (aO rfl) (aO rfl) rfl) rfl (by rw [hm];exact ja8)) λs3 e_3 ev3 a_3=>?_);refine ay (nq ok rmK h2 hc2 frm.si frm.sl hnc ev3 a_3 (v:=.int sh) (cE (cE (aO rfl) (aO rfl) rfl) (aO rfl) (by rw [hsh];exact zzh hLm' hm64 hN)) λs4 e_4 ev4 a_4=>?_);have eX4:=(((e₁.trans e_2).toO.thenLoc e_3 fresh).thenLoc e_4 fresh:ExtO C (λJ=>False) s s4).free λJ h=>h.elim
  have hcl4:=hgrow eX4;refine ay (d6 (fV (fV (nL ok rmK (ps:=[.int m,.int R]) ha1 ev4 a_4 rfl rfl (.cell (.inr (kf frm.fi)) (by rw [hcells];exact cl.i) hcl.li hcl4.ci') hcl4.inn
   (bN (aO rfl) (bN (aO rfl) dW)) λvs1 s5 e_5 r_5=>?_))))
  refine ihk m R _ _ s5 vs1 rm' (a_4.ext e_5) (hgrow (eX4.trans e_5)) r_5 hmR hmk2 hR _ _ λv6 s6 e_6 r_6=>?_
  have e46:=e_5.trans e_6;refine hS.val ok (ev4.ext e46.toExt0) (a_4.ext e46) rmK (aO rfl) _ _ λu7 s7 e_7 r_7=>?_
  have hbn:=zzm (L:=m) (R:=R) hb hN (aa hR hlen);refine (qz (lw (by lia)) ((a_4.ext e46).ext e_7) (r_6.ext e_7.toExt0) r_7).up _ _ λv_8 s8 e8 r_8=>?_
  have e48:=(e46.trans e_7).trans e8;have a8:=a_4.ext e48;have hcl8:=hgrow (eX4.trans e48);refine nL ok rmK (ps:=[.int L,.int m]) ha2 (ev4.ext e48.toExt0) a8 rfl rfl (.cell (.inr (kf frm.fi)) (by rw [hcells];exact cl.i) hcl.li hcl8.ci') hcl8.inn
   (bN (aO rfl) (bN (aO rfl) dW)) λvs_2 s9 e9 r_9=>?_
  refine ihk L m _ _ s9 vs_2 rm' (a8.ext e9) (hgrow ((eX4.trans e48).trans e9)) r_9 hLm hmk (aa hmR' hR) _ _ λv0 s0 e_0 r_0=>?_
  refine (qz (op:=.Add) (z:=.int (numB n xs m R*2^sh+numB n xs L m)) rfl ((a8.ext e9).ext e_0) (r_8.ext (e9.trans e_0).toExt0) r_0).up _ _ λv' s' e' r'=>?_
  refine q v' s' ((((eX4.trans e48).trans e9).trans e_0).trans e') ?_;rw [zv2 (m:=m) hLm' hmR' hR,<-hsh];exact back r'
theorem znb{G:GT}{K:Nat}(ok:FnOk C G K)(frm:rI c as body scope){cn ci cd f:Addr}{n:Nat}(cl:CloM clos cn ci cd)(hN:n<=250000){xs:List Int}(hb: ∀x∈xs,bits x<=250000)(hlen:xs.length<=256): ∀k,uI C name qual as body scope clos K f cn ci cd n xs k
 |0=>zlo ok frm cl hN hb hlen 0 λJ h=>by lia
 |k+1=>zlo ok frm cl hN hb hlen (k+1) λk' h=>by
  obtain rfl:k=k':=by lia
  exact znb ok frm cl hN hb hlen k
end
end Mine.Internal
namespace Mine.Internal
open PySem PySem.Builtin PySem.Builtin.Str PySem.Challenge PyProof.Rows
noncomputable def word(x y:Nat)(r:List Bool):List Nat:=r.map λb=>if b then x else y
theorem lg:(word x y r).length=r.length:=by simp [word]
noncomputable def lets(l:List Nat):List PV:=l.map λc=>.str (tx [c])
theorem rj(l:List Nat):jZ (tx l)=lets l:=by simp [jZ,lets]
theorem jbd{a b:Nat}(hb:0<b):binP .Mod (.int a) (.int b)=some (.int ((a%b:Nat):Int)):=by show (if (b:Int)=0 then none else some (PV.int (Int.fmod a b)))=_;rw [if_neg (by lia),fY _ (aI _)];rfl
theorem pX{l:List Nat}{i:Nat}{c:Nat}(hi:i<1000000000)(h:l[i]?=some c):subP (.str (tx l)) (.int i)=some (.str (tx [c])):=by
 have hc:(decide (0<=(i:Int))&&decide ((i:Int)<1000000000))=true:=by simp;lia
 have:(tx l).cps[i]?=some c:=by simpa using h
 rw [z12 hc,aQ,this];rfl
theorem kh{l:List PV}{i:Nat}{v:PV}(hi:i<1000000000)(h:l[i]?=some v):subP (.list l) (.int i)=some v:=by
 have hc:(decide (0<=(i:Int))&&decide ((i:Int)<1000000000))=true:=by simp;lia
 rw [zpf hc,aQ,h]
theorem n0(h:a.length+b.length<=16777216):binP .Add (.str (tx a)) (.str (tx b))=some (.str (tx (a++b))):=by show (if f0 _=true then some (PV.str _)else none)=_;rw [if_pos (szok (by rw [jc,jc];exact h)),sf]
theorem e_tx:cmpV .Eq (.str (tx a)) (.str (tx b))=some (decide (a=b)):=by show some (tx a==tx b)=_;rw [j5]
theorem pW(hg:G.gv "len" =some (.bi "len"))(h:be G e ρ=some (.str (tx l))):be G (.call (.glob "len") [e]) ρ=some (.int (l.length:Nat)):=ge (fA hg) (bN h dW) (by show some (PV.int ((tx l).length:Nat))=_;rw [jc])
theorem z7w(hg:G.gv "len" =some (.bi "len"))(h:be G e ρ=some (.list l)):be G (.call (.glob "len") [e]) ρ=some (.int (l.length:Nat)):=ge (fA hg) (bN h dW) rfl
theorem qF(hg:G.gv "len" =some (.bi "len"))(h:be G e ρ=some (.list l))(hn:l.length=n):be G (.call (.glob "len") [e]) ρ=some (.int (n:Nat)):=hn▸z7w hg h
theorem l6(d:Nat):(G2 d).gv "len" =some (.bi "len"):=by rw [iG];rfl
theorem tq(h:bits y<=9000):aU x y=false:=by
 unfold aU;simp only [Bool.and_eq_false_iff,decide_eq_false_iff_not];left;by_cases hy:y=0
 ·subst hy;simp
 ·rw [mK hy]at h;rw [if_neg (by simpa using hy)];lia
theorem fitsLong(h1: -1000000<=a)(h2:a<=10000000):Builtin.Range.rangeFitsLong a=true:=by unfold Builtin.Range.rangeFitsLong;simp only [an,decide_eq_true_eq];lia
theorem tJ{a b st:Int}(ha:0<=a)(ha2:a<=1000000)(hb:0<=b)(hb2:b<=1000000)(hs:0<st)(hs2:st<=1000):iW a b st=true:=by
 have hsz:0<=aD a b st/\aD a b st<=1000001:=by
  unfold aD;rw [if_pos hs];split
  ·have h1:(b-a-1)/st<=b-a-1:=Int.ediv_le_self _ (by lia);have h2:0<=(b-a-1)/st:=bT (by lia) (al ‹_›);lia
  ·lia
 unfold iW Builtin.Range.small;have hp:aU (b-a) st=false:=tq (by have:bits st<=40:=je (by lia);exact aa ‹_› (by decide));rw [fitsLong (a:=a) (by lia) (by lia),fitsLong (a:=b) (by lia) (by lia),fitsLong (a:=st) (by lia) (by lia),fitsLong (a:=aD a b st) (by lia) (by lia),if_pos hs,fitsLong (a:=b+(st-1)) (by lia) (by lia),hp,
  decide_eq_true hs,decide_eq_true (show aD a b st<=16777216 by lia)]
 simp
theorem zlq(a b:Nat):iK (a:Int) (b:Int) 1=(bl (b-a)).map λk=>.int ((a+k:Nat):Int):=by
 unfold iK aD;have:(if (1:Int)>0 then if (a:Int)<(b:Int)then ((b:Int)-(a:Int)-1)/1+1 else 0 else if (a:Int)>b then ((a:Int)-b-1)/(-1)+1 else 0).toNat=b-a:=by rw [if_pos (by decide)];split<;>lia
 rw [this];apply dC;intro k J;simp
theorem zqo(b:Nat):iK 0 (b:Int) 1=(bl b).map λ(k:Nat)=>.int (k:Int):=by have:=zlq 0 b;simpa using this
section
variable{G:GT}{ρ:Rho}
theorem to(hg:G.gv "range" =some (.ty "range")){e:PE}{n:Nat}(h:be G e ρ=some (.int n))(hn:n<=1000000):iS G (.plain (.call (.glob "range") [e])) ρ=some ((bl n).map λ(k:Nat)=>.int (k:Int)):=by simp only [pE,(ge (fA hg) (bN h dW) (z55 (tJ (aI _) (aI _) (aI _) (cj.mpr ‹_›) (aI _) (aI _)))),ac];show some (iK 0 n 1)=_;rw [zqo]
theorem zzo(hg:G.gv "range" =some (.ty "range")){e f:PE}{a b:Nat}(h:be G e ρ=some (.int a))(h':be G f ρ=some (.int b))(ha:a<=1000000)(hb:b<=1000000):be G (.call (.glob "range") [e,f]) ρ=some (.range a b 1):=ge (fA hg) (bN h (bN h' dW)) (zw6 (tJ (aI _) (cj.mpr ‹_›) (aI _) (cj.mpr ‹_›) (aI _) (aI _)))
theorem jx(h:be G e ρ=some (.list xs)):iS G (.plain e) ρ=some xs:=by simp only [pE,h,ac];rfl
theorem qr: ∀{l:List α},(∀a∈l,F (mk a)=some (g a))->(l.map mk).mapM F=some (l.map g):=by
 intro zz;induction zz with
 |nil=>exact λJ=>rfl
 |cons x xs ih=>intro h;rw [ax,fX,h x ag,ih λy hy=>h y (ah _ hy)];rfl
theorem zzp: ∀l:List α,(l.map λx=>[g x]).flatten=l.map g:=by
 intro zz;induction zz with
 |nil=>exact rfl
 |cons x r ih=>simp [ih]
theorem zj6{α β:Type}{f:α->Bool}{g:α->β}: ∀l:List α,(l.map λx=>if f x then [g x]else []).flatten=(l.filter f).map g:=by
 intro zz;induction zz with
 |nil=>exact rfl
 |cons x r ih=>cases hf:f x<;>simp [hf,ih]
theorem i5{α:Type}{l:List α}{mk:α->PV}{g:α->PV}{t:Nat}{it:PI}{elt:PE}(h1:iS G it ρ=some (l.map mk))(h3: ∀a∈l,be G elt (setR ρ t (.val (mk a)))=some (g a))(hz:l.length<=16777216): be G (.comp elt [.mk [t] true it []]) ρ=some (.list (l.map g)):=by
 have:=rf (single:=true) (gs:=[]) (elt:=elt) (ifs:=[]) (ts:=[t]) (ls:=l.map λa=>[g a]) h1 rfl (qr λa ha=>by simp [mw,hK,pE,h3 a ha]);rw [zzp]at this;exact sQ this (by simpa using hz)
theorem zqp{α:Type}{l:List α}{mk:α->PV}{f:α->Bool}{g:α->PV}{t:Nat}{it:PI}{c elt:PE}(h1:iS G it ρ=some (l.map mk))(h2: ∀a∈l,el G c (setR ρ t (.val (mk a)))=some (f a))(h3: ∀a∈l,f a=true->be G elt (setR ρ t (.val (mk a)))=some (g a))(hz:l.length<=16777216): be G (.comp elt [.mk [t] true it [c]]) ρ=some (.list ((l.filter f).map g)):=by
 have:=rf (single:=true) (gs:=[]) (elt:=elt) (ifs:=[c]) (ts:=[t]) (ls:=l.map λa=>if f a then [g a]else []) h1 rfl (qr λa ha=>by
  cases hf:f a with
  |true=>simp [mw,hK,pE,h2 a ha,hf,h3 a ha hf]
  |false=>simp [mw,hK,pE,h2 a ha,hf])
 rw [zj6]at this;exact sQ this (by simp;exact aa (List.length_filter_le ..) hz)
theorem zqq{α β:Type}{l:List α}{mk:α->PV}{l2:α->List β}{mk2:β->PV}{f:α->β->Bool}{g:α->β->PV}{t t2:Nat}{it it2:PI}{ifs:List PE}{elt:PE}(h1:iS G it ρ=some (l.map mk))(h2: ∀a∈l,iS G it2 (setR ρ t (.val (mk a)))=some ((l2 a).map mk2))(h3: ∀a∈l,∀b∈l2 a,allP G true ifs (setR (setR ρ t (.val (mk a))) t2 (.val (mk2 b)))=some (f a b))(h4: ∀a∈l,∀b∈l2 a,f a b=true->be G elt (setR (setR ρ t (.val (mk a))) t2 (.val (mk2 b)))=some (g a b))(hz:(l.flatMap λa=>((l2 a).filter (f a)).map (g a)).length<=16777216): be G (.comp elt [.mk [t] true it [],.mk [t2] true it2 ifs]) ρ=some (.list (l.flatMap λa=>((l2 a).filter (f a)).map (g a))):=by
 refine sQ ?_ hz;have:=rf (single:=true) (gs:=[.mk [t2] true it2 ifs]) (elt:=elt) (ifs:=[]) (ts:=[t]) (ls:=l.map λa=>((l2 a).filter (f a)).map (g a)) h1 rfl (qr λa ha=>by
  have:=rf (single:=true) (gs:=[]) (elt:=elt) (ifs:=ifs) (ts:=[t2]) (ls:=(l2 a).map λb=>if f a b then [g a b]else []) (h2 a ha) rfl (qr λb hb=>by
   cases hf:f a b with
   |true=>simp [mw,hK,pE,h3 a ha b hb,hf,h4 a ha b hb hf]
   |false=>simp [mw,hK,pE,h3 a ha b hb,hf])
  rw [zj6]at this;exact this)
 rw [this,List.flatMap_def]
end
theorem oM(d:Nat):(G2 d).gv "range" =some (.ty "range"):=by rw [iG];rfl
theorem z5p(h:el G a ρ=some c):el G (.not a) ρ=some (!c):=(tE.1 G a ρ).trans (by rw [h];rfl)
theorem zqr: ∀ls:List (List Nat),dV (tx []) (ls.map tx)=tx ls.flatten
 | []=>rfl
 | [a]=>by simp [dV]
 |a::b::r=>by show tx a++tx []++dV (tx []) ((b::r).map tx)=_;rw [(zqr (b::r)),sf,sf];simp
theorem oK: ∀{l:List α},(∀a∈l,i4 (mk a)=some (tx (g a)))->lz (l.map mk)=some ((l.map g).map tx):=by
 intro l;induction l with
 |nil=>exact λJ=>rfl
 |cons a r ih=>
  intro h;have ih:=ih λb hb=>h b (ah _ hb)
  unfold lz at ih⊢;rw [ax,fX,ih,h a ag];rfl
theorem qp(h1:be G o ρ=some (.str s))(h2:gh G args ρ=some as)(h3:methP (.str s) m as=some v):be G (.meth o m args) ρ=some v:=by simp only [eE,h1,h2,ac,h3];rfl
noncomputable def jv(e:Bool)(l:List Nat):PV:=if e then .frs (tx l)else .str (tx l)
theorem qj(e:Bool)(l:List Nat):i4 (jv e l)=some (tx l):=by cases e<;>rfl
theorem sI{G:GT}{ρ:Rho}{e:PE}{vs:List PV}{ls:List (List Nat)}(h:be G e ρ=some (.list vs))(hv:lz vs=some (ls.map tx))(hn:vs.isEmpty=ls.isEmpty)(hz:ls.flatten.length<=16777216):be G (.meth (.str "") ("join":Str) [e]) ρ=some (jv ls.isEmpty ls.flatten):=by
 refine qp (s:=tx []) rfl (bN h dW) ?_;have h1:((ls.map tx).map (·.length)).sum+(ls.map tx).length*(tx []).length=ls.flatten.length:=by
  rw [cf,jc];have:((λx:Str=>x.length)∘tx)=uV:=by funext l;exact jc l
  rw [this,List.length_flatten];simp
 cases hb:ls.isEmpty with
 |true=>rw [hb]at hn;rw [eU.mp hn,eU.mp hb];exact z9p
 |false=>rw [jcv (hn.trans hb) hv (by rw [h1];exact szok hz)];have:fW (tx []) (ls.map tx)=dV (tx []) (ls.map tx):=il _ _;rw [this,zqr];rfl
theorem zt1{G:GT}{ρ:Rho}{a:PE}{lo hi:Option PE}{l:List Nat}{x y:Option Int}{p q:Nat}(h1:be G a ρ=some (.str (tx l)))(h2:kK G lo ρ=some x)(h3:kK G hi ρ=some y)(hx:x=none/\p=0\/x=some (p:Int))(hy:y=none/\q=l.length\/y=some (q:Int))(hpq:p<=q): be G (.slice a lo hi) ρ=some (.str (tx ((l.drop p).take (q-p)))):=by simp only [eE,h1,h2,h3,ac];show some (PV.str (Txt.slice (tx l) x y))=_;rw [zy2 l hx hy hpq]
theorem zzq:kK G none ρ=some none:=by simp only [pE]
theorem zzr(h:be G e ρ=some (.int k)):kK G (some e) ρ=some (some k):=by simp only [pE,h,ac];rfl
theorem zzs{v:Nat->PV}{c:Nat}: ∀{l:List Nat},c∈l->(l.map λc=>(tx [c],v c)).lookup (tx [c])=some (v c):=by
 intro l;induction l with
 |nil=>intro h;cases h
 |cons a r ih=>
  intro h;rw [ax,aG,j5];by_cases hac:c=a
  ·subst hac;rw [decide_eq_true rfl]
  ·rw [decide_eq_false λh=>hac (List.cons.inj h).1];exact ih (by rcases aw.mp h with h|h;exact absurd h hac;exact h)
theorem zzt: ∀l:List Bool,bp (l.map .bool) (l.map .bool)=true:=by
 intro zz;induction zz with
 |nil=>exact rfl
 |cons b l ih=>simp only [ax];unfold bp;rw [ih];cases b<;>rfl
theorem znc(l:List Bool):(l.map PV.bool).mapM jo=some (l.map PyData.bool):=by
 induction l with
 |nil=>rfl
 |cons b l ih=>rw [ax,fX,ih];rfl
theorem sT(h:xs.mapM jo=some d):eqV (.list xs) y=eqP (.list xs) y:=if_neg (by show¬(xs.mapM jo).isNone=true;rw [h];exact bn)
theorem sS(l:List Bool):cmpV .NotEq (.list (l.map .bool)) (.list (l.map .bool))=some false:=by show (eqV (.list (l.map .bool)) (.list (l.map .bool))).map (!·)=_;rw [sT (znc l)];show (((l.map PV.bool).mapM jo).bind λx=>((l.map PV.bool).mapM jo).map λy=>bp x y).map (!·)=_;rw [znc,ac,cw,zzt];rfl
theorem qi(hg:G.gv "ord" =some (.bi "ord"))(h:be G e ρ=some (.str (tx [c]))):be G (.call (.glob "ord") [e]) ρ=some (.int (c:Int)):=ge (fA hg) (bN h dW) (ordP rfl rfl)
theorem z5q{G:GT}{ρ:Rho}{e:PE}{c:Nat}(hg:G.gv "chr" =some (.bi "chr"))(h:be G e ρ=some (.int (c:Int)))(hc:c<1000000):be G (.call (.glob "chr") [e]) ρ=some (.str (tx [c])):=ge (fA hg) (bN h dW) (chrP (by simp;lia))
theorem qh(d:Nat):(G2 d).gv "ord" =some (.bi "ord"):=by rw [iG];rfl
theorem z5r(d:Nat):(G2 d).gv "chr" =some (.bi "chr"):=by rw [iG];rfl
theorem jc8(d:Nat):(G2 d).gv "b1_set" =some .b1:=by rw [iG];rfl
theorem jc9(d:Nat):(G2 d).gv "b3_exceptions" =some .b3:=by rw [iG];rfl
theorem z7x(d:Nat):(G2 d).gv "list" =some (.ty "list"):=by rw [iG];rfl
theorem zzu(d:Nat):(G2 d).gv "in_table_b1" =some (.fn "in_table_b1"):=by rw [iG];rfl
theorem z7y(d:Nat):(G2 d).gv "map_table_b3" =some (.fn "map_table_b3"):=by rw [iG];rfl
theorem z3m(d:Nat)(args:List PV):(G2 (d+1)).fns "in_table_b1" args=jb (G2 d) uz uy zh4 args:=rfl
theorem z3n(d:Nat)(args:List PV):(G2 (d+1)).fns "map_table_b3" args=jb (G2 d) uE uC zg3 args:=rfl
theorem z3o(d:Nat)(args:List PV):(G2 (d+1)).fns "_law_read" args=jb (G2 d) uc ub tU args:=rfl
theorem iI(hb:0<b):binP .Mod (.int a) (.int b)=some (.int (a%b)):=by show (if b=0 then none else some (PV.int (Int.fmod a b)))=_;rw [if_neg (by exact bh ‹_›),fY _ (al ‹_›)]
theorem jC(hb:0<b)(hs:bits b<=9000):binP .FloorDiv (.int a) (.int b)=some (.int (a/b)):=by show (if b=0 then none else if aU a b=true then none else some (PV.int (Int.fdiv a b)))=_;rw [if_neg (by exact bh ‹_›),tq hs,if_neg (by simp),ez _ (al ‹_›)]
theorem nY(h:bits a*n<=134217728):binP .Pow (.int a) (.int n)=some (.int (a^n)):=by
 show (if (decide (0<=(n:Int))&&jV (bits a*n))=true then some (PV.int (a^(n:Int).toNat))else none)=_;have h2:jV ((bits a:Int)*n)=true:=decide_eq_true (by have:((bits a*n:Nat):Int)<=((134217728:Nat):Int):=cj.mpr h;rw [j4]at this;exact this);rw [h2,decide_eq_true (show 0<=(n:Int) from aI _),aQ];rfl
theorem qg(d:Nat):(G2 d).gv "sum" =some (.bi "sum"):=by rw [iG];rfl
theorem qf{G:GT}{ρ:Rho}{e:PE}{l:List Int}(hg:G.gv "sum" =some (.bi "sum"))(h:be G e ρ=some (.list (l.map .int))):be G (.call (.glob "sum") [e]) ρ=some (.int l.sum):=ge (fA hg) (bN h dW) (sumP (oX _))
theorem z3p:word x y a++word x y b=word x y (a++b):=by simp [word]
theorem o7:bits (a*b)<=bits a+bits b:=by refine je ?_;rw [Int.natAbs_mul,Nat.pow_add];exact Nat.mul_lt_mul'' (mJ a) (mJ b)
theorem ug(h1:2^k<=x):k+1<=bits x:=by
 have h0:=pw2 k;have hx:0<x:=by lia
 rcases lO k (bits x)with h|h
 ·exact h
 ·exact absurd (eV h1 (bJ (mT (al hx)) (mI h))) (Int.lt_irrefl _)
theorem uA(N:Nat): ∀l:List Int,(∀x∈l,0<=x)->0<=numberOf N l:=by
 intro zz;induction zz with
 |nil=>intro J;simp [gJ]
 |cons x r ih=>
  intro h;have h1:=ih λy hy=>h y (ah _ hy)
  have h2:=h x ag;have h3:=d8 h1 (al (pw2 N));simp only [gJ,aQ];lia
theorem zsh(N:Nat): ∀l:List Int,(∀x∈l,0<=x/\x<2^N)->figs N (numberOf N l) l.length=l:=by
 intro zz;induction zz with
 |nil=>exact λJ=>rfl
 |cons x r ih=>intro h;have hx:=h x ag;have hd:=l8 (a:=numberOf N r*2^N+x) (b:=2^N) rfl hx.1 hx.2;simp only [gJ,aQ,aK,mv];rw [hd.1,hd.2,(ih λy hy=>h y (ah _ hy))]
theorem tn(N:Nat): ∀l:List Int,(∀x∈l,0<=x/\x<2^N)->numberOf N l<2^(N*l.length)
 | [],_=>by simp [gJ]
 |x::r,h=>by
  have hx:=h x ag;have ih:=tn N r λy hy=>h y (ah _ hy)
  simp only [gJ,aQ,aK];have e:(2:Int)^(N*(r.length+1))=2^(N*r.length)*2^N:=by rw [eY,dY]
  rw [e];have:=bd (show numberOf N r+1<=2^(N*r.length) from ‹_›) (al (pw2 N));rw [eD,kI]at this;lia
theorem zzw(N:Nat)(y:Int)(hy:1<=y): ∀l:List Int,(∀x∈l,0<=x)->2^(N*l.length)<=numberOf N (l++ [y]):=by
 intro zz;induction zz with
 |nil=>intro J;simp [gJ];assumption
 |cons x r ih=>
  intro h;have hx:=h x ag;have ih:=ih λz hz=>h z (ah _ hz)
  simp only [dS,gJ,aQ,aK];have e:(2:Int)^(N*(r.length+1))=2^(N*r.length)*2^N:=by rw [eY,dY]
  rw [e];have:=bd ih (al (pw2 N));lia
theorem zov{N:Nat}(hN:1<=N){l:List Int}{y:Int}(hl: ∀x∈l,0<=x/\x<2^N)(hy:1<=y)(hy2:y<2^N):digitsOf (numberOf N (l++ [y])) N=l++ [y]:=by
 have hall: ∀x∈l++ [y],0<=x/\x<2^N:=λx hx=>by
  rcases ec.mp hx with hx|hx
  ·exact hl x hx
  ·obtain rfl:=aE.mp hx;exact ⟨(al ‹_›),hy2⟩
 have h0:=uA N (l++ [y]) λx hx=>(hall x hx).1
 have h2:=ug (zzw N y hy l λx hx=>(hl x hx).1);have h3:=iY h0 (tn N _ hall);rw [aC,iH,eY]at h3;rw [nR h0];have hc:(bits (numberOf N (l++ [y]))+N-1)/N=(l++ [y]).length:=by
  rw [aC,iH];have e1:N*(l.length+1)=N*l.length+N:=by rw [eY]
  have e2:N*(l.length+1+1)=N*l.length+N+N:=by rw [eY,eY]
  apply Nat.div_eq_of_lt_le
  ·rw [ew,e1];lia
  ·rw [ew,e2];lia
 rw [hc,zsh N _ hall]
theorem zsi{N:Nat}(hN:1<=N):digitsOf 0 N=[]:=by rw [nR (dL 0),tu,show (0+N-1)/N=0 from Nat.div_eq_of_lt (by lia)];rfl
theorem z3q: ∀l:List Int,bp (l.map .int) (l.map .int)=true:=by
 intro zz;induction zz with
 |nil=>exact rfl
 |cons b l ih=>simp only [ax];unfold bp;rw [ih];simp [dA]
theorem qP(l:List Int):(l.map PV.int).mapM jo=some (l.map PyData.int):=by
 induction l with
 |nil=>rfl
 |cons b l ih=>rw [ax,fX,ih];rfl
theorem z7z(l:List Int):cmpV .NotEq (.list (l.map .int)) (.list (l.map .int))=some false:=by show (eqV (.list (l.map .int)) (.list (l.map .int))).map (!·)=_;rw [sT (qP l)];show (((l.map PV.int).mapM jo).bind λx=>((l.map PV.int).mapM jo).map λy=>bp x y).map (!·)=_;rw [qP,ac,cw,z3q];rfl
theorem ne_int:cmpV .NotEq (.int a) (.int a)=some false:=by show (some (a==a)).map (!·)=_;simp
theorem jbe:cmpV .NotEq (.tuple [.int a,.int b]) (.tuple [.int a,.int b])=some false:=by
 have:bp [.int a,.int b] [.int a,.int b]=true:=by simp [bp,dA]
 show (some (bp [.int a,.int b] [.int a,.int b])).map (!·)=_;rw [this];rfl
theorem sH{l:List Int}{k:Nat}(h:k<l.length):(l.map PV.int)[k]?=some (.int (l.getD k 0)):=by rw [cg,dK,aL h];rfl
noncomputable def slots(l:List (Option Slot))(i:Nat):Option Slot:=l.getD i none
theorem zqs(ha:0<a)(hb:0<b):bits a+bits b<=bits (a*b)+1:=by
 have h3:(2:Int)^(bits a-1+(bits b-1))<=a*b:=by rw [dY];exact Int.mul_le_mul (tK ha) (tK hb) (al (pw2 _)) (al ha)
 have:=ug h3;have e:bits a+bits b=bits a-1+(bits b-1)+1+1:=by rw [Nat.add_right_comm (bits a-1),cF (mj ha),eZ,cF (mj hb)]
 rw [e];exact eQ this
noncomputable def z5t:List (Int×Int):=[(1,1),(1,-1),(-1,1),(-1,-1)]
theorem z70(d:Nat):(G2 d).gv "type" =some (.ty "type"):=by rw [iG];rfl
theorem jbf(d:Nat):(G2 d).gv "int" =some (.ty "int"):=by rw [iG];rfl
theorem zt6(he:e=1\/e= -1):(e*x).natAbs=x.natAbs:=by rcases he with rfl|rfl<;>simp
theorem tj(he:e=1\/e= -1):bits (e*x)=bits x:=by exact ea (oO (dc (zt6 he))) (oO (dc (zt6 he).symm))
theorem zqt(he:e=1\/e= -1):bits e=1:=by rcases he with rfl|rfl<;>decide
noncomputable def lv(a b s:Nat):Nat:=(aD (a:Int) (b:Int) (s:Int)).toNat
theorem zv3(a b s:Nat):iK (a:Int) (b:Int) (s:Int)=(bl (lv a b s)).map λk=>.int ((a+k*s:Nat):Int):=by apply dC;intro k J;simp
theorem zt7(hs:0<s)(hk:k<lv a b s):a+k*s<b:=by
 unfold lv aD at hk;rw [if_pos (show (s:Int)>0 from cy.mpr hs)]at hk;split at hk
 ·have h1:(k:Int)<=((b:Int)-a-1)/s:=Int.le_of_lt_add_one (Int.lt_toNat.mp hk);have h2:=bd h1 (show (0:Int)<=s from aI _);have h3:=Int.ediv_mul_le ((b:Int)-a-1) (show (s:Int)≠0 by lia);have h4:((a+k*s:Nat):Int)<(b:Int):=by rw [bC,j4];lia
  exact cy.mp h4
 ·simp at hk
theorem z3r(hs:0<s):lv a b s<=b:=by
 rcases Nat.eq_zero_or_pos (lv a b s)with h|h
 ·rw [h];exact bD _
 ·have h1:=zt7 (a:=a) (b:=b) hs (k:=lv a b s-1) (Nat.sub_lt h Nat.one_pos);exact aa (dc (cF h).symm) (Nat.lt_of_le_of_lt (aa (Nat.le_mul_of_pos_right _ hs) (bj _ a)) h1)
noncomputable def rU:List (Nat×Nat):=[(102,105),(102,108),(115,116),(104,112),(107,109),(119,98),(114,115),(110,111)]
noncomputable def me:List Nat:=[97,65,119808,119860,119912,120016,120172,120224,120276,120328,120380,120432]
noncomputable def m3(c:Nat):List Nat:=match (j6 pw_wc0027_01).lookup (c:Int)with
 |some s=>s.cps.toList
 |none=>[lo1 c]
noncomputable def m3ok(c:Nat):Bool:=(((j6 pw_wc0027_01).lookup (c:Int)).isSome||decide (c<128))&&!(m3 c).isEmpty
noncomputable def ip(c:Nat):Bool:=kR.contains (c:Int)
noncomputable def jz:List Nat:=[98,102,104,105,107,108,109,110,111,112,114,115,116,119]
noncomputable def liga:List (Str×List Nat):=[(tx [102,102],[64256]),(tx [102,105],[64257]),(tx [102,108],[64258]),(tx [115,115],[223]),(tx [115,116],[64262]),(tx [104,112],[13259]),(tx [107,107],[13261]),(tx [107,109],[13262]),(tx [119,98],[13277]),(tx [114,115],[8360]),(tx [110,111],[8470])]
noncomputable def want:List (Nat×List Nat):=[(223,[115,115]),(8360,[114,115]),(8470,[110,111]),(13259,[104,112]),(13261,[107,107]),(13262,[107,109]),(13277,[119,98]),(64256,[102,102]),(64257,[102,105]),(64258,[102,108]),(64262,[115,116])]++
 (me.drop 2).flatMap λc=>jz.map λs=>(c+s-97,[s])
noncomputable def chk:List (Int×Str)->List (Nat×List Nat)->Bool
 |_,[]=>true
 | [],_::_=>false
 |(k,s)::t,(c,l)::ws=>if k=(c:Int)then decide (s.cps.toList=l)&&chk t ws else chk t ((c,l)::ws)
theorem chkE(k:Int)(s:Str)(t:List (Int×Str))(c:Nat)(l:List Nat)(ws:List (Nat×List Nat)):chk ((k,s)::t) ((c,l)::ws)=if k=(c:Int)then decide (s.cps.toList=l)&&chk t ws else chk t ((c,l)::ws):=rfl
theorem z71: ∀{t:List (Int×Str)} {ws:List (Nat×List Nat)},chk t ws=true-> ∀w∈ws,∃s,((w.1:Int),s)∈t/\s.cps.toList=w.2:=by
 intro t;induction t with
 |nil=>intro ws h w hw;cases ws with
  |nil=>cases hw
  |cons _ _=>exact ft h
 |cons q t ih=>
  intro ws h w hw;cases ws with
  |nil=>cases hw
  |cons p ws=>
  obtain ⟨k,s⟩:=q;obtain ⟨c,l⟩:=p;rw [chkE]at h;split at h
  ·rename_i hk;have h:=aF.mp h;rcases aw.mp hw with rfl|hw
   ·exact bK s (by rw [<-hk];exact ag) (of_decide_eq_true h.1)
   ·refine aN (ih h.2 w hw) λs' h1 h2=>?_
    exact bK s' (ah _ h1) h2
  ·refine aN (ih h w hw) λs' h1 h2=>?_
   exact bK s' (ah _ h1) h2
theorem z72:chk (j6 pw_wc0027_01) want=true:=by decide+kernel
theorem zv4:rising ((j6 pw_wc0027_01).map (·.1))=true:=by decide+kernel
theorem z3s:(j6 pw_wc0027_01).all (λx=>decide (128<=x.1))=true:=by decide+kernel
theorem zzy(h:w∈want)(hn:w.2.isEmpty=false):m3 w.1=w.2/\m3ok w.1=true:=by
 refine aN (z71 z72 w h) λs h1 h2=>?_
 have:=uF (zj3 zv4) h1;have e:m3 w.1=w.2:=by unfold m3;rw [this];exact h2
 refine ⟨e,?_⟩;unfold m3ok;rw [e,hn,this];rfl
theorem zt8{c:Nat}(h:c<128):(j6 pw_wc0027_01).lookup (c:Int)=none:=by rw [List.lookup_eq_none_iff];intro p hp;have:=of_decide_eq_true (aj.mp z3s p hp);simpa using (Int.ne_of_lt (bJ (cy.mpr h) this))
theorem z5u{c:Nat}(h:c<128):m3 c=[lo1 c]/\m3ok c=true:=by
 have e:m3 c=[lo1 c]:=by unfold m3;rw [zt8 h]
 refine ⟨e,?_⟩;unfold m3ok;rw [e,zt8 h];simp [h]
theorem z3t:(me.all λc=>jz.all λs=>!ip (c+s-97)&&decide (c+s-97<1000000))=true:=by decide+kernel
theorem z73:(liga.all λp=>match p.2 with| [b]=>decide (b<1000000/\(b,p.1.cps.toList)∈want)&&!ip b&&!p.1.cps.toList.isEmpty|_=>false)=true:=by decide+kernel
theorem zsk:jz.all (λs=>decide (97+s-97<128/\lo1 (97+s-97)=s/\65+s-97<128/\lo1 (65+s-97)=s))=true:=by decide
theorem zzz(hc:c∈me)(hs:s∈jz):m3 (c+s-97)=[s]/\m3ok (c+s-97)=true/\ip (c+s-97)=false/\c+s-97<1000000:=by
 have hl:=of_decide_eq_true (aj.mp zsk s hs);have hb:=aj.mp (aj.mp z3t c hc) s hs;rw [an,decide_eq_true_eq]at hb;refine (λh=>⟨h.1,h.2,by simpa using hb.1,hb.2⟩:(m3 (c+s-97)=[s]/\m3ok (c+s-97)=true)->_) ?_;by_cases h97:c=97
 ·show let g_:=_;g_;intro g_;subst h97;have:=z5u hl.1;exact ⟨by rw [this.1,hl.2.1],this.2⟩
 ·by_cases h65:c=65
  ·subst h65;have:=z5u hl.2.2.1;exact ⟨by rw [this.1,hl.2.2.2],this.2⟩
  ·have hc':c∈me.drop 2:=by
    unfold me at hc⊢;simp only [aw]at hc;rcases hc with h|h|h
    ·exact absurd h h97
    ·exact absurd h h65
    ·simpa using h
   exact zzy (w:=(c+s-97,[s])) (cr _ (List.mem_flatMap.mpr (bK c hc' (bg.mpr (bK s hs rfl))))) rfl
noncomputable def rd(c:Nat):List Nat:=if ip c then []else m3 c
def lu(c:Nat):Prop:=ip c=true\/m3ok c=true
noncomputable def mr:List Nat:=[173,847,6150,6155,6156,6157,8203,8204,8205,8288,65279]++(bl 16).map λk=>65024+k
theorem z3u:kR=mr.map λ(c:Nat)=>(c:Int):=by decide+kernel
theorem zz0:mr.all (λc=>ip c&&decide (c<1000000))=true:=by decide+kernel
theorem zz1:mr.length=27:=by decide
theorem zz2:me.length=12:=by decide
theorem zt9(d:Nat)(c:Nat):(G2 (d+1)).fns "in_table_b1" [.str (tx [c])]=some (.bool (ip c)):=by rw [z3m];refine jy rfl (hC (jg (og (qi (qh d) (aO rfl)) (fA (jc8 d)) ?_)));rfl
theorem z3v(d:Nat)(h:m3ok c=true):(G2 (d+1)).fns "map_table_b3" [.str (tx [c])]=some (.str (tx (m3 c))):=by
 rw [z3n];refine jy rfl ?_;have hget: ∀ρ:Rho,be (G2 d) (.var 1) ρ=some (.str (tx [c]))->be (G2 d) (.meth (.glob "b3_exceptions") ("get":Str) [(.call (.glob "ord") [(.var 1)])]) ρ=
   some (optStr ((j6 pw_wc0027_01).lookup (c:Int))):=λρ h1=>by
  simp only [eE,jc9,ac,bN (qi (qh d) h1) dW];rw [if_pos (show isB3 PV.b3=true from rfl)];simp only [vE,ac];rw [if_pos (by simp),jau];rfl
 refine dD (gG (hget _ (aO rfl))) ?_;unfold m3ok m3 at h;unfold m3;cases hl:(j6 pw_wc0027_01).lookup (c:Int)with
 |some s=>refine hC (ie (c:=true) (gb (aO rfl) rfl rfl) (hC (jg ?_)));rw [aO (v:=.str s) rfl]
 |none=>
  rw [hl]at h;have hc:c<128:=by rw [an]at h;simpa using h.1
  refine dD (ie (c:=false) (gb (aO rfl) rfl rfl) iq) (hC (jg (qp (s:=tx [c]) (aO rfl) dW ?_)));have hlow:Txt.lower (tx [c])=tx [lo1 c]:=by rw [lower_ascii (x:=tx [c]) (by simpa using hc)];simp
  rw [z9q (by rw [hlow];rfl),hlow]
theorem zsm: ∀l:List α,((l.filter p).map F).flatten=l.flatMap λa=>if p a then F a else []:=by
 intro l;induction l with
 |nil=>rfl
 |cons a l ih=>cases h:p a<;>simp [h,ih]
theorem z3w(d:Nat)(hT: ∀c∈T,lu c)(hl:T.length<=1000)(hz:(T.flatMap rd).length<=16777216):(G2 (d+2)).fns "_law_read" [.str (tx T)]=some (jv (T.flatMap rd).isEmpty (T.flatMap rd)):=by
 rw [z3o];refine jy rfl (hC (jg ?_));have hf:(((T.filter λc=>!ip c).map m3).flatten)=T.flatMap rd:=by rw [zsm];congr 1;funext a;unfold rd;cases ip a<;>rfl
 have hok: ∀c∈T,(!ip c)=true->m3ok c=true:=λc hc hb=>(hT c hc).resolve_left λe=>by rw [e]at hb;exact ft hb
 have he:((T.filter λc=>!ip c).map m3).isEmpty=(T.flatMap rd).isEmpty:=by
  rw [<-hf];cases hq:(T.filter λc=>!ip c)with
  |nil=>rfl
  |cons c r=>
   have hm:c∈T.filter λc=>!ip c:=by rw [hq];exact ag
   obtain ⟨h1,h2⟩:=List.mem_filter.mp hm;have h3:=hok c h1 h2;unfold m3ok at h3;rw [an]at h3;cases hmc:m3 c with
   |nil=>rw [hmc]at h3;exact ft h3.2
   |cons u v=>simp [hmc]
 rw [<-he,<-hf];refine sI (vs:=(T.filter λc=>!ip c).map λc=>.str (tx (m3 c))) (zqp (l:=T) (mk:=λc=>.str (tx [c])) ?_ (λc hc=>?_) (λc hc hb=>ge (fA (z7y _)) (bN (aO rfl) dW) (z3v d (hok c hc hb))) (aa hl (by decide))) (oK λc J=>rfl) (by cases T.filter _<;>rfl) (by rw [hf];exact hz)
 ·show some (jZ (tx T))=_;rw [rj];rfl
 ·have h1:=zyv (G:=G2 (d+1)) (ρ:=setR (setR (aJ tU none) 0 (.val (.str (tx T)))) 1 (.val (.str (tx [c])))) (fA (zzu _)) (bN (aO (k:=1) rfl) dW) (zt9 d c) rfl;exact z5p h1
theorem zv5:jz.all (λs=>decide (97<=s))=true:=by decide
theorem sb(hb:0<b)(hs:bits b<=9000):augP .FloorDiv (.int a) (.int b)=some (.int (a/b)):=jC hb hs
theorem jda(h:a.length+b.length<=16777216):augP .Add (.str (tx a)) (.str (tx b))=some (.str (tx (a++b))):=n0 h
theorem zsn(d:Nat)(args:List PV):(G2 (d+1)).fns "_law_spelled" args=jb (G2 d) ux uw zh5 args:=rfl
theorem z3x(d:Nat)(args:List PV):(G2 (d+1)).fns "_law_rule" args=jb (G2 d) ue ud zmt args:=rfl
noncomputable abbrev lF:PV:=.list (me.map λ(c:Nat)=>.int (c:Int))
noncomputable abbrev md:PV:=.list (mr.map λ(c:Nat)=>.int (c:Int))
noncomputable abbrev lV:List (Str×PV):=liga.map λq=>(q.1,.str (tx q.2))
noncomputable abbrev rhoS(o0 o1 o2 o3 o4:Option Slot)(n:Int)(l:List Nat):Rho:=[o0,o1,o2,o3,o4,some (.val md),some (.val (.int n)),some (.val (.str (tx l))),none]
noncomputable abbrev zz4:List PS:=[.aug 2 .Add (.call (.glob "chr") [(.bin .Sub (.bin .Add (.sub (.var 3) (.bin .Mod (.var 6) (.int 12))) (.call (.glob "ord") [(.var 1)])) (.int 97))]),.aug 6 .FloorDiv (.int 12)]
inductive z74(l:List Nat)(o0 o4:Option Slot)(T:List Nat)(rest:List Nat)(run:Option Out):Prop where
 |mk (T':List Nat) (n':Int) (o1:Option Slot) (e:run=some (.next (rhoS o0 o1 (some (.val (.str (tx (T++T'))))) (some (.val lF)) o4 n' l))) (g: ∀c∈T',lu c) (r:T'.flatMap rd=rest) (k:T'.length=rest.length)
theorem jbg:bits 12<=9000:=aa (iY (k:=4) (by decide) (by decide)) (by decide)
theorem zv6: ∀(rest T:List Nat) (n:Int) (o1:Option Slot),(∀c∈rest,c∈jz)->T.length+rest.length<=1000-> z74 l o0 o4 T rest (kn (G2 d) [1] true zz4 (lets rest) (rhoS o0 o1 (some (.val (.str (tx T)))) (some (.val lF)) o4 n l)):=by
 intro rest;induction rest with
 |nil=>exact λT n o1 J J=>⟨[],n,o1,by rw [cC];rfl,(λJ h=>nomatch h),rfl,rfl⟩
 |cons s rest ih=>
  intro T n o1 h hl;show let g_:=_;g_;intro g_;obtain ⟨j,hj,hj12⟩: ∃j:Nat,n%12=(j:Int)/\j<12:=modN n 12 (by decide);obtain ⟨cd,hcd⟩: ∃cd,me[j]?=some cd:=⟨_,aL (zz2▸hj12)⟩;refine ji (zzz (bz hcd) (h s ag)) λr1 r2 r3 r4=>?_
  rw [aK]at hl;obtain ⟨T',n',o1',e,g,r,k⟩:=ih (T++ [cd+s-97]) (n/12) (some (.val (.str (tx [s])))) (λc hc=>h c (ah _ hc)) (by rw [aC,iH];lia);refine ⟨(cd+s-97)::T',n',o1',?_,?_,?_,?_⟩
  ·rw [cT]at e;refine (lh ?_).trans e;refine dD (k8 (y:=.str (tx [cd+s-97])) rfl (z5q (z5r d) (cE (x:=.int ((cd+s:Nat):Int)) (cE (fF (y:=.int (j:Int)) (z:=.int (cd:Int)) (aO rfl) (cE (aO rfl) rfl (by rw [iI (by decide),hj])) (kh (af hj12 (by decide)) (by rw [cg,hcd];rfl))) (qi (qh d) (c:=s) (aO rfl)) (by rw [bC];rfl)) rfl ?_) r4) (jda (by rw [iH];lia))) (dD (k8 rfl rfl (sb (by decide) jbg)) iq);rw [rR (aa (of_decide_eq_true (aj.mp zv5 s (h s ag))) (bj _ _))];rfl
  ·intro c hc;rcases aw.mp hc with rfl|hc
   ·exact .inr r2
   ·exact g c hc
  ·have:rd (cd+s-97)=[s]:=by unfold rd;rw [r3,if_neg bn,r1]
   rw [bo,this,r];rfl
  ·rw [aK,aK,k]
inductive Typed(l:List Nat)(v:Option PV):Prop where
 |mk (T:List Nat) (e:v=some (.str (tx T))) (g: ∀c∈T,lu c) (r:T.flatMap rd=l) (k:T.length<=3)
theorem sG(h:liga.lookup (tx l)=some t):(∀c∈t,lu c)/\t.flatMap rd=l/\t.length=1:=by
 have hm:(tx l,t)∈liga:=by
  have gen: ∀{L:List (Str×List Nat)},L.lookup (tx l)=some t->(tx l,t)∈L:=λ{L}=>by
   induction L with
   |nil=>exact λh=>cu h
   |cons q L ih=>
    intro h;rw [aG]at h;cases hb:tx l==q.1 with
    |true=>rw [hb]at h;replace h:=oj h;subst h;rw [beq_iff_eq.mp hb];exact ag
    |false=>rw [hb]at h;exact ah _ (ih h)
  exact gen h
 have ok:=aj.mp z73 _ hm
 match t,ok with
 | [b],ok=>
  simp only [an,decide_eq_true_eq,eA]at ok;show let g_:=_;g_;intro g_;obtain ⟨⟨⟨J,hw⟩,hb⟩,hn⟩:=ok;obtain ⟨m1,m2⟩:=zzy hw hn;refine ⟨λc hc=>?_,?_,rfl⟩
  ·rw [aE.mp hc];exact .inr m2
  ·have:rd b=l:=by unfold rd;rw [hb,if_neg bn,m1]
   rw [bo,this,List.flatMap_nil,cC]
theorem zlu(d:Nat)(hl:l.length<=2)(hm: ∀c∈l,c∈jz)(n:Int):Typed l ((G2 (d+1)).fns "_law_spelled" [.str (tx l),.int n,md]):=by
 rw [zsn];show let g_:=_;g_;intro g_;obtain ⟨t0,ht0,hl0⟩: ∃t0:List Nat,be (G2 d) (.ifx (.cmp .Eq (.bin .Mod (.var 6) (.int 2)) (.int 1)) (.meth (.var 4) ("get":Str) [(.var 7),(.str "")]) (.str "")) (rhoS none none none (some (.val lF)) (some (.val (.dict lV))) n l)=some (.str (tx t0))/\(t0=[]\/liga.lookup (tx l)=some t0):=by
  by_cases hodd:n%2=1
  ·refine bK ((liga.lookup (tx l)).getD []) (lG (c:=true) (gb (cE (aO rfl) rfl (iI (by decide))) rfl (by show some (n%2==1)=_;rw [hodd];rfl)) ?_) ?_
   ·have h1:gh (G2 d) [(.var 7),(.str "")] (rhoS none none none (some (.val lF)) (some (.val (.dict lV))) n l)=some [.str (tx l),.str (tx [])]:=bN (aO rfl) (bN rfl dW);show some ((lV.lookup (tx l)).getD (.str (tx [])))=_;have gen: ∀L:List (Str×List Nat),(L.map λq=>(q.1,PV.str (tx q.2))).lookup (tx l)=(L.lookup (tx l)).map λt=>PV.str (tx t):=λL=>by
     induction L with
     |nil=>rfl
     |cons q L ih=>
      rw [ax,aG,aG];cases tx l==q.1 with
      |true=>rfl
      |false=>exact ih
    rw [gen];cases liga.lookup (tx l)<;>rfl
   ·cases liga.lookup (tx l)with
    |none=>exact .inl rfl
    |some t=>exact .inr rfl
  ·exact bK [] (lG (c:=false) (gb (cE (aO rfl) rfl (iI (by decide))) rfl (by show some (n%2==1)=_;rw [beq_eq_false_iff_ne.mpr hodd])) rfl) (.inl rfl)
 obtain ⟨rest,hre,hrest,hrm,hrl⟩: ∃rest:List Nat,(if t0=[]then l else [])=rest/\(t0=[]/\rest=l\/liga.lookup (tx l)=some t0/\rest=[])/\(∀c∈rest,c∈jz)/\rest.length<=2:=by
  rcases hl0 with rfl|h
  ·exact k6 l rfl (.inl ⟨rfl,rfl⟩) hm hl
  ·have:=(sG h).2.2;refine k6 [] (if_neg (λe=>by rw [e]at this;exact absurd this (by decide))) (.inr ⟨h,rfl⟩) (λJ h=>nomatch h) (bD _)
 have htl:t0.length<=1:=by
  rcases hl0 with rfl|h
  ·exact bD _
  ·exact dc (sG h).2.2
 obtain ⟨T',n',o1,e,g,r,k⟩:=zv6 (d:=d) (l:=l) (o0:=none) (o4:=some (.val (.dict lV))) rest t0 (n/2) none hrm (by lia);have hT:(∀c∈t0++T',lu c)/\(t0++T').flatMap rd=l/\(t0++T').length<=2:=by
  rw [aC,jB,r,k];rcases hrest with ⟨rfl,rfl⟩|⟨h,rfl⟩
  ·exact ⟨g,rfl,by rw [j2,eu];exact hl⟩
  ·have:=sG h;refine ⟨λc hc=>(ec.mp hc).elim (this.1 c) (g c),by rw [this.2.1,cC],by rw [this.2.2];decide⟩
 obtain ⟨mk,hmk,hmg,hmr,hml⟩: ∃mk:List Nat,(∀o1 o2 o3 o4,be (G2 d) (.ifx (.cmp .Lt (.bin .Mod (.var 6) (.int 81)) (.int 27)) (.call (.glob "chr") [(.sub (.var 5) (.bin .Mod (.var 6) (.int 81)))]) (.str "")) (rhoS none o1 o2 o3 o4 n' l)=some (.str (tx mk)))/\(∀c∈mk,lu c)/\mk.flatMap rd=[]/\mk.length<=1:=by
  show let g_:=_;g_;intro g_;obtain ⟨j,hj,hj81⟩: ∃j:Nat,n'%81=(j:Int)/\j<81:=modN n' 81 (by decide);by_cases h27:j<27
  ·obtain ⟨mu,hmu⟩: ∃mu,mr[j]?=some mu:=⟨_,aL (zz1▸h27)⟩;have hb:=aj.mp zz0 mu (bz hmu);rw [an,decide_eq_true_eq]at hb;refine k6 [mu] (λo1 o2 o3 o4=>lG (c:=true) (gb (cE (aO rfl) rfl (iI (by decide))) rfl (by rw [hj];exact congrArg some (decide_eq_true (show (j:Int)<27 from cy.mpr h27)))) (z5q (z5r d) (c:=mu) (fF (y:=.int (j:Int)) (aO rfl) (cE (aO rfl) rfl (by rw [iI (by decide),hj])) (kh (af h27 (by decide)) (by rw [cg,hmu];rfl))) hb.2)) (λc hc=>?_) ?_ (az _)
   ·rw [aE.mp hc];exact .inl hb.1
   ·have:rd mu=[]:=by unfold rd;rw [hb.1,if_pos rfl]
    rw [bo,this];rfl
  ·exact k6 [] (λo1 o2 o3 o4=>lG (c:=false) (gb (cE (aO rfl) rfl (iI (by decide))) rfl (by rw [hj];exact congrArg some (decide_eq_false (λe:(j:Int)<27=>h27 (cy.mp e))))) rfl) (λJ h=>nomatch h) rfl (bD _)
 have fin: ∀T v,(T=mk++(t0++T')\/T=(t0++T')++mk)->v=some (PV.str (tx T))->Typed l v:=λT v hTT hv=>by
  refine ⟨T,hv,?_,?_,?_⟩
  ·rcases hTT with rfl|rfl
   ·exact λc hc=>(ec.mp hc).elim (hmg c) (hT.1 c)
   ·exact λc hc=>(ec.mp hc).elim (hT.1 c) (hmg c)
  ·rcases hTT with rfl|rfl
   ·rw [jB,hmr,hT.2.1];rfl
   ·rw [jB,hmr,hT.2.1,cC]
  ·rcases hTT with rfl|rfl
   ·rw [aC];lia
   ·rw [aC];lia
 obtain ⟨T,hTT,hret⟩: ∃T,(T=mk++(t0++T')\/T=(t0++T')++mk)/\be (G2 d) (.ifx (.cmp .Eq (.bin .Mod (.bin .FloorDiv (.var 6) (.int 81)) (.int 2)) (.int 0)) (.bin .Add (.var 0) (.var 2)) (.bin .Add (.var 2) (.var 0))) (rhoS (some (.val (.str (tx mk)))) o1 (some (.val (.str (tx (t0++T'))))) (some (.val lF)) (some (.val (.dict lV))) n' l)=some (.str (tx T)):=by
  have hev:=cE (G:=G2 d) (ρ:=rhoS (some (.val (.str (tx mk)))) o1 (some (.val (.str (tx (t0++T'))))) (some (.val lF)) (some (.val (.dict lV))) n' l) (op:=.Mod) (a:=.bin .FloorDiv (.var 6) (.int 81)) (b:=.int 2) (cE (aO (k:=6) rfl) (b:=.int 81) rfl (jC (by decide) (aa (iY (k:=7) (by decide) (by decide)) (by decide)))) rfl (iI (by decide));by_cases hz:n'/81%2=0
  ·exact bK _ (.inl rfl) (lG (c:=true) (gb hev rfl (by show some (n'/81%2==0)=_;rw [hz];rfl)) (cE (aO rfl) (aO rfl) (n0 (by lia))))
  ·exact bK _ (.inr rfl) (lG (c:=false) (gb hev rfl (by show some (n'/81%2==0)=_;rw [beq_eq_false_iff_ne.mpr hz])) (cE (aO rfl) (aO rfl) (n0 (by lia))))
 refine fin T _ hTT (jy rfl ?_);refine dD (zqc rfl rfl) (dD (jaz rfl rfl (by decide)) (dD (gG (v:=lF) ?_) (dD (tL rfl) (dD (gG ?_) (dD (k8 rfl rfl (sb (by decide) (aa (iY (k:=2) (by decide) (by decide)) (by decide)))) (dD (mD (items:=lets rest) ?_ rfl e) (dD (gG (hmk _ _ _ _)) (hC (jg hret)))))))))
 ·refine cE (x:=.list ([97,65].map λ(c:Nat)=>.int (c:Int))) rfl (i5 (l:=[0,1,2,4,7,8,9,10,11,12]) (mk:=λ(k:Nat)=>.int (k:Int)) (g:=λ(k:Nat)=>.int ((119808+52*k:Nat):Int)) rfl (λk hk=>?_) (by decide)) rfl;refine cE rfl (cE (z:=.int ((52*k:Nat):Int)) rfl (aO rfl) ?_) ?_
  ·have hk13:k<13:=by
    have: [0,1,2,4,7,8,9,10,11,12].all (λk=>decide (k<13))=true:=by decide
    exact of_decide_eq_true (aj.mp this k hk)
   rw [jG (by have h1:bits 52<=6:=je (by decide);have h2:bits (k:Int)<=6:=je (by show k<2^6;exact aa ‹_› (by decide));lia)];simp
  ·show some (PV.int (119808+((52*k:Nat):Int)))=_;simp
 ·exact ht0
 ·show (be (G2 d) _ (rhoS none none (some (.val (.str (tx t0)))) (some (.val lF)) (some (.val (.dict lV))) (n/2) l)).bind lY=_;have:be (G2 d) (.ifx (.cmp .Eq (.var 2) (.str "")) (.var 7) (.str "")) (rhoS none none (some (.val (.str (tx t0)))) (some (.val lF)) (some (.val (.dict lV))) (n/2) l)=some (.str (tx rest)):=by
   rw [<-hre];refine lG (c:=decide (t0=[])) (gb (aO rfl) (y:=.str (tx [])) rfl e_tx) ?_;by_cases h:t0=[]
   ·rw [decide_eq_true h,if_pos h];exact aO rfl
   ·rw [decide_eq_false h,if_neg h];rfl
  rw [this,ac];show some (jZ (tx rest))=_;rw [rj]
noncomputable def pV:List (List Bool):=[[],[true],[false],[true,true],[true,false],[false,true],[false,false]]
theorem zv7:pV.all (λw=>decide (w.length<=2))=true:=by decide
structure RD where
 w0:List Bool
 w1:List Bool
 T0:List Nat
 T1:List Nat
noncomputable def RD.v(x y:Nat)(r:RD):PV:=.tuple [.list [.str (tx (word x y r.w0)),.str (tx (word x y r.w1))],.list [.str (tx r.T0),.str (tx r.T1)]]
structure RD.Ok(x y:Nat)(r:RD):Prop where
 l0:r.w0.length<=2
 l1:r.w1.length<=2
 g0: ∀c∈r.T0,lu c
 g1: ∀c∈r.T1,lu c
 r0:r.T0.flatMap rd=word x y r.w0
 r1:r.T1.flatMap rd=word x y r.w1
 k0:r.T0.length<=3
 k1:r.T1.length<=3
theorem oJ{x y:Nat}{r:List Bool}{P:Nat->Prop}(hx:P x)(hy:P y): ∀c∈word x y r,P c:=λc h=>by
 refine aN (bg.mp h) λb J e_=>?_
 subst e_;cases b
 ·exact hy
 ·exact hx
theorem znd(d:Nat):(G2 d).gv "_law_spelled" =some (.fn "_law_spelled"):=gv_h d (by decide+kernel) (by rfl)
theorem z3y(d:Nat)(hx:x∈jz)(hy:y∈jz)(n:Int): ∃r:RD,(G2 (d+2)).fns "_law_rule" [.int n,.str (tx [x,y]),md]=some (r.v x y)/\r.Ok x y:=by
 have hw: ∀m:Int,∃(j:Nat) (w:List Bool),m%7=(j:Int)/\pV[j]?=some w/\w.length<=2/\j<7:=λm=>by
  refine aN (modN m 7 (by decide)) λj hj h7=>?_
  obtain ⟨w,hw⟩: ∃w,pV[j]?=some w:=⟨_,aL h7⟩;exact jK j w hj hw (of_decide_eq_true (aj.mp zv7 w (bz hw))) h7
 show let g_:=_;g_;intro g_;refine jL (hw n) λi w0 hi hw0 l0 hi7=>?_
 refine jL (hw (n/7)) λj w1 hj hw1 l1 hj7=>?_
 have b7: ∀{k:Int},0<=k->k<2^20->bits k<=9000:=λh0 h1=>aa (iY h0 h1) (by decide)
 obtain ⟨T0,e0,g0,r0,k0⟩:=zlu d (l:=word x y w0) (by rw [lg];exact l0) (oJ hx hy) (n/49);obtain ⟨T1,e1,g1,r1,k1⟩:=zlu d (l:=word x y w1) (by rw [lg];exact l1) (oJ hx hy) (n/49/46656);refine bK ⟨w0,w1,T0,T1⟩ ?_ ⟨l0,l1,g0,g1,r0,r1,k0,k1⟩;rw [z3x];refine jy rfl ?_;refine dD (gG (v:=.list (pV.map λw=>.str (tx (word x y w)))) rfl) (dD (gG (v:=.list [.str (tx (word x y w0)),.str (tx (word x y w1))]) ?_) (hC (jg (iT (bN (aO rfl) (bN (nr (bN ?_ (bN ?_ dW))) dW))))))
 ·refine nr (bN (fF (y:=.int (i:Int)) (aO rfl) (cE (aO rfl) rfl (by rw [iI (by decide),hi])) (kh (af hi7 (by decide)) (by rw [cg,hw0];rfl))) (bN (fF (y:=.int (j:Int)) (aO rfl) (cE (cE (aO rfl) rfl (jC (by decide) (b7 (by decide) (by decide)))) rfl (by rw [iI (by decide),hj])) (kh (af hj7 (by decide)) (by rw [cg,hw1];rfl))) dW))
 ·exact ge (fA (znd _)) (bN (fF (aO rfl) rfl rfl) (bN (cE (aO rfl) rfl (jC (by decide) (b7 (by decide) (by decide)))) (bN (aO rfl) dW))) e0
 ·exact ge (fA (znd _)) (bN (fF (aO rfl) rfl rfl) (bN (cE (cE (aO rfl) rfl (jC (by decide) (b7 (by decide) (by decide)))) rfl (jC (by decide) (b7 (by decide) (by decide)))) (bN (aO rfl) dW))) e1
theorem jbh(l:List Nat)(c:Nat):(occurrences (tx l) (tx [c]) 0 (tx l).length ((tx l).length+1)).isEmpty=decide (c∉l):=by
 refine aN (StrLaws.occ_tight (tx l) ⟨#[c]⟩ (az 1)) λf h1 h2=>?_
 have h:=zlh _ _ _ h1 h2;rw [lT]at h;have e:(occurrences (tx l) (tx [c]) 0 (tx l).length ((tx l).length+1)).isEmpty=decide ((occurrences (tx l) (tx [c]) 0 (tx l).length ((tx l).length+1)).length=0):=by cases occurrences (tx l) (tx [c]) 0 (tx l).length ((tx l).length+1)<;>rfl
 rw [e];refine decide_eq_decide.mpr ?_;rw [<-List.count_eq_zero];exact ⟨λe=>h.symm.trans e,λe=>h.trans e⟩
theorem zub(hv:i4 v=some (tx l))(hp:lc P i=some (tx [a]))(hq:lc Q j=some (tx [b]))(hab:a≠b)(hl:l.length<=1000): mY v P i Q j=some (if a∈l then .frs (tx (l.flatMap λc=>if c=a then [b]else [c]))else v):=by
 unfold mY;rw [hv,ac,hp,ac,hq,ac];have hne:(tx [a] !=tx [b])=true:=by rw [bne,j5,decide_eq_false (λe=>hab (List.cons.inj e).1)];rfl
 rw [if_pos (by rw [hne,szok (by rw [jc];lia)];rfl),jbh];by_cases h:a∈l
 ·rw [decide_eq_false (λn=>n h),if_neg bn,if_pos h];have:=zyy l a [b];rw [show (tx [a])=(⟨#[a]⟩:Str) from rfl,this]
 ·rw [decide_eq_true h,if_pos rfl,if_neg h]
theorem zz5(hyx:y≠x)(w:List Bool):((word x y w).flatMap λc=>if c=x then [p]else [c])=word p y w:=by
 induction w with
 |nil=>rfl
 |cons b w ih=>
  show ((if b then x else y)::word x y w).flatMap _=(if b then p else y)::word p y w;rw [bo,ih];cases b
  ·show (if y=x then [p]else [y])++_=_;rw [if_neg hyx];rfl
  ·show (if x=x then [p]else [x])++_=_;rw [if_pos rfl];rfl
theorem zv8(hpy:p≠y)(w:List Bool):((word p y w).flatMap λc=>if c=y then [q]else [c])=word p q w:=by
 induction w with
 |nil=>rfl
 |cons b w ih=>
  show ((if b then p else y)::word p y w).flatMap _=(if b then p else q)::word p q w;rw [bo,ih];cases b
  ·show (if y=y then [q]else [y])++_=_;rw [if_pos rfl];rfl
  ·show (if p=y then [q]else [p])++_=_;rw [if_neg hpy];rfl
theorem zz6(h:x∉word x y w):word p y w=word x y w:=by
 refine dC λb hb=>?_
 cases b
 ·rfl
 ·exact absurd (bg.mpr (bK true hb rfl)) h
theorem zv9(h:y∉word p y w):word p q w=word p y w:=by
 refine dC λb hb=>?_
 cases b
 ·exact absurd (bg.mpr (bK false hb rfl)) h
 ·rfl
theorem zz7(hxy:x≠y)(hxp:x≠p)(hyq:y≠q)(hyp:p≠y)(hl:w.length<=1000)(h1:lc P 0=some (tx [x]))(h2:lc P 1=some (tx [y]))(h3:lc Q 0=some (tx [p]))(h4:lc Q 1=some (tx [q])): ((mY (jv (word x y w).isEmpty (word x y w)) P 0 Q 0).bind λv=>mY v P 1 Q 1)=some (.frs (tx (word p q w))):=by
 rw [zub (qj _ _) h1 h3 hxp (by rw [lg];exact hl),ac,zz5 (dh hxy)];obtain ⟨v,hv,e⟩: ∃v,i4 v=some (tx (word p y w))/\(if x∈word x y w then PV.frs (tx (word p y w))else jv (word x y w).isEmpty (word x y w))=v:=by
  refine ⟨_,?_,rfl⟩;by_cases h:x∈word x y w
  ·rw [if_pos h];rfl
  ·rw [if_neg h,qj,zz6 (p:=p) h]
 rw [e,zub hv h2 h4 hyq (by rw [lg];exact hl),zv8 hyp];by_cases h:y∈word p y w
 ·rw [if_pos h]
 ·rw [if_neg h,<-e];by_cases g:x∈word x y w
  ·rw [if_pos g,zv9 (q:=q) h]
  ·rw [if_neg g];have hw:w=[]:=by
    cases w with
    |nil=>rfl
    |cons b w=>
     cases b
     ·exact absurd ag h
     ·exact absurd ag g
   subst hw;rfl
theorem z3z: ∀h<5,(decide (2<=(fR h).length/\(fR h).length<=7)&&((bl (fR h).length).all λf=>(bl ((fR h).length-1)).all λe=>decide ((fR h).getD f 0≠(fR h).getD ((f+1+e)%(fR h).length) 0)))=true:=by decide+kernel
theorem zqv: ∀h<5,(fR h).all (λc=>decide (c<97))=true:=by decide+kernel
theorem z30:rU.all (λp=>decide (p.1≠p.2/\p.1∈jz/\p.2∈jz))=true:=by decide
theorem ru:jz.all (λc=>decide (97<=c/\c<1000))=true:=by decide
structure Sg(h x y p q:Nat):Prop where
 h5:h<5
 pm:p∈fR h
 qm:q∈fR h
 pq:p≠q
 xl:x∈jz
 yl:y∈jz
 xy:x≠y
theorem Sg.xp(g:Sg h x y p q):x≠p/\x≠q/\y≠p/\y≠q:=by have h1:=of_decide_eq_true (aj.mp (zqv h g.h5) p g.pm);have h2:=of_decide_eq_true (aj.mp (zqv h g.h5) q g.qm);have h3:=(of_decide_eq_true (aj.mp ru x g.xl)).1;have h4:=(of_decide_eq_true (aj.mp ru y g.yl)).1;exact ⟨b9 (af h1 h3),b9 (af h2 h3),b9 (af h1 h4),b9 (af h2 h4)⟩
noncomputable abbrev rhoL(o:Nat->Option Slot)(cs:List Int):Rho:=[o 0,o 1,o 2,o 3,o 4,o 5,o 6,o 7,o 8,o 9,o 10,o 11,o 12,o 13,o 14,o 15,o 16,o 17,o 18,o 19,o 20,o 21,o 22,o 23,some (.val (.list (cs.map .int))),o 24,o 25,none,none]
noncomputable abbrev mC(h:Nat):List (Str×PV):=jw.map λc=>(tx [c],.lit (tx (nmC h c)))
theorem sF{G:GT}{ρ:Rho}{cs:List Int}{k:Nat}{c:Int}(hρ:ρ[24]?=some (some (.val (.list (cs.map .int)))))(h:cs[k]?=some c)(hk:k<1000):be G (.sub (.var 24) (.int k)) ρ=some (.int c):=fF (aO hρ) rfl (kh (gw hk (by decide)) (by rw [cg,h];rfl))
theorem na(h0:0<=k)(h1:k<2^40):bits k<=9000:=aa (iY h0 h1) (by decide)
theorem zz8(d:Nat){h:Nat}(hh:h<5){cs:List Int}{c0:Int}(hc0:cs[0]?=some c0)(o:Nat->Option Slot)(h22:o 22=some (.val (.str (tx (fR h))))): ∃x y p q f,Sg h x y p q/\ ∀r,eK (G2 d) ((kM.take 20).drop 7) (rhoL (λk=>if k=17 then some (.val md)else if k=18 then some (.val (.str (tx [x,y])))else if k=19 then some (.val (.str (tx [p,q])))else if k=20 then some (.val (.int (f:Int)))else o k) cs)=r->eK (G2 d) ((kM.take 20).drop 3) (rhoL o cs)=r:=by
 show let g_:=_;g_;intro g_;refine xA (aF.mp (z3z h hh)) λhm1 hm2=>?_
 refine xA (of_decide_eq_true hm1) λl2 l7=>?_
 have hL:0<(fR h).length:=af (by decide) l2;have hL1:=iO l2;have big: ∀{k:Nat},k<(fR h).length->k<1000000000:=λhk=>af hk (aa l7 (by decide))
 refine aN (modN (c0/5) (fR h).length hL) λf hf hfl=>?_
 refine aN (modN (c0/35) ((fR h).length-1) hL1) λe he hel=>?_
 obtain ⟨i,hi,hi8⟩: ∃i:Nat,c0/210%8=(i:Int)/\i<8:=modN (c0/210) 8 (by decide);have hg:(f+1+e)%(fR h).length<(fR h).length:=Nat.mod_lt _ hL;have gd: ∀{k:Nat},k<(fR h).length->(fR h)[k]?=some ((fR h).getD k 0):=λhk=>by rw [dK,aL hk];rfl
 obtain ⟨pr,hpr⟩: ∃pr,rU[i]?=some pr:=⟨_,aL hi8⟩;refine jj (of_decide_eq_true (aj.mp z30 pr (bz hpr))) λg1 g2 g3=>?_
 refine ⟨pr.1,pr.2,_,_,f,⟨hh,bz (gd hfl),bz (gd hg),(of_decide_eq_true (aj.mp (aj.mp hm2 f (gW.mpr hfl)) e (gW.mpr hel))),g2,g3,g1⟩,λr hr=>?_⟩;have hcell: ∀o,be (G2 d) (.sub (.var 24) (.int 0)) (rhoL o cs)=some (.int c0):=λo=>sF (k:=0) rfl hc0 (by decide)
 refine dD (gG (v:=.int (f:Int)) (cE (cE (hcell o) rfl (jC (by decide) (na (by decide) (by decide)))) (pW (l6 d) (aO (congrArg some h22))) (by rw [iI (cy.mpr hL),hf]))) ?_;refine dD (gG (v:=.str (tx ([(fR h).getD f 0]++ [(fR h).getD ((f+1+e)%(fR h).length) 0]))) (cE (fF (aO (congrArg some h22)) (aO rfl) (pX (big hfl) (gd hfl))) (fF (y:=.int (((f+1+e)%(fR h).length:Nat):Int)) (aO (congrArg some h22)) (cE (x:=.int ((f+1+e:Nat):Int)) (cE (y:=.int (e:Int)) (cE (aO rfl) rfl rfl) (cE (y:=.int (((fR h).length-1:Nat):Int)) (cE (hcell (λk=>if k=20 then some (.val (.int (f:Int)))else o k)) rfl (jC (by decide) (na (by decide) (by decide)))) (cE (pW (l6 d) (aO (congrArg some h22))) rfl ?_) (by rw [iI (cy.mpr hL1),he])) ?_) (pW (l6 d) (aO (congrArg some h22))) (jbd hL)) (pX (big hg) (gd hg))) (n0 (show 1+1<=16777216 by decide)))) ?_
 ·show some (PV.int (((fR h).length:Int)-1))=_;rw [rR hL];rfl
 ·show some (PV.int ((f:Int)+1+(e:Int)))=_;rw [bC,bC];rfl
 refine dD (gG (v:=.str (tx [pr.1,pr.2])) (fF (x:=.list (rU.map λp=>.str (tx [p.1,p.2]))) (y:=.int (i:Int)) rfl (cE (cE (hcell (λk=>if k=19 then _ else if k=20 then some (.val (.int (f:Int)))else o k)) rfl (jC (by decide) (na (by decide) (by decide)))) rfl (by rw [iI (by decide),hi])) (kh (af hi8 (by decide)) (by rw [cg,hpr];rfl)))) ?_;refine dD (gG (v:=md) (cE (x:=.list ([173,847,6150,6155,6156,6157,8203,8204,8205,8288,65279].map λ(c:Nat)=>.int (c:Int))) rfl (ge (fA (z7x _)) (bN (zzo (oM _) (a:=65024) (b:=65040) rfl rfl (by decide) (by decide)) dW) (v:=.list ((bl 16).map λ(k:Nat)=>.int ((65024+k:Nat):Int))) ?_) ?_)) hr
 ·show some (PV.list (iK ((65024:Nat):Int) ((65040:Nat):Int) 1))=_;rw [zlq]
 ·rfl
theorem z75(d:Nat):(G2 d).gv "_law_rule" =some (.fn "_law_rule"):=gv_h d (by decide+kernel) (by rfl)
theorem z76(d:Nat):(G2 d).gv "_law_read" =some (.fn "_law_read"):=gv_h d (by decide+kernel) (by rfl)
theorem jbi(h1:el G a ρ=some false)(h2:el G b ρ=some false)(h3:el G c ρ=some false):el G (.or [a,b,c]) ρ=some false:=by simp only [tE,pE,h1,h2,h3,ac];rfl
theorem rZ(h:be G e ρ=some (.str (tx l))):iS G (.plain e) ρ=some (l.map λc=>.str (tx [c])):=by simp only [pE,h,ac];show some (jZ (tx l))=_;rw [rj];rfl
theorem ox: ∀{l:List γ},(∀a∈l,f (mk a)=some (g a))->(l.map mk).mapM f=some (l.map g):=by
 intro l;induction l with
 |nil=>exact λJ=>rfl
 |cons a l ih=>intro h;rw [ax,fX,h a ag,ih λb hb=>h b (ah _ hb)];rfl
theorem z31{α:Type}{G:GT}{ρ:Rho}{l:List α}{mk:α->PV}{ky:α->Str}{va:α->PV}{t:Nat}{it:PI}{k v:PE}(h1:iS G it ρ=some (l.map mk))(h2: ∀a∈l,be G k (setR ρ t (.val (mk a)))=some (.str (ky a)))(h3: ∀a∈l,be G v (setR ρ t (.val (mk a)))=some (va a))(hz:l.length<=1000): be G (.dcomp k v [.mk [t] true it []]) ρ=some (.dict (iF [] (l.map λa=>(ky a,va a)))):=by
 have hm:=ox (f:=λx=>(hK [t] true x ρ).bind λρ'=>(be G k ρ').bind λkk=>(strOf kk).bind λy=>(be G v ρ').map λz=>(y,z)) (mk:=mk) (g:=λa=>(ky a,va a)) (l:=l) λa ha=>by simp only [hK,if_true,pE,ac];rw [h2 a ha,ac,h3 a ha];rfl
 refine (eE.2.2.2.2.2.2.2.2.2.2.2.2.2.2.2.2.2.2.2.2.2.2.2.2.2.2.2 G k v [t] true it ρ).trans ?_;rw [h1,ac,if_pos (Bool.true_or _),hm,ac,if_pos (by rw [aY];exact hz)]
theorem z77{α:Type}{l:List α}{f g:α->PV}{k:α->List (List Nat)}(hf: ∀a∈l,lZ (f a)=some ((k a).map tx))(hg: ∀a∈l,lZ (g a)=some ((k a).map tx))(hn:l.isEmpty=false)(hd: ∀a∈l,jo (f a)=none)(hc: ∀a∈l,∀t∈k a,∀c∈t,c<0x110000): cmpV .NotEq (.list (l.map f)) (.list (l.map g))=some false:=by
 show (eqV (.list (l.map f)) (.list (l.map g))).map (!·)=_;have hdeep:sx (.list (l.map f))=true:=by
  show ((l.map f).mapM jo).isNone=true;cases l with
  |nil=>exact tf hn
  |cons a r=>rw [ax,fX,hd a ag];rfl
 have hcp:(l.map λa=>(k a).map tx).all (λx=>x.all jQ)=true:=by
  refine aj.mpr λx hx=>?_
  refine aN (bg.mp hx) λa ha e_=>?_
  subst e_;refine aj.mpr λy hy=>?_
  refine aN (bg.mp hy) λt ht e_=>?_
  subst e_;unfold jQ;rw [Array.all_eq_true'];exact λc hc'=>decide_eq_true (hc a ha t ht c (by simpa using hc'))
 unfold eqV;rw [if_pos hdeep];show (((l.map f).mapM lZ).bind λa=>((l.map g).mapM lZ).bind λb=>if (a.all λx=>x.all jQ)&&b.all λx=>x.all jQ then some (decide (a=b))else none).map (!·)=_;rw [ox hf,ac,ox hg,ac,hcp,if_pos (show (true&&true)=true from rfl),decide_eq_true rfl];rfl
theorem z78(hx:x∈jz)(hy:y∈jz)(w:List Bool): ∀c∈word x y w,c<0x110000:=oJ (P:=λc=>c<0x110000) (gw (of_decide_eq_true (aj.mp ru x hx)).2 (by decide)) (gw (of_decide_eq_true (aj.mp ru y hy)).2 (by decide))
noncomputable def S16:List Nat:=[172,174,846,848,6149,6151,6154,6158,8202,8206,8287,8289,65023,65040,65278,65280]
theorem jbj:ao "\u00ac\u00ae\u034e\u0350\u1805\u1807\u180a\u180e\u200a\u200e\u205f\u2061\ufdff\ufe10\ufefe\uff00" =tx S16:=by decide+kernel
noncomputable def RD.sg(p q:Nat)(r:RD):PV:=.dict [(tx [p],.frs (tx (word p q r.w0))),(tx [q],.frs (tx (word p q r.w1)))]
theorem z0a{l:List (List Nat)}{n:Nat}(h: ∀t∈l,t.length<=n):l.flatten.length<=n*l.length:=by
 induction l with
 |nil=>exact bD _
 |cons a l ih=>rw [fw,aC,aK,eY,dR];exact cG (ih λt ht=>h t (ah _ ht)) (h a ag)
theorem z0b(d:Nat){h x y p q:Nat}(g:Sg h x y p q)(c0 c1 c2 c3 c4 c5:Int)(o:Nat->Option Slot)(h17:o 17=some (.val md))(h18:o 18=some (.val (.str (tx [x,y]))))(h19:o 19=some (.val (.str (tx [p,q])))): ∃(rs:List RD) (v:Nat->Option Slot),rs.length=4/\(∀r∈rs,r.Ok x y)/\ ∀r,eK (G2 (d+2)) ((kM.take 20).drop 13) (rhoL (λk=>if k=11 then some (.val (.list (rs.map (RD.sg p q))))else if 12<=k/\k<=16 then v k else o k) [c0,c1,c2,c3,c4,c5])=r->eK (G2 (d+2)) ((kM.take 20).drop 7) (rhoL o [c0,c1,c2,c3,c4,c5])=r:=by
 show let g_:=_;g_;intro g_;obtain ⟨F,hF⟩:=Classical.axiomOfChoice (λn=>z3y d g.xl g.yl n);have hxp:=g.xp;obtain ⟨L8,hL8⟩: ∃L8:List (List Nat),L8=[(F c1).T0,(F c1).T1,(F c2).T0,(F c2).T1,(F c3).T0,(F c3).T1,(F c4).T0,(F c4).T1]:=⟨_,rfl⟩;have hL8l:L8.flatten.length<=24:=by
  refine aa (z0a (n:=3) λt ht=>?_) (by rw [hL8];exact az 24);rw [hL8]at ht;simp only [aw,eT,or_false]at ht;rcases ht with rfl|rfl|rfl|rfl|rfl|rfl|rfl|rfl
  ·exact (hF c1).2.k0
  ·exact (hF c1).2.k1
  ·exact (hF c2).2.k0
  ·exact (hF c2).2.k1
  ·exact (hF c3).2.k0
  ·exact (hF c3).2.k1
  ·exact (hF c4).2.k0
  ·exact (hF c4).2.k1
 obtain ⟨L,hL⟩: ∃L,L=L8.flatten++S16:=⟨_,rfl⟩;have hLl:L.length<=40:=by rw [hL,aC];exact cG hL8l (show S16.length<=16 by decide)
 refine eg ([c1,c2,c3,c4].map F) (λk=>if k=16 then some (.val (.list ([c1,c2,c3,c4].map λn=>(F n).v x y)))else if k=15 then some (.val (.str (tx L)))else if k=14 then some (.val (.list (L.map λc=>.bool (ip c))))else if k=13 then some (.val (.list (L.map λc=>.bool (ip c))))else some (.val (.list ([c1,c2,c3,c4].map λn=>.list ([(F n).w0,(F n).w1].map λw=>jv (word x y w).isEmpty (word x y w)))))) rfl (λr hr=>?_) (λr hr=>?_)
 ·refine aN (bg.mp hr) λn J e_=>?_
  subst e_;exact (hF n).2
 have e17: ∀{k:Nat} {v:Slot},o k=some v->some (o k)=some (some v):=λh=>congrArg some h
 refine dD (gG (v:=.list ([c1,c2,c3,c4].map λn=>(F n).v x y)) (i5 (l:=[c1,c2,c3,c4]) (mk:=.int) ?_ (λn J=>ge (fA (z75 _)) (bN (aO rfl) (bN (aO (e17 h18)) (bN (aO (e17 h17)) dW))) (hF n).1) (eI rfl))) ?_
 ·exact jx (xs:=[.int c1,.int c2,.int c3,.int c4]) (by rfl)
 have hsp:be (G2 (d+2)) (.meth (.str "") ("join":Str) [(.comp (.var 28) [(.mk [27] true (.plain (.var 16)) []),(.mk [28] true (.plain (.sub (.var 27) (.int 1))) [])])]) (rhoL (λk=>if k=16 then some (.val (.list ([c1,c2,c3,c4].map λn=>(F n).v x y)))else o k) [c0,c1,c2,c3,c4,c5])=some (.str (tx L8.flatten)):=by
  have h2:=sI (ls:=[(F c1).T0,(F c1).T1,(F c2).T0,(F c2).T1,(F c3).T0,(F c3).T1,(F c4).T0,(F c4).T1]) (zqq (G:=G2 (d+2)) (ρ:=rhoL (λk=>if k=16 then some (.val (.list ([c1,c2,c3,c4].map λn=>(F n).v x y)))else o k) [c0,c1,c2,c3,c4,c5]) (l:=[c1,c2,c3,c4]) (mk:=λn=>(F n).v x y) (l2:=λn=>[(F n).T0,(F n).T1]) (mk2:=λt=>.str (tx t)) (f:=λJ J=>true) (g:=λJ t=>.str (tx t)) (t:=27) (t2:=28) (it:=.plain (.var 16)) (it2:=.plain (.sub (.var 27) (.int 1))) (ifs:=[]) (elt:=.var 28) (jx (aO rfl)) (λn J=>jx (fF (aO rfl) rfl rfl)) (λJ J J J=>rfl) (λJ J J J J=>aO rfl) (show 8<=16777216 by decide)) (by have:=oK (l:=[(F c1).T0,(F c1).T1,(F c2).T0,(F c2).T1,(F c3).T0,(F c3).T1,(F c4).T0,(F c4).T1]) (mk:=λt=>.str (tx t)) (g:=λt=>t) (λJ J=>rfl);exact this) rfl (by rw [<-hL8];exact aa hL8l (by decide));rw [hL8];exact h2
 refine dD (gG (v:=.str (tx L)) (cE hsp (y:=.str (tx S16)) (by rw [<-jbj];rfl) (by rw [hL];exact n0 (aa (cG hL8l (show S16.length<=16 by decide)) (by decide))))) ?_;refine dD (jt (xs:=[.list (L.map λc=>.bool (ip c)),.list (L.map λc=>.bool (ip c))]) (iT (bN (i5 (l:=L) (rZ (aO rfl)) (λc J=>ge (fA (zzu _)) (bN (aO rfl) dW) (zt9 (d+1) c)) (aa hLl (by decide))) (bN (i5 (l:=L) (rZ (aO rfl)) (λc J=>og (qi (qh _) (aO rfl)) (aO (e17 h17)) ?_) (aa hLl (by decide))) dW))) rfl) ?_
 ·show inP (.int c) (.list (mr.map λ(c:Nat)=>.int (c:Int)))=_;have:jn (mr.map λ(c:Nat)=>PV.int (c:Int))=some kR:=by rw [z3u,<-oX,cf];rfl
  exact z57 this
 have hrd: ∀(T w),(∀c∈T,lu c)->T.flatMap rd=word x y w->T.length<=3->w.length<=2->(G2 (d+2)).fns "_law_read" [.str (tx T)]=some (jv (word x y w).isEmpty (word x y w)):=λT w h1 h2 h3 h4=>by have:=z3w d h1 (aa h3 (by decide)) (by rw [h2,lg];exact aa h4 (by decide));rw [h2]at this;exact this
 refine dD (gG (v:=.list ([c1,c2,c3,c4].map λn=>.list ([(F n).w0,(F n).w1].map λw=>jv (word x y w).isEmpty (word x y w)))) (i5 (l:=[c1,c2,c3,c4]) (mk:=λn=>(F n).v x y) (jx (aO rfl)) (λn J=>?_) (eI rfl))) ?_
 ·refine i5 (l:=[((F n).T0,(F n).w0),((F n).T1,(F n).w1)]) (mk:=λq=>.str (tx q.1)) (g:=λq=>jv (word x y q.2).isEmpty (word x y q.2)) (jx (fF (aO rfl) rfl rfl)) (λq hq=>ge (fA (z76 _)) (bN (aO rfl) dW) ?_) (by show 2<=16777216;decide);rcases aw.mp hq with rfl|hq
  ·exact hrd _ _ (hF n).2.g0 (hF n).2.r0 (hF n).2.k0 (hF n).2.l0
  ·obtain rfl:=aE.mp hq;exact hrd _ _ (hF n).2.g1 (hF n).2.r1 (hF n).2.k1 (hF n).2.l1
 have hbool: ∀f:Bool->Bool,(∀b,f b=b)->(L.map λc=>PV.bool (f (ip c)))=(L.map ip).map .bool:=λf hf=>by rw [cf];exact dC λc J=>congrArg PV.bool (hf _)
 refine dD (ie (c:=false) (jbi ?_ ?_ ?_) iq) ?_
 ·refine gb (x:=.list ((L.map ip).map .bool)) (y:=.list ((L.map ip).map .bool)) ?_ ?_ (sS _)
  ·rw [<-hbool (λb=>b==true) (λb=>by cases b<;>rfl)];exact i5 (l:=L) (mk:=λc=>.bool (ip c)) (jx (aO rfl)) (λc J=>og (aO rfl) rfl rfl) (aa hLl (by decide))
  ·rw [<-hbool (λb=>b) (λb=>rfl)];exact aO rfl
 ·refine gb (x:=.list ((L.map ip).map .bool)) (y:=.list ((L.map ip).map .bool)) ?_ ?_ (sS _)
  ·rw [<-hbool (λb=>!(b==false)) (λb=>by cases b<;>rfl)];exact i5 (l:=L) (mk:=λc=>.bool (ip c)) (jx (aO rfl)) (λc J=>og (aO rfl) rfl rfl) (aa hLl (by decide))
  ·rw [<-hbool (λb=>b) (λb=>rfl)];exact aO rfl
 ·refine gb (y:=.list ([c1,c2,c3,c4].map λn=>.list ([(F n).w0,(F n).w1].map λw=>.str (tx (word x y w))))) (aO rfl) (i5 (l:=[c1,c2,c3,c4]) (mk:=λn=>(F n).v x y) (jx (aO rfl)) (λn J=>fF (aO rfl) rfl rfl) (eI rfl)) (z77 (k:=λn=>[word x y (F n).w0,word x y (F n).w1]) (λn J=>?_) (λn J=>?_) rfl (λJ J=>rfl) λn J t ht=>?_)
  ·exact oK (l:=[(F n).w0,(F n).w1]) (mk:=λw=>jv (word x y w).isEmpty (word x y w)) (g:=word x y) λw J=>qj _ _
  ·exact oK (l:=[(F n).w0,(F n).w1]) (mk:=λw=>.str (tx (word x y w))) (g:=word x y) λw J=>rfl
  ·simp only [aw,eT,or_false]at ht;rcases ht with rfl|rfl<;>exact z78 g.xl g.yl _
 refine dD (gG (v:=.list ([c1,c2,c3,c4].map λn=>(F n).sg p q)) (i5 (l:=[c1,c2,c3,c4]) (mk:=λn=>.list ([(F n).w0,(F n).w1].map λw=>jv (word x y w).isEmpty (word x y w))) (jx (aO rfl)) (λn J=>?_) (eI rfl))) ?_
 ·have hval: ∀(k:Int) (w:List Bool) (ρ:Rho),ρ[27]?=some (some (.val (.list ([(F n).w0,(F n).w1].map λw=>jv (word x y w).isEmpty (word x y w)))))->ρ[28]?=some (some (.val (.int k)))->ρ[18]?=some (some (.val (.str (tx [x,y]))))->ρ[19]?=some (some (.val (.str (tx [p,q]))))->subP (.list ([(F n).w0,(F n).w1].map λw=>jv (word x y w).isEmpty (word x y w))) (.int k)=some (jv (word x y w).isEmpty (word x y w))->w.length<=2->
    be (G2 (d+2)) (.repl2 (.repl2 (.sub (.var 27) (.var 28)) (.var 18) 0 (.var 19) 0) (.var 18) 1 (.var 19) 1) ρ=some (.frs (tx (word p q w))):=λk w ρ e1 e2 e3 e4 e5 hw=>by
   simp only [eE,(fF (G:=G2 (d+2)) (aO e1) (aO e2) e5),oV e3,oV e4,ac];exact zz7 g.xy hxp.1 hxp.2.2.2 (dh hxp.2.2.1) (aa hw (by decide)) rfl rfl rfl rfl
  have hd:=z31 (G:=G2 (d+2)) (l:=[(p,(0:Int),(F n).w0),(q,1,(F n).w1)]) (mk:=λa=>.int a.2.1) (ky:=λa=>tx [a.1]) (va:=λa=>.frs (tx (word p q a.2.2))) (t:=28) (it:=.plain (.tuple [(.int 0),(.int 1)])) (k:=.sub (.var 19) (.var 28)) (v:=.repl2 (.repl2 (.sub (.var 27) (.var 28)) (.var 18) 0 (.var 19) 0) (.var 18) 1 (.var 19) 1) (ρ:=setR (rhoL (λk=>if k=16 then some (.val (.list ([c1,c2,c3,c4].map λn=>(F n).v x y)))else if k=15 then some (.val (.str (tx L)))else if k=14 then some (.val (.list (L.map λc=>.bool (ip c))))else if k=13 then some (.val (.list (L.map λc=>.bool (ip c))))else if k=12 then some (.val (.list ([c1,c2,c3,c4].map λn=>.list ([(F n).w0,(F n).w1].map λw=>jv (word x y w).isEmpty (word x y w)))))else o k) [c0,c1,c2,c3,c4,c5]) 27 (.val (.list ([(F n).w0,(F n).w1].map λw=>jv (word x y w).isEmpty (word x y w))))) rfl (λa ha=>?_) (λa ha=>?_) (eI rfl)
  ·refine hd.trans ?_;show some (PV.dict (jM [(tx [p],_)] (tx [q]) _))=some (PV.dict _);unfold jM;rw [if_neg (by simpa using (λe=>g.pq (List.cons.inj (se e)).1:tx [p]≠tx [q]))];rfl
  ·rcases aw.mp ha with rfl|ha
   ·exact fF (aO (congrArg some h19)) (aO rfl) rfl
   ·obtain rfl:=aE.mp ha;exact fF (aO (congrArg some h19)) (aO rfl) rfl
  ·rcases aw.mp ha with rfl|ha
   ·exact hval 0 (F n).w0 _ rfl rfl (congrArg some h18) (congrArg some h19) rfl (hF n).2.l0
   ·obtain rfl:=aE.mp ha;exact hval 1 (F n).w1 _ rfl rfl (congrArg some h18) (congrArg some h19) rfl (hF n).2.l1
 rw [cf]at hr;exact hr
noncomputable def pF:List (List Nat):=[[48,49,50,51],[48,50,51,49],[48,51,49,50],[49,48,51,50],[49,50,48,51],[49,51,50,48],[50,48,49,51],[50,49,51,48],[50,51,48,49],[51,48,50,49],[51,49,48,50],[51,50,49,48]]
noncomputable def odds:List (List Nat):=[[48,49,51,50],[48,50,49,51],[48,51,50,49],[49,48,50,51],[49,50,51,48],[49,51,48,50],[50,48,51,49],[50,49,48,51],[50,51,49,48],[51,48,49,50],[51,49,50,48],[51,50,48,49]]
noncomputable def abc:Nat->Nat×Nat×Nat
 |0=>(49,50,51)
 |1=>(48,50,51)
 |2=>(48,49,51)
 |_=>(48,49,50)
noncomputable def pC(a b c:Nat):List (List Nat):=[[a,b,a,b,c],[b,a,b,a,c],[c,a,b,b,a],[c,b,a,a,b]]
noncomputable def pB(a b c:Nat):List (List Nat):=[[a,b,b,a,c],[b,a,a,b,c],[c,a,b,a,b],[c,b,a,b,a]]
noncomputable def mB(k:Nat):List (List (List Nat)):=[pF,odds,pC (abc k).1 (abc k).2.1 (abc k).2.2,pB (abc k).1 (abc k).2.1 (abc k).2.2]
noncomputable def mA(k:Nat):PV:=.list ((mB k).map λs=>.list (s.map λw=>.str (tx w)))
theorem z0f(d:Nat)(args:List PV):(G2 (d+1)).fns "_law_sides" args=jb (G2 d) rB rA t8 args:=rfl
theorem z79(G:GT)(h:G.gv=gv01)(hk:k<4):jb G rB rA t8 [.str (tx [48+k])]=some (mA k):=by
 obtain ⟨gv,fns,b3⟩:=G;subst h;rcases lt4 hk with rfl|rfl|rfl|rfl
 ·kernel_rfl
 ·kernel_rfl
 ·kernel_rfl
 ·kernel_rfl
theorem z0g(d:Nat)(h:k<4):(G2 (d+1)).fns "_law_sides" [.str (tx [48+k])]=some (mA k):=by rw [z0f];exact z79 (G2 d) (iG g01 d) h
inductive Rp(y z:List Nat):List Nat->List Nat->Prop
 |nil:Rp y z [] []
 |hit {l m}:Rp y z l m->Rp y z (y++l) (z++m)
 |skip {c l m}: ¬y<+:c::l->Rp y z l m->Rp y z (c::l) (c::m)
theorem jbk(hy:y≠ []):StrLaws.At (tx l) (tx y) (tx l).length i↔y<+:l.drop i:=by
 unfold StrLaws.At;rw [StrLaws.subAt_eq,beq_iff_eq,jc,jc];show i+y.length<=l.length/\(l.drop i).take y.length=y↔_;constructor
 ·rintro ⟨_,h⟩;have e:=List.take_append_drop y.length (l.drop i);rw [h]at e;exact ⟨(l.drop i).drop y.length,e⟩
 ·rintro ⟨t,h⟩;have hl:=congrArg uV h;rw [aC,fL]at hl;have:=gM.mpr hy;have hle:=hl▸bb _ _;refine ⟨dR i _▸Nat.add_le_of_le_sub (dF (Nat.lt_of_sub_pos (af this hle))) hle,?_⟩;rw [<-h,List.take_left]
theorem qE(l:List Nat)(a c:Nat):(strSub (tx l) a c).cps.toList=(l.drop a).take (c-a):=StrLaws.strSub_toList (tx l) a c
theorem zqw(z:Str)(p q:Str)(r:List Str):(dV z (p::q::r)).cps.toList=p.cps.toList++z.cps.toList++(dV z (q::r)).cps.toList:=by show ((p++z++dV z (q::r)).cps.toList)=_;simp only [Str.cps_append,Array.toList_append,cT]
theorem z8a(hy:y≠ [])(h:Rp y z k m): ∀(a:Nat) (cuts:List Nat) (f:Nat),k=l.drop a->StrLaws.ChainG (tx l) (tx y) (tx l).length a cuts f->(∀j,f<=j-> ¬StrLaws.At (tx l) (tx y) (tx l).length j)-> (dV (tx z) (gD (tx l) (tx y).length a cuts)).cps.toList=m:=by
 induction h with
 |nil=>
  intro a cuts f hk hc hf;show let g_:=_;g_;intro g_;cases cuts with
  |nil=>show (strSub (tx l) a (tx l).length).cps.toList=[];rw [qE,<-hk,List.take_nil]
  |cons c r=>
   refine jj hc λh1 h2 J=>?_
   have h2:=h2.1;rw [jc,jc]at h2;have:=gM.mpr hy;have h3:=congrArg uV hk;rw [fL,j2]at h3;exact absurd (aa h2 (aa (Nat.le_of_sub_eq_zero h3.symm) h1)) (pK (fm this))
 | @hit k m _ ih=>
  intro a cuts f hk hc hf;have hat:=(jbk hy).mpr ⟨k,hk⟩;cases cuts with
  |nil=>have:f=a:=hc;exact absurd hat (hf a (dc this))
  |cons c r=>
   show let g_:=_;g_;intro g_;refine ji hc λh1 h2 h3 h4=>?_
   have hca:=ea (Nat.le_of_not_lt λg=>h3 a (az _) g hat) h1;subst hca;have hk':k=l.drop (c+y.length):=by rw [<-lU,<-hk,List.drop_left]
   have:=ih (c+(tx y).length) r f (by rw [jc];exact hk') h4 hf;refine rQ (StrLaws.partsFrom_ne (tx l) (tx y).length (c+(tx y).length) r) λp q e=>?_
   show (dV (tx z) (strSub (tx l) c c::gD (tx l) (tx y).length (c+(tx y).length) r)).cps.toList=_;rw [e]at this⊢;rw [zqw,this,qE,Nat.sub_self,List.take_zero];simp
 | @skip c_0 k m hn _ ih=>
  intro a cuts f hk hc hf;have hk':k=l.drop (a+1):=by rw [<-lU,<-hk];rfl
  have htake: ∀n,(l.drop a).take (n+1)=c_0::(l.drop (a+1)).take n:=λn=>by rw [<-hk,<-hk'];rfl
  have hla:a<l.length:=by have h3:=congrArg uV hk;rw [fL,aK]at h3;exact Nat.lt_of_sub_pos (h3▸jk _)
  cases cuts with
  |nil=>
   subst hc;have:=ih (f+1) [] (f+1) hk' rfl λj hj=>hf j (iP hj)
   have this:(strSub (tx l) (f+1) (tx l).length).cps.toList=m:=this;show (strSub (tx l) f (tx l).length).cps.toList=_;rw [qE,jc]at this⊢;rw [show l.length-f=l.length-(f+1)+1 from (cF (iO hla)).symm,htake,this]
  |cons c r=>
   show let g_:=_;g_;intro g_;refine ji hc λh1 h2 h3 h4=>?_
   have hca:=Nat.lt_of_le_of_ne h1 λe=>(λg=>hn (by rw [hk];exact (jbk hy).mp g)) (e▸h2)
   have:=ih (a+1) (c::r) f hk' ⟨hca,h2,λj hj=>h3 j (iP hj),h4⟩ hf;refine rQ (StrLaws.partsFrom_ne (tx l) (tx y).length (c+(tx y).length) r) λp q e=>?_
   have this:(dV (tx z) (strSub (tx l) (a+1) c::gD (tx l) (tx y).length (c+(tx y).length) r)).cps.toList=m:=this;show (dV (tx z) (strSub (tx l) a c::gD (tx l) (tx y).length (c+(tx y).length) r)).cps.toList=_;rw [e]at this⊢;rw [zqw,qE]at this⊢;rw [show c-a=c-(a+1)+1 from (cF (iO hca)).symm,htake,<-this];rfl
theorem znf(hy:y≠ [])(h:Rp y z l m):dE (tx l) (tx y) (tx z)=tx m:=by
 have hpos:=gM.mpr hy;obtain ⟨f,h1,h2⟩:=StrLaws.occ_tight (tx l) (tx y) (by rw [jc];exact hpos);have h3:=z8a (l:=l) hy h 0 _ f rfl h1 h2;have hz:((tx y).length==0)=false:=by rw [jc];exact beq_eq_false_iff_ne.mpr (b9 hpos)
 unfold dE;rw [hz,Bool.false_and,rS];cases ho:occurrences (tx l) (tx y) 0 (tx l).length ((tx l).length+1)with
 |nil=>rw [ho]at h3;have h3:(strSub (tx l) 0 (tx l).length).cps.toList=m:=h3;rw [StrLaws.sub_whole]at h3;rw [if_pos (show ([]:List Nat).isEmpty=true from rfl),<-h3]
 |cons c r=>rw [ho]at h3;rw [if_neg (by simp),il,StrLaws.partsBetween_eq,ja1 (dV _ _),h3]
noncomputable def nmOk(h p:Nat):Bool:=match nmC h p with
 |a::e::t=>decide (a=38)&&!jw.contains e&&decide (38∉t)&&decide (t.length<=4)
 |_=>false
theorem jbl: ∀h<5,(fR h).all (λp=>nmOk h p&&(fR h).all λq=>decide (p=q\/ ¬nmC h p<+:nmC h q))=true:=by decide+kernel
structure Ref(r:List Nat):Prop where
 ex: ∃e t,r=38::e::t/\e∉jw/\38∉t/\t.length<=4
theorem z5v(hh:h<5)(hp:p∈fR h):Ref (nmC h p):=by
 have:=(aF.mp (aj.mp (jbl h hh) p hp)).1;unfold nmOk at this;generalize nmC h p=r at*;cases r with
 |nil=>exact ft this
 |cons a r=>cases r with
  |nil=>exact ft this
  |cons e t=>simp only [an,decide_eq_true_eq,eA,List.contains_eq_mem,decide_eq_false_iff_not]at this;obtain ⟨⟨⟨rfl,h2⟩,h3⟩,h4⟩:=this;exact ⟨e,t,rfl,h2,h3,h4⟩
theorem zqx(hh:h<5)(hp:p∈fR h)(hq:q∈fR h)(hpq:p≠q): ¬nmC h p<+:nmC h q:=(of_decide_eq_true (aj.mp (aF.mp (aj.mp (jbl h hh) p hp)).2 q hq)).resolve_left hpq
theorem z0h(hy:Ref y)(hc:c≠38): ¬y<+:c::l:=by obtain ⟨e,t,rfl,J⟩:=hy;rintro ⟨s,h⟩;exact hc (List.cons.inj h).1.symm
theorem z0i(hy:Ref y)(h:Rp y z l m): ∀t:List Nat,38∉t->Rp y z (t++l) (t++m):=by
 intro t;induction t with
 |nil=>exact λJ=>h
 |cons c t ih=>exact λhc=>.skip (z0h hy λe=>hc (e▸ag)) (ih λg=>hc (ah _ g))
theorem z0j: ∀e,e∉jw->e≠38:=λe h g=>h (by rw [g];decide)
theorem z32(hp:Ref rp)(hq:Ref rq)(h1: ¬rp<+:rq)(h2: ¬rq<+:rp)(w:List Bool):Rp rp zp (w.flatMap λb=>if b then rp else rq) (w.flatMap λb=>if b then zp else rq):=by
 induction w with
 |nil=>exact .nil
 |cons b w ih=>
  rw [bo,bo];cases b with
  |true=>exact .hit ih
  |false=>show Rp rp zp (rq++_) (rq++_);obtain ⟨e,t,rfl,he,ht,J⟩:=hq;exact .skip (λg=>(List.prefix_or_prefix_of_prefix g (List.prefix_append _ _)).elim h1 h2) (.skip (z0h hp (z0j e he)) (z0i hp ih t ht))
theorem z0k(hy:Ref y)(hl: ∀a∈l.head?,a∈jw): ¬y<+:c::l:=by obtain ⟨e,t,rfl,he,J⟩:=hy;rintro ⟨s,h⟩;exact he (hl e (by rw [<-((List.cons.inj h).2)];rfl))
theorem z0l(hq:Ref rq)(hz: ∀c∈zp,c∈jw)(w:List Bool): Rp rq zq (w.flatMap λb=>if b then zp else rq) (w.flatMap λb=>if b then zp else zq)/\ ∀a∈(w.flatMap λb=>if b then zp else rq).head?,a∈jw:=by
 induction w with
 |nil=>exact ⟨.nil,λa h=>nomatch h⟩
 |cons b w ih=>
  rw [bo,bo];cases b with
  |true=>
   obtain ⟨ih,hh⟩:=ih;show Rp rq zq (zp++_) (zp++_)/\ ∀a∈(zp++_).head?,a∈jw;generalize (w.flatMap λb=>if b then zp else rq)=A at*;generalize (w.flatMap λb=>if b then zp else zq)=B at*;induction zp with
   |nil=>exact ⟨ih,hh⟩
   |cons c zp ih2=>
    obtain ⟨i1,i2⟩:=ih2 λc hc=>hz c (ah _ hc)
    exact ⟨.skip (z0k hq i2) i1,λa ha=>hz a (by rw [Option.mem_some.mp ha];exact ag)⟩
  |false=>refine ⟨.hit ih.1,λa ha=>?_⟩;obtain ⟨e,t,rfl,J⟩:=hq;rw [<-Option.mem_some.mp ha];decide
noncomputable def RD.app(r:RD)(w:List Bool):List Bool:=w.flatMap λb=>if b then r.w0 else r.w1
theorem zqy(p q:Nat)(r:RD)(w:List Bool):(w.flatMap λb=>if b then word p q r.w0 else word p q r.w1)=word p q (r.app w):=by
 unfold RD.app;induction w with
 |nil=>rfl
 |cons b w ih=>rw [bo,bo,ih,<-z3p];cases b<;>rfl
theorem z33(hh:h<5)(hp:p∈fR h)(hq:q∈fR h)(w:List Bool):(word p q w).flatMap (escC (chainOf h))=w.flatMap λb=>if b then nmC h p else nmC h q:=by
 have key: ∀c∈fR h,escC (chainOf h) c=nmC h c:=λc hc=>of_decide_eq_true (aF.mp (aj.mp (rc h hh) c hc)).1
 induction w with
 |nil=>rfl
 |cons b w ih=>
  show ((if b then p else q)::word p q w).flatMap _=_;rw [bo,bo,ih];cases b
  ·exact congrArg (· ++_) (key q hq)
  ·exact congrArg (· ++_) (key p hp)
theorem zng{n:Nat}{f:Bool->List Nat}(hf: ∀b,(f b).length<=n)(w:List Bool):(w.flatMap f).length<=n*w.length:=by
 induction w with
 |nil=>exact bD _
 |cons b w ih=>have:=hf b;rw [bo,aC,aK,eY,dR];exact cG ih this
theorem z0m(r:RD)(h0:r.w0.length<=2)(h1:r.w1.length<=2)(w:List Bool):(r.app w).length<=2*w.length:=by
 unfold RD.app;induction w with
 |nil=>exact bD _
 |cons b w ih=>
  rw [bo,aC,aK,eY,dR];refine cG ih ?_;cases b
  ·exact h1
  ·exact h0
theorem z5w(hab:a≠b)(hz:s.length+(s.length+1)*b.length<=16777216):methP (.str (tx s)) ("replace":Str) [.lit (tx a),.frs (tx b)]=some (.str (dE (tx s) (tx a) (tx b))):=by
 show jY (tx s) _ _=_;unfold jY;rw [if_pos (by decide)];refine if_pos ?_;have h1:(tx a !=tx b)=true:=by rw [bne,j5,decide_eq_false hab];rfl
 rw [h1,szok (by rw [jc,jc];exact hz)];rfl
theorem z0n(h:A<=6*n)(hn:n<=100)(hb:b<=2):A+(A+1)*b<=16777216:=by have hA:=aa h (c9 6 hn);exact aa (cG hA (gV (eQ hA) hb)) (by decide)
theorem z34{G:GT}{ρ:Rho}{h x y p q:Nat}(g:Sg h x y p q){r:RD}(h0:r.w0.length<=2)(h1:r.w1.length<=2){w:List Bool}(hw:w.length<=100){o a b a' b':PE}(ho:be G o ρ=some (.str (tx ((word p q w).flatMap (escC (chainOf h))))))(ha:be G a ρ=some (.lit (tx (nmC h p))))(hb:be G b ρ=some (.frs (tx (word p q r.w0))))(ha':be G a' ρ=some (.lit (tx (nmC h q))))(hb':be G b' ρ=some (.frs (tx (word p q r.w1)))): be G (.meth (.meth o ("replace":Str) [a,b]) ("replace":Str) [a',b']) ρ=some (.str (tx (word p q (r.app w)))):=by
 have kp:=z5v g.h5 g.pm;have kq:=z5v g.h5 g.qm;have hsm: ∀{n:Nat},Ref (nmC h n)->(nmC h n).length<=6/\2<=(nmC h n).length:=λk=>by obtain ⟨e,t,ht,J,J,hl⟩:=k;rw [ht];exact ⟨eQ (eQ hl),bj _ _⟩
 have hne: ∀{n:Nat} {v:List Bool},Ref (nmC h n)->nmC h n≠word p q v:=λ{n v} k e=>by
  obtain ⟨u,t,ht,hu,J⟩:=k;have hm:u∈word p q v:=by rw [<-e,ht];exact ah _ ag
  have hk: ∀c∈fR h,c∈jw:=λc hc=>by simpa using (aF.mp (aj.mp (rc h g.h5) c hc)).2
  exact hu (oJ (P:=λc=>c∈jw) (hk p g.pm) (hk q g.qm) u hm)
 have hkeys: ∀c∈word p q r.w0,c∈jw:=by
  have hk: ∀c∈fR h,c∈jw:=λc hc=>by simpa using (aF.mp (aj.mp (rc h g.h5) c hc)).2
  exact oJ (P:=λc=>c∈jw) (hk p g.pm) (hk q g.qm)
 rw [z33 g.h5 g.pm g.qm]at ho;have i1:=qp (m:=ao "replace") ho (bN ha (bN hb dW)) (z5w (hne kp) (z0n (zng (n:=6) (f:=λb=>if b then nmC h p else nmC h q) (λb=>by cases b;exact (hsm kq).1;exact (hsm kp).1) w) hw (by rw [lg];exact h0)));rw [(znf (by obtain ⟨e,t,ht,J⟩:=kp;rw [ht];exact List.cons_ne_nil _ _) (z32 (zp:=word p q r.w0) kp kq (zqx g.h5 g.pm g.qm g.pq) (zqx g.h5 g.qm g.pm (dh g.pq)) w))]at i1;have i2:=qp (m:=ao "replace") i1 (bN ha' (bN hb' dW)) (z5w (hne kq) (z0n (zng (n:=6) (f:=λb=>if b then word p q r.w0 else nmC h q) (λb=>by cases b;exact (hsm kq).1;exact aa (dc lg) (aa h0 (by decide))) w) hw (by rw [lg];exact h1)));rw [(znf (by obtain ⟨e,t,ht,J⟩:=kq;rw [ht];exact List.cons_ne_nil _ _) (z0l (zq:=word p q r.w1) kq hkeys w).1),zqy]at i2;exact i2
noncomputable def RD.no:RD:=⟨[],[],[],[]⟩
noncomputable def fE(rs:List RD)(st:List Bool)(w:List Nat):List Bool:=w.foldl (λb c=>(rs.getD (c-48) RD.no).app b) st
noncomputable def dueV(rs:List RD)(st:List Bool)(p q:Nat)(w:List Nat):PV:=if w=[]then .str (tx (word p q st))else jv (fE rs st w.dropLast).isEmpty (word p q (fE rs st w))
theorem z0o(rs:List RD)(st:List Bool)(p q:Nat)(w:List Nat):i4 (dueV rs st p q w)=some (tx (word p q (fE rs st w))):=by
 unfold dueV;by_cases h:w=[]
 ·rw [if_pos h,h];rfl
 ·rw [if_neg h];exact qj _ _
theorem zqz(rs:List RD)(st:List Bool)(w:List Nat)(c:Nat):fE rs st (w++ [c])=(rs.getD (c-48) RD.no).app (fE rs st w):=by unfold fE;rw [List.foldl_append];rfl
theorem z35(rs:List RD)(st:List Bool)(p q:Nat)(w:List Nat)(c:Nat):dueV rs st p q (w++ [c])=jv (fE rs st w).isEmpty (word p q (fE rs st (w++ [c]))):=by unfold dueV;rw [if_neg (by simp),List.dropLast_concat]
theorem oI{v:List Nat->PV}{w:List Nat}: ∀{D:List (List Nat)},w∈D->(D.map λw=>(tx w,v w)).lookup (tx w)=some (v w):=by
 intro D;induction D with
 |nil=>exact λh=>nomatch h
 |cons a D ih=>
  intro h;rw [ax,aG,j5];by_cases hac:w=a
  ·rw [decide_eq_true hac,hac]
  ·rw [decide_eq_false hac];exact ih ((aw.mp h).resolve_left hac)
theorem z8b{v:List Nat->PV}{w:List Nat}: ∀{D:List (List Nat)},w∉D->(D.map λw=>(tx w,v w)).lookup (tx w)=none:=by
 intro D;induction D with
 |nil=>exact λJ=>rfl
 |cons a D ih=>intro h;rw [ax,aG,j5,decide_eq_false λe:w=a=>h (e▸ag)];exact ih λg=>h (ah _ g)
theorem znh{v:List Nat->PV}{w:List Nat}{x:PV}{D:List (List Nat)}(h:w∉D)(hx:x=v w):jM (D.map λw=>(tx w,v w)) (tx w) x=(D++ [w]).map λw=>(tx w,v w):=by
 unfold jM;rw [if_neg,dM,hx];rfl;intro g;refine aN (pO.mp g) λkv h1 h2=>?_
 refine aN (bg.mp h1) λa ha e_=>?_
 subst e_;exact h (se (of_decide_eq_true h2)▸ha)
theorem z0p(h:i4 v=some (tx l)):lY v=some (lets l):=by cases v<;>first|exact (λs e=>by rw [e,rj]: ∀s:Str,s=tx l->some (jZ s)=some (lets l)) _ (Option.some.inj h)|exact cu h
theorem z0q(h0:ρ[t]?=some (some (.ownD kvs)))(h:be G e ρ=some v)(hk:be G k ρ=some (.str y))(hz:kvs.length<=1000)(hs:jM kvs y v=kvs'):fN G (.setD t k e) ρ=some (.next (setR ρ t (.ownD kvs'))):=by subst hs;simp only [xE,h,hk,ac,zpd h0,vE];rw [if_pos hz]
structure lr(h x y p q:Nat)(rs:List RD)(st:List Bool):Prop where
 g:Sg h x y p q
 l:rs.length=4
 ok: ∀r∈rs,r.Ok x y
 st:st.length<=2
theorem zuc{h x y p q:Nat}{rs:List RD}{st:List Bool}(k:lr h x y p q rs st)(w:List Nat):(fE rs st w).length<=2*2^w.length:=by
 have gen: ∀(w:List Nat) (st:List Bool),(fE rs st w).length<=st.length*2^w.length:=λw=>by
  induction w with
  |nil=>exact λst=>dc (Nat.mul_one _).symm
  |cons c w ih=>
   intro st;have h2:((rs.getD (c-48) RD.no).app st).length<=2*st.length:=by
    rw [dK];cases hg:rs[c-48]? with
    |none=>exact z0m RD.no (by decide) (by decide) st
    |some r=>exact z0m r (k.ok r (bz hg)).l0 (k.ok r (bz hg)).l1 st
   rw [aK,Nat.pow_succ,ew (2^w.length) 2,<-Nat.mul_assoc,ew st.length 2];exact aa (ih ((rs.getD (c-48) RD.no).app st)) (fg (2^w.length) h2)
 exact aa (gen w st) (fg _ k.st)
noncomputable abbrev sD:List PS:=[.ite (.notinOwn (.slice (.var 3) none (some (.bin .Add (.var 2) (.int 1)))) 4) [.asgT [1,0] (.tuple [(.sub (.var 9) (.call (.glob "int") [(.sub (.var 3) (.var 2))])),(.slice (.var 3) none (some (.var 2)))]),.setD 5 (.slice (.var 3) none (some (.bin .Add (.var 2) (.int 1)))) (.meth (.meth (.call (.var 8) [(.subOwn 5 (.var 0))]) ("replace":Str) [(.sub (.var 6) (.int 0)),(.sub (.var 1) (.sub (.var 7) (.int 0)))]) ("replace":Str) [(.sub (.var 6) (.int 1)),(.sub (.var 1) (.sub (.var 7) (.int 1)))]),.setD 4 (.slice (.var 3) none (some (.bin .Add (.var 2) (.int 1)))) (.meth (.str "") ("join":Str) [(.comp (.sub (.var 1) (.var 12)) [(.mk [12] true (.plain (.subOwn 4 (.var 0))) [])])])] []]
noncomputable abbrev jH(h p q:Nat)(rs:List RD)(st:List Bool)(ws:List (List Nat))(o0 o1 o2 o3:Option Slot)(D:List (List Nat)):Rho:=[o0,o1,o2,o3,some (.ownD (D.map λw=>(tx w,dueV rs st p q w))),some (.ownD (D.map λw=>(tx w,.str (tx (word p q (fE rs st w)))))),some (.val (.list [.lit (tx (nmC h p)),.lit (tx (nmC h q))])),some (.val (.str (tx [p,q]))),some (.val (.fn (ig h))),some (.val (.list (rs.map (RD.sg p q)))),some (.val (.str (tx (word p q st)))),some (.val (.list (ws.map λw=>.str (tx w)))),none]
inductive jbm(h p q:Nat)(rs:List RD)(st:List Bool)(ws:List (List Nat))(o3:Option Slot)(D:List (List Nat))(n:Nat)(w:List Nat)(run:Option Out):Prop
 |mk (D':List (List Nat)) (v:Nat->Option Slot) (e:run=some (.next (jH h p q rs st ws (v 0) (v 1) (v 2) o3 D'))) (sub: ∀a∈D,a∈D') (l:D'.length<=D.length+n) (m:w∈D')
theorem jdb(d:Nat):(G2 d).gv "int" =some (.ty "int"):=by rw [iG];rfl
theorem z36(h1:48<=c)(h2:c<52):mt "int" [.str (tx [c])]=some (.int ((c-48:Nat):Int)):=by unfold mt;rw [if_neg (by decide),if_neg (by decide),if_neg (by decide),if_pos rfl];show (if 48<=c/\c<=57 then some (PV.int ((c-48:Nat):Int))else none)=_;rw [if_pos ⟨h1,aa (dF h2) (by decide)⟩]
theorem z37(d:Nat){h x y p q:Nat}{rs:List RD}{st:List Bool}(k:lr h x y p q rs st){ws:List (List Nat)}{W:List Nat}(hW:W.length<=5)(hd: ∀c∈W,48<=c/\c<52){D:List (List Nat)}(hD:D.length<=900){i:Nat}(hi:i<W.length)(hm:W.take i∈D)(o0 o1 o2:Option Slot): jbm h p q rs st ws (some (.val (.str (tx W)))) D 1 (W.take (i+1)) (my (G2 (d+1)) [2] true sD (.int (i:Int)) (jH h p q rs st ws o0 o1 o2 (some (.val (.str (tx W)))) D)):=by
 have hsl: ∀o0 o1 o4 o5,be (G2 (d+1)) (.slice (.var 3) none (some (.bin .Add (.var 2) (.int 1)))) (o0::o1::some (.val (.int (i:Int)))::some (.val (.str (tx W)))::o4::o5::(jH h p q rs st ws none none none none D).drop 6)=some (.str (tx (W.take (i+1)))):=λo0 o1 o4 o5=>zt1 (p:=0) (q:=i+1) (aO rfl) zzq (zzr (k:=((i+1:Nat):Int)) (cE (aO rfl) rfl (by show some (PV.int ((i:Int)+1))=_;rw [bC];rfl))) (.inl ⟨rfl,rfl⟩) (.inr rfl) (bD _)
 have hlook: ∀o0 o1,el (G2 (d+1)) (.notinOwn (.slice (.var 3) none (some (.bin .Add (.var 2) (.int 1)))) 4) (jH h p q rs st ws o0 o1 (some (.val (.int (i:Int)))) (some (.val (.str (tx W)))) D)=some (!((D.map λw=>(tx w,dueV rs st p q w)).lookup (tx (W.take (i+1)))).isSome):=λo0 o1=>by refine (tE.2.2.2.2.2.2.2.2.2.2.2.1 (G2 (d+1)) _ 4 _).trans ?_;rw [show be (G2 (d+1)) (.slice (.var 3) none (some (.bin .Add (.var 2) (.int 1)))) (jH h p q rs st ws o0 o1 (some (.val (.int (i:Int)))) (some (.val (.str (tx W)))) D)=_ from (hsl o0 o1 (some (.ownD (D.map λw=>(tx w,dueV rs st p q w)))) (some (.ownD (D.map λw=>(tx w,.str (tx (word p q (fE rs st w)))))))),ac];rfl
 show let g_:=_;g_;intro g_;by_cases hin:W.take (i+1)∈D
 ·refine ⟨D,fun|0=>o0|1=>o1|_=>some (.val (.int (i:Int))),?_,λa ha=>ha,bb _ _,hin⟩;refine dD (ie (c:=false) ?_ iq) iq;refine (hlook o0 o1).trans ?_;rw [oI hin];rfl
 ·obtain ⟨c,hc⟩: ∃c,W[i]?=some c:=⟨_,aL hi⟩;have htake:W.take (i+1)=W.take i++ [c]:=by rw [List.take_add_one,hc];rfl
  refine xA (hd c (bz hc)) λhc1 hc2=>?_
  have hcl:c-48<rs.length:=by rw [k.l];exact Nat.sub_lt_left_of_lt_add hc1 hc2
  obtain ⟨r,hr⟩: ∃r,rs[c-48]?=some r:=⟨_,aL hcl⟩;have hrd:rs.getD (c-48) RD.no=r:=by rw [dK,hr];rfl
  have hrok:=k.ok r (bz hr);obtain ⟨b,hb⟩: ∃b,fE rs st (W.take i)=b:=⟨_,rfl⟩;have hbl:b.length<=32:=by rw [<-hb];refine aa (zuc k _) ?_;have:2^(W.take i).length<=2^4:=gu (by decide) (by rw [pN];exact aa (uY _ _) (lR (af hi hW)));exact c9 2 this
  have hnew:fE rs st (W.take (i+1))=r.app b:=by rw [htake,zqz,hrd,hb]
  have hqp: ¬ [q]=[p]:=λe=>k.g.pq (List.cons.inj e).1.symm
  have hs0: ∀ρ:Rho,ρ[1]?=some (some (.val (r.sg p q)))->ρ[7]?=some (some (.val (.str (tx [p,q]))))->be (G2 (d+1)) (.sub (.var 1) (.sub (.var 7) (.int 0))) ρ=some (.frs (tx (word p q r.w0))):=λρ e1 e2=>by refine fF (aO e1) (fF (z:=.str (tx [p])) (aO e2) rfl rfl) ?_;show ([(tx [p],PV.frs (tx (word p q r.w0))),(tx [q],.frs (tx (word p q r.w1)))]:List (Str×PV)).lookup (tx [p])=_;rw [aG,j5,decide_eq_true rfl]
  have hs1: ∀ρ:Rho,ρ[1]?=some (some (.val (r.sg p q)))->ρ[7]?=some (some (.val (.str (tx [p,q]))))->be (G2 (d+1)) (.sub (.var 1) (.sub (.var 7) (.int 1))) ρ=some (.frs (tx (word p q r.w1))):=λρ e1 e2=>by refine fF (aO e1) (fF (z:=.str (tx [q])) (aO e2) rfl rfl) ?_;show ([(tx [p],PV.frs (tx (word p q r.w0))),(tx [q],.frs (tx (word p q r.w1)))]:List (Str×PV)).lookup (tx [q])=_;rw [aG,j5,decide_eq_false hqp,aG,j5,decide_eq_true rfl]
  have hsgn: ∀(u:Bool) (ρ:Rho),ρ[1]?=some (some (.val (r.sg p q)))->ρ[12]?=some (some (.val (.str (tx [if u then p else q]))))->be (G2 (d+1)) (.sub (.var 1) (.var 12)) ρ=some (.frs (tx (word p q (if u then r.w0 else r.w1)))):=λu ρ e1 e2=>by
   refine fF (aO e1) (aO e2) ?_;show ([(tx [p],PV.frs (tx (word p q r.w0))),(tx [q],.frs (tx (word p q r.w1)))]:List (Str×PV)).lookup (tx [if u then p else q])=_;cases u with
   |true=>rw [aG,if_pos rfl,j5,decide_eq_true rfl];rfl
   |false=>rw [aG,if_neg bn,j5,decide_eq_false hqp,aG,j5,decide_eq_true rfl];rfl
  refine ⟨D++ [W.take (i+1)],fun|0=>some (.val (.str (tx (W.take i))))|1=>some (.val (r.sg p q))|_=>some (.val (.int (i:Int))),?_,λa ha=>ei _ ha,by rw [aC];exact az _,cr _ ag⟩;refine dD (ie (c:=true) ((hlook o0 o1).trans (by rw [z8b hin];rfl)) ?_) iq;refine dD (jt (xs:=[r.sg p q,.str (tx (W.take i))]) (iT (bN (fF (aO rfl) (ge (fA (jdb _)) (bN (fF (aO rfl) (aO rfl) (pX (af hi (aa hW (by decide))) hc)) dW) (z36 hc1 hc2)) (kh (af hcl (by rw [k.l];decide)) (by rw [cg,hr];rfl))) (bN (zt1 (p:=0) (q:=i) (aO rfl) zzq (zzr (aO rfl)) (.inl ⟨rfl,rfl⟩) (.inr rfl) (bD _)) dW))) rfl) ?_;have hP:=z34 (G:=G2 (d+1)) (ρ:=jH h p q rs st ws (some (.val (.str (tx (W.take i))))) (some (.val (r.sg p q))) (some (.val (.int (i:Int)))) (some (.val (.str (tx W)))) D) k.g hrok.l0 hrok.l1 (w:=b) (aa hbl (by decide)) (o:=.call (.var 8) [(.subOwn 5 (.var 0))]) (a:=.sub (.var 6) (.int 0)) (b:=.sub (.var 1) (.sub (.var 7) (.int 0))) (a':=.sub (.var 6) (.int 1)) (b':=.sub (.var 1) (.sub (.var 7) (.int 1)))
   (ge (aO rfl) (bN (x:=.str (tx (word p q b))) ?_ dW) (z7m d k.g.h5 _ (by rw [lg];exact aa hbl (by decide)))) (fF (aO rfl) rfl rfl) (hs0 _ rfl rfl) (fF (aO rfl) rfl rfl) (hs1 _ rfl rfl)
  ·refine dD (z0q rfl hP (hsl _ _ _ _) (by rw [aY];exact aa hD (by decide)) (znh (v:=λw=>.str (tx (word p q (fE rs st w)))) hin (by rw [hnew]))) ?_
   ·refine dD ?_ iq;have hJ:=sI (G:=G2 (d+1)) (ρ:=jH h p q rs st ws (some (.val (.str (tx (W.take i))))) (some (.val (r.sg p q))) (some (.val (.int (i:Int)))) (some (.val (.str (tx W)))) D|>.set 5 (some (.ownD ((D++ [W.take (i+1)]).map λw=>(tx w,.str (tx (word p q (fE rs st w)))))))) (e:=.comp (.sub (.var 1) (.var 12)) [(.mk [12] true (.plain (.subOwn 4 (.var 0))) [])]) (vs:=b.map λu=>.frs (tx (word p q (if u then r.w0 else r.w1)))) (ls:=b.map λu=>word p q (if u then r.w0 else r.w1))
     (i5 (l:=b) (mk:=λu=>.str (tx [if u then p else q])) ?_ (λu J=>hsgn u _ rfl rfl) (aa hbl (by decide))) (oK λu J=>rfl) (by cases b<;>rfl) ?_
    ·have hfl:(b.map λu=>word p q (if u then r.w0 else r.w1)).flatten=word p q (r.app b):=by rw [<-zqy,List.flatMap_def];congr 1;exact dC λu J=>by cases u<;>rfl
     rw [hfl,show (b.map λu=>word p q (if u then r.w0 else r.w1)).isEmpty=b.isEmpty by cases b<;>rfl]at hJ;exact z0q rfl hJ (hsl _ _ _ _) (by rw [aY];exact aa hD (by decide)) (znh (v:=dueV rs st p q) hin (by rw [htake,z35,hb,zqz,hrd,hb]))
    ·have h1:be (G2 (d+1)) (.subOwn 4 (.var 0)) (jH h p q rs st ws (some (.val (.str (tx (W.take i))))) (some (.val (r.sg p q))) (some (.val (.int (i:Int)))) (some (.val (.str (tx W)))) D|>.set 5 (some (.ownD ((D++ [W.take (i+1)]).map λw=>(tx w,.str (tx (word p q (fE rs st w))))))))=some (dueV rs st p q (W.take i)):=by exact oI hm
     show (be (G2 (d+1)) (.subOwn 4 (.var 0)) _).bind lY=_;rw [h1,ac,z0p (z0o rs st p q _),hb];unfold lets word;rw [cf];rfl
    ·refine aa (z0a (n:=2) λt ht=>?_) (by rw [aY];exact aa (c9 2 hbl) (by decide));refine aN (bg.mp ht) λu J e_=>?_
     subst e_;rw [lg];cases u
     ·exact hrok.l1
     ·exact hrok.l0
  ·show (some (PV.str (tx (W.take i)))).bind (λy=>some (Slot.ownD (D.map λw=>(tx w,PV.str (tx (word p q (fE rs st w))))))|>.bind λs=>subP s.pv y)=_;rw [<-hb];exact oI (v:=λw=>.str (tx (word p q (fE rs st w)))) hm
theorem z0r(d:Nat){h x y p q:Nat}{rs:List RD}{st:List Bool}(k:lr h x y p q rs st){ws:List (List Nat)}{W:List Nat}(hW:W.length<=5)(hd: ∀c∈W,48<=c/\c<52): ∀(n i:Nat) (D:List (List Nat)) (v:Nat->Option Slot),i+n=W.length->W.take i∈D->D.length+n<=900-> jbm h p q rs st ws (some (.val (.str (tx W)))) D n W (kn (G2 (d+1)) [2] true sD ((List.range' i n).map λ(j:Nat)=>.int (j:Int)) (jH h p q rs st ws (v 0) (v 1) (v 2) (some (.val (.str (tx W)))) D)):=by
 intro n;induction n with
 |zero=>intro i D v hi hm J;refine ⟨D,v,rfl,λa ha=>ha,az _,?_⟩;rw [ey (show W.length<=i from dc hi.symm)]at hm;exact hm
 |succ n ih=>intro i D v hi hm hD;show let g_:=_;g_;intro g_;obtain ⟨D1,u,e1,s1,l1,m1⟩:=z37 d k (ws:=ws) hW hd (D:=D) (aa (bb _ _) hD) (i:=i) (hi▸fm (jk n)) hm (v 0) (v 1) (v 2);obtain ⟨D2,w,e2,s2,l2,m2⟩:=ih (i+1) D1 u ((Nat.succ_add_eq_add_succ i n).trans hi) m1 (aa (bW l1 n) (by rw [eZ,dR 1 n];exact hD));refine ⟨D2,w,?_,λa ha=>s2 a (s1 a ha),aa l2 (aa (bW l1 n) (by rw [eZ,dR 1 n];exact az _)),m2⟩;rw [List.range'_succ,ax];exact (lh e1).trans e2
noncomputable abbrev zud:List PS:=[.forS [2] true (.plain (.call (.glob "range") [(.call (.glob "len") [(.var 3)])])) sD]
inductive jbn(h p q:Nat)(rs:List RD)(st:List Bool)(ws:List (List Nat))(D:List (List Nat))(l:List (List Nat))(run:Option Out):Prop
 |mk (D':List (List Nat)) (v:Nat->Option Slot) (e:run=some (.next (jH h p q rs st ws (v 0) (v 1) (v 2) (v 3) D'))) (sub: ∀a∈D,a∈D') (m: ∀W∈l,W∈D')
theorem z0s(d:Nat){h x y p q:Nat}{rs:List RD}{st:List Bool}(k:lr h x y p q rs st){ws:List (List Nat)}: ∀(l D:List (List Nat)) (v:Nat->Option Slot),(∀W∈l,W.length<=5/\ ∀c∈W,48<=c/\c<52)-> []∈D->D.length+5*l.length<=900-> jbn h p q rs st ws D l (kn (G2 (d+1)) [3] true zud (l.map λW=>.str (tx W)) (jH h p q rs st ws (v 0) (v 1) (v 2) (v 3) D)):=by
 intro l;induction l with
 |nil=>exact λD v J J J=>⟨D,v,rfl,λa ha=>ha,λW h=>nomatch h⟩
 |cons W l ih=>
  intro D v hl hm hD;rw [aK,eY]at hD;obtain ⟨hW,hd⟩:=hl W ag;obtain ⟨D1,u,e1,s1,l1,m1⟩:=z0r d k (ws:=ws) hW hd W.length 0 D v (eu _) hm (by lia);obtain ⟨D2,w,e2,s2,m2⟩:=ih D1 (λj=>if j=3 then some (.val (.str (tx W)))else u j) (λV hV=>hl V (ah _ hV)) (s1 _ hm) (by lia);refine ⟨D2,w,?_,λa ha=>s2 a (s1 a ha),λV hV=>?_⟩
  ·have h1:=to (G:=G2 (d+1)) (ρ:=jH h p q rs st ws (v 0) (v 1) (v 2) (some (.val (.str (tx W)))) D) (oM _) (pW (l6 _) (aO (k:=3) rfl)) (by lia);rw [List.range_eq_range']at h1;have ht':my (G2 (d+1)) [3] true zud (.str (tx W)) (jH h p q rs st ws (v 0) (v 1) (v 2) (v 3) D)=some (.next (jH h p q rs st ws (u 0) (u 1) (u 2) (some (.val (.str (tx W)))) D1)):=(ac _ _).trans (dD (mD h1 rfl e1) iq);rw [ax];exact (lh ht').trans e2
  ·rcases aw.mp hV with rfl|hV
   ·exact s2 _ m1
   ·exact m2 V hV
theorem z38(d:Nat)(args:List PV):(G2 (d+1)).fns "_law_runs" args=jb (G2 d) ua t9 zmu args:=rfl
noncomputable abbrev oi(p q:Nat)(rs:List RD)(st:List Bool)(D:List (List Nat)):PV:=.dict (D.map λw=>(tx w,.str (tx (word p q (fE rs st w)))))
noncomputable abbrev pz(p q:Nat)(rs:List RD)(st:List Bool)(D:List (List Nat)):PV:=.dict (D.map λw=>(tx w,dueV rs st p q w))
theorem z39(d:Nat){h x y p q:Nat}{rs:List RD}{st:List Bool}(k:lr h x y p q rs st){ws:List (List Nat)}(hws: ∀W∈ws,W.length<=5/\ ∀c∈W,48<=c/\c<52)(hl:ws.length<=100): ∃D,(∀W∈ws,W∈D)/\(G2 (d+2)).fns "_law_runs" [.list (ws.map λw=>.str (tx w)),.str (tx (word p q st)),.list (rs.map (RD.sg p q)),.fn (ig h),.str (tx [p,q]),.list [.lit (tx (nmC h p)),.lit (tx (nmC h q))]]=some (.tuple [oi p q rs st D,pz p q rs st D]):=by show let g_:=_;g_;intro g_;obtain ⟨D,v,e,J,m⟩:=z0s d k (ws:=ws) ws [[]] (λJ=>none) hws ag (by show 1+_<=900;lia);refine bK D m ?_;rw [z38];refine jy rfl ?_;exact dD (ρ':=jH h p q rs st ws none none none none [[]]) rfl (dD (mD (jx (aO rfl)) rfl e) (dD (tL rfl) (dD (tL rfl) (hC (jg (iT (bN (aO rfl) (bN (aO rfl) dW))))))))
theorem z0u{p q:Nat}{rs:List RD}{st:List Bool}{D:List (List Nat)}:cmpV .NotEq (oi p q rs st D) (pz p q rs st D)=some false:=by
 show (eqV _ _).map (!·)=_;unfold eqV;rw [if_pos (show sx (oi p q rs st D)=true from rfl)];show (((D.map λw=>(tx w,PV.str (tx (word p q (fE rs st w))))).mapM ku).bind λa=>((D.map λw=>(tx w,dueV rs st p q w)).mapM ku).map λb=>ot a b).map (!·)=_;have h2:(D.map λw=>(tx w,dueV rs st p q w)).mapM ku=some (D.map λw=>(tx w,tx (word p q (fE rs st w)))):=ox (mk:=λw=>(tx w,dueV rs st p q w)) λw J=>by unfold ku;rw [z0o];rfl
 rw [(ox λw J=>rfl:(D.map λw=>(tx w,PV.str (tx (word p q (fE rs st w))))).mapM ku=some (D.map λw=>(tx w,tx (word p q (fE rs st w))))),ac,h2,cw,cw];have hd:ot (D.map λw=>(tx w,tx (word p q (fE rs st w)))) (D.map λw=>(tx w,tx (word p q (fE rs st w))))=true:=by
  unfold ot;rw [beq_self_eq_true,Bool.true_and];refine aj.mpr λkv hkv=>?_
  refine aN (bg.mp hkv) λw hw e_=>?_
  subst e_;have gen: ∀{D:List (List Nat)},w∈D->(D.map λw=>(tx w,tx (word p q (fE rs st w)))).lookup (tx w)=some (tx (word p q (fE rs st w))):=λ{D}=>by
   induction D with
   |nil=>exact λh=>nomatch h
   |cons a D ih=>
    intro h;rw [ax,aG,j5];by_cases hac:w=a
    ·rw [decide_eq_true hac,hac]
    ·rw [decide_eq_false hac];exact ih ((aw.mp h).resolve_left hac)
  rw [gen hw];exact beq_self_eq_true _
 rw [hd];rfl
structure kP(W u:Nat)(s e:Int):Prop where
 w1:22<=W
 w2:W<=2300
 u1:1<=u
 u2:u<=5095
 s1:1<=s
 s2:bits s<=4200
 e0:0<=e
 e1:e<s
noncomputable abbrev oh(W u:Nat)(s e:Int):PV:=.tuple [.int W,.int u,.int s,.int e]
noncomputable abbrev mz(q:PV×Str):PV:=.tuple [q.1,.str q.2]
theorem z0v(d:Nat)(args:List PV):(G2 (d+1)).fns "_law_sizes" args=jb (G2 d) uu ut zku args:=rfl
theorem q9{w:Nat}(h:w<50):(22<=22+w/\22+w<=2300)/\22<=22+w+2200/\22+w+2200<=2300:=by lia
theorem z0w(d:Nat)(n:Int): ∃(W u:Nat) (s e t:Int) (q:PV×Str),kP W u s e/\q∈lI/\(G2 (d+1)).fns "_law_sizes" [.int n]=some (.tuple [oh W u s e,.int t,mz q]):=by
 rw [z0v];show let g_:=_;g_;intro g_;obtain ⟨w,hw,hwl⟩: ∃w:Nat,n%50=(w:Int)/\w<50:=modN n 50 (by decide);obtain ⟨u,hu,hul⟩: ∃u:Nat,n/50%1000=(u:Int)/\u<1000:=modN (n/50) 1000 (by decide);obtain ⟨s,hs,hsl⟩: ∃s:Nat,n/50000%1000=(s:Int)/\s<1000:=modN (n/50000) 1000 (by decide);obtain ⟨R,hR⟩: ∃R,R=n/50000000/16:=⟨_,rfl⟩;obtain ⟨j,hj,hjl⟩: ∃j:Nat,R%4=(j:Int)/\j<4:=modN R 4 (by decide);obtain ⟨q,hq⟩: ∃q,lI[j]?=some q:=⟨_,aL hjl⟩;have sm: ∀{k:Int},0<=k->k<2^40->bits k<=9000:=na;have h1:fN (G2 d) (.asgT [4,3,2,1] (.tuple [(.bin .Add (.int 22) (.bin .Mod (.var 5) (.int 50))),(.bin .Add (.int 4096) (.bin .Mod (.bin .FloorDiv (.var 5) (.int 50)) (.int 1000))),(.bin .Add (.int 1) (.bin .Mod (.bin .FloorDiv (.var 5) (.int 50000)) (.int 1000))),(.bin .FloorDiv (.var 5) (.int 50000000))]))
   [none,none,none,none,none,some (.val (.int n))]=some (.next [none,some (.val (.int (n/50000000))),some (.val (.int ((1+s:Nat):Int))),some (.val (.int ((4096+u:Nat):Int))),some (.val (.int ((22+w:Nat):Int))),some (.val (.int n))]):=by
  refine jt (iT (bN (x:=.int ((22+w:Nat):Int)) (cE rfl (cE (aO rfl) rfl (by rw [iI (by decide),hw])) ?_) (bN (x:=.int ((4096+u:Nat):Int)) (cE rfl (cE (cE (aO rfl) rfl (jC (by decide) (sm (by decide) (by decide)))) rfl (by rw [iI (by decide),hu])) ?_) (bN (x:=.int ((1+s:Nat):Int)) (cE rfl (cE (cE (aO rfl) rfl (jC (by decide) (sm (by decide) (by decide)))) rfl (by rw [iI (by decide),hs])) ?_) (bN (cE (aO rfl) rfl (jC (by decide) (sm (by decide) (by decide)))) dW))))) rfl
  ·rw [bC];rfl
  ·rw [bC];rfl
  ·rw [bC];rfl
 obtain ⟨W,S,hS,h2⟩: ∃(W:Nat) (S:Int),(22<=W/\W<=2300/\1<=S/\bits S<=4200)/\fN (G2 d) (.ite (.cmp .Eq (.bin .Mod (.var 1) (.int 16)) (.int 5)) [.asgT [4,2] (.tuple [(.bin .Add (.var 4) (.int 2200)),(.bin .Sub (.bin .Mult (.var 2) (.bin .Pow (.int 2) (.int 4103))) (.int 1))])] [])
   [none,some (.val (.int (n/50000000))),some (.val (.int ((1+s:Nat):Int))),some (.val (.int ((4096+u:Nat):Int))),some (.val (.int ((22+w:Nat):Int))),some (.val (.int n))]=
   some (.next [none,some (.val (.int (n/50000000))),some (.val (.int S)),some (.val (.int ((4096+u:Nat):Int))),some (.val (.int (W:Int))),some (.val (.int n))]):=by
  have hsb:bits ((1+s:Nat):Int)<=10:=je (show 1+s<2^10 from af (Nat.add_lt_add_left hsl 1) (by decide));by_cases h5:n/50000000%16=5
  ·have hpb:bits ((2:Int)^4103)<=4104:=je (by rw [Int.natAbs_pow];exact Nat.pow_lt_pow_right (by decide) (by decide));have hp:=pw2 4103;have hge:(1:Int)<2^4103:=bJ (show (1:Int)<2^1 by decide) (mI (by decide));obtain ⟨X,hX⟩: ∃X:Int,X=2^4103:=⟨_,rfl⟩;have hpw:be (G2 d) (.bin .Pow (.int 2) (.int 4103)) [none,some (.val (.int (n/50000000))),some (.val (.int ((1+s:Nat):Int))),some (.val (.int ((4096+u:Nat):Int))),some (.val (.int ((22+w:Nat):Int))),some (.val (.int n))]=some (.int X):=
    cE (y:=.int ((4103:Nat):Int)) rfl rfl (by rw [nY (by have:bits 2<=2:=je (by decide);have:=fg 4103 this;exact aa this (by decide)),hX])
   rw [<-hX]at hpb hp hge;have hX1:=Int.le_sub_one_of_lt (bJ (by rw [kI];exact hge) (bd (cj.mpr (bb 1 s)) (al hp):(1:Int)*X<=((1+s:Nat):Int)*X));refine eM (22+w+2200) (((1+s:Nat):Int)*X-1) ⟨(q9 hwl).2.1,(q9 hwl).2.2,hX1,?_⟩ ?_
   ·exact aa (nC (ee (by decide) hX1) (Int.sub_le_self _ (by decide))) (aa (aa o7 (cG hsb hpb)) (by decide))
   ·refine ie (c:=true) (gb (cE (aO rfl) rfl (iI (by decide))) rfl (by rw [h5];rfl)) (dD (jt (iT (bN (x:=.int ((22+w+2200:Nat):Int)) (cE (aO rfl) rfl (by rw [bC (22+w)];rfl)) (bN (cE (cE (aO rfl) hpw (jG (by lia))) rfl rfl) dW))) rfl) iq)
  ·exact eM (22+w) ((1+s:Nat):Int) ⟨(q9 hwl).1.1,(q9 hwl).1.2,cj.mpr (bb 1 s),aa hsb (by decide)⟩ (ie (c:=false) (gb (cE (aO rfl) rfl (iI (by decide))) rfl (by show some (n/50000000%16==5)=_;rw [beq_eq_false_iff_ne.mpr h5])) iq)
 have hS0:0<S:=bJ (by decide) hS.2.2.1;refine ⟨W,4096+u,S,R%S,R/4,q,⟨hS.1,hS.2.1,aa (by decide) (bb 4096 u),aa (u6 (lR hul) 4096) (by decide),hS.2.2.1,hS.2.2.2,bM _ (bh hS0),bt _ hS0⟩,bz hq,?_⟩;refine jy rfl ?_;refine dD h1 (dD h2 (dD (k8 (z:=.int R) rfl rfl (by rw [sb (by decide) (sm (by decide) (by decide)),hR])) (dD (gG (v:=.list (lI.map mz)) rfl) (hC (jg (iT (bN (iT (bN (aO rfl) (bN (aO rfl) (bN (aO rfl) (bN (cE (aO rfl) (aO rfl) (iI hS0)) dW)))))
  (bN (cE (aO rfl) rfl (jC (by decide) (sm (by decide) (by decide)))) (bN (fF (y:=.int (j:Int)) (aO rfl) (cE (aO rfl) rfl (by rw [iI (by decide),hj])) (kh (af hjl (by decide)) (by rw [cg,hq];rfl))) dW)))))))))
noncomputable def vecW(m:Nat->Int×Int×Int×Int)(v:Int×Int)(w:List Nat):Int×Int:=w.foldl (λv c=>((m (c-48)).1*v.1+(m (c-48)).2.1*v.2,(m (c-48)).2.2.1*v.1+(m (c-48)).2.2.2*v.2)) v
theorem zue(m:Nat->Int×Int×Int×Int)(v:Int×Int):(pF.map λw=>(vecW m v w).1).sum=(odds.map λw=>(vecW m v w).1).sum/\(pF.map λw=>(vecW m v w).2).sum=(odds.map λw=>(vecW m v w).2).sum:=by simp only [pF,odds,vecW,ax,List.map_nil,j3,List.foldl_nil,cU,List.sum_nil,Nat.reduceSub];exact ⟨by grind,by grind⟩
theorem zuf(m:Nat->Int×Int×Int×Int)(v:Int×Int)(a b c:Nat):((pC a b c).map λw=>(vecW m v w).1).sum=((pB a b c).map λw=>(vecW m v w).1).sum/\((pC a b c).map λw=>(vecW m v w).2).sum=((pB a b c).map λw=>(vecW m v w).2).sum:=by simp only [pC,pB,vecW,ax,List.map_nil,j3,List.foldl_nil,cU,List.sum_nil];exact ⟨by grind,by grind⟩
noncomputable def mat(rs:List RD)(k:Nat):Int×Int×Int×Int:=((((rs.getD k RD.no).w0.count true:Nat):Int),(((rs.getD k RD.no).w1.count true:Nat):Int),(((rs.getD k RD.no).w0.count false:Nat):Int),(((rs.getD k RD.no).w1.count false:Nat):Int))
theorem zq2(r:RD)(c:Bool)(w:List Bool):(((r.app w).count c:Nat):Int)=((r.w0.count c:Nat):Int)*((w.count true:Nat):Int)+((r.w1.count c:Nat):Int)*((w.count false:Nat):Int):=by
 unfold RD.app;induction w with
 |nil=>simp
 |cons b w ih=>
  rw [bo,List.count_append,bC,ih,fy,fy];cases b
  ·simp only [eX,if_false,beq_self_eq_true,if_true,show (false==true)=false from rfl,Nat.add_zero,bC,Int.mul_add];grind
  ·simp only [if_true,beq_self_eq_true,show (true==false)=false from rfl,eX,if_false,Nat.add_zero,bC,Int.mul_add];grind
theorem z0x(rs:List RD): ∀(w:List Nat) (st:List Bool),vecW (mat rs) (((st.count true:Nat):Int),((st.count false:Nat):Int)) w=((((fE rs st w).count true:Nat):Int),(((fE rs st w).count false:Nat):Int)):=by
 intro w;induction w with
 |nil=>exact λJ=>rfl
 |cons c w ih=>intro st;have h:=ih ((rs.getD (c-48) RD.no).app st);rw [zq2,zq2]at h;exact h
noncomputable def wtB(u:Nat)(b:List Bool):Int:=((b.count true:Nat):Int)+(u:Int)*((b.count false:Nat):Int)
theorem pU(u:Nat)(rs:List RD)(st:List Bool)(l:List (List Nat)):(l.map λw=>wtB u (fE rs st w)).sum=(l.map λw=>(vecW (mat rs) (((st.count true:Nat):Int),((st.count false:Nat):Int)) w).1).sum+(u:Int)*(l.map λw=>(vecW (mat rs) (((st.count true:Nat):Int),((st.count false:Nat):Int)) w).2).sum:=by
 induction l with
 |nil=>simp
 |cons w l ih=>rw [ax,cU,ih,ax,cU,ax,cU,z0x];unfold wtB;rw [Int.mul_add];lia
theorem z8c(u:Nat)(rs:List RD)(st:List Bool):(pF.map λw=>wtB u (fE rs st w)).sum=(odds.map λw=>wtB u (fE rs st w)).sum:=by rw [pU,pU,(zue _ _).1,(zue _ _).2]
theorem z8d(u:Nat)(rs:List RD)(st:List Bool)(a b c:Nat):((pC a b c).map λw=>wtB u (fE rs st w)).sum=((pB a b c).map λw=>wtB u (fE rs st w)).sum:=by rw [pU,pU,(zuf _ _ a b c).1,(zuf _ _ a b c).2]
noncomputable def rowI(u:Nat)(b:List Bool):List Int:=b.map λc=>if c then 1 else (u:Int)
theorem mH(u:Nat)(b:List Bool):(rowI u b).length=b.length:=aY ..
theorem z0y(u:Nat)(b:List Bool):(rowI u b).sum=wtB u b:=by
 unfold wtB rowI;induction b with
 |nil=>simp
 |cons c b ih=>
  rw [ax,cU,ih,fy,fy];cases c
  ·simp only [eX,if_false,beq_self_eq_true,if_true,show (false==true)=false from rfl,Nat.add_zero,bC];grind
  ·simp only [if_true,beq_self_eq_true,show (true==false)=false from rfl,eX,if_false,Nat.add_zero,bC];grind
theorem zni(N:Nat)(l r:List Int):numberOf N (l++r)=numberOf N l+2^(N*l.length)*numberOf N r:=by
 induction l with
 |nil=>simp [gJ]
 |cons x l ih=>rw [dS,gJ.2,gJ.2,ih,aQ,aK,eY,dY];grind
theorem zwa(N:Nat): ∀(m:Nat) (l:List Int),l.length<=m->numberOf N ((bl m).map λk=>l.getD k 0)=numberOf N l:=by
 intro m;induction m with
 |zero=>intro l h;rw [cK.mp (Nat.le_zero.mp h)];rfl
 |succ m ih=>
  intro l h;rw [List.range_succ_eq_map,ax,cf,gJ.2];cases l with
  |nil=>
   have:=ih [] (bD _);have e:((λk=>([]:List Int).getD k 0)∘Nat.succ)=λk=>([]:List Int).getD k 0:=by funext k;simp
   rw [e,this];simp [gJ]
  |cons x l=>
   have:=ih l (Nat.le_of_succ_le_succ h);have e:((λk=>(x::l).getD k 0)∘Nat.succ)=λk=>l.getD k 0:=by funext k;simp
   rw [e,this,gJ.2];simp
theorem zwb(N:Nat)(F H:Nat->Int): ∀(l:List Nat),numberOf N (l.map λk=>F k+H k)=numberOf N (l.map F)+numberOf N (l.map H):=by
 intro l;induction l with
 |nil=>simp [gJ]
 |cons x l ih=>rw [ax,ax,ax,gJ.2,gJ.2,gJ.2,ih];grind
theorem zmk(N:Nat): ∀(l:List Nat),numberOf N (l.map λJ=>0)=0:=by
 intro l;induction l with
 |nil=>simp [gJ]
 |cons x l ih=>rw [ax,gJ.2,ih];simp
noncomputable def colF(rows:List (List Int))(k:Nat):Int:=(rows.map λr=>r.getD k 0).sum
theorem zwc(N m:Nat)(rows:List (List Int))(h: ∀r∈rows,r.length<=m):(rows.map (numberOf N)).sum=numberOf N ((bl m).map (colF rows)):=by
 induction rows with
 |nil=>exact (zmk N _).symm
 |cons r rows ih=>
  have:=ih λr hr=>h r (ah _ hr)
  rw [ax,cU,this,<-zwa N m r (h r ag),<-zwb];rfl
theorem zwd(rows:List (List Int))(k:Nat):((rows.filter λr=>decide (k<r.length)).map λr=>r.getD k 0).sum=colF rows k:=by
 unfold colF;induction rows with
 |nil=>rfl
 |cons r rows ih=>
  rw [ax,cU];by_cases h:k<r.length
  ·rw [List.filter_cons_of_pos (by simpa using h),ax,cU,ih]
  ·rw [List.filter_cons_of_neg (by simpa using h),ih];have:r.getD k 0=0:=by rw [dK,List.getElem?_eq_none (Nat.le_of_not_lt h)];rfl
   rw [this,Int.zero_add]
theorem zwe(N:Nat)(l:List Int): ∃c:Int,numberOf N l=l.sum+c*(2^N-1):=by
 induction l with
 |nil=>exact ⟨0,by simp [gJ]⟩
 |cons x l ih=>obtain ⟨c,hc⟩:=ih;refine ⟨numberOf N l+c,?_⟩;rw [gJ.2,cU,aQ];generalize (2:Int)^N=X at*;grind
theorem z0z(N:Nat)(rows:List (List Int)): ∃c:Int,(rows.map (numberOf N)).sum=(rows.map List.sum).sum+c*(2^N-1):=by
 induction rows with
 |nil=>exact ⟨0,by simp⟩
 |cons r rows ih=>obtain ⟨c,hc⟩:=ih;obtain ⟨e,he⟩:=zwe N r;refine ⟨e+c,?_⟩;rw [ax,cU,hc,he,ax,cU];grind
theorem qo(hu:1<=u): ∀x∈rowI u b,1<=x/\x<=(u:Int):=λx hx=>by
 refine aN (bg.mp hx) λc J e_=>?_
 subst e_;cases c
 ·exact ⟨cj.mpr hu,dL _⟩
 ·exact ⟨dL _,cj.mpr hu⟩
theorem z4a(hu:1<=u)(b:List Bool)(k:Nat):0<=(rowI u b).getD k 0/\(rowI u b).getD k 0<=(u:Int)/\(k<b.length->1<=(rowI u b).getD k 0):=by
 rw [dK];cases h:(rowI u b)[k]? with
 |none=>exact ⟨dL _,aI _,λhk=>absurd (eF.mp h) (by rw [mH];exact pK hk)⟩
 |some x=>obtain ⟨h1,h2⟩:=qo hu x (bz h);exact ⟨ee (by decide) h1,h2,λJ=>h1⟩
theorem zq3(hu:1<=u)(bs:List (List Bool))(k:Nat):0<=colF (bs.map (rowI u)) k/\colF (bs.map (rowI u)) k<=(bs.length:Int)*(u:Int)/\((∃b∈bs,k<b.length)->1<=colF (bs.map (rowI u)) k):=by
 unfold colF;induction bs with
 |nil=>exact ⟨dL _,by simp,λ⟨b,h,_⟩=>nomatch h⟩
 |cons b bs ih=>
  refine jj ih λi1 i2 i3=>?_
  refine jj (z4a hu b k) λr1 r2 r3=>?_
  rw [ax,ax,cU,aK,bC,eD];refine ⟨Int.add_nonneg r1 i1,by rw [Int.add_comm,show ((1:Nat):Int)=1 from rfl,kI];exact Int.add_le_add i2 r2,λ⟨c,hc,hk⟩=>?_⟩;rcases aw.mp hc with rfl|hc
  ·exact ee (r3 hk) (Int.le_add_of_nonneg_right i1)
  ·exact ee (i3 (bK c hc hk)) (Int.le_add_of_nonneg_left r1)
theorem z4b: ∀(l:List Int) (k:Int),k<=l.foldl max k/\(∀x∈l,x<=l.foldl max k)/\(l.foldl max k=k\/l.foldl max k∈l):=by
 intro l;induction l with
 |nil=>exact λk=>⟨dL _,(λx h=>nomatch h),.inl rfl⟩
 |cons a l ih=>
  intro k;refine jj (ih (max k a)) λh1 h2 h3=>?_
  refine ⟨ee (Int.le_max_left _ _) h1,λx hx=>?_,?_⟩
  ·rcases aw.mp hx with rfl|hx
   ·exact ee (Int.le_max_right _ _) h1
   ·exact h2 x hx
  ·rcases h3 with h3|h3
   ·rcases Int.le_total k a with g|g
    ·exact .inr (by rw [j3,h3,Int.max_eq_right g];exact ag)
    ·exact .inl (by rw [j3,h3,Int.max_eq_left g])
   ·exact .inr (ah _ h3)
theorem z8e(bs:List (List Bool))(hn:bs≠ []): ∃m:Nat,bMax [.list ((bs.map λb=>(b.length:Int)).map .int)]=some (.int (m:Int))/\(∀b∈bs,b.length<=m)/\ ∃b∈bs,b.length=m:=by
 cases bs with
 |nil=>exact absurd rfl hn
 |cons a bs=>
  refine jj (z4b (bs.map λb=>(b.length:Int)) (a.length:Int)) λh1 h2 h3=>?_
  obtain ⟨b,hb,hm⟩: ∃b∈a::bs,(bs.map λb=>(b.length:Int)).foldl max (a.length:Int)=(b.length:Int):=by
   rcases h3 with h3|h3
   ·exact bK a ag h3
   ·refine aN (bg.mp h3) λb hb e=>?_
    exact bK b (ah _ hb) e.symm
  refine ⟨b.length,?_,λc hc=>?_,b,hb,rfl⟩
  ·unfold bMax;rw [show one _=some _ from rfl,ac,show listOf _=some _ from rfl,ac,oX,ac,ax];show some (PV.int ((bs.map λb=>(b.length:Int)).foldl max (a.length:Int)))=_;rw [hm]
  ·rcases aw.mp hc with rfl|hc
   ·exact cj.mp (hm▸h1)
   ·exact cj.mp (hm▸h2 _ (bg.mpr (bK c hc rfl)))
structure mG(bs:List (List Bool))(m:Nat):Prop where
 n:bs.length<=12
 l: ∀b∈bs,b.length<=m
 x: ∃b∈bs,b.length=m
 m:m<=64
noncomputable abbrev i9(u:Nat)(bs:List (List Bool))(m:Nat):List Int:=(bl m).map (colF (bs.map (rowI u)))
noncomputable abbrev totI(W u:Nat)(bs:List (List Bool)):Int:=((bs.map (rowI u)).map (numberOf W)).sum
noncomputable def kz(u:Nat)(bs:List (List Bool))(m:Nat):List Int:=if m=0 then []else i9 u bs m++ [0,0]++i9 u bs m
noncomputable def numI(W u:Nat)(bs:List (List Bool))(m:Nat):Int:=totI W u bs*(2^(W*(m+2))+1)
theorem oG(u:Nat)(bs:List (List Bool))(m:Nat):(i9 u bs m).length=m:=by rw [aY,iQ]
theorem zuh(k:mG bs m):totI W u bs=numberOf W (i9 u bs m):=
 zwc W m _ λr hr=>by
  refine aN (bg.mp hr) λb hb e_=>?_
  subst e_;rw [mH];exact k.l b hb
theorem znj(k:mG bs m)(z:kP W u s e): ∀x∈i9 u bs m,0<=x/\x<2^22:=λx hx=>by
 refine aN (bg.mp hx) λi J e_=>?_
 subst e_;refine jj (zq3 z.u1 bs i) λh1 h2 J=>?_
 refine ⟨h1,eV h2 ?_⟩;rw [((j4 _ _).symm)];exact eV (cj.mpr (gV k.n z.u2)) (by decide)
theorem w22(z:kP W u s e):(2:Int)^22<=2^W:=mI z.w1
structure Figs(w:Nat)(v:Int)(f:List Int):Prop where
 pos:0<=v
 dig:digitsOf v w=f
 num:numberOf w f=v
 len:f.length<=256
 bit: ∀x∈f,bits x<=250000
theorem z00{W u:Nat}{bs:List (List Bool)}{m:Nat}(k:mG bs m):numberOf W (kz u bs m)=numI W u bs m:=by
 unfold kz numI;rw [zuh k];by_cases hm:m=0
 ·subst hm;rw [show i9 u bs 0=[] from rfl];simp [gJ]
 ·rw [if_neg hm,zni,zni,aC,oG,gJ.2,gJ.2,gJ.1];generalize numberOf W (i9 u bs m)=T;rw [(rfl:W*(m+ [(0:Int),0].length)=W*(m+2))];generalize (2:Int)^(W*(m+2))=X;grind
theorem zwf(k:mG bs m)(z:kP W u s e):Figs W (numI W u bs m) (kz u bs m):=by
 have hs:=znj k z;have all: ∀x∈kz u bs m,0<=x/\x<2^22:=λx hx=>by
  unfold kz at hx;by_cases hm:m=0
  ·rw [if_pos hm]at hx;nomatch hx
  ·rw [if_neg hm]at hx;rcases ec.mp hx with hx|hx
   ·rcases ec.mp hx with hx|hx
    ·exact hs x hx
    ·have:x=0:=by simpa using hx
     subst this;decide
   ·exact hs x hx
 have hW: ∀x∈kz u bs m,0<=x/\x<2^W:=λx hx=>⟨(all x hx).1,bJ (all x hx).2 (w22 z)⟩
 have hn:=z00 (W:=W) (u:=u) k;refine ⟨hn▸uA W _ λx hx=>(all x hx).1,?_,hn,?_,λx hx=>aa (iY (all x hx).1 (all x hx).2) (by decide)⟩
 ·rw [<-hn];unfold kz at hW⊢;cases m with
  |zero=>exact zsi (aa (by decide) z.w1)
  |succ n=>
   rw [if_neg (pG n)]at hW⊢;refine aN k.x λb hb hbl=>?_
   have e:i9 u bs (n+1)=i9 u bs n++ [colF (bs.map (rowI u)) n]:=by show (bl (n+1)).map _=_;rw [List.range_succ,dM];rfl
   have e2:i9 u bs (n+1)++ [0,0]++i9 u bs (n+1)=(i9 u bs (n+1)++ [0,0]++i9 u bs n)++ [colF (bs.map (rowI u)) n]:=by
    conv=>lhs;arg 2;rw [e]
    rw [cT _ (i9 u bs n)]
   rw [e2]at hW⊢;exact zov (aa (by decide) z.w1) (λx hx=>hW x (ei _ hx)) ((zq3 z.u1 bs n).2.2 ⟨b,hb,by rw [hbl];exact fK n⟩) (hW _ (cr _ ag)).2
 ·unfold kz;by_cases hm:m=0
  ·rw [if_pos hm];decide
  ·rw [if_neg hm,aC,aC,oG];have:=k.m;show m+2+m<=256;lia
theorem zui(k:mG bs m)(z:kP W u s e):0<=totI W u bs/\bits (totI W u bs)<=W*64:=by
 have hs:=znj k z;rw [zuh k];have h0:=uA W _ λx hx=>(hs x hx).1
 refine ⟨h0,aa (iY h0 (tn W _ λx hx=>⟨(hs x hx).1,bJ (hs x hx).2 (w22 z)⟩)) ?_⟩;rw [oG];exact c9 W k.m
theorem z01(z:kP W u s e):0<(2:Int)^W-1/\bits ((2:Int)^W-1)<=W/\W<=bits ((2:Int)^W-1):=by
 have h22:(4:Int)<=2^22:=by decide
 have hpos:=Int.sub_pos.mpr (bJ (show (1:Int)<4 by decide) (ee h22 (w22 z)));refine ⟨hpos,iY (al hpos) (Int.sub_lt_self _ (by decide)),?_⟩;obtain ⟨n,hn⟩: ∃n,W=n+1:=⟨W-1,(cF (aa (by decide) z.w1)).symm⟩;have h1:(2:Int)^n<=2^W-1:=by rw [hn,jm,ed,Int.two_mul];exact Int.le_sub_one_of_lt (Int.lt_add_of_pos_right _ (pw2 n))
 have:=ug h1;rw [hn]at this⊢;exact this
theorem z4c(z:kP W u s e):((totI W u bs)-(bs.map (wtB u)).sum)/(2^W-1)*(2^W-1)=totI W u bs-(bs.map (wtB u)).sum:=by
 obtain ⟨c,hc⟩:=z0z W (bs.map (rowI u));have e:(bs.map (rowI u)).map List.sum=bs.map (wtB u):=by rw [cf];exact dC λb J=>z0y u b
 rw [e]at hc;rw [show totI W u bs=((bs.map (rowI u)).map (numberOf W)).sum from rfl,hc];have:(bs.map (wtB u)).sum+c*(2^W-1)-(bs.map (wtB u)).sum=c*(2^W-1):=by lia
 rw [this,Int.mul_ediv_cancel _ (bh ((z01 z).1))]
theorem jbo(d:Nat):(G2 d).gv "max" =some (.bi "max"):=by rw [iG];rfl
theorem maxP(h:bMax args=some v):jh "max" args=some v:=by unfold jh;rw [if_neg (by decide),if_neg (by decide),if_neg (by decide),if_neg (by decide),if_neg (by decide),if_pos rfl,h]
theorem jbp(l:List Int):cmpV .NotEq (.list (l.map .int)) (.list [])=some (!l.isEmpty):=by show (eqV (.list (l.map .int)) (.list [])).map (!·)=_;rw [sT (qP l)];show (((l.map PV.int).mapM jo).bind λx=>(([]:List PV).mapM jo).map λy=>bp x y).map (!·)=_;rw [qP,ac];cases l<;>rfl
theorem jbq{a b:List Int}(h:a.length+b.length<=16777216):binP .Add (.list (a.map .int)) (.list (b.map .int))=some (.list ((a++b).map .int)):=by show (if f0 ((a.map PV.int).length+(b.map PV.int).length)then some (PV.list (a.map PV.int++b.map PV.int))else none)=_;rw [if_pos (szok (by rw [aY,aY];exact h)),dM]
theorem jbr:bits 2=2:=by decide
noncomputable abbrev rhoC(v:Nat->Option Slot)(p q:Nat)(bs:List (List Bool))(W u:Nat)(s e S t:Int):Rho:=[v 0,v 1,v 2,v 3,v 4,v 5,v 6,v 7,v 8,v 9,v 10,v 11,v 12,v 13,v 14,v 15,v 16,some (.val (.int t)),some (.val (.int S)),some (.val (oh W u s e)),some (.val (.str (tx [p]))),some (.val (.list (bs.map λb=>.str (tx (word p q b))))),none,none]
noncomputable def v12(W u:Nat)(s e:Int)(bs:List (List Bool))(m:Nat)(k:Nat):Option Slot:=
 if k=16 then some (.val (.int W))else if k=15 then some (.val (.int u))else if k=14 then some (.val (.int s))else if k=13 then some (.val (.int e))else if k=12 then some (.val (.list (bs.map λb=>.list ((rowI u b).map .int))))else if k=11 then some (.val (.int (totI W u bs)))
 else if k=10 then some (.val (.list ((i9 u bs m).map .int)))else if k=9 then some (.val (.list ((kz u bs m).map .int)))else if k=8 then some (.val (.int (numI W u bs m)))else none
theorem zq4(d:Nat)(hpq:p≠q)(z:kP W u s e)(k:mG bs m)(hm:bMax [.list ((bs.map λb=>(b.length:Int)).map .int)]=some (.int (m:Int)))(h:eK (G2 (d+11)) (ph.drop 6) (rhoC (v12 W u s e bs m) p q bs W u s e S t)=r):eK (G2 (d+11)) ph (rhoC (λJ=>none) p q bs W u s e S t)=r:=by
 have hbl:bs.length<=16777216:=aa k.n (by decide);have hll: ∀b∈bs,b.length<=64:=λb hb=>aa (k.l b hb) k.m
 refine dD (jt (aO rfl) rfl) ?_;refine dD (gG (i5 (l:=bs) (mk:=λb=>.str (tx (word p q b))) (g:=λb=>.list ((rowI u b).map .int)) (jx (aO rfl)) (λb hb=>?_) hbl)) ?_
 ·unfold rowI;rw [cf];refine i5 (l:=b) (mk:=λc=>.str (tx [if c then p else q])) ?_ (λc J=>?_) (aa (hll b hb) (by decide))
  ·exact (rZ (aO rfl)).trans (by unfold word;rw [cf];rfl)
  ·refine lG (c:=c) (gb (aO rfl) (aO rfl) (e_tx.trans ?_)) ?_
   ·cases c
    ·exact congrArg some (decide_eq_false λg=>hpq (List.cons.inj g).1.symm)
    ·exact congrArg some (decide_eq_true rfl)
   ·cases c
    ·exact aO rfl
    ·rfl
 refine dD (gG (v:=.int (totI W u bs)) (qf (qg _) (l:=(bs.map (rowI u)).map (numberOf W)) ?_)) ?_
 ·rw [cf,cf];refine i5 (l:=bs) (mk:=λb=>.list ((rowI u b).map .int)) (jx (aO rfl)) (λb hb=>?_) hbl;exact ge (fA (rX _)) (bN (aO rfl) (bN (aO rfl) dW)) (sU (d:=d+10) (aa (by decide) z.w1) (aa z.w2 (by decide)) (by rw [mH];exact aa (hll b hb) (by decide)) (λx hx=>aa (iY (k:=13) (ee (by decide) (qo z.u1 x hx).1) (eV (qo z.u1 x hx).2 (eV (cj.mpr z.u2) (by decide)))) (by decide)) (bj _ _))
 refine dD (gG (v:=.list ((i9 u bs m).map .int)) ?_) ?_
 ·unfold i9;rw [cf];refine i5 (l:=bl m) (mk:=λ(i:Nat)=>.int (i:Int)) (to (oM _) ?_ (aa k.m (by decide))) (λi J=>?_) (by rw [iQ];exact aa k.m (by decide))
  ·refine ge (fA (jbo _)) (bN (x:=.list ((bs.map λb=>(b.length:Int)).map .int)) ?_ dW) (maxP hm);rw [cf];refine i5 (l:=bs) (mk:=λb=>.list ((rowI u b).map .int)) (jx (aO rfl)) (λb J=>?_) hbl;exact qF (l6 _) (aO rfl) (by rw [aY,mH])
  ·show be _ _ _=some (PV.int (colF (bs.map (rowI u)) i));rw [<-zwd];refine qf (qg _) ?_;have hmf:((bs.map (rowI u)).filter λr=>decide (i<r.length))=(bs.filter λb=>decide (i<b.length)).map (rowI u):=by rw [List.filter_map];congr 2;funext b;show decide (i<(rowI u b).length)=_;rw [mH]
   rw [hmf,cf,cf];refine zqp (l:=bs) (mk:=λb=>.list ((rowI u b).map .int)) (jx (aO rfl)) (λb J=>?_) (λb J hb=>?_) hbl
   ·refine gb (qF (n:=b.length) (l6 _) (aO rfl) (by rw [aY,mH])) (aO rfl) ?_;exact congrArg some (decide_eq_decide.mpr cy)
   ·have hb':i<(rowI u b).length:=by rw [mH];exact of_decide_eq_true hb
    exact fF (aO rfl) (aO rfl) (kh (af (of_decide_eq_true hb) (aa (hll b ‹_›) (by decide))) (sH hb'))
 refine dD (jt (xs:=[.list ((kz u bs m).map .int),.int (numI W u bs m)]) (iT (bN (lG (c:=!(i9 u bs m).isEmpty) (gb (aO rfl) rfl (jbp _)) ?_) (bN (cE (y:=.int (2^(W*(m+2))+1)) (aO rfl) (cE (x:=.int (2^(W*(m+2)))) (cE (y:=.int ((W*(m+2):Nat):Int)) rfl (cE (y:=.int ((m+2:Nat):Int)) (aO rfl) (cE (x:=.int (m:Int)) ?_ rfl ?_) ?_) (nY ?_)) rfl rfl) (jG ?_)) dW))) rfl) ?_
 ·have hcl:=oG u bs m;unfold kz;by_cases h0:m=0
  ·subst h0;rfl
  ·rw [if_neg h0,show (i9 u bs m).isEmpty=false by
    cases hc:i9 u bs m with
    |nil=>rw [hc]at hcl;exact absurd hcl.symm h0
    |cons=>rfl]
   have:=k.m;exact cE (cE (aO rfl) (y:=.list ([(0:Int),0].map .int)) rfl (jbq (by rw [hcl];exact aa (bW k.m 2) (by decide)))) (aO rfl) (jbq (by rw [aC,hcl];exact aa (cG (bW k.m 2) k.m) (by decide)))
 ·exact qF (l6 _) (aO rfl) (by rw [aY,oG])
 ·show some (PV.int ((m:Int)+2))=_;rw [bC];rfl
 ·rw [j4];exact jG (aa (cG (je (show W<2^12 from Nat.lt_of_le_of_lt z.w2 (by decide))) (je (show m+2<2^12 from Nat.lt_of_le_of_lt (bW k.m 2) (by decide)))) (by decide))
 ·rw [jbr];exact aa (c9 2 (gV z.w2 (bW k.m 2))) (by decide)
 ·have h1:=(zui k z).2;exact aa (cG (aa h1 (fg 64 z.w2)) (aa (t5 (k:=W*(m+2)+1) (je (by rw [Int.natAbs_pow];exact Nat.pow_lt_pow_right (by decide) (fK _))) (aa (show bits 1<=1 by decide) (bj _ _))) (bW (gV z.w2 (bW k.m 2)) 2))) (by decide)
 obtain ⟨f1,f2,f3,f4,f5⟩:=zwf k z;have hW:=aa (show 1<=22 by decide) z.w1;have hW2:=aa z.w2 (show 2300<=250000 by decide);have h1:=ztw (d:=d+10) (a:=numI W u bs m) (n:=W) f1 hW hW2 (by rw [f2];exact f4) (bj _ _);rw [f2]at h1;have h2:=sU (d:=d+10) (l:=kz u bs m) (n:=W) hW hW2 f4 f5 (bj _ _);rw [f3]at h2;exact dD (ie (c:=false||false) (z5m (gb (ge (fA (z5n _)) (bN (aO rfl) (bN (aO rfl) dW)) h1) (aO rfl) (z7z _)) λJ=>gb (ge (fA (rX _)) (bN (aO rfl) (bN (aO rfl) dW)) h2) (aO rfl) ne_int) iq) h
theorem zo0(N:Nat)(l:List Int)(h: ∀x∈l,0<=x):0<=l.sum/\l.sum<=numberOf N l:=by
 induction l with
 |nil=>exact ⟨dL _,dL _⟩
 |cons x l ih=>
  refine xA (ih λy hy=>h y (ah _ hy)) λi1 i2=>?_
  have hx:=h x ag;have h1:=dZ (pw2 N) (ee i1 i2);rw [cU,gJ.2,aQ];exact ⟨by lia,by lia⟩
theorem z8f(hu:1<=u)(bs:List (List Bool)):0<=(bs.map (wtB u)).sum/\(bs.map (wtB u)).sum<=totI W u bs:=by
 unfold totI;induction bs with
 |nil=>exact ⟨dL _,dL _⟩
 |cons b bs ih=>
  have h1:=zo0 W (rowI u b) λx hx=>ee (by decide) (qo hu x hx).1
  rw [z0y]at h1;rw [ax,ax,ax,cU,cU];exact ⟨by lia,by lia⟩
noncomputable abbrev z8g:List PS:=[.asg 0 (.call (.glob "int_divmod") [(.bin .Mult (.var 7) (.var 2)),(.var 4)]),.ite (.or [(.cmp .NotEq (.var 0) (.tuple [(.bin .FloorDiv (.bin .Mult (.var 7) (.var 1)) (.var 4)),(.bin .Mod (.bin .Mult (.var 7) (.var 1)) (.var 4))])),(.cmp .NotEq (.comp (.cmp .Is (.call (.glob "type") [(.var 22)]) (.glob "int")) [(.mk [22] true (.plain (.var 0)) [])]) (.list [(.bool true),(.bool true)]))]) [.ret (.bool false)] []]
theorem zuj(d:Nat)(u1:e1=1\/e1= -1)(hD:D≠0)(hDb:bits D<=8000)(hAb:bits A+bits D-1<257*bits D)(hA:bits A<=1000000)(ρ:Rho)(h7:ρ[7]?=some (some (.val (.int e1))))(h4:ρ[4]?=some (some (.val (.int D))))(hl:ρ.length=24): ∃t,my (G2 (d+15)) [2,1] false z8g (.tuple [.int A,.int A]) ρ=some (.next (setR (setR (setR ρ 2 (.val (.int A))) 1 (.val (.int A))) 0 t)):=by
 have hg: ∀{i j:Nat} {s v:Slot} {ρ:Rho},ρ[i]?=some (some v)->j≠i->(setR ρ j s)[i]?=some (some v):=λh hne=>by unfold setR;rw [uW hne,h]
 have hs: ∀{i:Nat} {s:Slot} {ρ:Rho},i<ρ.length->(setR ρ i s)[i]?=some (some s):=λh=>by unfold setR;rw [List.getElem?_set_self h]
 have ll: ∀{i:Nat} {s:Slot} {ρ:Rho},(setR ρ i s).length=ρ.length:=λ{i s ρ}=>by unfold setR;rw [List.length_set]
 have hDp:0<bits D:=by
  rcases Int.lt_or_gt_of_ne hD with h|h
  ·have:=mj (x:=-D) (by lia);rw [oN]at this;exact this
  ·exact mj h
 have hidv:=idiv (d:=d+10) (m:=1) (a:=e1*A) (b:=D) (bj _ _) (bj _ _) hD (aa hDb (by decide)) (aa hDb (by decide)) (by rw [tj u1];exact lR ((Nat.div_lt_iff_lt_mul hDp).mpr hAb));refine ⟨.val (.tuple [.int ((e1*A).fdiv D),.int ((e1*A).fmod D)]),(ac _ _).trans ?_⟩;have g7:(setR (setR ρ 2 (.val (.int A))) 1 (.val (.int A)))[7]?=some (some (.val (.int e1))):=hg (hg h7 (by decide)) (by decide);have g4:(setR (setR ρ 2 (.val (.int A))) 1 (.val (.int A)))[4]?=some (some (.val (.int D))):=hg (hg h4 (by decide)) (by decide);have g2:(setR (setR ρ 2 (.val (.int A))) 1 (.val (.int A)))[2]?=some (some (.val (.int A))):=hg (hs (by rw [hl];decide)) (by decide);have g1:(setR (setR ρ 2 (.val (.int A))) 1 (.val (.int A)))[1]?=some (some (.val (.int A))):=hs (by rw [ll,hl];decide);have gl:(setR (setR ρ 2 (.val (.int A))) 1 (.val (.int A))).length=24:=by rw [ll,ll,hl]
 generalize setR (setR ρ 2 (.val (.int A))) 1 (.val (.int A))=ρ' at*;have hmul:binP .Mult (.int e1) (.int A)=some (.int (e1*A)):=jG (by rw [zqt u1];lia);refine dD (gG (ge (fA (rW _)) (bN (cE (aO g7) (aO g2) hmul) (bN (aO g4) dW)) hidv)) ?_;have k7:=hg (s:=.val (.tuple [.int ((e1*A).fdiv D),.int ((e1*A).fmod D)])) g7 (j:=0) (by decide);have k4:=hg (s:=.val (.tuple [.int ((e1*A).fdiv D),.int ((e1*A).fmod D)])) g4 (j:=0) (by decide);have k1:=hg (s:=.val (.tuple [.int ((e1*A).fdiv D),.int ((e1*A).fmod D)])) g1 (j:=0) (by decide);have k0:(setR ρ' 0 (.val (.tuple [.int ((e1*A).fdiv D),.int ((e1*A).fmod D)])))[0]?=some (some (.val (.tuple [.int ((e1*A).fdiv D),.int ((e1*A).fmod D)]))):=hs (by rw [gl];decide);refine dD (ie (c:=false||false) (z5m (gb (y:=.tuple [.int ((e1*A).fdiv D),.int ((e1*A).fmod D)]) (aO k0) (iT (bN (cE (cE (aO k7) (aO k1) hmul) (aO k4) ?_) (bN (cE (cE (aO k7) (aO k1) hmul) (aO k4) ?_) dW))) jbe) λJ=>gb (x:=.list ([true,true].map .bool)) (y:=.list ([true,true].map .bool)) ?_ rfl (sS _)) iq) iq
 ·show (if D=0 then none else if aU (e1*A) D=true then none else some (PV.int _))=_;rw [if_neg hD,(tq (aa hDb (by decide)))];rfl
 ·show (if D=0 then none else some (PV.int _))=_;rw [if_neg hD]
 ·refine i5 (l:=[(e1*A).fdiv D,(e1*A).fmod D]) (mk:=PV.int) (g:=λJ=>.bool true) ?_ (λv J=>og (ge (fA (z70 _)) (bN (aO (hs (by rw [ll,gl];decide))) dW) rfl) (fA (jbf _)) rfl) (eI rfl);simp only [pE,eE,oV k0,ac];rfl
theorem z02{A D W b:Nat}(h1:A<=W*64+2*b+1)(h2:W+b<=D+1)(h3:22<=W)(h4:1<=b):A+D-1<257*D:=by lia
theorem zsr(d:Nat)(args:List PV):(G2 (d+1)).fns "_law_counted" args=jb (G2 d) uv ph zh6 args:=rfl
theorem zss(d:Nat)(hpq:p≠q)(z:kP W u s e)(hn:bs.length<=12)(hne:bs≠ [])(hl: ∀b∈bs,b.length<=64): (G2 (d+16)).fns "_law_counted" [.list (bs.map λb=>.str (tx (word p q b))),.str (tx [p]),oh W u s e,.int (bs.map (wtB u)).sum,.int t]=some (.bool true):=by
 show let g_:=_;g_;intro g_;refine fT (z8e bs hne) λm hm hm1 hm2=>?_
 have k:mG bs m:=⟨hn,hm1,hm2,by obtain ⟨b,hb,h⟩:=hm2;rw [<-h];exact hl b hb⟩;show (G2 (d+15+1)).fns "_law_counted" _=_;rw [zsr];refine jy rfl (zq4 (d+4) hpq z k hm ?_);show let g_:=_;g_;intro g_;refine xA (zui k z) λhT0 hTb=>?_
 refine jj (z01 z) λhB0 hB1 hB2=>?_
 refine xA (z8f (W:=W) z.u1 bs) λhS0 hS1=>?_
 have hw:=z4c (bs:=bs) z;obtain ⟨T,hT⟩: ∃T,T=totI W u bs:=⟨_,rfl⟩;obtain ⟨S,hS⟩: ∃S,S=(bs.map (wtB u)).sum:=⟨_,rfl⟩;obtain ⟨B,hB⟩: ∃B:Int,B=2^W-1:=⟨_,rfl⟩;rw [<-hT,<-hS,<-hB]at hw;rw [<-hT]at hT0 hTb hS1;rw [<-hS]at hS0 hS1;rw [<-hB]at hB0 hB1 hB2;obtain ⟨j,hj,hj4⟩: ∃j:Nat,t%4=(j:Int)/\j<4:=modN t 4 (by decide);obtain ⟨e1,e2,hes,u1,u2⟩: ∃e1 e2:Int,(z5t.map λ(q:Int×Int)=>PV.tuple [.int q.1,.int q.2])[j]?=some (.tuple [.int e1,.int e2])/\(e1=1\/e1= -1)/\(e2=1\/e2= -1):=by
  rcases lt4 hj4 with rfl|rfl|rfl|rfl
  ·exact eg 1 1 rfl (.inl rfl) (.inl rfl)
  ·exact eg 1 (-1) rfl (.inl rfl) (.inr rfl)
  ·exact eg (-1) 1 rfl (.inr rfl) (.inl rfl)
  ·exact eg (-1) (-1) rfl (.inr rfl) (.inr rfl)
 have hs0:0<s:=z.s1;have hsp:=mj hs0;have hDb:bits (e2*B*s)=bits (B*s):=by rw [(Int.mul_assoc _ _ _),tj u2]
 have hD0:e2*B*s≠0:=Int.mul_ne_zero (Int.mul_ne_zero (by rcases u2 with rfl|rfl<;>decide) (bh hB0)) (bh hs0);have hW:=z.w2;have hW1:=z.w1;have hsb:=z.s2;have hTS:bits (T-S)<=W*64:=aa (nC (by lia) (by lia)) hTb;have hss:bits (s^2)<=2*bits s:=by rw [jm,jm,Int.pow_zero,kI];exact aa o7 (dc (uT _).symm)
 have hA1:=t5 (aa o7 (bW hTb _)) (aa (nC z.e0 (al z.e1)) (bj _ _));have hA2:=aa o7 (cG hTS hss);have hpow: ∀{ρ:Rho},ρ[16]?=some (some (.val (.int (W:Int))))->be (G2 (d+15)) (.bin .Sub (.bin .Pow (.int 2) (.var 16)) (.int 1)) ρ=some (.int B):=λh=>by rw [hB];exact cE (cE (y:=.int (W:Int)) rfl (aO h) (nY (by rw [jbr];lia))) rfl rfl
 refine dD (jt (xs:=[.int e1,.int e2]) (fF (x:=.list (z5t.map λ(q:Int×Int)=>PV.tuple [.int q.1,.int q.2])) (y:=.int (j:Int)) rfl (cE (aO rfl) rfl (by rw [iI (by decide),hj])) (kh (by lia) hes)) rfl) ?_;refine dD (jt (xs:=[.int B,.int (e2*B*s),.int ((T-S)/B)]) (iT (bN (hpow rfl) (bN (cE (cE (aO rfl) (hpow rfl) (jG (by rw [zqt u2];lia))) (aO rfl) (jG (by rw [tj u2];lia))) (bN (cE (x:=.int (T-S)) (cE (aO rfl) (aO rfl) (by rw [hT,hS];rfl)) (hpow rfl) (jC hB0 (aa hB1 (aa hW (by decide))))) dW)))) rfl) ?_;have hD8:bits (e2*B*s)<=8000:=by rw [hDb];exact aa o7 (aa (cG (aa hB1 hW) hsb) (by decide))
 have hWb:=aa (bW hB2 _) (zqs hB0 hs0);have hW64:=fg 64 hW;show let g_:=_;g_;intro g_;obtain ⟨t1,ht1⟩:=zuj d u1 (A:=T*s+e) hD0 hD8 (by rw [hDb];exact z02 (aa hA1 (eQ (u6 (Nat.le_mul_of_pos_left _ (by decide)) _))) hWb hW1 hsp) (aa hA1 (aa (eQ (cG hW64 hsb)) (by decide))) (rhoC (λk=>if k=7 then some (.val (.int e1))else if k=6 then some (.val (.int e2))else if k=5 then some (.val (.int B))else if k=4 then some (.val (.int (e2*B*s)))else if k=3 then some (.val (.int ((T-S)/B)))else v12 W u s e bs m k) p q bs W u s e S t) rfl rfl rfl;obtain ⟨t2,ht2⟩:=zuj d u1 (A:=(T-S)*s^2) hD0 hD8 (by rw [hDb];exact z02 (Nat.le_succ_of_le hA2) hWb hW1 hsp) (aa hA2 (aa (cG hW64 (c9 2 hsb)) (by decide))) (rhoC (λk=>if k=0 then some t1 else if k=1 then some (.val (.int (T*s+e)))else if k=2 then some (.val (.int (T*s+e)))else if k=7 then some (.val (.int e1))else if k=6 then some (.val (.int e2))else if k=5 then some (.val (.int B))else if k=4 then some (.val (.int (e2*B*s)))else if k=3 then some (.val (.int ((T-S)/B)))else v12 W u s e bs m k) p q bs W u s e S t) rfl rfl rfl;have hwb:bits ((T-S)/B)<=W*64:=by refine aa (nC (bT (by lia) (al hB0)) (Int.ediv_le_self _ (by lia))) hTS
 refine dD (mD (items:=[.tuple [.int (T*s+e),.int (T*s+e)],.tuple [.int ((T-S)*s^2),.int ((T-S)*s^2)]]) ?_ rfl (by rw [<-hS];exact ((lh ht1).trans ((lh ht2).trans qH)))) (hC (jg rfl));have hv:be (G2 (d+15)) (.tuple [(.tuple [(.bin .Add (.bin .Mult (.var 11) (.var 14)) (.var 13)),(.bin .Add (.bin .Mult (.bin .Add (.bin .Mult (.var 3) (.var 5)) (.var 18)) (.var 14)) (.var 13))]),(.tuple [(.bin .Mult (.bin .Sub (.var 11) (.var 18)) (.bin .Pow (.var 14) (.int 2))),(.bin .Mult (.bin .Mult (.var 3) (.var 5)) (.bin .Pow (.var 14) (.int 2)))])])
   (rhoC (λk=>if k=7 then some (.val (.int e1))else if k=6 then some (.val (.int e2))else if k=5 then some (.val (.int B))else if k=4 then some (.val (.int (e2*B*s)))else if k=3 then some (.val (.int ((T-S)/B)))else v12 W u s e bs m k) p q bs W u s e S t)=some (.tuple [.tuple [.int (T*s+e),.int (T*s+e)],.tuple [.int ((T-S)*s^2),.int ((T-S)*s^2)]]):=by
  have hwB: ∀{ρ:Rho},ρ[3]?=some (some (.val (.int ((T-S)/B))))->ρ[5]?=some (some (.val (.int B)))->be (G2 (d+15)) (.bin .Mult (.var 3) (.var 5)) ρ=some (.int (T-S)):=λh3 h5=>cE (aO h3) (aO h5) (by rw [jG (by lia),hw])
  have hsq: ∀{ρ:Rho},ρ[14]?=some (some (.val (.int s)))->be (G2 (d+15)) (.bin .Pow (.var 14) (.int 2)) ρ=some (.int (s^2)):=λh=>cE (y:=.int ((2:Nat):Int)) (aO h) rfl (nY (by lia))
  have h11: ∀{ρ:Rho},ρ[11]?=some (some (.val (.int (totI W u bs))))->be (G2 (d+15)) (.var 11) ρ=some (.int T):=λh=>by rw [hT];exact aO h
  exact iT (bN (iT (bN (cE (cE (h11 rfl) (aO rfl) (jG (by lia))) (aO rfl) rfl) (bN (cE (x:=.int (T*s)) (cE (x:=.int T) (cE (hwB rfl rfl) (aO rfl) (by show some (PV.int (T-S+S))=_;rw [Int.sub_add_cancel])) (aO rfl) (jG (by lia))) (aO rfl) rfl) dW)))
   (bN (iT (bN (cE (cE (h11 rfl) (aO rfl) rfl) (hsq rfl) (jG (by lia))) (bN (cE (hwB rfl rfl) (hsq rfl) (jG (by lia))) dW))) dW))
 rw [<-hS];exact (congrArg (λx=>x.bind lY) hv).trans rfl
noncomputable def jp(k i:Nat):List (List Nat):=(mB k).getD i []
noncomputable def jW(k:Nat):List (List Nat):=(mB k).flatMap λs=>s.filter λJ=>true
theorem zuk: ∀k<4,((bl 4).all λi=>decide ((jp k i).length<=12)&&!(jp k i).isEmpty&&((jp k i).all λw=>decide (w∈jW k))&&decide ((mB k)[i]?=some (jp k i)))&&((jW k).all λw=>decide (w.length<=5)&&w.all λc=>decide (48<=c/\c<52))&&decide ((jW k).length<=100)=true:=by decide+kernel
structure jbs(k i:Nat):Prop where
 l:(jp k i).length<=12
 n:(jp k i)≠ []
 m: ∀w∈jp k i,w∈jW k
 e:(mB k)[i]?=some (jp k i)
theorem sC(hk:k<4)(hi:i<4):jbs k i:=by have h:=zuk k hk;rw [an,an]at h;have h:=aj.mp h.1.1 i (gW.mpr hi);simp only [an,decide_eq_true_eq,eA,aj]at h;exact ⟨h.1.1.1,λe=>by rw [e]at h;exact tf h.1.1.2,h.1.2,h.2⟩
theorem zul(hk:k<4):(∀w∈jW k,w.length<=5/\ ∀c∈w,48<=c/\c<52)/\(jW k).length<=100:=by have h:=zuk k hk;rw [an,an]at h;refine ⟨λw hw=>?_,of_decide_eq_true h.2⟩;have h:=aj.mp h.1.2 w hw;rw [an]at h;exact ⟨of_decide_eq_true h.1,λc hc=>of_decide_eq_true (aj.mp h.2 c hc)⟩
theorem z4d(u:Nat)(rs:List RD)(st:List Bool)(hf:f=0\/f=2):((jp k f).map λw=>wtB u (fE rs st w)).sum=((jp k (f+1)).map λw=>wtB u (fE rs st w)).sum:=by
 rcases hf with rfl|rfl
 ·exact z8c u rs st
 ·exact z8d u rs st _ _ _
theorem z8h(h:p≠q)(b:List Bool):(word p q b).count p=b.count true/\(word p q b).count q=b.count false:=by
 induction b with
 |nil=>exact ⟨rfl,rfl⟩
 |cons c b ih=>
  show (((if c then p else q)::word p q b).count p=_)/\(((if c then p else q)::word p q b).count q=_);constructor
  ·rw [fy,ih.1,fy];cases c
   ·simp [dh h]
   ·simp
  ·rw [fy,ih.2,fy];cases c
   ·simp
   ·simp [h]
theorem zq5{G:GT}{ρ:Rho}{o e:PE}{rs:List RD}{st:List Bool}{p q:Nat}{w:List Nat}{c:Nat}(h1:be G o ρ=some (dueV rs st p q w))(h2:be G e ρ=some (.str (tx [c]))):be G (.meth o ("count":Str) [e]) ρ=some (.int (((word p q (fE rs st w)).count c:Nat):Int)):=by
 have hc: ∀l,jY (tx l) ("count":Str) [.str (tx [c])]=some (.int ((l.count c:Nat):Int)):=λl=>by have:=countP (s:=tx l) (a:=tx [c]);refine Eq.trans this ?_;rw [(zy1 l c)]
 simp only [eE,h1,(bN (G:=G) (ρ:=ρ) h2 dW),ac];unfold dueV;by_cases hw:w=[]
 ·rw [if_pos hw,hw];exact hc _
 ·rw [if_neg hw];cases (fE rs st w.dropLast).isEmpty
  ·exact hc _
  ·exact hc _
noncomputable abbrev inBody:List PS:=[.ite (.not (.call (.glob "_law_counted") [(.comp (.sub (.var 7) (.var 27)) [(.mk [27] true (.plain (.sub (.var 10) (.var 0))) [])]),(.sub (.var 19) (.int 0)),(.var 5),(.var 1),(.bin .Add (.var 4) (.var 0))])) [.ret (.bool false)] []]
noncomputable abbrev z8i:List PS:=[.asg 1 (.call (.glob "sum") [(.comp (.bin .Add (.meth (.sub (.var 6) (.var 27)) ("count":Str) [(.sub (.var 19) (.int 0))]) (.bin .Mult (.sub (.var 5) (.int 1)) (.meth (.sub (.var 6) (.var 27)) ("count":Str) [(.sub (.var 19) (.int 1))]))) [(.mk [27] true (.plain (.sub (.var 10) (.var 2))) [])])]),.forS [0] true (.plain (.tuple [(.var 2),(.bin .Add (.var 2) (.int 1))])) inBody]
theorem zwg(d:Nat):(G2 d).gv "_law_counted" =some (.fn "_law_counted"):=gv_h d (by decide+kernel) (by rfl)
noncomputable abbrev rhoE(x:Nat->Option Slot)(o:Nat->Option Slot)(cs:List Int)(p q W u:Nat)(s e t:Int)(rs:List RD)(st:List Bool)(D:List (List Nat))(k:Nat):Rho:=rhoL (λj=>if j=0 then x 0 else if j=1 then x 1 else if j=2 then x 2 else if j=4 then some (.val (.int t))else if j=5 then some (.val (oh W u s e))else if j=6 then some (.val (pz p q rs st D))else if j=7 then some (.val (oi p q rs st D))else if j=10 then some (.val (mA k))else o j) cs
theorem z03{G:GT}{ρ:Rho}{k i:Nat}(hk:k<4)(hi:i<4){e:PE}(h10:ρ[10]?=some (some (.val (mA k))))(he:be G e ρ=some (.int (i:Int))):iS G (.plain (.sub (.var 10) e)) ρ=some ((jp k i).map λw=>.str (tx w)):=jx (fF (aO h10) he (kh (gw hi (by decide)) (by rw [cg,(sC hk hi).e];rfl)))
theorem z5x{h x y p q:Nat}{rs:List RD}{st:List Bool}(r:lr h x y p q rs st){k:Nat}(hk:k<4){w:List Nat}(hw:w∈jW k):(fE rs st w).length<=64:=by refine aa (zuc r w) ?_;exact c9 2 (gu (show 0<2 by decide) ((zul hk).1 w hw).1)
theorem z04(d:Nat){h x y p q:Nat}{rs:List RD}{st:List Bool}(r:lr h x y p q rs st){W u:Nat}{s e t:Int}(z:kP W u s e){D:List (List Nat)}{k:Nat}(hk:k<4)(hD: ∀w∈jW k,w∈D){i:Nat}(hi:i<4)(x0 x2:Option Slot)(o:Nat->Option Slot)(h19:o 19=some (.val (.str (tx [p,q]))))(cs:List Int): my (G2 (d+16)) [0] true inBody (.int (i:Int)) (rhoE (λj=>if j=0 then x0 else if j=1 then some (.val (.int ((jp k i).map λw=>wtB u (fE rs st w)).sum))else x2) o cs p q W u s e t rs st D k)= some (.next (rhoE (λj=>if j=0 then some (.val (.int (i:Int)))else if j=1 then some (.val (.int ((jp k i).map λw=>wtB u (fE rs st w)).sum))else x2) o cs p q W u s e t rs st D k)):=by
 have sk:=sC hk hi;have hrun:=zss d (t:=t+i) r.g.pq z (bs:=(jp k i).map (fE rs st)) (by rw [aY];exact sk.l) (λh=>sk.n (List.map_eq_nil_iff.mp h)) (λb hb=>by
  refine aN (bg.mp hb) λw hw e_=>?_
  subst e_;exact z5x r hk (sk.m w hw))
 rw [cf,cf]at hrun;refine (ac _ _).trans (dD (ie (c:=false) (z5p (zyv (fA (zwg _)) (bN (i5 (l:=jp k i) (mk:=λw=>.str (tx w)) (z03 hk hi rfl (aO rfl)) (λw hw=>fF (aO rfl) (aO rfl) ?_) (aa sk.l (by decide))) (bN (fF (z:=.str (tx [p])) (aO (congrArg some h19)) rfl rfl) (bN (aO rfl) (bN (aO rfl) (bN (cE (aO rfl) (aO rfl) rfl) dW))))) hrun rfl)) iq) iq);exact oI (v:=λw=>.str (tx (word p q (fE rs st w)))) (hD w (sk.m w hw))
theorem zum(d:Nat){h x y p q:Nat}{rs:List RD}{st:List Bool}(r:lr h x y p q rs st){W u:Nat}{s e t:Int}(z:kP W u s e){D:List (List Nat)}{k:Nat}(hk:k<4)(hD: ∀w∈jW k,w∈D){f:Nat}(hf:f=0\/f=2)(v:Nat->Option Slot)(o:Nat->Option Slot)(h19:o 19=some (.val (.str (tx [p,q]))))(cs:List Int): ∃v',my (G2 (d+16)) [2] true z8i (.int (f:Int)) (rhoE v o cs p q W u s e t rs st D k)=some (.next (rhoE v' o cs p q W u s e t rs st D k)):=by
 have hf4:f+1<4:=by rcases hf with rfl|rfl<;>decide
 have sk:=sC hk (lP hf4);have t2:=z04 d r z (t:=t) hk hD hf4 (some (.val (.int (f:Int)))) (some (.val (.int (f:Int)))) o h19 cs;rw [<-z4d u rs st hf]at t2;refine ⟨λj=>if j=0 then some (.val (.int ((f+1:Nat):Int)))else if j=1 then some (.val (.int ((jp k f).map λw=>wtB u (fE rs st w)).sum))else some (.val (.int (f:Int))),(ac _ _).trans ?_⟩;refine dD (gG (v:=.int ((jp k f).map λw=>wtB u (fE rs st w)).sum) (qf (qg _) ?_)) (dD (mD ?_ rfl ((lh (z04 d r z (t:=t) hk hD (lP hf4) (v 0) (some (.val (.int (f:Int)))) o h19 cs)).trans ((lh t2).trans qH))) iq)
 ·rw [cf];refine i5 (l:=jp k f) (mk:=λw=>.str (tx w)) (z03 hk (lP hf4) rfl (aO rfl)) (λw hw=>?_) (aa sk.l (by decide));have hdue: ∀{ρ:Rho},ρ[6]?=some (some (.val (pz p q rs st D)))->ρ[27]?=some (some (.val (.str (tx w))))->be (G2 (d+16)) (.sub (.var 6) (.var 27)) ρ=some (dueV rs st p q w):=λh6 h27=>fF (aO h6) (aO h27) (oI (hD w (sk.m w hw)))
  obtain ⟨k1,k2⟩:=z8h r.g.pq (fE rs st w);refine cE (x:=.int (((fE rs st w).count true:Nat):Int)) ((zq5 (hdue rfl rfl) (fF (z:=.str (tx [p])) (aO (congrArg some h19)) rfl rfl)).trans (by rw [k1])) (cE (x:=.int (u:Int)) (y:=.int (((fE rs st w).count false:Nat):Int)) (fF (aO rfl) rfl rfl) ((zq5 (hdue rfl rfl) (fF (z:=.str (tx [q])) (aO (congrArg some h19)) rfl rfl)).trans (by rw [k2])) (jG ?_)) rfl;exact aa (cG (je (show u<2^13 from Nat.lt_of_le_of_lt z.u2 (by decide))) (je (show (fE rs st w).count false<2^13 from Nat.lt_of_le_of_lt (aa List.count_le_length (z5x r hk (sk.m w hw))) (by decide)))) (by decide)
 ·refine (pE.2.2.2.2.2.2.1 _ _ _).trans ?_;rw [iT (bN (aO rfl) (bN (x:=.int ((f+1:Nat):Int)) (cE (aO rfl) rfl (by rw [bC];rfl)) dW))];rfl
theorem z4e(d:Nat):(G2 d).gv "_law_sides" =some (.fn "_law_sides"):=gv_h d (by decide+kernel) (by rfl)
theorem z8j(d:Nat):(G2 d).gv "_law_runs" =some (.fn "_law_runs"):=gv_h d (by decide+kernel) (by rfl)
theorem z4f(d:Nat):(G2 d).gv "_law_sizes" =some (.fn "_law_sizes"):=gv_h d (by decide+kernel) (by rfl)
theorem z4g(d:Nat){h x y p q:Nat}(g:Sg h x y p q){rs:List RD}(hl:rs.length=4)(hok: ∀r∈rs,r.Ok x y)(c0 c1 c2 c3 c4 c5:Int)(o:Nat->Option Slot)(h11:o 11=some (.val (.list (rs.map (RD.sg p q)))))(h19:o 19=some (.val (.str (tx [p,q]))))(h21:o 21=some (.val (.dict (mC h))))(h23:o 23=some (.val (.fn (ig h)))): ∃(v:Nat->Option Slot) (th:PV×Str),th∈lI/\v 3=some (.val (mz th))/\v 23=some (.val (.fn (ig h)))/\eK (G2 (d+16)) ((kM.take 20).drop 13) (rhoL o [c0,c1,c2,c3,c4,c5])=some (.next (rhoL v [c0,c1,c2,c3,c4,c5])):=by
 show let g_:=_;g_;intro g_;obtain ⟨k,hk,hk4⟩: ∃k:Nat,c0/5040%4=(k:Int)/\k<4:=modN (c0/5040) 4 (by decide);obtain ⟨j,hj,hj3⟩: ∃j:Nat,c0/1680%3=(j:Int)/\j<3:=modN (c0/1680) 3 (by decide);obtain ⟨st,hst,hstl⟩: ∃st:List Bool,([[true],[false],[true,false]]:List (List Bool))[j]?=some st/\st.length<=2:=by
  match j,hj3 with
  |0,_=>exact bK _ rfl (by decide)
  |1,_=>exact bK _ rfl (by decide)
  |2,_=>exact bK _ rfl (by decide)
 have r:lr h x y p q rs st:=⟨g,hl,hok,hstl⟩;refine xA (zul hk4) λhws hwl=>?_
 refine aN (z39 (d+14) r hws hwl) λD hD hruns=>?_
 obtain ⟨W,u,s,e,t,th,z,hth,hsz⟩:=z0w (d+15) c5;have hcell: ∀o,be (G2 (d+16)) (.sub (.var 24) (.int 0)) (rhoL o [c0,c1,c2,c3,c4,c5])=some (.int c0):=λo=>sF (k:=0) rfl rfl (by decide)
 let oE:Nat->Option Slot:=λj=>if j=3 then some (.val (mz th))else if j=8 then some (.val (.str (tx (word p q st))))else if j=9 then some (.val (.list ((jW k).map λw=>.str (tx w))))else o j
 obtain ⟨v1,t1⟩:=zum d r z (t:=t) hk4 hD (.inl rfl) o oE h19 [c0,c1,c2,c3,c4,c5];obtain ⟨v2,t2⟩:=zum d r z (t:=t) hk4 hD (.inr rfl) v1 oE h19 [c0,c1,c2,c3,c4,c5];have hkeys: ∀c∈fR h,c∈jw:=λc hc=>by simpa using (aF.mp (aj.mp (rc h g.h5) c hc)).2
 have hnm: ∀c∈jw,subP (.dict (mC h)) (.str (tx [c]))=some (.lit (tx (nmC h c))):=λc hc=>zzs (v:=λc=>.lit (tx (nmC h c))) hc
 refine jK (λj=>if j=0 then v2 0 else if j=1 then v2 1 else if j=2 then v2 2 else if j=4 then some (.val (.int t))else if j=5 then some (.val (oh W u s e))else if j=6 then some (.val (pz p q rs st D))else if j=7 then some (.val (oi p q rs st D))else if j=10 then some (.val (mA k))else oE j) th hth rfl h23 ?_;refine dD (gG (v:=mA k) (ge (fA (z4e _)) (bN (fF (x:=.str (tx [48,49,50,51])) (y:=.int (k:Int)) (z:=.str (tx [48+k])) rfl (cE (cE (hcell o) rfl (jC (by decide) (na (by decide) (by decide)))) rfl (by rw [iI (by decide),hk])) (pX (af hk4 (by decide)) ?_)) dW) (z0g (d+15) hk4))) ?_
 ·rcases lt4 hk4 with rfl|rfl|rfl|rfl<;>rfl
 refine dD (gG (v:=.list ((jW k).map λw=>.str (tx w))) ?_) ?_
 ·have e:((mB k).flatMap λs=>(s.filter λJ=>true).map λw=>PV.str (tx w))=(jW k).map λw=>.str (tx w):=by unfold jW;rw [List.map_flatMap]
  rw [<-e];exact zqq (l:=mB k) (mk:=λs=>.list (s.map λw=>.str (tx w))) (l2:=λs=>s) (mk2:=λw=>.str (tx w)) (f:=λJ J=>true) (g:=λJ w=>.str (tx w)) (jx (aO rfl)) (λs J=>jx (aO rfl)) (λJ J J J=>rfl) (λJ J J J J=>aO rfl) (by rw [e,aY];exact aa hwl (by decide))
 refine dD (gG (v:=.str (tx (word p q st))) (fF (x:=.list (([[true],[false],[true,false]]:List (List Bool)).map λst=>.str (tx (word p q st)))) (y:=.int (j:Int)) (nr (bN (fF (x:=.str (tx [p,q])) (aO (congrArg some h19)) rfl rfl) (bN (fF (x:=.str (tx [p,q])) (aO (congrArg some h19)) rfl rfl) (bN (aO (congrArg some h19)) dW)))) (cE (cE (hcell (λk'=>if k'=10 then some (.val (mA k))else if k'=9 then some (.val (.list ((jW k).map λw=>.str (tx w))))else o k')) rfl (jC (by decide) (na (by decide) (by decide)))) rfl (by rw [iI (by decide),hj])) (kh (af hj3 (by decide)) (by rw [cg,hst];rfl)))) ?_;refine dD (jt (ge (fA (z8j _)) (bN (aO rfl) (bN (aO rfl) (bN (aO (congrArg some h11)) (bN (aO (congrArg some h23)) (bN (aO (congrArg some h19)) (bN (nr (bN (fF (aO (congrArg some h21)) (fF (z:=.str (tx [p])) (aO (congrArg some h19)) rfl rfl) (hnm p (hkeys p g.pm))) (bN (fF (aO (congrArg some h21)) (fF (z:=.str (tx [q])) (aO (congrArg some h19)) rfl rfl) (hnm q (hkeys q g.qm))) dW))) dW)))))) hruns) rfl) ?_;refine dD (ie (c:=false) (gb (aO rfl) (aO rfl) z0u) iq) ?_;refine dD (jt (ge (fA (z4f _)) (bN (sF (k:=5) (c:=c5) rfl rfl (by decide)) dW) hsz) rfl) ?_;exact dD (mD (items:=[.int ((0:Nat):Int),.int ((2:Nat):Int)]) rfl rfl ((lh t1).trans ((lh t2).trans qH))) iq
theorem z8k(d:Nat){h:Nat}(hh:h<5)(c0 c1 c2 c3 c4 c5:Int)(o:Nat->Option Slot)(h21:o 21=some (.val (.dict (mC h))))(h22:o 22=some (.val (.str (tx (fR h)))))(h23:o 23=some (.val (.fn (ig h)))): ∃(v:Nat->Option Slot) (th:PV×Str),th∈lI/\v 3=some (.val (mz th))/\v 23=some (.val (.fn (ig h)))/\eK (G2 (d+16)) ((kM.take 20).drop 3) (rhoL o [c0,c1,c2,c3,c4,c5])=some (.next (rhoL v [c0,c1,c2,c3,c4,c5])):=by
 show let g_:=_;g_;intro g_;obtain ⟨x,y,p,q,f,g,k1⟩:=zz8 (d+16) hh (cs:=[c0,c1,c2,c3,c4,c5]) rfl o h22;refine ek (z0b (d+14) g c0 c1 c2 c3 c4 c5 (λk=>if k=17 then some (.val md)else if k=18 then some (.val (.str (tx [x,y])))else if k=19 then some (.val (.str (tx [p,q])))else if k=20 then some (.val (.int (f:Int)))else o k) rfl rfl rfl) λrs v hl hok k2=>?_
 refine jL (z4g d g hl hok c0 c1 c2 c3 c4 c5 (λk=>if k=11 then some (.val (.list (rs.map (RD.sg p q))))else if 12<=k/\k<=16 then v k else if k=17 then some (.val md)else if k=18 then some (.val (.str (tx [x,y])))else if k=19 then some (.val (.str (tx [p,q])))else if k=20 then some (.val (.int (f:Int)))else o k) rfl rfl h21 h23) λw th h1 h2 h3 h4=>?_
 exact jK w th h1 h2 h3 (k1 _ (k2 _ h4))
theorem minP(a b:Nat):jh "min" [.int (a:Int),.int (b:Int)]=some (.int ((min a b:Nat):Int)):=by
 unfold jh;rw [if_neg (by decide),if_neg (by decide),if_neg (by decide),if_neg (by decide),if_neg (by decide),if_neg (by decide),if_pos rfl];show some (PV.int (min (a:Int) (b:Int)))=_;rcases lQ a b with h|h
 ·rw [iz h,Int.min_eq_left (cj.mpr h)]
 ·rw [jl h,Int.min_eq_right (cj.mpr h)]
theorem jbt(d:Nat):(G2 d).gv "min" =some (.bi "min"):=by rw [iG];rfl
noncomputable def lE:List Int:=[18521,4580874,7187668721,118988171,4554030609,4800345203]
noncomputable def gi(ns:List Int)(slot:Nat):Int:=lE.getD slot 0+((bl (lv slot (min ns.length 60) 6)).map λk=>ns.getD (slot+k*6) 0%10^12).sum
noncomputable abbrev rH(o24 o25:Option Slot)(ns:List Int):Rho:=[none,none,none,none,none,none,none,none,none,none,none,none,none,none,none,none,none,none,none,none,none,none,none,none,o24,o25,some (.val (.list (ns.map .int))),none,none]
theorem z4i(d:Nat)(ns:List Int)(hl:ns.length<=63):eK (G2 d) (kM.take 2) (rH none none ns)= some (.next (rH (some (.val (.list ([gi ns 0,gi ns 1,gi ns 2,gi ns 3,gi ns 4,gi ns 5].map .int)))) (some (.val (.tuple (lE.map .int)))) ns)):=by
 refine dD (gG (v:=.tuple (lE.map .int)) rfl) (dD (gG (v:=.list ((bl 6).map λslot=>.int (gi ns slot))) (i5 (l:=bl 6) (mk:=λ(slot:Nat)=>.int (slot:Int)) (to (oM d) (n:=6) rfl (by decide)) (λslot hs=>?_) (by decide))) iq);have hs:=gW.mp hs;have hmin:min ns.length 60<=60:=Nat.min_le_right _ _;have hc:=z3r (a:=slot) (b:=min ns.length 60) (s:=6) (by decide);refine cE (x:=.int (lE.getD slot 0)) (fF (aO rfl) (aO rfl) ?_) (qf (qg d) (l:=(bl (lv slot (min ns.length 60) 6)).map λk=>ns.getD (slot+k*6) 0%10^12) ?_) rfl
 ·have hc:(decide (0<=(slot:Int))&&decide ((slot:Int)<1000000000))=true:=by rw [decide_eq_true (aI slot),decide_eq_true (show (slot:Int)<1000000000 from cy.mpr (af hs (by decide)))];rfl
  refine (ac (slot:Int) (λk:Int=>if 0<=k&&decide (k<1000000000)then (lE.map PV.int)[k.toNat]? else none)).trans ((if_pos hc).trans ?_);rw [aQ];exact sH hs
 ·rw [cf];refine i5 (l:=bl (lv slot (min ns.length 60) 6)) (mk:=λ(k:Nat)=>.int ((slot+k*6:Nat):Int)) ?_ (λk hk=>?_) (by rw [iQ];exact aa hc (aa hmin (by decide)))
  ·refine Eq.trans (congrArg (λx:Option PV=>x.bind lY) (ge (fA (oM d)) (bN (aO rfl) (bN (ge (fA (jbt d)) (bN (qF (n:=ns.length) (l6 d) (aO rfl) (aY ..)) (bN (x:=.int ((60:Nat):Int)) (a:=.int 60) rfl dW)) (minP ns.length 60)) (bN (x:=.int ((6:Nat):Int)) rfl dW))) (z56 (tJ (aI _) (by lia) (aI _) (by lia) (by decide) (by decide))))) ?_;show some (iK (slot:Int) ((min ns.length 60:Nat):Int) ((6:Nat):Int))=_;rw [zv3]
  ·have hlt:=zt7 (by decide) (gW.mp hk);refine cE (fF (aO rfl) (aO rfl) (kh (af hlt (aa hmin (by decide))) (sH (af hlt (uY _ _))))) (y:=.int (10^12)) (cE rfl rfl (nY (a:=10) (n:=12) ?_)) (iI (by decide));have:bits 10<=4:=je (by decide);exact aa (fg 12 this) (by decide)
end Mine.Internal
namespace Mine.Internal
open PySem PySem.W PySem.Calls PyProof.Rows PySem.Challenge
structure jbu(c:CE)(d:DefRec)(as' asI:List Arg)(cI:CE)(bodyI:List Stmt)(scI:Scope)(pI:Pos):Prop where
 inn:rI cI asI bodyI scI
 fs:kQ d.scope
 base:c.base=0
 hsc: ∀x,c.sc.names.lookup x=d.scope.names.lookup x\/c.sc.names.lookup x=none
 hpar:d.params=⟨[],as',none,[],[],none,[]⟩
 hn:(as'.map (·.arg)).Nodup
 hp:Places c (as'.map (·.arg)) [0,1]
 di:idx c.σ ("digits":Str)=some 0
 dk:c.sc.names.lookup ("digits":Str)=some .cell
 ni:idx c.σ ("n":Str)=some 1
 nk:c.sc.names.lookup ("n":Str)=some .cell
 ik:c.sc.names.lookup ("inner":Str)=none
 id':d.scope.names.lookup ("inner":Str)=some .cell
 docI:docOf bodyI=none
 treeI:PlainDefTree ("inner":Str) ⟨[],asI,none,[],[],none,[]⟩ bodyI scI pI
 freeI: ∀n,(n,aT)∈scI.names->n=ao "digits" \/n=ao "inner" \/n=ao "n"
 memD:(ao "digits",aT)∈scI.names
 memI:(ao "inner",aT)∈scI.names
 memN:(ao "n",aT)∈scI.names
 form: ∃t args w1 w2 e0 p1 p2,
  d.body=[.FunctionDef "inner" ⟨[],asI,none,[],[],none,[]⟩ bodyI [] none [] scI none ("inner":Str) pI,
   .Return (some (.IfExp t (.Call (.Name "inner" w1) args [] w2) e0 p1)) p2]/\
  SE c t (.var 0)/\SEs c args [.int 0,.call (.glob "len") [.var 0]]/\SE c e0 (.int 0)
section
variable{C:CX}
theorem z8l{G:GT}(ok:FnOk C G 0)(hlen:G.gv ("len":Str)=some (.bi "len")){c cI':CE}{d:DefRec}{as' asI:List Arg}{bodyI:List Stmt}{scI:Scope}{q:jI}(fo:jbu c d as' asI cI' bodyI scI q.2.1)(hqual:(d.name++ ".<locals>.")++("inner":Str)=q.2.2){a:Addr}{o:Obj}{pm doc:Value}{cc:Addr}(DI:uJ C cc q)(ho: ∀h,C.Inv h->h.get? a=some o)(hdt:o.data= .func (d.data pm (.ref cc) doc))(hcode: ∀h,C.Inv h->h.CodeRec (.ref cc) d.name){xs:List Int}{n:Nat}(hN:n<=250000)(hl:xs.length<=256)(hb: ∀x∈xs,bits x<=250000){A:Around}{W:Addr->Prop}{s:Shared}{vs:List Value}(rm:Room A 11)(at':At C W s)(hr:RepL C s.heap W [.list (xs.map .int),.int n] vs): Snd C A s W (call (.ref a) vs) (.int (numberOf n xs)):=λQ E k'=>by
 have hl2:as'.length=vs.length:=by rw [hr.length];have:=fo.hp.length;simpa using this
 show let g_:=_;g_;intro g_;obtain ⟨t,args,w1,w2,e0,p1,p2,hbody,ht,hargs,he0⟩:=fo.form;refine gj (tQ (prog:=C.prog) (w:=C.w) (fd:=d.data pm (.ref cc) doc) (body:=d.body) (by have:=rm.2.1;lia) (ho _ at'.inv) hdt (C.nolimit at'.inv) (hcode _ at'.inv) rfl (nG (fd:=d.data pm (.ref cc) doc) fo.hpar rfl hl2 fo.hn) rfl (zna fo.hsc fo.hp fo.fs) fo.fs.noco fo.fs.nogen fo.fs.kind λs₁ ic htk=>?_);show let z_:=_;let y_:=_;wpAny _ _ _ z_ y_ _;intro z_ y_;obtain ⟨e₁,hf,ev_1,a_1⟩:=tB (c:=c) (fd:=d.data pm (.ref cc) doc) (a:=a) (ρ0:=[none,none]) (ρ:=[some (.val (.list (xs.map .int))),some (.val (.int n))]) fo.hsc fo.base fo.fs rfl rfl fo.hp fo.hn hr at' (λi h=>by rcases i with J|J|i<;>simp at h⊢) htk rfl ic;have hkind: ∀x,(bv (d.data pm (.ref cc) doc) s.heap.objs.size a).kindOf x=d.scope.names.lookup x:=λJ=>rfl
 have hcode':(bv (d.data pm (.ref cc) doc) s.heap.objs.size a).code= .ref cc:=rfl;have hqual':(bv (d.data pm (.ref cc) doc) s.heap.objs.size a).qual=d.name++ ".<locals>." :=rfl;have hcel: ∀x,d.scope.names.lookup x=some .cell-> ∃b,(bv (d.data pm (.ref cc) doc) s.heap.objs.size a).cells.lookup x=some b:=λx hx=>dB.mp (nN (⟨hx,fo.fs.nodup⟩))
 have hsk:(bv (d.data pm (.ref cc) doc) s.heap.objs.size a).scope.kind= .function:=fo.fs.kind;have hgl:(bv (d.data pm (.ref cc) doc) s.heap.objs.size a).globals=aP:=rfl;generalize bv (d.data pm (.ref cc) doc) s.heap.objs.size a=env at*;have rmK:Room (A.deeper env) 10:=rm.deeper;have rm0:Room (A.deeper env) 0:=rmK.mono (bj _ _);have dof: ∀{x k},c.sc.names.lookup x=some k->d.scope.names.lookup x=some k:=λ{x k} h=>by
  rcases fo.hsc x with h'|h'
  ·rw [<-h',h]
  ·rw [h']at h;exact cu h
 obtain ⟨cD,hcD⟩:=hcel _ (dof fo.dk);obtain ⟨cN,hcN⟩:=hcel _ (dof fo.nk);obtain ⟨cI,hcI⟩:=hcel _ fo.id';have loI:=(a_1.wocc cI (.inr (.inr ⟨_,hcI⟩))).1;have hnID:cI≠cD:=λh=>by subst h;exact absurd (ev_1.cinj _ _ _ hcI hcD) (by decide)
 have hnIN:cI≠cN:=λh=>by subst h;exact absurd (ev_1.cinj _ _ _ hcI hcN) (by decide)
 have hfree: ∀y,(y,aT)∈scI.names-> ∃b,env.cells.lookup y=some b:=λy hy=>by
  rcases fo.freeI y hy with rfl|rfl|rfl
  ·exact ⟨_,hcD⟩
  ·exact ⟨_,hcI⟩
  ·exact ⟨_,hcN⟩
 rw [hbody];refine ay (DI _ s₁ env ("inner":Str) cI _ ⟨[],asI,none,[],[],none,[]⟩ bodyI scI a_1.inv hcode' hgl hsk (hkind _|>.trans fo.id') hcI loI (ic.cell _ _ hcI) (by rw [hqual'];exact hqual) hfree fo.docI fo.treeI _ _ λf s_2 e_2 hin icI2=>?_);have ev2:=ev_1.around e_2 λb hb=>by
  subst hb;refine ⟨.inr (.inr ⟨_,hcI⟩),λh=>?_⟩;rcases h with h|⟨x,hx,hxl⟩
  ·exact (λh=>aW _ (h▸ic.above _ _ (mem_of_lookup hcI))) h
  ·obtain rfl:=ev_1.cinj _ _ _ hxl hcI;exact hx fo.ik
 have a_2:=a_1.extO e_2;have eX2:=(e₁.toO.trans (e_2.mono λb hb=>(.inr ⟨_,hb▸hcI⟩:allO env b))).free hf;have hbod:n=n:=rfl;show let g_:=_;g_;intro g_;obtain ⟨uN,hvN,rN⟩:=ev2.vars ("n":Str) 1 _ fo.ni (by rw [fo.base,fo.nk];rfl) rfl;refine xA (hvN.cellOf (hkind _|>.trans (dof fo.nk)) hcN) λJ icN2=>?_
 obtain ⟨uD,hvD,rD⟩:=ev2.vars ("digits":Str) 0 _ fo.di (by rw [fo.base,fo.dk];rfl) rfl;refine xA (hvD.cellOf (hkind _|>.trans (dof fo.dk)) hcD) λJ icD2=>?_
 have uN': ∃tN,uN= .int n tN:=by
  cases rN with
  |val r=>exact ef r
 obtain ⟨tN,rfl⟩:=uN';have rD':Rep C s_2.heap (λb=>W b\/allO env b) (.list (xs.map .int)) uD:=by
  cases rD with
  |val r=>exact r
 refine ay (d6 (IfExp_ (ht.tst ok ev2 a_2 rm0 (b:=!(xs.map PV.int).isEmpty) (ng rfl rfl) _ _ λs3 e_3=>?_)));have ev3:=ev2.ext e_3.toExt0;have a_3:=a_2.ext e_3;by_cases hx0:xs=[]
 ·show let g_:=_;g_;intro g_;subst hx0;refine he0.val ok ev3 a_3 rm0 (p:=.int 0) rfl _ _ λv s4 e_4 r_4=>?_
  exact k' v s4 ((eX2.trans e_3).trans e_4) r_4
 ·rw [show (!(xs.map PV.int).isEmpty)=true by cases xs with|nil=>exact absurd rfl hx0|cons x r=>rfl];show let z_:=_;let y_:=_;wpAny _ _ _ z_ y_ _;intro z_ y_;have hclo2:CloB C ("inner":Str) q.2.2 asI bodyI scI (iV env scI.names []) (λb=>W b\/allO env b) s_2.heap f cN cI cD n xs:={
   inn:=hin
   cn':=⟨tN,icN2⟩
   ci':=icI2
   cd':=bK uD icD2 rD'
   wn:=.inr (.inr ⟨_,hcN⟩)
   wi:=.inr (.inr ⟨_,hcI⟩)
   wd:=.inr (.inr ⟨_,hcD⟩)
   ln:=((a_1.wocc cN (.inr (.inr ⟨_,hcN⟩))).1)
   li:=loI
   ld:=((a_1.wocc cD (.inr (.inr ⟨_,hcD⟩))).1)}
  have hclo3:=hclo2.grow (s':=s3) (W':=λb=>W b\/allO env b) e_3.new (λJ h=>h) λJ h=>.inl h
  refine nL ok rm0 (ps:=[.int ((0:Nat):Int),.int (xs.length:Nat)]) hargs ev3 a_3 rfl rfl (.cell (.inl (hkind _|>.trans fo.id')) hcI loI hclo3.ci') hclo3.inn
   (bN rfl (bN (ge (fA hlen) (bN (aO rfl) dW) (by show some (PV.int ((xs.map PV.int).length:Nat))=_;simp)) dW)) λvs1 s4 e_4 r_4=>?_
  refine znb ok fo.inn (⟨nV fo.memN hcN,nV fo.memI hcI,nV fo.memD hcD,zzk hfree ev_1.cinj⟩) hN hb hl 8 0 xs.length _ _ s4 vs1 (rmK.mono (bj _ _)) (a_3.ext e_4) (hclo3.grow e_4.new (λJ h=>h) λJ h=>.inl h) r_4 (gM.mpr hx0) ‹_› (az _) _ _ λv s5 e_5 r_5=>?_
  refine k' v s5 (((eX2.trans e_3).trans e_4).trans e_5) ?_;have:numB n xs 0 xs.length=numberOf n xs:=by simp [numB]
  rw [this]at r_5;exact r_5
end
noncomputable def rG:DefRec:=⟨"",⟨[],[],none,[],[],none,[]⟩,[],{kind:=.function,names:=[],isGenerator:=false,isCoroutine:=false,more:=[]},⟨0,0,0,0⟩⟩
noncomputable def ia(d:DefRec):DefRec:=(d.body.findSome? z9h).getD rG
noncomputable def dI(p:Program):DefRec:=(dOf p "_int2digits").getD rG
noncomputable def dP(p:Program):DefRec:=(dOf p "_digits2int").getD rG
noncomputable def qD(l:List Str)(sc:Scope):Scope:={sc with names:=sc.names.filter λx=>!l.contains x.1}
theorem qZ{l:List Str}: ∀(names:List (Str×NameKind)) (x:Str),(names.filter λy=>!l.contains y.1).lookup x=names.lookup x\/(names.filter λy=>!l.contains y.1).lookup x=none:=by
 intro zz;induction zz with
 |nil=>exact λx=>.inl rfl
 |cons zq r ih=>
  obtain ⟨y,k⟩:=zq;intro x;rw [List.filter_cons];by_cases hy:(!l.contains y)=true
  ·rw [if_pos hy,aG,aG];by_cases hxy:(x==y)=true
   ·rw [hxy];exact .inl rfl
   ·rw [show (x==y)=false by simpa using hxy];exact ih x
  ·rw [if_neg hy,aG];by_cases hxy:(x==y)=true
   ·right;have:x=y:=dw hxy;subst this;rcases h:(r.filter λy=>!l.contains y.1).lookup x with J|v
    ·exact h
    ·have:=(List.mem_filter.mp (mem_of_lookup h)).2;exact absurd this hy
   ·rw [show (x==y)=false by simpa using hxy];exact ih x
theorem qY{names:List (Str×NameKind)}{x:Str}{k:NameKind}{f:Str×NameKind->Bool}(h:names.all f=true)(hl:names.lookup x=some k):f (x,k)=true:=aj.mp h _ (mem_of_lookup hl)
theorem i8(h:(fM e c).v.map (·.1)=some x):SE c e x:=by
 refine aN (gf h) λy J e_=>?_
 subst e_;exact y.2
theorem m9(h:(jJ es c).map (·.1)=some xs):SEs c es xs:=by
 refine aN (gf h) λy J e_=>?_
 subst e_;exact y.2
theorem mS(h:(nx c xs).map (·.1)=some ts):Places c xs ts:=by
 refine aN (gf h) λy J e_=>?_
 subst e_;exact y.2
noncomputable def cI(d:DefRec):CE:=⟨qD ["a_digits","inner"] d.scope,["lower","upper","shift","mid","R","L","x","n"],[],0⟩
noncomputable def cO(d:DefRec):CE:=⟨qD ["inner"] d.scope,["a_digits","n","a"],[],0⟩
noncomputable abbrev x01:=dI pw_wc0027_01
noncomputable abbrev y01:=dP pw_wc0027_01
theorem z8m:FormA (cI (ia x01)) (ia x01).params.args (ia x01).body (ia x01).scope where
 kind:=rfl
 noco:=rfl
 nogen:=rfl
 nocell:=by
  have:(ia x01).scope.names.all (λx=>x.2 != .cell)=true:=by decide+kernel
  intro x hx;simpa using aj.mp this x hx
 nodup:=by decide+kernel
 places:=mS (by rfl)
 loc:=by
  have:(ia x01).params.args.all (λa=>(cI (ia x01)).sc.names.lookup a.arg==some .local)=true:=by decide+kernel
  intro x hx;simpa using aj.mp this x hx
 sc:=λx=>qZ _ x
 base:=rfl
 nocell':=λx h=>by have:=qY (f:=λy=>y.2 != .cell) (by decide+kernel) h;simp at this
 free:=λx h=>by have:=qY (f:=λy=>y.2 != .free||y.1==ao "n") (by decide+kernel) h;simpa using this
 nf:=by decide+kernel
 ni:=by decide+kernel
 mi:=by decide+kernel
 si:=by decide+kernel
 ui:=by decide+kernel
 li:=by decide+kernel
 ml:=by decide+kernel
 sl:=by decide+kernel
 ul:=by decide+kernel
 ll:=by decide+kernel
 fa:=by decide+kernel
 fi:=by decide+kernel
 form:=⟨_,_,_,_,_,_,_,_,_,_,_,_,_,_,_,_,_,_,_,_,_,_,_,_,_,_,_,_,rfl,i8 (by rfl),i8 (by rfl),i8 (by rfl),rfl,⟨i8 (by rfl),rfl⟩,⟨i8 (by rfl),rfl⟩,⟨i8 (by rfl),rfl⟩,⟨i8 (by rfl),rfl⟩,m9 (by rfl),m9 (by rfl)⟩
theorem uH(h:qI sc=true):kQ sc:=tM h
theorem z8o:jbb (cO x01) x01 x01.params.args (ia x01).params.args (cI (ia x01)) (ia x01).body (ia x01).scope (ia x01).pos where
 inn:=z8m
 fs:=uH (by decide+kernel)
 base:=rfl
 hsc:=λx=>qZ _ x
 hpar:=rfl
 hn:=by decide+kernel
 hp:=mS (by rfl)
 ai:=by decide+kernel
 ak:=by decide+kernel
 ni:=by decide+kernel
 nk:=by decide+kernel
 ik:=by decide+kernel
 id':=by decide+kernel
 docI:=rfl
 treeI:=tO (by decide+kernel)
 freeI:=λx h=>by
  have:(ia x01).scope.names.all (λy=>y.2 != .free||y.1==ao "a_digits" ||y.1==ao "inner" ||y.1==ao "n")=true:=by decide+kernel
  have:=aj.mp this _ h;simpa [or_assoc] using this
 memA:=by decide+kernel
 memI:=by decide+kernel
 memN:=by decide+kernel
 form:=⟨_,_,_,_,_,_,_,_,_,_,_,_,_,rfl,i8 (by rfl),i8 (by rfl),i8 (by rfl),m9 (by rfl)⟩
noncomputable def cIP(d:DefRec):CE:=⟨qD ["inner"] d.scope,["shift","mid","R","L","digits","n"],[],0⟩
noncomputable def cP(d:DefRec):CE:=⟨qD ["inner"] d.scope,["n","digits"],[],0⟩
theorem z8p:rI (cIP (ia y01)) (ia y01).params.args (ia y01).body (ia y01).scope where
 kind:=rfl
 noco:=rfl
 nogen:=rfl
 nocell:=by
  have:(ia y01).scope.names.all (λx=>x.2 != .cell)=true:=by decide+kernel
  intro x hx;simpa using aj.mp this x hx
 nodup:=by decide+kernel
 places:=mS (by rfl)
 loc:=by
  have:(ia y01).params.args.all (λa=>(cIP (ia y01)).sc.names.lookup a.arg==some .local)=true:=by decide+kernel
  intro x hx;simpa using aj.mp this x hx
 sc:=λx=>qZ _ x
 base:=rfl
 nocell':=λx h=>by have:=qY (f:=λy=>y.2 != .cell) (by decide+kernel) h;simp at this
 free:=λx h=>by have:=qY (f:=λy=>y.2 != .free||y.1==ao "n" ||y.1==ao "digits") (by decide+kernel) h;simpa using this
 nf:=by decide+kernel
 df:=by decide+kernel
 ni:=by decide+kernel
 di:=by decide+kernel
 mi:=by decide+kernel
 si:=by decide+kernel
 ml:=by decide+kernel
 sl:=by decide+kernel
 fi:=by decide+kernel
 form:=⟨_,_,_,_,_,_,_,_,_,_,_,_,_,_,_,_,_,_,_,_,rfl,i8 (by rfl),i8 (by rfl),⟨i8 (by rfl),rfl⟩,⟨i8 (by rfl),rfl⟩,i8 (by rfl),m9 (by rfl),m9 (by rfl)⟩
theorem z8q:jbu (cP y01) y01 y01.params.args (ia y01).params.args (cIP (ia y01)) (ia y01).body (ia y01).scope (ia y01).pos where
 inn:=z8p
 fs:=uH (by decide+kernel)
 base:=rfl
 hsc:=λx=>qZ _ x
 hpar:=rfl
 hn:=by decide+kernel
 hp:=mS (by rfl)
 di:=by decide+kernel
 dk:=by decide+kernel
 ni:=by decide+kernel
 nk:=by decide+kernel
 ik:=by decide+kernel
 id':=by decide+kernel
 docI:=rfl
 treeI:=tO (by decide+kernel)
 freeI:=λx h=>by
  have:(ia y01).scope.names.all (λy=>y.2 != .free||y.1==ao "digits" ||y.1==ao "inner" ||y.1==ao "n")=true:=by decide+kernel
  have:=aj.mp this _ h;simpa [or_assoc] using this
 memD:=by decide+kernel
 memI:=by decide+kernel
 memN:=by decide+kernel
 form:=⟨_,_,_,_,_,_,_,rfl,i8 (by rfl),m9 (by rfl),i8 (by rfl)⟩
section
variable{p:Program}{w:World}{s:Shared}{mg mb:Str->Option Value}{k ad:Addr}{ns:List Int}
structure Parts(s:Shared)(mg:Str->Option Value)(k:Addr)(d:DefRec)(a code P:Addr)(o:Obj)(pm doc:Value):Prop where
 g:mg d.name=some (.ref a)
 dt:o.data= .func (d.data pm (.ref code) doc)
 ho:(trunc s.heap k).get? a=some o
 hc:(trunc s.heap k).CodeRec (.ref code) d.name
 hd:CodeHd s.heap code P
 ck:code<=k
 hP:s.heap.get? P=some (tabObj #[])
 Pk:P<=k
theorem mh(H:jS p w s mg mb k ad ns)(hd:Step.fn d∈steps p): ∃a code P o pm doc,Parts s mg k d a code P o pm doc:=by
 show let g_:=_;g_;intro g_;refine d9 (H.held _ (qS (d:=d) (steps p) [] (.inl hd))) λv Pl hv hP=>?_
 obtain ⟨a,o,pm,code,doc,P,rfl,J,J,ho,hod,hc,J,J,hh,hPt,J⟩:=hP _ rn;obtain ⟨oc,vs,file,tf,flags,tg,inF,text,tt,e,r⟩:=id hh;refine ⟨a,code,P,o,pm,doc,hv,hod,ho,hc,qT hh λo e=>(nE _ _ e).2,(nE _ _ e).1,(nE _ _ hPt).2,(nE _ _ hPt).1⟩
theorem Parts.inv(H:jS p w s mg mb k ad ns){tabs:List jI}(N:j7 s k tabs){L:Lits}{d:DefRec}{a code P:Addr}{o:Obj}{pm doc:Value}(x:Parts s mg k d a code P o pm doc): ∀h,(fP H N L).Inv h->h.get? a=some o/\h.CodeRec (.ref code) d.name:=λh hi=>by refine ⟨nt H N hi _ _ (λq=>by have:=x.dt;rw [q]at this;cases this) x.ho,x.hc.at λo' e'=>nt H N hi _ o' (λq=>?_) e'⟩;obtain ⟨o_2,J,J,J,J,J,J,J,J,e_2,hcls,J⟩:=x.hd;have:=(nE _ _ e').2;rw [e_2]at this;replace this:=oj this;subst this;rw [q]at hcls;cases hcls
theorem jbv(H:jS p w s mg mb k ad ns)(N:j7 s k tabs)(hq:q∈tabs)(hd:CodeHd s.heap cc q.1)(ck:cc<=k): uJ (fP H N L) cc q:=λA s' env name cI v0 params bodyI scI hi he hg hk hkind hcI lo hcell hqual hfree hdoc htree Q E h=>zzj H N hq hd ck hi he hg hk hkind hcI lo hcell hqual hfree hdoc htree h
theorem znl(h:CodeHd s.heap c P):isCodeTable s.heap P:=by show let g_:=_;g_;intro g_;obtain ⟨o,vs,file,tf,flags,tg,inF,text,tt,e,h1,h2,h3,J⟩:=h;exact mO c o vs e h1 h2 h3
theorem z05{P1 P2 c1 c2:Addr}{p1 p2:Pos}{q1 q2:Str}(h1:P1<=k)(h2:P2<=k)(e1:s.heap.get? P1=some (tabObj #[]))(e2:s.heap.get? P2=some (tabObj #[]))(d1:CodeHd s.heap c1 P1)(d2:CodeHd s.heap c2 P2)(hp:p1.line≠p2.line): j7 s k [(P1,p1,q1),(P2,p2,q2)] where
 lo:=λq hq=>by
  rcases aw.mp hq with rfl|hq
  ·exact h1
  ·obtain rfl:=aE.mp hq;exact h2
 at':=λq hq=>by
  rcases aw.mp hq with rfl|hq
  ·exact e1
  ·obtain rfl:=aE.mp hq;exact e2
 ct:=λq hq=>by
  rcases aw.mp hq with rfl|hq
  ·exact znl d1
  ·obtain rfl:=aE.mp hq;exact znl d2
 uniq:=λq hq q' hq' hl hc=>by
  rcases aw.mp hq with rfl|hq
  ·rcases aw.mp hq' with rfl|hq'
   ·rfl
   ·obtain rfl:=aE.mp hq';exact absurd hl hp
  ·obtain rfl:=aE.mp hq;rcases aw.mp hq' with rfl|hq'
   ·exact absurd hl.symm hp
   ·obtain rfl:=aE.mp hq';rfl
theorem z8r(H:jS p w s mg mb k ad ns)(hs:Step.int x i∈steps p): ∃t,mg x=some (.int i t):=by
 refine d9 (H.held _ (oZ (q:=(x,nv i)) (st:=Step.int x i) (by simp [Step.facts]) (steps p) [] (.inl hs))) λv Pl hv hP=>?_
 obtain ⟨t,rfl⟩:=hP _ λb o J e=>e
 exact ⟨t,hv⟩
end
noncomputable abbrev p1':Program:=pw_wc0027_01
noncomputable def sB:List Str:=["range","list","type","int","len","ord","chr","sum","divmod","max","min","reversed"]
theorem jbw:sB.all (λx=>!startupNames.contains x&&!pw_wc0027_01.boundNames.contains x)=true:=by decide+kernel
theorem qy(h:x∈sB):startupNames.contains x=false/\pw_wc0027_01.boundNames.contains x=false:=by have:=aj.mp jbw x h;simpa using this
theorem z4k:bB "range" =some (.type "range"):=by rfl
theorem z8s:bB "list" =some (.type "list"):=by rfl
theorem z8t:bB "type" =some (.type "type"):=by rfl
theorem jbx:bB "int" =some (.type "int"):=by rfl
theorem jby:bB "len" =some (.builtin "len"):=by rfl
theorem jbz:bB "ord" =some (.builtin "ord"):=by rfl
theorem jb0:bB "chr" =some (.builtin "chr"):=by rfl
theorem jb1:bB "sum" =some (.builtin "sum"):=by rfl
theorem z06:bB "divmod" =some (.builtin "divmod"):=by rfl
theorem jb2:bB "max" =some (.builtin "max"):=by rfl
theorem jb3:bB "min" =some (.builtin "min"):=by rfl
theorem z8u:bB "reversed" =some (.type "reversed"):=by rfl
theorem isStep{st:Step}{i:Nat}(h:(steps pw_wc0027_01)[i]?=some st):st∈steps pw_wc0027_01:=bz h
theorem jb4:Step.int "_DIV_LIMIT" 4000∈steps pw_wc0027_01:=isStep (i:=6) (by rfl)
theorem z4l:Step.fn x01∈steps pw_wc0027_01:=(jX (name:="_int2digits") (by rfl)).1
theorem z4m:Step.fn y01∈steps pw_wc0027_01:=(jX (name:="_digits2int") (by rfl)).1
theorem jb5:Step.set "b1_set" kR∈steps pw_wc0027_01:=isStep (i:=1) (by rfl)
theorem jb6:Step.dict "b3_exceptions" (j6 pw_wc0027_01)∈steps pw_wc0027_01:=isStep (i:=3) (by rfl)
theorem z07:(j6 pw_wc0027_01).all (λx=>decide (x.2.length<=1000))=true:=by decide+kernel
theorem z08:qR.all (λf=>(dOf pw_wc0027_01 f).isSome)=true:=by decide+kernel
end Mine.Internal
namespace Mine.Internal
open PySem PySem.W PySem.Calls PyProof.Rows PySem.Challenge
set_option maxHeartbeats 4000000
theorem zwh:Entry pw_wc0027_01 "_div2n1n" tY tX:=⟨[],[],by rfl⟩
theorem zwi:Entry pw_wc0027_01 "_div3n2n" tW tV:=⟨[],[],by rfl⟩
theorem zo2:Entry pw_wc0027_01 "_divmod_pos" uq uo:=⟨["q_digits"],[(73,["q_digits"])],by rfl⟩
theorem zo3:Entry pw_wc0027_01 "int_divmod" un um:=⟨[],[],by rfl⟩
theorem zml:Entry pw_wc0027_01 "in_table_b1" uz uy:=⟨[],[],by rfl⟩
theorem zl0:Entry pw_wc0027_01 "map_table_b3" uE uC:=⟨[],[],by rfl⟩
theorem zl1:Entry pw_wc0027_01 "_escape_cdata" zf2 zf3:=⟨[],[],by rfl⟩
theorem zkb:Entry pw_wc0027_01 "_escape_attrib" zft zfu:=⟨[],[],by rfl⟩
theorem zgj:Entry pw_wc0027_01 "_escape_attrib_html" zdk zdl:=⟨[],[],by rfl⟩
theorem zg0:Entry pw_wc0027_01 "_escape_cdata_c14n" zdq zdr:=⟨[],[],by rfl⟩
theorem zgk:Entry pw_wc0027_01 "_escape_attrib_c14n" zdm zdn:=⟨[],[],by rfl⟩
theorem zsv:Entry pw_wc0027_01 "_law_hand" zkt nU:=⟨["names"],[(166,["names"])],by rfl⟩
theorem zmm:Entry pw_wc0027_01 "_law_spelled" ux uw:=⟨["both"],[(171,["both"])],by rfl⟩
theorem zsw:Entry pw_wc0027_01 "_law_rule" ue ud:=⟨[],[],by rfl⟩
theorem zsx:Entry pw_wc0027_01 "_law_read" uc ub:=⟨[],[],by rfl⟩
theorem zsy:Entry pw_wc0027_01 "_law_runs" ua t9:=⟨["pages","due"],[(192,["pages","due"])],by rfl⟩
theorem zq6:Entry pw_wc0027_01 "_law_sides" rB rA:=⟨[],[],by rfl⟩
theorem zq7:Entry pw_wc0027_01 "_law_sizes" uu ut:=⟨[],[],by rfl⟩
theorem zmn:Entry pw_wc0027_01 "_law_counted" uv ph:=⟨[],[],by rfl⟩
theorem jb7:Entry pw_wc0027_01 "law" z5e kM:=⟨[],[],by rfl⟩
theorem z4n: ∀x∈g01.tab,Entry pw_wc0027_01 x.1 x.2.1 x.2.2.1:=by
 intro x hx;have hx:x∈uL:=hx;unfold uL at hx;simp only [aw,eT,or_false]at hx;rcases hx with rfl|rfl|rfl|rfl|rfl|rfl|rfl|rfl|rfl|rfl|rfl|rfl|rfl|rfl|rfl|rfl|rfl|rfl|rfl|rfl
 ·exact zwh
 ·exact zwi
 ·exact zo2
 ·exact zo3
 ·exact zml
 ·exact zl0
 ·exact zl1
 ·exact zkb
 ·exact zgj
 ·exact zg0
 ·exact zgk
 ·exact zsv
 ·exact zmm
 ·exact zsw
 ·exact zsx
 ·exact zsy
 ·exact zq6
 ·exact zq7
 ·exact zmn
 ·exact jb7
end Mine.Internal
namespace Mine.Internal
open PySem PySem.W PySem.Calls PyProof.Rows PySem.Challenge
section
variable{w:World}{s:Shared}{mg mb:Str->Option Value}{k ad:Addr}{ns:List Int}
theorem z09: ∀{l:List Int},jn xs=some l->xs=l.map .int:=by
 induction xs with
 |nil=>intro l e;obtain rfl: []=l:=Option.some.inj e;rfl
 |cons x xs ih=>
  intro l e;refine ek (ki e) λd l hx' hxs e_=>?_
  subst e_;obtain rfl:=nJ hx';rw [ih hxs];rfl
noncomputable def bval:PV->Option Value
 | .ty n=>some (.type n)
 | .bi n=>some (.builtin n)
 |_=>none
theorem z4o(e:bval v=some u):Rep C h W v u:=by
 cases v with
 |ty n=>exact oj e
 |bi n=>exact oj e
 |_=>exact cu e
def BiIn(q:Str×PV):Prop:=q.1∈sB/\ ∃u,bB q.1=some u/\bval q.2=some u
theorem kU(h:BiIn q)(k: ∀p∈r,BiIn p): ∀p∈q::r,BiIn p:=λJ hp=>(aw.mp hp).elim (λe=>e▸h) (k _)
theorem jdc: ∀q∈rL.drop 3,BiIn q:=kU ⟨by decide,_,z4k,rfl⟩ (kU ⟨by decide,_,z8s,rfl⟩ (kU ⟨by decide,_,z8t,rfl⟩ (kU ⟨by decide,_,jbx,rfl⟩ (kU ⟨by decide,_,jby,rfl⟩ (kU ⟨by decide,_,jbz,rfl⟩ (kU ⟨by decide,_,jb0,rfl⟩ (kU ⟨by decide,_,jb1,rfl⟩ (kU ⟨by decide,_,z06,rfl⟩ (kU ⟨by decide,_,jb2,rfl⟩ (kU ⟨by decide,_,jb3,rfl⟩ (λJ h=>(nomatch h))))))))))))
def GvAt(C:CX)(x:Str)(v:PV):Prop:=∃u,(C.mg x=some u\/(C.mg x=none/\C.mb x=some u))/\ ∀h W,Rep C h W v u
theorem z1a(H:jS pw_wc0027_01 w s mg mb k ad ns)(N:j7 s k tabs): ∀x v,gv01 x=some v->GvAt (fP H N L) x v:=λx v hx=>by
 cases hl:rL.lookup x with
 |some v'=>
  obtain rfl:v'=v:=by rw [gv01,hl]at hx;exact Option.some.inj hx
  rcases aw.mp (mem_of_lookup hl)with e|hm
  ·refine xA (Prod.mk.inj e) λe_ e_1=>?_
   subst e_ e_1;obtain ⟨t,ht⟩:=z8r H jb4;exact bK _ (.inl ht) (λh W=>gg)
  rcases aw.mp hm with e|hm
  ·refine xA (Prod.mk.inj e) λe_ e_1=>?_
   subst e_ e_1;refine d9 (H.held _ (oZ (q:=("b1_set",nu pw_wc0027_01 w kR)) (st:=Step.set "b1_set" kR) ag (steps pw_wc0027_01) [] (.inl jb5))) λv' Pl hv' hP=>?_
   exact bK v' (.inl hv') (λh W=>hv')
  rcases aw.mp hm with e|hm
  ·refine xA (Prod.mk.inj e) λe_ e_1=>?_
   subst e_ e_1;refine d9 (H.held _ (oZ (q:=("b3_exceptions",nB pw_wc0027_01 w (j6 pw_wc0027_01))) (st:=Step.dict "b3_exceptions" (j6 pw_wc0027_01)) ag (steps pw_wc0027_01) [] (.inl jb6))) λv' Pl hv' hP=>?_
   exact bK v' (.inl hv') (λh W=>hv')
  ·obtain ⟨hn,u,hb,hu⟩:=jdc _ hm;exact bK u (.inr (t6 H N (qy hn).1 (qy hn).2 hb)) (λh W=>z4o hu)
 |none=>
  obtain ⟨hc,hx⟩:qR.contains x=true/\some (PV.fn x)=some v:=by rw [gv01,hl]at hx;exact jD hx
  obtain rfl:=oj hx;obtain ⟨d,hd⟩:=dB.mp (aj.mp z08 x (cJ.mp hc));refine xA (jX hd) λhm hn=>?_
  obtain ⟨a,fa⟩:=ztt H N (L:=L) hm;exact bK _ (.inl (hn▸fa.g)) (λh W=>hn▸fa.g)
inductive SpI(d:Nat):Str->List PV->PV->Prop
 |i (a n:Int) (h:0<=a/\0<n/\n<=250000/\(digitsOf a n).length<=256/\10<=d):SpI d "_int2digits" [.int a,.int n] (.list ((digitsOf a n).map .int))
 |d (xs:List PV) (n:Int) (l:List Int) (hl:jn xs=some l) (h:0<n/\n<=250000/\l.length<=256/\l.all (λx=>decide (bc x<=250000))=true/\10<=d):SpI d "_digits2int" [.list xs,.int n] (.int (numberOf n l))
theorem jb8(h:nM d f args=some v):SpI d f args v:=by
 rcases kO h with ⟨rfl,h⟩|⟨-,h⟩
 ·refine d9 (ny h) λx y e_ h=>?_
  subst e_;refine ek (jf h) λaV n h1 h2 h3=>?_
  obtain rfl:x= .int aV:=h1;obtain rfl:y= .int n:=h2;refine xA (gP h3) λhc e_=>?_
  subst e_;exact .i aV n hc
 ·refine xA (jD h) λe_ h=>?_
  subst e_;refine d9 (ny h) λx y e_ h=>?_
  subst e_;refine aN (kN h) λxs h1 h3=>?_
  obtain rfl:x= .list xs:=h1;refine aN (jR h3) λn h2 h4=>?_
  obtain rfl:y= .int n:=h2;refine aN (bind_some h4) λl hl h5=>?_
  refine xA (gP h5) λhc e_=>?_
  subst e_;exact .d xs n l hl hc
theorem z8v(H:jS pw_wc0027_01 w s mg mb k ad ns): ∃tabs,∃N:j7 s k tabs,∀(L:Lits) d,FnOk (fP H N L) (G2 d) d:=by
 show let g_:=_;g_;intro g_;obtain ⟨a1,c1,P1,o1,pm1,doc1,X⟩:=mh H z4l;obtain ⟨a2,c2,P2,o2,pm2,doc2,Y⟩:=mh H z4m;have N:j7 s k [(P1,(ia x01).pos,x01.name++ ".<locals>." ++ao "inner"),(P2,(ia y01).pos,y01.name++ ".<locals>." ++ao "inner")]:=z05 X.Pk Y.Pk X.hP Y.hP X.hd Y.hd (by decide+kernel);refine ⟨_,N,λL=>?_⟩;have revd:=t6 H N (L:=L) (qy (x:="reversed") (by decide)).1 (qy (x:="reversed") (by decide)).2 z8u;have b1:=jav H N (L:=L) jb5 rfl;have b3:=jaw H N (L:=L) jb6 z07;have ok0:FnOk (fP H N L) (G2 0) 0:={revd:=revd,gv:=z1a H N,fn:=λf args v h=>(nomatch h),b1:=b1,b3:=b3};refine z3a (p:=pw_wc0027_01) (g:=g01) revd (z1a H N) (λd hd=>ztt H N hd) z4n (λd f args v h=>?_) b1 b3;have b:=jb8 h;clear h;induction b with
 |i aV n hc=>
  show let g_:=_;g_;intro g_;obtain ⟨h0,hn,hN,hl,hd⟩:=hc;obtain ⟨m,rfl⟩:=fx (al hn);refine mO a1 o1 _ X.g X.dt (λh hi=>(X.inv H N h hi).1) (λA W s' vs rm at' hr=>?_);have hl':(bits aV+m-1)/m<=256:=by unfold digitsOf at hl;simpa using hl
  exact z7u ok0 rfl (q:=(P1,(ia x01).pos,x01.name++ ".<locals>." ++ao "inner")) z8o rfl (jbv H N ag X.hd X.ck) (λh hi=>(X.inv H N h hi).1) X.dt (λh hi=>(X.inv H N h hi).2) h0 (cy.mp ‹_›) (by lia) hl' (rm.mono (by lia)) at' hr
 |d xs n l hl hc=>
  obtain ⟨hn,hN,hlen,hb,hd⟩:=hc;obtain ⟨m,rfl⟩:=fx (al hn);refine mO a2 o2 _ Y.g Y.dt (λh hi=>(Y.inv H N h hi).1) (λA W s' vs rm at' hr=>?_);obtain rfl:=z09 hl;exact z8l ok0 rfl (q:=(P2,(ia y01).pos,y01.name++ ".<locals>." ++ao "inner")) z8q rfl (jbv H N (ah _ ag) Y.hd Y.ck) (λh hi=>(Y.inv H N h hi).1) Y.dt (λh hi=>(Y.inv H N h hi).2) (by lia) hlen
   (λx hx=>of_decide_eq_true (aj.mp hb x hx)) (rm.mono (by lia)) at' hr
end
mutual
noncomputable def noF:PV->Bool
 | .frs _=>false
 | .list xs=>noFL xs
 | .tuple xs=>noFL xs
 | .dict kvs=>noFD kvs
 |_=>true
noncomputable def noFL:List PV->Bool
 | []=>true
 |x::xs=>noF x&&noFL xs
noncomputable def noFD:List (Str×PV)->Bool
 | []=>true
 |(_,x)::xs=>noF x&&noFD xs
end
section
variable{C:CX}{L:Lits}(kl: ∀x t,C.L.lit x t->L.lit x t){h:Heap}{W:Addr->Prop}
include kl
theorem Rep.relit(p:PV): ∀v:Value,noF p=true->Rep C h W p v->Rep (C.relit L) h W p v:=by
 refine PV.rec (motive_1:=λp=>∀v,noF p=true->Rep C h W p v->Rep (C.relit L) h W p v) (motive_2:=λl=>∀v,noFL l=true->RepL C h W l v->RepL (C.relit L) h W l v) (motive_3:=λl=>∀v,noFD l=true->RepD C h W l v->RepD (C.relit L) h W l v) (motive_4:=λq=>∀v,noF q.2=true->Rep C h W q.2 v->Rep (C.relit L) h W q.2 v)
  (λJ J x=>x) (λJ J J x=>x) (λJ J J x=>x) (λJ J J x=>x) (λJ v J x=>?_) (λJ J n J=>absurd (show false=true from n) bn) (λJ J J x=>x) (λxs ih v n x=>?_) (λxs ih v n x=>?_) (λxs ih v n x=>?_) (λJ J J J J x=>x) (λJ J J x=>x) (λJ J J x=>x) (λJ J J x=>x) (λJ J x=>x) (λJ J x=>x)
  (λJ J x=>x) (λy ys i1 i2 v n x=>?_) (λJ J x=>x) (λq ys i1 i2 v n x=>?_) (λJ J ih=>ih) p
 ·refine fT x λt h1 h2 h3=>?_
  exact et t h1 h2 (kl _ _ h3)
 ·refine iJ x λa vs k e_ hw ha ho hl hz=>?_
  exact kW a vs k e_ hw ha ho (ih vs n hl) hz
 ·refine kE x λa vs k e_ hw ha ho hl=>?_
  exact oW a vs k e_ hw ha ho (ih vs n hl)
 ·refine lf x λa es e_ hw ha hd hl=>?_
  exact kg a es e_ hw ha hd (ih _ n hl)
 ·refine ek x λa r e_ h1 h2=>?_
  have n:=aF.mp (show (noF y&&noFL ys)=true from n);exact eg a r e_ (i1 a n.1 h1) (i2 r n.2 h2)
 ·refine ek x λa r e_ h1 h2=>?_
  have n:=aF.mp (show (noF q.2&&noFD ys)=true from n);exact eg a r e_ (i1 a n.1 h1) (i2 r n.2 h2)
theorem RepL.relit(p:List PV): ∀v:List Value,noFL p=true->RepL C h W p v->RepL (C.relit L) h W p v:=by
 induction p with
 |nil=>exact λJ J x=>x
 |cons y ys ih=>
  intro v n x;refine ek x λa r e_ h1 h2=>?_
  have n:=aF.mp (show (noF y&&noFL ys)=true from n);exact eg a r e_ (Rep.relit kl y a n.1 h1) (ih r n.2 h2)
theorem RepD.relit(p:List (Str×PV)): ∀v:List (Str×Value),noFD p=true->RepD C h W p v->RepD (C.relit L) h W p v:=by
 induction p with
 |nil=>exact λJ J x=>x
 |cons q ys ih=>
  intro v n x;refine ek x λa r e_ h1 h2=>?_
  have n:=aF.mp (show (noF q.2&&noFD ys)=true from n);exact eg a r e_ (Rep.relit kl q.2 a n.1 h1) (ih r n.2 h2)
end
noncomputable def noFS:Slot->Bool
 | .val p=>noF p
 | .own xs=>noFL xs
 | .ownD kvs=>noFD kvs
section
variable{C:CX}{L:Lits}(kl: ∀x t,C.L.lit x t->L.lit x t){h:Heap}{W O:Addr->Prop}
include kl
theorem RepS.relit(n:noFS s=true)(r:RepS C h W O s v):RepS (C.relit L) h W O s v:=by
 cases r with
 |val r=>exact .val (Rep.relit kl _ _ n r)
 |own w lo l r zz=>exact .own w lo l (RepL.relit kl _ _ n r) zz
 |ownD w lo l r=>exact .ownD w lo l (RepD.relit kl _ _ n r)
theorem dq.relit'(hp: ∀(i:Nat) (s:Slot),ρ[i]?=some (some s)->noFS s=true)(e:dq C c env W O h ρ):dq (C.relit L) c env W O h ρ where
 glob:=e.glob
 bui:=e.bui
 kind:=e.kind
 ow:=e.ow
 lo:=e.lo
 loc:=e.loc
 ns:=e.ns
 names:=e.names
 cells:=e.cells
 cinj:=e.cinj
 top:=e.top
 vars:=λx i s h1 h2 h3=>by obtain ⟨v,g1,g2⟩:=e.vars x i s h1 h2 h3;exact bK v g1 (RepS.relit kl (hp i s h3) g2)
 apart:=λx y i j s t v h1 h2 k1 k2 h3 h4 h5 h6 h7 h8=>e.apart x y i j s t v h1 h2 k1 k2 h3 h4 h5 h6 h7 h8
end
noncomputable def LB(B:Nat):Lits:=⟨λJ t=>0<t/\t<B,B,λh=>b9 h.1,λh=>h.2⟩
theorem Ext.re(e:Ext C s s'):Ext (C.relit L) s s':=⟨⟨e.new,e.inv,e.gens,e.drawn,e.os⟩,e.toks⟩
theorem ExtO.re(e:ExtO C O s s'):ExtO (C.relit L) O s s':=⟨e.new,e.occ,e.inv,e.gens,e.drawn,e.os,e.toks⟩
theorem Fr'.re(f:Fr' C s0 W₀ O0 W O s):Fr' (C.relit L) s0 W₀ O0 W O s:=⟨f.ext.re,f.w,f.w0,f.fresh,f.dj⟩
theorem At.re(a:At C W s)(h:B<s.toks):At (C.relit (LB B)) W s:=⟨a.inv,a.wocc,h⟩
inductive lx:List Expr->List Expr->List (Str×Str)->Prop
 |nil:lx [] [] []
 |cons {k v:Str} {n1 n2:Nat} {p1 p2:Pos} {ks vs:List Expr} {l:List (Str×Str)}:lx ks vs l->lx (.Constant (.str k) n1 p1::ks) (.Constant (.str v) n2 p2::vs) ((k,v)::l)
theorem lx.len(h:lx ks vs l):ks.length=l.length/\vs.length=l.length:=by
 induction h with
 |nil=>exact ⟨rfl,rfl⟩
 |cons _ ih=>exact ⟨congrArg (· +1) ih.1,congrArg (· +1) ih.2⟩
theorem litPairs(he:lx ks vs l): ∀{s:Shared} {Q:List (Value×Value)->Shared->Prop},0<s.toks->s.toks+2*l.length<=B->(∀q∈l,q.2.length<=aM)-> (∀lst,lst.length=l.length->(∃kvs,Carries (strKind C.prog C.w) lst kvs/\ ∀h W,RepD (C.relit (LB B)) h W (l.map λq=>(q.1,.lit q.2)) kvs/\RepD C h W (l.map λq=>(q.1,.str q.2)) kvs)->Q lst {s with toks:=s.toks+2*l.length})-> wpAny (model C.prog C.w) A (evalPairs (lL env pos ks vs)) Q E s:=by
 induction he with
 |nil=>intro s Q J J J q;exact evalPairs_nil (q [] rfl (bK [] trivial (λJ J=>⟨rfl,rfl⟩)))
 | @cons k v n1 n2 p1 p2 ks vs l _ ih=>
  intro s Q h0 hB hz q;rw [aK]at hB;refine evalPairs_cons (Constant_str (k:=n1) (pos:=p1) (ab (Constant_str (k:=n2) (pos:=p2) (ab (bf (am ?_))))));refine ih (s:={s with toks:=s.toks+1+1}) (jk _) (by show s.toks+1+1+2*l.length<=B;lia) (λp hp=>hz p (ah _ hp)) λlst hl ⟨kvs,hc,hr⟩=>?_
  have e:s.toks+1+1+2*l.length=s.toks+2*((k,v)::l).length:=by rw [aK];lia
  show Q _ {s with toks:=s.toks+1+1+2*l.length};rw [e];exact (q ((.str k s.toks,.str v (s.toks+1))::lst) (by rw [aK,aK,hl]) (bK ((k,.str v (s.toks+1))::kvs) ⟨gp _ _ _ _,rfl,hc⟩ (λh W=>⟨(eg _ kvs rfl (et _ rfl (hz _ ag) ⟨jk _,by lia⟩) ((hr h W).1)),(eg _ kvs rfl (bK _ rfl (hz _ ag)) ((hr h W).2))⟩)))
theorem z1b(he:lx ks vs l)(h0:l≠ [])(h15:l.length<=15)(hz: ∀q∈l,q.2.length<=aM)(a:At C W s)(q: ∀ad s',Ext C s s'->lC (C.relit (LB (s.toks+2*l.length))) s'.heap W ad (.dict (iF [] (l.map λq=>(q.1,.lit q.2))))->C.n₀<=ad->s.heap.get? ad=none-> ¬W ad->s.toks+2*l.length<s'.toks-> Rep (C.relit (LB (s.toks+2*l.length))) s'.heap W (.dict (iF [] (l.map λq=>(q.1,.lit q.2)))) (.ref ad)->Q (.ref ad) s'): wpAny (model C.prog C.w) A (eval (.Dict (ks.map some) vs pos) env) Q E s:=by
 refine xA he.len λhk hv=>?_
 have hl:=hk.trans hv.symm;have hne:lL env pos ks vs≠ []:=λh=>h0 (cK.mp (by rw [<-hk,<-nW (pos:=pos) env hl,h];rfl))
 refine wpAny_Dict_pairs (knd:=strKind C.prog C.w) (rF env hl) hne (by rw [nW env hl,hk];exact h15) ?_;refine litPairs (s:={s with heap:=s.heap.push {cls:=.type "dict",data:=.dict #[]}}) he (Nat.lt_of_le_of_lt (bD _) a.tok) (az _) hz λlst hlen ⟨kvs,hc,hr⟩=>⟨kvs,hc,?_,λh' hD hs=>?_⟩
 ·exact d5 (knd:=strKind C.prog C.w) s.heap
 ·have e:Ext C {s with heap:=s.heap.push {cls:=.type "dict",data:=.dict #[]}} {s with heap:=s.heap.push {cls:=.type "dict",data:=.dict #[]},toks:=s.toks+2*l.length}:=⟨.toks _,bb _ _⟩;refine xA (sX (k:=s.toks+2*l.length+lst.length) a rfl e hD hs (o9 (kvs:=[]) (l:=[]) rfl (hr _ _).2) (bb _ _)) λx1 J=>?_
  have hm: ∀h W,RepD (C.relit (LB (s.toks+2*l.length))) h W (iF [] (l.map λq=>(q.1,.lit q.2))) (merged [] kvs):=λh W=>o9 (C:=C.relit (LB (s.toks+2*l.length))) (kvs:=[]) (l:=[]) rfl (hr h W).1
  refine q s.heap.objs.size _ x1 (bK _ hD (hm _ _)) a.low jA a.nw ?_ (kg _ _ rfl a.nw a.low hD (hm _ _));show s.toks+2*l.length<s.toks+2*l.length+lst.length;rw [hlen];have:=gM.mpr h0;lia
section
variable{prog:Program}{w:World}{A:Around}{E:Value->Shared->Prop}{s:Shared}
structure sA(T:String):Prop where
 c:en (.type T) "__contains__" =pure none
 i:en (.type T) "__iter__" =pure none
 g:en (.type T) "__getitem__" =pure none
 nb:(eH T==eH "builtin_function_or_method")=false
 t1:(ao (toString "'" ++toString (shownName T)++toString "' object is not iterable")).length<=1000
 t2:(ao (toString "argument of type '" ++toString (shownName T)++toString "' is not iterable")).length<=1000
theorem zs0:sA "int" :=⟨by rw [cB,bw];kernel_rfl,by rw [cB,bw];kernel_rfl,by rw [cB,bw];kernel_rfl,by decide,by decide+kernel,by decide+kernel⟩
theorem zq8:sA "NoneType" :=⟨by rw [cB,bw];kernel_rfl,by rw [cB,bw];kernel_rfl,by rw [cB,bw];kernel_rfl,by decide,by decide+kernel,by decide+kernel⟩
theorem zj7(x:Heap.NewExc h h1 e1 X)(y:Heap.NewExc h1 h2 e2 Y):Heap.NewExc h h2 e2 Y:=
 ⟨λb o e=>y.keeps b o (x.keeps b o e),by
  cases hq:h.get? e2 with
  |none=>rfl
  |some o=>exact cu (y.new.symm.trans (x.keeps _ _ hq)),y.there⟩
theorem uS:dv (.type "TypeError") (.type "TypeError")=pure true:=by rw [cW];kernel_rfl
theorem zq9(f:sA T)(hT: ∀s':Shared,s'.TypeIs v T)(hn:stdlibNamesSay? v x=none)(hh:A.handled=none)(h: ∀h' tk e,Heap.NewExc s.heap h' e "TypeError" ->E (.ref e) {s with heap:=h',toks:=tk}):wpAny (model prog w) A (de .In x v) Q E s:=by
 refine ab ?_;refine aX ?_;rw [hn];refine ab (bQ (hT _) f.c ?_);rw [if_neg (by exact bn)];show let z_:=_;let y_:=_;wpAny _ _ _ z_ y_ _;intro z_ y_;refine ab (wpAny_callSpecialUnlessNone?_none (hT _) f.c ?_);dsimp only;refine ab (wpAny_rule (ab ?_));show let z_:=_;let y_:=_;wpAny _ _ _ z_ y_ _;intro z_ y_;refine wpAny_tryCatch ?_;refine ab (bQ (hT _) f.i ?_);refine ab (bQ (hT _) f.g ?_);dsimp only;refine ab (wpAny_rule (ab (wpAny_typeNameOf' (hT _) f.nb (fU gq hh (λh_1 tk_1 e₁ x_1=>?_) ?_))))
 ·show let g_:=_;g_;intro g_;refine ek x_1.there λob t he hc J=>?_
  refine ab (gR (T:="TypeError") (bK ob he hc) uS ?_);rw [if_pos rfl];refine ab (wpAny_typeNameOf' (hT _) f.nb (fU gq hh (λh_2 tk_2 e_2 x_2=>h _ _ _ (zj7 x_1 x_2)) (aa f.t2 (by rw [av];decide))))
 ·exact aa f.t1 (by rw [av];decide)
end
section
theorem zhx:PySem.Slot "bytes" "__contains__" "bytes.__contains__" :=
 .of (owner:="bytes") (n:="__contains__") (by rw [cB,bw];kernel_rfl) (by decide+kernel) (by decide+kernel) (by decide+kernel)
  (by first|exact .inl (by decide+kernel)|exact .inr (by decide+kernel)) (by rw [cW];kernel_rfl)
theorem zg1:entryFor table "bytes.__contains__" =some Builtin.«bytes.__contains__»:=entryFor_of_tree (by kernel_rfl)
theorem zhy(a b:Value):argsOk "bytes.__contains__" ⟨[a,b],[]⟩:=by unfold argsOk;kernel_rfl
theorem zra:en (.type "str") "__index__" =pure none:=by rw [cB,bw];kernel_rfl
theorem zix:en (.type "str") "__buffer__" =pure none:=by rw [cB,bw];kernel_rfl
theorem uf:en (.type "bytes") "__buffer__" =pure (some (.builtin "bytes.__buffer__")):=by rw [cB,bw];kernel_rfl
theorem zo5:en (.type "bytes") "__release_buffer__" =pure none:=by rw [cB,bw];kernel_rfl
theorem z8w:typeNameCut 200 (.type "str")=pure "str" :=by show typeName (.type "str")=_;unfold typeName;rw [find?_eq_fast];kernel_rfl
theorem zrb{M:Model}{A:Around}{E:Value->Shared->Prop}{s:Shared}{id:String}{b:Array UInt8}{u:Tok}{Q:Option (Array UInt8)->Shared->Prop}(q:Q (some b) s):wpAny M A (lq id (.bytes b u)) Q E s:=by have hT:s.TypeIs (.bytes b u) "bytes" :=rfl;refine ab (bQ hT uf ?_);dsimp only;refine ab (ab (bQ hT uf ?_));dsimp only;rw [if_neg (by decide+kernel)];refine gR (b:=true) hT (by rw [show ("bytes.__buffer__".dropRight ("__buffer__".length+1))= "bytes" by decide+kernel,cW];kernel_rfl) ?_;rw [if_neg (by decide)];refine ab (bQ hT uf ?_);refine ab (ab (ab (bQ hT zo5 (am (am ?_)))));rw [if_neg (by decide)];exact ab (ab (am (am (am q))))
theorem zwj{M:Model}{A:Around}{E:Value->Shared->Prop}{s:Shared}{id:String}{x:Str}{u:Tok}{Q:Option (Array UInt8)->Shared->Prop}(q:Q none s):wpAny M A (lq id (.str x u)) Q E s:=by refine ab (bQ (c8 _ _ _) zix ?_);show let z_:=_;let y_:=_;wpAny _ _ _ z_ y_ _;intro z_ y_;exact ab (bQ (c8 _ _ _) zix (am q))
theorem z1d(x:Str)(t u:Tok)(b:Array UInt8):Meets (Builtin.«bytes.__contains__» ⟨[.bytes b u,.str x t],[]⟩) (raisesNew "TypeError"):=λprog w A R s ⟨hh,h⟩=>by show let z_:=_;let y_:=_;wpAny _ _ _ z_ y_ _;intro z_ y_;have hh1:=hh;unfold Builtin.«bytes.__contains__» slotArgs;rw [if_neg (by exact bn)];refine ab ?_;dsimp only;rw [if_neg (by exact bn)];refine ab (am (am ?_));refine ab (ab (wpAny_attempt ?_));show let z_:=_;let y_:=_;wpAny _ _ _ z_ y_ _;intro z_ y_;refine ab (wpAny_of_eq (a:=none) rfl ?_);refine ab (ab (bQ (c8 _ _ _) zra (am ?_)));dsimp only;refine ab (ab (ab (wpAny_typeOf (c8 _ _ _) ?_)));rw [if_neg (by decide)];refine am (wpAny_of_eq (a:="str") z8w ?_);refine fU gq hh1 (λh_1 tk_1 e₁ x_1=>?_) (by rw [av];decide+kernel);refine ab (zrb ?_);refine ab (zwj ?_);refine ab (wpAny_rule (ab (wpAny_typeNameOf' (c8 _ _ _) (by decide) (fU gq hh1 (λh_2 tk_2 e_2 x_2=>h _ _ _ (zj7 x_1 x_2)) (by rw [av];decide+kernel)))))
theorem zl2(hh:A.handled=none)(h: ∀h' tk e,Heap.NewExc s.heap h' e "TypeError" ->E (.ref e) {s with heap:=h',toks:=tk}):wpAny (model prog w) A (de .In (.str x t) (.bytes b u)) Q E s:=SeqRoads2.in_meets (T:="bytes") rfl zhx zg1 (zhy _ _) (z1d x t u b) ⟨hh,h⟩
end
section
variable{prog:Program}{w:World}{A:Around}{E:Value->Shared->Prop}
theorem zl3:en (.type "list") "replace" =pure none:=by rw [cB,bw];kernel_rfl
theorem z1e(hx:s.heap.get? a=some o)(hc:o.cls= .type "list")(hdat:o.data= .seq xs k)(hd:o.dict=none)(hmiss:en (.type "list") name=pure none)(hname:(["__module__","__name__","__qualname__","__doc__","__annotations__"]:List Str).contains name=false)(hA:A.handled=none)(h: ∀h' tk e,Heap.NewAttrErr s.heap h' e (.ref a) name->E (.ref e) {s with heap:=h',toks:=tk})(hsz:name.length+100<=aM): wpAny (model prog w) A (getAttr (.ref a) name) Q E s:=by
 obtain ⟨c,dct,dat,sl⟩:=o;simp only at hc hdat hd;subst hc hdat hd;obtain ⟨hp,g,d,tk,os⟩:=s;have hT: ∀tk',(⟨hp,g,d,tk',os⟩:Shared).TypeIs (.ref a) "list" :=λJ=>⟨_,hx,rfl⟩
 have f1:=sub_AttributeError;have f3:=F.slot_list_getattribute.lookup;have f4:=F.slot_list_getattribute.bind (.ref a);have f5:=am_list_getattr_none
 repeat (any_goals (first|assumption|exact hT _|((with_reducible show wpAny _ _ (call (Value.builtin "list.__getattribute__") _ _) _ _ _);refine gt F.slot_list_getattribute (hT _) am_entry_list_getattribute (F.args_list_getattribute_2 _ _) (meets_getattribute_miss_list a xs k sl name _ hmiss hname hsz) ⟨hx,hA,λh' tk' e hx'=>?_⟩)|wp_step))
 show let g_:=_;g_;intro g_;refine rQ hx'.there λt' u' he=>?_
 show wpAny _ _ (getattributeRaised _ _ _ _ _ _ _) _ _ _;unfold getattributeRaised
 repeat (any_goals (first|assumption|wp_step))
 exact h _ _ _ hx'
theorem zmo(hx:s.heap.get? a=some o)(hc:o.cls= .type "list")(hdat:o.data= .seq xs k)(hd:o.dict=none)(hmiss:en (.type "list") name=pure none)(hname:(["__module__","__name__","__qualname__","__doc__","__annotations__"]:List Str).contains name=false)(hA:A.handled=none)(h: ∀h' tk e,Heap.NewAttrErr s.heap h' e (.ref a) name->E (.ref e) {s with heap:=h',toks:=tk})(hsz:name.length+100<=aM): wpAny (model prog w) A (getMethod (.ref a) name pl) Q E s:=by
 have hT:s.TypeIs (.ref a) "list" :=bK o hx hc;have hu:wpAny (model prog w) A (do return (<-getAttr (.ref a) name,[])) Q E s:=ab (z1e hx hc hdat hd hmiss hname hA h hsz);refine ab (bQ hT F.slot_list_getattribute.lookup ?_);dsimp only;split
 ·exact hu
 refine ab (bQ hT am_list_getattr_none ?_);rw [if_neg (by exact bn)];exact ab (bQ hT hmiss hu)
end
section
variable{prog:Program}{w:World}{A:Around}{E:Value->Shared->Prop}{s:Shared}
theorem zl4:PySem.Slot "bytes" "__repr__" "bytes.__repr__" :=
 .of (owner:="bytes") (n:="__repr__") (by rw [cB,bw];kernel_rfl) (by decide+kernel) (by decide+kernel) (by decide+kernel)
  (by first|exact .inl (by decide+kernel)|exact .inr (by decide+kernel)) (by rw [cW];kernel_rfl)
theorem zkc:entryFor table "bytes.__repr__" =some Builtin.«bytes.__repr__»:=entryFor_of_tree (by kernel_rfl)
theorem zl5(a:Value):argsOk "bytes.__repr__" ⟨[a],[]⟩:=by unfold argsOk;kernel_rfl
theorem z1f(u:Tok):Gives (Builtin.«bytes.__repr__» ⟨[.bytes #[38] u],[]⟩) (.str "b'&'"):=.of_eq (by kernel_rfl)
end
noncomputable def jb9(x n:Str):Str:=(((ao "cannot serialize " ++x)++ao " (type ")++n)++ao ")"
section
variable{prog:Program}{w:World}{A:Around}{E:Value->Shared->Prop}{s:Shared}{env:Env}
theorem zo6:entryFor table "proto.unchain" =some Builtin.«proto.unchain»:=entryFor_of_tree (by kernel_rfl)
theorem zs1(hh:A.handled=some (.ref h0))(hne:h0≠e)(h1:s.heap.get? h0=some o0)(h2:o0.data= .fields vs0)(h3:vs0[2]?=some .none)(he:s.heap.get? e=some oe)(hd:oe.data= .fields vs)(hi:2<vs.size)(h:E (.ref e) {s with heap:=s.heap.update e (cX (·.setIfInBounds 2 (.ref h0)))}):wpAny (model prog w) A (raiseNew (.ref e):Sem α) Q E s:=by refine ab (wpAny_handled ?_);rw [hh];dsimp only;rw [if_pos (show (dz h0 !=dz e)=true by simpa using hne)];refine ab (aX (wpAny_runValue (codeAny_builtin zo6 ?_)));show let z_:=_;let y_:=_;wpAny _ _ _ z_ y_ _;intro z_ y_;refine ab (gB h1 h2 h3 ?_);rw [if_pos (show (bV==bV)=true from rfl)];refine am ?_;exact ab (iw (a:=e) he hd hi (wpAny_throw h))
theorem zrc(F:ExcRaiseFacts cls)(hh:A.handled=some (.ref h0))(h:wpAny (model prog w) A x (λv s₁=>∃e t o0 vs0,v= .ref e/\h0≠e/\s₁.heap.get? h0=some o0/\o0.data= .fields vs0/\vs0[2]?=some .none/\s₁.heap.get? e=some {cls:=.type cls,data:=.fields #[.ref t,.none,.none,.none,.bool false,.none]}/\ E (.ref e) {s₁ with heap:=s₁.heap.update e (cX (·.setIfInBounds 2 (.ref h0)))}) E s): wpAny (model prog w) A (raiseStmt env (some x) none) Q E s:=by
 refine ab (bE h (λv s₁ h_1=>?_) λJ J x=>x);show let g_:=_;g_;intro g_;obtain ⟨e,t,o0,vs0,rfl,hne,g1,g2,g3,he,hE⟩:=h_1;obtain ⟨hp,g,d,tk,os⟩:=s₁;have hsub:=F.isExc;have hmeta:=F.plainMeta
 repeat (first|refine wpAny_loadPart he ?_|wp_step)
 exact zs1 hh hne g1 g2 g3 he rfl (show 2<6 by decide) hE
theorem zo7(F:ExcCallFacts cls newId initId)(G:ExcRaiseFacts cls)(hh:A.handled=some (.ref h0))(hplain:(backTo cpos (bY args env)).any (·.1)=false)(h:wpAny (model prog w) A (eval (.Name x np) env) (λf s₁=>f= .type cls/\wpAny (model prog w) A (evalArgs (.type cls) true (backTo cpos (bY args env)) []) (λa s_2=>a.kw=[]/\a.pos.length<=aM/\(∃o0 vs0,s_2.heap.get? h0=some o0/\o0.data= .fields vs0/\vs0[2]?=some .none)/\ ∀h' e,Heap.MadeExc s_2.heap h' e cls a.pos->E (.ref e) {s_2 with heap:=h'.update e (cX (·.setIfInBounds 2 (.ref h0)))}) E s₁) E s): wpAny (model prog w) A (exec (.Raise (some (.Call (.Name x np) args [] cpos)) none pos) env) Q E s:=by
 rw [arm_exec_Raise];refine ab (bf (zrc G hh (ab (bE (wpAny_Call_ofName (bE h (λf s₁ h_1=>?_) λJ J x=>x)) (λv s₁ h_1=>ab (bf (am h_1))) λJ J x=>x))));show let z_:=_;let y_:=_;wpAny _ _ _ z_ y_ _;intro z_ y_;obtain ⟨rfl,h_1⟩:=h_1;refine callWith_excType hplain (bE h_1 (λa s_2 h_2=>?_) λJ J x=>x);show let g_:=_;g_;intro g_;obtain ⟨apos,akw⟩:=a;obtain ⟨hkw,hlen,⟨o0,vs0,g1,g2,g3⟩,h_2⟩:=h_2;obtain rfl:akw=[]:=hkw;obtain ⟨hp,g,d,tk,os⟩:=s_2;refine wpAny_call_exc F (hrest:=hlen) λh' e hm=>?_
 obtain ⟨t,ht,J,J⟩:=hm.there;exact ⟨e,t,o0,vs0,rfl,(λq=>by subst q;exact cu (hm.new.symm.trans g1)),hm.keeps _ _ g1,g2,g3,ht,h_2 h' e hm⟩
end
structure NewE(h h':Heap)(e:Addr)(cls:String):Prop where
 keeps: ∀b o,h.get? b=some o->h'.get? b=some o
 new:h.get? e=none
 there: ∃ob vs,h'.get? e=some ob/\ob.cls= .type cls/\ob.data= .fields vs/\vs[1]?=some .none/\vs[2]?=some .none
theorem NewE.ofExc(x:Heap.NewExc h h' e cls):NewE h h' e cls:=⟨x.keeps,x.new,by obtain ⟨ob,t,he,hc,hd⟩:=x.there;exact (kg ob _ he hc hd rfl rfl)⟩
theorem NewE.ofAttr(x:Heap.NewAttrErr h h' e o name):NewE h h' e "AttributeError" :=⟨x.keeps,x.new,by obtain ⟨t,u,he⟩:=x.there;exact (kg _ _ he rfl rfl rfl rfl)⟩
def jdd(F:List Addr)(e:Addr)(h h':Heap):Prop:=∀b o,h.get? b=some o->b≠e->(b∉F->h'.get? b=some o)/\ ∃sl,h'.get? b=some {o with slots:=sl}
section
variable{M:Model}{A:Around}{E:Value->Shared->Prop}{s:Shared}
theorem zwk(hfr:A.frames=some (env::outer))(hl:s.heap.FunFrames base (env::outer))(hf:env.frame=some L)(he:s.heap.get? e=some oe)(hd:oe.data= .fields vs)(h1:vs[1]?=some .none)(h: ∀h' T oT ts,jdd ((env::outer).filterMap (·.frame)) e s.heap h'->h'.get? e=some (oe.mapFields (·.setIfInBounds 1 (.ref T)))->s.heap.get? T=none->h'.get? T=some oT->oT.data= .fields ts->ts[3]?=some .none->Q () {s with heap:=h'}): wpAny M A (noteFrame (.ref e) env) (λJ s₁=>wpAny M A (setFlight (.ref e) none) Q E s₁) E s:=by
 have hsz:=(dg.mp h1).1;have hene:e∉(env::outer).filterMap (·.frame):=λhm=>by obtain ⟨J,o,ho,hnf⟩:=hl.mem hm;rw [he]at ho;injection ho with ho;subst ho;exact hnf vs hd
 unfold noteFrame;simp only [hf];refine ab (gB he hd h1 ?_);rw [if_neg (by decide)];refine ab (wpAny_frameOf_fun hfr hl hf λh_1 hs_1=>?_);refine ab (wpAny_entryPlaceOf λpl hpl=>?_);refine ab (fB ?_ (hpl.sizeOk5 _ _ _ _ _));have he1:=(hs_1.2.1 e hene).trans he;have he2:=aq (h:=h_1) {cls:=.type "traceback",dict:=none,data:=.fields ([bV,.ref L,.none,rawInt L,.none]++(if pl.isEmpty then aJ 6 bV else pl)).toArray} he1;refine iw he2 hd hsz ?_;have hTe:=b9 (aB he1);have hd_3:=er hd (·.setIfInBounds 1 (dz h_1.objs.size));have he3:=cV (cX (·.setIfInBounds 1 (dz h_1.objs.size))) he2 (im hd_3);have hT_3:=(cR (h_1.push {cls:=.type "traceback",dict:=none,data:=.fields ([bV,.ref L,.none,rawInt L,.none]++(if pl.isEmpty then aJ 6 bV else pl)).toArray})
  (cX (·.setIfInBounds 1 (dz h_1.objs.size))) (dh hTe)).trans (au h_1 rfl)
 refine ab (gB he3 hd_3 (x:=.ref h_1.objs.size) (by simp [hsz]) ?_);rw [if_pos (show (dz h_1.objs.size !=bV)=true from by simp)];refine iw hT_3 rfl (by simp only [bI,aC,aK,j2]<;>omega) ?_;have keep: ∀b o,b≠e->h_1.get? b=some o->
   (((h_1.push {cls:=.type "traceback",dict:=none,data:=.fields ([bV,.ref L,.none,rawInt L,.none]++(if pl.isEmpty then aJ 6 bV else pl)).toArray}).update e (cX (·.setIfInBounds 1 (dz h_1.objs.size)))).update h_1.objs.size
    (cX (·.setIfInBounds 3 ((none:Option Addr).elim bV λf=>rawInt f)))).get? b=some o:=λb o hbe hb=>by
  rw [cR _ _ (b9 (aB hb)),cR _ _ (dh hbe)];exact aq _ hb
 refine h _ h_1.objs.size _ _ (λb o hb hbe=>⟨λhF=>keep b o hbe ((hs_1.2.1 b hF).trans hb),?_⟩) ?_ (fZ (dc hs_1.1.symm)) (cV _ hT_3 (im (er rfl _))) (er rfl _) (by first|(simp;done)|(rcases hpl with rfl|⟨J,J,J,J,J,J,J,rfl⟩<;>simp))
 ·show let g_:=_;g_;intro g_;obtain ⟨sl,hs⟩:=hs_1.2.2 b o hb;exact ⟨sl,keep b _ hbe hs⟩
 ·rw [cR _ _ hTe];exact he3
end
inductive Thing(h:Heap):Nat->Value->Prop
 |i (t:Tok):Thing h 0 (.int 7 t)
 |n:Thing h 1 .none
 |l (a:Addr) (t:Tok) (k:Nat) (ha:h.get? a=some (ff [.str "&" t] k)):Thing h 2 (.ref a)
 |b (t:Tok):Thing h 3 (.bytes #[38] t)
theorem Thing.keep{h h':Heap}{n:Nat}{v:Value}(T:Thing h n v)(k: ∀b o,h.get? b=some o->h'.get? b=some o):Thing h' n v:=by
 induction T with
 |i t=>exact .i t
 |n=>exact .n
 |l a t m ha=>exact .l a t m (k _ _ ha)
 |b t=>exact .b t
noncomputable def nn(n:Nat):String:=if n=2 then "AttributeError" else "TypeError"
section
variable{prog:Program}{w:World}{A:Around}{E:Value->Shared->Prop}{s:Shared}{env:Env}
theorem z4p(T:Thing s.heap n v)(hh:A.handled=none)(ht:n=2->Q (.bool true) s)(h: ∀h' tk e,NewE s.heap h' e "TypeError" ->n≠2->E (.ref e) {s with heap:=h',toks:=tk}):wpAny (model prog w) A (de .In (.str "&" t) v) Q E s:=by
 cases T with
 |i u=>exact zq9 zs0 (λJ=>rfl) rfl hh λh' tk e x=>h h' tk e (.ofExc x) (by decide)
 |n=>exact zq9 zq8 (λJ=>rfl) rfl hh λh' tk e x=>h h' tk e (.ofExc x) (by decide)
 |l a u k ha=>
  refine SeqRoads2.in_list (items:=#[.str "&" u]) (λJ=>("&" :Str).cps.toList==("&" :Str).cps.toList) (λy hy=>?_) ha ?_
  ·have:y= .str "&" u:=by simpa using hy
   subst this;exact SeqRoads2.EqGives.str _ _ _ _
  ·simpa using ht rfl
 |b u=>exact zl2 hh λh' tk e x=>h h' tk e (.ofExc x) (by decide)
theorem zmp(hb:lj o=true)(h:wpAny (model prog w) A (eval o env) (λov s₁=>∀pl Q',wpAny (model prog w) A (getMethod ov name pl) Q' E s₁) E s)(hf:methodCallForm (args.length+([]:List Keyword).length) (backTo pos (bY args env)) (backToKw pos (keywordEach [] env))=true): wpAny (model prog w) A (eval (.Call (.Attribute o name apos) args [] pos) env) Q E s:=by rw [arm_eval_Call,lp hb];refine ab (bE h (λov s₁ h_1=>?_) λJ J e=>e);refine ab (bf ?_);unfold methodCall;rw [hf];exact ab (aX (h_1 _ _))
theorem zrd(hk:env.scope.kind= .function)(hl:env.kindOf "text" =some .local)(hn:s.heap.Ns env.locals m)(hv:m "text" =some v)(T:Thing s.heap n v)(hh:A.handled=none)(h: ∀h' tk e,NewE s.heap h' e (nn n)->E (.ref e) {s with heap:=h',toks:=tk}): wpAny (model prog w) A (execs (.If (.Compare (.Constant (.str "&") k1 p1) [.In] [.Name "text" p2] p3) (.Assign [.Name "text" p4] (.Call (.Attribute (.Name "text" p5) "replace" p6) [.Constant (.str x) k2 pa,.Constant (.str y) k3 pb] [] p7) p8::r1) r2 p9::rest) env) Q E s:=by
 refine ay (wpAny_If (fG (Constant_str (bU (br hk hl hn hv ?_) (by decide))) rfl));refine z4p (s:={s with toks:=s.toks+1}) T hh (λhn2=>?_) λh' tk e x hn2=>h h' tk e (by rw [nn,if_neg hn2];exact x)
 refine dl ?_;rw [if_pos rfl];show let g_:=_;g_;intro g_;cases T with
 |l a u k ha=>show let z_:=_;let y_:=_;wpAny _ _ _ z_ y_ _;intro z_ y_;refine ay (dp (zmp rfl (bU (br hk hl hn hv λpl Q'=>?_) (by decide)) rfl) rfl);exact zmo ha rfl rfl rfl zl3 (by decide) hh (λh' tk e x=>h h' tk e (.ofAttr x)) (by rw [av];decide)
 |_=>cases hn2
end
noncomputable def nQ(n:Nat):String:=match n with
 |0=>"int"
 |1=>"NoneType"
 |2=>"list"
 |_=>"bytes"
section
variable{prog:Program}{w:World}{A:Around}{E:Value->Shared->Prop}{s:Shared}{env:Env}
theorem qO(F:Fr h₀ L s.heap m)(ht:kitMeta T=true)(hs:f9 T=false)(e:findCls ([]:Frag) (.type T) (.type "type") "__name__" =some (.get (.builtin "getset_descriptor.__get__") (.builtin "type.__name__") (.type T) (.type "type")))(hq:ktynFast T=q)(hz:(ao q).length<=aM)(h: ∀tk u,Q (.str (ao q) tk) {s with toks:=u}):wpAny (model prog w) A (getAttr (.type T) "__name__" true) Q E s:=ktyn_attr F (λa o e=>by cases e) ht hs e hq hz h
theorem jca:findCls ([]:Frag) (.type "int") (.type "type") "__name__" =some (.get (.builtin "getset_descriptor.__get__") (.builtin "type.__name__") (.type "int") (.type "type")):=by kernel_rfl
theorem jcb:ktynFast "int" = "int" :=by kernel_rfl
theorem jcc:("int":Str).length<=aM:=by rw [av];decide+kernel
theorem zs2:findCls ([]:Frag) (.type "NoneType") (.type "type") "__name__" =some (.get (.builtin "getset_descriptor.__get__") (.builtin "type.__name__") (.type "NoneType") (.type "type")):=by kernel_rfl
theorem zs3:ktynFast "NoneType" = "NoneType" :=by kernel_rfl
theorem zs4:("NoneType":Str).length<=aM:=by rw [av];decide+kernel
theorem z8x:findCls ([]:Frag) (.type "list") (.type "type") "__name__" =some (.get (.builtin "getset_descriptor.__get__") (.builtin "type.__name__") (.type "list") (.type "type")):=by kernel_rfl
theorem z8y:ktynFast "list" = "list" :=by kernel_rfl
theorem z8z:("list":Str).length<=aM:=by rw [av];decide+kernel
theorem z4q:findCls ([]:Frag) (.type "bytes") (.type "type") "__name__" =some (.get (.builtin "getset_descriptor.__get__") (.builtin "type.__name__") (.type "bytes") (.type "type")):=by kernel_rfl
theorem z4r:ktynFast "bytes" = "bytes" :=by kernel_rfl
theorem z4s:("bytes":Str).length<=aM:=by rw [av];decide+kernel
theorem jcd:kitMeta "int" =true:=by decide+kernel
theorem jce:f9 "int" =false:=by decide+kernel
theorem z4t(F:Fr h₀ L s.heap m)(h: ∀tk u,Q (.str "int" tk) {s with toks:=u}):wpAny (model prog w) A (getAttr (.type "int") "__name__" true) Q E s:=qO (T:="int") (q:="int") F jcd jce jca jcb jcc h
theorem zs5:kitMeta "NoneType" =true:=by decide+kernel
theorem zs6:f9 "NoneType" =false:=by decide+kernel
theorem zo8(F:Fr h₀ L s.heap m)(h: ∀tk u,Q (.str "NoneType" tk) {s with toks:=u}):wpAny (model prog w) A (getAttr (.type "NoneType") "__name__" true) Q E s:=qO (T:="NoneType") (q:="NoneType") F zs5 zs6 zs2 zs3 zs4 h
theorem z80:kitMeta "list" =true:=by decide+kernel
theorem z81:f9 "list" =false:=by decide+kernel
theorem z1g(F:Fr h₀ L s.heap m)(h: ∀tk u,Q (.str "list" tk) {s with toks:=u}):wpAny (model prog w) A (getAttr (.type "list") "__name__" true) Q E s:=qO (T:="list") (q:="list") F z80 z81 z8x z8y z8z h
theorem z4u:kitMeta "bytes" =true:=by decide+kernel
theorem z4v:f9 "bytes" =false:=by decide+kernel
theorem zwl(F:Fr h₀ L s.heap m)(h: ∀tk u,Q (.str "bytes" tk) {s with toks:=u}):wpAny (model prog w) A (getAttr (.type "bytes") "__name__" true) Q E s:=qO (T:="bytes") (q:="bytes") F z4u z4v z4q z4r z4s h
theorem z82(F:Fr h₀ L s.heap m)(hn:n<4)(h: ∀tk u,Q (.str (ao (nQ n)) tk) {s with toks:=u}):wpAny (model prog w) A (getAttr (.type (nQ n)) "__name__" true) Q E s:=by
 match n,hn with
 |0,_=>exact z4t F h
 |1,_=>exact zo8 F h
 |2,_=>exact z1g F h
 |3,_=>exact zwl F h
end
section
variable{prog:Program}{w:World}{A:Around}{E:Value->Shared->Prop}{s:Shared}{env:Env}
theorem z83(T:Thing s.heap n v)(h:Q (.type (nQ n)) s):wpAny (model prog w) A (call (.type "type") [v]) Q E s:=by
 obtain ⟨hp,g,d,tk,os⟩:=s;cases T with
 |l a t k ha=>exact call_type_obj ha (show (eH "list" ==eH "builtin_function_or_method")=false by decide) h
 |_=>
  show let z_:=_;let y_:=_;wpAny _ _ _ z_ y_ _;intro z_ y_;refine gj (fj ?_);show wpAny _ _ (callAny (.type "type") ⟨[_],[]⟩) _ _ _;refine am ⟨Code.quiet_builtin _ (by decide+kernel),codeAny_builtin entry_type_call ?_⟩;unfold Builtin.«type.__call__»;dsimp only
  repeat wp_step
  exact h
end
noncomputable def pT(n:Nat):Str:=match n with
 |0=>"7"
 |1=>"None"
 |2=>"['&']"
 |_=>"b'&'"
theorem zwm(T:Thing s.heap n v)(hg:A.guards=some [])(hu:A.units+2<cLine)(q: ∀h' u tk,(∀b o,s.heap.get? b=some o->h'.get? b=some o)->Q (.str (pT n) u) {s with heap:=h',toks:=tk}):wpAny (model prog w) A (pyReprObj v) Q E s:=by
 cases T with
 |i t=>exact ij (gn s 7 t) F.slot_int_repr F.entry_int_repr (F.args_int_repr_1 _) (gives_int_repr 7 t (by decide+kernel)) (q s.heap _ _ λJ J e=>e) rfl (by rw [av];decide+kernel)
 |n=>exact ij (T:="NoneType") rfl F.slot_NoneType_repr F.entry_NoneType_repr (F.args_NoneType_repr_1 _) gives_none_repr (q s.heap _ _ λJ J e=>e) rfl (by rw [av];decide+kernel)
 |b t=>exact ij (T:="bytes") rfl zl4 zkc (zl5 _) (z1f t) (q s.heap _ _ λJ J e=>e) rfl (by rw [av];decide+kernel)
 |l a t k ha=>
  have e:listText ["'&'"]= "['&']" :=by decide+kernel
  refine wpAny_pyReprObj_listK (as:=[]) (h₀:=s.heap) (d:=0) (x:=.str "&" t) (l:=[]) (ts:=["'&'"]) ha rfl rfl (λh=>nomatch h) rfl (λi y hy=>?_) hg (λb J=>.nil b) (by lia) (λJ J e=>e) (λh' u tk hk=>?_) ?_
  ·cases i with
   |zero=>simp at hy;subst hy;refine bK _ rfl (.of_is ?_ _ _ _);have:=ReprIs.str (prog:=prog) (w:=w) "&" t (by rw [av];decide+kernel);rw [show reprText "&" = "'&'" by decide+kernel]at this;exact this
   |succ i=>simp at hy
  ·rw [e];exact q h' u tk hk
  ·rw [e,av];decide+kernel
theorem zwn(n:Nat):(pT n).length<=20/\(ao (nQ n)).length<=20:=by
 match n with
 |0=>exact ⟨by decide+kernel,by decide+kernel⟩
 |1=>exact ⟨by decide+kernel,by decide+kernel⟩
 |2=>exact ⟨by decide+kernel,by decide+kernel⟩
 |(k+3)=>exact ⟨by show ("b'&'":Str).length<=20;decide+kernel,by show ("bytes":Str).length<=20;decide+kernel⟩
section
variable{prog:Program}{w:World}{A:Around}{E:Value->Shared->Prop}{s:Shared}{env:Env}
theorem z1h(hx:x.length<=20)(h: ∀u k,Q (.str x u) {s with toks:=k}):wpAny (model prog w) A (formatField (.str x t) Str.empty) Q E s:=wpAny_formatField_str (h t s.toks) (h _ _) (aa hx (by rw [av];decide))
theorem z4w(hx:x.length<=20)(h: ∀u k,Q (.str x u) {s with toks:=k}):wpAny (model prog w) A (convS (.str x t)) Q E s:=wpAny_habitSame_str (h t s.toks) (h _ _) (aa hx (by rw [av];decide))
theorem zwo(hk:env.scope.kind= .function)(hl:env.kindOf "text" =some .local)(hL:env.locals=L)(Fr0:Fr h₀ L s.heap m)(hv:m "text" =some v)(T:Thing s.heap n v)(hn4:n<4)(hh:A.handled=some (.ref h0))(hg:A.guards=some [])(hu:A.units+4<cLine)(hTE: ∀(p:Pos) (s':Shared) (Q':Value->Shared->Prop),(∀b o,s.heap.get? b=some o->s'.heap.get? b=some o)->Q' (.type "TypeError") s'->wpAny (model prog w) A (eval (.Name "TypeError" p) env) Q' E s')(hty: ∀(p:Pos) (s':Shared) (Q':Value->Shared->Prop),(∀b o,s.heap.get? b=some o->s'.heap.get? b=some o)->Q' (.type "type") s'->wpAny (model prog w) A (eval (.Name "type" p) env) Q' E s')(he0: ∃o0 vs0,s.heap.get? h0=some o0/\o0.data= .fields vs0/\vs0[2]?=some .none)(h: ∀h' tk e t u,(∀b o,s.heap.get? b=some o->h'.get? b=some o)->s.heap.get? e=none->h'.get? e=some {cls:=.type "TypeError",data:=.fields #[.ref t,.none,.ref h0,.none,.bool false,.none]}->s.heap.get? t=none-> h'.get? t=some {cls:=.type "tuple",data:=.seq #[.str (jb9 (pT n) (ao (nQ n))) u]}->E (.ref e) {s with heap:=h',toks:=tk}): wpAny (model prog w) A (execs (.Raise (some (.Call (.Name "TypeError" np) [.JoinedStr [.Constant (.str "cannot serialize ") k1 p1,.FormattedValue (.Name "text" p2) 114 none p3,.Constant (.str " (type ") k2 p4,.FormattedValue (.Attribute (.Call (.Name "type" p5) [.Name "text" p6] [] p7) "__name__" p8) 115 none p9,.Constant (.str ")") k3 p10] p11] [] cpos)) none pos::rest) env) Q E s:=by
 show let g_:=_;g_;intro g_;subst hL;refine ay (zo7 F.excCall_TypeError F.excRaise_TypeError hh rfl (hTE _ _ _ (λJ J e=>e) ⟨rfl,?_⟩));show let z_:=_;let y_:=_;wpAny _ _ _ z_ y_ _;intro z_ y_;refine i7 rfl (bq (wpAny_JoinedStr (pos:=p11) ?_));have l1:("cannot serialize ":Str).length<=20:=by decide+kernel
 have l2:(" (type ":Str).length<=20:=by decide+kernel
 have l3:(")":Str).length<=20:=by decide+kernel
 refine xA (zwn n) λl4 l5=>?_
 have sz: ∀{x y:Str} {k:Nat},x.length<=k->y.length<=20->(x++y).length<=k+20:=λ{x y k} a b=>by rw [gE];lia
 refine Constant_str (k:=k1) (pos:=p1) (eg _ _ rfl ?_ ?_)
 ·rw [gU,av];lia
 rw [gU];show let z_:=_;let y_:=_;wpAny _ _ _ z_ y_ _;intro z_ y_;refine wpAny_FormattedValue_repr (bU (br hk hl Fr0.ns hv ?_) (by decide));refine zwm (s:={s with toks:=s.toks+1}) T hg (by lia) λh' u tk hk'=>z1h l4 λu1 tk1=>eg _ _ rfl (by rw [av];exact aa (sz l1 l4) (by decide)) ?_
 refine Constant_str (k:=k2) (pos:=p4) (eg _ _ rfl (by rw [av];exact aa (sz (sz l1 l4) l2) (by decide)) ?_);show let z_:=_;let y_:=_;wpAny _ _ _ z_ y_ _;intro z_ y_;have Fr1:Fr h₀ env.locals h' m:=⟨by obtain ⟨o,es,ep,e,r⟩:=Fr0.ns;exact (gz o es ep (hk' _ _ e) r),λb o e=>hk' _ _ (Fr0.keep _ _ e),Fr0.above⟩;refine wpAny_FormattedValue_s ?_;rw [arm_eval_Attribute,lp rfl];refine ab (bX (hty _ {s with heap:=h',toks:=tk1+1} _ hk' ?_));refine PyProof.Rows.callWith_type1 (bq (bU (br hk hl Fr1.ns hv (bR (z83 (s:={s with heap:=h',toks:=tk1+1}) (T.keep hk') ?_))) (by decide)));refine ab (bf (ab (aX (z82 (s:={s with heap:=h',toks:=tk1+1}) Fr1 hn4 λtk2 u2=>ab (wpAny_letTemporaryGo (am ?_))))));refine z4w l5 λu3 tk3=>z1h l5 λu4 tk4=>eg _ _ rfl (by rw [av];exact aa (sz (sz (sz l1 l4) l2) l5) (by decide)) ?_
 refine Constant_str (k:=k3) (pos:=p10) (eg _ _ rfl (by rw [av];exact aa (sz (sz (sz (sz l1 l4) l2) l5) l3) (by decide)) ?_);refine ⟨by rw [av];exact aa (sz (sz (sz (sz l1 l4) l2) l5) l3) (by decide),?_⟩;refine bR ⟨rfl,by rw [av];exact (show 1<=16777216 by decide),?_,λh'' e hm=>?_⟩
 ·show let g_:=_;g_;intro g_;refine ek he0 λo0 vs0 g1 g2 g3=>?_
  exact eg o0 vs0 (hk' _ _ g1) g2 g3
 ·refine fT hm.there λt x1 x2 x3=>?_
  have hte:t≠e:=λq=>by subst q;have:=congrArg Obj.cls (Option.some.inj (x1.symm.trans x3));exact absurd this (show (eH "TypeError")≠eH "tuple" by decide)
  have no: ∀b,h'.get? b=none->s.heap.get? b=none:=λb hb=>by
   cases hq:s.heap.get? b with
   |none=>rfl
   |some o=>exact cu (hb.symm.trans (hk' _ _ hq))
  refine h _ _ e t (tk4+1) (λb o hb=>?_) (no _ hm.new) (cV _ x1 rfl) (no _ x2) ?_
  ·have hbe:e≠b:=λq=>by subst q;exact cu ((no _ hm.new).symm.trans hb)
   rw [cR _ _ hbe];exact hm.keeps _ _ (hk' _ _ hb)
  ·rw [cR _ _ (dh hte)];exact x3
end
structure Gr(base:Heap)(mg mb:Str->Option Value):Prop where
 main:base.Ns aP mg
 bui:base.Ns cM mb
theorem qC{base h:Heap}(k:base.StaysIn h){a:Addr}{m:Str->Option Value}(n:base.Ns a m):h.Ns a m:=by
 refine gO n λo es ep e r=>?_
 exact gz o es ep (k _ _ e) r
def Means(mg mb:Str->Option Value)(x:Str)(v:Value):Prop:=mg x=some v\/(mg x=none/\mb x=some v)
structure Pl(env:Env):Prop where
 k:env.scope.kind= .function
 g:env.globals=aP
 b:env.builtins=cM
theorem lD{M:Model}{A:Around}{E:Value->Shared->Prop}{s:Shared}{base:Heap}{mg mb:Str->Option Value}{env:Env}{x:Str}{v:Value}{p:Pos}{Q:Value->Shared->Prop}(G:Gr base mg mb)(hs:base.StaysIn s.heap)(pl:Pl env)(hx:env.kindOf x=some .globalImplicit)(hd:(x==("__debug__" :Str))=false)(hv:Means mg mb x v)(q:Q v s):wpAny M A (eval (.Name x p) env) Q E s:=by
 refine Name_function_global pl.k hx ?_ hd;have n1:=qC hs G.main;rcases hv with hv|⟨h1,h2⟩
 ·exact loadGlobal_global (pl.g▸n1) hv q
 ·exact gr (pl.g▸n1) h1 (pl.b▸(qC hs G.bui)) h2 q
structure FnH(h:Heap)(name:Str)(params:Arguments)(body:List Stmt)(scope:Scope)(a c:Addr):Prop where
 o: ∃o pm doc,h.get? a=some o/\o.data= .func (docDef name params body scope pm (.ref c) doc)
 code:h.CodeRec (.ref c) name
structure One(params:Arguments)(scope:Scope)(x:Str):Prop where
 par: ∃ar:Arg,params=⟨[],[ar],none,[],[],none,[]⟩/\ar.arg=x
 loc:scope.names.lookup x=some .local
 fn:scope.kind= .function
 co:scope.isCoroutine=false
 gen:scope.isGenerator=false
 cells: ∀y∈scope.names,y.2≠ .cell
theorem zuo(hroom:A.depth<bL)(fh:FnH s.heap name params body scope a c)(hlim:s.heap.NoLimit)(on:One params scope x)(h: ∀h_1,Fr s.heap s.heap.objs.size h_1 (λy=>[(x,v)].reverse.lookup y)-> wpAny (model prog w) (A.deeper (envOf name scope s.heap.objs.size a (.ref c))) (execs body (envOf name scope s.heap.objs.size a (.ref c))) (λf s'=>Q (match f with| .ret v=>v|_=>.none) s') (λe s'=>wpAny (model prog w) (A.deeper (envOf name scope s.heap.objs.size a (.ref c))) (leaving (envOf name scope s.heap.objs.size a (.ref c)) e) (λJ s''=>E e s'') (λe' s''=>E e' s'') s') {s with heap:=h_1,toks:=s.toks+1}):wpAny (model prog w) A (call (.ref a) [v]) Q E s:=by
 show let g_:=_;g_;intro g_;refine gO fh.o λo pm doc ho hd=>?_
 refine aN on.par λar e_ e_1=>?_
 subst e_ e_1;refine gj (call_plain hroom ho hd hlim fh.code (nG (as:=[ar]) (vals:=[v]) rfl rfl rfl (by simp)) (λy hy=>?_) h on.co on.gen on.fn on.cells);obtain rfl:=aE.mp hy;exact on.loc
noncomputable def wordsOf(n:Nat):Str:=jb9 (pT n) (ao (nQ n))
theorem mq{base h:Heap}(k:base.StaysIn h){b:Addr}(e:h.get? b=none):base.get? b=none:=by
 cases hq:base.get? b with
 |none=>rfl
 |some o=>exact cu (e.symm.trans (k _ _ hq))
inductive qx:List Stmt->Prop
 |mk {np p1 p2 p3 p4 p5 p6 p7 p8 p9 p10 p11 cpos pos:Pos} {k1 k2 k3:Nat}:qx [.Raise (some (.Call (.Name "TypeError" np) [.JoinedStr [.Constant (.str "cannot serialize ") k1 p1,.FormattedValue (.Name "text" p2) 114 none p3,.Constant (.str " (type ") k2 p4,.FormattedValue (.Attribute (.Call (.Name "type" p5) [.Name "text" p6] [] p7) "__name__" p8) 115 none p9,.Constant (.str ")") k3 p10] p11] [] cpos)) none pos]
section
variable{prog:Program}{w:World}{A:Around}{E:Value->Shared->Prop}{s:Shared}
theorem z4x{base:Heap}{outer:List Env}{mg mb:Str->Option Value}{name:Str}{params:Arguments}{body:List Stmt}{scope:Scope}{a c h0:Addr}{n:Nat}{v:Value}{Q:Value->Shared->Prop}(G:Gr base mg mb)(K:Below A base outer s.heap)(fh:FnH s.heap name params body scope a c)(hB:qx body)(on:One params scope "text")(hlim:s.heap.NoLimit)(hroom:A.depth<bL)(kTE:scope.names.lookup ("TypeError":Str)=some .globalImplicit)(kty:scope.names.lookup ("type":Str)=some .globalImplicit)(mTE:Means mg mb "TypeError" (.type "TypeError"))(mty:Means mg mb "type" (.type "type"))(T:Thing s.heap n v)(hn4:n<4)(hh:A.handled=some (.ref h0))(hg:A.guards=some [])(hu:A.units+7<cLine)(he0: ∃o0 vs0,s.heap.get? h0=some o0/\o0.data= .fields vs0/\vs0[2]?=some .none)(h: ∀h' tk e t u,Heap.FlyingW base outer e (.type "TypeError") (.ref t) h'->h'.TupAt t [.str (wordsOf n) u]->base.get? t=none->s.heap.UpToSlots h'->E (.ref e) {s with heap:=h',toks:=tk}): wpAny (model prog w) A (call (.ref a) [v]) Q E s:=by
 show let g_:=_;g_;intro g_;cases hB;refine zuo hroom fh hlim on λh_1 F1=>?_
 have K1:=K.push (name:=name) (a:=a) (cd:=.ref c) F1 on.fn;generalize henv:envOf name scope s.heap.objs.size a (.ref c)=env at K1⊢;have hf:env.frame=some s.heap.objs.size:=by rw [<-henv];rfl
 have hloc:env.locals=s.heap.objs.size:=by rw [<-henv];rfl
 have hkind: ∀x,env.kindOf x=scope.names.lookup x:=λx=>by rw [<-henv];rfl
 have pl:Pl env:=by rw [<-henv];exact ⟨on.fn,rfl,rfl⟩
 show let g_:=_;g_;intro g_;refine ek he0 λo0 vs0 g1 g2 g3=>?_
 show let z_:=_;let y_:=_;wpAny _ _ _ z_ y_ _;intro z_ y_;have hbs: ∀(s':Shared),(∀b o,h_1.get? b=some o->s'.heap.get? b=some o)->base.StaysIn s'.heap:=λs' k b o e=>k _ _ (K1.stays b o e)
 refine zwo (h0:=h0) (L:=s.heap.objs.size) (h₀:=s.heap) (m:=λy=>[(ao "text",v)].reverse.lookup y) (n:=n) (v:=v) (s:={s with heap:=h_1,toks:=s.toks+1}) pl.k ((hkind _).trans on.loc) hloc F1 rfl (T.keep F1.keep) hn4 hh hg (by show A.units+3+4<cLine;lia)
  (λp s' Q' hk q=>lD G (hbs s' hk) pl ((hkind _).trans kTE) (by decide) mTE q) (λp s' Q' hk q=>lD G (hbs s' hk) pl ((hkind _).trans kty) (by decide) mty q) ⟨o0,vs0,F1.keep _ _ g1,g2,g3⟩ λh' tk e t u hk hen he htn ht=>?_
 refine wpAny_leaving_firstW (base:=base) (env:=env) (outer:=outer) (a0:=.ref t) (s:={s with heap:=h',toks:=tk}) K1.stack (K1.frames.of_keeps λb o e J=>⟨o,hk b o e,rfl⟩) hf he (hbs {s with heap:=h',toks:=tk} hk) (mq K1.stays hen) rfl rfl rfl λh'' hL=>?_
 show let g_:=_;g_;intro g_;obtain ⟨x1,⟨J,J,x2⟩,x3,x4⟩:=hL;exact h h'' tk e t u ⟨x1,mq K1.stays hen,x2,x3⟩ (Heap.TupAt.of_slots ⟨_,_,ht,rfl,rfl⟩ x4) (mq K1.stays htn) ((gX λb o e=>hk _ _ (F1.keep _ _ e)).trans x4)
end
theorem z5y:dv (.type "TypeError") (.type "BaseException")=pure true:=by rw [cW];kernel_rfl
theorem jcf:dv (.type "AttributeError") (.type "BaseException")=pure true:=by rw [cW];kernel_rfl
theorem jcg:dv (.type ((iA "TypeError").elim "type" λx=>x.metatype)) (.type "tuple")=pure false:=isSubtype_of_subB (by decide+kernel)
theorem jde:dv (.type ((iA "AttributeError").elim "type" λx=>x.metatype)) (.type "tuple")=pure false:=isSubtype_of_subB (by decide+kernel)
theorem jch:dv (.type "TypeError") (.type "AttributeError")=pure false:=by rw [cW];kernel_rfl
theorem jci:dv (.type "AttributeError") (.type "TypeError")=pure false:=by rw [cW];kernel_rfl
theorem jcj:dv (.type "AttributeError") (.type "AttributeError")=pure true:=by rw [cW];kernel_rfl
theorem z84(n:Nat): ∃b1 b2,dv (.type (nn n)) (.type "TypeError")=pure b1/\dv (.type (nn n)) (.type "AttributeError")=pure b2/\(b1||b2)=true:=by
 unfold nn;by_cases h:n=2
 ·rw [if_pos h];exact eg _ _ jci jcj rfl
 ·rw [if_neg h];exact eg _ _ uS jch rfl
section
variable{M:Model}{A:Around}{E:Value->Shared->Prop}{s:Shared}
theorem z4y(hh:Heap.HeldW base l e cls a0 L s.heap)(h: ∀h',Heap.HeldW base l e cls a0 L h'->s.heap.UpToSlots h'->Q () {s with heap:=h'}):wpAny M A (setFlight (.ref e) (some L)) Q E s:=by
 obtain ⟨hkb,f2,hl,oe,vs,T,oT,ts,he,hcls,hd,h1,hnT,hTe,hT,hdT,h3⟩:=hh;have hsz3:=(dg.mp h3).1;have other: ∀b,b≠T->(s.heap.update T (cX (·.setIfInBounds 3 ((some L:Option Addr).elim bV λf=>rawInt f)))).get? b=s.heap.get? b:=λb hb=>cR _ _ (dh hb)
 have noRecord: ∀b o,s.heap.get? b=some o->(∀vs,o.data≠ .fields vs)->b≠T:=λb o hb hnf q=>by rw [q,hT]at hb;injection hb with hb;subst hb;exact hnf ts hdT
 refine ab (gB he hd h1 ?_);rw [if_pos (show (dz T !=bV)=true from by simp)];refine iw hT hdT hsz3 (h _ ⟨λb o hbo=>(other b λq=>by rw [q,hnT]at hbo;cases hbo).trans (hkb b o hbo),f2,
  hl.of_keeps λb o hb hnf=>⟨o,(other b (noRecord b o hb hnf)).trans hb,rfl⟩,?_⟩ λb o hb hnf=>⟨o.slots,(other b (noRecord b o hb hnf)).trans hb⟩)
 exact ⟨oe,vs,T,_,_,(other e (dh hTe)).trans he,hcls,hd,h1,hnT,hTe,cV _ hT (im (er hdT _)),er hdT _,by simp [hsz3]⟩
theorem z1i(hf:env.frame=some L)(hh:Heap.HeldW base l e cls a0 L s.heap)(h: ∀h',Heap.HeldW base l e cls a0 L h'->s.heap.UpToSlots h'->E (.ref e) {s with heap:=h'}):cameBackBy M A env E (.ref e) s:=by have hh':=hh;show let g_:=_;g_;intro g_;obtain ⟨hkb,f2,hl,oe,vs,T,oT,ts,he,hcls,hd,h1,hnT,hTe,hT,hdT,h3⟩:=hh';refine ab (gB he hd h1 ?_);rw [if_neg (show¬((dz T==bV)=true) from by simp),hf];exact z4y hh h
theorem zs7(hf:env.frame=some L)(hh:Heap.HeldW base (env::outer) e cls a0 L s.heap)(hQ: ∀h',Heap.FlyingW base outer e cls a0 h'->s.heap.UpToSlots h'->Q () {s with heap:=h'}):wpAny M A (leaving env (.ref e)) Q E s:=by
 refine ab (wpAny_noteFrame_againW hf hh.2.2.2 ?_);refine wpAny_landsW hh λh' hfl hs=>?_
 show let g_:=_;g_;intro g_;obtain ⟨k1,k2,⟨J,J,k3⟩,k4⟩:=hfl;exact hQ h' ⟨k1,k2,k3,k4⟩ hs
end
inductive lK:List Stmt->Prop
 |mk {x y:Str} {r1 r2 rest:List Stmt} {k1 k2 k3 k4:Nat} {p1 p2 p3 p4 p5 p6 p7 p8 p9 pa pb q1 q2 q3 q4 q5 q6 q7 q8 pos:Pos}:lK [.Try (.If (.Compare (.Constant (.str "&") k1 p1) [.In] [.Name "text" p2] p3) (.Assign [.Name "text" p4] (.Call (.Attribute (.Name "text" p5) "replace" p6) [.Constant (.str x) k2 pa,.Constant (.str y) k3 pb] [] p7) p8::r1) r2 p9::rest)
   [.ExceptHandler (some (.Tuple [.Name "TypeError" q1,.Name "AttributeError" q2] k4 q3)) none [.Expr (.Call (.Name "_raise_serialization_error" q4) [.Name "text" q5] [] q6) q7] q8] [] [] pos]
structure Ser(base:Heap)(mg:Str->Option Value):Prop where
 all: ∃name params body scope a c,mg ("_raise_serialization_error":Str)=some (.ref a)/\FnH base name params body scope a c/\qx body/\One params scope "text" /\scope.names.lookup ("TypeError":Str)=some .globalImplicit/\scope.names.lookup ("type":Str)=some .globalImplicit
theorem FnH.stays(k:base.StaysIn h)(f:FnH base name params body scope a c):FnH h name params body scope a c:=⟨by obtain ⟨o,pm,doc,h1,h2⟩:=f.o;exact (gz o pm doc (k _ _ h1) h2),f.code.keeps k⟩
section
variable{prog:Program}{w:World}{A:Around}{E:Value->Shared->Prop}{s:Shared}
theorem z1j(G:Gr base mg mb)(SR:Ser base mg)(K:Below A base outer s.heap)(fh:FnH s.heap name params body scope a c)(hB:lK body)(on:One params scope "text")(hlim: ∀h,base.StaysIn h->h.NoLimit)(hroom:A.depth+1<bL)(kTE:scope.names.lookup ("TypeError":Str)=some .globalImplicit)(kAE:scope.names.lookup ("AttributeError":Str)=some .globalImplicit)(kS:scope.names.lookup ("_raise_serialization_error":Str)=some .globalImplicit)(mTE:Means mg mb "TypeError" (.type "TypeError"))(mAE:Means mg mb "AttributeError" (.type "AttributeError"))(mty:Means mg mb "type" (.type "type"))(T:Thing s.heap n v)(hTo': ∀b,v= .ref b->b∉outer.filterMap (·.frame))(hn4:n<4)(hh:A.handled=none)(hg:A.guards=some [])(hu:A.units+10<cLine)(h: ∀h' tk e t u,Heap.FlyingW base outer e (.type "TypeError") (.ref t) h'->h'.TupAt t [.str (wordsOf n) u]->base.get? t=none->s.heap.UpToSlots h'->E (.ref e) {s with heap:=h',toks:=tk}): wpAny (model prog w) A (call (.ref a) [v]) Q E s:=by
 cases hB;refine zuo (by lia) fh (hlim _ K.stays) on λh_1 F1=>?_
 have K1:=K.push (name:=name) (a:=a) (cd:=.ref c) F1 on.fn;revert K1;refine genE (envOf name scope s.heap.objs.size a (.ref c)) λenv henv K1=>?_
 have hf:env.frame=some s.heap.objs.size:=by rw [<-henv];rfl
 have hloc:env.locals=s.heap.objs.size:=by rw [<-henv];rfl
 have hkind: ∀x,env.kindOf x=scope.names.lookup x:=λx=>by rw [<-henv];rfl
 have pl:Pl env:=by rw [<-henv];exact ⟨on.fn,rfl,rfl⟩
 show let Z:=_;let Y:=_;wpAny _ _ _ Z Y _;intro Z Y;refine ay (wpAny_Try_except (zrd (m:=λy=>[(ao "text",v)].reverse.lookup y) (n:=n) (v:=v) pl.k ((hkind _).trans on.loc) (hloc▸F1.ns) rfl (T.keep F1.keep) hh λh_2 tk_2 e₁ x_1=>?_));show let g_:=_;g_;intro g_;refine lf x_1.there λob vs he hcls hd f1 f2=>?_
 have FF2:=K1.frames.of_keeps λb o e J=>bK o (x_1.keeps b o e) rfl
 refine zwk (base:=base) (env:=env) (outer:=outer) (s:={s with heap:=h_2,toks:=tk_2}) K1.stack FF2 hf he hd f1 λh_3 T_1 oT ts st he3 hT1 hTo hTd hT3=>?_
 show let z_:=_;let y_:=_;wpAny _ _ _ z_ y_ _;intro z_ y_;have hne: ∀b o,h_1.get? b=some o->b≠e₁:=λb o hb q=>by subst q;exact cu (x_1.new.symm.trans hb)
 have hbs3:base.StaysIn h_3:=λb o hb=>(st b o (x_1.keeps _ _ (K1.stays b o hb)) (hne b o (K1.stays b o hb))).1 λhm=>by have:=(FF2.mem hm).1;exact cu (this.symm.trans hb)
 show let g_:=_;g_;intro g_;refine ek (z84 n) λb1 b2 s1 s2 s12=>?_
 have hd_3:=er hd (·.setIfInBounds 1 (dz T_1));refine wpAny_handleBy_tup2 (X:=nn n) (T1:="TypeError") (T2:="AttributeError") z5y jcg jcf jde s1 s2 ?_;refine wpAny_Tuple (bq (lD G hbs3 pl ((hkind _).trans kTE) (by decide) mTE (bq (lD G hbs3 pl ((hkind _).trans kAE) (by decide) mAE (bR ⟨by rw [av];exact (show 2<=16777216 by decide),?_⟩)))));have hp: ∀b o,h_3.get? b=some o->(h_3.push {cls:=.type "tuple",data:=.seq [eH "TypeError",.type "AttributeError"].toArray}).get? b=some o:=λb o e=>aq _ e
 refine k6 _ rfl ⟨_,au _ rfl,rfl,_,rfl⟩ (bK _ (hp _ _ he3) ((Obj.cls_mapFields _ _).trans hcls)) ?_;rw [if_pos s12];revert hp;refine gen (h_3.push {cls:=.type "tuple",data:=.seq [eH "TypeError",.type "AttributeError"].toArray}) λh_4 hp=>?_
 refine wpAny_setFlight_none (s:={s with heap:=h_4,toks:=tk_2}) (hp _ _ he3) hd_3 (by rw [Array.getElem?_setIfInBounds_self,if_pos (dg.mp f1).1]) (hp _ _ hTo) hTd (dg.mp hT3).1 ?_;have oth: ∀b o,h_4.get? b=some o->b≠T_1->(h_4.update T_1 (cX (·.setIfInBounds 3 .none))).get? b=some o:=λb o e hb=>(cR _ _ (dh hb)).trans e
 have nT: ∀b o,h_1.get? b=some o->b≠T_1:=λb o hb q=>by subst q;exact cu (hT1.symm.trans (x_1.keeps _ _ hb))
 have hbs5:base.StaysIn (h_4.update T_1 (cX (·.setIfInBounds 3 .none))):=λb o hb=>oth _ _ (hp _ _ (hbs3 b o hb)) (nT _ _ (K1.stays _ _ hb))
 have up5:h_1.UpToSlots (h_4.update T_1 (cX (·.setIfInBounds 3 .none))):=λb o hb hnf=>by obtain ⟨sl,hs⟩:=(λb o hb J=>(st b o (x_1.keeps _ _ hb) (hne b o hb)).2) b o hb hnf;exact ⟨sl,oth _ _ (hp _ _ hs) (nT _ _ hb)⟩
 have k_5: ∀b o,h_1.get? b=some o->b∉(env::outer).filterMap (·.frame)->(h_4.update T_1 (cX (·.setIfInBounds 3 .none))).get? b=some o:=λb o hb hF=>oth _ _ (hp _ _ ((st b o (x_1.keeps _ _ hb) (hne b o hb)).1 hF)) (nT _ _ hb)
 have he5:=oth _ _ (hp _ _ he3) (dh (λq=>by subst q;exact cu (hT1.symm.trans he)));revert hbs5 up5 k_5 he5;refine gen (h_4.update T_1 (cX (·.setIfInBounds 3 .none))) λh_5 hbs5 up5 k_5 he5=>?_
 show let g_:=_;g_;intro g_;obtain ⟨nS,pS,bS,scS,aS,cS,m1,m2,m3,m4,m5,m6⟩:=SR.all;have K5:Below ((A.deeper env).mark (some (.ref e₁))) base (env::outer) h_5:=⟨K1.stack,hbs5,K1.frames.of_keeps λb o e hnf=>by obtain ⟨sl,hs⟩:=up5 b o e hnf;exact (bK _ hs rfl)⟩;have T5:Thing h_5 n v:=by
  cases T with
  |i t=>exact .i t
  |n=>exact .n
  |b t=>exact .b t
  |l b t k ha=>
   refine .l b t k (k_5 _ _ (F1.keep _ _ ha) λhm=>?_);rw [fC,hf]at hm;rcases aw.mp hm with e|hm
   ·exact bG (aB ha) e
   ·exact hTo' _ rfl hm
 have fS:=m2.stays hbs5;refine gO fS.o λoS pmS docS g1 g2=>?_
 refine ay (dT (bX (lD G hbs5 pl ((hkind _).trans kS) (by decide) (.inl m1) ?_)) (lM pl.k) rfl);refine d7 (o:=oS) (fd:=_) (i7 rfl (bq (bU (br pl.k ((hkind _).trans on.loc) (hloc▸up5.ns F1.ns) (v:=v) rfl (bR ⟨⟨g1,g2⟩,?_⟩)) (by decide))));refine z4x (h0:=e₁) G K5 fS m3 m4 (hlim _ hbs5) (by show A.depth+1<bL;exact hroom) m5 m6 mTE mty T5 hn4 (by show (some (dz e₁)).or A.handled=_;rfl) hg (by show A.units+3+7<cLine;exact hu) (eg _ _ he5 hd_3 (by rw [Array.getElem?_setIfInBounds_ne (by decide)];exact f2)) λh_6 tk6 e_2 t u fl tp hbt up6=>?_
 refine wpAny_looks_onW (s:={s with heap:=h_6,toks:=tk6}) K5.stack hf fl λh_7 hl_7 up7=>?_
 refine z1i (s:={s with heap:=h_7,toks:=tk6}) hf hl_7 λh_8 hl8 up8=>?_
 refine zs7 (s:={s with heap:=h_8,toks:=tk6}) hf hl8 λh_9 fl9 up9=>?_
 exact h h_9 tk6 e_2 t u fl9 (((tp.of_slots up7).of_slots up8).of_slots up9) hbt (((((gX F1.keep).trans up5).trans up6).trans up7).trans (up8.trans up9))
end
section
variable{M:Model}{A:Around}{E:Value->Shared->Prop}{s:Shared}{env:Env}
theorem zwp(pl:Pl env)(hl:env.kindOf n=some .local)(hn:s.heap.Ns env.locals m)(h: ∀h' v,h'.Ns env.locals (λx=>if x=n then v else m x)->Heap.SameBut env.locals s.heap h'->Q () {s with heap:=h',toks:=s.toks+1}): wpAny M A (do bindName env n .none;unbindBehindTheSuite env n pos) Q E s:=by
 have hp:(env.scope.kind== .class||(env.scope.kind== .module&&env.locals !=env.globals))=false:=by rw [pl.k];rfl
 refine ab (gk (eB hl hn (λh_1 hn_1 hs_1=>?_) hp));refine wpAny_onRaise ?_;show let z_:=_;let y_:=_;wpAny _ _ _ z_ y_ _;intro z_ y_;refine ab (wpAny_point (ab ?_));unfold deleteName;simp only [hl,hp];rw [if_neg (by decide)];refine ab (wpAny_nsDel_keeps hn_1 λh_2 v hn_2 hs_2=>?_);simp only [if_true,Option.isSome_some,Bool.not_true,eX,if_false];refine am (wpAny_point (h h_2 v ?_ (hs_1.trans hs_2)));have e:(λx=>if x=n then v else (λx=>if x=n then some bV else m x) x)=λx=>if x=n then v else m x:=by funext x;by_cases hx:x=n<;>simp [hx]
 rw [<-e];exact hn_2
end
noncomputable def framesOf(l:List Env):List Addr:=l.filterMap (·.frame)
def kL(P:List Value->Prop)(h:Heap)(t:Addr):Prop:=∃vs,P vs/\h.TupAt t vs
theorem kL.slots(x:kL P h t)(k:h.UpToSlots h'):kL P h' t:=by
 refine aN x λvs a b=>?_
 exact bK vs a (b.of_slots k)
section
variable{prog:Program}{w:World}{A:Around}{E:Value->Shared->Prop}{s:Shared}{env:Env}
theorem zup(pl:Pl env)(hfr:A.frames=some (env::outer))(hf:env.frame=some L)(hloc:env.locals=L)(G:Gr (hideAll s.heap (framesOf (env::outer))) mg mb)(hn:s.heap.Ns L m)(hm:m "told" =some (.ref D))(hD:s.heap.PlainList D items)(hDF:D∉framesOf (env::outer))(hz:items.size<=100)(kX:env.kindOf xs=some .globalImplicit)(hdX:(xs==("__debug__" :Str))=false)(mX:Means mg mb xs (.type X))(kstr:env.kindOf "str" =some .globalImplicit)(mstr:Means mg mb "str" (.type "str"))(kt:env.kindOf "told" =some .local)(ke:env.kindOf "error" =some .local)(hexc:dv (.type X) (.type "BaseException")=pure true)(hnt:dv (.type ((iA X).elim "type" λx=>x.metatype)) (.type "tuple")=pure false)(hsub:dv (.type X) (.type X)=pure true)(hline1:(a2.endLine==a3.line)=true)(hline2:(b2.endLine==b7.line)=true)(hse: ∀env,bY [inner] env=[(false,eval inner env)])(hin: ∀(E' Q':Value->Shared->Prop),(∀h' tk e t,Heap.FlyingW (hideAll s.heap (framesOf (env::outer))) (env::outer) e (.type X) (.ref t) h'->kL P h' t->(hideAll s.heap (framesOf (env::outer))).get? t=none->s.heap.UpToSlots h'->E' (.ref e) {s with heap:=h',toks:=tk})->wpAny (model prog w) A (eval inner env) Q' E' s)(hstr: ∀(A':Around) (E' Q':Value->Shared->Prop) (s':Shared) (e t:Addr),A'.units=A.units->s'.heap.ExcAt e X (.ref t)->kL P s'.heap t->(∀tm k,Q' (.str msg tm) {s' with toks:=k})->wpAny (model prog w) A' (call (.type "str") [.ref e]) Q' E' s')(q: ∀h' tk m' D2 tm,(∀y,y≠ao "error" ->m' y=m y)->h'.Ns L m'->h'.PlainList D (items.push (.ref D2))->h'.PlainList D2 #[.str msg tm]->s.heap.get? D2=none->(∀b o,s.heap.get? b=some o->b∉framesOf (env::outer)->b≠D->h'.get? b=some o)-> (∀b o,s.heap.get? b=some o->(∀vs,o.data≠ .fields vs)->b≠D->b≠L-> ∃sl,h'.get? b=some {o with slots:=sl})->Q .next {s with heap:=h',toks:=tk}): wpAny (model prog w) A (exec (.Try [.Expr (.Call (.Attribute (.Name "told" a1) ("append":Str) a2) [inner] [] a3) a4] [.ExceptHandler (some (.Name xs a5)) (some "error") [.Expr (.Call (.Attribute (.Name "told" b1) ("append":Str) b2) [.List [.Call (.Name "str" b3) [.Name "error" b4] [] b5] b6] [] b7) b8] a6] [] [] a7) env) Q E s:=by
 show let g_:=_;g_;intro g_;subst hloc;obtain ⟨nD,hD⟩:=hD;have hp:(env.scope.kind== .class||(env.scope.kind== .module&&env.locals !=env.globals))=false:=by rw [pl.k];rfl
 have hst:(backTo a3 (bY [inner] env)).any (·.1)=false:=by rw [hse];rfl
 have hLF:env.locals∈framesOf (env::outer):=by unfold framesOf;rw [fC,hf];exact .head _
 refine wpAny_Try_except (ay (dT (cQ (lp rfl) (by rw [hse];rfl) hline1 rfl (bU (br pl.k kt hn hm ?_) (by decide))) (lM pl.k) rfl));refine iX ("list") ("list.append") gF F.slot_list_append F.type_list_append (bK _ hD rfl) (λb hb=>by cases hb;exact (bK _ hD rfl)) ?_;show let z_:=_;let y_:=_;wpAny _ _ _ z_ y_ _;intro z_ y_;refine dQ hst (i7 hst ?_);rw [hse];refine bq (hin _ _ λh1 tk1 e t fl ok ht up=>?_);refine wpAny_looks_onW (s:={s with heap:=h1,toks:=tk1}) hfr hf fl λh2 held up2=>?_
 refine wpAny_landsW (s:={s with heap:=h2,toks:=tk1}) held λh3 fl3 up3=>?_
 show let g_:=_;g_;intro g_;refine aN fl3.2.2.2.at.there λob hob hobc=>?_
 refine wpAny_handleBy_builtin_as (s:={s with heap:=h3,toks:=tk1}) (X:=X) (T:=X) (b:=true) hexc hnt hsub (lD G fl3.1 pl kX hdX mX ⟨rfl,(bK ob hob hobc),?_⟩);rw [if_pos rfl];refine lands_againW (s:={s with heap:=h3,toks:=tk1}) fl3 λh4 fl4 up4=>?_
 have up14:=((up.trans up2).trans up3).trans up4;have ok4:=((ok.slots up2).slots up3).slots up4;have hn4:=up14.ns hn;refine eB (s:={s with heap:=h4,toks:=tk1}) ke hn4 (λh5 hn5 hs5=>?_) hp;show let z_:=_;let y_:=_;wpAny _ _ _ z_ y_ _;intro z_ y_;have st5:(hideAll s.heap (framesOf (env::outer))).StaysIn h5:=λb o hb=>(hs5.2 b λq'=>by subst q';rw [hideAll_none _ hLF]at hb;exact cu hb).trans (fl4.1 b o hb)
 have hD5:=st5 _ _ (ix _ hD hDF);show let g_:=_;g_;intro g_;refine jL fl4.first λoe vs he4 hc4 hd4 h04=>?_
 have heL:e≠env.locals:=λq'=>by
  refine ql hn4 λoL es ep hL hLd J=>?_
  rw [q',hL]at he4;obtain rfl:=Option.some.inj he4;rw [hLd]at hd4;cases hd4
 have ok5:kL P h5 t:=by
  obtain ⟨as,hP,o,k,ho,hc,hd⟩:=ok4;refine z51 as hP o k ((hs5.2 t λq'=>?_).trans ho) hc hd;refine ql hn4 λoL es ep hL hLd J=>?_
  rw [q',hL]at ho;obtain rfl:=Option.some.inj ho;rw [hLd]at hd;cases hd
 refine ay (dT (cQ (lp rfl) rfl hline2 rfl (bU (br pl.k kt hn5 (v:=.ref D) (by rw [if_neg (by decide)];exact hm) ?_) (by decide))) (lM pl.k) rfl);refine iX ("list") ("list.append") gF F.slot_list_append F.type_list_append (bK _ hD5 rfl) (λb hb=>by cases hb;exact (bK _ hD5 rfl)) ?_;show let z_:=_;let y_:=_;wpAny _ _ _ z_ y_ _;intro z_ y_;refine dQ rfl (i7 rfl (bq (fI (bq (bX (lD G st5 pl kstr (by decide) mstr ?_))))));show let z_:=_;let y_:=_;wpAny _ _ _ z_ y_ _;intro z_ y_;refine PyProof.Rows.callWith_type1 (bq (bU (br pl.k ke hn5 (v:=.ref e) (if_pos rfl) (bR (hstr _ _ _ _ e t rfl ((jK oe vs ((hs5.2 e heL).trans he4) hc4 hd4 h04)) ok5 λtm k=>?_))) (by decide)));refine bR ⟨by rw [av];exact (show 1<=16777216 by decide),bR ?_⟩;refine gQ (⟨nD,aq _ hD5⟩) (λh7 hl7 hs7=>?_) (aa hz (by rw [av];decide));refine cz ?_;have hDL:D≠env.locals:=λq'=>hDF (q'▸hLF)
 have n6:(h5.push {cls:=.type "list",data:=.seq [Value.str msg tm].toArray}).Ns env.locals (λy=>if y=ao "error" then some (.ref e)else m y):=by
  show let g_:=_;g_;intro g_;refine gO hn5 λoL es ep hL r=>?_
  exact gz oL es ep (aq _ hL) r
 refine zwp (s:={s with heap:=h7,toks:=k}) pl ke (n6.sameBut hs7 (dh hDL)) λh8 v8 n8 hs8=>?_
 have h2n:h5.get? h5.objs.size=none:=fZ (az _);have hD2L:h5.objs.size≠env.locals:=λq'=>by
  refine gO hn5 λoL es ep hL r=>?_
  rw [<-q',h2n]at hL;exact cu hL
 have keep58: ∀b o,h5.get? b=some o->b≠env.locals->b≠D->h8.get? b=some o:=λb o hb hbL hbD=>(hs8.2 b hbL).trans ((hs7.2 b hbD).trans (aq _ hb))
 refine q h8 _ _ h5.objs.size tm (λy hy=>?_) n8 ?_ ?_ ?_ (λb o hb hbF hbD=>?_) (λb o hb hnf hbD hbL=>?_)
 ·simp only [if_neg hy]
 ·obtain ⟨k7,hl7⟩:=hl7;exact ⟨k7,(hs8.2 D hDL).trans hl7⟩
 ·exact ⟨_,(hs8.2 _ hD2L).trans ((hs7.2 _ (dh (bG (aB hD5)))).trans (au _ rfl))⟩
 ·cases hq:s.heap.get? h5.objs.size with
  |none=>rfl
  |some o=>
   by_cases hF:h5.objs.size∈framesOf (env::outer)
   ·obtain ⟨J,o',ho',J⟩:=fl4.2.2.1.mem hF;have:=aB ho';rw [hs5.1]at this;exact absurd this (aW _)
   ·exact cu (h2n.symm.trans (st5 _ _ (ix _ hq hF)))
 ·exact keep58 b o (st5 _ _ (ix _ hb hbF)) (λq'=>hbF (q'▸hLF)) hbD
 ·obtain ⟨sl,hs⟩:=up14 b o hb hnf;exact ⟨sl,keep58 _ _ ((hs5.2 b hbL).trans hs) hbL hbD⟩
end
theorem z1k:dv (.type "ZeroDivisionError") (.type "ZeroDivisionError")=pure true:=by rw [cW];kernel_rfl
theorem jck:dv (.type "ZeroDivisionError") (.type "BaseException")=pure true:=by rw [cW];kernel_rfl
theorem jdf:dv (.type ((iA "ZeroDivisionError").elim "type" λx=>x.metatype)) (.type "tuple")=pure false:=isSubtype_of_subB (by decide+kernel)
section
variable{prog:Program}{w:World}{A:Around}{E:Value->Shared->Prop}{s:Shared}{env:Env}
theorem zwq(hh:A.handled=none)(hx:wpAny (model prog w) A (eval (.Name x np) env) (λv s₁=>v= .type "ZeroDivisionError" /\s₁=s) E s)(h: ∀h' e,Heap.MadeExc s.heap h' e "ZeroDivisionError" []->E (.ref e) {s with heap:=h'}): wpAny (model prog w) A (exec (.Raise (some (.Name x np)) none pos) env) Q E s:=by
 have hc:=excClass_ZeroDivisionError;show wpAny (model prog w) A (do standAt pos;raiseStmt env (some (do let v<-eval (.Name x np) env;standAt pos;pure v)) none) Q E s;refine ab (bf ?_);unfold raiseStmt;refine ab (ab (bE hx (λv s₁ h_1=>ab (bf (am ?_))) λJ J e=>e));refine xA h_1 λe_ hs_1=>?_
 subst e_ s₁;refine ab (am ?_);dsimp only;refine ab (aX ?_);show let z_:=_;let y_:=_;wpAny _ _ _ z_ y_ _;intro z_ y_;refine ab (ab (am ?_));rw [if_pos rfl,hc.base];refine am ?_;rw [if_pos rfl];obtain ⟨hp,g,d,tk,os⟩:=s;refine ab (wpAny_call_exc F.excCall_ZeroDivisionError (λh' e hn=>?_) (by rw [av];decide));show let g_:=_;g_;intro g_;refine fT hn.there λt he J J=>?_
 have hT:(⟨h',g,d,tk,os⟩:Shared).TypeIs (.ref e) "ZeroDivisionError" :=bK _ he rfl;refine ab (gR hT hc.base ?_);refine am ?_
 first|(refine ab (m:=isType (.type "ZeroDivisionError")) (am ?_))|(refine ab (am ?_))
 first|(rw [if_pos rfl])|(simp only [if_true])|dsimp only
 refine ab (aX ?_)
 first|(simp only [eX,if_false])|(rw [if_neg (by decide)])|skip
 first|(refine ab (wpAny_typeOf hT ?_))|(refine ab ?_;refine ab (wpAny_typeOf hT ?_))
 refine ab (call_issubclass (issubclass_self hc z1k) ?_)
 first|(refine ab (dl ?_))|(refine dl ?_)|(dsimp only [wants];first|(refine ab (dl ?_))|(refine dl ?_))
 first|(rw [if_pos rfl])|(simp only [if_true])|skip
 refine am ?_;refine ab (ab (gB (i:=1) (x:=bV) he rfl rfl ?_));rw [if_neg (by decide)];refine am (ab (wpAny_handled ?_));rw [hh]
 first
  |exact wpAny_throw (h h' e hn)
  |exact ab (am (wpAny_throw (h h' e hn)))
end
structure mF(scope:Scope):Prop where
 fn:scope.kind= .function
 co:scope.isCoroutine=false
 gen:scope.isGenerator=false
 cells: ∀y∈scope.names,y.2≠ .cell
section
variable{prog:Program}{w:World}{A:Around}{E:Value->Shared->Prop}{s:Shared}
theorem zre(hroom:A.depth<bL)(fh:FnH s.heap name params body scope a c)(hlim:s.heap.NoLimit)(ps:mF scope)(hpar:params=⟨[],as,none,[],[],none,[]⟩)(hl:as.length=vals.length)(hnd:(as.map (·.arg)).Nodup)(hloc: ∀x∈as.map (·.arg),scope.names.lookup x=some .local)(h: ∀h_1 tk,Fr s.heap s.heap.objs.size h_1 (λy=>((as.map (·.arg)).zip vals).reverse.lookup y)-> wpAny (model prog w) (A.deeper (envOf name scope s.heap.objs.size a (.ref c))) (execs body (envOf name scope s.heap.objs.size a (.ref c))) (λf s'=>Q (match f with| .ret v=>v|_=>.none) s') (λe s'=>wpAny (model prog w) (A.deeper (envOf name scope s.heap.objs.size a (.ref c))) (leaving (envOf name scope s.heap.objs.size a (.ref c)) e) (λJ s''=>E e s'') (λe' s''=>E e' s'') s') {s with heap:=h_1,toks:=tk}):wpAny (model prog w) A (call (.ref a) vals) Q E s:=by
 show let g_:=_;g_;intro g_;refine gO fh.o λo pm doc ho hd=>?_
 subst hpar;refine gj (call_plain hroom ho hd hlim fh.code (nG rfl rfl hl hnd) (λy hy=>hloc _ (j1 hy).1) (λh_1 F=>h h_1 _ F) ps.co ps.gen ps.fn ps.cells)
inductive qB:List Stmt->Prop
 |mk {k:Nat} {p1 p2 p3 p4 p5 p6:Pos} {r1 r2 rest:List Stmt}:qB (.If (.Compare (.Name "b" p1) [.Eq] [.Constant (.int 0) k p2] p3) (.Raise (some (.Name "ZeroDivisionError" p4)) none p5::r1) r2 p6::rest)
theorem z1l(G:Gr base mg mb)(K:Below A base outer s.heap)(fh:FnH s.heap name params body scope a c)(hB:qB body)(ps:mF scope)(hpar:params=⟨[],[x,y],none,[],[],none,[]⟩)(hy:y.arg=ao "b")(hnd:x.arg≠y.arg)(hlx:scope.names.lookup x.arg=some .local)(hly:scope.names.lookup y.arg=some .local)(hlim:s.heap.NoLimit)(hroom:A.depth<bL)(kZ:scope.names.lookup ("ZeroDivisionError":Str)=some .globalImplicit)(mZ:Means mg mb "ZeroDivisionError" (.type "ZeroDivisionError"))(hh:A.handled=none)(h: ∀h' tk e t,Heap.FlyingW base outer e (.type "ZeroDivisionError") (.ref t) h'->kL (· = []) h' t->base.get? t=none->s.heap.UpToSlots h'->E (.ref e) {s with heap:=h',toks:=tk}): wpAny (model prog w) A (call (.ref a) [v,.int 0 t0]) Q E s:=by
 show let g_:=_;g_;intro g_;cases hB;refine zre hroom fh hlim ps hpar rfl (by simp [hnd]) (λz hz=>by
  rcases aw.mp hz with rfl|hz
  ·exact hlx
  ·obtain rfl:=aE.mp hz;exact hly) λh_1 tk F1=>?_
 have K1:=K.push (name:=name) (a:=a) (cd:=.ref c) F1 ps.fn;generalize henv:envOf name scope s.heap.objs.size a (.ref c)=env at K1⊢;have hf:env.frame=some s.heap.objs.size:=by rw [<-henv];rfl
 have hloc:env.locals=s.heap.objs.size:=by rw [<-henv];rfl
 have hkind: ∀x,env.kindOf x=scope.names.lookup x:=λx=>by rw [<-henv];rfl
 have pl:Pl env:=by rw [<-henv];exact ⟨ps.fn,rfl,rfl⟩
 refine ay (wpAny_If (fG (bU (br pl.k (by rw [hkind,<-hy];exact hly) (hloc▸F1.ns) (v:=.int 0 t0) (by simp [hy]) ?_) (by decide)) rfl));refine c7 (PySem.P.eq_int (dl ?_));rw [if_pos (by simp)];refine ay (zwq hh (lD (s:={s with heap:=h_1,toks:=tk+1}) G K1.stays pl ((hkind _).trans kZ) (by decide) mZ ⟨rfl,rfl⟩) λh' e hm=>?_);show let g_:=_;g_;intro g_;refine fT hm.there λt he htn ht=>?_
 refine wpAny_leaving_firstW (base:=base) (env:=env) (outer:=outer) (a0:=.ref t) (s:={s with heap:=h',toks:=tk+1}) K1.stack (K1.frames.of_keeps λb o e J=>⟨o,hm.keeps b o e,rfl⟩) hf he (λb o e=>hm.keeps _ _ (K1.stays b o e)) (mq K1.stays hm.new) rfl rfl rfl λh'' hL=>?_
 show let g_:=_;g_;intro g_;obtain ⟨x1,⟨J,J,x2⟩,x3,x4⟩:=hL;exact h h'' _ e t ⟨x1,mq K1.stays hm.new,x2,x3⟩ ⟨[],rfl,Heap.TupAt.of_slots ⟨_,_,ht,rfl,rfl⟩ x4⟩ (mq K1.stays htn) ((gX λb o e=>hm.keeps _ _ (F1.keep _ _ e)).trans x4)
end
section
variable{prog:Program}{w:World}{A:Around}{E:Value->Shared->Prop}{s:Shared}
def py(h:Heap)(D:Addr)(x y:Str):Prop:=∃D1 D2 t1 t2,h.PlainList D #[.ref D1,.ref D2]/\h.PlainList D1 #[.str x t1]/\h.PlainList D2 #[.str y t2]
theorem py.reads(T:py h D x y): ∃as,Reads h (.ref D) (.list (iR [[x],[y]])) as:=by obtain ⟨D1,D2,t1,t2,⟨n,e⟩,⟨n1,e1⟩,⟨n2,e2⟩⟩:=T;exact ⟨_,.list e rfl rfl (.cons (.list e1 rfl rfl (.cons (.str x t1) .nil)) (.cons (.list e2 rfl rfl (.cons (.str y t2) .nil)) .nil))⟩
theorem z85(T:py s.heap D x y)(T':py s.heap D' x y)(hu:A.units+4<cLine)(hx:jQ x=true)(hy:jQ y=true)(q:Q (.bool true) s):wpAny (model prog w) A (de .Eq (.ref D) (.ref D')) Q E s:=by
 show let g_:=_;g_;intro g_;obtain ⟨as,r⟩:=T.reads;obtain ⟨bs,r'⟩:=T'.reads;have c1:b0 (.list (iR [[x],[y]]))=true:=by rw [b0,sZ];simp [hx,hy]
 have hd:A.units+min (cx (.list (iR [[x],[y]]))) (cx (.list (iR [[x],[y]])))<cLine:=by
  have:cx (.list (iR [[x],[y]]))<=3:=by simp [iR,cx,dJ]
  rw [Nat.min_self];lia
 refine eC r r' c1 c1 hd ?_;rw [dA,ztd,decide_eq_true rfl];exact q
end
theorem zg9{base h h':Heap}: ∀{l:List Env},(∀b∈framesOf l,∀o,h.get? b=some o->(∀vs,o.data≠ .fields vs)-> ∃o',h'.get? b=some o'/\o'.data=o.data)->h.FunFrames base l->h'.FunFrames base l:=by
 intro l;induction l with
 |nil=>exact λJ J=>trivial
 |cons env r ih=>
  intro k ⟨hk,⟨L,o,hf,hn,ho,hd⟩,hr⟩;have hm:framesOf (env::r)=L::framesOf r:=by unfold framesOf;rw [fC,hf]
  obtain ⟨o',ho',hd'⟩:=k L (by rw [hm];exact .head _) o ho hd;exact ⟨hk,(jK L o' hf hn ho' (λvs=>hd'▸hd vs)),ih (λb hb=>k b (by rw [hm];exact .tail _ hb)) hr⟩
theorem qX{base h:Heap}{l:List Env}(F:h.FunFrames base l)(k:base.StaysIn h):base.StaysIn (hideAll h (framesOf l)):=λb o e=>ix _ (k _ _ e) λhm=>by have:=(F.mem hm).1;exact cu (this.symm.trans e)
theorem Gr.stays(k:base.StaysIn h)(G:Gr base mg mb):Gr h mg mb:=⟨qC k G.main,qC k G.bui⟩
theorem Ser.stays(k:base.StaysIn h)(S:Ser base mg):Ser h mg:=by obtain ⟨x,b,c,d,y,f,g1,g2,g3⟩:=S.all;exact ⟨x,b,c,d,y,f,g1,g2.stays k,g3⟩
theorem tI(st:A.frames=some l)(F:h.FunFrames base l):Below A (hideAll h (framesOf l)) l h:=⟨st,λJ J e=>of_hideAll _ e,funFrames_hide F λenv he a hf=>List.mem_filterMap.mpr (bK env he hf)⟩
structure Kit(base:Heap)(mg mb:Str->Option Value):Prop where
 G:Gr base mg mb
 S:Ser base mg
 te:Means mg mb "TypeError" (.type "TypeError")
 ae:Means mg mb "AttributeError" (.type "AttributeError")
 ze:Means mg mb "ZeroDivisionError" (.type "ZeroDivisionError")
 ty:Means mg mb "type" (.type "type")
 st:Means mg mb "str" (.type "str")
 lim: ∀h,base.StaysIn h->h.NoLimit
structure Hand(base:Heap)(a:Addr):Prop where
 all: ∃name params body scope c,FnH base name params body scope a c/\lK body/\One params scope "text" /\scope.names.lookup ("TypeError":Str)=some .globalImplicit/\scope.names.lookup ("AttributeError":Str)=some .globalImplicit/\scope.names.lookup ("_raise_serialization_error":Str)=some .globalImplicit
structure Zero(base:Heap)(mg:Str->Option Value):Prop where
 all: ∃name params body scope a c x y,mg ("int_divmod":Str)=some (.ref a)/\FnH base name params body scope a c/\qB body/\mF scope/\params=⟨[],[x,y],none,[],[],none,[]⟩/\y.arg=ao "b" /\x.arg≠y.arg/\
  scope.names.lookup x.arg=some .local/\scope.names.lookup y.arg=some .local/\scope.names.lookup ("ZeroDivisionError":Str)=some .globalImplicit
section
variable{prog:Program}{w:World}{A:Around}{E:Value->Shared->Prop}{s:Shared}{env:Env}
theorem z86{base:Heap}{outer:List Env}{mg mb m:Str->Option Value}{aH:Addr}{n:Nat}{v:Value}{d1 d2 d3:Pos}{Q:Value->Shared->Prop}(KT:Kit base mg mb)(hH:Hand base aH)(pl:Pl env)(hfr:A.frames=some (env::outer))(FF:s.heap.FunFrames base (env::outer))(hb:base.StaysIn s.heap)(hn:s.heap.Ns env.locals m)(hm1:m "hand" =some (.ref aH))(hm2:m "thing" =some v)(k1:env.kindOf "hand" =some .local)(k2:env.kindOf "thing" =some .local)(T:Thing s.heap n v)(hvF: ∀b,v= .ref b->b∉framesOf (env::outer))(hn4:n<4)(hh:A.handled=none)(hg:A.guards=some [])(hu:A.units+10<cLine)(hroom:A.depth+1<bL)(h: ∀h' tk e t,Heap.FlyingW (hideAll s.heap (framesOf (env::outer))) (env::outer) e (.type "TypeError") (.ref t) h'->kL (λvs=>∃u,vs=[.str (wordsOf n) u]) h' t->(hideAll s.heap (framesOf (env::outer))).get? t=none->s.heap.UpToSlots h'->E (.ref e) {s with heap:=h',toks:=tk}): wpAny (model prog w) A (eval (.Call (.Name "hand" d1) [.Name "thing" d2] [] d3) env) Q E s:=by
 show let g_:=_;g_;intro g_;obtain ⟨nH,pH,bH,scH,cH,g1,g2,g3,g4,g5,g6⟩:=hH.all;have hs:=qX FF hb;have f:=g1.stays hb;refine gO f.o λo pm doc ho hd=>?_
 refine bX (bU (br pl.k k1 hn hm1 ?_) (by decide));refine d7 (o:=o) (i7 rfl (bq (bU (br pl.k k2 hn hm2 (bR ⟨⟨ho,hd⟩,?_⟩)) (by decide))));exact z1j (KT.G.stays hs) (KT.S.stays hs) (tI hfr FF) f g2 g3 (λh' k=>KT.lim h' λb o e=>k _ _ (hs _ _ e)) hroom g4 g5 g6 KT.te KT.ae KT.ty T hvF hn4 hh hg hu λh' tk e t u fl tp hbt up=>h h' tk e t fl (bK _ ⟨u,rfl⟩ tp) hbt up
theorem z87{base:Heap}{outer:List Env}{mg mb:Str->Option Value}{k1 k2:Nat}{d1 d2 d3 d4:Pos}{Q:Value->Shared->Prop}(KT:Kit base mg mb)(hZ:Zero base mg)(pl:Pl env)(hfr:A.frames=some (env::outer))(FF:s.heap.FunFrames base (env::outer))(hb:base.StaysIn s.heap)(kZ:env.kindOf "int_divmod" =some .globalImplicit)(hh:A.handled=none)(hroom:A.depth<bL)(h: ∀h' tk e t,Heap.FlyingW (hideAll s.heap (framesOf (env::outer))) (env::outer) e (.type "ZeroDivisionError") (.ref t) h'->kL (· = []) h' t->(hideAll s.heap (framesOf (env::outer))).get? t=none->s.heap.UpToSlots h'->E (.ref e) {s with heap:=h',toks:=tk}): wpAny (model prog w) A (eval (.Call (.Name "int_divmod" d1) [.Constant (.int 7) k1 d2,.Constant (.int 0) k2 d3] [] d4) env) Q E s:=by
 show let g_:=_;g_;intro g_;obtain ⟨nZ,pZ,bZ,scZ,aZ,cZ,x,y,g0,g1,g2,g3,g4,g5,g6,g7,g8,g9⟩:=hZ.all;have f:=g1.stays hb;refine gO f.o λo pm doc ho hd=>?_
 refine bX (lD KT.G hb pl kZ (by decide) (.inl g0) ?_);refine d7 (o:=o) (i7 rfl (bq (c7 (k:=k1) (pos:=d2) (bq (c7 (k:=k2) (pos:=d3) (bR ⟨⟨ho,hd⟩,?_⟩))))));exact z1l (s:={s with toks:=s.toks+1+1}) (KT.G.stays (qX FF hb)) (tI hfr FF) f g2 g3 g4 g5 g6 g7 g8 (KT.lim _ hb) hroom g9 KT.ze hh h
end
inductive sJ:List Stmt->Prop
 |mk {c1 c2 c3 a1 a2 a3 a4 a5 a6 a7 b1 b2 b3 b4 b5 b6 b7 b8 d1 d2 d3 e1 e2 e3 e4 e5 e6 e7 f1 f2 f3 f4 f5 f6 f7 f8 g1 g2 g3 g4 r1 r2 r3 r4 r5 r6 r7 r8 r9 r10:Pos} {k1 k2 k3 k4:Nat}
  (l1:(a2.endLine==a3.line)=true) (l2:(b2.endLine==b7.line)=true) (l3:(e2.endLine==e3.line)=true) (l4:(f2.endLine==f7.line)=true):
  sJ [.Assign [.Name "told" c1] (.List [] c2) c3,
   .Try [.Expr (.Call (.Attribute (.Name "told" a1) ("append":Str) a2) [.Call (.Name "hand" d1) [.Name "thing" d2] [] d3] [] a3) a4] [.ExceptHandler (some (.Name "TypeError" a5)) (some "error") [.Expr (.Call (.Attribute (.Name "told" b1) ("append":Str) b2) [.List [.Call (.Name "str" b3) [.Name "error" b4] [] b5] b6] [] b7) b8] a6] [] [] a7,
   .Try [.Expr (.Call (.Attribute (.Name "told" e1) ("append":Str) e2) [.Call (.Name "int_divmod" g1) [.Constant (.int 7) k1 g2,.Constant (.int 0) k2 g3] [] g4] [] e3) e4] [.ExceptHandler (some (.Name "ZeroDivisionError" e5)) (some "error") [.Expr (.Call (.Attribute (.Name "told" f1) ("append":Str) f2) [.List [.Call (.Name "str" f3) [.Name "error" f4] [] f5] f6] [] f7) f8] e6] [] [] e7,
   .Return (some (.Compare (.Name "told" r1) [.Eq] [.List [.List [.BinOp (.Constant (.str "cannot serialize ") k3 r2) .Add (.Name "words" r3) r4] r5,.List [.Constant (.str "") k4 r6] r7] r8] r9)) r10]
section
variable{prog:Program}{w:World}{A:Around}{E:Value->Shared->Prop}{s:Shared}
theorem z88(hu:A'.units+2<cLine)(he:s'.heap.ExcAt e "TypeError" (.ref t))(ok:kL (λvs=>∃u,vs=[.str x u]) s'.heap t)(q: ∀tm k,Q' (.str x tm) {s' with toks:=k}):wpAny (model prog w) A' (call (.type "str") [.ref e]) Q' E' s':=by obtain ⟨vs,⟨u,rfl⟩,ht⟩:=ok;exact PySem.P.str_of_exc_one F.excStr_TypeError hu he ht (q u s'.toks)
theorem z4z(hu:A'.units+2<cLine)(he:s'.heap.ExcAt e "ZeroDivisionError" (.ref t))(ok:kL (· = []) s'.heap t)(q: ∀tm k,Q' (.str "" tm) {s' with toks:=k}):wpAny (model prog w) A' (call (.type "str") [.ref e]) Q' E' s':=by
 refine aN ok λvs e_ ht=>?_
 subst e_;exact PySem.P.str_of_exc_none F.excStr_ZeroDivisionError hu he ht (q s'.toks (s'.toks+1))
theorem z89(hl:(x++y).length<=aM)(q: ∀tm k,Q (.str (x++y) tm) {s with toks:=k}):wpAny (model prog w) A (binaryOp .Add (.str x t) (.str y u)) Q E s:=by
 refine PySem.P.add_str ?_;by_cases h1:(x.length==0)=true
 ·rw [if_pos h1];have e:x++y=y:=by
   have:x=⟨#[]⟩:=by obtain ⟨c⟩:=x;simp [fJ]at h1;rw [h1]
   rw [this];exact gU y
  rw [e]at q;exact q u s.toks
 ·rw [if_neg h1];by_cases h2:(y.length==0)=true
  ·rw [if_pos h2];have e:x++y=x:=by
    have:y=⟨#[]⟩:=by obtain ⟨c⟩:=y;simp [fJ]at h2;rw [h2]
    rw [this];obtain ⟨c⟩:=x;show Str.mk (c++ #[])=_;simp
   rw [e]at q;exact q t s.toks
  ·rw [if_neg h2];exact ⟨hl,q _ _⟩
theorem zrf(KT:Kit base mg mb)(hH:Hand base aH)(hZ:Zero base mg)(K:Below A base outer s.heap)(fh:FnH base name params body scope a c)(hB:sJ body)(ps:mF scope)(hpar:params=⟨[],[x1,x2,x3],none,[],[],none,[]⟩)(hx1:x1.arg=ao "hand")(hx2:x2.arg=ao "thing")(hx3:x3.arg=ao "words")(n1:scope.names.lookup ("hand":Str)=some .local)(n2:scope.names.lookup ("thing":Str)=some .local)(n3:scope.names.lookup ("words":Str)=some .local)(n4:scope.names.lookup ("told":Str)=some .local)(n5:scope.names.lookup ("error":Str)=some .local)(m1:scope.names.lookup ("TypeError":Str)=some .globalImplicit)(m2:scope.names.lookup ("ZeroDivisionError":Str)=some .globalImplicit)(m3:scope.names.lookup ("str":Str)=some .globalImplicit)(m4:scope.names.lookup ("int_divmod":Str)=some .globalImplicit)(T:Thing s.heap n v)(hvF: ∀b,v= .ref b->b∉framesOf outer)(hn4:n<4)(hh:A.handled=none)(hg:A.guards=some [])(hu:A.units+20<cLine)(hroom:A.depth+3<bL)(hws:ao "cannot serialize " ++ws=wordsOf n)(hcp:jQ (wordsOf n)=true)(hwl:ws.length<=1000)(q: ∀h' tk,(∀b o,s.heap.get? b=some o->b∉framesOf outer->h'.get? b=some o)->Q (.bool true) {s with heap:=h',toks:=tk}): wpAny (model prog w) A (call (.ref a) [.ref aH,v,.str ws tw]) Q E s:=by
 cases hB with
 | @mk _ _ _ _ _ _ _ _ _ _ _ _ _ _ _ _ _ _ _ _ _ _ _ _ _ _ _ _ _ _ _ _ _ _ _ _ _ _ _ _ _ _ _ _ _ pr6 _ _ _ _ _ _ _ pk4 l1 l2 l3 l4=>
 refine zre (by lia) (fh.stays K.stays) (KT.lim _ K.stays) ps hpar rfl (by simp [hx1,hx2,hx3];decide) (λz hz=>by
  rcases aw.mp hz with rfl|hz
  ·show scope.names.lookup x1.arg=_;rw [hx1];exact n1
  rcases aw.mp hz with rfl|hz
  ·show scope.names.lookup x2.arg=_;rw [hx2];exact n2
  obtain rfl:=aE.mp hz;show scope.names.lookup x3.arg=_;rw [hx3];exact n3) λh_1 tk F1=>?_
 show let z_:=_;let y_:=_;wpAny _ _ _ z_ y_ _;intro z_ y_;have K1:=K.push (name:=name) (a:=a) (cd:=.ref c) F1 ps.fn;generalize henv:envOf name scope s.heap.objs.size a (.ref c)=env at K1⊢;have hf:env.frame=some s.heap.objs.size:=by rw [<-henv];rfl
 have hloc:env.locals=s.heap.objs.size:=by rw [<-henv];rfl
 have hkind: ∀x,env.kindOf x=scope.names.lookup x:=λx=>by rw [<-henv];rfl
 have pl:Pl env:=by rw [<-henv];exact ⟨ps.fn,rfl,rfl⟩
 have hp:(env.scope.kind== .class||(env.scope.kind== .module&&env.locals !=env.globals))=false:=by rw [pl.k];rfl
 have hmF:framesOf (env::outer)=s.heap.objs.size::framesOf outer:=by unfold framesOf;rw [fC,hf]
 have hlt: ∀b o,s.heap.get? b=some o->b≠s.heap.objs.size:=λb o hb=>bG (aB hb)
 refine ay (dp (fI (bR ⟨bD _,?_⟩)) rfl);show let z_:=_;let y_:=_;wpAny _ _ _ z_ y_ _;intro z_ y_;have hn1:(h_1.push {cls:=.type "list",data:=.seq ([]:List Value).toArray}).Ns env.locals (λy=>(([x1,x2,x3].map (·.arg)).zip [dz aH,v,.str ws tw]).reverse.lookup y):=by
  refine gO F1.ns λoL es ep hL r=>?_
  rw [hloc];exact gz oL es ep (aq _ hL) r
 refine eB ((hkind _).trans n4) hn1 (λh_2 hn_2 hs_2=>?_) hp;have lk1:(([x1,x2,x3].map (·.arg)).zip [dz aH,v,.str ws tw]).reverse.lookup ("hand":Str)=some (.ref aH):=by show List.lookup ("hand":Str) [(x3.arg,Value.str ws tw),(x2.arg,v),(x1.arg,.ref aH)]=_;rw [hx1,hx2,hx3];rfl
 have lk2:(([x1,x2,x3].map (·.arg)).zip [dz aH,v,.str ws tw]).reverse.lookup ("thing":Str)=some v:=by show List.lookup ("thing":Str) [(x3.arg,Value.str ws tw),(x2.arg,v),(x1.arg,.ref aH)]=_;rw [hx1,hx2,hx3];rfl
 have lk3:(([x1,x2,x3].map (·.arg)).zip [dz aH,v,.str ws tw]).reverse.lookup ("words":Str)=some (.str ws tw):=by show List.lookup ("words":Str) [(x3.arg,Value.str ws tw),(x2.arg,v),(x1.arg,.ref aH)]=_;rw [hx1,hx2,hx3];rfl
 have hLs:env.locals≠h_1.objs.size:=by
  refine gO F1.ns λoL es ep hL r=>?_
  rw [hloc];exact bG (aB hL)
 have kp2: ∀b o,s.heap.get? b=some o->h_2.get? b=some o:=λb o hb=>(hs_2.2 b (by rw [hloc];exact hlt b o hb)).trans (aq _ (F1.keep _ _ hb))
 have hb_2:base.StaysIn h_2:=λb o hb=>kp2 _ _ (K.stays _ _ hb)
 have hkm:env.scope.kind≠ .module:=by rw [pl.k];decide
 have hbL:base.get? env.locals=none:=by rw [hloc];exact mq K.stays (fZ (az _))
 have FF2:h_2.FunFrames base (env::outer):=.cons hkm (hf.trans (by rw [hloc])) hn_2 hbL (zg9 (λb J o hb J=>(bK o (kp2 _ _ hb) rfl)) K.frames);have hvF': ∀b,v= .ref b->b∉framesOf (env::outer):=λb hv hm=>by
  rw [hmF]at hm;rcases aw.mp hm with e|hm
  ·cases T with
   |l b' t k ha=>cases hv;exact hlt _ _ ha e
   |_=>cases hv
  ·exact hvF b hv hm
 have old: ∀b∈framesOf (env::outer),∃o,h_1.get? b=some o:=λb hb=>by obtain ⟨J,o,ho,J⟩:=K1.frames.mem hb;exact ⟨o,ho⟩
 have hDF:h_1.objs.size∉framesOf (env::outer):=λhm=>by obtain ⟨o,ho⟩:=old _ hm;exact aW _ (aB ho)
 have hD2:h_2.PlainList h_1.objs.size #[]:=⟨_,(hs_2.2 _ (dh hLs)).trans (au _ rfl)⟩;have hu1:(A.deeper env).units+10<cLine:=by show A.units+3+10<cLine;lia
 have hr1:(A.deeper env).depth+1<bL:=by show A.depth+1+1<bL;lia
 refine ay (zup (s:={s with heap:=h_2,toks:=tk+1}) (L:=env.locals) (D:=h_1.objs.size) (items:=#[]) (X:="TypeError") (xs:=ao "TypeError") (msg:=wordsOf n) (P:=λvs=>∃u,vs=[.str (wordsOf n) u]) pl K1.stack (hf.trans (by rw [hloc])) rfl (KT.G.stays (qX FF2 hb_2)) hn_2 (if_pos rfl) hD2 hDF (by decide)
  ((hkind _).trans m1) (by decide) KT.te ((hkind _).trans m3) KT.st ((hkind _).trans n4) ((hkind _).trans n5) z5y jcg uS l1 l2 (λJ=>rfl)
  (λE' Q' hE'=>z86 (s:={s with heap:=h_2,toks:=tk+1}) KT hH pl K1.stack FF2 hb_2 hn_2 (by rw [if_neg (by decide)];exact lk1) (by rw [if_neg (by decide)];exact lk2) ((hkind _).trans n1) ((hkind _).trans n2) (T.keep kp2) hvF' hn4 hh hg hu1 hr1 hE')
  (λA' E' Q' s' e t hA' he ok q=>z88 (by rw [hA'];lia) he ok q) λh_3 tk_3 m_3 D2 tm e1 e2 e3 e4 e5 e6 e7=>?_)
 have hDs: ∀b o,s.heap.get? b=some o->b≠h_1.objs.size:=λb o hb q'=>by subst q';exact cu ((mq F1.keep (fZ (az _))).symm.trans hb)
 have nF: ∀b,b∉framesOf outer->b≠s.heap.objs.size->b∉framesOf (env::outer):=λb h1 h2 hm=>by
  rw [hmF]at hm;rcases aw.mp hm with e|hm
  ·exact h2 e
  ·exact h1 hm
 have kp3: ∀b o,s.heap.get? b=some o->b∉framesOf outer->h_3.get? b=some o:=λb o hb hF=>e6 b o (kp2 _ _ hb) (nF b hF (hlt b o hb)) (hDs b o hb)
 have bF: ∀b o,base.get? b=some o->b∉framesOf outer:=λb o hb hm=>by have:=(K.frames.mem hm).1;exact cu (this.symm.trans hb)
 have hb_3:base.StaysIn h_3:=λb o hb=>kp3 _ _ (K.stays _ _ hb) (bF _ _ hb)
 have FF3:h_3.FunFrames base (env::outer):=.cons hkm (hf.trans (by rw [hloc])) e2 hbL (zg9 (λb J o hb hnf=>by obtain ⟨sl,hs⟩:=e7 b o (kp2 _ _ hb) hnf (hDs b o hb) (by rw [hloc];exact hlt b o hb);exact (bK _ hs rfl)) K.frames);have hm3:=(e1 _ (by decide)).trans (if_pos rfl);refine ay (zup (s:={s with heap:=h_3,toks:=tk_3}) (L:=env.locals) (D:=h_1.objs.size) (items:=#[.ref D2]) (X:="ZeroDivisionError") (xs:=ao "ZeroDivisionError") (msg:="") (P:=(· = [])) pl K1.stack (hf.trans (by rw [hloc])) rfl (KT.G.stays (qX FF3 hb_3)) e2 hm3 e3 hDF (show 1<=100 by decide)
  ((hkind _).trans m2) (by decide) KT.ze ((hkind _).trans m3) KT.st ((hkind _).trans n4) ((hkind _).trans n5) jck jdf z1k l3 l4 (λJ=>rfl)
  (λE' Q' hE'=>z87 (s:={s with heap:=h_3,toks:=tk_3}) KT hZ pl K1.stack FF3 hb_3 ((hkind _).trans m4) hh (lP hr1) hE')
  (λA' E' Q' s' e t hA' he ok q=>z4z (by rw [hA'];lia) he ok q) λh_4 tk_4 m_4 D4 tm' f1 f2 f3 f4 f5 f6 f7=>?_)
 have hD2F:D2∉framesOf (env::outer):=λhm=>by obtain ⟨J,o,ho,J⟩:=FF2.mem hm;exact cu (e5.symm.trans ho)
 have hD2D:D2≠h_1.objs.size:=λq'=>by obtain ⟨k,hk⟩:=hD2;rw [<-q']at hk;exact cu (e5.symm.trans hk)
 have e4':h_4.PlainList D2 #[.str (wordsOf n) tm]:=by obtain ⟨k,hk⟩:=e4;exact ⟨k,f6 _ _ hk hD2F hD2D⟩
 have wl:(ao "cannot serialize " ++ws).length<=aM:=by
  rw [gE,av];have:("cannot serialize ":Str).length<=20:=by decide+kernel
  lia
 refine ay (d6 (wpAny_Compare1 (bU (br (s:={s with heap:=h_4,toks:=tk_4}) pl.k ((hkind _).trans n4) f2 ((f1 _ (by decide)).trans hm3:m_4 ("told":Str)=some (.ref h_1.objs.size)) ?_) (by decide)) rfl));show let z_:=_;let y_:=_;wpAny _ _ _ z_ y_ _;intro z_ y_;refine fI (bq (fI (bq ?_)));show let z_:=_;let y_:=_;wpAny _ _ _ z_ y_ _;intro z_ y_;refine fV (Constant_str (bU (br pl.k ((hkind _).trans n3) f2 ((f1 _ (by decide)).trans ((e1 _ (by decide)).trans ((if_neg (by decide)).trans lk3))) ?_) (by decide)));refine z89 wl λta ka=>bR ⟨by rw [av];exact (show 1<=16777216 by decide),?_⟩
 refine bq (fI (bq ?_));refine Constant_str (k:=pk4) (pos:=pr6) ?_;refine bR ⟨by rw [av];exact (show 1<=16777216 by decide),bR ⟨by rw [av];exact (show 2<=16777216 by decide),?_⟩⟩;rw [hws];have ne1: ∀(h:Heap) (o:Obj) b o',h.get? b=some o'->(h.push o).get? b=some o':=λJ J J J e=>aq _ e
 refine z85 (x:=wordsOf n) (y:="") ?_ ?_ (by show A.units+3+4<cLine;lia) hcp (by decide+kernel) ?_
 ·show let g_:=_;g_;intro g_;obtain ⟨u1,u2,v1,v2,⟨w1,z1⟩,⟨w2,z2⟩,⟨w3,z3⟩⟩:=((sP D2 D4 tm tm' f3 e4' f4):py h_4 h_1.objs.size (wordsOf n) "");exact sP u1 u2 v1 v2 ⟨w1,ne1 _ _ _ _ (ne1 _ _ _ _ (ne1 _ _ _ _ z1))⟩ ⟨w2,ne1 _ _ _ _ (ne1 _ _ _ _ (ne1 _ _ _ _ z2))⟩ ⟨w3,ne1 _ _ _ _ (ne1 _ _ _ _ (ne1 _ _ _ _ z3))⟩
 ·exact sP _ _ _ _ ⟨_,au _ rfl⟩ ⟨_,ne1 _ _ _ _ (ne1 _ _ _ _ (au _ rfl))⟩ ⟨_,ne1 _ _ _ _ (au _ rfl)⟩
 ·refine q _ _ λb o hb hF=>ne1 _ _ _ _ (ne1 _ _ _ _ (ne1 _ _ _ _ (f6 b o (kp3 b o hb hF) (nF b hF (hlt b o hb)) (hDs b o hb))))
end
noncomputable def dN(x:Str):DefRec:=(dOf pw_wc0027_01 x).getD rG
theorem z40:sJ (dN "_law_refused").body:=.mk rfl rfl rfl rfl
theorem z41:qx (dN "_raise_serialization_error").body:=.mk
theorem z1n:qB (dN "int_divmod").body:=.mk
theorem zwr:lK (dN "_escape_cdata").body:=.mk
theorem zws:lK (dN "_escape_attrib").body:=.mk
theorem zwt:lK (dN "_escape_attrib_html").body:=.mk
theorem zwu:lK (dN "_escape_cdata_c14n").body:=.mk
theorem zwv:lK (dN "_escape_attrib_c14n").body:=.mk
theorem m8{d:DefRec}{x:Str}(hp: ∃ar:Arg,d.params=⟨[],[ar],none,[],[],none,[]⟩/\ar.arg=x)(h:(d.scope.names.lookup x==some .local&&d.scope.kind== .function&&!d.scope.isCoroutine&&!d.scope.isGenerator&&d.scope.names.all (λy=>y.2 != .cell))=true):One d.params d.scope x:=by simp only [an,beq_iff_eq,eA]at h;obtain ⟨⟨⟨⟨h1,h2⟩,h3⟩,h4⟩,h5⟩:=h;exact ⟨hp,h1,h2,h3,h4,λy hy=>by have:=aj.mp h5 y hy;simpa using this⟩
theorem znn{d:DefRec}(h:(d.scope.kind== .function&&!d.scope.isCoroutine&&!d.scope.isGenerator&&d.scope.names.all (λy=>y.2 != .cell))=true):mF d.scope:=by simp only [an,beq_iff_eq,eA]at h;obtain ⟨⟨⟨h2,h3⟩,h4⟩,h5⟩:=h;exact ⟨h2,h3,h4,λy hy=>by have:=aj.mp h5 y hy;simpa using this⟩
theorem z9a:One (dN "_raise_serialization_error").params (dN "_raise_serialization_error").scope "text" :=m8 (bK _ rfl rfl) (by decide+kernel)
theorem jcl:(dN "_raise_serialization_error").scope.names.lookup ("TypeError":Str)=some .globalImplicit/\(dN "_raise_serialization_error").scope.names.lookup ("type":Str)=some .globalImplicit:=⟨by decide+kernel,by decide+kernel⟩
def nj(d:DefRec):Prop:=lK d.body/\One d.params d.scope "text" /\d.scope.names.lookup ("TypeError":Str)=some .globalImplicit/\d.scope.names.lookup ("AttributeError":Str)=some .globalImplicit/\d.scope.names.lookup ("_raise_serialization_error":Str)=some .globalImplicit
theorem jdg:nj (dN "_escape_cdata"):=⟨zwr,m8 (bK _ rfl rfl) (by decide+kernel),by decide+kernel,by decide+kernel,by decide+kernel⟩
theorem jdh:nj (dN "_escape_attrib"):=⟨zws,m8 (bK _ rfl rfl) (by decide+kernel),by decide+kernel,by decide+kernel,by decide+kernel⟩
theorem jdi:nj (dN "_escape_attrib_html"):=⟨zwt,m8 (bK _ rfl rfl) (by decide+kernel),by decide+kernel,by decide+kernel,by decide+kernel⟩
theorem jdj:nj (dN "_escape_cdata_c14n"):=⟨zwu,m8 (bK _ rfl rfl) (by decide+kernel),by decide+kernel,by decide+kernel,by decide+kernel⟩
theorem jdk:nj (dN "_escape_attrib_c14n"):=⟨zwv,m8 (bK _ rfl rfl) (by decide+kernel),by decide+kernel,by decide+kernel,by decide+kernel⟩
theorem z9b:mF (dN "int_divmod").scope:=znn (by decide+kernel)
theorem jcm:mF (dN "_law_refused").scope:=znn (by decide+kernel)
theorem zrg:(["hand","thing","words","told","error"]:List Str).all (λx=>(dN "_law_refused").scope.names.lookup x==some .local)=true/\(["TypeError","ZeroDivisionError","str","int_divmod"]:List Str).all (λx=>(dN "_law_refused").scope.names.lookup x==some .globalImplicit)=true:=⟨by decide+kernel,by decide+kernel⟩
theorem z1o:([0,1,2,3]:List Nat).all (λn=>jQ (wordsOf n))=true:=by decide+kernel
theorem z1p:(lI.zipIdx.all λp=>(ao "cannot serialize " ++p.1.2)==wordsOf p.2)=true:=by decide+kernel
theorem uG: ∀{a:List Stmt} {s:Shared},wpAny M A (execs a env) (λf s'=>match f with| .next=>wpAny M A (execs b env) Q E s'|f=>Q f s') E s->wpAny M A (execs (a++b) env) Q E s:=by
 intro a s h;have e: ∀a:List Stmt,execs (a++b) env=execs a env>>=λf=>match f with| .next=>execs b env|f=>pure f:=λa=>by
  induction a with
  |nil=>show execs b env=_;rw [execs_nil,gS]
  |cons st a ih=>
   rw [dS,execs_cons,execs_cons,bind_assoc];congr 1;funext f;cases f with
   |next=>exact ih
   |_=>rw [gS]
 rw [e];refine ab (bE h (λf s' h'=>?_) λJ J x=>x);cases f with
 |next=>exact h'
 |_=>exact am h'
noncomputable def cL(d:DefRec)(own:List Str):CE:=⟨d.scope,rg d.scope,own,0⟩
theorem pQ(h:(l9 ss c fz).map (·.1)=some l):SSs c ss l:=by
 refine aN (gf h) λy J e_=>?_
 subst e_;exact y.2
noncomputable def lit7:List (Str×Str):=jw.map λc=>(tx [c],tx (nmC 0 c))
noncomputable def lit3:List (Str×Str):=[13,10,9].map λc=>(tx [c],tx (nmC 1 c))
structure jdl(c:CE)(d:DefRec)(as:List Arg):Prop where
 hpar:d.params=⟨[],as,none,[],[],none,[]⟩
 hn:(as.map (·.arg)).Nodup
 hsc:c.sc=d.scope
 hb:c.base=0
 fs:kQ d.scope
 hp:Places c (as.map (·.arg)) [3]
 pi:idx c.σ ("names":Str)=some 0
 pk:c.sc.names.lookup ("names":Str)=some .local
 form: ∃pre ks vs q pd pa ks2 vs2 t p p_1 pd2 pd3 pi' pos spos post,d.body=pre++(.Assign [.Name "names" q] (.Dict (ks.map some) vs pd) pa:: .Expr (.Call (.Attribute (.Name "names" p) ("update":Str) p_1) [.IfExp t (.Dict (ks2.map some) vs2 pd2) (.Dict [] [] pd3) pi'] [] pos) spos::post)/\
  SSs c pre (nU.take 2)/\lx ks vs lit7/\lx ks2 vs2 lit3/\SE c t (.cmp .Eq (.var 3) (.int 1))/\(p_1.endLine==pos.line)=true/\SSs c post (nU.drop 4)
noncomputable abbrev lH:=dN "_law_hand"
set_option maxHeartbeats 4000000 in
theorem z9c:jdl (cL lH ["names"]) lH lH.params.args where
 hpar:=rfl
 hn:=by decide+kernel
 hsc:=rfl
 hb:=rfl
 fs:=tM (by decide+kernel)
 hp:=mS (by rfl)
 pi:=by decide+kernel
 pk:=by decide+kernel
 form:=⟨lH.body.take 2,[_,_,_,_,_,_,_],_,_,_,_,[_,_,_],_,_,_,_,_,_,_,_,_,lH.body.drop 4,rfl,pQ (fz:=[]) (by rfl),.cons (.cons (.cons (.cons (.cons (.cons (.cons .nil)))))),.cons (.cons (.cons .nil)),i8 (by rfl),rfl,pQ (fz:=[(166,["names"])]) (by rfl)⟩
theorem sR{ρ:Rho}(h:(ρ.all λo=>o.all noFS)=true): ∀(i:Nat) (s:Slot),ρ[i]?=some (some s)->noFS s=true:=λi s e=>by have:=aj.mp h _ (bz e);exact this
theorem z1q(d:Nat){h:Nat}(hh:h<5):eK (G2 d) (nU.take 2) [none,none,none,some (.val (.int (h:Int)))]=some (.next [none,some (.val (.str (tx (fR h)))),some (.val (.list [.fn (ig 0),.fn (ig 1),.fn (ig 2),.fn (ig 3),.fn (ig 4)])),some (.val (.int (h:Int)))]):=by refine dD (gG (zvo d _)) ?_;rcases lt5 hh with rfl|rfl|rfl|rfl|rfl<;>rfl
noncomputable def up3(h:Nat):List (Str×PV):=if h=1 then iF [] (lit3.map λq=>(q.1,.lit q.2))else []
theorem z1r(d:Nat)(hh:h<5):eK (G2 d) (nU.drop 4) (setR (setR [none,some (.val (.str (tx (fR h)))),some (.val (.list [.fn (ig 0),.fn (ig 1),.fn (ig 2),.fn (ig 3),.fn (ig 4)])),some (.val (.int (h:Int)))] 0 (.ownD (iF [] (lit7.map λq=>(q.1,.lit q.2))))) 0 (.ownD (iF (iF [] (lit7.map λq=>(q.1,.lit q.2))) (up3 h))))= some (.ret (.tuple [.fn (ig h),.str (tx (fR h)),.dict (mC h)])):=by rcases lt5 hh with rfl|rfl|rfl|rfl|rfl<;>rfl
theorem z1s:(lit7++lit3).all (λq=>decide (q.2.length<=1000))=true:=by decide+kernel
theorem z42{C:CX}(hL: ∀x t,¬C.L.lit x t)(hok: ∀L d,FnOk (C.relit L) (G2 d) d){a:Addr}{o:Obj}{pm code doc:Value}(hX: ∀h,C.Inv h->h.get? a=some o/\h.CodeRec code lH.name)(hdt:o.data= .func (lH.data pm code doc)){A:Around}{K:Nat}{W:Addr->Prop}{s:Shared}{h:Nat}(hh:h<5){t:Tok}(rm:Room A (K+1))(at':At C W s){Q E:Value->Shared->Prop}(q: ∀v s' B,B<s'.toks->Ext C s s'->Rep (C.relit (LB B)) s'.heap W (.tuple [.fn (ig h),.str (tx (fR h)),.dict (mC h)]) v->Q v s'): wpAny (model C.prog C.w) A (call (.ref a) [.int (h:Int) t]) Q E s:=by
 show let g_:=_;g_;intro g_;obtain ⟨hpar,hn,hsc,hb,fs,hp,pi,pk,pre,ks,vs,q1,pd,pa,ks2,vs2,tE',p,p_1,pd2,pd3,pi',pos,spos,post,hbody,hpre,hl7,hl3,ht,hline,hpost⟩:=z9c;have hz7: ∀q∈lit7++lit3,q.2.length<=aM:=λq hq=>by rw [av];exact aa (of_decide_eq_true (aj.mp z1s q hq)) (by decide)
 have hr:RepL C s.heap W [.int (h:Int)] [.int (h:Int) t]:=by exact eg _ _ rfl ⟨t,rfl⟩ rfl
 refine tP (C:=C) (n:=4) hsc hb fs hpar hn hp (λh hi=>(hX h hi).1) hdt (λh hi=>(hX h hi).2) (ρ:=[none,none,none,some (.val (.int (h:Int)))]) rfl rm at' hr λenv s₁ W1 O₁ J rm' fr ev a_1 Q' E' kk=>?_
 rw [hbody];refine uG (hpre C (G2 K) K (hok _ _) env _ s W (λJ=>False) rm' W1 O₁ s₁ _ _ fr ev a_1 (z1q K hh) _ _ ?_);intro W2 O2 s_2 fr2 ev2 a_2;refine ay (dp (z1b (C:=C) hl7 (by decide) (by decide) (λq hq=>hz7 q (ei _ hq)) a_2 λad' s3 e_3 ho lo hf hw htk J=>?_) (mo rfl rfl));refine zp2 (C:=C.relit (LB (s_2.toks+2*lit7.length))) fr2.re (dq.relit' (L:=LB (s_2.toks+2*lit7.length)) (λx t l=>absurd l (hL x t)) (sR rfl) ev2) e_3.re ((a_2.ext e_3).re htk) rfl ho lo hf hw pi (.inl pk) λW4 O4 s4 fr4 ev4 a_4=>?_
 refine ay (zx2 (C:=C.relit (LB (s_2.toks+2*lit7.length))) (l₂:=up3 h) (P:=λL=>∃B,L=LB B) pi (by show visK 0 0 ((cL lH ["names"]).sc.names.lookup ("names":Str))=true;rw [pk];rfl) (by decide) (by decide) hline rfl ev4 rfl (by rcases lt5 hh with rfl|rfl|rfl|rfl|rfl<;>decide) (λQ'' E'' q''=>?_) ?_)
 ·refine IfExp_ (ht.tst (c:=cL lH ["names"]) (hok (LB (s_2.toks+2*lit7.length)) K) ev4 a_4 rm' (b:=decide (h=1)) (gb (aO rfl) rfl ?_) _ _ λs5 e_5=>?_)
  ·show some ((h:Int)==1)=_;congr 1;rcases lt5 hh with rfl|rfl|rfl|rfl|rfl<;>rfl
  ·by_cases h1:h=1
   ·rw [decide_eq_true h1];refine z1b hl3 (by decide) (by decide) (λq hq=>hz7 q (cr _ hq)) (a_4.ext e_5) λad_2 s6 e_6 J J J J htk2 r_6=>?_
    rw [<-(if_pos h1:up3 h=iF [] (lit3.map λq=>(q.1,.lit q.2)))]at r_6;refine q'' _ s6 (LB (s5.toks+2*lit3.length)) ⟨_,rfl⟩ (e_5.trans e_6) (dq.relit' (L:=LB (s5.toks+2*lit3.length)) (λx t (l:(LB (s_2.toks+2*lit7.length)).lit x t)=>⟨l.1,af l.2 (aa (dF (a_4.ext e_5).tok) (bb _ _))⟩) (sR rfl) ((ev4.ext e_5.toExt0).ext e_6.toExt0)) ⟨((a_4.ext e_5).ext e_6).inv,((a_4.ext e_5).ext e_6).wocc,htk2⟩ r_6
   ·rw [decide_eq_false h1];have hu:up3 h=[]:=if_neg h1;refine (zth (c:=cL lH ["names"])).val (hok (LB (s_2.toks+2*lit7.length)) K) (ev4.ext e_5.toExt0) (a_4.ext e_5) rm' rfl _ _ λv s6 e_6 r_6=>?_
    exact q'' v s6 (LB (s_2.toks+2*lit7.length)) ⟨_,rfl⟩ (e_5.trans e_6) ((ev4.ext e_5.toExt0).ext e_6.toExt0) ((a_4.ext e_5).ext e_6) (by rw [hu];exact r_6)
 ·rintro L s7 ⟨B,rfl⟩ x_7 ev7 a_7;have fr7:Fr' C s W (λJ=>False) W4 O4 s7:=(Fr'.step fr4 x_7 λb hb=>hb).re;refine hpost ((C.relit (LB B))) (G2 K) K (hok _ _) env _ s7 W O4 rm' W4 O4 s7 _ _ (⟨(Ext.refl s7).toO,fr7.w,fr7.w0,λb hb=>.inl hb,fr7.dj⟩) ev7 a_7 (z1r K hh) Q' E' λval s' x r=>kk val s' (q val s' B (af a_7.tok x.toks) ?_ r)
  have f8:=fr7.step (X:=O4) ⟨x.new,x.occ,x.inv,x.gens,x.drawn,x.os,x.toks⟩ λb hb=>hb
  exact ⟨⟨λb o lo e=>f8.ext.new b o lo (λh=>h) e,f8.ext.inv,f8.ext.gens,f8.ext.drawn,f8.ext.os⟩,f8.ext.toks⟩
theorem z1t: ∀h<5,∃d,Step.fn d∈steps pw_wc0027_01/\d.name=ig h/\nj d:=λh hh=>by
 rcases lt5 hh with rfl|rfl|rfl|rfl|rfl
 ·exact et (dN "_escape_cdata") ((jX (name:="_escape_cdata") (by rfl)).1) (by rfl) jdg
 ·exact et (dN "_escape_attrib") ((jX (name:="_escape_attrib") (by rfl)).1) (by rfl) jdh
 ·exact et (dN "_escape_attrib_html") ((jX (name:="_escape_attrib_html") (by rfl)).1) (by rfl) jdi
 ·exact et (dN "_escape_cdata_c14n") ((jX (name:="_escape_cdata_c14n") (by rfl)).1) (by rfl) jdj
 ·exact et (dN "_escape_attrib_c14n") ((jX (name:="_escape_attrib_c14n") (by rfl)).1) (by rfl) jdk
theorem z43:Step.fn (dN "_raise_serialization_error")∈steps pw_wc0027_01:=(jX (name:="_raise_serialization_error") (by rfl)).1
theorem z1u:Step.fn (dN "int_divmod")∈steps pw_wc0027_01:=(jX (name:="int_divmod") (by rfl)).1
theorem z44:Step.fn (dN "_law_refused")∈steps pw_wc0027_01:=(jX (name:="_law_refused") (by rfl)).1
noncomputable def names5:List Str:=["TypeError","AttributeError","ZeroDivisionError","type","str"]
theorem jdm:names5.all (λx=>!startupNames.contains x&&!pw_wc0027_01.boundNames.contains x)=true:=by decide+kernel
theorem z5z(h:x∈names5):startupNames.contains x=false/\pw_wc0027_01.boundNames.contains x=false:=by have:=aj.mp jdm x h;simpa using this
theorem oA(h:x∈(["hand","thing","words","told","error"]:List Str)):(dN "_law_refused").scope.names.lookup x=some .local:=dw (aj.mp zrg.1 x h)
theorem qn(h:x∈(["TypeError","ZeroDivisionError","str","int_divmod"]:List Str)):(dN "_law_refused").scope.names.lookup x=some .globalImplicit:=dw (aj.mp zrg.2 x h)
section
variable{w:World}{s0:Shared}{mg mb:Str->Option Value}{k ad:Addr}{ns:List Int}(H:jS pw_wc0027_01 w s0 mg mb k ad ns){tabs:List jI}(N:j7 s0 k tabs){L:Lits}
theorem z45(hi:(fP H N L).Inv h)(lo:k+1<=a)(nc: ∀o,h.get? a=some o-> ¬i0 o):(fP H N L).Inv (hideAll h [a]):=
 (fP H N L).keep (λb o hb e=>ix _ e λhm=>by
  obtain rfl:=aE.mp hm;rcases hb with hb|hb
  ·exact aW _ (af hb lo)
  ·exact nc o e hb) hi
theorem pP{d:DefRec}{a code P:Addr}{o:Obj}{pm doc:Value}(X:Parts s0 mg k d a code P o pm doc){base:Heap}(hi:(fP H N L).Inv base):FnH base d.name d.params d.body d.scope a code:=⟨(gz o pm doc ((X.inv H N _ hi).1) X.dt),(X.inv H N _ hi).2⟩
theorem jcn(hi:(fP H N L).Inv base):Kit base mg mb:=by
 obtain ⟨a,c,P,o,pm,doc,X⟩:=mh H z43;have mean: ∀{x:Str} {v:Value},x∈names5->bB x=some v->Means mg mb x v:=λhx hb=>.inr (t6 H N (L:=L) (z5z hx).1 (z5z hx).2 hb)
 exact {
  G:=⟨(fP H N L).g hi,(fP H N L).b hi⟩
  S:=⟨_,_,_,_,_,_,X.g,pP H N X hi,z41,z9a,jcl.1,jcl.2⟩
  te:=mean (by decide) (by rfl)
  ae:=mean (by decide) (by rfl)
  ze:=mean (by decide) (by rfl)
  ty:=mean (by decide) (by rfl)
  st:=mean (by decide) (by rfl)
  lim:=λh st=>(fP H N L).nolimit ((fP H N L).keep (λb o J e=>st b o e) hi)}
theorem z9d(hi:(fP H N L).Inv base):Zero base mg:=by obtain ⟨a,c,P,o,pm,doc,X⟩:=mh H z1u;exact ⟨_,_,_,_,_,_,_,_,X.g,pP H N X hi,z1n,z9b,rfl,by decide+kernel,by decide+kernel,by decide+kernel,by decide+kernel,by decide+kernel⟩
theorem z9e(hh:h<5)(hv:mg (ig h)=some v): ∃a,v= .ref a/\ ∀base,(fP H N L).Inv base->Hand base a:=by show let g_:=_;g_;intro g_;obtain ⟨d,hd,hn,h1,h2,h3,h4,h5⟩:=z1t h hh;obtain ⟨a,c,P,o,pm,doc,X⟩:=mh H hd;have:=X.g;rw [hn,hv]at this;exact bK a (Option.some.inj this) (λbase hi=>⟨_,_,_,_,_,pP H N X hi,h1,h2,h3,h4,h5⟩)
end
theorem z46(hm:th∈lI)(r:Rep C h W th.1 v): ∃n,n<4/\Thing h n v/\(∀b,v= .ref b-> ¬W b)/\ao "cannot serialize " ++th.2=wordsOf n/\jQ (wordsOf n)=true/\th.2.length<=1000:=by
 have hw: ∀{n:Nat},lI[n]?=some th->ao "cannot serialize " ++th.2=wordsOf n:=λ{n} e=>by have:=aj.mp z1p (th,n) (nX.mpr ⟨n,by rw [List.getElem?_zipIdx,e,eu];rfl⟩);exact dw this
 have hc: ∀{n:Nat},n∈ [0,1,2,3]->jQ (wordsOf n)=true:=λhn=>aj.mp z1o _ hn
 simp only [lI,aw,eT,or_false]at hm;show let g_:=_;g_;intro g_;rcases hm with rfl|rfl|rfl|rfl
 ·obtain ⟨t,rfl⟩:=r;exact ⟨0,by decide,.i t,(λb e=>nomatch e),hw rfl,hc (by decide),by decide⟩
 ·obtain rfl:v= .none:=r;exact ⟨1,by decide,.n,(λb e=>nomatch e),hw rfl,hc (by decide),by decide⟩
 ·refine iJ r λa vs n e_ hwa J ho hl J=>?_
  subst e_;obtain ⟨u,r',rfl,⟨t,rfl,J⟩,hn⟩:=hl;obtain rfl:r'=[]:=hn;exact ⟨2,by decide,.l a t n ho,(λb e=>by cases e;exact hwa),hw rfl,hc (by decide),by decide⟩
 ·obtain ⟨t,rfl⟩:=r;exact ⟨3,by decide,.b t,(λb e=>nomatch e),hw rfl,hc (by decide),by decide⟩
noncomputable abbrev l01:=dN "law"
noncomputable abbrev cLaw:CE:=cL l01 []
theorem z47(h:(qa c es).map (·.1)=some xs):i6 es xs:=by
 refine aN (gf h) λy J e_=>?_
 subst e_;exact y.2
theorem z1v(h:(jJ es c).map (·.1)=some xs):SEs c es xs:=by
 refine aN (gf h) λy J e_=>?_
 subst e_;exact y.2
noncomputable def jdn:List PS:=(kM.take 20).drop 3
structure jdo(c:CE)(d:DefRec)(as:List Arg):Prop where
 hpar:d.params=⟨[],as,none,[],[],none,[]⟩
 hn:(as.map (·.arg)).Nodup
 hsc:c.sc=d.scope
 hb:c.base=0
 fs:kQ d.scope
 hp:Places c (as.map (·.arg)) [26]
 tp:Places c ["hand","menu","names"] [23,22,21]
 form: ∃pre es k tp p_1 arg cp ap mid p_2 e_2 cp2 rp,d.body=pre++(.Assign [.Tuple es k tp] (.Call (.Name "_law_hand" p_1) [arg] [] cp) ap::(mid++ [.Return (some (.Call (.Name "_law_refused" p_2) e_2 [] cp2)) rp]))/\
  SSs c pre (kM.take 2)/\i6 es ["hand","menu","names"]/\SE c (.Name "_law_hand" p_1) (.glob "_law_hand")/\SEs c [arg] [.bin .Mod (.sub (.var 24) (.int 0)) (.int 5)]/\SSs c mid jdn/\
  SE c (.Name "_law_refused" p_2) (.glob "_law_refused")/\SEs c e_2 [.var 23,.sub (.var 3) (.int 0),.sub (.var 3) (.int 1)]
set_option maxHeartbeats 4000000 in
theorem z9f:jdo cLaw l01 l01.params.args where
 hpar:=rfl
 hn:=by decide+kernel
 hsc:=rfl
 hb:=rfl
 fs:=uH (by decide+kernel)
 hp:=mS (by rfl)
 tp:=mS (by rfl)
 form:=⟨l01.body.take 2,_,_,_,_,_,_,_,(l01.body.take 20).drop 3,_,_,_,_,rfl,pQ (fz:=[]) (by rfl),z47 (c:=cLaw) (by rfl),i8 (by rfl),z1v (by rfl),pQ (fz:=[]) (by rfl),i8 (by rfl),z1v (by rfl)⟩
theorem l01_step:Step.fn l01∈steps pw_wc0027_01:=(jX (name:="law") (by rfl)).1
theorem z48:l01.name= "law" :=by rfl
theorem z9g:Step.fn lH∈steps pw_wc0027_01:=(jX (name:="_law_hand") (by rfl)).1
theorem tv: ∀l:List Int,noFL (l.map .int)=true:=by
 intro l;induction l with
 |nil=>rfl
 |cons a l ih=>show (noF (.int a)&&noFL (l.map .int))=true;rw [ih];rfl
theorem z1w(x:IntsAre vs ns):RepL C h W (ns.map .int) vs:=by
 induction x with
 |nil=>rfl
 |cons i t _ ih=>exact eg _ _ rfl ⟨t,rfl⟩ ih
theorem call01{w:World}{s:Shared}{mg mb:Str->Option Value}{k ad:Addr}{ns:List Int}(hlen:ns.length<=63)(H:jS pw_wc0027_01 w s mg mb k ad ns){f:Value}(hf:mg ("law":Str)=some f){Q E:Value->Shared->Prop}(q: ∀s',(∀b o,s.heap.get? b=some o->OldO s.heap s'.heap b o)->s'.os=s.os->s'.gens= #[]->Q (.bool true) s'):wpAny (model pw_wc0027_01 w) callerA (PySem.call f [.ref ad]) Q E s:=by
 show let g_:=_;g_;intro g_;obtain ⟨a,code,P,o,pm,doc,X⟩:=mh H l01_step;have hg:=X.g;rw [z48]at hg;obtain rfl:f= .ref a:=Option.some.inj (hf.symm.trans hg);obtain ⟨aH,codeH,PH,oH,pmH,docH,XH⟩:=mh H z9g;obtain ⟨aR,codeR,PR,oR,pmR,docR,XR⟩:=mh H z44;obtain ⟨tabs,N,hok⟩:=z8v H
 let M:=fP H N
 have hok: ∀L d,FnOk (M L) (G2 d) d:=hok;obtain ⟨hpar,hn,hsc,hb,fs,hp,tp,pre,es,kt,tpos,p_1,arg,cp,ap,mid,p_2,e_2,cp2,rp,hbody,hpre,hnm,hfn,harg,hmid,hfr,hargs⟩:=z9f;refine aN H.script λvs hvs hints=>?_
 have hr:RepL (M Lits.no) s.heap (λJ=>False) [.list (ns.map .int)] [.ref ad]:=by exact eg _ _ rfl (kW ad vs 0 rfl (λh=>h) H.lo hvs (z1w hints) (by rw [av,aY];exact aa ‹_› (by decide))) rfl
 have hinv:=X.inv H N (L:=Lits.no);have rm:Room callerA (16+1):=⟨rfl,by show 301+2*17+110<bL;decide,by show 4+16*17+200<cLine;decide⟩;refine tP (C:=M Lits.no) (n:=29) hsc hb fs hpar hn hp (λh hi=>(hinv h hi).1) X.dt (λh hi=>(hinv h hi).2) (ρ:=rH none none ns) rfl rm (⟨⟨λb o J J e=>e,λq hq=>.new (N.at' q hq)⟩,λb h=>h.elim,H.tok⟩) hr λenv s₁ W1 O₁ hfm rm' fr ev a_1 Q' E' kk=>?_
 rw [hbody];refine uG (hpre (M Lits.no) (G2 16) 16 (hok _ _) env _ s _ _ rm' W1 O₁ s₁ _ _ fr ev a_1 (z4i 16 ns hlen) _ _ ?_);intro W2 O2 s_2 fr2 ev2 a_2;obtain ⟨h,hh0,hh⟩: ∃h:Nat,gi ns 0%5=(h:Int)/\h<5:=modN (gi ns 0) 5 (by decide)
 let V:Nat->Option Slot:=λj=>if j=21 then some (.val (.dict (mC h)))else if j=22 then some (.val (.str (tx (fR h))))else if j=23 then some (.val (.fn (ig h)))else if j=24 then some (.val (.tuple (lE.map .int)))else if j=25 then some (.val (.list (ns.map .int)))else none
 have hpa:gh (G2 16) [.bin .Mod (.sub (.var 24) (.int 0)) (.int 5)] (rH (some (.val (.list ([gi ns 0,gi ns 1,gi ns 2,gi ns 3,gi ns 4,gi ns 5].map .int)))) (some (.val (.tuple (lE.map .int)))) ns)=some [.int (h:Int)]:=bN (cE (fF (aO rfl) rfl rfl) rfl (by rw [iI (by decide),hh0])) dW;refine ay ?_;show let K:=_;wpAny _ _ _ K _ _;intro K;refine Assign_Tuple (bX (hfn.val (hok Lits.no 16) ev2 a_2 rm' (p:=.fn "_law_hand") (by rfl) _ _ λfv s3 e_3 r_3=>?_)) (zxx rfl) (tC rfl);show let z_:=_;let y_:=_;wpAny _ _ _ z_ y_ _;intro z_ y_;obtain rfl:fv= .ref aH:=Option.some.inj (r_3.symm.trans XH.g);refine d7 (o:=oH) (fd:=lH.data pmH (.ref codeH) docH) (i7 (harg.star (pos:=cp) env) (harg.sndL (hok Lits.no 16) rm' (ev2.ext e_3.toExt0) (a_2.ext e_3) hpa _ _ λvs4 s4 e_4 r_4=>⟨⟨(XH.inv H N (L:=Lits.no) _ ((a_2.ext e_3).ext e_4).inv).1,XH.dt⟩,?_⟩));obtain ⟨v4,r',rfl,⟨t4,rfl⟩,hr'⟩:=r_4;obtain rfl:r'=[]:=hr';refine z42 (C:=M Lits.no) (λJ J h=>h) hok (XH.inv H N) XH.dt hh (K:=15) rm' ((a_2.ext e_3).ext e_4) λv5 s5 B hB e_5 r_5=>?_
 show let g_:=_;g_;intro g_;refine kE r_5 λT us n_5 e_ hwT loT hoT rT=>?_
 subst e_;have hlen5:(dU es env).length=us.toArray.size:=by rw [(hnm.star env).1];have:=rT.length;simp only [bI,this];rfl
 refine gm rm'.1 ⟨_,hoT,rfl,_,rfl⟩ hlen5 (hnm.star env).2 λh' hx'=>?_
 have rT:RepL (M (LB B)) s5.heap W2 [.fn (ig h),.str (tx (fR h)),.dict (mC h)] us:=rT;have e_6:=oF (C:=M (LB B)) hx';have eAll:=(e_3.trans e_4).trans e_5;have ev5:dq (M (LB B)) cLaw env W2 O2 s5.heap _:=dq.relit' (L:=LB B) (λx t (l:(M Lits.no).L.lit x t)=>False.elim l) (sR (by show ([some (Slot.val (.list ([gi ns 0,gi ns 1,gi ns 2,gi ns 3,gi ns 4,gi ns 5].map .int))),some (.val (.tuple (lE.map .int))),some (.val (.list (ns.map .int))),none,none].all λo=>o.all noFS)=true;simp only [jP,List.all_nil,Option.all_some,Option.all_none,Bool.and_true,an];exact ⟨tv _,tv lE,tv ns⟩)) (ev2.ext eAll.toExt0);have ev6:=ev5.ext e_6.toExt0;refine o8 (C:=M (LB B)) hnm tp ev6 (RepL.stay ((e_6.toO (O:=λJ=>False)).stay λJ h=>False.elim h) _ _ (by simpa using rT)) (ρ':=rhoL V [gi ns 0,gi ns 1,gi ns 2,gi ns 3,gi ns 4,gi ns 5]) rfl λs7 e_7 ev7=>?_
 refine jL (z8k 0 hh (gi ns 0) (gi ns 1) (gi ns 2) (gi ns 3) (gi ns 4) (gi ns 5) V rfl rfl rfl) λv th hth hv3 hv23 hrun=>?_
 refine uG (hmid (M (LB B)) (G2 16) 16 (hok _ _) env _ s _ _ rm' W2 O2 s7 _ _ ((((fr2.ext' eAll).re).ext' e_6).step e_7 λb hb=>ev6.owr hb) ev7 (((⟨(a_2.ext eAll).inv,(a_2.ext eAll).wocc,hB⟩:At (M (LB B)) W2 s5).ext e_6).extO e_7) hrun _ _ ?_);intro W8 O8 s8 fr8 ev8 a8;have hargs8:gh (G2 16) [.var 23,.sub (.var 3) (.int 0),.sub (.var 3) (.int 1)] (rhoL v [gi ns 0,gi ns 1,gi ns 2,gi ns 3,gi ns 4,gi ns 5])=some [.fn (ig h),th.1,.str th.2]:=bN (aO (congrArg some hv23)) (bN (fF (x:=mz th) (aO (congrArg some hv3)) rfl rfl) (bN (fF (x:=mz th) (aO (congrArg some hv3)) rfl rfl) dW));refine ay ?_;show let K:=_;wpAny _ _ _ K _ _;intro K;refine d6 (bX (hfr.val (hok (LB B) 16) ev8 a8 rm' (p:=.fn "_law_refused") (by rfl) _ _ λfv s9 e9 r_9=>?_));obtain rfl:fv= .ref aR:=Option.some.inj (r_9.symm.trans XR.g);refine d7 (o:=oR) (fd:=(dN "_law_refused").data pmR (.ref codeR) docR) (i7 (hargs.star (pos:=cp2) env) (hargs.sndL (hok (LB B) 16) rm' (ev8.ext e9.toExt0) (a8.ext e9) hargs8 _ _ λvs10 s10 e10 r_10=>⟨⟨(XR.inv H N (L:=LB B) _ ((a8.ext e9).ext e10).inv).1,XR.dt⟩,?_⟩));show let g_:=_;g_;intro g_;obtain ⟨vh,r1,rfl,hvh,v2,r2,rfl,hv2,v3,r3,rfl,⟨tw,rfl,J⟩,hr3⟩:=r_10;obtain rfl:r3=[]:=hr3;refine aN (z9e H N (L:=LB B) hh hvh) λaHd e_ hHd=>?_
 subst e_;obtain ⟨n,hn4,T,hvW,hws,hcp,hwl⟩:=z46 hth hv2;have e10':=e9.trans e10;have ev10:=ev8.ext e10'.toExt0;have a10:=a8.ext e10';have fr10:=fr8.ext' e10';refine z50 ev10.ns λm oL esL epL hoL hdL hkL=>?_
 have hbase:=(fr10.fresh _ ev10.loc).resolve_left λh=>h
 have hFr:framesOf [env]=[env.locals]:=by unfold framesOf;rw [fC,hfm];rfl
 have hi:(M (LB B)).Inv (hideAll s10.heap (framesOf [env])):=by
  rw [hFr];exact z45 H N a10.inv (ev10.lo _ ev10.loc) λo' e'=>by rw [hoL]at e';replace e':=oj e';subst e';exact qN hdL
 refine zrf (base:=hideAll s10.heap (framesOf [env])) (outer:=[env]) (jcn H N hi) (hHd _ hi) (z9d H N hi) (tI rfl (⟨by rw [ev10.kind];decide,(jK env.locals oL hfm hbase hoL (λvs e=>by rw [hdL]at e;cases e)),trivial⟩)) (pP H N XR hi) z40 jcm rfl (by decide+kernel) (by decide+kernel) (by decide+kernel) (oA (by decide)) (oA (by decide)) (oA (by decide)) (oA (by decide)) (oA (by decide)) (qn (by decide)) (qn (by decide)) (qn (by decide)) (qn (by decide)) T (λb hb hm=>by rw [hFr]at hm;obtain rfl:=aE.mp hm;exact hvW _ hb (ev10.ow _ ev10.loc)) hn4 rfl rfl (by show 4+3+20<cLine;decide) (by show 301+1+3<bL;decide) hws hcp hwl λh'' tk hst=>?_
 refine kk _ _ (q _ (λb o e=>?_) fr10.ext.os (fr10.ext.gens.trans H.gens));have hbL:b∉framesOf [env]:=λhm=>by rw [hFr]at hm;obtain rfl:=aE.mp hm;rw [hbase]at e;exact cu e
 rcases lO k b with hb'|hb'
 ·exact .inl (hst b o (fr10.ext.new b o hb' (λh=>h) e) hbL)
 ·show let g_:=_;g_;intro g_;refine xA a10.inv λi1 i2=>?_
  by_cases ht:b∈tabs.map (λq:jI=>q.1)
  ·refine aN (bg.mp ht) λqq hq e_=>?_
   subst e_;refine aN (i2 qq hq) λps hps J=>?_
   rw [N.at' qq hq]at e;replace e:=oj e;subst e;exact .inr ⟨N.ct qq hq,rfl,ps,hst _ _ hps hbL⟩
  ·exact .inl (hst b o (i1 b o hb' ht e) hbL)
end Mine.Internal
namespace Mine.Internal
open PySem PySem.W PySem.Calls PyProof.Rows PySem.Challenge
theorem dL_def:pw_wc0027_01.theDef ("law":Str)=some (l01.params,l01.body,l01.scope):=by rfl
end Mine.Internal
set_option maxRecDepth 100000 in
set_option maxHeartbeats 8000000 in
theorem PySem.Challenge.cw_wc0027_01_holds : PySem.Challenge.rw_wc0027_01.Holds :=
 Mine.Internal.law_holds (d:=Mine.Internal.l01) (by decide+kernel) rfl rfl rfl (by decide+kernel) (by rfl) (by rfl) (by rfl) (λJ=>rfl) ⟨rfl,rfl,rfl,rfl,rfl,by decide+kernel⟩ (by decide+kernel) ⟨[.list []],by decide+kernel,by decide+kernel⟩ Mine.Internal.l01_step (by rfl) Mine.Internal.dL_def (by rfl) (by rfl)
  λJ J J J J J J hl H J hf J J q=>Mine.Internal.call01 hl H hf q
