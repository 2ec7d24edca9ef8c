import PyProof.Rows.All
import Wide.All
import OpenK.AllK
import Wide.FinOn
import Lean
import PySem.Challenge.RW_uy0014_02
set_option Elab.async false
set_option autoImplicit true
set_option maxRecDepth 100000
set_option linter.all false
set_option genSizeOf false
set_option genInjectivity false
set_option genCtorIdx false
set_option bootstrap.genMatcherCode false
set_option tactic.hygienic false
noncomputable section
open Array renaming getElem?_eq_getElem->gE,getElem?_eq_some_iff->ip,size_setIfInBounds->iM,getElem?_eq_none->lJ,length_toList->nU,getD_eq_getD_getElem?->ot,ext'->oG,foldl->yj,getElem?_setIfInBounds->zP,foldl_toList->Ko,size_push->Pv,toList->XE
open Bool renaming false->af,true->ah,or_eq_true_iff->bH,casesOn->dC,and_eq_true_iff->f6,false_eq_true->iq,and_eq_true->i_,eq_iff_iff->kY,eq_false_iff->lS,not_eq_true'->pZ,and_false->tK,or_false->vy,false_ne_true->vK,or_eq_false_iff->Ix,or_eq_true->S0,bne_false->UA,false_or->XD
open Eq renaming trans->uz
open Exists renaming imp->cX
open False renaming elim->oF
open ForInStep renaming yield->jg
open Int renaming natCast_nonneg->aK,natCast_mul->aS,fmod_eq_emod_of_nonneg->bG,fdiv_eq_ediv_of_nonneg->bW,natAbs_natCast->b_,add_zero->cE,toNat_natCast->cM,ofNat_le->dz,zero_mul->dG,natCast_add->d5,ofNat->ed,natCast_pow->eC,ofNat_lt->eM,one_mul->fb,le_trans->ft,sub_mul->fD,add_mul->gD,fmod_nonneg_of_pos->ij,natAbs_mul->iu,mul_assoc->iR,mul_le_mul_of_nonneg_left->jq,mul_comm->jA,lt_of_le_of_lt->jB,le_of_lt->jC,fmod_lt_of_pos->jD,le_ediv_of_mul_le->jW,not_lt->kg,neg_mul->kh,mul_one->ki,lt_of_mul_lt_mul_right->kj,le_of_mul_le_mul_right->km,zero_add->kx,toNat_of_nonneg->kQ,le_refl->lD,mul_ediv_add_emod->m8,le_of_lt_add_one->nL,add_le_add_left->oB,sub_eq_add_neg->pH,mul_nonneg->pI,compare_eq_eq->qf,add_comm->sk,neg_one_mul->sQ,emod_nonneg->sR,ofNat_sub->vJ,emod_lt_of_pos->wX,natAbs_add_le->xH,fdiv->xI,compare_eq_lt->xJ,compare_eq_gt->xK,mul_le_mul_of_nonpos_left->zW,ediv_nonneg->AC,mul_lt_mul_of_pos_right->Bw,not_le->CK,natAbs_neg->CL,neg_nonpos_of_nonneg->EK,add_assoc->EL,eq_ofNat_of_zero_le->EX,le_of_eq->GW,ediv_lt_of_lt_mul->Iw,sub_le_sub_right->Kj,neg_neg->Kk,natAbs_of_nonneg->Kl,add_le_add_right->Km,negSucc_lt_zero->KG,lt_or_eq_of_le->O3,ofNat_ne_zero->Ps,emod_eq_of_lt->Pt,add_left_comm->Pu,neg_fmod_neg->SW,neg_fdiv_neg->SX,natCast_ediv->SY,min_le_right->SZ,sub_nonneg->XA,neg_lt_neg->XB,add_nonneg->XC,toNat_add->X3,le_natAbs->X4,sub_self->aaL,pow_zero->aaM,ne_of_gt->aaN,mul_zero->aaO,le_total->aaP,ediv_one->aaQ,add_emod->aaR,neg_sub->abm,mul_neg->abn,mul_add->abo
open Int.ofNat renaming inj->ji
open LawfulBEq renaming eq_of_beq->dW
open List renaming casesOn->aE,length_map->aG,size_toArray->aO,mem_cons->aR,mem_singleton->aU,length_append->aW,not_mem_nil->a0,getElem?_set_ne->a6,all_eq_true->a_,getElem?_eq_getElem->be,replicate->bJ,length_cons->bK,map_map->bU,mem_map->bZ,getElem?_map->cb,getD_eq_getElem?_getD->ce,range->cj,getElem?_eq_some_iff->cy,mem_of_getElem?->cP,getElem?_set_self'->di,lookup_cons->dk,map_append->dq,length_set->dr,nodup_cons->dH,mem_append->dI,length_drop->dP,append_assoc->dS,append_nil->eB,range'->eK,mem_range->eQ,isEmpty_iff->eZ,length_range->fh,length_nil->fC,getElem?_append_left->fH,drop_eq_getElem_cons->fI,getElem?_toArray->fQ,map_cons->fR,drop_zero->fS,length_take->f5,getElem?_set_self->gm,flatten_cons->gp,map_congr_left->gz,getElem?_drop->gN,reverse_cons->g_,mem_map_of_mem->hY,getElem?_of_mem->iI,forall_mem_cons->iJ,take_succ_cons->iW,take_length->i7,map_reverse->i8,drop_length->i9,mem_append_right->jL,length_replicate->jM,getElem?_eq_none->jN,any_eq_false->jV,mem_of_mem_take->j9,mem_append_left->j_,getElem?_range->kz,flatten_append->kA,take_of_length_le->lQ,drop_drop->lR,eq_nil_of_length_eq_zero->nB,forIn_cons->nS,foldl_cons->nT,replicate_succ->on,length_reverse->oo,map_nil->oA,lookup->pW,ext_getElem?->pY,length_eq_zero_iff->q8,any_eq_true->q9,mem_of_mem_drop->tI,map->tJ,drop_succ_cons->uy,sum_cons->vu,set_comm->vv,zip_cons_cons->vE,lookup_append->vG,length_range'->vH,mem_range'_1->xq,drop->yh,of_mem_zip->zV,take_zero->Bt,setIfInBounds_toArray->Bu,nodup_nil->Bv,map_take->CX,getElem?_replicate->EJ,toArray->EV,drop_eq_nil_of_le->EW,take_append_drop->GV,length->Iv,zip_nil_right->KE,map_replicate->KF,take_add_one->O0,nodup_append->O1,flatMap_cons->O2,take_subset->Pk,range'_succ->Pm,mem_reverse->Pn,mem_flatten->Po,map_toArray->Pp,filter_cons->Pq,drop_subset->Pr,mem_filter->SU,countP_map->SV,take_take->Uw,forIn_nil->Ux,drop_take->Uy,drop_nil->Xy,all_cons->Xz,take->adi
open List.Mem renaming head->mu
open List.cons renaming inj->dM
open Nat renaming le_trans->ab,le_of_ble_eq_true->aD,beq->aF,eq_of_beq_eq_true->aJ,ble_eq_true_of_le->aP,lt_of_lt_of_le->aV,ble->aY,le_refl->aZ,lt_of_le_of_lt->bi,le_add_right->bq,le_of_lt->bF,two_pow_pos->bL,mod_lt->bP,mul_comm->bS,toUInt8->bT,casesOn->cg,mul_le_mul_left->cA,mul_le_mul_right->cB,le_of_eq->cD,le_antisymm->cJ,succ_le_succ->cL,div_lt_iff_lt_mul->cU,pow_add->cW,ne_of_lt->c6,add_le_add_left->c_,zero_le->db,pow_le_pow_right->dh,add_le_add->dL,add_comm->dO,add_mul->d4,one_mul->d8,le_of_lt_succ->eF,mul_le_mul->eS,div_add_mod->eV,lt_irrefl->e_,succ_pos->fj,mul_lt_mul_of_pos_right->fq,blt->fy,add_le_add_right->fA,mul_assoc->fE,not_lt->fM,lt_trans->fY,le_add_left->fZ,succ_lt_succ->f9,mul_mul_mul_comm->f_,add_sub_cancel_left->ga,ne_of_gt->gw,lt_succ_of_le->gx,mul_pos->gC,add_lt_add_left->h_,lt_succ_self->io,not_lt_zero->iG,le_succ->iK,add_assoc->iQ,mul_add->jp,lt_or_ge->jz,succ->jH,zero_add->kt,succ_mul->ku,mod_eq_of_lt->kv,beq_refl->kw,add_sub_cancel'->kO,sub_le->lA,lt_add_of_pos_right->lC,sub_zero->mf,pow_zero->mh,pow_succ->mi,mul_zero->mj,lt_of_succ_lt_succ->ml,le_succ_of_le->mo,le_mul_of_pos_left->mq,div_div_eq_div_mul->mr,add_min_add_right->m7,not_lt_of_le->ni,pow_one->nK,min_eq_left->om,zero_mul->oD,sub_add_cancel->pC,mul_lt_mul_of_lt_of_lt->pD,mod_two_eq_zero_or_one->pE,lt_of_le_of_ne->pF,mul_one->qc,div_one->qe,succ_add->sj,mul_add_mod->sM,mul_add_div->sO,div_le_self->sP,sub_le_iff_le_add->ta,lt_sub_iff_add_lt->tc,le_div_iff_mul_le->td,sub_le_sub_right->ul,pow_lt_pow_right->um,le_sub_one_of_lt->uo,div_mul_le_self->vt,eq_zero_or_pos->wT,add_sub_cancel->wU,add_right_comm->wW,sub_self->xC,sub_pos_of_lt->xD,mul_left_comm->xE,lt_succ_of_lt->xF,le_total->xG,min_le_right->zM,le_of_not_lt->zN,div_eq_of_lt->zO,two_mul->zR,pow_mul->zT,one_pos->zU,not_le->CI,max_le->CJ,add_mul_mod_self_left->CW,testBit_mul_two_pow->ET,mul_div_cancel_left->EU,zero_min->GQ,sub_add_sub_cancel->GR,ne_of_beq_eq_false->GS,le_of_succ_le_succ->GT,add_zero->GU,sub_eq_zero_of_le->It,add_sub_add_right->Iu,pow_pos->Ke,not_succ_le_zero->Kf,log2_lt->Kg,eq_of_testBit_eq->Kh,div_le_div_right->Ki,pow_lt_pow_left->KC,pow_le_pow_left->KD,add_pos_right->Pj,succ_ne_zero->SO,succ_ne_self->SQ,not_le_of_lt->SR,lt_of_not_le->SS,testBit_and->Ur,mod_add_div->Us,min_le_left->Ut,div_lt_self->Uv,pow_succ'->X2,one_pow->abl,sub_lt->adh
open Nat.le renaming dest->pG
open Nat.succ renaming inj->fO
open OfNat renaming ofNat->dN
open Option renaming some->U,none->ag,casesOn->bX,isNone_iff_eq_none->dF,map_eq_some_iff->eJ,isSome_iff_exists->iF,bind->jf,bind_some->qb,bind_eq_some_iff->CH,bind_assoc->Kd,map_some->OZ
open Option.some renaming inj->me,injEq->adg
open Pure renaming pure->gZ
open PyProof.Rows renaming callWith_type->jo,subscriptTail->Kc,AllBare->OY,add_str->SM,Subscript_->Xx,bitAnd_pp->aaI,neg_int->abf,is_none_gen->abg,invert_int->abh,getItem_tuple->abi,eq_str->abj,Call_Name1->abk
open PySem renaming wpAny_bind->al,Shared->aw,Value->aA,wpAny->aL,wpAny_pure->aM,model->aQ,Addr->aX,Str->a7,Env->cr,wpAny_execs_cons->cz,wpAny_holding->cC,callEnvC->cG,sizeLine_eq->cS,intBits_le_iff->cT,Around->cZ,mainGlobals->dB,NameKind->dJ,wpAny_standAt->dK,Operator->dU,mem_of_lookup->dZ,clipAt->d_,cellsFrom->eH,Heap->fX,Comprehension->f3,wpAny_loadName_local->gg,intBits_le_of_natAbs->gj,wpAny_truthy_bool->gI,intBits_mul_le->gJ,Stmt->gM,FuncData->gR,clipAt_nat->gU,arm_eval_Call_Name'->ik,wpAny_of_eq->iw,wpAny_mono->iC,builtinLookup_eq_fast->iE,wpAny_execs_nil->iU,wpAny_Assign_Name->iV,CmpOp->jh,recursionLimit->jx,strIterType->jI,rawInt->jS,builtinsNs->jT,seqIndex?->j7,wpAny_seqItems->kG,Scope->kH,codeAny->kW,Program->kX,typeLookup_type->lM,callEnv->lN,wpAny_Call_method_lateS->mD,interactive->mF,assign->mX,wpAny_Return_some->ng,relabel->nh,wpAny_Name->og,typeIs_str->oh,wpAny_updateSeq->pg,theTreesLotGoes->ph,letOwnedTupleGo->pj,Tok->pq,Pos->pJ,storeName->p8,Arguments->qa,sizeLine->qO,execs->qP,wpAny_assign_Name->rz,Sem->r_,wpAny_call_entry->sZ,starEach->s_,call_meets->uh,wpAny_specialOf->ut,storeName_local->uu,codeAny_builtin->uv,wpAny_storeName_cell->wL,wpAny_mkStr->wM,wpAny_BinOp->wN,binaryOp->wO,noteFrame->xj,leaving->xk,wpAny_release->ye,plainId_quiet->yf,wpAny_rule->zB,wpAny_isTrue_value->zC,wpAny_call->zD,PlainAttrs->zG,Flow->zH,wpAny_newObj_type->Ap,typeIs_float->Aq,standAt->Ar,foldedSetIterable->As,argBest->Au,GenState->Aw,wpAny_pyIter_gen->Cv,wpAny_forIn_list->Cw,updateSeq->Cy,specialOf->Cz,entryFor_of_tree->CB,wpAny_Tuple->CQ,World->CR,Fin->CU,pushCells_keeps->EC,typeOf->GG,typeIs_int->GH,backTo->GJ,assignEach->GK,wpAny_mkBytes->J3,swappedStores->J4,assignInOrder->J5,wpAny_list_append_plain->Ks,swapsWith->Kt,Frame->Ky,wpAny_typeOf->ON,wpAny_allTrue_And_cons->OP,pyIter->OQ,holding->OR,UnaryOp->OS,wpAny_isTrue_Compare1->Pa,wpAny_isNot_ref_other->Pb,wpAny_allTrue_Or_cons->Pc,exec_Assign_Subscript->Pe,wpAny_If->SE,bindL->SF,Obj->Uo,wpAny_is_ref_other->Xd,typeLookup->Xe,ret->Xf,qualnameIn->Xg,pyNext->Xh,codeAny_call_cells->Xi,closureFor->Xj,Code->Xu,slot_list_getitem->XU,richCompare_gives->XV,docOf->XW,bindC->XX,strValues->aay,seqItems?->aaz,pushCells->aaA,compareOp->aaB,compStart->aaC,TypeParam->aaE,wpAny_operating->aa6,wpAny_layCells->acN,wpAny_fieldsOf->acO,wpAny_Expr_any->acP,sliceRange_one->acR,newFunctionEnv->acS,isSubtype_type->acT,intBits_add_le->acU
open PySem.Around renaming under_plainId->mZ
open PySem.BoolOp renaming casesOn->p_
open PySem.Builtin renaming divisionGoesByPylong->c7,bitXor->zK,bitAnd->zL,bitOr->Pg
open PySem.Builtin.Bytes renaming takeBufferQuiet?->rn,joined->rq,bufferQuiet?->vq,buffer?->CG,takeBuffer?->KB,joinLetGo->Ph
open PySem.Builtin.Bytes.Kind renaming bytes->oU,bytearray->q7
open PySem.Builtin.Int renaming intBits->aH,intTooBig->ada
open PySem.Builtin.List renaming listFitsIndex->vD,listTooLong->xm,listSameRef->xo,listUpdate->aa_,listTouch->aa',listItems->aba,listExtendWith->abb
open PySem.Builtin.Range renaming small->dA,rangeSize->eP
open PySem.Builtin.Re renaming reLiteralCannotBeTurned->jy,reTurnSteps->jK,reWholeTarget->oy,reSlice->ES,reNoCollectionInside->SJ,reRawItems->Xv
open PySem.Builtin.Str renaming strKind->jU,strSliceIndices->mY,tooLong->pB,occurrences->ux,glued->CV,strSub->OX
open PySem.Builtin._codecs renaming asciiCodec->kM,encodeNarrow->se,asciiDecoder->si,runDecoder->uk
open PySem.Calls renaming spliced_cons->dE,spliced_nil->fe,evalArgs_plain->f4,Constant_str->jn,callWith_function->kZ,callWith_builtin->lI,Name_function_global->SI
open PySem.Data renaming casesOn->nQ,seq->Iq
open PySem.Expr renaming casesOn->nA
open PySem.Expr.ListComp renaming elim->rm
open PySem.Expr.Name renaming elim->nJ
open PySem.Expr.Tuple renaming elim->mG
open PySem.F renaming plain_extend_loop->j8,slot_str_split->lz,args_str_split_2->pA,entry_str_split->pV,plainAttrs_list->vp,entry_extend_loop->zQ,slot_str_encode->Bq,slot_list_count->Br,plainAttrs_str->J_,slot_int_rmul->X1
open PySem.Float64 renaming zero->eD,one->eO,cmp->f8,place->gb,cmpInt->je,decode->kJ,isZero->oj,add->ox,ofInt->pz,sub->sd,truncOf->wR,sgn->wS,floorOf->Ay,mul->CC,div->CD,cmp_right->Kz,dist->OW,val_eq->Xs,fmod->Xt,sgn_mul->X0,ofFrac->ac3
open PySem.Frame renaming guarded->uw
open PySem.Heap renaming get?_push_of_some->bu,get?_push_size->bQ,lt_size->dY,SameBut->gk,get?_update_self->gK,size_push->lO,get?_update_other->lP,ExtBut->ny,get?_none_of_le->Ip
open PySem.Heap.SameBut renaming update->md
open PySem.NameKind renaming cell->cO,free->d7
open PySem.Obj renaming mapSeq->gP,putNameByArray->OU,putName_eq->Xr
open PySem.Operator renaming casesOn->gQ
open PySem.PyData renaming canLay0->p9,eqv->qZ,eqvAll->SH,strOk->Un
open PySem.Sem renaming bind_eq_wrap'->dD,wrap_wrap->eE,bind_eq_wrap->rk,onRaise_eq_wrap->Kw,wrap_congr->Xq
open PySem.Sre renaming Seen->gV,forSearch->jJ,M->xB,Frame->zF
open PySem.Stmt.FunctionDef renaming elim->ou
open PySem.Str renaming join->pt,ofString->wP,append->wQ
open PySem.StrLaws renaming glued_eq_join->vo,At->GL,joinTotal->Im,partsFrom->Kv,partsBetween_eq->aa8
open PySem.Value renaming type->cK,ref->ek,none->im,int->kf,casesOn->lB,str->qQ,float->yg
open PySem.W renaming tabObj->po,typeIs_bytes->ui,Frag->uj,CodeAll->xl,ki_setAt->J7,noTabs->Xk,codeRec_of->Xl,CodeHd->Xo
open PySem.W.KBy renaming isInstance_eq->Pf,look_buffer->Um,special_eq->Xm,own_buffer->Xn,quiet_eq->aaD
open Std.Legacy.Range renaming size->gT,forIn_eq_forIn_range'->i6
open UInt64 renaming ofNat->vC
open _root_ renaming List->aj,Nat->Y,Int->Z,of_decide_eq_true->aq,Option->au,congrArg->az,Bool->aB,decide_eq_false->bz,if_neg->bA,decide_eq_true->bD,absurd->bI,if_pos->bM,beq_eq_false_iff_ne->cw,beq_self_eq_true->cH,UInt64->cR,Array->eI,beq_iff_eq->eR,False->iY,decide_eq_false_iff_not->jw,of_decide_eq_false->jR,or_false->lH,UInt8->nO,String->o_,decide_eq_true_eq->rt,Unit->sY,ForInStep->tj,if_false->wK,Ordering->AA,Nonempty->AB,Decidable->CN,bool->GD,bne_iff_ne->Xc
open _root_ renaming rfl->J
namespace Mine.Internal
open PySem PySem.W PySem.Calls PyProof.Rows
theorem dcd{p:Prop}[CN p](h:decide p=ah):p:=aq h
@[elab_as_elim] def rP{c:Sort _}{a b:c}{P:c->Prop}(h:a=b)(e:P b):P a:=h▸e
@[elab_as_elim] def rS{c:Sort _}{a b:c}{P:c->Prop}(h:b=a)(e:P b):P a:=h▸e
inductive LX where
 |v (i:Y)|n (k:Y)|a (x y:LX)|m (k:Y) (x:LX)|r (k:Y) (x:LX)
noncomputable def XJ:aj Y->Y->Y
 |[],_=>0
 |x::_,0=>x
 |_::r,i+1=>XJ r i
def LX.ev(c:aj Y):LX->Y
 | .v i=>XJ c i
 | .n k=>k
 | .a x y=>x.ev c+y.ev c
 | .m k x=>k*x.ev c
 | .r k x=>x.ev c*k
@[elab_as_elim] def QI{a:Type}{b:aj<|a7 × a}{x:a7}{i:a}{G:a7->a->Prop}(c:b.lookup x=U i)(h:∀p∈b,G p.1 p.2):G x i:=h (x,i)<|dZ c
def aC{b:Type}{p:b->Prop}{a:b}{l:aj b}(h:p a)(c:∀x∈l,p x):∀x∈a::l,p x:=iJ.mpr ⟨h,c⟩
def aN{a:Type}{p:a->Prop}:∀x∈([]:aj a),p x:=λ_ h=>nomatch h
@[elab_as_elim] def Ud{a:aj<|a7 × dJ}{x:a7}{G:a7->Prop}(b:a.lookup x=U .cell)(h:∀p∈a,p.2=cO->G p.1):G x:=h (x,.cell) (dZ b) J
inductive ZX where
 |v (i:Y)|n (k:Y)|a (x y:ZX)|s (x y:ZX)|g (x:ZX)|m (k:Y) (x:ZX)|r (k:Y) (x:ZX)|c (x:LX)
noncomputable def Jc:aj Z->Y->Z
 |[],_=>0
 |x::_,0=>x
 |_::r,i+1=>Jc r i
section
variable (C:aj Y) (D:aj Z)
def ZX.ev:ZX->Z
 | .v i=>Jc D i
 | .n k=>ed k
 | .a x y=>x.ev+y.ev
 | .s x y=>x.ev-y.ev
 | .g x=> -x.ev
 | .m k x=>ed k*x.ev
 | .r k x=>x.ev*ed k
 | .c x=>(x.ev C:Z)
inductive FX where
 |l (x y:LX)|e (x y:LX)|L (x y:ZX)|E (x y:ZX)|f|no (p:FX)|an (p q:FX)|or (p q:FX)
 |sb (z x y:LX)|dm (q z x:LX) (k:Y)|mn (z x y:LX)|Dm (q z x:ZX) (k:Y)|tn (z:LX) (x:ZX)|na (z:LX) (x:ZX)
def FX.den:FX->Prop
 | .l x y=>x.ev C<=y.ev C
 | .e x y=>x.ev C=y.ev C
 | .L x y=>x.ev C D<=y.ev C D
 | .E x y=>x.ev C D=y.ev C D
 | .f=>iY
 | .no p=>¬p.den
 | .an p q=>p.den/\q.den
 | .or p q=>p.den\/q.den
 | .sb z x y=>z.ev C=x.ev C-y.ev C
 | .dm q z x k=>q.ev C=x.ev C/k/\z.ev C=x.ev C%k
 | .mn z x y=>z.ev C=min (x.ev C) (y.ev C)
 | .Dm q z x k=>q.ev C D=x.ev C D/ed k/\z.ev C D=x.ev C D%ed k
 | .tn z x=>z.ev C=(x.ev C D).toNat
 | .na z x=>z.ev C=(x.ev C D).natAbs
noncomputable def Gf(G:Prop):aj FX->Prop
 |[]=>G
 |p::r=>p.den C D->Gf G r
def vP:Y->Z
 |0=>1
 |j+1=>match j%2 with|0=>(XJ C (j/2):Z)|_=>Jc D<|j/2
noncomputable def iB(i:Y):aj Z->Z
 |[]=>0
 |x::v=>x*vP C D i+iB (i+1) v
end
noncomputable def zt:aj Z->aj Z->aj Z
 |[],v=>v
 |x::u,v=>match v with|[]=>x::u|y::v=>(x+y)::zt u v
noncomputable def xt(k:Z):aj Z->aj Z
 |[]=>[]
 |x::u=>(k*x)::xt k u
noncomputable def UL:Y->aj Z
 |0=>[1]
 |i+1=>0::UL i
def LX.gS:LX->aj Z
 | .v i=>UL<|2*i+1
 | .n k=>[ed k]
 | .a x y=>zt x.gS y.gS
 | .m k x=>xt (ed k) x.gS
 | .r k x=>xt (ed k) x.gS
def ZX.gS:ZX->aj Z
 | .v i=>UL<|2*i+2
 | .n k=>[ed k]
 | .a x y=>zt x.gS y.gS
 | .s x y=>zt x.gS<|xt (-1) y.gS
 | .g x=>xt (-1) x.gS
 | .m k x=>xt (ed k) x.gS
 | .r k x=>xt (ed k) x.gS
 | .c x=>x.gS
abbrev Kx:=aj (aB × aj Z)->aj Z->au (aj Z)
noncomputable def YN(k:Z->aj Z->au (aj Z)):aj Z->au (aj Z)
 |[]=>k 1 []
 |m::r=>k m r
def w9(x y:aj Z)(c:Z)(k:Kx):Kx:=λa=>k<|(af,zt y<|zt (xt (-1) x) [c])::a
def Gb(x y:aj Z)(k:Kx):Kx:=λa=>k<|(ah,zt y<|xt (-1) x)::a
noncomputable def O6(p q:Kx->Kx)(k:Kx):Kx:=λa=>YN λm b=>match m with
 | .ofNat 0=>k a b
 |_=>(p k a b).bind<|q k a
def FX.go:FX->aB->Kx->Kx
 | .l x y,ah,k=>w9 x.gS y.gS 0 k
 | .l x y,af,k=>w9 y.gS x.gS (-1) k
 | .L x y,ah,k=>w9 x.gS y.gS 0 k
 | .L x y,af,k=>w9 y.gS x.gS (-1) k
 | .e x y,ah,k=>Gb x.gS y.gS k
 | .e x y,af,k=>O6 (w9 y.gS x.gS<|-1) (w9 x.gS y.gS<|-1) k
 | .E x y,ah,k=>Gb x.gS y.gS k
 | .E x y,af,k=>O6 (w9 y.gS x.gS<|-1) (w9 x.gS y.gS<|-1) k
 | .f,ah,_=>λ_ a=>U a
 | .f,af,k=>k
 | .no p,b,k=>p.go (!b) k
 | .an p q,ah,k=>p.go ah (q.go ah k)
 | .an p q,af,k=>O6 (p.go af) (q.go af) k
 | .or p q,ah,k=>O6 (p.go ah) (q.go ah) k
 | .or p q,af,k=>p.go af (q.go af k)
 | .sb z x y,ah,k=>O6 (λk=>w9 y.gS x.gS 0<|Gb (zt z.gS y.gS) x.gS k) (λk=>w9 x.gS y.gS 0<|Gb z.gS [0] k)<|w9 x.gS (zt z.gS y.gS) 0<|w9 z.gS x.gS 0 k
 | .dm q z x d,ah,k=>match d with|0=>k|d+1=>Gb x.gS (zt (xt (d+1) q.gS) z.gS)<|w9 z.gS [0] d k
 | .mn z x y,ah,k=>O6 (Gb z.gS x.gS) (Gb z.gS y.gS)<|w9 z.gS x.gS 0<|w9 z.gS y.gS 0 k
 | .Dm q z x d,ah,k=>match d with|0=>k|d+1=>Gb x.gS (zt (xt (d+1) q.gS) z.gS)<|w9 z.gS [0] d<|w9 [0] z.gS 0 k
 | .tn z x,ah,k=>O6 (Gb z.gS x.gS) (Gb z.gS [0])<|w9 x.gS z.gS 0 k
 | .na z x,ah,k=>O6 (Gb z.gS x.gS) (Gb z.gS<|xt (-1) x.gS)<|w9 x.gS z.gS 0<|w9 (xt (-1) x.gS) z.gS 0 k
 |_,af,k=>k
noncomputable def Mw:aB->aj Z->aB
 |_,[]=>ah
 |true,x::v=>(match x with| .ofNat 0=>ah| .ofNat _=>af| .negSucc _=>ah)&&Mw af v
 |false,x::v=>(match x with| .ofNat 0=>ah|_=>af)&&Mw ah v
noncomputable def Zf:aB->Z->Z
 |true,m=>m
 |false,m=>ed m.natAbs
noncomputable def sumK:aj (aB × aj Z)->aj Z->aj Z->aj Z × aj Z
 |[],a,v=>(v,a)
 |p::r,a,v=>match a with|[]=>sumK r [] (zt v p.2)|m::a=>sumK r a<|zt v<|xt (Zf p.1 m) p.2
def Qy:aj Z->aB
 | .negSucc _::v=>Mw ah v
 |_=>af
def ZQ:Kx:=λa b=>match Qy (sumK a b []).1 with|true=>U (sumK a b []).2|false=>ag
noncomputable def goL:aj FX->Kx->Kx
 |[],k=>k
 |p::r,k=>p.go ah (goL r k)
def acC(a b c d:Z):a+b+(c+d)=a+c+(b+d):=by exact rP (EL ..)<|rP (Pu b ..)<|rS (EL ..) J
def mB:∀(i:Y) (u v:aj Z),iB C D i (zt u v)=iB C D i u+iB C D i v:=by
 intro i u;induction u generalizing i with
 |nil=>intro v;exact(kx _).symm
 |cons x u b=>
  intro a;cases a with
  |nil=>exact(cE _).symm
  |cons y v=>show(x+y)*vP C D i+iB C D (i+1) (zt u v)=x*vP C D i+iB C D (i+1) u+(y*vP C D i+iB C D (i+1) v);exact rP (b (i+1) v ..) <| rP (gD ..) <| acC _ _ _ _
def mz(k):∀(i) (u),iB C D i (xt k u)=k*iB C D i u:=by
 intro i u;induction u generalizing i with
 |nil=>exact(aaO k).symm
 |cons x u a=>show k*x*vP C D i+iB C D (i+1) (xt k u)=k*(x*vP C D i+iB C D (i+1) u);exact rP (a (i+1) ..)<|rP (abo ..)<|rP (iR ..) J
def H_(j):∀(i),iB C D i (UL j)=vP C D (i+j):=by
 induction j with
 |zero=>intro i;show 1*vP C D i+0=vP C D i;exact rP (fb ..)<|rP (cE ..) J
 |succ j a=>intro i;show 0*vP C D i+iB C D (i+1) (UL j)=vP C D (i+(j+1));exact rP (a (i+1) ..)<|rP (dG ..)<|rP (kx ..)<|rP (iQ ..)<|rP (dO 1 j ..) J
def Gc(k):iB C D 0 [k]=k:=by show k*1+0=k;exact rP (ki ..)<|rP (cE ..) J
def KR(i):vP C D (2*i+1)=(XJ C i:Z):=by have a:=Nat.mul_mod_right 2 i;have b:(2*i)/2=i:=EU i<|dcd J;show(match(2*i)%2 with|0=>(XJ C (2*i/2):Z)|_=>Jc D<|2*i/2)=_;exact rP a <| rP b J
def UJ(i):vP C D (2*i+2)=Jc D i:=by have a:=sM 2 i 1;have b:(2*i+1)/2=i:=sO (dcd J) i 1;show(match(2*i+1)%2 with|0=>(XJ C ((2*i+1)/2):Z)|_=>Jc D<|(2*i+1)/2)=_;exact rP a <| rP b J
theorem LX.jQ:∀x:LX,iB C D 0 x.gS=(x.ev C:Z)
 | .v i=>by show iB C D 0 (UL<|2*i+1)=_;exact rP (H_ ..) <| rP (kt ..) <| rP (KR ..) J
 | .n k=>Gc _
 | .a x y=>by show iB C D 0 (zt x.gS y.gS)=((x.ev C+y.ev C:Y):Z);exact rP (mB ..) <| rP (jQ x ..) <| rP (jQ y ..) J
 | .m k x=>by show iB C D 0 (xt (ed k) x.gS)=((k*x.ev C:Y):Z);exact rP (mz ..) <| rP (jQ x ..) J
 | .r k x=>by show iB C D 0 (xt (ed k) x.gS)=((x.ev C*k:Y):Z);exact rP (mz ..) <| rP (jQ x ..) <| rP (bS ..) J
theorem ZX.jQ:∀x:ZX,iB C D 0 x.gS=x.ev C D
 | .v i=>by show iB C D 0 (UL<|2*i+2)=_;exact rP (H_ ..) <| rP (kt ..) <| rP (UJ ..) J
 | .n k=>Gc _
 | .a x y=>by show iB C D 0 (zt x.gS y.gS)=x.ev C D+y.ev C D;exact rP (mB ..)<|rP (jQ x ..)<|rP (jQ y ..) J
 | .s x y=>by show iB C D 0 (zt x.gS<|xt (-1) y.gS)=x.ev C D-y.ev C D;exact rP (mB ..) <| rP (mz ..) <| rP (jQ x ..) <| rP (jQ y ..) <| rP (kh ..) <| rP (fb ..) J
 | .g x=>by show iB C D 0 (xt (-1) x.gS)= -x.ev C D;exact rP (mz ..)<|rP (jQ x ..)<|rP (kh ..)<|rP (fb ..) J
 | .m k x=>by show iB C D 0 (xt (ed k) x.gS)=ed k*x.ev C D;exact rP (mz ..)<|rP (jQ x ..) J
 | .r k x=>by show iB C D 0 (xt (ed k) x.gS)=x.ev C D*ed k;exact rP (mz ..)<|rP (jQ x ..)<|rP (jA ..) J
 | .c x=>x.jQ
def okY(C:aj Y)(D:aj Z):aB × aj Z->Prop
 |(ah,v)=>iB C D 0 v=0
 |(af,v)=>0<=iB C D 0 v
noncomputable def okL(C:aj Y)(D:aj Z):aj (aB × aj Z)->Prop
 |[]=>True
 |p::r=>okY C D p/\okL C D r
def mc(C:aj Y)(D:aj Z)(k:Kx):Prop:=∀a b r,k a b=U r->okL C D a->iY
def R_{k:Z->aj Z->au (aj Z)}{P:Prop}(h:∀m a r,k m a=U r->P):∀a r,YN k a=U r->P:=by
 intro a;induction a with
 |nil=>intro r e;exact h _ _ _ e
 |cons _ _ b=>intro r e;exact h _ _ _ e
def WW{x y:aj Z}{c:Z}{k:Kx}(h:iB C D 0 x<=iB C D 0 y+c)(b:mc C D k):mc C D<|w9 x y c k:=λ_ _ _ e o=>b _ _ _ e ⟨by show 0<=iB C D 0 (zt y<|zt (xt (-1) x) [c]);exact rP (mB ..) <| rP (mB ..) <| rP (mz ..) <| rP (Gc ..) <| rP (kh ..) <| rP (fb ..) <| rP (Pu ..) <| rP (sk ..) <| rS (pH ..) <| Int.sub_nonneg_of_le h,o⟩
def WX{x y:aj Z}{k:Kx}(h:iB C D 0 x=iB C D 0 y)(b:mc C D k):mc C D<|Gb x y k:=λ_ _ _ e o=>b _ _ _ e ⟨by show iB C D 0 (zt y<|xt (-1) x)=0;exact rP (mB ..)<|rP (mz ..)<|rP (h ..)<|rP (kh ..)<|rP (fb ..)<|rP (Int.add_right_neg ..) J,o⟩
def ue{p q:Kx->Kx}{k:Kx}(b:mc C D k)(h:mc C D (p k)\/mc C D (q k)):mc C D<|O6 p q k:=λa=>R_ λm c r e o=>by
 have go:(p k a c).bind (q k a)=U r->iY:=λe=>(CH.mp e).elim λd e=>h.elim (λh=>h _ _ _ e.1 o) λh=>h _ _ _ e.2 o
 cases m with
 |negSucc i=>exact go e
 |ofNat i=>cases i with
  |zero=>exact b _ _ _ e o
  |succ i=>exact go e
def ad_(p:Prop):aB->Prop
 |true=>p
 |false=>¬p
def B8{x y:ZX}{c:Z}{k:Kx}(h:x.ev C D<=y.ev C D+c)(g:mc C D k):mc C D<|w9 x.gS y.gS c k:=WW (rP x.jQ <| rP y.jQ h) g
def FJ{x y:LX}{k:Kx}(h:x.ev C<=y.ev C)(g:mc C D k):mc C D<|w9 x.gS y.gS 0 k:=B8 (x:= .c x) (y:= .c y) (rS ((cE _).symm) <| dz.mpr h) g
def Ga{x y:ZX}{k:Kx}(h:x.ev C D=y.ev C D)(g:mc C D k):mc C D<|Gb x.gS y.gS k:=WX (rP x.jQ <| rP y.jQ h) g
def JE{x y:LX}{k:Kx}(h:x.ev C=y.ev C)(g:mc C D k):mc C D<|Gb x.gS y.gS k:=Ga (x:= .c x) (y:= .c y) (az ed h) g
def QG{x y:ZX}{k:Kx}(h:¬x.ev C D<=y.ev C D)(g:mc C D k):mc C D<|w9 y.gS x.gS (-1) k:=B8 (Int.le_sub_one_of_lt<|CK.mp h) g
def Za{x y:ZX}{k:Kx}(h:¬x.ev C D=y.ev C D)(g:mc C D k):mc C D<|O6 (w9 y.gS x.gS<|-1) (w9 x.gS y.gS<|-1) k:=ue g<|(Int.lt_or_gt_of_ne h).symm.imp (λh=>QG (CK.mpr h) g) λh=>QG (CK.mpr h) g
def Vz{v}:∀i,(Mw ah v=ah->iB C D (2*i+1) v<=0)/\(Mw af v=ah->iB C D (2*i+2) v<=0):=by
 induction v with
 |nil=>exact λ_=>⟨λ_=>lD 0,λ_=>lD 0⟩
 |cons x v a=>
  refine λi=>⟨λh=> ?_,λh=> ?_⟩
  ·have h:=f6.mp h;refine Int.add_le_add (Int.mul_nonpos_of_nonpos_of_nonneg ?_<|KR i▸aK _)<|(a i).2 h.2;have h:=h.1;match x,h with
   | .ofNat 0,_=>decide
   | .negSucc i,_=>exact jC<|KG i
  ·have h:=f6.mp h
   have z:x=0:=by
    have h:=h.1;match x,h with
    | .ofNat 0,_=>rfl
   show x*_+_<=(0:Z);exact rP (z ..) <| rP (dG ..) <| rP (kx ..) <| (a<|i+1).1 h.2
def UU:∀(l:aj<|aB × aj Z) (a v),okL C D l->0<=iB C D 0 v->0<=iB C D 0 (sumK l a v).1:=by
 intro l;induction l with
 |nil=>intro _ _ _ h;exact h
 |cons c r e=>
  obtain⟨b,x⟩:=c;intro d;cases d with
  |nil=>
   intro v o h
   exact e [] (zt v x) o.2 (by
    have:=o.1;cases b with
    |true=>have t:iB C D 0 x=0:=this;exact rP (mB ..) <| rP (t ..) <| rP (cE ..) h
    |false=>have t:0<=iB C D 0 x:=this;exact rP (mB ..) <| XC h t)
  |cons m a=>
   intro v o h
   exact e a (zt v<|xt (Zf b m) x) o.2 (by
    have:=o.1;cases b with
    |true=>have t:iB C D 0 x=0:=this;exact rP (mB ..) <| rP (mz ..) <| rP (t ..) <| rP (aaO ..) <| rP (cE ..) h
    |false=>have t:=this;exact rP (mB ..) <| rP (mz ..) <| XC h<|pI (aK m.natAbs) t)
def Qx:∀{v},Qy v=ah->iB C D 0 v<0
 | .negSucc i::v,q=>by have:=(Vz (C:=C) (D:=D) (v:=v) 0).1 q;show Int.negSucc i*1+iB C D 1 v<0;exact rP (ki ..) <| Int.add_neg_of_neg_of_nonpos (KG i) this
def Ii:mc C D ZQ:=λa b r e o=>by
 have e:(match Qy (sumK a b []).1 with|true=>U (sumK a b []).2|false=>ag)=U r:=e;cases q:Qy (sumK a b []).1 with
 |false=>rw[q]at e;cases e
 |true=>exact bI (Qx q)<|kg.mpr<|UU a b [] o<|lD 0
structure FX.Sd(C:aj Y)(D:aj Z)(p:FX):Prop where
 t:∀{k},p.den C D->mc C D k->mc C D (p.go ah k)
 o:∀{k},¬p.den C D->mc C D k->mc C D (p.go af k)
def FX.sound(p:FX):FX.Sd C D p:=by
 induction p with
 |l x y=>exact⟨λh g=>FJ h g,λh g=>QG (x:= .c x) (y:= .c y) (mt dz.mp h) g⟩
 |L x y=>exact⟨λh g=>B8 (rS ((cE _).symm) <| h) g,λh g=>QG h g⟩
 |e x y=>exact⟨λh g=>JE h g,λh g=>Za (x:= .c x) (y:= .c y) (mt ji h) g⟩
 |E x y=>exact⟨λh g=>Ga h g,λh g=>Za h g⟩
 |f=>exact⟨λh=>h.elim,λ_ g=>g⟩
 |no p P=>exact⟨λh g=>P.o h g,λh g=>P.t (Classical.not_not.mp h) g⟩
 |an p q P Q=>exact⟨λh g=>P.t h.1<|Q.t h.2 g,λh g=>ue g<|(Classical.not_and_iff_not_or_not.mp h).imp (λh=>P.o h g) λh=>Q.o h g⟩
 |or p q P Q=>exact⟨λh g=>ue g<|Or.imp (λh=>P.t h g) (λh=>Q.t h g) h,λh g=>P.o (λa=>h<|.inl a)<|Q.o (λa=>h<|.inr a) g⟩
 |sb z x y=>
  exact⟨λe g=>by
   have g:=FJ (x:=x) (y:= .a z y) (ab (Nat.le_add_of_sub_le<|aZ _)<|fA (cD e.symm) _)<|FJ (ab (cD e)<|lA _ _) g
   exact ue g ((xG (y.ev C)<|x.ev C).imp (λl=>FJ l (JE (x:= .a z y) ((az (· +y.ev C) e).trans<|pC l) g)) λl=>FJ l<|JE (y:= .n 0) (e.trans<|It l) g),λ_ g=>g⟩
 |dm q z x k=>
  cases k with
  |zero=>exact⟨λ_ g=>g,λ_ g=>g⟩
  |succ d=>
   exact⟨λe g=>JE (y:= .a (.m (d+1) q) z) (by show x.ev C=(d+1)*q.ev C+z.ev C;exact rP e.1 <| rP e.2 <| (eV _ _).symm)
    (B8 (x:= .c z) (y:= .n 0) (by show(z.ev C:Z)<=0+d;exact rP (kx ..) <| rP (e.2 ..) <| dz.mpr<|eF<|bP _<|fj d) g),λ_ g=>g⟩
 |mn z x y=>exact⟨λe g=>by have g:=FJ (ab (cD e)<|Ut _ _)<|FJ (ab (cD e)<|zM _ _) g;exact ue g<|(xG (x.ev C)<|y.ev C).imp (λl=>JE (e.trans<|om l) g) λl=>JE (e.trans<|Nat.min_eq_right l) g,λ_ g=>g⟩
 |Dm q z x k=>
  cases k with
  |zero=>exact⟨λ_ g=>g,λ_ g=>g⟩
  |succ d=>
   have p:=Int.natCast_succ_pos d
   exact⟨λe g=>Ga (y:= .a (.m (d+1) q) z) (by show x.ev C D=((d:Z)+1)*q.ev C D+z.ev C D;exact rP e.1 <| rP e.2 <| (m8 _ _).symm)
    (B8 (y:= .n 0) (by show z.ev C D<=0+(d:Z);exact rP (kx ..) <| rP (e.2 ..) <| nL<|wX _ p)
    (B8 (x:= .n 0) (rP (cE ..) <| rP (e.2 ..) <| sR _<|aaN p) g)),λ_ g=>g⟩
 |tn z x=>exact⟨λe g=>by have g:=B8 (x:=x) (y:= .c z) (by show _<=(z.ev C:Z)+0;exact rP (cE ..) <| rP (e ..) <| Int.self_le_toNat _) g;exact ue g<|(aaP 0<|x.ev C D).imp (λl=>Ga (x:= .c z) (by show(z.ev C:Z)=_;exact rP e <| kQ l) g) λl=>Ga (x:= .c z) (y:= .n 0) (by show(z.ev C:Z)=_;exact rP e <| rP (Int.toNat_of_nonpos l) J) g,λ_ g=>g⟩
 |na z x=>exact⟨λe g=>by have g:=B8 (x:=x) (y:= .c z) (by show _<=(z.ev C:Z)+0;exact rP (cE ..) <| rP (e ..) X4)<|B8 (x:= .g x) (y:= .c z) (by show -_<=(z.ev C:Z)+0;exact rP (cE ..) <| rP (e ..) <| rS (CL ..) X4) g;exact ue g<|(aaP 0<|x.ev C D).imp (λl=>Ga (x:= .c z) (by show(z.ev C:Z)=_;exact rP e <| Kl l) g) λl=>Ga (x:= .c z) (y:= .g x) (by show(z.ev C:Z)= -_;exact rP e <| Int.ofNat_natAbs_of_nonpos l) g,λ_ g=>g⟩
def y'{G H:Prop}(f:G->H){l}:Gf C D G l->Gf C D H l:=by
 induction l with
 |nil=>intro h;exact f h
 |cons _ _ a=>intro h;exact λb=>a<|h b
def Np{k:Kx}(b:mc C D k):∀l:aj FX,Gf C D (mc C D<|goL l k) l:=by
 intro l;induction l with
 |nil=>exact b
 |cons _ r a=>exact λc=>y' (λq=>(FX.sound _).t c q)<|a
def RU(g:FX)(l:aj FX)(a:aj Z):aB:=(g.go af (goL l ZQ) [] a).isSome
def oq(C:aj Y)(D:aj Z)(g:FX)(l:aj FX)(a:aj Z)(h:RU g l a=ah):Gf C D (g.den C D) l:=(Classical.em<|g.den C D).elim (λq=>y' (λ_=>q)<|Np Ii l) λq=>y' (λb=>by obtain⟨r,e⟩:=iF.mp h;exact bI ((FX.sound _).o q b _ _ _ e trivial) id)<|Np Ii l
abbrev QX:=FX × aj FX × aj Z
noncomputable def fzX{R:Type}(d:Y)(k:Y->R):R:=match d with
 |0=>k (nat_lit 0)|1=>k (nat_lit 1)|2=>k (nat_lit 2)|3=>k (nat_lit 3)|4=>k (nat_lit 4)|5=>k (nat_lit 5)|6=>k (nat_lit 6)|7=>k (nat_lit 7)|8=>k (nat_lit 8)|9=>k (nat_lit 9)|10=>k (nat_lit 10)|11=>k (nat_lit 11)|12=>k (nat_lit 12)|13=>k (nat_lit 13)|14=>k (nat_lit 14)|_=>k<|nat_lit 15
noncomputable def dgX{R:Type}:Y->Y->(aj Y->R)->R
 |0,_,k=>k []
 |f+1,c,k=>match c with
  |0=>k []
  |n+1=>fzX ((n+1)%16) λd=>dgX f ((n+1)/16) λr=>k<|d::r
noncomputable def Yc{R:Type}:Y->aj Y->(Y->aj Y->R)->R
 |0,r,k=>k 0 r
 |n+1,r,k=>match r with
  |[]=>k 0 r
  |d::r=>Yc n r λv=>k<|d+16*v
def O7(c:aj Y)(k:Y->aj Y->QX):QX:=match c with
 |15::n::c=>Yc (n+1) c λv c=>match v with
  |0=>k 0 c
  |n+1=>k (n+1) c
 |d::c=>k d c
 |[]=>k 0 []
noncomputable def yA:Y->aj Y->(LX->aj Y->QX)->QX
 |f+1,d::c,k=>match d with
  |6=>k (.n 1) c
  |7=>k (.n 0) c
  |8=>k (.n 2) c
  |9=>O7 c λn=>k<|.n n
  |10=>yA f c λx c=>yA f c λy=>k<|.a x y
  |11=>yA f c λx=>k<|.a x<|.n 1
  |12=>O7 c λn c=>yA f c λx=>k<|.m n x
  |13=>O7 c λn c=>yA f c λx=>k<|.r n x
  |14=>O7 c λn=>k<|.v n
  |d=>k (.v d) c
 |_,c,k=>k (.v 0) c
noncomputable def CO:Y->aj Y->(ZX->aj Y->QX)->QX
 |f+1,d::c,k=>match d with
  |4=>k (.n 1) c
  |5=>k (.n 0) c
  |6=>yA f c λx=>k<|.c x
  |7=>k (.c<|.v 0) c
  |8=>O7 c λn=>k<|.n n
  |9=>CO f c λx c=>CO f c λy=>k<|.a x y
  |10=>CO f c λx c=>CO f c λy=>k<|.s x y
  |11=>CO f c λx=>k<|.g x
  |12=>O7 c λn c=>CO f c λx=>k<|.m n x
  |13=>O7 c λn c=>CO f c λx=>k<|.r n x
  |14=>O7 c λn=>k<|.v n
  |15=>k (.c<|.v 1) c
  |d=>k (.v d) c
 |_,c,k=>k (.v 0) c
noncomputable def U':Y->aj Y->(FX->aj Y->QX)->QX
 |f+1,d::c,k=>match d with
  |1=>yA f c λx c=>yA f c λy=>k<|.l x y
  |2=>yA f c λx c=>yA f c λy=>k<|.l (.a x<|.n 1) y
  |3=>yA f c λx c=>yA f c λy=>k<|.e x y
  |4=>CO f c λx c=>CO f c λy=>k<|.L x y
  |5=>CO f c λx c=>CO f c λy=>k<|.L (.a x<|.n 1) y
  |6=>CO f c λx c=>CO f c λy=>k<|.E x y
  |7=>U' f c λp=>k<|.no p
  |8=>U' f c λp c=>U' f c λq=>k<|.an p q
  |9=>U' f c λp c=>U' f c λq=>k<|.or p q
  |10=>yA f c λz c=>yA f c λx c=>yA f c λy=>k<|.sb z x y
  |11=>yA f c λz c=>CO f c λx=>k<|.na z x
  |12=>yA f c λz c=>CO f c λx=>k<|.tn z x
  |13=>yA f c λz c=>yA f c λx c=>yA f c λy=>k<|.mn z x y
  |14=>yA f c λq c=>yA f c λz c=>yA f c λx c=>O7 c λn=>k<|.dm q z x n
  |15=>CO f c λq c=>CO f c λz c=>CO f c λx c=>O7 c λn=>k<|.Dm q z x n
  |_=>k .f c
 |_,c,k=>k .f c
noncomputable def EN:Y->aj Y->(aj Z->QX)->QX
 |f+1,d::c,k=>match d with
  |0=>k []
  |1=>EN f c λr=>k<|0::r
  |2=>EN f c λr=>k<|1::r
  |3=>EN f c λr=>k<|-1::r
  |4=>EN f c λr=>k<|2::r
  |5=>match c with
   |n::c=>Yc (n+1) c λv c=>EN f c λr=>k<|ed v::r
   |[]=>k []
  |6=>match c with
   |n::c=>Yc (n+1) c λv c=>EN f c λr=>k<|-ed v::r
   |[]=>k []
  |7=>EN f c λr=>k<|0::0::r
  |8=>EN f c λr=>k<|0::1::r
  |9=>EN f c λr=>k<|1::0::r
  |10=>EN f c λr=>k<|1::1::r
  |11=>EN f c λr=>k<|0::0::0::r
  |12=>EN f c λr=>k<|0::0::1::r
  |13=>EN f c λr=>k<|1::1::1::r
  |14=>EN f c λr=>k<|0::0::0::0::r
  |_=>EN f c λr=>k<|1::1::1::1::r
 |_,_,k=>k []
noncomputable def rdS:Y->aj Y->(aj FX->aj Y->QX)->QX
 |f+1,d::c,k=>match d with
  |0=>k [] c
  |_=>U' f (d::c) λp c=>rdS f c λr=>k<|p::r
 |_,c,k=>k [] c
def EM(c:Y):QX:=dgX 999 c λc=>U' 99 c λg c=>rdS 99 c λl c=>EN 199 c λm=>(g,l,m)
def TQ(C:aj Y)(D:aj Z)(q:QX):Prop:=Prod.rec (motive:=λ_=>Prop) (λg p=>Prod.rec (motive:=λ_=>Prop) (λl a=>Bool.rec (motive:=λ_=>Prop) True (Gf C D (g.den C D) l)<|RU g l a) p) q
def oz(C)(D)(c):TQ C D<|EM c:=by
 generalize EM c=q;obtain⟨g,l,a⟩:=q;show Bool.rec (motive:=λ_=>Prop) True (Gf C D (g.den C D) l)<|RU g l a;cases h:RU g l a with
 |false=>trivial
 |true=>exact oq C D g l a h
def cQ{a b}(q):TQ [a,b] []<|EM q:=oz _ _ _
def du{a}(q):TQ [a] []<|EM q:=oz _ _ _
def d9{a b c}(q):TQ [a,b,c] []<|EM q:=oz _ _ _
def f7{a}{u}(q):TQ [a] [u]<|EM q:=oz _ _ _
def gr{a b c d}(q):TQ [a,b,c,d] []<|EM q:=oz _ _ _
def lE{u}(q):TQ [] [u]<|EM q:=oz _ _ _
def sS{u v}(q):TQ [] [u,v]<|EM q:=oz _ _ _
def uS{a b c d e}(q):TQ [a,b,c,d,e] []<|EM q:=oz _ _ _
def v_{a b}{u}(q):TQ [a,b] [u]<|EM q:=oz _ _ _
def BU{a b}{u v}(q):TQ [a,b] [u,v]<|EM q:=oz _ _ _
def BW(q):TQ [] []<|EM q:=oz _ _ _
def BV{a}{u v}(q):TQ [a] [u,v]<|EM q:=oz _ _ _
def L9{a b c d e f}(q):TQ [a,b,c,d,e,f] []<|EM q:=oz _ _ _
def L_{a b c}{u}(q):TQ [a,b,c] [u]<|EM q:=oz _ _ _
def nd{a:Type _}{r:a}{p:Prop}(e:ag=U r):p:=nomatch e
def dn{a:Type _}{r:a}{p:Prop}(e:U r=ag):p:=nomatch e
def ff{p:Prop}(e:af=ah):p:=nomatch e
def tf{p:Prop}(e:ah=af):p:=nomatch e
def sm{c:Type _}{a b:c}(e:U a=U b):a=b:=me e
inductive Bd{α β:Type}(o:au α)(g:α->au β)(b:β):Prop
 |mk (a:α) (h1:o=U a) (h2:g a=U b):Bd o g b
def ER{c d:Type}{o:au c}{g:c->au d}{b:d}(h:o.bind g=U b):Bd o g b:=by
 cases o with
 |none=>exact nd h
 |some a=>exact⟨a,J,h⟩
def gO{d e:Type _}{p:Prop}{o:au d}{g:d->au e}{b:e}(h:o.bind g=U b)(c:∀a,o=U a->g a=U b->p):p:=by
 cases o with
 |none=>exact nd h
 |some a=>exact c a J h
def jG{a b:Prop}{r:Prop}(h:a/\b)(c:a->b->r):r:=c h.1 h.2
def E0{a b d:Prop}{r:Prop}(h:a/\b/\d)(c:a->b->d->r):r:=c h.1 h.2.1 h.2.2
def UE{a b d e:Prop}{r:Prop}(h:a/\b/\d/\e)(c:a->b->d->e->r):r:=c h.1 h.2.1 h.2.2.1 h.2.2.2
def dQ{a:Sort _}{b:a->Prop}{r:Prop}(h:∃x0,b x0)(c:∀x0,b x0->r):r:=h.elim λx0 h=>c x0 h
def cm{a:Sort _}{b d:a->Prop}{r:Prop}(h:∃x0,b x0/\d x0)(c:∀x0,b x0->d x0->r):r:=h.elim λx0 h=>c x0 h.1 h.2
def pM{a:Sort _}{b d e:a->Prop}{r:Prop}(h:∃x0,b x0/\d x0/\e x0)(c:∀x0,b x0->d x0->e x0->r):r:=h.elim λx0 h=>c x0 h.1 h.2.1 h.2.2
def zY{a:Sort _}{b d e f:a->Prop}{r:Prop}(h:∃x0,b x0/\d x0/\e x0/\f x0)(c:∀x0,b x0->d x0->e x0->f x0->r):r:=h.elim λx0 h=>c x0 h.1 h.2.1 h.2.2.1 h.2.2.2
def abu{a:Sort _}{b d e f g:a->Prop}{r:Prop}(h:∃x0,b x0/\d x0/\e x0/\f x0/\g x0)(c:∀x0,b x0->d x0->e x0->f x0->g x0->r):r:=h.elim λx0 h=>c x0 h.1 h.2.1 h.2.2.1 h.2.2.2.1 h.2.2.2.2
def X_{a b:Sort _}{d:a->b->Prop}{r:Prop}(h:∃x0 x1,d x0 x1)(c:∀x0 x1,d x0 x1->r):r:=h.elim λx0 h=>h.elim λx1 h=>c x0 x1 h
def oV{a b:Sort _}{d e:a->b->Prop}{r:Prop}(h:∃x0 x1,d x0 x1/\e x0 x1)(c:∀x0 x1,d x0 x1->e x0 x1->r):r:=h.elim λx0 h=>h.elim λx1 h=>c x0 x1 h.1 h.2
def jj{a b:Sort _}{d e f:a->b->Prop}{r:Prop}(h:∃x0 x1,d x0 x1/\e x0 x1/\f x0 x1)(c:∀x0 x1,d x0 x1->e x0 x1->f x0 x1->r):r:=h.elim λx0 h=>h.elim λx1 h=>c x0 x1 h.1 h.2.1 h.2.2
def rc{a b:Sort _}{d e f g:a->b->Prop}{r:Prop}(h:∃x0 x1,d x0 x1/\e x0 x1/\f x0 x1/\g x0 x1)(c:∀x0 x1,d x0 x1->e x0 x1->f x0 x1->g x0 x1->r):r:=h.elim λx0 h=>h.elim λx1 h=>c x0 x1 h.1 h.2.1 h.2.2.1 h.2.2.2
def abt{a b:Sort _}{d e f g i:a->b->Prop}{r:Prop}(h:∃x0 x1,d x0 x1/\e x0 x1/\f x0 x1/\g x0 x1/\i x0 x1)(c:∀x0 x1,d x0 x1->e x0 x1->f x0 x1->g x0 x1->i x0 x1->r):r:=h.elim λx0 h=>h.elim λx1 h=>c x0 x1 h.1 h.2.1 h.2.2.1 h.2.2.2.1 h.2.2.2.2
def X9{a b:Sort _}{d e f g i j:a->b->Prop}{r:Prop}(h:∃x0 x1,d x0 x1/\e x0 x1/\f x0 x1/\g x0 x1/\i x0 x1/\j x0 x1)(c:∀x0 x1,d x0 x1->e x0 x1->f x0 x1->g x0 x1->i x0 x1->j x0 x1->r):r:=h.elim λx0 h=>h.elim λx1 h=>c x0 x1 h.1 h.2.1 h.2.2.1 h.2.2.2.1 h.2.2.2.2.1 h.2.2.2.2.2
def abr{a b:Sort _}{d e f g i j p6 p7:a->b->Prop}{r:Prop}(h:∃x0 x1,d x0 x1/\e x0 x1/\f x0 x1/\g x0 x1/\i x0 x1/\j x0 x1/\p6 x0 x1/\p7 x0 x1)(c:∀x0 x1,d x0 x1->e x0 x1->f x0 x1->g x0 x1->i x0 x1->j x0 x1->p6 x0 x1->p7 x0 x1->r):r:=h.elim λx0 h=>h.elim λx1 h=>c x0 x1 h.1 h.2.1 h.2.2.1 h.2.2.2.1 h.2.2.2.2.1 h.2.2.2.2.2.1 h.2.2.2.2.2.2.1 h.2.2.2.2.2.2.2
def Py{a b d:Sort _}{e f:a->b->d->Prop}{r:Prop}(h:∃x0 x1 x2,e x0 x1 x2/\f x0 x1 x2)(c:∀x0 x1 x2,e x0 x1 x2->f x0 x1 x2->r):r:=h.elim λx0 h=>h.elim λx1 h=>h.elim λx2 h=>c x0 x1 x2 h.1 h.2
def CY{a b d:Sort _}{e f g:a->b->d->Prop}{r:Prop}(h:∃x0 x1 x2,e x0 x1 x2/\f x0 x1 x2/\g x0 x1 x2)(c:∀x0 x1 x2,e x0 x1 x2->f x0 x1 x2->g x0 x1 x2->r):r:=h.elim λx0 h=>h.elim λx1 h=>h.elim λx2 h=>c x0 x1 x2 h.1 h.2.1 h.2.2
def EZ{a b d:Sort _}{e f g i:a->b->d->Prop}{r:Prop}(h:∃x0 x1 x2,e x0 x1 x2/\f x0 x1 x2/\g x0 x1 x2/\i x0 x1 x2)(c:∀x0 x1 x2,e x0 x1 x2->f x0 x1 x2->g x0 x1 x2->i x0 x1 x2->r):r:=h.elim λx0 h=>h.elim λx1 h=>h.elim λx2 h=>c x0 x1 x2 h.1 h.2.1 h.2.2.1 h.2.2.2
def abq{b d e f:Sort _}{g:b->d->e->f->Prop}{r:Prop}(h:∃x0 x1 x2 a,g x0 x1 x2 a)(c:∀x0 x1 x2 a,g x0 x1 x2 a->r):r:=h.elim λx0 h=>h.elim λx1 h=>h.elim λx2 h=>h.elim λa h=>c x0 x1 x2 a h
def abp{b d e f:Sort _}{g i:b->d->e->f->Prop}{r:Prop}(h:∃x0 x1 x2 a,g x0 x1 x2 a/\i x0 x1 x2 a)(c:∀x0 x1 x2 a,g x0 x1 x2 a->i x0 x1 x2 a->r):r:=h.elim λx0 h=>h.elim λx1 h=>h.elim λx2 h=>h.elim λa h=>c x0 x1 x2 a h.1 h.2
def UD{b d e f:Sort _}{g i j k:b->d->e->f->Prop}{r:Prop}(h:∃x0 x1 x2 a,g x0 x1 x2 a/\i x0 x1 x2 a/\j x0 x1 x2 a/\k x0 x1 x2 a)(c:∀x0 x1 x2 a,g x0 x1 x2 a->i x0 x1 x2 a->j x0 x1 x2 a->k x0 x1 x2 a->r):r:=h.elim λx0 h=>h.elim λx1 h=>h.elim λx2 h=>h.elim λa h=>c x0 x1 x2 a h.1 h.2.1 h.2.2.1 h.2.2.2
inductive PV where
 |none|bool (b:aB)|int (i:Z)|fw (x:cR)|str (s:aj Y)|sJ (b:aj Y)
 |tup (xs:aj PV)|lst (xs:aj PV)|AN (a b c:Z)|pat (k:Y)
set_option genCtorIdx true in
inductive Kr where
 |len|sum|max|min|range|list|int|divmod
 deriving DecidableEq
set_option genCtorIdx true in
inductive OA where
 |join|encode|decode|split|sub|m_|count
 deriving DecidableEq
inductive T where
 |v (i:Y)|tup (ts:aj T)
mutual
inductive C where
 |var (i:Y)
 |lit (v:PV)
 |TH (v:PV)
 |bin (op:dU) (a b:C)
 |un (op:OS) (a:C)
 |O9 (op:BoolOp) (cs:aj C)
 |cmp (l:C) (ops:aj jh) (rs:aj C)
 |ite (t a b:C)
 |lst (es:aj C)
 |tup (es:aj C)
 |call (f:Y) (as:aj C)
 |blt (b:Kr) (as:aj C)
 |bgen (s:Src)
 |FF (m:OA) (o:C) (as:aj C)
 |sub (o i:C)
 |xP (o:C) (lo hi:au C)
 |vz (e:C) (gs:aj G)
 |dist (i j:Y) (neg:aB)
 |rdot (o:C)
inductive G where
 |mk (t:T) (s:Src) (ifs:aj C)
inductive Src where
 |of (c:C)|rev (c:C)|esc (c:C)
end
def C.ix(c:C):Y:=C.casesOn (motive_1:=λ_=>Y) c (λ_=>0) (λ_=>1) (λ_=>2) (λ_ _ _=>3) (λ_ _=>4) (λ_ _=>5) (λ_ _ _=>6) (λ_ _ _=>7) (λ_=>8) (λ_=>9) (λ_ _=>10) (λ_ _=>11) (λ_=>12) (λ_ _ _=>13) (λ_ _=>14) (λ_ _ _=>15) (λ_ _=>16) (λ_ _ _=>17) λ_=>18
def Src.ix(s:Src):Y:=Src.casesOn (motive_3:=λ_=>Y) s (λ_=>0) (λ_=>1) λ_=>2
inductive TT where
 |v (i:Y)|tup (ts:aj TT)|w_ (i:Y) (j k:C)
inductive S where
 |asg (use:aB) (t:TT) (c:C)
 |par (use:aB) (ts:aj TT) (es:aj C)
 |aug (i:Y) (op:dU) (c:C)
 |app (i:Y) (use:aB) (c:C)
 |rev (i:Y)
 |A7 (t:C) (a b:aj S)
 |FZ (t:T) (s:Src) (body:aj S)
 |XF (t:C) (body:aj S)
 |ret (c:C)
 |raise
 |XG (i j:Y) (c:C)
 |two (i j:Y) (c:C) (gs:aj G) (d:C)
abbrev Env:=aj<|au PV
noncomputable def big:Y:=1048576
noncomputable def gL{a:Type}(g:aB)(v:a):au a:=match g with|true=>U v|false=>ag
noncomputable def wl{a:Type}(g:aB)(v:au a):au a:=match g with|true=>v|false=>ag
def cN{a:Type}{g}{v r:a}(e:gL g v=U r):g=ah/\v=r:=by
 cases g with
 |true=>exact⟨J,sm e⟩
 |false=>exact nd e
def n8{a:Type}{g}{v:au a}{r:a}(e:wl g v=U r):g=ah/\v=U r:=by
 cases g with
 |true=>exact⟨J,e⟩
 |false=>exact nd e
def n2{x y}(h:(x&&y)=ah):x=ah/\y=ah:=f6.mp h
def n0{x}(h:(!x)=ah):x=af:=by cases x with|true=>exact ff h|false=>rfl
noncomputable def w7(a b:Z):aB:=aY (a.natAbs.log2+b.natAbs.log2) 33554432
noncomputable def tG(a:Z):aB:=aY 9007199254740992 a.natAbs
noncomputable def binI(c:dU)(a b:Z):au PV:=match c with
 | .Add=>U<|.int<|a+b
 | .Sub=>U<|.int<|a-b
 | .Mult=>gL (w7 a b)<|.int<|a*b
 | .FloorDiv=>gL (!(decide (b=0))&& !(c7 a b))<|.int<|a.fdiv b
 | .Mod=>gL (!(decide (b=0)))<|.int<|a.fmod b
 | .Pow=>gL (decide (0<=b)&&decide ((aH a:Z)*b<=134217728))<|.int<|a^b.toNat
 | .LShift=>gL (decide (0<=b)&&decide ((aH a:Z)+b<=134217728))<|.int<|a*2^b.toNat
 | .RShift=>gL (decide (0<=b))<|.int<|a.fdiv<|2^b.toNat
 | .BitAnd=>U<|.int<|zL a b
 | .BitOr=>U<|.int<|Pg a b
 | .BitXor=>U<|.int<|zK a b
 | .Div=>gL (!(decide (b=0))&&(!(tG a)&& !(tG b)))<|.fw<|ac3 (decide (a<0)!=decide (b<0)) a.natAbs b.natAbs
 |_=>ag
noncomputable def EP(i:Z):au cR:=gL (!(tG i))<|pz i
noncomputable def WU(c:dU)(a b:cR):au PV:=match c with
 | .Add=>U<|.fw<|ox a b
 | .Sub=>U<|.fw<|sd a b
 | .Mult=>U<|.fw<|CC a b
 | .Div=>gL (!(oj b))<|.fw<|CD a b
 | .Mod=>gL (!(oj b))<|.fw (Float64.divmod a b).snd
 |_=>ag
noncomputable def Ug(c:dU)(a:cR)(b:Z):au PV:=match c with
 | .Add=>(EP b).bind λy=>U<|.fw<|ox a y
 | .Sub=>(EP b).bind λy=>U<|.fw<|sd a y
 | .Div=>(EP b).bind λy=>gL (!(decide (b=0)))<|.fw<|CD a y
 |_=>ag
noncomputable def Uf(c:dU)(a:Z)(b:cR):au PV:=match c with
 | .Sub=>(EP a).bind λx=>U<|.fw<|sd x b
 | .Mult=>(EP a).bind λx=>U<|.fw<|CC x b
 |_=>ag
noncomputable def tT{a:Type}(n:Z)(s:aj a):aj a:=(bJ n.toNat s).flatten
noncomputable def DS(a:dU)(r:au PV):au PV:=match a with| .Add=>r|_=>ag
noncomputable def DR(a:dU)(r:au PV):au PV:=match a with| .Mult=>r|_=>ag
noncomputable def binop(c:dU)(x y:PV):au PV:=match x with
 | .int a=>(match y with| .int b=>binI c a b| .fw b=>Uf c a b|_=>ag)
 | .fw a=>(match y with| .fw b=>WU c a b| .int b=>Ug c a b|_=>ag)
 | .str a=>(match y with
  | .str b=>DS c<|gL (aY (a.length+b.length) big)<|.str<|a++b
  | .int n=>DR c<|gL (aY a.length 1024&&aY n.natAbs 1024)<|.str<|tT n a
  |_=>ag)
 | .lst a=>(match y with
  | .lst b=>DS c<|gL (aY (a.length+b.length) big)<|.lst<|a++b
  | .int n=>DR c<|gL (aY a.length 1024&&aY n.natAbs 1024)<|.lst<|tT n a
  |_=>ag)
 |_=>ag
noncomputable def truth:PV->au aB
 | .bool b=>U b
 | .int i=>U<|i !=0
 | .lst s=>gL (aY s.length big)<|!s.isEmpty
 |_=>ag
noncomputable def unop(a:OS)(x:PV):au PV:=match a with
 | .Not=>(truth x).bind λb=>U<|.bool<|!b
 | .USub=>(match x with| .int i=>U (.int<|-i)|_=>ag)
 | .Invert=>(match x with| .int i=>U (.int<|Builtin.bitNot i)|_=>ag)
 | .UAdd=>ag
noncomputable def fT:aj Y->aj Y->aB
 |[],[]=>ah
 |a::x,b::y=>match aF a b with|true=>fT x y|false=>af
 |_,_=>af
noncomputable def plain0:PV->aB
 | .none=>ah
 | .bool _=>ah
 | .int _=>ah
 | .str s=>s.all λc=>fy c 55296
 |_=>af
noncomputable def fv:Y->PV->aB
 |0,v=>plain0 v
 |n+1,v=>match v with
  | .lst a=>a.all<|fv n
  | .tup a=>a.all<|fv n
  |v=>plain0 v
mutual
noncomputable def oC(x y:PV):aB:=match x with
 | .none=>(match y with| .none=>ah|_=>af)
 | .bool a=>(match y with| .bool b=>a==b| .int j=>(if a then 1 else 0)==j|_=>af)
 | .int a=>(match y with| .int b=>a==b| .bool b=>a==(if b then 1 else 0)|_=>af)
 | .str a=>(match y with| .str b=>fT a b|_=>af)
 | .lst a=>(match y with| .lst b=>y4 a b|_=>af)
 | .tup a=>(match y with| .tup b=>y4 a b|_=>af)
 |_=>af
noncomputable def y4(xs ys:aj PV):aB:=match xs with
 |[]=>(match ys with|[]=>ah|_::_=>af)
 |x::xs=>(match ys with|[]=>af|y::ys=>match oC x y with|true=>y4 xs ys|false=>af)
end
noncomputable def MQ(o:au AA):aB:=match o with|some .lt=>ah|_=>af
noncomputable def VY(o:au AA):aB:=match o with|some .gt=>ah|_=>af
noncomputable def H4(o:au AA):aB:=match o with|some .eq=>ah|_=>af
def ZP(a b:PV):au aB:=gL (fv 6 a&&fv 6 b)<|oC a b
def eqB(a:aj Y)(b:PV):au aB:=match b with| .sJ b=>U (fT a b)|_=>ag
def T'(x y:PV):au aB:=match x with
 | .fw a=>(match y with| .fw b=>U (H4<|f8 a b)|_=>ag)
 | .int a=>(match y with| .fw b=>U (H4<|je b a)|y=>ZP (.int a) y)
 |x=>ZP x y
def T4(x y:PV):au aB:=match x with
 | .sJ a=>eqB a y
 |x=>ZP x y
noncomputable def T5(x y:PV):au aB:=match x with
 | .int a=>(match y with| .int b=>U (decide (a<b))|_=>ag)
 | .fw a=>(match y with| .fw b=>U (MQ<|f8 a b)|_=>ag)
 |_=>ag
noncomputable def T8(x y:PV):au aB:=match x with
 | .int a=>(match y with| .int b=>U (decide (a<=b))| .fw b=>U (VY (je b a)||H4 (je b a))|_=>ag)
 | .fw a=>(match y with| .fw b=>U (MQ (f8 a b)||H4 (f8 a b))| .int b=>U (MQ (je a b)||H4 (je a b))|_=>ag)
 |_=>ag
noncomputable def T9(x y:PV):au aB:=match y with
 | .none=>(match x with| .none=>U ah| .int _=>U af|_=>ag)
 |_=>ag
noncomputable def N7(x y:PV):au aB:=match y with
 | .bool b=>(match x with| .bool a=>U (a==b)|_=>ag)
 |_=>ag
noncomputable def Y0:aj Y->au Y
 |[]=>ag
 |c::r=>(match r with|[]=>U c|_::_=>ag)
def Mi{l}{c}(e:Y0 l=U c):l=[c]:=by
 cases l with
 |nil=>exact nd e
 |cons a r=>cases r with
  |nil=>exact az (λx=>[x])<|sm e
  |cons b t=>exact nd e
noncomputable def T3(x y:PV):au aB:=match y with
 | .str s=>(match x with| .str l=>(Y0 l).bind λc=>U (s.any λd=>aF c d)|_=>ag)
 |_=>ag
def T_(x y:PV):au aB:=match y with
 | .lst a=>gL (fv 5 x&&fv 6 (.lst a)) (a.any λy=>oC y x)
 |_=>ag
noncomputable def QS{a:Type}(x y:PV)(f:Z->Z->a):au a:=match x with
 | .int i=>(match y with| .int j=>U (f i j)|_=>ag)
 |_=>ag
def i4(c:jh)(a b:PV):au aB:=match c with
 | .Eq=>T' a b
 | .NotEq=>(T4 a b).bind λr=>U<|!r
 | .Lt=>T5 a b
 | .LtE=>T8 a b
 | .Gt=>QS a b λi j=>decide (j<i)
 | .GtE=>ag
 | .Is=>T9 a b
 | .IsNot=>(N7 a b).bind λr=>U<|!r
 | .In=>T_ a b
 | .NotIn=>(T3 a b).bind λr=>U<|!r
noncomputable def lV(i:Z):aB:=fy i.natAbs 1152921504606846976
noncomputable def mH(o i:PV):au PV:=match o with
 | .lst a=>(match i with| .int i=>wl (lV i) ((j7 i a.length).bind λj=>a[j]?)|_=>ag)
 | .tup a=>(match i with| .int i=>wl (lV i) ((j7 i a.length).bind λj=>a[j]?)|_=>ag)
 |_=>ag
noncomputable def cut{a:Type}(l:aj a)(lo b:au Z):aj a:=(l.drop<|lo.elim 0<|d_ l.length).take<|b.elim l.length (d_ l.length)-lo.elim 0 (d_ l.length)
noncomputable def part:au PV->au (au Z)
 |Option.none=>U ag
 |some x=>(match x with| .int i=>U (U i)|_=>ag)
noncomputable def Ly(l h:au Z)(o:PV):au PV:=match o with
 | .lst a=>gL (aY a.length big)<|.lst<|cut a l h
 | .str s=>gL (aY s.length big)<|.str<|cut s l h
 |_=>ag
noncomputable def oW(o:PV)(lo a:au PV):au PV:=(part lo).bind λl=>(part a).bind λh=>Ly l h o
noncomputable def De(a b c:Z):Y:=(eP a b c).toNat
noncomputable def hJ(a b c:Z):aj Z:=(cj<|De a b c).map λ(k:Y)=>a+(k:Z)*c
noncomputable def n7:aj PV->au (aj Z)
 |[]=>U []
 |x::r=>(match x with| .int i=>(n7 r).bind λl=>U (i::l)|_=>ag)
noncomputable def uP:aj PV->au (aj<|aj Y)
 |[]=>U []
 |x::r=>(match x with| .str i=>(uP r).bind λl=>U (i::l)|_=>ag)
noncomputable def fmax(a b:cR):cR:=match VY (f8 b a)with|true=>b|false=>a
noncomputable def fmin(a b:cR):cR:=match MQ (f8 b a)with|true=>b|false=>a
noncomputable def itemsOf:PV->au (aj PV)
 | .lst d=>U d
 | .AN a b c=>U<|(hJ a b c).map .int
 |_=>ag
noncomputable def one:aj PV->au PV
 |[]=>ag
 |x::r=>(match r with|[]=>U x|_::_=>ag)
noncomputable def Zl:PV->au PV
 | .lst a=>gL (aY a.length big)<|.int a.length
 | .str a=>gL (aY a.length big)<|.int a.length
 |_=>ag
def Lb:PV->au PV
 | .lst a=>(n7 a).bind λl=>U<|.int l.sum
 |_=>ag
noncomputable def V7(f:cR->cR->au PV):PV->PV->au PV:=λx y=>match x with
 | .fw a=>(match y with| .fw b=>f a b|_=>ag)
 |_=>ag
noncomputable def V6(f:cR->cR->cR->PV):PV->PV->PV->au PV:=λx y z=>match x with
 | .fw a=>V7 (λb c=>U<|f a b c) y z
 |_=>ag
noncomputable def Zj:aj PV->au PV
 |[]=>ag
 |x::r=>(match r with
  |[]=>ag
  |y::r=>(match r with|[]=>ag|z::r=>match r with|[]=>V6 (λa b c=> .fw<|fmax (fmax a b) c) x y z|_::_=>ag))
noncomputable def Zi:aj PV->au PV
 |[]=>ag
 |x::r=>(match r with
  |[]=>ag
  |y::r=>(match r with|[]=>V7 (λa b=>U<|.fw<|fmin a b) x y|z::r=>match r with|[]=>V6 (λa b c=> .fw<|fmin (fmin a b) c) x y z|_::_=>ag))
noncomputable def L0:aj PV->au PV
 |[]=>ag
 |x::r=>match x with
  | .int a=>(match r with
   |[]=>gL (dA 0 a 1)<|.AN 0 a 1
   |y::r=>match y with
    | .int b=>(match r with
     |[]=>gL (dA a b 1)<|.AN a b 1
     |z::r=>match z with
      | .int c=>(match r with
       |[]=>gL (dA a b c&&(!(decide (c=0))&& !(c7 (b-a) c)))<|.AN a b c
       |_::_=>ag)
      |_=>ag)
    |_=>ag)
  |_=>ag
noncomputable def Tw:PV->au PV
 | .lst a=>gL (aY a.length big)<|.lst a
 | .str s=>gL (aY s.length big)<|.lst (s.map λc=> .str [c])
 |_=>ag
noncomputable def M9:PV->au PV
 | .fw x=>match kJ x with
  | .fin s m e=>U<|.int<|wR s m e
  |_=>ag
 |_=>ag
noncomputable def ZR:aj PV->au PV
 |[]=>ag
 |x::r=>(match r with
  |[]=>ag
  |y::r=>(match r with
   |[]=>(QS x y λa b=>(a,b)).bind λp=>gL (!(decide (p.2=0))&& !(c7 p.1 p.2))<|.tup [.int<|p.1.fdiv p.2,.int<|p.1.fmod p.2]
   |_::_=>ag))
def oP(b:Kr)(as:aj PV):au PV:=match b with
 | .len=>(one as).bind Zl
 | .sum=>(one as).bind Lb
 | .max=>Zj as
 | .min=>Zi as
 | .range=>L0 as
 | .list=>(one as).bind Tw
 | .int=>(one as).bind M9
 | .divmod=>ZR as
noncomputable def sU:aj Y->aj Y
 |[]=>[]
 |[c]=>if c=10\/c=13 then[13,10]else[c]
 |c::d::t=>if c=13/\d=10 then 13::10::sU t else if c=10\/c=13 then 13::10::sU (d::t)else c::sU (d::t)
noncomputable def mJ:aB->aj Y->aj Y
 |_,[]=>[]
 |b,c::t=>if b=ah/\c=46 then 46::46::mJ af t else c::mJ (aF c 10) t
noncomputable def fJ(p:Y)(e:aB):aj Y->aj (Y × aj Y)
 |[]=>match e with|true=>[(p-1,[92])]|false=>[]
 |c::t=>match e with
  |true=>(p,[92,c])::fJ (p+1) af t
  |false=>match aF c 92 with
   |true=>fJ (p+1) ah t
   |false=>(p,[c])::fJ (p+1) af t
noncomputable def jt:aj Y->aj Y->aj (aj Y)
 |acc,[]=>[acc.reverse]
 |acc,[c]=>[(c::acc).reverse]
 |acc,c::d::t=>match aF c 13&&aF d 10 with
  |true=>acc.reverse::jt [] t
  |false=>jt (c::acc)<|d::t
noncomputable def kS:aj Y->aj Y
 |[]=>[]
 |[c]=>[c]
 |c::d::t=>match aF c 10&&aF d 46 with
  |true=>10::46::46::kS t
  |false=>c::kS (d::t)
noncomputable def ug(s:aj Y):aB:=s.all λc=>fy c 128
noncomputable def BI:aj Y:=[97,115,99,105,105]
noncomputable def two:aj PV->au (PV × PV)
 |[]=>ag
 |x::r=>(match r with|[]=>ag|y::r=>match r with|[]=>U (x,y)|_::_=>ag)
noncomputable def UY(f:aj Y->aj Y->au PV)(x y:PV):au PV:=match x with
 | .str a=>(match y with| .str b=>f a b|_=>ag)
 |_=>ag
def joinM(o x:PV):au PV:=match o with
 | .str l=>(match l with
  |[]=>(match x with
   | .lst a=>(uP a).bind λl=>gL (aY l.flatten.length big&&aY l.length big)<|.str l.flatten
   |_=>ag)
  |_::_=>ag)
 |_=>ag
def H6:PV->PV->au PV:=UY λs e=>gL (fT e BI&&ug s&&aY s.length big)<|.sJ s
def decodeM(o x:PV):au PV:=match o with
 | .sJ s=>(match x with| .str e=>gL (fT e BI&&ug s&&aY s.length big&& !s.isEmpty) (.str s)|_=>ag)
 |_=>ag
def splitM:PV->PV->au PV:=UY λs e=>gL (fT e [13,10]&&aY s.length big)<|.lst<|(jt [] s).map .str
def abA(k:Y)(r s:aj Y):au PV:=if k=1/\fT r [46,46]=ah then U (.str<|mJ ah s)else if k=3/\fT r [13,10]=ah then U (.str<|sU s)else ag
def subB(k:Y)(r s:aj Y):au PV:=if k=2/\fT r [46,46]=ah then U (.sJ<|mJ ah s)else ag
def Yq(o x y:PV):au PV:=match o with
 | .pat k=>(match x with
  | .str r=>(match y with| .str s=>wl (aY s.length 65536) (abA k r s)|_=>ag)
  | .sJ r=>(match y with| .sJ s=>wl (aY s.length 65536) (subB k r s)|_=>ag)
  |_=>ag)
 |_=>ag
noncomputable def acu(o:PV)(as:aj PV):au PV:=match o with
 | .int a=>(match as with|[]=>U (.int<|aH a)|_::_=>ag)
 |_=>ag
def countM(o x:PV):au PV:=match o with
 | .lst a=>(match x with| .int x=>(n7 a).bind λl=>U (.int<|l.countP λy=>decide (y=x))|_=>ag)
 |_=>ag
def FG(m:OA)(o:PV)(as:aj PV):au PV:=match m with
 | .join=>(one as).bind<|joinM o
 | .encode=>(one as).bind<|H6 o
 | .decode=>(one as).bind<|decodeM o
 | .split=>(one as).bind<|splitM o
 | .sub=>(two as).bind λp=>Yq o p.1 p.2
 | .m_=>acu o as
 | .count=>(one as).bind<|countM o
noncomputable def jZ:T->PV->Env->au Env
 | .v i,v,env=>U<|env.set i<|U v
 | .tup b,v,env=>match v with| .tup a=>go b a env|_=>ag
where go:aj T->aj PV->Env->au Env
 |[],a,env=>(match a with|[]=>U env|_::_=>ag)
 |t::b,a,env=>match a with|[]=>ag|x::a=>(jZ t x env).bind λe=>go b a e
noncomputable def hide(ow:aj Y)(env:Env):Env:=ow.foldl (λe i=>e.set i ag) env
mutual
noncomputable def k7:T->aj Y
 | .v i=>[i]
 | .tup ts=>uE ts
noncomputable def uE:aj T->aj Y
 |[]=>[]
 |t::ts=>k7 t++uE ts
end
noncomputable def gu:aj G->aj Y
 |[]=>[]
 | .mk t _ _::a=>k7 t++gu a
structure Kn where
 ex:Env->C->au PV
 ca:Y->aj PV->au PV
noncomputable def qV(k:Kn)(env:Env):aj C->au (aj PV)
 |[]=>U []
 |c::r=>(k.ex env c).bind λv=>(qV k env r).bind λvs=>U<|v::vs
noncomputable def tA(k:Kn)(env:Env):au C->au (au PV)
 |Option.none=>U ag
 |some c=>(k.ex env c).bind λv=>U<|U v
noncomputable def tF(k:Kn)(env:Env)(a:BoolOp):aj C->au PV
 |[]=>ag
 |[c]=>k.ex env c
 |c::r=>(k.ex env c).bind λv=>(truth v).bind λb=>match a,b with
  | .And,af=>U v
  | .Or,ah=>U v
  |_,_=>tF k env a r
noncomputable def tD(k:Kn)(env:Env)(l:PV):aj jh->aj C->au aB
 |[op],[c]=>(k.ex env c).bind λr=>i4 op l r
 |op::a,c::d=>(k.ex env c).bind λr=>(i4 op l r).bind λb=>match b with
  |false=>U af
  |true=>tD k env r a d
 |_,_=>ag
def mU(k:Kn)(env:Env):Src->au (aj PV)
 | .of c=>(k.ex env c).bind itemsOf
 | .rev c=>(k.ex env c).bind λx=>match x with| .lst a=>U a.reverse|_=>ag
 | .esc c=>(k.ex env c).bind λx=>match x with
  | .str s=>match aY s.length 65536 with|true=>U ((fJ 0 af s).map λp=> .tup [.int p.1,.str p.2])|false=>ag
  |_=>ag
noncomputable def NO(k:Kn)(env:Env):aj C->au aB
 |[]=>U ah
 |c::r=>(k.ex env c).bind λv=>(truth v).bind λb=>match b with|true=>NO k env r|false=>U af
noncomputable def iD{g:Type}(k:Kn)(t:T)(c:aj C)(f:Env->g->au g)(env:Env):aj PV->g->au g
 |[],a=>U a
 |x::h,a=>(jZ t x env).bind λe=>(NO k e c).bind λb=>match b with
  |false=>iD k t c f env h a
  |true=>(f e a).bind λd=>iD k t c f env h d
noncomputable def eG{d:Type}(k:Kn)(a:Env->d->au d):aj G->Env->d->au d
 |[],env,b=>a env b
 | .mk t s e::f,env,b=>(mU k env s).bind λc=>iD k t e (eG k a f) env c b
def Cc{b:Type}(k:Kn)(a:Env->b->au b)(t:T)(c:aj C)(e:aj G)(env:Env)(l:aj PV)(d:b):au b:=iD k t c (eG k a e) env l d
noncomputable def fK(k:Kn)(e:C)(env:Env)(a:aj PV):au<|aj PV:=(k.ex env e).bind λv=>match aY a.length big with|true=>U (a++[v])|false=>ag
def wA(k:Kn)(env:Env)(c:C):au PV:=match c with
 | .var i=>(env[i]?).bind id
 | .lit v=>U v
 | .TH v=>U v
 | .bin d a b=>(k.ex env a).bind λx=>(k.ex env b).bind λy=>binop d x y
 | .un d a=>(k.ex env a).bind λx=>unop d x
 | .O9 d u=>tF k env d u
 | .cmp l g w=>(k.ex env l).bind λx=>(tD k env x g w).bind λb=>U<|.bool b
 | .ite t a b=>(k.ex env t).bind λv=>(truth v).bind λr=>match r with|true=>k.ex env a|false=>k.ex env b
 | .lst n=>(qV k env n).bind λvs=>U<|.lst vs
 | .tup n=>(qV k env n).bind λvs=>U<|.tup vs
 | .call f as=>(qV k env as).bind λvs=>k.ca f vs
 | .blt b as=>(qV k env as).bind λvs=>oP b vs
 | .bgen s=>(mU k env s).bind λz=>U<|.lst z
 | .FF m o as=>(k.ex env o).bind λx=>(qV k env as).bind λvs=>FG m x vs
 | .sub o i=>(k.ex env o).bind λx=>(k.ex env i).bind λy=>mH x y
 | .xP o lo A=>(k.ex env o).bind λx=>(tA k env lo).bind λl=>(tA k env A).bind λh=>oW x l h
 | .vz e q=>(eG k (fK k e) q (hide (gu q) env) []).bind λvs=>U<|.lst vs
 | .rdot o=>(k.ex env o).bind λx=>match x with
  | .str s=>match aY s.length 65536 with|true=>U (.str<|46::kS s)|false=>ag
  |_=>ag
 | .dist i j neg=>((env[i]?).bind id).bind λ_=>((env[j]?).bind id).bind λ_=>U<|.bool neg
noncomputable def Bb:PV->aB
 | .lst _=>af
 | .tup _=>af
 | .AN _ _ _=>af
 |_=>ah
noncomputable def yY:Y->C->aB
 |0,_=>af
 |n+1,c=>match c with
  | .lst _=>ah
  | .vz _ _=>ah
  | .xP _ _ _=>ah
  | .bgen _=>ah
  | .blt b _=>(match b with| .list=>ah|_=>af)
  | .bin _ _ _=>ah
  | .ite _ a b=>yY n a&&yY n b
  |_=>af
def wD(c:C)(v:PV):aB:=Bb v||(yY 8 c&&match v with
 | .lst a=>a.all Bb
 |_=>af)
def rV(k:Kn)(ow:aj Y)(env:Env)(a:aB)(c:C):au PV:=match a with
 |false=>k.ex (hide ow env) c
 |true=>(k.ex env c).bind λv=>match wD c v with|true=>U v|false=>ag
noncomputable def o8(k:Kn)(ow:aj Y)(env:Env)(a:aB):aj C->au (aj PV)
 |[]=>U []
 |c::r=>(rV k ow env a c).bind λv=>(o8 k ow env a r).bind λvs=>U<|v::vs
noncomputable def qC:PV->aB
 | .none=>ah
 | .bool _=>ah
 | .int _=>ah
 | .fw _=>ah
 | .str _=>ah
 | .sJ _=>ah
 |_=>af
noncomputable def Ft:PV->aB
 | .lst a=>a.all λx=>qC x||match x with| .lst b=>b.all qC|_=>af
 |_=>af
noncomputable def A5:au (au PV)->aB
 |some (U<|.lst _)=>ah
 |some (U _)=>af
 |_=>ah
noncomputable def cY(l:aj Y)(i:Y):aB:=l.any<|aF i
noncomputable def yE(ow:aj Y):TT->PV->aB
 | .v i,v=> !(cY ow i)||Ft v
 |_,_=>ah
noncomputable def uQ(ow:aj Y):aj TT->aj PV->aB
 |t::a,v::vs=>yE ow t v&&uQ ow a vs
 |_,_=>ah
noncomputable def mM(o:PV)(i:PV)(v:PV):au PV:=match i with
 | .int n=>(match o with
  | .lst a=>gL (lV n&&decide (0<=n)&&decide (n<a.length))<|.lst<|a.set n.toNat v
  |_=>ag)
 |_=>ag
noncomputable def BS(a:aj PV):aB:=a.all λx=>match x with| .lst b=>b.all qC|_=>af
noncomputable def gH(k:Kn):TT->PV->Env->au Env
 | .v i,v,env=>U<|env.set i<|U v
 | .tup b,v,env=>(match v with| .tup a=>go k b a env|_=>ag)
 | .w_ i c d,v,env=>((env[i]?).bind id).bind λo=>(k.ex env c).bind λx=>(k.ex env d).bind λy=>(mH o x).bind λp=>(mM p y v).bind λf=>(mM o x f).bind λg=>U<|env.set i<|U g
where go (k:Kn):aj TT->aj PV->Env->au Env
 |[],a,env=>(match a with|[]=>U env|_::_=>ag)
 |t::b,a,env=>match a with|[]=>ag|x::a=>(gH k t x env).bind λe=>go k b a e
abbrev Out:=Env × au PV
noncomputable def iZ(body:Env->au Out)(t:T):aj PV->Env->au Out
 |[],env=>U (env,ag)
 |x::b,env=>(jZ t x env).bind λe=>(body e).bind λo=>match o with
  |(a,ag)=>iZ body t b a
  |(a,U v)=>U (a,U v)
noncomputable def AF(a:Env->au aB)(body:Env->au Out):Y->Env->au Out
 |0,_=>ag
 |n+1,env=>(a env).bind λb=>match b with
  |false=>U (env,ag)
  |true=>(body env).bind λo=>match o with
   |(c,ag)=>AF a body n c
   |(c,U v)=>U (c,U v)
mutual
noncomputable def sx(k:Kn)(ow:aj Y):S->Env->au Out
 | .asg use t c,env=>(rV k ow env use c).bind λv=>match yE ow t v with
  |true=>(gH k t v env).bind λe=>U (e,ag)
  |false=>ag
 | .par use ts es,env=>(o8 k ow env use es).bind λvs=>match uQ ow ts vs with
  |true=>(gH.go k ts vs env).bind λe=>U (e,ag)
  |false=>ag
 | .XG i j c,env=>(k.ex (hide ow env) c).bind λv=>match v with
  | .lst xs=>match A5 (env[j]?)with|true=>U (env.set i<|U<|.lst xs,ag)|false=>ag
  |_=>ag
 | .two i j c gs d,env=>(eG k (fK k c) gs (hide (gu gs)<|hide ow env) []).bind λrs=>(k.ex (hide ow env) d).bind λw=>match BS rs with
  |true=>U ((env.set i<|U<|.lst rs).set j<|U w,ag)
  |false=>ag
 | .aug i op c,env=>((env[i]?).bind id).bind λx=>(k.ex (hide ow env) c).bind λy=>match x,y with
  | .int a,.int b=>(binI op a b).bind λr=>U (env.set i<|U r,ag)
  |_,_=>ag
 | .app i use c,env=>((env[i]?).bind id).bind λo=>(rV k ow env use c).bind λv=>match o with
  | .lst xs=>match aY xs.length big with|true=>U (env.set i<|U<|.lst<|xs++[v],ag)|false=>ag
  |_=>ag
 | .rev i,env=>((env[i]?).bind id).bind λo=>match o with
  | .lst xs=>match aY xs.length big with|true=>U (env.set i<|U<|.lst xs.reverse,ag)|false=>ag
  |_=>ag
 | .A7 t a b,env=>(k.ex env t).bind λv=>(truth v).bind λr=>match r with
  |true=>kE k ow a env
  |false=>kE k ow b env
 | .FZ t s body,env=>(mU k (hide ow env) s).bind λitems=>iZ (λe=>kE k ow body e) t items env
 | .XF t body,env=>AF (λe=>(k.ex e t).bind truth) (λe=>kE k ow body e) 4096 env
 | .ret c,env=>(k.ex env c).bind λv=>U (env,U v)
 | .raise,_=>ag
noncomputable def kE(k:Kn)(ow:aj Y):aj S->Env->au Out
 |[],env=>U (env,ag)
 |s::r,env=>(sx k ow s env).bind λo=>match o with
  |(e,ag)=>kE k ow r e
  |(e,U v)=>U (e,U v)
end
noncomputable def ur(n:Y):aj Z->Z
 |[]=>0
 |d::r=>d+2^n*ur n r
def BP(as:aj PV):au PV:=(two as).bind λp=>match p.1 with
 | .lst a=>(match p.2 with| .int n=>wl (decide (0<n)&&(decide (n<=16384)&&aY a.length 1024)) ((n7 a).bind λl=>gL (l.all λd=>aY (aH d) 1000000)<|.int<|ur n.toNat l)|_=>ag)
 |_=>ag
noncomputable def O8(n:Y):Y->Y->aj Z
 |0,_=>[]
 |k+1,a=>((a%2^n:Y):Z)::O8 n k (a/2^n)
def BN(as:aj PV):au PV:=(two as).bind λp=>QS p.1 p.2 (λa n=>gL (decide (0<=a)&&(decide (0<n)&&(decide (n<=16384)&&aY ((aH a+n.toNat-1)/n.toNat) 1024)))<|PV.lst<|(O8 n.toNat ((aH a+n.toNat-1)/n.toNat) a.toNat).map .int) |>.bind id
inductive Fn where
 |code (nv np:Y) (ow:aj Y) (body:aj S)
 |prim (f:aj PV->au PV)
def wF(P:Y->au Fn)(n:Y)(k:Kn)(f:Y)(as:aj PV):au PV:=(P f).bind λb=>match b with
 | .prim g=>wl (aY 40 n)<|g as
 | .code nv a ow body=>match aF as.length a with
  |true=>(kE k ow body<|as.map U++bJ (nv-a) ag).bind λo=>match o with
   |(_,U v)=>U v
   |(_,ag)=>U .none
  |false=>ag
structure OH where
 g:Y
 nv:Y
 np:Y
 ow:aj Y
 tw:aj Y
 fr:aB
 ctx:aj<|a7 × Y
 uq:aj Y
 body:aj S
noncomputable def findR(g:Y):aj OH->au OH
 |[]=>ag
 |r::l=>bif aF r.g g then U r else findR g l
def yC(a b g:Y):au Fn:=bif aF a g then U (.prim BN)else bif aF b g then U (.prim BP)else ag
def progOf(O5:aj OH)(a b:Y)(g:Y):au Fn:=(findR g O5).elim (yC a b g) λr=>U<|.code r.nv r.np r.ow r.body
noncomputable def kn(P:Y->au Fn):Y->Kn
 |0=>⟨λ_ _=>ag,λ_ _=>ag⟩
 |n+1=>⟨wA<|kn P n,wF P n<|kn P n⟩
def zw(o:Uo):Prop:=(o.cls≠ .none/\o.cls≠ .type "code")\/∀vs,o.data≠ .fields vs
structure Wd where
 prog:kX
 w:CR
 K:uj
 p:kX
 loose:aj a7
 mean:ExcName->au aA
 mg:a7->au aA
 mb:a7->au aA
 h₀:fX
 TI:fX->Prop
 TB:aj aX
 pa:Y->aX
 paP:∀a,pa (a+10)=a
 T:Top p loose mean mg mb h₀
 X:K.In h₀
 tb:∀b∈TB,h₀.get? b=ag
 TIk:∀h h',(∀b o,h.get? b=U o->¬zw o->h'.get? b=U o)->TI h->TI h'
def Ext(W:Wd)(h c:fX):Prop:=∀b o,b∉W.TB->h.get? b=U o-> c.get? b=U o\/(W.h₀.get? b=ag/\o.cls= .type "frame"/\∃d,c.get? b=U {o with slots:=d})
structure St(W:Wd)(s:aw):Prop where
 stay:∀b o,W.h₀.get? b=U o->s.heap.get? b=U o
 ti:W.TI s.heap
 tabs:∀b∈W.TB,∃ps,s.heap.get? b=U (po ps)
 bare:OY s.gens
structure Nx(W:Wd)(s s':aw):Prop where
 ext:Ext W s.heap s'.heap
 st:St W s'
 gens:∀(i:Y) (g:Aw),s.gens[i]? =U g->s'.gens[i]? =U g
 os:s'.os=s.os
def Ext.refl:Ext W h h:=λ_ _ _ e=> .inl e
def Ext.trans(x:Ext W h k)(y:Ext W k a):Ext W h a:=λb o c e=>by
 rcases x b o c e with d|⟨i,j,l,d⟩
 ·exact y b o c d
 ·rcases y b _ c d with f|⟨_,_,g,f⟩
  ·exact .inr ⟨i,j,l,f⟩
  ·exact .inr ⟨i,j,g,f⟩
def Nx.refl(x:St W s):Nx W s s:=⟨.refl,x,λ_ _ e=>e,J⟩
def Nx.trans(x:Nx W s b)(y:Nx W b a):Nx W s a:=⟨x.ext.trans y.ext,y.st,λi g e=>y.gens i g<|x.gens i g e,y.os.trans x.os⟩
def St.of_keeps(x:St W s)(k:∀b o,s.heap.get? b=U o->d.get? b=U o):St W {s with heap:=d,toks:=t}:=⟨λb o e=>k b o<|x.stay b o e,W.TIk _ _ (λb o e _=>k b o e) x.ti,λb f=>let⟨g,e⟩:=x.tabs b f;⟨g,k _ _ e⟩,x.bare⟩
def Nx.of_keeps(x:St W s)(k:∀b o,s.heap.get? b=U o->d.get? b=U o):Nx W s {s with heap:=d,toks:=t}:=⟨λb o _ e=> .inl<|k b o e,x.of_keeps k,λ_ _ e=>e,J⟩
def Nx.keeps(n:Nx W s₀ s)(k:∀b o,s.heap.get? b=U o->d.get? b=U o):Nx W s₀ {s with heap:=d,toks:=t}:=n.trans<|.of_keeps n.st k
def Nx.tok(n:Nx W s₀ s):Nx W s₀ {s with toks:=t}:=n.keeps λ_ _ e=>e
def Nx.push(n:Nx W s₀ s)(o:Uo):Nx W s₀ {s with heap:=s.heap.push o}:=n.keeps λ_ _ e=>bu o e
def Nx.upd(n:Nx W s₀ s){F:aX->Prop}{h':fX}{t:Y}
  (k:∀b o,¬F b->s.heap.get? b=U o->h'.get? b=U o)
  (m:∀b,F b->s₀.heap.get? b=ag)
  (r:∀b o,F b->s.heap.get? b=U o->zw o)
  (a:St W s₀):Nx W s₀ {s with heap:=h',toks:=t}:=by
 have j:∀b o,s₀.heap.get? b=U o->¬F b:=λb o e q=>by rw[m b q]at e;exact nd e
 have d:∀b o,s.heap.get? b=U o->¬zw o->¬F b:=λb o e c q=>c<|r b o q e;refine⟨λb o f e=> ?_,⟨λb o e=> ?_,W.TIk _ _ (λb o e c=>k b o (d b o e c) e) n.st.ti,λb f=> ?_,n.st.bare⟩,n.gens,n.os⟩
 ·have l:=j b o e;rcases n.ext b o f e with g|⟨u,v,w,g⟩
  ·exact .inl<|k b o l g
  ·exact .inr ⟨u,v,w,k b _ l g⟩
 ·exact k b o (j b o<|a.stay b o e)<|n.st.stay b o e
 ·refine dQ (n.st.tabs b f) λx e=> ?_;exact⟨x,k b _ (d b _ e λq=>q.elim (λz=>z.1 J) λz=>z _ J) e⟩
def St.B4(x:St W s)(e:s.heap.get? b=U o)(c:o.cls≠ .none):b∉W.TB:=λq=>by refine dQ (x.tabs b q) λd a=> ?_;rw[e]at a;obtain rfl:=sm a;exact c J
def St.xU(x:St W s)(e:s.heap.get? b=U o)(c:∀vs,o.data≠ .fields vs):b∉W.TB:=λq=>by refine dQ (x.tabs b q) λd a=> ?_;rw[e]at a;obtain rfl:=sm a;exact c _ J
def Ext.get(x:Ext W h d)(e:h.get? b=U o)(f:b∉W.TB):∃a,d.get? b=U a/\a.cls=o.cls/\a.data=o.data/\(o.cls≠ .type "frame"->a=o):=by
 rcases x b o f e with c|⟨_,q,g,c⟩
 ·exact⟨o,c,J,J,λ_=>rfl⟩
 ·exact⟨_,c,J,J,λn=>bI q n⟩
def Nx.get(x:Nx W s c)(y:St W s)(e:s.heap.get? b=U o)(d:o.cls≠ .none)(f:o.cls≠ .type "frame"):c.heap.get? b=U o:=by refine zY (x.ext.get e (y.B4 e d)) λg a _ _ q=> ?_;rw[q f]at a;exact a
def Nx.new(x:Nx W s f)(y:St W s)(e:f.heap.get? b=ag):s.heap.get? b=ag:=by
 cases q:s.heap.get? b with
 |none=>rfl
 |some o=>
  by_cases a:b∈W.TB
  ·refine dQ (x.st.tabs b a) λg c=> ?_;rw[e]at c;exact nd c
  ·refine cm (x.ext.get q a) λh d _=> ?_;rw[e]at d;exact nd d
mutual
noncomputable def bf(W:Wd)(av:aX->Prop)(h:fX):PV->aA->Prop
 | .none,v=>v= .none
 | .bool b,v=>v= .bool b
 | .int i,v=>∃t,v= .int i t
 | .fw x,v=>∃t,v= .float x t
 | .str l,v=>∃t,v= .str ⟨l.toArray⟩ t
 | .sJ l,v=>∃t,v= .bytes (l.map bT).toArray t/\∀c∈l,c<256
 | .tup xs,v=>∃a vs,v= .ref a/\¬av a/\h.IsTuple a vs.toArray/\ba W av h xs vs
 | .lst xs,v=>∃a vs,v= .ref a/\¬av a/\h.PlainList a vs.toArray/\ba W av h xs vs
 | .AN a b c,v=>∃r t u x,v= .ref r/\¬av r/\IsRange h r a b c t u x/\dA a b c=ah
 | .pat k,v=>v= .ref (W.pa k)
noncomputable def ba(W:Wd)(av:aX->Prop)(h:fX):aj PV->aj aA->Prop
 |[],vs=>vs=[]
 |x::xs,vs=>∃v r,vs=v::r/\bf W av h x v/\ba W av h xs r
end
section
variable {W:Wd} {f av':aX->Prop} {h j:fX}
def W'(o:Uo):Prop:=o.cls= .type "list"\/o.cls= .type "tuple"\/o.cls= .type "range"
def bf.mono(k:∀a o,h.get? a=U o->W' o->¬f a->j.get? a=U o/\¬av' a)(p:PV):∀(v:aA),bf W f h p v->bf W av' j p v:=by
 induction p using PV.rec (motive_2:=λp=>∀(v:aj aA),ba W f h p v->ba W av' j p v)with
 |tup w s=>refine λv x=>rc (x) λa vs e n i r=>pM i λo g c d=> ?_;have q:=k a o g (.inr<|.inl c) n;exact⟨a,vs,e,q.2,⟨o,q.1,c,d⟩,s vs r⟩
 |lst w s=>refine λv x=>rc (x) λa vs e n i r=>dQ i λm g=> ?_;have q:=k a _ g (.inl J) n;exact⟨a,vs,e,q.2,⟨m,q.1⟩,s vs r⟩
 |AN _ _ _=>refine λv x=>UD (x) λr t u y e n i q=> ?_;have z:=k r _ i (.inr<|.inr J) n;exact⟨r,t,u,y,e,z.2,z.1,q⟩
 |nil _ x=>exact x
 |cons p B s A v x=>refine jj (x) λy r e a b=> ?_;exact⟨y,r,e,s y a,A r b⟩
 |_=>exact λ_ x=>x
def ba.mono(k:∀a o,h.get? a=U o->W' o->¬f a->j.get? a=U o/\¬av' a)(p:aj PV):∀(v:aj aA),ba W f h p v->ba W av' j p v:=by
 induction p with
 |nil=>exact λ_ x=>x
 |cons p d c=>refine λv x=>jj (x) λy r e a b=> ?_;exact⟨y,r,e,bf.mono k p y a,c r b⟩
def fV(x:Nx W s b)(y:St W s)(i:s.heap.PlainList a vs):b.heap.PlainList a vs:=by refine dQ (i) λn e=> ?_;exact⟨n,x.get y e nofun (by show cK "list"≠cK "frame";decide)⟩
def W'.x(c:W' o):o.cls≠ .none/\o.cls≠ .type "frame":=by rcases c with c|c|c<;>refine rP c ?_<;>exact⟨nofun,by decide⟩
def Mt(x:Nx W s b)(y:St W s):∀a o,s.heap.get? a=U o->W' o->¬f a->b.heap.get? a=U o/\¬f a:=λ_ _ e c n=>⟨x.get y e c.x.1 c.x.2,n⟩
def bf.nx(x:Nx W s a)(y:St W s)(r:bf W f s.heap p v):bf W f a.heap p v:=bf.mono (Mt x y) _ _ r
def ba.nx(x:Nx W s a)(y:St W s)(r:ba W f s.heap p v):ba W f a.heap p v:=ba.mono (Mt x y) _ _ r
def bf.weak(k:∀a,av' a->f a)(r:bf W f h p v):bf W av' h p v:=bf.mono (λ_ _ e _ n=>⟨e,λq=>n<|k _ q⟩) _ _ r
def ba.weak(k:∀a,av' a->f a)(r:ba W f h p v):ba W av' h p v:=ba.mono (λ_ _ e _ n=>⟨e,λq=>n<|k _ q⟩) _ _ r
def A3(k:∀a,av' a->f a\/h.get? a=ag):∀a o,h.get? a=U o->W' o->¬f a->h.get? a=U o/\¬av' a:=λa _ e _ n=>⟨e,λq=>(k a q).elim n λz=>nd<|z.symm.trans e⟩
def bf.avoid(k:∀a,av' a->f a\/h.get? a=ag)(r:bf W f h p v):bf W av' h p v:=bf.mono (A3 k) _ _ r
def ba.avoid(k:∀a,av' a->f a\/h.get? a=ag)(r:ba W f h p v):ba W av' h p v:=ba.mono (A3 k) _ _ r
def yM{F:aX->Prop}(d:∀b o,¬F b->h.get? b=U o->j.get? b=U o)(g:∀b o,F b->h.get? b=U o->f b\/(o.cls≠ .type "list"/\o.cls≠ .type "dict"/\o.cls≠ .type "tuple"/\o.cls≠ .type "range")):∀a o,h.get? a=U o->W' o->¬f a->j.get? a=U o/\¬f a:=λa o e c n=>⟨d _ _ (λq=>(g _ _ q e).elim n λz=>c.elim z.1 λc=>c.elim z.2.2.1 z.2.2.2) e,n⟩
def ba.change{F:aX->Prop}(a:∀b o,¬F b->h.get? b=U o->j.get? b=U o)
  (c:∀b o,F b->h.get? b=U o->f b\/(o.cls≠ .type "list"/\o.cls≠ .type "dict"/\o.cls≠ .type "tuple"/\o.cls≠ .type "range"))
  (r:ba W f h p v):ba W f j p v:=ba.mono (yM a c) _ _ r
def bf.change{F:aX->Prop}(a:∀b o,¬F b->h.get? b=U o->j.get? b=U o)
  (c:∀b o,F b->h.get? b=U o->f b\/(o.cls≠ .type "list"/\o.cls≠ .type "dict"/\o.cls≠ .type "tuple"/\o.cls≠ .type "range"))
  (r:bf W f h p v):bf W f j p v:=bf.mono (yM a c) _ _ r
def ba.length{p}:∀{v},ba W f h p v->p.length=v.length:=by
 induction p with
 |nil=>intro _ x;subst x;rfl
 |cons _ d c=>intro _ x;refine jj (x) λ_ r a _ b=> ?_;obtain rfl:=a;simp[c b]
def ba.get{p:aj PV}:∀{v:aj aA} {i:Y} {x:PV},ba W f h p v->p[i]? =U x->∃y,v[i]? =U y/\bf W f h x y:=by
 induction p with
 |nil=>intro _ _ _ _ e;simp at e
 |cons p l g=>
  intro _ i x r e;refine jj (r) λy q d a b=> ?_;obtain rfl:=d;induction i using cg with
  |zero=>simp at e;subst e;exact⟨y,J,a⟩
  |succ n=>simp at e;refine cm (g b e) λz k c=> ?_;exact⟨z,by simpa using k,c⟩
def ba.append{p}:∀{q} {v u},ba W f h p v->ba W f h q u->ba W f h (p++q) (v++u):=by
 induction p with
 |nil=>intro _ _ _ x y;subst x;exact y
 |cons _ g e=>intro q _ u x y;refine jj (x) λa r b c d=> ?_;obtain rfl:=b;exact⟨a,_,J,c,e d y⟩
def ba.nil:ba W f h [] []:=by rfl
def ba.cons(a:bf W f h x v)(b:ba W f h c vs):ba W f h (x::c)<|v::vs:=by exact⟨v,vs,J,a,b⟩
def ba.one(a:bf W f h x v):ba W f h [x] [v]:= .cons a .nil
def ba.drop:∀{p} {v} (n),ba W f h p v->ba W f h (p.drop n) (v.drop n):=by
 intro e g n;induction n generalizing e g with
 |zero=>intro x;exact x
 |succ n i=>
  cases e with
  |nil=>intro x;subst x;exact .nil
  |cons _ k=>intro x;refine jj (x) λa r b c d=> ?_;obtain rfl:=b;exact i d
def ba.take:∀{p} {v} (n),ba W f h p v->ba W f h (p.take n) (v.take n):=by
 intro e g n;induction n generalizing e g with
 |zero=>intro _;exact .nil
 |succ n i=>
  cases e with
  |nil=>intro x;subst x;exact .nil
  |cons _ k=>intro x;refine jj (x) λa r b c d=> ?_;obtain rfl:=b;exact .cons c<|i d
def ba.reverse{p}:∀{v},ba W f h p v->ba W f h p.reverse v.reverse:=by
 induction p with
 |nil=>intro _ x;subst x;exact .nil
 |cons _ g e=>intro _ x;refine jj (x) λa r b c d=> ?_;obtain rfl:=b;exact rP g_ <| rP g_ <| (e d).append<|.one c
def ba.set:∀{p} {v} {x} {y} (n),ba W f h p v->bf W f h x y->ba W f h (p.set n x) (v.set n y):=by
 intro p;induction p with
 |nil=>intro _ _ _ n x _;subst x;induction n using cg<;>exact .nil
 |cons _ k i=>
  intro _;intro _;intro _;intro g;cases g with
  |zero=>intro x z;refine jj (x) λa r b c d=> ?_;obtain rfl:=b;exact .cons z d
  |succ n=>intro x z;refine jj (x) λa r e c d=> ?_;obtain rfl:=e;exact .cons c<|i n d z
def ba.tT(x:ba W f h p v):∀n:Y,ba W f h (bJ n p).flatten (bJ n v).flatten:=by
 intro n;induction n with
 |zero=>exact .nil
 |succ n a=>exact rP on <| rP on <| rP gp <| rP gp <| x.append<|a
end
section
variable {W:Wd} {f:aX->Prop}
def vN:bf W f h .none .none:=(rfl:im= .none)
def vB:bf W f h (.bool b)<|.bool b:=(rfl:Value.bool b= .bool b)
def vI:bf W f h (.int i)<|.int i t:=(⟨t,J⟩:∃u,kf i t= .int i u)
def vF:bf W f h (.fw x)<|.float x t:=(⟨t,J⟩:∃u,yg x t= .float x u)
def vS:bf W f h (.str l)<|.str ⟨l.toArray⟩ t:=(⟨t,J⟩:∃u,qQ ⟨l.toArray⟩ t= .str ⟨l.toArray⟩ u)
def vS'(e:x=⟨l.toArray⟩):bf W f h (.str l)<|.str x t:=rP e <| vS
def vY(e:b=l.map bT)(q:∀c∈l,c<256):bf W f h (.sJ l)<|.bytes b.toArray t:=(⟨t,rS e <| J,q⟩:∃u,Value.bytes b.toArray t= .bytes (l.map bT).toArray u/\∀c∈l,c<256)
def vL(n:¬f a)(i:h.PlainList a vs.toArray)(r:ba W f h c vs):bf W f h (.lst c)<|.ref a:=(⟨a,vs,J,n,i,r⟩:∃b d,ek a= .ref b/\¬f b/\h.PlainList b d.toArray/\ba W f h c d)
def vT(n:¬f a)(i:h.IsTuple a vs.toArray)(r:ba W f h c vs):bf W f h (.tup c)<|.ref a:=(⟨a,vs,J,n,i,r⟩:∃b d,ek a= .ref b/\¬f b/\h.IsTuple b d.toArray/\ba W f h c d)
@[elab_as_elim] def bf.Jh{P:aA->Prop}{d}{v}(r:bf W f h (.lst d) v)(c:∀a (vs:aj aA),¬f a->h.PlainList a vs.toArray->ba W f h d vs->P (.ref a)):P v:=by refine rc (r) λa vs b n i q=> ?_;obtain rfl:=b;exact c a vs n i q
@[elab_as_elim] def bf.abx{P:aA->Prop}{d}{v}(r:bf W f h (.tup d) v)(c:∀a (vs:aj aA),¬f a->h.IsTuple a vs.toArray->ba W f h d vs->P (.ref a)):P v:=by refine rc (r) λa vs b n i q=> ?_;obtain rfl:=b;exact c a vs n i q
@[elab_as_elim] def bf.yn{P:aA->Prop}{l}{v}(r:bf W f h (.str l) v)(c:∀t,P<|.str ⟨l.toArray⟩ t):P v:=by refine dQ (r) λt a=> ?_;obtain rfl:=a;exact c t
@[elab_as_elim] def bf.uY{P:aA->Prop}{i}{v}(r:bf W f h (.int i) v)(c:∀t,P<|.int i t):P v:=by refine dQ (r) λt a=> ?_;obtain rfl:=a;exact c t
@[elab_as_elim] def ba.Vx{P:aj aA->Prop}{vs}(r:ba W f h [] vs)(c:P []):P vs:=by obtain rfl:vs=[]:=r;exact c
@[elab_as_elim] def ba.D6{P:aj aA->Prop}{x}{g}{vs}(r:ba W f h (x::g) vs)(c:∀v e,bf W f h x v->ba W f h g e->P (v::e)):P vs:=by refine jj (r) λv e d a b=> ?_;obtain rfl:=d;exact c v e a b
def ba.su(r:ba W f h [x] vs):∃v,vs=[v]/\bf W f h x v:=by refine jj (r) λv d c a b=> ?_;obtain rfl:=c;obtain rfl:d=[]:=b;exact⟨v,J,a⟩
def ba.jX(r:ba W f h [x,y] vs):∃u v,vs=[u,v]/\bf W f h x u/\bf W f h y v:=by refine jj (r) λu g d a b=> ?_;obtain rfl:=d;refine cm (ba.su b) λv e c=> ?_;obtain rfl:=e;exact⟨u,v,J,a,c⟩
def ba.sq(r:ba W f h [x,y,z] vs):∃u v w,vs=[u,v,w]/\bf W f h x u/\bf W f h y v/\bf W f h z w:=by refine jj (r) λu i e a b=> ?_;obtain rfl:=e;refine jj (ba.jX b) λv w g c d=> ?_;obtain rfl:=g;exact⟨u,v,w,J,a,c,d⟩
end
set_option genCtorIdx true in
inductive Loc where
 |dict (L:aX) (x:a7)|cell (c:aX)
noncomputable def iO(a:cr)(x:a7):au Loc:=match a.kindOf x with
 |some .local=>U<|.dict a.locals x
 |some .cell=>(a.cells.lookup x).map .cell
 |some .free=>(a.cells.lookup x).map .cell
 |_=>ag
def Loc.holds(h:fX):Loc->aA->Prop
 | .dict L x,v=>∃m,h.Ns L m/\m x=U v
 | .cell c,v=>h.IsCell c<|U v
structure Cx where
 nm:aj<|a7 × dJ
 Γ:aj<|a7 × Y
 uq:aj Y
inductive XO(menv:cr)(x y:a7)(h:fX):Prop
 |mk {lx ly:Loc} {a b:aX} {va vb:eI aA} (r1:iO menv x=U lx) (r2:iO menv y=U ly) (r3:lx.holds h<|.ref a) (r4:ly.holds h<|.ref b) (r5:a≠b) (r6:h.PlainList a va) (r7:h.PlainList b vb):XO menv x y h
structure cV(W:Wd)(av:aX->Prop)(X:Cx)(menv:cr)(env:Env)(h:fX):Prop where
 kind:menv.scope.kind= .function
 glob:menv.globals=dB
 blt:menv.builtins=jT
 names:menv.scope.names=X.nm
 ns:∃m,h.Ns menv.locals m
 cel:∀x,X.nm.lookup x=U .cell\/X.nm.lookup x=U .free->∃c o,menv.cells.lookup x=U c/\h.IsCell c o
 inj:∀x y c,menv.cells.lookup x=U c->menv.cells.lookup y=U c->x=y
 slot:∀x i v,X.Γ.lookup x=U i->env[i]? =U (U v)->∃loc v',iO menv x=U loc/\loc.holds h v'/\bf W av h v v'
 uqs:∀x y i j u v,X.Γ.lookup x=U i->X.Γ.lookup y=U j->i∈X.uq->j∈X.uq->i≠j->env[i]? =U (U u)->env[j]? =U (U v)-> XO menv x y h
def Mn(x:Nx W s b)(y:St W s)(r:s.heap.Ns a m):b.heap.Ns a m:=by refine EZ (r) λo c g e d q f=> ?_;refine zY (x.ext.get e (y.xU e (by refine rP d ?_;nofun))) λh i _ j _=> ?_;exact⟨h,c,g,i,j.trans d,q,f⟩
def jF(x:Nx W s b)(y:St W s)(r:s.heap.IsCell a v):b.heap.IsCell a v:=by refine cm (r) λo e d=> ?_;refine zY (x.ext.get e (y.xU e (by refine rP d ?_;nofun))) λc f _ g _=> ?_;exact⟨c,f,g.trans d⟩
def Loc.holds.nx{a:Loc}{v:aA}(x:Nx W s b)(y:St W s)(r:a.holds s.heap v):a.holds b.heap v:=by
 induction a using Loc.casesOn with
 |dict L n=>refine cm (r) λm d e=> ?_;exact⟨m,Mn x y d,e⟩
 |cell c=>exact jF x y r
inductive Xb(menv:cr)(x:a7):Loc->Prop
 |dict (k:menv.kindOf x=U .local):Xb menv x<|.dict menv.locals x
 |cell (c:aX) (k:menv.kindOf x=U .cell\/menv.kindOf x=U .free) (e:menv.cells.lookup x=U c):Xb menv x<|.cell c
def MU(h:iO a x=U b):Xb a x b:=by
 revert h;unfold iO;cases q:a.kindOf x with
 |none=>exact nd
 |some k=>induction k using NameKind.casesOn with
  |«local»=>exact λh=>rS (sm h) <| .dict q
  |cell=>exact λh=>let⟨c,e,z⟩:=eJ.mp h;z▸ .cell c (.inl q) e
  |free=>exact λh=>let⟨c,e,z⟩:=eJ.mp h;z▸ .cell c (.inr q) e
  |_=>exact nd
def mS(k:a.kindOf x=U .cell\/a.kindOf x=U .free)(e:a.cells.lookup x=U c):iO a x=U (.cell c):=by unfold iO;rcases k with k|k<;>refine rP k ?_<;>exact az (Option.map Loc.cell) e
def cV.mv(r:cV W H X l env h)(w:∀m,h.Ns l.locals m->s.Ns l.locals m)
  (A:∀y c,l.cells.lookup y=U c->l.kindOf y=U .cell\/l.kindOf y=U .free->∀o,h.IsCell c o->s.IsCell c o)
  (I:X.uq≠[]->∀a vs,h.PlainList a vs->s.PlainList a vs) (L:∀{p v},bf W H h p v->bf W av' s p v):cV W av' X l env s:=by
 have M:∀y,l.kindOf y=X.nm.lookup y:=λy=>az (pW y) r.names
 have t:∀{x n v},iO l x=U n->n.holds h v->n.holds s v:=λ{x n v} e=>by
  cases MU e with
  |dict k=>exact λq=>q.imp λm z=>⟨w m z.1,z.2⟩
  |cell c k z=>exact A x c z k _
 refine⟨r.kind,r.glob,r.blt,r.names,r.ns.imp w,λx z=> ?_,r.inj,λx i v a b=> ?_,λx y i j u v a b c d e f g=> ?_⟩
 ·exact oV (r.cel x z) λc o a b=>⟨c,o,a,A x c a (rP (M x) <| z) o b⟩
 ·exact jj (r.slot x i v a b) λn O a b c=>⟨n,O,a,t a b,L c⟩
 ·exact(r.uqs x y i j u v a b c d e f g).casesOn λB D Q r4 r5 r6 r7=>
   have E:=I (λz=>bI (rS z <| c) a0)
   ⟨B,D,t B Q,t D r4,r5,E _ _ r6,E _ _ r7⟩
def cV.nx(x:Nx W s b)(y:St W s)(r:cV W c X a env s.heap):cV W c X a env b.heap:=r.mv (λ_=>Mn x y) (λ_ _ _ _ _=>jF x y) (λ_ _ _=>fV x y)<|bf.nx x y
def cV.avoid(k:∀a,av' a->c a\/h.get? a=ag)(r:cV W c X b env h):cV W av' X b env h:=r.mv (λ_=>id) (λ_ _ _ _ _=>id) (λ_ _ _=>id)<|bf.avoid k
def Av(b:aX->Prop)(s:aw):Prop:=∀a,b a->s.heap.get? a≠ag
def Av.nx(x:Nx W s b)(y:St W s)(h:Av c s):Av c b:=λa d q=>h a d<|x.new y q
def Av.lt(h:Av b s):∀a,b a->a<s.heap.objs.size:=λa c=>by
 cases q:s.heap.get? a with
 |none=>exact bI q<|h a c
 |some o=>exact dY q
structure Rm(n:Y)(A:cZ):Prop where
 handled:A.handled=ag
 depth:A.depth+n+60<jx
 units:A.units+10*n+600<cLine
def Rm.less(x:Rm n A)(h:m<=n):Rm m A:=⟨x.handled,bi (fA (c_ h _) _) x.depth,bi (fA (c_ (cA _ h) _) _) x.units⟩
abbrev jm(W:Wd)(d:aX->Prop)(s:aw)(r:PV)(Q:aA->aw->Prop):Prop:=∀b c,Nx W s c->bf W d c.heap r b->(∀a,b= .ref a->s.heap.get? a=ag)->Q b c
def HY(h:aY 9007199254740992 x=af):x<2^1023:=by
 have b:¬(9007199254740992<=x):=λq=>by rw[aP q]at h;exact tf h
 have a:(2:Y)^53<=2^1023:=dh (dcd J)<|dcd J;have c:(2:Y)^53=9007199254740992:=by decide
 rw[c]at a;exact aV (SS b) a
def Bx(st:St W s)(h:jm W f s (.int i) Q)(d:∀b o,s.heap.get? b=U o->e.get? b=U o):Q (.int i t) {s with heap:=e,toks:=k}:=h _ _ (.of_keeps st d) vI nofun
def KQ(st:St W s)(h:jm W f s (.fw i) Q)(d:∀b o,s.heap.get? b=U o->e.get? b=U o):Q (.float i t) {s with heap:=e,toks:=k}:=h _ _ (.of_keeps st d) vF nofun
def UI(st:St W s)(h:jm W g s (.str l) Q)(d:x=⟨l.toArray⟩)(e:∀b o,s.heap.get? b=U o->f.get? b=U o):Q (.str x t) {s with heap:=f,toks:=k}:=h _ _ (.of_keeps st e) (vS' d) nofun
def Eh(a):aH a<=a.natAbs.log2+1:=by unfold aH;split;exact db _;exact aZ _
def MT(h:w7 a b=ah):IntMulOk a b:=by have c:a.natAbs.log2+b.natAbs.log2<=33554432:=aD h;have d:=Eh a;have e:=Eh b;have:ada ((aH a:Z)+(aH b:Z))=af:=bz<|gr 0x3b112b0120000006f932a1f7980000006f9657 c d e;unfold IntMulOk;simp[this]
def oT(W:Wd)(d:dU)(x y r:PV):Prop:=∀{A:cZ} {E:aA->aw->Prop} {s:aw} {c:aX->Prop} {Q:aA->aw->Prop} {a b:aA},A.handled=ag->St W s->(∀a,c a->a<s.heap.objs.size)-> bf W c s.heap x a->bf W c s.heap y b->jm W c s r Q->aL (aQ W.prog W.w) A (wO d a b) Q E s
def WV(Q:aA->aw->Prop)(s:aw)(v:pq->aA):Prop:=∀t k,Q (v t) {s with toks:=k}
def OL(W:Wd)(a:dU)(u v:pq->aA)(r:pq->aA):Prop:=∀{A:cZ} {E:aA->aw->Prop} {s:aw} {Q:aA->aw->Prop} {t b:pq},A.handled=ag->WV Q s r->aL (aQ W.prog W.w) A (wO a (u t)<|v b) Q E s
def Om(h:OL W c (.int a) (.int b)<|.int i):oT W c (.int a) (.int b)<|.int i:=λ{A E s j Q u v} d st _ f g w=>by obtain⟨t,rfl⟩:=f;obtain⟨k,rfl⟩:=g;exact h d λ_ _=>Bx st w λ_ _ e=>e
def acv(h:OL W c (.int a) (.int b)<|.float i):oT W c (.int a) (.int b)<|.fw i:=λ{A E s j Q u v} d st _ f g w=>by obtain⟨t,rfl⟩:=f;obtain⟨k,rfl⟩:=g;exact h d λ_ _=>KQ st w λ_ _ e=>e
def bFF(h:OL W c (.float a) (.float b)<|.float i):oT W c (.fw a) (.fw b)<|.fw i:=λ{A E s j Q u v} d st _ f g w=>by obtain⟨t,rfl⟩:=f;obtain⟨k,rfl⟩:=g;exact h d λ_ _=>KQ st w λ_ _ e=>e
def bFI(h:OL W c (.float a) (.int b)<|.float i):oT W c (.fw a) (.int b)<|.fw i:=λ{A E s j Q u v} d st _ f g w=>by obtain⟨t,rfl⟩:=f;obtain⟨k,rfl⟩:=g;exact h d λ_ _=>KQ st w λ_ _ e=>e
def bIF(h:OL W c (.int a) (.float b)<|.float i):oT W c (.int a) (.fw b)<|.fw i:=λ{A E s j Q u v} d st _ f g w=>by obtain⟨t,rfl⟩:=f;obtain⟨k,rfl⟩:=g;exact h d λ_ _=>KQ st w λ_ _ e=>e
def Vd(e:binI c a b=U r):oT W c (.int a) (.int b) r:=by
 induction c using gQ<;>try exact nd e
 case Add=>exact rS (sm e) <| Om λ_ h=>add_int<|h _ _
 case Sub=>exact rS (sm e) <| Om λ_ h=>sub_int<|h _ _
 case Mult=>exact rS ((cN e).2) <| Om λ_ h=>mul_int (h _ _)<|MT (cN e).1
 case Div=>
  obtain⟨q,rfl⟩:=cN e
  exact acv λd h=>PySem.Flt.div_ii_fits d (HY<|n0 (n2 (n2 q).2).1) (λf=>bI f<|jR<|n0 (n2 q).1) λ_ _=>h _ _
 case Mod=>exact rS ((cN e).2) <| Om λ_ h=>mod_int (jR<|n0 (cN e).1)<|h _ _
 case Pow=>
  obtain⟨q,rfl⟩:=cN e
  exact Om λ_ h=>pow_int (aq (n2 q).1) (aq (n2 q).2)<|h _ _
 case LShift=>
  obtain⟨q,rfl⟩:=cN e
  exact Om λ_ h=>lshift_int (aq (n2 q).1) (aq (n2 q).2)<|h _ _
 case RShift=>exact rS ((cN e).2) <| Om λ_ h=>rshift_int (aq (cN e).1)<|h _ _
 case BitOr=>exact rS (sm e) <| Om λ_ h=>or_int<|h _ _
 case BitXor=>exact rS (sm e) <| Om λ_ h=>xor_int<|h _ _
 case BitAnd=>exact rS (sm e) <| Om λ_ h=>and_int<|h _ _
 case FloorDiv=>
  obtain⟨q,rfl⟩:=cN e
  exact Om λ_ h=>floordiv_int (jR<|n0 (n2 q).1) (h _ _)<|.inl<|n0 (n2 q).2
def Vg(e:WU d a b=U r):oT W d (.fw a) (.fw b) r:=by
 induction d using gQ<;>try exact nd e
 case Add=>exact rS (sm e) <| bFF λ_ h=>add_float<|h _ _
 case Sub=>exact rS (sm e) <| bFF λ_ h=>sub_float<|h _ _
 case Mult=>exact rS (sm e) <| bFF λ_ h=>mul_float<|h _ _
 case Div=>exact rS ((cN e).2) <| bFF λc h=>truediv_float_or c (λz=>tf<|z.symm.trans<|n0 (cN e).1) λ_=>h _ _
 case Mod=>exact rS ((cN e).2) <| bFF λc h=>PySem.Flt.mod_ff c (λz=>tf<|z.symm.trans<|n0 (cN e).1) λ_=>h _ _
def Dt(e:EP i=U x):i.natAbs<2^1023/\pz i=x:=⟨HY<|n0 (cN e).1,(cN e).2⟩
def Vf(e:Ug d a n=U r):oT W d (.fw a) (.int n) r:=by
 induction d using gQ<;>try exact nd e
 all_goals(obtain⟨y,f,b⟩:=ER e;obtain⟨c,rfl⟩:=Dt f)
 case Add=>exact rS (sm b) <| bFI λ_ h=>add_fi_fits c<|h _ _
 case Sub=>exact rS (sm b) <| bFI λ_ h=>sub_fi_fits c<|h _ _
 case Div=>exact rS ((cN b).2) <| bFI λg h=>PySem.Flt.truediv_fi g (λi=>bI (PySem.Flt.inf_of_over i)<|Float64.ofInt_fits c) (λz=>bI z<|jR<|n0 (cN b).1) λ_ _=>h _ _
def Ve(e:Uf b n a=U r):oT W b (.int n) (.fw a) r:=by
 induction b using gQ<;>try exact nd e
 all_goals(obtain⟨y,f,c⟩:=ER e;obtain⟨d,rfl⟩:=Dt f)
 case Sub=>exact rS (sm c) <| bIF λ_ h=>sub_if_fits d<|h _ _
 case Mult=>exact rS (sm c) <| bIF λ_ h=>mul_if_fits d<|h _ _
section
variable {A:cZ} {E:aA->aw->Prop}
def eL(h:fX):h.get? h.objs.size=ag:=by delta Heap.get?;simp
def yk(st:St W s)(h:jm W g s (.lst i) Q)(d:∀a,g a->a<s.heap.objs.size)(r:ba W g s.heap i vs):Q (.ref s.heap.objs.size) {s with heap:=s.heap.push {cls:= .type "list",data:= .seq vs.toArray}}:=by have n:Nx W s {s with heap:=s.heap.push {cls:= .type "list",data:= .seq vs.toArray}}:=(Nx.refl st).push _;exact h _ _ n (vL (λq=>e_ _<|d _ q) ⟨0,bQ _ J⟩<|r.nx n st) (λa e=>by cases e;exact eL _)
def AG(st:St W s)(h:jm W j s (.tup k) Q)(g:∀a,j a->a<s.heap.objs.size)(r:ba W j s.heap k vs):Q (.ref s.heap.objs.size) {s with heap:=s.heap.push {cls:= .type "tuple",data:= .seq vs.toArray},toks:=t}:=by have n:Nx W s {s with heap:=s.heap.push {cls:= .type "tuple",data:= .seq vs.toArray},toks:=t}:=(Nx.refl st).keeps λb o e=>bu _ e;exact h _ _ n (vT (λq=>e_ _<|g _ q) ⟨_,bQ _ J,J,0,J⟩<|r.nx n st) (λa e=>by cases e;exact eL _)
def JB{b:Type}(l:aj<|eI b):∀(a:eI b),(l.foldl (· ++ ·) a).toList=a.toList++(l.map XE).flatten:=by
 induction l with
 |nil=>intro a;simp
 |cons x r c=>intro a;refine rP (nT ..)<|rP (c ..) ?_;simp[dS]
def foldl_rep{a:Type}(n)(l:aj a):(bJ n l.toArray).foldl (· ++ ·) #[]=((bJ n l).flatten).toArray:=by apply oG;refine rP (JB ..) ?_;simp[KF]
def El(st:St W s)(e:aY (x.length+y.length) big=ah)(h:jm W a s (.str<|x++y) Q):aL (aQ W.prog W.w) A (wO .Add (.str ⟨x.toArray⟩ t)<|.str ⟨y.toArray⟩ u) Q E s:=by
 refine SM (λb c=>UI st h ?_ λ_ _ e=>e) ?_
 ·show wQ _ _=_;simp[wQ]
 ·have:=aD e;show x.toArray.size+y.toArray.size<=qO;exact rP aO <| rP aO <| rP cS <| ab this<|dcd J
def PA(x)(n):Txt.mul ⟨x.toArray⟩ n=⟨(tT n x).toArray⟩:=by
 delta Txt.mul tT;by_cases a:n<1
 ·refine rP (bM a) ?_;have:n.toNat=0:=f7 0x79898d040500c703 J a;exact rP this J
 ·refine rP (bA a) ?_;by_cases h2:(n==1||(⟨x.toArray⟩:a7).length==0)=ah
  ·refine rP (bM h2) ?_;simp only[S0,eR]at h2;rcases h2 with h2|h2
   ·subst h2;simp
   ·have:x=[]:=by have b:x.toArray.size=0:=h2;rw[aO]at b;exact q8.mp b
    subst this
    simp
  ·exact rP (bA h2 ..)<|rP (foldl_rep ..) J
def Ek(st:St W s)(e:(aY x.length 1024&&aY n.natAbs 1024)=ah)(h:jm W g s (.str<|tT n x) Q):aL (aQ W.prog W.w) A (wO .Mult (.str ⟨x.toArray⟩ t)<|.int n u) Q E s:=by
 simp only[i_]at e;have c:=aD e.1;have b:=aD e.2;have d:(⟨x.toArray⟩:a7).length=x.length:=aO ..;refine PySem.SB.mul ⟨?_,?_,?_⟩ λi k=>UI st h (PA x n) λ_ _ e=>e
 ·simp only[Ix,jw];exact f7 0x188a904002f90100b08000000000000000ff8478000000000000000ff8b0578 (by rfl) b
 ·intro a _;refine rP d ?_;have f:(x.length:Z)*n<=1024*1024:=Int.mul_le_mul (dz.mpr c) (f7 0x1804002f90100b4002f804 (by rfl) b) (lE 67465300 a)<|aK _;have:(x.length:Z)<=(2^63-1)/n:=jW (kg.mp a)<|ft f<|dcd J;exact kg.mpr this
 ·intro a _;refine rP d ?_;have:x.length*n.toNat<=1024*1024:=eS c<|v_ 0x1ab49bc93788a040574002f91100c01b4002f901 (by rfl) (by rfl) b a;delta pB;exact rP cS <| bz<|ni<|ab this<|dcd J
def Eo(st:St W s)(g:∀a,i a->a<s.heap.objs.size)(e:aY (j.length+k.length) big=ah) (t:bf W i s.heap (.lst j) a) (u:bf W i s.heap (.lst k) b) (h:jm W i s (.lst<|j++k) Q):aL (aQ W.prog W.w) A (wO .Add a b) Q E s:=by
 refine rc (t) λl vs c _ v o=> ?_;obtain rfl:=c;refine rc (u) λm ws d _ x q=> ?_;obtain rfl:=d;refine dQ (v) λn r=> ?_;refine dQ (x) λn2 f=> ?_;have:=aD e;have l1:=o.length;have l2:=q.length;have y:vs.toArray++ws.toArray=(vs++ws).toArray:=by simp
 refine concat_meets ⟨_,r,J⟩ ⟨_,f,J⟩ noFill_list_add seq_list_add PySem.F.slot_list_add PySem.F.entry_list_add (PySem.F.args_list_add_2 _ _) (list_addW l m vs.toArray ws.toArray n n2 ag ag #[] #[] (rP aO <| rP aO <| rP cS <| gr 0x3301330231000005f932a110000006f910a1 this l1 l2)) ⟨r,f,?_⟩
 exact rP y <| yk st h g<|o.append q
def En(st:St W s)(i:∀a,m a->a<s.heap.objs.size)(e:(aY o.length 1024&&aY n.natAbs 1024)=ah) (D:bf W m s.heap (.lst o) a) (h:jm W m s (.lst<|tT n o) Q):aL (aQ W.prog W.w) A (wO .Mult a<|.int n u) Q E s:=by
 refine rc (D) λl vs b _ c t=> ?_;obtain rfl:=b;obtain⟨k,d⟩:=c;simp only[i_]at e;have H:=aD e.1;have x:=aD e.2;have l1:=t.length;have g:vs.toArray.size*n.toNat<=1024*1024:=rP aO <| eS (rS l1 <| H)<|v_ 0xbc42847ab89378d04002f91100c01b4002f901 (by rfl) (by rfl) x
 have j:(bJ (if vs.toArray.isEmpty=ah then 0 else n.toNat) vs.toArray).foldl (λx1 x2=>x1++x2) #[]=(tT n vs).toArray:=by
  delta tT;induction vs using aE with
  |nil=>simp
  |cons v r=>simp only[List.isEmpty_toArray,List.isEmpty_cons,iq,wK];exact foldl_rep _ _
 have I:¬(!vD n)=ah:=by simp only[vD,pZ,Bool.and_eq_false_iff,jw,not_or,Decidable.not_not];exact f7 0x188a904002f90100b8000000000000000ff80508000000000000000ff8b48 (by rfl) x
 have L:¬vs.toArray.size*n.toNat>(2^63-1)/8:=by
  have q:(2^63-1)/8=1152921504606846975:=by decide
  refine rP q ?_;generalize vs.toArray.size*n.toNat=z at g;exact ni<|ab g<|dcd J
 have M:¬xm (vs.toArray.size*n.toNat)=ah:=by delta xm;refine rP cS<|rP rt ?_;generalize vs.toArray.size*n.toNat=z at g;exact ni<|ab g<|dcd J
 have f:Q (.ref s.heap.objs.size) {s with heap:=s.heap.push {cls:=cK "list",data:=Iq<|List.foldl (λx1 x2=>x1++x2) #[] (bJ (if vs.toArray.isEmpty=ah then 0 else n.toNat) vs.toArray)}}:=by exact rP j <| yk st h i<|t.tT _
 have m2:=AutoListH.list___mul___list_int_3 l vs.toArray k n u I L M;refine wpAny_binaryOp_repeat_ref (dcd J) ⟨_,d,J⟩ (λs'=>GH s' n u) noFill_list_mul F.fills_int_mul X1 repeat_list F.slot_int_index.lookup ?_;refine uh X1 (GH s n u) F.entry_int_rmul (F.args_int_rmul_2 _ _) (int___rmul___int_list n u l vs.toArray k) ?_;refine⟨d,J,⟨_,d,J⟩,?_⟩;exact uh F.slot_list_mul ⟨_,d,J⟩ F.entry_list_mul (F.args_list_mul_2 _ _) m2 ⟨d,f⟩
set_option maxHeartbeats 4000000 in
def A9(e:DS a o=U r):a= .Add/\o=U r:=by induction a using gQ<;>first|exact nd e|exact⟨J,e⟩
def A8(e:DR a o=U r):a= .Mult/\o=U r:=by induction a using gQ<;>first|exact nd e|exact⟨J,e⟩
def WP(e:DS f (gL (aY (x.length+y.length) big)<|.str<|x++y)=U r):oT W f (.str x) (.str y) r:=by obtain⟨rfl,e⟩:=A9 e;obtain⟨q,rfl⟩:=cN e;intro A E s k Q a b l st g i j h;refine dQ (i) λ_ c=> ?_;obtain rfl:=c;refine dQ (j) λ_ d=> ?_;obtain rfl:=d;with_reducible exact El st q h
def WQ(e:DR f (gL (aY x.length 1024&&aY n.natAbs 1024)<|.str<|tT n x)=U r):oT W f (.str x) (.int n) r:=by obtain⟨rfl,e⟩:=A8 e;obtain⟨q,rfl⟩:=cN e;intro A E s k Q a b l st g i j h;refine dQ (i) λ_ c=> ?_;obtain rfl:=c;refine dQ (j) λ_ d=> ?_;obtain rfl:=d;with_reducible exact Ek st q h
def WR(e:DS d (gL (aY (x.length+y.length) big)<|.lst<|x++y)=U r):oT W d (.lst x) (.lst y) r:=by refine jG (A9 e) λa e=> ?_;obtain rfl:=a;refine jG (cN e) λq b=> ?_;obtain rfl:=b;exact λi st c f g h=>Eo st c q f g h
def WS(e:DR f (gL (aY x.length 1024&&aY n.natAbs 1024)<|.lst<|tT n x)=U r):oT W f (.lst x) (.int n) r:=by obtain⟨rfl,e⟩:=A8 e;obtain⟨q,rfl⟩:=cN e;intro A E s j Q a b k st d g i h;refine dQ (i) λ_ c=> ?_;obtain rfl:=c;with_reducible exact En st d q g h
def Qn:binop c x y=U r->oT W c x y r:=by
 induction x using PV.casesOn with
 |int a=>induction y using PV.casesOn with
  |int b=>exact Vd
  |fw b=>exact Ve
  |_=>exact nd
 |fw a=>induction y using PV.casesOn with
  |fw b=>exact Vg
  |int b=>exact Vf
  |_=>exact nd
 |str a=>induction y using PV.casesOn with
  |str b=>exact WP
  |int b=>exact WQ
  |_=>exact nd
 |lst a=>induction y using PV.casesOn with
  |lst b=>exact WR
  |int b=>exact WS
  |_=>exact nd
 |_=>exact nd
def BY(d:A.handled=ag)(st:St W s)(c:∀a,av a->a<s.heap.objs.size)(e:binop f x y=U r) (g:bf W av s.heap x a) (i:bf W av s.heap y b) (h:jm W av s r Q):aL (aQ W.prog W.w) A (wO f a b) Q E s:=Qn e d st c g i h
end
mutual
noncomputable def toPy:PV->PyData
 | .none=> .none
 | .bool b=> .bool b
 | .int i=> .int i
 | .str l=> .str ⟨l.toArray⟩
 | .lst xs=> .list<|qS xs
 | .tup xs=> .tuple<|qS xs
 | .fw _=> .none
 | .sJ _=> .none
 | .AN _ _ _=> .none
 | .pat _=> .none
noncomputable def qS:aj PV->aj PyData
 |[]=>[]
 |x::xs=>toPy x::qS xs
end
noncomputable def kindB:PV->aB
 | .fw _=>af
 | .sJ _=>af
 | .AN _ _ _=>af
 | .pat _=>af
 |_=>ah
def tV(h:fv n p=ah):kindB p=ah:=by induction n using cg<;>induction p using PV.casesOn<;>first|rfl|exact ff h
section
variable {W:Wd} {f:aX->Prop} {h:fX}
def w4{c}:∀{vs},ba W f h c vs->(∀x∈c,∀v,bf W f h x v->∃as,Reads h v (toPy x) as)->∃as,ReadsAll h vs (qS c) as:=by
 induction c with
 |nil=>intro _ r _;obtain rfl:=r;exact⟨[],.nil⟩
 |cons x c d=>intro _ r k;obtain⟨v,l,rfl,a,b⟩:=r;obtain⟨as,e⟩:=k x (.head _) v a;obtain⟨g,i⟩:=d b λy j=>k y<|.tail _ j;exact⟨as++g,.cons e i⟩
def Rd(W:Wd)(f:aX->Prop)(h:fX)(p:PV):Prop:=∀v,bf W f h p v->∃as,Reads h v (toPy p) as
def LW(a:plain0 p=ah):Rd W f h p:=by
 induction p using PV.casesOn with
 |none=>intro v r;obtain rfl:=r;exact⟨_,.none⟩
 |bool b=>intro v r;obtain rfl:=r;exact⟨_,.bool _⟩
 |int i=>intro v r;obtain⟨t,rfl⟩:=r;exact⟨_,.int _ _⟩
 |str l=>intro v r;obtain⟨t,rfl⟩:=r;exact⟨_,.str _ _⟩
 |_=>exact ff a
def IZ:∀(n) {p},fv n p=ah->Rd W f h p:=by
 intro n;induction n with
 |zero=>exact LW
 |succ n m=>
  intro p b;induction p using PV.casesOn with
  |tup q=>rintro v ⟨a,vs,rfl,_,⟨o,e,c,k,d⟩,g⟩;obtain⟨as,i⟩:=w4 g λx j v l=>m (a_.mp b x j) v l;exact⟨_,.tuple e c d<|by simpa using i⟩
  |lst q=>rintro v ⟨a,vs,rfl,_,⟨k,e⟩,g⟩;obtain⟨as,i⟩:=w4 g λx j v l=>m (a_.mp b x j) v l;exact⟨_,.list e J J<|by simpa using i⟩
  |_=>exact LW b
def pP(n)(a:fv n p=ah)(r:bf W f h p v):∃as,Reads h v (toPy p) as:=IZ n a v r
end
def Lj{l:aj Y}(h:(l.all λc=>fy c 55296)=ah):p9 (.str ⟨l.toArray⟩)=ah:=by
 have:Un ⟨l.toArray⟩=ah:=by unfold Un;rw[Array.all_eq_true'];intro x a;have:=a_.mp h x (by simpa using a);have:=aD this;simp;exact ab this<|dcd J
 simpa [p9]using this
def vd{c}:(∀x∈c,p9 (toPy x)=ah/\(toPy x).depth<=n)->PyData.canLayAll0 (qS c)=ah/\PyData.depthAll (qS c)<=n:=by
 induction c with
 |nil=>intro _;exact⟨J,db _⟩
 |cons x c d=>intro k;have a:=k x<|.head _;have b:=d λy e=>k y<|.tail _ e;exact⟨f6.mpr ⟨a.1,b.1⟩,CJ.mpr ⟨a.2,b.2⟩⟩
def Shp(n:Y)(p:PV):Prop:=p9 (toPy p)=ah/\(toPy p).depth<=n
def Lz(a:plain0 p=ah):Shp n p:=by
 induction p using PV.casesOn with
 |none=>exact⟨J,db _⟩
 |bool b=>exact⟨J,db _⟩
 |int i=>exact⟨J,db _⟩
 |str l=>exact⟨Lj a,db _⟩
 |_=>exact ff a
def uK:∀(n) {p},fv n p=ah->Shp n p:=by
 intro n;induction n with
 |zero=>exact Lz
 |succ n c=>
  intro p a;induction p using PV.casesOn with
  |tup d=>have:=vd λx b=>c<|a_.mp a x b;exact⟨this.1,cL this.2⟩
  |lst d=>have:=vd λx b=>c<|a_.mp a x b;exact⟨this.1,cL this.2⟩
  |_=>exact Lz a
def sr(a:n<=64)(b:fv n p=ah):SeqAt.shaped (toPy p)=ah:=by have:=uK n b;unfold SeqAt.shaped;simp only[i_,rt];exact⟨this.1,ab this.2 a⟩
def li{a}:∀{b},fT a b=ah<->a=b:=by
 induction a with
 |nil=>
  intro b;cases b with
  |nil=>exact⟨λ_=>rfl,λ_=>rfl⟩
  |cons=>exact⟨λh=>ff h,nofun⟩
 |cons x a c=>
  intro b;cases b with
  |nil=>exact⟨λh=>ff h,nofun⟩
  |cons y b=>
   show(match aF x y with|true=>fT a b|false=>af)=ah<->_;generalize h:aF x y=o;cases o with
   |true=>exact⟨λe=>rS (aJ h) <| az _<|c.mp e,λe=>c.mpr (dM e).2⟩
   |false=>exact⟨λe=>ff e,λe=>bI (dM e).1<|GS h⟩
def MV:fT a b=(Str.mk a.toArray==Str.mk b.toArray):=by rw[kY,li,eR];simp
def Bf(d:plain0 a=ah)(e:fv n b=ah):oC a b=qZ (toPy a) (toPy b):=by
 have c:=tV e;induction a using PV.casesOn with
 |none=>induction b using PV.casesOn<;>first|rfl|exact ff c
 |bool _=>induction b using PV.casesOn<;>first|rfl|exact ff c
 |int _=>induction b using PV.casesOn<;>first|rfl|exact ff c
 |str l=>induction b using PV.casesOn with
  |str m=>exact MV
  |_=>first|rfl|exact ff c
 |_=>exact ff d
mutual
theorem yb:∀(n) (a b),fv n a=ah->fv n b=ah->oC a b=qZ (toPy a) (toPy b)
 |0,a,b,ha,hb=>Bf ha hb
 |n+1,a,b,ha,hb=>by
  induction a using PV.casesOn with
  |lst xs=>have hk:=tV hb;induction b using PV.casesOn with
   |lst ys=>exact y3 n xs ys ha hb
   |_=>first|rfl|exact ff hk
  |tup xs=>have hk:=tV hb;induction b using PV.casesOn with
   |tup ys=>exact y3 n xs ys ha hb
   |_=>first|rfl|exact ff hk
  |_=>exact Bf ha hb
theorem y3:∀(n) (a b),(a.all<|fv n)=ah->(b.all<|fv n)=ah->y4 a b=SH (qS a) (qS b)
 |_,[],[],_,_=>rfl
 |_,[],_::_,_,_=>rfl
 |_,_::_,[],_,_=>rfl
 |n,x::xs,y::ys,ha,hb=>by have ha:=n2 ha;have hb:=n2 hb;have h1:=yb n x y ha.1 hb.1;have h2:=y3 n xs ys ha.2 hb.2;show(match oC x y with|true=>y4 xs ys|false=>af)=(qZ (toPy x) (toPy y)&&SH (qS xs) (qS ys));refine rS h1<|rS h2 ?_;cases oC x y<;>rfl
end
abbrev Ou(W:Wd)(s:aw)(r:aB)(Q:aB->aw->Prop):Prop:=∀a,Nx W s a->Q r a
def Ui(W:Wd)(x:PV)(r:aB):Prop:=∀{A:cZ} {E:aA->aw->Prop} {s:aw} {b:aX->Prop} {Q:aB->aw->Prop} {a:aA},St W s->bf W b s.heap x a->Ou W s r Q->aL (aQ W.prog W.w) A (truthy a) Q E s
def PD{l}(e:gL (aY l.length big) (!l.isEmpty)=U r):Ui W (.lst l) r:=by
 obtain⟨q,rfl⟩:=cN e;intro A E s i Q a st c h;obtain⟨j,vs,rfl,_,d,f⟩:=c;have g:=aD q;have b:=f.length
 have:(!vs.toArray.isEmpty)= !l.isEmpty:=by
  induction l using aE with
  |nil=>induction vs using aE with|nil=>rfl|cons _ _=>simp at b
  |cons _ _=>induction vs using aE with|nil=>simp at b|cons _ _=>rfl
 refine wpAny_truthy_list d.isList (rP aO <| cQ 0x300131000005f9118000000000000000ff875 g b) ?_;exact rP this <| h _<|.of_keeps st λ_ _ e=>e
def I9{x}:truth x=U r->Ui W x r:=by
 induction x using PV.casesOn with
 |bool b=>intro e A E s d Q a st c h;obtain rfl:=sm e;obtain rfl:=c;exact gI<|h _<|.refl st
 |int i=>intro e A E s d Q a st c h;obtain rfl:=sm e;obtain⟨t,rfl⟩:=c;with_reducible refine truthy_int ?_;exact h _<|.refl st
 |lst l=>exact PD
 |_=>exact nd
def yF{x}{r}(st:St W s)(e:truth x=U r)(b:bf W c s.heap x a)(h:Ou W s r Q):aL (aQ W.prog W.w) A (truthy a) Q E s:=I9 e st b h
def xW(o):(o==U Ordering.lt)=MQ o:=by induction o using bX with|none=>rfl|some x=>cases x<;>rfl
def HP(o):(o==U Ordering.gt)=VY o:=by induction o using bX with|none=>rfl|some x=>cases x<;>rfl
def u_(o):(o==U Ordering.eq)=H4 o:=by induction o using bX with|none=>rfl|some x=>cases x<;>rfl
def WM{a b}(h:∀c∈a,c<256)(i:∀c∈b,c<256):((a.map bT).toArray.toList==(b.map bT).toArray.toList)=fT a b:=by
 rw[kY,li,eR];constructor
 ·intro q
  have d:∀(a b:aj Y),(∀c∈a,c<256)->(∀c∈b,c<256)->a.map bT=b.map bT->a=b:=by
   intro a;induction a with
   |nil=>intro b _ _ q;induction b using aE with|nil=>rfl|cons _ _=>cases q
   |cons x o j=>
    intro b f g q;induction b using aE with
    |nil=>cases q
    |cons z k=>
     simp only[fR,List.cons.injEq]at q
     have l:x=z:=by have m:=f x<|.head _;have n:=g z<|.head _;have:=az UInt8.toNat q.1;simp only[Nat.toUInt8_eq,UInt8.toNat_ofNat']at this;exact(kv m).symm.trans<|this.trans<|kv n
     exact rP l<|rP (j k (λc e=>f c<|.tail _ e) (λc e=>g c<|.tail _ e) q.2) J
  exact d _ _ h i<|by simpa using q
 ·intro q;exact rP q J
def lL(W:Wd)(e:jh)(x y:PV)(r:aB):Prop:=∀{A:cZ} {E:aA->aw->Prop} {s:aw} {c:aX->Prop} {Q:aA->aw->Prop} {a b:aA} {n:Y},Rm n A->St W s-> bf W c s.heap x a->bf W c s.heap y b->(∀d,Nx W s d->Q (.bool r) d)->aL (aQ W.prog W.w) A (aaB e a b) Q E s
def Sz(W:Wd)(a:jh)(u v:pq->aA)(r:aB):Prop:=∀{A:cZ} {E:aA->aw->Prop} {s:aw} {Q:aA->aw->Prop} {t b:pq},Q (.bool r) s->aL (aQ W.prog W.w) A (aaB a (u t)<|v b) Q E s
def cII{a b:Z}(h:Sz W c (.int a) (.int b) r):lL W c (.int a) (.int b) r:=λ{A E s f Q u v n} _ st d e w=>by obtain⟨t,rfl⟩:=d;obtain⟨g,rfl⟩:=e;exact h<|w _<|.refl st
def cFF{c:jh}{r:aB}(h:Sz W c (.float a) (.float b) r):lL W c (.fw a) (.fw b) r:=λ{A E s f Q u v n} _ st d e w=>by obtain⟨t,rfl⟩:=d;obtain⟨g,rfl⟩:=e;exact h<|w _<|.refl st
def cFI{a:cR}{r:aB}(h:Sz W c (.float a) (.int b) r):lL W c (.fw a) (.int b) r:=λ{A E s f Q u v n} _ st d e w=>by obtain⟨t,rfl⟩:=d;obtain⟨g,rfl⟩:=e;exact h<|w _<|.refl st
def cIF{a:Z}{r:aB}(h:Sz W c (.int a) (.float b) r):lL W c (.int a) (.fw b) r:=λ{A E s f Q u v n} _ st d e w=>by obtain⟨t,rfl⟩:=d;obtain⟨g,rfl⟩:=e;exact h<|w _<|.refl st
def NS{r}(e:ZP x y=U r):lL W .Eq x y r:=by obtain⟨q,rfl⟩:=cN e;intro A E s j Q a b n c st d f h;obtain⟨as,g⟩:=pP 6 (n2 q).1 d;obtain⟨k,i⟩:=pP 6 (n2 q).2 f;refine eq_dataH g i (sr (dcd J) (n2 q).1) (sr (dcd J) (n2 q).2) (by have:=c.units;exact d9 0x12582f92ac0aa21401f90a2 this) ?_;exact rS (yb 6 _ _ (n2 q).1 (n2 q).2) <| h _<|.refl st
def VA{r}(e:ZP x y=U r):lL W .NotEq x y<|!r:=by obtain⟨q,rfl⟩:=cN e;intro A E s j Q a b n c st d f h;obtain⟨as,g⟩:=pP 6 (n2 q).1 d;obtain⟨k,i⟩:=pP 6 (n2 q).2 f;refine ne_dataH g i (sr (dcd J) (n2 q).1) (sr (dcd J) (n2 q).2) (by have:=c.units;exact d9 0x12582f92ac0aa21401f90a2 this) ?_;exact rS (yb 6 _ _ (n2 q).1 (n2 q).2) <| h _<|.refl st
def VB{y}:eqB x y=U r->lL W .NotEq (.sJ x) y (!r):=by
 induction y using PV.casesOn with
 |sJ y=>intro e A E s i Q a b n j st c d h;obtain rfl:=sm e;obtain⟨_,rfl,f⟩:=c;obtain⟨_,rfl,g⟩:=d;refine ne_bytes ?_;unfold bne;exact rP ((WM f g)) <| h _<|.refl st
 |_=>exact nd
def YX{x y:PV}:T' x y=U r->lL W .Eq x y r:=by
 induction x using PV.casesOn with
 |fw a=>induction y using PV.casesOn with
  |fw b=>exact λe=>rS (sm e) <| cFF λh=>AutoFloatOps.eq_0<|rP (u_ ..) h
  |_=>exact nd
 |int a=>induction y using PV.casesOn with
  |fw b=>exact λe=>rS (sm e) <| cIF λh=>eq_if<|rP (u_ ..) h
  |_=>exact NS
 |_=>exact NS
def YS{x y}:T4 x y=U r->lL W .NotEq x y (!r):=by
 induction x using PV.casesOn with
 |sJ a=>exact VB
 |_=>exact VA
def YT{x y:PV}:T5 x y=U r->lL W .Lt x y r:=by
 induction x using PV.casesOn with
 |fw a=>induction y using PV.casesOn with
  |fw b=>exact λe=>rS (sm e) <| cFF λh=>AutoFloatOps.lt_0<|rP (xW ..) h
  |_=>exact nd
 |int a=>induction y using PV.casesOn with
  |int b=>exact λe=>rS (sm e) <| cII λh=>lt_int h
  |_=>exact nd
 |_=>exact nd
def YU{x y:PV}:T8 x y=U r->lL W .LtE x y r:=by
 induction x using PV.casesOn with
 |fw a=>induction y using PV.casesOn with
  |fw b=>exact λe=>rS (sm e) <| cFF λh=>AutoFloatOps.le_0<|rP (xW ..) <| rP (u_ ..) h
  |int b=>exact λe=>rS (sm e) <| cFI λh=>le_fi<|rP (xW ..) <| rP (u_ ..) h
  |_=>exact nd
 |int a=>induction y using PV.casesOn with
  |int b=>exact λe=>rS (sm e) <| cII λh=>le_int h
  |fw b=>exact λe=>rS (sm e) <| cIF λh=>le_if<|rP (HP ..) <| rP (u_ ..) h
  |_=>exact nd
 |_=>exact nd
def M5{x}(d:∀{W} {c:aX->Prop} {h} {a},bf W c h x a->(a==im)=b)(e:U b=U r):lL W .Is x .none r:=by intro A E s c Q u v n i st f g h;obtain rfl:=sm e;obtain rfl:=g;refine abg ?_;exact rP (d f) <| h _<|.refl st
def kN{W}{h}(r:bf W b h .none a):(a==im)=ah:=by obtain rfl:=r;rfl
def kI{W}{h}{i}(r:bf W b h (.int i) a):(a==im)=af:=by obtain⟨t,rfl⟩:=r;rfl
def YV{r}:T9 x y=U r->lL W .Is x y r:=by
 induction y using PV.casesOn with
 |none=>induction x using PV.casesOn with
  |none=>exact M5 kN
  |int i=>exact M5 kI
  |_=>exact nd
 |_=>exact nd
def Me{r}:N7 x y=U r->lL W .IsNot x y (!r):=by
 induction y using PV.casesOn with
 |bool b=>induction x using PV.casesOn with
  |bool a=>intro e A E s f Q u v n g st c d h;obtain rfl:=sm e;obtain rfl:=c;obtain rfl:=d;refine isnot_bool ?_;exact h _<|.refl st
  |_=>exact nd
 |_=>exact nd
def IF(d:PV)(n m:Y)(c:fv n d=ah)(a:aj PV):a.all (fv n)=ah->(a.any λy=>oC y d)=((qS a).any λy=>qZ y<|toPy d):=by
 induction a with
 |nil=>intro _;exact J
 |cons y a e=>intro b;simp only[Xz,i_]at b;show(oC y d||a.any λy=>oC y d)=(qZ (toPy y) (toPy d)||(qS a).any λy=>qZ y<|toPy d);exact rP (e b.2)<|rP (yb n y d b.1 c) J
def PU{l:aj Y}:(!(ux (⟨l.toArray⟩:a7) ⟨[c].toArray⟩ 0 (⟨l.toArray⟩:a7).length 1).isEmpty)=l.any λd=>aF c d:=by
 have:=StrLaws.found_one (⟨l.toArray⟩:a7) c;refine this.trans ?_;rw[kY,rt,q9];constructor
 ·intro q;exact⟨c,by simpa using q,kw c⟩
 ·rintro ⟨d,a,e⟩;refine rP (aJ e) ?_;simpa using a
def Mb{x y:PV}:T3 x y=U r->lL W .NotIn x y (!r):=by
 induction y using PV.casesOn with
 |str j=>induction x using PV.casesOn with
  |str l=>
   intro e
   obtain⟨c,d,f⟩:=ER e
   obtain rfl:=Mi d
   obtain rfl:=sm f
   intro A E s k Q a b n m st g i h
   obtain⟨_,rfl⟩:=g;obtain⟨_,rfl⟩:=i
   refine PySem.P.notIn_str ?_
   exact rP PU <| h _<|.refl st
  |_=>exact nd
 |_=>exact nd
def YW{x y:PV}:T_ x y=U r->lL W .In x y r:=by
 induction y using PV.casesOn with
 |lst k=>intro e;obtain⟨q,rfl⟩:=cN e;have q:=n2 q;intro A E s l Q a b n c st d f h;obtain⟨as,g⟩:=pP 5 q.1 d;obtain⟨m,i⟩:=pP 6 q.2 f;have j:=q.2;rw[IF _ 5 5 q.1 _ j]at h;exact PySem.SeqAt.in_list_reads i g (uK 6 q.2).1 (uK 5 q.1).1 (bi (c_ (ab (zM _ _)<|(uK 5 q.1).2) _)<|d9 0x12582f92ac0aa21590ba2 c.units)<|h _<|.refl st
 |_=>exact nd
def DP{c:Type}{x y}{f:Z->Z->c}{r:c}{M:PV->PV->Prop}(h:∀a b,f a b=r->M (.int a) (.int b)):QS x y f=U r->M x y:=by
 induction x using PV.casesOn with
 |int a=>induction y using PV.casesOn with
  |int b=>exact λe=>h a b<|sm e
  |_=>exact nd
 |_=>exact nd
def Ql{f:jh}{x y:PV}{r:aB}(e:i4 f x y=U r):lL W f x y r:=by
 induction f using PySem.CmpOp.casesOn;case Eq=>exact YX e
 case NotEq=>obtain⟨z,c,d⟩:=ER e;exact rS (sm d) <| YS c
 case Lt=>exact YT e
 case LtE=>exact YU e
 case Gt=>exact DP (M:=λx y=>lL W .Gt x y r) (λa b e=>by obtain rfl:=e;exact cII λh=>gt_int h) e
 case GtE=>exact nd e
 case Is=>exact YV e
 case IsNot=>obtain⟨z,c,d⟩:=ER e;exact rS (sm d) <| Me c
 case In=>exact YW e
 case NotIn=>obtain⟨z,c,d⟩:=ER e;exact rS (sm d) <| Mb c
def BX{x y}{r}(d:Rm n A)(st:St W s)(e:i4 f x y=U r)(g:bf W i s.heap x a)(j:bf W i s.heap y b) (h:∀c,Nx W s c->Q (.bool r) c):aL (aQ W.prog W.w) A (aaB f a b) Q E s:=Ql e d st g j h
def acD(W:Wd)(c:OS)(x r:PV):Prop:=∀{A:cZ} {E:aA->aw->Prop} {s:aw} {b:aX->Prop} {Q:aA->aw->Prop} {a:aA},St W s->bf W b s.heap x a->jm W b s r Q->aL (aQ W.prog W.w) A (unaryOp c a) Q E s
def Vq{d}:unop d x=U r->acD W d x r:=by
 induction d using PySem.UnaryOp.casesOn
 case Not=>
  intro e
  obtain⟨b,g,j⟩:=ER e
  obtain rfl:=sm j
  intro A E s f Q a st c h
  with_reducible refine not_of ?_
  with_reducible refine yF st g c ?_
  exact λk n=>h _ _ n vB nofun
 case UAdd=>exact nd
 case USub=>induction x using PV.casesOn with
  |int i=>intro e A E s f Q a st c h;obtain rfl:=sm e;obtain⟨_,rfl⟩:=c;refine abf ?_;exact Bx st h λ_ _ e=>e
  |_=>exact nd
 case Invert=>induction x using PV.casesOn with
  |int i=>intro e A E s f Q a st c h;obtain rfl:=sm e;obtain⟨_,rfl⟩:=c;refine abh ?_;exact Bx st h λ_ _ e=>e
  |_=>exact nd
def YR{b}{a}(st:St W s)(e:unop b x=U r)(c:bf W d s.heap x a)(h:jm W d s r Q):aL (aQ W.prog W.w) A (unaryOp b a) Q E s:=Vq e st c h
def yX{h:fX}{n:Y}(a:h.objs.size<=n):h.get? n=ag:=by
 cases q:h.get? n with
 |none=>rfl
 |some o=>exact bI (dY q)<|fM.mpr a
def uJ(h:fX)(o:Uo):h.objs.size<=(h.push o).objs.size:=by exact rP (lO ..) <| iK _
def tR(h:lV i=ah): -1152921504606846976<i/\i<1152921504606846976:=by have:i.natAbs<1152921504606846976:=aD h;exact f7 0x188a901000000000000000ff90200b1000000000000000ff80501000000000000000ff8b58 (by rfl) this
def LK(h:j7 i n=U j):(0<=i/\i<n/\j=i.toNat)\/(i<0/\0<=i+n/\j=(i+n).toNat):=by
 have h:gL (decide (0<=(if i<0 then i+n else i))&&decide ((if i<0 then i+n else i)<n)) ((if i<0 then i+n else i).toNat)=U j:=by refine rS h ?_;delta j7 gL;dsimp only;split<;>simp_all
 refine jG (cN h) λq a=> ?_;obtain rfl:=a;have b:=aq (n2 q).1;have c:=aq (n2 q).2;split at b<;>rename_i d
 ·rw[bM d]at c⊢;exact .inr ⟨d,b,J⟩
 ·rw[bA d]at c⊢;exact .inl ⟨b,c,J⟩
set_option tactic.hygienic true in
def lT(a)(o i):∃b,subscripted a af o i=operate b (getItem o i):=by
 induction a using nA<;>first
  |exact⟨_,J⟩
  |(rename_i st _;induction st using bX<;>exact⟨_,J⟩)
def Ov(W:Wd)(x y r:PV):Prop:=∀{A:cZ} {E:aA->aw->Prop} {s:aw} {c:aX->Prop} {Q:aA->aw->Prop} {a b:aA},St W s->bf W c s.heap x a->bf W c s.heap y b-> (∀e d,Nx W s d->bf W c d.heap r e->Q e d)->aL (aQ W.prog W.w) A (getItem a b) Q E s/\∃T id,s.TypeIs a T/\Xe (.type T) "__getitem__"=gZ (U<|.builtin id)
def PS(e:wl (lV i) ((j7 i k.length).bind λj=>k[j]?)=U r):Ov W (.lst k) (.int i) r:=by
 obtain⟨q,e⟩:=n8 e;obtain⟨j,x,y⟩:=ER e;have m:=tR q;intro A E s D Q a b st z B h;refine rc (z) λl vs c _ f n=> ?_;obtain rfl:=c;refine dQ (B) λt d=> ?_;obtain rfl:=d;refine cm (n.get y) λv o u=> ?_;have l1:=n.length;refine⟨?_,"list",_,f.isList.typeIs,XU.lookup⟩;rcases LK x with⟨g,w,rfl⟩|⟨g,w,rfl⟩
 ·exact wpAny_getItem_list f.isList g (ft m.2<|dcd J) (by simpa using o)<|h _ _ (.refl st) u
 ·exact wpAny_getItem_list_neg f.isList g (rP aO <| v_ 0xf095401307b4 l1 w) (ft (dcd J) m.1) (by refine rP aO<|rS l1 ?_;simpa using o)<|h _ _ (.refl st) u
def PN(e:wl (lV i) ((j7 i k.length).bind λj=>k[j]?)=U r):Ov W (.tup k) (.int i) r:=by obtain⟨q,e⟩:=n8 e;obtain⟨j,y,z⟩:=ER e;have m:=tR q;intro A E s O Q a b st B D h;refine rc (B) λl vs c _ d u=> ?_;obtain rfl:=c;refine pM (d) λo w x f=> ?_;obtain⟨n,H⟩:=f;refine dQ (D) λt g=> ?_;obtain rfl:=g;refine cm (u.get z) λv I L=> ?_;have M:IsTup s.heap l vs.toArray:=⟨o,w,x,n,H⟩;exact⟨abi M (ft (dcd J) m.1) (ft m.2<|dcd J) (rP aO <| rS u.length y) (by simpa using I)<|h _ _ (.refl st) L,"tuple",_,⟨_,w,x⟩,F.slot_tuple_getitem.lookup⟩
def Mc:mH x y=U r->Ov W x y r:=by
 induction x using PV.casesOn with
 |lst a=>induction y using PV.casesOn with|int i=>exact PS|_=>exact nd
 |tup a=>induction y using PV.casesOn with|int i=>exact PN|_=>exact nd
 |_=>exact nd
def L'(v:Rm n A)(st:St W s)(e:mH x y=U r)(k:bf W i s.heap x a)(l:bf W i s.heap y b) (h:∀j f,Nx W s f->bf W i f.heap r j->Q j f):aL (aQ W.prog W.w) A (Kc g d a b) Q E s:=by refine jG (Mc (E:=E) (A:=A) e st k l h) λm c=> ?_;refine oV (c) λT id o q=> ?_;refine dQ (lT d a b) λt u=> ?_;exact tail_any o q m u
def zu(W:Wd)(a:aX->Prop)(h:fX):au PV->aA->Prop
 |none,v=>v= .none
 |some p,v=>bf W a h p v
def Oy(v:aA)(i:au Z):Prop:=IsPart v i/\∃t:au<|Z × pq,t.map (·.1)=i/\partValue t=v
def Hq(e:part o=U i)(r:zu W b h o v):Oy v i:=by
 induction o using bX with
 |none=>obtain rfl:=sm e;obtain rfl:=r;exact⟨.none,ag,J,J⟩
 |some x=>induction x using PV.casesOn with
  |int n=>obtain rfl:=sm e;refine dQ (r) λt a=> ?_;obtain rfl:=a;exact⟨.int _ _,U (_,t),J,J⟩
  |_=>exact nd e
def BA(l)(lo a):Txt.slice ⟨l.toArray⟩ lo a=⟨(cut l lo a).toArray⟩:=by
 have this:mY lo a 1 l.length=sliceRange ((lo.elim 0 (d_ l.length):Y):Z) ((a.elim l.length (d_ l.length):Y):Z) 1:=by delta mY;induction lo using bX<;>induction a using bX<;>simp[clipAt_cast]
 have b:(mY lo a 1 l.length).filterMap (l.toArray[·]?)=cut l lo a:=by exact rP (this ..) <| rP (acR ..) <| rP (pick_run ..) J
 delta Txt.slice;have f:(⟨l.toArray⟩:a7).length=l.length:=aO ..;refine rP (f ..) ?_;split
 ·rename_i q;simp only[cH,Bool.true_and,eR]at q
  have g:cut l lo a=l:=by
   rw[this,acR]at q;delta cut;rw[aG,fh]at q
   have c:a.elim l.length (d_ l.length)<=l.length:=by
    induction a using bX with
    |none=>exact aZ _
    |some i=>exact dz.mp<|rP (Option.elim_some ..) <| rP (clipAt_cast ..) <| Int.max_le.mpr ⟨aK _,SZ ..⟩
   generalize lo.elim 0 (d_ l.length)=x at q;generalize a.elim l.length (d_ l.length)=y at q c;by_cases e:l.length=0
   ·have:=q8.mp e;subst this;simp
   ·have h:x=0:=gr 0x7e37ab89398c38a03213137337021a703 (by rfl) e q c;have d:y=l.length:=gr 0x937c990101123302a103 (by rfl) q c;refine rP (h ..)<|rP (d ..) ?_;simp
  exact rP (g ..) J
 ·exact rS (b ..) J
theorem ba.cut(r:ba W b h p v)(lo a):ba W b h (cut p lo a)<|cut v lo a:=by delta cut;exact rP r.length <| (r.drop _).take _
def Ow(W:Wd)(l u:au Z)(x r:PV):Prop:=∀{A:cZ} {E:aA->aw->Prop} {s:aw} {e:aX->Prop} {Q:aA->aw->Prop} {b d:Expr} {a h i:aA},St W s->(∀a,e a->a<s.heap.objs.size)->bf W e s.heap x a->Oy h l->Oy i u->
 (∀f g,Nx W s g->bf W e g.heap r f->(∀c,f= .ref c->s.heap.get? c=ag)->Q f g)->
 aL (aQ W.prog W.w) A (Kc b d a<|.ref s.heap.objs.size) Q E {s with heap:=s.heap.push {cls:= .type "slice",data:= .fields #[h,i,.none]}}
def PZ{l u:au Z}{r:PV}(e:gL (aY n.length big) (.lst<|cut n l u)=U r):Ow W l u (.lst n) r:=by obtain⟨q,rfl⟩:=cN e;have B:n.length<=1048576:=aD q;intro A E s av Q o f a v w st t D rl H h;refine rc (D) λm vs b hm I x=> ?_;obtain rfl:=b;refine dQ (lT f (.ref m)<|.ref s.heap.objs.size) λL M=> ?_;have g:Nx W s {s with heap:=s.heap.push {cls:= .type "slice",data:= .fields #[v,w,.none]}}:=(Nx.refl st).push _;have j:(s.heap.push {cls:= .type "slice",data:= .fields #[v,w,.none]}).IsList m vs.toArray:=(fV g st I).isList;have l1:=x.length;refine tail_any j.typeIs XU.lookup (wpAny_getItem_list_slice j (Heap.IsSliceOf.new ..) rl.1 H.1 .none (by simp) ?_<|rP (aO ..) <| rP (cS ..) <| cQ 0x300131000005f91110000006f901 B l1) M;refine rP (slicePick_plain ..)<|rP (aO ..) ?_;have k:=g.push {cls:= .type "list",data:= .seq (cut vs l u).toArray};refine h _ _ k (vL (λz=>e_ _<|aV (t _ z)<|uJ _ _) ⟨0,bQ _ J⟩<|(x.cut l u).nx k st) λc O=> ?_;cases O;exact yX<|uJ _ _
def PY(e:gL (aY i.length big) (.str<|cut i l u)=U r):Ow W l u (.str i) r:=by obtain⟨q,rfl⟩:=cN e;have v:i.length<=1048576:=aD q;intro A E s M Q j g a O vh st w x rl y h;refine dQ (x) λt c=> ?_;obtain rfl:=c;refine jG (rl) λ_ d=> ?_;refine cm (d) λz B m=> ?_;refine jG (y) λ_ f=> ?_;refine cm (f) λD H n=> ?_;refine dQ (lT g (.str ⟨i.toArray⟩ t)<|.ref s.heap.objs.size) λI L=> ?_;refine tail_any (oh _ _ _) F.slot_str_getitem.lookup (wpAny_getItem_str_slice (l:=z) (u:=D) (st:=ag) ⟨_,bQ _ J,J,by exact rP m <| rP n J⟩ J ?_) L;delta sliceMade slicePicked;refine rP B<|rP H ?_;refine post_val_or_str ⟨?_,λt' k=>h _ _ ((Nx.refl st).keeps λb o e=>bu _ e) (vS'<|BA _ _ _) nofun⟩;refine ab (Txt.slice_le _ l u) ?_;show(EV i).size<=_;exact rP aO <| rP cS <| ab v<|dcd J
def Qk:Ly l u x=U r->Ow W l u x r:=by
 induction x using PV.casesOn with
 |lst a=>exact PZ
 |str a=>exact PY
 |_=>exact nd
def Ma{lo k}{a m o}{n}(L:Rm n A)(st:St W s)(d:∀a,b a->a<s.heap.objs.size)(e:oW x lo k=U r)(v:bf W b s.heap x a)
  (rl:zu W b s.heap lo m) (y:zu W b s.heap k o)
  (h:∀f g,Nx W s g->bf W b g.heap r f->(∀c,f= .ref c->s.heap.get? c=ag)->Q f g):
  aL (aQ W.prog W.w) A (Kc i j a<|.ref s.heap.objs.size) Q E {s with heap:=s.heap.push {cls:= .type "slice",data:= .fields #[m,o,.none]}}:=by
 obtain⟨l,B,D⟩:=ER e;obtain⟨u,H,I⟩:=ER D;exact Qk I st d v (Hq B rl) (Hq H y) h
section
variable {W:Wd} {A:cZ} {s:aw}
def ba.of_get:∀{p:aj PV} {v:aj aA},p.length=v.length->(∀(i:Y) x y,p[i]? =U x->v[i]? =U y->bf W d h x y)->ba W d h p v:=by
 intro p;induction p with
 |nil=>
  intro c;cases c with
  |nil=>intro _ _;exact .nil
  |cons _ _=>intro l _;simp at l
 |cons x p e=>
  intro c;cases c with
  |nil=>intro l _;simp at l
  |cons y v=>intro l g;exact .cons (g 0 x y J J)<|e (by simpa using l) λi a b f j=>g (i+1) a b (by simpa using f)<|by simpa using j
def Jt{a}:∀{l},n7 a=U l->a=l.map .int:=by
 induction a with
 |nil=>intro l h;obtain rfl:=sm h;rfl
 |cons x a b=>
  intro l h
  induction x using PV.casesOn<;>first
   |exact gO (show(n7 a).bind _=U l from h) λm c d=>by exact rP (b c) <| rS (sm d) J
   |(exact nd h)
def xb{c}:∀{l} {vs},n7 c=U l->ba W m h c vs->∃d:aj<|Z × pq,vs=d.map (λp=>kf p.1 p.2)/\d.map (·.1)=l:=by
 induction c with
 |nil=>intro l vs e r;obtain rfl:=sm e;obtain rfl:=r;exact⟨[],J,J⟩
 |cons x c f=>
  intro l vs e r;obtain⟨v,g,rfl,a,b⟩:=r;induction x using PV.casesOn with
  |int i=>obtain⟨n,j,k⟩:=ER e;obtain rfl:=sm k;obtain⟨t,rfl⟩:=a;obtain⟨d,rfl,rfl⟩:=f j b;exact⟨(_,t)::d,J,J⟩
  |_=>exact nd e
def Ad(a:aj<|Z × pq):(a.map λp=>kf p.1 p.2).toArray=intItems a.toArray:=by delta intItems;simp
noncomputable def lK(a:aj<|cR × pq)(i:Y):cR:=(a[i]?.map (·.1)).getD 0
noncomputable def wv(a:aj<|cR × pq):aj aA:=a.map λp=> .float p.1 p.2
def l4{a:aj<|cR × pq}{v:aA}(h:(wv a)[i]? =U v):∃t,v= .float (lK a i) t:=(eJ.mp<|cb.symm.trans h).elim λp e=>⟨p.2,by delta lK;exact rP e.1 e.2.symm⟩
def RN{a:kX}{A:cZ}(b:aj<|cR × pq):CmpOf a w A .Gt (λi v=>(wv b).toArray[i]? =U v) λi j=>VY<|f8 (lK b i)<|lK b j:=λi j e f s Q E c d h=>by obtain⟨t,rfl⟩:=l4<|fQ.symm.trans c;obtain⟨u,rfl⟩:=l4<|fQ.symm.trans d;dsimp only at h;rw[<-HP]at h;exact XV (Aq s _ t) (Aq s _ u) F.slot_float_gt F.entry_float_gt (F.args_float_gt_2 _ _) (AutoFloatG4.float___gt___float_float_0 _ t _ u) (λx=>nomatch x) h
def Ie{a:kX}{A:cZ}(b:aj<|cR × pq):CmpOf a w A .Lt (λi v=>(wv b).toArray[i]? =U v) λi j=>MQ<|f8 (lK b i)<|lK b j:=λi j e f s Q E c d h=>by obtain⟨t,rfl⟩:=l4<|fQ.symm.trans c;obtain⟨u,rfl⟩:=l4<|fQ.symm.trans d;dsimp only at h;rw[<-xW]at h;exact XV (Aq s _ t) (Aq s _ u) F.slot_float_lt F.entry_float_lt (F.args_float_lt_2 _ _) (AutoFloatG5.float___lt___float_float_0 _ t _ u) (λx=>nomatch x) h
def vO{q:jh}{n:Y}{vs:aj aA}{x:cR}(y:A.handled=ag)(z:0<vs.length)
  (B:CmpOf W.prog W.w A.in1 q (λi v=>vs.toArray[i]? =U v) m) {R:aA->aw->Prop}
  (D:∀v h j,vs[Au m<|vs.length-1]? =U v->(∀b o,s.heap.get? b=U o->h.get? b=U o)->R v {s with heap:=h,toks:=j}):
  aL (aQ W.prog W.w) A.in1 (OQ<|.ref s.heap.objs.size) (λH a=>∃I r t n P St m,H= .ref I/\Walks W.prog W.w A.in1 I r t n P St/\St 0 a.heap/\(∀b∈r,b<a.heap.objs.size)/\0<n/\CmpOf W.prog W.w A.in1 q P m/\
   ∀v h j,P (Au m<|n-1) v->(∀b o,b∉t->a.heap.get? b=U o->h.get? b=U o)->R v {a with heap:=h,toks:=j}) E
   {s with heap:=s.heap.push {cls:= .type "tuple",data:= .seq vs.toArray}}:=by
 have u:(s.heap.push {cls:= .type "tuple",data:= .seq vs.toArray}).IsTuple s.heap.objs.size vs.toArray:=⟨_,bQ _ J,J,0,J⟩;have c:(s.heap.push {cls:= .type "tuple",data:= .seq vs.toArray}).objs.size=s.heap.objs.size+1:=lO ..;with_reducible refine wpAny_pyIter_tuple u ?_
 refine⟨_,[_,s.heap.objs.size],[_],_,_,_,_,J,Walks.tuple (A:=A.in1) y _ s.heap.objs.size (by exact rP (c ..) <| c6<|io _) vs.toArray,
  ⟨⟨_,bQ _ J,J,J⟩,u.push _⟩,λd hd=> ?_,by simpa using z,B,λv h j L M=> ?_⟩
 ·refine rP (lO ..)<|rP (c ..) ?_;rcases aR.mp hd with rfl|hd
  ·exact rP c <| io _
  ·rcases aR.mp hd with rfl|hd
   ·exact xF<|io _
   ·cases hd
 ·refine D v h j (by simpa using L) λd o e=> ?_;refine M d o (λhm=> ?_)<|bu _<|bu _ e;rcases aR.mp hm with O|hm
  ·have:=dY e;rw[O,c]at this;exact e_ _<|Nat.lt_of_succ_lt this
  ·cases hm
def KP{v}{a}(st:St W s)(h:jm W g s (.fw x) Q)(e:v= .float x t)(f:∀b o,s.heap.get? b=U o->a.get? b=U o):Q v {s with heap:=a,toks:=k}:=by subst e;exact KQ st h f
noncomputable def pk(q:au AA->aB)(a b:cR):cR:=match q (f8 b a)with|true=>b|false=>a
def Es{q:au AA->aB}{l:aj<|cR × pq}(k:Y):lK l (Au (λi j=>q<|f8 (lK l i)<|lK l j)<|k+1)=pk q (lK l<|Au (λi j=>q<|f8 (lK l i)<|lK l j) k) (lK l<|k+1):=by show lK l (ite (q (f8 (lK l<|k+1)<|lK l<|Au _ k)=ah) _<|Au _ k)=_;delta pk;generalize Au _ k=y;cases q (f8 (lK l<|k+1)<|lK l y)<;>rfl
def Oj{a b c:cR}{t u x:pq}(d:A.handled=ag)(st:St W s)(h:jm W i s (.fw<|fmax (fmax a b) c) Q):aL (aQ W.prog W.w) A (call (.builtin "max") [.float a t,.float b u,.float c x]) Q E s:=call_max_three (vO (n:=3) (x:=0) (vs:=wv [(a,t),(b,u),(c,x)]) d (fj _) (RN _) λv j k f g=>(l4 f).elim λy e=>KP st h (e.trans (az (yg · y) ((Es 1).trans (az (pk VY · c)<|Es 0)))) g)
def Oh{a b c:cR}{t u x:pq}(d:A.handled=ag)(st:St W s)(h:jm W i s (.fw<|fmin (fmin a b) c) Q):aL (aQ W.prog W.w) A (call (.builtin "min") [.float a t,.float b u,.float c x]) Q E s:=call_min_three (vO (n:=3) (x:=0) (vs:=wv [(a,t),(b,u),(c,x)]) d (fj _) (Ie _) λv j k f g=>(l4 f).elim λy e=>KP st h (e.trans (az (yg · y) ((Es 1).trans (az (pk MQ · c)<|Es 0)))) g)
def Oi{a b:cR}{t u:pq}(c:A.handled=ag)(st:St W s)(h:jm W g s (.fw<|fmin a b) Q):aL (aQ W.prog W.w) A (call (.builtin "min") [.float a t,.float b u]) Q E s:=call_min_two (vO (n:=2) (x:=0) (vs:=wv [(a,t),(b,u)]) c (fj _) (Ie _) λv i j d f=>(l4 d).elim λy e=>KP st h (e.trans (az (yg · y)<|Es 0)) f)
noncomputable def JN:Kr->aA
 | .len=> .builtin "len"| .sum=> .builtin "sum"| .max=> .builtin "max"| .min=> .builtin "min"
 | .divmod=> .builtin "divmod"| .range=> .type "range"| .list=> .type "list"| .int=> .type "int"
def qY(W:Wd)(b:Kr)(as:aj PV)(r:PV):Prop:=∀{A:cZ} {E:aA->aw->Prop} {s:aw} {c:aX->Prop} {Q:aA->aw->Prop} {vs:aj aA},A.handled=ag->St W s->(∀a,c a->a<s.heap.objs.size)->ba W c s.heap as vs-> jm W c s r Q->aL (aQ W.prog W.w) A (call (JN b) vs) Q E s
def OK(W:Wd)(b:Kr)(x r:PV):Prop:=∀{A:cZ} {E:aA->aw->Prop} {s:aw} {c:aX->Prop} {Q:aA->aw->Prop} {v:aA},A.handled=ag->St W s->(∀a,c a->a<s.heap.objs.size)->bf W c s.heap x v-> jm W c s r Q->aL (aQ W.prog W.w) A (call (JN b) [v]) Q E s
def su{as}(e:one as=U x):as=[x]:=by
 induction as using aE with
 |nil=>exact nd e
 |cons a r=>induction r using aE with
  |nil=>exact az (λx=>[x])<|sm e
  |cons b t=>exact nd e
def jX{as}(e:two as=U p):as=[p.1,p.2]:=by
 induction as using aE with
 |nil=>exact nd e
 |cons x r=>induction r using aE with
  |nil=>exact nd e
  |cons y r=>induction r using aE with
   |nil=>obtain rfl:=sm e;rfl
   |cons=>exact nd e
def Ij{b}{f:PV->au PV}(e:(one as).bind f=U r)(h:∀x,f x=U r->OK W b x r):qY W b as r:=by obtain⟨x,d,g⟩:=ER e;obtain rfl:=su d;intro A E s k Q vs i st c j w;obtain⟨v,rfl,a⟩:=j.su;exact h x g i st c a w
def R3{x r}:Zl x=U r->OK W .len x r:=by
 induction x using PV.casesOn with
 |lst l=>intro e A E s f Q v g st b a h;obtain⟨q,rfl⟩:=cN e;obtain⟨m,k,rfl,_,i,j⟩:=a;have c:l.length<=1048576:=aD q;have l1:=j.length;refine call_len_list i.isList (rP aO <| cQ 0x300131000005f9118000000000000000ff875 c l1) ?_;exact rP aO <| rS l1 <| Bx st h λ_ _ e=>e
 |str l=>intro e A E s f Q v g st b a h;obtain⟨q,rfl⟩:=cN e;obtain⟨t,rfl⟩:=a;have c:l.length<=1048576:=aD q;have d:(⟨l.toArray⟩:a7).length=l.length:=aO ..;refine PySem.P.len_str (rS d <| du 0x1000005f90178000000000000000ff847 c) ?_;exact rP d <| Bx st h λ_ _ e=>e
 |_=>exact nd
def RX:Lb x=U r->OK W .sum x r:=by
 induction x using PV.casesOn with
 |lst k=>intro e A E s n Q v c st d a h;obtain⟨l,f,g⟩:=ER e;obtain rfl:=sm g;obtain⟨m,o,rfl,_,b,i⟩:=a;obtain⟨q,rfl,rfl⟩:=xb f i;rw[Ad]at b;refine sum_intListG c b.isList λt u w j=> ?_;exact rP (preSum_eq ..) <| rP (lQ (by simp) ..) <| Bx st h j
 |_=>exact nd
def Ol{x r:PV}:Tw x=U r->OK W .list x r:=by
 induction x using PV.casesOn with
 |lst l=>intro e A E s M Q v D st b a h;obtain⟨q,rfl⟩:=cN e;obtain⟨m,ys,rfl,_,⟨c,O⟩,H⟩:=a;have j:l.length<=1048576:=aD q;have l1:=H.length;refine call_list_seq m (.inl J) O J J (λk n o w=> ?_)<|rP aO <| rP cS <| cQ 0x300131000005f91110000006f901 j l1;have g:Nx W s {s with heap:=k}:=(Nx.refl st).keeps o;exact h _ _ g (vL (λz=>e_ _<|b _ z) ⟨n,w⟩<|H.nx g st) (λ_ e=>by cases e;exact eL _)
 |str l=>
  intro e A E s M Q v D st b a h;obtain⟨q,rfl⟩:=cN e;obtain⟨t,rfl⟩:=a;have j:l.length<=1048576:=aD q;refine call_list_str D _ t (λk tk f n o w hi=> ?_)<|rP aO <| rP cS <| ab j<|dcd J;have g:Nx W s {s with heap:=k,toks:=tk}:=(Nx.refl st).keeps o;refine h _ _ g (vL (λz=>e_ _<|b _ z) ⟨n,by simpa using w⟩ ?_) (λ_ e=>by cases e;exact eL _);obtain⟨h1,h2⟩:=hi;refine ba.of_get (by refine rP (aG ..) ?_;have h3:f.size=l.length:=h1.trans (aO ..);exact rS h3 <| nU.symm) λi x y L e2=> ?_;obtain⟨c,u,q1,q2⟩:=h2 i y (by simpa using e2);have B:l[i]? =U c:=by simpa using q1
  rw[cb,B]at L;obtain rfl:=sm L;subst q2;exact vS
 |_=>exact nd
def R4:M9 x=U r->OK W .int x r:=by
 induction x using PV.casesOn with
 |fw x=>
  intro e A E s c Q v d st b a h;have e:(match kJ x with| .fin s m e=>U (PV.int<|wR s m e)|_=>ag)=U r:=e;cases q:kJ x<;>rw[q]at e;case fin=>obtain rfl:=sm e;obtain⟨_,rfl⟩:=a;exact call_int_float q<|Bx st h λ_ _ e=>e
  all_goals exact nd e
 |_=>exact nd
def acI(W:Wd)(b:Kr)(f:cR->cR->cR->cR):Prop:=∀{x y z:cR} {A:cZ} {E:aA->aw->Prop} {s:aw} {a:aX->Prop} {Q:aA->aw->Prop} {t u v:pq},A.handled=ag->St W s->jm W a s (.fw<|f x y z) Q-> aL (aQ W.prog W.w) A (call (JN b) [.float x t,.float y u,.float z v]) Q E s
def HX{b}(h:acI W b f){x y z r}:V6 (λa b c=> .fw<|f a b c) x y z=U r->qY W b [x,y,z] r:=by
 induction x using PV.casesOn with
 |fw x=>induction y using PV.casesOn with
  |fw y=>induction z using PV.casesOn with
   |fw z=>
    intro e A E s j Q vs d st g i w
    obtain rfl:=sm e
    obtain⟨_,_,_,rfl,⟨_,rfl⟩,⟨_,rfl⟩,⟨_,rfl⟩⟩:=i.sq
    exact h d st w
   |_=>exact nd
  |_=>exact nd
 |_=>exact nd
def R0{r}:Zj as=U r->qY W .max as r:=by
 induction as using aE with
 |nil=>exact nd
 |cons x l=>induction l using aE with
  |nil=>exact nd
  |cons y l=>induction l using aE with
   |nil=>exact nd
   |cons z l=>induction l using aE with
    |nil=>exact HX Oj
    |cons _ _=>exact nd
def RY:V7 (λa b=>U<|.fw<|fmin a b) x y=U r->qY W .min [x,y] r:=by
 induction x using PV.casesOn with
 |fw x=>induction y using PV.casesOn with
  |fw y=>
   intro e A E s g Q vs c st d f w
   obtain rfl:=sm e
   obtain⟨_,_,rfl,⟨_,rfl⟩,⟨_,rfl⟩⟩:=f.jX
   exact Oi c st w
  |_=>exact nd
 |_=>exact nd
def RZ{as}:Zi as=U r->qY W .min as r:=by
 induction as using aE with
 |nil=>exact nd
 |cons x l=>induction l using aE with
  |nil=>exact nd
  |cons y l=>induction l using aE with
   |nil=>exact RY
   |cons z l=>induction l using aE with
    |nil=>exact HX Oh
    |cons _ _=>exact nd
def KO{a b c}{t u x}{k}(st:St W s)(d:∀a,j a->a<s.heap.objs.size)(h:jm W j s (.AN a b c) Q)(q:dA a b c=ah)(n:∀b o,s.heap.get? b=U o->f.get? b=U o) (v:r=s.heap.objs.size) (i:IsRange f r a b c t u x):Q (.ref r) {s with heap:=f,toks:=k}:=by subst v;exact h _ _ ((Nx.refl st).keeps n) (⟨_,_,_,_,J,λz=>e_ _<|d _ z,i,q⟩:∃g t u x,ek s.heap.objs.size= .ref g/\¬j g/\IsRange f g a b c t u x/\dA a b c=ah) (λ_ e=>by cases e;exact eL _)
def abL{r}(e:gL (dA 0 a 1) (.AN 0 a 1)=U r):qY W .range [.int a] r:=by obtain⟨q,rfl⟩:=cN e;intro A E s f Q vs g st c d h;obtain⟨_,rfl,⟨_,rfl⟩⟩:=d.su;exact call_range_1<|KO st c h q (λb o e=>bu _ e) J (IsRange.new ..)
def abK{r}(e:gL (dA a b 1) (.AN a b 1)=U r):qY W .range [.int a,.int b] r:=by obtain⟨q,rfl⟩:=cN e;intro A E s f Q vs g st c d h;obtain⟨_,_,rfl,⟨_,rfl⟩,⟨_,rfl⟩⟩:=d.jX;exact call_range_2<|KO st c h q (λb o e=>bu _ e) J (IsRange.new ..)
def abJ{r}(e:gL (dA a b c&&(!(decide (c=0))&& !(c7 (b-a) c))) (.AN a b c)=U r):qY W .range [.int a,.int b,.int c] r:=by obtain⟨q,rfl⟩:=cN e;have q:=n2 q;intro A E s g Q vs i st d f h;obtain⟨_,_,_,rfl,⟨_,rfl⟩,⟨_,rfl⟩,⟨_,rfl⟩⟩:=f.sq;exact call_range_3 (jR<|n0 (n2 q.2).1) (KO st d h q.1 (λb o e=>bu _ e) J (IsRange.new ..))<|.inl<|n0 (n2 q.2).2
def JP{r}:L0 as=U r->qY W .range as r:=by
 induction as using aE with
 |nil=>exact nd
 |cons x l=>induction x using PV.casesOn with
  |int a=>induction l using aE with
   |nil=>exact abL
   |cons y l=>induction y using PV.casesOn with
    |int b=>induction l using aE with
     |nil=>exact abK
     |cons z l=>induction z using PV.casesOn with
      |int c=>induction l using aE with
       |nil=>exact abJ
       |cons _ _=>exact nd
      |_=>exact nd
    |_=>exact nd
  |_=>exact nd
def R5{r}:ZR as=U r->qY W .divmod as r:=by
 induction as using aE with
 |nil=>exact nd
 |cons x l=>induction l using aE with
  |nil=>exact nd
  |cons y l=>induction l using aE with
   |nil=>
    intro e
    obtain⟨p,d,g⟩:=ER e
    obtain⟨q,rfl⟩:=cN g
    revert q
    refine DP (f:=λa b=>(a,b)) (M:=λx y=>_->qY W .divmod [x,y] _) (λa b i=> ?_) d
    subst i
    intro q A E s k Q vs m st c j h
    obtain⟨_,_,rfl,⟨_,rfl⟩,⟨_,rfl⟩⟩:=j.jX
    exact divmod_int (jR<|n0 (n2 q).1) (AG st h c<|.cons vI<|.one vI)<|.inl<|n0 (n2 q).2
   |cons _ _=>exact nd
def Qm{as}(e:oP b as=U r):qY W b as r:=by
 induction b using Kr.casesOn;case len=>exact Ij e λ_=>R3
 case sum=>exact Ij e λ_=>RX
 case max=>exact R0 e
 case min=>exact RZ e
 case range=>exact JP e
 case list=>exact Ij e λ_=>Ol
 case int=>exact Ij e λ_=>R4
 case divmod=>exact R5 e
def Vr{b}{vs}{n}(f:Rm n A)(st:St W s)(c:∀a,d a->a<s.heap.objs.size)(e:oP b as=U r)(g:ba W d s.heap as vs) (h:jm W d s r Q):aL (aQ W.prog W.w) A (call (JN b) vs) Q E s:=Qm e f.handled st c g h
end
section
variable {h:fX}
noncomputable def mid:OA->PV->o_
 | .join,_=>"str.join"| .encode,_=>"str.encode"| .decode,_=>"bytes.decode"| .split,_=>"str.split"
 | .sub,_=>"re.Pattern.sub"| .m_,_=>"int.bit_length"| .count,_=>"list.count"
noncomputable def MK:OA->a7
 | .join=>"join"| .encode=>"encode"| .decode=>"decode"| .split=>"split"
 | .sub=>"sub"| .m_=>"bit_length"| .count=>"count"
def Found(s:aw)(c:aA)(b:a7)(id:o_):Prop:=∃T,zG T/\Slot T b id/\GG (.builtin id)=gZ (.type "method_descriptor")/\s.TypeIs c T/\(∀a,c= .ref a->∃ob,s.heap.get? a=U ob/\ob.dict=ag)
def v7(x:h.PlainList l vs):∀a,ek l= .ref a->∃ob,h.get? a=U ob/\ob.dict=ag:=λa e=>by cases e;refine dQ (x) λn e=> ?_;exact⟨_,e,J⟩
noncomputable def isI(k:Z):aA->aB
 | .int a _=>a==k
 |_=>af
def Jf(H:Rm n A)(st:St W s)(e:n7 u=U l)
  (x:bf W j s.heap (.lst u) o) (z:bf W j s.heap (.int k) v) (h:jm W j s (.int (l.countP (λy=>decide (y=k)):Y)) Q):
  aL (aQ W.prog W.w) A (call (.builtin "list.count") [o,v]) Q E s:=by
 refine rc (x) λa vs d _ f B=> ?_;obtain rfl:=d;refine dQ (f) λD m=> ?_;refine dQ (z) λt g=> ?_;obtain rfl:=g;refine cm (xb e B) λq i b=> ?_;obtain rfl:=i;obtain rfl:=b
 refine uh Br ⟨_,m,J⟩ PySem.F.entry_list_count (PySem.F.args_list_count_2 _ _) (PySem.MeetsSeq.list_count a _ D (.int k t) (isI k) λy r=> ?_) ⟨m,?_⟩
 ·simp only[List.mem_toArray,bZ]at r;refine cm (r) λp _ c=> ?_;obtain rfl:=c;exact PySem.MeetsSeq.EqGives.int _ _ _ _
 ·have:(tJ (λp:Z × pq=>kf p.1 p.2) q).toArray.toList.countP (isI k)=(q.map (·.1)).countP (λy=>decide (y=k)):=by simp only[SV];refine List.countP_congr λp _=> ?_;rfl
  exact rP this <| Bx st h λ_ _ e=>e
def FE(f:Rm n A)(st:St W s)(c:bf W d s.heap (.int a) o)(h:jm W d s (.int<|aH a) Q):aL (aQ W.prog W.w) A (call (.builtin "int.bit_length") [o]) Q E s:=by refine dQ (c) λt b=> ?_;obtain rfl:=b;refine call_gives slot_int_bit_length (GH _ _ _) entry_int_bit_length (args_int_bit_length _) (PySem.AutoIntG2.int_bit_length_int_0 a t) ?_;exact Bx st h λ_ _ e=>e
def Dd{g}:∀{l} {vs},uP g=U l->ba W q h g vs->∃i:aj<|a7 × pq,vs=aay i/\i.map (·.1)=l.map λx=>⟨x.toArray⟩:=by
 induction g with
 |nil=>intro l vs e r;obtain rfl:=sm e;subst r;exact⟨[],J,J⟩
 |cons x g j=>
  intro l vs e r;refine jj (r) λv k c a b=> ?_;obtain rfl:=c;induction x using PV.casesOn<;>try exact nd e
  refine cm (CH.mp e) λs m n=> ?_;obtain rfl:=sm n;refine dQ (a) λt d=> ?_;obtain rfl:=d;refine cm (j m b) λi f o=> ?_;obtain rfl:=f;exact⟨(_,t)::i,J,by simp[o]⟩
def qU(l:aj<|aj Y):((l.map λx=>(⟨x.toArray⟩:a7)).map (·.length)).sum=l.flatten.length:=by
 induction l with
 |nil=>exact J
 |cons x r a=>have b:(⟨x.toArray⟩:a7).length=x.length:=aO ..;simp only[fR,vu,gp,aW,b];exact rS a<|rP bU J
theorem join_nil:∀(l:aj<|aj Y),(pt ⟨#[]⟩<|l.map λx=>(⟨x.toArray⟩:a7))=⟨l.flatten.toArray⟩
 |[]=>rfl
 |[x]=>by simp[pt]
 |x::y::r=>by have a:=join_nil<|y::r;show wQ (wQ ⟨x.toArray⟩ ⟨#[]⟩) (pt ⟨#[]⟩<|(y::r).map λx=>(⟨x.toArray⟩:a7))=_;refine rP a ?_;simp[wQ]
def MG(y:Rm n A)(st:St W s)(e:uP i=U l)(f:(aY l.flatten.length big&&aY l.length big)=ah)
  (j:bf W g s.heap (.str []) o) (m:bf W g s.heap (.lst i) v) (h:jm W g s (.str l.flatten) Q):
  aL (aQ W.prog W.w) A (call (.builtin "str.join") [o,v]) Q E s:=by
 simp only[i_]at f;have b1:=aD f.1;refine dQ (j) λt b=> ?_;obtain rfl:=b;refine rc (m) λa vs c _ q r=> ?_;obtain rfl:=c;refine cm (Dd e r) λz d u=> ?_;obtain rfl:=d;refine SC.join q.isList u ?_ λB k=> ?_
 ·delta JoinOk;refine rP (Im ..)<|rP (qU ..) ?_;delta pB qO;have:(⟨([]:aj Y).toArray⟩:a7).length=0:=J;refine rP (this ..)<|rP (mj ..)<|rP (GU ..) ?_;simp only[pZ,jw];exact du 0x1000005f901010000006f927 b1
 ·have:Txt.join ⟨([]:aj Y).toArray⟩ (l.map λx=>(⟨x.toArray⟩:a7))=⟨l.flatten.toArray⟩:=by show CV _ _=_;exact rP (vo ..) <| join_nil l
  exact rP (this ..) <| UI st h J λ_ _ e=>e
end
structure Nm where
 gv:aj<|a7 × PV
 fn:aj<|a7 × Y
 fr:Y->aB
 ea:Y
noncomputable def R6:aj<|a7 × Kr:=[("len",.len),("sum",.sum),("max",.max),("min",.min),("divmod",.divmod),("range",.range),("list",.list),("int",.int)]
noncomputable def all2{c d:Type}(p:c->d->aB):aj c->aj d->aB
 |[],[]=>ah
 |a::x,b::y=>match p a b with|true=>all2 p x y|false=>af
 |_,_=>af
def dT{c:Prop}[CN c]{f:c->aB}(h:(if q:c then f q else af)=ah):∃_:c,True:=by
 by_cases q:c
 ·exact⟨q,trivial⟩
 ·rw[dif_neg q]at h;exact ff h
def kD{a:Type}{o:au a}{p:a->aB}(h:o.any p=ah):∃x,o=U x/\p x=ah:=by
 cases o with
 |none=>exact ff h
 |some x=>exact⟨x,J,h⟩
section
variable {P:Expr->Prop}
noncomputable def yJ{a:Type}(d:a)(e:Expr)(k:BoolOp->aj Expr->a):a:=if q:e.ctorIdx=0 then Expr.BoolOp.elim (motive_1:=λ_=>a) e q λb c _=>k b c else d
@[elab_as_elim] def AY(h:yJ af e k=ah)(c:∀a b p,k a b=ah->P (.BoolOp a b p)):P e:=(dT h).elim λq _=>Expr.BoolOp.elim (motive_1:=λe=>yJ af e k=ah->P e) e q (λa b p h=>c a b p h) h
noncomputable def sB{a:Type}(d:a)(e:Expr)(k:Expr->dU->Expr->a):a:=if q:e.ctorIdx=2 then Expr.BinOp.elim (motive_1:=λ_=>a) e q λl o r _=>k l o r else d
@[elab_as_elim] def pR{k:Expr->dU->Expr->aB}(h:sB af e k=ah)(c:∀l o r p,k l o r=ah->P (.BinOp l o r p)):P e:=(dT h).elim λq _=>Expr.BinOp.elim (motive_1:=λe=>sB af e k=ah->P e) e q (λl o r p h=>c l o r p h) h
noncomputable def sv{a:Type}(d:a)(e:Expr)(k:OS->Expr->a):a:=if q:e.ctorIdx=3 then Expr.UnaryOp.elim (motive_1:=λ_=>a) e q λo x _=>k o x else d
@[elab_as_elim] def tY(h:sv af e k=ah)(c:∀o x p,k o x=ah->P (.UnaryOp o x p)):P e:=(dT h).elim λq _=>Expr.UnaryOp.elim (motive_1:=λe=>sv af e k=ah->P e) e q (λo x p h=>c o x p h) h
noncomputable def xR{a:Type}(d:a)(e:Expr)(k:Expr->Expr->Expr->a):a:=if q:e.ctorIdx=5 then Expr.IfExp.elim (motive_1:=λ_=>a) e q λx y z _=>k x y z else d
@[elab_as_elim] def yH{k:Expr->Expr->Expr->aB}(h:xR af e k=ah)(c:∀x y z p,k x y z=ah->P (.IfExp x y z p)):P e:=(dT h).elim λq _=>Expr.IfExp.elim (motive_1:=λe=>xR af e k=ah->P e) e q (λx y z p h=>c x y z p h) h
noncomputable def qx{a:Type}(d:a)(e:Expr)(k:Expr->aj f3->kH->a):a:=if q:e.ctorIdx=8 then rm (motive_1:=λ_=>a) e q λx b c _=>k x b c else d
@[elab_as_elim] def oH(h:qx af e k=ah)(c:∀x a b p,k x a b=ah->P (.ListComp x a b p)):P e:=(dT h).elim λq _=>rm (motive_1:=λe=>qx af e k=ah->P e) e q (λx a b p h=>c x a b p h) h
noncomputable def sA{a:Type}(d:a)(e:Expr)(k:Expr->aj jh->aj Expr->a):a:=if q:e.ctorIdx=15 then Expr.Compare.elim (motive_1:=λ_=>a) e q λx os b _=>k x os b else d
@[elab_as_elim] def qw{k:Expr->aj jh->aj Expr->aB}(h:sA af e k=ah)(c:∀x os a p,k x os a=ah->P (.Compare x os a p)):P e:=(dT h).elim λq _=>Expr.Compare.elim (motive_1:=λe=>sA af e k=ah->P e) e q (λx os a p h=>c x os a p h) h
noncomputable def B1{a:Type}(d:a)(e:Expr)(k:Expr->aj Expr->aj Keyword->pJ->a):a:=if q:e.ctorIdx=16 then Expr.Call.elim (motive_1:=λ_=>a) e q λg b c p=>k g b c p else d
@[elab_as_elim] def Hs(h:B1 af e k=ah)(c:∀g a b p,k g a b p=ah->P (.Call g a b p)):P e:=(dT h).elim λq _=>Expr.Call.elim (motive_1:=λe=>B1 af e k=ah->P e) e q (λg a b p h=>c g a b p h) h
noncomputable def qy{a:Type}(d:a)(e:Expr)(k:Const->Y->a):a:=if q:e.ctorIdx=19 then Expr.Constant.elim (motive_1:=λ_=>a) e q λw n _=>k w n else d
@[elab_as_elim] def rK{k:Const->Y->aB}(h:qy af e k=ah)(c:∀w n p,k w n=ah->P (.Constant w n p)):P e:=(dT h).elim λq _=>Expr.Constant.elim (motive_1:=λe=>qy af e k=ah->P e) e q (λw n p h=>c w n p h) h
noncomputable def rM{a:Type}(d:a)(e:Expr)(k:Expr->a7->pJ->a):a:=if q:e.ctorIdx=20 then Expr.Attribute.elim (motive_1:=λ_=>a) e q λx n p=>k x n p else d
@[elab_as_elim] def BZ(h:rM af e k=ah)(c:∀x n p,k x n p=ah->P (.Attribute x n p)):P e:=(dT h).elim λq _=>Expr.Attribute.elim (motive_1:=λe=>rM af e k=ah->P e) e q (λx n p h=>c x n p h) h
noncomputable def jO{a:Type}(d:a)(e:Expr)(k:Expr->Expr->a):a:=if q:e.ctorIdx=21 then Expr.Subscript.elim (motive_1:=λ_=>a) e q λx i _=>k x i else d
@[elab_as_elim] def jb{k:Expr->Expr->aB}(h:jO af e k=ah)(c:∀x i p,k x i=ah->P (.Subscript x i p)):P e:=(dT h).elim λq _=>Expr.Subscript.elim (motive_1:=λe=>jO af e k=ah->P e) e q (λx i p h=>c x i p h) h
noncomputable def j'{a:Type}(d:a)(e:Expr)(k:a7->a):a:=if q:e.ctorIdx=23 then nJ (motive_1:=λ_=>a) e q λx _=>k x else d
@[elab_as_elim] def jc(h:j' af e k=ah)(c:∀x p,k x=ah->P (.Name x p)):P e:=(dT h).elim λq _=>nJ (motive_1:=λe=>j' af e k=ah->P e) e q (λx p h=>c x p h) h
noncomputable def Fw{a:Type}(d:a)(e:Expr)(k:aj Expr->a):a:=if q:e.ctorIdx=24 then Expr.List.elim (motive_1:=λ_=>a) e q λb _=>k b else d
@[elab_as_elim] def Hr{k:aj Expr->aB}(h:Fw af e k=ah)(c:∀a p,k a=ah->P (.List a p)):P e:=(dT h).elim λq _=>Expr.List.elim (motive_1:=λe=>Fw af e k=ah->P e) e q (λa p h=>c a p h) h
noncomputable def my{a:Type}(d:a)(e:Expr)(k:aj Expr->Y->a):a:=if q:e.ctorIdx=25 then mG (motive_1:=λ_=>a) e q λb n _=>k b n else d
@[elab_as_elim] def pQ(h:my af e k=ah)(c:∀a n p,k a n=ah->P (.Tuple a n p)):P e:=(dT h).elim λq _=>mG (motive_1:=λe=>my af e k=ah->P e) e q (λa n p h=>c a n p h) h
noncomputable def B0{a:Type}(d:a)(e:Expr)(k:au Expr->au Expr->au Expr->a):a:=if q:e.ctorIdx=26 then Expr.Slice.elim (motive_1:=λ_=>a) e q λl u t _=>k l u t else d
@[elab_as_elim] def Mj{k:au Expr->au Expr->au Expr->aB}(h:B0 af e k=ah)(c:∀l u t p,k l u t=ah->P (.Slice l u t p)):P e:=(dT h).elim λq _=>Expr.Slice.elim (motive_1:=λe=>B0 af e k=ah->P e) e q (λl u t p h=>c l u t p h) h
def dTo[CN c]{a:Type}{f:c->au a}{r:a}(h:(if q:c then f q else ag)=U r):∃_:c,True:=by
 by_cases q:c
 ·exact⟨q,trivial⟩
 ·rw[dif_neg q]at h;exact nd h
@[elab_as_elim] def uT{a:Type}{k:a7->au a}{r:a}(h:j' ag e k=U r)(c:∀x p,k x=U r->P (.Name x p)):P e:=(dTo h).elim λq _=>nJ (motive_1:=λe=>j' ag e k=U r->P e) e q (λx p h=>c x p h) h
@[elab_as_elim] def wc{b:Type}{k:aj Expr->Y->au b}{r:b}(h:my ag e k=U r)(c:∀a n p,k a n=U r->P (.Tuple a n p)):P e:=(dTo h).elim λq _=>mG (motive_1:=λe=>my ag e k=U r->P e) e q (λa n p h=>c a n p h) h
end
noncomputable def nq{c a:Type}(d:a)(l:aj c)(b:a):a:=match l with|[]=>b|_::_=>d
noncomputable def Fz{c b:Type}(d:b)(l:aj c)(k:c->b):b:=match l with|[]=>d|a::r=>nq d r<|k a
noncomputable def Qq{b c:Type}(d:c)(l:aj b)(k:b->b->c):c:=match l with|[]=>d|a::r=>Fz d r<|k a
@[elab_as_elim] def nY{a:Type}{P:aj a->Prop}{l:aj a}{b}(h:nq af l b=ah)(c:b=ah->P []):P l:=by
 cases l with
 |nil=>exact c h
 |cons=>exact ff h
@[elab_as_elim] def rL{b:Type}{P:aj b->Prop}{l:aj b}{k:b->aB}(h:Fz af l k=ah)(c:∀a,k a=ah->P [a]):P l:=by
 cases l with
 |nil=>exact ff h
 |cons a r=>exact nY h<|c a
@[elab_as_elim] def Mk{d:Type}{P:aj d->Prop}{l:aj d}{k:d->d->aB}(h:Qq af l k=ah)(c:∀a b,k a b=ah->P [a,b]):P l:=by
 cases l with
 |nil=>exact ff h
 |cons a r=>exact rL h<|c a
noncomputable def Fy{a:Type}(d:a)(e:Expr)(k:a7->aj Expr->a):a:=B1 d e λg b c _=>j' d g λx=>nq d c<|k x b
@[elab_as_elim] def tz{P:Expr->Prop}{e}{k:a7->aj Expr->aB}(h:Fy af e k=ah)(c:∀x q a p,k x a=ah->P (.Call (.Name x q) a [] p)):P e:=Hs h λ_ a b p h=>jc h λx q h=>nY h<|c x q a p
noncomputable def Dr{a:Type}(d:a)(e:Expr)(k:Expr->a7->pJ->aj Expr->pJ->a):a:=B1 d e λg b c p=>rM d g λx n q=>nq d c<|k x n q b p
@[elab_as_elim] def yG{P:Expr->Prop}{e}{k:Expr->a7->pJ->aj Expr->pJ->aB}(h:Dr af e k=ah)(c:∀x n q a p,k x n q a p=ah->P (.Call (.Attribute x n q) a [] p)):P e:=Hs h λ_ a b p h=>BZ h λx n q h=>nY h<|c x n q a p
noncomputable def onStr(e:Expr)(k:a7->aB):aB:=qy af e λc _=>match c with| .str s=>k s|_=>af
@[elab_as_elim] def Fv{P:Expr->Prop}{e}{k:a7->aB}(h:onStr e k=ah)(c:∀s i p,k s=ah->P (.Constant (.str s) i p)):P e:=
 rK h λw i p h=>by
  cases w with
  |str s=>exact c s i p h
  |_=>exact ff h
def eqG(v w:PV):aB:=match v with
 | .none=>(match w with| .none=>ah|_=>af)
 | .bool a=>(match w with| .bool b=>a==b|_=>af)
 | .fw a=>(match w with| .fw b=>decide (a=b)|_=>af)
 | .int a=>(match w with| .int b=>decide (a=b)|_=>af)
 | .str a=>(match w with| .str b=>fT a b|_=>af)
 | .sJ a=>(match w with| .sJ b=>fT a b|_=>af)
 | .pat a=>(match w with| .pat b=>aF a b|_=>af)
 |_=>af
def NT{v w:PV}:eqG v w=ah->v=w:=by
 cases v with
 |none=>cases w with|none=>exact λ_=>rfl|_=>exact ff
 |bool a=>cases w with|bool b=>exact λh=>az PV.bool (dW h)|_=>exact ff
 |fw a=>cases w with|fw b=>exact λh=>az PV.fw (aq h)|_=>exact ff
 |int a=>cases w with|int b=>exact λh=>az PV.int (aq h)|_=>exact ff
 |str a=>cases w with|str b=>exact λh=>az PV.str (li.mp h)|_=>exact ff
 |sJ a=>cases w with|sJ b=>exact λh=>az PV.sJ (li.mp h)|_=>exact ff
 |pat a=>cases w with|pat b=>exact λh=>az PV.pat (aJ h)|_=>exact ff
 |_=>exact ff
noncomputable def YK:Const->au PV
 | .none=>U .none
 | .bool a=>U<|.bool a
 | .int a=>U<|.int a
 | .float a=>U<|.fw a
 | .str s=>U<|.str s.cps.toList
 | .bytes b=>U<|.sJ<|b.map UInt8.toNat
 |_=>ag
def ckK(k:Const)(v:PV):aB:=(YK k).any λw=>eqG w v
def WE{k:Const}{v:PV}(h:ckK k v=ah):YK k=U v:=let⟨_,a,b⟩:=kD h;NT b▸a
noncomputable def JF:au Y->Y->aB
 |some a,b=>aF a b
 |none,_=>af
noncomputable def CP:au dJ->dJ->aB
 |some a,b=>decide (a=b)
 |none,_=>af
noncomputable def fz(x:a7):aB:= !(x==("__debug__":a7))&& !(x==("__classdict__":a7))&& !(x==("__name__":a7))
noncomputable def WG(X:Cx)(x:a7):aB:=CP (X.nm.lookup x) .globalImplicit&&fz x
noncomputable def v9(e:Expr):aB:= !(Fy af e λ_ a=>nq af a ah)
noncomputable def Mq(e:Expr):aB:= !(aF e.ctorIdx 26)
noncomputable def G.t:G->T| .mk t _ _=>t
noncomputable def G.s:G->Src| .mk _ s _=>s
noncomputable def G.ifs:G->aj C| .mk _ _ i=>i
noncomputable def PH(r:Expr->T->au (aj<|a7 × Y))(d:aj Expr)(c:aj T):au<|aj<|a7 × Y:=match d with
 |[]=>(match c with|[]=>U []|_::_=>ag)
 |e::d=>match c with|[]=>ag|t::c=>(r e t).bind λa=>(PH r d c).bind λb=>U<|a++b
noncomputable def tL:Y->Expr->T->au (aj<|a7 × Y)
 |0,_,_=>ag
 |f+1,e,t=>match t with
  | .v i=>j' ag e λx=>U [(x,i)]
  | .tup a=>my ag e λb _=>PH (tL f) b a
abbrev tL.go(f:Y)(a:aj Expr)(b:aj T):au<|aj<|a7 × Y:=PH (tL f) a b
noncomputable def zi(X:Cx)(a:aj<|a7 × dJ):aj<|a7 × dJ:=a.map λp=>if p.2== .free&&X.nm.lookup p.1==U .cell then(p.1,.cell)else p
noncomputable def we:aj Y->aB
 |[]=>ah
 |a::r=> !(r.any<|aF a)&&we r
noncomputable def iA:aj a7->aB
 |[]=>ah
 |a::r=> !(r.any (· ==a))&&iA r
def Yw(X:Cx)(a:kH):aB:=
 decide (a.kind= .function)&&iA (a.names.map (·.1))&&(a.names.all λp=> !(p.2== .local)||CP (a.names.lookup p.1) .local)
  &&(a.names.all λp=> !(p.2== .free)||CP (X.nm.lookup p.1) .cell||CP (X.nm.lookup p.1) .free)
  &&(a.names.all λp=> !(p.2== .cell)||CP (a.names.lookup p.1) .cell)
  &&(a.names.all λp=> !(p.2== .free)||CP (a.names.lookup p.1) .free)
  &&(a.names.all λp=> !(p.2== .globalImplicit)||CP (a.names.lookup p.1) .globalImplicit)
noncomputable def aby(a:kH)(b:aj<|a7 × Y):aB:=b.all λp=>CP (a.names.lookup p.1) .local||CP (a.names.lookup p.1) .cell
noncomputable def JM(X:Cx)(a:kH)(b:aj<|a7 × Y):Cx:=⟨zi X a.names,b++X.Γ.filter (λp=>CP (a.names.lookup p.1) .free),[]⟩
noncomputable def C2(f:Y)(e:aj f3)(d:aj G):au<|aj<|a7 × Y:=match e with
 |[]=>(match d with|[]=>U []|_::_=>ag)
 |c::e=>match d with|[]=>ag|g::d=>(tL f c.target g.t).bind λa=>(C2 f e d).bind λb=>U<|a++b
noncomputable def isSync(a:Z):aB:=match a with| .ofNat 0=>ah|_=>af
noncomputable def WH(X:Cx)(ck:Expr->C->aB)(z:a7)(e:Expr)(a:C):aB:=Fy af e λx b=>(x==z)&&(WG X x&&Fz af b λu=>ck u a)
noncomputable def D'(N:Nm)(X:Cx)(ck:Expr->C->aB)(e:Expr):Src->aB
 | .of c=>ck e c
 | .rev a=>WH X ck "reversed" e a
 | .esc a=>WH X ck "_iter_escaped_chars" e a
@[elab_as_elim] def D_{P:Expr->Prop}{X:Cx}{ck:Expr->C->aB}{z:a7}{e:Expr}{a:C}(h:WH X ck z e a=ah)(c:∀u q p,WG X z=ah->ck u a=ah->P (.Call (.Name z q) [u] [] p)):P e:=tz h λx q d p h=>rL (n2 (n2 h).2).2 λu b=>by obtain rfl:=dW (n2 h).1;exact c u q p (n2 (n2 h).2).1 b
noncomputable def FT(e:Expr):aB:=aF e.ctorIdx 25
def HN(N:Nm)(X:Cx)(ck:Expr->C->aB)(a:aj f3)(b:aj G):aB:=match a with
 |[]=>af
 |c::_=>match b with|[]=>af|g::_=>D' N X ck c.iter g.s
noncomputable def ua(N:Nm)(X:Cx)(ck:Expr->C->aB)(first:aB)(b:aj f3)(a:aj G):aB:=match b with
 |[]=>(match a with|[]=>ah|_::_=>af)
 |c::b=>match a with
  |[]=>af
  |g::a=>isSync c.is_async&&((first||D' N X ck c.iter g.s)&&(all2 ck c.ifs g.ifs&&ua N X ck af b a))
def Oc(N:Nm)(f:Y)(X:Cx)(b:Cx->Expr->C->aB)(d:kH)(a:aj f3)(e:aj G)(body:(Expr->C->aB)->aB):aB:=(C2 f a e).any λc=>Yw X d&&(aby d c&&(iA (c.map (·.1))&&(we (c.map (·.2))&&((c.all λp=>X.Γ.all λq=> !(aF p.2 q.2)) &&(HN N X (b X) a e&&(ua N (JM X d c) (b<|JM X d c) ah a e&&body (b<|JM X d c)))))))
noncomputable def Oa(ck:Expr->C->aB)(e:au Expr)(c:au C):aB:=match e with
 |none=>(match c with|none=>ah|some _=>af)
 |some e=>(match c with|none=>af|some c=>ck e c)
noncomputable def VX(a:aj Y)(i:Y):aB:=a.any<|aF i
noncomputable def ab'(n:Y):aB:=aF n 3||aF n 8||aF n 12||(aY 15 n&&aY n 16)
noncomputable def xu(N:Nm):Y->C->aB
 |0,_=>af
 |n+1,c=>match c with
  | .blt b _=>aF b.ctorIdx 5
  | .ite _ a b=>xu N n a&&xu N n b
  | .call f _=>N.fr f
  |c=>ab' c.ix
noncomputable def U2(s:Src):aB:=aF s.ix 2
noncomputable def Zo(a:jh)(neg:aB):aB:=match a with| .Is=> !neg| .IsNot=>neg|_=>af
noncomputable def lW(e:Expr):aB:= !(aF e.ctorIdx 7)&& !(aF e.ctorIdx 22)
def ckC(N:Nm)(f:Y)(r:Cx->Expr->C->aB)(X:Cx)(e:Expr)(c:C):aB:=match c with
 | .var i=>j' af e λx=>JF (X.Γ.lookup x) i&&fz x
 | .lit v=>qy af e λk _=>ckK k v
 | .TH v=>j' af e λx=>WG X x&&(N.gv.lookup x).any λw=>eqG w v
 | .bin B a b=>sB af e λl o u=>decide (o=B)&&(r X l a&&r X u b)
 | .un B a=>sv af e λo x=>decide (o=B)&&r X x a
 | .O9 B L=>yJ af e λo A=>decide (o=B)&&all2 (r X) A L
 | .cmp l E M=>sA af e λx os I=>decide (os=E)&&(r X x l&&(all2 (r X) I M&&(aF os.length I.length&&fy 0 os.length)))
 | .ite t a b=>xR af e λx y z=>r X x t&&(r X y a&&r X z b)
 | .lst H=>Fw af e λA=>all2 (r X) A H&&aY A.length 4096
 | .tup H=>my af e λA _=>all2 (r X) A H&&aY A.length 4096
 | .call g as=>Fy af e λx A=>WG X x&&(JF (N.fn.lookup x) g&&(all2 (r X) A as&&(fy A.length 16&&fy 0 A.length)))
 | .blt b as=>Fy af e λx A=>WG X x&&((R6.lookup x).any (λO=>decide (O=b))&&(all2 (r X) A as&&(fy A.length 16&&fy 0 A.length)))
 | .bgen s=>Fy af e λx A=>(x==("list":a7))&&(WG X x&&Fz af A λy=>U2 s&&D' N X (r X) y s)
 | .FF m o as=>Dr af e λx n q A p=>decide (n=MK m)&&(aF q.endLine p.line&&(v9 x&&(fy A.length 16&&(r X x o&&all2 (r X) A as))))
 | .sub o i=>jO af e λx j=>Mq j&&(r X x o&&r X j i)
 | .xP o lo Q=>jO af e λx j=>B0 af j λl h t=>t.isNone&&(r X x o&&(Oa (r X) l lo&&Oa (r X) h Q))
 | .vz v gs=>qx af e λy D sc=>Oc N f X r sc D gs (λck=>ck y v)
 | .dist i j neg=>sA af e λa os bs=>j' af a λx=>Fz af os λB=>Fz af bs λw=>j' af w λy=>JF (X.Γ.lookup x) i&&(JF (X.Γ.lookup y) j&&(fz x&&(fz y&&(VX X.uq i&&(VX X.uq j&&(!(aF i j)&&Zo B neg))))))
 | .rdot o=>sB af e λl B w=>onStr l λd=>Dr af w λx n u A v=>Qq af A λy z=>onStr y λp=>onStr z λq=>decide (B= .Add)&&(fT d.cps.toList [46]&&(fT p.cps.toList [10,46]&&(fT q.cps.toList [10,46,46]&&((n==("replace":a7))&&(aF u.endLine v.line&&(v9 x&&r X x o))))))
noncomputable def gW(N:Nm):Y->Cx->Expr->C->aB
 |0,_,_,_=>af
 |f+1,X,e,c=>lW e&&ckC N f (gW N f) X e c
def vA{f:Y}{e:Expr}(h:gW N (f+1) X e c=ah):ckC N f (gW N f) X e c=ah:=(n2 h).2
def HH{a:jh}(h:Zo a neg=ah):(a= .Is/\neg=af)\/(a= .IsNot/\neg=ah):=by
 cases a;case Is=>exact .inl ⟨J,n0 h⟩
 case IsNot=>exact .inr ⟨J,h⟩
 all_goals exact ff h
def Glob(W:Wd)(x:a7)(v:aA):Prop:=∀(A:cZ) (E:aA->aw->Prop) (s:aw) (Q:aA->aw->Prop) (env:cr) (a:pJ),St W s->env.scope.kind= .function->env.globals=dB->env.builtins=jT->env.kindOf x=U .globalImplicit->Q v s->aL (aQ W.prog W.w) A (eval (.Name x a) env) Q E s
structure nH(W:Wd)(N:Nm)(fa:Y->aX):Prop where
 gv:∀x pv,N.gv.lookup x=U pv->∃v,Glob W x v/\∀av h,bf W av h pv v
 fn:∀x f,N.fn.lookup x=U f->Glob W x (.ref<|fa f)
 fd:∀x f,N.fn.lookup x=U f->∃o d,W.h₀.get? (fa f)=U o/\o.data= .func d
 bl:∀x b,R6.lookup x=U b->Glob W x (JN b)
 rev:Glob W "reversed"<|.type "reversed"
 esc:Glob W "_iter_escaped_chars"<|.ref N.ea
 escd:∃o d,W.h₀.get? N.ea=U o/\o.data= .func d
def i5(s:aw)(v:aA):Prop:=∀a,v= .ref a->s.heap.get? a=ag
noncomputable def Ib(c:C):aB:=aF c.ix 16
structure KS(W:Wd)(N:Nm)(fa:Y->aX)(k:Kn)(n:Y):Prop where
 ex:∀{f:Y} {X:Cx} {e:Expr} {c:C} {A:cZ} {s:aw} {av:aX->Prop} {menv:cr} {env:Env} {r:PV} {Q:aA->aw->Prop} {E:aA->aw->Prop},
  gW N f X e c=ah->Rm n A->St W s->Av av s->cV W av X menv env s.heap->k.ex env c=U r->
  (∀v' s',Nx W s s'->bf W av s'.heap r v'->(∀m,xu N m c=ah->i5 s v')->Q v' s')->aL (aQ W.prog W.w) A (eval e menv) Q E s
 tr:∀{f:Y} {X:Cx} {e:Expr} {c:C} {A:cZ} {s:aw} {av:aX->Prop} {menv:cr} {env:Env} {r:PV} {b:aB} {Q:aB->aw->Prop} {E:aA->aw->Prop},
  gW N f X e c=ah->Rm n A->St W s->Av av s->cV W av X menv env s.heap->k.ex env c=U r->truth r=U b->
  (∀s',Nx W s s'->Q b s')->aL (aQ W.prog W.w) A (isTrue e menv<|eval e menv) Q E s
 ca:∀{g:Y} {as:aj PV} {r:PV} {vs:aj aA} {A:cZ} {s:aw} {av:aX->Prop} {Q:aA->aw->Prop} {E:aA->aw->Prop},
  Rm n A->St W s->Av av s->k.ca g as=U r->ba W av s.heap as vs->
  (∀v' s',Nx W s s'->bf W av s'.heap r v'->(N.fr g=ah->i5 s v')->Q v' s')->aL (aQ W.prog W.w) A (call (.ref<|fa g) vs) Q E s
 cu:∀{f:Y} {X:Cx} {e:Expr} {c:C} {A:cZ} {s:aw} {av:aX->Prop} {menv:cr} {env:Env} {r:PV} {Q:aw->Prop} {E:aA->aw->Prop} {u:aA->r_ sY},
  gW N f X e c=ah->Ib c=ah->Rm n A->St W s->Av av s->cV W av X menv env s.heap->k.ex env c=U r->
  (∀D C s',Nx W s s'->s.heap.get? D=ag->s.heap.get? C=ag->D≠C->(∃m,s'.heap.Ns C m)->bf W (λb=>av b\/b=C) s'.heap r (.ref D)-> aL (aQ W.prog W.w) A (u<|.ref D) (λ_ s''=>∃m,s''.heap.Ns C m/\∀h',gk C s''.heap h'->Q {s'' with heap:=h'}) E s')->
  aL (aQ W.prog W.w) A (evalThenUse e menv u) (λ_ s'=>Q s') E s
 va:∀{env:Env} {i:Y} {v:PV},k.ex env (.var i)=U v->(env[i]?).bind id=U v
def sI{N}{e}{f}:gW N f X e c=ah->lW e=ah:=by
 induction f with
 |zero=>intro h;exact ff h
 |succ _ a=>intro h;exact(n2 h).1
def nV{e}{a}(h:lW e=ah):s_ (e::r) a=(af,eval e a)::s_ r a:=by
 induction e using nA<;>first
  |rfl
  |exact ff h
def DC{e}(h:lW e=ah):behindInMarks a e=af:=by
 induction e using nA<;>first
  |rfl
  |exact ff h
def qB{a}(h:lW e=ah):As e a x=gZ x:=by
 induction e using Expr.casesOn<;>first
  |rfl
  |exact ff h
def oe{d e:Type}{p:d->e->aB}:∀{x:aj d} {y:aj e},all2 p x y=ah->x.length=y.length:=by
 intro x;induction x with
 |nil=>
  intro c;cases c with
  |nil=>intro _;exact J
  |cons _ _=>intro h;exact ff h
 |cons a x f=>
  intro c;cases c with
  |nil=>intro h;exact ff h
  |cons b y=>
   intro h;have h:(match p a b with|true=>all2 p x y|false=>af)=ah:=h;cases q:p a b with
   |false=>rw[q]at h;exact ff h
   |true=>rw[q]at h;exact az jH<|f h
def W2{e f:Type}{p:e->f->aB}{a b:e}{c d:f}(h:p a c=ah)(g:p b d=ah):all2 p [a,b] [c,d]=ah:=by show(match p a c with|true=>(match p b d with|true=>ah|false=>af)|false=>af)=ah;exact rP h<|rP g J
def gf{c d:Type}{p:c->d->aB}{a:c}{b:d}{x:aj c}{y:aj d}(h:all2 p (a::x) (b::y)=ah):p a b=ah/\all2 p x y=ah:=by
 have h:(match p a b with|true=>all2 p x y|false=>af)=ah:=h;cases q:p a b with
 |false=>rw[q]at h;exact ff h
 |true=>rw[q]at h;exact⟨J,h⟩
def i'{N}{f}{X}{a}{pos}:∀{d} {g},all2 (gW N f X) d g=ah-> GJ pos (s_ d a)=d.map λe=>(af,eval e a):=by
 intro d;induction d with
 |nil=>
  intro b;cases b with
  |nil=>intro _;exact J
  |cons _ _=>intro h;exact ff h
 |cons e d i=>
  intro b;cases b with
  |nil=>intro h;exact ff h
  |cons c g=>intro h;exact(az (GJ pos)<|nV<|sI (gf h).1).trans (az ((af,eval e a):: ·)<|i (gf h).2)
def qG(b):evalEach b a=b.map λe=>eval e a:=by
 induction b with
 |nil=>exact J
 |cons e b c=>rw[evalEach,c];rfl
section
variable {W:Wd}
def ef{a c:Type}{o:au a}{g:a->au c}{b:c}(h:o.bind g=U b):Bd o g b:=ER h
def wy(K:KS W N fa k n)(z:Rm n A):∀{b:aj Expr} {o:aj C} {l:aj PV} {s:aw} {Q:aj aA->aw->Prop},
  all2 (gW N f X) b o=ah->St W s->Av t s->cV W t X d env s.heap->qV k env o=U l->
  (∀vs m,Nx W s m->ba W t m.heap l vs->Q vs m)->aL (aQ W.prog W.w) A (spliced<|b.map λe=>(af,eval e d)) Q E s:=by
 intro b;induction b with
 |nil=>
  intro a;cases a with
  |nil=>intro l s Q _ st _ _ e h;exact fe<|h _ _ (.refl st)<|rS (sm e) <| .nil
  |cons _ _=>intro _ _ _ h _ _ _ _ _;exact ff h
 |cons e b B=>
  intro a;cases a with
  |nil=>intro _ _ _ h _ _ _ _ _;exact ff h
  |cons c o=>
   intro l s Q u st x y g h
   exact gO g λr D g=>gO g λH I g=>dE<|K.ex (gf u).1 z st x y D λv m i L _=>B (gf u).2 i.st (x.nx i st) (y.nx i st) I λvs M j q=>h _ _ (i.trans j)<|rS (sm g) <| .cons (L.nx j i.st) q
def A6{b}{s}(d:a.scope.kind= .function)(g:fz x=ah)(i:iO a x=U b)(f:b.holds s.heap v)(h:Q v s):aL (aQ W.prog W.w) A (loadName a x) Q E s:=by
 cases MU i with
 |dict k=>exact cm f λm j l=>gg d k j l h
 |cell c k e=>exact k.elim (λk=>wpAny_loadName_cell d k e f h) λk=>wpAny_loadName_free d k e f h<|n0 (n2 (n2 g).1).2
def fP{x}{v}{Q:aA->aw->Prop}(d:a.scope.kind= .function)(c:fz x=ah)(e:iO a x=U b)(f:b.holds s.heap v)(h:Q v s):aL (aQ W.prog W.w) A (eval (.Name x g) a) Q E s:=og (A6 d c e f h)<|n0 (n2 (n2 c).1).1
def ib{o}(h:JF o i=ah):o=U i:=by
 induction o using bX with
 |none=>exact ff h
 |some a=>exact az U<|aJ h
def lq{o}(h:CP o i=ah):o=U i:=by
 induction o using bX with
 |none=>exact ff h
 |some a=>exact az U<|aq h
def V_{s}{i}{Q:aA->aw->Prop}(g:gW N (f+1) X e (.var i)=ah)(st:St W s)(k:cV W m X d env s.heap)(n:(env[i]?).bind id=U r) (h:∀l j,Nx W s j->bf W m j.heap r l->Q l j):aL (aQ W.prog W.w) A (eval e d) Q E s:=
 jc (vA g) λ_ _ g=>gO n λ_ o q=>
  let⟨_,_,a,b,c⟩:=k.slot _ _ _ (ib (n2 g).1)<|o.trans<|az U q
  fP k.kind (n2 g).2 a b (h _ _ (.refl st) c)
def qk{s:a7}{l:aj Y}(h:fT s.cps.toList l=ah):s=⟨l.toArray⟩:=az (λl=>(⟨EV l⟩:a7))<|li.mp h
def K8(b:aj nO):(b.map UInt8.toNat).map bT=b:=by
 induction b with
 |nil=>exact J
 |cons x b a=>exact List.cons_eq_cons.mpr ⟨UInt8.ofNat_toNat,a⟩
def Wh{e:Expr}{Q:aA->aw->Prop}(d:gW N (f+1) X e (.lit v)=ah)(st:St W s) (h:∀i g,Nx W s g->bf W l g.heap v i->Q i g):aL (aQ W.prog W.w) A (eval e j) Q E s:=
 rK (vA d) λk _ _ d=>by
  refine rP (arm_eval_Constant ..) ?_;have a:=WE d;clear d;induction k using PySem.Const.casesOn with
  |none=>exact aM<|h _ _ (.refl st)<|rS (sm a) <| vN
  |bool b=>exact aM<|h _ _ (.refl st)<|rS (sm a) <| vB
  |int b=>exact wpAny_mkInt<|h _ _ ((Nx.refl st).tok)<|rS (sm a) <| vI
  |float b=>exact wpAny_mkFloat<|h _ _ ((Nx.refl st).tok)<|rS (sm a) <| vF
  |str b=>exact λ_ _ _=>h _ _ ((Nx.refl st).tok)<|rS (sm a) <| vS
  |bytes b=>exact λ_ _ _=>h _ _ ((Nx.refl st).tok) (rS (sm a) <| vY (K8 b).symm λc d=>let⟨x,_,e⟩:=bZ.mp d;e▸x.toNat_lt)
  |_=>exact nd a
end
section
variable {k:Kn} {g:aX->Prop} {d:Env}
def i5.back(x:Nx W s b)(st:St W s)(h:i5 b v):i5 s v:=λa e=>x.new st<|h a e
def Wp(K:KS W N fa k n)(t:Rm n A)(j:gW N (f+1) X e (.bin M a b)=ah)(st:St W s)(z:Av g s)(L:cV W g X m d s.heap)
  (B:((k.ex d a).bind λx=>(k.ex d b).bind λy=>binop M x y)=U r)
  (h:∀D H,Nx W s H->bf W g H.heap r D->i5 s D->Q D H):aL (aQ W.prog W.w) A (eval e m) Q E s:=by
 refine pR (vA j) λl o u p j=> ?_;obtain rfl:=aq (n2 j).1;have c1:=(n2 (n2 j).2).1;have c2:=(n2 (n2 j).2).2;clear j;obtain⟨x,O,B⟩:=ef B;obtain⟨y,e2,e3⟩:=ef B;refine wN<|K.ex c1 t st z L O λv s1 q rv _=> ?_;refine K.ex c2 t q.st (z.nx q st) (L.nx q st) e2 λu s2 c ru _=> ?_;have i:=q.trans c;refine BY t.handled c.st (z.nx i st).lt e3 (rv.nx c q.st) ru λw s3 I r9 fr=> ?_;exact h _ _ (i.trans I) r9<|i5.back i st fr
def ZJ(K:KS W N fa k n)(q:Rm n A)(c:gW N (f+1) X e (.un t a)=ah)(st:St W s)(y:Av g s)(z:cV W g X b d s.heap)
  (B:((k.ex d a).bind λx=>unop t x)=U r)
  (h:∀l i,Nx W s i->bf W g i.heap r l->Q l i):aL (aQ W.prog W.w) A (eval e b) Q E s:=by
 refine tY (vA c) λo u p c=> ?_;obtain rfl:=aq (n2 c).1;have c1:=(n2 c).2;obtain⟨x,D,H⟩:=ef B;refine wpAny_UnaryOp<|K.ex c1 q st y z D λv s1 m I _=> ?_;refine YR m.st H I λw M j L O=> ?_;exact h _ _ (m.trans j) L
def Wj(K:KS W N fa k n)(B:Rm n A)(j:gW N (f+1) X e (.ite t a b)=ah)(st:St W s)(D:Av g s)(H:cV W g X q d s.heap)
  (I:((k.ex d t).bind λv=>(truth v).bind λr=>match r with|true=>k.ex d a|false=>k.ex d b)=U r)
  (h:∀L M,Nx W s M->bf W g M.heap r L->(∀m,xu N m (.ite t a b)=ah->i5 s L)->Q L M):aL (aQ W.prog W.w) A (eval e q) Q E s:=by
 refine yH (vA j) λl o u p j=> ?_;have c0:=(n2 j).1;have c1:=(n2 (n2 j).2).1;have c2:=(n2 (n2 j).2).2;obtain⟨x,e1,I⟩:=ef I;obtain⟨y,e2,e3⟩:=ef I;refine wpAny_IfExp<|K.tr c0 B st D H e1 e2 λs1 c=> ?_;induction y using dC
 ·refine K.ex c2 B c.st (D.nx c st) (H.nx c st) e3 λu s2 i O fr=> ?_;refine h _ _ (c.trans i) O λm z=> ?_;induction m using cg with
  |zero=>exact ff z
  |succ m=>exact(fr m (n2 z).2).back c st
 ·refine K.ex c1 B c.st (D.nx c st) (H.nx c st) e3 λu s2 i O fr=> ?_;refine h _ _ (c.trans i) O λm z=> ?_;induction m using cg with
  |zero=>exact ff z
  |succ m=>exact(fr m (n2 z).1).back c st
def JO(K:KS W N fa k n)(L:Rm n A){o}:∀{j} {r} {s} {Q:aA->aw->Prop},
  all2 (gW N f X) o j=ah->St W s->Av g s->cV W g X q d s.heap->tF k d M j=U r->
  (∀v y,Nx W s y->bf W g y.heap r v->Q v y)->aL (aQ W.prog W.w) A (boolOp α M<|o.map λe=>eval e q) Q E s:=by
 induction o with
 |nil=>
  intro j r s Q h _ _ _ e;cases j with
  |nil=>exact nd e
  |cons=>exact ff h
 |cons e o ih=>
  intro j r s Q B st D H a h;cases j with
  |nil=>exact nd a
  |cons c j=>
   obtain⟨O,h2⟩:=gf B;cases o with
   |nil=>cases j with
    |nil=>exact K.ex O L st D H a λv y t z _=>h _ _ t z
    |cons=>exact nomatch oe B
   |cons e' o=>cases j with
    |nil=>exact nomatch oe B
    |cons c' j=>
     obtain⟨x,e1,a⟩:=ef a
     obtain⟨b,e2,a⟩:=ef a
     refine al<|K.ex O L st D H e1 λv s1 t z _=> ?_
     refine al<|dK<|al<|cC<|yF t.st e2 z λs2 l=> ?_
     have i:=t.trans l
     have stop:U x=U r->Q v s2:=λa=>h _ _ i<|rS (sm a) <| z.nx l t.st
     have go:=ih (r:=r) (Q:=Q) h2 l.st (D.nx i st)<|H.nx i st
     induction M using p_<;>induction b using dC
     ·exact aM<|stop a
     ·exact go a λu s3 m I=>h _ _ (i.trans m) I
     ·exact go a λu s3 m I=>h _ _ (i.trans m) I
     ·exact aM<|stop a
def Wn(K:KS W N fa k n)(j:Rm n A)(b:gW N (f+1) X e (.O9 l m)=ah)(st:St W s)(q:Av g s)(t:cV W g X a d s.heap)
  (v:tF k d l m=U r)
  (h:∀i c,Nx W s c->bf W g c.heap r i->Q i c):aL (aQ W.prog W.w) A (eval e a) Q E s:=by
 refine AY (vA b) λo u p b=> ?_;obtain rfl:=aq (n2 b).1;have c1:=(n2 b).2;exact rP (arm_eval_BoolOp ..) <| rP (qG ..) <| JO K j c1 st q t v h
def yT{a}:∀{i} {j},all2 (gW N f X) i j=ah->a.length=i.length->markedEach a i (i.map λe=>eval e b)=i.map λe=>eval e b:=by
 induction a with
 |nil=>
  intro i j _ h;cases i with
  |nil=>rfl
  |cons=>cases h
 |cons n a o=>
  intro i j h l;cases i with
  |nil=>cases l
  |cons e i=>cases j with
   |nil=>exact ff h
   |cons c j=>
    have l:=fO l
    cases a with
    |nil=>
     obtain rfl:=nB l.symm
     show[markedBehindIn n e<|eval e b]=_
     exact rP (markedBehindIn_of_false<|DC<|sI (gf h).1) J
    |cons m a=>
     show eval e b::markedEach (m::a) i (i.map λe=>eval e b)=_
     exact rP (o (gf h).2 l) J
inductive acJ(k:Kn)(d:Env)(x:PV)(op op':jh)(ops:aj jh)(c:C)(cs:aj C)(r:aB):Prop
 |mk (y:PV) (b:aB) (h1:k.ex d c=U y) (h2:i4 op x y=U b) (h3:(b=af/\r=af)\/(b=ah/\tD k d y (op'::ops) cs=U r))
def za(h:tD k d x (i::a::f) (c::j)=U r):acJ k d x i a f c j r:=
 gO h λy l e=>gO e λb m e=>⟨y,b,l,m,by
  cases b
  ·exact .inl ⟨J,(sm e).symm⟩
  ·exact .inr ⟨J,e⟩⟩
def JL(K:KS W N fa k n)(u:Rm n A):∀{i} {m} {q} {x} {a} {r} {s} {Q:aA->aw->Prop},
  i.length=m.length->0<i.length->all2 (gW N f X) m q=ah->St W s->Av g s->cV W g X t d s.heap->tD k d x i q=U r->bf W g s.heap x a->
  (∀s',Nx W s s'->Q (.bool r) s')->aL (aQ W.prog W.w) A (compareChain β a i<|m.map λe=>eval e t) Q E s:=by
 intro i;induction i with
 |nil=>intro m q x a r s Q z h0;exact bI h0<|e_ _
 |cons op i ih=>
  intro m q x a r s Q z _ D st H I ev ra h;induction m using aE with
  |nil=>cases z
  |cons e m=>
   induction q using aE with
   |nil=>exact ff D
   |cons c q=>
    obtain⟨c1,c2⟩:=gf D;induction i using aE with
    |nil=>
     induction m using aE with
     |cons _ _=>simp at z
     |nil=>
      induction q using aE with
      |cons _ _=>have:=oe D;simp at this
      |nil=>obtain⟨y,L,M⟩:=ef (show(k.ex d c).bind (λr=>i4 op x r)=U r from ev);refine al<|cC<|K.ex c1 u st H I L λv s1 o B _=> ?_;exact al<|dK<|aa6 (BX u o.st M (ra.nx o st) B λs2 j=>h _<|o.trans j)
    |cons γ i=>
     obtain⟨y,b,L,M,O⟩:=za ev;refine al<|cC<|K.ex c1 u st H I L λv s1 o B _=> ?_;refine al<|dK<|al<|cC<|BX u o.st M (ra.nx o st) B λs2 j=> ?_;have l:=o.trans j;refine al<|ye ?_;refine al<|cC<|gI ?_;rcases O with⟨rfl,rfl⟩|⟨rfl,O⟩
     ·exact aM<|h _ l
     ·exact ih (by simpa using z) (by simp) c2 j.st (H.nx l st) (I.nx l st) O (B.nx j o.st) λs3 α=>h _<|l.trans α
def Wm(K:KS W N fa k n)(y:Rm n A)(a:gW N (f+1) X e (.cmp l j I)=ah)(st:St W s)(z:Av g s)(B:cV W g X c d s.heap)
  (m:((k.ex d l).bind λx=>(tD k d x j I).bind λb=>U<|.bool b)=U r)
  (h:∀D q,Nx W s q->bf W g q.heap r D->Q D q):aL (aQ W.prog W.w) A (eval e c) Q E s:=by
 refine qw (vA a) λo u v p a=> ?_;obtain rfl:=aq (n2 a).1;have c1:=(n2 (n2 a).2).1;have c2:=(n2 (n2 (n2 a).2).2).1;have H:=(n2 (n2 (n2 (n2 a).2).2).2).1;have L:=(n2 (n2 (n2 (n2 a).2).2).2).2;clear a;obtain⟨x,M,m⟩:=ef m;obtain⟨b,O,e3⟩:=ef m;obtain rfl:=sm e3;refine rP (arm_eval_Compare ..)<|rP (qG ..) ?_;refine rP (yT c2 (aJ H) ..) ?_;refine al<|K.ex c1 y st z B M λv s1 i rv _=> ?_;refine JL K y (aJ H) (aD L) c2 i.st (z.nx i st) (B.nx i st) O rv λs2 t=> ?_;exact h _ _ (i.trans t)<|by rfl
def C5(K:KS W N fa k n)(u:Rm n A):∀{i} {m} {q} {x} {a} {r} {s} {Q:aB->aw->Prop},
  i.length=m.length->0<i.length->all2 (gW N f X) m q=ah->St W s->Av g s->cV W g X t d s.heap->tD k d x i q=U r->bf W g s.heap x a->
  (∀s',Nx W s s'->Q r s')->aL (aQ W.prog W.w) A (testChain β a i<|m.map λe=>eval e t) Q E s:=by
 intro i;induction i with
 |nil=>intro m q x a r s Q z h0;exact bI h0<|e_ _
 |cons op i ih=>
  intro m q x a r s Q z _ D st H I ev ra h;induction m using aE with
  |nil=>cases z
  |cons e m=>
   induction q using aE with
   |nil=>exact ff D
   |cons c q=>
    obtain⟨c1,c2⟩:=gf D;induction i using aE with
    |nil=>
     induction m using aE with
     |cons _ _=>simp at z
     |nil=>
      induction q using aE with
      |cons _ _=>have:=oe D;simp at this
      |nil=>obtain⟨y,L,M⟩:=ef (show(k.ex d c).bind (λr=>i4 op x r)=U r from ev);refine al<|cC<|K.ex c1 u st H I L λv s1 o B _=> ?_;exact al<|dK<|al<|aa6 (BX u o.st M (ra.nx o st) B λs2 j=>cC<|gI<|h _<|o.trans j)
    |cons γ i=>
     obtain⟨y,b,L,M,O⟩:=za ev;refine al<|cC<|K.ex c1 u st H I L λv s1 o B _=> ?_;refine al<|dK<|al<|cC<|BX u o.st M (ra.nx o st) B λs2 j=> ?_;have l:=o.trans j;refine al<|ye ?_;refine al<|cC<|gI ?_;rcases O with⟨rfl,rfl⟩|⟨rfl,O⟩
     ·exact aM<|h _ l
     ·exact ih (by simpa using z) (by simp) c2 j.st (H.nx l st) (I.nx l st) O (B.nx j o.st) λs3 α=>h _<|l.trans α
def JX(K:KS W N fa k n)(v:Rm n A):∀{t} {j} {r} {b} {s} {Q:aB->aw->Prop},
  all2 (gW N f X) t j=ah->St W s->Av g s->cV W g X u d s.heap->tF k d B j=U r->truth r=U b->
  (∀D,Nx W s D->Q b D)->aL (aQ W.prog W.w) A (allTrue B t u) Q E s:=by
 intro t;induction t with
 |nil=>
  intro j r b s Q y st m o i;induction j using aE with
  |nil=>exact nd i
  |cons _ _=>exact ff y
 |cons e t H=>
  intro j r b s Q y st m o i l h;induction j using aE with
  |nil=>exact ff y
  |cons c j=>
   obtain⟨c1,c2⟩:=gf y;induction j using aE with
   |nil=>
    induction t using aE with
    |cons _ _=>exact ff c2
    |nil=>
     induction B using p_
     ·refine OP<|K.tr c1 v st m o i l λs1 a=> ?_;induction b using dC
      ·exact h _ a
      ·exact wpAny_allTrue_And_nil<|h _ a
     ·refine Pc<|K.tr c1 v st m o i l λs1 a=> ?_;induction b using dC
      ·exact wpAny_allTrue_Or_nil<|h _ a
      ·exact h _ a
   |cons M j=>
    obtain⟨x,I,i⟩:=ef i;obtain⟨b1,z,i⟩:=ef i;induction B using p_
    ·refine OP<|K.tr c1 v st m o I z λs1 a=> ?_;induction b1 using dC
     ·obtain rfl:=sm i;rw[z]at l;obtain rfl:=sm l;exact h _ a
     ·exact H c2 a.st (m.nx a st) (o.nx a st) i l λL q=>h _<|a.trans q
    ·refine Pc<|K.tr c1 v st m o I z λs1 a=> ?_;induction b1 using dC
     ·exact H c2 a.st (m.nx a st) (o.nx a st) i l λL q=>h _<|a.trans q
     ·obtain rfl:=sm i;rw[z]at l;obtain rfl:=sm l;exact h _ a
end
structure vn(W:Wd):Prop where
 found:∀{m:OA} {o r:PV} {as:aj PV} {s:aw} {av:aX->Prop} {ov:aA},FG m o as=U r->St W s->bf W av s.heap o ov->Found s ov (MK m) (mid m o)
 call:∀{m:OA} {o r:PV} {as:aj PV} {s:aw} {av:aX->Prop} {ov:aA} {vs:aj aA} {n:Y} {A:cZ} {Q:aA->aw->Prop} {E:aA->aw->Prop},
  Rm n A->St W s->Av av s->FG m o as=U r->bf W av s.heap o ov->ba W av s.heap as vs->(∀v' s',Nx W s s'->bf W av s'.heap r v'->Q v' s')->
  aL (aQ W.prog W.w) A (PySem.call (.builtin<|mid m o)<|ov::vs) Q E s
 rdot:∀{s:aw} {av:aX->Prop} {l:aj Y} {tx:pq} {n:Y} {A:cZ} {Q:aA->aw->Prop} {E:aA->aw->Prop} {t u:pq},
  Rm n A->St W s->l.length<=big->t≠0->u≠0->t≠u->(∀v' s',Nx W s s'->bf W av s'.heap (.str<|kS l) v'->Q v' s')->
  aL (aQ W.prog W.w) A (PySem.call (.builtin "str.replace") [.str ⟨l.toArray⟩ tx,.str ⟨[10,46].toArray⟩ t,.str ⟨[10,46,46].toArray⟩ u]) Q E s
section
variable {E:aA->aw->Prop} {j:aX->Prop} {i:Env}
def n9(g:Glob W x v)(c:WG X x=ah)(st:St W s)(b:cV W j X a i s.heap)(h:Q v s):aL (aQ W.prog W.w) A (eval (.Name x d) a) Q E s:=g A E s Q a _ st b.kind b.glob b.blt (show a.scope.names.lookup _=_ from rP b.names <| lq (n2 c).1) h
def Wl(G:nH W N fa)(b:gW N (f+1) X e (.TH v)=ah)(st:St W s)(k:cV W j X a i s.heap) (h:∀d c,Nx W s c->bf W j c.heap v d->Q d c):aL (aQ W.prog W.w) A (eval e a) Q E s:=
 jc (vA b) λx _ b=>let⟨_,g,l⟩:=kD (n2 b).2
  n9 ((G.gv _ _ g).choose_spec.1) (n2 b).1 st k (h _ _ (.refl st)<|NT l▸(G.gv _ _ g).choose_spec.2 _ _)
def HZ{a}:∀{b},qV k i a=U b->b.length=a.length:=by
 induction a with
 |nil=>intro b e;obtain rfl:=sm e;rfl
 |cons c a d=>intro b e;obtain⟨r,h,e⟩:=ef e;obtain⟨f,g,e⟩:=ef e;obtain rfl:=sm e;simp[d g]
def Wf(K:KS W N fa k n)(u:Rm n A)(a:gW N (f+1) X e (.lst v)=ah)(st:St W s)(o:Av j s)(x:cV W j X b i s.heap)
  (y:((qV k i v).bind λvs=>U<|.lst vs)=U r)
  (h:∀c d,Nx W s d->bf W j d.heap r c->i5 s c->Q c d):aL (aQ W.prog W.w) A (eval e b) Q E s:=by
 refine Hr (vA a) λO z a=> ?_;replace a:=n2 a;obtain⟨rs,q,B⟩:=ef y;obtain rfl:=sm B;refine wpAny_List ?_;refine rP (i' a.1) ?_;refine wy K u a.1 st o x q λvs s1 g t=>⟨?_,?_⟩
 ·have D:=aD a.2;have H:=oe a.1;have I:=t.length;have L:=HZ q;exact rP cS <| gr 0x332023303321310003f91110000006f901 D H I L
 ·exact yk g.st (λc d l m M=>h _ _ (g.trans l) m<|i5.back g st M) (o.nx g st).lt t
def V'(K:KS W N fa k n)(u:Rm n A)(a:gW N (f+1) X e (.tup v)=ah)(st:St W s)(o:Av j s)(x:cV W j X b i s.heap)
  (y:((qV k i v).bind λvs=>U<|.tup vs)=U r)
  (h:∀d c,Nx W s c->bf W j c.heap r d->Q d c):aL (aQ W.prog W.w) A (eval e b) Q E s:=by
 refine pQ (vA a) λM _ z a=> ?_;replace a:=n2 a;obtain⟨O,q,B⟩:=ef y;obtain rfl:=sm B;refine CQ ?_;refine rP (i' a.1) ?_;refine wy K u a.1 st o x q λvs s1 g t=>⟨?_,?_⟩
 ·have D:=aD a.2;have H:=oe a.1;have I:=t.length;have L:=HZ q;exact rP cS <| gr 0x332023303321310003f91110000006f901 D H I L
 ·exact AG g.st (λd c l m fr=>h _ _ (g.trans l) m) (o.nx g st).lt t
def rA(a:aj Expr):(a.map λe=>(af,eval e b)).any (·.1)=af:=by
 induction a with
 |nil=>rfl
 |cons e a c=>simp[c]
def oa(K:KS W N fa k n)(d:Rm n A)(l:0<b.length)(m:all2 (gW N f X) b o=ah)(st:St W s)(q:Av j s)
  (r:cV W j X a i s.heap) (t:qV k i o=U u) (h:∀vs c,Nx W s c->ba W j c.heap u vs->Q ⟨vs,[]⟩ c):
  aL (aQ W.prog W.w) A (evalArgs g ah (b.map λe=>(af,eval e a)) []) Q E s:=by
 induction b using aE with
 |nil=>exact bI l<|e_ _
 |cons e b=>have:=wy (E:=E) K d m st q r t h;exact f4 this
def Rl(G:nH W N fa)(K:KS W N fa k n)(z:Rm n A)(m:gW N (f+1) X e (.call g as)=ah)(st:St W s)(B:Av j s)
  (D:cV W j X b i s.heap) (I:((qV k i as).bind λvs=>k.ca g vs)=U r)
  (h:∀t u,Nx W s u->bf W j u.heap r t->(N.fr g=ah->i5 s t)->Q t u):aL (aQ W.prog W.w) A (eval e b) Q E s:=by
 refine tz (vA m) λx q xs L m=>gO I λrs M O=> ?_;have c:=n2 (n2 m).2;have H:=ib c.1;have a:=n2 c.2;refine rP (ik ..) ?_;refine al<|n9 (G.fn _ _ H) (n2 m).1 st D ?_;refine oV (G.fd _ _ H) λo d h1 h2=> ?_;refine rP (i' a.1 ..) ?_;refine kZ (o:=o) (fd:=d) ?_
 exact oa K z (aD (n2 a.2).2) a.1 st B D M λvs s1 l rv=>⟨⟨l.st.stay _ _ h1,h2⟩,K.ca z l.st (B.nx l st) O rv λv s2 y ru fr=>h _ _ (l.trans y) ru λq=>(fr q).back l st⟩
def Wo(G:nH W N fa)(K:KS W N fa k n)(g:Rm n A)(a:gW N (f+1) X e (.blt b as)=ah)(st:St W s)(l:Av j s)
  (m:cV W j X c i s.heap) (B:((qV k i as).bind λvs=>oP b vs)=U r)
  (h:∀o t,Nx W s t->bf W j t.heap r o->i5 s o->Q o t):aL (aQ W.prog W.w) A (eval e c) Q E s:=by
 refine tz (vA a) λD q xs H a=> ?_;have c1:=(n2 a).1;have c2:=(n2 (n2 a).2).1;have u:=(n2 (n2 (n2 a).2).2).1;have y:=(n2 (n2 (n2 (n2 a).2).2).2).2;obtain⟨I,z,L⟩:=ef B;have M:R6.lookup D=U b:=let⟨_,O,q2⟩:=kD c2;aq q2▸O;refine rP (ik ..) ?_;refine al<|n9 (G.bl _ _ M) c1 st m ?_;refine rP (i' u ..) ?_
 have fin:∀vs s1,Nx W s s1->ba W j s1.heap I vs->aL (aQ W.prog W.w) A (call (JN b)<|[]++vs) Q E s1:=λvs s1 d rv=>Vr g d.st (l.nx d st).lt L rv λv s2 x ru fr=>h _ _ (d.trans x) ru<|i5.back d st fr
 induction b using Kr.casesOn<;>first
  |exact lI (rA _)<|oa K g (aD y) u st l m z fin
  |exact jo (rA _)<|oa K g (aD y) u st l m z fin
def qL{i}(h:v9 o=ah):attributeBase o a i (eval o i)=eval o i:=by
 induction o using Expr.casesOn with
 |Call f b c p=>induction f using Expr.casesOn with
  |Name x q=>induction b using aE with
   |nil=>induction c using aE with
    |nil=>exact ff h
    |cons=>rfl
   |cons=>rfl
  |_=>rfl
 |_=>rfl
def IE(a:aj Expr):(a.map λe=>(af,eval e b)).all (λx=> !x.1)=ah:=by
 induction a with
 |nil=>exact J
 |cons _ a c=>exact c
def V8(d:all2 (gW N f X) a as=ah)(e:a.length<16):((GJ c<|s_ a b).all (λx=> !x.1)&&(backToKw c<|keywordEach [] b).all (λx=>x.1.isSome) &&decide (a.length+([]:aj Keyword).length+(if([]:aj Keyword).isEmpty then 0 else 1)<30))=ah:=f6.mpr ⟨f6.mpr ⟨rP (i' d) <| IE a,J⟩,bD (show a.length<30 from aV e<|dcd J)⟩
def We(M:vn W)(K:KS W N fa k n)(u:Rm n A)(a:gW N (f+1) X e (.FF m o as)=ah)(st:St W s)(z:Av j s)
  (I:cV W j X d i s.heap) (B:((k.ex i o).bind λx=>(qV k i as).bind λvs=>FG m x vs)=U r)
  (h:∀L D,Nx W s D->bf W j D.heap r L->Q L D):aL (aQ W.prog W.w) A (eval e d) Q E s:=by
 refine yG (vA a) λy nm ap xs α a=> ?_;have c0:=aq (n2 a).1;have c1:=(n2 (n2 a).2).1;have c2:=(n2 (n2 (n2 a).2).2).1;have c3:=(n2 (n2 (n2 (n2 a).2).2).2).1;have c4:=(n2 (n2 (n2 (n2 (n2 a).2).2).2).2).1;have q:=(n2 (n2 (n2 (n2 (n2 a).2).2).2).2).2;obtain rfl:=c0;clear a;obtain⟨x,e1,B⟩:=ef B;obtain⟨rs,O,e3⟩:=ef B;have g:=aD c3;refine mD (qL c2) (V8 q g) (Nat.beq_eq_true_eq ..▸(by simpa using aJ c1)) ?_;refine K.ex c4 u st z I e1 λov s1 c ro _=> ?_;refine abu (M.found e3 c.st ro) λT pa l ty hT hd=> ?_;refine⟨T,_,pa,l,ty,hT,hd,?_⟩;refine rP (i' q) ?_
 have fin:∀vs t,Nx W s1 t->ba W j t.heap rs vs->aL (aQ W.prog W.w) A (call (.builtin<|mid m x)<|ov::vs) Q E t:=λvs t b rv=>M.call u b.st (z.nx (c.trans b) st) e3 (ro.nx b c.st) rv λv s3 H ru=>h _ _ ((c.trans b).trans H) ru
 refine lI (rA _) ?_;induction xs using aE with
 |nil=>
  induction as using aE with
  |cons _ _=>exact ff q
  |nil=>obtain rfl:=sm O;exact PySem.evalArgs_none<|fin [] _ (.refl c.st) .nil
 |cons y ys=>exact oa K u (fj _) q c.st (z.nx c st) (I.nx c st) O fin
def Wa(K:KS W N fa k n)(m:Rm n A)(d:gW N (f+1) X e (.sub a b)=ah)(st:St W s)(D:Av j s)(H:cV W j X g i s.heap)
  (o:((k.ex i a).bind λx=>(k.ex i b).bind λy=>mH x y)=U r)
  (h:∀I q,Nx W s q->bf W j q.heap r I->Q I q):aL (aQ W.prog W.w) A (eval e g) Q E s:=by
 refine jb (vA d) λy z L d=> ?_;have c0:=(n2 d).1;have c1:=(n2 (n2 d).2).1;have c2:=(n2 (n2 d).2).2;obtain⟨x,M,o⟩:=ef o;obtain⟨y,O,e3⟩:=ef o;refine Xx<|K.ex c1 m st D H M λv s1 l rv _=> ?_;refine K.ex c2 m l.st (D.nx l st) (H.nx l st) O λu s2 c ru _=> ?_;have t:=l.trans c;exact L' m c.st e3 (rv.nx c l.st) ru λw s3 B r9=>h _ _ (t.trans B) r9
def AX(K:KS W N fa k n)(l:Rm n A)(d:Oa (gW N f X) e c=ah)(st:St W s)(m:Av j s)(q:cV W j X a i s.heap) (g:tA k i c=U o) (h:∀v b,Nx W s b->zu W j b.heap o v->Q v b):aL (aQ W.prog W.w) A (evalPart e a) Q E s:=by
 induction e using bX with
 |none=>induction c using bX with
  |none=>exact rP (evalPart_none ..) <| aM<|h _ _ (.refl st)<|rS (sm g) <| J
  |some c=>exact ff d
 |some e=>induction c using bX with
  |none=>exact ff d
  |some c=>exact rP (evalPart_some ..) <| gO g λv r t=>K.ex d l st m q r λv b u x _=>h _ _ u<|rS (sm t) <| x
def zu.nx(x:Nx W s a)(y:St W s)(r:zu W j s.heap o v):zu W j a.heap o v:=by
 induction o using bX with
 |none=>exact r
 |some p=>exact bf.nx x y r
def Wc{lo hi}{r}{Q:aA->aw->Prop}(K:KS W N fa k n)(D:Rm n A)(c:gW N (f+1) X e (.xP o lo hi)=ah)(st:St W s)(H:Av j s)(I:cV W j X m i s.heap)
  (q:((k.ex i o).bind λx=>(tA k i lo).bind λl=>(tA k i hi).bind λh=>oW x l h)=U r)
  (h:∀L M,Nx W s M->bf W j M.heap r L->i5 s L->Q L M):aL (aQ W.prog W.w) A (eval e m) Q E s:=by
 refine jb (vA c) λy z α c=>Mj c λl u t p c=> ?_;have ct:=(n2 c).1;have c0:=(n2 (n2 c).2).1;have c1:=(n2 (n2 (n2 c).2).2).1;have c2:=(n2 (n2 (n2 c).2).2).2;obtain rfl:=dF.mp ct;obtain⟨x,e1,q⟩:=ef q;obtain⟨l,e2,q⟩:=ef q;obtain⟨u,e3,e4⟩:=ef q;refine Xx<|K.ex c0 D st H I e1 λv s1 B rv _=> ?_;refine wpAny_Slice<|AX K D c1 B.st (H.nx B st) (I.nx B st) e2 λvl s2 a rl=> ?_;have d:=B.trans a;refine AX K D c2 a.st (H.nx d st) (I.nx d st) e3 λvh s3 b rh=> ?_;have g:=d.trans b;refine rP (evalPart_none ..) ?_;refine aM ?_;refine Ma D b.st (H.nx g st).lt e4 ((rv.nx a B.st).nx b a.st) (rl.nx b a.st) rh λw s4 O r9 fr=> ?_;exact h _ _ (g.trans O) r9<|i5.back g st fr
end
section
variable {k:Kn}
def u4(h:VX a i=ah):i∈a:=by refine cm (q9.mp h) λj b e=> ?_;exact rP (aJ e) b
def PC(f:cV W D X a env s.heap)(l:fz x=ah)(m:fz y=ah)(t:XO a x y s.heap) (n:(e= .Is/\b=af)\/(e= .IsNot/\b=ah)) (h:Q (.bool b) s):aL (aQ W.prog W.w) A (eval (.Compare (.Name x H) [e] [.Name y o] q) a) Q E s:=by
 refine t.casesOn λr u v z g c d=> ?_;refine dQ (c) λI i=> ?_;refine dQ (d) λL j=> ?_;have B:behindInMarks e (.Name y o)=af:=J;refine wpAny_Compare1 (fP f.kind l r v<|fP f.kind m u z ?_) B;rcases n with⟨rfl,rfl⟩|⟨rfl,rfl⟩
 ·exact Xd g i j (by show cK "list"≠cK "tuple";decide) h
 ·exact Pb g i j (by show cK "list"≠cK "tuple";decide) h
def Rk(c:gW N (f+1) X e (.dist i j neg)=ah)(st:St W s)(D:cV W L X d env s.heap)
  (g:(((env[i]?).bind id).bind λ_=>((env[j]?).bind id).bind λ_=>U<|PV.bool neg)=U r)
  (h:∀H m,Nx W s m->bf W L m.heap r H->Q H m):aL (aQ W.prog W.w) A (eval e d) Q E s:=by
 refine qw (vA c) λa os M p c=>jc c λx O c=>rL c λop c=>rL c λw c=>jc c λy py c=> ?_;refine gO g λu n g=>gO g λv o g=>gO n λa n t=>gO o λb o z=> ?_;have l:=n2 (n2 c).2;have I:=n2 (n2 l.2).2;have B:=n2 (n2 I.2).2;exact PC D (n2 l.2).1 (n2 (n2 l.2).2).1 (D.uqs _ _ _ _ _ _ (ib (n2 c).1) (ib l.1) (u4 (n2 I.2).1) (u4 B.1) (λq=>tf (by have:=n0 (n2 B.2).1;rw[q,kw]at this;exact this)) (n.trans<|az U t)<|o.trans<|az U z) (HH (n2 B.2).2)<|h _ _ (.refl st)<|rS (sm g) <| vB
theorem vZ:∀(l),(kS l).length<=2*l.length
 |[]=>aZ _
 |[c]=>iK 1
 |c::d::t=>by
  show(match aF c 10&&aF d 46 with|true=>10::46::46::kS t|false=>c::kS (d::t)).length<=_;cases aF c 10&&aF d 46 with
  |true=>have:=vZ t;simp only[bK];exact cQ 5277731967994802 this
  |false=>have:=vZ<|d::t;simp only[bK]at this⊢;exact cQ 478012977654786 this
def qm:zG "str"/\Slot "str" "replace" "str.replace"/\GG (.builtin "str.replace")=gZ (.type "method_descriptor"):=⟨J_,F.slot_str_replace,F.type_str_replace⟩
def UP:GJ b (s_ [.Constant c e f,.Constant d g h] a)=[(af,eval (.Constant c e f) a),(af,eval (.Constant d g h) a)]:=J
set_option tactic.hygienic true in
def Rj(M:vn W)(K:KS W N fa k n)(z:Rm n A)(a:gW N (f+1) X e (.rdot o)=ah)(st:St W s)(L:Av j s)(er:cV W j X c env s.heap)
  (b:((k.ex env o).bind λx=>match x with| .str s=>(match aY s.length 65536 with|true=>U (PV.str<|46::kS s)|false=>ag)|_=>ag)=U r)
  (h:∀O B,Nx W s B->bf W j B.heap r O->Q O B):aL (aQ W.prog W.w) A (eval e c) Q E s:=by
 refine pR (vA a) λl0 op w p0 a=>Fv a λd i1 p1 a=>yG a λy n ap xs α a=>Mk a λu v a=>Fv a λp i2 p2 a=>Fv a λq i3 p3 a=> ?_;have m:=n2 (n2 a).2;have h3:=n2 m.2;have h4:=n2 h3.2;have h5:=n2 h4.2;have h6:=n2 h5.2;have h7:=n2 h6.2;obtain rfl:=aq (n2 a).1;obtain rfl:n="replace":=dW h5.1;refine gO b λx e1 b=> ?_;clear a;induction x using PV.casesOn
 case str l=>
  replace b:(match aY l.length 65536 with|true=>U (PV.str<|46::kS l)|false=>ag)=U r:=b
  cases D:aY l.length 65536 with
  |false=>rw[D]at b;exact nd b
  |true=>
   rw[D]at b
   obtain rfl:=sm b
   have hb:=aD D
   refine rP (qk m.1)<|rP (qk h3.1)<|rP (qk h4.1) ?_
   refine wN<|jn ?_
   have t:Nx W s {s with toks:=s.toks+1}:=(Nx.refl st).tok
   refine mD (qL h7.1) (by rfl) (eR.mpr<|aJ h6.1) ?_
   refine wpAny_with_toks (n:=s.toks+1) (aZ _) ?_
   refine K.ex h7.2 z t.st (L.nx t st) (er.nx t st) e1 λov s1 nx ro _ H=>bf.yn ro λtx=> ?_
   refine⟨"str","str.replace",qm.1,qm.2.1,qm.2.2,oh _ _ _,(λ_ e=>nomatch e),?_⟩
   refine rP UP ?_
   refine lI J<|f4<|dE<|jn<|dE<|jn<|fe ?_
   have n2:Nx W s1 {s1 with toks:=s1.toks+1+1}:=(Nx.refl nx.st).tok
   refine M.rdot (av:=j) z n2.st (ab hb<|dcd J) (gw<|aV (fj _) H) (SO _) (c6<|io _) λv s2 i rv=> ?_
   have n3:=((t.trans nx).trans n2).trans i
   refine BY z.handled i.st (L.nx n3 st).lt ?_ vS rv λw s3 I r9 _=>h _ _ (n3.trans I) r9
   have h1:=vZ l
   have m:aY ([46].length+(kS l).length) big=ah:=aP (by simp only[bK,fC];exact cQ 0x42012c01100004f9111000005f907ba1 hb h1)
   show gL (aY ([46].length+(kS l).length) big) _=_
   exact rP m J
 all_goals exact nd b
end
noncomputable def Y7:aj o_:=["list_iterator","tuple_iterator","range_iterator","str_ascii_iterator","str_iterator","dict_keyiterator","list_reverseiterator","generator","frame","cell","enumerate"]
def xg(c:aA):Prop:=∃n,c= .type n/\n∈Y7
theorem Qr:∀n∈Y7,cK n≠ .none/\cK n≠ .type "list"/\cK n≠ .type "dict"/\cK n≠ .type "tuple"/\cK n≠ .type "range"/\cK n≠ .type "code":=by decide+kernel
def xg.ne(h:xg c):c≠ .none/\c≠ .type "list"/\c≠ .type "dict"/\c≠ .type "tuple"/\c≠ .type "range"/\c≠ .type "code":=cm h λn e a=>e▸Qr n a
structure Step(F:aX->Prop)(GI:Y->Prop)(s s':aw):Prop where
 keep:∀b o,¬F b->s.heap.get? b=U o->s'.heap.get? b=U o
 gens:∀i g,¬GI i->s.gens[i]? =U g->s'.gens[i]? =U g
 bare:OY s.gens->OY s'.gens
 os:s'.os=s.os
 size:s.gens.size<=s'.gens.size
structure Cu(av:aX->Prop)(G:aX->Prop)(s s':aw):Prop where
 keep:∀b o,¬G b->s.heap.get? b=U o->s'.heap.get? b=U o
 hold:∀b,G b->av b
 gens:s'.gens=s.gens
 os:s'.os=s.os
structure Kp(W:Wd)(A:cZ)(av:aX->Prop)(I:aX)(GI:Y->Prop)(inv:(aX->Prop)->aj PV->aw->Prop):Prop where
 nx:∀{F r s s'},inv F r s->St W s->Nx W s s'->inv F r s'
 chg:∀{F r s s'} {G:aX->Prop},inv F r s->Cu av G s s'->(∀b,G b->¬F b)->inv F r s'
 step:∀{F r s s'} {F2:aX->Prop} {GI2:Y->Prop},inv F r s->Step F2 GI2 s s'->(∀b,F2 b->¬F b)->(∀b o,F2 b->s.heap.get? b=U o->xg o.cls)->(∀i,GI2 i->¬GI i)->inv F r s'
 odd:∀{F r s b o},inv F r s->F b->s.heap.get? b=U o->xg o.cls
 there:∀{F r s b},inv F r s->F b->s.heap.get? b≠ag
 gi:∀{F r s i},inv F r s->GI i->i<s.gens.size
 item:∀{F x r} {s:aw} {Q:au aA->aw->Prop} {E:aA->aw->Prop},inv F (x::r) s->St W s->Av av s-> (∀v s' F',Step F GI s s'->(∀b,F' b->F b\/s.heap.get? b=ag)->bf W av s'.heap x v->inv F' r s'->Q (U v) s')->aL (aQ W.prog W.w) A (Xh<|.ref I) Q E s
 done:∀{F} {s:aw} {Q:au aA->aw->Prop} {E:aA->aw->Prop},inv F [] s->St W s-> (∀s',Step F GI s s'->Q ag s')->aL (aQ W.prog W.w) A (Xh<|.ref I) Q E s
 self:∀{F r} {s:aw} {Q:aA->aw->Prop} {E:aA->aw->Prop},inv F r s->Q (.ref I) s->aL (aQ W.prog W.w) A (OQ<|.ref I) Q E s
 go:∀{F r} {s:aw} {t:Expr} {v:aA} {Q:sY->aw->Prop} {E:aA->aw->Prop},inv F r s->Q () s->aL (aQ W.prog W.w) A (pj t (.ref I) v) Q E s
section
variable {F:aX->Prop} {d:Y->Prop} {c:aX->Prop}
def Nx.step(n:Nx W s₀ s)(a:St W s₀)(x:Step F d s f)(l:∀b,F b->s₀.heap.get? b=ag)(j:∀b o,F b->s.heap.get? b=U o->xg o.cls)(m:∀i,d i->s₀.gens.size<=i):Nx W s₀ f:=by
 have u:=n.upd (h':=f.heap) (t:=f.toks) x.keep l (λb o k e=> .inl ⟨(j b o k e).ne.1,(j b o k e).ne.2.2.2.2.2⟩) a;refine⟨u.ext,⟨u.st.stay,u.st.ti,u.st.tabs,x.bare n.st.bare⟩,λi g e=> ?_,x.os.trans n.os⟩;refine x.gens i g (λq=> ?_)<|n.gens i g e;have:=m i q
 have r:i<s₀.gens.size:=by
  rcases jz i s₀.gens.size with h|h
  ·exact h
  ·rw[lJ h]at e;exact nd e
 exact(fM.mpr this r).elim
def Nx.chg{G:aX->Prop}(n:Nx W s₀ s)(a:St W s₀)(x:Cu c G s f)(h:∀b,G b->s₀.heap.get? b=ag)(j:∀b o,G b->s.heap.get? b=U o->zw o):Nx W s₀ f:=by have u:=n.upd (h':=f.heap) (t:=f.toks) x.keep h j a;exact⟨u.ext,⟨u.st.stay,u.st.ti,u.st.tabs,by exact rP x.gens n.st.bare⟩,λi g e=>rP x.gens <| n.gens i g e,x.os.trans n.os⟩
def bf.chg{G:aX->Prop}{p}{v}(x:Cu c G s a)(r:bf W c s.heap p v):bf W c a.heap p v:=r.change x.keep λb o f e=> .inl<|x.hold b f
def ba.chg{G:aX->Prop}{p}{v}(x:Cu c G s a)(r:ba W c s.heap p v):ba W c a.heap p v:=ba.change x.keep (λb o f e=> .inl<|x.hold b f) r
def Step.chg(x:Step F d s a)(f:∀b o,F b->s.heap.get? b=U o->xg o.cls)(r:bf W c s.heap p v):bf W c a.heap p v:=r.change x.keep λb o g e=>have:=(f b o g e).ne;.inr ⟨this.2.1,this.2.2.1,this.2.2.2.1,this.2.2.2.2.1⟩
def Step.RV(x:Step F d s a)(f:∀b o,F b->s.heap.get? b=U o->xg o.cls)(r:ba W c s.heap p v):ba W c a.heap p v:=ba.change x.keep (λb o g e=>have:=(f b o g e).ne;.inr ⟨this.2.1,this.2.2.1,this.2.2.2.1,this.2.2.2.2.1⟩) r
def NmI(n:o_):Prop:=xg (.type n)/\(cK n≠ .type "frame")/\(["enumerate","zip","dict_itemiterator","dict_reverseitemiterator","odict_iterator","itertools.zip_longest","itertools.pairwise"]:aj o_).contains n=af
def DH(f:s.heap.get? I=U o)(g:o.cls= .type n) (i:(["enumerate","zip","dict_itemiterator","dict_reverseitemiterator","odict_iterator","itertools.zip_longest","itertools.pairwise"]:aj o_).contains n=af) (h:Q () s):aL M A (pj t (.ref I) v) Q E s:=by
 obtain⟨b,k,j,l⟩:=o;obtain rfl:b= .type n:=g
 have e:∀(a) (p),aL M A (pj (.List [] p) (.ref I)<|.ref a) Q E s:=λa p=>by
  refine al<|wpAny_load f ?_
  induction j using nQ<;>first
   |exact aM h
   |(show aL M A (if(_&&_)=ah then _ else gZ ()) Q E s
     exact rP i <| aM h)
 induction t using nA<;>first
  |exact aM h
  |(induction v using lB<;>first
    |exact aM h
    |exact e _ default)
structure WI(W:Wd)(I:aX)(fp:aj aX)(items:aj PV)(P:Y->aA->Prop)(Sw:Y->fX->Prop)(c F:aX->Prop)(r:aj PV)(s:aw)(i:Y):Prop where
 hF:∀b,F b<->b=I
 na:∀b∈fp,b≠I->¬c b
 r:r=items.drop i
 le:i<=items.length
 sw:Sw i s.heap
 v:∀(j:Y) v x,P j v->items[j]? =U x->bf W c s.heap x v
def E2(W:Wd)(I:aX)(b:aj aX)(a:aj PV)(P:Y->aA->Prop)(e:Y->fX->Prop)(c F:aX->Prop)(r:aj PV)(s:aw):Prop:=∃i,WI W I b a P e c F r s i
def OF(I:aX)(a:aj aX)(e:Y->fX->Prop):Prop:=∀i h b,e i h->b∈a->b≠I->∃o,h.get? b=U o/\o.cls= .type "list"
def E2.up(g:OF I l m)(x:E2 W I l f P m c F r s)(k:∀a,av' a->c a\/s.heap.get? a=ag):E2 W I l f P m av' F r s:=x.imp λi h=>⟨h.hF,λb n t q=>(k b q).elim (h.na b n t) λz=>cm (g i _ b h.sw n t) λo e _=>nd<|z.symm.trans e,h.r,h.le,h.sw,λj v x p e=>(h.v j v x p e).avoid k⟩
def Kp.ofWalks
  (Wk:Walks W.prog W.w A I fp [I] a.length P n) (u:NmI nm)
  (hI:∀i h,n i h->∃o,h.get? I=U o/\o.cls= .type nm)
  (α:OF I fp n):Kp W A c I (λ_=>iY)<|E2 W I fp a P n c:=by
 have L:∀{i:Y} {h:fX} {o:Uo},n i h->h.get? I=U o->o.cls= .type nm:=λD e=>cm (hI _ _ D) λo' M k=>sm (M.symm.trans e)▸k;have odd:∀{i:Y} {h:fX} {o:Uo},n i h->h.get? I=U o->xg o.cls:=λD e=>L D e▸u.1
 have f:∀{i:Y} {s y:aw},n i s.heap->(∀o,s.heap.get? I=U o->y.heap.get? I=U o)->(∀b o,s.heap.get? b=U o->b∈fp->b≠I->o.cls= .type "list"->y.heap.get? b=U o)->n i y.heap:=λ{i s y} D h1 O=>Wk.frame i _ _ D λb g o e=>by
  by_cases q:b=I
  ·exact q▸h1 o (q▸e)
  ·exact cm (α i _ b D g q) λo' M k=>O b o e g q<|sm (M.symm.trans e)▸k
 refine⟨?_,?_,?_,?_,?_,λ_ h=>h.elim,?_,?_,?_,?_⟩
 ·rintro F r s y ⟨i,h⟩ st nx;exact⟨i,h.hF,h.na,h.r,h.le,f h.sw (λo e=>nx.get st e (odd h.sw e).ne.1<|L h.sw e▸u.2.1) λb o e _ _ k=>nx.get st e (by refine rP k ?_;nofun) (by refine rP k ?_;decide),λj v x p e=>(h.v j v x p e).nx nx st⟩
 ·rintro F r s y G ⟨i,h⟩ m hd;exact⟨i,h.hF,h.na,h.r,h.le,f h.sw (λo e=>m.keep _ o (λz=>hd _ z<|(h.hF _).mpr J) e) λb o e h1 h2 _=>m.keep b o (λz=>h.na b h1 h2<|m.hold b z) e,λj v x p e=>(h.v j v x p e).chg m⟩
 ·rintro F r s y F2 ε ⟨i,h⟩ m hd ho hg;exact⟨i,h.hF,h.na,h.r,h.le,f h.sw (λo e=>m.keep _ o (λz=>hd _ z<|(h.hF _).mpr J) e) λb o e _ _ k=>m.keep b o (λz=>(ho b o z e).ne.2.1 k) e,λj v x p e=>m.chg ho<|h.v j v x p e⟩
 ·rintro F r s b o ⟨i,h⟩ g e;exact odd h.sw<|rS ((h.hF b).mp g) <| e
 ·rintro F r s b ⟨i,h⟩ g;refine rP ((h.hF b).mp g) ?_;exact cm (hI _ _ h.sw) λo' M _=>by refine rP M ?_;nofun
 ·rintro F x r s Q E ⟨i,w⟩ st _ h
  have l:i<a.length:=(jz i a.length).elim id λq=>by have H:=w.r;rw[EW q]at H;cases H
  have H:=w.r;rw[fI l]at H;have hx:a[i]? =U x:=(be l).trans<|az U (dM H).1.symm;refine Wk.item i s _ _ l w.sw λv h' tk hp β O=> ?_;have B:Step F (λ_=>iY) s {s with heap:=h',toks:=tk}:=⟨λb o g e=>O b o (λq=>g<|(w.hF b).mpr<|aU.mp q) e,λ_ _ _ e=>e,id,J,aZ _⟩;have hO:∀b o,F b->s.heap.get? b=U o->xg o.cls:=λb o g e=>odd w.sw<|rS ((w.hF b).mp g) <| e;exact h v _ F B (λb g=> .inl g) (B.chg hO<|w.v i v x hp hx) ⟨i+1,w.hF,w.na,(dM H).2,l,β,λj v x p e=>B.chg hO<|w.v j v x p e⟩
 ·rintro F s Q E ⟨i,w⟩ st h;have HM:i=a.length:=cJ w.le<|List.drop_eq_nil_iff.mp w.r.symm;subst HM;exact Wk.done s _ _ w.sw λh' tk O=>h _ ⟨λb o g e=>O b o (λq=>g<|(w.hF b).mpr<|aU.mp q) e,λ_ _ _ e=>e,id,J,aZ _⟩
 ·rintro F r s Q E ⟨i,w⟩ h;exact Wk.self i s _ _ w.sw h
 ·rintro F r s t v Q E ⟨i,w⟩ h;exact cm (hI _ _ w.sw) λo e k=>DH e k u.2.2 h
end
def nE(W:Wd)(A:cZ)(j:aX->Prop)(e:aj PV)(s₀:aw)(v:aA)(s:aw):Prop:=
 ∀(Q:aA->aw->Prop) (E:aA->aw->Prop),
  (∀(I) (g) (F:aX->Prop) (h:Y->Prop) (c:(aX->Prop)->(aX->Prop)->aj PV->aw->Prop),Nx W s g->(∀f:cZ,f.handled=ag->f.units=A.units->f.depth=A.depth->∀av',Kp W f av' I h<|c av')-> (∀(av' d F:aX->Prop) (r:aj PV) (s:aw),c av' F r s->(∀a,d a->av' a\/s.heap.get? a=ag)->c d F r s)->c j F e g->(∀b,F b->s₀.heap.get? b=ag)->(∀i,h i->s₀.gens.size<=i)->Q (.ref I) g)->
  aL (aQ W.prog W.w) A (OQ v) Q E s
def nE.back(x:Nx W s₀ a)(st:St W s₀)(h:nE W A e c a v s):nE W A e c s₀ v s:=
 λQ E f=>h Q E λI g F j d k l up m n o=>f I g F j d k l up m (λb r=>x.new st<|n b r) (λi t=>ab (by
  rcases jz a.gens.size s₀.gens.size with q|q
  ·have:=x.gens _ _<|gE q;rw[lJ<|aZ _]at this;exact nd this
  ·exact q)<|o i t)
def getElem_zip{a:Y}{b:aj PV}{vs:aj aA}{h:fX}(r:ba W d h b vs){v:aA}{x:PV}(e:vs[a]? =U v)(f:b[a]? =U x):bf W d h x v:=by refine cm (r.get f) λy c g=> ?_;rw[e]at c;obtain rfl:=sm c;exact g
def G5{b I l:aX}(a:b∈[I,l])(c:b≠I):b=l:=aU.mp<|(aR.mp a).resolve_left c
def Jq{g:aj PV}{v:aA}{s:aw}(st:St W s)(r:bf W D s.heap (.lst g) v):nE W A D g s v s:=by
 intro Q E M;refine rc (r) λl vs a O n H=> ?_;obtain rfl:=a;have q:=n.isList
 have t:l≠s.heap.objs.size:=by refine dQ (n) λm e=> ?_;exact c6<|dY e
 with_reducible refine wpAny_pyIter_list q ?_
 have u:Nx W s {s with heap:=s.heap.push {cls:= .type "list_iterator",data:= .fields #[.ref l,.int 0 0]}}:=(Nx.refl st).push _;have d:vs.toArray.size=g.length:=rP aO<|rS H.length J;have w:∀b∈[s.heap.objs.size,l],b≠s.heap.objs.size->¬D b:=aC (λh=>(h J).elim)<|aC (λ_=>O) aN
 have f:OF s.heap.objs.size [s.heap.objs.size,l] λi h=>h.IsListIter s.heap.objs.size l i/\h.IsList l vs.toArray:=by rintro i h b ⟨_,⟨o,e,c,_⟩⟩ y z;exact⟨o,rP (G5 y z) <| e,c⟩
 refine M _ _ (λb=>b=s.heap.objs.size) (λ_=>iY) _ u (λA' B _ _ av'=>Kp.ofWalks (nm:="list_iterator") (rS d <| Walks.list B s.heap.objs.size l t vs.toArray) ⟨⟨_,J,by decide⟩,by decide,by decide⟩ ?_ f) (λ_ _ _ _ _ x k=>E2.up f x k) ?_ (λb y=>by subst y;exact eL _) λi hi=>hi.elim
 ·rintro i h ⟨⟨o,e,c,_⟩,_⟩;exact⟨o,e,c⟩
 ·refine⟨0,λb=>Iff.rfl,w,J,db _,⟨⟨_,bQ _ J,J,J⟩,(fV u st n).isList⟩,λj v x p e=> ?_⟩;exact getElem_zip (H.nx u st) (fQ.symm.trans p) e
def FP(st:St W s)(r:bf W M s.heap (.AN a b c) v):nE W A M ((hJ a b c).map .int) s v s:=by
 intro Q E hq;refine UD (r) λl t u z d na hl y=> ?_;obtain rfl:=d;with_reducible refine wpAny_pyIter_range hl y ?_
 have nx:Nx W s {s with heap:=s.heap.push {cls:= .type "range_iterator",data:= .fields #[jS a,jS<|eP a b c,jS c]}}:=(Nx.refl st).push _;have n:((hJ a b c).map PV.int).length=De a b c:=by simp[hJ]
 have B:0<=eP a b c:=by
  unfold eP;split
  ·split
   ·have:0<=(b-a-1)/c:=AC (sS 5705345620<|by assumption)<|lE 348244 (by assumption);exact lE 88344916 this
   ·exact lD _
  ·split
   ·rename_i h1 h2;by_cases hc:c=0
    ·subst hc;simp
    ·have:0<=(a-b-1)/(-c):=AC (sS 5705345620 h2)<|lE 89590612 h1;exact lE 88344916 this
   ·exact lD _
 have D:∀b∈[s.heap.objs.size],b≠s.heap.objs.size->¬M b:=aC (λh=>(h J).elim) aN
 have o:OF s.heap.objs.size [s.heap.objs.size] λi h=>IsRangeIter h s.heap.objs.size (a+(i:Y)*c) (((tJ PV.int<|hJ a b c).length:Z)-(i:Y)) c:=by rintro i h b _ H I;exact bI (aU.mp H) I
 refine hq _ _ (λb=>b=s.heap.objs.size) (λ_=>iY) _ nx (λA' L _ _ av'=>Kp.ofWalks (nm:="range_iterator") (n▸Walks.range L s.heap.objs.size a c (De a b c)) ⟨⟨_,J,by decide⟩,by decide,by decide⟩ ?_ o) (λ_ _ _ _ _ x k=>E2.up o x k) ?_ (λb H=>by subst H;exact eL _) λi hi=>hi.elim
 ·rintro i h e;exact⟨_,e,J⟩
 ·refine⟨0,λb=>Iff.rfl,D,J,db _,?_,λj v x p e=> ?_⟩
  ·show IsRangeIter _ _ _ _ _;have e1:((De a b c:Y):Z)-((0:Y):Z)=eP a b c:=by exact f7 0x198aca005400c0767a6 J B
   have e2:a+((0:Y):Z)*c=a:=by simp
   exact rP n <| rP e1 <| rP e2 <| bQ _ J
  ·refine dQ (p) λt f=> ?_;obtain rfl:=f;simp only[hJ,bU,cb,eJ]at e;refine cm (e) λm w g=> ?_;obtain rfl:=g
   have:m=j:=by
    rcases jz j (De a b c)with q|q
    ·rw[kz q]at w;obtain rfl:=sm w;rfl
    ·rw[jN<|by simpa using q]at w;exact nd w
   subst this;exact⟨t,J⟩
def M2{f:aj PV}{v:aA}{s:aw}{Q:aA->aw->Prop}(st:St W s)(r:bf W M s.heap (.lst f) v)(h:∀w s1,Nx W s s1->nE W A M f.reverse s w s1->Q w s1):aL (aQ W.prog W.w) A (call (.type "reversed") [v]) Q E s:=by
 refine rc (r) λl vs d na y O=> ?_;obtain rfl:=d
 have z:l≠s.heap.objs.size:=by refine dQ (y) λm e=> ?_;exact c6<|dY e
 refine call_reversed_list y.isList ?_;have u:Nx W s {s with heap:=s.heap.push<|revObj l<|(vs.toArray.size:Z)-1}:=(Nx.refl st).push _;have a:vs.toArray.size=f.reverse.length:=rP aO<|rS O.length<|rP oo J;refine h _ _ u λQ E hq=> ?_;have g:(s.heap.push<|revObj l<|(vs.toArray.size:Z)-1).IsRevIter s.heap.objs.size l<|(vs.toArray.size:Z)-1-((0:Y):Z):=⟨_,bQ _ J,J,by simp[revObj]⟩;refine wpAny_pyIter_revIter g ?_;have B:∀b∈[s.heap.objs.size,l],b≠s.heap.objs.size->¬M b:=aC (λh=>(h J).elim)<|aC (λ_=>na) aN
 have n:OF s.heap.objs.size [s.heap.objs.size,l] λi h=>i<=f.reverse.length/\h.IsRevIter s.heap.objs.size l ((f.reverse.length:Z)-1-(i:Z))/\h.IsList l vs.toArray:=by rintro i h b ⟨_,_,⟨o,e,c,_⟩⟩ D H;exact⟨o,rP (G5 D H) <| e,c⟩
 refine hq _ _ (λb=>b=s.heap.objs.size) (λ_=>iY) _ (.refl u.st) (λA' I _ _ av'=>Kp.ofWalks (nm:="list_reverseiterator") (a▸Walks.listRev I s.heap.objs.size l z vs.toArray) ⟨⟨_,J,by decide⟩,by decide,by decide⟩ ?_ n) (λ_ _ _ _ _ x k=>E2.up n x k) ?_ (λb D=>by subst D;exact eL _) λi hi=>hi.elim
 ·rintro i h ⟨_,⟨o,e,c,_⟩,_⟩;exact⟨o,e,c⟩
 ·refine⟨0,λb=>Iff.rfl,B,J,db _,⟨db _,rS a <| g,(fV u st y).isList⟩,λj v x p e=> ?_⟩
  have hj:j<f.reverse.length:=by
   rcases jz j f.reverse.length with q|q
   ·exact q
   ·rw[jN q]at e;exact nd e
  refine getElem_zip (O.nx u st).reverse ?_ e;have L:j<vs.length:=by have h1:=a;rw[aO]at h1;exact rP h1 <| hj
  refine rP (List.getElem?_reverse L) ?_;have t:vs.toArray[f.reverse.length-1-j]? =U v:=p;rw[<-a,aO]at t;simpa using t
def FN(st:St W s)(e:itemsOf x=U a)(r:bf W b s.heap x v):nE W A b a s v s:=by
 induction x using PV.casesOn with
 |lst=>exact rS (sm e) <| Jq st r
 |AN=>exact rS (sm e) <| FP st r
 |_=>exact nd e
structure Own(O:aX->Prop)(wr:aj a7)(menv:cr):Prop where
 loc:O menv.locals
 cel:∀x∈wr,∀c,menv.cells.lookup x=U c->O c
 knd:∀x∈wr,menv.kindOf x=U .local\/menv.kindOf x=U .cell
def D3(r:cV W B X f env h)(D:X.Γ.lookup x=U i)(hu:∀y,X.Γ.lookup y=U i->y=x)(O:i∉X.uq)
  (g:∀y d v,y≠x->iO f y=U d->d.holds h v->d.holds n v) (vr:∀p v,bf W B h p v->bf W B n p v)
  (E:∃d t,iO f x=U d/\d.holds n t/\bf W B n pv t) (ns:∃m,n.Ns f.locals m)
  (H:∀c o,h.IsCell c o->∃I,n.IsCell c I) (A:∀a vs,h.PlainList a vs->n.PlainList a vs):cV W B X f (env.set i<|U pv) n:=by
 refine⟨r.kind,r.glob,r.blt,r.names,ns,λy l=> ?_,r.inj,λy j v l s=> ?_,λy z j k u v l L Q hk M e1 e2=> ?_⟩
 ·refine oV (r.cel y l) λc o e a=> ?_;refine dQ (H c o a) λI b=> ?_;exact⟨c,I,e,b⟩
 ·by_cases q:j=i
  ·subst q;have:y=x:=hu y l;subst this;rw[di]at s;cases hi:env[j]? with
   |none=>rw[hi]at s;exact nd s
   |some w=>rw[hi]at s;cases s;exact E
  ·rw[a6 λz=>q z.symm]at s;refine jj (r.slot y j v l s) λd t a b c=> ?_;exact⟨d,t,a,g y d t (λz=>q (by subst z;rw[D]at l;obtain rfl:=sm l;rfl)) a b,vr _ _ c⟩
 ·have nj:i≠j:=λz=>O<|rP z <| Q;have nk:i≠k:=λz=>O<|rP z <| hk;rw[a6 nj]at e1;rw[a6 nk]at e2;refine(r.uqs y z j k u v l L Q hk M e1 e2).casesOn λ{lx ly p q va vb} r1 r2 r3 r4 r5 r6 r7=> ?_;exact⟨r1,r2,g y lx _ (λw=>nj (by subst w;rw[D]at l;obtain rfl:=sm l;rfl)) r1 r3,g z ly _ (λw=>nk (by subst w;rw[D]at L;obtain rfl:=sm L;rfl)) r2 r4,r5,A _ _ r6,A _ _ r7⟩
def nZ{h:fX}{a c:aX}{m:a7->au aA}{o:au aA}(x:h.Ns a m)(y:h.IsCell c o):c≠a:=by rintro rfl;refine CY (x) λg i j e f _=> ?_;refine cm (y) λk b d=> ?_;rw[e]at b;obtain rfl:=sm b;rw[f]at d;cases d
def yK{h:fX}{a c:aX}{m:a7->au aA}{vs:eI aA}(x:h.Ns a m)(y:h.PlainList c vs):c≠a:=by rintro rfl;refine CY (x) λf g i d e _=> ?_;refine dQ (y) λn b=> ?_;rw[d]at b;obtain rfl:=sm b;cases e
def Cm{h:fX}{a c:aX}{vs:eI aA}{o:au aA}(x:h.IsCell a o)(y:h.PlainList c vs):c≠a:=by rintro rfl;refine cm (x) λf d e=> ?_;refine dQ (y) λn b=> ?_;rw[d]at b;obtain rfl:=sm b;cases e
def oK(h:a.kindOf x=U .local):iO a x=U (.dict a.locals x):=by unfold iO;exact rP h J
def yV(h:a.kindOf x=U .cell)(b:a.cells.lookup x=U c):iO a x=U (.cell c):=by unfold iO;refine rP h ?_;simp[b]
def yU(h:iO a y=U (.dict L n)):L=a.locals/\n=y:=by cases MU h;exact⟨J,J⟩
def B7(h:iO a y=U (.cell c)):a.cells.lookup y=U c:=by cases MU h;assumption
def mK{v:aA}{s:aw}{Q:sY->aw->Prop}(ow:Own O wr j)(hO:∀a,O a->av a)(hw:x∈wr)(r:cV W av X j env s.heap)
  (hx:X.Γ.lookup x=U i) (hu:∀y,X.Γ.lookup y=U i->y=x) (hq:i∉X.uq) (rv:bf W av s.heap pv v)
  (h:∀s' G,Cu av G s s'->(∀b,G b->O b)->(∀b o,G b->s.heap.get? b=U o->zw o)->(∀b,G b->s'.heap.get? b≠ag)->(∀p u,bf W av s.heap p u->bf W av s'.heap p u)->cV W av X j (env.set i<|U pv) s'.heap->Q () s'):
  aL (aQ W.prog W.w) A (p8 j x v) Q E s:=by
 rcases ow.knd x hw with hk|hk
 ·refine dQ (r.ns) λm B=> ?_;refine wpAny_storeName_local hk B (λh' D l=> ?_)<|rP r.kind J;have H:Cu av (λb=>b=j.locals) s {s with heap:=h',toks:=s.toks+1}:=⟨λb o f e=>l.extBut b o f e,λb f=>hO _<|f▸ow.loc,J,J⟩;refine h _ _ H (λb f=>f▸ow.loc) (λb o f e=> .inr λvs z=> ?_) (λb f=>by subst f;refine Py (D) λo es ep e _=> ?_;refine rP e ?_;nofun) (λp u q=>q.chg H) ?_
  ·subst f;refine CY (B) λt es ep g k _=> ?_;rw[g]at e;obtain rfl:=sm e;rw[k]at z;cases z
  ·refine D3 r hx hu hq (λy γ w hy hl hh=> ?_) (λp u q=>q.chg H) ⟨_,v,oK hk,⟨_,D,by simp⟩,rv.chg H⟩ ⟨_,D⟩ (λc o hc=>⟨o,?_⟩) (λa vs hl=> ?_)
   ·induction γ using Loc.casesOn with
    |dict L n=>refine jG (yU hl) λI M=> ?_;obtain rfl:=I;obtain rfl:=M;refine cm (hh) λm2 δ ε=> ?_;refine⟨_,D,?_⟩;have:m=m2:=(Heap.Ns.eq_nsMap B).trans (Heap.Ns.eq_nsMap δ).symm;subst this;simp[hy,ε]
    |cell c=>refine cm (hh) λt g k=> ?_;exact⟨t,l.extBut _ _ (nZ B ⟨t,g,k⟩) g,k⟩
   ·refine cm (hc) λt g k=> ?_;exact⟨t,l.extBut _ _ (nZ B ⟨t,g,k⟩) g,k⟩
   ·refine dQ (hl) λn g=> ?_;exact⟨n,l.extBut _ _ (yK B ⟨n,g⟩) g⟩
 ·refine oV (r.cel x<|.inl<|r.names▸hk) λc o0 hc d=> ?_;refine wL r.kind hk hc d λh' ζ l=> ?_;have H:Cu av (λb=>b=c) s {s with heap:=h'}:=⟨λb o f e=>l.extBut b o f e,λb f=>hO _<|f▸ow.cel x hw c hc,J,J⟩;refine h _ _ H (λb f=>f▸ow.cel x hw c hc) (λb o f e=> .inr λvs z=> ?_) (λb f=>by subst f;refine cm (ζ) λo e _=> ?_;refine rP e ?_;nofun) (λp u q=>q.chg H) ?_
  ·subst f;refine cm (d) λt g k=> ?_;rw[g]at e;obtain rfl:=sm e;rw[k]at z;cases z
  ·refine dQ (r.ns) λm B=> ?_;refine D3 r hx hu hq (λy γ w hy hl hh=> ?_) (λp u q=>q.chg H) ⟨_,v,yV hk hc,ζ,rv.chg H⟩ ⟨m,?_⟩ (λc2 o ι=> ?_) (λa vs hl=> ?_)
   ·induction γ using Loc.casesOn with
    |dict L n=>refine jG (yU hl) λα β=> ?_;obtain rfl:=α;obtain rfl:=β;refine cm (hh) λm2 δ ε=> ?_;exact⟨m2,δ.at' λo e=>l.extBut _ _ (λz=>nZ B d z.symm) e,ε⟩
    |cell c2=>have κ:c2≠c:=λz=>hy<|r.inj y x c (z▸B7 hl) hc;refine cm (hh) λt g k=> ?_;exact⟨t,l.extBut _ _ κ g,k⟩
   ·exact B.at' λo e=>l.extBut _ _ (λz=>nZ B d z.symm) e
   ·by_cases q:c2=c
    ·subst q;exact⟨_,ζ⟩
    ·refine cm (ι) λt g k=> ?_;exact⟨o,t,l.extBut _ _ q g,k⟩
   ·refine dQ (hl) λn g=> ?_;exact⟨n,l.extBut _ _ (Cm d ⟨n,g⟩) g⟩
structure Mv(W:Wd)(av O:aX->Prop)(s₀:aw)(g:Y)(s s':aw):Prop where
 nx:Nx W s₀ s'
 vr:∀{p v},bf W av s.heap p v->bf W av s'.heap p v
 itr:∀{A I GI inv F r},Kp W A av I GI inv->inv F r s->(∀b,O b->¬F b)->(∀i,GI i->i<g)->inv F r s'
 lv:∀b,s.heap.get? b≠ag->s'.heap.get? b≠ag
 keep:∀b o,¬O b->s.heap.get? b=U o->o.cls≠ .none->o.cls≠ .type "frame"->s'.heap.get? b=U o
 gens:s.gens.size<=s'.gens.size
def Mv.refl(n:Nx W s₀ s):Mv W a O s₀ g s s:=⟨n,id,λ_ h _ _=>h,λ_ h=>h,λ_ _ _ e _ _=>e,aZ _⟩
def Mv.trans(a:Mv W j O s₀ g s m)(b:Mv W j O s₀ g m f):Mv W j O s₀ g s f:=⟨b.nx,λh=>b.vr<|a.vr h,λi h d e=>b.itr i (a.itr i h d e) d e,λc h=>b.lv c<|a.lv c h,λc o h e k l=>b.keep c o h (a.keep c o h e k l) k l,ab a.gens b.gens⟩
def B_(x:Nx W s a):s.gens.size<=a.gens.size:=by
 rcases jz a.gens.size s.gens.size with q|q
 ·have:=x.gens _ _<|gE q;rw[lJ<|aZ _]at this;exact nd this
 ·exact q
def Mv.nC(n:Nx W s₀ s)(x:Nx W s a):Mv W f O s₀ g s a:=⟨n.trans x,λh=>h.nx x n.st,λi h _ _=>i.nx h n.st x,λb h q=>h<|x.new n.st q,λb o _ e c d=>x.get n.st e c d,B_ x⟩
def Mv.w5{G:aX->Prop}(a:St W s₀)(n:Nx W s₀ s)(c:Cu l G s k)(f:∀b,G b->O b)(m:∀b,O b->s₀.heap.get? b=ag)(r:∀b o,G b->s.heap.get? b=U o->zw o) (hL:∀b,G b->s.heap.get? b≠ag->k.heap.get? b≠ag):Mv W l O s₀ g s k:=by
 refine⟨n.chg a c (λb j=>m b<|f b j) r,λh=>h.chg c,λi h d _=>i.chg h c λb j=>d b<|f b j,λb h=> ?_,λb o h e _ _=>c.keep b o (λq=>h<|f b q) e,by exact rS c.gens <| aZ _⟩;by_cases q:G b
 ·exact hL b q h
 ·cases e:s.heap.get? b with
  |none=>exact bI e h
  |some o=>refine rP (c.keep b o q e) ?_;nofun
def Mv.step(a:St W s₀)(st:St W s)(c:Nx W s₀ s)(m:Mv W y O s₀ g s k)(x:Step F z k l)(f:∀b,F b->s.heap.get? b=ag)(n:∀b o,F b->k.heap.get? b=U o->xg o.cls)(w:∀i,z i->s.gens.size<=i)(A:g<=s.gens.size):Mv W y O s₀ g s l:=by
 refine⟨m.nx.step a x (λb r=>c.new a<|f b r) n λi B=>ab (B_ c)<|w i B,λh=>x.chg n<|m.vr h,λi h d e=> ?_,λb h=> ?_,λb o h e D t=> ?_,ab m.gens x.size⟩
 ·exact i.step (m.itr i h d e) x (λb r u=>i.there h u<|f b r) n λj E v=>by have:=e j v;have:=w j E;exact d9 142004588560 A (by assumption) this
 ·have t:=m.lv b h;cases e:k.heap.get? b with
  |none=>exact bI e t
  |some o=>refine rP (x.keep b o (λq=>h<|f b q) e) ?_;nofun
 ·exact x.keep b o (λq=>by rw[f b q]at e;exact nd e)<|m.keep b o h e D t
def Mv.mono(h:∀b,O b->c b)(f:k<=g)(m:Mv W l O s₀ g s n):Mv W l c s₀ k s n:=⟨m.nx,m.vr,λi a d e=>m.itr i a (λb r=>d b<|h b r) λj t=>aV (e j t) f,m.lv,λb o q=>m.keep b o λz=>q<|h b z,m.gens⟩
def Mv.Am(m:Mv W b O s₀ g s c)(h:Av b s):Av b c:=λa d=>m.lv a<|h a d
def Mv.Yb(m:Mv W d O s₀ g s e):∀{p} {v},ba W d s.heap p v->ba W d e.heap p v
 |[],_,h=>by exact h
 |x::f,v,h=>by refine jj (h) λy r c a b=> ?_;obtain rfl:=c;exact .cons (m.vr a)<|m.Yb b
section
variable {A:cZ}
structure xA(X:Cx)(wr:aj a7)(x:a7)(i:Y):Prop where
 mem:x∈wr
 get:X.Γ.lookup x=U i
 uni:∀y,X.Γ.lookup y=U i->y=x
 nuq:i∉X.uq
def FD(d:St W s₀)(n:Nx W s₀ s)(ow:Own O k c)(l:∀a,O a->f a)(m:∀b,O b->s₀.heap.get? b=ag)
  (j:xA X k x i) (r:cV W f X c env s.heap) (o:bf W f s.heap q v)
  (h:∀e,Mv W f O s₀ g s e->cV W f X c (env.set i<|U q) e.heap->Q () e):aL (aQ W.prog W.w) A (mX (.Name x t) c v) Q E s:=by
 refine rz<|mK ow l j.mem r j.get j.uni j.nuq o λe G u y z B I D=> ?_;exact h e (.w5 d n u y m z λb H _=>B b H) D
def vk(X:Cx)(a:aj a7)(b:aj<|a7 × Y):Prop:=∀p∈b,xA X a p.1 p.2
def plainT{f}:∀{e} {t} {a:aj<|a7 × Y},tL f e t=U a->lW e=ah:=by
 induction f with
 |zero=>intro _ _ _ h;exact nd h
 |succ f b=>
  intro e t a h;induction t using T.casesOn with
  |v i=>exact uT h λ_ _ _=>rfl
  |tup c=>exact wc h λ_ _ _ _=>rfl
def ym:∀{d} {g} {i:aj<|a7 × Y},tL.go f d g=U i->d.length=g.length/\∀e∈d,lW e=ah:=by
 intro d;induction d with
 |nil=>
  intro c;cases c with
  |nil=>intro _ _;exact⟨J,nofun⟩
  |cons _ _=>intro _ h;exact nd h
 |cons e d j=>
  intro c;cases c with
  |nil=>intro _ h;exact nd h
  |cons t g=>intro i h;exact gO h λa l h=>gO h λb k _=>⟨az jH (j k).1,λx m=>(aR.mp m).elim (λq=>rP q <| plainT l)<|(j k).2 x⟩
def Gu:∀{c} {d} {env a},jZ.go c d env=U a->c.length=d.length:=by
 intro c;induction c with
 |nil=>
  intro b;cases b with
  |nil=>intro _ _ _;exact J
  |cons _ _=>intro _ _ h;exact nd h
 |cons t c f=>
  intro b;cases b with
  |nil=>intro _ _ h;exact nd h
  |cons x d=>intro env a h;exact gO h λe g h=>az jH<|f h
def Ev(h:lW e=ah):GK (e::b) a=(af,mX e a)::GK b a:=by
 induction e using Expr.casesOn<;>first
  |rfl
  |exact ff h
def wH{a}{b}:(∀e∈b,lW e=ah)->GK b a=b.map λe=>(af,mX e a):=by
 induction b with
 |nil=>intro _;exact J
 |cons e b c=>intro h;exact(Ev<|h e<|.head _).trans (az ((af,mX e a):: ·)<|c λx d=>h x<|.tail _ d)
def uD(g:A.handled=ag)(i:∀e∈c,lW e=ah)(j:s.heap.IsTuple t d.toArray)(k:c.length=d.length)(st:St W s) (h:∀f,Nx W s f->aL (aQ W.prog W.w) A (J5 (c.map λe=>mX e a) d) Q E f):aL (aQ W.prog W.w) A (Ar p >>= λ_=>unpack (.ref t)<|GK c a) Q E s:=by
 refine al<|dK ?_;refine rP (wH i) ?_;refine wpAny_unpack_tuple g j ((aG _).trans<|k.trans (aO ..).symm) ?_ λn l=> ?_
 ·rw[List.findIdx?_eq_none_iff];exact λp m=>let⟨e,_,q⟩:=bZ.mp m;q▸J
 ·exact rP bU <| h _<|(Nx.refl st).keeps λb o e=>l b o (c6<|dY e) e
def zk(hh:A.handled=ag)(l:St W s₀)(ow:Own O wr d)(hO:∀a,O a->o a)(hN:∀b,O b->s₀.heap.get? b=ag){f}:∀{e} {t} {D:aj<|a7 × Y} {x} {v} {env c} {s} {Q:sY->aw->Prop},tL f e t=U D->vk X wr D->Nx W s₀ s->cV W o X d env s.heap->bf W o s.heap x v-> jZ t x env=U c->(∀j,Mv W o O s₀ g s j->cV W o X d c j.heap->Q () j)->aL (aQ W.prog W.w) A (mX e d v) Q E s:=by
 induction f with
 |zero=>exact λh _ _ _ _ _ _=>nd h
 |succ f ih=>
  intro e t D x v env c s Q I L n M rv H z;cases t with
  |v i=>exact uT I λy p h=>by obtain rfl:=sm H;exact FD l n ow hO hN (L _<|rS (sm h) <| mu _) M rv z
  |tup ts=>
   exact wc I λB k δ h=>by
    clear I;induction x using PV.casesOn with
    |tup u=>
     refine bf.abx rv λa vs _ ht q=> ?_;have b:jZ.go ts u env=U c:=H;refine uD hh (ym h).2 ht ((ym h).1.trans<|(Gu b).trans q.length) n.st λs1 nx=> ?_;have m:Mv W o O s₀ g s s1:= .nC n nx;have r:=M.nx nx n.st;have rr:=m.Yb q;have n:=m.nx;have z:∀j,Mv W o O s₀ g s1 j->cV W o X d c j.heap->Q () j:=λj m2 er=>z j (m.trans m2) er;clear m nx rv ht M H q;induction ts generalizing B D u vs env s1 with
     |nil=>
      cases B with
      |cons _ _=>exact nd h
      |nil=>
       cases u with
       |cons _ _=>exact nd b
       |nil=>obtain rfl:=sm b;exact ba.Vx rr<|aM<|z s1 (.refl n) r
     |cons t ts ig=>
      cases B with
      |nil=>exact nd h
      |cons e B=>
       cases u with
       |nil=>exact nd b
       |cons x u=>exact gO h λa1 h1 h=>gO h λa2 h2 h=>gO b λγ b1 b2=>ba.D6 rr λv α r1 r2=>al<|cC (ih h1 (λp hp=>L p<|rS (sm h) <| j_ _ hp) n r r1 b1 λs1 m er=>ig (λp hp=>L p<|rS (sm h) <| jL _ hp) B h2 u α b2 s1 er (m.Yb r2) m.nx λs2 m2 β=>z s2 (m.trans m2) β)
    |_=>exact nd H
end
def kU(W:Wd)(b:aX):Prop:=∀{l:aj Y} {t:pq} {n:Y} {A:cZ} {s:aw} {a:aX->Prop} {Q:aA->aw->Prop} {E:aA->aw->Prop},Rm n A->St W s->Av a s->l.length<=65536->(∀v s1,Nx W s s1->nE W A a ((fJ 0 af l).map λp=> .tup [.int p.1,.str p.2]) s v s1->Q v s1)->aL (aQ W.prog W.w) A (call (.ref b) [.str ⟨l.toArray⟩ t]) Q E s
def pU(h:gW N f X e c=ah):GJ b (s_ [e] a)=[(af,eval e a)]:=by exact rP (nV<|sI h) J
set_option tactic.hygienic true in
def vV(G:nH W N fa)(EO:kU W N.ea)(K:KS W N fa k n)(D:Rm n A)(i:D' N X (gW N f X) e m=ah)(st:St W s)(H:Av av s) (r:cV W av X y env s.heap) (I:mU k env m=U g) (h:∀v s1,Nx W s s1->nE W A av g s v s1->Q v s1):aL (aQ W.prog W.w) A (eval e y) Q E s:=by
 induction m using Src.casesOn with
 |of c=>exact gO I λx z b=>K.ex i D st H r z λv s1 a B _=>h v s1 a<|(FN a.st b B).back a st
 |rev c=>
  refine D_ i λu q p L i=>gO I λx z b=> ?_;refine rP (ik ..) ?_;refine al<|n9 G.rev L st r ?_;refine rP (pU i ..) ?_;refine jo J<|f4<|dE<|K.ex i D st H r z λv s1 a B _=>fe ?_;induction x using PV.casesOn;case lst xs=>exact M2 a.st B λw M j O=>h w M (a.trans j)<|rS (sm b) <| O.back a st
  all_goals exact nd b
 |esc c=>
  refine D_ i λu q p L i=>gO I λx z b=> ?_;refine rP (ik ..) ?_;refine al<|n9 G.esc L st r ?_;refine rP (pU i ..) ?_;obtain⟨o,d,h1,h2⟩:=G.escd;refine kZ<|f4<|dE<|K.ex i D st H r z λv s1 a B _=>fe ⟨⟨a.st.stay _ _ h1,h2⟩,?_⟩;induction x using PV.casesOn
  case str l=>
   replace b:(match aY l.length 65536 with|true=>U ((fJ 0 af l).map λp=>PV.tup [.int p.1,.str p.2])|false=>ag)=U g:=b
   refine bf.yn B λt=> ?_
   cases hl:aY l.length 65536 with
   |false=>rw[hl]at b;exact nd b
   |true=>
    rw[hl]at b
    exact EO D a.st (H.nx a st) (aD hl) λw M j O=>h w M (a.trans j)<|rS (sm b) <| O.back a st
  all_goals exact nd b
def ya(r:cV W n X l env h)(k:∀(i:Y) (v:PV),m[i]? =U (U v)->env[i]? =U (U v)):cV W n X l m h:=⟨r.kind,r.glob,r.blt,r.names,r.ns,r.cel,r.inj,λx i v o q=>r.slot x i v o<|k i v q,λx y i j u v a b c d e f g=>r.uqs x y i j u v a b c d e (k _ _ f)<|k _ _ g⟩
def uZ(ow):∀(env) (i) (v),(hide ow env)[i]? =U (U v)->env[i]? =U (U v)/\i∉ow:=by
 induction ow with
 |nil=>intro env i v h;exact⟨h,nofun⟩
 |cons a ow b=>
  intro env i v h;have:=b (env.set a ag) i v h;by_cases q:a=i
  ·subst q;rw[di]at this;cases e:env[a]? with
   |none=>rw[e]at this;cases this.1
   |some w=>rw[e]at this;cases this.1
  ·rw[a6 q]at this;exact⟨this.1,by simp only[aR,not_or];exact⟨λz=>q z.symm,this.2⟩⟩
def Hd(a:cr)(F:aX->Prop):Prop:=¬F a.locals/\∀y c,a.cells.lookup y=U c->a.kindOf y=U .cell\/a.kindOf y=U .free->¬F c
def y2(r:cV W g X a env s.heap)(x:Step F i s h)(d:Hd a F) (f:∀b o,F b->s.heap.get? b=U o->xg o.cls):cV W g X a env h.heap:=r.mv (λ_ q=>q.at' λo e=>x.keep _ _ d.1 e) (λy c e k o q=>q.imp λz w=>⟨x.keep _ _ (d.2 y c e k) w.1,w.2⟩) (λ_ _ _ q=>q.imp λ_ e=>x.keep _ _ (λw=>(f _ _ w e).ne.2.1 J) e)<|x.chg f
def Hd.grow{s:aw}(r:cV W l X a env s.heap)(d:Hd a F)(h:∀b,f b->F b\/s.heap.get? b=ag):Hd a f:=by
 have g:∀y,a.kindOf y=X.nm.lookup y:=λy=>az (pW y) r.names;refine⟨λq=>(h _ q).elim d.1 λz=> ?_,λy c e k q=>(h _ q).elim (d.2 y c e k) λz=> ?_⟩
 ·exact dQ r.ns λm q=>EZ q λo n t e _ _ _=>nd<|z.symm.trans e
 ·exact oV (r.cel y<|rS (g y) <| k) λu o i w=>cm w λv j _=>by obtain rfl:=sm<|i.symm.trans e;exact nd<|z.symm.trans j
def Hd.new{s:aw}(r:cV W c X a env s.heap)(h:∀b,F b->s.heap.get? b=ag):Hd a F:=Hd.grow r ⟨id,λ_ _ _ _=>id⟩ λb z=> .inr<|h b z
def Rr{s1 s c:aw}(f:cV W d X a e s1.heap)(r:cV W d X a env s.heap)(x:Step F i s c)(g:∀b,F b->s1.heap.get? b=ag) (h:∀b o,F b->s.heap.get? b=U o->xg o.cls):cV W d X a env c.heap:=y2 r x (.new f g) h
noncomputable abbrev E6(a:aj Expr)(env:cr):r_ aB:=forIn a ah λc r=>if r=ah then do let b<-isTrue c env (eval c env);gZ (jg b)else gZ (jg r)
noncomputable def TW(e:Expr)(a:aA)(env:cr):r_ sY:=qx (unsupported "internal:not-a-comprehension") e λb _ _=>do let _<-call (.builtin "list.append") [a,<-eval b env]
noncomputable def nextM(e:Expr)(a:aj f3)(d:Y)(b:aA)(env:cr)(z:r_ Fin):r_ Fin:=match a[d]? with
 |some c=>do
  let x<-eval c.iter env
  Ar c.iter.pos
  let x<-As c.iter env x
  let f<-OR [x] (OQ x)
  let _<-runOwn (.compStart e d f b env) env
  z
 |none=>do
  TW e b env
  z
noncomputable def K5(e:Expr)(b:aj f3)(d:Y)(g:f3)(c a:aA)(env:cr):r_ Fin:=do
 Ar g.iter.pos
 match<-Xh c with
 |none=>gZ<|.done .next
 |some v=>
  pj g.target c v
  mX g.target env v
  let f<-E6 g.ifs env
  if f then nextM e b (d+1) a env (again<|.compLoop e d c a env)
  else again (.compLoop e d c a env)
def Cq(a:aj f3)(d:Y):Prop:=a[d]? =ag\/∃t i f,a[d]? =U ⟨t,i,f,0⟩
def IC(i:a[d]? =U ⟨t,DM,e,0⟩)(c:Cq a<|d+1):compTurn (.ListComp f a b g) d j h env=K5 (.ListComp f a b g) a d ⟨t,DM,e,0⟩ j h env:=by delta compTurn K5 nextM;dsimp only;refine rP i ?_;rcases c with c|⟨k,l,m,c⟩<;>refine rP c ?_<;>rfl
def wJ(e:Expr)(a:aj f3):Prop:=∃b d c,e= .ListComp b a d c
def yo(l:wJ e i)(r:i[d]? =U ⟨t,DM,u,0⟩)
  (o:kW (aQ a w) A (.compLoop e d k b env) R s)
  (h:aL (aQ a w) A (OQ k) (λc g=>kW (aQ a w) A (.compLoop e d c b env) R g) (notedBy (aQ a w) A env λx g=>R (.error x) g) s):
  kW (aQ a w) A (.compStart e d k b env) R s:=by
 have j:aL (aQ a w) A (aaC e d k b env) (λfin g=>match fin with| .done f=>R (.ok f) g| .again q=>q.quiet=ah/\kW (aQ a w) A q R g) (notedBy (aQ a w) A env λx g=>R (.error x) g) s:=by
  have m:∀c,(Code.compLoop e d c b env).quiet=ah:=by intro c;obtain⟨_,_,_,rfl⟩:=l;rfl
  have n:clausesOf e=i:=by obtain⟨_,_,_,rfl⟩:=l;rfl
  delta aaC;refine rP n<|rP r ?_;refine al<|wpAny_askSetting<|wpAny_ite ?_;split
  ·first
    |exact al<|aM<|aM ⟨m _,o⟩
    |exact aM ⟨m _,o⟩
  ·refine al<|zB ?_;exact al<|dK<|al<|iC h (λc g v=>aM ⟨m _,v⟩) λ_ _ x=>x
 refine codeAny_of_tree ?_;obtain⟨_,_,_,rfl⟩:=l;show aL _ _ ((aaC _ d k b env).onRaise (λx=>do xj x env;Ar theWindowsPlace)) _ _ s;exact wpAny_notedAt j
set_option tactic.hygienic true in
def Jl(l:wJ e a)(o:a[d]? =U ⟨t,DM,j,0⟩)(q:Cq a<|d+1)(I:Y->aw->Prop) (g:∀n s,I n s->aL (aQ b w) A (K5 e a d ⟨t,DM,j,0⟩ k c env) (λfin i=>match fin with| .done f=>R (.ok f) i| .again r=>r= .compLoop e d k c env/\∃m,m<n/\I m i) (notedBy (aQ b w) A env λx i=>R (.error x) i) s) (n:Y) (h:I n s):kW (aQ b w) A (.compLoop e d k c env) R s:=by obtain⟨_,_,_,rfl⟩:=l;refine codeAny_loop J I (λn s u=> ?_) n h;show aL _ A ((compTurn _ d k c env).onRaise (λx=>do xj x env;ph x)) _ _ s;refine wpAny_noted ?_;exact rP (IC o q) <| g n s u
section
variable {W:Wd}
set_option tactic.hygienic true in
mutual
theorem vf:∀{t} {x} {env e} {j},jZ t x env=U e->j∉k7 t->e[j]? =env[j]?
 | .v i,x,env,e,j,h,hj=>rS (sm h) <| a6 λq=>hj (show j∈[i]from aU.mpr q.symm)
 | .tup ts,x,env,e,j,h,hj=>by
  induction x using PV.casesOn;case tup xs=>exact zm h hj
  all_goals exact nd h
theorem zm:∀{ts} {xs} {env e} {j},jZ.go ts xs env=U e->j∉uE ts->e[j]? =env[j]?
 |[],[],env,e,j,h,_=>rS (sm h) <| J
 |[],_::_,_,_,_,h,_=>nd h
 |_::_,[],_,_,_,h,_=>nd h
 |t::ts,x::xs,env,e,j,h,hj=>gO h λe1 h1 h2=>(zm h2 λq=>hj<|jL _ q).trans<|vf h1 λq=>hj<|j_ _ q
end
def NA(env:Env)(l:aj Y):Prop:=∀(j:Y) (v:PV),env[j]? =U (U v)->j∉l
def Q1{ow:aj Y}:NA (hide ow env) ow:=λj v h=>(uZ _ _ _ _ h).2
def IJ{a:aj Expr}:∀{s:aw} {Q:aB->aw->Prop},Q af s-> aL (aQ W.prog W.w) A (forIn a af λc r=>if r=ah then do let d<-isTrue c b (eval c b);gZ (jg d)else gZ (jg r)) Q E s:=by
 induction a with
 |nil=>intro s Q h;exact aM h
 |cons c f e=>intro s Q h;refine rP (nS ..) ?_;simp only[iq,wK];exact al<|aM<|e h
def C4(K:KS W N fa k n)(u:Rm n A):∀{g} {l:aj C} {b:aB} {s:aw} {Q:aB->aw->Prop},all2 (gW N f X) g l=ah->St W s->Av x s->cV W x X i env s.heap->NO k env l=U b->(∀o,Nx W s o->Q b o)->aL (aQ W.prog W.w) A (E6 g i) Q E s:=by
 intro g;induction g with
 |nil=>
  intro d;cases d with
  |nil=>intro b s Q _ st _ _ a h;exact aM<|rP (sm a) <| h s<|.refl st
  |cons _ _=>intro _ _ _ h _ _ _ _ _;exact ff h
 |cons e g y=>
  intro d;cases d with
  |nil=>intro _ _ _ h _ _ _ _ _;exact ff h
  |cons c l=>
   intro b s Q q st r t a h
   exact gO a λv z a=>gO a λb1 B a=>by
    unfold E6;refine rP (nS ..) ?_;refine al<|al<|K.tr (gf q).1 u st r t z B λs1 j=>aM ?_;induction b1 using dC
    ·exact IJ<|rP (sm a) <| h _ j
    ·exact y (gf q).2 j.st (r.nx j st) (t.nx j st) a λD m=>h _<|j.trans m
structure OI(W:Wd)(A:cZ)(av O OV:aX->Prop)(X:Cx)(menv:cr)(s₀:aw)(e:Expr)(acc:aA){α:Type}(emit:Env->α->au α)(AccR:α->aw->Prop):Prop where
 mv:∀{a s s' g},AccR a s->Mv W av OV s₀ g s s'->AccR a s'
 step:∀{a s s'} {F:aX->Prop} {GI:Y->Prop},AccR a s->Step F GI s s'->(∀b o,F b->s.heap.get? b=U o->xg o.cls)->AccR a s'
 emit:∀{env a a'} {s:aw} {g:Y} {Q:sY->aw->Prop} {E:aA->aw->Prop},emit env a=U a'->Nx W s₀ s->Av av s->cV W av X menv env s.heap->AccR a s-> (∀s',Mv W av O s₀ g s s'->cV W av X menv env s'.heap->AccR a' s'->Q () s')->aL (aQ W.prog W.w) A (TW e acc menv) Q E s
def t_{e}(h:D' N X (gW N f X) e a=ah):lW e=ah:=by
 induction a using Src.casesOn with
 |of c=>exact sI h
 |rev c=>exact D_ h λ_ _ _ _ _=>rfl
 |esc c=>exact D_ h λ_ _ _ _ _=>rfl
def oM{a}(h:isSync a=ah):a=0:=by
 unfold isSync at h;split at h
 ·rfl
 ·exact ff h
noncomputable def Ct(f:Y)(X:Cx)(a:aj a7):aj f3->aj G->Prop
 |[],[]=>True
 |c::d,g::e=>(∃b,tL f c.target g.t=U b/\vk X a b)/\Ct f X a d e
 |_,_=>iY
def y5{a:Type}{l:aj a}{d}{x:a}{r:aj a}(h:l.drop d=x::r):l[d]? =U x/\l.drop (d+1)=r:=by
 constructor
 ·have:=az (·[0]?) h;simpa using this
 ·have:=az List.tail h;simpa using this
def drop_nil{a:Type}{l:aj a}{d}(h:l.drop d=[]):l[d]? =ag:=by have:=az (·[0]?) h;simpa using this
def G_{N}{ck:Expr->C->aB}{e}:∀{f} {k} {d} {b},e.drop d=f->ua N X ck b f k=ah->Cq e d
 |[],_,d,_,h,_=> .inl<|drop_nil h
 |c::f,[],d,_,h,j=>ff j
 |⟨t,i,l,a⟩::f,g::k,d,_,h,j=> .inr ⟨t,i,l,rS (oM (n2 j).1) <| (y5 h).1⟩
def aap{j:Type}(W:Wd)(A:cZ)(l O:aX->Prop)(X:Cx)(c:cr)(s₀:aw)(k:Kn)(h:Env->j->au j)(f:j->aw->Prop)(e:Expr)(i:aj f3)(n:aA)(o:aj G)(d:Y):Prop:=
 ∀{env:Env} {a q:j} {s:aw} {g:Y} {z:r_ Fin} {r:Fin->aw->Prop} {t:aA->aw->Prop},NA env (gu o)->eG k h o env a=U q->
  Nx W s₀ s->Av l s->(∀b,O b->s.heap.get? b≠ag)->cV W l X c env s.heap->f a s->g<=s.gens.size->
  (∀m,Mv W l O s₀ g s m->cV W l X c env m.heap->f q m->aL (aQ W.prog W.w) A z r t m)->aL (aQ W.prog W.w) A (nextM e i d n c z) r t s
structure Trk(W:Wd)(av O:aX->Prop)(s₀:aw)(B:aX->Prop)(GI:Y->Prop)(M:aw->Prop):Prop where
 nx:∀{s},M s->Nx W s₀ s
 ha:∀{s},M s->Av av s
 mv:∀{s s'},M s->Mv W av O s₀ s.gens.size s s'->M s'
 step:∀{s s'} {F:aX->Prop},M s->Step F GI s s'->(∀b,F b->B b)->(∀b o,F b->s.heap.get? b=U o->xg o.cls)->M s'
 fresh:∀{s b},M s->s.heap.get? b=ag->B b
 ap:∀b,av b->¬B b
inductive LpI{α:Type}(W:Wd)(av:aX->Prop)(X:Cx)(menv:cr)(k:Kn)(emit:Env->α->au α)(AccR:α->aw->Prop)(B:aX->Prop)(M:aw->Prop)(inv:(aX->Prop)->aj PV->aw->Prop)
  (t:T) (ifs:aj C) (gs:aj G) (env:Env) (a':α) (m:Y) (s:aw):Prop
 |mk (xs:aj PV) (F:aX->Prop) (a:α) (hm:xs.length=m) (iv:inv F xs s) (hF:∀b,F b->B b) (hd:Hd menv F) (ms:M s) (er:cV W av X menv env s.heap) (ac:AccR a s) (ev:Cc k emit t ifs gs env xs a=U a')
set_option tactic.hygienic true in
def Tv{α:Type}{u:Env->α->au α}{l:α->aw->Prop}{e}{y}{γ}{wr}{f2}{B:aX->Prop}{M:aw->Prop}(K:KS W N fa k n)(hA:Rm n A)
  (he:wJ e y) (Em:OI W A av O OV X c s₀ e γ u l) (δ:St W s₀) (ow:Own OV wr c) (ε:∀b,OV b->O b) (hO:∀a,O a->av a) (hN:∀b,O b->s₀.heap.get? b=ag)
  {t} {ζ} {gs} {ct it} {β} {d:Y} {env:Env} {a':α} {I:aX} {GI:Y->Prop} {η:(aX->Prop)->aj PV->aw->Prop} {R:Result->aw->Prop} {tg:aj<|a7 × Y}
  (χ:y[d]? =U ⟨ct,it,β,0⟩) (ψ:Cq y<|d+1) (t1:tL f2 ct t=U tg) (t2:vk X wr tg) (c3:all2 (gW N f X) β ζ=ah)
  (ω:∀j,j∈k7 t->j∉gu gs) (Γ:NA env<|k7 t) (Δ:NA env<|gu gs) (Φ:aap W A av O X c s₀ k u l e y γ gs<|d+1) (h:Kp W A av I GI η) (T:Trk W av O s₀ B GI M)
  (fin:∀s',M s'->cV W av X c env s'.heap->l a' s'->R (.ok .next) s') {m} {s:aw} (lp:LpI W av X c k u l B M η t ζ gs env a' m s):
  kW (aQ W.prog W.w) A (.compLoop e d (.ref I) γ c) R s:=by
 refine Jl he χ ψ (LpI W av X c k u l B M η t ζ gs env a') (λm s Ψ=> ?_) m lp;clear lp;obtain⟨xs,F,a,hm,iv,hF,hd,ms,er,ac,ev⟩:=Ψ;refine al<|dK ?_;have odd:∀b o,F b->s.heap.get? b=U o->xg o.cls:=λb o D e=>h.odd iv D e;induction xs using aE with
 |nil=>refine al<|h.done iv (T.nx ms).st λs3 r=> ?_;exact aM<|fin s3 (T.step ms r hF odd) (y2 er r hd odd) (rS (sm ev) <| Em.step ac r odd)
 |cons x xs=>
  refine gO ev λeb b1 ev=>gO ev λb b2 ev=> ?_;refine al<|h.item iv (T.nx ms).st (T.ha ms) λv s3 F3 r ι rv Q=> ?_;have m3:=T.step ms r hF odd;have E:∀b,F3 b->B b:=λb D=>(ι b D).elim (hF b)<|T.fresh ms;have π:∀b,O b->¬F3 b:=λb D Ω=>T.ap b (hO b D)<|E b Ω;refine al<|h.go Q ?_;refine al<|zk (g:=s3.gens.size) hA.handled δ ow (λb D=>hO b<|ε b D) (λb D=>hN b<|ε b D) t1 t2 (T.nx m3) (y2 er r hd odd) rv b1 λs4 m4 κ=> ?_;have μ:Mv W av O s₀ s3.gens.size s3 s4:=m4.mono ε<|aZ _;have ρ:=Em.mv (Em.step ac r odd) m4;have ν:=T.mv m3 μ;refine al<|C4 K hA c3 m4.nx.st (T.ha ν) κ b2 λs5 H=> ?_;have L:=T.mv ν<|.nC m4.nx H;have σ:=κ.nx H m4.nx.st;have ξ:=h.nx (μ.itr h Q π λi hi=>h.gi Q hi) m4.nx.st H;have τ:=Em.mv (g:=0) ρ<|.nC m4.nx H;have υ:=hd.grow er ι;have less:∀(j:Y) (v:PV),env[j]? =U (U v)->eb[j]? =U (U v):=λj v q=>(vf b1<|Γ j v q).trans q;have φ:xs.length<m:=rS hm <| io _;clear iv hF hd er ac odd r ι rv Q m3 m4 κ μ ρ ν H;induction b using dC with
  |false=>exact aM ⟨J,xs.length,φ,xs,F3,a,J,ξ,E,υ,L,ya σ less,τ,ev⟩
  |true=>
   refine gO ev λa2 b3 b4=>Φ (λj v q hj=> ?_) b3 (T.nx L) (T.ha L) (λb D=>T.ha L b<|hO b D) σ τ (aZ _) λs6 m6 er6 ac6=> ?_
   ·exact Δ j v ((vf b1 λz=>ω j z hj).symm.trans q) hj
   ·exact aM ⟨J,xs.length,φ,xs,F3,a2,J,m6.itr h ξ π λi hi=>h.gi ξ hi,E,υ,T.mv L m6,ya er6 less,ac6,b4⟩
def NA.l{t:T}{a:aj C}(b:NA env<|gu<|.mk t c a::d):NA env<|k7 t:=λj v q z=>b j v q<|j_ _ z
def NA.r{env:Env}{a:Src}{b:aj G}(c:NA env<|gu<|.mk t a d::b):NA env<|gu b:=λj v q z=>c j v q<|jL _ z
def FY{α:Type}{H:Env->α->au α}{M:α->aw->Prop}{e}{u}{δ}{wr}{f2}(Go:nH W N fa)(EO:kU W N.ea)(K:KS W N fa k n)(hA:Rm n A)
  (he:wJ e u) (Em:OI W A av O OV X y s₀ e δ H M) (B:St W s₀) (ow:Own OV wr y) (ν:∀b,OV b->O b) (hO:∀a,O a->av a) (hN:∀b,O b->s₀.heap.get? b=ag):
  ∀(Q) {E} {d},u.drop d=E->ua N X (gW N f X) af E Q=ah->Ct f2 X wr E Q->(gu Q).Nodup->aap W A av O X y s₀ k H M e u δ Q d:=by
 intro Q;induction Q with
 |nil=>
  intro E d hd hc _ _ env a a' s g z QF EF _ ev i ha hx er ac hg h;induction E using aE with
  |cons c E=>exact ff hc
  |nil=>unfold nextM;exact rP (drop_nil hd) <| al<|Em.emit ev i ha er ac h
 |cons G Q ih=>
  intro E d hd hc ξ nd env a a' s g z QF EF na ev i ha hx er ac hg h;obtain⟨t,π,τ⟩:=G;induction E using aE with
  |nil=>exact ff hc
  |cons c E=>
   obtain⟨ct,it,σ,ia⟩:=c;have c2:D' N X (gW N f X) it π=ah:=(n2 (n2 hc).2).1;have c3:=n2 (n2 (n2 hc).2).2;obtain rfl:=oM (n2 hc).1;clear hc;have D:=y5 hd;refine jG (ξ) λβ ε=> ?_;refine cm (β) λtg t1 t2=> ?_;have ζ:=O1.mp nd;refine gO ev λγ e1 ev=> ?_;unfold nextM;refine rP D.1 ?_;refine al<|vV Go EO K hA c2 i.st ha er e1 λv s1 η sp=> ?_;refine al<|dK ?_;refine rP (qB<|t_ c2) ?_;refine al<|aM<|al<|cC<|sp _ _ λI s2 F GI υ ι DM up iv hF hG=> ?_;have κ:∀{g O},Mv W av O s₀ g s s2:= .nC i<|η.trans ι
   have T:Trk W av O s₀ (λb=>s.heap.get? b=ag) GI λs'=>Mv W av O s₀ g s s':=
    ⟨λm=>m.nx,λm=>m.Am ha,λm m2=>m.trans<|m2.mono (λ_ h=>h)<|ab hg m.gens,λm ρ hF odd=>m.step B i.st i ρ hF odd hG hg,λ{s' b} m q=>by
     cases e:s.heap.get? b with
     |none=>rfl
     |some o=>exact bI q<|m.lv b (by refine rP e ?_;nofun),λb hb q=>ha b hb q⟩
   have μ:=DM A hA.handled J J av
   have L:=Tv (R:=λr s'=>match r with| .ok f=>aL (aQ W.prog W.w) A z QF EF s'| .error x=>cameBackBy (aQ W.prog W.w) A y EF x s') K hA he Em B ow ν hO hN D.1 (G_ D.2 c3.2) t1 t2 c3.1 (λj h1 h2=>ζ.2.2 j h1 j h2 J) na.l na.r (ih D.2 c3.2 ε ζ.2.1) μ T h ⟨γ,F,a,J,iv,hF,.new er hF,κ,er.nx (η.trans ι) i.st,Em.mv (g:=g) ac κ,ev⟩
   exact al<|wpAny_runOwn<|yo he D.1 L<|μ.self iv L
end
set_option tactic.hygienic true in
theorem DE{α:Type}(Go:nH W N fa)(EO:kU W N.ea)(K:KS W N fa k n)(hA:Rm n A)
  (he:wJ e M) (Em:OI W A v O OV X g s₀ e ζ Q B) (c:St W s₀) (ow:Own OV wr g) (β:∀b,OV b->O b) (hO:∀a,O a->v a) (hN:∀b,O b->s₀.heap.get? b=ag)
  (hd:M.drop d=⟨ct,it,D,0⟩::cs) (c3:all2 (gW N f X) D x=ah) (c4:ua N X (gW N f X) af cs gs=ah) (η:Ct f2 X wr (⟨ct,it,D,0⟩::cs)<|.mk t γ x::gs) (ι:(gu<|.mk t γ x::gs).Nodup) (na:NA env<|gu<|.mk t γ x::gs)
  (κ:Kp W A v I GI μ) (ν:∀i,GI i->s₀.gens.size<=i) (iv:μ F h s) (hF:∀b,F b->s₀.heap.get? b=ag) (ξ:∀b,v b->¬F b) (π:Hd g F) (n0:Nx W s₀ s) (ha:Av v s) (er:cV W v X g env s.heap) (ac:B a s)
  (ev:Cc k Q t x gs env h a=U a') (fin:∀u,Nx W s₀ u->cV W v X g env u.heap->B a' u->R (.ok .next) u):kW (aQ W.prog W.w) A (.compLoop e d (.ref I) ζ g) R s:=by
 have H:=y5 hd;refine jG (η) λL δ=> ?_;refine cm (L) λtg t1 t2=> ?_;have E:=O1.mp ι
 have T:Trk W v O s₀ (λb=>s₀.heap.get? b=ag/\¬v b) GI λu=>Nx W s₀ u/\Av v u:=
  ⟨λm=>m.1,λm=>m.2,λm m2=>⟨m2.nx,m2.Am m.2⟩,λ{s u F} m ε hF odd=>⟨m.1.step c ε (λb y=>(hF b y).1) odd ν,λb y q=>by
   cases e:s.heap.get? b with
   |none=>exact m.2 b y e
   |some o=>exact nd<|q.symm.trans<|ε.keep b o (λz=>(hF b z).2 y) e⟩,λm q=>⟨m.1.new c q,λz=>m.2 _ z q⟩,λb y q=>q.2 y⟩
 exact Tv K hA he Em c ow β hO hN H.1 (G_ H.2 c4) t1 t2 c3 (λj h1 h2=>E.2.2 j h1 j h2 J) na.l na.r (FY Go EO K hA he Em c ow β hO hN gs H.2 c4 δ E.2.1) κ T (λu m=>fin u m.1) ⟨h,F,a,J,iv,λb y=>⟨hF b y,λz=>ξ b z y⟩,π,⟨n0,ha⟩,er,ac,ev⟩
def Rs(r:cV W d X a env h)(i:X.uq=[])(f:∀b o,b≠D->h.get? b=U o->g.get? b=U o)(hL:D≠a.locals)(j:∀y c,iO a y=U (.cell c)->D≠c) (l:∀p v,bf W d h p v->bf W d g p v):cV W d X a env g:=r.mv (λ_ q=>q.at' λo e=>f _ _ hL.symm e) (λy c e k o q=>q.imp λz w=>⟨f _ _ (λz=>j y c (mS k e) z.symm) w.1,w.2⟩) (λz=>bI i z)<|l _ _
def DF(h:fX)(D:aX)(a:aj PV)(c:aj aA):Prop:=∀(i:Y) (x:aj PV) (b:aX),a[i]? =U (.lst x)->c[i]? =U (.ref b)->h.get? b=ag/\b≠D/\∀(j:Y) (y:aj PV),j<i->a[j]? =U (.lst y)->c[j]? ≠U (.ref b)
def SD(W:Wd)(c:aX->Prop)(d:aB)(h:fX)(D:aX)(a:aj PV)(s:aw):Prop:=∃b:aj aA,s.heap.PlainList D b.toArray/\ba W c s.heap a b/\(d=ah->DF h D a b)
def DF.add(d:DF h D a w)(A:ba W av s.heap a w)(B:s.heap.get? D≠ag)(n:∀b,s.heap.get? b=ag->h.get? b=ag)(E:i5 s v):DF h D (a++[r])<|w++[v]:=by
 have k:=A.length;intro i x b o l;rcases Nat.lt_trichotomy i a.length with q|q|q
 ·rw[fH q]at o;rw[fH<|rS k <| q]at l;refine E0 (d i x b o l) λH I L=>⟨H,I,λj y f g=> ?_⟩;rw[fH<|fY f q]at g;refine rP (fH<|rS k <| fY f q) ?_;exact L j y f g
 ·subst q;rw[k,List.getElem?_concat_length]at l;obtain rfl:=sm l;have t:=E b J;refine⟨n b t,λz=>B<|rS z <| t,λj y f g=> ?_⟩;rw[fH f]at g;refine rP (fH<|rS k <| f) ?_;intro M;refine cm (A.get g) λu O Q=> ?_;obtain rfl:=sm<|M.symm.trans O;refine bf.Jh (P:=λu=>u= .ref b->iY) Q (λc vs _ hp _ e=> ?_) J;cases e;exact hp.elim λm e=>nd<|t.symm.trans e
 ·exact nd<|(jN<|rP aW q).symm.trans o
def Rv(α:dp=ah->xu N 8 c=ah)(K:KS W N fa k n)(hA:Rm n A)(j:St W s₀)(hc:gW N f X β c=ah)(hu:X.uq=[])(ζ:∀b,w b->x b)(hD:x D)(γ:¬w D)
  (hN:∀b,w b\/b=D->s₀.heap.get? b=ag) (hL:D≠l.locals) (hC:∀y c,iO l y=U (.cell c)->D≠c):
  OI W A x (λb=>w b\/b=D) w X l s₀ (.ListComp β ε sc η) (.ref D) (fK k c) (SD W x dp s₀.heap D):=by
 refine⟨?_,?_,?_⟩
 ·rintro a s s' g ⟨B,⟨m,t⟩,u,H⟩ mv;exact⟨B,⟨m,mv.keep _ _ γ t nofun (by show cK "list"≠cK "frame";decide)⟩,mv.Yb u,H⟩
 ·rintro a s s' F GI ⟨B,⟨m,t⟩,u,H⟩ st hO;exact⟨B,⟨m,st.keep _ _ (λq=>(hO _ _ q t).ne.2.1 J) t⟩,st.RV hO u,H⟩
 ·rintro env a a' s g Q E I d ha er ⟨B,t,u,H⟩ h;obtain⟨r,e1,I⟩:=ef I;generalize i:aY _ _=o at I;cases o with
  |false=>exact nd I
  |true=>
  obtain rfl:=sm I;have δ:=aD i;refine al<|K.ex hc hA d.st ha er e1 λv s1 O rv fr=> ?_;have L:=fV O d.st t;refine al<|Ks L (λh' hl hs=> ?_) (by have:=u.length;exact rP aO <| rP cS <| rS this <| ab δ<|dcd J);refine aM ?_;have ch:Cu x (λb=>b=D) s1 {s1 with heap:=h'}:=⟨λb o i e=>hs.extBut b o i e,λb i=>i▸hD,J,J⟩;have m1:Mv W x (λb=>w b\/b=D) s₀ g s s1:= .nC d O
  have m2:Mv W x (λb=>w b\/b=D) s₀ g s1 {s1 with heap:=h'}:=by
   refine .w5 j m1.nx ch (λb i=> .inr i) hN (λb o i e=> .inr λvs z=> ?_) λb i _=> ?_
   ·subst i;refine dQ (L) λm e2=> ?_;rw[e2]at e;cases e;cases z
   ·subst i;refine dQ (hl) λm e2=> ?_;refine rP e2 ?_;nofun
  refine h _ (m1.trans m2) (Rs (er.nx O d.st) hu (λb o i e=>hs.extBut b o i e) hL hC λp v q=>q.chg ch) ?_;refine⟨B++[v],by simpa using hl,((u.nx O d.st).append<|.one rv).chg ch,λhd=>(H hd).add u (t.elim λm e z=>nd<|z.symm.trans e) (λb i=>d.new j i)<|fr 8<|α hd⟩
noncomputable def mV(cells:aj<|a7 × aX):aj (a7 × dJ)->aj (a7 × aX)->aj (a7 × aX)
 |[],a=>a
 |p::r,a=>if p.2== .free then mV cells r ((p.1,(cells.lookup p.1).getD 0)::a)else mV cells r a
def Gk:∀(a:aj<|a7 × dJ) (b:aj<|a7 × aX),(∀p∈a,p.2= .free->∃c,env.cells.lookup p.1=U c)->
  (forIn a b (λ(x:a7 × dJ) (i:aj<|a7 × aX)=>match x with
   |(d,e)=>if(e== .free)=ah then(do let c<-cellOf env d;gZ (jg<|(d,c)::i):r_ _)else gZ (jg i)):r_<|aj<|a7 × aX)=gZ (mV env.cells a b):=by
 intro a;induction a with
 |nil=>intro b _;exact J
 |cons f r j=>
  obtain⟨nm,k⟩:=f;intro b h;refine rP (nS ..) ?_;by_cases q:k= .free
  ·subst q;refine dQ (h _ (.head _) J) λc l=> ?_;show(cellOf env nm >>= _) >>= _=gZ (mV env.cells r<|(nm,(env.cells.lookup nm).getD 0)::b);delta cellOf;exact rP (l ..) <| j _ λp g=>h p<|.tail _ g
  ·have m:(k== .free)=af:=cw.mpr q;refine uz ?_<|(j b λp g=>h p<|.tail _ g).trans<|az gZ (bA λz=>q<|dW z).symm;dsimp only;exact rP (m ..) J
def zb(h:∀p∈a.names,p.2= .free->∃c,env.cells.lookup p.1=U c):Xj a env=gZ (mV env.cells a.names []):=by have:=Gk a.names [] h;exact(az (· >>= λb=>gZ b) this)
def yQ{a:Type}{p q:a}{r:aj a}(h:p≠q):p∈q::r<->p∈r:=⟨λz=>(aR.mp z).elim (bI · h) id,.tail _⟩
def D9{names:aj<|a7 × dJ}{acc:aj<|a7 × aX}:(mV cells names acc).lookup x=if(x,d7)∈names then U ((cells.lookup x).getD 0)else acc.lookup x:=by
 induction names generalizing acc with
 |nil=>exact(bA a0).symm
 |cons p r a=>
  by_cases q:p.2= .free
  ·refine uz (az (pW x)<|bM<|eR.mpr q)<|a.trans ?_;by_cases h:(x,d7)∈r
   ·exact rP (bM h)<|rP (bM<|.tail _ h) J
   ·refine rP (bA h)<|rP dk ?_;by_cases e:x=p.1
    ·exact rP (bM (by rw[e,<-q];exact .head _) ..)<|rP (e ..)<|rP (cH ..) J
    ·exact rP (bA λz=>h<|(yQ λz=>e<|az Prod.fst z).mp z)<|rP (cw.mpr e) J
  ·refine uz (az (pW x)<|bA λz=>q<|dW z)<|a.trans<|ite_congr (propext (yQ λz=>q (az Prod.snd z).symm).symm) (λ_=>rfl) λ_=>rfl
def wE{names:aj<|a7 × dJ}:∀{m} {acc:aj<|a7 × aX},((x,cO)∈names->∃c,(eH m names acc).lookup x=U c)/\((x,cO)∉names->(eH m names acc).lookup x=acc.lookup x):=by
 induction names with
 |nil=>exact⟨nofun,λ_=>rfl⟩
 |cons p r a=>
  intro m acc;by_cases q:p.2= .cell
  ·refine rP (show eH m (p::r) acc=_ from bM<|eR.mpr q) ?_;refine⟨λh=> ?_,λh=> ?_⟩
   ·by_cases g:(x,cO)∈r
    ·exact a.1 g
    ·exact rP (a.2 g ..) <| rP (dk ..) <| rP (show x=p.1 from(aR.mp h).elim (az Prod.fst) (bI · g)) <| rP (cH ..) <| ⟨m,J⟩
   ·exact rP (a.2 λz=>h (.tail _ z) ..)<|rP (dk ..)<|rP (cw.mpr λe=>h (by rw[e,<-q];exact .head _) ..) J
  ·rw[show eH m (p::r) acc=_ from bA λz=>q<|dW z,yQ λz=>q (az Prod.snd z).symm];exact a
def Aj:∀(a:aj<|a7 × dJ) (m) (b:aj<|a7 × aX),eH m a b=eH m a []++b:=by
 intro a;induction a with
 |nil=>intro m b;exact J
 |cons c r d=>
  obtain⟨nm,e⟩:=c;intro m b;unfold eH;split
  ·refine rP (d (m+1)<|(nm,m)::b)<|rP (d (m+1) [(nm,m)]) ?_;simp
  ·exact d m b
def sW(c:kH)(a:cr)(s:aw):cr:={scope:=c,locals:=s.heap.objs.size,globals:=a.globals,cells:=eH (s.heap.objs.size+1) c.names<|mV a.cells c.names [],qual:=a.qual,func:=ag,code:=a.code,frame:=a.frame,builtins:=a.builtins}
noncomputable def rX(b:kH)(s:aw):fX:=aaA (s.heap.push {cls:= .type "dict",data:= .dict #[]}) b.names
def zZ(h:Q (sW e a s) {s with heap:=rX e s}):aL M A (acS e a.globals (mV a.cells e.names []) [] a.qual ag .none<|U a) Q E s:=by show aL M A (alloc {cls:= .type "dict",data:= .dict #[]} >>= _) Q E s;refine al<|wpAny_alloc ?_;refine al<|acN _ (λi d cells=>by cases g:d==cO<;>simp[g]) _ _ _ _ ?_;exact rP (show({s with heap:=s.heap.push {cls:= .type "dict",data:= .dict #[]}}:aw).heap.objs.size=s.heap.objs.size+1 from lO ..) <| al<|aM<|aM h
def mW:∀b o,s.heap.get? b=U o->(rX a s).get? b=U o:=λb o e=>EC _ _ _ _<|bu _ e
def GC(a:kH)(s:aw)(b:aX):Prop:=b=s.heap.objs.size\/∃x,(x,b)∈eH (s.heap.objs.size+1) a.names []
def oO:CellsOk (rX a s) (s.heap.objs.size+1)<|eH (s.heap.objs.size+1) a.names []:=by have:=cellsFrom_ok a.names (s.heap.push {cls:= .type "dict",data:= .dict #[]}) (s.heap.objs.size+1) [] ⟨λ_ _ d=>(nomatch d),List.Pairwise.nil⟩<|rP (lO ..) <| aZ _;rw[lO]at this;exact this
def vm(h:GC c s b):s.heap.get? b=ag:=by
 rcases h with rfl|⟨x,a⟩
 ·exact eL _
 ·exact yX<|Nat.le_of_succ_le (oO.empty x b a).2
def J1(h:GC a s b):(rX a s).get? b≠ag:=by
 rcases h with rfl|⟨x,c⟩
 ·have:(rX a s).get? s.heap.objs.size=_:=EC _ _ _ _<|bQ _ J;refine rP this ?_;nofun
 ·refine cm ((oO.empty x b c).1) λo e _=> ?_;refine rP e ?_;nofun
def Dn{l:aj<|a7 × aX}(h:l.Pairwise λx y=>x.2≠y.2)(d:(x,c)∈l)(f:(y,c)∈l):x=y:=by
 induction l with
 |nil=>cases d
 |cons a l g=>
  rw[List.pairwise_cons]at h;rcases aR.mp d with e|g1<;>rcases aR.mp f with b|g2
  ·rw[<-e]at b;cases b;rfl
  ·exact(h.1 _ g2<|rS e J).elim
  ·exact(h.1 _ g1<|rS b J).elim
  ·exact g h.2 g1 g2
def lookup_mem{a:Type}{l:aj<|a7 × a}{b:a}(h:l.lookup x=U b):(x,b)∈l:=dZ h
def FH{a b:Type}{f:a7->a->b}{l:aj<|a7 × a}:(l.map λp=>(p.1,f p.1 p.2)).lookup x=(l.lookup x).map (f x):=by
 induction l with
 |nil=>rfl
 |cons p l c=>
  refine rP fR<|rP dk<|rP dk ?_;by_cases e:x=p.1
  ·exact rS (e ..) <| rP (cH ..) J
  ·exact rP (cw.mpr e) c
def Ae{a:Type}{f:a7 × a->aB}(c:∀q,q.1=x->f q=ah){l:aj<|a7 × a}:(l.filter f).lookup x=l.lookup x:=by
 induction l with
 |nil=>rfl
 |cons p l b=>
  refine rP Pq<|rP dk ?_;by_cases e:x=p.1
  ·exact rP (bM (c p e.symm) ..)<|rP (dk ..)<|rS (e ..)<|rP (cH ..) J
  ·refine rP (cw.mpr e) ?_;cases f p with
   |true=>exact(dk ..).trans<|rS ((cw.mpr e).symm) <| b
   |false=>exact b
def tE:(zi X a).lookup x=(a.lookup x).map λk=>if k== .free&&X.nm.lookup x==U .cell then .cell else k:=(az (pW x)<|gz λp _=>by split<;>rfl).trans<|FH (f:=λy k=>if k==d7&&X.nm.lookup y==U cO then cO else k)
structure ScF(X:Cx)(sc:kH):Prop where
 kind:sc.kind= .function
 nd:iA (sc.names.map (·.1))=ah
 loc:∀p∈sc.names,p.2= .local->sc.names.lookup p.1=U .local
 fr:∀p∈sc.names,p.2= .free->X.nm.lookup p.1=U .cell\/X.nm.lookup p.1=U .free
def Fe(h:Yw X f=ah):ScF X f:=by
 have b:=n2 (n2 (n2 (n2 h).1).1).1;have c:=n2 b.1;have d:=n2 c.1;refine⟨aq d.1,d.2,λp a e=> ?_,λp a e=> ?_⟩
 ·refine(bH.mp<|a_.mp c.2 p a).elim (λq=> ?_) lq;rw[e]at q;exact ff q
 ·refine(bH.mp<|a_.mp b.2 p a).elim (λq=> .inl<|(bH.mp q).elim (λq=> ?_) lq) λq=> .inr<|lq q;rw[e]at q;exact ff q
def lf{l:aj<|a7 × dJ}{x}{a}:iA (l.map (·.1))=ah->(x,a)∈l->l.lookup x=U a:=by
 induction l with
 |nil=>intro _ h;cases h
 |cons p r b=>
  intro nd h;have nd:=n2 (show(!((r.map (·.1)).any (· ==p.1))&&iA (r.map (·.1)))=ah from nd);refine rP dk ?_;rcases aR.mp h with rfl|h
  ·exact rP (cH ..) J
  ·exact rP (cw.mpr λe=>jV.mp (n0 nd.1) x (hY h)<|eR.mpr e) <| b nd.2 h
def n_{d:kH}{s:aw}{x:a7}(o:ScF X d):
  ((x,cO)∈d.names->∃c,(sW d menv s).cells.lookup x=U c/\(x,c)∈eH (s.heap.objs.size+1) d.names [])/\
  ((x,d7)∈d.names->(sW d menv s).cells.lookup x=U ((menv.cells.lookup x).getD 0))/\
  ((x,cO)∉d.names->(x,d7)∉d.names->(sW d menv s).cells.lookup x=ag):=by
 have f:=wE (x:=x) (names:=d.names) (m:=s.heap.objs.size+1) (acc:=[]);have i:=D9 (cells:=menv.cells) (x:=x) (names:=d.names) (acc:=[]);have e:(sW d menv s).cells=eH (s.heap.objs.size+1) d.names []++mV menv.cells d.names []:=Aj _ _ _;have n:∀(l m:aj<|a7 × aX),(l++m).lookup x=(l.lookup x).or (m.lookup x):=λl m=>vG ..;refine rP (e ..)<|rP (n ..) ?_;refine⟨λh=> ?_,λh=> ?_,λj q=> ?_⟩
 ·exact(f.1 h).elim λc j=>⟨c,by exact rP (j ..) J,lookup_mem j⟩
 ·have:(x,cO)∉d.names:=λz=>by have a:=lf o.nd h;have b:=lf o.nd z;rw[a]at b;cases b
  exact rP (f.2 this ..) <| rP (i ..) <| rP (bM h ..) J
 ·exact rP (f.2 j ..) <| rP (i ..) <| rP (bA q ..) J
def ve{s:aw}{b:fX}(l:ScF X d)(m:∀x,(x,d7)∈d.names->∃c o,a.cells.lookup x=U c/\b.IsCell c o)(h:(sW d a s).cells.lookup x=U c):(x,c)∈eH (s.heap.objs.size+1) d.names []\/(a.cells.lookup x=U c/\b.get? c≠ag):=by
 have C:=n_ (menv:=a) (s:=s) (x:=x) l;by_cases j:(x,cO)∈d.names
 ·exact .inl<|cm (C.1 j) λk f g=>rS (sm<|f.symm.trans h) <| g
 ·by_cases i:(x,d7)∈d.names
  ·refine .inr<|oV (m x i) λk o f g=> ?_;have e:=C.2.1 i;rw[f,h]at e;exact rP (sm e) <| g.elim λn q=>⟨f,by refine rP (show b.get? ((U k).getD 0)=_ from q.1) ?_;nofun⟩
  ·rw[C.2.2 j i]at h;cases h
def Gn{a:kH}(h:(zi X a.names).lookup x=U .cell\/(zi X a.names).lookup x=U .free):(x,cO)∈a.names\/(x,d7)∈a.names:=by
 rw[tE]at h;cases e:a.names.lookup x with
 |none=>rw[e]at h;rcases h with h|h<;>cases h
 |some k=>
  rw[e]at h;by_cases q:k= .free
  ·exact .inr<|rS q <| lookup_mem e
  ·have z:(if(k== .free&&X.nm.lookup x==U .cell)=ah then cO else k)=k:=bA λz=>q<|dW (n2 z).1;exact h.elim (λw=> .inl<|rS (z.symm.trans<|sm w) <| lookup_mem e) λw=>(q<|z.symm.trans<|sm w).elim
def Rt{s:aw}{sl:aj Y}{M:aj<|a7 × Y}(st:St W s)(A:ScF X l)(B:cV W av X f env s.heap)(O:∀p∈M,p.2∈sl):cV W (λb=>av b\/GC l s b) (JM X l M) {sW l f s with scope:=nh l f} (hide sl env)<|rX l s:=by
 have nx:Nx W s {s with heap:=rX l s}:=(Nx.refl st).keeps mW;have H:∀x,f.kindOf x=X.nm.lookup x:=λx=>by delta Env.kindOf;exact rP B.names J
 have n:(nh l f).names=zi X l.names:=gz λp _=>by show(if(p.2== .free&&f.scope.kind== .function&&f.kindOf p.1==U .cell)=ah then _ else p)=_;exact rP (B.kind ..)<|rP (H ..)<|rP (cH ..)<|rP (Bool.and_true ..) J
 have g:∀x,(x,d7)∈l.names->∃c o,f.cells.lookup x=U c/\s.heap.IsCell c o:=λx h=>B.cel x<|A.fr _ h J;have r:∀{x c},(x,d7)∈l.names->f.cells.lookup x=U c->(sW l f s).cells.lookup x=U c:=λ{x c} m e=>((n_ A).2.1 m).trans<|rP e J;refine⟨A.kind,B.glob,B.blt,n,⟨_,(Heap.Ns.new s.heap<|.type "dict").keeps<|EC _ _⟩,λx hx=>(Gn hx).elim (λm=> ?_) λm=> ?_,λx y c I E=> ?_,λx i v hx hv=> ?_,λx y i j u v a b c=>by cases c⟩
 ·exact cm ((n_ A).1 m) λc I E=>⟨c,ag,I,(oO.empty x c E).1⟩
 ·exact oV (g x m) λc o I E=>⟨c,o,r m I,jF nx st E⟩
 ·have L:∀{z},(z,c)∈eH (s.heap.objs.size+1) l.names []->s.heap.get? c=ag:=λ{z} h=>vm<|.inr ⟨z,h⟩;exact(ve A g I).elim (λa=>(ve A g E).elim (Dn oO.apart a) λb=>(b.2<|L a).elim) λa=>(ve A g E).elim (λb=>(a.2<|L b).elim) λb=>B.inj x y c a.1 b.1
 ·refine jG (uZ _ _ _ _ hv) λα β=> ?_;have t:(M++X.Γ.filter (λp=>CP (l.names.lookup p.1) .free)).lookup x=U i:=hx;rw[vG]at t;cases e:M.lookup x with
  |some j=>rw[e]at t;exact(β<|rS (sm t) <| O _<|lookup_mem e).elim
  |none=>
   rw[e]at t;have D:(X.Γ.filter λp=>CP (l.names.lookup p.1) .free).lookup x=U i:=t;have hk:=(SU.mp<|lookup_mem D).2;have k:(x,d7)∈l.names:=lookup_mem<|lq hk;rw[Ae λq z=>by exact rP z hk]at D;refine jj (B.slot x i v D α) λδ v' a b c=> ?_;refine oV (g x k) λc0 o0 q1 q2=> ?_;obtain rfl:=sm<|(mS (rP (H ..) <| A.fr _ k J) q1).symm.trans a;refine⟨.cell c0,v',mS ?_<|r k q1,Loc.holds.nx nx st b,(c.avoid λd hd=>hd.elim .inl λw=> .inr<|vm w).nx nx st⟩;show(nh l f).names.lookup x=_\/(nh l f).names.lookup x=_;refine rP n<|rP tE<|rP (lf A.nd k) ?_;cases X.nm.lookup x==U cO with
   |true=>exact .inl<|az U<|bM J
   |false=>exact .inr<|az U<|bA λz=>ff (n2 z).2
def E5(i:∀{e t c},r e t=U c->c.map (·.2)=k7 t):∀{f} {g} {c:aj<|a7 × Y},PH r f g=U c->c.map (·.2)=uE g:=by
 intro f;induction f with
 |nil=>
  intro d;cases d with
  |nil=>intro c h;exact rS (sm h) <| J
  |cons _ _=>intro _ h;exact nd h
 |cons e f j=>
  intro d;cases d with
  |nil=>intro _ h;exact nd h
  |cons t g=>intro c h;exact gO h λa k h=>gO h λb l h=>rS (sm h) <| (dq ..).trans<|congr (az _<|i k) (j l)
theorem C3:∀{f} {e} {t} {a:aj<|a7 × Y},tL f e t=U a->a.map (·.2)=k7 t
 |0,_,_,_,h=>nd h
 |f+1,e,.v i,a,h=>uT h λx p h=>rS (sm h) <| J
 |f+1,e,.tup b,a,h=>wc h λc n p h=>E5 C3 h
theorem vQ:∀{g} {e} {d:aj<|a7 × Y},C2 f g e=U d->d.map (·.2)=gu e
 |[],[],d,h=>rS (sm h) <| J
 |[],_::_,_,h=>nd h
 |c::_,[],_,h=>nd h
 |c::g,.mk u _ _::e,d,h=>gO h λa i h=>gO h λb j h=>rS (sm h) <| (dq ..).trans<|congr (az _<|C3 i) (vQ j)
def UQ:∀{e} {j} {i:aj<|a7 × Y},C2 f e j=U i->vk X m i->Ct f X m e j:=by
 intro e;induction e with
 |nil=>
  intro d;cases d with
  |nil=>intro i h _;exact trivial
  |cons _ _=>intro _ h _;exact nd h
 |cons c e n=>
  intro d;cases d with
  |nil=>intro _ h _;exact nd h
  |cons g j=>intro i h l;exact gO h λa o h=>gO h λb q h=>⟨⟨a,o,λp k=>l p<|rS (sm h) <| j_ _ k⟩,n q λp k=>l p<|rS (sm h) <| jL _ k⟩
def W0{l:aj a7}{a:a7}(h:(!(l.any (· ==a)))=ah):a∉l:=λb=>by have:=jV.mp (n0 h) a b;exact this<|cH a
def qz{l}:we l=ah->l.Nodup:=by
 induction l with
 |nil=>intro _;exact Bv
 |cons a r b=>intro h;exact dH.mpr ⟨λc=>jV.mp (n0 (n2 h).1) a c<|kw a,b (n2 h).2⟩
def IG:∀{c:aj<|a7 × Y} {p:a7 × Y},iA (c.map (·.1))=ah->p∈c->c.lookup p.1=U p.2:=by
 intro c;induction c with
 |nil=>first|nofun|contradiction|(intros;contradiction)
 |cons d r g=>
  obtain⟨a,b⟩:=d;intro p nd h;refine rP dk ?_;rcases aR.mp h with rfl|h
  ·exact rP (cH ..) J
  ·have q:p.1≠a:=λe=>W0 (n2 nd).1 (rS e <| hY (f:=(·.1)) h);exact rP (cw.mpr q) <| g (n2 nd).2 h
def PX{a:aj<|a7 × Y}(nd:(a.map (·.2)).Nodup)(c:(x,i)∈a)(e:(y,i)∈a):x=y:=by
 induction a with
 |nil=>cases c
 |cons p r f=>
  rw[fR,dH]at nd;rcases aR.mp c with d|g1<;>rcases aR.mp e with b|g2
  ·rw[<-d]at b;cases b;rfl
  ·exact(nd.1<|bZ.mpr ⟨_,g2,by exact rS d J⟩).elim
  ·exact(nd.1<|bZ.mpr ⟨_,g1,by exact rS b J⟩).elim
  ·exact f nd.2 g1 g2
structure Sy(N:Nm)(f:Y)(X:Cx)(sc:kH)(gens:aj f3)(gs:aj G)(tg:aj<|a7 × Y):Prop where
 tgs:C2 f gens gs=U tg
 sf:ScF X sc
 kinds:∀p∈tg,sc.names.lookup p.1=U .local\/sc.names.lookup p.1=U .cell
 nds:iA (tg.map (·.1))=ah
 ndb:(tg.map (·.2)).Nodup
 dis:∀p∈tg,∀q∈X.Γ,p.2≠q.2
 head:HN N X (gW N f X) gens gs=ah
 rest:ua N (JM X sc tg) (gW N f<|JM X sc tg) ah gens gs=ah
def qJ(h:Oc N f X (gW N f) g a o body=ah):∃b,Sy N f X g a o b/\body (gW N f<|JM X g b)=ah:=by
 refine cm (kD h) λb c h=> ?_;have i:=n2 (n2 h).2;have j:=n2 i.2;have k:=n2 j.2;have l:=n2 k.2;have m:=n2 l.2;have n:=n2 m.2;refine⟨b,⟨c,Fe (n2 h).1,λp d=> ?_,j.1,qz k.1,λp d q r e=> ?_,m.1,n.1⟩,n.2⟩
 ·exact(bH.mp<|a_.mp i.1 p d).imp lq lq
 ·have:=n0<|a_.mp (a_.mp l.1 p d) q r;rw[e,kw]at this;exact tf this
def Sy.ok{a:aj<|a7 × Y}(c:Sy N f X d e h a):vk (JM X d a) (a.map (·.1)) a:=by
 intro p b;refine⟨hY b,?_,λy g=> ?_,nofun⟩
 ·show(a++_).lookup p.1=U p.2;exact rP vG <| rP (IG c.nds b) J
 ·have hm:=lookup_mem (show(a++X.Γ.filter (λq=>CP (d.names.lookup q.1) .free)).lookup y=U p.2 from g);rcases dI.mp hm with hm|hm
  ·exact PX c.ndb hm b
  ·exact(c.dis p b (y,p.2) (SU.mp hm).1 J).elim
def Sy.B6(c:Sy N f X i a e j):firstAsync a=af:=by
 have b:=c.rest;induction a using aE with
 |nil=>rfl
 |cons g k=>
  obtain⟨l,m,d,n⟩:=g;induction e using aE with
  |nil=>exact ff b
  |cons G h=>obtain rfl:=oM (n2 b).1;rfl
def Sy.own(c:Sy N f X g u H v):Own (GC g s) (v.map (·.1)) {sW g d s with scope:=nh g d}:=by
 have i:∀x∈v.map (·.1),g.names.lookup x=U .local\/g.names.lookup x=U .cell:=λx m=>by refine cm (bZ.mp m) λp A j=> ?_;obtain rfl:=j;exact c.kinds p A
 refine⟨.inl J,λx m w n=> ?_,λx m=> ?_⟩
 ·rcases i x m with h|h
  ·have a:(x,cO)∉g.names:=λz=>by rw[lf c.sf.nd z]at h;cases h
   have b:(x,d7)∉g.names:=λz=>by rw[lf c.sf.nd z]at h;cases h
   have:=(n_ (menv:=d) (s:=s) (x:=x) c.sf).2.2 a b;rw[show(sW g d s).cells.lookup x=U w from n]at this;exact dn this
  ·refine cm ((n_ (menv:=d) (s:=s) (x:=x) c.sf).1<|lookup_mem h) λI y t=> ?_;rw[show(sW g d s).cells.lookup x=U w from n]at y;obtain rfl:=sm y;exact .inr ⟨x,t⟩
 ·show(nh g d).names.lookup x=_\/(nh g d).names.lookup x=_
  have B:∀(l:aj<|a7 × dJ),(l.map λ(p:a7 × dJ)=>if(p.2==d7&&d.scope.kind== .function&&d.kindOf p.1==U .cell)=ah then(p.1,cO)else p).lookup x=(l.lookup x).map λk=>if(k==d7&&d.scope.kind== .function&&d.kindOf x==U .cell)=ah then cO else k:=by
   intro l;induction l with
   |nil=>rfl
   |cons p r D=>
    obtain⟨a,i⟩:=p;refine rP fR ?_
    have e:(if((a,i).2==d7&&d.scope.kind== .function&&d.kindOf (a,i).1==U .cell)=ah then((a,i).1,cO)else(a,i))=(a,if(i==d7&&d.scope.kind== .function&&d.kindOf a==U .cell)=ah then cO else i):=by split<;>rfl
    refine rP e<|rP dk<|rP dk ?_;by_cases q:x=a
    ·subst q;simp only[cH];rfl
    ·have t:(x==a)=af:=by simpa using q
     simp only[t];exact D
  have:=B g.names;have E:(nh g d).names.lookup x=(g.names.lookup x).map λk=>if(k==d7&&d.scope.kind== .function&&d.kindOf x==U .cell)=ah then cO else k:=this
  refine rP E ?_;rcases i x m with h|h<;>refine rP h ?_
  ·exact .inl J
  ·exact .inr J
section
variable {W:Wd} {N:Nm} {fa:Y->aX} {k:Kn} {n:Y} {f:Y} {X:Cx} {A:cZ} {E:aA->aw->Prop} {l:aX->Prop} {j:cr} {u:Env}
def DG{h}{y}{c}(r:cV W l X j u h)(a:iO j y=U (.cell c)):∃o,h.IsCell c o:=by
 have b:∀y,j.kindOf y=X.nm.lookup y:=λy=>az (pW y) r.names;cases MU a with
 |cell c k e=>exact oV (r.cel y<|rS (b y) <| k) λi o d g=>⟨o,rS (sm<|d.symm.trans e) <| g⟩
set_option tactic.hygienic true in
theorem JJ{α:Type}{ν:Env->α->au α}{AccR:α->aw->Prop}{e}{ε}{B}{tg:aj<|a7 × Y}{a a':α}{s s2 h}{D I}{F:aX->Prop}{GI:Y->Prop}
  {ζ:(aX->Prop)->(aX->Prop)->aj PV->aw->Prop} {Q} {t} {ι} {γ} {δ} {R:Result->aw->Prop}
  (Go:nH W N fa) (EO:kU W N.ea) (K:KS W N fa k n) (hA:Rm n A) (he:wJ e ε) (cp:Sy N f X B ε (.mk t ι γ::δ) tg)
  (st:St W s) (ha:Av l s) (er:cV W l X j u s.heap) (β:Nx W s s2) (DM:∀av',Kp W A av' I GI<|ζ av')
  (up:∀(av' ξ F:aX->Prop) (r) (s),ζ av' F r s->(∀a,ξ a->av' a\/s.heap.get? a=ag)->ζ ξ F r s)
  (iv:ζ l F Q s2) (hF:∀b,F b->s.heap.get? b=ag) (Γ:∀i,GI i->s.gens.size<=i) (n3:Nx W s2 h) (κ:s2.heap.get? D=ag) (π:h.heap.get? D≠ag) (Δ:∀o,h.heap.get? D=U o->∀v,o.data≠ .cell v)
  (Em:(D≠h.heap.objs.size)->(∀y c,iO ({sW B j h with scope:=nh B j}:cr) y=U (.cell c)->D≠c)-> OI W A (λb=>(l b\/b=D)\/GC B h b) (λb=>GC B h b\/b=D) (GC B h) (JM X B tg) {sW B j h with scope:=nh B j} s e (.ref D) ν AccR)
  (ac:AccR a {h with heap:=rX B h}) (ev:Cc k ν t γ δ (hide (gu<|.mk t ι γ::δ) u) Q a=U a')
  (fin:∀s',Nx W s s'->(∃m,s'.heap.Ns h.heap.objs.size m)->AccR a' s'->R (.ok .next) s'):
  kW (aQ W.prog W.w) A (.compStart e 0 (.ref I) (.ref D) {sW B j h with scope:=nh B j}) R {h with heap:=rX B h}:=by
 have n4:Nx W h {h with heap:=rX B h}:=(Nx.refl n3.st).keeps mW
 have σ:D<h.heap.objs.size:=by
  cases q:h.heap.get? D with
  |none=>exact bI q π
  |some o=>exact dY q
 have Φ:cV W (λb=>l b\/b=D) X j u h.heap:=((er.nx β st).avoid λb hb=>hb.elim .inl λq=> .inr<|q▸κ).nx n3 β.st;have Ψ:∀p∈tg,p.2∈gu (.mk t ι γ::δ):=λp hp=>by exact(vQ cp.tgs)▸hY hp
 have τ:=Rt (sl:=gu<|.mk t ι γ::δ) n3.st cp.sf Φ Ψ;have υ:∀b,GC B h b->h.heap.get? b=ag:=λb hb=>vm hb;have O:∀b,GC B h b->s2.heap.get? b=ag:=λb hb=>n3.new β.st<|υ b hb;have hN:∀b,GC B h b\/b=D->s.heap.get? b=ag:=λb hb=>β.new st<|hb.elim (O b) λq=>q▸κ;have φ:ζ (λb=>(l b\/b=D)\/GC B h b) F Q s2:=up _ _ _ _ _ iv λb hb=>hb.elim (λq=>q.elim .inl λz=> .inr<|z▸κ) λq=> .inr<|O b q;have μ:=DM λb=>(l b\/b=D)\/GC B h b;have ρ:=n3.trans n4;have χ:=μ.nx φ β.st ρ
 have Ω:Av (λb=>(l b\/b=D)\/GC B h b) {h with heap:=rX B h}:=λb hb=>by
  rcases hb with(hb|rfl)|hb
  ·exact(ha.nx (β.trans ρ) st) b hb
  ·cases q:h.heap.get? b with
   |none=>exact bI q π
   |some o=>refine rP (mW b o q) ?_;nofun
  ·exact J1 hb
 have M:∀b,F b->s2.heap.get? b≠ag:=λb hb=>μ.there φ hb
 have dis:∀b,(l b\/b=D)\/GC B h b->¬F b:=λb hb hf=>by
  rcases hb with(hb|rfl)|hb
  ·exact ha b hb<|hF b hf
  ·exact M _ hf κ
  ·exact M b hf<|O b hb
 have hC:∀y c,iO ({sW B j h with scope:=nh B j}:cr) y=U (.cell c)->D≠c:=λy c hl z=>by
  subst z;refine oV (DG τ hl) λo o' e1 d1=> ?_;cases q:h.heap.get? D with
  |none=>exact π q
  |some o2=>rw[mW D o2 q]at e1;cases e1;exact Δ _ q _ d1
 have Em':=Em (c6 σ) hC
 have hd:Hd ({sW B j h with scope:=nh B j}:cr) F:=⟨λq=>M _ q<|O _<|.inl J,λy c ψ _ q=>(ve cp.sf (λx m=>er.cel x<|cp.sf.fr _ m J) ψ).elim (λm=>M _ q<|O _<|.inr ⟨y,m⟩) λm=>m.2<|hF _ q⟩
 induction ε using aE with
 |nil=>exact nd cp.tgs
 |cons g cs=>
  obtain⟨ct,it,ω,ia⟩:=g;have hr:=cp.rest;have hr:=n2 (show(isSync ia&&(all2 (gW N f<|JM X B tg) ω γ&&ua N (JM X B tg) (gW N f<|JM X B tg) af cs δ))=ah from hr);obtain rfl:=oM hr.1
  have L:=DE (α:=α) (f2:=f) (wr:=tg.map (·.1)) (R:=R) Go EO K hA he Em' st cp.own (λb hb=> .inl hb) (λb hb=>hb.elim .inr λz=> .inl<|.inr z) hN (d:=0) J (n2 hr.2).1 (n2 hr.2).2 (UQ cp.tgs cp.ok) (vQ cp.tgs▸cp.ndb) Q1 μ Γ χ hF dis hd (β.trans ρ) Ω τ ac ev λs' nx er' ac'=>fin s' nx er'.ns ac'
  exact yo he J L<|μ.self χ L
end
def D2{e:Type}{c:Env->e->au e}{d}{g}{a i:e}(h:eG k c (.mk t d f::g) env a=U i):∃b,mU k env d=U b/\Cc k c t f g env b a=U i:=by exact gO h λa j l=>⟨a,j,l⟩
def wg{M}{d}{gs}{O}{ε α}{tg:aj<|a7 × Y}{c}{rs}{s}{β:au<|aA->r_ sY}{Q:aA->aw->Prop}{dp}(ζ:dp=ah->xu N 8 c=ah)
  (Go:nH W N fa) (EO:kU W N.ea) (K:KS W N fa k n) (hA:Rm n A) (cp:Sy N f X O d gs tg) (hc:gW N f (JM X O tg) M c=ah) (st:St W s) (ha:Av av s) (er:cV W av X r env s.heap)
  (ev:eG k (fK k c) gs (hide (gu gs) env) []=U rs)
  (fin:∀D C L,Nx W s L->s.heap.get? D=ag->s.heap.get? C=ag->D≠C->(∃m,L.heap.Ns C m)->(∃av',(∀b,av b->av' b)/\av' C/\SD W av' dp s.heap D rs L)->compPost (aQ W.prog W.w) A E β Q (.ref D) C (.ok .next) L):
  aL (aQ W.prog W.w) A (comprehension (.ListComp M d O ε) O r α (newList []) af (firstIter d r) β) Q E s:=by
 have y:=cp.head;induction gs using aE with
 |nil=>induction d using aE with|nil=>exact ff y|cons _ _=>exact ff y
 |cons G π=>
  obtain⟨t,η,ρ⟩:=G;induction d using aE with
  |nil=>exact ff y
  |cons g cs=>
   obtain⟨ct,it,ν,ia⟩:=g;replace y:D' N X (gW N f X) it η=ah:=y;refine cm (D2 ev) λitems e1 e2=> ?_;have B:=zb λp hp h=>(er.cel p.1<|cp.sf.fr p hp h).imp λc q=>q.elim λ_ z=>z.1;refine wpAny_comprehension_free (gs:=cs) J (λx=>qB<|t_ y) B cp.sf.kind cp.sf.loc ?_;refine vV Go EO K hA y st ha (ya er λi v h=>(uZ _ _ _ _ h).1) e1 λv s1 ι sp=> ?_;refine sp _ _ λI l F GI σ κ DM up iv hF hG=> ?_;have n2:=ι.trans κ;refine wpAny_newList (items:=[]) ?_<|dcd J;have n3:Nx W l {l with heap:=l.heap.push {cls:= .type "list",data:= .seq ([]:aj aA).toArray}}:=(Nx.refl n2.st).push _;refine zZ ?_;have j:(l.heap.push {cls:= .type "list",data:= .seq ([]:aj aA).toArray}).get? l.heap.objs.size=U _:=bQ _ J;refine JJ (AccR:=SD W (λb=>(av b\/b=l.heap.objs.size)\/GC O {l with heap:=l.heap.push {cls:= .type "list",data:= .seq ([]:aj aA).toArray}} b) dp s.heap l.heap.objs.size) (a:=[]) (a':=rs) Go EO K hA ⟨_,_,_,J⟩ cp st ha er n2 (λav'=>DM A hA.handled J J av') up iv hF hG n3 (eL _) (by refine rP j ?_;nofun) (λo e v=>by rw[j]at e;obtain rfl:=sm e;nofun) (λh1 h2=> ?_) ?_ e2 λL nx μ ac=> ?_
   ·refine Rv ζ K hA st hc J (λb H=> .inr H) (.inl<|.inr J) (λq=> ?_) (λb H=> ?_) h1 h2
    ·have:=vm q;rw[j]at this;exact dn this
    ·rcases H with H|rfl
     ·exact n2.new st<|n3.new n2.st<|vm H
     ·exact n2.new st<|eL _
   ·exact⟨[],⟨0,mW _ _ j⟩,.nil,λ_ i x b e=>nd e⟩
   ·refine fin _ _ L nx (n2.new st<|eL _) (n2.new st<|n3.new n2.st<|eL _) ?_ μ ⟨_,λb H=> .inl<|.inl H,.inr<|.inl J,ac⟩;exact c6<|dY j
def Ey{D C}{j}{s d}{f}{m:a7->au aA}(st:St W s)(n:Av k s)(r:Nx W s d)(t:s.heap.get? D=ag)(u:s.heap.get? C=ag)(g:D≠C)(h:d.heap.Ns C m)
  {v} (w:∀b,k b->av' b) (x:av' C) (y:SD W av' v M D j d) (i:gk C d.heap f):
  Nx W s {d with heap:=f}/\bf W k f (.lst j) (.ref D):=by
 refine pM (y) λA c B _=> ?_;refine dQ (c) λE H=> ?_;constructor
 ·refine r.upd (λb o a e=>i.extBut b o a e) (λb a=>a▸u) (λb o a e=> .inr λvs z=> ?_) st;subst a;refine CY (h) λO Q ep I L _=> ?_;rw[I]at e;obtain rfl:=sm e;rw[L]at z;cases z
 ·skip;refine⟨D,A,J,λq=>n D q t,⟨E,i.extBut _ _ g H⟩,?_⟩;exact ba.weak w<|ba.change (λb o a e=>i.extBut b o a e) (λb o a e=> .inl<|rP a <| x) B
def Wi{s}{e}{c}{g}{r}{Q:aA->aw->Prop}(H:nH W N fa)(I:kU W N.ea)(K:KS W N fa k n)(L:Rm n A)(i:gW N (f+1) X e (.vz c g)=ah)(st:St W s)(t:Av u s)(M:cV W u X b env s.heap)
  (O:((eG k (fK k c) g (hide (gu g) env) []).bind λvs=>U<|.lst vs)=U r)
  (h:∀j d,Nx W s d->bf W u d.heap r j->i5 s j->Q j d):aL (aQ W.prog W.w) A (eval e b) Q E s:=by
 refine oH (vA i) λα v sc β i=> ?_;refine cm (qJ i) λtg x hb=> ?_;obtain⟨rs,e1,e2⟩:=ef O;obtain rfl:=sm e2;refine rP (eval_ListComp ..) ?_;refine rP (x.B6 ..) ?_;refine wg (λz=>ff z) H I K L x hb st t M e1 λD C d nx y hC l o q=> ?_;refine dQ (o) λm B=> ?_;refine pM (q) λav' q1 q2 q3=> ?_;refine⟨m,B,λh' hs=> ?_⟩;refine jG (Ey st t nx y hC l B q1 q2 q3 hs) λn1 v1=> ?_;exact h _ _ n1 v1 λa e=>by cases e;exact y
structure zA(W:Wd)(N:Nm)(fa:Y->aX):Prop where
 bgen:∀{k:Kn} {n f:Y} {X:Cx} {A:cZ} {s:aw} {av:aX->Prop} {menv:cr} {env:Env} {e:Expr} {src:Src} {r:PV} {Q:aA->aw->Prop} {E:aA->aw->Prop},KS W N fa k n->Rm n A->gW N (f+1) X e (.bgen src)=ah->St W s->Av av s-> cV W av X menv env s.heap->wA k env (.bgen src)=U r->(∀v' s',Nx W s s'->bf W av s'.heap r v'->i5 s v'->Q v' s')->aL (aQ W.prog W.w) A (eval e menv) Q E s
def H1(O:nH W N fa)(EO:kU W N.ea)(M:vn W)(OO:zA W N fa)(K:KS W N fa k n)(B:Rm n A)(x:gW N f X e c=ah)(st:St W s)(D:Av av s) (z:cV W av X L env s.heap) (y:wA k env c=U r) (h:∀v' d,Nx W s d->bf W av d.heap r v'->(∀m,xu N m c=ah->i5 s v')->Q v' d):aL (aQ W.prog W.w) A (eval e L) Q E s:=by
 have I:∀{c} {v},(∀m,xu N m c=af)->∀m,xu N m c=ah->i5 s v:=λh m h2=>by rw[h m]at h2;exact ff h2
 induction f using cg with
 |zero=>exact ff x
 |succ f=>
  induction c using C.casesOn with
  |var i=>exact V_ x st z y λv d q u=>h v d q u (I λm=>by induction m using cg<;>rfl)
  |lit v=>obtain rfl:=sm y;exact Wh x st λv d q u=>h v d q u (I λm=>by induction m using cg<;>rfl)
  |TH v=>obtain rfl:=sm y;exact Wl O x st z λv d q u=>h v d q u (I λm=>by induction m using cg<;>rfl)
  |bin op a b=>exact Wp K B x st D z y λv d q u H=>h v d q u λ_ _=>H
  |un op a=>exact ZJ K B x st D z y λv d q u=>h v d q u (I λm=>by induction m using cg<;>rfl)
  |O9 op cs=>exact Wn K B x st D z y λv d q u=>h v d q u (I λm=>by induction m using cg<;>rfl)
  |cmp l α rs=>exact Wm K B x st D z y λv d q u=>h v d q u (I λm=>by induction m using cg<;>rfl)
  |ite t a b=>exact Wj K B x st D z y h
  |lst es=>exact Wf K B x st D z y λv d q u H=>h v d q u λ_ _=>H
  |tup es=>exact V' K B x st D z y λv d q u=>h v d q u (I λm=>by induction m using cg<;>rfl)
  |call g as=>exact Rl O K B x st D z y λv d q u H=>h v d q u λm hm=>H (by induction m using cg with|zero=>exact ff hm|succ m=>exact hm)
  |blt b as=>exact Wo O K B x st D z y λv d q u H=>h v d q u λ_ _=>H
  |bgen β=>exact OO.bgen K B x st D z y λv d q u H=>h v d q u λ_ _=>H
  |FF m o as=>exact We M K B x st D z y λv d q u=>h v d q u (I λm=>by induction m using cg<;>rfl)
  |sub o i=>exact Wa K B x st D z y λv d q u=>h v d q u (I λm=>by induction m using cg<;>rfl)
  |xP o lo hi=>exact Wc K B x st D z y λv d q u H=>h v d q u λ_ _=>H
  |vz v gs=>exact Wi O EO K B x st D z y λv d q u H=>h v d q u λ_ _=>H
  |dist i j neg=>exact Rk x st z y λv d q u=>h v d q u (I λm=>by induction m using cg<;>rfl)
  |rdot o=>exact Rj M K B x st D z y λv d q u=>h v d q u<|I λm=>by induction m using cg<;>rfl
noncomputable def AU(e:Expr):aB:= !(aF e.ctorIdx 0)&&(!(aF e.ctorIdx 5)&&(!(aF e.ctorIdx 15)&& !(sv af e λo _=>decide (o= .Not))))
def isTrue_plain(h:AU e=ah):isTrue e a w=(do let v<-w;Ar e.pos;OR [v] (truthy v)):=by
 induction e using Expr.casesOn with
 |UnaryOp b x p=>induction b using UnaryOp.casesOn<;>first|rfl|exact ff h
 |BoolOp=>exact ff h
 |IfExp=>exact ff h
 |Compare=>exact ff h
 |_=>rfl
noncomputable def Yd(c:C):aB:=match c with
 | .un o _=> !(decide (o= .Not))
 |c=> !(aF c.ix 5)&&(!(aF c.ix 6)&&(!(aF c.ix 7)&& !(aF c.ix 17)))
def RQ(b:ckC N f r X e c=ah)(d:Yd c=ah):AU e=ah:=by
 induction c using C.casesOn with
 |var=>exact jc b λ_ _ _=>rfl
 |lit=>exact rK b λ_ _ _ _=>rfl
 |TH=>exact jc b λ_ _ _=>rfl
 |bin=>exact pR b λ_ _ _ _ _=>rfl
 |un o a=>refine tY b λg _ _ h=> ?_;obtain rfl:=aq (n2 h).1;exact d
 |O9=>exact ff d
 |cmp=>exact ff d
 |ite=>exact ff d
 |lst=>exact Hr b λ_ _ _=>rfl
 |tup=>exact pQ b λ_ _ _ _=>rfl
 |call=>exact tz b λ_ _ _ _ _=>rfl
 |blt=>exact tz b λ_ _ _ _ _=>rfl
 |bgen=>exact tz b λ_ _ _ _ _=>rfl
 |FF=>exact yG b λ_ _ _ _ _ _=>rfl
 |sub=>exact jb b λ_ _ _ _=>rfl
 |xP=>exact jb b λ_ _ _ _=>rfl
 |vz=>exact oH b λ_ _ _ _ _=>rfl
 |dist=>exact ff d
 |rdot=>exact pR b λ_ _ _ _ _=>rfl
def PB(g:cV W v X a env s.heap)(j:fz x=ah)(k:fz y=ah)(t:XO a x y s.heap) (l:(e= .Is/\b=af)\/(e= .IsNot/\b=ah)) (h:Q b s):aL (aQ W.prog W.w) A (isTrue (.Compare (.Name x m) [e] [.Name y n] f) a<|eval (.Compare (.Name x m) [e] [.Name y n] f) a) Q E s:=
 t.casesOn λo q r u i c d=>by
 refine Pa (fP g.kind j o r<|fP g.kind k q u ?_) J
 refine dQ (c) λz c=> ?_
 refine dQ (d) λB d=> ?_
 rcases l with⟨rfl,rfl⟩|⟨rfl,rfl⟩
 ·exact Xd i c d (by show cK "list"≠cK "tuple";decide)<|gI h
 ·exact Pb i c d (by show cK "list"≠cK "tuple";decide)<|gI h
def PE(Go:nH W N fa)(EO:kU W N.ea)(M:vn W)(OO:zA W N fa)(K:KS W N fa k n)(hA:Rm n A)(d:gW N f X e c=ah)(st:St W s)(ha:Av av s) (I:cV W av X D env s.heap) (H:wA k env c=U r) (et:truth r=U b) (h:∀s',Nx W s s'->Q b s'):aL (aQ W.prog W.w) A (isTrue e D<|eval e D) Q E s:=by
 induction f using cg with
 |zero=>exact ff d
 |succ f=>
  have m:Yd c=ah->aL (aQ W.prog W.w) A (isTrue e D<|eval e D) Q E s:=λhv=>zC (H1 Go EO M OO K hA d st ha I H λv s' g rv _=>yF g.st et rv λs2 B=>h _<|g.trans B)<|isTrue_plain<|RQ (vA d) hv
  induction c using C.casesOn with
  |un o a=>
   by_cases q:o= .Not
   ·subst q;clear m;refine tY (vA d) λo' x p d=>gO H λy L O=>gO O λb1 e3 e4=> ?_;obtain rfl:=aq (n2 d).1;obtain rfl:=sm e4;obtain rfl:=sm et;exact wpAny_isTrue_Not<|K.tr (n2 d).2 hA st ha I L e3 h
   ·exact m (by show(!(decide (o= .Not)))=ah;exact rP (bz q ..) J)
  |O9 op cs=>clear m;refine AY (vA d) λo xs p d=> ?_;obtain rfl:=aq (n2 d).1;exact wpAny_isTrue_BoolOp<|JX K hA (n2 d).2 st ha I H et h
  |ite t a b=>
   clear m;refine yH (vA d) λx y z p d=>gO H λv L H=>gO H λb1 O e3=> ?_;refine rP (arm_isTrue_IfExp ..) ?_;refine al<|K.tr (n2 d).1 hA st ha I L O λs1 g=> ?_;induction b1 using dC
   ·exact K.tr (n2 (n2 d).2).2 hA g.st (ha.nx g st) (I.nx g st) e3 et λs2 B=>h _<|g.trans B
   ·exact K.tr (n2 (n2 d).2).1 hA g.st (ha.nx g st) (I.nx g st) e3 et λs2 B=>h _<|g.trans B
  |cmp l γ rs=>clear m;refine qw (vA d) λx os ys p d=>gO H λv L H=>gO H λb1 O e3=> ?_;obtain rfl:=aq (n2 d).1;have h2:=n2 (n2 d).2;have h3:=n2 h2.2;have h4:=n2 h3.2;obtain rfl:=sm e3;obtain rfl:=sm et;exact rP (arm_isTrue_Compare ..) <| rP (qG ..) <| rP (yT h3.1 (aJ h4.1) ..) <| al (K.ex h2.1 hA st ha I L λv s1 g rv _=>C5 K hA (aJ h4.1) (aD h4.2) h3.1 g.st (ha.nx g st) (I.nx g st) O rv λs2 B=>h _<|g.trans B)
  |dist i j neg=>clear m;refine qw (vA d) λa os bs p d=>jc d λx px d=>rL d λop d=>rL d λw d=>jc d λy py d=> ?_;refine gO H λu L H=>gO H λv O H=>gO L λa L α=>gO O λb O β=> ?_;have h2:=n2 (n2 d).2;have h3:=n2 (n2 h2.2).2;have h4:=n2 (n2 h3.2).2;obtain rfl:=sm H;obtain rfl:=sm et;exact PB I (n2 h2.2).1 (n2 (n2 h2.2).2).1 (I.uqs _ _ _ _ _ _ (ib (n2 d).1) (ib h2.1) (u4 (n2 h3.2).1) (u4 h4.1) (λq=>tf (by have:=n0 (n2 h4.2).1;rw[q,kw]at this;exact this)) (L.trans<|az U α)<|O.trans<|az U β) (HH (n2 h4.2).2)<|h _<|.refl st
  |_=>exact m J
def RH{Q:aw->Prop}{u:aA->r_ sY}(Go:nH W N fa)(EO:kU W N.ea)(K:KS W N fa k n)(hA:Rm n A)(o:gW N f X e c=ah)(t:Ib c=ah)(st:St W s)(L:Av M s)(er:cV W M X d env s.heap)
  (ev:wA k env c=U r)
  (h:∀D C g,Nx W s g->s.heap.get? D=ag->s.heap.get? C=ag->D≠C->(∃m,g.heap.Ns C m)->bf W (λb=>M b\/b=C) g.heap r (.ref D)-> aL (aQ W.prog W.w) A (u<|.ref D) (λ_ i=>∃m,i.heap.Ns C m/\∀O,gk C i.heap O->Q {i with heap:=O}) E g):
  aL (aQ W.prog W.w) A (evalThenUse e d u) (λ_ g=>Q g) E s:=by
 induction f using cg with
 |zero=>exact ff o
 |succ f=>
  induction c using C.casesOn with
  |vz c gs=>refine oH (vA o) λv a sc j o=>cm (qJ o) λtg cp y=>gO ev λrs e1 e2=> ?_;obtain rfl:=sm e2;show aL _ A (do let _<-comprehension (.ListComp v a sc j) sc d (firstIterPos a j) (newList []) (firstAsync a) (firstIter a d) (U u)) _ E s;refine rP cp.B6 ?_;refine al<|iC (wg (λz=>ff z) Go EO K hA cp y st L er e1 λD C g nx hD hC l B H=>pM H λav' q1 q2 I=>pM I λys I q4 _=> ?_) (λ_ g q=>aM q) λ_ _ x=>x;exact h D C g nx hD hC l B<|vL (λq=>q.elim (λz=>L D z hD) λz=>l z) I (q4.weak λb y=>y.elim (q1 b) λz=>rP z <| q2)
  |_=>exact ff t
structure Fam(W:Wd)(A:cZ)(I:aX)(GI:Y->Prop)(inv:(aX->Prop)->(aX->Prop)->aj PV->aw->Prop):Prop where
 it:∀av,Kp W A av I GI<|inv av
 up:∀(av' av'' F:aX->Prop) (r:aj PV) (s:aw),inv av' F r s->(∀a,av'' a->av' a\/s.heap.get? a=ag)->inv av'' F r s
structure l_(W:Wd)(A:cZ)(av av':aX->Prop)(s s':aw):Prop where
 itr:∀{I GI inv F r},Fam W A I GI inv->inv av F r s->(∀b,av b->¬F b)->inv av' F r s'/\∀b,av' b->¬F b
 lv:∀b,s.heap.get? b≠ag->s'.heap.get? b≠ag
section
variable {s g:aw}
def l_.refl:l_ W A a a s s:=⟨λ_ h d=>⟨h,d⟩,λ_ h=>h⟩
def l_.trans(a:l_ W A i av' s j)(b:l_ W A av' e j g):l_ W A i e s g:=⟨λf h d=>let⟨k,l⟩:=a.itr f h d;b.itr f k l,λc h=>b.lv c<|a.lv c h⟩
def l_.nC(st:St W s)(x:Nx W s c):l_ W A a a s c:=⟨λf h d=>⟨(f.it a).nx h st x,d⟩,λb h q=>h<|x.new st q⟩
def l_.w5{G:aX->Prop}(c:Cu a G s i)(j:∀b,G b->s.heap.get? b≠ag->i.heap.get? b≠ag):l_ W A a a s i:=⟨λf h d=>⟨(f.it a).chg h c λb k=>d b<|c.hold b k,d⟩,λb h=>by
 by_cases q:G b
 ·exact j b q h
 ·cases e:s.heap.get? b with
  |none=>exact bI e h
  |some o=>refine rP (c.keep b o q e) ?_;nofun⟩
def l_.chg{G:aX->Prop}(m:l_ W A j av' s a)(c:Cu av' G a g)(k:∀b,G b->s.heap.get? b=ag):l_ W A j av' s g:=⟨λf h d=>by refine jG (m.itr f h d) λl i=> ?_;exact⟨(f.it av').chg l c λb n=>i b<|c.hold b n,i⟩,λb h=>by
 cases e:a.heap.get? b with
 |none=>exact bI e<|m.lv b h
 |some o=>refine rP (c.keep b o (λq=>h<|k b q) e) ?_;nofun⟩
def l_.Vu(k:∀b,av' b->a b\/s.heap.get? b=ag):l_ W A a av' s s:=⟨λf h d=>⟨f.up _ _ _ _ _ h k,λb e c=>(k b e).elim (λq=>d b q c) λq=>(f.it a).there h c q⟩,λ_ h=>h⟩
def l_.Y5(m:Mv W a V s₀ s.gens.size s c)(e:∀b,V b->a b):l_ W A a a s c:=⟨λf h d=>⟨m.itr (f.it a) h (λb j=>d b<|e b j) λi k=>(f.it a).gi h k,d⟩,m.lv⟩
def l_.step(m:l_ W A a av' s c)(x:Step F l c g)(k:∀b,F b->s.heap.get? b=ag)(n:∀b o,F b->c.heap.get? b=U o->xg o.cls)(r:∀i,l i->s.gens.size<=i):l_ W A a av' s g:=
 ⟨λf h d=>by refine jG (m.itr f h d) λt u=> ?_;exact⟨(f.it av').step t x (λb v j=>(f.it a).there h j<|k b v) n λi w HM=>by have:=r i w;have:=(f.it a).gi h HM;exact cQ 1183760 (by assumption) this,u⟩,λb h=>by
 cases e:c.heap.get? b with
 |none=>exact bI e<|m.lv b h
 |some o=>refine rP (x.keep b o (λq=>h<|k b q) e) ?_;nofun⟩
end
structure Fx where
 X:Cx
 ow:aj Y
 tw:aj Y
 fr:aB
noncomputable abbrev Fx.wr(F:Fx):aj a7:=F.X.Γ.map (·.1)
structure lG(F:Fx):Prop where
 inj:∀x y i,F.X.Γ.lookup x=U i->F.X.Γ.lookup y=U i->x=y
 qo:F.X.uq=[]\/F.ow=[]
structure Bs where
 s₀:aw
 bv:aX->Prop
 V:aX->Prop
 menv:cr
structure kF(W:Wd)(F:Fx)(B:Bs):Prop where
 st:St W B.s₀
 vN:∀b,B.V b->B.s₀.heap.get? b=ag
 bN:∀b,B.bv b->B.s₀.heap.get? b≠ag
 wo:Own B.V F.wr B.menv
noncomputable def TJ(a:Y->aj aX)(i:Y):PV:= .pat<|(a i).headD 0+10
noncomputable def t7(ow:aj Y)(a:Y->aj aX)(env:Env):Env:=env.mapIdx λi o=>if cY ow i=ah then o.map (λ_=>TJ a i)else o
def fF(F:Fx)(B:Bs)(env:Env)(a:Y->aj aX)(b:aX):Prop:=B.bv b\/B.V b\/∃i,cY F.ow i=ah/\(∃v,env[i]? =U (U v))/\b∈a i
inductive zz(W:Wd)(av:aX->Prop)(h:fX):PV->aX->Prop
 |lst {xs:aj PV} {a:aX} (ys:aj aA) (hl:h.PlainList a ys.toArray) (r:ba W av h xs ys):zz W av h (.lst xs) a
inductive J0(W:Wd)(av:aX->Prop)(h:fX):PV->aj aX->Prop
 |mk {xs:aj<|aj PV} {a:aX} (bs:aj aX) (hl:h.PlainList a (bs.map ek).toArray) (nd:(a::bs).Nodup) (len:bs.length=xs.length) (r:∀(i:Y) (b:aX) (x:aj PV),bs[i]? =U b->xs[i]? =U x->∃ys:aj aA,h.PlainList b ys.toArray/\ba W av h x ys):J0 W av h (.lst<|xs.map PV.lst)<|a::bs
inductive fU(W:Wd)(av:aX->Prop)(h:fX):aB->PV->aj aX->Prop
 |one {v:PV} {a:aX} (o:zz W av h v a):fU W av h af v [a]
 |two {v:PV} {l:aj aX} (o:J0 W av h v l):fU W av h ah v l
structure FR(W:Wd)(F:Fx)(B:Bs)(env:Env)(od:Y->aj aX)(s:aw):Prop where
 n:Nx W B.s₀ s
 av:Av (fF F B env od) s
 own:∀i,cY F.ow i=ah->∀v,env[i]? =U (U v)->fU W (fF F B env od) s.heap (cY F.tw i) v (od i)/\∃x,F.X.Γ.lookup x=U i
 ownN:∀i,cY F.ow i=ah->∀v,env[i]? =U (U v)->∀b∈od i,B.s₀.heap.get? b=ag/\¬B.V b
 dst:∀i j,cY F.ow i=ah->cY F.ow j=ah->i≠j->∀u v,env[i]? =U (U u)->env[j]? =U (U v)->∀b∈od i,b∉od j
 er:cV W (fF F B env od) F.X B.menv (t7 F.ow od env) s.heap
section
variable {W:Wd} {F:Fx} {A:cZ} {s D E:aw} {w:aX->Prop} {f:Env} {t:Y->aj aX} {h:fX}
def yS:cY l i=ah<->i∈l:=by
 constructor
 ·intro h;refine cm (q9.mp h) λj a e=> ?_;exact rP (aJ e) a
 ·intro h;exact q9.mpr ⟨i,h,kw i⟩
def lr(i:Y):(t7 ow t f)[i]? =(f[i]?).map λo=>if cY ow i=ah then o.map (λ_=>TJ t i)else o:=by unfold t7;exact rP List.getElem?_mapIdx J
def xZ(a:cY ow i=ah)(h:f[i]? =U (U v)):(t7 ow t f)[i]? =U (U<|TJ t i):=by exact rP (lr ..) <| rP (h ..) <| rP (OZ ..) <| rP (bM a ..) J
def u5(a:cY ow i=af):(t7 ow t f)[i]? =f[i]? :=by exact rP (lr ..) <| rP (a ..) Option.map_id'
def HU(h:(t7 ow t f)[i]? =U (U g)):∃v,f[i]? =U (U v)/\((cY ow i=ah/\g=TJ t i)\/(cY ow i=af/\g=v)):=by
 cases a:cY ow i with
 |false=>exact⟨g,(u5 a).symm.trans h,.inr ⟨J,J⟩⟩
 |true=>
  rw[lr,a]at h;refine cm (eJ.mp h) λo e h=> ?_;induction o using bX with
  |none=>exact nd h
  |some v=>exact⟨v,e,.inl ⟨J,(sm h).symm⟩⟩
def Ni(i:Y)(v:PV)(h:(hide ow f)[i]? =U (U v)):(t7 ow t f)[i]? =U (U v):=by have a:=uZ _ _ _ _ h;exact(u5 (by cases q:cY ow i with|false=>rfl|true=>exact bI (yS.mp q) a.2)).trans a.1
def zz.keep(c:∀vs,h.PlainList a vs->b.PlainList a vs)(d:∀p v,ba W w h p v->ba W av' b p v)(r:zz W w h v a):zz W av' b v a:=by
 cases r with
 |lst e g r=>exact .lst e (c _ g)<|d _ _ r
def fU.to{two:aB}{v:PV}{l:aj aX}(c:∀a∈l,∀vs,h.PlainList a vs->d.PlainList a vs)(e:∀p v,ba W w h p v->ba W av' d p v)(r:fU W w h two v l):fU W av' d two v l:=by
 cases r with
 |one o=>exact .one<|o.keep (c _<|.head _) e
 |two o=>
  cases o with
  |mk j k nd len r=>exact .two<|.mk j (c _ (.head _) _ k) nd len λi b x g m=>cm (r i b x g m) λn q u=>⟨n,c b (.tail _<|cP g) _ q,e _ _ u⟩
def fU.nx(x:Nx W s D)(y:St W s){two:aB}{v:PV}{l:aj aX}(r:fU W w s.heap two v l):fU W w D.heap two v l:=r.to (λ_ _ _=>fV x y) λ_ _=>ba.nx x y
def fU.avoid(k:∀a,av' a->w a\/h.get? a=ag){two:aB}{v:PV}{l:aj aX}(r:fU W w h two v l):fU W av' h two v l:=r.to (λ_ _ _=>id) λ_ _=>ba.avoid k
def fU.keep{G:aX->Prop}(d:∀b vs,¬G b->h.PlainList b vs->c.PlainList b vs)(i:∀p v,ba W w h p v->ba W av' c p v) {two:aB} {v:PV} {l:aj aX} (g:∀b∈l,¬G b) (r:fU W w h two v l):fU W av' c two v l:=r.to (λa e _=>d a _<|g a e) i
def fU.mv(m:Mv W w V s₀ g s D){two:aB}{v:PV}{l:aj aX}(a:∀b∈l,¬V b)(r:fU W w s.heap two v l):fU W w D.heap two v l:=r.keep (λb vs d i=>i.imp λc e=>m.keep _ _ d e nofun (by show cK "list"≠cK "frame";decide)) (λp v h=>m.Yb h) a
def Jn(g:∀b,av' b->w b):∀{d:aj<|aj PV} {j:aj aX},j.length=d.length->(∀b∈j,¬av' b)->(∀(i:Y) (b:aX) (x:aj PV),j[i]? =U b->d[i]? =U x->∃k:aj aA,h.PlainList b k.toArray/\ba W w h x k)->ba W av' h (d.map PV.lst) (j.map ek):=by
 intro d;induction d with
 |nil=>
  intro a;cases a with
  |nil=>intro _ _ _;exact .nil
  |cons _ _=>intro e _ _;exact nomatch e
 |cons x d l=>
  intro a;cases a with
  |nil=>intro e _ _;exact nomatch e
  |cons b j=>intro e n r;exact cm (r 0 b x J J) λk m o=> .cons (vL (n b<|.head _) m<|o.weak g)<|l (fO e) (λc q=>n c<|.tail _ q) λi b x u v=>r (i+1) b x u v
def fU.free(g:∀b,av' b->w b){two:aB}{v:PV}{l:aj aX}(a:∀b∈l,¬av' b)(r:fU W w h two v l):bf W av' h v<|.ref<|l.headD 0:=by
 cases r with
 |one o=>
  cases o with
  |lst e c r=>exact vL (a _<|.head _) c<|r.weak g
 |two o=>
  cases o with
  |mk i c nd len r=>exact vL (a _<|.head _) c<|Jn g len (λb d=>a b<|.tail _ d) r
def fU.Qp{two:aB}{v:PV}{l:aj aX}(r:fU W w h two v l)(b:two=af):∃a,l=[a]/\zz W w h v a:=by
 cases r with
 |one o=>exact⟨_,J,o⟩
 |two o=>exact tf b
def FR.nx(r:FR W F B f t s)(x:Nx W s D):FR W F B f t D:=⟨r.n.trans x,r.av.nx x r.n.st,λi c v d=>let⟨a,b⟩:=r.own i c v d;⟨a.nx x r.n.st,b⟩,r.ownN,r.dst,r.er.nx x r.n.st⟩
def FR.DT(r:FR W F B f t s):cV W (fF F B f t) F.X B.menv (hide F.ow f) s.heap:=ya r.er λi v h=>Ni i v h
def FR.full(H:lG F)(I:kF W F B)(r:FR W F B f t s):cV W B.bv F.X B.menv f s.heap:=by
 have e:=r.er;refine⟨e.kind,e.glob,e.blt,e.names,e.ns,e.cel,e.inj,λx i v z l=> ?_,λx y i j u v a b c d q L M=> ?_⟩
 ·cases m:cY F.ow i with
  |true=>exact jj (e.slot x i _ z<|xZ m l) λg k a b c=>have O:=(r.own i m v l).1.free (λb n=> .inl n) λb n q=>I.bN b q (r.ownN i m v l b n).1;⟨g,k,a,b,rP ((show k= .ref ((t i).headD 0)from(show k= .ref (W.pa _)from c).trans<|az ek<|W.paP _)) <| O⟩
  |false=>exact jj (e.slot x i v z<|(u5 m).trans l) λg k a b c=>⟨g,k,a,b,c.weak λ_ q=> .inl q⟩
 ·rcases H.qo with o|o
  ·exact bI (rS o <| c) a0
  ·have gn:∀i,(t7 F.ow t f)[i]? =f[i]? :=λi=>u5<|rP o J;exact e.uqs x y i j u v a b c d q ((gn i).trans L)<|(gn j).trans M
def FR.Am(r:FR W F B f t s):Av B.bv s:=λb a=>r.av b<|.inl a
noncomputable abbrev Bs.z(B:Bs)(a:aX->Prop):Bs:=⟨B.s₀,λb=>B.bv b\/a b,B.V,B.menv⟩
def zp(c:fF F B f t b):fF F (B.z a) f t b:=c.elim (λq=> .inl<|.inl q) .inr
def FR.drop(r:FR W F (B.z c) f t s):FR W F B f t s/\l_ W A (fF F (B.z c) f t) (fF F B f t) s s:=by refine⟨⟨r.n,λb d=>r.av b<|zp d,λi e v g=>let⟨a,b⟩:=r.own i e v g;⟨a.avoid λb d=> .inl<|zp d,b⟩,r.ownN,r.dst,r.er.avoid λb d=> .inl<|zp d⟩,.Vu λb d=> .inl<|zp d⟩
def FR.assign(r:FR W F B f t s)(up:∀b,fF F (B.z a) c d b->fF F B f t b\/s.heap.get? b=ag)(y:Nx W s s1)(k:Mv W (fF F (B.z a) c d) B.V B.s₀ s1.gens.size s1 E)
  (H:Av (fF F (B.z a) c d) s1)
  (l:cV W (fF F (B.z a) c d) F.X B.menv (t7 F.ow d c) E.heap)
  (I:∀i,cY F.ow i=ah->∀v,c[i]? =U (U v)->fU W (fF F (B.z a) c d) s1.heap (cY F.tw i) v (d i)/\∃x,F.X.Γ.lookup x=U i)
  (e:∀i,cY F.ow i=ah->∀v,c[i]? =U (U v)->∀b∈d i,B.s₀.heap.get? b=ag/\¬B.V b)
  (g:∀i j,cY F.ow i=ah->cY F.ow j=ah->i≠j->∀u v,c[i]? =U (U u)->c[j]? =U (U v)->∀b∈d i,b∉d j):
  FR W F (B.z a) c d E/\l_ W A (fF F B f t) (fF F (B.z a) c d) s E:=by
 refine⟨⟨k.nx,k.Am H,λi o v q=> ?_,e,g,l⟩,?_⟩
 ·refine jG (I i o v q) λL M=> ?_;exact⟨L.mv k λb m=>(e i o v q b m).2,M⟩
 ·exact(l_.Vu up).trans<|(l_.nC r.n.st y).trans<|l_.Y5 k λb m=> .inr<|.inl m
end
section
variable {W:Wd} {F:Fx} {B:Bs} {h:fX}
def yZ(a:Bb v=ah)(r:bf W b h v u):bf W av' h v u:=by
 induction v using PV.casesOn<;>first
  |exact r
  |exact ff a
def wu{c}:∀{d},c.all Bb=ah->ba W g h c d->ba W av' h c d:=by
 induction c with
 |nil=>intro d _ r;exact r
 |cons x c f=>intro d e r;exact ba.D6 r λv vs a b=> .cons (yZ (n2 e).1 a)<|f (n2 e).2 b
def Hw(h:qC v=ah):Bb v=ah:=by induction v using PV.casesOn<;>first|rfl|exact ff h
def Du{a:aj PV}:a.all qC=ah->a.all Bb=ah:=by
 induction a with
 |nil=>intro _;exact J
 |cons _ _ b=>intro h;exact f6.mpr ⟨Hw (n2 h).1,b (n2 h).2⟩
def Mp(c:qC v=ah)(r:bf W d h v<|.ref a):iY:=by
 induction v using PV.casesOn with
 |none=>exact nomatch (show ek a= .none from r)
 |bool b=>exact nomatch (show ek a= .bool b from r)
 |int i=>refine dQ (r) λt r=> ?_;exact nomatch r
 |fw i=>refine dQ (r) λt r=> ?_;exact nomatch r
 |str i=>refine dQ (r) λt r=> ?_;exact nomatch r
 |sJ i=>refine cm (r) λt r _=> ?_;exact nomatch r
 |_=>exact ff c
def Jd{b}:∀{c},b.all qC=ah->ba W i h b c->∀a,ek a∉c:=by
 induction b with
 |nil=>intro c _ r a;exact ba.Vx r a0
 |cons x b f=>intro c d r a;exact ba.D6 r λv vs p q g=>(aR.mp g).elim (λe=>Mp (n2 d).1<|rP e <| p)<|f (n2 d).2 q a
def Jy{m}:∀{c},yY m c=ah->xu N m c=ah:=by
 induction m with
 |zero=>intro _ h;exact ff h
 |succ m d=>
  intro c h;induction c using C.casesOn with
  |ite _ a b=>exact f6.mpr ⟨d (n2 h).1,d (n2 h).2⟩
  |blt b _=>induction b using Kr.casesOn<;>first|rfl|exact ff h
  |lst=>rfl
  |vz=>rfl
  |xP=>rfl
  |bgen=>rfl
  |bin=>rfl
  |_=>exact ff h
def AS{vs b:aj aA}(c:h.PlainList a vs.toArray)(d:h.PlainList a b.toArray):vs=b:=by refine dQ (c) λi f=> ?_;refine dQ (d) λj g=> ?_;injection az Obj.data (sm<|f.symm.trans g)with e;exact az XE e
set_option tactic.hygienic true in
def FQ{vs:aj aA}(k:∀b,av' b->m b\/b=a)(n:h.PlainList a vs.toArray){c:aj PV}:∀{d:aj aA},(∀u∈d,u∈vs)-> (c.all λx=>qC x||match x with| .lst ys=>ys.all qC|_=>af)=ah->ba W m h c d->ba W av' h c d:=by
 induction c with
 |nil=>intro d _ _ r;exact r
 |cons x c o=>
  intro d e g r;revert e;refine ba.D6 r λv s p q e=> ?_;refine .cons ?_<|o (λu t=>e u<|.tail _ t) (n2 g).2 q;rcases bH.mp (n2 g).1 with f|f
  ·exact yZ (Hw f) p
  ·have i:=e v<|.head _;clear e g r q;induction x using PV.casesOn
   case lst ys=>
    revert i
    refine bf.Jh p λb w nb j l i=>vL (λq=>(k b q).elim nb λz=> ?_) j<|wu (Du f) l
    subst z
    exact Jd f l b<|rS (AS n j) <| i
   all_goals exact ff f
inductive aaj(W:Wd)(av av':aX->Prop)(h:fX)(v:PV):aA->Prop
 |mk (a:aX) (na:¬av a) (th:h.get? a≠ag) (o:fU W av' h af v [a]):aaj W av av' h v<|.ref a
def L8{u:aA}(r:bf W d h v u)(f:Ft v=ah)(k:∀b,av' b->d b\/u= .ref b):aaj W d av' h v u:=by
 revert k;induction v using PV.casesOn with
 |lst n=>exact bf.Jh r λa vs g c i k=>⟨a,g,λz=>c.elim λm e=>nd<|z.symm.trans e,.one<|.lst vs c<|FQ (λb j=>(k b j).imp id λz=>by cases z;rfl) c (λ_ l=>l) f i⟩
 |_=>exact ff f
set_option tactic.hygienic true in
def Bi(d:wD c v=ah)(f:yY 8 c=ah->∀a,u= .ref a->¬av' a)(g:bf W l h v u):bf W av' h v u:=by
 refine(bH.mp d).elim (λe=>yZ e g) λe=> ?_;have b:=f (n2 e).1;have i:=(n2 e).2;clear f d e;revert b;induction v using PV.casesOn;case lst xs=>exact bf.Jh g λa vs _ j k b=>vL (b a J) j<|wu i k
 all_goals exact ff i
def uC(a:rV k F.ow env ah c=U v):k.ex env c=U v/\wD c v=ah:=
 gO a λd e a=>by
 replace a:(match wD c d with|true=>U d|false=>ag)=U v:=a
 cases b:wD c d with
 |false=>rw[b]at a;exact nd a
 |true=>rw[b]at a;exact rS (sm a) <| ⟨e,b⟩
def pN(K:KS W N fa k n)(y:Rm n A)(D:gW N f F.X e c=ah)(st:St W s)(j:Av l s)(H:∀b,B.bv b->l b)
  (g:cV W B.bv F.X B.menv env s.heap) (I:cV W l F.X B.menv (hide F.ow env) s.heap) (o:rV k F.ow env r c=U v)
  (h:∀u d,Nx W s d->bf W l d.heap v u->(∀m,xu N m c=ah->i5 s u)->Q u d):aL (aQ W.prog W.w) A (eval e B.menv) Q E s:=by
 induction r using dC with
 |false=>exact K.ex D y st j I o λu d t x i=>h u d t x i
 |true=>exact K.ex D y st (λb z=>j b<|H b z) g (uC o).1 λu d t x i=>h u d t (Bi (uC o).2 (λL a e q=>j a q<|i 8 (Jy L) a e) x) i
structure NSt where
 x:a7
 i:Y
 g:PV
 u:aA
 f:aA->r_ sY
noncomputable def Ys(l:aj NSt)(env:Env):Env:=l.foldl (λe p=>e.set p.i<|U p.g) env
theorem uI(c:St W s₀)(ow:Own O L d)(H:∀a,O a->j a)(I:∀b,O b->s₀.heap.get? b=ag):
  ∀{l:aj NSt} {env:Env} {s:aw} {Q:sY->aw->Prop},(∀p∈l,xA X L p.x p.i)->(∀p∈l,∀v s Q,aL (aQ W.prog W.w) A (p8 d p.x v) Q E s->aL (aQ W.prog W.w) A (p.f v) Q E s)->
   Nx W s₀ s->cV W j X d env s.heap->(∀p∈l,bf W j s.heap p.g p.u)->
   (∀o,Mv W j O s₀ g s o->cV W j X d (Ys l env) o.heap->Q () o)->aL (aQ W.prog W.w) A (J5 (l.map (·.f)) (l.map (·.u))) Q E s
 |[],env,s,Q,t,y,n,r,z,e=>aM<|e s (.refl n) r
 |p::l,env,s,Q,t,y,n,r,z,e=>by have k:=t p<|.head _;refine al<|cC<|y p (.head _) _ _ _<|mK ow H k.mem r k.get k.uni k.nuq (z p<|.head _) λs1 G M hG hS hl hv er=> ?_;have m:Mv W j O s₀ g s s1:= .w5 c n M hG I hS λb hb _=>hl b hb;exact uI c ow H I (λq e=>t q<|.tail _ e) (λq e=>y q<|.tail _ e) m.nx er (λq e=>m.vr<|z q<|.tail _ e) λs2 m2 D=>e s2 (m.trans m2) D
end
noncomputable def iN(a:aj Y)(vs:aj PV)(env:Env):Env:=match a with
 |[]=>env
 |j::a=>match vs with|[]=>env|v::vs=>iN a vs<|env.set j<|U v
def LI:∀{a} {vs} {env},(iN a vs env).length=env.length:=by
 intro a;induction a with
 |nil=>intro _ _;exact J
 |cons j a c=>
  intro b;cases b with
  |nil=>intro _;exact J
  |cons v vs=>intro env;exact(c (vs:=vs)).trans (dr ..)
def Db:∀{a} {vs} {env} {i},i∉a->(iN a vs env)[i]? =env[i]? :=by
 intro a;induction a with
 |nil=>intro _ _ _ _;exact J
 |cons j a c=>
  intro b;cases b with
  |nil=>intro _ _ _;exact J
  |cons v vs=>intro env i h;exact(c λq=>h<|.tail _ q).trans (a6 λz:j=i=>h<|rS z <| mu _)
def IV:∀{a} {vs} {env},j∉a->iN a vs (env.set j<|U v)=(iN a vs env).set j (U v):=by
 intro a;induction a with
 |nil=>intro _ _ _;exact J
 |cons i a c=>
  intro b;cases b with
  |nil=>intro _ _;exact J
  |cons w vs=>intro env h;exact(az (iN a vs) (vv _ _ λz:j=i=>h<|rS z <| mu _)).trans<|c λq=>h<|.tail _ q
def IU:∀{b} {vs} {env},b.length=vs.length->iN (b++[j]) (vs++[v]) env=(iN b vs env).set j (U v):=by
 intro b;induction b with
 |nil=>
  intro a;cases a with
  |nil=>intro _ _;exact J
  |cons _ _=>intro _ h;exact nomatch h
 |cons i b c=>
  intro a;cases a with
  |nil=>intro _ h;exact nomatch h
  |cons w vs=>intro env h;exact c (vs:=vs)<|fO h
def LH:∀{a} {vs} {env},a.Nodup->a.length=vs.length->iN a.reverse vs.reverse env=iN a vs env:=by
 intro a;induction a with
 |nil=>
  intro b;cases b with
  |nil=>intro _ _ _;exact J
  |cons _ _=>intro _ _ h;exact nomatch h
 |cons j a d=>
  intro b;cases b with
  |nil=>intro _ _ h;exact nomatch h
  |cons v vs=>intro env c h;have h:=fO h;exact rP g_ <| rP g_ <| rP (IU (by rw[oo,oo];exact h)) <| rP (d (dH.mp c).2 h) <| (IV (dH.mp c).1).symm
def LG{env:Env}{i:Y}{o:au PV}{v:PV}(h:(env.set i o)[i]? =U (U v)):o=U v:=by rw[di]at h;refine cm (eJ.mp h) λ_ _ e=> ?_;exact e
def Q4{a b:Env}(c:a.length=b.length):(a.set j o)[j]? =(b.set j o)[j]? :=by
 refine rP di<|rP di ?_;by_cases q:j<a.length
 ·refine rP (be q)<|rP (be<|rS c <| q) ?_;rfl
 ·exact rP (jN<|zN q)<|rP (jN<|rS c <| zN q) J
def Fd:∀{a:aj Y} {gs:aj PV} {b c:Env},a.length=gs.length->b.length=c.length->(∀i,i∉a->b[i]? =c[i]?)->iN a gs b=iN a gs c:=by
 intro a;induction a with
 |nil=>intro gs b c _ _ h;exact pY λi=>h i a0
 |cons j a f=>
  intro d;cases d with
  |nil=>intro _ _ h _ _;exact nomatch h
  |cons g gs=>
   intro b c k e h
   exact f (gs:=gs) (fO k) ((dr ..).trans<|e.trans (dr ..).symm) λi l=>by
    by_cases q:j=i
    ·subst q;exact Q4 e
    ·exact(a6 q).trans<|(h i λz=>(aR.mp z).elim (λz=>q z.symm) l).trans (a6 q).symm
noncomputable def Jv(ow:aj Y)(b:Y->aj aX)(a:aj Y)(vs:aj PV):aj PV:=match a with
 |[]=>[]
 |j::a=>match vs with|[]=>[]|v::vs=>(if cY ow j=ah then TJ b j else v)::Jv ow b a vs
def HR:t7 ow a (env.set j<|U v)=(t7 ow a env).set j (U (if cY ow j=ah then TJ a j else v)):=by
 refine pY λi=> ?_;refine rP (lr ..) ?_;by_cases q:j=i
 ·subst q;refine rP (di ..)<|rP (di ..)<|rP (lr ..) ?_;cases env[j]? with
  |none=>rfl
  |some o=>cases cY ow j<;>rfl
 ·exact rP (a6 q ..)<|rP (a6 q ..)<|rP (lr ..) J
def Nr:∀{a} {vs} {env},t7 ow b (iN a vs env)=iN a (Jv ow b a vs) (t7 ow b env):=by
 intro a;induction a with
 |nil=>intro _ _;exact J
 |cons j a d=>
  intro c;cases c with
  |nil=>intro _;exact J
  |cons v vs=>intro env;exact(d (vs:=vs)).trans<|az (iN a<|Jv ow b a vs) HR
def HT:(t7 ow a env).length=env.length:=List.length_mapIdx
def Jw(h:b i=a i):(t7 ow b env)[i]? =(t7 ow a env)[i]? :=by refine rP (lr ..)<|rP (lr ..) ?_;unfold TJ;exact rP (h ..) J
section
variable {W:Wd} {F:Fx} {B:Bs} {E:aA->aw->Prop}
inductive PR(W:Wd)(F:Fx)(av':aX->Prop)(h₀ h:fX):aj Y->aj PV->aj aA->aj (aj aX)->Prop
 |nil:PR W F av' h₀ h [] [] [] []
 |var {j:Y} {js:aj Y} {v:PV} {vs:aj PV} {u:aA} {us:aj aA} {ls:aj<|aj aX} (ho:cY F.ow j=af) (r:bf W av' h v u) (rr:PR W F av' h₀ h js vs us ls):PR W F av' h₀ h (j::js) (v::vs) (u::us)<|[]::ls
 |own {j:Y} {js:aj Y} {v:PV} {vs:aj PV} {l:aj aX} {us:aj aA} {ls:aj<|aj aX} (ho:cY F.ow j=ah) (hn:∀b∈l,h₀.get? b=ag) (ha:∀b∈l,av' b) (o:fU W av' h (cY F.tw j) v l) (rr:PR W F av' h₀ h js vs us ls):PR W F av' h₀ h (j::js) (v::vs) (.ref (l.headD 0)::us)<|l::ls
def PR.len(r:PR W F av' b h c vs d e):c.length=vs.length/\vs.length=d.length:=by
 induction r with
 |nil=>exact⟨J,J⟩
 |var _ _ _ a=>exact⟨az jH a.1,az jH a.2⟩
 |own _ _ _ _ _ a=>exact⟨az jH a.1,az jH a.2⟩
noncomputable def Qu(ow:aj Y)(a:aj Y)(b:aj<|aj aX)(c:Y->aj aX)(i:Y):aj aX:=match a with
 |[]=>c i
 |j::a=>match b with|[]=>c i|l::b=>if i=j/\cY ow j=ah then l else Qu ow a b c i
def Ht:∀{a} {c} {i},i∉a->Qu ow a c d i=d i:=by
 intro a;induction a with
 |nil=>intro _ _ _;exact J
 |cons j a e=>
  intro b;cases b with
  |nil=>intro _ _;exact J
  |cons l c=>intro i h;exact(bA λz:i=j/\_=>h<|rS z.1 <| mu _).trans<|e λq=>h<|.tail _ q
inductive Sr(W:Wd)(F:Fx)(av':aX->Prop)(h₀ h:fX)(od:Y->aj aX)(js:aj Y)(vs:aj PV)(ls:aj<|aj aX)(i:Y):Prop
 |mk (p:Y) (v:PV) (l:aj aX) (e1:js[p]? =U i) (e2:vs[p]? =U v) (q1:∀b∈l,h₀.get? b=ag) (q2:∀b∈l,av' b) (q3:fU W av' h (cY F.tw i) v l) (q4:Qu F.ow js ls od i=l) (q5:l∈ls)
def Sr.tl(q:i≠j)(x:Sr W F av' b h c d vs e i):Sr W F av' b h c (j::d) (v::vs) (l::e) i:=by obtain⟨p,f,a,g,k,m,n,o,r,s⟩:=x;exact⟨p+1,f,a,g,k,m,n,o,(bA λz:i=j/\_=>q z.1).trans r,.tail _ s⟩
def PR.Vp(r:PR W F av' a h e vs n j):e.Nodup->i∈e->cY F.ow i=ah->Sr W F av' a h s e vs j i:=by
 induction r with
 |nil=>exact λ_ b=>bI b a0
 |var f r k g=>exact λc b d=>(aR.mp b).elim (λq=>by rw[q,f]at d;exact ff d) λq=>(g (dH.mp c).2 q d).tl λz=>(dH.mp c).1<|rS z <| q
 |own f l m o k g=>exact λc b d=>(aR.mp b).elim (λq=>by subst q;exact⟨0,_,_,J,J,l,m,o,bM ⟨J,f⟩,.head _⟩) λq=>(g (dH.mp c).2 q d).tl λz=>(dH.mp c).1<|rS z <| q
def P5:∀{a:aj Y} {vs:aj PV} {env:Env} {i p:Y} {v:PV},a.Nodup->a[p]? =U i->vs[p]? =U v->i<env.length->(iN a vs env)[i]? =U (U v):=by
 intro a;induction a with
 |nil=>intro _ _ _ _ _ _ h _ _;exact nomatch h
 |cons j a k=>
  intro b;cases b with
  |nil=>intro _ _ _ _ _ _ h _;exact nomatch h
  |cons w vs=>
   intro env;intro i;intro c;cases c with
   |zero=>intro v d e f g;obtain rfl:=sm e;obtain rfl:=sm f;exact(Db (dH.mp d).1).trans<|gm g
   |succ p=>intro v d e f g;exact k (vs:=vs) (dH.mp d).2 e f<|rS ((dr ..).symm) <| g
structure TN where
 x:a7
 i:Y
 f:aA->r_ sY
noncomputable def MM(a:aj TN)(b:aj PV)(c:aj aA):aj NSt:=match a with
 |[]=>[]
 |t::a=>match b with
  |[]=>[]
  |g::b=>match c with|[]=>[]|u::c=>⟨t.x,t.i,g,u,t.f⟩::MM a b c
structure MkF(T:aj TN)(gs:aj PV)(us:aj aA):Prop where
 i:(MM T gs us).map (·.i)=T.map (·.i)
 g:(MM T gs us).map (·.g)=gs
 u:(MM T gs us).map (·.u)=us
 f:(MM T gs us).map (·.f)=T.map (·.f)
def Jg:∀{T:aj TN} {c:aj PV} {d:aj aA},T.length=c.length->c.length=d.length->MkF T c d:=by
 intro b c;induction c generalizing b with
 |nil=>
  cases b with
  |nil=>
   intro a;cases a with
   |nil=>intro _ _;exact⟨J,J,J,J⟩
   |cons _ _=>intro _ h;exact nomatch h
  |cons _ _=>
   intro a;cases a with
   |nil=>intro h _;exact nomatch h
   |cons _ _=>intro h;intro h;exact nomatch h
 |cons g c e=>
  cases b with
  |nil=>
   intro a;cases a with
   |nil=>intro h;intro h;exact nomatch h
   |cons _ _=>intro h _;exact nomatch h
  |cons t T=>
   intro a;cases a with
   |nil=>intro _ h;exact nomatch h
   |cons u d=>
    intro j k
    exact have m:=e (fO j) (fO k)
     ⟨az (t.i:: ·) m.i,az (g:: ·) m.g,az (u:: ·) m.u,az (t.f:: ·) m.f⟩
def Hz{P:NSt->Prop}:∀{T:aj TN} {c:aj PV} {d:aj aA},(∀t∈T,∀g u,P ⟨t.x,t.i,g,u,t.f⟩)->∀p∈MM T c d,P p:=by
 intro T;induction T with
 |nil=>intro _ _ _ p h;exact bI h a0
 |cons t T e=>
  intro a;cases a with
  |nil=>intro _ _ p h;exact bI h a0
  |cons g c=>
   intro b;cases b with
   |nil=>intro _ p h;exact bI h a0
   |cons u d=>intro k p h;exact(aR.mp h).elim (λq=>q▸k t (.head _) g u)<|e (λt j=>k t<|.tail _ j) p
def Hg{l}:∀{env},Ys l env=iN (l.map (·.i)) (l.map (·.g)) env:=by
 induction l with
 |nil=>intro _;exact J
 |cons p l a=>intro env;exact a
def HQ:∀{b} {vs},b.length=vs.length->(Jv ow d b vs).length=b.length:=by
 intro b;induction b with
 |nil=>
  intro a;cases a with
  |nil=>intro _;exact J
  |cons _ _=>intro h;exact nomatch h
 |cons j b c=>
  intro a;cases a with
  |nil=>intro h;exact nomatch h
  |cons v vs=>intro h;exact az jH<|c<|fO h
def Q3(e:a i=l):bf W b h (TJ a i)<|.ref<|l.headD 0:=(az ek (show l.headD 0=W.pa ((a i).headD 0+10) by exact rP (e ..)<|rP (W.paP ..) J):ek (l.headD 0)= .ref (W.pa<|(a i).headD 0+10))
def PR.VZ(d:Y->aj aX)(v:∀b,k b->av' b)(r:PR W F av' s h m vs w x):∀{T:aj TN},T.map (·.i)=m->(∀i (p:Y) (l:aj aX),m[p]? =U i->x[p]? =U l->cY F.ow i=ah->d i=l)-> ∀p∈MM T (Jv F.ow d m vs) w,bf W k h p.g p.u:=by
 induction r with
 |nil=>intro T e;exact rP ((List.map_eq_nil_iff.mp e)) <| λ_ _ h=>bI h a0
 |var j r y n=>
  intro T e c p f;induction T using aE with
  |nil=>exact bI f a0
  |cons t T=>refine(aR.mp f).elim (λq=> ?_)<|n (dM e).2 (λi q a=>c i (q+1) a) p;subst q;exact rP ((bA (λz=>ff<|j.symm.trans z):(if _=ah then _ else _)=_)) <| r.weak v
 |own j A D o y n=>
  intro T e c p f;induction T using aE with
  |nil=>exact bI f a0
  |cons t T=>refine(aR.mp f).elim (λq=> ?_)<|n (dM e).2 (λi q a=>c i (q+1) a) p;subst q;exact rP ((bM j:(if _=ah then _ else _)=_)) <| Q3<|c _ 0 _ J J j
def Qs:∀{b:aj Y} {m:aj<|aj aX} {i p:Y} {l:aj aX},b.Nodup->b[p]? =U i->m[p]? =U l->cY ow i=ah->Qu ow b m o i=l:=by
 intro b;induction b with
 |nil=>intro _ _ _ _ _ h _ _;exact nomatch h
 |cons j b n=>
  intro d;cases d with
  |nil=>intro _ _ _ _ _ h _;exact nomatch h
  |cons w vs=>
   intro i;intro e;cases e with
   |zero=>intro a f c g k;obtain rfl:=sm c;obtain rfl:=sm g;exact bM ⟨J,k⟩
   |succ p=>intro a f c g k;exact(bA λz:i=j/\_=>(dH.mp f).1<|rS z.1 <| cP (show b[p]? =U i from c)).trans<|n (dH.mp f).2 c g k
structure Ez(F:Fx)(js:aj Y):Prop where
 nd:js.Nodup
 one:∀i∈js,∀j∈js,cY F.ow i=ah->cY F.ow j=ah->i=j
 uq:∀i∈js,i∉F.X.uq
inductive OdI(W:Wd)(F:Fx)(av':aX->Prop)(h₀ h:fX)(env:Env)(od od':Y->aj aX)(js:aj Y)(ls:aj<|aj aX)(i:Y)(v:PV):Prop
 |new (l:aj aX) (e3:od' i=l) (hj:i∈js) (q1:∀b∈l,h₀.get? b=ag) (q2:∀b∈l,av' b) (q3:fU W av' h (cY F.tw i) v l) (q5:l∈ls)
 |old (e3:od' i=od i) (hv:env[i]? =U (U v))
def odI(g:PR W F av' b h c vs t f)(nd:c.Nodup)(j:cY F.ow i=ah)(d:(iN c vs env)[i]? =U (U v)):OdI W F av' b h env od (Qu F.ow c f od) c f i v:=by
 by_cases q:i∈c
 ·obtain⟨p,w,a,k,l,m,n,o,r,s⟩:=g.Vp nd q j;have e:i<env.length:=rS LI <| (cy.mp d).1;obtain rfl:=sm<|sm<|(P5 nd k l e).symm.trans d;exact .new a r q m n o s
 ·exact .old (Ht q)<|(Db q).symm.trans d
def OdI.mem(x:OdI W F av' c h env g e j k i v)(d:b∈e i):(av' b/\c.get? b=ag/\i∈j/\b∈k.flatten)\/(b∈g i/\env[i]? =U (U v)):=by
 cases x with
 |new a f l m n r o=>rw[f]at d;exact .inl ⟨n b d,m b d,l,Po.mpr ⟨a,o,d⟩⟩
 |old f q=>exact .inr ⟨rS f <| d,q⟩
inductive Plan(W:Wd)(F:Fx)(B:Bs)(A:cZ)(env:Env)(od:Y->aj aX)(s s1:aw)(a:aX->Prop)(js:aj Y)(vs:aj PV)(us:aj aA)(ls:aj<|aj aX)(T:aj TN):Prop
 |mk (od':Y->aj aX) (er1:cV W (fF F (B.z a) (iN js vs env) od') F.X B.menv (t7 F.ow od env) s1.heap) (gh:∀p∈MM T (Jv F.ow od' js vs) us,bf W (fF F (B.z a) (iN js vs env) od') s1.heap p.g p.u)
   (gEq:iN js (Jv F.ow od' js vs) (t7 F.ow od env)=t7 F.ow od' (iN js vs env))
   (ow:∀i,cY F.ow i=ah->∀v,(iN js vs env)[i]? =U (U v)->∀b∈od' i,fF F B env od b\/b∈ls.flatten)
   (fin:∀s2,Mv W (fF F (B.z a) (iN js vs env) od') B.V B.s₀ s1.gens.size s1 s2->cV W (fF F (B.z a) (iN js vs env) od') F.X B.menv (t7 F.ow od'<|iN js vs env) s2.heap-> FR W F (B.z a) (iN js vs env) od' s2/\l_ W A (fF F B env od) (fF F (B.z a) (iN js vs env) od') s s2)
def FR.Dp(r:FR W F B env a s)(c:cY F.ow i=ah)(d:env[i]? =U (U v))(e:b∈a i):fF F B env a b:= .inr<|.inr ⟨i,c,⟨v,d⟩,e⟩
def FR.YO(BO:kF W F B)(r:FR W F B env h s){T:aj TN}(M:Ez F g)(hT:T.map (·.i)=g)(hx:∀t∈T,F.X.Γ.lookup t.x=U t.i) (O:∀b,fF F B env h b->av' b) (hZ:∀b,c b->av' b) (h2:∀b,av' b->fF F B env h b\/s.heap.get? b=ag) (Q:Nx W s s1) (ha:Av av' s1) (pr:PR W F av' s.heap s1.heap g vs us D):Plan W F B A env h s s1 c g vs us D T:=by
 have I:=λ{i v} (e:cY F.ow i=ah) (f:(iN g vs env)[i]? =U (U v))=>odI (od:=h) pr M.nd e f
 have l:∀b,fF F (B.z c) (iN g vs env) (Qu F.ow g D h) b->av' b:=λb d=>d.elim (λd=>d.elim (λq=>O b<|.inl q)<|hZ b) λd=>d.elim (λq=>O b<|.inr<|.inl q) λ⟨i,e,⟨v,f⟩,d⟩=>((I e f).mem d).elim (λq=>q.1) λq=>O b<|r.Dp e q.2 q.1
 have m:=λb d=>h2 b<|l b d
 have α:iN g (Jv F.ow (Qu F.ow g D h) g vs) (t7 F.ow h env)=t7 F.ow (Qu F.ow g D h) (iN g vs env):=(Fd (HQ pr.len.1).symm (HT.trans HT.symm) λi y=>Jw (Ht y).symm).trans Nr.symm
 refine⟨Qu F.ow g D h,(r.er.avoid m).nx Q r.n.st,pr.VZ _ l hT λi p a e1 e2 e=>Qs M.nd e1 e2 e,α,λi e v f b d=>((I e f).mem d).elim (λq=> .inr q.2.2.2) λq=> .inl<|r.Dp e q.2 q.1,λs2 mv β=> ?_⟩;refine r.assign m Q mv (λb d=>ha b<|l b d) β (λi e v f=> ?_) (λi e v f b d=> ?_) λi j y o H u v hu f b d L=> ?_
 ·cases I e f with
  |new a e3 o q1 k q3 q5=>refine rP e3 ?_;refine⟨q3.avoid λb d=> .inl<|l b d,?_⟩;refine cm (bZ.mp<|rP hT <| o) λt ht w=> ?_;obtain rfl:=w;exact⟨t.x,hx t ht⟩
  |old e3 f=>exact rP e3 <| ⟨((r.own i e v f).1.avoid m).nx Q r.n.st,(r.own i e v f).2⟩
 ·exact((I e f).mem d).elim (λq=>⟨r.n.new BO.st q.2.1,λz=>r.av b (.inr<|.inl z) q.2.1⟩) λq=>r.ownN i e v q.2 b q.1
 ·exact((I y hu).mem d).elim (λq=>((I o f).mem L).elim (λk=>H<|M.one i q.2.2.1 j k.2.2.1 y o) λk=>r.av b (r.Dp o k.2 k.1) q.2.1) λq=>((I o f).mem L).elim (λk=>r.av b (r.Dp y q.2 q.1) k.2.1) λk=>r.dst i j y o H u v q.2 k.2 b q.1 k.1
def G7(b:lG F)(a:F.X.Γ.lookup x=U i)(c:i∉F.X.uq):xA F.X F.wr x i:=⟨hY<|lookup_mem a,a,λy d=>b.inj y x i d a,c⟩
def FR.names(FO:lG F)(M:kF W F B)(r:FR W F B env O s){T:aj TN}(h:aB)(ok:Ez F js)(o:T.map (·.i)=js)(hx:∀t∈T,F.X.Γ.lookup t.x=U t.i)
  (hf:∀t∈T,∀v s Q,aL (aQ W.prog W.w) A (p8 B.menv t.x v) Q E s->aL (aQ W.prog W.w) A (t.f v) Q E s)
  (h1:∀b,fF F B env O b->av' b) (h2:∀b,av' b->fF F B env O b\/s.heap.get? b=ag) (nx:Nx W s s1) (ha:Av av' s1) (pr:PR W F av' s.heap s1.heap js vs us ls)
  (hq:∀e c,l_ W A (fF F B env O) (fF F B (iN js vs env) c) s e->FR W F B (iN js vs env) c e->Q () e):
  aL (aQ W.prog W.w) A (J5 (if h=ah then(T.map (·.f)).reverse else T.map (·.f)) (if h=ah then us.reverse else us)) Q E s1:=by
 obtain⟨c,y,gh,D,_,fin⟩:=r.YO M ok o hx h1 (λ_=>oF) h2 nx ha pr;have hl:=pr.len;have α:=o▸(aG _).symm;have j:(Jv F.ow c js vs).length=js.length:=HQ hl.1;have m:=Jg (α.trans j.symm)<|j.trans<|hl.1.trans hl.2;have n1:=r.n.trans nx;have tg:∀p∈MM T (Jv F.ow c js vs) us,xA F.X F.wr p.x p.i:=Hz (P:=λp=>xA F.X F.wr p.x p.i) λt ht _ _=>G7 FO (hx t ht)<|ok.uq t.i<|o▸hY ht;have H:∀p∈MM T (Jv F.ow c js vs) us,∀v s Q,aL (aQ W.prog W.w) A (p8 B.menv p.x v) Q E s->aL (aQ W.prog W.w) A (p.f v) Q E s:=Hz λt ht _ _=>hf t ht
 have go:∀e,Mv W (fF F (B.z λ_=>iY) (iN js vs env) c) B.V B.s₀ s1.gens.size s1 e->cV W (fF F (B.z λ_=>iY) (iN js vs env) c) F.X B.menv (iN js (Jv F.ow c js vs)<|t7 F.ow O env) e.heap->Q () e:=λe I d=>
  have q:=fin e I (D▸d)
  have q2:=q.1.drop (A:=A)
  hq e c (q.2.trans q2.2) q2.1
 have L:=λ{l} (a:∀p∈l,p∈MM T (Jv F.ow c js vs) us)=>uI (E:=E) (Q:=Q) (g:=s1.gens.size) (l:=l) M.st M.wo (λb hb=> .inr (.inl hb):∀b,B.V b->fF F (B.z λ_=>iY) (iN js vs env) c b) M.vN (λp k=>tg p<|a p k) (λp k=>H p<|a p k) n1 y λp k=>gh p<|a p k;clear y gh tg H fin hq hf D pr;induction h using dC with
 |false=>have:=L (λ_=>id) λe I d=>go e I (by rw[Hg,m.i,m.g,o]at d;exact d);rw[m.f,m.u]at this;exact this
 |true=>have:=L (λp k=>Pn.mp k) λe I d=>go e I (by rw[Hg,i8,i8,m.i,m.g,o,LH ok.nd j.symm]at d;exact d);rw[i8,i8,m.f,m.u]at this;exact this
def FR.E9(O:lG F)(g:kF W F B)(r:FR W F B env h s)(D:Ez F [i])(H:F.X.Γ.lookup x=U i)
  (h1:∀b,fF F B env h b->av' b) (hZ:∀b,a b->av' b) (h2:∀b,av' b->fF F B env h b\/s.heap.get? b=ag) (I:Nx W s s1) (ha:Av av' s1) (pr:PR W F av' s.heap s1.heap [i] [v] [u] [l]) {Q:sY->aw->Prop}
  (hq:∀d c,(∀b o,¬B.V b->s1.heap.get? b=U o->d.heap.get? b=U o)->l_ W A (fF F B env h) (fF F (B.z a) (env.set i<|U v) c) s d->FR W F (B.z a) (env.set i<|U v) c d-> (∀j,cY F.ow j=ah->∀w,(env.set i<|U v)[j]? =U (U w)->∀b∈c j,fF F B env h b\/b∈l)->Q () d):
  aL (aQ W.prog W.w) A (p8 B.menv x u) Q E s1:=by
 have m:∀t∈[(⟨x,i,λ_=>gZ ()⟩:TN)],F.X.Γ.lookup t.x=U t.i:=λt ht=>by exact(aU.mp ht)▸H
 obtain⟨c,q,gh,y,ow,fin⟩:=r.YO g D J m h1 hZ h2 I ha pr;have k:=G7 O H<|D.uq i<|.head _;refine mK g.wo (λb f=> .inr<|.inl f) k.mem q k.get k.uni k.nuq (gh _<|.head _) λd G L M hS hl hv er=> ?_;have mv:Mv W (fF F (B.z a) (env.set i<|U v) c) B.V B.s₀ s1.gens.size s1 d:= .w5 g.st (r.n.trans I) L M g.vN hS λb f _=>hl b f;refine jG (fin d mv (rS y er)) λq1 q2=> ?_;exact hq d c (λb o f e=>L.keep b o (λz=>f<|M b z) e) q2 q1 λj hj w hw b f=>(ow j hj w hw b f).imp id λz=>rS ((eB l)) <| z
def Fo(K:KS W N fa k n)(hA:Rm n A):∀{I} {o} {x} {vs} {s s1} {av1:aX->Prop} {Q:aj aA->aw->Prop},all2 (gW N f F.X) I o=ah->o8 k F.ow env ε o=U vs->
  x.length=o.length->(∀(p j:Y) (c:C) (v:PV),x[p]? =U j->o[p]? =U c->vs[p]? =U v->cY F.ow j=ah->cY F.tw j=af/\xu N 8 c=ah/\Ft v=ah)->
  St W s->Nx W s s1->Av av1 s1->(∀b,B.bv b->av1 b)->cV W B.bv F.X B.menv env s1.heap->cV W av1 F.X B.menv (hide F.ow env) s1.heap->
  (∀r L s' av',Nx W s1 s'->Av av' s'->(∀b,av1 b->av' b)->(∀b,av' b->av1 b\/s1.heap.get? b=ag)->PR W F av' s.heap s'.heap x vs r L->Q r s')->aL (aQ W.prog W.w) A (spliced<|I.map λe=>(af,eval e B.menv)) Q E s1:=by
 intro I;induction I with
 |nil=>
  intro o x vs s s1 av1 Q M y hj _ st l O _ _ _ h;induction o using aE with
  |nil=>obtain rfl:=sm y;obtain rfl:=q8.mp hj;exact fe<|h [] [] s1 av1 (.refl l.st) O (λ_=>id) (λ_=> .inl) .nil
  |cons _ _=>exact ff M
 |cons e I ih=>
  intro o x vs s s1 av1 Q M y hj D st l O i t DT h;induction o using aE with
  |nil=>exact ff M
  |cons c o=>induction x using aE with
   |nil=>cases hj
   |cons j x=>
    refine gO y λv e1 y=>gO y λζ e2 y=> ?_
    obtain rfl:=sm y
    refine dE<|pN K hA (gf M).1 l.st O i t DT e1 λu s2 g ru fr=> ?_
    have go:=λ{β:aX->Prop} a b c=>ih (s1:=s2) (av1:=β) (Q:=λr s=>Q (u::r) s) (gf M).2 e2 (fO hj) (λp j c v a b d=>D (p+1) j c v a b d) st (l.trans g) a b (t.nx g l.st) c
    cases ho:cY F.ow j with
    |false=>exact go (O.nx g l.st) i (DT.nx g l.st) λr L s3 av' m H w1 w2 pr=>h (u::r) ([]::L) s3 av' (g.trans m) H w1 (λb i=>(w2 b i).imp id λq=>g.new l.st q)<|.var ho ((ru.avoid w2).nx m g.st) pr
    |true=>
     have f:=D 0 j c v J J J ho
     have fu:=fr 8 f.2.1
     clear fr D e1
     obtain⟨a,na,γ,δ⟩:=L8 ru f.2.2 λb i=>i
     have α:=fu a J
     have up:∀b,(av1 b\/ek a= .ref b)->av1 b\/s1.heap.get? b=ag:=λb i=>i.imp id λz=>by cases z;exact α
     exact go (λb i=>i.elim (λz=>O.nx g l.st b z) λz=>by cases z;exact γ) (λb z=> .inl<|i b z) ((DT.avoid up).nx g l.st) λr L s3 av' m H w1 w2 pr=>h (.ref a::r) ([a]::L) s3 av' (g.trans m) H (λb i=>w1 b<|.inl i) (λb i=>(w2 b i).elim (up b) λq=> .inr<|g.new l.st q)<|.own ho (λb i=>rP (aU.mp i) <| l.new st α) (λb i=>rP (aU.mp i) <| w1 a<|.inr J) (rP f.1 <| (δ.avoid w2).nx m g.st) pr
end
section
variable {W:Wd} {n f:Y} {F:Fx} {B:Bs} {d:Env} {h:fX}
def qv(g:eI aA->eI aA)(j:h.PlainList l a):(h.update l<|gP g).PlainList l<|g a:=by
 refine dQ (j) λn e=> ?_
 have:∃c,gP g {cls:= .type "list",data:= .seq a n}={cls:= .type "list",data:= .seq (g a) c}:=by exact⟨_,J⟩
 refine dQ (this) λc q=> ?_;exact⟨c,by exact rP (gK _ e (by rw[q];rfl))<|rP q J⟩
def Hf(a:d[i]? =U (U b))(j:Y):(∃w,(d.set i<|U v)[j]? =U (U w))<->∃w,d[j]? =U (U w):=by
 by_cases q:i=j
 ·subst q;refine rP di<|rP a ?_;exact⟨λ_=>⟨_,J⟩,λ_=>⟨v,J⟩⟩
 ·rw[a6 q]
def yd(a:d[i]? =U (U e)):fF F B (d.set i<|U v) c=fF F B d c:=by funext b;unfold fF;simp only[Hf a]
def Nt(a:cY F.ow i=ah)(b:d[i]? =U (U g)):t7 F.ow c (d.set i<|U v)=t7 F.ow c d:=by
 refine pY λj=> ?_;by_cases q:i=j
 ·subst q;have e:(d.set i<|U v)[i]? =U (U v):=by refine rP di<|rP b ?_;rfl
  exact rP (xZ a e)<|rP (xZ a b) J
 ·exact rP (lr ..)<|rP (lr ..)<|rP (a6 q ..) J
def Vo{FO:lG F}{i:Y}(a:cY F.ow i=ah):F.X.uq=[]:=FO.qo.elim id λq=>by rw[q]at a;exact ff a
inductive aal(h:fX)(a:aX):Prop
 |mk (o:Uo) (e:h.get? a=U o) (c1:o.cls≠ .none) (c2:o.cls≠ .type "code") (c3:∀c,¬h.IsCell a c)
def zz.obj(r:zz W j h v a):aal h a:=by
 cases r with
 |lst k b _=>
  refine dQ (b) λm q=> ?_
  exact⟨_,q,nofun,by show cK "list"≠cK "code";decide,λc e=>cm e λl g i=>by obtain rfl:=sm<|q.symm.trans g;cases i⟩
def FR.Ze(FO:lG F)(BO:kF W F B)(r:FR W F B d m s){H:fX}{t:Y}(L:cY F.ow i=ah)(x:d[i]? =U (U v0))(ma:a∈m i)(ob:aal s.heap a)(M:gk a s.heap H)
  (O:H.get? a≠ag)
  (α:(∀p u,ba W (fF F B d m) s.heap p u->ba W (fF F B d m) H p u)->fU W (fF F B d m) H (cY F.tw i) v (m i)):
  FR W F B (d.set i<|U v) m {s with heap:=H,toks:=t}/\l_ W A (fF F B d m) (fF F B (d.set i<|U v) m) s {s with heap:=H,toks:=t}:=by
 obtain⟨o,e,c1,c2,c3⟩:=ob;have hN:=r.ownN i L v0 x a ma;have hA:=r.Dp L x ma;have Q:Cu (fF F B d m) (λb=>b=a) s {s with heap:=H,toks:=t}:=⟨λb o g e=>M.extBut b o g e,λb g=>g▸hA,J,J⟩;have vr:=λp u (q:ba W (fF F B d m) s.heap p u)=>q.chg Q;have k:=λ{j} {w:PV} (l:(d.set i<|U v)[j]? =U (U w))=>(Hf x j).mp ⟨w,l⟩;refine rP (yd x) ?_;refine⟨⟨r.n.chg BO.st Q (λb g=>g▸hN.1) λb o' g e'=> ?_,?_,λj hj w l=> ?_,λj hj w l b g=>(k l).elim λw' I=>r.ownN j hj w' I b g,λp q hp hq β u w hu l b g=>(k hu).elim λu' γ=>(k l).elim λw' I=>r.dst p q hp hq β u' w' γ I b g,?_⟩,.w5 Q λb g _=>g▸O⟩
 ·subst g;exact sm (e.symm.trans e')▸ .inl ⟨c1,c2⟩
 ·refine rP (yd x) ?_;intro b g;by_cases q:b=a
  ·exact q▸O
  ·cases e':s.heap.get? b with
   |none=>exact bI e'<|r.av b g
   |some o'=>exact λz=>nd<|z.symm.trans<|M.extBut _ _ q e'
 ·refine rP (yd x) ?_;by_cases q:i=j
  ·subst q;obtain rfl:=sm<|LG l;exact⟨α vr,(r.own i L v0 x).2⟩
  ·have l:=(a6 q).symm.trans l;have q1:=r.own j hj w l;exact⟨q1.1.keep (G:=λb=>b=a) (λb vs g q=>q.imp λ_ e=>M.extBut _ _ g e) vr λb g z=>r.dst i j L hj q v0 w x l b (z▸ma) g,q1.2⟩
 ·exact rP (yd x) <| rP (Nt L x) <| r.er.mv (λ_ q=>q.at' λo e=>M.extBut _ _ (λz=>hN.2<|z▸BO.wo.loc) e) (λy c _ _ o q=>q.imp λ_ w=>⟨M.extBut _ _ (λz=>c3 o<|z▸q) w.1,w.2⟩) (λz=>bI (Vo (FO:=FO) L) z) λq=>q.chg Q
def FR.Qj(r:FR W F B d b s)(g:cY F.ow i=ah)(j:d[i]? =U (U c))(k:b i=[a])(l:cY F.tw i=af):zz W (fF F B d b) s.heap c a:=cm ((r.own i g c j).1.Qp l) λm e o=>rP ((dM<|k.symm.trans e).1) <| o
def FR.mut(w:lG F)(x:kF W F B)(r:FR W F B d b s)(m:cY F.ow i=ah)(o:d[i]? =U (U D))(j:b i=[a])(q:cY F.tw i=af)(y:gk a s.heap c)
  (k:c.get? a≠ag)
  (l:(∀p u,ba W (fF F B d b) s.heap p u->ba W (fF F B d b) c p u)->zz W (fF F B d b) c v a):
  FR W F B (d.set i<|U v) b {s with heap:=c,toks:=t}/\l_ W A (fF F B d b) (fF F B (d.set i<|U v) b) s {s with heap:=c,toks:=t}:=
 r.Ze w x m o (rP j <| mu _) (r.Qj m o j q).obj y k λz=>by exact rP q <| rP j <| .one<|l z
def FR.place(r:FR W F B d e s)(g:cY F.ow i=ah)(j:d[i]? =U (U q))(k:e i=a::l)(m:F.X.Γ.lookup x=U i):∃b,iO B.menv x=U b/\b.holds s.heap (.ref a):=jj (r.er.slot x i _ m<|xZ g j) λb c l1 l2 o=>⟨b,l1,rS ((show c= .ref a from(show c= .ref (W.pa _)from o).trans<|az ek<|(W.paP _).trans<|rP k J)) <| l2⟩
theorem rD:zG "list"/\Slot "list" "append" "list.append"/\GG (.builtin "list.append")=gZ (.type "method_descriptor"):=⟨vp,F.slot_list_append,F.type_list_append⟩
theorem ql:zG "list"/\Slot "list" "reverse" "list.reverse"/\GG (.builtin "list.reverse")=gZ (.type "method_descriptor"):=⟨vp,F.slot_list_reverse,F.type_list_reverse⟩
def Cn(FO:lG F)(BO:kF W F B)(K:KS W N fa k n)(hA:Rm n A)(r:FR W F B d od s)(l:cY F.ow i=ah)(D:cY F.tw i=af)(hx:F.X.Γ.lookup x=U i)(hp:fz x=ah)
  (L:pa.endLine=p.line) (M:gW N f F.X e c=ah) (o:d[i]? =U (U<|.lst H)) (ev:rV k F.ow d α c=U v) (q:H.length<=big)
  (hq:∀O y,l_ W A (fF F B d od) (fF F B (d.set i<|U<|.lst<|H++[v]) y) s O->FR W F B (d.set i<|U<|.lst<|H++[v]) y O->Q .next O):
  aL (aQ W.prog W.w) A (exec (.Expr (.Call (.Attribute (.Name x px) "append" pa) [e] [] p) β) B.menv) Q E s:=by
 refine cm ((r.own i l _ o).1.Qp D) λa I _=> ?_;refine cm (r.place l o I hx) λγ l1 l2=> ?_;refine acP ?_ (by unfold mF;exact rP r.er.kind J) J;refine mD (qL J) (rP (pU M) J) (eR.mpr L)<|fP r.er.kind hp l1 l2 ?_;cases r.Qj l o I D with
 |lst ys j q3=>
  refine dQ (j) λm j=> ?_;refine⟨"list","list.append",rD.1,rD.2.1,rD.2.2,⟨_,j,J⟩,(λb q=>by cases q;exact⟨_,j,J⟩),?_⟩;refine rP (pU M) ?_;refine lI J<|f4<|dE<|pN K hA M r.n.st r.av (λb q=> .inl q) (r.full FO BO) r.DT ev λu s1 nx ru _=>fe ?_;cases(r.nx nx).Qj l o I D with
  |lst ys j q3=>
   refine Ks j (λh' L hs=> ?_) (by have:=q3.length;exact rP aO <| rP cS <| rS this <| ab q<|dcd J);have g:h'.PlainList a (ys++[u]).toArray:=by simpa using L
   have m:=(r.nx nx).mut (A:=A) (t:=s1.toks) (v:= .lst<|H++[v]) FO BO l o I D hs (λz=>g.elim λm' e5=>nd<|z.symm.trans e5) λvr=> .lst _ g<|vr _ _<|q3.append<|.one ru;exact hq _ od ((l_.nC r.n.st nx).trans m.2) m.1
def z8(M:lG F)(O:kF W F B)(r:FR W F B d I s)(j:cY F.ow i=ah)(q:cY F.tw i=af)(hx:F.X.Γ.lookup x=U i)(hp:fz x=ah)
  (hl:pa.endLine=p.line) (k:d[i]? =U (U<|.lst o)) (u:o.length<=big)
  (hq:∀y g,l_ W A (fF F B d I) (fF F B (d.set i<|U<|.lst o.reverse) g) s y->FR W F B (d.set i<|U<|.lst o.reverse) g y->Q .next y):
  aL (aQ W.prog W.w) A (exec (.Expr (.Call (.Attribute (.Name x px) "reverse" pa) [] [] p) α) B.menv) Q E s:=by
 refine cm ((r.own i j _ k).1.Qp q) λa D _=> ?_;refine cm (r.place j k D hx) λβ l1 l2=> ?_;refine acP ?_ (by unfold mF;exact rP r.er.kind J) J;refine mD (qL J) (by rfl) (eR.mpr hl)<|fP r.er.kind hp l1 l2 ?_;cases r.Qj j k D q with
 |lst ys e L=>
  refine dQ (e) λm e=> ?_;refine⟨"list","list.reverse",ql.1,ql.2.1,ql.2.2,⟨_,e,J⟩,(λb u=>by cases u;exact⟨_,e,J⟩),?_⟩;refine PySem.P.reverse_list e ?_ (by have:=L.length;exact rP aO <| rP cS <| rS this <| ab u<|dcd J);have H:=qv (h:=s.heap) (l:=a) (λx=>x.reverse) ⟨m,e⟩;have c:(s.heap.update a<|gP λx=>x.reverse).PlainList a ys.reverse.toArray:=by simpa using H
  have m:=r.mut (A:=A) (t:=s.toks) (v:= .lst o.reverse) M O j k D q (md ..) (λz=>c.elim λm' e5=>nd<|z.symm.trans e5) λvr=> .lst _ c<|vr _ _ L.reverse;exact hq _ I m.2 m.1
end
noncomputable def wj(a:kH)(x:a7):aB:=a.names.any λq=>q.1==x&&(q.2== .local||q.2== .cell)
noncomputable def Yo(nm:aj<|a7 × dJ)(x:a7)(p:pJ)(a:kH)(q:pJ):aB:=CP (nm.lookup x) .local&&(p.line==q.line)&& !(wj a x)
noncomputable def Ta(nm:aj<|a7 × dJ)(x:a7)(p:pJ)(v:Expr):aB:=if h:v.ctorIdx=8 then rm (motive_1:=λ_=>aB) v h λ_ _ a q=>Yo nm x p a q
 else if h:v.ctorIdx=9 then Expr.SetComp.elim (motive_1:=λ_=>aB) v h λ_ _ a q=>Yo nm x p a q
 else if h:v.ctorIdx=10 then Expr.DictComp.elim (motive_1:=λ_=>aB) v h λ_ _ _ a q=>Yo nm x p a q else af
def Eg{env:cr}(h:env.scope.kind= .function):env.blockKind= .function:=by unfold Env.blockKind;exact rP h J
def QR:CP o k=(o==U k):=by
 induction o using bX with
 |none=>rfl
 |some a=>exact(kY.mpr ⟨λh=>rS ((aq h)) <| cH _,λh=>bD<|me<|dW h⟩)
def qg{l:Y}(c:env.scope.kind= .function):Kt v (U<|.Name x p) l env=gZ (Ta env.scope.names x p v):=by
 have a:∀{b:kH} {q:pJ},(env.blockKind== .function&&env.kindOf x==U .local&&p.line==q.line&& !(b.names.any λ(n,k)=>n==x&&(k== .local||k== .cell)))=Yo env.scope.names x p b q:=by intro b q;unfold Yo;exact rP (Eg c) <| rP QR J
 induction v using Expr.casesOn<;>first
  |rfl
  |exact az gZ a
def FR.acp{C:aX}{t:Y}(M:kF W F B)(FO:lG F){l:aX->Prop}{E:aw}(H:l_ W A l (fF F (B.z λb=>b=C) env h) E s)(I:E.heap.get? C=ag)(r:FR W F (B.z λb=>b=C) env h s)(k:gk C s.heap x)(hm:∃m,s.heap.Ns C m)(hN:B.s₀.heap.get? C=ag)(j:∀b,fF F B env h b->b≠C):FR W F B env h {s with heap:=x,toks:=t}/\l_ W A l (fF F B env h) E {s with heap:=x,toks:=t}:=by
 have D:Cu (fF F (B.z λb=>b=C) env h) (λb=>b=C) s {s with heap:=x,toks:=t}:=⟨λb o d e=>k.extBut b o d e,λb d=> .inl<|.inr d,J,J⟩;refine dQ (hm) λm L=> ?_;have up:∀b,fF F B env h b->fF F (B.z λb=>b=C) env h b\/x.get? b=ag:=λb d=> .inl<|zp d;refine⟨⟨?_,λb d=> ?_,λi O v Q=> ?_,r.ownN,r.dst,?_⟩,(H.chg D λb d=>d▸I).trans<|.Vu λb d=> .inl<|zp d⟩
 ·refine r.n.chg M.st D (λb d=>d▸hN) λb o d e=> .inr λvs z=> ?_;subst d
  exact EZ L λo1 es ep e1 d1 _ _=>by obtain rfl:=sm<|e1.symm.trans e;rw[d1]at z;cases z
 ·cases e:s.heap.get? b with
  |none=>exact bI e<|r.av b<|zp d
  |some o=>exact λz=>nd<|z.symm.trans<|k.extBut _ _ (j b d) e
 ·have q:=r.own i O v Q;exact⟨(q.1.keep (λb vs d q=>q.imp λ_ e=>k.extBut _ _ d e) (λp u q=>ba.chg D q) λb d=>j b<|.inr<|.inr ⟨i,O,⟨v,Q⟩,d⟩).avoid up,q.2⟩
 ·exact(r.er.mv (λ_ q=>q.at' λo e=>k.extBut _ _ (j _<|.inr<|.inl M.wo.loc) e) (λy c _ _ o q=>q.imp λ_ w=>⟨k.extBut _ _ (λz=>nZ L q z) w.1,w.2⟩) (λ_ a vs q=>q.imp λ_ e=>k.extBut _ _ (λz=>yK L q z) e) λq=>bf.chg D q).avoid up
def Mf(d:i∉F.X.uq):Ez F [i]:=⟨by simp,λa c b e _ _=>rP (aU.mp c)<|rP (aU.mp e) J,λa c=>by exact(aU.mp c)▸d⟩
inductive P1(W:Wd)(F:Fx)(B:Bs)(env:Env)(od:Y->aj aX)(s s1:aw)(a:aX->Prop)(i:Y)(v:PV)(u:aA):Prop
 |mk (av':aX->Prop) (h1:∀b,fF F B env od b->av' b) (hz:∀b,a b->av' b) (h2:∀b,av' b->fF F B env od b\/s.heap.get? b=ag) (ha:Av av' s1) (l:aj aX) (hl:∀b∈l,.ref b=u) (pr:PR W F av' s.heap s1.heap [i] [v] [u] [l])
def Fl(r:FR W F B env e s)(o:Nx W s s1)(q:cY F.tw i=af)(h:∀b,c b->s.heap.get? b=ag/\s1.heap.get? b≠ag/\u≠ .ref b)(t:cY F.ow i=ah->i5 s u/\Ft v=ah)(m:bf W (λb=>fF F B env e b\/c b) s1.heap v u):P1 W F B env e s s1 c i v u:=by
 have g:Av (λb=>fF F B env e b\/c b) s1:=λb d=>d.elim (λz=>r.av.nx o r.n.st b z) λz=>(h b z).2.1;cases j:cY F.ow i with
 |false=>exact⟨λb=>fF F B env e b\/c b,λb=> .inl,λb=> .inr,λb d=>d.imp id λz=>(h b z).1,g,[],nofun,.var j m .nil⟩
 |true=>
  have f:=t j;obtain⟨a,w,k,l⟩:=L8 m f.2 λb d=>d;have fa:=f.1 a J;refine⟨λb=>(fF F B env e b\/c b)\/ek a= .ref b,λb z=> .inl<|.inl z,λb z=> .inl<|.inr z,λb d=>d.elim (λz=>z.imp id λz=>(h b z).1) λz=> ?_,λb d=>d.elim (g b) λz=> ?_,[a],λb d=>aU.mp d▸J,.own j (λb d=>aU.mp d▸fa) (λb d=>aU.mp d▸ .inr J) (q▸l) .nil⟩
  ·cases z;exact .inr fa
  ·cases z;exact k
def On(FO:lG F)(BO:kF W F B)(K:KS W N fa k n)(hA:Rm n A)(r:FR W F B env od s){β:aB}{i:Y}{v:PV}{Q:zH->aw->Prop}(hx:F.X.Γ.lookup x=U i)(hu:i∉F.X.uq)(tw:cY F.tw i=af)
  (hc:gW N f F.X e c=ah) (L:cY F.ow i=ah->xu N 8 c=ah/\Ft v=ah) (η:Ta F.X.nm x px e=ah->Ib c=ah) (ev:rV k F.ow env β c=U v)
  (hq:∀d g,l_ W A (fF F B env od) (fF F B (env.set i<|U v) g) s d->FR W F B (env.set i<|U v) g d->Q .next d):
  aL (aQ W.prog W.w) A (exec (.Assign [.Name x px] e ι) B.menv) Q E s:=by
 have ok:=Mf hu;have h:=qg (env:=B.menv) (x:=x) (p:=px) (v:=e) (l:=ι.line) r.er.kind;rw[r.er.names]at h;cases hw:Ta F.X.nm x px e with
 |false=>rw[hw]at h;refine iV (pN K hA hc r.n.st r.av (λb hb=> .inl hb) (r.full FO BO) r.DT ev λu s1 M ru fr=> ?_) h;obtain⟨av',h1,_,h2,ha,_,_,pr⟩:=Fl r M tw (λ_=>oF) (λho=>⟨fr 8 (L ho).1,(L ho).2⟩)<|ru.weak λb hb=>hb.elim id oF;refine r.E9 FO BO ok hx h1 (λ_=>oF) h2 M ha pr λs2 g _ mv O _=> ?_;obtain⟨q3,q4⟩:=O.drop;exact hq s2 g (mv.trans q4) q3
 |true=>
  rw[hw]at h;have γ:=η hw;refine rP (exec_Assign_Name_used _ _ _ _ h) ?_
  have H:∀D C d,Nx W s d->s.heap.get? D=ag->s.heap.get? C=ag->D≠C->(∃m,d.heap.Ns C m)->bf W (λb=>fF F B env od b\/b=C) d.heap v (.ref D)-> aL (aQ W.prog W.w) A (mX (.Name x px) B.menv<|.ref D) (λ_ α=>∃m,α.heap.Ns C m/\∀h',gk C α.heap h'->Q .next {α with heap:=h'}) E d:=by
   intro D C d M hD I t y rv;have κ:d.heap.get? C≠ag:=by refine abp (y) λm o es ep e _=> ?_;refine rP e ?_;nofun
   have hZ:∀b,b=C->s.heap.get? b=ag/\d.heap.get? b≠ag/\ek D≠ .ref b:=λb hb=>by subst hb;exact⟨I,κ,λz=>t (by cases z;rfl)⟩
   obtain⟨av',h1,μ,h2,ha,_,hl,pr⟩:=Fl r M tw hZ (λho=>⟨λa e=>by cases e;exact hD,(L ho).2⟩) rv;refine rz<|r.E9 FO BO ok hx h1 μ h2 M ha pr λs2 g ν mv O δ=> ?_;have ε:¬B.V C:=λz=>r.av C (.inr<|.inl z) I
   have ζ:∃m,s2.heap.Ns C m:=by refine dQ (y) λm hn=> ?_;exact⟨m,hn.at' λo e=>ν C o ε e⟩
   refine dQ (ζ) λm hm=> ?_;refine⟨m,hm,λh' hs=> ?_⟩
   obtain⟨q1,q2⟩:=O.acp BO FO mv I hs ⟨m,hm⟩ (r.n.new BO.st I) λb hb z=>by
    subst z;rcases hb with hb|hb|⟨j,hj,⟨w,hw⟩,hb⟩
    ·exact r.av b (.inl hb) I
    ·exact ε hb
    ·rcases δ j hj w hw b hb with q|q
     ·exact r.av b q I
     ·cases hl b q;exact t J
   exact hq _ g q2 q1
  refine al<|dK<|al ?_;induction β using dC with
  |false=>refine iC (K.cu hc γ hA r.n.st r.av r.DT ev H) (λ_ d q=>aM q) λ_ _ z=>z
  |true=>exact iC (K.cu hc γ hA r.n.st r.Am (r.full FO BO) (uC ev).1 λD C d M hD I t y rv=>H D C d M hD I t y<|Bi (uC ev).2 (λ_ a e q=>by cases e;exact q.elim (λq=>r.av D q hD) t) rv) (λ_ d q=>aM q) λ_ _ z=>z
noncomputable def isStar(e:Expr):aB:=swappedStores.match_5 (λ_=>aB) e (λ_ _=>ah) λ_=>af
noncomputable def xM(nm:aj<|a7 × dJ)(a:Y)(c:aj Expr):aj a7:=c.filterMap λx=>swappedStores.match_8 (λ_=>au a7) x (λid b=>if nm.lookup id==U .local&&b.line==a then U id else ag) λ_=>ag
noncomputable def K_(nm:aj<|a7 × dJ)(a vs:aj Expr):au<|au<|aj a7:=
 if(!(a.length==2||a.length==3)||vs.length !=a.length)=ah then U ag
 else if vs.any isStar=ah then U ag
 else if((xM nm ((a.head?.map (·.pos.line)).getD 0) a).length !=a.length||(xM nm ((a.head?.map (·.pos.line)).getD 0) a).eraseDups.length !=(xM nm ((a.head?.map (·.pos.line)).getD 0) a).length)=ah then U ag
 else if vs.all (foldedForSure 8)=ah then U ag
 else if vs.all (constantsAlone 8)=ah then ag
 else U (U (xM nm ((a.head?.map (·.pos.line)).getD 0) a))
def M7{d e:Type}{c:Prop}[CN c]{a b:au d}{r:d}{x y z:e}(h:(if c then a else b)=U r)(f:a=U r->x=z)(g:b=U r->y=z):(if c then x else y)=z:=by
 by_cases q:c
 ·rw[bM q]at h⊢;exact f h
 ·rw[bA q]at h⊢;exact g h
def US(f:env.scope.kind= .function)(h:K_ env.scope.names g vs=U r):J4 [.Tuple g a b] (.Tuple vs c d) env=gZ r:=by
 unfold K_ at h;unfold J4;dsimp only;refine rP (Eg f ..) ?_;have e:(ScopeKind.function !=ScopeKind.function)=af:=by decide
 exact rP (e ..) <| rP (vy ..) <| M7 h (λh=>rS (sm h) <| J) λh=>M7 h (λh=>rS (sm h) <| J) λh=>M7 h (λh=>rS (sm h) <| J) λh=>M7 h (λh=>rS (sm h) <| J) λh=>M7 h (λh=>nd h) λh=>rS (sm h) <| J
def K9(h:FT v=af):J4 [t] v env=gZ ag:=by
 induction t using Expr.casesOn with
 |Tuple c a b=>induction v using Expr.casesOn<;>first|rfl|exact tf h
 |List c a=>induction v using Expr.casesOn<;>first|rfl|exact tf h
 |_=>rfl
def yr:swapsWithSole [.Tuple c a b] v l env=gZ af:=by show Kt v (U<|.Tuple c a b) l env=gZ af;induction v using Expr.casesOn<;>rfl
set_option tactic.hygienic true in
def AI:Kt v (U<|.Subscript o i p) l env=gZ af:=by induction v using Expr.casesOn<;>rfl
section
variable {W:Wd} {A:cZ} {E:aA->aw->Prop} {s H:aw} {D d:Env}
set_option tactic.hygienic true in
mutual
theorem Ej:∀{t} {v} {D d},jZ t v D=U d->(∀j∈k7 t,cY ow j=af)->jZ t v (t7 ow od D)=U (t7 ow od d)
 | .v i,v,D,d,h,ho=>rS (sm h) <| az U (HR.trans<|rP (ho i<|.head _) J).symm
 | .tup ts,v,D,d,h,ho=>by
  induction v using PV.casesOn;case tup xs=>exact zl h ho
  all_goals exact nd h
theorem zl:∀{ts} {vs} {D d},jZ.go ts vs D=U d->(∀j∈uE ts,cY ow j=af)->jZ.go ts vs (t7 ow od D)=U (t7 ow od d)
 |[],[],D,d,h,_=>rS (sm h) <| J
 |[],_::_,_,_,h,_=>nd h
 |_::_,[],_,_,h,_=>nd h
 |t::ts,v::vs,D,d,h,ho=>gO h λe1 h1 h2=>(az (λo=>jf o λe=>jZ.go ts vs e)<|Ej h1 λj hj=>ho j<|j_ _ hj).trans<|zl h2 λj hj=>ho j<|jL _ hj
end
def Bo(h:∀i,cY F.ow i=ah->d[i]? =D[i]?):fF F B d od=fF F B D od:=funext λb=>propext ⟨λq=>q.imp id λq=>q.imp id λ⟨i,a,b,c⟩=>⟨i,a,rS (h i a) <| b,c⟩,λq=>q.imp id λq=>q.imp id λ⟨i,a,b,c⟩=>⟨i,a,rS ((h i a).symm) <| b,c⟩⟩
def FR.moved(w:kF W F B)(r:FR W F B D c s)(h:∀i,cY F.ow i=ah->d[i]? =D[i]?)(l:Mv W (fF F B D c) B.V B.s₀ s.gens.size s H)(o:cV W (fF F B D c) F.X B.menv (t7 F.ow c d) H.heap):FR W F B d c H/\l_ W A (fF F B D c) (fF F B d c) s H:=by have e:=Bo (B:=B) (od:=c) h;have g:=λ{i v} (a:cY F.ow i=ah) (f:d[i]? =U (U v))=>(h i a).symm.trans f;refine⟨⟨l.nx,by refine rP e ?_;exact l.Am r.av,λi a v f=> ?_,λi a v f b k=>r.ownN i a v (g a f) b k,λi j a n m u v t f=>r.dst i j a n m u v (g a t)<|g n f,by exact rP e o⟩,by exact rP e <| l_.Y5 l λb k=> .inr<|.inl k⟩;have q:=r.own i a v<|g a f;exact rP e <| ⟨q.1.mv l λb k=>(r.ownN i a v (g a f) b k).2,q.2⟩
set_option tactic.hygienic true in
def FR.bind(o:A.handled=ag)(a:kF W F B)(r:FR W F B D c s)(q:tL f e t=U x)(y:vk F.X F.wr x)(k:∀j∈k7 t,cY F.ow j=af)(I:bf W (fF F B D c) s.heap v u) (l:jZ t v D=U d) (L:∀H,l_ W A (fF F B D c) (fF F B d c) s H->FR W F B d c H->Q () H):aL (aQ W.prog W.w) A (mX e B.menv u) Q E s:=by
 refine zk (g:=s.gens.size) o a.st a.wo (λb M=> .inr<|.inl M) a.vN q y r.n r.er I (Ej l k) λH O er=> ?_;have h:∀i,cY F.ow i=ah->d[i]? =D[i]? :=λi m=>vf l λz=>by rw[k i z]at m;exact ff m
 refine jG (r.moved (A:=A) a h O er) λq1 q2=> ?_;exact L H q2 q1
def JV(FO:lG F)(BO:kF W F B)(K:KS W N fa k n)(hA:Rm n A)(r:FR W F B D od s)(L:F.X.Γ.lookup x=U i)(hp:fz x=ah)(hu:i∉F.X.uq)(tw:cY F.tw i=af)
  (M:cY F.ow i=af) (y:h= .Add\/h= .Sub\/h= .LShift\/h= .RShift) (hc:gW N f F.X e c=ah) (O:D[i]? =U (U<|.int a)) (e1:k.ex (hide F.ow D) c=U (.int b)) (o:binI h a b=U v)
  (hq:∀H g,l_ W A (fF F B D od) (fF F B (D.set i<|U v) g) s H->FR W F B (D.set i<|U v) g H->Q .next H):
  aL (aQ W.prog W.w) A (exec (.AugAssign (.Name x px) h e α) B.menv) Q E s:=by
 refine jj (r.er.slot x i (.int a) L<|(u5 M).trans O) λβ v' l1 l2 l3=> ?_;revert l2;refine bf.uY l3 λt l2=>wpAny_AugAssign_Name<|A6 r.er.kind hp l1 l2<|K.ex hc hA r.n.st r.av r.DT e1 λu s1 nx ru _=>bf.uY ru λt2=> ?_
 have fin:∀m tk,v= .int m->aL (aQ W.prog W.w) A (p8 B.menv x<|.int m tk) (λ_=>Q .next) E {s1 with toks:=s1.toks+1}:=by intro m tk hm;subst hm;have l:Nx W s {s1 with toks:=s1.toks+1}:=nx.tok;obtain⟨av',h1,_,h2,ha,_,_,pr⟩:=Fl r l tw (λ_=>oF) (λz=>ff<|M.symm.trans z) vI;exact r.E9 FO BO (Mf hu) L h1 (λ_=>oF) h2 l ha pr λs2 g _ mv I _=>have q:=I.drop;hq s2 g (mv.trans q.2) q.1
 clear hq l2 l3 l1 O e1 ru;rcases y with rfl|rfl|rfl|rfl
 ·exact iadd_int<|fin _ _ (sm o).symm
 ·exact isub_int<|fin _ _ (sm o).symm
 ·have q:=cN o;exact ilshift_int (aq (n2 q.1).1) (aq (n2 q.1).2)<|fin _ _ q.2.symm
 ·have q:=cN o;exact irshift_int (aq q.1)<|fin _ _ q.2.symm
def PR.nx(x:Nx W s H)(y:St W s)(r:PR W F e a s.heap f vs g h):PR W F e a H.heap f vs g h:=by
 induction r with
 |nil=>exact .nil
 |var b r _ c=>exact .var b (r.nx x y) c
 |own b i j o _ c=>exact .own b i j (o.nx x y) c
noncomputable def namesOf(b:aj Expr)(a:aj TT):au<|aj<|a7 × Y:=match b with
 |[]=>(match a with|[]=>U []|_::_=>ag)
 |e::b=>match a with
  |[]=>ag
  |t::a=>j' ag e λx=>match t with
   | .v i=>(namesOf b a).bind λl=>U<|(x,i)::l
   |_=>ag
inductive NamesR:aj Expr->aj TT->aj (a7 × Y)->Prop
 |nil:NamesR [] [] []
 |cons {x:a7} {p:pJ} {i:Y} {es:aj Expr} {ts:aj TT} {tg:aj<|a7 × Y} (r:NamesR es ts tg):NamesR (.Name x p::es) (.v i::ts)<|(x,i)::tg
def MC:∀{b:aj Expr} {f:aj TT} {c:aj<|a7 × Y},namesOf b f=U c->NamesR b f c:=by
 intro b;induction b with
 |nil=>
  intro a;cases a with
  |nil=>intro c h;exact rS (sm h) <| .nil
  |cons _ _=>intro _ h;exact nd h
 |cons e b g=>
  intro a;cases a with
  |nil=>intro _ h;exact nd h
  |cons t f=>
   intro c h
   exact uT h λx p h=>by
    induction t using TT.casesOn;case v i=>exact gO h λl j k=>rS (sm k) <| .cons<|g j
    all_goals exact nd h
def goK{P:Prop}(b:gH.go k (t::a) (v::vs) D=U d)(c:∀f,gH k t v D=U f->gH.go k a vs f=U d->P):P:=gO (show(gH k t v D).bind (λe=>gH.go k a vs e)=U d from b) c
def FC(k){c}(r:NamesR c e a):∀{vs} {D d},gH.go k e vs D=U d->d=iN (a.map (·.2)) vs D/\vs.length=a.length:=by
 induction r with
 |nil=>
  intro vs D d b;induction vs using aE with
  |nil=>exact⟨(sm b).symm,J⟩
  |cons _ _=>exact nd b
 |cons r f=>
  intro vs D d b;induction vs using aE with
  |nil=>exact nd b
  |cons v vs=>exact goK b λg b1 b2=>have q:=f<|(az (gH.go k _ vs)<|sm b1).trans b2;⟨q.1,az jH q.2⟩
def Mz(r:NamesR k g h):∀{vs:aj PV},uQ ow g vs=ah->∀(p j:Y) (v:PV),(h.map (·.2))[p]? =U j->vs[p]? =U v->cY ow j=ah->Ft v=ah:=by
 induction r with
 |nil=>exact λ_ _ _ _ e=>nd e
 |cons r i=>
  intro vs b p j v c a f;induction vs using aE with
  |nil=>exact nd a
  |cons w vs=>
   induction p using cg with
   |zero=>obtain rfl:=sm c;obtain rfl:=sm a;exact(bH.mp (n2 b).1).elim (λq=>tf<|f.symm.trans<|n0 q) id
   |succ p=>exact i (n2 b).2 p j v c a f
inductive Xa(W:Wd)(A:cZ)(E:aA->aw->Prop)(menv:cr)(es:aj Expr)(tg:aj<|a7 × Y):Prop
 |mk (T:aj TN) (t1:T.map (·.i)=tg.map (·.2)) (t2:T.map (·.x)=tg.map (·.1)) (t3:T.map (·.f)=es.map (λe=>mX e menv)) (t4:∀e∈es,lW e=ah) (t5:es.length=tg.length) (t6:∀t∈T,(t.x,t.i)∈tg/\∀v s Q,aL (aQ W.prog W.w) A (p8 menv t.x v) Q E s->aL (aQ W.prog W.w) A (t.f v) Q E s)
def MB(r:NamesR a g b):Xa W A E menv a b:=by
 induction r with
 |nil=>exact⟨[],J,J,J,nofun,J,nofun⟩
 | @cons x c i a g b r h=>
  obtain⟨T,j,k,l,m,n,f⟩:=h
  exact⟨⟨x,i,mX (.Name x c) menv⟩::T,az (i:: ·) j,az (x:: ·) k,az (mX (.Name x c) menv:: ·) l,λe o=>(aR.mp o).elim (λq=>rP q <| J)<|m e,az jH n,λt u=>(aR.mp u).elim (λq=>rP q <| ⟨.head _,λv s Q w=>rz w⟩) λq=>⟨.tail _ (f t q).1,(f t q).2⟩⟩
end
section
variable {f:Y} {F:Fx} {B:Bs}
def E4(I:lG F)(L:kF W F B)(K:KS W N fa k n)(M:Rm n A)(r:FR W F B env q s)(i:all2 (gW N f F.X) vs l=ah)(O:vs.length<=4096)(ev:o8 k F.ow env α l=U d)
  (u:x.length=l.length) (m:∀(p j:Y) (c:C) (v:PV),x[p]? =U j->l[p]? =U c->d[p]? =U v->cY F.ow j=ah->cY F.tw j=af/\xu N 8 c=ah/\Ft v=ah)
  (h:∀t e o s1 av',Nx W s s1->Av av' s1->(∀b,fF F B env q b->av' b)->(∀b,av' b->fF F B env q b\/s.heap.get? b=ag)->PR W F av' s.heap s1.heap x d e o->s1.heap.IsTuple t e.toArray->Q (.ref t) s1):
  aL (aQ W.prog W.w) A (eval (.Tuple vs b p) B.menv) Q E s:=by
 refine CQ ?_;refine rP (i' i) ?_;refine Fo K M i ev u m r.n.st (.refl r.n.st) r.av (λb hb=> .inl hb) (r.full I L) r.DT λe o s1 av' g ha h1 h2 y=>⟨?_,?_⟩
 ·have z:=y.len;have h4:=oe i;exact rP cS <| uS 0x333031304342332310003f91110000006f901 O u z.1 z.2 h4
 ·have a:Nx W s1 {s1 with heap:=s1.heap.push {cls:= .type "tuple",data:= .seq e.toArray}}:=(Nx.refl g.st).push _;exact h _ e o _ av' (g.trans a) (ha.nx a g.st) h1 h2 (y.nx a g.st) ⟨_,bQ _ J,J,0,J⟩
def KW{b}:∀{d} {a},o8 k F.ow env d b=U a->a.length=b.length:=by
 induction b with
 |nil=>intro _ _ e;exact rS (sm e) <| J
 |cons c b g=>intro _ _ e;exact gO e λv i e=>gO e λvs h e=>rS (sm e) <| az jH<|g h
def Dk(FO:lG F)(BO:kF W F B)(hA:Rm n A)(r:FR W F B env od s)
  (hn:NamesR H ts l) (hx:∀q∈l,F.X.Γ.lookup q.1=U q.2) (O:Ez F (l.map (·.2)))
  (j:K_ F.X.nm H vs=U ag\/K_ F.X.nm H vs=U (U (l.map (·.1))))
  (tv:∀{Q:aA->aw->Prop},(∀t y D s1 av',Nx W s s1->Av av' s1->(∀b,fF F B env od b->av' b)->(∀b,av' b->fF F B env od b\/s.heap.get? b=ag)->PR W F av' s.heap s1.heap (l.map (·.2)) pvs y D->s1.heap.IsTuple t y.toArray->Q (.ref t) s1)->aL (aQ W.prog W.w) A (eval (.Tuple vs b p2) B.menv) Q E s)
  (hq:∀s' m,l_ W A (fF F B env od) (fF F B (iN (l.map (·.2)) pvs env) m) s s'->FR W F B (iN (l.map (·.2)) pvs env) m s'->Q .next s'):
  aL (aQ W.prog W.w) A (exec (.Assign [.Tuple H a p] (.Tuple vs b p2) η) B.menv) Q E s:=by
 obtain⟨T,t1,t2,t3,t4,t5,t6⟩:=MB (W:=W) (A:=A) (E:=E) (menv:=B.menv) hn;have α:H.length=(l.map (·.2)).length:=t5.trans (aG _).symm;have hw:=λ{q} (h:K_ F.X.nm H vs=U q)=>US (env:=B.menv) (a:=a) (c:=b) (b:=p) (d:=p2) r.er.kind<|r.er.names▸h;have nm:=λ{s1:aw} {av' y D} β T O hT I L h3 h4 h5 h6 h7=>r.names (A:=A) (E:=E) (T:=T) (s1:=s1) (av':=av') (us:=y) (ls:=D) (vs:=pvs) (js:=l.map (·.2)) (Q:=λ_ s=>Q .next s) FO BO β O hT I L h3 h4 h5 h6 h7 λs2 m mv fr=>hq s2 m mv fr;clear hn hq;rcases j with j|j
 ·refine Assign_Tuple (tv λt y D s1 av' u ha I L z k=> ?_) yr<|hw j;refine uD hA.handled t4 k (α.trans<|z.len.1.trans z.len.2) u.st λs2 g=> ?_;have:=nm af T O t1 (λt k=>hx _ (t6 t k).1) (λt k=>(t6 t k).2) I L (u.trans g) (ha.nx g u.st)<|z.nx g u.st;rw[t3]at this;exact this
 ·refine Assign_Tuple_swapped (tv λt y D s1 av' u ha I L z k=> ?_) yr<|hw j;have γ:(l.map (·.1)).length=y.toArray.size:=(aG _).trans ((aG (·.2)).symm.trans<|(z.len.1.trans z.len.2).trans (aO ..).symm);refine rP γ ?_;refine wpAny_unpackItems_tuple hA.handled k λh' δ=> ?_;have g:Nx W s1 {s1 with heap:=h'}:=(Nx.refl u.st).keeps λb o e=>δ b o (c6<|dY e) e;have:=nm ah (T.map λt=>⟨t.x,t.i,λv=>bindName B.menv t.x v⟩) O (rP bU t1) (λt k=>let⟨t',M,q⟩:=bZ.mp k;q▸hx _ (t6 t' M).1) (λt k v s Q hs=>let⟨t',M,q⟩:=bZ.mp k;by subst q;exact wpAny_bindName hs) I L (u.trans g) (ha.nx g u.st)<|z.nx g u.st;rw[bU]at this;exact rP i8 <| rS t2 <| rP bU this
def I4(L:lG F)(M:kF W F B)(K:KS W N fa k n)(O:Rm n A)(r:FR W F B env od s)
  (i:namesOf o ts=U g) (hx:∀q∈g,F.X.Γ.lookup q.1=U q.2) (ok:Ez F (g.map (·.2))) (t:∀j∈g.map (·.2),cY F.tw j=af) (hc:all2 (gW N f F.X) vs u=ah) (hl:vs.length<=4096)
  (x:∀(p j:Y) (c:C),(g.map (·.2))[p]? =U j->u[p]? =U c->cY F.ow j=ah->xu N 8 c=ah)
  (y:K_ F.X.nm o vs=U ag\/K_ F.X.nm o vs=U (U (g.map (·.1)))) (ev:o8 k F.ow env α u=U l) (z:uQ F.ow ts l=ah) (hb:gH.go k ts l env=U d)
  (hq:∀D m,l_ W A (fF F B env od) (fF F B d m) s D->FR W F B d m D->Q .next D):
  aL (aQ W.prog W.w) A (exec (.Assign [.Tuple o a p] (.Tuple vs b p2) β) B.menv) Q E s:=by
 have i:=MC i;refine jG (FC k i hb) λe H=> ?_;obtain rfl:=e;have hj:(g.map (·.2)).length=u.length:=(aG _).trans<|H.symm.trans<|KW ev;exact Dk L M O r i hx ok y (λh=>E4 L M K O r hc hl ev hj (λp j c v I e2 e3 e4=>⟨t j<|cP I,x p j c I e2 e4,Mz i z p j v I e3 e4⟩) h) hq
def Sb(x:lG F)(l:kF W F B)(K:KS W N fa k n)(m:Rm n A)(r:FR W F B env o s)(y:tL f (.Tuple z a p) t=U D)(H:vk F.X F.wr D)
  (I:∀j∈k7 t,cY F.ow j=af) (L:FT d=af) (M:gW N f F.X d c=ah) (O:rV k F.ow env α c=U v) (h:jZ t v env=U e)
  (hq:∀i g,l_ W A (fF F B env o) (fF F B e g) s i->FR W F B e g i->Q .next i):aL (aQ W.prog W.w) A (exec (.Assign [.Tuple z a p] d β) B.menv) Q E s:=by
 refine Assign_Tuple (pN K m M r.n.st r.av (λb h=> .inl h) (r.full x l) r.DT O λu s1 q ru _=> ?_) yr<|K9 L;exact(r.nx q).bind m.handled l y H I ru h λs2 mv fr=>hq s2 o ((l_.nC r.n.st q).trans mv) fr
end
noncomputable abbrev Cx.noU(X:Cx):Cx:=⟨X.nm,X.Γ,[]⟩
def Wr(r:cV W e X d env h):cV W e X.noU d env h:=⟨r.kind,r.glob,r.blt,r.names,r.ns,r.cel,r.inj,r.slot,λx y i j u v a b c=>nomatch c⟩
def HS:t7 [] a env=env:=by
 refine pY λi=> ?_;refine rP (lr ..) ?_;cases env[i]? with
 |none=>rfl
 |some o=>rfl
def Iz(FO:lG F)(BO:kF W F B)(K:KS W N fa k n)(hA:Rm n A)(r:FR W F B env I s)(α:F.ow=[])(hx:F.X.Γ.lookup x=U i)(β:∀q∈F.X.uq,q=i\/q=j)
  (hc:gW N f F.X e c=ah) (μ:Ta F.X.nm x px e=af) (ν:xu N 8 c=ah) (ev:k.ex (hide F.ow env) c=U (.lst xs)) (hl:A5 (env[j]?)=ah)
  (hq:∀s' δ,l_ W A (fF F B env I) (fF F B (env.set i<|U<|.lst xs) δ) s s'->FR W F B (env.set i<|U<|.lst xs) δ s'->Q .next s'):
  aL (aQ W.prog W.w) A (exec (.Assign [.Name x px] e ξ) B.menv) Q E s:=by
 have H:∀i,cY F.ow i=af:=λi=>by exact rP α J
 have ε:=qg (env:=B.menv) (x:=x) (p:=px) (v:=e) (l:=ξ.line) r.er.kind;rw[r.er.names,μ]at ε
 have π:cV W (fF F B env I) F.X B.menv env s.heap:=by have:=r.er;rw[α,HS]at this;exact this
 refine iV (K.ex hc hA r.n.st r.av r.DT ev λu s1 nx ru fr=> ?_) ε;have fu:i5 s u:=fr 8 ν;obtain⟨a,vs,rfl,na,ρ,hr⟩:=ru;have ha:s.heap.get? a=ag:=fu a J;have up:∀b,(fF F B env I b\/b=a)->fF F B env I b\/s.heap.get? b=ag:=λb D=>D.imp id λz=>by subst z;exact ha
 have σ:cV W (λb=>fF F B env I b\/b=a) F.X.noU B.menv env s1.heap:=Wr<|(π.avoid up).nx nx r.n.st
 have tg:xA F.X.noU F.wr x i:=by have:=G7 (F:=⟨F.X.noU,F.ow,F.tw,F.fr⟩) ⟨FO.inj,.inl J⟩ (x:=x) (i:=i) hx nofun;exact this
 refine mK (pv:= .pat<|a+10) BO.wo (λb D=> .inl<|.inr<|.inl D) tg.mem σ tg.get tg.uni tg.nuq (by show _=_;exact rP (W.paP ..) J) λM G ch hG hS ζ ψ g=> ?_;have γ:Cu (fF F B env I) G s1 M:=⟨ch.keep,λb D=> .inr<|.inl<|hG b D,ch.gens,ch.os⟩
 have L:M.heap.PlainList a vs.toArray:=by obtain⟨m,e⟩:=ρ;exact⟨m,ch.keep _ _ (λq=>na<|.inr<|.inl<|hG a q) e⟩
 have τ:bf W (fF F B env I) M.heap (.lst xs)<|.ref a:=by exact⟨a,vs,J,na,L,hr.chg γ⟩
 have η:∀{v:PV},(env.set i<|U<|.lst xs)[i]? =U (U v)->i<env.length/\v= .lst xs:=λ{v} h=>by
  rw[di]at h;cases e:env[i]? with
  |none=>rw[e]at h;exact nd h
  |some o=>rw[e]at h;cases h;exact⟨(cy.mp e).1,J⟩
 have pat:i<env.length->∃d,iO B.menv x=U d/\d.holds M.heap (.ref a):=λhi=>by obtain⟨d,v',l1,l2,l3⟩:=g.slot x i (.pat<|a+10) hx<|gm hi;replace l3:v'= .ref (W.pa<|a+10):=l3;rw[W.paP]at l3;exact⟨d,l1,rS l3 <| l2⟩
 have YQ:∀y m v,F.X.Γ.lookup y=U m->m≠i->env[m]? =U (U v)->∃d v',iO B.menv y=U d/\d.holds M.heap v'/\bf W (λb=>fF F B env I b\/b=a) M.heap v v':=λy m v O hm hv=>g.slot y m v O (by refine rP (a6 λz=>hm z.symm) ?_;exact hv)
 have υ:∀v,env[j]? =U (U v)->∃ws,v= .lst ws:=λv hv=>by
  rw[hv]at hl
  cases v<;>first
   |exact⟨_,J⟩
   |exact ff hl
 have two:∀y v w,F.X.Γ.lookup y=U j->j≠i->(env.set i<|U<|.lst xs)[i]? =U (U v)->env[j]? =U (U w)->XO B.menv x y M.heap/\XO B.menv y x M.heap:=λy v w O t hv hw=>by obtain⟨d,p1,p2⟩:=pat (η hv).1;obtain⟨ws,rfl⟩:=υ w hw;obtain⟨χ,v',q1,q2,q3⟩:=YQ y j _ O t hw;obtain⟨b,us,rfl,nb,D,_⟩:=q3;have ι:a≠b:=λz=>nb<|.inr z.symm;exact⟨⟨p1,q1,p2,q2,ι,L,D⟩,⟨q1,p1,q2,p2,ι.symm,D,L⟩⟩
 have eA:fF F B (env.set i<|U<|.lst xs) I=fF F B env I:=Bo λq hq=>by rw[H q]at hq;exact ff hq
 have φ:cV W (fF F B env I) F.X B.menv (env.set i<|U<|.lst xs) M.heap:=by
  refine⟨g.kind,g.glob,g.blt,g.names,g.ns,g.cel,g.inj,λy m v O hv=> ?_,λy z m q u v O hz hm κ t e1 e2=> ?_⟩
  ·by_cases q:m=i
   ·subst q;have:y=x:=FO.inj _ _ _ O hx;subst this;obtain⟨h1,rfl⟩:=η hv;obtain⟨d,p1,p2⟩:=pat h1;exact⟨d,_,p1,p2,τ⟩
   ·rw[a6 λz=>q z.symm]at hv;obtain⟨d,v',q1,q2,q3⟩:=YQ y m v O q hv;exact⟨d,v',q1,q2,q3.weak λb D=> .inl D⟩
  ·rcases β m hm with rfl|rfl
   ·have:y=x:=FO.inj _ _ _ O hx;subst this;rcases β q κ with rfl|rfl
    ·exact bI J t
    ·rw[a6 t]at e2;exact(two z u v hz (λw=>t w.symm) e1 e2).1
   ·rcases β q κ with rfl|rfl
    ·have:z=x:=FO.inj _ _ _ hz hx;subst this;rw[a6 λw=>t w.symm]at e1;exact(two y v u O t e2 e1).2
    ·exact bI J t
 refine hq M I ?_ ⟨?_,?_,λm hm=>bI hm<|rP (H m) vK,λm hm=>bI hm<|rP (H m) vK,λm q hm=>bI hm<|rP (H m) vK,?_⟩
 ·exact rP eA <| (l_.nC r.n.st nx).trans<|.w5 γ λb D _=>ζ b D
 ·exact(r.n.trans nx).chg BO.st γ (λb D=>BO.vN b<|hG b D) hS
 ·refine rP eA ?_;intro b D;have h1:=r.av.nx nx r.n.st b D;by_cases q:G b
  ·exact ζ b q
  ·cases e:s1.heap.get? b with
   |none=>exact bI e h1
   |some o=>refine rP (ch.keep b o q e) ?_;nofun
 ·exact rP eA <| rP α <| rP HS φ
section
variable {W:Wd} {g:aX->Prop} {h:fX}
def ZK(Go:nH W N fa)(EO:kU W N.ea)(K:KS W N fa k n)(hA:Rm n A)(hd:xu N 8 c=ah)(t:gW N f X e (.vz c z)=ah)(st:St W s)(B:Av g s)(er:cV W g X b env s.heap)
  (ev:eG k (fK k c) z (hide (gu z) env) []=U H)
  (fin:∀D d j,Nx W s j->s.heap.get? D=ag->j.heap.PlainList D d.toArray->ba W g j.heap H d->DF s.heap D H d->Q (.ref D) j):aL (aQ W.prog W.w) A (eval e b) Q E s:=by
 induction f using cg with
 |zero=>exact ff t
 |succ f=>refine oH (vA t) λα I sc β t=> ?_;refine cm (qJ t) λtg L hb=> ?_;refine rP (eval_ListComp ..) ?_;refine rP (L.B6 ..) ?_;refine wg (dp:=ah) (λ_=>hd) Go EO K hA L hb st B er ev λD C j nx M hC l o q=> ?_;refine dQ o λm u=>pM q λav' O q2 v=>⟨m,u,λh' x=>jG (Ey st B nx M hC l u O q2 v x) λn1 v1=>pM v λd l1 _ y=> ?_⟩;have l2:h'.PlainList D d.toArray:=l1.imp λ_ e=>x.extBut _ _ l e;have y:=y J;clear l1 O q2 v q o u x;refine rc v1 λa vs e na i r=> ?_;cases e;obtain rfl:=AS i l2;exact fin D vs _ n1 M i r y
set_option tactic.hygienic true in
def Jo:∀{c:aj PV} {j:aj aA},BS c=ah->ba W g h c j->∃(d:aj<|aj PV) (f:aj aX),c=d.map PV.lst/\j=f.map ek/\f.length=d.length/\ ∀(av':aX->Prop) (i:Y) (b:aX) (x:aj PV),f[i]? =U b->d[i]? =U x->∃zs:aj aA,h.PlainList b zs.toArray/\ba W av' h x zs:=by
 intro c;induction c with
 |nil=>intro j _ r;exact ba.Vx r ⟨[],[],J,J,J,λav' i b x e=>nd e⟩
 |cons x c q=>
  intro j k r
  exact ba.D6 r λv B s l=>by
   have m:=(n2 k).1;refine rc (q (n2 k).2 l) λd f t u w y=> ?_;clear k l;induction x using PV.casesOn
   case lst zs=>
    refine bf.Jh s λa vs _ z A=>⟨zs::d,a::f,az _ t,az _ u,az jH w,λav' i b x n o=> ?_⟩
    induction i using cg with
    |zero=>
     cases n;cases o
     exact⟨vs,z,wu (Du m) A⟩
    |succ i=>exact y av' i b x n o
   all_goals exact ff m
def Ms{c:Type}:∀{l:aj c},(∀(i j:Y) (b:c),j<i->l[i]? =U b->l[j]? ≠U b)->l.Nodup:=by
 intro l;induction l with
 |nil=>intro _;exact Bv
 |cons a l d=>intro H;exact dH.mpr ⟨λf=>dQ (iI f) λi e=>H (i+1) 0 a (fj i) e J,d λi j b k e=>H (i+1) (j+1) b (f9 k) e⟩
inductive acG(W:Wd)(h₀ h:fX)(rs:aj PV)(D:aX):Prop
 |mk (bs:aj aX) (o:∀g,J0 W g h (.lst rs)<|D::bs) (hn:∀b∈bs,h₀.get? b=ag) (ht:∀b∈bs,h.get? b≠ag)
def Vy(A:BS l=ah)(B:h.PlainList D s.toArray)(r:ba W g h l s)(E:DF a D l s):acG W a h l D:=by
 refine rc (Jo A r) λk f H I t u=> ?_;subst H I
 have c:∀(i:Y) (b:aX),f[i]? =U b->∃x,k[i]? =U x/\(k.map PV.lst)[i]? =U (.lst x)/\(f.map ek)[i]? =U (.ref b):=λi b e=>by have v:i<k.length:=rS t <| (cy.mp e).1;exact⟨k[i],be v,by refine rP cb<|rP (be v) ?_;rfl,by refine rP cb<|rP e ?_;rfl⟩
 have d:∀(i:Y) (b:aX),f[i]? =U b->a.get? b=ag/\b≠D/\∀j:Y,j<i->f[j]? ≠U b:=λi b e=>pM (c i b e) λx w L M=>E0 (E i x b L M) λO Q d3=>⟨O,Q,λj n ej=>pM (c j b ej) λy p1 p2 p3=>d3 j y n p2 p3⟩
 refine⟨f,λav'=> .mk f B (dH.mpr ⟨λhm=>dQ (iI hm) λi e=>(d i D e).2.1 J,Ms λi j b n e=>(d i b e).2.2 j n⟩) t<|u av',λb o=>dQ (iI o) λi e=>(d i b e).1,λb o=>dQ (iI o) λi e=>pM (c i b e) λx w _ _=>cm (u g i b x e w) λzs q _=>q.elim λm e=>λz=>nd<|z.symm.trans e⟩
def K3(Go:nH W N fa)(EO:kU W N.ea)(FO:lG F)(BO:kF W F B)(K:KS W N fa k n)(hA:Rm n A)(r:FR W F B env o s)
  (c1:gW N f F.X e1 (.vz c M)=ah) (hd:xu N 8 c=ah) (c2:gW N f F.X e2 d=ah) (hi:cY F.ow i=ah) (ti:cY F.tw i=ah) (hj:cY F.ow j=af)
  (x:eG k (fK k c) M (hide (gu M)<|hide F.ow env) []=U rs) (ho:BS rs=ah) (O:k.ex (hide F.ow env) d=U w)
  (h:∀t us ls s1 av',Nx W s s1->Av av' s1->(∀b,fF F B env o b->av' b)->(∀b,av' b->fF F B env o b\/s.heap.get? b=ag)->PR W F av' s.heap s1.heap [i,j] [.lst rs,w] us ls->s1.heap.IsTuple t us.toArray->Q (.ref t) s1):
  aL (aQ W.prog W.w) A (eval (.Tuple [e1,e2] b p) B.menv) Q E s:=by
 refine CQ ?_;have hc:all2 (gW N f F.X) [e1,e2] [.vz c M,d]=ah:=W2 c1 c2;refine rP (i' hc) ?_;refine dE<|ZK Go EO K hA hd c1 r.n.st r.av r.DT x λD ys s1 v hD hp hr df=> ?_;obtain⟨L,o0,hn,ht⟩:=Vy ho hp hr df;clear df hr x c1 hd;have up:∀b,(fF F B env o b\/b∈D::L)->fF F B env o b\/s.heap.get? b=ag:=λb y=>y.imp id λz=>(aR.mp z).elim (λz=>by subst z;exact hD)<|hn b;have H:Av (λb=>fF F B env o b\/b∈D::L) s1:=λb y=>y.elim (λz=>r.av.nx v r.n.st b z) λz=>(aR.mp z).elim (λz q=>hp.elim λm e=>by subst z;exact nd<|q.symm.trans e)<|ht b;refine dE<|K.ex c2 hA v.st H ((r.DT.avoid up).nx v r.n.st) O λu s2 a ru _=>fe ⟨?_,?_⟩
 ·exact rP cS <| (by decide:(2:Y)<=16777216)
 ·have I:Nx W s2 {s2 with heap:=s2.heap.push {cls:= .type "tuple",data:= .seq [.ref D,u].toArray}}:=(Nx.refl a.st).push _;have l:=a.trans I;refine h _ [.ref D,u] [D::L,[]] _ (λb=>fF F B env o b\/b∈D::L) (v.trans l) (H.nx l v.st) (λb=> .inl) up (.own hi (λb y=>(aR.mp y).elim (λz=>by subst z;exact hD)<|hn b) (λb=> .inr) ?_<|.var hj (ru.nx I a.st) .nil) ⟨_,bQ _ J,J,0,J⟩;exact rP ti <| (fU.two<|o0 _).nx l v.st
def IB(Go:nH W N fa)(EO:kU W N.ea)(FO:lG F)(BO:kF W F B)(K:KS W N fa k n)(hA:Rm n A)(r:FR W F B env od s)
  (u:namesOf H [.v i,.v j]=U l) (m:∀q∈l,F.X.Γ.lookup q.1=U q.2) (hu:∀q∈l,q.2∉F.X.uq) (nd:(l.map (·.2)).Nodup) (I:K_ F.X.nm H [L,M]=U ag\/K_ F.X.nm H [L,M]=U (U (l.map (·.1))))
  (c1:gW N f F.X L (.vz c gs)=ah) (hd:xu N 8 c=ah) (c2:gW N f F.X M d=ah) (hi:cY F.ow i=ah) (ti:cY F.tw i=ah) (hj:cY F.ow j=af)
  (O:eG k (fK k c) gs (hide (gu gs)<|hide F.ow env) []=U D) (ho:BS D=ah) (α:k.ex (hide F.ow env) d=U w)
  (hq:∀s' o,l_ W A (fF F B env od) (fF F B ((env.set i<|U<|.lst D).set j<|U w) o) s s'->FR W F B ((env.set i<|U<|.lst D).set j<|U w) o s'->Q .next s'):
  aL (aQ W.prog W.w) A (exec (.Assign [.Tuple H a p] (.Tuple [L,M] b p2) β) B.menv) Q E s:=by
 have u:=MC u
 have e0:l.map (·.2)=[i,j]:=by cases u with|cons r=>cases r with|cons r=>cases r;rfl
 have ok:Ez F (l.map (·.2)):=⟨nd,rP e0 <| λx m y hy q1 q2=>by
  have t:∀z∈[i,j],cY F.ow z=ah->z=i:=λz hz q=>(aR.mp hz).elim id λhz=>by rw[aU.mp hz,hj]at q;exact ff q
  exact(t x m q1).trans (t y hy q2).symm,λx m=>let⟨q,hq,e⟩:=bZ.mp m;e▸hu q hq⟩
 refine Dk (pvs:=[.lst D,w]) FO BO hA r u m ok I (λh=> ?_) ?_
 ·rw[e0]at h;exact K3 Go EO FO BO K hA r c1 hd c2 hi ti hj O ho α h
 ·exact rP e0 <| hq
def fU.abw{two}{v}{l}(r:fU W g h two v l)(a:two=ah):J0 W g h v l:=by
 cases r with
 |one o=>exact ff a
 |two o=>exact o
def J0.upd{m:aj<|aj PV}{a b:aX}{d:aj aX}{i:Y}{n:aj PV}{h':fX}(v:h.PlainList a (d.map ek).toArray)(nd:(a::d).Nodup)(len:d.length=m.length)
  (r:∀(i:Y) (b:aX) (x:aj PV),d[i]? =U b->m[i]? =U x->∃f:aj aA,h.PlainList b f.toArray/\ba W g h x f)
  (k:d[i]? =U b) (t:gk b h h') (w:∀p u,ba W g h p u->ba W g h' p u) (o:∃f:aj aA,h'.PlainList b f.toArray/\ba W g h' n f):J0 W g h' (.lst<|(m.set i n).map PV.lst)<|a::d:=by
 have y:=cP k;refine .mk d (v.imp λ_ e=>t.extBut _ _ (λz=>(dH.mp nd).1<|z▸y) e) nd (len.trans (dr ..).symm) λj c x s l=> ?_;by_cases q:i=j
 ·subst q;obtain rfl:=sm<|k.symm.trans s;rw[di]at l;refine cm (eJ.mp l) λ_ _ e=> ?_;obtain rfl:n=x:=e;exact o
 ·rw[a6 q]at l;refine cm (r j c x s l) λf A B=>⟨f,A.imp λ_ e=>t.extBut _ _ (λz=> ?_) e,w _ _ B⟩;subst z;exact q<|(List.getElem?_inj (cy.mp k).1 (dH.mp nd).2).mp<|k.trans s.symm
def QQ(N:Nm)(f:Y)(F:Fx)(e:Expr)(i:Y)(c d:C):aB:=jO af e λo b=>jO af o λa j=>j' af a λx=>cY F.ow i&&(cY F.tw i&&(JF (F.X.Γ.lookup x) i&&(fz x&&(gW N f F.X j c&&gW N f F.X b d))))
inductive aah(xs:aj<|aj PV)(v v1:PV)(p0:PV):PV->PV->Prop
 |mk (i j:Z) (zs:aj PV) (h0:0<=i) (e:xs[i.toNat]? =U zs) (hp:p0= .lst zs) (j0:0<=j) (j1:j<zs.length) (j2:lV j=ah) (e1:v1= .lst ((xs.set i.toNat<|zs.set j.toNat v).map PV.lst)) (bs:∀bs:aj aX,bs.length=xs.length->∃b,bs[i.toNat]? =U b/\mH (.lst<|bs.map λb=> .pat<|b+10) (.int i)=U (.pat<|b+10)):aah xs v v1 p0 (.int i)<|.int j
set_option tactic.hygienic true in
def LJ(e:mH (.lst<|k.map PV.lst) x=U l)(c:mM l y v=U u)(d:mM (.lst<|k.map PV.lst) x u=U w):aah k v w l x y:=by
 induction x using PV.casesOn
 case int i=>
  refine jG (n8 e) λz e=>gO e λm n o=>jG (cN d) λA d=> ?_
  have q:=aq (n2 (n2 A).1).2
  have B:m=i.toNat:=by
   rcases LK n with⟨_,_,h⟩|⟨h,_,_⟩
   ·exact h
   ·exact v_ 1121070694659 q h
  subst B
  rw[cb]at o
  refine cm (eJ.mp o) λD r E=> ?_
  subst E
  induction y using PV.casesOn
  case int j=>
   refine jG (cN c) λf c=> ?_
   subst c
   refine .mk i j D q r J (aq (n2 (n2 f).1).2) (aq (n2 f).2) (n2 (n2 f).1).1 (rP List.map_set d.symm) λa s=> ?_
   have t:i.toNat<a.length:=s▸(cy.mp r).1
   refine⟨a[i.toNat],be t,?_⟩
   show wl (lV i) ((j7 i (a.map λb=>PV.pat<|b+10).length).bind λj=>(a.map λb=>PV.pat<|b+10)[j]?)=_
   refine rP (z ..)<|rP (aG ..)<|rP (s ..)<|rS (aG PV.lst ..)<|rP (n ..) ?_
   show(a.map λb=>PV.pat<|b+10)[i.toNat]? =_
   refine rP cb<|rP (be t) ?_;rfl
  all_goals exact nd c
 all_goals exact nd d
def L6:∀{a:aj aX},ba W g h (a.map λb=> .pat<|b+10)<|a.map ek:=by
 intro a;induction a with
 |nil=>exact .nil
 |cons b a c=>exact .cons (az ek (W.paP b).symm:ek b= .ref (W.pa<|b+10)) c
set_option tactic.hygienic true in
theorem DL(FO:lG F)(BO:kF W F B)(K:KS W N fa k n)(hA:Rm n A)(r:FR W F B env H s){v:PV}{u:aA}{Q:sY->aw->Prop}(hi:cY F.ow i=ah)(tw:cY F.tw i=ah)(hx:F.X.Γ.lookup x=U i)(hp:fz x=ah)
  (c1:gW N f F.X ix c=ah) (c2:gW N f F.X ie d=ah) (ru:bf W (fF F B env H) s.heap v u) (j:gH k (.w_ i c d) v env=U y)
  (hq:∀s' L,l_ W A (fF F B env H) (fF F B y L) s s'->FR W F B y L s'->Q () s'):aL (aQ W.prog W.w) A (mX (.Subscript (.Subscript (.Name x px) ix p2) ie p) B.menv u) Q E s:=by
 refine gO j λv0 M j=>gO j λxi e1 j=>gO j λyi e2 j=>gO j λp0 e3 j=>gO j λp1 O j=>gO j λv1 I j=>gO M λo0 M ι=> ?_;obtain rfl:=sm j;obtain rfl:o0=U v0:=ι;clear j;have ow:=(r.own i hi v0 M).1.abw tw;generalize ho:H i=l at ow;cases ow with
 | @mk xs a bs hl κ len rr=>
 have s2:=LJ e3 O I;clear e3 O I;cases s2 with
 |mk nI mI zs h0 e μ j0 j1 j2 I α=>
 refine cm (r.place hi M ho hx) λν l1 l2=>cm (α bs len) λb eb sb=> ?_;refine al<|cC<|Xx<|fP r.er.kind hp l1 l2<|K.ex c1 hA r.n.st r.Am (r.full FO BO) e1 λiv s1 nx ri _=> ?_;have β:bf W (λ_=>iY) s1.heap (.lst<|bs.map λb=> .pat<|b+10)<|.ref a:=vL id (fV nx r.n.st hl) L6;refine L' hA nx.st sb β (ri.weak λ_=>oF) λw s2 γ δ=> ?_;obtain rfl:w= .ref b:=(show w= .ref (W.pa _)from δ).trans<|az ek<|W.paP b;have q:=nx.trans γ;clear l1 l2 e1 c1 β δ ri nx γ α sb;refine al<|cC<|K.ex c2 hA q.st (r.Am.nx q r.n.st) ((r.full FO BO).nx q r.n.st) e2 λjv s3 ε rj _=>al<|dK<|al<|cC ?_;have o:=q.trans ε;clear e2 c2 q ε;revert hq;refine bf.uY rj λt hq=> ?_;have r1:=r.nx o;have hl:=fV o r.n.st hl;have ru:=ru.nx o r.n.st;have rr:∀(i) (b) (x),bs[i]? =U b->xs[i]? =U x->∃D:aj aA,s3.heap.PlainList b D.toArray/\ba W (fF F B env H) s3.heap x D:=λi b x q1 q2=>cm (rr i b x q1 q2) λD q3 q4=>⟨D,fV o r.n.st q3,q4.nx o r.n.st⟩;refine cm (rr _ b zs eb e) λD q1 q2=> ?_;have ζ:=q2.length;refine dQ q1 λm O=> ?_;refine J7 O j0 (by have:=tR j2;exact ft this.2<|by decide) (aO▸ζ▸j1)<|ye ?_;have η:=qv (l:=b) (·.setIfInBounds mI.toNat u) ⟨m,O⟩;have hb:b∈H i:=ho▸ .tail _ (cP eb)
 have m2:=r1.Ze (A:=A) (t:=s3.toks) (v:=v1) FO BO hi M hb (zz.lst D q1 q2).obj (md ..) (λz=>η.elim λm' I=>nd<|z.symm.trans I) λvr=>by exact rP tw <| rP ho <| rP I <| .two<|.upd hl κ len rr eb (md ..) vr ⟨D.set mI.toNat u,Bu ..▸η,vr _ _<|q2.set _ ru⟩
 exact hq _ H ((l_.nC r.n.st o).trans m2.2) m2.1
end
section
variable {P:gM->Prop}
noncomputable def k9(s:gM)(k:au Expr->aB):aB:=if q:s.ctorIdx=3 then Stmt.Return.elim (motive_2:=λ_=>aB) s q λo _=>k o else af
@[elab_as_elim] def nM(h:k9 s k=ah)(c:∀o p,k o=ah->P (.Return o p)):P s:=(dT h).elim λq _=>Stmt.Return.elim (motive_2:=λs=>k9 s k=ah->P s) s q (λo p h=>c o p h) h
noncomputable def mL(s:gM)(k:aj Expr->Expr->aB):aB:=if q:s.ctorIdx=5 then Stmt.Assign.elim (motive_2:=λ_=>aB) s q λa v _=>k a v else af
@[elab_as_elim] def lU(h:mL s k=ah)(c:∀a v p,k a v=ah->P (.Assign a v p)):P s:=(dT h).elim λq _=>Stmt.Assign.elim (motive_2:=λs=>mL s k=ah->P s) s q (λa v p h=>c a v p h) h
noncomputable def rB(s:gM)(k:Expr->dU->Expr->aB):aB:=if q:s.ctorIdx=7 then Stmt.AugAssign.elim (motive_2:=λ_=>aB) s q λt o v _=>k t o v else af
@[elab_as_elim] def BB(h:rB s k=ah)(c:∀t o v p,k t o v=ah->P (.AugAssign t o v p)):P s:=(dT h).elim λq _=>Stmt.AugAssign.elim (motive_2:=λs=>rB s k=ah->P s) s q (λt o v p h=>c t o v p h) h
noncomputable def Ls(s:gM)(k:Expr->Expr->aj gM->aj gM->aB):aB:=if q:s.ctorIdx=9 then Stmt.For.elim (motive_2:=λ_=>aB) s q λt a b c _=>k t a b c else af
@[elab_as_elim] def U1(h:Ls s k=ah)(c:∀t a b d p,k t a b d=ah->P (.For t a b d p)):P s:=(dT h).elim λq _=>Stmt.For.elim (motive_2:=λs=>Ls s k=ah->P s) s q (λt a b d p h=>c t a b d p h) h
noncomputable def BC(s:gM)(k:Expr->aj gM->aj gM->aB):aB:=if q:s.ctorIdx=11 then Stmt.While.elim (motive_2:=λ_=>aB) s q λt b a _=>k t b a else af
@[elab_as_elim] def Lq(h:BC s k=ah)(c:∀t b a p,k t b a=ah->P (.While t b a p)):P s:=(dT h).elim λq _=>Stmt.While.elim (motive_2:=λs=>BC s k=ah->P s) s q (λt b a p h=>c t b a p h) h
noncomputable def PW(s:gM)(k:Expr->aj gM->aj gM->aB):aB:=if q:s.ctorIdx=12 then Stmt.If.elim (motive_2:=λ_=>aB) s q λt a b _=>k t a b else af
@[elab_as_elim] def Ha(h:PW s k=ah)(c:∀t a b p,k t a b=ah->P (.If t a b p)):P s:=(dT h).elim λq _=>Stmt.If.elim (motive_2:=λs=>PW s k=ah->P s) s q (λt a b p h=>c t a b p h) h
noncomputable def vU(s:gM)(k:Expr->aB):aB:=if q:s.ctorIdx=24 then Stmt.Expr.elim (motive_2:=λ_=>aB) s q λe _=>k e else af
@[elab_as_elim] def xO(h:vU s k=ah)(c:∀e p,k e=ah->P (.Expr e p)):P s:=(dT h).elim λq _=>Stmt.Expr.elim (motive_2:=λs=>vU s k=ah->P s) s q (λe p h=>c e p h) h
end
noncomputable def sy(e:Expr)(k:a7->pJ->aB):aB:=if q:e.ctorIdx=23 then nJ (motive_1:=λ_=>aB) e q k else af
@[elab_as_elim] def rJ{P:Expr->Prop}{e}{k:a7->pJ->aB}(h:sy e k=ah)(c:∀x p,k x p=ah->P (.Name x p)):P e:=(dT h).elim λq _=>nJ (motive_1:=λe=>sy e k=ah->P e) e q (λx p h=>c x p h) h
noncomputable def yI(e:Expr)(k:aj Expr->Y->pJ->aB):aB:=if q:e.ctorIdx=25 then mG (motive_1:=λ_=>aB) e q k else af
set_option tactic.hygienic true in
@[elab_as_elim] def I_{P:Expr->Prop}{e}{k:aj Expr->Y->pJ->aB}(h:yI e k=ah)(c:∀a n p,k a n p=ah->P (.Tuple a n p)):P e:=(dT h).elim λq _=>mG (motive_1:=λe=>yI e k=ah->P e) e q (λx n p h=>c x n p h) h
set_option tactic.hygienic true in
mutual
noncomputable def O4(t:TT):au T:=match t with
 | .v i=>U<|.v i
 | .tup ts=>(O4.go ts).bind λl=>U<|.tup l
 |_=>ag
noncomputable def O4.go(ts:aj TT):au<|aj T:=match ts with
 |[]=>U []
 |t::ts=>(O4 t).bind λa=>(O4.go ts).bind λl=>U<|a::l
end
set_option tactic.hygienic true in
mutual
theorem C0:∀{t:TT} {u:T} {v:PV} {env:Env},O4 t=U u->gH k t v env=jZ u v env
 | .v i,u,v,env,h=>rS (sm (show U (T.v i)=U u from h)) <| J
 | .tup ts,u,v,env,h=>gO (show(O4.go ts).bind (λl=>U<|T.tup l)=U u from h) λl h1 h2=>rS (sm h2) <| by
  induction v using PV.casesOn;case tup xs=>exact AH h1
  all_goals rfl
 | .w_ _ _ _,_,_,_,h=>nd h
theorem AH:∀{ts:aj TT} {us:aj T} {vs:aj PV} {env:Env},O4.go ts=U us->gH.go k ts vs env=jZ.go us vs env
 |[],us,vs,env,h=>by obtain rfl:=sm (show U []=U us from h);induction vs using aE<;>rfl
 |t::ts,us,vs,env,h=>gO (show(O4 t).bind (λa=>(O4.go ts).bind λl=>U<|a::l)=U us from h) λa h1 h=>gO h λl h2 h=>rS (sm h) <| by
  induction vs using aE with
  |nil=>rfl
  |cons v vs=>exact(az (λo=>jf o λe=>gH.go k ts vs e)<|C0 h1).trans<|az (jf<|jZ a v env)<|funext λe=>AH h2
end
noncomputable def Yl(F:Fx)(a:aj<|a7 × Y):aB:=a.all λp=>JF (F.X.Γ.lookup p.1) p.2&& !(cY F.X.uq p.2)
noncomputable def Vs(F:Fx)(a:aj Y):aB:=a.all λi=>a.all λj=> !(cY F.ow i)||(!(cY F.ow j)||aF i j)
noncomputable def Ny(N:Nm)(F:Fx)(a:aj Y)(b:aj C):aB:=match a with
 |[]=>ah
 |j::a=>match b with|[]=>ah|c::b=>(!(cY F.ow j)||xu N 8 c)&&Ny N F a b
noncomputable def swB(l:aj a7)(o:au<|au<|aj a7):aB:=o.any λo=>match o with|none=>ah|some m=>decide (m=l)
noncomputable def aac(o:dU):aB:=decide (o= .Add)||(decide (o= .Sub)||(decide (o= .LShift)||decide (o= .RShift)))
def TL(N:Nm)(F:Fx)(c:C):aB:=xu N 8 c||match c with| .var i=>cY F.ow i&& !(cY F.tw i)|_=>af
def Ub(N:Nm)(F:Fx)(b vs:aj Expr)(c:aj TT)(d:aj C):aB:=(namesOf b c).any λa=>Yl F a&&(we (a.map (·.2))&&(Vs F (a.map (·.2))&&((a.all λp=> !(cY F.tw p.2))&&(aF b.length vs.length&&(Ny N F (a.map (·.2)) d&&swB (a.map (·.1)) (K_ F.X.nm b vs))))))
set_option tactic.hygienic true in
def Uc(N:Nm)(f:Y)(F:Fx)(t:TT)(b e:Expr)(c:C):aB:=match t with
 | .v i=>sy b λx g=>JF (F.X.Γ.lookup x) i&&(!(cY F.X.uq i)&&(!(cY F.tw i)&&(gW N f F.X e c&&((!(cY F.ow i)||xu N 8 c)&&(!(Ta F.X.nm x g e)||Ib c)))))
 | .tup h=>yI b λk a p=>(O4<|.tup h).any λt=>(tL f (.Tuple k a p) t).any λl=>Yl F l&&((k7 t).all (λj=> !(cY F.ow j))&&(!(FT e)&&gW N f F.X e c))
 | .w_ i m d=>QQ N f F b i m d&&gW N f F.X e c
def Ua(N:Nm)(f:Y)(F:Fx)(b vs:aj Expr)(i j:Y)(c:C)(h:aj G)(d:C):aB:=Qq af vs λe g=>gW N f F.X e (.vz c h)&&(gW N f F.X g d&&(xu N 8 c&&(cY F.ow i&&(cY F.tw i&&(!(cY F.ow j)&&(namesOf b [.v i,.v j]).any λa=>Yl F a&&(we (a.map (·.2))&&swB (a.map (·.1)) (K_ F.X.nm b [e,g])))))))
noncomputable def Ah(N:Nm)(f:Y)(F:Fx):Y->gM->S->aB
 |0,_,_=>af
 |d+1,st,s=>match s with
  | .asg _ t c=>mL st λh e=>Fz af h λg=>Uc N f F t g e c
  | .par _ h w=>mL st λm e=>Fz af m λg=>my af g λn _=>my af e λvs _=>all2 (gW N f F.X) vs w&&(aY vs.length 4096&&Ub N F n vs h w)
  | .aug i z c=>rB st λt o e=>j' af t λx=>decide (o=z)&&(aac z&&(JF (F.X.Γ.lookup x) i&&(fz x&&(!(cY F.X.uq i)&&(!(cY F.tw i)&&(!(cY F.ow i)&&gW N f F.X e c))))))
  | .app i _ c=>vU st λe=>Dr af e λy nm r as p=>j' af y λx=>Fz af as λe=>(nm==("append":a7))&&(aF r.endLine p.line&&(cY F.ow i&&(!(cY F.tw i)&&(JF (F.X.Γ.lookup x) i&&(fz x&&gW N f F.X e c)))))
  | .rev i=>vU st λe=>Dr af e λy nm r as p=>j' af y λx=>nq af as<|(nm==("reverse":a7))&&(aF r.endLine p.line&&(cY F.ow i&&(!(cY F.tw i)&&(JF (F.X.Γ.lookup x) i&&fz x))))
  | .A7 t a b=>PW st λk A l=>gW N f F.X k t&&(all2 (Ah N f F d) A a&&all2 (Ah N f F d) l b)
  | .FZ t u body=>Ls st λk B l v=>nq af v ((tL f k t).any λg=>Yl F g&&((k7 t).all (λj=> !(cY F.ow j))&&(D' N F.X (gW N f F.X) B u&&all2 (Ah N f F d) l body)))
  | .XF t body=>BC st λk l v=>nq af v<|gW N f F.X k t&&all2 (Ah N f F d) l body
  | .ret c=>k9 st λo=>o.any λe=>gW N f F.X e c&&(!F.fr||TL N F c)
  | .raise=>ah
  | .XG i j c=>mL st λh e=>Fz af h λg=>sy g λx D=>F.ow.isEmpty&&(JF (F.X.Γ.lookup x) i&&((F.X.uq.all λq=>aF q i||aF q j)&&(gW N f F.X e c&&(!(Ta F.X.nm x D e)&&xu N 8 c))))
  | .two i j c E d=>mL st λm e=>Fz af m λg=>my af g λn _=>my af e λvs _=>Ua N f F n vs i j c E d
def Ao(W:Wd)(F:Fx)(B:Bs)(A:cZ)(env:Env)(d:Y->aj aX)(s:aw)(o:au PV)(a:Env)(Q:zH->aw->Prop):Prop:=match o with
 |none=>∀b c,l_ W A (fF F B env d) (fF F B a c) s b->FR W F B a c b->Q .next b
 |some v=>∀u b,Nx W B.s₀ b->bf W B.bv b.heap v u->(F.fr=ah->i5 B.s₀ u)->Q (.ret u) b
def Ao.mono(e:l_ W A (fF F B env f) (fF F B a c) s s1)(p:Ao W F B A env f s o b Q):Ao W F B A a c s1 o b Q:=by
 induction o using bX with
 |none=>exact λg d m r=>p g d (e.trans m) r
 |some v=>exact p
def NR(r:cV W b X a env h):cV W av' X a [] h:=⟨r.kind,r.glob,r.blt,r.names,r.ns,r.cel,r.inj,(λx i v _ e=>by simp at e),(λx y i j u v _ _ _ _ _ e _=>by simp at e)⟩
def FR.step(h:kF W F B)(f:FR W F B y A s)(r:FR W F B env j s1)(x:Step I m s1 t)(k:∀b,I b->s.heap.get? b=ag)(c:∀b,fF F B env j b->¬I b)(g:∀b o,I b->s1.heap.get? b=U o->xg o.cls)(w:∀i,m i->s.gens.size<=i):FR W F B env j t:=by
 refine⟨r.n.step h.st x (λb a=>f.n.new h.st<|k b a) g λi d=>ab (B_ f.n)<|w i d,λb a=> ?_,λi d v l=> ?_,r.ownN,r.dst,?_⟩
 ·cases e:s1.heap.get? b with
  |none=>exact bI e<|r.av b a
  |some o=>exact λz=>nd<|z.symm.trans<|x.keep b o (c b a) e
 ·have q:=r.own i d v l;exact⟨q.1.keep (λb vs a q=>q.imp λ_ e=>x.keep _ _ a e) (λp u q=>x.RV g q) λb a=>c b<|.inr<|.inr ⟨i,d,⟨v,l⟩,a⟩,q.2⟩
 ·exact Rr (NR f.er) r.er x k g
def B3(h:cY l i=af):i∉l:=λz=>ff<|h.symm.trans<|yS.mpr z
def xL(a:lG F)(h:Yl F b=ah):vk F.X F.wr b:=λp c=>have q:=n2<|a_.mp h p c;G7 a (ib q.1) (B3<|n0 q.2)
def Ik{l:aj Y}{ow:aj Y}(h:(l.all λj=> !(cY ow j))=ah):∀j∈l,cY ow j=af:=λj a=>n0<|a_.mp h j a
section
variable {f:Y} {F:Fx} {B:Bs} {A:cZ}
def SOk(W:Wd)(N:Nm)(f:Y)(k:Kn)(F:Fx)(B:Bs)(A:cZ)(d:Y):Prop:=∀{st:gM} {s:S} {env a:Env} {o:au PV} {c:Y->aj aX} {b:aw} {Q:zH->aw->Prop} {E:aA->aw->Prop},Ah N f F d st s=ah->sx k F.ow s env=U (a,o)->FR W F B env c b->Ao W F B A env c b o a Q->aL (aQ W.prog W.w) A (exec st B.menv) Q E b
def zj(H:SOk W N f k F B A d):∀{b} {c} {env a} {o} {i:Y->aj aX} {g} {Q:zH->aw->Prop} {E:aA->aw->Prop},all2 (Ah N f F d) b c=ah->kE k F.ow c env=U (a,o)->FR W F B env i g->Ao W F B A env i g o a Q->aL (aQ W.prog W.w) A (qP b B.menv) Q E g:=by
 intro b;induction b with
 |nil=>
  intro c env a o i g Q E j h r p;induction c using aE with
  |nil=>cases h;exact iU<|p g i .refl r
  |cons _ _=>exact ff j
 |cons st b l=>
  intro c env a o i g Q E j h r p;induction c using aE with
  |nil=>exact ff j
  |cons s c=>
   refine gO (show(sx k F.ow s env).bind (λo=>match o with|(e,ag)=>kE k F.ow c e|(e,U v)=>U (e,U v))=U (a,o)from h) λx m h=> ?_;obtain⟨y,n⟩:=x;refine cz<|H (gf j).1 m r ?_;induction n using bX with
   |none=>exact λz q t u=>l (gf j).2 h u<|p.mono t
   |some v=>cases h;exact p
def qK{a b}(h:(!a||b)=ah)(q:a=ah):b=ah:=(bH.mp h).elim (λz=>tf<|q.symm.trans<|n0 z) id
def Jz:∀{a:aj Y} {b:aj C},Ny N F a b=ah->∀(p j:Y) (c:C),a[p]? =U j->b[p]? =U c->cY F.ow j=ah->xu N 8 c=ah:=by
 intro a;induction a with
 |nil=>intro _ _ p j c h _ _;exact nd h
 |cons m a l=>
  intro d;cases d with
  |nil=>intro _ p j c _ h _;exact nd h
  |cons n b=>
   intro h;intro e;cases e with
   |zero=>intro j c g i k;obtain rfl:=sm g;obtain rfl:=sm i;exact qK (n2 h).1 k
   |succ p=>intro j c g i k;exact l (n2 h).2 p j c g i k
set_option tactic.hygienic true in
def Sa(j:lG F)(z:kF W F B)(K:KS W N fa k n)(D:Rm n A){H e:Expr}{I:aB}{v:PV}{od:Y->aj aX}{Q:zH->aw->Prop} (g:Uc N f F t H e c=ah) (L:rV k F.ow env I c=U v) (M:yE F.ow t v=ah) (b1:gH k t v env=U l) (r:FR W F B env od sh) (p:Ao W F B A env od sh ag l Q):aL (aQ W.prog W.w) A (exec (.Assign [H] e β) B.menv) Q E sh:=by
 induction t using TT.casesOn with
 |v i=>refine rJ g λx px g=> ?_;have h:=n2 (n2 g).2;have m:=n2 h.2;have s:=n2 m.2;have y:=n2 s.2;obtain rfl:=sm b1;exact On j z K D r (ib (n2 g).1) (B3<|n0 h.1) (n0 m.1) s.1 (λho=>⟨qK y.1 ho,qK M ho⟩) (qK y.2) L p
 |tup ts=>refine I_ g λes a q g=> ?_;refine cm (kD g) λt ht g=> ?_;refine cm (kD g) λH O g=> ?_;have h:=n2 (n2 g).2;exact Sb j z K D r O (xL j (n2 g).1) (Ik h.1) (n0 (n2 h.2).1) (n2 h.2).2 L ((C0 ht).symm.trans b1) p
 |w_ i ic d=>have h:=n2 g;refine jb h.1 λo ie q g=>jb g λa ix q2 g=>jc g λx px g=> ?_;have m:=n2 (n2 g).2;have s:=n2 m.2;have y:=n2 s.2;have h6:=n2 y.2;refine rP (Pe _ _ _ _ _ AI) ?_;refine al<|dK<|al<|pN K D h.2 r.n.st r.av (λb hb=> .inl hb) (r.full j z) r.DT L λu s1 nx ru _=> ?_;exact al<|DL j z K D (r.nx nx) (n2 g).1 m.1 (ib s.1) y.1 h6.1 h6.2 ru b1 λs2 α mv fr=>aM<|p s2 α ((l_.nC r.n.st nx).trans mv) fr
def Vi(z:lG F)(BO:kF W F B)(K:KS W N fa k n)(hA:Rm n A){t:aB}{u:aj TT}{c:aj PV}{p0 p2 v:pJ}{D:Y->aj aX}{Q:zH->aw->Prop}
  (c1:all2 (gW N f F.X) vs H=ah) (c2:vs.length<=4096) (l:Ub N F es vs u H=ah) (e1:o8 k F.ow env t H=U c) (x:uQ F.ow u c=ah) (b1:gH.go k u c env=U d) (r:FR W F B env D I) (p:Ao W F B A env D I ag d Q):
  aL (aQ W.prog W.w) A (exec (.Assign [.Tuple es a p0] (.Tuple vs b p2) v) B.menv) Q E I:=by
 refine cm (kD l) λtg hn l=> ?_;have L:=n2 (n2 l).2;have M:=n2 L.2;have O:=n2 M.2;have h5:=n2 O.2;have h6:=n2 h5.2;have T:=xL z (n2 l).1
 have ok:Ez F (tg.map (·.2)):=⟨qz L.1,λi g j hj s y=>aJ<|qK (qK (a_.mp (a_.mp M.1 i g) j hj) s) y,λi g=>let⟨q,h,e⟩:=bZ.mp g;e▸(T q h).nuq⟩
 refine I4 z BO K hA r hn (λq h=>(T q h).get) ok (λi g=>let⟨q,h,e⟩:=bZ.mp g;e▸n0 (a_.mp O.1 q h)) c1 c2 (Jz h6.1) ?_ e1 x b1 p;refine cm (kD h6.2) λo s y=> ?_;induction o using bX with
 |none=>exact .inl s
 |some m=>exact .inr<|rS (aq y) <| s
def UM(O:nH W N fa)(EO:kU W N.ea)(v:lG F)(BO:kF W F B)(K:KS W N fa k n)(hA:Rm n A){x vs:aj Expr}{i j a b:Y}{c d:C}{g:aj G}{h:aj PV}{w:PV}{p0 p2 l:pJ}{env:Env}{y:Y->aj aX}{s:aw}{Q:zH->aw->Prop}{E:aA->aw->Prop}
  (e:Ua N f F x vs i j c g d=ah) (e1:eG k (fK k c) g (hide (gu g)<|hide F.ow env) []=U h) (e2:k.ex (hide F.ow env) d=U w) (ho:BS h=ah) (r:FR W F B env y s) (p:Ao W F B A env y s ag ((env.set i<|U<|.lst h).set j<|U w) Q):
  aL (aQ W.prog W.w) A (exec (.Assign [.Tuple x a p0] (.Tuple vs b p2) l) B.menv) Q E s:=by
 revert e;intro e;refine Mk e λx1 x2 e=> ?_;have z:=n2 (n2 e).2;have D:=n2 z.2;have H:=n2 D.2;have I:=n2 H.2;have L:=n2 I.2;refine cm (kD L.2) λtg hn t=> ?_;have T:=xL v (n2 t).1;refine IB O EO v BO K hA r hn (λq u=>(T q u).get) (λq u=>(T q u).nuq) (qz (n2 (n2 t).2).1) ?_ (n2 e).1 D.1 z.1 H.1 I.1 (n0 L.1) e1 ho e2 p;refine cm (kD (n2 (n2 t).2).2) λo M q2=> ?_;induction o using bX with
 |none=>exact .inl M
 |some m=>exact .inr<|rS (aq q2) <| M
inductive acH(W:Wd)(F:Fx)(B:Bs)(A:cZ)(k:Kn)(inv:(aX->Prop)->(aX->Prop)->aj PV->aw->Prop)(body:aj S)(t:T)(env:Env)(od:Y->aj aX)(sh:aw)(env':Env)(o:au PV)(m:Y)(s:aw):Prop
 |mk (xs:aj PV) (e:Env) (od':Y->aj aX) (I:aX->Prop) (hm:xs.length=m) (ev:iZ (λe=>kE k F.ow body e) t xs e=U (env',o)) (fr:FR W F B e od' s) (mv:l_ W A (fF F B env od) (fF F B e od') sh s) (iv:inv (fF F B e od') I xs s) (dis:∀b,fF F B e od' b->¬I b) (hF:∀b,I b->sh.heap.get? b=ag)
def V0(BO:kF W F B)(hA:Rm n A)(ih:SOk W N f k F B A d){te}{t}{body}{o}{D s2}{I0:aX->Prop}{L:(aX->Prop)->(aX->Prop)->aj PV->aw->Prop}{Q:zH->aw->Prop}{X:aA->aw->Prop}
  (η:tL f te t=U tg) (ok:vk F.X F.wr tg) (ι:∀j∈k7 t,cY F.ow j=af) (c4:all2 (Ah N f F d) sb body=ah) (h:iZ (λe=>kE k F.ow body e) t a env=U (E,o)) (r:FR W F B env od D) (p:Ao W F B A env od D o E Q)
  (nx:Nx W D s2) (g:Fam W A I GI L) (M:L (fF F B env od) I0 a s2) (l:∀b,I0 b->D.heap.get? b=ag) (hG:∀i,GI i->D.gens.size<=i):
  kW (aQ W.prog W.w) A (.forLoop te (.ref I) sb [] B.menv) (λr s'=>match r with| .ok f=>Q f s'| .error x=>X x s') s2:=by
 refine codeAny_forLoop_any (acH W F B A k L body t env od D E o) (λm s lp=> ?_) a.length ⟨a,env,od,I0,J,h,r.nx nx,.nC r.n.st nx,M,λb H O=>r.av b H<|l b O,l⟩
 clear M l h nx;obtain⟨xs,e,β,I',hm,h,fr,mv,M,u,l⟩:=lp;have odd:∀b o,I' b->s.heap.get? b=U o->xg o.cls:=λb o H e=>(g.it _).odd M H e;induction xs using aE with
 |nil=>cases h;exact(g.it _).done M fr.n.st λs3 c=>iU<|p s3 β (mv.step c l odd hG)<|FR.step BO r fr c l u odd hG
 |cons x xs=>
  refine gO h λeb b1 h=>gO h λy b2 h=> ?_;obtain⟨e3,o3⟩:=y;refine(g.it _).item M fr.n.st fr.av λv s3 I3 c α rv γ=>(g.it _).go γ ?_;have κ:=mv.step c l odd hG
  have μ:∀b,I3 b->D.heap.get? b=ag:=λb H=>(α b H).elim (l b) λq=>by
   cases e:D.heap.get? b with
   |none=>rfl
   |some o=>exact bI q<|mv.lv b λz=>nd<|z.symm.trans e
  have δ:∀b,fF F B e β b->¬I3 b:=λb H O=>(α b O).elim (u b H)<|fr.av b H;have ν:=FR.step BO r fr c l u odd hG;have ξ:xs.length<m:=rS hm <| io _;clear odd l u M mv fr α c;refine ν.bind hA.handled BO η ok ι rv b1 λs4 ε π=>zj ih c4 b2 π ?_;induction o3 using bX with
  |none=>intro s5 ρ ζ σ;have q:=(ε.trans ζ).itr g γ δ;exact⟨xs.length,ξ,xs,e3,ρ,I3,J,h,σ,κ.trans<|ε.trans ζ,q.1,q.2,μ⟩
  |some w=>cases h;exact p
def UF(O:lG F)(BO:kF W F B)(K:KS W N fa k n)(hA:Rm n A)(ih:SOk W N f k F B A d){I:aj gM}{body:aj S}{o:au PV}{j:aw}{X:aA->aw->Prop}
  (c1:gW N f F.X te t=ah) (c2:all2 (Ah N f F d) I body=ah) {L} (a:AF (λe=>(k.ex e t).bind truth) (λe=>kE k F.ow body e) L env=U (c,o)) (r:FR W F B env s j) (p:Ao W F B A env s j o c Q):
  kW (aQ W.prog W.w) A (.whileLoop te I [] B.menv) (λr g=>match r with| .ok f=>Q f g| .error x=>X x g) j:=by
 refine codeAny_whileLoop (λm g=>∃l b,AF (λe=>(k.ex e t).bind truth) (λe=>kE k F.ow body e) m l=U (c,o)/\FR W F B l b g/\l_ W A (fF F B env s) (fF F B l b) j g) (λm g M=> ?_) L ⟨env,s,a,r,.refl⟩;clear a;refine jj M λl b a h mv=> ?_;clear M;induction m using cg with
 |zero=>exact nd a
 |succ m=>
  refine gO a λq u a=>gO u λv u e2=>K.tr c1 hA h.n.st h.Am (h.full O BO) u e2 λs1 z=> ?_;have i:=mv.trans<|.nC h.n.st z;induction q using dC with
  |false=>cases a;exact iU<|p s1 b i<|h.nx z
  |true=>
   refine gO a λy b2 a=> ?_;obtain⟨e3,o3⟩:=y;refine zj ih c2 b2 (h.nx z) ?_;induction o3 using bX with
   |none=>exact λs5 D E H=>⟨m,io _,e3,D,a,H,i.trans E⟩
   |some w=>cases a;exact p
def U9(M:lG F)(o:kF W F B)(K:KS W N fa k n)(O:Rm n A){e:Expr}{v:PV}{env:Env}{s:aw}{E:aA->aw->Prop}
  (c1:gW N f F.X e c=ah) (c2:(!F.fr||TL N F c)=ah) (t:k.ex env c=U v) (r:FR W F B env od s) (p:∀u y,Nx W B.s₀ y->bf W B.bv y.heap v u->(F.fr=ah->i5 B.s₀ u)->Q (.ret u) y):
  aL (aQ W.prog W.w) A (exec (.Return (U e) α) B.menv) Q E s:=by
 refine ng ?_;by_cases d:F.fr=ah
 ·refine(bH.mp<|qK c2 d).elim (λg=>K.ex c1 O r.n.st r.Am (r.full M o) t λu s1 D H fr=>p u s1 (r.n.trans D) H λ_=>(fr 8 g).back r.n o.st) λg=> ?_;clear c2;induction c using C.casesOn with
  |var i=>
   refine gO (K.va t) λo0 h I=> ?_;obtain rfl:o0=U v:=I;have j:=(n2 g).1;refine cm ((r.own i j v h).1.Qp<|n0 (n2 g).2) λa L _=> ?_;induction f using cg with
   |zero=>exact ff c1
   |succ f=>refine jc (vA c1) λx q c1=>cm (r.place j h L<|ib (n2 c1).1) λβ l1 l2=> ?_;have hN:=r.ownN i j v h a<|rP L <| mu _;have l:=(r.own i j v h).1.free (λb m=> .inl m) λb m q=>o.bN b q (r.ownN i j v h b m).1;rw[L]at l;exact fP r.er.kind (n2 c1).2 l1 l2 (p (.ref a) s r.n l λ_ b m=>by cases m;exact hN.1)
  |_=>exact ff g
 ·exact K.ex c1 O r.n.st r.Am (r.full M o) t λu s1 D H _=>p u s1 (r.n.trans D) H λz=>bI z d
def FW{a:Type}{x:au a}{r:a}(h:(match b with|true=>x|false=>ag)=U r):b=ah/\x=U r:=by
 induction b using dC
 ·exact nd h
 ·exact⟨J,h⟩
def idK{env:Env}{i:Y}{x:PV}(h:((env[i]?).bind id)=U x):env[i]? =U (U x):=gO h λo e q=>e.trans<|az U (show o=U x from q)
def Yn(Go:nH W N fa)(EO:kU W N.ea)(H:lG F)(L:kF W F B)(K:KS W N fa k n)(D:Rm n A):∀d,SOk W N f k F B A d:=by
 intro d;induction d with
 |zero=>intro st s env β o od sh Q E g;exact ff g
 |succ d ih=>
  intro st s env β o od sh Q E g h r p;induction s using S.casesOn with
  |asg γ t c=>refine lU g λts e l g=>rL g λtg g=>gO h λv m h=> ?_;have q:=FW h;refine gO q.2 λe2 b1 h=> ?_;cases h;exact Sa H L K D g m q.1 b1 r p
  |par γ ts cs=>refine lU g λtl e l g=>rL g λtg g=>pQ g λes a p0 g=>pQ g λvs b p2 g=>gO h λκ m h=> ?_;have q:=FW h;refine gO q.2 λe2 b1 h=> ?_;cases h;exact Vi H L K D (n2 g).1 (aD (n2 (n2 g).2).1) (n2 (n2 g).2).2 m q.1 b1 r p
  |aug i op c=>
   refine BB g λt o e l g=>jc g λx px g=>gO h λx m h=>gO h λy e2 h=> ?_;obtain rfl:=aq (n2 g).1;have u:=n2 (n2 g).2;have M:=n2 u.2;have O:=n2 M.2;have h5:=n2 O.2;have h6:=n2 h5.2;have h7:=n2 h6.2;have δ:=(bH.mp u.1).imp aq λq=>(bH.mp q).imp aq λq=>(bH.mp q).imp aq aq;clear g;induction x using PV.casesOn with
   |int a=>induction y using PV.casesOn with
    |int b=>
     refine gO h λv e3 h=> ?_
     cases h
     exact JV H L K D r (ib M.1) O.1 (B3<|n0 h5.1) (n0 h6.1) (n0 h7.1) δ h7.2 (idK m) e2 e3 p
    |_=>exact nd h
   |_=>exact nd h
  |app i γ c=>
   refine xO g λe l g=>yG g λy nm pa as p1 g=>jc g λx px g=>rL g λe g=>gO h λz m h=>gO h λv e2 h=> ?_;obtain rfl:nm="append":=dW (n2 g).1;have u:=n2 (n2 g).2;have M:=n2 u.2;have O:=n2 M.2;have h5:=n2 O.2;have h6:=n2 h5.2;clear g;induction z using PV.casesOn with
   |lst xs=>have q:=FW h;cases q.2;exact Cn H L K D r M.1 (n0 O.1) (ib h5.1) h6.1 (aJ u.1) h6.2 (idK m) e2 (aD q.1) p
   |_=>exact nd h
  |rev i=>
   refine xO g λe l g=>yG g λy nm pa as p1 g=>jc g λx px g=>nY g λg=>gO h λz m h=> ?_;obtain rfl:nm="reverse":=dW (n2 g).1;have u:=n2 (n2 g).2;have M:=n2 u.2;have O:=n2 M.2;have h5:=n2 O.2;clear g;induction z using PV.casesOn with
   |lst xs=>have q:=FW h;cases q.2;exact z8 H L r M.1 (n0 O.1) (ib h5.1) h5.2 (aJ u.1) (idK m) (aD q.1) p
   |_=>exact nd h
  |A7 t a b=>
   refine Ha g λte sa sb l g=>gO h λv m h=>gO h λq e2 h=>SE<|K.tr (n2 g).1 D r.n.st r.Am (r.full H L) m e2 λs1 nx=> ?_;have mv:l_ W A (fF F B env od) (fF F B env od) sh s1:= .nC r.n.st nx;induction q using dC
   ·exact zj ih (n2 (n2 g).2).2 h (r.nx nx)<|p.mono mv
   ·exact zj ih (n2 (n2 g).2).1 h (r.nx nx)<|p.mono mv
  |FZ t μ body=>refine U1 g λte it sb el l g=>nY g λg=>gO h λε m h=> ?_;refine cm (kD g) λtg ζ g=> ?_;have u:=n2 (n2 g).2;refine wpAny_For (vV Go EO K D (n2 u.2).1 r.n.st r.av r.DT m λv s1 η sp=>sp _ _ λI s2 I0 GI ν ι DM up iv hF hG=> ?_) λx=>qB<|t_ (n2 u.2).1;exact V0 L D ih ζ (xL H (n2 g).1) (Ik u.1) (n2 u.2).2 h r p (η.trans ι) ⟨λav'=>DM A D.handled J J av',up⟩ iv hF hG
  |XF t body=>refine Lq g λte sb el l g=>nY g λg=> ?_;exact wpAny_While<|UF H L K D ih (n2 g).1 (n2 g).2 h r p
  |ret c=>refine nM g λe l g=>gO h λv m h=> ?_;refine cm (kD g) λe α g=> ?_;obtain rfl:=α;cases h;exact U9 H L K D (n2 g).1 (n2 g).2 m r p
  |raise=>exact nd h
  |XG i j c=>
   refine lU g λts e l g=>rL g λtg g=>rJ g λx px g=>gO h λv m h=> ?_;have u:=n2 (n2 g).2;have M:=n2 u.2;have O:=n2 M.2;have h5:=n2 O.2;induction v using PV.casesOn with
   |lst xs=>have q:=FW h;cases q.2;exact Iz H L K D r (eZ.mp (n2 g).1) (ib u.1) (λq hq=>(bH.mp<|a_.mp M.1 q hq).imp aJ aJ) O.1 (n0 h5.1) h5.2 m q.1 p
   |_=>exact nd h
  |two i j c gs d=>refine lU g λtl e l g=>rL g λtg g=>pQ g λes a p0 g=>pQ g λvs b p2 g=>gO h λrs m h=>gO h λw e2 h=> ?_;have q:=FW h;cases q.2;exact UM Go EO H L K D g m e2 q.1 r p
end
def EY{e:Type}:∀{a:aj a7} {vs:aj e} {i:Y} {x:a7} {v:e},iA a=ah->a[i]? =U x->vs[i]? =U v->(a.zip vs).lookup x=U v:=by
 intro a;induction a with
 |nil=>intro _ _ _ _ _ h _;exact nd h
 |cons n a g=>
  intro c;cases c with
  |nil=>intro _ _ _ _ _ h;exact nd h
  |cons w vs=>
   intro i x v b d f;have b:=n2 (show(!_&&_)=ah from b);refine rP vE<|rP dk ?_;cases i with
   |zero=>exact rP (show x=n from(sm d:n=x).symm) <| rP (cH ..) f
   |succ i=>exact rP (show(x==n)=af from lS.mpr λq=>jV.mp (n0 b.1) x (cP d) q) <| g b.2 d f
def Af{b:Type}(l:aj<|a7 × b){a:aj a7}:∀{vs:aj b},a.length=vs.length->(∀(i:Y) (x:a7) (v:b),a[i]? =U x->vs[i]? =U v->l.lookup x=U v)->(a.filterMap λn=>(l.lookup n).map (n, ·))=a.zip vs:=by
 induction a with
 |nil=>exact λ_ _=>rfl
 |cons n a d=>
  intro vs h c;cases vs with
  |nil=>cases h
  |cons v vs=>exact rP List.filterMap_cons <| rP (c 0 n v J J) <| az ((n,v):: ·)<|d (fO h) λi=>c<|i+1
def F5{b:Type}(l:aj<|a7 × b){a:aj a7}:(∀x∈a,(l.lookup x).isNone=af)->(a.filter λn=>(l.lookup n).isNone)=[]:=by
 induction a with
 |nil=>intro _;exact J
 |cons n a c=>intro h;exact rP Pq <| rP (h n<|.head _) <| c λx d=>h x<|.tail _ d
def oQ(t:l.params=⟨[],as,ag,[],[],ag,[]⟩)(u:l.defaults= .none)(w:iA (as.map (·.arg))=ah)(q:a.length=as.length):bindArgs l ⟨a,[]⟩=gZ ((as.map (·.arg)).zip a):=by
 have e:∀(i:Y) (x:a7) (v:aA),(as.map (·.arg))[i]? =U x->a[i]? =U v->((as.map (·.arg)).zip a).lookup x=U v:=λi x v=>EY w;have d:(as.map (·.arg)).length=a.length:=by exact rP (aG ..) <| cJ (cD q.symm)<|cD q
 have all:∀x∈as.map (·.arg),(((as.map (·.arg)).zip a).lookup x).isNone=af:=λx y=>by
  obtain⟨i,r⟩:=iI y
  have m:i<a.length:=by have:=(cy.mp r).1;exact rS d <| this
  refine rP (e i x _ r<|be m) ?_;rfl
 have D:aaz im=gZ ag:=J;have z:decide (a.length>(as.map (·.arg)).length)=af:=by rw[jw];exact ni<|cD d.symm
 have A:=F5 _ all;induction l using FuncData.casesOn with
 |mk s E k body o globals j f=>
  obtain rfl:=t;obtain rfl:=u;refine(bA (c:=(decide (a.length>(as.map (·.arg)).length)&&ah)=ah)<|rP z nofun).trans ?_;refine(bA ?h).trans ?_
  case h=>
   show¬(!(((as.map (·.arg)).take ((as.map (·.arg)).length-(yh (0-(as.map (·.arg)).length) ([]:aj aA)).length)).filter (λn=>(((as.map (·.arg)).zip a).lookup n).isNone)).isEmpty)=ah
   refine rP (Xy ..) ?_
   show¬(!(((as.map (·.arg)).take (as.map (·.arg)).length).filter (λn=>(((as.map (·.arg)).zip a).lookup n).isNone)).isEmpty)=ah
   exact rP (i7 ..) <| rP (A ..) nofun
  generalize as.map (·.arg)=g at*;refine uz (b:=forIn ((yh (g.length-(yh (0-g.length) ([]:aj aA)).length) g).zip<|yh (0-g.length) ([]:aj aA)) (g.zip a) _ >>= λB=>gZ ((g++[]).filterMap λn=>(B.lookup n).map (n, ·))) J ?_;exact rP (Xy ..) <| rP (KE ..) <| rP (eB ..) <| az (λx=>(gZ x:r_<|aj<|a7 × aA))<|Af _ d e
def JS{d:a7->au dJ}{x}:∀{b:aj<|a7 × aA} {m:a7->au aA},(∀p∈b,p.1≠x)->SF d b m x=m x:=by
 intro b;induction b with
 |nil=>intro _ _;exact J
 |cons a r e=>
  obtain⟨n,v⟩:=a;intro m h;unfold SF;refine rP (e λp f=>h p<|.tail _ f) ?_;have c:¬x=n:=λz=>h (n,v) (.head _) z.symm;split
  ·exact bA c
  ·rfl
def JT{d:a7->au dJ}{x}:∀{b:aj<|a7 × aA} {m:a7->au aA},(∀p∈b,p.1≠x)->XX d b m x=m x:=by
 intro b;induction b with
 |nil=>intro _ _;exact J
 |cons a r e=>
  obtain⟨n,v⟩:=a;intro m h;unfold XX;refine rP (e λp f=>h p<|.tail _ f) ?_;have c:¬x=n:=λz=>h (n,v) (.head _) z.symm;split
  ·rfl
  ·exact bA c
def Dv{n}{r}(a:iA (n::r)=ah):r.any (· ==n)=af/\iA r=ah:=(n2 (show(!_&&_)=ah from a)).imp n0 id
def yL{ns:aj a7}{vs:aj aA}{i:Y}{n:a7}{r:aj a7}(a:iA (n::r)=ah):∀p∈r.zip vs,p.1≠n:=λp b e=>jV.mp (Dv a).1 _ (zV b).1<|eR.mpr e
def w6{n}{r}(a:iA (n::r)=ah):iA r=ah:=(Dv a).2
theorem Bk{b:a7->au dJ}{x:a7}{v:aA}(c:b x=U .local):∀{a:aj a7} {vs:aj aA} {m:a7->au aA} {i:Y},iA a=ah->a[i]? =U x->vs[i]? =U v->SF b (a.zip vs) m x=U v
 |[],_,_,_,_,h,_=>nd h
 |_::_,[],_,_,_,_,h=>nd h
 |n::a,w::vs,m,i,d,e,f=>by
  refine rP vE ?_;unfold SF;induction i using cg with
  |zero=>obtain rfl:n=x:=sm e;obtain rfl:w=v:=sm f;exact rP (JS<|yL (ns:=a) (i:=0) d) <| rP (bM c) <| bM J
  |succ i=>exact Bk c (w6 d) e f
theorem Bl{b:a7->au dJ}{x:a7}{v:aA}(c:b x≠U .local):∀{a:aj a7} {vs:aj aA} {m:a7->au aA} {i:Y},iA a=ah->a[i]? =U x->vs[i]? =U v->XX b (a.zip vs) m x=U v
 |[],_,_,_,_,h,_=>nd h
 |_::_,[],_,_,_,_,h=>nd h
 |n::a,w::vs,m,i,d,e,f=>by
  refine rP vE ?_;unfold XX;induction i using cg with
  |zero=>obtain rfl:n=x:=sm e;obtain rfl:w=v:=sm f;exact rP (JT<|yL (ns:=a) (i:=0) d) <| rP (bA c) <| bM J
  |succ i=>exact Bl c (w6 d) e f
def ud{x}:∀{l:aj<|a7 × dJ} {n} {acc:aj<|a7 × aX},(l.lookup x=U .cell\/(acc.lookup x).isSome=ah)->((eH n l acc).lookup x).isSome=ah:=by
 intro l;induction l with
 |nil=>intro _ _ h;exact h.elim (λz=>nomatch z) id
 |cons a r b=>
  obtain⟨y,k⟩:=a;intro n acc h;unfold eH;rw[dk]at h;split
  ·rename_i c;refine b ?_;refine rP dk ?_;cases q:x==y with
   |true=>exact .inr J
   |false=>rw[q]at h;exact h
  ·rename_i c;refine b ?_;cases q:x==y with
   |true=>rw[q]at h;refine h.elim (λz=> ?_) .inr;obtain rfl:=sm z;exact bI J c
   |false=>rw[q]at h;exact h
noncomputable def WD(a:aj<|a7 × Y):Y->aj a7->aB
 |_,[]=>ah
 |i,x::r=>JF (a.lookup x) i&&WD a (i+1) r
def N_{b:aj<|a7 × Y}{a}:∀{j i} {x},WD b j a=ah->a[i]? =U x->b.lookup x=U (j+i):=by
 induction a with
 |nil=>intro _ _ _ _ h;exact nd h
 |cons y r d=>
  intro j i x h c;have h:=n2 (show(_&&_)=ah from h);induction i using cg with
  |zero=>obtain rfl:y=x:=sm c;exact ib h.1
  |succ i=>have:=d h.2 c;refine rP this ?_;congr 1;exact cJ (cQ 7258311585)<|cQ 4490113185
def RS(N:Nm)(f:Y)(F:Fx)(a:Y)(d:Y)(b:aj a7)(c:aj gM)(body:aj S):aB:=iA b&&aF b.length a&&WD F.X.Γ 0 b&&(F.X.Γ.all λp=>CP (F.X.nm.lookup p.1) .local||CP (F.X.nm.lookup p.1) .cell)&&we (F.X.Γ.map (·.2))&&(F.X.nm.all λp=> !(p.2== .free)) &&(F.ow.all λi=>aY a i)&&(F.X.uq.all λi=>aY a i)&&(F.X.uq.isEmpty||F.ow.isEmpty)&&all2 (Ah N f F d) c body
structure XT(W:Wd)(N:Nm)(f:Y)(fa:Y->aX)(g np:Y)(ow:aj Y)(body:aj S) where
 o:Uo
 d:gR
 sts:aj gM
 F:Fx
 as:aj Arg
 dd:Y
 ho:W.h₀.get? (fa g)=U o
 hd:o.data= .func d
 hco:d.scope.isCoroutine=af
 hgen:d.scope.isGenerator=af
 hk:d.scope.kind= .function
 glob:d.globals=dB
 blt:d.builtins=jT
 clo:d.closure=[]
 dflt:d.defaults= .none
 params:d.params=⟨[],as,ag,[],[],ag,[]⟩
 stm:d.body= .stmts sts
 code:W.h₀.CodeRec d.code d.qualname
 nm:F.X.nm=d.scope.names
 how:F.ow=ow
 hfr:F.fr=N.fr g
 ck:RS N f F np dd (as.map (·.arg)) sts body=ah
structure acL(N:Nm)(f:Y)(F:Fx)(np:Y)(dd:Y)(ps:aj a7)(sts:aj gM)(body:aj S):Prop where
 nd:iA ps=ah
 len:ps.length=np
 ps:∀(i:Y) (x:a7),ps[i]? =U x->F.X.Γ.lookup x=U i
 knd:∀p∈F.X.Γ,F.X.nm.lookup p.1=U .local\/F.X.nm.lookup p.1=U .cell
 fx:lG F
 free:∀p∈F.X.nm,p.2≠ .free
 ow:∀i,cY F.ow i=ah->np<=i
 uq:∀i∈F.X.uq,np<=i
 body:all2 (Ah N f F dd) sts body=ah
def oJ{x}{i}{l:aj<|a7 × Y}(h:l.lookup x=U i):(x,i)∈l:=dZ h
def FU{a:aj<|a7 × Y}(h:(a.map (·.2)).Nodup):∀x y i,(x,i)∈a->(y,i)∈a->x=y:=by
 induction a with
 |nil=>intro x y i h;cases h
 |cons p l d=>
  intro x y i h1 h2;rw[fR,dH]at h;rcases aR.mp h1 with c|h1<;>rcases aR.mp h2 with b|h2
  ·rw[<-c]at b;exact(Prod.mk.inj b).1.symm
  ·exact bI (bZ.mpr ⟨(y,i),h2,by exact rS c J⟩) h.1
  ·exact bI (bZ.mpr ⟨(x,i),h1,by exact rS b J⟩) h.1
  ·exact d h.2 x y i h1 h2
def Ig{N}{f}{F}{j k}{l}{c}{body}(h:RS N f F j k l c body=ah):acL N f F j k l c body:=by
 have m:=n2 (show(_&&_)=ah from h);have n:=n2 m.1;have o:=n2 n.1;have q:=n2 o.1;have r:=n2 q.1;have s:=n2 r.1;have t:=n2 s.1;have u:=n2 t.1;have v:=n2 u.1;have w:=q.2;have A:=o.2;refine⟨v.1,aJ v.2,λi x e=>by have:=N_ u.2 e;exact rP (this ..)<|rP (kt ..) J,λp d=>(bH.mp<|a_.mp t.2 p d).imp lq lq,⟨λx y i a b=>FU (qz s.2) x y i (oJ a)<|oJ b,(bH.mp n.2).imp eZ.mp eZ.mp⟩,λp d z=> ?_,λi g=> ?_,λi g=> ?_,m.2⟩
 ·have:=a_.mp r.2 p d;rw[z]at this;exact ff this
 ·exact aD<|a_.mp w i<|yS.mp g
 ·exact aD<|a_.mp A i g
def args_get{as:aj PV}{nv a i:Y}{v:PV}(b:as.length=a)(h:(as.map U++bJ (nv-a) ag)[i]? =U (U v)):i<a/\as[i]? =U v:=by
 rcases jz i as.length with q|q
 ·rw[fH<|by simpa using q]at h;rw[cb]at h;obtain⟨w,e,c⟩:=eJ.mp h;obtain rfl:=sm c;exact⟨(rS b <| q),e⟩
 ·rw[List.getElem?_append_right<|by simpa using q]at h;rw[EJ]at h;split at h<;>(first|exact nd h|cases h)
section
variable {W:Wd} {N:Nm} {fa:Y->aX} {k:Kn} {n f:Y} {A:cZ} {E:aA->aw->Prop} {g nv a:Y} {m:aj Y} {h:aj S}
def Lp(I:XT W N f fa g a m h){s r:aw}(st:St W s){av:aX->Prop}(ζ:Av av s){as:aj PV}{vs:aj aA}(hl:as.length=a)(ν:vs.length=a)
  (wj:InCallC s (cG I.d s.heap.objs.size<|fa g).locals (SF (cG I.d s.heap.objs.size<|fa g).kindOf ((I.as.map (·.arg)).zip vs) λ_=>ag) (cG I.d s.heap.objs.size<|fa g).cells (XX (cG I.d s.heap.objs.size<|fa g).kindOf ((I.as.map (·.arg)).zip vs) λ_=>ag) r)
  (ξ:∀(i:Y) (v:PV) (u:aA),as[i]? =U v->vs[i]? =U u->bf W av s.heap v u):
  ∃B od,B.s₀=s/\B.bv=av/\B.menv=cG I.d s.heap.objs.size (fa g)/\kF W I.F B/\FR W I.F B (as.map U++bJ (nv-a) ag) od r:=by
 have C:=Ig I.ck;refine oV (wj.done) λh1 tk π γ=> ?_;have nx:Nx W s r:=rP π <| .of_keeps st γ;have H:∀x,(cG I.d s.heap.objs.size<|fa g).kindOf x=I.F.X.nm.lookup x:=λx=>rP I.nm J
 have β:∀x c,(cG I.d s.heap.objs.size<|fa g).cells.lookup x=U c->r.heap.get? c≠ag/\s.heap.get? c=ag:=λx c Q=>by
  refine cm (wj.cell x c Q) λo e _=> ?_;refine⟨by refine rP e ?_;nofun,?_⟩;have:s.heap.objs.size<c:=wj.above x c<|dZ Q;cases q:s.heap.get? c with
  |none=>rfl
  |some o=>exact bI (fY this<|dY q)<|e_ _
 have ρ:s.heap.get? s.heap.objs.size=ag:=eL _
 have σ:r.heap.get? s.heap.objs.size≠ag:=by refine Py (wj.toInCall.ns) λo es ep e _=> ?_;have e':r.heap.get? s.heap.objs.size=U o:=e;refine rP e' ?_;nofun
 let V:aX->Prop:=λb=>b=s.heap.objs.size\/∃x,(cG I.d s.heap.objs.size<|fa g).cells.lookup x=U b
 have η:∀b,V b->s.heap.get? b=ag:=λb L=>by
  rcases L with rfl|⟨x,t⟩
  ·exact ρ
  ·exact(β x b t).2
 have τ:∀b,V b->r.heap.get? b≠ag:=λb L=>by
  rcases L with rfl|⟨x,t⟩
  ·exact σ
  ·exact(β x b t).1
 have υ:∀x∈I.F.wr,I.F.X.nm.lookup x=U .local\/I.F.X.nm.lookup x=U .cell:=λx t=>by refine cm (bZ.mp t) λp hp δ=> ?_;obtain rfl:=δ;exact C.knd p hp
 let B:Bs:=⟨s,av,V,cG I.d s.heap.objs.size<|fa g⟩
 have BO:kF W I.F B:=⟨st,η,ζ,⟨.inl J,λx t c Q=> .inr ⟨x,Q⟩,λx t=>by have:=υ x t;rw[<-H]at this;exact this⟩⟩
 have D:∀{i v},cY I.F.ow i=ah->(as.map U++bJ (nv-a) ag:Env)[i]? =U (U v)->iY:=λM hv=>e_ _<|aV (args_get hl hv).1<|C.ow _ M;have Am:∀b,fF I.F B (as.map U++bJ (nv-a) ag) (λ_=>[]) b->av b\/V b:=λb L=>L.imp id λL=>L.elim id λ⟨i,M,⟨v,hv⟩,_⟩=>(D M hv).elim;refine⟨B,λ_=>[],J,J,J,BO,⟨nx,λb L=> ?_,λi M v hv=>(D M hv).elim,λi M v hv=>(D M hv).elim,λi j M _ _ u _ hu _=>(D M hu).elim,?_⟩⟩
 ·rcases Am b L with q|q
  ·exact λz=>ζ b q<|nx.new st z
  ·exact τ b q
 ·refine⟨I.hk,I.glob,I.blt,I.nm.symm,⟨_,wj.toInCall.ns⟩,λx t=> ?_,λx y c t hy=> ?_,λx i v t hv=> ?_,λx y i j u v t hy M hj Γ hu hv=> ?_⟩
  ·rcases t with t|t
   ·have:=ud (x:=x) (l:=I.d.scope.names) (n:=s.heap.objs.size+1) (acc:=[])<|.inl<|I.nm▸t;refine dQ (iF.mp this) λc Q=> ?_;exact⟨c,_,Q,wj.cell x c Q⟩
   ·exact(C.free (x,.free) (dZ t) J).elim
  ·exact name_of_addr wj.apart (dZ t)<|dZ hy
  ·refine cm (HU hv) λw hw χ=> ?_;obtain⟨q1,q2⟩:=args_get hl hw;have ι:i<(I.as.map (·.arg)).length:=rP C.len q1;have ψ:i<vs.length:=rP ν <| q1;have ω:=C.ps i _<|be ι;have:x=(I.as.map (·.arg))[i]:=C.fx.inj _ _ _ t ω;have κ:(I.as.map (·.arg))[i]? =U x:=rP this <| be ι;have ε:=be ψ
   have μ:∃α,iO (cG I.d s.heap.objs.size<|fa g) x=U α/\α.holds r.heap vs[i]:=by
    rcases C.knd (x,i) (oJ t)with hk|hk
    ·have O:(cG I.d s.heap.objs.size<|fa g).kindOf x=U .local:=by refine rP (H ..) ?_;exact hk
     exact⟨_,oK O,⟨_,wj.toInCall.ns,Bk O C.nd κ ε⟩⟩
    ·have O:(cG I.d s.heap.objs.size<|fa g).kindOf x=U .cell:=by refine rP (H ..) ?_;exact hk
     have:=ud (x:=x) (l:=I.d.scope.names) (n:=s.heap.objs.size+1) (acc:=[])<|.inl<|rS I.nm <| hk;refine dQ (iF.mp this) λc Q=> ?_;refine⟨_,yV O Q,?_⟩;have h3:=wj.cell x c Q;rw[Bl (by refine rP O ?_;decide) C.nd κ ε]at h3;exact h3
   refine cm (μ) λα l1 l2=> ?_;refine⟨α,_,l1,l2,?_⟩;rcases χ with⟨ho,rfl⟩|⟨_,rfl⟩
   ·exact(D ho hw).elim
   ·exact((ξ i _ _ q2 ε).avoid λb L=>(Am b L).imp id<|η b).nx nx st
  ·refine cm (HU hu) λw hw _=> ?_;have:=C.uq i M;exact(fM.mpr this (args_get hl hw).1).elim
end
structure W9(W:Wd)(N:Nm)(fa:Y->aX)(P:Y->au Fn):Prop where
 fr:∀g h,P g=U (.prim h)->N.fr g=af
 ca:∀{g:Y} {h:aj PV->au PV} {as:aj PV} {r:PV} {vs:aj aA} {A:cZ} {s:aw} {av:aX->Prop} {Q:aA->aw->Prop} {E:aA->aw->Prop},P g=U (.prim h)->h as=U r-> Rm 40 A->St W s->Av av s->ba W av s.heap as vs->(∀v' s',Nx W s s'->bf W av s'.heap r v'->Q v' s')->aL (aQ W.prog W.w) A (call (.ref<|fa g) vs) Q E s
section
variable {W:Wd} {N:Nm} {fa:Y->aX} {k:Kn} {n f:Y} {A:cZ} {E:aA->aw->Prop} {g c a:Y} {j:aj Y} {body:aj S}
def Rm.deeper(h:Rm (n+1) A)(env):Rm n<|A.deeper env:=⟨h.handled,by have:=h.depth;show A.depth+1+n+_<_;exact d9 0x23c1f91b0aa223c1f910baa2 this,by have:=h.units;exact d9 0x22582f91bac0aa222582f91ac390aaa2 this⟩
def JK(Go:nH W N fa)(EO:kU W N.ea)(K:KS W N fa k n)(M:Rm (n+1) A)(I:XT W N f fa g a j body){s:aw}(st:St W s){t:aX->Prop}(y:Av t s){as:aj PV}{vs:aj aA}{e':Env}{o:au PV}{Q:aA->aw->Prop}
  (hl:as.length=a) (l:vs.length=a) (z:∀(i:Y) (v:PV) (u:aA),as[i]? =U v->vs[i]? =U u->bf W t s.heap v u)
  (ev:kE k j body (as.map U++bJ (c-a) ag)=U (e',o)) (h:∀D e,Nx W s e->bf W t e.heap (o.getD .none) D->(N.fr g=ah->i5 s D)->Q D e):
  aL (aQ W.prog W.w) A (call (.ref<|fa g) vs) Q E s:=by
 have C:=Ig I.ck;have m:(I.as.map (·.arg)).length=vs.length:=by exact rP C.len l.symm
 refine zD<|Xi (fd:=I.d) (body:=I.sts) (by have:=M.depth;exact d9 88980807530193154 this) (st.stay _ _ I.ho) I.hd (W.T.nolimit.keeps st.stay) (I.code.keeps st.stay) I.stm (oQ I.params I.dflt C.nd (by rw[aG]at m;exact m.symm)) I.clo (λx hx=> ?_) (λO wj=> ?_) I.hco I.hgen I.hk
 ·refine dQ (iI (zV hx).1) λi hi=> ?_;have:=C.ps i _ hi;rcases C.knd _ (oJ this)with q|q
  ·exact .inl<|rS I.nm q
  ·exact .inr ⟨by exact rS I.nm <| q,ud<|.inl (by refine rS I.nm ?_;exact q)⟩
 ·refine abt (Lp (nv:=c) I st y hl l wj z) λB od b1 b2 b3 BO fr=> ?_;refine rS b3 ?_;have H:Rm n<|A.deeper B.menv:=M.deeper _;refine zj (Yn Go EO C.fx BO K H I.dd) C.body (rP I.how ev) fr ?_;induction o using bX with
  |none=>intro e α mv L;have hn:=L.n;rw[b1]at hn;exact h .none e hn (by rfl) λ_ b y=>nomatch y
  |some v=>intro u e nx rv r;rw[b1]at nx r;rw[b2]at rv;exact h u e nx rv λhf=>r<|rP I.hfr hf
def QN:KS W N fa ⟨λ_ _=>ag,λ_ _=>ag⟩ n:=⟨(λ_ _ _ _ _ e _=>by exact nd e),(λ_ _ _ _ _ e _ _=>by exact nd e),(λ_ _ _ e _ _=>by exact nd e),(λ_ _ _ _ _ _ e _=>by exact nd e),(λe=>by exact nd e)⟩
def Tx{P:Y->au Fn}(w:nH W N fa)(x:kU W N.ea)(M:vn W)(H:zA W N fa)(L:W9 W N fa P)(FI:∀g c a j body,P g=U (.code c a j body)->AB (XT W N f fa g a j body)):∀n,KS W N fa (kn P n) n:=by
 intro n;induction n with
 |zero=>exact QN
 |succ n K=>
  refine⟨λm d st l t b h=>H1 w x M H K (d.less<|iK n) m st l t b h,λm d st l t b et h=>PE w x M H K (d.less<|iK n) m st l t b et h,λ{g as r vs A s av Q E} d st l b y h=> ?_,λm z d st l t b h=>RH w x K (d.less<|iK n) m z st l t b h,λe=>by exact e⟩
  refine gO (show wF P n (kn P n) g as=U r from b) λfn B b=> ?_;induction fn using Fn.casesOn with
  |prim pf=>have O:=n8 b;exact L.ca B O.2 (d.less<|mo<|aD O.1) st l y λv' s' nx D=>h v' s' nx D λhf=>tf<|hf.symm.trans<|L.fr g pf B
  |code c a j body=>
   have q:=FW b;refine gO q.2 λo h1 h2=> ?_;obtain⟨e',o⟩:=o;obtain⟨I⟩:=FI g c a j body B;have hl:=aJ q.1;have hr:r=o.getD .none:=by induction o using bX<;>exact(sm h2).symm
   subst hr;exact JK w x K d I st l hl (rS y.length hl) (λi v u e1 e2=>getElem_zip y e2 e1) h1 h
end
noncomputable def TY:Data->au gR
 | .func f=>U f
 |_=>ag
def N1(h:TY d=U f):d= .func f:=by
 induction d using nQ with
 |func g=>exact az Data.func<|sm h
 |_=>exact nd h
noncomputable def Ia:Data->au (aj aA)
 | .fields vs=>U vs.toList
 |_=>ag
def Gg(h:Ia d=U l):d= .fields l.toArray:=by
 induction d using nQ with
 |fields g=>exact az Data.fields<|oG<|rP (sm h) J
 |_=>exact nd h
noncomputable def ZV:Data->au (eI aA)
 | .seq vs _=>U vs
 |_=>ag
def RA(h:ZV d=U l):∃n,d= .seq l n:=by
 induction d using nQ with
 |seq g n=>exact⟨n,az (Iq · n)<|sm h⟩
 |_=>exact nd h
noncomputable def KV:aA->au aX
 | .ref a=>U a
 |_=>ag
def By(h:KV v=U a):v= .ref a:=by
 induction v using lB with
 |ref b=>exact az ek<|sm h
 |_=>exact nd h
noncomputable def isT(n:o_):aA->aB
 | .type m=>m==n
 |_=>af
def M4(h:isT n v=ah):v= .type n:=by
 induction v using lB with
 |type b=>exact az cK<|dW h
 |_=>exact ff h
noncomputable def Tq:aA->aB
 | .none=>ah
 |_=>af
def Mr(h:Tq v=ah):v= .none:=by
 induction v using lB with
 |none=>rfl
 |_=>exact ff h
noncomputable def E_:FuncBody->au (aj gM)
 | .stmts s=>U s
 |_=>ag
def IM(h:E_ b=U s):b= .stmts s:=by
 induction b using FuncBody.casesOn with
 |stmts t=>exact az FuncBody.stmts<|sm h
 |_=>exact nd h
noncomputable def LV(K:uj)(x:a7)(a:aX):aB:=(nsIn K dB x).any λo=>o.any λv=>(KV v).any<|aF a
noncomputable def B5(K:uj)(x:a7):aB:=(nsIn K dB x).any (·.isNone)
noncomputable def fnOf(K:uj)(a:aX):au gR:=(K.lookup a).bind λo=>TY o.data
noncomputable def fnIn(K:uj)(a:aX):aB:=(fnOf K a).isSome
def x7{K:uj}{a:aX}{f:gR}(h:fnOf K a=U f):∃o,K.lookup a=U o/\o.data= .func f:=gO h λo e h=>⟨o,e,N1 h⟩
def S5(d:Y->aX)(v:aA)(c:PV):aB:=match v with
 | .int i _=>(match c with| .int j=>decide (i=j)|_=>af)
 | .float a _=>(match c with| .fw b=>decide (a=b)|_=>af)
 | .str s _=>(match c with| .str l=>fT s.cps.toList l|_=>af)
 | .ref a=>(match c with| .pat k=>aF a (d k)|_=>af)
 |_=>af
def ab6(K:uj)(a:Y->aX)(x:a7)(b:PV):aB:=(nsIn K dB x).any λo=>o.any λv=>S5 a v b
def KT(h:S5 W.pa v b=ah)(c:aX->Prop)(d:fX):bf W c d b v:=by
 induction v using lB with
 |int i t=>induction b using PV.casesOn with
  |int j=>exact⟨t,by exact rP (aq h) J⟩
  |_=>exact ff h
 |float i t=>induction b using PV.casesOn with
  |fw j=>exact⟨t,by exact rP (aq h) J⟩
  |_=>exact ff h
 |str i t=>induction b using PV.casesOn with
  |str j=>exact⟨t,by exact rP (qk h) J⟩
  |_=>exact ff h
 |ref a=>induction b using PV.casesOn with
  |pat k=>exact az ek<|aJ h
  |_=>exact ff h
 |_=>exact ff h
def Z_(K:uj)(a:Y->aX)(N:Nm)(fa:Y->aX):aB:=(N.gv.all λp=>ab6 K a p.1 p.2&& !(p.1==("__debug__":a7)))&&(N.fn.all λp=>LV K p.1 (fa p.2)&&fnIn K (fa p.2)&& !(p.1==("__debug__":a7)))&&(R6.all λp=>B5 K p.1)&&B5 K "reversed" &&LV K "_iter_escaped_chars" N.ea&&fnIn K N.ea
section
variable {W:Wd}
def Nq(e:nsIn W.K dB x=U (U v))(a:(x==("__debug__":a7))=af):Glob W x v:=λA E s Q env b st c d i f h=>SI c f (loadGlobal_global (rP d <| W.T.g.keeps st.stay) (mg_of W.X W.T.g e) h) a
def o5(e:B5 W.K x=ah)(a:bootBuiltins x=U v)(c:x≠"__name__")(d:(x==("__debug__":a7))=af):Glob W x v:=by refine cm (kD e) λo q e=> ?_;obtain rfl:=dF.mp e;exact λA E s Q env f st i j k l h=>SI i l (loadGlobal_builtin (rP j <| W.T.g.keeps st.stay) (ns_none_of W.X W.T.g q) (rP k <| W.T.b.keeps st.stay) ((W.T.builtins x c).trans a) h) d
def lookup_all{c:Type}{p:a7 × c->aB}{x}{a:c}:∀{l:aj<|a7 × c},l.all p=ah->l.lookup x=U a->p (x,a)=ah:=by
 intro l;induction l with
 |nil=>intro _ h;exact nomatch h
 |cons d l f=>
  obtain⟨y,b⟩:=d;intro h e;simp only[Xz,i_]at h;rw[dk]at e;generalize q:(x==y)=o at e;cases o with
  |true=>obtain rfl:=sm e;exact rP (dW q) h.1
  |false=>exact f h.2 e
def DW(e:LV W.K x a=ah)(c:(x==("__debug__":a7))=af):Glob W x<|.ref a:=by refine cm (kD e) λo q e=> ?_;refine cm (kD e) λv d e=> ?_;refine cm (kD e) λb f e=> ?_;exact rP (aJ e) <| rS (By f) <| Nq (q.trans<|az U d) c
def DY{a:aX}(e:fnIn W.K a=ah):∃o d,W.h₀.get? a=U o/\o.data= .func d:=by refine dQ (iF.mp e) λf e=> ?_;refine cm (x7 e) λo q h=> ?_;exact⟨o,f,W.X _ _ q,h⟩
theorem Qv{N:Nm}{fa:Y->aX}(h:Z_ W.K W.pa N fa=ah):nH W N fa:=by
 have g:=n2 h;have c:=n2 g.1;have d:=n2 c.1;have i:=n2 d.1;have a:=n2 i.1;refine⟨λx r e=> ?_,λx f e=> ?_,λx f e=> ?_,λx b e=> ?_,?_,DW c.2<|dcd J,DY g.2⟩
 ·have q:=n2<|lookup_all a.1 e;refine cm (kD q.1) λo j k=> ?_;refine cm (kD k) λv l m=> ?_;exact⟨v,Nq (j.trans<|az U l)<|n0 q.2,λn h=>KT m n h⟩
 ·have q:=n2<|lookup_all a.2 e;exact DW (n2 q.1).1<|n0 q.2
 ·exact DY (n2 (n2<|lookup_all a.2 e).1).2
 ·have q:=lookup_all i.2 e;revert q;refine QI e ?_;exact aC (o5 · (by decide+kernel) (dcd J) (dcd J)) (aC (o5 · (by decide+kernel) (dcd J) (dcd J)) (aC (o5 · (by decide+kernel) (dcd J) (dcd J)) (aC (o5 · (by decide+kernel) (dcd J) (dcd J)) (aC (o5 · (by decide+kernel) (dcd J) (dcd J)) (aC (o5 · (by decide+kernel) (dcd J) (dcd J)) (aC (o5 · (by decide+kernel) (dcd J) (dcd J)) (aC (o5 · (by decide+kernel) (dcd J) (dcd J)) aN)))))))
 ·exact o5 d.2 (by decide+kernel) (dcd J)<|dcd J
end
noncomputable def fdOf(K:uj)(a:aX):gR:=(fnOf K a).getD default
noncomputable def AK(d:gR):aj gM:=(E_ d.body).getD []
noncomputable def YL(d:gR):aj a7:=d.params.args.map (·.arg)
noncomputable def mkF(d:gR)(a:aj<|a7 × Y)(b ow c:aj Y)(e:aB):Fx:=⟨⟨d.scope.names,a,b⟩,ow,c,e⟩
noncomputable def xQ(p:qa):aB:=p.posonlyargs.isEmpty&&(p.vararg.isNone&&(p.kwonlyargs.isEmpty&&(p.kw_defaults.isEmpty&&(p.kwarg.isNone&&p.defaults.isEmpty))))
def tW(h:xQ p=ah):p=⟨[],p.args,ag,[],[],ag,[]⟩:=by
 induction p using Arguments.casesOn with
 |mk a b c d e f g=>have i:=n2 h;have j:=n2 i.2;have k:=n2 j.2;have l:=n2 k.2;have m:=n2 l.2;show Arguments.mk a b c d e f g=⟨[],b,ag,[],[],ag,[]⟩;exact rP ((eZ.mp i.1:a=[]))<|rP ((dF.mp j.1:c=ag))<|rP ((eZ.mp k.1:d=[]))<|rP ((eZ.mp l.1:e=[]))<|rP ((dF.mp m.1:f=ag))<|rP ((eZ.mp m.2:g=[])) J
structure aas(K:uj)(gen:aB)(fd:gR):Prop where
 co:fd.scope.isCoroutine=af
 gn:fd.scope.isGenerator=gen
 kd:fd.scope.kind= .function
 gl:fd.globals=dB
 bl:fd.builtins=jT
 cl:fd.closure=[]
 df:fd.defaults= .none
 bd:∃s,fd.body= .stmts s/\AK fd=s
 cd:codeIn K fd.code fd.qualname=ah
noncomputable def fdB(K:uj)(b:aB)(a:gR):aB:= !a.scope.isCoroutine&&(a.scope.isGenerator==b&&(decide (a.scope.kind= .function)&&(aF a.globals dB&&(aF a.builtins jT&&(a.closure.isEmpty&&(Tq a.defaults&&((E_ a.body).isSome&&codeIn K a.code a.qualname)))))))
def F7{K:uj}{a:aB}{b:gR}(h:fdB K a b=ah):aas K a b:=by have c:=n2 h;have d:=n2 c.2;have f:=n2 d.2;have g:=n2 f.2;have i:=n2 g.2;have j:=n2 i.2;have k:=n2 j.2;have l:=n2 k.2;refine dQ (iF.mp l.1) λs e=> ?_;exact⟨n0 c.1,dW d.1,aq f.1,aJ g.1,aJ i.1,eZ.mp j.1,Mr k.1,⟨s,IM e,by unfold AK;exact rP e J⟩,l.2⟩
noncomputable def Y3(K:uj)(a:aX):aB:=(fnOf K a).any λb=>xQ b.params&&fdB K af b
def V3{ow d h:aj Y}{i:aj<|a7 × Y}{body:aj S}(e:Y3 W.K (fa g)=ah)(b:j=N.fr g) (ck:RS N f (mkF (fdOf W.K<|fa g) i d ow h j) k l (YL<|fdOf W.K<|fa g) (AK<|fdOf W.K<|fa g) body=ah):AB<|XT W N f fa g k ow body:=by
 refine cm (kD e) λa q e=> ?_;have c:fdOf W.K (fa g)=a:=by unfold fdOf;exact rP q J
 rw[c]at ck;have H:=F7 (n2 e).2;refine cm (x7 q) λo m n=> ?_;refine cm H.bd λs r t=> ?_;exact⟨⟨o,a,s,mkF a i d ow h j,a.params.args,l,W.X _ _ m,n,H.co,H.gn,H.kd,H.gl,H.bl,H.cl,H.df,tW (n2 e).1,r,Xl W.X H.cd,J,J,b,rS t <| ck⟩⟩
noncomputable def Vn(a b c:aX):Y->aX
 |1=>a
 |2=>b
 |3=>c
 |k=>k-10
def ju(h:fX)(P:aX)(a:pJ)(b:a7):Prop:=h.get? P=U (po #[])\/∃c o vs t,h.get? P=U (po #[jS a.line,jS a.col,.ref c])/\h.get? c=U o/\o.cls= .type "code"/\o.data= .fields vs/\vs[1]? =U (.str b t)
def Gh(k:∀o vs,h.get? c=U o->o.cls= .type "code"->o.data= .fields vs->a.get? c=U o):Xo h c P->Xo a c P:=cX λo=>cX λvs=>cX λ_=>cX λ_=>cX λ_=>cX λ_=>cX λ_=>cX λ_=>cX λ_ q=>⟨k o vs q.1 q.2.1 q.2.2.1,q.2⟩
def xe(k:∀c o vs,h.get? c=U o->o.cls= .type "code"->o.data= .fields vs->b.get? c=U o):xl a h->xl a b:=by
 induction a with
 |nil=>exact id
 |cons q r d=>exact λz=>⟨Gh (k _) z.1,d z.2⟩
def ju.map(d:∀e,h.get? P=U (po e)->f.get? P=U (po e))(k:∀c o vs,h.get? c=U o->o.cls= .type "code"->o.data= .fields vs->f.get? c=U o):ju h P b a->ju f P b a:=Or.imp (d _)<|cX λ_=>cX λ_=>cX λ_=>cX λ_ q=>⟨d _ q.1,k _ _ _ q.2.1 q.2.2.1 q.2.2.2.1,q.2.2⟩
def ju.keep(k:∀b o,h.get? b=U o->¬zw o->f.get? b=U o):ju h P d c->ju f P d c:=ju.map (λ_ e=>k _ _ e λz=>z.elim (λa=>a.1 J) λa=>a _ J) λ_ _ _ e g i=>k _ _ e λz=>z.elim (λa=>a.2 g) λa=>a _ i
def Cj(k:∀b o,h.get? b=U o->¬zw o->d.get? b=U o):xl c h->xl c d:=xe λ_ _ _ e f g=>k _ _ e λz=>z.elim (λa=>a.2 f) λa=>a _ g
section
variable {p:kX} {K:uj} {loose:aj a7} {mean:ExcName->au aA} {mg:a7->au aA}
noncomputable def mkW(prog:kX)(w:CR)(e:aX × aX × aX)(ones:aj<|aX × pJ × a7)(f:TabsAt c d)(T:Top p loose mean mg mb d)(X:K.In d)(g:Xk K=ah):Wd where
 prog:=prog
 w:=w
 K:=K
 p:=topProg
 loose:=loose++(recsOf p).map (·.name)++(litsOf p).map (·.1)++(clssOf p loose).map (·.name)
 mean:=mean
 mg:=mg
 mb:=mb
 h₀:=ghostOf d c
 TI:=λh=>xl c h/\∀q∈ones,ju h q.1 q.2.1 q.2.2
 TB:=c.map (·.2)
 pa:=Vn e.1 e.2.1 e.2.2
 paP:=λa=>wU a 10
 T:=ghost_top f T
 X:=ghost_K f X g
 tb:=λb i=>hideAll_none _ i
 TIk:=λh l k x=>⟨Cj k x.1,λq j=>(x.2 q j).keep k⟩
def VK{T:Top p loose mean mg n a}{X:K.In a}{h:Xk K=ah}{ones:aj<|aX × pJ × a7}{s}(i:s.heap=a)(j:s.gens= #[])(k:∀q∈ones,a.get? q.1=U (po #[])):St (mkW f w l ones g T X h) s:=by subst i;refine⟨λb o e=>of_hideAll _ e,⟨.of λq d=>(g q d).1,λq d=> .inl<|k q d⟩,λb m=> ?_,.of_eq j⟩;refine cm (bZ.mp m) λq d c=> ?_;obtain rfl:=c;exact⟨_,(g q d).2⟩
def QC{l:TabsAt a c}{T:Top p loose mean mg D c}{X:K.In c}{y:Xk K=ah}{ones:aj<|aX × pJ × a7}{s m}(z:s.heap=c)(u:Nx (mkW v w A ones l T X y) s m):OldK c m.heap:=by
 subst z
 have g:∀b o,b∉a.map (·.2)->s.heap.get? b=U o->m.heap.get? b=U o:=λb o d e=>by
  rcases u.ext b o d e with q|⟨q,_⟩
  ·exact q
  ·have:(ghostOf s.heap a).get? b=U o:=ghost_ne e d;rw[show(ghostOf s.heap a).get? b=ag from q]at this;exact nd this
 have f:∀b o,b∈a.map (·.2)->s.heap.get? b=U o->isCodeTable s.heap b/\o=po #[]/\∃n,m.heap.get? b=U (po n):=λb o d e=>by refine cm (bZ.mp d) λq r h=> ?_;obtain rfl:=h;have x:=(l q r).2;rw[e]at x;exact⟨((l q r).1.tab (l q r).2).isCodeTable,me x,u.st.tabs _ d⟩
 refine⟨λb o e=> ?_,λb o e=> ?_⟩
 ·by_cases d:b∈a.map (·.2)
  ·refine E0 (f b o d e) λB i j=> ?_;obtain rfl:=i;obtain⟨n,t⟩:=j;exact .inr<|.inl ⟨B,J,#[],n,J,by exact rP Array.empty_append <| t⟩
  ·exact .inl<|g b o d e
 ·by_cases d:b∈a.map (·.2)
  ·refine E0 (f b o d e) λ_ _ k=> ?_;obtain⟨n,t⟩:=k;exact⟨_,t⟩
  ·exact⟨o,g b o d e⟩
end
def M8(a:IntsAre vs b):ba W d h (b.map .int) vs:=by
 induction a with
 |nil=>exact .nil
 |cons _ _ _ c=>exact .cons (⟨_,J⟩) c
def Te(K:uj)(N:Nm)(fa:Y->aX)(r:OH):aB:=Y3 K (fa r.g)&&(RS N 60 (mkF (fdOf K<|fa r.g) r.ctx r.uq r.ow r.tw r.fr) r.np 40 (YL<|fdOf K<|fa r.g) (AK<|fdOf K<|fa r.g) r.body&&r.fr==N.fr r.g)
def ND:∀{l},findR g l=U r->l.all p=ah->r.g=g/\p r=ah:=by
 intro l;induction l with
 |nil=>exact λe=>nd e
 |cons a l b=>
  intro e h;have h:=n2 (show(p a&&l.all p)=ah from h);replace e:(bif aF a.g g then U a else findR g l)=U r:=e;generalize q:aF a.g g=o at e;cases o with
  |true=>obtain rfl:=sm e;exact⟨aJ q,h.1⟩
  |false=>exact b e h.2
def fnP(o:au Fn):aB:=bX (motive:=λ_=>aB) o af λf=>Fn.casesOn (motive:=λ_=>aB) f (λ_ _ _ _=>af) λ_=>ah
def Fk(h:yC a b g=U (.code nv d ow body)):iY:=by
 unfold yC at h;cases q:aF a g with
 |true=>rw[q]at h;exact tf<|az fnP h
 |false=>cases c:aF b g with
  |true=>rw[q,c]at h;exact tf<|az fnP h
  |false=>rw[q,c]at h;exact nd h
def ZF(ck:O5.all (Te W.K N fa)=ah):∀g nv c ow body,progOf O5 a b g=U (.code nv c ow body)->AB (XT W N 60 fa g c ow body):=by
 intro g nv c ow body h;unfold progOf at h;generalize q:findR g O5=o at h;induction o using bX with
 |none=>exact(Fk h).elim
 |some r=>have d:=ND q ck;have e:=n2 d.2;have f:=n2 e.2;obtain rfl:=d.1;cases sm h;exact V3 e.1 (dW f.2) f.1
noncomputable def lsX(r:aj Y->(a->aj Y->S)->S):Y->aj Y->(aj a->aj Y->S)->S
 |0,c,k=>k [] c
 |n+1,c,k=>r c λx c=>lsX r n c λl=>k<|x::l
def lX(r:aj Y->(a->aj Y->S)->S)(c:aj Y)(k:aj a->aj Y->S):S:=match c with
 |n::c=>lsX r n c k
 |_=> .raise
noncomputable def pX(n:Y)(k:Y->aj Y->S)(c:aj Y):S:=match n with
 |0=> .raise
 |n+1=>k n c
def nX(c:aj Y)(k:Y->aj Y->S):S:=match c with
 |14::a::b::c=>pX (a+16*b) k c
 |15::n::c=>Yc (n+1) c λv=>pX v k
 |d::c=>k d c
 |_=> .raise
noncomputable def opX(c:aj Y)(k:dU->aj Y->S):S:=match c with
 |d::c=>match d with
  |0=>k .Add c|1=>k .Sub c|2=>k .Mult c|3=>k .Div c|4=>k .Mod c|5=>k .Pow c|6=>k .LShift c|7=>k .RShift c|8=>k .BitOr c|9=>k .BitAnd c|_=>k .FloorDiv c
 |_=> .raise
noncomputable def cmX(c:aj Y)(k:jh->aj Y->S):S:=match c with
 |d::c=>match d with
  |0=>k .Eq c|1=>k .NotEq c|2=>k .Lt c|3=>k .LtE c|4=>k .Gt c|5=>k .GtE c|6=>k .Is c|7=>k .IsNot c|8=>k .In c|_=>k .NotIn c
 |_=> .raise
noncomputable def btX(c:aj Y)(k:Kr->aj Y->S):S:=match c with
 |d::c=>match d with
  |0=>k .len c|1=>k .sum c|2=>k .max c|3=>k .min c|4=>k .range c|5=>k .list c|6=>k .int c|_=>k .divmod c
 |_=> .raise
noncomputable def mtX(c:aj Y)(k:OA->aj Y->S):S:=match c with
 |d::c=>match d with
  |0=>k .join c|1=>k .encode c|2=>k .decode c|3=>k .split c|4=>k .sub c|5=>k .m_ c|_=>k .count c
 |_=> .raise
def pvX(c:aj Y)(k:PV->aj Y->S):S:=match c with
 |d::c=>match d with
  |0=>nX c λn=>k<|.int<|dN n
  |1=>nX c λn=>k<|.fw<|dN n
  |2=>lX (λc k=>nX c λn=>k<|dN n) c λl=>k<|.str l
  |3=>lX (λc k=>nX c λn=>k<|dN n) c λl=>k<|.sJ l
  |4=>k .none c
  |5=>k (.bool af) c
  |6=>k (.bool ah) c
  |_=>nX c λn=>k<|.pat<|dN n
 |_=> .raise
noncomputable def tX:Y->aj Y->(T->aj Y->S)->S
 |f+1,d::c,k=>match d with
  |0=>nX c λi=>k<|.v<|dN i
  |_=>lX (tX f) c λl=>k<|.tup l
 |_,_,_=> .raise
section
variable (r:aj Y->(C->aj Y->S)->S)
noncomputable def scX(c:aj Y)(k:Src->aj Y->S):S:=match c with
 |d::c=>r c λx=>match d with
  |0=>k<|.of x
  |1=>k<|.rev x
  |_=>k<|.esc x
 |_=> .raise
def gX(c:aj Y)(k:G->aj Y->S):S:=tX 9 c λt c=>scX r c λs c=>lX r c λl=>k<|.mk t s l
end
noncomputable def nN:Y->aj Y->(C->aj Y->S)->S
 |f+1,d::c,k=>match d with
  |0=>nX c λi=>k<|.var<|dN i
  |1=>(match c with
   |a::c=>pX (15+a) (λi=>k<|.var<|dN i) c
   |_=> .raise)
  |2=>(match c with
   |a::c=>pX (31+a) (λi=>k<|.var<|dN i) c
   |_=> .raise)
  |3=>nX c λn=>k<|.lit<|.int<|dN n
  |4=>opX c λo c=>nN f c λx c=>nN f c λy=>k<|.bin o x y
  |5=>nN f c λx c=>nN f c λy=>k<|.sub x y
  |6=>btX c λb c=>lX (nN f) c λl=>k<|.blt b l
  |7=>lX (nN f) c λl=>k<|.lst l
  |8=>lX (nN f) c λl=>k<|.tup l
  |9=>cmX c λo c=>nN f c λx c=>nN f c λy=>k<|.cmp x [o] [y]
  |10=>nX c λn c=>lX (nN f) c λl=>k<|.call (dN n) l
  |11=>nN f c λx c=>lX (gX<|nN f) c λl=>k<|.vz x l
  |12=>nN f c λx c=>(match c with
   |d::c=>(match d with
    |0=>nN f c λy c=>nN f c λz=>k<|.xP x (U y)<|U z
    |1=>nN f c λy=>k<|.xP x (U y) ag
    |2=>nN f c λz=>k<|.xP x ag<|U z
    |_=>k (.xP x ag ag) c)
   |_=> .raise)
  |13=>pvX c λv=>k<|.lit v
  |14=>mtX c λm c=>nN f c λx c=>lX (nN f) c λl=>k<|.FF m x l
  |_=>(match c with
   |d::c=>(match d with
    |0=>nN f c λx c=>nN f c λy c=>nN f c λz=>k<|.ite x y z
    |1=>lX (nN f) c λl=>k<|.O9 .Or l
    |2=>lX (nN f) c λl=>k<|.O9 .And l
    |3=>nN f c λx=>k<|.un .USub x
    |4=>nN f c λx=>k<|.un .Invert x
    |5=>nN f c λx=>k<|.un .Not x
    |6=>pvX c λv=>k<|.TH v
    |7=>scX (nN f) c λs=>k<|.bgen s
    |8=>nN f c λx=>k<|.rdot x
    |10=>nN f c λx c=>lX cmX c λo c=>lX (nN f) c λl=>k<|.cmp x o l
    |_=>nX c λi c=>nX c λj=>k<|.dist (dN i) (dN j) af)
   |_=> .raise)
 |_,_,_=> .raise
noncomputable def Yk:Y->aj Y->(TT->aj Y->S)->S
 |f+1,d::c,k=>match d with
  |0=>nX c λi=>k<|.v<|dN i
  |1=>lX (Yk f) c λl=>k<|.tup l
  |_=>nX c λi c=>nN 99 c λx c=>nN 99 c λy=>k<|.w_ (dN i) x y
 |_,_,_=> .raise
noncomputable def YA:Y->aj Y->(S->aj Y->S)->S
 |f+1,d::c,k=>match d with
  |0=>Yk 9 c λt c=>nN 99 c λx=>k<|.asg af t x
  |1=>Yk 9 c λt c=>nN 99 c λx=>k<|.asg ah t x
  |2=>lX (Yk 9) c λt c=>lX (nN 99) c λx=>k<|.par af t x
  |3=>lX (Yk 9) c λt c=>lX (nN 99) c λx=>k<|.par ah t x
  |4=>nX c λi c=>opX c λo c=>nN 99 c λx=>k<|.aug (dN i) o x
  |5=>nX c λi c=>nN 99 c λx=>k<|.app (dN i) af x
  |6=>nX c λi c=>nN 99 c λx=>k<|.app (dN i) ah x
  |7=>nN 99 c λx c=>lX (YA f) c λa c=>lX (YA f) c λb=>k<|.A7 x a b
  |8=>tX 9 c λt c=>scX (nN 99) c λs c=>lX (YA f) c λb=>k<|.FZ t s b
  |9=>nN 99 c λx=>k<|.ret x
  |10=>nN 99 c λx c=>lX (YA f) c λa=>k<|.XF x a
  |11=>nX c λi=>k<|.rev<|dN i
  |12=>nX c λi c=>nX c λj c=>nN 99 c λx=>k<|.XG (dN i) (dN j) x
  |13=>nX c λi c=>nX c λj c=>nN 99 c λx c=>lX (gX<|nN 99) c λl c=>nN 99 c λy=>k<|.two (dN i) (dN j) x l y
  |_=>k .raise c
 |_,_,_=> .raise
def sX(n:Y):S:=dgX 9999 n λc=>YA 99 c λs _=>s
namespace L2
def Bn:aj S:=[sX 0x10100027691fa12f06f200005e14397,sX 0x132094300,sX 0x101302413614136043307,sX 0x132074400,sX 0x1340136414500,sX 0x5010944010742706022,sX 0x40706010504000749420007461a9080210,sX 0x407060105000949061a90a0210,sX 0x10137941307,sX 0x90a040806484289]
def JU:aj S:=[sX 0x50300030a706021013050306400140413501364142706022130500074097,sX 0x406024105070648414700,sX 0x20074131642037029a,sX 0x7060289]
def vg:aj S:=[sX 0x10105e200,sX 0x200022a300,sX 0x103400,sX 0x107500,sX 0x70552010602040640430a40702102301608,sX 0x5b,sX 0x205023a801,sX 0x4080289]
def Ei:aj S:=[sX 0x100024a91304f1004204f28910004f25a3020210203002971303f20289103f003f25a3020210203102971e10310097]
def Ee:aj S:=[sX 0x201000326300,sX 0x201000336400,sX 0x403004500,sX 0x403014600,sX 0x4000000000000001ff1d5034700,sX 0x1001d7001d38913040097,sX 0x40304000000000000001ff1d14146034800150603480013fe0000000000001ff1d70397,sX 0x6000301434900,sX 0x6010301434a00,sX 0x6020301434b00,sX 0x90a04010000000000001ff1d0414c001b0904000000000000001ff1d0414c00130100971a0b014c0013000097,sX 0x3ff0000000000001ff1d4018000000000001ff1dc03444c00,sX 0x8070c0389]
def Er:aj S:=[sX 0x10101010389101d20097,sX 0x201024201004143001203ff0000000000001ff1d04102430013fe0000000000001ff1d10397,sX 0x30104000000000000001ff1d2414400,sX 0x3fd5555555555556ff16f0014304038a00304038a3fd5555555555556ff16f0004304038a389]
def b_v:aj S:=[sX 0x3ff0000000000001ff1d2044200,sX 0x104018000000000001ff1d2000101424240004913fc5555555555556ff16f20297,sX 0x1010913fe0000000000001ff1d20297,sX 0x104018000000000001ff1d203fe5555555555556ff16f1400101424240004913fe5555555555556ff16f20297,sX 0x1009]
def Ed:aj S:=[sX 0x201000326300,sX 0x201000336400,sX 0x403014500,sX 0x30600,sX 0x106001d01d38913040097,sX 0x305034700,sX 0x5000301434800,sX 0x5010301434900,sX 0x5020301434a00,sX 0x80904010000000000001ff1d0414b001a0804000000000000001ff1d0414b0013010097190a014b0013000097,sX 0x3ff0000000000001ff1d4018000000000001ff1db03444b00,sX 0x6070b0389]
def Ep:aj S:=[sX 0x10202020389101d10097,sX 0x4018000000000001ff1d0024166300,sX 0x304018000000000001ff1d002414400,sX 0x103ff0000000000001ff1d142024500,sX 0x4010243ff0000000000001ff1d142024600,sX 0x403ff0000000000001ff1d1410243ff0000000000001ff1d142024700,sX 0x633044300,sX 0x1050702038910330097,sX 0x1050206038911330097,sX 0x1070205038912330097,sX 0x1020605038913330097,sX 0x1020507038914330097,sX 0x1060502038915330097]
def kr:aj S:=[sX 0x1000910023e12d997,sX 0x103100,sX 0x4d200,sX 0x107300,sX 0x104d20013400410002010000c351201019734020014d20697123e12d5009710025040218,sX 0x1010100c3510010610297,sX 0x30102d0e9]
def nu:aj S:=[sX 0x1001ca000,sX 0x103100,sX 0x1005d9103102971311422ae12d30097113014129e12d3009710023020218,sX 0x10310099]
def lu:aj S:=[sX 0x107100,sX 0x201502ae28e28e21e2de28e28e29e82d2001201da5f72000208,sX 0x109]
def Gr:aj S:=[sX 0x100ad226f2376f4e2fe2fe22d2176f4e9]
def xy:aj S:=[sX 0x1002fe2fe23d2276f4e9]
def Gw:aj S:=[sX 0x100ad226f2376f4e9]
def Et:aj S:=[sX 0x102d1717100,sX 0x1030132014141050500301050400201460303502ae12d4029e12d040404b161130004132460208,sX 0x1001059]
def Eu:aj S:=[sX 0x1031703172201022,sX 0x133f20515133f220c1010617200429e12d30090f2012000308,sX 0x133f210c9]
def Gv:aj S:=[sX 0x5023242314502324236302460023005130050300536a305020310230402423302314402434260502223005131413005131403005131439a4030203102107,sX 0x133f1812f32313203012f32404166a4441320233203af0f700,sX 0x23136041e32404166a423135011e32404166a470379]
def o9:aj S:=[sX 0x333012f310a444331012f310a44413044341e310a444130441e3104445040302042,sX 0x10740431430242706022,sX 0x103c057500791602324a083141812f3c1e390044437602324a01812f390443727c01976db0215ea5db0215ea27c0043303483a0341812f3501812f32490143437ab00121e360a04324043460a0432404602324341812f3501812f3249004343aab001239012f310a480044474043044043142380440f00c1e3a48024206324042a0902250023241460808,sX 0x8340340341e320343aa0383403441e3203437a27d00,sX 0x10d000fe016d01215ea5d01215ea27bc00,sX 0x107702303408314033703400337271724c0090f9]
def zo:aj S:=[sX 0xad22dd12da12d370000b01b01062fe12d172432d,sX 0xa090540a00055a02201501061460a08007916ae6ae64e74e62e52d1708f1e6ae6ae64e74e62e52d1701e111ea19700791232340a44402d172462e2fe2fe32d2fe2fe22d2feb2ee32d02d02d570450106190c197ad22d1803e90070110ea6ae6ae64e74e62e52d16ae6ae64e74e62e52d170112ea1e111ea2e2340440f800600501061460d01331040d0040444305d050504b102d0e04700232340a44433104004443052462e2fe22d3340443052fe12d3310443052feb2eeadd62d04040404046000001061460c0140c00055c02055b5018030051061460408,sX 0x209]
def tH:aj S:=[sX 0x63734044a403172605022,sX 0x13236010053f3242004a42354136010053f32420041423540414700,sX 0xd003215145500791132150328111321525a1901c024d080b0a40428211980901061931f7110170d08024b0042404c02425a11e007080c0242470802423405444210e00fe0221323a0a414235433800fe340a404442324130424a02354146024d0023807340a4044423241314138014190c116803054242c0b02207080245e2080202423548000544422a2a090227131004132460808,sX 0x509]
def rY:aj S:=[sX 0x103300,sX 0x503004300013604051061413034313601055490f20555024500113604051064971401061460608135003000408,sX 0x309]
def Gs:aj S:=[sX 0x33235313431333232ce344d2f373b703de3200c020e0163a3541244b2201022,sX 0x10b3146021e010b31010622346022e0132105b1162220504b300,sX 0x23530330544a42304400,sX 0x40113ea500,sX 0x23e12d1723e12d2723e5de22d5ce12d2723e5de5ce32d270723e2ae23e5de23e52d275de5de22d3de12d275de5de3de32d270723e29e23e32d272ae5de22d172ae5de22d2767600,sX 0x1050106146023e01134023240442033050444b700,sX 0x1050106146024e01335213305044423e2ae23e5de23e52d23e29e23e32d02d375b800,sX 0x1050106146025e01627052362705a4062505c628052362705a4262505c0404b900,sX 0x1050106146026e016372233050444605ba00,sX 0x1050106146027e0123820330504445de12d2482705182505c04bb00,sX 0x1050106146028e0192b050392a055929050404bc00,sX 0x1050106146029e01a2b0515613a2a055a27052a2505c1560404bd00,sX 0x1002d17c00402ae01b21ca27fb0fe00,sX 0x105d9100717d00402be010c210614602ce01d2c251313d2042c2c102d0e1061428bb01197,sX 0x10133f201c02de012ae12d29e12d272fe0891e202fe02ee02112fe0b114eab10e00,sX 0x50106233054411e00,sX 0x102d21c0529e2ae22d0427c021c0529e12d0417040412e00,sX 0x102d2ae28e28e21e2de28e28e29e82d27c02ae28e28e21e2de28e28e29e82d17040431156214e013e022,sX 0x4110fea16e15ec,sX 0x6110fea15e16ec,sX 0x105d9115e16e9f31515137417161371921f7,sX 0x1040232430e0246031e00402324146030e0231e030e028b17e00,sX 0x105d910733e021115532e02111550933e032e0021505c1da79181033e032e021113b197,sX 0x1330540216ea2330511217ea219e018e022,sX 0x105d9107a109011034e010402324146035e0135e0134e06e13042fe12d24bb911921f7,sX 0x29e3233054404040730473030c11640330433030c11624545e041ae00,sX 0xb140730473030c23ab140330433030c23a21ce01be022,sX 0x23a303305a44423241314235303305a44423241314271de00,sX 0x1330513e15b140d1518ea2330503e15b140c1518ea271ee00,sX 0x10330513e1503e1524b140d1c124518ea1fe00,sX 0x105d910217f10407890733327036e01040146037e0137e0b124235437e036e00430524b116bd1c1271921f7,sX 0x40025f1a191319ea099]
noncomputable def zn(l:aj a7):aj<|a7 × Y:=l.zipIdx
def O5:aj OH:=[
 ⟨0,11,3,[],[],af,zn ["a","b","n","pad","half_n","mask","b1","b2","q1","r","q2"],[],Bn⟩,
 ⟨1,8,6,[],[],af,zn ["a12","a3","b","b1","b2","n","q","r"],[],JU⟩,
 ⟨4,9,2,[5],[],af,zn ["a","b","n","a_digits","r","q_digits","a_digit","q_digit","q"],[],vg⟩,
 ⟨5,4,2,[],[],af,zn ["a","b","q","r"],[],Ei⟩,
 ⟨6,13,3,[],[],af,zn ["r","g","b","maxc","minc","sumc","rangec","l","s","rc","gc","bc","h"],[],Ee⟩,
 ⟨7,5,3,[],[],af,zn ["h","l","s","m2","m1"],[],Er⟩,
 ⟨8,3,3,[],[],af,zn ["m1","m2","hue"],[],b_v⟩,
 ⟨9,12,3,[],[],af,zn ["r","g","b","maxc","minc","rangec","v","s","rc","gc","bc","h"],[],Ed⟩,
 ⟨10,8,3,[],[],af,zn ["h","s","v","i","f","p","q","t"],[],Ep⟩,
 ⟨12,6,1,[3],[],af,zn ["addr","start","open_pos","result","pos","ch"],[],kr⟩,
 ⟨13,4,1,[],[],af,zn ["addr","opens","pos","ch"],[],nu⟩,
 ⟨14,3,1,[1],[],ah,zn ["email_header_fields","accepted_values","v"],[],lu⟩,
 ⟨15,1,1,[],[],af,[("data",0)],[],Gr⟩,
 ⟨16,1,1,[],[],af,[("bindata",0)],[],xy⟩,
 ⟨17,1,1,[],[],af,[("data",0)],[],Gw⟩,
 ⟨18,6,1,[1],[],af,zn ["n","nests","size"],[],Et⟩,
 ⟨19,4,1,[1],[],af,zn ["units","homes","within","unit"],[],Eu⟩,
 ⟨20,8,2,[],[],af,zn ["colour","turned","hue","share","value","light","spread","place"],[],Gv⟩,
 ⟨21,15,2,[7],[],af,zn ["n","heap","base","share","depth","turns","mass","seen","gap","place","light","colour","told","greys"],[],o9⟩,
 ⟨22,14,2,[2],[2],af,zn ["homes","turn","dots","ends","gap","rows","tail","text","sent","parts","r"],[],zo⟩,
 ⟨23,17,5,[5],[],af,zn ["number","n","width","sign","heap","weights","great","whole","k","figures","bits","figure","other","high","rest","divisor","told"],[],tH⟩,
 ⟨24,7,3,[],[],af,zn ["dots","seen","weights","total","row","product","gap"],[],rY⟩,
 ⟨25,55,1,[],[],af,zn ["script","numbers","own","heaps","n","rows","kinds","places","names","heads","picks","rests","fields","units","told","homes","pick","texts","given","due","kept","again","pairs","dots","palette","width","one","two","signs","weights","made"],[20,21],Gs⟩]
def P:Y->au Fn:=progOf O5 2 3
end L2
namespace L2
noncomputable def tks:aj<|aX × Y × Y:=[(38,286,14),(45,303,11),(52,317,8),(59,328,8),(66,339,12),(73,354,7),(80,378,16),(87,397,8),(94,408,6),(101,417,15),(108,435,11),(115,451,7),(122,461,9),(129,473,7),(136,483,6),(158,570,4),(165,577,4),(172,584,4),(177,593,3),(184,599,7),(191,609,11),(196,623,3),(201,629,3),(208,635,20),(215,658,10),(220,671,3)]
noncomputable def fns:List (Stmt × Addr × Nat × Nat):=(PySem.Challenge.rw_uy0014_02.row.prog.main.body.filter fun s=>Nat.beq s.ctorIdx 0).zip tks
noncomputable def ob(c:o_)(d:Data):Uo:=⟨.type c,ag,d,#[]⟩
noncomputable def abR(a:aX):aA:=if a.ble 73 then .str "cpy313._pylong" 282 else if a.ble 108 then .str "cpy313.colorsys" 364 else if a.ble 136 then .str "cpy313.email.utils" 449 else if a.ble 172 then .str "cpy313.smtplib" 492 else .str "law_uy0014_02" 591
def Y1{a:Type}(s:gM)(d:a)(k:a7->qa->aj gM->kH->pJ->a):a:=if h:s.ctorIdx=0 then ou (motive_2:=λ_=>a) s h λn c b _ _ _ e _ _ p=>k n c b e p else d
noncomputable def ZC(q:gM × aX × Y × Y):aj<|aX × Uo:=Y1 q.1 [] λn o b j p=>
  let a:=q.2.1
  let t:=q.2.2.1
  let d:=q.2.2.2
  let y (i:Y):aA:=match j.more with|[]=> .ref (a-i)|_=> .none
  let z (i:Y):aA:=match j.more with|[]=> .ref (a-i)|_=> .ref<|a-i+2
  let i (k:Z):aA:= .int k 0
  [(a,ob "function"<|.func {name:=n,qualname:=n,params:=o,body:= .stmts b,scope:=j,globals:=3,closure:=[],defaults:= .none,kwdefaults:= .none,pyModule:=abR a,code:= .ref<|a-1}),(a-1,ob "code"<|.fields #[.str n t,.str n<|t+1,.str "/claim/cut.py"<|t+2,i p.line,i o.args.length,i 0,i 0,i<|cond j.isGenerator 35 3,z 6,.bool ah,i 276,z 5,.none,y 4,y 3,.ref<|a-2,i<|t+d,i p.line,.str "/claim/cut.py"<|t+d+1])]
noncomputable def V2(l:aj<|gM × aX × Y × Y):aj<|a7 × Y × aA:=l.map λq=>(Y1 q.1 "" λn _ _ _ _=>n,q.2.2.1+q.2.2.2+2,.ref q.2.1)
def gls:aj<|a7 × Y × aA:=([("__name__",165,.str "law_uy0014_02" 591),("__doc__",166,.none),("__package__",167,.none),("__loader__",168,.builtin "__main__.__loader__#opaque"),("__spec__",169,.none),("__annotations__",170,.ref 6),("__builtins__",171,.ref 4),("__file__",173,.str "/claim/cut.py" 172),("__cached__",174,.none),("_sre",275,.ref 12),("_DIV_LIMIT",285,.int 4000 284)]:aj<|a7 × Y × aA)
 ++V2 (fns.take 6)++([("ONE_THIRD",369,.float 4599676419421066581 368),("ONE_SIXTH",373,.float 4595172819793696085 372),("TWO_THIRD",377,.float 4604180019048437077 376)]:aj<|a7 × Y × aA)
 ++V2 ((fns.drop 6).take 9)++([("_twin_re_1",509,.ref 141),("_twin_re_2",525,.ref 146),("_twin_re_3",567,.ref 151),("CRLF",569,.str "\r\n" 568)]:aj<|a7 × Y × aA)++V2 (fns.drop 15)
noncomputable def Yh(l:aj Z):Uo:=ob "tuple"<|.seq (l.map λk=>kf k 0).toArray
noncomputable def pat(v w:aA)(a:aX)(k:Z):Uo:=ob "re.Pattern"<|.fields #[v,w,.int 0 0,.none,.none,.ref a,.int k 0]
noncomputable def sV:Uo:=Yh [14,4,0,1,1,6,1,16,46,1]
def K(Q:Params):uj:=(3,ob "dict"<|.dict (gls.map λe=>⟨PyData.keyHash Q e.1,.str e.1 e.2.1,e.2.2⟩).toArray 44)::(140,sV)::(141,pat (.str "(?m)^\\." 495) (.int 40 508) 140 0)::(145,sV)::(146,pat (.bytes #[40,63,109,41,94,92,46] 511) (.int 8 524) 145 1) ::(150,Yh [14,9,4,1,2,16,10,16,13,0,7,7,16,13,16,10,15,18,5,16,10,15,13,11,16,13,5,5,0,16,10,1,15,2,0,1])::(151,pat (.str "(?:\\r\\n|\\n|\\r(?!\\n))" 527) (.int 32 566) 150 0)::fns.flatMap ZC
noncomputable def fa(g:Y):Y:=[38,45,52,59,66,73,80,87,94,101,108,115,122,129,136,158,165,172,177,184,191,196,201,208,215,220].getD g 0
noncomputable def V1:aj<|a7 × Y:=[("_div2n1n",0),("_div3n2n",1),("_int2digits",2),("_digits2int",3),("_divmod_pos",4),("int_divmod",5),("rgb_to_hls",6),("hls_to_rgb",7),("_v",8),("rgb_to_hsv",9),("hsv_to_rgb",10),("_strip_quoted_realnames",12),("_check_parenthesis",13),("_pre_parse_validation",14),("quotedata",15),("_quote_periods",16),("_fix_eols",17),("_law_nests",18),("_law_homes",19),("_law_seen",20),("_law_palette",21),("_law_sent",22),("_law_weights",23),("_law_total",24),("law",25)]
noncomputable def N:Nm:={gv:=[("_DIV_LIMIT",.int 4000),("CRLF",.str [13,10]),("ONE_THIRD",.fw 4599676419421066581),("ONE_SIXTH",.fw 4595172819793696085),("TWO_THIRD",.fw 4604180019048437077),("_twin_re_1",.pat 1),("_twin_re_2",.pat 2),("_twin_re_3",.pat 3)],fn:=V1,fr:=λg=>aF g 14,ea:=115}
def nm(Q):Z_ (K Q) (Vn 141 146 151) N fa=ah:=by kernel_rfl
def nt(Q:Params):Xk (K Q)=ah:=by kernel_rfl
def c1(Q):codeHdIn (K Q) 51 47=ah:=by kernel_rfl
def c2(Q):codeHdIn (K Q) 58 54=ah:=by kernel_rfl
set_option tactic.hygienic true in
def ck(Q):O5.all (Te (K Q) N fa)=ah:=by kernel_rfl
def fi(b:W.K=K Q):∀g nv a ow body,P g=U (.code nv a ow body)->AB (XT W N 60 fa g a ow body):=ZF<|rP b <| ck Q
end L2
def Ul(h:fX)(c:aX)(a:a7):Prop:=∃o vs t,h.get? c=U o/\o.cls= .type "code"/\o.data= .fields vs/\vs[1]? =U (.str a t)
section
variable {d:cr}
 {a:aj (a7 × aX)} {Q:aA->aw->Prop} {f:Y}
noncomputable abbrev rQ(e g:a7)(b:qa)(body:aj gM)(c:kH)(a:aj<|a7 × aX)(k h i:aA):Uo:={cls:= .type "function",data:= .func<|fnX e g b body c a .none .none .none k ag h i}
def Hn(n:d.globals=dB)(w:s.heap.Ns dB mg)(z:s.heap.BuiltinsAt mg P)(B:XW body=ag)
  (h:Q (.ref s.heap.objs.size) {s with heap:=s.heap.push<|rQ j k b body c a ((mg "__name__").getD .none) q r}):
  aL M A (builtinsFor d.globals d.builtins >>= λD=>nsGet d.globals "__name__" >>= λH=>(match XW body with|some s=>mkText s|none=>gZ .none) >>= λt=>newObj (.type "function")<|.func {fnX j k b body c a .none .none t (H.getD .none) ag q r with builtins:=D,globals:=d.globals}) Q E s:=by
 refine abr (z) λbm o u l _ y v m e g=> ?_;refine rP n ?_;refine al<|wpAny_builtinsFor w u l v m e g ?_;refine al<|wpAny_nsGet w ?_;exact rP B <| al<|aM<|Ap h<|by size_fits
def made(γ:Xj g d=gZ a)(δ:a.isEmpty=af)(z:d.globals=dB)(hg:s.heap.Ns dB mg)(l:d.code= .ref c)(C:Xo s.heap c P)(T:ju s.heap P B i)
  (ε:dB≠P) (hb:s.heap.BuiltinsAt mg P) (hd:XW body=ag)
  (h:∀c' ζ u tk,ny P s.heap u->ju u P B i->Ul u c' i-> Q (.ref u.objs.size) {s with heap:=u.push<|rQ D i n body g a ((mg "__name__").getD .none) (.ref c') ζ,toks:=tk}):
  aL M A (makeFunction D i n (.stmts body) g d [] [] [] B f) Q E s:=by
 refine rP (makeFunction_eq ..) ?_;refine rP (KE ..) ?_;show aL M A (Xj g d >>= _) Q E s;refine rP γ ?_;refine al<|aM ?_;refine rP δ ?_;refine al<|wpAny_newTextTuple ?_;generalize EV _=H;have k:∀b o,s.heap.get? b=U o->(s.heap.push {cls:=cK "tuple",data:=Iq H}).get? b=U o:=λb o e=>bu _ e;have g1:=hg.push {cls:=cK "tuple",data:=Iq H};rcases T with e|⟨c',o,vs,t,e,e2,hc,L,hv⟩
 ·refine al<|wpAny_functionCodeX l ((C.keeps k).code (k _ _ e) trivial) ((C.keeps k).tab<|k _ _ e) J λc' u tk hx ξ π _ O ι κ=> ?_;refine pM (κ) λP' _ _ q=> ?_;obtain⟨⟨o,vs,t1,t2,t3,t4⟩,_⟩:=q;refine UD (id O) λc2 o2 α t r1 r2 r3 r4=> ?_;cases r1;have β:=r2;have v:=t1;rw[v]at β;obtain rfl:=sm β;have w:ny P s.heap u:=λb o hb e=>hx b o hb (k b o e)
  exact Hn z (hg.extBut w ε) (by refine X9 (hb) λbm o x m hn j y r=> ?_;exact⟨bm,o,x,m,hn,j,w _ _ j y,r⟩) hd<|h c' _ u tk w (.inr ⟨c',o,α,t,by simpa using ι.2,v,t2,r3,r4⟩) ⟨o,α,t,v,t2,r3,r4⟩
 ·refine al (wpAny_functionCode_hit (c':= .ref c') l ((C.keeps k).code (k _ _ e) trivial) ?_ ?_)
  ·show(if _ then _ else _)=_;simp[jS]
  ·exact Hn z g1 (by refine X9 (hb) λbm o x m hn j y r=> ?_;exact⟨bm,o,x,m,hn,j,k _ _ y,r⟩) hd<|h c' _ _ _ (λb o _ e=>k b o e) (.inr ⟨c',o,vs,t,k _ _ e,k _ _ e2,hc,L,hv⟩) ⟨o,vs,t,k _ _ e2,hc,L,hv⟩
end
def E3{a:aj<|a7 × Y}(h:(a.map (·.2)).Nodup)(g:a.lookup x=U i):∀y,a.lookup y=U i->y=x:=λy e=>FU h y x i (dZ e)<|dZ g
def VC(s:Y){l:aj Y}(h:l.Nodup):(l.map (s+ ·)).Nodup:=List.Pairwise.map (s+ ·) (λ_ _ n e=>n<|Nat.add_left_cancel e) h
def xY(s:Y){l:aj Y}{a:aj<|a7 × Y}(e:a.map (·.2)=l.map (s+ ·))(h:l.Nodup)(x y:a7)(d:Y)(b:a.lookup x=U d)(c:a.lookup y=U d):x=y:=FU (rP e <| VC s h) x y d (dZ b)<|dZ c
def acy(K:KS W N fa k n)(hA:Rm n A)(j:St W s₀)(g:Nx W s₀ s)(ow:Own O wr d)(hO:∀a,O a->o a)(hN:∀b,O b->s₀.heap.get? b=ag)
  (r:xA X wr x i) (hc:gW N f X e c=ah) (z:Ta X.nm x I e=af) (L:Av o s) (t:cV W o X d env s.heap) (ev:k.ex env c=U pv)
  (h:∀y,Nx W s₀ y->Av o y->cV W o X d (env.set i<|U pv) y.heap->Q .next y):aL (aQ W.prog W.w) A (exec (.Assign [.Name x I] e B) d) Q E s:=by
 have q:=qg (env:=d) (x:=x) (p:=I) (v:=e) (l:=B.line) t.kind;rw[t.names,z]at q;refine iV (K.ex hc hA g.st L t ev λu s1 D ru _=> ?_) q;refine mK ow hO r.mem (t.nx D g.st) r.get r.uni r.nuq ru λM G ch hG hS hl hv H=> ?_;have m:Mv W o O s₀ s1.gens.size s1 M:= .w5 j (g.trans D) ch hG hN hS λb hb _=>hl b hb;exact h M m.nx (m.Am<|L.nx D g.st) H
structure Kq(h:fX)(a:aX)(fd:gR):Prop where
 fn:∃o,h.get? a=U o/\o.cls= .type "function"/\o.data= .func fd
 cd:∃c,fd.code= .ref c/\Ul h c fd.qualname
def Kq.nx(x:Nx W s f)(st:St W s)(r:Kq s.heap a g):Kq f.heap a g:=by obtain⟨⟨o,e,d,h⟩,c,i,j,vs,t,k,b,l⟩:=r;exact⟨⟨o,x.get st e (by refine rP d ?_;nofun) (by refine rP d ?_;decide),d,h⟩,c,i,j,vs,t,x.get st k (by refine rP b ?_;nofun) (by refine rP b ?_;decide),b,l⟩
def Kq.acm(r:Kq h a b):h.CodeRec b.code b.qualname:=by obtain⟨_,c,e,f,vs,t,g,i,d,q⟩:=r;exact⟨c,f,vs,t,e,g,d,q⟩
def zh(g:A.depth<jx)(st:St W s)(r:Kq s.heap a d)(z:d.params=⟨[],as,ag,[],[],ag,[]⟩)(B:d.defaults= .none)
  (D:iA (as.map (·.arg))=ah) (H:f.length=as.length) (I:d.body= .stmts m) (i:∀x∈d.scope.names,x.2≠ .cell) (k:∀x∈as.map (·.arg),d.scope.names.lookup x=U .local) (n:d.scope.isCoroutine=af) (l:d.scope.isGenerator=af) (L:d.scope.kind= .function)
  (h:∀c M,c.Ns s.heap.objs.size (λx=>((as.map (·.arg)).zip f).reverse.lookup x)->(∀b o,s.heap.get? b=U o->c.get? b=U o)-> aL (aQ W.prog W.w) (A.deeper<|lN d s.heap.objs.size a) (qP m<|lN d s.heap.objs.size a) (λO q=>Q (match O with| .ret v=>v|_=> .none) q) (λe q=>aL (aQ W.prog W.w) (A.deeper<|lN d s.heap.objs.size a) (xk (lN d s.heap.objs.size a) e) (λ_ j=>E e j) (λe' j=>E e' j) q) {s with heap:=c,toks:=M}):
  aL (aQ W.prog W.w) A (call (.ref a) f) Q E s:=by
 obtain⟨o,e,hc,t⟩:=r.fn;refine zD<|codeAny_call_def g e t (W.T.nolimit.keeps st.stay) r.acm I (.of_eq<|oQ z B D H) i (λx hx=>k _ (zV hx).1) (λc ns kp=> ?_) n l L;exact h c _ ns kp
section
open PySem.Builtin.Int
def RE(n):∀(l) (k),k<=l.length->ur n l=ur n (l.take k)+2^(n*k)*ur n (l.drop k):=by
 intro l k;induction k generalizing l with
 |zero=>intro _;exact rP (Bt ..) <| rP (fS ..) <| rP (mj ..) <| rP (aaM ..) <| rP (fb ..) <| (kx _).symm
 |succ k a=>
  cases l with
  |nil=>intro h;exact bI h<|Kf k
  |cons d r=>intro h;refine rP iW<|rP uy ?_;show d+2^n*ur n r=d+2^n*ur n (r.take k)+_;exact rP (a r (GT h) ..)<|rP (abo ..)<|rP (EL ..)<|rS (iR ..)<|rS (Int.pow_add ..)<|rP (show n*(k+1)=n+n*k by rw[jp,qc,dO]) J
def RF(n m)(b:0<n)(l):(∀d∈l,aH d<=m)->(ur n l).natAbs+2^m<=2^m*2^(n*l.length):=by
 induction l with
 |nil=>intro _;exact aZ _
 |cons d r c=>
  intro h;have e:=cT.mp<|h d<|.head _;have f:=c λx g=>h x<|.tail _ g
  have i:(d+2^n*ur n r).natAbs<=d.natAbs+2^n*(ur n r).natAbs:=by refine ab (xH _ _) ?_;exact rP (iu ..) <| rP (Int.natAbs_pow ..) <| aZ _
  have j:2^m*2^(n*(r.length+1))=2^n*(2^m*2^(n*r.length)):=by exact rP (xE ..)<|rS (cW (m:=n) ..)<|rP (jp ..)<|rP (qc ..)<|rP (dO n ..) J
  have a:=cA (2^n) f;rw[jp]at a;have k:2*2^m<=2^n*2^m:=cB _<|ab (by decide:2<=2^1)<|dh (dcd J) b;exact oz [_,_,_,_,_,_,_] [] 0x3a06e12c156e4a152343a01132210a1 e i j a k
def N2(n m)(b:0<n)(l)(h:∀d∈l,aH d<=m):aH (ur n l)<=m+n*l.length:=by have a:=RF n m b l h;rw[<-cW]at a;have:0<2^m:=Ke<|dcd J;exact cT.mpr<|d9 2688952176898 a this
noncomputable def ir{b c:Type}(d:c)(l:aj b)(k:b->aj b->c):c:=match l with|[]=>d|a::r=>k a r
@[elab_as_elim] def hU{b:Type}{P:aj b->Prop}{l:aj b}{k:b->aj b->aB}(h:ir af l k=ah)(c:∀a r,k a r=ah->P (a::r)):P l:=by
 induction l using aE with
 |nil=>exact ff h
 |cons a r=>exact c a r h
noncomputable def ZW:aj<|a7 × dJ:=[("L",.local),("R",.local),("mid",.local),("shift",.local),("digits",.free),("inner",.free),("n",.free)]
noncomputable def dX:Cx:=⟨ZW,[("L",0),("R",1),("mid",2),("shift",3),("digits",4),("n",5)],[]⟩
def Ew(N:Nm)(X:Cx)(s:gM)(x:a7)(c:C):aB:=mL s λa e=>Fz af a λb=>sy b λy d=>(y==x)&&(!(Ta X.nm x d e)&&gW N 20 X e c)
def Bj(N:Nm)(X:Cx)(e:Expr)(b:aj C):aB:=Fy af e λx a=>(x==("inner":a7))&&(fy 0 a.length&&all2 (gW N 20 X) a b)
noncomputable def WK:C:= .cmp (.bin .Add (.var 0)<|.lit<|.int 1) [.Eq] [.var 1]
noncomputable def WL:C:= .bin .RShift (.bin .Add (.var 0)<|.var 1)<|.lit<|.int 1
noncomputable def cSh:C:= .bin .Mult (.bin .Sub (.var 2)<|.var 0)<|.var 5
def WF(N:Nm)(X:Cx)(s:gM)(t:C)(k:aj gM->aB):aB:=PW s λa b c=>gW N 20 X a t&&(nq af c ah&&k b)
def ckD(N:Nm)(a:aj gM):aB:=ir af a λs1 r=>ir af r λc r=>ir af r λd r=>ir af r λf r=>nq af r<|WF N dX s1 WK (λg=>Fz af g λs=>k9 s λo=>o.any λe=>gW N 20 dX e<|.sub (.var 4)<|.var 0) &&(Ew N dX c "mid" WL&&(Ew N dX d "shift" cSh&&k9 f λo=>o.any λe=>sB af e λl h r=>decide (h= .Add) &&(sB af l (λu b w=>decide (b= .LShift)&&(Bj N dX u [.var 2,.var 1]&&gW N 20 dX w (.var 3)))&&Bj N dX r [.var 0,.var 2])))
def sK{st}{Q:zH->aw->Prop}(f:Ew N X st x c=ah)(K:KS W N fa k n)(o:Rm n A)(g:St W s₀)(m:Nx W s₀ s)(ow:Own O q d)(r:∀a,O a->j a)(t:∀b,O b->s₀.heap.get? b=ag)
  (u:xA X q x i) (v:Av j s) (z:cV W j X d env s.heap) (B:k.ex env c=U D)
  (h:∀l,Nx W s₀ l->Av j l->cV W j X d (env.set i<|U D) l.heap->Q .next l):aL (aQ W.prog W.w) A (exec st d) Q E s:=by
 refine lU f λI e p f=>rL f λH f=>rJ f λy L f=> ?_;obtain rfl:=dW (n2 f).1;exact acy K o g m ow r t u (n2 (n2 f).2).2 (n0 (n2 (n2 f).2).1) v z B h
def rG(f:Bj N X e u=ah)(K:KS W N fa k n)(v:Rm n A)(st:St W s)(y:Av m s)(i:cV W m X b env s.heap)
  (z:X.nm.lookup ("inner":a7)=U .cell\/X.nm.lookup ("inner":a7)=U .free) (j:b.cells.lookup ("inner":a7)=U B) (c:s.heap.IsCell B<|U<|.ref a) (r:Kq s.heap a fd) (D:qV k env u=U vs)
  (h:∀g s1,Nx W s s1->ba W m s1.heap vs g->aL (aQ W.prog W.w) A (call (.ref a) g) Q E s1):aL (aQ W.prog W.w) A (eval e b) Q E s:=by
 refine tz f λx q H I f=> ?_;obtain rfl:=dW (n2 f).1;have l:=n2 (n2 f).2;have L:0<H.length:=aD l.1;refine rP (ik ..) ?_;refine al<|fP i.kind (dcd J) (mS (show b.scope.names.lookup _=_\/b.scope.names.lookup _=_ from i.names▸z) j) c ?_;refine rP (i' l.2 ..) ?_;obtain⟨o,M,d,O⟩:=r.fn;refine kZ (o:=o) (fd:=fd) ?_;exact oa K v L l.2 st y i D λg s1 t rv=>⟨⟨t.get st M (by refine rP (d ..) ?_;nofun) (by refine rP (d ..) ?_;decide),O⟩,h g s1 t rv⟩
structure DFd(N:Nm)(fd:gR)(cd cn ci:aX):Prop where
 co:fd.scope.isCoroutine=af
 gn:fd.scope.isGenerator=af
 kd:fd.scope.kind= .function
 nm:fd.scope.names=ZW
 gl:fd.globals=dB
 bl:fd.builtins=jT
 cl:fd.closure.lookup ("digits":a7)=U cd/\fd.closure.lookup ("n":a7)=U cn/\fd.closure.lookup ("inner":a7)=U ci
 no:fd.closure.lookup ("mid":a7)=ag/\fd.closure.lookup ("shift":a7)=ag
 inj:∀x y c,fd.closure.lookup x=U c->fd.closure.lookup y=U c->x=y
 df:fd.defaults= .none
 ps:∃a b,fd.params=⟨[],[a,b],ag,[],[],ag,[]⟩/\a.arg="L"/\b.arg="R"
 bd:∃sts,fd.body= .stmts sts/\ckD N sts=ah
def Mu{P:Prop}(h:NameKind.local= .cell\/NameKind.local= .free):P:=by rcases h with h|h<;>cases h
def TU(w:b.scope.kind= .function)(z:b.globals=dB)(A:b.builtins=jT)(nm:b.scope.names=X.nm)(q:h.Ns L m)
  (g:∀x,X.nm.lookup x=U .cell\/X.nm.lookup x=U .free->∃c o,b.closure.lookup x=U c/\h.IsCell c o) (k:∀x y c,b.closure.lookup x=U c->b.closure.lookup y=U c->x=y) (l:X.uq=[])
  (f:∀x i v,X.Γ.lookup x=U i->env[i]? =U (U v)->(X.nm.lookup x=U .local/\∃d,m x=U d/\bf W s h v d)\/(X.nm.lookup x=U .free/\∃c d,b.closure.lookup x=U c/\h.IsCell c (U d)/\bf W s h v d)):
  cV W s X (lN b L a) env h:=by
 refine⟨w,z,A,nm,⟨m,q⟩,g,k,λx i v B D=> ?_,λx y i j u v _ _ t=> ?_⟩
 ·rcases f x i v B D with⟨n,d,e,r⟩|⟨n,c,d,E,H,r⟩
  ·exact⟨_,d,oK (show b.scope.names.lookup x=_ from rP nm <| n),⟨m,q,e⟩,r⟩
  ·exact⟨_,d,mS (.inr (show b.scope.names.lookup x=_ from rP nm <| n)) E,H,r⟩
 ·rw[l]at t;exact bI t a0
noncomputable def ZY(l:aj Z)(n:Z)(L R:Y):Env:=[U<|.int L,U<|.int R,ag,ag,U<|.lst<|l.map .int,U<|.int n]
def acl{D:DFd N g r s u}{h}{l:aj Z}{n:Z}{L R:Y}{w y:pq}{b:aX}{dv:aA}{m:a7->au aA}(j:m=λx=>[(("R":a7),kf (R:Z) y),(("L":a7),kf (L:Z) w)].lookup x)(z:h.Ns b m) (c1:h.IsCell r<|U dv) (A:bf W B h (.lst<|l.map .int) dv) (c2:∃t,h.IsCell s<|U<|.int n t) (E:h.IsCell u<|U<|.ref a):cV W B dX (lN g b a) (ZY l n L R) h:=by
 obtain⟨t,c2⟩:=c2;refine TU D.kd D.gl D.bl D.nm z (λx f=> ?_) D.inj J λx i v f d=> ?_
 ·have e:∀{k},ZW.lookup x=U k->(k= .cell\/k= .free)->∃c o,g.closure.lookup x=U c/\h.IsCell c o:=λq=>by refine QI q ?_;exact aC Mu (aC Mu<|aC Mu<|aC Mu<|aC (λ_=>⟨_,_,D.cl.1,c1⟩)<|aC (λ_=>⟨_,_,D.cl.2.2,E⟩)<|aC (λ_=>⟨_,_,D.cl.2.1,c2⟩) aN)
  exact f.elim (λh=>e h<|.inl J) λh=>e h<|.inr J
 ·revert d;refine QI f ?_;refine(aC (λd=> ?_)<|aC (λd=> ?_)<|aC (λd=>nd<|sm d)<|aC (λd=>nd<|sm d)<|aC (λd=> ?_)<|aC (λd=> ?_) aN)
  ·obtain rfl:=sm<|sm d;exact .inl ⟨J,_,by exact rP j J,vI⟩
  ·obtain rfl:=sm<|sm d;exact .inl ⟨J,_,by exact rP j J,vI⟩
  ·obtain rfl:=sm<|sm d;exact .inr ⟨J,_,_,D.cl.1,c1,A⟩
  ·obtain rfl:=sm<|sm d;exact .inr ⟨J,_,_,D.cl.2.1,c2,vI⟩
def PQ{i:Y}{v:PV}(h:a[i]? =U v)(b:i<1152921504606846976):mH (.lst a) (.int (i:Z))=U v:=by
 have c:=(cy.mp h).1;have d:lV (i:Z)=ah:=eF (f9 b) |> λz=>aP (by show(i:Z).natAbs+1<=_;exact cQ 0x79ca01000000000000000ff912f0b1000000000000000ff902 J b)
 have e:j7 (i:Z) a.length=U i:=by show(if(decide (0<=(if(i:Z)<0 then(i:Z)+a.length else i))&&decide ((if(i:Z)<0 then(i:Z)+a.length else i)<a.length))=ah then U (if(i:Z)<0 then(i:Z)+a.length else i).toNat else ag)=_;rw[bA (show¬(i:Z)<0 from aq J),bD (show(0:Z)<=i from aK _),bD (show(i:Z)<a.length from dz.mpr c)];rfl
 show wl (lV i) ((j7 (i:Z) a.length).bind λj=>a[j]?)=U v;exact rP d <| rP e h
noncomputable abbrev P0:Y->au Fn:=λ_=>ag
def NM(a:env[0]? =U (U<|.int (L:Z)))(c:env[1]? =U (U<|.int (R:Z))):(kn P0 8).ex env WK=U (.bool<|(L:Z)+1==(R:Z)):=by show((((env[0]?).bind id).bind λx=>binop .Add x<|.int 1).bind λx=>(((env[1]?).bind id).bind λr=>i4 .Eq x r).bind λb=>U<|PV.bool b)=_;exact rP a <| rP c J
def NN(a:env[0]? =U (U<|.int (L:Z)))(b:env[1]? =U (U<|.int (R:Z))):(kn P0 8).ex env WL=U (.int (((L+R)/2:Y):Z)):=by show((((env[0]?).bind id).bind λx=>((env[1]?).bind id).bind λy=>binop .Add x y).bind λx=>binop .RShift x<|.int 1)=_;refine rP a<|rP b ?_;show U (PV.int<|((L:Z)+(R:Z)).fdiv<|2^1)=_;congr 2;exact rP (bW _<|dcd J) J
def MS(h:a<2^m):a.log2<=m:=by
 rcases wT a with rfl|h0
 ·exact db _
 ·exact bF<|(Kg<|gw h0).mpr h
def TR(b:L<=M)(c:M<=1024)(d:n<=16384)(f:env[0]? =U (U<|.int (L:Z)))(h:env[2]? =U (U<|.int (M:Z)))(i:env[5]? =U (U<|.int (n:Z))):(kn P0 8).ex env cSh=U (.int (((M-L)*n:Y):Z)):=by
 show((((env[2]?).bind id).bind λx=>((env[0]?).bind id).bind λy=>binop .Sub x y).bind λx=>((env[5]?).bind id).bind λy=>binop .Mult x y)=_;refine rP f<|rP h<|rP i ?_;show gL (w7 ((M:Z)-(L:Z)) n) (PV.int<|((M:Z)-(L:Z))*n)=_;have e:(M:Z)-(L:Z)=((M-L:Y):Z):=d9 0x1ca9bac90011102a26f7a6 J b;refine rP e ?_
 have g:w7 ((M-L:Y):Z) (n:Z)=ah:=aP (by show(M-L).log2+n.log2<=_;have:=MS (m:=11)<|d9 0x30726fa64002f9118002f902 c e;have:=MS (a:=n) (m:=15)<|bi d<|dcd J;exact cQ 0xf0f911b90120000006f910a1 (by assumption) this)
 refine rP g ?_;show U (PV.int _)=_;congr 2
def rU(h:env[i]? =U (U v)):(kn P0 8).ex env (.var i)=U v:=by show(env[i]?).bind id=_;exact rP h J
def Ca(h:env[i]? =U (U u))(a:env[j]? =U (U v)):qV (kn P0 8) env [.var i,.var j]=U [u,v]:=by show((kn P0 8).ex env<|.var i).bind (λv=>(((kn P0 8).ex env<|.var j).bind λw=>U [w]).bind λvs=>U<|v::vs)=_;exact rP (rU h) <| rP (rU a) J
def HO(d:L+1<R)(e:R-L<=2^(m+1)):L<(L+R)/2/\(L+R)/2<R/\(L+R)/2-L<=2^m/\R-(L+R)/2<=2^m:=by have c:=ta.mp (mi ..▸e);have a:=vt (L+R) 2;have b:L+R<(L+R)/2*2+2:=Nat.lt_div_mul_add<|dcd J;generalize(L+R)/2=M at a b⊢;generalize 2^m=p at c⊢;clear e;exact⟨(d9 0x4a0812da20a220b2102 d b),(d9 0x4a012a02d112b2102 d a),ta.mpr<|gr 0x4a0212da3132a02d121a01 a c,ta.mpr<|gr 0x4a0312da01822da03a221a01 b c⟩
def OJ(W:Wd)(N:Nm)(l:aj Z)(n:Y)(dv:aA)(a d e f:aX)(g:gR)(m:Y):Prop:=∀(L R:Y) {A:cZ} {E:aA->aw->Prop} {s:aw} {b:aX->Prop} {h i:pq} {Q:aA->aw->Prop},
 L<R->R-L<=2^m->R<=l.length->Rm (9+m) A->St W s->Av b s->Kq s.heap a g->s.heap.IsCell d (U dv)->bf W b s.heap (.lst<|l.map .int) dv->(∃t,s.heap.IsCell e<|U<|.int (n:Z) t)->s.heap.IsCell f (U<|.ref a)->
 (∀t c,Nx W s c->Q (.int (ur n<|(l.drop L).take<|R-L) t) c)->aL (aQ W.prog W.w) A (call (.ref a) [.int L h,.int R i]) Q E s
def Ac{P:aA->Prop}(r:bf W a h (.int i) v)(k:∀t,P<|.int i t):P v:=by obtain⟨t,rfl⟩:=r;exact k t
def N0{l:aj Z}{n m:Y}{dv:aA}(D:DFd N fd cd cn ci)(K:KS W N fa (kn P0 8) 8)(hn:0<n)(ζ:n<=16384)(hl:l.length<=1024)(hb:∀d∈l,aH d<=1000000)(ih:∀m',m=m'+1->OJ W N l n dv a cd cn ci fd m'):OJ W N l n dv a cd cn ci fd m:=by
 intro L R A E s av t1 t2 Q α hm hR hA st ha r c1 rd c2 c3 h;obtain⟨pa,pb,hps,ea,eb⟩:=D.ps;obtain⟨sts,hbd,f⟩:=D.bd;have O:[pa,pb].map (·.arg)=[("L":a7),"R"]:=by exact rP fR <| rP fR <| rP ea <| rP eb J
 refine zh (by have:=hA.depth;exact d9 0x13c1f9299a0aa2102 this) st r hps D.df (by refine rP O ?_;decide) J hbd (by refine rP D.nm ?_;decide) (by refine rP O<|rP D.nm ?_;decide) D.co D.gn D.kd λB tk ns kp=> ?_;rw[O]at ns;have nx:Nx W s {s with heap:=B,toks:=tk}:= .of_keeps st kp;have rd':bf W (λb=>av b\/b=s.heap.objs.size) B (.lst<|l.map .int) dv:=(rd.avoid (av':=λb=>av b\/b=s.heap.objs.size) λb hb=>hb.imp id λz=>by exact rP z <| eL _).nx nx st;have er:cV W (λb=>av b\/b=s.heap.objs.size) dX (lN fd s.heap.objs.size a) (ZY l n L R) B:=acl (D:=D) J ns (c1.keeps kp) rd' (c2.imp λt q=>q.keeps kp)<|c3.keeps kp
 have υ:Av (λb=>av b\/b=s.heap.objs.size) {s with heap:=B,toks:=tk}:=λb hb=>hb.elim (λq=>ha.nx nx st b q) λq=>by subst q;obtain⟨o,es,ep,e,_⟩:=ns;refine rP (show({s with heap:=B,toks:=tk}:aw).heap.get? s.heap.objs.size=U o from e) ?_;nofun
 have ow:Own (λb=>b=s.heap.objs.size) ["mid","shift"]<|lN fd s.heap.objs.size a:=by
  refine⟨J,λx hx c hc=> ?_,λx hx=> ?_⟩
  ·have hc:fd.closure.lookup x=U c:=hc;rcases aR.mp hx with rfl|hx
   ·rw[D.no.1]at hc;exact nd hc
   ·rw[aU.mp hx,D.no.2]at hc;exact nd hc
  ·show fd.scope.names.lookup x=_\/_;refine rP D.nm ?_;rcases aR.mp hx with rfl|hx
   ·exact .inl J
   ·exact rP ((aU.mp hx)) <| .inl J
 have hAd:Rm (8+m)<|A.deeper<|lN fd s.heap.objs.size a:=Rm.deeper (n:=8+m) (rP (show 8+m+1=9+m from wW ..) hA) _;have v:=hAd.less (show 8<=8+m from bq ..);have hci:(lN fd s.heap.objs.size a).cells.lookup ("inner":a7)=U ci:=D.cl.2.2;have hlc:(lN fd s.heap.objs.size a).locals=s.heap.objs.size:=J;generalize lN fd s.heap.objs.size a=menv at*;refine hU f λs1 q f=>hU f λs2 q f=>hU f λs3 q f=>hU f λs4 q f=>nY f λf=> ?_;have hc1:=(n2 f).1;have hc2:=(n2 (n2 f).2).1;have hc3:=(n2 (n2 (n2 f).2).2).1;have hc4:=(n2 (n2 (n2 f).2).2).2;clear f;refine cz<|Ha hc1 λte sa sb p h1=>SE<|K.tr (n2 h1).1 v nx.st υ er (NM J J) J λs5 β=> ?_;have φ:=nx.trans β;cases χ:((L:Z)+1==(R:Z))with
 |true=>
  have hR1:R=L+1:=by have:=dW χ;exact cQ 0x1832074f960121b03 α this
  refine rL (n2 (n2 h1).2).2 λs6 h2=>nM h2 λo p h2=> ?_;refine cm (kD h2) λe he h2=> ?_;subst he;obtain⟨d,hd⟩:∃d,l[L]? =U d:=⟨_,be<|ab α hR⟩;refine cz<|ng<|K.ex h2 v φ.st (υ.nx β nx.st) (er.nx β nx.st) (r:= .int d) ?_ λu s7 ψ ru _=> ?_
  ·show((U<|PV.lst<|l.map .int).bind λx=>(U<|PV.int (L:Z)).bind λy=>mH x y)=_;exact PQ (by refine rP cb<|rP hd ?_;rfl)<|d9 0x1212024002f9111000000000000000ff902 hl α hR
  ·refine Ac (P:=λu=>Q u s7) ru λt=> ?_
   have e2:(l.drop L).take (R-L)=[d]:=by refine rP (hR1 ..)<|rP (ga ..)<|rP (fI (ab α hR) ..)<|rP (iW ..)<|rP (Bt ..) ?_;rw[be<|ab α hR]at hd;exact rP (sm hd) J
   have h:=h t s7<|φ.trans ψ;rw[e2,show ur n [d]=d by show d+2^n*0=d;exact cE _]at h;exact h
 |false=>
  obtain rfl:sb=[]:=by
   have h2:=(n2 (n2 h1).2).1;induction sb using aE with
   |nil=>rfl
   |cons=>exact ff h2
  have κ:L+1<R:=by
   have:¬((L:Z)+1=R):=λz=>by rw[eR.mpr z]at χ;exact tf χ
   exact cQ 0x7d0102f4796710b2 this α
  obtain⟨m',rfl⟩:∃m',m=m'+1:=by
   induction m using cg with
   |zero=>have hm:R-L<=1:=hm;exact(fM.mpr hm<|tc.mpr<|rS (dO L 1) <| κ).elim
   |succ m'=>exact⟨m',J⟩
  have IH:=ih m' J;have g:=HO κ hm;generalize hM:(L+R)/2=M at g;have tg1:xA dX ["mid","shift"] "mid" 2:=⟨.head _,J,E3 (dcd J) J,a0⟩;have tg2:xA dX ["mid","shift"] "shift" 3:=⟨.tail _<|.head _,J,E3 (dcd J) J,a0⟩;have hN:∀b,b=s.heap.objs.size->s.heap.get? b=ag:=λb z=>by exact rP z <| eL _
  refine iU<|cz<|sK hc2 K v st φ ow (λb=> .inr) hN tg1 (υ.nx β nx.st) (er.nx β nx.st) ((NN J J).trans<|rP hM J) λs6 ψ av2 er2=> ?_;refine cz<|sK hc3 K v st ψ ow (λb=> .inr) hN tg2 av2 er2 (TR (bF g.1) (bF<|aV g.2.1<|ab hR hl) ζ J J J) λs7 H ω Γ=> ?_;refine nM hc4 λo p h2=> ?_;refine cm (kD h2) λe he h2=> ?_;subst he;refine pR h2 λel op er' p2 h2=> ?_;obtain rfl:=aq (n2 h2).1;have h3:=n2 (n2 h2).2;refine cz<|ng<|wN ?_;refine pR h3.1 λeu op2 ew p3 h4=> ?_;obtain rfl:=aq (n2 h4).1;have h5:=n2 (n2 h4).2;have r3:=r.nx H st;have Am:∀{s'},Nx W s s'->Av av s':=λx=>ha.nx x st
  have cx:∀{s'},Nx W s s'->(s'.heap.IsCell cd (U dv)/\bf W av s'.heap (.lst<|l.map .int) dv/\(∃t,s'.heap.IsCell cn<|U<|.int (n:Z) t)/\s'.heap.IsCell ci (U<|.ref a)):=λx=>⟨jF x st c1,rd.nx x st,c2.imp λt q=>jF x st q,jF x st c3⟩
  have hA':Rm (9+m')<|A.deeper menv:=by exact rP (show 9+m'=8+(m'+1)from sj ..) hAd
  refine wN<|rG h5.1 K v H.st ω Γ (.inr J) hci (cx H).2.2.2 r3 (Ca J J) λus s9 nx9 Δ=> ?_;refine jj (ba.jX Δ) λu1 u2 e1 Φ Ψ=> ?_;subst e1;refine Ac (P:=λu1=>aL _ _ (call _ [u1,u2]) _ _ _) Φ λt3=>Ac (P:=λu2=>aL _ _ (call _ [_,u2]) _ _ _) Ψ λt4=> ?_;have k:=H.trans nx9;refine IH M R g.2.1 g.2.2.2 hR hA' k.st (Am k) (r.nx k st) (cx k).1 (cx k).2.1 (cx k).2.2.1 (cx k).2.2.2 λt5 s11 μ=> ?_;have ν:=k.trans μ;have γ:=nx9.trans μ;refine K.ex h5.2 v ν.st (ω.nx γ H.st) (Γ.nx γ H.st) (rU (i:=3) J) λu s14 ξ ru _=> ?_;have δ:=ν.trans ξ
  have Ω:∀L R:Y,R<=l.length->aH (ur n<|(l.drop L).take<|R-L)<=1000000+n*1024:=λL R hR=>by refine ab (N2 n 1000000 hn _ λd hd=>hb d<|Pr _ _<|Pk _ _ hd)<|c_ (cA _ ?_) _;exact rP f5 <| ab (Ut ..)<|ab (lA ..)<|ab hR hl
  have hsh:binop .LShift (.int<|ur n<|(l.drop M).take<|R-M) (.int (((M-L)*n:Y):Z))=U (.int<|ur n ((l.drop M).take<|R-M)*2^((M-L)*n)):=by show gL (decide ((0:Z)<=((M-L)*n:Y))&&decide ((aH (ur n<|(l.drop M).take<|R-M):Z)+((M-L)*n:Y)<=134217728)) (PV.int<|ur n ((l.drop M).take<|R-M)*2^(((M-L)*n:Y):Z).toNat)=_;have b1:=Ω M R hR;have b2:n*1024<=16384*1024:=cB _ ζ;have b3:(M-L)*n<=1024*16384:=eS (ab (lA ..)<|ab (bF g.2.1)<|ab hR hl) ζ;exact rP (bD<|aK _) <| rP (bD<|by exact d9 0x40025a040003f94002fc1124002fdf42404f9a0140003f92180000006f8f794 ζ b1 b3) J
  refine BY v.handled δ.st (λb hb=>(Am δ).lt b hb) hsh vI (Ac (P:=λu=>bf W av s14.heap _ u) ru λ_=>vI) λw s16 π rw16 _=> ?_;have I:=δ.trans π;have ρ:=(γ.trans ξ).trans π;refine rG h3.2 K v I.st (ω.nx ρ H.st) (Γ.nx ρ H.st) (.inr J) hci (cx I).2.2.2 (r.nx I st) (Ca J J) λus s19 σ Δ=> ?_;refine jj (ba.jX Δ) λu1 u2 e1 Φ Ψ=> ?_;subst e1;refine Ac (P:=λu1=>aL _ _ (call _ [u1,u2]) _ _ _) Φ λt3=>Ac (P:=λu2=>aL _ _ (call _ [_,u2]) _ _ _) Ψ λt4=> ?_;have j:=I.trans σ;refine IH L M g.1 g.2.2.1 (bF (aV g.2.1 hR)) hA' j.st (Am j) (r.nx j st) (cx j).1 (cx j).2.1 (cx j).2.2.1 (cx j).2.2.2 λt5 s21 τ=> ?_;have ε:=j.trans τ;refine BY (av:=av) v.handled ε.st (λb hb=>(Am ε).lt b hb) (r:= .int (ur n ((l.drop L).take (R-L)))) ?_ ((rw16.nx σ I.st).nx τ j.st) vI λw s23 nx23 rw23 _=> ?_
  ·show U (PV.int (ur n ((l.drop M).take (R-M))*2^((M-L)*n)+ur n ((l.drop L).take (M-L))))=_;have e:=RE n ((l.drop L).take (R-L)) (M-L) (rP f5 <| rP dP <| Nat.le_min.mpr ⟨ul (bF g.2.1) L,ul (ab (bF g.2.1) hR) L⟩);rw[Uw,om (ul (bF g.2.1) L),Uy,lR,kO (bF g.1),Nat.sub_sub_sub_cancel_right (bF g.1)]at e;exact rP (e ..) (rP (sk ..) (rP (jA (2^(n*(M-L))) ..) (rP (bS ..) J)))
  ·refine Ac (P:=λw=>Q w s23) rw23 λt=> ?_;exact h t s23 (ε.trans nx23)
def ZU(D:DFd N h i j k)(K:KS W N fa (kn P0 8) 8)(c:0<n)(b:n<=16384)(f:l.length<=1024)(g:∀d∈l,aH d<=1000000):∀m,OJ W N l n dv a i j k h m:=by
 intro m;induction m with
 |zero=>exact N0 D K c b f g λo e=>nomatch e
 |succ m q=>exact N0 D K c b f g λo e=>by obtain rfl:=fO e;exact q
structure Cp(W:Wd)(c P:aX)(pos:pJ)(qual:a7):Prop where
 mem:P∈W.TB
 get:∀h,W.TI h->Xo h c P/\ju h P pos qual
 set:∀h h',ny P h h'->ju h' P pos qual->W.TI h->W.TI h'
def tM(T:ju h P b a):∃c,h.get? P=U (po c):=T.elim (λe=>⟨_,e⟩) λ⟨_,_,_,_,e,_⟩=>⟨_,e⟩
def Nx.tab(T:Cp W c P g a)(n:Nx W s₀ s)(x:ny P s.heap h)(y:ju h P g a):Nx W s₀ {s with heap:=h,toks:=t}:=by
 have j:∀{b o},W.h₀.get? b=U o->b≠P:=λ{b o} e z=>by rw[z,W.tb P T.mem]at e;exact nd e
 have st:St W {s with heap:=h,toks:=t}:=⟨λb o e=>x b o (j e)<|n.st.stay b o e,T.set _ _ x y n.st.ti,λb i=>by
  by_cases z:b=P
  ·exact rP z <| tM y
  ·exact(n.st.tabs b i).imp λk e=>x b _ z e,n.st.bare⟩
 exact n.trans ⟨λb o i e=> .inl<|x b o (λz=>i<|rP z <| T.mem) e,st,λ_ _ e=>e,J⟩
def Ec(st:St W s)(a:∃j,s.heap.get? P=U (po j)):dB≠P/\s.heap.BuiltinsAt W.mg P:=by
 obtain⟨j,a⟩:=a;have b:=W.T.g.keeps st.stay;obtain⟨bm,ob,b1,b2,b3,k,l,c⟩:=W.T.bmain
 have d:dB≠P:=λq=>by obtain⟨o,m,n,e,f,_⟩:=b;rw[q,a]at e;obtain rfl:=sm e;cases f
 have h:bm≠P:=λq=>by have e:=st.stay _ _ b3;rw[q,a]at e;obtain rfl:=sm e;cases k
 have i:bm≠dB:=λq=>by obtain⟨o,m,n,e,f,_⟩:=W.T.g;rw[q,e]at b3;obtain rfl:=sm b3;rw[f]at c;cases c
 exact⟨d,bm,ob,b1,b2,i,h,st.stay _ _ b3,k,l,c⟩
noncomputable abbrev DQ(c:a7)(a:qa)(body:aj gM)(b:kH)(d:aj<|a7 × aX)(g e f:aA):gR:=fnX "inner" c a body b d .none .none .none g ag e f
def Bh(T:Cp W c P γ k)(y:St W s₀)(u:Nx W s₀ s)(δ:i.defaults=[])(ε:i.kw_defaults=[])(L:annTrees i ag j=[])
  (hk:j.scope.kind= .function) (ζ:j.globals=dB) (B:j.code= .ref c) (hq:Xg j "inner" "inner"=k) (η:j.kindOf "inner"=U .cell) (ι:j.cells.lookup ("inner":a7)=U x) (m:s.heap.IsCell x o0) (hN:s₀.heap.get? x=ag)
  (κ:∀p∈f.names,p.2= .free->∃c,j.cells.lookup p.1=U c) (μ:(mV j.cells f.names []).isEmpty=af) (M:XW body=ag)
  (h:∀a r l pm O,Nx W s₀ O->Kq O.heap a (DQ k i body f (mV j.cells f.names []) pm (.ref r) l)->O.heap.IsCell x (U<|.ref a)->(∀b o,b≠x->b≠P->s.heap.get? b=U o->O.heap.get? b=U o)->Q .next O):
  aL (aQ W.prog W.w) A (exec (.FunctionDef "inner" i body [] ag [] f ag "inner" γ) j) Q E s:=by
 have tg:=T.get _ u.st.ti;have hB:=Ec u.st<|tM tg.2;refine nestDef_K δ ε L ?_;refine rP hq ?_;refine made (mg:=W.mg) (zb κ) μ ζ (W.T.g.keeps u.st.stay) B tg.1 tg.2 hB.1 hB.2 M λr l H tk hx hT hC=> ?_;have ν:=(u.tab (t:=tk) T hx hT).push<|rQ "inner" k i body f (mV j.cells f.names []) ((W.mg "__name__").getD .none) (.ref r) l
 have α:x≠P:=λz=>by obtain⟨o,e,d⟩:=m;obtain⟨ps,e2⟩:=tM tg.2;rw[z,e2]at e;obtain rfl:=sm e;cases d
 have k1:∀{b o},b≠P->s.heap.get? b=U o->(H.push<|rQ "inner" k i body f (mV j.cells f.names []) ((W.mg "__name__").getD .none) (.ref r) l).get? b=U o:=λn e=>bu _<|hx _ _ n e;have v:(H.push<|rQ "inner" k i body f (mV j.cells f.names []) ((W.mg "__name__").getD .none) (.ref r) l).IsCell x o0:=m.imp λo q=>⟨k1 α q.1,q.2⟩;refine wL hk η ι v λh2 ξ hs=> ?_;have ch:Cu (λb=>b=x) (λb=>b=x) ⟨H.push<|rQ "inner" k i body f (mV j.cells f.names []) ((W.mg "__name__").getD .none) (.ref r) l,s.gens,s.drawn,tk,s.os⟩ ⟨h2,s.gens,s.drawn,tk,s.os⟩:=⟨λb o n e=>hs.extBut b o n e,λb n=>n,J,J⟩
 have π:=ν.chg y ch (λb n=>n▸hN) λb o n e=> .inr λvs z=>by subst n;obtain⟨o1,D,I⟩:=v;obtain rfl:=sm<|e.symm.trans D;rw[I]at z;cases z
 have β:(H.push<|rQ "inner" k i body f (mV j.cells f.names []) ((W.mg "__name__").getD .none) (.ref r) l).get? H.objs.size=U (rQ "inner" k i body f (mV j.cells f.names []) ((W.mg "__name__").getD .none) (.ref r) l):=bQ _ J;refine h H.objs.size r l _ _ π ⟨⟨_,hs.extBut _ _ (λz=> ?_) β,J,J⟩,r,J,?_⟩ ξ λb o n ρ e=>hs.extBut _ _ n<|k1 ρ e
 ·obtain⟨o1,D,I⟩:=v;rw[<-z,β]at D;obtain rfl:=sm D;cases I
 ·obtain⟨o,vs,t,D,e2,e3,e4⟩:=hC;refine⟨o,vs,t,hs.extBut _ _ (λz=> ?_)<|bu _ D,e2,e3,e4⟩;obtain⟨o1,e5,I⟩:=v;rw[<-z,bu _ D]at e5;obtain rfl:=sm e5;rw[e3]at I;cases I
noncomputable def Lr(s:gM)(k:a7->qa->aj gM->aj Expr->au Expr->aj aaE->kH->au kH->a7->pJ->aB):aB:=if q:s.ctorIdx=0 then ou (motive_2:=λ_=>aB) s q k else af
@[elab_as_elim] def U0{P:gM->Prop}{s:gM}{k:a7->qa->aj gM->aj Expr->au Expr->aj aaE->kH->au kH->a7->pJ->aB}(h:Lr s k=ah)(c:∀a b d e f g i j l m,k a b d e f g i j l m=ah->P (.FunctionDef a b d e f g i j l m)):P s:=(dT h).elim λq _=>ou (motive_2:=λs=>Lr s k=ah->P s) s q (λa b d e f g i j l m h=>c a b d e f g i j l m h) h
noncomputable def Hx(as:aj Arg):aB:=as.all λa=>a.annotation.isNone
noncomputable def Li(a b:aj a7):aB:=decide (a=b)
noncomputable def Ob(nm:aj<|a7 × dJ)(h:aj a7)(i:pJ)(s:gM)(k:aj gM->aB):aB:=Lr s λb a body c Xf e d f bind g=>(b==("inner":a7))&&(xQ a&&(Li (a.args.map (·.arg)) h&&(Hx a.args&&(c.isEmpty&&(Xf.isNone&&(e.isEmpty&&(f.isNone&&((bind==("inner":a7))&&(decide (g=i) &&(decide (d.kind= .function)&&(!d.isCoroutine&&(!d.isGenerator&&(decide (d.names=nm)&&((XW body).isNone&&k body))))))))))))))
structure aav(nm:aj<|a7 × dJ)(ps:aj a7)(k:aj gM->aB)(params:qa)(body:aj gM)(sc:kH):Prop where
 eq:params=⟨[],params.args,ag,[],[],ag,[]⟩
 nms:params.args.map (·.arg)=ps
 ann:∀env,annTrees params ag env=[]
 kd:sc.kind= .function
 co:sc.isCoroutine=af
 gn:sc.isGenerator=af
 nm:sc.names=nm
 doc:XW body=ag
 bd:k body=ah
def W1(h:Hx as=ah):annotationsOf as env=[]:=by
 induction as with
 |nil=>rfl
 |cons a r b=>
  have h:=n2 (show(a.annotation.isNone&&Hx r)=ah from h);induction a using Arg.casesOn with
  |mk x c p=>obtain rfl:c=ag:=dF.mp h.1;exact b h.2
def Sf(h:Hx as=ah)(env:cr):annTrees ⟨[],as,ag,[],[],ag,[]⟩ ag env=[]:=by show annotationsOf ((((as++[])++[])++[])++[]) env++[]=[];simp only[eB];exact W1 h
def ZG{b bind:a7}{a:qa}{body:aj gM}{c:aj Expr}{Xf:au Expr}{d:aj aaE}{g:kH}{e:au kH}{f h:pJ}(i:b="inner")(j:c=[])(k:Xf=ag)(l:d=[])(m:e=ag)(n:bind="inner")(o:f=h):Stmt.FunctionDef "inner" a body [] ag [] g ag "inner" h= .FunctionDef b a body c Xf d g e bind f:=rP i<|rP j<|rP k<|rP l<|rP m<|rP n<|rP o J
@[elab_as_elim] def N9{nm:aj<|a7 × dJ}{l:aj a7}{m:pJ}{P:gM->Prop}{s:gM}{k:aj gM->aB}(h:Ob nm l m s k=ah)(c:∀a body j,aav nm l k a body j->P (.FunctionDef "inner" a body [] ag [] j ag "inner" m)):P s:=
 U0 h λn a body o Xf B j D bind E h=>
  have q:=n2 h;have r:=n2 q.2;have t:=n2 r.2;have u:=n2 t.2;have v:=n2 u.2;have w:=n2 v.2;have x:=n2 w.2;have y:=n2 x.2
  have z:=n2 y.2;have b:=n2 z.2;have d:=n2 b.2;have e:=n2 d.2;have f:=n2 e.2;have g:=n2 f.2;have i:=n2 g.2
  have A:=tW r.1
  ZG (dW q.1) (eZ.mp v.1) (dF.mp w.1) (eZ.mp x.1) (dF.mp y.1) (dW z.1) (aq b.1)▸ c a body j ⟨A,aq t.1,λenv=>by exact A▸Sf u.1 env,aq d.1,n0 e.1,n0 f.1,aq g.1,dF.mp i.1,i.2⟩
noncomputable def oNm:aj<|a7 × dJ:=[("digits",.cell),("n",.cell),("inner",.cell),("len",.globalImplicit)]
noncomputable def oX:Cx:=⟨oNm,[("digits",0),("n",1)],[]⟩
def N'(N:Nm)(c:pJ)(a:aj gM):aB:=ir af a λs1 r=>ir af r λd r=>nq af r<|Ob ZW ["L","R"] c s1 (ckD N) &&k9 d λo=>o.any λe=>xR af e λt b z=>gW N 20 oX t (.var 0)&&(Bj N oX b [.lit<|.int 0,.blt .len [.var 0]]&&gW N 20 oX z (.lit<|.int 0))
structure OFd(W:Wd)(N:Nm)(a:aX)(fd:gR)(nm:aj<|a7 × dJ)(ps:aj a7)(c:aX)(qual:a7)(ck:aj gM->aB):Prop where
 fn:∃o,W.h₀.get? a=U o/\o.data= .func fd
 H:aas W.K af fd
 ps:∃as,fd.params=⟨[],as,ag,[],[],ag,[]⟩/\as.map (·.arg)=ps
 nm:fd.scope.names=nm
 cd:fd.code= .ref c
 qu:fd.qualname++".<locals>."++"inner"=qual
 bd:∃sts,fd.body= .stmts sts/\ck sts=ah
def zf(I:OFd W N a f nm [x,y] c D ck)(i:A.depth<jx)(st:St W s)(l:iA [x,y]=ah)(m:nm.lookup x=U .local\/(nm.lookup x=U .cell/\∀n,((eH n nm []).lookup x).isSome=ah))(r:nm.lookup y=U .local\/(nm.lookup y=U .cell/\∀n,((eH n nm []).lookup y).isSome=ah)) (h:∀b d,f.body= .stmts d->ck d=ah->InCallC s s.heap.objs.size (SF (λz=>nm.lookup z) [(x,u),(y,v)] λ_=>ag) (eH (s.heap.objs.size+1) nm []) (XX (λz=>nm.lookup z) [(x,u),(y,v)] λ_=>ag) b->Nx W s b-> aL (aQ W.prog W.w) (A.deeper<|cG f s.heap.objs.size a) (qP d<|cG f s.heap.objs.size a) (λM t=>Q (match M with| .ret v=>v|_=> .none) t) (λe t=>aL (aQ W.prog W.w) (A.deeper<|cG f s.heap.objs.size a) (xk (cG f s.heap.objs.size a) e) (λ_ j=>E e j) (λO j=>E O j) t) b):aL (aQ W.prog W.w) A (call (.ref a) [u,v]) Q E s:=by
 obtain⟨o,ho,hd⟩:=I.fn;obtain⟨as,hp,g⟩:=I.ps;obtain⟨d,L,B⟩:=I.bd;have hl:as.length=2:=by exact rS (aG ..) <| rP (g ..) J
 refine zD<|Xi i (st.stay _ _ ho) hd (W.T.nolimit.keeps st.stay) ((Xl W.X I.H.cd).keeps st.stay) L (oQ hp I.H.df (g▸l) hl.symm) I.H.cl (λz k=> ?_) (λb wj=> ?_) I.H.co I.H.gn I.H.kd
 ·rw[g]at k;refine rP I.nm ?_;rcases aR.mp k with rfl|k
  ·exact m.imp id λq=>⟨q.1,q.2 _⟩
  ·rcases aR.mp k with rfl|k
   ·exact r.imp id λq=>⟨q.1,q.2 _⟩
   ·exact bI k a0
 ·obtain⟨h1,tk,rfl,kp⟩:=wj.done;have e1:(cG f s.heap.objs.size a).kindOf=(λz=>nm.lookup z):=by funext z;show f.scope.names.lookup z=_;exact rP I.nm J
  have e2:(cG f s.heap.objs.size a).cells=eH (s.heap.objs.size+1) nm []:=by show eH _ f.scope.names []=_;exact rP I.nm J
  rw[g,e1,e2]at wj;exact h _ d L B wj<|.of_keeps st kp
def UN{as:aj Arg}{x y:a7}(h:as.map (·.arg)=[x,y]):∃a b,as=[a,b]/\a.arg=x/\b.arg=y:=by
 induction as using aE with
 |nil=>cases h
 |cons a r=>induction r using aE with
  |nil=>cases(dM h).2
  |cons b r=>induction r using aE with
   |nil=>exact⟨a,b,J,(dM h).1,(dM (dM h).2).1⟩
   |cons c r=>cases(dM (dM h).2).2
def NQ(I:OFd W N a d X.nm O c t ck)(w:h.Ns L m)(g:∀x,X.nm.lookup x≠U .free)
  (k:∀x,X.nm.lookup x=U .cell->∃c o,(cG d L a).cells.lookup x=U c/\h.IsCell c o) (l:∀x y c,(cG d L a).cells.lookup x=U c->(cG d L a).cells.lookup y=U c->x=y) (n:X.uq=[])
  (f:∀x i v,X.Γ.lookup x=U i->env[i]? =U (U v)->(X.nm.lookup x=U .local/\∃b,m x=U b/\bf W A h v b)\/(X.nm.lookup x=U .cell/\∃c b,(cG d L a).cells.lookup x=U c/\h.IsCell c (U b)/\bf W A h v b)):
  cV W A X (cG d L a) env h:=by
 refine⟨I.H.kd,I.H.gl,I.H.bl,I.nm,⟨m,w⟩,λx q=>q.elim (k x) λz=>bI z<|g x,l,λx i v q D=> ?_,λx y i j u v _ _ B=> ?_⟩
 ·rcases f x i v q D with⟨s,b,e,r⟩|⟨s,c,b,E,M,r⟩
  ·exact⟨_,b,oK (show d.scope.names.lookup x=_ from rP I.nm <| s),⟨m,w,e⟩,r⟩
  ·exact⟨_,b,mS (.inl (show d.scope.names.lookup x=_ from rP I.nm <| s)) E,M,r⟩
 ·rw[n]at B;exact bI B a0
def RB{Q:aA->aw->Prop}(K:KS W N fa (kn P0 8) 8)(T:Cp W c P υ m)(I:OFd W N a fd oNm ["digits","n"] c m<|N' N υ)(hn:0<n)(φ:n<=16384)(hl:l.length<=1024)(hb:∀d∈l,aH d<=1000000) (hA:Rm 40 A) (st:St W s) (ha:Av av s) (rd:bf W av s.heap (.lst<|l.map .int) dv) (h:∀t s',Nx W s s'->Q (.int (ur n l) t) s'):aL (aQ W.prog W.w) A (call (.ref a) [dv,.int (n:Z) t]) Q E s:=by
 refine zf I (by have:=hA.depth;exact bi (bq ..) this) st J (.inr ⟨J,λ_=>rfl⟩) (.inr ⟨J,λ_=>rfl⟩) λB sts hb1 L wj nx=> ?_;have χ:B.heap.IsCell (s.heap.objs.size+1)<|U dv:=wj.cell "digits" _ J;have ψ:B.heap.IsCell (s.heap.objs.size+2)<|U<|.int (n:Z) t:=wj.cell "n" _ J;have ω:B.heap.IsCell (s.heap.objs.size+3) ag:=wj.cell "inner" _ J;have π:=wj.toInCall.ns;have j:(cG fd s.heap.objs.size a).cells=[(("inner":a7),s.heap.objs.size+3),(("n":a7),s.heap.objs.size+2),(("digits":a7),s.heap.objs.size+1)]:=by show eH _ fd.scope.names []=_;exact rP I.nm J
 have ρ:∀b,s.heap.objs.size<=b->s.heap.get? b=ag:=λb hb=>Ip hb;have κ:Rm 39<|A.deeper<|cG fd s.heap.objs.size a:=Rm.deeper (n:=39) hA _;have μ:=κ.less (show 8<=39 by decide);refine hU L λs1 q L=>hU L λs2 q L=>nY L λL=> ?_;have O:=(n2 L).2;refine N9 (n2 L).1 λf body sc D=> ?_;refine cz<|Bh T st nx (rP D.eq J) (rP D.eq J) (D.ann _) I.H.kd I.H.gl I.cd ?_ ?_ (rP j J) ω (ρ _<|bq _ _) (λp hp hf=> ?_) ?_ D.doc λfi c' δ pm s3 g σ α kp=> ?_
 ·unfold Xg;exact rP (show(cG fd s.heap.objs.size a).kindOf "inner"=U .cell by show fd.scope.names.lookup _=_;rw[I.nm];rfl) I.qu
 ·show fd.scope.names.lookup _=_;exact rP I.nm J
 ·rw[D.nm]at hp;refine rP j ?_;simp only[ZW,aR,a0,lH]at hp;rcases hp with rfl|rfl|rfl|rfl|rfl|rfl|rfl;all_goals first|exact⟨_,J⟩|cases hf
 ·exact rP j <| rP D.nm J
 have nP:∀{b v},B.heap.IsCell b v->b≠P:=λ{b v} hc z=>by obtain⟨o,e,d⟩:=hc;obtain⟨ps,e2⟩:=tM (T.get _ nx.st.ti).2;rw[z,e2]at e;obtain rfl:=sm e;cases d
 have kc:∀{b v},b≠s.heap.objs.size+3->B.heap.IsCell b v->s3.heap.IsCell b v:=λ{b v} hb hc=>hc.imp λo q=>⟨kp b o hb (nP hc) q.1,q.2⟩;have β:=kc (c6<|h_ (dcd J) _) χ;have γ:=kc (c6<|h_ (dcd J) _) ψ
 have τ:s3.heap.Ns s.heap.objs.size _:=π.at λo e=>kp _ o (c6<|lC<|dcd J) (λz=>by obtain⟨ps,e2⟩:=tM (T.get _ nx.st.ti).2;rw[z,e2]at e;obtain rfl:=sm e;obtain⟨o1,es,ep,e3,d3,_⟩:=π;rw[z,e2]at e3;obtain rfl:=sm e3;cases d3) e
 have Γ:=rd.nx g st
 have er:cV W av oX (cG fd s.heap.objs.size a) [U<|.lst<|l.map .int,U<|.int (n:Z)] s3.heap:=by
  refine NQ I τ (λx hx=> ?_) (λx hx=> ?_) (λx y d h1 O=> ?_) J λx i v hx hv=> ?_
  ·exact QI hx (G:=λ_ k=>k= .free->iY) (aC (λh=>nomatch h)<|aC (λh=>nomatch h)<|aC (λh=>nomatch h)<|aC (λh=>nomatch h) aN) J
  ·refine rP j ?_;refine Ud hx ?_;exact aC (λ_=>⟨_,_,J,β⟩)<|aC (λ_=>⟨_,_,J,γ⟩)<|aC (λ_=>⟨_,_,J,α⟩)<|aC (λh=>nomatch h) aN
  ·rw[j]at h1 O;exact xY s.heap.objs.size (l:=[3,2,1]) J (dcd J) x y d h1 O
  ·revert hv;refine QI hx ?_;refine aC (λhv=> ?_) (aC (λhv=> ?_) aN)
   ·obtain rfl:=sm<|sm hv;exact .inr ⟨J,_,_,by exact rP j J,β,Γ⟩
   ·obtain rfl:=sm<|sm hv;exact .inr ⟨J,_,_,by exact rP j J,γ,vI⟩
 have ν:=ha.nx g st;refine nM O λo p O=> ?_;refine cm (kD O) λe he O=> ?_;subst he;refine yH O λet eb ez p2 O=> ?_;refine cz<|ng<|wpAny_IfExp<|K.tr (n2 O).1 μ g.st ν er (rU (i:=0) J) (b:= !(l.map PV.int).isEmpty) ?_ λs4 M=> ?_
 ·show gL (aY (l.map PV.int).length big) _=_;exact rP (aP (by rw[aG];exact ab hl<|dcd J)) J
 have h3:=n2 (n2 O).2;have ε:=g.trans M;induction l using aE with
 |nil=>exact K.ex h3.2 μ ε.st (ν.nx M g.st) (er.nx M g.st) (r:= .int 0) J λu s6 ζ ru _=>Ac (P:=λu=>Q u s6) ru λt=>h t s6<|ε.trans ζ
 |cons d r=>
  have hl2:(d::r).length<1152921504606846976:=bi hl<|dcd J;refine rG h3.1 K μ ε.st (ν.nx M g.st) (er.nx M g.st) (.inl J) (rP j J) (jF M g.st α) (σ.nx M g.st) (vs:=[.int 0,.int ((d::r).length:Z)]) ?_ λus s6 ζ Δ=> ?_
  ·show(U<|PV.int 0).bind (λv=>((gL (aY ((d::r).map PV.int).length big)<|PV.int ((d::r).map PV.int).length).bind λw=>U [w]).bind λvs=>U<|v::vs)=_;exact rP (aP (by rw[aG];exact ab hl<|dcd J) ..) <| rP (aG ..) J
  ·refine jj (ba.jX Δ) λu1 u2 e1 Φ Ψ=> ?_;subst e1;refine Ac (P:=λu1=>aL _ _ (call _ [u1,u2]) _ _ _) Φ λt3=>Ac (P:=λu2=>aL _ _ (call _ [_,u2]) _ _ _) Ψ λt4=> ?_;have η:=ε.trans ζ;have ι:=M.trans ζ
   have DF:DFd N (DQ m f body sc (mV (cG fd s.heap.objs.size a).cells sc.names []) pm (.ref c') δ) (s.heap.objs.size+1) (s.heap.objs.size+2)<|s.heap.objs.size+3:=by
    have ξ:mV (cG fd s.heap.objs.size a).cells sc.names []=[(("n":a7),s.heap.objs.size+2),(("inner":a7),s.heap.objs.size+3),(("digits":a7),s.heap.objs.size+1)]:=rP (j ..) <| rP (D.nm ..) J
    have Ω:∃a b,f=⟨[],[a,b],ag,[],[],ag,[]⟩/\a.arg="L"/\b.arg="R":=by refine jj (UN D.nms) λx y e1 e2 e3=> ?_;exact⟨x,y,rS e1 <| D.eq,e2,e3⟩
    refine⟨D.co,D.gn,D.kd,D.nm,J,J,?_,?_,λx y d h1 O=> ?_,J,Ω,⟨body,J,D.bd⟩⟩
    ·exact rP (show(DQ m f body sc (mV (cG fd s.heap.objs.size a).cells sc.names []) pm (.ref c') δ).closure=_ from ξ) <| ⟨J,J,J⟩
    ·exact rP (show(DQ m f body sc (mV (cG fd s.heap.objs.size a).cells sc.names []) pm (.ref c') δ).closure=_ from ξ) <| ⟨J,J⟩
    ·rw[show(DQ m f body sc (mV (cG fd s.heap.objs.size a).cells sc.names []) pm (.ref c') δ).closure=_ from ξ]at h1 O;exact xY s.heap.objs.size (l:=[2,3,1]) J (dcd J) x y d h1 O
   refine ZU DF K hn φ hl hb 10 0 (d::r).length (fj _) hl (aZ _) (κ.less<|dcd J) η.st (ha.nx η st) (σ.nx ι g.st) (jF ι g.st β) (rd.nx η st) ⟨t,jF ι g.st γ⟩ (jF ι g.st α) λt5 s9 nx9=> ?_;have h:=h t5 s9<|η.trans nx9;exact rP (fS ..) <| rP (mf ..) <| rP (i7 ..) h
noncomputable def EQ(n x j:Y):Y:=x/2^(n*j)%2^n
def Q0(n):∀(k x j),j<k->(O8 n k x)[j]? =U ((EQ n x j:Y):Z):=by
 intro k;induction k with
 |zero=>intro _ _ h;exact bI h<|iG _
 |succ k b=>
  intro x;intro a;cases a with
  |zero=>intro _;show U _=U _;unfold EQ;exact rP (mj ..)<|rP (mh ..)<|rP (qe ..) J
  |succ j=>intro h;show(O8 n k<|x/2^n)[j]? =_;refine rP (b _ j<|ml h) ?_;unfold EQ;exact rP (mr ..)<|rS (cW ..)<|rP (show n+n*j=n*(j+1) by rw[jp,qc,dO]) J
def HJ(n)(k):∀(x),(O8 n k x).length=k:=by
 induction k with
 |zero=>intro _;exact J
 |succ k a=>intro x;exact az jH<|a<|x/2^n
def Rc(h:j<m):EQ n (x%2^(m*n)) j=EQ n x j:=by
 unfold EQ
 have e:m*n=n*j+(m*n-n*j-n)+n:=by have:n*(j+1)<=n*m:=cA n h;have this:n*j+n<=n*m:=this;exact rP (bS m n ..)<|rP (iQ ..)<|rP (pC (Nat.le_sub_of_add_le' this) ..)<|rP (kO (ab (bq ..) this) ..) J
 exact rP (show m*n=n*j+(n+(m*n-n*j-n))from gr 0x3d0231aa0332a1a03 e)<|rP (cW ..)<|rP (Nat.mod_mul_right_div_self ..)<|rP (cW ..)<|rP (Nat.mod_mod_of_dvd _ (Nat.dvd_mul_right _ _) ..) J
def NE:EQ n (x/2^(m*n)) j=EQ n x (m+j):=by unfold EQ;exact rP (mr ..)<|rS (cW ..)<|rP (show m*n+n*j=n*(m+j) by rw[jp,bS m n]) J
def Rb(h:x<2^n):EQ n x 0=x:=by unfold EQ;exact rP (mj ..)<|rP (mh ..)<|rP (qe ..)<|rP (kv h ..) J
def Oq(x s):x&&& (x/2^s*2^s)=x/2^s*2^s:=by
 refine Kh λi=> ?_;refine rP (Ur ..)<|rP (ET ..)<|rP (Nat.testBit_div_two_pow ..) ?_;cases h:decide (s<=i)with
 |false=>simp[h]
 |true=>have:=aq h;refine rP (show i-s+s=i from d9 0xb8ca9ba0211120a210a3 J this) ?_;simp[h]
def Pw(x s:Y):zK (x:Z) ((x/2^s:Y)*2^s:Z)=((x%2^s:Y):Z):=by
 refine rP (bitXor_and ..) ?_;have e:(((x/2^s:Y):Z)*2^s)=((x/2^s*2^s:Y):Z):=rP (aS ..) <| rP (eC ..) J;refine rP (e ..) ?_
 have h:zL (x:Z) ((x/2^s*2^s:Y):Z)=((x/2^s*2^s:Y):Z):=by exact rP (aaI (aK _) (aK _) ..)<|rP (cM ..)<|rP (cM ..)<|rP (Oq ..) J
 refine rP h ?_;have:=eV x<|2^s;rw[bS]at this;exact d9 0x320021a326f2cf79a6 this
noncomputable def Zt:aj<|a7 × dJ:=[("x",.local),("L",.local),("R",.local),("mid",.local),("shift",.local),("upper",.local),("lower",.local),("a_digits",.free),("inner",.free),("n",.free)]
noncomputable def iX:Cx:=⟨Zt,[("L",0),("R",1),("mid",2),("shift",3),("x",4),("n",5),("upper",6),("lower",7)],[]⟩
noncomputable def cUp:C:= .bin .RShift (.var 4)<|.var 3
noncomputable def cLo:C:= .bin .BitXor (.var 4)<|.bin .LShift (.var 6)<|.var 3
def setB(N:Nm)(s:gM):aB:=mL s λa e=>Fz af a λb=>jO af b λo i=>sy o λx c=>(x==("a_digits":a7))&&(gW N 20 iX i (.var 0)&&gW N 20 iX e (.var 4))
def NJ(N:Nm)(s:gM)(a:aj C):aB:=vU s λe=>Bj N iX e a
def ckI(N:Nm)(c:aj gM):aB:=ir af c λs1 r=>ir af r λd r=>ir af r λe r=>ir af r λf r=>ir af r λg r=>ir af r λh r=>ir af r λi r=>nq af r<|WF N iX s1 WK (λj=>ir af j λa r=>ir af r λb r=>nq af r<|setB N a&&k9 b λo=>o.isNone) &&(Ew N iX d "mid" WL&&(Ew N iX e "shift" cSh&&(Ew N iX f "upper" cUp&&(Ew N iX g "lower" cLo&&(NJ N h [.var 7,.var 0,.var 2]&&NJ N i [.var 6,.var 2,.var 1])))))
structure IFd(N:Nm)(fd:gR)(cd cn ci:aX):Prop where
 co:fd.scope.isCoroutine=af
 gn:fd.scope.isGenerator=af
 kd:fd.scope.kind= .function
 nm:fd.scope.names=Zt
 gl:fd.globals=dB
 bl:fd.builtins=jT
 cl:fd.closure.lookup ("a_digits":a7)=U cd/\fd.closure.lookup ("n":a7)=U cn/\fd.closure.lookup ("inner":a7)=U ci
 no:∀x,x∈[("mid":a7),"shift","upper","lower"]->fd.closure.lookup x=ag
 inj:∀x y c,fd.closure.lookup x=U c->fd.closure.lookup y=U c->x=y
 df:fd.defaults= .none
 ps:∃as,fd.params=⟨[],as,ag,[],[],ag,[]⟩/\as.map (·.arg)=[("x":a7),"L","R"]
 bd:∃sts,fd.body= .stmts sts/\ckI N sts=ah
def nc(W:Wd)(d:aX)(h c:fX):Prop:=∀b o,b∉W.TB->b≠d->h.get? b=U o-> c.get? b=U o\/(W.h₀.get? b=ag/\o.cls= .type "frame"/\∃e,c.get? b=U {o with slots:=e})
def nc.trans(x:nc W d h m)(y:nc W d m a):nc W d h a:=λb o c f e=>by
 rcases x b o c f e with g|⟨k,l,n,g⟩
 ·exact y b o c f g
 ·rcases y b _ c f g with i|⟨_,_,j,i⟩
  ·exact .inr ⟨k,l,n,i⟩
  ·exact .inr ⟨k,l,j,i⟩
def nc.nC(x:Nx W s a):nc W d s.heap a.heap:=λb o c _ e=>x.ext b o c e
def nc.get(x:nc W d h f)(e:h.get? b=U o)(g:b∉W.TB)(i:b≠d):∃a,f.get? b=U a/\a.cls=o.cls/\a.data=o.data:=by
 rcases x b o g i e with c|⟨_,_,j,c⟩
 ·exact⟨_,c,J,J⟩
 ·exact⟨_,c,J,J⟩
def nc.fn(x:nc W d s.heap n)(st:St W s)(q:s.heap.PlainList d vs)(r:Kq s.heap a u):Kq n a u:=by obtain⟨⟨o,e,i,j⟩,c,v,I,ws,t,f,b,l,w⟩:=r;obtain⟨k,m⟩:=q;refine pM (x.get e (st.B4 e (by refine rP i ?_;nofun)) λz=>by rw[z,m]at e;obtain rfl:=sm e;cases j) λy A B D=> ?_;refine pM (x.get f (st.B4 f (by refine rP b ?_;nofun)) λz=>by rw[z,m]at f;obtain rfl:=sm f;cases l) λg h E H=> ?_;exact⟨⟨y,A,B.trans i,D.trans j⟩,c,v,g,ws,t,h,E.trans b,H.trans l,w⟩
def nc.cell(x:nc W d s.heap c)(st:St W s)(f:s.heap.PlainList d vs)(r:s.heap.IsCell b v):c.IsCell b v:=by obtain⟨o,e,a⟩:=r;obtain⟨k,g⟩:=f;refine pM (x.get e (st.xU e (by refine rP a ?_;nofun)) λz=>by rw[z,g]at e;obtain rfl:=sm e;cases a) λh i l j=> ?_;exact⟨h,i,j.trans a⟩
def nc.ns(x:nc W d s.heap c)(st:St W s)(f:s.heap.PlainList d vs)(r:s.heap.Ns b m):c.Ns b m:=by obtain⟨o,g,h,e,a,r⟩:=r;obtain⟨k,i⟩:=f;refine pM (x.get e (st.xU e (by refine rP a ?_;nofun)) λz=>by rw[z,i]at e;obtain rfl:=sm e;cases a) λj l q n=> ?_;exact⟨j,g,h,l,n.trans a,r⟩
structure IS(W:Wd)(s₀:aw)(d a cd cn ci:aX)(fd:gR)(n:Y)(s:aw):Prop where
 nx:Nx W s₀ s
 fn:Kq s.heap a fd
 c1:s.heap.IsCell cd<|U<|.ref d
 c2:∃t,s.heap.IsCell cn<|U<|.int (n:Z) t
 c3:s.heap.IsCell ci<|U<|.ref a
def IS.mv(r:IS W s₀ d a e f g h n s)(b:s.heap.PlainList d vs)(i:Nx W s₀ c)(x:nc W d s.heap c.heap):IS W s₀ d a e f g h n c:=⟨i,x.fn r.nx.st b r.fn,x.cell r.nx.st b r.c1,r.c2.imp λt q=>x.cell r.nx.st b q,x.cell r.nx.st b r.c3⟩
def Tz(env:Env):Prop:=∀(i:Y) (v:PV),env[i]? =U (U v)->∃z,v=PV.int z
def nc.er(x:nc W d s.heap t)(st:St W s)(e:s.heap.PlainList d vs)(w:X.uq=[])(A:Tz env)(r:cV W B X a env s.heap):cV W B X a env t:=by
 refine⟨r.kind,r.glob,r.blt,r.names,r.ns.imp λm q=>x.ns st e q,λy g=> ?_,r.inj,λy i v g k=> ?_,λy z i j u v _ _ l=>by rw[w]at l;exact bI l a0⟩
 ·exact oV (r.cel y g) λc o h f=>⟨c,o,h,x.cell st e f⟩
 ·refine jj (r.slot y i v g k) λb D h f E=>⟨b,D,h,?_,?_⟩
  ·induction b using Loc.casesOn with
   |dict L n=>exact f.imp λm q=>⟨x.ns st e q.1,q.2⟩
   |cell c=>exact x.cell st e f
  ·obtain⟨z,rfl⟩:=A i v k;exact E
def ZL(a:env[4]? =U (U<|.int (x:Z)))(b:env[3]? =U (U<|.int (k:Z))):(kn P0 8).ex env cUp=U (.int ((x/2^k:Y):Z)):=by show(((env[4]?).bind id).bind λx=>((env[3]?).bind id).bind λy=>binop .RShift x y)=_;refine rP a<|rP b ?_;show gL (decide ((0:Z)<=(k:Z))) (PV.int<|(x:Z).fdiv<|2^(k:Z).toNat)=_;refine rP (bD (aK _) ..)<|rP (cM ..) ?_;congr 2;exact rP (bW _ (Int.pow_nonneg<|dcd J) ..) <| rP (SY ..) <| rP (eC ..) J
def ZM{x k:Y}(a:aH (x:Z)+k<=134217728)(b:env[4]? =U (U<|.int (x:Z)))(c:env[3]? =U (U<|.int (k:Z)))(d:env[6]? =U (U<|.int ((x/2^k:Y):Z))):(kn P0 8).ex env cLo=U (.int ((x%2^k:Y):Z)):=by show(((env[4]?).bind id).bind λx=>(((env[6]?).bind id).bind λy=>((env[3]?).bind id).bind λz=>binop .LShift y z).bind λy=>binop .BitXor x y)=_;refine rP b<|rP c<|rP d ?_;show((gL (decide ((0:Z)<=(k:Z))&&decide ((aH ((x/2^k:Y):Z):Z)+(k:Z)<=134217728))<|PV.int<|((x/2^k:Y):Z)*2^(k:Z).toNat).bind λy=>binop .BitXor (.int x) y)=_;have e:aH ((x/2^k:Y):Z)<=aH (x:Z):=gj (sP ..)<|aZ _;refine rP (bD (aK _) ..)<|rP (bD (by exact d9 0x20180000006f912a180000006f8f794 a e) ..)<|rP (cM ..) ?_;show U (PV.int<|zK (x:Z)<|(x/2^k:Y)*2^k)=_;exact rP (Pw ..) J
def D1(h:env[i]? =U (U u))(a:env[j]? =U (U v))(b:env[k]? =U (U w)):qV (kn P0 8) env [.var i,.var j,.var k]=U [u,v,w]:=by show((kn P0 8).ex env<|.var i).bind (λv=>(qV (kn P0 8) env [.var j,.var k]).bind λvs=>U<|v::vs)=_;exact rP (rU h) <| rP (Ca a b) J
def P4{st:gM}{vs:aj aA}{x:Z}{L:Y}{Q:zH->aw->Prop}(c:setB N st=ah)(K:KS W N fa (kn P0 8) 8)(hA:Rm 8 A)(k:St W s₀)(H:s₀.heap.get? d=ag)(r:IS W s₀ d a cd cn ci fd n s)(hl:s.heap.PlainList d vs.toArray)(hL:L<vs.length)(I:vs.length<=1024)
  (ha:Av av s) (v:cV W av iX g env s.heap) (M:g.cells.lookup ("a_digits":a7)=U cd) (e0:env[0]? =U (U<|.int (L:Z))) (e4:env[4]? =U (U<|.int x))
  (h:∀t z,Nx W s₀ z->nc W d s.heap z.heap->z.heap.PlainList d (vs.set L<|.int x t).toArray->Q .next z):aL (aQ W.prog W.w) A (exec st g) Q E s:=by
 refine lU c λts e p c=>rL c λtg c=>jb c λo i p2 c=>rJ c λy px c=> ?_;obtain rfl:=dW (n2 c).1;have c2:=n2 (n2 c).2;refine rP (Pe _ _ _ _ _ AI) ?_;refine al<|dK<|al<|K.ex c2.2 hA r.nx.st ha v (rU e4) λu s1 q ru _=>bf.uY ru λt=>al ?_;have x1:nc W d s.heap s1.heap:= .nC q;have B:=r.mv hl (r.nx.trans q) x1;have st:=r.nx.st;refine al<|cC<|fP v.kind (dcd J) (mS (.inr (show g.scope.names.lookup _=_ by exact rP v.names J)) M) B.c1<|al<|cC<|K.ex c2.1 hA B.nx.st (ha.nx q st) (v.nx q st) (rU e0) λiv D l ri _=>al<|dK<|al<|cC ?_;refine bf.uY ri λt2=> ?_;have x2:=x1.trans<|.nC l;have O:=fV l B.nx.st<|fV q st hl;obtain⟨m,el⟩:=O;refine J7 el (aK _) (cQ 0x4002f9111028000000000000000ff875 hL I) (aO▸dz.mpr hL)<|ye<|aM ?_;have c:=md (h:=D.heap) (a:=d) (f:=gP (·.setIfInBounds (L:Z).toNat (.int x t)));have ch:Cu (λb=>b=d) (λb=>b=d) D {D with heap:=D.heap.update d (gP (·.setIfInBounds (L:Z).toNat (.int x t)))}:=⟨λb o j e=>c.extBut b o j e,λb j=>j,J,J⟩;refine h t _ ((B.nx.trans l).chg k ch (λb j=>j▸H) λb o j e=> ?_) (x2.trans λb o _ j e=> .inl<|c.extBut b o j e) ?_
 ·subst j;rw[el]at e;obtain rfl:=sm e;exact .inl ⟨nofun,by show cK "list"≠ .type "code";decide⟩
 ·have:=qv (·.setIfInBounds (L:Z).toNat (.int x t)) ⟨m,el⟩;rw[Bu,cM]at this;exact this
def Il(W:Wd)(N:Nm)(s₀:aw)(n:Y)(d a e f g:aX)(h:gR)(m:Y):Prop:=∀(x L R:Y) {A:cZ} {E:aA->aw->Prop} {s:aw} {vs:aj aA} {k l o:pq} {Q:aA->aw->Prop},
 L<R->R-L<=2^m->R<=vs.length->vs.length<=1024->x<2^((R-L)*n)->Rm (9+m) A->IS W s₀ d a e f g h n s->s.heap.PlainList d vs.toArray->
 (∀(c:aw) (b:aj aA),IS W s₀ d a e f g h n c->nc W d s.heap c.heap->c.heap.PlainList d b.toArray->b.length=vs.length->(∀i,i<L\/R<=i->b[i]? =vs[i]?)->(∀j,j<R-L->∃t,b[L+j]? =U (.int ((EQ n x j:Y):Z) t))->Q .none c)->
 aL (aQ W.prog W.w) A (call (.ref a) [.int x k,.int L l,.int R o]) Q E s
noncomputable def Zu(x n L R:Y):Env:=[U<|.int L,U<|.int R,ag,ag,U<|.int x,U<|.int n,ag,ag]
def ab3{D:IFd N l r s u}{h}{x n L R:Y}{w y A:pq}{b:aX}{m:a7->au aA}(g:m=λz=>[(("R":a7),kf (R:Z) A),(("L":a7),kf (L:Z) y),(("x":a7),kf (x:Z) w)].lookup z)(B:h.Ns b m) (c1:h.IsCell r<|U<|.ref d) (c2:∃t,h.IsCell s<|U<|.int (n:Z) t) (E:h.IsCell u<|U<|.ref a):cV W H iX (lN l b a) (Zu x n L R) h:=by
 obtain⟨t,c2⟩:=c2;refine TU D.kd D.gl D.bl D.nm B (λx j=> ?_) D.inj J λx i v j e=> ?_
 ·have f:∀{k},Zt.lookup x=U k->(k= .cell\/k= .free)->∃c o,l.closure.lookup x=U c/\h.IsCell c o:=λq=>by refine QI q ?_;exact aC Mu (aC Mu<|aC Mu<|aC Mu<|aC Mu<|aC Mu<|aC Mu<|aC (λ_=>⟨_,_,D.cl.1,c1⟩)<|aC (λ_=>⟨_,_,D.cl.2.2,E⟩)<|aC (λ_=>⟨_,_,D.cl.2.1,c2⟩) aN)
  exact j.elim (λh=>f h<|.inl J) λh=>f h<|.inr J
 ·revert e;refine QI j ?_;refine(aC (λe=> ?_)<|aC (λe=> ?_)<|aC (λe=>nd<|sm e)<|aC (λe=>nd<|sm e)<|aC (λe=> ?_)<|aC (λe=> ?_)<|aC (λe=>nd<|sm e)<|aC (λe=>nd<|sm e) aN)
  ·obtain rfl:=sm<|sm e;exact .inl ⟨J,_,by exact rP g J,vI⟩
  ·obtain rfl:=sm<|sm e;exact .inl ⟨J,_,by exact rP g J,vI⟩
  ·obtain rfl:=sm<|sm e;exact .inl ⟨J,_,by exact rP g J,vI⟩
  ·obtain rfl:=sm<|sm e;exact .inr ⟨J,_,_,D.cl.2.1,c2,vI⟩
def AZ{a:Type}{l:aj a}(h:nq af l ah=ah):l=[]:=by
 induction l using aE with
 |nil=>rfl
 |cons=>exact ff h
def G8(h:x∈a)(g:iX.Γ.lookup x=U i):xA iX a x i:=⟨h,g,E3 (dcd J) g,a0⟩
def TC{n m x L R:Y}{st:gM}{z:aj C}{vs:aj aA}{Q:zH->aw->Prop}(g:NJ N st z=ah)(K:KS W N fa (kn P0 8) 8)(O:Rm 8 A)(k:Rm (9+m) A)(sp:Il W N s₀ n d a B D l H m)(r:IS W s₀ d a B D l H n s)(I:s.heap.PlainList d vs.toArray)
  (ha:Av av s) (M:cV W av iX c env s.heap) (o:c.cells.lookup ("inner":a7)=U l) (ev:qV (kn P0 8) env z=U [.int (x:Z),.int (L:Z),.int (R:Z)]) (h1:L<R) (h2:R-L<=2^m) (h3:R<=vs.length) (h4:vs.length<=1024) (h5:x<2^((R-L)*n))
  (h:∀(f:aw) (b:aj aA),IS W s₀ d a B D l H n f->nc W d s.heap f.heap->f.heap.PlainList d b.toArray->b.length=vs.length->(∀i,i<L\/R<=i->b[i]? =vs[i]?)->(∀j,j<R-L->∃t,b[L+j]? =U (.int ((EQ n x j:Y):Z) t))->Q .next f):aL (aQ W.prog W.w) A (exec st c) Q E s:=by
 refine xO g λe p g=> ?_
 have q:aL (aQ W.prog W.w) A (eval e c) (λv f=>match v with| .ref _=>iY|_=>Q .next f) E s:=by refine rG g K O r.nx.st ha M (.inr J) o r.c3 r.fn ev λus s1 u y=> ?_;refine EZ (ba.sq y) λu1 u2 u3 e1 r1 r2 r3=> ?_;subst e1;refine bf.uY r1 λt0=>bf.uY r2 λt1=>bf.uY r3 λt2=> ?_;have x1:nc W d s.heap s1.heap:= .nC u;exact sp x L R h1 h2 h3 h4 h5 k (r.mv I (r.nx.trans u) x1) (fV u r.nx.st I) λf b k1 k2 k3 k4 k5 k6=>h f b k1 (x1.trans k2) k3 k4 k5 k6
 exact wpAny_Expr q (by unfold mF;exact rP M.kind J)<|tz g λ_ _ _ _ _=>rfl
def VT{n x L:Y}{vs:aj aA}{Q:zH->aw->Prop}(e:ir af H (λa r=>ir af r λb r=>nq af r<|setB N a&&k9 b λo=>o.isNone)=ah)(K:KS W N fa (kn P0 8) 8)(I:Rm 8 A)(g:St W s₀)(l:s₀.heap.get? d=ag)(r:IS W s₀ d a z M O fd n s)
  (B:s.heap.PlainList d vs.toArray) (hL:L<vs.length) (m:vs.length<=1024) (ha:Av av s) (er:cV W av iX f env s.heap) (u:f.cells.lookup ("a_digits":a7)=U z) (e0:env[0]? =U (U<|.int (L:Z))) (e4:env[4]? =U (U<|.int (x:Z))) (hx:x<2^n)
  (h:∀(k:aw) (c:aj aA),IS W s₀ d a z M O fd n k->nc W d s.heap k.heap->k.heap.PlainList d c.toArray->c.length=vs.length->(∀i,i<L\/L+1<=i->c[i]? =vs[i]?)->(∀j,j<1->∃t,c[L+j]? =U (.int ((EQ n x j:Y):Z) t))->Q (.ret .none) k):aL (aQ W.prog W.w) A (qP H f) Q E s:=by
 refine hU e λs1 q e=>hU e λs2 q e=>nY e λe=> ?_;refine cz<|P4 (n2 e).1 K I g l r B hL m ha er u e0 e4 λt k v D y=> ?_;refine nM (n2 e).2 λo p ho=> ?_;obtain rfl:=dF.mp ho;refine cz<|wpAny_Return_none<|h k _ (r.mv B v D) D y (dr ..) (λi hi=> ?_) λj hj=>⟨t,?_⟩
 ·exact a6<|cQ 0x3f010201291037 hi
 ·obtain rfl:j=0:=cJ (eF hj) (fZ ..);exact rP (Rb hx) <| gm hL
def QV{n m x L R}{Q:aA->aw->Prop}(D:IFd N l cd cn ci)(hA:Rm (9+m) A)(r:IS W s₀ d a cd cn ci l n s)
  (h:∀i s1 g,ckI N i=ah->Nx W s s1->s.heap.get? g.locals=ag->s1.heap.get? g.locals≠ag->Own (λb=>b=g.locals) ["mid","shift","upper","lower"] g->g.cells=l.closure->cV W (λb=>b=g.locals) iX g (Zu x n L R) s1.heap->Rm (8+m) (A.deeper g)-> aL (aQ W.prog W.w) (A.deeper g) (qP i g) (λfl I=>Q (match fl with| .ret v=>v|_=> .none) I) (λe I=>aL (aQ W.prog W.w) (A.deeper g) (xk g e) (λ_ k=>E e k) (λe' k=>E e' k) I) s1):
  aL (aQ W.prog W.w) A (call (.ref a) [.int x t0,.int L t1,.int R t2]) Q E s:=by
 obtain⟨as,M,j⟩:=D.ps;obtain⟨i,O,α⟩:=D.bd;have β:as.length=3:=by exact rS (aG (f:=(·.arg))) <| rP j J
 refine zh (by have:=hA.depth;exact d9 0x13c1f9299a0aa2102 this) r.nx.st r.fn M D.df (by refine rP j ?_;decide) β.symm O (by refine rP D.nm ?_;decide) (by refine rP j<|rP D.nm ?_;decide) D.co D.gn D.kd λu tk ns y=> ?_;rw[j]at ns;have nx:Nx W s {s with heap:=u,toks:=tk}:= .of_keeps r.nx.st y;refine h i _ (lN l s.heap.objs.size a) α nx (eL _) (by obtain⟨o,es,ep,e,_⟩:=ns;exact λz=>nd<|z.symm.trans e) ⟨J,λx B c H=> ?_,λx B=> ?_⟩ J (ab3 (D:=D) J ns (r.c1.keeps y) (r.c2.imp λt q=>q.keeps y)<|r.c3.keeps y)<|Rm.deeper (n:=8+m) (rP (show 8+m+1=9+m from wW ..) hA) _
 ·have H:l.closure.lookup x=U c:=H;rw[D.no x B]at H;exact nd H
 ·show l.scope.names.lookup x=_\/_;refine rP D.nm ?_;simp only[aR,a0,lH]at B;rcases B with rfl|rfl|rfl|rfl<;>exact .inl J
def VQ:Tz [U<|.int (L:Z),U<|.int (R:Z),U<|.int (M:Z),U<|.int (k:Z),U<|.int (x:Z),U<|.int (n:Z),U<|.int (u:Z),U<|.int (l:Z)]:=by intro i v h;have:=cP h;simp only[aR,a0,lH,adg]at this;rcases this with rfl|rfl|rfl|rfl|rfl|rfl|rfl|rfl<;>exact⟨_,J⟩
def Na{n m:Y}(D:IFd N fd cd cn ci)(K:KS W N fa (kn P0 8) 8)(hn:0<n)(β:n<=16384)(γ:St W s₀)(σ:s₀.heap.get? d=ag)(ih:∀w,m=w+1->Il W N s₀ n d a cd cn ci fd w):Il W N s₀ n d a cd cn ci fd m:=by
 intro x L R A E s vs t0 t1 t2 Q ι hm hR y hx hA r hl h;refine QV D hA r λsts s1 g c H κ τ ow μ er ν=> ?_;have l:=ν.less (show 8<=8+m from bq ..);have δ:Av (λb=>b=g.locals) s1:=λb hb=>hb▸τ;refine hU c λs1 q c=>hU c λs2 q c=>hU c λs3 q c=>hU c λs4 q c=>hU c λs5 q c=>hU c λs6 q c=>hU c λs7 q c=>nY c λc=> ?_;have h1:=n2 c;have h2:=n2 h1.2;have h3:=n2 h2.2;have h4:=n2 h3.2;have h5:=n2 h4.2;have h6:=n2 h5.2;clear c;have hl1:=fV H r.nx.st hl;have r1:=r.mv hl (r.nx.trans H)<|.nC H;have υ:=μ▸D.cl.1;have ξ:=μ▸D.cl.2.2;have v:=r.nx.st;refine cz<|Ha h1.1 λte sa sb p h1=>SE<|K.tr (n2 h1).1 l H.st δ er (NM J J) J λs5 B=> ?_;have I:=H.trans B;cases ε:((L:Z)+1==(R:Z))with
 |true=>
  have φ:R=L+1:=by have:=dW ε;exact cQ 0x1832074f960121b03 ι this
  subst φ;have x5:nc W d s.heap s5.heap:= .nC I;refine VT (n2 (n2 h1).2).2 K l γ σ (r.mv hl (r.nx.trans I) x5) (fV I v hl) hR y (δ.nx B H.st) (er.nx B H.st) υ J J (by rw[show(L+1-L)*n=n by exact rP (ga ..)<|rP (d8 ..) J]at hx;exact hx) λs' χ k1 k2 k3 k4 k5 k6=> ?_;exact h s' χ k1 (x5.trans k2) k3 k4 k5 λj hj=>k6 j<|d9 0x9e8ca010222b1a602 (by rfl) hj
 |false=>
  obtain rfl:=AZ (n2 (n2 h1).2).1
  have α:L+1<R:=by
   have:¬((L:Z)+1=R):=λz=>by rw[eR.mpr z]at ε;exact tf ε
   exact cQ 0x7d0102f4796710b2 this ι
  obtain⟨w,rfl⟩:∃w,m=w+1:=by
   induction m using cg with
   |zero=>have hm:R-L<=1:=hm;exact(fM.mpr hm<|tc.mpr<|dO L 1▸α).elim
   |succ w=>exact⟨w,J⟩
  have IH:=ih w J;have f:=HO α hm;generalize hM:(L+R)/2=M at f;have hN:∀b,b=g.locals->s.heap.get? b=ag:=λb z=>by exact z▸κ
  have hO:∀b,b=g.locals->b=g.locals:=λ_=>id;refine iU<|cz<|sK h2.1 K l v I ow hO hN (G8 (.head _) J) (δ.nx B H.st) (er.nx B H.st) ((NN J J).trans<|rP hM J) λs6 ψ ω Γ=> ?_;refine cz<|sK h3.1 K l v ψ ow hO hN (G8 (.tail _<|.head _) J) ω Γ (TR (bF f.1) (bF<|aV f.2.1<|ab hR y) β J J J) λs7 Δ Φ Ψ=> ?_;refine cz<|sK h4.1 K l v Δ ow hO hN (G8 (.tail _<|.tail _<|.head _) J) Φ Ψ (ZL J J) λs8 Ω av4 er4=> ?_;have hxb:aH (x:Z)<=(R-L)*n:=cT.mpr hx;have π:=ab hR y;have b1:(R-L)*n<=1024*16384:=eS (ab (lA ..) π) β;have b2:(M-L)*n<=1024*16384:=eS (ab (lA ..)<|ab (bF f.2.1) π) β;refine cz<|sK h5.1 K l v Ω ow hO hN (G8 (.tail _<|.tail _<|.tail _<|.head _) J) av4 er4 (ZM (k:=(M-L)*n) (d9 0x40003f94002fc1140003f94002fc2120180000006f910a1 hxb b1 b2) J J J) λs9 u av5 ζ=> ?_;have x9:nc W d s.heap s9.heap:= .nC u;have r9:=r.mv hl (r.nx.trans u) x9;have η:=fV u v hl;have ρ:Rm (9+w)<|A.deeper g:=by exact rP (show 9+w=8+(w+1)from sj 8 w) ν
  have lt1:x%2^((M-L)*n)<2^((M-L)*n):=bP _<|Ke<|dcd J
  have lt2:x/2^((M-L)*n)<2^((R-M)*n):=by refine(cU<|Ke<|dcd J).mpr ?_;exact rS (cW ..) <| rS (d4 ..) <| rP (GR (bF f.2.1) (bF f.1) ..) hx
  refine cz<|TC h6.1 K l ρ IH r9 η av5 ζ ξ (D1 J J J) f.1 f.2.2.1 (bF<|aV f.2.1 hR) y lt1 λs10 ws k1 k2 k3 k4 k5 k6=> ?_
  have av6:Av (λb=>b=g.locals) s10:=λb hb=>by obtain⟨mm,q⟩:=ζ.ns;obtain⟨o,es,ep,e,_⟩:=k2.ns u.st η q;refine rP hb<|rP e ?_;nofun
  refine cz<|TC h6.2 K l ρ IH k1 k3 av6 (k2.er u.st η J VQ ζ) ξ (D1 J J J) f.2.1 f.2.2.2 (k4▸hR) (k4▸y) lt2 λs11 us j1 j2 j3 j4 j5 j6=> ?_;refine iU (h s11 us j1 ((x9.trans k2).trans j2) j3 (j4.trans k4) (λi hi=>(j5 i (hi.imp (fY · f.1) id)).trans<|k5 i<|gr 0x1f99032203110290211029 hi f.2.1) λj hj=> ?_);by_cases O:j<M-L
  ·obtain⟨t,e⟩:=k6 j O;exact⟨t,by exact rP (j5 _<|.inl (by rw[dO];exact tc.mp O))<|rP e<|rP (Rc O) J⟩
  ·obtain⟨k,rfl⟩:=Nat.exists_eq_add_of_le<|fM.mp O;obtain⟨t,e⟩:=j6 k<|Nat.lt_of_add_lt_add_left<|rP (dO (M-L)<|R-M) <| rP (GR (bF f.2.1)<|bF f.1) hj;refine⟨t,?_⟩;exact rS (iQ ..)<|rP (kO (bF f.1) ..)<|rP (e ..)<|rP (NE ..) J
def Zs{n}(D:IFd N h i j k)(K:KS W N fa (kn P0 8) 8)(g:0<n)(c:n<=16384)(b:St W s₀)(f:s₀.heap.get? d=ag):∀m,Il W N s₀ n d a i j k h m:=by
 intro m;induction m with
 |zero=>exact Na D K g c b f λl e=>nomatch e
 |succ m o=>exact Na D K g c b f λl e=>by obtain rfl:=fO e;exact o
noncomputable def XH:aj<|a7 × dJ:=[("a",.local),("n",.cell),("a_digits",.cell),("inner",.cell),("len",.globalImplicit)]
noncomputable def uX:Cx:=⟨XH,[("a",0),("n",1),("a_digits",2)],[]⟩
noncomputable def Ue:C:= .bin .Mult (.lst [.lit<|.int 0])<|.bin .FloorDiv (.bin .Sub (.bin .Add (.FF .m_ (.var 0) [])<|.var 1)<|.lit<|.int 1)<|.var 1
def Gl(N:Nm)(b:pJ)(a:aj gM):aB:=ir af a λs1 r=>ir af r λc r=>ir af r λd r=>ir af r λf r=>nq af r<|Ew N uX s1 "a_digits" Ue&&(Ob Zt ["x","L","R"] b c (ckI N)&&(WF N uX d (.var 0) (λg=>Fz af g λs=>vU s λe=>Bj N uX e [.var 0,.lit<|.int 0,.blt .len [.var 2]]) &&k9 f λo=>o.any λe=>j' af e λx=>(x==("a_digits":a7))))
section
variable {W:Wd}
noncomputable def iP(a n:Y):Y:=(aH (a:Z)+n-1)/n
def B'(b:0<n):a<2^(iP a n*n):=by
 have h:aH (a:Z)<=iP a n*n:=by unfold iP;have e:=eV (aH (a:Z)+n-1) n;have h:=bP (aH (a:Z)+n-1) b;exact rP (bS ..) <| uS 0x1380342241a3630a2a101 (by rfl) e h
 exact cT.mp h
def wf(h:aH y<=9000):c7 x y=af:=by
 have:¬((if y==0 then 0 else y.natAbs.log2/30+1)>300):=by
  unfold aH at h;split at h<;>rename_i q
  ·exact rP (bM q) <| iG _
  ·exact rP (bA q) <| fM.mpr<|(cU<|dcd J).mpr h
 show(decide ((if y==0 then 0 else y.natAbs.log2/30+1)>300)&&_)=af;exact rP (bz this) J
def Rn(c:0<n)(b:n<=16384)(d:iP a n<=1024):(kn P0 8).ex [U<|.int (a:Z),U<|.int (n:Z),o] Ue=U (.lst<|bJ (iP a n)<|.int 0):=by
 show(U<|PV.lst [.int 0]).bind (λx=>((binI .FloorDiv (((aH (a:Z):Y):Z)+n-1) n)).bind λy=>binop .Mult x y)=_
 have e:binI .FloorDiv (((aH (a:Z):Y):Z)+n-1) n=U (.int (iP a n:Y)):=by show gL (!(decide ((n:Z)=0))&& !(c7 _ _)) (PV.int _)=_;refine rP (bz (by exact du 7493479 c) ..)<|rP (wf (ab (cT.mpr (show n<2^15 by exact bi b<|dcd J))<|dcd J) ..) ?_;congr 2;refine rP (bW _ (aK _) ..) ?_;exact rP (show((aH (a:Z):Y):Z)+n-1=((aH (a:Z)+n-1:Y):Z)from d9 0x1ca9bac90172610a2a264f79a6 J c) J
 refine rP (e ..) ?_;show gL (aY 1 1024&&aY (iP a n:Z).natAbs 1024) (PV.lst<|tT (iP a n:Z) [.int 0])=_;refine rP (aP (show(iP a n:Z).natAbs<=1024 from d) ..) ?_;show U (PV.lst _)=_;congr 2;unfold tT;refine rP (cM ..) ?_;generalize iP a n=k;induction k with
 |zero=>rfl
 |succ k f=>exact rP (on ..) <| rP (gp ..) <| rP (f ..) J
def MD(b:a.scope.kind= .function)(d:fz x=ah)(e:a.kindOf x=U .cell)(f:a.cells.lookup x=U c)(h:s.heap.IsCell c<|U v)(q:Q (.ret v) s):aL (aQ W.prog W.w) A (exec (.Return (U<|.Name x p) g) a) Q E s:=ng<|fP b d (mS (.inl e) f) h q
def Js{l:aj Z}:∀{vs:aj aA},ba W d h (l.map PV.int) vs->ba W av' f (l.map PV.int) vs:=by
 induction l with
 |nil=>intro _ r;exact r
 |cons _ _ a=>intro _ r;exact jj r λv q e b c=>⟨v,q,e,b,a c⟩
def ints_of:∀(l:aj Z) (vs:aj aA),vs.length=l.length->(∀(j:Y) (i:Z),l[j]? =U i->∃t,vs[j]? =U (kf i t))->ba W d h (l.map PV.int) vs:=by
 intro l;induction l with
 |nil=>
  intro a;cases a with
  |nil=>intro _ _;exact .nil
  |cons _ _=>intro e _;cases e
 |cons i l b=>
  intro a;cases a with
  |nil=>intro e _;cases e
  |cons v vs=>intro e g;obtain⟨t,c⟩:=g 0 i J;obtain rfl:=sm c;exact .cons vI<|b vs (fO e) λj i e=>g (j+1) i e
def VV{vs:aj aA}{Q:aA->aw->Prop}(c:Av f s₀)(g:s₀.heap.get? d=ag)(k:Nx W s₀ s)(l:s.heap.PlainList d vs.toArray)(m:vs.length=iP x n)(o:∀j,j<iP x n->∃t,vs[j]? =U (.int ((EQ n x j:Y):Z) t)) (h:∀v a,Nx W s₀ a->bf W f a.heap (.lst<|(O8 n (iP x n) x).map .int) v->Q v a):Q (.ref d) s:=by
 refine h _ _ k<|vL (λz=>c d z g) l<|ints_of _ _ (rP (HJ ..)<|rP (m ..) J) λj i e=> ?_;have b:j<iP x n:=by exact rS (HJ n (iP x n) x) <| (cy.mp e).1
 rw[Q0 n _ _ j b]at e;obtain rfl:=sm e;exact o j b
def QY{t t0:pq}{Q:aA->aw->Prop}(K:KS W N fa (kn P0 8) 8)(T:Cp W c P pos α)(I:OFd W N a L XH ["a","n"] c α<|Gl N pos)(hn:0<n)(Φ:n<=16384)(hf:iP x n<=1024) (hA:Rm 40 A) (st:St W s) (ha:Av av s) (h:∀v r,Nx W s r->bf W av r.heap (.lst<|(O8 n (iP x n) x).map .int) v->Q v r):aL (aQ W.prog W.w) A (call (.ref a) [.int (x:Z) t0,.int (n:Z) t]) Q E s:=by
 refine zf I (by have:=hA.depth;exact bi (bq ..) this) st J (.inl J) (.inr ⟨J,λ_=>rfl⟩) λδ sts hb1 f wj nx=> ?_;have Ψ:δ.heap.IsCell (s.heap.objs.size+1)<|U<|.int (n:Z) t:=wj.cell "n" _ J;have Ω:δ.heap.IsCell (s.heap.objs.size+2) ag:=wj.cell "a_digits" _ J;have hci:δ.heap.IsCell (s.heap.objs.size+3) ag:=wj.cell "inner" _ J;have hns:=wj.toInCall.ns;have B:(cG L s.heap.objs.size a).cells=[(("inner":a7),s.heap.objs.size+3),(("a_digits":a7),s.heap.objs.size+2),(("n":a7),s.heap.objs.size+1)]:=by show eH _ L.scope.names []=_;exact rP I.nm J
 have μ:∀b,s.heap.objs.size<=b->s.heap.get? b=ag:=λb O=>Ip O;have ν:Rm 39<|A.deeper<|cG L s.heap.objs.size a:=Rm.deeper hA _;have π:=ν.less (show 8<=39 by decide)
 have mkE:∀{r:aw} {o:au aA} {pv:au PV} {oi:au aA},r.heap.Ns s.heap.objs.size (SF (λz=>XH.lookup z) [("a",.int (x:Z) t0),("n",.int (n:Z) t)] λ_=>ag)->r.heap.IsCell (s.heap.objs.size+1) (U<|.int (n:Z) t)->r.heap.IsCell (s.heap.objs.size+2) o->r.heap.IsCell (s.heap.objs.size+3) oi-> (∀p,pv=U p->∃v,o=U v/\bf W (λ_=>iY) r.heap p v)->cV W (λ_=>iY) uX (cG L s.heap.objs.size a) [U<|.int (x:Z),U<|.int (n:Z),pv] r.heap:=by
  intro r o pv oi k1 k2 k3 k4 k5;refine NQ I k1 (λz hz=> ?_) (λz hz=> ?_) (λy z d h1 h2=> ?_) J λz i v hz hv=> ?_
  ·exact QI hz (G:=λ_ k=>k= .free->iY) (aC (λh=>nomatch h)<|aC (λh=>nomatch h)<|aC (λh=>nomatch h)<|aC (λh=>nomatch h)<|aC (λh=>nomatch h) aN) J
  ·refine rP B ?_;refine Ud hz ?_;exact aC (λh=>nomatch h)<|aC (λ_=>⟨_,_,J,k2⟩)<|aC (λ_=>⟨_,_,J,k3⟩)<|aC (λ_=>⟨_,_,J,k4⟩)<|aC (λh=>nomatch h) aN
  ·rw[B]at h1 h2;exact xY s.heap.objs.size (l:=[3,2,1]) J (dcd J) y z d h1 h2
  ·revert hv;refine QI hz ?_;refine aC (λhv=> ?_) (aC (λhv=> ?_)<|aC (λhv=> ?_) aN)
   ·obtain rfl:=sm<|sm hv;exact .inl ⟨J,_,J,vI⟩
   ·obtain rfl:=sm<|sm hv;exact .inr ⟨J,_,_,by exact rP B J,k2,vI⟩
   ·obtain⟨w,e,r9⟩:=k5 v<|sm hv;subst e;exact .inr ⟨J,_,w,by exact rP B J,k3,r9⟩
 refine hU f λs1 q f=>hU f λs2 q f=>hU f λs3 q f=>hU f λs4 q f=>nY f λf=> ?_;have h1:=n2 f;have h2:=n2 h1.2;have h3:=n2 h2.2;clear f;have κ:∀z,(cG L s.heap.objs.size a).kindOf z=XH.lookup z:=λz=>by show L.scope.names.lookup z=_;exact rP I.nm J
 refine cz<|lU h1.1 λts e p hs=>rL hs λtg hs=>rJ hs λy px hs=> ?_;obtain rfl:=dW (n2 hs).1;have er:=mkE (pv:=ag) hns Ψ Ω hci λp e=>nd e;have ρ:=qg (env:=cG L s.heap.objs.size a) (x:="a_digits") (p:=px) (v:=e) (l:=p.line) er.kind;rw[er.names,n0 (n2 (n2 hs).2).1]at ρ;refine iV (K.ex (n2 (n2 hs).2).2 π nx.st (λ_ h=>h.elim) er (Rn hn Φ hf) λu s5 ε ru fr=> ?_) ρ;have fr:=fr 1 J;clear hs ρ;revert fr;refine bf.Jh ru λd vs _ hl σ fr=> ?_;have hd1:=fr d J;have hd:s.heap.get? d=ag:=nx.new st hd1;have β:vs.length=iP x n:=by exact rS σ.length<|rP jM J
 have cn5:=jF ε nx.st Ψ;have ci5:=jF ε nx.st hci;have τ:=jF ε nx.st Ω;have ns5:=Mn ε nx.st hns;refine wL I.H.kd (κ _) (rP B J) τ λh' hc' ζ=> ?_;have ch:Cu (λb=>b=s.heap.objs.size+2) (λb=>b=s.heap.objs.size+2) s5 {s5 with heap:=h'}:=⟨λb o O e=>ζ.extBut b o O e,λb O=>O,J,J⟩
 have nx6:Nx W s {s5 with heap:=h'}:=(nx.trans ε).chg st ch (λb O=>O▸μ _ (bq _ _)) λb o O e=> .inr λvs z=>by subst O;obtain⟨o1,e1,d1⟩:=τ;obtain rfl:=sm<|e.symm.trans e1;rw[d1]at z;cases z
 have cn6:h'.IsCell (s.heap.objs.size+1)<|U<|.int (n:Z) t:=cn5.sameBut ζ<|c6<|h_ (dcd J) _;have ci6:h'.IsCell (s.heap.objs.size+3) ag:=ci5.sameBut ζ<|gw<|h_ (dcd J) _;have ns6:h'.Ns s.heap.objs.size _:=ns5.sameBut ζ<|c6<|lC<|dcd J
 have hl6:h'.PlainList d vs.toArray:=hl.imp λm e=>ζ.extBut _ _ (λz=>by obtain⟨o1,e1,d1⟩:=τ;rw[<-z,e]at e1;obtain rfl:=sm e1;cases d1) e
 clear hl;refine N9 h2.1 λg body sc D=> ?_;refine cz<|Bh T st nx6 (rP D.eq J) (rP D.eq J) (D.ann _) I.H.kd I.H.gl I.cd ?_ (κ _) (rP B J) ci6 (μ _<|bq _ _) (λp hp hf=> ?_) ?_ D.doc λfi c' υ pm s7 M hfn ξ kp=> ?_
 ·unfold Xg;exact rP (show(cG L s.heap.objs.size a).kindOf "inner"=U .cell from κ _) I.qu
 ·rw[D.nm]at hp;refine rP B ?_;simp only[Zt,aR,a0,lH]at hp;rcases hp with rfl|rfl|rfl|rfl|rfl|rfl|rfl|rfl|rfl|rfl;all_goals first|exact⟨_,J⟩|cases hf
 ·exact rP B <| rP D.nm J
 have φ:∀{b o},h'.get? b=U o->(∀vs,o.data≠ .fields vs)->b≠P:=λ{b o} e hf z=>by obtain⟨ps,e2⟩:=tM (T.get _ nx6.st.ti).2;rw[z,show h'.get? P=U (po ps)from e2]at e;obtain rfl:=sm e;exact hf _ J
 have kc:∀{b v},b≠s.heap.objs.size+3->h'.IsCell b v->s7.heap.IsCell b v:=λ{b v} O hc=>hc.imp λo q=>⟨kp b o O (φ q.1 λvs z=>by rw[q.2]at z;cases z) q.1,q.2⟩;have cn7:=kc (c6<|h_ (dcd J) _) cn6;have χ:=kc (c6<|h_ (dcd J) _) hc'
 have ns7:s7.heap.Ns s.heap.objs.size _:=ns6.at λo e=>kp _ o (c6<|lC<|dcd J) (φ e λvs z=>by obtain⟨o1,es,ep,e3,d3,_⟩:=ns6;rw[e]at e3;obtain rfl:=sm e3;rw[d3]at z;cases z) e
 have η:s7.heap.PlainList d vs.toArray:=hl6.imp λm e=>kp _ _ (λz=>by obtain⟨o1,e1,d1⟩:=ci6;rw[<-z,e]at e1;obtain rfl:=sm e1;cases d1) (φ e λvs z=>by cases z) e
 have rv7:bf W (λ_=>iY) s7.heap (.lst<|bJ (iP x n)<|.int 0)<|.ref d:=vL (λz=>z) η (by rw[<-KF]at σ⊢;exact Js σ)
 have er7:=mkE ns7 cn7 χ ξ λp e=>⟨_,J,sm e▸rv7⟩;have I7:IS W s d fi (s.heap.objs.size+2) (s.heap.objs.size+1) (s.heap.objs.size+3) (DQ α g body sc (mV (cG L s.heap.objs.size a).cells sc.names []) pm (.ref c') υ) n s7:=⟨M,hfn,χ,⟨t,cn7⟩,ξ⟩
 have fin:∀(r:aw) (ws:aj aA),Nx W s r->r.heap.PlainList d ws.toArray->ws.length=iP x n->(∀j,j<iP x n->∃t,ws[j]? =U (.int ((EQ n x j:Y):Z) t))->r.heap.IsCell (s.heap.objs.size+2) (U<|.ref d)-> aL (aQ W.prog W.w) (A.deeper<|cG L s.heap.objs.size a) (qP [s4]<|cG L s.heap.objs.size a) (λfl r=>Q (match fl with| .ret v=>v|_=> .none) r) (λe r=>aL (aQ W.prog W.w) (A.deeper<|cG L s.heap.objs.size a) (xk (cG L s.heap.objs.size a) e) (λ_ ψ=>E e ψ) (λe' ψ=>E e' ψ) r) r:=λr ws k1 k2 k3 k4 k5=>by refine nM h3.2 λo p ho=> ?_;refine cm (kD ho) λe he ho=> ?_;subst he;refine jc ho λz q ho=> ?_;obtain rfl:=dW ho;exact cz<|MD I.H.kd (dcd J) (κ _) (rP B J) k5<|VV ha hd k1 k2 k3 k4 h
 refine cz<|Ha h3.1 λte sa sb p h5=>SE<|K.tr (n2 h5).1 π M.st (λ_ h=>h.elim) er7 (rU J) (b:=(x:Z)!=0) J λs8 γ=> ?_;have ω:=M.trans γ;cases O:((x:Z)!=0)with
 |false=>
  obtain rfl:=AZ (n2 (n2 h5).2).1;have Γ:x=0:=by have:=bne_eq_false_iff_eq.mp O;exact ji this
  have hf0:iP x n=0:=by
   refine rP Γ ?_;
   exact zO<|cQ 0x1898c90172617a0a102 J hn
  exact iU<|fin s8 vs ω (fV γ M.st η) β (λj hj=>(iG j<|hf0▸hj).elim) (jF γ M.st χ)
 |true=>
  have Γ:x≠0:=λz=>by rw[z]at O;exact tf O.symm
  have hfp:0<iP x n:=by
   rcases wT (iP x n)with z|z
   ·have:=B' (a:=x) hn;rw[z,oD]at this;exact cQ 8110415033888882 Γ this
   ·exact z
  refine rL (n2 (n2 h5).2).2 λs9 h6=>xO h6 λe p h6=> ?_;have I8:=I7.mv η ω<|.nC γ;refine cz<|wpAny_Expr ?_ (by unfold mF;exact rP (show(cG L s.heap.objs.size a).scope.kind=_ from I.H.kd) J)<|tz (P:=λe=>Kt e ag p.line (cG L s.heap.objs.size a)=gZ af) h6 λ_ _ _ _ _=>rfl;refine rG h6 K π ω.st (λ_ h=>h.elim) (er7.nx γ M.st) (.inl J) (rP B J) I8.c3 I8.fn (vs:=[.int (x:Z),.int ((0:Y):Z),.int (iP x n:Z)]) ?_ λus s10 nx10 rus=> ?_
  ·show(U<|PV.int (x:Z)).bind (λv=>((U<|PV.int 0).bind λv=>((gL (aY (bJ (iP x n)<|PV.int 0).length big) (PV.int (bJ (iP x n) (PV.int 0)).length)).bind λw=>U [w]).bind λvs=>U (v::vs)).bind λvs=>U (v::vs))=_;exact rP jM <| rP (aP (ab hf (dcd J))) J
  ·refine EZ (ba.sq rus) λu1 u2 u3 e1 r1 r2 r3=> ?_;subst e1;refine bf.uY r1 λt0=>bf.uY r2 λt1=>bf.uY r3 λt2=> ?_;have ι:=γ.trans nx10;have I10:=I7.mv η (M.trans ι) (.nC ι)
   have DI:IFd N (DQ α g body sc (mV (cG L s.heap.objs.size a).cells sc.names []) pm (.ref c') υ) (s.heap.objs.size+2) (s.heap.objs.size+1) (s.heap.objs.size+3):=by
    have hcl:mV (cG L s.heap.objs.size a).cells sc.names []=[(("n":a7),s.heap.objs.size+1),(("inner":a7),s.heap.objs.size+3),(("a_digits":a7),s.heap.objs.size+2)]:=by exact rP B <| rP D.nm J
    have Δ:(DQ α g body sc (mV (cG L s.heap.objs.size a).cells sc.names []) pm (.ref c') υ).closure=_:=hcl;refine⟨D.co,D.gn,D.kd,D.nm,J,J,?_,λz hz=> ?_,λx y d h1 h2=> ?_,J,⟨g.args,D.eq,D.nms⟩,⟨body,J,D.bd⟩⟩
    ·exact rP Δ <| ⟨J,J,J⟩
    ·refine rP Δ ?_;simp only[aR,a0,lH]at hz;rcases hz with rfl|rfl|rfl|rfl<;>rfl
    ·rw[Δ]at h1 h2;exact xY s.heap.objs.size (l:=[1,3,2]) J (dcd J) x y d h1 h2
   refine Zs DI K hn Φ st hd 10 x 0 (iP x n) hfp hf (cD β.symm) (β▸hf) (rP (mf ..) <| B' hn) (ν.less (dcd J)) I10 (fV ι M.st η) λr ws k1 k2 k3 k4 k5 k6=> ?_;exact iU (fin r ws k1.nx k3 (k4.trans β) (λj hj=>by obtain⟨t,e⟩:=k6 j hj;exact⟨t,by rw[kt]at e;exact e⟩) k1.c1)
end
def D7:∀{a:aj<|aX × aX},xl a h->(c,P)∈a->Xo h c P:=by
 intro a;induction a with
 |nil=>intro _ m;exact bI m a0
 |cons b r d=>
  obtain⟨f,g⟩:=b;intro x m;rcases aR.mp m with e|m
  ·obtain⟨rfl,rfl⟩:=Prod.mk.inj e;exact x.1
  ·exact d x.2 m
def Eb(x:ny P h b)(d:∃a,h.get? P=U (po a))(c)(o)(vs)(e:h.get? c=U o)(f:o.cls= .type "code")(_:o.data= .fields vs):b.get? c=U o:=x _ _ (λz=>d.elim λa q=>bI (show im= .type "code" from(az Obj.cls<|sm<|(z▸e).symm.trans q).symm.trans f)<|dcd J) e
def D8(x:ny P h b)(c:∃d,h.get? P=U (po d)):xl a h->xl a b:=xe<|Eb x c
def ju.but(x:ny P h c)(d:∃f,h.get? P=U (po f))(g:R≠P):ju h R b a->ju c R b a:=ju.map (λ_ e=>x _ _ g e)<|Eb x d
section
variable {K:uj}
def G9{k:TabsAt b a}{T:Top p loose mean mg o a}{X:K.In a}{l:Xk K=ah}{c P}{pos}{qual}(d:(c,P)∈b)(f:(P,pos,qual)∈ones)(m:∀q∈ones,q.1=P->q=(P,pos,qual)):Cp (mkW g w n ones k T X l) c P pos qual:=by
 refine⟨hY d,λh x=>⟨D7 x.1 d,x.2 _ f⟩,λh r x y z=> ?_⟩;have i:=tM<|z.2 _ f;refine⟨D8 x i z.1,λq j=> ?_⟩;by_cases e:q.1=P
 ·exact rP ((m q j e)) <| y
 ·exact(z.2 q j).but x i e
end
noncomputable def Y6(K:uj)(a:aX)(nm:aj<|a7 × dJ)(e:aj a7)(c:aX)(d:a7)(ck:aj gM->aB):aB:=(fnOf K a).any λb=>fdB K af b&&(xQ b.params&&(Li (b.params.args.map (·.arg)) e&&(decide (b.scope.names=nm)&&((KV b.code).any (aF c)&&(decide (b.qualname++".<locals>."++"inner"=d)&&ck (AK b))))))
def Mm(h:Y6 W.K a nm e c b ck=ah):∃d,OFd W N a d nm e c b ck:=by refine cm (kD h) λd q h=> ?_;refine cm (x7 q) λo f g=> ?_;have H:=F7 (n2 h).1;have h:=n2 (n2 h).2;have i:=tW h.1;have h:=n2 h.2;have j:d.params.args.map (·.arg)=e:=aq h.1;have h:=n2 h.2;have k:=aq h.1;have h:=n2 h.2;refine cm (kD h.1) λt l m=> ?_;have h:=n2 h.2;refine cm H.bd λs n r=> ?_;exact⟨d,⟨o,W.X _ _ f,g⟩,H,⟨_,i,j⟩,k,by exact rP (By l)<|rP (aJ m) J,aq h.1,⟨s,n,rS r <| h.2⟩⟩
inductive IsD2I:aj PV->PV->Prop
 |mk (l:aj Z) (n:Y) (h1:0<n) (h2:n<=16384) (h3:l.length<=1024) (h4:∀d∈l,aH d<=1000000):IsD2I [.lst<|l.map .int,.int (n:Z)]<|.int<|ur n l
def RD(e:BP as=U r):IsD2I as r:=by
 refine gO e λp c e=> ?_;refine rP (jX c) ?_;obtain⟨x,y⟩:=p;clear c;induction x using PV.casesOn with
 |lst s=>induction y using PV.casesOn with
  |int n=>
  have h:=n8 e
  refine gO h.2 λl k m=> ?_
  have f:=cN m
  have g:=n2 h.1
  have i:=n2 g.2
  have j:=aq g.1
  have o:=aq i.1
  have a:=aD i.2
  obtain rfl:=f.2
  rw[Jt k]at a⊢
  rw[aG]at a
  have b:n=(n.toNat:Z):=f7 0x1aca89005500c706 J j
  exact rP b <| .mk l n.toNat (f7 30165782642 j b) (f7 0x3070640003f80440003f901 o b) a λd q=>aD<|a_.mp f.1 d q
  |_=>exact nd e
 |_=>exact nd e
inductive IsI2D:aj PV->PV->Prop
 |mk (x n:Y) (h1:0<n) (h2:n<=16384) (h3:iP x n<=1024):IsI2D [.int (x:Z),.int (n:Z)]<|.lst<|(O8 n (iP x n) x).map .int
def QZ(e:BN as=U r):IsI2D as r:=by
 refine gO e λp b e=> ?_;refine rP (jX b) ?_;obtain⟨x,y⟩:=p;clear b;induction x using PV.casesOn with
 |int a=>induction y using PV.casesOn with
  |int n=>
  have h:=cN e
  have c:=n2 h.1
  have d:=n2 c.2
  have f:=n2 d.2
  have i:=aq c.1
  have g:=aq d.1
  have j:=aq f.1
  have k:=aD f.2
  obtain rfl:=h.2
  obtain⟨x,rfl⟩:=EX i
  obtain⟨m,rfl⟩:=EX<|jC g
  exact .mk x m (dz.mp g) (dz.mp j) k
  |_=>exact nd e
 |_=>exact nd e
def Dh(e:Fn.prim f= .prim g):f=g:=by cases e;rfl
def Qa(D:N.fr pi=af)(H:N.fr pd=af)(K:KS W N fa (kn P0 8) 8)(I:Cp W L Pi a M)(O:Cp W cd Pd b qd) (hI:Y6 W.K (fa pi) XH ["a","n"] L M (Gl N a)=ah) (hD:Y6 W.K (fa pd) oNm ["digits","n"] cd qd (N' N b)=ah):W9 W N fa<|progOf O5 pi pd:=by
 obtain⟨fi,II⟩:=Mm hI;obtain⟨fd,ID⟩:=Mm hD
 have c:∀{g h},progOf O5 pi pd g=U (.prim h)->(g=pi/\h=BN)\/(g=pd/\h=BP):=λ{g h} e=>by
  unfold progOf at e;generalize findR g O5=o at e;induction o using bX with
  |some r=>exact ff<|az fnP e
  |none=>
   have e:yC pi pd g=U (.prim h):=e;unfold yC at e;cases q:aF pi g with
   |true=>rw[q]at e;exact .inl ⟨(aJ q).symm,(Dh<|sm e).symm⟩
   |false=>cases d:aF pd g with
    |true=>rw[q,d]at e;exact .inr ⟨(aJ d).symm,(Dh<|sm e).symm⟩
    |false=>rw[q,d]at e;exact nd e
 refine⟨λg h e=> ?_,λ{g h as r vs A s av Q E} e v w st y z B=> ?_⟩
 ·rcases c e with⟨rfl,_⟩|⟨rfl,_⟩
  ·exact D
  ·exact H
 ·rcases c e with⟨rfl,rfl⟩|⟨rfl,rfl⟩
  ·cases QZ v with
   |mk x n f i j=>refine jj (ba.jX z) λu1 u2 k m u=> ?_;subst k;refine bf.uY m λt0=>bf.uY u λt1=> ?_;exact QY K I II f i j w st y B
  ·cases RD v with
   |mk l n f i j k4=>refine jj (ba.jX z) λu1 u2 k m u=> ?_;subst k;refine bf.uY u λt1=> ?_;exact RB K O ID f i j k4 w st y m λt s' nx=>B _ s' nx vI
def ks0(a:nH W N fa)(b:kU W N.ea)(M:vn W)(c:zA W N fa):∀n,KS W N fa (kn P0 n) n:=Tx (f:=0) a b M c ⟨λ_ _ e=>nd e,λe=>nd e⟩ λ_ _ _ _ _ e=>nd e
end
namespace L2
noncomputable def p6:pJ:=⟨33,4,42,28⟩
noncomputable def p7:pJ:=⟨48,4,53,55⟩
noncomputable def ones:aj<|aX × pJ × a7:=[(47,p6,"_int2digits.<locals>.inner"),(54,p7,"_digits2int.<locals>.inner")]
def o6(Q):Y6 (K Q) (fa 2) XH ["a","n"] 51 "_int2digits.<locals>.inner" (Gl N p6)=ah:=by kernel_rfl
def o7(Q):Y6 (K Q) (fa 3) oNm ["digits","n"] 58 "_digits2int.<locals>.inner" (N' N p7)=ah:=by kernel_rfl
end L2
section
variable {d:kX} {w:CR} {A:cZ} {j:aj Ky} {i:cr}
 {K:zH->r_ Fin} {H:aA->r_ Fin} {gd:aB->aB} {lv:aj aA->aj aA}
abbrev Sg(d:kX)(w:CR)(A:cZ)(c:Xu)(t:r_ Fin)(j:aj Ky)(s:aw)(P:End->aw->Prop):Prop:=X.SegX (aQ d w) A c t j s P
def ja{l:Type}{m:r_ l}{K:l->r_ Fin}{H:aA->r_ Fin}{gd lv}(h:aL (aQ d w) (A.over c j) m (λa b=>Sg d w A c (K a) j b P) (λx b=>Sg d w A c (H x) j b P) s):Sg d w A c (m.wrap K H gd lv) j s P:=by rintro f p rfl hf;refine oV (runs_wrap_of_wp K H gd lv m (h (f.over j) p<|hf.over j) (λa g b k=>k f g J hf) λx g b k=>k f g J hf) λe b n o=> ?_;exact⟨e,b,n,o⟩
def Td{a}{k:sY->r_ Fin}(h:Sg d w A c (k ()) j s P):Sg d w A c (.at a k) j s P:=ja (m:=Ar a) (K:=k) (H:= .raise) (gd:=id) (lv:=id)<|dK h
def LD{l}{k:sY->r_ Fin}(h:Sg d w A c (k ()) j s P):Sg d w A c (.point l k) j s P:=ja (m:=point) (K:=k) (H:= .raise) (gd:=id) (lv:=λ_=>l)<|wpAny_point h
def nW(h:Sg d w A c (K .next) j s P):Sg d w A c ((qP [] i).wrap K H gd lv) j s P:=h
def k_{st}{a}(h:Sg d w A c ((exec st i).wrap (λf=>match f with| .next=>(qP a i).wrap K H gd lv|f=>K f) H gd lv) j s P):Sg d w A c ((qP (st::a) i).wrap K H gd lv) j s P:=rP (execs_cons_wrap ..) h
def LF{e}{body a}{pos} (h:aL (aQ d w) (A.over c j) (isTrue e i<|eval e i) (λb f=>Sg d w A c ((qP (if b=ah then body else a) i).wrap K H gd lv) j f P) (λx f=>Sg d w A c (H x) j f P) s):Sg d w A c ((exec (.If e body a pos) i).wrap K H gd lv) j s P:=by refine rP (exec_If ..) ?_;refine rP (dD ..)<|rP (eE ..) ?_;refine ja<|dK ?_;refine rP (dD ..)<|rP (eE ..) ?_;refine ja<|iC h (λb f g=> ?_) λ_ _ x=>x;induction b using dC<;>exact g
def uM{st}(h:aL (aQ d w) (A.over c j) (exec st i) (λf a=>Sg d w A c (K f) j a P) (λx a=>Sg d w A c (H x) j a P) s):Sg d w A c ((exec st i).wrap K H gd lv) j s P:=ja h
def yx{e}{a b}(n:splitAtGen j=ag)(o:gd af=af)(q:j.any uw=af)
  (h:aL (aQ d w) (A.over c j) (eval e i) (λv f=>∀(l) (k:Resume->r_ Fin) (p),(∀r m t,Sg d w r c (K .next) j m t->Sg d w r c (k<|.send .none) j m t)->P (.susp v af l k c p j) f) (λx f=>Sg d w A c (H x) j f P) s) (u:i.scope.isCoroutine=af) (z:mF i=af):
  Sg d w A c ((exec (.Expr (.Yield (U e) a) b) i).wrap K H gd lv) j s P:=by
 refine rP (exec_Expr i _ b z J ..) ?_
 show Sg d w A c (.at b λ_=>((eval e i >>= λv=>(Ar a >>= λ_=>yieldOut i v)) >>= λx=>dropValue (.Yield (U e) a) b x).wrap K H gd lv) j s P
 have B:∀v,yieldOut i v=yieldValue v:=λv=>by simp only[yieldOut,u,iq,wK]
 simp only[B];refine Td ?_;refine rP (dD ..)<|rP (dD ..)<|rP (eE ..)<|rP (eE ..) ?_;refine ja<|iC h (λv f D=> ?_) λ_ _ x=>x;refine Td ?_
 have fin:∀{g l k},g=af->(∀p,P (.susp v af l k c p j) f)->Sg d w A c (.yield v g l k) j f P:=by rintro g l k rfl y;rintro E p rfl _;exact⟨_,f,Runs.yield' j n,by simp[End.quiet,q],y p⟩
 exact fin o λp=>D _ _ p λr m t y=>y
noncomputable abbrev Bm(i:cr):aA->r_ Fin:=λe=>(do xj e i;ph e:r_ sY).wrap (λ_=> .raise e) .raise id id
def yw{a}{c}{body b}
  (h:aL (aQ d w) (A.over (.forLoop a c body b i) j) (Xh c) (λr k=>match r with
   |none=>Sg d w A (.block b i) ((aQ d w).den<|.block b i) j k P
   |some v=>aL (aQ d w) (A.over (.forLoop a c body b i) j) (pj a c v) (λ_ l=>aL (aQ d w) (A.over (.forLoop a c body b i) j) (mX a i v) (λ_ m=>
     Sg d w A (.forLoop a c body b i) ((qP body i).wrap (λf=>match f with
      | .next| .cont=> .pure<|.again<|.forLoop a c body b i
      | .brk=> .pure<|.done .next
      | .ret v=> .pure<|.done (.ret v)) (Bm i) id id) j m P)
     (λx g=>Sg d w A (.forLoop a c body b i) (Bm i x) j g P) l)
     (λx g=>Sg d w A (.forLoop a c body b i) (Bm i x) j g P) k)
   (λx g=>Sg d w A (.forLoop a c body b i) (Bm i x) j g P) s):
  Sg d w A (.forLoop a c body b i) ((aQ d w).den<|.forLoop a c body b i) j s P:=by
 show Sg d w A _ ((forTurn a c body b i).onRaise (λx=>do xj x i;ph x)) j s P;unfold forTurn;refine rP (Kw ..)<|rP (dD ..)<|rP (eE ..) ?_
 have u:∀e g,Sg d w A (.forLoop a c body b i) (Bm i e) j g P->Sg d w A (.forLoop a c body b i) ((do xj e i;ph e:r_ sY).bind λ_=> .raise e) j g P:=λe g x=>by exact rP (rk ..) x
 refine ja<|dK ?_;refine rP (dD ..)<|rP (eE ..) ?_;refine ja<|wpAny_onRaise<|iC h (λr k n=> ?_) λx g o=>dK<|u x g o;induction r using bX with
 |none=>exact X.s_again d w A _ j P k _ J n
 |some v=>
  dsimp only;refine rP (dD ..)<|rP (eE ..) ?_;refine ja<|iC n (λ_ l q=> ?_) λx g o=>u x g o;refine rP (dD ..)<|rP (eE ..) ?_;refine ja<|iC q (λ_ m t=> ?_) λx g o=>u x g o;refine rP (dD ..)<|rP (eE ..) ?_
  rw[Xq (qP body i) _ _ (K':=λf=>match f with
      | .next| .cont=> .pure<|.again<|.forLoop a c body b i
      | .brk=> .pure<|.done .next
      | .ret v=> .pure<|.done (.ret v)) (H':=Bm i)
    (λf=>by induction f using PySem.Flow.casesOn<;>rfl)
    (λe=>by first|exact rk _ _|(show(do xj e i;ph e:r_ sY).bind (λ_=> .raise e)=_;exact rP (rk ..) J))]
  exact t
noncomputable abbrev wG(i:cr)(K:zH->r_ Fin)(H:aA->r_ Fin)(gd:aB->aB)(lv:aj aA->aj aA)(c:Xu)(p:pJ):Ky:=
 .ret (λr=>((match r with| .ok f=>(.pure f:r_ zH)| .error e=> .raise e).onRaise λ(x:aA)=>do
    if(<-field x 1)==im then unsupported "frame.own-activation:exception-without-traceback"
    setFlight x i.frame).wrap K H gd lv) ag (gd af) (lv []) c p []
def U4{a iter:Expr}{body:aj gM}{k:pJ}(n:∀x,As iter i x=gZ x)
  (h:aL (aQ d w) (A.over c j) (eval iter i) (λx e=>aL (aQ d w) (A.over c j) (OQ x) (λl b=>∀p,Sg d w A (.forLoop a l body [] i) ((aQ d w).den<|.forLoop a l body [] i) (wG i K H gd lv c p::j) b P) (λx m=>Sg d w A c (H x) j m P) e) (λx m=>Sg d w A c (H x) j m P) s):
  Sg d w A c ((exec (.For a iter body [] k) i).wrap K H gd lv) j s P:=by
 refine rP (exec_For ..) ?_;refine rP (dD ..)<|rP (eE ..) ?_;refine ja<|dK ?_;refine rP (dD ..)<|rP (eE ..) ?_;refine ja<|iC h (λx e f=> ?_) λ_ _ x=>x;refine rP (n x ..)<|rP (dD ..)<|rP (eE ..) ?_;refine ja<|aM ?_;refine rP (dD ..)<|rP (eE ..) ?_;refine ja<|dK ?_;refine rP (dD ..)<|rP (eE ..) ?_;refine ja<|cC<|iC f (λl b g=> ?_) λ_ _ x=>x;exact X.s_call d w A c j P b _ _ _ _ _ g
def IQ{a:Xu}(h:Sg d w A c (K .next) j s P):Sg d w A a (leafOf<|.ok .next) (wG i K H gd lv c p::j) s P:=X.s_pop d w A a j P s (.ok .next) _ J _ _ _ _ c p [] h
def P3
  (h:Sg d w A (.func body i) ((qP body i).wrap (λf=> .pure<|.done (.ret (match f with| .ret v=>v|_=> .none))) (λe=>(xk i e).wrap (λ_=> .raise e) .raise id id) id id) j s P):
  Sg d w A (.func body i) ((aQ d w).den<|.func body i) j s P:=by
 show Sg d w A _ (.point [] λ_=>((qP body i).onRaise<|xk i) >>= _) j s P;refine LD ?_;refine rP (Kw ..)<|rP (dD ..)<|rP (eE ..) ?_
 rw[Xq (qP body i) _ _ (K':=λf=> .pure<|.done (.ret (match f with| .ret v=>v|_=> .none)))
  (H':=λe=>(xk i e).wrap (λ_=> .raise e) .raise id id) (λf=>by induction f using PySem.Flow.casesOn<;>rfl)
  (λe=>by exact rP (rk ..) <| rP (eE ..) J)]
 exact h
def BG(h:Sg d w A (.block [] i) (leafOf<|.ok .next) j s P):Sg d w A (.block [] i) ((aQ d w).den<|.block [] i) j s P:=h
end
noncomputable def gIf(p e z:a7)(q:Y->pJ)(a:Y->Y):gM:= .If (.Name e<|q 30) [.Expr (.Yield (U<|.Tuple [.Name p<|q 31,.Constant (.str z) (a 8)<|q 32] (a 9)<|q 33)<|q 34)<|q 35] []<|q 36
noncomputable def Zz(p c:a7)(q:Y->pJ)(a:Y->Y):Expr:= .Tuple [.Name p<|q 6,.Name c<|q 7] (a 2)<|q 8
noncomputable def ab9(p e c z:a7)(q:Y->pJ)(a:Y->Y):aj gM:=[.Expr (.Yield (U<|.Tuple [.Name p<|q 13,.BinOp (.Constant (.str z) (a 3)<|q 14) .Add (.Name c<|q 15)<|q 16] (a 4)<|q 17)<|q 18)<|q 19,
  .Assign [.Name e<|q 20] (.Constant (.bool af) (a 5)<|q 21) (q 22)]
noncomputable def ab8(p e c z:a7)(q:Y->pJ)(a:Y->Y):aj gM:=[.If (.Compare (.Name c<|q 23) [.Eq] [.Constant (.str z) (a 6)<|q 24]<|q 25) [.Assign [.Name e<|q 26] (.Constant (.bool ah) (a 10)<|q 27)<|q 28] [.Expr (.Yield (U<|.Tuple [.Name p<|q 37,.Name c<|q 38] (a 7)<|q 39)<|q 40)<|q 41]<|q 42]
noncomputable def TK(p e c z:a7)(q:Y->pJ)(a:Y->Y):aj gM:=[.If (.Name e<|q 12) (ab9 p e c z q a) (ab8 p e c z q a)<|q 43]
noncomputable def u6(a p e c z:a7)(q:Y->pJ)(b:Y->Y):aj gM:=
 [.Assign [.Name p<|q 0] (.Constant (.int 0) (b 0)<|q 1)<|q 2,.Assign [.Name e<|q 3] (.Constant (.bool af) (b 1)<|q 4)<|q 5,
  .For (Zz p c q b) (.Call (.Name "enumerate"<|q 9) [.Name a<|q 10] []<|q 11) (TK p e c z q b) [] (q 44),gIf p e z q b]
structure GnE(env:cr)(a p e c:a7):Prop where
 kind:env.scope.kind= .function
 ka:env.kindOf a=U .local
 kp:env.kindOf p=U .local
 ke:env.kindOf e=U .local
 kc:env.kindOf c=U .local
 ap:a≠p
 ae:a≠e
 ac:a≠c
 pe:p≠e
 pc:p≠c
 ec:e≠c
 gl:env.globals=dB
 bl:env.builtins=jT
 hco:env.scope.isCoroutine=af
 en:env.kindOf "enumerate"=U .globalImplicit
 da:(a==("__debug__":a7))=af
 dp:(p==("__debug__":a7))=af
 de:(e==("__debug__":a7))=af
 dc:(c==("__debug__":a7))=af
structure Qt(F:aX->Prop)(s s':aw):Prop where
 keep:∀b o,¬F b->s.heap.get? b=U o->s'.heap.get? b=U o
 gens:s'.gens=s.gens
 os:s'.os=s.os
def Qt.refl:Qt F s s:=⟨λ_ _ _ e=>e,J,J⟩
def Qt.trans(x:Qt F s c)(y:Qt F c a):Qt F s a:=⟨λb o n e=>y.keep b o n<|x.keep b o n e,y.gens.trans x.gens,y.os.trans x.os⟩
def Qt.of(k:∀b o,¬F b->s.heap.get? b=U o->d.get? b=U o):Qt F s {s with heap:=d,toks:=t}:=⟨k,J,J⟩
def OG(F:aX->Prop)(c:fX->Prop):Prop:=∀h d:fX,(∀b o,F b->h.get? b=U o->∃a,d.get? b=U a/\a.cls=o.cls/\a.data=o.data/\(o.cls≠ .type "frame"->a=o))->c h->c d
def OB(F:aX->Prop)(s:aw):Prop:=∀b,F b->∃o,s.heap.get? b=U o/\xg o.cls
noncomputable def qX(d:kX)(w:CR)(e:aw->Prop)(g:cZ->Prop):aj (Y × aj Y)->(aX->Prop)->aw->End->aw->Prop
 |[],F,s,i,f=>i= .ret (.ok<|.ret .none)/\Qt F s f
 |x::r,F,s,i,f=>∃(v:aA) (l:aj aA) (k:Resume->r_ Fin) (c:Xu) (p:pJ) (m:aj Ky) (h:aX->Prop) (j:fX->Prop),i= .susp v af l k c p m/\Qt F s f/\(∃T u t,v= .ref T/\(s.heap.get? T=ag\/F T)/\f.heap.IsTuple T #[.int x.1 u,.str ⟨x.2.toArray⟩ t])/\
   (∀b,h b->F b\/s.heap.get? b=ag)/\OB h f/\OG h j/\j f.heap/\
   ∀A a,g A->e a->j a.heap->Sg d w A.in1 c (k<|.send .none) m a (qX d w e g r h a)
def D5(b:A.handled=ag)(a)(x)(t):Draws prog w A a [a] x.cps.size (λi v=>∃c u,x.cps[i]? =U c/\v= .str ⟨#[c]⟩ u) λi h=>h.IsStrIter a (jI x) x t i:=by
 unfold jI;split
 ·exact .strAscii b a x t
 ·exact .strWide b a x t
def M3(x):xg<|.type<|jI x:=by
 unfold jI;split
 ·exact⟨_,J,by decide⟩
 ·exact⟨_,J,by decide⟩
def Lc(env:cr)(a p e:a7)(x:a7)(t:pq)(b:Z)(c:aB)(h:fX):Prop:=∃m,h.Ns env.locals m/\m a=U (.str x t)/\(∃u,m p=U (.int b u))/\m e=U (.bool c)
def Lc.at(l:Lc env a p e x t g i h)(k:∀o,h.get? env.locals=U o->∃c,j.get? env.locals=U c/\c.data=o.data):Lc env a p e x t g i j:=by refine cm (l) λm b r=> ?_;refine EZ (b) λo n s u d q f=> ?_;refine cm (k o u) λc v w=> ?_;exact⟨m,⟨c,n,s,v,w.trans d,q,f⟩,r⟩
def Lc.keeps(l:Lc env a p e x t b c h)(k:∀o,h.get? env.locals=U o->d.get? env.locals=U o):Lc env a p e x t b c d:=l.at λo e=>⟨o,k o e,J⟩
noncomputable abbrev zS:a7:=⟨[92].toArray⟩
noncomputable abbrev K0:zH->r_ Fin:=λf=> .pure<|.done (.ret (match f with| .ret v=>v|_=> .none))
noncomputable abbrev H0(env:cr):aA->r_ Fin:=λe=>(xk env e).wrap (λ_=> .raise e) .raise id id
noncomputable abbrev K1(p e:a7)(q:Y->pJ)(a:Y->Y)(env:cr):zH->r_ Fin:=λf=>match f with| .next=>(qP [gIf p e zS q a] env).wrap K0 (H0 env) id id|f=>K0 f
def Fs(env:cr)(a c:aX)(b:aX):Prop:=b=env.locals\/b=a\/b=c
def FcL(env:cr)(a p e:a7)(x:a7)(t:pq)(d c:aX)(i:Y)(f:Z)(g:aB)(h:fX):Prop:=(∃o,h.get? env.locals=U o/\o.cls= .type "frame")/\Lc env a p e x t f g h/\(∃b,IsEnum h d c i b)/\h.IsStrIter c (jI x) x t i
def NG:OG (Fs env j m)<|FcL env a p e x t j m i A B:=by
 rintro h D k ⟨⟨r,s,u⟩,l,⟨g,v⟩,o,w,n,y⟩;refine⟨let⟨f,b,c,_⟩:=k _ r (.inl J) s;⟨f,b,c.trans u⟩,l.at λo z=>let⟨f,b,_,d,_⟩:=k _ o (.inl J) z;⟨f,b,d⟩,⟨g,?_⟩,?_⟩
 ·refine zY (k j _ (.inr<|.inl J) v) λf b _ _ q=> ?_;rw[q (by show cK "enumerate"≠cK "frame";decide)]at b;exact b
 ·refine zY (k m _ (.inr<|.inr J) w) λf b _ _ q=> ?_;rw[q (by refine rP n ?_;unfold jI;split<;>decide)]at b;exact⟨o,b,n,y⟩
def QJ{i:Y}(f:∃o,s.heap.get? env.locals=U o/\o.cls= .type "frame")(g:∃a,IsEnum s.heap h d i a)(j:s.heap.IsStrIter d (jI x) x t i):OB (Fs env h d) s:=by
 rintro b (rfl|rfl|rfl)
 ·refine cm (f) λo e c=> ?_;exact⟨o,e,_,c,by decide⟩
 ·refine dQ (g) λa e=> ?_;exact⟨_,e,_,J,by decide⟩
 ·refine pM (j) λo e c _=> ?_;exact⟨o,e,by exact rP c <| M3 x⟩
def Cb{y:aj Y}{Q:aA->aw->Prop}{j n:pJ}{k:Y}(l:GnE env a p e c)(t:s.heap.Ns env.locals m)(v:m p=U (.int x u))(z:lW i=ah)
  (B:∀o:aA->aw->Prop,(∀b d,o (.str ⟨y.toArray⟩ b) {s with toks:=d})->aL (aQ g w) A (eval i env) o E s)
  (h:∀b d,Q (.ref s.heap.objs.size) {s with heap:=s.heap.push {cls:= .type "tuple",data:= .seq #[.int x u,.str ⟨y.toArray⟩ b]},toks:=d}):
  aL (aQ g w) A (eval (.Tuple [.Name p j,i] k n) env) Q E s:=by
 refine CQ ?_
 have:GJ n (s_ [.Name p j,i] env)=[(af,eval (.Name p j) env),(af,eval i env)]:=by exact rP (nV J) <| rP (nV z) J
 refine rP this ?_;refine dE<|og (gg l.kind l.kp t v ?_) l.dp;refine dE<|B _ λb d=>fe ⟨by refine rP cS ?_;show 2<=16777216;decide,h b d⟩
def QM{n:Y}{B:Z}{y:aB}{F:aX->Prop}(i:GnE env a p e c)(hF:F env.locals)(D:Qt F L s)(lc:Lc env a p e x t B y s.heap)(z:r=if y=ah then[(n,[92])]else[])(hv:y=ah->B=(n:Z))(E:∃o,s.heap.get? env.locals=U o/\o.cls= .type "frame"):Sg d w A M ((qP [gIf p e zS q κ] env).wrap K0 (H0 env) id id) [] s<|qX d w O β r F L:=by
 refine k_ ?_;refine zY (lc) λm Q h2 f h4=> ?_;refine dQ (f) λu h3=> ?_;refine LF<|zC<|og (gg i.kind i.ke Q h4 ?_) i.de;refine gI ?_;induction y using dC with
 |false=>simp only[iq,wK]at z⊢;subst z;refine nW<|nW ?_;exact X.s_end d w A M _ s (.ok<|.ret .none) _ J ⟨J,D⟩
 |true=>
  simp only[if_true]at z⊢;subst z;have H:=hv J;refine k_<|yx J J J ?_ i.hco (by unfold mF;exact rP i.kind J);refine Cb i Q h3 J (λQ' h=>jn<|h _ _) λt' tk l k pp j=> ?_;have g:∀b o,s.heap.get? b=U o->(s.heap.push {cls:= .type "tuple",data:= .seq #[.int B u,.str ⟨[92].toArray⟩ t']}).get? b=U o:=λb o e=>bu _ e;refine⟨_,l,k,_,pp,_,λb=>b=env.locals,λ_=>True,J,D.trans<|.of λb o _ e=>g b o e,⟨_,u,t',J,?_,?_⟩,λb I=> .inl<|I▸hF,λb I=> ?_,λ_ _ _ _=>trivial,trivial,λA' v hA δ _=> ?_⟩
  ·cases q:L.heap.get? s.heap.objs.size with
   |none=>exact .inl J
   |some o=>
    by_cases hf:F s.heap.objs.size
    ·exact .inr hf
    ·have:=D.keep _ o hf q;rw[eL]at this;exact nd this
  ·exact rS H <| ⟨_,bQ _ J,J,0,J⟩
  ·refine cm (E) λo e od=> ?_;exact⟨o,I▸g _ o e,_,od,by decide⟩
  ·refine j A'.in1 v _<|nW<|nW ?_;exact X.s_end d w A'.in1 M _ v (.ok<|.ret .none) _ J ⟨J,.refl⟩
def Dg(a)(h)(k v)(o):(Obj.putName a h k v o).cls=o.cls:=by
 obtain⟨c,d,b,e⟩:=o;refine rP Xr ?_;induction b using nQ<;>try rfl
 unfold OU;dsimp only;split<;>rfl
def sD{m}(q:s.heap.Ns a m)
  (h:∀g,g.Ns a (λx=>if x=b then U v else m x)->gk a s.heap g->(∀o,s.heap.get? a=U o->∃r,g.get? a=U r/\r.cls=o.cls)->Q () {s with heap:=g,toks:=s.toks+1}):
  aL M A (nsSet a b v) Q E s:=λw p _=>by
 have f:=Sem.wp_nsSet M w (λx _ k=>E x k) p s q b v (λ_ _ k=>k.heap.Ns a (λx=>if x=b then U v else m x)/\gk a s.heap k.heap) λg x y=>⟨x,y⟩;refine EZ (q) λo D O l z H hm=> ?_;simp only[nsSet,strHash,Sem.wp_bind',Sem.wp_cmd_ask,Sem.wp_pure',Sem.wp_cmd_mkText]at f⊢;rw[Sem.wp_loadPart_of M w _ p {s with toks:=s.toks+1} _ l]at f⊢
 have j:D.any (·.refKey)=af:=by rw[Array.any_eq_false'];intro e I;refine X_ (H e I) λn t h=> ?_;simp[DictEntry.refKey,h]
 simp only[z,aRefKeyMayBeTheName_eq,aRefKeyMayBeTheNameByArray,j,tK,iq,wK,Sem.wp_cmd_updatePart]at f⊢
 refine⟨f.1,h _ f.2.1 f.2.2 λL B=>⟨_,gK _ l (by obtain⟨c,d,dt,sl⟩:=o;subst z;refine rP Xr ?_;unfold OU;dsimp only;split<;>rfl),?_⟩⟩
 have:L=o:=by rw[l]at B;exact(me B).symm
 exact rP (this ..)<|rP (Dg ..) J
def Da(f:env.kindOf y=U .local)(g:env.scope.kind= .function)(i:s.heap.Ns env.locals m) (h:∀a,a.Ns env.locals (λz=>if z=y then U v else m z)->gk env.locals s.heap a->(∀o,s.heap.get? env.locals=U o->∃b,a.get? env.locals=U b/\b.cls=o.cls)->Q () {s with heap:=a,toks:=s.toks+1}):aL (aQ e w) A (mX (.Name y j) env v) Q E s:=by refine rz ?_;exact rP (uu f (by rw[g];rfl) ..) <| sD i h
def Y9{x y z:aX}(h:x≠y)(a:x≠z):x∉[y,z]:=λq=>(aR.mp q).elim h λq=>a<|aU.mp q
section
variable {A:cZ} {env:cr} {a p c:a7}
noncomputable abbrev xS(l:aj Y):a7:=⟨l.toArray⟩
noncomputable abbrev VL(p e c:a7)(q:Y->pJ)(b:Y->Y)(env:cr)(d:aX):Xu:= .forLoop (Zz p c q b) (.ref d) (TK p e c zS q b) [] env
noncomputable abbrev XM(p e:a7)(q:Y->pJ)(b:Y->Y)(env:cr)(d:Xu)(f:pJ):aj Ky:=[wG env (K1 p e q b env) (H0 env) id id d f]
def DX{h b:fX}(d:∃o,h.get? env.locals=U o/\o.cls= .type "frame")(k:∀o,h.get? env.locals=U o->b.get? env.locals=U o):∃o,b.get? env.locals=U o/\o.cls= .type "frame":=let⟨o,e,c⟩:=d;⟨o,k o e,c⟩
def uR(h:A.handled=ag):(A.over (VL p e c q κ env ee)<|XM p e q κ env c0 p0).handled=ag:=by show(marksOver (XM p e q κ env c0 p0) (A.handled,A.handled)).1=ag;exact rP h J
def yielded(z:Qt F B s)(m:OB F s)(D:OG F t)(Q:t s.heap)
  (i:∀A f,j A->g f->t f.heap->Sg h w A.in1 E (k<|.send .none) H f (qX h w g j r F f)):
  qX h w g j ((n,y)::r) F B (.susp (.ref s.heap.objs.size) af lv k E pp H) {s with heap:=s.heap.push {cls:= .type "tuple",data:= .seq #[.int n u,.str ⟨y.toArray⟩ L]},toks:=tk}:=by
 have d:∀b o,s.heap.get? b=U o->(s.heap.push {cls:= .type "tuple",data:= .seq #[.int (n:Z) u,.str ⟨y.toArray⟩ L]}).get? b=U o:=λb o e=>bu _ e;refine⟨_,lv,k,E,pp,H,F,t,J,z.trans<|.of λb o _ e=>d b o e,⟨_,u,L,J,?_,⟨_,bQ _ J,J,0,J⟩⟩,λb x=> .inl x,λb x=> ?_,D,?_,i⟩
 ·cases q:B.heap.get? s.heap.objs.size with
  |none=>exact .inl J
  |some o=>
   by_cases O:F s.heap.objs.size
   ·exact .inr O
   ·have:=z.keep _ o O q;rw[eL]at this;exact nd this
 ·refine cm (m b x) λo e od=> ?_;exact⟨o,d _ o e,od⟩
 ·exact D _ _ (λb o _ e=>⟨o,d b o e,J,J,λ_=>rfl⟩) Q
def Hh(r:GnE env a p e c)(M:env.locals≠B)(O:env.locals≠D)(f:FcL env a p e x t B D i pv bv s.heap) (h:∀q tk,FcL env a p e x t B D i pv b q->gk env.locals s.heap q->Q .next {s with heap:=q,toks:=tk}):aL (aQ L w) A (exec (.Assign [.Name e px] (.Constant (.bool b) k pc) α) env) Q E s:=by
 refine UE (f) λd g j l=> ?_;refine cm (d) λol e0 c0=> ?_;refine zY (g) λm n1 n2 n n4=> ?_;obtain⟨u,n3⟩:=n;refine dQ (j) λv h1=> ?_;refine cm (l) λo h2 h3=> ?_;refine iV (aM ?_) J;refine rP (uu r.ke (by rw[r.kind];rfl) ..) ?_;refine sD n1 λq nn y cl=>h q _ ⟨?_,⟨_,nn,?_,⟨u,?_⟩,?_⟩,⟨v,?_⟩,o,?_,h3⟩ y
 ·refine cm (cl _ e0) λo' e1 c1=> ?_;exact⟨o',e1,c1.trans c0⟩
 ·exact(bA r.ae).trans n2
 ·exact(bA r.pe).trans n3
 ·exact bM J
 ·exact y.extBut _ _ (λz=>M z.symm) h1
 ·exact y.extBut _ _ (λz=>O z.symm) h2
theorem Zk(d:GnE env a p e c)(υ:∀A,Aok A->A.handled=ag)(d1:env.locals≠g)(d2:env.locals≠j)(d3:g≠j):
  ∀(n i:Y),l.length-i=n->i<=l.length->∀{A:cZ} {s sb:aw} {pv:Z} {bv:aB},Aok A->Qt (Fs env g j) sb s->(∃o,s.heap.get? env.locals=U o/\o.cls= .type "frame")->Lc env a p e (xS l) t pv bv s.heap->((0<i/\pv=(i:Z)-1)\/(i=0/\bv=af))->
   (∃α,IsEnum s.heap g j i α)->s.heap.IsStrIter j (jI<|xS l) (xS l) t i->
   Sg prog w A.in1 (VL p e c q κ env g) ((aQ prog w).den<|VL p e c q κ env g) (XM p e q κ env c0 p0) s (qX prog w stay Aok (fJ i bv<|l.drop i) (Fs env g j) sb):=by
 intro n;induction n with
 |zero=>
  intro i hn hi A s sb pv bv hA hq E lc φ ι H;have B:i=l.length:=d9 0x1cc990101723012a103 (by rfl) hn hi;subst B;have hh:=uR (A:=A.in1) (p:=p) (e:=e) (c:=c) (q:=q) (κ:=κ) (env:=env) (ee:=g) (c0:=c0) (p0:=p0)<|υ A hA;have WT:=WalksT.enumerateD (D5 (prog:=prog) (w:=w) (A:=(A.in1.over (VL p e c q κ env g)<|XM p e q κ env c0 p0).in1) hh j (xS l) t) g d3 (λz=>d3<|aU.mp z)<|.head _;have μ:(xS l).cps.size=l.length:=aO;refine yw<|WT.done s _ _ (rS μ <| ⟨ι,H⟩) λh' I hk=> ?_;have L:∀o,s.heap.get? env.locals=U o->h'.get? env.locals=U o:=λo e=>hk _ o (Y9 d1 d2) e;have ν:Qt (Fs env g j) sb {s with heap:=h',toks:=I}:=hq.trans<|.of λb o r e=>hk b o (λz=>r (by rcases aR.mp z with z|z;exact .inr<|.inl z;exact .inr<|.inr<|aU.mp z)) e;refine BG<|IQ ?_;refine QM (n:=l.length-1) d (.inl J) ν (lc.keeps L) ?_ (λr=> ?_)<|DX E L
  ·refine rP i9 ?_;induction bv using dC<;>rfl
  ·rcases φ with⟨h0,h1⟩|⟨_,h1⟩
   ·exact rP h1 <| cQ 0x1ca9bac90072601af47a6 J h0
   ·rw[r]at h1;exact tf h1
 |succ n ih=>
  intro i hn hi A s sb pv bv hA hq E lc φ ι H;have B:i<l.length:=gr 0x7c38c3203b23012a102 (by rfl) hn;have hh:=uR (A:=A.in1) (p:=p) (e:=e) (c:=c) (q:=q) (κ:=κ) (env:=env) (ee:=g) (c0:=c0) (p0:=p0)<|υ A hA;have WT:=WalksT.enumerateD (D5 (prog:=prog) (w:=w) (A:=(A.in1.over (VL p e c q κ env g)<|XM p e q κ env c0 p0).in1) hh j (xS l) t) g d3 (λz=>d3<|aU.mp z)<|.head _;have μ:(xS l).cps.size=l.length:=aO;refine yw<|WT.item i s _ _ (rS μ <| B) ⟨ι,H⟩ λT vals h1 tk1 hP hT1 Ω hM χ=> ?_;dsimp only;refine WT.go _ _ _ i T _ _ _ hM λh2 hS2 ξ=> ?_;refine oV (hP) λti xv β π=> ?_;refine oV (β) λx uc hc1 hc2=> ?_;subst hc2;subst π;have hTw:=WT.apart i T _ hM
  have hT3:h2.IsTuple T #[.int i ti,.str ⟨#[x]⟩ uc]:=by refine cm (Ω) λo e1 r1=> ?_;exact⟨o,ξ T o hTw e1,r1⟩
  refine wpAny_assign_Tuple hh hT3 J J λh3 γ=> ?_
  have hk3:∀b o,¬Fs env g j b->s.heap.get? b=U o->h3.get? b=U o:=λb o r v=>by have nw:b∉[g,j]:=λz=>r (by rcases aR.mp z with z|z;exact .inr<|.inl z;exact .inr<|.inr<|aU.mp z);have e2:=ξ b o nw<|χ b o nw v;exact γ b o (c6<|dY e2) e2
  have L:∀o,s.heap.get? env.locals=U o->h3.get? env.locals=U o:=λo v=>by have nw:env.locals∉[g,j]:=Y9 d1 d2;have e2:=ξ _ o nw<|χ _ o nw v;exact γ _ o (c6<|dY e2) e2
  refine jG (hS2) λδ hI2=> ?_;refine dQ (δ) λα ψ=> ?_;have hE3:=γ _ _ (c6<|dY ψ) ψ
  have hI3:h3.IsStrIter j (jI<|xS l) (xS l) t<|i+1:=by refine cm (hI2) λo v r0=> ?_;exact⟨o,γ _ _ (c6<|dY v) v,r0⟩
  have fr3:=DX E L;refine zY (lc.keeps L) λm n1 n2 ε n4=> ?_;refine dQ (ε) λu n3=> ?_;refine al<|cC<|Da d.kp d.kind n1 λh4 n5 hs4 cl4=> ?_;refine al<|cC<|Da d.kc d.kind n5 λh5 n6 hs5 cl5=>aM ?_;have k5:∀b o,b≠env.locals->h3.get? b=U o->h5.get? b=U o:=λb o r v=>hs5.extBut b o r<|hs4.extBut b o r v;have ω:=k5 _ _ (λz=>d1 z.symm) hE3
  have Γ:h5.IsStrIter j (jI<|xS l) (xS l) t<|i+1:=by refine cm (hI3) λo v r0=> ?_;exact⟨o,k5 _ _ (λz=>d2 z.symm) v,r0⟩
  have Δ:∃o,h5.get? env.locals=U o/\o.cls= .type "frame":=by refine cm (fr3) λo v c0=> ?_;refine cm (cl4 o v) λo' e1 c1=> ?_;refine cm (cl5 o' e1) λo2 e2 c2=> ?_;exact⟨o2,e2,c2.trans<|c1.trans c0⟩
  obtain⟨hch,ρ⟩:l[i]? =U x/\l.drop i=x::l.drop (i+1):=by have:l[i]? =U x:=fQ.symm.trans hc1;exact⟨this,by refine rP (fI B) ?_;congr 1;rw[be B]at this;exact me this⟩
  refine rP ρ ?_;have mA:(λz=>if z=c then U (qQ ⟨#[x]⟩ uc)else if z=p then U (.int i ti)else m z) a=U (.str (xS l) t):=by exact(bA d.ac).trans<|(bA d.ap).trans n2
  have mP:(λz=>if z=c then U (qQ ⟨#[x]⟩ uc)else if z=p then U (.int i ti)else m z) p=U (.int i ti):=(bA d.pc).trans<|bM J;have mE:(λz=>if z=c then U (qQ ⟨#[x]⟩ uc)else if z=p then U (.int i ti)else m z) e=U (.bool bv):=(bA d.ec).trans<|(bA d.pe.symm).trans n4;have mC:(λz=>if z=c then U (qQ ⟨#[x]⟩ uc)else if z=p then U (.int i ti)else m z) c=U (.str ⟨#[x]⟩ uc):=bM J;generalize(λz=>if z=c then U (qQ ⟨#[x]⟩ uc)else if z=p then U (.int i ti)else m z)=mm at n6 mA mP mE mC;have σ:FcL env a p e (xS l) t g j (i+1) (i:Z) bv h5:=⟨Δ,⟨mm,n6,mA,⟨ti,mP⟩,mE⟩,⟨α,ω⟩,Γ⟩;have q5:∀I,Qt (Fs env g j) sb {s with heap:=h5,toks:=I}:=λI=>hq.trans<|.of λb o r v=>k5 b o (λz=>r<|.inl z)<|hk3 b o r v
  have D:∀{A':cZ} {s' Φ:aw} {Ψ:aB},Aok A'->Qt (Fs env g j) Φ s'->FcL env a p e (xS l) t g j (i+1) (i:Z) Ψ s'.heap-> Sg prog w A'.in1 (VL p e c q κ env g) (.pure<|.again<|VL p e c q κ env g) (XM p e q κ env c0 p0) s' (qX prog w stay Aok (fJ (i+1) Ψ<|l.drop<|i+1) (Fs env g j) Φ):=λM ν f=>X.s_again prog w _ _ _ _ _ _ J<|ih (i+1) (uS 0x1c83c8c83799be883b89983bccd03423411b234b30a432a103 (by rfl) (by rfl) hn hi B) B M ν f.1 f.2.1 (.inl ⟨fj _,(du 67857014)⟩) f.2.2.1 f.2.2.2
  have O:∀I,OB (Fs env g j) {s with heap:=h5,toks:=I}:=λI=>QJ Δ ⟨α,ω⟩ Γ;refine k_<|LF<|zC<|og (gg d.kind d.ke n6 mE ?_) d.de;refine gI ?_;induction bv using dC with
  |true=>
   refine k_<|yx J J J ?_ d.hco (by delta mF;exact rP d.kind J);refine Cb (y:=[92,x]) d n6 mP J (λQ' h=> ?_) λt' I lv k pp Q=> ?_
   ·refine wN<|jn<|og (gg d.kind d.kc n6 mC ?_) d.dc;refine SM ?_;exact λt' I=>h t' I
   ·refine yielded (q5 _) (O _) NG σ λA' s'' M H f=>Q _ _ _ ?_;refine k_<|uM<|Hh d d1 d2 f λh' tk' f' τ=> ?_;refine nW<|nW ?_;exact D M (.of λb o r v=>τ.extBut b o (λz=>r<|.inl z) v) f'
  |false=>
   refine k_<|LF ?_;refine Pa (og (gg d.kind d.kc n6 mC (jn ?_)) d.dc);refine abj (gI ?_)
   have hcc:((⟨#[x]⟩:a7)==zS)=aF x 92:=by
    cases r:aF x 92 with
    |true=>exact rP ((aJ r)) <| cH _
    |false=>have hn:=GS r;refine cw.mpr λz=>hn ?_;have z2:=az (λq:a7=>q.cps.toList) z;exact(dM z2).1
   refine rP hcc ?_;unfold fJ;cases r:aF x 92 with
   |true=>refine k_ (uM (Hh d d1 d2 σ λh' tk' f' τ=> ?_));refine nW (nW ?_);exact D hA ((q5 0).trans (.of λb o r v=>τ.extBut b o (λz=>r (.inl z)) v)) f'
   |false=>
    refine k_ (yx J J J ?_ d.hco (by unfold mF;exact rP d.kind J));refine Cb (y:=[x]) d n6 mP J (λQ' h=> ?_) λt' I lv k pp Q=> ?_
    ·exact og (gg d.kind d.kc n6 mC (h _ _)) d.dc
    ·refine yielded (q5 _) (O _) NG σ λA' s'' M H f=>Q _ _ _ ?_;refine nW (nW (nW ?_));exact D M .refl f
end
def yB:∀{h},(∀z∈l,z.2≠ .cell)->aaA h l=h:=by
 induction l with
 |nil=>intro h _;rfl
 |cons z r b=>intro h a;obtain⟨n,k⟩:=z;unfold aaA;have:(k==cO)=af:=cw.mpr<|a _<|.head _;exact rP this <| b λz c=>a z<|.tail _ c
def zc:∀{n} {a:aj<|a7 × aX},(∀z∈l,z.2≠ .cell)->eH n l a=a:=by
 induction l with
 |nil=>intro n a _;rfl
 |cons z r c=>intro n a b;obtain⟨x,k⟩:=z;unfold eH;have:(k==cO)=af:=cw.mpr<|b _<|.head _;exact rP this <| c λz d=>b z<|.tail _ d
def Qw{code}{builtins}{Q:cr->aw->Prop}
  (m:scope.kind= .function) (h:∀z∈scope.names,z.2≠ .cell) (q:scope.names.lookup n=U .local)
  (r:∀a t,(∀b o,s.heap.get? b=U o->a.get? b=U o)->(∃o,a.get? s.heap.objs.size=U o/\o.cls= .type "frame")->a.Ns s.heap.objs.size (λy=>if y=n then U v else ag)-> Q (newEnv scope s.heap.objs.size globals [] qual func code ag builtins) {s with heap:=a,toks:=t}):
  aL M A (acS scope globals [] [(n,v)] qual func code ag builtins) Q E s:=by
 show aL M A (alloc {cls:= .type "frame",data:= .dict #[]} >>= _) Q E s;refine al<|wpAny_alloc ?_;refine al<|acN _ (λl d cells=>by cases f:d==cO<;>simp[f]) _ _ _ _ ?_;refine rP (yB h ..)<|rP (zc h ..) ?_;dsimp only;refine rP (nS ..) ?_;refine al<|al<|al ?_;refine rP (uu (env:={scope,locals:=s.heap.objs.size,globals,cells:=[],qual,func,code,frame:=U s.heap.objs.size,builtins}) q (by show(scope.kind==_||_)=_;rw[m];rfl) ..) ?_;refine sD (Heap.Ns.new s.heap<|.type "frame") λa w x B=>aM ?_;dsimp only;refine rP (Ux ..) ?_;refine aM<|aM ?_;refine r a _ (λb o e=> ?_) ?_ w
 ·exact x.extBut b o (c6<|dY e)<|bu _ e
 ·obtain⟨D,e,c⟩:=B _<|bQ _ J;exact⟨D,e,c⟩
def LC(x:Sg a w A c t g s P):Sg a w A c t g s λe b=>e.quiet=ah/\P e b:=λd p i hd=>by obtain⟨e,b,j,f,k⟩:=x d p i hd;exact⟨e,b,j,f,f,k⟩
def Woken(f:Aw)(e:Xu)(g:r_ Fin)(b:aj Ky):Prop:=(f= .fresh e/\(Resume.send .none)= .send .none/\g=denote table e/\b=[])\/(∃a c d h,f= .suspended a c e d b h/\g=a (.send .none))
theorem Dw(hh:A.handled=ag)
  (hl:s.heap.NoLimit) (f:A.depth<jx) (D:s.heap.IsGen a g) (j:s.gens[g]? =U M) (H:Woken M c0 t0 I)
  (x:Sg d w A.in1 c0 t0 I (s.setGen g .running) (λe s1=>(e= .ret (.ok<|.ret .none)/\∀m,(∀b o,s1.heap.get? b=U o->m.get? b=U o)->Q ag {s1.setGen g .finished with heap:=m})\/ ∃v l k c p i,e= .susp v af l k c p i/\(i.any uw=af->Q (U v) (s1.setGen g<|.suspended k l c p i af)))):
  aL (aQ d w) A (Xh<|.ref a) Q E s:=by
 refine al<|wpAny_attempt<|wpAny_callSpecial?_slot D.typeIs slot_gen_next<|sZ slot_gen_next D.typeIs entry_gen_next ?_<|args_gen_next _
 show aL _ _ (Builtin.Generator.genWake (.ref a)<|.send .none) _ _ s;refine al<|cC<|wpAny_genNumber D<|al<|wpAny_genState j ?_
 have L:∀{u:Type} {l:aj aA} {q:GenResult->r_ u} {y:u->aw->Prop} {z:aA->aw->Prop},(∀s1:aw,(∀m,(∀b o,s1.heap.get? b=U o->m.get? b=U o)->Q ag {s1.setGen g .finished with heap:=m})->aL (aQ d w) A.in1 (q<|.returned .none) y z (s1.setGen g .finished))-> (∀v O,Q (U v) O->aL (aQ d w) A.in1 (q<|.yielded v) y z O)->aL (aQ d w) A.in1 (.resume g (.send .none) l q) y z s:=λ{u l q y z} h1 h2=>
  X.wake_any u d w j H (λB=>B.In A.in1) (λ_ h=>h) ((LC x).mono λe s1 r B p hC=>by
   obtain⟨r,he⟩:=r;rcases he with⟨rfl,h⟩|⟨v,l,k,c,p',i,rfl,h⟩
   ·exact h1 s1 h B p hC
   ·have t:i.any uw=af:=by delta End.quiet at r;dsimp only at r;simpa using r
    have:=h2 v _ (h t) B p hC
    show Sem.wp _ _ (q<|.yielded v) _ _ _<|s1.setGen g<|.suspended k l c p' i<|af||i.any uw
    exact rP t this)
 cases M with
 |running=>
  rcases H with⟨h,_⟩|⟨_,_,_,_,h,_⟩
  ·cases h
  ·cases h
 |finished=>
  rcases H with⟨h,_⟩|⟨_,_,_,_,h,_⟩
  ·cases h
  ·cases h
 |_=>
  refine al<|wpAny_roomToWake hl f ?_;refine L (λβ hP=> ?_) λv γ hv=> ?_
  ·show aL _ _ (newExc (.type "StopIteration") [] >>= _) _ _ _;refine al ?_;delta newExc newTuple;refine al<|Ap ?_ (by size_fits);refine al<|iw (by first|rfl|(simp only[firstArgMember];rfl)) ?_;refine Ap ?_ (by size_fits);delta raiseNew;refine al<|al<|wpAny_handled ?_;refine rP (show A.in1.handled=ag from hh) ?_;refine wpAny_throw ?_;refine al<|wpAny_isInstance ⟨_,bQ _ J,J⟩ isSubtype_stop ?_;exact aM<|hP _ λb o hb=>bu _<|bu _ hb
  ·exact aM ⟨v,J,aM hv⟩
structure O_(W:Wd)(ea:aX) where
 o:Uo
 d:gR
 ar:Arg
 p:a7
 e:a7
 c:a7
 q:Y->pJ
 κ:Y->Y
 ho:W.h₀.get? ea=U o
 hd:o.data= .func d
 hco:d.scope.isCoroutine=af
 hgen:d.scope.isGenerator=ah
 hk:d.scope.kind= .function
 glob:d.globals=dB
 blt:d.builtins=jT
 clo:d.closure=[]
 dflt:d.defaults= .none
 params:d.params=⟨[],[ar],ag,[],[],ag,[]⟩
 stm:d.body= .stmts (u6 ar.arg p e c zS q κ)
 code:W.h₀.CodeRec d.code d.qualname
 noC:∀z∈d.scope.names,z.2≠ .cell
 la:d.scope.names.lookup ar.arg=U .local
 lp:d.scope.names.lookup p=U .local
 le:d.scope.names.lookup e=U .local
 lc:d.scope.names.lookup c=U .local
 len:d.scope.names.lookup ("enumerate":a7)=U .globalImplicit
 ap:ar.arg≠p
 ae:ar.arg≠e
 ac:ar.arg≠c
 pe:p≠e
 pc:p≠c
 ec:e≠c
 da:(ar.arg==("__debug__":a7))=af
 dp:(p==("__debug__":a7))=af
 de:(e==("__debug__":a7))=af
 dc:(c==("__debug__":a7))=af
 enum:Glob W "enumerate"<|.type "enumerate"
noncomputable def O_.env(I:O_ W a)(L:aX):cr:=newEnv I.d.scope L dB [] (I.d.qualname++".<locals>.") (U a) I.d.code ag jT
def O_.ge(I:O_ W a)(L):GnE (I.env L) I.ar.arg I.p I.e I.c:=⟨I.hk,I.la,I.lp,I.le,I.lc,I.ap,I.ae,I.ac,I.pe,I.pc,I.ec,J,J,I.hco,I.len,I.da,I.dp,I.de,I.dc⟩
def qX.base(f:∀b,F b->F0 b\/s0.heap.get? b=ag)(g:Qt F0 s0 s)(l:∀b,s0.heap.get? b≠ag->s.heap.get? b≠ag):∀{r:aj<|Y × aj Y},qX a w c i r F s m d->qX a w c i r F0 s0 m d:=by
 have j:∀{d},Qt F s d->Qt F0 s0 d:=λx=>⟨λb o n e=>x.keep b o (λz=>(f b z).elim n λq=>by rw[e]at q;exact dn q)<|g.keep b o n e,x.gens.trans g.gens,x.os.trans g.os⟩
 have k:∀b,s.heap.get? b=ag->s0.heap.get? b=ag:=λb e=>by
  cases q:s0.heap.get? b with
  |none=>rfl
  |some o=>exact bI e<|l b (by refine rP q ?_;nofun)
 intro r h;induction r using aE with
 |nil=>exact⟨h.1,j h.2⟩
 |cons x r=>exact cX (λ_=>cX λ_=>cX λ_=>cX λ_=>cX λ_=>cX λ_=>cX λ_=>cX λ_ q=>⟨q.1,j q.2.1,cX (λ_=>cX λ_=>cX λ_ r=>⟨r.1,r.2.1.elim (λz=> .inl<|k _ z) λz=>(f _ z).symm,r.2.2⟩) q.2.2.1,λb t=>(q.2.2.2.1 b t).elim (f b) λz=> .inr<|k b z,q.2.2.2.2⟩) h
def Ll(e:env.kindOf y=U .local)(f:env.scope.kind= .function)(g:s.heap.Ns env.locals m) (h:∀a,a.Ns env.locals (λz=>if z=y then U v else m z)->gk env.locals s.heap a->(∀o,s.heap.get? env.locals=U o->∃b,a.get? env.locals=U b/\b.cls=o.cls)->Q () {s with heap:=a,toks:=s.toks+1}):aL M A (p8 env y v) Q E s:=by exact rP (uu e (by rw[f];rfl) ..) <| sD g h
abbrev OM(A:cZ):Prop:=A.handled=ag
def Fc0(W:Wd)(env:cr)(a:a7)(x:a7)(t:pq)(h:fX):Prop:=(∃o,h.get? env.locals=U o/\o.cls= .type "frame")/\∃m,h.Ns env.locals m/\m a=U (.str x t)
def V9:OG (λb=>b=env.locals)<|Fc0 W env a x t:=by rintro h w k ⟨⟨i,j,l⟩,m,⟨o,n,s,u,d,q,f⟩,r⟩;refine⟨let⟨e,g,c,_⟩:=k _ i J j;⟨e,g,c.trans l⟩,m,?_,r⟩;refine zY (k _ o J u) λe g _ v _=> ?_;exact⟨e,n,s,g,v.trans d,q,f⟩
def NC(I:O_ W ea)(st:St W s)(hL:W.h₀.get? (I.env L).locals=ag)(hA:OM A)(fc:Fc0 W (I.env L) I.ar.arg (xS l) t s.heap):Sg W.prog W.w A.in1 (.func (u6 I.ar.arg I.p I.e I.c zS I.q I.κ)<|I.env L) (denote table<|.func (u6 I.ar.arg I.p I.e I.c zS I.q I.κ)<|I.env L) [] s<|qX W.prog W.w (St W) OM (fJ 0 af l) (λb=>b=(I.env L).locals) s:=by
 have d:=I.ge L;generalize ε:I.env L=env at*;refine jG (fc) λg i=> ?_;refine cm (g) λol O E=> ?_;refine cm (i) λm n1 ma=> ?_;refine P3 ?_;refine k_<|uM<|iV (wpAny_Constant_int ?_) J;refine Ll d.kp d.kind n1 λh1 n2 Q α=> ?_;refine k_<|uM<|iV (aM ?_) J;refine Ll d.ke d.kind n2 λf n3 β γ=> ?_;refine cm (α _ O) λo1 e1 c1=> ?_;refine cm (γ _ e1) λo2 e2 c2=> ?_;have n:∀b o,b≠env.locals->s.heap.get? b=U o->f.get? b=U o:=λb o hb e=>β.extBut b o hb<|Q.extBut b o hb e;obtain⟨k,v,mA,mP,mE⟩:∃k,f.Ns env.locals k/\k I.ar.arg=U (.str (xS l) t)/\(∃u,k I.p=U (.int 0 u))/\k I.e=U (.bool af):=⟨_,n3,by simp[d.ae,d.ap,ma],⟨s.toks,by simp[d.pe]⟩,by simp⟩
 have XI:∀tk,St W {s with heap:=f,toks:=tk}:=λtk=>by
  have sf:zw ol:=by unfold zw;exact E▸ .inl ⟨nofun,by decide⟩
  exact⟨λb o e=>n b o (λz=>by rw[z,hL]at e;exact nd e)<|st.stay b o e,W.TIk _ _ (λb o e c=>n b o (λz=>by rw[z,O]at e;obtain rfl:=sm e;exact c sf) e) st.ti,λb hb=>let⟨ps,e⟩:=st.tabs b hb;⟨ps,n _ _ (λz=>by rw[z,O]at e;obtain rfl:=sm e;cases E) e⟩,st.bare⟩
 refine k_<|U4 (λx=>rfl) ?_;refine abk ?_;refine I.enum _ _ _ _ _ _ (XI _) d.kind d.gl d.bl d.en ?_;refine jo J<|f4<|dE<|og (gg d.kind d.ka v mA<|fe ?_) d.da;refine call_enumerate_str λH hE hI hz j=> ?_;refine wpAny_pyIter_enum hE λp0=> ?_;have y:env.locals<f.objs.size:=dY e2;have d1:env.locals≠f.objs.size+1:=c6<|xF y;have d2:env.locals≠f.objs.size:=c6 y;have δ:Lc env I.ar.arg I.p I.e (xS l) t 0 af H:=Lc.keeps ⟨k,v,mA,mP,mE⟩ λo e=>j _ o e
 have ex:∀b,s.heap.get? b≠ag->f.get? b≠ag:=λb hb=>by
  by_cases z:b=env.locals
  ·refine rP z<|rP e2 ?_;nofun
  ·cases q:s.heap.get? b with
   |none=>exact bI q hb
   |some o=>refine rP (n b o z q) ?_;nofun
 have B:∀b,f.get? b=ag->s.heap.get? b=ag:=λb q=>by
  cases q2:s.heap.get? b with
  |none=>rfl
  |some o=>exact bI q<|ex b (by refine rP q2 ?_;nofun)
 have sz:f.get? (f.objs.size+1)=ag:=by
  cases q:f.get? (f.objs.size+1)with
  |none=>rfl
  |some o=>exact bI (dY q)<|fM.mpr<|iK _
 have D:=λ(s3:aw) (M:s3.heap=H)=>Zk (prog:=W.prog) (w:=W.w) (stay:=St W) (Aok:=OM) (a:=I.ar.arg) (p:=I.p) (e:=I.e) (c:=I.c) (l:=l) (q:=I.q) (κ:=I.κ) (t:=t) (c0:= .func (u6 I.ar.arg I.p I.e I.c zS I.q I.κ) env) (p0:=p0) d (λ_ h=>h) d1 d2 (SQ _) l.length 0 J (db _) (A:=A) (s:=s3) (sb:=s3) (pv:=0) (bv:=af) hA .refl ⟨o2,by exact rP M <| j _ _ e2,c2.trans<|c1.trans E⟩ (rP M δ) (.inr ⟨J,J⟩) ⟨.none,by exact rP M hE⟩<|M▸hI;refine X.SegX.mono (D _ J) λen s' h=>qX.base (F:=Fs env (f.objs.size+1) f.objs.size) (F0:=λb=>b=env.locals) (s0:=s) (r:=fJ 0 af l) (s:=⟨H,_,_,_,_⟩) (λb hb=> ?_) ⟨λb o hb e=>j b o<|n b o hb e,J,J⟩ (λb hb=> ?_) h
 ·rcases hb with hb|hb|hb
  ·exact .inl hb
  ·exact .inr<|B b<|rP hb sz
  ·exact .inr<|B b<|rP hb <| eL _
 ·cases q:f.get? b with
  |none=>exact bI q<|ex b hb
  |some o=>show H.get? b≠ag;refine rP (j b o q) ?_;nofun
noncomputable def ZN(p:Y × aj Y):PV:= .tup [.int p.1,.str p.2]
structure XS(W:Wd)(G:aX)(g:Y)(av F:aX->Prop)(xs:aj<|Y × aj Y)(s:aw)(gs:Aw)(c0:Xu)(t0:r_ CU)(fs0:aj Ky)(F0:aX->Prop)(Fc:fX->Prop):Prop where
 gen:s.heap.IsGen G g
 at_:s.gens[g]? =U gs
 wk:Woken gs c0 t0 fs0
 fx:∀b,F b<->F0 b\/b=G
 nG:¬F0 G
 live:OB F0 s
 ok:OG F0 Fc
 fc:Fc s.heap
 na:∀b,F b->¬av b
 sg:∀A s'',OM A->St W s''->Fc s''.heap->Sg W.prog W.w A.in1 c0 t0 fs0 s'' (qX W.prog W.w (St W) OM xs F0 s'')
inductive t9(W:Wd)(G:aX)(g:Y)(av F:aX->Prop)(r:aj PV)(s:aw):Prop
 |mk {xs:aj<|Y × aj Y} {gs:Aw} {c0:Xu} {t0:r_ CU} {fs0:aj Ky} {F0:aX->Prop} {Fc:fX->Prop} (hr:r=tJ ZN xs) (x:XS W G g av F xs s gs c0 t0 fs0 F0 Fc):t9 W G g av F r s
def t9.na{G}(a:t9 W G g c F r s)(b)(d:F b):¬c b:=by
 cases a with
 |mk _ x=>exact x.na b d
def t9.gen{G}(a:t9 W G g b F r s):s.heap.IsGen G g:=by
 cases a with
 |mk _ x=>exact x.gen
def HV:xg<|.type "generator":=⟨_,J,by decide⟩
section
variable {W:Wd} {G:aX}
def XS.keep(x:XS W G g t F u s f v w j y z) (k:∀b o,F b->s.heap.get? b=U o->xg o.cls->∃a,m.heap.get? b=U a/\a.cls=o.cls/\a.data=o.data/\(o.cls≠ .type "frame"->a=o)) (A:∀f,s.gens[g]? =U f->m.gens[g]? =U f):XS W G g t F u m f v w j y z:=by
 refine⟨?_,A _ x.at_,x.wk,x.fx,x.nG,λb d=> ?_,x.ok,x.ok _ _ (λb o d e=> ?_) x.fc,x.na,x.sg⟩
 ·refine CY (x.gen) λo nm B D l r=> ?_;refine zY (k G o ((x.fx G).mpr<|.inr J) D<|rP l HV) λa h _ _ q=> ?_;rw[q (by refine rP l ?_;decide)]at h;exact⟨o,nm,B,h,l,r⟩
 ·refine cm (x.live b d) λo e i=> ?_;refine pM (k b o ((x.fx b).mpr<|.inl d) e i) λa h c _=> ?_;exact⟨a,h,by exact rP c i⟩
 ·refine cm (x.live b d) λE n i=> ?_;rw[e]at n;obtain rfl:=sm n;exact k b o ((x.fx b).mpr<|.inl d) e i
def XS.odd(x:XS W G g f F h s i j k a l m)(d:F b):∃o,s.heap.get? b=U o/\xg o.cls:=by
 rcases(x.fx b).mp d with q|rfl
 ·exact x.live b q
 ·refine CY (x.gen) λo _ _ e c _=> ?_;exact⟨o,e,by rw[c];exact HV⟩
def lb{s:aw}{i:Y}{x:Aw}(h:i≠g):(s.setGen g x).gens[i]? =s.gens[i]? :=by show(s.gens.setIfInBounds g x)[i]? =_;refine rP zP ?_;exact rP (bA λz=>h z.symm) J
def mN{s:aw}{x:Aw}(h:OY s.gens)(b:x.bare=ah):OY (s.setGen g x).gens:=by
 intro y c;obtain⟨i,d,e⟩:=Array.mem_iff_getElem.mp c;have a:(s.setGen g x).gens[i]? =U y:=by exact rP (gE d)<|rP e J
 by_cases q:i=g
 ·subst q;have:(s.gens.setIfInBounds i x)[i]? =U y:=a;rw[zP]at this;simp only[if_true]at this;split at this
  ·obtain rfl:=sm this;exact b
  ·exact nd this
 ·rw[lb q]at a;refine dQ (ip.mp a) λHM f=> ?_;exact h y<|rS f <| Array.getElem_mem HM
def St.run(st:St W s):St W<|s.setGen g .running:=⟨st.stay,st.ti,st.tabs,mN st.bare J⟩
def Nw(M:A.handled=ag)(hd:A.depth<jx):Kp W A av G (λi=>i=g)<|t9 W G g av:=by
 refine⟨?_,?_,?_,?_,?_,?_,?_,?_,?_,?_⟩
 ·rintro F r s s' ⟨a,x⟩ st nx;exact⟨a,x.keep (λb o hb e n=>nx.ext.get e (st.B4 e n.ne.1)) λO e=>nx.gens _ _ e⟩
 ·rintro F r s s' G' ⟨a,x⟩ ch dj;exact⟨a,x.keep (λb o hb e n=>⟨o,ch.keep b o (λz=>dj b z hb) e,J,J,λ_=>rfl⟩) λO e=>by exact rP ch.gens <| e⟩
 ·rintro F r s s' F2 κ ⟨a,x⟩ sp dj _ dg;exact⟨a,x.keep (λb o hb e n=>⟨o,sp.keep b o (λz=>dj b z hb) e,J,J,λ_=>rfl⟩) λO e=>sp.gens _ _ (λz=>dg _ z J) e⟩
 ·rintro F r s b o ⟨a,x⟩ hb e;refine cm (x.odd hb) λo' w n=> ?_;rw[e]at w;obtain rfl:=sm w;exact n
 ·rintro F r s b ⟨a,x⟩ hb e;refine cm (x.odd hb) λo' w n=> ?_;rw[e]at w;exact nd w
 ·rintro F r s i ⟨a,x⟩ rfl;exact(ip.mp x.at_).1
 ·rintro F y r s Q E @⟨B,O,c0,t0,α,F0,Fc,a,x⟩ st β h;induction B using aE with
  |nil=>cases a
  |cons z B=>
   refine jG (dM a) λf j=> ?_;obtain rfl:=f;obtain rfl:=j;refine Dw M (W.T.nolimit.keeps st.stay) hd x.gen x.at_ x.wk<|(x.sg A _ M st.run x.fc).mono λen s1 he=> .inr ?_;obtain⟨v,l,k,c,p,fs,F',μ,rfl,d,⟨T,u,t,rfl,hT,ht⟩,D,γ,δ,ε,ζ⟩:=he;refine⟨_,l,k,c,p,fs,J,λν=> ?_⟩
   have H:∀b,F' b\/b=G->F b\/s.heap.get? b=ag:=λb hb=>by
    rcases hb with hb|hb
    ·rcases D b hb with q|q
     ·exact .inl<|(x.fx b).mpr<|.inl q
     ·exact .inr q
    ·exact .inl<|(x.fx b).mpr<|.inr hb
   have hG:s1.heap.IsGen G g:=by refine Py (x.gen) λo nm qn ho r=> ?_;exact⟨o,nm,qn,d.keep G o x.nG ho,r⟩
   have η:g<s1.gens.size:=by refine rP d.gens ?_;show g<(s.gens.setIfInBounds g .running).size;exact rP iM <| (ip.mp x.at_).1
   have I:∀b,(F b\/s.heap.get? b=ag)->¬av b:=λb hb ha=>by
    rcases hb with hb|hb
    ·exact x.na b hb ha
    ·exact β b ha hb
   refine h _ _ (λb=>F' b\/b=G) ⟨λb o hb e=>d.keep b o (λz=>hb<|(x.fx b).mpr<|.inl z) e,λi ι L e=> ?_,λhb=> ?_,d.os,?_⟩ H ?_ ⟨J,hG,?_,.inr ⟨k,l,p,af,J,J⟩,λb=>Iff.rfl,λz=> ?_,γ,δ,ε,λb hb=>I b<|H b hb,ζ⟩
   ·exact rP (lb L) <| rP d.gens <| rP (lb L) e
   ·exact mN (rP d.gens <| mN hb J) J
   ·show s.gens.size<=(s1.gens.setIfInBounds g _).size;refine rP iM<|rP d.gens ?_;show s.gens.size<=(s.gens.setIfInBounds g _).size;exact rP iM <| aZ _
   ·
    refine⟨T,_,J,I T ?_,ht,?_⟩
    ·rcases hT with q|q
     ·exact .inr q
     ·exact .inl<|(x.fx T).mpr<|.inl q
    ·refine .cons ?_ (.cons ?_ ?_)
     ·exact⟨u,J⟩
     ·exact⟨t,J⟩
     ·rfl
   ·exact setGen_self<|gE η
   ·rcases D G z with q|q
    ·exact x.nG q
    ·refine Py (x.gen) λo _ _ ho _=> ?_;rw[show s.heap.get? G=ag from q]at ho;exact nd ho
 ·rintro F s Q E @⟨B,O,c0,t0,α,F0,Fc,a,x⟩ st h;induction B using aE with
  |cons z B=>cases a
  |nil=>
   refine Dw M (W.T.nolimit.keeps st.stay) hd x.gen x.at_ x.wk<|(x.sg A _ M st.run x.fc).mono λen s1 he=> .inl ?_;refine jG (he) λm d=> ?_;obtain rfl:=m;refine⟨J,λh' hk=>h _ ⟨λb o hb e=>hk b o<|d.keep b o (λz=>hb<|(x.fx b).mpr<|.inl z) e,λi ι L e=> ?_,λhb=> ?_,d.os,?_⟩⟩
   ·exact rP (lb L) <| rP d.gens <| rP (lb L) e
   ·exact mN (rP d.gens <| mN hb J) J
   ·show s.gens.size<=(s1.gens.setIfInBounds g _).size;refine rP iM<|rP d.gens ?_;show s.gens.size<=(s.gens.setIfInBounds g _).size;exact rP iM <| aZ _
 ·rintro F r s Q E ⟨a,x⟩ h;exact Cv x.gen h
 ·rintro F r s t v Q E ⟨a,x⟩ h;refine CY (x.gen) λo _ _ e c _=> ?_;exact DH e c (dcd J) h
end
def HW{G}{g}:∀(av' c F:aX->Prop) (r) (s),t9 W G g av' F r s->(∀a,c a->av' a\/s.heap.get? a=ag)->t9 W G g c F r s:=by
 rintro av' c F r j ⟨h,x⟩ d;refine⟨h,x.gen,x.at_,x.wk,x.fx,x.nG,x.live,x.ok,x.fc,λb f i=> ?_,x.sg⟩;rcases d b i with q|q
 ·exact x.na b f q
 ·refine cm (x.odd f) λo e _=> ?_;rw[q]at e;exact nd e
def H3(I:O_ W ea)(hR:Rm n A)(st:St W s)(ha:Av av s) (h:∀G g F s1,Nx W s s1->s1.heap.IsGen G g->t9 W G g av F ((fJ 0 af l).map ZN) s1->(∀b,F b->s.heap.get? b=ag)->s.gens.size<=g->Q (.ref G) s1):aL (aQ W.prog W.w) A (call (.ref ea) [.str ⟨l.toArray⟩ t]) Q E s:=by
 refine zD<|codeAny_call_generator (by have:=hR.depth;exact d9 5561300296540418 this) (st.stay _ _ I.ho) I.hd I.hco I.hgen I.stm (I.code.keeps st.stay) ?_;refine rP (oQ I.params I.dflt (by rfl)<|by simp) ?_;refine aM ?_;refine rP I.clo<|rP I.glob<|rP I.blt ?_;refine Qw I.hk I.noC I.la λj a k v α=>⟨?_,?_⟩
 ·exact W.T.nolimit.keeps λb o e=>k b o<|st.stay b o e
 ·have ζ:St W {s with heap:=j,toks:=a}:=st.of_keeps k;have y:∀b o,s.heap.get? b=U o->(j.push {cls:= .type "generator",data:= .fields #[.int s.gens.size 0,.str I.d.name a,.str I.d.qualname<|a+1]}).get? b=U o:=λb o e=>bu _ (k b o e)
  have nf:j.objs.size≠s.heap.objs.size:=by refine cm (v) λo e _=> ?_;exact(c6<|dY e).symm
  have β:St W {s with heap:=j.push {cls:= .type "generator",data:= .fields #[.int s.gens.size 0,.str I.d.name a,.str I.d.qualname<|a+1]},gens:=s.gens.push<|.fresh<|.func (u6 I.ar.arg I.p I.e I.c zS I.q I.κ)<|I.env s.heap.objs.size,toks:=a+1+1}:=
   let x:=st.of_keeps (t:=a) y
   ⟨x.stay,x.ti,x.tabs,st.bare.push J⟩
  have γ:Nx W s {s with heap:=j.push {cls:= .type "generator",data:= .fields #[.int s.gens.size 0,.str I.d.name a,.str I.d.qualname<|a+1]},gens:=s.gens.push<|.fresh<|.func (u6 I.ar.arg I.p I.e I.c zS I.q I.κ)<|I.env s.heap.objs.size,toks:=a+1+1}:=⟨λb o _ e=> .inl<|y b o e,β,λi gs e=>by refine rP (Array.getElem?_push_lt (ip.mp e).1) ?_;rw[gE (ip.mp e).1]at e;exact e,J⟩
  have gG:(j.push {cls:= .type "generator",data:= .fields #[.int s.gens.size 0,.str I.d.name a,.str I.d.qualname<|a+1]}).IsGen j.objs.size s.gens.size:=⟨_,_,_,bQ _ J,J,J,J⟩
  have B:s.heap.get? j.objs.size=ag:=by
   cases q:s.heap.get? j.objs.size with
   |none=>rfl
   |some o=>exact bI (dY<|k _ _ q)<|e_ _
  have D:∀b,(b=s.heap.objs.size\/b=j.objs.size)->s.heap.get? b=ag:=λb H=>by
   rcases H with rfl|rfl
   ·exact eL _
   ·exact B
  have L:Fc0 W (I.env s.heap.objs.size) I.ar.arg (xS l) t<|j.push {cls:= .type "generator",data:= .fields #[.int s.gens.size 0,.str I.d.name a,.str I.d.qualname<|a+1]}:=by refine cm (v) λo e c=> ?_;exact⟨⟨o,bu _ e,c⟩,_,α.keeps λb o e=>bu _ e,bM J⟩
  refine h j.objs.size s.gens.size (λb=>b=s.heap.objs.size\/b=j.objs.size) _ γ gG (.mk (xs:=fJ 0 af l) (gs:= .fresh<|.func (u6 I.ar.arg I.p I.e I.c zS I.q I.κ)<|I.env s.heap.objs.size) (c0:= .func (u6 I.ar.arg I.p I.e I.c zS I.q I.κ)<|I.env s.heap.objs.size) (fs0:=[]) (F0:=λb=>b=s.heap.objs.size) (Fc:=Fc0 W (I.env s.heap.objs.size) I.ar.arg (xS l) t) J ⟨gG,?_,.inl ⟨J,J,J,J⟩,λb=>Iff.rfl,nf,λb H=> ?_,V9 (env:=I.env s.heap.objs.size),L,λb H δ=>ha b δ<|D b H,λA' η ε M O=> ?_⟩) D<|aZ _
  ·exact Array.getElem?_push_size
  ·refine cm (L.1) λo e c=> ?_;exact⟨o,rP H <| e,_,c,by decide⟩
  ·refine NC I M ?_ ε O;cases q:W.h₀.get? s.heap.objs.size with
   |none=>exact q
   |some o=>exact bI (dY<|st.stay _ _ q)<|e_ _
def Wq(I:O_ W d):kU W d:=by intro l t n A s u Q E b st e v h;refine H3 I b st e λG g F s1 c f j k a=>h (.ref G) s1 c λw x m=>Cv f ?_;exact m G _ F (λi=>i=g) (t9 W G g) (.refl c.st) (λy o z q av'=>Nw o (by refine rP q ?_;have:=b.depth;exact d9 5561300296540418 this)) HW j k λi r=>rP r <| a
noncomputable def abP(K:uj)(a:aX):aB:=(fnOf K a).any<|fdB K ah
noncomputable def Jm(l:aj<|a7 × dJ)(x:a7):aB:=decide (l.lookup x=U .local)&& !(x==("__debug__":a7))
noncomputable def abN(l:aj<|a7 × dJ)(a p e c:a7):aB:=l.all (λz=>decide (z.2≠ .cell))&&(Jm l a&&(Jm l p&&(Jm l e&&(Jm l c&&(decide (l.lookup ("enumerate":a7)=U .globalImplicit) &&(!(a==p)&&(!(a==e)&&(!(a==c)&&(!(p==e)&&(!(p==c)&& !(e==c)))))))))))
def XK{x y:a7}(h:(!(x==y))=ah):x≠y:=λe=>by rw[e,cH]at h;exact ff h
def oL(h:Jm l x=ah):l.lookup x=U .local/\(x==("__debug__":a7))=af:=by unfold Jm at h;simp only[i_,pZ,rt]at h;exact h
def Zy{κ:Y->Y}(A:abP W.K a=ah)(j:(fdOf W.K a).params=⟨[],[ar],ag,[],[],ag,[]⟩)(k:AK (fdOf W.K a)=u6 ar.arg p e c zS q κ) (l:abN (fdOf W.K a).scope.names ar.arg p e c=ah) (B:B5 W.K "enumerate"=ah):AB<|O_ W a:=by
 refine cm (kD A) λm n h=> ?_;have b:fdOf W.K a=m:=by unfold fdOf;exact rP n J
 rw[b]at j k l;have H:=F7 h;refine cm (x7 n) λo D E=> ?_;refine cm H.bd λs I L=> ?_;have r:=n2 l;have d:=n2 r.2;have f:=n2 d.2;have g:=n2 f.2;have i:=n2 g.2;have t:=n2 i.2;have u:=n2 t.2;have v:=n2 u.2;have w:=n2 v.2;have x:=n2 w.2;have y:=n2 x.2
 exact⟨⟨o,m,ar,p,e,c,q,κ,W.X _ _ D,E,H.co,H.gn,H.kd,H.gl,H.bl,H.cl,H.df,j,by exact rP I<|rS k<|rP L J,Xl W.X H.cd,λz M=>aq<|a_.mp r.1 z M,(oL d.1).1,(oL f.1).1,(oL g.1).1,(oL i.1).1,aq t.1,XK u.1,XK v.1,XK w.1,XK x.1,XK y.1,XK y.2,(oL d.1).2,(oL f.1).2,(oL g.1).2,(oL i.1).2,o5 B J (dcd J)<|dcd J⟩⟩
section
variable {G S:aX}
def NI(hh:A.handled=ag)(hd:A.depth<jx)(d:St W s₀)(t:s₀.heap.get? S=ag)(k:s₀.gens.size<=g)(γ:u S):
  ∀{y} {F:aX->Prop} {s} {ys} {vs} {c},t9 W G g u F y s->(∀b,F b->s₀.heap.get? b=ag)->¬F S->Nx W s₀ s->Av u s->
   s.heap.get? S=U {cls:= .type "list",dict:=ag,data:= .seq vs.toArray c,slots:= #[]}->ba W u s.heap ys vs->ys.length+y.length<=big->
   (∀j O c',Nx W s₀ j->j.heap.get? S=U {cls:= .type "list",dict:=ag,data:= .seq O.toArray c',slots:= #[]}->ba W u j.heap (ys++y) O->R (.ok<|.ret ε) j)->
   kW (aQ W.prog W.w) A (.builtin "list.extend.loop" ⟨[.ref S,.ref G,ε],[]⟩) R s:=by
 have Q:=Nw (W:=W) (A:=A.in1) (G:=G) (g:=g) (av:=u) hh hd;intro y;induction y with
 |nil=>intro F s ys vs c H hF m I ha hS hr a hR;refine uv zQ ?_;refine rP (mZ j8 _) ?_;refine al<|Q.done H I.st λj f=> ?_;have hO:∀b o,F b->s.heap.get? b=U o->xg o.cls:=λb o a e=>Q.odd H a e;exact aM<|hR j vs c (I.step d f hF hO λi hi=>hi▸k) (f.keep S _ m hS) (by simpa using f.RV hO hr)
 |cons x y ih=>
  intro F s ys vs c H hF m I ha hS hr a hR;refine uv zQ ?_;refine rP (mZ j8 _) ?_;refine al<|Q.item H I.st ha λv j F' f α rv ζ=> ?_;have hO:∀b o,F b->s.heap.get? b=U o->xg o.cls:=λb o a e=>Q.odd H a e;have η:=I.step d f hF hO λi hi=>rP hi <| k;have D:=f.keep S _ m hS;have n:¬F' S:=λz=>(α S z).elim m λq=>by rw[q]at hS;exact nd hS
  have ι:=f.RV hO hr;have r:=hr.length;have l:ys.length+(y.length+1)<=1048576:=a;refine al ?_;refine pg D J (aM ⟨yf j8 _,?_⟩) (rP (aO ..) <| rP (cS ..) <| d9 0x3201000005f92b1a101310000006f901 r l) (by show(vs.toArray.push v).size<=qO+1;exact rP (Pv ..) <| rP (aO ..) <| rP (cS ..) <| d9 0x3201000005f92b1a101310000006f9b02 r l);have E:=gK (gP (·.push v)) D J;have ch:Cu u (λb=>b=S) j {j with heap:=j.heap.update S (gP (·.push v))}:=⟨λb o a e=>(lP _ _ (λh:S=b=>a h.symm)).trans e,λb a=>rP a <| γ,J,J⟩
  have κ:Nx W s₀ {j with heap:=j.heap.update S (gP (·.push v))}:=η.chg d ch (λb a=>rP a <| t) λb o a e=> .inr λvs z=>by subst a;rw[D]at e;obtain rfl:=sm e;cases z
  refine ih (Q.chg ζ ch λb a z=>n<|rS a <| z) (λb a=>(α b a).elim (hF b) λq=>I.new d q) n κ (λb a=> ?_) (by simpa [gP]using E) ((ι.append<|.one rv).chg ch) (rP aW <| cQ 0x1000005f91b0a11000005f910ba1 l) (by simpa using hR);by_cases z:b=S
  ·refine rP z ?_;exact λq=>by rw[show(j.heap.update S (gP (·.push v))).get? S=ag from q]at E;exact nd E
  ·cases e:s.heap.get? b with
   |none=>exact bI e<|ha b a
   |some o=>
    have:¬F b:=λq=>by exact H.na b q a
    refine rP (ch.keep b o z<|f.keep b o this e) ?_;nofun
theorem zg(hh:A.handled=ag)(hd:A.depth<jx)(st:St W s)(M:Av y s)(I:t9 W G g y F O s)(d:St W s₀)(nx:Nx W s₀ s)(hF:∀b,F b->s₀.heap.get? b=ag)(hg:s₀.gens.size<=g)(hb:O.length<=big) (hQ:∀S s',Nx W s₀ s'->s.heap.get? S=ag->bf W y s'.heap (.lst O) (.ref S)->Q (.ref S) s'):aL (aQ W.prog W.w) A (call (.type "list") [.ref G]) Q E s:=by
 have hT:s.TypeIs (.ref G) "generator":=I.gen.typeIs;have α:¬F s.heap.objs.size:=λz=>Nw hh hd |>.there I z (eL _)
 refine callType_codes (Q₁:=λβ H=>β= .ref s.heap.objs.size/\H={s with heap:=s.heap.push {cls:= .type "list",data:= .seq #[]}}) PySem.F.called_list (PySem.F.typeCall_list_1 _) PySem.F.entry_list_init (code_list_new _ ⟨J,J⟩) λβ H γ=> ?_
 refine jG (γ) λB D=> ?_;obtain rfl:=B;obtain rfl:=D;have hS:(s.heap.push {cls:= .type "list",data:= .seq #[]}).get? s.heap.objs.size=U {cls:= .type "list",data:= .seq #[]}:=bQ _ J;refine⟨⟨_,hS,J⟩,PySem.F.args_list_init_2 _ _,?_⟩;generalize δ:s.heap.objs.size=S at*;have q:s.heap.get? S=ag:=by exact δ▸eL _
 have ε:S≠G:=λz=>by refine cm (hT) λo e _=> ?_;rw[<-z]at e;rw[q]at e;exact nd e
 have ζ:t9 W G g (λb=>y b\/b=S) F O {s with heap:=s.heap.push {cls:= .type "list",data:= .seq #[]}}:=(Nw (av:=λb=>y b\/b=S) hh hd).nx (HW _ _ _ _ _ I λa M=>M.elim .inl λz=> .inr<|z▸q) st<|(Nx.refl st).push _
 have η:Nx W s₀ {s with heap:=s.heap.push {cls:= .type "list",data:= .seq #[]}}:=nx.push _
 have i:∀{s1} (f:eI aA->eI aA),Cu (λb=>y b\/b=S) (λb=>b=S) s1 {s1 with heap:=s1.heap.update S<|gP f}:=λf=>⟨λb o hb e=>(lP _ _ (λh:S=b=>hb h.symm)).trans e,λb hb=> .inr hb,J,J⟩
 have j:s₀.heap.get? S=ag:=nx.new d q
 have u:∀{s1:aw} {vs:eI aA} {c:Y},s1.heap.get? S=U {cls:= .type "list",dict:=ag,data:= .seq vs c,slots:= #[]}->∀b o,b=S->s1.heap.get? b=U o->zw o:=λh b o hb e=> .inr λvs z=>by subst hb;rw[h]at e;obtain rfl:=sm e;cases z
 have IT:=Nw (W:=W) (A:=A) (G:=G) (g:=g) (av:=λb=>y b\/b=S) hh hd;have dj:∀b,b=S->¬F b:=λb hb=>hb▸α;show aL _ A.in1.in1 (do let κ<-aba (.ref S);aa_ (.ref S) (λ_=> #[]);letGo κ.toList.reverse;abb (.ref S) (.ref G) .none) _ _ _;refine al ?_;refine al<|kG hS J<|aM ?_;refine al<|pg hS J ?_;have m:=gK (gP λ_=>(#[]:eI aA)) hS J;have v:=IT.chg ζ (i λ_=> #[]) dj;have μ:=η.chg d (i λ_=> #[]) (λb hb=>hb▸j)<|u hS;refine al<|wpAny_letGo ?_;have L:∀{s1},t9 W G g (λb=>y b\/b=S) F O s1->s1.TypeIs (.ref G) "generator":=λI=>I.gen.typeIs;have ν:∀{s1},t9 W G g (λb=>y b\/b=S) F O s1->s1.heap.IsGen G g:=λI=>I.gen;refine al<|ON (L v) ?_;have h1:xo (.ref S) (.ref G)=af:=by simp[xo,ε]
 have h2:(cK "generator"==cK "list")=af:=by decide
 have h3:(cK "generator"==cK "tuple")=af:=by decide
 simp only[h1,h2,h3,vy,iq,wK];refine al<|Cv (ν v) ?_;refine al<|cC ?_;refine al<|ut (L v) PySem.F.gen_no_len ?_;refine al<|ut (L v) PySem.F.gen_no_hint ?_;refine aM ?_
 show aL _ A.in1.in1 (rule "list.extend.makes-room" >>= λ_=>aa' (.ref S) >>= λ_=>again<|.builtin "list.extend.loop" ⟨[.ref S,.ref G,.none],[]⟩) _ _ _
 refine al<|zB ?_;refine al ?_;refine al<|pg m J ?_;have n:=gK (gP (·.push im)) m J;refine pg (hz:=by seq_fits) n J ?_;have x:=gK (gP (·.pop)) n J;have ξ:=IT.chg v (i (·.push im)) dj;have π:=IT.chg ξ (i (·.pop)) dj;have ρ:=μ.chg d (i (·.push im)) (λb hb=>hb▸j)<|u m;have σ:=ρ.chg d (i (·.pop)) (λb hb=>hb▸j)<|u n;refine aM ⟨yf j8 _,NI (A:=A.in1) hh hd d j hg (.inr J) (ys:=[]) (vs:=[]) π hF α σ (λb hb=> ?_) x .nil (by simpa using hb) λs' τ c' n' e' r'=> ?_⟩
 ·rcases hb with hb|hb
  ·have υ:S≠b:=λz=>M b hb<|z▸q;cases e:s.heap.get? b with
   |none=>exact bI e<|M b hb
   |some o=>have k:∀{h:fX} {f:Uo->Uo},h.get? b=U o->(h.update S f).get? b=U o:=λe=>(lP _ _ υ).trans e;refine rP (k<|k<|k<|bu _ e) ?_;nofun
  ·refine rP hb<|rP x ?_;nofun
 ·refine⟨J,hQ S s' n' q ?_⟩;exact⟨S,τ,J,λz=>M S z q,⟨c',e'⟩,r'.weak λb hb=> .inl hb⟩
end
def NP(l):∀(p) (e),(fJ p e l).length<=l.length+1:=by
 induction l with
 |nil=>intro p e;cases e;exact db _;exact aZ 1
 |cons c t a=>
  intro p e;induction e using dC with
  |true=>exact cL<|a (p+1) af
  |false=>
   show(match aF c 92 with|true=>fJ (p+1) ah t|false=>(p,[c])::fJ (p+1) af t).length<=_;cases aF c 92 with
   |true=>exact mo<|a (p+1) ah
   |false=>exact cL<|a (p+1) af
def Rp{p:Prop}(e:mU k env (.esc c)=U a)(h:∀l,k.ex env c=U (.str l)->aY l.length 65536=ah->a=(fJ 0 af l).map (λp=> .tup [.int p.1,.str p.2])->p):p:=
 gO e λx b e=>by
  induction x using PV.casesOn with
  |str l=>have g:=cN e;exact h l b g.1 g.2.symm
  |_=>exact nd e
def Vv(I:O_ W N.ea)(H:nH W N fa):zA W N fa:=by
 refine⟨λ{k n f X A s av m env e L r Q E} K D w st M O ev h=> ?_⟩;refine tz (vA w) λx xp xs α w=>rL (n2 (n2 w).2).2 λy b=> ?_;have c1:=(n2 (n2 w).2).1;obtain rfl:x="list":=dW (n2 w).1;clear w;have c3:=(n2 b).2;induction L using Src.casesOn with
 |of c=>exact ff (n2 b).1
 |rev c=>exact ff (n2 b).1
 |esc c=>
 clear b;refine D_ c3 λz yp ζ d2 d3=> ?_;refine gO ev λxs e1 ev=> ?_;obtain rfl:=sm ev;refine rP (ik ..) ?_;refine al<|n9 (H.bl "list" .list J) c1 st O ?_;refine Rp e1 λl f1 hl e2=> ?_;subst e2
 have B:∀(p) (q),GJ α (s_ [.Call (.Name ("_iter_escaped_chars":a7) p) [z] [] q] m)=[(af,eval (.Call (.Name ("_iter_escaped_chars":a7) p) [z] [] q) m)]:=λp q=>by exact rP (nV J ..) J
 refine rP (B ..) ?_;refine jo J<|f4<|dE ?_;refine rP (ik ..) ?_;refine al<|n9 H.esc d2 st O ?_;refine rP (pU d3 ..) ?_;refine oV (H.escd) λo d h1 h2=> ?_;refine kZ<|f4<|dE<|K.ex d3 D st M O f1 λv s1 u rv _=>fe ⟨⟨u.st.stay _ _ h1,h2⟩,?_⟩;refine dQ (rv) λt i=> ?_;obtain rfl:=i;refine H3 I D u.st (M.nx u st) λG g F s2 j hg iv hF β=>fe ?_;have hd:A.depth<jx:=by have:=D.depth;exact d9 5561300296540418 this
 have γ:=aD hl;refine zg D.handled hd j.st ((M.nx u st).nx j u.st) iv u.st j hF β (rP (aG ..) <| ab (NP _ 0 af)<|ab (cL γ)<|dcd J) λS s' δ hS ε=>h (.ref S) s' (u.trans δ) ε λa e=> ?_;cases e;exact(u.trans j).new st hS
def OE(m:xB)(r:au<|Y × Y):Prop:=match r with
 |some (a,b)=>(match m.outcome with|some .matched=>True|_=>iY)/\m.start=a/\m.handed=b
 |none=>match m.outcome with|some .failed=>True|_=>iY
def Ends(m:xB)(r:au<|Y × Y)(B:Y):Prop:=∃N,N<=B/\OE (m.runFor N) r
theorem OE.some(h:OE m r):m.outcome.isSome=ah:=by
 unfold OE at h;split at h
 ·cases q:m.outcome with
  |none=>rw[q]at h;exact h.1.elim
  |some _=>rfl
 ·cases q:m.outcome with
  |none=>rw[q]at h;exact h.elim
  |some _=>rfl
def Ends.step(a:m.outcome=ag)(h:Ends m.step r B):Ends m r<|B+1:=by refine cm (h) λN b c=> ?_;refine⟨N+1,cL b,?_⟩;show OE (if m.outcome.isSome then m else Sre.M.runFor N m.step) r;exact rP a c
def Ends.here(h:OE m r):Ends m r 0:=⟨0,aZ _,h⟩
def Ends.le{B C:Y}(h:Ends m r B)(x:B<=C):Ends m r C:=let⟨N,a,b⟩:=h;⟨N,ab a x,b⟩
noncomputable def ko:eI Y:= #[14,4,0,1,1,6,1,16,46,1]
noncomputable def tC:eI Y:= #[14,9,4,1,2,16,10,16,13,0,7,7,16,13,16,10,15,18,5,16,10,15,13,11,16,13,5,5,0,16,10,1,15,2,0,1]
noncomputable def At(code text:eI Y)(h s:Y)(d first:aB)(seen:gV)(pc pos:Y)(i:au aB):xB:={code,text,lim:=text.size,start:=s,lastStart:=text.size,mustAdvance:=d,pc,pos,handed:=s,outermost:=first,marks:= #[],frames:=[{wait:= .nextStart,pc:=h,pos:=s,outermost:=first}],weight:=1,answer:=i,seen}
def Lo{seen}:(At ko text 5 s a first seen 5 s ag).step=if(s==0||text.getD (s-1) 0==10)=ah then At ko text 5 s a first ((seen.add 6).add 44) 7 s ag else At ko text 5 s a first ((seen.add 6).add 44) 5 s (U af):=J
def Ln{seen}:(At ko text 5 s a first seen 7 s ag).step=if s>=text.size then At ko text 5 s a first (seen.add 16) 7 s (U af)else if(text.getD s 0==46)=ah then At ko text 5 s a first (seen.add 16) 9 (s+1) ag else At ko text 5 s a first (seen.add 16) 7 s (U af):=by
 show(if s>=text.size then _ else _)=_;split
 ·rfl
 ·show(match(Except.ok (text.getD s 0==46,seen.add 16):Except o_ (aB × gV))with| .error b=>_| .ok (af,seen)=>_| .ok (ah,seen)=>_)=_;cases text.getD s 0==46<;>rfl
def UZ{seen}:(At ko text 5 s a first seen 9 (s+1) ag).step={At ko text 5 s a first (seen.add 1) 9 (s+1) (U ah)with handed:=s+1}:=by show(if(first&&(af&&_||a&&(s+1==s)))=ah then _ else _)=_;refine rP (show(s+1==s)=af from cw.mpr<|SQ s)<|rP (tK ..) ?_;show(if(first&&af)=ah then _ else _)=_;exact rP (tK ..) J
def Lm{seen}:(At ko text 5 s a first seen pc d (U af)).step=if s<text.size then At ko text 5 (s+1) af af seen 5 (s+1) ag else{At ko text 5 s a first seen 5 s (U af)with frames:=[],weight:=0}:=by show(if s<text.size then _ else _)=_;split<;>rfl
noncomputable def tZ:aB->aj Y->au Y
 |_,[]=>ag
 |p,c::t=>if p=ah/\c=46 then U 0 else(tZ (aF c 10) t).map (· +1)
noncomputable def jP(l:aj Y)(s:Y):aB:=s==0||l.getD (s-1) 0==10
def A0(p)(c)(t):tZ p (c::t)=if p=ah/\c=46 then U 0 else(tZ (aF c 10) t).map (· +1):=J
def F1(l:aj Y)(s:Y):au<|Y × Y:=(tZ (jP l s)<|l.drop s).map λk=>(s+k,s+k+1)
def jk(l:aj Y)(i:Y):l.toArray.getD i 0=l.getD i 0:=by simp[ot,ce]
def R8(a b):(a==b)=aF a b:=by rw[kY,Nat.beq_eq,eR]
def abI{l:aj Y}:∀(k s:Y) (a first:aB) (seen:gV),l.length-s=k->s<=l.length->Ends (At ko l.toArray 5 s a first seen 5 s ag) (F1 l s) (6*(k+1)):=by
 intro k;induction k with
 |zero=>
  intro s a first seen n r
  have e:s=l.length:=d9 0x1cc990101723012a103 (by rfl) n r
  have i:F1 l s=ag:=by unfold F1;exact rP e <| rP i9 J
  refine rP i ?_
  have m:∀{seen pc},Ends (At ko l.toArray 5 s a first seen pc s (U af)) ag 2:=λ{seen pc}=>by refine .step J ?_;refine rP Lm<|rP (bA (by rw[e];exact e_ _)) ?_;refine .step J<|.here ?_;exact trivial
  refine Ends.le (.step J (B:=4) ?_)<|BW 129418386;refine rP Lo ?_;split
  ·refine Ends.le (.step J (B:=2) ?_)<|BW 18818;exact rP Ln <| rP (bM<|by exact cD e.symm) m
  ·exact m.le<|BW 18817
 |succ k u=>
  intro s a first seen n r
  have b:s<l.length:=gr 0x7c38c3203b23012a102 (by rfl) n;obtain⟨c,o⟩:∃c,l.drop s=c::l.drop (s+1):=⟨l[s],fI b⟩
  have g:l.getD s 0=c:=by
   have:(l.drop s)[0]? =U c:=by exact rP o J
   rw[gN]at this;refine rP ce<|rP (show l[s]? =U c from this) ?_;rfl
  have t:s<l.toArray.size:=b
  have next:∀{seen pc},(tZ (jP l s) (l.drop s)=(tZ (jP l<|s+1)<|l.drop<|s+1).map (· +1))->Ends (At ko l.toArray 5 s a first seen pc s (U af)) (F1 l s) (6*(k+1)+1):=λ{seen pc} h=>by
   refine .step J ?_;refine rP Lm<|rP (bM t) ?_
   have i:F1 l s=F1 l (s+1):=by
    unfold F1;refine rP h ?_;cases tZ (jP l<|s+1) (l.drop<|s+1)with
    |none=>rfl
    |some j=>exact az (λz=>U (z,z+1)) (sj s j).symm
   exact rP i <| u (s+1) af af seen (uS 0x1c83c8c83799be883b89983bccd03423411b234b30a432a103 (by rfl) (by rfl) n r b) b
  have d:jP l (s+1)=aF c 10:=by unfold jP;exact rP (show(s+1==0)=af from rfl)<|rP (XD ..)<|rP (wU ..)<|rP (g ..)<|rP (R8 ..) J
  refine Ends.le (.step J (B:=6*(k+1)+4) ?_)<|du 0xbb6c490b6ca2;refine rP Lo ?_;by_cases q:jP l s=ah
  ·refine rP (bM (by rw[jk];exact q)) ?_;refine Ends.le (.step J (B:=6*(k+1)+2) ?_)<|du 0x490b6ca80b6ca2;refine rP Ln<|rP (bA<|by exact CI.mpr b) ?_;by_cases f:c=46
   ·refine rP (bM (by rw[jk,g,f];rfl)) ?_
    have i:F1 l s=U (s,s+1):=by unfold F1;refine rP o ?_;exact rP (A0 ..) <| rP (bM ⟨q,f⟩ ..) J
    refine rP i ?_;refine Ends.le (.step J (B:=2) ?_)<|du 2159463042;refine rP UZ ?_;refine .step J<|.step J<|.here ?_;exact⟨trivial,J,J⟩
   ·refine rP (bA (by rw[jk,g];exact λz=>f<|dW z)) ?_;refine(next ?_).le<|du 8845160134338;refine rP o ?_;show(if jP l s=ah/\c=46 then _ else _)=_;exact rP (bA λz=>f z.2)<|rP d J
  ·refine rP (bA (by rw[jk];exact q)) ?_;refine(next ?_).le<|du 80313415939778;refine rP o ?_;show(if jP l s=ah/\c=46 then _ else _)=_;exact rP (bA λz=>q z.1)<|rP d J
def Hi{s:Y}(a:s<=l.length):Ends (jJ ko l.toArray 0 s l.toArray.size af) (F1 l s)<|6*(l.length+2):=by
 by_cases h:s=l.length
 ·have b:F1 l s=ag:=by unfold F1;exact rP h <| rP i9 J
  refine rP b ?_
  have e:jJ ko l.toArray 0 s l.toArray.size af=(if(decide (s>l.toArray.size)||decide (l.toArray.size-s<1))=ah then _ else _):=J
  refine rP e<|rP (bM<|bH.mpr<|.inr<|bD (by rw[h];exact gx<|cD<|xC _)) ?_
  refine Ends.le (.step J<|.here ?_)<|cQ 0x605001180a6c72 a
  exact trivial
 ·have e:jJ ko l.toArray 0 s l.toArray.size af=(if(decide (s>l.toArray.size)||decide (l.toArray.size-s<1))=ah then _ else At ko l.toArray 5 s af ah (({}:gV).add 14) 5 s ag):=J;exact rP e <| rP (bA<|by exact λz=>(bH.mp z).elim (λz=>fM.mpr a<|aq z) λz=>fM.mpr (xD<|pF a h)<|aq z) <| (abI (l.length-s) s af ah _ J a).le<|d9 0x160510210a81a6c0b6c1 J
noncomputable def fN(s:Y)(first:aB):zF:={wait:= .nextStart,pc:=10,pos:=s,outermost:=first}
noncomputable def fB(pc s:Y)(first:aB):zF:={wait:= .nextBranch,pc,pos:=s,outermost:=first}
noncomputable def fL(pos:Y)(first:aB):zF:={wait:= .lookNot,pc:=26,pos,outermost:=first}
noncomputable def S3(text:eI Y)(s:Y)(first g:aB)(seen:gV)(pc pos d:Y)(frames:aj zF)(w:Y)(h:au aB):xB:={code:=tC,text,lim:=text.size,start:=s,lastStart:=text.size,mustAdvance:=af,pc,pos,handed:=d,outermost:=g,marks:= #[],frames,weight:=w,answer:=h,seen}
section
variable {text:eI Y} {s e f w:Y} {first g:aB} {seen:gV} {a:aj zF}
def IX:(S3 text s first first seen 10 s s [fN s first] 1 ag).step=S3 text s first first (seen.add 7) 12 s s [fB 11 s first,fN s first] 2 ag:=J
def vX{pc c:Y}(h:(pc,c)∈[(12,13),(14,10),(19,10),(24,13),(29,10)]):(S3 text s first g seen pc e f a w ag).step=if e<text.size/\text.getD e 0=c then S3 text s first g (seen.add 16) (pc+2) (e+1) f a w ag else S3 text s first g (seen.add 16) pc e f a w (U af):=by
 have i:∀(q:Y) (b:aB) (d:Prop) [CN d],(b=ah<->d)->(if e>=text.size then S3 text s first g (seen.add 16) q e f a w (U af)else
   match(Except.ok (b,seen.add 16):Except o_ (aB × gV))with
   | .error k=>(S3 text s first g (seen.add 16) q e f a w ag).stick k
   | .ok (af,l)=>S3 text s first g l q e f a w (U af)
   | .ok (ah,l)=>S3 text s first g l (q+2) (e+1) f a w ag)=if e<text.size/\d then S3 text s first g (seen.add 16) (q+2) (e+1) f a w ag else S3 text s first g (seen.add 16) q e f a w (U af):=by
  intro q b d _ m;by_cases j:e>=text.size
  ·exact rP (bM j)<|rP (bA λz=>CI.mpr z.1 j) J
  ·refine rP (bA j) ?_;induction b using dC with
   |true=>exact rP (bM ⟨CI.mp j,m.mp J⟩) J
   |false=>exact rP (bA λz=>nomatch m.mpr z.2) J
 have all:∀q∈[(12,13),(14,10),(19,10),(24,13),(29,10)],(S3 text s first g seen q.1 e f a w ag).step=if e<text.size/\text.getD e 0=q.2 then S3 text s first g (seen.add 16) (q.1+2) (e+1) f a w ag else S3 text s first g (seen.add 16) q.1 e f a w (U af):=iJ.mpr ⟨i 12 (text.getD e 0==13) _ eR,iJ.mpr ⟨i 14 (text.getD e 0==10) _ eR,iJ.mpr ⟨i 19 (text.getD e 0==10) _ eR,iJ.mpr ⟨i 24 (text.getD e 0==13) _ eR,iJ.mpr ⟨i 29 (text.getD e 0==10) _ eR,nofun⟩⟩⟩⟩⟩
 exact all _ h
def BK{pc j:Y}(h:(pc,j)∈[(16,18),(21,13),(32,2)]):(S3 text s first g seen pc e f a w ag).step=S3 text s first g (seen.add 15) 35 e f a w ag:=by exact aC (p:=λq:Y × Y=>(S3 text s first g seen q.1 e f a w ag).step=S3 text s first g (seen.add 15) 35 e f a w ag) J (aC J<|aC J aN) _ h
def Fg:(S3 text s first first seen 35 e f a w ag).step=S3 text s first first (seen.add 1) 35 e e a w (U ah):=by induction first using dC<;>rfl
def U6{pc:Y}:(S3 text s first g seen 35 e f [fB pc s first,fN s first] 2 (U ah)).step=S3 text s first first seen pc s f [fN s first] 1 (U ah):=J
def U5{pc:Y}:(S3 text s first g seen pc e f [fN s first] 1 (U ah)).step=S3 text s first first seen 10 s f [] 0 (U ah):=J
def U7{pc:Y}:(S3 text s first g seen pc e f [] 0 (U ah)).step={S3 text s first g seen pc e f [] 0 (U ah)with outcome:=U .matched}:=J
def BJ{b p2 pc:Y}(h:(b,p2)∈[(11,18),(18,23)]):(S3 text s first g seen pc e f [fB b s first,fN s first] 2 (U af)).step=S3 text s first first seen (p2+1) s s [fB p2 s first,fN s first] 2 ag:=by simp only[aR,a0,lH,Prod.mk.injEq]at h;rcases h with⟨rfl,rfl⟩|⟨rfl,rfl⟩<;>rfl
def P8:(S3 text s first first seen 26 e f [fB 23 s first,fN s first] 2 ag).step=S3 text s first af (seen.add 5) 29 e e [fL e first,fB 23 s first,fN s first] 3 ag:=J
def IW{pc q:Y}:(S3 text s first g seen pc q f [fL e first,fB 23 s first,fN s first] 3 (U af)).step=S3 text s first first seen 32 e f [fB 23 s first,fN s first] 2 ag:=J
def Ff{pc:Y}{p:Y}:Ends (S3 text s first first seen 35 e f [fB p s first,fN s first] 2 ag) (U (s,e)) 4:=by refine .step J ?_;refine rP Fg ?_;refine .step J ?_;refine rP U6 ?_;refine .step J ?_;refine rP U5 ?_;refine .step J<|.here ?_;exact rP U7 <| ⟨trivial,J,J⟩
end
noncomputable def lF(l:aj Y)(s:Y):Y:=if l.getD s 0=13/\s+1<l.length/\l.getD (s+1) 0=10 then 2 else 1
def abH{l:aj Y}{s:Y}{first:aB}{seen:gV}(h:s<l.length)(a:l.getD s 0=10\/l.getD s 0=13):Ends (S3 l.toArray s first first seen 10 s s [fN s first] 1 ag) (U (s,s+lF l s)) 20:=by
 have b:s<l.toArray.size:=by simpa using h
 refine Ends.le (.step J (B:=19) ?_)<|aZ _;refine rP IX ?_;refine Ends.step J ?_;refine rP (vX (c:=13)<|dcd J) ?_;rcases a with a|a
 ·have d:lF l s=1:=by unfold lF;rw[bA (λz=>by rw[a]at z;exact bI z.1<|dcd J)]
  refine rP (bA (λz=>by rw[jk,a]at z;exact bI z.2<|dcd J))<|rP d ?_;refine Ends.step J ?_;refine rP (BJ (p2:=18)<|dcd J) ?_;refine Ends.step J ?_;refine rP (vX (c:=10)<|dcd J)<|rP (bM ⟨b,by rw[jk,a]⟩) ?_;refine Ends.step J ?_;exact rP (BK (j:=13)<|dcd J) <| (Ff (pc:=0)).le<|BW 252679313
 ·refine rP (bM ⟨b,by rw[jk,a]⟩) ?_;refine Ends.step J ?_;refine rP (vX (c:=10)<|dcd J) ?_;by_cases e:s+1<l.length/\l.getD (s+1) 0=10
  ·have d:lF l s=2:=by unfold lF;rw[bM ⟨a,e⟩]
   refine rP (bM ⟨by simpa using e.1,by rw[jk];exact e.2⟩)<|rP d ?_;refine Ends.step J ?_;exact rP (BK (j:=18)<|dcd J) <| (Ff (pc:=0)).le<|BW 270505105
  ·have d:lF l s=1:=by unfold lF;rw[bA λz=>e z.2]
   have g:¬(s+1<l.toArray.size/\l.toArray.getD (s+1) 0=10):=λz=>e ⟨by simpa using z.1,by exact rS (jk ..) z.2⟩;refine rP (bA g)<|rP d ?_;refine Ends.step J ?_;refine rP (BJ (p2:=18)<|dcd J) ?_;refine Ends.step J ?_;refine rP (vX (c:=10)<|dcd J)<|rP (bA (λz=>by rw[jk,a]at z;exact bI z.2<|dcd J)) ?_;refine Ends.step J ?_;refine rP (BJ (p2:=23)<|dcd J) ?_;refine Ends.step J ?_;refine rP (vX (c:=13)<|dcd J)<|rP (bM ⟨b,by rw[jk,a]⟩) ?_;refine Ends.step J ?_;refine rP P8 ?_;refine Ends.step J ?_;refine rP (vX (c:=10)<|dcd J)<|rP (bA g) ?_;refine Ends.step J ?_;refine rP IW ?_;refine Ends.step J ?_;exact rP (BK (j:=2)<|dcd J) <| (Ff (pc:=0)).le<|BW 627857
noncomputable def uV:aj Y->au Y
 |[]=>ag
 |c::t=>if c=10\/c=13 then U 0 else(uV t).map (· +1)
def sC(c)(t):uV (c::t)=if c=10\/c=13 then U 0 else(uV t).map (· +1):=J
def F3(l:aj Y)(s:Y):au<|Y × Y:=(uV<|l.drop s).map λk=>(s+k,s+k+lF l (s+k))
def abE{seen}:∃a,Sre.inSet tC c tC.size 5 ah seen= .ok (decide (c=10\/c=13),a):=by
 by_cases b:c=10
 ·subst b;exact⟨_,J⟩
 ·by_cases d:c=13
  ·subst d;exact⟨_,J⟩
  ·refine⟨((seen.add 16).add 16).add 0,?_⟩;have e:Sre.inSet tC c tC.size 5 ah seen=(if(c==10)=ah then .ok (ah,seen.add 16)else(if(c==13)=ah then .ok (ah,(seen.add 16).add 16)else .ok (!ah,((seen.add 16).add 16).add 0))):=J;exact rP e <| rP (bA λz=>b<|dW z) <| rP (bA λz=>d<|dW z) <| rP (bz λz=>z.elim b d) J
def acz{l:aj Y}(m:xB)(t:m.code=tC)(u:m.text=l.toArray)(o:m.lim=l.length):∀(b s:Y) (seen:gV),l.length+1-s<=b->s<=l.length->∃a,m.admitted b s seen= .ok ((uV<|l.drop s).map (s+ ·),a):=by
 intro b;induction b with
 |zero=>intro s seen h i;exact(iG _<|aV (xD<|gx i) h).elim
 |succ b v=>
  intro s seen h i;show∃a,(ite _ _ _:Except o_<|au Y × gV)=_;by_cases j:s=l.length
  ·exact rP (bM (by rw[o];exact cQ 805384449 j) ..) <| rP (j ..) <| rP (i9 ..) <| ⟨_,J⟩
  ·have d:s<l.length:=cQ 0x7d01011037102 j i;refine rP (bA (by rw[o];exact SR<|cQ 1057026 d)) ?_;obtain⟨c,f⟩:∃c,l.drop s=c::l.drop (s+1):=⟨l[s],fI d⟩
   have n:l.getD s 0=c:=by
    have:(l.drop s)[0]? =U c:=by exact rP f J
    rw[gN]at this;refine rP ce<|rP (show l[s]? =U c from this) ?_;rfl
   refine dQ (abE (c:=c) (seen:=seen)) λa g=> ?_;refine rP (t ..)<|rP (u ..)<|rP (jk ..)<|rP (n ..)<|rP (g ..)<|rP (f ..) ?_;refine rP (sC ..) ?_;by_cases q:c=10\/c=13
   ·exact rP (bD q) <| rP (bM q) <| ⟨_,J⟩
   ·refine rP (bz q)<|rP (bA q) ?_;refine dQ (v (s+1) a (uS 0x1ce883bca83bc8a03411b214b3b0a43b2a101 (by rfl) (by rfl) h i)<|cQ 1057026 d) λr e=> ?_;refine⟨r,?_⟩;dsimp only;refine rP e ?_;cases uV (l.drop<|s+1)with
    |none=>rfl
    |some k=>exact az (λz=>Except.ok (U z,r))<|sj s k
def B2{l}:∀{k},uV l=U k->k<l.length/\(l.getD k 0=10\/l.getD k 0=13):=by
 induction l with
 |nil=>intro k h;exact nd h
 |cons c t a=>
  intro k h;rw[sC]at h;by_cases q:c=10\/c=13
  ·rw[bM q]at h;obtain rfl:=sm h;exact⟨fj _,q⟩
  ·rw[bA q]at h;cases e:uV t with
   |none=>rw[e]at h;exact nd h
   |some j=>rw[e]at h;obtain rfl:=sm h;refine jG (a e) λb d=> ?_;exact⟨f9 b,d⟩
def P7{s:Y}(c:s<=l.length):Ends (jJ tC l.toArray 0 s l.toArray.size af) (F3 l s) 20:=by
 by_cases h:s=l.length
 ·have m:F3 l s=ag:=by unfold F3;exact rP h <| rP i9 J
  refine rP m ?_
  have e:jJ tC l.toArray 0 s l.toArray.size af=(if(decide (s>l.toArray.size)||decide (l.toArray.size-s<1))=ah then _ else _):=J
  refine rP e<|rP (bM<|bH.mpr<|.inr<|bD (by rw[h];exact gx<|cD<|xC _)) ?_
  refine Ends.le (.step J<|.here ?_)<|BW 21100914
  exact trivial
 ·have e:jJ tC l.toArray 0 s l.toArray.size af=(if(decide (s>l.toArray.size)||decide (l.toArray.size-s<1))=ah then _ else (S3 l.toArray s af ah (({}:gV).add 14) 10 s s [] 0 ag).attemptFrom s ah):=J
  have d:s<l.length:=pF c h
  refine rP e<|rP (bA<|by exact λz=>(bH.mp z).elim (λz=>fM.mpr c<|aq z) λz=>fM.mpr (xD d)<|aq z) ?_
  refine dQ (acz (l:=l) (S3 l.toArray s af ah (({}:gV).add 14) 10 s s [] 0 ag) J J aO (l.toArray.size+1-s) s (({}:gV).add 14) (aZ _) c) λo f=> ?_
  have n:(S3 l.toArray s af ah (({}:gV).add 14) 10 s s [] 0 ag).attemptFrom s ah=(match(S3 l.toArray s af ah (({}:gV).add 14) 10 s s [] 0 ag).admitted (l.toArray.size+1-s) s (({}:gV).add 14)with
   | .ok (U a,seen)=>S3 l.toArray a ah ah seen 10 a a [fN a ah] 1 ag
   | .ok (ag,seen)=>S3 l.toArray s ah ah seen 10 s s [] 0<|U af
   | .error b=>(S3 l.toArray s ah ah (({}:gV).add 14) 10 s s [] 0 ag).stick b):=by
   show(match(S3 l.toArray s af ah (({}:gV).add 14) 10 s s [] 0 ag).admitted (l.toArray.size+1-s) s (({}:gV).add 14)with
    | .ok (U a,seen)=>_| .ok (ag,seen)=>_| .error b=>_)=_
   refine rP f ?_
   cases uV (l.drop s)<;>rfl
  refine rP n<|rP f ?_
  unfold F3
  cases q:uV (l.drop s)with
  |none=>
   refine Ends.le (.step J<|.here ?_)<|BW 21100914
   exact trivial
  |some k=>
   refine jG (B2 q) λi j=> ?_
   have g:(l.drop s).getD k 0=l.getD (s+k) 0:=by exact rP ce<|rP gN<|rS ce J
   rw[g]at j
   rw[dP]at i
   exact abH (show s+k<l.length from gr 0x1cd9ba0312201023a210a2 (by rfl) c i) j
inductive Cs(F:Y->au (Y × Y))(l rp:aj Y):Y->aj Y->Prop
 |done{s:Y}:s<=l.length->F s=ag->Cs F l rp s (l.drop s)
 |more {s a b:Y} {r:aj Y}:F s=U (a,b)->s<=a->a<b->b<=l.length->Cs F l rp b r->Cs F l rp s ((l.drop s).take (a-s)++(rp++r))
def Hv:∀{p} {l} {k},tZ p l=U k->k<l.length/\l.getD k 0=46:=by
 intro p l;induction l generalizing p with
 |nil=>intro k h;exact nd h
 |cons c t a=>
  intro k h;rw[A0]at h;by_cases q:p=ah/\c=46
  ·rw[bM q]at h;obtain rfl:=sm h;exact⟨fj _,q.2⟩
  ·rw[bA q]at h;cases e:tZ (aF c 10) t with
   |none=>rw[e]at h;exact nd h
   |some j=>rw[e]at h;obtain rfl:=sm h;refine jG (a e) λb d=> ?_;exact⟨f9 b,d⟩
def tO(p)(c)(t):mJ p (c::t)=if p=ah/\c=46 then 46::46::mJ af t else c::mJ (aF c 10) t:=J
def D0(c d)(t):sU (c::d::t)=if c=13/\d=10 then 13::10::sU t else if c=10\/c=13 then 13::10::sU (d::t)else c::sU (d::t):=J
def IL:∀(p) (l),mJ p l=match tZ p l with
  |none=>l
  |some k=>l.take k++([46,46]++mJ af (l.drop<|k+1)):=by
 intro p l;induction l generalizing p with
 |nil=>rfl
 |cons c t a=>
  refine rP (tO ..) (rP (show tZ p (c::t)=if p=ah/\c=46 then U 0 else(tZ (aF c 10) t).map (· +1)from rfl) ?_);by_cases h:p=ah/\c=46
  ·exact rP (bM h ..) <| rP (bM h ..) J
  ·refine rP (bA h ..)<|rP (bA h ..)<|rP (a (aF c 10) ..) ?_;cases tZ (aF c 10) t<;>rfl
def Tb:∀(n s),l.length-s<=n->s<=l.length->Cs (F1 l) l [46,46] s (mJ (jP l s)<|l.drop s):=by
 intro n;induction n with
 |zero=>
  intro s c a;have e:s=l.length:=d9 0x1cc990101721012a103 (by rfl) c a;have d:l.drop s=[]:=by exact rP (e ..)<|rP (i9 ..) J
  have:mJ (jP l s) (l.drop s)=l.drop s:=by exact rP (d ..) J
  exact rP (this ..) <| .done a (by delta F1;refine rP (d ..) ?_;rfl)
 |succ n f=>
  intro s c a;refine rP (IL ..) ?_;cases q:tZ (jP l s) (l.drop s)with
  |none=>exact .done a (by delta F1;exact rP (q ..) J)
  |some k=>
   refine jG (Hv q) λb h=> ?_;rw[dP]at b;have i:F1 l s=U (s+k,s+k+1):=by delta F1;exact rP q J
   have j:jP l (s+k+1)=af:=by
    delta jP;have g:(l.drop s).getD k 0=l.getD (s+k) 0:=by exact rP (ce ..)<|rP (gN ..)<|rS (ce ..) J
    exact rP (wU ..) <| rS (g ..) <| rP (h ..) J
   have:=f (s+k+1) (L9 0x19e99e9e83bc8a02521b2154ab30a432a101 (by rfl) (by rfl) c b)<|gr 0x1cd9ba0312201023a210a2 (by rfl) a b;rw[j]at this;have R:=Cs.more i (cQ 68097) (cQ 279646370) (gr 0x1cd9ba0312201023a210a2 (by rfl) a b) this;rw[ga]at R;dsimp only;exact rP lR R
def NB:∀(n) (l),l.length<=n->sU l=match uV l with
  |none=>l
  |some k=>l.take k++([13,10]++sU (l.drop<|k+lF l k)):=by
 intro n;induction n with
 |zero=>intro l h;induction l using aE with|nil=>rfl|cons _ _=>exact(Kf _ h).elim
 |succ n b=>
  intro l h;match l with
  |[]=>rfl
  |[c]=>
   refine rP (sC ..)<|rP (show sU [c]=if c=10\/c=13 then[13,10]else[c]from rfl) ?_;by_cases q:c=10\/c=13
   ·refine rP (bM q ..)<|rP (bM q ..) ?_;have:lF [c] 0=1:=by unfold lF;exact rP (bA (λz=>iG _<|ml z.2.1) ..) J
    dsimp only;exact rP (this ..) J
   ·exact rP (bA q ..) <| rP (bA q ..) J
  |c::d::t=>
   refine rP (D0 ..)<|rP (sC ..) ?_;by_cases a:c=13/\d=10
   ·refine rP (bM a ..)<|rP (bM (.inr a.1) ..) ?_;have:lF (c::d::t) 0=2:=by delta lF;exact rP (bM ⟨a.1,f9<|fj _,a.2⟩ ..) J
    dsimp only;exact rP (this ..) J
   ·refine rP (bA a ..) ?_;by_cases q:c=10\/c=13
    ·refine rP (bM q ..)<|rP (bM q ..) ?_;have:lF (c::d::t) 0=1:=by delta lF;exact rP (bA (λz=>a ⟨z.1,z.2.2⟩) ..) J
     dsimp only;exact rP (this ..) J
    ·refine rP (bA q ..)<|rP (bA q ..)<|rP (b (d::t) (GT h) ..) ?_;cases e:uV (d::t)with
     |none=>rfl
     |some k=>
      dsimp only[OZ]
      have:lF (c::d::t) (k+1)=lF (d::t) k:=by delta lF;exact ite_congr (propext ⟨λz=>⟨z.1,ml z.2.1,z.2.2⟩,λz=>⟨z.1,f9 z.2.1,z.2.2⟩⟩) (λ_=>rfl) λ_=>rfl
      exact rP (this ..) <| rP (show k+1+lF (d::t) k=(k+lF (d::t) k)+1 from cQ 4474342307) J
def H5(h:k<l.length):0<lF l k/\k+lF l k<=l.length:=by
 delta lF;by_cases q:l.getD k 0=13/\k+1<l.length/\l.getD (k+1) 0=10
 ·exact rP (bM q) <| cQ 0x9010b2180a18728 q.2.1
 ·exact rP (bA q) <| cQ 0x901021026728 h
def JG:lF (l.drop s) k=lF l (s+k):=by
 have g:∀j,(l.drop s).getD j 0=l.getD (s+j) 0:=λj=>by exact rP (ce ..)<|rP (gN ..)<|rS (ce ..) J
 delta lF;refine rP (g ..)<|rP (g ..)<|rP (dP ..)<|rP (show s+(k+1)=s+k+1 from rfl) ?_;by_cases h:l.getD (s+k) 0=13/\s+k+1<l.length/\l.getD (s+k+1) 0=10
 ·exact rP (bM h ..)<|rP (bM ⟨h.1,(gr 0x180203ab2321a10b2 J h.2.1),h.2.2⟩ ..) J
 ·exact rP (bA h ..)<|rP (bA (λz=>h ⟨z.1,rS (dO (k+1) s) <| Nat.add_lt_of_lt_sub z.2.1,z.2.2⟩) ..) J
def Yp:∀(n s),l.length-s<=n->s<=l.length->Cs (F3 l) l [13,10] s (sU<|l.drop s):=by
 intro n;induction n with
 |zero=>
  intro s b a;have e:s=l.length:=d9 0x1cc990101721012a103 (by rfl) b a;have d:l.drop s=[]:=by exact rP e<|rP i9 J
  have:sU (l.drop s)=l.drop s:=by exact rP d J
  exact rP this <| .done a (by delta F3;refine rP d ?_;rfl)
 |succ n h=>
  intro s b a;refine rP (NB _ _ (aZ _) ..) ?_;cases q:uV (l.drop s)with
  |none=>exact .done a (by delta F3;exact rP (q ..) J)
  |some k=>
   refine jG (B2 q) λc j=> ?_;rw[dP]at c;have i:F3 l s=U (s+k,s+k+lF l (s+k)):=by delta F3;exact rP (q ..) J
   refine jG (H5 (l:=l) (k:=s+k)<|gr 0x1cd9ba0312201023a210a2 (by rfl) a c) λf g=> ?_;have:=h (s+k+lF l (s+k)) (oz [_,_,_,_,_,_,_] [] 0x78ec8e8e83bc8d06e722521b216e54aa30a432a101 (by rfl) (by rfl) b c f) g;have R:=Cs.more i (cQ 68097) (d9 43027261952162 f) g this;rw[ga]at R;dsimp only;exact rP (lR ..) <| rP (JG ..) <| rS (iQ ..) R
section
open PySem.Builtin.Re
def iz{m:xB}(h:m.outcome.isSome=ah):∀n,m.runFor n=m:=by
 intro n;induction n with
 |zero=>exact J
 |succ n a=>exact(bM h:(if m.outcome.isSome=ah then m else m.step.runFor n)=m)
def qp(a:Y):∀(b:Y) (m:xB),m.runFor (a+b)=(m.runFor a).runFor b:=by
 induction a with
 |zero=>intro b m;exact rP (kt ..) J
 |succ a c=>
  intro b m;refine rP (wW ..) ?_;by_cases h:m.outcome.isSome=ah
  ·exact rP (iz h ..)<|rP (iz h ..)<|rP (iz h ..) J
  ·have e:∀k,m.runFor (k+1)=m.step.runFor k:=λk=>(bA h:(if m.outcome.isSome=ah then m else m.step.runFor k)=_);exact rP (e ..)<|rP (e ..)<|rP (c b ..) J
def NV{Q:xB->aw->Prop}:∀(n a:Y) (m:xB),n<a->Ends m r (4*n)->(∀j,OE j r->Q j s)->aL M A (reDrive a m) Q E s:=by
 intro n;induction n with
 |zero=>
  intro a m e h f;cases a with
  |zero=>exact(iG _ e).elim
  |succ a=>show aL M A (if(m.runFor jK).outcome.isSome=ah then gZ (m.runFor jK)else _) Q E s;refine cm (h) λN i b=> ?_;have l:N=0:=cJ (du 1958745857 i)<|du 113;subst l;have k:m.outcome.isSome=ah:=OE.some b;exact rP (iz k ..) <| rP (bM k ..) <| aM<|f _ b
 |succ n o=>
  intro a m e h f;cases a with
  |zero=>exact(iG _ e).elim
  |succ a=>
   show aL M A (if(m.runFor jK).outcome.isSome=ah then gZ (m.runFor jK)else _) Q E s;refine cm (h) λN i b=> ?_;by_cases g:(m.runFor jK).outcome.isSome=ah
   ·refine rP (bM g) ?_;refine aM (f _ ?_)
    have:m.runFor jK=m.runFor N:=by
     rcases xG N jK with q|q
     ·refine dQ (pG q) λd c=> ?_;exact rS (c ..)<|rP (qp ..)<|rP (iz (OE.some b) ..) J
     ·refine dQ (pG q) λd c=> ?_;exact rS (c ..)<|rP (qp ..)<|rP (iz g ..) J
    exact rP (this ..) b
   ·refine rP (bA g ..) ?_;refine al (zB ?_)
    have q:jK<=N:=by
     rcases xG N jK with q|q
     ·refine dQ (pG q) λd c=> ?_;refine bI ?_ g;exact rS (c ..) <| rP (qp ..) <| rP (iz (OE.some b) ..) <| OE.some b
     ·exact q
    refine dQ (pG q) λd c=> ?_;have t:jK=4:=J;refine o a _ (cQ 453714178 e) ⟨d,(gr 0x304933203a31b4c2114c01 i c t),?_⟩ f;exact rS (qp ..) <| rP (c ..) b
def MA{m:xB}{Q:PUnit->aw->Prop}(h:Q ⟨⟩ s)(f:Y->PUnit->r_ (tj PUnit))(b:∀i u,f i u=if m.seen.has i=ah then(do rule (Sre.names.getD i "");gZ (.yield ⟨⟩))else gZ (.yield ⟨⟩)):∀l:aj Y,aL M A (forIn l ⟨⟩ f) Q E s:=by
 intro l;induction l with
 |nil=>exact rP (Ux ..) <| aM h
 |cons x l a=>
  refine rP (nS ..)<|rP (b ..) ?_;refine al ?_;split
  ·exact al<|zB<|aM<|a
  ·exact aM<|a
set_option tactic.hygienic true in
def Hl{B:Y}{Q:au xB->aw->Prop}(h:Ends m r B)(f:B<=4000000)(g:r=ag->Q ag s)(j:∀a b d,r=U (a,b)->d.start=a->d.handed=b->Q (U d) s):aL M A (reRunToEnd m) Q E s:=by
 refine al<|NV (r:=r) 1000000 _ m (dcd J) (h.le<|du 0x3d09005f901f42404f94c01 f) λd c=> ?_;refine al ?_;refine MA (m:=d) ?_ _ (λi u=>by cases d.seen.has i<;>rfl) _;cases r with
 |some p=>
  obtain⟨a,b⟩:=p;replace c:(match d.outcome with|some .matched=>True|_=>iY)/\d.start=a/\d.handed=b:=c;refine E0 (c) λe k l=> ?_;cases q:d.outcome with
  |none=>rw[q]at e;exact e.elim
  |some o=>
   rw[q]at e;cases o with
   |matched=>exact aM<|j a b d J k l
   |failed=>exact e.elim
   |stuck _=>exact e.elim
 |none=>
  replace c:(match d.outcome with|some .failed=>True|_=>iY):=c;cases q:d.outcome with
  |none=>rw[q]at c;exact c.elim
  |some o=>
   rw[q]at c;cases o with
   |failed=>exact aM<|g J
   |matched=>exact c.elim
   |stuck _=>exact c.elim
def entry_sub:entryFor table "re.Pattern.sub"=U Builtin.«re.Pattern.sub»:=CB<|by kernel_rfl
def tB:entryFor table "re.Pattern.sub.loop"=U Builtin.«re.Pattern.sub.loop»:=CB<|by kernel_rfl
theorem mw:plainId "re.Pattern.sub.loop"=ah:=by decide+kernel
theorem yt:Slot "re.Pattern" "sub" "re.Pattern.sub":=
 .of (owner:="re.Pattern") (n:="sub") (by refine rP (lM ..)<|rP (iE ..) ?_;kernel_rfl) (by decide+kernel) (by decide+kernel) (by decide+kernel) (by first|exact .inl (by decide+kernel)|exact .inr<|by decide+kernel) (by refine rP (acT ..) ?_;kernel_rfl)
def KY:GG (.builtin "re.Pattern.sub")=gZ (.type "method_descriptor"):=by show builtinType _=_;refine rP builtinType_eq_fast ?_;kernel_rfl
theorem yD:zG "re.Pattern":=⟨⟨"object.__getattribute__",by refine rP (lM ..)<|rP (iE ..) ?_;kernel_rfl,by decide+kernel⟩,by refine rP (lM ..)<|rP (iE ..) ?_;kernel_rfl⟩
def Oo(a b c:aA):argsOk "re.Pattern.sub" ⟨[a,b,c],[]⟩:=by kernel_rfl
def C8:Xe (.type "str") "__call__"=gZ ag:=by refine rP (lM ..)<|rP (iE ..) ?_;kernel_rfl
def Ak:Xe (.type "bytes") "__call__"=gZ ag:=by refine rP (lM ..)<|rP (iE ..) ?_;kernel_rfl
inductive oS(h:fX)(a:aX)(code:eI Y)(kind:Y):Prop
 |mk {o:Uo} {p fl n1 n2:aA} {c:aX} {items:eI aA} (e1:h.get? a=U o) (e2:o.cls= .type "re.Pattern") (e3:o.dict=ag) (e4:o.slots= #[]) (e5:o.data= .fields #[p,fl,.int 0 0,n1,n2,.ref c,.int kind 0]) (e6:h.IsTuple c items) (e7:(items.map reRawOf).map (·.toNat)=code):oS h a code kind
def oS.keeps{code:eI Y}{c:Y}(x:oS h a code c)(k:∀b o,h.get? b=U o->d.get? b=U o):oS d a code c:=by
 cases x with
 |mk e f g i j l m=>exact⟨k _ _ e,f,g,i,j,l.imp λn q=>⟨k _ _ q.1,q.2⟩,m⟩
section
variable {code:eI Y}
def DK(d:s.heap.IsTuple c b)(h:Q (b.map reRawOf) s):aL M A (Xv<|.ref c) Q E s:=by refine pM (d) λg e i a=> ?_;refine dQ (a) λn f=> ?_;exact al<|kG e f<|aM h
def Iy(P:oS s.heap a code 0)(h:Q ⟨.ref a,.str x t,code,x.cps,0,0,0,x.cps.size⟩ s):aL M A (oy (.ref a)<|.str x t) Q E s:=by obtain @⟨o,p,i,j,n2,c,b,d,k,l,m,e,f,g⟩:=P;refine al<|acO d e ?_;refine al<|al<|aM<|aM ?_;show aL M A (SJ (.str x t) 0 >>= λ_=>Xv (.ref c) >>= λv=>gZ (ReTarget.mk (.ref a) (.str x t) (v.map (·.toNat)) x.cps 0 0 0 x.cps.size)) Q E s;refine al<|aM<|al<|DK f<|aM ?_;exact rP g <| h
def oZ:asStr? (.bytes b t)=gZ ag:=J
def CZ(P:oS s.heap a code 1)(h:Q ⟨.ref a,.bytes b t,code,b.map (·.toNat),1,0,0,(b.map (·.toNat)).size⟩ s):aL M A (oy (.ref a)<|.bytes b t) Q E s:=by obtain @⟨o,p,j,k,n2,c,d,e,l,m,n,f,g,i⟩:=P;refine al<|acO e f ?_;refine al<|al<|iw oZ ?_;show aL M A (vq "_sre" (.bytes b t) >>= λr=>_) _ E s;refine al<|iw aaD<|aM ?_;show aL M A (SJ (.bytes b t) 1 >>= λ_=>Xv (.ref c) >>= λv=>gZ (ReTarget.mk (.ref a) (.bytes b t) (v.map (·.toNat)) (b.map (·.toNat)) 1 0 0 (b.map (·.toNat)).size)) Q E s;refine al ?_;show aL M A (isInstance (.bytes b t) (.type "bytes") >>= λr=>_) _ E s;refine al<|iw Pf<|aM<|al<|DK g<|aM ?_;exact rP i <| h
end
structure Knd(prog:kX)(w:CR) where
 kind:Y
 val:aj Y->pq->aA
 jid:o_
 raw:aj Y->Prop
 jid_eq:(if(kind==0)=ah then "str.join" else "bytes.join")=jid
 cutR:∀{l:aj Y} {b e:Y},raw l->raw ((l.drop b).take e)
 whole:∀{A:cZ} {E:aA->aw->Prop} {s:aw} {a:aX} {code:eI Y} {l:aj Y} {t:pq} {Q:ReTarget->aw->Prop},raw l->oS s.heap a code kind->Q ⟨.ref a,val l t,code,l.toArray,kind,0,0,l.toArray.size⟩ s->aL (aQ prog w) A (oy (.ref a)<|val l t) Q E s
 slice:∀{A:cZ} {E:aA->aw->Prop} {s:aw} {l:aj Y} {b e:Y} {Q:aA->aw->Prop},l.length<=65536->raw l->(∀(t:pq) (tk:Y),Q (val ((l.drop b).take<|e-b) t) {s with toks:=tk})->aL (aQ prog w) A (ES l.toArray kind b e) Q E s
 join:∀{A:cZ} {E:aA->aw->Prop} {s:aw} {L:aX} {ps:aj<|aj Y} {vs:aj aA} {c:Y} {t:pq} {Q:aA->aw->Prop},A.handled=ag->s.heap.get? L=U {cls:= .type "list",dict:=ag,data:= .seq vs.toArray c,slots:= #[]}-> vs.length=ps.length->(∀(i:Y) v,vs[i]? =U v->∃(l:aj Y) (t:pq),ps[i]? =U l/\v=val l t)->(∀l∈ps,raw l)->ps.flatten.length<=big->ps.length<=big->(∀(t':pq) (tk:Y),Q (val ps.flatten t') {s with toks:=tk})->aL (aQ prog w) A (call (.builtin jid) [val [] t,.ref L]) Q E s
 must:∀{l t},val l t≠ .none
 lit:∀{A:cZ} {E:aA->aw->Prop} {s:aw} {l:aj Y} {t:pq} {Q:sY->aw->Prop},raw l->Q () s->aL (aQ prog w) A (jy<|val l t) Q E s
section
variable {s₀:aw} {code:eI Y} {K:Knd prog w}
def Dj(a:vs.length=c.length)(d:∀(i:Y) v,vs[i]? =U v->∃(l:aj Y) (t:pq),c[i]? =U l/\v=K.val l t):∀(i:Y) v,(vs++[K.val x f])[i]? =U v->∃(l:aj Y) (t:pq),(c++[x])[i]? =U l/\v=K.val l t:=λi v e=>by
 rw[List.getElem?_append]at e⊢;split at e
 ·rename_i b;exact rP (bM<|by exact d9 8624681218 a b) <| d i v e
 ·rename_i b;refine rP (bA<|by exact d9 0x32020271231027 a b) (rS a ?_)
  have g:i-vs.length=0:=by have:=(cy.mp e).1;simp at this;exact cJ (du 7354113 this)<|du 812658801 this
  rw[g]at e⊢;simp at e;exact⟨x,f,J,e.symm⟩
def P_(g:h.get? L=U {cls:= .type "list",dict:=ag,data:= .seq vs.toArray c,slots:= #[]})(m:vs.length+1<=big)
  (r:∀n,n.get? L=U {cls:= .type "list",dict:=ag,data:= .seq (vs++[v]).toArray<|c+1,slots:= #[]}->(∀b o,b≠L->h.get? b=U o->n.get? b=U o)->Q () {s₀ with heap:=n,toks:=q}):
  aL M A (Cy L λx=>x.push v) Q E {s₀ with heap:=h,toks:=q}:=by
 have k:=m;refine pg (s:={s₀ with heap:=h,toks:=q}) g J (r _ ?_ λb o m e=> ?_) (by exact rP (aO ..) <| rP (cS ..) <| du 0x1000005f90210000006f901 k) (by show(vs.toArray.push v).size<=qO+1;exact rP (Pv ..) <| rP (aO ..) <| rP (cS ..) <| du 0x1000005f90210000006f9b02 k)
 ·have:=gK (gP (·.push v)) g J;rw[Obj.mapSeq_push_plain]at this;simpa using this
 ·exact(lP _ _ (λz:L=b=>m z.symm)).trans e
inductive W_(K:Knd prog w)(s₀:aw)(L:aX)(h:fX)(ps:aj<|aj Y):Prop
 |mk {vs:aj aA} {c:Y} (keep:∀b o,s₀.heap.get? b=U o->h.get? b=U o) (hLs:h.get? L=U {cls:= .type "list",dict:=ag,data:= .seq vs.toArray c,slots:= #[]}) (hlen:vs.length=ps.length) (hv:∀(i:Y) v,vs[i]? =U v->∃(l:aj Y) (t:pq),ps[i]? =U l/\v=K.val l t) (hraw:∀l∈ps,K.raw l):W_ K s₀ L h ps
def W_.push(P:W_ K s₀ L h k)(hL:s₀.heap.get? L=ag)(m:k.length+1<=big)(n:K.raw x)(q:∀l,W_ K s₀ L l (k++[x])->Q () {s₀ with heap:=l,toks:=r}):aL M A (Cy L λy=>y.push<|K.val x B) Q E {s₀ with heap:=h,toks:=r}:=by
 cases P with
 |mk f i a s g=>exact P_ i (a▸m) λj t u=>q j ⟨λb o e=>u b o (λz=>by rw[z,hL]at e;exact nd e)<|f b o e,t,by exact rP aW <| rP aW <| rP a J,Dj a s,λy v=>(dI.mp v).elim (g y) λz=>aU.mp z▸n⟩
def sH{x:aj Y}:(a++[x]).flatten=a.flatten++x:=by exact rP kA <| az _<|eB x
set_option tactic.hygienic true in
def Ld(hh:A.handled=ag)(P:oS s₀.heap pa code K.kind)(hl:l.length<=65536)(rl:K.raw l)(rr:K.raw D)(hL:s₀.heap.get? L=ag)(hB:B<=4000000)
  (β:∀p,p<=l.length->Ends (jJ code l.toArray 0 p l.toArray.size af) (F p) B) (κ:∀p a b,F p=U (a,b)->p<=a/\a<b/\b<=l.length):
  ∀{p:Y} {r:aj Y},Cs F l D p r->∀{h:fX} {I n:Y} {ps:aj<|aj Y},p<=l.length->W_ K s₀ L h ps->(ps.flatten++r).length<=big->ps.length<=2*p->
   (∀(y:fX) (i:Y) (E:pq),(∀b o,s₀.heap.get? b=U o->y.get? b=U o)->R (.ok<|.ret<|K.val (ps.flatten++r) E) {s₀ with heap:=y,toks:=i})->
   kW (aQ prog w) A (.builtin "re.Pattern.sub.loop" ⟨[.ref pa,K.val l tl,K.val D tr,jS 0,jS 0,jS n,jS p,jS p,.bool af,.ref L,.bool af],[]⟩) R {s₀ with heap:=h,toks:=I}:=by
 intro p r S;induction S with
 |done hp hF=>
  rename_i p;intro h I n ps γ H d g z;refine uv tB ?_;refine rP (mZ mw _) ?_;show aL _ A.in1 (oy (.ref pa) (K.val l tl) >>= λt=>_) _ _ _;refine al<|K.whole rl (P.keeps (by cases H;assumption)) ?_;show aL (aQ prog w) A.in1 (jy (K.val D tr) >>= λ_=>reNextFound ⟨.ref pa,K.val l tl,code,l.toArray,K.kind,0,0,l.toArray.size⟩ (p:Z).toNat af >>= λo=>_) _ _ _;refine al<|K.lit rr<|al ?_;refine Hl (β p hp) hB (λ_=> ?_) (λa b m' q=>by rw[hF]at q;exact nd q);dsimp only
  have fin:∀{X:aA->r_ CU} {h:fX} {I:Y} {ps:aj<|aj Y},W_ K s₀ L h ps->ps.flatten.length<=big->ps.length<=big->
    (∀(y:fX) (i:Y) (E:pq),(∀b o,s₀.heap.get? b=U o->y.get? b=U o)->R (.ok<|.ret<|K.val ps.flatten E) {s₀ with heap:=y,toks:=i})->
    aL (aQ prog w) A.in1 (ES l.toArray K.kind 0 0 >>= λu=>aaz (.ref L) >>= λo=>if(o.getD #[]).isEmpty=ah then(gZ u >>= λtext=>if af=ah then X text else Xf text)else(call (.builtin (if(K.kind==0)=ah then "str.join" else "bytes.join")) [u,.ref L] >>= λtext=>if af=ah then X text else Xf text)) (λfin M=>match fin with| .done f=>R (.ok f) M| .again c'=>c'.quiet=ah/\kW (aQ prog w) A c' R M) (λe M=>R (.error e) M) {s₀ with heap:=h,toks:=I}:=by
   intro X h I ps H d g z;obtain @⟨vs,c,O,δ,Q,hv,ε⟩:=H;refine al<|K.slice hl rl λt0 α=> ?_;have e0:(l.drop 0).take (0-0)=[]:=J;refine rP e0 ?_;refine al<|kG δ J ?_;show aL _ _ (if vs.toArray.isEmpty=ah then _ else _) _ _ _;induction vs using aE with
   |nil=>have:ps=[]:=nB Q.symm;subst this;exact al<|aM<|aM<|z h α t0 O
   |cons v vs=>refine rP (bA (by simp) ..)<|rP (K.jid_eq ..) ?_;refine al<|K.join hh δ Q hv ε d g λE i=>aM ?_;exact z h i E O
  show aL (aQ prog w) A.in1 (if(p:Z).toNat<l.toArray.size then(ES l.toArray K.kind (p:Z).toNat l.toArray.size >>= λv=>Cy L (λx=>x.push v) >>= λ_=>_)else _) _ _ _;have s:ps.length+1<=big:=by exact d9 0x442022c01121100004f9111000005f902 hl hp g
  by_cases m:p<l.length
  ·refine rP (bM (by exact m) ..) ?_;refine al (K.slice hl rl λt0 α=> ?_)
   have e0:(l.drop (p:Z).toNat).take (l.toArray.size-(p:Z).toNat)=l.drop p:=by exact rP (cM ..) <| rP (aO ..) <| lQ<|rS dP <| aZ _
   refine rP e0 ?_;refine al<|H.push hL s (rS e0 <| K.cutR rl) λζ P'=> ?_;exact fin P' (rP sH <| d) (by exact rP aW s) λy i E k'=>rP sH <| z y i E k'
  ·refine rP (bA<|by exact m) ?_;have:l.drop p=[]:=EW<|fM.mp m;rw[this,eB]at d z;exact fin H d (bF s) z
 |more hF h1 h2 h3 S ih=>
  rename_i p a b r;intro h I n ps γ H d g z;refine uv tB ?_;refine rP (mZ mw _) ?_;show aL _ A.in1 (oy (.ref pa) (K.val l tl) >>= λt=>_) _ _ _;refine al<|K.whole rl (P.keeps (by cases H;assumption)) ?_;show aL (aQ prog w) A.in1 (jy (K.val D tr) >>= λ_=>reNextFound ⟨.ref pa,K.val l tl,code,l.toArray,K.kind,0,0,l.toArray.size⟩ (p:Z).toNat af >>= λo=>_) _ _ _;refine al<|K.lit rr<|al ?_;refine Hl (β p γ) hB (λq=>by rw[hF]at q;exact dn q) λa' b' m' q ea eb=> ?_;rw[hF]at q;cases q;dsimp only
  have η:(K.val D tr !=im)=ah:=by rw[Xc];exact K.must
  have next:∀{h:fX} {I:Y} {ps:aj<|aj Y} {r':aj Y},r'=ps.flatten++(D++r)->W_ K s₀ L h ps->r'.length<=big->ps.length+1<=2*b->
    (∀(y:fX) (i:Y) (E:pq),(∀b o,s₀.heap.get? b=U o->y.get? b=U o)->R (.ok<|.ret<|K.val r' E) {s₀ with heap:=y,toks:=i})->
    aL (aQ prog w) A.in1 (Cy L (λx=>x.push<|K.val D tr) >>= λ_=>again<|.builtin "re.Pattern.sub.loop" ⟨[.ref pa,K.val l tl,K.val D tr,jS 0,jS 0,jS<|(n:Z)+1,jS m'.handed,jS m'.handed,.bool<|m'.handed==a,.ref L,.bool af],[]⟩) (λfin M=>match fin with| .done f=>R (.ok f) M| .again c'=>c'.quiet=ah/\kW (aQ prog w) A c' R M) (λe M=>R (.error e) M) {s₀ with heap:=h,toks:=I}:=by
   intro h I ps r' ι H d g z;refine al<|H.push hL (by exact d9 0x442022c02121100004f9111000005f902 hl h3 g) rr λζ P'=>aM ⟨yf mw _,?_⟩;refine rP (show(m'.handed==a)=af by rw[eb];exact cw.mpr<|gw h2)<|rP eb ?_;have e:(ps++[D]).flatten++r=r':=by exact rP (ι ..)<|rP (sH ..)<|rP (dS ..) J
   exact ih (n:=n+1) h3 P' (rP e <| d) (by exact rP aW g) λy i E k'=>rP e <| z y i E k'
  show aL (aQ prog w) A.in1 (if(p:Z).toNat<m'.start then(ES l.toArray K.kind (p:Z).toNat m'.start >>= λv=>Cy L (λx=>x.push v) >>= λ_=>(if(K.val D tr !=im)=ah then _ else _))else(if(K.val D tr !=im)=ah then _ else _)) _ _ _;refine rP (ea ..)<|rP (η ..) ?_;simp only[↓reduceIte];by_cases m:p<a
  ·refine rP (bM (by exact m) ..) ?_;refine al<|K.slice hl rl λt0 α=> ?_;refine rP (cM ..) ?_;have hc:ps.length+2<2*b:=gr 0x424023232c0112212c80a2 h2 g m;refine al<|H.push hL (by exact d9 0x442022c80a2121100004f9111000005f902 hl h3 hc) (K.cutR rl) λζ P'=> ?_;exact next (by exact rP (sH ..)<|rP (dS ..) J) P' d (by exact rP (aW ..) <| bF hc) z
  ·refine rP (bA<|by exact m) ?_;have e0:(l.drop p).take (a-p)=[]:=by exact rP (It<|fM.mp m) J
   rw[e0,List.nil_append]at d z;exact next rfl H d (gr 0x442022c0113232112c02 h1 h2 g) z
end
section
variable {code:eI Y}
def ze(K:Knd c w)(hh:A.handled=ag)(P:oS s.heap y code K.kind)(hl:l.length<=65536)(rl:K.raw l)(rr:K.raw rp)(hB:B<=4000000)
  (D:∀p,p<=l.length->Ends (jJ code l.toArray 0 p l.toArray.size af) (F p) B) (H:∀p a b,F p=U (a,b)->p<=a/\a<b/\b<=l.length) (S:Cs F l rp 0 r) (hr:r.length<=big)
  (j:∀{A} {E:aA->aw->Prop} {s} {Q:au aA->aw->Prop},Q ag s->aL (aQ c w) A (Cz (K.val rp k) "__call__") Q E s)
  (m:(∃x,asStr? (K.val rp k)=gZ (U x)/\x.cps.contains 92=af)\/(asStr? (K.val rp k)=gZ ag/\∃b,vq "re.Pattern.sub" (K.val rp k)=gZ (U b)/\b.contains 92=af))
  (h:∀z tk I,(∀b o,s.heap.get? b=U o->z.get? b=U o)->Q (K.val r I) {s with heap:=z,toks:=tk}):
  aL (aQ c w) A (call (.builtin "re.Pattern.sub") [.ref y,K.val rp k,K.val l tl]) Q E s:=by
 have hT:s.TypeIs (.ref y) "re.Pattern":=by
  cases P with
  |mk q t=>exact⟨_,q,t⟩
 refine zD<|codeAny_call_builtin yt.plain entry_sub<|yt.check _ _ _ _ _ _ _ _ hT (Oo _ _ _) ?_;show aL _ A.in1 (Cz (K.val rp k) "__call__" >>= λo=>_) _ _ _;refine al<|j ?_
 have g:aL (aQ c w) A.in1 (OR [K.val rp k] (oy (.ref y)<|K.val l tl) >>= λ_=>newList [] >>= λv=>again<|.builtin "re.Pattern.sub.loop" ⟨[.ref y,K.val l tl,K.val rp k,jS 0,jS 0,jS 0,jS 0,jS 0,.bool af,v,.bool af],[]⟩)
   (λfin d=>match fin with| .done f=>(match(Except.ok f:Result)with| .ok (.ret v)=>Q v d| .ok _=>iY| .error e=>E e d)| .again c'=>c'.quiet=ah/\kW (aQ c w) A c' (λr d=>match r with| .ok (.ret v)=>Q v d| .ok _=>iY| .error e=>E e d) d)
   (λe d=>match(Except.error e:Result)with| .ok (.ret v)=>Q v d| .ok _=>iY| .error e=>E e d) s:=by
  refine al<|cC<|K.whole rl P ?_;refine al<|wpAny_newList (items:=[]) ?_<|dcd J;refine aM ⟨yf mw _,?_⟩;have M:(s.heap.push {cls:= .type "list",data:= .seq ([]:aj aA).toArray}).get? s.heap.objs.size=U {cls:= .type "list",dict:=ag,data:= .seq ([]:aj aA).toArray 0,slots:= #[]}:=bQ _ J;refine Ld (K:=K) (s₀:=s) (L:=s.heap.objs.size) (p:=0) (n:=0) (ps:=[]) hh P hl rl rr (eL _) hB D H S (db _) ⟨λb o e=>bu _ e,M,J,λi v e=>nd e,nofun⟩ hr (aZ _) λz β I k'=> ?_;exact h z β I k'
 rcases m with⟨x,q,t⟩|⟨q,b,t,e3⟩
 ·refine al<|iw q<|al<|aM ?_;exact rP t g
 ·refine al<|iw q ?_;refine al<|iw t<|al<|aM ?_;exact rP e3 g
end
end
section
open PySem.Builtin
theorem xr:Slot "bytes" "join" "bytes.join":=
 .of (owner:="bytes") (n:="join") (by refine rP (lM ..)<|rP (iE ..) ?_;kernel_rfl) (by decide+kernel) (by decide+kernel) (by decide+kernel) (by first|exact .inl (by decide+kernel)|exact .inr<|by decide+kernel) (by refine rP (acT ..) ?_;kernel_rfl)
def wB:entryFor table "bytes.join"=U Builtin.«bytes.join»:=CB<|by kernel_rfl
def xz(a b):argsOk "bytes.join" ⟨[a,b],[]⟩:=by kernel_rfl
def Gq{id}{b}{t}{f}:CG id (.bytes b t) f=gZ (U b):=by delta CG;refine rP (Xm Um)<|rP Xn<|rP KBy.own_release ?_;kernel_rfl
def PI{id}{b}{t}:rn id (.bytes b t) 0=gZ (U (b,ag)):=by
 have e:KB id (.bytes b t) 0=gZ (U (b,ag)):=by delta KB;refine rP (Xm Um)<|rP Xn ?_;refine uz (b:=(CG id (.bytes b t) (0==Bytes.fullReadOnly) >>= λo=>gZ<|o.map λx=>(x,ag))) (by kernel_rfl) ?_;exact rP Gq J
 delta rn;exact rP e J
noncomputable def bV(l:aj Y)(t:pq):aA:= .bytes (l.map bT).toArray t
section
variable {m:kX} {w:CR} {A:cZ} {E:aA->aw->Prop} {s:aw}
def FM{Q:sY->aw->Prop}(h:Q () s):∀(b:aj<|aA × au aA) (a),(∀p∈b,p.2=ag)->aL (aQ m w) A (Ph b a) Q E s:=by
 intro b;induction b with
 |nil=>intro _ _;exact aM h
 |cons c r e=>obtain⟨x,f⟩:=c;intro a d;have:f=ag:=d _<|.head _;subst this;exact al<|wpAny_letGo<|e a λp g=>d p<|.tail _ g
def FK:∀(g:aj<|eI nO),rq #[] g=⟨(g.map (·.toList)).flatten⟩:=by
 have c:∀(g:aj<|eI nO) (k:Y) (a:eI nO),((g.zipIdx k).foldl (λb (p,i)=>(if i>0 then b++ #[]else b)++p) a)=a++⟨(g.map (·.toList)).flatten⟩:=by
  intro g;induction g with
  |nil=>intro k a;simp
  |cons p r d=>
   intro k a;refine rP (List.zipIdx_cons ..)<|rP (nT ..)<|rP (d ..) ?_;have:(if k>0 then a++ #[]else a)=a:=by split<;>simp
   dsimp only;refine rP (this ..) ?_;simp[Array.append_assoc];apply oG;simp
 intro g;delta rq;refine rP (c ..) ?_;simp
def single{c:Type}{g:aj c}{l:c}(h:1=g.length)(e:g[0]? =U l):g=[l]:=by
 induction g using aE with
 |nil=>exact nd e
 |cons a r=>induction r using aE with
  |nil=>exact az (λx=>[x])<|sm e
  |cons b r=>exact bI h<|c6<|f9<|Nat.zero_lt_succ _
variable {L:aX} {g:aj (aj Y)} {j:aj aA} {c:Y} {t:pq} {Q:aA->aw->Prop}
def M1(u:j.length=g.length)(M:∀(i:Y) v,j[i]? =U v->∃(l:aj Y) (t:pq),g[i]? =U l/\v=bV l t):∀(f:Y->eI (eI nO) × aj (aA × au aA)->r_ (tj<|eI (eI nO) × aj (aA × au aA))),
  (∀(i) (a) (b:aj<|aA × au aA) (l) (x) (I:tj (eI (eI nO) × aj (aA × au aA))->aw->Prop),j.toArray.getD i .none=bV l x->(∀p∈b,p.2=ag/\p.1.onHeap=af)-> I (.yield (a.push (l.map bT).toArray,b++[(bV l x,ag)])) s->aL (aQ m w) A.in1 (f i (a,b)) I E s)->
  aL (aQ m w) A.in1 (forIn [:j.toArray.size] ((#[]:eI<|eI nO),([]:aj<|aA × au aA)) f) (λst y=>y=s/\st.1.toList=g.map (λl=>(l.map bT).toArray)/\(∀p∈st.2,p.2=ag)) E s:=by
 intro f O;have sz:∀(n),gT [:n]=n:=λn=>by simp[gT]
 refine rP (i6 ..)<|rP (sz ..) ?_;refine Cw _ (λe st y=>y=s/\∃k,e=eK k (j.length-k)/\k<=j.length/\st.1.toList=(g.take k).map (λl=>(l.map bT).toArray)/\(∀p∈st.2,p.2=ag/\p.1.onHeap=af)) _ ?_ ?_ _ _ ⟨J,0,by simp,db _,by simp,λp h=>bI h a0⟩
 ·rintro i e ⟨a,b⟩ y ⟨rfl,k,o,z,h,B⟩
  have d:k<j.length:=by
   rcases jz k j.length with q|q
   ·exact q
   ·rw[show j.length-k=0 from d9 0x1899b99bd0211121210a703 J z q]at o;cases o
  obtain⟨rfl,r⟩:i=k/\e=eK (k+1) (j.length-(k+1)):=by rw[show j.length-k=(j.length-(k+1))+1 from gr 0x1ce883bc98379ea8c8c889ea02322313b21a320a1b03 J J z d,Pm]at o;exact⟨(dM o).1,(dM o).2⟩
  refine oV (M i j[i]<|be d) λl x e1 e2=> ?_
  have hx:j.toArray.getD i .none=bV l x:=by refine rP (ot ..)<|rP (fQ ..)<|rP (be d ..) ?_;exact e2
  refine O i a b l x _ hx B ⟨J,i+1,r,d,?_,λp h=> ?_⟩
  ·refine rP (O0 ..)<|rP (e1 ..) ?_;have D:a.toList=_:=h;simp[D,CX]
  ·rcases dI.mp h with q|q
   ·exact B p q
   ·exact rP ((aU.mp q)) <| ⟨J,J⟩
 ·rintro ⟨a,b⟩ y ⟨rfl,k,o,z,h,B⟩
  have H:k=j.length:=by have:=az Iv o;simp at this;exact d9 0x731c890273101012a103 (by rfl) z this
  refine⟨J,?_,λp h=>(B p h).1⟩;exact rP (h ..)<|rP (H ..)<|rP (u ..)<|rP (i7 ..) J
def HF(hL:s.heap.get? L=U {cls:= .type "list",dict:=ag,data:= .seq j.toArray c,slots:= #[]}):∀{x} {e:aj<|aA × au aA} {l:aj Y} {n:pq} {f:eI<|eI nO} {X a:eI nO->au aA->r_ (tj<|eI (eI nO) × aj (aA × au aA))} {d:au aA->r_ (tj<|eI (eI nO) × aj (aA × au aA))}
  {V:r_<|tj<|eI (eI nO) × aj (aA × au aA)} {id:o_} {y:aj aA} {q:tj (eI (eI nO) × aj (aA × au aA))->aw->Prop},x=bV l n->(∀p∈e,p.2=ag/\p.1.onHeap=af)->q (.yield (f.push (l.map bT).toArray,e++[(bV l n,ag)])) s->
  aL (aQ m w) A.in1 (if(oU==q7||e.any λx=>x.1.onHeap)=ah then(Cz x (wP "__buffer__") >>= d)else
   (OR y (rn id x 0) >>= λr=>match r with
      |some (b,w)=>aaz (.ref L) >>= λo=>match o with
       |some h=>if(h.size !=j.toArray.size)=ah then X b w else gZ (jg (f.push b,e++[(x,w)]))
       |_=>a b w
      |_=>V)) q E s:=by
 intro x e l n f X a d V id y q B D H;subst B
 have i:(oU==q7||e.any λx=>x.1.onHeap)=af:=by rw[show(oU==q7)=af from rfl,XD,jV];exact λp I=>by rw[(D p I).2];nofun
 refine rP i<|rP (bA<|by nofun) ?_;refine al<|cC<|iw PI ?_;dsimp only;refine al<|kG hL J ?_;dsimp only;exact rP (bA<|by simp) <| aM H
def HG(B:g.flatten.length<=big)(h:∀I M,Q (bV g.flatten I) {s with toks:=M}):∀(b:eI<|eI nO) (d:aj<|aA × au aA) (a:eI nO->r_ CU),b.toList=g.map (λl=>(l.map bT).toArray)->(∀p∈d,p.2=ag)->
  aL (aQ m w) A.in1 (Bytes.payload (bV [] t) >>= λf=>if Bytes.tooLong (yj (λx1 x2=>x1+x2.size) (f.size*(b.size-1)) b)=ah then a f else
   (oU.new (rq f b.toList) >>= λe=>OR (e::d.flatMap λx=>match x with|(y,u)=>y::u.toList) point >>= λ_=>Ph d [e] >>= λ_=>Xf e))
   (λfin O=>∃v,fin=Fin.done (Flow.ret v)/\Q v O) E s:=by
 intro b d a H ht
 have i:(g.map λl=>((l.map bT).toArray).toList).flatten=g.flatten.map bT:=by simp[List.map_flatten]
 refine al<|aM ?_;have q:b=(g.map λl=>(l.map bT).toArray).toArray:=oG<|by simpa using H
 have n:yj (λx1 x2=>x1+x2.size) ((tJ bT []).toArray.size*(b.size-1)) b=g.flatten.length:=by
  refine rP q ?_;show yj (λ(x1:Y) (x2:eI nO)=>x1+x2.size) (0*_) _=_;refine rP (oD ..) ?_
  have z:∀(g:aj<|aj Y) (k:Y),(g.map λl=>(l.map bT).toArray).foldl (λ(x1:Y) (x2:eI nO)=>x1+x2.size) k=k+g.flatten.length:=by
   intro g;induction g with
   |nil=>intro k;rfl
   |cons p r ih=>intro k;refine rP (fR ..)<|rP (nT ..)<|rP (ih ..) ?_;simp;exact cJ (d9 2310862342817)<|d9 2270597062817
  refine rS (Ko ..) ?_;refine rP (z ..) ?_;simp
 refine rP n<|rP (KBy.tooLong_not<|du 0x1000005f90110000006f901 B)<|rP (bA<|by nofun) ?_
 have o:rq (tJ bT []).toArray b.toList=(g.flatten.map bT).toArray:=by show rq #[] _=_;exact rP (FK ..) <| rP (H ..) <| rP (bU ..) <| az _ i
 refine rP o ?_;refine al<|J3 ?_<|rP (aO ..) <| rP (aG ..) <| rP (cS ..) <| du 0x1000005f90110000006f901 B;refine al<|cC<|wpAny_point<|al<|FM ?_ _ _ ht;exact aM ⟨_,J,h _ _⟩
def FL(hL:s.heap.get? L=U {cls:= .type "list",dict:=ag,data:= .seq j.toArray c,slots:= #[]})
  (a:j.length=g.length) (o:∀(i:Y) v,j[i]? =U v->∃(l:aj Y) (t:pq),g[i]? =U l/\v=bV l t) (hb:g.flatten.length<=big) (h:∀t' tk,Q (bV g.flatten t') {s with toks:=tk}):
  aL (aQ m w) A (call (.builtin "bytes.join") [bV [] t,.ref L]) Q E s:=by
 refine sZ xr (ui _ _ _) wB ?_<|xz _ _;show aL _ A.in1 (Bytes.joinItems (.ref L) >>= λγ=>_) _ _ _;refine al<|al<|ON ⟨_,hL,J⟩ ?_;refine aM ?_;refine al<|kG hL J ?_;rcases j with _|⟨x,_|⟨y,r⟩⟩
 ·refine al (iC (M1 a o _ λi f k l q Q' u z B=> ?_) (λst s' D=> ?_) λ_ _ e=>e)
  ·refine al<|kG hL J ?_;exact HF hL u z B
  ·refine E0 (D) λb H I=> ?_;obtain rfl:=b;exact HG hb h st.1 st.2 _ H I
 ·refine oV (o 0 x J) λl q e1 e2=> ?_;obtain rfl:=single a e1;subst e2;refine al<|ON (ui _ _ _) ?_;refine al<|zB<|aM ⟨_,J,?_⟩;have:=h q s.toks;rw[show[l].flatten=l by simp]at this;exact this
 ·refine al (iC (M1 a o _ λi f k l q Q' u z B=> ?_) (λst s' D=> ?_) λ_ _ e=>e)
  ·refine al<|kG hL J ?_;exact HF hL u z B
  ·refine E0 (D) λd H I=> ?_;obtain rfl:=d;exact HG hb h st.1 st.2 _ H I
end
end
section
open PySem.Builtin.Re
def u9(l:aj Y)(b e:Y):l.toArray.extract b e=((l.drop b).take<|e-b).toArray:=by exact rP List.extract_toArray<|rP List.extract_eq_take_drop J
section
variable {f:kX} {w:CR}
def PT:∀{c:aj<|aj Y} {vs:aj aA},vs.length=c.length->(∀(i:Y) v,vs[i]? =U v->∃(l:aj Y) (t:pq),c[i]? =U l/\v= .str ⟨l.toArray⟩ t)-> ∃d:aj<|a7 × pq,vs=aay d/\d.map (·.1)=c.map λx=>(⟨x.toArray⟩:a7):=by
 intro c;induction c with
 |nil=>
  intro b;cases b with
  |nil=>intro _ _;exact⟨[],J,J⟩
  |cons _ _=>intro h _;cases h
 |cons p c m=>
  intro b;cases b with
  |nil=>intro h _;cases h
  |cons v vs=>
   intro h k;refine oV (k 0 v J) λl t g a=> ?_;obtain rfl:=a;simp at g;subst g
   obtain⟨d,rfl,j⟩:=m (by simpa using h) λi v e=>by refine oV (k (i+1) v<|by simpa using e) λl t g j=> ?_;exact⟨l,t,by simpa using g,j⟩
   exact⟨(_,t)::d,J,by simp[j]⟩
def N3{l:aj Y}{b e:Y}(h:l.length<=65536):((l.drop b).take<|e-b).length<=65536:=ab (by exact rP f5 <| zM _ _)<|ab (by exact rP dP <| lA _ _) h
noncomputable def Zn(f:kX)(w:CR):Knd f w where
 kind:=0
 val:=λl t=> .str ⟨l.toArray⟩ t
 jid:="str.join"
 raw:=λ_=>True
 jid_eq:=J
 cutR:=λ_=>trivial
 whole:=λ_ P h=>Iy P h
 slice:=λ{A E s l b e Q} g _ h=>by delta ES;refine rP (u9 ..) ?_;refine wM (h _ _) ?_;show((l.drop b).take<|e-b).toArray.size<=qO;exact rP (aO ..) <| rP (cS ..) <| ab (N3 g)<|dcd J
 join:=λ{A E s L i vs c t Q} r hL d j _ m u h=>by
  refine cm (PT d j) λn a o=> ?_;obtain rfl:=a;have g:s.heap.IsList L (aay n).toArray:=⟨_,hL,J,_,J⟩;refine SC.join g o ?_ λq k=> ?_
  ·delta JoinOk;refine rP (Im ..)<|rP (qU ..) ?_;delta pB qO;have:(⟨([]:aj Y).toArray⟩:a7).length=0:=J;refine rP (this ..)<|rP (mj ..)<|rP (GU ..) ?_;simp only[pZ,jw];exact du 0x1000005f901010000006f927 m
  ·have:Txt.join ⟨([]:aj Y).toArray⟩ (i.map λx=>(⟨x.toArray⟩:a7))=⟨i.flatten.toArray⟩:=by show CV _ _=_;exact rP (vo ..) <| join_nil i
   exact rP (this ..) <| h q k
 must:=nofun
 lit:=λ{A E s l t Q} _ h=>by delta jy;exact al<|aM<|aM h
def LY{l:aj Y}(h:∀c∈l,c<256):((l.map bT).toArray.map (·.toNat))=l.toArray:=by refine rP Pp<|rP bU ?_;congr 1;refine(gz λc a=> ?_).trans<|List.map_id _;simp[bT];have:=h c a;exact du 0x1002f9021002f902 this
noncomputable def VO(f:kX)(w:CR):Knd f w where
 kind:=1
 val:=bV
 jid:="bytes.join"
 raw:=λl=>∀c∈l,c<256
 jid_eq:=J
 cutR:=λh c g=>h c<|Pr _ _<|Pk _ _ g
 whole:=λ{A E s a code l t Q} i P h=>CZ P<|(LY i)▸h
 slice:=λ{A E s l b e Q} j _ h=>by delta ES;refine rP (u9 ..) ?_;refine rP (Pp ..) ?_;refine J3 (h _ _) ?_;exact rP (aO ..) <| rP (aG ..) <| rP (cS ..) <| ab (N3 j)<|dcd J
 join:=λ{A E s L n vs c t Q} o hL d k _ m g h=>FL hL d k m h
 must:=nofun
 lit:=λ{A E s l t Q} _ h=>by delta jy;refine al<|iw oZ ?_;exact al<|iw Pf<|aM h
end
structure wI(W:Wd):Prop where
 p1:oS W.h₀ (W.pa 1) ko 0
 p2:oS W.h₀ (W.pa 2) ko 1
 p3:oS W.h₀ (W.pa 3) tC 0
def Uk(h:F1 l p=U (a,b)):p<=a/\a<b/\b<=l.length:=by
 delta F1 at h;cases q:tZ (jP l p) (l.drop p)with
 |none=>rw[q]at h;exact nd h
 |some k=>rw[q]at h;simp at h;refine jG (Hv q) λc _=> ?_;rw[dP]at c;exact L9 0x19ea9b3ac389cc90452250ab3150a3034a32121281018 (by rfl) h.1 h.2 c
def aau(h:F3 l p=U (a,b)):p<=a/\a<b/\b<=l.length:=by
 delta F3 at h;cases q:uV (l.drop p)with
 |none=>rw[q]at h;exact nd h
 |some k=>rw[q]at h;simp at h;refine jG (B2 q) λc _=> ?_;rw[dP]at c;refine jG (H5 (l:=l) (k:=p+k)<|gr 0x7898ca0312023a210a2 (by rfl) c) λd e=> ?_;exact L9 0x131a328ac903540aa15722540aa3140a332121281018 h.1 h.2 d e
def AJ(l):∀(p),(mJ p l).length<=2*l.length:=by
 induction l with
 |nil=>intro p;exact aZ 0
 |cons c t a=>
  intro p;refine rP (tO ..) ?_;by_cases q:p=ah/\c=46
  ·have:=a af;refine rP (bM q ..) ?_;simp;exact cQ 20616139948210 this
  ·have:=a<|aF c 10;refine rP (bA q ..) ?_;simp;exact cQ 1288508746754 this
theorem u7:∀(n) (l),l.length<=n->(sU l).length<=2*l.length
 |0,l,h=>by induction l using aE with|nil=>exact aZ 0|cons _ _=>simp at h
 |n+1,[],h=>aZ 0
 |n+1,[c],h=>by
  show(if c=10\/c=13 then[13,10]else[c]).length<=2;by_cases q:c=10\/c=13
  ·exact rP (bM q ..) <| aZ 2
  ·exact rP (bA q ..) <| iK 1
 |n+1,c::d::t,h=>by
  refine rP (D0 ..) ?_;simp at h;by_cases q:c=13/\d=10
  ·refine rP (bM q ..) ?_;have:=u7 n t<|cQ 1057025 h;simp;exact cQ 329858247999666 this
  ·refine rP (bA q ..) ?_;by_cases q:c=10\/c=13
   ·refine rP (bM q ..) ?_;have:=u7 n (d::t) (by simp;exact cQ 1057026 h);simp at this⊢;exact cQ 7648207642476722 this
   ·refine rP (bA q ..) ?_;have:=u7 n (d::t) (by simp;exact cQ 1057026 h);simp at this⊢;exact cQ 478012977654786 this
def IK(l):∀(p),(∀c∈l,c<256)->∀c∈mJ p l,c<256:=by
 induction l with
 |nil=>intro p _;exact λ_ h=>bI h a0
 |cons c t b=>
  intro p h;have d:∀c∈t,c<256:=λx a=>h x<|.tail _ a;refine rP (tO ..) ?_;by_cases q:p=ah/\c=46
  ·refine rP (bM q ..) ?_;intro x a;rcases aR.mp a with rfl|a
   ·decide
   ·rcases aR.mp a with rfl|a
    ·decide
    ·exact b af d x a
  ·refine rP (bA q ..) ?_;intro x a;rcases aR.mp a with rfl|a
   ·exact h _<|.head _
   ·exact b _ d x a
section
variable {W:Wd} {l:aj Y}
def tm{Q:au aA->aw->Prop}(h:Q ag s):aL (aQ W.prog W.w) A (Cz (.str x t) "__call__") Q E s:=ut (oh _ _ _) C8 h
def xx{Q:au aA->aw->Prop}(h:Q ag s):aL (aQ W.prog W.w) A (Cz (.bytes x t) "__call__") Q E s:=ut (ui _ _ _) Ak h
def Lg(g:wI W)(i:A.handled=ag)(st:St W s)(c:l.length<=65536)(h:∀f d,Nx W s d->bf W n d.heap (.str<|mJ ah l) f->Q f d):aL (aQ W.prog W.w) A (call (.builtin "re.Pattern.sub") [.ref<|W.pa 1,.str ⟨[46,46].toArray⟩ o,.str ⟨l.toArray⟩ q]) Q E s:=by
 have S:=Tb (l:=l) l.length 0 (cD J)<|db _;refine ze (Zn W.prog W.w) (rp:=[46,46]) (F:=F1 l) (B:=6*(l.length+2)) i (g.p1.keeps st.stay) c trivial trivial (du 0x6050100004f9013d09005f980a6c1 c) (λp j=>Hi j) (λp a b e=>Uk e) S ?_ tm (.inl ⟨_,J,by simp⟩) λt u m k=> ?_
 ·have:=AJ (l.drop 0)<|jP l 0;rw[fS]at this⊢;exact cQ 0x42012c01100004f9111000005f901 c this
 ·refine h _ _ (.of_keeps st k) ?_;exact⟨m,J⟩
def Le(g:wI W)(i:A.handled=ag)(st:St W s)(d:l.length<=65536)(h:∀f c,Nx W s c->bf W n c.heap (.str<|sU l) f->Q f c):aL (aQ W.prog W.w) A (call (.builtin "re.Pattern.sub") [.ref<|W.pa 3,.str ⟨[13,10].toArray⟩ o,.str ⟨l.toArray⟩ q]) Q E s:=by
 have S:=Yp (l:=l) l.length 0 (cD J)<|db _;refine ze (Zn W.prog W.w) (rp:=[13,10]) (F:=F3 l) (B:=20) i (g.p3.keeps st.stay) d trivial trivial (BW 0x3d09005f9141f91) (λp j=>P7 j) (λp a b e=>aau e) S ?_ tm (.inl ⟨_,J,by simp⟩) λt u m k=> ?_
 ·have:=u7 _ (l.drop 0)<|aZ _;rw[fS]at this⊢;exact cQ 0x42012c01100004f9111000005f901 d this
 ·refine h _ _ (.of_keeps st k) ?_;exact⟨m,J⟩
theorem Lf(j:wI W)(m:A.handled=ag)(st:St W s)(d:l.length<=65536)(g:∀c∈l,c<256)(h:∀i f,Nx W s f->bf W q f.heap (.sJ<|mJ ah l) i->Q i f):aL (aQ W.prog W.w) A (call (.builtin "re.Pattern.sub") [.ref<|W.pa 2,bV [46,46] r,bV l t]) Q E s:=by
 have S:=Tb (l:=l) l.length 0 (cD J)<|db _;refine ze (VO W.prog W.w) (rp:=[46,46]) (F:=F1 l) (B:=6*(l.length+2)) m (j.p2.keeps st.stay) d g (show∀c∈[46,46],c<256 by decide) (du 0x6050100004f9013d09005f980a6c1 d) (λp n=>Hi n) (λp a b e=>Uk e) S ?_ xx (.inr ⟨oZ,_,aaD,by decide+kernel⟩) λv x o k=> ?_
 ·have:=AJ (l.drop 0)<|jP l 0;rw[fS]at this⊢;exact cQ 0x42012c01100004f9111000005f901 d this
 ·refine h _ _ (.of_keeps st k) ?_;exact⟨o,J,IK l ah g⟩
end
end
section
open PySem.Builtin PySem.Builtin.Str PySem.StrLaws
def zv(p q:Y)(m:aj Y)(j:Y):Prop:=m[j]? =U p/\m[j+1]? =U q
def R9(h:¬(c=p/\d=q)):(aF c p&&aF d q)=af:=by
 cases a:aF c p with
 |false=>rfl
 |true=>
  cases b:aF d q with
  |false=>rfl
  |true=>exact bI ⟨aJ a,aJ b⟩ h
def tP(a)(c d)(t):jt a (c::d::t)=match aF c 13&&aF d 10 with
  |true=>a.reverse::jt [] t
  |false=>jt (c::a)<|d::t:=J
theorem yq:∀(m:aj Y) (j:Y) (a:aj Y),(∀k,k<j->¬zv 13 10 m k)->zv 13 10 m j->jt a m=(a.reverse++m.take j)::jt [] (m.drop<|j+2)
 |[],j,a,_,h=>nd h.1
 |[c],j,a,_,h=>nd h.2
 |c::d::t,j,a,b,h=>by
  induction j using cg with
  |zero=>obtain rfl:c=13:=sm h.1;obtain rfl:d=10:=sm h.2;exact az (· ::jt [] t) (eB _).symm
  |succ j=>refine rP (tP ..)<|rP (R9 λz=>b 0 (fj _) ⟨az U z.1,az U z.2⟩ ..) ?_;refine(yq (d::t) j (c::a) (λk e=>b (k+1)<|f9 e) h).trans ?_;exact rP (g_ ..) <| rP (dS ..) J
theorem rC:∀(m:aj Y) (a:aj Y),(∀k,¬zv 13 10 m k)->jt a m=[a.reverse++m]
 |[],a,_=>az (λx=>[x]) (eB _).symm
 |[c],a,_=>az (λx=>[x]) g_
 |c::d::t,a,b=>by refine rP (tP ..)<|rP (R9 λz=>b 0 ⟨az U z.1,az U z.2⟩ ..) ?_;refine(rC (d::t) (c::a) λk=>b<|k+1).trans ?_;exact rP (g_ ..) <| rP (dS ..) J
def AP(c d)(t):kS (c::d::t)=match aF c 10&&aF d 46 with
  |true=>10::46::46::kS t
  |false=>c::kS (d::t):=J
theorem AQ:∀(m:aj Y) (j:Y),(∀k,k<j->¬zv 10 46 m k)->zv 10 46 m j->kS m=m.take j++([10,46,46]++kS (m.drop<|j+2))
 |[],j,_,h=>nd h.1
 |[c],j,_,h=>nd h.2
 |c::d::t,j,a,h=>by
  induction j using cg with
  |zero=>obtain rfl:c=10:=sm h.1;obtain rfl:d=46:=sm h.2;rfl
  |succ j=>exact rP (AP ..) <| rP (R9 λz=>a 0 (fj _) ⟨az U z.1,az U z.2⟩ ..) <| az (c:: ·)<|AQ (d::t) j (λk b=>a (k+1)<|f9 b) h
theorem tS:∀(m:aj Y),(∀k,¬zv 10 46 m k)->kS m=m
 |[],_=>rfl
 |[c],_=>rfl
 |c::d::t,a=>by exact rP (AP ..) <| rP (R9 λz=>a 0 ⟨az U z.1,az U z.2⟩ ..) <| az (c:: ·)<|tS (d::t) λk=>a<|k+1
section
variable {l:aj Y}
def rZ:GL ⟨l.toArray⟩ ⟨[p,q].toArray⟩ l.length k<->zv p q l k:=by
 show(k+2<=l.length/\subAt ⟨l.toArray⟩ ⟨[p,q].toArray⟩ k=ah)<->_;rw[subAt_eq];show k+2<=l.length/\((l.drop k).take 2==[p,q])=ah<->_;rw[eR];constructor
 ·rintro ⟨b,a⟩;have c:((l.drop k).take 2)[0]? =U p:=by exact rP a J
  have d:((l.drop k).take 2)[1]? =U q:=by exact rP a J
  rw[List.getElem?_take_of_lt<|dcd J,gN]at c d;exact⟨c,d⟩
 ·rintro ⟨b,a⟩;refine dQ (cy.mp b) λf g=> ?_;refine dQ (cy.mp a) λe h=> ?_;refine⟨(cQ 4481712289 e),?_⟩;exact rP (fI f) <| rP (fI e) <| rP g <| rP h J
def pO:zv p q (l.drop a) k<->zv p q l (a+k):=by delta zv;rw[gN,gN,iQ]
def uG:OX ⟨l.toArray⟩ a b=⟨((l.drop a).take<|b-a).toArray⟩:=by refine Str.ext' ?_;apply oG;exact rP (strSub_toList ..) J
def Ea{b:aj Y}:∀{a f:Y},a<=l.length->ChainG ⟨l.toArray⟩ ⟨[13,10].toArray⟩ l.length a b f->(∀k,f<=k->¬GL ⟨l.toArray⟩ ⟨[13,10].toArray⟩ l.length k)-> Kv ⟨l.toArray⟩ 2 a b=(jt []<|l.drop a).map λx=>(⟨x.toArray⟩:a7):=by
 induction b with
 |nil=>intro a f q h j;have e:f=a:=h;subst e;refine rP (rC _ _ λk z=>j (f+k) (bq _ _)<|rZ.mpr<|pO.mp z) ?_;show[OX _ f l.toArray.size]=_;exact rP uG <| rP (aO ..) <| rP (lQ (by rw[dP];exact aZ _) ..) J
 |cons c r s=>intro a f q h j;refine UE (h) λt n u o=> ?_;refine dQ (pG t) λd g=> ?_;obtain rfl:=g;have i:=n.1;have m:(⟨[13,10].toArray⟩:a7).length=2:=J;rw[m]at i o;refine rP (yq (l.drop a) d [] (λk v z=>u (a+k) (bq _ _) (d9 142305005730 v)<|rZ.mpr<|pO.mp z) (pO.mpr<|rZ.mp n) ..) ?_;show OX _ a (a+d)::Kv _ 2 (a+d+2) r=_;exact rP (uG ..) <| rP (s (by exact d9 0x2810aa12810aa1 i) o j ..) <| rP (lR ..) <| rP (ga ..) <| rP (iQ ..) J
def Gm{b:aj Y}:∀{a f:Y},a<=l.length->ChainG ⟨l.toArray⟩ ⟨[10,46].toArray⟩ l.length a b f->(∀k,f<=k->¬GL ⟨l.toArray⟩ ⟨[10,46].toArray⟩ l.length k)-> (pt ⟨[10,46,46].toArray⟩<|Kv ⟨l.toArray⟩ 2 a b)=(⟨(kS<|l.drop a).toArray⟩:a7):=by
 induction b with
 |nil=>intro a f t h m;have e:f=a:=h;subst e;refine rP (tS _ λk z=>m (f+k) (bq _ _)<|rZ.mpr<|pO.mp z) ?_;show OX _ f l.toArray.size=_;exact rP uG<|rP (aO ..)<|rP (lQ (by rw[dP];exact aZ _) ..) J
 |cons c r j=>intro a f t h m;refine UE (h) λu q v s=> ?_;refine dQ (pG u) λd g=> ?_;obtain rfl:=g;have i:=q.1;have n:(⟨[10,46].toArray⟩:a7).length=2:=J;rw[n]at i s;refine rP (AQ (l.drop a) d (λk w z=>v (a+k) (bq _ _) (d9 142305005730 w)<|rZ.mpr<|pO.mp z) (pO.mpr<|rZ.mp q) ..) ?_;refine X_ (partsFrom_ne ⟨l.toArray⟩ 2 (a+d+2) r) λx y o=> ?_;have j:=j (by exact d9 0x2810aa12810aa1 i) s m;show pt _ (OX _ a (a+d)::Kv _ 2 (a+d+2) r)=_;rw[o]at j⊢;show OX _ a (a+d)++_++pt _ (x::y)=_;refine rP (j ..)<|rP (uG ..)<|rP (lR ..)<|rP (ga ..)<|rP (iQ ..) ?_;refine Str.ext' ?_;apply oG;simp[Str.cps_append]
end
def Lh(a:aj<|aj Y):∀(b:Y),ba W d h (a.map .str)<|strsFrom b<|a.map λx=>(⟨x.toArray⟩:a7):=by
 induction a with
 |nil=>intro _;exact .nil
 |cons x a c=>intro b;exact .cons (⟨b,J⟩)<|c<|b+1
def strKind_pos(x):1<=jU x:=by
 delta jU;split
 ·decide
 ·split<;>decide
theorem tQ:∀(n) (l a),l.length<=n->(jt a l).length<=l.length+1
 |_,[],a,_=>by delta jt;simp
 |_,[c],a,_=>by delta jt;simp
 |0,_::_::_,a,h=>by simp at h
 |n+1,c::d::r,a,h=>by
  refine rP (tP ..) ?_;simp at h;split
  ·have:=tQ n r []<|cQ 1057025 h;simp;exact cQ 7249336833 this
  ·have:=tQ n (d::r) (c::a) (by simp;exact cQ 1057026 h);simp at this⊢;exact cQ 1902689106689 this
theorem Lu(st:St W s)(ha:Av y s)(hl:l.length<=big)(h:∀B q,Nx W s q->bf W y q.heap (.lst<|(jt [] l).map .str) B->Q B q):aL (aQ W.prog W.w) A (call (.builtin "str.split") [.str ⟨l.toArray⟩ t,.str ⟨[13,10].toArray⟩ u]) Q E s:=by
 have g:=hl;refine cm (occ_tight ⟨l.toArray⟩ ⟨[13,10].toArray⟩<|dcd J) λf n r=> ?_;have a:(⟨l.toArray⟩:a7).length=l.length:=by show l.toArray.size=_;simp
 rw[a]at n r
 have D:∀{i:aj aA} {H:Y},ba W y (s.heap.push {cls:= .type "list",data:= .seq i.toArray}) ((jt [] l).map .str) i->Q (.ref s.heap.objs.size) {s with heap:=s.heap.push {cls:= .type "list",data:= .seq i.toArray},toks:=H}:=λ{i H} hr=>by refine h _ _ (.of_keeps st λb o e=>bu _ e) ?_;exact⟨s.heap.objs.size,i,J,λz=>ha _ z<|eL _,⟨0,bQ _ J⟩,hr⟩
 have one:(∀k,¬zv 13 10 l k)->Q (.ref s.heap.objs.size) {s with heap:=s.heap.push {cls:= .type "list",data:= .seq [qQ ⟨l.toArray⟩ t].toArray}}:=λhn=>by refine D ?_;refine rP (rC l [] hn ..) ?_;refine .one ?_;exact⟨t,J⟩
 by_cases c:l.length<2
 ·refine uh lz (oh _ _ _) pV (pA _ _) (meets_str_split_cannot_occur _ _ t u<|by exact rP (S0 ..) <| .inl<|bD (by refine rP (a ..) ?_;exact c)) ?_
  exact one λk z=>by have:=(cy.mp z.2).1;exact cQ 28475424 c this
 ·have L:(decide ((⟨l.toArray⟩:a7).length<(⟨[13,10].toArray⟩:a7).length)||decide (jU ⟨l.toArray⟩<jU ⟨[13,10].toArray⟩))=af:=by
   rw[Ix];refine⟨bz (by rw[a];exact c),bz ?_⟩;have:jU ⟨[13,10].toArray⟩=1:=by decide+kernel
   exact rP (this ..) <| fM.mpr<|strKind_pos _
  cases v:(ux ⟨l.toArray⟩ ⟨[13,10].toArray⟩ 0 (⟨l.toArray⟩:a7).length<|(⟨l.toArray⟩:a7).length+1).isEmpty with
  |true=>
   refine uh lz (oh _ _ _) pV (pA _ _) (meets_str_split_not_found _ _ t u L J v) ?_
   refine one λk z=> ?_
   have M:=eZ.mp v
   rw[a]at M
   rw[M]at n
   have e:=n
   exact r k (cQ 7352577 e)<|rZ.mpr z
  |false=>
   have O:=Ea (db _) n r
   rw[fS]at O
   have hp:partsBetween ⟨l.toArray⟩ (ux ⟨l.toArray⟩ ⟨[13,10].toArray⟩ 0 (⟨l.toArray⟩:a7).length<|(⟨l.toArray⟩:a7).length+1) (⟨[13,10].toArray⟩:a7).length=(jt [] l).map λx=>(⟨x.toArray⟩:a7):=by exact rP (aa8 ..) <| rP (a ..) O
   refine uh lz (oh _ _ _) pV (pA _ _) (meets_str_split_sep _ _ t u L J v (rP (a ..) <| rP (cS ..) <| du 0x1000005f90110000006f901 g) (by refine rP (hp ..)<|rP (aG ..)<|rP (cS ..) ?_;have:=tQ _ l []<|aZ _;exact cQ 0x1b011000005f91110000006f901 g this)) ?_
   exact rP (hp ..) <| D<|Lh _ _
theorem Fj(st:St W s)(m:l.length<=big)(n:t≠0)(o:u≠0)(c:t≠u)(h:∀j d,Nx W s d->bf W y d.heap (.str<|kS l) j->Q j d):aL (aQ W.prog W.w) A (call (.builtin "str.replace") [.str ⟨l.toArray⟩ B,.str ⟨[10,46].toArray⟩ t,.str ⟨[10,46,46].toArray⟩ u]) Q E s:=by
 have g:=m;have a:(⟨l.toArray⟩:a7).length=l.length:=by show l.toArray.size=_;simp
 refine SC.replace n o c (by decide+kernel) (rP (a ..) <| rP (show(⟨[10,46,46].toArray⟩:a7).length=3 from rfl) <| du 0x40501000005f90110000006f90b3d0a1 g) λq k=> ?_
 have e:Txt.replace ⟨l.toArray⟩ ⟨[10,46].toArray⟩ ⟨[10,46,46].toArray⟩=⟨(kS l).toArray⟩:=by
  refine cm (occ_tight ⟨l.toArray⟩ ⟨[10,46].toArray⟩<|dcd J) λf b i=> ?_;rw[a]at b i;delta Txt.replace;have r:((⟨[10,46].toArray⟩:a7).length==0&&(⟨[10,46,46].toArray⟩:a7).length==0)=af:=J;refine rP (r ..)<|rP (vy ..)<|rP (a ..) ?_;cases v:(ux ⟨l.toArray⟩ ⟨[10,46].toArray⟩ 0 l.length<|l.length+1).isEmpty with
  |true=>refine rP (bM J ..) ?_;have x:=eZ.mp v;rw[x]at b;have e:=b;exact rP (tS l λk z=>i k (cQ 7352577 e) (rZ.mpr z) ..) J
  |false=>refine rP (bA (by nofun) ..)<|rP (vo ..)<|rP (aa8 ..) ?_;have:=Gm (db _) b i;rw[fS]at this;exact this
 refine h _ _ (Nx.refl st).tok ?_;exact rP (e ..) <| ⟨q,J⟩
end
section
open PySem.Builtin
noncomputable abbrev Gx:a7:=⟨[97,115,99,105,105].toArray⟩
def Wu(x)(t u):«str.encode» ⟨[.str x t,.str Gx u],[]⟩=((se "str.encode" kM ag (.str x t) x >>= λb=>mkBytes b) >>= λv=>Xf v):=by kernel_rfl
def Wx(c)(a)(t u):«bytes.decode» ⟨[.bytes (c::a).toArray t,.str Gx u],[]⟩=(mkStr (wP "utf-8") >>= λ_=>mkStr Gx >>= λe=>mkStr (wP "bytes.decode") >>= λd=>call (.builtin "_codecs.decode.text") [.bytes (c::a).toArray t,e,.none,d] >>= λv=>Xf v):=by kernel_rfl
def LR{id}{b}:_codecs.decodeRoad id b Gx ag []=(uk id si ag ah b 0 [] >>= λr=>mkStr ⟨r.1⟩):=by kernel_rfl
def JW(a b):argsOk "bytes.decode" ⟨[a,b],[]⟩:=by kernel_rfl
section
variable {M:Model} {A:cZ} {E:aA->aw->Prop} {s:aw}
def P9{id:o_}{l:aj Y}{Q:eI Y × Y->aw->Prop}(x:∀c∈l,c<128)(y:l.length<=big)(h:Q (l.toArray,l.length) s):aL M A (uk id si ag ah (l.map bT).toArray 0 []) Q E s:=by
 unfold uk;have u:l.length<=1048576:=y;have z:(l.map bT).toArray.size=l.length:=by simp
 have j:∀p (b:p<l.length),si.find ah (l.map bT).toArray p= .text [l[p]] (p+1):=λp b=>by
  have w:l[p]<128:=x _<|List.getElem_mem b
  have e:((l.map bT).toArray.getD p 0).toNat=l[p]:=by refine rP ot<|rP (fQ ..)<|rP (cb ..)<|rP (be b ..) ?_;simp[bT];exact du 0x801f9021002f902 w
  show(if((l.map bT).toArray.getD p 0).toNat<128 then _codecs.Found.char ((l.map bT).toArray.getD p 0).toNat (p+1)else _)=_;exact rP (e ..) <| rP (bM w ..) J
 refine al ?_;refine rP (i6 ..) ?_;have B:gT [:(l.map bT).toArray.size]=l.length:=by simp[gT]
 refine rP (B ..) ?_;refine Cw _ (λd st r=>r=s/\∃k,d=eK k (l.length-k)/\k<=l.length/\st.1=k/\st.2.1.toList=l.take k) _ ?_ ?_ _ _ ⟨J,0,by simp,db _,J,by simp⟩
 ·rintro i d ⟨p,a,st⟩ r ⟨rfl,k,m,t,b,g⟩;have b:p=k:=b;subst b
  have f:p<l.length:=by
   rcases jz p l.length with q|q
   ·exact q
   ·rw[show l.length-p=0 from d9 0x1899b99bd0211121210a703 J t q]at m;cases m
  obtain⟨rfl,n⟩:i=p/\d=eK (p+1) (l.length-(p+1)):=by rw[show l.length-p=(l.length-(p+1))+1 from gr 0x1ce883bc98379ea8c8c889ea02322313b21a320a1b03 J J t f,Pm]at m;exact⟨(dM m).1,(dM m).2⟩
  have g:a.toList=l.take i:=g
  have v:a.size<=qO:=by exact rS nU <| rP g <| rP cS <| rP f5 <| d9 0x9801000005f921210d10000006f901 J u
  dsimp only;refine rP (bA<|by exact cQ 1118247 v)<|rP (bA (by rw[z];exact cQ 1183767 f))<|rP (j i f) ?_;refine aM ⟨J,i+1,n,f,J,?_⟩;refine rP O0<|rP (be f) ?_;simp[g]
 ·rintro ⟨p,a,st⟩ r ⟨rfl,k,m,t,b,g⟩
  have o:k=l.length:=by have:=az Iv m;simp at this;exact d9 0x731c890273101012a103 (by rfl) t this
  have b:p=k:=b;subst b;refine aM ?_
  have g:a=l.toArray:=oG (by have:a.toList=l.take p:=g;exact rP this<|rP o<|rP i7 J)
  show Q (a,p) r;exact rP g <| rP o h
def Ru{id}{x}{v}{Q:eI nO->aw->Prop}(ha:∀c∈x.cps.toList,c<128)(hl:x.length<=big)(h:Q (x.cps.toList.map bT).toArray s):aL M A (se id kM ag v x) Q E s:=by
 unfold se;have w:x.length<=1048576:=hl;have o:x.cps.size=x.length:=J
 have g:∀y∈x.cps,kM.bad y=af:=λy z=>by have:=ha y (by simpa using z);exact bz<|SR<|du 0x801f902801f902 this
 refine al ?_;refine rP (i6 ..) ?_;have sz:gT [:x.length]=x.length:=by simp[gT]
 refine rP (sz ..) ?_;refine Cw _ (λk st t=>t=s/\((st.1=0/\st.2.1= #[]/\k=eK 0 x.length)\/(st.1=x.length/\st.2.1=(x.cps.toList.map bT).toArray))) _ ?_ ?_ _ _ ⟨J,.inl ⟨J,J,J⟩⟩
 ·rintro j k ⟨i,d,st⟩ t ⟨rfl,B⟩;rcases B with⟨f,e,u⟩|⟨f,e⟩
  ·have f:i=0:=f;have e:d= #[]:=e;subst f;subst e
   have m:0<x.length:=by
    rcases wT x.length with q|q
    ·rw[q]at u;cases u
    ·exact q
   obtain⟨c,O⟩:∃c,x.cps[0]? =U c:=⟨x.cps[0]'m,gE m⟩;have D:kM.bad c=af:=g c<|Array.mem_of_getElem? O;dsimp only;refine rP (bA<|by simp)<|rP O ?_;dsimp only;refine rP D<|rP (bM (show(!af)=ah from rfl)) ?_;refine aM ⟨J,.inr ?_⟩;have H:x.cps.extract 0=x.cps:=by simp
   have n:(Array.findIdx? kM.bad x.cps)=ag:=by rw[Array.findIdx?_eq_none_iff];exact λy z=>g y z
   have e0:(x.cps.extract 0 x.cps.size)=x.cps:=by simp
   refine rP (H ..)<|rP (n ..)<|rP (Option.getD_none ..)<|rP (e0 ..) ?_;refine⟨by show 0+x.cps.size=_;exact rP (o ..)<|rP (kt ..) J,?_⟩;show yj (λb y=>b++([y.toUInt8]).toArray) #[] x.cps=_
   have I:∀(l:aj Y) (b:eI nO),l.foldl (λb y=>b++([y.toUInt8]).toArray) b=b++(l.map bT).toArray:=by
    intro l;induction l with
    |nil=>intro b;simp
    |cons a r ih=>intro b;refine rP (nT ..)<|rP (ih ..) ?_;simp
   refine rS (Ko ..)<|rP (I ..) ?_;simp
  ·have f:i=x.length:=f;have e:d=(x.cps.toList.map bT).toArray:=e;subst f;subst e;dsimp only
   have L:(x.cps.toList.map bT).toArray.size<=qO:=by exact rP (aO ..) <| rP (aG ..) <| rP (nU ..) <| rP (o ..) <| rP (cS ..) <| du 0x1000005f90110000006f901 w
   refine rP (bA (by exact cQ 1118247 L) ..)<|rP (show x.cps[x.length]? =ag from lJ<|aZ _) ?_;exact aM<|aM h
 ·rintro ⟨i,d,st⟩ t ⟨rfl,B⟩;refine aM ?_;rcases B with⟨f,e,u⟩|⟨f,e⟩
  ·have e:d= #[]:=e
   have hz:x.length=0:=by have:=az Iv u;simp at this;exact cJ (du 805779201 this)<|du 471153 this
   have H:x.cps.toList=[]:=nB (by exact rP (nU ..) hz);show Q d t;refine rP (e ..) ?_;rw[H]at h;exact h
  ·have e:d=(x.cps.toList.map bT).toArray:=e;show Q d t;exact rP (e ..) h
end
def uf{l}(h:ug l=ah):∀c∈l,c<128:=λc a=>by
 have:=a_.mp h c a
 exact SS λz=>by have:fy c 128=ah:=this;rw[Nat.blt_eq]at this;exact du 0x801f9020801f910 z this
def sG{a b}(h:fT a b=ah):a=b:=li.mp h
section
variable {W:Wd} {A:cZ} {E:aA->aw->Prop} {s:aw} {g:aX->Prop} {Q:aA->aw->Prop} {l:aj Y} {t u:pq}
def JH(st:St W s)(d:l.length<=big)(e:ug l=ah)(h:∀f a,Nx W s a->bf W g a.heap (.sJ l) f->Q f a):aL (aQ W.prog W.w) A (call (.builtin "str.encode") [.str ⟨l.toArray⟩ t,.str Gx u]) Q E s:=by have b:=d;refine sZ Bq (oh _ _ _) PySem.F.entry_str_encode ?_<|PySem.F.args_str_encode_2 _ _;refine rP (Wu ..) ?_;refine al<|al<|Ru (by simpa using uf e) (by show l.toArray.size<=big;simpa using d) ?_;refine J3 (aM ⟨_,J,h _ _ (Nx.refl st).tok ?_⟩) (by refine rP (aO ..)<|rP (aG ..)<|rP (cS ..) ?_;simp;exact du 0x1000005f90110000006f901 b);exact⟨s.toks,by simp,λc i=>by have:=uf e c i;exact du 0x801f9021002f902 this⟩
def DB{b}{j k}{d}(m:b=(l.map bT).toArray)(n:∀c∈l,c<128)(e:l.length<=big):Meets («_codecs.decode.text» ⟨[.bytes b t,.str Gx j,.none,.str d k],[]⟩) λ_ R s=>R (.ok<|.ret<|.str ⟨l.toArray⟩ s.toks) {s with toks:=s.toks+1}:=by subst m;refine .of_wp λi w A R s h=> ?_;have a:=e;show aL _ _ (Bytes.bytesLike _ (.bytes _ t) >>= λr=>_) _ _ s;refine al<|iw KBd.like_eq ?_;refine al<|iw KBd.held_eq ?_;refine rP LR ?_;refine al<|al<|P9 n e ?_;exact wM (aM ⟨_,J,h⟩) (by show l.toArray.size<=qO;exact rP aO <| rP cS <| du 0x1000005f90110000006f901 a)
def JI(st:St W s)(i:l.length<=big)(j:ug l=ah)(a:l≠[])(h:∀d b,Nx W s b->bf W g b.heap (.str l) d->Q d b):aL (aQ W.prog W.w) A (call (.builtin "bytes.decode") [bV l t,.str Gx u]) Q E s:=by
 cases e:l with
 |nil=>exact bI e a
 |cons c f=>
  have k:bV (c::f) t= .bytes (c.toUInt8::f.map bT).toArray t:=J;refine rP (k ..) ?_;refine sZ FB.slot_bytes_decode (ui _ _ _) FB.entry_bytes_decode ?_<|JW _ _;refine rP (Wx ..) ?_;refine al<|wM (al<|wM (al<|wM ?_<|dcd J)<|dcd J)<|dcd J;refine al<|call_function_meets KBd.kind_text KBd.plain_text KBd.entry_text (KBd.args_text _ _ _ _) (DB (l:=l) (rP (e ..) J) (uf j) i)<|aM ⟨_,J,h _ _ ?_ ?_⟩
  ·exact(Nx.refl st).tok
  ·exact⟨_,J⟩
def F4{d}{id}{k}{i}(f:Slot "list" d id)(m:GG (.builtin id)=gZ (.type "method_descriptor"))(r:bf W g s.heap (.lst k) i):Found s i d id:=by refine rc (r) λa vs b _ j _=> ?_;obtain rfl:=b;have h:=j;refine dQ (h) λc e=> ?_;exact⟨"list",vp,f,m,⟨_,e,J⟩,v7 j⟩
def wm{b}{id}{f}{d}(c:Slot "str" b id)(h:GG (.builtin id)=gZ (.type "method_descriptor"))(r:bf W g s.heap (.str f) d):Found s d b id:=by refine dQ (r) λt a=> ?_;obtain rfl:=a;exact⟨"str",J_,c,h,oh _ _ _,λ_ e=>nomatch e⟩
def wq{k}{code}{d}{b}(st:St W s)(P:oS W.h₀ (W.pa k) code d)(r:bf W g s.heap (.pat k) b):Found s b "sub" "re.Pattern.sub":=by subst r;exact P.casesOn λc f h _ _ _ _=>⟨"re.Pattern",yD,yt,KY,⟨_,st.stay _ _ c,f⟩,λa e=>by cases e;exact⟨_,st.stay _ _ c,h⟩⟩
def Th{h}{x}{vs}(r:ba W g h [x] vs):∃v,vs=[v]/\bf W g h x v:=by refine jj (r) λv q c a b=> ?_;obtain rfl:=c;subst b;exact⟨v,J,a⟩
def YC{h}{x y}{vs}(r:ba W g h [x,y] vs):∃v w,vs=[v,w]/\bf W g h x v/\bf W g h y w:=by refine jj (r) λv q d a b=> ?_;obtain rfl:=d;refine cm (Th b) λw e c=> ?_;obtain rfl:=e;exact⟨v,w,J,a,c⟩
def YD{h}{vs}(r:ba W g h [] vs):vs=[]:=by exact r
inductive MI:OA->PV->aj PV->PV->Prop
 |join (xs:aj PV) (l:aj<|aj Y) (e:uP xs=U l) (h:(aY l.flatten.length big&&aY l.length big)=ah):MI .join (.str []) [.lst xs]<|.str l.flatten
 |encode (s:aj Y) (h1:ug s=ah) (h2:aY s.length big=ah):MI .encode (.str s) [.str BI]<|.sJ s
 |decode (s:aj Y) (h1:ug s=ah) (h2:aY s.length big=ah) (h3:s≠[]):MI .decode (.sJ s) [.str BI]<|.str s
 |split(s:aj Y) (h2:aY s.length big=ah):MI .split (.str s) [.str [13,10]] (.lst<|(jt [] s).map .str)
 |Lg (s:aj Y) (h:s.length<=65536):MI .sub (.pat 1) [.str [46,46],.str s]<|.str<|mJ ah s
 |Le (s:aj Y) (h:s.length<=65536):MI .sub (.pat 3) [.str [13,10],.str s]<|.str<|sU s
 |Lf (s:aj Y) (h:s.length<=65536):MI .sub (.pat 2) [.sJ [46,46],.sJ s]<|.sJ<|mJ ah s
 |m_ (a:Z):MI .m_ (.int a) []<|.int<|aH a
 |count (xs:aj PV) (l:aj Z) (x:Z) (e:n7 xs=U l):MI .count (.lst xs) [.int x]<|.int<|l.countP λy=>decide (y=x)
def VU{o x r}(e:joinM o x=U r):MI .join o [x] r:=by
 induction o using PV.casesOn with
 |str l=>induction l using aE with
  |nil=>induction x using PV.casesOn with
   |lst a=>
    refine gO (show(uP a).bind _=U r from e) λl c b=> ?_
    obtain rfl:=(cN b).2
    exact .join a l c (cN b).1
   |_=>exact nd e
  |cons=>exact nd e
 |_=>exact nd e
def C9{f:aj Y->aj Y->au PV}{x y r}(e:UY f x y=U r):∃a b,x= .str a/\y= .str b/\f a b=U r:=by
 induction x using PV.casesOn with
 |str a=>induction y using PV.casesOn with
  |str b=>exact⟨a,b,J,J,e⟩
  |_=>exact nd e
 |_=>exact nd e
def Nc{o x r}(e:H6 o x=U r):MI .encode o [x] r:=by refine jj (C9 e) λs y a b c=> ?_;have h:=cN c;obtain rfl:=h.2;exact rP a <| rP b <| rP (sG (n2 (n2 h.1).1).1) <| .encode s (n2 (n2 h.1).1).2 (n2 h.1).2
def Nd{o x r}(e:decodeM o x=U r):MI .decode o [x] r:=by
 induction o using PV.casesOn with
 |sJ s=>induction x using PV.casesOn with
  |str y=>
   have h:=cN e
   obtain rfl:=h.2
   have a:=n2 (n2 h.1).1
   exact rP (sG (n2 a.1).1) <| .decode s (n2 a.1).2 a.2 λz=>tf<|(az List.isEmpty z).symm.trans<|n0 (n2 h.1).2
  |_=>exact nd e
 |_=>exact nd e
def QU{o x r}(e:splitM o x=U r):MI .split o [x] r:=by refine jj (C9 e) λs y a b c=> ?_;have h:=cN c;obtain rfl:=h.2;exact rP a <| rP b <| rP (sG (n2 h.1).1) <| .split s (n2 h.1).2
def Zr{o x y r}(e:Yq o x y=U r):MI .sub o [x,y] r:=by
 induction o using PV.casesOn with
 |pat k=>induction x using PV.casesOn with
  |str a=>induction y using PV.casesOn with
   |str s=>
    have h:=n8 e
    by_cases b:k=1/\fT a [46,46]=ah
    ·obtain rfl:=sm ((bM b).symm.trans h.2)
     exact rP b.1 <| rP (sG b.2) <| .Lg s<|aD h.1
    ·have d:=(bA b).symm.trans h.2
     by_cases c:k=3/\fT a [13,10]=ah
     ·obtain rfl:=sm ((bM c).symm.trans d)
      exact rP c.1 <| rP (sG c.2) <| .Le s<|aD h.1
     ·exact nd<|(bA c).symm.trans d
   |_=>exact nd e
  |sJ a=>induction y using PV.casesOn with
   |sJ s=>
    have h:=n8 e
    by_cases b:k=2/\fT a [46,46]=ah
    ·obtain rfl:=sm ((bM b).symm.trans h.2)
     exact rP b.1 <| rP (sG b.2) <| .Lf s<|aD h.1
    ·exact nd<|(bA b).symm.trans h.2
   |_=>exact nd e
  |_=>exact nd e
 |_=>exact nd e
def QW{o x r}(e:countM o x=U r):MI .count o [x] r:=by
 induction o using PV.casesOn with
 |lst a=>induction x using PV.casesOn with
  |int k=>
   refine gO (show(n7 a).bind _=U r from e) λl b c=> ?_
   obtain rfl:=sm c
   exact .count a l k b
  |_=>exact nd e
 |_=>exact nd e
def rO{m}{o r}{as}{f:PV->au PV}(e:(one as).bind f=U r)(h:∀{x r},f x=U r->MI m o [x] r):MI m o as r:=gO e λx a b=>rP (su a) <| h b
def MO{m}{o r}{as}{f:PV->PV->au PV}(e:((two as).bind λp=>f p.1 p.2)=U r)(h:∀{x y r},f x y=U r->MI m o [x,y] r):MI m o as r:=gO e λx a b=>rP (jX a) <| h b
def DA{m}{o r}{as}(e:FG m o as=U r):MI m o as r:=by
 induction m using OA.casesOn with
 |join=>exact rO e VU
 |encode=>exact rO e Nc
 |decode=>exact rO e Nd
 |split=>exact rO e QU
 |sub=>exact MO e Zr
 |m_=>
  induction o using PV.casesOn with
  |int a=>induction as using aE with
   |nil=>obtain rfl:=sm e;exact .m_ a
   |cons=>exact nd e
  |_=>exact nd e
 |count=>exact rO e QW
def Je(c:wI W){m:OA}{o r:PV}{as:aj PV}{s:aw}{g:aX->Prop}{d:aA}(e:MI m o as r)(st:St W s)(a:bf W g s.heap o d):Found s d (MK m)<|mid m o:=by
 induction e using MI.casesOn with
 |join=>exact wm PySem.F.slot_str_join PySem.F.type_str_join a
 |encode=>exact wm Bq PySem.F.type_str_encode a
 |decode=>refine cm a λt e _=> ?_;subst e;exact⟨"bytes",FB.plainAttrs_bytes,FB.slot_bytes_decode,FB.type_bytes_decode,ui _ _ _,λ_ e=>nomatch e⟩
 |split=>exact wm lz PySem.F.type_str_split a
 |Lg=>exact wq st c.p1 a
 |Le=>exact wq st c.p3 a
 |Lf=>exact wq st c.p2 a
 |m_=>refine dQ (a) λt b=> ?_;obtain rfl:=b;exact⟨"int",PySem.F.plainAttrs_int,PySem.F.slot_int_bit_length,PySem.F.type_int_bit_length,GH _ _ _,λ_ e=>nomatch e⟩
 |count=>exact F4 Br PySem.F.type_list_count a
def YE{h}{x}{vs}{P:aj aA->Prop}(r:ba W g h [x] vs)(k:∀v,bf W g h x v->P [v]):P vs:=by refine cm (Th r) λv e a=> ?_;exact rP e <| k v a
def r2K{h}{x y}{vs}{P:aj aA->Prop}(r:ba W g h [x,y] vs)(k:∀v w,bf W g h x v->bf W g h y w->P [v,w]):P vs:=by refine jj (YC r) λv w e b a=> ?_;exact rP e <| k v w b a
def WN{h}{l}{v}{P:aA->Prop}(r:bf W g h (.sJ l) v)(k:∀t,(∀c∈l,c<256)->P (bV l t)):P v:=by refine cm r λt e a=> ?_;exact rP e <| k t a
def MH(B:wI W){m:OA}{o r:PV}{as:aj PV}{s:aw}{g:aX->Prop}{d:aA}{vs:aj aA}{n:Y}{A:cZ}{Q:aA->aw->Prop}{E:aA->aw->Prop}(e:MI m o as r) (y:Rm n A) (st:St W s) (D:Av g s) (i:bf W g s.heap o d) (j:ba W g s.heap as vs) (h:∀q k,Nx W s k->bf W g k.heap r q->Q q k):aL (aQ W.prog W.w) A (call (.builtin<|mid m o)<|d::vs) Q E s:=by
 induction e using MI.casesOn with
 |join H l e b=>exact YE (P:=λvs=>aL _ _ (call _<|d::vs) _ _ _) j λv c=>MG y st e b i c λq k z r _=>h q k z r
 |encode l b2 b3=>exact YE (P:=λvs=>aL _ _ (call _<|d::vs) _ _ _) j λv c=>bf.yn (P:=λd=>aL _ _ (call _ [d,v]) _ _ _) i λt=>bf.yn (P:=λv=>aL _ _ (call _ [_,v]) _ _ _) c λu=>JH st (aD b3) b2 h
 |decode l b2 b3 I=>exact YE (P:=λvs=>aL _ _ (call _<|d::vs) _ _ _) j λv c=>WN (P:=λd=>aL _ _ (call _ [d,v]) _ _ _) i λt _=>bf.yn (P:=λv=>aL _ _ (call _ [_,v]) _ _ _) c λu=>JI st (aD b3) b2 I h
 |split l b=>exact YE (P:=λvs=>aL _ _ (call _<|d::vs) _ _ _) j λv c=>bf.yn (P:=λd=>aL _ _ (call _ [d,v]) _ _ _) i λt=>bf.yn (P:=λv=>aL _ _ (call _ [_,v]) _ _ _) c λu=>Lu st D (aD b) h
 |Lg l b=>subst i;exact r2K (P:=λvs=>aL _ _ (call _<|_::vs) _ _ _) j λv w c f=>bf.yn (P:=λv=>aL _ _ (call _ [_,v,w]) _ _ _) c λt=>bf.yn (P:=λw=>aL _ _ (call _ [_,_,w]) _ _ _) f λu=>Lg B y.handled st b h
 |Le l b=>subst i;exact r2K (P:=λvs=>aL _ _ (call _<|_::vs) _ _ _) j λv w c f=>bf.yn (P:=λv=>aL _ _ (call _ [_,v,w]) _ _ _) c λt=>bf.yn (P:=λw=>aL _ _ (call _ [_,_,w]) _ _ _) f λu=>Le B y.handled st b h
 |Lf l b=>subst i;exact r2K (P:=λvs=>aL _ _ (call _<|_::vs) _ _ _) j λv w c f=>WN (P:=λv=>aL _ _ (call _ [_,v,w]) _ _ _) c λt _=>WN (P:=λw=>aL _ _ (call _ [_,_,w]) _ _ _) f λu L=>Lf B y.handled st b L h
 |m_ a=>exact(YD j)▸FE y st i λq k z r _=>h q k z r
 |count H l x e=>exact YE (P:=λvs=>aL _ _ (call _<|d::vs) _ _ _) j λv c=>Jf y st e i c λq k z r _=>h q k z r
def VH(c:wI W):vn W:=⟨λe st a=>Je c (DA e) st a,λd st f e a i h=>MH c (DA e) d st f a i h,λ{s g l o n A Q E t u} d st j k m b h=>Fj st j k m b h⟩
end
end
section
open PySem.Builtin.Re
noncomputable def Yi(K:uj)(c:aX)(code:eI Y):aB:=(K.lookup c).any λo=>isT "tuple" o.cls&&(o.dict.isNone&&(ZV o.data).any λa=>decide ((a.map reRawOf).map (·.toNat)=code))
noncomputable def M6(i:Z)(v:aA):aB:=match v with
 | .int j t=>decide (j=i)&&aF t 0
 |_=>af
def HI(h:M6 i v=ah):v= .int i 0:=by
 induction v using lB with
 |int j t=>exact rP (aq (n2 h).1)<|rP (aJ (n2 h).2) J
 |_=>exact ff h
noncomputable def ZD(c:aX)(a:Y)(l:aj aA):aB:=match l with
 |[]=>af
 |p::l=>Qq af (l.take 2) λd g=>M6 0 g&&Qq af ((l.drop 2).take 2) λe n2=>Qq af (l.drop 4) λb k=>(KV b).any (aF c)&&M6 a k
def Q9(h:ZD c f l=ah):∃p i j n2,l=[p,i,.int 0 0,j,n2,.ref c,.int f 0]:=by
 induction l using aE with
 |nil=>exact ff h
 |cons p l=>
  have n:∀a b d:aj aA,(Qq af a λi g=>M6 0 g&&Qq af b λj n2=>Qq af d λo k=>(KV o).any (aF c)&&M6 f k)=ah->∃i j n2,a=[i,.int 0 0]/\b=[j,n2]/\d=[.ref c,.int f 0]:=by intro a b d h;refine Mk h λi g h=> ?_;have q:=n2 h;refine Mk q.2 λj m h=>Mk h λo k h=> ?_;have r:=n2 h;refine cm (kD r.1) λc2 e s=> ?_;exact rP (HI q.1) <| rP (HI r.2) <| rP (By e) <| rP (aJ s) <| ⟨i,j,m,J,J,J⟩
  refine CY (n _ _ _ h) λi j m t u v=> ?_;refine⟨p,i,j,m,az (p:: ·) ?_⟩;have w:(l.drop 2).drop 2=l.drop 4:=lR ..;exact rS (GV 2 l) <| rS (GV 2<|l.drop 2) <| rP w <| rP t <| rP u <| rP v J
noncomputable def YP(K:uj)(a c:aX)(code:eI Y)(b:Y):aB:=(K.lookup a).any λo=>isT "re.Pattern" o.cls&&(o.dict.isNone&&(o.slots.isEmpty&&((Ia o.data).any (ZD c b)&&Yi K c code)))
def Fm{W:Wd}{a c:aX}{code:eI Y}{b:Y}(h:YP W.K a c code b=ah):oS W.h₀ a code b:=by refine cm (kD h) λo q h=> ?_;have f:=n2 h;have i:=n2 f.2;have j:=n2 i.2;have k:=n2 j.2;refine cm (kD k.1) λl e r=> ?_;refine abq (Q9 r) λp A B s t=> ?_;refine cm (kD k.2) λu v g=> ?_;have m:=n2 g;have w:=n2 m.2;refine cm (kD w.2) λd x y=> ?_;refine dQ (RA x) λn z=> ?_;exact⟨W.X _ _ q,M4 f.1,dF.mp i.1,Array.isEmpty_iff.mp j.1,by exact rP (Gg e)<|rP t J,⟨u,W.X _ _ v,M4 m.1,n,z⟩,aq y⟩
end
noncomputable def YM:aj pJ->Y->pJ
 |[],_=>⟨0,0,0,0⟩
 |x::_,0=>x
 |_::r,n+1=>YM r n
namespace L2
def gq:Y->pJ:=YM [⟨164,4,164,7⟩,⟨164,10,164,11⟩,⟨164,4,164,11⟩,⟨165,4,165,10⟩,⟨165,13,165,18⟩,⟨165,4,165,18⟩,⟨166,8,166,11⟩,⟨166,13,166,15⟩,⟨166,8,166,15⟩,⟨166,19,166,28⟩,
 ⟨166,29,166,33⟩,⟨166,19,166,34⟩,⟨167,11,167,17⟩,⟨168,19,168,22⟩,⟨168,24,168,28⟩,⟨168,31,168,33⟩,⟨168,24,168,33⟩,⟨168,18,168,34⟩,⟨168,12,168,34⟩,⟨168,12,168,34⟩,
 ⟨169,12,169,18⟩,⟨169,21,169,26⟩,⟨169,12,169,26⟩,⟨170,13,170,15⟩,⟨170,19,170,23⟩,⟨170,13,170,23⟩,⟨171,12,171,18⟩,⟨171,21,171,25⟩,⟨171,12,171,25⟩,⟨0,0,0,0⟩,
 ⟨174,7,174,13⟩,⟨175,15,175,18⟩,⟨175,20,175,24⟩,⟨175,14,175,25⟩,⟨175,8,175,25⟩,⟨175,8,175,25⟩,⟨174,4,175,25⟩,⟨173,19,173,22⟩,⟨173,24,173,26⟩,⟨173,18,173,27⟩,
 ⟨173,12,173,27⟩,⟨173,12,173,27⟩,⟨170,8,173,27⟩,⟨167,8,173,27⟩,⟨166,4,173,27⟩]
def gn(e:W.K=K Q):AB<|O_ W N.ea:=Zy (ar:=⟨"addr",ag,⟨163,24,163,28⟩⟩) (p:="pos") (e:="escape") (c:="ch") (q:=gq) (κ:=λ_=>0) (by refine rP e ?_;kernel_rfl) (by refine rP e ?_;kernel_rfl) (by refine rP e ?_;kernel_rfl) (by refine rP e ?_;kernel_rfl) (by refine rP e ?_;kernel_rfl)
def esc(e:W.K=K Q):kU W N.ea:=by obtain⟨I⟩:=gn e;exact @Wq W N.ea I
def odd(e:W.K=K Q)(a:nH W N fa):zA W N fa:=by obtain⟨I⟩:=gn e;exact Vv I a
def FF(e:W.K=K Q)(a:W.pa=Vn 141 146 151):vn W:=VH ⟨by refine rP a ?_;exact Fm (c:=140) (by refine rP e ?_;kernel_rfl),by refine rP a ?_;exact Fm (c:=145) (by refine rP e ?_;kernel_rfl),by exact rP a <| Fm (c:=150) (by refine rP e ?_;kernel_rfl)⟩
end L2
section
variable {P:Y->au Fn} {k:Kn} {n:Y} {ow:aj Y} {d f e:Env} {c t:C} {v:PV} {r o:au Out}
def bE{a b:Type}{o:au a}{v:a}{F:a->au b}{r:au b}(h:o=U v)(g:F v=r):o.bind F=r:=rP h g
def mT{a:Type}{b}{x y r:a}:b=ah->x=r->(match b with|true=>x|false=>y)=r:=λh g=>by subst h;exact g
def bB{a:Type}{o:au PV}{q:aB}{F:aB->au a}{r:au a}(h:o.bind truth=U q)(b:F q=r):o.bind (λv=>(truth v).bind F)=r:=rS (Kd ..) <| rP (h ..) b
def dR{s}{l}(h:sx k ow s d=U (e,ag))(a:kE k ow l e=o):kE k ow (s::l) d=o:=bE h a
def Run(k:Kn)(ow:aj Y)(l:aj S)(d:Env)(v:PV):Prop:=∃e,kE k ow l d=U (e,U v)
def fg{s}{l}(h:sx k ow s d=U (e,ag))(a:Run k ow l e v):Run k ow (s::l) d v:=a.elim λb a=>⟨b,dR h a⟩
def Hj{s}{l}(h:∃e,sx k ow s d=U (e,U v)):Run k ow (s::l) d v:=h.elim λe h=>⟨e,bE h J⟩
def kR{i}(h:k.ex (hide ow d) c=U v)(a:yE ow (.v i) v=ah):sx k ow (.asg af (.v i) c) d=U (d.set i<|U v,ag):=bE h<|mT a J
def kB{a b:aj S}(h:(k.ex d t).bind truth=U ah)(g:kE k ow a d=r):sx k ow (.A7 t a b) d=r:=bB h g
def iy{a b:aj S}(h:(k.ex d t).bind truth=U af)(g:kE k ow b d=r):sx k ow (.A7 t a b) d=r:=bB h g
def Yx(h:k.ex d c=U v):sx k ow (.ret c) d=U (d,U v):=bE h J
def rH{a b}{l}(h:(k.ex d t).bind truth=U ah)(g:Run k ow a d v):Run k ow (.A7 t a b::l) d v:=Hj<|g.elim λe q=>⟨e,kB h q⟩
def tU{a b}{l}(h:(k.ex d t).bind truth=U af)(g:Run k ow b d v):Run k ow (.A7 t a b::l) d v:=Hj<|g.elim λe q=>⟨e,iy h q⟩
def mQ{l}(h:k.ex d c=U v):Run k ow (.ret c::l) d v:=Hj ⟨d,Yx h⟩
def kb{g nv np}{body}{as}(b:P g=U (.code nv np ow body))(h:as.length=np)(a:Run (kn P n) ow body (as.map U++bJ (nv-np) ag) v):(kn P<|n+1).ca g as=U v:=by obtain⟨e,a⟩:=a;show wF P n (kn P n) g as=U v;unfold wF;refine rP b ?_;simp only[qb,h,kw,a]
end
section
open PySem.Float64
def vW(h:k.ex (hide ow E) c=U v)(b:yE ow u v=ah)(d:gH k u v E=U a):sx k ow (.asg af u c) E=U (a,ag):=bE h<|mT b<|bE d J
def G1(h:((kn P m).ex E t).bind truth=U ah)(c:(kn P m).ex E a=U r):(kn P<|m+1).ex E (.ite t a b)=U r:=bB h c
def bC(c:(kn P m).ex E a=U x)(d:(kn P m).ex E b=U y)(h:binop e x y=U r):(kn P<|m+1).ex E (.bin e a b)=U r:=bE c<|bE d h
def Fi(x:cR):Prop:=∃a m e,kJ x= .fin a m e
def KU(d:j<2^53)(e:52<=k):∃t,V t=j*2^k:=by
 by_cases c:j=0
 ·exact⟨0,by rw[c,V_zero,oD]⟩
 ·have a:=(Nat.log2_eq_iff c).mp J;have b:=(Nat.pow_lt_pow_iff_right (by decide:1<2)).mp<|bi a.1 d;have f:2^(52-j.log2)*2^j.log2=2^52:=by rw[<-cW];congr 1;exact cQ 0xb8ca9ba0351f9121341f90a341f910a3 J b
  have g:2^(52-j.log2)*2^(j.log2+1)=2^53:=by rw[<-cW];congr 1;exact cQ 0xb8ca9ba0351f9121341f90a351f91b0a3 J b
  refine⟨(k-52+j.log2)*2^52+j*2^(52-j.log2),?_⟩;rw[V_at,fE,<-cW]
  ·congr 2;exact gr 0x9e99bca8c9bd9bc88c9ed0351f9223341f91341f931a2341f90a321a0a3 J J e b
  ·exact rS (g ..) <| rP (bS j ..) <| cA _<|bF a.2
  ·exact .inl<|rS (f ..) <| rP (bS j ..) <| cA _ a.1
def vc:OW a b<=d<->a<=b+d/\b<=a+d:=by
 delta OW
 exact⟨λh=>uS 0x78cab890243a1014a103a20a1121a018 (by rfl) (by rfl) h,
  λh=>uS 0x189c88c9bd9bc8dbc8a023a4124a31341a430a210a1 J J h.1 h.2⟩
def yv:OW b a<=d<->wS s a-wS s b<=(d:Z)/\wS s b-wS s a<=(d:Z):=by
 refine vc.trans ?_;cases s with
 |false=>show _<->(a:Z)-(b:Z)<=(d:Z)/\(b:Z)-(a:Z)<=(d:Z);exact⟨λh=>⟨d9 2310711736228 h.2,d9 2310711736228 h.1⟩,λh=>⟨d9 2677815777793 h.2,d9 2677815777793 h.1⟩⟩
 |true=>show _<->-(a:Z)- -(b:Z)<=(d:Z)/\-(b:Z)- -(a:Z)<=(d:Z);exact⟨λh=>⟨d9 574018738158500 h.1,d9 574018738158500 h.2⟩,λh=>⟨d9 677023114729985 h.1,d9 677023114729985 h.2⟩⟩
def IP(h:OW x (D*y)<=D*k):wS a y*D-wS a x<=D*k/\wS a x-wS a y*D<=D*k:=by have b:((D*k:Y):Z)=(D:Z)*k:=aS _ _;exact rS b <| rP (show wS a y*(D:Z)=wS a (D*y) by rw[bS,X0]) <| yv.mp h
theorem yz{neg}{W D}(h:Right r neg W D)(c:0<D)(d:W<D*2^1085):Fi r/\val r*D-wS neg W<=D*(2^1032:Y)/\wS neg W-val r*D<=D*(2^1032:Y):=by
 obtain⟨t,rfl,f,g,i⟩:=h
 have a:t<infMag:=by
  refine pF f λe=> ?_;have j:=g.mp e;have l:D*2^1086<=D*((2^54-1)*2^2045):=cA _ (by decide+kernel);have n:D*2^1086=2*(D*2^1085):=by exact rP (show(2:Y)^1086=2*2^1085 from by rw[bS,<-mi]) <| xE ..
  exact gr 0x4a3012c3323102c211020 d j l n
 have o:W/(D*2^1032)<2^53:=(cU<|gC c<|bL _).mpr<|rP (bS ..) <| rP (fE ..) <| rS (cW ..) d;obtain⟨s,b⟩:=KU o (k:=1032)<|dcd J
 have u:OW W (D*V t)<=D*2^1032:=by refine ab (i a s).1 ?_;refine rP (b ..)<|rP (xE ..) ?_;have e:=eV W<|D*2^1032;exact rP (bS (W/(D*2^1032)) ..) <| vc.mpr ⟨ab (cD e.symm)<|c_ (bF<|bP W<|gC c<|bL 1032) _,ab (ab (bq ..)<|cD e) (bq ..)⟩
 refine rP (val_pack neg a ..) ?_;obtain⟨m,e,q,_⟩:=decode_pack neg a;exact⟨⟨_,m,e,q⟩,IP u⟩
noncomputable def Uu:Y:=2^1032
noncomputable abbrev Tt:Y:=2^42
def qN:0<Uu:=bL 1032
def TX:2^1085=2^53*Uu:=(cW 2 53 1032).symm▸J
def H7:2^1074=Tt*Uu:=cW 2 42 1032
structure Ax(x:cR)(q:Z)(n:Y):Prop where
 fi:Fi x
 er:(val x-q*Uu).natAbs<=n*Uu
def lY{a b c:Z}{x y:Y}(d:a.natAbs<=x)(f:b.natAbs<=y)(e:c=a+b):c.natAbs<=x+y:=rP e <| ab (xH a b)<|dL d f
def VE{a b c:Z}{x y:Y}(d:a.natAbs<=x)(f:b.natAbs<=y)(e:c=a-b):c.natAbs<=x+y:=lY d (rP (CL b) <| f)<|e.trans pH
def qA{a b:Z}{x y:Y}(c:a.natAbs<=x)(d:b.natAbs<=y):(a*b).natAbs<=x*y:=rP (iu a b) <| eS c d
def sE{a:Z}{x k:Y}(b:a.natAbs<=x):(a*(k:Z)).natAbs<=x*k:=qA b<|aZ _
def Zb{a:Z}{b:Y}(c:a<=b)(d: -a<=b):a.natAbs<=b:=v_ 0xba8990f0b4f0400b101 J c d
theorem near{S:Z}{neg:aB}{W D:Y}(h:Right r neg W D)(e:wS neg W=S)(b:0<D)(a:S.natAbs<D*2^1085):Fi r/\(val r*D-S).natAbs<=D*Uu:=by subst e;rw[sgn_natAbs]at a;have q:=yz h b a;delta Uu;generalize(2:Y)^1032=u at*;exact⟨q.1,Zb q.2.1<|rP (abm ..) q.2.2⟩
def val_zero(b):val (eD b)=0/\Fi (eD b):=by
 have h:(0:Y)<infMag:=by decide
 have v:=val_pack b h;obtain⟨m,e,q,_⟩:=decode_pack b h;rw[V_zero]at v;exact⟨v.trans<|by cases b<;>rfl,_,m,e,q⟩
def C'(S):wS (decide (S<0)) S.natAbs=S:=by
 delta wS;by_cases q:S<0
 ·exact rP (bD q) <| rP (bM J) <| f7 0x79c42889050500b07b6 J q
 ·exact rP (bz q) <| rP (bA nofun) <| f7 0x79c4aba0505700b076 J q
def Ax.wide(h:Ax x q n)(k:n<=m):Ax x q m:=⟨h.fi,ab h.er<|cB _ k⟩
def Ax.to{p q:Z}(h:Ax x p n)(k:(p-q).natAbs<=m):Ax x q<|n+m:=⟨h.fi,rP (d4 n m _) <| lY h.er (sE k)<|rP (fD ..) <| oz [] [_,_,_] 1280448204966⟩
def Ax.neg(h:Ax x q n):Ax (neg x) (-q) n:=by obtain⟨b,k,f,a⟩:=h.fi;refine⟨⟨_,_,_,neg_decode a⟩,?_⟩;exact rP (neg_val a ..) <| rP (kh ..) <| rP (show -val x- -(q*Uu)= -(val x-q*Uu)from sS 71590153126) <| rP (CL ..) h.er
def Ax.big{p:Z}(h:Ax x p n)(k:p.natAbs<=P):(val x).natAbs<=(P+n)*Uu:=rP (d4 P n _) <| lY (sE k) h.er<|sS 17438982
def Ax.add{p q:Z}(g:Ax x p n)(j:Ax y q m)(o:(p+q).natAbs+(n+m)<2^53):Ax (ox x y) (p+q)<|n+m+1:=by
 obtain⟨a,i,e,r⟩:=g.fi;obtain⟨b,k,f,s⟩:=j.fi;have t:(val x+val y-(p+q)*Uu).natAbs<=(n+m)*Uu:=rP (d4 n m _) <| lY g.er j.er<|rP (gD ..) <| oz [] [_,_,_,_] 0x31a20a9329109a6;have h:=add_right r s;generalize val x+val y=S at*;have l:(n+m+1)*Uu=Uu+(n+m)*Uu:=(ku _ _).trans (dO ..);by_cases d:S=0
 ·refine rP (h.1 d) ?_;refine⟨(val_zero _).2,?_⟩;exact rP ((val_zero _).1 ..) <| rP (l ..) <| rS (d ..) <| ab t (fZ ..)
 ·have c:=near (h.2 d) (C' S) zU (by exact rP (TX ..) <| rP (d8 ..) <| bi (d4 ..▸lY (sE<|aZ (p+q).natAbs) t (sS 17438982))<|fq o qN)
  rw[show((1:Y):Z)=1 from rfl,ki,d8]at c
  exact⟨c.1,rP l <| lY c.2 t<|oz [] [_,_,_] 1280448204966⟩
def sub_neg:sd x y=ox x (Float64.neg y):=by unfold sd;rfl
def Ax.sub{p q}(a:Ax x p n)(b:Ax y q m)(c:(p-q).natAbs+(n+m)<2^53):Ax (sub x y) (p-q)<|n+m+1:=by rw[pH]at*;exact sub_neg▸Ax.add a b.neg c
def LB(a b)(m k):wS (a !=b) (m*k)=wS a m*wS b k:=by delta wS;cases a<;>cases b<;>simp[kh,abn]
def BF(h:kJ x= .fin a m e):wS a (val x).natAbs=val x:=by exact rP (Xs h ..)<|rP (sgn_natAbs ..) J
def WJ{a b k}(c:0<k)(h:a*k<=b*k):a<=b:=Nat.le_of_mul_le_mul_right h c
theorem Zg(X a p q u:Z):X*a-p*q*(u*u)=p*u*(a-q*u)+(X-p*u)*a:=by grind
theorem VG(R S p q r t u:Z):(R-r*u)*(t*u)=(R*(t*u)-S)+((S-p*q*(u*u))+(p*q-r*t)*(u*u)):=by grind
def Ax.mul{p q r:Z}(h:Ax x p n)(l:Ax y q m)(o:p.natAbs<=P)(v:q.natAbs<=Q)(w:(p*q-r*Tt).natAbs<=e*Tt)(z:(P+n)*(Q+m)<2^95)(A:P*m+n*(Q+m)+(e+1)*Tt<=k*Tt):Ax (CC x y) r k:=by
 obtain⟨a,i,f,s⟩:=h.fi;obtain⟨b,j,g,t⟩:=l.fi;have B:=h.big o;have u:=l.big v;have D:=gC qN qN
 have c:=near (mul_right s t) (by rw[LB,BF s,BF t]) (bL _) (by refine bi (qA B u) ?_;rw[H7,TX,f_,f_ Tt Uu,show Tt*2^53=2^95 from rfl];exact fq z D)
 rw[H7,aS]at c;have d:=lY (qA (sE o) l.er) (qA h.er u)<|Zg (val x) (val y) p q Uu;rw[f_ P,f_ n,<-d4]at d;have f:=lY c.2 (lY d (qA (y:=Uu*Uu) w (by rw[<-aS];exact aZ _)) J)<|VG (val<|CC x y) (val x*val y) p q r Tt Uu;refine⟨c.1,WJ (gC (bL 42) qN) ?_⟩;rw[<-aS,iu,b_]at f;refine ab f ?_;rw[fE Tt,<-d4,<-d4,f_ k,];refine cB _<|ab (cD ?_) A;rw[ku];exact gr 0x3a21aa321aa0a3
def Qg{q}(a:Ax y q m)(h:(m:Z)<q):(q-m)*Uu<=val y/\0<val y:=by have e:=a.er;have:0<(q-m)*Uu:=Int.mul_pos (f7 123144789 h)<|eM.mpr qN;rw[fD]at*;have b:((m*Uu:Y):Z)=(m:Z)*Uu:=aS ..;exact oz [_,_] [_,_,_] 0x1d88a9901f610a5510102a0b255210a48 (by rfl) e this b
theorem ZT(R X a p q r t u:Z):(R-r*u)*a=(R*a-X*(t*u))+(((p*t-r*q)*(u*u)+(X-p*u)*(t*u))-r*u*(a-q*u)):=by grind
theorem Ax.div{p q r:Z}(o:Ax x p n)(s:Ax y q m)(u:(m:Z)<q)(D:p.natAbs<=P)(E:r.natAbs<=ρ)(H:(p*Tt-r*q).natAbs<=e)(I:P+n<2048*(q-m).toNat)(L:e+n*Tt+ρ*m<=k*(q-m).toNat):Ax (CD x y) r (k+1)/\oj y=af:=by
 obtain⟨a,i,f,w⟩:=o.fi;obtain⟨b,j,g,l⟩:=s.fi;have M:=o.big D;have d:=Qg s u;have h:val y=((val y).natAbs:Z):=f7 0x74abac9005500b706 J d.2;have O:(((q-m).toNat:Y):Z)=q-m:=v_ 0x198aca00f5f0a0cf0a76 J u
 have A:(q-m).toNat*Uu<=(val y).natAbs:=by
  have:(((q-m).toNat*Uu:Y):Z)=(q-m)*Uu:=by rw[aS,O]
  exact BU 8173692928257 d.1 h this
 generalize(q-m).toNat=G at*
 have B:j≠0:=λz=>by have:=val_natAbs l;rw[z,oD]at this;exact f7 481959478608 d.2 h this
 have t:b=af:=by
  have v:=Xs l;cases b
  ·rfl
  ·have v:val y= -((_:Y):Z):=v;exact(f7 89632864 v d.2).elim
 have c:=near (S:=val x*(2^1074:Y)) (div_right w l B) (by rw[t,X0,UA,BF w]) (f7 30165782642 d.2 h) (by rw[iu,b_,show(2:Y)^1085=2048*2^1074 from by decide+kernel,<-fE];refine fq (bi M<|aV (fq I qN) ?_)<|bL _;exact rP (fE ..) <| rP (bS (val y).natAbs ..) <| cA _ A)
 rw[<-h,H7,aS]at c;have f:=lY c.2 (VE (lY (qA (y:=Uu*Uu) H<|by exact rS (aS ..) <| aZ _) (qA (y:=Tt*Uu) o.er<|by exact rS (aS ..) <| aZ _) J) (qA (sE E) s.er) J)<|ZT (val<|CD x y) (val x) (val y) p q r Tt Uu;have g:(e+n*Tt+ρ*m)*(Uu*Uu)<=k*Uu*(val y).natAbs:=ab (cB _ L)<|ab (cD<|f_ k G Uu Uu)<|cA _ A;rw[iu,f_ n,f_ ρ,<-d4,<-d4]at f;refine⟨⟨c.1,WJ (k:=(val y).natAbs) (f7 30165782642 d.2 h)<|ab f<|ab (c_ g _)<|cD ?_⟩,?_⟩
 ·rw[ku,d4,dO,bS Uu]
 ·delta oj;refine rP (l ..) ?_;cases j with
  |zero=>exact(B J).elim
  |succ _=>rfl
theorem Ax.ZB{a:Z}{b:Y}{q:Z}(d:0<b)(g:a.natAbs<2048*b)(i:(a*Tt-q*b).natAbs<=e*b)(h:Right r (decide (a<0)) (a.natAbs*2^1074) b):Ax r q<|e+1:=by
 have c:=near (S:=a*(2^1074:Y)) h (by rw[X0,C']) d (by rw[iu,b_,show(2:Y)^1085=2048*2^1074 from by decide+kernel,<-fE,bS b];exact fq g<|bL _)
 rw[H7,aS]at c;have f:=lY c.2 (sE (k:=Uu) i) (show(val r-q*Uu)*b=_ by grind);rw[iu,b_,Nat.mul_right_comm,bS b,<-d4]at f;exact⟨c.1,ab (WJ d f)<|cD<|rP (ku ..)<|rP (dO ..) J⟩
def WY{c}(b:isFinite x=ah)(h:(val x-c*Uu).natAbs<=Uu):Ax x c 1:=by
 refine⟨?_,rS (d8 Uu) <| h⟩;unfold isFinite at b;cases e:kJ x with
 |fin a m d=>exact⟨a,m,d,e⟩
 |nan=>rw[e]at b;exact ff b
 |inf s=>rw[e]at b;exact ff b
noncomputable def dv(a b:Z):cR:=ac3 (decide (a<0)!=decide (b<0)) a.natAbs b.natAbs
def NU{a b q:Z}(c:0<b)(d:a.natAbs<2048*b.natAbs)(f:(a*Tt-q*b).natAbs<=e*b.natAbs):Ax (dv a b) q<|e+1:=by have e:b=((b.natAbs:Y):Z):=f7 0x74abac9005500b706 J c;have n:decide (b<0)=af:=bz<|lE 5591127 c;delta dv;refine rP (n ..)<|rP (UA ..) ?_;generalize b.natAbs=k at*;subst e;exact Ax.ZB (eM.mp c) d f<|ofFrac_right (eM.mp c) J<|eM.mp c
def Op{i:Z}(h:i.natAbs<2048):Ax (pz i) (i*Tt) 1:=Ax.ZB (e:=0) (dcd J) h (rP (show((1:Y):Z)=1 from rfl) <| rP (ki ..) <| rP (aaL ..) <| aZ 0)<|ofInt_right i
noncomputable def Uz:Z:=2^1074
theorem Bp:Uz=Tt*Uu:=by decide+kernel
theorem W7:0<Uz:=by decide+kernel
section
variable {n m:Y}
def aab{p q}(d:Ax x p n)(e:Ax y q m)(h:p+n<q-m):val x<val y:=by have a:=d.er;have b:=e.er;have c:=Bw h<|eM.mpr qN;have f:((n*Uu:Y):Z)=(n:Z)*Uu:=aS ..;have g:((m*Uu:Y):Z)=(m:Z)*Uu:=aS ..;rw[gD,fD]at c;exact oz [_,_,_,_] [_,_,_,_,_,_] 0x19fc05e3664e2665e3a4e29531120131a1b20a0b105 (by rfl) (by rfl) a b c f g
def Gi(a:Fi x)(b:Fi y)(h:val x<val y):f8 x y=U .lt:=by obtain⟨_,_,_,a⟩:=a;obtain⟨_,_,_,b⟩:=b;exact rP (Kz a b)<|rP (xJ.mpr h) J
def cmp_gt(a:Fi x)(b:Fi y)(h:val y<val x):f8 x y=U .gt:=by obtain⟨_,_,_,a⟩:=a;obtain⟨_,_,_,b⟩:=b;exact rP (Kz a b)<|rP (xK.mpr h) J
def cmp_self(a:Fi x):f8 x x=U .eq:=by obtain⟨_,_,_,a⟩:=a;exact rP (Kz a a)<|rP (qf.mpr J) J
def Q8(a b):fmax a b=a\/fmax a b=b:=by
 delta fmax;cases VY (f8 b a)
 ·exact .inl J
 ·exact .inr J
def Q7(a b):fmin a b=a\/fmin a b=b:=by
 delta fmin;cases MQ (f8 b a)
 ·exact .inl J
 ·exact .inr J
end
theorem JC(m)(d: -1074<=e):Ay af m e*Uz<=(m*2^(e+1074).toNat:Y)/\((m*2^(e+1074).toNat:Y):Z)<(Ay af m e+1)*Uz/\0<=Ay af m e:=by
 have f:Uz=((2^1074:Y):Z):=by decide+kernel
 have g:wS af m=(m:Z):=J;delta Ay;refine rP g<|rP f ?_;by_cases q:e>=0
 ·rw[bM q,show(2:Z)^e.toNat=((2^e.toNat:Y):Z)from by simp,<-aS,show(e+1074).toNat=e.toNat+1074 from v_ 0x989931ca39bf9ca9ba005404322f8b401c4322f8090c4322f91a03 J J d q,cW,<-fE,<-aS];have c:=bL 1074;generalize(2:Y)^1074=u at*;generalize m*2^e.toNat=k;have h:((k:Z)+1)*(u:Z)=((k*u+u:Y):Z):=by rw[gD,fb,d5,aS]
  rw[h];exact d9 0x1f90172265410a67587748 c
 ·refine rP (bA q ..)<|rP (show(2:Z)^(-e).toNat=((2^(-e).toNat:Y):Z)from by simp) ?_;have i:(2:Y)^1074=2^(-e).toNat*2^(e+1074).toNat:=by refine rS (cW ..) ?_;congr 1;exact v_ 0x9c8a9998c9fb90054704322f8b44322f8091c0b0c10a4322f93 J J d q
  refine rP (i ..) ?_;have c:=bL (-e).toNat
  have j:=bL (e+1074).toNat
  generalize(2:Y)^(-e).toNat=a at*;generalize(2:Y)^(e+1074).toNat=b at*;refine rP (bW _ (dz.mpr<|bF c) ..)<|rS (SY ..)<|rS (aS ..)<|rP (show((m/a:Y):Z)+1=((m/a+1:Y):Z)from rfl)<|rS (aS ..)<|rS (fE ..)<|rS (fE ..) ?_;refine⟨dz.mpr<|cB _<|vt m a,eM.mpr<|fq ?_ j,aK _⟩;refine rP (d4 ..)<|rP (d8 ..) ?_;have:=eV m a;have:=bP m c;exact rP (bS ..) <| gr 0x320232031a321a02 (by assumption) this
def Cg:kJ eO= .fin af (2^52) (-52):=by kernel_rfl
def P2:wS a (W+b)-wS a b=wS a W:=by
 cases a
 ·exact cQ 2131797670
 ·exact cQ 8519890398118
theorem AO{r}{neg}{W}(h:Right r neg W 1)(b:W<=2^1074):Fi r/\∃v:Y,val r=wS neg v/\v<=2^1074/\OW W v<=2^1032:=by
 have f:=h;obtain⟨t,rfl,s,g,w⟩:=h;have i:W<1*2^1085:=bi b (by decide+kernel);have n:=yz f (dcd J) i
 have l:t<infMag:=pF s λe=>by
  have m:=g.mp e;have c:2*2^1074<1*((2^54-1)*2^2045):=by decide+kernel
  generalize(2^54-1)*2^2045=y at m c;generalize(2:Y)^1074=u at b c;exact fM.mpr (cA 2 b)<|aV c m
 have o:=val_pack neg l;refine⟨n.1,V t,o,?_,?_⟩
 ·obtain⟨x,e⟩:=KU (j:=1) (k:=1074) (dcd J)<|dcd J;have d:=(w l x).1;rw[e,d8,d8,d8]at d;clear e i n f g;generalize(2:Y)^1074=u at b d⊢;have q:=vc.mp<|ab d<|vc.mpr ⟨ab b (bq ..),cD (kO b).symm⟩;exact rS (kO b) <| q.2
 ·have a:=n.2;rw[o]at a;generalize(2:Y)^1032=u at*;rw[show((1:Y):Z)=1 from rfl,ki,fb]at a;exact yv.mpr a
def fmod_one(w:Fi x):Fi (Xt x eO)/\∃(k:Z) (v:Y) (s:aB),val (Xt x eO)=wS s v/\v<=2^1074/\(s=ah->val x<=0)/\(s=af->0<=val x)/\val x-k*Uz-wS s v<=(2^1032:Y)/\wS s v-(val x-k*Uz)<=(2^1032:Y):=by
 obtain⟨a,m,e,c⟩:=w;have i:=decode_ge c
 have j:Xt x eO=ofBin a (m*2^(e-min e (-52)).toNat%(2^52*2^(-52-min e (-52)).toNat)) (min e<|-52):=by unfold Xt;exact rP c <| rP Cg J
 obtain⟨g,l,y,z,n⟩:∃g,g=min e (-52)/\g<=e/\g<=-52/\-1074<=g:=⟨_,J,Int.min_le_left ..,SZ ..,Int.le_min.mpr ⟨i,by decide⟩⟩;rw[<-l]at j;clear l i;have b:=Xs c;have o:0<=g+1074:=Km n 1074;have d:m*2^(e+1074).toNat=m*2^(e-g).toNat*2^(g+1074).toNat:=by exact rP (fE ..)<|rS (cW ..)<|rS (X3 (XA.mpr y) o ..)<|rP (show e-g+(g+1074)=e+1074 from sS 0x4322f8094322f81910a96) J
 have r:(2:Y)^1074=2^52*2^(-52-g).toNat*2^(g+1074).toNat:=by exact rS (cW ..) <| rS (cW ..) <| rP (iQ ..) <| rS (X3 (XA.mpr z) o ..) <| rP (show -52-g+(g+1074)=1022 from lE 0x3fe2f84322f8090341f8ba96) J
 have A:=ofBin_right (neg:=a) (M:=m*2^(e-g).toNat%(2^52*2^(-52-g).toNat)) (g:=g) n;refine rP j ?_;have B:0<2^52*2^(-52-g).toNat:=gC (bL _)<|bL _;have D:Uz=((2^1074:Y):Z):=by decide+kernel
 rw[d]at b;generalize m*2^(e-g).toNat=P at*;generalize 2^52*2^(-52-g).toNat=q at*
 have E:P%q*2^(g+1074).toNat<=2^1074:=by exact rP r <| cB _<|bF<|bP _ B
 obtain⟨H,v,I,L,t⟩:=AO A E
 have f:P*2^(g+1074).toNat=P%q*2^(g+1074).toNat+P/q*2^1074:=by exact rP (r ..)<|rS (fE ..)<|rS (d4 ..)<|rP (bS (P/q) ..)<|rP (Us ..) J
 rw[f]at b;generalize P%q*2^(g+1074).toNat=W at*;refine⟨H,wS a<|P/q,v,a,I,L,?_,?_,?_⟩
 ·intro h;subst h;refine rP b ?_;unfold wS;exact rP (bM J) <| gr 74928634536699572 d f
 ·intro h;subst h;refine rP b ?_;unfold wS;exact rP (bA nofun) <| gr 4683039654323796 d f
 ·refine rP b<|rP D ?_;have O:wS a (P/q)*((2^1074:Y):Z)=wS a (P/q*2^1074):=(X0 a _ _).symm;refine rP O ?_;generalize P/q*2^1074=Q;generalize(2:Y)^1032=u at*;exact rP P2 <| yv.mp (by delta OW at t⊢;refine rP (dO ..) ?_;exact t)
def Ge(x y):(divmod x y).snd=if oj (Xt x y)=ah then copysign (eD af) y else if(Float64.lt y (eD af)!=Float64.lt (Xt x y) (eD af))=ah then ox (Xt x y) y else Xt x y:=by
 unfold divmod;dsimp only;split
 ·rfl
 ·split<;>rfl
def FS(b:Fi x):oj x=decide (val x=0):=by
 obtain⟨a,m,e,h⟩:=b;have v:=Xs h;unfold oj;refine rP h ?_;cases m with
 |zero=>rw[oD]at v;refine rP v ?_;cases a<;>rfl
 |succ m=>
  refine(bz ?_).symm;have:0<(m+1)*2^(e+1074).toNat:=gC (fj m)<|bL (e+1074).toNat;refine rP v ?_;generalize(m+1)*2^(e+1074).toNat=z at*;unfold wS;cases a
  ·simp only[iq,wK];exact du 7493479 this
  ·simp only[if_true];exact du 3436093733735 this
def QE(c:Fi x):Float64.lt x (eD af)=decide (val x<0):=by
 obtain⟨a,m,e,h⟩:=c;obtain⟨b,k,f,d⟩:=(val_zero af).2;unfold Float64.lt;refine rP (Kz h d)<|rP ((val_zero _).1) ?_;rcases Int.lt_trichotomy (val x) 0 with h|h|h
 ·exact rP (xJ.mpr h) <| rP (bD h) J
 ·exact rP (qf.mpr h) <| rP (bz<|by exact lE 12969201751 h) J
 ·exact rP (xK.mpr h) <| rP (bz<|by exact lE 5591127 h) J
inductive Md(x w:cR):Prop
 |mk (fi:Fi w) (k:Z) (v:Y) (h1:val w=v) (h2:v<=2^1074) (h3:val x-k*Uz-v<=2*(2^1032:Y)) (h4:v-(val x-k*Uz)<=2*(2^1032:Y))
def MP{v w u y p:Y}(e:X-b- -(v:Z)<=(u:Z))(f: -(v:Z)-(X-b)<=(u:Z))(c:a=(w:Z))(g:y<=p+u)(h:p<=y+u)(d:y+v=w):X-b+a-(p:Z)<=2*(u:Z)/\(p:Z)-(X-b+a)<=2*(u:Z):=⟨oz [_,_,_,_,_] [_,_,_] 0x30324a310a413626f26b10aa4f2c7210a9a4 e c g d,oz [_,_,_,_,_] [_,_,_] 0x3a0324a314a013626f10a26ba4f2c210a97a4 f c h d⟩
theorem mod_val(w:Fi x):Md x (divmod x eO).snd:=by
 refine rP (Ge ..) ?_;obtain⟨h,k,v,s,b,g,L,M,c,f⟩:=fmod_one w;have z:=FS h;have l:=QE h;have lo:Float64.lt eO (eD af)=af:=by decide+kernel
 have O:Fi eO:=⟨_,_,_,Cg⟩;have y:val eO=(2^1074:Y):=by decide+kernel
 have t:Uz=((2^1074:Y):Z):=by decide+kernel
 refine rP (z ..)<|rP (l ..)<|rP (lo ..)<|rP (Bool.false_bne ..) ?_;by_cases q:v=0
 ·subst q;have e:wS s 0=0:=by cases s<;>rfl
  rw[e]at b c f;exact rP (bM (bD b) ..) <| rP (show copysign (eD af) eO=eD af by decide+kernel) <| ⟨(val_zero af).2,k,0,(val_zero af).1,db _,(BV 0x430520710a5a47510aa472c7610aa4 c f),(BV 0x423050710a5a47510aa472c10a76a4 c f)⟩
 ·have e:val (Xt x eO)≠0:=by refine rP b λz=>q ?_;cases s with|false=>exact ji z|true=>exact ji (Int.neg_eq_zero.mp z)
  refine rP (bA (by rw[bz e];nofun) ..) ?_;cases s with
  |false=>have n:wS af v=v:=J;rw[n]at b c f;exact rP (bA (by rw[bz<|kg.mpr<|by exact rP b<|aK v];nofun) ..) <| ⟨h,k,v,b,g,(BU 0x430520f10a7a4f710aa4f2c710aa4 c f),(BU 0x423050f10a7a4f710aa4f2c10a7a4 c f)⟩
  |true=>
   have n:wS ah v= -(v:Z):=J;rw[n]at b c f;refine rP (bM (bD<|by exact f7 0x18f07b067037505 q b) ..) ?_;obtain⟨a,m,e,A⟩:=h;have o:=add_right A Cg;rw[b,y]at o;have i:val x-(k-1)*Uz=val x-k*Uz+Uz:=by exact rP (fD ..) <| oz [] [_,_,_] 581268555276454
   by_cases r:v=2^1074
   ·refine rP (o.1 (cQ 0x183201031015f7b96 g r) ..) ?_;have d:=MP c f t (bq 0 _) (db _)<|(kt v).trans r;exact⟨(val_zero _).2,k-1,0,(val_zero _).1,db _,rP i <| d.1,rP i <| d.2⟩
   ·have u:=o.2<|cQ 0x3a010375f7b967 r;rw[bz<|by exact cQ 69088033111 g]at u;obtain⟨B,D,E,H,j⟩:=AO u<|d9 0x742c90121f26b90b101 J g;have I:(-(v:Z)+((2^1074:Y):Z)).natAbs+v=2^1074:=by exact rP (show -(v:Z)+((2^1074:Y):Z)=((2^1074-v:Y):Z) by rw[vJ g,pH,sk]) (rP (b_ ..)<|rP (pC g ..) J)
    have j:=vc.mp j;have d:=MP c f t j.1 j.2 I;exact⟨B,k-1,D,E,H,rP i <| d.1,rP i <| d.2⟩
structure Mo(x:cR)(q:Z)(n:Y)(w:cR)(k:Z):Prop where
 ax:Ax w (q-k*Tt)<|n+2
 lo:0<=val w
 hi:val w<=Uz
 k1:k*Tt<=q+n+2
 k2:q-n-2-Tt<=k*Tt
theorem VJ{q}(h:Ax x q n):∃k,Mo x q n (divmod x eO).snd k:=by
 obtain⟨fi,k,v,c,b,d,e⟩:=mod_val h.fi;have j:((2^1032:Y):Z)=Uu:=J;have i:((2^1074:Y):Z)=Uz:=by decide+kernel
 have f:=h.er;have b:=dz.mpr b;rw[j]at d e;rw[i]at b;rw[<-c]at b d e;have g:((n*Uu:Y):Z)=(n:Z)*Uu:=aS ..;have l:(((n+2)*Uu:Y):Z)=(n:Z)*Uu+2*Uu:=by rw[aS,d5,gD];rfl
 have m:(q-k*Tt)*Uu=q*Uu-k*Uz:=by exact rP (Bp ..)<|rP (fD ..)<|rP (iR ..) J
 have p:=eM.mpr qN;have z:=aK v;refine⟨k,⟨fi,(oz [_,_,_,_,_] [_,_,_,_,_,_] 0x37c8a3a99bd33289c8a3a319bd33a04e1a36362c5e9f65e466421362c4e0a2a4362c24e0aa432a0b10a2b101 (by rfl) (by rfl) d e f g l m)⟩,(f7 55007062810708 c z),b,km (a:=Uu) ?_ p,km (a:=Uu) ?_ p⟩
 ·exact rP (iR ..) <| rS (Bp ..) <| rP (gD ..) <| rP (gD ..) <| oz [_,_,_,_] [_,_,_,_,_] 0x13d802654236631172c03a4ea4264e613a1b72c219904 (by rfl) c e f g z
 ·rw[iR,<-Bp,fD,fD,fD,<-Bp];exact oz [_,_,_,_,_] [_,_,_,_,_,_] 0x1af801466411236672c5e34eaa4321265e604ea1b3272c10aaa4 (by rfl) c (by assumption) d i f g
structure Tr(x:cR)(q:Z)(n:Y)(i:Z):Prop where
 e:M9 (.fw x)=U (.int i)
 i0:0<=i
 i1:q-n<(i+1)*Tt
 i2:i=0\/i*Tt<=q+n
def Ax.abX{q}(b:Ax x q n):(q-n)*Uu<=val x/\val x<=(q+n)*Uu:=by have a:=b.er;have c:((n*Uu:Y):Z)=(n:Z)*Uu:=aS ..;rw[gD,fD];exact oz [_,_] [_,_,_] 0x988d901f610102a0b10924210a48 (by rfl) a c
theorem VS{q}(j:Ax x q n)(h: -(Tt:Z)<q-n):∃i,Tr x q n i:=by
 obtain⟨s,m,e,d⟩:=j.fi;have K:=JC m<|decode_ge d;have b:=Xs d;have c:=j.abX;have p:=eM.mpr qN;have f:M9 (.fw x)=U (.int<|wR s m e):=by show(match kJ x with| .fin s m e=>U (PV.int<|wR s m e)|_=>ag)=_;exact rP (d ..) J
 have eT:((2^42:Y):Z)=4398046511104:=J;cases s with
 |false=>have b:val x=(m*2^(e+1074).toNat:Y):=b;rw[<-b,Bp,<-iR,<-iR]at K;exact⟨_,f,K.2.2,kj (jB c.1 K.2.1)<|jC p,.inr<|km (ft K.1 c.2) p⟩
 |true=>
  have b:val x= -(m*2^(e+1074).toNat:Y):=b;have z:=aK<|m*2^(e+1074).toNat;have k:q-n<=0:=km (a:=Uu) (rP (dG ..) <| BV 0x7547b16104504 c.1 b z) p
  have g:Ay af m e<1:=kj (a:=Uz) (by have:=Bw h p;rw[kh,<-Bp]at this;exact rP (fb ..) <| oz [_] [_,_,_,_] 0x21b57b36324704105 K.1 c.1 b this)<|jC W7
  have g:Ay af m e=0:=lE 433224845444358 K.2.2 g;have l:wR ah m e=0:=by show -Ay af m e=0;exact rP g J
  rw[l]at f;exact⟨_,f,lD 0,jB k<|dcd J,.inl J⟩
inductive AV where
 |fl (c d:Z) (n g:Y) (u:aB)|fm (c d:Z) (n:Y)|tr (c d:Z) (n:Y)|it (a b:Z)|bo (b:aB)|t3 (l:aB) (x y z:AV)
noncomputable def mg(c d:Z):Y:=c.natAbs+d.natAbs*63
noncomputable def Y'(c d:Z):aB:=decide (c+d<0)&&decide (c+d*63<0)
noncomputable def QH(c d:Z):Z:=if d<0 then c+d*63 else c+d
noncomputable def HM(c d:Z):Z:=if d<0 then c+d else c+d*63
noncomputable def AV.F(x:AV)(k:Z->Z->Y->Y->aB->aB):aB:=match x with| .fl c d n g u=>k c d n g u|_=>af
noncomputable def AV.M(x:AV)(k:Z->Z->Y->aB):aB:=match x with| .fm c d n=>k c d n|_=>af
noncomputable def AV.T(x:AV)(k:Z->Z->Y->aB):aB:=match x with| .tr c d n=>k c d n|_=>af
noncomputable def AV.I(x:AV)(k:Z->Z->aB):aB:=match x with| .it a b=>k a b|_=>af
noncomputable def AV.L(x:AV)(k:aB->AV->AV->AV->aB):aB:=match x with| .t3 l p q r=>k l p q r|_=>af
noncomputable def AV.B(x:AV)(k:aB->aB):aB:=match x with| .bo b=>k b|_=>af
noncomputable def opC:dU->Y
 | .Add=>1| .Sub=>2| .Mult=>3| .Div=>4| .Mod=>5| .FloorDiv=>6|_=>0
noncomputable def DO(a:dU)(k:Y):aB:=aF (opC a) k
noncomputable def adA(c d:Z)(n:Y)(a b:Z)(m:Y)(K:AV->aB):aB:=fy (mg (c+a) (d+b)+(n+m)) 9007199254740992&&K (.fl (c+a) (d+b) (n+m+1) 0 af)
noncomputable def suA(c d:Z)(n:Y)(a b:Z)(m:Y)(K:AV->aB):aB:=fy (mg (c-a) (d-b)+(n+m)) 9007199254740992&&K (.fl (c-a) (d-b) (n+m+1) 0 af)
noncomputable def muA(c d:Z)(n:Y)(a b:Z)(m:Y)(K:AV->aB):aB:=decide (d*b=0)&&(fy ((mg c d+n)*(mg a b+m)) 39614081257132168796771975168&&K (.fl (c*a/Tt) ((c*b+d*a)/Tt) ((mg c d*m+n*(mg a b+m))/Tt+66) 0 af))
noncomputable def diA(c d:Z)(n:Y)(a b:Z)(m:Y)(K:AV->aB):aB:=decide (b=0)&&(decide ((m:Z)<a)&&(fy (mg c d+n) (2048*(a-m).toNat)&&K (.fl (c*Tt/a) (d*Tt/a) ((64*a.toNat+n*Tt+mg (c*Tt/a) (d*Tt/a)*m)/(a-m).toNat+2) 0 af)))
noncomputable def arA(a:dU)(c d:Z)(n:Y)(b e:Z)(m:Y)(K:AV->aB):aB:=DO a 1&&adA c d n b e m K||(DO a 2&&suA c d n b e m K||(DO a 3&&muA c d n b e m K||DO a 4&&diA c d n b e m K))
noncomputable def UO(i k:Z)(K:Z->aB):aB:=decide (k<=i+1)&&(K i&&K k)
noncomputable def Zh(c d:Z)(n:Y)(K:AV->aB):aB:=UO (-(-(QH c d-n-2-Tt)/Tt)) ((HM c d+n+2)/Tt) λk=>K<|.fl (c-k*Tt) d (n+2) 0 ah
noncomputable def Z1(c d:Z)(n:Y)(K:AV->aB):aB:=UO (if QH c d-n<0 then 0 else(QH c d-n)/Tt) (if HM c d+n<0 then 0 else(HM c d+n)/Tt) λk=>K<|.it k 0
noncomputable def TA(a b k:Z)(K:AV->aB):aB:=decide (0<k)&&(decide (HM (a-(a+b)/k*k) b<k)&&(decide (0<=QH (a-(a+b)/k*k) b)&&K (.it (a-(a+b)/k*k) b)))
noncomputable def TF(c d:Z)(n:Y)(K:AV->aB):aB:=decide (0<=QH (c/(2*Tt)) ((d+Tt)/(2*Tt)))&&(fy (mg (c-(2*(c/(2*Tt))+1)*Tt) (d-2*((d+Tt)/(2*Tt))*Tt)+n) Tt&&K (.it (c/(2*Tt))<|(d+Tt)/(2*Tt)))
noncomputable def smI(k b:Z):aB:=decide (b=0)&&fy k.natAbs 2048
noncomputable def moA(c d:Z)(n g:Y)(K:AV->aB):aB:=aF g 1&&Zh c d n K
noncomputable def kFF(a:dU)(c d:Z)(n:Y)(b e:Z)(m g:Y)(K:AV->aB):aB:=arA a c d n b e m K||DO a 5&&moA c d n g K
noncomputable def kFI(a:dU)(c d:Z)(n:Y)(k b:Z)(K:AV->aB):aB:=smI k b&&(DO a 1&&adA c d n (k*Tt) 0 1 K||(DO a 2&&suA c d n (k*Tt) 0 1 K||DO a 4&&diA c d n (k*Tt) 0 1 K))
noncomputable def kIF(a:dU)(k b c d:Z)(m:Y)(K:AV->aB):aB:=smI k b&&(DO a 2&&suA (k*Tt) 0 1 c d m K||DO a 3&&muA (k*Tt) 0 1 c d m K)
noncomputable def kII(a:dU)(k b c d:Z)(K:AV->aB):aB:=DO a 5&&(decide (d=0)&&TA k b c K)
noncomputable def fmA(c d:Z)(m:Y)(K:AV->aB):aB:=fy (mg c d+17592186044416+m) 9007199254740992&&K (.fm c d<|m+1)
noncomputable def kMF(a:dU)(c d:Z)(n:Y)(b e:Z)(m g:Y)(K:AV->aB):aB:=DO a 5&&moA c d n g K||(DO a 1&&fmA (c+b) (d+e) (n+m) K||DO a 2&&fmA (c-b) (d-e) (n+m) K)
noncomputable def kTI(a:dU)(c d:Z)(n:Y)(k b:Z)(K:AV->aB):aB:=DO a 6&&(decide (k=2)&&(decide (b=0)&&TF c d n K))
noncomputable def qF(a:dU)(c d:Z)(n:Y)(y:AV)(K:AV->aB):aB:=y.F (λe f m g _=>kFF a c d n e f m g K)||y.I λk b=>kFI a c d n k b K
noncomputable def qI(a:dU)(k b:Z)(y:AV)(K:AV->aB):aB:=y.F (λc d m _ _=>kIF a k b c d m K)||y.I λe f=>kII a k b e f K
noncomputable def qM(a:dU)(c d:Z)(n:Y)(y:AV)(K:AV->aB):aB:=y.F λb e m g _=>kMF a c d n b e m g K
noncomputable def qT(a:dU)(c d:Z)(n:Y)(y:AV)(K:AV->aB):aB:=y.I λk b=>kTI a c d n k b K
noncomputable def Z'(a:dU)(x y:AV)(K:AV->aB):aB:=x.F (λc d n _ _=>qF a c d n y K)||(x.I (λk b=>qI a k b y K)||(x.M (λc d n=>qM a c d n y K)||x.T λc d n=>qT a c d n y K))
noncomputable def sure(c d:Z)(n:Y)(a b:Z)(m:Y):aB:=Y' (c-a+(n+m:Y))<|d-b
noncomputable def both(K:aB->aB):aB:=K ah&&K af
noncomputable def cm3(s t a b:aB)(K:aB->aB):aB:=bif s then K a else bif t then K b else both K
noncomputable def cpC:jh->Y
 | .Eq=>1| .Lt=>2| .LtE=>3|_=>0
noncomputable def XN(a:jh)(k:Y):aB:=aF (cpC a) k
noncomputable def eqA(c d:Z)(n g:Y)(a b:Z)(m e:Y)(K:aB->aB):aB:=bif fy 1 g&&aF g e then K ah else cm3 (sure c d n a b m) (sure a b m c d n) af af K
noncomputable def ltA(c d:Z)(n:Y)(a b:Z)(m:Y)(K:aB->aB):aB:=cm3 (sure c d n a b m) (sure a b m c d n) ah af K
noncomputable def hFF(a:jh)(c d:Z)(n g:Y)(b e:Z)(m f:Y)(K:aB->aB):aB:=XN a 1&&eqA c d n g b e m f K||(XN a 2&&ltA c d n b e m K||XN a 3&&ltA c d n b e m K)
noncomputable def cUI(a:jh)(u:aB)(k b z:Z)(K:aB->aB):aB:=XN a 3&&(u&&(decide (k=z)&&(decide (b=0)&&K ah)))
noncomputable def hII(a:jh)(k b c d:Z)(K:aB->aB):aB:=XN a 1&&(decide (b=0)&&(decide (d=0)&&K (decide (k=c))))
noncomputable def cF(a:jh)(c d:Z)(n g:Y)(u:aB)(y:AV)(K:aB->aB):aB:=y.F (λe f m h _=>hFF a c d n g e f m h K)||y.I λk b=>cUI a u k b 1 K
noncomputable def cI(a:jh)(k b:Z)(y:AV)(K:aB->aB):aB:=y.F (λ_ _ _ _ u=>cUI a u k b 0 K)||y.I λc d=>hII a k b c d K
noncomputable def Z9(a:jh)(x y:AV)(K:aB->aB):aB:=x.F (λc d n g u=>cF a c d n g u y K)||x.I λk b=>cI a k b y K
noncomputable def abF(a:aB)(c d:Z)(n:Y)(b e:Z)(m:Y)(x y:AV)(K:AV->aB):aB:=bif sure c d n b e m then K (bif a then y else x)else bif sure b e m c d n then K (bif a then x else y)else K x&&K y
noncomputable def z0(a:aB)(x y:AV)(K:AV->aB):aB:=x.F λc d n _ _=>y.F λb e m _ _=>abF a c d n b e m x y K
noncomputable def Zp(x:AV)(K:AV->aB):aB:=x.F λc d n _ _=>decide (-(Tt:Z)<QH c d-n)&&K (.tr c d n)
noncomputable def aag(b:Kr)(vs:aj AV)(K:AV->aB):aB:=match vs with
 |[]=>af
 |x::r=>match r with
  |[]=>(match b with| .int=>Zp x K|_=>af)
  |y::r=>match r with
   |[]=>(match b with| .min=>z0 af x y K|_=>af)
   |z::r=>match r with
    |[]=>(match b with| .max=>z0 ah x y λw=>z0 ah w z K| .min=>z0 af x y λw=>z0 af w z K|_=>af)
    |_::_=>af
noncomputable def QL:aj<|Y × Z × Y:=[(4607182418800017408,4398046511104,1),(0,0,0),(4611686018427387904,8796093022208,0),(4616189618054758400,17592186044416,0),(4618441417868443648,26388279066624,0),(4602678819172646912,2199023255552,0),(4599676419421066581,1466015503701,0),(4595172819793696085,733007751850,0),(4604180019048437077,2932031007402,0)]
noncomputable def VM(v:PV)(K:AV->aB):aB:=match v with
 | .int i=>K<|.it i 0
 | .bool b=>K<|.bo b
 | .fw x=>(QL.find? λp=>aF p.1 x.toNat).any λp=>K<|.fl p.2.1 0 1 p.2.2 af
 |_=>af
abbrev AE:=aj<|au AV
structure FA where
 run:AE->(AV->aB)->aB
structure GA where
 run:aj AV->(AV->aB)->aB
structure SA where
 run:AE->(AE->aB)->(AV->aB)->aB
structure LA where
 run:AE->(aj AV->aB)->aB
structure Ka where
 ex:C->FA
 ca:Y->GA
noncomputable def Gz(k:Ka):aj C->LA
 |[]=>⟨λ_ K=>K []⟩
 |c::r=>⟨λE K=>(k.ex c).run E λv=>(Gz k r).run E λvs=>K<|v::vs⟩
structure CA where
 run:AE->AV->(aB->aB)->aB
noncomputable def W4(k:Ka):aj jh->aj C->CA
 |[],_=>⟨λ_ _ _=>af⟩
 |o::os,a=>match a with
  |[]=>⟨λ_ _ _=>af⟩
  |c::a=>⟨λE l K=>(k.ex c).run E λr=>Z9 o l r λb=>match b with
   |false=>K af
   |true=>match os with
    |[]=>a.isEmpty&&K ah
    |_::_=>(W4 k os a).run E r K⟩
noncomputable def mk3(l:aB)(vs:aj AV)(K:AV->aB):aB:=match vs with
 |[]=>af
 |x::r=>match r with
  |[]=>af
  |y::r=>match r with|[]=>af|z::r=>match r with|[]=>K (.t3 l x y z)|_::_=>af
noncomputable def aad(x y:AV)(K:AV->aB):aB:=x.L λ_ p q r=>y.I λi b=>decide (b=0)&&(bif decide (i=0)then K p else bif decide (i=1)then K q else decide (i=2)&&K r)
noncomputable def ifA(r:AV)(x y:sY->aB):aB:=r.B λb=>bif b then x ()else y ()
def aae(k:Ka)(c:C):FA:=match c with
 | .var i=>⟨λE K=>match E[i]? with|some (U a)=>K a|_=>af⟩
 | .lit v=>⟨λ_ K=>VM v K⟩
 | .TH v=>⟨λ_ K=>VM v K⟩
 | .bin g a b=>⟨λE K=>(k.ex a).run E λx=>(k.ex b).run E λy=>Z' g x y K⟩
 | .cmp l d h=>⟨λE K=>(k.ex l).run E λx=>(W4 k d h).run E x λb=>K<|.bo b⟩
 | .ite t a b=>⟨λE K=>(k.ex t).run E λr=>ifA r (λ_=>(k.ex a).run E K) λ_=>(k.ex b).run E K⟩
 | .lst e=>⟨λE K=>(Gz k e).run E λvs=>mk3 ah vs K⟩
 | .tup e=>⟨λE K=>(Gz k e).run E λvs=>mk3 af vs K⟩
 | .call f as=>⟨λE K=>(Gz k as).run E λvs=>(k.ca f).run vs K⟩
 | .blt b as=>⟨λE K=>(Gz k as).run E λvs=>aag b vs K⟩
 | .sub o i=>⟨λE K=>(k.ex o).run E λx=>(k.ex i).run E λy=>aad x y K⟩
 |_=>⟨λ_ _=>af⟩
noncomputable def IR(v:AV):Y->AE->(AE->aB)->aB
 |_,[],_=>af
 |0,_::t,K=>K<|U v::t
 |i+1,a::t,K=>IR v i t λt=>K<|a::t
noncomputable def He:aj TT->aj AV->AE->(AE->aB)->aB
 |[],vs,E,N=>(match vs with|[]=>N E|_::_=>af)
 |t::a,vs,E,N=>match t with
  | .v i=>(match vs with|[]=>af|v::vs=>IR v i E λE=>He a vs E N)
  |_=>af
def aaf(t:TT)(v:AV)(E:AE)(N:AE->aB):aB:=match t with
 | .v i=>v.T (λc d n=>Z1 c d n λv=>IR v i E N)||IR v i E N
 | .tup a=>v.L λl x y z=> !l&&He a [x,y,z] E N
 |_=>af
mutual
noncomputable def asx(k:Ka)(s:S):SA:=match s with
 | .asg u t c=>⟨λE N _=> !u&&(k.ex c).run E λv=>aaf t v E N⟩
 | .par u ts es=>⟨λE N _=> !u&&(Gz k es).run E λvs=>He ts vs E N⟩
 | .A7 t a b=>⟨λE N R=>(k.ex t).run E λr=>ifA r (λ_=>(JZ k a).run E N R) λ_=>(JZ k b).run E N R⟩
 | .ret c=>⟨λE _ R=>(k.ex c).run E R⟩
 |_=>⟨λ_ _ _=>af⟩
noncomputable def JZ(k:Ka)(l:aj S):SA:=match l with
 |[]=>⟨λE N _=>N E⟩
 |s::r=>⟨λE N R=>(asx k s).run E (λe=>(JZ k r).run e N R) R⟩
end
noncomputable def RP:AV->AV
 | .fl c d n _ u=> .fl c d n 0 u
 | .t3 l x y z=> .t3 l (RP x) (RP y)<|RP z
 |v=>v
def abz(i:Y):AV->AV
 | .fl c d n _ u=> .fl c d n i u
 |v=>RP v
noncomputable def PJ(i:Y):aj AV->AE
 |[]=>[]
 |v::r=>U (abz i v)::PJ (i+1) r
def W6(P:Y->au Fn)(k:Ka)(f:Y):GA:=match P f with
 |some b=>(match b with
  | .code nv a ow body=>(match ow with
   |[]=>⟨λas K=>aF as.length a&&(JZ k body).run (PJ 2 as++bJ (nv-a) ag) (λ_=>af) λv=>K<|RP v⟩
   |_::_=>⟨λ_ _=>af⟩)
  |_=>⟨λ_ _=>af⟩)
 |none=>⟨λ_ _=>af⟩
noncomputable def ka(P:Y->au Fn):Y->Ka
 |0=>⟨λ_=>⟨λ_ _=>af⟩,λ_=>⟨λ_ _=>af⟩⟩
 |n+1=>⟨aae<|ka P n,W6 P<|ka P n⟩
section
variable {K:AV->aB}
structure Jr(j:Z):Prop where
 lo:1<=j
 hi:j<=63
def Jr.na(h:Jr j):j.natAbs<=63:=dz.mp<|rS ((Kl<|ft (dcd J) h.lo).symm) <| h.hi
def uW(h:Jr j):(c+d*j).natAbs<=mg c d:=ab (xH ..)<|c_ (iu d j▸cA _ h.na) _
def sF(h:Jr j):QH c d<=c+d*j/\c+d*j<=HM c d:=by
 delta QH HM;by_cases q:d<0
 ·refine rP (bM q)<|rP (bM q) ?_;have q:=jC q;exact⟨oB (zW q h.hi) c,oB (ft (zW q h.lo)<|GW<|ki d) c⟩
 ·refine rP (bA q)<|rP (bA q) ?_;have q:=kg.mp q;exact⟨oB (ft (GW (ki d).symm)<|jq h.lo q) c,oB (jq h.hi q) c⟩
def Qz(h:Jr j)(k:Y' c d=ah):c+d*j<0:=by
 refine jB (sF h).2 ?_;delta HM;by_cases q:d<0
 ·exact rP (bM q) <| aq (n2 k).1
 ·exact rP (bA q) <| aq (n2 k).2
noncomputable def AR(τ:Y->cR)(j:Z):PV->AV->Prop
 |v,.fl c d n g u=>∃x,v= .fw x/\Ax x (c+d*j) n/\((g=1->x=eO)/\(1<g->τ g=x))/\(u=ah->0<=val x/\val x<=Uz)
 |v,.fm c d n=>∃x,v= .fw x/\∃k:Z,k.natAbs<=4/\Ax x (c+d*j+k*Tt) n
 |v,.tr c d n=>∃i,v= .int i/\∃x,Tr x (c+d*j) n i
 |v,.it a b=>v= .int (a+b*j)
 |v,.bo b=>v= .bool b
 |v,.t3 l x y z=>∃p q r,v=(bif l then .lst [p,q,r]else .tup [p,q,r])/\AR τ j p x/\AR τ j q y/\AR τ j r z
variable {τ:Y->cR} {x:cR}
@[elab_as_elim] def AR.F{P:PV->Prop}{k:Z->Z->Y->Y->aB->aB}(r:AR τ j v a)(h:a.F k=ah)(f:∀{x} {c d} {n g} {u},Ax x (c+d*j) n->((g=1->x=eO)/\(1<g->τ g=x))->(u=ah->0<=val x/\val x<=Uz)->k c d n g u=ah->P (.fw x)):P v:=by
 cases a with
 |fl=>obtain⟨x,rfl,a,b,c⟩:=r;exact f a b c h
 |_=>exact ff h
@[elab_as_elim] def AR.M{P:PV->Prop}{f:Z->Z->Y->aB}(r:AR τ j v a)(h:a.M f=ah)(g:∀{x} {c d} {n} {k},k.natAbs<=4->Ax x (c+d*j+k*Tt) n->f c d n=ah->P (.fw x)):P v:=by
 cases a with
 |fm=>obtain⟨x,rfl,k,a,b⟩:=r;exact g a b h
 |_=>exact ff h
@[elab_as_elim] def AR.T{P:PV->Prop}{f:Z->Z->Y->aB}(r:AR τ j v a)(h:a.T f=ah)(g:∀{x} {c d i} {n},Tr x (c+d*j) n i->f c d n=ah->P (.int i)):P v:=by
 cases a with
 |tr=>obtain⟨i,rfl,x,a⟩:=r;exact g a h
 |_=>exact ff h
@[elab_as_elim] def AR.I{P:PV->Prop}{f:Z->Z->aB}(r:AR τ j v a)(h:a.I f=ah)(g:∀{i a b},i=a+b*j->f a b=ah->P (.int i)):P v:=by
 cases a with
 |it=>obtain rfl:=r;exact g J h
 |_=>exact ff h
@[elab_as_elim] def AR.B{P:PV->Prop}{f:aB->aB}(r:AR τ j v a)(h:a.B f=ah)(g:∀{b},f b=ah->P (.bool b)):P v:=by
 cases a with
 |bo=>obtain rfl:=r;exact g h
 |_=>exact ff h
@[elab_as_elim] def AR.L{P:PV->Prop}{f:aB->AV->AV->AV->aB}(r:AR τ j v a)(h:a.L f=ah)(g:∀{l} {p q r} {x y z},AR τ j p x->AR τ j q y->AR τ j r z->f l x y z=ah->P (bif l then .lst [p,q,r]else .tup [p,q,r])):P v:=by
 cases a with
 |t3=>obtain⟨p,q,r,rfl,a,b,c⟩:=r;exact g a b c h
 |_=>exact ff h
inductive Ok(τ:Y->cR)(j:Z)(o:au PV)(K:AV->aB):Prop
 |mk (v:PV) (a:AV) (e:o=U v) (r:AR τ j v a) (k:K a=ah)
def oE{x y}{p:Prop}(h:(x||y)=ah)(f:x=ah->p)(g:y=ah->p):p:=(bH.mp h).elim f g
noncomputable def YY(k:Y)(a:dU):dU:=match k with
 |1=> .Add|2=> .Sub|3=> .Mult|4=> .Div|5=> .Mod|6=> .FloorDiv|_=>a
def opI{a}{k}(h:DO a k=ah):YY k a=a:=rS (aJ h) <| by cases a<;>rfl
def Ok.bind{K1:AV->aB}{F:PV->au PV}(h:Ok τ j o K1)(f:∀v a,AR τ j v a->K1 a=ah->Ok τ j (F v) K):Ok τ j (o.bind F) K:=by obtain⟨v,a,rfl,r,k⟩:=h;exact f v a r k
def arF(h:Ax x (c+d*j) n)(k:K (.fl c d n 0 af)=ah):Ok τ j (U<|.fw x) K:=⟨_,.fl c d n 0 af,J,⟨x,J,h,⟨nofun,nofun⟩,nofun⟩,k⟩
def ltB{a b}(h:fy a b=ah):a<b:=aD h
def y_{a k:Z}(b:0<k):0<=a-a/k*k/\a-a/k*k<k:=by have e:=m8 a k;have:=sR a<|aaN b;have:=wX a b;rw[jA]at e;exact oz [] [_,_,_,_] 0x31f9023535403196210a510a548 e (by assumption) this
def NY(X){k}(a:0<k):X<=(X/k+1)*k:=bF<|rS (bS k _) <| Nat.lt_mul_div_succ X a
def Bz{a b k}(d:Jr j)(e:0<=a/\a<k)(c:0<=b/\b<k):(a+b*j).natAbs<=64*k.toNat:=by have x:=jq d.hi c.1;have y:=pI c.1<|ft (dcd J) d.lo;exact oz [_,_] [_,_,_,_] 0x7401541154015199c401593f1589015433f1fd1423520505421c1090b1401fc01 J J e.1 e.2 c.2 x y
def Os{a b}(f:Jr j)(h:adA c d n a b m K=ah)(i:Ax x (c+d*j) n)(k:Ax y (a+b*j) m):Ok τ j (U<|.fw<|ox x y) K:=by have g:=n2 h;have:=uW (c:=c+a) (d:=d+b) f;have e:c+d*j+(a+b*j)=c+a+(d+b)*j:=rP (gD ..) <| oz [] [_,_,_,_] 0x319209932910996;exact arF (e▸i.add k (e▸by have:=ltB g.1;exact gr 0x20000000000000df921a3a230120000000000000df921a0a2 (by assumption) this)) g.2
def E8{a b}(f:Jr j)(h:suA c d n a b m K=ah)(i:Ax x (c+d*j) n)(k:Ax y (a+b*j) m):Ok τ j (U<|.fw<|sub x y) K:=by have g:=n2 h;have:=uW (c:=c-a) (d:=d-b) f;have e:c+d*j-(a+b*j)=c-a+(d-b)*j:=rP (fD ..) <| oz [] [_,_,_,_] 0x31a20a9329109a6;exact arF (e▸i.sub k (e▸by have:=ltB g.1;exact gr 0x20000000000000df921a3a230120000000000000df921a0a2 (by assumption) this)) g.2
theorem MF{b f:Z}(i:Jr j)(h:muA c d n b f m K=ah)(o:Ax x (c+d*j) n)(q:Ax y (b+f*j) m):Ok τ j (U<|.fw<|CC x y) K:=by
 have g:=n2 h;have l:=n2 g.2;have z:=aq g.1;refine arF (Ax.mul (e:=64) o q (uW i) (uW i) ?_ (ltB l.1) ?_) l.2
 ·have r:=y_ (a:=c*b) (k:=4398046511104)<|dcd J;have s:=y_ (a:=c*f+d*b) (k:=4398046511104)<|dcd J;have e:=Bz i r s
  have t:(c+d*j)*(b+f*j)-(c*b/(Tt:Z)+(c*f+d*b)/(Tt:Z)*j)*(Tt:Z)=c*b-c*b/(Tt:Z)*(Tt:Z)+(c*f+d*b-(c*f+d*b)/(Tt:Z)*(Tt:Z))*j:=by have u:d*f*(j*j)=0:=rP (z ..)<|rP (dG ..) J;generalize(Tt:Z)=T at*;grind
  exact rP (t ..) e
 ·have:=NY (mg c d*m+n*(mg b f+m)) (show 0<Tt by decide);generalize(mg c d*m+n*(mg b f+m))/Tt=z at*;exact rP (show z+66=z+1+(64+1)from rfl) <| rP (d4 (z+1) ..) <| fA this _
theorem NZ{b i:Z}(f:Jr j)(h:diA c d n b i m K=ah)(u:Ax x (c+d*j) n)(l:Ax y (b+i*j) m):Ok τ j (U<|.fw<|CD x y) K/\oj y=af:=by
 have g:=n2 h;have o:=n2 g.2;have s:=n2 o.2;obtain rfl:=aq g.1;have q:=aq o.1;have v:b+0*j=b:=rP (dG ..)<|rP (cE ..) J;rw[v]at l;have t:0<b:=f7 479317 q;have w:=y_ (a:=c*Tt) t;have z:=y_ (a:=d*Tt) t;have e:=Bz f w z
 have B:(c+d*j)*(Tt:Z)-(c*Tt/b+d*Tt/b*j)*b=c*Tt-c*Tt/b*b+(d*Tt-d*Tt/b*b)*j:=by generalize(Tt:Z)=T at*;grind
 have A:=Ax.div (r:=c*Tt/b+d*Tt/b*j) (ρ:=mg (c*Tt/b)<|d*Tt/b) (e:=64*b.toNat) (k:=(64*b.toNat+n*Tt+mg (c*Tt/b) (d*Tt/b)*m)/(b-m).toNat+1) u l q (uW f) (uW f) (B▸e) (ltB s.1)<|NY _<|v_ 282531280765042 J q;exact⟨arF A.1 s.2,A.2⟩
end
section
variable {K:AV->aB}
variable {x:cR}
def eT:((2^42:Y):Z)=4398046511104:=J
def G6{i k z}{K:Z->aB}(h:UO i k K=ah)(a:i<=z)(b:z<=k):K z=ah:=by have g:=n2 h;have:=aq g.1;have e:z=i\/z=k:=oz [] [_,_,_] 0x79c888a0419242040142061069 a b this;exact e.elim (λe=>rP e <| (n2 g.2).1) λe=>rP e <| (n2 g.2).2
def T0:(0:Z)<Tt:=by decide
def QB{q X a b l h N T}(e:q=X+b)(c:l<=X)(d:X<=h)(f:a<=q+N+2)(g:q-N-2-T<=a):b-a<=-(l-N-2-T)/\a-b<=h+N+2:=oz [] [_,_,_,_,_,_,_,_] 0x1a93ca014e2836eaaa42836e99145e7e47e2407e96e62835e9901a44e2832aaab10a48 e c d f g
def VI(a:Jr j)(b:Ax x q n){k}(e:q=c+d*j+k*Tt)(h:Zh c d n K=ah):Ok τ j (U<|.fw (divmod x eO).snd) K:=by obtain⟨i,M⟩:=VJ b;have l:=sF (c:=c) (d:=d) a;have m:=QB e l.1 l.2 M.k1 M.k2;rw[<-fD,<-fD]at m;have f:=G6 (z:=i-k) h (rS (abm k i) <| Int.neg_le_neg<|jW T0 m.1)<|jW T0 m.2;exact⟨_,.fl _ d _ 0 ah,J,⟨_,J,(rS ((rP (e ..) <| rP (fD ..) <| oz [] [_,_,_,_] 82085866772666790:q-i*Tt=c-(i-k)*Tt+d*j)) <| M.ax),⟨nofun,nofun⟩,λ_=>⟨M.lo,M.hi⟩⟩,f⟩
def Wz{i}(a:Jr j)(t:Tr x (c+d*j) n i)(h:Z1 c d n K=ah):Ok τ j (U<|.int i) K:=by
 have l:=sF (c:=c) (d:=d) a;have l2:=Km l.2 n;refine⟨_,.it i 0,J,az PV.int<|rP (dG ..)<|rP (cE ..) J,G6 (K:=λk=>K<|.it k 0) h ?_ ?_⟩
 ·by_cases q:QH c d-n<0
  ·exact rP (bM q) t.i0
  ·exact rP (bA q) <| nL<|Iw T0<|jB (Kj l.1 _) t.i1
 ·by_cases q:HM c d+n<0
  ·exact rP (bM q) <| t.i2.elim GW λz=>bI (pI t.i0<|jC T0)<|CK.mpr<|jB (ft z l2) q
  ·exact rP (bA q ..) <| jW T0<|t.i2.elim (λz=>by refine rP (z ..)<|rP (dG ..) ?_;exact kg.mp q) λz=>ft z l2
def QT{a b k i}(o:Jr j)(e:i=a+b*j)(h:TA a b k K=ah):Ok τ j (binI .Mod i k) K:=by
 have g:=n2 h;have f:=n2 g.2;have m:=n2 f.2;have n:=aq g.1;have q:=aq f.1;have r:=aq m.1;have l:=sF (c:=a-(a+b)/k*k) (d:=b) o;refine⟨.int<|i.fmod k,.it (a-(a+b)/k*k) b,?_,az PV.int ?_,m.2⟩
 ·show gL (!(decide (k=0))) _=_;exact rP (bz (by exact lE 5591143 n) ..) J
 ·exact rP (bG _ (jC n) ..) <| rP (e ..) <| rP (show a+b*j=(a-(a+b)/k*k+b*j)+(a+b)/k*k from oz [] [_,_,_] 2276510470294) <| rP (Int.add_mul_emod_self_right ..) <| Pt (oz [] [_,_,_,_] 0x210a934354210a954 r l.1)<|oz [] [_,_,_,_,_] 0x4e210a9434e53210a95 q l.2
def Nk{C i a b T N:Z}{m n:Y}(c:(C-(2*b+T)).natAbs<=m)(d:((m+n:Y):Z)<T)(e:(n:Z)=N)(f:C-N<a+T)(g:i=0\/a<=C+N):2*b<a+T/\(i=0\/a<2*b+2*T):=oz [_,_,_] [_,_,_,_,_,_] 0x188d39e3b9937d39e3b9888d39b9b9937d39b9ed8d38902195e4ea55e266221a651015e4e9145369202c94ea0b22c02c915536921902c58 (by rfl) g c d e f
theorem Q2{i:Z}(f:Jr j)(t:Tr x (c+d*j) n i)(h:TF c d n K=ah):Ok τ j (binI .FloorDiv i 2) K:=by
 have g:=n2 h;have k:=n2 g.2;have m:=aq g.1;have l:=sF (c:=c/(2*Tt)) (d:=(d+Tt)/(2*Tt)) f;have r:_<4398046511104:=ltB k.1;generalize c/(2*(Tt:Z))=a at*;generalize(d+(Tt:Z))/(2*(Tt:Z))=b at*;have o:=uW (c:=c-(2*a+1)*Tt) (d:=d-2*b*Tt) f;refine⟨.int<|i.fdiv 2,.it a b,J,az PV.int ?_,k.2⟩;have q:=t.i1
 have e:c-(2*a+1)*Tt+(d-2*b*Tt)*j=c+d*j-(2*((a+b*j)*Tt)+Tt):=by generalize(Tt:Z)=T at*;grind
 rw[e]at o;rw[gD,fb]at q;have L:=Nk o (eM.mpr r) J q t.i2;rw[<-iR]at L;have s:=kj (a:=(Tt:Z)) (b:=2*(a+b*j)) (c:=i+1) (rP (gD ..) <| rP (fb ..) L.1)<|jC T0;have L2:i<2*(a+b*j)+2:=L.2.elim (λz=>by have:=ft m l.1;exact oz [] [_,_,_,_] 0x442050621934354282192c905 m l.1 z) λz=>kj (a:=(Tt:Z)) (rP (gD ..) z)<|jC T0;exact rP (bW _<|dcd J) <| Int.le_antisymm (nL<|Iw (dcd J) (by refine rP (gD ..)<|rP (jA _ 2 ..) ?_;exact L2))<|jW (dcd J)<|rS (jA 2 _) <| nL s
theorem Lw{k b i}(h:smI k b=ah)(e:i=k+b*j):i=k/\EP i=U (pz i)/\Ax (pz i) (k*Tt+0*j) 1:=by
 have g:=n2 h;have c:=aq g.1;have a:=ltB g.2;have e:i=k:=by exact rP (e ..)<|rP (c ..)<|rP (dG ..)<|rP (cE ..) J
 subst e;refine⟨J,?_,by exact rP (dG ..) <| rP (cE ..) <| Op a⟩;show gL (!(tG i)) _=_
 have:tG i=af:=by
  delta tG;cases q:aY 9007199254740992 i.natAbs with
  |false=>rfl
  |true=>exact bI (aD q)<|CI.mpr<|fY a<|dcd J
 exact rP this J
def V4:oj eO=af:=by kernel_rfl
def TO{q k}{z}(b:Jr j)(a:k.natAbs<=4)(h:q.natAbs+m<2^53->Ax z q (m+1))(e:q=c+d*j+k*Tt)(g:fmA c d m K=ah):Ok τ j (U<|.fw z) K:=by have g:=n2 g;exact⟨_,.fm c d _,J,⟨z,J,k,a,rS e <| h<|bi (fA (lY (uW (c:=c) (d:=d) b) (qA (y:=Tt) a<|aZ _) e) m)<|ltB g.1⟩,g.2⟩
def Ih(a:Jr j){k}(b:e=1->y=eO)(f:Ax x (c+d*j+k*Tt) n)(h:moA c d n e K=ah):Ok τ j (WU .Mod x y) K:=by have g:=n2 h;obtain rfl:=b<|aJ g.1;show Ok τ j (gL (!(oj eO)) _) K;exact rP V4 <| VI a f J g.2
@[elab_as_elim] def Fu{a}{k}{b}{P:dU->Prop}(h:(DO a k&&b)=ah)(f:b=ah->P (YY k a)):P a:=rS (opI (n2 h).1) <| f (n2 h).2
def YJ{m}(a:Jr j)(h:qF m c d n b K=ah)(f:Ax x (c+d*j) n)(o:AR τ j w b):Ok τ j (binop m (.fw x) w) K:=by
 refine oE h (λh=>o.F h λi r _ h=> ?_) λh=>o.I h λe h=> ?_
 ·exact oE h (λh=>oE h (λh=>Fu h λh=>Os a h f i) λh=>oE h (λh=>Fu h λh=>E8 a h f i) λh=>oE h (λh=>Fu h λh=>MF a h f i) λh=>Fu h λh=>by have A:=NZ (τ:=τ) a h f i;show Ok τ j (gL (!(oj _)) _) K;exact rP (A.2 ..) A.1) λh=>Fu h λh=>Ih a r.1 (k:=0) (by exact rP (dG ..) <| rP (cE ..) f) h
 ·have g:=n2 h;obtain⟨s,l,i⟩:=Lw g.1 e;refine oE g.2 (λh=>Fu h λh=> ?_) λh=>oE h (λh=>Fu h λh=> ?_) λh=>Fu h λh=> ?_
  ·show Ok τ j ((EP _).bind _) K;exact rP l <| Os a h f i
  ·show Ok τ j ((EP _).bind _) K;exact rP l <| E8 a h f i
  ·have A:=NZ (τ:=τ) a h f i;have q:=aq (n2 (n2 h).2).1;show Ok τ j ((EP _).bind λy=>gL (!(decide (_=0))) _) K;exact rP l <| rP (bz (λz=>by rw[<-s,z]at q;exact bI q<|dcd J)) A.1
def YI{c}{i k l}(a:Jr j)(h:qI c k l b K=ah)(e:i=k+l*j)(d:AR τ j w b):Ok τ j (binop c (.int i) w) K:=by
 refine oE h (λh=>d.F h λf q _ h=> ?_) λh=>d.I h λo h=>Fu h λh=> ?_
 ·have g:=n2 h;obtain⟨r,m,n⟩:=Lw g.1 e;refine oE g.2 (λh=>Fu h λh=> ?_) λh=>Fu h λh=> ?_
  ·show Ok τ j ((EP _).bind _) K;exact rP (m ..) <| E8 a h n f
  ·show Ok τ j ((EP _).bind _) K;exact rP (m ..) <| MF a h n f
 ·have g:=n2 h;exact rP (o ..) <| rP (aq g.1 ..) <| rP (dG ..) <| rP (cE ..) <| QT a e g.2
def YH{f}{k}(a:Jr j)(g:k.natAbs<=4)(h:qM f c d n b K=ah)(e:Ax x (c+d*j+k*Tt) n)(l:AR τ j w b):Ok τ j (binop f (.fw x) w) K:=l.F h λi m _ h=>oE h (λh=>Fu h λh=>Ih a m.1 e h) λh=>oE h (λh=>Fu h λh=>TO a g (e.add i) (rP (gD ..) <| oz [] [_,_,_,_,_] 0x24e19309994e392109996) h) λh=>Fu h λh=>TO a g (e.sub i) (rP (fD ..) <| oz [] [_,_,_,_,_] 0x24e1a30a994e3921099a6) h
def YG{a}{i}(k:Jr j)(h:qT a c d n b K=ah)(t:Tr x (c+d*j) n i)(l:AR τ j w b):Ok τ j (binop a (.int i) w) K:=l.I h λe h=>Fu h λh=>by have g:=n2 h;have f:=n2 g.2;exact rP (e ..) <| rP (aq f.1 ..) <| rP (aq g.1 ..) <| rP (dG ..) <| rP (cE ..) <| Q2 k t f.2
def R7{i}(c:Jr j)(h:Z' i a b K=ah)(d:AR τ j v a)(f:AR τ j w b):Ok τ j (binop i v w) K:=oE h (λh=>d.F h λg _ _ h=>YJ c h g f) λh=>oE h (λh=>d.I h λe h=>YI c h e f) λh=>oE h (λh=>d.M h λk g h=>YH c k h g f) λh=>d.T h λt h=>YG c h t f
end
section
variable {K:AV->aB}
variable {j:Z} {τ:Y->cR}
def xN(a:Jr j)(h:sure c d n b e m=ah)(f:Ax x (c+d*j) n)(g:Ax y (b+e*j) m):val x<val y:=by have:=Qz a h;refine aab f g ?_;rw[fD,d5]at this;exact oz [_,_] [_,_,_,_] 0x531af7920a995f329a710995 this
inductive Oz(o:au aB)(K:aB->aB):Prop
 |mk (r:aB) (e:o=U r) (k:K r=ah)
def Gj{K:aB->aB}{F:au AA->aB}(i:Jr j)(a:Ax x (c+d*j) n)(b:Ax y (e+f*j) m)(h:cm3 (sure c d n e f m) (sure e f m c d n) k l K=ah)(o:F (U .lt)=k)(q:F (U .gt)=l):Oz (U<|F<|f8 x y) K:=by
 refine⟨_,J,?_⟩;delta cm3 at h;cases s:sure c d n e f m with
 |true=>rw[s]at h;exact rP (Gi a.fi b.fi<|xN i s a b) <| rP o h
 |false=>cases t:sure e f m c d n with
  |true=>rw[s,t]at h;exact rP (cmp_gt a.fi b.fi<|xN i t b a) <| rP q h
  |false=>
   rw[s,t]at h
   have g:=n2 h
   cases F (f8 x y)
   ·exact g.2
   ·exact g.1
def RM{i}(a:Fi x)(h:val x<i*2^1074\/val x=i*2^1074):(MQ (je x i)||H4 (je x i))=ah:=by
 obtain⟨_,_,_,a⟩:=a;refine rP (cmpInt_right a ..) ?_;rcases h with h|h
 ·exact rP (xJ.mpr h ..) J
 ·exact rP (qf.mpr h ..) J
def RL{i}(a:Fi x)(h:i*2^1074<val x\/val x=i*2^1074):(VY (je x i)||H4 (je x i))=ah:=by
 obtain⟨_,_,_,a⟩:=a;refine rP (cmpInt_right a ..) ?_;rcases h with h|h
 ·exact rP (xK.mpr h ..) J
 ·exact rP (qf.mpr h ..) J
def DM{i k b}(e:i=k+b*j)(a:decide (b=0)=ah):i=k:=by exact rP (e ..)<|rP (aq a ..)<|rP (dG ..)<|rP (cE ..) J
noncomputable def Z4(k:Y)(a:jh):jh:=match k with
 |1=> .Eq|2=> .Lt|3=> .LtE|_=>a
@[elab_as_elim] def Z3{a}{k}{b}{P:jh->Prop}(h:(XN a k&&b)=ah)(f:b=ah->P (Z4 k a)):P a:=(rS (aJ (n2 h).1) <| (by cases a<;>rfl):Z4 k a=a)▸f (n2 h).2
def Og{a}{u}{i k b z}{K:aB->aB}{P:jh->Z->Prop}(h:cUI a u k b z K=ah)(e:i=k+b*j)(f:u=ah->K ah=ah->P .LtE z):P a i:=Z3 h λh=>by have g:=n2 h;have c:=n2 g.2;have d:=n2 c.2;exact rP (DM e d.1) <| rP (aq c.1) <| f g.1 d.2
def Ws{K:aB->aB}(e:Jr j)(b:Ax x (c+d*j) n)(f:Ax y (i+k*j) m)(l:1<g->τ g=x)(r:1<a->τ a=y)(h:eqA c d n g i k m a K=ah):Oz (U<|H4<|f8 x y) K:=by
 delta eqA at h;generalize q:(fy 1 g&&aF g a)=o at h;cases o with
 |true=>have q:=n2 q;have s:=(l<|ltB q.1).symm.trans<|(aJ q.2▸r)<|ltB q.1;subst s;exact⟨ah,az (λo=>U<|H4 o)<|cmp_self b.fi,h⟩
 |false=>exact Gj (F:=H4) e b f h J J
def RO{c}{K:aB->aB}(m:Jr j)(h:Z9 c a b K=ah)(n:AR τ j v a)(f:AR τ j w b):Oz (i4 c v w) K:=by
 refine oE h (λh=>n.F h λl t x h=>oE h (λh=>f.F h λd q r h=> ?_) λh=>f.I h λe h=> ?_) λh=>n.I h λe h=>oE h (λh=>f.F h λd q r h=> ?_) λh=>f.I h λy h=> ?_
 ·refine oE h (λh=>Z3 h λh=> ?_) λh=>oE h (λh=>Z3 h λh=>Gj (F:=MQ) m l d h J J) λh=>Z3 h λh=>Gj (F:=λo=>MQ o||H4 o) m l d h J J;exact Ws m l d t.2 q.2 h
 ·exact Og (P:=λc i=>Oz (i4 c (.fw _)<|.int i) K) h e λu k=>⟨ah,az U<|RM l.fi<|rP (fb ..) <| O3 (x u).2,k⟩
 ·exact Og (P:=λc i=>Oz (i4 c (.int i)<|.fw _) K) h e λu k=>⟨ah,az U<|RL d.fi<|rP (dG ..) <| (O3 (r u).1).imp_right Eq.symm,k⟩
 ·exact Z3 h λh=>by have g:=n2 h;have s:=n2 g.2;obtain rfl:=DM e g.1;obtain rfl:=DM y s.1;exact⟨_,(rfl:gL ah _=_),s.2⟩
def LN{g}{f:cR->cR->cR}(B:Jr j)(h:z0 g a b K=ah)(D:AR τ j v a)(E:AR τ j w b)(I:∀x y,f x y=x\/f x y=y)(H:∀{x y},Fi x->Fi y->val x<val y->f x y=(bif g then y else x)/\f y x=(bif g then y else x)):∃x y,v= .fw x/\w= .fw y/\Ok τ j (U<|.fw<|f x y) K:=by
 have r:=D;have u:=E;revert r u;refine D.F h λ{x c d n _ _} i _ _ h=>E.F h λ{y k l m _ _} q _ _ h z A=>⟨x,y,J,J,?_⟩;have h:(bif sure c d n k l m then K (bif g then b else a)else bif sure k l m c d n then K (bif g then a else b)else K a&&K b)=ah:=h;generalize s:sure c d n k l m=o at h;cases o with
 |true=>
  refine rP ((H i.fi q.fi<|xN B s i q).1) ?_;cases g
  ·exact⟨_,_,J,z,h⟩
  ·exact⟨_,_,J,A,h⟩
 |false=>
  generalize t:sure k l m c d n=o at h;cases o with
  |true=>
   refine rP ((H q.fi i.fi<|xN B t q i).2) ?_;cases g
   ·exact⟨_,_,J,A,h⟩
   ·exact⟨_,_,J,z,h⟩
  |false=>
   have h:=n2 h;rcases I x y with e|e<;>refine rP e ?_
   ·exact⟨_,_,J,z,h.1⟩
   ·exact⟨_,_,J,A,h.2⟩
def Ts(e:Jr j)(h:z0 ah a b K=ah)(f:AR τ j v a)(g:AR τ j w b):∃x y,v= .fw x/\w= .fw y/\Ok τ j (U<|.fw<|fmax x y) K:=LN e h f g Q8 λc d q=>by delta fmax;exact rP (Gi c d q) <| rP (cmp_gt d c q) <| ⟨J,J⟩
def ML(e:Jr j)(h:z0 af a b K=ah)(f:AR τ j v a)(g:AR τ j w b):∃x y,v= .fw x/\w= .fw y/\Ok τ j (U<|.fw<|fmin x y) K:=LN e h f g Q7 λc d q=>by delta fmin;exact rP (Gi c d q) <| rP (cmp_gt d c q) <| ⟨J,J⟩
inductive J2(τ:Y->cR)(j:Z):aj PV->aj AV->Prop
 |nil:J2 τ j [] []
 |cons {v:PV} {a:AV} {vs:aj PV} {as:aj AV} (h:AR τ j v a) (t:J2 τ j vs as):J2 τ j (v::vs)<|a::as
def VR(b:Jr j)(f:AR τ j v a)(h:Zp a K=ah):Ok τ j (M9 v) K:=f.F h λ{x c d n _ _} k _ _ h=>by have g:=n2 h;obtain⟨i,t⟩:=VS k<|Int.lt_of_lt_of_le (aq g.1)<|Kj (sF b).1 _;exact⟨_,.tr c d n,t.e,⟨_,J,_,t⟩,g.2⟩
def Sn{d}(c:Jr j)(h:aag d as K=ah)(a:J2 τ j vs as):Ok τ j (oP d vs) K:=by
 cases a with
 |nil=>exact ff h
 | @cons n q _ _ f a=>cases a with
  |nil=>cases d with
   |int=>exact VR c f h
   |_=>exact ff h
  | @cons r s _ _ g a=>cases a with
   |nil=>cases d with
    |min=>
     obtain⟨x,y,rfl,rfl,o⟩:=ML c h f g
     exact o
    |_=>exact ff h
   | @cons t l _ _ m a=>cases a with
    |nil=>cases d with
     |max=>
      obtain⟨x,y,rfl,rfl,⟨v,w,i,b,k⟩⟩:=Ts (K:=λw=>z0 ah w l K) c h f g
      obtain rfl:=sm i
      obtain⟨_,z,e,rfl,o⟩:=Ts c k b m
      cases e
      exact o
     |min=>
      obtain⟨x,y,rfl,rfl,⟨v,w,i,b,k⟩⟩:=ML (K:=λw=>z0 af w l K) c h f g
      obtain rfl:=sm i
      obtain⟨_,z,e,rfl,o⟩:=ML c k b m
      cases e
      exact o
     |_=>exact ff h
    |cons _ _=>exact ff h
theorem QK:QL.all (λp=>isFinite (vC p.1)&&(decide ((val (vC p.1)-p.2.1*Uu).natAbs<=Uu)&&(aF p.2.2 0||aF p.2.2 1&&(vC p.1==eO))))=ah:=by decide+kernel
def HB{v}(h:VM v K=ah):Ok τ j (U v) K:=by
 cases v with
 |int i=>exact⟨_,.it i 0,J,az PV.int<|rP (dG ..)<|rP (cE ..) J,h⟩
 |bool b=>exact⟨_,.bo b,J,J,h⟩
 |fw x=>
  have h:((QL.find? λp=>aF p.1 x.toNat).any λp=>K<|.fl p.2.1 0 1 p.2.2 af)=ah:=h;cases e:QL.find? λp=>aF p.1 x.toNat with
  |none=>rw[e]at h;exact ff h
  |some p=>
   rw[e]at h
   have c:vC p.1=x:=by have z:=List.find?_some e;have:p.1=x.toNat:=aJ z;exact rP this UInt64.ofNat_toNat
   have g:=n2<|a_.mp QK p<|List.mem_of_find?_eq_some e;have a:=n2 g.2;rw[c]at g a;refine⟨_,.fl p.2.1 0 1 p.2.2 af,J,⟨x,J,by exact rP (dG ..) <| rP (cE ..) <| WY g.1<|aq a.1,⟨λq=> ?_,λq=> ?_⟩,nofun⟩,h⟩
   ·rcases bH.mp a.2 with z|z
    ·exact bI (aJ z)<|du 12985790519 q
    ·exact dW (n2 z).2
   ·rcases bH.mp a.2 with z|z
    ·exact bI (aJ z)<|du 6451255 q
    ·exact bI (aJ (n2 z).1)<|du 6447159 q
 |_=>exact ff h
end
section
variable {K:AV->aB}
inductive EA(τ:Y->cR)(j:Z):Env->AE->Prop
 |nil:EA τ j [] []
 |no {o:au PV} {E:Env} {ae:AE} (t:EA τ j E ae):EA τ j (o::E)<|ag::ae
 |so {v:PV} {a:AV} {E:Env} {ae:AE} (h:AR τ j v a) (t:EA τ j E ae):EA τ j (U v::E)<|U a::ae
def EA.at(h:EA τ j E c):∀{i:Y},c[i]? =U (U a)->∃v,E[i]? =U (U v)/\AR τ j v a:=by
 induction h with
 |nil=>exact λe=>nd e
 |no t b=>
  intro i e;cases i with
  |zero=>exact nd<|sm e
  |succ i=>exact b e
 |so r t b=>
  intro i e;cases i with
  |zero=>obtain rfl:=sm<|sm e;exact⟨_,J,r⟩
  |succ i=>exact b e
inductive NOk(τ:Y->cR)(j:Z)(E:Env)(N:AE->aB):Prop
 |mk (ae:AE) (h:EA τ j E ae) (k:N ae=ah)
def BH(r:AR τ j v a)(h:EA τ j E b):∀{i} {N:AE->aB},IR a i b N=ah->NOk τ j (E.set i<|U v) N:=by
 induction h with
 |nil=>exact λ{i} _ e=>by cases i<;>exact ff e
 |no t c=>
  intro i N e;cases i with
  |zero=>exact⟨_,.so r t,e⟩
  |succ i=>obtain⟨b,h,k⟩:=c e;exact⟨_,.no h,k⟩
 |so d t c=>
  intro i N e;cases i with
  |zero=>exact⟨_,.so r t,e⟩
  |succ i=>obtain⟨b,h,k⟩:=c e;exact⟨_,.so d h,k⟩
def Hc{c}:∀{vs} {as} {E} {a},J2 τ j vs as->EA τ j E a->He c as a N=ah->∃e,gH.go k c vs E=U e/\NOk τ j e N:=by
 induction c with
 |nil=>
  intro vs as E a b h e;cases b with
  |nil=>exact⟨_,J,_,h,e⟩
  |cons _ _=>exact ff e
 |cons t c d=>
  intro vs as E a b h e;cases t with
  |v i=>cases b with
   |nil=>exact ff e
   |cons r b=>
    obtain⟨a,h,k⟩:=BH r h e
    exact d b h k
  |_=>exact ff e
structure KA(j:Z)(k:Kn)(q:Ka):Prop where
 ex:∀{τ:Y->cR} {E:Env} {ae:AE} {c:C} {K:AV->aB},EA τ j E ae->(q.ex c).run ae K=ah->Ok τ j (k.ex E c) K
 ca:∀{τ:Y->cR} {f:Y} {vs:aj PV} {as:aj AV} {K:AV->aB},J2 τ j vs as->(q.ca f).run as K=ah->Ok τ j (k.ca f vs) K
inductive OkL(τ:Y->cR)(j:Z)(o:au<|aj PV)(K:aj AV->aB):Prop
 |mk (vs:aj PV) (as:aj AV) (e:o=U vs) (r:J2 τ j vs as) (k:K as=ah)
theorem wz(S:KA j k q)(h:EA τ j E b):∀{cs} {K:aj AV->aB},(Gz q cs).run b K=ah->OkL τ j (qV k E cs) K
 |[],_,e=>⟨_,_,J,.nil,e⟩
 |c::cs,K,e=>by obtain⟨v,a,d,f,g⟩:=S.ex h e;obtain⟨vs,as,i,l,m⟩:=wz S h (cs:=cs) g;refine⟨v::vs,a::as,?_,.cons f l,m⟩;show(k.ex E c).bind _=_;refine rP d ?_;show(qV k E cs).bind _=_;exact rP i J
def MN{l}(h:mk3 l as K=ah)(a:J2 τ j vs as):Ok τ j (U<|bif l then .lst vs else .tup vs) K:=by
 cases a with
 |nil=>exact ff h
 |cons b a=>cases a with
  |nil=>exact ff h
  |cons c a=>cases a with
   |nil=>exact ff h
   |cons d a=>cases a with
    |nil=>cases l with
     |false=>exact⟨_,.t3 af _ _ _,J,⟨_,_,_,J,b,c,d⟩,h⟩
     |true=>exact⟨_,.t3 ah _ _ _,J,⟨_,_,_,J,b,c,d⟩,h⟩
    |cons _ _=>exact ff h
def Sk(n:Jr j)(S:KA j k q)(h:EA τ j E s){K:aB->aB}{d}:∀{f} {v} {a},AR τ j v a->(W4 q d f).run s a K=ah->Oz (tD k E v d f) K:=by
 induction d with
 |nil=>exact λ_ e=>ff e
 |cons o os t=>
  intro f v a r e;cases f with
  |nil=>exact ff e
  |cons c f=>
   obtain⟨w,b,i,m,u⟩:=S.ex h e;obtain⟨x,l,g⟩:=RO n u r m;cases os with
   |nil=>cases f with
    |nil=>
     show Oz ((k.ex E c).bind λr=>i4 o v r) K
     exact rP i <| ⟨x,l,by cases x with|false=>exact g|true=>exact g⟩
    |cons _ _=>cases x with
     |false=>
      show Oz ((k.ex E c).bind λr=>(i4 o v r).bind λb=>match b with|false=>U af|true=>_) K
      refine rP i ?_
      show Oz ((i4 o v w).bind _) K
      exact rP l <| ⟨_,J,g⟩
     |true=>exact ff g
   |cons y os=>
    show Oz ((k.ex E c).bind λr=>(i4 o v r).bind λb=>match b with|false=>U af|true=>tD k E r (y::os) f) K;refine rP i ?_;show Oz ((i4 o v w).bind _) K;refine rP l ?_;cases x with
    |false=>exact⟨_,J,g⟩
    |true=>exact t m g
def M'{x y:sY->aB}(r:AR τ j v a)(h:ifA a x y=ah):(truth v=U ah/\x ()=ah)\/(truth v=U af/\y ()=ah):=
 r.B h λ{b} h=>by
  cases b with
  |true=>exact .inl ⟨J,h⟩
  |false=>exact .inr ⟨J,h⟩
def R'(h:aad a b K=ah)(d:AR τ j v a)(f:AR τ j w b):Ok τ j (mH v w) K:=
 d.L h λ{l p q r x y z} m n s h=>f.I h λ{i _ _} e h=>by
  have g:=n2 h;obtain rfl:=DM e g.1;have h:(bif decide (i=0)then K x else bif decide (i=1)then K y else decide (i=2)&&K z)=ah:=g.2
  have c:∀{i} {u} {a},AR τ j u a->K a=ah->mH (.tup [p,q,r]) (.int i)=U u/\mH (.lst [p,q,r]) (.int i)=U u->Ok τ j (mH (bif l then .lst [p,q,r]else .tup [p,q,r])<|.int i) K:=λr k e=>by
   cases l with
   |false=>exact⟨_,_,e.1,r,k⟩
   |true=>exact⟨_,_,e.2,r,k⟩
  generalize t:decide (i=0)=o at h;cases o with
  |true=>obtain rfl:=aq t;exact c m h ⟨J,J⟩
  |false=>
   generalize A:decide (i=1)=o at h;cases o with
   |true=>obtain rfl:=aq A;exact c n h ⟨J,J⟩
   |false=>have h:=n2 h;obtain rfl:=aq h.1;exact c s h.2 ⟨J,J⟩
def W3(s:Jr j)(S:KA j k q)(h:EA τ j E u){c:C}(e:(aae q c).run u K=ah):Ok τ j (wA k E c) K:=by
 cases c with
 |var i=>
  have e:(match u[i]? with|some (U a)=>K a|_=>af)=ah:=e;generalize A:u[i]? =o at e;match o,A,e with
  |some (U a),A,e=>obtain⟨v,I,r⟩:=h.at A;refine⟨v,a,?_,r,e⟩;show(E[i]?).bind id=_;exact rP I J
  |some ag,_,e=>exact ff e
  |none,_,e=>exact ff e
 |lit v=>exact HB e
 |TH v=>exact HB e
 |bin M x y=>exact(S.ex h e).bind λv a d g=>(S.ex h g).bind λw b B D=>R7 s D d B
 |cmp l H L=>refine(S.ex h e).bind λv a d g=> ?_;obtain⟨r,e,k⟩:=Sk s S h d g;show Ok τ j ((tD _ E v H L).bind _) K;exact rP e <| ⟨_,.bo r,J,J,k⟩
 |ite t x y=>exact(S.ex h e).bind λv a d g=>(M' d g).elim (λz=>rP z.1 <| S.ex h z.2) λz=>rP z.1 <| S.ex h z.2
 |lst m=>obtain⟨vs,as,n,r,k⟩:=wz S h e;show Ok τ j ((qV _ E m).bind _) K;exact rP n <| MN (l:=ah) k r
 |tup m=>obtain⟨vs,as,n,r,k⟩:=wz S h e;show Ok τ j ((qV _ E m).bind _) K;exact rP n <| MN (l:=af) k r
 |call f m=>obtain⟨vs,as,n,r,k⟩:=wz S h e;show Ok τ j ((qV _ E m).bind _) K;exact rP n <| S.ca r k
 |blt f m=>obtain⟨vs,as,n,r,k⟩:=wz S h e;show Ok τ j ((qV _ E m).bind _) K;exact rP n <| Sn s k r
 |sub x y=>exact(S.ex h e).bind λv a d g=>(S.ex h g).bind λw b B D=>R' D d B
 |_=>exact ff e
end
section
variable {j:Z} {K:AV->aB} {k:Kn} {q:Ka}
inductive OkS(τ:Y->cR)(j:Z)(o:au Out)(N:AE->aB)(R:AV->aB):Prop
 |go (e:Env) (h:o=U (e,ag)) (k:NOk τ j e N)
 |ret (e:Env) (v:PV) (a:AV) (h:o=U (e,U v)) (r:AR τ j v a) (k:R a=ah)
def F_{a}:o8 k [] E af a=qV k E a:=by
 induction a with
 |nil=>exact J
 |cons c a b=>show(k.ex E c).bind (λv=>(o8 k [] E af a).bind λvs=>U<|v::vs)=_;exact rP b J
def I6:∀{a} {vs},uQ [] a vs=ah:=by
 intro a;induction a with
 |nil=>intro _;exact J
 |cons t a c=>
  intro b;cases b with
  |nil=>exact J
  |cons v vs=>show(yE [] t v&&uQ [] a vs)=ah;refine rP c ?_;cases t<;>rfl
def Sl(d:Jr j){t}(h:EA τ j E c)(r:AR τ j v a)(e:aaf t a c N=ah):∃e,gH k t v E=U e/\NOk τ j e N:=by
 cases t with
 |v i=>refine⟨_,J,oE e (λe=>r.T e λt e=> ?_) λe=>BH r h e⟩;obtain⟨w,b,f,r,k⟩:=Wz (K:=λv=>IR v i c N) d t e;obtain rfl:=sm f;exact BH r h k
 |tup s=>refine r.L e λ{l _ _ _ _ _ _} m n o e=> ?_;have g:=n2 e;obtain rfl:=n0 g.1;exact Hc (.cons m<|.cons n<|.cons o .nil) h g.2
 |_=>exact ff e
def SP(τ:Y->cR)(j:Z)(k:Kn)(q:Ka)(R:AV->aB)(s:S):Prop:=∀{E:Env} {a:AE} {N:AE->aB},EA τ j E a->(asx q s).run a N R=ah->OkS τ j (sx k [] s E) N R
def LP(τ:Y->cR)(j:Z)(k:Kn)(q:Ka)(R:AV->aB)(l:aj S):Prop:=∀{E:Env} {a:AE} {N:AE->aB},EA τ j E a->(JZ q l).run a N R=ah->OkS τ j (kE k [] l E) N R
def LP.cons{s}{l}(d:SP τ j k q R s)(f:LP τ j k q R l):LP τ j k q R<|s::l:=λ{E _ N} h e=>by
 show OkS τ j ((sx k [] s E).bind _) N R;cases d h e with
 |go c b n=>obtain⟨g,i,m⟩:=n;exact rP b <| f i m
 |ret c v a b r o=>exact rP b <| .ret c v a J r o
def Sp(d:Jr j)(b:KA j k q){u}{t}{c}:SP τ j k q R<|.asg u t c:=λ{E o N} h e=>by have g:=n2 e;obtain rfl:=n0 g.1;obtain⟨v,a,f,r,i⟩:=b.ex h g.2;obtain⟨l,m,n⟩:=Sl (k:=k) d h r i;refine .go l ?_ n;show(k.ex E c).bind _=_;refine rP f ?_;show(match yE [] t v with|true=>(gH k t v E).bind λe=>U (e,ag)|false=>ag)=_;exact rP (show yE [] t v=ah by cases t<;>rfl) <| rP m J
def Se(a:KA j k q){u}{b}{c}:SP τ j k q R<|.par u b c:=λ{E m N} h e=>by have g:=n2 e;obtain rfl:=n0 g.1;obtain⟨vs,as,d,r,f⟩:=wz a h g.2;obtain⟨i,l,n⟩:=Hc (k:=k) r h f;refine .go i ?_ n;show(o8 k [] E af c).bind _=_;refine rP F_<|rP d ?_;show(match uQ [] b vs with|true=>(gH.go k b vs E).bind λe=>U (e,ag)|false=>ag)=_;exact rP I6 <| rP l J
def Sj(c:KA j k q){t}{a b}(d:LP τ j k q R a)(f:LP τ j k q R b):SP τ j k q R<|.A7 t a b:=λ{E l N} h e=>by
 obtain⟨v,x,g,r,i⟩:=c.ex h e;show OkS τ j ((k.ex E t).bind λv=>(truth v).bind λr=>match r with|true=>kE k [] a E|false=>kE k [] b E) N R;refine rP g ?_;show OkS τ j ((truth v).bind _) N R;rcases M' r i with z|z
 ·exact rP z.1 <| d h z.2
 ·exact rP z.1 <| f h z.2
def Sc(b:KA j k q){c}:SP τ j k q R<|.ret c:=λ{E g N} h e=>by obtain⟨v,a,d,r,f⟩:=b.ex h e;exact .ret E v a (bE d J) r f
def Dc{s}(h:asx q s=⟨λ_ _ _=>af⟩):SP τ j k q R s:=λ_ e=>by rw[h]at e;exact ff e
def WZ(d:Jr j)(a:KA j k q)(s):SP τ j k q R s:=S.rec (motive_1:=SP τ j k q R) (motive_2:=LP τ j k q R) (λ_ _ _=>Sp d a) (λ_ _ _=>Se a) (λ_ _ _=>Dc J) (λ_ _ _=>Dc J) (λ_=>Dc J) (λ_ _ _ f g=>Sj a f g) (λ_ _ _ _=>Dc J) (λ_ _ _=>Dc J) (λ_=>Sc a) (Dc J) (λ_ _ _=>Dc J) (λ_ _ _ _ _=>Dc J) (λ{_ i _} h e=> .go _ J ⟨i,h,e⟩) (λ_ _ l m=>LP.cons l m) s
def So(b:Jr j)(a:KA j k q)(l):LP τ j k q R l:=by
 induction l with
 |nil=>exact λ{_ c _} h e=> .go _ J ⟨c,h,e⟩
 |cons s l d=>exact LP.cons (WZ b a s) d
def N8{b:Y->cR}{a}:∀{v},AR τ j v a->AR b j v (RP a):=by
 induction a with
 |fl=>exact λr=>r.elim λx r=>⟨x,r.1,r.2.1,⟨nofun,nofun⟩,r.2.2.2⟩
 |t3 l x y z c d f=>exact cX λp=>cX λq=>cX λr e=>⟨e.1,c e.2.1,d e.2.2.1,f e.2.2.2⟩
 |_=>exact λr=>r
noncomputable def V5:PV->cR
 | .fw x=>x
 |_=>0
def UR{τ':Y->cR}(b:J2 τ j vs as):∀{i},1<i->(∀m v,vs[m]? =U v->τ' (i+m)=V5 v)->∀z:Y,EA τ' j (vs.map U++bJ z ag)<|PJ i as++bJ z ag:=by
 induction b with
 |nil=>exact λ_ _ z=>Nat.rec .nil (λ_=> .no) z
 | @cons v a vs as r b f=>
  refine λ{i} c d z=> .so ?_<|f (xF c) (λm v e=>(sj i m)▸d (m+1) v e) z;cases a with
  |fl=>obtain⟨x,rfl,h,_,z⟩:=r;exact⟨x,J,h,⟨λq=>bI q<|gw c,λ_=>d 0 _ J⟩,z⟩
  |_=>exact N8 r
def J2.len(r:J2 τ j vs as):vs.length=as.length:=by
 induction r with
 |nil=>rfl
 |cons _ _ a=>exact az (· +1) a
def RW(f:Jr j)(b:KA j k q){body}{c z}{vs}{as}(d:J2 τ j vs as)(h:(aF as.length c&&(JZ q body).run (PJ 2 as++bJ z ag) (λ_=>af) λv=>K<|RP v)=ah):aF vs.length c=ah/\∃e v a,kE k [] body (vs.map U++bJ z ag)=U (e,U v)/\AR τ j v (RP a)/\K (RP a)=ah:=by
 have g:=n2 h;refine rP d.len ?_;refine⟨g.1,?_⟩;cases So f b body (UR (τ':=λg=>(vs[g-2]?).elim 0 V5) d (io 1) (λm v e=>by show(vs[2+m-2]?).elim 0 V5=_;exact rP (ga ..) <| rP (e ..) J) z) g.2 with
 |go _ _ n=>obtain⟨_,_,k⟩:=n;exact ff k
 |ret e v a l r o=>exact⟨e,v,a,l,N8 r,o⟩
def W5{P:Y->au Fn}(c:Jr j)(b:KA j (kn P m) q){f}{vs}{as}(d:J2 τ j vs as)(h:(W6 P q f).run as K=ah):Ok τ j (wF P m (kn P m) f vs) K:=by
 unfold W6 at h;unfold wF;generalize P f=o at h⊢;cases o with
 |none=>exact ff h
 |some i=>cases i with
  |prim g=>exact ff h
  |code nv l ow body=>cases ow with
   |cons _ _=>exact ff h
   |nil=>
    obtain⟨e,s,v,a,n,r,k⟩:=RW c b d h
    show Ok τ j (match aF vs.length l with|true=>(kE (kn P m) [] body _).bind _|false=>ag) K
    exact rP e <| rP n <| ⟨v,_,J,r,k⟩
def HE{P:Y->au Fn}(a:Jr j):∀n:Y,KA j (kn P n)<|ka P n:=by
 intro n;induction n with
 |zero=>exact⟨λ_ h=>ff h,λ_ h=>ff h⟩
 |succ n b=>exact⟨λh e=>W3 a (b) h e,λc h=>W5 a (b) c h⟩
end
noncomputable def up(b L m:Z):Z × Z:=((4*L-m)*137438953472,b*m*4294967296)
noncomputable def dw(b L m:Z):Z × Z:=((4*L+m)*137438953472,-(b*m*4294967296))
noncomputable def vx(L m:Z):Z × Z:=((4*L+m)*137438953472,0)
noncomputable def wn(L m:Z):Z × Z:=((4*L-m)*137438953472,0)
noncomputable def N6(N:Y)(b L m:Z):(Z × Z) × (Z × Z) × (Z × Z):=match N with
 |0=>(vx L m,up b L m,wn L m)
 |1=>(dw b L m,vx L m,wn L m)
 |2=>(wn L m,vx L m,up b L m)
 |3=>(wn L m,dw b L m,vx L m)
 |4=>(up b L m,wn L m,vx L m)
 |_=>(vx L m,wn L m,dw b L m)
noncomputable def ca(p:Z × Z):AV:= .fl p.1 p.2 4096 0 af
noncomputable def RI(p:(Z × Z) × (Z × Z) × (Z × Z)):AV:= .t3 af (ca p.1) (ca p.2.1)<|ca p.2.2
noncomputable def Hy(p:Z × Z)(v:AV):aB:=v.F λc d n _ _=>aY (n+mg (c-p.1) (d-p.2)) 4096
noncomputable def Mx(p:(Z × Z) × (Z × Z) × (Z × Z))(v:AV):aB:=v.L λl x y z=> !l&&(Hy p.1 x&&(Hy p.2.1 y&&Hy p.2.2 z))
noncomputable def aI(a b:Z)(v:AV):aB:=v.I λc d=>decide (c=a)&&decide (d=b)
noncomputable def aT(a b l m:Z)(v:AV):aB:=v.L λt x y z=>t&&(aI a b x&&(aI l 0 y&&aI m 0 z))
noncomputable def LM(d:Z):aj<|Z × Z × Z:=[1,2,3,4].flatMap λs=>[(4+d,s*(4-d),s),(4-d,s*(4-d),s)]
noncomputable def Si(b d:Z)(M:Y)(f:Y->Z->Z->Z->Z->aB):aB:=(LM d).all λp=>(cj M).all λN=>f N b p.1 p.2.1 p.2.2
noncomputable def S_(k:Ka)(N:Y)(b L m _:Z):aB:=(k.ca 20).run [RI<|N6 N b L m,.bo af] (aT (N*64) b L<|2*m)&&(k.ca 20).run [RI<|N6 N b L m,.bo ah] (aT ((N+3)%6*64:Y) b (8-L)<|2*m)
noncomputable def ab4(k:Ka)(N:Y)(b L m _:Z):aB:=(k.ca 10).run [.fl ((N:Z)*64*Tt/384) (b*Tt/384) 65 0 af,.fl (2*m*Tt/(4*L+m)) 0 2 0 af,.fl ((4*L+m)*137438953472) 0 1 0 af]<|Mx<|N6 (N%6) b L m
noncomputable def ab5(k:Ka)(N:Y)(b L m s:Z):aB:=(k.ca 7).run [.fm ((N:Z)*64*Tt/384) (b*Tt/384) 65,.fl (L*549755813888) 0 1 0 af,.fl (s*1099511627776) 0 1 0 af]<|Mx<|N6 N b L m
noncomputable def zd(k:Ka)(b d:Z):aB:=Si b d 6 (S_ k)&&(Si b d 6 (ab5 k)&&Si b d 24 (ab4 k))
section
variable {m:Y}
def c11:zd (ka L2.P<|m+20) 1 1=ah:=by kernel_rfl
def c12:zd (ka L2.P<|m+20) 1 2=ah:=by kernel_rfl
def c13:zd (ka L2.P<|m+20) 1 3=ah:=by kernel_rfl
def c01:zd (ka L2.P<|m+20) 0 1=ah:=by kernel_rfl
def c02:zd (ka L2.P<|m+20) 0 2=ah:=by kernel_rfl
def c03:zd (ka L2.P<|m+20) 0 3=ah:=by kernel_rfl
def cells(c:b=0\/b=1)(a:d=1\/d=2\/d=3):zd (ka L2.P<|m+20) b d=ah:=by
 rcases c with rfl|rfl
 ·rcases a with rfl|rfl|rfl
  ·exact c01
  ·exact c02
  ·exact c03
 ·rcases a with rfl|rfl|rfl
  ·exact c11
  ·exact c12
  ·exact c13
end
section
variable {K:AV->aB}
theorem yN{p:Z × Z}(b:Jr j)(r:AR τ j v a)(h:Hy p a=ah):AR τ j v<|ca p:=r.F h λ{x c d n _ _} e _ _ g=>⟨x,J,(e.to (q:=p.1+p.2*j)<|by exact rP (show c+d*j-(p.1+p.2*j)=c-p.1+(d-p.2)*j by rw[fD];omega) <| uW b).wide<|aD g,⟨nofun,nofun⟩,nofun⟩
def Dx{p:(Z × Z) × (Z × Z) × (Z × Z)}(b:Jr j)(r:AR τ j v a)(h:Mx p a=ah):AR τ j v<|RI p:=r.L h λ{l _ _ _ _ _ _} e f i h=>by have g:=n2 h;have c:=n2 g.2;have d:=n2 c.2;exact rP (n0 g.1) <| ⟨_,_,_,J,yN b e c.1,yN b f d.1,yN b i d.2⟩
def Ot{c d}(r:AR τ j v a)(h:aI c d a=ah):v= .int (c+d*j):=r.I h λe h=>by have g:=n2 h;exact rP e<|rP (aq g.1)<|rP (aq g.2) J
def Uh{c d l m}(r:AR τ j v a)(h:aT c d l m a=ah):v= .lst [.int<|c+d*j,.int l,.int m]:=r.L h λ{t _ _ _ _ _ _} f i k h=>by have g:=n2 h;have b:=n2 g.2;have e:=n2 b.2;exact rP (Ot f b.1 ..) <| rP (Ot i e.1 ..) <| rP (Ot k e.2 ..) <| rP (dG ..) <| rP (cE ..) <| rP (cE ..) <| rP (g.1 ..) J
def boR{b}:AR τ j (.bool b)<|.bo b:=J
def fmR{c d k}(a:k.natAbs<=4)(h:Ax x (c+d*j+k*Tt) n):AR τ j (.fw x)<|.fm c d n:=⟨x,J,k,a,h⟩
structure Tl(col:PV)(gb L m:Z):Prop where
 f:∀n,(kn L2.P<|n+20).ca 20 [col,.bool af]=U (.lst [.int<|gb.fmod 384,.int L,.int<|2*m])
 t:∀n,(kn L2.P<|n+20).ca 20 [col,.bool ah]=U (.lst [.int<|(gb+192).fmod 384,.int<|8-L,.int<|2*m])
structure Pl(gb:Z)(p:Y)(b j:Z):Prop where
 hj:Jr j
 hb:b=0\/b=1
 hp:p<12
 e:gb=64*p+b*j
theorem Tk{gb}(a:0<=gb)(c:gb<=714):∃p b j,Pl gb p b j:=by
 have lt:(gb/64).toNat<12:=oz [_] [gb/64,gb%64,gb] 0x1e40154015131d02ca2f824401f210f00cc902 J ⟨J,J⟩ c;have e:((gb/64).toNat:Z)=gb/64:=kQ<|AC a<|dcd J;have d:gb=64*(gb/64)+gb%64:=(m8 gb 64).symm;by_cases h:gb%64=0
 ·exact⟨_,0,1,⟨by decide,by decide⟩,.inl J,lt,rP e (by rw[h]at d;exact d)⟩
 ·exact⟨_,1,gb%64,⟨oz [] [_,gb/64,gb] 0x1cac90401f201f5067044 h ⟨J,J⟩,oz [] [_,gb/64,gb] 0x180401f201f3f1f804 ⟨J,J⟩⟩,.inr J,lt,rP e<|rP (fb _) d⟩
theorem Pl.bj{gb}{p}{b j}(P:Pl gb p b j):0<=b*j/\b*j<=63:=by
 have a:=P.hj.lo;have c:=P.hj.hi;cases P.hb with
 |inl h=>exact rP h<|rP (dG j) ⟨lD 0,by decide⟩
 |inr h=>exact rP h<|rP (fb j) ⟨ft (dcd J) a,c⟩
theorem fm6{N:Y}{x:Z}{k:Z}(a:0<=x/\x<=63)(b:N<6)(e:y=384*k+(64*N+x)):y.fmod 384=64*N+x:=rP (bG _<|dcd J)<|rP e<|rP (Int.mul_add_emod_self_left 384 k _)<|Pt (f7 92390117329236 a.1)<|f7 0x4015069023f1f8041802f807401fc95 a.2 b
def d6(p:Y):(p:Z)=6*((p:Z)/6)+((p%6:Y):Z):=(m8 p 6).symm
theorem S'{gb L m:Z}{p:Y}{b j s:Z}(P:Pl gb p b j)(h:∀n,S_ (ka L2.P<|n+20) (p%6) b L m s=ah)(r:AR τ j v<|RI<|N6 (p%6) b L m):Tl v gb L m:=by
 have x:=P.bj;have e:=P.e;refine⟨λn=> ?_,λn=> ?_⟩
 ·obtain⟨k,l,a,c,d⟩:=(HE (P:=L2.P) P.hj<|n+20).ca (.cons r<|.cons boR .nil) (n2<|h n).1;exact rP (a ..)<|rP (Uh c d ..)<|rP (fm6 x (bP p (by decide:0<6)) (oz [_,_] [_,_,_] 0x34016a401520716c9f62f401fc90627401fc911802fc906 e<|d6 p) ..)<|rP (jA 64 ..) J
 ·obtain⟨o,q,f,g,i⟩:=(HE (P:=L2.P) P.hj<|n+20).ca (.cons r<|.cons boR .nil) (n2<|h n).2;exact rP (f ..) <| rP (Uh g i ..) <| rP (fm6 (N:=(p%6+3)%6) x (bP _ (by decide:0<6))<|oz [_,_,_] [_,_,_,_] 0x340164016a4015401520716c9392a662626c9f63f401fc90637401fc92191802fc9c01f8096 e (d6 p)<|d6<|p%6+3) <| rP (jA 64 ..) <| rP (aS ..) J
def yc{k:Ka}{b d:Z}{f:Y->Z->Z->Z->Z->aB}(h:Si b d M f=ah)(a:(L,m,s)∈LM d)(c:N<M):f N b L m s=ah:=a_.mp (a_.mp h _ a) N<|eQ.mpr c
def flA{c d}(h:Ax x (c+d*j) n):AR τ j (.fw x)<|.fl c d n 0 af:=⟨x,J,h,⟨nofun,nofun⟩,nofun⟩
def y1{a b q:Z}(c:0<b)(d:a.natAbs<2048*b.natAbs)(f:a*Tt=q*b):AR τ j (.fw<|dv a b)<|.fl q 0 1 0 af:=flA<|by exact rP (dG ..) <| rP (cE ..) <| NU (e:=0) c d (by refine rP (f ..)<|rP (aaL ..)<|rP (oD ..) ?_;exact aZ 0)
theorem Nf{N k b y}(c:Jr j)(e:y=64*N+b*j+384*k)(d:y.natAbs<786432):Ax (dv y 384) (N*64*Tt/384+b*Tt/384*j+k*Tt) 65:=by
 refine NU (dcd J) d (e:=64) ?_;have f:=y_ (a:=N*64*Tt) (k:=384)<|dcd J;have g:=y_ (a:=b*Tt) (k:=384)<|dcd J;have t:=Bz c f g
 have h:y*(Tt:Z)-(N*64*Tt/384+b*Tt/384*j+k*Tt)*384=N*64*Tt-N*64*Tt/384*384+(b*Tt-b*Tt/384*384)*j:=by refine rP e ?_;generalize(Tt:Z)=T at*;grind
 exact rP h t
def aan:∀d∈[(1:Z),2,3],∀p∈LM d,1<=p.1/\p.1<=7/\1<=p.2.1/\p.2.1<=12/\1<=p.2.2/\p.2.2<=4:=by decide
def OC{d}(a:d=1\/d=2\/d=3)(b:(L,m,s)∈LM d):1<=L/\L<=7/\1<=m/\m<=12/\1<=s/\s<=4:=aan d (by rcases a with rfl|rfl|rfl<;>decide) _ b
def Oe{d gb f L m s:Z}(h:d=1\/d=2\/d=3)(i:(L,m,s)∈LM d)(t:0<=gb)(o:gb<=714)(u:0<=f)(w:f<=2):∃g,(kn L2.P<|n+20).ca 10 [.fw<|dv (gb+384*f) 384,.fw<|dv (2*m)<|4*L+m,.fw<|dv (4*L+m) 32]=U g/\Tl g gb L m:=by
 obtain⟨p,b,j,P⟩:=Tk t o;have C:=n2<|cells (m:=n) P.hb h;have l:=OC h i;have x:=P.bj;have e:=P.e;have B:=P.hp;have H:=yc (k:=ka L2.P<|n+20) (n2 C.2).2 i (N:=p+6*f.toNat)<|oz [_,_] [_,_,_] 0x401518025993401518025918025232027401fc91625428042ca2f81401c181f916c0a2 J o w x.1 e;have r:=y_ (a:=2*m*Tt) (k:=4*L+m)<|sS 0x40520144044104c955 l.1 l.2.2.1;have z:=Nf (N:=((p+6*f.toNat:Y):Z)) (k:=0) (b:=b) P.hj (y:=gb+384*f) (oz [_,_] [_,_,_] 0x18025118025321802573a1802599027401fc90615411c51802fc216c0a6401fc9911802fc096 J u e)<|BV 0x78180251ab8180252028141542ca2f80405411802fc090bc00004f902 J t o u w;have D:=NU (a:=2*m) (b:=4*L+m) (q:=2*m*Tt/(4*L+m)) (e:=1) (sS 0x40520144044104c955 l.1 l.2.2.1) (BU 0x7800251200035802259c401253ff25805190044144014c91b02c0b18002fc02 J J l.1 l.2.2.1)<|oz [_,_] [_,_,_,_] 0x7840528989b990324c910a510a54344244324c91b10a0b11c01 J J l.1 l.2.2.1 r.1 r.2;rw[dG,cE]at z
 obtain⟨v,a,E,I,M⟩:=(HE (P:=L2.P) P.hj<|n+20).ca (τ:=λ_=>0) (vs:=[.fw<|dv (gb+384*f) 384,.fw<|dv (2*m)<|4*L+m,.fw<|dv (4*L+m) 32]) (.cons (flA z)<|.cons (flA (c:=2*m*Tt/(4*L+m)) (d:=0)<|rP (dG ..) <| rP (cE ..) D)<|.cons (y1 (q:=(4*L+m)*137438953472) (dcd J) (BU 0x7800251405189c800257405990c8141447804044201f81b104c90b18002fc02 J J l.1 l.2.1 l.2.2.1 l.2.2.2.1)<|rP (eT ..) <| sS 0x104c920000000009fd201fd104c940000000000afd6) .nil) H
 refine⟨v,E,?_⟩;have A:=Dx P.hj I M;rw[show(p+6*f.toNat)%6=p%6 from CW ..]at A;exact S' P (λn=>yc (k:=ka L2.P<|n+20) (n2<|cells P.hb h).1 i<|bP p<|dcd J) A
theorem Of{d gb c L m s:Z}(g:d=1\/d=2\/d=3)(h:(L,m,s)∈LM d)(i:0<=gb)(o:gb<=714)(r:0<=c)(t:c<=2):∃f,(kn L2.P<|n+20).ca 7 [.fw<|dv (gb-384*c) 384,.fw<|dv L 8,.fw<|dv s 4]=U f/\Tl f gb L m:=by obtain⟨p,b,j,P⟩:=Tk i o;have C:=n2<|cells (m:=n) P.hb g;have l:=OC g h;have x:=P.bj;have e:=P.e;have w:=P.hp;have u:=bP p (show 0<6 by decide);have H:=yc (k:=ka L2.P<|n+20) (n2 C.2).1 h u;obtain⟨v,a,z,A,B⟩:=(HE (P:=L2.P) P.hj<|n+20).ca (τ:=λ_=>0) (vs:=[.fw<|dv (gb-384*c) 384,.fw<|dv L 8,.fw<|dv s 4]) (.cons (fmR (k:=(p:Z)/6-c) (oz [_,_] [_,_,_,_,_] 0x18025180257401540151c180251a18025180257401614015918025183204ef401fc9363f1f84e44e5428141542ca2f8343546f20f10a0b4901 J ⟨J,J⟩ i o r t x.1 x.2 e)<|Nf (N:=((p%6:Y):Z)) (b:=b) P.hj (y:=gb-384*c) (oz [_,_] [_,_,_,_] 0x34016a401520736c9f62f401fc90613a1802fc27401fc9911802fc0a6 e<|d6 p)<|BV 0x7c180252c9180259028141542ca2f80405411802fc0a0bc00004f902 J i o r t)<|.cons (y1 (q:=L*549755813888) (dcd J) (v_ 0x780025189c8002519907804044881b00b18002fc02 J J l.1 l.2.1)<|rP eT <| lE 0x80000000009fd8d040000000000afd6)<|.cons (y1 (q:=s*1099511627776) (dcd J) (v_ 0x780025189c8002519904804044481b00b18002fc02 J J l.2.2.2.2.1 l.2.2.2.2.2)<|rP eT <| lE 0x10000000000afd4d040000000000afd6) .nil) H;exact⟨v,z,S' P (λn=>yc (k:=ka L2.P<|n+20) (n2<|cells P.hb g).1 h u)<|Dx P.hj A B⟩
end
section
variable {P:Y->au Fn} {k:Kn} {m:Y} {E:Env}
def bO(h:k.ex E c=U v)(a:qV k E b=U vs):qV k E (c::b)=U (v::vs):=bE h<|bE a J
def x_call(h:qV (kn P m) E a=U vs)(b:(kn P m).ca f vs=U r):(kn P<|m+1).ex E (.call f a)=U r:=bE h b
def pK(h:qV (kn P m) E a=U vs):(kn P<|m+1).ex E (.lst a)=U (.lst vs):=bE h J
def GY(h:qV (kn P m) E a=U vs):(kn P<|m+1).ex E (.tup a)=U (.tup vs):=bE h J
def jr(b:(kn P m).ex E t=U x)(c:(kn P m).ex E a=U y)(h:i4 o x y=U q):(kn P<|m+1).ex E (.cmp t [o] [a])=U (.bool q):=bE b<|bE (bE c h) J
def G2(h:((kn P m).ex E t).bind truth=U af)(c:(kn P m).ex E b=U r):(kn P<|m+1).ex E (.ite t a b)=U r:=bB h c
def rE(e:k.ex (hide ow E) a=U v)(f:k.ex (hide ow E) b=U w)(g:uQ ow d [v,w]=ah)(h:gH.go k d [v,w] E=U c):sx k ow (.par af d [a,b]) E=U (c,ag):=bE (bE e<|bE (bE f J) J)<|mT g<|bE h J
def yy(a:E[i]? =U (U<|.lst xs))(h:k.ex (hide ow E) c=U v)(b:xs.length<=big):sx k ow (.app i af c) E=U (E.set i<|U<|.lst<|xs++[v],ag):=bE (rP a J)<|bE h (show(match aY xs.length big with|true=>U (E.set i<|U<|.lst<|xs++[v],ag)|false=>ag)=_ from mT (aP b) J)
end
def re(d:a.natAbs<=1099511627776)(e:b.natAbs<=1099511627776):binI .Mult a b=U (.int<|a*b):=by
 have c:∀{x},x<=1099511627776->x.log2<=41:=λ{x} h=>by
  by_cases q:x=0
  ·subst q;decide
  ·exact eF<|(Kg q).mpr<|bi h<|dcd J
 have f:=c d;have b1:=c e;show gL (w7 a b) _=_;unfold w7;exact rP (aP<|cQ 0x291f911291f90120000006f910a1 f b1) J
def Y8(h:a.natAbs<9007199254740992):tG a=af:=by
 unfold tG;cases q:aY 9007199254740992 a.natAbs with
 |false=>rfl
 |true=>exact(fM.mpr (aD q) h).elim
def Ag(c:b≠0)(d:a.natAbs<9007199254740992)(e:b.natAbs<9007199254740992):binI .Div a b=U (.fw<|dv a b):=by show gL (!(decide (b=0))&&(!(tG a)&& !(tG b))) _=_;exact rP (bz c) <| rP (Y8 d) <| rP (Y8 e) J
def ZH(h:n=2\/n=3\/n=4):binI .FloorDiv 192 n=U (.int<|xI 192 n):=by rcases h with rfl|rfl|rfl<;>rfl
noncomputable def lj(a g:Z):Z:=if g.fmod 2=0 then 4+a else 4-a
noncomputable def placeOf(n a g:Z):Z:=6*a+g*xI 192 n
noncomputable def toldOf(n b a c g:Z):PV:= .lst [.int<|(placeOf n b g).fmod 384,.int<|lj a g,.int<|2*c]
def Be{a}:(∀x∈a,oC x x=ah)->y4 a a=ah:=by
 induction a with
 |nil=>intro _;exact J
 |cons x a b=>intro h;have c:=h x<|.head _;have d:=b λy e=>h y<|.tail _ e;show(match oC x x with|true=>y4 a a|false=>af)=ah;exact rP c d
def TV(h:plain0 v=ah):oC v v=ah:=by
 cases v with
 |str s=>exact li.mpr J
 |none=>rfl
 |bool b=>exact cH b
 |int i=>exact cH i
 |_=>exact ff h
def D4(n):∀{v},fv n v=ah->oC v v=ah:=by
 induction n with
 |zero=>intro v h;exact TV h
 |succ n c=>
  intro v h;cases v with
  |lst a=>exact Be λx b=>c<|a_.mp (show a.all (fv n)=ah from h) x b
  |tup a=>exact Be λx b=>c<|a_.mp (show a.all (fv n)=ah from h) x b
  |_=>exact TV h
def ne_self(h:fv 6 (.lst a)=ah):i4 .NotEq (.lst a) (.lst a)=U af:=by show(gL (fv 6 (.lst a)&&fv 6 (.lst a))<|oC (.lst a)<|.lst a).bind (λr=>U<|!r)=_;exact rP h <| rP (D4 6 h) J
def PG:i4 .NotEq (.lst [.lst [.int a,.int b,.int c],.lst [.int d,.int e,.int f]]) (.lst [.lst [.int a,.int b,.int c],.lst [.int d,.int e,.int f]])=U af:=ne_self J
structure Sq(n base share depth turns:Z):Prop where
 n4:n=2\/n=3\/n=4
 b0:0<=base
 b1:base<64
 s0:1<=share
 s1:share<=4
 d0:1<=depth
 d1:depth<=3
 t0:0<=turns
 t1:turns<=2
def Uj:aj S:=match L2.o9 with
 |_::_:: .FZ _ _ b::_=>b
 |_=>[]
def Sq.dd(p:Sq n d b a c):a=1\/a=2\/a=3:=by have:=p.d0;have:=p.d1;exact lE 0xbaeae8f038040443806280694069 (by assumption) this
def Sq.lm{n d b a c:Z}(p:Sq n d b a c)(g:Z):(lj a g,b*(4-a),b)∈LM a:=by
 have e:=p.s0;have f:=p.s1;have h:b=1\/b=2\/b=3\/b=4:=lE 0xeae98eae99f04804044480638069280694069 e f
 have l:lj a g=4+a\/lj a g=4-a:=by
  unfold lj;by_cases q:g.fmod 2=0
  ·exact rP (bM q) <| .inl J
  ·exact rP (bA q) <| .inr J
 rcases l with l|l<;>refine rP l ?_<;>rcases h with rfl|rfl|rfl|rfl<;>simp[LM]
def Sq.place(p:Sq n a b c d)(e:0<=g)(f:g<2*n):0<=placeOf n a g/\placeOf n a g<=714/\(g.natAbs<=8/\(xI 192 n).natAbs<=96):=by
 have h:=p.b0;have b1:=p.b1;rcases p.n4 with rfl|rfl|rfl
 ·exact(show xI 192 2=96 from rfl)▸BU 0xb8e9bceab8e9bcefb9eabe8ace60560157ae6015605b90282c15401f805054154601f81b10b601f911890182ca2f81601fd06c9481601fd06c9548 J J e h b1 f
 ·exact(show xI 192 3=64 from rfl)▸BU 0xb8e9bceab8e9bcefb9eabe8ace60540157ae4015605b90382c15401f805054154401f81b10b601f911890182ca2f81401fd06c9481401fd06c9548 J J e h b1 f
 ·exact(show xI 192 4=48 from rfl)▸BU 0xb8e9bceab8e9bcefb9eabe8ace60530157ae3015605b90482c15401f805054154301f81b10b601f911890182ca2f81301fd06c9481301fd06c9548 J J e h b1 f
def MW(c:E[8]? =U (U<|.int g))(d:E[4]? =U (U<|.int a)):(kn L2.P<|m+4).ex E (.ite (.bin .Mod (.var 8)<|.lit<|.int 2) (.bin .Sub (.lit<|.int 4)<|.var 4)<|.bin .Add (.lit<|.int 4)<|.var 4)=U (.int<|lj a g):=by
 have e:(kn L2.P<|m+2).ex E (.var 8)=U (.int g):=by show(E[8]?).bind id=_;exact rP c J
 have b:(kn L2.P<|m+2).ex E (.var 4)=U (.int a):=by show(E[4]?).bind id=_;exact rP d J
 have t:(kn L2.P<|m+3).ex E (.bin .Mod (.var 8)<|.lit<|.int 2)=U (.int<|g.fmod 2):=bC e J J;unfold lj;by_cases q:g.fmod 2=0
 ·exact rP (bM q) <| G2 (by refine rP t ?_;show U (g.fmod 2 !=0)=_;refine rP q ?_;rfl)<|bC J b J
 ·exact rP (bA q) <| G1 (by refine rP t ?_;show U (g.fmod 2 !=0)=_;exact rP (Xc.mpr q) J)<|bC J b J
def Nv(p:Sq n c b a d)(g0:0<=g)(g1:g<2*n)(hs:j.length<=64):∃b9 B D E,kE (kn L2.P<|m+30) [7] Uj [U<|.int n,U<|.int e,U<|.int c,U<|.int b,U<|.int a,U<|.int d,U<|.int<|b*(4-a),U<|.lst j,U<|.int g,a9,H,u,s,k,l]= U ([U<|.int n,U<|.int e,U<|.int c,U<|.int b,U<|.int a,U<|.int d,U<|.int<|b*(4-a),U<|.lst<|j++[toldOf n c a (b*(4-a)) g],U<|.int g,b9,B,D,E,k,l],ag):=by
 have r:=p.place g0 g1;have I:=p.lm g;have A:=OC p.dd I;have w:=p.t0;have x:=p.t1;have b0:=p.b0;have b1:=p.b1;have s0:=p.s0;have s1:=p.s1;have l1:=A.1;have l7:=A.2.1;have y:=A.2.2.1;have z:=A.2.2.2.1
 have tq:sx (kn L2.P<|m+30) [7] (.par af [.v 9,.v 10] [.bin .Add (.bin .Mult (.lit<|.int 6)<|.var 2)<|.bin .Mult (.var 8)<|.bin .FloorDiv (.lit<|.int 192)<|.var 0,.ite (.bin .Mod (.var 8)<|.lit<|.int 2) (.bin .Sub (.lit<|.int 4)<|.var 4)<|.bin .Add (.lit<|.int 4)<|.var 4]) [U<|.int n,U<|.int e,U<|.int c,U<|.int b,U<|.int a,U<|.int d,U<|.int<|b*(4-a),U<|.lst j,U<|.int g,a9,H,u,s,k,l]=U ([U<|.int n,U<|.int e,U<|.int c,U<|.int b,U<|.int a,U<|.int d,U<|.int<|b*(4-a),U<|.lst j,U<|.int g,U<|.int<|placeOf n c g,U<|.int<|lj a g,u,s,k,l],ag):=rE (bC (bC J J (re (dcd J) (f7 0x78aba0401f80505400b10000000000af901 J b0 b1))) (bC J (bC J J (ZH p.n4)) (re (ab r.2.2.1 (dcd J)) (ab r.2.2.2 (dcd J)))) J) (MW J J) J J
 generalize hm:b*(4-a)=M at*;generalize hl:lj a g=L at*;generalize hp:placeOf n c g=O at*
 have h:∃i,sx (kn L2.P (m+30)) [7] (.A7 (.bin .Mod (.bin .Add (.var 8) (.bin .FloorDiv (.var 1) (.lit (.int 2304)))) (.lit (.int 2))) [.asg af (.v 11) (.call 10 [.bin .Div (.bin .Add (.var 9) (.bin .Mult (.lit (.int 384)) (.var 5))) (.lit (.int 384)),.bin .Div (.bin .Mult (.lit (.int 2)) (.var 6)) (.bin .Add (.bin .Mult (.lit (.int 4)) (.var 10)) (.var 6)),.bin .Div (.bin .Add (.bin .Mult (.lit (.int 4)) (.var 10)) (.var 6)) (.lit (.int 32))])] [.asg af (.v 11) (.call 7 [.bin .Div (.bin .Sub (.var 9) (.bin .Mult (.lit (.int 384)) (.var 5))) (.lit (.int 384)),.bin .Div (.var 10) (.lit (.int 8)),.bin .Div (.var 3) (.lit (.int 4))])]) [U (.int n),U (.int e),U (.int c),U (.int b),U (.int a),U (.int d),U (.int M),U (.lst j),U (.int g),U (.int O),U (.int L),u,s,k,l]=U ([U (.int n),U (.int e),U (.int c),U (.int b),U (.int a),U (.int d),U (.int M),U (.lst j),U (.int g),U (.int O),U (.int L),U i,s,k,l],ag)/\Tl i O L M:=by
  by_cases q:(g+e.fdiv 2304).fmod 2=0
  ·obtain⟨i,run,T⟩:=Of (n:=m+9) p.dd I r.1 r.2.1 w x;refine⟨i,iy (by show U ((g+e.fdiv 2304).fmod 2 !=0)=_;exact rP q J) (dR (kR (x_call (bO (bC (bC J (bC J J (re (dcd J) (f7 0x78aba0280405400b10000000000af901 J w x))) J) J (Ag (dcd J) (BV 0xb1802529c180257a02ca2f804054281415411802fc0a0b20000000000000df902 J w x r.1 r.2.1) (dcd J))) (bO (bC J J (Ag (dcd J) (f7 0x78aba0780404400b20000000000000df902 J l1 l7) (dcd J))) (bO (bC J J (Ag (dcd J) (f7 0x78aba0480404400b20000000000000df902 J s0 s1) (dcd J))) J))) run) J) J),T⟩
  ·obtain⟨i,run,T⟩:=Oe (n:=m+9) p.dd I r.1 r.2.1 w x;refine⟨i,kB (by show U ((g+e.fdiv 2304).fmod 2 !=0)=_;exact rP (Xc.mpr q) J) (dR (kR (x_call (bO (bC (bC J (bC J J (re (dcd J) (f7 0x78aba0280405400b10000000000af901 J w x))) J) J (Ag (dcd J) (BV 0x71802518ab180251a02ca2f804054281415411802fc090b20000000000000df902 J w x r.1 r.2.1) (dcd J))) (bO (bC (bC J J (re (dcd J) (f7 0x78aba0c80404400b10000000000af901 J y z))) (bC (bC J J (re (dcd J) (f7 0x78aba0780404400b10000000000af901 J l1 l7))) J J) (Ag (sS 0x40500441445104c967 y l1) (f7 0x741ab420c80404402c0b20000000000000df902 J y z) (BV 0x784051ab8405207804044c814144104c90b20000000000000df902 J y z l1 l7))) (bO (bC (m:=m+28) (bC (m:=m+27) (bC (m:=m+26) J J (re (dcd J) (f7 0x78aba0780404400b10000000000af901 J l1 l7))) J J) J (Ag (dcd J) (BV 0x784051ab8405207804044c814144104c90b20000000000000df902 J y z l1 l7) (dcd J))) J))) run) J) J),T⟩
 obtain⟨i,h,T⟩:=h;have f:=T.f (m+8);have t:=T.t (m+8);have Q:binop .Mult (.int 2) (.int M)=U (.int (2*M)):=re (dcd J) (f7 0x78aba0c80404400b10000000000af901 J y z);refine⟨_,_,_,_,dR tq (dR h (dR (kR (pK (bO (x_call (bO J (bO J J)) f) (bO (x_call (bO J (bO J J)) t) J))) J) (dR (iy ?_ J) (dR (yy J ?_ (ab hs (dcd J))) J))))⟩
 ·refine az (λo=>jf o truth) (jr J (pK (bO (pK (bO J (bO J (bO (bC J J Q) J)))) (bO (pK (bO J (bO J (bO (bC J J Q) J)))) J))) PG)
 ·exact rS hp <| rS hl J
noncomputable def Fq(n d e a b c:Z)(f:aj PV)(l m g h i j k:au PV):Env:=[U<|.int n,U<|.int d,U<|.int e,U<|.int a,U<|.int b,U<|.int c,U<|.int<|a*(4-b),U<|.lst f,l,m,g,h,i,j,k]
def Jx(p:Sq n c b a d){gs:aj Z}:∀{sNs:aj PV} {a8 a9 a10 a11 a12:au PV},(∀g∈gs,0<=g/\g<2*n)->sNs.length+gs.length<=64-> ∃q j f h i,iZ (λe=>kE (kn L2.P<|m+30) [7] Uj e) (.v 8) (gs.map .int) (Fq n heap c b a d sNs a8 a9 a10 a11 a12 a13 a14)=U (Fq n heap c b a d (sNs++gs.map (toldOf n c a<|b*(4-a))) q j f h i a13 a14,ag):=by
 induction gs with
 |nil=>exact @λsNs a8 a9 a10 a11 a12 _ _=>⟨a8,a9,a10,a11,a12,by rw[oA,oA,eB];rfl⟩
 |cons g gs r=>refine @λsNs a8 a9 a10 a11 a12 k l=> ?_;rw[bK]at l;obtain⟨j,f,h,i,s⟩:=Nv p (k g<|.head _).1 (k g<|.head _).2<|ab (bq ..) l;refine(r (sNs:=sNs++[toldOf n c a (b*(4-a)) g]) (a8:=U<|.int g) (a9:=j) (a10:=f) (a11:=h) (a12:=i) (λx t=>k x<|.tail _ t)<|rP aW <| cQ 0x401f91b0a1401f910ba1 l).imp λw=>cX λy=>cX λu=>cX λc11=>cX λc12 o=>bE J<|bE s ?_;rw[dS]at o;exact o
noncomputable def tri(x:cR × cR × cR):PV:= .tup [.fw x.1,.fw x.2.1,.fw x.2.2]
theorem Nn:(kn L2.P<|m+10).ca 7 [.fw x,.fw y,.int 0]=U (tri (y,y,y)):=kb J J<|rH (show U (H4<|je 0 0)=U ah by rw[show je 0 0=U .eq by decide+kernel];rfl) ⟨_,J⟩
def Nl:(kn L2.P<|m+10).ca 10 [.fw x,.int 0,.fw y]=U (tri (y,y,y)):=kb J J<|rH (show U (H4<|je 0 0)=U ah by exact rP (show je 0 0=U .eq by decide+kernel) J) ⟨_,J⟩
noncomputable def No(d:Z):PV:= .lst [.lst [.lst [.int 0,.int d,.int 0],.lst [.int 0,.int<|8-d,.int 0]],.lst [.lst [.int 0,.int d,.int 0],.lst [.int 0,.int<|8-d,.int 0]]]
def Zx(c:a=1\/a=2\/a=3)(g:0<=b)(b1:b<64):Run (kn L2.P<|m+30) [7] (L2.o9.drop 3) (Fq n h b d a e f l o i j k ag ag)<|.lst f:=by
 refine fg (kR (pK<|bO (x_call (bO (bC J J<|Ag (dcd J) (f7 0x78aba0401f80505400b20000000000000df902 J g b1)<|dcd J)<|bO (bC J J<|Ag (dcd J) (f7 0x732c3ac3acacdcd0380628069406900b20000000000000df902 J c)<|dcd J)<|bO J J)<|Nn)<|bO (x_call (m:=m+28) (bO (bC (m:=m+27) J J<|Ag (dcd J) (f7 0x78aba0401f80505400b20000000000000df902 J g b1)<|dcd J)<|bO J<|bO (bC (m:=m+27) J J<|Ag (dcd J) (f7 0x732c3ac3acacdcd0380628069406900b20000000000000df902 J c)<|dcd J) J)<|Nl (m:=m+18)) J) J) ?_;rcases c with rfl|rfl|rfl
 ·exact fg (kR (v:=No 1) (by kernel_rfl) J)<|mQ<|by kernel_rfl
 ·exact fg (kR (v:=No 2) (by kernel_rfl) J)<|mQ<|by kernel_rfl
 ·exact fg (kR (v:=No 3) (by kernel_rfl) J)<|mQ<|by kernel_rfl
def uO(h:mU k (hide ow E) c=U items)(b:iZ (λe=>kE k ow body e) t items E=U (a,r)):sx k ow (.FZ t c body) E=U (a,r):=by show(mU k (hide ow E) c).bind (λitems=>iZ (λe=>kE k ow body e) t items E)=_;exact h▸b
def Fp(h0:0<=i)(t:n=2\/n=3\/n=4):∃l j r:Z,(j=1\/j=2\/j=3)/\(kn L2.P<|m+31).ca 21 [.int n,.int i]=U (.lst<|(hJ 0 (2*n) 1).map<|toldOf n l j r):=by
 have o:Sq n (i.fmod 64) (1+(i.fdiv 64).fmod 4) (1+(i.fdiv 256).fmod 3)<|(i.fdiv 768).fmod 3:=by have a:=ij i (show(0:Z)<64 by decide);have b:=jD i (show(0:Z)<64 by decide);have c:=ij (i.fdiv 64) (show(0:Z)<4 by decide);have d:=jD (i.fdiv 64) (show(0:Z)<4 by decide);have e:=ij (i.fdiv 256) (show(0:Z)<3 by decide);have f:=jD (i.fdiv 256) (show(0:Z)<3 by decide);have g:=ij (i.fdiv 768) (show(0:Z)<3 by decide);have h:=jD (i.fdiv 768) (show(0:Z)<3 by decide);exact⟨t,a,b,(lE 88099140 c),(lE 309326251156 d),(lE 88099140 e),(lE 240605725844 f),g,(lE 939862020 h)⟩
 refine⟨i.fmod 64,1+(i.fdiv 256).fmod 3,(1+(i.fdiv 64).fmod 4)*(4-(1+(i.fdiv 256).fmod 3)),by have:=o.d0;have:=o.d1;exact lE 0xbaeae8f0380494049443804962804969404969 (by assumption) this,?_⟩;refine kb J J ?_;generalize x:i.fmod 64=l at*;generalize y:1+(i.fdiv 64).fmod 4=k at*;generalize z:1+(i.fdiv 256).fmod 3=j at*;generalize A:(i.fdiv 768).fmod 3=q at*;have l1:binI .Mult k (4-j)=U (.int<|k*(4-j)):=re (by have:=o.s0;have:=o.s1;exact f7 0x78aba0480404400b10000000000af901 J (by assumption) this) (by have:=o.d0;have:=o.d1;exact f7 0xba89903804044048a0b10000000000af901 J (by assumption) this)
 have B:∀g∈hJ 0 (2*n) 1,0<=g/\g<2*n:=by rcases t with rfl|rfl|rfl<;>decide
 have D:(hJ 0 (2*n) 1).length<=8:=by rcases t with rfl|rfl|rfl<;>decide
 obtain⟨b8,b9,E,H,I,s⟩:=Jx (m:=m) (heap:=i) (a13:=ag) (a14:=ag) o (gs:=hJ 0 (2*n) 1) (sNs:=[]) (a8:=ag) (a9:=ag) (a10:=ag) (a11:=ag) (a12:=ag) B (by simp only[fC];exact du 0x8901401f907a1 D);refine fg (e:=[U<|.int n,U<|.int i,U<|.int l,U<|.int k,U<|.int j,U<|.int q,ag,ag,ag,ag,ag,ag,ag,ag,ag]) (rS x <| rS y <| rS z <| rS A J)<|fg (rE (v:= .int<|k*(4-j)) (w:= .lst []) (bC (m:=m+29) J J l1) J J J)<|fg (uO (items:=(hJ 0 (2*n) 1).map .int) ?_ s)<|Zx (m:=m) (by have:=o.d0;have:=o.d1;exact lE 0xbaeae8f038040443806280694069 (by assumption) this) o.b0 o.b1;rcases t with rfl|rfl|rfl<;>rfl
end
structure XQ where
 start:Y
 op:au Y
 res:aj<|aj Y
def gY(s:aj Y)(a:XQ)(u:Y × aj Y):XQ:=match fT u.2 [34]with
 |false=>a
 |true=>match a.op with
  |none=>⟨a.start,U u.1,a.res⟩
  |some o=>⟨u.1+1,ag,match aF a.start o with|true=>a.res|false=>a.res++[cut s (U (a.start:Z))<|U (o:Z)]⟩
noncomputable def Ce(s:aj Y)(a:XQ):aj Y:=(match aY s.length a.start with|true=>a.res|false=>a.res++[cut s (U (a.start:Z)) ag]).flatten
def gF(s:aj Y):aj Y:=match s.any λc=>aF 34 c with
 |false=>s
 |true=>Ce s<|(fJ 0 af s).foldl (gY s) ⟨0,ag,[]⟩
noncomputable def ub:Z->aj (Y × aj Y)->aB
 |o,[]=>decide (o=0)
 |o,u::r=>match fT u.2 [40]with
  |true=>ub (o+1) r
  |false=>match fT u.2 [41]with
   |false=>ub o r
   |true=>match decide (o-1<0)with
    |true=>af
    |false=>ub (o-1) r
def Ck(s:aj Y):aB:=ub 0<|fJ 0 af<|gF s
noncomputable def G4(u:Y × aj Y):PV:= .tup [.int (u.1:Z),.str u.2]
noncomputable def pS(l:aj Y):aB:=l.all λc=>fy c 55296
def x_(s:aj Y):∀(p:Y) (e:aB),pS s=ah->∀u∈fJ p e s,pS u.2=ah:=by
 induction s with
 |nil=>
  intro p e _ u a;cases e with
  |false=>exact bI a a0
  |true=>obtain rfl:=aU.mp a;rfl
 |cons c t b=>
  intro p e h u a;have f:fy c 55296=ah:=(n2 h).1;have d:=(n2 h).2;cases e with
  |true=>
   rcases aR.mp (show u∈(p,[92,c])::fJ (p+1) af t from a)with e|e
   ·subst e;show(fy 92 55296&&(fy c 55296&&ah))=ah;exact rP f J
   ·exact b _ _ d u e
  |false=>
   replace a:u∈(match aF c 92 with|true=>fJ (p+1) ah t|false=>(p,[c])::fJ (p+1) af t):=a;cases q:aF c 92 with
   |true=>rw[q]at a;exact b _ _ d u a
   |false=>
    rw[q]at a;rcases aR.mp a with e|e
    ·subst e;show(fy c 55296&&ah)=ah;exact rP f J
    ·exact b _ _ d u e
def eq_str(d:pS a=ah)(e:pS b=ah):i4 .Eq (.str a) (.str b)=U (fT a b):=by show gL (a.all (λc=>fy c 55296)&&b.all (λc=>fy c 55296)) (fT a b)=_;unfold pS at d e;exact rP d <| rP e J
noncomputable def Qo:au Y->PV
 |none=> .none
 |some o=> .int (o:Z)
def Sv:aj S:=match L2.kr with
 |_::_::_::_:: .FZ _ _ b::_=>b
 |_=>[]
def Va(h:s.length<=1000)(i:pS u.2=ah)(j:a.res.length<=2000):kE (kn L2.P<|m+12) [3] Sv [U<|.str s,U<|.int (a.start:Z),U<|Qo a.op,U<|.lst<|a.res.map .str,U<|.int (u.1:Z),U<|.str u.2]= U ([U<|.str s,U<|.int ((gY s a u).start:Z),U<|Qo (gY s a u).op,U<|.lst<|(gY s a u).res.map .str,U<|.int (u.1:Z),U<|.str u.2],ag):=by
 obtain⟨st,f,c⟩:=a;have c1:((kn L2.P<|m+12).ex [U<|.str s,U<|.int (st:Z),U<|Qo f,U<|.lst<|c.map .str,U<|.int (u.1:Z),U<|.str u.2]<|.cmp (.var 5) [.Eq] [.lit<|.str [34]]).bind truth=U (fT u.2 [34]):=az (λo=>jf o truth)<|jr J J<|eq_str i J;unfold gY;cases q:fT u.2 [34]with
 |false=>rw[q]at c1;exact dR (iy c1 J) J
 |true=>
  rw[q]at c1;cases f with
  |none=>exact dR (kB c1<|dR (kB J<|dR J J) J) J
  |some o=>
   have d:s.length<=big:=ab h<|dcd J
   have c2:((kn L2.P<|m+12).ex [U<|.str s,U<|.int (st:Z),U<|Qo<|U o,U<|.lst<|c.map .str,U<|.int (u.1:Z),U<|.str u.2]<|.cmp (.var 1) [.NotEq] [.var 2]).bind truth=U (!(aF st o)):=by
    show U (!((st:Z)==(o:Z)))=_;congr 2;by_cases e:st=o
    ·subst e;exact rP (kw ..)<|rP (cH ..) J
    ·exact rP (show aF st o=af from lS.mpr λz=>e<|aJ z)<|rP (cw.mpr<|by exact cQ 4329599137639 e) J
   show _=U ([U<|PV.str s,U<|PV.int<|(u.1:Z)+1,U PV.none,U<|PV.lst<|(match aF st o with|true=>c|false=>c++[cut s (U (st:Z))<|U (o:Z)]).map PV.str,U<|PV.int (u.1:Z),U<|PV.str u.2],ag);cases g:aF st o with
   |true=>rw[g]at c2;exact dR (kB c1<|dR (iy (b:=[.A7 (.cmp (.var 1) [.NotEq] [.var 2]) [.app 3 af<|.xP (.var 0) (U<|.var 1)<|U<|.var 2] [],.asg af (.v 1)<|.bin .Add (.var 4)<|.lit<|.int 1,.asg af (.v 2) (.lit .none)]) J (dR (iy (r:=U (_,ag)) c2 J) (dR J (dR J J)))) J) J
   |false=>
    rw[g]at c2;refine dR (kB c1 (dR (iy (b:=[.A7 (.cmp (.var 1) [.NotEq] [.var 2]) [.app 3 af (.xP (.var 0) (U (.var 1)) (U (.var 2)))] [],.asg af (.v 1) (.bin .Add (.var 4) (.lit (.int 1))),.asg af (.v 2) (.lit .none)]) J (dR (kB c2 (dR (yy (xs:=c.map .str) (v:= .str (cut s (U (st:Z)) (U (o:Z)))) J ?_ (by exact rP (aG ..) <| ab j (dcd J))) J)) (dR J (dR J J)))) J)) ?_
    ·show gL (aY s.length big) (PV.str _)=_;exact rP (aP d) J
    ·exact rP dq J
def Tj:(gY s a u).res.length<=a.res.length+1:=by
 unfold gY;cases fT u.2 [34]with
 |false=>exact iK _
 |true=>
  cases a.op with
  |none=>exact iK _
  |some o=>
   show(match aF a.start o with|true=>a.res|false=>a.res++[_]).length<=_;cases aF a.start o with
   |true=>exact iK _
   |false=>exact rP aW <| aZ _
def Vb(k:s.length<=1000)(b:aj<|Y × aj Y):∀(a:XQ) (c d:au PV),(∀u∈b,pS u.2=ah)->a.res.length+b.length<=2000-> ∃f g,iZ (λe=>kE (kn L2.P<|m+12) [3] Sv e) (.tup [.v 4,.v 5]) (b.map G4) [U<|.str s,U<|.int (a.start:Z),U<|Qo a.op,U<|.lst<|a.res.map .str,c,d]= U ([U<|.str s,U<|.int ((b.foldl (gY s) a).start:Z),U<|Qo (b.foldl (gY s) a).op,U<|.lst<|(b.foldl (gY s) a).res.map .str,f,g],ag):=by
 induction b with
 |nil=>intro a c d _ _;exact⟨c,d,J⟩
 |cons u b l=>
  intro a c d h i;rw[bK]at i;obtain⟨f,g,n⟩:=l (gY s a u) (U<|.int (u.1:Z)) (U<|.str u.2) (λx q=>h x<|.tail _ q) (by have:=Tj (s:=s) (a:=a) (u:=u);exact d9 0x2b017d02f91b2a17d02f910a1 i this);refine⟨f,g,?_⟩
  show(kE (kn L2.P<|m+12) [3] Sv [U<|.str s,U<|.int (a.start:Z),U<|Qo a.op,U<|.lst<|a.res.map .str,U<|.int (u.1:Z),U<|.str u.2]).bind (λo=>match o with
   |(j,ag)=>iZ (λe=>kE (kn L2.P<|m+12) [3] Sv e) (.tup [.v 4,.v 5]) (b.map G4) j
   |(j,U v)=>U (j,U v))=_
  exact rP (Va k (h u<|.head _)<|ab (bq ..) i) n
section
open PySem.Builtin.Int
def Sm(a:Z):Prop:=aH a<=20000
def wZ{a:Y}{k:Y}(h:a<2^k)(b:k<=20000):Sm (a:Z):=cT.mpr<|aV (by exact rP (b_ ..) h)<|dh (dcd J) b
def Lv(h:Sm a):a.natAbs.log2<=20000:=by
 by_cases q:a.natAbs=0
 ·refine rP q ?_;decide
 ·exact bF<|(Kg q).mpr<|cT.mp h
def sT(c:Sm a)(d:Sm b):binI .Mult a b=U (.int<|a*b):=by have e:=Lv c;have b1:=Lv d;show gL (w7 a b) _=_;unfold w7;exact rP (aP<|by exact cQ 0x4e203f9114e203f90120000006f910a1 e b1) J
def Fb{a h:Y}(b:Sm (a:Z))(c:h<=20000):binI .LShift (a:Z) (h:Z)=U (.int ((a*2^h:Y):Z)):=by show gL (decide ((0:Z)<=(h:Z))&&decide ((aH (a:Z):Z)+(h:Z)<=134217728)) (PV.int<|(a:Z)*2^((h:Z)).toNat)=_;exact rP (bD (aK h) ..) <| rP (bD (by exact cQ 0x4e203f9114e203f90180000006f8f794 b c) ..) <| rP (cM ..) <| rP (aS ..) <| rP (eC ..) J
def Fa{a h:Y}:binI .RShift (a:Z) (h:Z)=U (.int ((a/2^h:Y):Z)):=by
 show gL (decide ((0:Z)<=(h:Z))) (PV.int<|(a:Z).fdiv<|2^((h:Z)).toNat)=_;refine rP (bD (aK h) ..)<|rP (cM ..) ?_;show U (PV.int _)=_;have e:(2:Z)^h=((2^h:Y):Z):=by exact rP (eC ..) J
 exact rP (e ..) <| rP (bW _ (aK _) ..) J
def Sh{a h:Y}:binI .BitAnd (a:Z) ((2^h-1:Y):Z)=U (.int ((a%2^h:Y):Z)):=by show U (PV.int<|zL _ _)=_;exact rP (aaI (aK _) (aK _) ..)<|rP (cM ..)<|rP (cM ..)<|rP (Nat.and_two_pow_sub_one_eq_mod ..) J
def orN{x y h:Y}(a:y<2^h):binI .BitOr ((x*2^h:Y):Z) (y:Z)=U (.int ((x*2^h+y:Y):Z)):=by
 show U (PV.int<|Pg _ _)=_;refine rP (bitOr_and ..)<|rP (aaI (aK _) (aK _) ..)<|rP (cM ..)<|rP (cM ..) ?_
 have e:x*2^h&&& y=0:=by
  refine Kh λi=> ?_;refine rP (Ur ..)<|rP (ET ..)<|rP (Nat.zero_testBit ..) ?_;by_cases q:h<=i
  ·exact rP (Nat.testBit_lt_two_pow (aV a<|dh (dcd J) q) ..)<|rP (tK ..) J
  ·exact rP (bz q ..) J
 refine rP (e ..) ?_;simp
def Tu{h:Y}(b:h<=20000):binop .LShift (.int 1) (.int (h:Z))=U (.int ((2^h:Y):Z)):=by have:=Fb (a:=1) (h:=h) (wZ (k:=1) (dcd J)<|dcd J) b;rw[d8]at this;exact this
def Bg{a b n:Y}(c:0<b)(d:aH (b:Z)<=9000)(e:aH (a:Z)<=n+4000):(kn L2.P<|m+5).ca 0 [.int a,.int b,.int n]=U (.tup [.int ((a/b:Y):Z),.int ((a%b:Y):Z)]):=by refine kb J J<|rH (show U (decide (((aH (a:Z):Y):Z)-(n:Z)<=4000))=U ah from az U<|bD<|cQ 0xfa02f91a01fa02f8f7a4 e)<|mQ ?_;show gL (!(decide ((b:Z)=0))&& !(c7 a b)) (PV.tup [.int<|(a:Z).fdiv b,.int<|(a:Z).fmod b])=_;exact rP (bz<|by exact du 7493479 c) <| rP (wf d) <| rP (bW _<|aK _) <| rP (bG _<|aK _) J
def ZE{b:Y}{r:Z}{x0 x1 a c d:au PV}(k:r<b)(i: -(2*(b:Z))<=r):∃j:Z,0<=r+j*b/\r+j*b<b/\ sx (kn L2.P<|m+5) [] (.XF (.cmp (.var 7) [.Lt] [.lit<|.int 0]) [.aug 6 .Sub<|.lit<|.int 1,.aug 7 .Add<|.var 2]) [x0,x1,U<|.int (b:Z),a,c,d,U<|.int q,U<|.int r]=U ([x0,x1,U<|.int (b:Z),a,c,d,U<|.int<|q-j,U<|.int<|r+j*b],ag):=by
 have go:∀(_:Y) (q r:Z) (f:Y),AF (λe=>((kn L2.P<|m+5).ex e<|.cmp (.var 7) [.Lt] [.lit<|.int 0]).bind truth) (λe=>kE (kn L2.P<|m+5) [] [.aug 6 .Sub<|.lit<|.int 1,.aug 7 .Add<|.var 2] e) (f+1) [x0,x1,U<|.int (b:Z),a,c,d,U<|.int q,U<|.int r]=
   match decide (r<0)with
   |false=>U ([x0,x1,U<|.int (b:Z),a,c,d,U<|.int q,U<|.int r],ag)
   |true=>AF (λe=>((kn L2.P<|m+5).ex e<|.cmp (.var 7) [.Lt] [.lit<|.int 0]).bind truth) (λe=>kE (kn L2.P<|m+5) [] [.aug 6 .Sub<|.lit<|.int 1,.aug 7 .Add<|.var 2] e) f [x0,x1,U<|.int (b:Z),a,c,d,U<|.int<|q-1,U<|.int<|r+b]:=λt q r f=>by
  show(U<|decide (r<0)).bind (λb=>_)=_;cases decide (r<0)<;>rfl
 by_cases g:r<0
 ·by_cases h:r+b<0
  ·refine⟨2,(f7 0x72cb472c0954 i),(f7 95697633460373 h),?_⟩;refine(go 0 q r 4095).trans ?_;refine rP (bD g) ?_;refine(go 0 (q-1) (r+b) 4094).trans ?_;refine rP (bD h) ?_;refine(go 0 (q-1-1) (r+b+b) 4093).trans ?_;refine rP (bz<|by exact f7 0x72cb457709957 i) ?_;show U (_,ag)=U (_,ag);exact rP (show q-1-1=q-2 from lE 171970923174)<|rP (show r+b+b=r+2*b from f7 7885718751638) J
  ·refine⟨1,(f7 0x57095771c0954 h),(f7 345064456341 g),?_⟩;refine(go 0 q r 4095).trans ?_;refine rP (bD g) ?_;refine(go 0 (q-1) (r+b) 4094).trans ?_;refine rP (bz h) ?_;show U (_,ag)=U (_,ag);exact rP (show r+(b:Z)=r+1*b from f7 30535151766) J
 ·refine⟨0,(f7 5521030252884 g),(f7 482503344277 k),?_⟩;refine(go 0 q r 4095).trans ?_;refine rP (bz g) ?_;show U (_,ag)=U (_,ag);exact rP (show q-0=q from cE _)<|rP (show r+0*(b:Z)=r from f7 7389334) J
def AM(e:env[i]? =U (U<|.int a))(f:k.ex (hide ow env) c=U (.int b))(g:binI d a b=U r):sx k ow (.aug i d c) env=U (env.set i<|U r,ag):=by
 show((env[i]?).bind id).bind (λx=>(k.ex (hide ow env) c).bind λy=>match x,y with
  | .int a,.int b=>(binI d a b).bind λr=>U (env.set i<|U r,ag)
  |_,_=>ag)=_
 refine rP e<|rP f ?_;show(binI d a b).bind (λr=>U (env.set i<|U r,ag))=_;exact rP g J
def tN(b:(kn P m).ex env t=U x)(c:(kn P m).ex env a=U y)(h:i4 o x y=U q):((kn P<|m+1).ex env<|.cmp t [o] [a]).bind truth=U q:=az (λo=>jf o truth)<|jr b c h
theorem TZ{a q b1 r P a3 b2:Z}(h:a=q*b1+r):a*P+a3=q*(b1*P+b2)+(r*P+a3-q*b2):=by subst h;grind
theorem ZZ{q b1 b2 P a b:Z}(c:0<=q)(d:P<=2*b1)(f:b2<=P)(g:q*b1<=a)(h:a<=b):q*b2<=2*b:=by
 have i:=jq (ft f d) c;have e:q*(2*b1)=2*(q*b1):=by grind
 exact oz [] [_,_,_,_,_] 0x44a022c4e64e0413432412c04 g h i e
def qH{X b q r:Z}(e:X=q*b+r)(c:0<=r)(d:r<b):q=X/b/\r=X%b:=by have:=(Int.ediv_emod_unique (show 0<b from jB c d) (a:=X) (q:=q) (r:=r)).mpr ⟨by exact rP (jA ..) <| oz [] [_,_,_] 879616053088406 e,c,d⟩;exact⟨this.1.symm,this.2.symm⟩
def Z2:b=b/2^h*2^h+b%2^h:=by exact rP (bS ..) <| (eV b<|2^h).symm
theorem ZS{a12 a3 b b1 b2 h:Y}(s:b=b1*2^h+b2)(f:b2<2^h)(t:2^h<=2*b1)(g:b1<2^h)(c:h<=4000)(l:a12<b)(i:a3<2^h):(kn L2.P<|m+10).ca 1 [.int a12,.int a3,.int b,.int b1,.int b2,.int h]=U (.tup [.int (((a12*2^h+a3)/b:Y):Z),.int (((a12*2^h+a3)%b:Y):Z)]):=by
 have hP:=bL h
 have d:b<2^(2*h):=by
  have e:2^(2*h)=2^h*2^h:=by refine rS (cW ..) ?_;congr 1;exact cJ (cD<|zR _)<|du 2883745
  refine rP (e ..)<|rP (s ..) ?_;have:=cB (2^h) (show b1+1<=2^h from g);rw[d4,d8]at this;exact gr 616418825605282 f this
 refine kb J J ?_
 have first:∃(q:Z) (r:Y),sx (kn L2.P<|m+9) [] (.A7 (.cmp (.bin .RShift (.var 0)<|.var 5) [.Eq] [.var 3]) [.par af [.v 6,.v 7] [.bin .Sub (.bin .LShift (.lit<|.int 1)<|.var 5)<|.lit<|.int 1,.bin .Add (.bin .Sub (.var 0)<|.bin .LShift (.var 3)<|.var 5)<|.var 3]] [.asg af (.tup [.v 6,.v 7])<|.call 0 [.var 0,.var 3,.var 5]])
   [U<|.int a12,U<|.int a3,U<|.int b,U<|.int b1,U<|.int b2,U<|.int h,ag,ag]=U ([U<|.int a12,U<|.int a3,U<|.int b,U<|.int b1,U<|.int b2,U<|.int h,U<|.int q,U<|.int r],ag)/\
   0<=q/\q<(2^(2*h):Y)/\(a12:Z)=q*b1+r/\((r:Z)*(2^h:Y)+a3-q*b2<b)/\r<2^(2*h+1):=by
  have v5:(kn L2.P<|m+6).ex [U<|.int a12,U<|.int a3,U<|.int b,U<|.int b1,U<|.int b2,U<|.int h,ag,ag] (.var 5)=U (.int h):=J;by_cases q:a12/2^h=b1
  ·have k:b1*2^h<=a12:=by exact rS q <| vt a12 (2^h)
   refine⟨((2^h:Y):Z)-1,a12-b1*2^h+b1,kB (tN (bC J J Fa) J ?_)<|dR (rE (bC (bC J J<|Tu<|ab c<|dcd J) J J) (bC (bC J (bC (m:=m+6) J J<|Fb (wZ g<|ab c<|dcd J)<|ab c<|dcd J) J) J J) J ?_) J,?_,?_,?_,?_,?_⟩
   ·refine rP (q ..) ?_;show U ((b1:Z)==(b1:Z))=_;exact rP (cH ..) J
   ·show U _=U _;exact rP (show((a12-b1*2^h+b1:Y):Z)=(a12:Z)-((b1*2^h:Y):Z)+(b1:Z)from gr 0xb8ca9ba0231320af3626a910a66 J k) J
   ·exact cQ 0x4001212c0147a54 t g
   ·have:2^h<=2^(2*h):=dh (dcd J)<|du 11265;exact cQ 270485413 this
   ·have e:((a12-b1*2^h+b1:Y):Z)=(a12:Z)-((b1*2^h:Y):Z)+(b1:Z):=gr 0xb8ca9ba0231320af3626a910a66 J k;refine rP (e ..)<|rP (aS ..) ?_;generalize((2^h:Y):Z)=P;grind
   ·have e:((a12-b1*2^h+b1:Y):Z)=(a12:Z)-((b1*2^h:Y):Z)+(b1:Z):=gr 0xb8ca9ba0231320af3626a910a66 J k;have id:=TZ (a:=(a12:Z)) (q:=((2^h:Y):Z)-1) (b1:=(b1:Z)) (r:=((a12-b1*2^h+b1:Y):Z)) (P:=((2^h:Y):Z)) (a3:=a3) (b2:=b2) (by refine rP (e ..)<|rP (aS ..) ?_;generalize((2^h:Y):Z)=P;grind);have w:(b:Z)=(b1:Z)*((2^h:Y):Z)+b2:=by exact rS (aS ..) <| az ed s
    rw[<-w]at id
    have lt:(a12:Z)*((2^h:Y):Z)+a3<(b:Z)*((2^h:Y):Z):=by
     have:=Int.mul_le_mul_of_nonneg_right (show(a12:Z)<=(b:Z)-1 from cQ 270858868 l)<|aK<|2^h;have A:((b:Z)-1)*((2^h:Y):Z)=(b:Z)*((2^h:Y):Z)-((2^h:Y):Z):=by grind
     exact oz [_,_] [_,_,_] 0xf1a2620410217095 i this A
    have B:(((2^h:Y):Z)-1)*(b:Z)=(b:Z)*((2^h:Y):Z)-b:=by grind
    exact oz [_,_] [_,_,_,_,_] 0x3230f4ea364e72951709a397296f1709a5 id lt B
   ·have:2^h<=2^(2*h):=dh (dcd J)<|du 11265;exact rP (mi ..) <| oz [_,_,_,_,_,_,_] [] 0x1f8025126e26e32512430a22d10a2 J g l d this
  ·have D:=Bg (m:=m+3) (a:=a12) (b:=b1) (n:=h) (cQ 1108147769458 t g) (ab (cT.mpr<|by exact rP (b_ ..) g)<|ab c<|dcd J)<|ab (cT.mpr<|by exact rP (b_ ..) <| fY l d)<|du 0xfa02f901fa02f90a02c1 c;have o:=eV a12 b1;have x:=bP a12 (show 0<b1 from cQ 1108147769458 t g);refine⟨((a12/b1:Y):Z),a12%b1,iy (tN (bC J J Fa) J ?_)<|dR (vW (x_call (m:=m+8) J D) J J) J,aK _,?_,?_,?_,?_⟩
   ·show U (((a12/2^h:Y):Z)==(b1:Z))=_;exact rP (cw.mpr<|by exact cQ 4329599137639 q) J
   ·have:=sP a12 b1;exact gr 35258228682613 l d this
   ·exact rS (aS ..) <| rP (bS ..) <| d9 0x320021a326f976 o
   ·have E:(a12%b1)*2^h+a3<b:=by have:=cB (2^h) (show a12%b1+1<=b1 from x);rw[d4,d8]at this;exact L9 0x3a0350a151243a23210a2 s i this
    have H:(0:Z)<=((a12/b1:Y):Z)*(b2:Z):=pI (aK _)<|aK _
    exact rS (aS ..) <| L_ 0x54210a2260f79a5 E H
   ·exact rP (mi ..) <| uS 0x420204a313232212d02 l d o
 obtain⟨q,r,s1,y,I,id,up,L⟩:=first
 have M:Sm (r:Z):=wZ L<|du 0x40fa02f9014e203f902c2 c;have O:Sm q:=cT.mpr (aV ((v_ 0x74dba0f0505400b102 J y I):q.natAbs<2^(2*h)) (dh (dcd J) (du 0x40fa02f9014e203f902c1 c)));have w:(b:Z)=(b1:Z)*((2^h:Y):Z)+b2:=by exact rS (aS ..) <| az ed s
 have z:=TZ (P:=((2^h:Y):Z)) (a3:=(a3:Z)) (b2:=(b2:Z)) id;rw[<-w]at z;have lo:=ZZ y (dz.mpr t) (dz.mpr (bF f)) (show q*(b1:Z)<=(a12:Z)from v_ 210194884356 id) (dz.mpr (bF l));have Q:((r*2^h+a3:Y):Z)=(r:Z)*((2^h:Y):Z)+a3:=by exact rP (d5 ..) (rP (aS ..) J)
 obtain⟨j,j0,j1,s3⟩:=ZE up (by have:(0:Z)<=(r:Z)*((2^h:Y):Z):=pI (aK _) (aK _);exact BU 0x5472c141f09a72cb4 lo this)
 refine fg s1 (fg (kR (bC (bC (bC J J (Fb M (ab c (dcd J)))) J (orN i)) (bC J J (sT O (wZ f (ab c (dcd J))))) ?_) J) (fg s3 (mQ ?_)))
 ·show U (PV.int (((r*2^h+a3:Y):Z)-q*b2))=_;exact rP Q J
 ·have u:=qH (X:=(a12:Z)*((2^h:Y):Z)+a3) (b:=b) (q:=q-j) (r:=(r:Z)*((2^h:Y):Z)+a3-q*b2+j*b) (by exact rP (z ..) <| rP (fD ..) <| oz [_] [_,_,_,_] 0x32719a930a92719a096) j0 j1;have eX:(a12:Z)*((2^h:Y):Z)+a3=((a12*2^h+a3:Y):Z):=by exact rP (d5 ..) (rP (aS ..) J)
  rw[eX]at u;show U (PV.tup [.int (q-j),.int _])=_;exact rP u.1 <| rP u.2 J
def IA(e:0<b):((a/2^h%2^h+a/2^(2*h)*2^h)/b*2^h+((a/2^h%2^h+a/2^(2*h)*2^h)%b*2^h+a%2^h)/b=a/b)/\((a/2^h%2^h+a/2^(2*h)*2^h)%b*2^h+a%2^h)%b=a%b:=by
 have f:a/2^h%2^h+a/2^(2*h)*2^h=a/2^h:=by
  have:a/2^(2*h)=a/2^h/2^h:=by rw[mr,<-cW];congr 2;exact cJ (cD<|zR _)<|du 2883745
  rw[this,bS,Us]
 rw[f];have g:=eV (a/2^h) b;have d:=eV a<|2^h
 have c:a=b*(a/2^h/b*2^h)+(a/2^h%b*2^h+a%2^h):=by
  have:2^h*(a/2^h)=b*(a/2^h/b*2^h)+a/2^h%b*2^h:=by
   conv=>lhs;rw[<-g]
   rw[jp,bS (2^h)<|a/2^h%b];congr 1;rw[bS<|2^h,fE]
  exact cJ (uS 0x32021a43034a332a1a01 d this)<|uS 0x3010a43324a3321a0a1 d this
 generalize a/2^h/b*2^h=u at*;generalize a/2^h%b*2^h+a%2^h=v at*;constructor
 ·rw[c,sO e]
 ·rw[c,sM]
def JR(c:2^(2*h)<=2*b)(f:b<2^(2*h)):b%2^h<2^h/\2^h<=2*(b/2^h)/\b/2^h<2^h:=by
 have e:2^(2*h)=2^h*2^h:=by rw[<-cW];congr 1;exact cJ (cD<|zR _)<|du 2883745
 have d:=bL h;rw[e]at c f;refine⟨bP _ d,?_,(cU d).mpr f⟩;by_cases q:h=0
 ·subst q;rw[mh,qe];exact c
 have a:2^h=2*2^(h-1):=by rw[<-X2];congr 1;exact cQ 0x731a8cd9bac907037601a1b03 J q
 have:2^(h-1)<=b/2^h:=(td d).mpr (by
  have:2^h*2^h=2*(2^(h-1)*2^h):=by
                              conv=>lhs;lhs;rw[a]
                              rw[fE]
  exact d9 0x423002c2312c21101 c this)
 exact d9 0x4012122c0312c01 a this
def I2:((2^h:Y):Z)-1=((2^h-1:Y):Z):=by have:=bL h;exact cQ 0x1ca9bac90072601af47a6 J this
def DV{a b h p:Y}(d:0<b)(s:2^(2*h)<=2*b)(t:b<2^(2*h))(g:h<=4000)(o:a<b*2^(2*h)):∃e,kE (kn L2.P<|m+20) [] [.asg af (.v 4)<|.bin .RShift (.var 2)<|.lit<|.int 1,.asg af (.v 5)<|.bin .Sub (.bin .LShift (.lit<|.int 1)<|.var 4)<|.lit<|.int 1,.par af [.v 6,.v 7] [.bin .RShift (.var 1)<|.var 4,.bin .BitAnd (.var 1)<|.var 5],.asg af (.tup [.v 8,.v 9])<|.call 1 [.bin .RShift (.var 0)<|.var 2,.bin .BitAnd (.bin .RShift (.var 0)<|.var 4)<|.var 5,.var 1,.var 6,.var 7,.var 4],.asg af (.tup [.v 10,.v 9])<|.call 1 [.var 9,.bin .BitAnd (.var 0)<|.var 5,.var 1,.var 6,.var 7,.var 4]] [U<|.int a,U<|.int b,U<|.int ((2*h:Y):Z),U<|.int p,ag,ag,ag,ag,ag,ag,ag]=U (e,ag)/\e[3]? =U (U<|.int p)/\e[4]? =U (U<|.int h)/\e.length=11/\∃i j:Y,e[8]? =U (U<|.int i)/\e[10]? =U (U<|.int j)/\e[9]? =U (U<|.int ((a%b:Y):Z))/\j<2^h/\i*2^h+j=a/b/\i<2^h:=by
 have c:=JR s t;have q:=IA (a:=a) (h:=h) d;have f:=bL h;have r:=ZS (m:=m+9) (a12:=a/2^(2*h)) (a3:=a/2^h%2^h) (b:=b) (b1:=b/2^h) (b2:=b%2^h) (h:=h) Z2 c.1 c.2.1 c.2.2 g ((cU<|bL _).mpr o)<|bP _ f;have w:a/2^(2*h)*2^h+a/2^h%2^h=a/2^h%2^h+a/2^(2*h)*2^h:=dO _ _;rw[w]at r
 have x:a/2^h%2^h+a/2^(2*h)*2^h<b*2^h:=by have:=cB (2^h) (show a/2^(2*h)+1<=b from(cU<|bL _).mpr o);have:=bP (a/2^h) f;rw[d4,d8]at*;exact gr 846774714634402 (by assumption) this
 generalize a/2^h%2^h+a/2^(2*h)*2^h=X at*;have y:=ZS (m:=m+9) (a12:=X%b) (a3:=a%2^h) (b:=b) (b1:=b/2^h) (b2:=b%2^h) (h:=h) Z2 c.1 c.2.1 c.2.2 g (bP _ d)<|bP _ f;have l:=(cU d).mpr (by rw[bS];exact x)
 have n:(X%b*2^h+a%2^h)/b<2^h:=(cU d).mpr (by have:=cB (2^h) (show X%b+1<=b from bP _ d);have:=bP a f;rw[d4,d8]at*;exact rP (bS (2^h) b) <| gr 864366632243362 (by assumption) this)
 have A:((2*h:Y):Z)=(((2*h):Y):Z):=J
 refine⟨_,dR (kR (bC J J ?_) J)<|dR (kR (bC (bC J J<|Tu<|ab g<|dcd J) J<|az (λz=>U<|PV.int z) I2) J) (dR (rE (bC J J Fa) (bC J J Sh) J J)
  (dR (vW (x_call (bO (bC J J Fa)<|bO (bC (bC J J Fa) J Sh)<|bO J<|bO J<|bO J<|bO J J) r) J J)
  (dR (vW (x_call (bO J<|bO (bC (m:=m+18) J J Sh)<|bO J<|bO J<|bO J<|bO J J) y) J J) J))),J,J,J,X/b,(X%b*2^h+a%2^h)/b,J,J,?_,n,q.1,l⟩
 ·have:=Fa (a:=2*h) (h:=1);rw[show 2*h/2^1=h from EU h<|dcd J]at this;exact this
 ·exact rS q.2 J
def Hm:∀{l1} {env e},kE k ow l1 env=U (e,ag)->Run k ow l2 e v->Run k ow (l1++l2) env v:=by
 intro l1;induction l1 with
 |nil=>intro env e h r;have:env=e:=az Prod.fst<|sm (show U (env,ag)=U (e,ag)from h);exact rP this <| r
 |cons s l1 b=>
  intro env e h r
  exact gO (show(sx k ow s env).bind (λo=>match o with|(e,ag)=>kE k ow l1 e|(e,U v)=>U (e,U v))=U (e,ag)from h) λo c a=>by
   obtain⟨f,d⟩:=o;cases d with
   |none=>exact fg c<|b a r
   |some v=>cases a
def last_run(l:e.length=11)(x:e[3]? =U (U<|.int p))(y:e[4]? =U (U<|.int h))(z:e[8]? =U (U<|.int n))(k:e[10]? =U (U<|.int o))(A:e[9]? =U (U<|.int r))(B:h<=4000)(s:o<2^h)(u:n<2^h)(D:p=0\/p=1):Run (kn L2.P<|m+20) [] [.A7 (.var 3) [.aug 9 .RShift<|.lit<|.int 1] [],.ret<|.tup [.bin .BitOr (.bin .LShift (.var 8)<|.var 4)<|.var 10,.var 9]] e<|.tup [.int ((n*2^h+o:Y):Z),.int ((r/2^p:Y):Z)]:=by
 have i:∀(f) (w),f[4]? =U (U<|.int h)->f[8]? =U (U<|.int n)->f[10]? =U (U<|.int o)->f[9]? =U (U<|.int w)->Run (kn L2.P<|m+20) [] [.ret<|.tup [.bin .BitOr (.bin .LShift (.var 8)<|.var 4)<|.var 10,.var 9]] f (.tup [.int ((n*2^h+o:Y):Z),.int (w:Z)]):=λf w a b c d=>
  have g:∀(j) (v) (t),f[j]? =U (U v)->(kn L2.P<|t+1).ex f (.var j)=U v:=λj v t q=>by show(f[j]?).bind id=_;exact rP (q ..) J
  mQ (GY<|bO (bC (bC (g 8 _ (m+16) b) (g 4 _ (m+16) a)<|Fb (wZ u<|ab B<|dcd J)<|ab B<|dcd J) (g 10 _ (m+17) c)<|orN s)<|bO (g 9 _ (m+18) d) J)
 rcases D with rfl|rfl
 ·refine fg (iy (by show((e[3]?).bind id).bind truth=_;exact rP (x ..) J) J) ?_;exact rP (mh ..) <| rP (qe ..) <| i e r y z k A
 ·refine fg (kB (by show((e[3]?).bind id).bind truth=_;exact rP x J)<|dR (AM A J<|Fa) J) ?_;exact i _ _ (by refine rP (a6<|dcd J) ?_;exact y) (by refine rP (a6<|dcd J) ?_;exact z) (by refine rP (a6<|dcd J) ?_;exact k)<|rP (gm<|by exact du 209262414226 l) J
theorem NX{a b n:Y}(i:2^n<=2*b)(c:b<2^n)(d:n<=7998)(k:a<b*2^n):(kn L2.P<|m+21).ca 0 [.int a,.int b,.int n]=U (.tup [.int ((a/b:Y):Z),.int ((a%b:Y):Z)]):=by
 have E:=bL n;have y:0<b:=cQ 1108147769458 i c;by_cases q:aH (a:Z)<=n+4000
 ·exact Bg y (ab (cT.mpr<|rP (b_ ..) c)<|ab d<|dcd J) q
 have g:a<2^(2*n):=aV k<|rP (show 2*n=n+n from zR _) <| rP (cW ..) <| cB _<|bF c;have o:aH (a:Z)<=2*n:=cT.mpr<|rP (b_ ..) g;refine kb (nv:=11) (np:=3) (ow:=[]) (body:=L2.Bn) J J<|fg (iy (r:=U (_,ag)) (show U (decide (((aH (a:Z):Y):Z)-(n:Z)<=4000))=U af from az U<|bz<|cQ 0xfa02f91a017fa02f8f7a47 q) J)<|fg (kR (bC (m:=m+19) J J<|Sh (a:=n) (h:=1)) J) ?_;rcases pE n with hm|hm
 ·obtain⟨h,rfl⟩:∃h,n=2*h:=⟨n/2,(d9 0x31328a07232021e12c03 ⟨J,J⟩ hm)⟩;obtain⟨e,run,s,t,l,z,A,u,f,v,b2,w,b1⟩:=DV (p:=0) y i c (du 0x4201f3e3f902c1fa02f901 d) k;have:=last_run (m:=m) l s t u f v (du 0x4201f3e3f902c1fa02f901 d) b2 b1<|.inl J;rw[w,mh,qe]at this;refine fg (iy (r:=U (_,ag)) ?_ J) (Hm (l1:=[_,_,_,_,_]) ?_ this)
  ·show truth (.int ((2*h%2^1:Y):Z))=_;exact rP (nK ..) <| rP (hm ..) J
  ·rw[show((0:Y):Z)=((2*h%2^1:Y):Z) by exact rP (nK ..)<|rP (hm ..) J]at run;exact run
 ·obtain⟨h,j⟩:∃h,n+1=2*h:=⟨n/2+1,by have e:=eV n 2;rw[hm]at e;exact az (· +1) e.symm⟩;have x:(2:Y)^(2*h)=2*2^n:=rS (j ..) (rP (mi ..)<|rP (bS ..) J)
  obtain⟨e,run,s,t,l,z,A,u,f,v,b2,w,b1⟩:=DV (a:=a*2^1) (b:=b*2^1) (h:=h) (p:=1) (cQ 0x44010202c1102d72 i c) (d9 0x42022c0312c2112d2c01 i x) (d9 0x43022c13202102d2 c x) (cQ 0x423002c1b31f3e3f911fa02f901 d j) (by
   refine rP (x ..)<|rP (nK ..) ?_;have:b*2*(2*2^n)=4*(b*2^n):=by generalize 2^n=P;grind
   exact d9 0x44053024c13202102d2 k this)
  have:=last_run (m:=m) l s t u f v (cQ 0x423002c1b31f3e3f911fa02f901 d j) b2 b1<|.inr J;have B:a*2^1/(b*2^1)=a/b:=rP (nK ..)<|rP (Nat.mul_div_mul_right _ _ (dcd J) ..) J;have D:a*2^1%(b*2^1)/2^1=a%b:=rP (nK ..)<|rP (Nat.mul_mod_mul_right ..)<|rP (Nat.mul_div_cancel _ (dcd J) ..) J;rw[w,B,D]at this;refine fg (kB ?_<|dR (AM J J<|Fb (h:=1) (wZ g<|du 0x401f3e3f9014e203f902c1 d)<|dcd J)<|dR (AM J J<|Fb (h:=1) (wZ c<|ab d<|dcd J)<|dcd J)<|dR (AM (r:= .int ((2*h:Y):Z)) J J ?_) J)<|Hm (l1:=[_,_,_,_,_]) ?_ this
  ·show truth (.int ((n%2^1:Y):Z))=_;exact rP (nK ..) <| rP (hm ..) J
  ·show U (PV.int<|(n:Z)+1)=_;exact rP (show(n:Z)+1=((2*h:Y):Z)from az ed j) J
  ·rw[show((1:Y):Z)=((n%2^1:Y):Z) by exact rP (nK ..)<|rP (hm ..) J]at run;exact run
noncomputable def z'(n:Y):Y->Y->aj Y
 |0,_=>[]
 |k+1,a=>a%2^n::z' n k (a/2^n)
def VW(n:Y)(k:Y):∀(a:Y),O8 n k a=(z' n k a).map λ(d:Y)=>(d:Z):=by
 induction k with
 |zero=>intro _;exact J
 |succ k b=>intro a;exact az (((a%2^n:Y):Z):: ·)<|b<|a/2^n
def JA:∀{b} {env e},iZ body t b env=U (e,ag)->iZ body t (b++c) env=iZ body t c e:=by
 intro b;induction b with
 |nil=>intro env e h;have:env=e:=az Prod.fst<|sm (show U (env,ag)=U (e,ag)from h);exact rS this <| J
 |cons x b d=>
  intro env e h
  exact gO (show(jZ t x env).bind (λe=>(body e).bind λo=>match o with|(a,ag)=>iZ body t b a|(a,U v)=>U (a,U v))=U (e,ag)from h) λf g h=>gO h λo i h=>by
   obtain⟨k,j⟩:=o;cases j with
   |none=>show(jZ t x env).bind (λe=>(body e).bind λo=>match o with|(a,ag)=>iZ body t (b++c) a|(a,U v)=>U (a,U v))=_;refine rP g ?_;show(body f).bind (λo=>match o with|(a,ag)=>iZ body t (b++c) a|(a,U v)=>U (a,U v))=_;exact rP i <| d h
   |some v=>cases h
def JQ{b:Y}(f:0<b):b<2^aH (b:Z)/\2^aH (b:Z)<=2*b/\0<aH (b:Z):=by
 have a:=cT.mp<|aZ<|aH (b:Z);rw[b_]at a
 have c:0<aH (b:Z):=by refine Nat.pos_of_ne_zero λz=> ?_;rw[z]at a;simp at a;exact du 117638944 f a
 refine⟨a,?_,c⟩;have d:¬aH (b:Z)<=aH (b:Z)-1:=cQ 0x1898c90072601a1017 J c;rw[cT,b_]at d;have e:2^aH (b:Z)=2*2^(aH (b:Z)-1):=by refine rS X2 ?_;congr 1;exact cQ 0x1ca9bac90072601a1b03 J c
 exact d9 0x42022c03212712c01 d e
section
variable {m:Y}
noncomputable def Gd:aj S:=[.asg af (.tup [.v 7,.v 4])<|.call 0 [.bin .Add (.bin .LShift (.var 4)<|.var 2)<|.var 6,.var 1,.var 2],.app 5 af<|.var 7]
structure Quo(n k A b:Y)(qs:aj Z):Prop where
 len:qs.length=k
 all:∀q∈qs,0<=q/\q<(2^n:Y)
 val:ur n qs.reverse=((A/b:Y):Z)
def L3(c:0<b):(A*2^n+d)/b=A/b*2^n+(A%b*2^n+d)/b/\(A*2^n+d)%b=(A%b*2^n+d)%b:=by
 have a:A*2^n+d=b*(A/b*2^n)+(A%b*2^n+d):=by
  conv=>lhs;lhs;lhs;rw[<-eV A b]
  rw[d4,fE];exact cJ (d9 2310862342817)<|d9 2270597062817
 generalize A/b*2^n=u at*;generalize A%b*2^n+d=v at*;exact⟨by rw[a,sO c],by rw[a,sM]⟩
def Rz(r:0<b)(H:2^n<=2*b)(B:b<2^n)(s:n<=7998)(k):∀(a) (f g),k<=1024->a<2^(n*k)-> ∃c D i,Quo n k a b c/\iZ (λe=>kE (kn L2.P<|m+30) [5] Gd e) (.v 6) ((z' n k a).reverse.map λ(d:Y)=>PV.int (d:Z)) [xa,U<|.int b,U<|.int n,x3,U<|.int 0,U<|.lst [],f,g,ag]=U ([xa,U<|.int b,U<|.int n,x3,U<|.int ((a%b:Y):Z),U<|.lst<|c.map .int,D,i,ag],ag):=by
 induction k with
 |zero=>intro a f g _ j;rw[mj,mh]at j;obtain rfl:a=0:=cJ (eF j) (fZ ..);exact⟨[],f,g,⟨J,nofun,by show(0:Z)=_;exact rP (Nat.zero_div ..) J⟩,by exact rP (Nat.zero_mod ..) J⟩
 |succ k I=>
  intro a f g E j;have t:=bL n;have u:a/2^n<2^(n*k):=(cU t).mpr<|rS (cW ..) j;obtain⟨c,D,i,Q,run⟩:=I (a/2^n) f g (bF E) u;have L:=eV a<|2^n;have l:=bP a t;generalize a/2^n=A at*;generalize a%2^n=d at*;have w:=bP A r
  have dv:=NX (m:=m+8) (a:=A%b*2^n+d) H B s (by have:=cB (2^n) (show A%b+1<=b from w);rw[d4,d8]at this;exact gr 616418825605282 l this)
  have st:=L3 (n:=n) (A:=A) (d:=d) r;have x:a=A*2^n+d:=by exact rP (bS ..) L.symm
  rw[<-x]at st
  have y:(A%b*2^n+d)/b<2^n:=(cU r).mpr (by have:=cB (2^n) (show A%b+1<=b from w);rw[d4,d8]at this;exact rP (bS (2^n) b) <| gr 616418825605282 l this)
  refine⟨c++[(((A%b*2^n+d)/b:Y):Z)],U<|.int d,U<|.int (((A%b*2^n+d)/b:Y):Z),⟨by exact rP aW <| rP Q.len J,λq h=> ?_,?_⟩,?_⟩
  ·rcases dI.mp h with h|h
   ·exact Q.all q h
   ·exact rP (aU.mp h) <| ⟨aK _,eM.mpr y⟩
  ·refine rP List.reverse_append ?_;show(((A%b*2^n+d)/b:Y):Z)+2^n*ur n c.reverse=_;exact rP (Q.val ..) <| rP (st.1 ..) <| rP (d5 ..) <| rP (aS ..) <| rP (eC ..) <| rP (sk ..) <| rP (jA ..) J
  ·have M:(z' n (k+1) a).reverse.map (λ(d:Y)=>PV.int (d:Z))=(z' n k A).reverse.map (λ(d:Y)=>PV.int (d:Z))++[PV.int (d:Z)]:=by
    show((a%2^n)::z' n k (a/2^n)).reverse.map _=_;have O:a%2^n=d:=by exact rP (x ..)<|rP (bS ..)<|rP (sM ..)<|rP (kv l ..) J
    have e2:a/2^n=A:=by exact rP (x ..)<|rP (bS ..)<|rP (sO t ..)<|rP (zO l ..)<|rP (GU ..) J
    exact rP O <| rP e2 <| rP g_ <| rP dq J
   refine rP M<|rP (JA run) ?_
   show(kE (kn L2.P<|m+30) [5] Gd [xa,U<|.int b,U<|.int n,x3,U<|.int ((A%b:Y):Z),U<|.lst<|c.map .int,U<|.int d,i,ag]).bind (λo=>match o with
    |(z,ag)=>U (z,ag)
    |(z,U v)=>U (z,U v))=_
   rw[show kE (kn L2.P<|m+30) [5] Gd [xa,U<|.int b,U<|.int n,x3,U<|.int ((A%b:Y):Z),U<|.lst<|c.map .int,U<|.int d,i,ag]=U ([xa,U<|.int b,U<|.int n,x3,U<|.int ((a%b:Y):Z),U<|.lst<|c.map .int++[.int (((A%b*2^n+d)/b:Y):Z)],U<|.int d,U<|.int (((A%b*2^n+d)/b:Y):Z),ag],ag)from dR (vW (x_call (bO (bC (bC J J<|Fb (wZ (fY w B)<|ab s<|dcd J)<|ab s<|dcd J) J J)<|bO J<|bO J J) dv) J J)<|dR (yy J J<|rP (aG ..) <| rP (Q.len ..) <| ab (by exact bF E:k<=1024)<|dcd J)<|rP (st.2 ..) J]
   exact rP dq J
def To(b:0<n)(h:n<=16384)(c:iP a n<=1024):(kn L2.P<|m+48).ca 2 [.int a,.int n]=U (.lst<|(z' n (iP a n) a).map λ(d:Y)=>PV.int (d:Z)):=by show gL (decide ((0:Z)<=(a:Z))&&(decide ((0:Z)<(n:Z))&&(decide ((n:Z)<=16384)&&aY (iP a n) 1024))) (PV.lst<|(O8 n (iP a n) a).map .int)=_;exact rP (bD (aK _) ..) <| rP (bD (dz.mpr b) ..) <| rP (bD (dz.mpr h) ..) <| rP (aP c ..) <| rP (VW ..) <| rP (bU ..) J
def iL{l}:n7 (l.map .int)=U l:=by
 induction l with
 |nil=>exact J
 |cons x l a=>show(n7<|l.map .int).bind (λl=>U<|x::l)=_;exact rP a J
def Tp{n:Y}(a:0<n)(h:n<=16384)(b:l.length<=1024)(c:∀d∈l,aH d<=1000000):(kn L2.P<|m+48).ca 3 [.lst<|l.map .int,.int n]=U (.int<|ur n l):=by show wl (decide ((0:Z)<(n:Z))&&(decide ((n:Z)<=16384)&&aY (l.map PV.int).length 1024)) ((n7<|l.map .int).bind λl=>gL (l.all λd=>aY (aH d) 1000000)<|PV.int<|ur ((n:Z)).toNat l)=_;refine rP (bD<|dz.mpr a)<|rP (bD<|dz.mpr h)<|rP (aP (by rw[aG];exact b))<|rP iL ?_;show gL (l.all λd=>aY (aH d) 1000000) (PV.int<|ur n l)=_;exact rP (a_.mpr λq e=>aP<|c q e) J
def Ry{c:aj Z}(k:0<n)(h:n<=7998)(i:c.length<=1024)(l:∀d∈c,aH d<=1000000)(e:ur n c.reverse=(q:Z)):Run (kn L2.P<|m+49) [5] (L2.vg.drop 5) [U<|.int a,U<|.int b,U<|.int n,x3,U<|.int r,U<|.lst<|c.map .int,z6,z7,ag]<|.tup [.int q,.int r]:=by
 have j:=Tp (m:=m) k (ab h<|dcd J) (rP oo i) λd o=>l d<|Pn.mp o;rw[e,i8]at j;have f:(c.map PV.int).length<=big:=by exact rP (aG ..) <| ab i<|dcd J
 generalize c.map PV.int=g at*;refine fg (e:=[U<|.int a,U<|.int b,U<|.int n,x3,U<|.int r,U<|.lst g.reverse,z6,z7,ag]) ?_<|fg (e:=[U<|.int a,U<|.int b,U<|.int n,x3,U<|.int r,U<|.lst g.reverse,z6,z7,U<|.int q]) ?_ ⟨_,J⟩
 ·show(match aY g.length big with|true=>U (_,ag)|false=>ag)=_;exact rP (aP f) J
 ·show(((kn L2.P<|m+48).ca 3 [.lst g.reverse,.int n]).bind λv=>match wD _ v with|true=>U v|false=>ag).bind _=_;exact rP j J
def Wv{a b:Y}(f:0<b)(e:aH (b:Z)<=7998)(j:aH (a:Z)<=1000*aH (b:Z)):(kn L2.P<|m+50).ca 4 [.int a,.int b]=U (.tup [.int ((a/b:Y):Z),.int ((a%b:Y):Z)]):=by
 have c:=JQ f;generalize k:aH (b:Z)=n at*
 have g:iP a n<=1024:=by exact eF<|(cU c.2.2).mpr<|aV (adh (Pj _ c.2.2) zU)<|ab (fA j n)<|ab (cD (ku 1000 n).symm)<|cB n<|dcd J
 have l:a<2^(n*iP a n):=by exact rP (bS ..) <| B' c.2.2
 have o:=To (m:=m) c.2.2 (ab e<|dcd J) g;obtain⟨v,h,i,Q,run⟩:=Rz (m:=m+19) (xa:=U<|.int a) (x3:=U<|.lst<|(z' n (iP a n) a).map λ(d:Y)=>PV.int (d:Z)) f c.2.1 c.1 e (iP a n) a ag ag g l
 have t:=Ry (m:=m) (a:=a) (b:=b) (n:=n) (r:=a%b) (x3:=U<|.lst<|(z' n (iP a n) a).map λ(d:Y)=>PV.int (d:Z)) (z6:=h) (z7:=i) c.2.2 e (rP Q.len g) (λq u=>by have:=Q.all q u;exact ab ((cT (m:=n)).mpr<|L_ 0x7d98ea0f0505412227200b102 J f c.1 this.1 this.2)<|ab e<|dcd J) Q.val
 rw[i8]at run;generalize(z' n (iP a n) a).map (λ(d:Y)=>PV.int (d:Z))=x at*;exact kb J J<|fg (kR (show U (PV.int (aH (b:Z):Y))=_ by exact rP k J) J)<|fg (kR (x_call J o) J)<|fg J<|fg J<|fg (uO J run) t
theorem NW{a b:Z}(n:b≠0)(o:aH b<=7998)(s:aH a+1<=1000*aH b):(kn L2.P<|m+60).ca 5 [.int a,.int b]=U (.tup [.int<|a.fdiv b,.int<|a.fmod b]):=by
 have f:∀{m:Y} {a b:Y},0<b->aH (b:Z)<=7998->aH (a:Z)<=1000*aH (b:Z)->(kn L2.P<|m+54).ca 5 [.int a,.int b]=U (.tup [.int ((a/b:Y):Z),.int ((a%b:Y):Z)]):=λ{m a b} h j l=>kb J J<|tU (show U ((b:Z)==0)=_ from az U<|cw.mpr λz=>gw h<|ji z)<|tU (show U (decide ((b:Z)<0))=_ from az U<|bz<|kg.mpr<|aK b)<|tU (show U (decide ((a:Z)<0))=_ from az U<|bz<|kg.mpr<|aK a)<|mQ<|x_call J<|Wv (m:=m+2) h j l
 have g:∀{m:Y} {a:Z} {b:Y},0<b->aH (b:Z)<=7998->aH a+1<=1000*aH (b:Z)->(kn L2.P<|m+57).ca 5 [.int a,.int b]=U (.tup [.int<|a/b,.int<|a%b]):=λ{m a b} h j l=>by
  by_cases q:a<0
  ·obtain⟨c,d⟩:∃c:Y,-a-1=(c:Z):=⟨(-a-1).toNat,(f7 0x1aca89050540ba0c740ba6 J q)⟩;have x:a= -(c:Z)-1:=f7 0x320740ba647ba06 d;have i:aH (c:Z)<=1000*aH (b:Z):=ab (gj (y:=a) (L_ 0x7948ab83902640ba650501b260b101 J J q d)<|aZ _)<|bF l;have k:=f (m:=m+1) h j i;have e:=eV c b;have A:=bP c h
   have u:=qH (X:=a) (b:=(b:Z)) (q:= -((c/b:Y):Z)-1) (r:=(b:Z)+(-((c%b:Y):Z)-1)) (by
    have:(c:Z)=(b:Z)*((c/b:Y):Z)+((c%b:Y):Z):=by exact rS (aS ..) <| d9 0x320021a326f976 e
    refine rP x<|rP this ?_;grind) (cQ 78647032148 A)<|cQ 1962649493
   refine kb J J<|tU (show U ((b:Z)==0)=_ from az U<|cw.mpr λz=>gw h<|ji z)<|tU (show U (decide ((b:Z)<0))=_ from az U<|bz<|kg.mpr<|aK b)<|rH (show U (decide (a<0))=_ by exact rP (bD q) J)<|fg (vW (x_call (bO (show U (PV.int<|-a-1)=_ by exact rP d J) J) k) J J)<|mQ ?_;show U (PV.tup [.int<|-((c/b:Y):Z)-1,.int<|(b:Z)+(-((c%b:Y):Z)-1)])=_;exact rP u.1<|rP u.2 J
  ·obtain⟨c,rfl⟩:∃c:Y,a=(c:Z):=⟨a.toNat,(f7 0x1aca890505700c706 J q)⟩;exact f h j<|bF l
 by_cases q:b<0
 ·obtain⟨c,d⟩:∃c:Y,-b=(c:Z):=⟨(-b).toNat,(f7 0x1aca8905050b0c70b6 J q)⟩;have B:b= -(c:Z):=f7 3437864844038 d;have t:aH (c:Z)=aH b:=cJ (gj (y:=b) (L_ 0x7948ab8390260b650501b260b101 J J q d)<|aZ _)<|gj (y:=(c:Z)) (L_ 0x7cc8c4190260b6505261b00b101 J J q d)<|aZ _;have k:=g (m:=m+1) (a:= -a) (b:=c) (f7 484095053938 q d) (t▸o)<|rP t <| ab (cL<|intBits_neg_le<|aZ _) s;refine kb J J<|tU (show U (b==0)=_ by exact rP (cw.mpr n) J)<|rH (show U (decide (b<0))=_ by exact rP (bD q) J)<|fg (vW (x_call (vs:=[.int<|-a,.int (c:Z)]) (bO J<|bO (show U (PV.int<|-b)=_ by exact rP d J) J) k) J J)<|mQ ?_;show U (PV.tup [.int<|-a/c,.int<|-(-a%c)])=_;have v:=SX (-a) (c:Z);have w:=SW (-a) (c:Z);rw[Kk,<-B]at v w;exact rP v<|rP w<|rP (bW _<|aK _)<|rP (bG _<|aK _) J
 ·obtain⟨c,rfl⟩:∃c:Y,b=(c:Z):=⟨b.toNat,(f7 0x1aca890505700c706 J q)⟩;have k:=g (m:=m+3) (a:=a) (b:=c) (du 0x1f9057575767072 n q) o s;exact rP (bW _ (aK _)) <| rP (bG _ (aK _)) k
end
section
variable {lo:C} {vs:aj PV}
def pL(h:qV (kn P m) env a=U vs)(b:oP f vs=U r):(kn P<|m+1).ex env (.blt f a)=U r:=bE h b
def AD(a:(kn P m).ex env o=U x)(h:qV (kn P m) env b=U vs)(c:FG f x vs=U r):(kn P<|m+1).ex env (.FF f o b)=U r:=bE a<|bE h c
def wY(h:(kn P m).ex env o=U x)(a:(kn P m).ex env c=U y)(b:mH x y=U r):(kn P<|m+1).ex env (.sub o c)=U r:=bE h<|bE a b
def UC(h:(kn P m).ex env o=U x)(a:(kn P m).ex env lo=U y)(b:oW x (U y) ag=U r):(kn P<|m+1).ex env (.xP o (U lo) ag)=U r:=bE h<|bE (bE a J) b
def Ef(h:k.ex env a=U (.bool af)):tF k env .Or (a::e::b)=tF k env .Or (e::b):=bE h J
def X8(c:(kn P m).ex env a=U (.bool af))(e:(kn P m).ex env b=U (.bool af))(f:(kn P m).ex env d=U (.bool af)):(kn P<|m+1).ex env (.O9 .Or [a,b,d])=U (.bool af):=(Ef c).trans<|(Ef e).trans f
end
def z_{k:Y}(c:b=(k:Z))(d:aH a*k<=134217728):binI .Pow a b=U (.int<|a^k):=by subst c;show gL (decide ((0:Z)<=(k:Z))&&decide ((aH a:Z)*(k:Z)<=134217728)) (PV.int<|a^((k:Z)).toNat)=_;exact rP (bD (aK k) ..) <| rP (bD (by rw[<-aS];exact dz.mpr d) ..) <| rP (cM ..) J
def TP(c:b≠0)(h:aH b<=9000):binI .FloorDiv a b=U (.int<|a.fdiv b):=by show gL (!(decide (b=0))&& !(c7 a b)) _=_;exact rP (bz c) <| rP (wf h) J
def TM(c:b≠0):binI .Mod a b=U (.int<|a.fmod b):=by show gL (!(decide (b=0))) _=_;exact rP (bz c) J
def Q_(b:0<w)(c:a<2^(w*k))(d:2^(w*(k-1))<=a)(f:0<k):iP a w=k:=by
 have b1:=cT.mpr (by rw[b_];exact c);have b2:¬aH (a:Z)<=w*(k-1):=by rw[cT,b_];exact ni d
 have e:w*k=w*(k-1)+w:=by conv=>lhs;rw[show k=k-1+1 from cQ 0x1ca9bac90072601a1b03 J f,jp,qc]
 refine cJ (eF<|(cU b).mpr ?_)<|(td b).mpr ?_
 ·rw[ku,bS k w];exact gr 0x1cd9ba0131272623a0a21a02 J b b1
 ·rw[bS k w];exact uS 0x98034a034217632a1a101 J b2 e
def xV(w)(k):∀(a),(z' w k a).length=k:=by
 induction k with
 |zero=>intro _;exact J
 |succ k b=>intro a;exact az jH<|b<|a/2^w
def My(k):∀(a),a<2^(w*(k+1))->(z' w (k+1) a).drop k=[a/2^(w*k)]:=by
 induction k with
 |zero=>intro a h;rw[qc]at h;show[a%2^w]=_;exact rP (kv h ..)<|rP (mj ..)<|rP (mh ..)<|rP (qe ..) J
 |succ k b=>intro a h;show(z' w (k+1)<|a/2^w).drop k=_;exact rP (b (a/2^w) ((cU<|bL _).mpr (by rw[<-cW];exact h)) ..)<|rP (mr ..)<|rS (cW ..)<|rP (show w+w*k=w*(k+1) by rw[jp,qc,dO]) J
def rR{a b q r:Z}(e:a=q*b+r)(h:(0<=r/\r<b)\/(b<r/\r<=0)):a.fdiv b=q/\a.fmod b=r:=by
 rcases h with⟨c,d⟩|⟨c,d⟩
 ·have u:=qH e c d;exact rP (bW _<|by exact sS 353714260 c d) <| rP (bG _<|by exact sS 353714260 c d) <| ⟨u.1.symm,u.2.symm⟩
 ·have u:=qH (X:= -a) (b:= -b) (q:=q) (r:= -r) (by exact rP (e ..) <| rP (abn ..) <| sS 116158171574) (lE 84151124 d)<|sS 22130869 c;have f:=SX (-a)<|-b;have g:=SW (-a)<|-b;rw[Kk,Kk]at f g;exact rP f <| rP g <| rP (bW _<|by exact sS 348983200596 c d) <| rP (bG _<|by exact sS 348983200596 c d) <| rS u.1 <| rS u.2 <| ⟨J,(lE 2998)⟩
structure Wt(N w W g D k c v wh:Y)(s:Z):Prop where
 k1:1<=k
 k4:k<=4
 w8:8<=w
 w300:w<=300
 eW:W=w+4100*g
 g1:g<=1
 ewh:wh=2^(W-1)+2^(W/2)-1
 hh:D<2^40
 sN:N<2^2400
 sg:s=1\/s= -1
 ec:N^k%2^(w*k)/2^(w*(k-1))=c
 ev:c=k*v
 c1:1<=c
def BE{s}(h:s=1\/s= -1):∀k:Y,s^k=1\/s^k= -1:=by
 intro k;induction k with
 |zero=>exact .inl<|aaM s
 |succ k a=>refine rP (Int.pow_succ ..) ?_;rcases a with e|e<;>rcases h with rfl|rfl<;>refine rP (e ..) ?_<;>decide
def kq{s}(h:s=1\/s= -1):aH s<=1:=by rcases h with rfl|rfl<;>decide
def fG{a k:Y}(h:a<2^k):aH (a:Z)<=k:=cT.mpr<|rP (b_ ..) h
section
variable {N w W g D k c v wh:Y} {s:Z}
def Wt.Pz(T:Wt N w W g D k c v wh s):wh<2^W/\2^(W-1)<=wh/\W<=4400/\w<=W:=by have a:w<=W:=rP T.eW <| bq ..;have b:=ab T.w8 a;have e:=Nat.two_pow_pred_add_two_pow_pred<|aV (dcd J) b;have f:2^(W/2)<=2^(W-1):=dh (dcd J)<|uo<|Uv (aV (dcd J) b)<|dcd J;have d:=bL<|W/2;exact rP T.ewh <| ⟨aV (adh (Pj _ d) zU)<|rS e <| c_ f _,uo<|lC d,by refine rP T.eW ?_;exact dL T.w300<|cA 4100 T.g1,a⟩
def Wt.B(T:Wt N w W g D k c v wh s):W<=aH ((k*wh:Y):Z)/\aH ((k*wh:Y):Z)<=W+2:=by
 have h:=T.Pz;have a:=T.k1;have b:=T.k4;constructor
 ·refine zN λz=> ?_;have:=uo z;rw[cT,b_]at this;exact fM.mpr h.2.1<|bi (mq wh a) this
 ·refine fG ?_;exact rP (cW ..) <| rP (bS ..) <| aV (fq h.1 a)<|cA _ b
def Wt.c2(T:Wt N w W g D k c v wh s):c<2^w/\N^k%2^(w*k)<2^(w*k)/\2^(w*(k-1))<=N^k%2^(w*k):=by
 have a:=bP (N^k)<|bL<|w*k;have e:w*k=w+w*(k-1):=by have:=Nat.mul_succ w<|k-1;rw[Nat.succ_eq_add_one,pC T.k1]at this;exact rP (this ..)<|rP (dO ..) J
 refine⟨?_,a,?_⟩
 ·exact rS T.ec <| (cU<|bL _).mpr (by refine rS (cW ..)<|rS (e ..) ?_;exact a)
 ·have:=T.c1;rw[<-T.ec]at this;have:=(td<|bL _).mp this;rw[d8]at this;exact this
theorem Wt.div(T:Wt N w W g D k c v wh s){o H σ}{R}(d:o=1\/o= -1)(a:R<k*wh):(o*((σ*(c:Z)+(k:Z)*H)*(wh:Z)+(R:Z))).fdiv (o*(k:Z)*(wh:Z))=σ*(v:Z)+H/\(o*((σ*(c:Z)+(k:Z)*H)*(wh:Z)+(R:Z))).fmod (o*(k:Z)*(wh:Z))=o*(R:Z):=by
 have b:((k*wh:Y):Z)=(k:Z)*(wh:Z):=aS _ _;refine rR ?_ ?_
 ·refine rP (T.ev ..)<|rP (aS ..) ?_;grind
 ·rcases d with rfl|rfl
  ·exact rP (fb ..) <| rP (fb ..) <| rS (b ..) <| .inl ⟨aK _,eM.mpr a⟩
  ·have:(-1:Z)*(k:Z)*(wh:Z)= -((k*wh:Y):Z):=by rw[b,sQ,kh]
   exact rP (this ..) <| rP (sQ ..) <| .inr ⟨XB<|eM.mpr a,EK<|aK _⟩
def Wt.ach(T:Wt N w W g D k c v wh s){o}{R}(d:o=1\/o= -1)(a:R<k*wh):(o*(R:Z)).fdiv (o*(k:Z)*(wh:Z))=0/\(o*(R:Z)).fmod (o*(k:Z)*(wh:Z))=o*(R:Z):=by
 have b:((k*wh:Y):Z)=(k:Z)*(wh:Z):=aS _ _;refine rR (rP (dG ..)<|rP (kx ..) J) ?_;rcases d with rfl|rfl
 ·exact rP (fb ..) <| rP (fb ..) <| rS (b ..) <| .inl ⟨aK _,eM.mpr a⟩
 ·have:(-1:Z)*(k:Z)*(wh:Z)= -((k*wh:Y):Z):=by rw[b,sQ,kh]
  exact rP (this ..) <| rP (sQ ..) <| .inr ⟨XB<|eM.mpr a,EK<|aK _⟩
structure Wb(W k c wh g B t R:Y)(o σ:Z):Prop where
 b1:aH (o*(k:Z)*(wh:Z))=B
 b2:aH (o*((σ*(c:Z)+(k:Z)*((g:Z)*(2^B-(1+2*(t:Z))*2^(B/2-1))))*(wh:Z)+(R:Z)))<=2*B+11
 b3:aH (σ*(c:Z)+(k:Z)*((g:Z)*(2^B-(1+2*(t:Z))*2^(B/2-1))))<=B+9
 b4:aH ((g:Z)*(2^B-(1+2*(t:Z))*2^(B/2-1)))<=B+5
 b5:aH (2^B-(1+2*(t:Z))*2^(B/2-1))<=B+4
 b6:aH ((σ*(c:Z)+(k:Z)*((g:Z)*(2^B-(1+2*(t:Z))*2^(B/2-1))))*(wh:Z)+(R:Z))<=2*B+10
 b7:aH (o*(k:Z))<=4
 b8:aH (σ*(c:Z))<=B+1
 b9:aH (o*(R:Z))<=B+1
def v6{B:Y}:aH ((2:Z)^B)<=B+1:=by have e:(2:Z)^B=((2^B:Y):Z):=rP (eC ..) J;exact rP e <| fG<|Nat.pow_lt_pow_succ<|dcd J
def bt3:∀t:Y,t<3->aH (1+2*(t:Z))<=3:=by decide
def A_{B t:Y}(a:0<B)(b:t<3):aH (2^B-(1+2*(t:Z))*2^(B/2-1))<=B+4:=ab (intBits_sub_le (v6)<|gJ (bt3 t b)<|v6)<|cL<|CJ.mpr ⟨c_ (dcd J) B,rS (dO 3 B) <| c_ (ab (cL<|lA (B/2) 1)<|Uv a<|dcd J) 3⟩
def Wt.bits(T:Wt N w W g D k c v wh s){o f:Z}{R t:Y}(d:o=1\/o= -1)(i:f=1\/f= -1)(H:R<k*wh)(I:t<3):Wb W k c wh g (aH ((k*wh:Y):Z)) t R o f:=by
 have j:=T.B;have l:=T.Pz;have L:=T.c2;have M:=T.w8;have O:=T.k4;have Q:=T.g1;have b:aH (R:Z)<=aH ((k*wh:Y):Z):=gj (y:=((k*wh:Y):Z)) (bF H)<|aZ _;generalize m:aH ((k*wh:Y):Z)=B at*;have r:aH (k:Z)<=3:=fG<|bi O (by decide:4<8);have q:aH (wh:Z)<=B:=ab (fG l.1) j.1;have bc:aH (c:Z)<=B:=ab (fG L.1)<|ab l.2.2.2 j.1;have bg:aH (g:Z)<=1:=fG (gx Q:g<2);have u:=A_ (aV (aV (dcd J) M)<|ab l.2.2.2 j.1) I;have c1 (n:Y) {a:Z} (h:aH a<=1+n):aH a<=n+1:=rS (dO 1 n) <| h;have x:=c1 (B+4)<|gJ bg u;have z:=c1 B<|gJ (kq i) bc;have A:_<=B+9:=ab (acU z<|gJ r x)<|cL<|CJ.mpr ⟨c_ (dcd J) B,cD<|dO 3<|B+5⟩;have E:_<=2*B+10:=ab (acU (gJ A q) b)<|cL<|CJ.mpr ⟨du 0x9902ca0990aa1,du 2567096833⟩;refine⟨?_,c1 _<|gJ (kq d) E,A,x,u,E,gJ (kq d) r,z,c1 B<|gJ (kq d) b⟩
 have e:(o*(k:Z)*(wh:Z)).natAbs=(((k*wh:Y):Z)).natAbs:=by
  refine rP (iR ..)<|rP (iu ..)<|rS (aS ..) ?_;rcases d with rfl|rfl
  ·exact d8 _
  ·exact d8 _
 exact rS (m ..) <| cJ (gj (cD e)<|aZ _)<|gj (cD e.symm)<|aZ _
end
def abS{N k j:Y}:binop .Mod (.int<|(N:Z)^k) (.int<|(2:Z)^j)=U (.int ((N^k%2^j:Y):Z)):=by
 have e:(2:Z)^j=((2^j:Y):Z):=by exact rP (eC ..) J
 have a:=(eC N k).symm;refine rP e<|rP a ?_;refine(TM (by have:=bL j;exact du 7493479 this)).trans ?_;exact rP (bG _<|aK _) J
def La(c:1<=k)(b:k<=4)(h:a<2^(w*k)):(oW (.lst<|(z' w k a).map λ(d:Y)=>PV.int (d:Z)) (U<|.int<|(k:Z)-1) ag).bind (λx=>oP .sum [x])=U (.int ((a/2^(w*(k-1)):Y):Z)):=by
 obtain⟨j,rfl⟩:∃j,k=j+1:=⟨k-1,(cQ 0x1ca9bac90061601a1b03 J c)⟩;have e:((j+1:Y):Z)-1=(j:Z):=du 121681574;refine rP (e ..) ?_;show(gL (aY ((z' w (j+1) a).map λ(d:Y)=>PV.int (d:Z)).length big)<|PV.lst<|cut _ (U (j:Z)) ag).bind _=_;refine rP (aP (by rw[aG,xV];exact ab b<|dcd J) ..) ?_
 have f:cut ((z' w (j+1) a).map λ(d:Y)=>PV.int (d:Z)) (U (j:Z)) ag=[PV.int ((a/2^(w*j):Y):Z)]:=by
  have g:d_ ((z' w (j+1) a).map λ(d:Y)=>PV.int (d:Z)).length (j:Z)=j:=by refine rP (aG ..)<|rP (xV ..) ?_;have:j=0\/j=1\/j=2\/j=3:=du 0xeae98eae99f049020b613903803960397039 c b;rcases this with rfl|rfl|rfl|rfl<;>rfl
  show(yh (d_ _ (j:Z)) _).take (_-d_ _ (j:Z))=_;refine rP (g ..)<|rS (List.map_drop ..)<|rP ((My j a h) ..)<|rP (aG ..)<|rP (xV ..) ?_;show adi (j+1-j) _=_;exact rP (show j+1-j=1 from cQ 0x79b8ca011b0a603 J) J
 refine rP (f ..) ?_;show(U [((a/2^(w*j):Y):Z)]).bind (λl=>U<|PV.int l.sum)=_;show U (PV.int<|((a/2^(w*j):Y):Z)+0)=_;exact rP (cE ..) J
def w_1(T:Wt N w W g D k c v wh s):sx (kn L2.P<|m+80) [5] (.par af [.v 9,.v 10] [.call 2 [.bin .Mod (.bin .Pow (.var 0)<|.var 8)<|.bin .Pow (.lit<|.int 2)<|.bin .Mult (.var 2)<|.var 8,.var 2],.FF .m_ (.bin .Mult (.var 8)<|.var 7) []])
  [U<|.int N,U<|.int n,U<|.int w,U<|.int s,U<|.int D,U<|.lst ws,U<|.int g,U<|.int wh,U<|.int k,B,u,b,f,i,j,l,o]=
  U ([U<|.int N,U<|.int n,U<|.int w,U<|.int s,U<|.int D,U<|.lst ws,U<|.int g,U<|.int wh,U<|.int k,U<|.lst<|(z' w k<|N^k%2^(w*k)).map λ(d:Y)=>PV.int (d:Z),U<|.int (aH ((k*wh:Y):Z):Y),b,f,i,j,l,o],ag):=by
 have h:=T.Pz;have c2:=T.c2;have x:=T.k1;have a:=T.k4;have r:=T.w8;have q:=T.w300;have e:=Q_ (ab (dcd J) r) c2.2.1 c2.2.2 x;have p:=To (m:=m+31) (aV (dcd J) r) (ab q<|dcd J)<|rP e <| ab a<|dcd J;rw[e]at p;have y:=fG T.sN;have z:aH (w:Z)<=9:=fG<|bi q (by decide:300<512);have t:aH (k:Z)<=3:=fG<|bi a (by decide:4<8);have A:=ab (fG h.1) h.2.2.1;refine rE (x_call (bO (bC (bC J J<|z_ J ?_) (bC J (bC J J<|sT (ab z<|dcd J)<|ab t<|dcd J)<|z_ (aS w k).symm ?_) abS) J) p) (AD (bC J J<|sT (ab t<|dcd J)<|ab A<|dcd J) J ?_) J J
 ·have:=eS y a;exact ab this<|dcd J
 ·have:=eS q a;exact rP (show aH (2:Z)=2 by decide) <| du 0x404912c2fc0180000006f902c1 this
 ·show U (PV.int (aH ((k:Z)*(wh:Z)):Y))=_;exact rP (aS ..) J
def YQ(q:Z):1-2*q.fmod 2=1\/1-2*q.fmod 2= -1:=by
 have a:=ij q (show(0:Z)<2 by decide);have b:=jD q (show(0:Z)<2 by decide);rcases(show q.fmod 2=0\/q.fmod 2=1 from lE 0x7ab8d028050544065069 a b)with e|e<;>refine rP e ?_
 ·exact .inl J
 ·exact .inr J
def w_2(T:Wt N w W g D k c v wh s):sx (kn L2.P<|m+80) [5] (.par af [.v 11,.v 12] [.bin .Mult (.bin .Pow (.var 3)<|.var 8)<|.blt .sum [.xP (.var 9) (U<|.bin .Sub (.var 8)<|.lit<|.int 1) ag],.bin .Sub (.lit<|.int 1)<|.bin .Mult (.lit<|.int 2)<|.bin .Mod (.bin .Add (.bin .FloorDiv (.var 4)<|.lit<|.int 7)<|.var 8)<|.lit<|.int 2])
  [U<|.int N,U<|.int n,U<|.int w,U<|.int s,U<|.int D,U<|.lst ws,U<|.int g,U<|.int wh,U<|.int k,U<|.lst<|(z' w k<|N^k%2^(w*k)).map λ(d:Y)=>PV.int (d:Z),a,l,o,b,e,f,h]=
  U ([U<|.int N,U<|.int n,U<|.int w,U<|.int s,U<|.int D,U<|.lst ws,U<|.int g,U<|.int wh,U<|.int k,U<|.lst<|(z' w k<|N^k%2^(w*k)).map λ(d:Y)=>PV.int (d:Z),a,U<|.int<|s^k*(c:Z),U<|.int<|1-2*((D:Z).fdiv 7+(k:Z)).fmod 2,b,e,f,h],ag):=by
 have c2:=T.c2;have q:=T.k1;have i:=T.k4;have r:=T.w300;have j:=La q i c2.2.1;rw[T.ec]at j;have t:=ab (fG c2.1) r;generalize((z' w k<|N^k%2^(w*k)).map λ(d:Y)=>PV.int (d:Z))=y at*;refine gO j λz u x=>rE (bC (bC J J<|z_ J ?_) (pL (bO (UC J J u) J) x)<|sT (ab (kq<|BE T.sg k)<|dcd J)<|ab t<|dcd J) (bC J (bC J J<|re (dcd J) ?_) J) J J
 ·have:=eS (kq T.sg) i;exact ab this<|dcd J
 ·exact f7 0x4419447a44734473a04b02c4a6402c4a6900b10000000000af901 J<|YQ<|(D:Z).fdiv 7+(k:Z)
def Hu(h:1<=aH a):a≠0:=λz=>by rw[z,show aH 0=0 by decide]at h;exact bI h<|dcd J
noncomputable def m9(g B t:Y):Z:=(g:Z)*(2^B-(1+2*(t:Z))*2^(B/2-1))
def K6(c:a=x)(d:b=y):i4 .NotEq (.tup [.int a,.int b]) (.tup [.int x,.int y])=U af:=by subst c d;show(gL ah<|oC (.tup [.int a,.int b])<|.tup [.int a,.int b]).bind (λr=>U<|!r)=_;exact rP (D4 6 J) J
section
variable {N w W g D k c v wh B t R:Y}
def w_3(T:Wt N w W g D k c v wh s)(u:B=aH ((k*wh:Y):Z))(x:((D:Z).fdiv 14+(k:Z)).fmod 3=(t:Z))(d:t<3):
  sx (kn L2.P<|m+80) [5] (.asg af (.v 13)<|.bin .Mult (.var 6)<|.bin .Sub (.bin .Pow (.lit<|.int 2)<|.var 10)<|.bin .Mult (.bin .Add (.lit<|.int 1)<|.bin .Mult (.lit<|.int 2)<|.bin .Mod (.bin .Add (.bin .FloorDiv (.var 4)<|.lit<|.int 14)<|.var 8)<|.lit<|.int 3)<|.bin .Pow (.lit<|.int 2)<|.bin .Sub (.bin .FloorDiv (.var 10)<|.lit<|.int 2)<|.lit<|.int 1)
  [U<|.int N,U<|.int n,U<|.int w,U<|.int s,U<|.int D,U<|.lst ws,U<|.int g,U<|.int wh,U<|.int k,A,U<|.int (B:Y),e,f,E,i,j,l]=
  U ([U<|.int N,U<|.int n,U<|.int w,U<|.int s,U<|.int D,U<|.lst ws,U<|.int g,U<|.int wh,U<|.int k,A,U<|.int (B:Y),e,f,U<|.int<|m9 g B t,i,j,l],ag):=by
 have bB:=T.B;rw[<-u]at bB;have o:=T.Pz;have q:=T.w8;have H:=T.g1;have a:B<=4402:=ab bB.2<|fA o.2.2.1 2;have b:B/2-1<=4402:=ab (ab (lA ..) (sP ..)) a;have pw (C:Y) (h:C<=4402):aH (2:Z)*C<=134217728:=ab (cA 2 h)<|dcd J;refine kR (bC (m:=m+79) J (bC (m:=m+78) (bC (m:=m+77) (r:= .int<|(2:Z)^B) J J<|z_ J<|pw _ a) (bC (m:=m+77) (bC (m:=m+76) (y:= .int<|2*(t:Z)) J (bC (m:=m+75) (y:= .int (t:Z)) J (bC (m:=m+74) J J<|az (λz=>U<|PV.int z) x)<|re (dcd J)<|ab (bF d)<|dcd J) J) (bC (m:=m+76) (y:= .int ((B/2-1:Y):Z)) (r:= .int<|(2:Z)^(B/2-1)) J (bC (m:=m+75) J J ?_)<|z_ J<|pw _ b)<|sT (ab (bt3 t d)<|dcd J) (ab v6 (ab (cL b) (dcd J)))) J) (sT (ab (fG (k:=1) (gx H)) (dcd J)) (ab (A_ (aV (aV (dcd J) q) (ab o.2.2.2 bB.1)) d) (ab (fA a 4) (dcd J))))) J;show U (PV.int ((B:Z).fdiv 2-1))=_;exact az (λz=>U (PV.int z)) ((az (· -1) (bW _ (dcd J))).trans (vJ (Ki (ab (ab (by decide:2<=8) q) (ab o.2.2.2 bB.1)))).symm)
def w_4(T:Wt N w W g D k c v wh s)(r:o=1\/o= -1):
  sx (kn L2.P<|m+80) [5] (.par af [.v 14,.v 15] [.bin .Mod (.bin .Pow (.var 4)<|.lit<|.int 2)<|.bin .Mult (.var 8)<|.var 7,.bin .Mult (.bin .Mult (.var 12)<|.var 8)<|.var 7])
  [U<|.int N,U<|.int n,U<|.int w,U<|.int s,U<|.int D,U<|.lst ws,U<|.int g,U<|.int wh,U<|.int k,u,b,d,U<|.int o,e,x,y,f]=
  U ([U<|.int N,U<|.int n,U<|.int w,U<|.int s,U<|.int D,U<|.lst ws,U<|.int g,U<|.int wh,U<|.int k,u,b,d,U<|.int o,e,U<|.int ((D^2%(k*wh):Y):Z),U<|.int<|o*(k:Z)*(wh:Z),f],ag):=by
 have h:=T.Pz;have z:=T.k4;have A:=T.k1;have i:aH (k:Z)<=3:=fG<|bi z (by decide:4<8);have l:aH (wh:Z)<=4400:=ab (fG h.1) h.2.2.1;have E:aH (D:Z)<=40:=fG T.hh;have q:=kq r;have j:=gJ q i;have a:0<k*wh:=gC A<|aV (bL _) h.2.1;refine rE (bC (bC J J<|z_ J<|du 0x40281f90180000006f902d1 E) (bC J J<|sT (ab i<|dcd J)<|ab l<|dcd J) ?_) (bC (bC J J<|sT (ab q<|dcd J)<|ab i<|dcd J) J<|sT (ab j<|dcd J)<|ab l<|dcd J) J J;refine rS (aS ..)<|rS (eC ..) ?_;refine(TM<|Ps.mpr<|gw a).trans ?_;exact rP (bG _ (aK _) ..) J
def w_5(T:Wt N w W g D k c v wh s)(i:o=1\/o= -1)(j:e=1\/e= -1)(q:R<k*wh)(x:t<3)(y:B=aH ((k*wh:Y):Z)):
  sx (kn L2.P<|m+80) [5] (.asg af (.v 16)<|.call 5 [.bin .Mult (.var 12)<|.bin .Add (.bin .Mult (.bin .Add (.var 11)<|.bin .Mult (.var 8)<|.var 13)<|.var 7)<|.var 14,.var 15])
  [U<|.int N,U<|.int n,U<|.int w,U<|.int s,U<|.int D,U<|.lst ws,U<|.int g,U<|.int wh,U<|.int k,z,l,U<|.int<|e*(c:Z),U<|.int o,U<|.int<|m9 g B t,U<|.int R,U<|.int<|o*(k:Z)*(wh:Z),A]=
  U ([U<|.int N,U<|.int n,U<|.int w,U<|.int s,U<|.int D,U<|.lst ws,U<|.int g,U<|.int wh,U<|.int k,z,l,U<|.int<|e*(c:Z),U<|.int o,U<|.int<|m9 g B t,U<|.int R,U<|.int<|o*(k:Z)*(wh:Z),U<|.tup [.int<|e*(v:Z)+m9 g B t,.int<|o*(R:Z)]],ag):=by
 have b:=T.bits i j q x;have f:=T.B;have h:=T.Pz;have r:=T.w8;have E:=T.k4;have d:=T.div (H:=m9 g B t) (σ:=e) i q;rw[<-y]at b f;have I:aH (k:Z)<=3:=fG<|bi E (by decide:4<8);have L:aH (wh:Z)<=4400:=ab (fG h.1) h.2.2.1;have M:=kq i;have O:o*(k:Z)*(wh:Z)≠0:=Hu<|rP b.b1 <| d9 713656614588513 f.1 h.2.2.2 r;have u:=NW (m:=m+19) (a:=o*((e*(c:Z)+(k:Z)*m9 g B t)*(wh:Z)+(R:Z))) O (rP b.b1 <| cQ 0x11303f91181a011f3e3f901 f.2 h.2.2.1)<|rP b.b1 <| ab (cL b.b2)<|d9 0x3e6253e6253e6250289112101103e82fcb902ca2 f.1 h.2.2.2 r;rw[d.1,d.2]at u;exact kR (x_call (bO (bC J (bC (bC (bC J (bC J J<|sT (ab I<|dcd J)<|ab b.b4<|cQ 0x11303f91181a014e203f9590a1 f.2 h.2.2.1) J) J<|sT (ab b.b3<|cQ 0x11303f91181a014e203f9990a1 f.2 h.2.2.1)<|ab L<|dcd J) J J)<|sT (ab M<|dcd J)<|ab b.b6<|cQ 0x44011303f91181a014e203f9a902ca1 f.2 h.2.2.1) (bO J J)) u) J
theorem w_6(T:Wt N w W g D k c v wh s)(j:o=1\/o= -1)(l:e=1\/e= -1)(q:R<k*wh)(I:t<3)(u:B=aH ((k*wh:Y):Z))(L:f.length=k):
  sx (kn L2.P<|m+80) [5] (.A7 (.O9 .Or [.cmp (.blt .len [.var 9]) [.NotEq] [.var 8],.cmp (.var 16) [.NotEq] [.tup [.bin .Add (.bin .FloorDiv (.var 11)<|.var 8)<|.var 13,.bin .Mult (.var 12)<|.var 14]],.cmp (.call 5 [.sub (.var 16)<|.lit<|.int 1,.var 15]) [.NotEq] [.tup [.lit<|.int 0,.sub (.var 16)<|.lit<|.int 1]]]) [.ret<|.lst []] [])
  [U<|.int N,U<|.int n,U<|.int w,U<|.int s,U<|.int D,U<|.lst ws,U<|.int g,U<|.int wh,U<|.int k,U<|.lst f,r,U<|.int<|e*(c:Z),U<|.int o,U<|.int<|m9 g B t,U<|.int R,U<|.int<|o*(k:Z)*(wh:Z),U<|.tup [.int<|e*(v:Z)+m9 g B t,.int<|o*(R:Z)]]=
  U ([U<|.int N,U<|.int n,U<|.int w,U<|.int s,U<|.int D,U<|.lst ws,U<|.int g,U<|.int wh,U<|.int k,U<|.lst f,r,U<|.int<|e*(c:Z),U<|.int o,U<|.int<|m9 g B t,U<|.int R,U<|.int<|o*(k:Z)*(wh:Z),U<|.tup [.int<|e*(v:Z)+m9 g B t,.int<|o*(R:Z)]],ag):=by
 have b:=T.bits j l q I;have i:=T.B;have h:=T.Pz;have z:=T.w8;have A:=T.k4;have E:=T.k1;have d:=T.ach j q;rw[<-u]at b i;have M:=kq j;have O:aH (R:Z)<=B:=by exact rP u <| gj (y:=((k*wh:Y):Z)) (bF q)<|aZ _
 have Q:o*(k:Z)*(wh:Z)≠0:=Hu<|rP b.b1 <| d9 713656614588513 i.1 h.2.2.2 z;have H:=NW (m:=m+17) (a:=o*(R:Z)) Q (rP b.b1 <| cQ 0x11303f91181a011f3e3f901 i.2 h.2.2.1)<|rP b.b1 <| ab (cL b.b9)<|d9 0x3e7253e7253e7250289112101103e82fc0b2 i.1 h.2.2.2 z;rw[d.1,d.2]at H;have oR:binop .Mult (.int o) (.int (R:Z))=U (.int<|o*(R:Z)):=sT (ab M<|dcd J)<|ab O<|cQ 0x11303f91181a014e203f901 i.2 h.2.2.1
 have fk:binop .FloorDiv (.int (e*(c:Z))) (.int (k:Z))=U (.int (e*(v:Z))):=by have bk:aH (k:Z)<=3:=fG (bi A (by decide:4<8));refine(TP (Ps.mpr (gw E)) (ab bk (dcd J))).trans ?_;exact rP (T.ev ..) (rP (aS ..) (rP (show e*((k:Z)*(v:Z))=e*(v:Z)*(k:Z)+0 by grind) (rP ((rR J (.inl ⟨lD 0,eM.mpr E⟩)).1 ..) J)))
 refine iy (az (λo=>jf o truth) (X8 (m:=m+79) (jr (m:=m+78) (x:= .int (k:Z)) (y:= .int (k:Z)) (pL (m:=m+77) (vs:=[.lst f]) J ?_) J ?_) (jr (m:=m+78) J (GY (m:=m+77) (bO (bC (m:=m+76) (bC (m:=m+75) J J fk) J J) (bO (bC (m:=m+76) J J oR) J))) (K6 J J)) (jr (m:=m+78) (x_call (m:=m+77) (vs:=[.int (o*(R:Z)),.int (o*(k:Z)*(wh:Z))]) J H) J (K6 J J)))) J
 ·show gL (aY f.length big) (PV.int (f.length:Z))=_;exact rP L <| rP (aP (ab A (dcd J))) J
 ·show U (!((k:Z)==(k:Z)))=_;exact rP (cH ..) J
end
def L2w:aj S:=match L2.tH with
 |_::_:: .FZ _ _ b::_=>b
 |_=>[]
def UG(T:Wt N w W g D k c v wh s)(x:ws.length<=64):∃y e f h i j l o,kE (kn L2.P<|m+80) [5] L2w [U<|.int N,U<|.int n,U<|.int w,U<|.int s,U<|.int D,U<|.lst ws,U<|.int g,U<|.int wh,U<|.int k,y9,z,A,B,E,H,I,L]= U ([U<|.int N,U<|.int n,U<|.int w,U<|.int s,U<|.int D,U<|.lst<|ws++[.int<|s^k*(v:Z)],U<|.int g,U<|.int wh,U<|.int k,y,e,f,h,i,j,l,o],ag):=by have M:=T.k1;have O:=T.Pz;have a:0<k*wh:=gC M<|aV (bL _) O.2.1;have Q:=ij ((D:Z).fdiv 14+(k:Z)) (show(0:Z)<3 by decide);have q:=jD ((D:Z).fdiv 14+(k:Z)) (show(0:Z)<3 by decide);obtain⟨t,d⟩:∃t:Y,((D:Z).fdiv 14+(k:Z)).fmod 3=(t:Z):=⟨_,(kQ Q).symm⟩;have r:=YQ<|(D:Z).fdiv 7+(k:Z);have b:=BE T.sg k;have u:=bP (D^2) a;refine⟨_,_,_,_,_,_,_,_,dR (w_1 T)<|dR (w_2 T)<|dR (w_3 T J d<|f7 852148221196546 q d)<|dR (w_4 T r)<|dR (w_5 T r b u (f7 852148221196546 q d) J)<|dR (w_6 T r b u (f7 852148221196546 q d) J<|rP (aG ..)<|rP (xV ..) J)<|dR (yy J ?_<|ab x<|dcd J) J⟩;show U (PV.int<|s^k*(v:Z)+m9 g _ t-m9 g _ t)=_;exact rP (Int.add_sub_cancel ..) J
def UH{vs q:Y->Y}{ks:aj Y}:∀{ws:aj PV} {y8 y9 y10 y11 y12 y13 y14 y15 y16:au PV},(∀k∈ks,Wt N w W g D k (q k) (vs k) wh s)->ws.length+ks.length<=64-> ∃z,iZ (λe=>kE (kn L2.P<|m+80) [5] L2w e) (.v 8) (ks.map λ(k:Y)=>PV.int (k:Z)) [U<|.int N,U<|.int n,U<|.int w,U<|.int s,U<|.int D,U<|.lst ws,U<|.int g,U<|.int wh,y8,y9,y10,y11,y12,y13,y14,y15,y16]= U ([U<|.int N,U<|.int n,U<|.int w,U<|.int s,U<|.int D,U<|.lst<|ws++ks.map λk=> .int<|s^k*(vs k:Z),U<|.int g,U<|.int wh]++z,ag):=by
 induction ks with
 |nil=>exact @λws y8 y9 y10 y11 y12 y13 y14 y15 y16 _ _=>⟨[y8,y9,y10,y11,y12,y13,y14,y15,y16],by rw[oA,oA,eB];rfl⟩
 |cons k ks r=>refine @λws y8 y9 y10 y11 y12 y13 y14 y15 y16 l a=> ?_;rw[bK]at a;obtain⟨t,b,c,d,f,h,i,j,u⟩:=UG (l k<|.head _)<|ab (bq ..) a;refine(r (ws:=ws++[.int<|s^k*(vs k:Z)]) (y8:=U<|.int k) (y9:=t) (y10:=b) (y11:=c) (y12:=d) (y13:=f) (y14:=h) (y15:=i) (y16:=j) (λx y=>l x<|.tail _ y)<|rP aW <| cQ 0x401f91b0a1401f910ba1 a).imp λz o=>bE J<|bE u ?_;rw[dS]at o;exact o
def E1{n:Y}{vs t:Y->Y}(d:n=2\/n=3\/n=4)(i:g=D%7/6)(T:∀k,1<=k->k<=n->Wt N w W g D k (t k) (vs k) wh s):(kn L2.P<|m+81).ca 23 [.int N,.int (n:Z),.int w,.int s,.int D]=U (.lst<|.int 0::(eK 1 n).map λk=> .int<|s^k*(vs k:Z)):=by
 have b:=T 1 (aZ 1)<|du 0x323a3204903390398039061 d;have u:=b.w8;have l:=b.w300;have e:=b.g1;have f:=b.eW;have h:=b.ewh
 have v:((D:Z).fmod 7).fdiv 6=(g:Z):=by exact rP (bG _<|dcd J) <| rP (bW _<|dcd J) <| rP i J
 have o:aH (2:Z)=2:=by decide
 have x:(w:Z)+4100*(g:Z)=(W:Z):=by exact rP f J
 have q:(W:Z)-1=((W-1:Y):Z):=(vJ<|ab (ab (dcd J) u) b.Pz.2.2.2).symm;have y:(W:Z).fdiv 2=((W/2:Y):Z):=by exact rP (bW _<|dcd J) J
 have A:(2:Z)^(W-1)+2^(W/2)-1=(wh:Z):=by
  have a:=bL<|W-1;have B:(2:Z)^(W-1)=((2^(W-1):Y):Z):=by exact rP (eC ..) J
  have E:(2:Z)^(W/2)=((2^(W/2):Y):Z):=by exact rP (eC ..) J
  exact rP B <| rP E <| rP h <| (vJ<|ab a<|bq _ _).symm
 obtain⟨z,c⟩:=UH (m:=m) (n:=(n:Z)) (ks:=eK 1 n) (ws:=[.int 0]) (y8:=ag) (y9:=ag) (y10:=ag) (y11:=ag) (y12:=ag) (y13:=ag) (y14:=ag) (y15:=ag) (y16:=ag) (λk r=>T k (by have:=xq.mp r;exact this.1) (by have:=xq.mp r;exact cQ 379592961 this.2)) (by refine rP vH ?_;simp only[bK,fC];exact du 0x4903390398039401f907ba1 d)
 have mg:∀j,(kn L2.P<|m+j+3).ex (hide [5] [U<|.int N,U<|.int (n:Z),U<|.int w,U<|.int s,U<|.int D,U<|.lst [.int 0],U<|.int g,ag,ag,ag,ag,ag,ag,ag,ag,ag,ag]) (.bin .Add (.var 2)<|.bin .Mult (.lit<|.int 4100)<|.var 6)=U (.int (W:Z)):=λj=>bC J (bC J J<|re (dcd J)<|oz [(((g:Y):Z)).natAbs,_,(D%7)/6,(D%7)%6,D%7] [] 0x6056057a60698ea06112136432ef0b10000000000af901 J ⟨J,J⟩ i e)<|az (λz=>U<|PV.int z) x
 refine kb J J<|fg (by exact rS v J)<|fg (kR (bC (bC (bC J (bC (mg 73) J J)<|z_ q<|by exact rP o <| gr 0x4200835420607436a6210043fc1a3362112c2f91180000006f902c1 l e f q) (bC J (bC (mg 73) J J)<|z_ y<|by exact rP o <| oz [W/2,W%2,_,_,_] [] 0x3910043520410043fc3a2364112c2f9312210e80000006f902c1 ⟨J,J⟩ l e f) J) J<|az (λz=>U<|PV.int z) A) J)<|fg (uO ?_ c)<|mQ J;rcases d with rfl|rfl|rfl<;>rfl
def C6{i:Y}{x:PV}(h:a[i]? =U x)(b:i<1000000):mH (.lst a) (.int (i:Z))=U x:=by
 show wl (lV (i:Z)) ((j7 (i:Z) a.length).bind λj=>a[j]?)=_;have c:=(cy.mp h).1
 have d:lV (i:Z)=ah:=by unfold lV;rw[b_];exact aP<|ab b<|dcd J
 have e:j7 (i:Z) a.length=U i:=by unfold j7;rw[bA (show¬(i:Z)<0 from aq J)];simp only[cM];rw[bM];simp;exact c
 exact rP d <| rP e h
structure Wg(f:Y->Y->Z)(I E:aj PV):Prop where
 a:∀j,1<=j->j<=4->I[j]? =ag\/I[j]? =U (.int<|f 0 j)
 b:∀j,1<=j->j<=4->E[j]? =ag\/E[j]? =U (.int<|f 1 j)
 s:∀i j,aH (f i j)<=301
noncomputable def tq(f:Y->Y->Z)(p:Z)(a:Y × Y):Z:=if 0<a.2 then p*f (a.1%2) a.2 else p
def IN(G:Wg f I E)(h:aH p<=B):aH (tq f p a)<=B+301:=by
 unfold tq;split
 ·exact gJ h<|G.s _ _
 ·exact ab h (bq ..)
def Su:aj S:=match L2.rY with
 |_:: .FZ _ _ b::_=>match b with|_:: .FZ _ _ b::_=>b|_=>[]
 |_=>[]
section
variable {seen:aj PV}
structure Gp(seen row I E:aj PV)(g c:Y):Prop where
 r:∃l:aj Y,row[g]? =U (.str l)/\l.length=c+1
 c4:c<=4
 g8:g<100
 s:∃(a b:PV) (L:Z),seen[g]? =U (.lst [a,.int L,b])/\(g%2=0->4<L)/\(g%2=1->L<=4)
 w:0<c->(g%2=0->I[c]? ≠ag)/\(g%2=1->E[c]? ≠ag)
def Q6(G:Wg f I E){p:Z}{B:Y}(h:Gp seen e I E g c)(D:aH p<=B)(x:B<=19000):kE (kn L2.P<|m+20) [] Su [U sV,U<|.lst seen,U<|.lst [.lst I,.lst E],U d,U<|.lst e,U<|.int p,U<|.int g]= U ([U sV,U<|.lst seen,U<|.lst [.lst I,.lst E],U d,U<|.lst e,U<|.int<|tq f p (g,c),U<|.int g],ag):=by
 obtain⟨l,y,A⟩:=h.r;have n:=h.c4
 have i:∀(j:Y) (env:Env),env[4]? =U (U<|.lst e)->env[6]? =U (U<|.int g)->(kn L2.P<|m+j+3).ex env (.blt .len [.sub (.var 4)<|.var 6])=U (.int ((c+1:Y):Z)):=λj env H M=>pL (bO (wY (by show(env[4]?).bind id=_;exact rP H J) (by show(env[6]?).bind id=_;exact rP M J)<|C6 y (by have:=h.g8;exact ab this<|dcd J)) J) (by show gL (aY l.length big) (PV.int (l.length:Z))=_;exact rP A <| rP (aP<|ab (gx n:c+1<=5)<|dcd J) J)
 by_cases q:0<c
 ·have o:tq f p (g,c)=p*f (g%2) c:=bM q;refine rP o ?_;obtain⟨a,b,L,s1,O,Q⟩:=h.s;have w:=h.w q
  have wt:(kn L2.P<|m+19).ex (hide [] [U sV,U<|.lst seen,U<|.lst [.lst I,.lst E],U d,U<|.lst e,U<|.int p,U<|.int g]) (.sub (.sub (.var 2)<|.ite (.cmp (.sub (.sub (.var 1)<|.var 6)<|.lit<|.int 1) [.Gt] [.lit<|.int 4]) (.lit<|.int 0)<|.lit<|.int 1)<|.bin .Sub (.blt .len [.sub (.var 4)<|.var 6])<|.lit<|.int 1)=U (.int<|f (g%2) c):=by
   have u:(kn L2.P<|m+15).ex (hide [] [U sV,U<|.lst seen,U<|.lst [.lst I,.lst E],U d,U<|.lst e,U<|.int p,U<|.int g]) (.sub (.sub (.var 1)<|.var 6)<|.lit<|.int 1)=U (.int L):=wY (wY J J<|C6 s1 (by have:=h.g8;exact ab this<|dcd J)) J<|C6 J<|dcd J;have v:(kn L2.P<|m+18).ex (hide [] [U sV,U<|.lst seen,U<|.lst [.lst I,.lst E],U d,U<|.lst e,U<|.int p,U<|.int g]) (.bin .Sub (.blt .len [.sub (.var 4)<|.var 6])<|.lit (.int 1))=U (.int (c:Z)):=bC (i 14 _ J J) J (by show U (PV.int (((c+1:Y):Z)-1))=_;exact rP (show((c+1:Y):Z)-1=(c:Z)from du 121681574) J);rcases pE g with k|k
   ·have lt:=O k;have t:=(G.a c q n).resolve_left (w.1 k);exact rP k <| wY (wY J (G1 (tN u J (show U (decide ((4:Z)<L))=_ from az U (bD lt))) J) (C6 J (dcd J))) v (C6 t (bi n (dcd J)))
   ·have lt:=Q k;have t:=(G.b c q n).resolve_left (w.2 k);exact rP k <| wY (wY J (G2 (tN u J (show U (decide ((4:Z)<L))=_ from az U (bz (kg.mpr lt)))) J) (C6 J (dcd J))) v (C6 t (bi n (dcd J)))
  exact dR (kB (tN (i 16 _ J J) J (show U (decide ((1:Z)<((c+1:Y):Z)))=_ from az U (bD (eM.mpr (f9 q))))) (dR (kR (bC J wt (sT (ab D (ab x (dcd J))) (ab (G.s _ _) (dcd J)))) J) J)) J
 ·have o:tq f p (g,c)=p:=bA q;exact rP o <| dR (iy (tN (i 16 _ J J) J (show U (decide ((1:Z)<((c+1:Y):Z)))=_ from az U (bz λz=>q (ml (eM.mp z))))) J) J
end
section
variable {m:Y} {f:Y->Y->Z} {I E seen:aj PV} {sV:PV}
def PL(G:Wg f I E){c}{a}(d:aj<|Y × Y):∀(p) (B) (g),(∀b∈d,Gp seen c I E b.1 b.2)->aH p<=B->B+301*d.length<=19000-> ∃i,iZ (λe=>kE (kn L2.P<|m+20) [] Su e) (.v 6) (d.map λb=>PV.int (b.1:Z)) [U sV,U<|.lst seen,U<|.lst [.lst I,.lst E],U a,U<|.lst c,U<|.int p,g]= U ([U sV,U<|.lst seen,U<|.lst [.lst I,.lst E],U a,U<|.lst c,U<|.int<|d.foldl (tq f) p,i],ag):=by
 induction d with
 |nil=>intro p B g _ _ _;exact⟨g,J⟩
 |cons b d l=>
  intro p B g h D j;rw[bK]at j;obtain⟨i,n⟩:=l (tq f p b) (B+301) (U<|.int (b.1:Z)) (λx q=>h x<|.tail _ q) (IN G D)<|cQ 0x4a383f91b12d2fc0a14a383f9112d2fc12d2f90aa1 j;refine⟨i,?_⟩
  show(kE (kn L2.P<|m+20) [] Su [U sV,U<|.lst seen,U<|.lst [.lst I,.lst E],U a,U<|.lst c,U<|.int p,U<|.int (b.1:Z)]).bind (λo=>match o with
   |(k,ag)=>iZ (λe=>kE (kn L2.P<|m+20) [] Su e) (.v 6) (d.map λb=>PV.int (b.1:Z)) k
   |(k,U v)=>U (k,U v))=_
  exact rP (Q6 G (h b<|.head _) D<|ab (bq ..) j) n
noncomputable def pairs(a:aj Y):aj<|Y × Y:=(cj a.length).zip a
noncomputable def rF(f:Y->Y->Z)(a:aj Y):Z:=(pairs a).foldl (tq f) 1
def Ss:aj S:=match L2.rY with
 |_:: .FZ _ _ b::_=>b
 |_=>[]
structure Ro(seen I E:aj PV)(r:aj PV × aj Y):Prop where
 l:r.1.length=r.2.length
 e:r.2.length=4\/r.2.length=6\/r.2.length=8
 g:∀gc∈pairs r.2,Gp seen r.1 I E gc.1 gc.2
def range_items{m:Y}{env:Env}{a:aj PV}(h:a.length=4\/a.length=6\/a.length=8)(b:env[4]? =U (U<|.lst a)):mU (kn L2.P<|m+20) env (.of<|.blt .range [.blt .len [.var 4]])=U ((cj a.length).map λ(g:Y)=>PV.int (g:Z)):=by
 have c:(kn L2.P<|m+19).ex env (.blt .len [.var 4])=U (.int (a.length:Z)):=pL (bO (show(env[4]?).bind id=_ by exact rP b J) J) (by show gL (aY a.length big) (PV.int (a.length:Z))=_;exact rP (aP<|ab (by exact du 0x890369039490398901 h:a.length<=8)<|dcd J) J)
 have d:(kn L2.P<|m+20).ex env (.blt .range [.blt .len [.var 4]])=U (.AN 0 (a.length:Z) 1):=pL (bO c J) (by rcases h with h|h|h<;>refine rP h ?_<;>rfl);show((kn L2.P<|m+20).ex env<|.blt .range [.blt .len [.var 4]]).bind itemsOf=_;refine rP d ?_;rcases h with h|h|h<;>refine rP h ?_<;>rfl
def KH{d:Type}:∀{l:aj Y} {r:aj d},l.length=r.length->((l.zip r).map λe=>PV.int (e.1:Z))=l.map λ(g:Y)=>PV.int (g:Z):=by
 intro l;induction l with
 |nil=>
  intro c;cases c with
  |nil=>intro _;exact J
  |cons _ _=>intro h;exact nomatch h
 |cons a l i=>
  intro c;cases c with
  |nil=>intro h;exact nomatch h
  |cons b r=>intro h;exact az (PV.int (a:Z):: ·)<|i<|fO h
def PK(G:Wg f I E)(b:aj<|aj PV × aj Y):∀(t:Z) (d c a:au PV),(∀r∈b,Ro seen I E r)-> ∃i j k,iZ (λe=>kE (kn L2.P<|m+20) [] Ss e) (.v 4) (b.map λr=> .lst r.1) [U sV,U<|.lst seen,U<|.lst [.lst I,.lst E],U<|.int t,d,c,a]= U ([U sV,U<|.lst seen,U<|.lst [.lst I,.lst E],U<|.int<|b.foldl (λt r=>t+rF f r.2) t,i,j,k],ag):=by
 induction b with
 |nil=>intro t d c a _;exact⟨d,c,a,J⟩
 |cons r b u=>
  intro t d c a h;have R:=h r<|.head _;have D:(pairs r.2).length=r.2.length:=by delta pairs;exact rP (List.length_zip ..)<|rP (fh ..)<|rP (Nat.min_self ..) J
  obtain⟨q,s⟩:=PL G (pairs r.2) 1 1 a R.g (dcd J) (by have:=R.e;exact cQ 0x12d2512d25212d2512d25a12d2512d2520103891369139491394a383f9012d2fc6a1 this D);obtain⟨i,j,k,w⟩:=u (t+rF f r.2) (U<|.lst r.1) (U<|.int<|rF f r.2) q λx y=>h x<|.tail _ y;refine⟨i,j,k,?_⟩
  show(kE (kn L2.P<|m+20) [] Ss [U sV,U<|.lst seen,U<|.lst [.lst I,.lst E],U<|.int t,U<|.lst r.1,c,a]).bind (λo=>match o with
   |(n,ag)=>iZ (λe=>kE (kn L2.P<|m+20) [] Ss e) (.v 4) (b.map λr=> .lst r.1) n
   |(n,U v)=>U (n,U v))=_
  have z:((pairs r.2).map λA=>PV.int (A.1:Z))=(cj r.1.length).map λ(g:Y)=>PV.int (g:Z):=by delta pairs;exact rP (KH (fh ..))<|rP R.l J
  rw[z]at s
  rw[show kE (kn L2.P<|m+20) [] Ss [U sV,U<|.lst seen,U<|.lst [.lst I,.lst E],U<|.int t,U<|.lst r.1,c,a]=U ([U sV,U<|.lst seen,U<|.lst [.lst I,.lst E],U<|.int<|t+rF f r.2,U<|.lst r.1,U<|.int<|rF f r.2,q],ag)from dR (kR J J)<|dR (uO (range_items (R.l▸R.e) J) s)<|dR J J]
  exact w
def K7(G:Wg f I E){a:aj<|aj PV × aj Y}(h:∀r∈a,Ro seen I E r):(kn L2.P<|m+21).ca 24 [.lst<|a.map λr=> .lst r.1,.lst seen,.lst [.lst I,.lst E]]=U (.int<|a.foldl (λt r=>t+rF f r.2) 0):=by obtain⟨c,d,e,b⟩:=PK G a 0 ag ag ag h;exact kb J J<|fg J<|fg (uO J b)<|mQ J
end
noncomputable def pw(p:Y->Z)(k:Y):Z:=if k=1 then p 0 else if k=2 then p 0*p 1 else if k=3 then p 0*p 0*p 2+p 0*p 1*p 1 else p 0*p 0*p 0*p 3+3*p 0*p 0*p 1*p 2+p 0*p 1*p 1*p 1
noncomputable def Z7:aj<|aj Y:=[[2,1,0,1],[1,2,1,0]]
noncomputable def Z6:aj<|aj Y:=[[3,1,0,1,0,1],[2,1,0,2,1,0],[2,2,1,0,0,1],[1,3,1,0,1,0],[1,2,2,1,0,0]]
noncomputable def Z5:aj<|aj Y:=[[4,1,0,1,0,1,0,1],[3,1,0,1,0,2,1,0],[3,1,0,2,1,0,0,1],[2,1,0,3,1,0,1,0],[2,1,0,2,2,1,0,0],[3,2,1,0,0,1,0,1],[2,2,1,0,0,2,1,0],[2,3,1,0,1,0,0,1],[2,2,2,1,0,0,0,1],[1,4,1,0,1,0,1,0],[1,3,1,0,2,1,0,0],[1,3,2,1,0,0,1,0],[1,2,3,1,0,1,0,0],[1,2,2,2,1,0,0,0]]
noncomputable def RK(n:Y):aj<|aj Y:=if n=2 then Z7 else if n=3 then Z6 else Z5
noncomputable def conv(p q:Y->Z)(k:Y):Z:=if k=0 then p 0*q 0 else if k=1 then p 0*q 1+p 1*q 0 else if k=2 then p 0*q 2+p 1*q 1+p 2*q 0 else p 0*q 3+p 1*q 2+p 2*q 1+p 3*q 0
theorem ident{n}(h:n=2\/n=3\/n=4){p q:Y->Z}{s1 s2}{f:Y->Y->Z}(a:∀k,f 0 k=s1^k*pw p k)(b:∀k,f 1 k=s2^k*pw q k):(RK n).foldl (λt i=>t+rF f i) 0=(s1*s2)^n*pw (conv p q) n:=by
 have c:f 0 1=s1^1*p 0:=a 1;have d:f 0 2=s1^2*(p 0*p 1):=a 2;have g:f 0 3=s1^3*(p 0*p 0*p 2+p 0*p 1*p 1):=a 3;have j:f 0 4=s1^4*(p 0*p 0*p 0*p 3+3*p 0*p 0*p 1*p 2+p 0*p 1*p 1*p 1):=a 4;have b1:f 1 1=s2^1*q 0:=b 1;have b2:f 1 2=s2^2*(q 0*q 1):=b 2;have b3:f 1 3=s2^3*(q 0*q 0*q 2+q 0*q 1*q 1):=b 3;have l:f 1 4=s2^4*(q 0*q 0*q 0*q 3+3*q 0*q 0*q 1*q 2+q 0*q 1*q 1*q 1):=b 4;have e:conv p q 0=p 0*q 0:=J
 have c1:conv p q 1=p 0*q 1+p 1*q 0:=J
 have c2:conv p q 2=p 0*q 2+p 1*q 1+p 2*q 0:=J
 have m:conv p q 3=p 0*q 3+p 1*q 2+p 2*q 1+p 3*q 0:=J
 rcases h with rfl|rfl|rfl
 ·show 0+1*f 0 2*f 1 1*f 1 1+1*f 0 1*f 1 2*f 0 1=(s1*s2)^2*(conv p q 0*conv p q 1);refine rP c<|rP d<|rP b1<|rP b2<|rP e<|rP c1 ?_;grind
 ·show 0+1*f 0 3*f 1 1*f 1 1*f 1 1+1*f 0 2*f 1 1*f 1 2*f 0 1+1*f 0 2*f 1 2*f 0 1*f 1 1+1*f 0 1*f 1 3*f 0 1*f 0 1+1*f 0 1*f 1 2*f 0 2*f 1 1=(s1*s2)^3*(conv p q 0*conv p q 0*conv p q 2+conv p q 0*conv p q 1*conv p q 1);refine rP c<|rP d<|rP g<|rP b1<|rP b2<|rP b3<|rP e<|rP c1<|rP c2 ?_;grind
 ·show 0+1*f 0 4*f 1 1*f 1 1*f 1 1*f 1 1+1*f 0 3*f 1 1*f 1 1*f 1 2*f 0 1+1*f 0 3*f 1 1*f 1 2*f 0 1*f 1 1+1*f 0 2*f 1 1*f 1 3*f 0 1*f 0 1+1*f 0 2*f 1 1*f 1 2*f 0 2*f 1 1+1*f 0 3*f 1 2*f 0 1*f 1 1*f 1 1+1*f 0 2*f 1 2*f 0 1*f 1 2*f 0 1+1*f 0 2*f 1 3*f 0 1*f 0 1*f 1 1+1*f 0 2*f 1 2*f 0 2*f 1 1*f 1 1+1*f 0 1*f 1 4*f 0 1*f 0 1*f 0 1+1*f 0 1*f 1 3*f 0 1*f 0 2*f 1 1+1*f 0 1*f 1 3*f 0 2*f 1 1*f 0 1+1*f 0 1*f 1 2*f 0 3*f 1 1*f 1 1+1*f 0 1*f 1 2*f 0 2*f 1 2*f 0 1=(s1*s2)^4*(conv p q 0*conv p q 0*conv p q 0*conv p q 3+3*conv p q 0*conv p q 0*conv p q 1*conv p q 2+conv p q 0*conv p q 1*conv p q 1*conv p q 1);refine rP c<|rP d<|rP g<|rP j<|rP b1<|rP b2<|rP b3<|rP l<|rP e<|rP c1<|rP c2<|rP m ?_;grind
noncomputable def uB(X:Y):aj Y->Y
 |[]=>0
 |c::r=>c+X*uB X r
def G3{l}:(∀c∈l,c<X)->uB X l<X^l.length:=by
 induction l with
 |nil=>intro _;exact zU
 |cons c r a=>intro h;have b:=a λx d=>h x<|.tail _ d;have e:=h c<|.head _;show c+X*uB X r<X^(r.length+1);refine rP (mi ..)<|rP (bS (X^r.length) ..) ?_;have:=cA X (show uB X r+1<=X^r.length from b);rw[jp]at this;exact gr 0x231d1a1302210a2 e this
def PF(h:∀x∈l,x<X)(d:c<X)(e:a=uB X l+X^l.length*c+X^(l.length+1)*R):a%X^(l.length+1)/X^l.length=c:=by
 have b:=G3 h;have D:0<X^l.length:=ab (fZ ..) b
 have f:uB X l+X^l.length*c<X^(l.length+1):=by refine rP (mi ..) ?_;have:=cA (X^l.length) (show c+1<=X from d);rw[jp]at this;exact gr 0x231d1a1302210a2 b this
 exact rP (e ..)<|rP (CW ..)<|rP (kv f ..)<|rP (Nat.add_mul_div_left _ _ D ..)<|rP (zO b ..)<|rP (kt ..) J
noncomputable def rN(X a b c d T:Y):Y:=a+X*(b+X*(c+X*(d+X*T)))
noncomputable def Df(a b c d:Y)(k:Y):Y:=if k=1 then a else if k=2 then a*b else if k=3 then a*a*c+a*b*b else a*a*a*d+3*a*a*b*c+a*b*b*b
noncomputable def Ab(a b c:Y)(k:Y):aj Y:=if k=1 then[]else if k=2 then[a*a]else if k=3 then[a*a*a,3*a*a*b]else[a*a*a*a,4*a*a*a*b,4*a*a*a*c+6*a*a*b*b]
theorem Qf(X a b c d T):rN X a b c d T^1=uB X (Ab a b c 1)+X^0*(1*Df a b c d 1)+X^(0+1)*(b+X*(c+X*(d+X*T))):=by show(a+X*(b+X*(c+X*(d+X*T))))^1=0+X^0*(1*a)+_;grind
theorem Qe(X a b c d T):rN X a b c d T^2=uB X (Ab a b c 2)+X^1*(2*Df a b c d 2)+X^(1+1)*(2*a*(c+X*(d+X*T))+(b+X*(c+X*(d+X*T)))^2):=by show(a+X*(b+X*(c+X*(d+X*T))))^2=a*a+X*0+X^1*(2*(a*b))+_;grind
theorem Qd(X a b c d T):rN X a b c d T^3=uB X (Ab a b c 3)+X^2*(3*Df a b c d 3)+X^(2+1)*(3*a*a*(d+X*T)+3*a*(2*b*(c+X*(d+X*T))+X*(c+X*(d+X*T))^2)+(b+X*(c+X*(d+X*T)))^3):=by show(a+X*(b+X*(c+X*(d+X*T))))^3=a*a*a+X*(3*a*a*b+X*0)+X^2*(3*(a*a*c+a*b*b))+_;grind
theorem Qc(X a b c d T):rN X a b c d T^4=uB X (Ab a b c 4)+X^3*(4*Df a b c d 4)+X^(3+1)*(4*a*a*a*T+6*a*a*(2*b*(d+X*T)+(c+X*(d+X*T))^2)+4*a*(3*b*b*(c+X*(d+X*T))+3*X*b*(c+X*(d+X*T))^2+X*X*(c+X*(d+X*T))^3)+(b+X*(c+X*(d+X*T)))^4):=by show(a+X*(b+X*(c+X*(d+X*T))))^4=a*a*a*a+X*(4*a*a*a*b+X*(4*a*a*a*c+6*a*a*b*b+X*0))+X^3*(4*(a*a*a*d+3*a*a*b*c+a*b*b*b))+_;grind
def L5(e:1<=k)(f:k<=4)(a b c d T):∃R:Y->Y,∀X,rN X a b c d T^k=uB X (Ab a b c k)+X^(Ab a b c k).length*(k*Df a b c d k)+X^((Ab a b c k).length+1)*R X/\(Ab a b c k).length+1=k:=by
 have:k=1\/k=2\/k=3\/k=4:=du 0xeae98eae99f0490106149033903980396039 e f;rcases this with rfl|rfl|rfl|rfl
 ·exact⟨_,λX=>⟨Qf X a b c d T,J⟩⟩
 ·exact⟨_,λX=>⟨Qe X a b c d T,J⟩⟩
 ·exact⟨_,λX=>⟨Qd X a b c d T,J⟩⟩
 ·exact⟨_,λX=>⟨Qc X a b c d T,J⟩⟩
def val_one(l):uB 1 l=l.sum:=by
 induction l with
 |nil=>exact J
 |cons c r a=>show c+1*uB 1 r=_;exact rP (a ..) <| rP (d8 ..) J
def HA:∀{l:aj Y},x∈l->x<=l.sum:=by
 intro l;induction l with
 |nil=>first|nofun|contradiction|(intros;contradiction)
 |cons c r a=>
  intro h;show x<=c+r.sum;rcases aR.mp h with e|e
  ·exact d9 271718913 e
  ·have:=a e;exact ab this (fZ ..)
def MR{a b c d T k}(g:1<=k)(i:k<=4):(Ab a b c k).sum+k*Df a b c d k<=(a+b+c+d+T)^k:=by
 obtain⟨R,h⟩:=L5 g i a b c d T;have f:=(h 1).1;rw[val_one,abl,abl,d8,d8]at f;have e:rN 1 a b c d T=a+b+c+d+T:=by exact cJ (uS 0x43210aaaa41c3a1c2a1c1a1c0a1)<|uS 0x41c3a1c2a1c1a1c0a43210aaaa1
 rw[e]at f;exact gr 0x30310aa23210a1 f
def Ra{a b c d T f k w:Y}(e:1<=k)(g:k<=4)(i:(a+b+c+d+f)^k<2^w):rN (2^w) a b c d T^k%2^(w*k)/2^(w*(k-1))=k*Df a b c d k:=by obtain⟨R,h⟩:=L5 e g a b c d T;obtain⟨m,j⟩:=h<|2^w;have l:=MR (a:=a) (b:=b) (c:=c) (d:=d) (T:=f) e g;have t:=PF (λx n=>by have:=HA n;exact uS 0x301243a1122102 i l this) (by exact gr 2214610477314 i l) m;rw[<-zT,<-zT,j,show(Ab a b c k).length=k-1 from d9 0x189329b3a899020b3261621a103 J e j]at t;exact t
def Vc(f:1<=a)(e:1<=b):1<=Df a b c d k:=by
 unfold Df;have g:1<=a*b:=gC f e;have h:1<=a*b*b:=gC g e;have i:1<=a*b*b*b:=gC h e;split
 ·exact f
 ·split
  ·exact g
  ·split
   ·exact ab h (fZ ..)
   ·exact ab i (fZ ..)
def X'{a b c d T T1 k w W g D wh}{s}(e:1<=k)(h:k<=4)(i:8<=w)(j:w<=300)(l:W=w+4100*g)(m:g<=1)(f:wh=2^(W-1)+2^(W/2)-1)(n:D<2^40)(sg:s=1\/s= -1)(o:rN (2^w) a b c d T<2^2400)(q:1<=a)(r:1<=b)(t:(a+b+c+d+T1)^k<2^w):Wt (rN (2^w) a b c d T) w W g D k (k*Df a b c d k) (Df a b c d k) wh s:=⟨e,h,i,j,l,m,f,n,o,sg,Ra e h t,J,gC e<|Vc q r⟩
theorem num_mul(X a b c d e f g h):rN X a b c d 0*rN X e f g h 0=rN X (a*e) (a*f+b*e) (a*g+b*f+c*e) (a*h+b*g+c*f+d*e) ((b*h+c*g+d*f)+X*(c*h+d*g)+X*X*(d*h)):=by unfold rN;grind
theorem PM(a b c d e f g h:Y):(a+b+c+d)*(e+f+g+h)=a*e+(a*f+b*e)+(a*g+b*f+c*e)+(a*h+b*g+c*f+d*e)+((b*h+c*g+d*f)+(c*h+d*g)+d*h):=by grind
end
def H2(s):∀(p) (e),(fJ p e s).length<=s.length+(if e=ah then 1 else 0):=by
 induction s with
 |nil=>intro p e;cases e<;>exact aZ _
 |cons c t a=>
  intro p e;cases e with
  |true=>show(fJ (p+1) af t).length+1<=_;have:=a (p+1) af;rw[bA<|dcd J]at this;exact rP bK <| d9 7808269531650 this
  |false=>
   show(match aF c 92 with|true=>fJ (p+1) ah t|false=>(p,[c])::fJ (p+1) af t).length<=_;cases aF c 92 with
   |true=>have:=a (p+1) ah;rw[bM J]at this;exact rP bK <| ab this<|aZ _
   |false=>show(fJ (p+1) af t).length+1<=_;have:=a (p+1) af;rw[bA<|dcd J]at this;exact rP bK <| gx this
def oN{c:Type}{l:aj c}:(cut l a b).length<=l.length:=by unfold cut;exact rP f5 <| rP dP <| oz [min ((b.elim l.length<|d_ l.length)-(a.elim 0<|d_ l.length))<|l.length-(a.elim 0<|d_ l.length),_,l.length-(a.elim 0<|d_ l.length),_,(b.elim l.length<|d_ l.length)-(a.elim 0<|d_ l.length)] [] 0x18c0240d312a101 J J
def Ti{s}(b:aj<|Y × aj Y):∀(a),(∀x∈a.res,x.length<=s.length)->(∀x∈(b.foldl (gY s) a).res,x.length<=s.length)/\(b.foldl (gY s) a).res.length<=a.res.length+b.length:=by
 induction b with
 |nil=>intro a h;exact⟨h,aZ _⟩
 |cons u b c=>
  intro a h
  have d:∀x∈(gY s a u).res,x.length<=s.length:=by
   unfold gY;cases fT u.2 [34]with
   |false=>exact h
   |true=>
    cases a.op with
    |none=>exact h
    |some o=>
     show∀x∈(match aF a.start o with|true=>a.res|false=>a.res++[cut s (U (a.start:Z))<|U (o:Z)]),x.length<=s.length;cases aF a.start o with
     |true=>exact h
     |false=>exact λx f=>(dI.mp f).elim (h x) λe=>by exact rP (aU.mp e) oN
  have r:=c (gY s a u) d;have l:=Tj (s:=s) (a:=a) (u:=u);exact⟨r.1,by exact rP bK <| ab r.2<|d9 47283750703265 l⟩
def x8{n:Y}{l:aj<|aj Y}:(∀x∈l,x.length<=n)->l.flatten.length<=l.length*n:=by
 induction l with
 |nil=>intro _;exact db _
 |cons a l b=>intro h;refine rP (gp ..)<|rP (aW ..)<|rP (bK ..)<|rP (ku ..) ?_;have:=h a<|.head _;have:=b λx c=>h x<|.tail _ c;exact gr 581848131047585 (by assumption) this
def sL{l}:uP (l.map .str)=U l:=by
 induction l with
 |nil=>exact J
 |cons x l a=>show(uP<|l.map .str).bind (λl=>U<|x::l)=_;exact rP a J
def B9{l:aj<|aj Y}{n:Y}(h:∀x∈l,x.length<=n)(a:l.length*n<=1000000)(b:l.length<=1000000):FG .join (.str []) [.lst<|l.map .str]=U (.str l.flatten):=by show(uP<|l.map .str).bind (λl=>gL (aY l.flatten.length big&&aY l.length big)<|PV.str l.flatten)=_;refine rP sL ?_;show gL (aY l.flatten.length big&&aY l.length big) (PV.str l.flatten)=_;exact rP (aP<|ab (x8 h)<|ab a<|dcd J) <| rP (aP<|ab b<|dcd J) J
section
variable {m:Y}
def Cd{e}(h:(kn L2.P<|m+12).ex env e=U (.str s))(a:s.length<=900):mU (kn L2.P<|m+12) env (.esc e)=U ((fJ 0 af s).map G4):=by
 show((kn L2.P<|m+12).ex env e).bind (λx=>match x with
  | .str s=>match aY s.length 65536 with|true=>U ((fJ 0 af s).map G4)|false=>ag
  |_=>ag)=_
 refine rP h ?_;show(match aY s.length 65536 with|true=>U ((fJ 0 af s).map G4)|false=>ag)=_;exact rP (aP<|ab a<|dcd J) J
def C7(d:s.length<=900)(r:pS s=ah):(kn L2.P<|m+13).ca 12 [.str s]=U (.str<|gF s):=by
 refine kb J J ?_;have c1:((kn L2.P<|m+12).ex ([PV.str s].map U++bJ (6-1) ag)<|.cmp (.lit<|.str [34]) [.NotIn] [.var 0]).bind truth=U (!(s.any λc=>aF 34 c)):=J;unfold gF;cases q:s.any λc=>aF 34 c with
 |false=>rw[q]at c1;exact rH c1<|mQ J
 |true=>
  rw[q]at c1;have b:=H2 s 0 af;rw[bA<|dcd J]at b;obtain⟨j,k,f⟩:=Vb (m:=m) (s:=s) (ab d<|dcd J) (fJ 0 af s) ⟨0,ag,[]⟩ ag ag (x_ s 0 af r) (by simp only[fC];exact cQ 0x71a013842f9117d02f907a1 d b);have g:=Ti (s:=s) (fJ 0 af s) ⟨0,ag,[]⟩ λ_ h=>bI h a0;generalize(fJ 0 af s).foldl (gY s) ⟨0,ag,[]⟩=a at*;have rl:a.res.length<=900:=ab g.2 (by simp only[fC];exact cQ 0x71a013842f9113842f907a1 d b);refine fg (iy c1 J)<|fg J<|fg J<|fg (e:=[U<|.str s,U<|.int 0,U .none,U<|.lst [],ag,ag]) J<|fg (uO (Cd J d) f) ?_
  have c2:((kn L2.P<|m+12).ex [U<|.str s,U<|.int (a.start:Z),U<|Qo a.op,U<|.lst<|a.res.map .str,j,k]<|.cmp (.var 1) [.Lt] [.blt .len [.var 0]]).bind truth=U (!(aY s.length a.start)):=by
   refine az (λo=>jf o truth)<|jr (m:=m+11) (y:= .int (s.length:Z)) J (pL (m:=m+10) (vs:=[.str s]) J ?_) ?_
   ·show gL (aY s.length big) (PV.int (s.length:Z))=_;exact rP (aP<|ab d<|dcd J) J
   ·show U (decide ((a.start:Z)<(s.length:Z)))=_;congr 1;by_cases e:s.length<=a.start
    ·exact rP (aP e) <| bz<|cQ 1177431 e
    ·exact rP (show aY s.length a.start=af from lS.mpr λz=>e<|aD z) <| bD<|cQ 1146741 e
  unfold Ce;cases l:aY s.length a.start with
  |true=>rw[l]at c2;refine fg (iy c2 J)<|mQ<|AD J J<|B9 (λx i=>ab (g.1 x i) d) (du 0x3842503842f901f42404f903842fd1 rl)<|ab rl<|dcd J
  |false=>rw[l]at c2;refine fg (e:=[U<|.str s,U<|.int (a.start:Z),U<|Qo a.op,U<|.lst<|(a.res++[cut s (U (a.start:Z)) ag]).map .str,j,k]) (kB c2<|dR (yy (xs:=a.res.map .str) (v:= .str<|cut s (U (a.start:Z)) ag) J ?_<|rP (aG ..) <| ab rl<|dcd J)<|rP (dq ..) J)<|mQ<|AD (m:=m+11) (x:= .str []) (vs:=[.lst<|(a.res++[cut s (U (a.start:Z)) ag]).map .str]) J J<|B9 (n:=900) (λx i=>(dI.mp i).elim (λe=>ab (g.1 x e) d) λe=>rP (aU.mp e ..) <| ab oN d) (by refine rP (aW ..) ?_;simp only[bK,fC];exact du 0x3842503842f901f42404f97b0a3842fd1 rl) (by refine rP (aW ..) ?_;simp only[bK,fC];exact bi rl<|dcd J);show gL (aY s.length big) (PV.str<|cut s (U (a.start:Z)) ag)=_;exact rP (aP<|ab d<|dcd J) J
end
def OD:aj S:=match L2.nu with
 |_::_:: .FZ _ _ b::_=>b
 |_=>[]
inductive CkO(r:au Out)(S:PV)(b:aB):Prop
 |early (e:Env) (h:r=U (e,U<|.bool af)) (hb:b=af):CkO r S b
 |done(f:Z) (z2 z3:au PV) (h:r=U ([U S,U<|.int f,z2,z3],ag)) (hb:b=decide (f=0)):CkO r S b
def RR{S}(a:aj<|Y × aj Y):∀(o) (x2 b),(∀u∈a,pS u.2=ah)->CkO (iZ (λe=>kE (kn L2.P<|m+20) [] OD e) (.tup [.v 2,.v 3]) (a.map G4) [U S,U<|.int o,x2,b]) S (ub o a):=by
 induction a with
 |nil=>intro o x2 b _;exact .done o x2 b J J
 |cons u a c=>
  intro o x2 b h;have g:=h u<|.head _;have c:=λo x2 b=>c o x2 b λx l=>h x<|.tail _ l;have c1:((kn L2.P<|m+20).ex [U S,U<|.int o,U<|.int (u.1:Z),U<|.str u.2]<|.cmp (.var 3) [.Eq] [.lit<|.str [40]]).bind truth=U (fT u.2 [40]):=az (λo=>jf o truth)<|jr J J<|eq_str g J;have c2:((kn L2.P<|m+20).ex [U S,U<|.int o,U<|.int (u.1:Z),U<|.str u.2]<|.cmp (.var 3) [.Eq] [.lit<|.str [41]]).bind truth=U (fT u.2 [41]):=az (λo=>jf o truth)<|jr J J<|eq_str g J
  have step:∀(r),kE (kn L2.P<|m+20) [] OD [U S,U<|.int o,U<|.int (u.1:Z),U<|.str u.2]=r->iZ (λe=>kE (kn L2.P<|m+20) [] OD e) (.tup [.v 2,.v 3]) ((u::a).map G4) [U S,U<|.int o,x2,b]=r.bind (λo=>match o with
   |(f,ag)=>iZ (λe=>kE (kn L2.P<|m+20) [] OD e) (.tup [.v 2,.v 3]) (a.map G4) f
   |(f,U v)=>U (f,U v)):=λr h=>by exact rS h J
  unfold ub;cases i:fT u.2 [40]with
  |true=>rw[i]at c1;exact rP (step _<|dR (kB c1<|dR J J) J) <| c _ _ _
  |false=>
   rw[i]at c1;cases j:fT u.2 [41]with
   |false=>rw[j]at c2;exact rP (step _<|dR (iy c1<|dR (iy c2 J) J) J) <| c _ _ _
   |true=>
    rw[j]at c2;have d:((kn L2.P<|m+20).ex [U S,U<|.int<|o-1,U<|.int (u.1:Z),U<|.str u.2]<|.cmp (.var 1) [.Lt] [.lit<|.int 0]).bind truth=U (decide (o-1<0)):=J;cases k:decide (o-1<0)with
    |true=>rw[k]at d;obtain⟨e,n⟩:Run (kn L2.P<|m+20) [] OD [U S,U<|.int o,U<|.int (u.1:Z),U<|.str u.2] (.bool af):=tU c1<|rH c2<|fg (AM J J J)<|rH d ⟨_,J⟩;exact rP (step _ n) <| .early _ J J
    |false=>rw[k]at d;exact rP (step _<|dR (iy c1<|dR (kB c2<|dR (AM J J J)<|dR (iy d J) J) J) J) <| c _ _ _
def yR{a:Type}{x:a}{l:aj a}{n k}(h:x∈(l.drop n).take k):x∈l:=tI<|j9 h
def ky:pS l=ah<->∀c∈l,fy c 55296=ah:=a_
def YF(d:pS s=ah)(b:aj<|Y × aj Y):∀(a),(∀x∈a.res,pS x=ah)->∀x∈(b.foldl (gY s) a).res,pS x=ah:=by
 induction b with
 |nil=>intro a h;exact h
 |cons u b f=>
  intro a h
  exact f (gY s a u) (by
   unfold gY;cases fT u.2 [34]with
   |false=>exact h
   |true=>
    cases a.op with
    |none=>exact h
    |some o=>
     show∀x∈(match aF a.start o with|true=>a.res|false=>a.res++[cut s (U (a.start:Z))<|U (o:Z)]),pS x=ah;cases aF a.start o with
     |true=>exact h
     |false=>exact λx g=>(dI.mp g).elim (h x) λe=>by exact rP (aU.mp e) <| ky.mpr λc i=>ky.mp d c<|yR i)
def DZ{l:aj<|aj Y}(h:∀x∈l,pS x=ah):pS l.flatten=ah:=ky.mpr λc a=>by obtain⟨x,b,d⟩:=Po.mp a;exact ky.mp (h x b) c d
def vR(b:pS s=ah):pS (gF s)=ah:=by
 unfold gF;cases s.any λc=>aF 34 c with
 |false=>exact b
 |true=>
  have r:=YF b (fJ 0 af s) ⟨0,ag,[]⟩ λ_ h=>bI h a0;show pS (Ce s<|(fJ 0 af s).foldl (gY s) ⟨0,ag,[]⟩)=ah;generalize(fJ 0 af s).foldl (gY s) ⟨0,ag,[]⟩=a at*;unfold Ce;cases aY s.length a.start with
  |true=>exact DZ r
  |false=>exact DZ λx d=>(dI.mp d).elim (r x) λe=>by exact rP (aU.mp e) <| ky.mpr λc f=>ky.mp b c<|yR f
def Od(d:s.length<=900)(c:pS s=ah)(g:(gF s).length<=900):(kn L2.P<|m+21).ca 13 [.str s]=U (.bool<|Ck s):=by
 have ck:=RR (m:=m) (S:= .str<|gF s) (fJ 0 af<|gF s) 0 ag ag<|x_ _ 0 af<|vR c;have a:=Cd (m:=m+8) (s:=gF s) (env:=[U<|.str<|gF s,U<|.int 0,ag,ag]) (e:= .var 0) J g;refine kb J J<|fg (kR (x_call J<|C7 d c) J)<|fg J ?_;unfold Ck;cases ck with
 |early e h b=>exact rP b <| Hj ⟨_,uO a h⟩
 |done f i j h b=>exact rP b <| fg (uO a h)<|mQ J
def nr(s:aj Y):aj Y:=match Ck s with|true=>s|false=>[40,39,39,44,32,39,39,41]
def Sx:aj S:=match L2.lu with
 |_:: .FZ _ _ b::_=>b
 |_=>[]
structure An(s:aj Y):Prop where
 l:s.length<=900
 o:pS s=ah
 t:(gF s).length<=900
def Qb(l:aj<|aj Y):∀(a:aj PV) (x2:au PV),(∀s∈l,An s)->a.length+l.length<=1000-> ∃c,iZ (λe=>kE (kn L2.P<|m+30) [1] Sx e) (.v 2) (l.map .str) [U F,U<|.lst a,x2]=U ([U F,U<|.lst<|a++l.map λs=> .str<|nr s,c],ag):=by
 induction l with
 |nil=>intro a x2 _ _;exact⟨x2,by rw[oA,oA,eB];rfl⟩
 |cons s l b=>
  intro a x2 h d;rw[bK]at d;have T:=h s<|.head _;obtain⟨c,b⟩:=b (a++[.str<|nr s]) (U<|.str<|nr s) (λx i=>h x<|.tail _ i) (by refine rP aW ?_;simp only[bK,fC];exact cQ 0x3e82f91b0a13e82f917b0aa1 d);refine⟨c,?_⟩
  show(kE (kn L2.P<|m+30) [1] Sx [U F,U<|.lst a,U<|.str s]).bind (λo=>match o with
   |(f,ag)=>iZ (λe=>kE (kn L2.P<|m+30) [1] Sx e) (.v 2) (l.map .str) f
   |(f,U v)=>U (f,U v))=_
  have ck:=Od (m:=m+7) T.l T.o T.t;have call:(kn L2.P<|m+29).ex [U F,U<|.lst a,U<|.str s] (.call 13 [.var 2])=U (.bool<|Ck s):=x_call J ck
  have c1:((kn L2.P<|m+30).ex [U F,U<|.lst a,U<|.str s]<|.un .Not<|.call 13 [.var 2]).bind truth=U (!(Ck s)):=by show(((kn L2.P<|m+29).ex [U F,U<|.lst a,U<|.str s]<|.call 13 [.var 2]).bind λx=>unop .Not x).bind truth=_;exact rP call J
  have g:a.length<=big:=ab (ab (bq ..) d:a.length<=1000)<|dcd J
  rw[show kE (kn L2.P<|m+30) [1] Sx [U F,U<|.lst a,U<|.str s]=U ([U F,U<|.lst<|a++[.str<|nr s],U<|.str<|nr s],ag) by
   unfold nr;cases q:Ck s with
   |true=>rw[q]at c1;exact dR (iy c1 J)<|dR (yy J J g) J
   |false=>rw[q]at c1;exact dR (kB c1<|dR J J)<|dR (yy J J g) J]
  rw[dS]at b;exact b
def L4{l:aj<|aj Y}(h:∀s∈l,An s)(b:l.length<=1000):(kn L2.P<|m+31).ca 14 [.lst<|l.map .str]=U (.lst<|l.map λs=> .str<|nr s):=by obtain⟨c,a⟩:=Qb l [] ag h (by simp only[fC];exact c_ b _);exact kb J J<|fg J<|fg (uO J a)<|mQ J
noncomputable def jY(n:Y):aj<|aj Y:=match n with
 |2=>[[40,41,40,41],[40,40,41,41]]
 |3=>[[40,41,40,41,40,41],[40,41,40,40,41,41],[40,40,41,41,40,41],[40,40,41,40,41,41],[40,40,40,41,41,41]]
 |_=>[[40,41,40,41,40,41,40,41],[40,41,40,41,40,40,41,41],[40,41,40,40,41,41,40,41],[40,41,40,40,41,40,41,41],[40,41,40,40,40,41,41,41],[40,40,41,41,40,41,40,41],[40,40,41,41,40,40,41,41],[40,40,41,40,41,41,40,41],[40,40,40,41,41,41,40,41],[40,40,41,40,41,40,41,41],[40,40,41,40,40,41,41,41],[40,40,40,41,41,40,41,41],[40,40,40,41,40,41,41,41],[40,40,40,40,41,41,41,41]]
noncomputable def Dy(i:Y):aj Y:=match i with|0=>[]|1=>[34,40,34]|_=>[34,92,34,41,34]
noncomputable def HD(i:Y):aj Y:=match i with|0=>[92,41]|1=>[34,40,34]|2=>[60,92,92]|3=>[34,92,34,41,34]|4=>[91,92,34]|_=>[34]
noncomputable def HC(i:Y):aj<|aj Y:=match i with|0=>[[92,41]]|1=>[]|2=>[[60],[92,92]]|3=>[]|4=>[[91],[92,34]]|_=>[[34]]
noncomputable def Ba(R:aj Y)(p i:Y):aj Y:=R.take (p/2)++(Dy i++(R.take p).drop (p/2))
noncomputable def w0(R:aj Y)(p s:Y):aj Y:=R.drop p++bJ s 92
noncomputable def F6(R:aj Y)(p i k s:Y):aj Y:=Ba R p i++(HD k++w0 R p s)
noncomputable def C_(c:Y):aj Y:=[c]
noncomputable def yl(R:aj Y)(p k s:Y):aj<|aj Y:=(R.take p).map C_++(HC k++(w0 R p s).map C_)
noncomputable def xw:Y->aj (aj Y)->aj (Y × aj Y)
 |_,[]=>[]
 |n,u::r=>(n+u.length-1,u)::xw (n+u.length) r
noncomputable def ZO:aj (Y × aj Y)->aj (Y × aj Y)->aB
 |[],[]=>ah
 |a::x,b::y=>match aF a.1 b.1 with|false=>af|true=>match fT a.2 b.2 with|false=>af|true=>ZO x y
 |_,_=>af
noncomputable def mR(l:aj<|aj Y):aj Y:=match l with
 |[]=>[]
 |u::r=>match u with
  |[c]=>match aF c 40||aF c 41 with|true=>c::mR r|false=>mR r
  |_=>mR r
def u8(R:aj Y)(p i k s:Y):aB:=ZO (fJ 0 af<|gF<|F6 R p i k s) (xw 0<|yl R p k s)&&fT (mR<|yl R p k s) R
noncomputable def allR(f:Y->Y->Y->Y->aB)(q:Y):aB:=(cj q).all λp=>(cj 3).all λi=>(cj 6).all λk=>(cj 2).all λs=>f p i k s
theorem Rh:(jY 2).all (λR=>allR (u8 R) 5)=ah:=by decide+kernel
def Wy{c:Y}{f:aj Y}{a b:Y}:cut (c::f) (U ((a+1:Y):Z)) (U ((b+1:Y):Z))=cut f (U (a:Z)) (U (b:Z)):=by show((c::f).drop<|d_ (c::f).length ((a+1:Y):Z)).take (d_ (c::f).length ((b+1:Y):Z)-d_ (c::f).length ((a+1:Y):Z))=(f.drop<|d_ f.length (a:Z)).take (d_ f.length (b:Z)-d_ f.length (a:Z));exact rP (gU ..)<|rP (gU ..)<|rP (gU ..)<|rP (gU ..)<|rP (bK ..)<|rP (m7 ..)<|rP (m7 ..)<|rP (uy ..)<|rP (Iu ..) J
def WB{c:Y}{f:aj Y}{b:Y}:cut (c::f) (U ((0:Y):Z)) (U ((b+1:Y):Z))=c::cut f (U ((0:Y):Z)) (U (b:Z)):=by show((c::f).drop<|d_ (c::f).length ((0:Y):Z)).take (d_ (c::f).length ((b+1:Y):Z)-d_ (c::f).length ((0:Y):Z))=c::(f.drop<|d_ f.length ((0:Y):Z)).take (d_ f.length (b:Z)-d_ f.length ((0:Y):Z));rw[gU,gU,gU,gU,bK,GQ,GQ,fS,fS,m7,mf,mf,iW]
def Z0{c:Y}{f:aj Y}{a:Y}:cut (c::f) (U ((a+1:Y):Z)) ag=cut f (U (a:Z)) ag:=by show((c::f).drop<|d_ (c::f).length ((a+1:Y):Z)).take ((c::f).length-d_ (c::f).length ((a+1:Y):Z))=(f.drop<|d_ f.length (a:Z)).take (f.length-d_ f.length (a:Z));exact rP (gU ..)<|rP (gU ..)<|rP (bK ..)<|rP (m7 ..)<|rP (uy ..)<|rP (Iu ..) J
def T2{f:aj Y}:cut f (U ((0:Y):Z)) ag=f:=by show(f.drop<|d_ f.length ((0:Y):Z)).take (f.length-d_ f.length ((0:Y):Z))=f;exact rP (gU ..)<|rP (GQ ..)<|rP (fS ..)<|rP (mf ..)<|rP (i7 ..) J
def Bc(f):∀(p) (e),(e=ah->1<=p)->fJ (p+1) e f=(fJ p e f).map λu=>(u.1+1,u.2):=by
 induction f with
 |nil=>
  intro p e h;cases e with
  |false=>rfl
  |true=>show[(p+1-1,[92])]=[(p-1+1,[92])];exact rP (show p+1-1=p-1+1 by have:=h J;exact d9 0x18e883b8983bc988e8889ba0261621a62b0a1b03 J J this) J
 |cons c t a=>
  intro p e h;cases e with
  |true=>exact az ((p+1,[92,c]):: ·)<|a (p+1) af nofun
  |false=>
   show(match aF c 92 with|true=>fJ (p+1+1) ah t|false=>(p+1,[c])::fJ (p+1+1) af t)=tJ _ (match aF c 92 with|true=>fJ (p+1) ah t|false=>(p,[c])::fJ (p+1) af t);cases aF c 92 with
   |true=>exact a (p+1) ah λ_=>(fZ ..)
   |false=>exact az ((p+1,[c]):: ·)<|a (p+1) af nofun
structure Rq(c:Y)(a b:XQ):Prop where
 op:b.op=a.op.map (· +1)
 r:(a.start=0/\b.start=0/\a.res=[]/\b.res=[])\/(b.start=a.start+1/\b.res.flatten=c::a.res.flatten)
def Rq.step{c:Y}{f:aj Y}{a b:XQ}(R:Rq c a b)(u:Y × aj Y):Rq c (gY f a u)<|gY (c::f) b (u.1+1,u.2):=by
 show Rq c (match fT u.2 [34]with|false=>a|true=>_) (match fT u.2 [34]with|false=>b|true=>_);cases fT u.2 [34]with
 |false=>exact R
 |true=>
  obtain⟨as,m,h⟩:=a;obtain⟨i,q,e⟩:=b;obtain⟨j,n⟩:=R;replace j:q=m.map (· +1):=j;subst j;cases m with
  |none=>exact⟨J,n⟩
  |some o=>
   refine⟨J,.inr ⟨J,?_⟩⟩;show(match aF i (o+1)with|true=>e|false=>e++[cut (c::f) (U (i:Z))<|U ((o+1:Y):Z)]).flatten=c::(match aF as o with|true=>h|false=>h++[cut f (U (as:Z))<|U (o:Z)]).flatten;rcases n with⟨g,d,k,l⟩|⟨g,d⟩
   ·replace g:as=0:=g;replace d:i=0:=d;replace k:h=[]:=k;replace l:e=[]:=l;subst g d k l;show([]++[cut (c::f) (U ((0:Y):Z))<|U ((o+1:Y):Z)]).flatten=_;refine rP WB ?_;cases o with
    |zero=>
     show[c::cut f (U ((0:Y):Z)) (U ((0:Y):Z))].flatten=[c]
     have:cut f (U ((0:Y):Z)) (U ((0:Y):Z))=[]:=by show(f.drop _).take (d_ f.length ((0:Y):Z)-d_ f.length ((0:Y):Z))=[];exact rP (xC ..) J
     exact rP this J
    |succ o=>rfl
   ·replace g:i=as+1:=g;replace d:e.flatten=c::h.flatten:=d;subst g;show(match aF as o with|true=>e|false=>e++[cut (c::f) (U ((as+1:Y):Z))<|U ((o+1:Y):Z)]).flatten=_;cases aF as o with
    |true=>exact d
    |false=>show(e++[_]).flatten=c::(h++[_]).flatten;exact rP Wy <| rP kA <| rP kA <| rP d J
def Rq.all{c}{f}(d:aj<|Y × aj Y):∀{a b},Rq c a b->Rq c (d.foldl (gY f) a) ((d.map λu=>(u.1+1,u.2)).foldl (gY<|c::f) b):=by
 induction d with
 |nil=>intro _ _ R;exact R
 |cons u d e=>intro _ _ R;exact e<|R.step u
def qh{c:Y}{f:aj Y}(i:aF 34 c=af)(j:aF c 92=af)(k:fT [c] [34]=af):gF (c::f)=c::gF f:=by
 unfold gF;have l:((c::f).any λd=>aF 34 d)=f.any λd=>aF 34 d:=by show(aF 34 c||_)=_;exact rP i J
 refine rP l ?_;cases f.any λd=>aF 34 d with
 |false=>rfl
 |true=>
  have m:fJ 0 af (c::f)=(0,[c])::(fJ 0 af f).map λu=>(u.1+1,u.2):=by show(match aF c 92 with|true=>fJ 1 ah f|false=>(0,[c])::fJ 1 af f)=_;exact rP j<|rS (Bc f 0 af nofun) J
  show Ce (c::f) ((fJ 0 af<|c::f).foldl (gY<|c::f) ⟨0,ag,[]⟩)=c::Ce f ((fJ 0 af f).foldl (gY f) ⟨0,ag,[]⟩);refine rP m ?_;have n:gY (c::f) ⟨0,ag,[]⟩ (0,[c])=⟨0,ag,[]⟩:=by show(match fT [c] [34]with|false=>_|true=>_)=_;exact rP k J
  refine rP nT<|rP n ?_;have R:=Rq.all (c:=c) (f:=f) (fJ 0 af f) (a:=⟨0,ag,[]⟩) (b:=⟨0,ag,[]⟩) ⟨J,.inl ⟨J,J,J,J⟩⟩;generalize(fJ 0 af f).foldl (gY f) ⟨0,ag,[]⟩=a at*;generalize((fJ 0 af f).map λu=>(u.1+1,u.2)).foldl (gY<|c::f) ⟨0,ag,[]⟩=b at*;unfold Ce;rcases R.r with⟨g,e,o,q⟩|⟨g,e⟩
  ·refine rP g<|rP e<|rP o<|rP q ?_;have h:aY (c::f).length 0=af:=J;refine rP h ?_;show([]++[cut (c::f) (U ((0:Y):Z)) ag]).flatten=_;refine rP T2 ?_;cases f with
   |nil=>rfl
   |cons d f=>show _=c::([]++[cut (d::f) (U ((0:Y):Z)) ag]).flatten;exact rP T2 J
  ·refine rP g ?_;have h:aY (c::f).length (a.start+1)=aY f.length a.start:=J;refine rP h ?_;cases aY f.length a.start with
   |true=>exact e
   |false=>show(b.res++[cut (c::f) (U ((a.start+1:Y):Z)) ag]).flatten=c::(a.res++[_]).flatten;exact rP Z0 <| rP kA <| rP kA <| rP e J
noncomputable def Ai:Z->aj Y->aB
 |o,[]=>decide (o=0)
 |o,c::r=>match aF c 40 with
  |true=>Ai (o+1) r
  |false=>match decide (o-1<0)with
   |true=>af
   |false=>Ai (o-1) r
def ln1{c d}:fT [c] [d]=aF c d:=by show(match aF c d with|true=>ah|false=>af)=_;cases aF c d<;>rfl
def RT(f:aj<|Y × aj Y):∀(o),ub o f=Ai o (mR (f.map (·.2))):=by
 induction f with
 |nil=>intro o;exact J
 |cons u f j=>
  intro o;obtain⟨p,l⟩:=u
  have g:∀d:Y,l.length≠1->fT l [d]=af:=λd i=>by
   match l,i with
   |[],_=>rfl
   |[_],h=>exact bI J h
   |a::b::r,_=>show(match aF a d with|true=>af|false=>af)=_;cases aF a d<;>rfl
  by_cases i:l.length=1
  ·obtain⟨c,rfl⟩:=List.length_eq_one_iff.mp i;show(match fT [c] [40]with|true=>ub (o+1) f|false=>match fT [c] [41]with|false=>ub o f|true=>match decide (o-1<0)with|true=>af|false=>ub (o-1) f)=Ai o (match aF c 40||aF c 41 with|true=>c::mR (f.map (·.2))|false=>mR (f.map (·.2)));refine rP ln1<|rP ln1 ?_;cases k:aF c 40 with
   |true=>show ub (o+1) f=(match aF c 40 with|true=>Ai (o+1) _|false=>_);exact rP k <| j _
   |false=>
    cases m:aF c 41 with
    |false=>exact j o
    |true=>
     show(match decide (o-1<0)with|true=>af|false=>ub (o-1) f)=(match aF c 40 with|true=>_|false=>match decide (o-1<0)with|true=>af|false=>Ai (o-1) (mR (f.map (·.2))));refine rP k ?_;cases decide (o-1<0)with
     |true=>rfl
     |false=>exact j _
  ·have e:mR (((p,l)::f).map (·.2))=mR (f.map (·.2)):=by
    match l,i with
    |[],_=>rfl
    |[_],h=>exact bI J h
    |_::_::_,_=>rfl
   refine rP e ?_
   show(match fT l [40]with|true=>ub (o+1) f|false=>match fT l [41]with|false=>ub o f|true=>_)=_
   exact rP (g 40 i) <| rP (g 41 i) <| j o
noncomputable def DN(c:C):aB:=match c with| .var i=>aF i 1|_=>af
noncomputable def VP(c:C):aB:=match c with| .lit (.int i)=>decide (i=3)|_=>af
noncomputable def Ex(a:C):au C:=match a with| .bin b x y=>(match decide (b= .Add)&&DN y with|true=>U x|false=>ag)|_=>ag
noncomputable def YZ(a:aj jh)(b:aj C):au<|jh × C:=match a with|[c]=>(match b with|[r]=>U (c,r)|_=>ag)|_=>ag
noncomputable def Vt(a:aj G):au<|Y × C:=match a with|[.mk (.v i) (.of s) []]=>U (i,s)|_=>ag
noncomputable def pT:Y->C->aB
 |0,_=>af
 |n+1,c=>match c with
  | .var i=> !(aF i 1)
  | .lit _=>ah
  | .bin f a b=>(pT n a&&pT n b)||(decide (f= .Mod)&&(VP b&&(DN a||(Ex a).any (pT n))))
  | .blt _ as=>as.all<|pT n
  | .call _ as=>as.all<|pT n
  | .FF _ o as=>pT n o&&as.all (pT n)
  | .sub o i=>pT n o&&pT n i
  | .xP o lo g=>pT n o&&(lo.all (pT n)&&g.all (pT n))
  | .lst h=>h.all<|pT n
  | .cmp l d j=>pT n l&&(YZ d j).any λp=>pT n p.2
  | .ite t a b=>pT n t&&(pT n a&&pT n b)
  | .rdot o=>pT n o
  | .vz e k=>pT n e&&(Vt k).any λp=> !(aF p.1 1)&&pT n p.2
  |_=>af
def Gy{b:Type}{o:au b}{f:b->aB}(h:o.any f=ah):∃a,o=U a/\f a=ah:=match o,h with
 |some a,h=>⟨a,J,h⟩
def JY{a x:C}(h:Ex a=U x):∃y,a= .bin .Add x y/\DN y=ah:=by
 induction a using C.casesOn with
 |bin b z y=>
  cases q:decide (b= .Add)&&DN y with
  |false=>rw[show Ex (.bin b z y)=match decide (b= .Add)&&DN y with|true=>U z|false=>ag from rfl,q]at h;exact nd h
  |true=>rw[show Ex (.bin b z y)=match decide (b= .Add)&&DN y with|true=>U z|false=>ag from rfl,q]at h;exact⟨y,by exact rP (aq (n2 q).1)<|rP (sm h) J,(n2 q).2⟩
 |_=>exact nd h
def Mg{a}(h:YZ b a=U p):b=[p.1]/\a=[p.2]:=by
 induction b using aE with
 |nil=>exact nd h
 |cons o os=>induction os using aE with
  |cons=>exact nd h
  |nil=>induction a using aE with
   |nil=>exact nd h
   |cons r a=>induction a using aE with
    |cons=>exact nd h
    |nil=>exact rS (sm h) <| ⟨J,J⟩
def Mh{a:aj G}(h:Vt a=U p):a=[.mk (.v p.1) (.of p.2) []]:=by
 induction a using aE with
 |nil=>exact nd h
 |cons g a=>induction a using aE with
  |cons=>induction g using G.casesOn with
   |mk t s b=>induction t using T.casesOn<;>induction s using Src.casesOn<;>induction b using aE<;>exact nd h
  |nil=>induction g using G.casesOn with
   |mk t s b=>induction t using T.casesOn with
    |tup=>exact nd h
    |v i=>induction s using Src.casesOn with
     |of s=>induction b using aE with
      |nil=>exact rS (sm h) <| J
      |cons=>exact nd h
     |_=>exact nd h
noncomputable abbrev s1(t:Z)(env:Env):Env:=env.set 1<|U<|.int t
def XR(P:Y->au Fn)(u t:Z)(c:C):Prop:=∀m (env:Env),env[1]? =U (U<|.int u)->(kn P m).ex (s1 t env) c=(kn P m).ex env c
def NL{m:Y}{a:aj C}:(∀c∈a,XR P u t c)->env[1]? =U (U<|.int u)->qV (kn P m) (s1 t env) a=qV (kn P m) env a:=by
 induction a with
 |nil=>intro _ _;exact J
 |cons c a b=>intro h e;show((kn P m).ex (s1 t env) c).bind (λv=>(qV (kn P m) (s1 t env) a).bind λvs=>U<|v::vs)=((kn P m).ex env c).bind (λv=>(qV (kn P m) env a).bind λvs=>U<|v::vs);exact rP (h c (.head _) m env e)<|rP (b (λx d=>h x<|.tail _ d) e) J
def add_mod{x}(h:u.fmod 3=t.fmod 3):(binop .Add x<|.int t).bind (λz=>binop .Mod z<|.int 3)=(binop .Add x<|.int u).bind (λz=>binop .Mod z<|.int 3):=by
 cases x with
 |int i=>show gL ah (PV.int<|(i+t).fmod 3)=gL ah (PV.int<|(i+u).fmod 3);congr 2;rw[bG _<|dcd J,bG _<|dcd J]at h⊢;exact rP (aaR i t ..)<|rP (aaR i u ..)<|rP (h ..) J
 |fw f=>show((EP t).bind λy=>U<|PV.fw<|ox f y).bind (λz=>binop .Mod z<|.int 3)=((EP u).bind λy=>U<|PV.fw<|ox f y).bind (λz=>binop .Mod z<|.int 3);cases EP t<;>cases EP u<;>rfl
 |_=>rfl
def HL(a:i≠1){env:Env}:hide [i] (s1 t env)=s1 t (hide [i] env):=by show(env.set 1 _).set i ag=(env.set i ag).set 1 _;exact vv _ _ λz=>a z.symm
def FV(a:i≠1){env}(e:env[1]? =U (U<|.int u)):(hide [i] env)[1]? =U (U<|.int u):=by show(env.set i ag)[1]? =_;refine rP (a6 a) ?_;exact e
def Ji{c:C}(f:i≠1)(h:XR P u t c)(b:aj PV):∀(env:Env) (d:aj PV),env[1]? =U (U<|.int u)-> iD (kn P m) (.v i) [] (eG (kn P m) (fK (kn P m) c) []) (s1 t env) b d=iD (kn P m) (.v i) [] (eG (kn P m) (fK (kn P m) c) []) env b d:=by
 induction b with
 |nil=>intro _ _ _;exact J
 |cons x g j=>
  intro env d e;have k:(env.set i<|U x)[1]? =U (U<|.int u):=by refine rP (a6 f) ?_;exact e
  have l:fK (kn P m) c ((s1 t env).set i<|U x) d=fK (kn P m) c (env.set i<|U x) d:=by have:(s1 t env).set i (U x)=s1 t (env.set i<|U x):=vv _ _ λz=>f z.symm;refine rP this ?_;show((kn P m).ex (s1 t<|env.set i<|U x) c).bind _=((kn P m).ex (env.set i<|U x) c).bind _;exact rP (h m _ k) J
  show(fK (kn P m) c ((s1 t env).set i<|U x) d).bind (λa=>iD (kn P m) (.v i) [] (eG (kn P m) (fK (kn P m) c) []) (s1 t env) g a)=(fK (kn P m) c (env.set i<|U x) d).bind (λa=>iD (kn P m) (.v i) [] (eG (kn P m) (fK (kn P m) c) []) env g a);exact rP l <| az _<|funext λa=>j env a e
def S6(h:DN c=ah):c= .var 1:=by
 cases c with
 |var i=>exact az C.var<|aJ h
 |_=>exact ff h
def Zm{c:C}(h:VP c=ah):c= .lit (.int 3):=by
 cases c with
 |lit v=>cases v with
  |int i=>exact rP (aq (show decide (i=3)=ah from h)) J
  |_=>exact ff h
 |_=>exact ff h
def b1{a c:Type}{o b:au a}{F:a->au c}(h:o=b):o.bind F=b.bind F:=az (·.bind F) h
def b2{a b e:Type}{o c:au a}{p d:au b}{F:a->b->au e}(h:o=c)(f:p=d):(o.bind λx=>p.bind<|F x)=c.bind λx=>d.bind<|F x:=rP h<|rP f J
def b3{a b c g:Type}{o d:au a}{p e:au b}{q f:au c}{F:a->b->c->au g}(h:o=d)(i:p=e)(j:q=f):(o.bind λx=>p.bind λy=>q.bind<|F x y)=d.bind λx=>e.bind λy=>f.bind<|F x y:=rP h<|rP i<|rP j J
def bm{f:Type}{o c:au PV}{a d b e:au f}(h:o=c)(g:a=d)(i:b=e):(o.bind λv=>(truth v).bind λr=>match r with|true=>a|false=>b)=c.bind λv=>(truth v).bind λr=>match r with|true=>d|false=>e:=rP h<|rP g<|rP i J
def Dq{env:Env}(a:∀{c:C},pT n c=ah->XR P u t c)(e:env[1]? =U (U<|.int u)){x:au C}(b:x.all (pT n)=ah):tA (kn P m) (s1 t env) x=tA (kn P m) env x:=by
 cases x with
 |none=>rfl
 |some c=>exact b1<|a b m env e
def Nu{env:Env}(e:env[1]? =U (U<|.int u)):(s1 t env)[1]? =U (U<|.int t):=by refine rP di<|rP e ?_;rfl
def MX{n m:Y}{env:Env}{c:C}{d:aj G}(j:∀{c:C},pT n c=ah->XR P u t c)(h:(pT n c&&(Vt d).any λp=> !(aF p.1 1)&&pT n p.2)=ah)(e:env[1]? =U (U<|.int u)):(kn P<|m+1).ex (s1 t env) (.vz c d)=(kn P<|m+1).ex env (.vz c d):=by
 obtain⟨⟨i,s⟩,g,b⟩:=Gy (n2 h).2;obtain rfl:=Mh g;have b:=n2 b;have f:i≠1:=λz=>by subst z;exact ff b.1
 have k:=FV f e;show(((kn P m).ex (hide [i]<|s1 t env) s).bind itemsOf |>.bind λa=>iD (kn P m) (.v i) [] (eG (kn P m) (fK (kn P m) c) []) (hide [i]<|s1 t env) a []).bind (λvs=>U<|PV.lst vs)=(((kn P m).ex (hide [i] env) s).bind itemsOf |>.bind λa=>iD (kn P m) (.v i) [] (eG (kn P m) (fK (kn P m) c) []) (hide [i] env) a []).bind (λvs=>U<|PV.lst vs);refine rP (HL f)<|rP (j b.2 m _ k) ?_;congr 2;exact funext λa=>Ji f (j (n2 h).1) a _ [] k
def MJ{n m:Y}{env:Env}{d:dU}{a b:C}(k:∀{c:C},pT n c=ah->XR P u t c)(i:u.fmod 3=t.fmod 3)(h:(decide (d= .Mod)&&(VP b&&(DN a||(Ex a).any (pT n))))=ah)(e:env[1]? =U (U<|.int u)):(kn P<|m+1).ex (s1 t env) (.bin d a b)=(kn P<|m+1).ex env (.bin d a b):=by
 obtain rfl:=aq (n2 h).1;have j:=n2 (n2 h).2;obtain rfl:=Zm j.1;induction m using cg with
 |zero=>rfl
 |succ m=>
 refine(bH.mp j.2).elim (λf=> ?_) λf=> ?_
 ·obtain rfl:=S6 f;show(((s1 t env)[1]?).bind id).bind (λx=>(U<|.int 3).bind λy=>binop .Mod x y)=((env[1]?).bind id).bind (λx=>(U<|.int 3).bind λy=>binop .Mod x y);refine rP (Nu e)<|rP e ?_;show gL ah (PV.int<|t.fmod 3)=gL ah (PV.int<|u.fmod 3);exact rP i J
 ·obtain⟨x,g,l⟩:=Gy f;obtain⟨y,rfl,o⟩:=JY g;obtain rfl:=S6 o;induction m using cg with
  |zero=>rfl
  |succ m=>
  show(((kn P<|m+1).ex (s1 t env) x).bind λa=>(((s1 t env)[1]?).bind id).bind λb=>binop .Add a b).bind (λz=>binop .Mod z<|.int 3)=(((kn P<|m+1).ex env x).bind λa=>((env[1]?).bind id).bind λb=>binop .Add a b).bind (λz=>binop .Mod z<|.int 3);refine rP (Nu e)<|rP e<|rP (k l (m+1) env e) ?_;cases(kn P<|m+1).ex env x with
  |none=>rfl
  |some v=>exact add_mod i
def Ds(q:u.fmod 3=t.fmod 3){n:Y}:∀{c:C},pT n c=ah->XR P u t c:=by
 induction n with
 |zero=>exact λh=>ff h
 |succ n d=>
  refine @λc h m env e=> ?_;have j:=λ{s:aj C} (h:s.all (pT n)=ah)=>NL (P:=P) (m:=m-1) (λc w=>d<|a_.mp h c w) e;induction m using cg with
  |zero=>rfl
  |succ m=>
  induction c using C.casesOn with
  |var i=>show((s1 t env)[i]?).bind id=(env[i]?).bind id;exact rP (a6 λz=>by subst z;exact ff (show Bool.not (aF 1 1)=ah from h)) J
  |lit v=>rfl
  |bin k a b=>exact(bH.mp h).elim (λh=>b2 (d (n2 h).1 m env e)<|d (n2 h).2 m env e) λh=>MJ d q h e
  |blt b as=>exact b1<|j h
  |call f as=>exact b1<|j h
  |lst as=>exact b1<|j h
  |FF f o as=>exact b2 (d (n2 h).1 m env e)<|j (n2 h).2
  |sub o i=>exact b2 (d (n2 h).1 m env e)<|d (n2 h).2 m env e
  |xP o lo D=>exact b3 (d (n2 h).1 m env e) (Dq d e (n2 (n2 h).2).1)<|Dq d e (n2 (n2 h).2).2
  |cmp l A E=>obtain⟨⟨k,r⟩,g,B⟩:=Gy (n2 h).2;obtain⟨rfl,rfl⟩:=Mg g;show((kn P m).ex (s1 t env) l).bind (λx=>(((kn P m).ex (s1 t env) r).bind λy=>i4 k x y).bind λb=>U<|PV.bool b)=_;exact rP (d (n2 h).1 m env e) <| rP (d B m env e) J
  |ite c a b=>exact bm (d (n2 h).1 m env e) (d (n2 (n2 h).2).1 m env e)<|d (n2 (n2 h).2).2 m env e
  |rdot o=>exact b1<|d h m env e
  |vz c H=>exact MX d h e
  |_=>exact ff h
def sm2(h:a<=100)(c:b<=100):a+b<=1000:=ab (dL h c)<|dcd J
def sm1(h:a<=100):a<=1000:=ab h<|dcd J
abbrev Lk(env:Env)(i:Y)(v:PV):Prop:=env[i]? =U (U v)
noncomputable abbrev ent(env:Env)(i:Y)(x:PV):Env:=(hide [i] env).set i<|U x
noncomputable abbrev pn(n:Y):PV:= .int (n:Z)
section
variable {x:PV}
def cf(h:Lk env i v):(kn P<|m+1).ex env (.var i)=U v:=bE h J
def jl(h:i≠j)(e:Lk env j v):Lk (ent env i x) j v:=by show((env.set i ag).set i<|U x)[j]? =_;refine rP (a6 h)<|rP (a6 h) ?_;exact e
def jd(h:i≠j)(e:Lk env j v):Lk (hide [i] env) j v:=by show(env.set i ag)[j]? =_;refine rP (a6 h) ?_;exact e
def qW(h:i<env.length):Lk (ent env i x) i x:=by show((env.set i ag).set i<|U x)[i]? =_;exact rP (gm (by rw[dr];exact h)) J
def DD{d:Type}{ι g:d->PV}{l:aj d}:∀{acc},(∀a∈l,(kn P m).ex (env.set i<|U<|ι a) c=U (g a))->acc.length+l.length<=1000-> iD (kn P m) (.v i) [] (eG (kn P m) (fK (kn P m) c) []) env (l.map ι) acc=U (acc++l.map g):=by
 induction l with
 |nil=>intro acc _ _;exact az U (eB acc).symm
 |cons a l e=>intro acc h b;rw[bK]at b;show(((kn P m).ex (env.set i<|U<|ι a) c).bind λv=>match aY acc.length big with|true=>U (acc++[v])|false=>ag).bind (λacc=>iD (kn P m) (.v i) [] (eG (kn P m) (fK (kn P m) c) []) env (l.map ι) acc)=_;refine rP (h a<|.head _) ?_;show(match aY acc.length big with|true=>U (acc++[g a])|false=>ag).bind _=_;refine rP (aP<|ab (ab (bq ..) b:acc.length<=1000)<|dcd J) ?_;have:=e (acc:=acc++[g a]) (λa f=>h a<|.tail _ f) (by refine rP aW ?_;show acc.length+1+_<=_;exact cQ 0x3e82f91b0a13e82f910ba1 b);rw[dS]at this;exact this
def qR{e:Type}{ι g:e->PV}{l:aj e}{s}(d:mU (kn P m) (hide [i] env) s=U (l.map ι))(h:∀a∈l,(kn P m).ex (ent env i<|ι a) c=U (g a))(f:l.length<=1000):(kn P<|m+1).ex env (.vz c [.mk (.v i) s []])=U (.lst<|l.map g):=by show((mU (kn P m) (hide [i] env) s).bind λb=>iD (kn P m) (.v i) [] (eG (kn P m) (fK (kn P m) c) []) (hide [i] env) b []).bind (λvs=>U<|PV.lst vs)=_;refine rP d ?_;show(iD (kn P m) (.v i) [] (eG (kn P m) (fK (kn P m) c) []) (hide [i] env) (l.map ι) []).bind _=_;exact rP (DD h (by simp only[fC];exact c_ f _)) J
def IY{N:Y}:eP 0 (N:Z) 1=(N:Z):=by
 delta eP;refine rP (bM (show(1:Z)>0 by decide)) ?_;by_cases h:N=0
 ·subst h;rfl
 ·exact rP (bM (show(0:Z)<(N:Z)from du 133261653845 h) ..) <| rP (aaQ ..) <| du 31211367062
def I1(a:N<=1000):(oP .range [pn N]).bind itemsOf=U ((cj N).map pn):=by have e:oP .range [pn N]=gL (dA 0 (N:Z) 1) (PV.AN 0 (N:Z) 1):=J;refine rP e<|rP (small_one (dcd J) (dcd J) (aK _)<|du 0x3e82f9014000000000000000ff875 a) ?_;show U ((hJ 0 (N:Z) 1).map PV.int)=_;delta hJ De;refine rP IY<|rP bU ?_;refine az U<|gz λk _=> ?_;show PV.int (0+(k:Z)*1)=PV.int (k:Z);exact rP (ki ..)<|rP (kx ..) J
def src_range(h:(kn P m).ex env c=U (pn N))(a:N<=1000):mU (kn P<|m+1) env (.of<|.blt .range [c])=U ((cj N).map pn):=by show((((kn P m).ex env c).bind λv=>U [v]).bind λvs=>oP .range vs).bind itemsOf=_;rw[h,qb,qb];exact I1 a
def KJ(h:(kn P m).ex env c=U (.lst a))(b:a.length<=1000):(kn P<|m+1).ex env (.blt .len [c])=U (pn a.length):=by show(((kn P m).ex env c).bind λv=>U [v]).bind (λvs=>oP .len vs)=_;refine rP h ?_;show gL (aY a.length big) (PV.int (a.length:Z))=_;exact rP (aP<|ab b<|dcd J) J
def Hb(h:Lk env j<|.lst a)(b:a.length<=1000):mU (kn P<|m+3) env (.of<|.blt .range [.blt .len [.var j]])=U ((cj a.length).map pn):=src_range (KJ (cf h) b) b
def Dz{a q:Y}(b:q≠0):binop .Mod (pn a) (pn q)=U (pn<|a%q):=by show gL (!(decide ((q:Z)=0))) (PV.int<|(a:Z).fmod q)=_;exact rP (bz<|by exact du 4331209709415 b) <| rP (bG _<|aK _) J
def Ww{a q:Y}(b:q≠0)(h:aH (q:Z)<=9000):binop .FloorDiv (pn a) (pn q)=U (pn<|a/q):=by refine(TP (du 4331209709415 b) h).trans ?_;exact rP (bW _<|aK _) J
def acA{a b}:binop .Add (pn a) (pn b)=U (pn<|a+b):=J
def q_{k:Y}:(kn P<|m+1).ex env (.lit<|.int (k:Z))=U (pn k):=J
def hH(h:(kn P m).ex env c=U (.lst a))(b:(kn P m).ex env o=U (pn k))(d:a[k]? =U x)(e:k<1000000):(kn P<|m+1).ex env (.sub c o)=U x:=wY h b<|C6 d e
def G0{h q r z i:Y}{a:C}(b:Lk env 3<|.lst H)(c:H[z]? =U (pn h))(d:z<11)(f:Lk env i<|pn r)(g:q≠0)(e:(kn P<|m+3).ex env a=U (pn q)):(kn P<|m+4).ex env (.bin .Mod (.bin .Add (.sub (.var 3)<|.lit<|.int (z:Z))<|.var i) a)=U (pn<|(h+r)%q):=bC (bC (hH (cf b) q_ c<|ab d<|dcd J) (cf f) acA) e<|Dz g
def qj{a b}(h:a.length+b.length<=1000):binop .Add (.str a) (.str b)=U (.str<|a++b):=by show gL (aY (a.length+b.length) big) (PV.str<|a++b)=_;exact rP (aP<|ab h<|dcd J) J
def oI{a b}(h:a.length+b.length<=1000):binop .Add (.lst a) (.lst b)=U (.lst<|a++b):=by show gL (aY (a.length+b.length) big) (PV.lst<|a++b)=_;exact rP (aP<|ab h<|dcd J) J
def Ch{a:Type}{l:aj a}{k:Y}:cut l ag (U (k:Z))=l.take k:=by show(l.drop 0).take (d_ l.length (k:Z)-0)=_;exact rP (gU ..)<|rP (fS ..)<|rP (mf ..)<|rS (Uw ..)<|rP (i7 ..) J
def RG{b:Type}{l:aj b}{k q}(h:k<=q)(a:q<=l.length):cut l (U (k:Z)) (U (q:Z))=(l.take q).drop k:=by show(l.drop<|d_ l.length (k:Z)).take (d_ l.length (q:Z)-d_ l.length (k:Z))=_;exact rP (gU ..)<|rP (gU ..)<|rP (om (ab h a) ..)<|rP (om a ..)<|rP (Uy ..) J
def N4{a:Type}{l:aj a}{k}(h:k<=l.length):cut l (U (k:Z)) ag=l.drop k:=by show(l.drop<|d_ l.length (k:Z)).take (l.length-d_ l.length (k:Z))=_;exact rP (gU ..)<|rP (om h ..)<|rS (dP ..)<|rP (i7 ..) J
def yu(a:part b=U l)(c:part d=U h)(e:s.length<=1000):oW (.str s) b d=U (.str<|cut s l h):=by delta oW;refine rP a<|rP c ?_;show gL (aY s.length big) (PV.str<|cut s l h)=_;exact rP (aP<|ab e<|dcd J) J
def uA(h:(kn P m).ex env o=U x)(a:tA (kn P m) env b=U vl)(c:tA (kn P m) env d=U vh)(e:oW x vl vh=U r):(kn P<|m+1).ex env (.xP o b d)=U r:=bE h<|bE a<|bE c e
def nD(h:k.ex env c=U v):tA k env (U c)=U (U v):=bE h J
end
def rf(k:Y):C:=match L2.Gs[k]? with|some (.asg _ _ c)=>c|_=> .var 0
noncomputable def nR(n:Y):Y:=(jY n).length
noncomputable def rowAt(n r:Y):aj Y:=(jY n).getD r []
noncomputable def AW(n x0 r:Y):Y:=(x0+r)%(2*n+1)
abbrev iS(n:Y):Prop:=n=2\/n=3\/n=4
def Cf{n}(h:iS n):n<=4:=by rcases h with rfl|rfl|rfl<;>decide
def yP{n}(a:iS n):nR n<=14:=by rcases a with rfl|rfl|rfl<;>decide
def ME{n r}(a:iS n)(h:r<nR n):r<1000000:=aV h<|ab (yP a)<|dcd J
def Zc{n}(a:iS n):(cj<|nR n).length<=1000:=by exact rP fh <| ab (yP a)<|dcd J
def mO{n r}(a:r<nR n):(jY n)[r]? =U (rowAt n r):=by unfold rowAt;refine rP ce<|rP (be a) ?_;rfl
def LQ{n}(a:iS n):∀R∈jY n,R.length=2*n/\pS R=ah/\R.length<=8:=by rcases a with rfl|rfl|rfl<;>decide
def oY{n r}(a:iS n)(b:r<nR n):(rowAt n r).length=2*n/\pS (rowAt n r)=ah/\(rowAt n r).length<=8:=LQ a _<|cP<|mO b
structure Lx(env:Env)(n x0 x1 x2:Y)(H:aj PV):Prop where
 len:env.length=55
 a3:Lk env 3<|.lst H
 a4:Lk env 4<|pn n
 a5:Lk env 5<|.lst<|(jY n).map .str
 h0:H[0]? =U (pn x0)
 h1:H[1]? =U (pn x1)
 h2:H[2]? =U (pn x2)
 hn:iS n
noncomputable abbrev rl(n:Y)(f:Y->PV):PV:= .lst<|(cj<|nR n).map f
section
variable {P:Y->au Fn} {m i n f o q:Y} {d:Env} {c:C} {x:PV} {H:aj PV}
def Lx.sub(h:Lx d n f o q H)(a:30<i):Lx (ent d i x) n f o q H:=⟨by show((d.set i ag).set i<|U x).length=55;exact rP dr <| rP dr <| h.len,jl (du 2070059126839 a) h.a3,jl (du 2070059192375 a) h.a4,jl (du 2070059257911 a) h.a5,h.h0,h.h1,h.h2,h.hn⟩
structure Cr(d:Env)(i r n f o q:Y)(H:aj PV):Prop extends Lx d n f o q H where
 ai:Lk d i<|pn r
 hr:r<nR n
def Cr.plc{r}(h:Cr d i r n f o q H):AW n f r<=(rowAt n r).length:=by exact rP ((oY h.hn h.hr).1) <| eF<|bP _<|fj _
def Cr.r8{r}(h:Cr d i r n f o q H):(rowAt n r).length<=100:=ab (oY h.hn h.hr).2.2<|dcd J
def qq(h:Lx d n f o q H)(a:30<i)(j:i<55){g:Y->PV}(e:∀r,Cr (ent d i<|pn r) i r n f o q H->(kn P<|m+3).ex (ent d i<|pn r) c=U (g r)):(kn P<|m+4).ex d (.vz c [.mk (.v i) (.of<|.blt .range [.blt .len [.var 5]]) []])=U (rl n g):=by have b:((jY n).map PV.str).length=nR n:=aG ..;exact qR (Hb (jd (gw<|bi (dcd J) a) h.a5) (rP b <| ab (yP h.hn)<|dcd J) |>.trans (rP b J)) (λr k=>e r ⟨h.sub a,qW<|rP h.len j,eQ.mp k⟩)<|Zc h.hn
def Tg{g:Y->PV}{r}(a:r<nR n):((cj<|nR n).map g)[r]? =U (g r):=by refine rP cb<|rP (kz a) ?_;rfl
def zX{j r}{g:Y->PV}(h:Cr d i r n f o q H)(a:Lk d j<|rl n g):(kn P<|m+2).ex d (.sub (.var j)<|.var i)=U (g r):=hH (cf a) (cf h.ai) (Tg h.hr)<|ME h.hn h.hr
def GZ{r}(h:Cr d i r n f o q H):(kn P<|m+2).ex d (.sub (.var 5)<|.var i)=U (.str<|rowAt n r):=hH (cf h.a5) (cf h.ai) (by refine rP cb<|rP (mO h.hr) ?_;rfl)<|ME h.hn h.hr
def l5(h:Lx d n f o q H):(kn P<|m+8).ex d (rf 5)=U (rl n λr=>pn<|AW n f r):=qq h (dcd J) (dcd J) λr h=>G0 h.a3 h.h0 (dcd J) h.ai (SO _)<|bC (bC J (cf h.a4)<|re (dcd J)<|ab (Cf h.hn)<|dcd J) J J
def lt3{k}(h:k<3):k=0\/k=1\/k=2:=du 0x79c9c9f0390280360397039 h
def l6(h:Lx d n f o q H):(kn P<|m+9).ex d (rf 6)=U (rl n λr=> .str<|Dy<|(o+r)%3):=qq h (dcd J) (dcd J) λr h=>hH J (G0 h.a3 h.h1 (dcd J) h.ai (dcd J) J) (by rcases lt3 (bP (o+r) (show 0<3 by decide))with e|e|e<;>refine rP e ?_<;>rfl)<|fY (bP _<|dcd J) (by decide:3<1000000)
def yO{k}:(Dy k).length<=5:=by
 match k with
 |0=>decide
 |1=>decide
 |_+2=>exact aZ 5
def KM{j r}(h:Cr d i r n f o q H)(a:Lk d j<|rl n λr=>pn<|AW n f r):(kn P<|m+3).ex d (.bin .FloorDiv (.sub (.var j)<|.var i)<|.lit<|.int 2)=U (pn<|AW n f r/2):=bC (zX h a) (q_)<|Ww (dcd J)<|dcd J
def Rx{a:Type}{l:aj a}{k}:(l.drop k).length<=l.length:=rP dP <| lA ..
def DU{R}{p i}(h:R.length<=8):(Ba R p i).length<=13:=by unfold Ba;have:=yO (k:=i);exact rP aW <| rP aW <| rP dP <| rP f5 <| rP f5 <| oz [min (p/2) R.length,_,(min p R.length)-(p/2),p/2,_,min p R.length,_,p%2] [] 0x1e9ea88c9ef30640512061305920619989b9edcc9ed89b9efb99b9f05911894126e7e3e352a46e5d430dd921a0a1 J J J ⟨J,J⟩ h this
def l7(h:Lx d n f o q H)(e:Lk d 7<|rl n λr=>pn<|AW n f r)(j:Lk d 8<|rl n λr=> .str<|Dy<|(o+r)%3):(kn P<|m+9).ex d (rf 7)=U (rl n λr=> .str<|Ba (rowAt n r) (AW n f r)<|(o+r)%3):=
 qq (m:=m+5) h (dcd J) (dcd J) λr h=>by
  have R:=sm1 h.r8;have e:=jl (x:=pn r) (i:=36) (dcd J) e;have g:=ab (oN (a:=ag) (b:=U ((AW n f r/2:Y):Z))) (oY h.hn h.hr).2.2;refine bC (bC (uA (GZ h) J (nD<|KM h e)<|yu J J R) (zX h<|jl (dcd J) j)<|qj<|ab (dL g yO)<|dcd J) (uA (GZ h) (nD<|KM h e) (nD<|zX h e)<|yu J J R)<|(qj<|sm2 ?_<|ab oN h.r8).trans ?_
  ·exact rP aW <| ab (dL g yO)<|dcd J
  ·unfold Ba;exact rP (Ch ..)<|rP (RG (sP ..) h.plc ..)<|rP (dS ..) J
end
noncomputable def DJ(k:Y):PV:= .lst [.str<|HD k,.lst<|(HC k).map .str]
noncomputable def y0(n x0 x1 x2 r:Y):aj Y:=F6 (rowAt n r) (AW n x0 r) ((x1+r)%3) ((x2+r)%6)<|(x0+r)%2
noncomputable def uN(n x0 x2 r:Y):aj<|aj Y:=yl (rowAt n r) (AW n x0 r) ((x2+r)%6)<|(x0+r)%2
def yW{k}:(HD k).length<=5/\pS (HD k)=ah:=by
 match k with
 |0=>decide
 |1=>decide
 |2=>decide
 |3=>decide
 |4=>decide
 |_+5=>exact⟨(by decide:1<=5),J⟩
def Jp{k}:(HC k).length<=5:=by
 match k with
 |0=>decide
 |1=>decide
 |2=>decide
 |3=>decide
 |4=>decide
 |_+5=>exact(by decide:1<=5)
def QA{k}:pS (Dy k)=ah:=by
 match k with
 |0=>rfl
 |1=>rfl
 |_+2=>rfl
def LU{R}{p s}(h:R.length<=8)(a:s<2):(w0 R p s).length<=9:=by delta w0;exact rP aW <| rP jM <| dL (ab Rx h)<|eF a
section
variable {P:Y->au Fn} {m n x0 x1 x2:Y} {d:Env} {c:C} {x:PV} {H:aj PV}
def l8(h:Lx d n x0 x1 x2 H)(a:Lk d 6<|.lst<|(cj 6).map DJ):(kn P<|m+9).ex d (rf 8)=U (rl n λr=>DJ<|(x2+r)%6):=qq h (dcd J) (dcd J) λr h=>hH (cf<|jl (dcd J) a) (G0 h.a3 h.h2 (dcd J) h.ai (dcd J) J) (by refine rP cb<|rP (kz<|bP _<|dcd J) ?_;rfl)<|fY (bP _<|dcd J) (by decide:6<1000000)
def bs2{k}(h:k<2):binop .Mult (.str [92]) (pn k)=U (.str<|bJ k 92):=by
 match k,h with
 |0,_=>rfl
 |1,_=>rfl
def l9(h:Lx d n x0 x1 x2 H)(b:Lk d 7<|rl n λr=>pn<|AW n x0 r):(kn P<|m+9).ex d (rf 9)=U (rl n λr=> .str<|w0 (rowAt n r) (AW n x0 r)<|(x0+r)%2):=
 qq h (dcd J) (dcd J) λr h=>by
  have a:=bP (x0+r) (show 0<2 by decide);refine bC (uA (GZ h) (nD<|zX h<|jl (dcd J) b) J<|yu J J<|sm1 h.r8) (bC J (G0 h.a3 h.h0 (dcd J) h.ai (dcd J) J)<|bs2 a)<|(qj<|sm2 (ab oN h.r8) ?_).trans ?_
  ·exact rP jM <| ab (bF a)<|dcd J
  ·exact rP (N4 h.plc) J
def BL{r}(a:iS n)(b:r<nR n):(w0 (rowAt n r) (AW n x0 r)<|(x0+r)%2).length<=9:=LU (oY a b).2.2<|bP _<|dcd J
def l10(h:Lx d n x0 x1 x2 H)(g:Lk d 9<|rl n λr=> .str<|Ba (rowAt n r) (AW n x0 r)<|(x1+r)%3)(a:Lk d 10<|rl n λr=>DJ<|(x2+r)%6)(b:Lk d 11<|rl n λr=> .str<|w0 (rowAt n r) (AW n x0 r)<|(x0+r)%2):(kn P<|m+8).ex d (rf 10)=U (rl n λr=> .str<|y0 n x0 x1 x2 r):=qq (m:=m+4) h (dcd J) (dcd J) λr h=>by have e:=DU (p:=AW n x0 r) (i:=(x1+r)%3) (oY h.hn h.hr).2.2;have f:=(yW (k:=(x2+r)%6)).1;refine bC (bC (zX h<|jl (dcd J) g) (hH (zX h<|jl (dcd J) a) q_ J<|dcd J)<|qj<|ab (dL e f)<|dcd J) (zX h<|jl (dcd J) b)<|(qj<|by exact rP aW <| ab (dL (dL e f)<|BL h.hn h.hr)<|dcd J).trans ?_;exact rP (dS ..) J
def KI{s}(h:(kn P m).ex d c=U (.str s))(a:s.length<=1000):(kn P<|m+1).ex d (.blt .list [c])=U (.lst<|(s.map C_).map .str):=by refine pL (bO h J) ?_;show gL (aY s.length big) (PV.lst<|s.map λc=> .str [c])=_;exact rP (aP<|ab a<|dcd J) <| rP bU J
def l11(h:Lx d n x0 x1 x2 H)(l:Lk d 7<|rl n λr=>pn<|AW n x0 r)(e:Lk d 10<|rl n λr=>DJ<|(x2+r)%6)(f:Lk d 11<|rl n λr=> .str<|w0 (rowAt n r) (AW n x0 r)<|(x0+r)%2):(kn P<|m+9).ex d (rf 11)=U (rl n λr=> .lst<|(uN n x0 x2 r).map .str):=
 qq (m:=m+5) h (dcd J) (dcd J) λr h=>by
  have i:=BL (x0:=x0) h.hn h.hr;have j:=Jp (k:=(x2+r)%6);have g:=ab (oN (a:=ag) (b:=U ((AW n x0 r:Y):Z))) (oY h.hn h.hr).2.2;refine bC (bC (KI (uA (GZ h) J (nD<|zX h<|jl (dcd J) l)<|yu J J<|sm1 h.r8)<|ab g<|dcd J) (hH (zX h<|jl (dcd J) e) q_ J<|dcd J)<|oI ?_) (KI (zX h<|jl (dcd J) f)<|ab i<|dcd J)<|(oI ?_).trans ?_
  ·rw[aG,aG,aG];exact ab (dL g j)<|dcd J
  ·rw[aW,aG,aG,aG,aG,aG];exact ab (dL (dL g j) i)<|dcd J
  ·delta uN yl;rw[Ch,dq,dq,dS]
def f_len{r}(a:iS n)(b:r<nR n):(y0 n x0 x1 x2 r).length<=27:=by delta y0 F6;rw[aW,aW];exact dL (DU (oY a b).2.2)<|dL yW.1<|BL a b
def AL{s}:(gF s).length<=(s.length+1)*s.length:=by
 delta gF;cases s.any λc=>aF 34 c with
 |false=>exact mq _ (fZ ..)
 |true=>
  have b:=H2 s 0 af;rw[bA<|dcd J]at b;have f:=Ti (s:=s) (fJ 0 af s) ⟨0,ag,[]⟩ λ_ h=>bI h a0;show(Ce s<|(fJ 0 af s).foldl (gY s) ⟨0,ag,[]⟩).length<=_;generalize(fJ 0 af s).foldl (gY s) ⟨0,ag,[]⟩=a at*;have rl:a.res.length<=s.length:=ab f.2 (by simp only[fC];exact cQ 488016775073 b);delta Ce;cases aY s.length a.start with
  |true=>exact ab (x8 f.1)<|cB _<|mo rl
  |false=>exact ab (x8 λx g=>(dI.mp g).elim (f.1 x) λe=>rP (aU.mp e) oN)<|cB _ (by refine rP aW ?_;show a.res.length+1<=_;exact gx rl)
def uU{a b}(h:pS a=ah)(e:pS b=ah):pS (a++b)=ah:=ky.mpr λc f=>(dI.mp f).elim (ky.mp h c)<|ky.mp e c
def xT{a b}(h:pS a=ah)(s:∀c∈b,c∈a):pS b=ah:=ky.mpr λc e=>ky.mp h c<|s c e
def NH{r}(a:iS n)(b:r<nR n):(gF<|y0 n x0 x1 x2 r).length<=756/\pS (y0 n x0 x1 x2 r)=ah:=by have R:=(oY a b).2.1;have l:=f_len (x0:=x0) (x1:=x1) (x2:=x2) a b;refine⟨ab AL<|eS (cL l) l,?_⟩;refine uU (uU (xT R λ_=>j9)<|uU QA<|xT R λ_ h=>j9<|tI h)<|uU yW.2<|uU (xT R λ_=>tI)<|ky.mpr λc e=> ?_;exact rP ((List.mem_replicate.mp e).2) J
end
def NF:∀R∈jY 2,allR (u8 R) 5=ah:=a_.mp Rh
theorem Rg:∀R∈jY 3,allR (u8 R) 7=ah:=λR h=>by simp only[jY,aR,a0,lH]at h;rcases h with rfl|rfl|rfl|rfl|rfl<;>decide+kernel
theorem Rf:∀R∈jY 4,allR (u8 R) 9=ah:=aC (by decide+kernel)<|aC (by decide+kernel)<|aC (by decide+kernel)<|aC (by decide+kernel)<|aC (by decide+kernel)<|aC (by decide+kernel)<|aC (by decide+kernel)<|aC (by decide+kernel)<|aC (by decide+kernel)<|aC (by decide+kernel)<|aC (by decide+kernel)<|aC (by decide+kernel)<|aC (by decide+kernel)<|aC (by decide+kernel) aN
def all_range(h:(cj q).all f=ah)(a:k<q):f k=ah:=a_.mp h k<|eQ.mpr a
def Co(h:allR f q=ah)(a:p<q)(b:i<3)(c:k<6)(d:s<2):f p i k s=ah:=all_range (all_range (all_range (all_range h a) b) c) d
def JD:∀{a b:aj<|Y × aj Y},ZO a b=ah->a=b:=by
 intro a;induction a with
 |nil=>
  intro c;cases c with
  |nil=>intro _;exact J
  |cons _ _=>intro h;exact ff h
 |cons d x g=>
  obtain⟨p,u⟩:=d;intro c;cases c with
  |nil=>intro h;exact ff h
  |cons d y=>
   obtain⟨q,v⟩:=d;intro h;replace h:(match aF p q with|false=>af|true=>match fT u v with|false=>af|true=>ZO x y)=ah:=h;cases e:aF p q with
   |false=>rw[e]at h;exact ff h
   |true=>
    rw[e]at h;replace h:(match fT u v with|false=>af|true=>ZO x y)=ah:=h;cases f:fT u v with
    |false=>rw[f]at h;exact ff h
    |true=>rw[f]at h;exact rP (aJ e)<|rP (li.mp f)<|rP (g h) J
section
variable {x0 x2:Y}
def qD(c:iS n)(d:r<nR n):fJ 0 af (gF<|y0 n x0 x1 x2 r)=xw 0 (uN n x0 x2 r)/\mR (uN n x0 x2 r)=rowAt n r:=by
 have a:=cP<|mO d;have b:AW n x0 r<2*n+1:=bP _ (fZ ..)
 have h:u8 (rowAt n r) (AW n x0 r) ((x1+r)%3) ((x2+r)%6) ((x0+r)%2)=ah:=by
  rcases c with rfl|rfl|rfl
  ·exact Co (NF _ a) b (bP _<|dcd J) (bP _<|dcd J)<|bP _<|dcd J
  ·exact Co (Rg _ a) b (bP _<|dcd J) (bP _<|dcd J)<|bP _<|dcd J
  ·exact Co (Rf _ a) b (bP _<|dcd J) (bP _<|dcd J)<|bP _<|dcd J
 exact⟨JD (n2 h).1,li.mp (n2 h).2⟩
noncomputable def rT(n x0 x1 x2:Y):aj<|aj Y:=(cj<|nR n).map<|y0 n x0 x1 x2
noncomputable def uL(n x0 x2:Y):aj<|aj<|aj Y:=(cj<|nR n).map<|uN n x0 x2
def uF(s:aj Y):PV:= .lst<|(fJ 0 af<|gF s).map G4
def wx(l:aj<|aj Y):PV:= .lst<|(xw 0 l).map G4
def qE:(rT n x0 x1 x2).length=nR n:=by delta rT;exact rP (aG ..)<|rP (fh ..) J
def Aa(a:iS n)(b:k<=900):nR n+k<=1000:=ab (dL (yP a) b)<|dcd J
def F8(h:s∈rT n x0 x1 x2):∃r,r<nR n/\s=y0 n x0 x1 x2 r:=by obtain⟨r,a,b⟩:=bZ.mp h;exact⟨r,eQ.mp a,b.symm⟩
def C1(a:iS n):(rT n x0 x1 x2).map uF=(uL n x0 x2).map wx:=by delta rT uL;refine rP bU<|rP bU ?_;refine gz λr b=> ?_;show uF _=wx _;delta uF wx;exact rP ((qD a<|eQ.mp b).1) J
def l12(d:env.length=55)(a:iS n)(b:Lk env 12<|.lst<|(rT n x0 x1 x2).map .str):(kn L2.P<|m+30).ex env (rf 12)=U (.lst<|(rT n x0 x1 x2++[[]]).map uF):=by
 refine qR (m:=m+29) (i:=41) (ι:=PV.str) ?_ (λs f=> ?_)<|rP aW <| rP qE <| Aa a<|dcd J
 ·show((kn L2.P<|m+29).ex (hide [41] env)<|.bin .Add (.var 12)<|.lst [.lit<|.str []]).bind itemsOf=_;exact rP (bC (m:=m+28) (cf<|jd (dcd J) b) J<|oI (by rw[aG,qE];exact Aa a<|dcd J)) <| rP dq J
 ·have t:s.length<=900/\pS s=ah/\(gF s).length<=900:=by
   rcases dI.mp f with e|e
   ·obtain⟨r,c,rfl⟩:=F8 e;have:=NH (x0:=x0) (x1:=x1) (x2:=x2) a c;exact⟨ab (f_len a c)<|dcd J,this.2,ab this.1<|dcd J⟩
   ·refine rP (aU.mp e) ?_;decide
  show(mU (kn L2.P<|m+28) (ent env 41<|.str s)<|.esc<|.call 12 [.var 41]).bind (λg=>U<|PV.lst g)=_
  exact rP (Cd (x_call (bO (cf<|qW<|rP d <| by decide) J)<|C7 t.1 t.2.1) t.2.2) J
def F9{l}:∀{n},(cj l.length).map (λk=>(n+(l.take<|k+1).flatten.length-1,l.getD k []))=xw n l:=by
 induction l with
 |nil=>intro _;exact J
 |cons u r a=>intro n;refine rP bK<|rP (List.range_succ_eq_map ..)<|rP (fR ..)<|rP (bU ..) ?_;show(n+(adi 1<|u::r).flatten.length-1,u)::_=(n+u.length-1,u)::xw (n+u.length) r;refine rS (a ..)<|rP (iW ..)<|rP (Bt ..)<|rP (gp ..)<|rP (List.flatten_nil ..)<|rP (eB ..) ?_;refine az ((n+u.length-1,u):: ·)<|gz λk _=> ?_;show(n+((u::r).take<|k+1+1).flatten.length-1,r.getD k [])=_;exact rP (iW ..)<|rP (gp ..)<|rP (aW ..)<|rP (iQ ..) J
def Nz{l:aj<|aj Y}{k:Y}(h:∀u∈l,u≠[])(a:k<l.length):1<=(l.take<|k+1).flatten.length:=by
 cases l with
 |nil=>exact bI a<|iG _
 |cons u r=>refine rP iW<|rP gp<|rP aW ?_;have:=List.length_pos_iff.mpr<|h u<|.head _;exact aV this (bq ..)
def S7(h:u∈uN n x0 x2 r):u≠[]/\u.length<=2:=by
 have sg:∀{l:aj Y},u∈l.map C_->u≠[]/\u.length<=2:=λh=>by obtain⟨c,_,rfl⟩:=bZ.mp h;exact⟨nofun,(by decide:1<=2)⟩
 rcases dI.mp h with h|h
 ·exact sg h
 ·rcases dI.mp h with h|h
  ·generalize(x2+r)%6=k at h;match k,h with
   |0,h=>refine rP (aU.mp h) ?_;decide
   |1,h=>exact bI h a0
   |2,h=>
        rcases aR.mp h with h|h; · refine rP h ?_;decide
        refine rP (aU.mp h) ?_;decide
   |3,h=>exact bI h a0
   |4,h=>
        rcases aR.mp h with h|h; · refine rP h ?_;decide
        refine rP (aU.mp h) ?_;decide
   |_+5,h=>refine rP (aU.mp h) ?_;decide
  ·exact sg h
end
def M_(k:Y):C:=match L2.Gs[k]? with|some (.A7 t _ _)=>t|_=> .var 0
section
variable {P:Y->au Fn} {m n j o f:Y} {d:Env} {c:C} {x:PV} {H:aj PV}
def BD{s}{lo a}{l h}(b:part lo=U l)(e:part a=U h)(g:s.length<=1000):oW (.lst s) lo a=U (.lst<|cut s l h):=by delta oW;refine rP b<|rP e ?_;show gL (aY s.length big) (PV.lst<|cut s l h)=_;exact rP (aP<|ab g<|dcd J) J
def UB{s}(h:(kn P m).ex d c=U (.str s))(a:s.length<=1000):(kn P<|m+1).ex d (.blt .len [c])=U (pn s.length):=by refine pL (bO h J) ?_;show gL (aY s.length big) (PV.int (s.length:Z))=_;exact rP (aP<|ab a<|dcd J) J
def NK(z:d.length=55){l}(a:Lk d 42<|.lst<|l.map .str)(A:∀u∈l,u≠[])(y:∀u∈l,u.length<=2)(b:l.length<=20):(kn P<|m+9).ex d (.vz (.tup [.bin .Sub (.blt .len [.FF .join (.lit<|.str []) [.xP (.var 42) ag<|U<|.bin .Add (.var 43)<|.lit<|.int 1]])<|.lit<|.int 1,.sub (.var 42)<|.var 43]) [.mk (.v 43) (.of<|.blt .range [.blt .len [.var 42]]) []])=U (wx l):=by
 refine(qR (m:=m+8) (i:=43) (ι:=pn) (l:=cj l.length) (g:=λk=> .tup [.int ((0+(l.take<|k+1).flatten.length-1:Y):Z),.str<|l.getD k []]) ((Hb (m:=m+5) (jd (dcd J) a)<|rP (aG ..) <| ab b<|dcd J).trans<|rP (aG ..) J) (λk e=> ?_)<|rP (fh ..) <| ab b<|dcd J).trans ?_
 ·replace e:=eQ.mp e;have h:=jl (x:=pn k) (i:=43) (dcd J) a;have q:Lk (ent d 43<|pn k) 43<|pn k:=qW<|du 0x30371f90302b1f92 z;have B:=x8 (l:=l.take<|k+1) (n:=2) λu t=>y u<|j9 t;have w:(l.take<|k+1).length<=20:=by exact rP f5 <| d9 0x980141f92121b0d141f901 J b
  have D:=Nz A e;refine GY (m:=m+7)<|bO (bC (m:=m+6) (UB (m:=m+5) (s:=(l.take<|k+1).flatten) (AD (m:=m+4) (vs:=[.lst<|(l.take<|k+1).map .str]) J (bO (uA (m:=m+3) (vl:=ag) (vh:=U<|pn<|k+1) (cf h) J (nD<|bC (m:=m+2) (cf q) J J)<|(BD J J<|rP (aG ..) <| ab b<|dcd J).trans<|rP (show cut (l.map PV.str) ag (U ((k+1:Y):Z))=_ from Ch)<|rS (CX ..) J) J)<|B9 (n:=2) (λu t=>y u<|j9 t) (du 0x40141f901f42404f902d1 w)<|ab w<|dcd J)<|cQ 0x40141f91112d013e82f901 B w) J (r:= .int ((0+(l.take<|k+1).flatten.length-1:Y):Z)) ?_)<|bO (hH (m:=m+6) (cf h) (cf q) ?_<|ab e<|ab b<|dcd J) J
  ·show U (PV.int<|((l.take<|k+1).flatten.length:Z)-1)=_;exact rP (show((0+(l.take<|k+1).flatten.length-1:Y):Z)=((l.take<|k+1).flatten.length:Z)-1 from cQ 0xb8ca9ba0161617a0a4fa76 J D) J
  ·refine rP cb<|rP ce<|rP (be e) ?_;rfl
 ·delta wx;exact rS F9 <| rP bU J
def QO{k}:(HC k).length<=2:=by
 match k with
 |0=>decide
 |1=>decide
 |2=>decide
 |3=>decide
 |4=>decide
 |_+5=>exact(by decide:1<=2)
def S8{r}(a:iS n)(b:r<nR n):(uN n j f r).length<=20:=by delta uN yl;exact rP (aW ..) <| rP (aW ..) <| rP (aG ..) <| rP (aG ..) <| ab (dL (ab (List.length_take_le' ..) (oY a b).2.2)<|dL QO<|BL a b)<|dcd J
def E7{s}(h:pS s=ah):fv 5 (uF s)=ah:=a_.mpr λx a=>by obtain⟨u,b,rfl⟩:=bZ.mp a;show(ah&&(pS u.2&&ah))=ah;exact rP (x_ _ _ _ (vR h) u b) J
def Ym{a b}{g i}(k:(kn P m).ex d a=U (.lst g))(l:(kn P m).ex d b=U (.lst i))(e:i=g)(h:fv 6 (.lst g)=ah):((kn P<|m+1).ex d<|.cmp a [.NotEq] [b]).bind truth=U af:=tN k l<|rP e <| ne_self h
def l13(v:d.length=55)(b:iS n)(k:Lk d 13<|.lst<|(uL n j f).map λl=> .lst<|l.map .str)(q:Lk d 14<|.lst<|(rT n j o f++[[]]).map uF):((kn P<|m+20).ex d<|M_ 13).bind truth=U af:=by
 have h:(uL n j f).length=nR n:=by delta uL;exact rP (aG ..)<|rP (fh ..) J
 refine Ym (m:=m+19) (cf q) (qR (m:=m+18) (i:=42) (ι:=λl:aj (aj Y)=>PV.lst<|l.map .str) (l:=uL n j f++[[]]) (g:=wx) ?_ (λu h=> ?_)<|rP aW <| rP h <| Aa b<|dcd J) ?_<|a_.mpr λx a=> ?_
 ·show((kn P<|m+18).ex (hide [42] d)<|.bin .Add (.var 13)<|.lst [.lst []]).bind itemsOf=_;exact rP (bC (cf<|jd (dcd J) k) J<|oI (by rw[aG,h];exact Aa b<|dcd J)) <| rP dq J
 ·refine NK (by show((d.set 42 ag).set 42 _).length=55;exact rP dr <| rP dr v) (qW<|rP v <| by decide) (λx a=> ?_) (λx a=> ?_) ?_;all_goals rcases dI.mp h with e|e
  ·obtain⟨r,_,rfl⟩:=bZ.mp e;exact(S7 a).1
  ·rw[aU.mp e]at a;exact bI a a0
  ·obtain⟨r,_,rfl⟩:=bZ.mp e;exact(S7 a).2
  ·rw[aU.mp e]at a;exact bI a a0
  ·obtain⟨r,t,rfl⟩:=bZ.mp e;exact S8 b<|eQ.mp t
  ·refine rP (aU.mp e) ?_;decide
 ·exact rP dq <| rP dq <| rP (C1 b) J
 ·obtain⟨s,w,rfl⟩:=bZ.mp a;rcases dI.mp w with e|e
  ·obtain⟨r,t,rfl⟩:=F8 e;exact E7 (NH b t).2
  ·exact rP (aU.mp e) J
end
noncomputable def HK(k:Y)(st:aj Y):aj Y->aj Y
 |[]=>[]
 |c::r=>st.headD 0::HK (k+1) (if c=40 then(k+1)::st else st.tail) r
def o4(R:aj Y):aj Y:=HK 0 [0] R
noncomputable def WO:C:= .cmp (.var 46) [.In] [.lst [.lit<|.str [40],.lit<|.str [41]]]
def Zq{u}(h:pS u=ah):i4 .In (.str u) (.lst [.str [40],.str [41]])=U (fT [40] u||(fT [41] u||af)):=by show gL (pS u&&ah) ([PV.str [40],PV.str [41]].any λy=>oC y<|.str u)=_;refine rP h ?_;show U (oC (.str [40]) (.str u)||(oC (.str [41]) (.str u)||af))=_;rfl
def xX{c}{u}:fT [c] u=match u with|[d]=>aF c d|_=>af:=by
 match u with
 |[]=>rfl
 |[d]=>exact ln1
 |a::b::r=>show(match aF c a with|true=>af|false=>af)=af;cases aF c a<;>rfl
def beq_comm:aF a b=aF b a:=by
 by_cases h:a=b
 ·exact rP h J
 ·exact rP (lS.mpr λz=>h<|aJ z)<|rP (lS.mpr λz=>h (aJ z).symm) J
def Vj{u}:mR (u::r)=match fT [40] u||(fT [41] u||af)with|true=>u++mR r|false=>mR r:=by
 refine rP xX<|rP xX ?_;match u with
 |[]=>rfl
 |[d]=>show(match aF d 40||aF d 41 with|true=>d::mR r|false=>mR r)=(match aF 40 d||(aF 41 d||af)with|true=>d::mR r|false=>mR r);exact rP (beq_comm (a:=40) ..)<|rP (beq_comm (a:=41) ..)<|rP (vy ..) J
 |a::b::r=>rfl
def ace(j:env.length=55){a}:∀{p} {acc},(∀u∈a,pS u=ah)->acc.length+a.length<=1000-> iD (kn P<|m+3) (.tup [.v 45,.v 46]) [WO] (eG (kn P<|m+3) (fK (kn P<|m+3)<|.var 46) []) env ((xw p a).map G4) acc=U (acc++((mR a).map C_).map .str):=by
 induction a with
 |nil=>exact λ{_ acc} _ _=>az U (eB acc).symm
 |cons u a k=>
  intro p acc h c;rw[bK]at c;have l:=h u<|.head _
  have f:Lk ((env.set 45<|U<|pn<|p+u.length-1).set 46<|U<|.str u) 46<|.str u:=by show((env.set 45 _).set 46 _)[46]? =_;exact rP (gm (by rw[dr];exact du 0x30371f90302e1f92 j)) J
  have cond:(kn P<|m+3).ex ((env.set 45<|U<|pn<|p+u.length-1).set 46<|U<|.str u) WO=U (.bool<|fT [40] u||(fT [41] u||af)):=jr (m:=m+2) (cf f) J<|Zq l;have i:=λacc (c:acc.length+a.length<=1000)=>k (p:=p+u.length) (acc:=acc) (λx n=>h x<|.tail _ n) c;refine rP Vj ?_
  show(((kn P<|m+3).ex ((env.set 45<|U<|pn<|p+u.length-1).set 46<|U<|.str u) WO).bind (λv=>(truth v).bind λb=>match b with|true=>U ah|false=>U af)).bind (λb=>match b with
   |false=>iD (kn P<|m+3) (.tup [.v 45,.v 46]) [WO] (eG (kn P<|m+3) (fK (kn P<|m+3)<|.var 46) []) env ((xw (p+u.length) a).map G4) acc
   |true=>(fK (kn P<|m+3) (.var 46) ((env.set 45<|U<|pn<|p+u.length-1).set 46<|U<|.str u) acc).bind λg=>iD (kn P<|m+3) (.tup [.v 45,.v 46]) [WO] (eG (kn P<|m+3) (fK (kn P<|m+3)<|.var 46) []) env ((xw (p+u.length) a).map G4) g)=_
  refine rP cond ?_;cases q:fT [40] u||(fT [41] u||af)with
  |false=>exact i acc<|bF c
  |true=>
   have e:fK (kn P<|m+3) (.var 46) ((env.set 45<|U<|pn<|p+u.length-1).set 46<|U<|.str u) acc=U (acc++[.str u]):=by show((kn P<|m+3).ex _<|.var 46).bind (λv=>match aY acc.length big with|true=>U (acc++[v])|false=>ag)=_;refine rP (cf f) ?_;show(match aY acc.length big with|true=>U (acc++[PV.str u])|false=>ag)=_;exact rP (aP<|ab (ab (bq ..) c)<|dcd J) J
   show(fK (kn P<|m+3) (.var 46) ((env.set 45<|U<|pn<|p+u.length-1).set 46<|U<|.str u) acc).bind _=U (acc++((u++mR a).map C_).map .str);refine rP e ?_;refine(i (acc++[.str u]) (by refine rP aW ?_;show acc.length+1+_<=_;exact cQ 0x3e82f91b0a13e82f910ba1 c)).trans ?_
   have:∃d,u=[d]:=by
    rw[xX,xX]at q;match u,q with
    |[d],_=>exact⟨d,J⟩
    |[],q=>exact ff q
    |_::_::_,q=>exact ff q
   obtain⟨d,rfl⟩:=this;exact rP (dS ..) J
def lZ(n r:Y):PV:= .lst<|(o4<|rowAt n r).map pn
def Ju(a:iS n):∀R∈jY n,(kn L2.P<|m+20).ca 19 [.lst<|(R.map C_).map .str]=U (.lst<|(o4 R).map pn):=by
 rcases a with rfl|rfl|rfl
 ·exact aC (by kernel_rfl)<|aC (by kernel_rfl) aN
 ·exact aC (by kernel_rfl)<|aC (by kernel_rfl)<|aC (by kernel_rfl)<|aC (by kernel_rfl)<|aC (by kernel_rfl) aN
 ·exact aC (by kernel_rfl)<|aC (by kernel_rfl)<|aC (by kernel_rfl)<|aC (by kernel_rfl)<|aC (by kernel_rfl)<|aC (by kernel_rfl)<|aC (by kernel_rfl)<|aC (by kernel_rfl)<|aC (by kernel_rfl)<|aC (by kernel_rfl)<|aC (by kernel_rfl)<|aC (by kernel_rfl)<|aC (by kernel_rfl)<|aC (by kernel_rfl) aN
def WA{a:Type}{l:aj a}{x:a}:cut (l++[x]) ag (U<|-1)=l:=by
 show((l++[x]).drop 0).take (d_ (l++[x]).length (-1)-0)=l
 have:d_ (l++[x]).length (-1)=l.length:=by unfold d_;refine rP aW ?_;show _=l.length;simp only[bK,fC];exact rP (bM (dcd J) ..)<|rP (show(-1:Z)+((l.length+(0+1):Y):Z)=(l.length:Z)from(sk ..).trans<|Int.add_neg_cancel_right (l.length:Z) 1)<|rP (Int.min_eq_left (dz.mpr<|iK _) ..)<|rP (Int.max_eq_right (aK _) ..)<|rP (cM ..) J
 exact rP (this ..)<|rP (fS ..)<|rP (mf ..)<|rP (List.take_left ..) J
def Ye{r}(c:iS n)(d:r<nR n)(g:u∈uN n x0 x2 r):pS u=ah:=by
 have f:=NH (x0:=x0) (x1:=0) (x2:=x2) c d;have e:=(qD (x0:=x0) (x1:=0) (x2:=x2) c d).1
 have b:∀(l) (p),(xw p l).map (·.2)=l:=λl=>by
  induction l with
  |nil=>exact λ_=>rfl
  |cons a l h=>exact λp=>az (a:: ·)<|h _
 rw[<-b (uN n x0 x2 r) 0,<-e]at g;obtain⟨v,i,rfl⟩:=bZ.mp g;exact x_ _ _ _ (vR f.2) v i
def l14(h:env.length=55)(a:iS n)(d:Lk env 14<|.lst<|(rT n x0 x1 x2++[[]]).map uF):(kn L2.P<|m+30).ex env (rf 14)=U (rl n<|lZ n):=by
 refine qR (m:=m+29) (i:=44) (ι:=λr=>wx<|uN n x0 x2 r) (l:=cj<|nR n) (g:=lZ n) ?_ (λr c=> ?_)<|Zc a
 ·show((kn L2.P<|m+29).ex (hide [44] env)<|.xP (.var 14) ag<|U<|.un .USub<|.lit<|.int 1).bind itemsOf=_;refine rP (uA (m:=m+28) (vl:=ag) (vh:=U<|.int<|-1) (cf<|jd (dcd J) d) J J<|BD J J (by rw[aG,aW,qE];exact Aa a<|dcd J))<|rP dq ?_;show U (cut ((rT n x0 x1 x2).map uF++[uF []]) ag<|U<|-1)=_;refine rP WA<|rP (C1 a) ?_;unfold uL;exact rP bU J
 ·replace c:=eQ.mp c
  have e:(hide [45,46]<|ent env 44<|wx<|uN n x0 x2 r).length=55:=by show((((env.set 44 ag).set 44 _).set 45 ag).set 46 ag).length=55;exact rP dr <| rP dr <| rP dr <| rP dr h
  have f:Lk (hide [45,46]<|ent env 44<|wx<|uN n x0 x2 r) 44<|wx<|uN n x0 x2 r:=jd (i:=46) (dcd J)<|jd (i:=45) (dcd J)<|qW (rP h <| by decide);refine x_call (m:=m+28) (vs:=[.lst<|((rowAt n r).map C_).map .str]) (bO ?_ J)<|Ju (m:=m+8) a _<|cP<|mO c;show(((kn L2.P<|m+27).ex (hide [45,46]<|ent env 44<|wx<|uN n x0 x2 r)<|.var 44).bind itemsOf |>.bind λb=>iD (kn L2.P<|m+27) (.tup [.v 45,.v 46]) [WO] (eG (kn L2.P<|m+27) (fK (kn L2.P<|m+27)<|.var 46) []) (hide [45,46]<|ent env 44<|wx<|uN n x0 x2 r) b []).bind (λvs=>U<|PV.lst vs)=_;refine rP (cf (m:=m+26) f) ?_;show(iD (kn L2.P<|m+24+3) (.tup [.v 45,.v 46]) [WO] (eG (kn L2.P<|m+24+3) (fK (kn L2.P<|m+24+3)<|.var 46) []) (hide [45,46]<|ent env 44<|wx<|uN n x0 x2 r) ((xw 0<|uN n x0 x2 r).map G4) []).bind _=_;exact rP (ace e (λu j=>Ye a c j)<|ab (dL (aZ 0)<|S8 a c)<|dcd J) <| rP ((qD (x0:=x0) (x1:=0) (x2:=x2) a c).2) J
noncomputable abbrev blank:aj Y:=[40,39,39,44,32,39,39,41]
section
variable {P:Y->au Fn} {m n x0 x1 x2:Y}
def BR:∀{a:aj<|Y × aj Y},ub 0 a=Ai 0 (mR (a.map (·.2))):=RT _ 0
def Ri(l:aj<|aj Y):∀(p:Y),(xw p l).map (·.2)=l:=by
 induction l with
 |nil=>intro _;exact J
 |cons a l b=>intro _;exact az (a:: ·)<|b _
def TS{c:Y}{f:aj Y}(h:aF c 92=af):(fJ 0 af<|c::f).map (·.2)=[c]::(fJ 0 af f).map (·.2):=by show(match aF c 92 with|true=>fJ 1 ah f|false=>(0,[c])::fJ 1 af f).map (λu:Y × aj Y=>u.2)=_;refine rP h<|rP (Bc f 0 af nofun) ?_;show[c]::((fJ 0 af f).map λu=>(u.1+1,u.2)).map (·.2)=_;exact rP bU J
def Tn{c:Y}{l:aj<|aj Y}(h:(aF c 40||aF c 41)=ah):mR ([c]::l)=c::mR l:=by show(match aF c 40||aF c 41 with|true=>c::mR l|false=>mR l)=_;exact rP h J
def LO(a:iS n):∀R∈jY n,Ai 0 R=ah/\Ai 0 (40::R)=af/\Ai 0 (41::40::R)=af:=by rcases a with rfl|rfl|rfl<;>decide
def ZI(a:iS n)(b:r<nR n):mR ((fJ 0 af<|gF<|y0 n x0 x1 x2 r).map (·.2))=rowAt n r:=by have t:=qD (x0:=x0) (x1:=x1) (x2:=x2) a b;exact rP (t.1 ..)<|rP (Ri ..)<|rP (t.2 ..) J
def MY{r:Y}(a:iS n)(b:r<nR n):nr (y0 n x0 x1 x2 r)=y0 n x0 x1 x2 r/\nr (40::y0 n x0 x1 x2 r)=blank/\nr (41::40::y0 n x0 x1 x2 r)=blank:=by have k:=LO a _<|cP<|mO b;have p:=ZI (x0:=x0) (x1:=x1) (x2:=x2) a b;generalize y0 n x0 x1 x2 r=f at*;delta nr Ck;exact rP BR <| rP BR <| rP BR <| rP (qh (c:=41) J J J) <| rP (qh (c:=40) J J J) <| rP (TS (c:=41) J) <| rP (TS (c:=40) J) <| rP (Tn (c:=41) J) <| rP (Tn (c:=40) J) <| rP p <| rP k.1 <| rP k.2.1 <| rP k.2.2 <| ⟨J,J,J⟩
noncomputable def S9(f:aj Y)(F:aj<|aj Y):aj<|aj Y:=(40::f)::F++[41::40::f,[]]
noncomputable def wC(F:aj<|aj Y):aj<|aj Y:=blank::F++[blank,[]]
def M0(a:iS n):(rT n x0 x1 x2).map nr=rT n x0 x1 x2:=by delta rT;exact rP bU <| gz λr b=>(MY a<|eQ.mp b).1
def QP(a:iS n)(b:r<nR n):(S9 (y0 n x0 x1 x2 r)<|rT n x0 x1 x2).map nr=wC (rT n x0 x1 x2):=by have k:=MY (x0:=x0) (x1:=x1) (x2:=x2) a b;delta S9 wC;refine rP dq<|rP fR<|rP (M0 a)<|rP k.2.1 ?_;show _++[nr<|41::40::y0 n x0 x1 x2 r,nr []]=_;exact rP k.2.2 J
def MZ(a:iS n):(wC<|rT n x0 x1 x2).map nr=wC (rT n x0 x1 x2):=by delta wC;exact rP dq <| rP fR <| rP (M0 a) J
def Yf{c:Y}{f:aj Y}(a:c=40\/c=41)(l:f.length<=300)(d:pS f=ah)(t:(gF f).length<=800):(gF<|c::f).length<=801/\An (c::f):=by
 have e:gF (c::f)=c::gF f:=by rcases a with rfl|rfl<;>exact qh J J J
 have o:pS (c::f)=ah:=by rcases a with rfl|rfl<;>exact d
 have b:(gF<|c::f).length<=801:=by exact rP e <| cL t
 exact⟨b,ab (cL l)<|dcd J,o,ab b<|dcd J⟩
def abv(a:iS n)(b:r<nR n):An<|y0 n x0 x1 x2 r:=
 have t:=NH a b
 ⟨ab (f_len a b)<|dcd J,t.2,ab t.1<|dcd J⟩
def Yg(a:iS n):∀s∈rT n x0 x1 x2,An s:=λs h=>by obtain⟨r,b,rfl⟩:=F8 h;exact abv a b
def K2{r:Y}(d:iS n)(e:r<nR n):∀s∈S9 (y0 n x0 x1 x2 r) (rT n x0 x1 x2),An s:=λs h=>by
 have t:=NH (x0:=x0) (x1:=x1) (x2:=x2) d e;have l:=ab (f_len (x0:=x0) (x1:=x1) (x2:=x2) d e) (by decide:27<=299);have g:=ab t.1 (by decide:756<=799);generalize y0 n x0 x1 x2 r=f at*;have a:=Yf (.inl J) (mo l) t.2<|mo g;have b:=Yf (c:=41) (.inr J) (f:=40::f) (cL l) a.2.o<|rP (qh (c:=40) (f:=f) J J J) <| cL g;rcases dI.mp h with h|h
 ·rcases aR.mp h with rfl|h
  ·exact a.2
  ·exact Yg d s h
 ·rcases aR.mp h with rfl|h
  ·exact b.2
  ·exact rP (aU.mp h) <| ⟨by decide,J,by decide⟩
def H8(a:iS n):∀s∈wC (rT n x0 x1 x2),An s:=λs h=>by
 rcases dI.mp h with h|h
 ·rcases aR.mp h with rfl|h
  ·exact⟨by decide,J,by decide⟩
  ·exact Yg a s h
 ·rcases aR.mp h with rfl|h
  ·exact⟨by decide,J,by decide⟩
  ·exact rP (aU.mp h) <| ⟨by decide,J,by decide⟩
def Zd(a:iS n):1+nR n+2<=1000:=ab (fA (c_ (yP a) 1) 2)<|dcd J
def VF(a:iS n):0<nR n:=by rcases a with rfl|rfl|rfl<;>decide
def l15(h:Lx env n x0 x1 x2 H):(kn P<|m+8).ex env (rf 15)=U (pn<|x2%nR n):=by have a:((jY n).map PV.str).length=nR n:=aG ..;exact bC (hH (cf h.a3) q_ h.h2<|dcd J) ((KJ (cf h.a5)<|rP a <| Aa (k:=0) h.hn<|dcd J).trans<|rP a J)<|Dz<|gw<|VF h.hn
def x_f(d:iS n)(c:r<nR n)(a:Lk env 12<|.lst<|(rT n x0 x1 x2).map .str)(b:Lk env 16<|pn r):(kn P<|m+2).ex env (.sub (.var 12)<|.var 16)=U (.str<|y0 n x0 x1 x2 r):=by refine hH (cf a) (cf b) ?_<|ME d c;delta rT;refine rP bU<|rP cb<|rP (kz c) ?_;rfl
def l16(c:iS n)(e:r<nR n)(b:Lk env 12<|.lst<|(rT n x0 x1 x2).map .str)(d:Lk env 16<|pn r):(kn P<|m+8).ex env (rf 16)=U (.lst<|(S9 (y0 n x0 x1 x2 r)<|rT n x0 x1 x2).map .str):=by have f:=ab (f_len (x0:=x0) (x1:=x1) (x2:=x2) c e) (by decide:27<=100);have g:=λm=>x_f (P:=P) (m:=m) c e b d;refine bC (m:=m+7) (bC (m:=m+6) (pK (m:=m+5)<|bO (bC (m:=m+4) J (g<|m+2)<|qj<|sm2 (a:=1) (dcd J) f) J) (cf b)<|oI<|by exact rP (dO ..) <| rP (aG ..) <| rP (qE ..) <| Aa (k:=1) c<|dcd J) (pK (m:=m+6)<|bO (bC (m:=m+5) J (g<|m+3)<|qj<|sm2 (a:=2) (dcd J) f)<|bO J J)<|(oI<|by exact rP (aW ..) <| rP (aG ..) <| rP (qE ..) <| Zd c).trans ?_;delta S9;exact rP dq J
def l17(b:iS n)(a:Lk env 12<|.lst<|(rT n x0 x1 x2).map .str):(kn P<|m+8).ex env (.bin .Add (.bin .Add (.lst [.lit<|.str blank])<|.var 12)<|.lst [.lit<|.str blank,.lit<|.str []])=U (.lst<|(wC<|rT n x0 x1 x2).map .str):=by refine bC (bC J (cf a)<|oI<|by exact rP (dO ..) <| rP (aG ..) <| rP (qE ..) <| Aa b<|dcd J) J<|(oI<|by exact rP (aW ..) <| rP (aG ..) <| rP (qE ..) <| Zd b).trans ?_;delta wC;exact rP dq J
def KZ:(S9 f<|rT n x0 x1 x2).length=nR n+3:=by delta S9;exact rP aW <| rP bK <| rP qE J
def Rw:(wC<|rT n x0 x1 x2).length=nR n+3:=by delta wC;exact rP aW <| rP bK <| rP qE J
def Px(h:(kn P m).ex env c=U (.lst s))(a:s.length<=1000):(kn P<|m+1).ex env (.blt .list [c])=U (.lst s):=by refine pL (bO h J) ?_;show gL (aY s.length big) (PV.lst s)=_;exact rP (aP<|ab a<|dcd J) J
def l18(a:iS n)(c:r<nR n)(b:Lk env 18<|.lst<|(S9 (y0 n x0 x1 x2 r)<|rT n x0 x1 x2).map .str):(kn L2.P<|m+40).ex env (.call 14 [.var 18])=U (.lst<|(wC<|rT n x0 x1 x2).map .str):=by refine x_call (bO (cf b) J)<|(L4 (K2 a c)<|rP KZ <| Aa a<|dcd J).trans ?_;exact rS (QP a c) <| rP bU J
def l19(a:iS n)(b:Lk env 20<|.lst<|(wC<|rT n x0 x1 x2).map .str):(kn L2.P<|m+40).ex env (.call 14 [.var 20])=U (.lst<|(wC<|rT n x0 x1 x2).map .str):=by refine x_call (m:=m+39) (bO (cf b) J)<|(L4 (m:=m+8) (H8 a)<|rP Rw <| Aa a<|dcd J).trans ?_;have e:=az (tJ PV.str)<|MZ (x0:=x0) (x1:=x1) (x2:=x2) a;rw[bU]at e;exact az (λz=>U<|PV.lst z) e
def Di{l:aj<|aj Y}(h:∀s∈l,An s):fv 5 (.lst<|l.map .str)=ah:=a_.mpr λx a=>by obtain⟨s,b,rfl⟩:=bZ.mp a;exact(h s b).o
def l20{d t:aj<|aj Y}(i:∀s∈d,An s)(j:∀s∈t,An s)(c:Lk env 20<|.lst<|d.map .str)(e:Lk env 21<|.lst<|d.map .str)(g:Lk env 18<|.lst<|t.map .str)(h:Lk env 17<|.lst<|t.map .str)(f:Lk env 19<|.lst<|d.map .str):((kn P<|m+8).ex env<|M_ 20).bind truth=U af:=by
 have a:(kn P<|m+7).ex env (.cmp (.lst [.var 20,.var 21,.var 18]) [.NotEq] [.lst [.var 19,.var 19,.var 17]])=U (.bool af):=by refine jr (pK<|bO (cf c)<|bO (cf e)<|bO (cf g) J) (pK<|bO (cf f)<|bO (cf f)<|bO (cf h) J)<|ne_self ?_;show(fv 5 (.lst<|d.map .str)&&(fv 5 (.lst<|d.map .str)&&(fv 5 (.lst<|t.map .str)&&ah)))=ah;exact rP (Di i) <| rP (Di j) J
 have b:(kn P<|m+7).ex env (.dist 21 20 af)=U (.bool af):=by show((env[21]?).bind id).bind (λ_=>((env[20]?).bind id).bind λ_=>U<|PV.bool af)=_;exact rP e <| rP c J
 show(tF (kn P<|m+7) env .Or [_,_]).bind truth=_;refine rP (Ef a) ?_;show((kn P<|m+7).ex env<|.dist 21 20 af).bind truth=_;exact rP b J
end
inductive R1(u t:Z):au Out->au Out->Prop
 |no:R1 u t ag ag
 |so (e:Env) (r:au PV) (h:e[1]? =U (U<|.int u)):R1 u t (U (s1 t e,r))<|U (e,r)
section
variable {P:Y->au Fn} {m:Y} {f:Env}
def R1.bind(h:R1 u t x y)(a:∀e r,e[1]? =U (U<|.int u)->R1 u t (g (s1 t e,r)) (b (e,r))):R1 u t (x.bind g)<|y.bind b:=by
 cases h with
 |no=>exact .no
 |so e r h=>exact a e r h
def R1.opt{b:Type}{x y:au b}{g c:b->au Out}(e:x=y)(h:∀a,R1 u t (g a)<|c a):R1 u t (x.bind g)<|y.bind c:=by
 subst e;cases x with
 |none=>exact .no
 |some a=>exact h a
def Yy(h:j≠1):(s1 t f)[j]? =f[j]? :=a6 λz=>h z.symm
def Fh(h:i≠1):(s1 t f).set i x=s1 t (f.set i x):=vv _ _ λz=>h z.symm
def Nb(h:i≠1)(e:f[1]? =U (U<|.int u)):(f.set i x)[1]? =U (U<|.int u):=by refine rP (a6 h) ?_;exact e
def R1.set(h:i≠1)(e:f[1]? =U (U<|.int u)):R1 u t (U ((s1 t f).set i x,ag))<|U (f.set i x,ag):=by exact rP (Fh h) <| .so _ _<|Nb h e
def Y2(n:Y):TT->aB
 | .v i=> !(aF i 1)
 | .w_ i c d=> !(aF i 1)&&(pT n c&&pT n d)
 |_=>af
mutual
noncomputable def okS(n:Y):S->aB
 | .asg _ x c=>Y2 n x&&pT n c
 | .two i j c gs d=> !(aF i 1)&&(!(aF j 1)&&(pT (n+1) (.vz c gs)&&pT n d))
 | .A7 c a b=>pT n c&&(Jb n a&&Jb n b)
 | .FZ x s b=>(match x with| .v i=> !(aF i 1)&&(match s with| .of c=>pT n c|_=>af)|_=>af)&&Jb n b
 | .ret c=>pT n c
 |_=>af
noncomputable def Jb(n:Y):aj S->aB
 |[]=>ah
 |s::r=>okS n s&&Jb n r
end
def VD(h:(!(aF i 1))=ah):i≠1:=λz=>by subst z;exact ff h
def xc(a:u.fmod 3=t.fmod 3)(h:pT n c=ah)(e:f[1]? =U (U<|.int u)):(kn P m).ex (s1 t f) c=(kn P m).ex f c:=Ds a h m f e
def Nj(e:f[1]? =U (U<|.int u)):hide [2] (s1 t f)=s1 t (hide [2] f)/\(hide [2] f)[1]? =U (U<|.int u):=⟨HL<|dcd J,FV (dcd J) e⟩
def UK(a:u.fmod 3=t.fmod 3)(h:pT n c=ah)(e:f[1]? =U (U<|.int u)):rV (kn P m) [2] (s1 t f) b c=rV (kn P m) [2] f b c:=by
 cases b with
 |false=>show(kn P m).ex (hide [2]<|s1 t f) c=(kn P m).ex (hide [2] f) c;exact rP (((Nj e).1)) <| xc a h<|FV (dcd J) e
 |true=>show((kn P m).ex (s1 t f) c).bind _=((kn P m).ex f c).bind _;exact rP (xc a h e) J
def Yj(g:u.fmod 3=t.fmod 3){x}{v}(h:Y2 n x=ah)(e:f[1]? =U (U<|.int u)):R1 u t ((gH (kn P m) x v<|s1 t f).bind λe=>U (e,ag))<|(gH (kn P m) x v f).bind λe=>U (e,ag):=by
 cases x with
 |v i=>exact .set (VD h) e
 |w_ i c d=>
  have j:=n2 h;have k:=n2 j.2;have l:=VD j.1
  show R1 u t (((((s1 t f)[i]?).bind id).bind λo=>((kn P m).ex (s1 t f) c).bind λx=>((kn P m).ex (s1 t f) d).bind λy=>(mH o x).bind λp=>(mM p y v).bind λa=>(mM o x a).bind λb=>U<|(s1 t f).set i<|U b).bind λe=>U (e,ag))<|(((f[i]?).bind id).bind λo=>((kn P m).ex f c).bind λx=>((kn P m).ex f d).bind λy=>(mH o x).bind λp=>(mM p y v).bind λa=>(mM o x a).bind λb=>U<|f.set i<|U b).bind λe=>U (e,ag)
  simp only[Kd];exact .opt (by rw[Yy l]) λz=> .opt J λo=> .opt (xc g k.1 e) λx=> .opt (xc g k.2 e) λy=> .opt J λp=> .opt J λa=> .opt J λb=> .set l e
 |_=>exact ff h
def Q5(g:u.fmod 3=t.fmod 3)(h:pT (n+1) (.vz c d)=ah)(e:f[1]? =U (U<|.int u)):eG (kn P m) (fK (kn P m) c) d (hide (gu d)<|s1 t f) []=eG (kn P m) (fK (kn P m) c) d (hide (gu d) f) []:=by
 have q:((eG (kn P m) (fK (kn P m) c) d (hide (gu d)<|s1 t f) []).bind λvs=>U<|PV.lst vs)=((eG (kn P m) (fK (kn P m) c) d (hide (gu d) f) []).bind λvs=>U<|PV.lst vs):=Ds g h (m+1) f e;generalize eG (kn P m) (fK (kn P m) c) d (hide (gu d)<|s1 t f) []=a at*;generalize eG (kn P m) (fK (kn P m) c) d (hide (gu d) f) []=b at*;cases a with
 |none=>cases b with
  |none=>rfl
  |some b=>exact nd q
 |some a=>cases b with
  |none=>exact dn q
  |some b=>injection sm q with q;exact az U q
def Ml(k:u.fmod 3=t.fmod 3)(s):∀(f),okS n s=ah->f[1]? =U (U<|.int u)->R1 u t (sx (kn P m) [2] s<|s1 t f) (sx (kn P m) [2] s f):=by
 induction s using S.rec (motive_2:=λl=>∀(f),Jb n l=ah->f[1]? =U (U<|.int u)->R1 u t (kE (kn P m) [2] l<|s1 t f) (kE (kn P m) [2] l f))with
 |asg b x c=>
  exact λf h e=> .opt (UK k (n2 h).2 e) λv=>by
   show R1 u t (match yE [2] x v with|true=>(gH (kn P m) x v<|s1 t f).bind λe=>U (e,ag)|false=>ag) (match yE [2] x v with|true=>(gH (kn P m) x v f).bind λe=>U (e,ag)|false=>ag);cases yE [2] x v with
   |true=>exact Yj k (n2 h).1 e
   |false=>exact .no
 |two i j c gs d=>
  intro f h e;have g:=n2 h;have z:=n2 g.2;have M:=n2 z.2;have q:=Nj (t:=t) e;refine .opt (rP q.1 <| Q5 k M.1 q.2) λA=> .opt (rP q.1 <| xc k M.2 q.2) λw=> ?_;show R1 u t (match BS A with|true=>U (((s1 t f).set i<|U<|.lst A).set j<|U w,ag)|false=>ag) (match BS A with|true=>U ((f.set i<|U<|.lst A).set j<|U w,ag)|false=>ag);cases BS A with
  |true=>exact rP (Fh<|VD g.1)<|R1.set (VD z.1)<|Nb (VD g.1) e
  |false=>exact .no
 |A7 c a b D o=>
  intro f h e;have g:=n2 h;have z:=n2 g.2;refine .opt (xc k g.1 e) λv=> .opt J λr=> ?_;cases r with
  |true=>exact D f z.1 e
  |false=>exact o f z.2 e
 |FZ x s b o=>
  intro f h e;have g:=n2 h;cases x with
  |tup _=>exact ff g.1
  |v i=>
   cases s with
   |rev _=>exact ff (n2 g.1).2
   |esc _=>exact ff (n2 g.1).2
   |of c=>
    have E:=n2 g.1;have q:=Nj (t:=t) e;refine .opt (by show((kn P m).ex (hide [2]<|s1 t f) c).bind _=((kn P m).ex (hide [2] f) c).bind _;exact rP q.1<|rP (xc k E.2 q.2) J) λO=> ?_;clear h q;induction O generalizing f with
    |nil=>exact .so _ _ e
    |cons x O Q=>
     show R1 u t ((kE (kn P m) [2] b<|(s1 t f).set i<|U x).bind _)<|(kE (kn P m) [2] b<|f.set i<|U x).bind _;refine rP (Fh<|VD E.1) ?_;refine .bind (o _ g.2<|Nb (VD E.1) e) λH r B=> ?_;cases r with
     |none=>exact Q H B
     |some v=>exact .so _ _ B
 |ret c=>exact λf h e=> .opt (xc k h e) λv=> .so _ _ e
 |par _ _ _=>exact λ_ h _=>ff h
 |aug _ _ _=>exact λ_ h _=>ff h
 |app _ _ _=>exact λ_ h _=>ff h
 |rev _=>exact λ_ h _=>ff h
 |XF _ _ _=>exact λ_ h _=>ff h
 |raise=>exact λ_ h _=>ff h
 |XG _ _ _=>exact λ_ h _=>ff h
 |nil f h e=>exact .so _ _ e
 |cons s l I L f h e=>
  exact .bind (I f (n2 h).1 e) λH r B=>by
   cases r with
   |none=>exact L H (n2 h).2 B
   |some v=>exact .so _ _ B
def Ja(b:u.fmod 3=t.fmod 3)(l):∀(f),Jb n l=ah->f[1]? =U (U<|.int u)->R1 u t (kE (kn P m) [2] l<|s1 t f) (kE (kn P m) [2] l f):=by
 induction l with
 |nil=>exact λ_ _ e=> .so _ _ e
 |cons s l c=>
  exact λf h e=> .bind (Ml b s f (n2 h).1 e) λd r a=>by
   cases r with
   |none=>exact c d (n2 h).2 a
   |some v=>exact .so _ _ a
noncomputable def outF(o:Out):au PV:=match o with|(_,U v)=>U v|(_,ag)=>U .none
def R1.out(h:R1 u t x y):x.bind outF=y.bind outF:=by
 cases h with
 |no=>rfl
 |so e r h=>cases r<;>rfl
def LL(a:u.fmod 3=t.fmod 3):(kn L2.P<|m+1).ca 22 [x,.int t]=(kn L2.P<|m+1).ca 22 [x,.int u]:=R1.out<|Ja (P:=L2.P) (m:=m) (n:=12) a L2.zo [U x,U<|.int u,ag,ag,ag,ag,ag,ag,ag,ag,ag,ag,ag,ag] (by kernel_rfl) J
end
noncomputable def H9(n:Y):aj<|aj PV:=(RK n).map λa=>a.map λc=> .str<|bJ (c+1) 46
noncomputable def xd(n:Y):PV:= .lst<|(H9 n).map .lst
noncomputable def rI(n:Y):aj<|Y × Y:=(cj<|2*n).flatMap λa=>(eK a<|2*n-a).map λb=>(a,b)
noncomputable def Do(p:Y × Y):PV:= .tup [pn p.1,pn p.2]
noncomputable def uH(R:aj Y)(p:Y × Y):aj Y:=cut R (U (p.1:Z))<|U (p.2:Z)
def TE(R:aj Y)(p:Y × Y):aB:=match(o4 R)[p.1]?,(o4 R)[p.2]? with|some a,U b=>decide (Ck (uH R p)=decide (a=b))|_,_=>af
theorem Nh{n}(a:iS n):∀R∈jY n,(rI n).all (TE R)=ah:=λR h=>by
 rcases a with rfl|rfl|rfl<;>simp only[jY,aR,a0,lH]at h
 ·rcases h with rfl|rfl<;>decide+kernel
 ·rcases h with rfl|rfl|rfl|rfl|rfl<;>decide+kernel
 ·rcases h with rfl|rfl|rfl|rfl|rfl|rfl|rfl|rfl|rfl|rfl|rfl|rfl|rfl|rfl<;>decide+kernel
section
variable {m:Y} {c:Env}
def Yv:∀t:Y,t<3->(kn L2.P<|m+30).ca 22 [rl 2<|lZ 2,pn t]=U (xd 2)
 |0,_=>by kernel_rfl
 |1,_=>by kernel_rfl
 |2,_=>by kernel_rfl
def Yu:∀t:Y,t<3->(kn L2.P<|m+30).ca 22 [rl 3<|lZ 3,pn t]=U (xd 3)
 |0,_=>by kernel_rfl
 |1,_=>by kernel_rfl
 |2,_=>by kernel_rfl
def Yt:∀t:Y,t<3->(kn L2.P<|m+30).ca 22 [rl 4<|lZ 4,pn t]=U (xd 4)
 |0,_=>by kernel_rfl
 |1,_=>by kernel_rfl
 |2,_=>by kernel_rfl
def P6(b:iS n):(kn L2.P<|m+30).ca 22 [rl n<|lZ n,pn x2]=U (xd n):=by
 have a:=bP x2 (show 0<3 by decide);refine rP (LL (u:=((x2%3:Y):Z)) (by rw[bG _<|dcd J,bG _<|dcd J];exact az ed<|Nat.mod_mod x2 3)) ?_;rcases b with rfl|rfl|rfl
 ·exact Yv _ a
 ·exact Yu _ a
 ·exact Yt _ a
def Jj{j:Type}{t}{i f}{g:j->PV}{l:aj j}:∀{d},(∀a∈l,∃e,jZ t (g a) c=U e/\(kn P m).ex e i=U (.bool af))->iD (kn P m) t [i] (eG (kn P m) (fK (kn P m) f) []) c (l.map g) d=U d:=by
 induction l with
 |nil=>intro _ _;exact J
 |cons a l k=>intro d h;obtain⟨e,n,o⟩:=h a<|.head _;show(jZ t (g a) c).bind (λe=>(((kn P m).ex e i).bind λv=>(truth v).bind λb=>match b with|true=>U ah|false=>U af).bind λb=>match b with|false=>iD (kn P m) t [i] (eG (kn P m) (fK (kn P m) f) []) c (l.map g) d|true=>_)=_;refine rP n ?_;show(((kn P m).ex e i).bind λv=>(truth v).bind λb=>match b with|true=>U ah|false=>U af).bind _=_;exact rP o <| k λa q=>h a<|.tail _ q
def jE{x}{N}(h:c.length=N):(c.set i x).length=N:=rP dr h
def zq{i}(h:i<c.length):Lk (c.set i<|U x) i x:=by show(c.set i<|U x)[i]? =_;exact rP (gm h) J
def zr{i j}{x}{v}(h:i≠j)(e:Lk c j v):Lk (c.set i x) j v:=by show(c.set i x)[j]? =_;refine rP (a6 h) ?_;exact e
def Qi(f:iS n)(g:p∈rI n):p.1<8/\p.2<8:=by have:=Cf f;obtain⟨a,d,h⟩:=List.mem_flatMap.mp g;replace d:=eQ.mp d;obtain⟨b,i,e⟩:=bZ.mp h;subst e;have:=xq.mp i;exact⟨(cQ 0x42012c0249118902 (by assumption) d),(gr 0x9e88c41a013a0222c324921322c1a8902 (by rfl) (by assumption) d this.2)⟩
noncomputable def L7:C:= .cmp (.call 13 [.xP (.sub (.var 5)<|.var 16) (U<|.var 49)<|U<|.var 50]) [.IsNot] [.cmp (.sub (.sub (.var 15)<|.var 16)<|.var 49) [.Eq] [.sub (.sub (.var 15)<|.var 16)<|.var 50]]
def KL{r j k v}(e:iS n)(d:r<nR n)(a:Lk c 15<|rl n<|lZ n)(b:Lk c 16<|pn r)(f:(o4<|rowAt n r)[k]? =U v)(g:Lk c j<|pn k)(h:k<8):(kn P<|m+3).ex c (.sub (.sub (.var 15)<|.var 16)<|.var j)=U (pn v):=hH (hH (cf a) (cf b) (Tg d)<|ME e d) (cf g) (by refine rP cb<|rP f ?_;rfl)<|fY h<|dcd J
def Vm{r}{p:Y × Y}(f:iS n)(g:r<nR n)(s:p∈rI n)(t:Lk c 5<|.lst<|(jY n).map .str)(i:Lk c 15<|rl n<|lZ n)(e:Lk c 16<|pn r)(j:Lk c 49<|pn p.1)(k:Lk c 50<|pn p.2):(kn L2.P<|m+38).ex c L7=U (.bool af):=by
 have u:=cP<|mO g;have l:=oY f g;have lt:=Qi f s;have d:=a_.mp (Nh f _ u) p s;have v:pS (uH (rowAt n r) p)=ah:=xT l.2.1 λ_ h=>yR h;have o:(uH (rowAt n r) p).length<=8:=ab oN l.2.2;unfold TE at d;generalize w:(o4<|rowAt n r)[p.1]? =x at d;generalize y:(o4<|rowAt n r)[p.2]? =A at d;match x,A,d with
 |some a,U b,d=>
  refine jr (m:=m+37) (x_call (m:=m+36) (vs:=[.str<|uH (rowAt n r) p]) (bO (uA (m:=m+35) (hH (m:=m+34) (cf t) (cf e) (by refine rP cb<|rP (mO g) ?_;rfl)<|ME f g) (nD<|cf j) (nD<|cf k)<|yu J J<|ab l.2.2<|dcd J) J)<|Od (m:=m+15) (ab o<|dcd J) v<|ab AL<|ab (eS (cL o) o)<|dcd J) (jr (m:=m+36) (q:=decide (a=b)) (KL (m:=m+33) f g i e w j lt.1) (KL (m:=m+33) f g i e y k lt.2)<|az U ?_) ?_
  ·exact(kY.mpr ⟨λz=>bD<|ji<|dW z,λz=>eR.mpr<|az _<|aq z⟩:((a:Z)==(b:Z))=decide (a=b))
  ·show(U<|Ck (uH (rowAt n r) p)==decide (a=b)).bind (λr=>U<|!r)=_;exact rP (aq d ..) <| rP (cH ..) J
 |none,_,d=>exact ff d
 |some _,ag,d=>exact ff d
def l22{r}(t:c.length=55)(h:Lx c n x0 x1 x2 H)(u:r<nR n)(g:Lk c 15<|rl n<|lZ n)(i:Lk c 16<|pn r)(k:Lk c 22<|.lst<|(rI n).map Do):((kn L2.P<|m+40).ex c<|M_ 22).bind truth=U af:=by have b:(hide [49,50] c).length=55:=jE<|jE t;have a:∀{j v},j<49->Lk c j v->Lk (hide [49,50] c) j v:=λs e=>jd (du 0x311f9020321f937 s)<|jd (gw s) e;refine Ym ?_ J J J;show(((kn L2.P<|m+38).ex (hide [49,50] c)<|.var 22).bind itemsOf |>.bind λd=>iD (kn L2.P<|m+38) (.tup [.v 49,.v 50]) [L7] (eG (kn L2.P<|m+38) (fK (kn L2.P<|m+38)<|.lit<|.int 1) []) (hide [49,50] c) d []).bind (λvs=>U<|PV.lst vs)=_;have w:=a (dcd J) h.a5;have l:=a (dcd J) g;have o:=a (dcd J) i;have q:=a (dcd J) k;generalize hide [49,50] c=e at*;refine rP (show(kn L2.P<|m+38).ex e (.var 22)=_ from cf q) ?_;show(iD (kn L2.P<|m+38) (.tup [.v 49,.v 50]) [L7] (eG (kn L2.P<|m+38) (fK (kn L2.P<|m+38)<|.lit<|.int 1) []) e ((rI n).map Do) []).bind _=_;have f:∀{j v x y},j≠49->j≠50->Lk e j v->Lk ((e.set 49 x).set 50 y) j v:=λz A e=>zr A.symm<|zr z.symm e;exact rP (Jj λp B=>⟨(e.set 49<|U<|pn p.1).set 50<|U<|pn p.2,J,Vm h.hn u B (f (dcd J) (dcd J) w) (f (dcd J) (dcd J) l) (f (dcd J) (dcd J) o) (zr (dcd J)<|zq (by rw[b];decide))<|zq (by rw[jE b];decide)⟩) J
end
section
open PySem.Builtin.Int
noncomputable abbrev hL(x:Y->Y):aj PV:=[pn<|x 0,pn<|x 1,pn<|x 2,pn<|x 3,pn<|x 4,pn<|x 5,pn<|x 6,pn<|x 7,pn<|x 8,pn<|x 9,pn<|x 10]
structure Hp(x:Y->Y):Prop where
 hi:∀i,x i<2^26
 lo:2<=x 3/\3<=x 4/\1<=x 7/\5<=x 8
noncomputable def U3(n o:Y)(x:Y->Y):aj Y:=(cj n).map λi=>x<|o+i
noncomputable def ii(n o:Y)(x:Y->Y)(i:Y):Y:=if i<n then x (o+i)else 0
noncomputable def SN(n o:Y)(x:Y->Y):Y:=ii n o x 0+ii n o x 1+ii n o x 2+ii n o x 3
noncomputable def wd(n:Y)(x:Y->Y):Y:=(aH (((SN n 3 x*SN n 7 x)^n:Y):Z))+x 2%40
noncomputable def nb(n o:Y)(x:Y->Y):Y:=rN (2^wd n x) (ii n o x 0) (ii n o x 1) (ii n o x 2) (ii n o x 3) 0
def Ci(h:Hp x):ii n o x i<2^26:=by
 unfold ii;split
 ·exact h.hi _
 ·decide
def EB(h:Hp x):SN n o x<2^28:=by have:=Ci (n:=n) (o:=o) (i:=0) h;have:=Ci (n:=n) (o:=o) (i:=1) h;have:=Ci (n:=n) (o:=o) (i:=2) h;have:=Ci (n:=n) (o:=o) (i:=3) h;exact gr 0x40000006f93240000006f92240000006f91240000006f902100000007f93210aaa2 (by assumption) (by assumption) (by assumption) this
def rW(a:iS n)(b:i<2):ii n o x i=x (o+i):=bM<|cQ 0x3a3d3a08024913391398139102 a b
def Ox(e:iS n)(h:Hp x):5<=SN n 3 x/\6<=SN n 7 x:=by have:=h.lo;have a:ii n 3 x 0=x 3:=rW e<|dcd J;have b:ii n 3 x 1=x 4:=rW e<|dcd J;have c:ii n 7 x 0=x 7:=rW e<|dcd J;have d:ii n 7 x 1=x 8:=rW e<|dcd J;unfold SN;exact rP a <| rP b <| rP c <| rP d <| oz [_,_,_,_,_,_,_,_] [] 0x7f890559146113910817e6e54aaa6913210aaa5918 this.1 this.2.1 this.2.2.1 this.2.2.2
def UT(a:iS n):(U3 n o x).sum=SN n o x:=by
 rcases a with rfl|rfl|rfl
 ·show x (o+0)+(x (o+1)+0)=x (o+0)+x (o+1)+0+0;exact cJ (aZ _)<|aZ _
 ·show x (o+0)+(x (o+1)+(x (o+2)+0))=x (o+0)+x (o+1)+x (o+2)+0;exact cJ (d9 0x7210aaa72a1a0a1)<|d9 0x72a1a0a7210aaa1
 ·show x (o+0)+(x (o+1)+(x (o+2)+(x (o+3)+0)))=x (o+0)+x (o+1)+x (o+2)+x (o+3);exact cJ (gr 0x3210aaa73a2a1a0a1)<|gr 0x73a2a1a0a3210aaa1
structure Wid(n:Y)(x:Y->Y):Prop where
 lt:(SN n 3 x*SN n 7 x)^n<2^wd n x
 lo:8<=wd n x
 hi:wd n x<=300
def wid(f:iS n)(h:Hp x):Wid n x:=by
 have a:=Ox f h;have b:=EB (n:=n) (o:=3) h;have c:=EB (n:=n) (o:=7) h;have m:=bP (x 2) (show 0<40 by decide);have d:30<=SN n 3 x*SN n 7 x:=eS a.1 a.2;have g:SN n 3 x*SN n 7 x<2^56:=aV (pD b c)<|dcd J;have e:wd n x=aH (((SN n 3 x*SN n 7 x)^n:Y):Z)+x 2%40:=J;generalize l:SN n 3 x*SN n 7 x=q at*;have l1:2^8<=q^n:=ab (by decide:2^8<=30^2)<|ab (KD d 2)<|dh (ab (dcd J) d)<|du 0x323a3204903390398039081 f;have l2:q^n<2^224:=bi (dh (ab (dcd J) d) (show n<=4 from du 0x49033903980394901 f))<|aV (KC g<|dcd J)<|dcd J;have i:=cT (m:=224) (x:=((q^n:Y):Z));have j:=cT (m:=7) (x:=((q^n:Y):Z));have k:=cT (m:=aH ((q^n:Y):Z)) (x:=((q^n:Y):Z));rw[b_]at i j k;have r:=i.mpr l2;have s:=k.mp<|aZ _;have t:¬aH ((q^n:Y):Z)<=7:=λz=>by have:=j.mp z;exact du 0x801f90201002f910 l1 this
 exact⟨by exact rP l <| rP e <| aV s<|dh (dcd J) (bq ..),(d9 0x3207911721a030891 e t),(d9 0xe01f92112a03281f91212c2f901 m e r)⟩
section
variable {o:Y}
def UX:∀{l:aj Y},Lb (.lst<|l.map pn)=U (pn l.sum):=λ{l}=>by
 have e:l.map pn=(l.map λk:Y=>(k:Z)).map PV.int:=by exact rP bU J
 have s:(l.map λk:Y=>(k:Z)).sum=((l.sum:Y):Z):=by
  induction l with
  |nil=>rfl
  |cons a l b=>exact rP fR <| rP vu <| rP vu <| rP (b (by rw[bU];rfl)) J
 show(n7<|l.map pn).bind (λl=>U<|PV.int l.sum)=_;refine rP e<|rP iL ?_;show U (PV.int _)=_;exact rP s J
noncomputable def slE(o:Z):C:= .xP (.var 3) (U<|.lit<|.int o)<|U<|.bin .Add (.lit<|.int o)<|.var 4
def X6(a:iS n)(b:o=3\/o=7)(c:Lk D 3<|.lst<|hL x)(d:Lk D 4<|pn n):(kn P<|m+5).ex D (slE o)=U (.lst<|(U3 n o x).map pn):=by refine(uA (cf c) J (nD<|bC J (cf d) J)<|BD J J (show 11<=1000 by decide)).trans ?_;rcases a with rfl|rfl|rfl<;>rcases b with rfl|rfl<;>rfl
def S1(a:iS n)(b:o=3\/o=7)(c:Lk D 3<|.lst<|hL x)(d:Lk D 4<|pn n):(kn P<|m+6).ex D (.blt .sum [slE o])=U (pn<|SN n o x):=by exact rS (UT a) <| pL (bO (X6 a b c d) J) UX
def l25(a:iS n)(h:Hp x)(d:Lk D 3<|.lst<|hL x)(e:Lk D 4<|pn n):(kn P<|m+12).ex D (rf 25)=U (pn<|wd n x):=by
 have b:=EB (n:=n) (o:=3) h;have c:=EB (n:=n) (o:=7) h;have f:SN n 3 x*SN n 7 x<2^56:=aV (pD b c)<|dcd J;have g:((SN n 3 x:Y):Z).natAbs<=1099511627776:=cQ 0x79ca0100000007f912f0b10000000000af901 J b;have i:((SN n 7 x:Y):Z).natAbs<=1099511627776:=cQ 0x79ca0100000007f912f0b10000000000af901 J c;refine bC (m:=m+11) (AD (m:=m+10) (vs:=[]) (x:=pn<|(SN n 3 x*SN n 7 x)^n) (bC (m:=m+9) (bC (m:=m+8) (r:=pn<|SN n 3 x*SN n 7 x) (S1 (m:=m+2) a (.inl J) d e) (S1 (m:=m+2) a (.inr J) d e)<|re g i) (cf e)<|(z_ (k:=n) J ?_).trans ?_) J J) (bC (m:=m+10) (hH (m:=m+9) (k:=2) (cf d) q_ J<|dcd J) (q_ (k:=40))<|Dz<|dcd J) J
 ·have:aH ((SN n 3 x*SN n 7 x:Y):Z)<=56:=fG f;exact ab (eS this (by exact du 0x49033903980394901 a:n<=4))<|dcd J
 ·exact rS (eC ..) J
def RC(a:iS n):ur w ((U3 n o x).map λk:Y=>(k:Z))=((rN (2^w) (ii n o x 0) (ii n o x 1) (ii n o x 2) (ii n o x 3) 0:Y):Z):=by
 have p:(((2:Y)^w:Y):Z)=(2:Z)^w:=eC ..;rcases a with rfl|rfl|rfl
 ·show(x (o+0):Z)+2^w*((x (o+1):Z)+2^w*0)=((x (o+0)+2^w*(x (o+1)+2^w*(0+2^w*(0+2^w*0))):Y):Z);simp only[d5,aS,p];simp
 ·show(x (o+0):Z)+2^w*((x (o+1):Z)+2^w*((x (o+2):Z)+2^w*0))=((x (o+0)+2^w*(x (o+1)+2^w*(x (o+2)+2^w*(0+2^w*0))):Y):Z);simp only[d5,aS,p];simp
 ·show(x (o+0):Z)+2^w*((x (o+1):Z)+2^w*((x (o+2):Z)+2^w*((x (o+3):Z)+2^w*0)))=((x (o+0)+2^w*(x (o+1)+2^w*(x (o+2)+2^w*(x (o+3)+2^w*0))):Y):Z);simp only[d5,aS,p];simp
def l26(a:iS n)(h:Hp x)(c:o=3\/o=7)(e:Lk D 3<|.lst<|hL x)(f:Lk D 4<|pn n)(b:Lk D 25<|pn<|wd n x):(kn L2.P<|m+60).ex D (.call 3 [slE o,.var 25])=U (pn<|nb n o x):=by
 have W:=wid a h;have g:(U3 n o x).map pn=((U3 n o x).map λk:Y=>(k:Z)).map PV.int:=by rw[bU];rfl
 have j:(U3 n o x).length=n:=by unfold U3;exact rP (aG ..)<|rP (fh ..) J
 refine(x_call (bO (X6 a c e f)<|bO (cf b) J) ?_).trans<|az (λz=>U<|PV.int z)<|RC a;refine rP g ?_;have lo:=W.lo;have l:=W.hi;refine Tp (ab (dcd J) lo) (ab l<|dcd J) (rP (aG ..) <| rP (j ..) <| du 0x49033903980394002f901 a) λd q=> ?_;obtain⟨k,r,rfl⟩:=bZ.mp q;obtain⟨i,_,rfl⟩:=bZ.mp r;exact ab (fG<|h.hi _)<|dcd J
end
noncomputable def sg(k:Y):Z:=1-2*((k%2:Y):Z)
def Tc(k):sg k=1\/sg k= -1:=by
 unfold sg;rcases pE k with e|e<;>refine rP e ?_
 ·exact .inl J
 ·exact .inr J
def Vh(h:s=1\/s= -1)(a:t=1\/t= -1):s*t=1\/s*t= -1:=by rcases h with rfl|rfl<;>rcases a with rfl|rfl<;>decide
noncomputable def cv(n:Y)(x:Y->Y)(k:Y):Y:=
 if k=0 then ii n 3 x 0*ii n 7 x 0 else if k=1 then ii n 3 x 0*ii n 7 x 1+ii n 3 x 1*ii n 7 x 0
 else if k=2 then ii n 3 x 0*ii n 7 x 2+ii n 3 x 1*ii n 7 x 1+ii n 3 x 2*ii n 7 x 0
 else ii n 3 x 0*ii n 7 x 3+ii n 3 x 1*ii n 7 x 2+ii n 3 x 2*ii n 7 x 1+ii n 3 x 3*ii n 7 x 0
noncomputable def wV(n:Y)(s:Z)(f:Y->Y):PV:= .lst<|.int 0::(eK 1 n).map λk=> .int<|s^k*(f k:Z)
noncomputable def pf(n o:Y)(x:Y->Y)(k:Y):Y:=Df (ii n o x 0) (ii n o x 1) (ii n o x 2) (ii n o x 3) k
noncomputable def pc(n:Y)(x:Y->Y)(k:Y):Y:=Df (cv n x 0) (cv n x 1) (cv n x 2) (cv n x 3) k
section
variable {s1:Z}
def KN{a b c d T T1}(f:iS n)(h:Hp x)(i:a+b+c+d+T1<=SN n 3 x*SN n 7 x)(j:1<=a)(o:1<=b)(q:rN (2^wd n x) a b c d T<2^2400)(r:s=1\/s= -1)(t:e<2^26):(kn L2.P<|m+81).ca 23 [pn<|rN (2^wd n x) a b c d T,pn n,pn<|wd n x,.int s,pn e]=U (wV n s λk=>Df a b c d k):=by have W:=wid f h;refine E1 (W:=wd n x+4100*(e%7/6)) (g:=e%7/6) (wh:=2^(wd n x+4100*(e%7/6)-1)+2^((wd n x+4100*(e%7/6))/2)-1) f J λk u l=>X' (T1:=T1) u (ab l<|Cf f) W.lo W.hi J (ab (Ki<|eF<|bP e<|dcd J)<|dcd J) J (fY t<|dcd J) r q j o ?_;exact bi (ab (KD i k)<|dh (ab j<|ab (ab (bq a b)<|ab (bq _ c)<|ab (bq _ d)<|bq _ T1) i) l) W.lt
def A4(a:iS n)(h:Hp x)(b:SN n o x<=SN n 3 x*SN n 7 x):nb n o x<2^1200:=by
 have W:=wid a h;have d:SN n 3 x*SN n 7 x<=(SN n 3 x*SN n 7 x)^n:=Nat.le_self_pow (du 0x323a32049033903980397037 a) _;have lt:=W.lt;have e:nb n o x=uB (2^wd n x) [ii n o x 0,ii n o x 1,ii n o x 2,ii n o x 3]:=J;refine rP e ?_;refine aV (G3 λc f=> ?_)<|rP ((zT 2 (wd n x) 4).symm) <| dh (dcd J) (by have:=W.hi;exact du 0x405012c2f9014b02f904d1 this);have:=HA f
 have g:[ii n o x 0,ii n o x 1,ii n o x 2,ii n o x 3].sum=SN n o x:=by show ii n o x 0+(ii n o x 1+(ii n o x 2+(ii n o x 3+0)))=_;exact cJ (gr 0x3210aaa73a2a1a0a1)<|gr 0x73a2a1a0a3210aaa1
 exact L9 0x253501142431321102 b d lt this g
def GB(a:iS n)(h:Hp x):SN n 3 x<=SN n 3 x*SN n 7 x/\SN n 7 x<=SN n 3 x*SN n 7 x:=by have:=Ox a h;exact⟨Nat.le_mul_of_pos_right _<|aV (dcd J) this.2,mq _<|aV (dcd J) this.1⟩
def Ic(a:iS n)(h:Hp x):(1<=ii n 3 x 0/\1<=ii n 3 x 1)/\1<=ii n 7 x 0/\1<=ii n 7 x 1:=by have:=h.lo;exact rP (show ii n 3 x 0=x 3 from rW a<|dcd J) <| rP (show ii n 3 x 1=x 4 from rW a<|dcd J) <| rP (show ii n 7 x 0=x 7 from rW a<|dcd J) <| rP (show ii n 7 x 1=x 8 from rW a<|dcd J) <| gr 0x798998caba035912611391081361261816106188 this.1 this.2.1 this.2.2.1 this.2.2.2
def S2(a:iS n)(h:Hp x)(b:s=1\/s= -1)(c:d<2^26)(e:o=3\/o=7):(kn L2.P<|m+81).ca 23 [pn<|nb n o x,pn n,pn<|wd n x,.int s,pn d]=U (wV n s<|pf n o x):=by
 have M:=GB a h;have C:=Ic a h;rcases e with rfl|rfl
 ·exact KN (T1:=0) a h M.1 C.1.1 C.1.2 (fY (A4 a h M.1)<|um (dcd J)<|dcd J) b c
 ·exact KN (T1:=0) a h M.2 C.2.1 C.2.2 (fY (A4 a h M.2)<|um (dcd J)<|dcd J) b c
def Ya(a:iS n)(h:Hp x)(b:s=1\/s= -1)(c:d<2^26):(kn L2.P<|m+81).ca 23 [pn<|nb n 3 x*nb n 7 x,pn n,pn<|wd n x,.int s,pn d]=U (wV n s<|pc n x):=by have M:=GB a h;have C:=Ic a h;have lt:=pD (A4 a h M.1)<|A4 a h M.2;rw[<-cW]at lt;unfold nb at lt⊢;rw[num_mul]at lt⊢;refine KN a h (cD (PM ..).symm) (gC C.1.1 C.2.1) ?_ lt b c;have:=gC C.1.1 C.2.2;exact aV this (bq ..)
def X7{q:Y}(a:0<q/\q<100)(b:Lk D 3<|.lst<|hL x):(kn P<|m+7).ex D (.bin .Sub (.lit<|.int 1)<|.bin .Mult (.lit<|.int 2)<|.bin .Mod (.bin .FloorDiv (.sub (.var 3)<|.lit<|.int 0)<|.lit<|.int (q:Z))<|.lit<|.int 2)=U (.int<|sg<|x 0/q):=bC J (bC J (bC (bC (hH (cf b) q_ J<|dcd J) (q_)<|Ww (gw a.1)<|ab (fG (k:=7)<|ab a.2<|dcd J)<|dcd J) (q_)<|Dz<|dcd J)<|re (dcd J) (by have:=bP (x 0/q) (show 0<2 by decide);exact rP (b_ ..) <| ab (bF this)<|dcd J)) J
def l27(a:Lk D 3<|.lst<|hL x):(kn P<|m+8).ex D (rf 27)=U (.lst [.int<|sg<|x 0/5,.int<|sg<|x 0/10]):=pK<|bO (X7 (dcd J) a)<|bO (X7 (dcd J) a) J
def TG:∀{i},i<11->(hL x)[i]? =U (pn<|x i)
 |0,_=>rfl
 |1,_=>rfl
 |2,_=>rfl
 |3,_=>rfl
 |4,_=>rfl
 |5,_=>rfl
 |6,_=>rfl
 |7,_=>rfl
 |8,_=>rfl
 |9,_=>rfl
 |10,_=>rfl
 |_+11,h=>bI h<|aq J
def vM{k:Y}(a:k<11)(b:Lk D 3<|.lst<|hL x):(kn P<|m+2).ex D (.sub (.var 3)<|.lit<|.int (k:Z))=U (pn<|x k):=hH (cf b) q_ (TG a)<|ab a<|dcd J
def l28(f:iS n)(h:Hp x)(g:Lk D 3<|.lst<|hL x)(i:Lk D 4<|pn n)(a:Lk D 25<|pn<|wd n x)(c:Lk D 26<|pn<|nb n 3 x)(d:Lk D 27<|pn<|nb n 7 x)(j:s1=1\/s1= -1)(k:e=1\/e= -1)(b:Lk D 28<|.lst [.int s1,.int e]):(kn L2.P<|m+100).ex D (rf 28)=U (.lst [wV n s1<|pf n 3 x,wV n e<|pf n 7 x]):=pK<|bO (x_call (bO (cf c)<|bO (cf i)<|bO (cf a)<|bO (hH (cf b) q_ J<|dcd J)<|bO (vM (dcd J) g) J)<|S2 f h j (h.hi _)<|.inl J)<|bO (x_call (bO (cf d)<|bO (cf i)<|bO (cf a)<|bO (hH (cf b) q_ J<|dcd J)<|bO (vM (dcd J) g) J)<|S2 f h k (h.hi _)<|.inr J) J
def l29(d:iS n)(h:Hp x)(l:Lk D 3<|.lst<|hL x)(o:Lk D 4<|pn n)(e:Lk D 25<|pn<|wd n x)(f:Lk D 26<|pn<|nb n 3 x)(g:Lk D 27<|pn<|nb n 7 x)(j:s1=1\/s1= -1)(k:i=1\/i= -1)(a:Lk D 28<|.lst [.int s1,.int i]):(kn L2.P<|m+100).ex D (rf 29)=U (wV n (s1*i)<|pc n x):=by
 have M:=GB d h;have b:=fG<|A4 d h M.1;have c:=fG<|A4 d h M.2;have sm:∀{s},s=1\/s= -1->s.natAbs<=1099511627776:=λh=>by rcases h with rfl|rfl<;>decide
 exact x_call (bO (bC (cf f) (cf g)<|sT (ab b<|dcd J)<|ab c<|dcd J)<|bO (cf o)<|bO (cf e)<|bO (bC (hH (cf a) q_ J<|dcd J) (hH (cf a) q_ J<|dcd J)<|re (sm j)<|sm k)<|bO (vM (dcd J) l) J)<|Ya d h (Vh j k)<|h.hi _
def BQ:fv 5 (wV n s f)=ah:=a_.mpr λz a=>by
 rcases aR.mp a with rfl|a
 ·rfl
 ·obtain⟨k,_,rfl⟩:=bZ.mp a;rfl
def ab0:i4 .In (.lst []) (.lst [wV n s f,wV n t g,wV n u h])=U af:=by show gL (ah&&(fv 5 (wV n s f)&&(fv 5 (wV n t g)&&(fv 5 (wV n u h)&&ah)))) (oC (wV n s f) (.lst [])||(oC (wV n t g) (.lst [])||(oC (wV n u h) (.lst [])||af)))=_;exact rP BQ <| rP BQ <| rP BQ J
theorem UV(a:iS n):((cj n).map λi=>x (o+i)*2^(wd n x*i)).sum=nb n o x:=by
 unfold nb;have p:∀i,2^(wd n x*i)=(2^wd n x)^i:=λi=>zT ..;simp only[p];generalize 2^wd n x=X;rcases a with rfl|rfl|rfl
 ·show x (o+0)*X^0+(x (o+1)*X^1+0)=x (o+0)+X*(x (o+1)+X*(0+X*(0+X*0)));grind
 ·show x (o+0)*X^0+(x (o+1)*X^1+(x (o+2)*X^2+0))=x (o+0)+X*(x (o+1)+X*(x (o+2)+X*(0+X*0)));grind
 ·show x (o+0)*X^0+(x (o+1)*X^1+(x (o+2)*X^2+(x (o+3)*X^3+0)))=x (o+0)+X*(x (o+1)+X*(x (o+2)+X*(x (o+3)+X*0)));grind
def abW{l:aj Y}{f:Y->Y}:l.map (λk=>pn<|f k)=(l.map f).map pn:=by exact rP bU J
def Y4(a:iS n)(b:o=3\/o=7)(c:i<n):o+i<11/\i<=3:=by have:=aV c<|Cf a;exact⟨aV (h_ this o) (by rcases b with rfl|rfl<;>decide),eF this⟩
def l30(L:D.length=55)(c:iS n)(h:Hp x)(O:Lk D 3<|.lst<|hL x)(Q:Lk D 4<|pn n)(q:Lk D 25<|pn<|wd n x)(w:Lk D 26<|pn<|nb n 3 x)(z:Lk D 27<|pn<|nb n 7 x){f g k:Y->Y}{t u:Z}(A:Lk D 29<|.lst [wV n s f,wV n t g])(B:Lk D 30<|wV n u k):((kn P<|m+30).ex D<|M_ 30).bind truth=U af:=by
 have W:=wid c h
 have a:(kn P<|m+29).ex D (.cmp (.lst [.var 26,.var 27]) [.NotEq] [.vz (.blt .sum [.vz (.bin .Mult (.sub (.var 3)<|.bin .Add (.var 53)<|.var 54)<|.bin .Pow (.lit<|.int 2)<|.bin .Mult (.var 25)<|.var 54) [.mk (.v 54) (.of<|.blt .range [.var 4]) []]]) [.mk (.v 53) (.of<|.lst [.lit<|.int 3,.lit<|.int 7]) []]])=U (.bool af):=by
  refine jr (m:=m+28) (y:= .lst [pn<|nb n 3 x,pn<|nb n 7 x]) (pK (m:=m+27)<|bO (cf w)<|bO (cf z) J) (qR (m:=m+27) (i:=53) (ι:=pn) (l:=[3,7]) (g:=λo=>pn<|nb n o x) J (λo E=> ?_)<|dcd J)<|ne_self J
  have E:o=3\/o=7:=by
                 rcases aR.mp E with e|e; · exact .inl e
                 exact .inr<|aU.mp e
  have le:(ent D 53<|pn o).length=55:=jE<|jE L;refine(pL (m:=m+26) (bO (qR (m:=m+25) (i:=54) (ι:=pn) (l:=cj n) (g:=λi=>pn<|x (o+i)*2^(wd n x*i)) (src_range (m:=m+24) (cf<|jd (dcd J)<|jl (dcd J) Q)<|ab (Cf c)<|dcd J) (λi hi=> ?_)<|rP fh <| ab (Cf c)<|dcd J) J) ?_)
  ·have j:=Y4 c E<|eQ.mp hi;have b3:Lk (ent (ent D 53<|pn o) 54<|pn i) 3<|.lst<|hL x:=jl (dcd J)<|jl (dcd J) O;have H:Lk (ent (ent D 53<|pn o) 54<|pn i) 25<|pn<|wd n x:=jl (dcd J)<|jl (dcd J) q;have I:Lk (ent (ent D 53<|pn o) 54<|pn i) 53<|pn o:=jl (dcd J)<|qW (rP L <| by decide);have d:Lk (ent (ent D 53<|pn o) 54<|pn i) 54<|pn i:=qW (rP le <| by decide);have M:wd n x*i<=900:=ab (eS W.hi j.2)<|dcd J;have wa:((wd n x:Y):Z).natAbs<=1099511627776:=ab W.hi (dcd J);have wb:((i:Y):Z).natAbs<=1099511627776:=ab j.2 (dcd J);have bp:aH ((2^(wd n x*i):Y):Z)<=901:=fG (um (dcd J) (bi M (dcd J)));refine bC (m:=m+24) (hH (m:=m+23) (k:=o+i) (cf b3) (bC (m:=m+22) (cf I) (cf d) J) (TG j.1) (fY j.1 (dcd J))) (bC (m:=m+23) (y:=pn (wd n x*i)) (r:=pn (2^(wd n x*i))) J (bC (m:=m+22) (cf H) (cf d) (re wa wb)) ((z_ (k:=wd n x*i) J ?_).trans ?_)) (sT (ab (fG (h.hi _)) (dcd J)) (ab bp (dcd J)))
   ·exact rS ((show aH (2:Z)=2 by decide)) <| ab (cA 2 M) (dcd J)
   ·exact rP (show((2:Z)^(wd n x*i))=((2^(wd n x*i):Y):Z)from(eC 2 _).symm) J
  ·refine uz (b:=Lb (.lst ((cj n).map λi=>pn (x (o+i)*2^(wd n x*i))))) J ?_;exact rP abW (rP UX (rP (UV c) J))
 have b:(kn P (m+29)).ex D (.cmp (.lst []) [.In] [.bin .Add (.var 29) (.lst [.var 30])])=U (.bool af):=jr J (bC (cf A) (pK (bO (cf B) J)) J) ab0;show(tF (kn P (m+29)) D .Or [_,_]).bind truth=_;refine rP (Ef a) ?_;show((kn P (m+29)).ex D (.cmp (.lst []) [.In] [.bin .Add (.var 29) (.lst [.var 30])])).bind truth=_;exact rP b J
end
noncomputable def Dl(n:Y)(b a c:Z):aj PV:=(hJ 0 (2*(n:Z)) 1).map<|toldOf (n:Z) b a c
noncomputable def fW(n:Y)(x:Y->Y)(s t:Z)(i k:Y):Z:=if i=0 then s^k*(pf n 3 x k:Z)else t^k*(pf n 7 x k:Z)
def Tm(h:Hp x)(k)(r:1<=SN n o x):pf n o x k<2^112:=by
 have S:=EB (n:=n) (o:=o) h;have g:SN n o x^4<2^112:=aV (KC S<|dcd J)<|dcd J
 have i:∀k,1<=k->k<=4->pf n o x k<=SN n o x^4:=λk j q=>by have l:=MR (a:=ii n o x 0) (b:=ii n o x 1) (c:=ii n o x 2) (d:=ii n o x 3) (T:=0) j q;have p:=dh r q;have m:pf n o x k<=k*pf n o x k:=mq _ j;exact ab m<|ab (ab (fZ _ _) l) p
 by_cases f:1<=k/\k<=4
 ·exact bi (i k f.1 f.2) g
 ·have e:pf n o x k=pf n o x 4:=by delta pf Df;exact rP (bA<|by exact du 0x3a04901061876037 f) <| rP (bA<|by exact du 0x3a04901061878037 f) <| rP (bA<|by exact du 0x3a049010618739037 f) J
  exact rP e <| bi (i 4 (dcd J)<|aZ _) g
def Ho(a:s=1\/s= -1){p:Y}(h:p<2^112):aH (s^k*(p:Z))<=301:=ab (gJ (kq<|BE a k)<|fG h)<|dcd J
def ZA(a:iS n)(h:Hp x)(b:s=1\/s= -1)(c:t=1\/t= -1):Wg (fW n x s t) (.int 0::(eK 1 n).map λk=> .int<|s^k*(pf n 3 x k:Z))<|.int 0::(eK 1 n).map λk=> .int<|t^k*(pf n 7 x k:Z):=by
 have L:=Ox a h
 have g:∀(F:Y->PV) (j:Y),1<=j->j<=4->(PV.int 0::(eK 1 n).map F)[j]? =ag\/(PV.int 0::(eK 1 n).map F)[j]? =U (F j):=λF j d e=>by have:j=1\/j=2\/j=3\/j=4:=du 0xeae98eae99f0490106149033903980396039 d e;rcases a with rfl|rfl|rfl<;>rcases this with rfl|rfl|rfl|rfl<;>first|exact .inr J|exact .inl J
 refine⟨g _,g _,λi j=> ?_⟩;delta fW;split
 ·exact Ho b<|Tm h j<|ab (dcd J) L.1
 ·exact Ho c<|Tm h j<|ab (dcd J) L.2
def BM{p:Y->Z}{a b c d k:Y}(e:p 0=a)(f:p 1=b)(g:p 2=c)(h:p 3=d):pw p k=((Df a b c d k:Y):Z):=by
 delta pw Df;refine rP e<|rP f<|rP g<|rP h ?_;split
 ·rfl
 ·split
  ·exact rP (aS ..) J
  ·split
   ·simp only[d5,aS]
   ·simp only[d5,aS];rfl
noncomputable def YB(n:Y):aj<|aj PV × aj Y:=(RK n).map λa=>(a.map λc=> .str<|bJ (c+1) 46,a)
def QD(e:iS n):(YB n).foldl (λa r=>a+rF (fW n x s t) r.2) 0=(s*t)^n*(pc n x n:Z):=by
 delta YB;rw[List.foldl_map,ident (s1:=s) (s2:=t) e (p:=λk=>(ii n 3 x k:Z)) (q:=λk=>(ii n 7 x k:Z)) (f:=fW n x s t) (λk=> ?_) λk=> ?_]
 ·rw[BM (a:=cv n x 0) (b:=cv n x 1) (c:=cv n x 2) (d:=cv n x 3)]; · rfl
  all_goals show _=((_:Y):Z)
  ·exact(aS ..).symm
  ·exact(by rw[show cv n x 1=ii n 3 x 0*ii n 7 x 1+ii n 3 x 1*ii n 7 x 0 from rfl,d5,aS,aS];rfl)
  ·exact(by rw[show cv n x 2=ii n 3 x 0*ii n 7 x 2+ii n 3 x 1*ii n 7 x 1+ii n 3 x 2*ii n 7 x 0 from rfl];simp only[d5,aS];rfl)
  ·exact(by rw[show cv n x 3=ii n 3 x 0*ii n 7 x 3+ii n 3 x 1*ii n 7 x 2+ii n 3 x 2*ii n 7 x 1+ii n 3 x 3*ii n 7 x 0 from rfl];simp only[d5,aS];rfl)
 ·rw[BM (a:=ii n 3 x 0) (b:=ii n 3 x 1) (c:=ii n 3 x 2) (d:=ii n 3 x 3) J J J J];rfl
 ·rw[BM (a:=ii n 7 x 0) (b:=ii n 7 x 1) (c:=ii n 7 x 2) (d:=ii n 7 x 3) J J J J];rfl
def RJ(b:iS n):∀a∈RK n,a.length=2*n/\∀c∈a,c<=n:=by rcases b with rfl|rfl|rfl<;>decide
def Vl(j:iS n)(i:c=1\/c=2\/c=3)(l:g<2*n):∃(a b:PV) (L:Z),(Dl n d c f)[g]? =U (.lst [a,.int L,b])/\(g%2=0->4<L)/\(g%2=1->L<=4):=by
 have e:(Dl n d c f)[g]? =U (toldOf n d c f g):=by delta Dl;refine rP cb<|rP (show hJ 0 (2*(n:Z)) 1=(cj<|2*n).map λk:Y=>(k:Z) by rcases j with rfl|rfl|rfl<;>rfl)<|rP cb<|rP (kz l) ?_;rfl
 refine⟨_,_,_,e,λh=> ?_,λh=> ?_⟩
 ·delta lj;exact rP (bM (by rw[bG _<|dcd J];exact az ed h)) <| lE 0x323a32038062806940690489485 i
 ·delta lj;exact rP (bA (by rw[bG _<|dcd J];exact λz=>Nat.one_ne_zero<|h.symm.trans<|ji z)) <| lE 0x323a320380628069406948048a4 i
def I5(h:a∈pairs b):b[a.1]? =U a.2:=by delta pairs at h;obtain⟨i,c,e⟩:=List.getElem_of_mem h;rw[List.getElem_zip,List.getElem_range]at e;subst e;exact be _
def Yz(b:iS n)(i:a=1\/a=2\/a=3){F G:Y->PV}:∀r∈YB n,Ro (Dl n base a mass) (.int 0::(eK 1 n).map F) (.int 0::(eK 1 n).map G) r:=λr j=>by
 obtain⟨k,l,rfl⟩:=bZ.mp j;have c:=RJ b k l;refine⟨aG ..,b.imp (λz=>c.1.trans (az (2* ·) z)) (λz=>z.imp (λz=>c.1.trans (az (2* ·) z)) λz=>c.1.trans (az (2* ·) z)),λm d=> ?_⟩;have e:=I5 d;have o:=(cy.mp e).1;have f:=c.2 _<|cP e;have g:=c.1▸o;refine⟨⟨_,by refine rP cb<|rP e ?_;rfl,by exact rP jM J⟩,ab f<|Cf b,aV g<|ab (cA 2<|Cf b)<|dcd J,Vl b i g,λq=> ?_⟩
 have h:∀(F:Y->PV),(PV.int 0::(eK 1 n).map F)[m.2]? ≠ag:=λF z=>by have:=List.getElem?_eq_none_iff.mp z;rw[bK,aG,vH]at this;exact Nat.not_succ_le_self n<|ab this f
 exact⟨λ_=>h F,λ_=>h G⟩
def l31(d:iS n)(h:Hp x)(j:a=1\/a=2\/a=3)(k:s=1\/s= -1)(l:t=1\/t= -1)(o:Lk D 4<|pn n)(e:Lk D 23<|xd n)(f:Lk D 24<|.lst<|Dl n b a c)(g:Lk D 29<|.lst [wV n s<|pf n 3 x,wV n t<|pf n 7 x])(i:Lk D 30<|wV n (s*t)<|pc n x):(kn L2.P<|m+40).ex D (.cmp (.call 24 [.var 23,.var 24,.var 29]) [.Eq] [.sub (.var 30)<|.var 4])=U (.bool ah):=by
 have T:=K7 (m:=m+17) (ZA d h k l)<|Yz (base:=b) (mass:=c) d j;rw[QD d]at T
 have dv:(YB n).map (λr=>PV.lst r.1)=(H9 n).map .lst:=by delta YB H9;exact rP bU <| rP bU J
 rw[dv]at T;refine jr (m:=m+39) (x_call (m:=m+38) (bO (cf e)<|bO (cf f)<|bO (cf g) J) T) (hH (m:=m+38) (cf i) (cf o) (x:= .int<|(s*t)^n*(pc n x n:Z)) ?_<|bi (Cf d)<|dcd J) ?_
 ·rcases d with rfl|rfl|rfl<;>rfl
 ·show gL ah ((s*t)^n*(pc n x n:Z)==(s*t)^n*(pc n x n:Z))=_;exact rP (cH ..) J
noncomputable def num(z:Z):Y:=(z%1000000).toNat
noncomputable def ownN:aj Y:=[7,1100,43,2,3,1,4,1,5,2,3]
noncomputable def hpS(E:aj Y)(k:Y):Y:=((hJ (k:Z) (E.length:Z) 11).map λi=>E.getD i.toNat 0).sum
noncomputable def xh(E:aj Y)(k:Y):Y:=if k<11 then ownN.getD k 0+hpS E k else 0
noncomputable def Tf(k L:Y):aB:=(dA (k:Z) (L:Z) 11&&(!(decide ((11:Z)=0))&& !(c7 ((L:Z)-(k:Z)) 11)))&&((hJ (k:Z) (L:Z) 11).all (λi=>decide (0<=i)&&decide (i<(L:Z)))&&aY (hJ (k:Z) (L:Z) 11).length 60)
theorem U8:((cj 11).all λk=>(cj 61).all<|Tf k)=ah:=by decide+kernel
section
variable {P:Y->au Fn} {m n:Y} {D:Env} {E:aj Y} {H:aj Z}
def LS{k L:Y}(a:k<11)(hL:L<=60):Tf k L=ah:=all_range (all_range U8 a)<|gx hL
def UW{l:aj Y}:∀{B:Y},(∀a∈l,a<=B)->l.sum<=l.length*B:=by
 induction l with
 |nil=>intro _ _;exact db _
 |cons a l b=>intro B h;have:=h a<|.head _;have:=b λx c=>h x<|.tail _ c;exact rP (vu ..) <| rP (bK ..) <| rP (ku ..) <| gr 581848131047585 (by assumption) this
def Vw(z:Z):num z<1000000:=(Int.toNat_lt<|sR _<|dcd J).mpr<|wX _<|dcd J
def Zw(c:E.length<=60)(d:∀a∈E,a<1000000){k:Y}(e:k<11):hpS E k<=60000000:=by
 have r:=aD (n2 (n2<|LS e c).2).2;refine ab (UW λa f=> ?_)<|rP (aG ..) <| du 0xf42404503c1f90139387006f90f42404fd1 r;obtain⟨i,_,rfl⟩:=bZ.mp f;show E.getD i.toNat 0<=1000000;refine rP ce ?_;cases q:E[i.toNat]? with
 |none=>exact db _
 |some b=>exact bF<|d b<|cP q
def Zv(b:E.length<=60)(c:∀a∈E,a<1000000):Hp<|xh E:=by
 have lo:∀k,k<11->ownN.getD k 0<=xh E k:=λk d=>by unfold xh;exact rP (bM d) <| bq _ _
 refine⟨λi=> ?_,lo 3<|dcd J,lo 4<|dcd J,lo 7<|dcd J,lo 8<|dcd J⟩;unfold xh;split
 ·rename_i h;have:=Zw b c h;have o:∀k,k<11->ownN.getD k 0<=1100:=by decide
  have:=o i h;exact cQ 0x44c2f90139387006f91140000006f910a2 (by assumption) this
 ·decide
def l0(a:H.length<=63)(b:Lk D 0<|.lst<|H.map .int)(c:D.length=55):(kn P<|m+9).ex D (.vz (.bin .Mod (.var 31)<|.bin .Pow (.lit<|.int 10)<|.lit<|.int 6) [.mk (.v 31) (.of<|.xP (.var 0) ag<|U<|.lit<|.int 60) []])=U (.lst<|((H.take 60).map num).map pn):=by
 refine(qR (m:=m+8) (i:=31) (ι:=PV.int) (l:=H.take 60) (g:=λz=>pn<|num z) ?_ (λz _=> ?_)<|rP f5 <| cQ 0x7013c1f90d3e82f901 J).trans<|rP bU J
 ·show((kn P<|m+8).ex (hide [31] D)<|.xP (.var 0) ag<|U<|.lit<|.int 60).bind itemsOf=_;refine rP (uA (cf<|jd (dcd J) b) J J<|BD J J (by rw[aG];exact ab a<|dcd J)) ?_;show U (cut (H.map PV.int) ag<|U ((60:Y):Z))=_;exact rP Ch<|rP CX J
 ·refine bC (cf<|qW<|du 0x30371f90301f1f92 c) (bC J J J) ?_;show gL ah (PV.int<|z.fmod 1000000)=U (PV.int ((z%1000000).toNat:Z));exact rP (bG _<|dcd J) <| rP (kQ<|sR _<|dcd J) J
def l1(e:E.length<=60)(h:D.length=55)(t:Lk D 1<|.lst<|E.map pn)(u:Lk D 2<|.lst<|ownN.map pn):(kn P<|m+20).ex D (rf 1)=U (.lst<|hL<|xh E):=by
 refine qR (m:=m+19) (i:=32) (ι:=pn) (l:=cj 11) (g:=λk=>pn<|xh E k) (src_range (m:=m+18) (c:= .lit<|.int 11) J<|dcd J) (λk a=> ?_)<|dcd J;replace a:=eQ.mp a;have R:=n2<|LS a e;have o:=n2 R.2;have b1:Lk (ent D 32<|pn k) 1<|.lst<|E.map pn:=jl (dcd J) t;have b2:Lk (ent D 32<|pn k) 2<|.lst<|ownN.map pn:=jl (dcd J) u;have d:Lk (ent D 32<|pn k) 32<|pn k:=qW<|du 0x30371f9030201f92 h;have w:(ent D 32<|pn k).length=55:=jE<|jE h;have s:(E.map pn).length=E.length:=aG ..;refine bC (m:=m+18) (x:=pn<|ownN.getD k 0) (y:=pn<|hpS E k) (hH (m:=m+17) (cf b2) (cf d) ?_<|ab a<|dcd J) (pL (m:=m+17) (bO (qR (m:=m+16) (i:=33) (ι:=PV.int) (l:=hJ (k:Z) (E.length:Z) 11) (g:=λi=>pn<|E.getD i.toNat 0) ?_ (λi z=> ?_)<|ab (aD o.2)<|dcd J) J) ?_) ?_
 ·refine rP cb<|rP ce<|rP (be (show k<ownN.length from a)) ?_;rfl
 ·show((kn P<|m+16).ex (hide [33]<|ent D 32<|pn k)<|.blt .range [.var 32,.blt .len [.var 1],.lit<|.int 11]).bind itemsOf=_;rw[pL (m:=m+15) (r:= .AN (k:Z) (E.length:Z) 11)<|bO (cf<|jd (dcd J) d)<|bO ((KJ (m:=m+14) (cf<|jd (dcd J) b1)<|cQ 0x1033c1f9113e82f901 e s).trans<|by rw[s])<|bO J J]; · rfl
  show gL (dA (k:Z) (E.length:Z) 11&&(!(decide ((11:Z)=0))&& !(c7 ((E.length:Z)-(k:Z)) 11))) (PV.AN (k:Z) (E.length:Z) 11)=_;exact rP R.1 J
 ·have q:=n2<|a_.mp o.1 i z;have A:=aq q.1;have B:=aq q.2;obtain⟨j,rfl⟩:∃j:Y,i=(j:Z):=⟨i.toNat,(kQ A).symm⟩;have f:j<E.length:=dz.mp B;refine hH (cf<|jl (dcd J) b1) (cf<|qW<|du 0x30371f9030211f92 w) ?_<|ab f<|ab e<|dcd J;refine rP cb<|rP (be f) ?_;show U (pn E[j])=U (pn<|E.getD j 0);refine rP ce<|rP (be f) ?_;rfl
 ·refine uz (b:=Lb<|.lst<|(hJ (k:Z) (E.length:Z) 11).map λi=>pn<|E.getD i.toNat 0) J ?_;exact rP (show((hJ (k:Z) (E.length:Z) 11).map λi=>pn<|E.getD i.toNat 0)=((hJ (k:Z) (E.length:Z) 11).map λi=>E.getD i.toNat 0).map pn by rw[bU];rfl) <| rP UX J
 ·show U (pn<|ownN.getD k 0+hpS E k)=_;unfold xh;exact rP (bM a) J
def l2{x:Y->Y}(a:Lk D 3<|.lst<|hL x):(kn P<|m+9).ex D (rf 2)=U (pn<|2+x 0%5/2):=bC (q_) (bC (bC (vM (dcd J) a) (q_)<|Dz<|dcd J) (q_)<|Ww (dcd J)<|dcd J) J
def Y_(a:iS n):(kn L2.P<|m+20).ca 18 [pn n]=U (.lst<|(jY n).map .str):=by rcases a with rfl|rfl|rfl<;>kernel_rfl
end
def Al(D:Env)(F:aj<|Y × PV):Prop:=D.length=55/\∀j,j<55->D[j]? =U (F.lookup j)
def Al.lk(A:Al D F)(h:F.lookup j=U v)(a:j<55):Lk D j v:=(A.2 j a).trans<|az U h
def Al.set(A:Al D F)(a:i<55):Al (D.set i<|U v)<|(i,v)::F:=⟨jE A.1,λj b=>by
 by_cases h:j=i
 ·subst h;exact rP List.lookup_cons_self <| zq (by refine rP A.1 ?_;exact a)
 ·refine rP dk<|rP (cw.mpr h)<|rP (a6 λz=>h z.symm) ?_;exact A.2 j b⟩
def lx(A:Al D F)(a:iS n)(b:F.lookup 3=U (.lst<|hL x))(c:F.lookup 4=U (pn n))(d:F.lookup 5=U (.lst<|(jY n).map .str)):Lx D n (x 0) (x 1) (x 2)<|hL x:=⟨A.1,A.lk b<|dcd J,A.lk c<|dcd J,A.lk d<|dcd J,J,J,J,a⟩
def st(A:Al D F)(a:i<55)(h:k.ex D c=U v)(b:∀e,Al e ((i,v)::F)->Run k [] l e w):Run k [] (.asg af (.v i) c::l) D w:=fg (kR h J)<|b _<|A.set a
def XI(A:Al D F)(c:i<55)(d:j<55)(h:k.ex D a=U v)(f:k.ex D b=U u)(g:∀e,Al e ((j,u)::(i,v)::F)->Run k [] l e w):Run k [] (.par af [.v i,.v j] [a,b]::l) D w:=fg (rE h f J J)<|g _<|(A.set c).set d
def Yr(h:(k.ex D t).bind truth=U af)(a:Run k [] l D w):Run k [] (.A7 t s []::l) D w:=fg (iy h J) a
def stu(A:Al D F)(a:i<55)(b:j<55)(h:k.ex D c=U (.lst vs))(d:A5 (U<|F.lookup j)=ah)(f:∀e,Al e ((i,.lst vs)::F)->Run k [] l e w):Run k [] (.XG i j c::l) D w:=fg (by show(k.ex D c).bind (λv=>match v with| .lst H=>(match A5 (D[j]?)with|true=>U (D.set i<|U<|.lst H,ag)|false=>ag)|_=>ag)=U (D.set i<|U<|.lst vs,ag);refine rP h<|rP (A.2 j b) ?_;show(match A5 (U<|F.lookup j)with|true=>U (D.set i<|U<|PV.lst vs,ag)|false=>ag)=_;exact rP d J)<|f _<|A.set a
def ph3(b:iS n)(c:Hp x)(m:a=1\/a=2\/a=3)(A:Al D F)(d:F.lookup 3=U (.lst<|hL x))(f:F.lookup 4=U (pn n))(h:F.lookup 23=U (xd n))(i:F.lookup 24=U (.lst<|Dl n k a l)):Run (kn L2.P 199) [] (L2.Gs.drop 25) D<|.bool ah:=by have j:=Tc<|x 0/5;have g:=Tc<|x 0/10;refine st A (dcd J) (l25 b c (A.lk d<|dcd J)<|A.lk f<|dcd J) λe A=>XI A (dcd J) (dcd J) (l26 b c (.inl J) (A.lk d<|dcd J) (A.lk f<|dcd J)<|A.lk J<|dcd J) (l26 b c (.inr J) (A.lk d<|dcd J) (A.lk f<|dcd J)<|A.lk J<|dcd J) λe A=> ?_;refine st A (dcd J) (l27<|A.lk d<|dcd J) λe A=>st A (dcd J) (l28 b c (A.lk d<|dcd J) (A.lk f<|dcd J) (A.lk J<|dcd J) (A.lk J<|dcd J) (A.lk J<|dcd J) j g<|A.lk J<|dcd J) λe A=> ?_;refine st A (dcd J) (l29 b c (A.lk d<|dcd J) (A.lk f<|dcd J) (A.lk J<|dcd J) (A.lk J<|dcd J) (A.lk J<|dcd J) j g<|A.lk J<|dcd J) λe A=>Yr (l30 A.1 b c (A.lk d<|dcd J) (A.lk f<|dcd J) (A.lk J<|dcd J) (A.lk J<|dcd J) (A.lk J<|dcd J) (A.lk J<|dcd J)<|A.lk J<|dcd J)<|mQ<|l31 b c m j g (A.lk f<|dcd J) (A.lk h<|dcd J) (A.lk i<|dcd J) (A.lk J<|dcd J)<|A.lk J<|dcd J
def Jk{c e:Type}{b:c->PV}{f:Env->aj PV->au (aj PV)}{g:c->aj e}{h:e->PV}{l:aj c}:∀{acc},(∀a∈l,∀acc:aj PV,acc.length<=100->f (D.set i<|U<|b a) acc=U (acc++(g a).map h))->acc.length+(l.flatMap g).length<=100-> iD (kn P m) (.v i) [] f D (l.map b) acc=U (acc++(l.flatMap g).map h):=by
 induction l with
 |nil=>intro acc _ _;exact az U (eB acc).symm
 |cons a l k=>intro acc j d;rw[O2,aW]at d;show(f (D.set i<|U<|b a) acc).bind (λacc=>iD (kn P m) (.v i) [] f D (l.map b) acc)=_;refine rP (j a (.head _) acc<|ab (bq ..) d) ?_;refine(k (λa n=>j a<|.tail _ n)<|by exact rP (aW ..) <| rP (aG ..) <| d9 0x641f921a0a1641f9210aa1 d).trans ?_;exact rP (O2 ..)<|rP (dq ..)<|rP (dS ..) J
def LZ(h:a<=b)(c:b<=1000):(oP .range [pn a,pn b]).bind itemsOf=U ((eK a<|b-a).map pn):=by
 have e:oP .range [pn a,pn b]=gL (dA (a:Z) (b:Z) 1) (PV.AN (a:Z) (b:Z) 1):=J;refine rP e<|rP (small_one (aK _) (by exact cQ 0x3e82f9111014000000000000000ff875 h c) (by exact cQ 0x1174000000000000000ff8b4 h)<|by exact du 0x3e82f9014000000000000000ff875 c) ?_;show U ((hJ (a:Z) (b:Z) 1).map PV.int)=_
 have s:De (a:Z) (b:Z) 1=b-a:=by
  delta De eP;refine rP (bM (show(1:Z)>0 by decide)) ?_;by_cases h:a=b
  ·subst h;exact rP (bA (Int.lt_irrefl _) ..) <| rP (xC ..) J
  ·exact rP (bM (by exact cQ 0x7d01011037f75 h<|by assumption) ..) <| rP (aaQ ..) <| gr 0x37c999ba37ca319bd888a9ba0231321a443626aa90c103 (by rfl) (by rfl)<|by assumption
 delta hJ;refine rP s<|rP bU<|rP List.range'_eq_map_range<|rP bU ?_;refine az U<|gz λk _=> ?_;show PV.int ((a:Z)+(k:Z)*1)=PV.int ((a+k:Y):Z);exact rP (ki ..)<|rP (d5 ..) J
def K4(a:Lk e 4<|pn n)(b:iS n):(kn P<|m+2).ex e (.bin .Mult (.lit<|.int 2)<|.var 4)=U (pn<|2*n):=by refine bC J (cf a)<|re (dcd J) ?_;exact rP (b_ ..) <| du 0x490339039803910000000000af901 b
def l21(o:D.length=55)(d:iS n)(r:Lk D 4<|pn n):(kn P<|m+20).ex D (rf 21)=U (.lst<|(rI n).map Do):=by
 have q:∀{x y},Lk (((D.set 47 x).set 48 y)) 4<|pn n:=zr (dcd J)<|zr (dcd J) r;have j:mU (kn P<|m+19) (hide [47,48] D) (.of<|.blt .range [.bin .Mult (.lit<|.int 2)<|.var 4])=U ((cj<|2*n).map pn):=src_range (K4 q d)<|du 0x424a42049033903980393e82f902c1 d;have s:(rI n).length<=100:=by rcases d with rfl|rfl|rfl<;>decide
 show((mU (kn P<|m+19) (hide [47,48] D)<|.of<|.blt .range [.bin .Mult (.lit<|.int 2)<|.var 4]).bind λc=>iD (kn P<|m+19) (.v 47) [] (eG (kn P<|m+19) (fK (kn P<|m+19)<|.tup [.var 47,.var 48]) [.mk (.v 48) (.of<|.blt .range [.var 47,.bin .Mult (.lit<|.int 2)<|.var 4]) []]) (hide [47,48] D) c []).bind (λvs=>U<|PV.lst vs)=_;rw[j];show(iD (kn P<|m+19) (.v 47) [] _ (hide [47,48] D) ((cj<|2*n).map pn) []).bind _=_;rw[Jk (l:=cj<|2*n) (acc:=[]) (g:=λa=>(eK a<|2*n-a).map λb=>(a,b)) (h:=Do) (λa k e f=> ?_) (show 0+(rI n).length<=100 from c_ s _)]
 ·rfl
 replace k:=eQ.mp k;have i:Lk ((hide [47,48] D).set 47<|U<|pn a) 47<|pn a:=zq (by rw[show(hide [47,48] D).length=55 from jE<|jE o];decide);have t:Lk ((hide [47,48] D).set 47<|U<|pn a) 4<|pn n:=zr (dcd J) q;show(((kn P<|m+19).ex ((hide [47,48] D).set 47<|U<|pn a)<|.blt .range [.var 47,.bin .Mult (.lit<|.int 2)<|.var 4]).bind itemsOf).bind (λc=>iD (kn P<|m+19) (.v 48) [] (eG (kn P<|m+19) (fK (kn P<|m+19)<|.tup [.var 47,.var 48]) []) ((hide [47,48] D).set 47<|U<|pn a) c e)=_
 have u:((kn P<|m+19).ex ((hide [47,48] D).set 47<|U<|pn a)<|.blt .range [.var 47,.bin .Mult (.lit<|.int 2)<|.var 4]).bind itemsOf=U ((eK a<|2*n-a).map pn):=by show((qV (kn P<|m+18) ((hide [47,48] D).set 47<|U<|pn a) [.var 47,.bin .Mult (.lit<|.int 2)<|.var 4]).bind λvs=>oP .range vs).bind itemsOf=_;rw[bO (cf i)<|bO (K4 t d) J,qb];exact LZ (bF k) (du 0x424a42049033903980393e82f902c1 d)
 rw[u];refine(DD (ι:=pn) (g:=λb=>Do (a,b)) (λb _=> ?_) (by rw[vH];exact gr 0x1c8c942c94ac94d0641f9014923392398239322c1a3e82f910a1 J d f)).trans (by rw[bU];rfl);refine GY (bO (cf (zr (dcd J) i)) (bO (cf (zq (by rw[dr,show(hide [47,48] D).length=55 from jE (jE o)];decide))) J))
def U_(a:k<=100):binop .Mult (.str [46]) (pn k)=U (.str<|bJ k 46):=by
 show gL (aY 1 1024&&aY (k:Z).natAbs 1024) (PV.str<|tT (k:Z) [46])=_;refine rP (b_ ..)<|rP (aP (ab a<|dcd J) ..) ?_;show U (PV.str (bJ (k:Z).toNat [46]).flatten)=_;refine rP (cM ..) ?_;refine az (λz=>U<|PV.str z) ?_;clear a;induction k with
 |zero=>rfl
 |succ k b=>exact rP (on ..) <| rP (gp ..) <| rP (b ..) J
def N5{l:aj Y}{g:Y}:countM (.lst<|l.map pn) (pn g)=U (pn (l.countP λy:Y=>decide ((y:Z)=(g:Z)))):=by show(n7<|l.map pn).bind (λl=>U<|PV.int<|l.countP λy=>decide (y=(g:Z)))=_;refine rP (show l.map pn=(l.map λk:Y=>(k:Z)).map PV.int by rw[bU];rfl)<|rP iL ?_;show U (PV.int ((List.countP _ (l.map λk:Y=>(k:Z)):Y):Z))=_;exact rP SV J
def Z8(n r:Y):aj PV:=(cj<|2*n).map λg:Y=> .str<|bJ (1+(o4<|rowAt n r).countP λy:Y=>decide ((y:Z)=(g:Z))) 46
def WC(a:iS n):(cj<|nR n).map (λr=>PV.lst<|Z8 n r)=(H9 n).map .lst:=by rcases a with rfl|rfl|rfl<;>kernel_rfl
def Qh(a:iS n):fv 6 (xd n)=ah:=by rcases a with rfl|rfl|rfl<;>kernel_rfl
def Ng(a:iS n):∀R∈jY n,(o4 R).length<=8:=by rcases a with rfl|rfl|rfl<;>decide
def Vk(d:iS n):i4 .Eq (.lst<|Dl n b a c) (.lst [])=U af:=by rcases d with rfl|rfl|rfl<;>kernel_rfl
def l24(j:D.length=55)(c:iS n)(q:Lk D 4<|pn n)(d:Lk D 15<|rl n<|lZ n)(e:Lk D 23<|xd n)(f:Lk D 24<|.lst<|Dl n k h o):((kn P<|m+20).ex D<|M_ 24).bind truth=U af:=by
 have l:=yP c
 have a:(kn P<|m+19).ex D (.cmp (.var 23) [.NotEq] [.vz (.vz (.bin .Mult (.lit<|.str [46])<|.bin .Add (.lit<|.int 1)<|.FF .count (.var 51) [.var 52]) [.mk (.v 52) (.of<|.blt .range [.bin .Mult (.lit<|.int 2)<|.var 4]) []]) [.mk (.v 51) (.of<|.var 15) []]])=U (.bool af):=by
  refine jr (m:=m+18) (cf e) (qR (m:=m+17) (i:=51) (ι:=lZ n) (l:=cj<|nR n) (g:=λr=> .lst<|Z8 n r) ?_ (λr s=> ?_)<|by exact rP fh <| ab l<|dcd J)<|by exact rP (WC c) <| ne_self<|Qh c
  ·show((kn P<|m+17).ex (hide [51] D)<|.var 15).bind itemsOf=_;exact rP (cf<|jd (dcd J) d) J
  ·have t:=Ng c _<|cP<|mO<|eQ.mp s;have u:(ent D 51<|lZ n r).length=55:=jE<|jE j;refine qR (src_range (K4 (jd (dcd J)<|jl (i:=51) (dcd J) q) c)<|du 0x424a42049033903980393e82f902c1 c) (λg _=> ?_) (by exact rP fh <| du 0x424a42049033903980393e82f902c1 c);have w:=List.countP_le_length (p:=λy:Y=>decide ((y:Z)=(g:Z))) (l:=o4<|rowAt n r);exact bC J (bC J (AD (cf<|jl (dcd J)<|qW<|du 0x30371f9030331f92 j) (bO (cf<|qW<|du 0x30371f9030341f92 u) J) N5) J)<|U_<|cQ 0x1018911641f906a1 t w
 have b:(kn P<|m+19).ex D (.cmp (.var 24) [.Eq] [.lst []])=U (.bool af):=jr (cf f) J<|Vk c;show(tF (kn P<|m+19) D .Or [_,_]).bind truth=_;refine rP (Ef a) ?_;show((kn P<|m+19).ex D<|.cmp (.var 24) [.Eq] [.lst []]).bind truth=_;exact rP b J
def ph2(a:iS n)(q:Hp x)(A:Al D F)(d:F.lookup 3=U (.lst<|hL x))(c:F.lookup 4=U (pn n))(k:F.lookup 5=U (.lst<|(jY n).map .str))(f:F.lookup 12=U (.lst<|(rT n (x 0) (x 1)<|x 2).map .str))(b:F.lookup 15=U (rl n<|lZ n))(h:F.lookup 21=ag):Run (kn L2.P 199) [] (L2.Gs.drop 15) D<|.bool ah:=by obtain⟨r,g,s⟩:∃r,r<nR n/\r=x 2%nR n:=⟨_,bP _ (by rcases a with rfl|rfl|rfl<;>decide),J⟩;have l:=yP a;obtain⟨m,i,o,t,j⟩:=Fp (aK _)<|du 0x73c32c3288acac9c9cacaf0490339039803948763876928769 a;refine st A (dcd J) ((l15<|lx A a d c k).trans<|rS s J) λe A=>st A (dcd J) (l16 a g (A.lk f<|dcd J)<|A.lk J<|dcd J) λe A=> ?_;refine XI A (dcd J) (dcd J) (Px (cf<|A.lk J<|dcd J)<|rP (aG ..) <| rP (KZ ..) <| du 0xe9013e82f9390a1 l) (l17 a<|A.lk f<|dcd J) λe A=> ?_;refine stu A (dcd J) (dcd J) (l18 a g<|A.lk J<|dcd J) (by show A5 (U<|F.lookup 21)=ah;exact rP h J) λe A=> ?_;refine stu A (dcd J) (dcd J) (l19 a<|A.lk J<|dcd J) J λe A=> ?_;refine Yr (l20 (H8 a) (K2 a g) (A.lk J<|dcd J) (A.lk J<|dcd J) (A.lk J<|dcd J) (A.lk J<|dcd J)<|A.lk J<|dcd J) ?_;refine st A (dcd J) (l21 A.1 a<|A.lk c<|dcd J) λe A=> ?_;refine Yr (l22 A.1 (lx A a d c k) g (A.lk b<|dcd J) (A.lk J<|dcd J)<|A.lk J<|dcd J) ?_;refine XI A (dcd J) (dcd J) (x_call (bO (cf<|A.lk b<|dcd J)<|bO (vM (dcd J)<|A.lk d<|dcd J) J)<|P6 a) (x_call (bO (cf<|A.lk c<|dcd J)<|bO (vM (dcd J)<|A.lk d<|dcd J) J) j) λe A=> ?_;exact Yr (l24 A.1 a (A.lk c<|dcd J) (A.lk b<|dcd J) (A.lk J<|dcd J)<|A.lk J<|dcd J)<|ph3 a q t A d c J J
def e12:rl n (λr=> .str<|y0 n x0 x1 x2 r)= .lst ((rT n x0 x1 x2).map .str):=by unfold rT;exact rP bU J
def e13:rl n (λr=> .lst<|(uN n x0 x2 r).map .str)= .lst ((uL n x0 x2).map λl=> .lst<|l.map .str):=by unfold uL;exact rP bU J
def ph1(a:iS n)(g:Hp x)(A:Al D F)(b:F.lookup 3=U (.lst<|hL x))(c:F.lookup 4=U (pn n))(d:F.lookup 5=U (.lst<|(jY n).map .str))(h:F.lookup 6=U (.lst<|(cj 6).map DJ))(f:F.lookup 21=ag):Run (kn L2.P 199) [] (L2.Gs.drop 5) D<|.bool ah:=by refine st A (dcd J) (l5<|lx A a b c d) λe A=>st A (dcd J) (l6<|lx A a b c d) λe A=> ?_;refine st A (dcd J) (l7 (lx A a b c d) (A.lk J<|dcd J)<|A.lk J<|dcd J) λe A=>st A (dcd J) (l8 (lx A a b c d)<|A.lk h<|dcd J) λe A=> ?_;refine st A (dcd J) (l9 (lx A a b c d)<|A.lk J<|dcd J) λe A=>st A (dcd J) ((l10 (lx A a b c d) (A.lk J<|dcd J) (A.lk J<|dcd J)<|A.lk J<|dcd J).trans<|az U e12) λe A=> ?_;refine st A (dcd J) ((l11 (lx A a b c d) (A.lk J<|dcd J) (A.lk J<|dcd J)<|A.lk J<|dcd J).trans<|az U e13) λe A=>st A (dcd J) (l12 A.1 a<|A.lk J<|dcd J) λe A=> ?_;exact Yr (l13 A.1 a (A.lk J<|dcd J)<|A.lk J<|dcd J)<|st A (dcd J) (l14 A.1 a<|A.lk J<|dcd J) λe A=>ph2 a g A b c d J J f
def aci:∀k,k<5->iS (2+k/2):=by unfold iS;decide
def VN{H:aj Z}(h:H.length<=63):(kn L2.P 200).ca 25 [.lst<|H.map .int]=U (.bool ah):=by
 obtain⟨E,b⟩:∃E,E=(H.take 60).map num:=⟨_,J⟩;have d:E.length<=60:=by exact rP (b ..) <| rP (aG ..) <| rP (f5 ..) <| cQ 0x7013c1f90d3c1f901 J
 have c:∀a∈E,a<1000000:=λa f=>by rw[b]at f;obtain⟨z,_,rfl⟩:=bZ.mp f;exact Vw z
 have i:=Zv d c
 have A:Al ([PV.lst<|H.map .int].map U++bJ (55-1) ag) [(0,PV.lst<|H.map .int)]:=⟨J,λj k=>by
  cases j with
  |zero=>rfl
  |succ j=>show(bJ 54 ag)[j]? =U ag;exact rP EJ<|rP (bM<|eF k) J⟩
 have g:iS<|2+xh E 0%5/2:=aci _<|bP _<|dcd J;refine kb (nv:=55) (np:=1) (ow:=[]) (body:=L2.Gs) J J<|XI (v:= .lst<|E.map pn) (u:= .lst<|ownN.map pn) A (dcd J) (dcd J) (rP b <| l0 (m:=190) h (A.lk J<|dcd J) A.1) J λe A=> ?_;refine st A (dcd J) (l1 d A.1 (A.lk J<|dcd J)<|A.lk J<|dcd J) λe A=>st A (dcd J) (l2<|A.lk J<|dcd J) λe A=> ?_;refine st A (dcd J) (x_call (bO (cf<|A.lk J<|dcd J) J)<|Y_ g) λe A=>st A (dcd J) J λe A=>ph1 g i A J J J J J
end
namespace L2
theorem ws:OpenLaw.wellSaid PySem.Challenge.rw_uy0014_02=true:=by decide+kernel
noncomputable abbrev R:=PySem.Challenge.rw_uy0014_02.row
noncomputable def as:aj aX:=3::140::141::145::146::150::151::tks.flatMap λq=>[q.1,q.1-1]
def vw:kX:=view R.prog<|(cj 40).filter λi=> !([1,9,18,23,31].contains i)
noncomputable def loose:aj a7:=["ONE_THIRD","ONE_SIXTH","TWO_THIRD","_twin_re_1","_twin_re_2","_twin_re_3"]
abbrev Hk:Hook:=kmHook K as (λ_=>by kernel_rfl) [47,54]
def left:LeftO R.prog vw loose (recOk R.records) Hk.obs Hk.val 2466:=λw=>by kernel_rfl
def dl:DefRec × aj (a7 × Expr):=(defOf vw R.name).get<|by kernel_rfl
set_option maxHeartbeats 8000000 in
set_option tactic.hygienic true in
theorem holds:PySem.Challenge.rw_uy0014_02.Holds:=by
 refine holds_law ws fun said=>W.holds_open (d:=dl.1) (kwd:=dl.2) (XP:=fun _ _=>True) left Hk.of Hk.keeps (fun _ _=>trivial) (fun _ _ _ _ _=>trivial) (by kernel_rfl) (by kernel_rfl) (by kernel_rfl) (fun s e=>recFacts_of e) (by kernel_rfl) said (by decide+kernel) ⟨J,J,J,J,J,by decide+kernel⟩ ?hw ?_;(case hw=>w_witness2);intro w s₀ s₁ mg mb G b fa' o pm cd doc dV kV ho hd hcd hD hmg hg args vals as hpre hlay hrd hwl hlo;have KX:=km_in_of b;have hT8:=km_tabs_of b;have T:=G.T
 have hT:TabsAt [(51,47),(58,54)] s₁.heap:=fun q hq=>by
  simp only[aR,a0,lH]at hq;rcases hq with rfl|rfl
  ·exact⟨codeHd_of_K KX (c1 _),hT8 47 (by decide)⟩
  ·exact⟨codeHd_of_K KX (c2 _),hT8 54 (by decide)⟩
 have hfa:fa'=220:=by
  have e:nsIn (K w.params) dB "law"=U (U (.ref 220)):=by kernel_rfl
  have h1:=mg_of KX T.g e;have h2:mg "law"=U (.ref fa'):=hmg;rw[h1]at h2;cases h2;rfl
 subst hfa;clear hD hcd hd ho hmg b;let W:=mkW (p:=_) PySem.Challenge.rw_uy0014_02.row.prog w (141,146,151) ones hT T KX (nt _)
 have st:St W s₁:=VK J hg fun q hq=>by
  simp only[ones,aR,a0,lH]at hq;rcases hq with rfl|rfl
  ·exact hT8 47 (by decide)
  ·exact hT8 54 (by decide)
 have Go:nH W N fa:=Qv (nm w.params)
 have T6:Cp W 51 47 p6 "_int2digits.<locals>.inner":=G9 (.head _) (.head _) fun q hq e=>by
  simp only[ones,aR,a0,lH]at hq;rcases hq with rfl|rfl
  ·rfl
  ·exact bI e (by decide)
 have T7:Cp W 58 54 p7 "_digits2int.<locals>.inner":=G9 (.tail _ (.head _)) (.tail _ (.head _)) fun q hq e=>by
  simp only[ones,aR,a0,lH]at hq;rcases hq with rfl|rfl
  ·exact bI e (by decide)
  ·rfl
 have E:kU W N.ea:=L2.esc (Q:=w.params) J;have M:vn W:=L2.FF (Q:=w.params) J J;have O:zA W N fa:=L2.odd (Q:=w.params) J Go;have PR:W9 W N fa P:=Qa (pi:=2) (pd:=3) J J (ks0 Go E M O 8) T6 T7 (o6 w.params) (o7 w.params);have KS:=Tx Go E M O PR (fi (W:=W) (Q:=w.params) J) 200;wrow_args hpre hlay hrd hwl hlo;rename_i ns _ _ _ _ _ _ _ a vs _ _ _ hw _ hI _ hlen _
 have hpl:s₁.heap.PlainList a vs.toArray:=by
  have hl:s₁.heap.IsList a vs.toArray:=by assumption
  cases hw with
  |list e _=>rename_i vs' _;refine pM (hl) fun o2 e2 _ q70ₓ=> ?_;obtain⟨n2,d2⟩:=q70ₓ;rw[e]at e2;obtain rfl:=sm e2;injection d2 with d2;exact⟨0,by exact d2▸e⟩
 have hl63:ns.length<=63:=du 0x73f1f96573f1f901 hlen;refine KS.ca (g:=25) (as:=[.lst (ns.map .int)]) (av:=fun _=>iY) ⟨J,by decide,by decide⟩ st (fun _ h=>h.elim) (VN hl63) (.one ?_) fun v' s' nx rv _=> ?_
 ·
  exact⟨a,vs,J,nofun,hpl,M8 hI⟩
 ·
  subst rv;refine⟨.inl ⟨_,.bool ah,[],J,fun cls=>rfl,?_,?_,fun _=>⟨Bv,nofun⟩⟩,QC J nx,nx.os,nx.st.bare⟩
  ·constructor
  ·show(WShape.has PySem.Challenge.rw_uy0014_02.row.records (.bool true) .bool&&WTm.holds _ (.eq .res (.lit (.bool true))) _)=true;rw[Bool.and_eq_true];refine⟨by kernel_rfl,?_⟩;unfold WTm.holds;have h2:same (WData.bool true) (WData.bool true)=true:=by first|kernel_rfl|decide+kernel|simp[same]
   simp only[WTm.value,h2]
end L2
end Mine.Internal
theorem PySem.Challenge.cw_uy0014_02_holds : PySem.Challenge.rw_uy0014_02.Holds :=
 Mine.Internal.L2.holds
