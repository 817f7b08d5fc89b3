import PyProof.Rows.All
import PyProof.ToksMono
import Wide.FinOn
import OpenK.AllK
import Wide.All
import Lean
import PySem.Challenge.RW_wv0019_01
set_option Elab.async false
set_option maxRecDepth 100000
set_option genSizeOf false
set_option genInjectivity false
set_option bootstrap.genMatcherCode false
set_option genCtorIdx false
set_option tactic.hygienic false
set_option linter.all false
namespace Mine.Internal
open Array renaming length_toList->bD,getElem?_eq_some_iff->gU,eq_empty_of_size_eq_zero->iE,size_extract->kF,size_append->lb,toList_append->nZ,getElem?_eq_getElem->pk,getElem?_toList->sD,toList_push->wX,toList_extract->GN,toArray_toList->GO,extract_size->ID,empty_append->IE,append_assoc->IF,toList_inj->Ms
open Bool renaming and_eq_true->az,noConfusion->bT,or_eq_true->dz,not_eq_true'->gb,and_eq_true_iff->jY,false_ne_true->kT,false_eq_true->pe,or_eq_true_iff->vL,not_eq_true->zl,true_and->DT,eq_iff_iff->P9,and_true->Ta
open Classical renaming byContradiction->zk
open Decidable renaming em->Mr
open Except renaming ok->Cs
open Exists renaming elim->S9
open False renaming elim->cw
open ForInStep renaming yield->gW
open Int renaming natAbs_natCast->aM,natCast_nonneg->aO,toNat_natCast->aZ,mul_le_mul_of_nonneg_right->bd,le_of_lt->bl,mul_comm->bO,mul_assoc->ci,fmod_eq_emod_of_nonneg->cz,natAbs_mul->cG,one_mul->cT,fdiv_eq_ediv_of_nonneg->cY,mul_ediv_add_emod->cZ,natCast_mul->da,add_mul->dw,add_zero->dO,pow_succ->dX,emod_lt_of_pos->eh,mul_le_mul_of_nonneg_left->eC,mul_add->eD,emod_nonneg->fO,mul_nonneg->f5,ne_of_gt->gN,sub_mul->gR,natAbs_pow->g0,ediv_lt_of_lt_mul->hU,ediv_nonneg->ik,zero_mul->io,pow_add->i7,ofNat_le->ji,le_refl->j0,toNat_of_nonneg->kC,mul_ediv_cancel_left->kE,zero_add->lH,lt_trichotomy->lI,compare_eq_lt->lJ,compare_eq_gt->lK,not_lt->mQ,neg_mul->nq,ofNat_lt->oN,mul_lt_mul_of_pos_right->oO,lt_of_le_of_lt->pj,fmod_nonneg_of_pos->sC,mul_sub->uj,ofNat_sub->we,sub_eq_add_neg->wU,lt_of_lt_of_le->wV,fmod_lt_of_pos->wW,mul_zero->xN,compare_eq_eq->xO,add_comm->xP,pow_pos->zV,neg_one_mul->AX,natCast_add->AY,ediv_ediv_of_nonneg->E3,pow_zero->GK,lt_trans->GL,ediv_eq_zero_of_lt->GM,add_mul_ediv_left->Id,pow_mul->IA,one_pow->IB,mul_one->IC,ofNat_dvd_left->Mp,not_le->Mq,emod_eq_of_lt->OK,add_sub_assoc->OL,natCast_emod->P0,ediv_le_self->P8,mul_ne_zero->SC,ofNat_inj->Vz
open List renaming mem_singleton->ai,getD_eq_getElem?_getD->ax,mem_cons_self->aB,not_mem_nil->aC,getElem?_eq_some_iff->aL,mem_cons_of_mem->aP,all_eq_true->aS,getElem?_eq_getElem->aT,mem_cons->aX,replicate->bk,length_append->bp,length_map->bv,append_nil->bw,mem_of_getElem?->bB,map_cons->bG,length->bH,mem_append->bY,mem_map_of_mem->b9,append_assoc->cy,getElem?_append_left->cE,mem_map->cH,nil_append->cV,drop_eq_getElem_cons->c5,length_drop->c8,length_cons->c9,getElem?_map->dc,cons_append->dA,take_of_length_le->dK,foldl_cons->dP,length_reverse->dR,range->dT,nodup_nil->ef,map->ey,mem_iff_getElem?->eF,length_replicate->eG,mem_range->eJ,mem_filter->eQ,filterMap_cons->fK,mem_singleton_self->ga,map_append->gj,getElem?_set_self->gH,getElem?_concat_length->gI,drop_eq_nil_of_le->gJ,lookup_cons->gQ,nodup_cons->h9,reverse_cons->ij,all_cons->ix,length_eq_one_iff->i6,length_set->jm,forIn_cons->jn,length_range->jL,range'->jW,getElem?_append_right->jX,length_take->j5,getElem_mem->j6,filter_cons->j7,zip_cons_cons->kR,set_cons_succ->kS,count_append->lx,getElem?_eq_none->lX,getElem?_set_ne->ng,forall_mem_cons->ni,eq_nil_of_length_eq_zero->nj,drop_drop->pd,flatMap_cons->pV,getElem?_take_of_lt->qn,mem_reverse->qV,length_nil->sB,take_zero->t6,mem_append_left->t7,forIn_nil->t8,append->t9,reverse_append->vK,take_add_one->xk,any_map->xl,all_map->xm,map_reverse->zi,any_eq_true->zj,foldl_nil->Cb,filterMap->Cc,mem_of_find?_eq_some->Co,getLast?_eq_getElem?->Cp,getElem?_eq_none_iff->Cq,extract_eq_take_drop->Cr,filterMap_cons_some->DQ,filterMap_cons_none->DR,eq_of_mem_replicate->DS,map_nil->E2,set_append_right->GH,mem_append_right->GJ,reverse_reverse->Ic,replicate_succ->Iw,getD_cons_zero->Ix,flatMap_append->Iy,append_toArray->Iz,set_cons_zero->L4,map_replicate->L5,length_zipIdx->L6,getElem_range->L7,getElem?_drop->L8,foldl_toArray->L9,size_toArray->Ml,foldl_append->Mm,any_eq_false->Mo,zipIdx_cons->OH,range'_succ->OI,mem_flatMap->OJ,find?_some->PY,count_cons->PZ,drop_zero->SA,map_set->Vx,map_map->Vy,lookup->Wg,foldl->YB,take->Zf,cons->Zg
open List.Mem renaming tail->tE,head->tF
open List.Pairwise renaming imp_of_mem->Wh
open Nat renaming lt_of_lt_of_le->am,le_trans->ar,lt_irrefl->ay,le_refl->aD,le_succ->bx,mul_le_mul_right->bC,lt_of_le_of_lt->bL,le_of_lt->b8,zero_add->cq,two_pow_pos->cW,pow_add->du,le_succ_of_le->dE,pow_le_pow_right->dI,le_of_eq->dN,lt_succ_self->dQ,ne_of_lt->dW,zero_le->eB,one_mul->fN,mul_le_mul_left->gw,lt_or_ge->gM,mul_assoc->gP,le_add_right->gT,mod_lt->gZ,mul_le_mul->iN,not_lt->je,mul_comm->jg,lt_trans->jh,lt_succ_of_lt->jO,add_sub_assoc->jP,beq->m8,add_assoc->m9,not_le->pi,le_of_mul_le_mul_left->pU,lt_trichotomy->qk,add_mul->ql,sub_zero->sA,mod_add_mod->sN,le_antisymm->sO,div_add_mod->sP,pow_lt_pow_right->uf,mul_pos->ug,log2_lt->uh,le_zero->ui,zero_mul->xL,ne_of_gt->xM,succ_ne_self->zu,succ_le_succ->zv,lt_of_not_le->zw,le_of_not_lt->zx,mul_one->zT,mul_add->zU,mul_eq_zero->AW,mul_lt_mul_of_pos_right->Ca,mul_lt_mul_of_pos_left->Ck,add_le_add->Cm,sub_self->GG,div_lt_of_lt_mul->Iv,add_sub_cancel->Mk,rec->OF,add_mod_right->OG,zero_lt_succ->PU,mod_eq_of_lt->PV,min_le_right->PW,lt_log2_self->PX,min_eq_left->Sy,div_le_self->Sz,dvd_trans->Vw,dvd_refl->Wd,ble->We,add_comm->Wf
open Nat.succ renaming inj->fE
open Option renaming bind_eq_some_iff->cg,map_eq_some_iff->dH,map_some->hV,isSome_iff_exists->ig,some_ne_none->np,getD_some->xj,isNone_iff_eq_none->AV,toList->B9,map->Ib,getD_none->L3
open Option.some renaming inj->aN
open Ordering renaming lt->bz,eq->ep
open PyProof renaming noPylong_of_log2->AU
open PyProof.Rows renaming AllBare->pT,ints_get->GD,bitXor_and->GF,subscriptTail->Iu,call_cells->S8,IntsAre->Vv,foldl_rep->Wc,neg_int->Yp,ne_if->Yq,ne_fi->Yr,lt_int->Ys,len_str->Yt,le_int->Yu,gt_int->Yv,getItem_tuple->Yw,eq_if->Yx,eq_fi->Yy,divmod_int->Yz,callWith_type->YA
open PySem renaming mainGlobals->bX,mem_of_lookup->b7,wpAny_with_toks->dh,seg_bind_wrap->dt,callEnvC->dF,wpAny_holding->dV,wpAny_standAt->er,seg_execs_cons->fQ,intBits_le_iff->gn,NameKind->gp,builtinsNs->gL,arm_eval_Call_Name'->gS,builtinLookup_eq_fast->ie,FuncData->iD,execs_cons->iK,Operator->jU,sliceBounds->kA,NoneBooked->kB,cellsFrom->kD,seg_execs_nil->la,typeLookup_type->lw,wpAny_of_eq->lU,seqIndex?->lV,Program->mx,recursionLimit->mN,bootBuiltins->mO,wpAny_items_cons->n0,call_meets->n3,codeAmong->qj,wpAny_truthy_bool->se,wpAny_isNot_plain->sf,wpAny_Assign_Name->sh,entryFor_of_tree->tB,wpAny_rule->ud,wpAny_items_nil->vG,theTreesLotGoes->vH,wpAny_runValue->wN,wpAny_is_plain->wO,strIterType->wP,starEach->wQ,interactive->wR,storeName->xf,TriplesOk->xg,wpAny_pyIter_tuple->zn,wpAny_mono->zo,wpAny_Constant_int->zp,wpAny_newObj_type->AK,wpAny_assign_Name->AL,codeAny->AM,binaryOp->AN,Arguments->Cj,wpAny_seqItems->Gs,wpAny_newFunctionEnv_cells->Gu,typeLookup->Gv,splitAtGen->Gw,sizeLine->Gx,qualnameIn->Gy,isSubtype_type->Gz,PlainAttrs->GB,GenState->GC,wpAny_sharingNotTold_none->HV,wpAny_mkBytes->Ik,wpAny_assignInOrder_more->Il,swappedStores->Im,signature?_of->Io,foldedForSure->Ip,noteFrame->LZ,compareOp->L0,getItem->Mg,argBest->Mh,BindsTo->Mj,codeAny_call_function->OC,wpAny_newFunctionEnv->PK,unpackItems->PL,sizeLine_eq->PM,entryFor->PN,codeAny_call_builtin->PO,wpAny_Constant_bool->Su,codeAny_forLoop_any->Sv,builtinType_eq_fast->Sw,wpAny_List->S0,typeIs_str->S1,typeIs_int->S2,sliceRange->S3,closureFor->S4,wpAny_pyIter_list->Vj,wpAny_pyIter_enum->Vk,wpAny_Return_some->Vl,spliced->Vm,slot_list_getitem->Vn,forTurn->Vo,foldedSetIterable->Vp,exec_If->Vq,UnaryOp->Vs,wpAny_ite->VZ,swapsWith->V0,join_loop->V1,wpAny_specialOf->X7,wpAny_operating->X8,wpAny_ite_split->X9,wpAny_execs_nil->Ya,letOwnedTupleGo->Yb,codeAny_builtin->Yc,wpAny_Expr_any->Y4,truthOfDropped->Y5,seg_wrap->Y6,firstArgMember->Y7,evalArgs->Y8,bindArgs->Y9,IntMulOk->Zc
open PySem.Around renaming under_plainId->E1
open PySem.AutoFloatOps renaming eq_0->Ci,truediv_1->Yg,sub_0->Yh,ne_0->Yi,mul_fi_1->Yj,mul_0->Yk,mod_1->Yl,lt_0->Ym,le_0->Yn,add_0->Yo
open PySem.AutoIntOps renaming add_0->E0
open PySem.BindsTo renaming of_eq->OE
open PySem.Builtin renaming bitAnd->jK,bitXor->n7,bitOr->ph
open PySem.Builtin.Bytes renaming joined->pR,takeBufferQuiet?->tD,occurrences->wd,joinLetGo->xi,tooLong->zg,buffer?->zh,countM->zt,takeBuffer?->V7,searchArgs->V8,joinM->V9,joinItems->Wa,fullReadOnly->Wb
open PySem.Builtin.Bytes.Kind renaming bytes->i5
open PySem.Builtin.Bytes.joinM renaming match_1->DW
open PySem.Builtin.Generator renaming genWake->t5
open PySem.Builtin.Int renaming intBits->aI,intTooBig->Ze
open PySem.Builtin.List renaming listTooLong->xh,listFitsIndex->Yf
open PySem.Builtin.Range renaming small->V5,rangeSize->V6
open PySem.Builtin.Re renaming reSlice->sL,reLiteralCannotBeTurned->sM,reNoCollectionInside->ue,reWholeTarget->zf,reNextFound->zS,reRunToEnd->AS,reRawItems->AT,reTextOf->Cg,ReTarget->Ch,reDrive->DP
open PySem.Builtin.Str renaming glued->fX,tooLong->Zd
open PySem.Calls renaming Name_function_global->oM,callWith_function->sj,loadGlobal_global->AR,callWith_builtin->V4
open PySem.Challenge renaming pw_wv0019_01->kW,rw_wv0019_01->S7
open PySem.Code renaming builtin->Vu
open PySem.Data renaming seq->Ia
open PySem.Env renaming kindOf->mP
open PySem.Expr renaming Name->ze,Tuple->Ye
open PySem.Float64 renaming cmp->be,mul->bn,ofInt->cB,add->cJ,nearestOf->cS,div->d8,fmod->eg,isFinite->fr,isZero->fG,sub->gv,isInf->h0,zero->iM,V->i4,cmpInt->kV,val_natAbs->n4,val_eq->n5,dist_mul->pQ,ofFrac->sz,decode_pack->tC,shift->t3,isNaN->t4,val_pack->wT,lt->zq,divmod->zs,ofBin->AQ,ofFrac_right->DV,shift_pos->HX,shift_one->HY,div_right->HZ,decode_ge->H0,cmp_right->H8,add_right->H9,copysign->It,neg_val->L2,V_zero->Mi,V_lt->PT
open PySem.Flt renaming toInt->iL
open PySem.Frame renaming guarded->vJ
open PySem.GenOnly renaming setGen->sy
open PySem.Heap renaming get?_push_of_some->aQ,get?_push_size->bg,size_push->bE,lt_size->bF,SameBut->gG,get?_update_self->sJ
open PySem.Heap.SameBut renaming update->qU,refl->Cf
open PySem.IntMulOk renaming of_le->jJ,of_left->pO
open PySem.NameKind renaming free->db,cell->iZ
open PySem.Obj renaming mapSeq->pg
open PySem.PyData renaming int->HW,list->S6
open PySem.Sem renaming onRaise_eq_wrap->vN,bind_eq_wrap'->OD,wrap_wrap->Vt
open PySem.SeqAt.RcAt renaming lists_lengths->L1,lists->Yd
open PySem.SeqAt.RcNeAt renaming lists_lengths->EZ,lists->Sx
open PySem.Shared renaming setGen->PS
open PySem.Sre renaming Frame->d6,Seen->jo,M->Ir
open PySem.Str renaming isSurrogate->kQ,utf8Of->Ce,ofString->V3,length->Zb
open PySem.Txt renaming slice->vI,contains->xK
open PySem.Value renaming float->jT,str->oh,none->qW,int->t2,ref->xJ,bytes->zd,bool->AP
open PySem.W renaming kbt_pos->d9,kbt_cast->fI,hideAll_get->wS,typeIs_bytes->AO,codeRec_of->GA,kp_binds->PP,kbt_mask->PQ,ghost_ns->PR,kbt_unique->S5,ints_set->Za
open PySem.Walks renaming tuple->Vr,list->V2
open PySem.WalksT renaming enumerateD->Iq
open Std.Legacy.Range renaming forIn_eq_forIn_range'->pb,size->wM
namespace Zq
theorem ks {a:Type}{P:List a->Prop}{n:Nat} (f:∀x l,l.length=n->P (x::l)):∀l,l.length=n+1->P l
 | x::l,h=>f x l (fE h)
theorem k3 {d:Type}{P:List d->Prop}{n:Nat} (f:∀a b c l,l.length=n->P (a::b::c::l)) (l:List d) (h:l.length=n+3):P l:=
 ks (P:=P) (λa=>ks (P:=λl=>P (a::l)) λb=>ks (P:=λl=>P (a::b::l)) λc=>f a b c) l h
@[elab_as_elim] theorem PE {e:Type}{motive:List e->Prop} (l:List e) (h:l.length=4) (f:∀a b c d,motive [a,b,c,d]):motive l:=
 k3 (P:=motive) (λa b c=>ks (P:=λl=>motive (a::b::c::l)) λd l h=>(nj h)▸f a b c d) l h
@[elab_as_elim] theorem Sl {p:Type}{motive:List p->Prop} (l:List p) (h:l.length=12) (f:∀a b c d e g i j k m n o,motive [a,b,c,d,e,g,i,j,k,m,n,o]):motive l:=
 k3 (P:=motive) (λa b c=>k3 (P:=λl=>motive (a::b::c::l)) λd e g=>k3 (P:=λl=>motive (a::b::c::d::e::g::l)) λi j k=>k3 (P:=λl=>motive (a::b::c::d::e::g::i::j::k::l)) λm n o l h=>(nj h)▸f a b c d e g i j k m n o) l h
theorem DH {e:Type}{l:List e} (h:l.length=4):∃a b c d,l=[a,b,c,d]:=PE (motive:=λl=>∃a b c d,l=[a,b,c,d]) l h λa b c d=>⟨a,b,c,d,rfl⟩
theorem Sk {b:Type}{a:b}{G:Prop} (h:some a=none):G:=nomatch h
theorem bN {b:Type}{a:b}{G:Prop} (h:none=some a):G:=nomatch h
theorem dk {G:Prop} (h:false=true):G:=nomatch h
theorem dS {G:Prop} (h:true=false):G:=nomatch h
@[elab_as_elim] theorem ae {c:Sort u}{a b:c}{motive:c->Prop} (e:a=b) (h:motive b):motive a:=e▸h
@[elab_as_elim] theorem bQ {c:Sort u}{a b:c}{motive:c->Prop} (e:a=b) (h:motive a):motive b:=e▸h
theorem ah.{u0}{a:Sort u0}{c:a->Prop}{G:Prop} (h:(∃b,c b)) (k:∀b:a,c b->G):G:=h.elim λe d=>k e d
theorem af {a:Prop}{b:Prop}{G:Prop} (h:(a/\b)) (k:a->b->G):G:=k h.1 h.2
theorem aG.{u0,u1}{a:Sort u0}{b:Sort u1}{e:a->b->Prop}{G:Prop} (h:(∃c,(∃d,e c d))) (k:∀c:a,∀d:b,e c d->G):G:=h.elim λi f=>f.elim λj g=>k i j g
theorem bj.{u0,u1,u2}{a:Sort u0}{b:Sort u1}{c:Sort u2}{g:a->b->c->Prop}{G:Prop} (h:(∃d,(∃e,(∃f,g d e f)))) (k:∀d:a,∀e:b,∀f:c,g d e f->G):G:=h.elim λm i=>i.elim λn j=>j.elim λo l=>k m n o l
theorem pH {a:Prop}{b:Prop}{c:Prop}{G:Prop} (h:((a/\b)/\c)) (k:a->b->c->G):G:=k h.1.1 h.1.2 h.2
theorem aA {a:Prop}{b:Prop}{c:Prop}{G:Prop} (h:(a/\(b/\c))) (k:a->b->c->G):G:=k h.1 h.2.1 h.2.2
theorem gu.{u0,u1,u2,u3}{a:Sort u0}{b:Sort u1}{c:Sort u2}{d:Sort u3}{j:a->b->c->d->Prop}{G:Prop} (h:(∃e,(∃f,(∃g,(∃i,j e f g i))))) (k:∀e:a,∀f:b,∀g:c,∀i:d,j e f g i->G):G:=h.elim λp l=>l.elim λq m=>m.elim λr n=>n.elim λs o=>k p q r s o
theorem lS {a:Prop}{b:Prop}{c:Prop}{P3:Prop}{G:Prop} (h:(((a/\b)/\c)/\P3)) (k:a->b->c->P3->G):G:=k h.1.1.1 h.1.1.2 h.1.2 h.2
theorem cu {a:Prop}{b:Prop}{c:Prop}{P3:Prop}{G:Prop} (h:(a/\(b/\(c/\P3)))) (k:a->b->c->P3->G):G:=k h.1 h.2.1 h.2.2.1 h.2.2.2
theorem zQ {a:Prop}{b:Prop}{c:Prop}{P3:Prop}{d:Prop}{G:Prop} (h:((((a/\b)/\c)/\P3)/\d)) (k:a->b->c->P3->d->G):G:=k h.1.1.1.1 h.1.1.1.2 h.1.1.2 h.1.2 h.2
theorem bh {a:Prop}{b:Prop}{c:Prop}{P3:Prop}{d:Prop}{G:Prop} (h:(a/\(b/\(c/\(P3/\d))))) (k:a->b->c->P3->d->G):G:=k h.1 h.2.1 h.2.2.1 h.2.2.2.1 h.2.2.2.2
theorem o8.{u0,u1,u2,u3,u4,u5,u6,u7}{a:Sort u0}{b:Sort u1}{c:Sort u2}{d:Sort u3}{e:Sort u4}{f:Sort u5}{g:Sort u6}{i:Sort u7}{r:a->b->c->d->e->f->g->i->Prop}{G:Prop} (h:(∃j,(∃l,(∃m,(∃n,(∃DH,(∃o,(∃p,(∃q,r j l m n DH o p q))))))))) (k:∀j:a,∀l:b,∀m:c,∀n:d,∀DH:e,∀o:f,∀p:g,∀q:i,r j l m n DH o p q->G):G:=h.elim λA s=>s.elim λB t=>t.elim λC u=>u.elim λD v=>v.elim λE w=>w.elim λF x=>x.elim λH y=>y.elim λI z=>k A B C D E F H I z
theorem qO {a:Prop}{b:Prop}{c:Prop}{P3:Prop}{d:Prop}{e:Prop}{G:Prop} (h:(((((a/\b)/\c)/\P3)/\d)/\e)) (k:a->b->c->P3->d->e->G):G:=k h.1.1.1.1.1 h.1.1.1.1.2 h.1.1.1.2 h.1.1.2 h.1.2 h.2
theorem d7 {a:Prop}{b:Prop}{c:Prop}{P3:Prop}{d:Prop}{e:Prop}{G:Prop} (h:(a/\(b/\(c/\(P3/\(d/\e)))))) (k:a->b->c->P3->d->e->G):G:=k h.1 h.2.1 h.2.2.1 h.2.2.2.1 h.2.2.2.2.1 h.2.2.2.2.2
theorem f0 {a:Prop}{b:Prop}{c:Prop}{P3:Prop}{d:Prop}{e:Prop}{f:Prop}{G:Prop} (h:((((((a/\b)/\c)/\P3)/\d)/\e)/\f)) (k:a->b->c->P3->d->e->f->G):G:=k h.1.1.1.1.1.1 h.1.1.1.1.1.2 h.1.1.1.1.2 h.1.1.1.2 h.1.1.2 h.1.2 h.2
theorem fZ {a:Prop}{b:Prop}{c:Prop}{P3:Prop}{d:Prop}{e:Prop}{f:Prop}{G:Prop} (h:(a/\(b/\(c/\(P3/\(d/\(e/\f))))))) (k:a->b->c->P3->d->e->f->G):G:=k h.1 h.2.1 h.2.2.1 h.2.2.2.1 h.2.2.2.2.1 h.2.2.2.2.2.1 h.2.2.2.2.2.2
theorem f8 {a:Prop}{b:Prop}{c:Prop}{P3:Prop}{d:Prop}{e:Prop}{f:Prop}{g:Prop}{G:Prop} (h:(((((((a/\b)/\c)/\P3)/\d)/\e)/\f)/\g)) (k:a->b->c->P3->d->e->f->g->G):G:=k h.1.1.1.1.1.1.1 h.1.1.1.1.1.1.2 h.1.1.1.1.1.2 h.1.1.1.1.2 h.1.1.1.2 h.1.1.2 h.1.2 h.2
theorem mL {a:Prop}{b:Prop}{c:Prop}{P3:Prop}{d:Prop}{e:Prop}{f:Prop}{g:Prop}{G:Prop} (h:(a/\(b/\(c/\(P3/\(d/\(e/\(f/\g)))))))) (k:a->b->c->P3->d->e->f->g->G):G:=k h.1 h.2.1 h.2.2.1 h.2.2.2.1 h.2.2.2.2.1 h.2.2.2.2.2.1 h.2.2.2.2.2.2.1 h.2.2.2.2.2.2.2
theorem qS {a:Prop}{b:Prop}{c:Prop}{P3:Prop}{d:Prop}{e:Prop}{f:Prop}{g:Prop}{i:Prop}{G:Prop} (h:((((((((a/\b)/\c)/\P3)/\d)/\e)/\f)/\g)/\i)) (k:a->b->c->P3->d->e->f->g->i->G):G:=k h.1.1.1.1.1.1.1.1 h.1.1.1.1.1.1.1.2 h.1.1.1.1.1.1.2 h.1.1.1.1.1.2 h.1.1.1.1.2 h.1.1.1.2 h.1.1.2 h.1.2 h.2
inductive Tn where
 | v (k:Nat) | l (k:Nat) | a (s t:Tn) | m (k:Nat) (t:Tn) | w (t:Tn) (k:Nat)
inductive Ti where
 | v (k:Nat) | l (k:Int) | a (s t:Ti) | s (s t:Ti) | m (k:Int) (t:Ti) | w (t:Ti) (k:Int) | g (t:Ti) | c (t:Tn)
inductive Pr where
 | le (s t:Tn) | lt (s t:Tn) | eq (s t:Tn) | Le (s t:Ti) | Lt (s t:Ti) | Eq (s t:Ti)
 | no (p:Pr) | an (p q:Pr) | o (p q:Pr) | i (p q:Pr) | fa
 | md (q x a:Tn) (k:Nat) | Md (q x a:Ti) (k:Int) | dv (q a:Tn) (k:Nat) | Dv (q a:Ti) (k:Int) | sb (x a b:Tn) | na (x:Tn) (t:Ti) | nb (x:Tn) (t:Ti) | tn (x:Tn) (t:Ti) | mn (x a b:Tn) | Mn (x a b:Ti)
noncomputable abbrev nh {a:Type} (d:a):List a->Nat->a
 | [],_=>d
 | x::_,0=>x
 | _::l,k+1=>nh d l k
noncomputable abbrev dn (n:List Nat):Tn->Nat
 | .v k=>nh 0 n k
 | .l k=>k
 | .a s t=>dn n s+dn n t
 | .m k t=>k*dn n t
 | .w t k=>dn n t*k
noncomputable abbrev di (n:List Nat) (i:List Int):Ti->Int
 | .v k=>nh 0 i k
 | .l k=>k
 | .a s t=>di n i s+di n i t
 | .s s t=>di n i s - di n i t
 | .m k t=>k*di n i t
 | .w t k=>di n i t*k
 | .g t=>- di n i t
 | .c t=>(dn n t:Int)
noncomputable abbrev dp (n:List Nat) (i:List Int):Pr->Prop
 | .le s t=>dn n s<=dn n t
 | .lt s t=>dn n s < dn n t
 | .eq s t=>dn n s=dn n t
 | .Le s t=>di n i s<=di n i t
 | .Lt s t=>di n i s < di n i t
 | .Eq s t=>di n i s=di n i t
 | .no p=>¬dp n i p
 | .an p q=>dp n i p/\dp n i q
 | .o p q=>dp n i p\/dp n i q
 | .i p q=>dp n i p->dp n i q
 | .fa=>False
 | .md q x a k=>dn n q=dn n a / k/\dn n x=dn n a%k
 | .Md q x a k=>di n i q=di n i a / k/\di n i x=di n i a%k
 | .dv q a k=>dn n q=dn n a / k
 | .Dv q a k=>di n i q=di n i a / k
 | .sb x a b=>dn n x=dn n a - dn n b
 | .na x t=>dn n x=(di n i t).natAbs
 | .nb x t=>dn n x=(di n i t).natAbs
 | .tn x t=>dn n x=(di n i t).toNat
 | .mn x a b=>dn n x=min (dn n a) (dn n b)
 | .Mn x a b=>di n i x=min (di n i a) (di n i b)
abbrev Fo:=Int×List Int
noncomputable def dot:List Int->(Nat->Int)->Int
 | [],_=>0
 | c::l,f=>c*f 0+dot l (λj=>f (j+1))
noncomputable def va (f:Nat->Int) (p:Fo):Int:=p.1+dot p.2 f
noncomputable def ad:List Int->List Int->List Int
 | [],m=>m
 | a::l,m=>(a+m.headD 0)::ad l m.tail
noncomputable def sc (c:Int):List Int->List Int
 | []=>[]
 | a::l=>c*a::sc c l
noncomputable def un:Nat->List Int
 | 0=>[1]
 | k+1=>0::un k
noncomputable def cb (a:Int) (p:Fo) (b:Int) (q:Fo):Fo:=(a*p.1+b*q.1,ad (sc a p.2) (sc b q.2))
noncomputable def ln:Tn->Fo
 | .v k=>(0,un (2*k))
 | .l k=>(k,[])
 | .a s t=>cb 1 (ln s) 1 (ln t)
 | .m k t=>cb k (ln t) 0 (0,[])
 | .w t k=>cb k (ln t) 0 (0,[])
noncomputable def li:Ti->Fo
 | .v k=>(0,un (2*k+1))
 | .l k=>(k,[])
 | .a s t=>cb 1 (li s) 1 (li t)
 | .s s t=>cb 1 (li s) (-1) (li t)
 | .m k t=>cb k (li t) 0 (0,[])
 | .w t k=>cb k (li t) 0 (0,[])
 | .g t=>cb (-1) (li t) 0 (0,[])
 | .c t=>ln t
abbrev Cn:=Bool×Fo
def ho (f:Nat->Int) (c:Cn):Prop:=bif c.1 then va f c.2=0 else 0<=va f c.2
noncomputable def ge (p q:Fo) (k:Int):Cn:=(false,((cb 1 p (-1) q).1 - k,(cb 1 p (-1) q).2))
noncomputable def eu (p q:Fo):Cn:=(true,cb 1 p (-1) q)
noncomputable def cr:List (List Cn)->List (List Cn)->List (List Cn)
 | [],_=>[]
 | c::l,m=>m.map (c++·)++cr l m
noncomputable def zr:Fo:=(0,[])
noncomputable def md (q x a:Fo) (k:Int):List (List Cn):=
 bif decide (0 < k) then [[eu a (cb k q 1 x),ge x zr 0,ge (k,[]) x 1]] else [[]]
noncomputable def dq (q a:Fo) (k:Int):List (List Cn):=
 bif decide (0 < k) then [[ge a (cb k q 0 zr) 0,ge (cb k q 1 (k,[])) a 1]] else [[]]
noncomputable def fc:Pr->List (List Cn)×List (List Cn)
 | .le s t=>([[ge (ln t) (ln s) 0]],[[ge (ln s) (ln t) 1]])
 | .lt s t=>([[ge (ln t) (ln s) 1]],[[ge (ln s) (ln t) 0]])
 | .eq s t=>([[eu (ln s) (ln t)]],[[ge (ln s) (ln t) 1],[ge (ln t) (ln s) 1]])
 | .Le s t=>([[ge (li t) (li s) 0]],[[ge (li s) (li t) 1]])
 | .Lt s t=>([[ge (li t) (li s) 1]],[[ge (li s) (li t) 0]])
 | .Eq s t=>([[eu (li s) (li t)]],[[ge (li s) (li t) 1],[ge (li t) (li s) 1]])
 | .no p=>((fc p).2,(fc p).1)
 | .an p q=>(cr (fc p).1 (fc q).1,(fc p).2++(fc q).2)
 | .o p q=>((fc p).1++(fc q).1,cr (fc p).2 (fc q).2)
 | .i p q=>((fc p).2++(fc q).1,cr (fc p).1 (fc q).2)
 | .fa=>([],[[]])
 | .md q x a k=>(md (ln q) (ln x) (ln a) k,[[]])
 | .Md q x a k=>(md (li q) (li x) (li a) k,[[]])
 | .dv q a k=>(dq (ln q) (ln a) k,[[]])
 | .Dv q a k=>(dq (li q) (li a) k,[[]])
 | .sb x a b=>([[ge (ln b) (ln a) 0,eu (ln x) zr],[ge (ln a) (ln b) 1,eu (ln x) (cb 1 (ln a) (-1) (ln b))]],[[]])
 | .na x t=>([[ge (li t) zr 0,eu (ln x) (li t)],[ge zr (li t) 1,eu (ln x) (cb (-1) (li t) 0 zr)]],[[]])
 | .nb x t=>([[ge (ln x) (li t) 0,ge (cb 1 (ln x) 1 (li t)) zr 0]],[[]])
 | .tn x t=>([[ge (li t) zr 0,eu (ln x) (li t)],[ge zr (li t) 1,eu (ln x) zr]],[[]])
 | .mn x a b=>([[ge (ln b) (ln a) 0,eu (ln x) (ln a)],[ge (ln a) (ln b) 1,eu (ln x) (ln b)]],[[]])
 | .Mn x a b=>([[ge (li b) (li a) 0,eu (li x) (li a)],[ge (li a) (li b) 1,eu (li x) (li b)]],[[]])
noncomputable def gd:List Int->Nat
 | []=>0
 | c::l=>Nat.gcd c.natAbs (gd l)
noncomputable def dv (g:Int):List Int->List Int
 | []=>[]
 | a::l=>a / g::dv g l
noncomputable def tg (c:Cn):Cn:=bif c.1 then c else bif We 2 (gd c.2.2) then (false,(c.2.1 / (gd c.2.2:Int),dv (gd c.2.2:Int) c.2.2)) else c
noncomputable def bad (c:Cn):Bool:=bif c.1 then !(m8 (c.2.1.natAbs%gd c.2.2) 0) else (m8 (gd c.2.2) 0 && decide (c.2.1 < 0))
noncomputable def hd (c:Cn):Int:=c.2.2.headD 0
noncomputable def cm (b:Bool) (x:Int) (c:Cn) (y:Int) (e:Cn):Cn:=(b,(x*c.2.1+y*e.2.1,ad (sc x c.2.2.tail) (sc y e.2.2.tail)))
noncomputable def pv (a:List Cn):Option Cn:=
 match a.find? (λc=>c.1 && m8 (hd c).natAbs 1) with
 | some c=>some c
 | none=>a.find? (λc=>c.1 && !(m8 (hd c).natAbs 0))
noncomputable def dr (c:Cn):Cn:=(c.1,(c.2.1,c.2.2.tail))
noncomputable def eq1 (e c:Cn):Cn:=bif decide (hd c=0) then dr c else cm c.1 ((hd e).natAbs:Int) c (- ((hd e).sign*hd c)) e
noncomputable def el (a:List Cn):List Cn:=
 match pv a with
 | some e=>a.map (eq1 e)
 | none=>(a.filter (λc=>decide (hd c=0))).map dr++
  (a.filter (λc=>decide (0 < hd c))).flatMap (λp=>(a.filter (λc=>decide (hd c < 0))).map (λq=>cm false (- hd q) p (hd p) q))
noncomputable def us:Nat->List Cn->Bool
 | 0,a=>a.any bad
 | k+1,a=>(a.map tg).any bad || us k (el ((a.map tg).filter λc=>!(m8 (gd c.2.2) 0)))
noncomputable def pn (d:List (List Cn)) (a:List Cn):Bool:=bif d.tail.isEmpty then false else us 24 a
noncomputable def rf:List (List (List Cn))->List Cn->Bool
 | [],a=>us 24 a
 | d::b,a=>pn d a || d.all (λc=>rf b (c++a))
noncomputable def nn:Nat->List Cn
 | 0=>[]
 | k+1=>(false,(0,un (2*k)))::nn k
abbrev En:=Nat×List Pr×Pr
noncomputable abbrev hy (e:En) (k:Nat):Pr:=nh (.i .fa .fa) e.2.1 k
noncomputable def hs (e:En):Nat->List (List (List Cn))
 | 0=>[]
 | k+1=>(fc (hy e k)).1::hs e k
noncomputable def so (l:List (List (List Cn))):List (List (List Cn)):=l.filter (λd=>d.tail.isEmpty)++l.filter (λd=>!d.tail.isEmpty)
noncomputable def ck (m:Nat) (e:En):Bool:=rf (so (hs e m++[(fc e.2.2).2])) (nn e.1)
noncomputable abbrev en (t:List En) (j:Nat):En:=nh (0,[],.i .fa .fa) t j
noncomputable def up (f:Nat->Int):Nat->Int:=λj=>f (j+1)
theorem Lc:∀(l m:List Int) (f:Nat->Int),dot (ad l m) f=dot l f+dot m f:=by
 intro l
 induction l with
 | nil=>intro m f;exact (lH _).symm
 | cons a l c=>
  intro m f
  cases m with
  | nil=>show (a+0)*f 0+dot (ad l []) (up f)=a*f 0+dot l (up f)+0;rw [c,dO,dO];show _+(_+0)=_;rw [dO]
  | cons b m=>
   show (a+b)*f 0+dot (ad l m) (up f)=a*f 0+dot l (up f)+(b*f 0+dot m (up f))
   rw [c,dw];ac_rfl
theorem BX:∀(c:Int) (l:List Int) (f:Nat->Int),dot (sc c l) f=c*dot l f:=by
 intro c l
 induction l with
 | nil=>intro f;exact (xN c).symm
 | cons a l b=>intro f;show c*a*f 0+dot (sc c l) (up f)=c*(a*f 0+dot l (up f));rw [b,eD,ci]
theorem EM:∀(k:Nat) (f:Nat->Int),dot (un k) f=f k:=by
 intro k
 induction k with
 | zero=>intro f;show 1*f 0+0=f 0;rw [cT,dO]
 | succ k a=>intro f;show 0*f 0+dot (un k) (up f)=f (k+1);rw [a,io,lH];rfl
theorem CA (f:Nat->Int) (a:Int) (p:Fo) (b:Int) (q:Fo):va f (cb a p b q)=a*va f p+b*va f q:=by
 show a*p.1+b*q.1+dot (ad (sc a p.2) (sc b q.2)) f=a*(p.1+dot p.2 f)+b*(q.1+dot q.2 f)
 rw [Lc,BX,BX,eD,eD];ac_rfl
noncomputable def fv (n:List Nat) (i:List Int):Nat->Int:=λj=>bif m8 (j%2) 0 then ((nh 0 n (j / 2):Nat):Int) else nh 0 i (j / 2)
theorem UE (n:List Nat) (i:List Int) (k:Nat):fv n i (2*k)=((nh 0 n k:Nat):Int):=by
 unfold fv;rw [Nat.mul_mod_right,Nat.mul_div_cancel_left k (by decide)];rfl
theorem W8 (n:List Nat) (i:List Int) (k:Nat):fv n i (2*k+1)=nh 0 i k:=by
 unfold fv;rw [Nat.mul_add_mod,Nat.mul_add_div (by decide)];rfl
theorem xT (f:Nat->Int) (a:Int) (p:Fo):va f (cb a p 0 (0,[]))=a*va f p:=by rw [CA,io,dO]
theorem IH (f:Nat->Int) (p q:Fo):va f (cb 1 p 1 q)=va f p+va f q:=by rw [CA,cT,cT]
theorem E6 (f:Nat->Int) (p q:Fo):va f (cb 1 p (-1) q)=va f p - va f q:=by rw [CA,cT,AX,wU]
theorem IG (f:Nat->Int) (k:Int):va f (k,[])=k:=dO k
theorem Pf (n:List Nat) (i:List Int) (t:Tn):va (fv n i) (ln t)=(dn n t:Int):=by
 induction t with
 | v k=>exact (lH _).trans ((EM _ _).trans (UE n i k))
 | l k=>exact IG _ _
 | a s t b c=>exact (IH _ _ _).trans (b▸c▸rfl)
 | m k t h=>exact (xT _ _ _).trans (h▸rfl)
 | w t k h=>exact (xT _ _ _).trans (h▸bO _ _)
theorem Un (n:List Nat) (i:List Int) (t:Ti):va (fv n i) (li t)=di n i t:=by
 induction t with
 | v k=>exact (lH _).trans ((EM _ _).trans (W8 n i k))
 | l k=>exact IG _ _
 | a s t b d=>exact (IH _ _ _).trans (b▸d▸rfl)
 | s s t b d=>exact (E6 _ _ _).trans (b▸d▸rfl)
 | m k t h=>exact (xT _ _ _).trans (h▸rfl)
 | w t k h=>exact (xT _ _ _).trans (h▸bO _ _)
 | g t h=>exact (xT _ _ _).trans (h▸AX _)
 | c t=>exact Pf n i t
def al (f:Nat->Int) (c:List Cn):Prop:=∀e,e∈c->ho f e
def sa (f:Nat->Int) (d:List (List Cn)):Prop:=∃c,c∈d/\al f c
theorem zP (f:Nat->Int):al f []:=λO h=>nomatch h
theorem tZ {f:Nat->Int}{e:Cn}{c:List Cn} (h:ho f e) (g:al f c):al f (e::c):=λO m=>(aX.1 m).elim (λq=>q▸h) (g _)
theorem U3 {f:Nat->Int}{c d:List Cn} (h:al f c) (g:al f d):al f (c++d):=λO m=>(bY.1 m).elim (h _) (g _)
theorem Bk {f:Nat->Int}{c:List Cn}{d:List (List Cn)} (h:al f c):sa f (c::d):=⟨c,aB,h⟩
theorem TE {f:Nat->Int}{c:List Cn}{d:List (List Cn)} (h:sa f d):sa f (c::d):=h.elim λx g=>⟨x,aP _ g.1,g.2⟩
theorem Q0 {f:Nat->Int}{c d:List (List Cn)} (h:sa f c):sa f (c++d):=h.elim λx g=>⟨x,t7 _ g.1,g.2⟩
theorem M8 {f:Nat->Int}{c d:List (List Cn)} (h:sa f d):sa f (c++d):=h.elim λx g=>⟨x,GJ _ g.1,g.2⟩
theorem QZ {f:Nat->Int}{d:List (List Cn)} (h:sa f d):∀c,sa f c->sa f (cr c d):=by
 intro c
 induction c with
 | nil=>exact λg=>g.elim λO q=>nomatch q.1
 | cons a c b=>
  refine λg=>g.elim λx q=>(aX.1 q.1).elim (λe=>?_) λm=>M8 (b ⟨x,m,q.2⟩)
  exact h.elim λy r=>⟨a++y,t7 _ (cH.2 ⟨y,r.1,rfl⟩),U3 (e▸q.2) r.2⟩
theorem tr {f:Nat->Int}{p q:Fo}{k:Int} (h:va f q+k<=va f p):ho f (ge p q k):=by
 show 0<=(cb 1 p (-1) q).1 - k+dot (cb 1 p (-1) q).2 f
 have e:(cb 1 p (-1) q).1+dot (cb 1 p (-1) q).2 f=va f p - va f q:=E6 f p q
 omega
theorem FP {f:Nat->Int}{p q:Fo} (h:va f p=va f q):ho f (eu p q):=(E6 f p q).trans (Int.sub_eq_zero.2 h)
theorem Bo {f:Nat->Int}{p q:Fo}{k:Int} (h:va f q+k<=va f p):sa f [[ge p q k]]:=Bk (tZ (tr h) (zP _))
theorem TH {f:Nat->Int}{p q:Fo} (h:va f p=va f q):sa f [[eu p q]]:=Bk (tZ (FP h) (zP _))
theorem TG {f:Nat->Int}{p q r s:Fo}{k l:Int} (h:va f q+k<=va f p\/va f s+l<=va f r):sa f [[ge p q k],[ge r s l]]:=
 h.elim (λh=>Bk (tZ (tr h) (zP _))) λh=>TE (Bo h)
theorem Jl {f:Nat->Int}{p q r s x y:Fo} (h:va f q<=va f p->va f x=va f r) (g:va f p+1<=va f q->va f x=va f s):
  sa f [[ge p q 0,eu x r],[ge q p 1,eu x s]]:=
 (Mr (va f q<=va f p)).symm.elim (λl=>TE (Bk (tZ (tr (Mq.1 l)) (tZ (FP (g (Mq.1 l))) (zP _)))))
  λl=>Bk (tZ (tr ((dO _).symm▸l)) (tZ (FP (h l)) (zP _)))
theorem Ha (f:Nat->Int):sa f [[]]:=Bk (zP f)
theorem TF {f:Nat->Int}{q x a:Fo}{k:Int} (d:va f q=va f a / k) (c:va f x=va f a%k):sa f (md q x a k):=by
 unfold md
 by_cases b:0 < k
 ·rw [decide_eq_true b]
  refine Bk (tZ (FP ?_) (tZ (tr ?_) (tZ (tr ?_) (zP _))))
  ·rw [CA,d,c,cT];exact (cZ _ _).symm
  ·rw [c];exact fO _ (gN b)
  ·rw [c,IG];exact eh _ b
 ·rw [decide_eq_false b];exact Ha f
theorem TM {f:Nat->Int}{q a:Fo}{k:Int} (h:va f q=va f a / k):sa f (dq q a k):=by
 unfold dq
 by_cases b:0 < k
 ·rw [decide_eq_true b]
  refine Bk (tZ (tr ?_) (tZ (tr ?_) (zP _)))
  ·rw [show va f (cb k q 0 zr)=_ from xT _ _ _,h,dO];exact Int.mul_ediv_self_le (gN b)
  ·rw [CA,IG,h,cT];exact Int.lt_mul_ediv_self_add b
 ·rw [decide_eq_false b];exact Ha f
theorem Pv (n:List Nat) (i:List Int) (p:Pr):(dp n i p->sa (fv n i) (fc p).1)/\(¬dp n i p->sa (fv n i) (fc p).2):=by
 have L:=Pf n i
 have I:=Un n i
 have Z:va (fv n i) zr=0:=IG _ _
 induction p with
 | le s t=>exact ⟨λh=>Bo (by rw [L,L,dO];exact ji.2 h),λh=>Bo (by rw [L,L];exact oN.2 (zw h))⟩
 | lt s t=>exact ⟨λh=>Bo (by rw [L,L];exact oN.2 h),λh=>Bo (by rw [L,L,dO];exact ji.2 (zx h))⟩
 | eq s t=>exact ⟨λh=>TH (by rw [L,L];exact congrArg _ h),λh=>TG (by rw [L,L];exact (Nat.lt_or_gt_of_ne h).symm.imp oN.2 oN.2)⟩
 | Le s t=>exact ⟨λh=>Bo (by rw [I,I,dO];exact h),λh=>Bo (by rw [I,I];exact Int.lt_of_not_ge h)⟩
 | Lt s t=>exact ⟨λh=>Bo (by rw [I,I];exact h),λh=>Bo (by rw [I,I,dO];exact mQ.1 h)⟩
 | Eq s t=>exact ⟨λh=>TH (by rw [I,I];exact h),λh=>TG (by rw [I,I];exact (Int.lt_or_gt_of_ne h).symm)⟩
 | no p h=>exact ⟨h.2,λg=>h.1 (Classical.not_not.1 g)⟩
 | an p q h g=>exact ⟨λx=>QZ (g.1 x.2) _ (h.1 x.1),λx=>(Classical.not_and_iff_not_or_not.1 x).elim (λy=>Q0 (h.2 y)) λy=>M8 (g.2 y)⟩
 | o p q h g=>exact ⟨λx=>x.elim (λy=>Q0 (h.1 y)) λy=>M8 (g.1 y),λx=>QZ (g.2 λy=>x (.inr y)) _ (h.2 λy=>x (.inl y))⟩
 | i p q h g=>exact ⟨λx=>(Classical.em (dp n i p)).elim (λy=>M8 (g.1 (x y))) λy=>Q0 (h.2 y),λx=>QZ (g.2 λy=>x λO=>y) _ (h.1 (zk λy=>x λz=>(y z).elim))⟩
 | fa=>exact ⟨cw,λO=>Ha _⟩
 | md q x a k=>exact ⟨λh=>TF (by rw [L,L];exact congrArg _ h.1) (by rw [L,L];exact congrArg _ h.2),λO=>Ha _⟩
 | Md q x a k=>exact ⟨λh=>TF (by rw [I,I];exact h.1) (by rw [I,I];exact h.2),λO=>Ha _⟩
 | dv q a k=>exact ⟨λh=>TM (by rw [L,L];exact congrArg _ h),λO=>Ha _⟩
 | Dv q a k=>exact ⟨λh=>TM (by rw [I,I];exact h),λO=>Ha _⟩
 | sb x a b=>exact ⟨λh=>Jl (y:=zr) (by rw [L,L,L,Z];intro g;rw [h,Nat.sub_eq_zero_of_le (ji.1 g)];rfl)
   (by rw [E6,L,L,L];intro g;rw [h];exact we (ji.1 (bl g))),λO=>Ha _⟩
 | na x t=>exact ⟨λh=>Jl (y:=zr) (by rw [L,I,Z];intro g;rw [h];exact Int.natAbs_of_nonneg g)
   (by rw [show va (fv n i) (cb (-1) (li t) 0 zr)=_ from xT _ _ _,L,I,Z];intro g;rw [h,AX];exact Int.ofNat_natAbs_of_nonpos (bl g)),λO=>Ha _⟩
 | nb x t=>exact ⟨λh=>Bk (tZ (tr (by rw [L,I,h,dO];exact Int.le_natAbs)) (tZ (tr (by rw [IH,L,I,Z,h];omega)) (zP _))),λO=>Ha _⟩
 | tn x t=>exact ⟨λh=>Jl (y:=zr) (by rw [L,I,Z];intro g;rw [h];exact kC g)
   (by rw [L,I,Z];intro g;rw [h,Int.toNat_of_nonpos (bl g)];rfl),λO=>Ha _⟩
 | mn x a b=>exact ⟨λh=>Jl (y:=zr) (by rw [L,L,L];intro g;rw [h,Sy (ji.1 g)])
   (by rw [L,L,L];intro g;rw [h,Nat.min_eq_right (ji.1 (bl g))]),λO=>Ha _⟩
 | Mn x a b=>exact ⟨λh=>Jl (y:=zr) (by rw [I,I,I];intro g;rw [h];exact Int.min_eq_left g)
   (by rw [I,I,I];intro g;rw [h];exact Int.min_eq_right (bl g)),λO=>Ha _⟩
theorem le_eq {a b c:Int} (h:a<=b) (e:b=c):a<=c:=e▸h
theorem Lb (g:Nat) (f:Nat->Int) (l:List Int):g ∣ gd l->dot l f=g*dot (dv g l) f:=by
 induction l generalizing f with
 | nil=>exact λO=>(xN _).symm
 | cons a l b=>
  intro h
  show a*f 0+dot l (up f)=g*(a / g*f 0+dot (dv g l) (up f))
  rw [b _ (Vw h (Nat.gcd_dvd_right _ _)),eD,<- ci,Int.mul_ediv_cancel' (Mp.2 (Vw h (Nat.gcd_dvd_left _ _)))]
theorem Ts {f:Nat->Int}:∀{c:Cn},ho f c->ho f (tg c):=by
 intro ⟨b,k,l⟩ h
 cases b with
 | true=>exact h
 | false=>
  show ho f (bif We 2 (gd l) then (false,(k / (gd l:Int),dv (gd l:Int) l)) else (false,(k,l)))
  cases e:We 2 (gd l) with
  | false=>exact h
  | true=>
   have p:0 < (gd l:Int):=oN.2 (am (by decide) (Nat.le_of_ble_eq_true e))
   have a:0<=k+dot l f:=h
   rw [Lb _ f l (Wd _)] at a
   have q:=ik a (bl p)
   rw [Id _ _ (gN p)] at q
   exact q
theorem Sc {f:Nat->Int}:∀{c:Cn},ho f c->bad c=true->False:=by
 intro ⟨b,k,l⟩ h g
 have d:=Lb _ f l (Wd _)
 cases b with
 | true=>
  have e:k+dot l f=0:=h
  have a:(!(m8 (k.natAbs%gd l) 0))=true:=g
  have z:gd l ∣ k.natAbs:=by
   refine Mp.1 ?_
   rw [show k=- dot l f by omega,d]
   exact Int.dvd_neg.2 (Int.dvd_mul_right _ _)
  rw [Nat.mod_eq_zero_of_dvd z] at a
  exact bT a
 | false=>
  have e:0<=k+dot l f:=h
  have a:=jY.1 (show (m8 (gd l) 0 && decide (k < 0))=true from g)
  rw [d,Nat.eq_of_beq_eq_true a.1] at e
  exact absurd (of_decide_eq_true a.2) (mQ.2 (le_eq e (by rw [Int.ofNat_zero,io,dO])))
theorem La (f:Nat->Int) (l:List Int):dot l f=l.headD 0*f 0+dot l.tail (up f):=by
 cases l with
 | nil=>exact ((dO _).trans (io _)).symm
 | cons a l=>rfl
theorem OO {f:Nat->Int}{b:Bool}{x:Int}{c:Cn}{y:Int}{e:Cn} (h:x*hd c+y*hd e=0):
  va (up f) (cm b x c y e).2=x*va f c.2+y*va f e.2:=by
 show x*c.2.1+y*e.2.1+dot (ad (sc x c.2.2.tail) (sc y e.2.2.tail)) (up f)=x*(c.2.1+dot c.2.2 f)+y*(e.2.1+dot e.2.2 f)
 rw [Lc,BX,BX,La f c.2.2,La f e.2.2]
 have q:x*hd c*f 0+y*hd e*f 0=0:=by rw [<- dw,h,io]
 have r:∀A B C D P Q:Int,P+Q=0->A+B+(C+D)=A+(P+C)+(B+(Q+D)):=by
  intro A B C D P Q h;rw [show A+(P+C)+(B+(Q+D))=A+B+(C+D)+(P+Q) by ac_rfl,h,dO]
 have a:=r (x*c.2.1) (y*e.2.1) (x*dot c.2.2.tail (up f)) (y*dot e.2.2.tail (up f)) _ _ q
 rw [a,ci,ci,<- eD,<- eD,<- eD,<- eD];rfl
theorem TV {a:List Cn}{e:Cn} (h:pv a=some e):e∈a/\e.1=true:=by
 unfold pv at h
 cases g:a.find? (λc=>c.1 && m8 (hd c).natAbs 1) with
 | some c=>rw [g] at h;exact aN h▸⟨Co g,(jY.1 (PY (p:=λc:Cn=>c.1 && m8 (hd c).natAbs 1) g)).1⟩
 | none=>rw [g] at h;exact ⟨Co h,(jY.1 (PY (p:=λc:Cn=>c.1 && !(m8 (hd c).natAbs 0)) h)).1⟩
theorem Ux {f:Nat->Int}{c:Cn}{v:Fo}{g:Nat->Int}{x:Int} (h:ho f c) (e:va g v=x*va f c.2) (p:0<=x):ho g (c.1,v):=by
 unfold ho at *
 cases hc:c.1 with
 | true=>rw [hc] at h;exact e.trans ((congrArg _ h).trans (xN _))
 | false=>rw [hc] at h;exact le_eq (f5 p h) e.symm
theorem Pn {f:Nat->Int}{c:Cn} (h:ho f c) (z:hd c=0):ho (up f) (dr c):=by
 have e:va (up f) (dr c).2=1*va f c.2:=by
  show c.2.1+dot c.2.2.tail (up f)=1*(c.2.1+dot c.2.2 f)
  rw [La f c.2.2,show c.2.2.headD 0=0 from z,io,lH,cT]
 exact Ux h e (by decide)
theorem UL {f:Nat->Int}{i:List Cn} (h:al f i):al (up f) (el i):=by
 unfold el
 cases g:pv i with
 | some e=>
  intro k m
  obtain ⟨c,a,q⟩:=cH.1 m
  have ⟨l,n⟩:=TV g
  have z:va f e.2=0:=by have y:=h e l;unfold ho at y;rw [n] at y;exact y
  unfold eq1 at q
  by_cases j:hd c=0
  ·rw [decide_eq_true j] at q;exact q▸Pn (h c a) j
  rw [decide_eq_false j] at q
  refine q▸Ux (x:=((hd e).natAbs:Int)) (v:=(cm c.1 ((hd e).natAbs:Int) c (- ((hd e).sign*hd c)) e).2) (h c a) ((OO (b:=c.1) ?_).trans (by rw [z,xN,dO])) (aO _)
  show ((hd e).natAbs:Int)*hd c+- ((hd e).sign*hd c)*hd e=0
  rw [nq,Int.mul_right_comm,Int.sign_mul_self]
  exact Int.sub_self _
 | none=>
  intro k m
  refine (bY.1 m).elim (λm=>?_) λm=>?_
  ·obtain ⟨c,a,q⟩:=cH.1 m
   have a:=eQ.1 a
   exact q▸Pn (h c a.1) (of_decide_eq_true a.2)
  ·obtain ⟨c,a,m⟩:=OJ.1 m
   obtain ⟨d,md,q⟩:=cH.1 m
   have a:=eQ.1 a
   have md:=eQ.1 md
   have p:0 < hd c:=of_decide_eq_true a.2
   have o:hd d < 0:=of_decide_eq_true md.2
   have w:∀e:Cn,ho f e->0<=va f e.2:=by
    intro e y;unfold ho at y
    cases he:e.1 with
    | true=>rw [he] at y;exact Int.le_of_eq y.symm
    | false=>rw [he] at y;exact y
   refine q▸le_eq (Int.add_nonneg (f5 (bl (Int.neg_pos_of_neg o)) (w c (h c a.1))) (f5 (bl p) (w d (h d md.1)))) (OO ?_).symm
   rw [nq,bO];exact Int.add_left_neg _
theorem LF {f:Nat->Int}{a:List Cn} (h:al f a) (g:a.any bad=true):False:=
 (zj.1 g).elim λx y=>Sc (h x y.1) y.2
theorem OP:∀(k:Nat) (f:Nat->Int) (a:List Cn),al f a->us k a=true->False:=by
 intro k
 induction k with
 | zero=>intro f a h g;exact LF h g
 | succ k b=>
  intro f a h g
  have t:al f (a.map tg):=λO m=>(cH.1 m).elim λx y=>y.2▸Ts (h x y.1)
  exact (vL.1 (show ((a.map tg).any bad || us k (el ((a.map tg).filter λc=>!(m8 (gd c.2.2) 0))))=true from g)).elim (LF t) λg=>b _ _ (UL λe m=>t e (eQ.1 m).1) g
theorem TP {f:Nat->Int}:∀(i:List (List (List Cn))) (b:List Cn),al f b->(∀d,d∈i->sa f d)->rf i b=true->False:=by
 intro i
 induction i with
 | nil=>intro b h _ g;exact OP 24 f b h g
 | cons d i j=>
  intro b h s g
  have k:∀e,e∈i->sa f e:=λe m=>s e (aP _ m)
  obtain ⟨c,m,a⟩:=s d aB
  refine (vL.1 (show (pn d b || d.all (λc=>rf i (c++b)))=true from g)).elim (λg=>?_) λg=>j _ (U3 a h) k (aS.1 g c m)
  unfold pn at g
  cases e:d.tail.isEmpty with
  | true=>rw [e] at g;exact bT g
  | false=>rw [e] at g;exact OP 24 f b h g
theorem Ua (n:List Nat) (i:List Int) (k:Nat):al (fv n i) (nn k):=by
 induction k with
 | zero=>exact zP _
 | succ k a=>exact tZ (le_eq (aO _) ((lH _).trans ((EM _ _).trans (UE n i k))).symm) a
theorem UP {e:En}{m:Nat} (n:List Nat) (i:List Int) (h:ck m e=true) (g:∀k,k < m->dp n i (hy e k)):dp n i e.2.2:=by
 refine zk λz=>TP _ _ (Ua n i e.1) (λd q=>?_) h
 have a:d∈hs e m++[(fc e.2.2).2]:=(bY.1 q).elim (λq=>(eQ.1 q).1) λq=>(eQ.1 q).1
 clear q
 refine (bY.1 a).elim ?_ (λq=>ai.1 q▸(Pv n i _).2 z)
 clear z a h
 induction m with
 | zero=>exact λq=>nomatch q
 | succ m b=>exact λq=>(aX.1 q).elim (λq=>q▸(Pv n i _).1 (g m (dQ m))) (b λk l=>g k (jO l))
noncomputable abbrev cl (t:List En) (j:Nat):Pr:=(en t j).2.2
noncomputable abbrev pm (t:List En) (j k:Nat):Pr:=hy (en t j) k
abbrev qm (t:List En) (j:Nat) (n:List Nat) (i:List Int) (k:Nat):Prop:=dp n i (pm t j k)
theorem O8 {a:Type}{P:a->Prop}{d:a} (h:P d):∀{l:List a} (j:Nat),(∀x,x∈l->P x)->P (nh d l j)
 | [],_,_=>h
 | _::_,0,g=>g _ aB
 | _::_,j+1,g=>O8 h j λx m=>g x (aP _ m)
noncomputable def rc (p:Nat->Prop):Nat->Prop
 | 0=>True
 | k+1=>rc p k/\p k
theorem TR {p:Nat->Prop}{m:Nat} (h:rc p m):∀k,k < m->p k:=by
 induction m with
 | zero=>exact λk l=>absurd l (Nat.not_lt_zero k)
 | succ m a=>exact λk l=>(Nat.lt_succ_iff_lt_or_eq.1 l).elim (a h.1 k) λe=>e▸h.2
theorem zz {m:Nat}{t:List En} (o:t.all (ck m)=true) (j:Nat) (n:List Nat) (i:List Int) (h:rc (λk=>qm t j n i k) m):dp n i (cl t j):=
 O8 (d:=((0,[],.i .fa .fa):En)) (P:=λe=>(∀k,k < m->dp n i (hy e k))->dp n i e.2.2) (λO h=>h) j (λO q=>UP n i (aS.1 o _ q)) (TR h)
theorem a8 {a b:Nat}:a - b=a - b:=rfl
theorem fM {a b:Nat}:a / b=a / b:=rfl
theorem pJ {a b:Int}:a / b=a / b:=rfl
theorem lR {a b:Nat}:a / b=a / b/\a%b=a%b:=⟨rfl,rfl⟩
theorem r7 {a b:Int}:a / b=a / b/\a%b=a%b:=⟨rfl,rfl⟩
theorem fW {a:Int}:a.natAbs=a.natAbs:=rfl
theorem rZ {a:Int}:a.toNat=a.toNat:=rfl
theorem jG {a b:Nat}:min a b=min a b:=rfl
theorem DK {a b:Int}:min a b=min a b:=rfl
variable {t:List En}
theorem bA (o:t.all (ck 0)=true) (j:Nat) (n:List Nat) (i:List Int):dp n i (cl t j):=zz o j n i trivial
theorem ak (o:t.all (ck 1)=true) (j:Nat) (n:List Nat) (i:List Int) (h:qm t j n i 0):dp n i (cl t j):=zz o j n i ⟨trivial,h⟩
theorem au (o:t.all (ck 2)=true) (j:Nat) (n:List Nat) (i:List Int) (h:qm t j n i 0) (a:qm t j n i 1):dp n i (cl t j):=zz o j n i ⟨⟨trivial,h⟩,a⟩
theorem bI (o:t.all (ck 3)=true) (j:Nat) (n:List Nat) (i:List Int) (h:qm t j n i 0) (a:qm t j n i 1) (b:qm t j n i 2):dp n i (cl t j):=zz o j n i ⟨⟨⟨trivial,h⟩,a⟩,b⟩
theorem eP (o:t.all (ck 4)=true) (j:Nat) (n:List Nat) (i:List Int) (h:qm t j n i 0) (a:qm t j n i 1) (b:qm t j n i 2) (c:qm t j n i 3):dp n i (cl t j):=zz o j n i ⟨⟨⟨⟨trivial,h⟩,a⟩,b⟩,c⟩
theorem jH (o:t.all (ck 5)=true) (j:Nat) (n:List Nat) (i:List Int) (h:qm t j n i 0) (a:qm t j n i 1) (b:qm t j n i 2) (c:qm t j n i 3) (d:qm t j n i 4):dp n i (cl t j):=zz o j n i ⟨⟨⟨⟨⟨trivial,h⟩,a⟩,b⟩,c⟩,d⟩
theorem qP (o:t.all (ck 6)=true) (j:Nat) (n:List Nat) (i:List Int) (h:qm t j n i 0) (a:qm t j n i 1) (b:qm t j n i 2) (c:qm t j n i 3) (d:qm t j n i 4) (e:qm t j n i 5):dp n i (cl t j):=zz o j n i ⟨⟨⟨⟨⟨⟨trivial,h⟩,a⟩,b⟩,c⟩,d⟩,e⟩
theorem DJ (o:t.all (ck 7)=true) (j:Nat) (n:List Nat) (i:List Int) (h:qm t j n i 0) (a:qm t j n i 1) (b:qm t j n i 2) (c:qm t j n i 3) (d:qm t j n i 4) (e:qm t j n i 5) (f:qm t j n i 6):dp n i (cl t j):=zz o j n i ⟨⟨⟨⟨⟨⟨⟨trivial,h⟩,a⟩,b⟩,c⟩,d⟩,e⟩,f⟩
theorem LN (o:t.all (ck 8)=true) (j:Nat) (n:List Nat) (i:List Int) (h:qm t j n i 0) (a:qm t j n i 1) (b:qm t j n i 2) (c:qm t j n i 3) (d:qm t j n i 4) (e:qm t j n i 5) (f:qm t j n i 6) (g:qm t j n i 7):dp n i (cl t j):=zz o j n i ⟨⟨⟨⟨⟨⟨⟨⟨trivial,h⟩,a⟩,b⟩,c⟩,d⟩,e⟩,f⟩,g⟩
theorem Gq (o:t.all (ck 9)=true) (j:Nat) (n:List Nat) (i:List Int) (a:qm t j n i 0) (b:qm t j n i 1) (c:qm t j n i 2) (d:qm t j n i 3) (e:qm t j n i 4) (f:qm t j n i 5) (g:qm t j n i 6) (h:qm t j n i 7) (k:qm t j n i 8):dp n i (cl t j):=zz o j n i ⟨⟨⟨⟨⟨⟨⟨⟨⟨trivial,a⟩,b⟩,c⟩,d⟩,e⟩,f⟩,g⟩,h⟩,k⟩
theorem Sj (o:t.all (ck 10)=true) (j:Nat) (n:List Nat) (i:List Int) (a:qm t j n i 0) (b:qm t j n i 1) (c:qm t j n i 2) (d:qm t j n i 3) (e:qm t j n i 4) (f:qm t j n i 5) (g:qm t j n i 6) (h:qm t j n i 7) (k:qm t j n i 8) (l:qm t j n i 9):dp n i (cl t j):=zz o j n i ⟨⟨⟨⟨⟨⟨⟨⟨⟨⟨trivial,a⟩,b⟩,c⟩,d⟩,e⟩,f⟩,g⟩,h⟩,k⟩,l⟩
theorem LO (o:t.all (ck 11)=true) (j:Nat) (n:List Nat) (i:List Int) (b:qm t j n i 0) (c:qm t j n i 1) (d:qm t j n i 2) (e:qm t j n i 3) (f:qm t j n i 4) (g:qm t j n i 5) (h:qm t j n i 6) (k:qm t j n i 7) (l:qm t j n i 8) (m:qm t j n i 9) (a:qm t j n i 10):dp n i (cl t j):=zz o j n i ⟨⟨⟨⟨⟨⟨⟨⟨⟨⟨⟨trivial,b⟩,c⟩,d⟩,e⟩,f⟩,g⟩,h⟩,k⟩,l⟩,m⟩,a⟩
theorem Si (o:t.all (ck 12)=true) (j:Nat) (n:List Nat) (i:List Int) (c:qm t j n i 0) (d:qm t j n i 1) (e:qm t j n i 2) (f:qm t j n i 3) (g:qm t j n i 4) (h:qm t j n i 5) (k:qm t j n i 6) (l:qm t j n i 7) (m:qm t j n i 8) (p:qm t j n i 9) (a:qm t j n i 10) (b:qm t j n i 11):dp n i (cl t j):=zz o j n i ⟨⟨⟨⟨⟨⟨⟨⟨⟨⟨⟨⟨trivial,c⟩,d⟩,e⟩,f⟩,g⟩,h⟩,k⟩,l⟩,m⟩,p⟩,a⟩,b⟩
theorem p13 (o:t.all (ck 13)=true) (j:Nat) (n:List Nat) (i:List Int) (d:qm t j n i 0) (e:qm t j n i 1) (f:qm t j n i 2) (g:qm t j n i 3) (h:qm t j n i 4) (k:qm t j n i 5) (l:qm t j n i 6) (m:qm t j n i 7) (p:qm t j n i 8) (q:qm t j n i 9) (a:qm t j n i 10) (b:qm t j n i 11) (c:qm t j n i 12):dp n i (cl t j):=zz o j n i ⟨⟨⟨⟨⟨⟨⟨⟨⟨⟨⟨⟨⟨trivial,d⟩,e⟩,f⟩,g⟩,h⟩,k⟩,l⟩,m⟩,p⟩,q⟩,a⟩,b⟩,c⟩
theorem Sh (o:t.all (ck 14)=true) (j:Nat) (n:List Nat) (i:List Int) (e:qm t j n i 0) (f:qm t j n i 1) (g:qm t j n i 2) (h:qm t j n i 3) (k:qm t j n i 4) (l:qm t j n i 5) (m:qm t j n i 6) (p:qm t j n i 7) (q:qm t j n i 8) (r:qm t j n i 9) (a:qm t j n i 10) (b:qm t j n i 11) (c:qm t j n i 12) (d:qm t j n i 13):dp n i (cl t j):=zz o j n i ⟨⟨⟨⟨⟨⟨⟨⟨⟨⟨⟨⟨⟨⟨trivial,e⟩,f⟩,g⟩,h⟩,k⟩,l⟩,m⟩,p⟩,q⟩,r⟩,a⟩,b⟩,c⟩,d⟩
theorem p15 (o:t.all (ck 15)=true) (j:Nat) (n:List Nat) (i:List Int) (f:qm t j n i 0) (g:qm t j n i 1) (h:qm t j n i 2) (k:qm t j n i 3) (l:qm t j n i 4) (m:qm t j n i 5) (p:qm t j n i 6) (q:qm t j n i 7) (r:qm t j n i 8) (s:qm t j n i 9) (a:qm t j n i 10) (b:qm t j n i 11) (c:qm t j n i 12) (d:qm t j n i 13) (e:qm t j n i 14):dp n i (cl t j):=zz o j n i ⟨⟨⟨⟨⟨⟨⟨⟨⟨⟨⟨⟨⟨⟨⟨trivial,f⟩,g⟩,h⟩,k⟩,l⟩,m⟩,p⟩,q⟩,r⟩,s⟩,a⟩,b⟩,c⟩,d⟩,e⟩
theorem p16 (o:t.all (ck 16)=true) (j:Nat) (n:List Nat) (i:List Int) (g:qm t j n i 0) (h:qm t j n i 1) (k:qm t j n i 2) (l:qm t j n i 3) (m:qm t j n i 4) (p:qm t j n i 5) (q:qm t j n i 6) (r:qm t j n i 7) (s:qm t j n i 8) (u:qm t j n i 9) (a:qm t j n i 10) (b:qm t j n i 11) (c:qm t j n i 12) (d:qm t j n i 13) (e:qm t j n i 14) (f:qm t j n i 15):dp n i (cl t j):=zz o j n i ⟨⟨⟨⟨⟨⟨⟨⟨⟨⟨⟨⟨⟨⟨⟨⟨trivial,g⟩,h⟩,k⟩,l⟩,m⟩,p⟩,q⟩,r⟩,s⟩,u⟩,a⟩,b⟩,c⟩,d⟩,e⟩,f⟩
theorem p17 (o:t.all (ck 17)=true) (j:Nat) (n:List Nat) (i:List Int) (h:qm t j n i 0) (k:qm t j n i 1) (l:qm t j n i 2) (m:qm t j n i 3) (p:qm t j n i 4) (q:qm t j n i 5) (r:qm t j n i 6) (s:qm t j n i 7) (u:qm t j n i 8) (v:qm t j n i 9) (a:qm t j n i 10) (b:qm t j n i 11) (c:qm t j n i 12) (d:qm t j n i 13) (e:qm t j n i 14) (f:qm t j n i 15) (g:qm t j n i 16):dp n i (cl t j):=zz o j n i ⟨⟨⟨⟨⟨⟨⟨⟨⟨⟨⟨⟨⟨⟨⟨⟨⟨trivial,h⟩,k⟩,l⟩,m⟩,p⟩,q⟩,r⟩,s⟩,u⟩,v⟩,a⟩,b⟩,c⟩,d⟩,e⟩,f⟩,g⟩
theorem p18 (o:t.all (ck 18)=true) (j:Nat) (n:List Nat) (i:List Int) (k:qm t j n i 0) (l:qm t j n i 1) (m:qm t j n i 2) (p:qm t j n i 3) (q:qm t j n i 4) (r:qm t j n i 5) (s:qm t j n i 6) (u:qm t j n i 7) (v:qm t j n i 8) (w:qm t j n i 9) (a:qm t j n i 10) (b:qm t j n i 11) (c:qm t j n i 12) (d:qm t j n i 13) (e:qm t j n i 14) (f:qm t j n i 15) (g:qm t j n i 16) (h:qm t j n i 17):dp n i (cl t j):=zz o j n i ⟨⟨⟨⟨⟨⟨⟨⟨⟨⟨⟨⟨⟨⟨⟨⟨⟨⟨trivial,k⟩,l⟩,m⟩,p⟩,q⟩,r⟩,s⟩,u⟩,v⟩,w⟩,a⟩,b⟩,c⟩,d⟩,e⟩,f⟩,g⟩,h⟩
theorem Sf (o:t.all (ck 19)=true) (j:Nat) (n:List Nat) (i:List Int) (l:qm t j n i 0) (m:qm t j n i 1) (p:qm t j n i 2) (q:qm t j n i 3) (r:qm t j n i 4) (s:qm t j n i 5) (u:qm t j n i 6) (v:qm t j n i 7) (w:qm t j n i 8) (x:qm t j n i 9) (a:qm t j n i 10) (b:qm t j n i 11) (c:qm t j n i 12) (d:qm t j n i 13) (e:qm t j n i 14) (f:qm t j n i 15) (g:qm t j n i 16) (h:qm t j n i 17) (k:qm t j n i 18):dp n i (cl t j):=zz o j n i ⟨⟨⟨⟨⟨⟨⟨⟨⟨⟨⟨⟨⟨⟨⟨⟨⟨⟨⟨trivial,l⟩,m⟩,p⟩,q⟩,r⟩,s⟩,u⟩,v⟩,w⟩,x⟩,a⟩,b⟩,c⟩,d⟩,e⟩,f⟩,g⟩,h⟩,k⟩
noncomputable abbrev aj:=Tn.v 0
noncomputable abbrev aw:=Tn.v 1
noncomputable abbrev bc:=Tn.v 2
noncomputable abbrev cI:=Tn.v 3
noncomputable abbrev eK:=Tn.v 4
noncomputable abbrev jZ:=Tn.v 5
noncomputable abbrev uk:=Tn.v 6
noncomputable abbrev Ie:=Tn.v 7
noncomputable abbrev c7:=Ti.l 0
noncomputable abbrev kl:=Ti.l 1
noncomputable abbrev nX:=Ti.l 1000
noncomputable abbrev tA:=Ti.l 384
noncomputable abbrev nW:=Ti.l 64
noncomputable abbrev aR:=Ti.v 0
noncomputable abbrev bJ:=Ti.v 1
noncomputable abbrev dU:=Ti.v 2
noncomputable abbrev fP:=Ti.v 3
noncomputable abbrev o9:=Ti.v 4
noncomputable abbrev uc:=Ti.v 5
noncomputable abbrev vD:=Ti.v 6
noncomputable abbrev Cd:=Ti.v 7
noncomputable abbrev cQ:=Ti.c aj
noncomputable abbrev jk:=Ti.c aw
noncomputable abbrev yO:=Ti.c bc
noncomputable abbrev Ij:=Ti.c cI
noncomputable abbrev EQ:=Ti.c eK
noncomputable abbrev kU:=Tn.l 0
noncomputable abbrev bP:=Tn.l 1
noncomputable abbrev bR:=Tn.l 1000
noncomputable abbrev lW:=Tn.l 2
noncomputable abbrev ua:=Tn.l 3
noncomputable abbrev lL:=Tn.l 31
noncomputable abbrev nr:=Tn.l 32
noncomputable abbrev ul:=Tn.l 384
noncomputable abbrev pP:=Tn.l 6
noncomputable abbrev f1:=Tn.l 64
noncomputable def XY:List En:=[(1,[],.le bP (.a aj bP)),(1,[],.Le c7 cQ),(1,[],.le aj (.a aj bP)),(2,[],.eq (.a aj (.a aw bP)) (.a (.a aj bP) aw)),(2,[],.eq (.a (.a aj bP) aw) (.a aj (.a aw bP))),(1,[],.le aj (.a (.a aj bP) bP)),(1,[],.no (.Lt cQ c7)),(1,[],.Le c7 (.c (.m 64 aj))),(1,[],.no (.Lt (.c (.m 64 aj)) c7)),(2,[],.le (.a aj pP) (.a (.a aj (.m 8 aw)) f1)),(1,[],.Eq (.a cQ kl) (.c (.a aj bP))),(1,[],.Le c7 (.c (.m 2 aj))),(0,[],.Lt (.s aR kl) aR),(1,[],.Le c7 (.a (.c (.m 64 aj)) (.c (.m 64 aj)))),(1,[],.Eq (.w (.a (.c (.m 64 aj)) (.c (.m 64 aj))) 4096) (.w (.c (.m 64 aj)) 8192)),(2,[],.Eq (.s (.c (.m 64 aj)) (.c (.m 64 aw))) (.m 64 (.s cQ jk))),(2,[],.Eq (.s (.a (.l 8192) (.c (.m 64 aj))) (.c (.m 64 aw))) (.a (.l 8192) (.m 64 (.s cQ jk)))),(2,[],.Eq (.s (.a (.l 16384) (.c (.m 64 aj))) (.c (.m 64 aw))) (.a (.l 16384) (.m 64 (.s cQ jk)))),(1,[],.no (.eq (.a aj bP) aj)),(1,[],.no (.eq (.a (.a aj bP) bP) aj)),(2,[],.le (.m 64 aj) (.a (.m 64 aj) aw)),(2,[],.eq (.a (.m 64 aj) (.w aw (64-0))) (.a (.m 64 aj) (.m 64 aw))),(2,[],.eq (.a (.m 64 aj) (.w aw (64-64))) (.m 64 aj)),(2,[],.eq (.a (.a (.a aj bP) aw) bP) (.a (.a aj (.a aw bP)) bP))]
theorem bZ:XY.all (ck 0)=true:=by decide +kernel
noncomputable def XX:List En:=[(1,[],.Eq (.a cQ (.m 0 aR)) cQ),(2,[],.eq (.a aj (.a aw (.w aj 1))) (.a aw (.w aj 2))),(0,[],.Eq (.a (.m 0 aR) c7) c7),(1,[],.Eq (.a cQ (.l 2)) (.c (.a aj lW))),(0,[],.Eq (.a aR (.l (-1))) (.s aR kl)),(0,[],.Eq (.a (.a aR (.l (-1))) kl) aR),(0,[],.Eq (.a (.a aR kl) kl) (.a aR (.l 2))),(3,[],.eq (.a (.a (.a aj aw) kU) bc) (.a aj (.a aw bc))),(2,[],.Eq (.a cQ (.m 128 jk)) (.c (.a aj (.m 128 aw)))),(2,[],.Eq (.a (.a cQ kl) jk) (.c (.a aj (.a aw bP)))),(1,[],.Eq (.m 3 cQ) (.c (.m 3 aj))),(1,[],.Eq (.w cQ 1024) (.c (.w aj 1024))),(2,[],.Eq (.w (.a cQ (.c (.a aj aw))) 1024) (.c (.m 1024 (.a (.m 2 aj) aw)))),(2,[],.Eq (.w (.s (.c (.a aj aw)) cQ) 1024) (.c (.m 1024 aw))),(1,[],.Eq cQ (.s (.c (.a aj bP)) kl)),(3,[],.eq (.a (.a aj (.a aw bP)) bc) (.a (.a aj aw) (.a bc bP))),(2,[],.eq (.a (.a aj aw) bP) (.a aj (.a aw bP))),(1,[],.eq (.a kU aj) aj),(1,[],.eq (.a bP (.a aj bP)) (.a aj lW)),(2,[],.eq (.a aj (.m 2 aw)) (.a aw (.a aj (.m 1 aw)))),(2,[],.eq (.a (.a aj lW) (.a aw bP)) (.a (.a (.a aj aw) bP) lW)),(2,[],.eq (.a (.a (.a aj aw) bP) bP) (.a (.a aj bP) (.a aw bP))),(2,[],.Eq (.s cQ (.a kl jk)) (.a (.l (-1)) (.s cQ jk))),(2,[],.Eq (.s (.a kl cQ) jk) (.a kl (.s cQ jk)))]
theorem fo:XX.all (ck 0)=true:=by decide +kernel
noncomputable def XW:List En:=[(1,[],.le (.a bP aj) (.a aj bP)),(2,[],.le (.a bP (.a aj bP)) (.a aj (.a (.m 9 aw) (.l 20)))),(1,[],.le (.l (1+2)) (.m 1 (.a (.m 9 aj) (.l 20)))),(1,[],.le bP (.m 1 (.a (.m 9 aj) (.l 20)))),(1,[],.Eq (.a (.l 4) (.m 2 cQ)) (.c (.a (.l 4) (.m 2 aj)))),(1,[],.le aj aj),(2,[],.le aj (.a aj (.m 2 (.a aw bP)))),(1,[],.Eq (.m 2 cQ) (.c (.m 2 aj))),(0,[],.Eq (.a (.m 2 aR) c7) (.m 2 aR)),(0,[],.Eq (.s (.a aR bJ) c7) (.a aR bJ)),(1,[],.Eq (.a c7 (.w cQ 1)) cQ),(1,[],.Eq (.s (.c (.a aj bP)) kl) cQ),(2,[],.eq (.a aj aw) (.a aj (.m 1 aw))),(0,[],.Eq (.a aR (.a bJ dU)) (.a (.a aR bJ) dU)),(3,[],.le aj (.a (.a aj aw) bc)),(3,[],.eq (.a aj (.a aw (.a bc bP))) (.a (.a (.a aj aw) bc) bP)),(2,[],.Eq (.a (.c (.a (.m 64 aj) (.m 64 aw))) (.c (.m 64 aj))) (.c (.m 64 (.a (.m 2 aj) aw)))),(2,[],.Eq (.s (.c (.a (.m 64 aj) (.m 64 aw))) (.c (.m 64 aj))) (.c (.m 64 aw))),(2,[],.Le c7 (.c (.m 64 (.a (.m 2 aj) aw)))),(2,[],.Le c7 (.c (.m 32 (.a (.m 2 aj) aw)))),(2,[],.Eq (.w (.c (.m 64 (.a (.m 2 aj) aw))) 4096) (.w (.c (.m 32 (.a (.m 2 aj) aw))) 8192)),(2,[],.Eq (.s (.c (.m 64 (.a aj aw))) (.c (.m 64 aj))) (.c (.m 64 aw))),(2,[],.eq (.a (.m 64 aj) (.w aw 64)) (.m 64 (.a aj aw))),(2,[],.eq (.a (.m 64 aj) (.w aw 0)) (.m 64 aj))]
theorem fm:XW.all (ck 0)=true:=by decide +kernel
noncomputable def XV:List En:=[(2,[],.Eq (.a cQ (.c (.a aj aw))) (.c (.a (.m 2 aj) aw))),(0,[],.Eq aR (.s (.a bJ aR) bJ)),(0,[],.Eq (.w aR 2) (.m 2 aR)),(0,[],.Eq (.a (.a aR bJ) (.s (.a dU fP) bJ)) (.a (.a aR dU) fP)),(0,[],.Eq (.a (.s aR (.m 1 bJ)) (.a (.s dU aR) bJ)) dU),(0,[],.no (.Lt aR aR)),(1,[],.Eq (.a (.l (-1)) (.c (.a aj bP))) cQ),(1,[],.Lt cQ (.a cQ kl)),(3,[],.eq (.a (.a aj aw) bc) (.a aj (.a aw bc))),(2,[],.Eq (.s (.c (.a aj aw)) cQ) jk),(2,[],.Eq (.s (.a (.m 64 cQ) (.m 64 jk)) aR) (.a (.m 64 cQ) (.s (.w jk 64) aR))),(1,[],.Eq (.a (.l 10) cQ) (.c (.a (.l 10) aj))),(1,[],.Le c7 (.m 3 cQ)),(1,[],.Eq (.a (.c (.a (.a aj aj) bP)) kl) (.c (.a (.a aj bP) (.a aj bP)))),(1,[],.eq (.a (.a aj bP) (.a aj bP)) (.a (.a (.a aj aj) bP) bP)),(1,[],.le bP (.a (.a aj bP) (.a aj bP)))]
theorem im:XV.all (ck 0)=true:=by decide +kernel
noncomputable def XU:List En:=[(1,[.le aj pP],.le aj bR),(0,[.Le kl aR],.Le c7 aR),(1,[.le aj f1],.le (.m 64 aj) (.l (2^28))),(1,[.le aj (.l 30)],.le aj bR),(1,[.le aj ua],.le aj bR),(2,[.le aj aw],.le aj (.a aw bP)),(1,[.le aj lL],.le aj f1),(1,[.le aj pP],.Le cQ nX),(1,[.le bP aj],.no (.Eq cQ c7)),(1,[.le aj lL],.le (.m 64 aj) (.l (2^28))),(2,[.no (.lt aj aw)],.no (.Lt cQ jk)),(1,[.o (.eq aj (.l 4)) (.eq aj pP)],.le aj pP),(0,[.no (.Lt aR c7)],.Le c7 aR),(1,[.le aj lL],.le (.m 64 aj) (.l 100000)),(1,[.lt aj ua],.o (.eq aj kU) (.o (.eq aj bP) (.eq aj lW))),(0,[.Le c7 aR],.Le c7 (.a aR kl)),(1,[.le aj (.l 900)],.le aj bR),(2,[.lt aj aw],.Lt cQ jk),(1,[.le aj (.l 800)],.le aj bR),(3,[.lt (.a aj (.a aw bP)) bc],.lt (.a (.a aj bP) aw) bc),(3,[.lt (.a (.a aj (.m 8 (.a aw bP))) f1) bc],.lt (.a (.a (.a aj ua) (.m 8 aw)) f1) bc),(3,[.le aj (.a (.m 64 aw) (.m 64 bc))],.Le cQ (.c (.a (.m 64 aw) (.m 64 bc)))),(2,[.le (.m 64 aj) aw],.Le (.c (.m 64 aj)) jk),(3,[.le aj (.a (.a aw bP) bc)],.le aj (.a aw (.a bc bP)))]
theorem aK:XU.all (ck 1)=true:=by decide +kernel
noncomputable def XT:List En:=[(1,[.o (.eq aj (.l 4)) (.eq aj pP)],.le aj bR),(0,[.Lt c7 aR],.no (.Eq aR c7)),(0,[.Le c7 aR],.no (.Lt aR (.c kU))),(0,[.Lt bJ aR],.no (.Lt aR bJ)),(1,[.le aj (.l 4500)],.le aj (.l 10000)),(1,[.le aj f1],.Le cQ nX),(1,[.le bP aj],.lt kU (.m 64 aj)),(0,[.Le (.l 192) aR],.no (.Le aR nW)),(1,[.le aj (.l 16)],.le aj (.l 900)),(2,[.lt aj aw],.no (.no (.Lt cQ jk))),(1,[.le bP aj],.no (.eq aj kU)),(1,[.le aj (.l 30)],.le (.a aj bP) (.l 40)),(1,[.le aj bR],.lt aj (.l (2^60))),(1,[.le bP aj],.Lt c7 cQ),(1,[.lt aj lW],.o (.eq aj kU) (.eq aj bP)),(1,[.le aj (.l 10000)],.Lt cQ (.l (2^64))),(0,[.Lt c7 aR],.Le c7 (.m 4096 aR)),(0,[.Lt c7 aR],.Le c7 aR),(1,[.le aj f1],.lt aj (.l 65)),(2,[.no (.eq aj aw)],.no (.Eq cQ jk)),(0,[.Le c7 aR],.no (.Lt aR c7)),(0,[.Lt aR bJ],.Le aR (.s bJ kl)),(0,[.Le (.l 4) aR],.Le c7 aR),(0,[.Lt c7 (.s aR bJ)],.no (.Eq (.s aR bJ) c7))]
theorem ce:XT.all (ck 1)=true:=by decide +kernel
noncomputable def XS:List En:=[(1,[.le bP aj],.no (.Eq (.c (.m 2 aj)) c7)),(1,[.le aj (.l 4000)],.le (.a bP aj) (.l 100000000)),(2,[.le aj aw],.Le cQ jk),(2,[.sb aw aj aj],.eq aw kU),(4,[.le aj (.a (.a aw (.a bc bP)) cI)],.le aj (.a (.a aw bc) (.a cI bP))),(3,[.lt (.a (.a aj aw) (.l 8)) bc],.lt (.a (.a (.a aj (.l (1+0))) kU) aw) bc),(3,[.lt (.a (.a aj (.m 8 aw)) (.l 128)) bc],.lt (.a (.a (.a (.a aj (.l (3+0))) kU) (.m 8 aw)) f1) bc),(1,[.o (.eq aj (.l 4)) (.eq aj pP)],.Le cQ nX),(1,[.le aj (.l 100)],.le aj bR),(2,[.eq (.a (.l 10) aw) aj],.le (.l 10) aj),(1,[.le aj (.l 4000)],.le aj (.l 9000)),(1,[.le aj nr],.le (.m 64 aj) (.l (2^28))),(1,[.le bP aj],.no (.Eq (.c (.m 64 aj)) c7)),(3,[.le bc (.a (.m 64 aj) (.m 64 aw))],.Le c7 (.s (.c (.a (.m 64 aj) (.m 64 aw))) yO)),(1,[.le bP aj],.Lt c7 (.c (.m 64 aj))),(4,[.eq (.a bc cI) (.a (.m 64 aj) (.m 64 aw))],.Eq (.s (.c (.a (.m 64 aj) (.m 64 aw))) yO) Ij),(3,[.an (.le (.a aj bP) aw) (.i (.le (.a aj bP) bc) (.le aw bc))],.le aj aw),(3,[.an (.le (.a aj lW) aw) (.i (.le (.a aj lW) bc) (.le aw bc))],.le aj aw),(2,[.sb aw aj aj],.le (.l 7) (.a (.m 9 aw) (.l 7))),(0,[.Eq aR bJ],.no (.Lt aR bJ)),(0,[.Lt aR bJ],.no (.Eq aR bJ)),(0,[.Lt bJ aR],.no (.Eq aR bJ)),(1,[.eq aj kU],.eq aj kU),(3,[.le (.a aj (.a bc bP)) aw],.lt aj aw)]
theorem dd:XS.all (ck 1)=true:=by decide +kernel
noncomputable def XR:List En:=[(3,[.le (.a aj (.a aw bP)) bc],.le (.a (.a aj bP) aw) bc),(1,[.le aj (.l (2^64))],.le aj (.l (4*(2^64)))),(0,[.Lt c7 aR],.Lt aR (.w aR 2)),(1,[.o (.eq aj bP) (.o (.eq aj lW) (.eq aj ua))],.Le kl cQ),(1,[.o (.eq aj bP) (.o (.eq aj lW) (.eq aj ua))],.Le cQ (.l 3)),(1,[.le aj (.l (4409*5))],.le (.a aj bP) (.l 40000)),(0,[.Le (.w aR 2) (.l (2^40000))],.Lt aR (.l (2^40000))),(0,[.Le c7 aR],.Lt (.l (- (2^64))) aR),(0,[.Le aR (.l 24)],.Lt aR (.l (2^64))),(1,[.le aj (.l 4409)],.le (.a aj (.l 40000)) (.l 134217728)),(1,[.le aj (.l (4410*5))],.le aj (.l 134217728)),(1,[.le (.l 10) aj],.le bP aj),(1,[.le aj (.l 4409)],.le aj (.l 4500)),(1,[.le aj (.l 4409)],.lt aj (.l 9000)),(3,[.eq (.a aw aj) bc],.eq (.a aj aw) bc),(1,[.Le c7 aR],.Le c7 (.a aR cQ)),(1,[.Eq (.a aR dU) (.a fP cQ)],.Eq (.a (.a aR bJ) dU) (.a (.a bJ fP) cQ)),(1,[.le aj (.l 4500)],.le (.a aj aj) (.l 100000000)),(1,[.Eq (.a bJ aR) cQ],.Eq (.a aR bJ) cQ),(1,[.le aj (.l 4500)],.le aj (.l 100000)),(1,[.lt aj ua],.lt aj pP),(1,[.le aj (.l 10)],.le aj bR),(1,[.le aj ua],.Le (.c (.a aj lW)) nX),(1,[.le aj ua],.le aj pP)]
theorem fk:XR.all (ck 1)=true:=by decide +kernel
noncomputable def XQ:List En:=[(1,[.le aj ua],.le aj (.l 9)),(1,[.le aj f1],.le (.m 64 aj) (.l (2^30))),(1,[.le aj (.l 128)],.lt aj (.l 129)),(0,[.Le (.l (- (4*(2^1024)))) aR],.Le (.l (0- ((2^17)*(2^1024)))) (.m 384 aR)),(0,[.Le aR (.l ((2^1074)+(4*(2^1024))))],.Le (.m 384 aR) (.l ((384*(2^1074))+((2^17)*(2^1024))))),(0,[.Le aR (.l 256)],.Le c7 (.s (.l 256) aR)),(0,[.Le (.l 192) aR],.Le (.s (.l 256) aR) nW),(0,[.Le (.l 256) aR],.no (.Le aR (.l 192))),(1,[.le aj (.l 16)],.le (.a aj lW) (.l 900)),(1,[.le aj (.l 100)],.le aj (.l 800)),(1,[.lt (.w aj 256) (.l ((2^1073)*(2^8)))],.lt aj (.l (2^1073))),(1,[.le aj lL],.le (.m 64 aj) (.l (2^30))),(1,[.le aj nr],.le (.m 64 aj) (.l (2^30))),(1,[.le aj nr],.lt (.m 64 aj) (.l (2^12))),(1,[.le aj (.l 10000)],.lt aj (.l (2^14))),(2,[.sb aw aj kU],.eq aw aj),(1,[.le aj (.l 63)],.le aj bR),(2,[.eq aw aj],.eq aj aw),(1,[.le aj pP],.le aj (.l 9)),(1,[.le aj bR],.le (.a aj bP) (.l (16777216+1))),(4,[.an (.le bc aw) (.an (.le (.a aw lW) aj) (.le aj cI))],.no (.eq aj aw)),(2,[.le aj aw],.le (.a aj bP) (.a aw bP)),(2,[.le (.a aj (.a aw bP)) (.l 900)],.le aj (.l 900)),(1,[.le aj bR],.le (.a kU aj) bR)]
theorem fj:XQ.all (ck 1)=true:=by decide +kernel
noncomputable def XP:List En:=[(1,[.le aj (.l 900)],.le (.a aj bP) bR),(1,[.lt aj (.l 128)],.lt (.m 3 aj) ul),(1,[.lt aj nr],.le aj lL),(1,[.o (.an (.Eq (.m 7 aR) c7) (.eq aj kU)) (.o (.an (.Eq (.m 7 aR) (.l 7)) (.eq aj bP)) (.an (.Eq (.m 7 aR) (.l (-7))) (.eq aj lW)))],.o (.Eq (.m 7 aR) kl) (.o (.Eq (.m 7 aR) c7) (.o (.Eq (.m 7 aR) (.l (-1))) (.o (.Eq (.m 7 aR) (.l 7)) (.Eq (.m 7 aR) (.l (-7))))))),(0,[.Lt aR c7],.Lt aR c7),(0,[.Md bJ aR dU 2],.o (.Eq aR c7) (.Eq aR kl)),(3,[.eq aj (.a (.a aw bP) bc)],.eq aj (.a aw (.a bc bP))),(1,[.le aj bR],.lt aj (.l (2^10))),(2,[.eq (.a aw kU) aj],.le aj aw),(3,[.eq (.a aj (.a bc bP)) aw],.lt aj aw),(3,[.eq (.a aj (.a aw bP)) bc],.eq (.a (.a aj bP) aw) bc),(2,[.Eq (.s cQ jk) c7],.Eq aR (.s (.a aR cQ) jk)),(2,[.eq aj aw],.no (.lt aj aw)),(3,[.sb bc (.a aj bP) aw],.le bc (.a aj bP)),(4,[.Lt (.a cQ jk) (.s Ij yO)],.lt (.a (.a aj aw) bc) cI),(4,[.no (.Lt (.a cQ jk) (.s Ij yO))],.no (.lt (.a (.a aj aw) bc) cI)),(1,[.lt aj lW],.Lt cQ (.l (2^2))),(1,[.lt aj lW],.Le (.c (.a (.l 4) (.m 2 aj))) nX),(2,[.le aj aw],.le aj aw),(2,[.le (.a aj bP) aw],.le aj aw),(2,[.eq aj kU],.le aj aw),(1,[.lt aj bP],.eq aj kU),(1,[.le aj (.l 400)],.le (.a aj (.l (2*14))) (.l 900)),(1,[.le aj pP],.Le (.c (.m 2 aj)) nX)]
theorem fh:XP.all (ck 1)=true:=by decide +kernel
noncomputable def XO:List En:=[(0,[.Eq (.a bJ dU) aR],.Eq (.s (.a aR bJ) (.m 2 bJ)) dU),(0,[.Le c7 aR],.Le (.l (- (2^62))) aR),(0,[.Le aR nX],.Lt aR (.l (2^62))),(1,[.Lt (.s (.c (.a aj bP)) kl) c7],.fa),(2,[.sb aw (.a aj bP) aj],.eq aw bP),(3,[.le aw (.m 1000 (.a bc bP))],.lt (.a aj aw) (.a (.a aj (.m 1000 (.a bc bP))) bP)),(1,[.le aj (.l 10000)],.le (.a aj bP) (.l 10001)),(2,[.le (.a aj (.a aw bP)) bR],.le (.a (.a aj bP) aw) bR),(3,[.le (.a aj aw) (.a (.l 65) bc)],.le (.a aj (.a aw (.l 1062))) (.a (.l 1074) (.a (.l 53) bc))),(0,[.Lt c7 aR],.Le c7 (.m (2^35) aR)),(0,[.Lt c7 aR],.Le c7 (.m 4096 (.m (2^13) aR))),(1,[.le aj (.l 100000)],.le aj (.l (2^28))),(5,[.eq aj (.a (.m 64 aw) (.m 64 bc))],.o (.Eq cQ (.c (.a (.m 64 aw) (.m 64 bc)))) (.o (.Eq Ij (.c (.a (.m 64 aw) (.m 64 bc)))) (.Eq EQ (.c (.a (.m 64 aw) (.m 64 bc)))))),(5,[.eq cI (.a (.m 64 aw) (.m 64 bc))],.o (.Eq cQ (.c (.a (.m 64 aw) (.m 64 bc)))) (.o (.Eq Ij (.c (.a (.m 64 aw) (.m 64 bc)))) (.Eq EQ (.c (.a (.m 64 aw) (.m 64 bc)))))),(5,[.eq eK (.a (.m 64 aw) (.m 64 bc))],.o (.Eq cQ (.c (.a (.m 64 aw) (.m 64 bc)))) (.o (.Eq Ij (.c (.a (.m 64 aw) (.m 64 bc)))) (.Eq EQ (.c (.a (.m 64 aw) (.m 64 bc)))))),(4,[.eq aj (.m 64 aw)],.o (.Eq cQ (.c (.m 64 aw))) (.o (.Eq yO (.c (.m 64 aw))) (.Eq Ij (.c (.m 64 aw))))),(4,[.eq bc (.m 64 aw)],.o (.Eq cQ (.c (.m 64 aw))) (.o (.Eq yO (.c (.m 64 aw))) (.Eq Ij (.c (.m 64 aw))))),(4,[.eq cI (.m 64 aw)],.o (.Eq cQ (.c (.m 64 aw))) (.o (.Eq yO (.c (.m 64 aw))) (.Eq Ij (.c (.m 64 aw))))),(2,[.le bP aw],.no (.Eq (.c (.m 64 aj)) (.c (.a (.m 64 aj) (.m 64 aw))))),(2,[.Le (.c (.m 32 (.a (.m 2 aj) aw))) (.l 2048)],.le (.m 64 (.a (.m 2 aj) aw)) (.l (2^30))),(2,[.le bP aw],.no (.Eq (.c (.m 64 (.a (.m 2 aj) aw))) c7)),(2,[.Le (.c (.m 32 (.a (.m 2 aj) aw))) (.l 2048)],.le (.a (.m 2 aj) aw) f1),(3,[.sb bc (.l 128) (.a (.m 2 aj) aw)],.le (.m 64 bc) (.l (2^30))),(2,[.no (.Le (.c (.m 32 (.a (.m 2 aj) aw))) (.l 2048))],.no (.le (.a (.m 2 aj) aw) f1))]
theorem fg:XO.all (ck 1)=true:=by decide +kernel
noncomputable def XN:List En:=[(1,[.o (.an (.Eq aR c7) (.eq aj kU)) (.o (.an (.Eq aR (.l 7)) (.eq aj bP)) (.an (.Eq aR (.l (-7))) (.eq aj lW)))],.o (.Eq aR kl) (.o (.Eq aR c7) (.o (.Eq aR (.l (-1))) (.o (.Eq aR (.l 7)) (.Eq aR (.l (-7))))))),(1,[.o (.an (.Eq aR kl) (.eq aj kU)) (.o (.an (.Eq aR c7) (.eq aj (.l 128))) (.an (.Eq aR (.l (-1))) (.eq aj (.l 256))))],.o (.Eq aR kl) (.o (.Eq aR c7) (.o (.Eq aR (.l (-1))) (.o (.Eq aR (.l 7)) (.Eq aR (.l (-7))))))),(3,[.md aw aj (.a bc bP) 3],.lt aj ua),(3,[.md aw aj (.a bc lW) 3],.lt aj ua),(1,[.an (.Le c7 (.a aR cQ)) (.Lt (.a aR cQ) cQ)],.Le (.g cQ) aR),(1,[.an (.Le c7 aR) (.Lt aR cQ)],.Lt aR cQ),(0,[.Le c7 aR],.Le (.l (- (2^63))) aR),(0,[.Lt aR c7],.Lt aR (.l (2^63))),(1,[.le aj (.l 1040)],.le (.a (.l 53) aj) (.l 1100)),(1,[.le aj (.l 1040)],.le aj (.l 1500)),(0,[.eq (.l (2^1062)) kU],.Eq aR c7),(0,[.Eq (.s aR bJ) c7],.Eq aR bJ),(0,[.Lt c7 aR],.no (.Lt aR c7)),(1,[.lt aj (.l 128)],.no (.le (.l 55296) aj)),(1,[.le aj bR],.le aj (.l 16777216)),(0,[.Le aR nX],.Le aR (.l 1152921504606846975)),(0,[.Le aR nX],.Le aR (.l 16777216)),(1,[.le aj (.l (2^28))],.le aj (.l (2^30))),(1,[.le aj (.l 4096)],.le aj (.l (2^28))),(0,[.Eq (.s aR bJ) dU],.Eq aR (.a bJ dU)),(0,[.Le (.w aR 1) bJ],.Le aR bJ),(0,[.Le (.l 1024) aR],.Lt c7 aR),(0,[.Le (.l 1024) aR],.Le (.l 4) aR),(0,[.Le (.l 1024) aR],.Le kl aR)]
theorem fe:XN.all (ck 1)=true:=by decide +kernel
noncomputable def XM:List En:=[(0,[.Le (.l 1024) aR],.Le c7 aR),(0,[.Eq aR (.a (.a bJ dU) fP)],.Eq (.s aR (.a bJ dU)) fP),(0,[.Lt c7 (.s aR bJ)],.Le c7 (.s aR bJ)),(2,[.Eq (.a cQ kl) jk],.eq (.a aj bP) aw),(2,[.no (.Eq (.a cQ kl) jk)],.no (.eq (.a aj bP) aw)),(1,[.le aj (.l 900)],.le (.a aj lW) bR),(4,[.md bc aw cI 2],.Eq (.a (.m 2 cQ) jk) (.c (.a (.m 2 aj) aw))),(2,[.le (.a aj (.m 2 (.a aw bP))) (.l 900)],.le aj (.l 900)),(2,[.le (.a aj (.m 2 (.a aw bP))) (.l 900)],.le (.a (.a aj lW) (.m 2 aw)) (.l 900)),(1,[.le bP aj],.lt kU (.m 2 aj)),(0,[.Eq (.a bJ aR) dU],.Eq (.a aR bJ) dU),(0,[.Eq (.a aR dU) fP],.Eq (.a (.s (.s aR bJ) bJ) (.a (.a dU bJ) bJ)) fP),(0,[.Lt (.g (.m 2 bJ)) aR],.Le c7 (.a (.a aR bJ) bJ)),(0,[.Lt (.a aR bJ) c7],.Lt (.a (.a aR bJ) bJ) bJ),(0,[.Eq (.a aR dU) fP],.Eq (.a (.s aR bJ) (.a dU bJ)) fP),(0,[.no (.Lt (.a aR bJ) c7)],.Le c7 (.a aR bJ)),(0,[.Lt aR c7],.Lt (.a aR bJ) bJ),(1,[.le aj (.l 4000)],.le (.a (.a aj aj) aj) (.l 100000000)),(1,[.le aj (.l 4000)],.le (.a aj aj) (.l 134217728)),(1,[.le aj (.l 4000)],.le (.a aj aj) (.l 100000000)),(0,[.Lt c7 aR],.Le c7 (.s aR kl)),(0,[.Lt (.a (.s o9 fP) (.s (.a aR bJ) dU)) o9],.Lt (.s (.a aR bJ) dU) fP),(0,[.o (.Eq aR kl) (.o (.Eq aR c7) (.Eq aR (.l (-1))))],.o (.Eq aR kl) (.o (.Eq aR c7) (.o (.Eq aR (.l (-1))) (.o (.Eq aR (.l 7)) (.Eq aR (.l (-7))))))),(1,[.eq aj kU],.lt aj ua)]
theorem e9:XM.all (ck 1)=true:=by decide +kernel
noncomputable def XL:List En:=[(1,[.eq aj bP],.lt aj ua),(1,[.eq aj lW],.lt aj ua),(3,[.an (.le aj (.l 900)) (.an (.le aw bR) (.no (.eq bc kU)))],.le aj bR),(3,[.lt aj aw],.lt aj (.a aw bc)),(3,[.an (.le aj (.l 900)) (.an (.le aw bR) (.no (.eq bc kU)))],.le (.a aj bP) bR),(2,[.Eq cQ jk],.eq aj aw),(2,[.Lt cQ jk],.lt aj aw),(2,[.no (.Lt cQ jk)],.no (.lt aj aw)),(1,[.le aj bR],.le (.a aj bP) (.l 1001)),(1,[.le aj bR],.le (.a (.m 9 aj) (.l 20)) (.l 9020)),(4,[.an (.le (.a aj bP) aw) (.an (.le (.a aw lW) bc) (.le bc cI))],.an (.le aj aw) (.an (.le (.a aw lW) bc) (.le bc cI))),(2,[.sb aw (.a aj bP) (.a aj bP)],.eq aw kU),(4,[.le aj (.a aw cI)],.le aj (.a (.a aw bc) (.a cI bP))),(1,[.le aj (.l 16)],.le aj (.l 100)),(3,[.le (.a aw bP) bc],.le (.a aj aw) (.a aj bc)),(3,[.le (.a aw bP) bc],.le (.a (.a aj (.m 8 aw)) f1) (.a (.a aj (.m 8 bc)) f1)),(3,[.lt (.a (.a aj aw) (.l 8)) bc],.lt (.a (.a (.a aj kU) bP) aw) bc),(3,[.lt (.a (.a aj (.m 8 aw)) (.l 128)) bc],.lt (.a (.a (.a (.a aj kU) ua) (.m 8 aw)) f1) bc),(0,[.Lt aR c7],.Le aR (.l (-1))),(1,[.lt aj pP],.le aj (.l 9)),(1,[.lt kU aj],.no (.Eq cQ c7)),(1,[.le aj f1],.le aj bR),(3,[.md aw aj bc 2],.o (.Eq (.s kl (.m 2 cQ)) kl) (.Eq (.s kl (.m 2 cQ)) (.l (-1)))),(1,[.o (.eq aj lW) (.o (.eq aj (.l 4)) (.eq aj (.l 8)))],.le aj (.l 8))]
theorem e8:XL.all (ck 1)=true:=by decide +kernel
noncomputable def U6:List En:=[(0,[.Le c7 aR],.Le kl (.a kl aR)),(1,[.o (.eq aj (.l 4)) (.eq aj pP)],.le bP aj),(1,[.le aj (.l (5*4410))],.le (.a (.a lW aj) bP) (.l 30000)),(1,[.le aj (.l 8)],.Le (.m 3 cQ) (.l 24)),(1,[.Dv aR (.c (.a aj aj)) (2^1)],.Eq aR cQ),(1,[.le aj (.l 4000)],.le (.a (.a (.a aj aj) (.a aj aj)) aj) (.l 100000000)),(1,[.le aj (.l 4500)],.le aj (.l 9000)),(1,[.le aj (.l 4500)],.le (.a (.a aj aj) bP) (.l 100000000)),(1,[.le aj (.l 4500)],.le (.a aj bP) (.l 100000000)),(0,[.Le c7 aR],.Le c7 (.w aR 2)),(1,[.le (.a (.a aj aj) bP) (.l 4500)],.le (.a aj bP) (.l 4000)),(0,[.Le aR bJ],.Le (.w aR 2) (.w bJ 2)),(0,[.Lt aR bJ],.Lt (.w aR 2) (.w bJ 2)),(1,[.le bP (.a aj aj)],.le bP aj),(1,[.le (.a aj aj) (.l 4500)],.le aj (.l 4000))]
theorem gF:U6.all (ck 1)=true:=by decide +kernel
noncomputable def XK:List En:=[(3,[.eq aw bc,.lt aj bc],.lt aj aw),(1,[.le aj (.l (2^28)),.na aj aR],.le aj (.l (2^30))),(2,[.le aw pP,.eq aj aw],.le aj bR),(2,[.le aw bR,.eq aj aw],.le aj bR),(2,[.le aj (.a aw bP),.lt aw aj],.eq aj (.a aw bP)),(3,[.le aj aw,.sb bc aw aj],.eq (.a aj bc) aw),(2,[.le bP aj,.sb aw aj bP],.eq aj (.a aw bP)),(2,[.le aj lL,.le aw nr],.le (.a (.m 64 aj) (.m 64 aw)) (.l 100000)),(1,[.Le kl cQ,.Eq aR bJ],.Lt (.s aR cQ) bJ),(4,[.eq bc (.a cI bP),.sb bc aw aj],.lt aj aw),(1,[.Lt c7 aR,.na aj aR],.no (.eq aj kU)),(2,[.le aj (.l 4),.sb aw (.l 4) aj],.eq (.l 4) (.a aj aw)),(2,[.le aw pP,.eq aj aw],.le aj pP),(2,[.lt aj ua,.na aw cQ],.lt aw (.l (2^20))),(3,[.le aw nr,.na bc (.s (.c (.a aj aw)) cQ)],.lt bc (.l (2^20))),(2,[.eq aj aw,.le aw pP],.le aj bR),(3,[.lt aj bc,.eq aw bc],.lt aj aw),(3,[.eq bc kU,.sb bc aj aw],.le aj aw),(3,[.le bc aw,.lt aj bc],.le aj aw),(3,[.lt aw aj,.sb bc aj aw],.le bP bc),(3,[.dv bc (.a aj aw) 2,.Dv aR (.a cQ jk) (2^1)],.Eq aR yO),(3,[.lt aj bc,.dv aw (.a aj bc) 2],.le aj aw),(3,[.le aw aj,.dv aj (.a aw bc) 2],.Le c7 (.s cQ jk)),(2,[.le aj lL,.le aw nr],.le (.m 32 (.a (.m 2 aj) aw)) (.l 100000))]
theorem bq:XK.all (ck 2)=true:=by decide +kernel
noncomputable def XJ:List En:=[(3,[.eq aw (.a bc bP),.le aj bc],.lt aj aw),(1,[.le aj bR,.Lt aR cQ],.Lt aR (.l (2^63))),(1,[.le aj bR,.Le (.g cQ) aR],.Le (.l (- (2^63))) aR),(1,[.Lt aR c7,.na aj aR],.Eq (.g cQ) aR),(0,[.Le c7 bJ,.Le c7 aR],.Le c7 (.a aR bJ)),(3,[.lt aw (.m 2 bc),.dv aj aw 2],.lt aj bc),(3,[.le bc aw,.le aj bc],.le aj aw),(2,[.le aw (.l 900),.eq aj aw],.le aj bR),(2,[.o (.eq aw (.l 4)) (.eq aw pP),.eq aj aw],.le aj bR),(0,[.Lt aR dU,.Lt dU bJ],.Lt aR bJ),(2,[.le aj lL,.na aw (.a (.c (.m 64 aj)) (.c (.m 64 aj)))],.le aw (.l (2^28))),(2,[.le aw nr,.le aj lL],.le (.a (.m 64 aj) (.m 64 aw)) (.l (2^28))),(2,[.le aw (.l (2^28)),.na aw (.c (.m 64 aj))],.le aw (.l (2^30))),(2,[.le aj f1,.na aw (.a (.l 8192) (.c (.m 64 aj)))],.le aw (.l (2^28))),(2,[.le aj f1,.na aw (.a (.l 16384) (.c (.m 64 aj)))],.le aw (.l (2^28))),(5,[.eq aw eK,.sb eK (.w bc 64) cI],.le (.a (.m 64 aj) aw) (.a (.m 64 aj) (.m 64 bc))),(2,[.le aw nr,.le aj (.w aw 64)],.le aj (.l 2048)),(2,[.le bP aw,.eq aw kU],.eq aj kU),(3,[.eq bc aj,.le bc aw],.le aj aw),(2,[.no (.le aj (.l 4)),.sb aw aj (.l 4)],.eq aj (.a (.l 4) aw)),(2,[.no (.le aj (.l 4)),.sb aw aj (.l 4)],.eq (.a (.l 4) aw) aj),(2,[.o (.eq aw (.l 4)) (.eq aw pP),.dv aj aw 2],.le (.a aj lW) (.l 5)),(1,[.Le (.l 1024) aR,.Le cQ (.l 3)],.Le c7 (.s aR cQ)),(2,[.le aw (.l 4409),.le aj (.a aw bP)],.le aj (.l 4410))]
theorem dm:XJ.all (ck 2)=true:=by decide +kernel
noncomputable def XI:List En:=[(2,[.le (.l 10) aj,.sb aw aj bP],.eq (.a aw bP) aj),(2,[.le (.a aj lW) (.l 5),.dv aj aw 2],.le (.a (.a aj lW) lW) (.l 7)),(3,[.le aj (.w aw 7),.sb bc (.a aj aw) bP],.le bc (.w aw 30)),(2,[.le aw (.l 4409),.le aj (.w aw 7)],.le aj (.l 1000000)),(1,[.Le (.l 1024) aR,.Le cQ (.l 3)],.no (.Eq (.s aR cQ) c7)),(1,[.Le (.l 1024) aR,.Le cQ (.l 3)],.Lt c7 (.s aR cQ)),(2,[.lt aj (.a aw bP),.le aw aj],.eq aj aw),(1,[.Le (.a aR dU) bJ,.Lt cQ dU],.Lt (.a aR cQ) bJ),(1,[.le bP aj,.lt aj (.l (2^0))],.fa),(2,[.le bP aj,.le aj (.w aw 0)],.fa),(0,[.Le bJ aR,.Lt c7 bJ],.Le c7 aR),(3,[.lt aj aw,.sb bc aw bP],.le aj bc),(2,[.le aw (.l 30),.lt aj aw],.le aj bR),(4,[.le aw ua,.an (.le kU aj) (.an (.lt aj (.a kU aw)) (.eq bc cI))],.lt aj ua),(3,[.no (.eq aj bP),.md aw aj bc 2],.eq aj kU),(2,[.le aw ua,.le aj aw],.le aj (.l 100)),(2,[.le aw ua,.eq aj (.a aw lW)],.le aj (.l 10)),(2,[.le aw ua,.le aj aw],.le aj ua),(2,[.eq aj bP,.le aw bP],.le (.a aj aw) bR),(0,[.Le (.l (-1074)) aR,.Mn bJ aR (.l (-52))],.Le (.l (-1074)) bJ),(2,[.le aj aw,.le aw f1],.le (.m 64 aj) (.l (2^30))),(1,[.le bP aj,.Eq (.c (.m 64 aj)) c7],.fa),(2,[.le aj f1,.na aw cQ],.le aw (.l (2^18))),(2,[.le aj f1,.na aw (.m 4096 cQ)],.lt aw (.l (2^19)))]
theorem e7:XI.all (ck 2)=true:=by decide +kernel
noncomputable def XH:List En:=[(1,[.Le aR nW,.tn aj aR],.le aj f1),(1,[.le aj (.l ((2^16)*(2^1024))),.na aj (.s (.m 384 aR) (.w bJ (2^1074)))],.le aj (.l ((2^30)*(2^1024)))),(0,[.Eq (.m 384 bJ) (.l (192*(2^1074))),.Lt aR bJ],.Le (.m 384 aR) (.l ((192*(2^1074))+((2^17)*(2^1024))))),(0,[.Eq (.m 384 bJ) (.l (192*(2^1074))),.no (.Lt aR bJ)],.Le (.l ((192*(2^1074)) - ((2^17)*(2^1024)))) (.m 384 aR)),(1,[.Le (.l 256) aR,.tn aj (.s (.l 256) aR)],.eq aj kU),(3,[.le bP aw,.sb bc (.a aj aw) bP],.Eq (.s (.a cQ jk) kl) yO),(3,[.le bP aw,.sb bc (.a aw aj) bP],.le (.m 1 aj) bc),(2,[.le aw pP,.lt aj aw],.lt aj pP),(2,[.le aw pP,.lt aj aw],.le aj (.l 9)),(3,[.eq aw bc,.no (.lt aj bc)],.no (.lt aj aw)),(5,[.an (.le bc cI) (.an (.le (.a cI lW) aw) (.le aw eK)),.le aj (.a bc bP)],.le (.a aj bP) aw),(3,[.le (.a bc (.a aw bP)) (.l 900),.le aj (.a bc bP)],.le (.a aj aw) (.l 900)),(3,[.eq aw bc,.Lt cQ yO],.lt aj aw),(3,[.eq aj bc,.no (.Lt jk yO)],.le aj aw),(2,[.lt aj ul,.lt aw ua],.le (.a aj (.m 128 aw)) bR),(2,[.o (.an (.Eq (.m 7 aR) c7) (.eq aw kU)) (.o (.an (.Eq (.m 7 aR) (.l 7)) (.eq aw bP)) (.an (.Eq (.m 7 aR) (.l (-7))) (.eq aw lW))),.na aj aR],.lt aj (.l (2^20))),(2,[.Le (.c (.a aj bP)) aR,.tn aw aR],.le (.a aj bP) aw),(2,[.le aw bP,.le aj (.l 100)],.le (.a aj aw) (.l 202)),(2,[.le aj (.l 300),.le aw (.l 300)],.le (.a aj aw) bR),(2,[.le aw bP,.eq aj lW],.le (.a aj aw) bR),(0,[.Le aR tA,.no (.Eq aR tA)],.Lt aR tA),(2,[.eq aj (.a aw bP),.le aj aw],.fa),(3,[.eq bc aw,.lt aj bc],.lt aj aw),(3,[.eq aj bc,.no (.lt aw bc)],.le aj aw)]
theorem eZ:XH.all (ck 2)=true:=by decide +kernel
noncomputable def XG:List En:=[(3,[.no (.lt aj aw),.sb bc aj aw],.eq aj (.a aw bc)),(1,[.Le c7 aR,.tn aj aR],.Eq aR cQ),(3,[.le (.l 12) bc,.lt (.a aj bc) aw],.lt (.a (.a aj lW) (.l 8)) aw),(3,[.le (.l 12) bc,.lt (.a (.a aj (.m 8 bc)) f1) aw],.lt (.a (.a (.a aj bP) (.l (8*2))) (.l 128)) aw),(4,[.le aw cI,.lt (.a aj cI) bc],.lt (.a aj aw) bc),(4,[.le aw cI,.lt (.a (.a aj (.m 8 cI)) f1) bc],.lt (.a (.a aj (.m 8 aw)) f1) bc),(3,[.le aw (.m 16 bc),.le aj (.l 16)],.le (.a aj aw) (.m 16 (.a bc bP))),(2,[.eq aj aw,.le aw pP],.le aj pP),(3,[.eq aw bc,.eq aj bc],.eq aj aw),(2,[.eq aj aw,.le aw pP],.Le cQ nX),(2,[.eq aj aw,.le bP aw],.lt kU aj),(2,[.le aw (.l 100),.eq aj (.a aw lW)],.le aj bR),(2,[.le aw (.l 100),.eq aj (.a aw lW)],.le aj (.l 800)),(2,[.le aw (.l 100),.eq aj (.a aw ua)],.le aj bR),(2,[.le aw (.l 100),.eq aj (.a aw ua)],.le aj (.l 800)),(2,[.eq aj aw,.le bP aw],.an (.Le c7 (.a (.l (-1)) cQ)) (.Lt (.a (.l (-1)) cQ) cQ)),(3,[.tn aw (.a (.l (-1)) cQ),.sb bc aj bP],.eq aw bc),(2,[.le aw (.l 16),.eq aj (.a aw lW)],.le aj bR),(2,[.le aw (.l 16),.eq aj (.a aw lW)],.le aj (.l 900)),(4,[.lt aj cI,.sb bc aj (.a aw bP)],.le (.a (.a (.a (.l (1+1)) (.a (.m 9 bc) (.l 7))) bP) ua) (.m 1 (.a (.m 9 cI) (.l 20)))),(3,[.lt aw aj,.sb bc (.a aj bP) aw],.le bP bc),(5,[.le aj eK,.sb bc aj (.a aw bP)],.le (.a (.a (.a (.l (1+1)) (.a (.m 9 bc) (.l 7))) bP) (.a cI bP)) (.a cI (.a (.m 9 eK) (.l 20)))),(3,[.eq aw bc,.lt aw bc],.no (.eq aj (.l 34))),(3,[.eq aw aj,.sb bc (.a aj bP) aw],.le bP bc)]
theorem eY:XG.all (ck 2)=true:=by decide +kernel
noncomputable def XF:List En:=[(3,[.Md bJ aR cQ 2,.md bc aw aj 2],.Eq aR jk),(3,[.le aj bc,.le bc aw],.le aj aw),(2,[.lt kU aj,.sb aw aj bP],.lt aw aj),(3,[.lt bc aw,.sb bc aj bP],.le aj aw),(4,[.le aj (.a (.a aw cI) (.m 2 bc)),.eq cI lW],.le aj (.a aw (.m 2 (.a bc bP)))),(3,[.le bc (.m 28 aw),.le aj (.a bc (.l (2*14)))],.le aj (.m 28 (.a aw bP))),(2,[.le aj pP,.na aw cQ],.lt aw (.l (2^20))),(2,[.le aw pP,.lt aj (.m 2 aw)],.le (.m 28 aj) (.l 400)),(0,[.Eq dU c7,.Eq dU (.s (.a bJ bJ) (.m 2 aR))],.Eq aR bJ),(0,[.Md o9 fP (.m 2 uc) 2,.Md bJ aR dU 2],.no (.an (.Eq aR kl) (.Eq fP kl))),(0,[.Le c7 aR,.Lt aR kl],.Eq aR c7),(0,[.Eq bJ (.w dU (2^0)),.Eq bJ (.s (.a (.w dU (2^0)) c7) (.m 2 aR))],.Eq aR c7),(0,[.Lt bJ (.w dU 2),.Dv aR bJ 2],.Lt aR dU),(0,[.Le c7 bJ,.Dv aR bJ 2],.Le c7 aR),(0,[.Md o9 fP uc 2,.Md bJ aR (.m 2 dU) 2],.no (.an (.Eq aR kl) (.Eq fP kl))),(0,[.Eq o9 (.s (.a bJ dU) (.m 2 fP)),.Eq o9 (.s aR fP)],.Eq aR (.s (.a bJ dU) fP)),(1,[.Le c7 aR,.tn aj aR],.Eq (.s aR c7) cQ),(1,[.no (.Lt c7 aR),.tn aj aR],.Eq c7 cQ),(3,[.lt aj aw,.sb bc aw aj],.eq (.a aj bc) aw),(3,[.le bc aw,.eq (.a aj bP) bc],.lt aj aw),(3,[.le bc aw,.Eq (.a cQ kl) yO],.lt aj aw),(3,[.Eq (.a jk kl) cQ,.sb bc aj aw],.eq bc bP),(3,[.lt aw bc,.dv aj (.a aw bc) 2],.lt aj bc),(2,[.le aw (.l 10000),.le aj (.l 100000)],.le (.a (.a aj (.m 1000 (.a aw bP))) bP) (.l 100000000))]
theorem fC:XF.all (ck 2)=true:=by decide +kernel
noncomputable def XE:List En:=[(3,[.le aw aj,.dv aj (.a aw bc) 2],.le aj bc),(3,[.le (.a aw (.a bc bP)) bR,.eq aj aw],.le aj bR),(2,[.le aj lL,.le aw nr],.le (.m 64 (.a (.m 2 aj) aw)) (.l 100000)),(2,[.le aw nr,.le aj lL],.le (.m 64 (.a aj aw)) (.l (2^28))),(2,[.le aw nr,.le aj lL],.le (.a aj aw) f1),(1,[.Md bJ aR (.a (.a cQ (.l (128*1))) (.m 384 dU)) 384,.Md o9 fP (.a cQ (.l 128)) 384],.Eq aR fP),(1,[.Md bJ aR (.a (.a cQ (.l (128*0))) (.m 384 dU)) 384,.Md o9 fP cQ 384],.Eq aR fP),(1,[.Md bJ aR (.a (.a cQ (.l (128*(-1)))) (.m 384 dU)) 384,.Md o9 fP (.s cQ (.l 128)) 384],.Eq aR fP),(2,[.o (.an (.Eq aR c7) (.eq aw kU)) (.o (.an (.Eq aR (.l 7)) (.eq aw bP)) (.an (.Eq aR (.l (-7))) (.eq aw lW))),.na aj aR],.le aj (.l 7)),(2,[.o (.an (.Eq aR kl) (.eq aw kU)) (.o (.an (.Eq aR c7) (.eq aw (.l 128))) (.an (.Eq aR (.l (-1))) (.eq aw (.l 256)))),.na aj aR],.le aj bP),(3,[.eq bc aw,.eq aj bc],.eq aj aw),(2,[.lt aj (.l 53),.sb aw (.l 52) aj],.eq (.a (.a aj bP) aw) (.l 53)),(2,[.lt aj (.l 53),.sb aw (.l 52) aj],.eq (.a aj aw) (.l 52)),(4,[.eq bc cI,.lt bc cI],.eq aj aw),(4,[.eq bc cI,.lt cI bc],.eq aj aw),(1,[.le aj (.l (2^30)),.na aj aR],.lt aj (.l (2^53))),(1,[.no (.Lt aR c7),.na aj aR],.Eq cQ aR),(1,[.eq kU (.w aj (2^1062)),.na aj aR],.Eq aR c7),(2,[.lt kU aw,.eq aw kU],.eq aj kU),(0,[.Lt bJ c7,.Le c7 bJ],.Lt aR c7),(0,[.Eq (.a bJ aR) c7,.Lt bJ c7],.no (.Lt aR c7)),(0,[.Lt c7 aR,.Eq aR c7],.fa),(1,[.Lt c7 aR,.na aj aR],.lt kU aj),(3,[.lt bc (.l 128),.md aw aj bc (2^8)],.eq aj bc)]
theorem eX:XE.all (ck 2)=true:=by decide +kernel
noncomputable def XD:List En:=[(0,[.Le c7 aR,.Le aR nX],.an (.Le (.l (-9223372036854775808)) aR) (.Lt aR (.l 9223372036854775808))),(2,[.le aj lL,.le aw (.l (32*64))],.le (.a (.m 64 aj) aw) (.l 4096)),(2,[.le bP aw,.le (.a (.m 2 aj) aw) f1],.an (.le bP (.a (.m 2 aj) aw)) (.an (.le aw (.a (.m 2 aj) aw)) (.le (.a (.m 2 aj) aw) f1))),(2,[.le aj lL,.le aw nr],.le (.a (.m 2 aj) aw) (.l 128)),(2,[.Lt (.s (.s (.l 128) cQ) (.c (.a aj aw))) (.a cQ (.c (.a aj aw))),.le (.a (.m 2 aj) aw) f1],.Eq (.s (.s (.l 128) cQ) (.c (.a aj aw))) (.c (.a (.m 2 aj) aw))),(3,[.an (.le bP aj) (.an (.le bc aj) (.le aj f1)),.na aw cQ],.le aw (.l (2^18))),(3,[.an (.le bP aj) (.an (.le bc aj) (.le aj f1)),.na aw (.m 4096 cQ)],.le aw (.l (2^30))),(4,[.eq aj bc,.le (.a bc cI) aw],.le aj aw),(2,[.lt aw aj,.sb aw aj bP],.eq (.a aw bP) aj),(3,[.lt aj bc,.sb bc aw aw],.fa),(0,[.Eq bJ fP,.Eq uc o9],.Eq (.s (.a aR bJ) (.a aR dU)) (.a (.s fP o9) (.s uc dU))),(0,[.Lt (.g dU) bJ,.Le dU aR],.Le (.g aR) bJ),(0,[.Lt aR dU,.Le dU bJ],.Le aR bJ),(0,[.Le kl bJ,.Le (.w bJ 1024) aR],.Le c7 aR),(0,[.Le (.l 1024) aR,.Le bJ (.l 3)],.Lt c7 (.s aR bJ)),(1,[.Le kl aR,.tn aj aR],.Eq aR cQ),(1,[.Le kl aR,.tn aj aR],.le bP aj),(3,[.le bc aw,.Eq (.a cQ kl) yO],.Lt cQ jk),(3,[.Eq cQ kl,.md aw aj bc 2],.eq aj bP),(3,[.le bP aw,.sb bc (.a aj (.m 2 aw)) bP],.Eq (.a (.s cQ kl) (.c (.m 2 aw))) yO),(5,[.sb eK (.a (.m 2 aj) bP) aw,.md bc aw cI 2],.Eq (.s (.a (.m 2 cQ) kl) jk) EQ),(3,[.le aj bc,.le (.a bc aw) (.l 100000000)],.Le (.a cQ jk) (.l 134217728)),(0,[.Lt c7 aR,.Le c7 bJ],.Lt c7 (.a aR bJ)),(0,[.Lt (.a aR dU) bJ,.Le c7 dU],.Lt aR bJ)]
theorem eV:XD.all (ck 2)=true:=by decide +kernel
noncomputable def XC:List En:=[(0,[.no (.Eq aR bJ),.Lt aR (.a bJ kl)],.Lt aR bJ),(0,[.Le (.a aR fP) dU,.Lt bJ fP],.Lt (.a aR bJ) dU),(0,[.Eq aR (.m 2 bJ),.Lt c7 bJ],.Le (.l 2) aR),(0,[.Lt (.g (.m 2 aR)) bJ,.Lt (.a (.a bJ aR) aR) c7],.fa),(1,[.le aj (.l (2^1024)),.na aj (.s (.s c7 aR) bJ)],.le aj (.l (4*(2^1024)))),(2,[.le aj lL,.le aw nr],.le (.a aj aw) f1),(6,[.md aw aj bc 384,.md cI bc (.a eK (.m 128 jZ)) 384],.eq aj bc),(3,[.lt bc ua,.md aw aj (.a bc kU) 3],.eq aj bc),(2,[.lt aw aj,.sb aw aj bP],.le bP aj),(3,[.lt aw bc,.le (.a aj bP) aw],.an (.le aj aj) (.an (.le (.a aj lW) (.a aw bP)) (.le (.a aw bP) bc))),(3,[.lt aj ua,.mn bc aj aw],.le bc ua),(2,[.le aj f1,.na aw cQ],.lt aw (.l (2^20))),(4,[.tn bc (.s cQ jk),.sb cI aj aw],.eq bc cI),(3,[.le aj bc,.eq bc aw],.Le cQ jk),(3,[.lt bc aw,.le aj bc],.le aj aw),(2,[.le aw (.l 16),.eq aj (.a aw bP)],.le aj bR),(2,[.le aw (.l 16),.eq aj (.a aw bP)],.le aj (.l 100)),(2,[.le aw (.l 16),.eq aj (.a bP aw)],.le aj bR),(2,[.le aw (.l 16),.eq aj (.a bP aw)],.le aj (.l 100)),(2,[.lt aj aw,.Mn aR cQ cQ],.Lt (.s aR c7) jk),(2,[.no (.lt aj aw),.Mn aR cQ cQ],.no (.Lt (.s aR c7) jk)),(1,[.Lt c7 aR,.na aj aR],.Eq cQ aR),(1,[.Lt (.a aR bJ) c7,.na aj (.a aR bJ)],.Eq (.g cQ) (.a aR bJ)),(1,[.no (.Lt (.a aR bJ) c7),.na aj (.a aR bJ)],.Eq cQ (.a aR bJ))]
theorem eU:XC.all (ck 2)=true:=by decide +kernel
noncomputable def XB:List En:=[(2,[.o (.eq aw (.l 4)) (.eq aw pP),.lt aj aw],.lt aj pP),(4,[.na cI cQ,.md aw aj bc 2],.lt cI (.l (2^20))),(2,[.lt aj lW,.na aw cQ],.lt aw (.l (2^20))),(1,[.o (.Eq aR kl) (.Eq aR (.l (-1))),.na aj aR],.lt aj (.l (2^20))),(2,[.lt aj lW,.na aw (.s (.m 2 cQ) kl)],.lt aw (.l (2^20))),(2,[.lt aw (.l 4400),.eq (.a (.l 10) aw) aj],.le (.m 2 aj) (.l 134217728)),(0,[.Le kl aR,.Le aR bJ],.Lt aR (.w bJ 2)),(2,[.lt aw (.l 4400),.eq (.a (.l 10) aw) aj],.lt (.a aj bP) (.l 9000)),(2,[.lt aw (.l 4400),.eq (.a (.l 10) aw) aj],.le aj (.l 4409)),(2,[.lt aw (.l 4400),.eq (.a (.l 10) aw) aj],.le aj (.l 10000)),(2,[.lt aw (.l 4400),.eq (.a (.l 10) aw) aj],.le (.a aj bP) (.l 4410)),(0,[.Le kl aR,.Le (.m 128 aR) bJ],.Lt aR bJ),(2,[.lt aw (.l 4400),.eq (.a (.l 10) aw) aj],.le (.a (.l 30000) aj) (.l 134217728)),(3,[.sb bc (.a aj aj) bP,.sb aw aj bP],.eq (.a aw aj) bc),(1,[.no (.Eq aR c7),.Md bJ aR cQ 2],.Eq aR kl),(0,[.Lt aR bJ,.Le c7 aR],.Lt (.w aR 2) (.w bJ (2*2))),(3,[.sb bc (.a (.a aj aj) bP) bP,.sb aw (.a (.a aj bP) (.a aj bP)) bP],.eq aw (.a bc bP))]
theorem hJ:XB.all (ck 2)=true:=by decide +kernel
noncomputable def XA:List En:=[(3,[.le aw lL,.le bc nr,.le aj (.a (.m 64 aw) (.m 64 bc))],.le aj (.l 100000)),(3,[.le aw pP,.lt bc aw,.eq aj bc],.le aj pP),(3,[.le aw nr,.le bc lL,.le aj (.a (.m 64 bc) (.m 64 aw))],.le aj (.l (2^28))),(4,[.le (.a aw bP) aj,.sb bc aj aw,.sb cI aj (.a aw bP)],.eq bc (.a cI bP)),(4,[.le bc cI,.le cI bR,.dv aj (.a aw bc) 2],.Lt (.s cQ jk) (.l (2^64))),(3,[.le bc pP,.lt aj bc,.na aw cQ],.lt aw (.l (2^20))),(5,[.le aj cI,.sb bc aj aw,.sb eK cI aw],.le bc eK),(0,[.Le (.l 1024) bJ,.Eq aR dU,.Dv dU bJ 128],.Lt c7 aR),(0,[.Le (.l 1024) bJ,.Eq aR dU,.Dv dU bJ 16],.Lt c7 aR),(2,[.le aj (.l 4000),.le aw (.a aj aj),.no (.Le (.s jk cQ) (.l 4000))],.fa),(5,[.eq (.a bc eK) (.a (.m 64 aj) (.m 64 aw)),.le eK (.l 2048),.na cI (.s (.c (.a (.m 64 aj) (.m 64 aw))) yO)],.le cI (.l (2^28))),(4,[.le (.a aw bP) aj,.sb bc aj (.a aw bP),.sb cI aj aw],.le (.a pP (.a (.m 9 bc) (.l 7))) (.a (.m 9 cI) (.l 7))),(4,[.le (.a aw lW) aj,.sb bc aj (.a aw lW),.sb cI aj aw],.le (.a (.l 9) (.a (.m 9 bc) (.l 7))) (.a (.m 9 cI) (.l 7))),(5,[.eq aw eK,.le bc (.w cI 64),.sb eK (.w cI 64) bc],.eq (.a (.a (.m 64 aj) aw) bc) (.a (.m 64 aj) (.m 64 cI))),(4,[.le cI (.m 4 (.a bc bP)),.le aj cI,.sb aw aj (.l 4)],.le aw (.m 4 bc)),(3,[.le aw (.m 4 (.a aj bP)),.le bc aw,.no (.le bc (.l 4))],.lt kU aj),(5,[.sb eK bc cI,.sb cI (.a aw bP) bP,.sb bc (.a aj (.a aw bP)) bP],.eq eK aj),(3,[.lt aj aw,.le bc kU,.sb bc aw aj],.fa),(5,[.eq (.a aw bc) eK,.lt bc cI,.sb eK (.a aj cI) bP],.le aj aw),(2,[.an (.Le c7 aR) (.Lt aR bJ),.Eq jk bJ,.na aj aR],.le aj aw),(2,[.le aw (.l (2^18)),.na aw aR,.na aj (.m 4096 aR)],.le aj (.l (2^30))),(2,[.Eq jk (.l (2^1024)),.le aj (.a (.m (2^50) aw) aw),.na aj aR],.lt aj (.m (2^51) aw)),(0,[.Le aR (.a bJ dU),.Lt dU fP,.Le (.a bJ fP) aR],.fa),(2,[.le aw (.m (2^16) aj),.Le (.m 384 dU) (.a bJ (.m (2^17) cQ)),.nb aw (.s (.m 384 dU) aR)],.Le aR (.a bJ (.m (2^18) cQ)))]
theorem cO:XA.all (ck 3)=true:=by decide +kernel
noncomputable def Xz:List En:=[(2,[.le aw (.m (2^16) aj),.Le (.s aR (.m (2^17) cQ)) (.m 384 dU),.nb aw (.s (.m 384 dU) bJ)],.Le aR (.a bJ (.m (2^18) cQ))),(1,[.le aj (.l (64*(2^1024))),.Lt aR bJ,.nb aj (.s (.m 384 bJ) (.l (64*(2^1074))))],.Le (.m 384 aR) (.l ((64*(2^1074))+((2^17)*(2^1024))))),(1,[.le aj (.l (64*(2^1024))),.no (.Lt aR bJ),.nb aj (.s (.m 384 bJ) (.l (64*(2^1074))))],.Le (.l ((64*(2^1074)) - ((2^17)*(2^1024)))) (.m 384 aR)),(1,[.Le nW aR,.Le aR nW,.tn aj aR],.eq aj f1),(1,[.le aj (.l (64*(2^1024))),.Lt aR bJ,.nb aj (.s (.m 384 bJ) (.l (256*(2^1074))))],.Le (.m 384 aR) (.l ((256*(2^1074))+((2^17)*(2^1024))))),(1,[.Le (.l 192) aR,.Le aR (.l 192),.tn aj (.s (.l 256) aR)],.eq f1 aj),(1,[.le aj (.l (64*(2^1024))),.no (.Lt aR bJ),.nb aj (.s (.m 384 bJ) (.l (256*(2^1074))))],.Le (.l ((256*(2^1074)) - ((2^17)*(2^1024)))) (.m 384 aR)),(3,[.le aw bR,.le aj bc,.lt bc aw],.le aj bR),(4,[.no (.lt bc aj),.mn aw aj aj,.sb cI aw bc],.eq cI kU),(5,[.le aw bR,.an (.le bc cI) (.an (.le (.a cI lW) eK) (.le eK aw)),.le aj (.a bc bP)],.le aj bR),(3,[.le aw bR,.le bc aw,.le aj bc],.le aj bR),(5,[.no (.lt cI aj),.mn bc aj aw,.sb eK bc cI],.eq eK kU),(3,[.le aw (.l 800),.eq bc aw,.le aj (.a bc bP)],.le (.a kU aj) (.l 900)),(3,[.le aj lL,.le aw nr,.na bc (.a cQ (.c (.a aj aw)))],.lt bc (.l (2^20))),(2,[.lt aj aw,.Eq jk bJ,.na aj aR],.Le (.g aR) bJ),(2,[.lt aj aw,.Eq jk bJ,.na aj aR],.Lt aR bJ),(3,[.eq aw kU,.Md bJ aR cQ 2,.md bc aw aj 2],.Eq aR c7),(3,[.eq bc kU,.dv aw aj 2,.md aw bc aj 2],.eq aj (.m 2 aw)),(3,[.eq aw bP,.Md bJ aR cQ 2,.md bc aw aj 2],.no (.Eq aR c7)),(3,[.eq bc bP,.dv aw aj 2,.md aw bc aj 2],.eq aj (.a (.m 2 aw) bP)),(3,[.le aw bP,.le aj bc,.le bc (.l 998)],.le (.a aj aw) bR),(3,[.le aw bP,.le aj (.l 100),.le bc (.l 100)],.le (.a (.a aj aw) bc) (.l 202)),(2,[.Le c7 aR,.Lt aR jk,.tn aj aR],.lt aj aw),(3,[.le aj aw,.eq bc kU,.sb bc aw aj],.eq aj aw)]
theorem eT:Xz.all (ck 3)=true:=by decide +kernel
noncomputable def Xy:List En:=[(3,[.eq aw bc,.le bc pP,.le aj (.m 16 aw)],.le aj bR),(3,[.eq aj bc,.le bP bc,.sb aw aj bP],.lt aw aj),(4,[.lt aw aj,.sb bc (.a aj bP) aw,.sb cI (.a aj bP) (.a aw bP)],.eq bc (.a cI bP)),(4,[.lt cI lW,.sb bc aj (.a aw bP),.sb cI aj aw],.lt bc lW),(4,[.eq aj bc,.lt cI aj,.dv bc (.a cI aw) 2],.lt aj aw),(3,[.lt aj bc,.no (.Eq (.a cQ kl) yO),.dv aw (.a aj bc) 2],.lt aj aw),(4,[.le bc cI,.le aw aj,.dv aj (.a aw bc) 2],.le aj cI),(3,[.le aj lL,.le aw nr,.na bc (.s (.l 8192) (.c (.a (.m 64 aj) (.m 64 aw))))],.le bc (.l (2^28))),(3,[.le aj lL,.le aw nr,.sb bc (.l 128) (.a (.m 2 aj) aw)],.Eq (.s (.s (.l 8192) (.c (.a (.m 64 aj) (.m 64 aw)))) (.c (.m 64 aj))) (.c (.m 64 bc))),(3,[.le aj lL,.le aw nr,.sb bc (.l 128) (.a (.m 2 aj) aw)],.no (.Eq (.c (.m 64 bc)) c7)),(3,[.le aw pP,.lt bc aw,.eq aj bc],.le aj bR),(3,[.le aw pP,.lt bc aw,.eq aj (.a bc bP)],.le aj bR),(3,[.le bP aj,.eq aw (.a (.m 64 bc) (.m 64 aj)),.eq aw (.m 64 bc)],.fa),(4,[.le (.l 52) bc,.sb aw (.l 52) aj,.sb cI bc aw],.eq (.a aw cI) bc),(3,[.le aj lL,.le aw nr,.sb bc (.l 128) (.a (.m 2 aj) aw)],.Eq (.s (.s (.l 128) cQ) (.c (.a aj aw))) yO),(3,[.no (.Lt (.s (.s (.l 128) cQ) (.c (.a aj aw))) (.a cQ (.c (.a aj aw)))),.no (.le (.a (.m 2 aj) aw) f1),.sb bc (.l 128) (.a (.m 2 aj) aw)],.Eq (.a cQ (.c (.a aj aw))) yO),(5,[.eq aj cI,.eq aw eK,.le (.a cI eK) bc],.le (.a aj aw) (.a bc bP)),(5,[.lt eK cI,.sb bc aj aw,.sb eK aj (.a aw bP)],.lt bc (.a cI bP)),(5,[.lt (.a aj bP) eK,.sb cI aw (.a bc bP),.sb eK aw bc],.lt aj cI),(4,[.eq aw bc,.lt cI bc,.sb cI aj kU],.lt aj aw),(3,[.le aw bR,.eq bc aw,.lt aj bc],.Lt cQ (.l ((2^63) -1))),(0,[.Eq (.a (.a o9 dU) uc) aR,.Eq fP (.a vD uc),.Eq vD (.s o9 bJ)],.Eq aR (.a (.a bJ dU) fP)),(3,[.le aj bc,.le bc (.l 100000000),.le aw (.l 10000000)],.Le (.a cQ jk) (.l 134217728)),(0,[.Lt aR fP,.Eq fP (.a bJ o9),.Lt o9 dU],.Lt aR (.a bJ dU))]
theorem eS:Xy.all (ck 3)=true:=by decide +kernel
noncomputable def Xx:List En:=[(5,[.le aw bR,.mn bc aj aw,.sb eK bc cI],.le eK bR),(3,[.le aj lL,.le aw nr,.na bc (.c (.a aj aw))],.lt bc (.l (2^20))),(4,[.le aw aj,.sb bc (.a aj bP) aw,.sb cI aj aw],.eq bc (.a cI bP)),(5,[.eq aj cI,.sb bc aj aw,.tn eK (.s Ij jk)],.le bc eK),(3,[.le aw (.l 16),.eq aj (.a bc aw),.le bc (.l 16)],.le aj bR),(3,[.le aw (.l 16),.eq aj (.a bc aw),.le bc (.l 16)],.le aj (.l 800)),(3,[.Le dU (.m (-1) cQ),.lt (.m 2 bc) aj,.nb bc (.s jk dU)],.Eq aR bJ),(3,[.Le (.m 1 cQ) dU,.lt (.m 2 bc) aj,.nb bc (.s (.g jk) dU)],.Eq aR bJ),(0,[.Le (.l 1024) bJ,.Eq aR dU,.Dv dU bJ 128],.no (.Eq aR c7)),(0,[.Le (.l 1024) bJ,.Eq aR dU,.Dv dU bJ 16],.no (.Eq aR c7)),(0,[.Eq dU fP,.Lt aR dU,.Dv fP bJ 128],.Le (.m 128 (.a kl aR)) bJ),(0,[.Eq dU fP,.Lt aR dU,.Dv fP bJ 16],.Lt (.m 16 aR) bJ),(3,[.le aw pP,.le aj (.a bc lW),.dv bc aw 2],.le aj (.l 30)),(3,[.le aw pP,.le aj (.a bc lW),.dv bc aw 2],.le aj (.l 5)),(0,[.Eq (.a o9 uc) fP,.Eq (.a dU aR) (.a vD uc),.Eq o9 (.a bJ vD)],.Eq (.a aR (.a bJ dU)) fP),(2,[.Eq aR kl,.Md bJ aR cQ 2,.dv aw aj 2],.eq aj (.a (.a aw aw) bP)),(2,[.Eq aR c7,.Md bJ aR cQ 2,.dv aw aj 2],.eq aj (.a aw aw))]
theorem hG:Xx.all (ck 3)=true:=by decide +kernel
noncomputable def Xw:List En:=[(2,[.Lt c7 aR,.Lt aR bJ,.Eq jk bJ,.na aj aR],.lt aj aw),(4,[.eq aw bc,.le bc pP,.le cI (.m 16 aw),.eq aj cI],.le aj (.l 900)),(5,[.le bc eK,.le eK bR,.sb cI aj aw,.dv aj (.a aw bc) 2],.le cI bR),(0,[.Le aR bJ,.o (.Eq dU bJ) (.o (.Eq fP bJ) (.Eq aR bJ)),.Lt dU fP,.Lt fP aR],.Eq aR bJ),(0,[.Le aR bJ,.o (.Eq dU bJ) (.o (.Eq aR bJ) (.Eq fP bJ)),.Lt dU aR,.no (.Lt aR fP)],.Eq aR bJ),(0,[.Le aR bJ,.o (.Eq dU bJ) (.o (.Eq fP bJ) (.Eq aR bJ)),.no (.Lt dU fP),.Lt dU aR],.Eq aR bJ),(0,[.Le aR bJ,.o (.Eq aR bJ) (.o (.Eq dU bJ) (.Eq fP bJ)),.no (.Lt aR dU),.no (.Lt aR fP)],.Eq aR bJ),(0,[.Le bJ aR,.o (.Eq dU bJ) (.o (.Eq fP bJ) (.Eq aR bJ)),.Lt fP dU,.Lt aR fP],.Eq aR bJ),(0,[.Le bJ aR,.o (.Eq dU bJ) (.o (.Eq aR bJ) (.Eq fP bJ)),.Lt aR dU,.no (.Lt fP aR)],.Eq aR bJ),(0,[.Le bJ aR,.o (.Eq dU bJ) (.o (.Eq fP bJ) (.Eq aR bJ)),.no (.Lt fP dU),.Lt aR dU],.Eq aR bJ),(0,[.Le bJ aR,.o (.Eq aR bJ) (.o (.Eq dU bJ) (.Eq fP bJ)),.no (.Lt dU aR),.no (.Lt fP aR)],.Eq aR bJ),(5,[.eq aw cI,.le aj (.w bc 64),.eq (.a (.m 64 eK) aw) (.a (.m 64 eK) (.m 64 bc)),.sb cI (.w bc 64) aj],.eq aj kU),(1,[.Le (.l 1024) bJ,.Le cQ (.l 3),.Eq dU (.w aR 2),.Eq bJ dU],.Le aR (.s bJ cQ)),(2,[.Le aR bJ,.lt aj aw,.Eq jk aR,.na aj bJ],.fa),(3,[.tn bc (.a aR (.l 1074)),.tn aw (.a bJ (.l 1074)),.tn aj (.s aR bJ),.Mn bJ aR (.l (-52))],.eq (.a aj aw) bc),(2,[.Le (.l (-1074)) aR,.tn aw (.a bJ (.l 1074)),.tn aj (.s (.l (-52)) bJ),.Mn bJ aR (.l (-52))],.eq (.a (.l 52) (.a aj aw)) (.l 1074)),(7,[.le aj eK,.an (.le eK aw) (.an (.le (.a aw lW) uk) (.le uk bc)),.mn cI aw bc,.sb jZ cI eK],.le (.a aj jZ) uk),(5,[.le eK (.l 800),.eq aw eK,.le (.a aj cI) (.a (.l (0+0)) aw),.sb cI aw bc],.le (.a aj cI) bR),(2,[.Le c7 aR,.no (.Eq aR c7),.tn aj aR,.sb aw aj bP],.eq aj (.a aw bP)),(4,[.eq aw bc,.le bc pP,.le cI (.m 16 aw),.eq aj cI],.le aj (.l 800)),(4,[.lt aj aw,.lt cI lW,.le (.a bc bP) aj,.sb cI aw bc],.fa),(2,[.Le c7 aR,.Lt aR bJ,.Eq jk bJ,.na aj aR],.lt aj aw),(5,[.eq eK aj,.lt cI bc,.sb aw aj bP,.sb eK bc cI],.eq aj (.a aw bP)),(4,[.lt aj bc,.no (.eq (.a aj bP) bc),.eq aw cI,.dv cI (.a aj bc) 2],.lt aj aw)]
theorem ee:Xw.all (ck 4)=true:=by decide +kernel
noncomputable def Xv:List En:=[(6,[.le jZ (.a eK bP),.sb jZ bc aw,.sb cI aj aw,.dv aj (.a aw bc) 2],.le cI eK),(6,[.le bc eK,.sb jZ eK aw,.sb cI aj aw,.dv aj (.a aw bc) 2],.le cI jZ),(2,[.le aj aw,.Le c7 aR,.na aj bJ,.na aw aR],.an (.Le (.g aR) bJ) (.Le bJ aR)),(2,[.Lt (.g bJ) (.m 2 aR),.Lt (.m 2 aR) bJ,.na aj aR,.na aw bJ],.lt (.m 2 aj) aw),(5,[.le aj (.l 1500),.lt eK (.l (2^53)),.sb bc (.l 52) aw,.sb cI aj bc],.lt (.a (.w cI (2^52)) eK) (.l (2047*(2^52)))),(4,[.le aj (.m 2 aw),.lt (.w bc (2*(2^1100))) aj,.le aw cI,.eq (.w bc (2*(2^1100))) (.m 2 cI)],.fa),(5,[.le (.a bc cI) (.a eK eK),.sb bc aw aj,.sb cI aj aw,.sb eK aw aw],.eq aj aw),(6,[.eq (.a aw jZ) aj,.lt jZ eK,.sb bc aj aw,.sb cI aw aj],.le (.a bc cI) eK),(3,[.le aj lL,.le aw nr,.no (.le (.a (.m 2 aj) aw) f1),.sb bc (.l 128) (.a (.m 2 aj) aw)],.an (.le bP bc) (.an (.le aw bc) (.le bc f1))),(5,[.eq aj aw,.eq bc cI,.le (.a aw cI) eK,.lt eK (.a aj bc)],.fa),(0,[.Lt aR dU,.Le (.m 2 fP) bJ,.Lt dU fP,.Lt c7 fP],.Lt aR bJ),(3,[.Eq jk (.l (2^1024)),.le bc (.a (.m (2^50) aw) aw),.nb bc aR,.na aj (.a aR (.l ((2^50)*(2^1024))))],.lt aj (.m (2^53) aw)),(6,[.le (.a eK jZ) cI,.na bc (.s cQ jk),.sb eK aw aj,.sb jZ aj aw],.le bc cI),(6,[.le (.a eK jZ) cI,.na bc (.s (.g cQ) (.g jk)),.sb eK aw aj,.sb jZ aj aw],.le bc cI)]
theorem jc:Xv.all (ck 4)=true:=by decide +kernel
noncomputable def Xu:List En:=[(0,[.Le (.l 1024) dU,.Le fP (.l 3),.Le (.m 128 o9) dU,.Lt (.m 16 bJ) dU,.Le aR (.m 24 o9)],.Lt (.a aR bJ) (.s dU fP)),(5,[.le cI (.w aw (2^1024)),.le eK (.w aw (2^1074)),.nb eK (.w yO (2^1074)),.nb cI (.s aR (.w yO (2^1074))),.na aj aR],.le aj (.a (.w aw (2^1074)) (.w aw (2^1024)))),(5,[.le aw bR,.le cI aw,.le aj cI,.mn bc aw aw,.sb eK bc cI],.le (.a aj eK) bR),(6,[.le aj cI,.le cI aw,.mn bc aj aw,.sb eK cI aj,.sb jZ aw cI],.eq (.a (.a bc eK) jZ) aw),(6,[.lt aj cI,.lt cI jZ,.le jZ aw,.mn bc aj aw,.sb eK cI aj],.eq (.a bc eK) cI),(7,[.eq jZ (.a cI bP),.eq aj uk,.sb bc aj aw,.sb jZ eK aw,.dv uk (.a aw eK) 2],.lt bc (.a cI bP)),(7,[.eq jZ (.a cI bP),.eq aj uk,.sb bc aj aw,.sb jZ eK aw,.dv uk (.a aw eK) 2],.le (.a bc bP) (.a cI bP)),(7,[.eq aj uk,.sb bc aj aw,.sb eK cI aj,.sb jZ cI aw,.dv uk (.a aw cI) 2],.eq (.a bc eK) jZ),(6,[.le aw cI,.le cI aj,.sb jZ aj cI,.sb eK cI aw,.sb bc aj aw],.eq bc (.a eK jZ)),(6,[.le jZ (.a eK bP),.no (.Eq (.a yO kl) cQ),.sb jZ aj bc,.sb cI aj aw,.dv aw (.a bc aj) 2],.le cI eK),(7,[.le eK bR,.mn uk cI jZ,.sb jZ eK aw,.sb cI aj aw,.dv aw (.a bc aj) 2],.le uk bR),(3,[.le aw (.l (2^28)),.le bc (.l (2^28)),.na aj (.a aR bJ),.na aw aR,.na bc bJ],.le aj (.l (2^30))),(3,[.le aw (.l (2^28)),.le bc (.l (2^28)),.na aj (.s aR bJ),.na aw aR,.na bc bJ],.le aj (.l (2^30))),(1,[.Le (.l 4) fP,.le aj ua,.Le dU (.s aR fP),.Le (.a (.g aR) fP) dU,.na aj bJ],.an (.Lt (.g aR) (.a bJ dU)) (.Lt (.a bJ dU) aR)),(0,[.Lt aR o9,.Eq o9 (.a bJ uc),.Lt uc vD,.Lt dU vD,.Le (.m 2 vD) fP],.Lt (.a (.s aR bJ) dU) fP),(0,[.Le (.a aR o9) uc,.Le c7 dU,.Lt bJ o9,.Eq fP (.a uc vD),.Le c7 vD],.Lt (.s (.a aR bJ) dU) fP),(3,[.no (.Lt aR c7),.le aj aw,.le bc (.a (.m (2^50) aw) aw),.nb bc aR,.na aj (.s (.s aR bJ) dU)],.an (.le aj (.m 4 aw)) (.an (.Le (.g (.m 4 jk)) aR) (.Le aR (.a (.m (2^50) jk) (.m 4 jk))))),(5,[.Lt nW c7,.mn eK cI f1,.sb cI bc f1,.mn bc aj aw,.sb aw ul aj],.Eq nW EQ),(5,[.Lt (.s (.s tA cQ) nW) c7,.mn eK cI f1,.sb cI bc f1,.mn bc aj aw,.sb aw ul aj],.Eq c7 EQ),(5,[.Lt (.s cQ nW) c7,.mn eK cI f1,.sb cI bc f1,.mn bc aj aw,.sb aw ul aj],.Eq c7 EQ),(6,[.lt (.m 2 jZ) eK,.nb jZ (.s cQ aR),.sb cI aw aj,.sb bc aj aw,.na aw aR],.lt (.m 2 (.a bc cI)) eK),(6,[.lt (.m 2 jZ) eK,.nb jZ (.s (.g cQ) aR),.sb cI aw aj,.sb bc aj aw,.na aw aR],.lt (.m 2 (.a bc cI)) eK)]
theorem fA:Xu.all (ck 5)=true:=by decide +kernel
noncomputable def Xt:List En:=[(6,[.eq (.a aj bc) cI,.Eq bJ EQ,.le jZ (.l (2^1024)),.na jZ (.s aR yO),.na cI bJ,.na aw (.s (.s aR bJ) (.g cQ))],.le aw (.l (2^1024))),(6,[.eq (.a aj bc) cI,.Eq bJ (.g EQ),.le jZ (.l (2^1024)),.na jZ (.s aR (.g yO)),.na cI bJ,.na aw (.s (.s aR bJ) cQ)],.le aw (.l (2^1024))),(3,[.no (.Lt bJ dU),.Lt bJ aR,.le bc (.m 64 aw),.Eq (.m 384 dU) (.m 192 (.m (2^50) jk)),.nb bc (.s (.m 384 aR) (.m 256 (.m (2^50) jk))),.na aj (.s aR bJ)],.lt aj (.m (2^53) aw)),(4,[.eq (.l (2^(50+1024))) (.m (2^50) aw),.le bc (.m 64 (.m (2^50) aw)),.le cI (.m (2^30) aw),.nb cI (.s (.m 384 aR) bJ),.nb bc bJ,.na aj aR],.lt aj (.m (2^49) aw)),(7,[.eq jZ (.a cI bP),.no (.eq (.a eK bP) aj),.eq aw uk,.sb bc aj aw,.sb jZ aj eK,.dv uk (.a eK aj) 2],.lt bc (.a cI bP)),(7,[.eq jZ (.a cI bP),.no (.eq (.a eK bP) aj),.eq aw uk,.sb bc aj aw,.sb jZ aj eK,.dv uk (.a eK aj) 2],.le (.a bc bP) (.a cI bP)),(0,[.Lt c7 aR,.an (.Le (.g (.m (2^35) aR)) (.s (.m 384 o9) (.m (2^50) fP))) (.Le (.s (.m 384 o9) (.m (2^50) fP)) (.m (2^35) aR)),.an (.Le (.g (.m 4096 aR)) (.s (.m 4096 uc) (.m 64 o9))) (.Le (.s (.m 4096 uc) (.m 64 o9)) (.m 4096 aR)),.an (.Le (.g (.m 4096 aR)) (.s (.m 4096 vD) (.m 24576 uc))) (.Le (.s (.m 4096 vD) (.m 24576 uc)) (.m 4096 aR)),.an (.Le (.g aR) (.s Cd (.a (.m 64 (.m (2^38) dU)) vD))) (.Le (.s Cd (.a (.m 64 (.m (2^38) dU)) vD)) aR),.an (.Le (.g (.m 4096 (.m (2^13) aR))) (.s (.m 4096 bJ) (.m 16777216 Cd))) (.Le (.s (.m 4096 bJ) (.m 16777216 Cd)) (.m 4096 (.m (2^13) aR)))],.Lt (.g (.m (2^50) aR)) (.m 2 (.s bJ (.a (.m 64 (.m (2^50) dU)) (.m (2^50) fP))))),(0,[.Lt c7 fP,.an (.Le (.g (.m (2^35) fP)) (.s (.m 384 o9) (.m (2^50) dU))) (.Le (.s (.m 384 o9) (.m (2^50) dU)) (.m (2^35) fP)),.an (.Le (.g (.m 4096 fP)) (.s (.m 4096 uc) (.m 64 o9))) (.Le (.s (.m 4096 uc) (.m 64 o9)) (.m 4096 fP)),.an (.Le (.g (.m 4096 fP)) (.s (.m 4096 vD) (.m 24576 uc))) (.Le (.s (.m 4096 vD) (.m 24576 uc)) (.m 4096 fP)),.an (.Le (.g fP) (.s Cd (.a (.m 64 (.m (2^38) bJ)) vD))) (.Le (.s Cd (.a (.m 64 (.m (2^38) bJ)) vD)) fP),.an (.Le (.g (.m 4096 (.m (2^13) fP))) (.s (.m 4096 aR) (.m 16777216 Cd))) (.Le (.s (.m 4096 aR) (.m 16777216 Cd)) (.m 4096 (.m (2^13) fP)))],.Lt (.m 2 (.s aR (.a (.m 64 (.m (2^50) bJ)) (.m (2^50) dU)))) (.m (2^50) fP)),(5,[.Lt (.s tA cQ) cQ,.Lt nW (.s (.s tA cQ) nW),.mn eK cI f1,.sb cI bc f1,.mn bc aj aw,.sb aw ul aj],.Eq nW EQ),(5,[.no (.Lt (.s (.s tA cQ) nW) c7),.no (.Lt nW (.s (.s tA cQ) nW)),.mn eK cI f1,.sb cI bc f1,.mn bc aj aw,.sb aw ul aj],.Eq (.s (.s tA cQ) nW) EQ),(5,[.no (.Lt (.s tA cQ) cQ),.Lt nW (.s cQ nW),.mn eK cI f1,.sb cI bc f1,.mn bc aj aw,.sb aw ul aj],.Eq nW EQ),(5,[.no (.Lt (.s cQ nW) c7),.no (.Lt nW (.s cQ nW)),.mn eK cI f1,.sb cI bc f1,.mn bc aj aw,.sb aw ul aj],.Eq (.s cQ nW) EQ)]
theorem kj:Xt.all (ck 6)=true:=by decide +kernel
noncomputable def Xs:List En:=[(4,[.le aw (.l (64*(2^1024))),.le bc (.l (2^1024)),.le cI (.l ((2^16)*(2^1024))),.nb cI (.s (.m 384 fP) bJ),.nb bc (.s aR (.s dU fP)),.nb aw (.s (.m 384 dU) (.l (256*(2^1074)))),.na aj (.s (.m 384 aR) (.s (.l (256*(2^1074))) bJ))],.le aj (.l ((2^30)*(2^1024)))),(5,[.le bc (.m 32 cI),.lt cI (.m (2^49) aw),.le eK (.m 4096 aw),.nb eK (.s (.m 4096 aR) (.m 64 bJ)),.nb cI dU,.nb bc bJ,.na aj aR],.lt aj (.m (2^49) aw)),(6,[.le bc cI,.le aj (.a bc eK),.le eK jZ,.le cI jZ,.eq aw (.m 2 jZ),.na bc bJ,.na aj aR],.le aj aw),(10,[.lt (.m 2 (.a eK jZ)) uk,.le (.a (.v 8) (.v 9)) (.a eK jZ),.le (.a Ie uk) cI,.sb eK bc cI,.sb jZ cI bc,.sb (.v 8) bc Ie,.sb (.v 9) Ie bc],.eq aj aw),(10,[.lt (.m 2 (.a eK jZ)) uk,.le (.a (.v 8) (.v 9)) (.a eK jZ),.le (.a cI uk) Ie,.sb eK bc cI,.sb jZ cI bc,.sb (.v 8) bc Ie,.sb (.v 9) Ie bc],.eq aj aw)]
theorem vC:Xs.all (ck 7)=true:=by decide +kernel
noncomputable def Xr:List En:=[(7,[.eq aw cI,.eq (.a eK jZ) bc,.Eq EQ (.w Ij (2^1074)),.le uk (.l (2^1024)),.na uk (.s aR (.c jZ)),.dv aw bc (2^1074),.na bc bJ,.na aj aR],.le aj (.l ((2^1074)+(2^1024)))),(7,[.eq aw cI,.eq (.a eK jZ) bc,.Eq EQ (.w Ij (2^1074)),.le uk (.l (2^1024)),.na uk (.s aR (.g (.c jZ))),.dv aw bc (2^1074),.na bc bJ,.na aj aR],.le aj (.l ((2^1074)+(2^1024)))),(5,[.Lt fP c7,.le bc aj,.le cI aj,.le eK (.a (.m (2^50) aj) aj),.nb eK fP,.nb cI (.s (.s fP bJ) dU),.nb bc (.s aR (.a fP (.m (2^50) cQ))),.na aw (.s (.s aR bJ) (.a dU (.m (2^50) cQ)))],.an (.le aw (.m 4 aj)) (.an (.Le (.g (.m 4 cQ)) aR) (.Le aR (.a (.m (2^50) cQ) (.m 4 cQ)))))]
theorem B5:Xr.all (ck 8)=true:=by decide +kernel
noncomputable def Xq:List En:=[(6,[.le bc cI,.Eq jk (.l (2^1024)),.le eK (.m 4096 (.m (2^5) aw)),.le jZ (.m 32 (.m (2^50) aw)),.le cI (.m 64 aw),.nb jZ dU,.nb eK (.s (.m 4096 aR) (.m 4096 bJ)),.nb bc (.s bJ dU),.na aj aR],.lt aj (.m (2^56) aw)),(6,[.le bc cI,.Eq jk (.l (2^1024)),.le eK (.m 4096 (.m (2^5) aw)),.le jZ (.m 4096 (.m (2^14) aw)),.le cI (.m 64 aw),.nb jZ (.s (.m 4096 aR) (.m (4096*1024) fP)),.nb eK (.s (.m 4096 fP) (.m 4096 dU)),.nb bc (.s dU bJ),.na aj (.s aR (.m 1024 bJ))],.lt (.m 2 aj) (.m (2^50) aw)),(5,[.le bc lL,.Eq dU (.w (.c (.m 64 bc)) (2^1062)),.Eq dU (.m 64 (.m (2^38) aR)),.eq (.l (2^(50+1024))) (.m (2^50) aw),.le cI (.m 4096 aw),.lt eK (.m (2^49) aw),.nb eK fP,.nb cI (.s (.m 4096 bJ) (.m 24576 fP)),.na aj (.a (.m 64 (.m (2^38) aR)) bJ)],.lt aj (.m (2^53) aw)),(0,[.Lt c7 o9,.Le c7 uc,.Le fP vD,.Le vD (.s Cd o9),.Le (.v 8) (.v 9),.Eq Cd (.m 2 (.v 8)),.Le c7 bJ,.Le c7 dU,.Eq aR (.a (.v 9) uc)],.Lt (.g (.m 2 aR)) (.s (.a bJ dU) fP))]
theorem xI:Xq.all (ck 9)=true:=by decide +kernel
noncomputable def Vb:List En:=[(0,[.Le (.l 1024) bJ,.Le c7 dU,.Le (.g fP) o9,.Le uc vD,.Le (.w Cd 1024) vD,.Le (.v 8) (.m 3 Cd),.Le (.m 1 bJ) vD,.Eq (.v 9) (.s vD (.v 8)),.Eq uc (.m 128 fP),.Eq (.a (.a o9 dU) (.v 9)) aR],.Le kl aR)]
theorem LM:Vb.all (ck 10)=true:=by decide +kernel
noncomputable def Va:List En:=[(6,[.le bc lL,.Eq bJ (.w (.c (.m 64 bc)) (2^1062)),.Eq bJ (.m 64 (.m (2^38) dU)),.eq (.l (2^(50+1024))) (.m (2^50) aw),.le cI (.m 4096 aw),.lt eK (.m (2^49) aw),.le jZ aw,.nb jZ (.s aR (.a (.m 64 (.m (2^38) dU)) fP)),.nb eK o9,.nb cI (.s (.m 4096 fP) (.m 24576 o9)),.na aj aR],.lt aj (.m (2^53) aw)),(1,[.Lt (.m 16 dU) fP,.Le o9 uc,.Le vD Cd,.Le (.m 1 fP) Cd,.Le (.w Cd 1024) bJ,.Eq (.v 8) (.s Cd (.v 9)),.Eq vD (.m 128 uc),.Le c7 (.v 9),.Eq (.a (.a o9 dU) (.v 8)) aR,.Le kl aR,.tn aj aR],.Lt cQ bJ)]
theorem DI:Va.all (ck 11)=true:=by decide +kernel
noncomputable def U9:List En:=[(8,[.Lt c7 jk,.le bc (.m 64 aw),.le cI eK,.le jZ (.m 1024 aw),.le uk Ie,.na Ie (.m 384 (.m (2^50) jk)),.nb uk fP,.nb jZ (.s (.m 384 aR) fP),.na eK (.m 7 (.m (2^50) jk)),.nb cI dU,.nb bc (.s (.m 3 bJ) dU),.na aj (.a aR bJ)],.lt aj (.m (2^57) aw))]
theorem LL:U9.all (ck 12)=true:=by decide +kernel
noncomputable def U8:List En:=[(8,[.Eq jk (.l (2^1024)),.le bc (.m (2^4) aw),.le cI (.m (2^4) aw),.le eK (.m 64 aw),.le jZ (.m 64 aw),.le uk (.m 1024 aw),.le Ie (.m 4 aw),.nb Ie (.s (.s aR (.v 8)) o9),.nb uk (.s (.m 384 vD) bJ),.nb jZ (.s (.m 3 (.v 9)) fP),.nb eK (.s (.m 3 Cd) dU),.nb cI (.s (.v 8) (.a uc (.v 9))),.nb bc (.s uc (.a vD Cd)),.na aj (.s (.m 384 aR) (.a (.a (.a bJ (.m 128 dU)) (.m 128 fP)) (.m 384 o9)))],.le aj (.m (2^16) aw))]
theorem LK:U8.all (ck 14)=true:=by decide +kernel
noncomputable def U7:List En:=[(12,[.Lt c7 jk,.le bc (.m (2^4) aw),.le cI (.m 64 aw),.le eK jZ,.le uk (.m 64 aw),.le Ie (.v 8),.le (.v 9) (.m 1024 aw),.le (.v 10) (.v 11),.na (.v 11) (.m 384 (.m (2^50) jk)),.nb (.v 10) vD,.nb (.v 9) (.s (.m 384 dU) vD),.na (.v 8) (.m 1 (.m (2^50) jk)),.nb Ie uc,.nb uk (.s (.m 3 bJ) uc),.na jZ (.m 7 (.m (2^50) jk)),.nb eK o9,.nb cI (.s (.m 3 fP) o9),.nb bc (.s aR (.a dU fP)),.na aj (.a aR bJ)],.lt aj (.m (2^57) aw))]
theorem LJ:U7.all (ck 19)=true:=by decide +kernel
end Zq
open Zq
open PySem PySem.Calls PyProof.Rows PySem.W PySem.SeqAt
variable {n p w:Nat}{Q:Value->Shared->Prop}{b y:Int}{c:List Addr}{d:Addr->Prop}{s:Shared}{D:Addr}{m:List Nat}{i:List Str}{f:Value}{x:Str}{A:Around}{h:Heap}{r:UInt64}{o:Bool}{j:Array Value}{E:Bool->Prop}{F:Scope}{P:List (List Nat)}{G:Unit->Shared->Prop}{I:Option (Nat×Nat)}{N:List (Str×Pos)}{q:List Int}{Y:Pos}{S:List Value}{T:Array UInt8}{U:List (Str×Addr)}{Z:Env}{t:Tok}
set_option genCtorIdx true
theorem dG {b:Bool} (h:(o && b)=true):o=true/\b=true:=(az o b).mp h
theorem m1 {b:Type _}{P:b->Prop}{a:b} (h:P a):∀x∈[a],P x:=λO q=>(ai.mp q)▸h
theorem m2 {c:Type _}{P:c->Prop}{a b:c} (h:P a) (k:P b):∀x∈[a,b],P x:=ni.mpr ⟨h,m1 k⟩
theorem m3 {d:Type _}{P:d->Prop}{a b c:d} (h:P a) (k:P b) (l:P c):∀x∈[a,b,c],P x:=ni.mpr ⟨h,m2 k l⟩
inductive V where
 | none | bool (b:Bool) | int (i:Int) | dg (x:UInt64) | str (s:Str) | sw (b:Array UInt8)
 | tup (vs:List V) | lst (vs:List V) | ref (n:Nat) | obj (a:Addr)
variable {l:List V}{g:V->Prop}{e:Option V}{v:V}
noncomputable abbrev Wo (a:Array Value) (n:Nat):Obj:={cls:=.type "tuple",data:=.seq a n}
mutual
noncomputable def R (h:Heap) (e:Addr->Prop) (c:List Addr):V->Value->Prop
 | .none,v=>v=.none
 | .bool b,v=>v=.bool b
 | .int i,v=>∃t,v=.int i t
 | .dg x,v=>∃t,v=.float x t/\t≠0
 | .str s,v=>∃t,v=.str s t
 | .sw b,v=>∃t,v=.bytes b t
 | .tup f,v=>∃a d,v=.ref a/\¬e a/\a∉c/\IsTup h a d/\Rs h e c f d.toList
 | .lst f,v=>∃a d n,v=.ref a/\¬e a/\a∉c/\h.get? a=some (listOf d n)/\Rs h e c f d.toList
 | .ref n,v=>∃a,v=.ref a/\c[n]? =some a
 | .obj a,v=>v=.ref a
noncomputable def Rs (h:Heap) (d:Addr->Prop) (a:List Addr):List V->List Value->Prop
 | [],c=>c=[]
 | v::e,c=>∃w b,c=w::b/\R h d a v w/\Rs h d a e b
end
section
variable {h:Heap}{av:Addr->Prop}{own:List Addr}{v:Value}
theorem ab1 {a}:R h av own (.bool a) v=(v=.bool a):=rfl
theorem ab0 {a}:R h av own (.int a) v=(∃t,v=.int a t):=rfl
theorem aa9 {a}:R h av own (.dg a) v=(∃t,v=.float a t/\t≠0):=rfl
theorem aa8 {a}:R h av own (.str a) v=(∃t,v=.str a t):=rfl
theorem aa7 {a}:R h av own (.sw a) v=(∃t,v=.bytes a t):=rfl
theorem X0 {vs}:R h av own (.tup vs) v=(∃a b,v=.ref a/\¬av a/\a∉own/\IsTup h a b/\Rs h av own vs b.toList):=rfl
theorem XZ {vs}:R h av own (.lst vs) v=(∃a b n,v=.ref a/\¬av a/\a∉own/\h.get? a=some (listOf b n)/\Rs h av own vs b.toList):=rfl
theorem aa6 {z}:R h av own (.ref z) v=(∃a,v=.ref a/\own[z]? =some a):=rfl
theorem aa5 {a}:R h av own (.obj a) v=(v=.ref a):=rfl
end
theorem Rs.length {a av own}:∀{vs ws},Rs a av own vs ws->ws.length=vs.length
 | [],_,e=>congrArg bH e
 | _::_,_,e=>e.elim λO e=>e.elim λO e=>(congrArg bH e.1).trans (congrArg Nat.succ (Rs.length e.2.2))
theorem Rs.get {z av own}:∀{a:List V}{b:List Value}{i:Nat}{v:V},Rs z av own a b->a[i]? =some v->∃w,b[i]? =some w/\R z av own v w
 | [],_,_,_,_,e=>nomatch e
 | _::_,_,0,_,r,e=>r.elim λw r=>r.elim λO r=>⟨w,r.1▸rfl,aN e▸r.2.1⟩
 | _::_,_,_+1,_,r,e=>r.elim λO r=>r.elim λO r=>(Rs.get r.2.2 e).imp λO q=>⟨r.1▸q.1,q.2⟩
theorem Rs.append {a av own}:∀{vs ws Mx VA},Rs a av own vs ws->Rs a av own Mx VA->Rs a av own (vs++Mx) (ws++VA)
 | [],_,_,_,e,r=>(show _=[] from e)▸r
 | _::_,_,_,_,e,r=>e.elim λw e=>e.elim λO e=>⟨w,_,e.1▸rfl,e.2.1,Rs.append e.2.2 r⟩
theorem Rs.nil {a av own}:Rs a av own [] []:=rfl
theorem Rs.cons {z av own H M vs ws} (a:R z av own H M) (b:Rs z av own vs ws):Rs z av own (H::vs) (M::ws):=⟨M,ws,rfl,a,b⟩
theorem Rs.one {z av own H M} (a:R z av own H M):Rs z av own [H] [M]:=Rs.cons a Rs.nil
theorem Rs.nil_inv {a av own ws} (e:Rs a av own [] ws):ws=[]:=e
theorem Rs.cons_inv {z av own H vs ws} (e:Rs z av own (H::vs) ws):∃w a,ws=w::a/\R z av own H w/\Rs z av own vs a:=e
theorem Rs.Xd {z av own H vs ws}:Rs z av own (H::vs) ws<->∃w a,ws=w::a/\R z av own H w/\Rs z av own vs a:=.rfl
theorem Rs.YM {a av own ws}:Rs a av own [] ws<->ws=[]:=.rfl
theorem R.tO {a av own z}:R a av own .none z<->z=.none:=.rfl
theorem R.Lw {z av own a H}:R z av own (.bool a) H<->H=.bool a:=.rfl
theorem R.j2 {a av own z H}:R a av own (.int z) H<->∃t,H=.int z t:=.rfl
theorem R.KT {a av own z H}:R a av own (.dg z) H<->∃t,H=.float z t/\t≠0:=.rfl
theorem R.ux {a av own z H}:R a av own (.str z) H<->∃t,H=.str z t:=.rfl
theorem R.AB {a av own z H}:R a av own (.sw z) H<->∃t,H=.bytes z t:=.rfl
theorem R.CD {z av own vs H}:R z av own (.tup vs) H<->∃a b,H=.ref a/\¬av a/\a∉own/\IsTup z a b/\Rs z av own vs b.toList:=.rfl
theorem R.td {z av own vs H}:R z av own (.lst vs) H<->∃a b n,H=.ref a/\¬av a/\a∉own/\z.get? a=some (listOf b n)/\Rs z av own vs b.toList:=.rfl
theorem R.pz {z av own a H}:R z av own (.obj a) H<->H=.ref a:=.rfl
theorem R.yg {z av own H M}:R z av own (.ref H) M<->∃a,M=.ref a/\own[H]? =some a:=.rfl
structure Cx where
 prog:mx
 w:World
 tabs:List (Addr×Addr)
 h₀:Heap
 K:Frag
 mg:Str->Option Value
 mb:Str->Option Value
 tq:Addr->Str
 lo:Nat
variable {C:Cx}
def Cx.tb (C:Cx) (a:Addr):Prop:=a∈C.tabs.map (·.2)
noncomputable abbrev Cx.md (C:Cx):Model:=model C.prog C.w
structure Cx.Ok (C:Cx):Prop where
 FN:C.K.In C.h₀
 g:C.h₀.Ns bX C.mg
 b:C.h₀.Ns gL C.mb
 lim:C.h₀.NoLimit
 nb:kB C.h₀
 bi:∀x:Str,x≠"__name__"->C.mb x=mO x
def za (d:Str) (h:Heap) (P:Addr):Prop:=∃b,h.get? P=some {cls:=.none,data:=.fields b}/\xg b.toList/\∀a c,qj a b.toList=some c->h.CodeRec c d
def r9 (o:Obj):Prop:=∀a q t,o.data=.fields a->a[1]?≠some (oh q t)
def zm (o:Obj):Prop:=(∀a n,o.data≠.seq a n)/\r9 o
theorem za.step {j:Heap}{P:Addr}{ex:List Addr} (l:za x h P) (k:∀b o,b∉ex->h.get? b=some o->j.get? b=some o) (s:P∉ex) (v:∀a∈ex,∀o,h.get? a=some o->r9 o):za x j P:=
 let ⟨w,e,t,r⟩:=l
 ⟨w,k _ _ s e,t,λd n u=>let ⟨c,o,m,y,p,f,g,i⟩:=r d n u;⟨c,o,m,y,p,k _ _ (λq=>v c q o f m _ _ g i) f,g,i⟩⟩
theorem za.keeps {a:Heap}{P:Addr} (c:za x h P) (d:∀b o,h.get? b=some o->a.get? b=some o):za x a P:=
 c.step (ex:=[]) (λb o O e=>d b o e) aC (λO h=>nomatch h)
theorem r9.list:r9 (listOf j n):=λb q t e=>by exact nomatch e
theorem zm.dict {o:Obj}{a:Array DictEntry} (h:o.data=.dict a n):zm o:=⟨λc n q=>(by replace q:=(h)▸q;exact nomatch q),λb q t e=>(by replace e:=(h)▸e;exact nomatch e)⟩
theorem zm.cell {o:Obj}{v:Option Value} (h:o.data=.cell v):zm o:=⟨λb n q=>(by replace q:=(h)▸q;exact nomatch q),λa q t e=>(by replace e:=(h)▸e;exact nomatch e)⟩
theorem zm.fields {o:Obj} (h:o.data=.fields j) (b:∀q t,j[1]?≠some (oh q t)):zm o:=⟨λd n q=>(by replace q:=(h)▸q;exact nomatch q),λc q t e=>(by replace e:=(h)▸e;cases e;exact b q t)⟩
structure Gd (C:Cx) (h:Heap):Prop where
 base:∀b o,C.h₀.get? b=some o->h.get? b=some o
 tabs:∀q∈C.tabs,za (C.tq q.2) h q.2
 size:C.h₀.objs.size<=h.objs.size
structure kP (tb av:Addr->Prop) (ex:List Addr) (h:Heap) (own:List Addr) (h':Heap) (f7:List Addr):Prop where
 keep:∀b o,h.get? b=some o->b∉own->b∉ex->¬tb b->h'.get? b=some o
 own:∃new,f7=own++new/\∀a∈new,h.objs.size<=a/\¬av a
 size:h.objs.size<=h'.objs.size
structure c4 (C:Cx) (av:Addr->Prop) (ex:List Addr) (s:Shared) (own:List Addr) (s':Shared) (f7:List Addr):Prop extends
  kP C.tb av ex s.heap own s'.heap f7 where
 os:s'.os=s.os
 gens:∀(i:Nat) (x:GC),s.gens[i]? =some x->s'.gens[i]? =some x
 bare:pT s.gens->pT s'.gens
theorem lu {o:Obj} (hs:h.objs.size<=D) (e:h.get? D=some o):False:=
 absurd (bF e) (je.mpr hs)
theorem Ov {o:Obj} (hs:h.get? D=none) (e:h.get? D=some o):False:=by replace e:=(hs)▸e;exact bN e
def cA (h:Heap) (b:List Addr):Prop:=∀a∈b,∀o,h.get? a=some o->zm o
def B7 (h:Heap) (b:Addr->Prop) (c:List Addr):Prop:=∀a∈c,b a\/∀o,h.get? a=some o->∀d n,o.data≠.seq d n
theorem cA.a (x:cA h c):B7 h d c:=λa q=>.inr λo e=>(x a q o e).1
theorem cA.nil:cA h []:=λO h=>nomatch h
section
variable {tb av:Addr->Prop}{ex:List Addr}{h h':Heap}{own f7:List Addr}
theorem kP.rD (g:kP tb av ex h own h' f7) {a:Addr}{o:Obj} (d:a∉own) (e:h.get? a=some o):a∉f7:=by
 refine ah g.own λj b=>af b λc i=>?_;subst c
 intro f
 rcases bY.mp f with q | q
 ·exact d q
 ·exact lu (i a q).1 e
mutual
theorem R.vl (g:kP tb av ex h own h' f7) (b:∀a,tb a->av a) (c:B7 h av ex):∀{v w},R h av own v w->R h' av f7 v w
 | .none,_,e=>e
 | .bool _,_,e=>e
 | .int _,_,e=>e
 | .dg _,_,e=>e
 | .str _,_,e=>e
 | .sw _,_,e=>e
 | .tup _,_,e=>e.elim λa e=>e.elim λd e=>e.2.2.2.1.elim λo z=>z.2.2.elim λn hd=>
  ⟨a,d,e.1,e.2.1,g.rD e.2.2.1 z.1,⟨o,g.keep _ _ z.1 e.2.2.1 (λq=>(c a q).elim e.2.1 λc=>c _ z.1 _ _ hd) (λq=>e.2.1 (b a q)),z.2.1,n,hd⟩,Rs.vl g b c e.2.2.2.2⟩
 | .lst _,_,e=>e.elim λa e=>e.elim λd e=>e.elim λn e=>
  ⟨a,d,n,e.1,e.2.1,g.rD e.2.2.1 e.2.2.2.1,g.keep _ _ e.2.2.2.1 e.2.2.1 (λq=>(c a q).elim e.2.1 λc=>c _ e.2.2.2.1 _ _ rfl) (λq=>e.2.1 (b a q)),Rs.vl g b c e.2.2.2.2⟩
 | .ref _,_,e=>e.elim λa e=>⟨a,e.1,g.own.elim λO q=>q.1▸(cE (aL.mp e.2).1).trans e.2⟩
 | .obj _,_,e=>e
theorem Rs.vl (g:kP tb av ex h own h' f7) (b:∀a,tb a->av a) (d:B7 h av ex):∀{vs ws},Rs h av own vs ws->Rs h' av f7 vs ws
 | [],_,e=>e
 | _::_,_,e=>e.elim λw e=>e.elim λc e=>⟨w,c,e.1,R.vl g b d e.2.1,Rs.vl g b d e.2.2⟩
end
theorem R.iv (g:kP tb av ex h own h' f7) (b:∀a,tb a->av a) (c:cA h ex) {z H} (r:R h av own z H):R h' av f7 z H:=R.vl g b c.a r
theorem Rs.iv (g:kP tb av ex h own h' f7) (b:∀a,tb a->av a) (c:cA h ex) {z H} (r:Rs h av own z H):Rs h' av f7 z H:=Rs.vl g b c.a r
theorem kP.of_keeps (a:∀b o,h.get? b=some o->h'.get? b=some o) (hs:h.objs.size<=h'.objs.size):kP tb av ex h own h' own:=
 ⟨λb o e O O O=>a b o e,⟨[],by exact (bw _).symm,by exact nofun⟩,hs⟩
theorem R.keeps {z H} (a:∀b o,h.get? b=some o->h'.get? b=some o) (hs:h.objs.size<=h'.objs.size) (r:R h av own z H):R h' av own z H:=
 R.iv (tb:=λO=>False) (ex:=[]) (kP.of_keeps a hs) (λO h=>h.elim) cA.nil r
theorem Rs.keeps {z H} (a:∀b o,h.get? b=some o->h'.get? b=some o) (hs:h.objs.size<=h'.objs.size) (r:Rs h av own z H):Rs h' av own z H:=
 Rs.iv (tb:=λO=>False) (ex:=[]) (kP.of_keeps a hs) (λO h=>h.elim) cA.nil r
theorem kP.trans {i:Heap} (g:kP tb av ex h own h' f7) (k:kP tb av ex h' f7 i c):kP tb av ex h own i c:=by
 have v:=λ{a o}=>@kP.rD _ _ _ _ _ _ _ g a o
 refine ah g.own λn d=>af d λf l=>?_;subst f
 refine ah k.own λm d=>af d λf j=>?_;subst f
 refine ⟨λb o e p r s=>k.keep b o (g.keep b o e p r s) (v p e) r s,⟨n++m,by simp,λa u=>?_⟩,ar g.size k.size⟩
 rcases bY.mp u with q | q
 ·exact l a q
 ·exact ⟨ar g.size (j a q).1,(j a q).2⟩
end
section
variable {C:Cx}{av:Addr->Prop}{ex:List Addr}{s s':Shared}{own f7:List Addr}
theorem R.grow (g:c4 C av ex s own s' f7) (b:∀a,C.tb a->av a) (c:cA s.heap ex) {z H} (r:R s.heap av own z H):R s'.heap av f7 z H:=R.iv g.tokP b c r
theorem Rs.grow (g:c4 C av ex s own s' f7) (b:∀a,C.tb a->av a) (c:cA s.heap ex) {z H} (r:Rs s.heap av own z H):Rs s'.heap av f7 z H:=Rs.iv g.tokP b c r
theorem c4.refl:c4 C av ex s own s own:=⟨.of_keeps (λO O e=>e) (aD _),rfl,λO O e=>e,λh=>h⟩
theorem c4.trans {c:Shared}{a:List Addr} (g:c4 C av ex s own s' f7) (k:c4 C av ex s' f7 c a):c4 C av ex s own c a:=
 ⟨g.tokP.trans k.tokP,k.os.trans g.os,λi x e=>k.gens i x (g.gens i x e),λb=>k.bare (g.bare b)⟩
theorem c4.wide (g:c4 C av [] s own s' f7):c4 C av ex s own s' f7:=⟨⟨λb o e a O c=>g.keep b o e a aC c,g.own,g.size⟩,g.os,g.gens,g.bare⟩
theorem c4.of_keeps {a:Heap}{d:Nat} (c:∀b o,s.heap.get? b=some o->a.get? b=some o) (hs:s.heap.objs.size<=a.objs.size):
  c4 C av ex s own {s with heap:=a,toks:=d} own:=⟨.of_keeps c hs,rfl,λO O e=>e,λh=>h⟩
theorem c4.tok {tk:Nat}:c4 C av ex s own {s with toks:=tk} own:=c4.of_keeps (λO O e=>e) (aD _)
theorem c4.push {o:Obj}{tk:Nat}:c4 C av ex s own {s with heap:=s.heap.push o,toks:=tk} own:=
 c4.of_keeps (λO O e=>aQ _ e) (ae (bE _ _) (bA bZ 2 [_] []))
structure Hp (C:Cx) (av:Addr->Prop) (s:Shared) (own:List Addr) (H:List (List V)):Prop where
 gd:Gd C s.heap
 len:own.length=H.length
 nd:own.Nodup
 lst:∀(n:Nat) (a:Addr) (vs:List V),own[n]? =some a->H[n]? =some vs->∃ws k,s.heap.get? a=some (listOf ws k)/\Rs s.heap av own vs ws.toList
 lo:∀a∈own,C.h₀.get? a=none/\¬av a
 f4:∀a,av a->a < s.heap.objs.size
 bM:∀a,C.tb a->av a
 tk:C.lo<=s.toks
theorem Hp.keeps {H:List (List V)} (P:Hp C av s own H) {s':Shared} (c:∀b o,s.heap.get? b=some o->s'.heap.get? b=some o) (hs:s.heap.objs.size<=s'.heap.objs.size) (j:s.toks<=s'.toks:=by repeat constructor):Hp C av s' own H:=
 ⟨⟨λb o e=>c b o (P.gd.base b o e),λq i=>(P.gd.tabs q i).keeps c,ar P.gd.size hs⟩,P.len,P.nd,
  λn a l d f=>let ⟨m,k,g,r⟩:=P.lst n a l d f;⟨m,k,c _ _ g,Rs.keeps c hs r⟩,P.lo,λa h=>am (P.f4 a h) hs,P.bM,ar P.tk j⟩
theorem Hp.tok {H:List (List V)}{tk:Nat} (P:Hp C av s own H) (a:s.toks<=tk:=by repeat constructor):Hp C av {s with toks:=tk} own H:=P.keeps (λO O e=>e) (aD _) a
theorem Hp.push {H:List (List V)}{tk:Nat} (P:Hp C av s own H) (o:Obj) (a:s.toks<=tk:=by repeat constructor):Hp C av {s with heap:=s.heap.push o,toks:=tk} own H:=
 P.keeps (λO O e=>aQ _ e) (by rw [bE];exact bA bZ 2 [_] []) a
theorem Hp.set {H:List (List V)}{c:Heap}{tk:Nat}{n:Nat}{a:Addr}{G:List V}{ws:Array Value}{k:Nat} (P:Hp C av s own H) (e:own[n]? =some a)
  (hs:gG a s.heap c) (ho:c.get? a=some (listOf ws k)) (r:Rs s.heap av own G ws.toList) (I:s.toks<=tk:=by repeat constructor):
  Hp C av {s with heap:=c,toks:=tk} own (H.set n G)/\kP C.tb av [] s.heap own c own:=by
 have u:a∈own:=bB e
 have g:kP C.tb av [] s.heap own c own:=
  ⟨λb o e l O O=>(hs.2 b (λq=>l (q▸u))).trans e,⟨[],by exact (bw _).symm,by exact nofun⟩,dN hs.1.symm⟩
 refine ⟨⟨⟨λb o e=>(hs.2 b (λq=>Ov (P.lo a u).1 (q▸e))).trans (P.gd.base b o e),λq A=>?_,by show _<=c.objs.size;exact ae (hs.1) P.gd.size⟩,by simp [P.len],P.nd,?_,P.lo,?_,P.bM,ar P.tk I⟩,g⟩
 ·refine (P.gd.tabs q A).step (ex:=[a]) (λb o i e=>(hs.2 b (λe=>i (ai.mpr e))).trans e) (λz=>(P.lo a u).2 ((ai.mp z)▸P.bM _ (b9 A))) λb i o e=>?_
  replace e:=(ai.mp i)▸e
  have v:n < H.length:=bQ P.len ((aL.mp ‹own[n]? =some a›).1)
  obtain ⟨j,B,p,_⟩:=P.lst n a H[n] ‹own[n]? =some a› (by simp [v])
  replace e:=(p)▸e;cases e
  exact r9.list
 ·intro m b us f d
  by_cases w:n=m
  ·subst w
   replace f:=(e)▸f;cases f
   have v:n < H.length:=bQ P.len ((aL.mp e).1)
   replace d:=(gH v)▸d;cases d
   exact ⟨ws,k,ho,Rs.iv g P.bM cA.nil r⟩
  ·replace d:=(ng w)▸d
   refine aG (P.lst m b us f d) λj B x=>af x λp J=>?_
   have i:b≠a:=λq=>w (by
    refine ah (aL.mp e) λD l=>?_
    refine ah (aL.mp f) λE y=>?_
    have F:=List.pairwise_iff_getElem.mp P.nd
    rcases qk n m with h | h | h
    ·exact absurd (l.trans (q.symm.trans y.symm)) (F n m D E h)
    ·exact h
    ·exact absurd (y.trans (q.trans l.symm)) (F m n E D h))
   exact ⟨j,B,(hs.2 b i).trans p,Rs.iv g P.bM cA.nil J⟩
 ·intro b h;show b < c.objs.size;exact ae (hs.1) (P.f4 b h)
end
section
variable {h:Heap}{av zN:Addr->Prop}{own:List Addr}
mutual
theorem R.oE (b:∀a,zN a->av a\/h.objs.size<=a):∀{v w},R h av own v w->R h zN own v w
 | .none,_,e=>e
 | .bool _,_,e=>e
 | .int _,_,e=>e
 | .dg _,_,e=>e
 | .str _,_,e=>e
 | .sw _,_,e=>e
 | .obj _,_,e=>e
 | .ref _,_,e=>e
 | .tup _,_,e=>e.elim λa e=>e.elim λc e=>⟨a,c,e.1,λq=>(b a q).elim e.2.1 λq=>e.2.2.2.1.elim λO z=>lu q z.1,e.2.2.1,e.2.2.2.1,Rs.oE b e.2.2.2.2⟩
 | .lst _,_,e=>e.elim λa e=>e.elim λc e=>e.elim λk e=>⟨a,c,k,e.1,λq=>(b a q).elim e.2.1 λq=>lu q e.2.2.2.1,e.2.2.1,e.2.2.2.1,Rs.oE b e.2.2.2.2⟩
theorem Rs.oE (b:∀a,zN a->av a\/h.objs.size<=a):∀{vs ws},Rs h av own vs ws->Rs h zN own vs ws
 | [],_,e=>e
 | _::_,_,e=>e.elim λw e=>e.elim λc e=>⟨w,c,e.1,R.oE b e.2.1,Rs.oE b e.2.2⟩
end
end
section
variable {C:Cx}{av zN:Addr->Prop}{s:Shared}{own:List Addr}{H:List (List V)}
theorem Hp.zO (P:Hp C zN s own H) (h:∀a,av a->zN a) (b:∀a,C.tb a->av a):Hp C av s own H:=
 ⟨P.gd,P.len,P.nd,λn a f c d=>let ⟨g,k,e,r⟩:=P.lst n a f c d;⟨g,k,e,r.oE λa q=>.inl (h a q)⟩,λa q=>⟨(P.lo a q).1,λz=>(P.lo a q).2 (h a z)⟩,λa q=>P.f4 a (h a q),b,P.tk⟩
theorem Hp.lt' (P:Hp C av s own H) (q:D∈own):D < s.heap.objs.size:=by
 refine ah (eF.mp q) λn b=>?_
 have c:n < H.length:=bQ P.len ((aL.mp b).1)
 obtain ⟨d,f,e,_⟩:=P.lst n _ H[n] b (by simp [c])
 exact bF e
theorem Hp.E4 (P:Hp C av s own H) (o:Obj) {tk:Nat} (h:s.toks<=tk:=by repeat constructor):Hp C (λa=>av a\/a=s.heap.objs.size) {s with heap:=s.heap.push o,toks:=tk} own H:=by
 have b:=P.push (tk:=tk) o h
 refine ⟨b.gd,b.len,b.nd,λn a i d f=>?_,λa q=>⟨(b.lo a q).1,λz=>z.elim (b.lo a q).2 λz=>ay _ (z▸P.lt' q)⟩,λa q=>?_,λa q=>.inl (P.bM a q),b.tk⟩
 ·exact aG (P.lst n a i d f) λj k c=>af c λg r=>⟨j,k,aQ _ g,(r.oE λa q=>q.imp id λz=>dN z.symm).keeps (λO O e=>aQ _ e) (by rw [bE];exact bx _)⟩
 ·rcases q with q | q
  ·exact b.f4 a q
  ·show a < (s.heap.push o).objs.size;exact ae (bE _ _) (ae q (dQ _))
end
section
variable {h:Heap}{av:Addr->Prop}{own:List Addr}{D:Addr}
theorem tN {a:Addr} (h:a∉own) (k:a≠D):a∉own++[D]:=λq=>(bY.mp q).elim h λq=>k (ai.mp q)
mutual
theorem R.nV:∀{v w},R h (λa=>av a\/a=D) own v w->R h av (own++[D]) v w
 | .none,_,e=>e
 | .bool _,_,e=>e
 | .int _,_,e=>e
 | .dg _,_,e=>e
 | .str _,_,e=>e
 | .sw _,_,e=>e
 | .obj _,_,e=>e
 | .ref _,_,e=>e.elim λa e=>⟨a,e.1,(cE (aL.mp e.2).1).trans e.2⟩
 | .tup _,_,e=>e.elim λa e=>e.elim λb e=>⟨a,b,e.1,λq=>e.2.1 (.inl q),tN e.2.2.1 λq=>e.2.1 (.inr q),e.2.2.2.1,Rs.nV e.2.2.2.2⟩
 | .lst _,_,e=>e.elim λa e=>e.elim λb e=>e.elim λk e=>⟨a,b,k,e.1,λq=>e.2.1 (.inl q),tN e.2.2.1 λq=>e.2.1 (.inr q),e.2.2.2.1,Rs.nV e.2.2.2.2⟩
theorem Rs.nV:∀{vs ws},Rs h (λa=>av a\/a=D) own vs ws->Rs h av (own++[D]) vs ws
 | [],_,e=>e
 | _::_,_,e=>e.elim λw e=>e.elim λb e=>⟨w,b,e.1,R.nV e.2.1,Rs.nV e.2.2⟩
end
theorem CP {a:Type _}{l:List a}{x y:a} (h:(l++[x])[n]? =some y):(n < l.length/\l[n]? =some y)\/(n=l.length/\y=x):=by
 rcases qk n l.length with q | q | q
 ·exact .inl ⟨q,(cE q).symm.trans h⟩
 ·subst q;exact .inr ⟨rfl,aN (h.symm.trans gI)⟩
 ·rw [lX (ae bp q)] at h;exact nomatch h
end
section
variable {C:Cx}{av:Addr->Prop}{s:Shared}{own:List Addr}{H:List (List V)}
theorem Hp.nV {D:Addr}{p:List V}{k:Array Value}{n:Nat} (P:Hp C (λa=>av a\/a=D) s own H) (i:∀a,C.tb a->av a) (g:¬av D) (h:C.h₀.objs.size<=D)
  (v:s.heap.get? D=some (listOf k n)) (r:Rs s.heap (λa=>av a\/a=D) own p k.toList):Hp C av s (own++[D]) (H++[p]):=by
 have d:D∉own:=λq=>(P.lo D q).2 (.inr rfl)
 refine ⟨P.gd,by refine ae bp (ae bp (ae P.len ?_));rfl,List.nodup_append.mpr ⟨P.nd,h9.mpr ⟨aC,ef⟩,λa f b w e=>d (ai.mp w▸e▸f)⟩,λm a us c o=>?_,
  λa f=>(bY.mp f).elim (λq=>⟨(P.lo a q).1,λz=>(P.lo a q).2 (.inl z)⟩) λq=>ai.mp q▸⟨Heap.get?_none_of_le h,g⟩,λa q=>P.f4 a (.inl q),i,P.tk⟩
 rcases CP c with ⟨q,c⟩ | ⟨rfl,rfl⟩
 ·refine aG (P.lst m a us c ((cE (P.len▸q)).symm.trans o)) λl x j=>af j λu y=>?_
  exact ⟨l,x,u,y.nV⟩
 ·rcases CP o with ⟨q,_⟩ | ⟨_,rfl⟩
  ·exact absurd P.len (dW q)
  ·exact ⟨k,n,v,r.nV⟩
theorem Hp.new {tk:Nat} (P:Hp C av s own H) (r:Rs s.heap av own l j.toList) (d:s.toks<=tk:=by repeat constructor):
  Hp C av {s with heap:=s.heap.push (listOf j n),toks:=tk} (own++[s.heap.objs.size]) (H++[l]):=
 (P.E4 (listOf j n) d).nV P.bM (λh=>ay _ (P.f4 _ h)) P.gd.size (bg _ rfl)
  ((r.oE λa q=>q.imp id λz=>dN z.symm).keeps (λO O e=>aQ _ e) (by rw [bE];exact bx _))
end
set_option genCtorIdx false
mutual
inductive ME where
 | cst (c:Const) (k:Nat) (pos:Pos)
 | var (i:Nat) (pos:Pos)
 | KA (x:Str) (pos:Pos)
 | bin (op:jU) (l r:ME) (pos:Pos)
 | rep (mu:Bool) (e n:ME) (Ul pos:Pos)
 | wZ (op:Vs) (e:ME) (pos:Pos)
 | cmp (op:CmpOp) (l r:ME) (pos:Pos)
 | FO (t:MT) (b o:ME) (pos:Pos)
 | call (x:Str) (args:List ME) (p pos:Pos)
 | blt (x:Str) (args:List ME) (p pos:Pos)
 | cv (i:Nat) (args:List ME) (p pos:Pos)
 | oe (o:ME) (m:Str) (args:List ME) (apos pos:Pos)
 | sub (o i:ME) (pos:Pos)
 | Bg (o lo:ME) (hi st:Option ME) (I9 pos:Pos)
 | lst (mu:Bool) (es:List ME) (pos:Pos)
 | tup (es:List ME) (k:Nat) (pos:Pos)
 | comp (mu:Bool) (elt:ME) (it:MI) (tg:List (Str×Pos)) (sE:Pos) (cond:List MT) (sc:Scope) (pos:Pos)
inductive MT where
 | val (e:ME)
 | not (t:MT) (pos:Pos)
 | Gk (op:BoolOp) (ts:List MT) (pos:Pos)
 | cmp (op:CmpOp) (l r:ME) (pos:Pos)
inductive MI where
 | of (e:ME)
 | zE (e:ME) (p pos:Pos)
 | BV (e:ME) (p pos:Pos)
 | rev (e:ME) (p pos:Pos)
 | gen (x:Str) (args:List ME) (p pos:Pos)
end
noncomputable def nm (a:List Str) (i:Nat):Str:=a.getD i ""
noncomputable def ib (a:List Str) (tg:List (Str×Pos)):List Str:=a.map (λx=>if tg.any (·.1==x) then ("":Str) else x)++tg.map (·.1)
noncomputable def zB (tg:List (Str×Pos)) (a:Pos):Expr:=match tg with
 | [(x,p)]=>.Name x p
 | l=>.Tuple (l.map λy=>.Name y.1 y.2) 0 a
mutual
noncomputable def toPy (d:List Str):ME->Expr
 | .cst c k a=>.Constant c k a
 | .var i a=>.Name (nm d i) a
 | .KA x a=>.Name x a
 | .bin j l r a=>.BinOp (toPy d l) j (toPy d r) a
 | .rep _ e n h a=>.BinOp (.List [toPy d e] h) .Mult (toPy d n) a
 | .wZ j e a=>.UnaryOp j (toPy d e) a
 | .cmp j l r a=>.Compare (toPy d l) [j] [toPy d r] a
 | .FO t b o a=>.IfExp (nv d t) (toPy d b) (toPy d o) a
 | .call x f p a=>.Call (.Name x p) (iz d f) [] a
 | .blt x f p a=>.Call (.Name x p) (iz d f) [] a
 | .cv i f p a=>.Call (.Name (nm d i) p) (iz d f) [] a
 | .oe o m f g a=>.Call (.Attribute (toPy d o) m g) (iz d f) [] a
 | .sub o i a=>.Subscript (toPy d o) (toPy d i) a
 | .Bg o lo w st q a=>.Subscript (toPy d o) (.Slice (some (toPy d lo)) (ur d w) (ur d st) q) a
 | .lst _ v a=>.List (iz d v) a
 | .tup v k a=>.Tuple (iz d v) k a
 | .comp _ u y tg s cond sc a=>.ListComp (toPy (ib d tg) u) [⟨zB tg s,nw d y,nu (ib d tg) cond,0⟩] sc a
noncomputable def ur (a:List Str):Option ME->Option Expr
 | none=>none
 | some e=>some (toPy a e)
noncomputable def iz (a:List Str):List ME->List Expr
 | []=>[]
 | e::r=>toPy a e::iz a r
noncomputable def nv (a:List Str):MT->Expr
 | .val e=>toPy a e
 | .not t b=>.UnaryOp .Not (nv a t) b
 | .Gk c d b=>.BoolOp c (nu a d) b
 | .cmp c l r b=>.Compare (toPy a l) [c] [toPy a r] b
noncomputable def nu (a:List Str):List MT->List Expr
 | []=>[]
 | e::r=>nv a e::nu a r
noncomputable def nw (b:List Str):MI->Expr
 | .of e=>toPy b e
 | .zE e p a=>.Call (.Name "range" p) [toPy b e] [] a
 | .BV e p a=>.Call (.Name "enumerate" p) [toPy b e] [] a
 | .rev e p a=>.Call (.Name "reversed" p) [toPy b e] [] a
 | .gen x c p a=>.Call (.Name x p) (iz b c) [] a
end
abbrev Hs:=List (List V)
variable {J:Hs}{B:V->Hs->Prop}{W:List V->Hs->Prop}
abbrev Sg:=List (Option V)
variable {K:Sg->Hs->Prop}{X:Sg}
noncomputable def tx (f:V->Hs->(Option V->Hs->Prop)->Prop):List V->List V->Hs->(List V->Hs->Prop)->Prop
 | [],a,H,Q=>Q a H
 | x::c,a,H,Q=>f x H λo b=>tx f c (a++o.toList) b Q
section
set_option autoImplicit true
theorem Lo (f':V->Hs->(Option V->Hs->Prop)->Prop):tx f' [] acc H Q'=(Q' acc H):=rfl
theorem DB (f':V->Hs->(Option V->Hs->Prop)->Prop):tx f' (x'::xs) acc H Q'=(f' x' H λo' a=>tx f' xs (acc++o'.toList) a Q'):=rfl
end
noncomputable def fu (n:Nat) (v:V):Option (List V):=match n,v with
 | 1,v=>some [v]
 | 2,.tup [a,b]=>some [a,b]
 | _,_=>none
structure Tb where
 KQ:Str->Bool
 DE:Str->Bool
 fn:Str->List V->(V->Prop)->Prop
 gl:Str->Option V
 bin:jU->V->V->(V->Prop)->Prop
 Pi:jU->V->V->(V->Prop)->Prop
 wZ:Vs->V->(V->Prop)->Prop
 cmp:CmpOp->V->V->Hs->(Bool->Prop)->Prop
 OR:V->Hs->(Bool->Prop)->Prop
 blt:Str->List V->Hs->(V->Prop)->Prop
 Nt:Str->V->Option (String×String)
 oe:Str->V->List V->Hs->(V->Hs->Prop)->Prop
 sub:V->V->Hs->(V->Prop)->Prop
 Bg:V->V->V->V->(V->Prop)->Prop
 Dz:V->Bool
 cv:V->List V->Hs->(V->Hs->Prop)->Prop
 FQ:Str->Bool
 gen:Str->List V->Option (List V)
 fl:Bool
noncomputable def bV (a:Bool):Const->Option V
 | .none=>some .none
 | .bool b=>some (.bool b)
 | .int i=>some (.int i)
 | .float x=>if a=true then some (.dg x) else none
 | .str s=>some (.str s)
 | .bytes b=>some (.sw b.toArray)
 | _=>none
noncomputable def nS (i:Nat):List V->List V
 | []=>[]
 | v::r=>.tup [.int i,v]::nS (i+1) r
section
set_option autoImplicit true
theorem UK (i':Nat):nS i' []=([]):=rfl
theorem Du (i':Nat):nS i' (v'::r')=(.tup [.int i',v']::nS (i'+1) r'):=rfl
end
noncomputable def rA (n:Nat):List V:=(dT n).map λ(i:Nat)=>V.int (i:Int)
noncomputable def w8:V->Option (List V)
 | .lst l=>some l
 | .tup l=>some l
 | _=>none
noncomputable def vw (H:Hs):V->V
 | .ref n=>.lst (H.getD n [])
 | v=>v
noncomputable def V.isRef:V->Bool
 | .ref _=>true
 | _=>false
noncomputable def V.uB:V->Bool
 | .none | .bool _ | .int _ | .dg _ | .str _ | .sw _=>true
 | _=>false
mutual
noncomputable def g8 (T:Tb) (h:Sg):ME->Hs->(V->Hs->Prop)->Prop
 | .cst c _ _,H,Q=>match bV T.fl c with | some v=>Q v H | none=>False
 | .var i _,H,Q=>match h.getD i none with | some v=>Q v H | none=>False
 | .KA x _,H,Q=>match T.gl x with | some v=>Q v H | none=>False
 | .bin y l r _,H,Q=>g8 T h l H λa g=>g8 T h r g λb p=>T.bin y a b λv=>Q v p
 | .rep w e n _ _,H,Q=>g8 T h e H λa g=>g8 T h n g λb p=>match b with
  | .int n=>0<=n/\n<=1000/\if w then Q (.ref p.length) (p++[bk n.toNat a]) else Q (.lst (bk n.toNat a)) p
  | _=>False
 | .wZ y e _,H,Q=>g8 T h e H λa g=>T.wZ y a λv=>Q v g
 | .cmp y l r _,H,Q=>g8 T h l H λa g=>g8 T h r g λb p=>T.cmp y a b p λv=>Q (.bool v) p
 | .FO t b o _,H,Q=>Ct T h t H λc g=>(c=true->g8 T h b g Q)/\(c=false->g8 T h o g Q)
 | .call x j _ _,H,Q=>T.KQ x=true/\lc T h j H λq g=>T.fn x (q.map (vw g)) λv=>((!q.any V.isRef) || v.uB)=true/\Q v g
 | .blt x j _ _,H,Q=>T.DE x=true/\lc T h j H λq g=>T.blt x q g λv=>Q v g
 | .cv i j _ _,H,Q=>match h.getD i none with
  | some f=>T.Dz f=true/\lc T h j H λq g=>T.cv f q g Q
  | none=>False
 | .oe o m j _ _,H,Q=>g8 T h o H λa g=>(T.Nt m a).isSome=true/\lc T h j g λq p=>T.oe m a q p Q
 | .sub o i _,H,Q=>g8 T h o H λa g=>g8 T h i g λb p=>T.sub a b p λv=>Q v p
 | .Bg o lo F st _ _,H,Q=>g8 T h o H λa g=>g8 T h lo g λb p=>Mv T h F p λc D=>Mv T h st D λd E=>T.Bg a b c d λv=>Q v E
 | .lst w B _,H,Q=>lc T h B H λq g=>if w then Q (.ref g.length) (g++[q]) else Q (.lst q) g
 | .tup B _ _,H,Q=>lc T h B H λq g=>Q (.tup q) g
 | .comp w A G tg _ cond _ _,H,Q=>DU T h G H λs g=>s.length<=1000/\
   tx (λx H k=>match fu tg.length x with
    | some u=>wY T (h++u.map some) .And cond H λc C=>(c=true->g8 T (h++u.map some) A C λv z=>k (some v) z)/\(c=false->k none C)
    | none=>False) s [] g λq p=>if w then Q (.ref p.length) (p++[q]) else Q (.lst q) p
noncomputable def Mv (T:Tb) (a:Sg):Option ME->Hs->(V->Hs->Prop)->Prop
 | none,H,Q=>Q .none H
 | some e,H,Q=>g8 T a e H Q
noncomputable def lc (T:Tb) (a:Sg):List ME->Hs->(List V->Hs->Prop)->Prop
 | [],H,Q=>Q [] H
 | e::r,H,Q=>g8 T a e H λv b=>lc T a r b λd c=>Q (v::d) c
noncomputable def Ct (T:Tb) (d:Sg):MT->Hs->(Bool->Hs->Prop)->Prop
 | .val e,H,Q=>g8 T d e H λv c=>T.OR v c λb=>Q b c
 | .not t _,H,Q=>Ct T d t H λb c=>Q (!b) c
 | .Gk f h _,H,Q=>wY T d f h H Q
 | .cmp f l r _,H,Q=>g8 T d l H λa c=>g8 T d r c λb g=>T.cmp f a b g λv=>Q v g
noncomputable def wY (T:Tb) (d:Sg) (c:BoolOp):List MT->Hs->(Bool->Hs->Prop)->Prop
 | [],H,Q=>Q (c==.And) H
 | t::r,H,Q=>Ct T d t H λb a=>match c,b with
  | .And,false=>Q false a
  | .Or,true=>Q true a
  | _,_=>wY T d c r a Q
noncomputable def DU (T:Tb) (c:Sg):MI->Hs->(List V->Hs->Prop)->Prop
 | .of e,H,Q=>g8 T c e H λv a=>match w8 v with | some l=>Q l a | none=>False
 | .zE e _ _,H,Q=>g8 T c e H λv a=>match v with | .int n=>0<=n/\n<=1000/\Q (rA n.toNat) a | _=>False
 | .BV e _ _,H,Q=>g8 T c e H λv a=>match v with | .lst l=>Q (nS 0 l) a | _=>False
 | .rev e _ _,H,Q=>g8 T c e H λv a=>match v with | .lst l=>Q l.reverse a | _=>False
 | .gen x b _ _,H,Q=>T.FQ x=true/\lc T c b H λd a=>match T.gen x d with | some l=>Q l a | none=>False
end
inductive MS where
 | asg (i:Nat) (e:ME) (nN pos:Pos)
 | o7 (is:List (Nat×Pos)) (e:ME) (k:Nat) (sE pos:Pos)
 | zD (o i e:ME) (sE pos:Pos)
 | aug (i:Nat) (op:jU) (e:ME) (nN pos:Pos)
 | ex (e:ME) (pos:Pos)
 | ret (e:ME) (pos:Pos)
 | C2 (pos:Pos)
 | iff (t:MT) (b o:List MS) (pos:Pos)
 | OM (t:MT) (b:List MS) (pos:Pos)
 | mv (tg:List (Nat×Pos)) (sE:Pos) (it:MI) (b:List MS) (pos:Pos)
noncomputable def zY (a:List Str) (tg:List (Nat×Pos)) (b:Pos):Expr:=match tg with
 | [(i,p)]=>.Name (nm a i) p
 | l=>.Tuple (l.map λy=>.Name (nm a y.1) y.2) 0 b
mutual
noncomputable def toS (a:List Str):MS->Stmt
 | .asg i e f c=>.Assign [.Name (nm a i) f] (toPy a e) c
 | .o7 g e k d c=>.Assign [.Tuple (g.map λy=>.Name (nm a y.1) y.2) k d] (toPy a e) c
 | .zD o i e d c=>.Assign [.Subscript (toPy a o) (toPy a i) d] (toPy a e) c
 | .aug i j e f c=>.AugAssign (.Name (nm a i) f) j (toPy a e) c
 | .ex e c=>.Expr (toPy a e) c
 | .ret e c=>.Return (some (toPy a e)) c
 | .C2 c=>.Return none c
 | .iff t b o c=>.If (nv a t) (lM a b) (lM a o) c
 | .OM t b c=>.While (nv a t) (lM a b) [] c
 | .mv tg d h b c=>.For (zY a tg d) (nw a h) (lM a b) [] c
noncomputable def lM (a:List Str):List MS->List Stmt
 | []=>[]
 | s::r=>toS a s::lM a r
end
section
set_option autoImplicit true
theorem E8 (a:List Str):lM a []=([]):=rfl
theorem xo (a:List Str):lM a (s'::r')=(toS a s'::lM a r'):=rfl
end
abbrev Fl:=Option V
variable {k:Fl->Sg->Hs->Prop}
noncomputable def iO:List (Nat×Pos)->List V->Sg->Sg
 | y::r,v::b,a=>iO r b (a.set y.1 (some v))
 | _,_,a=>a
section
set_option autoImplicit true
theorem ez:iO (y'::r') (v'::vs) σ=(iO r' vs (σ.set y'.1 (some v'))):=rfl
theorem eN:iO [] u2 σ=σ:=rfl
end
noncomputable def A0 (t:Sg->Hs->(Bool->Hs->Prop)->Prop) (b:Sg->Hs->(Fl->Sg->Hs->Prop)->Prop):Nat->Sg->Hs->(Fl->Sg->Hs->Prop)->Prop
 | 0,_,_,_=>False
 | n+1,d,H,Q=>t d H λc f=>(c=true->b d f λg a e=>match g with | none=>A0 t b n a e Q | some v=>Q (some v) a e)/\(c=false->Q none d f)
section
set_option autoImplicit true
theorem VB (t:Sg->Hs->(Bool->Hs->Prop)->Prop) (b':Sg->Hs->(Fl->Sg->Hs->Prop)->Prop):A0 t b' 0 u1 u2 u3=(False):=rfl
theorem Mw (t:Sg->Hs->(Bool->Hs->Prop)->Prop) (b':Sg->Hs->(Fl->Sg->Hs->Prop)->Prop):A0 t b' (n'+1) σ H Q'=(t σ H λc' e'=>(c'=true->b' σ e' λf' a d'=>match f' with | none=>A0 t b' n' a d' Q' | some v'=>Q' (some v') a d')/\(c'=false->Q' none σ e')):=rfl
end
noncomputable def sH (f:V->Sg->Hs->(Fl->Sg->Hs->Prop)->Prop):List V->Sg->Hs->(Fl->Sg->Hs->Prop)->Prop
 | [],b,H,Q=>Q none b H
 | x::e,b,H,Q=>f x b H λd a c=>match d with | none=>sH f e a c Q | some v=>Q (some v) a c
section
set_option autoImplicit true
theorem VO (f':V->Sg->Hs->(Fl->Sg->Hs->Prop)->Prop):sH f' [] σ H Q'=(Q' none σ H):=rfl
theorem N8 (f':V->Sg->Hs->(Fl->Sg->Hs->Prop)->Prop):sH f' (x'::d') σ H Q'=(f' x' σ H λc' a b'=>match c' with | none=>sH f' d' a b' Q' | some v'=>Q' (some v') a b'):=rfl
end
noncomputable def tG (n:Nat):V->Option (List V)
 | .tup a=>if a.length=n then some a else none
 | .lst a=>if a.length=n then some a else none
 | _=>none
def CS (H:Hs) (a i v:V) (Q:Hs->Prop):Prop:=match a,i with
 | .ref n,.int k=>match H[n]? with
  | some l=>0<=k/\k < l.length/\l.length < 2^60/\Q (H.set n (l.set k.toNat v))
  | none=>False
 | _,_=>False
mutual
noncomputable def wpS (T:Tb):MS->Sg->Hs->(Fl->Sg->Hs->Prop)->Prop
 | .asg i e _ _,d,H,Q=>g8 T d e H λv f=>Q none (d.set i (some v)) f
 | .o7 j e _ _ _,d,H,Q=>g8 T d e H λv f=>match tG j.length v with | some h=>Q none (iO j h d) f | none=>False
 | .zD o i e _ _,d,H,Q=>g8 T d e H λv f=>g8 T d o f λa l=>g8 T d i l λk m=>CS m a k v λp=>Q none d p
 | .aug i r e _ _,d,H,Q=>match d.getD i none with | some a=>g8 T d e H λb f=>T.Pi r a b λv=>Q none (d.set i (some v)) f | none=>False
 | .ex e _,d,H,Q=>g8 T d e H λv f=>Q none d f
 | .ret e _,d,H,Q=>g8 T d e H λv f=>Q (some v) d f
 | .C2 _,d,H,Q=>Q (some .none) d H
 | .iff t b o _,d,H,Q=>Ct T d t H λc f=>(c=true->de T b d f Q)/\(c=false->de T o d f Q)
 | .OM t b _,d,H,Q=>∃n,A0 (λd H k=>Ct T d t H k) (λd H k=>de T b d H k) n d H Q
 | .mv tg _ q b _,d,H,Q=>DU T d q H λg f=>sH (λx d H k=>match fu tg.length x with
   | some h=>de T b (iO tg h d) H k
   | none=>False) g d f Q
noncomputable def de (T:Tb):List MS->Sg->Hs->(Fl->Sg->Hs->Prop)->Prop
 | [],b,H,Q=>Q none b H
 | s::r,b,H,Q=>wpS T s b H λd a c=>match d with | none=>de T r a c Q | some v=>Q (some v) a c
end
noncomputable def o5 (sc:Scope) (a:List Str) (i:Nat):Bool:=match a[i]? with
 | some x=>x !=("__debug__":Str) && (match sc.names.lookup x with
  | some .local | some .cell=>true
  | some .free=>x !=("__classdict__":Str)
  | _=>false)
 | none=>false
noncomputable def fJ (sc:Scope) (a:List Str) (i:Nat):Bool:=match a[i]? with
 | some x=>(match sc.names.lookup x with
  | some .local | some .cell=>true
  | _=>false)
 | none=>false
noncomputable def iI (sc:Scope) (x:Str):Bool:=x !=("__debug__":Str) && sc.names.lookup x==some .globalImplicit
noncomputable def to (sc:Scope):List Str->Bool
 | []=>true
 | x::r=>((sc.names.lookup x).isNone || r.all (·!=x)) && to sc r
theorem Al {sc:Scope}:∀{b:List Str}{i j:Nat}{x:Str},to sc b=true->b[i]? =some x->b[j]? =some x->(sc.names.lookup x).isSome=true->i=j
 | [],i,_,_,_,h,_,_=>by simp at h
 | y::r,0,0,_,_,_,_,_=>rfl
 | y::r,0,j+1,x,h,c,d,a=>by
  simp at c;subst c
  unfold to at h
  replace h:=(dz _ _)▸(az _ _)▸h
  rcases h.1 with q | q
  ·replace q:=(propext AV)▸q;replace a:=(q)▸a;exact dk a
  ·have:=aS.mp q y (bB (by simpa using d))
   simp at this
 | y::r,i+1,0,x,h,c,d,a=>by
  simp at d;subst d
  unfold to at h
  replace h:=(dz _ _)▸(az _ _)▸h
  rcases h.1 with q | q
  ·replace q:=(propext AV)▸q;replace a:=(q)▸a;exact dk a
  ·have:=aS.mp q y (bB (by simpa using c))
   simp at this
 | y::r,i+1,j+1,x,h,c,d,a=>by
  unfold to at h
  replace h:=(az _ _)▸h
  exact congrArg (·+1) (Al h.2 (by simpa using c) (by simpa using d) a)
structure Fm (C:Cx) (av:Addr->Prop) (s:Shared) (own:List Addr) (env:Env) (sc:Scope) (lay:List Str) (σ:Sg):Prop where
 scope:env.scope=sc
 kind:sc.kind=.function
 glob:env.globals=bX
 blt:env.builtins=gL
 vc:to sc lay=true
 len:σ.length=lay.length
 ns:∃m,s.heap.Ns env.locals m/\∀(i:Nat) x v,lay[i]? =some x->sc.names.lookup x=some .local->σ.getD i none=some v->∃rv,m x=some rv/\R s.heap av own v rv
 cell:∀(i:Nat) x,lay[i]? =some x->(sc.names.lookup x=some .cell\/sc.names.lookup x=some .free)->∃c ov,env.cells.lookup x=some c/\s.heap.IsCell c ov/\∀v,σ.getD i none=some v->∃rv,ov=some rv/\R s.heap av own v rv
 locs:env.locals∉own/\¬C.tb env.locals/\C.h₀.objs.size<=env.locals
 qg:∀y∈env.cells,y.2∉own/\¬C.tb y.2/\y.2≠env.locals/\(sc.names.lookup y.1=some .cell->C.h₀.objs.size<=y.2)/\∃ov,s.heap.IsCell y.2 ov
 apart:env.cells.Pairwise λx y=>x.2≠y.2
structure fD (A:Around) (n:Nat):Prop where
 hd:A.handled=none
 dp:A.depth+n < mN
 un:A.units+8*n+64 < cLine
section
variable {C:Cx}{av:Addr->Prop}{ex:List Addr}{s s':Shared}{own f7:List Addr}{env:Env}{sc:Scope}{lay:List Str}{σ:Sg}{A:Around}{E:Value->Shared->Prop}{M:Model}
theorem Fm.grow (F:Fm C av s own env sc lay σ) (g:c4 C av [] s own s' f7) (d:∀a,C.tb a->av a):Fm C av s' f7 env sc lay σ:=by
 refine ah F.ns λm b=>af b λD N=>?_
 have P:∀o,s.heap.get? env.locals=some o->s'.heap.get? env.locals=some o:=λo e=>g.keep _ _ e F.locs.1 aC F.locs.2.1
 refine bj (id D) λQ O O b=>af b λH O=>?_
 refine ⟨F.scope,F.kind,F.glob,F.blt,F.vc,F.len,⟨m,D.at' P,λi x v j k G=>?_⟩,λi x j k=>?_,⟨g.rD F.locs.1 H,F.locs.2⟩,λy hy=>?_,F.apart⟩
 ·exact ah (N i x v j k G) λp b=>af b λe r=>⟨p,e,r.grow g d cA.nil⟩
 ·refine aG (F.cell i x j k) λc n b=>aA b λe q h=>ah q λo u=>af u λf l=>?_
  have B:=F.qg (x,c) (b7 e)
  exact ⟨c,n,e,⟨o,g.keep _ _ f B.1 aC B.2.1,l⟩,λv I=>let ⟨p,e,r⟩:=h v I;⟨p,e,r.grow g d cA.nil⟩⟩
 ·refine bh (F.qg y hy) λw z J K L=>?_
  refine aG L λn o b=>af b λf l=>?_
  exact ⟨g.rD w f,z,J,K,n,o,g.keep _ _ f w aC z,l⟩
theorem Fm.Pe (F:Fm C av s own env sc lay σ) (b:o5 sc lay n=true) (p:σ.getD n none=some v)
  (h:∀f,R s.heap av own v f->Q f s):wpAny M A (loadName env (nm lay n)) Q E s:=by
 unfold o5 at b
 cases hx:lay[n]? with
 | none=>replace b:=(hx)▸b;exact dk b
 | some x=>
  have u:nm lay n=x:=by unfold nm;refine ae ax (ae hx ?_);rfl
  refine ae u ?_
  replace b:=(hx)▸b
  dsimp only at b
  replace b:=dG b
  refine af b λhd b=>?_
  have o:env.scope.kind=.function:=ae F.scope F.kind
  cases hl:sc.names.lookup x with
  | none=>replace b:=(hl)▸b;exact dk b
  | some k=>
   replace b:=(hl)▸b
   have d:env.kindOf x=some k:=by unfold mP;exact ae F.scope hl
   cases k with
   | «local»=>
    exact ah F.ns λm a=>af a λq j=>(ah (j n x v hx hl p) λf a=>af a λe r=>(wpAny_loadName_local o d q e (h f r)))
   | cell=>
    refine aG (F.cell n x hx (.inl hl)) λc w a=>aA a λl i j=>?_
    refine ah (j v p) λf a=>af a λg r=>?_;subst g
    exact wpAny_loadName_cell o d l i (h f r)
   | free=>
    refine aG (F.cell n x hx (.inr hl)) λc w a=>aA a λl i j=>?_
    refine ah (j v p) λf a=>af a λg r=>?_;subst g
    exact wpAny_loadName_free o d l i (h f r) ((gb _).mp b)
   | _=>exact dk b
theorem Fm.load (F:Fm C av s own env sc lay σ) {i:Nat} (a:o5 sc lay i=true) (e:σ.getD i none=some v)
  (h:∀c,R s.heap av own v c->Q c s):wpAny M A (eval (.Name (nm lay i) Y) env) Q E s:=by
 refine wpAny_Name (F.Pe a e h) ?_
 unfold o5 at a
 cases hx:lay[i]? with
 | none=>replace a:=(hx)▸a;exact bT a
 | some x=>
  replace a:=(hx)▸a
  have d:nm lay i=x:=(ax ..).trans (congrArg (·.getD "") hx)
  exact ae d ((gb _).mp (dG a).1)
theorem Fm.jA (F:Fm C av s own env sc lay σ):cA s.heap (env.locals::env.cells.map (·.2)):=by
 intro a f o e
 rcases aX.mp f with rfl | f
 ·refine ah F.ns λm b=>af b λg O=>bj g λj l k h=>aA h λc d O=>?_
  replace c:=(e)▸c;cases c;exact zm.dict d
 ·refine ah (cH.mp f) λy b=>af b λhy i=>?_;subst i
  refine aG ((F.qg y hy).2.2.2.2) λn j b=>af b λc d=>?_
  replace c:=(e)▸c;cases c;exact zm.cell d
theorem Hp.same {tk:Nat} (P:Hp C av s own J) (hs:gG D s.heap h) (w:D∉own) (i:C.h₀.objs.size<=D) (j:¬C.tb D)
  (f:∀o,s.heap.get? D=some o->zm o) (y:s.toks<=tk:=by repeat constructor):Hp C av {s with heap:=h,toks:=tk} own J/\kP C.tb av [D] s.heap own h own:=by
 have g:kP C.tb av [D] s.heap own h own:=⟨λb o e O v O=>(hs.2 b (λe=>v (ai.mpr e))).trans e,⟨[],by exact (bw _).symm,by exact nofun⟩,dN hs.1.symm⟩
 have x:cA s.heap [D]:=λb d o e=>by replace e:=(ai.mp d)▸e;exact f o e
 refine ⟨⟨⟨λb o e=>(hs.2 b (λq=>lu i (q▸e))).trans (P.gd.base b o e),λq p=>?_,by show _<=h.objs.size;exact ae (hs.1) P.gd.size⟩,P.len,P.nd,λn b B m u=>?_,P.lo,λb H=>?_,P.bM,ar P.tk y⟩,g⟩
 ·refine (P.gd.tabs q p).step (ex:=[D]) (λb o d e=>(hs.2 b (λe=>d (ai.mpr e))).trans e) (λz=>j ((ai.mp z)▸b9 p)) λb d o e=>?_
  replace e:=(ai.mp d)▸e
  exact (f o e).2
 ·exact aG (P.lst n b B m u) λc k l=>af l λe r=>⟨c,k,(hs.2 b (λq=>w (q▸bB m))).trans e,r.iv g P.bM x⟩
 ·show b < h.objs.size;exact ae (hs.1) (P.f4 b H)
theorem rL (e:U.Pairwise λx y=>x.2≠y.2) {y:Str} (b:U.lookup x=some D) (d:U.lookup y=some D):x=y:=
 name_of_addr e (b7 b) (b7 d)
theorem q8 {σ:Sg}{w:V} (e:(σ.set n (some v)).getD p none=some w):(p=n/\w=v)\/(p≠n/\σ.getD p none=some w):=by
 replace e:=(ax)▸e
 by_cases q:p=n
 ·subst q
  by_cases l:p < σ.length
  ·replace e:=(gH l)▸e;exact .inl ⟨rfl,(aN e).symm⟩
  ·rw [lX (ae jm (je.mp l))] at e;exact bN e
 ·replace e:=((ng (Ne.symm q)))▸e
  exact .inr ⟨q,(ax ..).trans e⟩
theorem Fm.other (F:Fm C av s own env sc lay σ) {y:Str} (c:lay[n]? =some x) (a:lay[p]? =some y) (b:(sc.names.lookup y).isSome=true) (d:p≠n):y≠x:=λq=>d (Al F.vc a (q▸c) b)
theorem c4.one (g:kP C.tb av [D] s.heap own h own) (i:D∈ex):c4 C av ex s own {s with heap:=h,toks:=n} own:=
 ⟨⟨λb o e d f c=>g.keep b o e d (λq=>f (ai.mp q▸i)) c,g.own,g.size⟩,rfl,λO O e=>e,λb=>b⟩
section
variable {H:Hs}{i:Nat}{v:V}{rv:Value}{Q:Unit->Shared->Prop}{x:Str}
theorem Fm.Qs (F:Fm C av s own env sc lay σ) (P:Hp C av s own H) (u:env.locals∈ex) (l:lay[i]? =some x) (o:sc.names.lookup x=some .local) (r:R s.heap av own v rv)
  (h:∀s',Fm C av s' own env sc lay (σ.set i (some v))->Hp C av s' own H->c4 C av ex s own s' own->s'.heap.objs.size=s.heap.objs.size->Q () s'):wpAny M A (xf env x rv) Q E s:=by
 have D:env.scope.kind=.function:=F.scope▸F.kind
 refine ah F.ns λm n=>af n λG B=>?_
 refine wpAny_storeName_local (show env.kindOf x=_ by unfold mP;exact ae F.scope o) G (λK k b=>?_) (by refine ae D ?_;rfl)
 have a:cA s.heap [env.locals]:=m1 (F.jA _ (aB ..))
 refine af (P.same (tk:=s.toks+1) b F.locs.1 F.locs.2.2 F.locs.2.1 (a _ (aB ..))) λp g=>?_
 refine h _ ⟨F.scope,F.kind,F.glob,F.blt,F.vc,jm.trans F.len,⟨_,k,λj y w e d f=>(q8 f).elim (λq=>⟨rv,if_pos ?_,q.2▸r.iv g P.bM a⟩) λq=>(B j y w e d q.2).elim λJ z=>⟨J,(if_neg (F.other l e (by refine ae d ?_;rfl) q.1)).trans z.1,z.2.iv g P.bM a⟩⟩,
  λj y e d=>(F.cell j y e d).elim λc z=>z.elim λI z=>⟨c,I,z.1,z.2.1.sameBut b (F.qg (y,c) (b7 z.1)).2.2.1,λw f=>(q8 f).elim (λq=>?_) λq=>(z.2.2 w q.2).imp λO z=>⟨z.1,z.2.iv g P.bM a⟩⟩,
  F.locs,λy hy=>have z:=F.qg y hy;⟨z.1,z.2.1,z.2.2.1,z.2.2.2.1,z.2.2.2.2.imp λO q=>q.sameBut b z.2.2.1⟩,F.apart⟩ p (c4.one g u) b.1
 ·exact aN (e.symm.trans (q.1▸l))
 ·replace d:=(o)▸((show y=x from aN (e.symm.trans (q.1▸l))))▸d
  exact d.elim (λq=>by exact nomatch q) λq=>by exact nomatch q
theorem Fm.Qt (F:Fm C av s own env sc lay σ) (P:Hp C av s own H) (K:∀c,env.cells.lookup x=some c->c∈ex) (D:lay[i]? =some x) (B:sc.names.lookup x=some .cell) (r:R s.heap av own v rv)
  (h:∀s',Fm C av s' own env sc lay (σ.set i (some v))->Hp C av s' own H->c4 C av ex s own s' own->s'.heap.objs.size=s.heap.objs.size->Q () s'):wpAny M A (xf env x rv) Q E s:=by
 have S:env.scope.kind=.function:=F.scope▸F.kind
 refine aG (F.cell i x D (.inl B)) λc W l=>aA l λe L O=>?_
 have d:=F.qg (x,c) (b7 e)
 refine wpAny_storeName_cell S (show env.kindOf x=_ by unfold mP;exact ae F.scope B) e L λU u b=>?_
 have a:cA s.heap [c]:=m1 (F.jA _ (aP _ (b9 (f:=(·.2)) (b7 e))))
 refine af (P.same (tk:=s.toks) b d.1 (d.2.2.2.1 B) d.2.1 (a _ (aB ..))) λJ g=>?_
 refine ah F.ns λm l=>af l λT N=>?_
 refine h _ ⟨F.scope,F.kind,F.glob,F.blt,F.vc,jm.trans F.len,⟨m,T.sameBut b (Ne.symm d.2.2.1),λj y w n o p=>(q8 p).elim (λq=>?_) λq=>(N j y w n o q.2).imp λO z=>⟨z.1,z.2.iv g P.bM a⟩⟩,λj y n o=>?_,
  F.locs,λy hy=>have z:=F.qg y hy;⟨z.1,z.2.1,z.2.2.1,z.2.2.2.1,(Mr (y.2=c)).elim (λq=>⟨some rv,q▸u⟩) λq=>z.2.2.2.2.imp λO k=>k.sameBut b q⟩,F.apart⟩ J (c4.one g (K c e)) b.1
 ·replace o:=(B)▸((show y=x from aN (n.symm.trans (q.1▸D))))▸o;exact nomatch o
 ·by_cases q:y=x
  ·subst q
   exact ⟨c,some rv,e,u,λw p=>(q8 p).elim (λz=>⟨rv,rfl,z.2▸r.iv g P.bM a⟩) λz=>absurd rfl (F.other D n (by refine ae B ?_;rfl) z.1)⟩
  ·refine (F.cell j y n o).imp λI z=>z.imp λG z=>⟨z.1,z.2.1.sameBut b (λk=>q (rL F.apart z.1 (k▸e))),λw p=>(q8 p).elim (λk=>?_) λk=>(z.2.2 w k.2).imp λO z=>⟨z.1,z.2.iv g P.bM a⟩⟩
   exact absurd (aN (n.symm.trans (k.1▸D))) q
end
theorem Fm.D4 (F:Fm C av s own env sc lay σ) (P:Hp C av s own J) (e:env.locals∈ex) (b:sc.names.lookup (nm lay n)=some .cell->∀c,env.cells.lookup (nm lay n)=some c->c∈ex) (a:fJ sc lay n=true) (r:R s.heap av own v f)
  (h:∀s',Fm C av s' own env sc lay (σ.set n (some v))->Hp C av s' own J->c4 C av ex s own s' own->s'.heap.objs.size=s.heap.objs.size->G () s'):wpAny M A (xf env (nm lay n) f) G E s:=by
 unfold fJ at a
 cases hx:lay[n]? with
 | none=>replace a:=(hx)▸a;exact bT a
 | some x=>
  replace a:=(hx)▸a
  dsimp only at a
  rw [show nm lay n=x from (ax ..).trans (congrArg (·.getD "") hx)] at b ⊢
  cases hl:sc.names.lookup x with
  | none=>replace a:=(hl)▸a;exact bT a
  | some k=>
   replace a:=(hl)▸a
   cases k with
   | «local»=>exact F.Qs P e hx hl r h
   | cell=>exact F.Qt P (b hl) hx hl r h
   | _=>exact bT a
theorem Fm.store (F:Fm C av s own env sc lay σ) (P:Hp C av s own J) (H:env.locals∈ex) (e:sc.names.lookup (nm lay n)=some .cell->∀c,env.cells.lookup (nm lay n)=some c->c∈ex) (j:fJ sc lay n=true) (r:R s.heap av own v f)
  (h:∀s',Fm C av s' own env sc lay (σ.set n (some v))->Hp C av s' own J->c4 C av ex s own s' own->G () s'):wpAny M A (xf env (nm lay n) f) G E s:=
 F.D4 P H e j r λs' b d g O=>h s' b d g
end
def f9 (C:Cx) (d:Addr->Prop) (s:Shared) (e:List Addr) (b:V->Hs->Prop) (Q:Value->Shared->Prop):Prop:=
 ∀v g c a f,b v f->R c.heap d a v g->Hp C d c a f->c4 C d [] s e c a->Q g c
def LT (C:Cx) (d:Addr->Prop) (s:Shared) (e:List Addr) (n:Nat) (b:List V->Hs->Prop) (Q:List Value->Shared->Prop):Prop:=
 ∀v g c a f,v.length=n->b v f->Rs c.heap d a v g->Hp C d c a f->c4 C d [] s e c a->Q g c
def LS (C:Cx) (g:Addr->Prop) (s:Shared) (d:List Addr) (c:Bool->Hs->Prop) (Q:Bool->Shared->Prop):Prop:=
 ∀b e a f,c b f->Hp C g e a f->c4 C g [] s d e a->Q b e
def jI (C:Cx) (d:Addr->Prop) (s:Shared) (a:List Addr) (H:Hs) (b:V->Prop) (Q:Value->Shared->Prop):Prop:=
 ∀v e c,b v->R c.heap d a v e->Hp C d c a H->c4 C d [] s a c a->Q e c
def LU (C:Cx) (e:Addr->Prop) (s:Shared) (a:List Addr) (H:Hs) (c:Bool->Prop) (Q:Bool->Shared->Prop):Prop:=
 ∀b d,c b->Hp C e d a H->c4 C e [] s a d a->Q b d
def pa (C:Cx) (n:Nat) (f:Value) (e:List V->(V->Prop)->Prop):Prop:=
 ∀A s d b c a (Q E:Value->Shared->Prop),fD A n->Hp C d s [] []->Rs s.heap d [] b c->e b a->jI C d s [] [] a Q->
  wpAny C.md A (call f c) Q E s
def LR (C:Cx) (N:Nat) (t:Value->Value->Sem Value) (a b:V) (d:V->Prop):Prop:=
 ∀A s e c H f g (Q E:Value->Shared->Prop),fD A N->Hp C e s c H->R s.heap e c a f->R s.heap e c b g->jI C e s c H d Q->
  wpAny C.md A (t f g) Q E s
def Vc (C:Cx) (N:Nat) (t:Value->Sem Bool) (a:V) (H:Hs) (c:Bool->Prop):Prop:=
 ∀A s d b e (Q:Bool->Shared->Prop) (E:Value->Shared->Prop),fD A N->Hp C d s b H->R s.heap d b a e->LU C d s b H c Q->
  wpAny C.md A (t e) Q E s
def Vd (C:Cx) (N:Nat) (t:Value->Value->Sem Value) (a b:V) (H:Hs) (d:Bool->Prop):Prop:=
 ∀A s e c f g (Q:Value->Shared->Prop) (E:Value->Shared->Prop),fD A N->Hp C e s c H->R s.heap e c a f->R s.heap e c b g->
  LU C e s c H d (λb h=>Q (.bool b) h)->wpAny C.md A (t f g) Q E s
mutual
noncomputable def V.yo:V->Bool
 | .tup a=>V.f2 a
 | .lst a=>V.f2 a
 | .ref _=>false
 | _=>true
noncomputable def V.f2:List V->Bool
 | []=>true
 | v::r=>V.yo v && V.f2 r
end
section
set_option autoImplicit true
theorem EX:V.yo (.tup vs)=(V.f2 vs):=rfl
theorem Sn:V.yo (.lst vs)=(V.f2 vs):=rfl
theorem Sm:V.yo (.ref u1)=(false):=rfl
theorem PG:V.f2 []=(true):=rfl
theorem r8:V.f2 (v'::r')=(V.yo v' && V.f2 r'):=rfl
end
noncomputable def uU:Expr->Bool
 | .Slice .. =>false
 | _=>true
structure fT (C:Cx) (T:Tb) (N:Nat):Prop where
 cx:C.Ok
 fl:T.fl=true->1<=C.lo
 gl:∀x v,T.gl x=some v->∃rv,C.mg x=some rv/\∀h av own,R h av own v rv
 fn:∀x,T.KQ x=true->∃a o fd n,C.mg x=some (.ref a)/\C.h₀.get? a=some o/\o.data=.func fd/\n+1<=N/\pa C n (.ref a) (T.fn x)
 Pq:∀x vs cK,T.fn x vs cK->V.f2 vs=true
 bin:∀op a b cK,T.bin op a b cK->LR C N (AN op) a b cK
 Pi:∀op a b cK,T.Pi op a b cK->LR C N (inplaceOp op) a b cK
 wZ:∀op a cK,T.wZ op a cK->∀A s av own H ra (Q E:Value->Shared->Prop),fD A N->Hp C av s own H->R s.heap av own a ra->jI C av s own H cK Q->
  wpAny C.md A (unaryOp op ra) Q E s
 cmp:∀op a b H cK,T.cmp op a b H cK->Vd C N (L0 op) a b H cK
 OR:∀a H cK,T.OR a H cK->Vc C N truthy a H cK
 UV:∀x,T.DE x=true->C.mg x=none/\x≠"__name__"/\∃f,mO x=some f/\((∃id,f=.builtin id)\/∃t,f=.type t)
 blt:∀x vs H cK f,T.blt x vs H cK->mO x=some f->
  ∀A s av own px (Q E:Value->Shared->Prop),fD A N->Hp C av s own H->Rs s.heap av own vs px->jI C av s own H cK Q->wpAny C.md A (call f px) Q E s
 Dz:∀f,T.Dz f=true->∃a o fd,f=.obj a/\C.h₀.get? a=some o/\o.data=.func fd
 cv:∀f vs H cK,T.cv f vs H cK->∀A s av own ra px (Q E:Value->Shared->Prop),fD A N->Hp C av s own H->R s.heap av own f ra->Rs s.heap av own vs px->f9 C av s own cK Q->
   wpAny C.md A (call ra px) Q E s
 Nt:∀m a Ty id,T.Nt m a=some (Ty,id)->GB Ty/\Slot Ty m id/\typeOf (.builtin id)=pure (.type "method_descriptor")/\
  ∀s av own H ra,Hp C av s own H->R s.heap av own a ra->s.TypeIs ra Ty/\(∀l,ra=.ref l->∃o,s.heap.get? l=some o/\o.dict=none)
 oe:∀m a vs H cK Ty id,T.oe m a vs H cK->T.Nt m a=some (Ty,id)->
  ∀A s av own ra px (Q E:Value->Shared->Prop),fD A N->Hp C av s own H->R s.heap av own a ra->Rs s.heap av own vs px->f9 C av s own cK Q->
   wpAny C.md A (call (.builtin id) (ra::px)) Q E s
 sub:∀a b H cK,T.sub a b H cK->∀value slice,uU slice=true->∀A s av own ra rb (Q E:Value->Shared->Prop),fD A N->Hp C av s own H->R s.heap av own a ra->R s.heap av own b rb->
  jI C av s own H cK Q->wpAny C.md A (Iu value slice ra rb) Q E s
 Bg:∀a b c d cK,T.Bg a b c d cK->∃Ty id,Gv (.type Ty) "__getitem__"=pure (some (.builtin id))/\
  ∀A s av own H ra rb rc rd sl (Q E:Value->Shared->Prop),fD A N->Hp C av s own H->R s.heap av own a ra->R s.heap av own b rb->R s.heap av own c rc->R s.heap av own d rd->
   s.heap.get? sl=some {cls:=.type "slice",data:=.fields #[rb,rc,rd]}->jI C av s own H cK Q->s.TypeIs ra Ty/\wpAny C.md A (Mg ra (.ref sl)) Q E s
noncomputable def ei (a sc:Scope):Scope:=
 {a with names:=a.names.map λ(n,k)=>if (k==.free && sc.kind==.function && sc.names.lookup n==some .cell) then (n,.cell) else (n,k)}
noncomputable def iJ:List Str->Bool
 | []=>true
 | x::r=>r.all (·!=x) && iJ r
section
set_option autoImplicit true
theorem Ai:iJ []=(true):=rfl
theorem SF:iJ (x'::r')=(r'.all (·!=x') && iJ r'):=rfl
end
noncomputable def Ef (sc a:Scope) (b:List Str) (tg:List (Str×Pos)):Bool:=
 a.kind==.function && (a.names.all λy=>y.2 !=.cell) &&
 (a.names.all λy=>y.2 !=.local || a.names.lookup y.1==some .local) &&
 (a.names.all λy=>y.2 !=.free || ((sc.names.lookup y.1==some .cell || sc.names.lookup y.1==some .free) && b.contains y.1 && a.names.lookup y.1==some .free)) &&
 (tg.all λy=>a.names.lookup y.1==some .local && !b.contains "" && y.1 !=("":Str)) &&
 to (ei a sc) (ib b tg) &&
 ((ib b []).all λO=>true) && ((b.map (λx=>if tg.any (·.1==x) then ("":Str) else x)).all λx=>a.names.lookup x !=some .local) &&
 iJ ((a.names.filter λy=>y.2==.free).map (·.1))
noncomputable def isVar:ME->Bool
 | .var .. =>true
 | _=>false
noncomputable def Ae:ME->Bool
 | .wZ .. | .cmp .. | .FO .. =>false
 | _=>true
noncomputable def C8:ME->Bool
 | .call x [] _ _=>x !=("super":Str)
 | .blt x [] _ _=>x !=("super":Str)
 | .cv .. =>false
 | _=>true
noncomputable def F8:MI->Nat->Bool
 | .BV ..,n=>n==2
 | _,_=>true
mutual
noncomputable def gO (sc:Scope) (a:List Str):ME->Bool
 | .cst _ _ _=>true
 | .var i _=>o5 sc a i
 | .KA x _=>iI sc x
 | .bin _ l r _=>gO sc a l && gO sc a r
 | .rep _ e n _ _=>gO sc a e && gO sc a n
 | .wZ _ e _=>gO sc a e
 | .cmp _ l r _=>gO sc a l && gO sc a r
 | .FO t b o _=>xb sc a t && gO sc a b && gO sc a o
 | .call x c _ _=>iI sc x && x !=("super":Str) && decide (c.length<=20) && jR sc a c
 | .blt x c _ _=>iI sc x && x !=("super":Str) && decide (c.length<=20) && jR sc a c
 | .cv i c _ _=>o5 sc a i && decide (c.length<=20) && jR sc a c
 | .oe o _ c f j=>C8 o && gO sc a o && f.endLine==j.line && decide (c.length<=20) && jR sc a c
 | .sub o i _=>gO sc a o && gO sc a i
 | .Bg o lo m st _ _=>isVar o && gO sc a o && gO sc a lo && Ls sc a m && Ls sc a st
 | .lst _ g _=>decide (g.length<=1000) && jR sc a g
 | .tup g _ _=>decide (g.length<=1000) && jR sc a g
 | .comp _ h k tg _ cond d _=>Lu sc a k && Ef sc d a tg && gO (ei d sc) (ib a tg) h && tz (ei d sc) (ib a tg) cond &&
  (tg.length==1 || tg.length==2) && F8 k tg.length
noncomputable def Ls (sc:Scope) (a:List Str):Option ME->Bool
 | none=>true
 | some e=>gO sc a e
noncomputable def jR (sc:Scope) (a:List Str):List ME->Bool
 | []=>true
 | e::r=>gO sc a e && jR sc a r
noncomputable def xb (sc:Scope) (a:List Str):MT->Bool
 | .val e=>Ae e && gO sc a e
 | .not t _=>xb sc a t
 | .Gk _ b _=>tz sc a b
 | .cmp _ l r _=>gO sc a l && gO sc a r
noncomputable def tz (sc:Scope) (a:List Str):List MT->Bool
 | []=>true
 | e::r=>xb sc a e && tz sc a r
noncomputable def Lu (sc:Scope) (a:List Str):MI->Bool
 | .of e=>gO sc a e
 | .zE e _ _=>iI sc "range" && gO sc a e
 | .BV e _ _=>iI sc "enumerate" && gO sc a e
 | .rev e _ _=>iI sc "reversed" && gO sc a e
 | .gen _ _ _ _=>false
end
theorem wK {b c:Bool} (h:(o && b && c)=true):(o=true/\b=true)/\c=true:=⟨dG (dG h).1,(dG h).2⟩
theorem AI {b c d:Bool} (h:(o && b && c && d)=true):((o=true/\b=true)/\c=true)/\d=true:=⟨wK (dG h).1,(dG h).2⟩
theorem LG {b c d e:Bool} (h:(o && b && c && d && e)=true):(((o=true/\b=true)/\c=true)/\d=true)/\e=true:=⟨AI (dG h).1,(dG h).2⟩
theorem DG {b c d e f:Bool} (h:(o && b && c && d && e && f)=true):((((o=true/\b=true)/\c=true)/\d=true)/\e=true)/\f=true:=⟨LG (dG h).1,(dG h).2⟩
theorem YZ {b c d e f g:Bool} (h:(o && b && c && d && e && f && g)=true):(((((o=true/\b=true)/\c=true)/\d=true)/\e=true)/\f=true)/\g=true:=⟨DG (dG h).1,(dG h).2⟩
section
variable {T:Tb}{σ:Sg}{H:Hs}{Q:V->Hs->Prop}{pos p q:Pos}{e l r o i n lo:ME}{t:MT}{x m:Str}{es:List ME}
theorem bt {a z}:g8 T σ (.cst a z pos) H Q=match bV T.fl a with | some v=>Q v H | none=>False:=rfl
theorem aU {a}:g8 T σ (.var a pos) H Q=match σ.getD a none with | some v=>Q v H | none=>False:=rfl
theorem iB:g8 T σ (.KA x pos) H Q=match T.gl x with | some v=>Q v H | none=>False:=rfl
theorem bK {op}:g8 T σ (.bin op l r pos) H Q=g8 T σ l H λa c=>g8 T σ r c λb d=>T.bin op a b λv=>Q v d:=rfl
theorem jb {mu}:g8 T σ (.rep mu e n p pos) H Q=g8 T σ e H λa d=>g8 T σ n d λb c=>match b with
  | .int n=>0<=n/\n<=1000/\if mu then Q (.ref c.length) (c++[bk n.toNat a]) else Q (.lst (bk n.toNat a)) c
  | _=>False:=rfl
theorem hF {op}:g8 T σ (.wZ op e pos) H Q=g8 T σ e H λa b=>T.wZ op a λv=>Q v b:=rfl
theorem iX {op}:g8 T σ (.cmp op l r pos) H Q=g8 T σ l H λa d=>g8 T σ r d λb c=>T.cmp op a b c λv=>Q (.bool v) c:=rfl
theorem iW {b:ME}:g8 T σ (.FO t b o pos) H Q=Ct T σ t H λc a=>(c=true->g8 T σ b a Q)/\(c=false->g8 T σ o a Q):=rfl
theorem cU:g8 T σ (.call x es p pos) H Q=(T.KQ x=true/\lc T σ es H λb a=>T.fn x (b.map (vw a)) λv=>((!b.any V.isRef) || v.uB)=true/\Q v a):=rfl
theorem d5:g8 T σ (.blt x es p pos) H Q=(T.DE x=true/\lc T σ es H λb a=>T.blt x b a λv=>Q v a):=rfl
theorem m7 {z}:g8 T σ (.cv z es p pos) H Q=match σ.getD z none with
  | some f=>T.Dz f=true/\lc T σ es H λb a=>T.cv f b a Q
  | none=>False:=rfl
theorem d4:g8 T σ (.oe o m es p pos) H Q=g8 T σ o H λa b=>(T.Nt m a).isSome=true/\lc T σ es b λd c=>T.oe m a d c Q:=rfl
theorem dx:g8 T σ (.sub o i pos) H Q=g8 T σ o H λa d=>g8 T σ i d λb c=>T.sub a b c λv=>Q v c:=rfl
theorem iV {hi st}:g8 T σ (.Bg o lo hi st p pos) H Q=g8 T σ o H λa f=>g8 T σ lo f λb g=>Mv T σ hi g λc h=>Mv T σ st h λd j=>T.Bg a b c d λv=>Q v j:=rfl
theorem eE {mu}:g8 T σ (.lst mu es pos) H Q=lc T σ es H λb a=>if mu then Q (.ref a.length) (a++[b]) else Q (.lst b) a:=rfl
theorem eA {z}:g8 T σ (.tup es z pos) H Q=lc T σ es H λb a=>Q (.tup b) a:=rfl
theorem ec {mu it tg cond sc}:g8 T σ (.comp mu e it tg p cond sc pos) H Q=DU T σ it H λa j=>a.length<=1000/\
   tx (λx H k=>match fu tg.length x with
    | some b=>wY T (σ++b.map some) .And cond H λc g=>(c=true->g8 T (σ++b.map some) e g λv d=>k (some v) d)/\(c=false->k none g)
    | none=>False) a [] j λh f=>if mu then Q (.ref f.length) (f++[h]) else Q (.lst h) f:=rfl
theorem Rh:Mv T σ none H Q=Q .none H:=rfl
theorem T8:Mv T σ (some e) H Q=g8 T σ e H Q:=rfl
section
variable {Q:List V->Hs->Prop}
theorem cD:lc T σ [] H Q=Q [] H:=rfl
theorem cL:lc T σ (e::es) H Q=g8 T σ e H λv a=>lc T σ es a λc b=>Q (v::c) b:=rfl
theorem zI:DU T σ (.of e) H Q=g8 T σ e H λv a=>match w8 v with | some l=>Q l a | none=>False:=rfl
theorem oH:DU T σ (.zE e p pos) H Q=g8 T σ e H λv a=>match v with | .int n=>0<=n/\n<=1000/\Q (rA n.toNat) a | _=>False:=rfl
theorem Ks:DU T σ (.BV e p pos) H Q=g8 T σ e H λv a=>match v with | .lst l=>Q (nS 0 l) a | _=>False:=rfl
theorem Pl:DU T σ (.rev e p pos) H Q=g8 T σ e H λv a=>match v with | .lst l=>Q l.reverse a | _=>False:=rfl
theorem Kr:DU T σ (.gen x es p pos) H Q=(T.FQ x=true/\lc T σ es H λb a=>match T.gen x b with | some l=>Q l a | none=>False):=rfl
end
section
variable {Q:Bool->Hs->Prop}
theorem lN:Ct T σ (.val e) H Q=g8 T σ e H λv a=>T.OR v a λb=>Q b a:=rfl
theorem qX:Ct T σ (.not t pos) H Q=Ct T σ t H λb a=>Q (!b) a:=rfl
theorem kX {op ts}:Ct T σ (.Gk op ts pos) H Q=wY T σ op ts H Q:=rfl
theorem fR {op}:Ct T σ (.cmp op l r pos) H Q=g8 T σ l H λa d=>g8 T σ r d λb c=>T.cmp op a b c λv=>Q v c:=rfl
theorem n8 {op}:wY T σ op [] H Q=Q (op==.And) H:=rfl
theorem n9 {op ts}:wY T σ op (t::ts) H Q=Ct T σ t H λb a=>match op,b with
  | .And,false=>Q false a
  | .Or,true=>Q true a
  | _,_=>wY T σ op ts a Q:=rfl
end
end
section
variable {T:Tb}{σ:Sg}{H:Hs}{Q:Fl->Sg->Hs->Prop}{pos p q:Pos}{e o i:ME}{t:MT}{b bo:List MS}{s:MS}
theorem bU {z}:wpS T (.asg z e p pos) σ H Q=g8 T σ e H λv a=>Q none (σ.set z (some v)) a:=rfl
theorem hW {a z}:wpS T (.o7 a e z p pos) σ H Q=g8 T σ e H λv c=>match tG a.length v with | some d=>Q none (iO a d σ) c | none=>False:=rfl
theorem pY:wpS T (.zD o i e p pos) σ H Q=g8 T σ e H λv c=>g8 T σ o c λa d=>g8 T σ i d λk f=>CS f a k v λg=>Q none σ g:=rfl
theorem qF {M z}:wpS T (.aug M z e p pos) σ H Q=match σ.getD M none with | some a=>g8 T σ e H λb d=>T.Pi z a b λv=>Q none (σ.set M (some v)) d | none=>False:=rfl
theorem oa:wpS T (.ex e pos) σ H Q=g8 T σ e H λv a=>Q none σ a:=rfl
theorem fH:wpS T (.ret e pos) σ H Q=g8 T σ e H λv a=>Q (some v) σ a:=rfl
theorem tI:wpS T (.C2 pos) σ H Q=Q (some .none) σ H:=rfl
theorem dY:wpS T (.iff t b bo pos) σ H Q=Ct T σ t H λc a=>(c=true->de T b σ a Q)/\(c=false->de T bo σ a Q):=rfl
theorem x6:wpS T (.OM t b pos) σ H Q=∃n,A0 (λσ H k=>Ct T σ t H k) (λσ H k=>de T b σ H k) n σ H Q:=rfl
theorem kr {tg it}:wpS T (.mv tg p it b pos) σ H Q=DU T σ it H λa c=>sH (λx σ H k=>match fu tg.length x with
   | some d=>de T b (iO tg d σ) H k
   | none=>False) a σ c Q:=rfl
theorem jj:de T [] σ H Q=Q none σ H:=rfl
theorem eH:de T (s::b) σ H Q=wpS T s σ H λd a c=>match d with | none=>de T b a c Q | some v=>Q (some v) a c:=rfl
end
theorem Rb {c:List ME}{b:Pos}:toPy i (.call x c Y b)=.Call (.Name x Y) (iz i c) [] b:=rfl
theorem T3 {c:List ME}{b:Pos}:toPy i (.blt x c Y b)=.Call (.Name x Y) (iz i c) [] b:=rfl
theorem T2 {c:List ME}{b:Pos}:toPy i (.cv n c Y b)=.Call (.Name (nm i n) Y) (iz i c) [] b:=rfl
theorem Rs.at (r:Rs h d c l j.toList) (b:l[n]? =some v) (a:j[n]? =some f):R h d c v f:=
 (r.get b).elim λO q=>aN (q.1.symm.trans ((sD (xs:=j) (i:=n)).trans a))▸q.2
theorem Rs.size {h:Heap}{d:Addr->Prop}{a:List Addr}{b:List V}{c:Array Value} (r:Rs h d a b c.toList):c.size=b.length:=bD.symm.trans r.length
theorem BA (a:List Str) (e:ME):uU (toPy a e)=true:=by cases e<;>rfl
theorem nk (b:List Str) (e:ME) (r:List Expr) (a:Env):wQ (toPy b e::r) a=(false,eval (toPy b e) a)::wQ r a:=by cases e<;>rfl
theorem wI (a:List Str) (b:CmpOp) (e:ME):behindInMarks b (toPy a e)=false:=by cases e<;>rfl
theorem Hx (b:List Str) (e:ME) (a:Env) (x:Value):Vp (toPy b e) a x=pure x:=by cases e<;>rfl
theorem tR (b:List Str) (e:MI) (a:Env) (x:Value):Vp (nw b e) a x=pure x:=by cases e<;>first | rfl | exact Hx ..
theorem uq (a:List Str):∀b:List ME,(iz a b).length=b.length
 | []=>rfl
 | _::r=>congrArg (·+1) (uq a r)
section
variable {h:Heap}{av zN:Addr->Prop}{own:List Addr}
mutual
theorem R.wG (b:∀a,zN a->av a\/a∈own):∀{v w},V.yo v=true->R h av own v w->R h zN [] v w
 | .none,_,_,e=>e
 | .bool _,_,_,e=>e
 | .int _,_,_,e=>e
 | .dg _,_,_,e=>e
 | .str _,_,_,e=>e
 | .sw _,_,_,e=>e
 | .obj _,_,_,e=>e
 | .ref _,_,n,_=>bT n
 | .tup _,_,n,e=>e.elim λa e=>e.elim λc e=>⟨a,c,e.1,λq=>(b a q).elim e.2.1 e.2.2.1,aC,e.2.2.2.1,Rs.wG b n e.2.2.2.2⟩
 | .lst _,_,n,e=>e.elim λa e=>e.elim λc e=>e.elim λk e=>⟨a,c,k,e.1,λq=>(b a q).elim e.2.1 e.2.2.1,aC,e.2.2.2.1,Rs.wG b n e.2.2.2.2⟩
theorem Rs.wG (c:∀a,zN a->av a\/a∈own):∀{vs ws},V.f2 vs=true->Rs h av own vs ws->Rs h zN [] vs ws
 | [],_,_,e=>e
 | _::_,_,n,e=>e.elim λw e=>e.elim λb e=>⟨w,b,e.1,R.wG c (dG n).1 e.2.1,Rs.wG c (dG n).2 e.2.2⟩
end
mutual
theorem R.Ad (b:∀a,av a\/a∈own->zN a):∀{v w},R h zN [] v w->R h av own v w
 | .none,_,e=>e
 | .bool _,_,e=>e
 | .int _,_,e=>e
 | .dg _,_,e=>e
 | .str _,_,e=>e
 | .sw _,_,e=>e
 | .obj _,_,e=>e
 | .ref _,_,e=>e.elim λO e=>nomatch e.2
 | .tup _,_,e=>e.elim λa e=>e.elim λc e=>⟨a,c,e.1,λq=>e.2.1 (b a (.inl q)),λq=>e.2.1 (b a (.inr q)),e.2.2.2.1,Rs.Ad b e.2.2.2.2⟩
 | .lst _,_,e=>e.elim λa e=>e.elim λc e=>e.elim λk e=>⟨a,c,k,e.1,λq=>e.2.1 (b a (.inl q)),λq=>e.2.1 (b a (.inr q)),e.2.2.2.1,Rs.Ad b e.2.2.2.2⟩
theorem Rs.Ad (c:∀a,av a\/a∈own->zN a):∀{vs ws},Rs h zN [] vs ws->Rs h av own vs ws
 | [],_,e=>e
 | _::_,_,e=>e.elim λw e=>e.elim λb e=>⟨w,b,e.1,R.Ad c e.2.1,Rs.Ad c e.2.2⟩
end
theorem R.uB (hs:v.uB=true) {b:Heap}{zN:Addr->Prop} (r:R h av own v f):R b zN c v f:=by
 cases v<;>first | exact r | exact bT hs
end
section
variable {C:Cx}{T:Tb}{N:Nat}{sc:Scope}{lay:List Str}
def SE (C:Cx) (T:Tb) (N:Nat) (sc:Scope) (lay:List Str) (e:ME):Prop:=
 gO sc lay e=true->∀A s d b H f c a (Q E:Value->Shared->Prop),fD A N->Fm C d s b c sc lay f->Hp C d s b H->g8 T f e H a->f9 C d s b a Q->
  wpAny C.md A (eval (toPy lay e) c) Q E s
def HT (C:Cx) (T:Tb) (N:Nat) (sc:Scope) (lay:List Str) (d:List ME):Prop:=
 jR sc lay d=true->∀A s e b H g c a (Q:List Value->Shared->Prop) (E:Value->Shared->Prop) (f:Pos),fD A N->Fm C e s b c sc lay g->Hp C e s b H->lc T g d H a->LT C e s b d.length a Q->
  wpAny C.md A (Vm (backTo f (wQ (iz lay d) c))) Q E s
def ST (C:Cx) (T:Tb) (N:Nat) (sc:Scope) (lay:List Str) (t:MT):Prop:=
 xb sc lay t=true->∀A s d c H e b a (Q:Bool->Shared->Prop) (E:Value->Shared->Prop),fD A N->Fm C d s c b sc lay e->Hp C d s c H->Ct T e t H a->LS C d s c a Q->
  wpAny C.md A (isTrue (nv lay t) b (eval (nv lay t) b)) Q E s
def Ve (C:Cx) (T:Tb) (N:Nat) (sc:Scope) (lay:List Str) (e:List MT):Prop:=
 tz sc lay e=true->∀f A s d b H g c a (Q:Bool->Shared->Prop) (E:Value->Shared->Prop),fD A N->Fm C d s b c sc lay g->Hp C d s b H->wY T g f e H a->LS C d s b a Q->
  wpAny C.md A (allTrue f (nu lay e) c) Q E s
noncomputable abbrev Cx.z (C:Cx):Cx:={C with lo:=0}
theorem Hp.z {b:Addr->Prop}{s:Shared}{a:List Addr}{H:Hs} (P:Hp C b s a H):Hp C.z b s a H:=
 ⟨⟨P.gd.base,P.gd.tabs,P.gd.size⟩,P.len,P.nd,P.lst,P.lo,P.f4,P.bM,eB _⟩
theorem Hp.Wn (P:Hp C.z d s c J) (h:C.lo<=s.toks):Hp C d s c J:=
 ⟨⟨P.gd.base,P.gd.tabs,P.gd.size⟩,P.len,P.nd,P.lst,P.lo,P.f4,P.bM,h⟩
theorem QV (j:fT C T N) {z M pos}:SE C T N sc lay (.cst z M pos):=by
 intro _ A s l h H m e g Q E _ F P a d
 cases z with
 | float x=>
  replace a:=(bt)▸a
  by_cases f:T.fl=true
  ·rw [show bV T.fl (.float x)=some (.dg x) from if_pos f] at a
   exact (λO O O=>d _ _ _ _ _ a ⟨_,rfl,xM (ar (j.fl f) P.tk)⟩ P.tok c4.tok:wpAny _ _ (eval (.Constant (.float _) _ _) e) Q E s)
  ·replace a:=((show bV T.fl (.float x)=none from if_neg f))▸a
   exact a.elim
 | none=>exact wpAny_Constant_none (d .none _ _ _ _ a rfl P c4.refl)
 | bool b=>exact Su (d (.bool b) _ _ _ _ a rfl P c4.refl)
 | int i=>exact zp (d (.int i) _ _ _ _ a ⟨_,rfl⟩ P.tok c4.tok)
 | str x=>exact wpAny_Constant_str (d (.str x) _ _ _ _ a ⟨_,rfl⟩ P.tok c4.tok)
 | bytes b=>exact (λO O O=>d (.sw b.toArray) _ _ _ _ a ⟨_,rfl⟩ P.tok c4.tok:wpAny _ _ (eval (.Constant (.bytes _) _ _) e) Q E s)
 | _=>exact cw a
theorem QK {z pos}:SE C T N sc lay (.var z pos):=by
 intro f A s j b H h d c Q E _ F P a e
 replace a:=(aU)▸a
 cases hv:h.getD z none with
 | none=>replace a:=(hv)▸a;exact a.elim
 | some v=>replace a:=(hv)▸a;exact F.load f hv λg r=>e v g s b H a r P c4.refl
theorem QU (g:fT C T N) {z pos}:SE C T N sc lay (.KA z pos):=by
 intro b A s k c H l h f Q E _ F P a i
 replace b:iI sc z=true:=b
 replace a:=(iB)▸a
 replace b:=dG b
 cases hv:T.gl z with
 | none=>replace a:=(hv)▸a;exact a.elim
 | some v=>
  replace a:=(hv)▸a
  refine ah (g.gl z v hv) λj d=>af d λe r=>?_
  refine oM (ae F.scope F.kind) (by unfold mP;exact ae F.scope (eq_of_beq b.2)) (AR (mg:=C.mg) ?_ e (i v j s c H a (r _ _ _) P c4.refl)) ((gb _).mp b.1)
  exact ae F.glob (g.cx.g.keeps P.gd.base)
theorem QY (X:fT C T N) {op l' r' pos} (x:SE C T N sc lay l') (z:SE C T N sc lay r'):SE C T N sc lay (.bin op l' r' pos):=by
 intro f A s g h H o d k Q E i F P D y
 replace f:=dG f
 exact wpAny_BinOp (x f.1 A s g h H o d _ _ _ i F P D λa K S e p Y G q m=>(z f.2 A S g e p o d _ _ _ i (F.grow m P.bM) q Y λb L U c j Z I u n=>(X.bin _ _ _ _ Z A U g c j K L Q E i u (G.grow n P.bM cA.nil) I λv M W B J P3 w=>y v M W c j B J P3 (m.trans (n.trans w)))))
theorem QM (B:fT C T N) {op M pos} (m:SE C T N sc lay M):SE C T N sc lay (.wZ op M pos):=by
 intro q A s h d H G c g Q E i F P p n
 exact wpAny_UnaryOp (m q A s h d H G c _ _ _ i F P p λa w y b f D r j k=>(B.wZ _ _ _ D A y h b f w Q E i j r λv x z o u P3 l=>n v x z b f o u P3 (k.trans l)))
theorem QW (U:fT C T N) {op l' r' pos} (x:SE C T N sc lay l') (z:SE C T N sc lay r'):SE C T N sc lay (.cmp op l' r' pos):=by
 intro f A s g h H n d j Q E i F P D y
 replace f:=dG f
 refine wpAny_Compare1 (x f.1 A s g h H n d _ _ _ i F P D λa J L e o W G q k=>?_) (wI ..)
 exact z f.2 A L g e o n d _ _ _ i (F.grow k P.bM) q W λb K M c p X I u m=>(U.cmp _ _ _ _ _ X A M g c J K _ E i u (G.grow m P.bM cA.nil) I λv S B P3 w=>y (.bool v) (.bool v) S c p B rfl P3 (k.trans (m.trans w)))
theorem QT {t b' o' pos} (J:ST C T N sc lay t) (G:SE C T N sc lay b') (ho:SE C T N sc lay o'):SE C T N sc lay (.FO t b' o' pos):=by
 intro y A s j m H u d e Q E n F P K I
 have h:=dG (dG y).1
 have l:=(dG y).2
 refine wpAny_IfExp (J h.1 A s j m H u d _ _ _ n F P K λc p a w z x k=>?_)
 have f:f9 C j p a e Q:=λv L M i B q r D g=>I v L M i B q r D (k.trans g)
 cases c with
 | true=>exact G h.2 A p j a w u d _ _ _ n (F.grow k P.bM) x (z.1 rfl) f
 | false=>exact ho l A p j a w u d _ _ _ n (F.grow k P.bM) x (z.2 rfl) f
theorem M4:HT C T N sc lay []:=by
 intro h A s g e H j b a Q E f i F P d c
 exact vG (c _ _ _ _ _ rfl d Rs.nil P c4.refl)
theorem G8 {p:List ME} (o:C.lo<=1) (f:HT C T N sc lay p) (w:jR sc lay p=true) {cK:List V->Hs->Prop}{i:List Value->Shared->Prop}{pos:Pos}
  (y:fD A N) (F:Fm C d s c Z sc lay X) (P:Hp C.z d s c J) (r:lc T X (.cst (.int b) n Y::p) J cK) (q:LT C d s c (p.length+1) cK i):
  wpAny C.md A (Vm (backTo pos (wQ (iz lay (.cst (.int b) n Y::p)) Z))) i Q s:=by
 have h:Hp C d {s with toks:=s.toks+1} c J:=P.tok.Wn (ar o (Nat.le_add_left _ _))
 have j:c4 C d [] s c {s with toks:=s.toks+1} c:=c4.tok
 refine n0 ?_ (nk ..)
 exact zp (f w A _ d c J X Z _ _ _ pos y (F.grow j h.bM) h r λv D z e l u B x m k=>q _ _ z e l (by simp [u]) B (Rs.cons (R.j2.mpr ⟨_,rfl⟩) x) m (j.trans k))
theorem Je {e' es} (w:SE C T N sc lay e') (g:HT C T N sc lay es):HT C T N sc lay (e'::es):=by
 intro f A s k h H o b j Q E i n F P y x
 replace f:=dG f
 refine n0 (w f.1 A s k h H o b _ _ _ n F P y λa L G c p J B r l=>?_) (nk ..)
 exact g f.2 A G k c p o b _ _ _ i n (F.grow l P.bM) r J λv M I d q z K D u m=>x _ _ I d q (by simp [z]) K (Rs.cons (B.grow m P.bM cA.nil) D) u (l.trans m)
theorem Ei (P:Hp C d s c J) (r:Rs s.heap d c l S)
  (j:B (.tup l) J) (i:f9 C d s c B Q):Q (.ref s.heap.objs.size) {s with heap:=s.heap.push {cls:=.type "tuple",data:=.seq S.toArray}}:=by
 refine i (.tup l) _ _ c J j ?_ (P.push _) c4.push
 refine R.CD.mpr ⟨_,S.toArray,rfl,λq=>ay _ (P.f4 _ q),λq=>?_,⟨_,bg _ rfl,rfl,_,rfl⟩,?_⟩
 ·refine ah (eF.mp q) λn g=>?_
  have h:n < J.length:=bQ P.len ((aL.mp g).1)
  obtain ⟨k,a,e,_⟩:=P.lst n _ J[n] g (by simp [h])
  exact ay _ (bF e)
 ·(exact r.keeps (λO O e=>aQ _ e) (ae (bE _ _) (bx _)))
theorem Hp.fresh (P:Hp C d s c J):s.heap.objs.size∉c:=λq=>by
 refine ah (eF.mp q) λn b=>?_
 have a:n < J.length:=bQ P.len ((aL.mp b).1)
 obtain ⟨f,g,e,_⟩:=P.lst n _ J[n] b (by simp [a])
 exact ay _ (bF e)
theorem Hp.lt (P:Hp C d s c J) (q:D∈c):D < s.heap.objs.size:=by
 refine ah (eF.mp q) λn b=>?_
 have f:n < J.length:=bQ P.len ((aL.mp b).1)
 obtain ⟨g,h,e,_⟩:=P.lst n _ J[n] b (by simp [f])
 exact bF e
theorem rF (h:Bool) (P:Hp C d s c J) (r:Rs s.heap d c l S)
  (j:if h then B (.ref J.length) (J++[l]) else B (.lst l) J) (i:f9 C d s c B Q):Q (.ref s.heap.objs.size) {s with heap:=s.heap.push {cls:=.type "list",data:=.seq S.toArray n}}:=by
 cases h with
 | false=>
  refine i (.lst l) _ _ c J j ?_ (P.push _) c4.push
  refine R.td.mpr ⟨_,S.toArray,n,rfl,λq=>ay _ (P.f4 _ q),P.fresh,bg _ rfl,?_⟩
  (exact r.keeps (λO O e=>aQ _ e) (ae (bE _ _) (bx _)))
 | true=>
  refine i (.ref J.length) _ _ (c++[s.heap.objs.size]) (J++[l]) j ?_ (P.new (tk:=s.toks) r) ?_
  ·exact R.yg.mpr ⟨_,rfl,by refine bQ P.len ?_;simp⟩
  ·exact ⟨⟨λb o e O O O=>aQ _ e,⟨[s.heap.objs.size],rfl,λa m=>by exact ae (ai.mp m) ⟨aD _,λq=>ay _ (P.f4 _ q)⟩⟩,
    by rw [bE];exact bx _⟩,rfl,λO O e=>e,λb=>b⟩
end
theorem fS (h:n<=1000):n<=Gx:=ae PM (ak fe 14 [_] [] h)
theorem rX (a:List Str) (b:Env) (c:Pos):∀d:List ME,(backTo c (wQ (iz a d) b)).all (λx=>!x.1)=true
 | []=>rfl
 | e::r=>by
  have:=rX a b c r
  refine ae (show iz a (e::r)=toPy a e::iz a r from rfl) (ae (nk _ _ _ _) ?_)
  unfold backTo at this ⊢
  exact this
theorem iY (b:List Str) (a:Env) (c:Pos) (d:List ME):(backTo c (wQ (iz b d) a)).any (·.1)=false:=by
 have:=rX b a c d
 replace this:=(propext aS)▸this
 refine ae (propext Mo) ?_
 intro x e
 have:=this x e
 simpa using this
theorem iA {M:Model}{l:List (Bool×Sem Value)}{E:Args->Shared->Prop} (e:l.any (·.1)=false)
  (h:wpAny M A (Vm l) (λc a=>E ⟨c,[]⟩ a) Q s):wpAny M A (Y8 f true l []) E Q s:=by
 cases l with
 | nil=>
  unfold Y8
  show wpAny M A (Vm [] >>= _) E Q s
  refine wpAny_bind (zo h (λc a d=>?_) λO O x=>x)
  exact wpAny_bind (wpAny_pure (dV (wpAny_bind (wpAny_pure (wpAny_bind (wpAny_pure (wpAny_pure d)))))))
 | cons x r=>
  obtain ⟨b,t⟩:=x
  cases b with
  | false=>exact evalArgs_plain h
  | true=>simp at e
section
variable {C:Cx}{T:Tb}{N:Nat}{sc:Scope}{lay:List Str}
theorem QS {mu es pos} (o:HT C T N sc lay es):SE C T N sc lay (.lst mu es pos):=by
 intro c A s l e H G d f Q E x F P u p
 replace c:=dG c
 have a:es.length<=1000:=of_decide_eq_true c.1
 refine S0 (o c.2 A s l e H G d _ _ _ pos x F P u λK z J g I w D h j m=>?_)
 refine ⟨fS (ae h.length (ae w a)),?_⟩
 exact rF mu j h D λv y B b i q r k n=>p v y B b i q r k (m.trans n)
theorem QN {es M pos} (p:HT C T N sc lay es):SE C T N sc lay (.tup es M pos):=by
 intro c A s m e H I d f Q E y F P w u
 replace c:=dG c
 have a:es.length<=1000:=of_decide_eq_true c.1
 refine wpAny_Tuple (p c.2 A s m e H I d _ _ _ pos y F P w λL B K g J x G h j n=>?_)
 refine ⟨fS (ae h.length (ae x a)),?_⟩
 exact Ei j h G λv z D b i q r l o=>u v z D b i q r l (n.trans o)
theorem Rs.replicate {h:Heap}{b:Addr->Prop}{a:List Addr}{v:V}{w:Value} (r:R h b a v w):∀n,Rs h b a (bk n v) (bk n w)
 | 0=>Rs.nil
 | n+1=>Rs.cons r (Rs.replicate r n)
theorem Wc (w:Value):∀(n:Nat) (a:Array Value),(YB (λb c=>b++c) a (bk n #[w])).toList=a.toList++bk n w
 | 0,a=>by simp
 | n+1,a=>by
  refine ae Iw (ae dP (ae (Wc w n _) ?_))
  simp [Iw]
theorem QQ {mu e' n' Ul pos} (Z:SE C T N sc lay e') (hn:SE C T N sc lay n'):SE C T N sc lay (.rep mu e' n' Ul pos):=by
 intro p A s g k H L h J Q E K I P hw hp
 replace p:=dG p
 refine wpAny_BinOp (S0 (n0 (Z p.1 A s g k H L h _ _ _ K I P hw λa d u c M w1 r1 o X=>vG ⟨fS (by simp),?_⟩) (nk ..)))
 have i:c4 C g [] s k {u with heap:=u.heap.push {cls:=.type "list",data:=.seq [d].toArray}} c:=X.trans c4.push
 refine hn p.2 A _ g c M L h _ _ _ K (I.grow i P.bM) (o.push _) w1 λb rb D l H2 w r2 W x=>?_
 cases b with
 | int n'=>
  refine ah (R.j2.mp r2) λt G=>?_;subst G
  refine aA w λy f w=>?_
  have j:D.heap.get? u.heap.objs.size=some {cls:=.type "list",data:=.seq #[d]}:=by
   have z:u.heap.objs.size∉c:=o.fresh
   refine x.keep _ _ (bg _ rfl) z aC λq=>ay _ (o.f4 _ (o.bM _ q))
  have B:R D.heap g l a d:=(r1.keeps (λO O e'=>aQ _ e') (by exact ae (bE _ _) (bx _)):R _ g c a d).grow x P.bM cA.nil
  ·refine wpAny_binaryOp_repeat_ref (T:="list") (U:="int") (by decide) ⟨_,j,rfl⟩ (λs'=>S2 s' n' t) noFill_list_mul F.fills_int_mul F.slot_int_rmul repeat_list F.slot_int_index.lookup
    (n3 F.slot_int_rmul (S2 D n' t) F.entry_int_rmul (F.args_int_rmul_2 _ _) (lm_int_rmul_list_any n' t _ #[d] 0 none #[])
     ⟨j,rfl,⟨_,j,rfl⟩,n3 F.slot_list_mul ⟨_,j,rfl⟩ F.entry_list_mul (F.args_list_mul_2 _ _)
      (lm_list_mul_any _ #[d] 0 none #[] n' t (by simp [Yf];exact au eV 0 [] [_] y f) (by simp;exact ak fe 15 [] [_] f) (by simp [xh,Gx];exact ak fe 16 [] [_] f))
      ⟨j,?_⟩⟩)
   have e':(Ia (YB (λx1 x2=>x1++x2) #[] (bk (if (#[d]:Array Value).isEmpty=true then 0 else n'.toNat) #[d])))=Ia (bk n'.toNat d).toArray:=by
    congr 1
    apply Array.ext'
    refine ae (if_neg bT) (ae (Wc _ _ _) ?_);simp
   exact ae e' (rF mu W (Rs.replicate B n'.toNat) w λv rv s3 m S q r P3 Y=>hp v rv s3 m S q r P3 (i.trans (x.trans Y)))
 | _=>exact w.elim
end
section
variable {C:Cx}{T:Tb}{N:Nat}{sc:Scope}{lay:List Str}
theorem Hp.callee {b:Addr->Prop} (P:Hp C d s c J) (f:∀a,b a->d a\/a∈c) (g:∀a,C.tb a->b a):Hp C b s [] []:=
 ⟨P.gd,rfl,ef,λn a i e O=>(by simp at e),(λa h=>nomatch h),λa h=>(f a h).elim (P.f4 a) P.lt,g,P.tk⟩
theorem Hp.back {i:Addr->Prop}{f:Shared} (P:Hp C d s c J) (g:c4 C i [] s [] f []) (G:Gd C f.heap) (y:C.lo<=f.toks):Hp C d f c J/\c4 C d [] s c f c:=by
 have m:c4 C d [] s c f c:=⟨⟨λb o e O v w=>g.keep b o e (by trivial) v w,⟨[],by exact (bw _).symm,by exact nofun⟩,g.size⟩,g.os,g.gens,g.bare⟩
 refine ⟨⟨G,P.len,P.nd,λn a z l p=>?_,P.lo,λa h=>am (P.f4 a h) g.size,P.bM,y⟩,m⟩
 refine aG (P.lst n a z l p) λA k j=>af j λu r=>?_
 have x:=bB l
 exact ⟨A,k,g.keep a _ u aC aC (λq=>(P.lo a x).2 (P.bM a q)),r.grow m P.bM cA.nil⟩
theorem R.Th (P:Hp C d s c J) (n:V.yo (vw J v)=true) (r:R s.heap d c v f):R s.heap C.tb [] (vw J v) f:=by
 cases v with
 | ref k=>
  refine ah r λa h=>af h λg e=>?_;subst g
  have i:k < J.length:=P.len▸(aL.mp e).1
  obtain ⟨o,H,j,m⟩:=P.lst k a J[k] e (aT i)
  have l:vw J (.ref k)=.lst J[k]:=congrArg V.lst ((ax ..).trans (congrArg (·.getD []) (aT i)))
  rw [l] at n ⊢
  exact ⟨a,o,H,rfl,λq=>(P.lo a (bB e)).2 (P.bM a q),aC,j,m.wG (λb q=>.inl (P.bM b q)) n⟩
 | _=>exact R.wG (λb q=>.inl (P.bM b q)) n r
theorem Rs.view {d:Addr->Prop}{s:Shared}{a:List Addr}{H:Hs} (P:Hp C d s a H):∀{b ws},V.f2 (b.map (vw H))=true->Rs s.heap d a b ws->Rs s.heap C.tb [] (b.map (vw H)) ws
 | [],_,_,e=>e
 | v::b,_,n,e=>e.elim λw e=>e.elim λc e=>⟨w,c,e.1,R.Th P (dG n).1 e.2.1,Rs.view P (dG n).2 e.2.2⟩
theorem ON {H:Hs}:∀{a:List V},a.any V.isRef=false->a.map (vw H)=a
 | [],_=>rfl
 | v::a,h=>by
  replace h:=(propext Bool.or_eq_false_iff)▸(List.any_cons)▸h
  refine ae bG (ae (ON h.2) ?_)
  congr 1
  cases v<;>first | rfl | cases h.1
theorem Oa (G:fT C T N) {E:Value->Shared->Prop}
  (F:pa C n f (T.fn x)) (H:n+1<=N) (w:fD A N) (P:Hp C d s c J) (r:Rs s.heap d c l S)
  (o:T.fn x (l.map (vw J)) λv=>((!l.any V.isRef) || v.uB)=true/\B v J) (D:f9 C d s c B Q):wpAny C.md A (call f S) Q E s:=by
 have e:=G.Pq _ _ _ o
 have j:fD A n:=⟨w.hd,bL (ak e8 14 [_,_,_] [] H) w.dp,bL (ak e8 15 [_,_,_] [] H) w.un⟩
 cases ha:l.any V.isRef with
 | false=>
  rw [ON ha] at o e
  exact F A s (λa=>d a\/a∈c) l S _ Q E j (P.callee (λO h=>h) λa h=>.inl (P.bM a h)) (r.wG (λO h=>h) e) o λv y z i u k g=>(af (P.back g k.gd k.tk) λp q=>(D v y z c J i.2 (u.Ad λO h=>h) p q))
 | true=>
  refine F A s C.tb (l.map (vw J)) S _ Q E j (P.callee (λa h=>.inl (P.bM a h)) λO h=>h) (r.view P e) o λv y z i u k g=>?_
  refine af (P.back g k.gd k.tk) λp q=>?_
  replace i:=(ha)▸i
  exact D v y z c J i.2 (u.uB i.1) p q
theorem M7 (i:fT C T N) {x' args p' pos} (M:HT C T N sc lay args):SE C T N sc lay (.call x' args p' pos):=by
 intro g A s z h H σ d l Q E u F P f S
 replace g:=AI g
 refine lS g λb O O ub=>?_
 unfold iI at b
 replace b:=dG b
 refine af f λe f=>?_
 refine gu (i.fn x' e) λa o J n j=>bh j λB D G I Z=>?_
 refine ae Rb (ae (gS _ _ _ _ _ _) ?_)
 refine wpAny_bind (oM (ae F.scope F.kind) (by unfold mP;exact ae F.scope (eq_of_beq b.2)) (AR (mg:=C.mg) (by refine ae F.glob ?_;exact i.cx.g.keeps P.gd.base) B ?_) ((gb _).mp b.1))
 refine sj (o:=o) (fd:=J) (iA (iY ..) (M ub A s z h H σ d _ _ _ pos u F P f λvs X s1 m H1 l1 w1 U k K=>⟨⟨k.gd.base _ _ D,G⟩,?_⟩))
 exact Oa i Z I u k U w1 λv W Y c w q r y L=>S v W Y c w q r y (K.trans L)
theorem qh {M:Model}{E:Value->Shared->Prop}{first:List Value}{c:List (Bool×Sem Value)} (g:(∃id,f=.builtin id)\/∃t,f=.type t)
  (b:c.any (·.1)=false)
  (h:wpAny M A (Y8 f true c []) (λa d=>wpAny M A (call f (first++a.pos) a.kw) Q E d) E s):wpAny M A (callWith Y f first c []) Q E s:=by
 rcases g with ⟨id,rfl⟩ | ⟨t,rfl⟩
 ·exact V4 b h
 ·exact YA b h
theorem yq (p:fT C T N) {E:Value->Shared->Prop} (F:Fm C d s c Z sc lay X) (P:Hp C.z d s c J)
  (b:iI sc x=true) (g:C.mg x=none) (i:x≠"__name__") (j:mO x=some f) (h:Q f s):wpAny C.md A (eval (.Name x Y) Z) Q E s:=by
 unfold iI at b
 replace b:=dG b
 refine oM (ae F.scope F.kind) (by unfold mP;exact ae F.scope (eq_of_beq b.2)) (loadGlobal_builtin (mg:=C.mg) (mb:=C.mb) (by refine ae F.glob ?_;exact p.cx.g.keeps P.gd.base) g (by refine ae F.blt ?_;exact p.cx.b.keeps P.gd.base) (by refine ae (p.cx.bi x i) ?_;exact j) h) ((gb _).mp b.1)
theorem QX (j:fT C T N) {x' args p' pos} (G:HT C T N sc lay args):SE C T N sc lay (.blt x' args p' pos):=by
 intro e A s o h H Y b n Q E r F P d I
 replace e:=AI e
 refine lS e λg O O ub=>?_
 refine af d λc d=>?_
 refine aA (j.UV x' c) λw y k=>ah k λf l=>af l λq z=>?_
 refine ae T3 (ae (gS _ _ _ _ _ _) ?_)
 exact wpAny_bind (yq j F P.z g w y q (qh z (iY ..) (iA (iY ..) (G ub A s o h H Y b _ _ _ pos r F P d λW i S a m Z X K u B=>(j.blt x' W m _ f X q A S o a i Q E r u K λv M U J L P3 D=>I v M U a m J L P3 (B.trans D))))))
theorem HR (lay:List Str) (e:ME) (m:Str) (c:Env) (t:Sem Value) (h:C8 e=true):
  attributeBase (toPy lay e) m c t=t:=by
 cases e with
 | call x b p d=>
  cases b with
  | nil=>
   show ite _ _ _=t
   exact if_pos (by refine ae (show (x !=("super":Str))=true from h) ?_;rfl)
  | cons a r=>rfl
 | blt x b p d=>
  cases b with
  | nil=>
   show ite _ _ _=t
   exact if_pos (by refine ae (show (x !=("super":Str))=true from h) ?_;rfl)
  | cons a r=>rfl
 | cv=>exact dk h
 | _=>rfl
theorem TD (z:fT C T N) {i' args p' pos} (S:HT C T N sc lay args):SE C T N sc lay (.cv i' args p' pos):=by
 intro j A s w l H B g u Q E x F P b U
 replace j:=wK j
 refine pH j λk O ub=>?_
 cases c:B.getD i' none with
 | none=>replace b:=(c)▸(m7)▸b;exact b.elim
 | some f=>
  rw [m7,c] at b
  refine af b λh b=>?_
  refine bj (z.Dz f h) λa o K n=>aA n λq I J=>?_;subst q
  refine ae T2 (ae (gS _ _ _ _ _ _) ?_)
  refine wpAny_bind (F.load k c λy W=>?_)
  refine ae (R.pz.mp W) ?_
  refine sj (o:=o) (fd:=K) (iA (iY ..) (S ub A s w l H B g _ _ _ pos x F P b λvs m Z d D l1 w1 X r L=>⟨⟨r.gd.base _ _ I,J⟩,?_⟩))
  exact z.cv _ vs D _ w1 A Z w d (.ref a) m Q E x r (R.pz.mpr rfl) X λv y s3 e G c Y P3 M=>U v y s3 e G c Y P3 (L.trans M)
theorem QR (K:fT C T N) {o' m' args apos pos} (ho:SE C T N sc lay o') (he:HT C T N sc lay args):SE C T N sc lay (.oe o' m' args apos pos):=by
 intro i A s h p H L c z Q E q F P hw hp
 replace i:=LG i
 refine zQ i λj k l n ub=>?_
 have d:args.length<=20:=of_decide_eq_true n
 show wpAny _ _ (eval (.Call (.Attribute (toPy lay o') m' apos) (iz lay args) [] pos) c) Q E s
 refine wpAny_Call_method_lateS (HR _ _ _ _ _ j) ?_ l (ho k A s h p H L c _ _ _ q F P hw λa I J b x w G y B=>?_)
 ·exact ae (rX _ _ _ _) (ae (uq _ _) (decide_eq_true (bL d (by decide))))
 ·refine af w λhs w=>?_
  refine ah (ig.mp hs) λu e=>?_;obtain ⟨Ty,id⟩:=u
  refine cu (K.Nt _ _ _ _ e) λW X Y Z=>?_
  refine af (Z J h b x I y G) λh5 h6=>?_
  refine ⟨Ty,id,W,X,Y,h5,h6,V4 (iY ..) (iA (iY ..) (he ub A J h b x L c _ _ _ pos q (F.grow B P.bM) y w λvs r s2 f H2 l2 w2 r2 S D=>?_))⟩
  exact K.oe _ _ _ _ _ _ _ w2 e A s2 h f I r Q E q S (G.grow D P.bM cA.nil) r2 λv rv s3 g M hv r3 P3 U=>hp v rv s3 g M hv r3 P3 (B.trans (D.trans U))
theorem QO (W:fT C T N) {o' i' pos} (ho:SE C T N sc lay o') (x:SE C T N sc lay i'):SE C T N sc lay (.sub o' i' pos):=by
 intro f A s g h H n d k Q E j F P B y
 replace f:=dG f
 exact Subscript_ (ho f.1 A s g h H n d _ _ _ j F P B λa J M e p X D r l=>(x f.2 A M g e p n d _ _ _ j (F.grow l P.bM) r X λb K S c q Y G u m=>(W.sub _ _ _ _ Y _ _ (BA ..) A S g c J K Q E j u (D.grow m P.bM cA.nil) G λv L U z I P3 w=>y v L U c q z I P3 (l.trans (m.trans w)))))
theorem K1 (lay:List Str) (a:Env):∀e:Option ME,evalPart (ur lay e) a=match e with | some e=>eval (toPy lay e) a | none=>pure .none
 | none=>rfl
 | some _=>rfl
def SO (C:Cx) (T:Tb) (N:Nat) (sc:Scope) (lay:List Str) (e:Option ME):Prop:=
 Ls sc lay e=true->∀A s d b H f c a (Q E:Value->Shared->Prop),fD A N->Fm C d s b c sc lay f->Hp C d s b H->Mv T f e H a->f9 C d s b a Q->
  wpAny C.md A (evalPart (ur lay e) c) Q E s
theorem M0:SO C T N sc lay none:=by
 intro g A s f e H i b a Q E h F P d c
 exact wpAny_pure (c _ _ _ _ _ d rfl P c4.refl)
theorem MZ {z} (f:SE C T N sc lay z):SO C T N sc lay (some z):=by
 intro i A s d c H k b a Q E j F P h g
 exact f i A s d c H k b a Q E j F P h g
theorem Ht {o:ME} (h:isVar o=true):∃j p,o=.var j p:=by
 cases o with
 | var j p=>exact ⟨j,p,rfl⟩
 | _=>exact bT h
theorem MO {l u:Option Expr}{a:Option ME}{i:Value}{M:Model}{E:Value->Shared->Prop} (h:wpAny M A (Mg f i) Q E s):wpAny M A (subscripted (.Slice l u (ur lay a) Y) false f i) Q E s:=by
 cases a with
 | none=>exact X8 h
 | some e=>exact X8 h
theorem G4 (tb:fT C T N) {lo hi st I9} (P:SE C T N sc lay lo) (M:SO C T N sc lay hi) (hs:SO C T N sc lay st) (z:gO sc lay lo=true) (B:Ls sc lay hi=true) (ub:Ls sc lay st=true) {A' s' av own σ env cK}{E:Value->Shared->Prop} (u:fD A' N) (F:Fm C av s' own env sc lay σ) (e:∀a,C.tb a->av a)
 {s1 Nm H1 a} (W:R s1.heap av Nm a f) (H:Hp C av s1 Nm H1) (n:c4 C av [] s' own s1 Nm) (w1:g8 T σ lo H1 λb x=>Mv T σ hi x λc y=>Mv T σ st y λd m=>T.Bg a b c d λv=>cK v m) (S:f9 C av s' own cK Q):
  wpAny C.md A' (eval (.Slice (some (toPy lay lo)) (ur lay hi) (ur lay st) I9) env)
     (λi g=>∃Ty id,Gv (.type Ty) "__getitem__"=pure (some (.builtin id))/\g.TypeIs f Ty/\wpAny C.md A' (Mg f i) Q E g) E s1:=by
 refine wpAny_Slice (P z A' s1 av Nm H1 σ env _ _ _ u (F.grow n e) H w1 λb D s2 j x w2 X I o=>?_)
 refine M B A' s2 av j x σ env _ _ _ u (F.grow (n.trans o) e) I w2 λc rc s3 l y w3 Y P3 p=>?_
 refine hs ub A' s3 av l y σ env _ _ _ u (F.grow ((n.trans o).trans p) e) P3 w3 λd G w r m w4 Z J q=>?_
 refine (tb.Bg _ _ _ _ _ w4).elim λTy k=>k.elim λid k=>⟨Ty,id,k.1,?_⟩
 have h:c4 C av [] w r {w with heap:=w.heap.push {cls:=.type "slice",data:=.fields #[D,rc,G]}} r:=c4.push
 exact k.2 A' _ av r m f D rc G w.heap.objs.size Q E u (J.push _)
  (W.grow (o.trans (p.trans (q.trans h))) e cA.nil) (X.grow (p.trans (q.trans h)) e cA.nil) (Y.grow (q.trans h) e cA.nil) (Z.grow h e cA.nil) (bg _ rfl)
  λv rv s5 U r5 K L=>S v rv s5 r m U r5 K (n.trans (o.trans (p.trans (q.trans (h.trans L)))))
theorem QP (G:fT C T N) {o' lo hi st I9 pos} (ho:SE C T N sc lay o') (z:SE C T N sc lay lo) (y:SO C T N sc lay hi) (hs:SO C T N sc lay st):SE C T N sc lay (.Bg o' lo hi st I9 pos):=by
 intro c A s v g H J d k Q E m F P f B
 replace c:=LG c
 refine aG (Ht c.1.1.1.1) λj p h=>?_;subst h
 replace f:=(iV)▸f
 show wpAny _ _ (eval (.Subscript (.Name (nm lay j) p) (.Slice (some (toPy lay lo)) (ur lay hi) (ur lay st) I9) pos) d) Q E s
 refine ae (eval_Subscript _ _ _) ?_
 refine wpAny_bind (ho c.1.1.1.2 A s v g H J d _ _ _ m F P f λa L M l K I D u w=>wpAny_bind (dV (zo (G4 G z y hs c.1.1.2 c.1.2 c.2 m F P.bM D u w I B) (λi n b=>?_) λO O x=>x)))
 exact b.elim λTy b=>b.elim λid b=>wpAny_bind (er (wpAny_bind (ae (getitemInPython_of_ne b.2.1.not_modules) (wpAny_bind (X7 b.2.1 b.1 (wpAny_pure (wpAny_bind (MO (zo b.2.2 (λr q e=>wpAny_bind (lU (by rfl) (wpAny_pure e))) λO O x=>x)))))))))
end
section
variable {C:Cx}{T:Tb}{N:Nat}{sc:Scope}{lay:List Str}
theorem vh (lay:List Str) (e:ME) (a:Env) (t:Sem Value) (h:Ae e=true):isTrue (toPy lay e) a t=(do let v <- t;standAt (toPy lay e).pos;holding [v] (truthy v)):=by
 cases e<;>first | rfl | exact dk h
theorem Qu (z:fT C T N) {M} (q:SE C T N sc lay M):ST C T N sc lay (.val M):=by
 intro d A s i g H D f h Q E j F P u r
 replace d:=dG d
 exact ae (show nv lay (.val M)=toPy lay M from rfl) (ae (vh _ _ _ _ d.1) (wpAny_bind (q d.2 A s i g H D f _ _ _ j F P u λa w x c k B v l n=>wpAny_bind (er (dV (z.OR _ _ _ B A x i c w Q E j l v λb y p m o=>r b y c k p m (n.trans o)))))))
theorem Qv {t pos} (k:ST C T N sc lay t):ST C T N sc lay (.not t pos):=by
 intro m A s h d H q c e Q E n F P l j
 exact wpAny_isTrue_Not (k m A s h d H q c _ _ _ n F P l λb o a f p g i=>j _ o a f p g i)
theorem Qx {op ts pos} (f:Ve C T N sc lay ts):ST C T N sc lay (.Gk op ts pos):=by
 intro h A s d b H j a c Q E i F P g e
 exact wpAny_isTrue_BoolOp (f h op A s d b H j a _ _ _ i F P g e)
theorem Qw (U:fT C T N) {op l' r' pos} (x:SE C T N sc lay l') (z:SE C T N sc lay r'):ST C T N sc lay (.cmp op l' r' pos):=by
 intro f A s g h H n d j Q E i F P D y
 replace f:=dG f
 refine wpAny_isTrue_Compare1 (x f.1 A s g h H n d _ _ _ i F P D λa J L e o W G q k=>?_) (wI ..)
 exact z f.2 A L g e o n d _ _ _ i (F.grow k P.bM) q W λb K M c p X I u m=>(U.cmp _ _ _ _ _ X A M g c J K _ E i u (G.grow m P.bM cA.nil) I λv S B P3 w=>se (y v S c p B P3 (k.trans (m.trans w))))
theorem MP:Ve C T N sc lay []:=by
 intro h e A s g f H j d a Q E i F P c b
 cases e with
 | And=>exact wpAny_allTrue_And_nil (b _ _ _ _ c P c4.refl)
 | Or=>exact wpAny_allTrue_Or_nil (b _ _ _ _ c P c4.refl)
theorem IZ {t ts} (y:ST C T N sc lay t) (i:Ve C T N sc lay ts):Ve C T N sc lay (t::ts):=by
 intro f B A s m j H p d x Q E o F P z n
 replace f:=dG f
 cases B with
 | And=>
  refine wpAny_allTrue_And_cons (y f.1 A s m j H p d _ _ _ o F P z λb k a g l h e=>?_)
  cases b with
  | false=>exact n _ k a g l h e
  | true=>exact i f.2 .And A k m a g p d _ _ _ o (F.grow e P.bM) h l λb v c q w r u=>n b v c q w r (e.trans u)
 | Or=>
  refine wpAny_allTrue_Or_cons (y f.1 A s m j H p d _ _ _ o F P z λb k a g l h e=>?_)
  cases b with
  | true=>exact n _ k a g l h e
  | false=>exact i f.2 .Or A k m a g p d _ _ _ o (F.grow e P.bM) h l λb v c q w r u=>n b v c q w r (e.trans u)
end
theorem uz (h:Heap) (a:Addr) (f:Obj->Obj):(h.update a f).objs.size=h.objs.size:=by cases h;simp [Heap.update]
theorem Runs.size_le {M:Model}{c:Ctx}{t:Sem Fin}{b:List Frame}{a:Shared}{e:End} (h:Runs M c Y t b s e a):s.heap.objs.size<=a.heap.objs.size:=by
 induction h<;>(try simp only [PS,bE,uz] at *)<;>(first | exact bA fm 5 [_] [] | exact ak fh 18 [_,_] [] ‹_› | exact ak fh 19 [_,_] [] ‹_› | exact au fC 1 [_,_,_] [] ‹_› ‹_›)
theorem Returns.size_le {M:Model}{b:Ctx}{p:Pos}{s a:Shared}{r:Result} (h:Returns M b p s r a):s.heap.objs.size<=a.heap.objs.size:=Runs.size_le h
theorem Wakes.size_le {M:Model}{j:Ctx}{p:Pos}{g:Nat}{r:Resume}{s i:Shared}{f:GenResult} (h:Wakes M j p g r s f i):s.heap.objs.size<=i.heap.objs.size:=by
 unfold Wakes at h
 split at h
 ·exact h.elim
 ·split at h
  ·refine aG h λd a b=>cu b λe O O c=>?_;subst c;exact (Runs.size_le e:(s.setGen g .running).heap.objs.size<=a.heap.objs.size)
  ·exact ae (h.2) (aD _)
  ·exact ae (h.2) (aD _)
 ·refine aG h λd a b=>cu b λe O O c=>?_;subst c;exact (Runs.size_le e:(s.setGen g .running).heap.objs.size<=a.heap.objs.size)
 ·exact ae (h.2) (aD _)
 ·exact ae (h.2) (aD _)
open Sem (wp) in
theorem Mu {y:Type} (M:Model) (x:Ctx) (n:Nat) (t:Sem y):∀(Q:y->Pos->Shared->Prop) (E:Value->Pos->Shared->Prop) (p:Pos) (s:Shared),n<=s.heap.objs.size->wp M x t Q E p s->
  wp M x t (λa l j=>n<=j.heap.objs.size/\Q a l j) (λe l j=>n<=j.heap.objs.size/\E e l j) p s:=by
 induction t with
 | pure a=>intro Q E p s b h;exact ⟨b,h⟩
 | raise e=>intro Q E p s b h;exact ⟨b,h⟩
 | unsupported _=>intro Q E p s _ h;exact h
 | finish _=>intro Q E p s _ h;exact h
 | rule _ k d=>intro Q E p s b h;exact d () Q E p s b h
 | «at» l k d=>intro Q E p s b h;exact d () Q E l s b h
 | load a _ k d=>intro Q E p s b h;exact ah h λo i=>af i λho h=>⟨o,ho,d o Q E p s b h⟩
 | update a _ f k d=>intro Q E p s b h;exact ⟨h.1,d () Q E p _ (by show n<=(s.heap.update a f).objs.size;exact ae (uz _ _ _) b) h.2⟩
 | loadIfAlive a k d=>intro Q E p s b h;exact d _ Q E p s b h
 | point _ k d=>intro Q E p s b h;exact d () Q E p s b h
 | register _ _=>intro Q E p s _ h;exact h
 | alloc o k d=>intro Q E p s b h;exact d _ Q E p _ (by show n<=(s.heap.push o).objs.size;exact ae (bE _ _) (dE b)) h
 | fresh k d=>intro Q E p s b h;exact d _ Q E p _ b h
 | ask k d=>intro Q E p s b h;exact d _ Q E p s b h
 | choose A m k d=>intro Q E p s b h;exact ⟨h.1,d _ Q E p _ b h.2⟩
 | os q _ k d=>intro Q E p s b h;exact d _ Q E p _ b h
 | call c hd _ _ k d=>intro Q E p s b h;exact aG h λr j i=>af i λv h=>⟨r,j,v,d r Q E p j (ar b (Returns.size_le v)) h⟩
 | handled z k d=>intro Q E p s b h;exact d _ Q E p s b h
 | genState g k d=>intro Q E p s b h;exact ah h λB i=>af i λhs h=>⟨B,hs,d _ Q E p s b h⟩
 | newGen c k d=>intro Q E p s b h;exact d _ Q E p _ b h
 | resume g r _ k d=>intro Q E p s b h;exact aG h λu j i=>af i λw h=>⟨u,j,w,d u Q E p j (ar b (Wakes.size_le w)) h⟩
 | yield _ _ _ _=>intro Q E p s _ h;exact h
 | stack k d=>intro Q E p s b h;exact d _ Q E p s b h
 | fork _ _=>intro Q E p s _ h;exact h
 | thread k d=>intro Q E p s b h;exact d _ Q E p s b h
 | await _ _ _ _ _=>intro Q E p s _ h;exact h
theorem dl {e:Type}{M:Model}{t:Sem e}{Q:e->Shared->Prop}{E:Value->Shared->Prop}
  (h:wpAny M A t (λa b=>s.heap.objs.size<=b.heap.objs.size/\s.toks<=b.toks->Q a b) E s):wpAny M A t Q E s:=
 zo (wpAny_toks (λd p c=>Sem.wp_mono M d _ (λO O O x=>x) (λO O O x=>x.2) _ _ (Mu M d _ t _ _ p s (aD _) (h d p c)):wpAny M A t (λa b=>s.heap.objs.size<=b.heap.objs.size/\(s.heap.objs.size<=b.heap.objs.size/\s.toks<=b.toks->Q a b)) E s))
  (λO O x=>x.2.2 ⟨x.2.1,x.1⟩) (λO O x=>x.2)
section
variable {C:Cx}{T:Tb}{N:Nat}{sc:Scope}{lay:List Str}{av:Addr->Prop}{s s':Shared}{own:List Addr}{H:Hs}{ex:List Addr}{σ:Sg}{env:Env}
theorem Hp.but {tk:Nat} (P:Hp C av s own H) (d:∀b o,b∉ex->s.heap.get? b=some o->h.get? b=some o) (hs:s.heap.objs.size<=h.objs.size)
  (f:∀a∈ex,a∉own/\¬C.tb a/\C.h₀.objs.size<=a) (m:cA s.heap ex) (x:s.toks<=tk:=by repeat constructor):Hp C av {s with heap:=h,toks:=tk} own H/\c4 C av ex s own {s with heap:=h,toks:=tk} own:=by
 have g:c4 C av ex s own {s with heap:=h,toks:=tk} own:=⟨⟨λb o e O v O=>d b o v e,⟨[],by exact (bw _).symm,by exact nofun⟩,hs⟩,rfl,λO O e=>e,λb=>b⟩
 refine ⟨⟨⟨λb o e=>d b o (λq=>lu (f b q).2.2 e) (P.gd.base b o e),λq l=>?_,ar P.gd.size hs⟩,P.len,P.nd,
  λn a y j p=>?_,P.lo,λa c=>am (P.f4 a c) hs,P.bM,ar P.tk x⟩,g⟩
 ·exact (P.gd.tabs q l).step d (λz=>(f _ z).2.1 (b9 l)) λa w o e=>(m a w o e).2
 ·exact aG (P.lst n a y j p) λA k i=>af i λu r=>⟨A,k,d _ _ (λz=>(f _ z).1 (bB j)) u,r.grow g P.bM m⟩
theorem Fm.vk (F:Fm C av s own env sc lay σ) (g:kP C.tb av ex s.heap own s'.heap c) (j:∀a,C.tb a->av a) (Q:env.locals∉ex) (D:∀y∈env.cells,y.2∉ex) (G:cA s.heap ex):Fm C av s' c env sc lay σ:=by
 refine ah F.ns λm b=>af b λE S=>?_
 have U:∀o,s.heap.get? env.locals=some o->s'.heap.get? env.locals=some o:=λo e=>g.keep _ _ e F.locs.1 Q F.locs.2.1
 refine bj (id E) λW O O b=>af b λJ O=>?_
 refine ⟨F.scope,F.kind,F.glob,F.blt,F.vc,F.len,⟨m,E.at' U,λi x v l n I=>?_⟩,λi x l n=>?_,⟨g.rD F.locs.1 J,F.locs.2⟩,λy hy=>?_,F.apart⟩
 ·exact ah (S i x v l n I) λu b=>af b λe r=>⟨u,e,r.iv g j G⟩
 ·refine aG (F.cell i x l n) λd q b=>aA b λe w h=>ah w λo z=>af z λk p=>?_
  have f:=F.qg (x,d) (b7 e)
  exact ⟨d,q,e,⟨o,g.keep _ _ k f.1 (D _ (b7 e)) f.2.1,p⟩,λv K=>let ⟨u,e,r⟩:=h v K;⟨u,e,r.iv g j G⟩⟩
 ·refine bh (F.qg y hy) λA B L M P=>?_
  refine aG P λq o b=>af b λk p=>?_
  exact ⟨g.rD A k,B,L,M,q,o,g.keep _ _ k A (D y hy) B,p⟩
end
structure zc (C:Cx) (av:Addr->Prop) (ex:List Addr) (gk:Nat) (s:Shared) (own:List Addr) (s':Shared) (f7:List Addr):Prop extends
  kP C.tb av ex s.heap own s'.heap f7 where
 os:s'.os=s.os
 gens:∀(i:Nat) (x:GC),i < gk->s.gens[i]? =some x->s'.gens[i]? =some x
 bare:pT s.gens->pT s'.gens
theorem c4.toK {f:Shared}{b a:List Addr} (g:c4 C d c s b f a):zc C d c n s b f a:=⟨g.tokP,g.os,λi x O e=>g.gens i x e,g.bare⟩
theorem zc.zO {k:Addr->Prop}{i:Shared}{j b:List Addr} (g:zc C k c n s j i b) (h:∀a,d a->k a):zc C d c n s j i b:=
 ⟨⟨g.keep,let ⟨f,e,m⟩:=g.own;⟨f,e,λa l=>⟨(m a l).1,λq=>(m a l).2 (h a q)⟩⟩,g.size⟩,g.os,g.gens,g.bare⟩
theorem c4.Uz {e:Shared}{b a:List Addr} (g:c4 C d c s b e a):s.gens.size<=e.gens.size:=by
 rcases Nat.eq_zero_or_pos s.gens.size with h | h
 ·exact ak fh 20 [_,_] [] h
 ·have:=g.gens (s.gens.size - 1) (s.gens[s.gens.size - 1]'(by omega)) (by simp)
  have:=(gU.mp this).1
  exact au fC 3 [_,_,_] [] this a8
structure Stream (C:Cx) (A:Around) (Ql:Expr) (it:Addr) (fp ia:List Addr) (gk:Nat) (I:(Addr->Prop)->List V->Shared->List Addr->Prop) (J:(Addr->Prop)->Value->List V->Shared->List Addr->Prop):Prop where
 step:∀av x xs s own H (Q:Option Value->Shared->Prop) (E:Value->Shared->Prop),I av (x::xs) s own->Hp C av s own H->
  (∀rv s',R s'.heap av own x rv->J av rv xs s' own->Hp C av s' own H->zc C av ia gk s own s' own->Q (some rv) s')->wpAny C.md A (pyNext (.ref it)) Q E s
 go:∀av xs s own H rv x (Q:Unit->Shared->Prop) (E:Value->Shared->Prop),J av rv xs s own->Hp C av s own H->R s.heap av own x rv->
  (∀s',I av xs s' own->R s'.heap av own x rv->Hp C av s' own H->zc C av ia gk s own s' own->Q () s')->wpAny C.md A (Yb Ql (.ref it) rv) Q E s
 done:∀av s own H (Q:Option Value->Shared->Prop) (E:Value->Shared->Prop),I av [] s own->Hp C av s own H->
  (∀s',Hp C av s' own H->zc C av ia gk s own s' own->Q none s')->wpAny C.md A (pyNext (.ref it)) Q E s
 self:∀av xs s own (Q:Value->Shared->Prop) (E:Value->Shared->Prop),I av xs s own->Q (.ref it) s->wpAny C.md A (pyIter (.ref it)) Q E s
 frame:∀av xs s own ex s' f7,I av xs s own->c4 C av ex s own s' f7->(∀a,C.tb a->av a)->(∀a∈fp,a∉ex)->B7 s.heap av ex->I av xs s' f7
 Xo:∀av zN xs s own,I av xs s own->(∀a,zN a->av a\/s.heap.objs.size<=a)->I zN xs s own
 W9:∀av xs s own,I av xs s own->∀a∈fp,∃o,s.heap.get? a=some o
 jA:∀av xs s own,I av xs s own->cA s.heap ia
 Bz:∀av rv xs s own,J av rv xs s own->cA s.heap ia
 sub:∀a∈ia,a∈fp
noncomputable def u9:List String:=["enumerate","zip","dict_itemiterator","dict_reverseitemiterator","odict_iterator","itertools.zip_longest","itertools.pairwise"]
theorem wA {M:Model}{e:Expr}{o:Obj}{c:String} (ho:s.heap.get? D=some o) (i:o.cls=.type c)
  (j:u9.contains c=false) (h:G () s):wpAny M A (Yb e (.ref D) f) G Q s:=by
 have b:wpAny M A (do
   let (.ref r,.ref a):=((xJ D,f):Value×Value) | return
   let o <- load r
   match o.cls,o.data with
   | .type n,.fields g=>
    if u9.contains n && g[0]?==some (rawInt a) then
     rule "for.unpacks-the-owned-tuple"
     updateField r 0 .none
   | _,_=>pure ():Sem Unit) G Q s:=by
  cases f with
  | ref a=>
   refine wpAny_bind (wpAny_load ho ?_)
   refine ae i ?_
   generalize o.data=d
   cases d with
   | fields g=>
    show wpAny M A (if (u9.contains c && _)=true then _ else _) G Q s
    exact ae j (wpAny_pure h)
   | _=>exact wpAny_pure h
  | _=>exact wpAny_pure h
 cases e with
 | Tuple=>exact b
 | List=>exact b
 | _=>exact wpAny_pure h
inductive WI (C:Cx) (av:Addr->Prop) (it:Addr) (fp wr:List Addr) (items:List V) (P:Nat->Value->Prop) (St:Nat->Heap->Prop) (xs:List V) (s:Shared) (own:List Addr):Prop
 | mk (i:Nat) (hi:i<=items.length) (hx:xs=items.drop i) (st:St i s.heap) (hR:∀j v x,P j v->items[j]? =some x->R s.heap av own x v) (hf:∀a∈fp,∃o,s.heap.get? a=some o) (ho:∀a∈fp,a∉own/\¬C.tb a) (hl:∀a∈wr,C.h₀.objs.size<=a):WI C av it fp wr items P St xs s own
theorem Stream.ofWalks {gk:Nat}{Ql:Expr}{X:Addr}{B:List Addr}{P:Nat->Value->Prop}{St:Nat->Heap->Prop}
  (W:Walks C.prog C.w A X c B l.length P St) (u:∀i h,St i h->cA h B) (β:∀i h,St i h->∀a∈B,∃o,h.get? a=some o)
  (α:∀i h,St i h->∃o F,h.get? X=some o/\o.cls=.type F/\u9.contains F=false):
  Stream C A Ql X c B gk (λw=>WI C w X c B l P St) (λw O=>WI C w X c B l P St) where
 step:=by
  rintro w x L s k H Q E ⟨i,y,m,N,G,p,d,q⟩ M S
  have z:i < l.length:=by
   rcases gM i l.length with h | h
   ·exact h
   ·replace m:=(gJ h)▸m;exact nomatch m
  replace m:=(c5 z)▸m
  cases m
  refine dl (W.item i s _ _ z N λv h' tk hP D I=>λ⟨hsz,J⟩=>?_)
  have K:∀a∈B,a∉k/\¬C.tb a/\C.h₀.objs.size<=a:=λa n=>⟨(d a (W.sub a n)).1,(d a (W.sub a n)).2,q a n⟩
  refine af (M.but (tk:=tk) I hsz K (u i _ N) J) λY g=>?_
  have T:∀j v x,P j v->l[j]? =some x->R h' w k x v:=λj v x a b=>(G j v x a b).grow g M.bM (u i _ N)
  refine S v _ (T i v _ hP (by simp [z])) ⟨i+1,z,rfl,D,T,λa n=>?_,d,q⟩ Y g.toK
  by_cases hw:a∈B
  ·exact β _ _ D a hw
  ·exact ah (p a n) λo e=>⟨o,I a o hw e⟩
 go:=by
  rintro w L s k H rv x Q E hI M r S
  obtain ⟨i,y,m,N,_⟩:=id hI
  exact aG (α i _ N) λo F ζ=>aA ζ λho hc hn=>(wA ho hc hn (S s hI r M c4.refl.toK))
 done:=by
  rintro w s k H Q E ⟨i,y,m,N,G,p,d,q⟩ M S
  have hn:i=l.length:=by
   rcases gM i l.length with h | h
   ·replace m:=(c5 h)▸m;exact nomatch m
   ·exact sO y h
  subst hn
  refine dl (W.done s _ _ N λh' tk I=>λ⟨hsz,J⟩=>?_)
  have K:∀a∈B,a∉k/\¬C.tb a/\C.h₀.objs.size<=a:=λa n=>⟨(d a (W.sub a n)).1,(d a (W.sub a n)).2,q a n⟩
  exact af (M.but (tk:=tk) I hsz K (u _ _ N) J) λY g=>(S _ Y g.toK)
 self:=by
  rintro w L s k Q E ⟨i,_,_,N,_⟩ h
  exact W.self i s Q E N h
 frame:=by
  rintro w L s k ex s' η ⟨i,y,m,N,G,p,d,q⟩ g ε δ U
  have I:∀b∈c,∀o,s.heap.get? b=some o->s'.heap.get? b=some o:=λb Z o e=>g.keep b o e (d b Z).1 (δ b Z) (d b Z).2
  refine ⟨i,y,m,W.frame _ _ _ N I,λj v x a b=>(G j v x a b).vl g.tokP ε U,λa n=>let ⟨o,e⟩:=p a n;⟨o,I a n o e⟩,λa n=>⟨?_,(d a n).2⟩,q⟩
  exact ah (p a n) λo e=>(g.rD (d a n).1 e)
 Xo:=by
  rintro w θ L s k ⟨i,y,m,N,G,a,b,f⟩ γ
  exact ⟨i,y,m,N,λj v x a b=>(G j v x a b).oE γ,a,b,f⟩
 W9:=by rintro _ L s k ⟨i,y,m,N,G,p,_⟩;exact p
 jA:=by rintro _ L s k ⟨i,y,m,N,_⟩;exact u i _ N
 Bz:=by rintro _ _ L s k ⟨i,y,m,N,_⟩;exact u i _ N
 sub:=W.sub
noncomputable def rO:Expr->Bool
 | .Tuple .. =>true
 | _=>false
inductive TI (C:Cx) (av:Addr->Prop) (e:Addr) (fp wr:List Addr) (items:List V) (Pt:Nat->Array Value->Prop) (St:Nat->Heap->Prop) (xs:List V) (s:Shared) (own:List Addr):Prop
 | mk (i:Nat) (hi:i<=items.length) (hx:xs=(nS 0 items).drop i) (st:St i s.heap) (hR:∀j ws x,Pt j ws->items[j]? =some x->Rs s.heap av own [.int j,x] ws.toList) (hf:∀a∈fp,∃o,s.heap.get? a=some o) (ho:∀a∈fp,a∉own/\¬C.tb a) (hl:∀a∈wr,C.h₀.objs.size<=a):TI C av e fp wr items Pt St xs s own
inductive TJ (C:Cx) (av:Addr->Prop) (e:Addr) (fp wr:List Addr) (items:List V) (Pt:Nat->Array Value->Prop) (Y2:Nat->Addr->Heap->Prop) (rv:Value) (xs:List V) (s:Shared) (own:List Addr):Prop
 | mk (i:Nat) (a:Addr) (hr:rv=.ref a) (hi:i < items.length) (hx:xs=(nS 0 items).drop (i+1)) (st:Y2 i a s.heap) (hR:∀j ws x,Pt j ws->items[j]? =some x->Rs s.heap av own [.int j,x] ws.toList) (hf:∀a∈fp,∃o,s.heap.get? a=some o) (ho:∀a∈fp,a∉own/\¬C.tb a) (hl:∀a∈wr,C.h₀.objs.size<=a):TJ C av e fp wr items Pt Y2 rv xs s own
theorem m6 (i:Nat):∀l:List V,(nS i l).length=l.length
 | []=>rfl
 | _::r=>congrArg (·+1) (m6 (i+1) r)
theorem Aw:∀(l:List V) (i j:Nat) (x:V),l[j]? =some x->(nS i l)[j]? =some (.tup [.int ((i+j:Nat):Int),x])
 | [],_,_,_,h=>by simp at h
 | y::r,i,0,x,h=>by simp at h;subst h;simp [nS]
 | y::r,i,j+1,x,h=>by
  have:=Aw r (i+1) j x (by simpa using h)
  refine ae (Du _) (ae List.getElem?_cons_succ (ae this (ae (show i+1+j=i+(j+1) by exact bA bZ 4 [_,_] []) rfl)))
theorem Stream.JQ {gk:Nat}{elts:List Expr}{tk:Nat}{tp:Pos}{X:List Addr}{Pt:Nat->Array Value->Prop}{St:Nat->Heap->Prop}{I:Nat->Addr->Heap->Prop}
  (W:WalksT C.prog C.w A D X c l.length Pt St I) (L:∀i h,St i h->cA h c) (ε:∀i h,St i h->∀a∈c,∃o,h.get? a=some o)
  (y:∀i T h,I i T h->cA h c) (α:∀i T h,I i T h->∀a∈c,∃o,h.get? a=some o):
  Stream C A (.Tuple elts tk tp) D X c gk (λF=>TI C F D X c l Pt St) (λF=>TJ C F D X c l Pt I) where
 step:=by
  rintro F x S s k H Q E ⟨i,N,p,w,K,m,f,n⟩ z Y
  have u:i < l.length:=by
   rcases gM i l.length with h | h
   ·exact h
   ·rw [gJ (ae (m6 _ _) h)] at p;exact nomatch p
  have P:i < (nS 0 l).length:=ae (m6 _ _) u
  replace p:=(c5 P)▸p
  refine af (List.cons.inj p) λκ μ=>?_;subst κ;subst μ
  have ι:(nS 0 l)[i]=.tup [.int (i:Int),l[i]]:=by
   have:=Aw l 0 i l[i] (by simp [u])
   replace this:=(aT P)▸this
   simpa using this
  refine dl (W.item i s _ _ u w λT ws h' tk hP hT δ J G=>λ⟨hsz,M⟩=>?_)
  have B:∀a∈c,a∉k/\¬C.tb a/\C.h₀.objs.size<=a:=λa e=>⟨(f a (W.sub a e)).1,(f a (W.sub a e)).2,n a e⟩
  refine af (z.but (tk:=tk) G hsz B (L i _ w) M) λU g=>?_
  have Z:∀j ws x,Pt j ws->l[j]? =some x->Rs h' F k [.int j,x] ws.toList:=λj v x a b=>(K j v x a b).grow g z.bM (L i _ w)
  refine Y (.ref T) _ ?_ ⟨i,T,rfl,u,rfl,J,Z,λa e=>?_,f,n⟩ U g.toK
  ·refine ae ι (ae X0 ?_)
   refine ⟨T,ws,rfl,λq=>ay _ (am (z.f4 T q) hT),λq=>ay _ (am (z.lt q) hT),δ,?_⟩
   exact Z i ws _ hP (by simp [u])
  ·by_cases hw:a∈c
   ·exact α _ _ _ J a hw
   ·exact ah (m a e) λo eo=>⟨o,G a o hw eo⟩
 go:=by
  rintro F S s k H rv x Q E ⟨i,a,rfl,u,p,J,K,m,f,n⟩ z r Y
  refine dl (W.go elts tk tp i a s _ _ J λh' γ G=>λ⟨hsz,M⟩=>?_)
  have B:∀a∈c,a∉k/\¬C.tb a/\C.h₀.objs.size<=a:=λa e=>⟨(f a (W.sub a e)).1,(f a (W.sub a e)).2,n a e⟩
  refine af (z.but (tk:=s.toks) G hsz B (y _ _ _ J)) λU g=>?_
  refine Y _ ⟨i+1,u,p,γ,λj v x a b=>(K j v x a b).grow g z.bM (y _ _ _ J),λa e=>?_,f,n⟩ (r.grow g z.bM (y _ _ _ J)) U g.toK
  by_cases hw:a∈c
  ·exact ε _ _ γ a hw
  ·exact ah (m a e) λo eo=>⟨o,G a o hw eo⟩
 done:=by
  rintro F s k H Q E ⟨i,N,p,w,K,m,f,n⟩ z Y
  have hn:i=l.length:=by
   rcases gM i l.length with h | h
   ·rw [c5 (ae (m6 _ _) h)] at p;exact nomatch p
   ·exact sO N h
  subst hn
  refine dl (W.done s _ _ w λh' tk G=>λ⟨hsz,M⟩=>?_)
  have B:∀a∈c,a∉k/\¬C.tb a/\C.h₀.objs.size<=a:=λa e=>⟨(f a (W.sub a e)).1,(f a (W.sub a e)).2,n a e⟩
  exact af (z.but (tk:=tk) G hsz B (L _ _ w) M) λU g=>(Y _ U g.toK)
 self:=by
  rintro F S s k Q E ⟨i,_,_,w,_⟩ h
  exact W.self i s Q E w h
 frame:=by
  rintro F S s k ex s' ν ⟨i,N,p,w,K,m,f,n⟩ g θ η β
  have G:∀b∈X,∀o,s.heap.get? b=some o->s'.heap.get? b=some o:=λb hb o D=>g.keep b o D (f b hb).1 (η b hb) (f b hb).2
  refine ⟨i,N,p,W.frame _ _ _ w G,λj v x a b=>(K j v x a b).vl g.tokP θ β,λa e=>let ⟨o,D⟩:=m a e;⟨o,G a e o D⟩,λa e=>⟨?_,(f a e).2⟩,n⟩
  exact ah (m a e) λo D=>(g.rD (f a e).1 D)
 Xo:=by
  rintro F ξ S s k ⟨i,N,p,w,K,a,b,d⟩ ζ
  exact ⟨i,N,p,w,λj v x a b=>(K j v x a b).oE ζ,a,b,d⟩
 W9:=by rintro _ S s k ⟨i,N,p,w,K,m,_⟩;exact m
 jA:=by rintro _ S s k ⟨i,N,p,w,_⟩;exact L i _ w
 Bz:=by rintro _ _ S s k ⟨i,a,_,_,_,J,_⟩;exact y _ _ _ J
 sub:=W.sub
def AJ (C:Cx) (f:Addr->Prop) (A:Around) (h:Expr) (s:Shared) (g:List Addr) (d:List V->Hs->Prop) (Q:Value->Shared->Prop):Prop:=
 ∀m c e b i j l k I J,d c i->Stream C A h m j l k I J->I f c e b->Hp C f e b i->c4 C f [] s g e b->
  (∀a∈j,a∉b/\¬C.tb a/\(s.heap.objs.size<=a\/∃o p n,e.heap.get? a=some o/\o.data=.seq p n))->(∀a∈l,s.heap.objs.size<=a)->s.gens.size<=k->Q (.ref m) e
def SI (C:Cx) (T:Tb) (N:Nat) (sc:Scope) (b:List Str) (e:MI):Prop:=
 Lu sc b e=true->∀A s h c H i d a (Q E:Value->Shared->Prop) g,(rO g=true\/(match e with | .BV .. =>false | _=>true)=true)->fD A N->Fm C h s c d sc b i->Hp C h s c H->DU T i e H a->AJ C h A g s c a Q->
  wpAny C.md A (eval (nw b e) d) (λx f=>wpAny C.md A (pyIter x) Q E f) E s
section
variable {C:Cx}{T:Tb}{N:Nat}{sc:Scope}{lay:List Str}
theorem m0 {o:Obj} (e:h.get? D=some o) (hd:o.data=.fields j) (f:∀q t,j[1]?≠some (oh q t)):cA h [D]:=λb g i c=>by
 replace c:=(ai.mp g)▸c;exact aN (e.symm.trans c)▸zm.fields hd f
theorem CM (F:Nat) {u:Expr}{E:Value->Shared->Prop} (X:fD A N) (P:Hp C d s c J)
  (y:s.heap.get? D=some (listOf j n)) (K:¬d D) (ho:D∉c) (r:Rs s.heap d c l j.toList)
  (U:∀M m f L I H,Stream C A u M f L F I H->I d l m c->Hp C d m c J->c4 C d [] s c m c->
   (∀a∈f,a∉c/\¬C.tb a/\(s.heap.objs.size<=a\/∃o j n,m.heap.get? a=some o/\o.data=.seq j n))->(∀a∈L,s.heap.objs.size<=a)->Q (.ref M) m):
  wpAny C.md A (pyIter (.ref D)) Q E s:=by
 have G:s.heap.IsList D j:=⟨_,y,rfl,n,rfl⟩
 have B:D < s.heap.objs.size:=bF y
 have k:j.size=l.length:=r.size
 refine Vj G ?_
 have W:=V2 (prog:=C.prog) (w:=C.w) (A:=A) X.hd s.heap.objs.size D (dW B) j
 replace W:=(k)▸W
 have S:=Stream.ofWalks (C:=C) (gk:=F) (A:=A) (Ql:=u) W (λi h p=>p.1.elim λo q=>m0 q.1 q.2.2 (by intro q t e;simp [rawInt] at e))
  (λi h p=>m1 (p.1.imp λO q=>q.1)) (λi h p=>p.1.elim λo q=>⟨o,"list_iterator",q.1,q.2.1,by decide⟩)
 have z:∀b o,s.heap.get? b=some o->(s.heap.push {cls:=.type "list_iterator",data:=.fields #[.ref D,.int 0 0]}).get? b=some o:=λb o e=>aQ _ e
 refine U s.heap.objs.size _ _ _ _ _ S ⟨0,eB _,rfl,⟨⟨_,bg _ rfl,rfl,rfl⟩,G.push _⟩,λg v x a b=>(r.at b a).keeps z (by rw [bE];exact bx _),m2 ⟨_,bg _ rfl⟩ ⟨_,z _ _ y⟩,m2 ⟨P.fresh,λq=>ay _ (P.f4 _ (P.bM _ q))⟩ ⟨ho,λq=>K (P.bM _ q)⟩,m1 P.gd.size⟩ (P.push _) c4.push
  (m2 ⟨P.fresh,λq=>ay _ (P.f4 _ (P.bM _ q)),.inl (aD _)⟩ ⟨ho,λq=>K (P.bM _ q),.inr ⟨_,j,n,z _ _ y,rfl⟩⟩) (m1 (aD _))
theorem Ba (L:Nat) {y:Expr}{E:Value->Shared->Prop} (rm:fD A N) (P:Hp C d s c J)
  (X:IsTup s.heap D j) (U:¬d D) (ho:D∉c) (r:Rs s.heap d c l j.toList)
  (hQ:∀Z p K Y I H,Stream C A y Z K Y L I H->I d l p c->Hp C d p c J->c4 C d [] s c p c->
   (∀a∈K,a∉c/\¬C.tb a/\(s.heap.objs.size<=a\/∃o j n,p.heap.get? a=some o/\o.data=.seq j n))->(∀a∈Y,s.heap.objs.size<=a)->Q (.ref Z) p):
  wpAny C.md A (pyIter (.ref D)) Q E s:=by
 have M:s.heap.IsTuple D j:=X
 refine ah (id X) λol F=>aA F λg α G=>ah G λn z=>?_
 have f:D < s.heap.objs.size:=bF g
 have m:j.size=l.length:=r.size
 refine zn M ?_
 have W:=Vr (prog:=C.prog) (w:=C.w) (A:=A) rm.hd s.heap.objs.size D (dW f) j
 replace W:=(m)▸W
 have S:=Stream.ofWalks (C:=C) (gk:=L) (A:=A) (Ql:=y) W (λi h u=>u.1.elim λo q=>m0 q.1 q.2.2 (by intro q t e;simp [rawInt] at e))
  (λi h u=>m1 (u.1.imp λO q=>q.1)) (λi h u=>u.1.elim λo q=>⟨o,"tuple_iterator",q.1,q.2.1,by decide⟩)
 have B:∀b o,s.heap.get? b=some o->(s.heap.push {cls:=.type "tuple_iterator",data:=.fields #[.ref D,.int 0 0]}).get? b=some o:=λb o e=>aQ _ e
 refine hQ s.heap.objs.size _ _ _ _ _ S ⟨0,eB _,rfl,⟨⟨_,bg _ rfl,rfl,rfl⟩,M.push _⟩,λk v x a b=>(r.at b a).keeps B (by rw [bE];exact bx _),m2 ⟨_,bg _ rfl⟩ ⟨_,B _ _ g⟩,m2 ⟨P.fresh,λq=>ay _ (P.f4 _ (P.bM _ q))⟩ ⟨ho,λq=>U (P.bM _ q)⟩,m1 P.gd.size⟩ (P.push _) c4.push
  (m2 ⟨P.fresh,λq=>ay _ (P.f4 _ (P.bM _ q)),.inl (aD _)⟩ ⟨ho,λq=>U (P.bM _ q),.inr ⟨_,j,n,B _ _ g,z⟩⟩) (m1 (aD _))
theorem TC {e'} (he:SE C T N sc lay e'):SI C T N sc lay (.of e'):=by
 intro ok A s Y K H σ p X Q E α _ L F P hw Z
 refine he ok A s Y K H σ p _ _ _ L F P hw λv rv s1 b U M r1 W j=>?_
 have conv:∀{a:Addr}{d:Shared},c4 C Y [] s1 b d b->(s1.heap.objs.size<=a\/∃o k n,d.heap.get? a=some o/\o.data=.seq k n)->s.heap.objs.size<=a\/∃o k n,d.heap.get? a=some o/\o.data=.seq k n:=
  λg h=>h.imp (λq=>ar j.size q) λq=>q
 cases v with
 | lst l=>
  refine bj (R.td.mp r1) λa k n f=>bh f λi x y z r=>?_;subst i
  exact CM s.gens.size L W z x y r λG d u D I J S w m g c B=>Z G l d b U u D _ I J M S w m (j.trans g) (λa h=>⟨(c a h).1,(c a h).2.1,conv g (c a h).2.2⟩) (λa h=>ar j.size (B a h)) (aD _)
 | tup l=>
  refine aG (R.CD.mp r1) λa k f=>bh f λi x y z r=>?_;subst i
  exact Ba s.gens.size L W z x y r λG d u D I J S w m g c B=>Z G l d b U u D _ I J M S w m (j.trans g) (λa h=>⟨(c a h).1,(c a h).2.1,conv g (c a h).2.2⟩) (λa h=>ar j.size (B a h)) (aD _)
 | _=>exact M.elim
theorem v8 (K:fT C T N) {g:Pos}{e:ME}{E:Value->Shared->Prop} (M:fD A N) (F:Fm C d s c Z sc lay X) (P:Hp C.z d s c J)
  (l:iI sc x=true) (h:∀(Q:Value->Shared->Prop),g8 T X e J B->f9 C d s c B Q->wpAny C.md A (eval (toPy lay e) Z) Q E s) (r:C.mg x=none) (u:x≠"__name__") (w:mO x=some f) (y:(∃id,f=.builtin id)\/∃t,f=.type t) (G:g8 T X e J B)
  (D:∀v j k H n,B v n->R k.heap d H v j->Hp C d k H n->c4 C d [] s c k H->wpAny C.md A (call f [j]) Q E k):
  wpAny C.md A (eval (.Call (.Name x Y) [toPy lay e] [] g) Z) Q E s:=by
 refine ae (gS _ _ _ _ _ _) ?_
 refine wpAny_bind (yq K F P l r u w ?_)
 have hs:(backTo g (wQ [toPy lay e] Z)).any (·.1)=false:=iY lay Z g [e]
 refine qh y hs (iA hs ?_)
 refine n0 (h _ G λv j p i o L I q z=>?_) (nk ..)
 exact vG (D v j p i o L I q z)
noncomputable def yn:MI->Bool
 | .BV .. =>false
 | _=>true
theorem Ew {t:Expr} (h:rO t=true):∃d k q,t=.Tuple d k q:=by
 cases t with
 | Tuple a b c=>exact ⟨a,b,c,rfl⟩
 | _=>exact bT h
theorem T9 {b:Addr}{a:Array Value}{o c:Obj} (f:h.get? D=some c) (l:c.data=.fields j) (g:∀q t,j[1]?≠some (oh q t)) (i:h.get? b=some o) (e:o.data=.fields a) (k:∀q t,a[1]?≠some (oh q t)):cA h [D,b]:=
 m2 (λO q=>aN (f.symm.trans q)▸zm.fields l g) (λO q=>aN (i.symm.trans q)▸zm.fields e k)
theorem Fn (tb:fT C T N) (ε:C.mg "enumerate"=none) {e' p' pos} (η:iI sc "enumerate"=true) {M:Addr->Prop}{σ:Sg}{G:Env}{d:List V->Hs->Prop}{E:Value->Shared->Prop}{δ:Expr}
  (ζ:rO δ=true) (rm:fD A N) (F:Fm C M s c G sc lay σ) (P:Hp C.z M s c J) (he:∀(d:V->Hs->Prop) (Q:Value->Shared->Prop),g8 T σ e' J d->f9 C M s c d Q->wpAny C.md A (eval (toPy lay e') G) Q E s)
  (hw:DU T σ (.BV e' p' pos) J d) (hp:AJ C M A δ s c d Q):
  wpAny C.md A (eval (nw lay (.BV e' p' pos)) G) (λx γ=>wpAny C.md A (pyIter x) Q E γ) E s:=by
 refine v8 tb (f:=.type "enumerate") rm F P η (he _) ε (by decide) (by decide +kernel) (.inr ⟨_,rfl⟩) hw λv rv B g H1 w1 r1 D X=>?_
 cases v with
 | lst u=>
  refine bj (R.td.mp r1) λl ws n θ=>bh θ λK x y z r=>?_;subst K
  have hL:B.heap.IsList l ws:=⟨_,z,rfl,n,rfl⟩
  have β:l < B.heap.objs.size:=bF z
  have α:ws.size=u.length:=r.size
  refine dl (call_enumerate_list hL λh' hE Z hz L=>λ⟨hsz,ι⟩=>?_)
  refine Vk hE ?_
  have Y:B.heap.objs.size+1≠B.heap.objs.size:=zu _
  have W:=Iq (Draws.list (prog:=C.prog) (w:=C.w) (A:=A.in1) rm.hd B.heap.objs.size l (dW β) ws) (B.heap.objs.size+1) Y
   (by simp only [aX,aC,or_false,not_or];exact ⟨Y,xM (jO β)⟩) aB
  replace W:=(α)▸W
  refine bj (Ew ζ) λU k q K=>?_;subst K
  have S:=Stream.JQ (C:=C) (gk:=s.gens.size) (A:=A) (elts:=U) (tk:=k) (tp:=q) W
   (λi h m=>m.1.elim λO I=>m.2.1.elim λO q=>T9 I rfl (by intro q t z;simp [rawInt] at z) q.1 q.2.2 (by intro q t z;simp [rawInt] at z))
   (λi h m=>m.1.elim λO I=>m2 ⟨_,I⟩ (m.2.1.imp λO q=>q.1))
   (λi t h m=>m.1.elim λO I=>m.2.1.1.elim λO q=>T9 I rfl (by intro q t z;simp [rawInt] at z) q.1 q.2.2 (by intro q t z;simp [rawInt] at z))
   (λi t h m=>m.1.elim λO I=>m2 ⟨_,I⟩ (m.2.1.1.imp λO q=>q.1))
  have g2:c4 C M [] B g {B with heap:=h'} g:=c4.of_keeps L hsz
  have H:∀a,B.heap.objs.size<=a->a∉g/\¬C.tb a:=λa ha=>⟨λq=>ay _ (am (D.lt q) ha),λq=>ay _ (am (D.f4 _ (D.bM _ q)) ha)⟩
  exact hp _ _ _ g H1 _ _ _ _ _ w1 S ⟨0,eB _,rfl,⟨⟨_,hE⟩,Z,hL.at λo e'=>L _ _ e'⟩,λj κ x' a b=>a.elim λt a=>a.elim λv a=>a.2▸Rs.cons (R.j2.mpr ⟨t,rfl⟩) (Rs.one ((r.at b a.1).keeps L hsz)),
   m3 ⟨_,hE⟩ (Z.imp λO q=>q.1) ⟨_,L _ _ z⟩,m3 (H _ (bx _)) (H _ (aD _)) ⟨y,λq=>x (D.bM _ q)⟩,m2 (dE D.gd.size) D.gd.size⟩ (D.keeps L hsz) (X.trans g2)
   (m3 ⟨(H _ (bx _)).1,(H _ (bx _)).2,.inl (ar X.size (bx _))⟩ ⟨(H _ (aD _)).1,(H _ (aD _)).2,.inl X.size⟩ ⟨y,λq=>x (D.bM _ q),.inr ⟨_,ws,n,L _ _ z,rfl⟩⟩)
   (m2 (ar X.size (bx _)) X.size) (aD _)
 | _=>exact w1.elim
theorem QJ (n:fT C T N) (d:C.mg "enumerate"=none) {M p' pos} (m:SE C T N sc lay M):SI C T N sc lay (.BV M p' pos):=by
 intro b A s l j H q c a Q E o g k F P i f
 replace b:=dG b
 exact Fn n d b.1 (g.elim id λh=>nomatch h) k F P.z (λa Q i f=>m b.2 A s l j H q c a Q E k F P i f) i f
end
section
variable {C:Cx}{T:Tb}{N:Nat}{sc:Scope}{lay:List Str}
theorem wv (n:Nat):(rA n).length=n:=by simp [rA]
theorem Jm (h:(rA n)[p]? =some v):v=.int (p:Int):=by
 unfold rA at h
 replace h:=(dc)▸h
 cases e:(dT n)[p]? with
 | none=>replace h:=(e)▸h;exact bN h
 | some y=>
  replace h:=(e)▸h
  have hy:=(aL.mp e).2
  replace hy:=(L7 _)▸hy
  cases h
  refine ae hy rfl
theorem M9 {H:Shared}{f:List Addr}{k:List V->Hs->Prop}{u:Expr}{y:Obj} (z:fD A N) (l:Hp C d H f J) (D:c4 C d [] s c H f) (K:k (rA n) J) (I:AJ C d A u s c k Q) (E:H.toks<=p):
  Q (.ref (H.heap.push y).objs.size) {H with heap:=(H.heap.push y).push {cls:=.type "range_iterator",data:=.fields #[rawInt 0,rawInt ((n:Nat):Int),rawInt 1]},toks:=p}:=by
 have W:=Walks.range (prog:=C.prog) (w:=C.w) (A:=A) z.hd (H.heap.push y).objs.size 0 1 n
 replace W:=((show n=(rA n).length from (wv _).symm))▸W
 have S:=Stream.ofWalks (C:=C) (gk:=s.gens.size) (A:=A) (Ql:=u) W (λi h r=>m0 r rfl (by intro q t e;simp [rawInt] at e)) (λi h r=>m1 ⟨_,r⟩) (λi h r=>⟨_,"range_iterator",r,rfl,by decide⟩)
 have fU:IsRangeIter ((H.heap.push y).push {cls:=.type "range_iterator",data:=.fields #[rawInt 0,rawInt ((n:Nat):Int),rawInt 1]}) (H.heap.push y).objs.size 0 n 1:=by
  have:=bg (H.heap.push y) (o:={cls:=.type "range_iterator",data:=.fields #[rawInt 0,rawInt ((n:Nat):Int),rawInt 1]}) rfl
  simpa [IsRangeIter] using this
 generalize ({cls:=.type "range_iterator",data:=.fields #[rawInt 0,rawInt ((n:Nat):Int),rawInt 1]}:Obj)=F at *
 have G:∀b o,H.heap.get? b=some o->((H.heap.push y).push F).get? b=some o:=λb o e=>aQ _ (aQ _ e)
 have g:H.heap.objs.size<=(H.heap.push y).objs.size:=ae (bE _ _) (bx _)
 have m:H.heap.objs.size<=((H.heap.push y).push F).objs.size:=ar g (ae (bE (H.heap.push y) _) (bx _))
 generalize (H.heap.push y).push F=L at *
 have B:(H.heap.push y).objs.size∉f/\¬C.tb (H.heap.push y).objs.size:=⟨λq=>ay _ (am (l.lt q) g),λq=>ay _ (am (l.f4 _ (l.bM _ q)) g)⟩
 generalize (H.heap.push y).objs.size=M at *
 exact I _ _ _ f J _ _ _ _ _ K S ⟨0,eB _,rfl,by refine ae (wv _) ?_;exact fU,λj v x a b=>a.elim λt a=>by refine ae (Jm b) ?_;exact ⟨t,a▸congrArg (λx=>t2 x t) (bA fm 10 [_] [])⟩,m1 ⟨_,fU⟩,m1 B,m1 (ar l.gd.size g)⟩ (l.keeps G m E) (D.trans (c4.of_keeps G m))
  (m1 ⟨B.1,B.2,.inl (ar D.size g)⟩) (m1 (ar D.size g)) (aD _)
theorem QG (I:fT C T N) (g:C.mg "range"=none) {e' p' pos} (z:SE C T N sc lay e'):SI C T N sc lay (.zE e' p' pos):=by
 intro b A s x m H K d r Q E J B o F P l i
 replace b:=dG b
 refine v8 I (f:=.type "range") o F P.z b.1 (λQ l i=>z b.2 A s x m H K d _ Q _ o F P l i) g (by decide) (by decide +kernel) (.inr ⟨_,rfl⟩) l λv M G u L c D w y=>?_
 cases v with
 | int n=>
  refine ah (R.j2.mp D) λt q=>?_;subst q
  refine aA c λa h c=>?_
  refine call_range_1 ?_
  have k:V5 0 n 1=true:=small_one (by decide) (by decide) (ak fg 1 [] [_] a) (ak fg 2 [] [_] h)
  refine wpAny_pyIter_range (IsRange.new G.heap 0 n 1 _ _ _) k ?_
  have j:V6 0 n 1=((n.toNat:Nat):Int):=by refine ae (rangeSize_one _ _) ?_;split<;>(first | exact au fC 16 [_] [_] a rZ | exact au fC 17 [_] [_] ‹_› rZ)
  dsimp only
  exact ae j (M9 o w y c i (ar (bx _) (bx _)))
 | _=>exact c.elim
theorem QH (tb:fT C T N) (L:C.mg "reversed"=none) {e' p' pos} (he:SE C T N sc lay e'):SI C T N sc lay (.rev e' p' pos):=by
 intro B A s av X H σ G γ Q E Z ε Y F P U M
 replace B:=dG B
 refine v8 tb (f:=.type "reversed") Y F P.z B.1 (λQ U M=>he B.2 A s av X H σ G _ Q _ Y F P U M) L (by decide) (by decide +kernel) (.inr ⟨_,rfl⟩) U λv rv m δ H1 w1 r1 d I=>?_
 cases v with
 | lst c=>
  refine bj (R.td.mp r1) λl k n α=>bh α λβ x y z r=>?_;subst β
  have hL:m.heap.IsList l k:=⟨_,z,rfl,n,rfl⟩
  have K:l < m.heap.objs.size:=bF z
  have g:k.size=c.length:=r.size
  refine call_reversed_list hL ?_
  refine wpAny_pyIter_revIter (it:=m.heap.objs.size) (l:=l) (i:=(k.size:Int) - 1) ⟨_,bg _ rfl,rfl,rfl⟩ ?_
  have W:=Walks.listRev (prog:=C.prog) (w:=C.w) (A:=A) Y.hd m.heap.objs.size l (dW K) k
  replace W:=(show k.size=c.reverse.length by simp [g])▸W
  have S:=Stream.ofWalks (C:=C) (gk:=s.gens.size) (A:=A) (Ql:=Z) W (λi h u=>u.2.1.elim λo q=>m0 q.1 q.2.2 (by intro q t e';simp [rawInt] at e'))
   (λi h u=>m1 (u.2.1.imp λO q=>q.1)) (λi h u=>u.2.1.elim λo q=>⟨o,"list_reverseiterator",q.1,q.2.1,by decide⟩)
  have J:∀b o,m.heap.get? b=some o->(m.heap.push (revObj l ((k.size:Int) - 1))).get? b=some o:=λb o e'=>aQ _ e'
  refine M m.heap.objs.size _ _ _ _ _ _ _ _ _ w1 S ⟨0,eB _,rfl,⟨eB _,⟨_,bg _ rfl,rfl,?_⟩,hL.push _⟩,λj v x a b=>?_,m2 ⟨_,bg _ rfl⟩ ⟨_,J _ _ z⟩,m2 ⟨d.fresh,λq=>ay _ (d.f4 _ (d.bM _ q))⟩ ⟨y,λq=>x (d.bM _ q)⟩,m1 d.gd.size⟩ (d.push _) (I.trans c4.push)
   (m2 ⟨d.fresh,λq=>ay _ (d.f4 _ (d.bM _ q)),.inl I.size⟩ ⟨y,λq=>x (d.bM _ q),.inr ⟨_,k,n,J _ _ z,rfl⟩⟩) (m1 I.size) (aD _)
  ·refine ae dR (bQ g ?_);simp [revObj]
  ·have hj:j < c.length:=Nat.lt_of_lt_of_eq (aL.mp b).1 dR
   replace b:=(List.getElem?_reverse hj)▸b
   have D:k[c.reverse.length - 1 - j]? =some v:=a
   replace D:=(dR)▸D
   exact (r.at b D).keeps J (by rw [bE];exact bx _)
 | _=>exact w1.elim
end
theorem HG {a:mx}{w:World}{B:List Addr}{P:Nat->Value->Prop}{St:Nat->Heap->Prop} (W:Walks a w A D c B n P St):
  ∀(k i:Nat) (s:Shared) (E:List Value->Shared->Prop),i+k<=n->St i s.heap->
   (∀d f I,d.length=k->(∀(j:Nat) v,d[j]? =some v->P (i+j) v)->St (i+k) f->(∀b o,b∉B->s.heap.get? b=some o->f.get? b=some o)->E d {s with heap:=f,toks:=I})->
   wpAny (model a w) A (draw (.ref D) k) E Q s:=by
 intro k
 induction k with
 | zero=>
  intro i s E O q h
  show wpAny _ _ (pure []) E Q s
  exact wpAny_pure (h [] s.heap s.toks rfl nofun q λO O O e=>e)
 | succ k H=>
  intro i s E C q h
  show wpAny _ _ (pyNext (.ref D) >>= _) E Q s
  refine wpAny_bind (W.item i s _ _ (ak dd 23 [_,_,_] [] C) q λv J Tr F r l=>?_)
  refine wpAny_bind (dV (H (i+1) _ _ (ak fk 0 [_,_,_] [] C) r λd p y G g u m=>wpAny_pure ?_))
  refine h (v::d) p y (by simp [G]) (λj x e=>?_) (ae (show i+(k+1)=i+1+k by exact bA bZ 3 [_,_] []) u) λb o z e=>m b o z (l b o z e)
  cases j with
  | zero=>simp at e;subst e;exact F
  | succ j=>have:=g j x (by simpa using e);rwa [show i+1+j=i+(j+1) by exact bA bZ 4 [_,_] []] at this
section
variable {C:Cx}{av:Addr->Prop}{s:Shared}{own:List Addr}{env:Env}{sc:Scope}{lay:List Str}{σ:Sg}{A:Around}{E:Value->Shared->Prop}{H:Hs}
theorem c4.No {v w:Shared}{d n:List Addr} (g:c4 C av [] s own v c) (k:zc C av n p v c w d) (B:∀a∈n,s.heap.objs.size<=a) (h:s.gens.size<=p):c4 C av [] s own w d:=by
 refine ah g.own λD f=>af f λj r=>?_;subst j
 refine ah k.own λF f=>af f λy u=>?_
 exact ⟨⟨λb o e l O m=>k.keep b o (g.keep b o e l aC m) (λq=>(bY.mp q).elim l λq=>lu (r b q).1 e) (λq=>lu (B b q) e) m,
  ⟨D++F,y.trans (cy ..),λa z=>(bY.mp z).elim (r a) λq=>⟨ar g.size (u a q).1,(u a q).2⟩⟩,ar g.size k.size⟩,k.os.trans g.os,
  λi x e=>k.gens i x (am (gU.mp e).1 h) (g.gens i x e),λb=>k.bare (g.bare b)⟩
theorem c4.new {e f:Shared}{b d:List Addr} (g:c4 C av [] s own e b) (k:c4 C av d e b f c) (h:∀a∈d,s.heap.objs.size<=a):c4 C av [] s own f c:=
 g.No k.toK h (aD _)
theorem Dh {a:List Value} (c:a.length=S.length) (h:∀(j:Nat) v,a[j]? =some v->S[j]? =some v):a=S:=by
 apply List.ext_getElem?
 intro i
 cases e:a[i]? with
 | some v=>exact (h i v e).symm
 | none=>replace e:=(propext Cq)▸e;refine ae (lX (au dm 18 [_,_,_] [] c e)) rfl
theorem II (h:tG n v=some l):(v=.tup l\/v=.lst l)/\l.length=n:=by
 have a:∀b:List V,(if b.length=n then some b else none)=some l->b=l/\l.length=n:=λb e=>by
  by_cases q:b.length=n
  ·replace e:=(if_pos q)▸e;cases e;exact ⟨rfl,q⟩
  ·replace e:=(if_neg q)▸e;exact bN e
 cases v with
 | tup b=>exact ⟨.inl (congrArg V.tup (a b h).1),(a b h).2⟩
 | lst b=>exact ⟨.inr (congrArg V.lst (a b h).1),(a b h).2⟩
 | _=>exact bN h
theorem DX {Q:List Value->Shared->Prop} (k:A.handled=none) (z:s.heap.get? D=some (listOf j p)) (hsz:j.size=n)
  (h:∀d x,(∀b o,s.heap.get? b=some o->d.get? b=some o)->s.heap.objs.size<=d.objs.size->s.toks<=x->Q j.toList {s with heap:=d,toks:=x}):wpAny C.md A (PL (.ref D) n none) Q E s:=by
 have f:s.heap.IsList D j:=⟨_,z,rfl,p,rfl⟩
 refine dl (Q:=Q) ?_
 unfold PL
 refine wpAny_bind ?_
 unfold notIterableAtAll
 refine wpAny_bind (X7 f.typeIs slot_list_iter.lookup (wpAny_pure ?_))
 refine ae (if_neg (by decide)) ?_
 refine wpAny_bind (dV (Vj f ?_))
 have W:=V2 (prog:=C.prog) (w:=C.w) (A:=A) k s.heap.objs.size D (dW (bF z)) j
 replace W:=(hsz)▸W
 refine wpAny_bind (dV (HG W n 0 _ _ (dN (cq n)) ⟨⟨_,bg _ rfl,rfl,rfl⟩,f.push _⟩ λus F Tr u B m g=>?_))
 have l:us=j.toList:=Dh (u.trans (hsz.symm.trans bD.symm)) λc v e=>sD.trans ((cq c▸B c v e:j[c]? =some v))
 refine ae (if_neg (by rw [u];exact ay n)) ?_
 replace m:=(cq _)▸m
 refine wpAny_bind (dV (W.done _ _ _ m λy a i=>?_))
 refine ae (if_neg (by decide)) ?_
 refine wpAny_pure λq=>?_
 refine ae l ?_
 exact h y a (λb o e=>have r:b∉[s.heap.objs.size]:=λz=>ay _ ((ai.mp z)▸bF e)
  i b o r (g b o r (aQ _ e))) q.1 q.2
theorem xU {Q:List Value->Shared->Prop} (p:A.handled=none) (P:Hp C av s own H) (r:R s.heap av own v f) (j:tG n v=some l)
  (h:∀g i,Rs i.heap av own l g->l.length=n->Hp C av i own H->c4 C av [] s own i own->Q g i):wpAny C.md A (PL f n none) Q E s:=by
 obtain ⟨j,c⟩:=II j
 rcases j with rfl | rfl
 ·obtain ⟨a,g,rfl,x,y,z,r⟩:=r
  have hsz:g.size=n:=r.size.trans c
  subst hsz
  exact dl (unpackItems_tuple p z λm u=>λq=>by
   have d:∀b o,s.heap.get? b=some o->m.get? b=some o:=λb o e=>u b o (dW (bF e)) e
   exact h _ _ (r.keeps d q.1) c (P.keeps d q.1 q.2) (c4.of_keeps d q.1))
 ·obtain ⟨a,g,k,rfl,x,y,z,r⟩:=r
  exact DX p z (r.size.trans c) λm B u hs w=>h _ _ (r.keeps u hs) c (P.keeps u hs w) (c4.of_keeps u hs)
theorem B4 {M:Model} (D:env.locals∈c) (k:∀a∈c,a∈env.locals::env.cells.map (·.2)):∀{d:List (Nat×Pos)}{b:List V}{i:List Value}{σ:Sg}{s:Shared}{Q:Unit->Shared->Prop},
  Fm C av s own env sc lay σ->Hp C av s own H->d.all (λy=>fJ sc lay y.1)=true->(∀z∈d,sc.names.lookup (nm lay z.1)=some .cell->∀e,env.cells.lookup (nm lay z.1)=some e->e∈c)->b.length=d.length->Rs s.heap av own b i->
  (∀g,Fm C av g own env sc lay (iO d b σ)->Hp C av g own H->c4 C av c s own g own->Q () g)->
  wpAny M A (assignInOrder (d.map λy=>assign (.Name (nm lay y.1) y.2) env) i) Q E s:=by
 intro d
 induction d with
 | nil=>
  intro b i σ s Q F P l j f r h
  cases b with
  | nil=>exact wpAny_pure (h s F P c4.refl)
  | cons v b=>exact nomatch f
 | cons y d J=>
  intro b i σ s Q F P l j f r h
  cases b with
  | nil=>exact nomatch f
  | cons v b=>
  refine aG r λw S m=>aA m λn K L=>?_;subst n
  exact Il (AL (F.store P D (j y (aB ..)) (dG l).1 K λT p u o=>(J p u (dG l).2 (λz I=>j z (aP _ I)) (fE f) (L.grow o P.bM λa G=>F.jA a (k a G)) λN q x B=>h N q x (o.trans B))))
theorem pG {lay:List Str} (env:Env):∀a:List (Nat×Pos),assignEach (a.map λy=>.Name (nm lay y.1) y.2) env=a.map λy=>(false,assign (.Name (nm lay y.1) y.2) env)
 | []=>rfl
 | y::r=>congrArg _ (pG env r)
theorem tv {a:Type}{f:a->Value->Sem Unit}:∀b:List a,(b.map λy=>(false,f y)).findIdx? (λx:Bool×(Value->Sem Unit)=>x.1)=none
 | []=>rfl
 | y::r=>by refine ae bG (ae List.findIdx?_cons ?_);simp [tv r]
theorem y7 {is:List (Nat×Pos)}{ex:List Addr} (q:env.locals∈ex) (i:∀a∈ex,a∈env.locals::env.cells.map (·.2)) (u:A.handled=none) (F:Fm C av s own env sc lay σ) (P:Hp C av s own H)
  (x:is.all (λy=>fJ sc lay y.1)=true) (p:∀z∈is,sc.names.lookup (nm lay z.1)=some .cell->∀c,env.cells.lookup (nm lay z.1)=some c->c∈ex) (w:tG is.length v=some l) (r:R s.heap av own v f)
  (h:∀e,Fm C av e own env sc lay (iO is l σ)->Hp C av e own H->c4 C av ex s own e own->G () e):
  wpAny C.md A (assign (.Tuple (is.map λy=>.Name (nm lay y.1) y.2) n Y) env f) G E s:=by
 refine ae (assign_Tuple _ _ _ _) ?_
 refine wpAny_bind (er ?_)
 unfold unpack
 refine ae (pG _ _) (ae (bv _) (ae (tv _) ?_))
 exact wpAny_bind (dV (xU u P r w λI d B b m g=>(ae Vy (B4 q i (F.grow g P.bM) m x p b B λD k j o=>h D k j (g.wide.trans o)))))
theorem y3 (h:fu n v=some l):(n=1/\l=[v])\/(n=2/\∃a b,v=.tup [a,b]/\l=[a,b]):=by
 by_cases e:n=1
 ·subst e;exact .inl ⟨rfl,(aN h).symm⟩
 ·by_cases f:n=2
  ·subst f
   cases v with
   | tup d=>
    cases d with
    | nil=>exact bN h
    | cons a d=>
     cases d with
     | nil=>exact bN h
     | cons b d=>
      cases d with
      | nil=>exact .inr ⟨rfl,a,b,rfl,(aN h).symm⟩
      | cons c d=>exact bN h
   | _=>exact bN h
  ·match n with
   | 0=>exact bN h
   | 1=>exact absurd rfl e
   | 2=>exact absurd rfl f
   | _+3=>exact bN h
theorem EV (h:fu n v=some l):l.length=n:=by
 rcases y3 h with ⟨rfl,rfl⟩ | ⟨rfl,a,b,rfl,rfl⟩<;>rfl
theorem sx {tg:List (Nat×Pos)}{vs:List V}{ex:List Addr} (k:env.locals∈ex) (g:∀a∈ex,a∈env.locals::env.cells.map (·.2)) (q:A.handled=none) (F:Fm C av s own env sc lay σ) (P:Hp C av s own H)
  (l:tg.all (λy=>fJ sc lay y.1)=true) (j:∀z∈tg,sc.names.lookup (nm lay z.1)=some .cell->∀c,env.cells.lookup (nm lay z.1)=some c->c∈ex) (u:fu tg.length v=some vs) (r:R s.heap av own v f)
  (h:∀e,Fm C av e own env sc lay (iO tg vs σ)->Hp C av e own H->c4 C av ex s own e own->G () e):
  wpAny C.md A (assign (zY lay tg Y) env f) G E s:=by
 rcases y3 u with ⟨d,rfl⟩ | ⟨d,a,b,rfl,rfl⟩
 ·refine ah (i6.mp d) λy i=>?_;subst i
  exact AL (F.store P k (j y (aB ..)) (dG l).1 r λw n o p=>h w n o p)
 ·cases tg with
  | nil=>exact nomatch d
  | cons y tg=>
   cases tg with
   | nil=>exact nomatch d
   | cons z tg=>
    cases tg with
    | nil=>exact y7 (is:=[y,z]) k g q F P l j (v:=.tup [a,b]) rfl r h
    | cons _ _=>exact nomatch d
end
noncomputable def tW (a:List (Str×Addr)):List (Str×gp)->List (Str×Addr)->List (Str×Addr)
 | [],b=>b
 | (n,k)::r,b=>if (k==.free)=true then tW a r ((n,(a.lookup n).getD 0)::b) else tW a r b
section
set_option autoImplicit true
theorem R3 (a:List (Str×Addr)):tW a [] acc=(acc):=rfl
theorem B0 (a:List (Str×Addr)):tW a ((n',k')::r') acc=(if (k'==.free)=true then tW a r' ((n',(a.lookup n').getD 0)::acc) else tW a r' acc):=rfl
end
theorem v6 {d:Env}:∀(l:List (Str×gp)) (b:List (Str×Addr)),(∀y∈l,y.2=.free->∃c,d.cells.lookup y.1=some c)->
  (forIn l b λ(x:Str×gp) (r:List (Str×Addr))=>match x with
   | (f,i)=>if (i==.free)=true then do let a <- cellOf d f;pure (gW ((f,a)::r)) else pure (gW r))=(pure (tW d.cells l b):Sem _)
 | [],b,_=>rfl
 | (n,k)::r,b,h=>by
  refine ae (jn _ _ _ _) ?_
  dsimp only
  refine ae (B0 _) ?_
  by_cases g:(k==db)=true
  ·refine ae (if_pos g) (ae (if_pos g) ?_)
   refine ah (h (n,k) aB (of_decide_eq_true g)) λc e=>?_
   have:cellOf d n=pure c:=by unfold cellOf;dsimp only at e;refine ae e rfl
   refine ae this ?_
   dsimp only at e
   exact ae e (v6 r _ λy hy=>h y (aP _ hy))
  ·exact ae (if_neg g) (ae (if_neg g) (v6 r _ λy hy=>h y (aP _ hy)))
theorem nT (h:∀y∈F.names,y.2=.free->∃c,Z.cells.lookup y.1=some c):S4 F Z=pure (tW Z.cells F.names []):=by
 have:=v6 F.names [] h
 unfold S4
 exact (congrArg (λt:Sem (List (Str×Addr))=>t >>= λr=>pure r) this)
theorem qd {a:List (Str×Addr)}:∀(l:List (Str×gp)) (b:List (Str×Addr)),(∀y∈l,y.2=.free->∃c,a.lookup y.1=some c)->(∀y∈b,a.lookup y.1=some y.2)->
  ∀y∈tW a l b,a.lookup y.1=some y.2
 | [],b,_,d,y,hy=>d y hy
 | (n,k)::r,b,h,d,y,hy=>by
  replace hy:=(B0 _)▸hy
  by_cases f:(k==db)=true
  ·replace hy:=(if_pos f)▸hy
   refine ah (h (n,k) aB (of_decide_eq_true f)) λc e=>?_
   refine qd r _ (λy hy=>h y (aP _ hy)) (λz g=>?_) y hy
   rcases aX.mp g with rfl | g
   ·dsimp only at e ⊢;refine ae e ?_;rfl
   ·exact d z g
  ·replace hy:=(if_neg f)▸hy
   exact qd r _ (λy hy=>h y (aP _ hy)) d y hy
theorem yS {b:List (Str×Addr)}:∀(l:List (Str×gp)) (a:List (Str×Addr)) (x:Str),(x,db)∈l\/x∈a.map (·.1)->x∈(tW b l a).map (·.1)
 | [],a,x,h=>by exact ae (R3 _) (h.resolve_left aC)
 | (n,k)::r,a,x,h=>by
  refine ae (B0 _) ?_
  by_cases c:(k==db)=true
  ·refine ae (if_pos c) ?_
   refine yS r _ x ?_
   rcases h with h | h
   ·rcases aX.mp h with e | h
    ·cases e;exact .inr aB
    ·exact .inl h
   ·exact .inr (by simp;right;simpa using h)
  ·refine ae (if_neg c) ?_
   refine yS r _ x ?_
   rcases h with h | h
   ·rcases aX.mp h with e | h
    ·cases e;exact absurd rfl c
    ·exact .inl h
   ·exact .inr h
theorem te (b:x∈U.map (·.1)) (h:∀y∈U,y.1=x->y.2=D):U.lookup x=some D:=by
 induction U with
 | nil=>simp at b
 | cons y r d=>
  obtain ⟨k,a⟩:=y
  refine ae gQ ?_
  by_cases e:x=k
  ·subst e
   exact ae (beq_self_eq_true _) (congrArg some (h (x,a) aB rfl))
  ·refine ae (beq_eq_false_iff_ne.mpr e) ?_
   refine d ?_ λy hy=>h y (aP _ hy)
   replace b:=(bG)▸b
   exact (aX.mp b).resolve_left e
theorem qe {l:List (Str×gp)} (h:∀y∈l,y.2=.free->∃D,U.lookup y.1=some D) (d:(x,db)∈l) (e:U.lookup x=some D):
  (tW U l []).lookup x=some D:=
 te (yS l [] x (.inl d)) λy hy b=>by
  have:=qd l [] h nofun y hy
  replace this:=(e)▸(b)▸this
  exact (aN this).symm
theorem v5 {cells:List (Str×Addr)}:∀(l:List (Str×gp)) (a:List (Str×Addr)),iJ ((l.filter λy=>y.2==.free).map (·.1))=true->(a.map (·.1)).Nodup->
  (∀x∈a.map (·.1),x∉(l.filter λy=>y.2==.free).map (·.1))->((tW cells l a).map (·.1)).Nodup
 | [],a,_,c,_=>c
 | (n,k)::r,a,h,c,hd=>by
  refine ae (B0 _) ?_
  by_cases d:(k==db)=true
  ·refine ae (if_pos d) ?_
   have e:((n,k)::r).filter (λy=>y.2==db)=(n,k)::r.filter (λy=>y.2==db):=by simp only [j7,d,if_true]
   rw [e,bG] at h hd
   replace h:=(az _ _)▸(Ai)▸h
   refine v5 r _ h.2 ?_ λx b=>?_
   ·exact ae bG (ae (propext h9) ⟨λq=>hd n q aB,c⟩)
   ·replace b:=(bG)▸b
    rcases aX.mp b with rfl | b
    ·intro q
     have:=aS.mp h.1 _ q
     simp at this
    ·intro q
     exact hd x b (aP _ q)
  ·refine ae (if_neg d) ?_
   have e:((n,k)::r).filter (λy=>y.2==db)=r.filter (λy=>y.2==db):=by simp only [j7,d,if_false];rfl
   rw [e] at h hd
   exact v5 r _ h c hd
theorem AA {l:List (Str×gp)} (h:∀y∈l,y.2=.free->∃c,U.lookup y.1=some c) (f:iJ ((l.filter λy=>y.2==.free).map (·.1))=true)
  (g:U.Pairwise λx y=>x.2≠y.2):(tW U l []).Pairwise λx y=>x.2≠y.2:=by
 have d:=v5 (cells:=U) l [] f ef (λO h=>nomatch h)
 have b:=qd l [] h nofun
 rw [List.Nodup,List.pairwise_map] at d
 refine Wh (λ{x y} i hy j e=>j ?_) d
 exact rL g (b x i) (e▸b y hy)
theorem ke {sc:Scope}:(ei F sc).names.lookup x=(F.names.lookup x).map λk=>if (k==db && sc.kind==.function && sc.names.lookup x==some .cell) then iZ else k:=by
 show Wg x (F.names.map _)=_
 induction F.names with
 | nil=>rfl
 | cons y r d=>
  obtain ⟨n,k⟩:=y
  by_cases e:x=n
  ·subst e
   rw [bG,gQ]
   by_cases b:(k==db && sc.kind==.function && sc.names.lookup x==some .cell)=true
   ·refine ae (if_pos b) ?_;dsimp only;refine ae gQ (ae (beq_self_eq_true _) ?_);dsimp only;refine ae (hV _ _) (ae (if_pos b) rfl)
   ·refine ae (if_neg b) ?_;dsimp only;refine ae gQ (ae (beq_self_eq_true _) ?_);dsimp only;refine ae (hV _ _) (ae (if_neg b) rfl)
  ·have c:(x==n)=false:=beq_eq_false_iff_ne.mpr e
   rw [bG,gQ,gQ,c]
   dsimp only
   by_cases b:(k==db && sc.kind==.function && sc.names.lookup n==some .cell)=true
   ·refine ae (if_pos b) ?_;dsimp only;exact ae c d
   ·refine ae (if_neg b) ?_;dsimp only;exact ae c d
structure SZ (sc scope:Scope) (lay:List Str) (tg:List (Str×Pos)):Prop where
 kind:scope.kind=.function
 JY:∀y∈scope.names,y.2≠.cell
 loc:∀y∈scope.names,y.2=.local->scope.names.lookup y.1=some .local
 free:∀y∈scope.names,y.2=.free->(sc.names.lookup y.1=some .cell\/sc.names.lookup y.1=some .free)/\y.1∈lay/\scope.names.lookup y.1=some .free
 Wu:∀y∈tg,scope.names.lookup y.1=some .local/\("":Str)∉lay/\y.1≠("":Str)
 vc:to (ei scope sc) (ib lay tg)=true
 part:∀x∈lay.map (λx=>if tg.any (·.1==x) then ("":Str) else x),scope.names.lookup x≠some .local
 ZO:iJ ((scope.names.filter λy=>y.2==.free).map (·.1))=true
theorem ZN {sc:Scope}{tg:List (Str×Pos)} (h:Ef sc F i tg=true):SZ sc F i tg:=by
 unfold Ef at h
 simp only [az] at h
 refine qS h λc d f g a j O k l=>?_
 refine ⟨by exact of_decide_eq_true c,λy hy=>?_,λy hy e=>?_,λy hy e=>?_,λy hy=>?_,j,λx m=>?_,l⟩
 ·have:=aS.mp d y hy;exact (bne_iff_ne.mp this)
 ·have:=aS.mp f y hy;replace this:=(e)▸this;exact eq_of_beq this
 ·have:=aS.mp g y hy
  replace this:=(e)▸this
  replace this:=(dz _ _)▸(az _ _)▸(az _ _)▸(dz _ _)▸this
  rcases this with q | q
  ·exact absurd q (by decide)
  ·exact ⟨by simpa using q.1.1,by simpa using q.1.2,by exact eq_of_beq q.2⟩
 ·have:=aS.mp a y hy
  replace this:=wK this
  exact ⟨by exact eq_of_beq this.1.1,by simpa using this.1.2,by exact (bne_iff_ne.mp this.2)⟩
 ·have:=aS.mp k x m;exact (bne_iff_ne.mp this)
noncomputable def Ig (n:Nat):List (Str×Pos)->List (Nat×Pos)
 | []=>[]
 | y::r=>(n,y.2)::Ig (n+1) r
section
set_option autoImplicit true
theorem Wv (n':Nat):Ig n' []=([]):=rfl
theorem IS (n':Nat):Ig n' (y'::r')=((n',y'.2)::Ig (n'+1) r'):=rfl
end
theorem xW:∀(tg:List (Str×Pos)) (n:Nat),(Ig n tg).length=tg.length
 | [],_=>rfl
 | _::r,n=>congrArg (·+1) (xW r (n+1))
theorem x5:∀(tg:List (Str×Pos)) (a:List V) (b:Sg) (c:Sg),b.length=tg.length->a.length=tg.length->iO (Ig c.length tg) a (c++b)=c++a.map some
 | [],a,b,c,d,e=>by
  cases a with
  | nil=>cases b with
   | nil=>rfl
   | cons=>exact nomatch d
  | cons=>exact nomatch e
 | y::r,a,b,c,d,e=>by
  cases a with
  | nil=>exact nomatch e
  | cons m h=>cases b with
   | nil=>exact nomatch d
   | cons o os=>
    refine ae (IS _) (ae ez ?_)
    have f:(c++o::os).set c.length (some m)=(c++[some m])++os:=by
     refine ae (GH _ _ (aD _)) ?_;simp
    dsimp only
    refine ae f ?_
    have g:c.length+1=(c++[some m]).length:=by simp
    refine ae g (ae (x5 r h os (c++[some m]) (fE d) (fE e)) ?_)
    simp
theorem Dj {tg:List (Str×Pos)}:(ib i tg).length=i.length+tg.length:=by simp [ib]
theorem p6 {tg:List (Str×Pos)}:(ib i tg)[i.length+n]? =(tg[n]?).map (·.1):=by
 unfold ib
 refine ae (jX (by simp)) ?_
 simp
theorem Ho {tg:List (Str×Pos)} (h:n < i.length):(ib i tg)[n]? =(i[n]?).map (λx=>if tg.any (·.1==x) then ("":Str) else x):=by
 unfold ib
 refine ae (cE ((bv _).symm▸h)) ?_
 simp
theorem MH {lay:List Str}{tg:List (Str×Pos)}:zB tg Y=zY (ib lay tg) (Ig lay.length tg) Y:=by
 have b:∀j (y:Str×Pos),tg[j]? =some y->nm (ib lay tg) (lay.length+j)=y.1:=λj y e=>by
  unfold nm;refine ae ax (ae p6 (ae e ?_));rfl
 have c:∀(r:List (Str×Pos)) (k:Nat),(∀j (y:Str×Pos),r[j]? =some y->nm (ib lay tg) (lay.length+k+j)=y.1)->
   (Ig (lay.length+k) r).map (λy=>ze (nm (ib lay tg) y.1) y.2)=r.map λy=>.Name y.1 y.2:=by
  intro r
  induction r with
  | nil=>intro k h;rfl
  | cons y r f=>
   intro k h
   refine ae (IS _) (ae bG (ae bG ?_))
   have d:=h 0 y rfl
   have:=f (k+1) λj z e=>by exact ae (show lay.length+(k+1)+j=lay.length+k+(j+1) by exact bA fo 15 [_,_,_] []) (h (j+1) z e)
   refine ae (show lay.length+k+1=lay.length+(k+1) by exact bA fo 16 [_,_] []) (ae this ?_)
   replace d:=(Nat.add_zero _)▸d
   dsimp only
   refine ae d rfl
 match tg,b,c with
 | [],b,c=>rfl
 | [y],b,c=>
  have:=b 0 y rfl
  show ze y.1 y.2=ze (nm _ lay.length) y.2
  refine bQ this ?_;rfl
 | y::z::r,b,c=>
  have:=c (y::z::r) 0 λj y e=>b j y e
  show Ye ((y::z::r).map λy=>.Name y.1 y.2) 0 Y=Ye ((Ig lay.length (y::z::r)).map _) 0 Y
  refine bQ this ?_;rfl
section
variable {C:Cx}{T:Tb}{N:Nat}{sc:Scope}{lay:List Str}{av:Addr->Prop}{s s':Shared}{own:List Addr}{H:Hs}{σ:Sg}{env:Env}{scope:Scope}{tg:List (Str×Pos)}
theorem Fm.Wp (F:Fm C av s own env sc lay σ) (f:∀a,d a->av a\/s.heap.objs.size<=a):Fm C d s own env sc lay σ:=by
 refine ah F.ns λm b=>af b λq p=>?_
 refine ⟨F.scope,F.kind,F.glob,F.blt,F.vc,F.len,⟨m,q,λi x v g j l=>?_⟩,λi x g j=>?_,F.locs,F.qg,F.apart⟩
 ·exact ah (p i x v g j l) λk b=>af b λe r=>⟨k,e,r.oE f⟩
 ·exact aG (F.cell i x g j) λc u b=>aA b λe o h=>⟨c,u,e,o,λv n=>let ⟨k,e,r⟩:=h v n;⟨k,e,r.oE f⟩⟩
theorem SZ.cells (g:SZ sc scope lay tg) (F:Fm C av s own env sc lay σ):∀y∈scope.names,y.2=.free->∃c,env.cells.lookup y.1=some c:=λy hy e=>by
 refine aA (g.free y hy e) λb d O=>?_
 exact ah (eF.mp d) λi f=>(aG (F.cell i y.1 f b) λc h a=>af a λe O=>⟨c,e⟩)
theorem Fm.comp (F:Fm C av s own env sc lay σ) (f:SZ sc scope lay tg) {Cl:Addr}{m:Str->Option Value} (P:s.heap.Ns Cl m) (E:Cl∉own/\¬C.tb Cl/\C.h₀.objs.size<=Cl) (G:∀y∈env.cells,y.2≠Cl):
  Fm C av s own (compEnvC scope (tW env.cells scope.names []) Cl env) (ei scope sc) (ib lay tg) (σ++bk tg.length none):=by
 have d:=f.cells F
 have p:∀y∈tW env.cells scope.names [],y∈env.cells:=λy hy=>by
  have:=qd scope.names [] d nofun y hy
  exact b7 this
 have n:σ.length=lay.length:=F.len
 refine ⟨?_,f.kind,F.glob,F.blt,f.vc,by refine ae Dj (ae bp (ae eG (ae n rfl))),⟨m,P,λi x v a b r=>?_⟩,λi x a b=>?_,E,λy hy=>?_,AA d f.ZO F.apart⟩
 ·show relabel scope env=ei scope sc
  refine bQ F.scope ?_;rfl
 ·exfalso
  replace b:=(ke)▸b
  by_cases l:i < lay.length
  ·cases hs:scope.names.lookup x with
   | none=>replace b:=(hs)▸b;exact bN b
   | some k=>
    replace b:=(hV _ _)▸(hs)▸b
    split at b
    ·exact nomatch b
    ·cases b
     refine f.part x ?_ hs
     have:x∈(ib lay tg).take lay.length:=by
      refine bB (i:=i) ?_
      refine ae (qn l) ?_;exact a
     unfold ib at this
     rw [List.take_left' (bv _)] at this
     exact this
  ·rw [ax,jX (au eZ 23 [_,_,_] [] n l)] at r
   cases h:(bk tg.length (none:Option V))[i - σ.length]? with
   | none=>replace r:=(h)▸r;exact bN r
   | some o=>
    have:=DS (bB h)
    replace r:=(this)▸(h)▸r;exact bN r
 ·replace b:=(ke)▸b
  have hs:scope.names.lookup x=some .free:=by
   cases hs:scope.names.lookup x with
   | none=>replace b:=(hs)▸b;rcases b with e | e<;>exact bN e
   | some k=>
    have M:=f.JY (x,k) (b7 hs)
    replace b:=(hV _ _)▸(hs)▸b
    split at b
    ·rename_i g
     replace g:=wK g
     have:k=.free:=of_decide_eq_true g.1.1
     refine ae this rfl
    ·rcases b with e | e
     ·cases e;exact absurd rfl M
     ·exact e
  have J:(x,db)∈scope.names:=b7 hs
  refine aA (f.free _ J rfl) λB D O=>?_
  have l:i < lay.length/\lay[i]? =some x:=by
   by_cases l:i < lay.length
   ·refine ⟨l,?_⟩
    replace a:=(Ho l)▸a
    cases hl:lay[i]? with
    | none=>replace a:=(hl)▸a;exact bN a
    | some z=>
     replace a:=(hV _ _)▸(hl)▸a
     split at a
     ·rename_i w
      refine ah (zj.mp w) λy u=>af u λhy O=>?_
      have A:x="":=(aN a).symm
      exact absurd (A▸D) (f.Wu y hy).2.1
     ·exact a
   ·exfalso
    obtain ⟨j,rfl⟩:∃j,i=lay.length+j:=⟨i - lay.length,by exact au eY 0 [_,_,_] [] l a8⟩
    replace a:=(p6)▸a
    cases w:tg[j]? with
    | none=>replace a:=(w)▸a;exact bN a
    | some y=>
     replace a:=(w)▸a
     cases a
     have:=(f.Wu y (bB w)).1
     replace this:=(hs)▸this;exact nomatch this
  refine aG (F.cell i x l.2 B) λc S u=>aA u λe g Q=>?_
  refine ⟨c,S,qe d J e,g,λv I=>Q v ?_⟩
  rw [ax,cE (by lia)] at I
  refine ae ax ?_;exact I
 ·refine bh (F.qg y (p y hy)) λB D U K L=>?_
  refine ⟨B,D,G y (p y hy),λq=>K ?_,L⟩
  replace q:=(ke)▸q
  cases hs:scope.names.lookup y.1 with
  | none=>replace q:=(hs)▸q;exact bN q
  | some k=>
   replace q:=(hV _ _)▸(hs)▸q
   split at q
   ·rename_i g
    replace g:=dG g
    exact eq_of_beq g.2
   ·cases q
    exact absurd rfl (f.JY (y.1,.cell) (b7 hs))
theorem GV (l:SZ sc scope lay tg):(Ig lay.length tg).all (λy=>fJ (ei scope sc) (ib lay tg) y.1)=true/\∀z∈Ig lay.length tg,(ei scope sc).names.lookup (nm (ib lay tg) z.1)=some .local:=by
 have d:∀j (y:Str×Pos),tg[j]? =some y->(ei scope sc).names.lookup y.1=some .local:=λj y e=>by
  refine ae ke (ae ((l.Wu y (bB e)).1) ?_);rfl
 have f:∀(r:List (Str×Pos)) (k:Nat) z,z∈Ig k r->∃j y,z.1=k+j/\r[j]? =some y:=by
  intro r
  induction r with
  | nil=>intro k z h;exact nomatch h
  | cons y r i=>
   intro k z h
   rcases aX.mp h with rfl | h
   ·exact ⟨0,y,rfl,rfl⟩
   ·exact aG (i (k+1) z h) λj w a=>af a λc b=>⟨j+1,w,by exact ak fh 6 [_,_,_] [] c,by exact b⟩
 refine ⟨aS.mpr λz g=>?_,λz g=>?_⟩
 ·refine aG (f _ _ z g) λj y a=>af a λc b=>?_
  unfold fJ
  refine ae c (ae p6 (ae b ?_))
  dsimp only [hV]
  refine ae (d j y b) rfl
 ·refine aG (f _ _ z g) λj y a=>af a λc b=>?_
  unfold nm
  refine ae c (ae ax (ae p6 (ae b ?_)))
  exact d j y b
end
section
variable {C:Cx}{T:Tb}{N:Nat}{sc:Scope}{lay:List Str}{av:Addr->Prop}{s s':Shared}{own:List Addr}{H:Hs}{σ:Sg}{env:Env}{A:Around}{E:Value->Shared->Prop}
theorem wf {Q:Bool->Shared->Prop}:∀(l:List Expr) (s:Shared),Q false s->
  wpAny C.md A (forIn l false λc r=>if r=true then do let a <- isTrue c env (eval c env);pure (gW a) else pure (gW r)) Q E s
 | [],s,h=>wpAny_pure h
 | c::l,s,h=>by
  exact ae (jn _ _ _ _) (ae (if_neg (by decide)) (wpAny_bind (wpAny_pure (wf l s h))))
theorem zZ:∀(d:List MT),(∀t∈d,ST C T N sc lay t)->tz sc lay d=true->∀{s:Shared}{own:List Addr}{H:Hs}{a:Bool->Hs->Prop}{Q:Bool->Shared->Prop},fD A N->Fm C av s own env sc lay σ->Hp C av s own H->wY T σ .And d H a->LS C av s own a Q->
  wpAny C.md A (forIn (nu lay d) true λc r=>if r=true then do let e <- isTrue c env (eval c env);pure (gW e) else pure (gW r)) Q E s
 | [],_,_,s,own,H,a,Q,l,F,P,k,i=>by
  exact wpAny_pure (i true s own H k P c4.refl)
 | t::d,n,e,s,own,H,a,Q,l,F,P,k,i=>by
  replace e:=dG e
  show wpAny _ _ (forIn (nv lay t::nu lay d) true _) Q E s
  refine ae (jn _ _ _ _) (ae (if_pos rfl) ?_)
  refine wpAny_bind (wpAny_bind (n t aB e.1 A s av own H σ env _ _ _ l F P k λb w f p o m j=>wpAny_pure ?_))
  cases b with
  | false=>exact wf _ _ (i false w f p o m j)
  | true=>exact zZ d (λt h=>n t (aP _ h)) e.2 l (F.grow j P.bM) m o λb x g q y u v=>i b x g q y u (j.trans v)
theorem c4.zO {b:List Addr} (g:c4 C d c s own s' b) (h:∀a,av a->d a):c4 C av c s own s' b:=
 ⟨⟨g.keep,let ⟨f,e,j⟩:=g.own;⟨f,e,λa i=>⟨(j a i).1,λq=>(j a i).2 (h a q)⟩⟩,g.size⟩,g.os,g.gens,g.bare⟩
theorem Hp.acc {tk:Nat} (P:Hp C av s own H) (x:av D) (m:C.h₀.objs.size<=D) (u:¬C.tb D) (hs:gG D s.heap h) (i:∃f n,s.heap.get? D=some (listOf f n)) (I:s.toks<=tk:=by repeat constructor):
  Hp C av {s with heap:=h,toks:=tk} own H/\kP (λa=>a=D) av [] s.heap own h own:=by
 have g:kP (λa=>a=D) av [] s.heap own h own:=⟨λb o e O O F=>(hs.2 b F).trans e,⟨[],by exact (bw _).symm,by exact nofun⟩,dN hs.1.symm⟩
 have j:∀a,a=D->av a:=λa e=>e▸x
 have l:∀b o,b≠D->s.heap.get? b=some o->h.get? b=some o:=λb o d e=>(hs.2 b d).trans e
 have p:∀a∈own,a≠D:=λa G e=>(P.lo a G).2 (e▸x)
 refine ⟨⟨⟨λb o e=>l b o (λq=>lu m (q▸e)) (P.gd.base b o e),λq y=>?_,by show _<=h.objs.size;exact ae (hs.1) P.gd.size⟩,P.len,P.nd,λn a J w c=>?_,P.lo,λa q=>(by show a < h.objs.size;exact ae (hs.1) (P.f4 a q)),P.bM,ar P.tk I⟩,g⟩
 ·refine (P.gd.tabs q y).step (ex:=[D]) (λb o d e=>l b o (λe=>d (ai.mpr e)) e) (λz=>u ((ai.mp z)▸b9 y)) λb d o e=>?_
  replace e:=(ai.mp d)▸e
  refine aG i λf n c=>?_
  replace e:=(c)▸e;cases e
  exact r9.list
 ·exact aG (P.lst n a J w c) λf k v=>af v λB r=>⟨f,k,l _ _ (p a (bB w)) B,r.iv g j cA.nil⟩
theorem Fm.acc {tk:Nat} (F:Fm C av s own env sc lay σ) (L:av D) (hs:gG D s.heap h) (M:env.locals≠D) (z:∀y∈env.cells,y.2≠D):
  Fm C av {s with heap:=h,toks:=tk} own env sc lay σ:=by
 have g:kP (λa=>a=D) av [] s.heap own h own:=⟨λb o e O O n=>(hs.2 b n).trans e,⟨[],by exact (bw _).symm,by exact nofun⟩,dN hs.1.symm⟩
 have f:∀a,a=D->av a:=λa e=>e▸L
 have U:∀b o,b≠D->s.heap.get? b=some o->h.get? b=some o:=λb o P e=>(hs.2 b P).trans e
 refine ah F.ns λm d=>af d λS Q=>?_
 refine ⟨F.scope,F.kind,F.glob,F.blt,F.vc,F.len,⟨m,S.sameBut hs M,λi x v k l B=>?_⟩,λi x k l=>?_,F.locs,λy hy=>?_,F.apart⟩
 ·exact ah (Q i x v k l B) λw d=>af d λe r=>⟨w,e,r.iv g f cA.nil⟩
 ·exact aG (F.cell i x k l) λc u d=>aA d λe p j=>⟨c,u,e,p.sameBut hs (z (x,c) (b7 e)),λv G=>let ⟨w,e,r⟩:=j v G;⟨w,e,r.iv g f cA.nil⟩⟩
 ·exact bh (F.qg y hy) λI n J K d=>ah d λu q=>⟨I,n,J,K,u,q.sameBut hs (z y hy)⟩
def Gh (T:Tb) (σ:Sg) (n:Nat) (cond:List MT) (d:ME):V->Hs->(Option V->Hs->Prop)->Prop:=λx H k=>match fu n x with
 | some a=>wY T (σ++a.map some) .And cond H λc e=>(c=true->g8 T (σ++a.map some) d e λv b=>k (some v) b)/\(c=false->k none e)
 | none=>False
set_option genInjectivity false in
inductive CI (C:Cx) (T:Tb) (av:Addr->Prop) (σ:Sg) (tg:List (Str×Pos)) (cond:List MT) (elt:ME) (OT:Scope) (Uo:List Str) (US:Env) (D:Addr) (I:(Addr->Prop)->List V->Shared->List Addr->Prop) (xY:Shared) (tL:List Addr) (cK:List V->Hs->Prop) (s:Shared):Nat->Prop
 | mk (xs acc own H old ws n):I (λa=>av a\/a=D) xs s own->Hp C (λa=>av a\/a=D) s own H->Fm C (λa=>av a\/a=D) s own US OT Uo (σ++old)->old.length=tg.length->
  s.heap.get? D=some (listOf ws n)->Rs s.heap (λa=>av a\/a=D) own acc ws.toList->acc.length+xs.length<=1000->tx (Gh T σ tg.length cond elt) xs acc H cK->c4 C av [] xY tL s own->CI C T av σ tg cond elt OT Uo US D I xY tL cK s xs.length
theorem HM {f:Scope}{tg:List (Str×Pos)}{Y Γ:Pos}{cond:List MT}{u:ME}{X:Expr}{it D:Addr}{c:Env}{fp ia:List Addr}{gk:Nat}{I' J'}{xY:Shared}{tL:List Addr}{Q:List V->Hs->Prop}{R:Result->Shared->Prop}
  (ZM:SZ sc f lay tg) (ZT:σ.length=lay.length) (Z3:gO (ei f sc) (ib lay tg) u=true) (Z4:tz (ei f sc) (ib lay tg) cond=true)
  (he:SE C T N (ei f sc) (ib lay tg) u) (hc:∀t∈cond,ST C T N (ei f sc) (ib lay tg) t)
  (S:Stream C A (zB tg Y) it fp ia gk I' J') (rm:fD A N) (hD:C.h₀.objs.size<=D/\¬C.tb D/\xY.heap.objs.size<=D) (ZW:∀a,C.tb a->av a) (ξ:c.locals≠D) (Φ:xY.heap.objs.size<=c.locals)
  (Z5:∀y∈c.cells,y.2≠D) (η:∀a∈ia,xY.heap.objs.size<=a) (α:∀a∈fp,a≠D/\a≠c.locals) (ε:∀y∈c.cells,y.2∉ia) (ζ:xY.gens.size<=gk)
  (hR:∀s' B H' p ws n,Q p H'->Hp C (λa=>av a\/a=D) s' B H'->s'.heap.get? D=some (listOf ws n)->Rs s'.heap (λa=>av a\/a=D) B p ws.toList->c4 C av [] xY tL s' B->
   (∃m,s'.heap.Ns c.locals m)->c.locals∉B->R (.ok .next) s'):
  ∀k s,CI C T av σ tg cond u (ei f sc) (ib lay tg) c D I' xY tL Q s k->
   AM C.md A (.compLoop (.ListComp (toPy (ib lay tg) u) [⟨zB tg Y,X,nu (ib lay tg) cond,0⟩] f Γ) 0 (.ref it) (.ref D) c) R s:=by
 intro k s hk
 have g:∀a,av a->av a\/a=D:=λa h=>.inl h
 refine codeAny_loop rfl (λk s=>CI C T av σ tg cond u (ei f sc) (ib lay tg) c D I' xY tL Q s k) (λn s hI=>?_) k hk
 show wpAny _ A ((compTurn (.ListComp (toPy (ib lay tg) u) [⟨zB tg Y,X,nu (ib lay tg) cond,0⟩] f Γ) 0 (.ref it) (.ref D) c).onRaise (λx=>do LZ x c;vH x)) _ _ s
 refine wpAny_noted ?_
 refine ae (compTurn_list _ _ _ _ _ _ _ _ _) ?_
 obtain ⟨xs,p,own,H,old,ws,n',hI,P,F,φ,ς,r,j,M,β⟩:=hI
 have d:∀a,C.tb a->av a\/a=D:=λa h=>.inl (ZW a h)
 have G:∀{own:List Addr}{s:Shared}{H:Hs},Hp C (λa=>av a\/a=D) s own H->D∉own:=λP q=>(P.lo D q).2 (.inr rfl)
 have U:D∉ia:=λq=>(α D (S.sub _ q)).1 rfl
 have W:c.locals∉ia:=λq=>(α _ (S.sub _ q)).2 rfl
 cases xs with
 | nil=>
  refine wpAny_bind (er (wpAny_bind (S.done _ s own H _ _ hI P λs1 P1 Z=>wpAny_pure ?_)))
  have F1:=F.vk Z.tokP d W ε (S.jA _ _ _ _ hI)
  exact ah F1.ns λm Zu=>af Zu λhm O=>(hR s1 own H p ws n' M P1 (Z.keep _ _ ς (G P) U hD.2.1) (r.iv Z.tokP d (S.jA _ _ _ _ hI)) (β.No (Z.zO g) η ζ) ⟨m,hm⟩ F1.locs.1)
 | cons x xs=>
  refine wpAny_bind (er (wpAny_bind (S.step _ x xs s own H _ _ hI P λrv s1 r1 J1 P1 Z=>?_)))
  have χ:=S.jA _ _ _ _ hI
  have F1:=F.vk Z.tokP d W ε χ
  have θ:=β.No (Z.zO g) η ζ
  have Ψ:=Z.keep _ _ ς (G P) U hD.2.1
  have ZB:=r.iv Z.tokP d χ
  refine wpAny_bind (S.go _ xs s1 own H rv x _ _ J1 P1 r1 λs2 I2 r2 P2 g2=>?_)
  have ψ:=S.Bz _ _ _ _ _ J1
  have F2:=F1.vk g2.tokP d W ε ψ
  have ι:=θ.No (g2.zO g) η ζ
  have Ω:=g2.keep _ _ Ψ (G P1) U hD.2.1
  have ZA:=ZB.iv g2.tokP d ψ
  have M:Gh T σ tg.length cond u x H _:=M
  unfold Gh at M
  cases hb:fu tg.length x with
  | none=>replace M:=(hb)▸M;exact M.elim
  | some i=>
   replace M:=(hb)▸M
   have M:wY T (σ++i.map some) .And cond H _:=M
   refine ae (MH (lay:=lay)) ?_
   refine af (GV ZM) λZw Zv=>?_
   have w:i.length=tg.length:=EV hb
   have ω:cA s2.heap [c.locals]:=λa K=>F2.jA a (ae (ai.mp K) aB)
   refine wpAny_bind (sx (ex:=[c.locals]) (ga _) (by simp) rm.hd F2 P2 Zw (λz hz e=>by replace e:=(Zv z hz)▸e;exact nomatch e) (vs:=i) (ae (xW _ _) hb) r2 λs3 F3 P3 g3=>?_)
   replace F3:=(x5 tg i old σ φ w)▸(show lay.length=σ.length from ZT.symm)▸F3
   have κ:=ι.new (g3.zO g) (λa K=>by exact ae (ai.mp K) Φ)
   have Z8:=g3.keep _ _ Ω (G P2) (λe=>Ne.symm ξ (ai.mp e)) hD.2.1
   have Zz:=ZA.grow g3 d ω
   have I3:=S.frame _ _ _ _ _ _ _ I2 g3 d (λa K q=>(α a K).2 (ai.mp q)) ω.a
   refine wpAny_bind (zZ cond hc Z4 rm F3 P3 M λb s4 δ H4 w4 P4 g4=>?_)
   have F4:=F3.grow g4 d
   have γ:=κ.trans (g4.zO g)
   have π:=g4.keep _ _ Z8 (G P3) aC hD.2.1
   have Δ:=Zz.grow g4 d cA.nil
   have I4:=S.frame _ _ _ _ _ _ _ I3 g4 d (λa K q=>by exact aC q) cA.nil.a
   cases b with
   | false=>
    refine wpAny_pure ⟨rfl,xs.length,dQ _,xs,p,δ,H4,i.map some,ws,n',I4,P4,F4,by refine ae (bv _) ?_;exact w,π,Δ,by simp at j;exact b8 ‹_›,?_,γ⟩
    have:=w4.2 rfl
    dsimp only at this
    replace this:=(bw _)▸(Option.toList_none _)▸this
    exact this
   | true=>
    refine wpAny_bind (wpAny_bind (he Z3 A s4 _ δ H4 _ c _ _ _ rm F4 P4 (w4.1 rfl) λv vv s5 l H5 w5 r5 P5 g5=>wpAny_bind ?_))
    have F5:=F4.grow g5 d
    have μ:=γ.trans (g5.zO g)
    have ρ:=g5.keep _ _ π (G P4) aC hD.2.1
    have Θ:=Δ.grow g5 d cA.nil
    have I5:=S.frame _ _ _ _ _ _ _ I4 g5 d (λa K q=>by exact aC q) cA.nil.a
    have ZU:ws.size=p.length:=Θ.size
    refine wpAny_list_append_plain (hsz:=fS (by simp at j;exact au eX 1 [_,_,_] [] j ZU)) ⟨_,ρ⟩ λh' Z1 L=>wpAny_pure (wpAny_pure ?_)
    refine ah Z1 λn6 Z7=>?_
    refine af (P5.acc (tk:=s5.toks) (.inr rfl) hD.1 hD.2.1 L ⟨_,_,ρ⟩) λP6 υ=>?_
    have F6:=F5.acc (tk:=s5.toks) (.inr rfl) L ξ Z5
    have τ:∀a,a=D->av a\/a=D:=λa e=>.inr e
    have gA:c4 C av [D] s5 l {s5 with heap:=h'} l:=⟨⟨λb o e O hb O=>(L.2 b (λe=>hb (ai.mpr e))).trans e,⟨[],by exact (bw _).symm,by exact nofun⟩,dN L.1.symm⟩,rfl,λO O e=>e,λb=>b⟩
    have Ξ:c4 C (λa=>av a\/a=D) [D] s5 l {s5 with heap:=h'} l:=⟨⟨λb o e O hb O=>(L.2 b (λe=>hb (ai.mpr e))).trans e,⟨[],by exact (bw _).symm,by exact nofun⟩,dN L.1.symm⟩,rfl,λO O e=>e,λb=>b⟩
    have ν:=μ.new gA (λa K=>by exact ae (ai.mp K) hD.2.2)
    refine ⟨rfl,xs.length,dQ _,xs,p++[v],l,H5,i.map some,ws.push vv,n6,?_,P6,F6,by refine ae (bv _) ?_;exact w,Z7,?_,by simp at j ⊢;exact ak fg 7 [_,_] [] j,?_,ν⟩
    ·exact S.frame _ _ _ _ _ _ _ I5 Ξ d (λa K q=>(α a K).1 (ai.mp q)) λa K=>.inl (.inr (ai.mp K))
    ·exact ae wX ((Θ.iv υ τ cA.nil).append (Rs.one (r5.iv υ τ cA.nil)))
    ·exact w5
end
section
variable {C:Cx}{T:Tb}{N:Nat}{sc:Scope}{lay:List Str}{av:Addr->Prop}{s s':Shared}{own:List Addr}{H:Hs}{σ:Sg}{env:Env}{A:Around}{E:Value->Shared->Prop}
structure Ss (C:Cx) (av:Addr->Prop) (s:Shared) (own:List Addr) (s':Shared) (f7:List Addr) (H':Hs) (vs:List V) (D Cl:Addr):Prop where
 P:Hp C (λa=>av a\/a=D) s' f7 H'
 obj:∃ws n,s'.heap.get? D=some (listOf ws n)/\Rs s'.heap (λa=>av a\/a=D) f7 vs ws.toList
 g:c4 C av [] s own s' f7
 newD:s.heap.objs.size<=D
 Ej:s.heap.objs.size<=Cl
 ne:Cl≠D
 ns:∃m,s'.heap.Ns Cl m
 out:Cl∉f7
theorem Oh {b:MI}:∀{tg:List (Str×Pos)},F8 b tg.length=true->rO (zB tg Y)=true\/yn b=true
 | [],_=>.inl rfl
 | [_],h=>.inr (by cases b<;>first | rfl | exact h)
 | _::_::_,_=>.inl rfl
theorem DA {c:Scope}{tg:List (Str×Pos)}{v β π:Pos}{cond:List MT}{w:ME}{M:MI}{mu:Bool}{p:List V->Hs->Prop}{Q:Value->Shared->Prop}{use:Option (Value->Sem Unit)}
  (ok:gO sc lay (.comp mu w M tg v cond c β)=true) (hi:∀(p:List V->Hs->Prop) (Q:Value->Shared->Prop) ς,(rO ς=true\/yn M=true)->DU T σ M H p->AJ C av A ς s own p Q->wpAny C.md A (eval (nw lay M) env) (λx ρ=>wpAny C.md A (pyIter x) Q E ρ) E s) (he:SE C T N (ei c sc) (ib lay tg) w) (hc:∀t∈cond,ST C T N (ei c sc) (ib lay tg) t)
  (rm:fD A N) (F:Fm C av s own env sc lay σ) (P:Hp C.z av s own H) (hw:DU T σ M H λm H1=>m.length<=1000/\tx (Gh T σ tg.length cond w) m [] H1 p)
  (hq:∀s' G H' vs D Cl,p vs H'->Ss C av s own s' G H' vs D Cl->compPost C.md A E use Q (.ref D) Cl (.ok .next) s'):
  wpAny C.md A (comprehension (toPy lay (.comp mu w M tg v cond c β)) c env π (newList []) false (eval (nw lay M) env) use) Q E s:=by
 replace ok:=DG ok
 refine qO ok λΨ Γ Δ ub Ω JP=>?_
 have u:=ZN Γ
 have k:∀y∈env.cells,y.2 < s.heap.objs.size:=λy hy=>by
  exact bh (F.qg y hy) λO O O O Θ=>aG Θ λov o Ξ=>af Ξ λe O=>(bF e)
 refine wpAny_comprehension_free (cl:=tW env.cells c.names []) rfl (λx=>tR lay M env x) (nT (u.cells F)) u.kind u.loc ?_
 refine hi _ _ (zB tg v) ?_ hw λI0 m d j H2 fp ia gk I J w2 S I2 Y g2 Φ ζ χ=>?_
 ·exact Oh JP
 refine AK (PK u.JY (by intro y hy;simp at hy) (λf l i=>?_) u.kind)
 dsimp only at l i ⊢
 generalize L:d.heap.push {cls:=.type "list",dict:=none,data:=.seq ([]:List Value).toArray}=K at l i ⊢
 have hC:K.objs.size=d.heap.objs.size+1:=by refine bQ L (ae (bE _ _) rfl)
 have Z:∀b o,K.get? b=some o->f.get? b=some o:=λb o e=>(i.2 b (dW (bF e))).trans (aQ _ e)
 have ν:K.objs.size<=f.objs.size:=ae (i.1) (ae (bE _ _) (bx _))
 have η:∀b o,d.heap.get? b=some o->f.get? b=some o:=λb o e=>Z b o (L▸aQ _ e)
 have μ:d.heap.objs.size<=f.objs.size:=ar (by exact ae hC (bx _)) ν
 have P3:=Y.E4 (tk:=d.toks) {cls:=.type "list",dict:=none,data:=.seq ([]:List Value).toArray}
 replace P3:=(L)▸P3
 have P4:=P3.keeps (s':={d with heap:=f,toks:=d.toks+([]:List (Str×Value)).length}) Z ν
 have g4:c4 C av [] d j {d with heap:=f,toks:=d.toks+([]:List (Str×Value)).length} j:=c4.of_keeps η μ
 have γ:c4 C (λa=>av a\/a=d.heap.objs.size) [] d j {d with heap:=f,toks:=d.toks+([]:List (Str×Value)).length} j:=c4.of_keeps η μ
 have θ:∀a,av a\/a=d.heap.objs.size->av a\/d.heap.objs.size<=a:=λa q=>q.imp id λz=>dN z.symm
 have W:∀a,C.tb a->av a\/a=d.heap.objs.size:=λa q=>.inl (P.bM a q)
 have F4:=((F.grow g2 P.bM).Wp θ).grow γ W
 have α:∀a:Nat,a=K.objs.size->¬a < d.heap.objs.size:=λa e h=>by replace h:=(hC)▸(e)▸h;exact ay _ (Nat.lt_of_succ_lt h)
 have υ:K.objs.size∉j:=λq=>α _ rfl (Y.lt q)
 have hsz:s.heap.objs.size<=d.heap.objs.size:=g2.size
 have B:C.h₀.objs.size<=d.heap.objs.size:=Y.gd.size
 have Fc:=F4.comp u l ⟨υ,λq=>α _ rfl (Y.f4 _ (Y.bM _ q)),by exact ae hC (dE B)⟩ (λy hy e=>α _ e (am (k y hy) hsz))
 have I4:=S.frame _ _ _ _ _ _ _ (S.Xo _ _ _ _ _ I2 θ) γ W (λa ha q=>by exact aC q) cA.nil.a
 have φ:∀a∈fp,a < d.heap.objs.size:=λa ha=>by exact ah (S.W9 _ _ _ _ I2 a ha) λo e=>(bF e)
 have ι:σ.length=lay.length:=F.len
 have δ:K.objs.size≠d.heap.objs.size:=ae hC (zu _)
 have ξ:s.heap.objs.size<=K.objs.size:=ae hC (dE hsz)
 have U:∀a:Nat,a < d.heap.objs.size->a≠d.heap.objs.size/\a≠K.objs.size:=λa h=>by exact ae hC ⟨dW h,dW (jO h)⟩
 have ε:∀y∈tW env.cells c.names [],y∈env.cells:=λy hy=>b7 (qd c.names [] (u.cells F) nofun y hy)
 have X:AM C.md A (.compLoop (.ListComp (toPy (ib lay tg) w) [⟨zB tg v,nw lay M,nu (ib lay tg) cond,0⟩] c β) 0 (.ref I0) (.ref d.heap.objs.size) (compEnvC c (tW env.cells c.names []) K.objs.size env))
   (compPost C.md A E use Q (.ref d.heap.objs.size) K.objs.size) {d with heap:=f,toks:=d.toks+([]:List (Str×Value)).length}:=by
  refine HM (xY:=s) (tL:=own) (av:=av) u ι Δ ub he hc S rm ⟨B,λq=>ay _ (Y.f4 _ (Y.bM _ q)),hsz⟩ P.bM δ ξ
   (λy hy=>(U y.2 (am (k y (ε y hy)) hsz)).1) ζ (λa ha=>U a (φ a ha)) (λy hy q=>ay _ (am (k y (ε y hy)) (ζ _ q))) χ ?_ _ _
   ⟨m,[],j,H2,bk tg.length none,#[],0,I4,P4,Fc,by exact eG,?_,Rs.nil,by simpa using w2.1,w2.2,g2.trans g4⟩
  ·intro s' G H' τ ws n ω P' hD r g ψ κ
   exact hq s' G H' τ _ _ ω ⟨P',⟨ws,n,hD,r⟩,g,hsz,ξ,δ,ψ,κ⟩
  ·exact Z _ _ (bQ L (bg _ rfl))
 exact codeAny_compStart_list X (S.self _ _ _ _ _ _ I4 X)
theorem Ss.drop {Cl:Addr} (g:Ss C av s own s' c J l D Cl) (i:∀a,C.tb a->av a) (v:C.h₀.objs.size<=s.heap.objs.size) (d:∀a,av a->a < s.heap.objs.size) (hs:gG Cl s'.heap h):
  Hp C (λa=>av a\/a=D) {s' with heap:=h} c J/\(∃j n,h.get? D=some (listOf j n)/\Rs h (λa=>av a\/a=D) c l j.toList)/\c4 C av [] s own {s' with heap:=h} c:=by
 refine ah g.ns λm K=>?_
 have y:∀o,s'.heap.get? Cl=some o->zm o:=λo e=>by
  refine bj K λP M L f=>aA f λk u O=>?_
  replace k:=(e)▸k;cases k;exact zm.dict u
 have x:¬C.tb Cl:=λq=>ay _ (am (d _ (i _ q)) g.Ej)
 refine af (g.P.same (tk:=s'.toks) hs g.out (ar v g.Ej) x y) λB F=>?_
 have w:cA s'.heap [Cl]:=λb p o e=>by replace e:=(ai.mp p)▸e;exact y o e
 refine aG g.obj λj n f=>af f λI r=>?_
 have G:c4 C av [Cl] s' c {s' with heap:=h} c:=⟨⟨λb o e O p O=>(hs.2 b (λe=>p (ai.mpr e))).trans e,⟨[],by exact (bw _).symm,by exact nofun⟩,dN hs.1.symm⟩,rfl,λO O e=>e,λb=>b⟩
 exact ⟨B,⟨j,n,(hs.2 D (Ne.symm g.ne)).trans I,r.iv F (λa q=>.inl (i a q)) w⟩,g.g.new G λa z=>by exact ae (ai.mp z) g.Ej⟩
theorem c4.snoc {b:List Addr} (g:c4 C av c s own s' b) (h:s.heap.objs.size<=D/\¬av D):c4 C av c s own s' (b++[D]):=
 ⟨⟨g.keep,g.own.elim λd q=>⟨d++[D],by refine ae (q.1) (ae (cy _ _ _) rfl),λa e=>(bY.mp e).elim (q.2 a) (m1 (P:=λa=>s.heap.objs.size<=a/\¬av a) h a)⟩,g.size⟩,g.os,g.gens,g.bare⟩
theorem CT {b:Scope}{tg:List (Str×Pos)}{i:Pos}{cond:List MT}{f:ME}{j:MI} (X:gO sc lay (.comp o f j tg Y cond b i)=true)
  (S:∀(B:List V->Hs->Prop) (Q:Value->Shared->Prop) u,(rO u=true\/yn j=true)->DU T σ j H B->AJ C av A u s own B Q->wpAny C.md A (eval (nw lay j) env) (λx p=>wpAny C.md A (pyIter x) Q E p) E s)
  (M:SE C T N (ei b sc) (ib lay tg) f) (L:∀t∈cond,ST C T N (ei b sc) (ib lay tg) t)
  (e:fD A N) (F:Fm C av s own env sc lay σ) (P:Hp C.z av s own H) (W:g8 T σ (.comp o f j tg Y cond b i) H B) (G:f9 C av s own B Q):
  wpAny C.md A (eval (toPy lay (.comp o f j tg Y cond b i)) env) Q E s:=by
 have K:eval (toPy lay (.comp o f j tg Y cond b i)) env=comprehension (toPy lay (.comp o f j tg Y cond b i)) b env (firstIterPos [⟨zB tg Y,nw lay j,nu (ib lay tg) cond,0⟩] i) (newList []) false (eval (nw lay j) env) none:=by
  exact (eval_ListComp ..).trans rfl
 refine ae K ?_
 refine DA (use:=none) X S M L e F P W λs' k w J D Cl I c=>?_
 refine ah c.ns λm U=>?_
 refine ⟨m,U,λh' hs=>?_⟩
 refine aA (c.drop P.bM P.gd.size P.f4 hs) λv y g=>aG y λZ n z=>af z λd r=>?_
 have l:¬av D:=λq=>ay _ (am (P.f4 _ q) c.newD)
 cases o with
 | false=>
  exact G (.lst J) _ _ k w I ⟨D,Z,n,rfl,l,λq=>(v.lo D q).2 (.inr rfl),d,r.oE λa q=>.inl (.inl q)⟩ (v.zO (λO h=>.inl h) P.bM) g
 | true=>
  exact G (.ref w.length) _ _ (k++[D]) (w++[J]) I ⟨D,rfl,v.len▸gI⟩ (v.nV P.bM l (ar P.gd.size c.newD) d r)
   (g.snoc ⟨c.newD,l⟩)
theorem M6 {a:Scope}{tg:List (Str×Pos)}{j:Pos}{cond:List MT}{c:ME}{e:MI}
  (p:SI C T N sc lay e) (d:SE C T N (ei a sc) (ib lay tg) c) (n:∀t∈cond,ST C T N (ei a sc) (ib lay tg) t):SE C T N sc lay (.comp o c e tg Y cond a j):=by
 intro l A s av own H σ env b Q E m F P g f
 have i:Lu sc lay e=true:=(DG l).1.1.1.1.1
 exact CT l (λb Q k q g f=>p i A s av own H σ env b Q E k (q.imp id λh=>by cases e<;>first | rfl | exact h) m F P g f) d n m F P.z g f
end
structure B8 (C:Cx) (A:Around) (it:Addr) (X:List Addr) (base gk:Nat) (I:(Addr->Prop)->List V->Shared->List Addr->Prop):Prop where
 step:∀av x xs s own H (Q:Option Value->Shared->Prop) (E:Value->Shared->Prop),I av (x::xs) s own->Hp C av s own H->
  (∀rv s' ia,(∀a∈ia,base<=a)->cA s.heap ia->R s'.heap av own x rv->I av xs s' own->Hp C av s' own H->zc C av ia gk s own s' own->Q (some rv) s')->wpAny C.md A (pyNext (.ref it)) Q E s
 done:∀av s own H (Q:Option Value->Shared->Prop) (E:Value->Shared->Prop),I av [] s own->Hp C av s own H->
  (∀s' ia,(∀a∈ia,base<=a)->cA s.heap ia->Hp C av s' own H->zc C av ia gk s own s' own->Q none s')->wpAny C.md A (pyNext (.ref it)) Q E s
 cls:∀av xs s own,I av xs s own->∃o,s.heap.get? it=some o/\o.cls=.type "generator"
 frame:∀av xs s own s' f7,I av xs s own->c4 C av X s own s' f7->I av xs s' f7
def Gr (C:Cx) (N:Nat) (f:Value) (i:List V) (l:List V):Prop:=
 ∀A s c b H d X (Q E:Value->Shared->Prop),fD A N->Hp C c s b H->Rs s.heap c b i d->(∀a∈X,a < s.heap.objs.size)->
  (∀h g I,B8 C A h X s.heap.objs.size s.gens.size I->I c l g b->Hp C c g b H->c4 C c [] s b g b->Q (.ref h) g)->
  wpAny C.md A (call f d) (λx e=>wpAny C.md A (pyIter x) Q E e) E s
structure t0 (C:Cx) (T:Tb) (N:Nat):Prop where
 Rq:C.mg "range"=none
 Nx:C.mg "enumerate"=none
 Rp:C.mg "reversed"=none
 gen:∀x,T.FQ x=true->∃a o fd,C.mg x=some (.ref a)/\C.h₀.get? a=some o/\o.data=.func fd/\∀vs l,T.gen x vs=some l->Gr C N (.ref a) vs l
section
variable {C:Cx}{T:Tb}{N:Nat}
theorem QI {sc:Scope}{H args z pos}:SI C T N sc i (.gen H args z pos):=by
 intro b
 exact dk b
theorem KC {sc:Scope} (tb:fT C T N) (tg:t0 C T N) {x' args p' pos} (he:HT C T N sc i args) (g:iI sc x'=true) (ub:jR sc i args=true) {B:Sg}{f:Env}{h:List V->Hs->Prop}{E:Value->Shared->Prop}{X:List Addr}
  (L:fD A N) (F:Fm C d s c f sc i B) (P:Hp C d s c J) (w:DU T B (.gen x' args p' pos) J h) (hX:∀a∈X,a < s.heap.objs.size)
  (hp:∀r b u e D H K I,h b D->B8 C A r X H K I->I d b u e->Hp C d u e D->c4 C d [] s c u e->s.heap.objs.size<=H->s.gens.size<=K->Q (.ref r) u):
  wpAny C.md A (eval (nw i (.gen x' args p' pos)) f) (λx' n=>wpAny C.md A (pyIter x') Q E n) E s:=by
 unfold iI at g
 replace g:=dG g
 refine af w λv w=>?_
 refine bj (tg.gen x' v) λa o fd z=>cu z λW Y Z sp=>?_
 show wpAny _ _ (eval (.Call (.Name x' p') (iz i args) [] pos) f) _ _ _
 refine ae (gS _ _ _ _ _ _) ?_
 refine wpAny_bind (oM (ae F.scope F.kind) (by unfold mP;exact ae F.scope (eq_of_beq g.2)) (AR (mg:=C.mg) (by refine ae F.glob ?_;exact tb.cx.g.keeps P.gd.base) W ?_) ((gb _).mp g.1))
 refine sj (o:=o) (fd:=fd) (iA (iY ..) (he ub A s d c J B f _ _ _ pos L F P w λM y s1 j G l1 m r1 k q=>⟨⟨k.gd.base _ _ Y,Z⟩,?_⟩))
 cases hl:T.gen x' M with
 | none=>replace m:=(hl)▸m;exact m.elim
 | some l=>
  replace m:=(hl)▸m
  exact sp M l hl A s1 d j G y X Q E L k r1 (λa ha=>am (hX a ha) q.size) λr s2 I S hI U g2=>hp r l s2 j G _ _ I m S hI U (q.trans g2) q.size q.Uz
mutual
theorem eb (c:fT C T N) (tg:t0 C T N):∀(e:ME) (sc:Scope) (a:List Str),SE C T N sc a e
 | .cst _ _ _,sc,a=>QV c
 | .var _ _,sc,a=>QK
 | .KA _ _,sc,a=>QU c
 | .bin _ l r _,sc,a=>QY c (eb c tg l sc a) (eb c tg r sc a)
 | .rep _ e n _ _,sc,a=>QQ (eb c tg e sc a) (eb c tg n sc a)
 | .wZ _ e _,sc,a=>QM c (eb c tg e sc a)
 | .cmp _ l r _,sc,a=>QW c (eb c tg l sc a) (eb c tg r sc a)
 | .FO t b o _,sc,a=>QT (nz c tg t sc a) (eb c tg b sc a) (eb c tg o sc a)
 | .call _ d _ _,sc,a=>M7 c (kG c tg d sc a)
 | .blt _ d _ _,sc,a=>QX c (kG c tg d sc a)
 | .cv _ d _ _,sc,a=>TD c (kG c tg d sc a)
 | .oe o _ d _ _,sc,a=>QR c (eb c tg o sc a) (kG c tg d sc a)
 | .sub o i _,sc,a=>QO c (eb c tg o sc a) (eb c tg i sc a)
 | .Bg o lo j st _ _,sc,a=>QP c (eb c tg o sc a) (eb c tg lo sc a) (Jb c tg j sc a) (Jb c tg st sc a)
 | .lst _ g _,sc,a=>QS (kG c tg g sc a)
 | .tup g _ _,sc,a=>QN (kG c tg g sc a)
 | .comp _ f m p _ cond h _,sc,a=>M6 (vW c tg m sc a) (eb c tg f _ _) (λt k=>xt c tg cond _ _ t k)
theorem Jb (b:fT C T N) (tg:t0 C T N):∀(e:Option ME) (sc:Scope) (a:List Str),SO C T N sc a e
 | none,sc,a=>M0
 | some e,sc,a=>MZ (eb b tg e sc a)
theorem kG (b:fT C T N) (tg:t0 C T N):∀(c:List ME) (sc:Scope) (a:List Str),HT C T N sc a c
 | [],sc,a=>M4
 | e::r,sc,a=>Je (eb b tg e sc a) (kG b tg r sc a)
theorem nz (b:fT C T N) (tg:t0 C T N):∀(t:MT) (sc:Scope) (a:List Str),ST C T N sc a t
 | .val e,sc,a=>Qu b (eb b tg e sc a)
 | .not t _,sc,a=>Qv (nz b tg t sc a)
 | .Gk _ c _,sc,a=>Qx (Fk b tg c sc a)
 | .cmp _ l r _,sc,a=>Qw b (eb b tg l sc a) (eb b tg r sc a)
theorem xt (b:fT C T N) (tg:t0 C T N):∀(c:List MT) (sc:Scope) (a:List Str),∀t∈c,ST C T N sc a t
 | [],sc,a,t,h=>nomatch h
 | x::r,sc,a,t,h=>by
  rcases aX.mp h with e | h
  ·exact ae e (nz b tg x sc a)
  ·exact xt b tg r sc a t h
theorem Fk (b:fT C T N) (tg:t0 C T N):∀(c:List MT) (sc:Scope) (a:List Str),Ve C T N sc a c
 | [],sc,a=>MP
 | x::r,sc,a=>IZ (nz b tg x sc a) (Fk b tg r sc a)
theorem vW (b:fT C T N) (tg:t0 C T N):∀(i:MI) (sc:Scope) (a:List Str),SI C T N sc a i
 | .of e,sc,a=>TC (eb b tg e sc a)
 | .zE e _ _,sc,a=>QG b tg.Rq (eb b tg e sc a)
 | .BV e _ _,sc,a=>QJ b tg.Nx (eb b tg e sc a)
 | .rev e _ _,sc,a=>QH b tg.Rp (eb b tg e sc a)
 | .gen _ _ _ _,sc,a=>QI
end
end
noncomputable def g9 (sc:Scope) (a:Nat):List Expr->List Str
 | []=>[]
 | .Name id b::r=>if (sc.names.lookup id==some .local && b.line==a)=true then id::g9 sc a r else g9 sc a r
 | _::r=>g9 sc a r
section
set_option autoImplicit true
theorem OS (sc:Scope) (a:Nat):g9 sc a []=([]):=rfl
theorem qY (sc:Scope) (a:Nat):g9 sc a (.Name YD pos::r')=(if (sc.names.lookup YD==some .local && pos.line==a)=true then YD::g9 sc a r' else g9 sc a r'):=rfl
end
noncomputable def isStar:Expr->Bool
 | .Starred .. =>true
 | _=>false
noncomputable def Tu (sc:Scope) (b c:List Expr):Option (List Str):=
 if (!(b.length==2 || b.length==3) || c.length !=b.length)=true then none
 else if (c.any isStar)=true then none
 else
  let a:=g9 sc ((b.head?.map (·.pos.line)).getD 0) b
  if (a.length !=b.length || a.eraseDups.length !=a.length)=true then none
  else if (c.all (Ip 8))=true then none else some a
noncomputable def IW (a:List Expr):Bool:=a.all (Ip 8) || !a.all (constantsAlone 8)
theorem tw {sc:Scope}{b:Env} (hs:b.scope=sc) (a:Nat):∀f:List Expr,(f.filterMap λe=>match e with
  | .Name id c=>if (b.kindOf id==some .local && c.line==a)=true then some id else none
  | _=>none)=g9 sc a f
 | []=>rfl
 | e::r=>by
  have d:=tw hs a r
  refine ae fK ?_
  cases e with
  | Name id c=>
   have:b.kindOf id=sc.names.lookup id:=by unfold mP;refine ae hs rfl
   dsimp only
   refine ae this (ae (qY _ _) ?_)
   by_cases h:(sc.names.lookup id==some .local && c.line==a)=true
   ·refine ae (if_pos h) (ae (if_pos h) ?_);dsimp only;refine ae d rfl
   ·refine ae (if_neg h) (ae (if_neg h) ?_);dsimp only;refine ae d rfl
  | _=>exact d
theorem zC {sc:Scope}{env:Env}{ts b:List Expr}{k k':Nat}{p p':Pos} (hs:env.scope=sc) (l:sc.kind=.function) (f:IW b=true):
  Im [.Tuple ts k p] (.Tuple b k' p') env=pure (Tu sc ts b):=by
 have i:env.blockKind=.function:=by unfold Env.blockKind;refine ae hs (ae l ?_);rfl
 have n:(b.any λe=>match e with | .Starred .. =>true | _=>false)=b.any isStar:=by
  congr 1
 unfold Im Tu
 dsimp only
 refine ae i ?_
 by_cases d:(!(ts.length==2 || ts.length==3) || b.length !=ts.length)=true
 ·refine ae (if_pos d) (ae (if_pos (by rw [d];rfl)) rfl)
 ·refine ae (if_neg d) (ae (if_neg (by rw [zl] at d;rw [d];decide)) ?_)
  show (if _ then _ else _:Sem _)=_
  by_cases g:(b.any isStar)=true
  ·refine ae (if_pos g) (ae (if_pos g) rfl)
  ·rw [if_neg g,if_neg (by exact g)]
   have e:=tw hs ((ts.head?.map (·.pos.line)).getD 0) ts
   generalize j:Cc (α:=Expr) (β:=Str) _ ts=a
   have m:a=g9 sc ((ts.head?.map (·.pos.line)).getD 0) ts:=j.symm.trans e
   refine bQ m ?_
   by_cases h:(a.length !=ts.length || a.eraseDups.length !=a.length)=true
   ·refine ae (if_pos h) (ae (if_pos h) rfl)
   ·refine ae (if_neg h) (ae (if_neg h) ?_)
    show (if _ then _ else _:Sem _)=_
    by_cases c:(b.all (Ip 8))=true
    ·refine ae (if_pos c) (ae (if_pos c) rfl)
    ·refine ae (if_neg c) (ae (if_neg c) ?_)
     unfold IW at f
     replace c:=(zl _)▸c
     replace f:=(Bool.false_or _)▸(c)▸f
     refine ae (if_neg (by intro q;rw [q] at f;exact dk f)) rfl
theorem z7:∀(r:List (Nat×Pos)) (a:List V) (b:Sg) (y:Nat) (v:Option V),y∉r.map (·.1)->(iO r a b).set y v=iO r a (b.set y v)
 | [],a,b,y,v,_=>by cases a<;>rfl
 | z::r,[],b,y,v,_=>rfl
 | _::r,_::a,_,y,v,h=>(z7 r a _ y v (λq=>h (aP _ q))).trans (congrArg (iO r a) (List.set_comm _ _ λe=>h (e▸aB ..)))
theorem uA:∀(e b:List (Nat×Pos)) (a c:List V) (d:Sg),a.length=e.length->iO (e++b) (a++c) d=iO b c (iO e a d)
 | [],b,a,c,d,h=>by cases a with | nil=>rfl | cons _ _=>exact nomatch h
 | y::r,b,a,c,d,h=>by cases a with | nil=>cases h | cons v a=>exact uA r b a c _ (fE h)
theorem Aa:∀(c:List (Nat×Pos)) (a:List V) (b:Sg),(c.map (·.1)).Nodup->a.length=c.length->iO c.reverse a.reverse b=iO c a b
 | [],a,b,_,h=>by cases a with | nil=>rfl | cons _ _=>exact nomatch h
 | y::r,a,b,d,h=>by
  cases a with
  | nil=>exact nomatch h
  | cons v a=>
   have d:=h9.mp d
   exact ae ij (ae ij (ae (uA _ _ _ _ _ (by rw [dR,dR];exact fE h)) (ae (Aa r a b d.2 (fE h)) (z7 r a b y.1 _ d.1))))
theorem Rs.reverse {h:Heap}{b:Addr->Prop}{a:List Addr}:∀{c:List V}{d:List Value},Rs h b a c d->Rs h b a c.reverse d.reverse
 | [],_,e=>(show _=[] from e)▸Rs.nil
 | _::_,_,e=>e.elim λO e=>e.elim λO e=>by exact ae (e.1) (ae ij (ae ij ((Rs.reverse e.2.2).append (Rs.one e.2.1))))
theorem Rs.set {h:Heap}{b:Addr->Prop}{a:List Addr}:∀{c:List V}{ws:List Value}{k:Nat}{v:V}{w:Value},Rs h b a c ws->R h b a v w->Rs h b a (c.set k v) (ws.set k w)
 | [],_,_,_,_,e,_=>(show _=[] from e)▸Rs.nil
 | _::_,_,0,_,_,e,r=>e.elim λO e=>e.elim λO e=>e.1▸Rs.cons r e.2.2
 | _::_,_,_+1,_,_,e,r=>e.elim λO e=>e.elim λO e=>e.1▸Rs.cons e.2.1 (Rs.set e.2.2 r)
theorem ut (sc:Scope) (a:Nat):∀c:List Expr,(g9 sc a c).length<=c.length
 | []=>aD _
 | e::r=>by
  have b:=ut sc a r
  cases e with
  | Name id d=>
   refine ae (qY _ _) ?_
   split
   ·exact zv b
   ·exact dE b
  | _=>exact dE b
theorem uu {sc:Scope}{a:Nat}{b:List Str}:∀(c:List (Nat×Pos)),(g9 sc a (c.map λy=>.Name (nm b y.1) y.2)).length=c.length->
  g9 sc a (c.map λy=>.Name (nm b y.1) y.2)=c.map λy=>nm b y.1
 | [],_=>rfl
 | y::r,h=>by
  rw [bG,qY] at h ⊢
  split at h
  ·rename_i d
   refine ae (if_pos d) (ae bG (ae (uu r (fE h)) rfl))
  ·have:=ut sc a (r.map λy=>.Name (nm b y.1) y.2)
   replace this:=(bv _)▸this
   replace h:=(c9)▸h
   exact cw (au eZ 21 [_,_] [] h this)
theorem IV {sc:Scope}{c:List (Nat×Pos)}{e:List Expr}{b:List Str} (h:Tu sc (c.map λy=>.Name (nm i y.1) y.2) e=some b):b=c.map λy=>nm i y.1:=by
 unfold Tu at h
 dsimp only at h
 repeat' split at h
 all_goals first | cases h | skip
 rename_i f g d a
 replace d:=(propext not_or)▸(dz _ _)▸d
 have:(g9 sc (((c.map λy=>ze (nm i y.1) y.2).head?.map (·.pos.line)).getD 0) (c.map λy=>.Name (nm i y.1) y.2)).length=(c.map λy=>ze (nm i y.1) y.2).length:=by simpa using d.1
 replace this:=(bv _)▸this
 exact uu c this
section
variable {C:Cx}{T:Tb}{N:Nat}{sc:Scope}{lay:List Str}{av:Addr->Prop}{s s':Shared}{own:List Addr}{H:Hs}{σ:Sg}{env:Env}{A:Around}{E:Value->Shared->Prop}
theorem y0 {M:Model}{ex:List Addr} (m:env.locals∈ex) (d:∀a∈ex,a∈env.locals::env.cells.map (·.2)):∀{b:List (Nat×Pos)}{vs:List V}{g:List Value}{σ:Sg}{s:Shared}{Q:Unit->Shared->Prop},
  Fm C av s own env sc lay σ->Hp C av s own H->b.all (λy=>fJ sc lay y.1)=true->(∀z∈b,sc.names.lookup (nm lay z.1)=some .cell->∀c,env.cells.lookup (nm lay z.1)=some c->c∈ex)->vs.length=b.length->Rs s.heap av own vs g->
  (∀s',Fm C av s' own env sc lay (iO b vs σ)->Hp C av s' own H->c4 C av ex s own s' own->Q () s')->
  wpAny M A (assignInOrder ((b.map λy=>nm lay y.1).map λn=>bindName env n) g) Q E s
 | [],vs,g,σ,s,Q,F,P,e,i,f,r,h=>by
  cases vs with
  | nil=>exact wpAny_pure (h s F P c4.refl)
  | cons v vs=>exact nomatch f
 | y::b,vs,g,σ,s,Q,F,P,e,i,f,r,h=>by
  cases vs with
  | nil=>exact nomatch f
  | cons v vs=>
  refine aG r λw K j=>aA j λk G I=>?_;subst k
  replace e:=dG e
  exact Il (wpAny_bindName (F.store P m (i y (aB ..)) e.1 G λL o q l=>(y0 m d o q e.2 (λz D=>i z (aP _ D)) (fE f) (I.grow l P.bM λa B=>F.jA a (d a B)) λJ p u x=>h J p u (l.trans x))))
noncomputable def ic (env:Env):List Addr:=env.locals::(env.cells.filter λy=>env.scope.names.lookup y.1==some .cell).map (·.2)
theorem rR (h:D∈ic env):D∈env.locals::env.cells.map (·.2):=by
 rcases aX.mp h with rfl | h
 ·exact aB
 ·refine ah (cH.mp h) λy b=>af b λhy c=>?_;subst c
  exact aP _ (b9 (f:=(·.2)) (eQ.mp hy).1)
theorem Fm.jN (F:Fm C av s own env sc lay σ) (a:sc.names.lookup x=some .cell) (b:env.cells.lookup x=some D):D∈ic env:=by
 refine aP _ (cH.mpr ⟨(x,D),eQ.mpr ⟨b7 b,?_⟩,rfl⟩)
 exact ae F.scope (beq_iff_eq.mpr a)
def Vh (h:Heap) (av:Addr->Prop) (own:List Addr):Fl->Flow->Prop
 | none,f=>f=.next
 | some v,f=>∃a,f=.ret a/\R h av own v a
def wL (C:Cx) (av:Addr->Prop) (s:Shared) (own:List Addr) (env:Env) (sc:Scope) (lay:List Str) (b:Fl->Sg->Hs->Prop) (Q:Flow->Shared->Prop):Prop:=
 ∀e f c s' a d,b e c d->Vh s'.heap av a e f->Fm C av s' a env sc lay c->Hp C av s' a d->c4 C av (ic env) s own s' a->Q f s'
noncomputable def BJ:ME->Bool
 | .comp .. =>true
 | _=>false
noncomputable def Eh:List Nat->Bool
 | []=>true
 | x::r=>r.all (·!=x) && Eh r
theorem yp:∀{l:List Nat},Eh l=true->l.Nodup
 | [],_=>ef
 | x::r,h=>by
  refine h9.mpr ⟨λq=>?_,yp (dG h).2⟩
  have:=aS.mp (dG h).1 x q
  simp at this
noncomputable def Xi (sc:Scope) (lay:List Str):MI->Bool
 | .gen x a _ _=>iI sc x && jR sc lay a
 | it=>Lu sc lay it
noncomputable def Tk (lay:List Str):ME->Bool
 | .tup a _ _=>IW (iz lay a)
 | _=>true
mutual
noncomputable def yT (sc:Scope) (lay:List Str):MS->Bool
 | .asg i e _ _=>fJ sc lay i && gO sc lay e
 | .o7 a e _ _ _=>a.all (λy=>fJ sc lay y.1) && Eh (a.map (·.1)) && Tk lay e && gO sc lay e
 | .zD o i e _ _=>gO sc lay o && gO sc lay i && gO sc lay e
 | .aug i _ e _ _=>fJ sc lay i && o5 sc lay i && gO sc lay e
 | .ex e _=>!BJ e && gO sc lay e
 | .ret e _=>gO sc lay e
 | .C2 _=>true
 | .iff t b o _=>xb sc lay t && mK sc lay b && mK sc lay o
 | .OM t b _=>xb sc lay t && mK sc lay b
 | .mv tg _ c b _=>Xi sc lay c && tg.all (λy=>fJ sc lay y.1) && F8 c tg.length && mK sc lay b
noncomputable def mK (sc:Scope) (lay:List Str):List MS->Bool
 | []=>true
 | s::r=>yT sc lay s && mK sc lay r
end
def SS (C:Cx) (T:Tb) (N:Nat) (sc:Scope) (lay:List Str) (b:MS):Prop:=
 yT sc lay b=true->∀A s av own H σ env a (Q:Flow->Shared->Prop) (E:Value->Shared->Prop),fD A N->Fm C av s own env sc lay σ->Hp C av s own H->wpS T b σ H a->wL C av s own env sc lay a Q->
  wpAny C.md A (exec (toS lay b) env) Q E s
def OA (C:Cx) (T:Tb) (N:Nat) (sc:Scope) (lay:List Str) (b:List MS):Prop:=
 mK sc lay b=true->∀A s av own H σ env a (Q:Flow->Shared->Prop) (E:Value->Shared->Prop),fD A N->Fm C av s own env sc lay σ->Hp C av s own H->de T b σ H a->wL C av s own env sc lay a Q->
  wpAny C.md A (execs (lM lay b) env) Q E s
theorem MU:OA C T N sc lay []:=by
 intro d A s av own H σ env a Q E e F P c b
 exact wpAny_pure (b none .next σ s own H c rfl F P c4.refl)
theorem I8 {st M} (D:SS C T N sc lay st) (G:OA C T N sc lay M):OA C T N sc lay (st::M):=by
 intro g A s av own H σ env n Q E q F P I p
 replace g:=dG g
 show wpAny _ _ (execs (toS lay st::lM lay M) env) Q E s
 refine ae (iK _ _ _) ?_
 refine wpAny_bind (D g.1 A s av own H σ env _ _ _ q F P I λh f c u a l w e k m o=>?_)
 cases h with
 | none=>
  exact ae (show f=.next from e) (G g.2 A u av a l c env _ _ _ q k m w λh f d K b y L e x z B=>p h f d K b y L e x z (o.trans B))
 | some v=>
  refine ah e λJ i=>af i λj M=>?_;subst j
  exact wpAny_pure (p (some v) _ c u a l w ⟨J,rfl,M⟩ k m o)
theorem Qz {z pos} (g:SE C T N sc lay z):SS C T N sc lay (.ret z pos):=by
 intro j A s av own H σ env b Q E l F P i h
 exact Vl (g j A s av own H σ env _ _ _ l F P i λv m n a d o k f c=>h (some v) _ σ n a d o ⟨m,rfl,k⟩ (F.grow c P.bM) f c.wide)
theorem MW {pos}:SS C T N sc lay (.C2 pos):=by
 intro d A s av own H σ env a Q E e F P c b
 exact wpAny_Return_none (b (some .none) _ σ s own H c ⟨.none,rfl,rfl⟩ F P c4.refl)
theorem vU {e:ME} (h:BJ e=false) (b:Option Expr) (a:Nat) (env:Env):V0 (toPy lay e) b a env=pure false:=by
 cases e<;>first | rfl | exact dS h
theorem TA {z pos} (h:SE C T N sc lay z):SS C T N sc lay (.ex z pos):=by
 intro b A s av own H σ env c Q E k F P j i
 replace b:=dG b
 refine Y4 (h b.2 A s av own H σ env _ _ _ k F P j λv o l a f m n g d=>i none _ σ l a f m rfl (F.grow d P.bM) g d.wide) ?_ (vU ((gb _).mp b.1) _ _ _)
 unfold wR
 refine ae F.scope (ae F.kind ?_);rfl
theorem QA {t M o' pos} (D:ST C T N sc lay t) (y:OA C T N sc lay M) (ho:OA C T N sc lay o'):SS C T N sc lay (.iff t M o' pos):=by
 intro h A s av own H σ env d Q E k F P G B
 replace h:=wK h
 refine wpAny_If (D h.1.1 A s av own H σ env _ _ _ k F P G λc l a n r p j=>?_)
 have e:wL C av l a env sc lay d Q:=λx f m s' i v q z u w g=>B x f m s' i v q z u w (j.wide.trans g)
 cases c with
 | true=>exact y h.1.2 A l av a n σ env _ _ _ k (F.grow j P.bM) p (r.1 rfl) e
 | false=>exact ho h.2 A l av a n σ env _ _ _ k (F.grow j P.bM) p (r.2 rfl) e
theorem QB (M:fT C T N) {i' op e' nN pos} (y:SE C T N sc lay e'):SS C T N sc lay (.aug i' op e' nN pos):=by
 intro h A s av own H σ env l Q E n F P d z
 replace h:=wK h
 replace d:=(qF)▸d
 cases g:σ.getD i' none with
 | none=>replace d:=(g)▸d;exact d.elim
 | some a=>
  replace d:=(g)▸d
  refine wpAny_AugAssign_Name (F.Pe h.1.2 g λI B=>y h.2 A s av own H σ env _ _ _ n F P d λb J K f k S D q j=>?_)
  refine M.Pi _ _ _ _ S A K av f k I J _ _ n q (B.grow j P.bM cA.nil) D λv U W g G r m=>?_
  have o:=F.grow (j.trans m) P.bM
  exact o.store r (ex:=ic env) (aB ..) (λw c x=>F.jN w x) h.1.1 G λL p P3 u=>z none .next _ L f k g rfl p P3 ((j.trans m).wide.trans u)
theorem Jd {H:Hs}{a i:V}{Q:Hs->Prop} (h:CS H a i v Q):∃n k l,a=.ref n/\i=.int k/\H[n]? =some l/\0<=k/\k < l.length/\l.length < 2^60/\Q (H.set n (l.set k.toNat v)):=by
 cases a with
 | ref n=>
  cases i with
  | int k=>
   cases hl:H[n]? with
   | none=>
    replace h:(match H[n]? with | some l=>0<=k/\k < l.length/\l.length < 2^60/\Q (H.set n (l.set k.toNat v)) | none=>False):=h
    replace h:=(hl)▸h;exact h.elim
   | some l=>
    replace h:(match H[n]? with | some l=>0<=k/\k < l.length/\l.length < 2^60/\Q (H.set n (l.set k.toNat v)) | none=>False):=h
    replace h:=(hl)▸h;exact ⟨n,k,l,rfl,rfl,hl,h⟩
  | _=>exact cw h
 | _=>exact cw h
theorem MV {o' i' e' sE pos} (ho:SE C T N sc lay o') (hi:SE C T N sc lay i') (Z:SE C T N sc lay e'):SS C T N sc lay (.zD o' i' e' sE pos):=by
 intro h A s av own H σ env B Q E w F P hw hp
 replace h:=wK h
 refine wpAny_Assign_Subscript (Z h.2 A s av own H σ env _ _ _ w F P hw λv p s1 j J w1 r1 L q=>?_) (by cases e'<;>rfl)
 refine ho h.1.1 A s1 av j J σ env _ _ _ w (F.grow q P.bM) L w1 λa ra s2 m K w2 r2 M r=>?_
 refine hi h.1.2 A s2 av m K σ env _ _ _ w (F.grow (q.trans r) P.bM) M w2 λk rk g c H3 y r3 P3 u=>?_
 obtain ⟨n,k,l,rfl,rfl,hl,X,G,Y,y⟩:=Jd y
 obtain ⟨ad,rfl,f⟩:=r2.grow u P.bM cA.nil
 obtain ⟨t,rfl⟩:=r3
 obtain ⟨z,kk,d,I⟩:=P3.lst n ad l f hl
 have hsz:(z.size:Int)=l.length:=congrArg Int.ofNat I.size
 refine ki_setAt d X (GL (GL G (oN.mpr Y)) (by decide)) (hsz▸G) ?_
 have x:Rs g.heap av c (l.set k.toNat v) (z.setIfInBounds k.toNat p).toList:=by
  exact ae Array.toList_setIfInBounds (Rs.set I (r1.grow (r.trans u) P.bM cA.nil))
 obtain ⟨S,U⟩:=P3.set (tk:=g.toks) f (qU g.heap ad (pg (·.setIfInBounds k.toNat p))) (ws:=z.setIfInBounds k.toNat p) (k:=kk) (by
  refine ae (sJ _ d rfl) ?_
  simp [pg,W.listOf]) x
 have D:=((q.trans r).trans u).trans (⟨U,rfl,λO O e'=>e',λb=>b⟩:c4 C av [] g c {g with heap:=g.heap.update ad (pg (·.setIfInBounds k.toNat p))} c)
 exact hp none .next σ _ c _ y rfl (F.grow D P.bM) S D.wide
end
section
variable {C:Cx}{T:Tb}{N:Nat}{sc:Scope}{lay:List Str}{av:Addr->Prop}{s s':Shared}{own:List Addr}{H:Hs}{σ:Sg}{env:Env}{A:Around}{E:Value->Shared->Prop}
theorem Fm.Dr (F:Fm C av s own env sc lay σ) (h:D∈ic env):D < s.heap.objs.size:=by
 rcases aX.mp h with rfl | h
 ·exact ah F.ns λm b=>af b λc O=>bj c λo O O d=>af d λe O=>(bF e)
 ·refine ah (cH.mp h) λy b=>af b λhy f=>?_;subst f
  exact bh (F.qg y (eQ.mp hy).1) λO O O O b=>aG b λg o c=>af c λe O=>(bF e)
theorem Fm.DD (F:Fm C av s own env sc lay σ) {y:Str×Addr} (hy:y∈env.cells):y.2 < s.heap.objs.size:=by
 exact bh (F.qg y hy) λO O O O a=>aG a λc o b=>af b λe O=>(bF e)
theorem Fm.KZ (F:Fm C av s own env sc lay σ):cA s.heap (ic env):=λa h=>F.jA a (rR h)
theorem EL {n:Shared}{f:List Addr}{Cl:Addr}{m:Str->Option Value} (B:Fm C av s f env sc lay σ) {l:Sg} (G:Fm C av n c env sc lay l) (F:Hp C av n c J) (g:c4 C av (ic env) s f n c)
  (S:n.heap.Ns Cl m) (d:s.heap.objs.size<=Cl) (v:C.h₀.objs.size<=Cl) (k:Cl∉c) (x:¬C.tb Cl) (hs:gG Cl n.heap h):
  Fm C av {n with heap:=h} c env sc lay l/\Hp C av {n with heap:=h} c J/\c4 C av (ic env) s f {n with heap:=h} c:=by
 have j:∀o,n.heap.get? Cl=some o->zm o:=λo e=>by
  refine bj S λX W U z=>aA z λp r O=>?_
  replace p:=(e)▸p;cases p;exact zm.dict r
 refine af (F.same (tk:=n.toks) hs k v x j) λI M=>?_
 have w:cA n.heap [Cl]:=λb Q o e=>by replace e:=(ai.mp Q)▸e;exact j o e
 have u:∀a∈ic env,a≠Cl:=λa P e=>ay _ (am (B.Dr P) (e▸d))
 refine ⟨Fm.vk G M F.bM (λe=>u _ (aB ..) (ai.mp e)) (λy hy q=>ay _ (am (B.DD hy) (ai.mp q▸d))) w,I,?_⟩
 refine ⟨⟨λb o e D K L=>(hs.2 b (λq=>lu d (q▸e))).trans (g.keep b o e D K L),g.own,by show _<=h.objs.size;exact ae (hs.1) g.size⟩,g.os,g.gens,g.bare⟩
theorem Fg (f:fT C T N) (tg:t0 C T N) {i' nN pos}{g:ME}{u:MI}{j:List (Str×Pos)}{e:Pos}{cond:List MT}{d:Scope}{Q:Flow->Shared->Prop}
  (I:yT sc lay (.asg i' (.comp o g u j Y cond d e) nN pos)=true)
  (hi:∀(k:List V->Hs->Prop) (Q:Value->Shared->Prop) S,(rO S=true\/yn u=true)->DU T σ u H k->AJ C av A S s own k Q->wpAny C.md A (eval (nw lay u) env) (λx p=>wpAny C.md A (pyIter x) Q E p) E s)
  (rm:fD A N) (F:Fm C av s own env sc lay σ) (P:Hp C.z av s own H) (X:wpS T (.asg i' (.comp o g u j Y cond d e) nN pos) σ H k) (hp:wL C av s own env sc lay k Q):
  wpAny C.md A (exec (toS lay (.asg i' (.comp o g u j Y cond d e) nN pos)) env) Q E s:=by
 replace I:=dG I
 replace X:=(bU)▸X
 show wpAny _ _ (exec (.Assign [.Name (nm lay i') nN] (toPy lay (.comp o g u j Y cond d e)) pos) env) Q E s
 have B:V0 (toPy lay (.comp o g u j Y cond d e)) (some (.Name (nm lay i') nN)) pos.line env=pure false->wpAny C.md A (exec (.Assign [.Name (nm lay i') nN] (toPy lay (.comp o g u j Y cond d e)) pos) env) Q E s:=λhs=>by
  refine sh (CT I.2 hi (eb f tg g _ _) (λt ht=>xt f tg cond _ _ t ht) rm F P X λv rv s1 M H1 w1 r1 P1 g1=>?_) hs
  have F1:=F.grow g1 P.bM
  exact F1.store P1 (ex:=ic env) (aB ..) (λh1 c h2=>F.jN h1 h2) I.1 r1 λs3 Z P3 W=>hp none .next _ s3 M H1 w1 rfl Z P3 (g1.wide.trans W)
 have γ:∃b,V0 (toPy lay (.comp o g u j Y cond d e)) (some (.Name (nm lay i') nN)) pos.line env=pure b:=by
  exact ⟨_,rfl⟩
 refine ah γ λb hb=>?_
 cases b with
 | false=>exact B hb
 | true=>
  refine ae (exec_Assign_Name_used _ _ _ _ hb) ?_
  refine wpAny_bind (er (wpAny_bind ?_))
  have e0:evalThenUse (toPy lay (.comp o g u j Y cond d e)) env (assign (.Name (nm lay i') nN) env)=(do
    let _ <- comprehension (toPy lay (.comp o g u j Y cond d e)) d env (firstIterPos [⟨zB j Y,nw lay u,nu (ib lay j) cond,0⟩] e) (newList []) false (eval (nw lay u) env) (some (assign (.Name (nm lay i') nN) env))):=by
   rfl
  refine ae e0 ?_
  refine wpAny_bind (DA (use:=some (assign (.Name (nm lay i') nN) env)) I.2 hi (eb f tg g _ _) (λt ht=>xt f tg cond _ _ t ht) rm F P X λs' y H' vs D Cl hq c=>?_)
  have z:¬av D:=λq=>ay _ (am (P.f4 _ q) c.newD)
  refine aG c.obj λws n δ=>af δ λhD r=>?_
  refine ah c.ns λm hn=>?_
  have L:¬C.tb Cl:=λq=>ay _ (am (P.f4 _ (P.bM _ q)) c.Ej)
  have go:∀(v:V) (l:List Addr) (U:Hs),k none (σ.set i' (some v)) U->R s'.heap av l v (.ref D)->Hp C av s' l U->c4 C av [] s own s' l->Cl∉l->
    wpAny C.md A (assign (.Name (nm lay i') nN) env (.ref D)) (λO G=>∃m,G.heap.Ns Cl m/\∀h',gG Cl G.heap h'->(λ(O:Value) (p:Shared)=>wpAny C.md A (pure ()) (λO p=>wpAny C.md A (pure Flow.next) Q E p) E p) qW {G with heap:=h'}) E s':=λv l U β r2 P2 g2 K=>by
   have F2:=F.grow g2 P.bM
   refine AL (F2.store P2 (ex:=ic env) (aB ..) (λh1 c h2=>F.jN h1 h2) I.1 r2 λs3 Z P3 W=>?_)
   have α:Cl∉ic env:=λq=>ay _ (am (F.Dr q) c.Ej)
   have J:s3.heap.Ns Cl m:=hn.at' λw eo=>W.keep _ _ eo K α L
   refine ⟨m,J,λh' hs=>?_⟩
   exact aA (EL F Z P3 (g2.wide.trans W) J c.Ej (ar P.gd.size c.Ej) K L hs) λF4 P4 g4=>(wpAny_pure (wpAny_pure (hp none .next _ _ l U β rfl F4 P4 g4)))
  show wpAny C.md A (assign (.Name (nm lay i') nN) env (.ref D)) _ E s'
  cases o with
  | false=>
   exact go (.lst vs) y H' hq ⟨D,ws,n,rfl,z,λq=>(c.P.lo D q).2 (.inr rfl),hD,r.oE λa q=>.inl (.inl q)⟩ (c.P.zO (λO h=>.inl h) P.bM) c.g c.out
  | true=>
   exact go (.ref H'.length) (y++[D]) (H'++[vs]) hq ⟨D,rfl,c.P.len▸gI⟩ (c.P.nV P.bM z (ar P.gd.size c.newD) hD r) (c.g.snoc ⟨c.newD,z⟩) (tN c.out c.ne)
theorem Ex {e:ME} (h:BJ e=true):∃o l n m k cond i j,e=.comp o l n m k cond i j:=by
 cases e with
 | comp a b c d e f g p=>exact ⟨a,b,c,d,e,f,g,p,rfl⟩
 | _=>exact bT h
theorem QC (l:fT C T N) (tg:t0 C T N) {i' e' nN pos}:SS C T N sc lay (.asg i' e' nN pos):=by
 intro d A s av own H σ env a Q E j F P b g
 cases he:BJ e' with
 | false=>
  replace d:=dG d
  replace b:=(bU)▸b
  refine sh (eb l tg e' sc lay d.2 A s av own H σ env _ _ _ j F P b λv S U f w L I x p=>?_) (vU he _ _ _)
  exact (F.grow p P.bM).store x (ex:=ic env) (aB ..) (λB c D=>F.jN B D) d.1 I λJ u P3 z=>g none .next _ J f w L rfl u P3 (p.wide.trans z)
 | true=>
  refine o8 (Ex he) λM y q K r cond k o n=>?_;subst n
  exact Fg l tg d (λa Q m G b g=>vW l tg q sc lay (DG (dG d).2).1.1.1.1.1 A s av own H σ env a Q E m (G.imp id λh=>by cases q<;>first | rfl | exact h) j F P b g) j F P.z b g
theorem MY {is e' k' sE pos} (W:SE C T N sc lay e'):SS C T N sc lay (.o7 is e' k' sE pos):=by
 intro G A s av own H σ env M Q E r F P q X
 replace G:=AI G
 refine lS G λm I J ub=>?_
 replace q:=(hW)▸q
 have hs:swapsWithSole [.Tuple (is.map λy=>.Name (nm lay y.1) y.2) k' sE] (toPy lay e') pos.line env=pure false:=by
  cases e'<;>rfl
 have j:env.locals∈ic env:=aB ..
 have U:∀z∈is,sc.names.lookup (nm lay z.1)=some .cell->∀c,env.cells.lookup (nm lay z.1)=some c->c∈ic env:=λO O h1 c h2=>F.jN h1 h2
 have d:Im [.Tuple (is.map λy=>.Name (nm lay y.1) y.2) k' sE] (toPy lay e') env=pure none->wpAny C.md A (exec (.Assign [.Tuple (is.map λy=>.Name (nm lay y.1) y.2) k' sE] (toPy lay e') pos) env) Q E s:=λD=>by
  refine Assign_Tuple (W ub A s av own H σ env _ _ _ r F P q λv rv s1 b w a K x i=>?_) hs D
  cases hu:tG is.length v with
  | none=>replace a:=(hu)▸a;exact a.elim
  | some L=>
   replace a:=(hu)▸a
   exact y7 (ex:=ic env) j (λO h=>rR h) r.hd (F.grow i P.bM) x m U hu K λY Z B o=>X none .next _ Y b w a rfl Z B (i.wide.trans o)
 cases e' with
 | tup g l n=>
  have S:=zC (env:=env) (ts:=is.map λy=>.Name (nm lay y.1) y.2) (k:=k') (p:=sE) (k':=l) (p':=n) F.scope F.kind J
  cases WU:Tu sc (is.map λy=>.Name (nm lay y.1) y.2) (iz lay g) with
  | none=>exact d (by refine ae (show toPy lay (.tup g l n)=.Tuple (iz lay g) l n from rfl) (ae S (ae WU rfl)))
  | some names=>
   have hn:=IV WU
   refine Assign_Tuple_swapped (names:=names) (W ub A s av own H σ env _ _ _ r F P q λv rv s1 b w a K x i=>?_) hs (by refine ae (show toPy lay (.tup g l n)=.Tuple (iz lay g) l n from rfl) (ae S (ae WU rfl)))
   cases hu:tG is.length v with
   | none=>replace a:=(hu)▸a;exact a.elim
   | some L=>
    replace a:=(hu)▸a
    refine ae hn ?_
    refine ae (bv _) ?_
    refine xU r.hd x K hu λws Y r2 f B o=>?_
    refine bQ zi ?_
    refine y0 (ex:=ic env) j (λO h=>rR h) (F.grow (i.trans o) P.bM) B (ae List.all_reverse m) (λz hz=>U z (qV.mp hz)) (vs:=L.reverse) (by simp [f]) r2.reverse λs3 u P3 g3=>?_
    replace u:=((Aa is L σ (yp I) f))▸u
    exact X none .next _ s3 b w a rfl u P3 ((i.trans o).wide.trans g3)
 | _=>exact d rfl
set_option genInjectivity false in
inductive LI (C:Cx) (T:Tb) (av:Addr->Prop) (t:MT) (b:List MS) (env:Env) (sc:Scope) (lay:List Str) (s:Shared) (own:List Addr) (cK:Fl->Sg->Hs->Prop) (s':Shared) (n:Nat):Prop
 | mk (f7 H' Ma):A0 (λσ H k=>Ct T σ t H k) (λσ H k=>de T b σ H k) n Ma H' cK->Fm C av s' f7 env sc lay Ma->Hp C av s' f7 H'->c4 C av (ic env) s own s' f7->LI C T av t b env sc lay s own cK s' n
theorem Qy {t b' pos} (Y:ST C T N sc lay t) (X:OA C T N sc lay b'):SS C T N sc lay (.OM t b' pos):=by
 intro k A s av own H σ env g Q E J F P m I
 replace k:=dG k
 refine ah m λn m=>?_
 refine wpAny_While (codeAny_whileLoop (λn s'=>LI C T av t b' env sc lay s own g s' n) ?_ n ⟨own,H,σ,m,F,P,c4.refl⟩)
 rintro n s1 ⟨h,U,e,L,q,z,l⟩
 cases n with
 | zero=>exact L.elim
 | succ n=>
  refine Y k.1 A s1 av h U e env _ _ _ J q z L λc K a x M B j=>?_
  have u:=q.grow j z.bM
  cases c with
  | false=>exact wpAny_pure (I none .next e K a x (M.2 rfl) rfl u B (l.trans j.wide))
  | true=>
   refine X k.2 A K av a x e env _ _ _ J u B (M.1 rfl) λW f i s3 d y S G w P3 D=>?_
   cases W with
   | none=>
    exact ae (show f=.next from G) ⟨n,dQ _,d,y,i,S,w,P3,(l.trans j.wide).trans D⟩
   | some v=>
    refine ah G λZ o=>af o λp r=>?_;subst p
    exact I (some v) _ i s3 d y S ⟨Z,rfl,r⟩ w P3 ((l.trans j.wide).trans D)
theorem c4.newX {w y:Shared}{d p h:List Addr} (g:c4 C av h s own w c) (k:zc C av p n w c y d) (F:∀a∈p,s.heap.objs.size<=a) (j:s.gens.size<=n):c4 C av h s own y d:=by
 refine ah g.own λG f=>af f λl u=>?_;subst l
 refine ah k.own λI f=>af f λB v=>?_
 exact ⟨⟨λb o e m z r=>k.keep b o (g.keep b o e m z r) (λq=>(bY.mp q).elim m λq=>lu (u b q).1 e) (λq=>lu (F b q) e) r,
  ⟨G++I,B.trans (cy ..),λa D=>(bY.mp D).elim (u a) λq=>⟨ar g.size (v a q).1,(v a q).2⟩⟩,ar g.size k.size⟩,k.os.trans g.os,
  λi x e=>k.gens i x (am (gU.mp e).1 j) (g.gens i x e),λb=>k.bare (g.bare b)⟩
def KN (T:Tb) (tg:List (Nat×Pos)) (b:List MS):V->Sg->Hs->(Fl->Sg->Hs->Prop)->Prop:=λx σ H k=>match fu tg.length x with
 | some a=>de T b (iO tg a σ) H k
 | none=>False
set_option genInjectivity false in
inductive FI (C:Cx) (T:Tb) (av:Addr->Prop) (I:(Addr->Prop)->List V->Shared->List Addr->Prop) (tg:List (Nat×Pos)) (b:List MS) (env:Env) (sc:Scope) (lay:List Str) (s:Shared) (own:List Addr) (cK:Fl->Sg->Hs->Prop) (s':Shared):Nat->Prop
 | mk (xs f7 H' Ma):I av xs s' f7->sH (KN T tg b) xs Ma H' cK->Fm C av s' f7 env sc lay Ma->Hp C av s' f7 H'->c4 C av (ic env) s own s' f7->FI C T av I tg b env sc lay s own cK s' xs.length
noncomputable def Ur:MI->Bool
 | .gen .. =>true
 | _=>false
theorem K3 {b:MI}:∀{tg:List (Nat×Pos)},F8 b tg.length=true->rO (zY lay tg Y)=true\/yn b=true
 | [],_=>.inl rfl
 | [_],h=>.inr (by cases b<;>first | rfl | exact h)
 | _::_::_,_=>.inl rfl
theorem Bc {tg sE it b' pos} (β:Ur it=false) (hi:SI C T N sc lay it) (hb:OA C T N sc lay b'):SS C T N sc lay (.mv tg sE it b' pos):=by
 intro ok A s av own H σ env G Q E rm F P hw hp
 replace ok:=AI ok
 refine lS ok λw γ δ ub=>?_
 replace w:Lu sc lay it=true:=by cases it<;>first | exact w | exact dS β
 refine wpAny_For (hi w A s av own H σ env _ _ E (zY lay tg sE) ?_ rm F P hw λI0 i s2 U H2 fp ia gk I J w2 S I2 P2 g2 α e u=>?_) (λx=>tR lay it env x)
 ·exact K3 δ
 have F2:=F.grow g2 P.bM
 have k:env.locals∈ic env:=aB ..
 have hC:∀z∈tg,sc.names.lookup (nm lay z.1)=some .cell->∀c,env.cells.lookup (nm lay z.1)=some c->c∈ic env:=λO O h1 c h2=>F.jN h1 h2
 have m:∀a∈fp,a∉ic env:=λa ha q=>by
  rcases (α a ha).2.2 with h | ⟨o,ws,n,eo,hd⟩
  ·exact ay _ (am (F.Dr q) h)
  ·exact (F2.KZ a q o eo).1 ws n hd
 have g:∀a∈ic env,a∉ia:=λa q ha=>ay _ (am (F.Dr q) (e a ha))
 refine Sv (λn s'=>FI C T av I tg b' env sc lay s own G s' n) ?_ i.length ⟨i,U,H2,σ,I2,w2,F2,P2,g2.wide⟩
 rintro n s3 ⟨D,d,B,X,Y,j,F3,P3,g3⟩
 cases D with
 | nil=>
  exact S.done _ s3 d B _ _ Y P3 λs4 Z K=>wpAny_pure (hp none .next X s4 d B j rfl (F3.vk K.tokP P3.bM (g _ k) (λy hy q=>ay _ (am (F.DD hy) (e _ q))) (S.jA _ _ _ _ Y)) Z (g3.newX K e u))
 | cons x D=>
  refine S.step _ x D s3 d B _ _ Y P3 λrv s4 r4 J4 Z K=>?_
  have F4:=F3.vk K.tokP P3.bM (g _ k) (λy hy q=>ay _ (am (F.DD hy) (e _ q))) (S.jA _ _ _ _ Y)
  have L:=g3.newX K e u
  refine S.go _ D s4 d B rv x _ _ J4 Z r4 λs5 I5 r5 P5 g5=>?_
  have F5:=F4.vk g5.tokP Z.bM (g _ k) (λy hy q=>ay _ (am (F.DD hy) (e _ q))) (S.Bz _ _ _ _ _ J4)
  have M:=L.newX g5 e u
  have j:KN T tg b' x X B _:=j
  unfold KN at j
  cases RJ:fu tg.length x with
  | none=>replace j:=(RJ)▸j;exact j.elim
  | some vs=>
   replace j:=(RJ)▸j
   refine sx (ex:=ic env) k (λO h=>rR h) rm.hd F5 P5 γ hC RJ r5 λs6 F6 P6 g6=>?_
   have I6:=S.frame _ _ _ _ _ _ _ I5 g6 P5.bM m F5.KZ.a
   refine hb ub A s6 av d B _ env _ _ _ rm F6 P6 j λfl f W s7 p H7 w7 hf F7 P7 g7=>?_
   have l:=(M.trans g6).trans g7
   cases fl with
   | none=>
    exact ae (show f=.next from hf) ⟨D.length,dQ _,D,p,H7,W,S.frame _ _ _ _ _ _ _ I6 g7 P6.bM m F6.KZ.a,w7,F7,P7,l⟩
   | some v=>
    refine ah hf λrv ε=>af ε λζ r=>?_;subst ζ
    exact hp (some v) _ W s7 p H7 w7 ⟨rv,rfl,r⟩ F7 P7 l
theorem MX (tb:fT C T N) (ζ:t0 C T N) {tg sE x' args p' pos' b' pos} (he:HT C T N sc lay args) (hb:OA C T N sc lay b'):SS C T N sc lay (.mv tg sE (.gen x' args p' pos') b' pos):=by
 intro ok A s av own H σ env U Q E rm F P hw hp
 replace ok:=AI ok
 refine lS ok λi ε θ ub=>?_
 replace i:(iI sc x' && jR sc lay args)=true:=i
 replace i:=dG i
 have G:env.locals∈ic env:=aB ..
 have hC:∀z∈tg,sc.names.lookup (nm lay z.1)=some .cell->∀c,env.cells.lookup (nm lay z.1)=some c->c∈ic env:=λO O h1 c h2=>F.jN h1 h2
 refine wpAny_For (KC tb ζ he i.1 i.2 (X:=ic env) rm F P hw (λa D=>F.Dr D) λI0 k s2 α H2 m gk I w2 S I2 P2 g2 e Z=>?_) (λx'=>tR lay _ env x')
 have F2:=F.grow g2 P.bM
 have w:∀{K:List Addr},(∀a∈K,m<=a)->∀a∈ic env,a∉K:=λd a q D=>ay _ (am (F.Dr q) (ar e (d a D)))
 have j:∀{K:List Addr},(∀a∈K,m<=a)->∀y∈env.cells,y.2∉K:=λd y hy q=>ay _ (am (F.DD hy) (ar e (d _ q)))
 refine Sv (λn s'=>FI C T av I tg b' env sc lay s own U s' n) ?_ k.length ⟨k,α,H2,σ,I2,w2,F2,P2,g2.wide⟩
 rintro n s3 ⟨xs,g,M,γ,I3,l,F3,P3,g3⟩
 cases xs with
 | nil=>
  exact S.done _ s3 g M _ _ I3 P3 λs4 K d J P4 W=>wpAny_pure (hp none .next γ s4 g M l rfl (F3.vk W.tokP P3.bM (w d _ G) (j d) J) P4 (g3.newX W (λa D=>ar e (d a D)) Z))
 | cons x' xs=>
  refine S.step _ x' xs s3 g M _ _ I3 P3 λrv s4 K d J r4 I4 P4 W=>?_
  have F4:=F3.vk W.tokP P3.bM (w d _ G) (j d) J
  have Y:=g3.newX W (λa D=>ar e (d a D)) Z
  refine ah (S.cls _ _ _ _ I4) λo L=>af L λho δ=>?_
  refine wA ho δ (by decide) ?_
  have l:KN T tg b' x' γ M _:=l
  unfold KN at l
  cases RJ:fu tg.length x' with
  | none=>replace l:=(RJ)▸l;exact l.elim
  | some vs=>
   replace l:=(RJ)▸l
   refine sx (ex:=ic env) G (λO h=>rR h) rm.hd F4 P4 ε hC RJ r4 λs6 F6 P6 g6=>?_
   have I6:=S.frame _ _ _ _ _ _ I4 g6
   refine hb ub A s6 av g M _ env _ _ _ rm F6 P6 l λfl f β s7 B H7 w7 hf F7 P7 g7=>?_
   have u:=(Y.trans g6).trans g7
   cases fl with
   | none=>
    exact ae (show f=.next from hf) ⟨xs.length,dQ _,xs,B,H7,β,S.frame _ _ _ _ _ _ I6 g7,w7,F7,P7,u⟩
   | some v=>
    refine ah hf λrv L=>af L λη r=>?_;subst η
    exact hp (some v) _ β s7 B H7 w7 ⟨rv,rfl,r⟩ F7 P7 u
mutual
theorem D8 (a:fT C T N) (tg:t0 C T N):∀(st:MS),SS C T N sc lay st
 | .asg _ e _ _=>QC a tg
 | .o7 _ e _ _ _=>MY (eb a tg e sc lay)
 | .zD o i e _ _=>MV (eb a tg o sc lay) (eb a tg i sc lay) (eb a tg e sc lay)
 | .aug _ _ e _ _=>QB a (eb a tg e sc lay)
 | .ex e _=>TA (eb a tg e sc lay)
 | .ret e _=>Qz (eb a tg e sc lay)
 | .C2 _=>MW
 | .iff t b o _=>QA (nz a tg t sc lay) (i8 a tg b) (i8 a tg o)
 | .OM t b _=>Qy (nz a tg t sc lay) (i8 a tg b)
 | .mv _ _ (.gen _ c _ _) b _=>MX a tg (kG a tg c sc lay) (i8 a tg b)
 | .mv _ _ (.of e) b _=>Bc rfl (vW a tg (.of e) sc lay) (i8 a tg b)
 | .mv _ _ (.zE e p q) b _=>Bc rfl (vW a tg (.zE e p q) sc lay) (i8 a tg b)
 | .mv _ _ (.BV e p q) b _=>Bc rfl (vW a tg (.BV e p q) sc lay) (i8 a tg b)
 | .mv _ _ (.rev e p q) b _=>Bc rfl (vW a tg (.rev e p q) sc lay) (i8 a tg b)
theorem i8 (a:fT C T N) (tg:t0 C T N):∀(st:List MS),OA C T N sc lay st
 | []=>MU
 | s::r=>I8 (D8 a tg s) (i8 a tg r)
end
end
noncomputable def vM (f:V->Option V):List V->Option (List V)
 | []=>some []
 | v::r=>match f v,vM f r with
  | some a,some b=>some (a::b)
  | _,_=>none
noncomputable def fz:Nat->Hs->V->Option V
 | 0,_,_=>none
 | k+1,H,v=>match v with
  | .tup a=>(vM (fz k H) a).map .tup
  | .lst a=>(vM (fz k H) a).map .lst
  | .ref n=>match H[n]? with
   | some a=>(vM (fz k H) a).map .lst
   | none=>none
  | v=>some v
theorem KJ {f:V->Option V}{c:List V} (e:vM f (v::c)=some l):∃a b,f v=some a/\vM f c=some b/\l=a::b:=by
 replace e:(match f v,vM f c with | some a,some b=>some (a::b) | _,_=>none)=some l:=e
 cases h1:f v with
 | none=>replace e:=(h1)▸e;exact bN e
 | some a=>
  cases h2:vM f c with
  | none=>replace e:=(h2)▸(h1)▸e;exact bN e
  | some b=>rw [h1,h2] at e;exact ⟨a,b,rfl,rfl,(aN e).symm⟩
theorem FS {h:Heap}{i:Addr->Prop}{c:List Addr}{f:V->Option V} (k:∀v l w,f v=some l->R h i c v w->R h i [] l w):
  ∀(j d:List V) (m:List Value),vM f j=some d->Rs h i c j m->Rs h i [] d m
 | [],_,_,e,r=>aN e▸r
 | v::j,_,_,e,r=>(KJ e).elim λa e=>e.elim λb e=>r.elim λw r=>r.elim λg r=>e.2.2▸⟨w,g,r.1,k v a w e.1 r.2.1,FS k j b g e.2.1 r.2.2⟩
theorem KL {C:Cx}{l:Addr->Prop}{s:Shared}{i:List Addr}{H:Hs} (P:Hp C l s i H):∀(k:Nat) (v g:V) (w:Value),fz k H v=some g->R s.heap l i v w->R s.heap l [] g w
 | 0,_,_,_,e,_=>nomatch e
 | k+1,v,g,w,e,r=>by
  cases v with
  | tup c=>
   refine ah (dH.mp (show (vM (fz k H) c).map V.tup=some g from e)) λd b=>af b λh f=>?_;subst f
   exact r.elim λa r=>r.elim λj r=>⟨a,j,r.1,r.2.1,aC,r.2.2.2.1,FS (KL P k) c d _ h r.2.2.2.2⟩
  | lst c=>
   refine ah (dH.mp (show (vM (fz k H) c).map V.lst=some g from e)) λd b=>af b λh f=>?_;subst f
   exact r.elim λa r=>r.elim λj r=>r.elim λn r=>⟨a,j,n,r.1,r.2.1,aC,r.2.2.2.1,FS (KL P k) c d _ h r.2.2.2.2⟩
  | ref n=>
   replace e:(match H[n]? with | some c=>(vM (fz k H) c).map V.lst | none=>none)=some g:=e
   cases hl:H[n]? with
   | none=>replace e:=(hl)▸e;exact bN e
   | some c=>
    replace e:=(hl)▸e
    refine ah (dH.mp (show (vM (fz k H) c).map V.lst=some g from e)) λd b=>af b λh f=>?_;subst f
    exact r.elim λa r=>(P.lst n a c r.2 hl).elim λj q=>q.elim λm q=>⟨a,j,m,r.1,(P.lo a (bB r.2)).2,aC,q.1,FS (KL P k) c d _ h q.2⟩
  | _=>exact aN e▸r
noncomputable def tu (sc:Scope) (a b:List Str):Bool:=
 to sc a && (a.take b.length==b) && iJ b && b.all (λx=>sc.names.lookup x==some .local || sc.names.lookup x==some .cell) &&
 sc.names.all (λy=>y.2 !=.free) && iJ ((sc.names.filter λy=>y.2==.cell).map (·.1)) && (sc.kind==.function)
structure FnAt (C:Cx) (a:Addr) (fd:iD) (lay:List Str) (ms:List MS) (ps:List Str):Prop where
 obj:∃o,C.h₀.get? a=some o/\o.data=.func fd
 glob:fd.globals=bX
 blt:fd.builtins=gL
 tW:fd.closure=[]
 co:fd.scope.isCoroutine=false
 gen:fd.scope.isGenerator=false
 code:C.h₀.CodeRec fd.code fd.qualname
 body:fd.body=.stmts (lM lay ms)
 bind:∀(s:Shared) (vals:List Value),vals.length=ps.length->(∀b o,C.h₀.get? b=some o->s.heap.get? b=some o)->Mj s fd ⟨vals,[]⟩ (ps.zip vals)
 Me:mK fd.scope lay ms=true
 G1:tu fd.scope lay ps=true
def KP (W:Sg->Hs->(Fl->Sg->Hs->Prop)->Prop) (c f:Nat) (a:List V) (b:V->Prop):Prop:=
 V.f2 a=true/\a.length=c/\W (a.map some++bk (f - c) none) [] λe O H=>match e with
  | none=>b .none
  | some v=>∃d,fz 8 H v=some d/\b d
abbrev jE (T:Tb) (e d:Nat) (c:List MS) (b:List V) (a:V->Prop):Prop:=KP (de T c) e d b a
theorem y4 {a:Str->Option gp}{x:Str}:∀(l:List (Str×Value)) (m:Str->Option Value),x∉l.map (·.1)->bindL a l m x=m x
 | [],m,_=>rfl
 | (n,v)::r,m,h=>by
  rw [bindL,y4 r _ (λq=>h (aP _ q))]
  split
  ·show (if x=n then some v else m x)=m x
   refine ae (if_neg (λe=>h (by rw [e];exact aB))) rfl
  ·rfl
theorem y5 {a:Str->Option gp}{x:Str}:∀(l:List (Str×Value)) (m:Str->Option Value),x∉l.map (·.1)->bindC a l m x=m x
 | [],m,_=>rfl
 | (n,v)::r,m,h=>by
  rw [bindC,y5 r _ (λq=>h (aP _ q))]
  split
  ·rfl
  ·show (if x=n then some v else m x)=m x
   refine ae (if_neg (λe=>h (by rw [e];exact aB))) rfl
theorem jB (h:iJ (x::i)=true):x∉i/\iJ i=true:=by
 replace h:=(az _ _)▸(Ai)▸h
 refine ⟨λq=>?_,h.2⟩
 have:=aS.mp h.1 x q
 simp at this
theorem pl:∀(a:List Str) (b:List Value) {x:Str},x∈(a.zip b).map (·.1)->x∈a
 | [],_,x,h=>by simp at h
 | p::a,[],x,h=>by simp at h
 | p::a,v::b,x,h=>by
  replace h:=(bG)▸(kR)▸h
  rcases aX.mp h with rfl | h
  ·exact aB
  ·exact aP _ (pl a b h)
theorem AE {a:Str->Option gp}:∀(b:List Str) (c:List Value) (m:Str->Option Value) (i:Nat) (x:Str) (v:Value),iJ b=true->b[i]? =some x->c[i]? =some v->a x=some .local->
  bindL a (b.zip c) m x=some v
 | [],c,m,i,x,v,_,h,_,_=>by simp at h
 | p::b,[],m,i,x,v,_,_,h,_=>by simp at h
 | p::b,w::c,m,0,x,v,g,d,e,f=>by
  simp at d e
  subst d;subst e
  rw [kR,bindL,y4 _ _ (λq=>(jB g).1 (pl b c q)),if_pos f]
  show (if p=p then some w else m p)=some w
  refine ae (if_pos rfl) rfl
 | p::b,w::c,m,i+1,x,v,g,d,e,f=>by
  rw [kR,bindL]
  exact AE b c _ i x v (jB g).2 (by simpa using d) (by simpa using e) f
theorem AF {a:Str->Option gp}:∀(b:List Str) (c:List Value) (m:Str->Option Value) (i:Nat) (x:Str) (v:Value),iJ b=true->b[i]? =some x->c[i]? =some v->a x≠some .local->
  bindC a (b.zip c) m x=some v
 | [],c,m,i,x,v,_,h,_,_=>by simp at h
 | p::b,[],m,i,x,v,_,_,h,_=>by simp at h
 | p::b,w::c,m,0,x,v,g,d,e,f=>by
  simp at d e
  subst d;subst e
  rw [kR,bindC,y5 _ _ (λq=>(jB g).1 (pl b c q)),if_neg f]
  show (if p=p then some w else m p)=some w
  refine ae (if_pos rfl) rfl
 | p::b,w::c,m,i+1,x,v,g,d,e,f=>by
  rw [kR,bindC]
  exact AF b c _ i x v (jB g).2 (by simpa using d) (by simpa using e) f
theorem Xj:kD n [] U=U:=rfl
theorem R8 {k:gp}{r:List (Str×gp)}:kD n ((x,k)::r) U=if (k==.cell)=true then kD (n+1) r ((x,n)::U) else kD n r U:=rfl
theorem jF:∀(names:List (Str×gp)) (n:Nat) (a:List (Str×Addr)) (x:Str),(x,iZ)∈names\/x∈a.map (·.1)->x∈(kD n names a).map (·.1)
 | [],n,a,x,h=>by exact ae Xj (h.resolve_left aC)
 | (y,k)::r,n,a,x,h=>by
  refine ae R8 ?_
  by_cases b:(k==iZ)=true
  ·refine ae (if_pos b) ?_
   refine jF r _ _ x ?_
   rcases h with h | h
   ·rcases aX.mp h with e | h
    ·cases e;exact .inr aB
    ·exact .inl h
   ·exact .inr (by simp;right;simpa using h)
  ·refine ae (if_neg b) ?_
   refine jF r _ _ x ?_
   rcases h with h | h
   ·rcases aX.mp h with e | h
    ·cases e;exact absurd rfl b
    ·exact .inl h
   ·exact .inr h
theorem gY:∀(names:List (Str×gp)) (n:Nat) (a:List (Str×Addr)),iJ ((names.filter λy=>y.2==.cell).map (·.1))=true->(a.map (·.1)).Nodup->
  (∀x∈a.map (·.1),x∉(names.filter λy=>y.2==.cell).map (·.1))->((kD n names a).map (·.1)).Nodup
 | [],n,a,_,c,_=>c
 | (y,k)::r,n,a,h,c,hd=>by
  refine ae R8 ?_
  by_cases d:(k==iZ)=true
  ·refine ae (if_pos d) ?_
   have e:((y,k)::r).filter (λy=>y.2==iZ)=(y,k)::r.filter (λy=>y.2==iZ):=by simp only [j7,d,if_true]
   rw [e,bG] at h hd
   refine gY r _ _ (jB h).2 ?_ λx b=>?_
   ·exact ae bG (ae (propext h9) ⟨λq=>hd y q aB,c⟩)
   ·replace b:=(bG)▸b
    rcases aX.mp b with rfl | b
    ·exact (jB h).1
    ·intro q
     exact hd x b (aP _ q)
  ·refine ae (if_neg d) ?_
   have e:((y,k)::r).filter (λy=>y.2==iZ)=r.filter (λy=>y.2==iZ):=by simp only [j7,d,if_false];rfl
   rw [e] at h hd
   exact gY r _ _ h c hd
theorem kh (b:(U.map (·.1)).Nodup) {y:Str×Addr} (h:y∈U):U.lookup y.1=some y.2:=
 te (b9 (f:=(·.1)) h) λz d e=>by
  induction U with
  | nil=>exact nomatch h
  | cons x r g=>
   replace b:=(propext h9)▸(bG)▸b
   rcases aX.mp h with rfl | c
   ·rcases aX.mp d with rfl | a
    ·rfl
    ·exact absurd (e▸b9 (f:=(·.1)) a) b.1
   ·rcases aX.mp d with rfl | a
    ·exact absurd (e▸b9 (f:=(·.1)) c) b.1
    ·exact g b.2 c a
theorem S8 {c:mx}{w:World}{R:Result->Shared->Prop}{o:Obj}{b:iD}{i:List Stmt}{g:Args}{binds:List (Str×Value)}
  (n:A.depth < mN) (ho:s.heap.get? D=some o) (l:o.data=.func b) (u:s.heap.NoLimit) (z:s.heap.CodeRec b.code b.qualname)
  (k:b.body=.stmts i) (j:Mj s b g binds) (q:b.closure=[])
  (m:∀x∈binds,b.scope.names.lookup x.1=some .local\/(b.scope.names.lookup x.1=some .cell/\((kD (s.heap.objs.size+1) b.scope.names []).lookup x.1).isSome=true))
  (h:∀d,InCallC s (dF b s.heap.objs.size D).locals (bindL (dF b s.heap.objs.size D).kindOf binds λO=>none) (dF b s.heap.objs.size D).cells
    (bindC (dF b s.heap.objs.size D).kindOf binds λO=>none) d->s.toks<=d.toks->
   wpAny (model c w) (A.deeper (dF b s.heap.objs.size D)) (execs i (dF b s.heap.objs.size D)) (λf y=>R (.ok (.ret (match f with | .ret v=>v | _=>.none))) y)
    (λe y=>wpAny (model c w) (A.deeper (dF b s.heap.objs.size D)) (leaving (dF b s.heap.objs.size D) e) (λO p=>R (.error e) p) (λC p=>R (.error C) p) y) d)
  (B:b.scope.isCoroutine=false) (r:b.scope.isGenerator=false) (F:b.scope.kind=.function):
  AM (model c w) A (.call (.ref D) g) R s:=by
 refine OC n ho l B r k z ?_
 refine ae q ?_
 refine j _ _ _ _ (dh (aD _) (Gu F m λa E y x=>λG=>?_))
 subst E
 exact ⟨u.keeps x.toInCall.keep,codeAny_func (h y x G)⟩
theorem rU {av:Addr->Prop}{CK:Shared}{a:Addr}{fd:iD}{lay ps:List Str}{args:List V}{px:List Value} (B:fd.globals=bX) (I:fd.builtins=gL) (L:tu fd.scope lay ps=true)
  (k:args.length=ps.length) (P:Hp C av s [] []) (r:Rs s.heap av [] args px)
  (x:InCallC s (dF fd s.heap.objs.size a).locals (bindL (dF fd s.heap.objs.size a).kindOf (ps.zip px) λO=>none) (dF fd s.heap.objs.size a).cells
    (bindC (dF fd s.heap.objs.size a).kindOf (ps.zip px) λO=>none) CK) (ht:s.toks<=CK.toks):
  Fm C av CK [] (dF fd s.heap.objs.size a) fd.scope lay (args.map some++bk (lay.length - ps.length) none)/\Hp C av CK [] []:=by
 unfold tu at L
 simp only [az] at L
 refine f0 L λM N G ub Q JP S=>?_
 have l:lay.take ps.length=ps:=eq_of_beq N
 have g:fd.scope.kind=.function:=of_decide_eq_true S
 have E:ps.length<=lay.length:=bQ l (ae j5 (PW _ _))
 have D:∀i,i < ps.length->lay[i]? =ps[i]?:=λi f=>by
  have:=congrArg (·[i]?) l
  replace this:=(qn f)▸this
  exact this
 have o:∀x,fd.scope.names.lookup x=some .cell->((kD (s.heap.objs.size+1) fd.scope.names []).lookup x).isSome=true:=λx hx=>by
  have hm:=jF fd.scope.names (s.heap.objs.size+1) [] x (.inl (b7 hx))
  refine ah (cH.mp hm) λy b=>af b λhy T=>?_;subst T
  refine ae (kh (gY _ _ _ JP (by exact ef) (by exact λO h=>nomatch h)) hy) ?_;rfl
 have W:(dF fd s.heap.objs.size a).locals=s.heap.objs.size:=rfl
 have hsz:s.heap.objs.size < CK.heap.objs.size:=bj x.toInCall.ns λo' O O b=>af b λe O=>(W▸bF e)
 have Y:=x.toInCall.keep
 have j:s.toks<=CK.toks:=ht
 have A:=P.keeps Y (b8 hsz) j
 have m:=r.keeps Y (b8 hsz)
 have nd:=gY fd.scope.names (s.heap.objs.size+1) [] JP ef (λO h=>nomatch h)
 have F:∀(i:Nat) v,(args.map some++bk (lay.length - ps.length) none).getD i none=some v->i < ps.length/\args[i]? =some v:=λi v e=>by
  replace e:=(ax)▸e
  by_cases f:i < args.length
  ·rw [cE (by simpa using f),dc] at e
   refine ⟨by exact au eZ 22 [_,_,_] [] k f,?_⟩
   cases u:args[i]? with
   | none=>replace e:=(u)▸e;exact bN e
   | some z=>replace e:=(u)▸e;exact e
  ·rw [jX (by simpa using f)] at e
   cases h:(bk (lay.length - ps.length) (none:Option V))[i - (args.map some).length]? with
   | none=>replace e:=(h)▸e;exact bN e
   | some z=>replace e:=((DS (bB h)))▸(h)▸e;exact bN e
 have H:∀c,C.tb c->c < s.heap.objs.size:=λc h=>P.f4 _ (P.bM _ h)
 refine ⟨?_,A⟩
 show Fm C av CK [] (dF fd s.heap.objs.size a) fd.scope lay (args.map some++bk (lay.length - ps.length) none)
 ·refine ⟨rfl,g,B,I,M,by simp [k];exact au bq 5 [_,_,_] [] E a8,⟨_,x.toInCall.ns,λi y v J n Z=>?_⟩,λi y J n=>?_,⟨by exact aC,λq=>ay _ (H _ q),P.gd.size⟩,λy hy=>?_,x.apart⟩
  ·exact af (F i v Z) λf u=>(ah (m.get u) λw b=>af b λK p=>⟨w,AE ps px _ i y w G (by refine bQ (D i f) ?_;exact J) K n,p⟩)
  ·have X:fd.scope.names.lookup y=some .cell:=by
    rcases n with n | n
    ·exact n
    ·have:=aS.mp Q _ (b7 n)
     simp at this
   refine ah (ig.mp (o y X)) λc U=>?_
   refine ⟨c,_,U,x.cell y c U,λv ev=>?_⟩
   exact af (F i v ev) λf u=>(ah (m.get u) λw b=>af b λK p=>⟨w,AF ps px _ i y w G (by refine bQ (D i f) ?_;exact J) K (by show fd.scope.names.lookup y≠_;refine ae X ?_;decide),p⟩)
  ·have d:=x.above y.1 y.2 hy
   replace d:=(W)▸d
   exact ⟨by exact aC,λq=>ay _ (jh d (H _ q)),xM d,λO=>ar P.gd.size (b8 d),_,x.cell y.1 y.2 (kh nd hy)⟩
theorem Do {W:Sg->Hs->(Fl->Sg->Hs->Prop)->Prop}{N:Nat}{k:iD}{ms:List MS}{u:List Str} (cx:C.Ok) (f:FnAt C D k i ms u)
  (hS:∀A s z G H σ B j (Q:Flow->Shared->Prop) (E:Value->Shared->Prop),fD A N->Fm C z s G B k.scope i σ->Hp C z s G H->W σ H j->wL C z s G B k.scope i j Q->
   wpAny C.md A (execs (lM i ms) B) Q E s):pa C (N+1) (.ref D) (KP W u.length i.length):=by
 intro A s z ζ m j Q E U P r M hp
 refine aA M λι p hw=>?_
 refine ah f.obj λo c=>af c λho hd=>?_
 have Y:m.length=u.length:=by refine ae r.length (ae p rfl)
 have ok:=f.G1
 unfold tu at ok
 simp only [az] at ok
 refine f0 ok λκ γ μ ub ν JP δ=>?_
 have η:i.take u.length=u:=eq_of_beq γ
 have l:k.scope.kind=.function:=of_decide_eq_true δ
 have a:∀x,k.scope.names.lookup x=some .cell->((kD (s.heap.objs.size+1) k.scope.names []).lookup x).isSome=true:=λx Z=>by
  have hm:=jF k.scope.names (s.heap.objs.size+1) [] x (.inl (b7 Z))
  refine ah (cH.mp hm) λy c=>af c λhy d=>?_;subst d
  refine ae (kh (gY _ _ _ JP (by exact ef) (by exact λO h=>nomatch h)) hy) ?_;rfl
 refine wN (S8 (binds:=u.zip m) (bL (gT _ _) U.dp) (P.gd.base _ _ ho) hd (cx.lim.keeps P.gd.base) (f.code.keeps P.gd.base) f.body (f.bind s m Y P.gd.base) f.tW
  (λx Z=>?_) (λw x ht=>?_) f.co f.gen l)
 ·have α:x.1∈u:=pl u m (b9 (f:=(·.1)) Z)
  have:=aS.mp ub _ α
  replace this:=(dz _ _)▸this
  rcases this with q | q
  ·exact .inl (eq_of_beq q)
  ·exact .inr ⟨by exact eq_of_beq q,a _ (eq_of_beq q)⟩
 ·have hL:(dF k s.heap.objs.size D).locals=s.heap.objs.size:=rfl
  have hsz:s.heap.objs.size < w.heap.objs.size:=bj x.toInCall.ns λo' O O c=>af c λe O=>(hL▸bF e)
  have hk:=x.toInCall.keep
  have β:=x.toInCall.same
  refine af (rU f.glob f.blt f.G1 p P r x ht) λF J=>?_
  have ε:fD (A.deeper (dF k s.heap.objs.size D)) N:=by
   have:=U.dp
   have:=U.un
   exact ⟨U.hd,by show A.depth+1+N < _;exact ak aK 19 [_,_,_] [] ‹_›,by show A.units+3+8*N+64 < _;exact ak aK 20 [_,_,_] [] this⟩
  refine hS _ w z [] [] _ _ _ _ _ ε F J hw λfl g ξ T θ H2 w2 hf F2 I K=>?_
  have S:∀b o,s.heap.get? b=some o->¬C.tb b->T.heap.get? b=some o:=λb o e X=>by
   refine K.keep b o (hk b o e) aC (λq=>?_) X
   have L:=bF e
   rcases aX.mp q with rfl | q
   ·exact ay _ L
   ·refine ah (cH.mp q) λy c=>af c λhy d=>?_;subst d
    exact ay _ (jh L (x.above y.1 y.2 (eQ.mp hy).1))
  refine aG β λhh tk d=>?_;subst d
  have gg:c4 C z [] s [] T []:=⟨⟨λb o e O O X=>S b o e X,⟨[],rfl,by exact nofun⟩,ar (b8 hsz) K.size⟩,K.os,K.gens,K.bare⟩
  have P3:Hp C z T [] []:=⟨I.gd,rfl,ef,λn D vs e=>by simp at e,by exact nofun,I.f4,I.bM,I.tk⟩
  cases fl with
  | none=>
   exact ae (show g=.next from hf) (hp .none .none T w2 rfl P3 gg)
  | some v=>
   refine ah hf λrv c=>af c λd rr=>?_;subst d
   refine ah w2 λv' c=>af c λe q=>?_
   exact hp v' rv T q (KL I 8 v v' rv e rr) P3 gg
theorem N9 {T:Tb}{k:iD}{e:List MS}{h:List Str} (a:fT C T n) (tg:t0 C T n) (f:FnAt C D k i e h):
  pa C (n+1) (.ref D) (jE T h.length i.length e):=
 Do a.cx f λA s j g H o d b Q E N F P m l=>i8 a tg e f.Me A s j g H o d b Q E N F P m l
theorem Fm.z {C:Cx}{d:Addr->Prop}{s:Shared}{c:List Addr}{a:Env}{sc:Scope}{b:List Str}{e:Sg} (F:Fm C d s c a sc b e):Fm C.z d s c a sc b e:=
 ⟨F.scope,F.kind,F.glob,F.blt,F.vc,F.len,F.ns,F.cell,F.locs,F.qg,F.apart⟩
theorem Fm.Wn {sc:Scope} (F:Fm C.z d s c Z sc i X):Fm C d s c Z sc i X:=
 ⟨F.scope,F.kind,F.glob,F.blt,F.vc,F.len,F.ns,F.cell,F.locs,F.qg,F.apart⟩
theorem c4.z {C:Cx}{c:Addr->Prop}{d:List Addr}{s e:Shared}{b a:List Addr} (g:c4 C c d s b e a):c4 C.z c d s b e a:=
 ⟨⟨g.keep,g.own,g.size⟩,g.os,g.gens,g.bare⟩
theorem GZ {T:Tb}{sc:Scope}{d:List Str} (hl:C.lo<=1) (tb:fT C T n) (tg:t0 C T n) {i' nN pos}{p:ME}{X:Nat}{Z S g:Pos}{y:List ME}{j e:Pos}{cond:List MT}{B:Scope}{c:List MS}
  (D:mK sc d (.asg i' (.comp o p (.BV (.lst false (.cst (.int b) X Z::y) Y) S g) N j cond B e) nN pos::c)=true)
  (A:Around) (s:Shared) (M:Addr->Prop) (w:List Addr) (H:Hs) (σ:Sg) (k:Env) (a:Fl->Sg->Hs->Prop) (Q:Flow->Shared->Prop) (E:Value->Shared->Prop) (rm:fD A n) (F:Fm C M s w k sc d σ) (P:Hp C.z M s w H)
  (z:de T (.asg i' (.comp o p (.BV (.lst false (.cst (.int b) X Z::y) Y) S g) N j cond B e) nN pos::c) σ H a) (x:wL C M s w k sc d a Q):
  wpAny C.md A (execs (lM d (.asg i' (.comp o p (.BV (.lst false (.cst (.int b) X Z::y) Y) S g) N j cond B e) nN pos::c)) k) Q E s:=by
 replace D:=dG D
 show wpAny _ _ (execs (toS d (.asg i' (.comp o p (.BV (.lst false (.cst (.int b) X Z::y) Y) S g) N j cond B e) nN pos)::lM d c) k) Q E s
 refine ae (iK _ _ _) ?_
 have G:=dG (DG (dG D.1).2).1.1.1.1.1
 have I:=dG G.2
 refine wpAny_bind (Fg tb tg D.1 (λa Q δ ht z x=>Fn tb tg.Nx G.1 (ht.elim id λh=>nomatch h) rm F P (λa Q z x=>?_) z x) rm F P z λfl f J s1 l u w1 W F1 L U=>?_)
 ·refine S0 (G8 (cK:=λvs u=>if false=true then a (.ref u.length) (u++[vs]) else a (.lst vs) u) (pos:=Y) hl (kG tb tg y sc d) (dG I.2).2 rm F P z λvs γ s1 l u l1 w1 r1 L U=>?_)
  refine ⟨fS (ae r1.length (ae l1 (of_decide_eq_true I.1))),?_⟩
  exact rF false L r1 w1 λv rv s2 m H2 q r P2 g2=>x v rv s2 m H2 q r P2 (U.trans g2)
 ·cases fl with
  | none=>
   exact ae (show f=.next from W) (i8 tb tg c D.2 A s1 M l u J k _ _ _ rm F1 L w1 λfl f K s2 m H2 w2 W F2 P2 g2=>x fl f K s2 m H2 w2 W F2 P2 (U.trans g2))
  | some v=>
   refine ah W λrv α=>af α λβ r=>?_;subst β
   exact wpAny_pure (x (some v) _ J s1 l u w1 ⟨rv,rfl,r⟩ F1 L U)
def Pz (c:jU) (a b:Int) (Q:V->Prop):Prop:=match c with
 | .Add=>Q (.int (a+b))
 | .Sub=>Q (.int (a - b))
 | .Mult=>Zc a b/\Q (.int (a*b))
 | .FloorDiv=>b≠0/\b.natAbs.log2 < 9000/\Q (.int (a.fdiv b))
 | .Mod=>b≠0/\Q (.int (a.fmod b))
 | .Pow=>0<=b/\((aI a:Nat):Int)*b<=2^27/\Q (.int (a^b.toNat))
 | .LShift=>0<=b/\(aI a:Int)+b<=2^27/\Q (.int (a*2^b.toNat))
 | .RShift=>0<=b/\Q (.int (a.fdiv (2^b.toNat)))
 | .BitAnd=>Q (.int (jK a b))
 | .BitOr=>Q (.int (ph a b))
 | .BitXor=>Q (.int (n7 a b))
 | .Div=>b≠0/\h0 (sz (decide (a < 0)!=decide (b < 0)) a.natAbs b.natAbs)=false/\Q (.dg (sz (decide (a < 0)!=decide (b < 0)) a.natAbs b.natAbs))
 | _=>False
def PA (c:jU) (a b:UInt64) (Q:V->Prop):Prop:=match c with
 | .Add=>Q (.dg (cJ a b))
 | .Sub=>Q (.dg (gv a b))
 | .Mult=>Q (.dg (bn a b))
 | .Div=>fG b=false/\Q (.dg (d8 a b))
 | .Mod=>fG b=false/\Q (.dg (zs a b).2)
 | _=>False
def hY (c:jU) (a b:V) (Q:V->Prop):Prop:=match a with
 | .int a=>match b with
  | .int b=>Pz c a b Q
  | _=>False
 | .dg a=>match b with
  | .dg b=>PA c a b Q
  | .int b=>match c with
   | .Mult=>h0 (cB b)=false/\Q (.dg (bn a (cB b)))
   | _=>False
  | _=>False
 | .str a=>match b with
  | .str b=>match c with
   | .Add=>(a++b).length<=1000/\Q (.str (a++b))
   | _=>False
  | _=>False
 | _=>False
def Ez (c:jU) (a b:V) (Q:V->Prop):Prop:=match a with
 | .int a=>match b with
  | .int b=>match c with
   | .Add=>Q (.int (a+b))
   | .Sub=>Q (.int (a - b))
   | .LShift=>0<=b/\(aI a:Int)+b<=2^27/\Q (.int (a*2^b.toNat))
   | .RShift=>0<=b/\Q (.int (a.fdiv (2^b.toNat)))
   | _=>False
  | _=>False
 | _=>False
def My (b:Vs) (a:V) (Q:V->Prop):Prop:=match b,a with
 | .USub,.int a=>Q (.int (-a))
 | _,_=>False
section
variable {C:Cx}{N:Nat}{s:Shared}{av:Addr->Prop}{own:List Addr}{H:Hs}{cK:V->Prop}{Q:Value->Shared->Prop}
theorem il (P:Hp C av s own H) (a:jI C av s own H cK Q) (h:cK (.int b)):(Made.int b).post Q s:=a _ _ _ h (R.j2.mpr ⟨_,rfl⟩) P.tok c4.tok
theorem pD (P:Hp C av s own H) (a:jI C av s own H cK Q) (h:cK (.int b)):Q (.int b s.toks) {s with toks:=s.toks+1}:=a _ _ _ h (R.j2.mpr ⟨_,rfl⟩) P.tok c4.tok
theorem qb (a:1<=C.lo) (P:Hp C av s own H) (b:jI C av s own H cK Q) (h:cK (.dg r)):(Made.float r).post Q s:=b _ _ _ h (R.KT.mpr ⟨_,rfl,xM (ar a P.tk)⟩) P.tok c4.tok
theorem yd (i:0<=b) (h:b>=((aI y:Nat):Int)):(if y < 0 then (-1:Int) else 0)=y.fdiv (2^b.toNat):=by
 have c:y.natAbs < 2^b.toNat:=by
  unfold aI at h
  by_cases d:y=0
  ·subst d;simp;exact cW _
  ·have f:(y==0)=false:=by exact decide_eq_false d
   replace h:=(f)▸h
   simp only [pe,if_false] at h
   exact am (PX (n:=y.natAbs)) (dI (by decide) (au eZ 16 [_,_] [_] h rZ))
 have g:(0:Int) < 2^b.toNat:=zV (by decide)
 have e:((2^b.toNat:Nat):Int)=2^b.toNat:=by push_cast;rfl
 refine ae (cY _ (bl g)) ?_
 split
 ·have:y / 2^b.toNat=-1:=by
   apply Int.ediv_eq_neg_one_of_neg_of_le<;>(first | exact ak fh 4 [] [_] ‹_› | exact bI eT 14 [_,_] [_,_] c e fW)
  refine ae this rfl
 ·symm
  exact GM (ak aK 12 [] [_] ‹_›) (bI eT 15 [_,_] [_,_] c e fW)
section
variable {M:Model}{A:Around}{E:Value->Shared->Prop}{a b:Int}{t u:Tok}
theorem Q9 (P:Hp C av s own H) (h:jI C av s own H cK Q) (g:0<=b) (n:((aI a:Nat):Int)*b<=2^27) (c:cK (.int (a^b.toNat))):wpAny C.md A (AN .Pow (.int a t) (.int b u)) Q E s:=by
 by_cases i:b=0
 ·subst i;exact AutoIntOps.pow_0 (by decide) (by decide) (il P h (by simpa using c))
 ·have d:¬(b==0)=true:=by exact λe=>i (eq_of_beq e)
  by_cases f:(a==0 || a==1)=true
  ·refine AutoIntOps.pow_1 g d f (il P h ?_)
   replace f:=(dz _ _)▸f
   obtain ⟨k,o⟩:∃k,b.toNat=k+1:=⟨b.toNat - 1,by exact eP ee 18 [_,_] [_] g i rZ a8⟩
   rcases f with q | q
   ·have:a=0:=by exact of_decide_eq_true q
    subst this;replace c:=(o)▸c;simpa [dX] using c
   ·have:a=1:=by exact of_decide_eq_true q
    subst this;replace c:=(IB)▸c;exact c
  ·by_cases l:(a==-1)=true
   ·refine AutoIntOps.pow_2 g d f l (il P h ?_)
    have:a=-1:=of_decide_eq_true l
    subst this
    have e:(if (b%2==0)=true then (1:Int) else -1)=(-1)^b.toNat:=by
     refine ah (Int.eq_ofNat_of_zero_le g) λk m=>?_;subst m
     simp only [aZ]
     rcases Nat.mod_two_eq_zero_or_one k with q | q
     ·have:((k:Int)%2==0)=true:=by simp;exact bI eT 16 [_,_,_] [_,_] q r7 lR
      refine ae (if_pos this) ?_
      obtain ⟨j,rfl⟩:∃j,k=2*j:=⟨k / 2,by exact bI eT 17 [_,_,_] [] q fM lR⟩
      refine ae IA (ae (show (-1:Int)^2=1 by decide) (ae IB rfl))
     ·have:¬((k:Int)%2==0)=true:=by simp;exact bI eT 18 [_,_,_] [_,_] q r7 lR
      refine ae (if_neg this) ?_
      obtain ⟨j,rfl⟩:∃j,k=2*j+1:=⟨k / 2,by exact bI eT 19 [_,_,_] [] q fM lR⟩
      refine ae (dX _ _) (ae IA (ae (show (-1:Int)^2=1 by decide) (ae IB ?_)));rfl
    exact ae e c
   ·exact AutoIntOps.pow_4 g d f l (by unfold Ze;exact ae decide_eq_true_eq (ae (propext mQ) n)) (il P h c)
theorem LA (g:1<=C.lo) {f:jU} (h:Pz f a b cK) (P:Hp C av s own H) (c:jI C av s own H cK Q):wpAny C.md A (AN f (.int a t) (.int b u)) Q E s:=by
 cases f with
 | Add=>exact E0 (il P c h)
 | Sub=>exact AutoIntOps.sub_0 (il P c h)
 | Mult=>exact AutoIntOps.mul_0 (il P c h.2) h.1
 | FloorDiv=>exact AutoIntOps.floordiv_1 (λe=>h.1 (eq_of_beq e)) (by refine ae (AU h.2.1) ?_;decide) (il P c h.2.2)
 | Mod=>exact AutoIntOps.mod_1 (λe=>h.1 (eq_of_beq e)) (il P c h.2)
 | Pow=>exact Q9 P c h.1 h.2.1 h.2.2
 | LShift=>exact lshift_int h.1 h.2.1 (pD P c h.2.2)
 | RShift=>
  by_cases d:b>=((aI a:Nat):Int)
  ·exact AutoIntOps.rshift_1 (mQ.mpr h.1) d (il P c (ae (yd h.1 d) h.2))
  ·exact AutoIntOps.rshift_2 (mQ.mpr h.1) d (il P c h.2)
 | BitAnd=>exact and_int (pD P c h)
 | BitOr=>exact or_int (pD P c h)
 | BitXor=>exact xor_int (pD P c h)
 | Div=>exact AutoIntOps.truediv_2 (λe=>h.1 (eq_of_beq e)) (by refine ae (h.2.1) ?_;decide) (qb g P c h.2.2)
 | _=>exact cw h
theorem LB (c:1<=C.lo) {e:jU}{a b:UInt64} (h:PA e a b cK) (P:Hp C av s own H) (d:jI C av s own H cK Q):wpAny C.md A (AN e (.float a t) (.float b u)) Q E s:=by
 cases e with
 | Add=>exact Yo (qb c P d h)
 | Sub=>exact Yh (qb c P d h)
 | Mult=>exact Yk (qb c P d h)
 | Div=>exact Yg (by refine ae (h.1) ?_;decide) (qb c P d h.2)
 | Mod=>exact Yl (by refine ae (h.1) ?_;decide) (qb c P d h.2)
 | _=>exact cw h
end
theorem Sb (j:1<=C.lo) {f:jU}{b:V} (h:hY f v b cK):LR C N (AN f) v b cK:=by
 intro A s av own H m n Q E o P g i e
 cases v with
 | int v=>
  cases b with
  | int b=>
   refine ah g λt c=>?_;subst c;refine ah i λu c=>?_;subst c
   exact LA j h P e
  | _=>exact cw h
 | dg v=>
  cases b with
  | dg b=>
   refine ah g λt d=>af d λc O=>?_;subst c;refine ah i λu d=>af d λc O=>?_;subst c
   exact LB j h P e
  | int b=>
   cases f with
   | Mult=>
    refine ah g λt d=>af d λc O=>?_;subst c;refine ah i λu c=>?_;subst c
    exact Yj (by refine ae (h.1) ?_;decide) (qb j P e h.2)
   | _=>exact cw h
  | _=>exact cw h
 | str v=>
  cases b with
  | str b=>
   cases f with
   | Add=>
    refine ah g λt c=>?_;subst c;refine ah i λu c=>?_;subst c
    exact dh (aD _) (SB.add (λp k=>λl=>e _ _ _ h.2 ⟨_,rfl⟩ (P.tok l) c4.tok) (bQ (strLen_append _ _) (fS h.1)))
   | _=>exact cw h
  | _=>exact cw h
 | _=>exact cw h
def binI (c:jU) (a b:V) (Q:V->Prop):Prop:=match a with
 | .int a=>match b with
  | .int b=>match c with
   | .Add=>Q (.int (a+b))
   | _=>False
  | _=>False
 | _=>False
theorem Ou {d:jU}{b:V} (h:binI d v b cK):LR C N (AN d) v b cK:=by
 intro A s av own H i j Q E k P f g e
 cases v with
 | int v=>
  cases b with
  | int b=>
   refine ah f λt c=>?_;subst c;refine ah g λu c=>?_;subst c
   cases d with
   | Add=>exact E0 (il P e h)
   | _=>exact cw h
  | _=>exact cw h
 | _=>exact cw h
theorem RC {f:jU}{b:V} (h:Ez f v b cK):LR C N (inplaceOp f) v b cK:=by
 intro A s av own H j k Q E l P g i d
 cases v with
 | int v=>
  cases b with
  | int b=>
   refine ah g λt c=>?_;subst c;refine ah i λu c=>?_;subst c
   cases f with
   | Add=>exact AutoIntOps.iadd_0 (il P d h)
   | Sub=>exact AutoIntOps.isub_0 (il P d h)
   | LShift=>exact ilshift_int h.1 h.2.1 (pD P d h.2.2)
   | RShift=>
    by_cases e:b>=((aI v:Nat):Int)
    ·exact AutoIntOps.irshift_1 (mQ.mpr h.1) e (il P d (ae (yd h.1 e) h.2))
    ·exact AutoIntOps.irshift_2 (mQ.mpr h.1) e (il P d h.2)
   | _=>exact cw h
  | _=>exact cw h
 | _=>exact cw h
end
noncomputable def pW (f:V->V->Option Bool):List V->List V->Option Bool
 | [],_=>some true
 | x::c,b=>match b with
  | []=>some true
  | y::d=>(f x y).bind λa=>(pW f c d).map (a && ·)
section
set_option autoImplicit true
theorem VD (f':V->V->Option Bool):pW f' [] u1=(some true):=rfl
end
noncomputable def qo:Nat->V->V->Option Bool
 | 0,_,_=>none
 | k+1,a,b=>match a with
  | .int a=>match b with
   | .int b=>some (a==b)
   | .dg b=>some (kV b a==some ep)
   | _=>none
  | .bool a=>match b with
   | .bool b=>some (a==b)
   | _=>none
  | .str a=>match b with
   | .str b=>some (a==b)
   | _=>none
  | .dg a=>match b with
   | .dg b=>if (a==b && be a a==some ep)=true then some true else none
   | .int b=>some (kV a b==some ep)
   | _=>none
  | .lst c=>match b with
   | .lst d=>if c.length=d.length then pW (qo k) c d else some false
   | _=>none
  | .tup c=>match b with
   | .tup d=>if c.length=d.length then pW (qo k) c d else none
   | _=>none
  | _=>none
noncomputable def xS (f:V->V->Option Bool) (a b:List V) (j:Nat):Bool:=((a[j]?.bind λx=>b[j]?.map λy=>(f x y).getD false)).getD false
theorem Cw {f:V->V->Option Bool}{y:V}{d:List V} (h:pW f (v::l) (y::d)=some o):∃a b,f v y=some a/\pW f l d=some b/\o=(a && b):=
 (cg.mp h).elim λa h=>(dH.mp h.2).elim λb q=>⟨a,b,h.1,q.1,q.2.symm⟩
theorem Cy {f:V->V->Option Bool}:∀(d c:List V) (r:Bool),d.length=c.length->pW f d c=some r->
  r=(dT d.length).all (xS f d c)/\∀(j:Nat) x y,d[j]? =some x->c[j]? =some y->f x y=some (xS f d c j)
 | [],_,_,_,h=>⟨(aN h).symm,λO O O e=>nomatch e⟩
 | x::n,c,r,m,h=>by
  cases c with
  | nil=>exact nomatch m
  | cons y o=>
   refine aG (Cw h) λa b g=>aA g λl s w=>?_
   refine af (Cy n o b (fE m) s) λp q=>?_
   have k:xS f (x::n) (y::o) 0=a:=congrArg (·.getD false) l
   refine ⟨?_,λj u v eu i=>?_⟩
   ·refine ae c9 (ae List.range_succ_eq_map (ae ix (ae k (ae xm (ae w (ae p ?_))))));rfl
   ·cases j with
    | zero=>exact aN eu▸aN i▸k.symm▸l
    | succ j=>exact q j u v eu i
theorem vO {h:Heap}{g:Addr->Prop}{d:List Addr}{f:V->V->Option Bool} (n:∀(v w:V) (b:Bool) (o:Value),f v w=some b->R h g d v o->R h g d w o->b=true):
  ∀(i e:List V) (k:List Value) (b:Bool),i.length=e.length->pW f i e=some b->Rs h g d i k->Rs h g d e k->b=true
 | [],_,_,_,_,h,_,_=>(aN h).symm
 | x::F,e,k,b,m,h,D,E=>by
  cases e with
  | nil=>exact nomatch m
  | cons y G=>
   refine aG D λw l c=>aA c λz q r=>?_
   refine aG E λH p c=>aA c λA s u=>?_
   cases z.symm.trans A
   refine aG (Cw h) λa b c=>aA c λB C j=>?_;subst j
   refine ae (n x y a w B q s) (ae (vO n F G l b (fE m) C r u) ?_);rfl
theorem dJ {a:Type _}{c:Prop} [Decidable c] {x y:Option a}{b:a} (h:(if c then x else y)=some b):(c/\x=some b)\/(¬c/\y=some b):=by
 by_cases q:c
 ·replace h:=(if_pos q)▸h;exact .inl ⟨q,h⟩
 ·replace h:=(if_neg q)▸h;exact .inr ⟨q,h⟩
theorem xB {b:Addr} (h:xJ D=xJ b):D=b:=by injection h
theorem NT {t u:Tok} (h:t2 y t=t2 b u):y=b:=by injection h
theorem str_inj {b:Str}{t u:Tok} (h:oh x t=oh b u):x=b:=by injection h
theorem Lv {b:Bool} (h:AP o=AP b):o=b:=by injection h
theorem FL {P:Prop}{t u:Tok} (h:t2 b t=jT r u):P:=nomatch h
theorem NE {a:Array Value} (h:some (listOf j n)=some (listOf a p)):j=a:=by
 injection h with h
 injection h with _ _ h
 injection h
theorem M5 {a:Array Value} (h:Ia j n=Ia a p):j=a:=by injection h
theorem cR {a:Type _}{x:a}{P:Prop} (h:none=some x):P:=nomatch h
set_option genInjectivity false in
inductive VC (k:Nat):V->V->Bool->Prop
 | ii (a c):VC k (.int a) (.int c) (a==c)
 | jf (a c):VC k (.int a) (.dg c) (kV c a==some ep)
 | bb (a c):VC k (.bool a) (.bool c) (a==c)
 | ss (a c):VC k (.str a) (.str c) (a==c)
 | ff (a):(be a a==some ep)=true->VC k (.dg a) (.dg a) true
 | fi (a c):VC k (.dg a) (.int c) (kV a c==some ep)
 | ll (as bs b):as.length=bs.length->pW (qo k) as bs=some b->VC k (.lst as) (.lst bs) b
 | ln (as bs):as.length≠bs.length->VC k (.lst as) (.lst bs) false
 | tt (as bs b):as.length=bs.length->pW (qo k) as bs=some b->VC k (.tup as) (.tup bs) b
theorem A3 {w:V} (e:qo (n+1) v w=some o):VC n v w o:=by
 cases v with
 | int a=>cases w with
  | int c=>exact aN e▸.ii a c
  | dg c=>exact aN e▸.jf a c
  | _=>exact cR e
 | bool a=>cases w with
  | bool c=>exact aN e▸.bb a c
  | _=>exact cR e
 | str a=>cases w with
  | str c=>exact aN e▸.ss a c
  | _=>exact cR e
 | dg a=>cases w with
  | dg c=>exact (dJ e).elim (λq=>aN q.2▸eq_of_beq (dG q.1).1▸.ff a (dG q.1).2) λq=>cR q.2
  | int c=>exact aN e▸.fi a c
  | _=>exact cR e
 | lst d=>cases w with
  | lst f=>exact (dJ e).elim (λq=>.ll d f o q.1 q.2) λq=>aN q.2▸.ln d f q.1
  | _=>exact cR e
 | tup d=>cases w with
  | tup f=>exact (dJ e).elim (λq=>.tt d f o q.1 q.2) λq=>cR q.2
  | _=>exact cR e
 | _=>exact cR e
theorem CV {a:List V} (b:R h d c (.lst l) f) (e:R h d c (.lst a) f):∃i,Rs h d c l i/\Rs h d c a i:=
 b.elim λO b=>b.elim λO b=>b.elim λO b=>e.elim λO e=>e.elim λO e=>e.elim λO e=>
  ⟨_,b.2.2.2.2,NE ((xB (e.1.symm.trans b.1)▸e.2.2.2.1).symm.trans b.2.2.2.1)▸e.2.2.2.2⟩
theorem Jg {e:List V} (b:R h d c (.tup l) f) (j:R h d c (.tup e) f):∃k,Rs h d c l k/\Rs h d c e k:=
 b.elim λO b=>b.elim λO b=>j.elim λO j=>j.elim λO j=>b.2.2.2.1.elim λO g=>j.2.2.2.1.elim λO i=>g.2.2.elim λO a=>i.2.2.elim λO m=>
  ⟨_,b.2.2.2.2,M5 (m.symm.trans ((congrArg Obj.data (aN ((xB (j.1.symm.trans b.1)▸i.1).symm.trans g.1))).trans a))▸j.2.2.2.2⟩
theorem xR {h:Heap}{p:Addr->Prop}{l:List Addr}:∀(k:Nat) (v w:V) (b:Bool) (o:Value),qo k v w=some b->R h p l v o->R h p l w o->b=true
 | 0,_,_,_,_,e,_,_=>nomatch e
 | k+1,v,w,b,o,e,d,f=>by
  cases A3 e with
  | ii a c=>exact d.elim λO g=>f.elim λO i=>beq_iff_eq.mpr (NT (g.symm.trans i))
  | jf a c=>exact d.elim λO g=>f.elim λO i=>FL (g.symm.trans i.1)
  | bb a c=>exact beq_iff_eq.mpr (Lv ((show o=_ from d).symm.trans f))
  | ss a c=>exact d.elim λO g=>f.elim λO i=>beq_iff_eq.mpr (str_inj (g.symm.trans i))
  | ff a=>rfl
  | fi a c=>exact d.elim λO g=>f.elim λO i=>FL (i.symm.trans g.1)
  | ll m n b j e=>exact (CV d f).elim λr q=>vO (xR k) m n _ b j e q.1 q.2
  | ln m n j=>exact (CV d f).elim λr q=>absurd (q.1.length.symm.trans q.2.length) j
  | tt m n b j e=>exact (Jg d f).elim λr q=>vO (xR k) m n _ b j e q.1 q.2
noncomputable def OQ:Value->Value->Bool
 | .float _ _,.float _ _=>true
 | _,_=>false
set_option tactic.hygienic true in
theorem HC {b:Value} (g:OQ f b=false) (hs:f=b->o=true) (h:RcAt A s f b o):EqAt A s f b o:=λc w E Q a=>by
 unfold eqBool
 refine dV ?_
 refine X9 (λd=>?_) (λO=>?_)
 ·have:=hs (eq_of_beq d);subst this
  exact wpAny_bind (ud (wpAny_pure a))
 ·dsimp only
  split
  ·rename_i x y e
   cases e;exact dS g
  ·exact wpAny_bind (h c w E _ (se a))
theorem HD {t u:Tok} (g:t≠0) (i:u≠0) (f:kB s.heap) (h:RcAt A s (.float r t) (.float r u) true):EqAt A s (.float r t) (.float r u) true:=λa w E Q e=>by
 unfold eqBool
 refine dV ?_
 refine X9 (λj=>?_) (λO=>?_)
 ·exact wpAny_bind (ud (wpAny_pure e))
 ·have c:∀b:Bool,wpAny (model a w) A (if b=true then pure true else richCompare .Eq (.float r t) (.float r u) >>= λx=>Y5 x) Q E s:=λb=>by
   cases b with
   | true=>exact wpAny_pure e
   | false=>exact wpAny_bind (h a w E _ (se e))
  have d:wpAny (model a w) A (isSame (.float r t) (.float r u)) (λb k=>wpAny (model a w) A (if b=true then pure true else richCompare .Eq (.float r t) (.float r u) >>= λx=>Y5 x) Q E k) E s:=by
   show wpAny _ A (isSame.created (r==r && !t4 r) t u) _ E s
   unfold isSame.created
   refine VZ ?_
   split
   ·rename_i h;simp at h;rcases h with q | q
    ·exact absurd q g
    ·exact absurd q i
   refine VZ ?_
   split
   ·exact wpAny_pure (c _)
   refine VZ ?_
   split
   ·exact wpAny_pure (c _)
   refine wpAny_bind (HV f ?_)
   first | refine ae (if_neg kT) ?_ | simp only [pe,if_false]
   refine wpAny_bind (HV f ?_)
   first | refine ae (if_neg kT) ?_ | simp only [pe,if_false]
   exact wpAny_bind (ud (wpAny_bind (wpAny_askSetting (wpAny_pure (c _)))))
  exact wpAny_bind d
theorem in1_units (A:Around):A.in1.units=A.units+1:=rfl
theorem vQ {f:V->V->Option Bool} (y:∀(v w:V) (o:Bool) (r g:Value),f v w=some o->R s.heap d c v r->R s.heap d c w g->EqAt A s r g o)
  {e:List V}{b:Array Value} (p:l.length=e.length) (h:pW f l e=some o) (a:Rs s.heap d c l j.toList) (i:Rs s.heap d c e b.toList):
  o=(dT j.size).all (xS f l e)/\j.size=b.size/\∀k (m:k < j.size) (n:k < b.size),EqAt A s j[k] b[k] (xS f l e k):=by
 refine af (Cy l e o p h) λu x=>?_
 refine ⟨a.size▸u,a.size.trans (p.trans i.size.symm),λk m n=>?_⟩
 have q:=aT (a.size▸m)
 have hy:=aT (i.size▸n)
 exact y _ _ _ _ _ (x k _ _ q hy) (a.at q (pk m)) (i.at hy (pk n))
set_option genInjectivity false in
inductive VG (A:Around) (s:Shared) (rv OY:Value) (b:Bool):Prop
 | l:EqAt A s rv OY b->RcAt A s rv OY b->RcNeAt A s rv OY (!b)->VG A s rv OY b
 | r:OQ rv OY=false->RcAt A s rv OY b->RcNeAt A s rv OY (!b)->VG A s rv OY b
theorem VG.fin {A:Around}{s:Shared}{c a:Value}{b:Bool} (h:VG A s c a b) (k:c=a->b=true):EqAt A s c a b/\RcAt A s c a b/\RcNeAt A s c a (!b):=by
 cases h with
 | l e d f=>exact ⟨e,d,f⟩
 | r e d f=>exact ⟨HC e k d,d,f⟩
theorem oP (a:A.units+(n+1) < cLine):A.units < cLine:=bL (gT _ _) a
theorem Qa {K:Addr->Prop}{w:V}{h:Value} (W:kB s.heap) (j:A.units+(n+1) < cLine) (U:∀(v w:V) (o:Bool) (f h:Value),qo n v w=some o->R s.heap K c v f->R s.heap K c w h->EqAt A.in1 s f h o)
  (e:qo (n+1) v w=some o) (m:R s.heap K c v f) (b:R s.heap K c w h):
  VG A s f h o:=by
 cases A3 e with
 | ii a y=>refine ah m λt d=>?_;subst d;refine ah b λu d=>?_;subst d;exact .r rfl (RcAt.int_int _ _ _ _) (RcNeAt.int_int _ _ _ _)
 | jf a y=>refine ah m λt d=>?_;subst d;refine ah b λu k=>af k λd O=>?_;subst d;exact .r rfl (λg w E Q i=>Yx i) λg w E Q i=>Yq i
 | bb a y=>cases (show f=_ from m);cases (show h=_ from b);exact .r rfl (RcAt.bool_bool _ _) (RcNeAt.bool_bool _ _)
 | ss a y=>refine ah m λt d=>?_;subst d;refine ah b λu d=>?_;subst d;exact .r rfl (RcAt.str_str _ _ _ _) (RcNeAt.str_str _ _ _ _)
 | ff a j=>
  refine ah m λt k=>af k λd M=>?_;subst d;refine ah b λu k=>af k λd N=>?_;subst d
  have F:RcAt A s (.float a t) (.float a u) true:=λg w E Q i=>Ci (ae j i)
  exact .l (HD M N W F) F λg w E Q i=>Yi (ae (eq_of_beq j) i)
 | fi a y=>refine ah m λt k=>af k λd O=>?_;subst d;refine ah b λu d=>?_;subst d;exact .r rfl (λg w E Q i=>Yy i) λg w E Q i=>Yr i
 | ll J L o C e=>
  refine bj m λa S l k=>bh k λd O O p H=>?_;subst d
  refine bj b λT x G k=>bh k λd O O r I=>?_;subst d
  exact aA (vQ U C e H I) λP z B=>(ae P (.r rfl (Yd ⟨_,p,rfl,l,rfl⟩ ⟨_,r,rfl,G,rfl⟩ z (oP j) B) (Sx ⟨_,p,rfl,l,rfl⟩ ⟨_,r,rfl,G,rfl⟩ z (oP j) B)))
 | ln J L C=>
  refine bj m λa S l k=>bh k λd O O p H=>?_;subst d
  refine bj b λT x G k=>bh k λd O O r I=>?_;subst d
  have D:(S.size !=x.size)=true:=bne_iff_ne.mpr λq=>C (H.size.symm.trans (q.trans I.size))
  exact .r rfl (L1 ⟨_,p,rfl,l,rfl⟩ ⟨_,r,rfl,G,rfl⟩ D (oP j)) (EZ ⟨_,p,rfl,l,rfl⟩ ⟨_,r,rfl,G,rfl⟩ D (oP j))
 | tt J L o C e=>
  refine aG m λa S k=>bh k λd O O p H=>?_;subst d
  refine aG b λT x k=>bh k λd O O r I=>?_;subst d
  refine aA (vQ U C e H I) λP z B=>?_
  have M:=RcAt.tuples (A:=A) (s:=s) (e:=xS (qo n) J L) p r (oP j) B
  have N:=RcNeAt.tuples (A:=A) (s:=s) (e:=xS (qo n) J L) p r (oP j) B
  rw [z,Nat.min_self,<- z,<- P,beq_self_eq_true,Ta] at M N
  exact .r rfl M N
theorem A4 {i:Addr->Prop}{d:List Addr}{s:Shared} (j:kB s.heap):∀(k:Nat) (A:Around) (v w:V) (b:Bool) (c a:Value),A.units+k < cLine->qo k v w=some b->R s.heap i d v c->R s.heap i d w a->
  EqAt A s c a b/\RcAt A s c a b/\RcNeAt A s c a (!b)
 | 0,_,_,_,_,_,_,_,e,_,_=>nomatch e
 | k+1,A,v,w,b,c,a,l,e,f,g=>
  (Qa j l (λv w b c a h f g=>(A4 j k A.in1 v w b c a (ae (in1_units _) (ae (m9 _ _ _) (ae (Wf 1 _) l))) h f g).1) e f g).fin λq=>xR (k+1) v w b c e f (q▸g)
section
variable {C:Cx}{N:Nat}{s:Shared}{av:Addr->Prop}{own:List Addr}{H:Hs}
theorem lr (P:Hp C av s own H) (r:R s.heap av own v f) (h:vw H v=.lst l):
  ∃a b n,f=.ref a/\s.heap.get? a=some (listOf b n)/\Rs s.heap av own l b.toList:=by
 cases v with
 | lst a=>cases h;exact r.elim λv r=>r.elim λb r=>r.elim λn r=>⟨v,b,n,r.1,r.2.2.2.1,r.2.2.2.2⟩
 | ref n=>
  replace h:V.lst (H.getD n [])=.lst l:=h
  refine r.elim λv r=>?_
  have d:n < H.length:=P.len▸(aL.mp r.2).1
  rw [ax,aT d] at h
  injection h with h
  exact (P.lst n v l r.2 ((aT d).trans (congrArg some h))).elim λb q=>q.elim λk q=>⟨v,b,k,r.1,q.1,q.2⟩
 | _=>exact nomatch h
theorem A1 {b:V} (h:vw H v=b) (c:∀d,b≠.lst d):v=b:=by
 cases v<;>first | exact h | (exact absurd h.symm (c _))
noncomputable def SK (a b:List V):Option Bool:=if a.length=b.length then pW (qo 4) a b else some false
theorem Rw {x:List V}{d:Array Value}{i:Addr} (b:kB s.heap) (g:A.units+5 < cLine) (e:SK l x=some o) (E:s.heap.get? D=some (listOf j n)) (y:Rs s.heap av own l j.toList)
  (F:s.heap.get? i=some (listOf d p)) (z:Rs s.heap av own x d.toList):RcAt A s (.ref D) (.ref i) o/\RcNeAt A s (.ref D) (.ref i) (!o):=by
 have a:s.heap.IsList D j:=⟨_,E,rfl,n,rfl⟩
 have c:s.heap.IsList i d:=⟨_,F,rfl,p,rfl⟩
 rcases dJ e with ⟨k,e⟩ | ⟨k,e⟩
 ·exact aA (vQ (λv w o J m h G I=>(A4 b 4 A.in1 v w o J m (ae (in1_units _) g) h G I).1) k e y z) λB r u=>(ae B ⟨Yd a c r (oP g) u,Sx a c r (oP g) u⟩)
 ·cases e
  have f:(j.size !=d.size)=true:=bne_iff_ne.mpr λq=>k (y.size.symm.trans (q.trans z.size))
  exact ⟨L1 a c f (oP g),EZ a c f (oP g)⟩
noncomputable def dv (h:Heap):Nat->Value->V
 | 0,_=>.none
 | k+1,v=>match v with
  | .bool b=>.bool b
  | .int i _=>.int i
  | .float x _=>.dg x
  | .str s _=>.str s
  | .bytes b _=>.sw b
  | .ref a=>match h.get? a with
   | some o=>match o.data with
    | .seq c _=>if (o.cls==.type "tuple")=true then .tup (c.toList.map (dv h k)) else .lst (c.toList.map (dv h k))
    | _=>.obj a
   | none=>.obj a
  | _=>.none
noncomputable def flat:Nat->V->Bool
 | 0,_=>false
 | k+1,v=>match v with
  | .lst a=>a.all (flat k)
  | .tup a=>a.all (flat k)
  | .ref _=>false
  | .obj _=>false
  | _=>true
theorem K8:dv h (n+1) (.ref D)=(match h.get? D with
   | some o=>match o.data with
    | .seq b _=>if (o.cls==.type "tuple")=true then .tup (b.toList.map (dv h n)) else .lst (b.toList.map (dv h n))
    | _=>.obj D
   | none=>.obj D):=rfl
theorem K7 {h:Heap}{k:Nat} (d:∀(v:V) (y:Value),flat k v=true->R h av own v y->dv h k y=v):∀(a:List V) (e:List Value),a.all (flat k)=true->Rs h av own a e->e.map (dv h k)=a
 | [],_,_,r=>(show _=[] from r)▸rfl
 | v::a,_,c,r=>r.elim λw r=>r.elim λb r=>r.1▸congr (congrArg Zg (d v w (dG c).1 r.2.1)) (K7 d a b (dG c).2 r.2.2)
theorem Oj {h:Heap}:∀(k:Nat) (v:V) (y:Value),flat k v=true->R h av own v y->dv h k y=v
 | 0,_,_,e,_=>nomatch e
 | k+1,v,y,e,r=>by
  cases v with
  | lst l=>
   refine bj r λa q n c=>bh c λd O O o f=>?_;subst d
   exact ae K8 (ae o (congrArg V.lst (K7 (Oj k) l _ e f)))
  | tup l=>
   refine aG r λa q c=>bh c λd O O g f=>ah g λo i=>aA i λm p j=>ah j λn hd=>?_;subst d
   refine ae K8 (ae m ?_);dsimp only;refine ae hd ?_;dsimp only
   exact ae (if_pos (by rw [p];decide)) (congrArg V.tup (K7 (Oj k) l _ e f))
  | ref n=>exact dk e
  | obj n=>exact dk e
  | none=>exact (show y=_ from r)▸rfl
  | bool b=>exact (show y=_ from r)▸rfl
  | int b=>exact r.elim λO r=>r▸rfl
  | dg b=>exact r.elim λO r=>r.1▸rfl
  | str b=>exact r.elim λO r=>r▸rfl
  | sw b=>exact r.elim λO r=>r▸rfl
noncomputable def NV (b:List V) (a:V):Option Bool:=if (b.all λv=>flat 4 v && (qo 4 v a).isSome)=true then some (b.any λv=>(qo 4 v a).getD false) else none
noncomputable def qM (h:Heap) (a:V) (y:Value):Bool:=(qo 4 (dv h 4 y) a).getD false
theorem Ky {a:V}:∀(b:List V) (l:List Value),(∀v∈b,flat 4 v=true)->Rs s.heap av own b l->l.map (qM s.heap a)=b.map λv=>(qo 4 v a).getD false
 | [],_,_,r=>(show _=[] from r)▸rfl
 | v::b,_,c,r=>r.elim λw r=>r.elim λe r=>r.1▸congr (congrArg Zg (congrArg (λx=>(qo 4 x a).getD false) (Oj 4 v w (c v (aB ..)) r.2.1))) (Ky b e (λx d=>c x (aP _ d)) r.2.2)
theorem Kp (w:kB s.heap) (x:A.units+5 < cLine) (e:NV l v=some o) (h:Rs s.heap av own l j.toList) (r:R s.heap av own v f):
  (∀y,y∈j->EqAt A.in1 s y f (qM s.heap v y))/\o=j.any (qM s.heap v)/\j.toList.map (qM s.heap v)=l.map λc=>(qo 4 c v).getD false:=by
 rcases dJ e with ⟨a,e⟩ | ⟨_,e⟩
 ·cases e
  have m:∀c∈l,flat 4 c=true/\(qo 4 c v).isSome=true:=λc d=>dG (aS.mp a c d)
  have k:=Ky (a:=v) l j.toList (λc d=>(m c d).1) h
  refine ⟨λy hy=>?_,?_,k⟩
  ·obtain ⟨i,n,rfl⟩:=Array.mem_iff_getElem.mp hy
   have d:=aT (h.size▸n)
   have p:=h.at d (pk n)
   refine af (m _ (bB d)) λq u=>?_
   refine ah (ig.mp u) λb g=>?_
   unfold qM
   exact ae (Oj 4 _ _ q p) (ae g ((A4 w 4 A.in1 _ v b _ f (by exact ae (in1_units _) x) g p r).1))
  ·refine bQ Array.any_toList ?_
   have:j.toList.any (qM s.heap v)=(j.toList.map (qM s.heap v)).any id:=by refine ae xl ?_;rfl
   refine ae this (ae k (ae xl ?_));rfl
 ·exact bN e
noncomputable def VK (a b:V):Option Bool:=match a with
 | .none=>match b with
  | .none=>some true
  | .int _=>some false
  | _=>none
 | .int _=>match b with
  | .none=>some false
  | _=>none
 | .bool a=>match b with
  | .bool b=>some (a==b)
  | _=>none
 | _=>none
noncomputable def Dt (a b:V) (H:Hs):Option Bool:=match vw H a with
 | .lst c=>match vw H b with
  | .lst d=>SK c d
  | _=>none
 | x=>qo 4 x (vw H b)
noncomputable def SM (a b:V) (H:Hs):Option Bool:=match vw H b with
 | .lst c=>NV c a
 | _=>none
noncomputable def A7 (a b:V):Option (UInt64×UInt64):=match a with
 | .dg x=>match b with
  | .dg y=>some (x,y)
  | _=>none
 | _=>none
noncomputable def zA (a b:V):Option (Int×Int):=match a with
 | .int x=>match b with
  | .int y=>some (x,y)
  | _=>none
 | _=>none
noncomputable def Qg (a b:V):Option (Str×Str):=match a with
 | .str x=>match b with
  | .str y=>some (x,y)
  | _=>none
 | _=>none
def By {a:Type _} (o:Option a) (f:a->Prop) (P:Prop):Prop:=match o with
 | some p=>f p
 | none=>P
theorem jM {a:Type _}{o:Option a}{f:a->Prop}{P:Prop} (h:By o f P):(∃p,o=some p/\f p)\/P:=by
 cases o with
 | none=>exact .inr h
 | some p=>exact .inl ⟨p,rfl,h⟩
def tU (c:CmpOp) (a b:V) (H:Hs) (Q:Bool->Prop):Prop:=match c with
 | .Eq=>By (A7 a b) (λp=>Q (be p.1 p.2==some ep)) (∃k,Dt a b H=some k/\Q k)
 | .NotEq=>∃k,Dt a b H=some k/\Q (!k)
 | .Lt=>By (zA a b) (λp=>Q (decide (p.1 < p.2))) (By (A7 a b) (λp=>Q (be p.1 p.2==some bz)) False)
 | .LtE=>By (zA a b) (λp=>Q (decide (p.1<=p.2))) (By (A7 a b) (λp=>Q (be p.1 p.2==some bz || be p.1 p.2==some ep)) False)
 | .Gt=>By (zA a b) (λp=>Q (decide (p.2 < p.1))) False
 | .GtE=>False
 | .Is=>∃k,VK a b=some k/\Q k
 | .IsNot=>∃k,VK a b=some k/\Q (!k)
 | .In=>By (Qg a b) (λp=>Q (xK p.2 p.1)) (∃k,SM a b H=some k/\Q k)
 | .NotIn=>By (Qg a b) (λp=>Q (!xK p.2 p.1)) (∃k,SM a b H=some k/\Q (!k))
theorem DZ {b:V}{g:Value}{p:UInt64×UInt64} (e:A7 v b=some p) (c:R h av own v f) (d:R h av own b g):∃t u,f=.float p.1 t/\g=.float p.2 u:=by
 cases v with
 | dg x=>cases b with
  | dg y=>cases e;exact c.elim λt c=>d.elim λu d=>⟨t,u,c.1,d.1⟩
  | _=>exact cR e
 | _=>exact cR e
theorem vT {b:V}{g:Value}{p:Int×Int} (e:zA v b=some p) (c:R h av own v f) (d:R h av own b g):∃t u,f=.int p.1 t/\g=.int p.2 u:=by
 cases v with
 | int x=>cases b with
  | int y=>cases e;exact c.elim λt c=>d.elim λu d=>⟨t,u,c,d⟩
  | _=>exact cR e
 | _=>exact cR e
theorem IK {b:V}{g:Value}{p:Str×Str} (e:Qg v b=some p) (c:R h av own v f) (d:R h av own b g):∃t u,f=.str p.1 t/\g=.str p.2 u:=by
 cases v with
 | str x=>cases b with
  | str y=>cases e;exact c.elim λt c=>d.elim λu d=>⟨t,u,c,d⟩
  | _=>exact cR e
 | _=>exact cR e
def GP (a:V) (H:Hs) (Q:Bool->Prop):Prop:=match vw H a with
 | .bool b=>Q b
 | .int i=>Q (i !=0)
 | .lst c=>c.length<=1000/\Q (!c.isEmpty)
 | _=>False
theorem HB {b:V} (d:∀c,vw H v≠.lst c):Dt v b H=qo 4 (vw H v) (vw H b):=by
 unfold Dt
 generalize vw H v=x at *
 cases x with
 | lst c=>exact absurd rfl (d c)
 | _=>rfl
theorem K2 {b:V}{j:Value} (P:Hp C av s own H) (p:kB s.heap) (r:A.units+6 < cLine) (e:Dt v b H=some o) (u:R s.heap av own v f) (k:R s.heap av own b j):RcAt A s f j o/\RcNeAt A s f j (!o):=by
 by_cases h:∃c,vw H v=.lst c
 ·refine ah h λc h=>?_
  unfold Dt at e
  replace e:=(h)▸e
  cases hy:vw H b with
  | lst m=>
   replace e:=(hy)▸e
   refine bj (lr P u h) λl G n i=>aA i λg w z=>?_;subst g
   refine bj (lr P k hy) λE D F i=>aA i λg y B=>?_;subst g
   exact Rw p (bL (bx _) r) e w z y B
  | _=>replace e:=(hy)▸e;exact cR e
 ·have d:∀c,vw H v≠.lst c:=λc q=>h ⟨c,q⟩
  replace e:=(HB d)▸e
  have a:∀m,vw H b≠.lst m:=λm q=>by
   replace e:=(q)▸e
   generalize vw H v=x at *
   cases A3 e with
   | ll c=>exact d c rfl
   | ln c=>exact d c rfl
  replace e:=(Eq.symm (A1 rfl a))▸(Eq.symm (A1 rfl d))▸e
  exact (A4 p 4 A v b o f j (bL (Nat.add_le_add_left (by decide) _) r) e u k).2
theorem NP {b:V} (e:VK v b=some o):(v=.none/\b=.none/\o=true)\/(v=.none/\(∃i,b=.int i)/\o=false)\/((∃i,v=.int i)/\b=.none/\o=false)\/∃x y,v=.bool x/\b=.bool y/\o=(x==y):=by
 cases v with
 | none=>cases b with
  | none=>exact .inl ⟨rfl,rfl,(aN e).symm⟩
  | int i=>exact .inr (.inl ⟨rfl,⟨i,rfl⟩,(aN e).symm⟩)
  | _=>exact cR e
 | int i=>cases b with
  | none=>exact .inr (.inr (.inl ⟨⟨i,rfl⟩,rfl,(aN e).symm⟩))
  | _=>exact cR e
 | bool x=>cases b with
  | bool y=>exact .inr (.inr (.inr ⟨x,y,rfl,rfl,(aN e).symm⟩))
  | _=>exact cR e
 | _=>exact cR e
theorem Kl {M:Model}{b:V}{d:Value} (e:VK v b=some o) (g:R s.heap av own v d) (j:R s.heap av own b f):
  (∀E:Value->Shared->Prop,E (.bool o) s->wpAny M A (L0 .Is d f) E Q s)/\(∀E:Value->Shared->Prop,E (.bool (!o)) s->wpAny M A (L0 .IsNot d f) E Q s):=by
 rcases NP e with ⟨rfl,rfl,rfl⟩ | ⟨rfl,⟨i,rfl⟩,rfl⟩ | ⟨⟨i,rfl⟩,rfl,rfl⟩ | ⟨v,b,rfl,rfl,rfl⟩
 ·cases (show d=_ from g);cases (show f=_ from j)
  exact ⟨λE h=>wO rfl h,λE h=>sf rfl h⟩
 ·cases (show d=_ from g);refine ah j λt c=>?_;subst c
  exact ⟨λE h=>wO rfl h,λE h=>sf rfl h⟩
 ·cases (show f=_ from j);refine ah g λt c=>?_;subst c
  exact ⟨λE h=>wO rfl h,λE h=>sf rfl h⟩
 ·cases (show d=_ from g);cases (show f=_ from j)
  have l:(AP v==AP b)=(v==b):=by cases v<;>cases b<;>rfl
  exact ⟨λE h=>wO rfl (ae l h),λE h=>sf rfl (by exact ae l h)⟩
theorem Kq {b:V}{h:Value} (P:Hp C av s own H) (m:kB s.heap) (p:A.units+6 < cLine) (e:SM v b H=some o) (q:R s.heap av own v f) (r:R s.heap av own b h):
  ∃l c n,h=.ref l/\s.heap.get? l=some (listOf c n)/\(∀y,y∈c->EqAt A.in1 s y f (qM s.heap v y))/\o=c.any (qM s.heap v):=by
 unfold SM at e
 cases hv:vw H b with
 | lst k=>
  replace e:=(hv)▸e
  refine bj (lr P r hv) λl c n d=>aA d λg a u=>?_;subst g
  exact aA (Kp (A:=A) m (bL (bx _) p) e u q) λi j O=>⟨l,c,n,rfl,a,i,j⟩
 | _=>replace e:=(hv)▸e;exact cR e
theorem R2 {z:CmpOp}{b:V} (B:C.Ok) (h:tU z v b H E):Vd C N (L0 z) v b H E:=by
 intro A s av own J K Q m F P i j D
 have a:kB s.heap:=B.nb.imp λI q=>⟨q.1.keeps P.gd.base,q.2⟩
 have w:A.units+6 < cLine:=bL (bA bZ 9 [_,_] []) F.un
 have g:∀k,E k->Q (.bool k) s:=λk r=>D k s r P c4.refl
 cases z with
 | Eq=>
  rcases jM h with ⟨p,e,h⟩ | ⟨k,e,r⟩
  ·refine aG (DZ e i j) λt u c=>af c λd f=>?_;subst d;subst f
   exact Ci (g _ h)
  ·exact (K2 P a w e i j).1 _ _ _ _ (g _ r)
 | NotEq=>exact h.elim λk h=>(K2 P a w h.1 i j).2 _ _ _ _ (g _ h.2)
 | Lt=>
  rcases jM h with ⟨p,e,h⟩ | h
  ·refine aG (vT e i j) λt u c=>af c λd f=>?_;subst d;subst f
   exact Ys (g _ h)
  ·rcases jM h with ⟨p,e,h⟩ | h
   ·refine aG (DZ e i j) λt u c=>af c λd f=>?_;subst d;subst f
    exact Ym (g _ h)
   ·exact h.elim
 | LtE=>
  rcases jM h with ⟨p,e,h⟩ | h
  ·refine aG (vT e i j) λt u c=>af c λd f=>?_;subst d;subst f
   exact Yu (g _ h)
  ·rcases jM h with ⟨p,e,h⟩ | h
   ·refine aG (DZ e i j) λt u c=>af c λd f=>?_;subst d;subst f
    exact Yn (g _ h)
   ·exact h.elim
 | Gt=>
  rcases jM h with ⟨p,e,h⟩ | h
  ·refine aG (vT e i j) λt u c=>af c λd f=>?_;subst d;subst f
   exact Yv (g _ h)
  ·exact h.elim
 | GtE=>exact cw h
 | Is=>exact h.elim λk h=>(Kl h.1 i j).1 _ (g _ h.2)
 | IsNot=>exact h.elim λk h=>(Kl h.1 i j).2 _ (g _ h.2)
 | In=>
  rcases jM h with ⟨p,e,h⟩ | ⟨k,e,r⟩
  ·refine aG (IK e i j) λt u c=>af c λd f=>?_;subst d;subst f
   exact SB.contains (g _ h)
  ·refine bj (Kq P a w e i j) λl G n c=>cu c λd o x y=>?_;subst d
   exact in_listAt _ ⟨_,o,rfl,n,rfl⟩ x (g _ (y▸r))
 | NotIn=>
  rcases jM h with ⟨p,e,h⟩ | ⟨k,e,r⟩
  ·refine aG (IK e i j) λt u c=>af c λd f=>?_;subst d;subst f
   exact SB.notContains (g _ h)
  ·refine bj (Kq P a w e i j) λl G n c=>cu c λd o x y=>?_;subst d
   exact notIn_listAt _ ⟨_,o,rfl,n,rfl⟩ x (g _ (y▸r))
theorem Qe {c:Vs} (h:My c v g):∀A s av own H d (Q E:Value->Shared->Prop),fD A N->Hp C av s own H->R s.heap av own v d->jI C av s own H g Q->
  wpAny C.md A (unaryOp c d) Q E s:=by
 intro A s av own H d Q E i P a f
 cases c with
 | USub=>cases v with
  | int v=>refine ah a λt e=>?_;subst e;exact Yp (pD P f h)
  | _=>exact cw h
 | _=>exact cw h
theorem CE {c:Bool->Shared->Prop} (m:vw H v=.lst l) (hs:l.length<=1000) (h:E (!l.isEmpty)) (P:Hp C av s own H) (p:R s.heap av own v f) (k:LU C av s own H E c):wpAny C.md A (truthy f) c Q s:=by
 refine bj (lr P p m) λa j n d=>aA d λi o q=>?_;subst i
 have g:=q.size
 refine dh (aD _) (wpAny_truthy_list ⟨_,o,rfl,n,rfl⟩ (pj (ji.mpr (ar (dN g) hs)) (by decide)) ?_)
 intro r
 have e:(!j.isEmpty)=!l.isEmpty:=congrArg (!·) (by
  show decide (j.size=0)=_
  refine ae g ?_
  cases l<;>rfl)
 exact ae e (k _ _ h (P.tok (ar (bx _) (bx _))) c4.tok)
theorem Qh (h:GP v H E):Vc C N truthy v H E:=by
 intro A s av own g Q a j P e d
 cases v with
 | bool b=>cases (show g=_ from e);exact se (d _ s h P c4.refl)
 | int i=>refine ah e λt f=>?_;subst f;exact truthy_int (d _ s h P c4.refl)
 | lst k=>exact CE (H:=H) rfl h.1 h.2 P e d
 | ref n=>exact CE (H:=H) rfl h.1 h.2 P e d
 | _=>exact cw h
end
noncomputable def J6 (a b c:UInt64):UInt64:=
 let m:=if (be a b==some bz)=true then b else a
 if (be m c==some bz)=true then c else m
noncomputable def J5 (a b c:UInt64):UInt64:=
 let m:=if (be b a==some bz)=true then b else a
 if (be c m==some bz)=true then c else m
noncomputable def wD:List V->Option (List Int)
 | []=>some []
 | .int i::r=>(wD r).map (i::·)
 | _::_=>none
section
set_option autoImplicit true
theorem Uu:wD []=(some []):=rfl
theorem Km:wD (.int i'::r')=((wD r').map (i'::·)):=rfl
end
def Et (b:List V) (f:V->Prop):Prop:=match b with
 | []=>False
 | a::r=>match r with
  | []=>f a
  | _::_=>False
def SL (b:List V) (f:V->V->Prop):Prop:=match b with
 | []=>False
 | a::r=>Et r (f a)
def YN (b:List V) (f:V->V->V->Prop):Prop:=match b with
 | []=>False
 | a::r=>SL r (f a)
def Kk (d:List V) (f:V->V->Prop) (g:V->V->V->Prop):Prop:=match d with
 | []=>False
 | a::r=>match r with
  | []=>False
  | b::r=>match r with
   | []=>f a b
   | c::r=>Et (c::r) (g a b)
def Hz (v:V) (f:UInt64->Prop):Prop:=match v with
 | .dg z=>f z
 | _=>False
theorem m5 (h:Et l g):∃a,l=[a]/\g a:=by
 cases l with
 | nil=>exact h.elim
 | cons a r=>cases r with
  | nil=>exact ⟨a,rfl,h⟩
  | cons _ _=>exact h.elim
theorem vg {f:V->V->Prop} (h:SL l f):∃a b,l=[a,b]/\f a b:=by
 cases l with
 | nil=>exact h.elim
 | cons a r=>exact (m5 h).elim λb q=>⟨a,b,congrArg _ q.1,q.2⟩
theorem FH {f:V->V->V->Prop} (h:YN l f):∃a b c,l=[a,b,c]/\f a b c:=by
 cases l with
 | nil=>exact h.elim
 | cons a r=>exact (vg h).elim λb q=>q.elim λc q=>⟨a,b,c,congrArg _ q.1,q.2⟩
theorem Dk {f:V->V->Prop}{g:V->V->V->Prop} (h:Kk l f g):SL l f\/YN l g:=by
 cases l with
 | nil=>exact h.elim
 | cons a r=>cases r with
  | nil=>exact h.elim
  | cons b r=>cases r with
   | nil=>exact .inl h
   | cons c r=>exact .inr h
theorem yJ {f:UInt64->Prop} (h:Hz v f):∃z,v=.dg z/\f z:=by
 cases v with
 | dg z=>exact ⟨z,rfl,h⟩
 | _=>exact h.elim
theorem An {c P Q:Prop} [Decidable c] (h:if c then P else Q):(c/\P)\/(¬c/\Q):=by
 by_cases q:c
 ·replace h:=(if_pos q)▸h;exact .inl ⟨q,h⟩
 ·replace h:=(if_neg q)▸h;exact .inr ⟨q,h⟩
def NI (H:Hs) (Q:V->Prop) (v:V):Prop:=match vw H v with
 | .str s=>s.length<=1000/\Q (.int s.length)
 | .lst l=>l.length<=1000/\Q (.int l.length)
 | _=>False
def Qq (Q:V->Prop) (v:V):Prop:=match v with
 | .lst l=>∃a,wD l=some a/\Q (.int a.sum)
 | _=>False
def sI (x:Str) (d:List V) (H:Hs) (Q:V->Prop):Prop:=
 if x="len" then Et d (NI H Q)
 else if x="sum" then Et d (Qq Q)
 else if x="min" then Kk d (λa b=>By (zA a b) (λp=>Q (.int (if p.2 < p.1 then p.2 else p.1))) False) (λa b c=>By (A7 a b) (λp=>Hz c λz=>Q (.dg (J5 p.1 p.2 z))) False)
 else if x="max" then Kk d (λa b=>By (zA a b) (λp=>Q (.int (if p.2 > p.1 then p.2 else p.1))) False) (λa b c=>By (A7 a b) (λp=>Hz c λz=>Q (.dg (J6 p.1 p.2 z))) False)
 else if x="round" then Et d λv=>Hz v λa=>fr a=true/\t4 a=false/\h0 a=false/\Q (.int (iL cS a))
 else if x="divmod" then SL d λa b=>By (zA a b) (λp=>p.2≠0/\p.2.natAbs.log2 < 9000/\Q (.tup [.int (p.1.fdiv p.2),.int (p.1.fmod p.2)])) False
 else False
noncomputable def wa (x:Str):Bool:=x==("len":Str) || x==("sum":Str) || x==("min":Str) || x==("max":Str) || x==("round":Str) || x==("divmod":Str)
section
variable {C:Cx}{N:Nat}{s:Shared}{av:Addr->Prop}{own:List Addr}{H:Hs}{A:Around}{E:Value->Shared->Prop}
theorem FK {h:Heap}:∀(l:List V) (a:List Int) (c:List Value),wD l=some a->Rs h av own l c->Vv c a
 | [],_,_,e,r=>(show _=[] from r)▸aN e▸.nil
 | v::l,a,c,e,r=>by
  cases v with
  | int i=>exact (dH.mp e).elim λb e=>r.elim λw r=>r.elim λd r=>r.2.1.elim λt q=>r.1▸q▸e.2▸.cons _ _ (FK l b d e.1 r.2.2)
  | _=>exact cR e
theorem Rs.inv1 (r:Rs h av own [v] S):∃w,S=[w]/\R h av own v w:=r.elim λw r=>r.elim λO r=>⟨w,r.1.trans (congrArg _ r.2.2),r.2.1⟩
theorem Rs.inv2 {b:V} (r:Rs h av own [v,b] S):∃w z,S=[w,z]/\R h av own v w/\R h av own b z:=r.elim λw r=>r.elim λO r=>(Rs.inv1 r.2.2).elim λz q=>⟨w,z,r.1.trans (congrArg _ q.1),r.2.1,q.2⟩
theorem Rs.Ut {b c:V} (r:Rs h av own [v,b,c] S):∃w z y,S=[w,z,y]/\R h av own v w/\R h av own b z/\R h av own c y:=r.elim λw r=>r.elim λO r=>(Rs.inv2 r.2.2).elim λz q=>q.elim λy q=>⟨w,z,y,r.1.trans (congrArg _ q.1),r.2.1,q.2⟩
theorem Qp (n:A.handled=none) (g:s.heap.IsList D j) (l:Vv j.toList q)
  (h:∀a f d,(∀b o,s.heap.get? b=some o->a.get? b=some o)->Q (.int q.sum d) {s with heap:=a,toks:=f}):wpAny C.md A (call (.builtin "sum") [.ref D]) Q E s:=by
 refine ah l.allInts.items λi e=>?_
 have k:j=intItems i:=by simpa using e
 subst k
 refine sum_intListG n g λa f d p=>?_
 have m:preSum (numAt i) i.size=q.sum:=by
  refine ae (preSum_eq _ _) (ae (dK (by simp)) (bQ (nums_intItems _) (ae l.numsOf rfl)))
 exact ae m (h a f d p)
theorem CG {Cu:Bool}{b c:Value}{ta:Value->Prop} (u:A.handled=none) (m:Nat->Nat->Bool)
  (r:CmpOf C.prog C.w A.in1 (if Cu then CmpOp.Gt else CmpOp.Lt) (λi v=>(#[f,b,c]:Array Value)[i]? =some v) m)
  (h:∀v a l,(#[f,b,c]:Array Value)[Mh m 2]? =some v->(∀b o,s.heap.get? b=some o->a.get? b=some o)->Q v {s with heap:=a,toks:=l}):
  wpAny C.md A (call (.builtin (if Cu then "max" else "min")) [f,b,c]) Q E s:=by
 have n:(s.heap.push {cls:=.type "tuple",data:=.seq #[f,b,c]}).IsTuple s.heap.objs.size #[f,b,c]:=⟨_,bg _ rfl,rfl,0,rfl⟩
 have hsz:(s.heap.push {cls:=.type "tuple",data:=.seq #[f,b,c]}).objs.size=s.heap.objs.size+1:=bE ..
 have W:=Vr (prog:=C.prog) (w:=C.w) (A:=A.in1) u (s.heap.objs.size+1) s.heap.objs.size (dW (dQ _)) #[f,b,c]
 have g:∀d∈[s.heap.objs.size+1,s.heap.objs.size],d < ((s.heap.push {cls:=.type "tuple",data:=.seq #[f,b,c]}).push {cls:=.type "tuple_iterator",data:=.fields #[.ref s.heap.objs.size,.int 0 0]}).objs.size:=λd hd=>by
  refine ae (bE _ _) (ae hsz ?_)
  rcases aX.mp hd with rfl | hd
  ·exact dQ _
  ·exact ae (ai.mp hd) (jO (dQ _))
 have k:∀(a:Heap),(∀d o,d∉[s.heap.objs.size+1]->((s.heap.push {cls:=.type "tuple",data:=.seq #[f,b,c]}).push {cls:=.type "tuple_iterator",data:=.fields #[.ref s.heap.objs.size,.int 0 0]}).get? d=some o->a.get? d=some o)->
   ∀d o,s.heap.get? d=some o->a.get? d=some o:=λa j d o e=>by
  have hd:=bF e
  exact j d o (λq=>ay _ (jh hd (ae (ai.mp q) (dQ _)))) (aQ _ (aQ _ e))
 cases Cu with
 | true=>
  exact call_max_three (zn n (ae hsz ⟨_,_,_,_,_,_,m,rfl,W,⟨⟨_,by refine bQ hsz ?_;exact bg _ rfl,rfl,rfl⟩,n.push _⟩,g,PU _,r,λv a l p j=>h v a l p (k a j)⟩))
 | false=>
  exact call_min_three (zn n (ae hsz ⟨_,_,_,_,_,_,m,rfl,W,⟨⟨_,by refine bQ hsz ?_;exact bg _ rfl,rfl,rfl⟩,n.push _⟩,g,PU _,r,λv a l p j=>h v a l p (k a j)⟩))
theorem LE (a:Nat->Nat->Bool):Mh a 2=if a 2 (if a 1 0=true then 1 else 0)=true then 2 else if a 1 0=true then 1 else 0:=rfl
theorem O4 {b c:Value} (e:Nat->Nat->Bool):(#[f,b,c]:Array Value)[Mh e 2]? =some (if e 2 (if e 1 0=true then 1 else 0)=true then c else if e 1 0=true then b else f):=by
 refine ae (LE _) ?_
 by_cases a:e 1 0=true
 ·refine ae (if_pos a) (ae (if_pos a) ?_)
  by_cases d:e 2 1=true
  ·refine ae (if_pos d) (ae (if_pos d) ?_);rfl
  ·refine ae (if_neg d) (ae (if_neg d) ?_);rfl
 ·refine ae (if_neg a) (ae (if_neg a) ?_)
  by_cases d:e 2 0=true
  ·refine ae (if_pos d) (ae (if_pos d) ?_);rfl
  ·refine ae (if_neg d) (ae (if_neg d) ?_);rfl
noncomputable def Mf (g:Bool) (a b c:UInt64) (t u x:Tok) (i j:Nat):Bool:=if g=true then Flt.ltV ((#[jT a t,.float b u,.float c x]:Array Value).getD j .none) ((#[jT a t,.float b u,.float c x]:Array Value).getD i .none)
 else Flt.ltV ((#[jT a t,.float b u,.float c x]:Array Value).getD i .none) ((#[jT a t,.float b u,.float c x]:Array Value).getD j .none)
theorem GU {b c:UInt64}{t u x:Tok}:(#[jT r t,.float b u,.float c x]:Array Value)[Mh (Mf true r b c t u x) 2]? =
  some (if (be (if (be r b==some bz)=true then b else r) c==some bz)=true then .float c x else if (be r b==some bz)=true then .float b u else .float r t):=by
 refine ae (O4 _) ?_
 have e:Mf true r b c t u x 1 0=(be r b==some bz):=rfl
 have f:Mf true r b c t u x 2 1=(be b c==some bz):=rfl
 have g:Mf true r b c t u x 2 0=(be r c==some bz):=rfl
 refine ae e ?_
 by_cases d:(be r b==some bz)=true
 ·refine ae (if_pos d) (ae (if_pos d) (ae f (ae (if_pos d) rfl)))
 ·refine ae (if_neg d) (ae (if_neg d) (ae g (ae (if_neg d) rfl)))
theorem D2 {b c:UInt64}{t u x:Tok}:(#[jT r t,.float b u,.float c x]:Array Value)[Mh (Mf false r b c t u x) 2]? =
  some (if (be c (if (be b r==some bz)=true then b else r)==some bz)=true then .float c x else if (be b r==some bz)=true then .float b u else .float r t):=by
 refine ae (O4 _) ?_
 have e:Mf false r b c t u x 1 0=(be b r==some bz):=rfl
 have f:Mf false r b c t u x 2 1=(be c b==some bz):=rfl
 have g:Mf false r b c t u x 2 0=(be c r==some bz):=rfl
 refine ae e ?_
 by_cases d:(be b r==some bz)=true
 ·refine ae (if_pos d) (ae (if_pos d) (ae f (ae (if_pos d) rfl)))
 ·refine ae (if_neg d) (ae (if_neg d) (ae g (ae (if_neg d) rfl)))
theorem O7 {b c:UInt64}{t u x:Tok}:∀v∈(#[jT r t,.float b u,.float c x]:Array Value),Flt.NumV v:=λv e=>by
 have d:v∈[jT r t,.float b u,.float c x]:=by simpa using e
 rcases aX.mp d with rfl | d
 ·exact .float _ _
 ·rcases aX.mp d with rfl | d
  ·exact .float _ _
  ·exact ae (ai.mp d) (.float _ _)
theorem R.ite {c:Prop} [Decidable c] {b:UInt64}{y:Value} (d:R h av own (.dg r) f) (e:R h av own (.dg b) y):R h av own (.dg (if c then r else b)) (if c then f else y):=by
 split
 ·exact d
 ·exact e
theorem E7 {b:V}{g:Value}{p:UInt64×UInt64} (e:A7 v b=some p) (c:R h av own v f) (d:R h av own b g):∃t u,f=.float p.1 t/\g=.float p.2 u/\t≠0/\u≠0:=by
 cases v with
 | dg x=>cases b with
  | dg y=>cases e;exact c.elim λt c=>d.elim λu d=>⟨t,u,c.1,d.1,c.2,d.2⟩
  | _=>exact cR e
 | _=>exact cR e
theorem jI.kept (P:Hp C av s own H) (a:jI C av s own H g Q) (i:g v) (r:∀e,R e av own v f) (d:∀b o,s.heap.get? b=some o->h.get? b=some o) (hs:s.heap.objs.size<=h.objs.size) (j:s.toks<=n):Q f {s with heap:=h,toks:=n}:=
 a _ _ _ i (r _) (P.keeps d hs j) (c4.of_keeps d hs)
theorem R.ite_int {c:Prop} [Decidable c] {t u:Tok}:R h av own (.int (if c then b else y)) (if c then .int b u else .int y t):=by
 split
 ·exact ⟨_,rfl⟩
 ·exact ⟨_,rfl⟩
section
variable {cK:V->Prop}{Q:Value->Shared->Prop}{px:List Value}{vs:List V}
theorem Rx (h:Et vs (NI H cK)) (P:Hp C av s own H) (r:Rs s.heap av own vs px) (f:jI C av s own H cK Q):wpAny C.md A (call (.builtin "len") px) Q E s:=by
 refine ah (m5 h) λv c=>af c λb h=>?_;subst b
 refine ah r.inv1 λw c=>af c λb g=>?_;subst b
 have d:∀n:Nat,n<=1000->(n:Int) < 2^63:=λn q=>pj (ji.mpr q) (by decide)
 unfold NI at h
 have lst:∀l:List V,vw H v=.lst l->l.length<=1000->cK (.int l.length)->wpAny C.md A (call (.builtin "len") [w]) Q E s:=λl k i j=>by
  refine bj (lr P g k) λa p n c=>aA c λb o m=>?_;subst b
  have e:=m.size
  exact call_len_list ⟨_,o,rfl,n,rfl⟩ (e▸d _ i) (ae e (f _ _ _ j ⟨_,rfl⟩ (P.tok (ar (bx _) (bx _))) c4.tok))
 cases v with
 | str x=>refine ah g λt b=>?_;subst b;exact Yt (Mq.mpr (d _ h.1)) (f _ _ _ h.2 ⟨_,rfl⟩ (P.tok (ar (bx _) (bx _))) c4.tok)
 | lst l=>exact lst l rfl h.1 h.2
 | ref n=>exact lst _ rfl h.1 h.2
 | _=>exact h.elim
theorem Qo (d:A.handled=none) (h:Et vs (Qq cK)) (P:Hp C av s own H) (r:Rs s.heap av own vs px) (g:jI C av s own H cK Q):wpAny C.md A (call (.builtin "sum") px) Q E s:=by
 refine ah (m5 h) λv b=>af b λc h=>?_;subst c
 refine ah r.inv1 λw b=>af b λc j=>?_;subst c
 cases v with
 | lst l=>
  refine ah h λp b=>af b λe i=>?_
  refine bj j λa y n b=>bh b λc O O o k=>?_;subst c
  exact dl (Qp d ⟨_,o,rfl,n,rfl⟩ (FK _ _ _ e k) λm x u f=>λq=>g.kept P i (λO=>⟨_,rfl⟩) f q.1 q.2)
 | _=>exact h.elim
theorem Ro (B:A.handled=none) (h:Kk vs (λa b=>By (zA a b) (λp=>cK (.int (if p.2 < p.1 then p.2 else p.1))) False) (λa b c=>By (A7 a b) (λp=>Hz c λz=>cK (.dg (J5 p.1 p.2 z))) False))
  (P:Hp C av s own H) (r:Rs s.heap av own vs px) (D:jI C av s own H cK Q):wpAny C.md A (call (.builtin "min") px) Q E s:=by
 rcases Dk h with h | h
 ·refine aG (vg h) λa b d=>af d λf h=>?_;subst f
  refine aG r.inv2 λw z d=>aA d λf n o=>?_;subst f
  refine ah ((jM h).resolve_right id) λp d=>af d λe h=>?_
  refine aG (vT e n o) λt u d=>af d λf g=>?_;subst f;subst g
  exact dl (min_two_ints B λF I i=>λq=>D.kept P h (λO=>R.ite_int) i q.1 q.2)
 ·refine bj (FH h) λa b c d=>af d λf h=>?_;subst f
  refine bj r.Ut λw z y d=>cu d λf n o G=>?_;subst f
  refine ah ((jM h).resolve_right id) λp d=>af d λe h=>?_
  refine ah (yJ h) λc d=>af d λf h=>?_;subst f
  refine aG (E7 e n o) λt u d=>cu d λf g j k=>?_;subst f;subst g
  refine ah G λx d=>af d λf l=>?_;subst f
  refine dl (CG (Cu:=false) (ta:=λO=>True) B (Mf false _ _ _ _ _ _) (Flt.cmpOf_lt _ O7) λv F I m i=>λq=>?_)
  replace m:=(D2)▸m
  cases m
  exact D.kept P h (λO=>R.ite ⟨_,rfl,l⟩ (R.ite ⟨_,rfl,k⟩ ⟨_,rfl,j⟩)) i q.1 q.2
theorem Rr (B:A.handled=none) (h:Kk vs (λa b=>By (zA a b) (λp=>cK (.int (if p.2 > p.1 then p.2 else p.1))) False) (λa b c=>By (A7 a b) (λp=>Hz c λz=>cK (.dg (J6 p.1 p.2 z))) False))
  (P:Hp C av s own H) (r:Rs s.heap av own vs px) (D:jI C av s own H cK Q):wpAny C.md A (call (.builtin "max") px) Q E s:=by
 rcases Dk h with h | h
 ·refine aG (vg h) λa b d=>af d λf h=>?_;subst f
  refine aG r.inv2 λw z d=>aA d λf n o=>?_;subst f
  refine ah ((jM h).resolve_right id) λp d=>af d λe h=>?_
  refine aG (vT e n o) λt u d=>af d λf g=>?_;subst f;subst g
  exact dl (max_two_ints B λF I i=>λq=>D.kept P h (λO=>R.ite_int) i q.1 q.2)
 ·refine bj (FH h) λa b c d=>af d λf h=>?_;subst f
  refine bj r.Ut λw z y d=>cu d λf n o G=>?_;subst f
  refine ah ((jM h).resolve_right id) λp d=>af d λe h=>?_
  refine ah (yJ h) λc d=>af d λf h=>?_;subst f
  refine aG (E7 e n o) λt u d=>cu d λf g j k=>?_;subst f;subst g
  refine ah G λx d=>af d λf l=>?_;subst f
  refine dl (CG (Cu:=true) (ta:=λO=>True) B (Mf true _ _ _ _ _ _) (Flt.cmpOf_gt _ O7) λv F I m i=>λq=>?_)
  replace m:=(GU)▸m
  cases m
  exact D.kept P h (λO=>R.ite ⟨_,rfl,l⟩ (R.ite ⟨_,rfl,k⟩ ⟨_,rfl,j⟩)) i q.1 q.2
theorem UM (h:SL vs λa b=>By (zA a b) (λp=>p.2≠0/\p.2.natAbs.log2 < 9000/\cK (.tup [.int (p.1.fdiv p.2),.int (p.1.fmod p.2)])) False)
  (P:Hp C av s own H) (r:Rs s.heap av own vs px) (g:jI C av s own H cK Q):wpAny C.md A (call (.builtin "divmod") px) Q E s:=by
 refine aG (vg h) λa b c=>af c λd h=>?_;subst d
 refine aG r.inv2 λw z c=>aA c λd i j=>?_;subst d
 refine ah ((jM h).resolve_right id) λp c=>af c λe h=>?_
 refine aG (vT e i j) λt u c=>af c λd f=>?_;subst d;subst f
 exact Yz h.1 (g _ _ _ h.2.2 ⟨_,_,rfl,λq=>ay _ (P.f4 _ q),P.fresh,⟨_,bg _ rfl,rfl,_,rfl⟩,Rs.cons ⟨_,rfl⟩ (Rs.one ⟨_,rfl⟩)⟩
  (P.push _ (ar (bx _) (bx _))) c4.push) (.inl (AU h.2.1))
end
theorem LC {H:Hs}:sI "len" l H g=Et l (NI H g):=if_pos rfl
theorem UY {H:Hs}:sI "sum" l H g=Et l (Qq g):=(if_neg (by decide)).trans (if_pos rfl)
theorem R9 (h:sI x l H g) (m:mO x=some f):
  ∀A s av own i (Q E:Value->Shared->Prop),fD A N->Hp C av s own H->Rs s.heap av own l i->jI C av s own H g Q->wpAny C.md A (call f i) Q E s:=by
 intro A s av own i Q E k P r j
 have d:∀y id,x=y->mO y=some (.builtin id)->f=.builtin id:=λy id e q=>aN (m.symm.trans (e▸q))
 rcases An h with ⟨e,h⟩ | ⟨_,h⟩
 ·exact ae (d "len" "len" e (by decide +kernel)) (Rx h P r j)
 rcases An h with ⟨e,h⟩ | ⟨_,h⟩
 ·exact ae (d "sum" "sum" e (by decide +kernel)) (Qo k.hd h P r j)
 rcases An h with ⟨e,h⟩ | ⟨_,h⟩
 ·exact ae (d "min" "min" e (by decide +kernel)) (Ro k.hd h P r j)
 rcases An h with ⟨e,h⟩ | ⟨_,h⟩
 ·exact ae (d "max" "max" e (by decide +kernel)) (Rr k.hd h P r j)
 rcases An h with ⟨e,h⟩ | ⟨_,h⟩
 ·refine ae (d "round" "round" e (by decide +kernel)) ?_
  refine ah (m5 h) λv b=>af b λc h=>?_;subst c
  refine ah r.inv1 λw b=>af b λc n=>?_;subst c
  refine ah (yJ h) λa b=>af b λc h=>?_;subst c
  refine ah n λt b=>af b λc O=>?_;subst c
  exact Flt.call_round_float k.hd (λq=>(kT (h.2.1.symm.trans q)).elim) (λq=>(kT (h.2.2.1.symm.trans q)).elim) λO=>j _ _ _ h.2.2.2 ⟨_,rfl⟩ P.tok c4.tok
 rcases An h with ⟨e,h⟩ | ⟨_,h⟩
 ·exact ae (d "divmod" "divmod" e (by decide +kernel)) (UM h P r j)
 ·exact h.elim
end
noncomputable def q5:List V->Option (List Str)
 | []=>some []
 | .str x::r=>(q5 r).map (x::·)
 | _::_=>none
section
set_option autoImplicit true
theorem Tw:q5 []=(some []):=rfl
theorem Tv:q5 (.str x'::r')=((q5 r').map (x'::·)):=rfl
end
noncomputable def fx (a:V):List V->Nat->Option Nat
 | [],_=>none
 | v::r,i=>if (qo 4 v a).getD false=true then some i else fx a r (i+1)
section
set_option autoImplicit true
theorem Pu (a:V):fx a [] u1=(none):=rfl
theorem Dq (a:V):fx a (v'::r') i'=(if (qo 4 v' a).getD false=true then some i' else fx a r' (i'+1)):=rfl
end
noncomputable def ys (c:Addr) (m:Str) (a:V):Option (String×String):=match a with
 | .ref _=>if m="append" then some ("list","list.append") else if m="extend" then some ("list","list.extend") else if m="pop" then some ("list","list.pop") else if m="reverse" then some ("list","list.reverse") else none
 | .lst _=>if m="index" then some ("list","list.index") else none
 | .str _=>if m="join" then some ("str","str.join") else if m="encode" then some ("str","str.encode") else none
 | .sw _=>if m="count" then some ("bytes","bytes.count") else none
 | .int _=>if m="bit_length" then some ("int","int.bit_length") else none
 | .obj b=>if b=c/\m="sub" then some ("re.Pattern","re.Pattern.sub") else none
 | _=>none
section
variable {C:Cx}{N:Nat}{s:Shared}{av:Addr->Prop}{own:List Addr}{H:Hs}{A:Around}{E:Value->Shared->Prop}
theorem wz (f:Array Value->Array Value) (a:Array Value) (n:Nat):∃k,pg f (listOf a n)=listOf (f a) k:=by
 unfold pg W.listOf
 dsimp only
 exact ⟨_,rfl⟩
theorem qf {f:Array Value->Array Value}{Mx:List V}{rv:Value} (P:Hp C av s own H) (ho:own[n]? =some D) (c:s.heap.get? D=some (listOf j p))
  (o:Rs s.heap av own Mx (f j).toList) (g:R s.heap av own v rv) (m:B v (H.set n Mx)) (l:f9 C av s own B Q):Q rv {s with heap:=s.heap.update D (pg f),toks:=s.toks}:=by
 refine ah (wz f j p) λd e=>?_
 refine af (P.set (tk:=s.toks) ho (qU .. :gG D s.heap (s.heap.update D (pg f))) (ws:=f j) (k:=d) (by
  refine ae (sJ _ c (by rw [e];rfl)) (ae e rfl)) o) λi h=>?_
 exact l v rv _ own _ m (g.iv h P.bM cA.nil) i ⟨h,rfl,λO O e=>e,λb=>b⟩
theorem HS {h e:Value} (P:Hp C av s own H) (q:R s.heap av own (.ref n) h) (r:R s.heap av own v e) (m:H[n]? =some l) (hs:l.length<=1000)
  (p:B .none (H.set n (l++[v]))) (o:f9 C av s own B Q):wpAny C.md A (call (.builtin "list.append") [h,e]) Q E s:=by
 refine ah (R.yg.mp q) λa d=>af d λg ho=>?_;subst g
 refine aG (P.lst n a l ho m) λj k d=>af d λb i=>?_
 have hsz:j.size=l.length:=bQ i.length bD
 refine n3 F.slot_list_append ⟨_,b,rfl⟩ F.entry_list_append (args_list_append _ _) (AutoListH.list_append_list_val_0 a j k e (fS (au bq 3 [_,_] [] hs hsz))) ⟨b,?_⟩
 have:=qf (f:=λx=>x.push e) (v:=.none) (rv:=.none) P ho b (Mx:=l++[v]) (ae wX (i.append (Rs.one r))) (R.tO.mpr rfl) p o
 exact this
theorem HA {o:List V}{r w:Value} (P:Hp C av s own H) (I:R s.heap av own (.ref n) r) (J:R s.heap av own (.lst o) w) (z:H[n]? =some l) (hs:l.length+o.length<=1000)
  (D:B .none (H.set n (l++o))) (e:f9 C av s own B Q):wpAny C.md A (call (.builtin "list.extend") [r,w]) Q E s:=by
 refine ah (R.yg.mp I) λa d=>af d λj ho=>?_;subst j
 refine aG (P.lst n a l ho z) λy k d=>af d λc u=>?_
 refine bj (R.td.mp J) λb m G d=>bh d λj O O i p=>?_;subst j
 have hsz:y.size=l.length:=bQ u.length bD
 have g:m.size=o.length:=bQ p.length bD
 have h:=fS hs
 refine n3 F.slot_list_extend ⟨_,c,rfl⟩ F.entry_list_extend (F.args_list_extend_2 _ _) (AutoSeq1.list_extend_list_list_0 a y k b m G ?_ (au eV 7 [_,_,_,_] [] hsz h) (bI eS 16 [_,_,_,_,_] [] hsz g h)) ⟨c,i,?_⟩
 ·intro q
  replace q:=(az _ _)▸q
  have:=q.2
  unfold xh at this
  simp at this
  exact eP jc 9 [_,_,_,_,_] [] hsz g h this
 ·exact qf (f:=λx=>x++m) (v:=.none) (rv:=.none) P ho c (Mx:=l++o) (ae nZ (u.append p)) (R.tO.mpr rfl) D e
theorem Ea {g:Value} (P:Hp C av s own H) (p:R s.heap av own (.ref n) g) (j:H[n]? =some l) (hs:l.length<=1000)
  (o:B .none (H.set n l.reverse)) (m:f9 C av s own B Q):wpAny C.md A (call (.builtin "list.reverse") [g]) Q E s:=by
 refine ah (R.yg.mp p) λa d=>af d λe ho=>?_;subst e
 refine aG (P.lst n a l ho j) λi k d=>af d λb h=>?_
 have hsz:i.size=l.length:=bQ h.length bD
 refine n3 F.slot_list_reverse ⟨_,b,rfl⟩ F.entry_list_reverse (F.args_list_reverse_1 _) (AutoSeq1.list_reverse_list_0 a i k (fS (au bq 3 [_,_] [] hs hsz))) ⟨b,?_⟩
 exact qf (f:=λx=>x.reverse) (v:=.none) (rv:=.none) P ho b (Mx:=l.reverse) (ae Array.toList_reverse h.reverse) (R.tO.mpr rfl) o m
theorem Rs.dropLast {h:Heap}:∀{f:List V}{e:List Value},Rs h av own f e->Rs h av own f.dropLast e.dropLast
 | [],e,r=>by exact ae r.nil_inv Rs.nil
 | [v],e,r=>by
  refine aG r.cons_inv λw g c=>aA c λd O b=>?_;subst d
  exact ae b.nil_inv Rs.nil
 | v::u::f,e,r=>by
  refine aG r.cons_inv λw g c=>aA c λd a b=>?_;subst d
  refine aG b.cons_inv λj i c=>aA c λd O O=>?_;subst d
  exact Rs.cons a (Rs.dropLast b)
theorem Ra {q:Value} (P:Hp C av s own H) (z:R s.heap av own (.ref n) q) (u:H[n]? =some l) (hs:l.length<=1000) (i:l.getLast? =some v)
  (y:B v (H.set n l.dropLast)) (x:f9 C av s own B Q):wpAny C.md A (call (.builtin "list.pop") [q]) Q E s:=by
 refine ah (R.yg.mp z) λa c=>af c λo ho=>?_;subst o
 refine aG (P.lst n a l ho u) λd k c=>af c λb j=>?_
 have hsz:d.size=l.length:=bQ j.length bD
 replace i:=(Cp)▸i
 refine ah (j.get i) λw c=>af c λr m=>?_
 have p:d[d.size - 1]? =some w:=ae hsz (sD.symm.trans r)
 refine n3 F.slot_list_pop ⟨_,b,rfl⟩ F.entry_list_pop (F.args_list_pop_1 _) (MeetsSeq.list_pop_last a d k w p (fS (au bq 3 [_,_] [] hs hsz))) ⟨b,?_⟩
 refine qf (f:=λg=>g.eraseIdxIfInBounds (d.size - 1)) (v:=v) (rv:=w) P ho b (Mx:=l.dropLast) ?_ m y x
 have e:(d.eraseIdxIfInBounds (d.size - 1)).toList=d.toList.dropLast:=by
  have h:d.size - 1 < d.size:=by
   have:=(gU.mp p).1;exact this
  unfold Array.eraseIdxIfInBounds
  refine ae (dif_pos h) (ae Array.toList_eraseIdx (ae (List.eraseIdx_eq_dropLast (by simp;exact au eV 8 [_,_] [] h a8)) rfl))
 exact ae e j.dropLast
theorem wF {a:V}:∀(l:List V) (i j:Nat),fx a l i=some j->i<=j/\j - i < l.length/\(l.map λv=>(qo 4 v a).getD false)[j - i]? =some true/\∀m,m < j - i->(l.map λv=>(qo 4 v a).getD false)[m]? =some false
 | [],i,j,e=>by exact bN e
 | v::l,i,j,e=>by
  replace e:=(Dq _)▸e
  split at e
  ·rename_i c
   cases e
   refine ⟨aD _,by simp,by simp [c],λm b=>by exact cw (au eV 9 [_,_,_] [] b a8)⟩
  ·rename_i c
   refine cu (wF l (i+1) j e) λf g h k=>?_
   have d:j - i=(j - (i+1))+1:=bI cO 3 [_,_,_,_] [] f a8 a8
   refine ⟨by exact b8 ‹_›,by simp;exact bI eS 17 [_,_,_,_,_] [] g a8 a8,by refine ae d ?_;exact h,λm b=>?_⟩
   cases m with
   | zero=>simp;exact eq_false_of_ne_true c
   | succ m=>have:=k m (bI eS 18 [_,_,_,_,_] [] b a8 a8);exact this
theorem Kn {i:Value} (G:kB s.heap) (T:A.units+6 < cLine) (P:Hp C av s own H) (M:R s.heap av own (.lst l) f) (S:R s.heap av own v i)
  (h:NV l v=some o) (I:fx v l 0=some n) (hs:l.length<=1000) (L:B (.int n) H) (K:f9 C av s own B Q):wpAny C.md A (call (.builtin "list.index") [f,i]) Q E s:=by
 refine bj (R.td.mp M) λa b j u=>bh u λp O O d w=>?_;subst p
 have hsz:b.size=l.length:=bQ w.length bD
 refine aA (Kp (A:=A) G (b8 ‹_›) h w S) λD O q=>?_
 refine cu (wF l 0 n I) λO x g y=>?_
 replace g:=(Eq.symm q)▸g
 have k:n < b.size:=bI eS 19 [_,_,_,_] [] hsz x a8
 have z:qM s.heap v b[n]=true:=by
  replace g:=(dc)▸g
  have:b.toList[n]? =some b[n]:=by simp [k]
  rw [sA,this] at g
  exact aN g
 have c:∀m (r:m < b.size),m < n->qM s.heap v b[m]=false:=λm r J=>by
  have:=y m (by assumption)
  replace this:=(dc)▸(Eq.symm q)▸this
  have e:b.toList[m]? =some b[m]:=by simp [r]
  replace this:=(e)▸this
  exact aN this
 refine n3 F.slot_list_index ⟨_,d,rfl⟩ F.entry_list_index (F.args_list_index_2 _ _) (list_indexAt a b j none #[] i (qM s.heap v) n k (by
  have:(1000:Int) < 2^63 - 1:=by decide
  exact bI eS 20 [_,_,_] [] hs hsz k) z c) ⟨d,D,?_⟩
 exact K _ _ _ own H L (R.j2.mpr ⟨_,rfl⟩) P.tok c4.tok
theorem HQ (P:Hp C av s own H) (i:R s.heap av own (.int b) f) (e:B (.int (aI b)) H) (d:f9 C av s own B Q):
  wpAny C.md A (call (.builtin "int.bit_length") [f]) Q E s:=by
 refine ah (R.j2.mp i) λt c=>?_;subst c
 exact call_int_bit_length (d _ _ _ own H e (R.j2.mpr ⟨_,rfl⟩) P.tok c4.tok)
set_option tactic.hygienic true in
theorem Fb {h:Heap}:∀(l:List V) (c:List Str) (f:List Value),q5 l=some c->Rs h av own l f->∃d:List (Str×Tok),f=strValues d/\d.map (·.1)=c
 | [],c,f,e,r=>by cases e;exact ae r.nil_inv ⟨[],rfl,rfl⟩
 | v::l,c,f,e,r=>by
  refine aG r.cons_inv λw g b=>aA b λa m n=>?_;subst a
  cases v<;>first | (exact bN e;done) | skip
  rename_i x
  refine ah (dH.mp (show (q5 l).map (x::·)=some c from e)) λi b=>af b λj a=>?_;subst a
  refine ah (R.ux.mp m) λt a=>?_;subst a
  refine ah (Fb l i g j n) λd b=>af b λa k=>?_;subst a
  exact ⟨(x,t)::d,rfl,by refine ae bG (ae k rfl)⟩
theorem NM {r:Value} (P:Hp C av s own H) (G:R s.heap av own (.str x) f) (I:R s.heap av own v r) (c:vw H v=.lst l) (D:q5 l=some i)
  (hs:i.toArray.foldl (·+·.length+x.length) 0<=1000) (z:(fX x i).length<=1000) (m:B (.str (fX x i)) H) (k:f9 C av s own B Q):wpAny C.md A (call (.builtin "str.join") [f,r]) Q E s:=by
 refine ah (R.ux.mp G) λt g=>?_;subst g
 refine bj (lr P I c) λa u n d=>aA d λg h J=>?_;subst g
 refine ah (Fb l i u.toList D J) λo d=>af d λw q=>?_
 have b:u=(strValues o).toArray:=by refine bQ w rfl
 refine n3 F.slot_str_join rfl F.entry_str_join (F.args_str_join_2 _ _) (meets_str_join_list x t a o ?_) ⟨⟨_,h,rfl,n,by refine bQ b rfl⟩,?_⟩
 ·refine ae q ?_;unfold Zd;exact ae (propext decide_eq_false_iff_not) (je.mpr (fS hs))
 ·have j:∀(y:Str),y=fX x i->(Made.str y).post Q s:=λy e=>by
   subst e
   exact ⟨fS z,k _ _ _ own H m (R.ux.mpr ⟨_,rfl⟩) P.tok c4.tok⟩
  unfold joinMade
  split
  ·rename_i p
   have:fX x i=p.1:=by refine bQ q ?_;rfl
   exact k _ _ _ own H m (R.ux.mpr ⟨p.2,by refine ae this rfl⟩) P c4.refl
  ·exact j _ (by refine ae q rfl)
end
def lf (a b:V) (H:Hs) (Q:V->Prop):Prop:=match vw H a,b with
 | .lst l,.int k=>l.length<=1000/\∃j v,lV k l.length=some j/\l[j]? =some v/\Q v
 | .tup l,.int k=>l.length<=1000/\∃j v,lV k l.length=some j/\l[j]? =some v/\Q v
 | _,_=>False
noncomputable def Af (l:List V) (b a c:Option Int):List V:=(S3 (kA b a c l.length).1 (kA b a c l.length).2.1 (kA b a c l.length).2.2).filterMap (l[·]?)
noncomputable def Ag:V->Option (Option Int)
 | .none=>some none
 | .int i=>some (some i)
 | _=>none
def M1 (a b c d:V) (Q:V->Prop):Prop:=match a with
 | .str x=>∃i j,Ag b=some i/\Ag c=some j/\d=.none/\x.length<=1000/\Q (.str (vI x i j))
 | .lst l=>∃i j k,Ag b=some i/\Ag c=some j/\Ag d=some k/\k≠some 0/\l.length<=1000/\Q (.lst (Af l i j k))
 | _=>False
theorem q9 (h:lV b n=some p):(0<=b/\b < n/\p=b.toNat)\/(b < 0/\-(n:Int)<=b/\p=(b+n).toNat):=by
 unfold lV at h
 dsimp only at h
 split at h
 ·split at h
  ·rename_i k a
   cases h
   simp only [az,decide_eq_true_eq] at a
   exact .inr ⟨k,by exact ak fe 4 [_] [_] a,rfl⟩
  ·cases h
 ·split at h
  ·rename_i k a
   cases h
   simp only [az,decide_eq_true_eq] at a
   exact .inl ⟨by exact ak aK 12 [] [_] k,by exact ak fe 5 [_] [_] a,rfl⟩
  ·cases h
section
variable {C:Cx}{N:Nat}{s:Shared}{av:Addr->Prop}{own:List Addr}{H:Hs}{A:Around}{E:Value->Shared->Prop}
theorem oj {a:Expr}{i:Value} (h:uU a=true):subscripted a false f i=operate [f,i] (Mg f i):=by
 cases a<;>first | rfl | (cases h;done)
theorem IY {t:Tok}{c a:Expr} (hs:uU a=true) (o:s.heap.get? D=some (listOf j n)) (i:j.size<=1000)
  (m:lV b j.size=some p) (g:j[p]? =some f) (h:Q f s):wpAny C.md A (Iu c a (.ref D) (.int b t)) Q E s:=by
 have l:s.heap.IsList D j:=⟨_,o,rfl,n,rfl⟩
 refine tail_any l.typeIs Vn.lookup ?_ (oj hs)
 rcases q9 m with ⟨e,d,rfl⟩ | ⟨e,d,rfl⟩
 ·exact wpAny_getItem_list l e (au dm 1 [_] [_] i d) g h
 ·exact wpAny_getItem_list_neg l e d (au dm 2 [_] [_] i d) g h
set_option tactic.hygienic true in
theorem Qr {b:V} (h:lf v b H g) (m e:Expr) (hs:uU e=true) {S:Value} (P:Hp C av s own H) (L:R s.heap av own v S) (M:R s.heap av own b f)
  (J:jI C av s own H g Q):wpAny C.md A (Iu m e S f) Q E s:=by
 unfold lf at h
 split at h
 ·rename_i l k D
  refine af h λu c=>aG c λj T i=>aA i λr F B=>?_
  refine bj (lr P L D) λU G n c=>aA c λd o p=>?_;subst d
  refine ah (R.j2.mp M) λt d=>?_;subst d
  have hsz:G.size=l.length:=by refine bQ p.length ?_;simp
  exact ah (p.get F) λw c=>af c λx a=>(IY hs o (au bq 3 [_,_] [] u hsz) (by exact ae hsz r) (by simpa using x) (J _ _ _ B a P c4.refl))
 ·rename_i l k D
  refine af h λu c=>aG c λj T i=>aA i λr F B=>?_
  have:=A1 D (by intro W q;cases q)
  subst this
  refine aG (R.CD.mp L) λU G c=>bh c λd O O K p=>?_;subst d
  refine ah (R.j2.mp M) λt d=>?_;subst d
  have hsz:G.size=l.length:=by refine bQ p.length ?_;simp
  refine ah (p.get F) λw c=>af c λx a=>?_
  have I:-(2^63)<=k/\k < 2^63:=by
   rcases q9 r with ⟨y,z,_⟩ | ⟨y,z,_⟩<;>constructor<;>(first | exact ak fe 6 [] [_] y | exact au dm 1 [_] [_] u z | exact au dm 2 [_] [_] u z | exact ak fe 7 [] [_] y)
  exact tail_any K.typeIs slot_tuple_getitem.lookup (Yw K I.1 I.2 (ae hsz r) (by simpa using x) (J _ _ _ B a P c4.refl)) (oj hs)
 ·exact h.elim
set_option tactic.hygienic true in
theorem uS {i:Option Int} (e:Ag v=some i) (a:R h av own v f):IsPart f i/\∃p,f=partValue p/\p.map (·.1)=i:=by
 cases v<;>first | (cases e;done) | skip
 ·cases e
  have a:=R.tO.mp a;subst a
  exact ⟨.none,none,rfl,rfl⟩
 ·rename_i k
  cases e
  refine ah (R.j2.mp a) λt b=>?_;subst b
  exact ⟨.int _ _,some (k,t),rfl,rfl⟩
theorem Rs.pick {h:Heap}{d:List V}{e:List Value} (r:Rs h av own d e):∀a:List Nat,Rs h av own (a.filterMap (d[·]?)) (a.filterMap (e[·]?))
 | []=>Rs.nil
 | i::a=>by
  have f:=Rs.pick r a
  cases hv:d[i]? with
  | none=>
   have:e[i]? =none:=by
    rw [Cq] at hv ⊢
    exact ae r.length hv
   exact ae (DR hv) (ae (DR this) f)
  | some v=>
   exact ah (r.get hv) λw c=>af c λg b=>(ae (DQ hv) (ae (DQ g) (Rs.cons b f)))
set_option tactic.hygienic true in
theorem QD {b c d:V} (h:M1 v b c d g):∃Ty id,Gv (.type Ty) "__getitem__"=pure (some (.builtin id))/\
  ∀A s av own H z B rc D G (Q E:Value->Shared->Prop),fD A N->Hp C av s own H->R s.heap av own v z->R s.heap av own b B->R s.heap av own c rc->R s.heap av own d D->
   s.heap.get? G=some {cls:=.type "slice",data:=.fields #[B,rc,D]}->jI C av s own H g Q->s.TypeIs z Ty/\wpAny C.md A (Mg z (.ref G)) Q E s:=by
 unfold M1 at h
 split at h
 ·rename_i x
  refine aG h λi j f=>bh f λI J a hx L=>?_;subst a
  refine ⟨"str",_,F.slot_str_getitem.lookup,λA s av own H z B rc D G Q E rm P M S T y ho K=>?_⟩
  refine ah (R.ux.mp M) λt a=>?_;subst a
  have y:=R.tO.mp y;subst y
  refine af (uS I S) λO f=>ah f λl p=>af p λa r=>?_;subst a;subst r
  refine af (uS J T) λO f=>ah f λu p=>af p λa r=>?_;subst a;subst r
  exact ⟨S1 _ x t,dl (wpAny_getItem_str_slice (l:=l) (u:=u) (st:=none) ⟨_,ho,rfl,rfl⟩ rfl
   (post_val_or_str ⟨ar (Txt.slice_le x _ _) (fS hx),λt' k=>λ⟨_,ht⟩=>K _ _ _ L (R.ux.mpr ⟨_,rfl⟩) (P.tok ht) c4.tok⟩))⟩
 ·rename_i l
  refine bj h λi j k f=>d7 f λI J Z hk hl L=>?_
  refine ⟨"list",_,Vn.lookup,λA s av own H z B rc D G Q E rm P M S T y ho K=>?_⟩
  refine bj (R.td.mp M) λY U n f=>bh f λa α W w X=>?_;subst a
  have hsz:U.size=l.length:=by refine bQ X.length ?_;simp
  have m:s.heap.IsList Y U:=⟨_,w,rfl,n,rfl⟩
  refine ⟨m.typeIs,wpAny_getItem_list_slice m ⟨_,ho,rfl,rfl⟩ (uS I S).1 (uS J T).1 (uS Z y).1 hk ?_ (fS (au bq 3 [_,_] [] hl hsz))⟩
  have o:Rs s.heap av own (Af l i j k) (slicePick U i j k).toList:=by
   unfold Af slicePick
   refine ae hsz ?_
   have:=X.pick (S3 (kA i j k l.length).1 (kA i j k l.length).2.1 (kA i j k l.length).2.2)
   simpa using this
  refine K (.lst (Af l i j k)) _ _ L ?_ (P.push _) c4.push
  exact ae XZ ⟨_,_,_,rfl,λq=>ay _ (P.f4 _ q),P.fresh,bg _ rfl,o.keeps (λO O e=>aQ _ e) (by rw [bE];exact bx _)⟩
 ·exact h.elim
end
theorem po:Slot "bytes" "count" "bytes.count":=
 .of (owner:="bytes") (n:="count") (by refine ae (lw _ _) (ae ie ?_);kernel_rfl) (by decide +kernel) (by decide +kernel) (by decide +kernel)
  (by first | exact .inl (by decide +kernel) | exact .inr (by decide +kernel)) (by refine ae (Gz _ _) ?_;kernel_rfl)
theorem vS:typeOf (.builtin "bytes.count")=pure (.type "method_descriptor"):=by show builtinType _=_;refine ae Sw ?_;kernel_rfl
theorem vt:PN table "bytes.count"=some Builtin.«bytes.count»:=tB (by kernel_rfl)
theorem tY (a b:Value):argsOk "bytes.count" ⟨[a,b],[]⟩:=by
 unfold argsOk;refine ae (Io (id:="bytes.count") (n:=['t','n','u','o','c']) (o:=['s','e','t','y','b']) (by kernel_rfl) FB.owner_bytes) ?_;kernel_rfl
noncomputable def BZ (b a:Array UInt8):Nat:=if b.size < a.size then 0 else (wd b a 0 b.size).length
theorem vm (b a:Array UInt8) (t u:Tok) (f:a.isEmpty=false):Gives (Builtin.«bytes.count» ⟨[.bytes b t,.bytes a u],[]⟩) (.int (BZ b a)):=by
 refine .of_wp λM A E s Q d=>?_
 have e:V8 .bytes "count" ⟨[.bytes b t,.bytes a u],[]⟩=pure (b,a,if b.size < a.size then none else some (0,b.size)):=by
  show (zh "bytes.count" (.bytes a u) >>= _)=_
  refine ae KBy.buffer_eq ?_
  show (pure (b,a,if (min (b.size:Int) (if (b.size:Int) < 0 then _ else (b.size:Int)) - 0) < (a.size:Int) then none else some (Int.toNat 0,(min (b.size:Int) (if (b.size:Int) < 0 then _ else (b.size:Int))).toNat)):Sem _)=_
  rw [if_neg (show ¬((b.size:Int) < 0) by exact bA bZ 6 [_] [])]
  by_cases c:b.size < a.size
  ·refine ae (if_pos (au eU 19 [_,_] [_] c DK)) (ae (if_pos c) rfl)
  ·refine ae (if_neg (au eU 20 [_,_] [_] c DK)) (ae (if_neg c) ?_)
   simp
 show wpAny M A (zt .bytes _) _ E s
 unfold zt
 refine wpAny_bind ?_
 refine ae e ?_
 refine wpAny_pure ?_
 unfold BZ at d
 dsimp only
 by_cases c:b.size < a.size
 ·rw [if_pos c] at d ⊢
  exact wpAny_bind (wpAny_mkInt (wpAny_pure ⟨_,rfl,d⟩))
 ·rw [if_neg c] at d ⊢
  dsimp only
  exact ae f (wpAny_bind (wpAny_mkInt (wpAny_pure ⟨_,rfl,d⟩)))
theorem KM {M:Model}{a:Type}{f:Nat->a->Sem (ForInStep a)}{c:a}{E:a->Shared->Prop} (b:∀n,f n c=pure (.done c)) (h:E c s):
  ∀l:List Nat,wpAny M A (forIn l c f) E Q s
 | []=>by exact ae t8 (wpAny_pure h)
 | n::l=>by exact ae (jn _ _ _ _) (ae (b _) (wpAny_bind (wpAny_pure (wpAny_pure h))))
theorem N7 {M:Model}{a:Type}{f:Nat->a->Sem (ForInStep a)}{b c:a}{E:a->Shared->Prop} (g:m=[]->b=c) (d:m≠[]->∀n,f n b=pure (.yield c)) (e:∀n,f n c=pure (.done c)) (h:E c s):
  wpAny M A (forIn m b f) E Q s:=by
 cases m with
 | nil=>exact ae t8 (ae (g rfl) (wpAny_pure h))
 | cons n m=>exact ae (jn _ _ _ _) (ae (d nofun _) (wpAny_bind (wpAny_pure (KM e h m))))
noncomputable def qR (x:Str):Array UInt8:=x.cps.foldl (λa y=>a++(Ce y).toArray) #[]
open Builtin._codecs in
theorem K4 {M:Model}{E:Array UInt8->Shared->Prop} (b:∀c∈x.cps,kQ c=false) (hs:(qR x).size<=Gx) (h:E (qR x) s):
  wpAny M A (encodeNarrow "str.encode" utf8Codec none f x) E Q s:=by
 unfold encodeNarrow
 dsimp only
 refine ae (pb _ _ _) ?_
 have e:Array.findIdx? utf8Codec.bad x.cps=none:=by
  refine ae (propext Array.findIdx?_eq_none_iff) ?_
  exact b
 refine wpAny_bind (N7 (c:=(x.length,qR x,{})) (λq=>?_) (λq n=>?_) (λn=>?_) ?_)
 ·have a:x.length=0:=by
   have:=congrArg bH q
   simpa [wM] using this
  have g:x.cps=#[]:=iE a
  unfold qR
  refine ae a (ae g ?_);rfl
 ·have a:0 < x.cps.size:=by
   apply Nat.pos_of_ne_zero
   intro a
   apply q
   show jW 0 ((x.cps.size - 0+1 - 1) / 1) 1=[]
   refine ae a ?_;rfl
  dsimp only
  refine ae (if_neg (by rw [PM];exact nofun)) ?_
  have d:x.cps[0]? =some x.cps[0]:=by simp [a]
  refine ae d ?_
  dsimp only
  refine ae (if_pos (show (!utf8Codec.bad x.cps[0])=true by
   have:utf8Codec.bad x.cps[0]=false:=b _ (Array.getElem_mem a)
   rw [this];rfl)) ?_
  refine ae ID (ae e ?_)
  simp only [L3,cq,ID]
  rfl
 ·dsimp only
  refine ae (if_neg (je.mpr hs)) ?_
  have d:x.cps[x.length]? =none:=by simp [Zb]
  refine ae d rfl
 ·exact wpAny_pure h
open Builtin._codecs in
theorem BQ (x:Str) (t:Tok) (b:∀c∈x.cps,kQ c=false) (hs:(qR x).size<=Gx):Gives (Builtin.«str.encode» ⟨[.str x t],[]⟩) (.bytes (qR x)):=by
 refine .of_wp λM A E s Q a=>?_
 exact ae (encode_tree _ _) (ae (encodeRoad_utf8 _ _ _ _) (wpAny_bind (wpAny_bind (K4 b hs (Ik (wpAny_pure ⟨_,rfl,a.2⟩) hs)))))
section
variable {C:Cx}{N:Nat}{s:Shared}{av:Addr->Prop}{own:List Addr}{H:Hs}{A:Around}{E:Value->Shared->Prop}
theorem HE (P:Hp C av s own H) (h:R s.heap av own (.str x) f) (g:∀c∈x.cps,kQ c=false) (hs:(qR x).size<=1000)
  (d:B (.sw (qR x)) H) (e:f9 C av s own B Q):wpAny C.md A (call (.builtin "str.encode") [f]) Q E s:=by
 refine ah (R.ux.mp h) λt b=>?_;subst b
 exact call_gives F.slot_str_encode (S1 s x t) F.entry_str_encode (F.args_str_encode_1 _) (BQ x t g (fS hs)) ⟨fS hs,e _ _ _ own H d (R.AB.mpr ⟨_,rfl⟩) P.tok c4.tok⟩
theorem Ln {a:Array UInt8}{e:Value} (P:Hp C av s own H) (j:R s.heap av own (.sw T) e) (k:R s.heap av own (.sw a) f) (i:a.isEmpty=false)
  (h:B (.int (BZ T a)) H) (g:f9 C av s own B Q):wpAny C.md A (call (.builtin "bytes.count") [e,f]) Q E s:=by
 refine ah (R.AB.mp j) λt d=>?_;subst d
 refine ah (R.AB.mp k) λu d=>?_;subst d
 exact call_gives po (AO s T t) vt (tY _ _) (vm T a t u i) (g _ _ _ own H h (R.j2.mpr ⟨_,rfl⟩) P.tok c4.tok)
end
section
open PySem.Sre
noncomputable def qc:Array Nat:=#[14,8,1,2,4294967295,1,1,34,0,16,34,28,22,0,4294967295,7,11,13,7,21,16,34,16,92,0,15,8,6,16,92,2,15,2,0,1,16,34,1]
noncomputable def Qm (T:Array Nat) (c:Nat) (seen:jo) (pc pos handed:Nat) (b:Bool) (loops:Array Loop) (inner:Option Nat) (frames:List d6) (weight:Nat) (a:Option Bool):M:=
 {code:=qc,text:=T,lim:=T.size,start:=c,lastStart:=T.size,pc,pos,handed,outermost:=b,marks:=#[],loops,inner,frames,weight,answer:=a,seen}
def kq (k:Nat) (m a:M):Prop:=∃n,n<=k/\M.runFor n m=a
theorem Nc {m:M}:M.runFor (n+1) m=if m.outcome.isSome then m else M.runFor n m.step:=rfl
theorem p4:∀{n:Nat}{m:M},m.outcome.isSome=true->M.runFor n m=m
 | 0,_,_=>rfl
 | n+1,m,h=>Nc.trans (if_pos h)
theorem lq:∀(a b:Nat) (m:M),M.runFor (a+b) m=M.runFor b (M.runFor a m)
 | 0,b,m=>by refine ae (cq _) ?_;rfl
 | a+1,b,m=>by
  rw [Nat.succ_add,Nc,Nc]
  by_cases h:m.outcome.isSome=true
  ·refine ae (if_pos h) (ae (if_pos h) (ae (p4 h) rfl))
  ·refine ae (if_neg h) (ae (if_neg h) (ae (lq a b _) rfl))
theorem kq.refl {m:M}:kq 0 m m:=⟨0,aD _,rfl⟩
theorem kq.trans {m f d:M} (h:kq n m f) (k:kq p f d):kq (n+p) m d:=by
 refine ah h λi c=>af c λl e=>?_;refine ah k λj c=>af c λa g=>?_
 exact ⟨i+j,Cm l a,by refine ae (lq _ _ _) (ae e (ae g rfl))⟩
theorem kq.mono {m d:M} (h:kq n m d) (f:n<=p):kq p m d:=by
 refine ah h λi c=>af c λg e=>?_;exact ⟨i,ar g f,e⟩
theorem kq.one {m a:M} (h:m.outcome=none) (e:m.step=a):kq 1 m a:=⟨1,aD _,by rw [Nc,h];exact e⟩
noncomputable def od (s:Nat) (a:Bool):d6:={wait:=.nextStart,pc:=9,pos:=s,outermost:=a}
noncomputable def qK:PySem.Sre.Kept:={whole:=true}
noncomputable def xC (p:Nat) (a:Bool) (n:Int):d6:={wait:=.possMore,pc:=11,pos:=p,outermost:=a,count:=n,loop:=0,kept:=qK}
noncomputable def Bv (a p:Nat):d6:={wait:=.nextBranch,pc:=a,pos:=p,outermost:=false,kept:=qK}
noncomputable def qL:Array Loop:=#[{pc:=0,outer:=none}]
section
variable {T:Array Nat}{s:Nat}{seen:jo}{om:Bool}
theorem yh {h:Nat}{n:Int}:∃a,kq 1 (Qm T s seen 15 p h false qL (some 0) [xC p om n,od s om] 2 none) (Qm T s a 17 p p false qL (some 0) [Bv 16 p,xC p om n,od s om] 3 none):=
 ⟨_,kq.one rfl rfl⟩
theorem Q6 (c:Nat) (seen:jo):accepts qc 17 c seen=(if (c==34)=true then .ok (false,(seen.add 21).add 16) else if (c==92)=true then .ok (false,((seen.add 21).add 16).add 16) else .ok (true,(((seen.add 21).add 16).add 16).add 0)):=rfl
theorem O0 (c:Nat) (seen:jo):∃a,accepts qc 17 c seen=.ok (c !=34 && c !=92,a):=by
 rw [Q6]
 by_cases b:c=34
 ·subst b;exact ⟨_,rfl⟩
 ·by_cases d:c=92
  ·subst d;exact ⟨_,rfl⟩
  ·refine ⟨(((seen.add 21).add 16).add 16).add 0,?_⟩
   rw [if_neg (λe=>b (eq_of_beq e)),if_neg (λe=>d (eq_of_beq e)),show (c !=34)=true by exact bne_iff_ne.mpr b,show (c !=92)=true by exact bne_iff_ne.mpr d]
   rfl
theorem JE {h:Nat}{fs:List d6} (d:p < T.size) (b:T.getD p 0≠34) (c:T.getD p 0≠92):
  ∃a,kq 1 (Qm T s seen 17 p h false qL (some 0) fs w none) (Qm T s a 25 (p+1) h false qL (some 0) fs w none):=by
 refine ah (O0 (T.getD p 0) (seen.add 13)) λa e=>?_
 refine ⟨a,kq.one rfl ?_⟩
 show (if p>=T.size then _ else (match accepts qc 17 (T.getD p 0) (seen.add 13) with | .error f=>_ | .ok (false,seen)=>_ | .ok (true,seen)=>_))=_
 refine ae (if_neg (pi.mpr d)) (ae e (ae (show (T.getD p 0 !=34)=true by exact bne_iff_ne.mpr b) (ae (show (T.getD p 0 !=92)=true by exact bne_iff_ne.mpr c) ?_)))
 rfl
theorem Fs {h:Nat}{fs:List d6} (c:p < T.size->T.getD p 0=34\/T.getD p 0=92):
  ∃a,kq 1 (Qm T s seen 17 p h false qL (some 0) fs w none) (Qm T s a 17 p h false qL (some 0) fs w (some false)):=by
 by_cases b:p < T.size
 ·refine ah (O0 (T.getD p 0) (seen.add 13)) λa e=>?_
  refine ⟨a,kq.one rfl ?_⟩
  show (if p>=T.size then _ else (match accepts qc 17 (T.getD p 0) (seen.add 13) with | .error d=>_ | .ok (false,seen)=>_ | .ok (true,seen)=>_))=_
  refine ae (if_neg (pi.mpr b)) (ae e ?_)
  rcases c b with q | q
  ·refine ae q ?_;rfl
  ·refine ae q ?_;rfl
 ·refine ⟨seen.add 13,kq.one rfl ?_⟩
  show (if p>=T.size then _ else _)=_
  refine ae (if_pos (je.mp b)) ?_
  rfl
theorem py {pc c h:Nat}{loops:Array Loop}{inner:Option Nat}{fs:List d6} (b:qc.getD pc 0=16/\qc.getD (pc+1) 0=c/\pc < 38) (i:p < T.size) (g:T.getD p 0=c):
  ∃a,kq 1 (Qm T s seen pc p h o loops inner fs w none) (Qm T s a (pc+2) (p+1) h o loops inner fs w none):=by
 refine ⟨seen.add 16,kq.one rfl ?_⟩
 have d:(Qm T s seen pc p h o loops inner fs w none).word 0=16:=b.1
 show (if pc < 38 then M.exec _ else _)=_
 refine ae (if_pos b.2.2) ?_
 unfold M.exec
 refine ae d ?_
 show (if p>=T.size then _ else (match accepts qc pc (T.getD p 0) (seen.add 16) with | .error j=>_ | .ok (false,seen)=>_ | .ok (true,seen)=>_))=_
 have e:accepts qc pc (T.getD p 0) (seen.add 16)=.ok (true,seen.add 16):=by
  unfold accepts
  dsimp only
  refine ae (b.1) (ae (b.2.1) (ae g ?_))
  show Cs ((c==c),seen.add 16)=_
  refine ae (beq_self_eq_true _) rfl
 refine ae (if_neg (pi.mpr i)) (ae e ?_)
 have f:itemWidth qc pc=2:=by unfold itemWidth;refine ae (b.1) ?_;rfl
 show {Qm T s (seen.add 16) pc p h o loops inner fs w none with pc:=pc+itemWidth qc pc,pos:=p+1}=_
 refine ae f ?_
 rfl
theorem uR {pc c h:Nat}{loops:Array Loop}{inner:Option Nat}{fs:List d6} (b:qc.getD pc 0=16/\qc.getD (pc+1) 0=c/\pc < 38) (g:p < T.size->T.getD p 0≠c):
  ∃a,kq 1 (Qm T s seen pc p h o loops inner fs w none) (Qm T s a pc p h o loops inner fs w (some false)):=by
 refine ⟨seen.add 16,kq.one rfl ?_⟩
 have f:(Qm T s seen pc p h o loops inner fs w none).word 0=16:=b.1
 show (if pc < 38 then M.exec _ else _)=_
 refine ae (if_pos b.2.2) ?_
 unfold M.exec
 refine ae f ?_
 show (if p>=T.size then _ else (match accepts qc pc (T.getD p 0) (seen.add 16) with | .error i=>_ | .ok (false,seen)=>_ | .ok (true,seen)=>_))=_
 by_cases d:p < T.size
 ·have e:accepts qc pc (T.getD p 0) (seen.add 16)=.ok (false,seen.add 16):=by
   unfold accepts
   dsimp only
   refine ae (b.1) (ae (b.2.1) ?_)
   show Cs ((T.getD p 0==c),seen.add 16)=_
   refine ae (show (T.getD p 0==c)=false by simpa using g d) rfl
  refine ae (if_neg (pi.mpr d)) (ae e ?_)
  rfl
 ·refine ae (if_pos (je.mp d)) ?_
  rfl
theorem Hd {h:Nat}{fs:List d6} (c:p < T.size) (b:T.getD p 0≠10):
  ∃a,kq 1 (Qm T s seen 30 p h false qL (some 0) fs w none) (Qm T s a 31 (p+1) h false qL (some 0) fs w none):=by
 refine ⟨seen.add 2,kq.one rfl ?_⟩
 show (if p>=T.size then _ else (match (Cs (T.getD p 0 !=10,seen.add 2):Except String (Bool×jo)) with | .error d=>_ | .ok (false,seen)=>_ | .ok (true,seen)=>_))=_
 refine ae (if_neg (pi.mpr c)) (ae (show (T.getD p 0 !=10)=true by exact bne_iff_ne.mpr b) ?_)
 rfl
theorem JG {h:Nat}{fs:List d6} (c:p < T.size->T.getD p 0=10):
  ∃b,kq 1 (Qm T s seen 30 p h false qL (some 0) fs w none) (Qm T s b 30 p h false qL (some 0) fs w (some false)):=by
 refine ⟨seen.add 2,kq.one rfl ?_⟩
 by_cases a:p < T.size
 ·show (if p>=T.size then _ else (match (Cs (T.getD p 0 !=10,seen.add 2):Except String (Bool×jo)) with | .error d=>_ | .ok (false,seen)=>_ | .ok (true,seen)=>_))=_
  refine ae (if_neg (pi.mpr a)) (ae (c a) ?_)
  rfl
 ·show (if p>=T.size then _ else _)=_
  refine ae (if_pos (je.mp a)) ?_
  rfl
end
end
section
open PySem.Sre
section
variable {T:Array Nat}{s:Nat}{seen:jo}{om:Bool}
noncomputable def qA (T:Array Nat) (s:Nat) (seen:jo) (om:Bool) (p:Nat) (n:Int):M:=Qm T s seen 15 p p false qL (some 0) [xC p om n,od s om] 2 none
noncomputable def qB (T:Array Nat) (s:Nat) (seen:jo) (om:Bool) (p:Nat):M:=Qm T s seen 35 p p om #[] none [od s om] 1 none
theorem Ft {a:Option Nat} (d:0<=b) (c:a≠some p):
  (Qm T s seen 11 n p om qL (some 0) [od s om] 1 none).possessive 0 b a=qA T s seen om p b:=by
 unfold M.possessive
 show (if b < ((0:Nat):Int) then _ else if (decide (b < ((4294967295:Nat):Int)) || true) && (a !=some p) then _ else _)=_
 refine ae (if_neg (ak ce 2 [] [_] d)) (ae (if_pos (by simp [c])) ?_)
 rfl
theorem Hf (a:0<=b):
  (Qm T s seen 11 n p om qL (some 0) [od s om] 1 none).possessive 0 b (some p)=qB T s seen om p:=by
 unfold M.possessive
 show (if b < ((0:Nat):Int) then _ else if (decide (b < ((4294967295:Nat):Int)) || true) && (some p !=some p) then _ else _)=_
 refine ae (if_neg (ak ce 2 [] [_] a)) (ae (if_neg (by simp)) ?_)
 rfl
theorem JF {TY a:Nat}{e:Nat} (i:0<=b) (g:n≠p):
  kq 3 (Qm T s seen 34 n w false qL (some 0) [Bv e a,xC p om b,od s om] 3 none) (qA T s (seen.add 1) om n (b+1)):=by
 have c:kq 1 (Qm T s seen 34 n w false qL (some 0) [Bv e a,xC p om b,od s om] 3 none) (Qm T s (seen.add 1) 34 n n false qL (some 0) [Bv e a,xC p om b,od s om] 3 (some true)):=kq.one rfl rfl
 have d:kq 1 (Qm T s (seen.add 1) 34 n n false qL (some 0) [Bv e a,xC p om b,od s om] 3 (some true)) (Qm T s (seen.add 1) e a n false qL (some 0) [xC p om b,od s om] 2 (some true)):=kq.one rfl rfl
 have f:kq 1 (Qm T s (seen.add 1) e a n false qL (some 0) [xC p om b,od s om] 2 (some true)) (qA T s (seen.add 1) om n (b+1)):=kq.one rfl (by
  show (Qm T s (seen.add 1) 11 p n om qL (some 0) [od s om] 1 none).possessive 0 (b+1) (some p)=_
  exact Ft (ak aK 15 [] [_] i) (λq=>g (by cases q;rfl)))
 exact (c.trans d).trans f
theorem Ni {h:Nat}{fs:List d6}:∃a,kq 1 (Qm T s seen 25 p h false qL (some 0) fs w none) (Qm T s a 34 p h false qL (some 0) fs w none):=⟨seen.add 15,kq.one rfl rfl⟩
theorem Nh {h:Nat}{fs:List d6}:∃a,kq 1 (Qm T s seen 31 p h false qL (some 0) fs w none) (Qm T s a 34 p h false qL (some 0) fs w none):=⟨seen.add 15,kq.one rfl rfl⟩
theorem JB {h:Nat}{n:Int}:kq 1 (Qm T s seen 17 p h false qL (some 0) [Bv 16 p,xC p om n,od s om] 3 (some false)) (Qm T s seen 28 p p false qL (some 0) [Bv 27 p,xC p om n,od s om] 3 none):=kq.one rfl rfl
theorem JD {a:Nat} (c:0<=b):kq 2 (Qm T s seen a w n false qL (some 0) [Bv 27 p,xC p om b,od s om] 3 (some false)) (qB T s seen om p):=by
 have h:kq 1 (Qm T s seen a w n false qL (some 0) [Bv 27 p,xC p om b,od s om] 3 (some false)) (Qm T s seen 27 p n false qL (some 0) [xC p om b,od s om] 2 (some false)):=kq.one rfl rfl
 refine h.trans (kq.one rfl ?_)
 show (Qm T s seen 11 p p om qL (some 0) [od s om] 1 none).possessive 0 b (some p)=_
 exact Hf c
theorem RB (d:0<=b) (e:p < T.size) (n:T.getD p 0≠34) (c:T.getD p 0≠92):∃a,kq 6 (qA T s seen om p b) (qA T s a om (p+1) (b+1)):=by
 refine ah (yh (T:=T) (s:=s) (seen:=seen) (om:=om) (p:=p) (h:=p) (n:=b)) λj f=>?_
 exact ah (JE (s:=s) (seen:=j) (h:=p) (fs:=[Bv 16 p,xC p om b,od s om]) (w:=3) e n c) λk g=>(ah (Ni (T:=T) (s:=s) (seen:=k) (p:=p+1) (h:=p) (fs:=[Bv 16 p,xC p om b,od s om]) (w:=3)) λl i=>⟨_,((f.trans g).trans i).trans (JF (TY:=0) d (bA bZ 18 [_] []))⟩)
theorem RA (f:0<=b) (g:p+1 < T.size) (n:T.getD p 0=92) (e:T.getD (p+1) 0≠10):∃a,kq 9 (qA T s seen om p b) (qA T s a om (p+2) (b+1)):=by
 refine ah (yh (T:=T) (s:=s) (seen:=seen) (om:=om) (p:=p) (h:=p) (n:=b)) λr i=>?_
 refine ah (Fs (T:=T) (s:=s) (seen:=r) (p:=p) (h:=p) (fs:=[Bv 16 p,xC p om b,od s om]) (w:=3) (λO=>.inr n)) λd j=>?_
 have k:=JB (T:=T) (s:=s) (seen:=d) (om:=om) (p:=p) (h:=p) (n:=b)
 refine ah (py (T:=T) (s:=s) (seen:=d) (pc:=28) (c:=92) (p:=p) (h:=p) (o:=false) (loops:=qL) (inner:=some 0) (fs:=[Bv 27 p,xC p om b,od s om]) (w:=3) (by decide) (b8 ‹_›) n) λu l=>?_
 exact ah (Hd (T:=T) (s:=s) (seen:=u) (p:=p+1) (h:=p) (fs:=[Bv 27 p,xC p om b,od s om]) (w:=3) g e) λv m=>(ah (Nh (T:=T) (s:=s) (seen:=v) (p:=p+1+1) (h:=p) (fs:=[Bv 27 p,xC p om b,od s om]) (w:=3)) λx q=>⟨_,(((((i.trans j).trans k).trans l).trans m).trans q).trans (JF (TY:=0) f (bA bZ 19 [_] []))⟩)
def O2 (T:Array Nat) (p:Nat):Prop:=p < T.size->T.getD p 0=34\/(T.getD p 0=92/\(p+1 < T.size->T.getD (p+1) 0=10))
theorem NO (i:0<=b) (h:O2 T p):∃a,kq 7 (qA T s seen om p b) (qB T s a om p):=by
 refine ah (yh (T:=T) (s:=s) (seen:=seen) (om:=om) (p:=p) (h:=p) (n:=b)) λx k=>?_
 refine ah (Fs (T:=T) (s:=s) (seen:=x) (p:=p) (h:=p) (fs:=[Bv 16 p,xC p om b,od s om]) (w:=3) (λq=>(h q).imp id (·.1))) λf l=>?_
 have m:=JB (T:=T) (s:=s) (seen:=f) (om:=om) (p:=p) (h:=p) (n:=b)
 by_cases j:p < T.size/\T.getD p 0=92
 ·refine af j λn g=>?_
  have u:p+1 < T.size->T.getD (p+1) 0=10:=by
   rcases h n with q | q
   ·replace q:=(g)▸q;exact nomatch q
   ·exact q.2
  exact ah (py (T:=T) (s:=s) (seen:=f) (pc:=28) (c:=92) (p:=p) (h:=p) (o:=false) (loops:=qL) (inner:=some 0) (fs:=[Bv 27 p,xC p om b,od s om]) (w:=3) (by decide) (by assumption) g) λr d=>(ah (JG (T:=T) (s:=s) (seen:=r) (p:=p+1) (h:=p) (fs:=[Bv 27 p,xC p om b,od s om]) (w:=3) u) λy v=>⟨_,((((k.trans l).trans m).trans d).trans v).trans (JD i)⟩)
 ·exact ah (uR (T:=T) (s:=s) (seen:=f) (pc:=28) (c:=92) (p:=p) (h:=p) (o:=false) (loops:=qL) (inner:=some 0) (fs:=[Bv 27 p,xC p om b,od s om]) (w:=3) (by decide) (λq e=>j ⟨q,e⟩)) λr d=>⟨_,kq.mono ((((k.trans l).trans m).trans d).trans (JD i)) (by decide)⟩
end
inductive Body (T:Array Nat):Nat->Nat->Prop
 | stop {p'}:O2 T p'->Body T p' p'
 | chr {p' e'}:p' < T.size->T.getD p' 0≠34->T.getD p' 0≠92->Body T (p'+1) e'->Body T p' e'
 | Ii {p' e'}:p'+1 < T.size->T.getD p' 0=92->T.getD (p'+1) 0≠10->Body T (p'+2) e'->Body T p' e'
theorem Body.le {T:Array Nat} (h:Body T p n):p<=n/\(p<=T.size->n<=T.size):=by
 induction h with
 | stop _=>exact ⟨aD _,id⟩
 | chr b _ _ _ a=>exact ⟨by exact ak dd 16 [_,_,_] [] a,λO=>a.2 (by assumption)⟩
 | Ii b _ _ _ a=>exact ⟨by exact ak dd 17 [_,_,_] [] a,λO=>a.2 (by assumption)⟩
theorem Body.run {T:Array Nat}{s:Nat}{om:Bool} (h:Body T p w):∀{seen:jo}{n:Int},0<=n->∃b,kq (9*(w - p)+7) (qA T s seen om p n) (qB T s b om w):=by
 induction h with
 | stop c=>intro seen n a;obtain ⟨d,r⟩:=NO a c;exact ⟨d,r.mono (ak dd 18 [_,_] [] a8)⟩
 | chr c f g i j=>
  intro seen n a
  exact ah (RB (T:=T) (s:=s) (seen:=seen) (om:=om) a c f g) λd k=>(ah (j (seen:=d) (n:=n+1) (ak aK 15 [] [_] a)) λm l=>⟨m,(k.trans l).mono (by have:=i.le.1;exact bI cO 11 [_,_,_,_] [] this a8 a8)⟩)
 | Ii c f g i j=>
  intro seen n a
  exact ah (RA (T:=T) (s:=s) (seen:=seen) (om:=om) a c f g) λd k=>(ah (j (seen:=d) (n:=n+1) (ak aK 15 [] [_] a)) λm l=>⟨m,(k.trans l).mono (by have:=i.le.1;exact bI cO 12 [_,_,_,_] [] this a8 a8)⟩)
end
section
open PySem.Sre
inductive t1 (T:Array Nat):Nat->Option (Nat×Nat)->Prop
 | hit {s' e'}:s' < T.size->T.getD s' 0=34->Body T (s'+1) e'->e' < T.size->T.getD e' 0=34->t1 T s' (some (s',e'+1))
 | miss {s' r'}:s' < T.size->(T.getD s' 0≠34\/∃e',Body T (s'+1) e'/\(e' < T.size->T.getD e' 0≠34))->t1 T (s'+1) r'->t1 T s' r'
 | over {s'}:s'=T.size->t1 T s' none
def Ends (m:M) (r:Option (Nat×Nat)):Prop:=match r with
 | some (a,b)=>(∃x,m.outcome=some x/\x=.matched)/\m.start=a/\m.handed=b
 | none=>∃x,m.outcome=some x/\x=.failed
def jd (k:Nat) (m:M) (r:Option (Nat×Nat)):Prop:=∃a,kq k m a/\Ends a r
noncomputable def qZ (T:Array Nat) (s:Nat) (a:jo) (b:Bool):M:=Qm T s a 9 s s b #[] none [od s b] 1 none
theorem jd.pre {a:Nat}{m d:M} (h:kq a m d) (q:jd n d I) (f:a+n<=p):jd p m I:=by
 refine ah q λm2 c=>af c λg e=>?_
 exact ⟨m2,(h.trans g).mono f,e⟩
section
variable {T:Array Nat}{s:Nat}{seen:jo}{om:Bool}
theorem JA (b:w=1):∃a,kq 1 (Qm T s seen 11 p s om #[] none [od s om] w none) (qA T s a om p 0):=by
 subst b
 refine ⟨seen.add 28,kq.one rfl ?_⟩
 show (Qm T s (seen.add 28) 11 p p om qL (some 0) [od s om] 1 none).possessive 0 0 none=_
 exact Ft (j0 0) nofun
theorem TT {e h:Nat}:jd 3 (Qm T s seen 37 e h om #[] none [od s om] 1 none) (some (s,e)):=by
 have a:kq 1 (Qm T s seen 37 e h om #[] none [od s om] 1 none) (Qm T s (seen.add 1) 37 e e om #[] none [od s om] 1 (some true)):=kq.one rfl (by cases om<;>rfl)
 have b:kq 1 (Qm T s (seen.add 1) 37 e e om #[] none [od s om] 1 (some true)) (Qm T s (seen.add 1) 9 s e om #[] none [] 0 (some true)):=kq.one rfl rfl
 refine ⟨{Qm T s (seen.add 1) 9 s e om #[] none [] 0 (some true) with outcome:=some .matched},(a.trans b).trans (kq.one rfl rfl),?_⟩
 exact ⟨⟨_,rfl,rfl⟩,rfl,rfl⟩
theorem JC {pc h:Nat} (hs:s < T.size) (q:∀b,jd n (qZ T (s+1) b false) I):jd (n+1) (Qm T s seen pc p h om #[] none [od s om] 1 (some false)) I:=by
 refine (q seen).pre (a:=1) (kq.one rfl ?_) (bA fm 0 [_] [])
 show (if s < T.size then _ else _)=_
 refine ae (if_pos hs) ?_
 rfl
theorem Q7 {pc h:Nat} (hs:s=T.size):jd 2 (Qm T s seen pc p h om #[] none [od s om] 1 (some false)) none:=by
 have a:kq 1 (Qm T s seen pc p h om #[] none [od s om] 1 (some false)) (Qm T s seen 9 s h om #[] none [] 0 (some false)):=kq.one rfl (by
  show (if s < T.size then _ else _)=_
  refine ae (if_neg (ak fh 12 [_,_] [] hs)) ?_
  rfl)
 refine ⟨{Qm T s seen 9 s h om #[] none [] 0 (some false) with outcome:=some .failed},a.trans (kq.one rfl rfl),?_⟩
 exact ⟨_,rfl,rfl⟩
end
theorem t1.run {T:Array Nat}{s:Nat}{r:Option (Nat×Nat)} (h:t1 T s r):∀{seen:jo}{om:Bool},jd ((T.size+1 - s)*(9*T.size+20)) (qZ T s seen om) r:=by
 induction h with
 | @hit s e b i g A D=>
  intro seen om
  refine ah (py (T:=T) (s:=s) (seen:=seen) (pc:=9) (c:=34) (p:=s) (h:=s) (o:=om) (loops:=#[]) (inner:=none) (fs:=[od s om]) (w:=1) (by decide) b i) λf d=>?_
  refine ah (JA (T:=T) (s:=s) (seen:=f) (om:=om) (p:=s+1) (w:=1) rfl) λx l=>?_
  refine ah (g.run (s:=s) (om:=om) (seen:=x) (n:=0) (j0 0)) λy u=>?_
  refine ah (py (T:=T) (s:=s) (seen:=y) (pc:=35) (c:=34) (p:=e) (h:=e) (o:=om) (loops:=#[]) (inner:=none) (fs:=[od s om]) (w:=1) (by decide) A D) λC v=>?_
  refine (TT (T:=T) (s:=s) (seen:=C) (om:=om) (e:=e+1) (h:=e)).pre (((d.trans l).trans u).trans v) ?_
  refine ar (m:=1*(9*T.size+20)) (au eY 19 [_,_,_,_] [] A a8) (bC _ (au eY 20 [_,_,_] [] b a8))
 | @miss s r b i hs B=>
  intro seen om
  have F:(T.size+1 - s)*(9*T.size+20)=(T.size+1 - (s+1))*(9*T.size+20)+(9*T.size+20):=by
   have:T.size+1 - s=(T.size+1 - (s+1))+1:=bI eS 2 [_,_,_,_] [] b a8 a8
   refine ae this (ae (Nat.succ_mul _ _) rfl)
  refine ae F ?_
  by_cases j:T.getD s 0=34
  ·refine ah (i.resolve_left (λq=>q j)) λe z=>af z λg E=>?_
   have k:=g.le
   have:=k.2 (by assumption)
   refine ah (py (T:=T) (s:=s) (seen:=seen) (pc:=9) (c:=34) (p:=s) (h:=s) (o:=om) (loops:=#[]) (inner:=none) (fs:=[od s om]) (w:=1) (by decide) b j) λf d=>?_
   refine ah (JA (T:=T) (s:=s) (seen:=f) (om:=om) (p:=s+1) (w:=1) rfl) λx l=>?_
   exact ah (g.run (s:=s) (om:=om) (seen:=x) (n:=0) (j0 0)) λy u=>(ah (uR (T:=T) (s:=s) (seen:=y) (pc:=35) (c:=34) (p:=e) (h:=e) (o:=om) (loops:=#[]) (inner:=none) (fs:=[od s om]) (w:=1) (by decide) E) λC v=>((JC (pc:=35) (p:=e) (h:=e) b λa=>B (seen:=a) (om:=false)).pre (((d.trans l).trans u).trans v) (au eY 21 [_,_,_,_,_] [] this a8)))
  ·exact ah (uR (T:=T) (s:=s) (seen:=seen) (pc:=9) (c:=34) (p:=s) (h:=s) (o:=om) (loops:=#[]) (inner:=none) (fs:=[od s om]) (w:=1) (by decide) (λO=>j)) λf d=>((JC (pc:=9) (p:=s) (h:=s) b λa=>B (seen:=a) (om:=false)).pre d (bA fm 1 [_,_] []))
 | @over s b=>
  intro seen om
  refine ah (uR (T:=T) (s:=s) (seen:=seen) (pc:=9) (c:=34) (p:=s) (h:=s) (o:=om) (loops:=#[]) (inner:=none) (fs:=[od s om]) (w:=1) (by decide) (λq=>by exact au eY 22 [_,_,_] [] b q)) λf d=>?_
  refine (Q7 (pc:=9) (p:=s) (h:=s) b).pre d ?_
  refine ar (m:=1*(9*T.size+20)) (bA fm 2 [_] []) (bC _ (au eY 23 [_,_,_] [] b a8))
theorem D7 {T:Array Nat} (h:t1 T n I):T.size - n < 2->I=none:=by
 induction h with
 | hit e b c f i=>intro a;have:=c.le.1;exact cw (eP ee 20 [_,_,_,_] [] f a this a8)
 | over _=>intro _;rfl
 | miss e b g d=>intro a;clear b;exact d (bI eS 3 [_,_,_,_] [] a a8 a8)
theorem yI {T:Array Nat} (h:t1 T n I) (hs:n<=T.size):jd ((T.size+1)*(9*T.size+20)) (forSearch qc T 0 n T.size false) I:=by
 unfold forSearch
 by_cases a:T.size - n < 2
 ·have d:I=none:=D7 h a
  subst d
  show jd _ (if (decide (n > T.size) || decide (T.size - n < 2))=true then _ else _) none
  refine ae (if_pos (by simp [a])) ?_
  refine ⟨_,kq.mono (kq.one rfl rfl) ?_,_,rfl,rfl⟩
  exact ar (m:=1*(9*T.size+20)) (bA fm 3 [_] []) (bC _ (bA bZ 0 [_] []))
 ·show jd _ (if (decide (n > T.size) || decide (T.size - n < 2))=true then _ else _) I
  have c:¬((decide (n > T.size) || decide (T.size - n < 2))=true):=by
   intro q
   rcases dz _ _▸q with q | q
   ·have:=of_decide_eq_true q;exact absurd hs (pi.mpr this)
   ·exact a (of_decide_eq_true q)
  refine ae (if_neg c) ?_
  have:=h.run (seen:=({}:jo).add 14) (om:=true)
  refine ah this λf b=>af b λg e=>?_
  exact ⟨f,g.mono (bC _ (ak fh 13 [_,_,_] [] a8)),e⟩
end
theorem K9 {M:Model}{r:Option (Nat×Nat)}{E:Ir->Shared->Prop} (h:∀d,Ends d r->E d s):
  ∀(n:Nat) (m:Ir) (k:Nat),jd k m r->k<=4*n->0 < n->wpAny M A (DP n m) E Q s:=by
 intro n
 induction n with
 | zero=>intro m k _ _ v;exact absurd v (ay 0)
 | succ n w=>
  intro m k l u _
  refine ah l λd a=>af a λc g=>ah c λj o=>af o λp e=>?_
  have ho:d.outcome.isSome=true:=by
   unfold Ends at g
   cases r with
   | none=>refine ah g λx a=>af a λq O=>?_;refine ae q ?_;rfl
   | some y=>refine af g λa O=>ah a λx c=>af c λq O=>?_;refine ae q ?_;rfl
  unfold DP
  show wpAny M A (if (m.runFor 4).outcome.isSome=true then _ else _) E Q s
  by_cases i:(m.runFor 4).outcome.isSome=true
  ·refine ae (if_pos i) ?_
   refine wpAny_pure (h _ ?_)
   have:m.runFor 4=d:=by
    by_cases b:j<=4
    ·have f:(4:Nat)=j+(4 - j):=by exact au bq 11 [_,_] [] b a8
     refine ae f (ae (lq _ _ _) (ae e (ae (p4 ho) rfl)))
    ·have f:j=4+(j - 4):=by exact au dm 19 [_,_] [] b a8
     replace e:=(p4 i)▸(lq _ _ _)▸(f)▸e
     exact e
   change Ends (m.runFor 4) r
   exact ae this g
  ·refine ae (if_neg i) ?_
   have b:¬j<=4:=λb=>i (by
    have f:(4:Nat)=j+(4 - j):=au bq 11 [_,_] [] b a8
    exact ae f (ae (lq _ _ _) (ae e (ae (p4 ho) ho))))
   have l:jd (j - 4) (m.runFor 4) r:=by
    refine ⟨d,⟨j - 4,aD _,?_⟩,g⟩
    exact bQ (lq _ _ _) (ae (show 4+(j - 4)=j by exact au dm 20 [_,_] [] b a8) e)
   exact wpAny_bind (ud (w _ _ l (bI cO 14 [_,_,_,_] [] u p a8) (bI cO 15 [_,_,_] [] u p b)))
theorem C0 {M:Model}{A:Around}{E:Value->Shared->Prop}{s:Shared}{Q:PUnit->Shared->Prop} (g:Nat->Bool) (nm:Nat->String) (h:Q ⟨⟩ s):
  ∀l:List Nat,wpAny M A (forIn l PUnit.unit λi (O:PUnit)=>(if g i=true then (do rule (nm i);pure (gW PUnit.unit)) else pure (gW PUnit.unit):Sem (ForInStep PUnit))) Q E s
 | []=>by exact ae t8 (wpAny_pure h)
 | i::l=>by
  refine ae (jn _ _ _ _) ?_
  refine wpAny_bind ?_
  have b:=C0 (M:=M) (A:=A) (E:=E) g nm h l
  by_cases a:g i=true
  ·exact ae (if_pos a) (wpAny_bind (ud (wpAny_pure b)))
  ·exact ae (if_neg a) (wpAny_pure b)
theorem CZ {M:Model}{E:Option Ir->Shared->Prop}{m:Ir} (l:jd n m I) (j:n<=2^64)
  (h:∀o:Option Ir,(o.map λm=>(m.start,m.handed))=I->E o s):wpAny M A (AS m) E Q s:=by
 unfold AS
 refine wpAny_bind (K9 (r:=I) (λe c=>?_) _ m n l (ak fk 1 [_] [] j) (Nat.pow_pos (by decide)))
 refine wpAny_bind (C0 (λi=>e.seen.has i) (λi=>Sre.names.getD i "") ?_ _)
 unfold Ends at c
 cases I with
 | none=>refine ah c λx a=>af a λq b=>?_;subst b;exact ae q (wpAny_pure (h none rfl))
 | some r=>
  refine aA c λa f g=>ah a λx d=>af d λq b=>?_;subst b
  exact ae q (wpAny_pure (h (some e) (by refine ae (hV _ _) (ae f (ae g rfl)))))
noncomputable def ek (a:List (Array UInt8×Tok)):List Value:=a.map λx=>.bytes x.1 x.2
theorem ML {id:String}{t:Tok}:tD id (.bytes T t) 0=pure (some (T,none)):=by
 unfold tD V7
 refine ae (KBy.special_eq KBy.look_buffer) (ae KBy.own_buffer ?_)
 have e:zh id (.bytes T t) ((0:Int)==Wb)=pure (some T):=KBy.buffer_eq
 refine ae e ?_
 kernel_rfl
noncomputable abbrev PH:=List (Value×Option Value)
def TK (l:PH):Prop:=∀y∈l,∃b t,y=(.bytes b t,none)
theorem TK.snoc {l:PH} (h:TK l) (b:Array UInt8) (t:Tok):TK (l++[(.bytes b t,none)]):=by
 intro y hy
 rcases bY.mp hy with q | q
 ·exact h y q
 ·exact ae (ai.mp q) ⟨b,t,rfl⟩
theorem TK.heap {l:PH} (h:TK l):(l.any λx=>x.1.onHeap)=false:=by
 refine ae (propext Mo) ?_
 intro y hy
 refine aG (h y hy) λb t a=>?_;subst a
 simp [Value.onHeap]
section
variable {M:Model}{A:Around}{E:Value->Shared->Prop}{s:Shared}
theorem NN {l:PH} (h:TK l) (d:G () s):wpAny M A (xi l S) G E s:=by
 induction l with
 | nil=>exact wpAny_pure d
 | cons y l f=>
  refine aG (h y aB) λb t c=>?_;subst c
  show wpAny M A (letGo [.bytes b t] _ >>= λO=>xi l S) _ E s
  exact wpAny_bind (wpAny_letGo (f λz e=>h z (aP _ e)))
theorem V1 {bs:List (Array UInt8×Tok)}{f:Nat->Array (Array UInt8)×PH->Sem (ForInStep (Array (Array UInt8)×PH))}{Q:Array (Array UInt8)×PH->Shared->Prop}
  (o:∀i b t,bs[i]? =some (b,t)->∀a c,TK c->∀m:ForInStep (Array (Array UInt8)×PH)->Shared->Prop,m (.yield (a.push b,c++[(.bytes b t,none)])) s->wpAny M A (f i (a,c)) m E s):
  ∀n i a c,i+n=bs.length->TK c->(∀d,TK d->Q (a++((bs.drop i).map (·.1)).toArray,d) s)->wpAny M A (forIn (jW i n 1) (a,c) f) Q E s
 | 0,i,a,c,h,j,k=>by
  show wpAny M A (forIn [] (a,c) f) Q E s
  refine ae t8 ?_
  have:=k c j
  replace this:=((gJ (ak fh 8 [_,_] [] h)))▸this
  exact wpAny_pure this
 | n+1,i,a,c,h,j,k=>by
  have g:i < bs.length:=ak fh 9 [_,_,_] [] h
  refine ae OI (ae (jn _ _ _ _) ?_)
  refine wpAny_bind (o i bs[i].1 bs[i].2 (by simp [g]) a c j _ ?_)
  refine V1 o n (i+1) _ _ (ak fh 10 [_,_,_] [] h) (j.snoc _ _) λd l=>?_
  have:=k d l
  replace this:=(bG)▸(c5 g)▸this
  have e:a++(bs[i].1::((bs.drop (i+1)).map (·.1))).toArray=a.push bs[i].1++((bs.drop (i+1)).map (·.1)).toArray:=by
   apply Ms.mp
   simp only [nZ,wX,cy,dA,cV]
  replace this:=(e)▸this
  exact this
theorem Eu {sep:Array UInt8}{t:Tok}{l:Addr}{bs:List (Array UInt8×Tok)} (r:s.heap.get? l=some (listOf (ek bs).toArray n))
  (hs:zg ((bs.map (·.1)).toArray.foldl (·+·.size) (sep.size*((bs.map (·.1)).toArray.size - 1)))=false) (C:(pR sep (bs.map (·.1))).size<=Gx)
  (h:∀H,Q (.bytes (pR sep (bs.map (·.1))) H) {s with toks:=s.toks+1}) (x:∀b u,bs=[(b,u)]->Q (.bytes b u) s):
  wpAny M A (Builtin.«bytes.join» ⟨[.bytes sep t,.ref l],[]⟩) (λj F=>∃v,j=.done (.ret v)/\Q v F) E s:=by
 have z:s.TypeIs (.ref l) "list":=⟨_,r,rfl⟩
 have d:∀{Q:Option (Array Value)->Shared->Prop},Q (some (ek bs).toArray) s->wpAny M A (seqItems? (.ref l)) Q E s:=λq=>Gs r rfl q
 unfold Builtin.«bytes.join» V9
 refine wpAny_bind (lU (a:=(.bytes sep t,.ref l)) rfl ?_)
 dsimp only
 refine ae (if_pos (show (i5==i5)=true from rfl)) ?_
 refine wpAny_bind ?_
 unfold Wa
 refine wpAny_bind (wpAny_typeOf z ?_)
 refine ae (if_pos (by decide)) ?_
 refine wpAny_pure (wpAny_bind (d ?_))
 dsimp only
 refine ae (if_pos (show (i5==i5)=true from rfl)) ?_
 by_cases c:bs.length=1
 ·obtain ⟨⟨b,u⟩,rfl⟩:=i6.1 c
  ·
   exact wpAny_bind (wpAny_typeOf (AO s b u) (ae (if_pos (by decide)) (wpAny_bind (ud (wpAny_pure ⟨_,rfl,x b u rfl⟩)))))
 ·have f:(ek bs).toArray.size≠1:=by simpa [ek] using c
  generalize m:(ek bs).toArray=J at f ⊢
  unfold DW
  refine ae (dif_neg f) ?_
  dsimp only
  refine bQ m (ae (pb _ _ _) ?_)
  refine wpAny_bind ?_
  have e:jW [:(ek bs).toArray.size].start [:(ek bs).toArray.size].size [:(ek bs).toArray.size].step=jW 0 bs.length 1:=by
   simp [wM,ek]
  refine ae e ?_
  refine V1 (bs:=bs) ?_ bs.length 0 #[] [] (bA fo 17 [_] []) (by intro y hy;exact nomatch hy) ?_
  ·intro i b G B o p k I D
   dsimp only
   refine wpAny_bind (d ?_)
   dsimp only
   have w:(ek bs).toArray.getD i .none=.bytes b G:=by
    simp [ek,B]
   refine ae w (ae k.heap ?_)
   refine ae (if_neg (by decide)) ?_
   refine wpAny_bind (dV ?_)
   refine ae ML ?_
   refine wpAny_pure ?_
   dsimp only
   refine wpAny_bind (d ?_)
   dsimp only
   exact ae (if_neg (by simp)) (wpAny_pure D)
  ·intro g k
   refine ae SA ?_
   dsimp only
   refine wpAny_bind (lU (a:=sep) rfl ?_)
   refine ae IE (ae hs (ae (if_neg (by decide)) ?_))
   refine wpAny_bind (Ik ?_ C)
   exact wpAny_bind (dV (wpAny_point (wpAny_bind (NN k (wpAny_pure ⟨_,rfl,h _⟩)))))
end
def pK (h:Heap) (g b:Addr):Prop:=∃o c a k,h.get? g=some o/\o.cls=.type "re.Pattern"/\o.dict=none/\
 (∃f d e,o.data=.fields #[f,d,.int 0 e,.none,.none,.ref b,.int 1 0])/\
 h.get? b=some c/\c.data=.seq a k/\(a.map Builtin.Re.reRawOf).map (·.toNat)=qc
noncomputable def lO (b:Array UInt8):Array Nat:=b.map (·.toNat)
noncomputable def qT (a:Addr) (b:Array UInt8) (t:Tok):Ch:=
 {pattern:=.ref a,string:=.bytes b t,code:=qc,text:=lO b,kind:=1,groups:=0,pos:=0,lim:=(lO b).size}
section
variable {M:Model}{A:Around}{E:Value->Shared->Prop}{s:Shared}{qa ca:Addr}{b:Array UInt8}{t:Tok}
theorem pK.keeps {d:Heap} (p:pK h qa ca) (e:∀b o,(b=qa\/b=ca)->h.get? b=some o->d.get? b=some o):pK d qa ca:=by
 refine gu p λo q a k c=>fZ c λf g i j l m n=>?_
 exact ⟨o,q,a,k,e _ _ (.inl rfl) f,g,i,j,e _ _ (.inr rfl) l,m,n⟩
theorem MK:Cg (.bytes b t)=pure (lO b,1):=by
 unfold Cg
 refine ae KBy.quiet_eq ?_
 kernel_rfl
theorem Rj (h:G () s):wpAny M A (ue (.bytes b t) 1) G E s:=by
 unfold ue
 exact ae (if_pos (by decide)) (ae KBy.isInstance_eq (wpAny_bind (wpAny_pure (wpAny_pure h))))
theorem xQ {Q:Ch->Shared->Prop} (p:pK s.heap qa ca) (h:Q (qT qa b t) s):wpAny M A (zf (.ref qa) (.bytes b t)) Q E s:=by
 refine gu p λo v a k c=>fZ c λi r u d l m n=>bj d λq f g j=>?_
 unfold zf
 refine wpAny_bind (wpAny_fieldsOf i j ?_)
 refine ae MK ?_
 refine wpAny_bind (wpAny_pure ?_)
 dsimp only
 have e:Builtin.Re.reRawNat ((#[q,f,t2 0 g,qW,qW,xJ ca,t2 1 0]:Array Value).getD 6 qW)=1:=rfl
 refine ae e (ae (if_neg (show ¬((1==0 && 1==1)=true) by decide)) (ae (if_neg (show ¬((1==1 && 1==0)=true) by decide)) ?_))
 refine wpAny_bind (Rj ?_)
 refine wpAny_bind ?_
 show wpAny M A (AT (.ref ca)) _ E s
 unfold AT
 refine wpAny_bind (Gs l m ?_)
 refine wpAny_pure (wpAny_pure ?_)
 dsimp only [xj]
 exact ae n h
theorem Fx {Q:Option Ir->Shared->Prop} (a:t1 (lO b) n I) (hd:n<=(lO b).size) (hs:b.size<=1000)
  (h:∀o:Option Ir,(o.map λm=>(m.start,m.handed))=I->Q o s):wpAny M A (zS (qT qa b t) n false) Q E s:=by
 unfold zS
 refine CZ (yI a hd) ?_ h
 have e:(lO b).size=b.size:=by simp [lO]
 show ((lO b).size+1)*(9*(lO b).size+20)<=2^64
 refine ae e ?_
 refine ar (m:=1001*9020) (iN (ak e8 8 [_] [] hs) (ak e8 9 [_] [] hs)) (by decide)
theorem x4 (hs:b.size<=1000) (h:Q (.bytes (b.extract n p) s.toks) {s with toks:=s.toks+1}):wpAny M A (sL (lO b) 1 n p) Q E s:=by
 have c:((lO b).extract n p).map (·.toUInt8)=b.extract n p:=by
  unfold lO
  refine bQ Array.map_extract (ae Array.map_map ?_)
  have:(λx:Nat=>x.toUInt8) ∘ (λx:UInt8=>x.toNat)=id:=by
   funext x;simp
  refine ae this (ae (Array.map_id _) rfl)
 unfold sL
 exact ae (if_neg (by decide)) (ae c (Ik h (fS (by exact ae kF (bI hG 0 [_,_,_,_,_] [] hs jG a8)))))
end
inductive B6 (b:Array UInt8):Nat->Array UInt8->Prop
 | fin {d'}:t1 (lO b) d' none->B6 b d' (b.extract d' b.size)
 | more {d' a e' out}:t1 (lO b) d' (some (a,e'))->B6 b e' out->B6 b d' (b.extract d' a++out)
theorem t1.bounds {T:Array Nat} (h:t1 T n I):∀a e,I=some (a,e)->n<=a/\a+2<=e/\e<=T.size:=by
 induction h with
 | hit c b f d i=>intro a e q;cases q;have:=f.le.1;exact au eU 9 [_,_,_] [] d this
 | miss c b hs g=>intro a e q;have:=g a e q;clear b;exact ak e8 10 [_,_,_,_] [] this
 | over h=>intro a e q;exact bN q
theorem qq:Slot "bytes" "join" "bytes.join":=
 .of (owner:="bytes") (n:="join") (by refine ae (lw _ _) (ae ie ?_);kernel_rfl) (by decide +kernel) (by decide +kernel) (by decide +kernel)
  (by first | exact .inl (by decide +kernel) | exact .inr (by decide +kernel)) (by refine ae (Gz _ _) ?_;kernel_rfl)
theorem v4:PN table "bytes.join"=some Builtin.«bytes.join»:=tB (by kernel_rfl)
theorem vB (a b:Value):argsOk "bytes.join" ⟨[a,b],[]⟩:=by
 unfold argsOk;refine ae (Io (id:="bytes.join") (n:=['n','i','o','j']) (o:=['s','e','t','y','b']) (by kernel_rfl) FB.owner_bytes) ?_;kernel_rfl
noncomputable def kp (l:List (Array UInt8)):Array UInt8:=l.foldl (·++·) #[]
theorem v3:∀(l:List (Array UInt8)) (x:Array UInt8),l.foldl (·++·) x=x++kp l
 | [],x=>by simp [kp]
 | a::l,x=>by
  have b:kp (a::l)=a++kp l:=by
   show l.foldl (·++·) (#[]++a)=_
   refine ae (v3 l _) ?_;simp
  refine ae dP (ae (v3 l _) (ae b ?_))
  simp
theorem v7 (l:List (Array UInt8)) (x:Array UInt8):kp (l++[x])=kp l++x:=by
 unfold kp;refine ae Mm ?_;rfl
theorem yy (l:List (Array UInt8)):pR #[] l=kp l:=by
 have c:∀(l:List (Array UInt8)) (k:Nat) (x:Array UInt8),(l.zipIdx k).foldl (λb (y:Array UInt8×Nat)=>(if y.2 > 0 then b++(#[]:Array UInt8) else b)++y.1) x=l.foldl (·++·) x:=by
  intro l
  induction l with
  | nil=>intro k x;rfl
  | cons a l d=>
   intro k x
   rw [OH,dP,dP,d]
   congr 1
   split<;>simp
 exact c l 0 #[]
theorem G5 (l:List (Array UInt8)):∀k:Nat,l.toArray.foldl (·+·.size) k=k+(kp l).size:=by
 induction l with
 | nil=>intro k;simp [kp]
 | cons a l d=>
  intro k
  have c:kp (a::l)=a++kp l:=by
   show l.foldl (·++·) (#[]++a)=_
   refine ae (v3 l _) ?_;simp
  have b:=d (k+a.size)
  refine ae c (ae lb ?_)
  simp only [L9,dP] at b ⊢
  exact ae b (bA im 8 [_,_,_] [])
theorem rS:PN table "re.Pattern.sub.loop"=some Builtin.«re.Pattern.sub.loop»:=tB (by kernel_rfl)
theorem kM:plainId "re.Pattern.sub.loop"=true:=by decide +kernel
noncomputable def uv (a:Addr) (b:Array UInt8) (t u:Tok) (n:Int) (d:Nat) (l:Addr):Args:=
 ⟨[.ref a,.bytes b t,.bytes #[] u,rawInt 0,rawInt 0,rawInt n,rawInt d,rawInt d,.bool false,.ref l,.bool false],[]⟩
section
variable {M:Model}{A:Around}{E:Value->Shared->Prop}{s:Shared}
theorem vY {bs:List (Array UInt8×Tok)}{k:Nat}{u:Tok} (c:s.heap.get? D=some (listOf (ek bs).toArray k)) (f:bs.length<=1000)
  (h:∀a b,gG D s.heap a->a.get? D=some (listOf (ek (bs++[(T,u)])).toArray b)->G () {s with heap:=a}):wpAny M A (updateSeq D (·.push (.bytes T u))) G E s:=by
 have d:(ek bs).toArray.size<=1000:=by simpa [ek] using f
 refine wpAny_updateSeq c rfl ?_ (fS d) (ae (Array.size_push _) (ae PM (ak fj 19 [_] [] d)))
 refine ah (wz (λy=>y.push (.bytes T u)) (ek bs).toArray k) λb e=>?_
 refine h _ b (qU ..) ?_
 refine ae (sJ _ c (by rw [e];rfl)) (ae e ?_)
 congr 2
 simp [ek]
theorem JS {u:Tok} (h:G () s):wpAny M A (sM (.bytes T u)) G E s:=by
 unfold sM
 exact wpAny_bind (lU (a:=none) rfl (ae (if_pos (by decide)) (ae KBy.isInstance_eq (wpAny_bind (wpAny_pure (wpAny_pure h))))))
end
section
variable {prog:mx}{w:World}{A:Around}{R:Result->Shared->Prop}
theorem IX {t u:Tok}{X ca:Addr} (hsz:T.size<=1000) {ε:Array UInt8} (hq:B6 T p ε):
  ∀{s:Shared}{l:Addr}{bs:List (Array UInt8×Tok)}{k:Nat}{n:Int},pK s.heap X ca->s.heap.get? l=some (listOf (ek bs).toArray k)->l≠X->l≠ca->p<=T.size->bs.length<=p->(kp (bs.map (·.1))).size<=p->
   (∀b C h,gG l s.heap b->s.toks<=C->R (.ok (.ret (.bytes (kp (bs.map (·.1))++ε) h))) {s with heap:=b,toks:=C})->
   AM (model prog w) A (.builtin "re.Pattern.sub.loop" (uv X T t u n p l)) R s:=by
 have D:(lO T).size=T.size:=by simp [lO]
 induction hq with
 | @fin p hs=>
  intro s l bs k n hp hl P N hd hb hc hR
  refine Yc rS ?_
  refine ae (E1 kM _) ?_
  unfold Builtin.«re.Pattern.sub.loop» uv rawInt
  dsimp only
  refine wpAny_bind (xQ hp ?_)
  refine ae (if_pos (by decide)) ?_
  refine wpAny_bind (JS ?_)
  refine wpAny_bind ?_
  refine ae (if_neg bT) ?_
  refine Fx hs (ae D hd) hsz λo ho=>?_
  have:o=none:=by cases o with
   | none=>rfl
   | some m=>exact Sk ho
  subst this
  dsimp only
  have fin:∀(j:Shared) (i:List (Array UInt8×Tok)) (k1:Nat),j.heap.get? l=some (listOf (ek i).toArray k1)->kp (i.map (·.1))=kp (bs.map (·.1))++T.extract p T.size->
    (∀C h,j.toks<=C->R (.ok (.ret (.bytes (kp (bs.map (·.1))++T.extract p T.size) h))) {j with toks:=C})->
    wpAny (model prog w) A.in1 (do
     let H <- sL (lO T) 1 0 0
     let r <- seqItems? (.ref l)
     if (r.getD #[]).isEmpty=true then do
      let B <- pure H
      (if false=true then (do let g <- holding [B] (do let g <- mkInt n;newTuple [B,g]);ret g) else ret B)
     else do
      let B <- call (.builtin "bytes.join") [H,.ref l]
      (if false=true then (do let g <- holding [B] (do let g <- mkInt n;newTuple [B,g]);ret g) else ret B))
     (λfin E=>match fin with | .done f=>R (.ok f) E | .again S=>S.quiet=true/\AM (model prog w) A S R E) (λe E=>R (.error e) E) j:=by
   intro j i k1 M d ι
   refine wpAny_bind (x4 hsz ?_)
   refine wpAny_bind (Gs M rfl ?_)
   refine ae xj ?_
   refine ae (show T.extract 0 0=#[] by simp) ?_
   by_cases he:(ek i).toArray.isEmpty=true
   ·refine ae (if_pos he) ?_
    have:i=[]:=by simpa [ek] using he
    subst this
    refine wpAny_bind (wpAny_pure ?_)
    refine ae (if_neg (by decide)) ?_
    have hz:kp (bs.map (·.1))++T.extract p T.size=#[]:=by refine bQ d ?_;rfl
    have:=ι (j.toks+1) j.toks (bx _)
    replace this:=(hz)▸this
    exact wpAny_pure this
   ·refine ae (if_neg he) ?_
    have ν:∀C h,j.toks<=C->wpAny (model prog w) A.in1 (if false=true then (do let g <- holding [zd (kp (bs.map (·.1))++T.extract p T.size) h] (do let g <- mkInt n;newTuple [zd (kp (bs.map (·.1))++T.extract p T.size) h,g]);ret g) else ret (zd (kp (bs.map (·.1))++T.extract p T.size) h))
     (λfin E=>match fin with | .done f=>R (.ok f) E | .again S=>S.quiet=true/\AM (model prog w) A S R E) (λe E=>R (.error e) E) {j with toks:=C}:=λC h G=>by
     exact ae (if_neg (by decide)) (wpAny_pure (ι C h G))
    have μ:(kp (bs.map (·.1))++T.extract p T.size).size<=1000:=ae lb (ae kF (jH fA 2 [_,_,_,_,_] [] hsz hd hc jG a8))
    refine wpAny_bind (wpAny_call (PO qq.plain v4 (qq.check _ _ _ _ _ _ _ _ (AO _ #[] _) (vB _ _) ?_)))
    refine zo (Eu (bs:=i) (sep:=#[]) (l:=l) (n:=k1) (Q:=λv E=>∃C h,v=.bytes (kp (bs.map (·.1))++T.extract p T.size) h/\j.toks<=C/\E={j with toks:=C}) M ?_ ?_ ?_ ?_) (λfin E b=>?_) λO O x=>x
    ·refine ae (G5 _ _) (ae d ?_)
     unfold zg
     exact ae (propext decide_eq_false_iff_not) (je.mpr (fS (by simpa using μ)))
    ·exact ae (yy _) (ae d (fS μ))
    ·intro C
     exact ae (yy _) (ae d ⟨_,_,rfl,(by show j.toks<=j.toks+1+1;exact bA bZ 5 [_] []),rfl⟩)
    ·intro x y e
     subst e
     have:x=kp (bs.map (·.1))++T.extract p T.size:=by refine bQ d ?_;simp [kp]
     exact ae this ⟨j.toks+1,_,rfl,bx _,rfl⟩
    ·refine ah b λv ζ=>af ζ λη υ=>aG υ λC h φ=>aA φ λχ h1 ψ=>?_;subst η;subst χ;subst ψ
     exact ν C h h1
  by_cases L:p < T.size
  ·refine ae (if_pos (show ((p:Int).toNat < (qT X T t).lim) by show p < (lO T).size;exact au bq 0 [_,_,_] [] D L)) ?_
   refine wpAny_bind (x4 hsz ?_)
   refine wpAny_bind (vY (bs:=bs) (k:=k) hl (bI eT 7 [_,_,_] [] hsz hb L) λb k' I K=>?_)
   refine fin _ _ k' K ?_ λC h G=>?_
   ·refine ae gj (ae bG (ae E2 (ae (v7 _ _) ?_)))
    show _++T.extract p (lO T).size=_
    refine ae D rfl
   ·exact hR b C h I (ar (bx _) G)
  ·refine ae (if_neg (show ¬((p:Int).toNat < (qT X T t).lim) by show ¬p < (lO T).size;exact au eZ 9 [_,_,_] [] D L)) ?_
   have hx:T.extract p T.size=#[]:=by
    apply iE
    exact ae kF (bI eT 8 [_,_,_,_] [] L jG a8)
   refine fin _ bs k hl (by refine ae hx ?_;rfl) λC h G=>?_
   exact hR s.heap C h (Cf ..) G
 | @more p a e ε hs hq ih=>
  intro s l bs k n hp hl P N hd hb hc hR
  have F:=hs.bounds a e rfl
  replace F:=(D)▸F
  refine Yc rS ?_
  refine ae (E1 kM _) ?_
  unfold Builtin.«re.Pattern.sub.loop» uv rawInt
  dsimp only
  refine wpAny_bind (xQ hp ?_)
  refine ae (if_pos (by decide)) ?_
  refine wpAny_bind (JS ?_)
  refine wpAny_bind ?_
  refine ae (if_neg bT) ?_
  refine Fx hs (ae D hd) hsz λo ho=>?_
  refine ah (dH.mp ho) λm ζ=>af ζ λη hm=>?_;subst η
  have π:m.start=a:=congrArg Prod.fst hm
  have ρ:m.handed=e:=congrArg Prod.snd hm
  dsimp only
  refine ae π (ae ρ ?_)
  have θ:(e==a)=false:=ae (propext beq_eq_false_iff_ne) (ak fj 20 [_,_,_,_] [] F)
  refine ae θ ?_
  have Y:∀(j:Shared) (i:List (Array UInt8×Tok)) (k1:Nat),pK j.heap X ca->j.heap.get? l=some (listOf (ek i).toArray k1)->i.length<=p+1->kp (i.map (·.1))=kp (bs.map (·.1))++T.extract p a->
    gG l s.heap j.heap->s.toks<=j.toks->(j={s with heap:=j.heap,toks:=j.toks})->
    wpAny (model prog w) A.in1 (do
     let W <- pure (zd #[] u)
     if (W !=qW)=true then do
      updateSeq l λx=>x.push W
      again (Vu "re.Pattern.sub.loop" (uv X T t u (n+1) e l))
     else again (Vu "re.Pattern.sub.loop" (uv X T t u (n+1) e l)))
     (λfin E=>match fin with | .done f=>R (.ok f) E | .again S=>S.quiet=true/\AM (model prog w) A S R E) (λe E=>R (.error e) E) j:=by
   intro j i k1 ς M κ d I G τ
   refine wpAny_bind (wpAny_pure ?_)
   refine ae (if_pos (by rfl)) ?_
   refine wpAny_bind (vY (bs:=i) (k:=k1) M (bI eT 9 [_,_,_,_,_] [] hsz F κ) λb k' U K=>?_)
   refine wpAny_pure ⟨plainId_quiet kM _,?_⟩
   have J:kp ((i++[((#[]:Array UInt8),u)]).map (·.1))=kp (bs.map (·.1))++T.extract p a:=by
    refine ae gj (ae bG (ae E2 (ae (v7 _ _) (ae d ?_))));rfl
   refine ih (bs:=i++[(#[],u)]) (k:=k') (ς.keeps λc o Z β=>?_) K P N F.2.2 (by refine ae bp ?_;show i.length+1<=e;exact au eZ 10 [_,_,_,_,_] [] F κ) ?_ ?_
   ·have:c≠l:=by rcases Z with q | q<;>refine ae q ?_<;>exact λz=>by first | exact P z.symm | exact N z.symm
    exact ae (U.2 c this) β
   ·exact ae J (ae lb (ae kF (eP ee 16 [_,_,_,_,_,_,_] [] hc F jG a8)))
   ·intro ξ C h γ δ
    refine ae J ?_
    have:=hR ξ C h ((I.trans U).trans γ) (ar G δ)
    replace this:=(Eq.symm IF)▸this
    exact ae τ this
  by_cases α:p < a
  ·refine ae (if_pos (show ((p:Int).toNat < a) from α)) ?_
   refine wpAny_bind (x4 hsz ?_)
   refine wpAny_bind (vY (bs:=bs) (k:=k) hl (bI eT 10 [_,_,_] [] hsz hd hb) λb k' I K=>?_)
   refine ae (if_pos (by decide)) ?_
   refine Y _ _ k' (hp.keeps λc o Z β=>?_) K (by refine ae bp ?_;show bs.length+1<=p+1;exact ak fj 21 [_,_] [] hb) ?_ I (bx _) rfl
   ·have:c≠l:=by rcases Z with q | q<;>refine ae q ?_<;>exact λz=>by first | exact P z.symm | exact N z.symm
    exact ae (I.2 c this) β
   ·refine ae gj (ae bG (ae E2 (ae (v7 _ _) ?_)))
    rfl
  ·refine ae (if_neg (show ¬((p:Int).toNat < a) from α)) (ae (if_pos (by decide)) ?_)
   have hx:T.extract p a=#[]:=by
    apply iE
    exact ae kF (bI eT 11 [_,_,_,_,_] [] α jG a8)
   exact Y s bs k hp hl (ak aK 5 [_,_] [] hb) (by refine ae hx ?_;rfl) (Cf ..) (aD _) rfl
end
theorem pX:Slot "re.Pattern" "sub" "re.Pattern.sub":=
 .of (owner:="re.Pattern") (n:="sub") (by refine ae (lw _ _) (ae ie ?_);kernel_rfl) (by decide +kernel) (by decide +kernel) (by decide +kernel)
  (by first | exact .inl (by decide +kernel) | exact .inr (by decide +kernel)) (by refine ae (Gz _ _) ?_;kernel_rfl)
theorem A5:typeOf (.builtin "re.Pattern.sub")=pure (.type "method_descriptor"):=by show builtinType _=_;refine ae Sw ?_;kernel_rfl
theorem zL:PN table "re.Pattern.sub"=some Builtin.«re.Pattern.sub»:=tB (by kernel_rfl)
theorem Hi:Manifest.owners.lookup (String.ofList ['n','r','e','t','t','a','P','.','e','r'].reverse)=some Manifest.sig_re_Pattern:=by kernel_rfl
theorem y8 (a b c:Value):argsOk "re.Pattern.sub" ⟨[a,b,c],[]⟩:=by
 unfold argsOk;refine ae (Io (id:="re.Pattern.sub") (n:=['b','u','s']) (o:=['n','r','e','t','t','a','P','.','e','r']) (by kernel_rfl) Hi) ?_;kernel_rfl
theorem yj:GB "re.Pattern":=
 ⟨⟨"object.__getattribute__",by refine ae (lw _ _) (ae ie ?_);kernel_rfl,by decide +kernel⟩,by refine ae (lw _ _) (ae ie ?_);kernel_rfl⟩
theorem zM:Gv (.type "bytes") "__call__"=pure none:=by refine ae (lw _ _) (ae ie ?_);kernel_rfl
section
variable {C:Cx}{N:Nat}{s:Shared}{av:Addr->Prop}{own:List Addr}{H:Hs}{A:Around}{E:Value->Shared->Prop}
theorem Jt {w:Addr}{b:Array UInt8}{J rc:Value} (I:pK C.h₀ D w) (P:Hp C av s own H) (F:R s.heap av own (.obj D) f) (U:R s.heap av own (.sw #[]) J)
  (W:R s.heap av own (.sw T) rc) (hsz:T.size<=1000) (r:B6 T 0 b) (v:B (.sw b) H) (S:f9 C av s own B Q):wpAny C.md A (call (.builtin "re.Pattern.sub") [f,J,rc]) Q E s:=by
 have F:=R.pz.mp F;subst F
 refine ah (R.AB.mp U) λu j=>?_;subst j
 refine ah (R.AB.mp W) λt j=>?_;subst j
 have d:pK s.heap D w:=I.keeps λc o O ho=>P.gd.base _ _ ho
 have M:s.TypeIs (.ref D) "re.Pattern":=by
  refine gu d λo O O O i=>aA i λz K O=>?_
  exact ⟨o,z,K⟩
 refine wpAny_call (PO pX.plain zL (pX.check _ _ _ _ _ _ _ _ M (y8 _ _ _) ?_))
 unfold Builtin.«re.Pattern.sub» Builtin.Re.reSubstitute
 dsimp only
 refine wpAny_bind (lU (a:=[some (.bytes #[] u),some (.bytes T t),none]) (by kernel_rfl) ?_)
 dsimp only
 refine wpAny_bind ?_
 refine ae (KBy.special_eq zM) ?_
 refine wpAny_pure (wpAny_bind (wpAny_pure ?_))
 refine ae (if_neg (by decide)) ?_
 refine wpAny_bind (lU (a:=none) rfl ?_)
 dsimp only
 refine ae KBy.quiet_eq ?_
 refine wpAny_bind (wpAny_pure ?_)
 dsimp only
 refine wpAny_bind (wpAny_pure ?_)
 refine ae (if_neg (by decide)) (ae (if_pos (by simp)) ?_)
 refine wpAny_bind (wpAny_pure ?_)
 dsimp only
 refine wpAny_bind (dV (xQ d ?_))
 refine ae (if_neg (by decide)) ?_
 refine wpAny_bind (wpAny_newList ?_ (eB _))
 refine wpAny_pure ⟨plainId_quiet kM _,?_⟩
 have h:∀c o,s.heap.get? c=some o->s.heap.objs.size≠c:=λc o e q=>ay _ (q▸bF e)
 have l:s.heap.objs.size≠D/\s.heap.objs.size≠w:=by
  refine gu d λo Z O O i=>d7 i λz O O O L O=>?_
  exact ⟨h _ _ z,h _ _ L⟩
 refine IX (ca:=w) hsz r (bs:=[]) (k:=0) (n:=0) (d.keeps λc o O ho=>aQ _ ho) (bg _ rfl) l.1 l.2 (eB _) (aD _) (aD _) λy X Y p g=>?_
 have G:∀c o,s.heap.get? c=some o->y.get? c=some o:=λc o e=>by
  exact ae (p.2 c (λq=>h c o e q.symm)) (aQ _ e)
 have m:s.heap.objs.size<=y.objs.size:=by rw [p.1,bE];exact bA bZ 2 [_] []
 have e:kp (ey (λx:Array UInt8×Tok=>x.1) [])++b=b:=by simp [kp]
 exact ae e (S _ _ _ own H v (R.AB.mpr ⟨_,rfl⟩) (P.keeps (s':={s with heap:=y,toks:=X}) G m g) (c4.of_keeps G m))
end
def Uq (a:List V) (P:Prop):Prop:=match a with
 | []=>P
 | _::_=>False
def lstP (v:V) (f:List V->Prop):Prop:=match v with
 | .lst l=>f l
 | _=>False
def Ot (v:V) (f:Array UInt8->Prop):Prop:=match v with
 | .sw b=>f b
 | _=>False
theorem xD {P:Prop} (h:Uq l P):l=[]/\P:=by
 cases l with
 | nil=>exact ⟨rfl,h⟩
 | cons _ _=>exact h.elim
theorem Kb {f:List V->Prop} (h:lstP v f):∃z,v=.lst z/\f z:=by
 cases v with
 | lst z=>exact ⟨z,rfl,h⟩
 | _=>exact h.elim
theorem yW {f:Array UInt8->Prop} (h:Ot v f):∃z,v=.sw z/\f z:=by
 cases v with
 | sw z=>exact ⟨z,rfl,h⟩
 | _=>exact h.elim
def Uk (n:Nat) (m:Str) (a:List V) (H:Hs) (Q:V->Hs->Prop):Prop:=∃l,H[n]? =some l/\l.length<=1000/\
  (if m="append" then Et a (λv=>Q .none (H.set n (l++[v])))
  else if m="extend" then Et a (λv=>lstP v λb=>l.length+b.length<=1000/\Q .none (H.set n (l++b)))
  else if m="pop" then Uq a (∃v,l.getLast? =some v/\Q v (H.set n l.dropLast))
  else if m="reverse" then Uq a (Q .none (H.set n l.reverse))
  else False)
def Ep (x:Str) (m:Str) (b:List V) (H:Hs) (Q:V->Hs->Prop):Prop:=
  if m="join" then Et b λv=>∃l a,vw H v=.lst l/\q5 l=some a/\a.toArray.foldl (·+·.length+x.length) 0<=1000/\(fX x a).length<=1000/\Q (.str (fX x a)) H
  else Uq b ((∀c∈x.cps,kQ c=false)/\(qR x).size<=1000/\Q (.sw (qR x)) H)
def uW (f:Addr) (m:Str) (a:V) (c:List V) (H:Hs) (Q:V->Hs->Prop):Prop:=match a with
 | .ref n=>Uk n m c H Q
 | .lst l=>Et c λv=>∃k j,NV l v=some k/\fx v l 0=some j/\l.length<=1000/\Q (.int j) H
 | .str x=>Ep x m c H Q
 | .sw b=>Et c λv=>Ot v λe=>e.isEmpty=false/\Q (.int (BZ b e)) H
 | .int i=>Uq c (Q (.int (aI i)) H)
 | .obj p=>p=f/\SL c λr b=>Ot r λr=>Ot b λb=>r=#[]/\b.size<=1000/\∃d,B6 b 0 d/\Q (.sw d) H
 | _=>False
section
variable {C:Cx}{N:Nat}{s:Shared}{av:Addr->Prop}{own:List Addr}{H:Hs}{A:Around}{E:Value->Shared->Prop}
theorem FF (h:s.heap.get? D=some (listOf j n)):s.TypeIs (.ref D) "list"/\∀a,xJ D=.ref a->∃o,s.heap.get? a=some o/\o.dict=none:=
 ⟨⟨_,h,rfl⟩,λa e=>xB e▸⟨_,h,rfl⟩⟩
structure X1 (C:Cx) (m:Str) (a:V) (Ty id:String):Prop where
 at_:GB Ty
 slot:Slot Ty m id
 ty:typeOf (.builtin id)=pure (.type "method_descriptor")
 is:∀s av own H ra,Hp C av s own H->R s.heap av own a ra->s.TypeIs ra Ty/\(∀l,ra=.ref l->∃o,s.heap.get? l=some o/\o.dict=none)
theorem eO {a b c d:String} (h:some (a,b)=some (c,d)):a=c/\b=d:=by
 injection h with h
 injection h with e f
 exact ⟨e,f⟩
theorem Br {av:Addr->Prop}{own:List Addr}{H:Hs} (P:Hp C av s own H) (r:R s.heap av own (.ref n) f):s.TypeIs f "list"/\∀l,f=.ref l->∃o,s.heap.get? l=some o/\o.dict=none:=by
 refine ah r λa c=>af c λd ho=>?_;subst d
 have b:n < H.length:=P.len▸(aL.mp ho).1
 obtain ⟨g,k,e,_⟩:=P.lst n a H[n] ho (aT b)
 exact FF e
section
variable {m:Str}{Ty id:String}
theorem Nr (h:ys 36 m (.ref n)=some (Ty,id)):X1 C m (.ref n) Ty id:=by
 rcases dJ h with ⟨rfl,h⟩ | ⟨_,h⟩
 ·refine af (eO h) λa b=>?_;subst a;subst b;exact ⟨F.plainAttrs_list,F.slot_list_append,F.type_list_append,λs av own H c P r=>Br P r⟩
 rcases dJ h with ⟨rfl,h⟩ | ⟨_,h⟩
 ·refine af (eO h) λa b=>?_;subst a;subst b;exact ⟨F.plainAttrs_list,F.slot_list_extend,F.type_list_extend,λs av own H c P r=>Br P r⟩
 rcases dJ h with ⟨rfl,h⟩ | ⟨_,h⟩
 ·refine af (eO h) λa b=>?_;subst a;subst b;exact ⟨F.plainAttrs_list,F.slot_list_pop,F.type_list_pop,λs av own H c P r=>Br P r⟩
 rcases dJ h with ⟨rfl,h⟩ | ⟨_,h⟩
 ·refine af (eO h) λa b=>?_;subst a;subst b;exact ⟨F.plainAttrs_list,F.slot_list_reverse,F.type_list_reverse,λs av own H c P r=>Br P r⟩
 ·exact cR h
theorem Nq (h:ys 36 m (.str x)=some (Ty,id)):X1 C m (.str x) Ty id:=by
 have d:∀(s:Shared) (av:Addr->Prop) (own:List Addr) (a:Value),R s.heap av own (.str x) a->s.TypeIs a "str"/\(∀l,a=.ref l->∃o,s.heap.get? l=some o/\o.dict=none):=λs av own a r=>r.elim λt r=>r▸⟨S1 _ _ _,λl e=>nomatch e⟩
 rcases dJ h with ⟨rfl,h⟩ | ⟨_,h⟩
 ·refine af (eO h) λb c=>?_;subst b;subst c;exact ⟨F.plainAttrs_str,F.slot_str_join,F.type_str_join,λs av own H a O r=>d s av own a r⟩
 rcases dJ h with ⟨rfl,h⟩ | ⟨_,h⟩
 ·refine af (eO h) λb c=>?_;subst b;subst c;exact ⟨F.plainAttrs_str,F.slot_str_encode,F.type_str_encode,λs av own H a O r=>d s av own a r⟩
 ·exact cR h
theorem JZ (g:pK C.h₀ 36 D) (h:ys 36 m v=some (Ty,id)):X1 C m v Ty id:=by
 cases v with
 | ref n=>exact Nr h
 | str x=>exact Nq h
 | lst l=>
  rcases dJ h with ⟨rfl,h⟩ | ⟨_,h⟩
  ·refine af (eO h) λc d=>?_;subst c;subst d
   exact ⟨F.plainAttrs_list,F.slot_list_index,F.type_list_index,λs av own H f P r=>r.elim λv r=>r.elim λk r=>r.elim λn r=>r.1▸FF r.2.2.2.1⟩
  ·exact cR h
 | sw b=>
  rcases dJ h with ⟨rfl,h⟩ | ⟨_,h⟩
  ·refine af (eO h) λc d=>?_;subst c;subst d
   exact ⟨FB.plainAttrs_bytes,po,vS,λs av own H f P r=>r.elim λt r=>r▸⟨AO _ _ _,λl e=>nomatch e⟩⟩
  ·exact cR h
 | int i=>
  rcases dJ h with ⟨rfl,h⟩ | ⟨_,h⟩
  ·refine af (eO h) λc d=>?_;subst c;subst d
   exact ⟨F.plainAttrs_int,F.slot_int_bit_length,F.type_int_bit_length,λs av own H f P r=>r.elim λt r=>r▸⟨S2 _ _ _,λl e=>nomatch e⟩⟩
  ·exact cR h
 | obj b=>
  rcases dJ h with ⟨⟨rfl,rfl⟩,h⟩ | ⟨_,h⟩
  ·refine af (eO h) λc d=>?_;subst c;subst d
   exact ⟨yj,pX,A5,λs av own H f P r=>g.elim λo q=>q.elim λO q=>q.elim λO q=>q.elim λO q=>(show f=_ from r)▸⟨⟨o,P.gd.base _ _ q.1,q.2.1⟩,λl e=>xB e▸⟨o,P.gd.base _ _ q.1,q.2.2.1⟩⟩⟩
  ·exact cR h
 | _=>exact cR h
theorem Rl (b:pK C.h₀ 36 D) (h:ys 36 m v=some (Ty,id)):GB Ty/\Slot Ty m id/\typeOf (.builtin id)=pure (.type "method_descriptor")/\
  ∀s av own H c,Hp C av s own H->R s.heap av own v c->s.TypeIs c Ty/\(∀l,c=.ref l->∃o,s.heap.get? l=some o/\o.dict=none):=
 have k:=JZ b h
 ⟨k.at_,k.slot,k.ty,k.is⟩
end
section
variable {m:Str}{vs:List V}{cK:V->Hs->Prop}{Ty id:String}{ra:Value}{px:List Value}{Q:Value->Shared->Prop}
theorem Nv (h:Uk n m vs H cK) (c:ys 36 m (.ref n)=some (Ty,id)) (P:Hp C av s own H) (r:R s.heap av own (.ref n) ra) (g:Rs s.heap av own vs px) (f:f9 C av s own cK Q):wpAny C.md A (call (.builtin id) (ra::px)) Q E s:=by
 refine ah h λl a=>aA a λd hs h=>?_
 rcases dJ c with ⟨e,c⟩ | ⟨e,c⟩
 ·replace h:=(if_pos e)▸h
  refine ah (m5 h) λv a=>af a λb h=>?_;subst b;refine ah g.inv1 λw a=>af a λb i=>?_;subst b
  exact (eO c).2▸HS P r i d hs h f
 replace h:=(if_neg e)▸h
 rcases dJ c with ⟨e,c⟩ | ⟨e,c⟩
 ·replace h:=(if_pos e)▸h
  refine ah (m5 h) λv a=>af a λb h=>?_;subst b;refine ah g.inv1 λw a=>af a λb i=>?_;subst b;refine ah (Kb h) λp a=>af a λb h=>?_;subst b
  exact (eO c).2▸HA P r i d h.1 h.2 f
 replace h:=(if_neg e)▸h
 rcases dJ c with ⟨e,c⟩ | ⟨e,c⟩
 ·replace h:=(if_pos e)▸h
  refine af (xD h) λb a=>ah a λv j=>af j λk o=>?_;subst b
  exact (show px=[] from g)▸(eO c).2▸Ra P r d hs k o f
 replace h:=(if_neg e)▸h
 rcases dJ c with ⟨e,c⟩ | ⟨e,c⟩
 ·replace h:=(if_pos e)▸h
  refine af (xD h) λb h=>?_;subst b
  exact (show px=[] from g)▸(eO c).2▸Ea P r d hs h f
 ·exact cR c
theorem Nu (h:Ep x m vs H cK) (b:ys 36 m (.str x)=some (Ty,id)) (P:Hp C av s own H) (r:R s.heap av own (.str x) ra) (i:Rs s.heap av own vs px) (g:f9 C av s own cK Q):wpAny C.md A (call (.builtin id) (ra::px)) Q E s:=by
 unfold Ep at h
 rcases dJ b with ⟨e,b⟩ | ⟨e,b⟩
 ·replace h:=(if_pos e)▸h
  refine ah (m5 h) λv c=>af c λa d=>aG d λl u f=>bh f λj k n o p=>?_;subst a;refine ah i.inv1 λw c=>af c λa q=>?_;subst a
  exact (eO b).2▸NM P r q j k n o p g
 replace h:=(if_neg e)▸h
 rcases dJ b with ⟨e,b⟩ | ⟨e,b⟩
 ·refine af (xD h) λa h=>?_;subst a
  exact (show px=[] from i)▸(eO b).2▸HE P r h.1 h.2.1 h.2.2 g
 ·exact cR b
theorem Rm {F:Addr} (I:C.Ok) (z:pK C.h₀ 36 F) (h:uW 36 m v vs H cK) (c:ys 36 m v=some (Ty,id)) (L:fD A N)
  (P:Hp C av s own H) (r:R s.heap av own v ra) (g:Rs s.heap av own vs px) (f:f9 C av s own cK Q):wpAny C.md A (call (.builtin id) (ra::px)) Q E s:=by
 cases v with
 | ref n=>exact Nv h c P r g f
 | str x=>exact Nu h c P r g f
 | lst l=>
  rcases dJ c with ⟨_,c⟩ | ⟨_,c⟩
  ·refine ah (m5 h) λa e=>af e λd B=>aG B λk j D=>cu D λp u y G=>?_;subst d;refine ah g.inv1 λw e=>af e λd o=>?_;subst d
   exact (eO c).2▸Kn (I.nb.imp λU q=>⟨q.1.keeps P.gd.base,q.2⟩) (bL (bA bZ 9 [_,_] []) L.un) P r o p u y G f
  ·exact cR c
 | sw b=>
  rcases dJ c with ⟨_,c⟩ | ⟨_,c⟩
  ·refine ah (m5 h) λa e=>af e λd h=>?_;subst d;refine ah g.inv1 λw e=>af e λd o=>?_;subst d;refine ah (yW h) λM e=>af e λd h=>?_;subst d
   exact (eO c).2▸Ln P r o h.1 h.2 f
  ·exact cR c
 | int i=>
  rcases dJ c with ⟨_,c⟩ | ⟨_,c⟩
  ·refine af (xD h) λd h=>?_;subst d
   exact (show px=[] from g)▸(eO c).2▸HQ P r h f
  ·exact cR c
 | obj b=>
  obtain ⟨rfl,h⟩:=h
  rcases dJ c with ⟨_,c⟩ | ⟨_,c⟩
  ·obtain ⟨a,W,rfl,h⟩:=vg h;obtain ⟨w,X,rfl,o,K⟩:=g.inv2;obtain ⟨S,rfl,h⟩:=yW h;obtain ⟨T,rfl,rfl,p,J,u,y⟩:=yW h
   exact (eO c).2▸Jt z P r o K p u y f
  ·exact cR c
 | _=>exact cR c
end
end
noncomputable def ZS (x:Expr):List Expr:=x.casesOn (λO l O=>l) (λO O O=>[]) (λa O b O=>[a,b]) (λO a O=>[a]) (λO O O O=>[]) (λa b c O=>[a,b,c]) (λO O O=>[]) (λO O O=>[]) (λa l O O=>a::l.flatMap λg=>g.target::g.iter::g.ifs) (λO O O O=>[]) (λO O O O O=>[]) (λO O O O=>[]) (λO O=>[]) (λO O=>[]) (λO O=>[]) (λa O l O=>a::l) (λa l O O=>a::l) (λO O O O=>[]) (λO O=>[]) (λO O O=>[]) (λa O O=>[a]) (λa b O=>[a,b]) (λO O=>[]) (λO O=>[]) (λl O=>l) (λl O O=>l) (λa b c O=>a.toList++b.toList++c.toList)
noncomputable def pE:Nat->Expr->List Pos:=OF (λO=>[]) λO f x=>x.pos::(ZS x).flatMap f
noncomputable def sK (s:Stmt):Pos×List Expr×List Stmt:=s.casesOn (λO O b O O O O O O p=>(p,[],b)) (λO O O O O O O O O p=>(p,[],[])) (λO O O O O O O O O O p=>(p,[],[])) (λe p=>(p,e.toList,[])) (λO p=>(p,[],[])) (λl e p=>(p,e::l,[])) (λO O O O O O p=>(p,[],[])) (λt O e p=>(p,[e,t],[])) (λO O O O p=>(p,[],[])) (λt e b O p=>(p,[e,t],b)) (λO O O O p=>(p,[],[])) (λt b O p=>(p,[t],b)) (λt b o p=>(p,[t],b++o)) (λO O p=>(p,[],[])) (λO O p=>(p,[],[])) (λO O p=>(p,[],[])) (λO O p=>(p,[],[])) (λO O O O p=>(p,[],[])) (λO O O O p=>(p,[],[])) (λO O p=>(p,[],[])) (λO p=>(p,[],[])) (λO O O p=>(p,[],[])) (λO p=>(p,[],[])) (λO p=>(p,[],[])) (λe p=>(p,[e],[])) (λp=>(p,[],[])) (λp=>(p,[],[])) (λp=>(p,[],[]))
noncomputable def pS:Nat->Stmt->List Pos:=OF (λO=>[]) λO f s=>(sK s).1::((sK s).2.1.flatMap (pE 20)++(sK s).2.2.flatMap f)
noncomputable def pM (k i:Nat):Pos:=((sK (kW.main.body.getD k default)).2.2.flatMap (pS 9)).getD i default
noncomputable def cN:=pM 3
noncomputable def aH:=pM 6
noncomputable def br:=pM 7
noncomputable def a9:=pM 10
noncomputable def ap:=pM 14
noncomputable def o4:=pM 15
noncomputable def ag:=pM 18
noncomputable def aJ:=pM 19
noncomputable def bu:=pM 21
noncomputable def cc:=pM 22
noncomputable def aq:=pM 23
noncomputable def cj:=pM 24
noncomputable def fV:=pM 25
noncomputable def ao:=pM 26
noncomputable def aW:=pM 27
noncomputable def aY:=pM 28
noncomputable def bf:=pM 29
noncomputable def ba:=pM 30
noncomputable def aV:=pM 31
noncomputable def aF:=pM 32
noncomputable def qG:List Str:=["data","depth"]
noncomputable def lZ:MS:=.asg 0 (.oe (.KA ("_quoted":Str) (cN 3)) ("sub":Str) [(.cst (.bytes []) 0 (cN 4)),(.var 0 (cN 5))] (cN 2) (cN 1)) (cN 6) (cN 0)
noncomputable def lY:MS:=.ret (.bin .Sub (.bin .Add (.var 1 (cN 10)) (.oe (.var 0 (cN 13)) ("count":Str) [(.cst (.bytes [40]) 0 (cN 14))] (cN 12) (cN 11)) (cN 9)) (.oe (.var 0 (cN 17)) ("count":Str) [(.cst (.bytes [41]) 0 (cN 18))] (cN 16) (cN 15)) (cN 8)) (cN 7)
noncomputable def rH:List MS:=[lZ,lY]
noncomputable def rN:List Str:=["a","b","n","pad","half_n","mask","b1","b2","q1","r","q2"]
noncomputable def wu:MS:=.ret (.blt ("divmod":Str) [(.var 0 (aH 11)),(.var 1 (aH 12))] (aH 10) (aH 9)) (aH 8)
noncomputable def rz:MS:=.iff (.cmp .LtE (.bin .Sub (.oe (.var 0 (aH 5)) ("bit_length":Str) [] (aH 4) (aH 3)) (.var 2 (aH 6)) (aH 2)) (.KA ("_DIV_LIMIT":Str) (aH 7)) (aH 1)) [wu] [] (aH 0)
noncomputable def ry:MS:=.asg 3 (.bin .BitAnd (.var 2 (aH 15)) (.cst (.int (1)) 0 (aH 16)) (aH 14)) (aH 17) (aH 13)
noncomputable def wq:MS:=.aug 0 .LShift (.cst (.int (1)) 0 (aH 21)) (aH 22) (aH 20)
noncomputable def wo:MS:=.aug 1 .LShift (.cst (.int (1)) 0 (aH 24)) (aH 25) (aH 23)
noncomputable def wn:MS:=.aug 2 .Add (.cst (.int (1)) 0 (aH 27)) (aH 28) (aH 26)
noncomputable def rx:MS:=.iff (.val (.var 3 (aH 19))) [wq,wo,wn] [] (aH 18)
noncomputable def oC:MS:=.asg 4 (.bin .RShift (.var 2 (aH 31)) (.cst (.int (1)) 0 (aH 32)) (aH 30)) (aH 33) (aH 29)
noncomputable def oB:MS:=.asg 5 (.bin .Sub (.bin .LShift (.cst (.int (1)) 0 (aH 37)) (.var 4 (aH 38)) (aH 36)) (.cst (.int (1)) 0 (aH 39)) (aH 35)) (aH 40) (aH 34)
noncomputable def oA:MS:=.o7 [(6,(aH 50)),(7,(aH 51))] (.tup [(.bin .RShift (.var 1 (aH 44)) (.var 4 (aH 45)) (aH 43)),(.bin .BitAnd (.var 1 (aH 47)) (.var 5 (aH 48)) (aH 46))] 0 (aH 42)) 0 (aH 49) (aH 41)
noncomputable def mX:MS:=.o7 [(8,(aH 68)),(9,(aH 69))] (.call ("_div3n2n":Str) [(.bin .RShift (.var 0 (aH 56)) (.var 2 (aH 57)) (aH 55)),(.bin .BitAnd (.bin .RShift (.var 0 (aH 60)) (.var 4 (aH 61)) (aH 59)) (.var 5 (aH 62)) (aH 58)),(.var 1 (aH 63)),(.var 6 (aH 64)),(.var 7 (aH 65)),(.var 4 (aH 66))] (aH 54) (aH 53)) 0 (aH 67) (aH 52)
noncomputable def mW:MS:=.o7 [(10,(aH 82)),(9,(aH 83))] (.call ("_div3n2n":Str) [(.var 9 (aH 73)),(.bin .BitAnd (.var 0 (aH 75)) (.var 5 (aH 76)) (aH 74)),(.var 1 (aH 77)),(.var 6 (aH 78)),(.var 7 (aH 79)),(.var 4 (aH 80))] (aH 72) (aH 71)) 0 (aH 81) (aH 70)
noncomputable def uQ:MS:=.aug 9 .RShift (.cst (.int (1)) 0 (aH 87)) (aH 88) (aH 86)
noncomputable def mV:MS:=.iff (.val (.var 3 (aH 85))) [uQ] [] (aH 84)
noncomputable def mU:MS:=.ret (.tup [(.bin .BitOr (.bin .LShift (.var 8 (aH 93)) (.var 4 (aH 94)) (aH 92)) (.var 10 (aH 95)) (aH 91)),(.var 9 (aH 96))] 0 (aH 90)) (aH 89)
noncomputable def nP:List MS:=[rz,ry,rx,oC,oB,oA,mX,mW,mV,mU]
noncomputable def wC:List Str:=["a12","a3","b","b1","b2","n","q","r"]
noncomputable def wm:MS:=.o7 [(6,(br 21)),(7,(br 22))] (.tup [(.bin .Sub (.bin .LShift (.cst (.int (1)) 0 (br 10)) (.var 5 (br 11)) (br 9)) (.cst (.int (1)) 0 (br 12)) (br 8)),(.bin .Add (.bin .Sub (.var 0 (br 15)) (.bin .LShift (.var 3 (br 17)) (.var 5 (br 18)) (br 16)) (br 14)) (.var 3 (br 19)) (br 13))] 0 (br 7)) 0 (br 20) (br 6)
noncomputable def wl:MS:=.o7 [(6,(br 30)),(7,(br 31))] (.call ("_div2n1n":Str) [(.var 0 (br 26)),(.var 3 (br 27)),(.var 5 (br 28))] (br 25) (br 24)) 0 (br 29) (br 23)
noncomputable def ru:MS:=.iff (.cmp .Eq (.bin .RShift (.var 0 (br 3)) (.var 5 (br 4)) (br 2)) (.var 3 (br 5)) (br 1)) [wm] [wl] (br 0)
noncomputable def oz:MS:=.asg 7 (.bin .Sub (.bin .BitOr (.bin .LShift (.var 7 (br 36)) (.var 5 (br 37)) (br 35)) (.var 1 (br 38)) (br 34)) (.bin .Mult (.var 6 (br 40)) (.var 4 (br 41)) (br 39)) (br 33)) (br 42) (br 32)
noncomputable def wk:MS:=.aug 6 .Sub (.cst (.int (1)) 0 (br 48)) (br 49) (br 47)
noncomputable def wj:MS:=.aug 7 .Add (.var 2 (br 51)) (br 52) (br 50)
noncomputable def oy:MS:=.OM (.cmp .Lt (.var 7 (br 45)) (.cst (.int (0)) 0 (br 46)) (br 44)) [wk,wj] (br 43)
noncomputable def rt:MS:=.ret (.tup [(.var 6 (br 55)),(.var 7 (br 56))] 0 (br 54)) (br 53)
noncomputable def yu:List MS:=[ru,oz,oy,rt]
noncomputable def cX:List Str:=["x","L","R","mid","shift","upper","lower","a_digits","inner","n"]
noncomputable def mD:MS:=.zD (.var 7 ⟨40,12,40,20⟩) (.var 1 ⟨40,21,40,22⟩) (.var 0 ⟨40,26,40,27⟩) ⟨40,12,40,23⟩ ⟨40,12,40,27⟩
noncomputable def mC:MS:=.C2 ⟨41,12,41,18⟩
noncomputable def mE:MS:=.iff (.cmp .Eq (.bin .Add (.var 1 ⟨39,11,39,12⟩) (.cst (.int (1)) 0 ⟨39,15,39,16⟩) ⟨39,11,39,16⟩) (.var 2 ⟨39,20,39,21⟩) ⟨39,11,39,21⟩) [mD,mC] [] ⟨39,8,41,18⟩
noncomputable def mB:MS:=.asg 3 (.bin .RShift (.bin .Add (.var 1 ⟨42,14,42,15⟩) (.var 2 ⟨42,18,42,19⟩) ⟨42,14,42,19⟩) (.cst (.int (1)) 0 ⟨42,23,42,24⟩) ⟨42,14,42,24⟩) ⟨42,8,42,11⟩ ⟨42,8,42,24⟩
noncomputable def mA:MS:=.asg 4 (.bin .Mult (.bin .Sub (.var 3 ⟨43,17,43,20⟩) (.var 1 ⟨43,23,43,24⟩) ⟨43,17,43,24⟩) (.var 9 ⟨43,28,43,29⟩) ⟨43,16,43,29⟩) ⟨43,8,43,13⟩ ⟨43,8,43,29⟩
noncomputable def mz:MS:=.asg 5 (.bin .RShift (.var 0 ⟨44,16,44,17⟩) (.var 4 ⟨44,21,44,26⟩) ⟨44,16,44,26⟩) ⟨44,8,44,13⟩ ⟨44,8,44,26⟩
noncomputable def my:MS:=.asg 6 (.bin .BitXor (.var 0 ⟨45,16,45,17⟩) (.bin .LShift (.var 5 ⟨45,20,45,25⟩) (.var 4 ⟨45,29,45,34⟩) ⟨45,20,45,34⟩) ⟨45,16,45,34⟩) ⟨45,8,45,13⟩ ⟨45,8,45,34⟩
noncomputable def sG:MS:=.ex (.cv 8 [(.var 6 ⟨46,14,46,19⟩),(.var 1 ⟨46,21,46,22⟩),(.var 3 ⟨46,24,46,27⟩)] ⟨46,8,46,13⟩ ⟨46,8,46,28⟩) ⟨46,8,46,28⟩
noncomputable def sF:MS:=.ex (.cv 8 [(.var 5 ⟨47,14,47,19⟩),(.var 3 ⟨47,21,47,24⟩),(.var 2 ⟨47,26,47,27⟩)] ⟨47,8,47,13⟩ ⟨47,8,47,28⟩) ⟨47,8,47,28⟩
noncomputable def dZ:List MS:=[mE,mB,mA,mz,my,sG,sF]
noncomputable def cC:List Str:=["a","n","a_digits","inner"]
noncomputable def rq:MS:=.asg 2 (.rep true (.cst (.int (0)) 0 ⟨36,16,36,17⟩) (.bin .FloorDiv (.bin .Sub (.bin .Add (.oe (.var 0 ⟨36,23,36,24⟩) ("bit_length":Str) [] ⟨36,23,36,35⟩ ⟨36,23,36,37⟩) (.var 1 ⟨36,40,36,41⟩) ⟨36,23,36,41⟩) (.cst (.int (1)) 0 ⟨36,44,36,45⟩) ⟨36,23,36,45⟩) (.var 1 ⟨36,50,36,51⟩) ⟨36,22,36,51⟩) ⟨36,15,36,18⟩ ⟨36,15,36,52⟩) ⟨36,4,36,12⟩ ⟨36,4,36,52⟩
noncomputable def ya:MS:=.ex (.cv 3 [(.var 0 ⟨49,14,49,15⟩),(.cst (.int (0)) 0 ⟨49,17,49,18⟩),(.blt ("len":Str) [(.var 2 ⟨49,24,49,32⟩)] ⟨49,20,49,23⟩ ⟨49,20,49,33⟩)] ⟨49,8,49,13⟩ ⟨49,8,49,34⟩) ⟨49,8,49,34⟩
noncomputable def yb:MS:=.iff (.val (.var 0 ⟨48,7,48,8⟩)) [ya] [] ⟨48,4,49,34⟩
noncomputable def x9:MS:=.ret (.var 2 ⟨50,11,50,19⟩) ⟨50,4,50,19⟩
noncomputable def s9:List MS:=[rq,yb,x9]
noncomputable def fF:List Str:=["L","R","mid","shift","digits","inner","n"]
noncomputable def mI:MS:=.ret (.sub (.var 4 ⟨55,19,55,25⟩) (.var 0 ⟨55,26,55,27⟩) ⟨55,19,55,28⟩) ⟨55,12,55,28⟩
noncomputable def mJ:MS:=.iff (.cmp .Eq (.bin .Add (.var 0 ⟨54,11,54,12⟩) (.cst (.int (1)) 0 ⟨54,15,54,16⟩) ⟨54,11,54,16⟩) (.var 1 ⟨54,20,54,21⟩) ⟨54,11,54,21⟩) [mI] [] ⟨54,8,55,28⟩
noncomputable def mH:MS:=.asg 2 (.bin .RShift (.bin .Add (.var 0 ⟨56,14,56,15⟩) (.var 1 ⟨56,18,56,19⟩) ⟨56,14,56,19⟩) (.cst (.int (1)) 0 ⟨56,23,56,24⟩) ⟨56,14,56,24⟩) ⟨56,8,56,11⟩ ⟨56,8,56,24⟩
noncomputable def mG:MS:=.asg 3 (.bin .Mult (.bin .Sub (.var 2 ⟨57,17,57,20⟩) (.var 0 ⟨57,23,57,24⟩) ⟨57,17,57,24⟩) (.var 6 ⟨57,28,57,29⟩) ⟨57,16,57,29⟩) ⟨57,8,57,13⟩ ⟨57,8,57,29⟩
noncomputable def mF:MS:=.ret (.bin .Add (.bin .LShift (.cv 5 [(.var 2 ⟨58,22,58,25⟩),(.var 1 ⟨58,27,58,28⟩)] ⟨58,16,58,21⟩ ⟨58,16,58,29⟩) (.var 3 ⟨58,33,58,38⟩) ⟨58,16,58,38⟩) (.cv 5 [(.var 0 ⟨58,48,58,49⟩),(.var 2 ⟨58,51,58,54⟩)] ⟨58,42,58,47⟩ ⟨58,42,58,55⟩) ⟨58,15,58,55⟩) ⟨58,8,58,55⟩
noncomputable def eI:List MS:=[mJ,mH,mG,mF]
noncomputable def d0:List Str:=["digits","n","inner"]
noncomputable def yc:MS:=.ret (.FO (.val (.var 0 ⟨59,36,59,42⟩)) (.cv 2 [(.cst (.int (0)) 0 ⟨59,17,59,18⟩),(.blt ("len":Str) [(.var 0 ⟨59,24,59,30⟩)] ⟨59,20,59,23⟩ ⟨59,20,59,31⟩)] ⟨59,11,59,16⟩ ⟨59,11,59,32⟩) (.cst (.int (0)) 0 ⟨59,48,59,49⟩) ⟨59,11,59,49⟩) ⟨59,4,59,49⟩
noncomputable def Mb:List MS:=[yc]
noncomputable def rM:List Str:=["a","b","n","a_digits","r","q_digits","a_digit","q_digit","q"]
noncomputable def nM:MS:=.asg 2 (.oe (.var 1 (a9 3)) ("bit_length":Str) [] (a9 2) (a9 1)) (a9 4) (a9 0)
noncomputable def nL:MS:=.asg 3 (.call ("_int2digits":Str) [(.var 0 (a9 8)),(.var 2 (a9 9))] (a9 7) (a9 6)) (a9 10) (a9 5)
noncomputable def nK:MS:=.asg 4 (.cst (.int (0)) 0 (a9 12)) (a9 13) (a9 11)
noncomputable def nJ:MS:=.asg 5 (.lst true [] (a9 15)) (a9 16) (a9 14)
noncomputable def nH:MS:=.o7 [(7,(a9 33)),(4,(a9 34))] (.call ("_div2n1n":Str) [(.bin .Add (.bin .LShift (.var 4 (a9 27)) (.var 2 (a9 28)) (a9 26)) (.var 6 (a9 29)) (a9 25)),(.var 1 (a9 30)),(.var 2 (a9 31))] (a9 24) (a9 23)) 0 (a9 32) (a9 22)
noncomputable def nG:MS:=.ex (.oe (.var 5 (a9 38)) ("append":Str) [(.var 7 (a9 39))] (a9 37) (a9 35)) (a9 35)
noncomputable def nI:MS:=.mv [(6,(a9 21))] (a9 21) (.rev (.var 3 (a9 20)) (a9 19) (a9 18)) [nH,nG] (a9 17)
noncomputable def nF:MS:=.ex (.oe (.var 5 (a9 43)) ("reverse":Str) [] (a9 42) (a9 40)) (a9 40)
noncomputable def nE:MS:=.asg 8 (.call ("_digits2int":Str) [(.var 5 (a9 47)),(.var 2 (a9 48))] (a9 46) (a9 45)) (a9 49) (a9 44)
noncomputable def nD:MS:=.ret (.tup [(.var 8 (a9 52)),(.var 4 (a9 53))] 0 (a9 51)) (a9 50)
noncomputable def tc:List MS:=[nM,nL,nK,nJ,nI,nF,nE,nD]
noncomputable def th:List Str:=["r","g","b","maxc","minc","sumc","rangec","l","s","rc","gc","bc","h"]
noncomputable def jy:MS:=.asg 3 (.blt ("max":Str) [(.var 0 (ap 3)),(.var 1 (ap 4)),(.var 2 (ap 5))] (ap 2) (ap 1)) (ap 6) (ap 0)
noncomputable def jx:MS:=.asg 4 (.blt ("min":Str) [(.var 0 (ap 10)),(.var 1 (ap 11)),(.var 2 (ap 12))] (ap 9) (ap 8)) (ap 13) (ap 7)
noncomputable def jw:MS:=.asg 5 (.bin .Add (.var 3 (ap 16)) (.var 4 (ap 17)) (ap 15)) (ap 18) (ap 14)
noncomputable def jv:MS:=.asg 6 (.bin .Sub (.var 3 (ap 21)) (.var 4 (ap 22)) (ap 20)) (ap 23) (ap 19)
noncomputable def ju:MS:=.asg 7 (.bin .Div (.var 5 (ap 26)) (.cst (.float 4611686018427387904) 0 (ap 27)) (ap 25)) (ap 28) (ap 24)
noncomputable def nA:MS:=.ret (.tup [(.cst (.float 0) 0 (ap 35)),(.var 7 (ap 36)),(.cst (.float 0) 0 (ap 37))] 0 (ap 34)) (ap 33)
noncomputable def jt:MS:=.iff (.cmp .Eq (.var 4 (ap 31)) (.var 3 (ap 32)) (ap 30)) [nA] [] (ap 29)
noncomputable def rh:MS:=.asg 8 (.bin .Div (.var 6 (ap 44)) (.var 5 (ap 45)) (ap 43)) (ap 46) (ap 42)
noncomputable def rg:MS:=.asg 8 (.bin .Div (.var 6 (ap 49)) (.bin .Sub (.bin .Sub (.cst (.float 4611686018427387904) 0 (ap 52)) (.var 3 (ap 53)) (ap 51)) (.var 4 (ap 54)) (ap 50)) (ap 48)) (ap 55) (ap 47)
noncomputable def kH:MS:=.iff (.cmp .LtE (.var 7 (ap 40)) (.cst (.float 4602678819172646912) 0 (ap 41)) (ap 39)) [rh] [rg] (ap 38)
noncomputable def iT:MS:=.asg 9 (.bin .Div (.bin .Sub (.var 3 (ap 59)) (.var 0 (ap 60)) (ap 58)) (.var 6 (ap 61)) (ap 57)) (ap 62) (ap 56)
noncomputable def iS:MS:=.asg 10 (.bin .Div (.bin .Sub (.var 3 (ap 66)) (.var 1 (ap 67)) (ap 65)) (.var 6 (ap 68)) (ap 64)) (ap 69) (ap 63)
noncomputable def iR:MS:=.asg 11 (.bin .Div (.bin .Sub (.var 3 (ap 73)) (.var 2 (ap 74)) (ap 72)) (.var 6 (ap 75)) (ap 71)) (ap 76) (ap 70)
noncomputable def qv:MS:=.asg 12 (.bin .Sub (.var 11 (ap 83)) (.var 10 (ap 84)) (ap 82)) (ap 85) (ap 81)
noncomputable def qt:MS:=.asg 12 (.bin .Sub (.bin .Add (.cst (.float 4611686018427387904) 0 (ap 93)) (.var 9 (ap 94)) (ap 92)) (.var 11 (ap 95)) (ap 91)) (ap 96) (ap 90)
noncomputable def qr:MS:=.asg 12 (.bin .Sub (.bin .Add (.cst (.float 4616189618054758400) 0 (ap 100)) (.var 10 (ap 101)) (ap 99)) (.var 9 (ap 102)) (ap 98)) (ap 103) (ap 97)
noncomputable def qu:MS:=.iff (.cmp .Eq (.var 1 (ap 88)) (.var 3 (ap 89)) (ap 87)) [qt] [qr] (ap 86)
noncomputable def iQ:MS:=.iff (.cmp .Eq (.var 0 (ap 79)) (.var 3 (ap 80)) (ap 78)) [qv] [qu] (ap 77)
noncomputable def gX:MS:=.asg 12 (.bin .Mod (.bin .Div (.var 12 (ap 107)) (.cst (.float 4618441417868443648) 0 (ap 108)) (ap 106)) (.cst (.float 4607182418800017408) 0 (ap 109)) (ap 105)) (ap 110) (ap 104)
noncomputable def iP:MS:=.ret (.tup [(.var 12 (ap 113)),(.var 7 (ap 114)),(.var 8 (ap 115))] 0 (ap 112)) (ap 111)
noncomputable def uX:List MS:=[jy,jx,jw,jv,ju,jt,kH,iT,iS,iR,iQ,gX,iP]
noncomputable def Pg:List Str:=["m1","m2","hue"]
noncomputable def Jk:MS:=.asg 2 (.bin .Mod (.var 2 (o4 2)) (.cst (.float 4607182418800017408) 0 (o4 3)) (o4 1)) (o4 4) (o4 0)
noncomputable def OX:MS:=.ret (.bin .Add (.var 0 (o4 11)) (.bin .Mult (.bin .Mult (.bin .Sub (.var 1 (o4 15)) (.var 0 (o4 16)) (o4 14)) (.var 2 (o4 17)) (o4 13)) (.cst (.float 4618441417868443648) 0 (o4 18)) (o4 12)) (o4 10)) (o4 9)
noncomputable def Jj:MS:=.iff (.cmp .Lt (.var 2 (o4 7)) (.KA ("ONE_SIXTH":Str) (o4 8)) (o4 6)) [OX] [] (o4 5)
noncomputable def OW:MS:=.ret (.var 1 (o4 24)) (o4 23)
noncomputable def Ji:MS:=.iff (.cmp .Lt (.var 2 (o4 21)) (.cst (.float 4602678819172646912) 0 (o4 22)) (o4 20)) [OW] [] (o4 19)
noncomputable def OV:MS:=.ret (.bin .Add (.var 0 (o4 31)) (.bin .Mult (.bin .Mult (.bin .Sub (.var 1 (o4 35)) (.var 0 (o4 36)) (o4 34)) (.bin .Sub (.KA ("TWO_THIRD":Str) (o4 38)) (.var 2 (o4 39)) (o4 37)) (o4 33)) (.cst (.float 4618441417868443648) 0 (o4 40)) (o4 32)) (o4 30)) (o4 29)
noncomputable def Jh:MS:=.iff (.cmp .Lt (.var 2 (o4 27)) (.KA ("TWO_THIRD":Str) (o4 28)) (o4 26)) [OV] [] (o4 25)
noncomputable def OU:MS:=.ret (.var 0 (o4 42)) (o4 41)
noncomputable def Uh:List MS:=[Jk,Jj,Ji,Jh,OU]
noncomputable def BH:List Str:=["addr","pos","escape","ch"]
noncomputable def jC:List Str:=["addr","start","open_pos","result","pos","ch"]
noncomputable def js:MS:=.ret (.var 0 (ag 5)) (ag 4)
noncomputable def gC:MS:=.iff (.cmp .NotIn (.cst (.str ("\"":Str)) 0 (ag 2)) (.var 0 (ag 3)) (ag 1)) [js] [] (ag 0)
noncomputable def gB:MS:=.asg 1 (.cst (.int (0)) 0 (ag 7)) (ag 8) (ag 6)
noncomputable def gz:MS:=.asg 2 (.cst .none 0 (ag 10)) (ag 11) (ag 9)
noncomputable def gy:MS:=.asg 3 (.lst true [] (ag 13)) (ag 14) (ag 12)
noncomputable def jq:MS:=.asg 2 (.var 4 (ag 31)) (ag 32) (ag 30)
noncomputable def ja:MS:=.ex (.oe (.var 3 (ag 40)) ("append":Str) [(.Bg (.var 0 (ag 42)) (.var 1 (ag 44)) (some (.var 2 (ag 45))) none (ag 43) (ag 41))] (ag 39) (ag 37)) (ag 37)
noncomputable def jp:MS:=.iff (.cmp .NotEq (.var 1 (ag 35)) (.var 2 (ag 36)) (ag 34)) [ja] [] (ag 33)
noncomputable def gh:MS:=.asg 1 (.bin .Add (.var 4 (ag 48)) (.cst (.int (1)) 0 (ag 49)) (ag 47)) (ag 50) (ag 46)
noncomputable def gf:MS:=.asg 2 (.cst .none 0 (ag 52)) (ag 53) (ag 51)
noncomputable def jr:MS:=.iff (.cmp .Is (.var 2 (ag 28)) (.cst .none 0 (ag 29)) (ag 27)) [jq] [jp,gh,gf] (ag 26)
noncomputable def fw:MS:=.iff (.cmp .Eq (.var 5 (ag 24)) (.cst (.str ("\"":Str)) 0 (ag 25)) (ag 23)) [jr] [] (ag 22)
noncomputable def gx:MS:=.mv [(4,(ag 20)),(5,(ag 21))] (ag 19) (.gen ("_iter_escaped_chars":Str) [(.var 0 (ag 18))] (ag 17) (ag 16)) [fw] (ag 15)
noncomputable def i9:MS:=.ex (.oe (.var 3 (ag 63)) ("append":Str) [(.Bg (.var 0 (ag 65)) (.var 1 (ag 67)) none none (ag 66) (ag 64))] (ag 62) (ag 60)) (ag 60)
noncomputable def gc:MS:=.iff (.cmp .Lt (.var 1 (ag 56)) (.blt ("len":Str) [(.var 0 (ag 59))] (ag 58) (ag 57)) (ag 55)) [i9] [] (ag 54)
noncomputable def eR:MS:=.ret (.oe (.cst (.str ("":Str)) 0 (ag 71)) ("join":Str) [(.var 3 (ag 72))] (ag 70) (ag 69)) (ag 68)
noncomputable def jQ:List MS:=[gC,gB,gz,gy,gx,gc,eR]
noncomputable def k9:List Str:=["addr","opens","pos","ch"]
noncomputable def i3:MS:=.asg 0 (.call ("_strip_quoted_realnames":Str) [(.var 0 (aJ 3))] (aJ 2) (aJ 1)) (aJ 4) (aJ 0)
noncomputable def i2:MS:=.asg 1 (.cst (.int (0)) 0 (aJ 6)) (aJ 7) (aJ 5)
noncomputable def k7:MS:=.aug 1 .Add (.cst (.int (1)) 0 (aJ 20)) (aJ 21) (aJ 19)
noncomputable def k5:MS:=.aug 1 .Sub (.cst (.int (1)) 0 (aJ 27)) (aJ 28) (aJ 26)
noncomputable def kY:MS:=.ret (.cst (.bool false) 0 (aJ 34)) (aJ 33)
noncomputable def kZ:MS:=.iff (.cmp .Lt (.var 1 (aJ 31)) (.cst (.int (0)) 0 (aJ 32)) (aJ 30)) [kY] [] (aJ 29)
noncomputable def k6:MS:=.iff (.cmp .Eq (.var 3 (aJ 24)) (.cst (.str (")":Str)) 0 (aJ 25)) (aJ 23)) [k5,kZ] [] (aJ 22)
noncomputable def gK:MS:=.iff (.cmp .Eq (.var 3 (aJ 17)) (.cst (.str ("(":Str)) 0 (aJ 18)) (aJ 16)) [k7] [k6] (aJ 15)
noncomputable def i1:MS:=.mv [(2,(aJ 13)),(3,(aJ 14))] (aJ 12) (.gen ("_iter_escaped_chars":Str) [(.var 0 (aJ 11))] (aJ 10) (aJ 9)) [gK] (aJ 8)
noncomputable def i0:MS:=.ret (.cmp .Eq (.var 1 (aJ 37)) (.cst (.int (0)) 0 (aJ 38)) (aJ 36)) (aJ 35)
noncomputable def lP:List MS:=[i3,i2,i1,i0]
noncomputable def wB:List Str:=["code","size","mates","sides","waiting","place","deeds","deed"]
noncomputable def ro:MS:=.asg 1 (.bin .Add (.cst (.int (4)) 0 (bu 2)) (.bin .Mult (.cst (.int (2)) 0 (bu 4)) (.bin .Mod (.var 0 (bu 6)) (.cst (.int (2)) 0 (bu 7)) (bu 5)) (bu 3)) (bu 1)) (bu 8) (bu 0)
noncomputable def rn:MS:=.asg 0 (.bin .FloorDiv (.var 0 (bu 11)) (.cst (.int (2)) 0 (bu 12)) (bu 10)) (bu 13) (bu 9)
noncomputable def rj:MS:=.o7 [(2,(bu 25)),(3,(bu 26)),(4,(bu 27))] (.tup [(.rep true (.cst (.int (0)) 0 (bu 18)) (.var 1 (bu 19)) (bu 17) (bu 16)),(.lst true [] (bu 20)),(.lst false [(.lst true [] (bu 22)),(.lst true [] (bu 23))] (bu 21))] 0 (bu 15)) 0 (bu 24) (bu 14)
noncomputable def ow:MS:=.asg 6 (.comp true (.bin .Add (.var 8 (bu 36)) (.cst (.int (2)) 0 (bu 37)) (bu 35)) (.of (.tup [(.cst (.int (0)) 0 (bu 40)),(.cst (.int (1)) 0 (bu 41))] 0 (bu 39))) [(("side":Str),(bu 38))] (bu 38) [(.cmp .NotEq (.sub (.var 4 (bu 44)) (.var 8 (bu 45)) (bu 43)) (.lst false [] (bu 46)) (bu 42))] {kind:=.function,names:=[((".0":Str),.local),(("side":Str),.local),(("waiting":Str),.free)],isGenerator:=false,isCoroutine:=false} (bu 34)) (bu 47) (bu 33)
noncomputable def wi:MS:=.ex (.oe (.var 6 (bu 67)) ("extend":Str) [(.lst false [(.cst (.int (0)) 0 (bu 69)),(.cst (.int (1)) 0 (bu 70))] (bu 68))] (bu 66) (bu 64)) (bu 64)
noncomputable def ou:MS:=.iff (.cmp .Lt (.bin .Add (.blt ("len":Str) [(.sub (.var 4 (bu 54)) (.cst (.int (0)) 0 (bu 55)) (bu 53))] (bu 52) (bu 51)) (.blt ("len":Str) [(.sub (.var 4 (bu 59)) (.cst (.int (1)) 0 (bu 60)) (bu 58))] (bu 57) (bu 56)) (bu 50)) (.bin .Sub (.var 1 (bu 62)) (.var 5 (bu 63)) (bu 61)) (bu 49)) [wi] [] (bu 48)
noncomputable def ot:MS:=.asg 7 (.sub (.var 6 (bu 73)) (.bin .Mod (.var 0 (bu 75)) (.blt ("len":Str) [(.var 6 (bu 78))] (bu 77) (bu 76)) (bu 74)) (bu 72)) (bu 79) (bu 71)
noncomputable def oq:MS:=.asg 0 (.bin .FloorDiv (.var 0 (bu 82)) (.blt ("len":Str) [(.var 6 (bu 85))] (bu 84) (bu 83)) (bu 81)) (bu 86) (bu 80)
noncomputable def uJ:MS:=.ex (.oe (.sub (.var 4 (bu 95)) (.var 7 (bu 96)) (bu 94)) ("append":Str) [(.var 5 (bu 97))] (bu 93) (bu 91)) (bu 91)
noncomputable def uI:MS:=.zD (.var 2 (bu 107)) (.var 5 (bu 108)) (.oe (.sub (.var 4 (bu 102)) (.bin .Sub (.var 7 (bu 104)) (.cst (.int (2)) 0 (bu 105)) (bu 103)) (bu 101)) ("pop":Str) [] (bu 100) (bu 99)) (bu 106) (bu 98)
noncomputable def uH:MS:=.zD (.var 2 (bu 112)) (.sub (.var 2 (bu 114)) (.var 5 (bu 115)) (bu 113)) (.var 5 (bu 110)) (bu 111) (bu 109)
noncomputable def oo:MS:=.iff (.cmp .Lt (.var 7 (bu 89)) (.cst (.int (2)) 0 (bu 90)) (bu 88)) [uJ] [uI,uH] (bu 87)
noncomputable def kL:MS:=.ex (.oe (.var 3 (bu 119)) ("append":Str) [(.bin .Mod (.var 7 (bu 121)) (.cst (.int (2)) 0 (bu 122)) (bu 120))] (bu 118) (bu 116)) (bu 116)
noncomputable def ox:MS:=.mv [(5,(bu 32))] (bu 32) (.zE (.var 1 (bu 31)) (bu 30) (bu 29)) [ow,ou,ot,oq,oo,kL] (bu 28)
noncomputable def mT:MS:=.ret (.tup [(.var 2 (bu 125)),(.var 3 (bu 126))] 0 (bu 124)) (bu 123)
noncomputable def yt:List MS:=[ro,rn,rj,ox,mT]
noncomputable def tj:List Str:=["sign","side","code","dress"]
noncomputable def sZ:MS:=.asg 3 (.sub (.lst false [(.cst (.str ("":Str)) 0 (cc 3)),(.cst (.str ("\"\\\"\\))\"":Str)) 0 (cc 4))] (cc 2)) (.bin .Mod (.bin .FloorDiv (.var 2 (cc 7)) (.cst (.int (2)) 0 (cc 8)) (cc 6)) (.cst (.int (2)) 0 (cc 9)) (cc 5)) (cc 1)) (cc 10) (cc 0)
noncomputable def sX:MS:=.ret (.bin .Add (.var 3 (cc 17)) (.sub (.lst false [(.bin .Add (.bin .Add (.cst (.str ("\\\"":Str)) 0 (cc 22)) (.var 0 (cc 23)) (cc 21)) (.cst (.str ("\"\\\"\"":Str)) 0 (cc 24)) (cc 20)),(.bin .Add (.bin .Add (.cst (.str ("\\\"":Str)) 0 (cc 27)) (.var 0 (cc 28)) (cc 26)) (.cst (.str ("\\\\\"\\\"\"":Str)) 0 (cc 29)) (cc 25))] (cc 19)) (.bin .Mod (.var 2 (cc 31)) (.cst (.int (2)) 0 (cc 32)) (cc 30)) (cc 18)) (cc 16)) (cc 15)
noncomputable def sY:MS:=.iff (.cmp .Eq (.var 1 (cc 13)) (.cst (.int (0)) 0 (cc 14)) (cc 12)) [sX] [] (cc 11)
noncomputable def sW:MS:=.ret (.bin .Add (.var 3 (cc 35)) (.sub (.lst false [(.bin .Add (.cst (.str ("\\":Str)) 0 (cc 39)) (.var 0 (cc 40)) (cc 38)),(.bin .Add (.bin .Add (.cst (.str ("\\\"\"":Str)) 0 (cc 43)) (.var 0 (cc 44)) (cc 42)) (.cst (.str ("\"\"\\\"\"":Str)) 0 (cc 45)) (cc 41))] (cc 37)) (.bin .Mod (.var 2 (cc 47)) (.cst (.int (2)) 0 (cc 48)) (cc 46)) (cc 36)) (cc 34)) (cc 33)
noncomputable def m4:List MS:=[sZ,sY,sW]
noncomputable def qJ:List Str:=["pieces","mates","sides","depth","text","place","sign","shown","before"]
noncomputable def mt:MS:=.asg 4 (.oe (.cst (.str ("":Str)) 0 (aq 3)) ("join":Str) [(.var 0 (aq 4))] (aq 2) (aq 1)) (aq 5) (aq 0)
noncomputable def qE:MS:=.ret (.cst (.bool false) 0 (aq 22)) (aq 21)
noncomputable def mr:MS:=.iff (.Gk .Or [(.cmp .IsNot (.call ("_check_parenthesis":Str) [(.var 4 (aq 11))] (aq 10) (aq 9)) (.cst (.bool true) 0 (aq 12)) (aq 8)),(.cmp .NotEq (.call ("_paren_depth":Str) [(.oe (.var 4 (aq 18)) ("encode":Str) [] (aq 17) (aq 16)),(.var 3 (aq 19))] (aq 15) (aq 14)) (.var 3 (aq 20)) (aq 13))] (aq 7)) [qE] [] (aq 6)
noncomputable def mo:MS:=.asg 6 (.FO (.cmp .Gt (.sub (.var 1 (aq 34)) (.var 5 (aq 35)) (aq 33)) (.var 5 (aq 36)) (aq 32)) (.cst (.int (1)) 0 (aq 37)) (.wZ .USub (.cst (.int (1)) 0 (aq 39)) (aq 38)) (aq 31)) (aq 40) (aq 30)
noncomputable def mm:MS:=.asg 7 (.sub (.var 0 (aq 43)) (.var 5 (aq 44)) (aq 42)) (aq 45) (aq 41)
noncomputable def qD:MS:=.asg 7 (.bin .Add (.var 7 (aq 58)) (.cst (.str (")":Str)) 0 (aq 59)) (aq 57)) (aq 60) (aq 56)
noncomputable def qz:MS:=.ret (.cst (.bool false) 0 (aq 76)) (aq 75)
noncomputable def qC:MS:=.iff (.cmp .IsNot (.call ("_check_parenthesis":Str) [(.bin .Add (.sub (.var 0 (aq 67)) (.sub (.var 1 (aq 69)) (.var 5 (aq 70)) (aq 68)) (aq 66)) (.sub (.var 0 (aq 72)) (.var 5 (aq 73)) (aq 71)) (aq 65))] (aq 64) (aq 63)) (.cst (.bool false) 0 (aq 74)) (aq 62)) [qz] [] (aq 61)
noncomputable def pu:MS:=.asg 7 (.bin .Add (.cst (.str ("(":Str)) 0 (aq 85)) (.var 7 (aq 86)) (aq 84)) (aq 87) (aq 83)
noncomputable def pw:MS:=.iff (.cmp .Eq (.sub (.var 2 (aq 80)) (.var 5 (aq 81)) (aq 79)) (.cst (.int (0)) 0 (aq 82)) (aq 78)) [pu] [] (aq 77)
noncomputable def kb:MS:=.iff (.Gk .And [(.cmp .Eq (.sub (.var 2 (aq 50)) (.var 5 (aq 51)) (aq 49)) (.cst (.int (0)) 0 (aq 52)) (aq 48)),(.cmp .Eq (.var 6 (aq 54)) (.cst (.int (1)) 0 (aq 55)) (aq 53))] (aq 47)) [qD,qC] [pw] (aq 46)
noncomputable def lp:MS:=.asg 8 (.var 3 (aq 89)) (aq 90) (aq 88)
noncomputable def lm:MS:=.asg 3 (.bin .Add (.var 3 (aq 93)) (.bin .Mult (.sub (.var 2 (aq 96)) (.var 5 (aq 97)) (aq 95)) (.var 6 (aq 98)) (aq 94)) (aq 92)) (aq 99) (aq 91)
noncomputable def pt:MS:=.ret (.cst (.bool false) 0 (aq 118)) (aq 117)
noncomputable def lk:MS:=.iff (.Gk .Or [(.cmp .IsNot (.call ("_check_parenthesis":Str) [(.var 7 (aq 105))] (aq 104) (aq 103)) (.cst (.bool true) 0 (aq 106)) (aq 102)),(.cmp .NotEq (.call ("_paren_depth":Str) [(.oe (.sub (.var 0 (aq 113)) (.var 5 (aq 114)) (aq 112)) ("encode":Str) [] (aq 111) (aq 110)),(.var 8 (aq 115))] (aq 109) (aq 108)) (.var 3 (aq 116)) (aq 107))] (aq 101)) [pt] [] (aq 100)
noncomputable def mq:MS:=.mv [(5,(aq 29))] (aq 29) (.zE (.blt ("len":Str) [(.var 0 (aq 28))] (aq 27) (aq 26)) (aq 25) (aq 24)) [mo,mm,kb,lp,lm,lk] (aq 23)
noncomputable def pr:MS:=.ret (.cst (.bool false) 0 (aq 136)) (aq 135)
noncomputable def lj:MS:=.iff (.Gk .Or [(.cmp .IsNot (.call ("_check_parenthesis":Str) [(.bin .Add (.var 7 (aq 125)) (.cst (.str ("\"(":Str)) 0 (aq 126)) (aq 124))] (aq 123) (aq 122)) (.cst (.bool false) 0 (aq 127)) (aq 121)),(.cmp .IsNot (.call ("_check_parenthesis":Str) [(.bin .Add (.var 7 (aq 132)) (.cst (.str ("\"()":Str)) 0 (aq 133)) (aq 131))] (aq 130) (aq 129)) (.cst (.bool true) 0 (aq 134)) (aq 128))] (aq 120)) [pr] [] (aq 119)
noncomputable def lh:MS:=.ret (.cmp .Eq (.call ("_paren_depth":Str) [(.oe (.bin .Add (.sub (.var 0 (aq 145)) (.wZ .USub (.cst (.int (1)) 0 (aq 147)) (aq 146)) (aq 144)) (.cst (.str ("\"(":Str)) 0 (aq 148)) (aq 143)) ("encode":Str) [] (aq 142) (aq 141)),(.var 8 (aq 149))] (aq 140) (aq 139)) (.bin .Add (.var 3 (aq 151)) (.cst (.int (1)) 0 (aq 152)) (aq 150)) (aq 138)) (aq 137)
noncomputable def rK:List MS:=[mt,mr,mq,lj,lh]
noncomputable def tl:List Str:=["spot","low","high","paint","corner","gap","far"]
noncomputable def oY:MS:=.asg 3 (.lst true [] (cj 1)) (cj 2) (cj 0)
noncomputable def oW:MS:=.asg 5 (.bin .Mod (.bin .Sub (.var 0 (cj 12)) (.var 4 (cj 13)) (cj 11)) (.cst (.int (384)) 0 (cj 14)) (cj 10)) (cj 15) (cj 9)
noncomputable def oV:MS:=.asg 6 (.blt ("min":Str) [(.blt ("max":Str) [(.bin .Sub (.blt ("min":Str) [(.var 5 (cj 24)),(.bin .Sub (.cst (.int (384)) 0 (cj 26)) (.var 5 (cj 27)) (cj 25))] (cj 23) (cj 22)) (.cst (.int (64)) 0 (cj 28)) (cj 21)),(.cst (.int (0)) 0 (cj 29))] (cj 20) (cj 19)),(.cst (.int (64)) 0 (cj 30))] (cj 18) (cj 17)) (cj 31) (cj 16)
noncomputable def oU:MS:=.ex (.oe (.var 3 (cj 35)) ("append":Str) [(.bin .Sub (.bin .Mult (.cst (.int (64)) 0 (cj 38)) (.var 2 (cj 39)) (cj 37)) (.bin .Mult (.bin .Sub (.var 2 (cj 42)) (.var 1 (cj 43)) (cj 41)) (.var 6 (cj 44)) (cj 40)) (cj 36))] (cj 34) (cj 32)) (cj 32)
noncomputable def oX:MS:=.mv [(4,(cj 8))] (cj 8) (.of (.tup [(.cst (.int (0)) 0 (cj 5)),(.cst (.int (128)) 0 (cj 6)),(.cst (.int (256)) 0 (cj 7))] 0 (cj 4))) [oW,oV,oU] (cj 3)
noncomputable def s0:MS:=.ret (.var 3 (cj 46)) (cj 45)
noncomputable def uZ:List MS:=[oY,oX,s0]
noncomputable def ve:List Str:=["hue","low","high"]
noncomputable def p3:MS:=.ret (.comp false (.blt ("round":Str) [(.bin .Mult (.call ("_v":Str) [(.bin .Div (.var 1 (fV 8)) (.cst (.int (64)) 0 (fV 9)) (fV 7)),(.bin .Div (.var 2 (fV 11)) (.cst (.int (64)) 0 (fV 12)) (fV 10)),(.bin .Add (.var 0 (fV 14)) (.bin .Div (.var 3 (fV 16)) (.cst (.int (3)) 0 (fV 17)) (fV 15)) (fV 13))] (fV 6) (fV 5)) (.cst (.int (4096)) 0 (fV 18)) (fV 4))] (fV 3) (fV 2)) (.of (.tup [(.cst (.int (1)) 0 (fV 21)),(.cst (.int (0)) 0 (fV 22)),(.wZ .USub (.cst (.int (1)) 0 (fV 24)) (fV 23))] 0 (fV 20))) [(("step":Str),(fV 19))] (fV 19) [] {kind:=.function,names:=[((".0":Str),.local),(("step":Str),.local),(("round":Str),.globalImplicit),(("_v":Str),.globalImplicit),(("high":Str),.free),(("hue":Str),.free),(("low":Str),.free)],isGenerator:=false,isCoroutine:=false} (fV 1)) (fV 0)
noncomputable def wy:List MS:=[p3]
noncomputable def ti:List Str:=["spot","low","high","k","paints","turns","red","green","blue","hue","light","share","told","turned"]
noncomputable def lB:MS:=.asg 4 (.comp false (.call ("_law_paint":Str) [(.bin .Add (.var 0 (ao 5)) (.bin .Mult (.cst (.int (128)) 0 (ao 7)) (.var 14 (ao 8)) (ao 6)) (ao 4)),(.var 1 (ao 9)),(.var 2 (ao 10))] (ao 3) (ao 2)) (.zE (.cst (.int (3)) 0 (ao 14)) (ao 13) (ao 12)) [(("k":Str),(ao 11))] (ao 11) [] {kind:=.function,names:=[((".0":Str),.local),(("k":Str),.local),(("_law_paint":Str),.globalImplicit),(("high":Str),.free),(("low":Str),.free),(("spot":Str),.free)],isGenerator:=false,isCoroutine:=false} (ao 1)) (ao 15) (ao 0)
noncomputable def oT:MS:=.asg 5 (.lst true [] (ao 17)) (ao 18) (ao 16)
noncomputable def sV:MS:=.ret (.lst false [] (ao 39)) (ao 38)
noncomputable def oS:MS:=.iff (.cmp .NotEq (.call ("rgb_to_hls":Str) [(.bin .Div (.var 1 (ao 24)) (.cst (.int (64)) 0 (ao 25)) (ao 23)),(.bin .Div (.var 1 (ao 27)) (.cst (.int (64)) 0 (ao 28)) (ao 26)),(.bin .Div (.var 1 (ao 30)) (.cst (.int (64)) 0 (ao 31)) (ao 29))] (ao 22) (ao 21)) (.tup [(.cst (.int (0)) 0 (ao 33)),(.bin .Div (.var 1 (ao 35)) (.cst (.int (64)) 0 (ao 36)) (ao 34)),(.cst (.int (0)) 0 (ao 37))] 0 (ao 32)) (ao 20)) [sV] [] (ao 19)
noncomputable def lA:MS:=.o7 [(6,(ao 55)),(7,(ao 56)),(8,(ao 57))] (.comp false (.bin .Div (.var 14 (ao 48)) (.cst (.int (4096)) 0 (ao 49)) (ao 47)) (.of (.sub (.var 4 (ao 52)) (.var 3 (ao 53)) (ao 51))) [(("part":Str),(ao 50))] (ao 50) [] {kind:=.function,names:=[((".0":Str),.local),(("part":Str),.local)],isGenerator:=false,isCoroutine:=false} (ao 46)) 0 (ao 54) (ao 45)
noncomputable def oQ:MS:=.o7 [(9,(ao 65)),(10,(ao 66)),(11,(ao 67))] (.call ("rgb_to_hls":Str) [(.var 6 (ao 61)),(.var 7 (ao 62)),(.var 8 (ao 63))] (ao 60) (ao 59)) 0 (ao 64) (ao 58)
noncomputable def lz:MS:=.asg 12 (.lst false [(.blt ("round":Str) [(.bin .Mult (.var 9 (ao 73)) (.cst (.int (393216)) 0 (ao 74)) (ao 72))] (ao 71) (ao 70)),(.blt ("round":Str) [(.bin .Mult (.var 10 (ao 78)) (.cst (.int (131072)) 0 (ao 79)) (ao 77))] (ao 76) (ao 75)),(.blt ("round":Str) [(.bin .Mult (.bin .Mult (.var 11 (ao 84)) (.blt ("min":Str) [(.bin .Add (.var 1 (ao 88)) (.var 2 (ao 89)) (ao 87)),(.bin .Sub (.bin .Sub (.cst (.int (128)) 0 (ao 92)) (.var 1 (ao 93)) (ao 91)) (.var 2 (ao 94)) (ao 90))] (ao 86) (ao 85)) (ao 83)) (.cst (.int (1024)) 0 (ao 95)) (ao 82))] (ao 81) (ao 80))] (ao 69)) (ao 96) (ao 68)
noncomputable def sU:MS:=.ret (.lst false [] (ao 121)) (ao 120)
noncomputable def ly:MS:=.iff (.cmp .NotEq (.var 12 (ao 99)) (.lst false [(.bin .Mult (.bin .Mod (.bin .Add (.var 0 (ao 104)) (.bin .Mult (.cst (.int (128)) 0 (ao 106)) (.var 3 (ao 107)) (ao 105)) (ao 103)) (.cst (.int (384)) 0 (ao 108)) (ao 102)) (.cst (.int (1024)) 0 (ao 109)) (ao 101)),(.bin .Mult (.bin .Add (.var 1 (ao 112)) (.var 2 (ao 113)) (ao 111)) (.cst (.int (1024)) 0 (ao 114)) (ao 110)),(.bin .Mult (.bin .Sub (.var 2 (ao 117)) (.var 1 (ao 118)) (ao 116)) (.cst (.int (1024)) 0 (ao 119)) (ao 115))] (ao 100)) (ao 98)) [sU] [] (ao 97)
noncomputable def kK:MS:=.asg 13 (.comp false (.call ("_law_told":Str) [(.bin .Add (.var 9 (ao 127)) (.bin .Div (.bin .Mult (.cst (.int (7)) 0 (ao 130)) (.var 14 (ao 131)) (ao 129)) (.cst (.int (3)) 0 (ao 132)) (ao 128)) (ao 126)),(.var 1 (ao 133)),(.var 2 (ao 134))] (ao 125) (ao 124)) (.of (.tup [(.cst (.int (0)) 0 (ao 137)),(.cst (.int (1)) 0 (ao 138)),(.wZ .USub (.cst (.int (1)) 0 (ao 140)) (ao 139))] 0 (ao 136))) [(("sign":Str),(ao 135))] (ao 135) [] {kind:=.function,names:=[((".0":Str),.local),(("sign":Str),.local),(("_law_told":Str),.globalImplicit),(("high":Str),.free),(("hue":Str),.free),(("low":Str),.free)],isGenerator:=false,isCoroutine:=false} (ao 123)) (ao 141) (ao 122)
noncomputable def ri:MS:=.ret (.lst false [] (ao 162)) (ao 161)
noncomputable def kJ:MS:=.iff (.Gk .Or [(.cmp .NotEq (.sub (.var 13 (ao 146)) (.cst (.int (0)) 0 (ao 147)) (ao 145)) (.sub (.var 4 (ao 149)) (.var 3 (ao 150)) (ao 148)) (ao 144)),(.cmp .NotIn (.sub (.var 13 (ao 153)) (.cst (.int (1)) 0 (ao 154)) (ao 152)) (.var 4 (ao 155)) (ao 151)),(.cmp .NotIn (.sub (.var 13 (ao 158)) (.cst (.int (2)) 0 (ao 159)) (ao 157)) (.var 4 (ao 160)) (ao 156))] (ao 143)) [ri] [] (ao 142)
noncomputable def kI:MS:=.ex (.oe (.var 5 (ao 166)) ("append":Str) [(.comp false (.oe (.var 4 (ao 170)) ("index":Str) [(.var 14 (ao 171))] (ao 169) (ao 168)) (.of (.var 13 (ao 173))) [(("paint":Str),(ao 172))] (ao 172) [] {kind:=.function,names:=[((".0":Str),.local),(("paint":Str),.local),(("paints":Str),.free)],isGenerator:=false,isCoroutine:=false} (ao 167))] (ao 165) (ao 163)) (ao 163)
noncomputable def oR:MS:=.mv [(3,(ao 44))] (ao 44) (.zE (.cst (.int (3)) 0 (ao 43)) (ao 42) (ao 41)) [lA,oQ,lz,ly,kK,kJ,kI] (ao 40)
noncomputable def nB:MS:=.ret (.FO (.cmp .Eq (.sub (.sub (.var 5 (ao 179)) (.cst (.int (0)) 0 (ao 180)) (ao 178)) (.cst (.int (1)) 0 (ao 181)) (ao 177)) (.cst (.int (1)) 0 (ao 182)) (ao 176)) (.var 5 (ao 183)) (.lst false [] (ao 184)) (ao 175)) (ao 174)
noncomputable def uY:List MS:=[lB,oT,oS,oR,nB]
noncomputable def qI:List Str:=["mates","sides","regions","side","pile","place"]
noncomputable def mi:MS:=.asg 2 (.lst true [] (aW 1)) (aW 2) (aW 0)
noncomputable def mf:MS:=.asg 4 (.lst true [(.lst true [] (aW 10))] (aW 9)) (aW 11) (aW 8)
noncomputable def me:MS:=.ex (.oe (.var 2 (aW 15)) ("append":Str) [(.sub (.var 4 (aW 17)) (.cst (.int (0)) 0 (aW 18)) (aW 16))] (aW 14) (aW 12)) (aW 12)
noncomputable def ma:MS:=.ex (.oe (.sub (.var 4 (aW 30)) (.wZ .USub (.cst (.int (1)) 0 (aW 32)) (aW 31)) (aW 29)) ("append":Str) [(.var 5 (aW 33))] (aW 28) (aW 26)) (aW 26)
noncomputable def qx:MS:=.ex (.oe (.var 4 (aW 49)) ("append":Str) [(.lst true [] (aW 50))] (aW 48) (aW 46)) (aW 46)
noncomputable def qw:MS:=.ex (.oe (.var 2 (aW 54)) ("append":Str) [(.sub (.var 4 (aW 56)) (.wZ .USub (.cst (.int (1)) 0 (aW 58)) (aW 57)) (aW 55))] (aW 53) (aW 51)) (aW 51)
noncomputable def pq:MS:=.ex (.oe (.var 4 (aW 62)) ("pop":Str) [] (aW 61) (aW 59)) (aW 59)
noncomputable def qy:MS:=.iff (.cmp .Gt (.sub (.var 0 (aW 43)) (.var 5 (aW 44)) (aW 42)) (.var 5 (aW 45)) (aW 41)) [qx,qw] [pq] (aW 40)
noncomputable def lg:MS:=.ex (.oe (.sub (.var 4 (aW 67)) (.wZ .USub (.cst (.int (1)) 0 (aW 69)) (aW 68)) (aW 66)) ("append":Str) [(.var 5 (aW 70))] (aW 65) (aW 63)) (aW 63)
noncomputable def l9:MS:=.iff (.cmp .Eq (.sub (.var 1 (aW 37)) (.var 5 (aW 38)) (aW 36)) (.var 3 (aW 39)) (aW 35)) [qy,lg] [] (aW 34)
noncomputable def mc:MS:=.mv [(5,(aW 25))] (aW 25) (.zE (.blt ("len":Str) [(.var 0 (aW 24))] (aW 23) (aW 22)) (aW 21) (aW 20)) [ma,l9] (aW 19)
noncomputable def mh:MS:=.mv [(3,(aW 7))] (aW 7) (.of (.tup [(.cst (.int (0)) 0 (aW 5)),(.cst (.int (1)) 0 (aW 6))] 0 (aW 4))) [mf,me,mc] (aW 3)
noncomputable def pp:MS:=.ret (.var 2 (aW 72)) (aW 71)
noncomputable def rJ:List MS:=[mi,mh,pp]
noncomputable def nQ:List Str:=["signs","mates","turns","paint","chords","place"]
noncomputable def ko:MS:=.o7 [(3,(aY 5)),(4,(aY 6))] (.tup [(.cst (.int (0)) 0 (aY 2)),(.lst true [] (aY 3))] 0 (aY 1)) 0 (aY 4) (aY 0)
noncomputable def iH:MS:=.asg 3 (.sub (.sub (.var 2 (aY 17)) (.var 3 (aY 18)) (aY 16)) (.sub (.var 0 (aY 20)) (.var 5 (aY 21)) (aY 19)) (aY 15)) (aY 22) (aY 14)
noncomputable def iG:MS:=.ex (.oe (.var 4 (aY 26)) ("append":Str) [(.sub (.sub (.var 2 (aY 29)) (.var 3 (aY 30)) (aY 28)) (.sub (.var 0 (aY 32)) (.var 5 (aY 33)) (aY 31)) (aY 27))] (aY 25) (aY 23)) (aY 23)
noncomputable def nC:MS:=.ret (.cst (.bool false) 0 (aY 51)) (aY 50)
noncomputable def gD:MS:=.iff (.Gk .And [(.cmp .Lt (.sub (.var 1 (aY 38)) (.var 5 (aY 39)) (aY 37)) (.var 5 (aY 40)) (aY 36)),(.cmp .NotEq (.sub (.var 4 (aY 43)) (.sub (.var 1 (aY 45)) (.var 5 (aY 46)) (aY 44)) (aY 42)) (.sub (.var 4 (aY 48)) (.var 5 (aY 49)) (aY 47)) (aY 41))] (aY 35)) [nC] [] (aY 34)
noncomputable def kn:MS:=.mv [(5,(aY 13))] (aY 13) (.zE (.blt ("len":Str) [(.var 0 (aY 12))] (aY 11) (aY 10)) (aY 9) (aY 8)) [iH,iG,gD] (aY 7)
noncomputable def km:MS:=.ret (.cmp .Eq (.var 3 (aY 54)) (.cst (.int (0)) 0 (aY 55)) (aY 53)) (aY 52)
noncomputable def oG:List MS:=[ko,kn,km]
noncomputable def vd:List Str:=["mates","sides","turns","size","regions","ways","code","signs","hands","torn"]
noncomputable def p2:MS:=.o7 [(3,(bf 11)),(4,(bf 12)),(5,(bf 13))] (.tup [(.blt ("len":Str) [(.var 0 (bf 4))] (bf 3) (bf 2)),(.call ("_law_regions":Str) [(.var 0 (bf 7)),(.var 1 (bf 8))] (bf 6) (bf 5)),(.cst (.int (0)) 0 (bf 9))] 0 (bf 1)) 0 (bf 10) (bf 0)
noncomputable def mS:MS:=.asg 7 (.comp false (.bin .Sub (.cst (.int (1)) 0 (bf 24)) (.bin .Mult (.cst (.int (2)) 0 (bf 26)) (.bin .Mod (.bin .FloorDiv (.var 6 (bf 29)) (.bin .Pow (.cst (.int (2)) 0 (bf 31)) (.var 10 (bf 32)) (bf 30)) (bf 28)) (.cst (.int (2)) 0 (bf 33)) (bf 27)) (bf 25)) (bf 23)) (.zE (.var 3 (bf 37)) (bf 36) (bf 35)) [(("place":Str),(bf 34))] (bf 34) [] {kind:=.function,names:=[((".0":Str),.local),(("place":Str),.local),(("code":Str),.free)],isGenerator:=false,isCoroutine:=false} (bf 22)) (bf 38) (bf 21)
noncomputable def p0:MS:=.asg 8 (.comp false (.bin .Mult (.sub (.var 7 (bf 51)) (.var 10 (bf 52)) (bf 50)) (.bin .Sub (.bin .Mult (.cst (.int (2)) 0 (bf 55)) (.sub (.var 1 (bf 57)) (.var 10 (bf 58)) (bf 56)) (bf 54)) (.cst (.int (1)) 0 (bf 59)) (bf 53)) (bf 49)) (.zE (.var 3 (bf 63)) (bf 62) (bf 61)) [(("place":Str),(bf 60))] (bf 60) [] {kind:=.function,names:=[((".0":Str),.local),(("place":Str),.local),(("sides":Str),.free),(("signs":Str),.free)],isGenerator:=false,isCoroutine:=false} (bf 48)) (bf 64) (bf 47)
noncomputable def pZ:MS:=.asg 9 (.comp false (.var 10 (bf 67)) (.of (.var 4 (bf 69))) [(("region":Str),(bf 68))] (bf 68) [(.cmp .NotEq (.bin .Mod (.blt ("sum":Str) [(.comp false (.sub (.var 8 (bf 76)) (.var 11 (bf 77)) (bf 75)) (.of (.var 10 (bf 79))) [(("place":Str),(bf 78))] (bf 78) [] {kind:=.function,names:=[((".0":Str),.local),(("place":Str),.local),(("hands":Str),.free)],isGenerator:=false,isCoroutine:=false} (bf 74))] (bf 73) (bf 72)) (.cst (.int (3)) 0 (bf 80)) (bf 71)) (.cst (.int (0)) 0 (bf 81)) (bf 70))] {kind:=.function,names:=[((".0":Str),.local),(("region":Str),.local),(("sum":Str),.globalImplicit),(("hands":Str),.free)],isGenerator:=false,isCoroutine:=false} (bf 66)) (bf 82) (bf 65)
noncomputable def Bl:MS:=.ret (.wZ .USub (.cst (.int (1)) 0 (bf 95)) (bf 94)) (bf 93)
noncomputable def uG:MS:=.iff (.cmp .NotEq (.call ("_law_is_painted":Str) [(.var 7 (bf 87)),(.var 0 (bf 88)),(.var 2 (bf 89))] (bf 86) (bf 85)) (.cmp .Eq (.var 9 (bf 91)) (.lst false [] (bf 92)) (bf 90)) (bf 84)) [Bl] [] (bf 83)
noncomputable def uD:MS:=.asg 5 (.bin .Add (.var 5 (bf 102)) (.cst (.int (1)) 0 (bf 103)) (bf 101)) (bf 104) (bf 100)
noncomputable def uE:MS:=.iff (.cmp .Eq (.var 9 (bf 98)) (.lst false [] (bf 99)) (bf 97)) [uD] [] (bf 96)
noncomputable def mR:MS:=.iff (.cmp .Eq (.bin .Mod (.blt ("sum":Str) [(.var 7 (bf 44))] (bf 43) (bf 42)) (.cst (.int (3)) 0 (bf 45)) (bf 41)) (.cst (.int (0)) 0 (bf 46)) (bf 40)) [p0,pZ,uG,uE] [] (bf 39)
noncomputable def p1:MS:=.mv [(6,(bf 20))] (bf 20) (.zE (.bin .Pow (.cst (.int (2)) 0 (bf 18)) (.var 3 (bf 19)) (bf 17)) (bf 16) (bf 15)) [mS,mR] (bf 14)
noncomputable def sT:MS:=.ret (.var 5 (bf 106)) (bf 105)
noncomputable def wx:List MS:=[p2,p1,sT]
noncomputable def tm:List Str:=["mates","crossed","seen","loops","ends","end","here","mate","there"]
noncomputable def o3:MS:=.o7 [(2,(ba 10)),(3,(ba 11)),(4,(ba 12))] (.tup [(.lst true [] (ba 2)),(.cst (.int (0)) 0 (ba 3)),(.bin .Mult (.cst (.int (2)) 0 (ba 5)) (.blt ("len":Str) [(.var 0 (ba 8))] (ba 7) (ba 6)) (ba 4))] 0 (ba 1)) 0 (ba 9) (ba 0)
noncomputable def o1:MS:=.asg 6 (.var 5 (ba 19)) (ba 20) (ba 18)
noncomputable def s8:MS:=.asg 3 (.bin .Add (.var 3 (ba 27)) (.cst (.int (1)) 0 (ba 28)) (ba 26)) (ba 29) (ba 25)
noncomputable def o0:MS:=.iff (.cmp .NotIn (.var 6 (ba 23)) (.var 2 (ba 24)) (ba 22)) [s8] [] (ba 21)
noncomputable def lE:MS:=.asg 7 (.sub (.var 0 (ba 36)) (.bin .FloorDiv (.var 6 (ba 38)) (.cst (.int (2)) 0 (ba 39)) (ba 37)) (ba 35)) (ba 40) (ba 34)
noncomputable def lD:MS:=.asg 8 (.bin .Sub (.bin .Add (.bin .Mult (.cst (.int (2)) 0 (ba 45)) (.var 7 (ba 46)) (ba 44)) (.cst (.int (1)) 0 (ba 47)) (ba 43)) (.bin .Mod (.var 6 (ba 49)) (.cst (.int (2)) 0 (ba 50)) (ba 48)) (ba 42)) (ba 51) (ba 41)
noncomputable def oZ:MS:=.asg 8 (.bin .Add (.bin .Mult (.cst (.int (2)) 0 (ba 65)) (.var 7 (ba 66)) (ba 64)) (.bin .Mod (.var 6 (ba 68)) (.cst (.int (2)) 0 (ba 69)) (ba 67)) (ba 63)) (ba 70) (ba 62)
noncomputable def lC:MS:=.iff (.Gk .Or [(.cmp .In (.var 7 (ba 55)) (.var 1 (ba 56)) (ba 54)),(.cmp .In (.sub (.var 0 (ba 59)) (.var 7 (ba 60)) (ba 58)) (.var 1 (ba 61)) (ba 57))] (ba 53)) [oZ] [] (ba 52)
noncomputable def jz:MS:=.ex (.oe (.var 2 (ba 74)) ("extend":Str) [(.lst false [(.var 6 (ba 76)),(.var 8 (ba 77))] (ba 75))] (ba 73) (ba 71)) (ba 71)
noncomputable def iu:MS:=.asg 6 (.FO (.cmp .Eq (.bin .Mod (.var 8 (ba 82)) (.cst (.int (2)) 0 (ba 83)) (ba 81)) (.cst (.int (1)) 0 (ba 84)) (ba 80)) (.bin .Mod (.bin .Add (.var 8 (ba 87)) (.cst (.int (1)) 0 (ba 88)) (ba 86)) (.var 4 (ba 89)) (ba 85)) (.bin .Mod (.bin .Sub (.var 8 (ba 92)) (.cst (.int (1)) 0 (ba 93)) (ba 91)) (.var 4 (ba 94)) (ba 90)) (ba 79)) (ba 95) (ba 78)
noncomputable def lF:MS:=.OM (.cmp .NotIn (.var 6 (ba 32)) (.var 2 (ba 33)) (ba 31)) [lE,lD,lC,jz,iu] (ba 30)
noncomputable def o2:MS:=.mv [(5,(ba 17))] (ba 17) (.zE (.var 4 (ba 16)) (ba 15) (ba 14)) [o1,o0,lF] (ba 13)
noncomputable def rp:MS:=.ret (.var 3 (ba 97)) (ba 96)
noncomputable def u8:List MS:=[o3,o2,rp]
noncomputable def qH:List Str:=["mates","firsts","counts","state","crossed","loops"]
noncomputable def ka:MS:=.asg 1 (.comp false (.var 6 (aV 2)) (.zE (.blt ("len":Str) [(.var 0 (aV 8))] (aV 7) (aV 6)) (aV 5) (aV 4)) [(("place":Str),(aV 3))] (aV 3) [(.cmp .Gt (.sub (.var 0 (aV 11)) (.var 6 (aV 12)) (aV 10)) (.var 6 (aV 13)) (aV 9))] {kind:=.function,names:=[((".0":Str),.local),(("place":Str),.local),(("mates":Str),.free)],isGenerator:=false,isCoroutine:=false} (aV 1)) (aV 14) (aV 0)
noncomputable def l8:MS:=.asg 2 (.rep true (.cst (.int (0)) 0 (aV 18)) (.bin .Add (.blt ("len":Str) [(.var 1 (aV 22))] (aV 21) (aV 20)) (.cst (.int (2)) 0 (aV 23)) (aV 19)) (aV 17) (aV 16)) (aV 24) (aV 15)
noncomputable def j9:MS:=.asg 4 (.comp false (.var 7 (aV 36)) (.BV (.var 1 (aV 42)) (aV 41) (aV 40)) [(("rank":Str),(aV 38)),(("first":Str),(aV 39))] (aV 37) [(.cmp .Eq (.bin .Mod (.bin .FloorDiv (.var 3 (aV 46)) (.bin .Pow (.cst (.int (2)) 0 (aV 48)) (.var 6 (aV 49)) (aV 47)) (aV 45)) (.cst (.int (2)) 0 (aV 50)) (aV 44)) (.cst (.int (1)) 0 (aV 51)) (aV 43))] {kind:=.function,names:=[((".0":Str),.local),(("rank":Str),.local),(("first":Str),.local),(("state":Str),.free)],isGenerator:=false,isCoroutine:=false} (aV 35)) (aV 52) (aV 34)
noncomputable def l6:MS:=.asg 5 (.call ("_law_loops":Str) [(.var 0 (aV 56)),(.var 4 (aV 57))] (aV 55) (aV 54)) (aV 58) (aV 53)
noncomputable def j8:MS:=.zD (.var 2 (aV 71)) (.var 5 (aV 72)) (.bin .Add (.sub (.var 2 (aV 62)) (.var 5 (aV 63)) (aV 61)) (.bin .Pow (.wZ .USub (.cst (.int (1)) 0 (aV 66)) (aV 65)) (.blt ("len":Str) [(.var 4 (aV 69))] (aV 68) (aV 67)) (aV 64)) (aV 60)) (aV 70) (aV 59)
noncomputable def l7:MS:=.mv [(3,(aV 33))] (aV 33) (.zE (.bin .Pow (.cst (.int (2)) 0 (aV 29)) (.blt ("len":Str) [(.var 1 (aV 32))] (aV 31) (aV 30)) (aV 28)) (aV 27) (aV 26)) [j9,l6,j8] (aV 25)
noncomputable def l0:MS:=.ret (.var 2 (aV 74)) (aV 73)
noncomputable def rI:List MS:=[ka,l8,l7,l0]
noncomputable def Rz:List Str:=["script","cells","mates","sides","size","pieces","low","turns","ways","width","ring","worth","extra","number","less","due","whole","rest"]
noncomputable def xA:MS:=.asg 1 (.comp false (.bin .Add (.var 19 (aF 3)) (.blt ("sum":Str) [(.Bg (.var 0 (aF 7)) (.var 18 (aF 9)) none (some (.cst (.int (4)) 0 (aF 10))) (aF 8) (aF 6))] (aF 5) (aF 4)) (aF 2)) (.BV (.lst false [(.cst (.int (8)) 0 (aF 17)),(.cst (.int (2838)) 0 (aF 18)),(.cst (.int (83077)) 0 (aF 19)),(.cst (.int (22003)) 0 (aF 20))] (aF 16)) (aF 15) (aF 14)) [(("k":Str),(aF 12)),(("start":Str),(aF 13))] (aF 11) [] {kind:=.function,names:=[((".0":Str),.local),(("k":Str),.local),(("start":Str),.local),(("sum":Str),.globalImplicit),(("script":Str),.free)],isGenerator:=false,isCoroutine:=false} (aF 1)) (aF 21) (aF 0)
noncomputable def Bn:MS:=.o7 [(2,(aF 29)),(3,(aF 30))] (.call ("_law_net":Str) [(.sub (.var 1 (aF 26)) (.cst (.int (0)) 0 (aF 27)) (aF 25))] (aF 24) (aF 23)) 0 (aF 28) (aF 22)
noncomputable def Bm:MS:=.asg 4 (.blt ("len":Str) [(.var 2 (aF 34))] (aF 33) (aF 32)) (aF 35) (aF 31)
noncomputable def xz:MS:=.asg 5 (.comp false (.call ("_law_piece":Str) [(.FO (.cmp .Gt (.sub (.var 2 (aF 43)) (.var 18 (aF 44)) (aF 42)) (.var 18 (aF 45)) (aF 41)) (.cst (.str ("(":Str)) 0 (aF 46)) (.cst (.str (")":Str)) 0 (aF 47)) (aF 40)),(.sub (.var 3 (aF 49)) (.var 18 (aF 50)) (aF 48)),(.bin .FloorDiv (.sub (.var 1 (aF 53)) (.cst (.int (1)) 0 (aF 54)) (aF 52)) (.bin .Pow (.cst (.int (4)) 0 (aF 56)) (.var 18 (aF 57)) (aF 55)) (aF 51))] (aF 39) (aF 38)) (.zE (.var 4 (aF 61)) (aF 60) (aF 59)) [(("k":Str),(aF 58))] (aF 58) [] {kind:=.function,names:=[((".0":Str),.local),(("k":Str),.local),(("_law_piece":Str),.globalImplicit),(("cells":Str),.free),(("mates":Str),.free),(("sides":Str),.free)],isGenerator:=false,isCoroutine:=false} (aF 37)) (aF 62) (aF 36)
noncomputable def xy:MS:=.asg 6 (.bin .Mod (.bin .FloorDiv (.sub (.var 1 (aF 67)) (.cst (.int (2)) 0 (aF 68)) (aF 66)) (.cst (.int (128)) 0 (aF 69)) (aF 65)) (.cst (.int (32)) 0 (aF 70)) (aF 64)) (aF 71) (aF 63)
noncomputable def xx:MS:=.asg 7 (.call ("_law_turns":Str) [(.bin .Mult (.cst (.int (3)) 0 (aF 76)) (.bin .Mod (.sub (.var 1 (aF 79)) (.cst (.int (2)) 0 (aF 80)) (aF 78)) (.cst (.int (128)) 0 (aF 81)) (aF 77)) (aF 75)),(.var 6 (aF 82)),(.bin .Add (.bin .Add (.var 6 (aF 85)) (.cst (.int (1)) 0 (aF 86)) (aF 84)) (.bin .Mod (.bin .FloorDiv (.sub (.var 1 (aF 90)) (.cst (.int (2)) 0 (aF 91)) (aF 89)) (.cst (.int (4096)) 0 (aF 92)) (aF 88)) (.cst (.int (32)) 0 (aF 93)) (aF 87)) (aF 83))] (aF 74) (aF 73)) (aF 94) (aF 72)
noncomputable def Fp:MS:=.ret (.cst (.bool false) 0 (aF 110)) (aF 109)
noncomputable def xw:MS:=.iff (.Gk .Or [(.cmp .Eq (.var 7 (aF 98)) (.lst false [] (aF 99)) (aF 97)),(.not (.val (.call ("_law_is_read":Str) [(.var 5 (aF 103)),(.var 2 (aF 104)),(.var 3 (aF 105)),(.sub (.var 1 (aF 107)) (.cst (.int (1)) 0 (aF 108)) (aF 106))] (aF 102) (aF 101))) (aF 100))] (aF 96)) [Fp] [] (aF 95)
noncomputable def xv:MS:=.asg 8 (.call ("_law_ways":Str) [(.var 2 (aF 114)),(.var 3 (aF 115)),(.var 7 (aF 116))] (aF 113) (aF 112)) (aF 117) (aF 111)
noncomputable def CX:MS:=.ret (.cst (.bool false) 0 (aF 123)) (aF 122)
noncomputable def xu:MS:=.iff (.cmp .Lt (.var 8 (aF 120)) (.cst (.int (0)) 0 (aF 121)) (aF 119)) [CX] [] (aF 118)
noncomputable def uP:MS:=.asg 9 (.bin .Add (.cst (.int (10)) 0 (aF 126)) (.bin .Mod (.sub (.var 1 (aF 129)) (.cst (.int (3)) 0 (aF 130)) (aF 128)) (.cst (.int (4400)) 0 (aF 131)) (aF 127)) (aF 125)) (aF 132) (aF 124)
noncomputable def uO:MS:=.asg 10 (.bin .Pow (.cst (.int (2)) 0 (aF 135)) (.var 9 (aF 136)) (aF 134)) (aF 137) (aF 133)
noncomputable def uN:MS:=.o7 [(11,(aF 161)),(12,(aF 162))] (.tup [(.bin .Add (.cst (.int (1)) 0 (aF 141)) (.bin .Mod (.bin .FloorDiv (.sub (.var 1 (aF 145)) (.cst (.int (3)) 0 (aF 146)) (aF 144)) (.cst (.int (4400)) 0 (aF 147)) (aF 143)) (.bin .FloorDiv (.var 10 (aF 149)) (.cst (.int (128)) 0 (aF 150)) (aF 148)) (aF 142)) (aF 140)),(.bin .Mod (.bin .FloorDiv (.sub (.var 1 (aF 154)) (.cst (.int (3)) 0 (aF 155)) (aF 153)) (.cst (.int (3)) 0 (aF 156)) (aF 152)) (.bin .FloorDiv (.var 10 (aF 158)) (.cst (.int (16)) 0 (aF 159)) (aF 157)) (aF 151))] 0 (aF 139)) 0 (aF 160) (aF 138)
noncomputable def uM:MS:=.asg 13 (.bin .Add (.bin .Mult (.call ("_digits2int":Str) [(.call ("_law_strands":Str) [(.var 2 (aF 170))] (aF 169) (aF 168)),(.var 9 (aF 171))] (aF 167) (aF 166)) (.var 11 (aF 172)) (aF 165)) (.var 12 (aF 173)) (aF 164)) (aF 174) (aF 163)
noncomputable def x8:MS:=.o7 [(16,(aF 212)),(17,(aF 213))] (.tup [(.bin .Add (.var 13 (aF 194)) (.bin .Mult (.bin .Sub (.var 10 (aF 197)) (.var 14 (aF 198)) (aF 196)) (.bin .Pow (.var 10 (aF 200)) (.bin .Add (.bin .FloorDiv (.var 4 (aF 203)) (.cst (.int (2)) 0 (aF 204)) (aF 202)) (.cst (.int (2)) 0 (aF 205)) (aF 201)) (aF 199)) (aF 195)) (aF 193)),(.bin .Add (.bin .Mult (.var 15 (aF 208)) (.var 11 (aF 209)) (aF 207)) (.var 12 (aF 210)) (aF 206))] 0 (aF 192)) 0 (aF 211) (aF 191)
noncomputable def CW:MS:=.ret (.cst (.bool false) 0 (aF 232)) (aF 231)
noncomputable def x7:MS:=.iff (.cmp .NotEq (.call ("_divmod_pos":Str) [(.var 16 (aF 218)),(.bin .Sub (.var 10 (aF 220)) (.var 14 (aF 221)) (aF 219))] (aF 217) (aF 216)) (.tup [(.bin .FloorDiv (.bin .Sub (.var 16 (aF 225)) (.var 17 (aF 226)) (aF 224)) (.bin .Sub (.var 10 (aF 228)) (.var 14 (aF 229)) (aF 227)) (aF 223)),(.var 17 (aF 230))] 0 (aF 222)) (aF 215)) [CW] [] (aF 214)
noncomputable def uL:MS:=.mv [(14,(aF 189)),(15,(aF 190))] (aF 188) (.of (.tup [(.tup [(.cst (.int (1)) 0 (aF 178)),(.cst (.int (0)) 0 (aF 179))] 0 (aF 177)),(.tup [(.cst (.int (2)) 0 (aF 181)),(.cst (.int (2)) 0 (aF 182))] 0 (aF 180)),(.tup [(.cst (.int (3)) 0 (aF 184)),(.bin .Mult (.cst (.int (3)) 0 (aF 186)) (.var 8 (aF 187)) (aF 185))] 0 (aF 183))] 0 (aF 176))) [x8,x7] (aF 175)
noncomputable def uK:MS:=.ret (.cst (.bool true) 0 (aF 234)) (aF 233)
noncomputable def J0:List MS:=[xA,Bn,Bm,xz,xy,xx,xw,xv,xu,uP,uO,uN,uM,uL,uK]
structure X5 (K:Frag) (fd:iD) (lay:List Str) (ms:List MS) (ps:List Str):Prop where
 glob:fd.globals=bX
 blt:fd.builtins=gL
 tW:fd.closure=[]
 co:fd.scope.isCoroutine=false
 gen:fd.scope.isGenerator=false
 body:fd.body=.stmts (lM lay ms)
 Me:mK fd.scope lay ms=true
 G1:tu fd.scope lay ps=true
 code:codeIn K fd.code fd.qualname=true
 bind:∀vals:List Value,vals.length=ps.length->∀S,peek K S (Y9 fd ⟨vals,[]⟩)=some (ps.zip vals)
def nY (K:Frag) (x:Str) (a:Addr) (b:List Str) (d:List MS) (e:List Str):Prop:=nsIn K bX x=some (some (.ref a))/\∃o c,K.lookup a=some o/\o.data=.func c/\X5 K c b d e
theorem SJ {P:List Value->Prop} (h:P []) (l:List Value) (e:l.length=0):P l:=(nj e).symm▸h
theorem ND {P:List Value->Prop} (h:∀x (l:List Value),l.length=n->P (x::l)) (l:List Value) (e:l.length=n+1):P l:=by
 cases l with
 | nil=>exact Nat.noConfusion e
 | cons x l=>exact h x l (fE e)
structure Kf (K:Frag):Prop where
 yB:nY K "_paren_depth" 44 qG rH ["data","depth"]
 yF:nY K "_div2n1n" 51 rN nP ["a","b","n"]
 EB:nY K "_div3n2n" 58 wC yu ["a12","a3","b","b1","b2","n"]
 zH:nY K "_divmod_pos" 79 rM tc ["a","b"]
 BK:nY K "rgb_to_hls" 86 th uX ["r","g","b"]
 WR:nY K "_v" 93 Pg Uh ["m1","m2","hue"]
 og:nY K "_strip_quoted_realnames" 107 jC jQ ["addr"]
 rP:nY K "_check_parenthesis" 114 k9 lP ["addr"]
 EA:nY K "_law_net" 119 wB yt ["code"]
 BM:nY K "_law_piece" 126 tj m4 ["sign","side","code"]
 yE:nY K "_law_is_read" 133 qJ rK ["pieces","mates","sides","depth"]
 BN:nY K "_law_paint" 140 tl uZ ["spot","low","high"]
 Dm:nY K "_law_told" 145 ve wy ["hue","low","high"]
 BL:nY K "_law_turns" 150 ti uY ["spot","low","high"]
 yD:nY K "_law_regions" 157 qI rJ ["mates","sides"]
 vj:nY K "_law_is_painted" 164 nQ oG ["signs","mates","turns"]
 Dl:nY K "_law_ways" 169 vd wx ["mates","sides","turns"]
 BO:nY K "_law_loops" 176 tm u8 ["mates","crossed"]
 yC:nY K "_law_strands" 181 qH rI ["mates"]
 Pj:nY K "law" 186 Rz J0 ["script"]
abbrev Sp:=List V->V->Prop
variable {L:List (Str×Nat×Sp)}
abbrev LW:=V->List V->Hs->(V->Hs->Prop)->Prop
def YP (b:Sp) (a:List V) (Q:V->Prop):Prop:=V.f2 a=true/\∃r,b a r/\Q r
noncomputable def Rn (c:Bool) (j:Str->Option V) (L:List (Str×Nat×Sp)) (g:Option (List V->Option (List V))) (h:V->Bool) (i:LW):Tb where
 KQ x:=(L.lookup x).isSome
 DE:=wa
 fn x vs Q:=∃n e,L.lookup x=some (n,e)/\YP e vs Q
 gl:=j
 bin:=λd a b Q=>if c=true then hY d a b Q else binI d a b Q
 Pi:=Ez
 wZ:=My
 cmp:=tU
 OR:=GP
 blt:=sI
 Nt:=ys 36
 oe:=uW 36
 sub:=lf
 Bg:=M1
 Dz:=h
 cv:=i
 FQ x:=x=="_iter_escaped_chars" && g.isSome
 gen x vs:=if x="_iter_escaped_chars" then g.bind λf=>f vs else none
 fl:=c
noncomputable abbrev pf:=Rn true
structure qQ (C:Cx) (gl:Str->Option V):Prop where
 ok:C.Ok
 pat:pK C.h₀ 36 35
 blt:∀x,wa x=true->C.mg x=none
 gl:∀x v,gl x=some v->∃rv,C.mg x=some rv/\∀h av own,R h av own v rv
 Rq:C.mg "range"=none
 Nx:C.mg "enumerate"=none
 Rp:C.mg "reversed"=none
def hO (C:Cx) (x:Str) (n:Nat) (c:Sp):Prop:=∃a o b,C.mg x=some (.ref a)/\C.h₀.get? a=some o/\o.data=.func b/\pa C n (.ref a) (YP c)
def LX (C:Cx) (N:Nat) (i:V->Bool) (j:LW):Prop:=(∀f,i f=true->∃a o k,f=.obj a/\C.h₀.get? a=some o/\o.data=.func k)/\
 ∀f h H c,j f h H c->∀A s e b g d (Q E:Value->Shared->Prop),fD A N->Hp C e s b H->R s.heap e b f g->Rs s.heap e b h d->f9 C e s b c Q->
   wpAny C.md A (call g d) Q E s
theorem Nw {F:Bool} (v:F=true->1<=C.lo) {X:Str->Option V}{g:Option (List V->Option (List V))}{U:V->Bool}{W:LW} (e:qQ C X)
  (hL:∀x N B,L.lookup x=some (N,B)->N+1<=n/\hO C x N B) (Y:LX C n U W):fT C (Rn F X L g U W) n where
 cx:=e.ok
 fl:=v
 gl:=e.gl
 fn:=λx q=>by
  refine ah (ig.mp (show (L.lookup x).isSome=true from q)) λT Z=>?_;obtain ⟨N,B⟩:=T
  refine af (hL x N B Z) λG j=>bj j λa o fd S=>cu S λh2 h3 h4 h5=>?_
  refine ⟨a,o,fd,N,h2,h3,h4,G,?_⟩
  intro A s D u z i Q E M P r y w
  refine aG y λn' α j=>af j λk hq=>?_
  replace k:=(Z)▸k
  cases k
  exact h5 A s D u z i Q E M P r hq w
 Pq:=λx vs i h=>by refine aG h λO O j=>aA j λO G O=>?_;exact G
 bin:=λJ a b i h=>by
  cases F with
  | true=>exact Sb (v rfl) h
  | false=>exact Ou h
 Pi:=λJ a b i h=>RC h
 wZ:=λJ a i h=>Qe (N:=n) h
 cmp:=λJ a b H i h=>R2 e.ok h
 OR:=λa H i h=>Qh h
 UV:=λx q=>by
  refine ⟨e.blt x q,?_,?_⟩
  ·rintro rfl;exact absurd (show wa ("__name__":Str)=true from q) (by decide +kernel)
  ·have I:x="len"\/x="sum"\/x="min"\/x="max"\/x="round"\/x="divmod":=by
    unfold Rn wa at q
    simpa [or_assoc] using q
   rcases I with rfl | rfl | rfl | rfl | rfl | rfl
   ·exact ⟨.builtin "len",by decide +kernel,.inl ⟨_,rfl⟩⟩
   ·exact ⟨.builtin "sum",by decide +kernel,.inl ⟨_,rfl⟩⟩
   ·exact ⟨.builtin "min",by decide +kernel,.inl ⟨_,rfl⟩⟩
   ·exact ⟨.builtin "max",by decide +kernel,.inl ⟨_,rfl⟩⟩
   ·exact ⟨.builtin "round",by decide +kernel,.inl ⟨_,rfl⟩⟩
   ·exact ⟨.builtin "divmod",by decide +kernel,.inl ⟨_,rfl⟩⟩
 blt:=λx vs H i f h hf=>R9 (N:=n) h hf
 Dz:=Y.1
 cv:=Y.2
 Nt:=λm a Ty id h=>Rl e.pat h
 oe:=λm a vs H i Ty id h ht A s D K ra z Q E M P r rs w=>Rm e.ok e.pat h ht M P r rs w
 sub:=λa b H i h p l hs A s D K ra rb Q E O P r1 r2 w=>Qr h p l hs P r1 r2 w
 Bg:=λa b c d i h=>QD h
theorem BF (a:1<=C.lo) {d:Str->Option V}{g:Option (List V->Option (List V))}{b:V->Bool}{c:LW} (e:qQ C d)
  (h:∀x N f,L.lookup x=some (N,f)->N+1<=n/\hO C x N f) (i:LX C n b c):fT C (pf d L g b c) n:=Nw (λO=>a) e h i
theorem J3 {a:Str->Option V}{b:V->Bool}{c:LW} (e:qQ C a):t0 C (pf a L none b c) n where
 Rq:=e.Rq
 Nx:=e.Nx
 Rp:=e.Rp
 gen:=λx d=>by
  have:(x=="_iter_escaped_chars" && (none:Option (List V->Option (List V))).isSome)=true:=d
  simp at this
theorem FV {k:List MS}{l:List Str} (g:C.Ok) (h:nY C.K x D i k l):∃d,FnAt C D d i k l:=by
 refine af h λO a=>aG a λo d j=>aA j λm n f=>?_
 refine ⟨d,⟨o,g.FN _ _ m,n⟩,f.glob,f.blt,f.tW,f.co,f.gen,GA g.FN f.code,f.body,λs c q p=>?_,f.Me,f.G1⟩
 exact PP (K:=C.K) (λD o e=>p _ _ (g.FN _ _ e)) (f.bind c q)
theorem RK {w:List MS}{y:List Str}{k:Str->Option V}{g:Option (List V->Option (List V))}{l:V->Bool}{m:LW}{z:Sp}
  (e:qQ C k) (M:C.mg x=some (.ref D)) (h:nY C.K x D i w y) (S:fT C (pf k L g l m) n) (tg:t0 C (pf k L g l m) n)
  (a:∀u r b,V.f2 u=true->z u r->b r->jE (pf k L g l m) y.length i.length w u b):hO C x (n+1) z:=by
 refine ah (FV e.ok h) λF f=>?_
 refine ah f.obj λo d=>af d λG H=>?_
 refine ⟨D,o,F,M,G,H,?_⟩
 intro A s j c p b Q E P B r N J
 refine af N λI d=>ah d λv q=>af q λhs K=>?_
 exact N9 S tg f A s j c p b Q E P B r (a c v b I hs K) J
set_option tactic.hygienic true in
theorem Fv {K:Frag}{m:Str->Option Value} (X:K.In h) (G:h.Ns D m) (e:nsIn K D x=some none):m x=none:=by
 refine bj G λo k j a=>cu a λho hd O i=>?_
 unfold nsIn at e
 split at e
 ·rename_i c d f l p q
  have:=X _ _ q
  replace this:=(ho)▸this
  cases this
  cases hd
  split at e
  ·exact nomatch e
  ·rename_i g
   refine bQ (i _) ?_
   unfold nsFind findBy
   refine bQ Array.find?_toList (ae g ?_)
   rfl
 ·exact bN e
noncomputable def zJ:Str->Option V:=λx=>if x="_quoted" then some (.obj 36) else if x="_DIV_LIMIT" then some (.int 4000) else if x="ONE_SIXTH" then some (.dg 4595172819793696085) else if x="TWO_THIRD" then some (.dg 4604180019048437077) else none
noncomputable def YE (P:Addr):Str:=if P=60 then "_int2digits.<locals>.inner" else "_digits2int.<locals>.inner"
structure DO (C:Cx):Prop where
 env:qQ C zJ
 lo:C.lo=1
 tabs:C.tabs=[(64,60),(71,67)]
 mg:∀x v,nsIn C.K bX x=some (some v)->C.mg x=some v
 hd:∀q∈C.tabs,CodeHd C.h₀ q.1 q.2
 VN:∀q∈C.tabs,C.h₀.get? q.2=none
 tq:C.tq=YE
 bm:∃bm o,C.mg "__builtins__"=some (.ref bm)/\bm≠gL/\C.h₀.get? bm=some o/\o.cls=.type "module"/\o.dict=some gL/\o.data=.plain
def Kj (b:List V) (Q:V->Prop):Prop:=∃a:List Int,b=[.lst (a.map V.int)]/\a.length<=63/\Q (.bool true)
theorem FJ {h:Heap}{d:Addr->Prop}{a:List Addr}:∀{c:List Value}{b:List Int},Vv c b->Rs h d a (b.map V.int) c
 | _,_,.nil=>Rs.nil
 | _,_,.cons _ _ r=>Rs.cons (R.j2.mpr ⟨_,rfl⟩) (FJ r)
noncomputable abbrev qp:List (Addr×Addr):=[(64,60),(71,67)]
noncomputable abbrev UO (K:Frag) (a:mx) (w:World) (h:Heap) (c b:Str->Option Value):Cx:={prog:=a,w:=w,tabs:=qp,h₀:=ghostOf h qp,K:=K,mg:=c,mb:=b,tq:=YE,lo:=1}
structure K0 (K:Frag):Prop where
 nt:noTabs K=true
 pat:∀h:Heap,K.In h->pK h 36 35
 dig:nsIn K cStatics sharingNotToldKey=some none
 no:(["len","sum","min","max","round","divmod","range","enumerate","reversed"]:List Str).all (λx=>match nsIn K bX x with | some none=>true | _=>false)=true
 gq:nsIn K bX "_quoted"=some (some (.ref 36))
 gl:∃t,nsIn K bX "_DIV_LIMIT"=some (some (.int 4000 t))
 gs:∃t,nsIn K bX "ONE_SIXTH"=some (some (.float 4595172819793696085 t))/\t≠0
 gt:∃t,nsIn K bX "TWO_THIRD"=some (some (.float 4604180019048437077 t))/\t≠0
 c1:codeHdIn K 64 60=true
 c2:codeHdIn K 71 67=true
theorem K0.none {K:Frag} (k:K0 K) (h:x∈(["len","sum","min","max","round","divmod","range","enumerate","reversed"]:List Str)):nsIn K bX x=some none:=by
 have:=aS.1 k.no x h
 revert this
 cases nsIn K bX x with
 | none=>exact nofun
 | some v=>cases v with
  | none=>exact λO=>rfl
  | some v=>exact nofun
theorem UW {K:Frag} (k:K0 K) {n:mx}{w:World}{z F:Str->Option Value}{p:mx}{y:ExcName->Option Value} (A:K.In h) (o:TabsAt qp h) (T:Top p i y z F h):DO (UO K n w h z F):=by
 have KG:K.In (ghostOf h qp):=ghost_K o A k.nt
 have j:∀x v,nsIn K bX x=some (some v)->z x=some v:=λx v e=>mg_of A T.g e
 have l:∀x,nsIn K bX x=some none->z x=none:=λx e=>Fv A T.g e
 have S:(UO K n w h z F).Ok:=by
  refine ⟨KG,PR o T.g,PR o T.b,?_,?_,T.builtins⟩
  ·exact ah T.nolimit λG b=>af b λa r=>⟨G,PR o a,r⟩
  ·exact ah T.nodigits λG b=>af b λa r=>⟨G,PR o a,Fv A a k.dig⟩
 refine ⟨⟨S,k.pat _ KG,?_,?_,l _ (k.none (by decide)),l _ (k.none (by decide)),l _ (k.none (by decide))⟩,rfl,rfl,j,λq m=>?_,λq m=>hideAll_none _ (b9 (f:=(·.2)) m),rfl,?_⟩
 ·intro x s
  have E:x="len"\/x="sum"\/x="min"\/x="max"\/x="round"\/x="divmod":=by
   unfold wa at s
   simpa [or_assoc] using s
  rcases E with rfl | rfl | rfl | rfl | rfl | rfl<;>exact l _ (k.none (by decide))
 ·intro x v s
  unfold zJ at s
  split at s
  ·rename_i e;subst e;cases s;exact ⟨_,j _ (.ref 36) k.gq,λh C u=>R.pz.mpr rfl⟩
  split at s
  ·rename_i e;subst e;cases s;exact ah k.gl λt g=>⟨_,j _ (.int 4000 _) g,λh C u=>R.j2.mpr ⟨_,rfl⟩⟩
  split at s
  ·rename_i e;subst e;cases s;exact ah k.gs λt b=>af b λg D=>⟨_,j _ (.float _ _) g,λh C u=>R.KT.mpr ⟨_,rfl,D⟩⟩
  split at s
  ·rename_i e;subst e;cases s;exact ah k.gt λt b=>af b λg D=>⟨_,j _ (.float _ _) g,λh C u=>R.KT.mpr ⟨_,rfl,D⟩⟩
  ·exact bN s
 ·have c:=ghost_code o
  have:∀{d:List (Addr×Addr)}{h:Heap},CodeAll d h->∀q∈d,CodeHd h q.1 q.2:=by
   intro d h
   induction d with
   | nil=>intro _ q m;exact nomatch m
   | cons a r P=>
    intro c q m
    rcases aX.mp m with rfl | m
    ·exact c.1
    ·exact P c.2 q m
  exact this c q m
 ·exact aG T.bmain λN Q b=>d7 b λH I J B L M=>⟨N,Q,H,I,ghost_get o J (λq=>by replace B:=(q)▸B;exact nomatch B),B,L,M⟩
theorem yi {f:mx}{w:World}{z:GC}{P:Nat->Shared->Shared->Prop}{Y:Protocol}{E:Option Value->Shared->Prop} (S:A.handled=none)
  (W:s.heap.NoLimit) (y:A.depth < mN) (H:s.heap.IsGen D p) (B:s.gens[p]? =some z)
  (u:z.Goes (model f w) A.in1 (λn j r d=>r=.ok (.ret .none)/\P n j d) Y n (.send .none) (s.setGen p .running))
  (N:∀v d i,i.bare=true->Y (n - 1) (s.setGen p .running) v d (λr' I=>match n with
    | 0=>False
    | m+1=>i.Goes (model f w) A.in1 (λn j r d=>r=.ok (.ret .none)/\P n j d) Y m r' I)->E (some v) (d.setGen p i))
  (M:∀d,P n (s.setGen p .running) d->∀q,(∀b o,d.heap.get? b=some o->q.get? b=some o)->d.heap.objs.size<=q.objs.size->E none {d.setGen p .finished with heap:=q}):
  wpAny (model f w) A (pyNext (.ref D)) E Q s:=by
 have C:(∃c,z=.fresh c)\/∃k l c a F cl,z=.suspended k l c a F cl:=by
  cases z with
  | fresh c=>exact .inl ⟨c,rfl⟩
  | suspended k l c a F cl=>exact .inr ⟨k,l,c,a,F,cl,rfl⟩
  | running=>exact u.elim
  | finished=>exact u.elim
 unfold pyNext
 refine wpAny_bind (wpAny_attempt (wpAny_callSpecial?_slot (name:=V3 "__next__") H.typeIs slot_gen_next (wpAny_call_entry slot_gen_next H.typeIs entry_gen_next ?_ (args_gen_next _))))
 show wpAny _ A.in1 (t5 (.ref D) (.send .none)) _ _ s
 unfold t5
 refine wpAny_bind (dV (wpAny_genNumber H (wpAny_bind (wpAny_genState B ?_))))
 have g:∀d:Shared,(∀q,(∀b o,d.heap.get? b=some o->q.get? b=some o)->d.heap.objs.size<=q.objs.size->E none {d with heap:=q})->
   ∀(K:PUnit->Sem Fin) (L:Fin->Shared->Prop),wpAny (model f w) A.in1 (newExc (.type "StopIteration") [] >>= λe=>(raiseNew e:Sem PUnit) >>= K) L (λe s'=>wpAny (model f w) A (do if <- isInstance e (.type "StopIteration") then pure (none:Option Value) else throw e) E Q s') d:=λd h K L=>by
  refine wpAny_bind ?_
  unfold newExc newTuple
  refine wpAny_bind (AK ?_ (by size_fits))
  refine wpAny_bind (m:=Y7 _ _) (lU (a:=qW) (by first | rfl | (unfold Y7;rfl)) ?_)
  refine AK ?_ (by size_fits)
  unfold raiseNew
  refine wpAny_bind (wpAny_bind (wpAny_handled ?_))
  refine ae (show A.in1.handled=none from S) ?_
  refine wpAny_throw ?_
  refine wpAny_bind (wpAny_isInstance (T:="StopIteration") (b:=true) ⟨_,bg _ rfl,rfl⟩ isSubtype_stop ?_)
  exact wpAny_pure (h _ (λb o G=>aQ _ (aQ _ G)) (by simp only [bE];exact bA bZ 5 [_] []))
 rcases C with ⟨c,rfl⟩ | ⟨k,l,c,a,F,cl,rfl⟩
 all_goals
  refine wpAny_bind (wpAny_roomToWake W y ?_)
  show wpAny _ A.in1 (.resume p (.send .none) [] _) _ _ s
  refine wpAny_resumeQ B u (λx d hx=>?_) (λv d i G Z=>?_)
  ·refine af hx λJ X=>?_;subst J
   exact g _ (λq U hz=>M d X q U hz) _ _
  ·exact wpAny_pure ⟨v,rfl,wpAny_pure (N v d i G Z)⟩
noncomputable def fL:List Str:=["addr","pos","escape","ch"]
noncomputable def SQ:List ME:=[.var 1 ⟨112,19,112,22⟩,.bin .Add (.cst (.str ("\\":Str)) 0 ⟨112,24,112,28⟩) (.var 3 ⟨112,31,112,33⟩) ⟨112,24,112,33⟩]
noncomputable def SP:List ME:=[.var 1 ⟨117,19,117,22⟩,.var 3 ⟨117,24,117,26⟩]
noncomputable def SN:List ME:=[.var 1 ⟨119,15,119,18⟩,.cst (.str ("\\":Str)) 0 ⟨119,20,119,24⟩]
noncomputable def SW:MS:=.asg 1 (.cst (.int 0) 0 ⟨108,10,108,11⟩) ⟨108,4,108,7⟩ ⟨108,4,108,11⟩
noncomputable def SV:MS:=.asg 2 (.cst (.bool false) 0 ⟨109,13,109,18⟩) ⟨109,4,109,10⟩ ⟨109,4,109,18⟩
noncomputable def UB:MS:=.asg 2 (.cst (.bool false) 0 ⟨113,21,113,26⟩) ⟨113,12,113,18⟩ ⟨113,12,113,26⟩
noncomputable def UA:MS:=.asg 2 (.cst (.bool true) 0 ⟨115,21,115,25⟩) ⟨115,12,115,18⟩ ⟨115,12,115,25⟩
noncomputable def SU:MT:=.val (.var 2 ⟨111,11,111,17⟩)
noncomputable def SR:MT:=.cmp .Eq (.var 3 ⟨114,13,114,15⟩) (.cst (.str ("\\":Str)) 0 ⟨114,19,114,23⟩) ⟨114,13,114,23⟩
noncomputable def RN:MT:=.val (.var 2 ⟨118,7,118,13⟩)
noncomputable def SX:List (Nat×Pos):=[(1,⟨110,8,110,11⟩),(3,⟨110,13,110,15⟩)]
noncomputable def zK:Expr:=zY fL SX ⟨110,8,110,15⟩
noncomputable def BS (a:List ME) (q p:Pos):Stmt:=.Expr (.Yield (some (.Tuple (iz fL a) 0 q)) p) p
noncomputable def Pp:List Stmt:=[.If (nv fL SR) [toS fL UA] [BS SP ⟨117,18,117,27⟩ ⟨117,12,117,27⟩] ⟨114,8,117,27⟩]
noncomputable def qN:List Stmt:=[.If (nv fL SU) [BS SQ ⟨112,18,112,34⟩ ⟨112,12,112,34⟩,toS fL UB] Pp ⟨111,8,117,27⟩]
noncomputable def KH:Expr:=.Call (.Name "enumerate" ⟨110,19,110,28⟩) [toPy fL (.var 0 ⟨110,29,110,33⟩)] [] ⟨110,19,110,34⟩
noncomputable def Dn:List Stmt:=[.If (nv fL RN) [BS SN ⟨119,14,119,25⟩ ⟨119,8,119,25⟩] [] ⟨118,4,119,25⟩]
noncomputable def wE:List Stmt:=toS fL SW::toS fL SV::.For zK KH qN [] ⟨110,4,117,27⟩::Dn
structure Vg (K:Frag) (fd:iD):Prop where
 glob:fd.globals=bX
 blt:fd.builtins=gL
 tW:fd.closure=[]
 co:fd.scope.isCoroutine=false
 gen:fd.scope.isGenerator=true
 body:fd.body=.stmts wE
 Me:(mK fd.scope fL [SW,SV,UB,UA] && tz fd.scope fL [SU,SR,RN] && jR fd.scope fL SQ && jR fd.scope fL SP && jR fd.scope fL SN && SX.all (λy=>fJ fd.scope fL y.1) && iI fd.scope "enumerate" && o5 fd.scope fL 0)=true
 ZP:fd.scope.names.all (λy=>y.2 !=.cell)=true
 G1:tu fd.scope fL ["addr"]=true
 code:codeIn K fd.code fd.qualname=true
 bind:∀vals:List Value,vals.length=1->∀S,peek K S (Y9 fd ⟨vals,[]⟩)=some ((["addr"]:List Str).zip vals)
def KG (K:Frag):Prop:=nsIn K bX "_iter_escaped_chars"=some (some (.ref 100))/\∃o a,K.lookup 100=some o/\o.data=.func a/\Vg K a
open Sem (wp)
theorem EY {e:Heap}{b:Addr->Prop}{a:List Addr} (w:v.uB=true) (r:R h d c v f):R e b a v f:=by
 cases v<;>first | cases w;done | exact r
theorem vE {h m:Heap}{l g:Addr->Prop}{i c:List Addr}:∀{e:List V}{f:List Value},e.all V.uB=true->Rs h l i e f->Rs m g c e f
 | [],f,_,r=>by exact ae r.nil_inv Rs.nil
 | v::e,f,d,r=>by
  refine aG r.cons_inv λw n j=>aA j λk a b=>?_;subst k
  replace d:=(az _ _)▸(ix)▸d
  exact Rs.cons (EY d.1 a) (vE d.2 b)
noncomputable def CU (a:Sg):Bool:=a.all λo=>match o with | some v=>v.uB | none=>true
theorem G9 (h:CU X=true) (e:X.getD n none=some v):v.uB=true:=by
 replace e:=(ax)▸e
 cases hi:X[n]? with
 | none=>replace e:=(hi)▸e;exact bN e
 | some o=>
  replace e:=(hi)▸e
  have:=aS.mp h o (bB hi)
  replace this:=(show o=some v from e)▸this
  exact this
theorem Fm.move {s':Shared}{sc:Scope} (F:Fm C d s [] Z sc i X) (l:Z.cells=[]) (hs:CU X=true)
  (n:∀o,s.heap.get? Z.locals=some o->s'.heap.get? Z.locals=some o):Fm C d s' [] Z sc i X:=by
 refine ah F.ns λm b=>af b λq p=>?_
 refine ⟨F.scope,F.kind,F.glob,F.blt,F.vc,F.len,⟨m,q.at' n,λj x v f g k=>?_⟩,λj x f g=>?_,F.locs,λy hy=>?_,F.apart⟩
 ·exact ah (p j x v f g k) λu b=>af b λe r=>⟨u,e,EY (G9 hs k) r⟩
 ·refine aG (F.cell j x f g) λc w b=>af b λe O=>?_
  replace e:=(l)▸e;exact bN e
 ·replace hy:=(l)▸hy;exact nomatch hy
section
variable {C:Cx}{A:Around}{ia:List Addr}{items:List V}
def lT (C:Cx) (ia:List Addr) (a s:Shared):Prop:=c4 C C.tb ia a [] s []/\Hp C C.tb s [] []/\a.toks<=s.toks
def zb (C:Cx) (ia:List Addr) (c s:Shared):Prop:=∃a,(∀b∈a,b∈ia)/\cA c.heap a/\lT C a c s
noncomputable def GR (C:Cx) (ia:List Addr):GenEnd:=λn a r b=>r=.ok (.ret .none)/\(n=0/\zb C ia a b)
def NX (h:Heap) (ia:List Addr):Prop:=∀a∈ia,∃o,h.get? a=some o/\zm o
theorem NX.jA {ia:List Addr} (x:NX h ia):cA h ia:=λa d o e=>by refine ah (x a d) λf c=>af c λb n=>?_;replace b:=(e)▸b;cases b;exact n
theorem NX.keeps {c:Heap}{ia:List Addr} (x:NX h ia) (k:∀b∈ia,∀o,h.get? b=some o->c.get? b=some o):NX c ia:=λa d=>let ⟨o,e,n⟩:=x a d;⟨o,k a d o e,n⟩
theorem NX.lt {ia:List Addr} (x:NX h ia):∀b∈ia,b < h.objs.size:=λa c=>let ⟨_,e,_⟩:=x a c;bF e
def Alike (C:Cx) (ia:List Addr) (s a:Shared):Prop:=(∀b∈ia,∀o,s.heap.get? b=some o->a.heap.get? b=some o)/\Hp C C.tb a [] []
noncomputable def GY (C:Cx) (ia:List Addr) (items:List V):Protocol:=λm a v s d=>
 (∃T f g,v=.ref T/\a.heap.objs.size<=T/\IsTup s.heap T f/\items[items.length - 1 - m]? =some (.tup g)/\∀h i e,Rs h i e g f.toList)/\(zb C ia a s/\∀b∈ia,b < s.heap.objs.size)/\
  ∀c:Shared,Alike C ia s c->d (.send .none) c
theorem lT.then {a b:Shared} (x:lT C ia a s) (g:c4 C C.tb ia s [] b []) (P:Hp C C.tb b [] []) (c:s.toks<=b.toks):lT C ia a b:=⟨x.1.trans g,P,ar x.2.2 c⟩
theorem lT.refl {s:Shared} (P:Hp C C.tb s [] []):lT C ia s s:=⟨c4.refl,P,aD _⟩
theorem mZ (P:Hp C d s c []):c=[]:=List.length_eq_zero_iff.mp (P.len.trans rfl)
theorem BR {T:Tb}{g:Shared}{a:Code}{i:List Frame}{K:Flow->Sem Fin}{H:Value->Sem Fin}{gd:Bool->Bool}{lv:List Value->List Value}{f:Env}{sc:Scope}{U:Sg}{j:List ME}{y:Pos}
  (tb:fT C T n) (tg:t0 C T n) (D:Gw i=none) (E:gd false=false) (B:i.any vJ=false) (rm:fD (A.over a i) n) (z:f.scope.isCoroutine=false) (hi:wR f=false)
  (F:Fm C C.tb s [] f sc fL U) (P:Hp C C.tb s [] []) (q:∀b∈c,b∈ia) (L:cA g.heap c) (si:lT C c g s) (J:∀b∈ia,b < s.heap.objs.size) (ok:jR sc fL j=true) (hl:j.length<=1000)
  (hw:lc T U j [] λu H=>u=l/\H=[]) (hx:l.all V.uB=true) (I:items[items.length - 1 - p]? =some (.tup l)) (G:∀b∈ia,¬C.tb b)
  (k:∀d,Alike C ia s d->Seg C.md A (GR C ia) (GY C ia items) p d a (K .next) i d):
  Seg C.md A (GR C ia) (GY C ia items) (p+1) g a ((exec (BS j Y y) f).wrap K H gd lv) i s:=by
 refine seg_Expr_Yield D E B ?_ z hi
 refine dh (aD s.toks) (wpAny_Tuple (kG tb tg j sc fL ok (A.over a i) s C.tb [] [] U f (λu H=>u=l/\H=[]) _ _ Y rm F P hw λu r x N H1 l1 w1 Z W v=>?_))
 refine af w1 λQ S=>?_;subst Q;subst S
 have:=mZ W
 subst this
 refine ⟨fS (ae Z.length (ae l1 hl)),λM α hk=>?_⟩
 have X:c4 C C.tb c x [] {x with heap:=x.heap.push {cls:=.type "tuple",data:=.seq r.toArray}} []:=c4.push
 refine ⟨⟨x.heap.objs.size,r.toArray,u,rfl,ar si.1.size v.size,⟨_,bg _ rfl,rfl,_,rfl⟩,I,λh av β=>by exact vE hx Z⟩,⟨⟨c,q,L,si.then (v.wide.trans X) (W.push _) M⟩,λb w=>am (J b w) (ar v.size X.size)⟩,λd m=>?_⟩
 exact hk .none d (k d ⟨λb w o e=>m.1 b w o (aQ _ (v.keep b o e aC aC (G b w))),m.2⟩)
noncomputable def one (c:Nat):Str:=⟨#[c]⟩
noncomputable def iy:Nat->Bool->List Nat->List V
 | i,true,[]=>[.tup [.int ((i:Int) - 1),.str "\\"]]
 | _,false,[]=>[]
 | i,true,c::r=>.tup [.int i,.str (("\\":Str)++one c)]::iy (i+1) false r
 | i,false,c::r=>if (one c==("\\":Str))=true then iy (i+1) true r else .tup [.int i,.str (one c)]::iy (i+1) false r
section
set_option autoImplicit true
theorem VR:iy i' true []=([.tup [.int ((i':Int) - 1),.str "\\"]]):=rfl
theorem VQ:iy u1 false []=([]):=rfl
theorem VP:iy i' true (c'::r')=(.tup [.int i',.str (("\\":Str)++one c')]::iy (i'+1) false r'):=rfl
theorem FZ:iy i' false (c'::r')=(if (one c'==("\\":Str))=true then iy (i'+1) true r' else .tup [.int i',.str (one c')]::iy (i'+1) false r'):=rfl
end
structure GI (C:Cx) (env:Env) (sc:Scope) (i:Nat) (e:Bool) (σ:Sg) (s:Shared):Prop where
 F:Fm C C.tb s [] env sc fL σ
 P:Hp C C.tb s [] []
 OT:CU σ=true
 Ii:σ.getD 2 none=some (.bool e)
 pos:e=true->σ.getD 1 none=some (.int ((i:Int) - 1))
structure GE (C:Cx) (env:Env) (sc:Scope) (ia:List Addr):Prop where
 Me:(mK sc fL [SW,SV,UB,UA] && tz sc fL [SU,SR,RN] && jR sc fL SQ && jR sc fL SP && jR sc fL SN && SX.all (λy=>fJ sc fL y.1) && iI sc "enumerate" && o5 sc fL 0)=true
 co:env.scope.isCoroutine=false
 int:wR env=false
 cells:env.cells=[]
 hL:env.locals∈ia
 Po:∀b∈ia,¬C.tb b
theorem UQ {sc:Scope}{a b c:MT} (h:tz sc i [a,b,c]=true):xb sc i a=true/\xb sc i b=true/\xb sc i c=true:=⟨(dG h).1,(dG (dG h).2).1,(dG (dG (dG h).2).2).1⟩
theorem UR {sc:Scope}{a b c d:MS} (h:mK sc i [a,b,c,d]=true):yT sc i a=true/\yT sc i b=true/\yT sc i c=true/\yT sc i d=true:=⟨(dG h).1,(dG (dG h).2).1,(dG (dG (dG h).2).2).1,(dG (dG (dG (dG h).2).2).2).1⟩
theorem Xe {sc:Scope}{a:MS} (h:yT sc i a=true):mK sc i [a]=true:=(Ta _).trans h
theorem WK {e:ME}:iz i [e]=[toPy i e]:=rfl
theorem O5 {z H M}:toPy i (.cst z H M)=.Constant z H M:=rfl
theorem T1 {t z H M}:toPy i (.FO t z H M)=.IfExp (nv i t) (toPy i z) (toPy i H) M:=rfl
theorem O1 {a:List Str}{H z M p'}:toS a (.asg H z M p')=.Assign [.Name (nm a H) M] (toPy a z) p':=rfl
theorem WJ {z H}:toS i (.ex z H)=.Expr (toPy i z) H:=rfl
theorem TU {z H}:toS i (.ret z H)=.Return (some (toPy i z)) H:=rfl
theorem W4 {gl z M co cp} (h:X.getD 1 none=some (.int b)):lc (pf gl z M co cp) X SN [] λa H=>a=[.int b,.str "\\"]/\H=[]:=by
 unfold SN
 simp only [cD,cL,bt,aU,eA,bK,h,bV]
 constructor<;>trivial
theorem W5 {gl z M co cp} (h:X.getD 1 none=some (.int b)) (a:X.getD 3 none=some (.str x)):lc (pf gl z M co cp) X SP [] λd H=>d=[.int b,.str x]/\H=[]:=by
 unfold SP
 simp only [cD,cL,aU,h,a]
 constructor<;>trivial
theorem W6 {gl z M co cp} (h:X.getD 1 none=some (.int b)) (e:X.getD 3 none=some (.str x)) (f:x.length<=1):lc (pf gl z M co cp) X SQ [] λj H=>j=[.int b,.str (("\\":Str)++x)]/\H=[]:=by
 unfold SQ
 simp only [cD,cL,bt,aU,bK,h,e,bV]
 refine ⟨?_,by constructor<;>trivial⟩
 show (("\\":Str)++x).cps.size<=1000
 show (("\\":Str).cps++x.cps).size<=1000
 refine ae lb ?_
 have a:("\\":Str).cps.size=1:=by decide +kernel
 have d:x.cps.size<=1:=f
 exact au e7 18 [_,_] [] a d
theorem RQ {gl L' g' co cp}{d:Shared}{c:Code}{j:List Frame}{K:Flow->Sem Fin}{H:Value->Sem Fin}{gd:Bool->Bool}{lv:List Value->List Value}{f:Env}{sc:Scope}{J:Sg}
  (I:fT C (pf gl L' g' co cp) n) (tg:t0 C (pf gl L' g' co cp) n) (w:Gw j=none) (x:gd false=false) (v:j.any vJ=false) (G:fD (A.over c j) n) (ge:GE C f sc ia) (N:GI C f sc p o J s) (m:cA d.heap ia) (si:lT C ia d s) (z:∀b∈ia,b < s.heap.objs.size)
  (y:items=l++iy p o [])
  (k:∀d s,zb C ia d s->Seg C.md A (GR C ia) (GY C ia items) 0 d c (K .next) j s):
  Seg C.md A (GR C ia) (GY C ia items) (iy p o []).length d c ((execs Dn f).wrap K H gd lv) j s:=by
 have ck:=ge.Me
 simp only [az] at ck
 refine f8 ck λP e Q S q T U W=>?_
 unfold Dn
 refine fQ ?_
 refine ae (Vq _ _ _ _ _) ?_
 refine dt (er ?_)
 have X:xb sc fL RN=true:=by
  exact (UQ e).2.2
 refine dt (dh (aD s.toks) (nz I tg RN sc fL X _ s C.tb [] [] J f (λb H=>b=o/\H=[]) _ _ G N.F N.P ?_ λb s1 F H1 w1 B r=>?_))
 ·unfold RN
  simp only [lN,aU,N.Ii]
  constructor<;>trivial
 refine af w1 λD E=>?_;subst D;subst E
 have:=mZ B
 subst this
 intro Z
 have M:=N.F.grow r λa h=>h
 have i:=si.then r.wide B Z
 cases b with
 | false=>
  exact la (env:=f) (la (env:=f) (k _ _ ⟨ia,λO h=>h,m,i⟩))
 | true=>
  refine fQ ?_
  refine BR I tg w x v G ge.co ge.int M B (λO h=>h) m i (λb Y=>am (z b Y) r.size) q (by decide) (W4 (N.pos rfl)) (by rfl) ?_ ge.Po λα u=>?_
  ·refine ae y ?_
   simp [iy]
  ·exact la (env:=f) (la (env:=f) (k _ _ ⟨[],(λO h=>nomatch h),cA.nil,lT.refl u.2⟩))
end
theorem HF {b:mx}{w:World} (d:A.handled=none) (a:Addr) (x:Str) (t:Tok):
  Draws b w A a [a] x.cps.size (λi v=>∃c u,x.cps[i]? =some c/\v=.str ⟨#[c]⟩ u) (λi h=>h.IsStrIter a (wP x) x t i):=by
 unfold wP
 split
 ·exact Draws.strAscii d a x t
 ·exact Draws.strWide d a x t
def PJ (c b:Addr) (x:Str) (t:Tok) (i:Nat) (h:Heap):Prop:=(∃a,IsEnum h c b i a)/\h.IsStrIter b (wP x) x t i
def X2 (b a:Addr) (x:Str) (t:Tok) (i:Nat) (T:Addr) (h:Heap):Prop:=(∃v,IsEnumOut h b a ((i:Int)+1) v T)/\h.IsStrIter a (wP x) x t (i+1)/\T≠b/\T≠a
def GPt (x:Str) (i:Nat) (a:Array Value):Prop:=∃u y,(∃c w,x.cps[i]? =some c/\y=.str ⟨#[c]⟩ w)/\a=#[.int i u,y]
theorem N5 {prog:mx}{w:World} (d:A.handled=none) {a:Addr}{t:Tok} (c:a≠D):WalksT prog w A a [a,D] [a,D] x.cps.size (GPt x) (PJ a D x t) (X2 a D x t):=
 Iq (HF (A:=A.in1) d D x t) a c (λe=>c (ai.mp e)) (ga _)
theorem PJ.jA {l:Addr}{t:Tok} (g:PJ D l x t n h):cA h [D,l]:=by
 refine af g λd f=>ah d λk m=>ah f λo j=>aA j λe p hd=>?_
 intro b c r a
 rcases aX.mp c with rfl | c
 ·rw [m] at a;cases a
  exact zm.fields rfl (by intro q t z;simp at z)
 ·replace a:=(e)▸(ai.mp c)▸a;cases a
  exact zm.fields hd (by intro q t z;simp at z)
theorem Ri {c T:Addr}{t:Tok} (g:(∃v,IsEnumOut h D c ((n:Int)+1) v T)/\h.IsStrIter c (wP x) x t (n+1)/\T≠D/\T≠c):cA h [D,c]:=by
 refine aA g λj k O=>ah j λd m=>ah k λo l=>aA l λe p hd=>?_
 intro b f r a
 rcases aX.mp f with rfl | f
 ·rw [m] at a;cases a
  exact zm.fields rfl (by intro q t z;simp at z)
 ·replace a:=(e)▸(ai.mp f)▸a;cases a
  exact zm.fields hd (by intro q t z;simp at z)
section
variable {C:Cx}{A:Around}{items:List V}
theorem RP {gl L' g' co cp}{j:Shared}{r:Code}{fs:List Frame}{K:Flow->Sem Fin}{H:Value->Sem Fin}{gd:Bool->Bool}{lv:List Value->List Value}{i:Env}{sc:Scope}{B:Sg}{X:List V}
  (tb:fT C (pf gl L' g' co cp) n) (tg:t0 C (pf gl L' g' co cp) n) (η:Gw fs=none) (θ:gd false=false) (ζ:fs.any vJ=false) (rm:fD (A.over r fs) n) (ge:GE C i sc c)
  (F:Fm C C.tb s [] i sc fL B) (P:Hp C C.tb s [] []) (W:CU B=true) (y:B.getD 2 none=some (.bool o)) (I:B.getD 1 none=some (.int p)) (α:B.getD 3 none=some (.str (one w))) (β:cA j.heap c) (si:lT C c j s) (U:NX s.heap c)
  (z:items=X++iy p o (w::m))
  (k:∀j l E δ u,GI C i sc (p+1) E δ l->cA j.heap c->lT C c j l->(∀b∈c,b≠i.locals->∀d,s.heap.get? b=some d->l.heap.get? b=some d)->items=u++iy (p+1) E m->
   Seg C.md A (GR C c) (GY C c items) (iy (p+1) E m).length j r (K .next) fs l):
  Seg C.md A (GR C c) (GY C c items) (iy p o (w::m)).length j r ((execs qN i).wrap K H gd lv) fs s:=by
 have ck:=ge.Me
 simp only [az] at ck
 refine f8 ck λS T π ρ Δ Θ Ξ Φ=>?_
 replace T:=UQ T
 replace S:=UR S
 have ε:ic i=[i.locals]:=by unfold ic;refine ae ge.cells ?_;rfl
 have M:∀(st:MS) (b:Bool) (e q p':Pos),st=.asg 2 (.cst (.bool b) 0 e) q p'->yT sc fL st=true->∀(j l:Shared) (N:Nat) (u:List V) (KK:Flow->Sem Fin),KK .next=K .next->Fm C C.tb l [] i sc fL B->Hp C C.tb l [] []->cA j.heap c->lT C c j l->
   (∀b∈c,b≠i.locals->∀d,s.heap.get? b=some d->l.heap.get? b=some d)->items=u++iy (p+1) b m->N=(iy (p+1) b m).length->
   Seg C.md A (GR C c) (GY C c items) N j r ((exec (toS fL st) i).wrap KK H gd lv) fs l:=by
  intro st b e q p' χ ok j l N u KK ς F1 P1 κ Y υ τ hn
  subst χ
  subst hn
  refine Y6 (dh (aD l.toks) (D8 tb tg _ ok (A.over r fs) l C.tb [] [] B i (λfl ξ H=>fl=none/\ξ=B.set 2 (some (.bool b))/\H=[]) _ _ rm F1 P1 ?_ λfl f ξ s2 μ H2 w2 hf F2 Z G=>?_))
  ·simp only [bU,bt,bV]
   refine ⟨?_,?_,?_⟩<;>trivial
  ·refine aA w2 λQ γ ω=>?_;subst Q;subst γ;subst ω
   have:=mZ Z
   subst this
   refine ae (show f=.next from hf) ?_
   intro ht
   have φ:2 < B.length:=by
    replace y:=(ax)▸y
    rcases gM 2 B.length with h | h
    ·exact h
    ·replace y:=(lX h)▸y;exact bN y
   refine ae ς ?_
   refine (k j s2 b _ u ⟨F2,Z,?_,?_,λO=>?_⟩ κ (Y.then ⟨⟨λb d o h1 h2 h3=>G.keep b d o h1 (λq=>h2 (by replace q:=(ε)▸q;exact ae (ai.mp q) ge.hL)) h3,G.own,G.size⟩,G.os,G.gens,G.bare⟩ Z ht) (λb x ι d D=>G.keep b d (υ b x ι d D) aC (by exact ae ε (λo=>ι (ai.mp o))) (ge.Po b x)) τ)
   ·exact aS.mpr λd ho=>by
     rcases List.mem_or_eq_of_mem_set ho with h | h
     ·exact aS.mp W d h
     ·subst h;rfl
   ·refine ae ax (ae (gH φ) ?_);rfl
   ·refine ae ax (ae (ng (by decide)) (bQ ax (ae I ?_)))
    congr 2
    exact bA fo 14 [_] []
 unfold qN
 refine fQ ?_
 refine ae (Vq _ _ _ _ _) ?_
 refine dt (er ?_)
 refine dt (dh (aD s.toks) (nz tb tg SU sc fL T.1 _ s C.tb [] [] B i (λb H=>b=o/\H=[]) _ _ rm F P ?_ λb s1 Γ H1 w1 P1 g1=>?_))
 ·unfold SU
  simp only [lN,aU,y]
  constructor<;>trivial
 refine af w1 λQ γ=>?_;subst Q;subst γ
 have:=mZ P1
 subst this
 intro ht
 have F1:=F.grow g1 λa h=>h
 have Y:=si.then g1.wide P1 ht
 have k1:∀b∈c,∀d,s.heap.get? b=some d->s1.heap.get? b=some d:=λb x d D=>g1.keep b d D aC aC (ge.Po b x)
 cases b with
 | true=>
  refine fQ ?_
  refine BR tb tg η θ ζ rm ge.co ge.int F1 P1 (λO h=>h) β Y (NX.keeps U k1).lt π (by decide) (W6 I α (aD 1)) (by rfl) ?_ ge.Po λJ v=>?_
  ·refine ae z ?_
   simp [iy]
  ·refine fQ ?_
   refine M UB false _ _ _ rfl S.2.2.1 J J _ (X++[.tup [.int p,.str (("\\":Str)++one w)]]) _ rfl (F1.move ge.cells W (v.1 _ ge.hL)) v.2 ((NX.keeps U k1).keeps v.1).jA (lT.refl v.2) (λb x O d D=>v.1 b x d (k1 b x d D)) ?_ rfl
   refine ae z ?_;simp [iy]
 | false=>
  unfold Pp
  refine fQ ?_
  refine ae (Vq _ _ _ _ _) ?_
  refine dt (er ?_)
  refine dt (dh (aD s1.toks) (nz tb tg SR sc fL T.2.1 _ s1 C.tb [] [] B i (λb H=>b=(one w==("\\":Str))/\H=[]) _ _ rm F1 P1 ?_ λb s2 μ H2 w2 Z G=>?_))
  ·unfold SR
   simp only [fR,aU,bt,α,bV]
   refine ⟨_,rfl,?_⟩
   constructor<;>trivial
  refine af w2 λx Q=>?_;subst Q
  have:=mZ Z
  subst this
  intro ψ
  have F2:=F1.grow G λa h=>h
  have ν:=Y.then G.wide Z ψ
  have k2:∀b∈c,∀d,s.heap.get? b=some d->s2.heap.get? b=some d:=λb x d D=>G.keep b d (k1 b x d D) aC aC (ge.Po b x)
  cases b with
  | true=>
   have he:iy p false (w::m)=iy (p+1) true m:=by refine ae FZ (ae (if_pos x.symm) rfl)
   rw [he] at z ⊢
   refine fQ ?_
   refine M UA true _ _ _ rfl S.2.2.2 j s2 _ X _ rfl F2 Z β ν (λb x O d D=>k2 b x d D) z rfl
  | false=>
   have he:iy p false (w::m)=.tup [.int p,.str (one w)]::iy (p+1) false m:=by refine ae FZ (ae (if_neg (by refine bQ x ?_;decide)) rfl)
   rw [he] at z ⊢
   refine fQ ?_
   refine BR tb tg η θ ζ rm ge.co ge.int F2 Z (λO h=>h) β ν (NX.keeps U k2).lt ρ (by decide) (W5 I α) (by rfl) ?_ ge.Po λJ v=>?_
   ·refine ae z ?_
    simp
   ·refine la (env:=i) (la (env:=i) (k J J false B (X++[.tup [.int p,.str (one w)]]) ⟨F2.move ge.cells W (v.1 _ ge.hL),v.2,W,y,λh=>nomatch h⟩ ((NX.keeps U k2).keeps v.1).jA (lT.refl v.2) (λb x O d D=>v.1 b x d (k2 b x d D)) ?_))
    refine ae z ?_;simp
end
section
variable {C:Cx}{A:Around}{items:List V}
theorem RR {gl L' g' co cp}{j:Env}{sc:Scope}{X:List Frame}{p:Addr}{t:Tok}
  (tb:fT C (pf gl L' g' co cp) n) (tg:t0 C (pf gl L' g' co cp) n) (ω:Gw X=none) (ψ:X.any vJ=false)
  (rm:∀c,c=.forLoop zK (.ref D) qN [] j\/c=.block [] j->fD (A.over c X) n) (ge:GE C j sc [j.locals,D,p]) (χ:D≠p) (J:j.locals≠D) (K:j.locals≠p) (θ:C.h₀.objs.size<=D/\C.h₀.objs.size<=p)
  (hk:∀i e Y k s I,GI C j sc i e Y s->cA k.heap [j.locals,D,p]->lT C [j.locals,D,p] k s->(∀b∈[j.locals,D,p],b < s.heap.objs.size)->items=I++iy i e []->
   Seg C.md A (GR C [j.locals,D,p]) (GY C [j.locals,D,p] items) (iy i e []).length k (.block [] j) (leafOf (.ok .next)) X s):
  ∀(r:List Nat) (i:Nat) (e:Bool) (Y:Sg) (k s:Shared) (I:List V),x.cps.toList.drop i=r->i<=x.cps.size->GI C j sc i e Y s->PJ D p x t i s.heap->cA k.heap [j.locals,D,p]->lT C [j.locals,D,p] k s->items=I++iy i e r->
   Seg C.md A (GR C [j.locals,D,p]) (GY C [j.locals,D,p] items) (iy i e r).length k (.forLoop zK (.ref D) qN [] j) (C.md.den (.forLoop zK (.ref D) qN [] j)) X s:=by
 have ξ:=rm _ (.inl rfl)
 have hh:(A.over (.forLoop zK (.ref D) qN [] j) X).handled=none:=ξ.hd
 have W:=N5 (prog:=C.prog) (w:=C.w) (A:=A.over (.forLoop zK (.ref D) qN [] j) X) (x:=x) (t:=t) hh χ
 have ck:=ge.Me
 simp only [az] at ck
 refine f8 ck λYX YW YV Xh YU τ ck7 ck8=>?_
 have hcx:ic j=[j.locals]:=by unfold ic;refine ae ge.cells ?_;rfl
 have α:∀{s:Shared},Hp C C.tb s [] []->∀a∈[D,p],a∉([]:List Addr)/\¬C.tb a/\C.h₀.objs.size<=a:=λP a H=>by
  refine ⟨by exact aC,ge.Po a (by simp at H ⊢;exact .inr H),?_⟩
  rcases aX.mp H with rfl | H
  ·exact θ.1
  ·exact ae (ai.mp H) θ.2
 have up:∀{s s':Shared}{B:List Addr},c4 C C.tb [D,p] s B s' B->c4 C C.tb [j.locals,D,p] s B s' B:=λg'=>
  ⟨⟨λb o e h1 h2 h3=>g'.keep b o e h1 (λq=>h2 (aP _ q)) h3,g'.own,g'.size⟩,g'.os,g'.gens,g'.bare⟩
 have Ω:∀{s s':Shared}{B:List Addr},c4 C C.tb [j.locals] s B s' B->c4 C C.tb [j.locals,D,p] s B s' B:=λg'=>
  ⟨⟨λb o e h1 h2 h3=>g'.keep b o e h1 (λq=>h2 (ae (ai.mp q) aB)) h3,g'.own,g'.size⟩,g'.os,g'.gens,g'.bare⟩
 have nx:∀{s:Shared}{Y:Sg}{i:Nat},Fm C C.tb s [] j sc fL Y->PJ D p x t i s.heap->NX s.heap [j.locals,D,p]:=λ{s Y i} F st=>by
  intro a H
  have hn:=st.jA
  refine af st λE G=>ah E λold h1=>ah G λo U=>af U λe O=>?_
  rcases aX.mp H with rfl | H
  ·exact ah F.ns λm E=>af E λG O=>bj G λoL O O U=>af U λeL O=>⟨oL,eL,F.jA _ aB _ eL⟩
  rcases aX.mp H with rfl | H
  ·exact ⟨_,h1,hn _ (by trivial) _ h1⟩
  ·exact ae (ai.mp H) ⟨_,e,hn _ (tE _ (tF _)) _ e⟩
 intro r
 induction r with
 | nil=>
  intro i e Y k s I hr hi l st δ si β
  have Γ:i=x.cps.size:=by
   have:(x.cps.toList.drop i).length=0:=by refine ae hr ?_;rfl
   simp at this
   exact bI eT 23 [_,_,_] [] hi this a8
  subst Γ
  show Seg _ A _ _ _ k _ ((Vo zK (.ref D) qN [] j).onRaise (λx=>do LZ x j;vH x)) X s
  refine ae (vN _ _) ?_
  unfold Vo
  refine dt (er ?_)
  refine dt (wpAny_onRaise (dl (W.done s _ _ st λh' tk Q=>λ⟨hsz,S⟩=>?_)))
  refine af (l.P.but (ex:=[D,p]) (tk:=tk) Q hsz (α l.P) (PJ.jA st) S) λP' g'=>?_
  refine seg_again rfl ?_
  show Seg _ A _ _ _ k _ ((execs [] j).onRaise (λx=>do LZ x j;vH x) >>= λf=>(pure (.done f):Sem Fin)) X _
  exact ae (vN _ _) (ae (OD _ _) (ae (Vt _ _ _ _ _ _ _ _ _) (la (hk _ e Y k _ I ⟨l.F.move ge.cells l.OT (λo Z=>Q _ o (by simp [J,K]) Z),P',l.OT,l.Ii,l.pos⟩ δ (si.then (up g') P' S) (λb M=>am ((nx l.F st).lt b M) hsz) β))))
 | cons d r ih=>
  intro i e Y k s I hr hi l st δ si β
  have ι:i < x.cps.size:=by
   rcases gM i x.cps.size with h | h
   ·exact h
   ·rw [gJ h] at hr;exact nomatch hr
  have hd:x.cps[i]? =some d:=by
   have:=congrArg (·[0]?) hr
   simpa [L8] using this
  show Seg _ A _ _ _ k _ ((Vo zK (.ref D) qN [] j).onRaise (λx=>do LZ x j;vH x)) X s
  refine ae (vN _ _) ?_
  unfold Vo
  refine dt (er ?_)
  refine dt (wpAny_onRaise (dl (W.item i s _ _ ι st λT vals h' tk hP hT φ hM Q=>λ⟨hsz,S⟩=>?_)))
  refine af (l.P.but (ex:=[D,p]) (tk:=tk) Q hsz (α l.P) (PJ.jA st) S) λP' g'=>?_
  have F':=l.F.move (s':={s with heap:=h',toks:=tk}) ge.cells l.OT (λo Z=>Q _ o (by simp [J,K]) Z)
  refine dt (dl (W.go _ _ _ i T _ _ _ hM λh2 Ψ γ=>λ⟨μ,ZV⟩=>?_))
  refine af (P'.but (s:={s with heap:=h',toks:=tk}) (ex:=[D,p]) (tk:=tk) γ μ (α P') (Ri hM) (aD _)) λP2 g2=>?_
  have F2:=F'.move (s':={s with heap:=h2,toks:=tk}) ge.cells l.OT (λo Z=>γ _ o (by simp [J,K]) Z)
  have Θ:=(si.then (up g') P' S).then (up g2) P2 (aD _)
  refine aG hP λu y E=>af E λG Zl=>aG G λc w U=>af U λhc Zm=>?_;subst Zm;subst Zl
  replace hc:=(hd)▸hc
  cases hc
  have rT:R h2 C.tb [] (.tup [.int i,.str (one d)]) (.ref T):=by
   refine R.CD.mpr ⟨T,#[.int i u,.str ⟨#[d]⟩ w],rfl,λq=>ay _ (am (l.P.f4 T q) hT),by exact aC,?_,Rs.cons (R.j2.mpr ⟨_,rfl⟩) (Rs.one (R.ux.mpr ⟨_,rfl⟩))⟩
   refine ah φ λo E=>aA E λe1 e2 G=>ah G λN e3=>?_
   exact ⟨o,γ T o (by
    refine cu hM λO O q1 q2=>?_
    simp [q1,q2]) e1,e2,N,e3⟩
  refine dt (dh (aD _) (sx (tg:=SX) (ex:=[j.locals]) (ga _) (λa H=>by simp at H ⊢;exact .inl H) hh F2 P2 τ (λz O O c hc=>by replace hc:=(ge.cells)▸hc;exact bN hc) (v:=.tup [.int i,.str (one d)]) (vs:=[.int i,.str (one d)]) rfl rT λs3 F3 P3 g3=>λΔ=>?_))
  have π:PJ D p x t (i+1) s3.heap:=W.frame _ _ _ Ψ λb M o Z=>g3.keep b o Z aC (by
   simp at M
   rcases M with rfl | rfl
   ·exact λe=>Ne.symm J (ai.mp e)
   ·exact λe=>Ne.symm K (ai.mp e)) (ge.Po b (by simp at M ⊢;exact .inr M))
  have Ξ:=Θ.then (Ω g3) P3 Δ
  refine ae (OD _ _) (ae (Vt _ _ _ _ _ _ _ _ _) ?_)
  have η:Y.length=4:=l.F.len
  obtain ⟨ρ,YC,ς,Zi,rfl⟩:=DH η
  refine RP tb tg ω rfl ψ ξ ge F3 P3 ?_ l.Ii rfl rfl δ Ξ (nx F3 π) β λε s4 e4 Zh ν υ κ Φ k4 ζ=>?_
  ·have:=l.OT
   unfold CU at this ⊢
   replace this:=(az _ _)▸(az _ _)▸(az _ _)▸(ix)▸(ix)▸(ix)▸this
   have e:(iO SX [.int i,.str (one d)] [ρ,YC,ς,Zi]:Sg)=[ρ,some (.int i),ς,some (.str (one d))]:=rfl
   refine ae e (ae ix (ae ix (ae ix (ae (this.1) (ae (this.2.2.1) ?_)))))
   rfl
  ·refine seg_again rfl (ih (i+1) e4 Zh ε s4 ν ?_ ι υ ?_ κ Φ ζ)
   ·refine ae List.drop_add_one_eq_tail_drop (ae hr ?_);rfl
   ·refine W.frame _ _ _ π λb M o Z=>k4 b (by simp at M ⊢;exact .inr M) ?_ o Z
    simp at M
    rcases M with rfl | rfl
    ·exact Ne.symm J
    ·exact Ne.symm K
end
section
variable {C:Cx}{A:Around}
theorem RS {gl L' g' co cp}{env:Env}{sc:Scope}
  (tb:fT C (pf gl L' g' co cp) n) (tg:t0 C (pf gl L' g' co cp) n) (W:A.handled=none) (hd:A.depth+n+8 < mN) (hu:A.units+8*n+128 < cLine)
  (ck:(mK sc fL [SW,SV,UB,UA] && tz sc fL [SU,SR,RN] && jR sc fL SQ && jR sc fL SP && jR sc fL SN && SX.all (λy=>fJ sc fL y.1) && iI sc "enumerate" && o5 sc fL 0)=true)
  (Y:env.scope.isCoroutine=false) (E:wR env=false) (d:env.cells=[])
  (F:Fm C C.tb s [] env sc fL [some (.str x),none,none,none]) (P:Hp C C.tb s [] []):
  Seg C.md A (GR C [env.locals,s.heap.objs.size+1,s.heap.objs.size]) (GY C [env.locals,s.heap.objs.size+1,s.heap.objs.size] (iy 0 false x.cps.toList)) (iy 0 false x.cps.toList).length s (.func wE env) (C.md.den (.func wE env)) [] s:=by
 have r:env.locals < s.heap.objs.size:=ah F.ns λm ξ=>af ξ λπ O=>bj π λoL O O ρ=>af ρ λeL O=>(bF eL)
 have ge:GE C env sc [env.locals,s.heap.objs.size+1,s.heap.objs.size]:=⟨ck,Y,E,d,by exact aB,λb hb q=>by
  have hq:=P.f4 b q
  simp at hb
  rcases hb with rfl | rfl | rfl
  ·exact F.locs.2.1 q
  ·exact absurd hq (je.mpr (bx _))
  ·exact ay _ hq⟩
 have α:cA s.heap [env.locals,s.heap.objs.size+1,s.heap.objs.size]:=λa ha o e=>by
  simp at ha
  rcases ha with rfl | rfl | rfl
  ·exact F.jA _ aB _ e
  ·exact (lu (bx _) e).elim
  ·exact (lu (aD _) e).elim
 have D:=ck
 simp only [az] at D
 refine f8 D λl υ φ χ ψ ω Q S=>?_
 replace l:=UR l
 have η:fJ sc fL 1=true:=(jY.mp (show (fJ sc fL 1 && gO sc fL _)=true from l.1)).1
 have ζ:fJ sc fL 2=true:=(jY.mp (show (fJ sc fL 2 && gO sc fL _)=true from l.2.1)).1
 have θ:fD (A.over (.func wE env) []) n:=⟨W,by show A.depth+0+1+n < _;exact ak e8 16 [_,_,_] [] hd,by show A.units+0+3+8*n+64 < _;exact ak e8 17 [_,_,_] [] hu⟩
 have β:∀(c:Code) (k:Result->Sem Fin) (p:Pos),c=.forLoop zK (.ref (s.heap.objs.size+1)) qN [] env\/c=.block [] env->fD (A.over c [.ret k none false [] (.func wE env) p []]) n:=λc k p j=>by
  rcases j with rfl | rfl
  ·exact ⟨W,by show A.depth+(1+0)+0+n < _;exact ak dd 5 [_,_,_] [] hd,by show A.units+(3+0)+0+8*n+64 < _;exact ak dd 6 [_,_,_] [] hu⟩
  ·exact ⟨W,by show A.depth+(1+0)+0+n < _;exact ak dd 5 [_,_,_] [] hd,by show A.units+(3+0)+0+8*n+64 < _;exact ak dd 6 [_,_,_] [] hu⟩
 have ν:∀{s s':Shared}{N:List Addr}{a b:Addr},c4 C C.tb [env.locals] s N s' N->c4 C C.tb [env.locals,a,b] s N s' N:=λg'=>
  ⟨⟨λb o e h1 h2 B=>g'.keep b o e h1 (λq=>h2 (ae (ai.mp q) aB)) B,g'.own,g'.size⟩,g'.os,g'.gens,g'.bare⟩
 refine seg_func ?_
 refine ae (show execs wE env=execs (toS fL SW::toS fL SV::.For zK KH qN [] ⟨110,4,117,27⟩::Dn) env from rfl) ?_
 refine fQ (Y6 ?_)
 unfold SW
 refine ae O1 (ae O5 ?_)
 refine dh (aD s.toks) (sh (zp ?_) rfl)
 refine (F.move (s':={s with toks:=s.toks+1}) d (by rfl) λo e=>e).D4 P.tok (ex:=[env.locals]) (ga _) (λO c j=>by replace j:=(d)▸j;exact bN j) η (R.j2.mpr ⟨_,rfl⟩) λs1 F1 P1 g1 z1=>λδ=>?_
 replace z1:s1.heap.objs.size=s.heap.objs.size:=z1
 have T:c4 C C.tb [env.locals] s [] s1 []:=(c4.tok (C:=C) (tk:=s.toks+1)).trans g1
 refine fQ (Y6 ?_)
 unfold SV
 refine ae O1 (ae O5 ?_)
 refine dh (aD s1.toks) (sh (Su ?_) rfl)
 refine F1.D4 P1 (ex:=[env.locals]) (ga _) (λO c j=>by replace j:=(d)▸j;exact bN j) ζ (R.Lw.mpr rfl) λK M P2 g2 z2=>λε=>?_
 have U:=T.trans g2
 have ht:s.toks<=K.toks:=ar δ ε
 have z:K.heap.objs.size=s.heap.objs.size:=z2.trans z1
 refine fQ ?_
 refine ae (exec_For _ _ _ _ _) ?_
 refine dt (er ?_)
 unfold KH
 refine dt ?_
 refine ae (gS _ _ _ _ _ _) ?_
 refine wpAny_bind (yq (f:=.type "enumerate") tb M P2.z Q tg.Nx (by decide) (by decide +kernel) ?_)
 have hs:=iY fL env ⟨110,19,110,34⟩ [.var 0 ⟨110,29,110,33⟩]
 replace hs:=(WK)▸hs
 refine qh (.inr ⟨_,rfl⟩) hs (iA hs ?_)
 refine n0 (M.load (i:=0) (v:=.str x) S rfl λrv γ=>?_) (nk ..)
 refine vG ?_
 refine ah (R.ux.mp γ) λt ς=>?_;subst ς
 refine dl (call_enumerate_str λB X G hz hk=>λ⟨u,τ⟩=>?_)
 refine dt (lU rfl ?_)
 refine dt (er ?_)
 refine dt (dV (Vk X ?_))
 refine seg_call (λp=>?_)
 rw [z] at X G ⊢
 have hsz:s.heap.objs.size+2<=B.objs.size:=ae hz (ae z (aD _))
 have P3:Hp C C.tb {K with heap:=B} [] []:=P2.keeps hk u
 have F3:=M.move (s':={K with heap:=B}) d (by rfl) (λo e=>hk _ o e)
 have ι:lT C [env.locals,s.heap.objs.size+1,s.heap.objs.size] s {K with heap:=B}:=⟨(ν U).trans (c4.of_keeps hk u),P3,ht⟩
 have Z:s.heap.objs.size+1≠s.heap.objs.size:=zu _
 refine RR (items:=iy 0 false x.cps.toList) (t:=t) tb tg (by rfl) (by rfl) (λc j=>β c _ p j) ge Z (dW (jO r)) (dW r) ⟨dE P.gd.size,P.gd.size⟩ (x:=x) ?_
  x.cps.toList 0 false _ s _ [] rfl (eB _) ⟨F3,P3,by rfl,rfl,λh=>nomatch h⟩ ⟨⟨_,X⟩,G⟩ α ι rfl
 ·intro i e σ w s4 Γ gi J κ I H
  refine seg_leaf (.ok .next) ?_
  show Seg _ A _ _ _ w _ ((execs Dn env).wrap _ _ _ _) [] s4
  exact RQ tb tg rfl rfl rfl θ ge gi J κ I H λw s5 μ=>(seg_end (.ok (.ret .none)) ⟨rfl,rfl,μ⟩)
end
theorem Hp.setGen {C:Cx}{b:Addr->Prop}{s:Shared}{a:List Addr}{H:Hs} (P:Hp C b s a H) (g:Nat) (x:GC):Hp C b (s.setGen g x) a H:=
 ⟨P.gd,P.len,P.nd,P.lst,P.lo,P.f4,P.bM,P.tk⟩
theorem Hp.PB {f:Addr->Prop}{s':Shared}{ia:List Addr} (P:Hp C d s c J) (g:kP C.tb f ia s.heap [] s'.heap []) (G:Gd C s'.heap) (z:C.lo<=s'.toks) (i:∀a∈c,a∉ia) (y:cA s.heap ia):
  Hp C d s' c J/\kP C.tb d ia s.heap c s'.heap c:=by
 have m:kP C.tb d ia s.heap c s'.heap c:=⟨λb o e O w x=>g.keep b o e aC w x,⟨[],by exact (bw _).symm,by exact nofun⟩,g.size⟩
 refine ⟨⟨G,P.len,P.nd,λn a A l u=>?_,P.lo,λa h=>am (P.f4 a h) g.size,P.bM,z⟩,m⟩
 refine aG (P.lst n a A l u) λB k j=>af j λv r=>?_
 have p:=bB l
 exact ⟨B,k,g.keep a _ v aC (i a p) (λq=>(P.lo a p).2 (P.bM a q)),r.iv m P.bM y⟩
theorem pT.setGen {s:Shared}{g:Nat}{x:GC} (h:pT s.gens) (b:x.bare=true):pT (s.setGen g x).gens:=λy hy=>by
 unfold PS at hy
 dsimp only at hy
 rcases Array.mem_or_eq_of_mem_setIfInBounds hy with a | a
 ·exact h y a
 ·exact ae a b
def X3 (C:Cx) (A:Around) (a:Addr) (g e:Nat) (X:List Addr) (c:List V) (_:Addr->Prop) (l:List V) (s:Shared) (h:List Addr):Prop:=
 s.heap.IsGen a g/\(∃j,c=j++l)/\e<=a/\a∉X/\a∉h/\¬C.tb a/\∃k i,s.gens[g]? =some k/\
  (∀b∈i,e<=b/\b≠a/\b∉X/\b∉h/\¬C.tb b/\b < s.heap.objs.size)/\
  ∀d:Shared,Alike C i s d->s.heap.objs.size<=d.heap.objs.size->∃f,(∀b∈f,b∈i\/d.heap.objs.size<=b)/\
   k.Goes C.md A.in1 (GR C f) (GY C f c) l.length (.send .none) d
theorem N3 {C:Cx}{A:Around}{a:Addr}{g z gk:Nat}{X:List Addr}{items:List V} (θ:C.h₀.NoLimit) (hA:A.handled=none) (β:A.depth < mN) (hX:∀b∈X,b < z) (hg:gk<=g):
  B8 C A a X z gk (X3 C A a g z X items) where
 step:=by
  rintro av x xs s γ H Q E ⟨l,⟨μ,w⟩,M,K,L,I,gs,ia,J,D,S⟩ P hQ
  have B:a < s.heap.objs.size:=by refine bj l λo O O f=>af f λe O=>?_;exact bF e
  have Pc:Hp C C.tb s [] []:=P.callee (λb M=>.inl (P.bM b M)) (λO h=>h)
  refine ah (S (s.setGen g .running) ⟨λO O O e=>e,Pc.setGen _ _⟩ (aD _)) λp f=>af f λF U=>?_
  replace F:∀b∈p,b∈ia\/s.heap.objs.size<=b:=F
  refine yi (P:=λn δ c=>n=0/\zb C p δ c) (Y:=GY C p items) hA (θ.keeps P.gd.base) β l J U (λv c ζ N hv=>?_) (λc hp O O O=>absurd hp.1 (Nat.succ_ne_zero _))
  refine aA hv λf ε Z=>bj f λT ws ρ ξ=>bh ξ λπ hT φ χ hR=>af ε λψ ς=>ah ψ λj ω=>bh ω λG k u P1 υ=>?_;subst π
  replace hT:s.heap.objs.size<=T:=hT
  replace k:cA s.heap j:=k
  have hx:x=.tup ρ:=by
   have e:items.length - 1 - (xs.length+1 - 1)=μ.length:=ae w (ae bp (ae c9 (bI cO 16 [_,_,_,_,_] [] a8 a8 a8)))
   have W:items[items.length - 1 - (xs.length+1 - 1)]? =some (.tup ρ):=χ
   replace W:=(GG _)▸((jX (aD _)))▸(w)▸(e)▸W
   exact aN W
  subst hx
  have m:∀b∈p,z<=b/\b≠a/\b∉X/\b∉γ/\¬C.tb b:=λb d=>by
   rcases F b d with h | h
   ·exact d7 (D b h) λh1 h2 h3 h4 h5 O=>⟨h1,h2,h3,h4,h5⟩
   ·exact ⟨ar M (b8 (am B h)),λe=>ay _ (am B (e▸h)),λq=>ay _ (am (hX b q) (ar M (b8 (am B h)))),
     λq=>ay _ (am (P.lt q) h),λq=>ay _ (am (P.f4 _ (P.bM _ q)) h)⟩
  refine af (P.PB (ia:=j) (s':=c) u.tokP P1.gd P1.tk (λb d q=>(m b (G b q)).2.2.2.1 d) k) λP2 g2=>?_
  have τ:c.gens[g]? =some .running:=u.gens g _ (setGen_self J)
  refine hQ (.ref T) (c.setGen g ζ) j (λb d=>(m b (G b d)).1) k ?_ ?_ (P2.setGen _ _) ⟨g2,u.os,λi y hi e=>?_,λι=>pT.setGen (u.bare (pT.setGen ι rfl)) N⟩
  ·exact R.CD.mpr ⟨T,ws,rfl,λq=>ay _ (am (P.f4 T q) hT),λq=>ay _ (am (P.lt q) hT),φ,hR _ _ _⟩
  ·refine ⟨?_,⟨μ++[.tup ρ],by refine ae w ?_;simp⟩,M,K,L,I,ζ,p,setGen_self τ,λb d=>?_,λν η hz=>⟨p,λb h=>.inl h,Z ν η⟩⟩
   ·refine bj l λo n1 n2 f=>af f λe r=>?_
    exact ⟨o,n1,n2,u.keep a o e aC (λq=>(m a (G a q)).2.1 rfl) I,r⟩
   ·exact bh (m b d) λh1 h2 h3 h4 h5=>⟨h1,h2,h3,h4,h5,ς b d⟩
  ·have α:i≠g:=λe=>ay _ (am hi (e▸hg))
   exact ae ((sy c g ζ).2 i α) (u.gens i y (by exact ae ((sy s g .running).2 i α) e))
 done:=by
  rintro av s γ H Q E ⟨l,⟨μ,w⟩,M,K,L,I,gs,ia,J,D,S⟩ P hQ
  have B:a < s.heap.objs.size:=by refine bj l λo O O f=>af f λe O=>?_;exact bF e
  have Pc:Hp C C.tb s [] []:=P.callee (λb M=>.inl (P.bM b M)) (λO h=>h)
  refine ah (S (s.setGen g .running) ⟨λO O O e=>e,Pc.setGen _ _⟩ (aD _)) λp f=>af f λF U=>?_
  replace F:∀b∈p,b∈ia\/s.heap.objs.size<=b:=F
  refine yi (P:=λn δ c=>n=0/\zb C p δ c) (Y:=GY C p items) hA (θ.keeps P.gd.base) β l J U (λv c ζ N hv=>?_) (λc hp h' hk hz=>?_)
  ·refine aA hv λO f Z=>af f λε ς=>ah ε λj ξ=>bh ξ λG k u P1 υ=>?_
   exact (Z c ⟨λO O O e=>e,P1⟩).elim
  ·refine af hp λO f=>ah f λj ε=>bh ε λG k u P1 υ=>?_
   replace k:cA s.heap j:=k
   have m:∀b∈p,z<=b/\b∉γ:=λb d=>by
    rcases F b d with h | h
    ·exact d7 (D b h) λh1 h2 h3 h4 h5 O=>⟨h1,h4⟩
    ·exact ⟨ar M (b8 (am B h)),λq=>ay _ (am (P.lt q) h)⟩
   refine af (P.PB (ia:=j) (s':=c) u.tokP P1.gd P1.tk (λb d q=>(m b (G b q)).2 d) k) λP2 g2=>?_
   refine hQ _ j (λb d=>(m b (G b d)).1) k ((P2.setGen g .finished).keeps hk hz) ⟨⟨λb o e h1 h2 h3=>hk b o (g2.keep b o e h1 h2 h3),g2.own,ar g2.size hz⟩,u.os,λi y hi e=>?_,λι=>pT.setGen (s:=c) (u.bare (pT.setGen ι rfl)) rfl⟩
   have α:i≠g:=λe=>ay _ (am hi (e▸hg))
   show (c.setGen g .finished).gens[i]? =some y
   exact ae ((sy c g .finished).2 i α) (u.gens i y (by exact ae ((sy s g .running).2 i α) e))
 cls:=by
  rintro av xs s γ ⟨⟨o,_,_,e,hc,_⟩,_⟩
  exact ⟨o,e,hc⟩
 frame:=by
  rintro av xs s γ s' Γ ⟨l,w,M,K,L,I,gs,ia,J,D,S⟩ u
  have κ:=l
  refine bj κ λo n1 n2 f=>af f λe r=>?_
  refine ⟨⟨o,n1,n2,u.keep a o e L K I,r⟩,w,M,K,u.rD L e,I,gs,ia,u.gens g gs J,λb d=>?_,λν η hz=>S ν ⟨λb d o eo=>η.1 b d o (u.keep b o eo (D b d).2.2.2.1 (D b d).2.2.1 (D b d).2.2.2.2.1),η.2⟩ (ar u.size hz)⟩
  refine d7 (D b d) λh1 h2 h3 h4 h5 h6=>?_
  refine ⟨h1,h2,h3,λq=>?_,h5,am h6 u.size⟩
  refine ah u.own λΔ f=>af f λπ hn=>?_;subst π
  rcases bY.mp q with q | q
  ·exact h4 q
  ·exact ay _ (am h6 (hn b q).1)
noncomputable def KF:List V->Option (List V)
 | [.str x]=>some (iy 0 false x.cps.toList)
 | _=>none
theorem KE:∀{a:List V}{l:List V},KF a=some l->∃x,a=[.str x]/\iy 0 false x.cps.toList=l
 | [.str x],_,h=>⟨x,rfl,aN h⟩
theorem KB (hN:12<=n) (γ:1<=C.lo) (hK:KG C.K) (e:qQ C zJ):∃o d,C.h₀.get? 100=some o/\o.data=.func d/\∀vs l,KF vs=some l->Gr C n (.ref 100) vs l:=by
 refine af hK λO M=>aG M λo d ε=>aA ε λh1 h2 f=>?_
 have ho:C.h₀.get? 100=some o:=e.ok.FN _ _ (h1)
 refine ⟨o,d,ho,h2,λvs l hl=>?_⟩
 obtain ⟨x,rfl,rfl⟩:=KE hl
 have tb:fT C (pf zJ [] none (λO=>false) (λO O O O=>False)) 2:=BF γ e (λx N sp h=>by exact bN h) ⟨(λf h=>by exact dk h),(λf vs H ζ h=>cw h)⟩
 have tg:t0 C (pf zJ [] none (λO=>false) (λO O O O=>False)) 2:=J3 e
 intro A s av θ H k X Q E T P r hX hp
 have Pc:Hp C C.tb s [] []:=P.callee (λb B=>.inl (P.bM b B)) (λO h=>h)
 have rc:Rs s.heap C.tb [] [.str x] k:=vE (by rfl) r
 have Z:∀y∈d.scope.names,y.2≠.cell:=λy hy=>by
  have:=aS.mp f.ZP y hy
  exact (bne_iff_ne.mp this)
 have β:∀(l:List (Str×gp)) (N:Nat) (p:List (Str×Addr)),(∀y∈l,y.2≠.cell)->kD N l p=p:=λl=>by
  induction l with
  | nil=>intro N p _;rfl
  | cons y l ih=>
   intro N p h
   obtain ⟨y1,y2⟩:=y
   rw [R8,if_neg (by simpa using h (y1,y2) aB)]
   exact ih N p λz hz=>h z (aP _ hz)
 have j:(dF d s.heap.objs.size 100).cells=[]:=β _ _ _ Z
 have w:=f.G1
 unfold tu at w
 simp only [az] at w
 have u:d.scope.kind=.function:=of_decide_eq_true w.2
 have D:d.scope.names.lookup ("addr":Str)=some .local:=by
  have h3:=w.1.1.1.2
  replace h3:=(dz _ _)▸(az _ _)▸(ix)▸h3
  rcases h3.1 with h | h
  ·exact eq_of_beq h
  ·have:=b7 (show d.scope.names.lookup ("addr":Str)=some .cell by exact eq_of_beq h)
   exact absurd rfl (Z _ this)
 have δ:k.length=1:=r.length
 have Y:=e.ok.lim.keeps P.gd.base
 have α:s.heap.CodeRec d.code d.qualname:=(GA e.ok.FN (f.code)).keeps P.gd.base
 have G:Mj s d ⟨k,[]⟩ ((["addr"]:List Str).zip k):=PP (K:=C.K) (λa o m=>P.gd.base _ _ (e.ok.FN _ _ m)) (λS=>f.bind k δ S)
 refine wN (codeAny_call_generator (bL (gT _ _) T.dp) (P.gd.base _ _ ho) h2 f.co f.gen f.body α ?_)
 refine ae f.tW ?_
 refine G _ _ _ _ (dh (aD _) (Gu u (λy hy=>?_) λη he c xc=>λht=>?_))
 ·exact af (List.of_mem_zip (a:=y.1) (b:=y.2) hy) λh O=>(ae (ai.mp h) (.inl D))
 subst he
 have hsz:s.heap.objs.size < c.heap.objs.size:=bj xc.toInCall.ns λv O O M=>af M λm O=>(bF m)
 have hk:=xc.toInCall.keep
 refine aG xc.toInCall.same λh' tk hs=>?_
 refine af (rU (C:=C) (av:=C.tb) (s:=s) (CK:=c) (a:=100) (fd:=d) (lay:=fL) (ps:=["addr"]) (args:=[.str x]) (px:=k) f.glob f.blt f.G1 rfl Pc rc xc ht) λF P1=>?_
 refine ⟨Y.keeps hk,?_⟩
 have hL:(dF d s.heap.objs.size 100).locals=s.heap.objs.size:=rfl
 have W:∀b v,s.heap.get? b=some v->(c.heap.push {cls:=.type "generator",data:=.fields #[.int c.gens.size 0,.str d.name c.toks,.str d.qualname (c.toks+1)]}).get? b=some v:=λb v m=>aQ _ (hk b v m)
 have I:c.gens=s.gens:=by refine ae hs rfl
 refine wpAny_pyIter_gen (g:=c.gens.size) ⟨_,_,_,bg _ rfl,rfl,rfl,rfl⟩ ?_
 refine hp _ _ _ (N3 (A:=A) (a:=c.heap.objs.size) (g:=c.gens.size) (items:=iy 0 false x.cps.toList) e.ok.lim T.hd (bL (gT _ _) T.dp) hX (ae I (aD _))) ?_ (P.keeps W (by rw [bE];exact dE (b8 hsz)) (ar ht (by show c.toks<=c.toks+1+1;exact bA bZ 5 [_] []))) ?_
 ·refine ⟨⟨_,_,_,bg _ rfl,rfl,rfl,rfl⟩,⟨[],rfl⟩,b8 hsz,λq=>ay _ (jh hsz (hX _ q)),λq=>ay _ (jh hsz (P.lt q)),λq=>ay _ (jh hsz (P.f4 _ (P.bM _ q))),
   .fresh (.func wE (dF d s.heap.objs.size 100)),[s.heap.objs.size],Array.getElem?_push_size ..,λb B=>?_,λL U hz=>⟨[s.heap.objs.size,L.heap.objs.size+1,L.heap.objs.size],λb B=>?_,rfl,?_⟩⟩
  ·exact ae (ai.mp B) ⟨aD _,dW hsz,λq=>ay _ (hX _ q),λq=>ay _ (P.lt q),λq=>ay _ (P.f4 _ (P.bM _ q)),by rw [bE];exact jO hsz⟩
  ·simp at B ⊢
   rcases B with rfl | rfl | rfl
   ·exact .inl rfl
   ·exact .inr (bx _)
   ·exact .inr (aD _)
  ·refine RS (s:=L) (env:=dF d s.heap.objs.size 100) (sc:=d.scope) tb tg T.hd ?_ ?_ f.Me f.co ?_ j ?_ U.2
   ·have:=T.dp
    show A.depth+2+8 < mN
    exact au eY 2 [_,_,_] [] hN this
   ·have:=T.un
    show A.units+1+8*2+128 < cLine
    exact au eY 3 [_,_,_] [] hN this
   ·show (d.scope.kind==.module && _)=false
    refine ae u ?_;rfl
   ·exact F.move j (by rfl) λv m=>U.1 _ (ae hL (ga _)) v (aQ _ m)
 ·refine ⟨⟨λb v m O O O=>W b v m,⟨[],by exact (bw _).symm,by exact nofun⟩,by rw [bE];exact dE (b8 hsz)⟩,by refine ae hs rfl,λi y m=>?_,λB y hy=>?_⟩
  ·show (c.gens.push _)[i]? =some y
   refine ae I (ae Array.getElem?_push ?_)
   have:=(gU.mp m).1
   exact ae (if_neg (dW this)) m
  ·have J:y∈c.gens.push (.fresh (.func wE (dF d s.heap.objs.size 100))):=hy
   replace J:=(I)▸J
   rcases Array.mem_push.mp J with h | h
   ·exact B y h
   ·refine ae h ?_;rfl
inductive VX:List Value->Prop
 | nil:VX []
 | cons (a:Int) (t:Tok) (b:Int) (u:Tok) (x:Value) (r:List Value):VX r->VX (.int a t::.int b u::x::r)
theorem IL:∀(l:List Value),xg l->VX l:=
 by
 intro l h
 fun_induction xg l with
 | case1=>exact .nil
 | case2 a t b u x r c=>exact .cons _ _ _ _ _ r (c h)
 | case3=>exact h.elim
theorem EW {d:Pos}{g:Value}:∀(l:List Value),xg l->qj d (l++[rawInt Y.line,rawInt Y.col,f])=some g->qj d l=some g\/g=f:=by
 intro l h
 induction IL l h with
 | nil=>
  intro e
  simp only [cV,qj,rawInt] at e
  split at e
  ·cases e;exact .inr rfl
  ·exact bN e
 | cons a t b u x j m k=>
  intro e
  simp only [dA,qj] at e ⊢
  split at e
  ·rename_i i;exact ae (if_pos i) (.inl e)
  ·rename_i i
   exact ae (if_neg i) (k h e)
theorem ny (h:xg j.toList):r9 (tabObj j):=λc q t e=>by
 cases e
 intro b
 obtain ⟨l⟩:=j
 cases IL l h with
 | nil=>simp at b
 | cons=>simp at b
theorem Py (B:DO C) {o:Obj} (e:C.h₀.get? D=some o) (h:o.data=.plain):D≠bX:=λq=>by
 refine bj B.env.ok.g λi g f b=>aA b λd a O=>?_
 rw [q,d] at e
 cases e
 replace h:=(a)▸h
 exact nomatch h
structure Sr (C:Cx) (env:Env) (c p:Addr):Prop where
 code:env.code=.ref c
 hq:(c,p)∈C.tabs
 hd:CodeHd C.h₀ c p
 VN:C.h₀.get? p=none
 glob:env.globals=bX
 bm:∃bm o,C.mg "__builtins__"=some (.ref bm)/\bm≠gL/\bm≠bX/\C.h₀.get? bm=some o/\o.cls=.type "module"/\o.dict=some gL/\o.data=.plain
theorem Pb {C:Cx}{A:Around}{E:Value->Shared->Prop}{L:Addr->Prop}{s:Shared}{l:List Addr}{H:Hs}{I:Env}{sc:Scope}{θ:List Str}{σ:Sg}{x j:Str}{d:Cj}{u:List Stmt}{i:Scope}{B:Pos}{fl:Nat}{c p:Addr}{v:List (Str×Addr)}{Q:Value->Shared->Prop}
  (cx:C.Ok) (F:Fm C L s l I sc θ σ) (P:Hp C L s l H) (m:Sr C I c p) (γ:S4 i I=pure v) (ζ:C.tq p=j)
  (h:∀s' f fd,Fm C L s' l I sc θ σ->Hp C L s' l H->c4 C L [] s l s' l->s.heap.objs.size<=f->s'.heap.get? f=some {cls:=.type "function",data:=.func fd}->
   (∃z pm ι ct,fd=fnX x j d u i v .none .none z pm none ι ct)->s'.heap.CodeRec fd.code j->Q (.ref f) s'):
  wpAny C.md A (makeFunction x j d (.stmts u) i I [] [] [] B fl) Q E s:=by
 refine ah (P.gd.tabs _ m.hq) λps y=>aA y λhP D N=>?_
 replace hP:s.heap.get? p=some (tabObj ps):=hP
 have η:C.tb p:=b9 (f:=(·.2)) m.hq
 have ρ:p∉l:=λq=>(P.lo p q).2 (P.bM _ η)
 have hg:s.heap.Ns bX C.mg:=cx.g.keeps P.gd.base
 have β:CodeHd s.heap c p:=m.hd.keeps P.gd.base
 have nb:∀{a:Addr}{o:Obj},C.h₀.get? a=some o->a≠p:=λe q=>by replace e:=(m.VN)▸(q)▸e;exact bN e
 have hB:s.heap.BuiltinsAt C.mg p:=by
  exact aG m.bm λbm o y=>fZ y λa1 a2 a3 a4 a5 a6 a7=>⟨bm,o,a1,a2,a3,nb a4,P.gd.base _ _ a4,a5,a6,a7⟩
 have ν:bX≠p:=by
  exact bj cx.g λo O O y=>af y λe O=>(nb e)
 cases W3:qj B ps.toList with
 | none=>
  refine dh (aD s.toks) (makeFunction_K γ m.glob hg m.code β hP D W3 ν hB λc' G z J tk hx ξ π K κ Y=>?_)
  replace Y:s.toks<=tk:=Y
  have hsz:s.heap.objs.size<=J.objs.size:=ar ξ (b8 π)
  generalize U:fnMade x j d u i v z ((C.mg "__name__").getD .none) c' G=M
  have W:∀b o,b≠p->s.heap.get? b=some o->(J.push M).get? b=some o:=λb o hb e=>aQ _ (hx b o hb e)
  have w:s.heap.objs.size<=(J.push M).objs.size:=ae (bE _ _) (dE hsz)
  have g:c4 C L [] s l {s with heap:=J.push M,toks:=tk} l:=⟨⟨λb o e O O h3=>W b o (λq=>h3 (q▸η)) e,⟨[],by exact (bw _).symm,by exact nofun⟩,w⟩,rfl,λO O e=>e,λb=>b⟩
  have P':Hp C L {s with heap:=J.push M,toks:=tk} l H:=by
   refine ⟨⟨λb o e=>W b o (nb e) (P.gd.base b o e),λq hq=>?_,ar P.gd.size w⟩,P.len,P.nd,λn a vs e1 Z=>?_,P.lo,λa h=>am (P.f4 a h) w,P.bM,ar P.tk Y⟩
   ·by_cases ε:q.2=p
    ·refine ae ε ?_
     refine ⟨_,aQ _ κ,?_,λS T μ=>?_⟩
     ·simpa using TriplesOk_snoc B.line B.col (.ref c') ps.toList D
     ·have δ:qj S (ps.toList++[rawInt B.line,rawInt B.col,.ref c'])=some T:=by simpa using μ
      rcases EW ps.toList D δ with h1 | h1
      ·exact gu (N S T h1) λα o vs t y=>cu y λe1 Z e3 e4=>⟨α,o,vs,t,e1,W _ _ (λq=>by replace Z:=(hP)▸(q)▸Z;cases Z;exact ny D vs _ t e3 e4) Z,e3,e4⟩
      ·exact ae h1 (ae ζ (K.push _))
    ·exact (P.gd.tabs q hq).step (ex:=[p]) (λb o hb e=>W b o (λe=>hb (ai.mpr e)) e) (λe=>ε (ai.mp e)) (λa ha o e=>by replace e:=(hP)▸(ai.mp ha)▸e;cases e;exact ny D)
   ·exact aG (P.lst n a vs e1 Z) λws k y=>af y λe3 r=>⟨ws,k,W a _ (λq=>ρ (q▸bB e1)) e3,r.grow g P.bM cA.nil⟩
  refine h _ _ (fnX x j d u i v .none .none z ((C.mg "__name__").getD .none) none (.ref c') G) (F.grow g P.bM) P' g hsz ?_ ⟨_,_,_,_,rfl⟩ (K.push _)
  exact bQ U (bg _ rfl)
 | some T=>
  refine dh (aD s.toks) (makeFunction_hit γ m.glob hg m.code β hP D W3 hB λG z J tk W hsz Y=>?_)
  replace Y:s.toks<=tk:=Y
  have K:s.heap.CodeRec T j:=ζ▸N B T W3
  generalize U:({cls:=.type "function",data:=.func (fnX x j d u i v .none .none z ((C.mg "__name__").getD .none) none T G)}:Obj)=M
  have X:∀b o,s.heap.get? b=some o->(J.push M).get? b=some o:=λb o e=>aQ _ (W b o e)
  have w:s.heap.objs.size<=(J.push M).objs.size:=ae (bE _ _) (dE hsz)
  have g:c4 C L [] s l {s with heap:=J.push M,toks:=tk} l:=c4.of_keeps X w
  refine h _ _ (fnX x j d u i v .none .none z ((C.mg "__name__").getD .none) none T G) (F.grow g P.bM) (P.keeps X w Y) g hsz ?_ ⟨_,_,_,_,rfl⟩ (K.keeps X)
  exact bQ U (bg _ rfl)
structure LY (scope:Scope) (lay ps:List Str):Prop where
 vc:to scope lay=true
 take:lay.take ps.length=ps
 nd:iJ ps=true
 loc:∀x∈ps,scope.names.lookup x=some .local
 nc:∀x∈scope.names,x.2≠.cell
 kind:scope.kind=.function
 co:scope.isCoroutine=false
 gen:scope.isGenerator=false
structure X6 (C:Cx) (av:Addr->Prop) (s:Shared) (own:List Addr) (scope:Scope) (lay:List Str) (yR:List (Str×Addr)) (σ:Sg):Prop where
 free:∀(i:Nat) x,lay[i]? =some x->scope.names.lookup x=some .free->∃c ov,yR.lookup x=some c/\s.heap.IsCell c ov/\∀v,σ.getD i none=some v->∃rv,ov=some rv/\R s.heap av own v rv
 cel:∀y∈yR,y.2∉own/\¬C.tb y.2/\∃ov,s.heap.IsCell y.2 ov
 apart:yR.Pairwise λx y=>x.2≠y.2
theorem yw {v:Value}:∀(c:List Str) (d:List Value) (i:Nat),iJ c=true->c[i]? =some x->d[i]? =some v->(c.zip d).reverse.lookup x=some v:=by
 have m:∀(l:List (Str×Value)),(l.map (·.1)).Nodup->∀y∈l,l.reverse.lookup y.1=some y.2:=by
  intro l
  induction l with
  | nil=>intro _ y hy;exact nomatch hy
  | cons z l j=>
   intro g y hy
   replace g:=(propext h9)▸(bG)▸g
   refine ae ij (ae List.lookup_append ?_)
   rcases aX.mp hy with rfl | hy
   ·have:l.reverse.lookup y.1=none:=by
     refine ae (propext List.lookup_eq_none_iff) ?_
     intro p B
     have k:=qV.mp B
     simp only [bne_iff_ne,ne_eq]
     intro e
     exact g.1 (e▸b9 (f:=(·.1)) k)
    refine ae this ?_
    obtain ⟨u,w⟩:=y
    show Wg u [(u,w)]=some w
    refine ae gQ (ae (beq_self_eq_true _) rfl)
   ·refine ae (j g.2 y hy) ?_;rfl
 intro c d i g q s
 have o:∀(c:List Str),iJ c=true->c.Nodup:=by
  intro c
  induction c with
  | nil=>intro _;exact ef
  | cons a r j=>intro h;exact h9.mpr ⟨(jB h).1,j (jB h).2⟩
 have n:((c.zip d).map (·.1)).Nodup:=by
  have hs:((c.zip d).map (·.1)).Sublist c:=by
   clear q s g
   induction c generalizing d with
   | nil=>simp
   | cons a r j=>
    cases d with
    | nil=>simp
    | cons b d=>simpa using j d
  exact hs.nodup (o c g)
 have A:(x,v)∈c.zip d:=by
  refine bB (i:=i) ?_
  refine ae (propext List.getElem?_zip_eq_some) ?_
  exact ⟨q,s⟩
 exact m _ n (x,v) A
theorem DC {N:Nat}{o:Obj}{j:iD}{lay ps:List Str}{B:List Stmt}{args:List V}{rest:Sg}{m:List Value}{cK:V->Hs->Prop}{E:Value->Shared->Prop}
  (cx:C.Ok) (rm:fD A (N+1)) (P:Hp C d s c J) (r:Rs s.heap d c args m) (ho:s.heap.get? D=some o) (hd:o.data=.func j) (u:LY j.scope lay ps) (Z:j.globals=bX) (ε:j.builtins=gL)
  (S:j.body=.stmts B) (ζ:s.heap.CodeRec j.code j.qualname) (M:∀G:List Value,G.length=ps.length->Mj s j ⟨G,[]⟩ (ps.zip G)) (α:args.length=ps.length) (ι:(args.map some++rest).length=lay.length)
  (U:∀(i:Nat) x,lay[i]? =some x->ps.length<=i->j.scope.names.lookup x=some .local->(args.map some++rest).getD i none=none)
  (L:X6 C d s c j.scope lay j.closure (args.map some++rest))
  (hS:∀A' n a (Qf:Flow->Shared->Prop) (E':Value->Shared->Prop),fD A' N->Fm C d n c a j.scope lay (args.map some++rest)->Hp C d n c J->c4 C d [] s c n c->a.func=some D->
   wL C d n c a j.scope lay (λfl O H'=>cK (fl.getD .none) H') Qf->wpAny C.md A' (execs B a) Qf E' n)
  (hp:f9 C d s c cK Q):wpAny C.md A (call (.ref D) m) Q E s:=by
 have ξ:m.length=ps.length:=by refine ae r.length (ae α rfl)
 have β:=cx.lim.keeps P.gd.base
 refine wN (OC (bL (gT _ _) rm.dp) ho hd u.co u.gen S ζ ?_)
 refine M m ξ _ _ _ _ (dh (aD _) (PK u.nc (λx hx=>u.loc _ (pl ps m (b9 (f:=(·.1)) hx))) (λl μ γ=>λht=>?_) u.kind))
 have T:∀b o,s.heap.get? b=some o->l.get? b=some o:=λb o e=>(γ.2 b (dW (bF e))).trans (aQ _ e)
 have ν:l.objs.size=s.heap.objs.size+1:=by refine ae (γ.1) (ae (bE _ _) rfl)
 have hsz:s.heap.objs.size<=l.objs.size:=ae ν (bx _)
 refine ⟨β.keeps T,?_⟩
 have Y:=P.keeps (s':={s with heap:=l,toks:=s.toks+(ps.zip m).length}) T hsz (gT _ _)
 have K:c4 C d [] s c {s with heap:=l,toks:=s.toks+(ps.zip m).length} c:=c4.of_keeps T hsz
 have δ:=r.keeps T hsz
 generalize k:newEnv j.scope s.heap.objs.size j.globals j.closure (j.qualname++".<locals>.") (some D) j.code none j.builtins=a
 have e1:a.scope=j.scope:=by refine bQ k ?_;rfl
 have X:a.locals=s.heap.objs.size:=by refine bQ k ?_;rfl
 have e3:a.cells=j.closure:=by refine bQ k ?_;rfl
 have e4:a.globals=bX:=bQ k Z
 have e5:a.builtins=gL:=bQ k ε
 have e6:a.func=some D:=by refine bQ k ?_;rfl
 have ς:∀f,C.tb f->f < s.heap.objs.size:=λf h=>P.f4 _ (P.bM _ h)
 have κ:∀i,i < ps.length->lay[i]? =ps[i]?:=λi hi=>by
  have:=congrArg (·[i]?) u.take
  replace this:=(qn hi)▸this
  exact this
 have F:Fm C d {s with heap:=l,toks:=s.toks+(ps.zip m).length} c a j.scope lay (args.map some++rest):=by
  refine ⟨e1,u.kind,e4,e5,u.vc,ι,⟨_,by refine ae X ?_;exact μ,λi y v a1 a2 I=>?_⟩,λi y a1 a2=>?_,⟨λq=>ay _ (X▸P.lt q),λq=>ay _ (X▸ς _ q),by refine ae X ?_;exact P.gd.size⟩,λy hy=>?_,by refine ae e3 ?_;exact L.apart⟩
  ·by_cases hi:i < ps.length
   ·have θ:i < args.length:=by exact au bq 0 [_,_,_] [] α hi
    have ha:args[i]? =some v:=by
     rw [ax,cE (by simpa using θ),dc] at I
     cases hx:args[i]? with
     | none=>replace I:=(hx)▸I;exact bN I
     | some z=>replace I:=(hx)▸I;exact I
    exact ah (δ.get ha) λw p=>af p λew ρ=>⟨w,yw ps m i u.nd (by exact bQ (κ i hi) a1) ew,ρ⟩
   ·replace I:=((U i y a1 (zx hi) a2))▸I
    exact bN I
  ·have hf:j.scope.names.lookup y=some .free:=by
    rcases a2 with a2 | a2
    ·exact absurd rfl (u.nc _ (b7 a2))
    ·exact a2
   exact aG (L.free i y a1 hf) λf ov p=>aA p λb1 W b4=>ah W λoc τ=>af τ λb2 b3=>⟨f,ov,by refine ae e3 ?_;exact b1,⟨oc,T _ _ b2,b3⟩,λv hv=>let ⟨rv,q1,q2⟩:=b4 v hv;⟨rv,q1,q2.keeps T hsz⟩⟩
  ·replace hy:=(e3)▸hy
   refine aA (L.cel y hy) λh1 h2 p=>aG p λov oc W=>af W λb2 b3=>?_
   refine ⟨h1,h2,λq=>?_,λq=>absurd rfl (u.nc _ (b7 q)),ov,oc,T _ _ b2,b3⟩
   replace q:=(X)▸q
   exact ay _ (q▸bF b2)
 have π:fD (A.deeper a) N:=by
  have:=rm.dp
  have:=rm.un
  exact ⟨rm.hd,by show A.depth+1+N < _;exact ak aK 19 [_,_,_] [] ‹_›,by show A.units+3+8*N+64 < _;exact ak aK 20 [_,_,_] [] this⟩
 have η:ic a=[a.locals]:=by
  unfold ic
  refine ae e3 ?_
  have:(j.closure.filter λy=>a.scope.names.lookup y.1==some .cell)=[]:=by
   refine ae (propext List.filter_eq_nil_iff) ?_
   intro y hy q
   replace q:=(e1)▸q
   exact absurd rfl (u.nc _ (b7 (show j.scope.names.lookup y.1=some .cell by exact eq_of_beq q)))
  refine ae this ?_;rfl
 refine codeAny_func (hS _ _ a _ _ π F Y K e6 λfl g φ s2 H H2 w2 hf F2 P2 g2=>?_)
 have gg:c4 C d [] s c s2 H:=by
  have:=K.wide (ex:=ic a)|>.trans g2
  refine ⟨⟨λb o e h1 O h3=>this.keep b o e h1 (λq=>?_) h3,this.own,this.size⟩,this.os,this.gens,this.bare⟩
  replace q:=(X)▸(propext ai)▸(η)▸q
  exact ay _ (q▸bF e)
 cases fl with
 | none=>
  exact ae (show g=.next from hf) (hp .none .none s2 H H2 w2 (R.tO.mpr rfl) P2 gg)
 | some v=>
  refine ah hf λrv p=>af p λυ rr=>?_;subst υ
  exact hp v rv s2 H H2 w2 rr P2 gg
theorem AD:∀(k:Nat) (x:Int),jK x (x / 2^k*2^k)=x / 2^k*2^k
 | 0,x=>by
  refine ae (GK _) (ae (Int.ediv_one _) (ae (IC _) ?_))
  have c:=bitXor_self x
  have d:=GF x x
  exact au fC 8 [] [_,_,_] c d
 | k+1,x=>by
  have a:x / 2^(k+1)=x / 2 / 2^k:=by
   refine ae (dX _ _) (ae (bO _ _) (ae (E3 (by decide)) rfl))
  have b:x / 2 / 2^k*2^(k+1)=2*(x / 2 / 2^k*2^k):=by refine ae (dX _ _) (bQ (ci _ _ _) (ae (bO _ _) rfl))
  exact ae a (ae b (ae (kbt_halves _ _) (ae (kE _ (by decide)) (ae (AD k (x / 2)) (ae (if_neg (au fC 9 [] [(x%2:Int),(x / 2:Int),x,(2*(x / 2 / 2^k*2^k)%2:Int),(2*(x / 2 / 2^k*2^k) / 2:Int),(x / 2 / 2^k*2^k:Int)] r7 r7)) (bA fm 8 [] [_]))))))
theorem yZ:∀(k:Nat) (q r:Int),0<=r->r < 2^k->jK (q*2^k) r=0
 | 0,q,r,b,a=>by
  have:r=0:=by replace a:=(GK _)▸a;exact au fC 10 [] [_] b a
  subst this
  have a:=bitXor_zero (q*2^0)
  have d:=GF (q*2^0) 0
  exact au fC 11 [] [_,_,_] a d
 | k+1,q,r,b,a=>by
  have c:q*2^(k+1)=2*(q*2^k):=by refine ae (dX _ _) (bQ (ci _ _ _) (ae (bO _ _) rfl))
  have e:r / 2 < 2^k:=by replace a:=(dX _ _)▸a;exact au fC 12 [] [_,_,_] a pJ
  refine ae c (ae (kbt_halves _ _) (ae (kE _ (by decide)) (ae (yZ k q (r / 2) (au fC 13 [] [_,_] b pJ) e) (ae (if_neg (au fC 14 [] [(2*(q*2^k)%2:Int),(2*(q*2^k) / 2:Int),(q*2^k:Int),(r%2:Int),(r / 2:Int),r] r7 r7)) ?_))))
  decide
theorem Rd (x y:Int):ph x y=x+y - jK x y:=by
 have h:=GF x y
 have a:n7 x y=ph x y - jK x y:=rfl
 exact au fC 15 [] [_,_,_,_,_] h a
theorem Gn (a:0<=y) (k:y < 2^n):ph (b*2^n) y=b*2^n+y:=by
 exact ae (Rd _ _) (ae (yZ n b y a k) (bA fm 9 [] [_,_]))
theorem Ly (k:Nat) (x:Int):n7 x (x / 2^k*2^k)=x%2^k:=by
 refine ae (GF _ _) (ae (AD _ _) ?_)
 have:=cZ x (2^k)
 replace this:=(bO _ _)▸this
 exact ak fg 0 [] [_,_,_] this
theorem fdiv_pow (x:Int) (k:Nat):x.fdiv (2^k)=x / 2^k:=cY _ (bl (d9 k))
theorem UF (x:Int) (k:Nat):x.fmod (2^k)=x%2^k:=cz _ (bl (d9 k))
theorem kv {m:Nat} (a:0<=b) (h:b < 2^m):aI b<=m:=by
 refine gn.mpr ?_
 have:=fI m
 exact eP ee 21 [_,_] [_,_] a h this rfl
noncomputable abbrev Cx.at (C:Cx) (h:Heap) (a:List Addr):Cx:={C with h₀:=hideAll h a,tabs:=[]}
section
variable {C:Cx}{av:Addr->Prop}{s:Shared}{own:List Addr}{H:Hs}
theorem oK (P:Hp C av s own H):∀b o,C.h₀.get? b=some o->(C.at s.heap own).h₀.get? b=some o:=λb o e=>
 wS _ (P.gd.base b o e) λq=>by replace e:=(((P.lo b q).1))▸e;exact bN e
theorem U2 (b:C.Ok) (P:Hp C av s own H):(C.at s.heap own).Ok:=
 ⟨λa o e=>oK P _ _ (b.FN a o e),b.g.keeps (oK P),b.b.keeps (oK P),b.lim.keeps (oK P),let ⟨f,c,d⟩:=b.nb;⟨f,c.keeps (oK P),d⟩,b.bi⟩
theorem Sd {a:Str->Option V} (e:qQ C a) (P:Hp C av s own H):qQ (C.at s.heap own) a:=
 ⟨U2 e.ok P,e.pat.keeps λb o O c=>oK P b o c,e.blt,e.gl,e.Rq,e.Nx,e.Rp⟩
theorem PD (P:Hp C av s own H):Hp (C.at s.heap own) av s own H:=
 ⟨⟨λb o e=>of_hideAll _ e,(λq d=>nomatch d),dN (hideAll_size _ _)⟩,P.len,P.nd,P.lst,λa c=>⟨hideAll_none _ c,(P.lo a c).2⟩,P.f4,(λa h=>by simp [Cx.tb] at h),P.tk⟩
theorem Gp {f:Shared} (P:Hp C av s own H) (d:Hp (C.at s.heap own) av f c J) (g:c4 (C.at s.heap own) av [] s own f c):Hp C av f c J/\c4 C av [] s own f c:=by
 have k:∀b o,b∉own->s.heap.get? b=some o->f.heap.get? b=some o:=λb o u e=>g.keep b o e u aC (by simp [Cx.tb])
 refine ⟨⟨⟨λb o e=>d.gd.base b o (oK P b o e),λq m=>?_,ar P.gd.size g.size⟩,d.len,d.nd,d.lst,λa i=>⟨?_,(d.lo a i).2⟩,d.f4,P.bM,d.tk⟩,⟨⟨λb o e r x O=>k b o r e,g.own,g.size⟩,g.os,g.gens,g.bare⟩⟩
 ·refine (P.gd.tabs q m).step (ex:=own) k (λz=>(P.lo _ z).2 (P.bM _ (b9 m))) λa i o e=>?_
  refine ah (eF.mp i) λn l=>?_
  have v:n < H.length:=bQ P.len ((aL.mp l).1)
  obtain ⟨w,y,p,_⟩:=P.lst n a H[n] l (by simp [v])
  replace e:=(p)▸e;cases e
  exact r9.list
 ·cases h:C.h₀.get? a with
  | none=>rfl
  | some o=>
   have:=oK P a o h
   replace this:=(((d.lo a i).1))▸this
   exact bN this
end
theorem Gg {T:Tb}{h:Env}{sc:Scope}{q:Sg}{b:List ME}{j:Pos}{o:Obj}{B:iD}{cK:V->Hs->Prop}{E:Value->Shared->Prop}
  (tb:fT C T n) (tg:t0 C T n) (y:gO sc i (.cv p b Y j)=true) (N:fD A n) (F:Fm C d s c h sc i q) (P:Hp C d s c J) (x:q.getD p none=some (.obj D)) (ho:s.heap.get? D=some o) (hd:o.data=.func B) (u:D∉c) (w:¬C.tb D)
  (M:lc T q b J W)
  (K:∀k a m g e (Q:Value->Shared->Prop),W g m->Rs k.heap d a g e->Hp C d k a m->c4 C d [] s c k a->f9 C d k a cK Q->wpAny C.md A (call (.ref D) e) Q E k)
  (L:f9 C d s c cK Q):wpAny C.md A (eval (toPy i (.cv p b Y j)) h) Q E s:=by
 replace y:=wK y
 refine pH y λz O ub=>?_
 refine ae T2 (ae (gS _ _ _ _ _ _) ?_)
 refine wpAny_bind (F.load z x λf S=>?_)
 refine ae (R.pz.mp S) ?_
 refine sj (o:=o) (fd:=B) (iA (iY ..) (kG tb tg b sc i ub A s d c J q h _ _ _ j N F P M λg e k a m l1 w1 U I r=>⟨⟨r.keep D o ho u aC w,hd⟩,?_⟩))
 exact K k a m g e Q w1 U I r λv f Z l G x X P3 H=>L v f Z l G x X P3 (r.trans H)
theorem BY {T:Tb}{sc:Scope}{b:List ME}{j k:Pos}{o:Obj}{x:iD}{cK:V->Hs->Prop}{N:Flow->Shared->Prop}
  (S:fT C T n) (tg:t0 C T n) (I:gO sc i (.cv p b Y j)=true) (K:fD A n) (F:Fm C d s c Z sc i X) (P:Hp C d s c J) (e:X.getD p none=some (.obj D)) (ho:s.heap.get? D=some o) (hd:o.data=.func x) (H:D∉c) (q:¬C.tb D)
  (G:lc T X b J W)
  (z:∀g a m u l (N:Value->Shared->Prop),W u m->Rs g.heap d a u l->Hp C d g a m->c4 C d [] s c g a->f9 C d g a cK N->wpAny C.md A (call (.ref D) l) N Q g)
  (B:f9 C d s c cK λO M=>N .next M):wpAny C.md A (exec (toS i (.ex (.cv p b Y j) k)) Z) N Q s:=by
 refine ae WJ ?_
 refine Y4 (Gg S tg I K F P e ho hd H q G z λv L g a m U h w y=>B v L g a m U h w y) ?_ (vU (by rfl) _ _ _)
 unfold wR
 refine ae F.scope (ae F.kind ?_);rfl
theorem Au (c:Env):∀(a b:List Stmt),execs (a++b) c=(execs a c >>= λf=>match f with | .next=>execs b c | f=>pure f)
 | [],b=>rfl
 | x::a,b=>by
  refine ae dA (ae (iK _ _ _) (ae (iK _ _ _) (ae (Au c a b) (ae (bind_assoc _ _ _) ?_))))
  congr 1
  funext f
  cases f<;>rfl
theorem CF (c:List Str):∀(a b:List MS),lM c (a++b)=lM c a++lM c b
 | [],b=>by refine ae (E8 _) ?_;rfl
 | x::a,b=>by refine ae dA (ae (xo _) (ae (xo _) (ae (CF c a b) ?_)));rfl
noncomputable def j3 (n:Nat):Nat->Nat->List Nat
 | _,0=>[]
 | x,1=>[x]
 | x,k+2=>x%2^n::j3 n (x / 2^n) (k+1)
section
set_option autoImplicit true
theorem VW (n':Nat):j3 n' u1 0=([]):=rfl
theorem xF (n':Nat):j3 n' x' 1=([x']):=rfl
theorem su (n':Nat):j3 n' x' (k'+2)=(x'%2^n'::j3 n' (x' / 2^n') (k'+1)):=rfl
end
theorem rW (n:Nat):∀(k x:Nat),(j3 n x k).length=k
 | 0,_=>rfl
 | 1,_=>rfl
 | k+2,x=>by refine ae (su _) (ae c9 (ae (rW n (k+1) _) rfl))
theorem yN (n q:Nat) (b:1<=q):∀(p x:Nat),1<=p->j3 n x (p+q)=j3 n (x%2^(p*n)) p++j3 n (x / 2^(p*n)) q
 | 1,x,_=>by
  obtain ⟨q,rfl⟩:∃a,q=a+1:=⟨q - 1,by exact au bq 6 [_,_] [] b a8⟩
  refine ae (show 1+(q+1)=q+2 by exact bA fo 18 [_] []) (ae (xF _) (ae (fN _) (ae (su _) ?_)));rfl
 | p+2,x,_=>by
  have c:=yN n q b (p+1) (x / 2^n) (bA bZ 0 [_] [])
  obtain ⟨a,rfl⟩:∃a,q=a+1:=⟨q - 1,by exact au bq 6 [_,_] [] b a8⟩
  have e:2^((p+2)*n)=2^n*2^((p+1)*n):=by refine bQ (du _ _ _) ?_;congr 1;exact ae (ql _ _ _) (ae (ql _ _ _) (bA fo 19 [_,_] []))
  refine ae (show p+2+(a+1)=(p+a+1)+2 by exact bA fo 20 [_,_] []) (ae (su _) (ae (show p+a+1+1=p+1+(a+1) by exact bA fo 21 [_,_] []) (ae c (ae e (ae (su _) (ae (Nat.mod_mul_right_mod _ _ _) (ae (Nat.mod_mul_right_div_self _ _ _) (ae (Nat.div_div_eq_div_mul _ _ _) ?_))))))))
  rfl
section
variable {gl:Str->Option V}{L:List (Str×Nat×Sp)}{g:Option (List V->Option (List V))}{co:V->Bool}{cp:LW}{Q:V->Prop}
theorem bW:(pf gl L g co cp).bin=hY:=rfl
theorem CJ:(pf gl L g co cp).Pi=Ez:=rfl
theorem wg:(pf gl L g co cp).wZ=My:=rfl
theorem df:(pf gl L g co cp).cmp=tU:=rfl
theorem CH:(pf gl L g co cp).OR=GP:=rfl
theorem ir:(pf gl L g co cp).blt=sI:=rfl
theorem ea:(pf gl L g co cp).DE=wa:=rfl
theorem ip:(pf gl L g co cp).Nt=ys 36:=rfl
theorem iq:(pf gl L g co cp).oe=uW 36:=rfl
theorem eM:(pf gl L g co cp).sub=lf:=rfl
theorem IT:(pf gl L g co cp).Bg=M1:=rfl
theorem MM:(pf gl L g co cp).gl=gl:=rfl
theorem ky:hY .Add (.int y) (.int b) Q=Q (.int (y+b)):=rfl
theorem kx:hY .Sub (.int y) (.int b) Q=Q (.int (y - b)):=rfl
theorem DF:hY .Mult (.int y) (.int b) Q=(Zc y b/\Q (.int (y*b))):=rfl
theorem y6:hY .FloorDiv (.int y) (.int b) Q=(b≠0/\b.natAbs.log2 < 9000/\Q (.int (y.fdiv b))):=rfl
theorem vA:hY .Mod (.int y) (.int b) Q=(b≠0/\Q (.int (y.fmod b))):=rfl
theorem AH:hY .LShift (.int y) (.int b) Q=(0<=b/\(aI y:Int)+b<=2^27/\Q (.int (y*2^b.toNat))):=rfl
theorem AG:hY .RShift (.int y) (.int b) Q=(0<=b/\Q (.int (y.fdiv (2^b.toNat)))):=rfl
theorem Go:hY .BitAnd (.int y) (.int b) Q=Q (.int (jK y b)):=rfl
theorem UZ:hY .BitOr (.int y) (.int b) Q=Q (.int (ph y b)):=rfl
theorem UX:hY .BitXor (.int y) (.int b) Q=Q (.int (n7 y b)):=rfl
theorem YY:hY .Pow (.int y) (.int b) Q=(0<=b/\((aI y:Nat):Int)*b<=2^27/\Q (.int (y^b.toNat))):=rfl
theorem Kt:Ez .Add (.int y) (.int b) Q=Q (.int (y+b)):=rfl
theorem Pk:Ez .Sub (.int y) (.int b) Q=Q (.int (y - b)):=rfl
theorem Uw:Ez .LShift (.int y) (.int b) Q=(0<=b/\(aI y:Int)+b<=2^27/\Q (.int (y*2^b.toNat))):=rfl
theorem Uv:Ez .RShift (.int y) (.int b) Q=(0<=b/\Q (.int (y.fdiv (2^b.toNat)))):=rfl
theorem xV:My .USub (.int b) Q=Q (.int (-b)):=rfl
theorem HO {Q:Bool->Prop}:tU .Lt (.int y) (.int b) J Q=Q (decide (y < b)):=rfl
theorem aa3 {Q:Bool->Prop}:tU .LtE (.int y) (.int b) J Q=Q (decide (y<=b)):=rfl
theorem Os {Q:Bool->Prop}:tU .Gt (.int y) (.int b) J Q=Q (decide (b < y)):=rfl
theorem xd {b:V}{Q:Bool->Prop}:tU .NotEq v b J Q=∃k,Dt v b J=some k/\Q (!k):=rfl
theorem MA {Q:Bool->Prop}:GP (.bool o) J Q=Q o:=rfl
theorem D0 {Q:Bool->Prop}:GP (.int b) J Q=Q (b !=0):=rfl
theorem cs:(pf gl L g co cp).fl=true:=rfl
theorem Qn:(pf gl L g co cp).Dz=co:=rfl
theorem Ww:(pf gl L g co cp).cv=cp:=rfl
theorem wb {b:Str}:hY .Add (.str x) (.str b) Q=((x++b).length<=1000/\Q (.str (x++b))):=rfl
theorem xe {Q:Bool->Prop}:tU .Eq (.int y) (.int b) J Q=∃k,Dt (.int y) (.int b) J=some k/\Q k:=rfl
end
theorem w9 {a b:Prop}:(if true=true then a else b)=a:=rfl
theorem pC {a b:Prop}:(if false=true then a else b)=b:=rfl
theorem c6 {b:Type _}{a d:b}{l:List b}:(a::l).getD 0 d=a:=rfl
theorem dB {b:Type _}{a d:b}{l:List b}:(a::l).getD (n+1) d=l.getD n d:=rfl
theorem fU {c:Type _}{a b:c}{l:List c}:(a::l).set 0 b=b::l:=rfl
theorem f6 {c:Type _}{a b:c}{l:List c}:(a::l).set (n+1) b=a::l.set n b:=rfl
theorem len_app (a b:Str):(a++b).length=a.length+b.length:=lb
theorem A8 {a:V} (h:g (if b.fmod 2=0 then v else a)):lf (.lst [v,a]) (.int (b.fmod 2)) J g:=by
 have c:b.fmod 2=0\/b.fmod 2=1:=ae (cz _ (by decide)) (ak fh 5 [] [_,_,_] r7)
 refine ⟨by show 2<=1000;decide,?_⟩
 rcases c with e | e
 ·rw [e] at h ⊢
  exact ⟨0,v,rfl,rfl,by exact h⟩
 ·rw [e] at h ⊢
  exact ⟨1,a,rfl,rfl,by exact h⟩
noncomputable def rC (a:Str) (c b:Int):Str:=
 (if (b.fdiv 2).fmod 2=0 then ("":Str) else ("\"\\\"\\))\"":Str))++
 (if c=0 then (if b.fmod 2=0 then ("\\\"":Str)++a++("\"\\\"\"":Str) else ("\\\"":Str)++a++("\\\\\"\\\"\"":Str))
  else (if b.fmod 2=0 then ("\\":Str)++a else ("\\\"\"":Str)++a++("\"\"\\\"\"":Str)))
theorem kO:Dt (.int y) (.int b) J=some (y==b):=by rfl
theorem W7:fz (n+1) J (.str x)=some (.str x):=rfl
theorem He {gl z H co cp}{f:V->Prop} (hs:x.length<=1) (l:f (.str (rC x b y))):jE (pf gl z H co cp) 3 tj.length m4 [.str x,.int b,.int y] f:=by
 refine ⟨rfl,rfl,?_⟩
 show de _ m4 [some (.str x),some (.int b),some (.int y),none] [] _
 dsimp only [m4,sZ,sY,sX,sW,de,wpS,g8,Ct,lc,bW,eM,df,bV,c6,dB,wb,y6,vA,xe,fU,f6]
 simp only [pe,if_false]
 have w:∀(a:Str) (n:Nat),a.length<=n->n<=998->(a++x).length<=1000:=λa n k o=>by exact ae (len_app _ _) (bI eT 20 [_,_,_] [] hs k o)
 refine ⟨by decide,by decide,by decide,A8 ?_⟩
 have p:∀(a d:Str),a.length<=100->d.length<=100->(a++x++d).length<=202:=λa d k o=>by exact ae (len_app _ _) (ae (len_app _ _) (bI eT 21 [_,_,_] [] hs k o))
 have r:∀(a:Str),a.length<=100->(a++x).length<=202:=λa k=>by exact ae (len_app _ _) (au eZ 17 [_,_] [] hs k)
 have ite:∀(c:Prop) [Decidable c] (a d:Str),(if c then V.str a else V.str d)=V.str (if c then a else d):=λc O a d=>by split<;>rfl
 have q:∀(a d:Str),a.length<=300->d.length<=300->f (.str (a++d))->hY .Add (.str a) (.str d) λv=>∃u,fz 8 [] v=some u/\f u:=λa d k o h=>⟨by refine ae (len_app _ _) ?_;exact au eZ 18 [_,_] [] k o,_,rfl,h⟩
 have j:∀(c:Prop) [Decidable c] (a d:Str),a.length<=300->d.length<=300->(if c then a else d).length<=300:=λc O a d k o=>by split<;>assumption
 refine ⟨_,kO,λs=>?_,λs=>?_⟩
 ·have m:b=0:=by exact of_decide_eq_true s
  refine ⟨by refine ae (len_app _ _) ?_;have:(V3 "\\\"").length=2:=(by decide +kernel);exact au eZ 19 [_,_] [] hs this,ar (p _ _ (by decide +kernel) (by decide +kernel)) (by decide),ar (r _ (by decide +kernel)) (by decide),ar (p _ _ (by decide +kernel) (by decide +kernel)) (by decide),by decide,A8 ?_⟩
  refine ae (ite _ _ _) (ae (ite _ _ _) ?_)
  refine q _ _ (j _ _ _ (by decide +kernel) (by decide +kernel)) (j _ _ _ (ar (p _ _ (by decide +kernel) (by decide +kernel)) (by decide)) (ar (p _ _ (by decide +kernel) (by decide +kernel)) (by decide))) ?_
  unfold rC at l
  replace l:=(if_pos m)▸l
  exact l
 ·have m:¬b=0:=by exact of_decide_eq_false s
  refine ⟨ar (r _ (by decide +kernel)) (by decide),ar (r _ (by decide +kernel)) (by decide),ar (p _ _ (by decide +kernel) (by decide +kernel)) (by decide),by decide,A8 ?_⟩
  refine ae (ite _ _ _) (ae (ite _ _ _) ?_)
  refine q _ _ (j _ _ _ (by decide +kernel) (by decide +kernel)) (j _ _ _ (ar (r _ (by decide +kernel)) (by decide)) (ar (p _ _ (by decide +kernel) (by decide +kernel)) (by decide))) ?_
  unfold rC at l
  replace l:=(if_neg m)▸l
  exact l
noncomputable abbrev T0:Tb:=pf zJ [] none (λO=>false) (λO O O O=>False)
theorem LQ (b:1<=C.lo) (e:qQ C zJ):fT C T0 n:=BF b e (λx N c h=>by exact bN h) ⟨(λf h=>by exact dk h),(λf d H a h=>cw h)⟩
theorem So (e:qQ C zJ):t0 C T0 n:=J3 e
noncomputable def re:Scope:={kind:=.function,names:=[("x",.local),("L",.local),("R",.local),("mid",.local),("shift",.local),("upper",.local),("lower",.local),("a_digits",.free),("inner",.free),("n",.free)],isGenerator:=false,isCoroutine:=false,more:=[]}
noncomputable def JK:Cj:={posonlyargs:=[],args:=[{arg:="x",annotation:=none,pos:=⟨38,14,38,15⟩},{arg:="L",annotation:=none,pos:=⟨38,17,38,18⟩},{arg:="R",annotation:=none,pos:=⟨38,20,38,21⟩}],vararg:=none,kwonlyargs:=[],kw_defaults:=[],kwarg:=none,defaults:=[]}
theorem T5:LY re cX ["x","L","R"]:=⟨by decide +kernel,by decide +kernel,by decide +kernel,by decide +kernel,by decide +kernel,rfl,rfl,rfl⟩
theorem fD.mono (r:fD A p) (h:n<=p):fD A n:=⟨r.hd,by have:=r.dp;exact au eY 4 [_,_,_,_] [] h this,by have:=r.un;exact au eY 5 [_,_,_,_] [] h this⟩
structure Vf (C:Cx) (fa l:Addr) (n:Nat) (scope:Scope) (params:Cj) (body:List Stmt) (x1:Str) (v1:Value):Prop where
 tabs:C.tabs=[]
 lo:C.lo=1
 env:qQ C zJ
 obj:∃fd yR qual doc pm UU ct t,C.h₀.get? fa=some {cls:=.type "function",data:=.func fd}/\fd=fnX "inner" qual params body scope yR .none .none doc pm none UU ct/\C.h₀.CodeRec UU qual/\
  (∃c,yR.lookup x1=some c/\C.h₀.IsCell c (some v1))/\(∃c,yR.lookup ("inner":Str)=some c/\C.h₀.IsCell c (some (.ref fa)))/\(∃c,yR.lookup ("n":Str)=some c/\C.h₀.IsCell c (some (.int n t)))/\
  (∀y∈yR,∃ov,C.h₀.IsCell y.2 ov)/\yR.Pairwise λx y=>x.2≠y.2
theorem Ry (P:Hp C d s c J) {o:Obj} (e:C.h₀.get? D=some o):D∉c:=λq=>by replace e:=(((P.lo D q).1))▸e;exact bN e
noncomputable def aE (a:List Nat):List V:=a.map λ(d:Nat)=>V.int (d:Int)
theorem Jc {B:Nat} (h:aI b<=B) (c:B<=100000000) (d:w<=10000000):(aI b:Int)+((w:Nat):Int)<=2^27:=by
 have a:(2:Int)^27=134217728:=by decide
 exact ae a (bI eS 22 [_,_,_] [] h c d)
noncomputable def Kw:List MS:=dZ.take 5
def WS (x L R:Nat) (e n:Nat) (g:Addr) (H:Hs) (f:List V) (d:Fl) (b:Sg) (c:Hs):Prop:=
 (L+1=R/\d=some .none/\c=H.set e (f.set L (.int x)))\/
 (L+1≠R/\d=none/\c=H/\∃a:Nat,a=(L+R) / 2/\b=[some (.int x),some (.int L),some (.int R),some (.int a),some (.int (((a - L)*n:Nat):Int)),some (.int ((x / 2^((a - L)*n):Nat):Int)),some (.int ((x%2^((a - L)*n):Nat):Int)),some (.ref e),some (.obj g),some (.int n)])
theorem RF {R h:Nat}{fa:Addr} (d:w < R) (e:R<=l.length) (a:l.length<=1000) (u:J[h]? =some l) {B:Nat} (s:B<=1000000) (v:p < 2^B) (j:n<=10000):
  de T0 Kw [some (.int p),some (.int w),some (.int R),none,none,none,none,some (.ref h),some (.obj fa),some (.int n)] J (WS p w R h n fa J l):=by
 dsimp only [Kw,dZ,mE,mD,mC,mB,mA,mz,my,Zf,jj,eH,bU,pY,tI,dY,bt,aU,bK,fR,bW,df,cs,bV,c6,dB,ky,kx,DF,AH,AG,UX,xe,fU,f6]
 refine ⟨_,rfl,λf=>?_,λf=>?_⟩
 ·have c:(w:Int)+1=R:=by exact of_decide_eq_true f
  unfold CS
  simp only [u]
  refine ⟨aO _,by exact au eV 17 [_,_,_] [] e c,by exact ak ce 12 [_] [] a,?_⟩
  exact .inl ⟨by exact ak e9 3 [_,_] [] c,rfl,by refine ae (aZ _) rfl⟩
 ·have c:¬(w:Int)+1=R:=by exact of_decide_eq_false f
  have x:((w:Int)+R).fdiv (2^(1:Int).toNat)=((w+R) / 2:Nat):=by
   refine ae (fdiv_pow _ _) ?_;show ((w:Int)+R) / 2^1=_
   exact au bq 20 [_,_,_] [_] fM pJ
  have i:w<=(w+R) / 2:=au bq 21 [_,_,_] [] d fM
  have o:((((w+R) / 2:Nat):Int) - w)*n=((((w+R) / 2 - w)*n:Nat):Int):=by push_cast [we i];rfl
  have H:(p:Int).fdiv (2^(((((w+R) / 2 - w)*n:Nat):Int)).toNat)=((p / 2^(((w+R) / 2 - w)*n):Nat):Int):=by
   refine ae (fdiv_pow _ _) (ae (aZ _) (bQ (fI _) ?_));norm_cast
  have g:((w+R) / 2 - w)*n<=10000000:=by
   have k:(w+R) / 2 - w<=1000:=eP ee 2 [_,_,_,_,_] [] e a a8 fM
   exact iN k j
  have q:n7 (p:Int) (((p / 2^(((w+R) / 2 - w)*n):Nat):Int)*2^(((((w+R) / 2 - w)*n:Nat):Int)).toNat)=((p%2^(((w+R) / 2 - w)*n):Nat):Int):=by
   have:=Ly (((w+R) / 2 - w)*n) (p:Int)
   refine ae (aZ _) ?_
   have L:((p / 2^(((w+R) / 2 - w)*n):Nat):Int)=(p:Int) / 2^(((w+R) / 2 - w)*n):=by refine bQ (fI _) ?_;norm_cast
   have y:((p%2^(((w+R) / 2 - w)*n):Nat):Int)=(p:Int)%2^(((w+R) / 2 - w)*n):=by refine bQ (fI _) ?_;norm_cast
   exact ae L (ae y this)
  simp only [x,o,H,q]
  refine ⟨by decide,?_,aO _,aO _,?_,?_⟩
  ·refine jJ (m:=64) (n:=64) ?_ ?_ (by decide)
   ·refine kv (au bq 22 [_,_,_] [] i fM) ?_
    have:(2:Int)^64=18446744073709551616:=by decide
    exact bI cO 4 [_,_,_,_] [] e a fM
   ·refine kv (aO _) ?_
    have:(2:Int)^64=18446744073709551616:=by decide
    exact ak ce 15 [_] [] j
  ·have r:aI ((p / 2^(((w+R) / 2 - w)*n):Nat):Int)<=B:=by
    exact gn.mpr (ae (aM _) (bL (Sz _ _) v))
   exact Jc r (ar s (by decide)) g
  ·exact .inr ⟨by exact ak e9 4 [_,_] [] c,rfl,rfl,_,rfl,rfl⟩
theorem Hv (a b:List Nat):aE (a++b)=aE a++aE b:=gj
theorem Aq (a:List Nat):(aE a).length=a.length:=bv _
noncomputable def filled (a:List V) (L R n x:Nat):List V:=a.take L++aE (j3 n x (R - L))++a.drop R
theorem EG {ds:List V}{R x:Nat} (a:p<=R) (b:R<=ds.length):(filled ds p R n x).length=ds.length:=by
 unfold filled
 exact ae bp (ae bp (ae (Aq _) (ae (rW _ _ _) (ae j5 (ae c8 (jH fA 3 [_,_,_,_,_,_] [] a b jG a8 a8))))))
theorem EF (h:p < l.length):l.set p (.int w)=filled l p (p+1) n w:=by
 unfold filled
 refine ae (show p+1 - p=1 by exact ak fg 4 [_,_] [] a8) (ae (xF _) (ae List.set_eq_take_append_cons_drop (ae (if_pos h) ?_)))
 show _=l.take p++[V.int w]++l.drop (p+1)
 simp
theorem EE {M R y:Nat} (f:p < M) (c:M < R) (g:R<=l.length):filled (filled l p M n w) M R n y=l.take p++aE (j3 n w (M - p))++aE (j3 n y (R - M))++l.drop R:=by
 have b:(l.take p++aE (j3 n w (M - p))).length=M:=ae bp (ae (Aq _) (ae (rW _ _ _) (ae j5 (jH fA 4 [_,_,_,_,_,_] [] f c g jG a8))))
 have d:(filled l p M n w).take M=l.take p++aE (j3 n w (M - p)):=by
  unfold filled
  refine ae (List.take_append_of_le_length (by rw [b];exact aD _)) (ae (dK (by rw [b];exact aD _)) rfl)
 have e:(filled l p M n w).drop R=l.drop R:=by
  unfold filled
  refine ae List.drop_append (ae b (ae (gJ (by rw [b];exact b8 ‹_›)) (ae (cV _) (ae pd ?_))))
  congr 1;exact au fC 18 [_,_,_] [] c a8
 show (filled l p M n w).take M++_++(filled l p M n w).drop R=_
 refine ae d (ae e rfl)
theorem vf {a:List (Str×gp)}{k:gp} (S:List Nat) (h:(dT i.length).all (λn=>!(a.lookup (i.getD n "")==some k) || S.contains n)=true) (c:i[n]? =some x) (d:a.lookup x=some k):n∈S:=by
 have e:n < i.length:=(aL.mp c).1
 have q:=aS.1 h n (eJ.2 e)
 rw [ax,c] at q
 rw [show (some x:Option Str).getD ""=x from rfl,d] at q
 exact List.contains_iff_mem.1 ((vL.1 q).resolve_left (by rw [beq_self_eq_true];exact kT))
theorem Ui {i:Nat} (h:i∈[n,p,w]):i=n\/i=p\/i=w:=(aX.1 h).imp_right λh=>(aX.1 h).imp_right ai.1
theorem Ku {a b c d g:Option V} (i:Nat) (m:i∈[0,1,2,3,4,5,6]) (h:3<=i):([a,b,c,none,none,none,none,d,e,g]:Sg).getD i none=none:=by
 match i,m,h with
 | 3,_,_=>rfl
 | 4,_,_=>rfl
 | 5,_,_=>rfl
 | 6,_,_=>rfl
 | 0,_,h=>exact absurd h (by decide)
 | 1,_,h=>exact absurd h (by decide)
 | 2,_,h=>exact absurd h (by decide)
 | i+7,m,_=>exact absurd m (by simp)
theorem Hw {C:Cx}{fa l n:Nat} (I:Vf C fa l n re JK (lM cX dZ) "a_digits" (.ref l)) (hn:n<=10000) {B:Nat} (hB:B<=1000000):
  ∀(k x L R:Nat) (u:List V) (D:Nat) (A:Around) (s:Shared) (Y:Addr->Prop) (w:List Addr) (H:Hs) (ε:List Value) (Q E:Value->Shared->Prop),R - L=k->L < R->R<=u.length->u.length<=1000->H[D]? =some u->w[D]? =some l->x < 2^B->fD A (k+1)->Hp C Y s w H->
   Rs s.heap Y w [.int x,.int L,.int R] ε->f9 C Y s w (λv M=>v=.none/\M=H.set D (filled u L R n x)) Q->wpAny C.md A (call (.ref fa) ε) Q E s:=by
 refine o8 I.obj λfd yR qual doc pm UU ct t m=>mL m λh1 ω h3 Θ Ξ Φ h7 h8=>ah Θ λc1 Ψ=>af Ψ λa1 b1=>ah Ξ λc2 Ω=>af Ω λa2 b2=>ah Φ λc3 Zn=>af Zn λa3 b3=>?_
 subst ω
 have δ:∀a,¬C.tb a:=λa h=>by unfold Cx.tb at h;replace h:=(I.tabs)▸h;exact aC h
 intro k
 induction k using Nat.strongRecOn with
 | ind k ih=>
 intro x L R u D A s Y w H ε Q E hk β hR γ hH hl hx rm P r hp
 obtain ⟨k,rfl⟩:∃k',k=k'+1:=⟨k - 1,by exact eP ee 22 [_,_,_,_,_] [] hk β a8 a8⟩
 refine DC (N:=k+1) (lay:=cX) (ps:=["x","L","R"]) (args:=[.int x,.int L,.int R]) (rest:=[none,none,none,none,some (.ref D),some (.obj fa),some (.int n)]) I.env.ok rm P r (P.gd.base _ _ h1) rfl T5 rfl rfl rfl (h3.keeps P.gd.base)
  (λυ hv=>OE (by revert υ;exact ND λa=>ND λb=>ND λc=>SJ rfl)) rfl rfl (λi y F e2 Z=>?_) ?_ (λA' X α Qf E' K F' P' g' hfn ι=>?_) hp
 ·replace Z:re.names.lookup y=some .local:=Z
  exact Ku i (vf [0,1,2,3,4,5,6] (by decide +kernel) F Z) e2
 ·have kc:∀{c:Addr}{ov:Option Value},C.h₀.IsCell c ov->s.heap.IsCell c ov:=λq=>S9 q λo q=>⟨o,P.gd.base _ _ q.1,q.2⟩
  refine ⟨λi y F Z=>?_,λy hy=>?_,h8⟩
  ·replace Z:re.names.lookup y=some .free:=Z
   rcases Ui (vf [7,8,9] (by decide +kernel) F Z) with rfl | rfl | rfl
   ·cases aN F;exact ⟨c1,_,a1,kc b1,λv hv=>by cases hv;exact ⟨_,rfl,Internal.R.yg.mpr ⟨l,rfl,hl⟩⟩⟩
   ·cases aN F;exact ⟨c2,_,a2,kc b2,λv hv=>by cases hv;exact ⟨_,rfl,Internal.R.pz.mpr rfl⟩⟩
   ·cases aN F;exact ⟨c3,_,a3,kc b3,λv hv=>by cases hv;exact ⟨_,rfl,Internal.R.j2.mpr ⟨_,rfl⟩⟩⟩
  ·exact aG (h7 y hy) λov oc m=>af m λe d=>⟨Ry P e,δ _,ov,oc,P.gd.base _ _ e,d⟩
 ·have tb:fT C T0 (k+1):=LQ (ae I.lo (aD _)) I.env
  have tg:t0 C T0 (k+1):=So I.env
  have S:dZ=Kw++dZ.drop 5:=rfl
  have φ:mK re cX Kw=true:=by decide +kernel
  show wpAny _ A' (execs (lM cX dZ) α) Qf E' X
  refine ae S (ae (CF _ _ _) (ae (Au _ _ _) ?_))
  refine wpAny_bind (i8 tb tg Kw φ A' X Y w H _ α _ _ _ K F' P' (RF (fa:=fa) β hR γ hH hB hx hn) λfl g Ma s2 π H2 w2 hf F2 P2 g2=>?_)
  rcases w2 with ⟨F,rfl,rfl⟩ | ⟨F,rfl,χ,f,p,rfl⟩
  ·refine ah hf λrv m=>af m λj rr=>?_;subst j
   refine wpAny_pure (ι (some .none) _ Ma s2 π _ ⟨rfl,?_⟩ ⟨rv,rfl,rr⟩ F2 P2 g2)
   refine ae (EF (n:=n) (au fC 19 [_,_,_] [] hR F)) (ae F rfl)
  ·refine ae (show g=.next from hf) ?_
   have θ:=χ.symm
   subst θ
   refine ah g2.own λnew m=>af m λj O=>?_;subst j
   have ν:∀T,(w++T)[D]? =some l:=λT=>by refine ae (cE (aL.mp hl).1) ?_;exact hl
   have G:L < f:=eP ee 23 [_,_,_,_] [] β F p fM
   have J:f < R:=bI eS 4 [_,_,_,_] [] p G fM
   have ζ:gO re cX (.cv 8 [(.var 6 ⟨46,14,46,19⟩),(.var 1 ⟨46,21,46,22⟩),(.var 3 ⟨46,24,46,27⟩)] ⟨46,8,46,13⟩ ⟨46,8,46,28⟩)=true:=by decide +kernel
   have η:gO re cX (.cv 8 [(.var 5 ⟨47,14,47,19⟩),(.var 3 ⟨47,21,47,24⟩),(.var 2 ⟨47,26,47,27⟩)] ⟨47,8,47,13⟩ ⟨47,8,47,28⟩)=true:=by decide +kernel
   show wpAny _ A' (execs (lM cX [.ex (.cv 8 [(.var 6 ⟨46,14,46,19⟩),(.var 1 ⟨46,21,46,22⟩),(.var 3 ⟨46,24,46,27⟩)] ⟨46,8,46,13⟩ ⟨46,8,46,28⟩) ⟨46,8,46,28⟩,.ex (.cv 8 [(.var 5 ⟨47,14,47,19⟩),(.var 3 ⟨47,21,47,24⟩),(.var 2 ⟨47,26,47,27⟩)] ⟨47,8,47,13⟩ ⟨47,8,47,28⟩) ⟨47,8,47,28⟩]) α) _ _ s2
   refine ae (xo _) (ae (xo _) (ae (E8 _) (ae (iK _ _ _) ?_)))
   refine wpAny_bind (BY (cK:=λv M=>v=.none/\M=H.set D (filled u L f n (x%2^((f - L)*n)))) (W:=λvs M=>vs=[.int ((x%2^((f - L)*n):Nat):Int),.int L,.int f]/\M=H) tb tg ζ K F2 P2 rfl (P2.gd.base _ _ h1) rfl (Ry P2 h1) (δ _) ⟨rfl,rfl⟩ (λs3 ρ H3 vs ς Q3 w3 r3 P3 g3 Γ=>?_) λv rv s3 ρ H3 w3 r3 P3 g3=>?_)
   ·refine af w3 λj z=>?_;subst j;subst z
    refine ah g3.own λξ m=>af m λj O=>?_;subst j
    exact ih (f - L) (by exact jH fA 5 [_,_,_,_,_,_,_] [] hk p a8 a8 fM) (x%2^((f - L)*n)) L f u D A' s3 Y _ _ ς Q3 _ rfl G (by exact au bq 18 [_,_,_] [] hR J) γ hH (by exact ae (cy _ _ _) (ν _)) (bL (Nat.mod_le _ _) hx) (K.mono (by exact jH fA 6 [_,_,_,_,_,_,_] [] hk p a8 a8 fM)) P3 r3 Γ
   ·refine af w3 λj z=>?_;subst j;subst z
    refine ae (iK _ _ _) ?_
    have F3:=F2.grow g3 P2.bM
    have ψ:(H.set D (filled u L f n (x%2^((f - L)*n))))[D]? =some (filled u L f n (x%2^((f - L)*n))):=gH (aL.mp hH).1
    have μ:=EG (ds:=u) (n:=n) (x:=x%2^((f - L)*n)) (b8 G) (show f<=u.length by exact au bq 18 [_,_,_] [] hR J)
    refine wpAny_bind (BY (cK:=λv M=>v=.none/\M=(H.set D (filled u L f n (x%2^((f - L)*n)))).set D (filled (filled u L f n (x%2^((f - L)*n))) f R n (x / 2^((f - L)*n)))) (W:=λvs M=>vs=[.int ((x / 2^((f - L)*n):Nat):Int),.int f,.int R]/\M=H.set D (filled u L f n (x%2^((f - L)*n)))) tb tg η K F3 P3 rfl (P3.gd.base _ _ h1) rfl (Ry P3 h1) (δ _) ⟨rfl,rfl⟩ (λs4 U H4 vs τ Q4 w4 r4 P4 g4 Δ=>?_) λv rv s4 U H4 w4 r4 P4 g4=>?_)
    ·refine af w4 λj z=>?_;subst j;subst z
     refine ah g3.own λξ m=>af m λj O=>?_;subst j
     refine ah g4.own λZQ m=>af m λj O=>?_;subst j
     exact ih (R - f) (qP kj 4 [_,_,_,_,_,_,_] [] hk F p a8 a8 fM) (x / 2^((f - L)*n)) f R _ D A' s4 Y _ _ τ Q4 _ rfl J (ae μ hR) (by exact ae μ γ) ψ (by refine ae (cy _ _ _) (ae (cy _ _ _) ?_);exact ν _) (bL (Sz _ _) hx) (K.mono (qP kj 5 [_,_,_,_,_,_,_] [] hk F p a8 a8 fM)) P4 r4 Δ
    ·refine af w4 λj z=>?_;subst j;subst z
     refine Ya (ι none _ _ s4 U _ ⟨rfl,?_⟩ rfl (F3.grow g4 P3.bM) P4 (g2.trans (g3.wide.trans g4.wide)))
     refine ae (List.set_set _) (ae (EE G J hR) (ae (cy (u.take L) _ _) (bQ (Hv _ _) ?_)))
     have:=yN n (R - f) (au bq 19 [_,_,_] [] J a8) (f - L) x (au bq 19 [_,_,_] [] G a8)
     replace this:=((show f - L+(R - f)=R - L by exact jH fA 7 [_,_,_,_,_,_,_] [] p a8 a8 a8 fM))▸this
     refine bQ this ?_;rfl
structure X4 (C:Cx) (a:Addr) (fd:iD) (lay:List Str) (body:List Stmt) (ps:List Str):Prop where
 obj:∃o,C.h₀.get? a=some o/\o.data=.func fd
 glob:fd.globals=bX
 blt:fd.builtins=gL
 tW:fd.closure=[]
 co:fd.scope.isCoroutine=false
 gen:fd.scope.isGenerator=false
 code:C.h₀.CodeRec fd.code fd.qualname
 body:fd.body=.stmts body
 bind:∀(s:Shared) (vals:List Value),vals.length=ps.length->(∀b o,C.h₀.get? b=some o->s.heap.get? b=some o)->Mj s fd ⟨vals,[]⟩ (ps.zip vals)
 G1:tu fd.scope lay ps=true
theorem Dp {N:Nat}{k:iD}{u:List Stmt}{J:List Str}{I:List V->(V->Prop)->Prop} (cx:C.Ok) (f:X4 C D k i u J) (hl:∀a d,I a d->a.length=J.length)
  (hS:∀A s m L a d (Qf:Flow->Shared->Prop) (E:Value->Shared->Prop),fD A N->Fm C m s [] (dF k L D) k.scope i (a.map some++bk (i.length - J.length) none)->Hp C m s [] []->I a d->
   wL C m s [] (dF k L D) k.scope i (λZ O H=>match Z with | none=>d .none | some v=>∃X,fz 8 H v=some X/\d X) Qf->wpAny C.md A (execs u (dF k L D)) Qf E s):pa C (N+1) (.ref D) I:=by
 intro A s m a p d Q E Y P r z hp
 have w:=hl _ _ z
 refine ah f.obj λo c=>af c λho hd=>?_
 have α:p.length=J.length:=by refine ae r.length (ae w rfl)
 have ok:=f.G1
 unfold tu at ok
 simp only [az] at ok
 refine f0 ok λη θ ι ub κ JP δ=>?_
 have l:k.scope.kind=.function:=of_decide_eq_true δ
 have G:∀x,k.scope.names.lookup x=some .cell->((kD (s.heap.objs.size+1) k.scope.names []).lookup x).isSome=true:=λx hx=>by
  have hm:=jF k.scope.names (s.heap.objs.size+1) [] x (.inl (b7 hx))
  refine ah (cH.mp hm) λy c=>af c λhy j=>?_;subst j
  refine ae (kh (gY _ _ _ JP (by exact ef) (by exact λO h=>nomatch h)) hy) ?_;rfl
 refine wN (S8 (binds:=J.zip p) (bL (gT _ _) Y.dp) (P.gd.base _ _ ho) hd (cx.lim.keeps P.gd.base) (f.code.keeps P.gd.base) f.body (f.bind s p α P.gd.base) f.tW
  (λx hx=>?_) (λB x ht=>?_) f.co f.gen l)
 ·have β:x.1∈J:=pl J p (b9 (f:=(·.1)) hx)
  have:=aS.mp ub _ β
  replace this:=(dz _ _)▸this
  rcases this with q | q
  ·exact .inl (eq_of_beq q)
  ·exact .inr ⟨by exact eq_of_beq q,G _ (eq_of_beq q)⟩
 ·have hL:(dF k s.heap.objs.size D).locals=s.heap.objs.size:=rfl
  have hsz:s.heap.objs.size < B.heap.objs.size:=bj x.toInCall.ns λo' O O c=>af c λe O=>(hL▸bF e)
  have hk:=x.toInCall.keep
  have γ:=x.toInCall.same
  refine af (rU f.glob f.blt f.G1 w P r x ht) λF M=>?_
  have ε:fD (A.deeper (dF k s.heap.objs.size D)) N:=by
   have:=Y.dp
   have:=Y.un
   exact ⟨Y.hd,by show A.depth+1+N < _;exact ak aK 19 [_,_,_] [] ‹_›,by show A.units+3+8*N+64 < _;exact ak aK 20 [_,_,_] [] this⟩
  refine hS _ B m _ _ _ _ _ ε F M z λZ g μ W ζ H2 w2 hf F2 K S=>?_
  have U:∀b o,s.heap.get? b=some o->¬C.tb b->W.heap.get? b=some o:=λb o e hb=>by
   refine S.keep b o (hk b o e) aC (λq=>?_) hb
   have T:=bF e
   rcases aX.mp q with rfl | q
   ·exact ay _ T
   ·refine ah (cH.mp q) λy c=>af c λhy j=>?_;subst j
    exact ay _ (jh T (x.above y.1 y.2 (eQ.mp hy).1))
  refine aG γ λhh tk j=>?_;subst j
  have gg:c4 C m [] s [] W []:=⟨⟨λb o e O O hb=>U b o e hb,⟨[],rfl,by exact nofun⟩,ar (b8 hsz) S.size⟩,S.os,S.gens,S.bare⟩
  have P3:Hp C m W [] []:=⟨K.gd,rfl,ef,λn D vs e=>by simp at e,by exact nofun,K.f4,K.bM,K.tk⟩
  cases Z with
  | none=>
   exact ae (show g=.next from hf) (hp .none .none W w2 (R.tO.mpr rfl) P3 gg)
  | some v=>
   refine ah hf λrv c=>af c λj rr=>?_;subst j
   refine ah w2 λX c=>af c λe q=>?_
   exact hp X rv W q (KL K 8 v X rv e rr) P3 gg
noncomputable def EP:Stmt:=.FunctionDef "inner" JK (lM cX dZ) [] none [] re none "inner" ⟨38,4,47,28⟩
noncomputable def CY:MS:=s9.getD 0 (.C2 ⟨0,0,0,0⟩)
noncomputable def Lm:ME:=.cv 3 [(.var 0 ⟨49,14,49,15⟩),(.cst (.int (0)) 0 ⟨49,17,49,18⟩),(.blt ("len":Str) [(.var 2 ⟨49,24,49,32⟩)] ⟨49,20,49,23⟩ ⟨49,20,49,33⟩)] ⟨49,8,49,13⟩ ⟨49,8,49,34⟩
noncomputable def IU:MT:=.val (.var 0 ⟨48,7,48,8⟩)
noncomputable def Jy:MS:=.ret (.var 2 ⟨50,11,50,19⟩) ⟨50,4,50,19⟩
noncomputable def B1:List Stmt:=[toS cC CY,EP,.If (nv cC IU) [toS cC (.ex Lm ⟨49,8,49,34⟩)] [] ⟨48,4,49,34⟩,toS cC Jy]
structure Y3 (K:Frag) (fd:iD) (lay:List Str) (body:List Stmt) (ps:List Str):Prop where
 glob:fd.globals=bX
 blt:fd.builtins=gL
 tW:fd.closure=[]
 co:fd.scope.isCoroutine=false
 gen:fd.scope.isGenerator=false
 body:fd.body=.stmts body
 G1:tu fd.scope lay ps=true
 code:codeIn K fd.code fd.qualname=true
 bind:∀vals:List Value,vals.length=ps.length->∀S,peek K S (Y9 fd ⟨vals,[]⟩)=some (ps.zip vals)
def KI (K:Frag):Prop:=nsIn K bX "_int2digits"=some (some (.ref 65))/\∃o a,K.lookup 65=some o/\o.data=.func a/\Y3 K a cC B1 ["a","n"]/\a.code=.ref 64/\a.qualname="_int2digits"/\
  (yT a.scope cC CY && gO a.scope cC Lm && xb a.scope cC IU && yT a.scope cC Jy && fJ a.scope cC 3 && (a.scope.names.lookup ("n":Str)==some .cell) && (a.scope.names.lookup ("a_digits":Str)==some .cell) && (a.scope.names.lookup ("inner":Str)==some .cell))=true
theorem Kv {l:Env}{sc:Scope}{M:List Str}{σ:Sg}{a:Scope}{g:Cj}{H:List Stmt}{j:Str}{W pm v S:Value}{t:Tok}{E:iD}
  (e:qQ C zJ) (K:C.lo=1) (F:Fm C d s c l sc M σ) (P:Hp C d s c J) (ho:s.heap.get? p=some {cls:=.type "function",data:=.func E}) (i:p∉c)
  (z:E=fnX "inner" j g H a (tW l.cells a.names []) .none .none f pm none v S) (I:s.heap.CodeRec E.code j)
  (h:∀y∈a.names,y.2=.free->∃N,l.cells.lookup y.1=some N) (L:iJ ((a.names.filter λy=>y.2==.free).map (·.1))=true)
  (m1:(x,db)∈a.names) (m2:(("inner":Str),db)∈a.names) (m3:(("n":Str),db)∈a.names)
  (Z:∃N,l.cells.lookup x=some N/\s.heap.IsCell N (some W)) (h2:∃N,l.cells.lookup ("inner":Str)=some N/\s.heap.IsCell N (some (.ref p))) (h3:∃N,l.cells.lookup ("n":Str)=some N/\s.heap.IsCell N (some (.int n t))):
  Vf (C.at s.heap c) p w n a g H x W:=by
 have m:∀{Q:Str}{N:Addr}{A:Option Value},l.cells.lookup Q=some N->s.heap.IsCell N A->(C.at s.heap c).h₀.IsCell N A:=λ{Q N A} G ⟨o,u,D⟩=>⟨o,wS _ u (F.qg (Q,N) (b7 G)).1,D⟩
 refine ⟨rfl,K,Sd e P,E,tW l.cells a.names [],j,f,pm,v,S,t,wS _ ho i,z,?_,?_,?_,?_,λy hy=>?_,AA h L F.apart⟩
 ·subst z
  refine gu I λN o vs tk b=>cu b λG u D X=>?_
  refine ⟨N,o,vs,tk,G,wS _ u λq=>?_,D,X⟩
  refine ah (eF.mp q) λk T=>?_
  have hl:k < J.length:=bQ P.len ((aL.mp T).1)
  obtain ⟨α,k',Y,_⟩:=P.lst k N J[k] T (by simp [hl])
  replace u:=(Y)▸u;cases u;exact nomatch D
 ·refine ah Z λN b=>af b λr B=>?_
  exact ⟨N,qe h m1 r,m r B⟩
 ·refine ah h2 λN b=>af b λr B=>?_
  exact ⟨N,qe h m2 r,m r B⟩
 ·refine ah h3 λN b=>af b λr B=>?_
  exact ⟨N,qe h m3 r,m r B⟩
 ·have U:=qd a.names [] h nofun y hy
  exact bh (F.qg (y.1,y.2) (b7 U)) λO O O O b=>ah b λA hc=>⟨A,m U hc⟩
noncomputable def jS (a:Nat):Nat:=aI (a:Int)
noncomputable def gE (a n:Nat):Nat:=(jS a+n - 1) / n
def Q8 (c:List V) (b:V->Prop):Prop:=∃a n:Nat,c=[.int a,.int n]/\1<=a/\1<=n/\n<=10000/\jS a<=1000000/\gE a n<=30/\b (.lst (aE (j3 n a (gE a n))))
theorem Rt:uW 36 "bit_length" (.int b) [] J B=B (.int (aI b)) J:=rfl
theorem TN (b:1<=n) (i:n<=10000) (h:gE p n<=1000):
  wpS T0 CY [some (.int p),some (.int n),none,none] [] λg c d=>g=none/\c=[some (.int p),some (.int n),some (.ref 0),none]/\d=[bk (gE p n) (.int 0)]:=by
 dsimp only [CY,s9,rq,c6,bU,bt,aU,bK,jb,d4,cD,bW,ip,iq,cs,bV,dB,Rt,ky,kx,y6,fU,f6,w9]
 refine ⟨rfl,by exact ak aK 8 [_] [] b,?_,?_⟩
 ·refine ae (aM _) ?_
  refine am (uh (ak ce 10 [_] [] b)|>.mpr (show n < 2^14 by exact ak fj 14 [_] [] i)) (by decide)
 ·have e:(((jS p:Nat):Int)+n - 1).fdiv n=((gE p n:Nat):Int):=by
   unfold gE
   refine ae (cY _ (aO _)) ?_
   have:((jS p:Nat):Int)+n - 1=((jS p+n - 1:Nat):Int):=au eZ 5 [_,_,_] [] b a8
   refine ae this ?_;norm_cast
  have f:(((aI (p:Int):Nat):Int)+n - 1).fdiv n=((gE p n:Nat):Int):=e
  refine ae f ?_
  refine ⟨aO _,by exact_mod_cast h,?_⟩
  exact ae (aZ _) ⟨rfl,rfl,rfl⟩
theorem Ph:sI "len" [.ref n] J g=((J.getD n []).length<=1000/\g (.int ((J.getD n []).length:Nat))):=LC
theorem FT:∀(k:Nat) (H:Hs) (c:List Nat),vM (fz (k+1) H) (aE c)=some (aE c)
 | k,H,[]=>rfl
 | k,H,d::r=>by
  show (match fz (k+1) H (.int d),vM (fz (k+1) H) (aE r) with | some a,some b=>some (a::b) | _,_=>none)=_
  refine ae (FT k H r) ?_;rfl
theorem RG (B:DO C) (k:KI C.K):hO C "_int2digits" 41 (λvs r=>∃a n:Nat,vs=[.int a,.int n]/\1<=a/\1<=n/\n<=10000/\jS a<=1000000/\gE a n<=30/\r=.lst (aE (j3 n a (gE a n)))):=by
 refine af k λk0 d=>aG d λo fd ρ=>d7 ρ λk1 k2 fb fc fq ck=>?_
 have Δ:∀a o,C.K.lookup a=some o->C.h₀.get? a=some o:=λa o e=>B.env.ok.FN _ _ e
 have fB:X4 C 65 fd cC B1 ["a","n"]:=⟨⟨o,Δ _ _ k1,k2⟩,fb.glob,fb.blt,fb.tW,fb.co,fb.gen,GA B.env.ok.FN fb.code,fb.body,λs Ω hv hk=>PP (K:=C.K) (λa o e=>hk _ _ (B.env.ok.FN _ _ e)) (λS=>fb.bind Ω hv S),fb.G1⟩
 simp only [az] at ck
 refine f8 ck λYX YW YV Xh YU γ δ Y=>?_
 replace γ:fd.scope.names.lookup ("n":Str)=some .cell:=eq_of_beq γ
 replace δ:fd.scope.names.lookup ("a_digits":Str)=some .cell:=eq_of_beq δ
 replace Y:fd.scope.names.lookup ("inner":Str)=some .cell:=eq_of_beq Y
 refine ⟨65,o,fd,B.mg _ _ k0,Δ _ _ k1,k2,?_⟩
 have Θ:pa C 41 (.ref 65) Q8:=by
  refine Dp (N:=40) B.env.ok fB (λX U h=>by refine aG h λa n d=>af d λj O=>?_;subst j;rfl) λA s av L X U Qf E rm F P Z ς=>?_
  refine aG Z λa n d=>fZ d λj ha ZZ Γ hb G hq=>?_;subst j
  have tb:fT C T0 40:=LQ (ae B.lo (aD _)) B.env
  have tg:t0 C T0 40:=So B.env
  have ζ:∀{f:Addr},s.heap.objs.size<=f->¬C.tb f:=λh q=>ay _ (am (P.f4 _ (P.bM _ q)) h)
  have hk1:1<=gE a n:=by
   unfold gE
   have Z6:1<=jS a:=by
    unfold jS aI
    have:((a:Int)==0)=false:=ae (propext beq_eq_false_iff_ne) (ak aK 8 [_] [] ha)
    refine ae this ?_;simp
   exact (Nat.le_div_iff_mul_le (by assumption)).mpr (au eZ 6 [_,_,_] [] Z6 a8)
  generalize J:dF fd L 65=p at F ς ⊢
  have θ:p.code=.ref 64:=bQ J fc
  have κ:p.globals=bX:=bQ J fb.glob
  have π:Gy p "inner" "inner"="_int2digits.<locals>.inner":=by
   have μ:p.kindOf ("inner":Str)=some .cell:=bQ J Y
   unfold Gy
   refine ae μ (ae (if_neg (by decide)) ?_)
   have:p.qual=fd.qualname++".<locals>.":=by refine bQ J ?_;rfl
   refine ae this (ae fq ?_)
   decide +kernel
  have WZ:Sr C p 64 60:=by
   exact aG B.bm λbm ob d=>d7 d λb1 b2 b3 b4 b5 b6=>⟨θ,by refine ae B.tabs ?_;exact aB,B.hd (64,60) (by refine ae B.tabs ?_;exact aB),B.VN (64,60) (by refine ae B.tabs ?_;exact aB),κ,bm,ob,b1,b2,Py B b3 b6,b3,b4,b5,b6⟩
  unfold B1
  refine ae (iK _ _ _) ?_
  refine wpAny_bind (D8 tb tg CY YX A s av [] [] _ p _ _ _ rm F P (TN ZZ Γ (ak aK 3 [_] [] G)) λfl g YC s1 Ξ H1 w1 hf F1 P1 g1=>?_)
  refine aA w1 λj u Zk=>?_;subst j;subst u;subst Zk
  refine ae (show g=.next from hf) ?_
  obtain ⟨l,rfl⟩:∃l,Ξ=[l]:=i6.mp (P1.len.trans rfl)
  show wpAny _ A (execs (EP::_) p) _ _ _
  refine ae (iK _ _ _) ?_
  have ω:∀y∈re.names,y.2=.free->∃c,p.cells.lookup y.1=some c:=λy hy WT=>by
   have hc:∀(i:Nat) x,cC[i]? =some x->fd.scope.names.lookup x=some .cell->∃c,p.cells.lookup x=some c:=λi x e1 z=>by
    exact aG (F1.cell i x e1 (.inl z)) λc ov d=>af d λe O=>⟨c,e⟩
   simp [re] at hy
   rcases hy with rfl | rfl | rfl | rfl | rfl | rfl | rfl | rfl | rfl | rfl
   all_goals first
    | (cases WT;done)
    | exact hc 2 _ rfl δ
    | exact hc 3 _ rfl Y
    | exact hc 1 _ rfl γ
  unfold EP
  refine wpAny_bind (nestDef_K rfl rfl (by rfl) ?_)
  refine ae π ?_
  refine Pb B.env.ok F1 P1 WZ (nT ω) (by refine ae B.tq ?_;rfl) ?_
  intro s2 f ε F2 P2 g2 ι WY χ τ
  refine gu χ λdoc pm UU ct W2=>?_
  have M:s.heap.objs.size<=f:=ar g1.size ι
  have D:f∉[l]:=λq=>ay _ (am (P1.lt q) ι)
  show wpAny _ A (xf p (nm cC 3) (.ref f)) _ E s2
  refine F2.store P2 (v:=.obj f) (ex:=ic p) (by simp [ic]) (λh1 c h2=>F2.jN h1 h2) YU (R.pz.mpr rfl) λs3 F3 P3 g3=>?_
  have gA:=(g1.trans g2.wide).trans g3
  have W1:f∉ic p:=λq=>ay _ (am (F1.Dr q) ι)
  have WX:s3.heap.get? f=some {cls:=.type "function",data:=.func ε}:=g3.keep f _ WY D W1 (ζ M)
  have υ:s3.heap.CodeRec ε.code "_int2digits.<locals>.inner":=by
   refine gu τ λc o vs tk d=>cu d λe1 z e3 e4=>?_
   refine ⟨c,o,vs,tk,e1,g3.keep c o z (λq=>?_) (λq=>?_) (λq=>?_),e3,e4⟩
   ·refine ah (eF.mp q) λk hk=>?_
    have hl:k < [bk (gE a n) (V.int 0)].length:=bQ P2.len ((aL.mp hk).1)
    refine aG (P2.lst k c _ hk (aT hl)) λVA k' d=>af d λe5 O=>?_
    replace z:=(e5)▸z;cases z;exact nomatch e3
   ·exact (F2.KZ c q o z).2 vs _ tk e3 e4
   ·refine ah (cH.mp q) λq' d=>af d λξ j=>?_;subst j
    refine ah (P2.gd.tabs q' ξ) λps d=>aA d λe5 e6 O=>?_
    replace z:=(e5)▸z;cases z
    exact ny e6 vs _ tk e3 e4
  show wpAny _ A (execs (.If (nv cC IU) [toS cC (.ex Lm ⟨49,8,49,34⟩)] [] ⟨48,4,49,34⟩::[toS cC Jy]) p) _ _ s3
  refine ae (iK _ _ _) (ae (Vq _ _ _ _ _) ?_)
  refine wpAny_bind (wpAny_bind (er (wpAny_bind (nz tb tg IU fd.scope cC YV A s3 av [l] _ _ p (λb H=>b=true/\H=[bk (gE a n) (V.int 0)]) _ E rm F3 P3 ?_ λb s4 Φ H4 w4 P4 g4=>?_))))
  ·unfold IU
   simp only [lN,aU,CH,c6,kS,D0]
   refine ⟨?_,trivial⟩
   exact ae (propext bne_iff_ne) (ak aK 8 [_] [] ha)
  refine af w4 λj u=>?_;subst j;subst u
  obtain ⟨l4,rfl⟩:∃l,Φ=[l]:=i6.mp (P4.len.trans rfl)
  refine ah g4.own λnew d=>af d λη O=>?_
  obtain rfl:l=l4:=by
   cases new with
   | nil=>simpa using η.symm
   | cons _ _=>simp at η
  have F4:=F3.grow g4 P3.bM
  refine ae (if_pos rfl) (ae (iK _ _ _) ?_)
  have ν:s4.heap.get? f=some {cls:=.type "function",data:=.func ε}:=g4.keep f _ WX D aC (ζ M)
  refine wpAny_bind (BY (cK:=λv H'=>v=.none/\H'=[aE (j3 n a (gE a n))]) (W:=λvs H'=>vs=[.int a,.int 0,.int (gE a n)]/\H'=[bk (gE a n) (V.int 0)]) tb tg YW rm F4 P4 rfl ν rfl D (ζ M) ?_ (λs5 α H5 vs Ψ Q5 w5 r5 P5 g5 WV=>?_) λv rv s5 α H5 w5 r5 P5 g5=>?_)
  ·simp only [cD,cL,bt,aU,d5,ir,ea,bV,c6,dB,kS,L4]
   refine ⟨rfl,?_⟩
   refine ae Ph ?_
   show (bk (gE a n) (V.int 0)).length<=1000/\_
   rw [eG]
   exact ⟨by exact ak aK 3 [_] [] G,by show [V.int a,V.int 0,V.int ((bk (gE a n) (V.int 0)).length:Nat)]=_/\_;refine ae eG ?_;constructor<;>trivial⟩
  ·refine af w5 λj u=>?_;subst j;subst u
   obtain ⟨l5,rfl⟩:∃l,α=[l]:=i6.mp (P5.len.trans rfl)
   have F5:=F4.grow g5 P4.bM
   have φ:s5.heap.CodeRec ε.code "_int2digits.<locals>.inner":=by
    refine gu υ λc o vs tk d=>cu d λe1 z e3 e4=>?_
    have nl:∀{s':Shared}{o':Addr},Hp C av s' [o'] [bk (gE a n) (V.int 0)]->s'.heap.get? c=some o->c∉[o']:=λ{s' o'} P' T q=>by
     refine aG (P'.lst 0 c _ (by simpa using (ai.mp q).symm) rfl) λVA k' d=>af d λe5 O=>?_
     replace T:=(e5)▸T;cases T;exact nomatch e3
    have nt:¬C.tb c:=λq=>by
     refine ah (cH.mp q) λq' d=>af d λξ j=>?_;subst j
     refine ah (P3.gd.tabs q' ξ) λps d=>aA d λe5 e6 O=>?_
     replace z:=(e5)▸z;cases z
     exact ny e6 vs _ tk e3 e4
    have T:=g4.keep c o z (nl P3 z) aC nt
    exact ⟨c,o,vs,tk,e1,g5.keep c o T (nl P4 T) aC nt,e3,e4⟩
   have WW:=g5.keep f _ ν D aC (ζ M)
   have ψ:f∉[l5]:=g5.rD D ν
   have cl:∀{i:Nat}{x:Str}{v:V}{rv:Value},cC[i]? =some x->fd.scope.names.lookup x=some .cell->(([some (V.int a),some (V.int n),some (V.ref 0),none]:Sg).set 3 (some (V.obj f))).getD i none=some v->(∀w,R s5.heap av [l5] v w->w=rv)->∃c,p.cells.lookup x=some c/\s5.heap.IsCell c (some rv):=λ{i x v rv} e1 z e3 e4=>by
    refine aG (F5.cell i x e1 (.inl z)) λc ov d=>aA d λq1 q2 q3=>?_
    refine ah (q3 v e3) λZy d=>af d λj q4=>?_;subst j
    replace q2:=(e4 Zy q4)▸q2
    exact ⟨c,q1,q2⟩
   refine aG (F5.cell 1 "n" rfl (.inl γ)) λcn ZL d=>aA d λWH WG WF=>?_
   refine ah (WF (.int n) rfl) λZx d=>af d λj WE=>?_;subst j
   refine ah (R.j2.mp WE) λtn j=>?_;subst j
   have I:Vf (C.at s5.heap [l5]) f l5 n re JK (lM cX dZ) "a_digits" (.ref l5):=
    Kv B.env B.lo F5 P5 WW ψ W2 φ ω (by decide +kernel) (by decide +kernel) (by decide +kernel) (by decide +kernel)
     (cl (i:=2) (v:=.ref 0) rfl δ rfl λw hw=>by refine ah (R.yg.mp hw) λa' d=>af d λj e=>?_;subst j;cases e;rfl) (cl (i:=3) (v:=.obj f) rfl Y rfl λw hw=>R.pz.mp hw) ⟨cn,WH,WG⟩
   refine Hw I Γ (B:=jS a) hb (gE a n) a 0 (gE a n) (bk (gE a n) (.int 0)) 0 A s5 av [l5] _ Ψ Q5 _ (ak fj 15 [_,_] [] a8) (by assumption) (ae eG (aD _)) (by exact ae eG (ak aK 3 [_] [] G)) rfl rfl ?_ (rm.mono (ak ce 11 [_] [] G)) (PD P5) r5 λv rv s6 β H6 w6 r6 P6 g6=>?_
   ·have:=(gn (m:=jS a) (x:=(a:Int))).mp (aD _)
    exact this
   ·refine af (Gp P5 P6 g6) λP7 g7=>?_
    refine WV v rv s6 β H6 ⟨w6.1,?_⟩ r6 P7 g7
    refine ae (w6.2) ?_
    show [filled _ 0 _ n a]=_
    unfold filled
    rw [t6,cV,sA,gJ (ae eG (aD _)),bw]
  ·refine af w5 λj u=>?_;subst j;subst u
   have F5:=F4.grow g5 P4.bM
   refine Ya ?_
   refine i8 tb tg [Jy] (Xe Xh) A s5 av α _ _ p (λfl Ma H=>fl=some (.ref 0)/\H=[aE (j3 n a (gE a n))]) _ E rm F5 P5 ?_ λfl g Ma s6 β H6 w6 Z2 F6 P6 g6=>?_
   ·unfold Jy
    simp only [jj,eH,fH,aU,c6,dB,kS,L4]
    constructor<;>trivial
   ·refine af w6 λj u=>?_;subst j;subst u
    refine ς (some (.ref 0)) _ Ma s6 β _ ⟨.lst (aE (j3 n a (gE a n))),?_,hq⟩ Z2 F6 P6 (gA.trans ((g4.wide.trans g5.wide).trans g6))
    show (vM (fz 7 _) (aE (j3 n a (gE a n)))).map V.lst=_
    refine ae (FT _ _ _) ?_;rfl
 intro A s av X px U Q E rm P r Z hp
 refine af Z λO d=>ah d λrr ρ=>af ρ λZp hq=>aG Zp λa n Zo=>fZ Zo λh1 h2 h3 h4 h5 h6 h7=>?_
 exact Θ A s av X px U Q E rm P r ⟨a,n,h1,h2,h3,h4,h5,h6,h7▸hq⟩ hp
noncomputable def j1 (n:Nat):List Int->Int
 | []=>0
 | d::r=>d+j1 n r*2^n
section
set_option autoImplicit true
theorem VE (n':Nat):j1 n' []=(0):=rfl
theorem uo (n':Nat):j1 n' (d'::r')=(d'+j1 n' r'*2^n'):=rfl
end
theorem Cz (n:Nat):∀(a b:List Int),j1 n (a++b)=j1 n a+j1 n b*2^(a.length*n)
 | [],b=>by simp [j1]
 | d::a,b=>by
  exact ae dA (ae (uo _) (ae (uo _) (ae (Cz n a b) (ae c9 (ae (dw _ _ _) (ae (ci _ _ _) (bQ (i7 _ _ _) (ae (show a.length*n+n=(a.length+1)*n by rw [ql];exact bA fm 12 [_,_] []) (bA fm 13 [] [_,_,_])))))))))
theorem vR {n D:Nat}:∀(l:List Int),(∀d∈l,d.natAbs<=2^D)->(j1 n l).natAbs<=2^(D+l.length*(n+1))
 | [],_=>by show 0<=_;exact eB _
 | d::r,h=>by
  have g:=h d aB
  have i:=vR (n:=n) r λx j=>h x (aP _ j)
  have a:(j1 n r*2^n).natAbs=(j1 n r).natAbs*2^n:=by
   refine ae (cG _ _) (ae (g0 _ _) ?_);rfl
  have b:(j1 n (d::r)).natAbs<=d.natAbs+(j1 n r).natAbs*2^n:=by
   exact ae (uo _) (bQ a (Int.natAbs_add_le _ _))
  have c:(j1 n r).natAbs*2^n<=2^(D+r.length*(n+1)+n):=by
   exact ae (du 2 _ n) (bC _ i)
  have e:2^D<=2^(D+r.length*(n+1)+n):=dI (by decide) (bA fm 14 [_,_,_] [])
  have f:2^(D+(d::r).length*(n+1))=2*2^(D+r.length*(n+1)+n):=by
   refine ae c9 (ae (ql _ _ _) (ae (fN _) (ae (show D+(r.length*(n+1)+(n+1))=(D+r.length*(n+1)+n)+1 by exact bA fm 15 [_,_,_] []) (ae (Nat.pow_succ _ _) (ae (jg _ _) rfl)))))
  exact DJ vC 2 [_,_,_,_,_,_] [_,_] g b c e f rfl rfl
noncomputable def cM (a:List Int):List V:=a.map V.int
noncomputable def wH (b:Addr):V->Bool:=λv=>match v with | .obj a=>a==b | _=>false
def Gf (b:Addr) (n:Nat) (a:List Int) (k:Nat):LW:=λf c H Q=>f=.obj b/\∃L R:Nat,c=[.int L,.int R]/\L < R/\R<=a.length/\R - L<=k/\Q (.int (j1 n ((a.drop L).take (R - L)))) H
noncomputable def uC:Scope:={kind:=.function,names:=[("L",.local),("R",.local),("mid",.local),("shift",.local),("digits",.free),("inner",.free),("n",.free)],isGenerator:=false,isCoroutine:=false,more:=[]}
noncomputable def JL:Cj:={posonlyargs:=[],args:=[{arg:="L",annotation:=none,pos:=⟨53,14,53,15⟩},{arg:="R",annotation:=none,pos:=⟨53,17,53,18⟩}],vararg:=none,kwonlyargs:=[],kw_defaults:=[],kwarg:=none,defaults:=[]}
theorem T6:LY uC fF ["L","R"]:=⟨by decide +kernel,by decide +kernel,by decide +kernel,by decide +kernel,by decide +kernel,rfl,rfl,rfl⟩
theorem R7:mK uC fF eI=true:=by decide +kernel
theorem Bi (h:p < n):lV (p:Int) n=some p:=by
 have a:¬((p:Int) < 0):=bA bZ 6 [_] []
 unfold lV
 simp [a,h]
theorem G0 {M R:Nat} (b:n<=M) (c:M<=R) (d:R<=q.length):(q.drop n).take (R - n)=(q.drop n).take (M - n)++(q.drop M).take (R - M):=by
 refine ae (show R - n=(M - n)+(R - M) by exact jH fA 8 [_,_,_,_,_,_] [] b c a8 a8 a8) (ae List.take_add (ae pd ?_))
 congr 3
 exact au bq 5 [_,_,_] [] b a8
theorem R0 {R:Nat}{fa:Addr}{k:Nat} (c:p < R) (e:R<=q.length) (b:q.length<=1000) (a:R - p<=k+1) (i:n<=10000) (z:w<=100000) (hd:∀d∈q,d.natAbs<=2^w):
  de (pf zJ [] none (wH fa) (Gf fa n q k)) eI [some (.int p),some (.int R),none,none,some (.lst (cM q)),some (.obj fa),some (.int n)] [] λv O D=>v=some (.int (j1 n ((q.drop p).take (R - p))))/\D=[]:=by
 dsimp only [eI,mJ,mI,mH,mG,mF,jj,eH,bU,fH,dY,bt,aU,bK,m7,dx,fR,cD,cL,bW,eM,df,Ww,Qn,cs,bV,c6,dB,ky,kx,DF,AG,xe,fU,f6]
 refine ⟨_,rfl,λf=>?_,λf=>?_⟩
 ·have g:(p:Int)+1=R:=by exact of_decide_eq_true f
  have j:p < q.length:=au fC 20 [_,_,_] [] e g
  refine ⟨by unfold cM;refine ae (bv _) ?_;exact b,p,.int q[p],?_,?_,?_⟩
  ·unfold cM
   exact ae (bv _) (Bi j)
  ·unfold cM
   refine ae dc (ae (aT j) ?_);rfl
  ·refine ae (show R - p=1 by exact au fC 21 [_,_,_] [] g a8) (ae (c5 j) ?_)
   simp [j1,Zf]
 ·have g:¬(p:Int)+1=R:=by exact of_decide_eq_false f
  have s:((p:Int)+R).fdiv (2^(1:Int).toNat)=((p+R) / 2:Nat):=by
   refine ae (fdiv_pow _ _) ?_;show ((p:Int)+R) / 2^1=_
   exact au bq 20 [_,_,_] [_] fM pJ
  have h:p<=(p+R) / 2:=au bq 21 [_,_,_] [] c fM
  have u:((((p+R) / 2:Nat):Int) - p)*n=((((p+R) / 2 - p)*n:Nat):Int):=by push_cast [we h];rfl
  have o:((p+R) / 2 - p)*n<=10000000:=by
   have r:(p+R) / 2 - p<=1000:=eP ee 2 [_,_,_,_,_] [] e b a8 fM
   exact iN r i
  simp only [s,u]
  refine ⟨by decide,?_,?_⟩
  ·refine jJ (m:=64) (n:=64) ?_ ?_ (by decide)
   ·refine kv (au bq 22 [_,_,_] [] h fM) ?_
    have:(2:Int)^64=18446744073709551616:=by decide
    exact bI cO 4 [_,_,_,_] [] e b fM
   ·refine kv (aO _) ?_
    have:(2:Int)^64=18446744073709551616:=by decide
    exact ak ce 15 [_] [] i
  ·refine ⟨by simp [wH],rfl,(p+R) / 2,R,rfl,by exact au fC 22 [_,_,_] [] c fM,e,by exact jH fA 9 [_,_,_,_,_,_] [] a g a8 a8 fM,aO _,?_,?_⟩
   ·refine Jc (B:=w+1000*(n+1)+1) ?_ ?_ o
    ·refine gn.mpr ?_
     have L:=vR (n:=n) (D:=w) ((q.drop ((p+R) / 2)).take (R - (p+R) / 2)) λd l=>hd d (List.mem_of_mem_drop (List.mem_of_mem_take l))
     refine bL L (uf (by decide) ?_)
     have x:((q.drop ((p+R) / 2)).take (R - (p+R) / 2)).length<=1000:=ae j5 (ae c8 (jH fA 10 [_,_,_,_,_,_,_] [] b jG a8 a8 fM))
     have y:=bC (n+1) x
     exact ak fg 5 [_,_,_] [] y
    ·have:=gw 1000 (show n+1<=10001 by exact ak fg 6 [_] [] i)
     exact au fC 23 [_,_] [] i z
   ·refine ⟨by simp [wH],rfl,p,(p+R) / 2,rfl,by exact bI eS 5 [_,_,_] [] c g fM,by exact bI eS 6 [_,_,_,_] [] e h fM,by exact eP jc 0 [_,_,_,_,_,_] [] a a8 a8 fM,?_,rfl⟩
    refine ae (G0 h (au eX 0 [_,_,_] [] h fM) e) (ae (Cz _ _ _) (ae (aZ _) (ae j5 (ae c8 (ae (Sy (eP jc 1 [_,_,_,_,_,_] [] e a8 a8 fM)) (ae (xP _ _) rfl))))))
theorem Ey (c:List Int):(cM c).all V.uB=true:=aS.mpr λv e=>by
 refine ah (cH.mp e) λd a=>af a λO b=>?_;subst b;rfl
theorem Lk {a b d g:Option V} (i:Nat) (m:i∈[0,1,2,3]) (h:2<=i):([a,b,none,none,d,e,g]:Sg).getD i none=none:=by
 match i,m,h with
 | 2,_,_=>rfl
 | 3,_,_=>rfl
 | 0,_,h=>exact absurd h (by decide)
 | 1,_,h=>exact absurd h (by decide)
 | i+4,m,_=>exact absurd m (by simp)
set_option tactic.hygienic true in
theorem R1 {C:Cx}{m l n:Nat}{z:List Int}{D:Nat}{ws:Array Value}{kk:Nat}{h':Heap}{α:Addr->Prop}{S:List Addr} (I:Vf C m l n uC JL (lM fF eI) "digits" (.ref l)) (hl:C.h₀.get? l=some (listOf ws kk)) (hr:Rs h' α S (cM z) ws.toList)
  (ε:z.length<=1000) (hn:n<=10000) (hD:D<=100000) (hd:∀d∈z,d.natAbs<=2^D):∀k,LX C (k+1) (wH m) (Gf m n z k):=by
 refine o8 I.obj λfd ρ ς υ pm τ ct t j=>mL j λX ζ h3 p κ μ h7 h8=>ah p λc1 ν=>af ν λa1 b1=>ah κ λc2 ξ=>af ξ λa2 b2=>ah μ λc3 π=>af π λa3 b3=>?_
 subst ζ
 have M:∀a,¬C.tb a:=λa h=>by unfold Cx.tb at h;replace h:=(I.tabs)▸h;exact aC h
 have first:∀f,wH m f=true->∃a o fd,f=.obj a/\C.h₀.get? a=some o/\o.data=.func fd:=λf Y=>by
  cases f<;>first | (exact dk Y;done) | skip
  rename_i a
  have:a=m:=by simpa [wH] using Y
  subst this
  exact ⟨_,_,_,rfl,X,rfl⟩
 intro k
 induction k with
 | zero=>
  refine ⟨first,λf vs H K h=>?_⟩
  refine af h λO j=>aG j λL R p=>bh p λO X O h2 O=>?_
  exact cw (bI cO 17 [_,_,_] [] X h2 a8)
 | succ k ih=>
  refine ⟨first,λf vs H K h=>?_⟩
  refine af h λu j=>aG j λL R p=>bh p λw γ hR hk hq=>?_;subst u;subst w
  intro A s av η ra ι Q E rm P rf r hp
  refine ae (Internal.R.pz.mp rf) ?_
  have Pc:Hp C (λO=>False) s [] []:=P.callee (λO h=>h.elim) (λa h=>M a h)
  have rc:Rs s.heap (λO=>False) [] [.int L,.int R] ι:=vE (by rfl) r
  have tb:fT C (pf zJ [] none (wH m) (Gf m n z k)) (k+1):=BF (ae I.lo (aD _)) I.env (λx n sp h=>by exact bN h) ih
  have tg:t0 C (pf zJ [] none (wH m) (Gf m n z k)) (k+1):=J3 I.env
  refine DC (N:=k+1) (lay:=fF) (ps:=["L","R"]) (args:=[.int L,.int R]) (rest:=[none,none,some (.lst (cM z)),some (.obj m),some (.int n)]) (cK:=λv H'=>v=.int (j1 n ((z.drop L).take (R - L)))/\H'=[]) I.env.ok rm Pc rc (P.gd.base _ _ X) rfl T6 rfl rfl rfl (h3.keeps P.gd.base)
   (λW G=>OE (by revert W;exact ND λa=>ND λb=>SJ rfl)) rfl rfl (λi y F e2 B=>?_) ?_ (λA' U β Qf E' θ F' P' g' φ δ=>?_) (λv rv s2 T H2 w2 r2 J g2=>?_)
  ·replace B:uC.names.lookup y=some .local:=B
   exact Lk i (vf [0,1,2,3] (by decide +kernel) F B) e2
  ·have kc:∀{c:Addr}{Z:Option Value},C.h₀.IsCell c Z->s.heap.IsCell c Z:=λq=>S9 q λo q=>⟨o,P.gd.base _ _ q.1,q.2⟩
   refine ⟨λi y F B=>?_,λy hy=>?_,h8⟩
   ·replace B:uC.names.lookup y=some .free:=B
    rcases Ui (vf [4,5,6] (by decide +kernel) F B) with rfl | rfl | rfl
    ·cases aN F;exact ⟨c1,_,a1,kc b1,λv G=>by cases G;exact ⟨_,rfl,Internal.R.td.mpr ⟨l,ws,kk,rfl,(λh=>h),by exact aC,P.gd.base _ _ hl,vE (Ey z) hr⟩⟩⟩
    ·cases aN F;exact ⟨c2,_,a2,kc b2,λv G=>by cases G;exact ⟨_,rfl,Internal.R.pz.mpr rfl⟩⟩
    ·cases aN F;exact ⟨c3,_,a3,kc b3,λv G=>by cases G;exact ⟨_,rfl,Internal.R.j2.mpr ⟨_,rfl⟩⟩⟩
   ·exact aG (h7 y hy) λZ oc j=>af j λe d=>⟨by exact aC,M _,Z,oc,P.gd.base _ _ e,d⟩
  ·exact i8 tb tg eI R7 A' U _ [] _ _ β _ _ _ θ F' P' (R0 (fa:=m) (k:=k) γ hR ε hk hn hD hd) λfl g χ s2 T H2 w2 Y F2 J g2=>by
    refine af w2 λu w=>?_;subst u;subst w
    exact δ _ _ _ _ _ _ ⟨rfl,rfl⟩ Y F2 J g2
  ·refine af w2 λu w=>?_;subst u;subst w
   have:=mZ J
   subst this
   exact af (P.back g2 J.gd J.tk) λP3 g3=>(hp _ rv s2 η H hq (EY (by rfl) r2) P3 g3)
noncomputable def Lj:Stmt:=.FunctionDef "inner" JL (lM fF eI) [] none [] uC none "inner" ⟨53,4,58,55⟩
noncomputable def Px:ME:=.cv 2 [(.cst (.int (0)) 0 ⟨59,17,59,18⟩),(.blt ("len":Str) [(.var 0 ⟨59,24,59,30⟩)] ⟨59,20,59,23⟩ ⟨59,20,59,31⟩)] ⟨59,11,59,16⟩ ⟨59,11,59,32⟩
noncomputable def MN:MT:=.val (.var 0 ⟨59,36,59,42⟩)
noncomputable def Tc:ME:=.cst (.int (0)) 0 ⟨59,48,59,49⟩
noncomputable def Q1:MS:=.ret (.FO MN Px Tc ⟨59,11,59,49⟩) ⟨59,4,59,49⟩
noncomputable def B2:List Stmt:=[Lj,toS d0 Q1]
def KD (K:Frag):Prop:=nsIn K bX "_digits2int"=some (some (.ref 72))/\∃o a,K.lookup 72=some o/\o.data=.func a/\Y3 K a d0 B2 ["digits","n"]/\a.code=.ref 71/\a.qualname="_digits2int"/\
  (gO a.scope d0 Px && xb a.scope d0 MN && gO a.scope d0 Tc && fJ a.scope d0 2 && (a.scope.names.lookup ("n":Str)==some .cell) && (a.scope.names.lookup ("digits":Str)==some .cell) && (a.scope.names.lookup ("inner":Str)==some .cell))=true
def z0 (b:List V) (r:V):Prop:=∃(a:List Int) (n D:Nat),b=[.lst (cM a),.int n]/\1<=a.length/\a.length<=30/\n<=10000/\D<=100000/\(∀d∈a,d.natAbs<=2^D)/\r=.int (j1 n a)
theorem nR:sI "len" [.lst l] J g=(l.length<=1000/\g (.int (l.length:Nat))):=LC
theorem Qi:GP (.lst l) J E=(l.length<=1000/\E (!l.isEmpty)):=rfl
theorem Ll (B:DO C) (k:KD C.K):hO C "_digits2int" 41 z0:=by
 refine af k λk0 d=>aG d λo fd p=>d7 p λk1 k2 Z fc fq ck=>?_
 have χ:∀a o,C.K.lookup a=some o->C.h₀.get? a=some o:=λa o e=>B.env.ok.FN _ _ e
 have fB:X4 C 72 fd d0 B2 ["digits","n"]:=⟨⟨o,χ _ _ k1,k2⟩,Z.glob,Z.blt,Z.tW,Z.co,Z.gen,GA B.env.ok.FN Z.code,Z.body,λs Ξ hv hk=>PP (K:=C.K) (λa o e=>hk _ _ (B.env.ok.FN _ _ e)) (λS=>Z.bind Ξ hv S),Z.G1⟩
 simp only [az] at ck
 refine f0 ck λΦ Ψ Xh Ω α β T=>?_
 replace α:fd.scope.names.lookup ("n":Str)=some .cell:=eq_of_beq α
 replace β:fd.scope.names.lookup ("digits":Str)=some .cell:=eq_of_beq β
 replace T:fd.scope.names.lookup ("inner":Str)=some .cell:=eq_of_beq T
 refine ⟨72,o,fd,B.mg _ _ k0,χ _ _ k1,k2,?_⟩
 have ψ:pa C 41 (.ref 72) (λG l=>∃r,z0 G r/\l r):=by
  refine Dp (N:=40) B.env.ok fB (λM l h=>by refine ah h λr d=>af d λp O=>bj p λY n D μ=>af μ λg O=>?_;subst g;rfl) λA s av L M l Qf E rm F P X ν=>?_
  refine ah X λr d=>af d λp hq=>bj p λY n D μ=>fZ μ λg ς δ ZY hD hd u=>?_;subst g;subst u
  have tb:fT C T0 40:=LQ (ae B.lo (aD _)) B.env
  have tg:t0 C T0 40:=So B.env
  have ε:∀{f:Addr},s.heap.objs.size<=f->¬C.tb f:=λh q=>ay _ (am (P.f4 _ (P.bM _ q)) h)
  generalize w:dF fd L 72=j at F ν ⊢
  have ζ:j.code=.ref 71:=bQ w fc
  have η:j.globals=bX:=bQ w Z.glob
  have ι:Gy j "inner" "inner"="_digits2int.<locals>.inner":=by
   have θ:j.kindOf ("inner":Str)=some .cell:=bQ w T
   unfold Gy
   refine ae θ (ae (if_neg (by decide)) ?_)
   have:j.qual=fd.qualname++".<locals>.":=by refine bQ w ?_;rfl
   refine ae this (ae fq ?_)
   decide +kernel
  have WZ:Sr C j 71 67:=by
   exact aG B.bm λbm ob d=>d7 d λb1 b2 b3 b4 b5 b6=>⟨ζ,by refine ae B.tabs ?_;exact tE _ (tF _),B.hd (71,67) (by refine ae B.tabs ?_;exact tE _ (tF _)),B.VN (71,67) (by refine ae B.tabs ?_;exact tE _ (tF _)),η,bm,ob,b1,b2,Py B b3 b6,b3,b4,b5,b6⟩
  unfold B2
  refine ae (iK _ _ _) ?_
  have υ:∀y∈uC.names,y.2=.free->∃c,j.cells.lookup y.1=some c:=λy hy WT=>by
   have hc:∀(i:Nat) x,d0[i]? =some x->fd.scope.names.lookup x=some .cell->∃c,j.cells.lookup x=some c:=λi x e1 J=>by
    exact aG (F.cell i x e1 (.inl J)) λc ov d=>af d λe O=>⟨c,e⟩
   simp [uC] at hy
   rcases hy with rfl | rfl | rfl | rfl | rfl | rfl | rfl
   all_goals first
    | (cases WT;done)
    | exact hc 0 _ rfl β
    | exact hc 2 _ rfl T
    | exact hc 1 _ rfl α
  unfold Lj
  refine wpAny_bind (nestDef_K rfl rfl (by rfl) ?_)
  refine ae ι ?_
  refine Pb B.env.ok F P WZ (nT υ) (by refine ae B.tq ?_;rfl) ?_
  intro s2 f γ F2 P2 g2 U WY τ ξ
  refine gu τ λdoc pm UU ct W2=>?_
  have m:f∉([]:List Addr):=aC
  show wpAny _ A (xf j (nm d0 2) (.ref f)) _ E s2
  refine F2.store P2 (v:=.obj f) (ex:=ic j) (by simp [ic]) (λh1 c h2=>F2.jN h1 h2) Ω (R.pz.mpr rfl) λs3 F3 P3 g3=>?_
  have gA:=g2.wide.trans g3
  have W1:f∉ic j:=λq=>ay _ (am (F.Dr q) U)
  have WX:s3.heap.get? f=some {cls:=.type "function",data:=.func γ}:=g3.keep f _ WY m W1 (ε U)
  have ω:∀{s':Shared}{c:Addr}{o:Obj}{G:Array Value}{q:Str}{tk:Tok},Hp C av s' [] []->s'.heap.get? c=some o->o.data=.fields G->G[1]? =some (oh q tk)->¬C.tb c:=λ{s' c o G q tk} P' J e3 e4 z=>by
   refine ah (cH.mp z) λq' d=>af d λZX g=>?_;subst g
   refine ah (P'.gd.tabs q' ZX) λps d=>aA d λe5 e6 O=>?_
   replace J:=(e5)▸J;cases J
   exact ny e6 G _ tk e3 e4
  have π:s3.heap.CodeRec γ.code "_digits2int.<locals>.inner":=by
   refine gu ξ λc o G tk d=>cu d λe1 J e3 e4=>?_
   exact ⟨c,o,G,tk,e1,g3.keep c o J aC (λq=>(F2.KZ c q o J).2 G _ tk e3 e4) (ω P2 J e3 e4),e3,e4⟩
  show wpAny _ A (execs [toS d0 Q1] j) _ _ s3
  refine ae (iK _ _ _) ?_
  unfold Q1
  refine ae TU (ae T1 ?_)
  refine wpAny_bind (Vl (wpAny_IfExp (nz tb tg MN fd.scope d0 Ψ A s3 av [] _ _ j (λb H=>b=true/\H=[]) _ E rm F3 P3 ?_ λb s4 ZK H4 w4 P4 g4=>?_)))
  ·unfold MN
   simp only [lN,aU,CH,Ix,bG,dA,kS,Qi]
   refine ⟨by unfold cM;refine ae (bv _) ?_;exact ak aK 3 [_] [] δ,?_⟩
   constructor
   ·unfold cM
    cases Y with
    | nil=>simp at ς
    | cons _ _=>rfl
   ·trivial
  refine af w4 λg u=>?_;subst g;subst u
  have:=mZ P4
  subst this
  have F4:=F3.grow g4 P3.bM
  refine ae (if_pos rfl) ?_
  have φ:s4.heap.get? f=some {cls:=.type "function",data:=.func γ}:=g4.keep f _ WX m (by trivial) (ε U)
  refine Gg (cK:=λv H'=>v=.int (j1 n Y)/\H'=[]) (W:=λG H'=>G=[.int 0,.int Y.length]/\H'=[]) tb tg Φ rm F4 P4 rfl φ rfl m (ε U) ?_ (λs5 Γ H5 G Θ Q5 w5 r5 P5 g5 WV=>?_) λv rv s5 Γ H5 w5 r5 P5 g5=>?_
  ·simp only [cD,cL,bt,aU,d5,ir,ea,bV,Ix,bG,dA,kS]
   refine ⟨rfl,?_⟩
   refine ae nR ?_
   unfold cM
   refine ae (bv _) ?_
   refine ⟨by exact ak aK 3 [_] [] δ,?_⟩
   constructor<;>trivial
  ·refine af w5 λg u=>?_;subst g;subst u
   have:=mZ P5
   subst this
   have F5:=F4.grow g5 P4.bM
   have ρ:s5.heap.CodeRec γ.code "_digits2int.<locals>.inner":=by
    refine gu π λc o G tk d=>cu d λe1 J e3 e4=>?_
    have nt:=ω P3 J e3 e4
    exact ⟨c,o,G,tk,e1,g5.keep c o (g4.keep c o J aC aC nt) aC aC nt,e3,e4⟩
   have WW:=g5.keep f _ φ m (by trivial) (ε U)
   refine aG (F5.cell 1 "n" rfl (.inl α)) λcn ZL d=>aA d λWH WG WF=>?_
   refine ah (WF (.int n) rfl) λZx d=>af d λg WE=>?_;subst g
   refine ah (R.j2.mp WE) λtn g=>?_;subst g
   refine aG (F5.cell 0 "digits" rfl (.inl β)) λcd ovd d=>aA d λZJ ZI ZH=>?_
   refine ah (ZH (.lst (cM Y)) rfl) λrvd d=>af d λg ZG=>?_;subst g
   refine bj (R.td.mp ZG) λld wsd kd d=>bh d λg O O Z0 rd=>?_;subst g
   refine aG (F5.cell 2 "inner" rfl (.inl T)) λcf ovf d=>aA d λZF κ ZE=>?_
   refine ah (ZE (.obj f) rfl) λrvf d=>af d λg ZD=>?_;subst g
   replace κ:=(R.pz.mp ZD)▸κ
   have I:Vf (C.at s5.heap []) f ld n uC JL (lM fF eI) "digits" (.ref ld):=
    Kv B.env B.lo F5 P5 WW m W2 ρ υ (by decide +kernel) (by decide +kernel) (by decide +kernel) (by decide +kernel) ⟨cd,ZJ,ZI⟩ ⟨cf,ZF,κ⟩ ⟨cn,WH,WG⟩
   have cv:=R1 I (wS _ Z0 (by trivial)) rd (ak aK 3 [_] [] δ) ZY hD hd Y.length
   refine cv.2 (.obj f) [.int 0,.int Y.length] [] (λv H'=>v=.int (j1 n Y)/\H'=[]) ⟨rfl,0,Y.length,rfl,ς,aD _,aD _,?_⟩ A s5 av [] (.ref f) Θ Q5 _ (rm.mono (ak ce 11 [_] [] δ)) (PD P5) (R.pz.mpr rfl) r5 λv rv s6 Δ H6 w6 r6 P6 g6=>?_
   ·exact ae SA (ae (sA _) (ae (dK (aD _)) ⟨rfl,rfl⟩))
   ·exact af (Gp P5 P6 g6) λP7 g7=>(WV v rv s6 Δ H6 w6 r6 P7 g7)
  ·refine af w5 λg u=>?_;subst g;subst u
   have:=mZ P5
   subst this
   exact wpAny_pure (ν (some (.int (j1 n Y))) _ _ s5 [] [] ⟨_,rfl,hq⟩ ⟨rv,rfl,r5⟩ (F4.grow g5 P4.bM) P5 (gA.trans (g4.wide.trans g5.wide)))
 intro A s av M px l Q E rm P r X hp
 refine af X λO d=>ah d λrr p=>af p λh hq=>?_
 exact ψ A s av M px l Q E rm P r ⟨rr,h,hq⟩ hp
structure Base (C:Cx):Prop extends DO C where
 kf:Kf C.K
 kg:KG C.K
 ki:KI C.K
 kd:KD C.K
theorem J2 (B:Base C) {d:V->Bool}{e:LW} (hN:12<=n):t0 C (pf zJ L (some KF) d e) n where
 Rq:=B.env.Rq
 Nx:=B.env.Nx
 Rp:=B.env.Rp
 gen:=λx m=>by
  have a:x="_iter_escaped_chars":=by
   have:(x==("_iter_escaped_chars":Str) && true)=true:=m
   simpa using this
  subst a
  refine aG (KB hN (ae B.lo (aD _)) B.kg B.env) λo g b=>aA b λh i j=>?_
  refine ⟨100,o,g,B.mg _ _ B.kg.1,h,i,λc l k=>j c l ?_⟩
  have:(if ("_iter_escaped_chars":Str)="_iter_escaped_chars" then (some KF).bind λf=>f c else none)=some l:=k
  replace this:=(if_pos rfl)▸this
  exact this
noncomputable abbrev WM:V->Bool:=λO=>false
abbrev WL:LW:=λO O O O=>False
noncomputable abbrev TL (L:List (Str×Nat×Sp)):Tb:=pf zJ L (some KF) WM WL
theorem PI (B:Base C) (c:∀x N a,(x,N,a)∈L->N+1<=n/\hO C x N a):fT C (TL L) n:=
 BF (ae B.lo (aD _)) B.env (λx N a h=>c x N a (by
  have:∀(l:List (Str×Nat×Sp)),l.lookup x=some (N,a)->(x,N,a)∈l:=by
   intro l
   induction l with
   | nil=>intro h;exact bN h
   | cons y r d=>
    intro h
    obtain ⟨k,v⟩:=y
    rw [gQ] at h
    by_cases e:(x==k)=true
    ·replace h:=(e)▸h
     cases h
     exact ae (eq_of_beq e) (aB ..)
    ·replace e:=(zl _)▸e
     replace h:=(e)▸h
     exact aP _ (d h)
  exact this L h)) ⟨(λf h=>by exact dk h),(λf g H b h=>cw h)⟩
theorem iw {c:List Str}{g:List MS}{N:Nat}{d:Sp} (B:Base C) (hN:12<=N) (j:∀x n d,(x,n,d)∈L->n+1<=N/\hO C x n d) (h:Kf C.K->nY C.K x D c g i) (f:∀e r b,d e r->b r->jE (TL L) i.length c.length g e b):hO C x (N+1) d:=
 RK B.env (B.mg _ _ (h B.kf).1) (h B.kf) (PI B j) (J2 B hN) λe r b O hs k=>f e r b hs k
theorem jD {f:V->Sg->Hs->(Fl->Sg->Hs->Prop)->Prop}{Q:Fl->Sg->Hs->Prop} (I:Nat->Sg->Hs->Prop):∀(c:List V) (i:Nat) (b:Sg) (H:Hs),I i b H->
  (∀j x b H k,c[j]? =some x->I (i+j) b H->(∀a d,I (i+j+1) a d->k none a d)->(∀v a d,Q (some v) a d->k (some v) a d)->f x b H k)->
  (∀b H,I (i+c.length) b H->Q none b H)->sH f c b H Q
 | [],i,b,H,l,_,g=>g b H l
 | x::m,i,b,H,l,step,g=>by
  refine ae (N8 _) ?_
  refine step 0 x b H _ rfl l (λa d h=>?_) (λv a d h=>h)
  exact jD I m (i+1) a d h (λj x b H k e p n o=>step (j+1) x b H k e (ae (show i+(j+1)=i+1+j by exact bA bZ 3 [_,_] []) p) (λa d h=>n a d (by exact ae (show i+1+j+1=i+(j+1)+1 by exact bA bZ 23 [_,_] []) h)) o) (λb H h=>g b H (by refine ae c9 (ae (show i+(m.length+1)=i+1+m.length by exact bA bZ 3 [_,_] []) ?_);exact h))
theorem yQ {f:V->Hs->(Option V->Hs->Prop)->Prop}{H:Hs} (g:V->Option V):∀(a b:List V) (Q:List V->Hs->Prop),(∀x∈a,∀k:Option V->Hs->Prop,k (g x) H->f x H k)->Q (b++a.filterMap g) H->tx f a b H Q
 | [],b,Q,_,h=>by refine ae (Lo _) ?_;simpa using h
 | x::d,b,Q,c,h=>by
  refine ae (DB _) ?_
  refine c x aB _ (yQ g d _ Q (λy hy=>c y (aP _ hy)) ?_)
  replace h:=(fK)▸h
  cases hg:g x with
  | none=>replace h:=(hg)▸h;exact (bw _▸h)
  | some v=>replace h:=(hg)▸h;simpa using h
theorem oD (h:(rA n)[p]? =some v):p < n/\v=.int p:=by
 unfold rA at h
 replace h:=(dc)▸h
 cases hj:(dT n)[p]? with
 | none=>replace h:=(hj)▸h;exact bN h
 | some k=>
  replace h:=(hj)▸h
  refine ah (aL.mp hj) λa b=>?_
  replace a:=(jL)▸a
  replace b:=(L7 _)▸b
  subst b
  exact ⟨a,by exact aN h.symm⟩
theorem iU (n:Nat):(rA n).length=n:=by unfold rA;refine ae (bv _) (ae jL rfl)
theorem GD (a:List Nat) (i:Nat):(aE a)[i]? =(a[i]?).map λ(d:Nat)=>V.int (d:Int):=dc
theorem dL {i:Nat} (b:l.length<=1000) (a:l[i]? =some v) (h:g v):lf (.lst l) (.int i) J g:=
 ⟨b,i,v,Bi (aL.mp a).1,a,h⟩
theorem sk {i:Nat} (b:J[n]? =some l) (c:l.length<=1000) (a:l[i]? =some v) (h:g v):lf (.ref n) (.int i) J g:=by
 have e:vw J (.ref n)=.lst l:=by show V.lst (J.getD n [])=_;refine ae ax (ae b ?_);rfl
 unfold lf
 exact ae e ⟨c,i,v,Bi (aL.mp a).1,a,h⟩
theorem kt:∀l:List Int,V.f2 (cM l)=true
 | []=>by decide
 | x::r=>by show V.f2 (.int x::cM r)=true;refine ae r8 (ae (kt r) ?_);rfl
theorem cP:∀l:List Nat,V.f2 (aE l)=true
 | []=>by decide
 | x::r=>by show V.f2 (.int x::aE r)=true;refine ae r8 (ae (cP r) ?_);rfl
theorem cF {r:List V} (h:V.f2 l=true) (a:V.f2 r=true):V.f2 (.lst l::r)=true:=by refine ae r8 (ae EX (ae h (ae a ?_)));rfl
theorem dM {T:Tb}{s:MS}{r:List MS} (h:∀K:Sg->Hs->Prop,(∀X J,de T r X J k->K X J)->wpS T s X J λd b c=>match d with | none=>K b c | some v=>k (some v) b c):de T (s::r) X J k:=by
 exact ae eH (h _ λO O h=>h)
theorem c0 {T:Tb} (h:k none X J):de T [] X J k:=h
section
variable {gl:Str->Option V}{L:List (Str×Nat×Sp)}{g:Option (List V->Option (List V))}{co:V->Bool}{cp:LW}{x:Str}{n:Nat}{sp:Sp}
theorem dD (h:L.lookup x=some (n,sp)):(pf gl L g co cp).KQ x=true:=by show (L.lookup x).isSome=true;refine ae h ?_;rfl
theorem ed {Q:V->Prop} (h:L.lookup x=some (n,sp)) (b:V.f2 l=true) (hs:sp l v) (c:Q v):(pf gl L g co cp).fn x l Q:=⟨n,sp,h,b,v,hs,c⟩
end
section
variable {n:Nat}{l:List V}{v:V}{H:Hs}{Q:V->Hs->Prop}
theorem pB (a:H[n]? =some l) (hs:l.length<=1000) (h:Q .none (H.set n (l++[v]))):uW 36 "append" (.ref n) [v] H Q:=⟨l,a,hs,(if_pos rfl).mpr h⟩
theorem Pd {a:List V} (b:H[n]? =some l) (hs:l.length+a.length<=1000) (h:Q .none (H.set n (l++a))):uW 36 "extend" (.ref n) [.lst a] H Q:=⟨l,b,ar (gT ..) hs,(if_neg (by decide)).mpr<|(if_pos rfl).mpr ⟨hs,h⟩⟩
theorem J8 (a:H[n]? =some l) (hs:l.length<=1000) (b:l.getLast? =some v) (h:Q v (H.set n l.dropLast)):uW 36 "pop" (.ref n) [] H Q:=⟨l,a,hs,(if_neg (by decide)).mpr<|(if_neg (by decide)).mpr<|(if_pos rfl).mpr ⟨v,b,h⟩⟩
theorem Uj (a:H[n]? =some l) (hs:l.length<=1000) (h:Q .none (H.set n l.reverse)):uW 36 "reverse" (.ref n) [] H Q:=⟨l,a,hs,(if_neg (by decide)).mpr<|(if_neg (by decide)).mpr<|(if_neg (by decide)).mpr<|(if_pos rfl).mpr h⟩
end
structure zR (a b:Int) (n:Nat):Prop where
 a0:0<=a
 ab:a < b*2^n
 n1:1<=n
 lo:2^(n - 1)<=b
 hi:b < 2^n
theorem zR.b0 (t:zR y b n):0 < b:=wV (d9 _) t.lo
theorem zR.aa (t:zR y b n):y < 2^(n+n):=by
 have c:=t.ab
 have d:b*2^n < 2^n*2^n:=oO t.hi (d9 n)
 exact ae (i7 _ _ _) (au dm 9 [] [_,_,_] c d)
def wh (m:Nat):Sp:=λc r=>∃(a b:Int) (n:Nat),c=[.int a,.int b,.int n]/\zR a b n/\n<=m/\r=.tup [.int (a / b),.int (a%b)]
theorem HP:sI "divmod" [.int y,.int b] J g=(b≠0/\b.natAbs.log2 < 9000/\g (.tup [.int (y.fdiv b),.int (y.fmod b)])):=(if_neg (by decide)).trans<|(if_neg (by decide)).trans<|(if_neg (by decide)).trans<|(if_neg (by decide)).trans<|(if_neg (by decide)).trans<|if_pos rfl
theorem Kc (a:0 < b) (h:b < 2^n) (d:n<=p):b.natAbs.log2 < p:=by
 refine (uh (au bq 10 [_] [_] a fW)).mpr ?_
 have c:=fI n
 have:b.natAbs < 2^n:=eP ee 0 [_,_] [_,_] a h c fW
 exact am this (dI (by decide) d)
theorem RO:zJ "_DIV_LIMIT"=some (.int 4000):=by unfold zJ;refine ae (if_neg (by decide +kernel)) (ae (if_pos rfl) rfl)
theorem Lf:∀d r c,wh 4000 d r->c r->jE (TL []) 3 rN.length nP d c:=by
 rintro d r c ⟨a,b,n,rfl,t,e,rfl⟩ i
 refine ⟨rfl,rfl,?_⟩
 show de _ nP [some (.int a),some (.int b),some (.int n),none,none,none,none,none,none,none,none] [] _
 unfold nP
 refine ae eH ?_
 simp only [jj,eH]
 refine ⟨rfl,λO=>⟨rfl,?_,?_,?_⟩,λh=>?_⟩
 ·have:=t.b0;exact ak ce 1 [] [_] this
 ·exact Kc t.b0 t.hi (ak dd 10 [_] [] e)
 ·refine ⟨_,rfl,?_⟩
  exact ae (cY _ (bl t.b0)) (ae (cz _ (bl t.b0)) i)
 ·have f:aI a<=n+n:=kv t.a0 t.aa
  have g:=of_decide_eq_false h
  exact cw (bI cO 9 [_,_] [] e f g)
structure wc (Y1 a3 b b1 b2:Int) (n:Nat):Prop where
 a0:0<=Y1
 Xp:0<=a3
 Y0:a3 < 2^n
 bb:b=b1*2^n+b2
 U1:0<=b2
 U0:b2 < 2^n
 n1:1<=n
 lo:2^(n - 1)<=b1
 hi:b1 < 2^n
 ab:Y1*2^n+a3 < b*2^n
def x0:Sp:=λf r=>∃(a c b d e:Int) (n:Nat),f=[.int a,.int c,.int b,.int d,.int e,.int n]/\wc a c b d e n/\n<=4000/\r=.tup [.int ((a*2^n+c) / b),.int ((a*2^n+c)%b)]
theorem q7 {B:Nat} (h:aI b<=B) (c:B+w<=100000000):(aI b:Int)+((w:Nat):Int)<=2^27:=by
 have a:(2:Int)^27=134217728:=by decide
 exact ae a (au eV 21 [_,_,_] [] h c)
theorem CB (h:1<=n):(2:Int)^n=2*2^(n - 1):=by
 obtain ⟨k,rfl⟩:∃k,n=k+1:=⟨n - 1,by exact au bq 6 [_,_] [] h a8⟩
 exact ae (Mk _ _) (ae (dX _ _) (bA im 2 [] [_]))
theorem wc.PC {d c e:Int} (D:wc y d b c e n):0 < c:=wV (d9 _) D.lo
theorem wc.b0 {c d e:Int} (D:wc y c b d e n):0 < b:=by
 have h:=Int.mul_pos D.PC (d9 n)
 have:=D.U1
 exact ae D.bb (au eV 22 [] [_,_] h this)
theorem Dw {e f c q d:Int} (D:wc y e b f c n) (v:q*f+d=y) (i:q < 2^n) (j:0<=d):
  q*b+(d*2^n+e - q*c)=y*2^n+e/\-(2*b) < d*2^n+e - q*c:=by
 have g:=d9 n
 have k:=D.U1
 refine ⟨?_,?_⟩
 ·have l:q*b=q*f*2^n+q*c:=by refine ae D.bb (ae (eD _ _ _) (ae (ci _ _ _) rfl))
  exact ae l (bQ v (ae (dw _ _ _) (bA im 3 [] [_,_,_,_])))
 ·have m:q*c<=2^n*c:=bd (bl i) k
  have h:2^n*c<=2^n*(2^n - 1):=eC (by have:=D.U0;exact ak ce 21 [] [_,_] this) (bl g)
  have o:2^(n - 1)*2^n<=f*2^n:=bd D.lo (bl g)
  have p:(2:Int)^n*2^n=2*(2^(n - 1)*2^n):=by refine bQ (ci _ _ _) (bQ (CB D.n1) rfl)
  have r:0<=d*2^n:=f5 j (bl g)
  have s:=D.Xp
  have u:=D.bb
  replace h:=(IC _)▸(uj _ _ _)▸h
  exact Gq xI 3 [] [_,_,_,_,_,_,_,_,_,_] g k m h o p r s u
theorem Lh {d c f:Int} (D:wc y d b c f n) (h:y / 2^n=c):
  (2^n - 1)*c+(y - c*2^n+c)=y/\0<=y - c*2^n+c:=by
 have e:=cZ y (2^n)
 have g:=fO y (gN (d9 n))
 have i:=D.PC
 replace e:=(bO _ _)▸(h)▸e
 refine ⟨?_,by lia⟩
 exact ae (gR _ _ _) (ae (bO (2^n) c) (bA im 4 [] [_,_,_]))
theorem Gb {d e f:Int} (D:wc y d b e f n):y < b:=by
 have h:=D.ab
 have g:=D.Xp
 exact Int.lt_of_mul_lt_mul_right (a:=2^n) (au eV 23 [] [_,_,_] h g) (bl (d9 n))
theorem Lg {g c i:Int} (D:wc y g b c i n) (h:¬y / 2^n=c):zR y c n:=by
 refine ⟨D.a0,?_,D.n1,D.lo,D.hi⟩
 have d:=d9 n
 have j:=Gb D
 have k:y / 2^n < c+1:=hU d (by refine ae (dw _ _ _) (ae (cT _) ?_);have:=D.bb;have:=D.U0;exact bI eS 23 [] [_,_,_,_,_] j ‹_› this)
 have l:y / 2^n < c:=au eU 0 [] [_,_] h k
 have e:=cZ y (2^n)
 have m:=eh y d
 have f:2^n*(y / 2^n+1)<=2^n*c:=eC (by assumption) (bl d)
 replace f:=(bO _ c)▸(IC _)▸(eD _ _ _)▸f
 lia
theorem RZ {e d f:Int} (D:wc y e b d f n):b < 2^(n+n):=by
 have g:=d9 n
 have c:(d+1)*2^n<=2^n*2^n:=bd (by have:=D.hi;assumption) (bl g)
 replace c:=(cT _)▸(dw _ _ _)▸c
 refine ae (i7 _ _ _) (ae D.bb ?_)
 have:=D.U0
 exact au eU 1 [] [_,_,_,_] c this
theorem FU (h:1<=n):2*(2:Int)^n<=2^(n+n):=by
 exact ae (i7 _ _ _) (bd (by have:=CB h;have:=d9 (n - 1);exact au eU 2 [] [_,_] ‹_› this) (bl (d9 n)))
theorem HI {l m n o:Option V}{r A:Int} (q:0 < b) (d:y*b+r=A) (p:-(2*b) < r) (w:r < b)
  (x:k none [e,l,some (.int b),m,n,o,some (.int (A / b)),some (.int (A%b))] []):wpS (TL L) oy [e,l,some (.int b),m,n,o,some (.int y),some (.int r)] [] k:=by
 have c:∀g f,g*b+f=A->0<=f->f < b->k none [e,l,some (.int b),m,n,o,some (.int g),some (.int f)] []:=λg f Q v d=>by
  exact af (S5 (a:=A) (q:=g) q (ae (bO _ _) (ak e9 10 [] [_,_,_] Q)) v d) λs u=>(bQ s (bQ u x))
 refine ⟨3,?_⟩
 dsimp only [wk,wj,A0,jj,eH,qF,bt,aU,fR,df,CJ,cs,bV,Pk,Kt,HO,c6,dB,fU,f6]
 refine ⟨λh=>⟨λi=>⟨λj=>?_,λj=>?_⟩,λi=>?_⟩,λh=>?_⟩
 ·have:=of_decide_eq_true j;exact au eU 3 [] [_,_] p this
 ·have:=of_decide_eq_true i
  have:=of_decide_eq_false j
  exact c _ _ (ae (gR _ _ _) (ae (gR _ _ _) (ae (cT _) (ak e9 11 [] [_,_,_,_] d)))) (ak e9 12 [] [_,_] p) (ak e9 13 [] [_,_] ‹_›)
 ·have:=of_decide_eq_true h
  have:=of_decide_eq_false i
  exact c _ _ (ae (gR _ _ _) (ae (cT _) (ak e9 14 [] [_,_,_,_] d))) (ak e9 15 [] [_,_] this) (ak e9 16 [] [_,_] ‹_›)
 ·have:=of_decide_eq_false h
  exact c _ _ d (ak aK 12 [] [_] this) w
theorem Ay {c g h q f:Int} (D:wc y c b g h n) (l:n<=4000) (r:q*g+f=y) (j:0<=q) (d:q < 2^n) (e:0<=f) (a:f < 2^(n+n)) (i:f*2^n+c - q*h < b)
  (p:∀s,k (some (.tup [.int ((y*2^n+c) / b),.int ((y*2^n+c)%b)])) s []):
  de (TL L) [oz,oy,rt] [some (.int y),some (.int c),some (.int b),some (.int g),some (.int h),some (.int n),some (.int q),some (.int f)] [] k:=by
 refine af (Dw D r d e) λm o=>?_
 refine ae eH ?_
 dsimp only [oz,bU,aU,bK,bW,c6,dB,AH,UZ,DF,kx,fU,f6]
 refine ⟨aO _,q7 (kv e a) (ak e9 17 [_] [] l),jJ (kv j d) (kv D.U1 D.U0) (ak e9 18 [_] [] l),?_⟩
 refine ae (aZ _) (ae (Gn D.Xp D.Y0) (ae eH ?_))
 exact HI D.b0 m o i (ae eH (p _))
theorem HH (q:L.lookup ("_div2n1n":Str)=some (42,wh 4000)):∀k r c,x0 k r->c r->jE (TL L) 6 wC.length yu k c:=by
 rintro k r c ⟨a,u,b,d,l,n,rfl,D,g,rfl⟩ s
 refine ⟨rfl,rfl,?_⟩
 show de _ [ru,oz,oy,rt] [some (.int a),some (.int u),some (.int b),some (.int d),some (.int l),some (.int n),none,none] [] _
 refine dM λK p=>?_
 dsimp only [ru,wm,wl,hW,dY,fR,bt,aU,bK,cU,eA,cD,cL,jj,eH,df,bW,cs,bV,c6,dB,AG,AH,kx,ky,xe,ey,bH]
 have x:=RZ D
 refine ⟨aO _,_,kO,λj=>?_,λj=>?_⟩
 ·have h:a / 2^n=d:=by exact bQ (fdiv_pow _ _) (eq_of_beq j)
  refine af (Lh D h) λm o=>?_
  have v:=(Dw D m (bA bZ 12 [] [_]) o).1
  refine ⟨aO _,q7 (B:=1) (by decide) (ak dd 1 [_] [] g),aO _,q7 (kv (bl D.PC) D.hi) (ak e9 19 [_] [] g),p _ _ ?_⟩
  rw [aZ,cT] at *
  have f:=D.ab
  replace f:=(bO b _)▸(cT _)▸(gR _ _ _)▸(Eq.symm v)▸f
  refine Ay D g m (by have:=d9 n;exact ak e9 20 [] [_] this) (bA bZ 12 [] [_]) o ?_ (ak e9 21 [] [_,_,_,_,_] f) λO=>⟨_,rfl,s⟩
  have:=Gb D
  have:=D.bb
  have:=D.U0
  have:=D.hi
  have:=FU D.n1
  exact jH fA 14 [] [_,_,_,_,_,_,_] ‹_› ‹_› ‹_› ‹_› this
 ·have h:¬a / 2^n=d:=by exact bQ (fdiv_pow _ _) (of_decide_eq_false j)
  have t:=Lg D h
  have e:=cZ a d
  have w:=eh a D.PC
  refine ⟨dD q,ed q rfl ⟨_,_,_,rfl,t,g,rfl⟩ ?_⟩
  refine ⟨rfl,p _ _ ?_⟩
  refine Ay D g (ae (bO _ _) e) (ik D.a0 (bl D.PC)) ?_ (fO _ (gN D.PC)) ?_ ?_ λO=>⟨_,rfl,s⟩
  ·exact hU D.PC (ae (bO _ _) t.ab)
  ·have:=FU D.n1
   have:=D.hi
   have:=d9 n
   exact eP jc 10 [] [_,_,_,_] w ‹_› ‹_› this
  ·have i:(a%d+1)*2^n<=d*2^n:=bd (by assumption) (bl (d9 n))
   have f:0<=a / d*l:=f5 (ik D.a0 (bl D.PC)) D.U1
   replace i:=(cT _)▸(dw _ _ _)▸i
   have:=D.Y0
   have:=D.bb
   have:=D.U1
   exact jH fA 15 [] [_,_,_,_,_,_,_] i f ‹_› ‹_› this
structure Vi (a b:Int) (h:Nat):Prop where
 d1:wc (a / 2^(h+h)) (a / 2^h%2^h) b (b / 2^h) (b%2^h) h
 e1:a / 2^(h+h)*2^h+a / 2^h%2^h=a / 2^h
 d2:wc (a / 2^h%b) (a%2^h) b (b / 2^h) (b%2^h) h
 q0:0<=(a / 2^h%b*2^h+a%2^h) / b
 q1:(a / 2^h%b*2^h+a%2^h) / b < 2^h
 e2:a / b=a / 2^h / b*2^h+(a / 2^h%b*2^h+a%2^h) / b
 e3:a%b=(a / 2^h%b*2^h+a%2^h)%b
 q:aI (a / 2^h / b)<=h+h+(h+h)
theorem HK (t:zR y b (n+n)) (o:1<=n):Vi y b n:=by
 have c:=d9 n
 have d:(2:Int)^n≠0:=gN c
 have e:=t.b0
 have g:(2:Int)^(n+n)=2^n*2^n:=i7 ..
 have m:y / 2^(n+n)*2^n+y / 2^n%2^n=y / 2^n:=by
  exact ae g (bQ (E3 (bl c)) (ae (bO _ _) (cZ ..)))
 have a:b=b / 2^n*2^n+b%2^n:=ae (bO _ _) ((cZ ..).symm)
 have s:(2:Int)^(n - 1)<=b / 2^n:=by
  exact Int.le_ediv_of_mul_le c (bQ (i7 _ _ _) (ae (show n - 1+n=n+n - 1 by exact au hJ 13 [_,_,_] [] a8 a8) t.lo))
 have p:b / 2^n < 2^n:=hU c (bQ g t.hi)
 have u:=fO (y / 2^n) (gN e)
 have A:=eh (y / 2^n) e
 have w:=fO y d
 have m1:=eh y c
 have l:y / 2^n%b*2^n+y%2^n < b*2^n:=by
  have:(y / 2^n%b+1)*2^n<=b*2^n:=bd (by assumption) (bl c)
  replace this:=(cT _)▸(dw _ _ _)▸this
  lia
 have f:0<=y / 2^n%b*2^n+y%2^n:=by have:=f5 u (bl c);lia
 have i:=cZ y (2^n)
 have x:=cZ (y / 2^n) b
 have h:=cZ (y / 2^n%b*2^n+y%2^n) b
 have k:=S5 (a:=y) (b:=b) (q:=y / 2^n / b*2^n+(y / 2^n%b*2^n+y%2^n) / b) (r:=(y / 2^n%b*2^n+y%2^n)%b) e (by
  have z:y / 2^n*2^n=b*(y / 2^n / b*2^n)+y / 2^n%b*2^n:=by refine bQ (ci _ _ _) (bQ (dw _ _ _) (ae x rfl))
  refine ae (eD _ _ _) ?_
  replace i:=(bO _ _)▸i
  exact bI hG 14 [] [_,_,_,_,_,_,_] i h z) (fO _ (gN e)) (eh _ e)
 have v:y / 2^n < b*2^n:=hU c (ae (ci _ _ _) (bQ g t.ab))
 have j:0<=y / 2^n:=ik t.a0 (bl c)
 refine ⟨⟨ik t.a0 (bl (d9 _)),fO _ d,eh _ c,a,fO _ d,eh _ c,o,s,p,?_⟩,m,
  ⟨u,w,m1,a,fO _ d,eh _ c,o,s,p,l⟩,ik f (bl e),hU e (ae (bO (2^n) b) l),k.1,k.2,?_⟩
 ·exact ae m v
 ·refine kv (ik j (bl e)) (pj (P8 _ j) (pj (P8 _ t.a0) t.aa))
theorem Az (e:L.lookup ("_div3n2n":Str)=some (44,x0)) {p:Int} (t:zR y b (n+n)) (i:1<=n) (f:n<=4000)
  (j:∀l,k (some (.tup [.int (y / b),.int (if p=0 then y%b else y%b / 2)])) l []):
  de (TL L) [oC,oB,oA,mX,mW,mV,mU] [some (.int y),some (.int b),some (.int ((n+n:Nat):Int)),some (.int p),none,none,none,none,none,none,none] [] k:=by
 have M:=HK t i
 refine dM λK c=>?_
 dsimp only [oC,bU,bt,aU,bK,bW,cs,bV,c6,dB,AG,fU,f6]
 refine ⟨by decide,c _ _ ?_⟩
 refine ae (show ((n+n:Nat):Int).fdiv (2^(1:Int).toNat)=n by rw [fdiv_pow];show _ / 2^1=_;exact ak gF 4 [_] [_] pJ) ?_
 refine dM λK c=>?_
 dsimp only [oB,bU,bt,aU,bK,bW,cs,bV,c6,dB,AH,kx,fU,f6]
 refine ⟨aO _,q7 (B:=1) (by decide) (ak dd 1 [_] [] f),c _ _ ?_⟩
 refine ae (aZ _) (ae (cT _) ?_)
 refine dM λK c=>?_
 dsimp only [oA,hW,aU,bK,eA,cD,cL,bW,c6,dB,AG,Go,tG,bH]
 refine ⟨aO _,c _ _ ?_⟩
 refine ae (aZ _) (ae (PQ _ _) (ae (fdiv_pow _ _) ?_))
 refine dM λK c=>?_
 dsimp only [mX,hW,aU,bK,cU,cD,cL,bW,c6,dB,AG,Go,fU,f6,ey,bH,ez,eN]
 refine ⟨dD e,aO _,aO _,?_⟩
 refine ae (aZ _) (ae (aZ _) (ae (PQ _ _) (ae (fdiv_pow _ _) (ae (fdiv_pow _ _) ?_))))
 refine ed e rfl ⟨_,_,_,_,_,_,rfl,M.d1,f,rfl⟩ ?_
 refine ⟨rfl,c _ _ ?_⟩
 refine ae M.e1 ?_
 refine dM λK c=>?_
 dsimp only [mW,hW,aU,bK,cU,cD,cL,bW,c6,dB,Go,fU,f6,ey,bH,ez,eN]
 refine ⟨dD e,?_⟩
 refine ae (PQ _ _) ?_
 refine ed e rfl ⟨_,_,_,_,_,_,rfl,M.d2,f,rfl⟩ ?_
 refine ⟨rfl,c _ _ ?_⟩
 refine bQ M.e3 ?_
 refine dM λK c=>?_
 dsimp only [mV,uQ,qF,dY,jj,eH,lN,bt,aU,CH,D0,CJ,Uv,cs,bV,c6,dB,fU,f6,ez,eN]
 have d:∀r:Int,(r=if p=0 then y%b else y%b / 2)->K [some (.int y),some (.int b),some (.int ((n+n:Nat):Int)),some (.int p),some (.int n),some (.int (2^n - 1)),some (.int (b / 2^n)),some (.int (b%2^n)),some (.int (y / 2^n / b)),some (.int r),some (.int ((y / 2^n%b*2^n+y%2^n) / b))] []:=λr a=>by
  refine c _ _ ?_
  refine ae eH ?_
  dsimp only [mU,fH,aU,bK,eA,cD,cL,bW,c6,dB,AH,UZ]
  refine ⟨aO _,q7 M.q (ak gF 5 [_] [] f),?_⟩
  exact ae (aZ _) (ae (Gn M.q0 M.q1) (bQ M.e2 (ae a (j _))))
 refine ⟨λg=>⟨by decide,d _ ?_⟩,λg=>d _ ?_⟩
 ·refine ae (if_neg (bne_iff_ne.mp g)) (ae (fdiv_pow _ _) ?_);rfl
 ·refine ae (if_pos (by simpa using g)) rfl
theorem HJ (m:L.lookup ("_div3n2n":Str)=some (44,x0)):∀l r c,wh 4500 l r->c r->jE (TL L) 3 rN.length nP l c:=by
 rintro l r c ⟨a,b,n,rfl,t,i,rfl⟩ k
 refine ⟨rfl,rfl,?_⟩
 have g:=t.b0
 show de _ [rz,ry,rx,oC,oB,oA,mX,mW,mV,mU] [some (.int a),some (.int b),some (.int n),none,none,none,none,none,none,none,none] [] _
 refine dM λK d=>?_
 dsimp only [rz,wu,fH,dY,jj,eH,aU,iB,bK,d5,d4,fR,cD,cL,bW,df,ir,ea,ip,iq,MM,c6,dB,Rt,kx]
 refine ae RO ?_
 refine ⟨rfl,λO=>⟨rfl,?_⟩,λO=>d _ _ ?_⟩
 ·refine ae HP ?_
  refine ⟨by exact ak ce 1 [] [_] g,Kc g t.hi (ak gF 6 [_] [] i),_,rfl,?_⟩
  exact ae (cY _ (bl g)) (ae (cz _ (bl g)) k)
 refine dM λK d=>?_
 dsimp only [ry,bU,bt,aU,bK,bW,cs,bV,c6,dB,Go,fU,f6]
 refine d _ _ ?_
 refine ae (show jK (n:Int) 1=(n:Int)%2 from PQ (n:Int) 1) ?_
 refine dM λK d=>?_
 dsimp only [rx,wq,wo,wn,qF,dY,jj,eH,lN,bt,aU,CH,D0,CJ,Uw,Kt,cs,bV,c6,dB,fU,f6]
 refine ⟨λj=>⟨by decide,q7 (w:=1) (kv t.a0 t.aa) (ak gF 7 [_] [] i),by decide,q7 (w:=1) (kv (bl g) t.hi) (ak gF 8 [_] [] i),d _ _ ?_⟩,λj=>d _ _ ?_⟩
 ·have f:(n:Int)%2=1:=by have:(n:Int)%2≠0:=(bne_iff_ne.mp j);exact au hJ 14 [_] [_,_] this r7
  obtain ⟨h,rfl⟩:∃h,n=h+h+1:=⟨n / 2,by exact bI hG 15 [_,_] [_,_] f r7 fM⟩
  refine ae f (ae (show ((h+h+1:Nat):Int)+1=((h+1+(h+1):Nat):Int) by exact bA im 13 [_] []) ?_)
  have p:(2:Int)^(1:Int).toNat=2:=rfl
  have o:(2:Int)^(h+1+(h+1))=2^(h+h+1)*2:=by refine ae (show h+1+(h+1)=h+h+1+1 by exact bA im 14 [_] []) (ae (dX _ _) rfl)
  refine ae p ?_
  refine Az m ⟨by have:=t.a0;exact ak gF 9 [] [_] this,?_,by exact bA im 15 [_] [],?_,?_⟩ (bA bZ 0 [_] []) (ak gF 10 [_] [] i) λO=>⟨_,rfl,?_⟩
  ·have e:b*2*2^(h+1+(h+1))=b*2^(h+h+1)*(2*2):=by refine ae o ?_;ac_rfl
   refine ae e ?_
   have:=t.ab
   have:=t.a0
   exact au hJ 15 [] [_,_] ‹_› this
  ·refine ae (show h+1+(h+1) - 1=(h+h+1 - 1)+1 by exact au hJ 16 [_,_,_] [] a8 a8) (ae (dX _ _) ?_)
   have:=t.lo
   exact ak gF 11 [] [_,_] this
  ·refine ae o ?_;have:=t.hi;exact ak gF 12 [] [_,_] this
  ·exact ae (if_neg (by decide)) (ae (bO a 2) (ae (bO b 2) (ae (Int.mul_ediv_mul_of_pos _ _ (by decide)) (ae (Int.mul_emod_mul_of_pos _ _ (by decide)) (ae (kE _ (by decide)) k)))))
 ·have f:(n:Int)%2=0:=by simpa using j
  obtain ⟨h,rfl⟩:∃h,n=h+h:=⟨n / 2,by exact bI hG 16 [_,_] [_,_] f r7 fM⟩
  refine ae f ?_
  refine Az m t (by have:=t.n1;exact ak gF 13 [_] [] this) (ak gF 14 [_] [] i) λO=>⟨_,rfl,?_⟩
  exact ae (if_pos rfl) k
def Fj:Sp:=λc r=>∃(a:Nat) (b:Int) (n:Nat),c=[.int a,.int b]/\1<=a/\1<=n/\n<=4500/\2^(n - 1)<=b/\b < 2^n/\jS a<=1000000/\gE a n<=30/\r=.tup [.int (a / b),.int (a%b)]
noncomputable def Fy (a:List Nat):List Int:=a.map λ(d:Nat)=>(d:Int)
theorem Dx (n:Nat):∀(k x:Nat),1<=k->j1 n (Fy (j3 n x k))=x
 | 1,x,_=>by refine ae (xF _) ?_;show (x:Int)+0*_=x;exact bA fo 0 [_] [_]
 | k+2,x,_=>by
  refine ae (su _) ?_
  show ((x%2^n:Nat):Int)+j1 n (Fy (j3 n (x / 2^n) (k+1)))*2^n=x
  refine ae (Dx n (k+1) _ (bA bZ 0 [_] [])) (bQ (fI _) ?_)
  have:=sP x (2^n)
  replace this:=(jg _ _)▸this
  norm_cast
  exact ak fk 14 [_,_,_] [] this
theorem Gc (n:Nat):∀(k x:Nat),x < 2^(n*k)->∀d∈j3 n x k,d < 2^n
 | 0,x,_,d,hd=>by exact nomatch hd
 | 1,x,h,d,hd=>by
  replace hd:=(propext ai)▸(xF _)▸hd
  refine ae hd ?_;rwa [zT] at h
 | k+2,x,h,d,hd=>by
  replace hd:=(propext aX)▸(su _)▸hd
  rcases hd with rfl | hd
  ·exact gZ _ (cW n)
  ·refine Gc n (k+1) _ ?_ d hd
   refine Iv ?_
   exact bQ (du _ _ _) (ae (show n+n*(k+1)=n*(k+2) by rw [zU n (k) 2,zU];exact bA fo 1 [_,_] []) h)
noncomputable def GS (n:Nat) (R:List Nat) (j:Nat):Int:=j1 n (Fy (R.take j).reverse)
theorem GQ {R:List Nat} (h:R[p]? =some w):GS n R (p+1)=GS n R p*2^n+w:=by
 unfold GS
 refine ah (aL.mp h) λa b=>?_
 refine ae xk (ae h (ae vK ?_))
 show j1 n ((w:Int)::Fy (R.take p).reverse)=_
 refine ae (uo _) (ae (xP _ _) rfl)
structure DN (n:Nat) (b:Int) (R:List Nat) (j:Nat) (q:List Int) (r:Int):Prop where
 r0:0<=r
 rb:r < b
 len:q.length=j
 val:j1 n q.reverse*b+r=GS n R j
 lt:∀d∈q,0<=d/\d < 2^n
theorem DN.zero {R:List Nat} (h:0 < b):DN n b R 0 [] 0:=⟨by decide,h,rfl,by
 show 0*b+0=0
 exact bA fo 2 [] [_],λd hd=>by exact nomatch hd⟩
theorem DN.div {R:List Nat} (I:DN n b R p q y) (h:2^(n - 1)<=b) (c:b < 2^n) (i:1<=n) (hd:w < 2^n):zR (y*2^n+w) b n:=by
 have e:=d9 n
 have a:(y+1)*2^n<=b*2^n:=bd (by have:=I.rb;assumption) (bl e)
 have f:=f5 I.r0 (bl e)
 have g:(w:Int) < 2^n:=by refine bQ (fI _) ?_;exact_mod_cast hd
 replace a:=(cT _)▸(dw _ _ _)▸a
 exact ⟨by exact ak fk 15 [_] [_] f,by exact au e7 7 [_] [_,_,_] a g,i,h,c⟩
theorem DN.step {R:List Nat} (I:DN n b R p q y) (hd:R[p]? =some w) (t:zR (y*2^n+w) b n):DN n b R (p+1) (q++[(y*2^n+w) / b]) ((y*2^n+w)%b):=by
 have a:=t.b0
 have e:=cZ (y*2^n+w) b
 refine ⟨fO _ (gN a),eh _ a,by refine ae bp (ae I.len ?_);rfl,?_,λx c=>?_⟩
 ·refine ae vK (ae (GQ hd) (bQ I.val ?_))
  show ((y*2^n+w) / b+j1 n q.reverse*2^n)*b+_=_
  exact ae (dw _ _ _) (ae (dw _ _ _) (ae (ci _ _ _) (ae (bO (2^n) b) (bQ (ci _ _ _) (ae (bO ((y*2^n+w) / b) _) (ak fk 16 [_] [_,_,_,_] e))))))
 ·rcases bY.mp c with h | h
  ·exact I.lt x h
  ·exact ae (ai.mp h) ⟨ik t.a0 (bl a),hU a (by exact ae (bO (2^n) b) t.ab)⟩
theorem Op (e:1<=p) (f:1<=n):1<=gE p n/\p < 2^(n*gE p n):=by
 have d:1<=jS p:=by
  refine zw λh=>?_
  have:=gn.mp (show aI (p:Int)<=0 from h)
  replace this:=(aM _)▸this
  exact au e7 8 [_] [] e this
 have b:jS p<=n*gE p n:=by
  unfold gE
  have:=sP (jS p+n - 1) n
  have:=gZ (jS p+n - 1) (show n > 0 by assumption)
  exact bI cO 18 [(Internal.jS p:Nat),(n*((Internal.jS p+n - 1) / n):Nat),((Internal.jS p+n - 1)%n:Nat),n,(Internal.jS p+n - 1:Nat)] [] ‹_› this a8
 have c:=gn.mp (show aI (p:Int)<=n*gE p n from b)
 replace c:=(aM _)▸c
 refine ⟨?_,c⟩
 refine zw λh=>?_
 replace b:=(ui.mp h)▸b
 exact au e7 9 [_,_] [] d b
theorem RY (f:1<=n) (a:2^(n - 1)<=b) (d:b < 2^n):aI b=n:=by
 have c:=d9 (n - 1)
 refine sO (kv (au e7 10 [] [_,_] a c) d) (zx λh=>?_)
 have e:=gn.mp (show aI b<=n - 1 by exact au e7 11 [_,_,_] [] h a8)
 have:=fI (n - 1)
 exact eP ee 13 [_,_] [_,_] a e this rfl
theorem Ld {v:Sp} (P:L.lookup ("_div2n1n":Str)=some (n,wh 4500)) (Q:L.lookup ("_int2digits":Str)=some (41,v)) (S:L.lookup ("_digits2int":Str)=some (41,z0))
  (C:∀a k:Nat,1<=a->1<=k->k<=10000->jS a<=1000000->gE a k<=30->v [.int a,.int k] (.lst (aE (j3 k a (gE a k))))):∀G r g,Fj G r->g r->jE (TL L) 2 rM.length tc G g:=by
 rintro G r g ⟨a,b,k,rfl,T,w,h,m,o,p,f,rfl⟩ W
 refine ⟨rfl,rfl,?_⟩
 refine af (Op T w) λN X=>?_
 have u:0 < b:=wV (d9 _) m
 show de _ [nM,nL,nK,nJ,nI,nF,nE,nD] [some (.int a),some (.int b),none,none,none,none,none,none,none] [] _
 refine dM λK c=>?_
 dsimp only [nM,bU,aU,d4,cD,ip,iq,c6,dB,Rt,fU,f6]
 refine ⟨rfl,c _ _ ?_⟩
 refine ae (RY w m o) ?_
 refine dM λK c=>?_
 dsimp only [nL,bU,aU,cU,cD,cL,c6,dB,fU,f6,ey]
 refine ⟨dD Q,ed Q rfl (C a k T w (ak ce 4 [_] [] h) p f) ?_⟩
 refine ⟨rfl,c _ _ ?_⟩
 refine dM λK c=>?_
 dsimp only [nK,bU,bt,cs,bV,fU,f6]
 refine c _ _ ?_
 refine dM λK c=>?_
 dsimp only [nJ,bU,eE,cD,fU,f6,w9]
 refine c _ _ ?_
 refine dM λK c=>?_
 dsimp only [nI,kr,aU,Pl,c6,dB]
 have l:(j3 k a (gE a k)).reverse.length=gE a k:=by refine ae dR (ae (rW _ _ _) rfl)
 refine jD (λj M H=>∃q r x y,M=[some (.int a),some (.int b),some (.int k),some (.lst (aE (j3 k a (gE a k)))),some (.int r),some (.ref 0),x,y,none]/\H=[cM q]/\DN k b (j3 k a (gE a k)).reverse j q r) _ 0 _ _ ⟨[],0,_,_,rfl,rfl,.zero u⟩ ?_ ?_
 ·rintro j x M H k' i ⟨q,r,y,z,rfl,rfl,I⟩ U _
  rw [cq] at I U
  have E:∃d,(j3 k a (gE a k)).reverse[j]? =some d/\x=.int d:=by
   unfold aE at i
   replace i:=(dc)▸(Eq.symm zi)▸i
   cases hd:(j3 k a (gE a k)).reverse[j]? with
   | none=>replace i:=(hd)▸i;exact bN i
   | some d=>replace i:=(hd)▸i;cases i;exact ⟨d,rfl,rfl⟩
  refine ah E λd F=>af F λhd J=>?_;subst J
  have A:d < 2^k:=Gc k _ _ X d (qV.mp (bB hd))
  have Z:j < gE a k:=bQ l ((aL.mp hd).1)
  have t:=I.div m o w A
  refine dM (s:=nH) (r:=[nG]) λK c=>?_
  dsimp only [nH,hW,aU,bK,cU,cD,cL,bW,c6,dB,AH,ky,fU,f6,ez,eN,ey]
  refine ⟨dD P,aO _,q7 (kv I.r0 (GL I.rb o)) (ak fk 17 [_] [] h),?_⟩
  refine ae (aZ _) ?_
  refine ed P rfl ⟨_,_,_,rfl,t,h,rfl⟩ ?_
  refine ⟨rfl,c _ _ ?_⟩
  refine dM λK c=>?_
  dsimp only [nG,oa,aU,d4,cD,cL,ip,iq,c6,dB,fU,f6,ez,eN]
  refine ⟨rfl,pB rfl (by unfold cM;exact ae (bv _) (ae I.len (au e7 12 [_,_] [] f Z))) (c _ _ (c0 (U _ _ ⟨_,_,_,_,rfl,?_,I.step hd t⟩)))⟩
  show [cM q++[_]]=[cM (q++[_])]
  unfold cM
  refine ae gj ?_;rfl
 ·rintro M H ⟨q,r,y,z,rfl,rfl,I⟩
  have B:(aE (j3 k a (gE a k))).reverse.length=gE a k:=by refine ae dR ?_;unfold aE;refine ae (bv _) (ae (rW _ _ _) rfl)
  replace I:=(cq _)▸(B)▸I
  have D:=I.val
  have e:GS k (j3 k a (gE a k)).reverse (gE a k)=a:=by
   unfold GS
   refine ae (dK (by rw [l];exact aD _)) (ae (Ic _) (ae (Dx k _ _ N) rfl))
  replace D:=(e)▸D
  refine af (S5 (a:=(a:Int)) (q:=j1 k q.reverse) (r:=r) u (ae (bO _ _) (ak fk 18 [_] [_,_] D)) I.r0 I.rb) λk1 k2=>?_
  refine c _ _ ?_
  refine dM λK c=>?_
  dsimp only [nF,oa,aU,d4,cD,ip,iq,c6,dB]
  refine ⟨rfl,Uj rfl (by unfold cM;exact ae (bv _) (ae I.len (ak aK 3 [_] [] f))) (c _ _ ?_)⟩
  refine dM λK c=>?_
  dsimp only [nE,bU,aU,cU,cD,cL,c6,dB,fU,f6,ey]
  have Y:(cM q).reverse=cM q.reverse:=by unfold cM;refine ae zi rfl
  refine ae Y ?_
  refine ⟨dD S,ed S (cF (kt _) rfl) ⟨q.reverse,k,k,rfl,by refine ae dR (ae I.len ?_);exact N,by refine ae dR (ae I.len ?_);exact f,by exact ak ce 4 [_] [] h,by exact ak fk 19 [_] [] h,λd hd=>?_,rfl⟩ ?_⟩
  ·have:=I.lt d (qV.mp hd)
   have:=fI k
   exact bI cO 19 [_,_] [_,_] ‹_› this rfl
  ·refine ⟨rfl,c _ _ ?_⟩
   refine ae eH ?_
   dsimp only [nD,fH,aU,eA,cD,cL,c6,dB]
   refine ⟨_,rfl,?_⟩
   rw [k1,k2] at W
   exact W
theorem On (B:Base C):hO C "_div2n1n" 42 (wh 4000):=
 iw (N:=41) B (by decide) (λO O O h=>by exact nomatch h) Kf.yF Lf
theorem Ol (B:Base C):hO C "_div3n2n" 44 x0:=
 iw (N:=43) (L:=[("_div2n1n",42,wh 4000)]) B (by decide) (λx n a h=>by
  cases ai.mp h
  exact ⟨by decide,On B⟩) Kf.EB (HH rfl)
theorem Om (B:Base C):hO C "_div2n1n" 46 (wh 4500):=
 iw (N:=45) (L:=[("_div3n2n",44,x0)]) B (by decide) (λx n a h=>by
  cases ai.mp h
  exact ⟨by decide,Ol B⟩) Kf.yF (HJ rfl)
theorem gr {b:Sp}{a:Str×Nat×Sp} (h:(x,n,b)∈a::L):(x,n,b)=a\/(x,n,b)∈L:=aX.mp h
def TB:Sp:=λb r=>∃a n:Nat,b=[.int a,.int n]/\1<=a/\1<=n/\n<=10000/\jS a<=1000000/\gE a n<=30/\r=.lst (aE (j3 n a (gE a n)))
theorem RX (B:Base C):hO C "_divmod_pos" 48 Fj:=
 iw (N:=47) (L:=[("_div2n1n",46,wh 4500),("_int2digits",41,TB),("_digits2int",41,z0)]) B (by decide) (λx n g h=>by
  rcases gr h with h | h
  ·cases h;exact ⟨by decide,Om B⟩
  ·rcases gr h with h | h
   ·cases h;exact ⟨by decide,RG B.toDO B.ki⟩
   ·cases ai.mp h;exact ⟨by decide,Ll B.toDO B.kd⟩) Kf.zH
  (Ld rfl rfl rfl λa n b c d e f=>⟨a,n,rfl,b,c,d,e,f,rfl⟩)
section
variable {α β:Type _}{a:α}{l r:List α}{f:α->β}
theorem BE:ey f []=[]:=rfl
theorem BC:ey f (a::l)=f a::ey f l:=rfl
theorem Oy:([]:List α)++l=l:=rfl
theorem Ox:(a::l)++r=a::(l++r):=rfl
end
theorem BU:Dt (.lst l) (.lst []) J=some l.isEmpty:=by
 unfold Dt
 show SK l []=_
 cases l<;>rfl
theorem F0 (h:J[n]? =some l):Dt (.ref n) (.lst []) J=some l.isEmpty:=by
 unfold Dt
 have e:vw J (.ref n)=.lst l:=by show V.lst (J.getD n [])=_;refine ae ax (ae h ?_);rfl
 refine ae e ?_
 show SK l []=_
 cases l<;>rfl
theorem FG (h:J[n]? =some l) (a:l.length<=1000) (b:g (.int (l.length:Nat))):sI "len" [.ref n] J g:=by
 refine ae Ph (ae ax (ae h ?_))
 exact ⟨a,b⟩
theorem Bh {Q:Hs->Prop} (h:J[n]? =some l) (a:p < l.length) (b:l.length<=1000) (c:Q (J.set n (l.set p v))):CS J (.ref n) (.int (p:Int)) v Q:=by
 unfold CS
 dsimp only
 exact ae h ⟨aO _,by exact ak aK 17 [_,_] [] a,by exact ak ce 12 [_] [] b,by exact ae (aZ _) c⟩
theorem bS (l:List Nat):(aE l).length=l.length:=bv ..
theorem Za (l:List Nat) (i x:Nat):(aE l).set i (.int (x:Int))=aE (l.set i x):=(Vx (f:=λ(d:Nat)=>V.int (d:Int))).symm
theorem ints_app (l r:List Nat):aE l++aE r=aE (l++r):=(gj ..).symm
theorem Ao (l:List Nat):(aE l).getLast? =l.getLast?.map λ(d:Nat)=>V.int (d:Int):=List.getLast?_map ..
theorem Ap (l:List Nat):(aE l).dropLast=aE l.dropLast:=(List.map_dropLast ..).symm
theorem FR {f:V->Option V}{a:V}{b:List V} (c:f v=some a) (d:vM f l=some b):vM f (v::l)=some (a::b):=by
 show (match f v,vM f l with | some a,some b=>some (a::b) | _,_=>none)=_
 rw [c,d]
theorem rQ {k:Nat}{H:Hs}:∀l:List Nat,vM (fz (k+1) H) (aE l)=some (aE l)
 | []=>rfl
 | x::r=>by
  show vM (fz (k+1) H) (.int (x:Int)::aE r)=_
  exact FR rfl (rQ r)
theorem As {k:Nat}{H:Hs}:∀l:List Int,vM (fz (k+1) H) (cM l)=some (cM l)
 | []=>rfl
 | x::r=>by
  show vM (fz (k+1) H) (.int x::cM r)=_
  exact FR rfl (As r)
theorem yG {l':List V} (h:J[n]? =some l) (e:vM (fz p J) l=some l'):fz (p+1) J (.ref n)=some (.lst l'):=by
 show (match J[n]? with | some a=>(vM (fz p J) a).map V.lst | none=>none)=_
 exact ae h (congrArg (Ib V.lst) e)
theorem RT {r a b:List V} (e:J[w]? =some l) (f:J[n]? =some r) (c:vM (fz p J) l=some a) (d:vM (fz p J) r=some b):fz (p+2) J (.tup [.ref w,.ref n])=some (.tup [.lst a,.lst b]):=by
 exact congrArg (Ib V.tup) (FR (yG e c) (FR (yG f d) rfl))
theorem p8 {code:Int}{k:Nat} (b:1<=k):∃i:Nat,code.fmod k=i/\i < k:=by
 have a:=sC code (show (0:Int) < k by exact ak ce 13 [_] [] b)
 have c:=wW code (show (0:Int) < k by exact ak ce 13 [_] [] b)
 exact ⟨(code.fmod k).toNat,by exact au eY 1 [_] [_] a rfl,by exact bI eT 22 [_,_] [_] a c rfl⟩
theorem Ak (a:1<=n) (h:n<=1000):((n:Int)).natAbs.log2 < 9000:=by
 exact ae (aM _) (am ((uh (ak ce 10 [_] [] a)).mpr (show n < 2^10 by exact ak fh 7 [_] [] h)) (by decide))
theorem tK (h:n<=9) (c:g (.int ((2^n:Nat):Int))):hY .Pow (.int 2) (.int n) g:=by
 have a:aI (2:Int)=2:=by decide +kernel
 have b:(2:Int)^27=134217728:=by decide
 refine ⟨aO _,by refine ae a (ae b ?_);lia,?_⟩
 exact ae (aZ _) (bQ (fI _) c)
theorem JM (h:n<=6):2^n<=64:=dI (n:=2) (by decide) h
structure iC where
 m:List Nat
 s:List Nat
 a:List Nat
 b:List Nat
variable {u:iC}
noncomputable def iC.pick (w:iC):List Nat:=(if w.a.isEmpty then [] else [2])++(if w.b.isEmpty then [] else [3])
noncomputable def iC.j4 (b a:Nat) (w:iC):List Nat:=w.pick++(if w.a.length+w.b.length+a < b then [0,1] else [])
noncomputable def iC.go (a:Nat) (w:iC):Nat->iC
 | 0=>⟨w.m,w.s++[0],w.a++[a],w.b⟩
 | 1=>⟨w.m,w.s++[1],w.a,w.b++[a]⟩
 | 2=>⟨(w.m.set a (w.a.getLast?.getD 0)).set (w.a.getLast?.getD 0) a,w.s++[0],w.a.dropLast,w.b⟩
 | _=>⟨(w.m.set a (w.b.getLast?.getD 0)).set (w.b.getLast?.getD 0) a,w.s++[1],w.a,w.b.dropLast⟩
noncomputable def iC.ok (a b:Nat) (w:iC):Bool:=
 w.m.length==a && w.s.length==b && !(w.j4 a b).isEmpty && decide (w.a.length<=6) && decide (w.b.length<=6) && decide (w.a.getLast?.getD 0 < a) && decide (w.b.getLast?.getD 0 < a)
noncomputable def reach (a:Nat):Nat->List iC
 | 0=>[⟨bk a 0,[],[],[]⟩]
 | p+1=>(reach a p).flatMap λw=>(w.j4 a p).map (w.go p)
noncomputable def uT (a:Nat):Nat->Bool
 | 0=>true
 | p+1=>uT a p && (reach a p).all (iC.ok a p)
section
set_option autoImplicit true
theorem T7 (a:Nat):uT a 0=(true):=rfl
theorem JO (a:Nat):uT a (p'+1)=(uT a p' && (reach a p').all (iC.ok a p')):=rfl
end
theorem ub:uT 4 4=true:=by decide +kernel
theorem JP:uT 6 6=true:=by decide +kernel
theorem JN {a:Nat}:∀{n p:Nat},uT a n=true->p < n->∀w∈reach a p,iC.ok a p w=true
 | n+1,p,h,d,w,c=>by
  replace h:=(az _ _)▸(JO _)▸h
  rcases gM p n with b | b
  ·exact JN h.1 b w c
  ·obtain rfl:p=n:=by exact au e7 6 [_,_] [] d b
   exact aS.mp h.2 w c
noncomputable def iC.H (w:iC) (J:Hs):Hs:=aE w.m::aE w.s::aE w.a::aE w.b::J
noncomputable abbrev iC.σ (a:Int) (b:Nat) (x y z:Option V):Sg:=[some (.int a),some (.int b),some (.ref 0),some (.ref 1),some (.lst [.ref 2,.ref 3]),x,y,z]
theorem Ue {Q:Fl->Sg->Hs->Prop}{y z:Option V}
  (h:K (iC.σ b n e (some (.ref (u.H J).length)) z) (u.H J++[aE u.pick])):
  wpS (TL L) ow (iC.σ b n e y z) (u.H J) λj d g=>match j with | none=>K d g | some v=>Q (some v) d g:=by
 dsimp only [ow,bU,bt,aU,bK,eA,ec,cD,cL,zI,w8,cs,bV]
 refine ⟨by decide,?_⟩
 refine yQ (λv=>match v with | .int 0=>if u.a.isEmpty then none else some (.int 2) | .int 1=>if u.b.isEmpty then none else some (.int 3) | _=>none) _ _ _ (λv f k w=>?_) ?_
 ·rcases aX.mp f with rfl | f
  ·dsimp only [fu,n8,n9,lN,qX,kX,fR,bt,aU,iB,bK,jb,hF,iX,iW,cU,d5,m7,d4,dx,iV,eE,eA,ec,cD,cL,bW,df,eM,cs,bV,c6,dB,xd,ky,ey,t9,bH,dA,cV]
   refine dL (i:=0) (by decide) rfl ⟨_,F0 rfl,?_⟩
   refine ae (show (aE u.a).isEmpty=u.a.isEmpty by unfold aE;cases u.a<;>rfl) ?_
   cases a:u.a.isEmpty<;>replace w:=(a)▸w<;>exact ⟨λh=>(by first | exact w | exact bT h),λh=>(by first | exact w | exact dS h)⟩
  ·cases ai.mp f
   dsimp only [fu,n8,n9,lN,qX,kX,fR,bt,aU,iB,bK,jb,hF,iX,iW,cU,d5,m7,d4,dx,iV,eE,eA,ec,cD,cL,bW,df,eM,cs,bV,c6,dB,xd,ky,ey,t9,bH,dA,cV]
   refine dL (i:=1) (by decide) rfl ⟨_,F0 rfl,?_⟩
   refine ae (show (aE u.b).isEmpty=u.b.isEmpty by unfold aE;cases u.b<;>rfl) ?_
   cases a:u.b.isEmpty<;>replace w:=(a)▸w<;>exact ⟨λh=>(by first | exact w | exact bT h),λh=>(by first | exact w | exact dS h)⟩
 ·have a:[]++Cc (λv:V=>match v with | .int 0=>if u.a.isEmpty then none else some (V.int 2) | .int 1=>if u.b.isEmpty then none else some (V.int 3) | _=>none) [V.int 0,V.int 1]=aE u.pick:=by
   unfold iC.pick
   cases u.a.isEmpty<;>cases u.b.isEmpty<;>rfl
  exact ae a h
theorem vn {H:Hs}{x:List V}:(H++[x])[H.length]? =some x:=gI ..
theorem M3 {y:List V}:(J++[l]).set J.length y=J++[y]:=by
 refine ae (GH _ _ (aD _)) (ae (GG _) ?_);rfl
theorem Ud {Q:Fl->Sg->Hs->Prop} (m:u.a.length<=6) (w:u.b.length<=6)
  (h:K (iC.σ b n (some (.int p)) (some (.ref (u.H J).length)) e) (u.H J++[aE (u.j4 n p)])):
  wpS (TL L) ou (iC.σ b n (some (.int p)) (some (.ref (u.H J).length)) e) (u.H J++[aE u.pick]) λk g j=>match k with | none=>K g j | some v=>Q (some v) g j:=by
 dsimp only [ou,wi,oa,dY,jj,eH,fR,bt,aU,bK,d5,d4,dx,eE,cD,cL,bW,eM,df,ir,ea,ip,iq,cs,bV,c6,dB,kx,pC]
 refine ⟨rfl,dL (i:=0) (by decide) rfl (FG (l:=aE u.a) rfl (ae (bS _) (ak aK 0 [_] [] m)) ⟨rfl,dL (i:=1) (by decide) rfl (FG (l:=aE u.b) rfl (by exact ae (bS _) (ak aK 0 [_] [] w)) ⟨λd=>?_,λd=>?_⟩)⟩)⟩
 ·replace d:=(bS _)▸(bS _)▸d
  have f:=of_decide_eq_true d
  have c:u.j4 n p=u.pick++[0,1]:=by unfold iC.j4;refine ae (if_pos (ak fh 14 [_,_,_,_] [] f)) rfl
  have o:(aE u.pick).length<=2:=by refine ae (bS _) ?_;unfold iC.pick;cases u.a.isEmpty<;>cases u.b.isEmpty<;>decide
  replace h:=(Eq.symm (ints_app _ _))▸(c)▸h
  exact ⟨rfl,Pd vn (ar (Nat.add_le_add_right o 2) (by decide)) (ae M3 h)⟩
 ·replace d:=(bS _)▸(bS _)▸d
  have f:=of_decide_eq_false d
  have c:u.j4 n p=u.pick:=by unfold iC.j4;refine ae (if_neg (ak fh 15 [_,_,_,_] [] f)) (ae (bw _) rfl)
  replace h:=(c)▸h
  exact h
theorem Uc (g:1<=m.length) (Q:m.length<=6) {r:List MS}
  (h:de (TL L) r (iC.σ (b.fdiv m.length) n (some (.int p)) (some (.ref (u.H J).length)) (some (.int ((m.getD (b.fmod m.length).toNat 0:Nat):Int)))) (u.H J++[aE m]) k):
  de (TL L) (ot::oq::r) (iC.σ b n (some (.int p)) (some (.ref (u.H J).length)) e) (u.H J++[aE m]) k:=by
 refine ah (p8 (code:=b) g) λi w=>af w λa l=>?_
 have f:(aE m).length<=1000:=ae (bS _) (ak aK 0 [_] [] Q)
 rw [a,aZ,show m.getD i 0=m[i] by refine ae ax (ae (aT l) ?_);rfl] at h
 refine dM λK j=>?_
 dsimp only [ot,bU,aU,bK,d5,dx,cD,cL,bW,eM,ir,ea,c6,dB,fU,f6]
 refine ⟨rfl,FG vn f ?_⟩
 refine ae (bS _) (ae vA (ae a ?_))
 refine ⟨by exact ak aK 8 [_] [] g,sk vn f (v:=.int ((m[i]:Nat):Int)) (by refine ae (GD _ _) (ae (aT l) ?_);rfl) (j _ _ ?_)⟩
 refine dM λK j=>?_
 dsimp only [oq,bU,aU,bK,d5,cD,cL,bW,ir,ea,c6,dB,fU]
 refine ⟨rfl,FG vn f ?_⟩
 exact ae (bS _) (ae y6 ⟨by exact ak aK 8 [_] [] g,Ak g (ak aK 0 [_] [] Q),j _ _ h⟩)
theorem Dy (h:w∈u.j4 n p):w=0\/w=1\/(w=2/\∃q,u.a.getLast? =some q)\/(w=3/\∃q,u.b.getLast? =some q):=by
 have b:∀l:List Nat,l.isEmpty=false->∃q,l.getLast? =some q:=λl g=>by
  cases l with
  | nil=>exact dS g
  | cons a r=>exact ⟨_,List.getLast?_eq_some_getLast (by exact nofun)⟩
 unfold iC.j4 iC.pick at h
 rcases bY.mp h with h | h
 ·rcases bY.mp h with h | h
  ·cases e:u.a.isEmpty<;>replace h:=(e)▸h
   ·exact .inr (.inr (.inl ⟨ai.mp h,b _ e⟩))
   ·exact nomatch h
  ·cases e:u.b.isEmpty<;>replace h:=(e)▸h
   ·exact .inr (.inr (.inr ⟨ai.mp h,b _ e⟩))
   ·exact nomatch h
 ·split at h
  ·rcases aX.mp h with h | h
   ·exact .inl h
   ·exact .inr (.inl (ai.mp h))
  ·exact nomatch h
theorem BB {w:iC}{d:Nat}{y:Option V} (hs:w.s.length<=6)
  (h:k none (iC.σ b n e y (some (.int d))) (iC.H ⟨w.m,w.s++[d%2],w.a,w.b⟩ J)):de (TL L) [kL] (iC.σ b n e y (some (.int d))) (w.H J) k:=by
 refine dM λK c=>?_
 dsimp only [kL,oa,bt,aU,bK,d4,cD,cL,bW,ip,iq,cs,bV,c6,dB,vA]
 refine ⟨rfl,by decide,pB (l:=aE w.s) rfl (ae (bS _) (ak aK 0 [_] [] hs)) (c _ _ (c0 ?_))⟩
 refine ae (cz _ (by decide)) (ae (show ((d:Int)%2)=((d%2:Nat):Int) by exact au fC 0 [_,_,_] [_,_] r7 lR) ?_)
 have Q:=ints_app w.s [d%2]
 unfold iC.H at h
 dsimp only at h
 replace h:=(Eq.symm Q)▸h
 exact h
theorem Ub (A:u.ok n p=true) (g:n<=6) (o:p < n) (hd:w∈u.j4 n p)
  (h:k none (iC.σ b n (some (.int p)) e (some (.int w))) ((u.go p w).H J)):de (TL L) [oo,kL] (iC.σ b n (some (.int p)) e (some (.int w))) (u.H J) k:=by
 unfold iC.ok at A
 simp only [az,beq_iff_eq,decide_eq_true_eq] at A
 refine f0 A λQ a O C D x z=>?_
 have j:∀(q:Nat) (d:Sg->Hs->Prop) (c:iC) (s:Hs) (m:Sg),c.m=u.m->q < n->(d m (iC.H ⟨(c.m.set p q).set q p,c.s,c.a,c.b⟩ s))->CS (iC.H c s) (.ref 0) (.int (p:Int)) (.int (q:Int)) λB=>lf (.ref 0) (.int (p:Int)) B λv=>CS B (.ref 0) v (.int (p:Int)) λE=>d m E:=λq d c s m y f F=>by
  refine Bh (l:=aE c.m) rfl (ae (bS _) (ae y (au bq 16 [_,_,_] [] o Q))) (by exact ae (bS _) (ae y (au bq 2 [_,_] [] g Q))) ?_
  refine ae (Za _ _ _) ?_
  refine sk (l:=aE (c.m.set p q)) rfl (ae (bS _) (ae jm (ae y (au bq 2 [_,_] [] g Q)))) (v:=.int (q:Int)) (by refine ae (GD _ _) (ae (gH (by rw [y];exact au bq 16 [_,_,_] [] o Q)) ?_);rfl) ?_
  refine Bh (l:=aE (c.m.set p q)) rfl (ae (bS _) (ae jm (ae y (au bq 0 [_,_,_] [] Q f)))) (by exact ae (bS _) (ae jm (ae y (au bq 2 [_,_] [] g Q)))) ?_
  exact ae (Za _ _ _) F
 refine dM λK r=>?_
 dsimp only [oo,uJ,uI,uH,pY,oa,dY,jj,eH,fR,bt,aU,bK,d4,dx,cD,cL,bW,eM,df,ip,iq,cs,bV,c6,dB,kx,HO]
 rcases Dy hd with rfl | rfl | ⟨rfl,q,f⟩ | ⟨rfl,q,f⟩
 ·refine ⟨λO=>dL (i:=0) (by decide) rfl ⟨rfl,pB (l:=aE u.a) rfl (ae (bS _) (ak aK 0 [_] [] C)) (r _ _ ?_)⟩,λh=>by exact dS h⟩
  exact ae (show aE u.a++[V.int (p:Int)]=aE (u.a++[p]) from ints_app u.a [p]) (BB (w:=⟨u.m,u.s,u.a++[p],u.b⟩) (d:=0) (J:=J) (by show u.s.length<=6;exact bI cO 1 [_,_,_] [] g o a) h)
 ·refine ⟨λO=>dL (i:=1) (by decide) rfl ⟨rfl,pB (l:=aE u.b) rfl (ae (bS _) (ak aK 0 [_] [] D)) (r _ _ ?_)⟩,λh=>by exact dS h⟩
  exact ae (show aE u.b++[V.int (p:Int)]=aE (u.b++[p]) from ints_app u.b [p]) (BB (w:=⟨u.m,u.s,u.a,u.b++[p]⟩) (d:=1) (J:=J) (by show u.s.length<=6;exact bI cO 1 [_,_,_] [] g o a) h)
 ·replace x:=(f)▸x
  refine ⟨λh=>(dk h),λO=>dL (i:=0) (by decide) rfl ⟨rfl,J8 (l:=aE u.a) (v:=.int (q:Int)) rfl (ae (bS _) (ak aK 0 [_] [] C)) (by refine ae (Ao _) (ae f ?_);rfl) ?_⟩⟩
  refine ae (Ap _) ?_
  refine j q _ ⟨u.m,u.s,u.a.dropLast,u.b⟩ J _ rfl x (r _ _ ?_)
  unfold iC.go at h
  replace h:=(f)▸h
  exact BB (w:=⟨(u.m.set p q).set q p,u.s,u.a.dropLast,u.b⟩) (d:=2) (J:=J) (by show u.s.length<=6;exact bI cO 1 [_,_,_] [] g o a) h
 ·replace z:=(f)▸z
  refine ⟨λh=>(dk h),λO=>dL (i:=1) (by decide) rfl ⟨rfl,J8 (l:=aE u.b) (v:=.int (q:Int)) rfl (ae (bS _) (ak aK 0 [_] [] D)) (by refine ae (Ao _) (ae f ?_);rfl) ?_⟩⟩
  refine ae (Ap _) ?_
  refine j q _ ⟨u.m,u.s,u.a,u.b.dropLast⟩ J _ rfl z (r _ _ ?_)
  unfold iC.go at h
  replace h:=(f)▸h
  exact BB (w:=⟨(u.m.set p q).set q p,u.s,u.a,u.b.dropLast⟩) (d:=3) (J:=J) (by show u.s.length<=6;exact bI cO 1 [_,_,_] [] g o a) h
noncomputable def Ek:List iC:=reach 4 4++reach 6 6
noncomputable def gV (a:Nat) (b:Int):Nat->Int×iC
 | 0=>(b,⟨bk a 0,[],[],[]⟩)
 | p+1=>((gV a b p).1.fdiv ((gV a b p).2.j4 a p).length,(gV a b p).2.go p (((gV a b p).2.j4 a p).getD ((gV a b p).1.fmod ((gV a b p).2.j4 a p).length).toNat 0))
section
set_option autoImplicit true
theorem SG (b':Nat) (a:Int):gV b' a 0=((a,⟨bk b' 0,[],[],[]⟩)):=rfl
theorem Hk (a:Nat) (b':Int):gV a b' (p'+1)=(((gV a b' p').1.fdiv ((gV a b' p').2.j4 a p').length,(gV a b' p').2.go p' (((gV a b' p').2.j4 a p').getD ((gV a b' p').1.fmod ((gV a b' p').2.j4 a p').length).toNat 0))):=rfl
end
theorem iC.O6 (h:u.ok n p=true):1<=(u.j4 n p).length:=by
 unfold iC.ok at h
 simp only [az] at h
 cases e:u.j4 n p with
 | nil=>replace h:=(e)▸h;exact absurd h.1.1.1.1.2 (by decide)
 | cons a r=>exact ae c9 (bA bZ 0 [_] [])
theorem LD (h:1<=m.length):m.getD (b.fmod m.length).toNat 0∈m:=by
 refine ah (p8 (code:=b) h) λi c=>af c λe d=>?_
 refine ae e (ae (aZ _) (ae ax (ae (aT d) ?_)))
 exact j6 d
theorem p5 {a:Nat}{code:Int} (b:uT a a=true):∀p,p<=a->(gV a code p).2∈reach a p
 | 0,_=>ai.mpr rfl
 | p+1,h=>by
  have c:=p5 (code:=code) b p (b8 ‹_›)
  have d:=iC.O6 (JN b (show p < a by assumption) _ c)
  exact OJ.mpr ⟨_,c,cH.mpr ⟨_,LD d,rfl⟩⟩
noncomputable def zF (c:Int):iC:=if c.fmod 2=0 then (gV 4 (c.fdiv 2) 4).2 else (gV 6 (c.fdiv 2) 6).2
theorem JU (c:Int):zF c∈Ek:=by
 unfold zF Ek
 split
 ·exact t7 _ (p5 ub 4 (by decide))
 ·exact GJ _ (p5 JP 6 (by decide))
def Fi:Sp:=λa r=>∃(c:Int),a=[.int c]/\r=.tup [.lst (aE (zF c).m),.lst (aE (zF c).s)]
theorem C9 {y z:Option V} (o:n<=6) (g:uT n n=true)
  (B:∀c e y z J,k none (iC.σ c n e y z) (iC.H (gV n b n).2 J)):wpS (TL L) ox (iC.σ b n e y z) [bk n (.int 0),[],[],[]] k:=by
 dsimp only [ox,kr,aU,oH,c6,dB]
 refine ⟨aO _,by exact ak aK 7 [_] [] o,?_⟩
 refine ae (aZ _) ?_
 refine jD (λj m H=>∃e y z J,m=iC.σ (gV n b j).1 n e y z/\H=iC.H (gV n b j).2 J) _ 0 _ _ ⟨e,y,z,[],rfl,?_⟩ ?_ ?_
 ·show _=[aE (bk n 0),[],[],[]]
  unfold aE
  refine ae L5 ?_;rfl
 ·rintro j v m H a C ⟨e,y,z,J,rfl,rfl⟩ h _
  refine af (oD C) λQ l=>?_;subst l
  rw [cq] at h ⊢
  have x:=JN g Q _ (p5 (code:=b) g j (b8 ‹_›))
  replace h:=(Hk _ _)▸h
  generalize (gV n b j).1=c at *
  generalize (gV n b j).2=w at *
  have d:=x
  unfold iC.ok at d
  simp only [az,beq_iff_eq,decide_eq_true_eq] at d
  refine f0 d λq r D s u E F=>?_
  have f:=iC.O6 x
  have A:(w.j4 n j).length<=6:=by
   have p:∀(c:Prop) [Decidable c] (e y:List Nat),e.length<=2->y.length<=2->(if c then e else y).length<=2:=λc O e y q r=>by split<;>assumption
   unfold iC.j4 iC.pick
   exact ae bp (ae bp (Cm (Cm (p _ _ _ (by decide) (by decide)) (p _ _ _ (by decide) (by decide))) (p _ _ _ (by decide) (by decide))))
  show de (TL L) [ow,ou,ot,oq,oo,kL] (iC.σ c n (some (.int j)) y z) _ a
  refine dM λK i=>Ue (i _ _ ?_)
  exact dM λK i=>Ud s u (i _ _ (Uc f A (Ub (J:=J++[aE (w.j4 n j)]) x o Q (LD f) (h _ _ ⟨_,_,_,_,rfl,rfl⟩))))
 ·rintro m H ⟨e,y,z,J,rfl,rfl⟩
  exact ae (iU _) (ae (cq _) (B _ _ _ _ _))
theorem JT:∀o r a,Fi o r->a r->jE (TL L) 1 wB.length yt o a:=by
 rintro o r a ⟨c,rfl,rfl⟩ u
 refine ⟨rfl,rfl,?_⟩
 show de _ [ro,rn,rj,ox,mT] [some (.int c),none,none,none,none,none,none,none] [] _
 refine ah (p8 (code:=c) (k:=2) (by decide)) λi j=>af j λe g=>?_
 have f:c.fmod 2=i:=e
 refine dM λK b=>?_
 dsimp only [ro,bU,bt,aU,bK,bW,cs,bV,c6,fU,f6,vA,DF,ky]
 refine ae f ?_
 refine ⟨by decide,jJ (m:=2) (n:=2) (by decide) (kv (bA bZ 1 [_] []) (ak fh 16 [_] [] g)) (by decide),b _ _ ?_⟩
 refine ae (show (4:Int)+2*(i:Int)=((4+2*i:Nat):Int) by exact bA fm 4 [_] []) ?_
 refine dM λK b=>?_
 dsimp only [rn,bU,bt,aU,bK,bW,cs,bV,c6,fU,y6]
 refine ⟨by decide,by decide,b _ _ ?_⟩
 refine dM λK b=>?_
 dsimp only [rj,hW,bt,aU,jb,eE,eA,cD,cL,cs,bV,c6,dB,w9,pC,tG,bH]
 refine ⟨aO _,by exact ak fh 17 [_] [] g,?_⟩
 refine ae (aZ _) ?_
 refine b _ _ ?_
 have d:∀p x y z J w,w=zF c->de (TL L) [mT] (iC.σ p (4+2*i) x y z) (iC.H w J) λs O H=>match s with | none=>a .none | some v=>∃q,fz 8 H v=some q/\a q:=λp x y z J w A=>by
  subst A
  refine ae eH ?_
  dsimp only [mT,fH,aU,eA,cD,cL,c6,dB]
  exact ⟨_,RT (l:=aE (zF c).m) (r:=aE (zF c).s) rfl rfl (rQ _) (rQ _),u⟩
 have h:i=0\/i=1:=ak ce 14 [_] [] g
 refine dM λK b=>?_
 rcases h with rfl | rfl
 ·exact C9 (by decide) ub λO O O O O=>b _ _ (d _ _ _ _ _ _ (by unfold zF;refine ae (if_pos (show c.fmod 2=0 from f)) rfl))
 ·exact C9 (by decide) JP λO O O O O=>b _ _ (d _ _ _ _ _ _ (by unfold zF;refine ae (if_neg (by rw [f];decide)) rfl))
theorem Rk (B:Base C):hO C "_law_net" 42 Fi:=
 iw (N:=41) (L:=[]) B (by decide) (λO O O h=>by exact nomatch h) Kf.EA JT
noncomputable def tM (p:Nat) (s:Int):Nat:=if s=1 then (p+1)%3 else (p+2)%3
noncomputable def Hb (p:Nat):V:=.lst [.int (p:Nat),.int ((p+1)%3:Nat),.int ((p+2)%3:Nat)]
noncomputable def jV:List V:=[Hb 0,Hb 1,Hb 2]
noncomputable def xa (a:List Nat):List Int->Nat->Nat->List Nat->Option Nat
 | [],_,p,_=>some p
 | s::r,j,p,b=>if a.getD j 0 < j/\(b++[tM (tM p s) s]).getD (a.getD j 0) 9≠tM (tM p s) s then none else xa a r (j+1) (tM p s) (b++[tM (tM p s) s])
section
set_option autoImplicit true
theorem NS (a:List Nat):xa a [] u1 p' u2=(some p'):=rfl
theorem VL (a:List Nat):xa a (s'::r') j' p' ch=(if a.getD j' 0 < j'/\(ch++[tM (tM p' s') s']).getD (a.getD j' 0) 9≠tM (tM p' s') s' then none else xa a r' (j'+1) (tM p' s') (ch++[tM (tM p' s') s'])):=rfl
end
theorem JR (p:Nat) (s:Int):tM p s < 3:=by unfold tM;split<;>(first | exact ak fe 2 [((p+1)%3:Nat),((p+1) / 3:Nat),p] [] lR | exact ak fe 3 [((p+2)%3:Nat),((p+2) / 3:Nat),p] [] lR)
theorem CC {X:V} (d:p < 3) (hs:b=1\/b=-1) (c:∀a:V->Prop,a (.int b)->lf X v J a) (h:g (.int (tM p b:Nat))):lf (.lst jV) (.int p) J λs=>lf X v J λw=>lf s w J g:=by
 have Y:jV[p]? =some (Hb p):=by
  have:p=0\/p=1\/p=2:=ak aK 14 [_] [] d
  rcases this with rfl | rfl | rfl<;>rfl
 refine dL (by decide) Y (c _ ?_)
 rcases hs with rfl | rfl
 ·exact dL (i:=1) (by show 3<=1000;decide) rfl h
 ·exact ⟨by show 3<=1000;decide,2,_,rfl,rfl,h⟩
theorem vi (h:n < q.length):(cM q)[n]? =some (.int q[n]):=by
 unfold cM
 refine ae dc (ae (aT h) ?_);rfl
theorem lQ (h:n < m.length):(aE m)[n]? =some (.int (m.getD n 0:Nat)):=by
 refine ae (GD _ _) (ae (aT h) (ae ax (ae (aT h) ?_)));rfl
theorem ku (l:List Int):(cM l).length=l.length:=bv ..
def Ja:Sp:=λb r=>∃(signs:List Int) (a:List Nat),b=[.lst (cM signs),.lst (aE a),.lst jV]/\signs.length<=6/\a.length=signs.length/\(∀s∈signs,s=1\/s=-1)/\(∀m∈a,m < a.length)/\r=.bool (xa a signs 0 0 []==some 0)
noncomputable abbrev Hu (b:List Int) (a:List Nat) (p:Nat) (z:Option V):Sg:=[some (.lst (cM b)),some (.lst (aE a)),some (.lst jV),some (.int p),some (.ref 0),z]
theorem NR {d:List Nat} (r:q.length<=6) (z:m.length=q.length) (hs:∀s∈q,s=1\/s=-1) (A:∀j∈m,j < m.length) (Q:n < q.length) (x:d.length=n) (J:p < 3)
  (C:xa m (q.drop n) n p d=none->k (some (.bool false)) (Hu q m (tM p q[n]) (some (.int n))) [aE (d++[tM (tM p q[n]) q[n]])])
  (w:xa m (q.drop n) n p d=xa m (q.drop (n+1)) (n+1) (tM p q[n]) (d++[tM (tM p q[n]) q[n]])->k none (Hu q m (tM p q[n]) (some (.int n))) [aE (d++[tM (tM p q[n]) q[n]])]):
  de (TL L) [iH,iG,gD] (Hu q m p (some (.int n))) [aE d] k:=by
 have o:=hs _ (j6 Q)
 have F:∀H (f:V->Prop),f (.int q[n])->lf (.lst (cM q)) (.int (n:Int)) H f:=λH f h=>dL (ae (ku _) (ak aK 0 [_] [] r)) (vi Q) h
 have I:m.getD n 0 < m.length:=by
  refine ae ax (ae (aT (au bq 0 [_,_,_] [] z Q)) ?_)
  exact A _ (j6 _)
 have E:∀H (f:V->Prop),f (.int (m.getD n 0:Nat))->lf (.lst (aE m)) (.int (n:Int)) H f:=λH f h=>dL (ae (bS _) (au bq 2 [_,_] [] r z)) (lQ (au bq 0 [_,_,_] [] z Q)) h
 rw [c5 Q,xa] at C w
 generalize q[n]=s at *
 generalize m.getD n 0=j at *
 refine dM λK b=>?_
 dsimp only [iH,bU,aU,dx,eM,c6,dB,fU,f6]
 refine CC J o (F _) (b _ _ ?_)
 have B:=JR p s
 generalize tM p s=a at *
 refine dM λK b=>?_
 dsimp only [iG,oa,aU,d4,dx,cD,cL,eM,ip,iq,c6,dB]
 refine ⟨rfl,CC B o (F _) (pB (l:=aE d) rfl (ae (bS _) (bI eS 10 [_,_,_] [] r Q x)) (b _ _ ?_))⟩
 refine ae (show aE d++[V.int (tM a s:Nat)]=aE (d++[tM a s]) from ints_app d [tM a s]) ?_
 generalize tM a s=c at *
 show de (TL L) [gD] (Hu q m a (some (.int n))) [aE (d++[c])] k
 have g:(d++[c]).length=n+1:=by refine ae bp (ae x ?_);rfl
 have D:∀(i:Nat) (f:V->Prop),i<=n->f (.int ((d++[c]).getD i 9:Nat))->lf (.ref 0) (.int (i:Int)) [aE (d++[c])] f:=λi f G h=>
  sk (l:=aE (d++[c])) rfl (ae (bS _) (bI eS 11 [_,_,_] [] r Q g)) (v:=.int ((d++[c]).getD i 9:Nat)) (by refine ae (GD _ _) (ae (aT (au dm 0 [_,_,_] [] g G)) (ae ax (ae (aT (au dm 0 [_,_,_] [] g G)) ?_)));rfl) h
 have y:(d++[c]).getD n 9=c:=by refine ae ax (bQ x (ae gI ?_));rfl
 refine dM λK b=>?_
 dsimp only [gD,nC,fH,dY,jj,eH,kX,fR,n8,n9,bt,aU,dx,eM,df,cs,bV,c6,dB,xd]
 refine E _ _ ?_
 by_cases e:j < n
 ·refine ae HO (ae (show decide ((j:Int) < n)=true from decide_eq_true (ak aK 17 [_,_] [] e)) ?_)
  refine E _ _ (D _ _ (b8 ‹_›) (D _ _ (aD _) ⟨_,kO,?_⟩))
  refine ae y ?_
  by_cases u:(d++[c]).getD j 9=c
  ·exact ae u (ae (show (!((c:Int)==c))=false by simp) ⟨λh=>(dk h),λO=>b _ _ (c0 (w (by refine ae (if_neg (λh=>h.2 u)) rfl)))⟩)
  ·exact ae (show ((((d++[c]).getD j 9:Nat):Int)==(c:Int))=false from beq_eq_false_iff_ne.mpr (ak ce 19 [_,_] [] u)) ⟨λO=>C (by refine ae (if_pos ⟨e,u⟩) rfl),λh=>(dS h)⟩
 ·exact ae HO (ae (show decide ((j:Int) < n)=false from decide_eq_false (ak aK 10 [_,_] [] e)) ⟨λh=>(dk h),λO=>b _ _ (c0 (w (by refine ae (if_neg (λh=>e h.1)) rfl)))⟩)
theorem NQ:∀n r c,Ja n r->c r->jE (TL L) 3 nQ.length oG n c:=by
 rintro n r c ⟨b,a,rfl,i,x,hs,m,rfl⟩ e
 refine ⟨?_,rfl,?_⟩
 ·exact cF (kt _) (cF (cP _) (by decide +kernel))
 show de _ [ko,kn,km] [some (.lst (cM b)),some (.lst (aE a)),some (.lst jV),none,none,none] [] _
 refine dM λK l=>?_
 dsimp only [ko,hW,bt,eE,eA,cD,cL,cs,bV,w9,tG,bH]
 refine l _ _ ?_
 refine dM λK l=>?_
 dsimp only [kn,kr,aU,d5,cD,cL,oH,ir,ea,c6,ez,eN,fU,f6]
 refine ⟨rfl,?_⟩
 refine ae nR (ae (ku _) ?_)
 refine ⟨by exact ak aK 0 [_] [] i,aO _,by exact ak aK 7 [_] [] i,?_⟩
 refine ae (aZ _) ?_
 refine jD (λj q H=>∃p f z,q=Hu b a p z/\H=[aE f]/\f.length=j/\p < 3/\xa a b 0 0 []=xa a (b.drop j) j p f) _ 0 _ _ ⟨0,[],none,rfl,rfl,rfl,by decide,rfl⟩ ?_ ?_
 ·rintro j v q H k A ⟨p,f,z,rfl,rfl,g,u,d⟩ s y
  refine af (oD A) λw o=>?_;subst o
  rw [cq] at g d s
  show de (TL L) [iH,iG,gD] (Hu b a p (some (.int j))) _ k
  refine NR i x hs m w g u (λh=>y _ _ _ ⟨_,rfl,?_⟩) λh=>s _ _ ⟨_,_,_,rfl,rfl,by refine ae bp (ae g ?_);rfl,JR _ _,d.trans h⟩
  replace e:=(h)▸(d)▸e
  exact e
 ·rintro q H ⟨p,f,z,rfl,rfl,g,u,d⟩
  rw [iU,cq] at g d
  replace d:=(NS _)▸(List.drop_length)▸d
  refine l _ _ ?_
  refine ae eH ?_
  dsimp only [km,fH,bt,aU,iX,df,cs,bV,c6,dB,xe]
  refine ⟨_,kO,_,rfl,?_⟩
  replace e:=(d)▸e
  refine ae (show ((p:Int)==0)=(some p==some 0) by cases p<;>rfl) ?_
  exact e
theorem Us (B:Base C):hO C "_law_is_painted" 42 Ja:=
 iw (N:=41) (L:=[]) B (by decide) (λO O O h=>by exact nomatch h) Kf.vj NQ
noncomputable def Fr (p a:Nat) (H:Hs):Option Hs:=match H[p]? with
 | some l=>match l.getLast? with
  | some (.ref q)=>match H[q]? with
   | some m=>if l.length<=1000/\m.length<=1000 then some (H.set q (m++[.int a])) else none
   | none=>none
  | _=>none
 | none=>none
noncomputable def Jr (p:Nat) (H:Hs):Option Hs:=match H[p]? with
 | some l=>match H[0]? with
  | some r=>if l.length<=900/\r.length<=1000/\p≠0 then some (((H++[[]]).set p (l++[V.ref H.length])).set 0 (r++[V.ref H.length])) else none
  | none=>none
 | none=>none
noncomputable def Jp (p:Nat) (H:Hs):Option Hs:=match H[p]? with
 | some l=>if l.length<=1000/\l≠[] then some (H.set p l.dropLast) else none
 | none=>none
noncomputable def Bp (m s:List Nat) (b p a:Nat) (H:Hs):Option Hs:=(Fr p a H).bind λc=>
 if s.getD a 0=b then (if m.getD a 0 > a then Jr p c else Jp p c).bind (Fr p a) else some c
theorem Jf (h:1<=n):lV (-1) n=some (n - 1):=by
 obtain ⟨k,rfl⟩:∃k,n=k+1:=⟨n - 1,by exact au bq 6 [_,_] [] h a8⟩
 unfold lV
 have e:(if (-1:Int) < 0 then -1+((k+1:Nat):Int) else -1)=k:=ae (if_pos (by decide)) (bA im 6 [_] [])
 dsimp only
 refine ae e (ae (if_pos (by simp;exact bA im 7 [_] [])) ?_)
 rfl
theorem NL (h:l.getLast? =some v):1<=l.length/\l[l.length - 1]? =some v:=by
 replace h:=(Cp)▸h
 exact ⟨by have:=(aL.mp h).1;exact au eU 8 [_,_] [] this a8,h⟩
theorem CL (c:J[n]? =some l) (d:l.length<=1000) (f:l.getLast? =some v) (h:g v):lf (.ref n) (.int (-1)) J g:=by
 have e:vw J (.ref n)=.lst l:=by show V.lst (J.getD n [])=_;refine ae ax (ae c ?_);rfl
 unfold lf
 exact ae e (af (NL f) λa b=>⟨d,_,v,Jf a,b,h⟩)
set_option tactic.hygienic true in
theorem C1 {c:Hs} (h:Fr p n J=some c) (g:B .none c):lf (.ref p) (.int (-1)) J λv=>(ys 36 "append" v).isSome=true/\uW 36 "append" v [.int n] J B:=by
 unfold Fr at h
 split at h
 ·rename_i l e
  split at h
  ·rename_i q b
   split at h
   ·rename_i m f
    split at h
    ·rename_i d
     cases h
     exact CL e d.1 b ⟨rfl,pB f d.2 g⟩
    ·exact bN h
   ·exact bN h
  ·exact bN h
 ·exact bN h
set_option tactic.hygienic true in
theorem Jq {b:Hs}{Q:Hs->Prop} (h:Jr p J=some b) (j:Q b):
  uW 36 "append" (.ref p) [.ref J.length] (J++[[]]) λO c=>(ys 36 "append" (.ref 0)).isSome=true/\lf (.ref p) (.int (-1)) c λv=>uW 36 "append" (.ref 0) [v] c λO g=>Q g:=by
 unfold Jr at h
 split at h
 ·rename_i l d
  split at h
  ·rename_i r f
   split at h
   ·rename_i a
    cases h
    have e:=(aL.mp d).1
    have i:=(aL.mp f).1
    refine pB (l:=l) (by refine ae (cE e) ?_;exact d) (ak e8 2 [_,_,_] [] a) ?_
    refine ⟨rfl,CL (l:=l++[V.ref J.length]) (by refine ae (gH (by rw [bp];exact ak e8 3 [_,_,_] [] e)) rfl) (by refine ae bp ?_;show l.length+1<=1000;exact ak e8 4 [_,_,_] [] a) List.getLast?_concat ?_⟩
    exact pB (l:=r) (by refine ae (ng a.2.2) (ae (cE i) ?_);exact f) a.2.1 j
   ·exact bN h
  ·exact bN h
 ·exact bN h
set_option tactic.hygienic true in
theorem Jo {a:Hs}{Q:Hs->Prop} (h:Jp p J=some a) (f:Q a):uW 36 "pop" (.ref p) [] J λO c=>Q c:=by
 unfold Jp at h
 split at h
 ·rename_i l d
  split at h
  ·rename_i b
   cases h
   cases e:l.getLast? with
   | none=>exact absurd (List.getLast?_eq_none_iff.mp e) b.2
   | some v=>exact J8 d b.1 e f
  ·exact bN h
 ·exact bN h
noncomputable abbrev Jn (m s:List Nat) (a p:Nat) (z:Option V):Sg:=[some (.lst (aE m)),some (.lst (aE s)),some (.ref 0),some (.int a),some (.ref p),z]
theorem Nb {s:List Nat}{Q:Hs} (y:m.length<=6) (hs:s.length=m.length) (x:w < m.length) (h:Bp m s n p w J=some Q) (z:k none (Jn m s n p (some (.int w))) Q):
  de (TL L) [ma,l9] (Jn m s n p (some (.int w))) J k:=by
 have G:∀J (c:V->Prop),c (.int (m.getD w 0:Nat))->lf (.lst (aE m)) (.int (w:Int)) J c:=λJ c h=>dL (ae (bS _) (ak aK 0 [_] [] y)) (lQ x) h
 have I:∀J (c:V->Prop),c (.int (s.getD w 0:Nat))->lf (.lst (aE s)) (.int (w:Int)) J c:=λJ c h=>dL (ae (bS _) (au bq 2 [_,_] [] y hs)) (lQ (au bq 0 [_,_,_] [] hs x)) h
 unfold Bp at h
 refine ah (cg.mp h) λH f=>af f λE g=>?_
 refine dM λK u=>?_
 dsimp only [ma,oa,bt,aU,hF,d4,dx,cD,cL,eM,wg,xV,ip,iq,cs,bV,c6,dB]
 refine C1 E (u _ _ ?_)
 refine dM λK u=>?_
 dsimp only [l9,dY,fR,aU,dx,eM,df,c6,dB]
 refine I _ _ ⟨_,kO,λo=>?_,λo=>?_⟩
 ·have e:s.getD w 0=n:=by have:=eq_of_beq o;exact ak e8 5 [_,_] [] this
  replace g:=(if_pos e)▸g
  refine ah (cg.mp g) λB f=>af f λi F=>?_
  have l:∀(r:Sg->Hs->Prop),(∀A J,de (TL L) [lg] A J (λD q Q=>match D with | none=>K q Q | some v=>k (some v) q Q)->r A J)->r (Jn m s n p (some (.int w))) B:=λr b=>by
   refine b _ _ ?_
   refine dM λC a=>?_
   dsimp only [lg,oa,bt,aU,hF,d4,dx,cD,cL,eM,wg,xV,ip,iq,cs,bV,c6,dB]
   exact C1 F (a _ _ (c0 (u _ _ (c0 z))))
  refine dM λr b=>?_
  dsimp only [qy,dY,jj,eH,fR,aU,dx,eM,df,c6,dB]
  refine G _ _ ⟨λj=>?_,λj=>?_⟩
  ·have d:=of_decide_eq_true j
   replace i:=((if_pos (ak e8 6 [_,_] [] d)))▸i
   dsimp only [qx,qw,oa,bt,aU,hF,d4,dx,eE,cD,cL,eM,wg,xV,ip,iq,cs,bV,c6,dB,w9]
   exact ⟨rfl,Jq i (l _ b)⟩
  ·have d:=of_decide_eq_false j
   replace i:=((if_neg (ak e8 7 [_,_] [] d)))▸i
   dsimp only [pq,oa,aU,d4,cD,ip,iq,c6,dB]
   exact ⟨rfl,Jo i (l _ b)⟩
 ·have e:s.getD w 0≠n:=λe=>by replace o:=(e)▸o;simp at o
  replace g:=(if_neg e)▸g
  cases g
  exact c0 (u _ _ (c0 z))
noncomputable def rB (m s:List Nat) (a p:Nat) (H:Hs):Nat->Option Hs
 | 0=>some H
 | k+1=>(rB m s a p H k).bind (Bp m s a p k)
section
set_option autoImplicit true
theorem SD (m' s':List Nat) (a p':Nat) (H:Hs):rB m' s' a p' H 0=(some H):=rfl
theorem Ac (m' s':List Nat) (a p':Nat) (H:Hs):rB m' s' a p' H (k'+1)=((rB m' s' a p' H k').bind (Bp m' s' a p' k')):=rfl
end
noncomputable def Js (H:Hs):Hs:=((H++[[]])++[[V.ref H.length]]).set 0 (H.getD 0 []++[V.ref H.length])
noncomputable def Bq (m s:List Nat) (a:Nat) (H:Hs):Option Hs:=if H≠[]/\(H.getD 0 []).length<=1000 then rB m s a (H.length+1) (Js H) m.length else none
noncomputable def OZ (m s:List Nat):Option Hs:=(Bq m s 0 [[]]).bind (Bq m s 1)
theorem yf {m s:List Nat}{a p:Nat}{H f:Hs}:∀{n j:Nat},rB m s a p H n=some f->j<=n->∃b,rB m s a p H j=some b
 | 0,j,h,d=>⟨f,by exact ae (ui.mp d) h⟩
 | n+1,j,h,d=>by
  rcases gM n j with c | c
  ·exact ae (show j=n+1 by exact au bq 4 [_,_] [] d c) ⟨_,h⟩
  ·replace h:=(Ac _ _ _ _ _)▸h
   exact ah (cg.mp h) λi e=>af e λg O=>(yf g c)
theorem Fq {s:List Nat}{side:Nat}{q:Hs}{z:Option V} (n:m.length<=6) (hs:s.length=m.length) (h:Bq m s side J=some q) (C:∀z,k none (Jn m s side (J.length+1) z) q):
  de (TL L) [mf,me,mc] [some (.lst (aE m)),some (.lst (aE s)),some (.ref 0),some (.int side),e,z] J k:=by
 unfold Bq at h
 split at h
 ·rename_i w
  obtain ⟨r,c,rfl⟩:∃r c,J=r::c:=by
   cases J with
   | nil=>exact absurd rfl w.1
   | cons a b=>exact ⟨a,b,rfl⟩
  refine dM λK y=>?_
  dsimp only [mf,bU,eE,cD,cL,w9,fU,f6]
  refine y _ _ ?_
  refine dM λK y=>?_
  dsimp only [me,oa,bt,aU,d4,dx,cD,cL,eM,ip,iq,cs,bV,c6,dB]
  refine ⟨rfl,?_⟩
  refine ae (show ((r::c:Hs)++([[]]:Hs)).length=(r::c:Hs).length+1 from bp) ?_
  refine sk (i:=0) (l:=[V.ref (r::c).length]) (v:=.ref (r::c).length) ?_ (by show 1<=1000;decide) rfl ?_
  ·have:=vn (H:=(r::c)++[[]]) (x:=[V.ref (r::c).length])
   replace this:=(bp)▸this
   exact this
  refine pB (l:=r) rfl w.2 (y _ _ ?_)
  refine dM λK y=>?_
  dsimp only [mc,kr,aU,d5,cD,cL,oH,ir,ea,c6]
  refine ⟨rfl,?_⟩
  refine ae nR (ae (bS _) ?_)
  refine ⟨by exact ak aK 0 [_] [] n,aO _,by exact ak aK 7 [_] [] n,?_⟩
  refine ae (aZ _) ?_
  refine jD (λj p f=>(∃z,p=Jn m s side ((r::c).length+1) z)/\rB m s side ((r::c).length+1) (Js (r::c)) j=some f) _ 0 _ _ ⟨⟨z,rfl⟩,rfl⟩ ?_ ?_
  ·rintro j v p f H D ⟨⟨z,rfl⟩,d⟩ A F
   refine af (oD D) λB o=>?_;subst o
   rw [cq] at d A
   refine ah (yf h (show j+1<=m.length by assumption)) λE u=>?_
   have g:=u
   replace g:=(d)▸(Ac _ _ _ _ _)▸g
   exact Nb n hs B g (A _ _ ⟨⟨_,rfl⟩,u⟩)
  ·rintro p f ⟨⟨z,rfl⟩,d⟩
   replace d:=(h)▸(cq _)▸(iU _)▸d
   cases d
   exact y _ _ (c0 (C _))
 ·exact bN h
def CN:Sp:=λa r=>∃(m s:List Nat) (H:Hs),a=[.lst (aE m),.lst (aE s)]/\m.length<=6/\s.length=m.length/\OZ m s=some H/\fz 8 H (.ref 0)=some r
theorem Na:∀d r a,CN d r->a r->jE (TL L) 2 qI.length rJ d a:=by
 rintro d r a ⟨m,s,H,rfl,e,hs,h,j⟩ i
 refine ⟨cF (cP _) (cF (cP _) rfl),rfl,?_⟩
 show de _ [mi,mh,pp] [some (.lst (aE m)),some (.lst (aE s)),none,none,none,none] [] _
 refine ah (cg.mp h) λk c=>af c λf g=>?_
 refine dM λK b=>?_
 dsimp only [mi,bU,eE,cD,w9,fU,f6]
 refine b _ _ ?_
 refine dM λK b=>?_
 dsimp only [mh,kr,bt,eA,cD,cL,zI,w8,cs,bV,sH,fu,bH]
 refine Fq (side:=0) e hs f λz=>?_
 exact Fq (side:=1) e hs g λz=>b _ _ (ae eH ⟨_,j,i⟩)
theorem TO (B:Base C):hO C "_law_regions" 42 CN:=
 iw (N:=41) (L:=[]) B (by decide) (λO O O h=>by exact nomatch h) Kf.yD Na
noncomputable def Ug:V->Option Nat
 | .int i=>if 0<=i then some i.toNat else none
 | _=>none
noncomputable def Dc:List V->Option (List Nat)
 | []=>some []
 | v::r=>match Ug v,Dc r with
  | some a,some b=>some (a::b)
  | _,_=>none
section
set_option autoImplicit true
theorem Uf:Dc []=(some []):=rfl
end
noncomputable def C4:List V->Option (List (List Nat))
 | []=>some []
 | .lst l::r=>match Dc l,C4 r with
  | some a,some b=>some (a::b)
  | _,_=>none
 | _::_=>none
section
set_option autoImplicit true
theorem TQ:C4 []=(some []):=rfl
end
set_option tactic.hygienic true in
theorem Db:∀{l:List V}{d:List Nat},Dc l=some d->l=aE d
 | [],d,h=>by cases h;rfl
 | v::r,d,h=>by
  rw [Dc] at h
  split at h
  ·rename_i a b c e
   cases h
   refine ae (Db e) ?_
   unfold Ug at c
   split at c
   ·split at c
    ·cases c
     unfold aE
     refine ae bG (ae (kC (by assumption)) rfl)
    ·exact bN c
   ·exact bN c
  ·exact bN h
set_option tactic.hygienic true in
theorem C3:∀{l:List V}{R:List (List Nat)},C4 l=some R->l=R.map λa=>.lst (aE a)
 | [],R,h=>by cases h;rfl
 | v::r,R,h=>by
  cases v
  case lst l=>
   rw [C4] at h
   split at h
   ·rename_i a b c d
    cases h
    refine ae (Db c) (ae (C3 d) ?_);rfl
   ·exact bN h
  all_goals exact bN h
noncomputable def C5 (w:iC):Option (List (List Nat)):=match (OZ w.m w.s).bind λH=>fz 8 H (.ref 0) with
 | some (.lst l)=>C4 l
 | _=>none
set_option tactic.hygienic true in
theorem Ju {R:List (List Nat)} (e:u.m.length<=6) (hs:u.s.length=u.m.length) (h:C5 u=some R):CN [.lst (aE u.m),.lst (aE u.s)] (.lst (R.map λa=>.lst (aE a))):=by
 unfold C5 at h
 split at h
 ·rename_i l f
  refine ah (cg.mp f) λH c=>af c λd b=>?_
  replace b:=(C3 h)▸b
  exact ⟨_,_,H,rfl,e,hs,d,b⟩
 ·exact bN h
theorem fy {c:Type}{f:V->Hs->(Option V->Hs->Prop)->Prop}{H:Hs} (a:c->V) (h:c->Option V):∀(l:List c) (b:List V) (Q:List V->Hs->Prop),(∀x∈l,∀k:Option V->Hs->Prop,k (h x) H->f (a x) H k)->Q (b++l.filterMap h) H->tx f (l.map a) b H Q
 | [],b,Q,_,q=>by replace q:=(bw _)▸(List.filterMap_nil)▸q;exact q
 | x::g,b,Q,d,q=>by
  refine ae bG (ae (DB _) ?_)
  refine d x (aB ..) _ (fy a h g _ Q (λy hy=>d y (aP _ hy)) ?_)
  replace q:=(fK)▸q
  cases e:h x with
  | none=>replace q:=(e)▸q;rw [B9,bw];exact q
  | some v=>replace q:=(e)▸q;rw [B9,cy];exact q
theorem yA:∀l:List Int,wD (cM l)=some l
 | []=>rfl
 | x::r=>by
  show wD (.int x::cM r)=_
  refine ae Km (ae (yA r) ?_);rfl
theorem ET (h:g (.int q.sum)):sI "sum" [.lst (cM q)] J g:=UY.mpr ⟨q,yA q,h⟩
theorem xE (f:Nat->Int):∀l:List Nat,(l.filterMap λp=>some (V.int (f p)))=cM (l.map f)
 | []=>rfl
 | x::r=>by
  refine ae fK (ae (xE f r) ?_);rfl
noncomputable def signsOf (b a:Nat):List Int:=(dT b).map λp=>1 - 2*((a / 2^p%2:Nat):Int)
noncomputable def p7 (s:List Nat) (a:List Int):List Int:=(dT s.length).map λp=>a.getD p 0*(2*((s.getD p 0:Nat):Int) - 1)
noncomputable def sR (b:List Int) (a:List Nat):Bool:=(a.map λp=>b.getD p 0).sum.fmod 3 !=0
noncomputable def um (w:iC) (R:List (List Nat)) (a b:Nat):Option Nat:=
 if (signsOf w.m.length a).sum.fmod 3=0 then
  if (xa w.m (signsOf w.m.length a) 0 0 []==some 0)=(R.filter (sR (p7 w.s (signsOf w.m.length a)))).isEmpty then
   if (R.filter (sR (p7 w.s (signsOf w.m.length a)))).isEmpty=true then some (b+1) else some b
  else none
 else some b
noncomputable def sQ (w:iC) (R:List (List Nat)):Nat->Option Nat
 | 0=>some 0
 | k+1=>(sQ w R k).bind (um w R k)
section
set_option autoImplicit true
theorem Tf (w':iC) (R:List (List Nat)):sQ w' R 0=(some 0):=rfl
theorem Cv (w':iC) (R:List (List Nat)):sQ w' R (k'+1)=((sQ w' R k').bind (um w' R k')):=rfl
end
structure sd (w:iC) (R:List (List Nat)) (k:Nat):Prop where
 len:w.m.length=4\/w.m.length=6
 sl:w.s.length=w.m.length
 ml:∀m∈w.m,m < w.m.length
 s2:∀s∈w.s,s < 2
 ZC:C5 w=some R
 rl:R.length<=100
 ra:∀a∈R,a.length<=100/\∀p∈a,p < w.m.length
 Tg:sQ w R (2^w.m.length)=some k
 k8:k=2\/k=4\/k=8
theorem Lz (a:p < 6) (h:g (.int ((n / 2^p%2:Nat):Int))):hY .Pow (.int 2) (.int p) λv=>hY .FloorDiv (.int n) v λv=>hY .Mod v (.int 2) g:=by
 refine tK (ak e8 19 [_] [] a) ?_
 refine ae y6 ?_
 refine ⟨by have:=cW p;exact ak e8 20 [_] [] this,Ak (cW p) (by have:=JM (show p<=6 by exact b8 ‹_›);exact ak e8 21 [_] [] this),?_⟩
 exact ae vA (ae (cY _ (aO _)) (ae (cz _ (by decide)) ⟨by decide,by exact_mod_cast h⟩))
theorem fY (c:y.natAbs < 2^20) (d:b.natAbs < 2^20) (h:g (.int (y*b))):hY .Mult (.int y) (.int b) g:=
 ⟨jJ (gn.mpr c) (gn.mpr d) (by decide),h⟩
theorem G6 (n c:Nat):(signsOf n c).length=n:=by unfold signsOf;refine ae (bv _) (ae jL rfl)
theorem signs_one (h:b∈signsOf n p):b=1\/b=-1:=by
 unfold signsOf at h
 refine ah (cH.mp h) λc a=>af a λO s=>?_;subst s
 exact ak e8 22 [_,_,_] [] lR
noncomputable abbrev zy (w:iC) (R:List (List Nat)) (e:Nat) (a b c d:Option V):Sg:=[some (.lst (aE w.m)),some (.lst (aE w.s)),some (.lst jV),some (.int w.m.length),some (.lst (R.map λa=>V.lst (aE a))),some (.int e),a,b,c,d]
theorem Wl {R:List (List Nat)}{c d:Option V}{Q:Fl->Sg->Hs->Prop} (g:u.m.length=4\/u.m.length=6)
  (h:K (zy u R p (some (.int n)) (some (.lst (cM (signsOf u.m.length n)))) c d) []):wpS (TL L) mS (zy u R p (some (.int n)) e c d) [] λm a l=>match m with | none=>K a l | some v=>Q (some v) a l:=by
 dsimp only [mS,bU,bt,aU,bK,ec,oH,c6,dB,pC,fU,f6]
 refine ⟨aO _,by exact ak dd 7 [_] [] g,?_⟩
 refine ae (aZ _) ?_
 refine ⟨by refine ae (iU _) ?_;exact ak ce 0 [_] [] g,?_⟩
 unfold rA
 refine fy (λi:Nat=>V.int (i:Int)) (λj=>some (V.int (1 - 2*((n / 2^j%2:Nat):Int)))) _ _ _ (λj o k w=>?_) ?_
 ·have f:j < 6:=by have:=eJ.mp o;exact au hJ 0 [_,_] [] g this
  dsimp only [fu,n8,n9,bt,aU,iB,bK,jb,hF,iX,iW,cU,d5,m7,d4,dx,iV,eE,eA,ec,ey,t9,bH,dA,cV,bW,cs,bV,c6,dB]
  refine ⟨λO=>Lz f (fY (by decide) (au hJ 1 [_,_,_,_] [] rfl lR) ?_),λh=>(dS h)⟩
  exact ae kx w
 ·exact ae (xE _ _) (ae (cV _) h)
theorem Wj {R:List (List Nat)}{c d:Option V}{Q:Fl->Sg->Hs->Prop} (l:u.m.length=4\/u.m.length=6) (hs:u.s.length=u.m.length) (r:∀s∈u.s,s < 2) (j:q.length=u.m.length) (w:∀s∈q,s=1\/s=-1)
  (h:K (zy u R n e (some (.lst (cM q))) (some (.lst (cM (p7 u.s q)))) d) []):wpS (TL L) p0 (zy u R n e (some (.lst (cM q))) c d) [] λo g m=>match o with | none=>K g m | some v=>Q (some v) g m:=by
 dsimp only [p0,bU,bt,aU,bK,dx,ec,oH,c6,dB,pC,fU,f6]
 refine ⟨aO _,by exact ak dd 7 [_] [] l,?_⟩
 refine ae (aZ _) ?_
 refine ⟨by refine ae (iU _) ?_;exact ak ce 0 [_] [] l,?_⟩
 unfold rA
 refine fy (λi:Nat=>V.int (i:Int)) (λp=>some (V.int (q.getD p 0*(2*((u.s.getD p 0:Nat):Int) - 1)))) _ _ _ (λp x k b=>?_) ?_
 ·have a:p < u.m.length:=eJ.mp x
  have y:q.getD p 0=1\/q.getD p 0=-1:=by
   refine ae ax (ae (aT (au bq 0 [_,_,_] [] j a)) ?_)
   exact w _ (j6 _)
  have f:u.s.getD p 0 < 2:=by
   refine ae ax (ae (aT (au bq 0 [_,_,_] [] hs a)) ?_)
   exact r _ (j6 _)
  dsimp only [fu,n8,n9,bt,aU,iB,bK,jb,hF,iX,iW,cU,d5,m7,d4,dx,iV,eE,eA,ec,ey,t9,bH,dA,cV,bW,eM,cs,bV,c6,dB]
  refine ⟨λO=>?_,λh=>(dS h)⟩
  refine dL (v:=.int (q.getD p 0)) (ae (ku _) (au dm 8 [_,_] [] l j)) (by refine ae (vi (au bq 0 [_,_,_] [] j a)) (ae ax (ae (aT (au bq 0 [_,_,_] [] j a)) ?_));rfl) ?_
  exact dL (ae (bS _) (au dm 8 [_,_] [] l hs)) (lQ (au bq 0 [_,_,_] [] hs a)) (fY (by decide) (au hJ 2 [_,_] [] f rfl) (ae kx (fY (au hJ 3 [_] [_] y rfl) (au hJ 4 [_,_] [] f rfl) b)))
 ·refine ae (xE _ _) (ae (cV _) ?_)
  unfold p7 at h
  replace h:=(hs)▸h
  exact h
theorem Wi {R:List (List Nat)}{b d:Option V}{Q:Fl->Sg->Hs->Prop} (s:R.length<=100) (c:∀e∈R,e.length<=100/\∀p∈e,p < q.length) (y:q.length<=6)
  (h:K (zy u R n e b (some (.lst (cM q))) (some (.lst ((R.filter (sR q)).map λe=>V.lst (aE e))))) []):wpS (TL L) pZ (zy u R n e b (some (.lst (cM q))) d) [] λw g f=>match w with | none=>K g f | some v=>Q (some v) g f:=by
 dsimp only [pZ,bU,aU,ec,zI,w8,c6,dB,pC,fU,f6]
 refine ⟨by refine ae (bv _) ?_;exact ak dd 8 [_] [] s,?_⟩
 refine fy (λe:List Nat=>V.lst (aE e)) (λe=>if sR q e then some (V.lst (aE e)) else none) _ _ _ (λr B k j=>?_) ?_
 ·refine af (c r B) λC D=>?_
  dsimp only [fu,n8,n9,lN,qX,kX,fR,bt,aU,iB,bK,jb,hF,iX,iW,cU,d5,m7,d4,dx,iV,eE,eA,ec,cD,cL,zI,oH,Ks,Pl,Kr,w8,ey,t9,bH,dA,cV,bW,ir,ea,eM,df,cs,bV,c6,dB,pC,xd]
  refine ⟨rfl,by refine ae (bS _) ?_;exact ak dd 8 [_] [] C,?_⟩
  refine fy (λi:Nat=>V.int (i:Int)) (λp=>some (V.int (q.getD p 0))) r _ _ (λp z E m=>?_) ?_
  ·have A:=D p z
   refine ⟨λO=>dL (v:=.int (q.getD p 0)) (ae (ku _) (ak aK 0 [_] [] y)) (by refine ae (vi (by assumption)) (ae ax (ae (aT (by assumption)) ?_));rfl) m,λh=>(dS h)⟩
  ·refine ae (xE _ _) (ae (cV _) ?_)
   refine ET ?_
   refine ae vA ?_
   refine ⟨by decide,_,kO,?_⟩
   have a:(!((r.map λp=>q.getD p 0).sum.fmod 3==0))=sR q r:=rfl
   refine ae a ?_
   cases et:sR q r<;>replace j:=(et)▸j<;>exact ⟨λh=>(by first | exact j | exact bT h),λh=>(by first | exact j | exact dS h)⟩
 ·refine ae (cV _) ?_
  have a:∀l:List (List Nat),(l.filterMap λe=>if sR q e then some (V.lst (aE e)) else none)=(l.filter (sR q)).map λe=>V.lst (aE e):=by
   intro l
   induction l with
   | nil=>rfl
   | cons x r o=>
    refine ae fK (ae j7 ?_)
    cases sR q x
    ·exact o
    ·show _::_=_
     refine ae o ?_;rfl
  exact ae (a _) h
theorem eqb {b:Bool}:Dt (.bool o) (.bool b) J=some (o==b):=rfl
theorem Ax {R:List (List Nat)}:(R.map λa=>V.lst (aE a)).isEmpty=R.isEmpty:=by cases R<;>rfl
theorem Wk {R:List (List Nat)}{g j:Nat}{d:Option V} (x:L.lookup ("_law_is_painted":Str)=some (n,Ja)) (F:sd u R j)
  (h:um u R p w=some g) (r:∀e d,k none (zy u R g (some (.int p)) (some (.lst (cM (signsOf u.m.length p)))) e d) []):
  de (TL L) [mR] (zy u R w (some (.int p)) (some (.lst (cM (signsOf u.m.length p)))) e d) [] k:=by
 have v:u.m.length<=6:=by have:=F.len;exact ak aK 11 [_] [] this
 unfold um at h
 have q:=G6 u.m.length p
 have c:=λs (hs:s∈signsOf u.m.length p)=>signs_one hs
 generalize signsOf u.m.length p=f at *
 refine dM λK i=>?_
 dsimp only [mR,dY,fR,bt,aU,bK,d5,cD,cL,bW,ir,ea,df,cs,bV,c6,dB]
 refine ⟨rfl,ET ?_⟩
 refine ae vA ?_
 refine ⟨by decide,_,kO,λm=>?_,λm=>?_⟩
 ·replace h:=((if_pos (eq_of_beq m)))▸h
  refine dM λo b=>Wj F.len F.sl F.s2 q c (b _ _ ?_)
  have z:(p7 u.s f).length=u.m.length:=by unfold p7;refine ae (bv _) (ae jL (ae F.sl rfl))
  generalize p7 u.s f=l at *
  refine dM λo b=>Wi F.rl (λa y=>⟨(F.ra a y).1,by exact ae z ((F.ra a y).2)⟩) (au bq 12 [_,_] [] v z) (b _ _ ?_)
  generalize R.filter (sR l)=T at *
  split at h
  ·rename_i A
   refine dM λo b=>?_
   dsimp only [uG,dY,fR,aU,iX,cU,eE,cD,cL,df,c6,dB,xd,ey,vw]
   refine ⟨dD x,ed x (cF (kt _) (cF (cP _) (by decide +kernel))) ⟨f,u.m,rfl,by exact au bq 12 [_,_] [] v q,by exact ak fj 17 [_,_] [] q,c,F.ml,rfl⟩ ⟨rfl,?_⟩⟩
   refine ⟨_,BU,?_⟩
   refine ae Ax ?_
   refine ⟨_,eqb,?_⟩
   refine ae A (ae (beq_self_eq_true _) ?_)
   refine ⟨λh=>(dk h),λO=>c0 (b _ _ ?_)⟩
   refine dM λo b=>?_
   dsimp only [uE,uD,bU,dY,jj,eH,fR,bt,aU,bK,eE,cD,bW,df,cs,bV,c6,dB,ky,fU,f6]
   refine ⟨_,BU,?_⟩
   refine ae Ax ?_
   cases et:T.isEmpty<;>replace h:=(et)▸h
   ·rw [if_neg (by decide)] at h
    cases h
    exact ⟨λh=>(dk h),λO=>b _ _ (c0 (i _ _ (c0 (r _ _))))⟩
   ·replace h:=(if_pos rfl)▸h
    cases h
    exact ⟨λO=>b _ _ (c0 (i _ _ (c0 (r _ _)))),λh=>(dS h)⟩
  ·exact bN h
 ·rw [if_neg (λQ=>by replace m:=(Q)▸m;exact dS m)] at h
  cases h
  exact c0 (i _ _ (c0 (r _ _)))
theorem zW {w:iC}{R:List (List Nat)}{k:Nat}:∀{n j:Nat},sQ w R n=some k->j<=n->∃e,sQ w R j=some e
 | 0,j,h,b=>⟨k,by exact ae (ui.mp b) h⟩
 | n+1,j,h,b=>by
  rcases gM n j with a | a
  ·exact ae (show j=n+1 by exact au bq 4 [_,_] [] b a) ⟨_,h⟩
  ·replace h:=(Cv _ _)▸h
   exact ah (cg.mp h) λf c=>af c λd O=>(zW d a)
def Bd:Sp:=λa r=>∃w R k,a=[.lst (aE w.m),.lst (aE w.s),.lst jV]/\sd w R k/\r=.int k
theorem Mt (y:L.lookup ("_law_is_painted":Str)=some (n,Ja)) (g:L.lookup ("_law_regions":Str)=some (p,CN)):∀D r f,Bd D r->f r->jE (TL L) 3 vd.length wx D f:=by
 rintro D r f ⟨w,R,k,rfl,F,rfl⟩ A
 refine ⟨cF (cP _) (cF (cP _) (by decide +kernel)),rfl,?_⟩
 have i:w.m.length<=6:=by have:=F.len;exact ak aK 11 [_] [] this
 show de _ [p2,p1,sT] [some (.lst (aE w.m)),some (.lst (aE w.s)),some (.lst jV),none,none,none,none,none,none,none] [] _
 refine dM λK m=>?_
 dsimp only [p2,hW,bt,aU,cU,d5,eA,cD,cL,ir,ea,cs,bV,c6,dB,ey,vw]
 refine ⟨rfl,?_⟩
 refine ae nR (ae (bS _) ?_)
 refine ⟨by exact ak aK 0 [_] [] i,dD g,ed g (cF (cP _) (cF (cP _) rfl)) (Ju i F.sl F.ZC) ⟨rfl,?_⟩⟩
 dsimp only [tG,ez,eN,bH,fU,f6]
 refine m _ _ ?_
 refine dM λK m=>?_
 dsimp only [p1,kr,bt,aU,bK,oH,bW,cs,bV,c6,dB,ez,eN,fU,f6]
 have z:=JM i
 refine tK (ak fj 18 [_] [] i) ⟨aO _,by exact ak ce 5 [_] [] z,?_⟩
 refine ae (aZ _) ?_
 refine jD (λj s H=>∃h a b c d,s=zy w R h a b c d/\H=[]/\sQ w R j=some h) _ 0 _ _ ⟨0,_,_,_,_,rfl,rfl,rfl⟩ ?_ ?_
 ·rintro j v s H C B ⟨h,a,b,c,d,rfl,rfl,e⟩ x I
  refine af (oD B) λG q=>?_;subst q
  rw [cq] at e x
  refine ah (zW F.Tg (show j+1<=2^w.m.length by assumption)) λJ u=>?_
  have l:=u
  replace l:=(e)▸(Cv _ _)▸l
  show de (TL L) [mS,mR] (zy w R h (some (.int j)) b c d) [] C
  exact dM λE o=>Wl F.len (o _ _ (Wk y F l λc d=>x _ _ ⟨_,_,_,_,_,rfl,rfl,u⟩))
 ·rintro s H ⟨h,a,b,c,d,rfl,rfl,e⟩
  replace e:=(F.Tg)▸(cq _)▸(iU _)▸e
  cases e
  exact m _ _ (ae eH ⟨_,rfl,A⟩)
theorem Td (B:Base C):hO C "_law_ways" 44 Bd:=
 iw (N:=43) (L:=[("_law_is_painted",42,Ja),("_law_regions",42,CN)]) B (by decide) (λx n a h=>by
  rcases gr h with h | h
  ·cases h;exact ⟨by decide,Us B⟩
  ·cases ai.mp h;exact ⟨by decide,TO B⟩) Kf.Dl (Mt rfl rfl)
noncomputable def oi (m c:List Nat) (a:Nat):Nat:=if (c.contains (m.getD (a / 2) 0) || c.contains (m.getD (m.getD (a / 2) 0) 0))=true then 2*m.getD (a / 2) 0+a%2 else 2*m.getD (a / 2) 0+1 - a%2
noncomputable def nextOf (b a:Nat):Nat:=if a%2=1 then (a+1)%b else (a+b - 1)%b
noncomputable def BG (m c:List Nat):Nat->Nat->List Nat->Option (List Nat)
 | 0,_,_=>none
 | f+1,a,seen=>if seen.contains a=true then some seen else BG m c f (nextOf (2*m.length) (oi m c a)) (seen++[a,oi m c a])
section
set_option autoImplicit true
theorem VJ (m' c':List Nat):BG m' c' 0 u1 u2=(none):=rfl
theorem FE (m' c':List Nat):BG m' c' (f'+1) VM WC=(if WC.contains VM=true then some WC else BG m' c' f' (nextOf (2*m'.length) (oi m' c' VM)) (WC++[VM,oi m' c' VM])):=rfl
end
noncomputable def Mc (m c:List Nat):Nat->Option (List Nat×Nat)
 | 0=>some ([],0)
 | j+1=>(Mc m c j).bind λp=>(BG m c 14 j p.1).map λs=>(s,if p.1.contains j=true then p.2 else p.2+1)
section
set_option autoImplicit true
theorem WQ (m' c':List Nat):Mc m' c' 0=(some ([],0)):=rfl
theorem Er (m' c':List Nat):Mc m' c' (j'+1)=((Mc m' c' j').bind λp'=>(BG m' c' 14 j' p'.1).map λs'=>(s',if p'.1.contains j'=true then p'.2 else p'.2+1)):=rfl
end
theorem FM (l:List Nat):NV (aE l) (.int n)=some (l.contains n):=by
 unfold NV
 rw [if_pos]
 ·congr 1
  unfold aE
  refine ae xl (ae List.contains_eq_any_beq ?_)
  congr 1
  funext y
  show ((y:Int)==(n:Int))=(n==y)
  refine ae (propext P9) (ae (propext beq_iff_eq) (ae (propext beq_iff_eq) ?_))
  lia
 ·unfold aE
  exact ae xm (aS.mpr λy O=>rfl)
theorem Ko (h:E (m.contains n)):tU .In (.int n) (.lst (aE m)) J E:=⟨_,FM m,h⟩
theorem Fw {l:List Nat} (a:J[n]? =some (aE l)) (h:E (!l.contains p)):tU .NotIn (.int p) (.ref n) J E:=by
 refine ⟨_,?_,h⟩
 show SM (.int p) (.ref n) J=_
 unfold SM
 have e:vw J (.ref n)=.lst (aE l):=by show V.lst (J.getD n [])=_;refine ae ax (ae a ?_);rfl
 exact ae e (FM l)
theorem UG (h:g (.int ((n / 2:Nat):Int))):hY .FloorDiv (.int n) (.int 2) g:=⟨by decide,by decide,by refine ae (cY _ (by decide)) ?_;exact_mod_cast h⟩
theorem KR (h:g (.int ((n%2:Nat):Int))):hY .Mod (.int n) (.int 2) g:=⟨by decide,by refine ae (cz _ (by decide)) ?_;exact_mod_cast h⟩
noncomputable abbrev yv (m c:List Nat) (d:Nat) (e:Option V) (f:Nat) (a b:Option V):Sg:=[some (.lst (aE m)),some (.lst (aE c)),some (.ref 0),some (.int d),some (.int (2*m.length:Nat)),e,some (.int f),a,b]
theorem Nn {c:List Nat}{a:Nat}{Q:Fl->Sg->Hs->Prop} (j:1<=m.length)
  (h:K (yv m c n e (nextOf (2*m.length) a) (some (.int w)) (some (.int a))) J):wpS (TL L) iu (yv m c n e p (some (.int w)) (some (.int a))) J λl i k=>match l with | none=>K i k | some v=>Q (some v) i k:=by
 unfold nextOf at h
 dsimp only [iu,bU,fR,bt,aU,bK,iW,bW,df,fU,f6,c6,dB,cs,bV]
 refine KR ⟨_,kO,λf=>?_,λf=>?_⟩
 ·replace h:=((if_pos (by have:=eq_of_beq f;exact au eV 18 [_,_,_] [] this lR)))▸h
  refine ⟨by exact ak dd 0 [_] [] j,?_⟩
  refine ae (cz _ (bA bZ 11 [_] [])) ?_
  exact_mod_cast h
 ·rw [if_neg (λe=>by replace f:=(e)▸f;exact dS f)] at h
  refine ⟨by exact ak dd 0 [_] [] j,?_⟩
  refine ae (cz _ (bA bZ 11 [_] [])) (ae (show ((a:Int) - 1)%((2*m.length:Nat):Int)=(((a+2*m.length - 1)%(2*m.length):Nat):Int) by
   rw [<- Int.add_emod_right]
   have:(a:Int) - 1+((2*m.length:Nat):Int)=((a+2*m.length - 1:Nat):Int):=au eV 19 [_,_,_] [] j a8
   rw [this];norm_cast) ?_)
  exact h
theorem NH {c j:List Nat}{a b:Option V} (H:1<=m.length) (w:m.length<=6) (F:c.length<=100) (z:∀x∈m,x < m.length) (B:p < 2*m.length) (hs:j.length<=900)
  (o:∀a b,k none (yv m c n e (nextOf (2*m.length) (oi m c p)) a b) [aE (j++[p,oi m c p])]):
  de (TL L) [lE,lD,lC,jz,iu] (yv m c n e p a b) [aE j] k:=by
 have C:(aE m).length<=1000:=ae (bS _) (ak aK 0 [_] [] w)
 have s:∀i,i < m.length->m.getD i 0 < m.length:=λi G=>by
  refine ae ax (ae (aT G) ?_)
  exact z _ (j6 _)
 unfold oi at o
 have u:=s (p / 2) (au dm 5 [_,_,_] [] B fM)
 refine dM λK g=>?_
 dsimp only [lE,bU,bt,aU,bK,dx,bW,eM,fU,f6,c6,dB,cs,bV]
 refine UG (dL C (lQ (au dm 5 [_,_,_] [] B fM)) (g _ _ ?_))
 generalize m.getD (p / 2) 0=f at *
 refine dM λK g=>?_
 dsimp only [lD,bU,bt,aU,bK,bW,fU,f6,c6,dB,cs,bV]
 refine fY (by decide) (bI cO 5 [_,_,_] [] w u rfl) ?_
 refine ae ky ?_
 refine KR ?_
 refine ae kx (ae (show (2*(f:Int)+1 - ((p%2:Nat):Int))=((2*f+1 - p%2:Nat):Int) by exact au eV 20 [_,_,_,_,_] [] a8 lR) ?_)
 refine g _ _ ?_
 have Q:∀d:Nat,(∀a b,k none (yv m c n e (nextOf (2*m.length) d) a b) [aE (j++[p,d])])->de (TL L) [jz,iu] (yv m c n e p (some (.int f)) (some (.int d))) [aE j] k:=λd o=>by
  refine dM λK g=>?_
  dsimp only [jz,oa,aU,d4,eE,cD,cL,ip,iq,pC,c6,dB]
  refine ⟨rfl,Pd (l:=aE j) rfl (by refine ae (bS _) ?_;show _+2<=1000;exact ak e9 5 [_] [] hs) (g _ _ ?_)⟩
  refine dM λK g=>Nn H (g _ _ (c0 ?_))
  have:=o (some (.int f)) (some (.int d))
  replace this:=(Eq.symm (ints_app _ _))▸this
  exact this
 refine dM λK g=>?_
 dsimp only [lC,dY,kX,fR,n8,n9,aU,dx,df,eM,c6,dB]
 have q:(c.contains f || c.contains (m.getD f 0))=true->de (TL L) [oZ] (yv m c n e p (some (.int f)) (some (.int (2*f+1 - p%2:Nat)))) [aE j] λD r A=>match D with | none=>K r A | some v=>k (some v) r A:=λE=>by
  replace o:=(E)▸o
  refine dM λI y=>?_
  dsimp only [oZ,bU,bt,aU,bK,bW,fU,f6,c6,dB,cs,bV]
  exact fY (by decide) (bI cO 5 [_,_,_] [] w u rfl) (KR (ae ky (ae (show (2*(f:Int)+((p%2:Nat):Int))=((2*f+p%2:Nat):Int) by exact ak e9 6 [_,_,_,_] [] lR) (y _ _ (c0 (g _ _ (Q _ o)))))))
 refine Ko ?_
 cases e1:c.contains f
 ·refine dL C (lQ u) (Ko ?_)
  cases e2:c.contains (m.getD f 0)
  ·replace o:=(e2)▸(e1)▸o
   exact ⟨λh=>(dk h),λO=>c0 (g _ _ (Q _ o))⟩
  ·exact ⟨λO=>q (by refine ae e2 (ae (Bool.or_true _) rfl)),λh=>(dS h)⟩
 ·exact ⟨λO=>q (by refine ae e1 ?_;rfl),λh=>(dS h)⟩
theorem Df {L:List (Str×Nat×Sp)}{m c:List Nat}{j:Nat}{e:Option V}{Q:Fl->Sg->Hs->Prop} (p:1<=m.length) (s:m.length<=6) (l:c.length<=100) (n:∀x∈m,x < m.length) {t:Sg->Hs->(Bool->Hs->Prop)->Prop}{r:Sg->Hs->(Fl->Sg->Hs->Prop)->Prop}
  (w:∀d g a b k,k (!g.contains d) [aE g]->t (yv m c j e d a b) [aE g] k) (u:∀y H k,de (TL L) [lE,lD,lC,jz,iu] y H k->r y H k):
  ∀(f d:Nat) (g i:List Nat) (a b:Option V),d < 2*m.length->g.length+2*f<=900->BG m c f d g=some i->(∀d a b,Q none (yv m c j e d a b) [aE i])->A0 t r f (yv m c j e d a b) [aE g] Q
 | 0,d,g,i,a,b,v,o,h,q=>by exact np _ h.symm
 | f+1,d,g,i,a,b,v,o,h,q=>by
  replace h:=(FE _ _)▸h
  refine ae (Mw _ _) ?_
  refine w _ _ _ _ _ ?_
  cases e1:g.contains d<;>replace h:=(e1)▸h
  ·refine ⟨λO=>u _ _ _ (NH p s l n v (ak e9 7 [_,_] [] o) λa b=>?_),λh=>(dS h)⟩
   refine Df p s l n w u f _ _ _ _ _ ?_ (by refine ae bp ?_;show _+2+_<=_;exact ak e9 8 [_,_] [] o) h q
   unfold nextOf
   split<;>exact gZ _ (ak e9 9 [_] [] p)
  ·cases h
   exact ⟨λh=>(dk h),λO=>q _ _ _⟩
theorem Dg {m c:List Nat}:∀{f a:Nat}{seen b:List Nat},BG m c f a seen=some b->b.length<=seen.length+2*f
 | 0,_,_,_,h=>by exact bN h
 | f+1,a,seen,b,h=>by
  replace h:=(FE _ _)▸h
  split at h
  ·cases h;exact bA fm 6 [_,_] []
  ·have:=Dg h
   replace this:=(bp)▸this
   have e:[a,oi m c a].length=2:=rfl
   exact au fC 4 [_,_,_,_] [] this e
theorem FD {m c:List Nat}:∀{j:Nat}{p:List Nat×Nat},Mc m c j=some p->p.1.length<=28*j
 | 0,p,h=>by cases h;exact aD _
 | j+1,p,h=>by
  replace h:=(Er _ _)▸h
  refine ah (cg.mp h) λk a=>af a λf g=>?_
  refine ah (dH.mp g) λs a=>af a λi b=>?_;subst b
  have d:=FD f
  have e:=Dg i
  show s.length<=_
  exact au fC 5 [_,_,_] [] d e
theorem FC {m c:List Nat}{p:List Nat×Nat}:∀{n j:Nat},Mc m c n=some p->j<=n->∃f,Mc m c j=some f
 | 0,j,h,b=>⟨p,by exact ae (ui.mp b) h⟩
 | n+1,j,h,b=>by
  rcases gM n j with a | a
  ·exact ae (show j=n+1 by exact au bq 4 [_,_] [] b a) ⟨_,h⟩
  ·replace h:=(Er _ _)▸h
   exact ah (cg.mp h) λg d=>af d λe O=>(FC e a)
def xr:Sp:=λa r=>∃(m c s:List Nat) (k:Nat),a=[.lst (aE m),.lst (aE c)]/\1<=m.length/\m.length<=6/\c.length<=100/\(∀x∈m,x < m.length)/\Mc m c (2*m.length)=some (s,k)/\r=.int k
theorem NG {c f g:List Nat}{x a b:Option V} (y:1<=m.length) (s:m.length<=6) (q:c.length<=100) (r:∀x∈m,x < m.length) (u:p < 2*m.length) (w:f.length<=400) (h:BG m c 14 p f=some g)
  (d:∀x a b,k none [some (.lst (aE m)),some (.lst (aE c)),some (.ref 0),some (.int (if f.contains p=true then n else n+1:Nat)),some (.int (2*m.length:Nat)),some (.int p),x,a,b] [aE g]):
  de (TL L) [o1,o0,lF] [some (.lst (aE m)),some (.lst (aE c)),some (.ref 0),some (.int n),some (.int (2*m.length:Nat)),some (.int p),x,a,b] [aE f] k:=by
 refine dM λK i=>?_
 dsimp only [o1,bU,aU,fU,f6,c6,dB]
 refine i _ _ ?_
 have o:∀n:Nat,(∀x a b,k none [some (.lst (aE m)),some (.lst (aE c)),some (.ref 0),some (.int n),some (.int (2*m.length:Nat)),some (.int p),x,a,b] [aE g])->de (TL L) [lF] (yv m c n (some (.int p)) p a b) [aE f] k:=λn d=>by
  refine dM λK i=>?_
  rw [lF,x6]
  refine ⟨14,?_⟩
  refine Df y s q r (λQ f a b j v=>?_) (λz H j h=>h) _ _ _ _ _ _ u (ak fh 22 [_] [] w) h λQ a b=>i _ _ (c0 (d _ _ _))
  dsimp only [lN,qX,kX,fR,bt,aU,iB,bK,jb,hF,iX,iW,cU,d5,m7,d4,dx,iV,eE,eA,ec,df,c6,dB]
  exact Fw rfl v
 refine dM λK i=>?_
 dsimp only [o0,s8,bU,dY,jj,eH,fR,bt,aU,bK,df,bW,fU,f6,c6,dB,cs,bV]
 refine Fw (l:=f) rfl ?_
 cases e:f.contains p<;>replace d:=(e)▸d
 ·refine ⟨λO=>?_,λh=>(dS h)⟩
  exact ae ky (ae (show ((n:Int)+1)=((n+1:Nat):Int) by exact bA bZ 10 [_] []) (i _ _ (o _ d)))
 ·exact ⟨λh=>(dk h),λO=>i _ _ (o _ d)⟩
theorem NF:∀z r g,xr z r->g r->jE (TL L) 2 tm.length u8 z g:=by
 rintro z r g ⟨m,c,s,k,rfl,F,n,u,w,h,rfl⟩ G
 refine ⟨cF (cP _) (cF (cP _) rfl),rfl,?_⟩
 show de _ [o3,o2,rp] [some (.lst (aE m)),some (.lst (aE c)),none,none,none,none,none,none,none] [] _
 refine dM λK q=>?_
 dsimp only [o3,hW,bt,aU,bK,d5,eE,eA,cD,cL,ir,ea,bW,w9,c6,cs,bV]
 refine ⟨rfl,?_⟩
 refine ae nR (ae (bS _) ?_)
 refine ⟨by exact ak aK 0 [_] [] n,fY (by decide) (au fC 6 [_,_] [] n rfl) ?_⟩
 dsimp only [tG,ez,eN,bH,fU,f6]
 refine ae (show (2*(m.length:Int))=((2*m.length:Nat):Int) by exact bA fm 7 [_] []) ?_
 refine q _ _ ?_
 refine dM λK q=>?_
 dsimp only [o2,kr,aU,oH,ez,eN,fU,f6,c6,dB]
 refine ⟨aO _,by exact ak fh 23 [_] [] n,?_⟩
 refine ae (aZ _) ?_
 refine jD (λj A H=>∃f d e x a b,A=[some (.lst (aE m)),some (.lst (aE c)),some (.ref 0),some (.int (d:Nat)),some (.int (2*m.length:Nat)),e,x,a,b]/\H=[aE f]/\Mc m c j=some (f,d)) _ 0 _ _ ⟨[],0,_,_,_,_,rfl,rfl,rfl⟩ ?_ ?_
 ·rintro j v A H M I ⟨f,d,e,x,a,b,rfl,rfl,i⟩ D J
  refine af (oD I) λC l=>?_;subst l
  rw [cq] at i D
  refine ah (FC h (show j+1<=2*m.length by assumption)) λN B=>?_
  have p:=B
  replace p:=(i)▸(Er _ _)▸p
  refine ah (dH.mp p) λP y=>af y λE l=>?_;subst l
  have o:=FD i
  exact NG F n u w C (ar o (au fC 7 [_,_] [] n C)) E λx a b=>D _ _ ⟨_,_,_,_,_,_,rfl,rfl,B⟩
 ·rintro A H ⟨f,d,e,x,a,b,rfl,rfl,i⟩
  replace i:=(h)▸(cq _)▸(iU _)▸i
  cases i
  exact q _ _ (ae eH ⟨_,rfl,G⟩)
theorem Um (B:Base C):hO C "_law_loops" 42 xr:=
 iw (N:=41) (L:=[]) B (by decide) (λO O O h=>by exact nomatch h) Kf.BO NF
noncomputable def ej (m:List Nat):List Nat:=(dT m.length).filter λp=>decide (p < m.getD p 0)
noncomputable def sv (b:List Nat) (a:Nat):List Nat:=b.zipIdx.filterMap λp=>if a / 2^p.2%2=1 then some p.1 else none
noncomputable def Bb (m:List Nat) (a:Nat) (b:List Int):Option (List Int):=(Mc m (sv (ej m) a) (2*m.length)).bind λp=>
 if p.2 < b.length then some (b.set p.2 (b.getD p.2 0+(-1)^(sv (ej m) a).length)) else none
noncomputable def stN (m:List Nat):Nat->Option (List Int)
 | 0=>some (bk ((ej m).length+2) 0)
 | k+1=>(stN m k).bind (Bb m k)
section
set_option autoImplicit true
theorem WA (m':List Nat):stN m' 0=(some (bk ((ej m').length+2) 0)):=rfl
theorem D6 (m':List Nat):stN m' (k'+1)=((stN m' k').bind (Bb m' k')):=rfl
end
def Fh:Sp:=λa r=>∃(m:List Nat) (c:List Int),a=[.lst (aE m)]/\1<=m.length/\m.length<=6/\(∀x∈m,x < m.length)/\(ej m).length<=3/\stN m (2^(ej m).length)=some c/\r=.lst (cM c)
theorem KS (q:Nat->Bool):∀l:List Nat,(l.filterMap λp=>if q p=true then some (V.int (p:Int)) else none)=aE (l.filter q)
 | []=>rfl
 | x::r=>by
  refine ae fK (ae j7 ?_)
  cases e:q x
  ·exact KS q r
  ·show _::_=_
   refine ae (KS q r) ?_;rfl
theorem Wz {Q:Fl->Sg->Hs->Prop} (c:m.length<=6)
  (h:K [some (.lst (aE m)),some (.lst (aE (ej m))),none,none,none,none] []):wpS (TL L) ka [some (.lst (aE m)),none,none,none,none,none] [] λg b f=>match g with | none=>K b f | some v=>Q (some v) b f:=by
 dsimp only [ka,bU,aU,d5,ec,cD,cL,oH,ir,ea,pC,fU,f6,c6]
 refine ⟨rfl,?_⟩
 refine ae nR (ae (bS _) ?_)
 refine ⟨by exact ak aK 0 [_] [] c,aO _,by exact ak aK 7 [_] [] c,?_⟩
 refine ae (aZ _) ?_
 refine ⟨by refine ae (iU _) ?_;exact ak aK 0 [_] [] c,?_⟩
 unfold rA
 refine fy (λi:Nat=>V.int (i:Int)) (λp=>if decide (p < m.getD p 0)=true then some (V.int (p:Int)) else none) _ _ _ (λp j k a=>?_) ?_
 ·have d:=eJ.mp j
  dsimp only [fu,n8,n9,lN,qX,kX,fR,bt,aU,iB,bK,jb,hF,iX,iW,cU,d5,m7,d4,dx,iV,eE,eA,ec,BE,BC,Oy,Ox,bH,eM,df,Os,ez,eN,fU,f6,c6,dB,cs,bV]
  refine dL (ae (bS _) (ak aK 0 [_] [] c)) (lQ d) ?_
  dsimp only [BE,BC,c6,Os]
  by_cases e:p < m.getD p 0
  ·replace a:=((if_pos (decide_eq_true e)))▸a
   exact ae (show decide ((p:Int) < (m.getD p 0:Nat))=true from decide_eq_true (ak aK 17 [_,_] [] e)) ⟨λO=>a,λh=>(dS h)⟩
  ·rw [if_neg (by exact ae decide_eq_true_eq e)] at a
   exact ae (show decide ((p:Int) < (m.getD p 0:Nat))=false from decide_eq_false (ak aK 10 [_,_] [] e)) ⟨λh=>(dk h),λO=>a⟩
 ·rw [KS λp=>decide (p < m.getD p 0),cV]
  exact h
theorem Av:∀(l:List Nat) (i:Nat),nS i (aE l)=(l.zipIdx i).map λp:Nat×Nat=>V.tup [.int (p.2:Int),.int (p.1:Int)]
 | [],_=>rfl
 | x::r,i=>by
  show nS i (.int (x:Int)::aE r)=_
  refine ae (Du _) (ae (Av r (i+1)) (ae OH ?_));rfl
noncomputable abbrev GW (m:List Nat) (a b c:Option V):Sg:=[some (.lst (aE m)),some (.lst (aE (ej m))),some (.ref 0),a,b,c]
theorem Wy {c:Option V}{Q:Fl->Sg->Hs->Prop} (i:(ej m).length<=3)
  (h:K (GW m (some (.int n)) (some (.lst (aE (sv (ej m) n)))) c) J):wpS (TL L) j9 (GW m (some (.int n)) e c) J λo d g=>match o with | none=>K d g | some v=>Q (some v) d g:=by
 unfold sv at h
 dsimp only [j9,bU,aU,ec,Ks,pC,fU,f6,c6,dB]
 refine ae (Av _ _) ?_
 refine ⟨by refine ae (bv _) (ae L6 ?_);exact ak aK 4 [_] [] i,?_⟩
 refine fy (λp:Nat×Nat=>V.tup [.int (p.2:Int),.int (p.1:Int)]) (λp=>if n / 2^p.2%2=1 then some (V.int (p.1:Int)) else none) _ _ _ (λp q k a=>?_) ?_
 ·have f:p.2 < 3:=by have:=List.mem_zipIdx q;exact au e7 13 [_,_,_,_] [] i this
  dsimp only [fu,n8,n9,lN,qX,kX,fR,bt,aU,iB,bK,jb,hF,iX,iW,cU,d5,m7,d4,dx,iV,eE,eA,ec,BE,BC,Oy,Ox,bH,bW,df,xe,ez,eN,fU,f6,c6,dB,cs,bV]
  refine Lz (ak fk 20 [_] [] f) ⟨_,kO,?_⟩
  by_cases j:n / 2^p.2%2=1
  ·replace a:=(if_pos j)▸a
   exact ae j ⟨λO=>a,λh=>(dS h)⟩
  ·replace a:=(if_neg j)▸a
   exact ae (show n / 2^p.2%2=0 by exact au e7 14 [_,_,_] [] j lR) ⟨λh=>(bT h),λO=>a⟩
 ·have j:∀l:List (Nat×Nat),(l.filterMap λp=>if n / 2^p.2%2=1 then some (V.int (p.1:Int)) else none)=aE (l.filterMap λp=>if n / 2^p.2%2=1 then some p.1 else none):=by
   intro l
   induction l with
   | nil=>rfl
   | cons x r H=>
    refine ae fK (ae fK ?_)
    by_cases j:n / 2^x.2%2=1
    ·refine ae (if_pos j) (ae (if_pos j) (ae H ?_));rfl
    ·exact ae (if_neg j) (ae (if_neg j) H)
  exact ae (j _) (ae (cV _) h)
theorem HL (a:List Nat) (j:Nat):(sv a j).length<=a.length:=by
 unfold sv
 exact ar (List.length_filterMap_le _ _) (ae L6 (aD _))
theorem Wx {cr:List Nat} (c:n < q.length) (b:q.length<=10) (o:cr.length<=3)
  (h:k none (GW m e (some (.lst (aE cr))) (some (.int n))) [cM (q.set n (q.getD n 0+(-1)^cr.length))]):de (TL L) [j8] (GW m e (some (.lst (aE cr))) (some (.int n))) [cM q] k:=by
 have d:(cM q).length<=1000:=ae (ku _) (ak fk 21 [_] [] b)
 refine dM λK j=>?_
 dsimp only [j8,pY,bt,aU,bK,hF,d5,dx,cD,cL,bW,eM,wg,xV,ir,ea,c6,dB,cs,bV]
 refine sk (l:=cM q) rfl d (vi c) ⟨rfl,?_⟩
 refine ae nR (ae (bS _) ?_)
 refine ⟨by exact ak aK 4 [_] [] o,aO _,?_,?_⟩
 ·have g:aI (-1:Int)=1:=by decide +kernel
  have i:(2:Int)^27=134217728:=by decide
  refine ae g (ae i ?_);lia
 refine ae (aZ _) ?_
 show hY .Add (.int q[n]) (.int ((-1)^cr.length)) _
 refine ae ky ?_
 refine Bh (l:=cM q) rfl (ae (ku _) c) d (j _ _ (c0 ?_))
 have a:(cM q).set n (.int (q[n]+(-1)^cr.length))=cM (q.set n (q[n]+(-1)^cr.length)):=(Vx (f:=V.int)).symm
 replace h:=(aT c)▸(ax)▸h
 show k none _ [(cM q).set n _]
 exact ae a h
theorem Fe {m:List Nat}{c:List Int}:∀{n j:Nat},stN m n=some c->j<=n->∃e,stN m j=some e
 | 0,j,h,b=>⟨c,by exact ae (ui.mp b) h⟩
 | n+1,j,h,b=>by
  rcases gM n j with a | a
  ·exact ae (show j=n+1 by exact au bq 4 [_,_] [] b a) ⟨_,h⟩
  ·replace h:=(D6 _)▸h
   exact ah (cg.mp h) λg d=>af d λf O=>(Fe f a)
theorem Ff {m:List Nat}:∀{j:Nat}{c:List Int},stN m j=some c->c.length=(ej m).length+2
 | 0,c,h=>by cases h;exact eG
 | j+1,c,h=>by
  replace h:=(D6 _)▸h
  refine ah (cg.mp h) λf a=>af a λe d=>?_
  unfold Bb at d
  refine ah (cg.mp d) λp a=>af a λO b=>?_
  split at b
  ·cases b
   exact ae jm (Ff e)
  ·exact bN b
theorem MQ (F:L.lookup ("_law_loops":Str)=some (n,xr)):∀A r e,Fh A r->e r->jE (TL L) 1 qH.length rI A e:=by
 rintro A r e ⟨m,c,rfl,S,E,x,f,h,rfl⟩ U
 refine ⟨cF (cP _) rfl,rfl,?_⟩
 show de _ [ka,l8,l7,l0] [some (.lst (aE m)),none,none,none,none,none] [] _
 refine dM λK o=>Wz (Q:=λN O H=>match N with | none=>e .none | some v=>∃I,fz 8 H v=some I/\e I) E (o _ _ ?_)
 refine dM λK o=>?_
 dsimp only [l8,bU,bt,aU,bK,jb,d5,cD,cL,bW,ir,ea,w9,fU,f6,c6,dB,cs,bV]
 refine ⟨rfl,?_⟩
 refine ae nR (ae (bS _) ?_)
 refine ⟨by exact ak aK 4 [_] [] f,?_⟩
 refine ae ky (ae (show (((ej m).length:Int)+2)=(((ej m).length+2:Nat):Int) by exact bA fo 3 [_] []) ?_)
 refine ⟨aO _,by exact ak fk 22 [_] [] f,o _ _ ?_⟩
 refine ae (aZ _) ?_
 refine dM λK o=>?_
 dsimp only [l7,kr,bt,aU,bK,d5,cD,cL,oH,bW,ir,ea,c6,dB,cs,bV]
 refine ⟨rfl,?_⟩
 refine ae nR (ae (bS _) ?_)
 have T:=JM (show (ej m).length<=6 by exact ak fk 23 [_] [] f)
 refine ⟨by exact ak aK 4 [_] [] f,tK (ak fj 0 [_] [] f) ⟨aO _,by exact ak ce 5 [_] [] T,?_⟩⟩
 refine ae (aZ _) ?_
 refine jD (λj C H=>∃k a b d,C=GW m a b d/\H=[cM k]/\stN m j=some k) _ 0 _ _ ⟨_,_,_,_,rfl,?_,rfl⟩ ?_ ?_
 ·show _=[cM (bk ((ej m).length+2) 0)]
  unfold cM
  refine ae L5 ?_;rfl
 ·rintro j v C H X W ⟨k,a,b,d,rfl,rfl,i⟩ G Z
  refine af (oD W) λY B=>?_;subst B
  rw [cq] at i G
  refine ah (Fe h (show j+1<=2^(ej m).length by assumption)) λM D=>?_
  have u:=D
  replace u:=(i)▸(D6 _)▸u
  have s:=Ff i
  have q:=HL (ej m) j
  refine ah (cg.mp (show Bb m j k=some M from u)) λp z=>af z λP w=>?_
  split at w
  ·rename_i y
   cases w
   show de (TL L) [j9,l6,j8] (GW m (some (.int j)) b d) [cM k] X
   refine dM λJ g=>Wy f (g _ _ ?_)
   refine dM λJ g=>?_
   dsimp only [l6,bU,aU,cU,cD,cL,ey,vw,fU,f6,c6,dB]
   refine ⟨dD F,ed F (cF (cP _) (cF (cP _) rfl)) ⟨m,_,p.1,p.2,rfl,S,E,by exact au e7 15 [_,_] [] f q,x,P,rfl⟩ ⟨rfl,g _ _ ?_⟩⟩
   exact Wx y (au e7 16 [_,_] [] f s) (au e7 17 [_,_] [] f q) (G _ _ ⟨_,_,_,_,rfl,rfl,D⟩)
  ·exact bN w
 ·rintro C H ⟨k,a,b,d,rfl,rfl,i⟩
  replace i:=(h)▸(cq _)▸(iU _)▸i
  cases i
  refine o _ _ ?_
  refine ae eH ?_
  dsimp only [l0,fH,aU,c6,dB]
  exact ⟨_,yG (l:=cM c) rfl (As _),U⟩
theorem Tz (B:Base C):hO C "_law_strands" 44 Fh:=
 iw (N:=43) (L:=[("_law_loops",42,xr)]) B (by decide) (λx n a h=>by
  cases ai.mp h
  exact ⟨by decide,Um B⟩) Kf.yC (MQ rfl)
noncomputable def o6 (x:Int):List Int->Int
 | []=>0
 | d::r=>d+o6 x r*x
section
set_option autoImplicit true
theorem EI (x':Int):o6 x' []=(0):=rfl
theorem BT (x':Int):o6 x' (d'::r')=(d'+o6 x' r'*x'):=rfl
end
theorem E5 (n:Nat):∀l:List Int,j1 n l=o6 (2^n) l
 | []=>rfl
 | d::r=>by refine ae (uo _) (ae (BT _) (ae (E5 n r) rfl))
theorem FX (R l:Int):∀c:List Int,∃q,o6 R c - o6 l c=(R - l)*q
 | []=>⟨0,by rw [(EI _),(EI _)];simp⟩
 | d::r=>by
  refine ah (FX R l r) λq h=>?_
  refine ⟨o6 R r+q*l,?_⟩
  have e:o6 R r=o6 l r+(R - l)*q:=ak fe 19 [] [_,_,_] h
  have a:(R - l)*(o6 R r+q*l)=R*o6 R r - l*o6 R r+(R - l)*q*l:=by refine ae (eD _ _ _) (ae (gR _ _ _) (ae (ci _ _ _) rfl))
  have b:((R - l)*q)*l=o6 R r*l - o6 l r*l:=by refine ae e (bQ (gR _ _ _) ?_);congr 1;exact bA im 1 [] [_,_]
  have f:=bO (o6 R r) R
  have g:=bO (o6 R r) l
  exact ae (BT _) (ae (BT _) (ae a (ae b (au eV 10 [] [_,_,_,_,_,_] f g))))
theorem FY {R:Int} (a:4<=R):∀(c:List Int),(∀d∈c,d.natAbs<=3)->-(R^c.length) < o6 R c/\o6 R c < R^c.length
 | [],_=>by refine ae (EI _) (ae sB (ae (GK _) ?_));decide
 | d::r,h=>by
  refine af (FY a r λx g=>h x (aP _ g)) λi f=>?_
  have hd:=h d (aB ..)
  have b:(o6 R r)*R<=(R^r.length - 1)*R:=bd (ak ce 21 [] [_,_] f) (ak ce 22 [] [_] a)
  have e:(-(R^r.length)+1)*R<=(o6 R r)*R:=bd (by assumption) (ak ce 22 [] [_] a)
  replace b:=(cT _)▸(gR _ _ _)▸b
  replace e:=(nq _ _)▸(cT _)▸(dw _ _ _)▸e
  exact ae (BT _) (ae c9 (ae (dX _ _) (jH fA 13 [_] [_,_,_,_] a hd b e fW)))
theorem mY {R:Int} (f:1<=R) (h:n<=p):R^n<=R^p:=by
 refine ah (Nat.exists_eq_add_of_le h) λk c=>?_;subst c
 refine ae (i7 _ _ _) ?_
 have d:0 < R^n:=zV (by assumption)
 have e:0 < R^k:=zV (by assumption)
 have:=eC (show 1<=R^k by assumption) (bl d)
 exact ak fe 20 [] [_,_] this
theorem NK {R f g:Int}{L:Nat} (i:1024<=R) (z:1<=b) (j:b<=3) (T:q.length<=L) (hd:∀d∈q,d.natAbs<=3) (p:o6 b q=g) (x:0<=g) (o:g<=24) (k:1<=y) (D:128*y<=R) (l:0<=f) (a:16*f < R):
  ∃e:Nat,((o6 R q*y+f)+(R - b)*R^L)=e/\(e:Int) / (R - b)=((e:Int) - (g*y+f)).fdiv (R - b)/\(e:Int)%(R - b)=g*y+f/\1<=e/\(e:Int) < R^(L+2):=by
 have n:1<=R^L:=by
  have:0 < R^L:=zV (ak fe 21 [] [_] i)
  assumption
 refine af (FY (R:=R) (ak fe 22 [] [_] i) q hd) λJ K=>?_
 have r:=mY (R:=R) (ak fe 23 [] [_] i) T
 have v:(-(R^L))*y<=o6 R q*y:=bd (au eV 11 [] [_,_,_] J r) (ak aK 1 [] [_] k)
 have M:o6 R q*y<=R^L*y:=bd (au eV 12 [] [_,_,_] K r) (ak aK 1 [] [_] k)
 have E:R^L*(128*y)<=R^L*R:=eC D (ak aK 1 [] [_] n)
 have F:R^L*1024<=R^L*R:=eC i (ak aK 1 [] [_] n)
 have N:b*R^L<=3*R^L:=bd j (ak aK 1 [] [_] n)
 have G:1*R<=R^L*R:=bd n (ak e9 0 [] [_] i)
 have P:(R^L*R)*1024<=(R^L*R)*R:=eC i (au eV 13 [] [_,_] n F)
 have H:(R - b)*R^L=R^L*R - b*R^L:=by refine ae (gR _ _ _) (ae (bO R _) rfl)
 have I:R^L*(128*y)=128*(R^L*y):=by refine bQ (ci _ _ _) (bQ (ci _ _ _) (ae (bO (R^L) 128) rfl))
 have Q:R^(L+2)=R^L*R*R:=by refine ae (dX _ _) (ae (dX _ _) rfl)
 replace v:=(nq _ _)▸v
 have s:0<=g*y:=f5 x (ak aK 1 [] [_] k)
 have u:g*y<=24*y:=bd o (ak aK 1 [] [_] k)
 have A:b*R^L>=0:=f5 (ak aK 1 [] [_] z) (ak aK 1 [] [_] n)
 generalize m:(o6 R q*y+f)+(R - b)*R^L=e
 have h:1<=e:=Sj LM 0 [] [_,_,_,_,_,_,_,_,_,_] i l v E F N G H I m
 refine ah (FX R b q) λc C=>?_
 replace C:=(p)▸C
 have B:e=(g*y+f)+(R - b)*(c*y+R^L):=by
  have:(R - b)*(c*y+R^L)=(o6 R q - g)*y+(R - b)*R^L:=by refine ae (eD _ _ _) (bQ (ci _ _ _) (bQ C rfl))
  have S:(o6 R q - g)*y=o6 R q*y - g*y:=gR ..
  exact bI eS 21 [] [_,_,_,_,_,_,_] m this S
 have w:0 < R - b:=au eV 14 [] [_,_] i j
 refine ⟨e.toNat,by exact au eV 15 [_] [_] h rZ,?_,?_,by exact au eV 16 [_] [_] h rZ,by exact ae Q (LO DI 1 [_] [_,_,_,_,_,_,_,_,_,_] a M E G P H I A m h rZ)⟩
 ·refine ae (kC (ak aK 1 [] [_] h)) ?_
  have U:e / (R - b)=c*y+R^L:=by
   refine ae B (ae (Id _ _ (ak ce 23 [] [_,_] w)) (ae (GM (au dm 4 [] [_,_] l s) (jH fA 0 [] [_,_,_,_,_] i j D a u)) (ae (lH _) rfl)))
  have W:e - (g*y+f)=(R - b)*(c*y+R^L):=ak e9 1 [] [_,_,_,_] B
  refine ae U (ae W (ae (cY _ (ak e9 2 [] [_,_] w)) (ae (kE _ (ak ce 23 [] [_,_] w)) rfl)))
 ·refine ae (kC (ak aK 1 [] [_] h)) (ae B (ae (Int.add_mul_emod_self_left _ _ _) (ae (OK (au dm 4 [] [_,_] l s) (jH fA 0 [] [_,_,_,_,_] i j D a u)) rfl)))
noncomputable def Pw (n:Nat):Option Nat->Option (List Int)->Bool
 | some k,some c=>(k==2 || k==4 || k==8) && o6 1 c==0 && o6 2 c==2 && o6 3 c==3*(k:Int) && decide (1<=c.length) && decide (c.length<=n / 2+2) && c.all λd=>decide (d.natAbs<=3)
 | _,_=>false
noncomputable def O9 (w:iC):Bool:=(w.m.length==4 || w.m.length==6) && w.s.length==w.m.length && w.m.all (λm=>decide (m < w.m.length)) && w.s.all (λs=>decide (s < 2)) && decide ((ej w.m).length<=3) &&
 match C5 w with
 | some R=>decide (R.length<=100) && R.all (λa=>decide (a.length<=100) && a.all λp=>decide (p < w.m.length)) && Pw w.m.length (sQ w R (2^w.m.length)) (stN w.m (2^(ej w.m).length))
 | none=>false
theorem Np:(Ek.all O9)=true:=by decide +kernel
structure DM (w:iC) (R:List (List Nat)) (k:Nat) (c:List Int):Prop where
 nf:sd w R k
 f3:(ej w.m).length<=3
 st:stN w.m (2^(ej w.m).length)=some c
 e1:o6 1 c=0
 e2:o6 2 c=2
 e3:o6 3 c=3*(k:Int)
 l1:1<=c.length
 l2:c.length<=w.m.length / 2+2
 d3:∀d∈c,d.natAbs<=3
theorem Hq (h:u∈Ek):∃R k c,DM u R k c:=by
 have f:=aS.mp Np u h
 unfold O9 at f
 rw [az,az,az,az,az,dz,beq_iff_eq,beq_iff_eq,beq_iff_eq,decide_eq_true_eq] at f
 obtain ⟨⟨⟨⟨⟨i,j⟩,l⟩,n⟩,o⟩,e⟩:=f
 cases hR:C5 u with
 | none=>rw [hR] at e;cases e
 | some R=>
  rw [hR] at e
  dsimp only at e
  rw [az,az,decide_eq_true_eq] at e
  obtain ⟨⟨q,r⟩,b⟩:=e
  cases hk:sQ u R (2^u.m.length) with
  | none=>rw [hk] at b;cases b
  | some k=>
   cases hc:stN u.m (2^(ej u.m).length) with
   | none=>rw [hk,hc] at b;cases b
   | some c=>
    rw [hk,hc] at b
    unfold Pw at b
    rw [az,az,az,az,az,az,dz,dz,beq_iff_eq,beq_iff_eq,beq_iff_eq,beq_iff_eq,beq_iff_eq,beq_iff_eq,or_assoc,decide_eq_true_eq,decide_eq_true_eq] at b
    obtain ⟨⟨⟨⟨⟨⟨s,w⟩,v⟩,x⟩,y⟩,z⟩,A⟩:=b
    exact ⟨R,k,c,⟨i,j,λm g=>of_decide_eq_true (aS.mp l m g),λm g=>of_decide_eq_true (aS.mp n m g),hR,q,λa B=>by
     have:=aS.mp r a B
     rw [az,decide_eq_true_eq] at this
     exact ⟨this.1,λp C=>of_decide_eq_true (aS.mp this.2 p C)⟩,hk,s⟩,o,hc,w,v,x,y,z,λd hd=>of_decide_eq_true (aS.mp A d hd)⟩
open Float64 (Right infMag pack dist val sgn decode Num)
theorem PF {q k:Nat} (j:q < 2^53) (i:52<=k) (b:k<=1500):∃t,t < infMag/\i4 t=q*2^k:=by
 have e:infMag=2047*2^52:=rfl
 by_cases a:q=0
 ·subst a
  exact ⟨0,by refine ae e ?_;decide,by refine ae Mi (ae (xL _) rfl)⟩
 ·have g:=Nat.log2_self_le a
  have h:=PX (n:=q)
  have d:q.log2 < 53:=(uh a).mpr j
  generalize q.log2=L at *
  have c:q*2^(52 - L) < 2^53:=by
   have:=Ca h (cW (52 - L))
   rwa [<- du,show L+1+(52 - L)=53 by exact au eX 11 [_,_] [] d a8] at this
  have f:2^52<=q*2^(52 - L):=by
   have:=bC (2^(52 - L)) g
   rwa [<- du,show L+(52 - L)=52 by exact au eX 12 [_,_] [] d a8] at this
  refine ⟨(k - (52 - L))*2^52+q*2^(52 - L),by refine ae e ?_;exact eP jc 4 [_,_,_,_,_] [] b c a8 a8,?_⟩
  refine ae (Float64.V_at (b8 c) (.inl f)) (ae (gP _ _ _) (bQ (du _ _ _) (ae (show 52 - L+(k - (52 - L))=k by exact bI eS 13 [_,_,_,_] [] i a8 a8) rfl)))
theorem U5 {t:Nat} (h:i4 t=i4 n):t=n:=by
 rcases qk t n with a | a | a
 ·have:=PT a;exact au eX 13 [_,_,_,_] [] h this
 ·exact a
 ·have:=PT a;exact au eX 14 [_,_,_,_] [] h this
theorem Ab {W:Nat} (h:Right r o W n) (b:0 < n) (hs:W<=n*2^1100):∃t,r=pack o t/\t < infMag/\∀c,dist W (n*i4 t)<=dist W (n*i4 c):=by
 refine ah h λt d=>cu d λf g i j=>?_;subst f
 have a:t < infMag:=by
  refine Nat.lt_of_le_of_ne g λe=>?_
  have k:=i.mp e
  have l:2*2^1100 < (2^54 - 1)*2^2045:=by decide +kernel
  have m:=Ck l b
  have D:n*(2*2^1100)=2*(n*2^1100):=by rw [Nat.mul_left_comm]
  generalize n*((2^54 - 1)*2^2045)=X at *
  generalize n*2^1100=Y at *
  exact eP jc 5 [_,_,_,_] [] k m hs D
 exact ⟨t,rfl,a,λc=>(j a c).1⟩
theorem ww {W D:Nat} (h:Right r o W D) (g:0 < D) (e:W=D*i4 n) (hs:W<=D*2^1100):r=pack o n:=by
 refine ah (Ab h g hs) λt d=>aA d λf k i=>?_;subst f
 have b:=i n
 replace b:=(Eq.symm e)▸b
 have j:D*i4 t=W:=by unfold dist at b;exact eP jc 6 [_,_,_,_,_] [] b a8 a8 a8
 refine ae (U5 (Nat.eq_of_mul_eq_mul_left g (j.trans e))) rfl
theorem D9 {W K:Nat} (h:Right r o W n) (g:0 < n) (D:52<=K) (b:K<=1040) (i:W < n*2^(53+K)):∃t,r=pack o t/\t < infMag/\dist W (n*i4 t)<=n*2^K:=by
 have hs:W<=n*2^1100:=b8 (am i (gw n (dI (by decide) (ak fe 8 [_] [] b))))
 refine ah (Ab h g hs) λt a=>aA a λf e m=>?_;subst f
 have c:=cW K
 have d:0 < n*2^K:=ug g c
 have p:W / (n*2^K) < 2^53:=by
  exact Iv (ae (gP _ _ _) (bQ (du _ _ _) (ae (Wf _ _) i)))
 refine ah (PF p D (ak fe 9 [_] [] b)) λs a=>af a λO q=>?_
 refine ⟨t,rfl,e,ar (m s) ?_⟩
 refine ae q ?_
 have j:=sP W (n*2^K)
 have k:=gZ W d
 have l:n*(W / (n*2^K)*2^K)=n*2^K*(W / (n*2^K)):=by ac_rfl
 refine ae l ?_
 unfold dist
 exact eP jc 7 [_,_,_,_,_,_] [] j k a8 a8
noncomputable def dy (n:Int):UInt64:=sz (decide (n < 0)) n.natAbs 4096
theorem K5 (h:n<=2^30):n*2^1062<=1*2^1100:=by
 have a:=bC (2^1062) h
 replace a:=(Eq.symm (du _ _ _))▸a
 exact ae (fN _) (ar a (dI (by decide) (by decide)))
theorem F9 (h:b.natAbs<=2^30):∃t,dy b=pack (decide (b < 0)) t/\t < infMag/\i4 t=b.natAbs*2^1062:=by
 refine ah (PF (q:=b.natAbs) (k:=1062) (au eX 15 [_] [_] h fW) (by decide) (by decide)) λt a=>af a λc n=>?_
 refine ⟨t,?_,c,n⟩
 unfold dy
 refine ww (W:=b.natAbs*2^1062) (D:=1) (DV (by decide) ?_ (by decide)) (by decide) (by refine ae n (ae (fN _) rfl)) (K5 h)
 have e:(2:Nat)^1074=2^1062*4096:=by
  refine ae (show (1074:Nat)=1062+12 from rfl) (ae (du _ _ _) rfl)
 rw [e,zT,gP]
theorem Ga {W:Nat} (h:Right r o W n) (g:0 < n) (c:b.natAbs<=2^30) (e:W=n*(b.natAbs*2^1062)) (hs:o=decide (b < 0)):r=dy b:=by
 refine ah (F9 c) λt a=>aA a λd i f=>?_
 refine ae d (bQ hs ?_)
 refine ww h g (ae f e) ?_
 refine ae e ?_
 have:=K5 c
 replace this:=(fN _)▸this
 exact gw n this
theorem mw {n:Int} (h:n.natAbs<=2^30):∃m e,decode (dy n)=.fin (decide (n < 0)) m e/\val (dy n)=n*2^1062/\(m=0<->n=0):=by
 refine ah (F9 h) λt b=>aA b λj f g=>?_
 refine aG (tC (decide (n < 0)) f) λm e b=>af b λk a=>?_
 refine ae j ?_
 refine ⟨m,e,k,?_,?_⟩
 ·refine ae (wT _ f) (ae g ?_)
  unfold sgn
  have i:=fI 1062
  by_cases d:n < 0
  ·refine ae (decide_eq_true d) (ae (if_pos rfl) (ae (da _ _) (ae i (bQ (nq _ _) ?_))))
   congr 1
   exact au dm 3 [_] [_] d fW
  ·refine ae (decide_eq_false d) (ae (if_neg (by decide)) (ae (da _ _) (ae i ?_)))
   congr 1
   exact au eX 16 [_] [_] d fW
 ·replace a:=(g)▸a
  have l:=cW (e+1074).toNat
  have o:=cW 1062
  constructor
  ·rintro rfl
   replace a:=(xL _)▸a
   rcases AW.mp a.symm with c | c
   ·exact au eX 17 [_] [_] a fW
   ·exact ak fe 10 [] [_] c
  ·rintro rfl
   replace a:=(xL _)▸(Int.natAbs_zero)▸a
   rcases AW.mp a with c | c
   ·exact c
   ·exact au eX 18 [_,_] [] l c
theorem VH:(0:Int) < 2^1062:=d9 _
theorem y9 (n:Int):(n*2^1062).natAbs=n.natAbs*2^1062:=by
 refine ae (cG _ _) (ae (g0 _ _) ?_);rfl
theorem Pa (n:Int):decide (n*2^1062 < 0)=decide (n < 0):=by
 have b:=VH
 generalize (2:Int)^1062=X at *
 apply decide_eq_decide.mpr
 constructor
 ·intro h
  by_cases a:n < 0
  ·exact a
  ·have:=f5 (show 0<=n by exact ak aK 12 [] [_] a) (bl b);exact au eX 19 [] [_,_] h this
 ·intro h
  exact Int.mul_neg_of_neg_of_pos h b
theorem AZ:iM false=dy 0:=by decide +kernel
theorem BW (j:y.natAbs<=2^28) (l:b.natAbs<=2^28):cJ (dy y) (dy b)=dy (y+b):=by
 refine aG (mw (n:=y) (au bq 1 [_] [_] j fW)) λm e c=>aA c λo p O=>?_
 refine aG (mw (n:=b) (au bq 1 [_] [_] l fW)) λk f c=>aA c λq r O=>?_
 have h:=H9 o q
 replace h:=(Eq.symm (dw _ _ _))▸(r)▸(p)▸h
 by_cases i:y+b=0
 ·rw [i] at h ⊢
  refine ae (h.1 (io _)) ?_
  have e:(decide (y < 0) && decide (b < 0))=false:=by
   by_cases d:y < 0
   ·refine ae (decide_eq_false (show ¬b < 0 by exact au eX 20 [] [_,_] i d)) (ae (Bool.and_false _) rfl)
   ·refine ae (decide_eq_false d) (ae (Bool.false_and _) rfl)
  exact ae e AZ
 ·have g:(y+b)*2^1062≠0:=SC i (gN VH)
  have d:=h.2 g
  replace d:=(Pa _)▸(y9 _)▸d
  exact Ga d (by decide) (jH fA 11 [_,_,_] [_,_] j l fW fW fW) (by refine ae (fN _) rfl) rfl
theorem rV (j:y.natAbs<=2^28) (l:b.natAbs<=2^28):gv (dy y) (dy b)=dy (y - b):=by
 refine aG (mw (n:=y) (au bq 1 [_] [_] j fW)) λm e c=>aA c λo p O=>?_
 refine aG (mw (n:=b) (au bq 1 [_] [_] l fW)) λk f c=>aA c λq r O=>?_
 have h:=Float64.sub_right o q
 replace h:=(Eq.symm (gR _ _ _))▸(r)▸(p)▸h
 by_cases i:y - b=0
 ·rw [i] at h ⊢
  refine ae (h.1 (io _)) ?_
  have e:(decide (y < 0) && !decide (b < 0))=false:=by
   refine ae (show y=b by exact ak fe 11 [] [_,_] i) ?_
   cases decide (b < 0)<;>rfl
  exact ae e AZ
 ·have g:(y - b)*2^1062≠0:=SC i (gN VH)
  have d:=h.2 g
  replace d:=(Pa _)▸(y9 _)▸d
  exact Ga d (by decide) (jH fA 12 [_,_,_] [_,_] j l fW fW fW) (by refine ae (fN _) rfl) rfl
theorem EK {c:Int} (w:0<=y) (i:0 < b) (x:0<=c) (j:b.natAbs<=2^28) (l:c.natAbs<=2^28) (g:y.natAbs<=2^28) (h:y*4096=c*b):d8 (dy y) (dy b)=dy c:=by
 refine aG (mw (n:=y) (au bq 1 [_] [_] g fW)) λm e d=>aA d λr s O=>?_
 refine aG (mw (n:=b) (au bq 1 [_] [_] j fW)) λk f d=>aA d λu v a=>?_
 have o:=HZ r u (λe=>by have:=a.mp e;exact au eX 21 [] [_] i this)
 replace o:=((decide_eq_false (show ¬b < 0 by exact ak fe 12 [] [_] i)))▸((decide_eq_false (show ¬y < 0 by exact ak ce 20 [] [_] w)))▸(y9 _)▸(y9 _)▸(v)▸(s)▸o
 refine Ga o (ug (au eX 22 [_] [_] i fW) (cW _)) (au bq 1 [_] [_] l fW) ?_ (by refine ae (decide_eq_false (show ¬c < 0 by exact ak ce 20 [] [_] x)) ?_;rfl)
 have p:y.natAbs*4096=c.natAbs*b.natAbs:=by
  refine bQ (cG _ _) (bQ h (ae (cG _ _) ?_));rfl
 have q:(2:Nat)^1074=2^1062*4096:=by
  refine ae (show (1074:Nat)=1062+12 from rfl) (ae (du _ _ _) rfl)
 refine ae q ?_
 generalize (2:Nat)^1062=X
 calc y.natAbs*X*(X*4096)=y.natAbs*4096*(X*X):=by ac_rfl
  _=c.natAbs*b.natAbs*(X*X):=by refine ae p rfl
  _=b.natAbs*X*(c.natAbs*X):=by ac_rfl
theorem K6 (o:y.natAbs<=2^28) (p:b.natAbs<=2^28):be (dy y) (dy b)=some (compare y b):=by
 refine aG (mw (n:=y) (au bq 1 [_] [_] o fW)) λm e c=>aA c λg i O=>?_
 refine aG (mw (n:=b) (au bq 1 [_] [_] p fW)) λk f c=>aA c λj l O=>?_
 refine ae (H8 g j) (ae i (ae l ?_))
 have d:=VH
 generalize (2:Int)^1062=X at *
 congr 1
 rcases lI y b with h | h | h
 ·refine ae (lJ.mpr h) (ae (lJ.mpr (oO h d)) rfl)
 ·subst h;simp
 ·refine ae (lK.mpr h) (ae (lK.mpr (oO h d)) rfl)
theorem JX {M K d:Nat} (hd:0 < d) (e:n*K=M*d) (h:dist n (d*p)<=dist n (d*w)) (i:0 < K) (f:2*dist M (w*K) < K):p=w:=by
 have g:dist (n*K) (d*p*K)<=dist (n*K) (d*w*K):=by
  exact ae (jg n _) (ae (jg (d*p) _) (ae (jg (d*w) _) (ae (pQ _ _ _) (ae (pQ _ _ _) (gw K h)))))
 replace g:=(pQ _ _ _)▸(pQ _ _ _)▸(gP _ _ _)▸(gP _ _ _)▸(jg M _)▸(e)▸g
 have c:=pU g hd
 rcases qk p w with b | b | b
 ·have a:(p+1)*K<=w*K:=bC K b
  replace a:=(fN _)▸(ql _ _ _)▸a
  unfold dist at c f
  exact DJ vC 3 [_,_,_,_,_,_,_,_,_,_] [] f c a a8 a8 a8 a8
 ·exact b
 ·have a:(w+1)*K<=p*K:=bC K b
  replace a:=(fN _)▸(ql _ _ _)▸a
  unfold dist at c f
  exact DJ vC 4 [_,_,_,_,_,_,_,_,_,_] [] f c a a8 a8 a8 a8
theorem ye (hd:decode r=.fin o n y) {T:Int} (h:2*(val r - T*2^1074).natAbs < 2^1074):iL cS r=T:=by
 refine ae (Flt.toInt_fin hd) ?_
 have l:=n5 hd
 have hs:=HY n y 1074 (H0 hd)
 have d:=HX n 1 y (by decide)
 have g:=cW 1074
 unfold cS
 show sgn o (Float64.halfEven (t3 n 1 y).1 (t3 n 1 y).2)=T
 have k:=Float64.halfEven_nearest (t3 n 1 y).1 (t3 n 1 y).2 d T.natAbs
 have j:=fI 1074
 replace h:=(Eq.symm j)▸(l)▸h
 generalize n*2^(y+1074).toNat=M at *
 generalize (2:Nat)^1074=K at *
 have i:T.natAbs*K=(T*(K:Int)).natAbs:=by refine ae (cG _ _) ?_;rfl
 have f:2*dist M (T.natAbs*K) < K:=by
  refine ae i ?_
  generalize T*(K:Int)=X at *
  unfold sgn at h
  unfold dist
  cases o
  ·rw [if_neg (by decide)] at h;exact jH fA 20 [_,_,_,_,_,_] [_] h rfl a8 a8 rfl
  ·replace h:=(if_pos rfl)▸h;exact jH fA 21 [_,_,_,_,_,_] [_] h rfl a8 a8 rfl
 refine ae (JX d hs k g f) ?_
 unfold sgn at h ⊢
 rcases lI T 0 with b | b | b
 ·have c:T*(K:Int)<=-1*K:=bd (ak e8 18 [] [_] b) (bA bZ 1 [_] [])
  cases o
  ·rw [if_neg (by decide)] at h;exact bI hG 6 [_,_,_] [_,_,_] c h rfl
  ·exact ae (if_pos rfl) (au dm 3 [_] [_] b rfl)
 ·subst b
  cases o<;>rfl
 ·have c:1*(K:Int)<=T*K:=bd (by assumption) (bA bZ 1 [_] [])
  cases o
  ·exact ae (if_neg (by decide)) (au eU 21 [_] [_] b rfl)
  ·replace h:=(if_pos rfl)▸h;exact bI hG 7 [_,_,_] [_,_,_] c h rfl
def hZ (x:UInt64):Prop:=∃a m e,decode x=.fin a m e
theorem pF (h:hZ r):fr r=true/\t4 r=false/\h0 r=false:=by
 refine bj h λa m e h=>?_
 unfold fr t4 h0
 exact ae h ⟨rfl,rfl,rfl⟩
theorem sr {W K:Nat} (h:Right r o W n) (j:0 < n) (k:52<=K) (d:K<=1040) (l:W < n*2^(53+K)):hZ r/\(n*(val r) - sgn o W).natAbs<=n*2^K:=by
 refine ah (D9 h j k d l) λt b=>aA b λf g c=>?_;subst f
 refine aG (tC o g) λm e b=>af b λi O=>?_
 refine ⟨⟨_,_,_,i⟩,?_⟩
 refine ae (wT o g) ?_
 generalize n*2^K=B at *
 have e:(n:Int)*sgn o (i4 t)=sgn o (n*i4 t):=by
  refine ae (jg _ _) (ae (Float64.sgn_mul _ _ _) (ae (bO _ _) rfl))
 refine ae e ?_
 generalize n*i4 t=Y at *
 unfold dist at c
 unfold sgn
 cases o
 ·exact ae (if_neg (by decide)) (ae (if_neg (by decide)) (eP jc 12 [_,_,_,_,_,_] [] c fW a8 a8))
 ·exact ae (if_pos rfl) (ae (if_pos rfl) (eP jc 13 [_,_,_,_,_,_] [] c fW a8 a8))
theorem JW {y:UInt64}{K:Nat} (o:hZ r) (hy:hZ y) (l:52<=K) (h:K<=1040) (n:(val r).natAbs*(val y).natAbs < 2^1074*2^(53+K)):hZ (bn r y)/\(2^1074*val (bn r y) - val r*val y).natAbs<=2^1074*2^K:=by
 refine bj o λa m e c=>?_
 refine bj hy λb k f d=>?_
 refine af (sr (Float64.mul_right c d) (cW _) l h n) λj g=>?_
 refine ⟨j,?_⟩
 have i:sgn (a !=b) ((val r).natAbs*(val y).natAbs)=val r*val y:=by
  refine ae (n4 c) (ae (n4 d) (ae (n5 c) (ae (n5 d) ?_)))
  generalize m*2^(e+1074).toNat=p
  generalize k*2^(f+1074).toNat=q
  unfold sgn
  cases a<;>cases b<;>simp [nq,Int.mul_neg]
 replace g:=(fI _)▸(i)▸g
 exact g
theorem rG {y:UInt64}{K:Nat} (u:hZ r) (hy:hZ y) (x:52<=K) (i:K<=1040) (s:(val r+val y).natAbs < 2^(53+K)):hZ (cJ r y)/\(val (cJ r y) - (val r+val y)).natAbs<=2^K:=by
 refine bj u λa m e p=>?_
 refine bj hy λb k f q=>?_
 have h:=H9 p q
 by_cases j:val r+val y=0
 ·refine ae (h.1 j) (ae j ?_)
  have n:0 < infMag:=by decide +kernel
  refine aG (tC (a && b) n) λm e l=>af l λg c=>?_
  refine ⟨⟨_,_,_,g⟩,?_⟩
  show (val (pack (a && b) 0) - 0).natAbs<=_
  refine ae (wT _ n) (ae Mi ?_)
  unfold sgn
  cases a && b<;>exact eB _
 ·refine af (sr (h.2 j) (by decide) x i (ae (fN _) s)) λg c=>?_
  refine ⟨g,?_⟩
  have o:sgn (decide (val r+val y < 0)) (val r+val y).natAbs=val r+val y:=by
   unfold sgn
   by_cases d:val r+val y < 0
   ·exact ae (decide_eq_true d) (ae (if_pos rfl) (au eU 22 [_] [_,_] d fW))
   ·exact ae (decide_eq_false d) (ae (if_neg (by decide)) (au eU 23 [_] [_,_] d fW))
  replace c:=(fN _)▸(o)▸c
  replace c:=((show ((1:Nat):Int)*val (cJ r y)=val (cJ r y) from cT _))▸c
  exact c
theorem El {j k:Nat} (c:n < 2^w) (d:p < 2^j) (h:w+j<=k):n*p < 2^k:=by
 exact am (Nat.mul_lt_mul'' c d) (bQ (du _ _ _) (dI (by decide) h))
theorem yV {Y:Int}{y:Nat} (a:Y=(y:Int)) (hy:0 < y) (h:(Y*b).natAbs<=y*n):b.natAbs<=n:=by
 replace h:=(aM _)▸(cG _ _)▸(a)▸h
 exact pU h hy
theorem tS {n:Int} (h:n.natAbs<=2^30):hZ (dy n)/\val (dy n)=n*2^1062:=by
 exact aG (mw h) λm e a=>aA a λb c O=>⟨⟨_,_,_,b⟩,c⟩
theorem zG (h:b.natAbs < 2^n) (a:n+1062<=p):(b*2^1062).natAbs < 2^p:=by
 refine ae (y9 _) ?_
 exact am (Ca h (cW _)) (bQ (du _ _ _) (dI (by decide) a))
theorem uV {n:Int}{i k K:Nat} (q:hZ r) (c:n.natAbs < 2^k) (o:k<=30) (p:(val r).natAbs < 2^i) (m:52<=K) (b:K<=1040) (h:i+k<=65+K):
  hZ (bn r (dy n))/\(4096*val (bn r (dy n)) - n*val r).natAbs<=4096*2^K:=by
 refine af (tS (n:=n) (b8 (am c (dI (by decide) o)))) λj d=>?_
 refine af (JW q j m b (by
  refine ae d (bQ (du _ _ _) ?_)
  exact El p (zG c (aD _)) (ak fg 8 [_,_,_] [] h))) λl a=>?_
 refine ⟨l,?_⟩
 have e:(2:Int)^1074=2^1062*4096:=by refine ae (show (1074:Nat)=1062+12 from rfl) (ae (i7 _ _ _) ?_);rfl
 have f:(2:Nat)^1074=2^1062*4096:=by refine ae (show (1074:Nat)=1062+12 from rfl) (ae (du _ _ _) rfl)
 replace a:=(f)▸(e)▸(d)▸a
 refine yV (Y:=2^1062) (y:=2^1062) (fI 1062).symm (cW _) ?_
 replace a:=(gP _ _ _)▸a
 have g:(2:Int)^1062*(4096*val (bn r (dy n)) - n*val r)=2^1062*4096*val (bn r (dy n)) - val r*(n*2^1062):=by
  refine ae (uj _ _ _) ?_
  congr 1
  ·refine ae (ci _ _ _) rfl
  ·ac_rfl
 exact ae g a
theorem yr {y:UInt64} (g:hZ r) (hy:hZ y):bn r y=bn y r:=by
 refine bj g λa m e c=>?_
 refine bj hy λb k f d=>?_
 unfold bn
 refine ae c (ae d ?_)
 dsimp only
 refine ae (jg _ _) (ae (xP _ _) (ae (show (a !=b)=(b !=a) by cases a<;>cases b<;>rfl) rfl))
noncomputable def Aj (w:UInt64) (n:Nat):Bool:=fr w && decide (n<=64) && decide ((384*val w - n*2^1074).natAbs<=2^1054)
theorem p9 (h:fr r=true):hZ r:=by
 unfold fr at h
 cases e:decode r<;>replace h:=(e)▸h
 ·exact dk h
 ·exact dk h
 ·exact ⟨_,_,_,e⟩
theorem U4 (h:b.natAbs<=y.natAbs) (hy:0<=y):-y<=b/\b<=y:=eP jc 2 [_,_] [_,_] h hy fW fW
theorem baz (h:-y < 2*b) (a:2*b < y):2*b.natAbs < y.natAbs:=eP jc 3 [_,_] [_,_] h a fW fW
theorem Jx {X P NX L vx vy vz vq:Int} (a:0 < X) (b:(384*P - 2^50*NX).natAbs<=(2^35*X).natAbs) (c:(4096*vx - 64*P).natAbs<=(4096*X).natAbs) (d:(4096*vy - 24576*vx).natAbs<=(4096*X).natAbs)
  (e:(vz - (64*(2^38*L)+vy)).natAbs<=X.natAbs) (f:(4096*vq - 16777216*vz).natAbs<=(4096*(2^13*X)).natAbs):2*(vq - (64*(2^50*L)+2^50*NX)).natAbs < (2^50*X).natAbs:=by
 have b:=U4 b (ak fg 9 [] [_] a)
 have c:=U4 c (ak ce 16 [] [_] a)
 have d:=U4 d (ak ce 16 [] [_] a)
 have e:=U4 e (ak ce 17 [] [_] a)
 have f:=U4 f (ak fg 10 [] [_] a)
 refine baz ?_ ?_<;>(first | exact qP kj 6 [] [_,_,_,_,_,_,_,_] a b c d e f | exact qP kj 7 [] [_,_,_,_,_,_,_,_] a b c d e f)
theorem pI (j:Nat):(2:Int)^(j+1024)=2^j*2^1024:=i7 ..
theorem pN (j:Nat):(2:Nat)^(j+1024)=2^j*2^1024:=du ..
theorem Se (j:Nat):((2:Int)^j*2^1024).natAbs=2^j*2^1024:=by
 refine ae (cG _ _) (ae (g0 _ _) (ae (g0 _ _) ?_));rfl
theorem VI (h:n*256 < 2^1081):n < 2^1073:=by
 replace h:=(du _ _ _)▸((show (1081:Nat)=1073+8 from rfl))▸h
 exact ak fj 10 [_] [] h
theorem TS (G:Aj r n=true) (hd:p<=32) (s:w<=31):
  hZ (bn (cJ (dy (64*w:Nat)) (bn (bn (dy (64*p:Nat)) r) (dy 24576))) (dy 16777216))/\
  iL cS (bn (cJ (dy (64*w:Nat)) (bn (bn (dy (64*p:Nat)) r) (dy 24576))) (dy 16777216))=(64*w+p*n:Nat):=by
 unfold Aj at G
 rw [az,az,decide_eq_true_eq,decide_eq_true_eq] at G
 refine pH G λhf hn u=>?_
 have M:=p9 hf
 refine af (tS (n:=((64*w:Nat):Int)) (ae (aM _) (ak fj 11 [_] [] s))) λT I=>?_
 refine af (tS (n:=((64*p:Nat):Int)) (ae (aM _) (ak fj 12 [_] [] hd))) λS O=>?_
 refine ae (yr S M) ?_
 have o:=pI 50
 have C:=pI 38
 have c:=pN 50
 have b:=pN 30
 have H:=pN 13
 have f:=pN 49
 have β:=pN 57
 have d:=pN 53
 have hX:=d9 1024
 have α:=fI 1024
 have B:(val r).natAbs < 2^(49+1024):=by
  have E:((n:Int)*2^1074).natAbs<=64*2^1074:=by
   exact ae (cG _ _) (ae (aM _) (ae (g0 _ _) (bC _ hn)))
  replace E:=(c)▸((show (1074:Nat)=50+1024 from rfl))▸E
  replace u:=(b)▸((show (1054:Nat)=30+1024 from rfl))▸u
  refine ae f ?_
  generalize (n:Int)*2^(50+1024)=Z at *
  generalize (2:Nat)^1024=x at *
  exact qP kj 3 [_,_,_,_] [_,_] c E u rfl rfl rfl
 have hP:((p:Int)*val r).natAbs<=32*(val r).natAbs:=by
  exact ae (cG _ _) (ae (aM _) (bC _ hd))
 have Y:(384*((p:Int)*val r) - 2^50*((p:Int)*n*2^1024)).natAbs<=2^35*2^1024:=by
  have e:384*((p:Int)*val r) - 2^50*((p:Int)*n*2^1024)=p*(384*val r - n*2^1074):=by
   refine ae (show (1074:Nat)=50+1024 from rfl) (ae o (ae (uj _ _ _) ?_))
   congr 1
   ·ac_rfl
   ·ac_rfl
  refine ae e (ae (cG _ _) (ae (aM _) ?_))
  refine ar (iN hd u) ?_
  rw [show (1054:Nat)=30+1024 from rfl,b,<- gP]
  exact bC _ (by decide)
 refine af (uV (n:=((64*p:Nat):Int)) (i:=49+1024) (k:=12) (K:=1024) M (ae (aM _) (ak fj 13 [_] [] hd)) (by decide) B (by decide) (by decide) (by decide)) λU v=>?_
 replace v:=((show ((64*p:Nat):Int)*val r=64*((p:Int)*val r) by rw [da,ci];rfl))▸v
 generalize bn r (dy (64*p:Nat))=x at *
 generalize (p:Int)*val r=P at *
 have h:(val x).natAbs < 2^(49+1024):=by
  rw [f] at B ⊢
  generalize (2:Nat)^1024=X at *
  exact DJ vC 1 [_,_,_,_,_] [_,_,_] hP B v rfl rfl rfl rfl
 refine af (uV (n:=24576) (i:=49+1024) (k:=15) (K:=1024) U (by decide) (by decide) h (by decide) (by decide) (by decide)) λW hy=>?_
 generalize bn x (dy 24576)=y at *
 have g:val (dy (64*w:Nat))=64*(2^38*((w:Int)*2^1024)):=by
  refine ae I (ae (show (1062:Nat)=38+1024 from rfl) (ae C (ae (da _ _) ?_)))
  show 64*(w:Int)*(2^38*2^1024)=_
  ac_rfl
 have hL:((w:Int)*2^1024).natAbs<=31*2^1024:=by
  exact ae (cG _ _) (ae (aM _) (ae (g0 _ _) (bC _ s)))
 refine af (rG (K:=1024) T W (by decide) (by decide) (by
  refine ae g (ae d ?_)
  replace h:=(f)▸h
  generalize (w:Int)*2^1024=L at *
  generalize (2:Nat)^1024=X at *
  exact Gq xI 2 [_,_,_,_,_] [_,_,_,_] s I g c hy h rfl rfl rfl)) λfz A=>?_
 replace A:=(g)▸A
 generalize cJ (dy (64*w:Nat)) y=z at *
 have N:(val z).natAbs < 2^(53+1024):=by
  refine ae d ?_
  replace h:=(f)▸h
  generalize (w:Int)*2^1024=L at *
  generalize (2:Nat)^1024=X at *
  exact LO DI 0 [_,_,_,_,_,_] [_,_,_,_,_] s I g c hy h A rfl rfl rfl rfl
 refine af (uV (n:=16777216) (i:=53+1024) (k:=25) (K:=13+1024) fz (by decide) (by decide) N (by decide) (by decide) (by decide)) λJ F=>?_
 refine ⟨J,?_⟩
 generalize bn z (dy 16777216)=q at *
 refine bj J λa m e D=>?_
 refine ye D ?_
 have Q:((64*w+p*n:Nat):Int)*2^1074=64*(2^50*((w:Int)*2^1024))+2^50*((p:Int)*n*2^1024):=by
  rw [show (1074:Nat)=50+1024 from rfl,o,AY,da,da,dw]
  congr 1
  ·show 64*(w:Int)*(2^50*2^1024)=_
   ac_rfl
  ·ac_rfl
 refine ae Q (ae (show (1074:Nat)=50+1024 from rfl) (ae c ?_))
 replace F:=(H)▸F
 have j:((2:Int)^1024).natAbs=2^1024:=by refine ae (g0 _ _) ?_;rfl
 have l:=Jx (X:=2^1024) (P:=P) (NX:=(p:Int)*n*2^1024) (L:=(w:Int)*2^1024) (vx:=val x) (vy:=val y) (vz:=val z) (vq:=val q) hX
  (ae (Se _) Y) (by exact ae (cG _ _) (ae j v)) (by refine ae (cG _ _) (ae j ?_);exact hy) (by refine ae j ?_;exact A) (by refine ae (cG _ _) (ae (Se _) ?_);exact F)
 replace l:=(Se _)▸l
 exact l
noncomputable def uF (a:UInt64):UInt64:=(zs a 4607182418800017408).2
theorem Ge:decode 4607182418800017408=.fin false 4503599627370496 (-52):=by kernel_rfl
theorem Od:hZ 4607182418800017408:=⟨_,_,_,Ge⟩
theorem Rg:(4607182418800017408:UInt64)=dy 4096:=by decide +kernel
theorem val_one:val 4607182418800017408=2^1074:=by
 refine ae Rg (ae ((tS (by decide)).2) (ae (show (1074:Nat)=12+1062 from rfl) (ae (i7 _ _ _) ?_)));rfl
theorem ofBin_right (a:Bool) (M:Nat) (h:-1074<=b):Right (AQ a M b) a (M*2^(b+1074).toNat) 1:=by
 unfold AQ
 refine DV (HX _ _ _ (by decide)) ?_ (by decide)
 exact ae (zT _) (HY M b 1074 h)
theorem IJ (x:UInt64):uF x=if fG (eg x 4607182418800017408)=true then It (iM false) 4607182418800017408
  else if zq (eg x 4607182418800017408) (iM false)=true then cJ (eg x 4607182418800017408) 4607182418800017408 else eg x 4607182418800017408:=by
 unfold uF zs
 have e:zq 4607182418800017408 (iM false)=false:=by decide +kernel
 dsimp only
 refine ae e ?_
 by_cases a:fG (eg x 4607182418800017408)=true
 ·refine ae (if_pos a) (ae (if_pos a) rfl)
 ·refine ae (if_neg a) (ae (if_neg a) ?_)
  cases h2:zq (eg x 4607182418800017408) (iM false)
  ·refine ae (if_neg (by decide)) (ae (if_neg (by decide)) rfl)
  ·refine ae (if_pos (by decide)) (ae (if_pos rfl) rfl)
theorem Hy (u:hZ r):hZ (eg r 4607182418800017408)/\∃j:Int,(val (eg r 4607182418800017408) - val r - j*2^1074).natAbs<=2^1024/\(val (eg r 4607182418800017408)).natAbs<=2^1074+2^1024:=by
 refine bj u λa m e hd=>?_
 have i:=H0 hd
 have p:-1074<=min e (-52):=au e7 19 [] [_,_] i DK
 have k:eg r 4607182418800017408=AQ a (m*2^(e - min e (-52)).toNat%(4503599627370496*2^(-52 - min e (-52)).toNat)) (min e (-52)):=by
  unfold eg
  refine ae hd (ae Ge ?_)
  rfl
 have h:m*2^(e - min e (-52)).toNat%(4503599627370496*2^(-52 - min e (-52)).toNat)*2^(min e (-52)+1074).toNat=(val r).natAbs%2^1074:=by
  refine ae (n4 hd) (bQ (Nat.mul_mod_mul_right _ _ _) (ae (gP _ _ _) (ae (gP _ _ _) (bQ (du _ _ _) (bQ (du _ _ _) (ae (show (4503599627370496:Nat)=2^52 from rfl) (bQ (du _ _ _) ?_)))))))
  congr 2
  ·congr 2;exact eP ee 14 [_,_,_] [_,_] rfl rfl rfl DK
  ·exact eP ee 15 [_,_] [_,_] i rfl rfl DK
 have g:=gZ (val r).natAbs (cW 1074)
 obtain ⟨n,c⟩:=sr (K:=1024) (ofBin_right a _ p) (by decide) (by decide) (by decide) (by
  exact ae h (ae (fN _) (am g (dI (by decide) (by decide)))))
 replace c:=((show ((1:Nat):Int)*val (eg r 4607182418800017408)=val (eg r 4607182418800017408) from cT _))▸(fN _)▸(h)▸(Eq.symm k)▸c
 refine ⟨by refine ae k ?_;exact n,?_⟩
 have f:=n5 hd
 have s:=n4 hd
 have b:=sP (val r).natAbs (2^1074)
 have o:=fI 1074
 generalize val (eg r 4607182418800017408)=x at *
 generalize (val r).natAbs%2^1074=w at *
 generalize l:(val r).natAbs / 2^1074=q at *
 have d:((2^1074*q:Nat):Int)=(q:Int)*2^1074:=by refine ae (da _ _) (ae o (ae (bO _ _) rfl))
 generalize 2^1074*q=Q at *
 unfold sgn at c f
 cases a
 ·rw [if_neg (by decide)] at c f
  refine ⟨-q,?_,by exact LN B5 0 [_,_,_,_,_,_,_] [_,_] l b d c rfl fM rfl rfl⟩
  exact ae (nq _ _) (bQ d (qP kj 0 [_,_,_,_,_,_] [_,_] b f c rfl rfl rfl))
 ·rw [if_pos rfl] at c f
  refine ⟨q,?_,by exact LN B5 1 [_,_,_,_,_,_,_] [_,_] l b d c rfl fM rfl rfl⟩
  exact bQ d (qP kj 1 [_,_,_,_,_,_] [_,_] b f c rfl rfl rfl)
theorem vo:hZ (iM false)/\val (iM false)=0:=by
 refine ae AZ ?_
 have h:=tS (n:=0) (by decide)
 replace h:=(io _)▸h
 exact h
theorem xG {y:UInt64} (g:hZ r) (hy:hZ y):(be r y==some bz)=decide (val r < val y):=by
 refine bj g λa m e c=>?_
 refine bj hy λb k f d=>?_
 refine ae (H8 c d) ?_
 rcases lI (val r) (val y) with h | h | h
 ·refine ae (lJ.mpr h) (ae (decide_eq_true h) ?_);rfl
 ·refine ae h (ae (xO.mpr rfl) (ae (decide_eq_false (bA im 5 [] [_])) ?_));rfl
 ·refine ae (lK.mpr h) (ae (decide_eq_false (ak ce 3 [] [_,_] h)) ?_);rfl
theorem Ev (d:hZ r) (h:fG r=true):val r=0:=by
 refine bj d λa m e b=>?_
 unfold fG at h
 replace h:=(b)▸h
 refine ae (n5 b) ?_
 split at h
 ·rename_i c
  cases c
  refine ae (xL _) ?_
  cases a<;>rfl
 ·exact dk h
theorem Nl:(2:Int)^1074=2^50*2^1024:=pI 50
theorem SH:(2:Nat)^1074=2^50*2^1024:=pN 50
theorem Mz (o:hZ r):hZ (uF r)/\∃j:Int,(val (uF r) - val r - j*2^1074).natAbs<=4*2^1024/\-(4*2^1024)<=val (uF r)/\val (uF r)<=2^1074+4*2^1024:=by
 refine af (Hy o) λf k=>ah k λj l=>af l λd a=>?_
 refine ae (IJ _) ?_
 have q:=d9 1024
 have b:=fI 1024
 split
 ·rename_i p
  have n:=Ev f p
  have e:It (iM false) 4607182418800017408=iM false:=by decide +kernel
  refine ae e (ae (vo.2) ?_)
  replace d:=(n)▸d
  refine ⟨vo.1,j,?_,by decide,by refine ae Nl ?_;decide⟩
  generalize j*2^1074=J at *
  exact au eU 4 [_] [_,_] d rfl
 ·unfold zq
  refine ae (xG f vo.1) (ae (vo.2) ?_)
  generalize eg r 4607182418800017408=x at *
  split
  ·rename_i i
   have c:=of_decide_eq_true i
   refine af (rG (K:=1024) f Od (by decide) (by decide) (by
    refine ae val_one (ae Nl (ae (show 53+1024=53+1024 from rfl) (ae (pN 53) ?_)))
    replace a:=(SH)▸a
    generalize (2:Nat)^1024=X at *
    exact eP jc 11 [_,_,_] [_] b a rfl rfl)) λm g=>?_
   refine ⟨m,j+1,?_⟩
   refine ae (dw _ _ _) (ae (cT _) ?_)
   replace g:=(val_one)▸g
   generalize val (cJ x 4607182418800017408)=s at *
   generalize j*2^1074=J at *
   rw [Nl] at *
   replace a:=(SH)▸a
   rw [<- b] at *
   generalize (2:Nat)^1024=X at *
   exact LN B5 2 [_,_,_,_,_] [_,_,_,_] c g d a rfl rfl rfl rfl
  ·rename_i i
   have c:¬val x < 0:=λh=>i (decide_eq_true h)
   refine ⟨f,j,?_⟩
   generalize j*2^1074=J at *
   refine ae Nl ?_
   replace a:=(SH)▸a
   rw [<- b] at *
   generalize (2:Nat)^1024=X at *
   exact jH fA 16 [_,_,_] [_,_,_] c d a rfl rfl
theorem vb {e K:Int} (s:0 < K) (h:b*K<=y*K+e) (d:e < K):b<=y:=by
 refine mQ.mp λf=>?_
 have a:(y+1)*K<=b*K:=bd (by assumption) (bl s)
 replace a:=(cT _)▸(dw _ _ _)▸a
 exact bI cO 22 [] [_,_,_,_] h d a
theorem JV {y:UInt64}{K:Nat} (g:hZ r) (hy:hZ y) (d:52<=K) (c:K<=1040) (e:(val r - val y).natAbs < 2^(53+K)):hZ (gv r y)/\(val (gv r y) - (val r - val y)).natAbs<=2^K:=by
 refine bj hy λb k f a=>?_
 have h:=rG (y:=Float64.neg y) g ⟨_,_,_,Float64.neg_decode a⟩ d c (ae (L2 a) (bQ wU e))
 replace h:=(Eq.symm wU)▸(L2 a)▸h
 unfold gv
 exact h
noncomputable def w0 (s:Int):Nat:=if s<=64 then s.toNat else if s<=192 then 64 else if s<=256 then (256 - s).toNat else 0
def Tj (u:UInt64) (n:Nat):Prop:=
 ((be u 4595172819793696085==some bz)=true/\Aj u n=true)\/((be u 4595172819793696085==some bz)=false/\
  (((be u 4602678819172646912==some bz)=true/\n=64)\/((be u 4602678819172646912==some bz)=false/\
   (((be u 4604180019048437077==some bz)=true/\Aj (gv 4604180019048437077 u) n=true)\/((be u 4604180019048437077==some bz)=false/\n=0)))))
theorem Z9:hZ 4595172819793696085:=p9 (by decide +kernel)
theorem YO:hZ 4604180019048437077:=p9 (by decide +kernel)
theorem f12:hZ 4602678819172646912:=p9 (by decide +kernel)
theorem Zs:(384*val 4595172819793696085 - 64*2^1074).natAbs<=64*2^1024:=by decide +kernel
theorem Zr:(384*val 4604180019048437077 - 256*2^1074).natAbs<=64*2^1024:=by decide +kernel
theorem Zt:384*val 4602678819172646912=192*2^1074:=by decide +kernel
theorem Da (c:hZ r) (w:0<=b) (a:b<=64) (h:(384*val r - b*2^1074).natAbs<=2^30*2^1024):Aj r b.toNat=true:=by
 unfold Aj
 rw [(pF c).1,decide_eq_true (show b.toNat<=64 by exact au eZ 0 [_] [_] a rZ),DT,DT,decide_eq_true_eq,kC w,show (1054:Nat)=30+1024 from rfl,pN 30]
 exact h
theorem Qd (n:hZ r) {s:Int} (h:(384*val r - s*2^1074).natAbs<=2^16*2^1024) (z:-(4*2^1024)<=val r) (A:val r<=2^1074+4*2^1024):0<=s/\s<=384/\Tj r (w0 s):=by
 have F:=d9 1024
 have g:=fI 1024
 have o:=Zs
 have b:=Zr
 have i:=Zt
 have x:=d9 1074
 have u:∀c:Int,384*val r<=c*2^1074+(2^17*2^1024)->s<=c:=λc w=>vb (e:=2^18*2^1024) x (by
  generalize s*2^1074=S at *
  generalize c*2^1074=C at *
  rw [<- g] at *
  generalize (2:Nat)^1024=X at *
  exact bI cO 23 [_,_] [_,_,_] h w rfl) (by refine ae Nl ?_;decide)
 have q:∀c:Int,c*2^1074 - (2^17*2^1024)<=384*val r->c<=s:=λc w=>vb (e:=2^18*2^1024) x (by
  generalize s*2^1074=S at *
  generalize c*2^1074=C at *
  rw [<- g] at *
  generalize (2:Nat)^1024=X at *
  exact bI eT 0 [_,_] [_,_,_] h w rfl) (by refine ae Nl ?_;decide)
 have y:0<=s:=q 0 (ae (io _) (ak fj 3 [] [_] z))
 have E:s<=384:=u 384 (ak fj 4 [] [_] A)
 refine ⟨y,E,?_⟩
 unfold Tj w0
 refine ae (xG n Z9) (ae (xG n f12) (ae (xG n YO) ?_))
 by_cases p:val r < val 4595172819793696085
 ·have m:=u 64 (bI eT 1 [_] [_,_] o p rfl)
  exact ae (decide_eq_true p) (ae (if_pos m) (.inl ⟨rfl,Da n y m (au eZ 1 [_] [_,_] h rfl)⟩))
 ·have v:=q 64 (bI eT 2 [_] [_,_] o p rfl)
  refine ae (decide_eq_false p) ?_
  refine .inr ⟨rfl,?_⟩
  by_cases j:val r < val 4602678819172646912
  ·have l:=u 192 (au eZ 2 [] [_,_] i j)
   refine ae (decide_eq_true j) ?_
   refine .inl ⟨rfl,?_⟩
   by_cases e:s<=64
   ·exact ae (if_pos e) (bI eT 3 [_] [_] v e rfl)
   ·refine ae (if_neg e) (ae (if_pos l) rfl)
  ·have a:=q 192 (au eZ 3 [] [_,_] i j)
   refine ae (decide_eq_false j) ?_
   refine .inr ⟨rfl,?_⟩
   by_cases k:val r < val 4604180019048437077
   ·have f:=u 256 (bI eT 4 [_] [_,_] b k rfl)
    refine ae (decide_eq_true k) ?_
    refine .inl ⟨rfl,?_⟩
    refine af (JV (K:=1024) YO n (by decide) (by decide) (by
     refine ae (pN 53) ?_
     rw [Nl] at *
     rw [<- g] at *
     generalize (2:Nat)^1024=X at *
     exact qP kj 2 [_,_,_] [_,_,_] j k b i rfl rfl)) λB D=>?_
    have e:(if s<=64 then s.toNat else if s<=192 then 64 else if s<=256 then (256 - s).toNat else 0)=(256 - s).toNat:=by
     refine ae (if_neg (ak ce 7 [] [_] a)) ?_
     by_cases e:s<=192
     ·exact ae (if_pos e) (bI eT 5 [_] [_] a e rfl)
     ·refine ae (if_neg e) (ae (if_pos f) rfl)
    refine ae e ?_
    refine Da B (ak fj 5 [] [_] f) (ak fj 6 [] [_] a) ?_
    refine ae (gR _ _ _) ?_
    generalize s*2^1074=S at *
    exact DJ vC 0 [_,_,_,_] [_,_,_,_] b D h rfl rfl rfl rfl
   ·have d:=q 256 (bI eT 6 [_] [_,_] b k rfl)
    refine ae (decide_eq_false k) ?_
    refine .inr ⟨rfl,?_⟩
    refine ae (if_neg (ak ce 7 [] [_] a)) (ae (if_neg (ak fj 7 [] [_] d)) ?_)
    by_cases e:s<=256
    ·exact ae (if_pos e) (au eZ 4 [_] [_] d rfl)
    ·refine ae (if_neg e) rfl
noncomputable def yH (x:UInt64) (f:UInt64->Bool):Bool:=OF (f (UInt64.ofNat 0)) (λm O=>f (UInt64.ofNat (m+1))) x.toNat
theorem v2 (x:UInt64) (f:UInt64->Bool):yH x f=f x:=by
 have h:∀n:Nat,(OF (f (UInt64.ofNat 0)) (λm O=>f (UInt64.ofNat (m+1))) n:Bool)=f (UInt64.ofNat n):=λn=>by cases n<;>rfl
 unfold yH
 rw [h,UInt64.ofNat_toNat]
noncomputable def dC (b a:Nat):Nat:=min (min ((b+384 - a)%384) (384 - (b+384 - a)%384) - 64) 64
theorem LH (x c:Nat) (h:c<=384):(x%384+384 - c)%384=(x+(384 - c))%384:=(congrArg (·%384) (jP h _)).trans (sN ..)
theorem KV (h:p<=384):dC (n%384) p=dC n p:=by unfold dC;rw [LH _ _ h,jP h n]
noncomputable def hN (a:Nat):Int:=
 if dC a 0=0 then 64*((dC a 256:Int) - dC a 128)
 else if dC a 128=0 then 8192+64*((dC a 0:Int) - dC a 256)
 else 16384+64*((dC a 128:Int) - dC a 0)
noncomputable def tQ (a:Nat):UInt64:=uF (d8 (dy (hN a)) 4618441417868443648)
noncomputable def tf (a b:Int):UInt64:=sz (decide (a < 0)!=decide (b < 0)) a.natAbs b.natAbs
noncomputable def Pm (a:Nat):Bool:=(dC a 0==0 || dC a 128==0 || dC a 256==0) && (dC a 0==64 || dC a 128==64 || dC a 256==64) &&
 yH (d8 (dy (hN a)) 4618441417868443648) λq=>yH (uF q) λb=>fr b && decide ((384*val b - (a:Int)*2^1074).natAbs<=1024*2^1024) &&
  yH (bn b (cB 393216)) λm=>fr m && iL cS m==(a*1024:Nat)
theorem RH:((dT 384).all Pm)=true:=by decide +kernel
structure LV (sp:Nat):Prop where
 z:dC sp 0=0\/dC sp 128=0\/dC sp 256=0
 t:dC sp 0=64\/dC sp 128=64\/dC sp 256=64
 f:hZ (tQ sp)
 v:(384*val (tQ sp) - (sp:Int)*2^1074).natAbs<=1024*2^1024
 rf:hZ (bn (tQ sp) (cB 393216))
 r:iL cS (bn (tQ sp) (cB 393216))=(sp*1024:Nat)
theorem sq (h:n < 384):LV n:=by
 have a:=aS.mp RH n (eJ.mpr h)
 unfold Pm at a
 rw [v2,v2,v2] at a
 simp only [az,dz,beq_iff_eq,decide_eq_true_eq] at a
 obtain ⟨⟨c,d⟩,⟨e,f⟩,g,i⟩:=a
 exact ⟨or_assoc.mp c,or_assoc.mp d,p9 e,f,p9 g,i⟩
theorem IM:((dT 384).all λa=>w0 (((a:Int)+128)%384)==64 - dC a 0 && w0 ((a:Int)%384)==64 - dC a 128 && w0 (((a:Int) - 128)%384)==64 - dC a 256)=true:=by decide +kernel
theorem IN (a:0<=b) (s:b<=384):w0 b=w0 (b%384):=by
 by_cases e:b=384
 ·subst e;decide
 ·rw [OK a (au eZ 20 [] [_] s e)]
structure LP (t:UInt64) (n:Int):Prop where
 f:hZ t
 v:(3*val t - n*2^1074).natAbs<=64*2^1024
theorem xX (n:Int) (h:n=1\/n=0\/n=-1\/n=7\/n=-7):LP (tf n 3) n:=by
 rcases h with rfl | rfl | rfl | rfl | rfl<;>exact ⟨p9 (by decide +kernel),by decide +kernel⟩
theorem D5 {o e:UInt64} (hs:n < 384) (N:hZ r) (l:(384*val r - (n:Int)*2^1074).natAbs<=1024*2^1024) (v:LP o y) (u:LP e b) (L:y.natAbs<=7) (M:b.natAbs<=1):
  ∃s:Int,0<=s/\s<=384/\(∃j:Int,s=n+128*y+128*b+384*j)/\Tj (uF (cJ (cJ r o) e)) (w0 s):=by
 have g:=fI 1024
 have w:=d9 1024
 have m:=v.v
 have z:=u.v
 have d:∀c B:Int,0<=B->c.natAbs<=B.natAbs->(c*2^1074).natAbs<=(B*2^1074).natAbs:=λc B O h=>by
  rw [cG,cG];exact bC _ h
 have p:=d y 7 (by decide) L
 have C:=d b 1 (by decide) M
 have q:=d n 384 (by decide) (b8 ‹_›)
 obtain ⟨D,i⟩:=rG (K:=1028) N v.f (by decide) (by decide) (by
  rw [show 53+1028=57+1024 from rfl,pN 57]
  generalize (y:Int)*2^1074=A at *
  generalize (n:Int)*2^1074=S at *
  rw [Nl] at *
  rw [<- g] at *
  generalize (2:Nat)^1024=X at *
  exact Si LL 0 [_,_,_,_,_,_,_,_] [_,_,_,_] w m p l q rfl rfl rfl rfl rfl rfl rfl)
 generalize cJ r o=x at *
 rw [show (1028:Nat)=4+1024 from rfl,pN 4] at i
 obtain ⟨E,f⟩:=rG (K:=1028) D u.f (by decide) (by decide) (by
  rw [show 53+1028=57+1024 from rfl,pN 57]
  generalize (y:Int)*2^1074=A at *
  generalize (b:Int)*2^1074=B at *
  generalize (n:Int)*2^1074=S at *
  rw [Nl] at *
  rw [<- g] at *
  generalize (2:Nat)^1024=X at *
  exact Sf LJ 0 [_,_,_,_,_,_,_,_,_,_,_,_] [_,_,_,_,_,_,_] w i m p z C l q rfl rfl rfl rfl rfl rfl rfl rfl rfl rfl rfl)
 generalize cJ x e=a at *
 rw [show (1028:Nat)=4+1024 from rfl,pN 4] at f
 obtain ⟨F,j,G,H,I⟩:=Mz E
 have k:=Qd F (s:=n+128*y+128*b+384*j) (by
  rw [dw,dw,dw,ci,ci,ci]
  generalize (y:Int)*2^1074=A at *
  generalize (b:Int)*2^1074=B at *
  generalize (n:Int)*2^1074=S at *
  generalize (j:Int)*2^1074=J at *
  generalize (2:Nat)^1024=X at *
  exact Sh LK 0 [_,_,_,_,_,_,_,_] [_,_,_,_,_,_,_,_,_,_] g i f m z l G rfl rfl rfl rfl rfl rfl rfl) H I
 exact ⟨_,k.1,k.2.1,⟨j,rfl⟩,k.2.2⟩
noncomputable def vF (m1 m2 a:UInt64):UInt64:=
 if (be (uF a) 4595172819793696085==some bz)=true then cJ m1 (bn (bn (gv m2 m1) (uF a)) 4618441417868443648)
 else if (be (uF a) 4602678819172646912==some bz)=true then m2
 else if (be (uF a) 4604180019048437077==some bz)=true then cJ m1 (bn (bn (gv m2 m1) (gv 4604180019048437077 (uF a))) 4618441417868443648)
 else m1
theorem QF:(4618441417868443648:UInt64)=dy 24576:=by decide +kernel
theorem Rc:cB 4096=dy 16777216:=by decide +kernel
theorem Oc:((dT 65).all λh=>fr (bn (dy (64*h:Nat)) (dy 16777216)) && iL cS (bn (dy (64*h:Nat)) (dy 16777216))==(64*h:Nat))=true:=by decide +kernel
theorem Ps {h:Nat} (b:h<=64):hZ (bn (dy (64*h:Nat)) (dy 16777216))/\iL cS (bn (dy (64*h:Nat)) (dy 16777216))=(64*h:Nat):=by
 have a:=aS.mp Oc h (eJ.mpr (ak ce 18 [_] [] b))
 rw [az,beq_iff_eq] at a
 exact ⟨p9 a.1,a.2⟩
theorem D1 (hd:w<=32) (e:p<=31) (h:Tj (uF r) n):
  hZ (bn (vF (dy (64*p:Nat)) (dy (64*(p+w):Nat)) r) (cB 4096))/\iL cS (bn (vF (dy (64*p:Nat)) (dy (64*(p+w):Nat)) r) (cB 4096))=(64*p+w*n:Nat):=by
 have hs:gv (dy (64*(p+w):Nat)) (dy (64*p:Nat))=dy (64*w:Nat):=by
  refine ae (rV (by rw [aM];exact au eX 3 [_,_] [] hd e) (by rw [aM];exact ak aK 9 [_] [] e)) ?_
  congr 1
  exact bA fm 21 [_,_] []
 unfold vF
 refine ae hs (ae Rc (ae QF ?_))
 unfold Tj at h
 rcases h with ⟨f,c⟩ | ⟨f,⟨c,rfl⟩ | ⟨c,⟨g,i⟩ | ⟨g,rfl⟩⟩⟩
 ·exact ae (if_pos f) (TS c hd e)
 ·refine ae f (ae (if_neg (by decide)) (ae (if_pos c) ?_))
  have:=Ps (h:=p+w) (au eX 4 [_,_] [] hd e)
  exact ae (show 64*p+w*64=64*(p+w) by exact bA fm 22 [_,_] []) this
 ·exact ae f (ae c (ae (if_neg (by decide)) (ae (if_neg (by decide)) (ae (if_pos g) (TS i hd e)))))
 ·refine ae f (ae c (ae g (ae (if_neg (by decide)) (ae (if_neg (by decide)) (ae (if_neg (by decide)) ?_)))))
  have:=Ps (h:=p) (ak aK 6 [_] [] e)
  exact ae (show 64*p+w*0=64*p by exact bA fm 23 [_,_] []) this
noncomputable def ft (c b d a:Nat):Nat:=64*b+d*(64 - dC c a)
theorem IO {sp:Nat} (h:sp < 384) {j:Int} (c:0<=y) (d:y<=384) (hs:y=sp+128*b+384*j):(b=1->w0 y=64 - dC sp 0)/\(b=0->w0 y=64 - dC sp 128)/\(b=-1->w0 y=64 - dC sp 256):=by
 have a:=aS.mp IM sp (eJ.mpr h)
 rw [az,az,beq_iff_eq,beq_iff_eq,beq_iff_eq] at a
 refine pH a λe f g=>?_
 refine ae (IN c d) (ae hs ?_)
 refine ⟨?_,?_,?_⟩
 ·rintro rfl;refine bQ e ?_;congr 1;exact au eX 5 [sp] [((↑sp+128*1+384*j)%384:Int),((↑sp+128*1+384*j) / 384:Int),j,((↑sp+128)%384:Int),((↑sp+128) / 384:Int)] ⟨rfl,rfl⟩ ⟨rfl,rfl⟩
 ·rintro rfl;refine bQ f ?_;congr 1;exact au eX 6 [sp] [((↑sp+128*0+384*j)%384:Int),((↑sp+128*0+384*j) / 384:Int),j,(↑sp%384:Int),(↑sp / 384:Int)] ⟨rfl,rfl⟩ ⟨rfl,rfl⟩
 ·rintro rfl;refine bQ g ?_;congr 1;exact au eX 7 [sp] [((↑sp+128*-1+384*j)%384:Int),((↑sp+128*-1+384*j) / 384:Int),j,((↑sp - 128)%384:Int),((↑sp - 128) / 384:Int)] ⟨rfl,rfl⟩ ⟨rfl,rfl⟩
theorem MB {a j:Int} (f:y=n+128*a+128*b+384*j) (d:(a=0/\p=0)\/(a=7/\p=1)\/(a=-7/\p=2)):∃i:Int,y=((n+128*p)%384:Nat)+128*b+384*i:=by
 have q:=Int.emod_add_mul_ediv ((n+128*p:Nat):Int) 384
 have e:∃m:Int,128*a=((128*p:Nat):Int)+384*m:=d.elim (λh=>⟨0,by rw [h.1,h.2];rfl⟩) (·.elim (λh=>⟨2,by rw [h.1,h.2];rfl⟩) λh=>⟨-3,by rw [h.1,h.2];rfl⟩)
 obtain ⟨m,e⟩:=e
 refine ⟨((n+128*p:Nat):Int) / 384+(m+j),?_⟩
 rw [f,e,P0,eD,eD,<- Int.add_assoc (n:Int),<- AY]
 generalize ((n+128*p:Nat):Int)=x at *
 show x+384*m+128*b+384*j=x%384+_+_
 conv=>lhs;rw [<- q]
 ac_rfl
theorem MD {d:Nat} (hs:n < 384) (hd:d<=32) (r:w<=31) (m:(b=0/\p=0)\/(b=7/\p=1)\/(b=-7/\p=2)) (a:Int) (c:Nat) (g:(a=1/\c=0)\/(a=0/\c=128)\/(a=-1/\c=256)):
  hZ (bn (vF (dy (64*w:Nat)) (dy (64*(w+d):Nat)) (cJ (cJ (tQ n) (tf b 3)) (tf a 3))) (cB 4096))/\
  iL cS (bn (vF (dy (64*w:Nat)) (dy (64*(w+d):Nat)) (cJ (cJ (tQ n) (tf b 3)) (tf a 3))) (cB 4096))=(ft ((n+128*p)%384) w d c:Nat):=by
 have F:=sq hs
 refine ah (D5 hs F.f F.v (xX b (ak fe 0 [_] [_] m)) (xX a (ak fe 1 [_] [_] g)) (au eX 8 [_,_] [_] m rfl) (au eX 9 [_,_] [_] g rfl)) λs k=>cu k λy z o u=>ah o λj q=>?_
 have h:=D1 hd r u
 have e:w0 s=64 - dC ((n+128*p)%384) c:=by
  obtain ⟨i,f⟩:∃i:Int,s=((n+128*p)%384:Nat)+128*a+384*i:=MB q m
  refine aA (IO (sp:=(n+128*p)%384) (gZ _ (by decide)) y z f) λv l x=>?_
  rcases g with ⟨g,rfl⟩ | ⟨g,rfl⟩ | ⟨g,rfl⟩
  ·exact v g
  ·exact l g
  ·exact x g
 replace h:=(e)▸h
 exact h
section
variable {Q:V->Prop}{a b:UInt64}{i j:Int}{H:Hs}
theorem yz {a b:Option V}:(if true=true then a else b)=a:=rfl
theorem At:hY .Add (.dg a) (.dg b) Q=Q (.dg (cJ a b)):=rfl
theorem vp:hY .Sub (.dg a) (.dg b) Q=Q (.dg (gv a b)):=rfl
theorem UJ:hY .Mult (.dg a) (.dg b) Q=Q (.dg (bn a b)):=rfl
theorem yK:hY .Mult (.dg a) (.int i) Q=(h0 (cB i)=false/\Q (.dg (bn a (cB i)))):=rfl
theorem yL:hY .Div (.dg a) (.dg b) Q=(fG b=false/\Q (.dg (d8 a b))):=rfl
theorem EH:hY .Div (.int i) (.int j) Q=(j≠0/\h0 (tf i j)=false/\Q (.dg (tf i j))):=rfl
theorem UI:fG 4607182418800017408=false:=by decide +kernel
theorem KY (h:Q (.dg (uF a))):hY .Mod (.dg a) (.dg 4607182418800017408) Q:=⟨UI,h⟩
theorem Xa {Q:Bool->Prop}:tU .Lt (.dg a) (.dg b) H Q=Q (be a b==some bz):=rfl
theorem RV {Q:Bool->Prop}:tU .Eq (.dg a) (.dg b) H Q=Q (be a b==some ep):=rfl
theorem Xb {Q:Bool->Prop}:tU .LtE (.dg a) (.dg b) H Q=Q (be a b==some bz || be a b==some ep):=rfl
theorem vu (h:hZ a) (d:Q (.int (iL cS a))):sI "round" [.dg a] H Q:=(pF h).elim λc h=>(if_neg (by decide)).mpr<|(if_neg (by decide)).mpr<|(if_neg (by decide)).mpr<|(if_neg (by decide)).mpr<|(if_pos rfl).mpr ⟨c,h.1,h.2,d⟩
theorem EU (h:Q (.int (if j < i then j else i))):sI "min" [.int i,.int j] H Q:=(if_neg (by decide)).mpr<|(if_neg (by decide)).mpr<|(if_pos rfl).mpr h
theorem Sa (h:Q (.int (if j > i then j else i))):sI "max" [.int i,.int j] H Q:=(if_neg (by decide)).mpr<|(if_neg (by decide)).mpr<|(if_neg (by decide)).mpr<|(if_pos rfl).mpr h
end
theorem UD:zJ "ONE_SIXTH"=some (.dg 4595172819793696085):=by unfold zJ;refine ae (if_neg (by decide +kernel)) (ae (if_neg (by decide +kernel)) (ae (if_pos rfl) rfl))
theorem UC:zJ "TWO_THIRD"=some (.dg 4604180019048437077):=by unfold zJ;refine ae (if_neg (by decide +kernel)) (ae (if_neg (by decide +kernel)) (ae (if_neg (by decide +kernel)) (ae (if_pos rfl) rfl)))
def VF:Sp:=λa r=>∃m1 m2 h,a=[.dg m1,.dg m2,.dg h]/\r=.dg (vF m1 m2 h)
theorem Qc:∀d r a,VF d r->a r->jE (TL L) 3 Pg.length Uh d a:=by
 rintro d r a ⟨m1,m2,h,rfl,rfl⟩ b
 refine ⟨rfl,rfl,?_⟩
 show de _ [Jk,Jj,Ji,Jh,OU] [some (.dg m1),some (.dg m2),some (.dg h)] [] _
 unfold vF at b
 refine dM λK c=>?_
 dsimp only [Jk,bU,bt,aU,bK,bW,cs,bV,yz,c6,dB,fU,f6]
 refine KY (c _ _ ?_)
 generalize uF h=u at *
 refine dM λK c=>?_
 dsimp only [Jj,OX,fH,dY,jj,eH,fR,bt,aU,iB,bK,bW,df,MM,cs,bV,yz,c6,dB,At,vp,UJ]
 refine ae UD ?_
 cases e1:(be u 4595172819793696085==some bz)<;>replace b:=(e1)▸b
 ·refine ⟨λh=>(by replace h:=(e1)▸h;exact bT h),λO=>c _ _ ?_⟩
  refine dM λK c=>?_
  dsimp only [Ji,OW,fH,dY,jj,eH,fR,bt,aU,df,cs,bV,yz,c6,dB,Xa]
  cases e2:(be u 4602678819172646912==some bz)<;>replace b:=(e2)▸b
  ·refine ⟨λh=>(dk h),λO=>c _ _ ?_⟩
   refine dM λK c=>?_
   dsimp only [Jh,OV,fH,dY,jj,eH,fR,bt,aU,iB,bK,bW,df,MM,cs,bV,yz,c6,dB,vp]
   refine ae UC ?_
   cases e3:(be u 4604180019048437077==some bz)<;>replace b:=(e3)▸b
   ·refine ⟨λh=>(by replace h:=(e3)▸h;exact bT h),λO=>c _ _ ?_⟩
    exact ae eH ⟨_,rfl,b⟩
   ·refine ⟨λO=>⟨_,rfl,b⟩,λh=>(by replace h:=(e3)▸h;exact dS h)⟩
  ·exact ⟨λO=>⟨_,rfl,b⟩,λh=>(dS h)⟩
 ·exact ⟨λO=>⟨_,rfl,b⟩,λh=>(by replace h:=(e1)▸h;exact dS h)⟩
theorem Wm (B:Base C):hO C "_v" 42 VF:=
 iw (N:=41) (L:=[]) B (by decide) (λO O O h=>by exact nomatch h) Kf.WR Qc
noncomputable def dj (b a d:Nat):List Nat:=[ft b a d 0,ft b a d 128,ft b a d 256]
def uy:Sp:=λc r=>∃a b d:Nat,c=[.int a,.int b,.int (b+d:Nat)]/\a<=1000/\b<=31/\d<=32/\r=.lst (aE (dj (a%384) b d))
noncomputable abbrev TW (b a d:Nat) (x y z:Option V):Sg:=[some (.int b),some (.int a),some (.int (a+d:Nat)),some (.ref 0),x,y,z]
theorem KW (a c:Nat):dC a c<=64:=PW ..
theorem Ob (h:p<=384):((n:Int) - p).fmod 384=((n%384+384 - p)%384:Nat):=by
 rw [cz _ (by decide),LH _ _ h,P0,AY,Int.natCast_sub h]
 show _=((n:Int)+(384 - p))%384
 rw [<- OL,xP,OL,Int.add_emod_left]
theorem Bw {c:Nat}{l:List Nat}{z:Option V} (s:n<=1000) (d:p<=31) (i:w<=32) (q:c=0\/c=128\/c=256) (r:l.length<=3)
  (b:∀e z,k none (TW n p w (some (.int c)) e z) [aE (l++[ft (n%384) p w c])]):
  de (TL L) [oW,oV,oU] (TW n p w (some (.int c)) e z) [aE l] k:=by
 refine dM λK h=>?_
 dsimp only [oW,bU,bt,aU,bK,bW,cs,bV,c6,dB,fU,f6,kx,vA]
 refine ⟨by decide,h _ _ ?_⟩
 have o:((n:Int) - c).fmod 384=((n%384+384 - c)%384:Nat):=by
  exact Ob (by rcases q with rfl | rfl | rfl<;>decide)
 refine ae o ?_
 have j:=KW (n%384) c
 unfold ft at b
 have a:dC (n%384) c=min (min ((n%384+384 - c)%384) (384 - (n%384+384 - c)%384) - 64) 64:=rfl
 have u:(n%384+384 - c)%384 < 384:=gZ _ (by decide)
 generalize dC (n%384) c=f at *
 generalize (n%384+384 - c)%384=g at *
 refine dM λK h=>?_
 dsimp only [oV,bU,bt,aU,bK,d5,cD,cL,bW,ir,ea,cs,bV,c6,dB,fU,f6,kx]
 refine ⟨rfl,rfl,rfl,EU ?_⟩
 refine ae kx ?_
 refine Sa (EU (h _ _ ?_))
 have y:(if (64:Int) < (if (0:Int) > (if (384:Int) - g < g then (384:Int) - g else g) - 64 then 0 else (if (384:Int) - g < g then (384:Int) - g else g) - 64) then (64:Int) else (if (0:Int) > (if (384:Int) - g < g then (384:Int) - g else g) - 64 then 0 else (if (384:Int) - g < g then (384:Int) - g else g) - 64))=(f:Int):=by
  refine ae a ?_
  split<;>split<;>split at *<;>(first | exact jH fA 17 [_,_,_,_,_] [] ‹_› jG a8 jG a8 | exact jH fA 18 [_,_,_,_,_] [] ‹_› jG a8 jG a8 | exact qP kj 8 [_,_,_,_,_] [] ‹_› ‹_› jG a8 jG a8 | exact qP kj 9 [_,_,_,_,_] [] ‹_› ‹_› jG a8 jG a8 | exact jH fA 19 [_,_,_,_,_] [] ‹_› jG a8 jG a8 | exact qP kj 10 [_,_,_,_,_] [] ‹_› ‹_› jG a8 jG a8 | exact qP kj 11 [_,_,_,_,_] [] ‹_› ‹_› jG a8 jG a8)
 refine ae y ?_
 refine dM λK h=>?_
 dsimp only [oU,oa,bt,aU,bK,d4,cD,cL,bW,ip,iq,cs,bV,c6,dB]
 refine ⟨rfl,fY (by decide) (bI hG 1 [_,_,_] [] d i rfl) ?_⟩
 refine ae kx ?_
 refine fY (au bq 14 [_,_,_] [] i rfl) (au eU 11 [_,_] [] j rfl) ?_
 refine ae kx ?_
 refine pB (l:=aE l) rfl (ae (bS _) (ak aK 4 [_] [] r)) (h _ _ (c0 ?_))
 have m:(64*((p+w:Nat):Int) - (((p+w:Nat):Int) - p)*f)=((64*p+w*(64 - f):Nat):Int):=by
  refine ae (show ((p+w:Nat):Int) - p=w by exact bA im 9 [_,_] []) ?_
  push_cast [we j]
  exact ae (uj _ _ _) (ae (eD _ _ _) (bA im 10 [_,_] [_]))
 refine ae m ?_
 have:=ints_app l [64*p+w*(64 - f)]
 show k none _ [aE l++[V.int ((64*p+w*(64 - f):Nat):Int)]]
 exact ae (show aE l++[V.int ((64*p+w*(64 - f):Nat):Int)]=aE (l++[64*p+w*(64 - f)]) from this) (b _ _)
theorem Nj:∀j r e,uy j r->e r->jE (TL L) 3 tl.length uZ j e:=by
 rintro j r e ⟨a,b,d,rfl,f,g,h,rfl⟩ k
 refine ⟨rfl,rfl,?_⟩
 show de _ [oY,oX,s0] [some (.int a),some (.int b),some (.int (b+d:Nat)),none,none,none,none] [] _
 refine dM λK i=>?_
 dsimp only [oY,bU,eE,cD,w9,fU,f6]
 refine i _ _ ?_
 refine dM λK i=>?_
 dsimp only [oX,kr,bt,eA,cD,cL,zI,w8,cs,bV,sH,fu,bH]
 refine Bw (c:=0) (l:=[]) f g h (.inl rfl) (by decide) λy z=>?_
 refine Bw (c:=128) (l:=[ft (a%384) b d 0]) f g h (.inr (.inl rfl)) (by show 1<=3;decide) λy z=>?_
 exact Bw (c:=256) (l:=[ft (a%384) b d 0,ft (a%384) b d 128]) f g h (.inr (.inr rfl)) (by show 2<=3;decide) λy z=>i _ _ (ae eH ⟨_,yG (l:=aE (dj (a%384) b d)) rfl (rQ _),k⟩)
theorem TX (B:Base C):hO C "_law_paint" 42 uy:=
 iw (N:=41) (L:=[]) B (by decide) (λO O O h=>by exact nomatch h) Kf.BN Nj
theorem MJ:((dT 65).all λx=>tf (x:Nat) 64==dy (64*x:Nat) && !h0 (tf (x:Nat) 64))=true:=by decide +kernel
theorem SY (h:n<=64) (c:g (.dg (dy (64*n:Nat)))):hY .Div (.int n) (.int 64) g:=by
 have a:=aS.mp MJ n (eJ.mpr (ak ce 18 [_] [] h))
 rw [az,beq_iff_eq] at a
 refine af a λe b=>?_
 refine ae EH ?_
 refine ⟨by decide,by exact (gb _).mp b,?_⟩
 exact ae e c
theorem d3 (h:b=1\/b=0\/b=-1\/b=7\/b=-7) (a:g (.dg (tf b 3))):hY .Div (.int b) (.int 3) g:=by
 exact ae EH ⟨by decide,(pF (xX b h).f).2.2,a⟩
theorem RU {a:List V} (e:vM (fz n J) l=some a):fz (n+1) J (.lst l)=some (.lst a):=by
 exact congrArg (Ib V.lst) e
noncomputable def yP (b:Int):Nat:=if b=1 then 0 else if b=0 then 128 else 256
def vV:Sp:=λe r=>∃(c b d k:Nat) (a:Int),e=[.dg (cJ (tQ c) (tf a 3)),.int b,.int (b+d:Nat)]/\c < 384/\b<=31/\d<=32/\((a=0/\k=0)\/(a=7/\k=1)\/(a=-7/\k=2))/\r=.lst (aE (dj ((c+128*k)%384) b d))
theorem NU:h0 (cB 4096)=false:=by decide +kernel
theorem GT (o:L.lookup ("_v":Str)=some (n,VF)):∀j r c,vV j r->c r->jE (TL L) 3 ve.length wy j c:=by
 rintro j r c ⟨i,e,d,k,a,rfl,hs,g,m,p,rfl⟩ u
 refine ⟨rfl,rfl,?_⟩
 show de _ [p3] [some (.dg (cJ (tQ i) (tf a 3))),some (.int e),some (.int (e+d:Nat))] [] _
 refine ae eH ?_
 dsimp only [p3,fH,bt,aU,bK,hF,cU,d5,eA,ec,cD,cL,zI,w8,wg,xV,cs,bV,pC]
 refine ⟨by show 3<=1000;decide,?_⟩
 refine fy (λb:Int=>V.int b) (λb=>some (V.int (ft ((i+128*k)%384) e d (yP b):Nat))) [1,0,-1] _ _ (λb q x s=>?_) ?_
 ·have f:b=1\/b=0\/b=-1:=by
   rcases aX.mp q with h | h
   ·exact .inl h
   ·rcases aX.mp h with h | h
    ·exact .inr (.inl h)
    ·exact .inr (.inr (ai.mp h))
  refine af (MD hs m g p b (yP b) (by unfold yP;rcases f with rfl | rfl | rfl<;>decide)) λv w=>?_
  dsimp only [fu,n8,n9,bt,aU,iB,bK,jb,hF,iX,iW,cU,d5,m7,d4,dx,iV,eE,eA,ec,cD,cL,BE,BC,Oy,Ox,bH,bW,ir,ea,cs,bV,c6,dB]
  refine ⟨λO=>⟨rfl,dD o,SY (ak aK 6 [_] [] g) (SY (au eU 5 [_,_] [] g m) (d3 (ak e9 22 [] [_] f) ?_))⟩,λh=>(dS h)⟩
  dsimp only [BE,BC,c6,dB,At]
  refine ed o rfl ⟨_,_,_,rfl,rfl⟩ ⟨rfl,?_⟩
  refine ae yK ?_
  refine ⟨NU,vu v ?_⟩
  exact ae w s
 ·exact ⟨_,RU (l:=aE (dj ((i+128*k)%384) e d)) (rQ _),u⟩
theorem MC (B:Base C):hO C "_law_told" 44 vV:=
 iw (N:=43) (L:=[("_v",42,VF)]) B (by decide) (λx n a h=>by
  cases ai.mp h
  exact ⟨by decide,Wm B⟩) Kf.Dm (GT rfl)
theorem tV (c:y.natAbs<=2^28) (d:b.natAbs<=2^28):(be (dy y) (dy b)==some bz)=decide (y < b):=by
 refine ae (K6 c d) ?_
 rcases lI y b with h | h | h
 ·refine ae (lJ.mpr h) (ae (decide_eq_true h) ?_);rfl
 ·refine ae (xO.mpr h) (ae (decide_eq_false (ak dd 19 [] [_,_] h)) ?_);rfl
 ·refine ae (lK.mpr h) (ae (decide_eq_false (ak ce 3 [] [_,_] h)) ?_);rfl
theorem yU (c:y.natAbs<=2^28) (d:b.natAbs<=2^28):(be (dy y) (dy b)==some ep)=decide (y=b):=by
 refine ae (K6 c d) ?_
 rcases lI y b with h | h | h
 ·refine ae (lJ.mpr h) (ae (decide_eq_false (ak dd 20 [] [_,_] h)) ?_);rfl
 ·refine ae (xO.mpr h) (ae (decide_eq_true h) ?_);rfl
 ·refine ae (lK.mpr h) (ae (decide_eq_false (ak dd 21 [] [_,_] h)) ?_);rfl
theorem C7 {a:Int} (g:a.natAbs<=2^30) (h:a≠0):fG (dy a)=false:=by
 refine aG (mw g) λm e b=>aA b λc O d=>?_
 unfold fG
 refine ae c ?_
 split
 ·rename_i f
  cases f
  exact absurd (d.mp rfl) h
 ·rfl
theorem FA {c:Int} (g:y.natAbs<=2^28) (i:b.natAbs<=2^28) (j:c.natAbs<=2^28) {m:Int} (k:y<=m) (l:b<=m) (f:c<=m) (h:y=m\/b=m\/c=m):J6 (dy y) (dy b) (dy c)=dy m:=by
 unfold J6
 refine ae (tV g i) ?_
 by_cases e:y < b
 ·refine ae (decide_eq_true e) ?_
  show (if (be (dy b) (dy c)==some bz)=true then dy c else dy b)=_
  refine ae (tV i j) ?_
  by_cases d:b < c
  ·refine ae (decide_eq_true d) (ae (if_pos rfl) ?_);congr 1;exact eP ee 3 [] [_,_,_,_] f h e d
  ·refine ae (decide_eq_false d) (ae (if_neg (by decide)) ?_);congr 1;exact eP ee 4 [] [_,_,_,_] l h e d
 ·refine ae (decide_eq_false e) ?_
  show (if (be (dy y) (dy c)==some bz)=true then dy c else dy y)=_
  refine ae (tV g j) ?_
  by_cases d:y < c
  ·refine ae (decide_eq_true d) (ae (if_pos rfl) ?_);congr 1;exact eP ee 5 [] [_,_,_,_] f h e d
  ·refine ae (decide_eq_false d) (ae (if_neg (by decide)) ?_);congr 1;exact eP ee 6 [] [_,_,_,_] k h e d
theorem Fz {c:Int} (g:y.natAbs<=2^28) (i:b.natAbs<=2^28) (j:c.natAbs<=2^28) {m:Int} (k:m<=y) (l:m<=b) (f:m<=c) (h:y=m\/b=m\/c=m):J5 (dy y) (dy b) (dy c)=dy m:=by
 unfold J5
 refine ae (tV i g) ?_
 by_cases e:b < y
 ·refine ae (decide_eq_true e) ?_
  show (if (be (dy c) (dy b)==some bz)=true then dy c else dy b)=_
  refine ae (tV j i) ?_
  by_cases d:c < b
  ·refine ae (decide_eq_true d) (ae (if_pos rfl) ?_);congr 1;exact eP ee 7 [] [_,_,_,_] f h e d
  ·refine ae (decide_eq_false d) (ae (if_neg (by decide)) ?_);congr 1;exact eP ee 8 [] [_,_,_,_] l h e d
 ·refine ae (decide_eq_false e) ?_
  show (if (be (dy c) (dy y)==some bz)=true then dy c else dy y)=_
  refine ae (tV j g) ?_
  by_cases d:c < y
  ·refine ae (decide_eq_true d) (ae (if_pos rfl) ?_);congr 1;exact eP ee 9 [] [_,_,_,_] f h e d
  ·refine ae (decide_eq_false d) (ae (if_neg (by decide)) ?_);congr 1;exact eP ee 10 [] [_,_,_,_] k h e d
theorem Gm {b c:UInt64} (h:g (.dg (J6 r b c))):sI "max" [.dg r,.dg b,.dg c] J g:=(if_neg (by decide)).mpr<|(if_neg (by decide)).mpr<|(if_neg (by decide)).mpr<|(if_pos rfl).mpr h
theorem Gl {b c:UInt64} (h:g (.dg (J5 r b c))):sI "min" [.dg r,.dg b,.dg c] J g:=(if_neg (by decide)).mpr<|(if_neg (by decide)).mpr<|(if_pos rfl).mpr h
theorem A6:(4611686018427387904:UInt64)=dy 8192:=by decide +kernel
theorem N6:(4616189618054758400:UInt64)=dy 16384:=by decide +kernel
theorem N1:(4602678819172646912:UInt64)=dy 2048:=by decide +kernel
theorem QE:fG 4618441417868443648=false:=by decide +kernel
noncomputable def Hm (S:Nat):Nat:=if S<=64 then S else 128 - S
def CO:Sp:=λc r=>(∃a:Nat,a<=31/\c=[.dg (dy (64*a:Nat)),.dg (dy (64*a:Nat)),.dg (dy (64*a:Nat))]/\r=.tup [.dg 0,.dg (dy (64*a:Nat)),.dg 0])\/
 (∃b a d:Nat,b < 384/\a<=31/\1<=d/\d<=32/\c=[.dg (dy (ft b a d 0:Nat)),.dg (dy (ft b a d 128:Nat)),.dg (dy (ft b a d 256:Nat))]/\
  r=.tup [.dg (tQ b),.dg (dy (32*(2*a+d):Nat)),.dg (d8 (dy (64*d:Nat)) (dy (64*Hm (2*a+d):Nat)))])
structure OB (p UH:Nat) (low d:Nat):Prop where
 f:UH<=64
 e:p+d*UH=64*low+64*d
 lo:64*low<=p
 hi:p<=64*low+64*d
 z:p=64*low+64*d<->UH=0
 t:UH=64->p=64*low
 b:d*UH<=2048
theorem sm (b a d c:Nat) (k:1<=d) (l:d<=32):OB (ft b a d c) (dC b c) a d:=by
 have j:=KW b c
 unfold ft
 generalize dC b c=f at *
 have e:=Nat.mul_sub d 64 f
 have g:d*f<=d*64:=gw d j
 refine ⟨j,by exact bI cO 13 [_,_,_,_,_] [] e g a8,by exact bA bZ 20 [_,_] [],by exact au dm 15 [_,_,_,_,_] [] e a8,?_,?_,by exact au dm 16 [_,_] [] l g⟩
 ·constructor
  ·intro h
   have:d*f=0:=eP ee 11 [_,_,_,_,_] [] e g h a8
   rcases AW.mp this with i | i<;>(first | exact au dm 17 [_,_] [] k i | exact ak dd 22 [_] [] i)
  ·rintro rfl;exact bA bZ 21 [_,_] []
 ·rintro rfl;exact bA bZ 22 [_,_] []
theorem RM (e:n<=31) (f:∀g,k (some (.tup [.dg 0,.dg (dy (64*n:Nat)),.dg 0])) g []):
  de (TL L) [jy,jx,jw,jv,ju,jt,kH,iT,iS,iR,iQ,gX,iP]
   [some (.dg (dy (64*n:Nat))),some (.dg (dy (64*n:Nat))),some (.dg (dy (64*n:Nat))),none,none,none,none,none,none,none,none,none,none] [] k:=by
 have b:((64*n:Nat):Int).natAbs<=2^28:=ae (aM _) (ak aK 9 [_] [] e)
 refine dM λK d=>?_
 dsimp only [jy,bU,aU,d5,cD,cL,ir,ea,c6,dB,fU,f6]
 refine ⟨rfl,Gm ?_⟩
 refine ae (FA b b b (j0 _) (j0 _) (j0 _) (.inl rfl)) ?_
 refine d _ _ (dM λK d=>?_)
 dsimp only [jx,bU,aU,d5,cD,cL,ir,ea,c6,dB,fU,f6]
 refine ⟨rfl,Gl ?_⟩
 refine ae (Fz b b b (j0 _) (j0 _) (j0 _) (.inl rfl)) ?_
 refine d _ _ (dM λK d=>?_)
 dsimp only [jw,bU,aU,bK,bW,c6,dB,fU,f6,At]
 refine ae (BW b b) ?_
 refine d _ _ (dM λK d=>?_)
 dsimp only [jv,bU,aU,bK,bW,c6,dB,fU,f6,vp]
 refine d _ _ (dM λK d=>?_)
 dsimp only [ju,bU,bt,aU,bK,bW,cs,bV,yz,c6,dB,fU,f6,yL]
 refine ae A6 (ae (EK (c:=(64*n:Nat)) (bA bZ 13 [_] []) (by decide) (bA bZ 7 [_] []) (by decide) b (au dm 10 [_,_] [] e rfl) (bA bZ 14 [_] [])) ?_)
 refine ⟨C7 (by decide) (by decide),d _ _ (dM λK d=>?_)⟩
 dsimp only [jt,nA,fH,dY,jj,eH,fR,bt,aU,eA,cD,cL,df,cs,bV,yz,c6,dB,RV]
 exact ae (yU b b) (ae (decide_eq_true rfl) ⟨λO=>f _,λh=>(dS h)⟩)
theorem RL {E F G:Nat}{a l s x:Option V} (m:1<=w) (r:w<=32) (b:p<=31) (A:OB E (dC n 0) p w) (B:OB F (dC n 128) p w) (N:OB G (dC n 256) p w)
  {H:V} (y:l=some v) (z:s=some H) (X:∀σ,k (some (.tup [.dg (tQ n),v,H])) σ []):
  de (TL L) [iT,iS,iR,iQ,gX,iP]
   [some (.dg (dy (E:Nat))),some (.dg (dy (F:Nat))),some (.dg (dy (G:Nat))),some (.dg (dy (64*p+64*w:Nat))),a,e,some (.dg (dy (64*w:Nat))),l,s,none,none,none,x] [] k:=by
 subst y z
 have hd:((64*w:Nat):Int).natAbs<=2^28:=ae (aM _) (ak dd 11 [_] [] r)
 have M:((64*p+64*w:Nat):Int).natAbs<=2^28:=ae (aM _) (au dm 11 [_,_] [] r b)
 have D:=C7 (a:=((64*w:Nat):Int)) (au dm 12 [_,_] [] hd rfl) (ak dd 12 [_] [] m)
 have j:∀C f:Nat,OB C f p w->d8 (gv (dy (64*p+64*w:Nat)) (dy (C:Nat))) (dy (64*w:Nat))=dy (64*f:Nat):=λC f Q=>by
  have o:=Q.hi
  have I:=Q.e
  have P:=Q.b
  have S:=Q.f
  refine ae (rV M (by rw [aM];exact bI cO 2 [_,_,_] [] r b o)) ?_
  refine EK (ak dd 13 [_,_,_] [] o) (ak dd 14 [_] [] m) (bA bZ 7 [_] []) hd (ae (aM _) (ak aK 2 [_] [] S)) (bI cO 10 [_,_,_,_,_] [] I P rfl) ?_
  refine ae (show ((64*p+64*w:Nat):Int) - (C:Int)=((w*f:Nat):Int) by exact ak dd 15 [_,_,_,_] [] I) ?_
  have:(64*f)*(64*w)=w*f*4096:=by refine ae (show (4096:Nat)=64*64 from rfl) ?_;ac_rfl
  exact_mod_cast this.symm
 have g:∀C f:Nat,OB C f p w->(be (dy (C:Nat)) (dy (64*p+64*w:Nat))==some ep)=decide (f=0):=λC f Q=>by
  have o:=Q.hi
  refine ae (yU (by rw [aM];exact bI cO 2 [_,_,_] [] r b o) M) ?_
  apply decide_eq_decide.mpr
  exact Vz.trans Q.z
 have Y:=j _ _ A
 have Z:=j _ _ B
 have q2:=j _ _ N
 have T:=g _ _ A
 have U:=g _ _ B
 have u:=A.f
 have d:=B.f
 have J:=N.f
 refine dM λK c=>?_
 dsimp only [iT,bU,aU,bK,bW,c6,dB,fU,f6,vp,yL]
 refine ae Y ?_
 refine ⟨D,c _ _ (dM λK c=>?_)⟩
 dsimp only [iS,bU,aU,bK,bW,c6,dB,fU,f6,vp,yL]
 refine ae Z ?_
 refine ⟨D,c _ _ (dM λK c=>?_)⟩
 dsimp only [iR,bU,aU,bK,bW,c6,dB,fU,f6,vp,yL]
 refine ae q2 ?_
 refine ⟨D,c _ _ (dM λK c=>?_)⟩
 have i:∀h:Int,h=hN n->de (TL L) [gX,iP] [some (.dg (dy (E:Nat))),some (.dg (dy (F:Nat))),some (.dg (dy (G:Nat))),some (.dg (dy (64*p+64*w:Nat))),a,e,some (.dg (dy (64*w:Nat))),some v,some H,some (.dg (dy (64*dC n 0:Nat))),some (.dg (dy (64*dC n 128:Nat))),some (.dg (dy (64*dC n 256:Nat))),some (.dg (dy h))] [] k:=λh W=>by
  subst W
  refine dM λK c=>?_
  dsimp only [gX,bU,bt,aU,bK,bW,cs,bV,yz,c6,dB,fU,f6,yL]
  refine ⟨QE,KY (c _ _ ?_)⟩
  exact ae eH (X _)
 dsimp only [iQ,qv,qu,qt,qr,bU,dY,jj,eH,fR,bt,aU,bK,bW,df,cs,bV,yz,c6,dB,fU,f6,RV,vp,At]
 refine ae T ?_
 refine ⟨λh=>?_,λh=>?_⟩
 ·have q:=of_decide_eq_true h
  exact ae (rV (by rw [aM];exact ak aK 2 [_] [] J) (by rw [aM];exact ak aK 2 [_] [] d)) (c _ _ (i _ (by unfold hN;exact ae (if_pos q) (bA bZ 15 [_,_] []))))
 ·have q:=of_decide_eq_false h
  refine ae U ?_
  refine ⟨λh=>?_,λh=>?_⟩
  ·have m:=of_decide_eq_true h
   exact ae A6 (ae (BW (by decide) (by rw [aM];exact ak aK 2 [_] [] u)) (ae (rV (au dm 13 [_,_] [] u rfl) (by rw [aM];exact ak aK 2 [_] [] J)) (c _ _ (i _ (by unfold hN;exact ae (if_neg q) (ae (if_pos m) (bA bZ 16 [_,_] [])))))))
  ·have m:=of_decide_eq_false h
   exact ae N6 (ae (BW (by decide) (by rw [aM];exact ak aK 2 [_] [] d)) (ae (rV (au dm 14 [_,_] [] d rfl) (by rw [aM];exact ak aK 2 [_] [] u)) (c _ _ (i _ (by unfold hN;exact ae (if_neg q) (ae (if_neg m) (bA bZ 17 [_,_] [])))))))
theorem R4 (c:y.natAbs<=2^28) (d:b.natAbs<=2^28):(be (dy y) (dy b)==some bz || be (dy y) (dy b)==some ep)=decide (y<=b):=by
 exact ae (tV c d) (ae (yU c d) (bQ (Bool.decide_or _ _) (decide_eq_decide.mpr Int.le_iff_lt_or_eq.symm)))
theorem N2 {x y z:Nat} (hs:p < 384) (f:n<=31) (d:1<=w) (g:w<=32) (Q:OB x (dC p 0) n w) (l:OB y (dC p 128) n w) (o:OB z (dC p 256) n w)
  (A:∀E,k (some (.tup [.dg (tQ p),.dg (dy (32*(2*n+w):Nat)),.dg (d8 (dy (64*w:Nat)) (dy (64*Hm (2*n+w):Nat)))])) E []):
  de (TL L) [jy,jx,jw,jv,ju,jt,kH,iT,iS,iR,iQ,gX,iP]
   [some (.dg (dy (x:Nat))),some (.dg (dy (y:Nat))),some (.dg (dy (z:Nat))),none,none,none,none,none,none,none,none,none,none] [] k:=by
 have F:=sq hs
 have b:∀a:Nat,a<=100000->((a:Nat):Int).natAbs<=2^28:=λa h=>by exact ae (aM _) (ak fg 11 [_] [] h)
 have r:=Q.hi
 have u:=l.hi
 have v:=o.hi
 have B:=Q.lo
 have C:=l.lo
 have D:=o.lo
 refine dM λK i=>?_
 dsimp only [jy,bU,aU,d5,cD,cL,ir,ea,c6,dB,fU,f6]
 refine ⟨rfl,Gm ?_⟩
 refine ae (FA (m:=(64*n+64*w:Nat)) (b _ (bI cO 0 [_,_,_] [] f g r)) (b _ (bI cO 0 [_,_,_] [] f g u)) (b _ (bI cO 0 [_,_,_] [] f g v)) (ak aK 21 [_,_,_] [] r) (ak aK 21 [_,_,_] [] u) (ak aK 21 [_,_,_] [] v) (by
  rcases F.z with h | h | h
  ·have:=Q.z.mpr h;exact ak fg 12 [_,_,_,_,_] [] this
  ·have:=l.z.mpr h;exact ak fg 13 [_,_,_,_,_] [] this
  ·have:=o.z.mpr h;exact ak fg 14 [_,_,_,_,_] [] this)) ?_
 refine i _ _ (dM λK i=>?_)
 dsimp only [jx,bU,aU,d5,cD,cL,ir,ea,c6,dB,fU,f6]
 refine ⟨rfl,Gl ?_⟩
 refine ae (Fz (m:=(64*n:Nat)) (b _ (bI cO 0 [_,_,_] [] f g r)) (b _ (bI cO 0 [_,_,_] [] f g u)) (b _ (bI cO 0 [_,_,_] [] f g v)) (ak aK 22 [_,_] [] B) (ak aK 22 [_,_] [] C) (ak aK 22 [_,_] [] D) (by
  rcases F.t with h | h | h
  ·have:=Q.t h;exact ak fg 15 [_,_,_,_] [] this
  ·have:=l.t h;exact ak fg 16 [_,_,_,_] [] this
  ·have:=o.t h;exact ak fg 17 [_,_,_,_] [] this)) ?_
 refine i _ _ (dM λK i=>?_)
 dsimp only [jw,bU,aU,bK,bW,c6,dB,fU,f6,At]
 refine ae (BW (b _ (au bq 7 [_,_] [] f g)) (b _ (ak aK 13 [_] [] f))) (ae (show ((64*n+64*w:Nat):Int)+((64*n:Nat):Int)=((64*(2*n+w):Nat):Int) by exact bA fm 16 [_,_] []) ?_)
 refine i _ _ (dM λK i=>?_)
 dsimp only [jv,bU,aU,bK,bW,c6,dB,fU,f6,vp]
 refine ae (rV (b _ (au bq 7 [_,_] [] f g)) (b _ (ak aK 13 [_] [] f))) (ae (show ((64*n+64*w:Nat):Int) - ((64*n:Nat):Int)=((64*w:Nat):Int) by exact bA fm 17 [_,_] []) ?_)
 refine i _ _ (dM λK i=>?_)
 dsimp only [ju,bU,bt,aU,bK,bW,cs,bV,yz,c6,dB,fU,f6,yL]
 refine ae A6 (ae (EK (c:=(32*(2*n+w):Nat)) (bA fm 18 [_,_] []) (by decide) (bA fm 19 [_,_] []) (by decide) (b _ (au bq 23 [_,_] [] f g)) (b _ (au eX 2 [_,_] [] f g)) (bA fm 20 [_,_] [])) ?_)
 refine ⟨C7 (by decide) (by decide),i _ _ (dM λK i=>?_)⟩
 dsimp only [jt,nA,fH,dY,jj,eH,fR,bt,aU,eA,cD,cL,df,cs,bV,yz,c6,dB,RV]
 refine ae (yU (b _ (ak aK 13 [_] [] f)) (b _ (au bq 7 [_,_] [] f g))) (ae (decide_eq_false (ak fg 18 [_,_] [] d)) ?_)
 refine ⟨λh=>(bT h),λO=>i _ _ (dM λK i=>?_)⟩
 have j:∀s:UInt64,s=d8 (dy (64*w:Nat)) (dy (64*Hm (2*n+w):Nat))->K [some (.dg (dy (x:Nat))),some (.dg (dy (y:Nat))),some (.dg (dy (z:Nat))),some (.dg (dy (64*n+64*w:Nat))),some (.dg (dy (64*n:Nat))),some (.dg (dy (64*(2*n+w):Nat))),some (.dg (dy (64*w:Nat))),some (.dg (dy (32*(2*n+w):Nat))),some (.dg s),none,none,none,none] []:=λs e=>by
  subst e
  exact i _ _ (RL d g f Q l o rfl rfl A)
 dsimp only [kH,rh,rg,bU,dY,jj,eH,fR,bt,aU,bK,bW,df,cs,bV,yz,c6,dB,fU,f6,Xb,yL,vp]
 refine ae N1 (ae (R4 (b _ (au bq 23 [_,_] [] f g)) (by decide)) ?_)
 refine ⟨λh=>?_,λh=>?_⟩
 ·have q:=of_decide_eq_true h
  refine ⟨C7 (ae (aM _) (ak fg 19 [_,_] [] q)) (ak fg 20 [_,_] [] d),j _ ?_⟩
  unfold Hm
  refine ae (if_pos (ak fg 21 [_,_] [] q)) rfl
 ·have q:=of_decide_eq_false h
  refine ae A6 (ae (rV (by decide) (b _ (au bq 7 [_,_] [] f g))) (ae (rV (bI eS 7 [_,_,_] [] f g rfl) (b _ (ak aK 13 [_] [] f))) (ae (show (8192:Int) - ((64*n+64*w:Nat):Int) - ((64*n:Nat):Int)=((64*(128 - (2*n+w)):Nat):Int) by exact bI eS 8 [_,_,_] [] f g a8) ?_)))
  refine ⟨C7 (ae (aM _) (ak fg 22 [_,_,_] [] a8)) (bI eS 9 [_,_,_] [] f g a8),j _ ?_⟩
  unfold Hm
  refine ae (if_neg (ak fg 23 [_,_] [] q)) rfl
theorem Kx:∀g r a,CO g r->a r->jE (TL L) 3 th.length uX g a:=by
 rintro g r a (⟨f,e,rfl,rfl⟩ | ⟨i,f,d,hs,e,b,c,rfl,rfl⟩) h
 ·exact ⟨rfl,rfl,RM e λO=>⟨_,rfl,h⟩⟩
 ·exact ⟨rfl,rfl,N2 hs e b c (sm _ _ _ _ b c) (sm _ _ _ _ b c) (sm _ _ _ _ b c) λO=>⟨_,rfl,h⟩⟩
theorem RI (B:Base C):hO C "rgb_to_hls" 42 CO:=
 iw (N:=41) (L:=[]) B (by decide) (λO O O h=>by exact nomatch h) Kf.BK Kx
theorem ym {i:Int} (h:i.natAbs<=2^18):cB i=dy (4096*i):=by
 refine Ga (Float64.ofInt_right i) (by decide) (bI cO 20 [_,_] [_] h rfl rfl) ?_ (by apply decide_eq_decide.mpr;lia)
 have e:(2:Nat)^1074=4096*2^1062:=by refine ae (show (1074:Nat)=12+1062 from rfl) (ae (du _ _ _) rfl)
 rw [e,fN,cG,<- gP,jg i.natAbs];rfl
theorem G7 (g:1<=w) (hd:p<=w) (i:w<=64):hZ (d8 (dy (64*p:Nat)) (dy (64*w:Nat)))/\(w*val (d8 (dy (64*p:Nat)) (dy (64*w:Nat))) - p*2^1074).natAbs<=w*2^1024:=by
 refine aG (mw (n:=((64*p:Nat):Int)) (by refine ae (aM _) ?_;exact au e7 20 [_,_] [] hd i)) λa e c=>aA c λd q O=>?_
 refine aG (mw (n:=((64*w:Nat):Int)) (by refine ae (aM _) ?_;exact ak fj 1 [_] [] i)) λb f c=>aA c λr s u=>?_
 have j:=HZ d r (λe=>by have:=u.mp e;exact au e7 21 [_] [] g this)
 rw [q,s,y9,y9,aM,aM,decide_eq_false (show ¬((64*p:Nat):Int) < 0 by exact bA bZ 8 [_] []),decide_eq_false (show ¬((64*w:Nat):Int) < 0 by exact bA bZ 8 [_] [])] at j
 have h:=cW 1062
 refine af (sr (K:=1024) j (ug (ak ce 6 [_] [] g) h) (by decide) (by decide) (by
  refine bL (bC _ (bC _ (gw 64 hd))) ?_
  exact Ck (uf (by decide) (by decide)) (ug (ak ce 6 [_] [] g) h))) λl o=>?_
 refine ⟨l,?_⟩
 generalize d8 (dy (64*p:Nat)) (dy (64*w:Nat))=x at *
 refine yV (Y:=((64*2^1062:Nat):Int)) (y:=64*2^1062) rfl (ug (by decide) h) ?_
 have k:((64*2^1062:Nat):Int)*(w*val x - p*2^1074)=((64*w*2^1062:Nat):Int)*val x - sgn (false !=false) (64*p*2^1062*2^1074):=by
  show _=_ - ((64*p*2^1062*2^1074:Nat):Int)
  rw [da (64*p*2^1062),fI 1074]
  generalize (2:Nat)^1062=Y
  generalize (2:Int)^1074=K
  rw [uj,da,da,da,da,da]
  congr 1
  ·ac_rfl
  ·ac_rfl
 rw [k]
 refine ar o (dN ?_)
 ac_rfl
theorem CR (u:1<=w) (hd:p<=w) (g:w<=64) (r:p<=32):
  hZ (bn (bn (d8 (dy (64*p:Nat)) (dy (64*w:Nat))) (cB w)) (cB 1024))/\
  iL cS (bn (bn (d8 (dy (64*p:Nat)) (dy (64*w:Nat))) (cB w)) (cB 1024))=(1024*p:Nat):=by
 refine af (G7 u hd g) λd l=>?_
 generalize d8 (dy (64*p:Nat)) (dy (64*w:Nat))=x at *
 refine ae (ym (i:=(w:Int)) (au e7 22 [_,_] [] g rfl)) (ae (ym (i:=1024) (by decide)) ?_)
 have G:=cW 1024
 have c:=fI 1024
 have q:((p:Int)*2^1074).natAbs<=32*2^1074:=by
  exact ae (cG _ _) (ae (aM _) (ae (g0 _ _) (bC _ r)))
 have v:(val x).natAbs < 2^(51+1024):=by
  have B:w*(val x).natAbs<=w*(2^1074+2^1024):=by
   have C:(w*val x).natAbs=w*(val x).natAbs:=by refine ae (cG _ _) (ae (aM _) rfl)
   have E:((p:Int)*2^1074).natAbs<=w*2^1074:=by
    exact ae (cG _ _) (ae (aM _) (ae (g0 _ _) (bC _ hd)))
   exact ae (zU _ _ _) (bQ C (jH fA 1 [_,_,_,_,_] [_] l E rfl rfl rfl))
  have m:=pU B u
  refine ae (pN 51) ?_
  replace m:=(SH)▸m
  generalize (2:Nat)^1024=X at *
  exact bI cO 21 [_,_] [_] c m rfl
 refine af (uV (n:=4096*(w:Int)) (i:=51+1024) (k:=19) (K:=5+1024) d (au e7 23 [_,_] [] g rfl) (by decide) v (by decide) (by decide) (by decide)) λA f=>?_
 generalize bn x (dy (4096*(w:Int)))=y at *
 replace f:=(ci _ _ _)▸(pN 5)▸f
 have s:w*2^1024<=64*2^1024:=bC _ g
 generalize (w:Int)*val x=P at *
 have h:(val y).natAbs < 2^(56+1024):=by
  refine ae (pN 56) ?_
  replace q:=(SH)▸q
  generalize (p:Int)*2^1074=D at *
  generalize w*2^1024=F at *
  generalize (2:Nat)^1024=X at *
  exact Gq xI 0 [_,_,_,_,_,_] [_,_,_] l c f q s rfl rfl rfl rfl
 refine af (uV (n:=4096*1024) (i:=56+1024) (k:=23) (K:=14+1024) A (by decide) (by decide) h (by decide) (by decide) (by decide)) λfz o=>?_
 refine ⟨fz,?_⟩
 generalize bn y (dy (4096*1024))=z at *
 refine bj fz λa b e j=>?_
 refine ye j ?_
 replace o:=(pN 14)▸o
 refine ae (da _ _) (ae (ci _ _ _) (ae SH ?_))
 show 2*(val z - 1024*((p:Int)*2^1074)).natAbs < _
 generalize (p:Int)*2^1074=D at *
 generalize w*2^1024=F at *
 generalize (2:Nat)^1024=X at *
 exact Gq xI 1 [_,_,_,_,_,_] [_,_,_,_] l c f o s rfl rfl rfl rfl
theorem Kg:((dT 129).all λS=>fr (bn (dy (32*S:Nat)) (cB 131072)) && iL cS (bn (dy (32*S:Nat)) (cB 131072))==(1024*S:Nat))=true:=by decide +kernel
theorem Di {S:Nat} (h:S<=128):hZ (bn (dy (32*S:Nat)) (cB 131072))/\iL cS (bn (dy (32*S:Nat)) (cB 131072))=(1024*S:Nat):=by
 have a:=aS.mp Kg S (eJ.mpr (ak fj 2 [_] [] h))
 rw [az,beq_iff_eq] at a
 exact ⟨p9 a.1,a.2⟩
theorem A2 {f:V->V->Option Bool}{y:V}{c:List V}:pW f (v::l) (y::c)=(f v y).bind λa=>(pW f l c).map (a && ·):=rfl
theorem vP {k:Nat}:∀a b:List Nat,a.length=b.length->pW (qo (k+1)) (aE a) (aE b)=some (a==b)
 | [],[],_=>rfl
 | [],_::_,h=>by exact nomatch h
 | _::_,[],h=>by exact nomatch h
 | x::c,y::d,h=>by
  show pW (qo (k+1)) (.int (x:Int)::aE c) (.int (y:Int)::aE d)=_
  rw [A2,vP c d (fE h)]
  have e:qo (k+1) (.int (x:Int)) (.int (y:Int))=some (x==y):=by
   show some ((x:Int)==(y:Int))=_
   congr 1
   exact ae (propext P9) (ae (propext beq_iff_eq) (ae (propext beq_iff_eq) Vz))
  refine ae e ?_;rfl
theorem Kh {b:List Nat} (h:m.length=b.length):SK (aE m) (aE b)=some (m==b):=by
 unfold SK
 refine ae (if_pos (by rw [bS,bS];exact h)) (ae (vP m b h) rfl)
theorem Ds {b:List Nat} (h:m.length=b.length):Dt (.lst (aE m)) (.lst (aE b)) J=some (m==b):=Kh h
theorem xn {b:List Nat} (h:m.length=b.length):qo 4 (.lst (aE m)) (.lst (aE b))=some (m==b):=by
 show (if (aE m).length=(aE b).length then pW (qo 3) (aE m) (aE b) else some false)=_
 refine ae (if_pos (by rw [bS,bS];exact h)) (ae (vP m b h) rfl)
theorem KU (a:List Nat):flat 4 (.lst (aE a))=true:=by
 show (aE a).all (flat 3)=true
 unfold aE
 exact ae xm (aS.mpr λO O=>rfl)
noncomputable def pL (P:List (List Nat)):List V:=P.map λp=>V.lst (aE p)
theorem RD (h:∀p∈P,p.length=m.length) (c:m∈P):NV (pL P) (.lst (aE m))=some true:=by
 unfold NV
 have a:((pL P).all λv=>flat 4 v && (qo 4 v (.lst (aE m))).isSome)=true:=by
  unfold pL
  refine ae xm ?_
  exact aS.mpr λp b=>by
   show (flat 4 (.lst (aE p)) && (qo 4 (.lst (aE p)) (.lst (aE m))).isSome)=true
   refine ae (KU _) (ae (xn (h p b)) ?_);rfl
 refine ae (if_pos a) ?_
 congr 1
 unfold pL
 refine ae xl ?_
 exact zj.mpr ⟨m,c,by
  show (qo 4 (.lst (aE m)) (.lst (aE m))).getD false=true
  refine ae (xn rfl) ?_
  show (m==m)=true
  exact beq_self_eq_true m⟩
theorem BP:fx (.lst (aE m)) (pL (m::P)) n=some n:=by
 show fx (.lst (aE m)) (.lst (aE m)::pL P) n=_
 rw [fx,xn rfl,if_pos (by show (m==m)=true;exact beq_self_eq_true m)]
theorem ED {q:List Nat} (h:m.length=q.length) (a:m≠q):fx (.lst (aE q)) (pL (m::P)) n=fx (.lst (aE q)) (pL P) (n+1):=by
 show fx (.lst (aE q)) (.lst (aE m)::pL P) n=_
 rw [fx,xn h,if_neg]
 show ¬(m==q)=true
 exact ae (propext beq_iff_eq) a
theorem Of {sp:Nat}:dC ((sp+128)%384) 0=dC sp 256/\dC ((sp+128)%384) 128=dC sp 0/\dC ((sp+128)%384) 256=dC sp 128:=by
 rw [KV (by decide),KV (by decide),KV (by decide)]
 unfold dC
 rw [sA,sA,OG,jP (by decide:256<=384) sp,jP (by decide:128<=384) (sp+128),jP (by decide:256<=384) (sp+128),jP (by decide:128<=384) sp,m9,m9]
 exact ⟨rfl,congrArg (λx=>min (min ((sp+x)%384) (384 - (sp+x)%384) - 64) 64) (by decide:128+(384 - 128)=384),congrArg (λx=>min (min ((sp+x)%384) (384 - (sp+x)%384) - 64) 64) (by decide:128+(384 - 256)=384 - 128)⟩
theorem Hh (h:n < 384):dj ((n+128)%384) p w=[ft n p w 256,ft n p w 0,ft n p w 128]:=by
 refine aA (Of (sp:=n)) λc e f=>?_
 unfold dj ft
 rw [c,e,f]
theorem Nk {low:Nat} (hs:n < 384) (c:1<=p) (e:p<=32):¬(ft n low p 0=ft n low p 128/\ft n low p 128=ft n low p 256):=by
 have F:=sq hs
 have g:=sm n low p 0 c e
 have i:=sm n low p 128 c e
 have j:=sm n low p 256 c e
 rintro ⟨b,f⟩
 have z:ft n low p 0=64*low+64*p:=by
  rcases F.z with h | h | h
  ·exact g.z.mpr h
  ·exact ae b (i.z.mpr h)
  ·exact ae b (ae f (j.z.mpr h))
 have t:ft n low p 0=64*low:=by
  rcases F.t with h | h | h
  ·exact g.t h
  ·exact ae b (i.t h)
  ·exact ae b (ae f (j.t h))
 exact bI eS 12 [_,_,_] [] c z t
theorem yl {low:Nat} (hs:n < 384) (f:1<=p) (g:p<=32):dj n low p≠dj ((n+128)%384) low p:=by
 rw [Hh hs]
 unfold dj
 intro e
 have b:=Nk (low:=low) hs f g
 injection e with c a
 injection a with a h
 exact b ⟨a.symm,by exact au eX 10 [_,_,_] [] c a⟩
noncomputable abbrev Qk (a b d:Nat):List (List Nat):=[dj (a%384) b d,dj ((a+128)%384) b d,dj ((a+256)%384) b d]
theorem IR {k:Nat} (c:k < 3):(pL (Qk n p w))[k]? =some (.lst (aE (dj ((n+128*k)%384) p w))):=by
 have:k=0\/k=1\/k=2:=ak aK 14 [_] [] c
 rcases this with rfl | rfl | rfl<;>rfl
theorem Tt (x:Nat):tf (x:Int) 4096=dy (x:Int):=by
 unfold tf dy
 refine ae (show (decide ((x:Int) < 0)!=decide ((4096:Int) < 0))=decide ((x:Int) < 0) by cases decide ((x:Int) < 0)<;>rfl) ?_
 rfl
theorem UN (h:n<=2^28) (a:g (.dg (dy (n:Int)))):hY .Div (.int n) (.int 4096) g:=by
 exact ae EH (ae (Tt _) ⟨by decide,(pF (tS (by exact ae (aM _) (ak fe 17 [_] [] h))).1).2.2,a⟩)
theorem Bx {c:Nat} (e:p<=31) (hd:w<=32):ft n p w c<=4096:=by
 unfold ft
 have:w*(64 - dC n c)<=32*64:=iN hd (Nat.sub_le _ _)
 exact au eV 1 [_,_] [] e this
noncomputable abbrev tH (j l d:Nat) (k:Option V) (a b c e f g h i:Option V):Sg:=[some (.int j),some (.int l),some (.int (l+d:Nat)),k,some (.lst (pL (Qk j l d))),some (.ref 0),a,b,c,e,f,g,h,i]
theorem Ws {d k:Nat}{a b c f g h i:Option V}{Q:Fl->Sg->Hs->Prop} (j:w<=31) (hd:d<=32) (y:k < 3) (q:n=(p+128*k)%384)
  (l:K (tH p w d (some (.int k)) (some (.dg (dy (ft n w d 0:Nat)))) (some (.dg (dy (ft n w d 128:Nat)))) (some (.dg (dy (ft n w d 256:Nat)))) e f g h i) J):
  wpS (TL L) lA (tH p w d (some (.int k)) a b c e f g h i) J λu m s=>match u with | none=>K m s | some v=>Q (some v) m s:=by
 subst q
 dsimp only [lA,hW,bt,aU,bK,dx,ec,zI,eM,pC,c6,dB,cs,bV]
 refine dL (by show 3<=1000;decide) (IR y) ?_
 dsimp only [w8]
 refine ⟨by refine ae (bS _) ?_;show 3<=1000;decide,?_⟩
 refine fy (λx:Nat=>V.int (x:Int)) (λx=>some (V.dg (dy (x:Int)))) (dj ((p+128*k)%384) w d) _ _ (λx z A o=>?_) ?_
 ·have r:x<=4096:=by
   rcases aX.mp z with h | h
   ·exact ae h (Bx j hd)
   ·rcases aX.mp h with h | h
    ·exact ae h (Bx j hd)
    ·exact ae (ai.mp h) (Bx j hd)
  dsimp only [fu,n8,n9,bt,aU,iB,bK,jb,hF,iX,iW,cU,d5,m7,d4,dx,iV,eE,eA,ec,BE,BC,Oy,Ox,bH,bW,ez,eN,fU,f6,c6,dB,cs,bV]
  exact ⟨λO=>UN (ak fe 18 [_] [] r) o,λh=>(dS h)⟩
 ·exact l
theorem Wr {k j:Nat}{b c h i:Option V}{Q:Fl->Sg->Hs->Prop} (hs:j < 384) (g:p<=31) (q:1<=w) (hd:w<=32)
  (r:K (tH n p w (some (.int k)) e b c (some (.dg (tQ j))) (some (.dg (dy (32*(2*p+w):Nat)))) (some (.dg (d8 (dy (64*w:Nat)) (dy (64*Hm (2*p+w):Nat))))) (some (.lst (aE [j*1024,1024*(2*p+w),1024*w]))) i) J):
  wpS (TL L) lz (tH n p w (some (.int k)) e b c (some (.dg (tQ j))) (some (.dg (dy (32*(2*p+w):Nat)))) (some (.dg (d8 (dy (64*w:Nat)) (dy (64*Hm (2*p+w):Nat))))) h i) J λd m o=>match d with | none=>K m o | some v=>Q (some v) m o:=by
 have F:=sq hs
 have l:1<=Hm (2*p+w)/\w<=Hm (2*p+w)/\Hm (2*p+w)<=64:=by unfold Hm;split<;>(first | exact au eV 2 [_,_] [] q ‹_› | exact eP jc 8 [_,_,_] [] g hd ‹_› a8)
 refine af (Di (S:=2*p+w) (au eV 3 [_,_] [] g hd)) λs u=>?_
 refine af (CR l.1 l.2.1 l.2.2 hd) λf x=>?_
 dsimp only [lz,bU,bt,aU,bK,d5,eE,cD,cL,bW,ir,ea,pC,fU,f6,c6,dB,cs,bV]
 have y:((j*1024:Nat):Int)=((j*1024:Nat):Int):=rfl
 refine ⟨rfl,?_⟩
 refine ae yK ?_
 refine ⟨by decide +kernel,vu F.rf ?_⟩
 refine ae F.r ?_
 refine ⟨rfl,?_⟩
 refine ae yK ?_
 refine ⟨by decide +kernel,vu s ?_⟩
 refine ae u ?_
 refine ⟨rfl,rfl,?_⟩
 refine ae ky (ae kx (ae kx ?_))
 refine EU ?_
 have a:(if (128:Int) - (p:Int) - ((p+w:Nat):Int) < (p:Int)+((p+w:Nat):Int) then (128:Int) - (p:Int) - ((p+w:Nat):Int) else (p:Int)+((p+w:Nat):Int))=(Hm (2*p+w):Nat):=by
  unfold Hm
  split<;>split<;>(first | exact au eV 4 [_,_] [] ‹_› ‹_› | exact bI eS 14 [_,_,_] [] g hd a8 | exact bA im 0 [_,_] [] | exact bI eS 15 [_,_,_] [] ‹_› ‹_› a8)
 refine ae a (ae yK ?_)
 refine ⟨?_,?_⟩
 ·exact ae (ym (au eV 5 [_,_,_] [] l rfl)) ((pF (tS (au eV 6 [_,_,_] [] l rfl)).1).2.2)
 refine ae yK ?_
 refine ⟨by decide +kernel,vu f ?_⟩
 exact ae x r
theorem Wq {k m:Nat}{a b c f g i:Option V}{Q:Fl->Sg->Hs->Prop} (hs:n < 384) (x:p<=31) (hd:w<=32) (j:k < 3) (l:m=(n+128*k)%384)
  (u:K (tH n p w (some (.int k)) a b c e f g (some (.lst (aE [m*1024,1024*(2*p+w),1024*w]))) i) J):
  wpS (TL L) ly (tH n p w (some (.int k)) a b c e f g (some (.lst (aE [m*1024,1024*(2*p+w),1024*w]))) i) J λs o d=>match s with | none=>K o d | some v=>Q (some v) o d:=by
 dsimp only [ly,sU,fH,dY,jj,eH,fR,bt,aU,bK,eE,cD,cL,bW,df,pC,cs,bV,c6,dB]
 refine fY (by decide) (au bq 13 [_,_] [] j rfl) ?_
 refine ae ky (ae vA ?_)
 refine ⟨by decide,?_⟩
 have q:((n:Int)+128*(k:Int)).fmod 384=(m:Int):=by
  refine ae (cz _ (by decide)) (ae l ?_);rfl
 refine ae q ?_
 refine fY (ae (aM _) (jh (l▸gZ _ (by decide):m < 384) (by decide))) (by decide) ?_
 refine ae ky ?_
 refine fY (bI eT 13 [_,_,_] [] x hd rfl) (by decide) ?_
 refine ae kx ?_
 refine fY (au bq 14 [_,_,_] [] hd rfl) (by decide) ?_
 have r:[V.int ((m:Int)*1024),V.int (((p:Int)+((p+w:Nat):Int))*1024),V.int ((((p+w:Nat):Int) - (p:Int))*1024)]=aE [m*1024,1024*(2*p+w),1024*w]:=by
  show _=[V.int ((m*1024:Nat):Int),V.int ((1024*(2*p+w):Nat):Int),V.int ((1024*w:Nat):Int)]
  refine ae (show (m:Int)*1024=((m*1024:Nat):Int) by exact bA fo 11 [_] []) (ae (show ((p:Int)+((p+w:Nat):Int))*1024=((1024*(2*p+w):Nat):Int) by exact bA fo 12 [_,_] []) (ae (show (((p+w:Nat):Int) - (p:Int))*1024=((1024*w:Nat):Int) by exact bA fo 13 [_,_] []) rfl))
 refine ae r (ae xd ?_)
 refine ⟨_,Ds rfl,?_⟩
 exact ae (beq_self_eq_true _) ⟨λh=>(dk h),λO=>u⟩
noncomputable abbrev Tq (b a d:Nat):List (List Nat):=[dj (b%384) a d,dj ((b+128)%384) a d,dj ((b+256)%384) a d]
theorem Tp {d k l:Nat}{b c f g h i:Option V}{Q:Fl->Sg->Hs->Prop} (s:L.lookup ("_law_told":Str)=some (n,vV)) (hs:l < 384) (x:w<=31) (hd:d<=32)
  (j:K (tH p w d (some (.int k)) e b c (some (.dg (tQ l))) f g h (some (.lst (pL (Tq l w d))))) J):
  wpS (TL L) kK (tH p w d (some (.int k)) e b c (some (.dg (tQ l))) f g h i) J λu m r=>match u with | none=>K m r | some v=>Q (some v) m r:=by
 dsimp only [kK,bU,bt,aU,bK,hF,cU,eA,ec,cD,cL,zI,w8,wg,xV,cs,bV,pC,fU,f6]
 refine ⟨by show 3<=1000;decide,?_⟩
 refine fy (λa:Int×Nat=>V.int a.1) (λa=>some (V.lst (aE (dj ((l+128*a.2)%384) w d)))) [(0,0),(1,1),(-1,2)] _ _ (λa y z q=>?_) ?_
 ·have o:(7*a.1=0/\a.2=0)\/(7*a.1=7/\a.2=1)\/(7*a.1=-7/\a.2=2):=by
   rcases aX.mp y with h | h
   ·exact ae h (.inl ⟨rfl,rfl⟩)
   ·rcases aX.mp h with h | h
    ·exact ae h (.inr (.inl ⟨rfl,rfl⟩))
    ·exact ae (ai.mp h) (.inr (.inr ⟨rfl,rfl⟩))
  dsimp only [fu,n8,n9,bt,aU,iB,bK,jb,hF,iX,iW,cU,d5,m7,d4,dx,iV,eE,eA,ec,cD,cL,BE,BC,Oy,Ox,bH,bW,cs,bV,c6,dB,ez,eN,fU,f6]
  refine ⟨λO=>⟨dD s,fY (by decide) (au eZ 15 [_,_] [_] o rfl) (d3 (ak fh 3 [_] [_] o) ?_)⟩,λh=>(dS h)⟩
  dsimp only [BE,BC,c6,dB,At]
  exact ed s rfl ⟨l,w,d,a.2,7*a.1,rfl,hs,x,hd,o,rfl⟩ ⟨rfl,q⟩
 ·exact j
theorem W0 {B C:List Nat} (a:m.length=3) (b:B.length=3) (c:C.length=3) (d:m≠B) (e:B≠C) (f:m≠C):
  fx (.lst (aE m)) (pL [m,B,C]) 0=some 0/\fx (.lst (aE B)) (pL [m,B,C]) 0=some 1/\fx (.lst (aE C)) (pL [m,B,C]) 0=some 2:=
 ⟨BP,by refine ae (ED (a.trans b.symm) d) (ae BP rfl),by refine ae (ED (a.trans c.symm) f) (ae (ED (b.trans c.symm) e) (ae BP rfl))⟩
theorem vZ (b a d:Nat):(dj b a d).length=3:=rfl
theorem Uy {j:Nat} (hs:n < 384) (c:1<=w) (f:w<=32) (m:j < 3):fx (.lst (aE (dj ((n+128*j)%384) p w))) (pL (Qk n p w)) 0=some j/\dj ((n+128*j)%384) p w∈Qk n p w:=by
 have a:=yl (low:=p) hs c f
 have i:=yl (low:=p) (show (n+128)%384 < 384 from gZ _ (by decide)) c f
 have k:=yl (low:=p) (show (n+256)%384 < 384 from gZ _ (by decide)) c f
 replace i:=(show ((n+128)%384+128)%384=(n+256)%384 from (sN ..).trans (congrArg (·%384) (m9 ..)))▸i
 replace k:=(show ((n+256)%384+128)%384=n from (sN ..).trans ((congrArg (·%384) (m9 ..)).trans ((OG n 384).trans (PV hs))))▸k
 have l:n%384=n:=PV hs
 have h:j=0\/j=1\/j=2:=ak aK 14 [_] [] m
 show fx _ (pL [dj (n%384) p w,dj ((n+128)%384) p w,dj ((n+256)%384) p w]) 0=_/\_∈[dj (n%384) p w,dj ((n+128)%384) p w,dj ((n+256)%384) p w]
 refine ae l ?_
 have g:=W0 (vZ n p w) (vZ ((n+128)%384) p w) (vZ ((n+256)%384) p w) a i (λe=>k e.symm)
 rcases h with rfl | rfl | rfl
 ·refine ae (show (n+128*0)%384=n by assumption) ?_
  generalize dj n p w=A at *
  generalize dj ((n+128)%384) p w=B at *
  generalize dj ((n+256)%384) p w=C at *
  exact ⟨g.1,aB ..⟩
 ·refine ae (show (n+128*1)%384=(n+128)%384 by with_reducible rfl) ?_
  generalize dj n p w=A at *
  generalize dj ((n+128)%384) p w=B at *
  generalize dj ((n+256)%384) p w=C at *
  exact ⟨g.2.1,aP _ (aB ..)⟩
 ·refine ae (show (n+128*2)%384=(n+256)%384 by with_reducible rfl) ?_
  generalize dj n p w=A at *
  generalize dj ((n+128)%384) p w=B at *
  generalize dj ((n+256)%384) p w=C at *
  exact ⟨g.2.2,aP _ (aP _ (aB ..))⟩
theorem IQ:((n+128*p)%384+128*w)%384=(n+128*((p+w)%3))%384:=
 (sN ..).trans ((congrArg (·%384) ((m9 ..).trans (congrArg (n+·) (zU ..).symm))).trans ((Nat.add_mod_mod ..).symm.trans (congrArg (λx=>(n+x)%384) (Nat.mul_mod_mul_left 128 (p+w) 3))))
theorem Qj (e:m.length=3):∀a∈Qk n p w,a.length=m.length:=λa c=>by
 refine ae e ?_
 rcases aX.mp c with h | h
 ·refine ae h ?_;rfl
 ·rcases aX.mp h with h | h
  ·refine ae h ?_;rfl
  ·refine ae (ai.mp h) ?_;rfl
theorem IP {low j:Nat} (hs:n < 384) (b:1<=p) (c:p<=32) (f:w < 3) (e:j < 3):NV (pL (Qk n low p)) (.lst (aE (dj (((n+128*w)%384+128*j)%384) low p)))=some true:=by
 exact ae IQ (RD (Qj (vZ _ _ _)) (Uy hs b c (gZ _ (by decide))).2)
theorem To {d k:Nat}{a b c f g h:Option V}{Q:Fl->Sg->Hs->Prop} (hs:n < 384) (r:1<=d) (s:d<=32) (j:k < 3) (o:p=(n+128*k)%384)
  (y:K (tH n w d (some (.int k)) a b c e f g h (some (.lst (pL (Tq p w d))))) J):
  wpS (TL L) kJ (tH n w d (some (.int k)) a b c e f g h (some (.lst (pL (Tq p w d))))) J λx m q=>match x with | none=>K m q | some v=>Q (some v) m q:=by
 subst o
 dsimp only [kJ,ri,fH,dY,jj,eH,kX,fR,n8,n9,bt,aU,dx,eE,cD,eM,df,cs,bV,c6,dB]
 refine dL (i:=0) (v:=.lst (aE (dj (((n+128*k)%384)%384) w d))) (by show 3<=1000;decide) rfl (dL (by show 3<=1000;decide) (IR j) ?_)
 refine ae xd ?_
 refine ⟨_,Ds ((vZ _ _ _).trans (vZ _ _ _).symm),?_⟩
 rw [show ((n+128*k)%384)%384=(n+128*k)%384 by exact au eU 6 [((n+128*k)%384%384:Nat),((n+128*k)%384 / 384:Nat),((n+128*k)%384:Nat),((n+128*k) / 384:Nat),n,k] [] lR lR,beq_self_eq_true]
 have u:=IP (low:=w) hs r s j (show 1 < 3 by decide)
 have l:=IP (low:=w) hs r s j (show 2 < 3 by decide)
 rw [zT] at u
 rw [show 128*2=256 from rfl] at l
 refine dL (i:=1) (v:=.lst (aE (dj (((n+128*k)%384+128)%384) w d))) (by show 3<=1000;decide) rfl ⟨true,u,?_⟩
 refine dL (i:=2) (v:=.lst (aE (dj (((n+128*k)%384+256)%384) w d))) (by show 3<=1000;decide) rfl ⟨true,l,?_⟩
 exact ⟨λh=>(dk h),λO=>y⟩
theorem Tm {k r:Nat}{a b c f g h:Option V}{Q:Fl->Sg->Hs->Prop} (hs:n < 384) (u:1<=w) (m:w<=32) (x:k < 3) (B:l.length<=3) (q:r=(n+128*k)%384)
  (z:K (tH n p w (some (.int k)) a b c e f g h (some (.lst (pL (Tq r p w))))) [l++[Hb k]]):
  wpS (TL L) kI (tH n p w (some (.int k)) a b c e f g h (some (.lst (pL (Tq r p w))))) [l] λy i s=>match y with | none=>K i s | some v=>Q (some v) i s:=by
 subst q
 dsimp only [kI,oa,aU,d4,ec,cD,cL,zI,w8,ip,iq,c6,dB,pC]
 refine ⟨rfl,by show 3<=1000;decide,?_⟩
 refine fy (λj:Nat=>V.lst (aE (dj (((n+128*k)%384+128*j)%384) p w))) (λj=>some (V.int ((k+j)%3:Nat))) [0,1,2] _ _ (λj A C d=>?_) ?_
 ·have o:j < 3:=by
   rcases aX.mp A with h | h
   ·exact ak e9 23 [_] [] h
   ·rcases aX.mp h with h | h
    ·exact ak e8 0 [_] [] h
    ·have:=ai.mp h;exact ak e8 1 [_] [] this
  dsimp only [fu,n8,n9,bt,aU,iB,bK,jb,hF,iX,iW,cU,d5,m7,d4,dx,iV,eE,eA,ec,cD,cL,BE,BC,Oy,Ox,bH,ip,iq,c6,dB,ez,eN,fU,f6,cs,bV]
  refine ⟨λO=>⟨rfl,?_⟩,λh=>(dS h)⟩
  refine ⟨true,(k+j)%3,IP hs u m x o,?_,by show 3<=1000;decide,d⟩
  exact ae IQ ((Uy hs u m (gZ _ (by decide))).1)
 ·refine pB (l:=l) rfl (ak aK 4 [_] [] B) ?_
  have e:[]++Cc (λj:Nat=>some (V.int ((k+j)%3:Nat))) [0,1,2]=[V.int (k:Nat),V.int ((k+1)%3:Nat),V.int ((k+2)%3:Nat)]:=by
   show [V.int ((k+0)%3:Nat),V.int ((k+1)%3:Nat),V.int ((k+2)%3:Nat)]=_
   refine ae (show (k+0)%3=k by exact au eU 7 [_,_,_] [] x lR) rfl
  exact ae e z
theorem MG {o d j:Nat}{a b c f g h i:Option V} (x:L.lookup ("_law_told":Str)=some (n,vV)) (r:L.lookup ("rgb_to_hls":Str)=some (p,CO))
  (hs:w < 384) (s:o<=31) (u:1<=d) (Q:d<=32) (v:j < 3) (z:l.length<=3) (y:∀a b c e f g h i,k none (tH w o d (some (.int j)) a b c e f g h i) [l++[Hb j]]):
  de (TL L) [lA,oQ,lz,ly,kK,kJ,kI] (tH w o d (some (.int j)) a b c e f g h i) [l] k:=by
 have q:(w+128*j)%384 < 384:=gZ _ (by decide)
 refine dM λK m=>Ws s Q v rfl (m _ _ ?_)
 refine dM λK m=>?_
 dsimp only [oQ,hW,aU,cU,cD,cL,c6,dB,ey,vw]
 refine ⟨dD r,ed r rfl (.inr ⟨_,o,d,q,s,u,Q,rfl,rfl⟩) ?_⟩
 refine ⟨rfl,m _ _ ?_⟩
 refine dM λK m=>Wr q s u Q (m _ _ ?_)
 refine dM λK m=>Wq hs s Q v rfl (m _ _ ?_)
 exact dM λK m=>Tp x q s Q (m _ _ (dM λK m=>To hs u Q v rfl (m _ _ (dM λK m=>Tm hs u Q v z rfl (m _ _ (c0 (y _ _ _ _ _ _ _ _)))))))
def xp:Sp:=λc r=>∃a b d:Nat,c=[.int a,.int b,.int (b+d:Nat)]/\a < 384/\b<=31/\1<=d/\d<=32/\r=.lst jV
theorem Qb {b:UInt64}:qo (n+1) (.dg r) (.dg b)=if (r==b && be r r==some ep)=true then some true else none:=rfl
theorem N4 (b:n<=31):Dt (.tup [.dg 0,.dg (dy (64*n:Nat)),.dg 0]) (.tup [.int 0,.dg (dy (64*n:Nat)),.int 0]) []=some true:=by
 have c:qo 3 (.dg 0) (.int 0)=some true:=by
  show some (kV 0 0==some ep)=some true
  refine ae (show (kV 0 0==some ep)=true by decide +kernel) rfl
 have d:qo 3 (.dg (dy (64*n:Nat))) (.dg (dy (64*n:Nat)))=some true:=by
  rw [Qb,yU (ae (aM _) (ak aK 9 [_] [] b)) (by exact ae (aM _) (ak aK 9 [_] [] b)),decide_eq_true rfl,beq_self_eq_true]
  rfl
 show (if 3=3 then pW (qo 3) [.dg 0,.dg (dy (64*n:Nat)),.dg 0] [.int 0,.dg (dy (64*n:Nat)),.int 0] else none)=_
 rw [if_pos rfl,A2,A2,A2,c,d];rfl
theorem Wt {d:Nat}{Q:Fl->Sg->Hs->Prop} (j:L.lookup ("_law_paint":Str)=some (n,uy)) (hs:p < 384) (q:w<=31) (m:d<=32)
  (o:K [some (.int p),some (.int w),some (.int (w+d:Nat)),none,some (.lst (pL (Qk p w d))),none,none,none,none,none,none,none,none,none] []):
  wpS (TL L) lB [some (.int p),some (.int w),some (.int (w+d:Nat)),none,none,none,none,none,none,none,none,none,none,none] [] λl e g=>match l with | none=>K e g | some v=>Q (some v) e g:=by
 dsimp only [lB,bU,bt,aU,bK,cU,ec,cD,cL,oH,cs,bV,pC]
 refine ⟨by decide,by decide,by refine ae (iU _) ?_;decide,?_⟩
 unfold rA
 refine fy (λi:Nat=>V.int (i:Int)) (λk=>some (V.lst (aE (dj ((p+128*k)%384) w d)))) _ _ _ (λk a r f=>?_) ?_
 ·have c:k < 3:=eJ.mp a
  dsimp only [fu,n8,n9,bt,aU,iB,bK,jb,hF,iX,iW,cU,d5,m7,d4,dx,iV,eE,eA,ec,cD,cL,BE,BC,Oy,Ox,bH,bW,cs,bV,c6,dB]
  refine ⟨λO=>⟨dD j,fY (by decide) (au bq 13 [_,_] [] c rfl) ?_⟩,λh=>(dS h)⟩
  exact ae ky (ae (show ((p:Int)+128*(k:Int))=((p+128*k:Nat):Int) by exact bA fo 8 [_,_] []) (ed j rfl ⟨_,w,d,rfl,by exact au eZ 14 [_,_] [] hs c,q,m,rfl⟩ ⟨rfl,f⟩))
 ·exact o
theorem MF {P:Nat} (I:L.lookup ("_law_told":Str)=some (n,vV)) (u:L.lookup ("rgb_to_hls":Str)=some (P,CO)) (J:L.lookup ("_law_paint":Str)=some (p,uy)):∀y r k,xp y r->k r->jE (TL L) 3 ti.length uY y k:=by
 rintro y r k ⟨q,o,d,rfl,hs,m,G,C,rfl⟩ M
 refine ⟨rfl,rfl,?_⟩
 show de _ [lB,oT,oS,oR,nB] [some (.int q),some (.int o),some (.int (o+d:Nat)),none,none,none,none,none,none,none,none,none,none,none] [] _
 refine dM λK s=>Wt (Q:=λF O H=>match F with | none=>k .none | some v=>∃E,fz 8 H v=some E/\k E) J hs m C (s _ _ ?_)
 refine dM λK s=>?_
 dsimp only [oT,bU,eE,cD,w9,fU,f6]
 refine s _ _ ?_
 refine dM λK s=>?_
 dsimp only [oS,sV,fH,dY,jj,eH,fR,bt,aU,bK,cU,eE,eA,cD,cL,bW,df,cs,bV,c6,dB,pC,ey,vw]
 refine ⟨dD u,SY (ak aK 6 [_] [] m) (SY (ak aK 6 [_] [] m) (SY (ak aK 6 [_] [] m) ?_))⟩
 refine ed u rfl (.inl ⟨o,m,rfl,rfl⟩) ?_
 refine ⟨rfl,SY (ak aK 6 [_] [] m) ?_⟩
 refine ae xd ?_
 refine ⟨true,N4 m,λh=>(dk h),λO=>s _ _ ?_⟩
 refine dM λK s=>?_
 dsimp only [oR,kr,bt,oH,cs,bV]
 refine ⟨by decide,by decide,?_⟩
 refine jD (λj B H=>∃z a b c e f g h i,B=tH q o d z a b c e f g h i/\H=[jV.take j]) _ 0 _ _ ⟨_,_,_,_,_,_,_,_,_,rfl,rfl⟩ ?_ ?_
 ·rintro j v B H T N ⟨z,a,b,c,e,f,g,h,i,rfl,rfl⟩ D S
  refine af (oD N) λw A=>?_;subst A
  rw [cq] at D ⊢
  have w:j < 3:=w
  refine MG I u hs m G C w (ae j5 (au eU 10 [_,_,_] [] w jG)) λa b c e f g h i=>D _ _ ⟨_,_,_,_,_,_,_,_,_,rfl,?_⟩
  have x:j=0\/j=1\/j=2:=ak aK 14 [_] [] w
  rcases x with rfl | rfl | rfl<;>rfl
 ·rintro B H ⟨z,a,b,c,e,f,g,h,i,rfl,rfl⟩
  refine s _ _ ?_
  refine ae eH ?_
  dsimp only [nB,fH,fR,bt,aU,iW,dx,eE,cD,eM,df,cs,bV,c6,dB]
  refine sk (i:=0) (l:=jV) rfl (by decide) rfl (dL (i:=1) (by show 3<=1000;decide) rfl ?_)
  refine ae xe ?_
  refine ⟨_,kO,λO=>?_,λh=>?_⟩
  ·exact ⟨_,yG (l:=jV) (l':=jV) rfl (by rfl),M⟩
  ·exact absurd h (by decide)
theorem Tl (B:Base C):hO C "_law_turns" 46 xp:=
 iw (N:=45) (L:=[("_law_told",44,vV),("rgb_to_hls",42,CO),("_law_paint",42,uy)]) B (by decide) (λx n a h=>by
  rcases gr h with h | h
  ·cases h;exact ⟨by decide,MC B⟩
  ·rcases gr h with h | h
   ·cases h;exact ⟨by decide,RI B⟩
   ·cases ai.mp h;exact ⟨by decide,TX B⟩) Kf.BL (MF rfl rfl rfl)
noncomputable def kN:Nat->Bool->List Nat->List (Int×Str)
 | i,true,[]=>[((i:Int) - 1,"\\")]
 | _,false,[]=>[]
 | i,true,c::r=>((i:Int),("\\":Str)++one c)::kN (i+1) false r
 | i,false,c::r=>if (one c==("\\":Str))=true then kN (i+1) true r else ((i:Int),one c)::kN (i+1) false r
section
set_option autoImplicit true
theorem VV:kN i' true []=([((i':Int) - 1,("\\":Str))]):=rfl
theorem VU:kN u1 false []=([]):=rfl
theorem VT:kN i' true (c'::r')=(((i':Int),("\\":Str)++one c')::kN (i'+1) false r'):=rfl
theorem VS:kN i' false (c'::r')=(if (one c'==("\\":Str))=true then kN (i'+1) true r' else ((i':Int),one c')::kN (i'+1) false r'):=rfl
end
theorem yM:∀(l:List Nat) (i:Nat) (e:Bool),iy i e l=(kN i e l).map λp=>V.tup [.int p.1,.str p.2]
 | [],i,true=>rfl
 | [],_,false=>rfl
 | c::r,i,true=>by
  rw [iy,kN,yM r];rfl
 | c::r,i,false=>by
  rw [iy,kN]
  split
  ·exact yM r _ _
  ·refine ae (yM r _ _) ?_;rfl
structure Oz where
 start:Int
 Fu:Option Int
 res:List Str
noncomputable def q6 (x:Str) (a:Oz) (p:Int×Str):Oz:=
 if (p.2==("\"":Str))=true then match a.Fu with
  | none=>⟨a.start,some p.1,a.res⟩
  | some o=>⟨p.1+1,none,if a.start=o then a.res else a.res++[vI x (some a.start) (some o)]⟩
 else a
noncomputable def T4:Option Int->V
 | none=>.none
 | some i=>.int i
noncomputable def gm (l:List Str):List V:=l.map V.str
noncomputable abbrev GX (x:Str) (c:Oz) (a b:Option V):Sg:=[some (.str x),some (.int c.start),some (T4 c.Fu),some (.ref 0),a,b]
theorem MR {j:Oz}{p:Int×Str}{a b:Option V} (C:x.length<=1000) (n:j.res.length<=900)
  (i:k none (GX x (q6 x j p) (some (.int p.1)) (some (.str p.2))) [gm (q6 x j p).res]):
  de (TL L) [fw] (GX x j (some (.int p.1)) (some (.str p.2))) [gm j.res] k:=by
 obtain ⟨c,D,d⟩:=j
 unfold q6 at i
 dsimp only at n
 refine dM λK q=>?_
 dsimp only [fw,dY,fR,bt,aU,df,cs,bV,c6,dB]
 refine ⟨(p.2==("\"":Str)),rfl,λh=>?_,λh=>?_⟩
 ·replace i:=(if_pos h)▸i
  refine dM λy Q=>?_
  dsimp only [jr,jq,dY,fR,bt,aU,df,cs,bV,c6,dB]
  cases D with
  | none=>
   refine ⟨true,rfl,λO=>?_,λh=>(dS h)⟩
   refine ae eH ?_
   dsimp only [bU,hW,pY,qF,oa,fH,tI,dY,x6,kr,bt,aU,iB,bK,jb,hF,iX,iW,cU,d5,m7,d4,dx,iV,eE,eA,ec,c6,dB,fU,f6]
   exact c0 (Q _ _ (c0 (q _ _ (c0 i))))
  | some o=>
   refine ⟨false,rfl,λh=>(dk h),λO=>?_⟩
   have g:∀r:List Str,r=(if c=o then d else d++[vI x (some c) (some o)])->de (TL L) [gh,gf] [some (.str x),some (.int c),some (.int o),some (.ref 0),some (.int p.1),some (.str p.2)] [gm r] λA m w=>match A with | none=>y m w | some v=>k (some v) m w:=λr n=>by
    subst n
    refine dM λz f=>?_
    dsimp only [gh,bU,bt,aU,bK,bW,cs,bV,c6,dB,fU,f6,ky]
    refine f _ _ (dM λE s=>?_)
    dsimp only [gf,bU,bt,cs,bV,fU,f6]
    exact s _ _ (c0 (Q _ _ (c0 (q _ _ (c0 i)))))
   refine dM λz f=>?_
   dsimp only [jp,ja,oa,dY,jj,eH,fR,aU,d4,iV,cD,cL,Rh,T8,df,ip,iq,IT,c6,dB,xd,T4]
   refine ⟨_,kO,λh=>?_,λh=>?_⟩
   ·have u:¬c=o:=λe=>by replace h:=(e)▸h;simp at h
    refine ⟨rfl,_,_,rfl,rfl,rfl,C,?_⟩
    exact pB (l:=gm d) rfl (by unfold gm;exact ae (bv _) (ak aK 16 [_] [] n)) (f _ _ (by
     have:=g (d++[vI x (some c) (some o)]) (by refine ae (if_neg u) rfl)
     unfold gm at this ⊢
     replace this:=(gj)▸this
     exact this))
   ·have B:c=o:=by simpa using h
    exact f _ _ (g d (by refine ae (if_pos B) rfl))
 ·rw [if_neg (by refine ae h ?_;decide)] at i
  exact c0 (q _ _ (c0 i))
noncomputable def qs:Bool->List Nat->Option (List Nat)->List Nat->List Nat
 | _,k,p,[]=>k.reverse++(p.getD []).reverse
 | true,k,none,c::r=>qs false (c::k) none r
 | true,k,some q,c::r=>qs false k (some (c::q)) r
 | false,k,none,c::r=>if c=34 then qs false k (some [c]) r else qs (c==92) (c::k) none r
 | false,k,some q,c::r=>if c=34 then qs false k none r else qs (c==92) k (some (c::q)) r
section
set_option autoImplicit true
theorem YK:qs true k' p' []=(k'.reverse++(p'.getD []).reverse):=rfl
theorem YF:qs false k' p' []=(k'.reverse++(p'.getD []).reverse):=rfl
theorem YJ:qs true k' none (c'::r')=(qs false (c'::k') none r'):=rfl
theorem YI:qs true k' (some q') (c'::r')=(qs false k' (some (c'::q')) r'):=rfl
theorem YH:qs false k' none (c'::r')=(if c'=34 then qs false k' (some [c']) r' else qs (c'==92) (c'::k') none r'):=rfl
theorem YG:qs false k' (some q') (c'::r')=(if c'=34 then qs false k' none r' else qs (c'==92) k' (some (c'::q')) r'):=rfl
end
noncomputable def nU (l:List Str):List Nat:=l.flatMap λx=>x.cps.toList
theorem v0 (c d:Nat):(one c==one d)=(c==d):=by
 by_cases h:c=d
 ·subst h;simp
 ·refine ae (beq_eq_false_iff_ne.mpr h) (ae (propext beq_eq_false_iff_ne) ?_)
  intro e
  unfold one at e
  injection e with e
  injection e with e
  injection e with e
  exact h e
theorem yX:("\\":Str)=one 92:=by decide +kernel
theorem Bt:("\"":Str)=one 34:=by decide +kernel
theorem DY (c d:Nat):(("\\":Str)++one c==one d)=false:=by
 refine ae (propext beq_eq_false_iff_ne) ?_
 intro e
 have:=congrArg Zb e
 replace this:=(yX)▸(len_app _ _)▸this
 exact absurd this (by show ¬(1+1=1);decide)
def VY (X:List Nat) (i:Nat) (c:Oz) (k:List Nat) (p:Option (List Nat)):Prop:=
 ∃a:Nat,c.start=a/\a<=i/\((c.Fu=none/\p=none/\k.reverse=nU c.res++(X.drop a).take (i - a))\/
  ∃(b:Nat) (q:List Nat),c.Fu=some (b:Int)/\p=some q/\a<=b/\b<=i/\k.reverse=nU c.res++(X.drop a).take (b - a)/\q.reverse=(X.drop b).take (i - b))
theorem Tr {X:List Nat} (h:X.drop n=w::m) (b:p<=n):(X.drop p).take (n+1 - p)=(X.drop p).take (n - p)++[w]:=by
 have d:X[n]? =some w:=by
  have:=congrArg (·[0]?) h
  simpa using this
 refine ae (show n+1 - p=(n - p)+1 by exact bI hG 2 [_,_,_,_] [] b a8 a8) (ae xk (ae L8 (ae (show p+(n - p)=n by exact au bq 5 [_,_,_] [] b a8) (ae d ?_))))
 rfl
theorem VY.chr {X:List Nat}{i:Oz}{k:List Nat}{c:Option (List Nat)} (h:VY X n i k c) (l:X.drop n=p::m):
  VY X (n+1) i (if c=none then p::k else k) (c.map (p::·)):=by
 obtain ⟨a,g,d,h | ⟨b,q,e,rfl,o,j,s,u⟩⟩:=h
 ·refine aA h λe f r=>?_;subst f
  exact ⟨a,g,by exact ak aK 5 [_,_] [] d,.inl ⟨e,rfl,by refine ae (if_pos rfl) (ae ij (ae r (ae (Tr l d) (ae (cy _ _ _) rfl))))⟩⟩
 ·refine ⟨a,g,by exact ak aK 5 [_,_] [] d,.inr ⟨b,p::q,e,rfl,o,by exact ak aK 5 [_,_] [] j,by refine ae (if_neg (np _)) ?_;exact s,?_⟩⟩
  refine ae ij (ae u (ae (Tr l j) rfl))
theorem Q2 {r:List Nat}{p:Option (List Nat)}:qs true m p (n::r)=qs false (if p=none then n::m else m) (p.map (n::·)) r:=by
 cases p with
 | none=>rw [qs,if_pos rfl];rfl
 | some q=>rw [qs,if_neg (np _)];rfl
theorem C6 {r:List Nat}{p:Option (List Nat)} (h:n≠34):qs false m p (n::r)=qs (n==92) (if p=none then n::m else m) (p.map (n::·)) r:=by
 cases p with
 | none=>rw [qs,if_neg h,if_pos rfl];rfl
 | some q=>rw [qs,if_neg h,if_neg (np _)];rfl
theorem G2 (h:n<=p) (c:p<=x.cps.toList.length):vI x (some (n:Int)) (some (p:Int))=⟨((x.cps.toList.drop n).take (p - n)).toArray⟩:=by
 have:=eq_of_beq (slice_closes (x:=x) (i:=n) (j:=p) ⟨by exact bA bZ 1 [_] [],by exact ak dd 2 [_,_] [] h,by exact ak dd 2 [_,_] [] c⟩)
 rw [this,aZ,show ((p:Int) - n).toNat=p - n by exact au eU 12 [_,_,_,_] [] rZ a8]
theorem G3 (h:n<=x.cps.toList.length):vI x (some (n:Int)) none=⟨(x.cps.toList.drop n).toArray⟩:=by
 have c:x.cps.toList.length=x.length:=bD
 refine ae (slice_from_eq (b:=x.length) (bA bZ 1 [_] []) (au eU 13 [_,_,_] [] h c) rfl) (ae (aZ _) (ae (dK (by rw [c8];exact bI hG 3 [_,_,_,_,_] [] c a8 rZ)) rfl))
theorem Tx (x:Str):∀(r:List Nat) (i:Nat) (e:Bool) (g:Oz) (k:List Nat) (p:Option (List Nat)),x.cps.toList.drop i=r->i<=x.cps.toList.length->VY x.cps.toList i g k p->
  ∃a:Nat,((kN i e r).foldl (q6 x) g).start=a/\a<=x.cps.toList.length/\nU ((kN i e r).foldl (q6 x) g).res++x.cps.toList.drop a=qs e k p r:=by
 intro r
 induction r with
 | nil=>
  intro i e g k p f B h
  have d:x.cps.toList.length<=i:=by
   have:=congrArg bH f
   replace this:=(sB)▸(c8)▸this
   exact au bq 17 [_,_,_] [] this a8
  have E:(kN i e []).foldl (q6 x) g=g:=by
   cases e with
   | false=>rfl
   | true=>rw [kN,dP,Cb,q6,if_neg (show ¬(("\\":Str)==("\"":Str))=true by decide +kernel)]
  refine ae E ?_
  obtain ⟨a,m,n,h | ⟨b,q,o,rfl,y,C,z,D⟩⟩:=h
  ·refine aA h λo j w=>?_;subst j
   refine ⟨a,m,by exact au dm 6 [_,_,_] [] B n,?_⟩
   rw [qs,w,dK (ae c8 (bI cO 6 [_,_,_,_,_] [] d a8 a8))]
   exact (bw _).symm
  ·refine ⟨a,m,by exact au dm 6 [_,_,_] [] B n,?_⟩
   rw [qs,z,cy,xj,D,dK (l:=List.drop b _) (ae c8 (bI cO 6 [_,_,_,_,_] [] d a8 a8))]
   congr 1
   have:=List.take_append_drop (b - a) (x.cps.toList.drop a)
   replace this:=((show a+(b - a)=b by exact au bq 5 [_,_,_] [] y a8))▸(pd)▸this
   exact this.symm
 | cons c r u=>
  intro i e g k p f B h
  cases e with
  | true=>
  have d:i < x.cps.toList.length:=by
   have:=congrArg bH f
   replace this:=(c9)▸(c8)▸this
   exact au bq 9 [_,_,_,_] [] this a8
  have hd:x.cps.toList.drop (i+1)=r:=by refine bQ pd (ae f ?_);rfl
  rw [kN,dP,q6,if_neg (by refine ae Bt (ae (DY _ _) ?_);decide),Q2]
  exact u (i+1) false g _ _ hd d (h.chr f)
  | false=>
  have d:i < x.cps.toList.length:=by
   have:=congrArg bH f
   replace this:=(c9)▸(c8)▸this
   exact au bq 9 [_,_,_,_] [] this a8
  have hd:x.cps.toList.drop (i+1)=r:=by refine bQ pd (ae f ?_);rfl
  by_cases v:c=34
  ·subst v
   rw [kN,if_neg (by refine ae yX (ae (v0 _ _) ?_);decide),dP,q6,if_pos (ae Bt (beq_self_eq_true _))]
   obtain ⟨a,m,n,h | ⟨b,q,o,rfl,y,C,z,D⟩⟩:=h
   ·refine aA h λo j w=>?_;subst j
    rw [o,qs,if_pos rfl]
    refine u (i+1) false _ _ _ hd d ⟨a,m,by exact ak aK 5 [_,_] [] n,.inr ⟨i,[34],rfl,rfl,n,by exact bA bZ 2 [_] [],w,?_⟩⟩
    refine ae (Tr f (aD i)) (ae (show i - i=0 by exact ak dd 3 [_,_] [] a8) ?_);rfl
   ·rw [o,qs,if_pos rfl]
    refine u (i+1) false _ _ _ hd d ⟨i+1,by show (i:Int)+1=_;exact bA bZ 10 [_] [],aD _,.inl ⟨rfl,rfl,?_⟩⟩
    refine ae (show i+1 - (i+1)=0 by exact ak e8 11 [_,_] [] a8) (ae t6 (ae (bw _) (ae z (ae m ?_))))
    dsimp only
    by_cases s:a=b
    ·subst s
     refine ae (if_pos rfl) (ae (show a - a=0 by exact ak dd 3 [_,_] [] a8) (ae t6 (ae (bw _) rfl)))
    ·refine ae (if_neg (ak ce 19 [_,_] [] s)) (ae (G2 y (au eU 14 [_,_,_] [] d C)) ?_)
     unfold nU
     refine ae Iy ?_
     simp
  ·by_cases A:c=92
   ·subst A
    rw [kN,if_pos (ae yX (beq_self_eq_true _)),C6 v]
    exact u (i+1) true g _ _ hd d (h.chr f)
   ·rw [kN,if_neg (by exact ae yX (ae (v0 _ _) (λe=>A (eq_of_beq e)))),dP,q6,if_neg (by exact ae Bt (ae (v0 _ _) (λe=>v (eq_of_beq e)))),C6 v,beq_eq_false_iff_ne.mpr A]
    exact u (i+1) false g _ _ hd d (h.chr f)
theorem tJ:∀(r:List Nat) (e:Bool) (k:List Nat) (p:Option (List Nat)),(qs e k p r).length<=k.length+(p.getD []).length+r.length
 | [],e,k,p=>by rw [qs];simp
 | c::r,true,k,none=>by rw [qs];have:=tJ r false (c::k) none;simp at this ⊢;exact ak aK 23 [_,_,_] [] this
 | c::r,true,k,some q=>by rw [qs];have:=tJ r false k (some (c::q));simp at this ⊢;exact ak dd 4 [_,_,_,_] [] this
 | c::r,false,k,none=>by
  rw [qs]
  split
  ·have:=tJ r false k (some [c]);simp at this ⊢;exact ak aK 23 [_,_,_] [] this
  ·have:=tJ r (c==92) (c::k) none;simp at this ⊢;exact ak aK 23 [_,_,_] [] this
 | c::r,false,k,some q=>by
  rw [qs]
  split
  ·have:=tJ r false k none;simp at this ⊢;exact ak e8 12 [_,_,_,_] [] this
  ·have:=tJ r (c==92) k (some (c::q));simp at this ⊢;exact ak dd 4 [_,_,_,_] [] this
theorem Bu:∀(r:List Nat) (e:Bool) (k:List Nat),(∀c∈r,c≠34)->qs e k none r=k.reverse++r
 | [],e,k,_=>by rw [qs];rfl
 | c::r,true,k,h=>by rw [qs,Bu r false _ λd hd=>h d (aP _ hd)];simp
 | c::r,false,k,h=>by rw [qs,if_neg (h c (aB ..)),Bu r _ _ λd hd=>h d (aP _ hd)];simp
theorem I7 (x:Str) (a:Oz) (p:Int×Str):(q6 x a p).res.length<=a.res.length+1:=by
 unfold q6
 split
 ·split
  ·exact bx _
  ·dsimp only
   split
   ·exact bx _
   ·exact ae bp (aD _)
 ·exact bx _
theorem Up:sI "len" [.str x] J g=(x.length<=1000/\g (.int (x.length:Nat))):=LC
noncomputable def tupP (p:Int×Str):V:=.tup [.int p.1,.str p.2]
theorem Fd {L:List (Str×Nat×Sp)}{x:Str}{Q:Fl->Sg->Hs->Prop} (e:x.length<=1000):∀(c:List (Int×Str)) (st:Oz) (a b:Option V),st.res.length+c.length<=900->
  (∀a b,(c.foldl (q6 x) st).res.length<=900->Q none (GX x (c.foldl (q6 x) st) a b) [gm (c.foldl (q6 x) st).res])->
  sH (λv g H k=>match fu 2 v with | some f=>de (TL L) [fw] (iO [(4,ag 20),(5,ag 21)] f g) H k | none=>False) (c.map tupP) (GX x st a b) [gm st.res] Q
 | [],st,a,b,h,d=>d a b h
 | p::c,st,a,b,h,d=>by
  replace h:=(c9)▸h
  have:=I7 x st p
  rw [bG,sH]
  exact MR (a:=a) (b:=b) e (ak fj 22 [_,_] [] h) (Fd e c (q6 x st p) _ _ (au eZ 11 [_,_,_] [] h this) d)
theorem Ar (l:List Str):(fX ("":Str) l)=⟨(nU l).toArray⟩:=by
 have h:∀(l:List Str) (a:Array Nat),l.foldl (λa p=>a++("":Str).cps++p.cps) a=a++(nU l).toArray:=λl=>by
  induction l with
  | nil=>intro a;simp [nU]
  | cons y l b=>
   intro a
   refine ae dP (ae (b _) (ae (show ("":Str).cps=#[] by decide +kernel) ?_))
   unfold nU
   rw [pV,<- Iz,GO,Array.append_empty,IF]
 unfold fX
 cases l with
 | nil=>rfl
 | cons y l=>
  refine ae List.drop_one (ae List.tail_cons (ae (h _ _) ?_))
  show (⟨y.cps++_⟩:Str)=_
  unfold nU
  refine ae pV (bQ (Iz _ _) (ae GO rfl))
theorem xZ:∀l:List Str,q5 (gm l)=some l
 | []=>rfl
 | y::r=>by
  show q5 (.str y::gm r)=_
  rw [q5,xZ r];rfl
theorem KO (l:List Str) (k:Nat):l.toArray.foldl (λa y=>a+y.length+("":Str).length) k=k+(nU l).length:=by
 refine ae (L9 _ _ _) ?_
 induction l generalizing k with
 | nil=>rfl
 | cons y l b=>
  refine ae dP (ae (b _) (ae (show ("":Str).length=0 by decide +kernel) ?_))
  unfold nU
  exact ae pV (ae bp (ae (show y.cps.toList.length=y.length from bD) (bA fo 7 [_,_,_] [])))
theorem J9 {l:List Str} (b:vw J v=.lst (gm l)) (a:(nU l).length<=1000) (h:B (.str ⟨(nU l).toArray⟩) J):uW 36 "join" (.str "") [v] J B:=by
 show Ep "" "join" [v] J B
 delta Ep
 refine ae (if_pos rfl) ?_
 refine ⟨gm l,l,b,xZ l,by refine ae (KO _ _) ?_;exact ak fj 23 [_] [] a,?_,?_⟩
 ·refine ae (Ar _) ?_;exact ar (dN (Ml ..)) a
 ·exact ae (Ar _) h
theorem Eg (h:E (!decide (34∈x.cps.toList))):tU .NotIn (.str "\"") (.str x) J E:=by
 show E (!xK x ("\"":Str))
 have:xK x ("\"":Str)=decide (34∈x.cps.toList):=ae Bt (StrLaws.found_one ..)
 exact ae this h
noncomputable def A9 (x:Str):Str:=⟨(qs false [] none x.cps.toList).toArray⟩
def xq:Sp:=λa r=>∃x:Str,a=[.str x]/\x.length<=800/\r=.str (A9 x)
theorem vr:∀(l:List Nat) (i:Nat) (e:Bool),(kN i e l).length<=l.length+1
 | [],i,true=>aD _
 | [],_,false=>eB _
 | c::r,i,true=>by rw [kN];exact zv (vr r _ _)
 | c::r,i,false=>by
  rw [kN]
  split
  ·exact dE (vr r _ _)
  ·exact zv (vr r _ _)
theorem D3:∀y r d,xq y r->d r->jE (TL L) 1 jC.length jQ y d:=by
 rintro y r d ⟨x,rfl,o,rfl⟩ p
 have j:x.cps.toList.length=x.length:=bD
 refine ⟨rfl,rfl,?_⟩
 show de _ [gC,gB,gz,gy,gx,gc,eR] [some (.str x),none,none,none,none,none] [] _
 refine dM λK g=>?_
 dsimp only [gC,js,fH,dY,jj,eH,fR,bt,aU,df,cs,bV,c6]
 refine Eg ⟨λh=>?_,λO=>g _ _ ?_⟩
 ·have G:¬34∈x.cps.toList:=by simpa using h
  refine ⟨_,rfl,?_⟩
  have:A9 x=x:=by
   unfold A9
   refine ae (Bu _ _ _ λc E e=>G (e▸E)) ?_
   rfl
  replace p:=(this)▸p
  exact p
 refine dM λK g=>?_
 dsimp only [gB,bU,bt,cs,bV,fU,f6]
 refine g _ _ (dM λK g=>?_)
 dsimp only [gz,bU,bt,cs,bV,fU,f6]
 refine g _ _ (dM λK g=>?_)
 dsimp only [gy,bU,eE,cD,w9,fU,f6]
 refine g _ _ (dM λK g=>?_)
 dsimp only [gx,kr,aU,cD,cL,Kr,c6]
 refine ⟨rfl,?_⟩
 show sH _ (iy 0 false x.cps.toList) (GX x ⟨0,none,[]⟩ none none) [gm []] _
 refine ae (yM _ _ _) ?_
 refine Fd (ak aK 18 [_] [] o) _ _ _ _ (by have:=vr x.cps.toList 0 false;show 0+_<=_;exact bI eT 12 [_,_,_] [] o j this) λa b q=>g _ _ ?_
 refine ah (Tx x x.cps.toList 0 false ⟨0,none,[]⟩ [] none rfl (eB _) ⟨0,rfl,aD _,.inl ⟨rfl,rfl,rfl⟩⟩) λn w=>aA w λz D m=>?_
 generalize (kN 0 false x.cps.toList).foldl (q6 x) ⟨0,none,[]⟩=J at *
 obtain ⟨u,I,i⟩:=J
 dsimp only at z m q
 subst z
 have f:=tJ x.cps.toList false [] none
 replace f:=(c8)▸(bp)▸(Eq.symm m)▸f
 simp only [sB,L3] at f
 have k:∀l:List Str,nU l=qs false [] none x.cps.toList->l.length<=1000->de (TL L) [eR] (GX x ⟨(n:Int),I,i⟩ a b) [gm l] λC O H=>match C with | none=>d .none | some v=>∃B,fz 8 H v=some B/\d B:=λl A M=>by
  refine ae eH ?_
  dsimp only [eR,fH,bt,aU,d4,cD,cL,ip,iq,cs,bV,c6,dB]
  refine ⟨rfl,J9 (l:=l) rfl (ae A (bQ m (ae bp (ae c8 (eP ee 17 [_,_,_,_,_] [] o j f a8))))) ⟨_,rfl,?_⟩⟩
  exact ae A p
 refine dM λK g=>?_
 dsimp only [gc,i9,oa,dY,jj,eH,fR,aU,d5,d4,iV,cD,cL,Rh,ir,ea,df,ip,iq,IT,c6,dB]
 refine ⟨rfl,?_⟩
 refine ae Up ?_
 refine ⟨by exact ak aK 18 [_] [] o,λh=>?_,λh=>?_⟩
 ·have F:n < x.cps.toList.length:=by
   have:=of_decide_eq_true h
   exact au eZ 12 [_,_,_] [] j this
  refine ⟨rfl,_,_,rfl,rfl,rfl,by exact ak aK 18 [_] [] o,?_⟩
  refine pB (l:=gm i) rfl (by unfold gm;exact ae (bv _) (ak aK 16 [_] [] q)) (g _ _ ?_)
  refine ae (G3 D) ?_
  have:=k (i++[⟨(x.cps.toList.drop n).toArray⟩]) (by unfold nU at m ⊢;refine ae Iy (bQ m ?_);simp) (by refine ae bp ?_;show i.length+1<=_;exact ak fh 0 [_] [] q)
  unfold gm at this ⊢
  replace this:=(gj)▸this
  exact this
 ·have s:x.cps.toList.length<=n:=by
   have:=of_decide_eq_false h
   exact au eZ 13 [_,_,_] [] j this
  refine g _ _ (k i ?_ (ak aK 16 [_] [] q))
  refine bQ m (ae (List.drop_of_length_le s) (ae (bw _) rfl))
theorem I1 (B:Base C):hO C "_strip_quoted_realnames" 42 xq:=
 iw (N:=41) (L:=[]) B (by decide) (λO O O h=>by exact nomatch h) Kf.og D3
noncomputable def yx:Nat->Option Nat
 | 0=>none
 | o+1=>some o
noncomputable def ES:List (Int×Str)->Nat->Option Nat
 | [],o=>some o
 | p::r,o=>if (p.2==one 40)=true then ES r (o+1) else if (p.2==one 41)=true then (yx o).bind (λo=>ES r o) else ES r o
section
set_option autoImplicit true
theorem Xg:ES [] o'=(some o'):=rfl
theorem Xf:ES (p'::r') o'=(if (p'.2==one 40)=true then ES r' (o'+1) else if (p'.2==one 41)=true then (yx o').bind (λo'=>ES r' o') else ES r' o'):=rfl
end
noncomputable def ck:Bool->Nat->List Nat->Option Nat
 | _,o,[]=>some o
 | true,o,_::r=>ck false o r
 | false,o,c::r=>if c=40 then ck false (o+1) r else if c=41 then (yx o).bind (λo=>ck false o r) else ck (c==92) o r
section
set_option autoImplicit true
theorem YT:ck true o' []=some o':=rfl
theorem YQ:ck false o' []=some o':=rfl
theorem YS:ck true o' (u1::r')=(ck false o' r'):=rfl
theorem YR:ck false o' (c'::r')=(if c'=40 then ck false (o'+1) r' else if c'=41 then (yx o').bind (λo'=>ck false o' r') else ck (c'==92) o' r'):=rfl
end
theorem tX:∀(l:List Nat) (i:Nat) (e:Bool) (o:Nat),ES (kN i e l) o=ck e o l
 | [],i,true,o=>by
  rw [kN,ES,if_neg (show ¬(("\\":Str)==one 40)=true by decide +kernel),if_neg (show ¬(("\\":Str)==one 41)=true by decide +kernel)];rfl
 | [],i,false,o=>rfl
 | c::r,i,true,o=>by
  rw [kN,ES,DY,DY,if_neg (by decide),if_neg (by decide),tX r,ck]
 | c::r,i,false,o=>by
  rw [kN,ck,yX,v0]
  by_cases h:c=92
  ·subst h
   exact ae (if_pos (by decide)) (ae (if_neg (by decide)) (ae (if_neg (by decide)) (tX r _ _ _)))
  ·rw [if_neg (λe=>h (eq_of_beq e)),ES,v0,v0,beq_eq_false_iff_ne.mpr h]
   by_cases a:c=40
   ·exact ae (if_pos (decide_eq_true a)) (ae (if_pos a) (tX r _ _ _))
   ·refine ae (if_neg (λe=>a (eq_of_beq e))) (ae (if_neg a) ?_)
    by_cases b:c=41
    ·refine ae (if_pos (decide_eq_true b)) (ae (if_pos b) ?_)
     cases o with
     | zero=>rfl
     | succ o=>exact tX r _ _ _
    ·exact ae (if_neg (λe=>b (eq_of_beq e))) (ae (if_neg b) (tX r _ _ _))
noncomputable abbrev ER (x:Str) (o:Nat) (a b:Option V):Sg:=[some (.str x),some (.int o),a,b]
theorem Rf:("(":Str)=one 40:=by decide +kernel
theorem R5:(")":Str)=one 41:=by decide +kernel
theorem Oq {y:Str}
  (g:(y==one 40)=true->k none (ER x (n+1) e (some (.str y))) [])
  (i:(y==one 40)=false->(y==one 41)=true->∀a,n=a+1->k none (ER x a e (some (.str y))) [])
  (j:(y==one 40)=false->(y==one 41)=true->n=0->∀m,k (some (.bool false)) m [])
  (l:(y==one 40)=false->(y==one 41)=false->k none (ER x n e (some (.str y))) []):
  de (TL L) [gK] (ER x n e (some (.str y))) [] k:=by
 refine dM λK d=>?_
 dsimp only [gK,dY,fR,bt,aU,df,cs,bV,c6,dB]
 refine ae Rf ?_
 refine ⟨(y==one 40),rfl,λh=>?_,λh=>?_⟩
 ·refine ae eH ?_
  dsimp only [k7,qF,bt,CJ,cs,bV,c6,dB,fU,f6,Kt]
  exact c0 (d _ _ (c0 (g h)))
 ·refine dM λo b=>?_
  dsimp only [k6,dY,fR,bt,aU,df,cs,bV,c6,dB]
  refine ae R5 ?_
  refine ⟨(y==one 41),rfl,λc=>?_,λc=>b _ _ (c0 (d _ _ (c0 (l h c))))⟩
  refine dM λp Q=>?_
  dsimp only [k5,qF,bt,CJ,cs,bV,c6,dB,fU,f6,Pk]
  refine Q _ _ (dM λr f=>?_)
  dsimp only [kZ,kY,fH,dY,jj,eH,fR,bt,aU,df,cs,bV,c6,dB,HO]
  cases n with
  | zero=>exact ⟨λO=>j h c rfl _,λq=>absurd q (by decide)⟩
  | succ a=>
   refine ⟨λq=>?_,λO=>f _ _ (c0 (b _ _ (c0 (d _ _ (c0 ?_)))))⟩
   ·have:=of_decide_eq_true q
    exact cw (ak fg 3 [_] [] this)
   ·exact ae (show ((a+1:Nat):Int) - 1=a by exact bA fm 11 [_] []) (i h c a rfl)
theorem xH {L:List (Str×Nat×Sp)}{x:Str}{Q:Fl->Sg->Hs->Prop}:∀(d:List (Int×Str)) (o:Nat) (a b:Option V),
  (∀k a b,ES d o=some k->Q none (ER x k a b) [])->(ES d o=none->∀i,Q (some (.bool false)) i [])->
  sH (λv i H k=>match fu 2 v with | some l=>de (TL L) [gK] (iO [(2,aJ 13),(3,aJ 14)] l i) H k | none=>False) (d.map tupP) (ER x o a b) [] Q
 | [],o,a,b,h,_=>h o a b rfl
 | p::d,o,a,b,h,c=>by
  rw [ES] at h c
  rw [bG,sH]
  refine Oq (λe=>?_) (λf g k j=>?_) (λf g j i=>?_) λf g=>?_
  ·rw [if_pos e] at h c
   exact xH d _ _ _ h c
  ·subst j
   rw [f,if_neg (by decide),if_pos g] at h c
   exact xH d _ _ _ h c
  ·subst j
   rw [f,if_neg (by decide),if_pos g] at c
   exact c rfl i
  ·rw [f,if_neg (by decide),g,if_neg (by decide)] at h c
   exact xH d _ _ _ h c
noncomputable def sS (x:Str):Bool:=ck false 0 (qs false [] none x.cps.toList)==some 0
def x3:Sp:=λa r=>∃x:Str,a=[.str x]/\x.length<=800/\r=.bool (sS x)
theorem Lr (i:L.lookup ("_strip_quoted_realnames":Str)=some (n,xq)):∀h r c,x3 h r->c r->jE (TL L) 1 k9.length lP h c:=by
 rintro h r c ⟨x,rfl,j,rfl⟩ d
 refine ⟨rfl,rfl,?_⟩
 show de _ [i3,i2,i1,i0] [some (.str x),none,none,none] [] _
 refine dM λK e=>?_
 dsimp only [i3,bU,aU,cU,cD,cL,c6,fU,ey,vw]
 refine ⟨dD i,ed i rfl ⟨x,rfl,j,rfl⟩ ⟨rfl,e _ _ (dM λK e=>?_)⟩⟩
 dsimp only [i2,bU,bt,cs,bV,fU,f6]
 refine e _ _ (dM λK e=>?_)
 dsimp only [i1,kr,aU,cD,cL,Kr,c6]
 refine ⟨rfl,?_⟩
 show sH _ (iy 0 false (qs false [] none x.cps.toList)) (ER (A9 x) 0 none none) [] _
 refine ae (yM _ _ _) ?_
 refine xH _ _ _ _ (λk a b f=>e _ _ ?_) λg l=>?_
 ·refine ae eH ?_
  dsimp only [i0,fH,bt,aU,iX,df,cs,bV,c6,dB,xe]
  refine ⟨_,kO,_,rfl,?_⟩
  replace f:=(tX _ _ _ _)▸f
  unfold sS at d
  replace d:=(f)▸d
  refine ae (show (((k:Nat):Int)==0)=(some k==some 0) by cases k<;>rfl) ?_
  exact d
 ·replace g:=(tX _ _ _ _)▸g
  unfold sS at d
  replace d:=(g)▸d
  exact ⟨_,rfl,d⟩
theorem R6 (B:Base C):hO C "_check_parenthesis" 44 x3:=
 iw (N:=43) (L:=[("_strip_quoted_realnames",42,xq)]) B (by decide) (λx n a h=>by
  cases ai.mp h;exact ⟨by decide,I1 B⟩) Kf.rP (Lr rfl)
inductive BD:List Nat->List Nat->Prop
 | Ih {r'}:BD (34::r') (34::r')
 | nil:BD [] []
 | chr {c' r' o'}:c'≠34->c'≠92->BD r' o'->BD (c'::r') o'
 | Ii {d' r' o'}:d'≠10->BD r' o'->BD (92::d'::r') o'
inductive QL:List Nat->List Nat->Prop
 | nil:QL [] []
 | chr {c' Ng o'}:c'≠34->QL Ng o'->QL (c'::Ng) (c'::o')
 | Ih {Ng r' o'}:BD Ng (34::r')->QL r' o'->QL (34::Ng) o'
 | YL {Ng o'}:BD Ng []->QL Ng o'->QL (34::Ng) (34::o')
section
variable {T:Array Nat}
theorem at_of (h:T.toList.drop p=n::m):p < T.size/\T.getD p 0=n/\T.toList.drop (p+1)=m:=by
 have a:p < T.toList.length:=by
  have:=congrArg bH h
  replace this:=(c9)▸(c8)▸this
  exact au bq 9 [_,_,_,_] [] this a8
 replace h:=(c5 a)▸h
 injection h with b d
 replace a:=(bD)▸a
 exact ⟨a,by rw [Array.getD,dif_pos a];exact b,d⟩
theorem EJ (h:T.toList.drop p=[]):T.size<=p:=by
 have:=congrArg bH h
 replace this:=(bD)▸(sB)▸(c8)▸this
 exact au bq 17 [_,_,_] [] this a8
theorem BD.body {o:List Nat} (h:BD m o):∀p,T.toList.drop p=m->∃e,Body T p e/\T.toList.drop e=o:=by
 induction h with
 | Ih=>intro p d;exact ⟨p,.stop λO=>.inl (at_of d).2.1,d⟩
 | nil=>intro p d;exact ⟨p,.stop λq=>absurd q (je.mpr (EJ d)),d⟩
 | chr i s _ j=>
  intro p d
  exact aA (at_of d) λa b c=>(ah (j _ c) λe f=>af f λk g=>⟨e,.chr a (b▸i) (b▸s) k,g⟩)
 | Ii i _ j=>
  intro p d
  refine aA (at_of d) λa b c=>?_
  exact aA (at_of c) λl r n=>(ah (j _ n) λe f=>af f λk g=>⟨e,.Ii l b (r▸i) k,g⟩)
end
noncomputable def nO (b:Array UInt8):List Nat:=b.toList.map (·.toNat)
theorem tP (b:Array UInt8):(lO b).toList=nO b:=by unfold lO nO;refine ae Array.toList_map rfl
theorem Dd (b:Array UInt8) (d a:Nat):nO (b.extract d a)=((nO b).drop d).take (a - d):=by
 unfold nO
 refine ae GN (ae Cr (ae List.map_take (ae List.map_drop rfl)))
theorem De (a b:Array UInt8):nO (a++b)=nO a++nO b:=by unfold nO;refine ae nZ (ae gj rfl)
theorem sn (b:Array UInt8):(lO b).size=b.size:=by unfold lO;refine ae Array.size_map rfl
def HU (b:Array UInt8) (d:Nat) (l c:List Nat):Option (Nat×Nat)->Prop
 | none=>c=l
 | some (a,e)=>d<=a/\∃o,B6 b e o/\c=l.take (a - d)++nO o
theorem HU.sub {c:List Nat} (hs:t1 (lO T) n I) (h:HU T n m c I) (f:(nO T).drop n=m):∃o,B6 T n o/\nO o=c:=by
 cases I with
 | none=>exact ⟨_,.fin hs,by rw [Dd,f,show c=m from h,dK];refine bQ f (ae c8 ?_);unfold nO;exact ae (bv _) (ae bD (aD _))⟩
 | some x=>
  obtain ⟨a,e⟩:=x
  refine af h λO g=>ah g λo i=>af i λk j=>?_;subst j
  exact ⟨_,.more hs k,by refine ae (De _ _) (ae (Dd _ _ _) (ae f rfl))⟩
theorem HU.cons {f:List Nat} (h:HU T (n+1) m f I):HU T n (p::m) (p::f) I:=by
 cases I with
 | none=>exact congrArg _ h
 | some x=>
  obtain ⟨a,e⟩:=x
  refine af h λk g=>ah g λo i=>af i λb j=>?_;subst j
  exact ⟨by exact b8 ‹_›,o,b,by refine ae (show a - n=(a - (n+1))+1 by exact bI cO 3 [_,_,_,_] [] k a8 a8) ?_;rfl⟩
theorem QL.WB {l:List Nat} (h:QL l m):∀d,d<=T.size->(nO T).drop d=l->∃r,t1 (lO T) d r/\HU T d l m r:=by
 induction h with
 | nil=>
  intro d hd f
  replace f:=(Eq.symm (tP _))▸f
  exact ⟨none,.over (sO (sn T▸hd) (EJ f)),rfl⟩
 | chr i _ j=>
  intro d hd f
  have c:=f
  replace c:=(Eq.symm (tP _))▸c
  refine aA (at_of c) λx y z=>?_
  replace z:=(tP _)▸z
  exact ah (j (d+1) (sn T▸x) z) λr a=>af a λk g=>⟨r,.miss x (.inl (y▸i)) k,g.cons⟩
 | Ih i _ j=>
  intro d hd f
  replace f:=(Eq.symm (tP _))▸f
  refine aA (at_of f) λx y z=>?_
  refine ah (i.body _ z) λe a=>af a λk g=>?_
  refine aA (at_of g) λu A n=>?_
  replace n:=(tP _)▸n
  exact ah (j (e+1) (sn T▸u) n) λr a=>af a λs p=>(ah (p.sub s n) λo a=>af a λv w=>⟨some (d,e+1),.hit x y k u A,aD _,o,v,by refine ae (GG _) (ae w ?_);rfl⟩)
 | YL i _ j=>
  intro d hd f
  have c:=f
  replace c:=(Eq.symm (tP _))▸c
  refine aA (at_of c) λx y z=>?_
  refine ah (i.body _ z) λe a=>af a λk g=>?_
  replace z:=(tP _)▸z
  exact ah (j (d+1) (sn T▸x) z) λr a=>af a λs p=>⟨r,.miss x (.inr ⟨e,k,λq=>absurd q (je.mpr (EJ g))⟩) s,p.cons⟩
theorem QL.sub {b:Array UInt8}{a:List Nat} (h:QL (nO b) a):∃o,B6 b 0 o/\nO o=a:=by
 exact ah (h.WB 0 (eB _) rfl) λr c=>af c λk g=>(g.sub k rfl)
theorem Oo {u:UInt8} (h:n < T.size):(T.extract n (n+1)==#[u])=(T[n]==u):=by
 have:T.extract n (n+1)=#[T[n]]:=by
  refine bQ (propext Ms) (ae GN (ae Cr (ae (Nat.add_sub_cancel_left _ _) (ae (c5 h) ?_))))
  rfl
 refine ae this ?_
 simp
theorem Ah {b:Array UInt8}{u:UInt8}:∀n,n<=b.size->∃l k,(dT n).foldl (λ(a:List Nat×Nat) i=>if (decide (i>=a.2) && b.extract i (i+1)==#[u])=true then (i::a.1,i+1) else a) ([],0)=(l,k)/\k<=n/\l.length=(b.toList.take n).count u
 | 0,_=>⟨[],0,rfl,aD _,by refine ae t6 ?_;rfl⟩
 | n+1,h=>by
  obtain ⟨l,k,e,c,d⟩:=Ah n (Nat.le_of_succ_le h)
  rw [List.range_succ,Mm,e,dP,Cb,xk,aT (show n < b.toList.length by exact ae bD h),B9,lx,Oo h,decide_eq_true c,DT,List.count_singleton,Array.getElem_toList,<- d]
  cases b[n]==u
  ·exact ⟨l,k,rfl,by exact ak aK 5 [_,_] [] c,rfl⟩
  ·exact ⟨_,_,rfl,aD _,rfl⟩
theorem Lq (b:Array UInt8) (u:UInt8):BZ b #[u]=b.toList.count u:=by
 unfold BZ wd
 refine ae (show (#[u]:Array UInt8).size=1 from rfl) ?_
 dsimp only
 by_cases h:b.size < 1
 ·refine ae (if_pos h) (ae (show b=#[] from iE (ak fh 21 [_] [] h)) ?_);rfl
 ·refine ae (if_neg h) (ae (cq _) (ae (Mk _ _) ?_))
  have d:(dT b.size).map (·+0)=dT b.size:=List.map_id _
  refine ae d ?_
  refine aG (Ah (u:=u) b.size (aD _)) λl k a=>aA a λe O c=>?_
  refine ae e (ae dR (ae c (ae (dK (dN bD)) rfl)))
theorem Gj (u:UInt8):∀l:List UInt8,l.count u=(l.map (·.toNat)).count u.toNat
 | []=>rfl
 | x::r=>by
  refine ae bG (ae PZ (ae PZ (ae (Gj u r) ?_)))
  congr 1
  by_cases h:x=u
  ·refine ae h (ae (if_pos (beq_self_eq_true _)) (ae (if_pos (beq_self_eq_true _)) rfl))
  ·refine ae (if_neg (λe=>h (eq_of_beq e))) (ae (if_neg (by simpa using λq=>h (UInt8.toNat_inj.mp q))) rfl)
def on:Sp:=λc r=>∃(b:Array UInt8) (d:Int) (a:List Nat),c=[.sw b,.int d]/\b.size<=1000/\QL (nO b) a/\r=.int (d+(a.count 40:Nat) - (a.count 41:Nat))
theorem EN:∀f r a,on f r->a r->jE (TL L) 2 qG.length rH f a:=by
 rintro f r a ⟨b,d,p,rfl,l,m,rfl⟩ n
 refine ah m.sub λo c=>af c λj g=>?_;subst g
 refine ⟨rfl,rfl,?_⟩
 show de _ [lZ,lY] [some (.sw b),some (.int d)] [] _
 refine dM λK k=>?_
 dsimp only [lZ,bU,bt,aU,iB,d4,cD,cL,MM,ip,iq,cs,bV,c6,fU]
 refine ⟨rfl,rfl,rfl,l,o,j,k _ _ ?_⟩
 refine ae eH ?_
 dsimp only [lY,fH,bt,aU,bK,d4,cD,cL,ip,iq,bW,cs,bV,c6,dB]
 refine ⟨rfl,rfl,⟨rfl,rfl,?_⟩⟩
 refine ⟨_,rfl,?_⟩
 have e:∀u:UInt8,BZ o #[u]=(nO o).count u.toNat:=λu=>by refine ae (Lq _ _) (ae (Gj _ _) ?_);rfl
 have h:=e 40
 have i:=e 41
 show a (.int (d+(BZ o #[40]:Nat) - (BZ o #[41]:Nat)))
 exact ae h (ae i n)
theorem Li (B:Base C):hO C "_paren_depth" 42 on:=
 iw (N:=41) (L:=[]) B (by decide) (λO O O h=>by exact nomatch h) Kf.yB EN
theorem zX (h:∀c∈x.cps.toList,c < 128):nO (qR x)=x.cps.toList/\∀c∈x.cps,kQ c=false:=by
 have g:∀(l:List Nat) (a:Array UInt8),(∀c∈l,c < 128)->nO (l.foldl (λa y=>a++(Ce y).toArray) a)=nO a++l:=λl=>by
  induction l with
  | nil=>intro a _;refine ae Cb (ae (bw _) rfl)
  | cons c l e=>
   intro a d
   have b:=d c (aB ..)
   refine ae dP (ae (e _ λy hy=>d y (aP _ hy)) (ae (De _ _) (ae (show Ce c=[c.toUInt8] by unfold Ce;rw [if_pos (am b (by decide))]) ?_)))
   refine ae (cy _ _ _) ?_
   congr 1
   show (c.toUInt8.toNat::[])++l=c::l
   refine ae (show c.toUInt8.toNat=c by rw [Nat.toUInt8,UInt8.toNat_ofNat'];exact au eX 23 [_,_,_] [] b lR) ?_;rfl
 constructor
 ·unfold qR
  refine bQ (Array.foldl_toList _) (ae (g _ _ h) ?_);rfl
 ·intro c d
  have:=h c (by simpa using d)
  unfold kQ
  refine ae (decide_eq_false (ak fe 13 [_] [] this)) ?_;rfl
noncomputable abbrev Kd:=Bool×Bool
noncomputable def wJ:List Kd->Nat->Option Nat
 | [],o=>some o
 | (true,true)::r,o=>wJ r (o+1)
 | (true,false)::r,o=>(yx o).bind (wJ r ·)
 | (false,_)::r,o=>wJ r o
section
set_option autoImplicit true
theorem Xn:wJ [] o'=(some o'):=rfl
theorem Xm:wJ ((true,true)::r') o'=(wJ r' (o'+1)):=rfl
theorem Xl:wJ ((true,false)::r') o'=((yx o').bind (wJ r' ·)):=rfl
theorem Xk:wJ ((false,u1)::r') o'=(wJ r' o'):=rfl
end
def kz (ks:List Kd) (l:List Nat):Prop:=∃S:List Nat,(∀k r,qs false k none (l++r)=qs false (S.reverse++k) none r)/\∀o r,ck false o (S++r)=(wJ ks o).bind λo=>ck false o r
def mM (a b:Nat) (l:List Nat):Prop:=∃S:List Nat,(∀r o,QL r o->QL (l++r) (S++o))/\S.count 40=a/\S.count 41=b
theorem Ow (a b:List Kd):∀o,wJ (a++b) o=(wJ a o).bind (wJ b ·):=by
 induction a with
 | nil=>intro o;rfl
 | cons x a c=>
  intro o
  obtain ⟨p,q⟩:=x
  refine ae dA ?_
  cases p with
  | false=>rw [wJ,wJ,c]
  | true=>
   cases q with
   | true=>rw [wJ,wJ,c]
   | false=>
    rw [wJ,wJ]
    cases yx o with
    | none=>rfl
    | some o=>exact c o
theorem kz.nil:kz [] []:=⟨[],λO O=>rfl,λO O=>rfl⟩
theorem kz.app {a b:List Kd}{l:List Nat} (h:kz a l) (g:kz b m):kz (a++b) (l++m):=by
 refine ah h λS c=>af c λf i=>?_
 refine ah g λU c=>af c λd e=>?_
 refine ⟨S++U,λk r=>?_,λo r=>?_⟩
 ·refine ae (cy _ _ _) (ae (f _ _) (ae (d _ _) (ae vK (ae (cy _ _ _) rfl))))
 ·refine ae (cy _ _ _) (ae (i _ _) (ae (Ow _ _ _) ?_))
  cases wJ a o with
  | none=>rfl
  | some o=>exact e o r
theorem mM.nil:mM 0 0 []:=⟨[],λO O h=>h,rfl,rfl⟩
theorem mM.app {b:Nat}{l:List Nat} (h:mM n b l) (g:mM p w m):mM (n+p) (b+w) (l++m):=by
 refine ah h λS e=>aA e λk f i=>?_;subst f;subst i
 refine ah g λU e=>aA e λj f i=>?_;subst f;subst i
 exact ⟨S++U,λr o q=>by refine ae (cy _ _ _) (ae (cy _ _ _) ?_);exact k _ _ (j _ _ q),lx,lx⟩
noncomputable def sg (up:Bool):Nat:=if up then 40 else 41
noncomputable def Zj (k up:Bool):Nat:=if k=false/\up=true then 1 else 0
theorem Em:kz [] [34,92,34,92,41,41,34]:=⟨[],λO O=>rfl,λO O=>rfl⟩
theorem Hl:kz [(true,true)] [40]:=⟨[40],λO O=>rfl,λO O=>rfl⟩
theorem Eo:kz [(true,false)] [41]:=⟨[41],λO O=>rfl,λo O=>by cases o<;>rfl⟩
theorem NB:∀up,kz [(true,up)] [92,34,sg up,34,92,34,34]
 | true=>⟨[92,34,40],λO O=>rfl,λO O=>rfl⟩
 | false=>⟨[92,34,41],λO O=>rfl,λo O=>by cases o<;>rfl⟩
theorem NA:∀up,kz [(true,up)] [92,34,sg up,92,92,34,92,34,34]
 | true=>⟨[92,34,40,92,92],λO O=>rfl,λO O=>rfl⟩
 | false=>⟨[92,34,41,92,92],λO O=>rfl,λo O=>by cases o<;>rfl⟩
theorem Nz:∀up,kz [(false,up)] [92,sg up]
 | true=>⟨[92,40],λO O=>rfl,λO O=>rfl⟩
 | false=>⟨[92,41],λO O=>rfl,λO O=>rfl⟩
theorem Ny:∀up,kz [(false,up)] [92,34,34,sg up,34,34,92,34,34]
 | true=>⟨[92,34],λO O=>rfl,λO O=>rfl⟩
 | false=>⟨[92,34],λO O=>rfl,λO O=>rfl⟩
theorem bd0:BD (34::m) (34::m):=.Ih
theorem Eb {o:List Nat} (h:QL m o):QL (92::m) (92::o):=.chr (by decide) h
theorem Jz {o:List Nat} (h:QL m o):QL (34::34::m) o:=.Ih .Ih h
theorem z6 (up:Bool):sg up≠34/\sg up≠92/\sg up≠10:=by cases up<;>decide
theorem EC:mM 0 0 [34,92,34,92,41,41,34]:=⟨[],λO O h=>.Ih (.Ii (by decide) (.Ii (by decide) (.chr (by decide) (by decide) .Ih))) h,rfl,rfl⟩
theorem N0 (up:Bool):mM 0 0 [92,34,sg up,34,92,34,34]:=⟨[92,92],λO O h=>Eb (.Ih (.chr (z6 up).1 (z6 up).2.1 .Ih) (Eb (Jz h))),rfl,rfl⟩
theorem NZ (up:Bool):mM 0 0 [92,34,sg up,92,92,34,92,34,34]:=⟨[92,92],λO O h=>Eb (.Ih (.chr (z6 up).1 (z6 up).2.1 (.Ii (by decide) .Ih)) (Eb (Jz h))),rfl,rfl⟩
theorem Lp (up:Bool):([92,sg up].count 40=if up then 1 else 0)/\([92,sg up].count 41=if up then 0 else 1):=by cases up<;>decide
theorem NY (up:Bool):mM (if up then 1 else 0) (if up then 0 else 1) [92,sg up]:=⟨[92,sg up],λO O h=>Eb (.chr (z6 up).1 h),(Lp up).1,(Lp up).2⟩
theorem Gi (up:Bool):([92,sg up,92].count 40=if up then 1 else 0)/\([92,sg up,92].count 41=if up then 0 else 1):=by cases up<;>decide
theorem NW (up:Bool):mM (if up then 1 else 0) (if up then 0 else 1) [92,34,34,sg up,34,34,92,34,34]:=⟨[92,sg up,92],λO O h=>Eb (Jz (.chr (z6 up).1 (Jz (Eb (Jz h))))),(Gi up).1,(Gi up).2⟩
structure Pc (k:Kd) (l:List Nat):Prop where
 len:l.length<=16
 small:∀c∈l,c < 128
 J7:kz [k] l
 RE:mM (if k.1=false/\k.2=true then 1 else 0) (if k.1=false/\k.2=false then 1 else 0) l
noncomputable def tT (b:Bool):List Nat:=if b then [] else [34,92,34,92,41,41,34]
noncomputable def AC (k:Kd) (b:Bool):List Nat:=if k.1 then (if b then [92,34,sg k.2,34,92,34,34] else [92,34,sg k.2,92,92,34,92,34,34])
 else if b then [92,sg k.2] else [92,34,34,sg k.2,34,34,92,34,34]
theorem CQ:∀(p q d b:Bool),(tT d++AC (p,q) b).length<=16/\∀c∈tT d++AC (p,q) b,c < 128:=by decide
theorem TZ (k:Kd) (d b:Bool):Pc k (tT d++AC k b):=by
 have hd:kz [] (tT d):=by cases d;exact Em;exact .nil
 have a:mM 0 0 (tT d):=by cases d;exact EC;exact .nil
 obtain ⟨p,up⟩:=k
 refine ⟨(CQ _ _ d b).1,(CQ _ _ d b).2,hd.app (b:=[(p,up)]) ?_,?_⟩
 ·cases p<;>cases b
  ·exact Ny up
  ·exact Nz up
  ·exact NA up
  ·exact NB up
 ·have:mM (if p=false/\up=true then 1 else 0) (if p=false/\up=false then 1 else 0) (AC (p,up) b):=by
   cases p<;>cases b
   ·have:=NW up;cases up<;>exact this
   ·have:=NY up;cases up<;>exact this
   ·exact NZ up
   ·exact N0 up
  have:=a.app this
  replace this:=(cq _)▸(cq _)▸this
  exact this
noncomputable def M2 (up:Bool):Str:=if up then "(" else ")"
theorem JH (up:Bool) (c:Nat) (a:Int):Pc (c==0,up) (rC (M2 up) c a).cps.toList:=by
 have h:∀(up d b k:Bool),((if d then ("":Str) else ("\"\\\"\\))\"":Str))++(if k then (if b then ("\\\"":Str)++M2 up++("\"\\\"\"":Str) else ("\\\"":Str)++M2 up++("\\\\\"\\\"\"":Str))
   else (if b then ("\\":Str)++M2 up else ("\\\"\"":Str)++M2 up++("\"\"\\\"\"":Str)))).cps.toList=tT d++AC (k,up) b:=by decide +kernel
 have e:(rC (M2 up) c a).cps.toList=tT (decide ((a.fdiv 2).fmod 2=0))++AC (c==0,up) (decide (a.fmod 2=0)):=by
  refine bQ (h _ _ _ _) ?_
  unfold rC
  by_cases f:(a.fdiv 2).fmod 2=0<;>by_cases g:a.fmod 2=0<;>by_cases i:c=0<;>simp [f,g,i]
 exact ae e (TZ _ _ _)
noncomputable def Am (w:iC) (p:Nat):Kd:=(w.s.getD p 0==0,decide (p < w.m.getD p 0))
noncomputable def wt (k:Kd):Int:=if k.1 then 0 else if k.2 then 1 else -1
structure DL (x:Str):Prop where
 len:x.length<=100
 J7:∃ks,kz ks x.cps.toList/\wJ ks 0=some 0
theorem qi (a b:Str):(a++b).cps.toList=a.cps.toList++b.cps.toList:=nZ
theorem vX {t:List Nat}{ks:List Kd} (h:kz ks m) (e:x.cps.toList=m++t) (d:∀k,qs false k none t=k.reverse++t):sS x=(((wJ ks 0).bind λo=>ck false o t)==some 0):=by
 refine ah h λS a=>af a λb c=>?_
 unfold sS
 refine ae e (ae (b _ _) (ae (d _) (ae (bw _) (ae (Ic _) (ae (c _ _) rfl)))))
theorem Bj {ks:List Kd} (h:kz ks x.cps.toList):sS x=(wJ ks 0==some 0):=by
 refine ae (vX h (bw _).symm (λk=>by rw [bw];exact bw _)) ?_
 cases wJ ks 0<;>rfl
theorem DL.scan (h:DL x):sS x=true/\sS (x++("\"(":Str))=false/\sS (x++("\"()":Str))=true:=by
 refine ah h.J7 λks c=>af c λa b=>?_
 refine ⟨by refine ae (Bj a) (ae b ?_);rfl,?_,?_⟩
 ·refine ae (vX (t:=[34,40]) a (by rw [qi];rfl) λO=>rfl) (ae b ?_);rfl
 ·refine ae (vX (t:=[34,40,41]) a (by rw [qi];rfl) λO=>rfl) (ae b ?_);rfl
theorem Ka (hs:∀c∈x.cps.toList,c < 128) (a:x.length<=900) (h:B (.sw (qR x)) J):uW 36 "encode" (.str x) [] J B:=by
 refine af (zX hs) λe g=>?_
 show Ep x "encode" [] J B
 delta Ep
 refine ae (if_neg (by decide)) ?_
 refine ⟨g,?_,h⟩
 have:=congrArg bH e
 unfold nO at this
 replace this:=(bD)▸(bD)▸(bv _)▸this
 have:(qR x).size=x.length:=this
 exact au dm 7 [_,_] [] a this
theorem EO {r:Int}{t o:List Nat} (hs:∀c∈x.cps.toList,c < 128) (j:x.length<=900) (k:mM n p m) (a:x.cps.toList=m++t) (d:QL t o) (l:r=b+((n+o.count 40:Nat):Int) - ((p+o.count 41:Nat):Int)):on [.sw (qR x),.int b] (.int r):=by
 refine af (zX hs) λe O=>?_
 refine ah k λS f=>aA f λi g h=>?_;subst g;subst h
 have q:(qR x).size=x.length:=by
  have:=congrArg bH e
  unfold nO at this
  replace this:=(bD)▸(bD)▸(bv _)▸this
  exact this
 refine ⟨_,b,S++o,rfl,by exact au dm 7 [_,_] [] j q,?_,?_⟩
 ·exact ae e (ae a (i _ _ d))
 ·refine ae lx (ae lx (ae l rfl))
section
variable {L:List (Str×Nat×Sp)}{n n':Nat}{H:Hs}{σ:Sg}{Q:Bool->Hs->Prop}
theorem pA {b c:Bool}{Q:Bool->Prop} (a:L.lookup ("_check_parenthesis":Str)=some (n,x3)) (f:x.length<=800) (d:sS x=b) (e:Q (!(b==c))):
  (TL L).fn "_check_parenthesis" [.str x] λv=>((!List.any [V.str x] V.isRef) || v.uB)=true/\tU .IsNot v (.bool c) H Q:=
 ed a rfl ⟨x,rfl,f,rfl⟩ ⟨rfl,_,rfl,by exact ae d e⟩
end
noncomputable abbrev Jw (c:List Str) (w:iC) (d:Int) (a f e b:Option V) (j:Nat):Sg:=[some (.lst (gm c)),some (.lst (aE w.m)),some (.lst (aE w.s)),some (.int d),a,some (.int j),f,e,b]
theorem Fa (h:i[n]? =some x):(gm i)[n]? =some (.str x):=by
 unfold gm
 refine ae dc (ae h ?_);rfl
theorem uw (a:List Str):(gm a).length=a.length:=bv ..
structure Sq (w:iC) (ls:List Str) (j:Nat):Prop where
 n:ls.length<=6
 ml:w.m.length=ls.length
 sl:w.s.length=ls.length
 jl:j < ls.length
 mj:w.m.getD j 0 < ls.length
 s2:w.s.getD j 0=0\/w.s.getD j 0=1
 WN:(Am w (w.m.getD j 0))=(w.s.getD j 0==0,!decide (j < w.m.getD j 0))
 pc:∀i,i < ls.length->∃x,ls[i]? =some x/\Pc (Am w i) x.cps.toList
theorem Bs (h:i.length<=6) (c:i[n]? =some x) (b:g (.str x)):lf (.lst (gm i)) (.int (n:Int)) J g:=
 dL (ae (uw _) (ak aK 0 [_] [] h)) (Fa c) b
theorem oF (h:m.length<=6) (b:n < m.length) (c:g (.int (m.getD n 0:Nat))):lf (.lst (aE m)) (.int (n:Int)) J g:=
 dL (ae (bS _) (ak aK 0 [_] [] h)) (lQ b) c
theorem Pc.Hn {k:Kd} (h:Pc k x.cps.toList):x.length<=16:=by
 have:=h.len
 replace this:=(bD)▸this
 exact this
theorem WD {C:Option V}{Q:Fl->Sg->Hs->Prop} (D:L.lookup ("_check_parenthesis":Str)=some (n,x3)) (R:Sq u i p) (H:i[p]? =some x) (E:Pc (Am u p) x.cps.toList)
  (h:∀w,DL w->K (Jw i u y e (some (.int (if p < u.m.getD p 0 then 1 else -1))) (some (.str w)) C p) []):
  wpS (TL L) kb (Jw i u y e (some (.int (if p < u.m.getD p 0 then 1 else -1))) (some (.str x)) C p) [] λG s B=>match G with | none=>K s B | some v=>Q (some v) s B:=by
 have a:=E.Hn
 have l:=E.J7
 have o:Am u p=(u.s.getD p 0==0,decide (p < u.m.getD p 0)):=rfl
 have g:=R.n
 dsimp only [kb,qD,qC,qz,pw,pu,dY,kX,fR,n8,n9,bt,aU,dx,eM,df,cs,bV,c6,dB,xe]
 refine oF (by refine ae R.sl ?_;assumption) (ae R.sl R.jl) ⟨_,kO,?_⟩
 rcases R.s2 with hs | hs
 ·rw [hs] at o ⊢
  rw [show (((0:Nat):Int)==0)=true from rfl]
  dsimp only
  refine ⟨_,kO,?_⟩
  by_cases f:p < u.m.getD p 0
  ·rw [if_pos f] at h ⊢
   rw [show ((1:Int)==1)=true from rfl]
   refine ⟨λO=>?_,λq=>(dS q)⟩
   refine ah (R.pc _ R.mj) λw A=>af A λhy k=>?_
   replace k:=(decide_eq_true f)▸(hs)▸(R.WN)▸k
   replace l:=(decide_eq_true f)▸(o)▸l
   refine dM λF m=>?_
   dsimp only [bU,hW,pY,qF,oa,fH,tI,dY,x6,kr,bt,aU,iB,bK,jb,hF,iX,iW,cU,d5,m7,d4,dx,iV,eE,eA,ec,bW,cs,bV,c6,dB,fU,f6,wb]
   have d:(x++(")":Str)).length=x.length+1:=len_app _ _
   have j:(w++x).length=w.length+x.length:=len_app _ _
   have r:=k.Hn
   refine ⟨by exact au eU 15 [_,_] [] a d,m _ _ (dM λI z=>?_)⟩
   dsimp only [bU,hW,pY,qF,oa,fH,tI,dY,x6,kr,jj,eH,lN,qX,kX,fR,bt,aU,iB,bK,jb,hF,iX,iW,cU,d5,m7,d4,dx,iV,eE,eA,ec,cD,cL,eM,df,bW,cs,bV,c6,dB,wb]
   refine ⟨dD D,oF (ae R.ml g) (by exact ae R.ml R.jl) (Bs g hy (Bs g H ⟨by exact bI hG 4 [_,_,_] [] a j r,?_⟩))⟩
   refine pA (x:=w++x) D (b:=false) (c:=false) (bI hG 5 [_,_,_] [] a j r) ?_ ?_
   ·refine ae (Bj (ks:=[(true,false),(true,true)]) (by rw [qi];exact kz.app k.J7 l)) ?_;rfl
   ·refine ⟨λq=>(dk q),λO=>z _ _ (c0 (h _ ⟨by exact au eU 16 [_,_] [] a d,[(true,true),(true,false)],?_,rfl⟩))⟩
    exact ae (qi _ _) (l.app Eo)
  ·rw [if_neg f] at h ⊢
   refine ae (show ((-1:Int)==1)=false from rfl) ?_
   refine ⟨λq=>(dk q),λO=>?_⟩
   replace l:=(decide_eq_false f)▸(o)▸l
   refine ae eH ?_
   dsimp only [bU,hW,pY,qF,oa,fH,tI,dY,x6,kr,lN,qX,kX,fR,bt,aU,iB,bK,jb,hF,iX,iW,cU,d5,m7,d4,dx,iV,eE,eA,ec,cD,cL,eM,df,bW,cs,bV,c6,dB,xe]
   refine oF (ae R.sl g) (by exact ae R.sl R.jl) ⟨_,kO,λO=>?_,λq=>?_⟩
   ·refine dM λF m=>?_
    dsimp only [bU,hW,pY,qF,oa,fH,tI,dY,x6,kr,bt,aU,iB,bK,jb,hF,iX,iW,cU,d5,m7,d4,dx,iV,eE,eA,ec,bW,cs,bV,c6,dB,fU,f6,wb]
    have d:(("(":Str)++x).length=1+x.length:=len_app _ _
    refine ⟨by exact au eU 17 [_,_] [] a d,m _ _ (c0 (c0 (h _ ⟨by exact au eU 18 [_,_] [] a d,[(true,true),(true,false)],?_,rfl⟩)))⟩
    exact ae (qi _ _) (Hl.app l)
   ·replace q:=(hs)▸q;exact dS q
 ·rw [hs] at o ⊢
  refine ae (show (((1:Nat):Int)==0)=false from rfl) ?_
  dsimp only
  refine ⟨λq=>(dk q),λO=>?_⟩
  refine ae eH ?_
  dsimp only [bU,hW,pY,qF,oa,fH,tI,dY,x6,kr,lN,qX,kX,fR,bt,aU,iB,bK,jb,hF,iX,iW,cU,d5,m7,d4,dx,iV,eE,eA,ec,cD,cL,eM,df,bW,cs,bV,c6,dB,xe]
  refine oF (ae R.sl g) (by exact ae R.sl R.jl) ⟨_,kO,λq=>?_,λO=>?_⟩
  ·replace q:=(hs)▸q;exact dk q
  ·replace l:=(o)▸l
   exact c0 (c0 (h _ ⟨by exact ak e8 13 [_] [] a,_,l,rfl⟩))
theorem Pc.dep {k:Kd} (h:Pc k x.cps.toList) (d:Int):on [.sw (qR x),.int d] (.int (d+wt k)):=by
 have:=h.Hn
 refine EO h.small (ak ce 8 [_] [] this) h.RE (bw _).symm .nil ?_
 obtain ⟨a,b⟩:=k
 unfold wt
 cases a<;>cases b<;>simp<;>(exact bA fo 4 [] [_])
theorem Pc.Xc {k:Kd} (h:Pc k x.cps.toList) (d:Int):on [.sw (qR (x++("\"(":Str))),.int d] (.int (d+wt k+1)):=by
 have:=h.Hn
 have e:(x++("\"(":Str)).cps.toList=x.cps.toList++[34,40]:=qi _ _
 refine EO (o:=[34,40]) (λc f=>?_) (by refine ae (len_app _ _) ?_;show x.length+2<=_;exact ak fj 8 [_] [] this) h.RE e (.YL (.chr (by decide) (by decide) .nil) (.chr (by decide) .nil)) ?_
 ·replace f:=(e)▸f
  rcases bY.mp f with q | q
  ·exact h.small c q
  ·exact (show ∀c∈[34,40],c < 128 by decide) c q
 ·obtain ⟨a,b⟩:=k
  unfold wt
  cases a<;>cases b<;>simp<;>(first | exact bA fo 5 [] [_] | exact bA fo 6 [] [_])
theorem Nf {g r v s:Option V} (o:L.lookup ("_check_parenthesis":Str)=some (n,x3)) (d:L.lookup ("_paren_depth":Str)=some (p,on)) (R:Sq u i w) (j:i[w]? =some x) (m:Pc (Am u w) x.cps.toList)
  (h:∀C r,DL C->k none (Jw i u (y+wt (Am u w)) g r (some (.str C)) (some (.int y)) w) []):
  de (TL L) [mo,mm,kb,lp,lm,lk] (Jw i u y g r v s w) [] k:=by
 have Q:=R.n
 have A:=m.Hn
 have z:Am u w=(u.s.getD w 0==0,decide (w < u.m.getD w 0)):=rfl
 refine dM λK f=>?_
 dsimp only [mo,bU,fR,bt,aU,hF,iW,dx,eM,df,wg,cs,bV,c6,dB,fU,f6]
 have l:K (Jw i u y g (some (.int (if w < u.m.getD w 0 then 1 else -1))) v s w) []:=f _ _ (by
  refine dM λK f=>?_
  dsimp only [mm,bU,aU,dx,eM,c6,dB,fU,f6]
  refine Bs Q j (f _ _ (dM λK f=>WD o R j m λC hy=>f _ _ (dM λK f=>?_)))
  dsimp only [lp,bU,aU,c6,dB,fU,f6]
  refine f _ _ (dM λK f=>?_)
  dsimp only [lm,bU,aU,bK,dx,bW,eM,c6,dB,fU,f6]
  refine oF (ae R.sl Q) (by exact ae R.sl R.jl) ?_
  refine ae DF ?_
  have B:((u.s.getD w 0:Nat):Int)*(if w < u.m.getD w 0 then 1 else -1)=wt (Am u w):=by
   refine ae z ?_;unfold wt
   rcases R.s2 with e | e<;>refine ae e ?_<;>by_cases a:w < u.m.getD w 0<;>simp [a]
  refine ⟨pO (by rcases R.s2 with e | e<;>refine ae e ?_<;>decide +kernel),?_⟩
  refine ae B ?_
  refine f _ _ (dM λK f=>?_)
  dsimp only [lk,pt,fH,dY,jj,eH,kX,fR,n8,n9,bt,aU,cU,d4,dx,cD,cL,eM,df,ip,iq,cs,bV,c6,dB]
  refine ⟨dD o,pA o (b:=true) (c:=true) (by have:=hy.len;exact ak fj 9 [_] [] this) hy.scan.1 ?_⟩
  refine ⟨dD d,Bs Q j ⟨rfl,Ka m.small (ak ce 8 [_] [] A) (ed d rfl (m.dep y) ⟨rfl,?_⟩)⟩⟩
  refine ae xd ?_
  refine ⟨_,kO,?_⟩
  exact ae (show (y+wt (Am u w)==y+wt (Am u w))=true from beq_self_eq_true _) (⟨λq=>(dk q),λO=>f _ _ (c0 (h C _ hy))⟩))
 refine oF (ae R.ml Q) (by exact ae R.ml R.jl) ?_
 by_cases a:w < u.m.getD w 0
 ·replace l:=(if_pos a)▸l
  exact ⟨λO=>l,λq=>absurd (of_decide_eq_false q) (ak ce 9 [_,_] [] a)⟩
 ·replace l:=(if_neg a)▸l
  exact ⟨λq=>absurd (of_decide_eq_true q) (ak aK 10 [_,_] [] a),λO=>l⟩
theorem HN (x:Str) (r:List Str):nU (x::r)=x.cps.toList++nU r:=pV
theorem yk {kd:Nat->Kd}:∀(d:List Str) (o:Nat),(∀i,i < d.length->∃x,d[i]? =some x/\Pc (kd (o+i)) x.cps.toList)->
  kz ((jW o d.length).map kd) (nU d)/\(∃a b,mM a b (nU d)/\(a:Int) - b=((jW o d.length).map λi=>wt (kd i)).sum)/\(nU d).length<=16*d.length/\∀c∈nU d,c < 128
 | [],o,_=>⟨.nil,⟨0,0,.nil,rfl⟩,aD _,λO h=>nomatch h⟩
 | x::r,o,h=>by
  obtain ⟨j,⟨a,b,l,m⟩,n,s⟩:=yk r (o+1) λi v=>by
   have:=h (i+1) (Nat.succ_lt_succ v)
   exact ae (show o+1+i=o+(i+1) by exact bA bZ 4 [_,_] []) this
  refine ah (h 0 (Nat.succ_pos _)) λy g=>af g λe f=>?_
  cases e
  refine ae c9 (ae OI (ae (HN _ _) ?_))
  refine ⟨f.J7.app j,⟨_,_,f.RE.app l,?_⟩,?_,λc u=>(bY.mp u).elim (f.small c) (s c)⟩
  ·refine ae bG (ae List.sum_cons (bQ m ?_))
   show _=wt (kd (o+0))+_
   generalize kd (o+0)=k
   obtain ⟨p,q⟩:=k
   unfold wt
   cases p<;>cases q<;>simp<;>(first | exact bA fo 22 [_,_] [] | exact bA fo 23 [_,_] [])
  ·refine ae bp ?_
   have:=f.len
   exact au eY 6 [_,_,_] [] n this
noncomputable def Jv (w:iC):Bool:=decide (1<=w.m.length) && decide (w.m.length<=6) && w.s.length==w.m.length && wJ ((jW 0 w.m.length).map (Am w)) 0==some 0 && ((jW 0 w.m.length).map λi=>wt (Am w i)).sum==0 &&
 (dT w.m.length).all λj=>decide (w.m.getD j 0 < w.m.length) && decide (w.s.getD j 0 < 2) && Am w (w.m.getD j 0)==(w.s.getD j 0==0,!decide (j < w.m.getD j 0))
theorem Hj:(Ek.all Jv)=true:=by decide +kernel
def Be:Sp:=λb r=>∃(w:iC) (a:List Str) (d:Int),b=[.lst (gm a),.lst (aE w.m),.lst (aE w.s),.int d]/\w∈Ek/\a.length=w.m.length/\(∀i,i < a.length->∃x,a[i]? =some x/\Pc (Am w i) x.cps.toList)/\r=.bool true
theorem rE:∀l:List Str,V.f2 (gm l)=true
 | []=>by decide
 | x::r=>by show V.f2 (.str x::gm r)=true;rw [V.f2,rE r];rfl
theorem Hc {L:List (Str×Nat×Sp)}{n n':Nat} (B:L.lookup ("_check_parenthesis":Str)=some (n,x3)) (E:L.lookup ("_paren_depth":Str)=some (n',on)):∀vs r o,Be vs r->o r->jE (TL L) 4 qJ.length rK vs o:=by
 rintro vs r o ⟨w,m,d,rfl,hw,f,M,rfl⟩ hq
 have N:=aS.mp Hj w hw
 unfold Jv at N
 replace N:=(az _ _)▸(az _ _)▸(az _ _)▸(az _ _)▸(az _ _)▸N
 refine qO N λD u hs U hz ha=>?_
 replace D:=of_decide_eq_true D
 replace u:=of_decide_eq_true u
 replace hs:=eq_of_beq hs
 replace U:=eq_of_beq U
 replace hz:=eq_of_beq hz
 refine cu (yk (kd:=Am w) m 0 λi hi=>by exact ae (cq _) (M i hi)) λS g J g5=>aG g λa b α=>af α λg2 T=>?_
 replace T:=(hz)▸(f)▸T
 replace S:=(f)▸S
 have hR:∀j,j < m.length->Sq w m j:=λj F=>by
  have:=aS.mp ha j (eJ.mpr (f▸F))
  replace this:=(az _ _)▸(az _ _)▸this
  refine pH this λk1 k2 k3=>?_
  replace k1:=of_decide_eq_true k1
  replace k2:=of_decide_eq_true k2
  exact ⟨by exact au eY 7 [_,_] [] f u,f.symm,by exact au eY 8 [_,_,_] [] f hs,F,by exact au bq 0 [_,_,_] [] f k1,by exact ak ce 14 [_] [] k2,eq_of_beq k3,M⟩
 refine ⟨cF (rE _) (cF (cP _) (cF (cP _) rfl)),rfl,?_⟩
 show de _ [mt,mr,mq,lj,lh] [some (.lst (gm m)),some (.lst (aE w.m)),some (.lst (aE w.s)),some (.int d),none,none,none,none,none] [] _
 refine dM λK A=>?_
 dsimp only [mt,bU,bt,aU,d4,cD,cL,ip,iq,cs,bV,c6,fU,f6]
 refine ⟨rfl,J9 (l:=m) rfl (bI eS 0 [_,_,_] [] f u J) (A _ _ (dM λK A=>?_))⟩
 dsimp only [mr,qE,fH,dY,jj,eH,kX,fR,n8,n9,bt,aU,cU,d4,cD,cL,df,ip,iq,cs,bV,c6,dB]
 have Y:(⟨(nU m).toArray⟩:Str).length=(nU m).length:=Ml ..
 refine ⟨dD B,pA B (b:=true) (c:=true) (eP ee 19 [_,_,_,_] [] f u J Y) ?_ ⟨dD E,rfl,Ka g5 (eP ee 1 [_,_,_,_] [] f u J Y) (ed E rfl (EO (r:=d) g5 (eP ee 1 [_,_,_,_] [] f u J Y) g2 (bw _).symm .nil (by simp;exact ak fh 11 [_,_] [_] T)) ⟨rfl,?_⟩)⟩⟩
 ·refine ae (Bj (ks:=(jW 0 w.m.length).map (Am w)) S) (ae U ?_);rfl
 refine ae xd ?_
 refine ⟨_,kO,?_⟩
 refine ae (show (d==d)=true from beq_self_eq_true _) ?_
 refine ⟨λq=>(dk q),λO=>A _ _ (dM λK A=>?_)⟩
 dsimp only [mq,kr,aU,d5,cD,cL,oH,ir,ea,c6]
 refine ⟨rfl,?_⟩
 refine ae nR (ae (uw _) ?_)
 refine ⟨by exact au bq 15 [_,_] [] f u,aO _,by exact au eY 9 [_,_] [] f u,?_⟩
 refine ae (aZ _) ?_
 refine jD (λj σ H=>∃d s z5 Q P I,σ=[some (.lst (gm m)),some (.lst (aE w.m)),some (.lst (aE w.s)),some (.int d),s,z5,Q,P,I]/\H=[]/\
  (0 < j->∃y e,P=some (.str y)/\DL y/\I=some (.int e)/\d=e+wt (Am w (j - 1)))) _ 0 _ _ ⟨_,_,_,_,_,_,rfl,rfl,λh=>absurd h (ay _)⟩ ?_ ?_
 ·rintro j v σ H k hv ⟨d,s,z5,Q,P,I,rfl,rfl,_⟩ X _
  refine af (oD hv) λF C=>?_;subst C
  replace X:=(cq _)▸X
  exact ah (M j F) λx g=>af g λZ p=>(Nf B E (hR j F) Z p λy Q hy=>X _ _ ⟨_,_,_,_,_,_,rfl,rfl,λO=>⟨y,d,rfl,hy,rfl,rfl⟩⟩)
 ·rintro σ H ⟨d,s,z5,Q,P,I,rfl,rfl,h⟩
  replace h:=(cq _)▸(iU _)▸h
  refine aG (h (au eY 10 [_,_] [] f D)) λy e g=>cu g λC hy β γ=>?_;subst C;subst β;subst γ
  refine A _ _ (dM λK A=>?_)
  have z:=hy.len
  have l2:(y++("\"(":Str)).length=y.length+2:=len_app _ _
  have l3:(y++("\"()":Str)).length=y.length+3:=len_app _ _
  dsimp only [lj,pr,fH,dY,jj,eH,kX,fR,n8,n9,bt,aU,bK,cU,cD,cL,bW,df,cs,bV,c6,dB,wb]
  refine ⟨dD B,by exact au eY 11 [_,_] [] z l2,pA B (b:=false) (c:=false) (au eY 12 [_,_] [] z l2) hy.scan.2.1 ⟨dD B,by exact au eY 13 [_,_] [] z l3,pA B (b:=true) (c:=true) (au eY 14 [_,_] [] z l3) hy.scan.2.2 ⟨λq=>(dk q),λO=>A _ _ ?_⟩⟩⟩
  refine ah (M (m.length - 1) (bI eS 1 [_,_,_] [] f D a8)) λx g=>af g λZ p=>?_
  have G:=p.Hn
  have l4:(x++("\"(":Str)).length=x.length+2:=len_app _ _
  refine ae eH ?_
  dsimp only [lh,fH,bt,aU,bK,hF,iX,cU,d4,dx,cD,cL,bW,df,eM,wg,ip,iq,cs,bV,c6,dB,xV]
  refine ⟨dD E,⟨by refine ae (uw _) ?_;exact au bq 15 [_,_] [] f u,m.length - 1,_,?_,Fa Z,?_⟩⟩
  ·refine ae (uw _) ?_
   unfold lV
   dsimp only
   rw [if_pos (show (-1:Int) < 0 by decide),if_pos (ae (az _ _) (ae decide_eq_true_eq (ae decide_eq_true_eq (au eY 15 [_,_] [] f D))))]
   congr 1
   exact au eY 16 [_,_,_] [] rZ a8
  dsimp only [wb]
  refine ⟨by exact au eY 17 [_,_] [] G l4,rfl,Ka (λc W=>?_) (au eY 18 [_,_] [] G l4) (ed E rfl (p.Xc e) ⟨rfl,?_⟩)⟩
  ·replace W:=(qi _ _)▸W
   rcases bY.mp W with q | q
   ·exact p.small c q
   ·exact (show ∀c∈("\"(":Str).cps.toList,c < 128 by decide +kernel) c q
  refine ae ky (ae xe ?_)
  refine ⟨_,kO,_,rfl,?_⟩
  exact ae (show (e+wt (Am w (m.length - 1))+1==e+wt (Am w (m.length - 1))+1)=true from beq_self_eq_true _) hq
theorem Nd (B:Base C):hO C "_law_is_read" 46 Be:=
 iw (N:=45) (L:=[("_check_parenthesis",44,x3),("_paren_depth",42,on)]) B (by decide) (λx n a h=>by
  rcases gr h with h | h
  ·cases h;exact ⟨by decide,R6 B⟩
  ·cases ai.mp h;exact ⟨by decide,Li B⟩) Kf.yE (Hc rfl rfl)
noncomputable def JJ (a:List Int) (k:Nat):List Int:=(S3 (kA (some (k:Int)) none (some 4) a.length).1 (kA (some (k:Int)) none (some 4) a.length).2.1 (kA (some (k:Int)) none (some 4) a.length).2.2).filterMap (a[·]?)
theorem Ee (a:List Int) (k:Nat):Af (cM a) (some (k:Int)) none (some 4)=cM (JJ a k):=by
 unfold Af JJ
 refine ae (ku _) ?_
 have:(λi:Nat=>(cM a)[i]?)=λi=>(a[i]?).map V.int:=by
  funext i
  exact dc
 refine ae this ?_
 unfold cM
 refine ae List.map_filterMap rfl
noncomputable abbrev ZR (l:List (Option V)):Sg:=l++bk (18 - l.length) none
noncomputable def UT (a:List Int) (p:Nat×Int):Int:=p.2+(JJ a p.1).sum
theorem WP {Q:Fl->Sg->Hs->Prop} (l:q.length<=63)
  (h:∀a b c d:Int,K [some (.lst (cM q)),some (.lst [.int a,.int b,.int c,.int d]),none,none,none,none,none,none,none,none,none,none,none,none,none,none,none,none] []):
  wpS (TL L) xA [some (.lst (cM q)),none,none,none,none,none,none,none,none,none,none,none,none,none,none,none,none,none] [] λi e g=>match i with | none=>K e g | some v=>Q (some v) e g:=by
 dsimp only [xA,bU,bt,aU,bK,d5,iV,eE,ec,cD,cL,Ks,pC,cs,bV]
 refine ⟨by decide,?_⟩
 refine fy (λp:Nat×Int=>V.tup [.int (p.1:Int),.int p.2]) (λp=>some (.int (UT q p))) [(0,8),(1,2838),(2,83077),(3,22003)] _ _ (λp O k j=>?_) ?_
 ·dsimp only [fu,n8,n9,bt,aU,iB,bK,jb,hF,iX,iW,cU,d5,m7,d4,dx,iV,eE,eA,ec,cD,cL,Rh,T8,BE,BC,Oy,Ox,bH,bW,ir,ea,IT,ez,eN,fU,f6,c6,dB,cs,bV]
  refine ⟨λO=>⟨rfl,_,_,_,rfl,rfl,rfl,by decide,by refine ae (ku _) ?_;exact ak fj 16 [_] [] l,?_⟩,λf=>(dS f)⟩
  refine ae (Ee _ _) ?_
  exact ET j
 ·exact h _ _ _ _
theorem Ec (h:n<=9) (c:g (.int ((4:Int)^n))):hY .Pow (.int 4) (.int n) g:=by
 have a:aI (4:Int)=3:=by decide +kernel
 have b:(2:Int)^27=134217728:=by decide
 refine ⟨aO _,by refine ae a (ae b ?_);lia,?_⟩
 exact ae (aZ _) c
def Bf:Sp:=λd r=>∃a c b,d=[.str a,.int c,.int b]/\a.length<=1/\r=.str (rC a c b)
theorem JI (B:Base C):hO C "_law_piece" 42 Bf:=
 iw (N:=41) (L:=[]) B (by decide) (λO O O h=>by exact nomatch h) Kf.BM λf r a ⟨_,_,_,b,c,d⟩ e=>by
  subst b;subst d;exact He c e
noncomputable def Ed (w:iC) (c:Int) (k:Nat):Str:=rC (M2 (decide (k < w.m.getD k 0))) (w.s.getD k 0:Nat) (c.fdiv (4^k))
noncomputable def lG (w:iC) (c:Int):List Str:=(dT w.m.length).map (Ed w c)
theorem Hg:∀i,i < (lG u b).length->∃x,(lG u b)[i]? =some x/\Pc (Am u i) x.cps.toList:=by
 unfold lG
 intro i a
 replace a:=(jL)▸(bv _)▸a
 refine ae dc (ae (List.getElem?_range a) ?_)
 exact ⟨_,rfl,JH _ _ _⟩
theorem WO {R:List (List Nat)}{c d:Int}{z:List (Option V)}{Q:Fl->Sg->Hs->Prop} (A:L.lookup ("_law_piece":Str)=some (n,Bf)) (F:sd u R p) (G:z.length=12)
  (h:K (some v::some (.lst [.int y,.int b,.int c,.int d])::some (.lst (aE u.m))::some (.lst (aE u.s))::some (.int (u.m.length:Nat))::some (.lst (gm (lG u b)))::z) []):
  wpS (TL L) xz (some v::some (.lst [.int y,.int b,.int c,.int d])::some (.lst (aE u.m))::some (.lst (aE u.s))::some (.int (u.m.length:Nat))::none::z) [] λC m x=>match C with | none=>K m x | some H=>Q (some H) m x:=by
 have f:u.m.length<=6:=by have:=F.len;exact ak aK 11 [_] [] this
 have o:u.s.length<=6:=ae F.sl f
 revert h;refine Sl z G λS T U W X Y Z z8 z9 M N P=>?_;intro h
 dsimp only [xz,bU,bt,aU,bK,iW,cU,dx,ec,cD,cL,oH,pC,cs,bV,c6,dB,fU,f6]
 refine ⟨aO _,by exact ak aK 7 [_] [] f,?_⟩
 refine ae (aZ _) ?_
 refine ⟨by refine ae (iU _) ?_;exact ak aK 0 [_] [] f,?_⟩
 unfold rA
 refine fy (λi:Nat=>V.int (i:Int)) (λk=>some (.str (Ed u b k))) _ _ _ (λa E k D=>?_) ?_
 ·have j:=eJ.mp E
  dsimp only [fu,n8,n9,lN,qX,kX,fR,bt,aU,iB,bK,jb,hF,iX,iW,cU,d5,m7,d4,dx,iV,eE,eA,ec,cD,cL,BE,BC,Oy,Ox,bH,bW,eM,df,Os,ez,eN,fU,f6,c6,dB,cs,bV]
  refine ⟨λO=>⟨dD A,oF f j ?_⟩,λq=>(dS q)⟩
  dsimp only [BE,BC,c6,Os]
  have w:(4:Int)^a≠0/\((4:Int)^a).natAbs.log2 < 9000:=(show ∀q:Fin 6,(4:Int)^q.val≠0/\((4:Int)^q.val).natAbs.log2 < 9000 by decide +kernel) ⟨a,by exact au eZ 7 [_,_] [] f j⟩
  have l:∀up:Bool,up=decide (a < u.m.getD a 0)->lf (.lst (aE u.s)) (.int (a:Int)) [] λH=>lf (.lst [.int y,.int b,.int c,.int d]) (.int 1) [] λI=>hY .Pow (.int 4) (.int (a:Int)) λJ=>hY .FloorDiv I J λB=>
    (TL L).fn "_law_piece" [vw [] (.str (M2 up)),vw [] H,vw [] B] λr=>((!List.any [.str (M2 up),H,B] V.isRef) || r.uB)=true/\k (some r) []:=λup s=>by
   refine oF o (ae F.sl j) (dL (i:=1) (by show 4<=1000;decide) rfl (Ec (au eZ 8 [_,_] [] f j) ⟨w.1,w.2,?_⟩))
   refine ed A rfl ⟨_,_,_,rfl,by cases up<;>decide +kernel,rfl⟩ ⟨rfl,?_⟩
   exact ae s D
  by_cases g:a < u.m.getD a 0
  ·exact ⟨λO=>l true (decide_eq_true g).symm,λq=>absurd (of_decide_eq_false q) (ak ce 9 [_,_] [] g)⟩
  ·exact ⟨λq=>absurd (of_decide_eq_true q) (ak aK 10 [_,_] [] g),λO=>l false (decide_eq_false g).symm⟩
 ·have e:([]:List V)++(dT u.m.length).filterMap (λk=>some (V.str (Ed u b k)))=gm (lG u b):=by
   unfold gm lG
   refine ae (cV _) (ae Vy (ae List.filterMap_eq_map' ?_));rfl
  exact ae e h
structure Nums (W:Nat) (w:iC) (R:Int) (c:List Int) (k:Nat) (worth extra:Int):Prop where
 w1:10<=W
 w2:W<=4409
 r:R=2^W
 len:w.m.length=4\/w.m.length=6
 e1:o6 1 c=0
 e2:o6 2 c=2
 e3:o6 3 c=3*(k:Int)
 k8:k<=8
 l2:c.length<=w.m.length / 2+2
 d3:∀d∈c,d.natAbs<=3
 a1:1<=worth
 a2:128*worth<=R
 b1:0<=extra
 b2:16*extra < R
section
variable {W:Nat}{w:iC}{R:Int}{c:List Int}{k:Nat}{worth extra:Int}
theorem Nums.big (N:Nums W w R c k worth extra):1024<=R:=by
 have:=mY (R:=2) (by decide) N.w1
 exact ae N.r this
theorem Nums.bits (N:Nums W w R c k worth extra):aI R<=W+1:=by
 refine ae N.r ?_
 refine kv (bl (d9 _)) ?_
 refine ae (dX _ _) ?_
 have:=d9 W
 exact ak fk 2 [] [_] this
theorem Nums.O3 (N:Nums W w R c k worth extra) (n:Nat):R^n=2^(W*n):=by refine ae N.r (bQ IA rfl)
theorem Og:Dt (.tup [.int y,.int b]) (.tup [.int y,.int b]) J=some true:=by
 show (match some (y==y),pW (qo 3) [.int b] [.int b] with | some x,some a=>some (x && a) | _,_=>none)=_
 show (match some (y==y),(match some (b==b),some true with | some x,some a=>some (x && a) | _,_=>none) with | some x,some a=>some (x && a) | _,_=>none)=_
 refine ae (beq_self_eq_true _) (ae (beq_self_eq_true _) ?_);rfl
theorem rY (h:g (.int (y+b))):hY .Add (.int y) (.int b) g:=h
theorem B3 (h:g (.int (y - b))):hY .Sub (.int y) (.int b) g:=h
theorem yY (d:Zc y b) (h:g (.int (y*b))):hY .Mult (.int y) (.int b) g:=⟨d,h⟩
theorem oJ (d:b≠0) (e:b.natAbs.log2 < 9000) (h:g (.int (y.fdiv b))):hY .FloorDiv (.int y) (.int b) g:=⟨d,e,h⟩
theorem v9 (d:b≠0) (h:g (.int (y.fmod b))):hY .Mod (.int y) (.int b) g:=⟨d,h⟩
theorem Lx (f:b=n) (e:aI y*n<=134217728) (h:g (.int (y^n))):hY .Pow (.int y) (.int b) g:=by
 subst f
 have d:(2:Int)^27=134217728:=by decide
 refine ⟨aO _,by refine ae d (bQ (da _ _) ?_);exact ji.mpr e,?_⟩
 refine ae (aZ _) ?_
 exact h
theorem Ke {m:Nat} (a:0 < b) (h:b < 2^m) (x:m < 9000):b.natAbs.log2 < 9000:=by
 refine jh ((uh (au bq 10 [_] [_] a fW)).mpr (show b.natAbs < 2^m from ?_)) x
 have:=fI m
 exact eP ee 0 [_,_] [_,_] a h this fW
theorem BI {d:Type _}{a b:d}:(if 0+1+1=0+1+1 then a else b)=a:=rfl
noncomputable abbrev RW (e:V) (cl:V) (w:iC) (f g:V) (d:Int) (b:Int) (W:Nat) (R worth extra a:Int) (z:List (Option V)):Sg:=
 some e::some cl::some (.lst (aE w.m))::some (.lst (aE w.s))::some (.int (w.m.length:Nat))::some f::some (.int d)::some g::some (.int b)::some (.int (W:Nat))::some (.int R)::some (.int worth)::some (.int extra)::some (.int a)::z
theorem Oi {S cl U:V}{d:Int}{z1 z2 z3 z4:Option V}{Q:Fl->Sg->Hs->Prop} (I:L.lookup ("_divmod_pos":Str)=some (n,Fj)) (N:Nums W w R c k worth extra) (M:p=1\/p=2\/p=3) (s:o6 p c=d)
  (H:0<=d) (l:d<=24) (h:∀z,z.length=4->Q none (RW S cl w v U b y W R worth extra (o6 R c*worth+extra) z) []):
  de (TL L) [x8,x7] (RW S cl w v U b y W R worth extra (o6 R c*worth+extra) [some (.int (p:Nat)),some (.int d),z3,z4]) [] Q:=by
 have j:=N.big
 have u:=N.w1
 have f:=N.w2
 have hb:=N.bits
 have T:1<=(p:Int):=ak fk 3 [_] [] M
 have x:(p:Int)<=3:=ak fk 4 [_] [] M
 refine ah (NK (L:=w.m.length / 2+2) j T x N.l2 N.d3 s H l N.a1 N.a2 N.b1 N.b2) λa G=>bh G λX Y Z e4 e5=>?_
 have i:=N.len
 have o:w.m.length / 2+2<=5:=au dm 21 [_,_] [] i fM
 have P:d*worth<=24*worth:=bd l (by have:=N.a1;exact ak aK 1 [] [_] this)
 have hm:(((w.m.length:Nat):Int).fdiv 2+2)=((w.m.length / 2+2:Nat):Int):=by rcases i with e | e<;>refine ae e ?_<;>rfl
 have F:aI (R - p)<=W:=by
  refine kv (au dm 22 [_] [_] j x) ?_
  have:=N.r
  exact au bq 8 [_] [_,_] T this
 have D:aI (R^(w.m.length / 2+2))<=40000:=by
  refine ae (N.O3 _) ?_
  refine kv (m:=40000) (bl (d9 _)) ?_
  have:W*(w.m.length / 2+2)<=4409*5:=iN f o
  have:=mY (R:=2) (by decide) (show W*(w.m.length / 2+2)+1<=40000 by exact ak fk 5 [_] [] this)
  replace this:=(dX _ _)▸this
  have:=d9 (W*(w.m.length / 2+2))
  exact ak fk 6 [] [_] ‹_›
 have C:aI d<=64:=intBits_le_64 (ak fk 7 [] [_] H) (ak fk 8 [] [_] l)
 have J:=N.bits
 refine dM λK A=>?_
 dsimp only [x8,hW,bt,aU,bK,eA,cD,cL,bW,cs,bV,c6,dB]
 refine B3 (oJ (by decide) (by decide) (rY (Lx hm ?_ (yY (jJ F D (ak fk 9 [_] [] f)) (rY (yY (pO C) (rY ?_)))))))
 ·have:aI R*(w.m.length / 2+2)<=4410*5:=iN (au dm 23 [_,_] [] f hb) o
  exact ak fk 10 [_] [] this
 dsimp only [tG,bH,BI,ez,eN,fU,f6]
 refine ae X ?_
 refine A _ _ (dM λK A=>?_)
 dsimp only [x7,CW,fH,dY,jj,eH,fR,bt,aU,bK,cU,eA,cD,cL,bW,df,cs,bV,c6,dB,BE,BC]
 have B:(2:Int)^W=2^(W - 1)*2:=by refine bQ (dX _ _) (ae (show (W - 1).succ=W by exact au e7 0 [_,_] [] u a8) rfl)
 have E:=N.r
 have g:jS a<=W*7:=by
  refine ar (kv (m:=W*(w.m.length / 2+2+2)) (aO _) (bQ (N.O3 _) e5)) (gw _ (au e7 1 [_,_] [] o fM))
 have r:gE a W<=30:=Nat.div_le_of_le_mul (au e7 2 [_,_,_] [] g a8)
 refine ⟨dD I,B3 (ed I rfl ⟨a,R - p,W,rfl,e4,by exact ak fk 11 [_] [] u,by exact ak fk 12 [_] [] f,by exact eP ee 12 [_] [_,_,_] j x B E,by exact au bq 8 [_] [_,_] T E,by exact au e7 3 [_,_] [] f g,r,rfl⟩ ⟨rfl,B3 (B3 (oJ (au e7 4 [_] [_] j x) (Ke (m:=W) (au e7 5 [_] [_] j x) (au bq 8 [_] [_,_] T E) (ak fk 13 [_] [] f)) ?_))⟩)⟩
 exact ae xd (ae Y (ae Z ⟨true,Og,λq=>(dk q),λO=>A _ _ (c0 (h _ rfl))⟩))
end
noncomputable abbrev Hr:List (Str×Nat×Sp):=[("_law_net",42,Fi),("_law_piece",42,Bf),("_law_turns",46,xp),("_law_is_read",46,Be),("_law_ways",44,Bd),("_law_strands",44,Fh),("_digits2int",41,z0),("_divmod_pos",48,Fj)]
theorem oI {c d:Int}{i:Nat}{x:Int} (h:([V.int y,.int b,.int c,.int d]:List V)[i]? =some (.int x)) (e:g (.int x)):lf (.lst [.int y,.int b,.int c,.int d]) (.int (i:Int)) J g:=
 dL (by show 4<=1000;decide) h e
theorem Ru {R:List (List Nat)}{c d:Int}{j:List MS} (F:sd u R p) (a:u∈Ek)
  (h:∀e,de (TL Hr) j [some v,some (.lst [.int y,.int b,.int c,.int d]),some (.lst (aE u.m)),some (.lst (aE u.s)),some (.int (u.m.length:Nat)),some (.lst (gm (lG u b))),some (.int e),some (.lst jV),some (.int p),none,none,none,none,none,none,none,none,none] [] k):
  de (TL Hr) (xy::xx::xw::xv::xu::j) [some v,some (.lst [.int y,.int b,.int c,.int d]),some (.lst (aE u.m)),some (.lst (aE u.s)),some (.int (u.m.length:Nat)),some (.lst (gm (lG u b))),none,none,none,none,none,none,none,none,none,none,none,none] [] k:=by
 refine dM λK g=>?_
 dsimp only [xy,bU,bt,aU,bK,dx,bW,eM,cs,bV,c6,dB,fU,f6]
 refine oI (i:=2) rfl (oJ (by decide) (by decide) (v9 (by decide) (g _ _ ?_)))
 refine ah (p8 (code:=c.fdiv 128) (k:=32) (by decide)) λe f=>af f λo s=>?_
 replace o:(c.fdiv 128).fmod 32=e:=o
 refine ae o ?_
 refine dM λK g=>?_
 dsimp only [xx,bU,bt,aU,bK,cU,dx,cD,cL,bW,eM,cs,bV,c6,dB,fU,f6,BE,BC]
 refine ⟨dD rfl,oI (i:=2) rfl (v9 (by decide) (yY (pO (by decide +kernel)) (rY (oI (i:=2) rfl (oJ (by decide) (by decide) (v9 (by decide) (rY ?_)))))))⟩
 refine ah (p8 (code:=c) (k:=128) (by decide)) λm f=>af f λx Q=>?_
 refine ah (p8 (code:=c.fdiv 4096) (k:=32) (by decide)) λl f=>af f λr w=>?_
 replace x:c.fmod 128=m:=x
 replace r:(c.fdiv 4096).fmod 32=l:=r
 refine ae x (ae r ?_)
 refine ed (n:=46) (sp:=xp) rfl rfl ⟨3*m,e,l+1,?_,by exact ak fh 1 [_] [] Q,by exact ak fh 2 [_] [] s,by exact bA bZ 0 [_] [],by assumption,rfl⟩ ⟨rfl,g _ _ ?_⟩
 ·show [V.int (3*(m:Int)),.int e,.int ((e:Int)+1+l)]=_
  refine ae (show (e:Int)+1+l=((e+(l+1):Nat):Int) by exact bA fo 9 [_,_] []) (ae (show 3*(m:Int)=((3*m:Nat):Int) by exact bA fo 10 [_] []) rfl)
 refine dM λK g=>?_
 dsimp only [xw,Fp,fH,dY,jj,eH,lN,qX,kX,fR,n8,n9,bt,aU,cU,dx,eE,cD,cL,df,eM,CH,cs,bV,c6,dB,pC,BE,BC]
 refine ⟨false,BU,dD rfl,oI (i:=1) rfl (ed (n:=46) (sp:=Be) rfl ?_ ⟨u,lG u b,b,rfl,a,by unfold lG;refine ae (bv _) (ae jL rfl),Hg,rfl⟩ ⟨rfl,?_⟩)⟩
 ·exact cF (rE _) (cF (cP _) (cF (cP _) rfl))
 refine ae MA ?_
 refine ⟨λq=>(dk q),λO=>g _ _ (dM λK g=>?_)⟩
 dsimp only [xv,bU,aU,cU,cD,cL,c6,dB,fU,f6,BE,BC]
 refine ⟨dD rfl,ed (n:=44) (sp:=Bd) rfl ?_ ⟨u,R,p,rfl,F,rfl⟩ ⟨rfl,g _ _ (dM λK g=>?_)⟩⟩
 ·exact cF (cP _) (cF (cP _) (by decide +kernel))
 dsimp only [xu,CX,fH,dY,jj,eH,fR,bt,aU,df,cs,bV,c6,dB,HO]
 exact ⟨λq=>absurd (of_decide_eq_true q) (bA bZ 6 [_] []),λO=>g _ _ (h e)⟩
theorem Rv {R:List (List Nat)}{c d G:Int}{pc:V} (F:DM u R p q) (hq:∀L H,k (some (.bool true)) L H):
  de (TL Hr) [uP,uO,uN,uM,uL,uK] [some v,some (.lst [.int y,.int b,.int c,.int d]),some (.lst (aE u.m)),some (.lst (aE u.s)),some (.int (u.m.length:Nat)),some pc,some (.int G),some (.lst jV),some (.int p),none,none,none,none,none,none,none,none,none] [] k:=by
 have B:u.m.length<=6:=by have:=F.nf.len;exact ak aK 11 [_] [] this
 refine dM λK s=>?_
 dsimp only [uP,bU,bt,aU,bK,dx,bW,eM,cs,bV,c6,dB,fU,f6]
 refine oI (i:=3) rfl (v9 (by decide) (rY (s _ _ ?_)))
 refine ah (p8 (code:=d) (k:=4400) (by decide)) λM C=>af C λP Q=>?_
 replace P:d.fmod 4400=M:=P
 refine ae P (ae (show (10:Int)+M=((10+M:Nat):Int) by exact bA im 11 [_] []) ?_)
 generalize A:10+M=W
 have o:(1024:Int)<=2^W:=mY (R:=2) (by decide) (show 10<=W by exact ak dd 9 [_,_] [] A)
 refine dM λK s=>?_
 dsimp only [uO,bU,bt,aU,bK,bW,cs,bV,c6,dB,fU,f6]
 refine Lx rfl (ae (show aI (2:Int)=2 by decide +kernel) (au hJ 5 [_,_] [] Q A)) (s _ _ ?_)
 have γ:∀m:Int,1<=m->m<=2^W->m.natAbs.log2 < 9000:=λm m1 m2=>Ke (m:=W+1) (by assumption) (ae (dX _ _) (au hJ 6 [] [_,_] m1 m2)) (au hJ 7 [_,_] [] Q A)
 refine dM λK s=>?_
 dsimp only [uN,hW,bt,aU,bK,dx,eA,cD,cL,bW,eM,cs,bV,c6,dB]
 have U:∀m:Int,0 < m->((2:Int)^W).fdiv m=2^W / m:=λm h=>cY _ (ak ce 17 [] [_] h)
 have g:=U 128 (by decide)
 have r:=U 16 (by decide)
 refine oI (i:=3) rfl (oJ (by decide) (by decide) (oJ (by decide) (by decide) (v9 (bI hG 8 [] [_,_,_] o g pJ) (rY (oI (i:=3) rfl (oJ (by decide) (by decide) (oJ (by decide) (by decide) (v9 (bI hG 9 [] [_,_,_] o r pJ) ?_))))))))
 have I:=sC (d.fdiv 4400) (show 0 < ((2:Int)^W).fdiv 128 by exact bI cO 7 [] [_,_,_] o g pJ)
 have J:=wW (d.fdiv 4400) (show 0 < ((2:Int)^W).fdiv 128 by exact bI cO 7 [] [_,_,_] o g pJ)
 have D:=sC (d.fdiv 3) (show 0 < ((2:Int)^W).fdiv 16 by exact bI cO 8 [] [_,_,_] o r pJ)
 have E:=wW (d.fdiv 3) (show 0 < ((2:Int)^W).fdiv 16 by exact bI cO 8 [] [_,_,_] o r pJ)
 generalize (d.fdiv 4400).fmod (((2:Int)^W).fdiv 128)=e at *
 generalize (d.fdiv 3).fmod (((2:Int)^W).fdiv 16)=l at *
 dsimp only [tG,bH,BI,ez,eN,fU,f6]
 have N:Nums W u (2^W) q p (1+e) l:=⟨by exact ak dd 9 [_,_] [] A,by exact au hJ 8 [_,_] [] Q A,rfl,F.nf.len,F.e1,F.e2,F.e3,by have:=F.nf.k8;exact ak e8 23 [_] [] this,F.l2,F.d3,by exact ak gF 0 [] [_] I,by exact bI hG 10 [] [_,_,_,_] g J pJ,D,by exact bI hG 11 [] [_,_,_,_] r E pJ⟩
 clear g r I J D E P U
 generalize 1+e=e at *
 refine s _ _ (dM λK s=>?_)
 dsimp only [uM,bU,aU,bK,cU,cD,cL,bW,c6,dB,fU,f6,BE,BC]
 refine ⟨dD rfl,dD rfl,ed (n:=44) (sp:=Fh) rfl (cF (cP _) rfl) ⟨u.m,q,rfl,by have:=F.nf.len;exact ak gF 1 [_] [] this,B,F.nf.ml,F.f3,F.st,rfl⟩ ⟨rfl,?_⟩⟩
 have Y:(j1 W q).natAbs<=2^(2+q.length*(W+1)):=vR q λa hy=>ar (F.d3 a hy) (by decide)
 refine ed (n:=41) (sp:=z0) rfl (cF (kt _) rfl) ⟨q,W,2,rfl,F.l1,by have:=F.l2;exact bI hG 12 [_,_,_] [] B this fM,by exact au hJ 9 [_,_] [] Q A,by decide,λa hy=>ar (F.d3 a hy) (by decide),rfl⟩ ⟨rfl,?_⟩
 have T:q.length<=5:=by have:=F.l2;exact bI hG 13 [_,_,_] [] B this fM
 have Z:aI (j1 W q)<=30000:=by
  refine ar (gn.mpr (bL Y (uf (by decide) (dQ _)))) ?_
  have:q.length*(W+1)<=5*4410:=iN T (au hJ 10 [_,_] [] Q A)
  exact ak gF 2 [_] [] this
 have α:aI e<=W:=kv (by have:=N.a1;exact ak aK 1 [] [_] this) (by have:=N.a1;have:=N.a2;exact au hJ 11 [] [_,_] ‹_› this)
 refine yY (jJ Z α (au hJ 12 [_,_] [] Q A)) (rY (s _ _ ?_))
 refine ae (E5 _ _) ?_
 have X:=N.k8
 refine dM λK s=>?_
 dsimp only [uL,kr,bt,aU,bK,eA,cD,cL,zI,bW,cs,bV,c6,dB]
 refine yY (pO (by decide +kernel)) ?_
 dsimp only [w8]
 have hN:∀(j:Nat) (x:V),([.tup [.int 1,.int 0],.tup [.int 2,.int 2],.tup [.int 3,.int (3*(p:Int))]]:List V)[j]? =some x->∃(f:Nat) (w:Int),x=.tup [.int (f:Nat),.int w]/\(f=1\/f=2\/f=3)/\o6 f q=w/\0<=w/\w<=24
  | 0,_,rfl=>⟨1,0,rfl,.inl rfl,N.e1,by decide,by decide⟩
  | 1,_,rfl=>⟨2,2,rfl,.inr (.inl rfl),N.e2,by decide,by decide⟩
  | 2,_,rfl=>⟨3,_,rfl,.inr (.inr rfl),N.e3,by exact bA im 12 [_] [],by exact ak gF 3 [_] [] X⟩
 refine jD (λj L H=>∃z,L=RW v (.lst [.int y,.int b,.int c,.int d]) u pc (.lst jV) G p W (2^W) e l (o6 (2^W) q*e+l) z/\H=[]/\z.length=4) _ 0 _ _ ⟨_,rfl,rfl,rfl⟩ ?_ ?_
 ·rintro j x L H kk Y ⟨z,rfl,rfl,S⟩ hk _
  refine aG (hN j x Y) λf w C=>bh C λβ Q h2 h3 h4=>?_;subst β
  exact PE z S λz1 z2 z3 z4=>(Oi (z1:=z1) (z2:=z2) (z3:=z3) (z4:=z4) (n:=48) rfl N Q h2 h3 h4 λz S=>hk _ _ ⟨z,rfl,rfl,S⟩)
 ·rintro L H ⟨z,rfl,rfl,S⟩
  refine s _ _ ?_
  refine ae eH ?_
  dsimp only [uK,fH,bt,cs,bV]
  exact hq _ _
theorem NC (j:q.length<=63) (l:∀o H,k (some (.bool true)) o H):
  de (TL Hr) J0 [some (.lst (cM q)),none,none,none,none,none,none,none,none,none,none,none,none,none,none,none,none,none] [] k:=by
 show de _ [xA,Bn,Bm,xz,xy,xx,xw,xv,xu,uP,uO,uN,uM,uL,uK] _ _ _
 refine dM λK e=>WP j λa b c d=>e _ _ (dM λK e=>?_)
 dsimp only [Bn,hW,bt,aU,cU,dx,cD,cL,eM,cs,bV,c6,dB,BE,BC]
 have f:=JU a
 refine ⟨dD rfl,oI (i:=0) rfl (ed (n:=42) (sp:=Fi) rfl rfl ⟨a,rfl,rfl⟩ ⟨rfl,?_⟩)⟩
 generalize zF a=w at *
 dsimp only [tG,bH,BI,ez,eN,fU,f6]
 refine bj (Hq f) λR g p F=>?_
 refine e _ _ (dM λK e=>?_)
 dsimp only [Bm,bU,aU,d5,cD,cL,ir,ea,c6,dB,fU,f6]
 refine ⟨rfl,?_⟩
 refine ae nR (ae (bS _) ?_)
 have h:=F.nf.len
 refine ⟨by exact ak ce 0 [_] [] h,e _ _ (dM λK e=>?_)⟩
 exact WO (n:=42) (b:=b) (K:=K) (Q:=k) rfl F.nf rfl (e _ _ (Ru F.nf f λm=>Rv F l))
theorem NJ (B:Base C):∀x n a,(x,n,a)∈Hr->n+1<=59/\hO C x n a:=λx n a h=>by
 rcases gr h with h | h
 ·cases h;exact ⟨by decide,Rk B⟩
 rcases gr h with h | h
 ·cases h;exact ⟨by decide,JI B⟩
 rcases gr h with h | h
 ·cases h;exact ⟨by decide,Tl B⟩
 rcases gr h with h | h
 ·cases h;exact ⟨by decide,Nd B⟩
 rcases gr h with h | h
 ·cases h;exact ⟨by decide,Td B⟩
 rcases gr h with h | h
 ·cases h;exact ⟨by decide,Tz B⟩
 rcases gr h with h | h
 ·cases h;exact ⟨by decide,Ll B.toDO B.kd⟩
 ·cases ai.mp h;exact ⟨by decide,RX B⟩
theorem Ki (B:Base C):pa C.z 60 (.ref 186) Kj:=by
 have d:C.z.Ok:=⟨B.env.ok.FN,B.env.ok.g,B.env.ok.b,B.env.ok.lim,B.env.ok.nb,B.env.ok.bi⟩
 refine ah (FV (C:=C.z) d B.kf.Pj) λP f=>?_
 have c:=Do (W:=de (TL Hr) J0) (N:=59) d f λA s i l H M j a Q E m F h J k=>
  GZ (ae B.lo (aD _)) (PI B (NJ B)) (J2 B (by decide)) f.Me A s i l H M j a Q E m F.Wn h J λz g u L e x q r w y D=>k z g u L e x q r w.z y.z D.z
 intro A s i v n a Q E m h r b k
 refine ah b λK o=>aA o λp G I=>?_;subst p
 exact c A s i _ n a Q E m h r ⟨cF (kt K) rfl,rfl,NC G λO O=>⟨_,rfl,I⟩⟩ k
theorem Es {a:List (Addr×Addr)} (g:TabsAt a h) (f:h.IsList D j):D∉a.map (·.2):=λq=>by
 refine ah f λo b=>aA b λe i O=>?_
 refine ah (cH.mp q) λr b=>af b λL d=>?_;subst d
 replace e:=(((g r L).2))▸e
 cases e
 exact nomatch i
noncomputable def Oe (K:Frag) (a:Addr):Option iD:=match K.lookup a with
 | some o=>match o.data with
  | .func b=>some b
  | _=>none
 | none=>none
set_option tactic.hygienic true in
theorem FW {K:Frag}{P:iD->Prop} (h:(Oe K D).isSome=true) (p:P ((Oe K D).get h)):∃o b,K.lookup D=some o/\o.data=.func b/\P b:=by
 obtain ⟨b,e⟩:=ig.1 h
 have q:(Oe K D).get h=b:=Option.get_of_eq_some h e
 rw [q] at p
 unfold Oe at e
 split at e
 ·rename_i o ho
  split at e
  ·rename_i hd
   cases e
   exact ⟨o,_,ho,hd,p⟩
  ·exact bN e
 ·exact bN e
theorem Te {K:Frag}{P:Prop} (_:K.In h) (a:K0 K/\Kf K/\KG K/\KI K/\KD K) (f:K0 K->Kf K/\KG K/\KI K/\KD K->P):P:=f a.1 a.2
theorem Kz {r:RowW}{w:World}{G F:Str->Option Value}{p:mx}{E z:ExcName->Option Value}{cl:Str->Option Addr}{f:List WData}{ws:List Value}{ns:List Int}
  {K:Frag} (k:K0 K) (kf:Kf K) (kg:KG K) (ki:KI K) (kd:KD K) (KX:K.In s.heap) (u:TabsAt qp s.heap) (T:Top p i E G F s.heap) (hg:s.gens=#[])
  (H:∀(C:Cx),Base C->pa C.z 60 (.ref 186) Kj)
  (hr:∀J,r.claim.raises f J=false) (x:r.claim.post f (.bool true) f=true)
  (Y:s.heap.IsList D ws.toArray) (Z:Well w.params s.heap (.ref D) (ofPy (S6 (ey HW ns)))) (hi:Vv ws ns) (hn:ns.length<=63):
  wpAny (model r.prog w) callerA (call (.ref 186) [.ref D]) (λv I=>GoodWG r.claim cl z f s (.ok (.ret v)) I) Q s:=by
 have B:Base (UO K r.prog w s.heap G F):=⟨UW k KX u T,kf,kg,ki,kd⟩
 have X:=H _ B
 have L:∀b o,b∉qp.map (·.2)->s.heap.get? b=some o->(ghostOf s.heap qp).get? b=some o:=λb o L e=>ghost_ne e L
 have S:=Es u Y
 refine ah Y λoL d=>aA d λeL hc W=>ah W λk hd=>?_
 obtain ⟨k,eW⟩:∃k,s.heap.get? D=some (listOf ws.toArray k):=by
  rw [show ofPy (S6 (ey HW ns))=.list (ofPys (ey HW ns)) by rw [ofPy]] at Z
  cases Z with
  | list e _=>
   have M:=e
   replace M:=(eL)▸M
   cases M
   cases hd
   exact ⟨_,e⟩
 have P:Hp (UO K r.prog w s.heap G F).z (UO K r.prog w s.heap G F).tb s [] []:=
  ⟨⟨λb o e=>of_hideAll _ e,λq m=>⟨#[],(u q m).2,(by unfold xg;trivial),λα cv e=>by simp [qj] at e⟩,dN (hideAll_size _ _)⟩,rfl,ef,λn a vs e=>by simp at e,by exact nofun,
   λa ha=>by
    refine ah (cH.mp ha) λq d=>af d λm l=>?_;subst l
    exact bF (u q m).2,λa h=>h,eB _⟩
 refine X callerA s _ [.lst (ns.map V.int)] [.ref D] (λv=>v=.bool true) _ Q ⟨rfl,by decide,by decide⟩ P ?_ ⟨ns,rfl,hn,rfl⟩ λv rv I hv U P' g=>?_
 ·refine Rs.one (R.td.mpr ⟨D,ws.toArray,k,rfl,S,by exact aC,eW,?_⟩)
  exact FJ hi
 ·subst hv
  have U:=R.Lw.mp U
  subst U
  have y:∀b o,b∉qp.map (·.2)->s.heap.get? b=some o->I.heap.get? b=some o:=λb o L e=>g.keep b o e aC aC L
  have j:∀b o,b∈qp.map (·.2)->s.heap.get? b=some o->isCodeTable s.heap b/\o=tabObj #[]/\∃A,I.heap.get? b=some (tabObj A):=λb o L e=>by
   refine ah (cH.mp L) λq d=>af d λm l=>?_;subst l
   have N:=(u q m).2
   replace N:=(e)▸N
   exact ah (P'.gd.tabs q m) λA d=>af d λe3 O=>⟨((u q m).1.tab (u q m).2).isCodeTable,aN N,A,e3⟩
  refine ⟨.inl ⟨_,_,[],rfl,hr,ReadsW.bool true,x,λO=>⟨ef,λO hm=>nomatch hm⟩⟩,⟨λb o e=>?_,λb o e=>?_⟩,g.os,g.bare (ae hg AllBare.empty)⟩
  ·by_cases L:b∈qp.map (·.2)
   ·refine aA (j b o L e) λht l d=>ah d λA c=>?_;subst l
    exact .inr (.inl ⟨ht,rfl,#[],A,rfl,by exact ae IE c⟩)
   ·exact .inl (y b o L e)
  ·by_cases L:b∈qp.map (·.2)
   ·exact aA (j b o L e) λO O d=>ah d λA c=>⟨_,c⟩
   ·exact ⟨o,y b o L e⟩
set_option maxHeartbeats 8000000
noncomputable def hd.tw13882952253671465550:mx:=kW
theorem hd.te13882952253671465550:kW=hd.tw13882952253671465550:=rfl
set_option tactic.hygienic true in
set_option Elab.async true in
theorem hd:S7.Holds:=by
 w_on
 o_law
 k_head
 (case hw=>w_witness2)
 intro w u i s Z G Y y o pm P x Q W ho m l z a H r v N f e p q n
 have b:=km_in_of Y
 have c:=km_tabs_of Y
 clear l m z
 replace a:s "law"=some (.ref y):=a
 refine Ground.open G ?_
 intro T B D K M
 wrow_args f e p q n
 refine Te b ?_ λk g=>?_
 ·refine ⟨⟨by kernel_rfl,λh X=>⟨_,_,_,_,X 36 _ rfl,rfl,rfl,⟨_,_,_,rfl⟩,X 35 _ rfl,rfl,by kernel_rfl⟩,by kernel_rfl,by kernel_rfl,by kernel_rfl,⟨_,rfl⟩,⟨_,rfl,by decide⟩,⟨_,rfl,by decide⟩,by kernel_rfl,by kernel_rfl⟩,by constructor<;>exact ⟨by kernel_rfl,FW (by kernel_rfl) (by constructor<;>first | kernel_rfl | (repeat refine ND λO=>?_);exact SJ λS=>by kernel_rfl)⟩,⟨by kernel_rfl,FW (by kernel_rfl) (by constructor<;>first | kernel_rfl | (repeat refine ND λO=>?_);exact SJ λS=>by kernel_rfl)⟩,⟨by kernel_rfl,FW (by kernel_rfl) ⟨by constructor<;>first | kernel_rfl | (repeat refine ND λO=>?_);exact SJ λS=>by kernel_rfl,by kernel_rfl,by kernel_rfl,by kernel_rfl⟩⟩,⟨by kernel_rfl,FW (by kernel_rfl) ⟨by constructor<;>first | kernel_rfl | (repeat refine ND λO=>?_);exact SJ λS=>by kernel_rfl,by kernel_rfl,by kernel_rfl,by kernel_rfl⟩⟩⟩
 ·have j:TabsAt qp i.heap:=ni.mpr ⟨⟨codeHd_of_K b k.c1,c _ (by simp)⟩,ni.mpr ⟨⟨codeHd_of_K b k.c2,c _ (by simp)⟩,λO h=>nomatch h⟩⟩
  have d:s "law"=some (.ref 186):=mg_of b T.g g.1.Pj.1
  rw [a] at d
  cases d
  rename_i I _ _ _ _ _ _ _ L J _ E _ F _ A _ U _
  exact Kz (ns:=I) (ws:=J) k g.1 g.2.1 g.2.2.1 g.2.2.2 b j T H (λC B=>Ki B) (λO=>rfl) (by wrow_post) E F A (by lia)
end Mine.Internal
theorem PySem.Challenge.cw_wv0019_01_holds : PySem.Challenge.rw_wv0019_01.Holds :=
 Mine.Internal.hd
