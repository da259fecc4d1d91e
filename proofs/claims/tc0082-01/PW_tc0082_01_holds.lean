import PyProof.Rows.All
import Wide.All
import OpenK.AllK
import Wide.FinOn
import Lean
import PySem.Challenge.RW_tc0082_01
set_option Elab.async false
set_option tactic.hygienic false
set_option linter.all false
set_option maxRecDepth 100000
set_option genSizeOf false
namespace Mine.Internal
local macro_rules |`(⋯)=>`(by kernel_rfl)
local macro_rules |`(command|def $n:declId $s:optDeclSig $v:declVal)=>`(command|noncomputable def $n:declId $s:optDeclSig $v:declVal)
open And renaming intro->oj
open Array renaming length_toList->pu,getElem?_toList->re,getElem?_eq_none->Q9,toList_inj->Rx,getElem?_setIfInBounds_ne->afp,getElem?_eq_some_iff->afx,toList_append->afZ,forIn_toList->af9,toList_push->agf
open Bool renaming false_eq_true->kJ,and_eq_true->lI,and_eq_true_iff->rh,not_eq_true'->vo,and_true->vt,noConfusion->xm,eq_iff_iff->Ad,or_eq_false_iff->Dl,and_false->DK,true_and->DL,not_true->DM,or_false->Jz,false_ne_true->Rn,or_eq_true->RK,not_false->RO,false_and->RP,or_eq_true_iff->af8
open Classical renaming em->lM,byContradiction->II
open Decidable renaming byContradiction->QZ
open Eq renaming trans->ao,symm->aT
open False renaming elim->tA
open ForInStep renaming yield->Jj
open Int renaming natCast_nonneg->cz,le_trans->cD,ofNat_le->eP,natCast_add->fg,ofNat_lt->gI,toNat_natCast->ip,one_mul->ju,fmod_nonneg_of_pos->jQ,fmod_eq_emod_of_nonneg->kH,le_of_lt->kM,fmod_lt_of_pos->mJ,fdiv_eq_ediv_of_nonneg->pp,not_lt->pE,toNat_of_nonneg->ri,natCast_mul->rm,ofNat_sub->ro,eq_ofNat_of_zero_le->sX,lt_of_le_of_lt->td,natCast_zero->tl,add_zero->tw,add_mul->tz,add_sub_cancel->vm,natCast_emod->vp,natCast_pos->vr,zero_mul->vu,le_refl->vv,mul_fdiv_add_fmod->xc,toNat_lt->xx,lt_trans->xy,not_le->xC,sign_eq_one_iff_pos->zX,lt_of_lt_of_le->z6,zero_add->Ao,ne_of_gt->Ap,ofNat->At,sub_nonneg_of_le->Do,add_le_add_right->Dp,sub_add_cancel->Du,add_assoc->DP,sub_zero->DU,mul_zero->DV,add_comm->DW,mul_add->D1,add_mul_emod_self_left->IJ,sub_eq_iff_eq_add->IR,add_right_comm->Jb,zero_le_ofNat->Ji,natCast_ediv->Jn,sub_le_self->Js,neg_one_mul->Ju,neg_neg->JJ,emod_add_emod->Rw,neg_fdiv_neg->RE,lt_irrefl->RR,mul_comm->RU,fmod_def->RV,neg_mul->RZ,neg_add->R2,mul_sub->R3,natCast_ne_zero_iff_pos->afA,add_le_of_le_sub_right->afD,le_sub_left_of_add_le->afG,le_ediv_iff_mul_le->afT,mul_ediv_add_emod->afX,add_mul_fdiv_left->afY,sub_le_sub_right->af6,neg_le_of_neg_le->af7,natAbs_natCast->agl,sub_pos_of_lt->agt,emod_eq_of_lt->agu,add_left_comm->agv,natCast_succ->agE,max_eq_right->agF,natCast_pow->agL,le_antisymm->agM,neg_le_neg->agP,natAbs_neg->agQ,add_lt_add->agR,add_le_add->agS,toNat_sub->agY,sub_self->ag4,ne_of_lt->ag5,le_of_eq->ag6,sub_neg->ag9,sub_mul->ag_,negSucc->ag',mul_neg->aha
open Int.ofNat renaming inj->Jt
open List renaming range->aG,length_map->ba,mem_range->bI,length_append->cb,mem_cons->cc,mem_cons_of_mem->cf,sum_cons->cg,mem_cons_self->ch,replicate->cC,all_eq_true->cF,contains_iff_mem->cN,map_cons->cO,map_map->cP,length_range->cV,lookup_cons->dp,getD_eq_getElem?_getD->dD,map_append->ei,mem_map->eH,length_cons->ff,append_assoc->gE,not_mem_nil->gG,getElem?_eq_getElem->gU,length_replicate->gV,append_nil->gW,getElem?_map->i7,mem_append->jr,length_drop->jR,mem_filter->jT,map_congr_left->lH,length_take->mK,map_eq_nil_iff->oa,filter_cons->pA,nil_append->rj,length_filter_le->sY,mem_of_mem_take->sZ,length_take_le->ta,nodup_cons->tn,foldl_cons->to,map_take->tu,getElem?_eq_none->vi,mem_singleton->vj,mem_filterMap->vk,size_toArray->vn,range_succ->vq,take_of_length_le->xb,mem_of_getElem?->xd,foldl_append->xg,map_fst_zip->xi,getElem_mem->xj,getElem_map->xk,find?_cons->xq,map_drop->xt,length->xA,mem_of_mem_drop->zZ,mem_replicate->z5,mem_reverse->z',length_nil->Ac,mem_of_find?_eq_some->Dg,map_eq_cons_iff->Dj,forall_mem_cons->Dk,sum_append_nat->Dq,mem_map_of_mem->Dr,getElem?_range->Ds,eraseDups_cons->Dt,flatten_cons->Dw,cons_append->Dy,forIn_cons->DE,drop_drop->DJ,map_nil->DS,eq_nil_of_length_eq_zero->IH,length_eq_zero_iff->IK,filter_eq_self->IW,pairwise_cons->IY,getElem_range->IZ,map_inj_left->Jc,mem_flatMap->Jk,drop_zero->Jv,contains->Jy,range'->JF,getElem?_append_left->Q1,perm_cons_erase->Rh,mem_append_left->Ri,length_zipWith->Rk,length_reverse->Rl,map_replicate->Rm,reverse_cons->Rq,mem_flatten->Ry,map_reverse->RA,ext_getElem->RB,sum_append->RI,length_set->RJ,range_add->RN,drop_nil->RQ,filter->RW,map->R4,getElem?_append_right->afz,getElem?_eq_some_iff->afB,drop_eq_getElem_cons->afC,getElem_of_getElem?->afF,filter_append_perm->afI,flatten_singleton->afM,filter_eq_nil_iff->afN,drop_eq_nil_of_le->afO,mem_append_right->afR,eq_replicate_iff->afS,range_eq_range'->afV,contains_eq_mem->afW,replicate_succ->af3,flatten_append->af4,filterMap_cons->af5,lookup_append->agb,filter_append->agc,contains_cons->agd,contains_nil->agk,range'_succ->agp,map_flatMap->agq,countP_cons->agr,any_toArray->ags,take_zero->agH,nodup_nil->agI,forIn_nil->agJ,filterMap->agK,take_add->agO,zipWith->agV,map_set->agW,flatMap->agX,foldl->ag8
open List.cons renaming inj->DI
open Nat renaming le_trans->aD,le_of_lt->cG,lt_of_lt_of_le->cZ,zero_le->du,le_succ->dX,le_of_eq->ej,le_refl->eI,ne_of_lt->eO,add_assoc->gH,lt_of_le_of_lt->im,min_eq_left->iq,add_le_add->ir,zero_add->i8,sub_le->i_,beq->jb,add_right_comm->jq,add_comm->jt,not_lt->jV,add_sub_of_le->kK,add_le_add_right->lF,succ_le_succ->lJ,le_add_right->lK,lt_irrefl->mL,mod_lt->mP,add_le_add_left->oe,mul_add->oh,max_le->oi,eq_of_beq_eq_true->rg,mul_le_mul_right->s_,le_of_succ_le->th,le_of_not_lt->tj,mul_comm->tv,sub_add_cancel->vl,div_lt_of_lt_mul->xe,lt_of_lt_of_eq->xf,le_max_right->xn,le_max_left->xr,mul_zero->xw,mul_one->xB,blt->xE,sub_le_sub_right->z0,sub_pos_of_lt->z8,le_add_left->Ae,mul_le_mul->Ai,sub_zero->An,pow_le_pow_right->Dm,le_sub_of_add_le->Dn,add_left_comm->Dx,max_eq_right->DC,le_antisymm->DF,two_mul->DZ,pow_add->D0,sub_lt->D3,le_of_add_right_le->IN,sub_le_iff_le_add->IP,add_lt_of_lt_sub'->IQ,mul_le_mul_left->IX,add_sub_cancel->Ja,pos_of_neZero->Jf,lt_succ_of_lt->Jg,le_succ_of_le->Jh,div_eq_of_lt->Jm,not_lt_zero->Jp,max_eq_left->Jq,div_le_self->Jr,pow_zero->JC,min_self->JD,lt_asymm->JE,one_mul->JH,mul_two->JI,add_sub_cancel_left->Q8,sub_add_sub_cancel->Q_,lt_of_succ_lt_succ->Ra,sub_lt_iff_lt_add->Rd,lt_of_sub_eq_succ->Re,le_div_iff_mul_le->Rf,add_lt_add_right->Rj,zero_lt_of_lt->Rt,lt_succ_of_le->Ru,le_of_lt_succ->Rv,zero_lt_succ->RD,two_pow_pos->RL,div_add_mod->RM,succ_pos->RS,sub_self->RT,one_pos->RX,add_mul->RY,testBit_mul_two_pow->afK,testBit_div_two_pow->afL,sub_le_iff_le_add'->afP,lt_of_add_right_lt->afQ,not_succ_le_self->af0,eq_of_testBit_eq->af1,add_max_add_left->af2,lt_mul_div_succ->af',add_lt_add_left->aga,pos_of_ne_zero->agi,lt_of_le_of_ne->agj,lt_trichotomy->agn,add_pos_right->ago,succ_ne_zero->agx,succ_lt_succ->agy,mod_eq_of_lt->agz,min_le_right->agA,lt_succ_self->agB,lt_of_not_le->agC,lt_add_right->agD,mod_add_div->agG,lt_one_iff->agN,ne_of_lt'->agU,succ_mul->ag0,ne_of_gt->ag1,lt_trans->ag2,add_zero->ag3,div_one->ag7
open Nat.ToInt renaming of_diseq->IU
open Nat.succ renaming inj->mM
open Ne renaming symm->lP
open Option renaming isNone_iff_eq_none->jp,map->mO,bind->rp,isSome_iff_exists->Dh,bind_some->Ro,getD_none->af_,map_some->agh
open Option.some renaming inj->av,injEq->afE
open Or renaming elim->vx
open Prod.mk renaming inj->xz
open PyProof renaming noPylong_small->Q6
open PyProof.Rows renaming seqObj->f8,subscriptTail->Ak,evalArgs_kw2->DY,callWith_type1->afk,eq_int->afv,xor_int->ahH,sub_int->ahI,sorted_ints->ahJ,rshift_int->ahK,pow_int_small->ahL,ne_int->ahM,mul_int->ahN,mod_int'->ahO,lshift_int_small->ahP,len_tuple->ahQ,irshift_int->ahR,invert_int->ahS,ilshift_int->ahT,getItem_tuple->ahU,floordiv_int->ahV,evalArgs_none->ahW,add_str->ahX,add_int->ahY
open PySem renaming Value->ar,Addr->aw,Shared->aB,Scope->aH,wpAny_bind->aP,model->bp,wpAny->bt,wpAny_pure->bz,eval->bQ,Heap->bT,Arguments->cH,wpAny_mono->db,rawInt->dc,Flow->dk,Around->dQ,codeAny->eV,Comprehension->fG,strIterType->fR,mainGlobals->fS,cellsFrom->fT,builtinsNs->fZ,Keyword->gY,wpAny_items_cons->iK,wpAny_holding->iL,pyNext->iM,Operator->ja,Fin->jW,starEach->jX,wpAny_standAt->kL,keywordEach->kP,DictEntry->kQ,backToKw->kR,mem_of_lookup->lL,sizeLine_eq->lN,partValue->lO,BindsTo->lQ,wpAny_field->mN,Result->mQ,wpAny_items_nil->og,wpAny_assign_Name->pw,seg_bind_wrap->pD,storeName->pF,relabel->pG,seg_execs_cons->rn,seqIndex?->rq,sizeLine->rr,NameKind->rs,GenState->ru,wpAny_execs_cons->tm,wpAny_call->tB,noteFrame->tE,FuncData->tF,arm_eval_Constant->xh,wpAny_call_entry->xp,pushCells->xD,wpAny_callSpecial?_slot->zY,wpAny_Call_ofName->z9,wpAny_Assign_Name->z_,theTreesLotGoes->Ag,assignInOrder->Am,wpAny_of_eq->Aq,interactive->Ar,wpAny_rule->As,wpAny_truthy_bool->Dz,wpAny_newObj_type->DA,wpAny_setField->DN,wpAny_mkText->DX,wpAny_storeName_local->IV,letOwnedTupleGo->Jw,codeAny_of_tree->Jx
open PySem.Around renaming under_of_weight->IM,frames_deeper->Rb
open PySem.BindsTo renaming of_defaults->Rg
open PySem.Builtin renaming bitXor->RF,bitAnd->RG,bitOr->agw
open PySem.Builtin.Int renaming intBits->lG
open PySem.Builtin.List renaming listFitsIndex->De,listSubscript?->afl,listExtendWith->afm,listTooLong->afn,listSameRef->afo,listItems->afq,listUpdate->ahZ
open PySem.Builtin.Range renaming rangeSize->sW,small->Q7,rangeFitsLong->afi
open PySem.Builtin.SmallTypes renaming nextOf->QX
open PySem.Builtin.Str renaming strSliceIndices->QY,glued->ah1
open PySem.Calls renaming Name_function_global->Df,loadGlobal_builtin->Di,loadGlobal_global->afH,callWith_builtin->afJ,call_len_list->ah0
open PySem.Data renaming noConfusion->jS
open PySem.Data.fields renaming inj->pB
open PySem.Expr renaming casesOn->jU
open PySem.Expr.Attribute renaming elim->Q5
open PySem.Expr.BinOp renaming elim->Je
open PySem.Expr.IfExp renaming elim->Jd
open PySem.Expr.List renaming elim->DD
open PySem.Expr.Name renaming elim->Jo
open PySem.Expr.Subscript renaming elim->Q4
open PySem.F renaming slot_range_iterator_next->afj,slot_list_reverse->afr,plain_extend_loop->afs,slot_list_insert->afu,slot_str_ascii_iterator_next->afw,plainAttrs_list->afy,slot_str_iterator_next->afU,slot_enumerate_next->age,slot_int_rmul->agZ
open PySem.Heap renaming get?_push_size->eF,lt_size->fQ,get?_push_of_some->iJ,get?_none_of_le->n_,get?_update_self->pq,get?_update_other->rd,SameBut->xu,size_push->Ah,ExtBut->JG,get?_push_ne->agm
open PySem.Heap.SameBut renaming update->pr
open PySem.Keeper renaming boundFrame->Dv,machine->DG,frame->DR
open PySem.NameKind renaming free->tq,cell->RH
open PySem.Obj renaming mapSeq->dj,mapFields->DO,data->D4,data_mapFields->I_,isFreed_of_fields->Rc,cls_mapFields->Rs
open PySem.P renaming eq_str->RC,lt_int->agg
open PySem.PyData renaming eqv->i9,eqvAll->pC,int->vw,canLayAll0->z7,depthAll->Aa,canLay0->Af,depth->Aj,strOk->DQ,tuple->JA,list->JB,str->agT
open PySem.SeqAt renaming shaped->gX
open PySem.Stmt.AugAssign renaming elim->Q3
open PySem.Stmt.Expr renaming elim->Jl
open PySem.Stmt.FunctionDef renaming elim->Q0
open PySem.Str renaming ofString->DT
open PySem.Value renaming noConfusion->bS,ref->tC,int->tD,type->D2
open PySem.Value.ref renaming inj->DH
open PySem.Value.type renaming inj->Ab
open PySem.W renaming tabObj->is,findCls->DB
theorem aA{c:Prop}{h:Decidable c}(hc:c){α:Sort _}{t e:α}:(ite c t e)=t:=if_pos hc
theorem aJ{c:Prop}{h:Decidable c}(hc: ¬c){α:Sort _}{t e:α}:(ite c t e)=e:=if_neg hc
theorem aR{α β:Sort _}{a b:α}(f:α->β)(h:a=b):f a=f b:=congrArg f h
theorem bh{p:Prop}[i:Decidable p](h:p):decide p=true:=decide_eq_true h
theorem bu{p:Prop}[i:Decidable p](h:decide p=true):p:=of_decide_eq_true h
theorem bx{a b:Prop}(h:a)(k: ¬a):b:=absurd h k
theorem cA{p:Prop}[i:Decidable p](h: ¬p):decide p=false:=decide_eq_false h
theorem cW{α:Type _}{a b:α}(h:a∈[b]):a=b:=List.mem_singleton.mp h
theorem dd{α:Type _}{l:List α}(h:l.isEmpty=true):l=[]:=List.isEmpty_iff.mp h
theorem dq{α:Type _}[BEq α][LawfulBEq α]{a b:α}(h:a≠b):(a==b)=false:=beq_eq_false_iff_ne.mpr h
open PySem PySem.W PyProof.Rows
theorem oA{A B P:Prop}(h:A/\B)(k:A->B->P):P:=k h.1 h.2
theorem oE{α:Type}{A:α->Prop}{P:Prop}(h:∃x,A x)(k:∀x,A x->P):P:=h.elim λx h=>k x h
theorem c_{A B C P:Prop}(h:A/\B/\C)(k:A->B->C->P):P:=k h.1 h.2.1 h.2.2
theorem br{α:Type}{A B:α->Prop}{P:Prop}(h:∃x,A x/\B x)(k:∀x,A x->B x->P):P:=h.elim λx h=>k x h.1 h.2
theorem wx{α β:Type}{A:α->β->Prop}{P:Prop}(h:∃x y,A x y)(k:∀x y,A x y->P):P:=h.elim λx h=>h.elim λy h=>k x y h
theorem v_{A B C D P:Prop}(h:A/\B/\C/\D)(k:A->B->C->D->P):P:=k h.1 h.2.1 h.2.2.1 h.2.2.2
theorem eW{α:Type}{A B C:α->Prop}{P:Prop}(h:∃x,A x/\B x/\C x)(k:∀x,A x->B x->C x->P):P:=h.elim λx h=>k x h.1 h.2.1 h.2.2
theorem gb{α β:Type}{A B:α->β->Prop}{P:Prop}(h:∃x y,A x y/\B x y)(k:∀x y,A x y->B x y->P):P:=h.elim λx h=>h.elim λy h=>k x y h.1 h.2
theorem oM{α β γ:Type}{A:α->β->γ->Prop}{P:Prop}(h:∃x y z,A x y z)(k:∀x y z,A x y z->P):P:=h.elim λx h=>h.elim λy h=>h.elim λz h=>k x y z h
theorem OE{α:Type}{A P:Prop}{B C:α->Prop}(h0:A/\∃x,B x/\C x)(k:A->∀x,B x->C x->P):P:=Exists.elim h0.2 λx h1=>k h0.1 x h1.1 h1.2
theorem NG{A B C D F P:Prop}(h:A/\B/\C/\D/\F)(k:A->B->C->D->F->P):P:=k h.1 h.2.1 h.2.2.1 h.2.2.2.1 h.2.2.2.2
theorem oG{α β:Type}{A B C:α->β->Prop}{P:Prop}(h:∃x y,A x y/\B x y/\C x y)(k:∀x y,A x y->B x y->C x y->P):P:=h.elim λx h=>h.elim λy h=>k x y h.1 h.2.1 h.2.2
theorem j_{α β γ:Type}{A B:α->β->γ->Prop}{P:Prop}(h:∃x y z,A x y z/\B x y z)(k:∀x y z,A x y z->B x y z->P):P:=h.elim λx h=>h.elim λy h=>h.elim λz h=>k x y z h.1 h.2
theorem Fe{α β:Type}{A B C D:α->β->Prop}{P:Prop}(h:∃x y,A x y/\B x y/\C x y/\D x y)(k:∀x y,A x y->B x y->C x y->D x y->P):P:=h.elim λx h=>h.elim λy h=>k x y h.1 h.2.1 h.2.2.1 h.2.2.2
theorem je{α β γ:Type}{A B C:α->β->γ->Prop}{P:Prop}(h:∃x y z,A x y z/\B x y z/\C x y z)(k:∀x y z,A x y z->B x y z->C x y z->P):P:=h.elim λx h=>h.elim λy h=>h.elim λz h=>k x y z h.1 h.2.1 h.2.2
theorem MI{α β γ δ:Type}{A B:α->β->γ->δ->Prop}{P:Prop}(h:∃x y z u,A x y z u/\B x y z u)(k:∀x y z u,A x y z u->B x y z u->P):P:=h.elim λx h=>h.elim λy h=>h.elim λz h=>h.elim λu h=>k x y z u h.1 h.2
theorem Bk{α:Type}{A B P:Prop}{C D F:α->Prop}(h0:A/\B/\∃x,C x/\D x/\F x)(k:A->B->∀x,C x->D x->F x->P):P:=Exists.elim h0.2.2 λx h1=>k h0.1 h0.2.1 x h1.1 h1.2.1 h1.2.2
theorem EO{α β γ:Type}{A B C D:α->β->γ->Prop}{P:Prop}(h:∃x y z,A x y z/\B x y z/\C x y z/\D x y z)(k:∀x y z,A x y z->B x y z->C x y z->D x y z->P):P:=h.elim λx h=>h.elim λy h=>h.elim λz h=>k x y z h.1 h.2.1 h.2.2.1 h.2.2.2
theorem KK{α β:Type}{A B C D F G:α->β->Prop}{P:Prop}(h:∃x y,A x y/\B x y/\C x y/\D x y/\F x y/\G x y)(k:∀x y,A x y->B x y->C x y->D x y->F x y->G x y->P):P:=h.elim λx h=>h.elim λy h=>k x y h.1 h.2.1 h.2.2.1 h.2.2.2.1 h.2.2.2.2.1 h.2.2.2.2.2
theorem Et{α β γ δ:Type}{A B C D:α->β->γ->δ->Prop}{P:Prop}(h:∃x y z u,A x y z u/\B x y z u/\C x y z u/\D x y z u)(k:∀x y z u,A x y z u->B x y z u->C x y z u->D x y z u->P):P:=h.elim λx h=>h.elim λy h=>h.elim λz h=>h.elim λu h=>k x y z u h.1 h.2.1 h.2.2.1 h.2.2.2
inductive PV where
 |none
 |bool (b:Bool)
 |int (i:Int)
 |str (x:Str)
 |list (vs:List PV)
 |tup (vs:List PV)
 |ey (a b c:Int)
 |fn (n:Str)
 |cls
 |blt (n:Str)
 |inst (fs:List (Str×PV))
 |lam (args:cH) (body:Expr) (scope:aH) (cJ:List (Str×PV))
 |gc (args:cH) (body:List Stmt) (scope:aH)
 |exc (msg:Str)
noncomputable abbrev aa:=List Nat
noncomputable abbrev ab:=List PV
noncomputable abbrev ac:=List Int
noncomputable abbrev ad:=List Stmt
noncomputable abbrev af:=List Str
noncomputable abbrev ag:=Option PV
noncomputable abbrev ah:=List Expr
noncomputable abbrev ai:=Option ar
noncomputable abbrev aj:=Array ar
noncomputable abbrev ak:=aB->Prop
noncomputable abbrev al:=aw->Prop
noncomputable abbrev am:=Str->ai
theorem eT{α:Type}{M:Model}{A:dQ}{t t':Sem α}{Q:α->ak}{E:ar->ak}{s:aB}(h:t=t')(k:bt M A t' Q E s):bt M A t Q E s:=h.symm▸k
theorem aK{α:Type}{a:α}{P:Prop}(h:(none:Option α)=some a):P:=nomatch h
theorem dg{T α:Type}{C:T->Prop}{e:T}{n:Nat}{ix:T->Nat}{o:ix e=n->Option α}{d:Option α}{a:α}(h:(if hc:ix e=n then o hc else d)=some a)(k:∀hc,o hc=some a->C e)(k2:d=some a->C e):C e:=if hc:ix e=n then k hc ((dif_pos hc).symm.trans h)else k2 ((dif_neg hc).symm.trans h)
section
variable{α:Type}{d:Option α}{e:Expr}{C:Expr->Prop}
def BD(e:Expr)(f:BoolOp->ah->Pos->Option α)(d:Option α):Option α:=if h:e.ctorIdx=0 then Expr.BoolOp.elim (motive_1 :=λz=>Option α) e h f else d
@[elab_as_elim] theorem Fg (h:BD e f d=some z) (k:∀u1 u2 u3,f u1 u2 u3=some z->C (.BoolOp u1 u2 u3)) (k2:d=some z->C e):C e:=dg h (λhc h=>Expr.BoolOp.elim (motive_1 :=λe=>∀hc,Expr.BoolOp.elim (motive_1 :=λy=>Option α) e hc f=some z->C e) e hc (λu1 u2 u3 y h=>k u1 u2 u3 h) hc h) k2
def uo(e:Expr)(f:Expr->ja->Expr->Pos->Option α)(d:Option α):Option α:=if h:e.ctorIdx=2 then Je (motive_1 :=λz=>Option α) e h f else d
@[elab_as_elim] theorem NH (h:uo e f d=some z) (k:∀u1 u2 u3 u4,f u1 u2 u3 u4=some z->C (.BinOp u1 u2 u3 u4)) (k2:d=some z->C e):C e:=dg h (λhc h=>Je (motive_1 :=λe=>∀hc,Je (motive_1 :=λy=>Option α) e hc f=some z->C e) e hc (λu1 u2 u3 u4 y h=>k u1 u2 u3 u4 h) hc h) k2
def Pn(e:Expr)(f:UnaryOp->Expr->Pos->Option α)(d:Option α):Option α:=if h:e.ctorIdx=3 then Expr.UnaryOp.elim (motive_1 :=λz=>Option α) e h f else d
@[elab_as_elim] theorem abw (h:Pn e f d=some z) (k:∀u1 u2 u3,f u1 u2 u3=some z->C (.UnaryOp u1 u2 u3)) (k2:d=some z->C e):C e:=dg h (λhc h=>Expr.UnaryOp.elim (motive_1 :=λe=>∀hc,Expr.UnaryOp.elim (motive_1 :=λy=>Option α) e hc f=some z->C e) e hc (λu1 u2 u3 y h=>k u1 u2 u3 h) hc h) k2
def yF(e:Expr)(f:cH->Expr->aH->Pos->Option α)(d:Option α):Option α:=if h:e.ctorIdx=4 then Expr.Lambda.elim (motive_1 :=λz=>Option α) e h f else d
@[elab_as_elim] theorem ZK (h:yF e f d=some z) (k:∀u1 u2 u3 u4,f u1 u2 u3 u4=some z->C (.Lambda u1 u2 u3 u4)) (k2:d=some z->C e):C e:=dg h (λhc h=>Expr.Lambda.elim (motive_1 :=λe=>∀hc,Expr.Lambda.elim (motive_1 :=λy=>Option α) e hc f=some z->C e) e hc (λu1 u2 u3 u4 y h=>k u1 u2 u3 u4 h) hc h) k2
def y6(e:Expr)(f:Expr->Expr->Expr->Pos->Option α)(d:Option α):Option α:=if h:e.ctorIdx=5 then Jd (motive_1 :=λz=>Option α) e h f else d
@[elab_as_elim] theorem abx (h:y6 e f d=some z) (k:∀u1 u2 u3 u4,f u1 u2 u3 u4=some z->C (.IfExp u1 u2 u3 u4)) (k2:d=some z->C e):C e:=dg h (λhc h=>Jd (motive_1 :=λe=>∀hc,Jd (motive_1 :=λy=>Option α) e hc f=some z->C e) e hc (λu1 u2 u3 u4 y h=>k u1 u2 u3 u4 h) hc h) k2
def Cv(e:Expr)(f:Expr->List fG->aH->Pos->Option α)(d:Option α):Option α:=if h:e.ctorIdx=8 then Expr.ListComp.elim (motive_1 :=λz=>Option α) e h f else d
@[elab_as_elim] theorem GC (h:Cv e f d=some z) (k:∀u1 u2 u3 u4,f u1 u2 u3 u4=some z->C (.ListComp u1 u2 u3 u4)) (k2:d=some z->C e):C e:=dg h (λhc h=>Expr.ListComp.elim (motive_1 :=λe=>∀hc,Expr.ListComp.elim (motive_1 :=λy=>Option α) e hc f=some z->C e) e hc (λu1 u2 u3 u4 y h=>k u1 u2 u3 u4 h) hc h) k2
def GD(e:Expr)(f:Expr->List CmpOp->ah->Pos->Option α)(d:Option α):Option α:=if h:e.ctorIdx=15 then Expr.Compare.elim (motive_1 :=λz=>Option α) e h f else d
@[elab_as_elim] theorem NI (h:GD e f d=some z) (k:∀u1 u2 u3 u4,f u1 u2 u3 u4=some z->C (.Compare u1 u2 u3 u4)) (k2:d=some z->C e):C e:=dg h (λhc h=>Expr.Compare.elim (motive_1 :=λe=>∀hc,Expr.Compare.elim (motive_1 :=λy=>Option α) e hc f=some z->C e) e hc (λu1 u2 u3 u4 y h=>k u1 u2 u3 u4 h) hc h) k2
def oH(e:Expr)(f:Expr->ah->List gY->Pos->Option α)(d:Option α):Option α:=if h:e.ctorIdx=16 then Expr.Call.elim (motive_1 :=λz=>Option α) e h f else d
@[elab_as_elim] theorem vM (h:oH e f d=some z) (k:∀u1 u2 u3 u4,f u1 u2 u3 u4=some z->C (.Call u1 u2 u3 u4)) (k2:d=some z->C e):C e:=dg h (λhc h=>Expr.Call.elim (motive_1 :=λe=>∀hc,Expr.Call.elim (motive_1 :=λy=>Option α) e hc f=some z->C e) e hc (λu1 u2 u3 u4 y h=>k u1 u2 u3 u4 h) hc h) k2
def Fh(e:Expr)(f:Const->Nat->Pos->Option α)(d:Option α):Option α:=if h:e.ctorIdx=19 then Expr.Constant.elim (motive_1 :=λz=>Option α) e h f else d
@[elab_as_elim] theorem Wj (h:Fh e f d=some z) (k:∀u1 u2 u3,f u1 u2 u3=some z->C (.Constant u1 u2 u3)) (k2:d=some z->C e):C e:=dg h (λhc h=>Expr.Constant.elim (motive_1 :=λe=>∀hc,Expr.Constant.elim (motive_1 :=λy=>Option α) e hc f=some z->C e) e hc (λu1 u2 u3 y h=>k u1 u2 u3 h) hc h) k2
def t0(e:Expr)(f:Expr->Str->Pos->Option α)(d:Option α):Option α:=if h:e.ctorIdx=20 then Q5 (motive_1 :=λz=>Option α) e h f else d
@[elab_as_elim] theorem ye (h:t0 e f d=some z) (k:∀u1 u2 u3,f u1 u2 u3=some z->C (.Attribute u1 u2 u3)) (k2:d=some z->C e):C e:=dg h (λhc h=>Q5 (motive_1 :=λe=>∀hc,Q5 (motive_1 :=λy=>Option α) e hc f=some z->C e) e hc (λu1 u2 u3 y h=>k u1 u2 u3 h) hc h) k2
def B7(e:Expr)(f:Expr->Expr->Pos->Option α)(d:Option α):Option α:=if h:e.ctorIdx=21 then Q4 (motive_1 :=λz=>Option α) e h f else d
@[elab_as_elim] theorem NJ (h:B7 e f d=some z) (k:∀u1 u2 u3,f u1 u2 u3=some z->C (.Subscript u1 u2 u3)) (k2:d=some z->C e):C e:=dg h (λhc h=>Q4 (motive_1 :=λe=>∀hc,Q4 (motive_1 :=λy=>Option α) e hc f=some z->C e) e hc (λu1 u2 u3 y h=>k u1 u2 u3 h) hc h) k2
def pT(e:Expr)(f:Str->Pos->Option α)(d:Option α):Option α:=if h:e.ctorIdx=23 then Jo (motive_1 :=λz=>Option α) e h f else d
@[elab_as_elim] theorem rG (h:pT e f d=some z) (k:∀u1 u2,f u1 u2=some z->C (.Name u1 u2)) (k2:d=some z->C e):C e:=dg h (λhc h=>Jo (motive_1 :=λe=>∀hc,Jo (motive_1 :=λy=>Option α) e hc f=some z->C e) e hc (λu1 u2 y h=>k u1 u2 h) hc h) k2
def BE(e:Expr)(f:ah->Pos->Option α)(d:Option α):Option α:=if h:e.ctorIdx=24 then DD (motive_1 :=λz=>Option α) e h f else d
@[elab_as_elim] theorem MJ (h:BE e f d=some z) (k:∀u1 u2,f u1 u2=some z->C (.List u1 u2)) (k2:d=some z->C e):C e:=dg h (λhc h=>DD (motive_1 :=λe=>∀hc,DD (motive_1 :=λy=>Option α) e hc f=some z->C e) e hc (λu1 u2 y h=>k u1 u2 h) hc h) k2
def rY(e:Expr)(f:ah->Nat->Pos->Option α)(d:Option α):Option α:=if h:e.ctorIdx=25 then Expr.Tuple.elim (motive_1 :=λz=>Option α) e h f else d
@[elab_as_elim] theorem yn (h:rY e f d=some z) (k:∀u1 u2 u3,f u1 u2 u3=some z->C (.Tuple u1 u2 u3)) (k2:d=some z->C e):C e:=dg h (λhc h=>Expr.Tuple.elim (motive_1 :=λe=>∀hc,Expr.Tuple.elim (motive_1 :=λy=>Option α) e hc f=some z->C e) e hc (λu1 u2 u3 y h=>k u1 u2 u3 h) hc h) k2
def MK(e:Expr)(f:Option Expr->Option Expr->Option Expr->Pos->Option α)(d:Option α):Option α:=if h:e.ctorIdx=26 then Expr.Slice.elim (motive_1 :=λz=>Option α) e h f else d
@[elab_as_elim] theorem Wk (h:MK e f d=some z) (k:∀u1 u2 u3 u4,f u1 u2 u3 u4=some z->C (.Slice u1 u2 u3 u4)) (k2:d=some z->C e):C e:=dg h (λhc h=>Expr.Slice.elim (motive_1 :=λe=>∀hc,Expr.Slice.elim (motive_1 :=λy=>Option α) e hc f=some z->C e) e hc (λu1 u2 u3 u4 y h=>k u1 u2 u3 u4 h) hc h) k2
end
section
variable{α:Type}{d:Option α}{e:Stmt}{C:Stmt->Prop}
def vT(e:Stmt)(f:Str->cH->ad->ah->Option Expr->List TypeParam->aH->Option aH->Str->Pos->Option α)(d:Option α):Option α:=if h:e.ctorIdx=0 then Q0 (motive_2 :=λz=>Option α) e h f else d
@[elab_as_elim] theorem XY (h:vT e f d=some z) (k:∀u1 u2 u3 u4 u5 u6 u7 u8 u9 v1,f u1 u2 u3 u4 u5 u6 u7 u8 u9 v1=some z->C (.FunctionDef u1 u2 u3 u4 u5 u6 u7 u8 u9 v1)) (k2:d=some z->C e):C e:=dg h (λhc h=>Q0 (motive_2 :=λe=>∀hc,Q0 (motive_2 :=λy=>Option α) e hc f=some z->C e) e hc (λu1 u2 u3 u4 u5 u6 u7 u8 u9 v1 y h=>k u1 u2 u3 u4 u5 u6 u7 u8 u9 v1 h) hc h) k2
def NK(e:Stmt)(f:Str->ah->List gY->ad->ah->List TypeParam->aH->Option aH->Str->af->Pos->Option α)(d:Option α):Option α:=if h:e.ctorIdx=2 then Stmt.ClassDef.elim (motive_2 :=λz=>Option α) e h f else d
@[elab_as_elim] theorem ahb (h:NK e f d=some z) (k:∀u1 u2 u3 u4 u5 u6 u7 u8 u9 v1 v2,f u1 u2 u3 u4 u5 u6 u7 u8 u9 v1 v2=some z->C (.ClassDef u1 u2 u3 u4 u5 u6 u7 u8 u9 v1 v2)) (k2:d=some z->C e):C e:=dg h (λhc h=>Stmt.ClassDef.elim (motive_2 :=λe=>∀hc,Stmt.ClassDef.elim (motive_2 :=λy=>Option α) e hc f=some z->C e) e hc (λu1 u2 u3 u4 u5 u6 u7 u8 u9 v1 v2 y h=>k u1 u2 u3 u4 u5 u6 u7 u8 u9 v1 v2 h) hc h) k2
def BF(e:Stmt)(f:Option Expr->Pos->Option α)(d:Option α):Option α:=if h:e.ctorIdx=3 then Stmt.Return.elim (motive_2 :=λz=>Option α) e h f else d
@[elab_as_elim] theorem ML (h:BF e f d=some z) (k:∀u1 u2,f u1 u2=some z->C (.Return u1 u2)) (k2:d=some z->C e):C e:=dg h (λhc h=>Stmt.Return.elim (motive_2 :=λe=>∀hc,Stmt.Return.elim (motive_2 :=λy=>Option α) e hc f=some z->C e) e hc (λu1 u2 y h=>k u1 u2 h) hc h) k2
def pU(e:Stmt)(f:ah->Expr->Pos->Option α)(d:Option α):Option α:=if h:e.ctorIdx=5 then Stmt.Assign.elim (motive_2 :=λz=>Option α) e h f else d
@[elab_as_elim] theorem yf (h:pU e f d=some z) (k:∀u1 u2 u3,f u1 u2 u3=some z->C (.Assign u1 u2 u3)) (k2:d=some z->C e):C e:=dg h (λhc h=>Stmt.Assign.elim (motive_2 :=λe=>∀hc,Stmt.Assign.elim (motive_2 :=λy=>Option α) e hc f=some z->C e) e hc (λu1 u2 u3 y h=>k u1 u2 u3 h) hc h) k2
def FQ(e:Stmt)(f:Expr->ja->Expr->Pos->Option α)(d:Option α):Option α:=if h:e.ctorIdx=7 then Q3 (motive_2 :=λz=>Option α) e h f else d
@[elab_as_elim] theorem XZ (h:FQ e f d=some z) (k:∀u1 u2 u3 u4,f u1 u2 u3 u4=some z->C (.AugAssign u1 u2 u3 u4)) (k2:d=some z->C e):C e:=dg h (λhc h=>Q3 (motive_2 :=λe=>∀hc,Q3 (motive_2 :=λy=>Option α) e hc f=some z->C e) e hc (λu1 u2 u3 u4 y h=>k u1 u2 u3 u4 h) hc h) k2
def rK(e:Stmt)(f:Expr->Expr->ad->ad->Pos->Option α)(d:Option α):Option α:=if h:e.ctorIdx=9 then Stmt.For.elim (motive_2 :=λz=>Option α) e h f else d
@[elab_as_elim] theorem Bl (h:rK e f d=some z) (k:∀u1 u2 u3 u4 u5,f u1 u2 u3 u4 u5=some z->C (.For u1 u2 u3 u4 u5)) (k2:d=some z->C e):C e:=dg h (λhc h=>Stmt.For.elim (motive_2 :=λe=>∀hc,Stmt.For.elim (motive_2 :=λy=>Option α) e hc f=some z->C e) e hc (λu1 u2 u3 u4 u5 y h=>k u1 u2 u3 u4 u5 h) hc h) k2
def x9(e:Stmt)(f:Expr->ad->ad->Pos->Option α)(d:Option α):Option α:=if h:e.ctorIdx=11 then Stmt.While.elim (motive_2 :=λz=>Option α) e h f else d
@[elab_as_elim] theorem UU (h:x9 e f d=some z) (k:∀u1 u2 u3 u4,f u1 u2 u3 u4=some z->C (.While u1 u2 u3 u4)) (k2:d=some z->C e):C e:=dg h (λhc h=>Stmt.While.elim (motive_2 :=λe=>∀hc,Stmt.While.elim (motive_2 :=λy=>Option α) e hc f=some z->C e) e hc (λu1 u2 u3 u4 y h=>k u1 u2 u3 u4 h) hc h) k2
def uq(e:Stmt)(f:Expr->ad->ad->Pos->Option α)(d:Option α):Option α:=if h:e.ctorIdx=12 then Stmt.If.elim (motive_2 :=λz=>Option α) e h f else d
@[elab_as_elim] theorem ZL (h:uq e f d=some z) (k:∀u1 u2 u3 u4,f u1 u2 u3 u4=some z->C (.If u1 u2 u3 u4)) (k2:d=some z->C e):C e:=dg h (λhc h=>Stmt.If.elim (motive_2 :=λe=>∀hc,Stmt.If.elim (motive_2 :=λy=>Option α) e hc f=some z->C e) e hc (λu1 u2 u3 u4 y h=>k u1 u2 u3 u4 h) hc h) k2
def FR(e:Stmt)(f:Expr->Pos->Option α)(d:Option α):Option α:=if h:e.ctorIdx=24 then Jl (motive_2 :=λz=>Option α) e h f else d
@[elab_as_elim] theorem X_ (h:FR e f d=some z) (k:∀u1 u2,f u1 u2=some z->C (.Expr u1 u2)) (k2:d=some z->C e):C e:=dg h (λhc h=>Jl (motive_2 :=λe=>∀hc,Jl (motive_2 :=λy=>Option α) e hc f=some z->C e) e hc (λu1 u2 y h=>k u1 u2 h) hc h) k2
def MM(e:Stmt)(f:Pos->Option α)(d:Option α):Option α:=if h:e.ctorIdx=25 then Stmt.Pass.elim (motive_2 :=λz=>Option α) e h f else d
@[elab_as_elim] theorem Wl (h:MM e f d=some z) (k:∀u1,f u1=some z->C (.Pass u1)) (k2:d=some z->C e):C e:=dg h (λhc h=>Stmt.Pass.elim (motive_2 :=λe=>∀hc,Stmt.Pass.elim (motive_2 :=λy=>Option α) e hc f=some z->C e) e hc (λu1 y h=>k u1 h) hc h) k2
def NL(e:Stmt)(f:Pos->Option α)(d:Option α):Option α:=if h:e.ctorIdx=26 then Stmt.Break.elim (motive_2 :=λz=>Option α) e h f else d
@[elab_as_elim] theorem Ya (h:NL e f d=some z) (k:∀u1,f u1=some z->C (.Break u1)) (k2:d=some z->C e):C e:=dg h (λhc h=>Stmt.Break.elim (motive_2 :=λe=>∀hc,Stmt.Break.elim (motive_2 :=λy=>Option α) e hc f=some z->C e) e hc (λu1 y h=>k u1 h) hc h) k2
end
section
variable{α:Type}{d:Option α}{e:PV}
def FS(e:PV)(f:Option α)(d:Option α):Option α:=if h:e.ctorIdx=0 then PV.none.elim (motive_1 :=λz=>Option α) e h f else d
theorem MN{P:Prop}(h:FS e f d=some z)(k:e=.none->f=some z->P)(k2:d=some z->P):P:=dg (C:=λy=>P) h (λhc h=>PV.none.elim (motive_1 :=λw=>e=w->∀hc,PV.none.elim (motive_1 :=λy=>Option α) w hc f=some z->P) e hc (λq y h=>k q h) rfl hc h) k2
def vBool(e:PV)(f:Bool->Option α)(d:Option α):Option α:=if h:e.ctorIdx=1 then PV.bool.elim (motive_1 :=λz=>Option α) e h f else d
theorem Fi{P:Prop}(h:vBool e f d=some z)(k:∀u1,e=.bool u1->f u1=some z->P)(k2:d=some z->P):P:=dg (C:=λy=>P) h (λhc h=>PV.bool.elim (motive_1 :=λw=>e=w->∀hc,PV.bool.elim (motive_1 :=λy=>Option α) w hc f=some z->P) e hc (λu1 q y h=>k u1 q h) rfl hc h) k2
def vInt(e:PV)(f:Int->Option α)(d:Option α):Option α:=if h:e.ctorIdx=2 then PV.int.elim (motive_1 :=λz=>Option α) e h f else d
theorem rL{P:Prop}(h:vInt e f d=some z)(k:∀u1,e=.int u1->f u1=some z->P)(k2:d=some z->P):P:=dg (C:=λy=>P) h (λhc h=>PV.int.elim (motive_1 :=λw=>e=w->∀hc,PV.int.elim (motive_1 :=λy=>Option α) w hc f=some z->P) e hc (λu1 q y h=>k u1 q h) rfl hc h) k2
def vStr(e:PV)(f:Str->Option α)(d:Option α):Option α:=if h:e.ctorIdx=3 then PV.str.elim (motive_1 :=λz=>Option α) e h f else d
theorem vU{P:Prop}(h:vStr e f d=some z)(k:∀u1,e=.str u1->f u1=some z->P)(k2:d=some z->P):P:=dg (C:=λy=>P) h (λhc h=>PV.str.elim (motive_1 :=λw=>e=w->∀hc,PV.str.elim (motive_1 :=λy=>Option α) w hc f=some z->P) e hc (λu1 q y h=>k u1 q h) rfl hc h) k2
def pV(e:PV)(f:ab->Option α)(d:Option α):Option α:=if h:e.ctorIdx=4 then PV.list.elim (motive_1 :=λz=>Option α) e h f else d
theorem tT{P:Prop}(h:pV e f d=some z)(k:∀u1,e=.list u1->f u1=some z->P)(k2:d=some z->P):P:=dg (C:=λy=>P) h (λhc h=>PV.list.elim (motive_1 :=λw=>e=w->∀hc,PV.list.elim (motive_1 :=λy=>Option α) w hc f=some z->P) e hc (λu1 q y h=>k u1 q h) rfl hc h) k2
def wb(e:PV)(f:ab->Option α)(d:Option α):Option α:=if h:e.ctorIdx=5 then PV.tup.elim (motive_1 :=λz=>Option α) e h f else d
theorem FT{P:Prop}(h:wb e f d=some z)(k:∀u1,e=.tup u1->f u1=some z->P)(k2:d=some z->P):P:=dg (C:=λy=>P) h (λhc h=>PV.tup.elim (motive_1 :=λw=>e=w->∀hc,PV.tup.elim (motive_1 :=λy=>Option α) w hc f=some z->P) e hc (λu1 q y h=>k u1 q h) rfl hc h) k2
def GF(e:PV)(f:Int->Int->Int->Option α)(d:Option α):Option α:=if h:e.ctorIdx=6 then PV.ey.elim (motive_1 :=λz=>Option α) e h f else d
theorem ZM{P:Prop}(h:GF e f d=some z)(k:∀u1 u2 u3,e=.ey u1 u2 u3->f u1 u2 u3=some z->P)(k2:d=some z->P):P:=dg (C:=λy=>P) h (λhc h=>PV.ey.elim (motive_1 :=λw=>e=w->∀hc,PV.ey.elim (motive_1 :=λy=>Option α) w hc f=some z->P) e hc (λu1 u2 u3 q y h=>k u1 u2 u3 q h) rfl hc h) k2
def Ht(e:PV)(f:Str->Option α)(d:Option α):Option α:=if h:e.ctorIdx=7 then PV.fn.elim (motive_1 :=λz=>Option α) e h f else d
theorem aby{P:Prop}(h:Ht e f d=some z)(k:∀u1,e=.fn u1->f u1=some z->P)(k2:d=some z->P):P:=dg (C:=λy=>P) h (λhc h=>PV.fn.elim (motive_1 :=λw=>e=w->∀hc,PV.fn.elim (motive_1 :=λy=>Option α) w hc f=some z->P) e hc (λu1 q y h=>k u1 q h) rfl hc h) k2
def GG(e:PV)(f:Option α)(d:Option α):Option α:=if h:e.ctorIdx=8 then PV.cls.elim (motive_1 :=λz=>Option α) e h f else d
theorem ZN{P:Prop}(h:GG e f d=some z)(k:e=.cls->f=some z->P)(k2:d=some z->P):P:=dg (C:=λy=>P) h (λhc h=>PV.cls.elim (motive_1 :=λw=>e=w->∀hc,PV.cls.elim (motive_1 :=λy=>Option α) w hc f=some z->P) e hc (λq y h=>k q h) rfl hc h) k2
def OF(e:PV)(f:Str->Option α)(d:Option α):Option α:=if h:e.ctorIdx=9 then PV.blt.elim (motive_1 :=λz=>Option α) e h f else d
theorem ahc{P:Prop}(h:OF e f d=some z)(k:∀u1,e=.blt u1->f u1=some z->P)(k2:d=some z->P):P:=dg (C:=λy=>P) h (λhc h=>PV.blt.elim (motive_1 :=λw=>e=w->∀hc,PV.blt.elim (motive_1 :=λy=>Option α) w hc f=some z->P) e hc (λu1 q y h=>k u1 q h) rfl hc h) k2
def BG(e:PV)(f:List (Str×PV)->Option α)(d:Option α):Option α:=if h:e.ctorIdx=10 then PV.inst.elim (motive_1 :=λz=>Option α) e h f else d
theorem Fj{P:Prop}(h:BG e f d=some z)(k:∀u1,e=.inst u1->f u1=some z->P)(k2:d=some z->P):P:=dg (C:=λy=>P) h (λhc h=>PV.inst.elim (motive_1 :=λw=>e=w->∀hc,PV.inst.elim (motive_1 :=λy=>Option α) w hc f=some z->P) e hc (λu1 q y h=>k u1 q h) rfl hc h) k2
def B8(e:PV)(f:cH->Expr->aH->List (Str×PV)->Option α)(d:Option α):Option α:=if h:e.ctorIdx=11 then PV.lam.elim (motive_1 :=λz=>Option α) e h f else d
theorem NM{P:Prop}(h:B8 e f d=some z)(k:∀u1 u2 u3 u4,e=.lam u1 u2 u3 u4->f u1 u2 u3 u4=some z->P)(k2:d=some z->P):P:=dg (C:=λy=>P) h (λhc h=>PV.lam.elim (motive_1 :=λw=>e=w->∀hc,PV.lam.elim (motive_1 :=λy=>Option α) w hc f=some z->P) e hc (λu1 u2 u3 u4 q y h=>k u1 u2 u3 u4 q h) rfl hc h) k2
def BH(e:PV)(f:cH->ad->aH->Option α)(d:Option α):Option α:=if h:e.ctorIdx=12 then PV.gc.elim (motive_1 :=λz=>Option α) e h f else d
theorem MO{P:Prop}(h:BH e f d=some z)(k:∀u1 u2 u3,e=.gc u1 u2 u3->f u1 u2 u3=some z->P)(k2:d=some z->P):P:=dg (C:=λy=>P) h (λhc h=>PV.gc.elim (motive_1 :=λw=>e=w->∀hc,PV.gc.elim (motive_1 :=λy=>Option α) w hc f=some z->P) e hc (λu1 u2 u3 q y h=>k u1 u2 u3 q h) rfl hc h) k2
def OG(e:PV)(f:Str->Option α)(d:Option α):Option α:=if h:e.ctorIdx=13 then PV.exc.elim (motive_1 :=λz=>Option α) e h f else d
theorem ZO{P:Prop}(h:OG e f d=some z)(k:∀u1,e=.exc u1->f u1=some z->P)(k2:d=some z->P):P:=dg (C:=λy=>P) h (λhc h=>PV.exc.elim (motive_1 :=λw=>e=w->∀hc,PV.exc.elim (motive_1 :=λy=>Option α) w hc f=some z->P) e hc (λu1 q y h=>k u1 q h) rfl hc h) k2
end
noncomputable abbrev Loc:=List (Str×PV)
structure St where
 loc:Loc
 own:af:=[]
 pin:af:=[]
inductive bG where
 |next |brk|ret (v:PV)
structure FD where
 args:cH
 body:ad
 scope:aH
def bq:Loc->Str->PV->Loc
 |[],x,v=>[(x,v)]
 |(y,w)::r,x,v=>if y=x then(y,v)::r else(y,w)::bq r x v
def Cw(l:ad):List (Str×FD):=l.filterMap λs=>vT s (λnm a b z z z sc z z z=>some (nm,⟨a,b,sc⟩)) .none
def Fk(l:ad)(n:Str):Option FD:=(Cw l).lookup n
def findCls(l:ad)(n:Str):Option ad:=(l.filterMap λs=>NK s (λnm z z b z z z z z z z=>some (nm,b)) .none).lookup n
def one{α:Type}:List α->Option α
 |[]=>.none
 |a::r=>match r with
  |[]=>some a
  |_::_=>.none
def jf{α:Type}:List α->Option (α×List α)
 |[]=>.none
 |a::r=>some (a,r)
def fI(e:Expr):Option Str:=pT e (λx z=>some x) .none
def cInt:Const->Option Int
 | .int i=>some i
 |_=>.none
def Yb(e:Expr):Option Int:=Fh e (λc z z=>cInt c) .none
def constOf(s:Stmt):Option (Str×PV):=pU s (λts e z=>(one ts).bind λt=>(fI t).bind λx=>(Yb e).map λi=>(x,.int i)) .none
def TC(l:ad)(n:Str):ag:=(l.filterMap constOf).lookup n
noncomputable abbrev top:ad:=PySem.Challenge.pw_tc0082_01.main.body
def fnOf(n:Str):Option FD:=Fk top n
def lV(n:Str):Option FD:=match findCls top "Whitespace" with
 |some b=>Fk b n
 | .none=>.none
def rZ:af:=["divmod","len","range","sorted","sum","max","list","tuple","str"]
def glob(n:Str):ag:=if rZ.contains n then some (.blt n)else match fnOf n with
 |some _=>some (.fn n)
 | .none=>if n=("Whitespace":Str)then some .cls else TC top n
def flat(v:PV):Bool:=xE v.ctorIdx 4
def truth(v:PV):Option Bool:=vBool v some (vInt v (λi=>some (!(i==0))) (pV v (λvs=>if decide (vs.length<=1000000)then some (!vs.isEmpty)else .none) (FS v (some false) .none)))
def fj(v:PV):Option (Int):=vInt v some .none
def t5(v:PV):Option (Str):=vStr v some .none
def iu(v:PV):Option ab:=pV v some .none
def Bm(v:PV):Option (List (Str×PV)):=BG v some .none
def BI(v:PV):Option (Str):=OG v some .none
def kc:Option rs->Nat
 |some .local=>0
 |some .cell=>1
 |some .free=>1
 |some .globalImplicit=>2
 |_=>3
def small(i:Int):Bool:=decide (i.natAbs<2^64)
def bJ(i:Int):Bool:=decide (i.natAbs<2^62)
def jx(n:Nat)(o:ag)(d:Int):Option Int:=match o with
 | .none=>some d
 |some p=>(fj p).map λi=>if i<0 then max 0 (i+n)else min i n
def cut{α:Type}(l:List α)(a b:Int):List α:=(l.drop a.toNat).take (b.toNat-a.toNat)
def b0{α:Type}(l:List α)(i:Int):Option α:=if 0<=i then l[i.toNat]? else if 0<=i+l.length then l[(i+l.length).toNat]? else .none
def iO(a b c:Int):ac:=if 0<c then(aG ((b-a+c-1).toNat/c.toNat)).map (λ(k:Nat)=>a+(k:Int)*c)else[]
def chr(c:Nat):PV:=.str ⟨#[c]⟩
def itemsOf(v:PV):Option ab:=pV v some (wb v some (GF v (λa b c=>if bJ a&&bJ b&&bJ c&&decide (0<c)then some ((iO a b c).map .int)else .none) (vStr v (λx=>some (x.cps.toList.map chr)) .none)))
mutual
def so:PV->Option PyData
 | .int i=>some (.int i)
 | .str x=>some (.str x)
 | .tup vs=>(hZ vs).map .tuple
 | .list vs=>(hZ vs).map .list
 |_=>.none
def hZ:ab->Option (List PyData)
 |[]=>some []
 |a::r=>(so a).bind λx=>(hZ r).map (x:: ·)
end
def dEq(a b:PV):Option Bool:=(so a).bind λx=>(so b).bind λy=>if gX x&&gX y then some (i9 x y)else .none
def kf(a b:PV):Option Bool:=vInt a (λi=>(fj b).map λj=>i==j) (vStr a (λx=>(t5 b).map λy=>x.cps.toList==y.cps.toList) (dEq a b))
def intsOf:ab->Option ac
 |[]=>some []
 |a::r=>(fj a).bind λi=>(intsOf r).map (i:: ·)
def strsOf:ab->Option af
 |[]=>some []
 |a::r=>(t5 a).bind λi=>(strsOf r).map (i:: ·)
def dK{α:Type}(l:List α):Nat->List α
 |0=>[]
 |n+1=>l++dK l n
def bo(n:Nat):Bool:=decide (n<=1000000)
def cQ(op:ja)(a b:Int):ag:=match op with
 | .Add=>some (.int (a+b))
 | .Sub=>some (.int (a-b))
 | .Mult=>if small a&&small b then some (.int (a*b))else .none
 | .FloorDiv=>if b=0\/1000000000<b.natAbs then .none else some (.int (a.fdiv b))
 | .Mod=>if b=0 then .none else some (.int (a.fmod b))
 | .Pow=>if small a&&decide (0<=b)&&decide (b<=1000)then some (.int (a^b.toNat))else .none
 | .LShift=>if small a&&decide (0<=b)&&decide (b<=1000000)then some (.int (a*2^b.toNat))else .none
 | .RShift=>if decide (0<=b)then some (.int (a.fdiv (2^b.toNat)))else .none
 | .BitXor=>some (.int (RF a b))
 |_=>.none
def isMul(o:ja):Bool:=jb o.ctorIdx 2
def isAdd(o:ja):Bool:=jb o.ctorIdx 0
def OH(op:ja)(a b:Str):ag:=if isAdd op&&bo (a.length+b.length)then some (.str (a++b))else .none
def t_(n:Nat)(b:Int):Bool:=bo (n*b.toNat)&&(decide (-(2^62)<b)&&decide (b<2^62))
def OI(op:ja)(a:Str)(b:Int):ag:=if isMul op&&t_ a.length b then some (.str ⟨(dK a.cps.toList b.toNat).toArray⟩)else .none
def OJ(op:ja)(a b:ab):ag:=if isAdd op&&bo (a.length+b.length)then some (.list (a++b))else .none
def OK(op:ja)(a:ab)(b:Int):ag:=if isMul op&&t_ a.length b then some (.list (dK a b.toNat))else .none
def bj(op:ja)(a b:PV):ag:=vInt a (λi=>(fj b).bind (cQ op i)) (pV a (λvs=>pV b (OJ op vs) (vInt b (OK op vs) .none)) (vStr a (λx=>vStr b (OH op x) (vInt b (OI op x) .none)) .none))
def isNone(v:PV):Bool:=jb v.ctorIdx 0
def GH(a b:PV):Option Bool:=vBool a (λa=>vBool b (λb=>some (a==b)) .none) (if isNone b then FS a (some true) (vInt a (λz=>some false) (B8 a (λz z z z=>some false) .none))else .none)
def hasChar:aa->Nat->Bool
 |[],_=>false
 |a::r,c=>a==c||hasChar r c
def yo(f:Int->Int->Bool)(a b:PV):Option Bool:=(fj a).bind λi=>(fj b).map (f i)
def MP(l:aa)(x:Str):Option Bool:=match l with
 |[]=>.none
 |c::r=>match r with
  |[]=>some (!hasChar x.cps.toList c)
  |_::_=>.none
def LB(a b:PV):Option Bool:=(t5 a).bind λy=>(t5 b).bind (MP y.cps.toList)
def fU(op:CmpOp)(a b:PV):Option Bool:=match op with
 | .Eq=>kf a b
 | .NotEq=>(kf a b).map (!·)
 | .Lt=>yo (λa b=>decide (a<b)) a b
 | .LtE=>yo (λa b=>decide (a<=b)) a b
 | .Gt=>yo (λa b=>decide (b<a)) a b
 | .GtE=>yo (λa b=>decide (b<=a)) a b
 | .Is=>GH a b
 | .IsNot=>(GH a b).map (!·)
 | .NotIn=>LB a b
 |_=>.none
def l7:Int->ac->Int
 |a,[]=>a
 |a,i::r=>l7 (if a<i then i else a) r
def lexLt:ac->ac->Bool
 |[],[]=>false
 |[],_::_=>true
 |_::_,[]=>false
 |a::x,b::y=>if a==b then lexLt x y else decide (a<b)
def cX{α:Type}(lt:α->α->Bool)(x:α):List α->List α
 |[]=>[x]
 |y::r=>if lt y x then y::cX lt x r else x::y::r
def dE{α:Type}(lt:α->α->Bool):List α->List α
 |[]=>[]
 |x::r=>cX lt x (dE lt r)
def EP(v:PV):Option ac:=vInt v (λi=>some [i]) (wb v intsOf .none)
def rM:aa->af->aa
 |_,[]=>[]
 |_,[x]=>x.cps.toList
 |sep,x::r=>x.cps.toList++sep++rM sep r
def lenOf(v:PV):Option Nat:=pV v (λvs=>some vs.length) (wb v (λvs=>some vs.length) (vStr v (λx=>some x.length) .none))
def NN(ps:ab):ag:=(one ps).bind λp=>(lenOf p).bind λn=>if bo n then some (.int n)else .none
def abz(a b:Int)(r:ab):ag:=match r with
 |[]=>some (.ey a b 1)
 |c::r=>((one (c::r)).bind fj).bind λc=>if decide (0<c)&&decide (c<1000000000)then some (.ey a b c)else .none
def abA(a:Int)(r:ab):ag:=match r with
 |[]=>some (.ey 0 a 1)
 |b::r=>(fj b).bind λb=>abz a b r
def vJ(ps:ab):ag:=(jf ps).bind λq=>(fj q.1).bind λa=>abA a q.2
def NO(v:PV):Option (Int×Int):=GF v (λa b c=>if decide (c=1)then some (a,b)else .none) .none
def vN(ps:ab):ag:=((one ps).bind NO).bind λq=>if bJ q.1&&bJ q.2&&bo (iO q.1 q.2 1).length then some (.list ((iO q.1 q.2 1).map .int))else .none
def LC(ps:ab):ag:=((one ps).bind iu).bind λvs=>if bo vs.length then some (.tup vs)else .none
def mU(ps:ab):ag:=((one ps).bind iu).bind λvs=>(intsOf vs).map λl=>.int l.sum
def OL:ac->ag
 |[]=>.none
 |i::r=>some (.int (l7 i r))
def max2(a:PV)(r:ab):ag:=match r with
 |[]=>(iu a).bind λvs=>(intsOf vs).bind OL
 |b::r=>(fj a).bind λa=>((one (b::r)).bind fj).map λb=>.int (if a<b then b else a)
def BJ(ps:ab):ag:=(jf ps).bind λq=>max2 q.1 q.2
def KL(ps:ab):ag:=(jf ps).bind λq=>(fj q.1).bind λa=>((one q.2).bind fj).bind λb=>if decide (b=0)||decide (1000000000<b.natAbs)then .none else some (.tup [.int (a.fdiv b),.int (a.fmod b)])
def tI(ps:ab):ag:=((one ps).bind iu).bind λvs=>(intsOf vs).bind λl=>if decide (vs.length<64)then some (.list ((dE (λa b=>decide (a<b)) l).map .int))else .none
def NP(ps:ab):ag:=((one ps).bind BI).map .str
def FU(n:Str)(as:ab):ag:=
 if n=("len":Str)then NN as
 else if n=("range":Str)then vJ as
 else if n=("list":Str)then vN as
 else if n=("tuple":Str)then LC as
 else if n=("sum":Str)then mU as
 else if n=("max":Str)then BJ as
 else if n=("divmod":Str)then KL as
 else if n=("sorted":Str)then tI as
 else if n=("str":Str)then NP as
 else .none
def ZP(p:PV)(as:ab):ag:=if as.isEmpty then(fj p).map λi=>.int (lG i)else .none
def pW(p:PV)(as:ab):ag:=(t5 p).bind λs=>((one as).bind iu).bind λvs=>(strsOf vs).bind λl=>if decide ((l.map (·.length)).sum+l.length*s.length<=16777216)then some (.str ⟨(rM s.cps.toList l).toArray⟩)else .none
def Fl(p:PV)(as:ab):ag:=(iu p).bind λvs=>((one as).bind fj).bind λi=>(intsOf vs).map λl=>.int (l.countP (· ==i))
def MQ(p:PV)(n:Str)(as:ab):ag:=
 if n=("bit_length":Str)then ZP p as
 else if n=("join":Str)then pW p as
 else if n=("count":Str)then Fl p as
 else .none
def ua(a:cH):Bool:=decide (a.args.map (·.arg)=(["a","x","lo","hi"]:af))&&decide (a.kwonlyargs.map (·.arg)=(["key"]:af))
def keyOf{α:Type}(n:α):List (Str×α)->Option α
 |[]=>some n
 |q::r=>if r.isEmpty&&decide (q.1=("key":Str))then some q.2 else .none
def oN{α:Type}(z n:α):List α->Option (α×α)
 |[]=>some (z,n)
 |lo::r=>match r with
  |[]=>some (lo,n)
  |hi::r=>if r.isEmpty then some (lo,hi)else .none
def tU{α:Type}(z n:α)(a:cH)(ps:List α)(kw:List (Str×α)):Option (Str×List (Str×α)):=
 if a.kwonlyargs.isEmpty=true then(if kw.isEmpty then(jf a.args).bind λq=>if decide (ps.length=q.2.length)then some (q.1.arg,(q.2.map (·.arg)).zip ps)else .none else .none)
 else if ua a then(keyOf n kw).bind λk=>(jf ps).bind λq=>(oN z n q.2).map λw=>(("a":Str),[(("x":Str),q.1),("lo",w.1),("hi",w.2),("key",k)])else .none
def bindAll(a:cH)(pos:ab)(kw:Loc):Option Loc:=match pos with
 |[]=>if a.kwonlyargs.isEmpty&&kw.isEmpty&&a.args.isEmpty then some []else .none
 |u::ps=>(tU (.int 0) .none a ps kw).map λq=>(q.1,u)::q.2
set_option genInjectivity false
structure Rec where
 E:aH->Loc->Expr->ag
 S:aH->St->Stmt->Option (bG×St)
 B:aH->St->ad->Option (bG×St)
 W:aH->St->Expr->ad->Option (bG×St)
 C:Str->ab->Loc->ag
def pO(sc:aH):Bool:=sc.names.all λq=>q.2 != .free
def kg(sc:aH):Bool:=sc.kind== .function&& !sc.isCoroutine&& !sc.isGenerator&&(sc.names.lookup ("__debug__":Str)).isNone&&(sc.names.lookup ("__classdict__":Str)).isNone&&
 decide (sc.names.map (·.1)).Nodup
def j8(e:Expr):Bool:= !jb e.ctorIdx 7
def ng(d:FD):Bool:=kg d.scope&&d.args.posonlyargs.isEmpty&&d.args.vararg.isNone&&d.args.kwarg.isNone&&
 (d.args.args++d.args.kwonlyargs).all (λp=>d.scope.names.lookup p.arg==some .local||d.scope.names.lookup p.arg==some .cell)&&decide ((d.args.args++d.args.kwonlyargs).map (·.arg)).Nodup
def free(sc:aH)(l:Loc):Loc:=l.filter λp=>sc.names.lookup p.1==some .free
def mR:ah->ab->Loc->Option Loc
 |[],vs,l=>if vs.isEmpty then some l else .none
 |t::ts,vs,l=>(fI t).bind λx=>(jf vs).bind λq=>mR ts q.2 (bq l x q.1)
def FV(v:PV):Option ab:=wb v some .none
def fz(e:Expr)(l:Loc)(v:PV):Option Loc:=pT e (λx z=>some (bq l x v)) (rY e (λts z z=>(FV v).bind λvs=>mR ts vs l) .none)
def notStar(e:Expr):Bool:= !jb e.ctorIdx 22
def dG(r:Rec)(sc:aH)(l:Loc):ah->Option ab
 |[]=>some []
 |e::es=>if notStar e then(r.E sc l e).bind λv=>(dG r sc l es).map λvs=>v::vs else .none
def oO(r:Rec)(sc:aH)(l:Loc):List gY->Option Loc
 |[]=>some []
 |k::ks=>k.arg.bind λn=>(r.E sc l k.value).bind λv=>(oO r sc l ks).map λvs=>(n,v)::vs
def Fm(r:Rec)(sc:aH)(l:Loc):ah->Option Bool
 |[]=>some true
 |e::es=>(r.E sc l e).bind λv=>(truth v).bind λt=>if t=true then Fm r sc l es else some false
def namesOf:ah->af
 |[]=>[]
 |t::ts=>match fI t with
  |some x=>x::namesOf ts
  | .none=>[]
def gp(e:Expr):af:=(pT e (λx z=>some [x]) (rY e (λts z z=>some (namesOf ts)) .none)).getD []
def gf(cs:aH)(x:Str):Bool:=cs.names.lookup x==some .local||cs.names.lookup x==some .cell
def Bn(cs:aH)(t:Expr):Bool:=(gp t).all (gf cs)
def ub(cs:aH)(t:Expr)(l:Loc):Bool:=Bn cs t&&(gp t).all λx=>(l.lookup x).isNone
def pL(v:PV):Bool:= !jb v.ctorIdx 12
def freeOk(cs sc:aH):Bool:=cs.names.all λp=>p.2 != .free||decide (kc (sc.names.lookup p.1)=1)
mutual
def dS:PV->Bool
 | .lam _ _ _ _| .gc _ _ _=>false
 | .list vs| .tup vs=>b_ vs
 | .inst fs=>Fo fs
 |_=>true
def b_:ab->Bool
 |[]=>true
 |v::vs=>dS v&&b_ vs
def Fo:List (Str×PV)->Bool
 |[]=>true
 |(_,v)::vs=>dS v&&Fo vs
end
def tJ:af:=["_int2digits","_digits2int","_law_laid","law"]
def rC(cs:aH):Bool:=tJ.all λn=>decide ((fnOf n).map (·.scope.names)≠some cs.names)
def BK:List (Str×Nat×Nat×Str):=[("_int2digits",35,4,"inner"),("_digits2int",50,4,"inner"),("_law_laid",254,26,"<lambda>"),("law",317,39,"<lambda>")]
def Bo(sc:aH)(pos:Pos)(nm:Str):Bool:=BK.any λq=>decide ((fnOf q.1).map (·.scope.names)=some sc.names)&&q.2.1==pos.line&&q.2.2.1==pos.col&&decide (q.2.2.2=nm)
def lR(f:Loc->Option ab)(t:Expr)(l:Loc):ab->Option ab
 |[]=>some []
 |x::xs=>(fz t l x).bind λl1=>(f l1).bind λys=>(lR f t l xs).map λzs=>ys++zs
def l8(r:Rec)(sc:aH)(ifs:ah)(f:Loc->Option ab)(l:Loc):Option ab:=(Fm r sc l ifs).bind λt=>if t=true then f l else some []
def oq(r:Rec)(sc:aH)(elt:Expr):List fG->Loc->Option ab
 |[],l=>(r.E sc l elt).bind λv=>if dS v then some [v]else .none
 |g::gs,l=>if j8 g.iter&& !(g.is_async != 0)&&ub sc g.target l then(r.E sc l g.iter).bind λit=>if dS it then(itemsOf it).bind λxs=>lR (l8 r sc g.ifs λl1=>oq r sc elt gs l1) g.target l xs else .none else .none
def Fp(sc:aH)(l:Loc)(cs:aH)(g:fG):Bool:=kg cs&&(rC cs&&(freeOk cs sc&&((free cs l).all (λp=>pL p.2)&&(ub cs g.target (free cs l)&&(j8 g.iter&& !(g.is_async != 0))))))
def comp(r:Rec)(sc:aH)(l:Loc)(elt:Expr)(cs:aH):List fG->ag
 |[]=>.none
 |g::gs=>if Fp sc l cs g then(r.E sc l g.iter).bind λit=>(itemsOf it).bind λxs=>(lR (l8 r cs g.ifs λl1=>oq r cs elt gs l1) g.target (free cs l) xs).bind λvs=>if bo vs.length then some (.list vs)else .none else .none
def Yc(sc:aH)(cJ:Loc):Bool:=sc.names.all (λq=>q.2 != .free||(cJ.lookup q.1).isSome)&&cJ.all λq=>sc.names.lookup q.1==some .free
def j5(r:Rec)(a:cH)(body:Expr)(sc:aH)(cJ:Loc)(vs:ab):ag:=
 if ng ⟨a,[],sc⟩&&rC sc&&Yc sc cJ&&a.kwonlyargs.isEmpty then(bindAll a vs []).bind λb=>r.E sc (b++cJ) body else .none
def qi(f:PV->ag):ab->Option (List (ac×PV))
 |[]=>some []
 |x::xs=>(f x).bind λk=>(EP k).bind λq=>(qi f xs).map λr=>(q,x)::r
def pP(own:af)(s:St):Bool:=own.all λy=>s.own.contains y&&s.pin.contains y
def eK(own:af)(q:bG×St):Option (PV×St):=match q.1 with
 | .ret v=>if pP own q.2 then some (v,q.2)else .none
 | .next=>if pP own q.2 then some (.none,q.2)else .none
 | .brk=>.none
def iR(r:Rec)(d:FD)(b:Loc)(own:af):Option (PV×St):=if ng d then(r.B d.scope ⟨b,own,own⟩ d.body).bind (eK own)else .none
def pQ(sc:aH)(l:Loc)(cs:aH):Bool:=rC cs&&freeOk cs sc&&(free cs l).all λp=>(BH p.2 (λz z c2=>some (decide (c2.names=cs.names))) .none).getD true
def xM(ps:List (ac×PV)):ag:=if decide (2<=ps.length)&&decide (ps.length<=4)&&ps.all (λq=>q.1.length==2)&&decide (ps.map (·.1)).Nodup then some (.list ((dE (λx y=>lexLt x.1 y.1) ps).map (·.2)))else .none
structure OM where
 a:cH
 b:Expr
 sc:aH
 cJ:Loc
def NQ(v:PV):Option OM:=B8 v (λa b sc cJ=>some ⟨a,b,sc,cJ⟩) .none
def sortedK(r:Rec)(n:Str)(q:Str×PV)(vs:ab):ag:=
 if decide (n=("sorted":Str))&&decide (q.1=("key":Str))then(NQ q.2).bind λL=>((one vs).bind iu).bind λxs=>(qi (λv=>j5 r L.a L.b L.sc L.cJ [v]) xs).bind xM else .none
def yg(r:Rec)(f:PV)(vs:ab)(kw:Loc):ag:=Ht f (λn=>if(fnOf n).isSome then r.C n vs kw else .none) (OF f (λn=>if rZ.contains n then(match kw with
  |[]=>FU n vs
  |q::ks=>if ks.isEmpty then sortedK r n q vs else .none)else .none) (GG f (if kw.isEmpty then r.C "Whitespace" vs []else .none) (B8 f (λa b sc cJ=>if kw.isEmpty then j5 r a b sc cJ vs else .none) .none)))
def Yd(sc:aH)(l:Loc)(v:PV):Option (cH×ad×aH):=BH v (λa b cs=>if pQ sc l cs then some (a,b,cs)else .none) .none
def vO(sc:aH)(l:Loc)(x:Str):Option (cH×ad×aH):=if decide (kc (sc.names.lookup x)<2)then(l.lookup x).bind (Yd sc l)else .none
def Eu(r:Rec)(l:Loc)(a:cH)(b:ad)(cs:aH)(vs:ab):ag:=if a.kwonlyargs.isEmpty then(bindAll a vs []).bind λbs=>(iR r ⟨a,b,cs⟩ (bs++free cs l) []).map (·.1)else .none
def GI(r:Rec)(sc:aH)(l:Loc):Option Expr->Option ag
 | .none=>some .none
 |some e=>(r.E sc l e).map some
def xS(e:Expr):Bool:=(oH e (λf as z z=>some (jb f.ctorIdx 23&& !as.isEmpty)) .none).getD true
def fields:af:=["raw","n","nt","norm","is_simple"]
def LF(v:PV):Bool:=xE v.ctorIdx 6
def AF:af:=["less","equal","not_less_witness","longest_run_of_spaces","indent_level"]
def MR:Const->ag
 | .none=>some .none
 | .bool b=>some (.bool b)
 | .int i=>some (.int i)
 | .str x=>some (.str x)
 |_=>.none
def MS(p:PV):ag:=if pL p then some p else .none
def eName(sc:aH)(l:Loc)(x:Str):ag:=if decide (kc (sc.names.lookup x)<2)then(l.lookup x).bind MS else if decide (kc (sc.names.lookup x)=2)then glob x else .none
def y7(op:UnaryOp)(v:PV):ag:=match op with
 | .Not=>(truth v).map λb=>.bool !b
 | .USub=>(fj v).map λi=>.int (-i)
 | .Invert=>(fj v).map λi=>.int (-i-1)
 |_=>.none
def yq(op:BoolOp)(t:Bool):Bool:=match op with
 | .And=> !t
 | .Or=>t
def BL(r:Rec)(sc:aH)(l:Loc)(op:BoolOp)(p:Pos)(es:ah)(v:PV):ag:=match es with
 |[]=>some v
 |b::es=>(truth v).bind λt=>if yq op t=true then some v else r.E sc l (.BoolOp op (b::es) p)
def abB(r:Rec)(sc:aH)(l:Loc)(op:CmpOp)(a b:Expr):ag:=if j8 b then(r.E sc l a).bind λx=>(r.E sc l b).bind λy=>(fU op x y).map .bool else .none
def NR(r:Rec)(n:Str)(vs:ab)(p:PV):ag:=BG p (λfs=>if AF.contains n&&(fs.lookup n).isNone then r.C ("Whitespace."++n) (.inst fs::vs) []else .none) (MQ p n vs)
def MT(r:Rec)(sc:aH)(l:Loc)(o:Expr)(n:Str)(apos:Pos)(as:ah)(pos:Pos):ag:=if xS o&&(apos.endLine==pos.line)&&decide (as.length<30)then(r.E sc l o).bind λp=>(dG r sc l as).bind λvs=>NR r n vs p else .none
def vP(r:Rec)(sc:aH)(l:Loc)(f:Str)(q:Pos)(as:ah)(ks:List gY):ag:=match vO sc l f with
 |some c=>if ks.isEmpty then(dG r sc l as).bind λvs=>Eu r l c.1 c.2.1 c.2.2 vs else .none
 | .none=>(r.E sc l (.Name f q)).bind λf=>(dG r sc l as).bind λvs=>(oO r sc l ks).bind λkw=>yg r f vs kw
def Ye(n:Str)(fs:List (Str×PV)):ag:=if fields.contains n then(fs.lookup n).bind λp=>if LF p then some p else .none else .none
def Yf(n:Str)(p:PV):ag:=BG p (Ye n) (GG p (if n=("S":Str)then some (.str " ")else if n=("T":Str)then some (.str "\t")else .none) .none)
def NS(r:Rec)(sc:aH)(l:Loc)(o:Expr)(n:Str):ag:=if xS o then(r.E sc l o).bind (Yf n)else .none
def sliceOf(e:Expr):Option (Option Expr×Option Expr):=MK e (λa b c z=>if c.isNone then some (a,b)else .none) .none
def jB(vs:ab)(a b:ag):ag:=(jx vs.length a 0).bind λi=>(jx vs.length b vs.length).bind λj=>if bo vs.length then some (.list (cut vs i j))else .none
def B9(x:Str)(a b:ag):ag:=(jx x.length a 0).bind λi=>(jx x.length b x.length).bind λj=>if bo x.length then some (.str ⟨(cut x.cps.toList i j).toArray⟩)else .none
def abC(v:PV)(a b:ag):ag:=pV v (λvs=>jB vs a b) (vStr v (λx=>B9 x a b) .none)
def MU(r:Rec)(sc:aH)(l:Loc)(o:Expr)(a b:Option Expr):ag:=(r.E sc l o).bind λv=>(GI r sc l a).bind λa=>(GI r sc l b).bind λb=>abC v a b
def GJ(v:PV)(k:Int):ag:=pV v (λvs=>b0 vs k) (wb v (λvs=>b0 vs k) .none)
def MV(r:Rec)(sc:aH)(l:Loc)(o i:Expr):ag:=(r.E sc l o).bind λv=>((r.E sc l i).bind fj).bind λk=>if bJ k then GJ v k else .none
def yG(f:ab->PV)(r:Rec)(sc:aH)(l:Loc)(es:ah):ag:=(dG r sc l es).bind λvs=>if bo vs.length then some (f vs)else .none
def ZQ(r:Rec)(sc:aH)(l:Loc)(f:Expr)(as:ah)(ks:List gY)(pos:Pos):ag:=pT f (λf q=>vP r sc l f q as ks) (t0 f (λo n apos=>if ks.isEmpty then MT r sc l o n apos as pos else .none) .none)
def ON(sc:aH)(l:Loc)(a:cH)(b:Expr)(ls:aH)(pos:Pos):ag:=if Bo sc pos "<lambda>"&&(kg ls&&(freeOk ls sc&&(a.defaults.isEmpty&&(a.kw_defaults.isEmpty&&((free ls l).all (λp=>pL p.2)&&decide ((free ls l).map (·.1)).Nodup)))))then some (.lam a b ls (free ls l))else .none
def iQ(r:Rec)(sc:aH)(l:Loc)(e:Expr):ag:=
 pT e (λx z=>eName sc l x)<|Fh e (λc z z=>MR c)<|uo e (λa op b z=>(r.E sc l a).bind λx=>(r.E sc l b).bind λy=>bj op x y)<|oH e (ZQ r sc l)<|
 B7 e (λo i z=>if jb i.ctorIdx 26 then(sliceOf i).bind λq=>MU r sc l o q.1 q.2 else MV r sc l o i)<|t0 e (λo n z=>NS r sc l o n)<|GD e (λa ops bs z=>(one ops).bind λop=>(one bs).bind λb=>abB r sc l op a b)<|
 rY e (λes z z=>yG .tup r sc l es)<|BE e (λes z=>yG .list r sc l es)<|Pn e (λop a z=>(r.E sc l a).bind (y7 op))<|
 BD e (λop es p=>(jf es).bind λq=>(r.E sc l q.1).bind (BL r sc l op p q.2))<|y6 e (λt a b z=>(r.E sc l t).bind λv=>(truth v).bind λc=>r.E sc l (if c=true then a else b))<|
 Cv e (λelt gs cs z=>comp r sc l elt cs gs)<|yF e (ON sc l) .none
def x_:af:=["a_digits","q_digits","result","accepted_values","count","a","cells","order","texts","found"]
def Bp(e:Expr):Bool:=jb e.ctorIdx 24
def ZR(e:Expr):Bool:=(uo e (λa op z z=>some (Bp a&&isMul op)) .none).getD false
def vQ(e:Expr):Bool:=Bp e||(uo e (λa op b z=>some ((Bp a&&isMul op)||(isAdd op&&ZR b))) .none).getD false
def hide(own:af)(l:Loc):Loc:=l.filter λp=> !own.contains p.1
def wy{α:Type}(a b:Option α):Option α:=match a with
 |some x=>some x
 | .none=>b
def LG(st:St)(y:Str):St:={st with own:=st.own.filter (· ≠y)}
def Bq(r:Rec)(sc:aH)(st:St)(e:Expr):af->Option (PV×St)
 |[]=>.none
 |y::ys=>wy ((r.E sc (hide (LG st y).own st.loc) e).map λv=>(v,LG st y)) (Bq r sc st e ys)
def B_(r:Rec)(sc:aH)(st:St)(e:Expr):Option (PV×St):=wy ((r.E sc (hide st.own st.loc) e).map λv=>(v,st))
 ((r.E sc (hide [] st.loc) e).bind λv=>if flat v=true then some (v,st)else wy (Bq r sc st e st.own) (some (v,{st with own:=[]})))
def ci(r:Rec)(sc:aH)(st:St)(e:Expr):Option (PV×St):=(B_ r sc st e).bind λq=>if dS q.1 then some q else .none
def eJ:Nat->Bool->aa->ab
 |pos,dZ,[]=>if dZ then[.tup [.int (pos-1:Nat),.str ⟨#[92]⟩]]else[]
 |pos,true,c::r=>.tup [.int pos,.str ⟨#[92,c]⟩]::eJ (pos+1) false r
 |pos,false,c::r=>if c=92 then eJ (pos+1) true r else .tup [.int pos,.str ⟨#[c]⟩]::eJ (pos+1) false r
def jd(x:Str):ab:=eJ 0 false x.cps.toList
def abD(sc:aH)(n:Str)(f:Expr)(as:ah)(ks:List gY):Option Expr:=(fI f).bind λx=>(one as).bind λe=>if ks.isEmpty&&decide (sc.names.lookup x=some .globalImplicit)&&decide (x=n)&&notStar e then some e else .none
def lX(sc:aH)(n:Str)(e:Expr):Option Expr:=oH e (λf as ks z=>abD sc n f as ks) .none
def OO(q:PV×St):Option (Str×St):=(t5 q.1).map λx=>(x,q.2)
def NU(q:PV×St):Option (ab×St):=(iu q.1).map λx=>(x,q.2)
def B'(q:PV×St):Option (Int×St):=(fj q.1).map λx=>(x,q.2)
def yr(e:Expr):Bool:= !(jb e.ctorIdx 9||jb e.ctorIdx 10)
def GL(e:Expr):Bool:=jb e.ctorIdx 8
def A8(st:St):Bool:=st.own.all λy=>((st.loc.lookup y).bind Bm).isNone
def cm(sc:aH)(st:St)(x:Str):Bool:=gf sc x&& !st.pin.contains x
def b9(st:St)(ns:af):af:=st.own.filter λy=> !ns.contains y
def FW(o:Option (bG×St))(f:St->Option (bG×St)):Option (bG×St):=o.bind λq=>match q.1 with
 | .next=>f q.2
 | .brk=>some q
 | .ret _=>some q
def vV(o:Option (bG×St))(f:St->Option (bG×St)):Option (bG×St):=o.bind λq=>match q.1 with
 | .next=>f q.2
 | .brk=>some (.next,q.2)
 | .ret _=>some q
def dT(r:Rec)(sc:aH)(t:Expr)(body:ad):ab->St->Option (bG×St)
 |[],st=>some (.next,st)
 |x::xs,st=>if(gp t).all (cm sc st)then(fz t st.loc x).bind λl=>vV (r.B sc {st with loc:=l,own:=b9 st (gp t)} body) λst=>dT r sc t body xs st else .none
def four{α:Type}(l:List α):Option (α×α×α×α):=(jf l).bind λa=>(jf a.2).bind λb=>(jf b.2).bind λc=>(one c.2).map λd=>(a.1,b.1,c.1,d)
def isNil(e:Expr):Bool:=(BE e (λes z=>some es.isEmpty) .none).getD false
def kh(e:Expr):Option ah:=rY e (λes z z=>some es) .none
def Br(ts:ah)(e:Expr):Option ((Str×Str×Str×Str)×Expr):=(four ts).bind λt=>(fI t.1).bind λa=>(fI t.2.1).bind λb=>(fI t.2.2.1).bind λc=>(fI t.2.2.2).bind λd=>((kh e).bind four).bind λv=>
 if isNil v.1&&isNil v.2.1&&isNil v.2.2.1&&x_.contains a&&x_.contains b&&notStar v.2.2.2 then some ((a,b,c,d),v.2.2.2)else .none
def FX:ja->Bool
 | .Add| .Sub| .LShift| .RShift=>true
 |_=>false
def Bs(e:Expr):Bool:=(rY e (λvs z z=>some (vs.all (foldedForSure 8)|| !vs.all (constantsAlone 8))) .none).getD true
def uc(st:St)(y:Str)(o:ag):Option (bG×St):=(o.bind iu).bind λus=>if b_ us then some (.next,{st with loc:=bq st.loc y (.list us)})else .none
def nh(q:PV×St):Option St:=if isNone q.1 then some q.2 else .none
def KM(r:Rec)(sc:aH)(st:St)(a:cH)(b:ad)(fs:aH)(as:ah):Option (bG×St):=(dG r sc st.loc as).bind λvs=>
 if vs.all flat&&pQ sc st.loc fs&&a.kwonlyargs.isEmpty then(bindAll a vs []).bind λbs=>(one (st.own.filter (λy=>fs.names.lookup y==some .free))).bind λy=>((st.loc.lookup y).bind iu).bind λz=>
  ((iR r ⟨a,b,fs⟩ (bs++free fs st.loc) [y]).bind nh).bind λs2=>uc st y (s2.loc.lookup y)else .none
def Kj(r:Rec)(sc:aH)(st:St)(y:Str)(es:ah)(ks:List gY)(n:Str):Option (bG×St):=if st.own.contains y then
 ((st.loc.lookup y).bind iu).bind λu=>(dG r sc (hide st.own st.loc) es).bind λvs=>(oO r sc (hide st.own st.loc) ks).bind λkw=>(fnOf n).bind λd=>if pO d.scope then
  (tU (.int 0) .none d.args vs kw).bind λq=>((iR r d ((q.1,.list u)::q.2) [q.1]).bind nh).bind λs2=>uc st y (s2.loc.lookup q.1)else .none else .none
def OP(r:Rec)(sc:aH)(st:St):Option Expr->Option (bG×St)
 |some e=>(ci r sc st e).map λq=>(.ret q.1,q.2)
 | .none=>some (.ret .none,st)
def Po(r:Rec)(sc:aH)(st:St)(t:Expr)(a b:ad):Option (bG×St):=(ci r sc st t).bind λq=>(truth q.1).bind λc=>r.B sc q.2 (if c=true then a else b)
def wc(r:Rec)(sc:aH)(st:St)(t e:Expr)(body:ad):Option (bG×St):=match lX sc "reversed" e with
 |some e=>((ci r sc st e).bind NU).bind λq=>dT r sc t body q.1.reverse q.2
 | .none=>match lX sc "_iter_escaped_chars" e with
  |some e=>((ci r sc st e).bind OO).bind λq=>dT r sc t body (jd q.1) q.2
  | .none=>if j8 e then(ci r sc st e).bind λq=>(itemsOf q.1).bind λxs=>dT r sc t body xs q.2 else .none
def ZS(sc:aH)(st:St)(nm:Str)(a:cH)(b:ad)(fs:aH)(pos:Pos):Bool:=ng ⟨a,b,fs⟩&&(cm sc st nm&&(Bo sc pos nm&&(freeOk fs sc&&(rC fs&&((a.defaults.isEmpty&&a.kw_defaults.isEmpty&&a.kwonlyargs.isEmpty&&a.args.all (λq=>q.annotation.isNone))&&(free fs st.loc).all (λq=>pL q.2))))))
def OQ(sc:aH)(st:St)(nm:Str)(a:cH)(b:ad)(fs:aH)(bn:Str)(pos:Pos):Option (bG×St):=if decide (bn=nm)&&ZS sc st nm a b fs pos then
 some (.next,{st with loc:=bq st.loc nm (.gc a b fs),own:=b9 st [nm]})else .none
def abE(r:Rec)(sc:aH)(st:St)(x:Str)(op:ja)(e:Expr):Option (bG×St):=((st.loc.lookup x).bind fj).bind λu=>((ci r sc st e).bind B').bind λq=>
 if !q.2.own.contains x&&cm sc q.2 x&&FX op then(bj op (.int u) (.int q.1)).map λw=>(.next,{q.2 with loc:=bq q.2.loc x w})else .none
def Yg(r:Rec)(sc:aH)(st:St)(x:Str)(e:Expr):Option (bG×St):=((r.E sc st.loc e).bind iu).bind λvs=>if vs.all flat then some (.next,{st with loc:=bq st.loc x (.list vs),own:=x::b9 st [x]})else .none
def NV(r:Rec)(sc:aH)(st:St)(x:Str)(e:Expr):Option (bG×St):=if cm sc st x&&yr e&&(!GL e||A8 st)then
  (if(vQ e&&x_.contains x)=true then Yg r sc st x e
  else(ci r sc st e).map λq=>(.next,{q.2 with loc:=bq q.2.loc x q.1,own:=b9 q.2 [x]}))else .none
def ZT(r:Rec)(sc:aH)(st:St)(q:(Str×Str×Str×Str)×Expr):Option (bG×St):=if st.own.isEmpty then(r.E sc st.loc q.2).bind λv=>
 if decide ([q.1.1,q.1.2.1,q.1.2.2.1,q.1.2.2.2].Nodup)&&dS v then some (.next,{st with loc:=bq (bq (bq (bq st.loc q.1.1 (.list [])) q.1.2.1 (.list [])) q.1.2.2.1 (.list [])) q.1.2.2.2 v,own:=[q.1.2.1,q.1.1]})else .none else .none
def OR(r:Rec)(sc:aH)(st:St)(t:Expr)(ts:ah)(e:Expr):Option (bG×St):=if(gp t).all (cm sc st)then
 (match Br ts e with
  |some q=>ZT r sc st q
  | .none=>if Bs e then(ci r sc st e).bind λq=>(fz t q.2.loc q.1).map λl=>(.next,{q.2 with loc:=l,own:=b9 q.2 (gp t)})else .none)else .none
def Yh(r:Rec)(sc:aH)(st:St)(x y z:Str)(e:Expr):Option (bG×St):=if cm sc st x&&cm sc st y&&cm sc st z then(ci r sc st e).bind λq=>
 if flat q.1 then some (.next,{q.2 with loc:=bq (bq (bq q.2.loc x q.1) y q.1) z q.1,own:=b9 q.2 [x,y,z]})else .none else .none
def abF(r:Rec)(sc:aH)(st:St)(x:Str)(i e:Expr):Option (bG×St):=(ci r sc st e).bind λq=>((ci r sc q.2 i).bind B').bind λk=>if flat q.1&&k.2.own.contains x then
 ((k.2.loc.lookup x).bind iu).bind λvs=>if decide (0<=k.1)&&decide (k.1.toNat<vs.length)&&bJ k.1 then some (.next,{k.2 with loc:=bq k.2.loc x (.list (vs.set k.1.toNat q.1))})else .none else .none
def ZU(r:Rec)(sc:aH)(st:St)(x n:Str)(e:Expr):Option (bG×St):=(ci r sc st e).bind λq=>if q.2.own.contains x then
 ((q.2.loc.lookup x).bind Bm).bind λfs=>if fields.contains n&&(fs.lookup n).isNone&&decide (fs.length<=10)then some (.next,{q.2 with loc:=bq q.2.loc x (.inst (bq fs n q.1))})else .none else .none
def KN(r:Rec)(sc:aH)(st:St)(t e:Expr):Option (bG×St):=pT t (λx z=>NV r sc st x e)<|rY t (λts z z=>OR r sc st t ts e)<|B7 t (λo i z=>(fI o).bind λx=>abF r sc st x i e)<|t0 t (λo n z=>(fI o).bind λx=>ZU r sc st x n e) .none
def UV(r:Rec)(sc:aH)(st:St)(a b:Expr)(ts:ah)(e:Expr):Option (bG×St):=(fI a).bind λx=>(fI b).bind λy=>(one ts).bind λc=>(fI c).bind λz=>Yh r sc st x y z e
def Wm(r:Rec)(sc:aH)(st:St)(ts:ah)(e:Expr):Option (bG×St):=match ts with
 |[]=>.none
 |t::ts=>match ts with
  |[]=>KN r sc st t e
  |b::ts=>UV r sc st t b ts e
def Wn(r:Rec)(sc:aH)(st:St)(x:Str)(vs:ab)(as:ah):Option (bG×St):=(one as).bind λe=>if notStar e then(ci r sc st e).bind λq=>
 if q.2.own.contains x&&bo vs.length then some (.next,{q.2 with loc:=bq q.2.loc x (.list (vs++[q.1]))})else .none else .none
def Wo(r:Rec)(sc:aH)(st:St)(x:Str)(vs:ab)(as:ah):Option (bG×St):=(jf as).bind λp=>(one p.2).bind λe=>if notStar p.1&&notStar e then((ci r sc st p.1).bind B').bind λk=>(ci r sc k.2 e).bind λq=>
 if q.2.own.contains x&&decide (0<=k.1)&&decide (k.1.toNat<=vs.length)&&bo vs.length then some (.next,{q.2 with loc:=bq q.2.loc x (.list (vs.take k.1.toNat++q.1::vs.drop k.1.toNat))})else .none else .none
def UW(st:St)(x:Str)(vs:ab)(as:ah):Option (bG×St):=if as.isEmpty&&bo vs.length then some (.next,{st with loc:=bq st.loc x (.list vs.reverse)})else .none
def ZV(r:Rec)(sc:aH)(st:St)(x n:Str)(vs:ab)(as:ah):Option (bG×St):=
 if n=("append":Str)then Wn r sc st x vs as
 else if n=("insert":Str)then Wo r sc st x vs as
 else if n=("reverse":Str)then UW st x vs as
 else .none
def MW(r:Rec)(sc:aH)(st:St)(x n:Str)(apos:Pos)(as:ah)(fA:Pos):Option (bG×St):=if st.own.contains x&&(apos.endLine==fA.line)then((st.loc.lookup x).bind iu).bind λvs=>ZV r sc st x n vs as else .none
def Yi(r:Rec)(sc:aH)(st:St)(as:ah)(ks:List gY)(p:PV):Option (bG×St):=BH p (λa b fs=>if ks.isEmpty then KM r sc st a b fs as else .none) (Ht p (λn=>(jf as).bind λq=>(fI q.1).bind λy=>Kj r sc st y q.2 ks n) .none)
def FY(r:Rec)(sc:aH)(st:St)(f:Expr)(as:ah)(ks:List gY)(fA:Pos):Option (bG×St):=pT f (λf z=>(st.loc.lookup f).bind (Yi r sc st as ks)) (t0 f (λo n apos=>(fI o).bind λx=>if ks.isEmpty then MW r sc st x n apos as fA else .none) .none)
def NW(r:Rec)(sc:aH)(st:St)(e:Expr):Option (bG×St):=oH e (FY r sc st) .none
def NX(r:Rec)(sc:aH)(st:St)(s:Stmt):Option (bG×St):=
 pU s (λts e z=>Wm r sc st ts e)<|uq s (λt a b z=>Po r sc st t a b)<|FR s (λe z=>NW r sc st e)<|BF s (λo z=>OP r sc st o)<|FQ s (λt op e z=>(fI t).bind λx=>abE r sc st x op e)<|
 rK s (λt e body jK z=>if jK.isEmpty then wc r sc st t e body else .none)<|x9 s (λt a jK z=>if jK.isEmpty then r.W sc st t a else .none)<|NL s (λz=>some (.brk,st))<|MM s (λz=>some (.next,st))<|
 vT s (λnm a b ds rt tp fs tc bn pos=>if ds.isEmpty&&rt.isNone&&tp.isEmpty&&tc.isNone then OQ sc st nm a b fs bn pos else .none) .none
def NY(r:Rec)(sc:aH)(st:St):ad->Option (bG×St)
 |[]=>some (.next,st)
 |s::ss=>FW (r.S sc st s) λst=>r.B sc st ss
def NZ(r:Rec)(sc:aH)(st:St)(t:Expr)(body:ad):Option (bG×St):=(ci r sc st t).bind λq=>(truth q.1).bind λc=>if c=true then vV (r.B sc q.2 body) λst=>r.W sc st t body else some (.next,q.2)
def A9(n:Str):Option FD:=match fnOf n with
 |some d=>some d
 | .none=>if n=("Whitespace.less":Str)then lV "less" else if n=("Whitespace.equal":Str)then lV "equal" else if n=("Whitespace.not_less_witness":Str)then lV "not_less_witness"
  else if n=("Whitespace.longest_run_of_spaces":Str)then lV "longest_run_of_spaces" else if n=("Whitespace.indent_level":Str)then lV "indent_level" else .none
def abG(r:Rec)(vs:ab)(kw:Loc):ag:=(lV "__init__").bind λd=>if pO d.scope then(tU (.int 0) .none d.args vs kw).bind λq=>((iR r d ((q.1,.inst [])::q.2) [q.1]).bind nh).bind λs=>s.loc.lookup q.1 else .none
def cFn(r:Rec)(n:Str)(vs:ab)(kw:Loc):ag:=(A9 n).bind λd=>if pO d.scope then(bindAll d.args vs kw).bind λb=>(iR r d b []).map (·.1)else .none
def N0(r:Rec)(n:Str)(vs:ab)(kw:Loc):ag:=if n=("Whitespace":Str)then abG r vs kw else cFn r n vs kw
def bot:Rec:=⟨λz z z=>.none,λz z z=>.none,λz z z=>.none,λz z z z=>.none,λz z z=>.none⟩
def step(r:Rec):Rec:=⟨iQ r,NX r,NY r,NZ r,N0 r⟩
def ev:Nat->Rec
 |0=>bot
 |n+1=>step (ev n)
theorem aF{α β:Type}{o:Option α}{f:α->Option β}{b:β}{P:Prop}(e:o.bind f=some b)(k:∀a,o=some a->f a=some b->P):P:=by
 induction o with
 |some a=>exact k a rfl e
 |none=>exact aK e
theorem cj{α β:Type}{o:Option α}{f:α->β}{b:β}{P:Prop}(e:o.map f=some b)(k:∀a,o=some a->f a=b->P):P:=aF (Option.map_eq_bind.symm.trans e) λa h1 h2=>k a h1 (av h2)
theorem aZ{c:Bool}{α:Type}{x:Option α}{p:α}{P:Prop}(e:(if c=true then x else none)=some p)(k:c=true->x=some p->P):P:=if h:c=true then k h ((aA h).symm.trans e)else aK ((aJ h).symm.trans e)
theorem GN{c:Prop}[Decidable c]{α:Type}{x:Option α}{p:α}{P:Prop}(e:(if c then none else x)=some p)(k:¬c->x=some p->P):P:=if h:c then aK ((aA h).symm.trans e)else k h ((aJ h).symm.trans e)
theorem dU{c:Prop}[Decidable c]{α:Type}{x y:Option α}{p:α}{P:Prop}(e:(if c then x else y)=some p)(k:c->x=some p->P)(k2:¬c->y=some p->P):P:=if h:c then k h ((aA h).symm.trans e)else k2 h ((aJ h).symm.trans e)
theorem GO{α:Type}{a b:Option α}{x:α}{P:Prop}(e:wy a b=some x)(k1:a=some x->P)(k2:b=some x->P):P:=by
 induction a with
 |some y=>exact k1 e
 |none=>exact k2 e
theorem be{a b:Bool}{P:Prop}(h:(a&&b)=true)(k:a=true->b=true->P):P:=k (rh.mp h).1 (rh.mp h).2
theorem gq{a b:Bool}(h:a=true)(k:b=true):(a&&b)=true:=rh.mpr ⟨h,k⟩
theorem gg{a b c:Bool}{P:Prop}(h:(a&&b&&c)=true)(k:a=true->b=true->c=true->P):P:=be h λh h3=>be h λh1 h2=>k h1 h2 h3
theorem r7{a b c d:Bool}{P:Prop}(h:(a&&b&&c&&d)=true)(k:a=true->b=true->c=true->d=true->P):P:=be h λh h4=>gg h λh1 h2 h3=>k h1 h2 h3 h4
theorem yH{a b c d e f g:Bool}{P:Prop}(h:(a&&(b&&(c&&(d&&(e&&(f&&g))))))=true)(k:a=true->b=true->c=true->d=true->e=true->f=true->g=true->P):P:=
 be h λh1 h=>be h λh2 h=>be h λh3 h=>be h λh4 h=>be h λh5 h=>be h λh6 h7=>k h1 h2 h3 h4 h5 h6 h7
theorem ud{b:Bool}(h:(!b)=true):b=false:=vo b▸h
theorem f9{f fl:bG}{s1 aO:St}{P:bG->St->Prop}(e:some (f,s1)=some (fl,aO))(k:P f s1):P fl aO:=(xz (av e)).1▸(xz (av e)).2▸k
theorem jv{p:PV}{i:Int}(e:fj p=some i):p=.int i:=rL e (λj q h=>q.trans (aR _ (av h))) aK
theorem vE{p:PV}{i:Str}(e:t5 p=some i):p=.str i:=vU e (λj q h=>q.trans (aR _ (av h))) aK
theorem AG{p:PV}{i:ab}(e:iu p=some i):p=.list i:=tT e (λj q h=>q.trans (aR _ (av h))) aK
theorem KO{p:PV}{i:ab}(e:FV p=some i):p=.tup i:=FT e (λj q h=>q.trans (aR _ (av h))) aK
theorem TD{p:PV}{i:List (Str×PV)}(e:Bm p=some i):p=.inst i:=Fj e (λj q h=>q.trans (aR _ (av h))) aK
theorem UX{p:PV}{i:Str}(e:BI p=some i):p=.exc i:=ZO e (λj q h=>q.trans (aR _ (av h))) aK
theorem UY{p:PV}{i:OM}(e:NQ p=some i):p=.lam i.a i.b i.sc i.cJ:=NM e (λz z z z q h=>av h▸q) aK
theorem Kk{p:PV}(e:isNone p=true):p=.none:=PV.none.elim (motive_1 :=(· =.none)) p (rg e) rfl
@[elab_as_elim] theorem Yj {e:Expr} {q:Option Expr×Option Expr} {C:Expr->Prop} (h:sliceOf e=some q) (k:∀p,C (.Slice q.1 q.2 .none p)):C e:=Wk h (λa b c p h=>aZ h λhc h=>by
 obtain rfl:=av h;rw[jp.mp hc];exact k p) aK
@[elab_as_elim] theorem ka {e:Expr} {x:Str} {C:Expr->Prop} (h:fI e=some x) (k:∀p,C (.Name x p)):C e:=rG h (λz p h=>av h▸k p) aK
theorem xT{e:Expr}{x:Str}(h:fI e=some x):∃p,e=.Name x p:=ka (C:=λe=>∃p,e=.Name x p) h λp=>⟨p,rfl⟩
@[elab_as_elim] theorem FZ {e:Expr} {es:ah} {C:Expr->Prop} (h:kh e=some es) (k:∀n p,C (.Tuple es n p)):C e:=yn h (λz n p h=>av h▸k n p) aK
theorem Wp{e:Expr}{es:ah}(h:kh e=some es):∃k p,e=.Tuple es k p:=FZ (C:=λe=>∃k p,e=.Tuple es k p) h λk p=>⟨k,p,rfl⟩
theorem Hu{o:Option Bool}(h:o.getD false=true):o=some true:=by
 induction o with
 |none=>cases h
 |some b=>exact aR some h
theorem Ev{e:Expr}(h:isNil e=true):∃p,e=.List [] p:=MJ (C:=λe=>∃p,e=.List [] p) (Hu h) (λes p h=>⟨p,by rw[dd (av h)]⟩) aK
theorem KQ{o:ja}(h:isAdd o=true):o=.Add:=Operator.Add.elim (motive:=(· =.Add)) o (rg h) rfl
theorem KR{o:ja}(h:isMul o=true):o=.Mult:=Operator.Mult.elim (motive:=(· =.Mult)) o (rg h) rfl
theorem oP{α β:Type}{o:Option α}{f:α->Option β}{g:β->α}(hf:∀{a b},f a=some b->a=g b){b:β}(e:o.bind f=some b):o=some (g b):=aF e λz h1 h2=>h1.trans (aR some (hf h2))
theorem GP{o:ag}{i:Int}(e:o.bind fj=some i):o=some (.int i):=oP jv e
theorem ue{o:ag}{i:ab}(e:o.bind iu=some i):o=some (.list i):=oP AG e
theorem ZW{o:ag}{i:List (Str×PV)}(e:o.bind Bm=some i):o=some (.inst i):=oP TD e
theorem abH{o:ag}{i:Str}(e:o.bind BI=some i):o=some (.exc i):=oP UX e
theorem GQ{o:Option (PV×St)}{q:Int×St}(e:o.bind B'=some q):o=some (.int q.1,q.2):=oP (g:=λq=>(.int q.1,q.2)) (λ{a b} h=>cj h λi h1 h2=>by rw[<-h2,<-jv h1]) e
theorem abI{o:Option (PV×St)}{q:Str×St}(e:o.bind OO=some q):o=some (.str q.1,q.2):=oP (g:=λq=>(.str q.1,q.2)) (λ{a b} h=>cj h λi h1 h2=>by rw[<-h2,<-vE h1]) e
theorem ZX{o:Option (PV×St)}{q:ab×St}(e:o.bind NU=some q):o=some (.list q.1,q.2):=oP (g:=λq=>(.list q.1,q.2)) (λ{a b} h=>cj h λi h1 h2=>by rw[<-h2,<-AG h1]) e
theorem GR{o:Option (PV×St)}{q:St}(e:o.bind nh=some q):o=some (.none,q):=oP (g:=λq=>(.none,q)) (λ{a b} h=>aZ h λh1 h2=>by rw[<-av h2,<-Kk h1]) e
theorem gZ{α:Type}{l:List α}{q:α×List α}(h:jf l=some q):l=q.1::q.2:=by
 induction l with
 |nil=>exact aK h
 |cons b r=>exact av h▸rfl
theorem fH{α:Type}{l:List α}{a:α}(h:one l=some a):l=[a]:=by
 induction l with
 |nil=>exact aK h
 |cons b r=>induction r with
  |nil=>exact av h▸rfl
  |cons _ _=>exact aK h
theorem LH{α:Type}{l:List α}{q:α×α×α×α}(h:four l=some q):l=[q.1,q.2.1,q.2.2.1,q.2.2.2]:=
 aF h λa h1 h=>aF h λb h2 h=>aF h λc h3 h=>cj h λd h4 h=>h▸(gZ h1).trans (aR (a.1:: ·) ((gZ h2).trans (aR (b.1:: ·) ((gZ h3).trans (aR (c.1:: ·) (fH h4))))))
theorem Bt{l:ab}{i:Int}(e:(one l).bind fj=some i):l=[.int i]:=fH (GP e)
theorem ya{l:ab}{i:ab}(e:(one l).bind iu=some i):l=[.list i]:=fH (ue e)
theorem Yk{l:ab}{i:Str}(e:(one l).bind BI=some i):l=[.exc i]:=fH (abH e)
structure Maker where
 c:aw
 P:aw
 line:Nat
 col:Nat
 qual:Str
 fn:Str
 nm:Str
structure bE where
 prog:Program
 w:World
 hb:bT
 mg:am
 mb:am
 K:Frag
 C:aw
 makers:List Maker
def bE.tab(G:bE)(b:aw):Prop :=∃m∈G.makers,b=m.P
noncomputable abbrev bR(vs:aj)(n:Nat):Obj:={cls:=.type "list",dict:=none,data:=.seq vs n,slots:= #[]}
noncomputable abbrev Vw:=aw->Obj->Prop
inductive rN(V:Vw)(P:List ar->Prop)(v:ar):Prop
 |mk (a:aw) (vs:aj) (n:Nat) (e:v=.ref a) (h:V a (bR vs n)) (r:P vs.toList)
inductive r_(V:Vw)(P:List ar->Prop)(v:ar):Prop
 |mk (a:aw) (o:Obj) (vs:aj) (n:Nat) (e:v=.ref a) (h:V a o) (hc:o.cls=.type "tuple") (hd:o.data=.seq vs n) (r:P vs.toList)
inductive pX(V:Vw)(a b c:Int)(v:ar):Prop
 |mk (r:aw) (t1 t2 t3:Tok) (e:v=.ref r) (h:V r {cls:=.type "range",dict:=none,data:=.fields #[.int a t1,.int b t2,.int c t3],slots:= #[]})
inductive tV(V:Vw)(C:aw)(P:List kQ->Prop)(v:ar):Prop
 |mk (x:aw) (ox:Obj) (dx:aw) (od:Obj) (es:Array kQ) (n:Nat) (e:v=.ref x) (h:V x ox) (hc:ox.cls=.ref C) (hd:ox.data=.plain) (hx:ox.dict=some dx) (h2:V dx od) (hd2:od.data=.dict es n) (r:P es.toList)
inductive uf(V:Vw)(w:ar)(q:Str):Prop
 |mk (c:aw) (oc:Obj) (wz:aj) (t:Tok) (e:w=.ref c) (h:V c oc) (hd:oc.data=.fields wz) (hq:wz[1]? =some (.str q t))
inductive pY(V:Vw)(a:cH)(b:Expr)(sc:aH)(P:List (Str×aw)->Prop)(v:ar):Prop
 |mk (f:aw) (o:Obj) (fd:tF) (e:v=.ref f) (h:V f o) (hd:o.data=.func fd) (h1:fd.params=a) (h2:fd.body=.expr b) (h3:fd.scope=sc) (h4:fd.globals=fS) (h5:fd.builtins=fZ) (h6:fd.defaults=.none) (h7:fd.kwdefaults=.none) (hc:uf V fd.code fd.qualname) (r:P fd.closure)
inductive rO(V:Vw)(m:Str)(v:ar):Prop
 |mk (e:aw) (o:Obj) (t:Tok) (ea:aw) (eo:Obj) (n:Nat) (q:v=.ref e) (h:V e o) (hc:o.cls=.type "ValueError") (hd:∃vs,o.data=.fields vs/\vs[0]? =some (.ref ea)) (h2:V ea eo) (hc2:eo.cls=.type "tuple") (hd2:eo.data=.seq #[.str m t] n)
inductive ur(V:Vw)(P:ar->Prop)(cl:List (Str×aw))(x:Str):Prop
 |mk (c:aw) (o:Obj) (v:ar) (hl:cl.lookup x=some c) (h:V c o) (hd:o.data=.cell (some v)) (r:P v)
mutual
def RelV(G:bE)(V:Vw):PV->ar->Prop
 | .none,v=>v=.none
 | .bool b,v=>v=.bool b
 | .int i,v=>∃t,v=.int i t
 | .str x,v=>∃t,v=.str x t
 | .list ps,v=>rN V (aN G V ps) v
 | .tup ps,v=>r_ V (aN G V ps) v
 | .ey a b c,v=>pX V a b c v
 | .fn n,v=>G.mg n=some v
 | .cls,v=>G.mg "Whitespace"=some v
 | .blt n,v=>G.mg n=none/\G.mb n=some v
 | .inst fs,v=>tV V G.C (gh G V fs) v
 | .lam a b sc cJ,v=>pY V a b sc (qj G V cJ) v
 | .gc _ _ _,_=>False
 | .exc m,v=>rO V m v
def aN(G:bE)(V:Vw):ab->List ar->Prop
 |[],[]=>True
 |p::ps,v::vs=>RelV G V p v/\aN G V ps vs
 |_,_=>False
def gh(G:bE)(V:Vw):List (Str×PV)->List kQ->Prop
 |[],[]=>True
 |(x,p)::ps,e::es=>(∃t,e.key=.str x t)/\RelV G V p e.val/\gh G V ps es
 |_,_=>False
def qj(G:bE)(V:Vw):List (Str×PV)->List (Str×aw)->Prop
 |[],_=>True
 |(x,p)::ps,cl=>ur V (RelV G V p) cl x/\qj G V ps cl
end
theorem rN.mono(k:∀b o,V b o->(∀v,o.data≠.cell v)->V' b o)(r:∀{vs},P vs->P' vs)(h:rN V P v):rN V' P' v:=by obtain⟨a,vs,n,e,h,q⟩:=h;exact⟨a,vs,n,e,k _ _ h (λz h=>jS h),r q⟩
theorem r_.mono(k:∀b o,V b o->(∀v,o.data≠.cell v)->V' b o)(r:∀{vs},P vs->P' vs)(h:r_ V P v):r_ V' P' v:=by obtain⟨a,o,vs,n,e,h,h2,h3,q⟩:=h;exact⟨a,o,vs,n,e,k _ _ h (λv q=>jS (h3.symm.trans q)),h2,h3,r q⟩
theorem pX.mono(k:∀b o,V b o->(∀v,o.data≠.cell v)->V' b o)(h:pX V a b c v):pX V' a b c v:=by obtain⟨r,t1,t2,t3,e,h⟩:=h;exact⟨r,t1,t2,t3,e,k _ _ h (λz h=>jS h)⟩
theorem tV.mono(k:∀b o,V b o->(∀v,o.data≠.cell v)->V' b o)(r:∀{vs},P vs->P' vs)(h:tV V C P v):tV V' C P' v:=by obtain⟨x,ox,dx,od,es,n,e,h1,h2,h3,h4,h5,h6,h7⟩:=h;exact⟨x,ox,dx,od,es,n,e,k _ _ h1 (λv q=>jS (h3.symm.trans q)),h2,h3,h4,k _ _ h5 (λv q=>jS (h6.symm.trans q)),h6,r h7⟩
theorem uf.mono(k:∀b o,V b o->V' b o)(h:uf V w q):uf V' w q:=by obtain⟨c,oc,wz,t,g1,g2,g3,g4⟩:=h;exact⟨c,oc,wz,t,g1,k _ _ g2,g3,g4⟩
theorem pY.mono(k:∀b o,V b o->V' b o)(r:∀{vs},P vs->P' vs)(h:pY V a b sc P v):pY V' a b sc P' v:=by obtain⟨f,o,fd,e,h1,h2,h3,h4,h5,h6,h7,h8,h9,fX,uF⟩:=h;exact⟨f,o,fd,e,k _ _ h1,h2,h3,h4,h5,h6,h7,h8,h9,fX.mono k,r uF⟩
theorem rO.mono(k:∀b o,V b o->(∀v,o.data≠.cell v)->V' b o)(h:rO V m v):rO V' m v:=by obtain⟨e,o,t,ea,eo,n,q,h1,h2,⟨vs,h3,h3'⟩,h4,h5,h6⟩:=h;exact⟨e,o,t,ea,eo,n,q,k _ _ h1 (λv q=>jS (h3.symm.trans q)),h2,⟨vs,h3,h3'⟩,k _ _ h4 (λv q=>jS (h6.symm.trans q)),h5,h6⟩
theorem ur.mono(k:∀b o,V b o->V' b o)(r:∀{v},P v->P' v)(h:ur V P cl x):ur V' P' cl x:=by obtain⟨c,o,v,h1,h2,h3,h4⟩:=h;exact⟨c,o,v,h1,k _ _ h2,h3,r h4⟩
section mono
variable{G:bE}{V V':Vw}
theorem aN.fW{vs:List ar}{P:List ar->Prop}(h:aN G V [] vs)(k:P []):P vs:=by
 induction vs with
 |nil=>exact k
 |cons _ _=>exact tA h
theorem aN.fJ{p:PV}{ps:ab}{vs:List ar}{P:List ar->Prop}(h:aN G V (p::ps) vs)(k:∀v us,RelV G V p v->aN G V ps us->P (v::us)):P vs:=by
 induction vs with
 |nil=>exact tA h
 |cons v us=>exact k v us h.1 h.2
noncomputable abbrev Cx(V V':Vw):Prop :=∀b o,V b o->(∀v,o.data≠.cell v)->V' b o
noncomputable abbrev mf(b:Bool)(V V':Vw):Prop :=b=true\/∀b o,V b o->V' b o
theorem mf.l{a b:Bool}(n:mf (a&&b) V V'):mf a V V':=n.imp_left λh=>(rh.mp h).1
theorem mf.r{a b:Bool}(n:mf (a&&b) V V'):mf b V V':=n.imp_left λh=>(rh.mp h).2
theorem RelV.gen(k:Cx V V')(p:PV):∀{v:ar},mf (dS p) V V'->RelV G V p v->RelV G V' p v:=
 PV.rec (motive_1 :=λp=>∀{v:ar},mf (dS p) V V'->RelV G V p v->RelV G V' p v)
  (motive_2 :=λps=>∀{vs:List ar},mf (b_ ps) V V'->aN G V ps vs->aN G V' ps vs)
  (motive_3 :=λps=>(∀{es:List kQ},mf (Fo ps) V V'->gh G V ps es->gh G V' ps es)/\∀{cl:List (Str×aw)},(∀b o,V b o->V' b o)->qj G V ps cl->qj G V' ps cl)
  (motive_4 :=λq=>∀{v:ar},mf (dS q.2) V V'->RelV G V q.2 v->RelV G V' q.2 v)
  (λz h=>h) (λz z z h=>h) (λz z z h=>h) (λz z z h=>h) (λz ih z n h=>rN.mono k (ih n) h) (λz ih z n h=>r_.mono k (ih n) h) (λz z z z z h=>pX.mono k h) (λz z z h=>h) (λz h=>h) (λz z z h=>h)
  (λz ih z n h=>tV.mono k (ih.1 n) h) (λz z z z ih z n h=>n.elim (λn=>xm n) λkk=>pY.mono kk (ih.2 kk) h) (λz z z z z h=>h) (λz z z h=>rO.mono k h)
  (λ{vs} _ h=>h.fW (P:=λvs=>aN G V' [] vs) trivial) (λp ps ih sp {vs} n h=>h.fJ (P:=λvs=>aN G V' (p::ps) vs) λz z h1 h2=>oj (ih n.l h1) (sp n.r h2))
  ⟨λ{es} _ h=>by induction es<;>exact h,λz h=>h⟩ (λq ps ih sp=>⟨λ{es} n h=>by
   induction es with
   |nil=>exact h
   |cons e es _=>exact oj h.1 (oj (ih n.l h.2.1) (sp.1 n.r h.2.2)),λkk h=>oj (ur.mono kk (ih (.inr kk)) h.1) (sp.2 kk h.2)⟩) (λz z ih=>ih) p
theorem RelV.mono(k:∀b o,V b o->V' b o)(p){v:ar}(h:RelV G V p v):RelV G V' p v:=RelV.gen (λb o h z=>k b o h) p (.inr k) h
theorem RelV.Fq(k:Cx V V')(p){v:ar}(n:dS p=true)(h:RelV G V p v):RelV G V' p v:=RelV.gen k p (.inl n) h
theorem aN.gen(k:Cx V V')(ps){vs:List ar}(n:mf (b_ ps) V V')(h:aN G V ps vs):aN G V' ps vs:=by
 induction ps generalizing vs with
 |nil=>exact h.fW trivial
 |cons p ps ih=>exact h.fJ λz z h1 h2=>oj (RelV.gen k p n.l h1) (ih n.r h2)
theorem aN.mono(k:∀b o,V b o->V' b o)(ps){vs:List ar}(h:aN G V ps vs):aN G V' ps vs:=aN.gen (λb o h z=>k b o h) ps (.inr k) h
theorem aN.Fq(k:Cx V V')(ps){vs:List ar}(n:b_ ps=true)(h:aN G V ps vs):aN G V' ps vs:=aN.gen k ps (.inl n) h
theorem gh.mono(k:∀b o,V b o->V' b o)(fs:List (Str×PV)){es:List kQ}(h:gh G V fs es):gh G V' fs es:=by
 induction fs generalizing es with
 |nil=>induction es<;>exact h
 |cons f fs ih=>induction es with
  |nil=>exact h
  |cons e es _=>exact oj h.1 (oj (RelV.mono k f.2 h.2.1) (ih h.2.2))
theorem RelV.flat{p:PV}{v:ar}(hf:flat p=true)(h:RelV G V p v):RelV G V' p v:=PV.casesOn p (λz h=>h) (λz z h=>h) (λz z h=>h) (λz z h=>h) (λz h=>nomatch h) (λz h=>nomatch h) (λz z z h=>nomatch h) (λz h=>nomatch h) (λh=>nomatch h) (λz h=>nomatch h) (λz h=>nomatch h) (λz z z z h=>nomatch h) (λz z z h=>nomatch h) (λz h=>nomatch h) hf h
theorem RelV.int{i:Int}{v:ar}(h:RelV G V (.int i) v):∃t,v=.int i t:=h
theorem RelV.str{i:Str}{v:ar}(h:RelV G V (.str i) v):∃t,v=.str i t:=h
theorem RelV.list{ps:ab}{v:ar}(h:RelV G V (.list ps) v):rN V (aN G V ps) v:=h
theorem RelV.tup{ps:ab}{v:ar}(h:RelV G V (.tup ps) v):r_ V (aN G V ps) v:=h
theorem RelV.kX(h:RelV G V p v)(q:p=.int i):∃t,v=.int i t:=(q▸h:RelV G V (.int i) v)
theorem RelV.ut(h:RelV G V p v)(q:p=.str i):∃t,v=.str i t:=(q▸h:RelV G V (.str i) v)
theorem RelV.yt(h:RelV G V p v)(q:p=.list ps):rN V (aN G V ps) v:=(q▸h:RelV G V (.list ps) v)
theorem RelV.tupQ(h:RelV G V p v)(q:p=.tup ps):r_ V (aN G V ps) v:=(q▸h:RelV G V (.tup ps) v)
theorem RelV.abJ(h:RelV G V p v)(q:p=.lam a b sc c):pY V a b sc (qj G V c) v:=(q▸h:RelV G V (.lam a b sc c) v)
theorem RelV.F8(h:RelV G V p v)(q:p=.none):v=.none:=(q▸h:RelV G V .none v)
theorem RelV.F9(h:RelV G V p v)(q:p=.bool b):v=.bool b:=(q▸h:RelV G V (.bool b) v)
theorem RelV.abK(h:RelV G V p v)(q:p=.ey a b c):pX V a b c v:=(q▸h:RelV G V (.ey a b c) v)
theorem RelV.ZY{v:ar}{P:ar->Prop}(h:RelV G V .none v)(k:P .none):P v:=by have h:=h;rw[h];exact k
theorem RelV.ZZ{b:Bool}{v:ar}{P:ar->Prop}(h:RelV G V (.bool b) v)(k:P (.bool b)):P v:=by have h:=h;rw[h];exact k
theorem RelV.ji{i:Int}{v:ar}{P:ar->Prop}(h:RelV G V (.int i) v)(k:∀t,P (.int i t)):P v:=let⟨t,e⟩:=h.int;e▸k t
theorem RelV.wd{i:Str}{v:ar}{P:ar->Prop}(h:RelV G V (.str i) v)(k:∀t,P (.str i t)):P v:=let⟨t,e⟩:=h.str;e▸k t
theorem RelV.listE{ps:ab}{v:ar}{P:ar->Prop}(h:RelV G V (.list ps) v)(k:∀a vs n,V a (bR vs n)->aN G V ps vs.toList->P (.ref a)):P v:=let⟨a,vs,n,e,q,r⟩:=h.list;e▸k a vs n q r
theorem RelV.kh{ps:ab}{v:ar}{P:ar->Prop}(h:RelV G V (.tup ps) v)(k:∀a o vs n,V a o->o.cls=.type "tuple"->o.data=.seq vs n->aN G V ps vs.toList->P (.ref a)):P v:=let⟨a,o,vs,n,e,q,r1,r2,r⟩:=h.tup;e▸k a o vs n q r1 r2 r
theorem RelV.mkNone:RelV G V .none .none:=rfl
theorem RelV.Bu(b):RelV G V (.bool b) (.bool b):=rfl
theorem RelV.mkInt(V)(i)(t):RelV G V (.int i) (.int i t):=⟨_,rfl⟩
theorem RelV.mkStr(V)(i)(t):RelV G V (.str i) (.str i t):=⟨_,rfl⟩
theorem RelV.ou(h:V a (bR vs n))(h2:aN G V ps vs.toList):RelV G V (.list ps) (.ref a):=rN.mk _ _ _ rfl h h2
theorem RelV.F_(h:V a o)(hc:o.cls=.type "tuple")(hd:o.data=.seq vs n)(h2:aN G V ps vs.toList):RelV G V (.tup ps) (.ref a):=r_.mk _ _ _ _ rfl h hc hd h2
theorem aN.mkNil:aN G V [] []:=trivial
theorem aN.mkCons(h:RelV G V p v)(h2:aN G V ps vs):aN G V (p::ps) (v::vs):=⟨h,h2⟩
theorem aN.ki{p:PV}{vs:List ar}{P:List ar->Prop}(h:aN G V [p] vs)(k:∀v,RelV G V p v->P [v]):P vs:=h.fJ λv z h1 h2=>h2.fW (P:=λus=>P (v::us)) (k v h1)
theorem aN.Ca{p q:PV}{vs:List ar}{P:List ar->Prop}(h:aN G V [p,q] vs)(k:∀v w,RelV G V p v->RelV G V q w->P [v,w]):P vs:=h.fJ λv z h1 h2=>h2.ki (P:=λus=>P (v::us)) λw h3=>k v w h1 h3
theorem aN.length(h:aN G V ps vs):ps.length=vs.length:=by
 induction ps generalizing vs with
 |nil=>exact h.fW (P:=λvs=>_=vs.length) rfl
 |cons p ps ih=>exact h.fJ (P:=λvs=>_=vs.length) λv us z h2=>aR (· +1) (ih h2)
theorem aN.append(h:aN G V ps vs)(h':aN G V qs us):aN G V (ps++qs) (vs++us):=by
 induction ps generalizing vs with
 |nil=>exact h.fW (P:=λvs=>aN G V _ (vs++us)) h'
 |cons p ps ih=>exact h.fJ (P:=λvs=>aN G V _ (vs++us)) λv vs h1 h2=>⟨h1,ih h2⟩
theorem aN.get{ps:ab}{vs:List ar}{i:Nat}{p:PV}(h:aN G V ps vs)(e:ps[i]? =some p):∃v,vs[i]? =some v/\RelV G V p v:=by
 induction ps generalizing vs i with
 |nil=>exact aK e
 |cons q ps ih=>
  refine h.fJ (P:=λvs=>∃v,vs[i]? =some v/\RelV G V p v) λv us h1 h2=>?_;induction i with
  |zero=>exact⟨v,rfl,av e▸h1⟩
  |succ i _=>exact ih (i:=i) h2 e
theorem aN.of_get(e:ps.length=vs.length)(h:∀(i:Nat)(p:PV)(v:ar),ps[i]? =some p->vs[i]? =some v->RelV G V p v):aN G V ps vs:=by
 induction ps generalizing vs with
 |nil=>induction vs with
  |nil=>exact trivial
  |cons=>cases e
 |cons p ps ih=>induction vs with
  |nil=>cases e
  |cons v vs _=>exact⟨h 0 p v rfl rfl,ih (mM e) λi=>h (i+1)⟩
theorem aN.reverse(h:aN G V ps vs):aN G V ps.reverse vs.reverse:=by
 induction ps generalizing vs with
 |nil=>exact h.fW (P:=λvs=>aN G V _ vs.reverse) trivial
 |cons p ps ih=>refine h.fJ (P:=λvs=>aN G V _ vs.reverse) λv us h1 h2=>?_;rw[Rq,Rq];exact(ih h2).append ⟨h1,trivial⟩
theorem aN.drop(k)(h:aN G V ps vs):aN G V (ps.drop k) (vs.drop k):=by
 induction k generalizing ps vs with
 |zero=>exact h
 |succ k ih=>induction ps with
  |nil=>exact h.fW (P:=λvs=>aN G V _ (vs.drop (k+1))) trivial
  |cons p ps _=>exact h.fJ (P:=λvs=>aN G V _ (vs.drop (k+1))) λv us z h2=>ih h2
theorem aN.take(k)(h:aN G V ps vs):aN G V (ps.take k) (vs.take k):=by
 induction k generalizing ps vs with
 |zero=>exact trivial
 |succ k ih=>induction ps with
  |nil=>exact h.fW (P:=λvs=>aN G V _ (vs.take (k+1))) trivial
  |cons p ps _=>exact h.fJ (P:=λvs=>aN G V _ (vs.take (k+1))) λv us h1 h2=>⟨h1,ih h2⟩
theorem aN.cut(a b)(h:aN G V ps vs):aN G V (cut ps a b) (cut vs a b):=(h.drop _).take _
theorem aN.dK(h:aN G V ps vs)(n):aN G V (Mine.Internal.dK ps n) (Mine.Internal.dK vs n):=by
 induction n with
 |zero=>exact trivial
 |succ n ih=>exact h.append ih
theorem aN.set(k)(h:aN G V ps vs)(h':RelV G V p v):aN G V (ps.set k p) (vs.set k v):=by
 induction ps generalizing vs k with
 |nil=>exact h.fW (P:=λvs=>aN G V _ (vs.set k v)) trivial
 |cons q ps ih=>
  refine h.fJ (P:=λvs=>aN G V _ (vs.set k v)) λu us h1 h2=>?_;induction k with
  |zero=>exact⟨h',h2⟩
  |succ k _=>exact⟨h1,ih k h2⟩
theorem aN.ints{ps:ab}{vs:List ar}{l:ac}(h:aN G V ps vs)(e:intsOf ps=some l):IntsAre vs l:=by
 induction ps generalizing vs l with
 |nil=>exact av e▸h.fW (P:=λvs=>IntsAre vs []) .nil
 |cons p ps ih=>refine aF e λi e1 e=>cj e λl' e2 e=>?_;subst e;rw[jv e1]at h;exact h.fJ (P:=λvs=>IntsAre vs _) λv us h1 h2=>h1.ji (P:=λv=>IntsAre (v::us) _) λt=>.cons _ _ (ih h2 e2)
theorem aN.Wq(h:IntsAre vs l):aN G V (l.map .int) vs:=by
 induction h with
 |nil=>exact trivial
 |cons _ _ _ ih=>exact⟨⟨_,rfl⟩,ih⟩
end mono
variable{p:PV}{x y:Str}{α β:Type}{s s' s1 s2:aB}{ps xs:ab}{l l' nw kw bs:Loc}{Q:ar->ak}{env:Env}{v:ar}{μ φ a9 ν bF cS ψ HP:al}{e t elt:Expr}{m m':am}{h h':bT}{vs:List ar}{aE aO bw:St}{pa:Str->aw}{γ:Nat->Prop}{o:Obj}{u:Nat}{fv:dk}{fd:tF}{i:Int}{f:aw}{es ts:ah}{p0 fA:Pos}{cE:List (Str×ar)}{fs:List (Str×PV)}{ws:aa}{G:bE}{V V':Vw}{z:α}
def oz(h:bT)(c:aw)(q:Str):Prop :=∃o vs t,h.get? c=some o/\o.data=.fields vs/\vs[1]? =some (.str q t)
theorem oz.keeps{c:aw}{q:Str}(x:oz h c q)(k:∀b o,h.get? b=some o->h'.get? b=some o):oz h' c q:=by refine j_ x λo vs t a r=>?_;exact⟨o,vs,t,k _ _ a,r⟩
def NT(o:Obj):Prop :=o.cls≠.none\/(∃vs q t,o.data=.fields vs/\vs[1]? =some (.str q t))\/∀vs,o.data≠.fields vs
structure Inv(G:bE)(s:aB):Prop where
 old:∀b o,G.hb.get? b=some o->s.heap.get? b=some o
 tabs:∀m∈G.makers,CodeHd s.heap m.c m.P/\(s.heap.get? m.P=some (is #[])\/∃c',s.heap.get? m.P=some (is #[dc m.line,dc m.col,.ref c'])/\oz s.heap c' m.qual)
 bare:AllBare s.gens
structure bc(G:bE)(s s':aB):Prop where
 keep:∀b o,s.heap.get? b=some o->¬G.tab b->s'.heap.get? b=some o
 there:∀b,s.heap.get? b≠none->s'.heap.get? b≠none
 gens:∀(i:Nat)(g:ru),s.gens[i]? =some g->s'.gens[i]? =some g
 os:s'.os=s.os
structure wA(G:bE):Prop where
 T:∃p loose mean,Top p loose mean G.mg G.mb G.hb
 X:G.K.In G.hb
 tabs:∀b,G.tab b->G.hb.get? b=none
structure a_(A:dQ)(n:Nat):Prop where
 hh:A.handled=none
 depth:A.depth+2*n+60<1000
 units:A.units+20*n+600<9900
theorem a_.less{A:dQ}{n m:Nat}(R:a_ A n)(h:m<=n):a_ A m:=⟨R.hh,im (lF (oe (IX 2 h) _) 60) R.depth,im (lF (oe (IX 20 h) _) 600) R.units⟩
section
variable{aS:aB}
theorem bc.refl:bc G s s:=⟨λz z e z=>e,λz h=>h,λz z h=>h,rfl⟩
theorem bc.trans(x:bc G s s')(y:bc G s' aS):bc G s aS:=
 ⟨λb o e n=>y.keep b o (x.keep b o e n) n,λb h=>y.there b (x.there b h),λi g h=>y.gens i g (x.gens i g h),y.os.trans x.os⟩
theorem bc.Cy(g:bc G s s'){b:aw}(h:s'.heap.get? b=none):s.heap.get? b=none:=QZ λq=>g.there b q h
theorem bc.of{tk:Nat}(k:∀b o,s.heap.get? b=some o->h'.get? b=some o):bc G s {s with heap:=h',toks:=tk}:=
 ⟨λb o e z=>k b o e,λb h q=>h (by
  cases e:s.heap.get? b with
  |none=>rfl
  |some o=>exact aK<|aT<|(k b o e).symm.trans q),λz z h=>h,rfl⟩
theorem Inv.of(I:Inv G s){tk:Nat}(k:∀b o,s.heap.get? b=some o->h'.get? b=some o):Inv G {s with heap:=h',toks:=tk}:=
 ⟨λb o e=>k b o (I.old b o e),λm hm=>(I.tabs m hm).imp (·.keeps k) (.imp (k _ _) (.imp λz=>.imp (k _ _) (·.keeps k))),I.bare⟩
theorem Inv.tok(I:Inv G s)(tk:Nat):Inv G {s with toks:=tk}:=I.of λz z e=>e
theorem bc.tok(tk:Nat):bc G s {s with toks:=tk}:=bc.of λz z e=>e
theorem Inv.tK(I:Inv G s){b:aw}(h:G.tab b){P:Prop}(k:∀ps,s.heap.get? b=some (is ps)->(∀q t,ps[1]? ≠some (.str q t))->P):P:=by
 refine br h λm hm e=>?_;subst e;rcases(I.tabs m hm).2 with q|⟨_,q,_⟩
 ·exact k _ q λz z h=>aK h
 ·exact k _ q λz z h=>bS (av h)
theorem Inv.ct(I:Inv G s){b:aw}(e:s.heap.get? b=some o)(hc:NT o):¬G.tab b:=λh=>I.tK h λps e2 e3=>by
 obtain rfl:=av (e.symm.trans e2);rcases hc with hc|⟨vs,q,t,h1,h2⟩|hc
 ·exact hc rfl
 ·exact e3 q t (pB h1▸h2)
 ·exact hc _ rfl
theorem Inv.K(I:Inv G s)(S:wA G):G.K.In s.heap:=λa o e=>I.old a o (S.X a o e)
theorem Inv.ns{a:aw}(I:Inv G s)(h:G.hb.Ns a m):s.heap.Ns a m:=h.keeps I.old
theorem Inv.lim(I:Inv G s)(S:wA G):s.heap.NoLimit:=by refine oM S.T λz z z T=>?_;exact T.nolimit.keeps I.old
theorem Inv.mg(I:Inv G s)(S:wA G):s.heap.Ns fS G.mg:=by refine oM S.T λz z z T=>?_;exact I.ns T.g
theorem Inv.mb(I:Inv G s)(S:wA G):s.heap.Ns fZ G.mb:=by refine oM S.T λz z z T=>?_;exact I.ns T.b
end
def aq(h:bT)(μ:al):Vw:=λb o=>h.get? b=some o/\¬μ b/\NT o
theorem aq.grow(g:bc G s s')(I:Inv G s):∀b o,aq s.heap μ b o->aq s'.heap μ b o:=
 λb o q=>⟨g.keep b o q.1 (I.ct q.1 q.2.2),q.2⟩
theorem aq.keeps(k:∀b o,h.get? b=some o->h'.get? b=some o):∀b o,aq h μ b o->aq h' μ b o:=λb o=>.imp_left (k b o)
theorem aq.less(k:∀b,cS b->μ b):∀b o,aq h μ b o->aq h cS b o:=λb z=>.imp_right (.imp_left (· ∘k b))
def Hid(h:bT)(μ:al):Prop :=∀b,μ b->h.get? b≠none
structure lY(sc:aH)(env:Env)(h:bT):Prop where
 uG:kg sc=true
 kind:env.scope.kind=.function
 globals:env.globals=fS
 builtins:env.builtins=fZ
 names:∀x,kc (env.kindOf x)=kc (sc.names.lookup x)
 cells:∀x,kc (env.kindOf x)=1->∃c cv,env.cells.lookup x=some c/\h.IsCell c cv
def bA(h:bT)(env:Env)(m:am)(x:Str)(v:ar):Prop :=
 (env.kindOf x=some .local/\m x=some v)\/(kc (env.kindOf x)=1/\∃c,env.cells.lookup x=some c/\h.IsCell c (some v))
inductive ug(G:bE)(V:Vw)(env:Env)(a:cH)(b:ad)(sc:aH)(v:ar):Prop
 |mk (f:aw) (o:Obj) (fd:tF) (e:v=.ref f) (h:V f o) (hd:o.data=.func fd) (h1:fd.params=a) (h2:fd.body=.stmts b) (h3:fd.scope=sc) (h4:fd.globals=fS) (h5:fd.builtins=fZ) (h6:fd.defaults=.none) (h7:fd.kwdefaults=.none)
  (hc:uf V fd.code fd.qualname) (hf:∀x,sc.names.lookup x=some .free->∃c,fd.closure.lookup x=some c/\env.cells.lookup x=some c) (hb:∀x c,fd.closure.lookup x=some c->sc.names.lookup x=some .free)
def jg(G:bE)(V:Vw)(env:Env)(p:PV)(v:ar):Prop :=RelV G V p v\/∃a b sc,p=.gc a b sc/\ug G V env a b sc v
theorem ug.mono(k:∀b o,V b o->V' b o){a:cH}{b:ad}{sc:aH}(h:ug G V env a b sc v):ug G V' env a b sc v:=by obtain⟨f,o,fd,e0,h1,h2,h3,h4,h5,h6,h7,h8,h9,g,fX,uF⟩:=h;exact⟨f,o,fd,e0,k _ _ h1,h2,h3,h4,h5,h6,h7,h8,h9,g.mono k,fX,uF⟩
theorem jg.mono(k:∀b o,V b o->V' b o)(h:jg G V env p v):jg G V' env p v:=
 h.imp (RelV.mono k _) (.imp λz=>.imp λz=>.imp λz=>.imp id (·.mono k))
theorem jg.gc{a:cH}{b:ad}{sc:aH}(h:jg G V env (.gc a b sc) v):ug G V env a b sc v:=by
 rcases h with h|⟨a',b',c',e,h⟩
 ·exact h.elim
 ·refine c_ (PV.gc.inj e) λe1 e2 e3=>e1▸e2▸e3▸h
theorem jg.rel(h:jg G V env p v)(hn:pL p=true):RelV G V p v:=by
 rcases h with h|⟨_,_,_,e,_⟩
 ·exact h
 ·exact xm<|(e▸hn:pL (.gc _ _ _)=true)
noncomputable abbrev Slots(G:bE)(μ:al)(env:Env)(l:Loc)(h:bT):Prop :=
 ∃m,h.Ns env.locals m/\∀x p,l.lookup x=some p->∃v,bA h env m x v/\jg G (aq h μ) env p v
def iw(o:Obj):Prop :=(∀vs,o.data≠.fields vs)\/(o.cls≠.none/\o.cls≠.type "code"/\∀vs q t,o.data=.fields vs->vs[1]? ≠some (.str q t))
def bL(G:bE)(h:bT)(φ:al):Prop :=∀b,φ b->G.hb.get? b=none/\∀o,h.get? b=some o->iw o
def CQ(G:bE)(sc:aH)(env:Env):Prop :=∀mk∈G.makers,(fnOf mk.fn).map (·.scope.names)=some sc.names->env.code=.ref mk.c/\env.qual++mk.nm=mk.qual
structure cu(G:bE)(μ:al)(sc:aH)(env:Env)(l:Loc)(h:bT):Prop where
 ok:lY sc env h
 hL:μ env.locals
 hC:∀x c,kc (env.kindOf x)=1->env.cells.lookup x=some c->¬μ c
 aW:Hid h μ
 soft:bL G h μ
 cq:CQ G sc env
 slots:Slots G μ env l h
section
variable{sc:aH}
theorem Wr{c:aw}{v:ai}{P:aw}{ps:aj}(x:h.IsCell c v)(e:h.get? P=some (is ps)):c≠P:=λq=>by refine br x λo ho hd=>jS (av (e.symm.trans (q▸ho))▸hd:(is ps).data=.cell v)
theorem Inv.rE(I:Inv G s){c:aw}{v:ai}(x:s.heap.IsCell c v):¬G.tab c:=λh=>I.tK h λps e z=>Wr x e rfl
theorem Inv.yu(I:Inv G s){a:aw}(x:s.heap.Ns a m):¬G.tab a:=λh=>I.tK h λps e z=>by refine je x λo es ep ho hd z=>jS (av (e.symm.trans ho)▸hd:(is ps).data=.dict es ep)
theorem bc.cell(g:bc G s s')(I:Inv G s){c:aw}{v:ai}(x:s.heap.IsCell c v):s'.heap.IsCell c v:=
 x.imp λz=>.imp_left λho=>g.keep _ _ ho (I.rE x)
theorem bc.ns(g:bc G s s')(I:Inv G s){a:aw}(x:s.heap.Ns a m):s'.heap.Ns a m:=
 x.imp λz=>.imp λz=>.imp λz=>.imp_left λho=>g.keep _ _ ho (I.yu x)
theorem lY.grow(g:bc G s s')(I:Inv G s)(x:lY sc env s.heap):lY sc env s'.heap:=
 ⟨x.uG,x.kind,x.globals,x.builtins,x.names,λy hy=>(x.cells y hy).imp λz=>.imp λz=>.imp_right (g.cell I)⟩
theorem bA.grow(g:bc G s s')(I:Inv G s)(h:bA s.heap env m x v):bA s'.heap env m x v:=
 h.imp_right (.imp_right (.imp λz=>.imp_right (g.cell I)))
theorem bL.grow(F:bL G s.heap μ)(g:bc G s s')(I:Inv G s)(aW:∀b,μ b->s.heap.get? b≠none):bL G s'.heap μ:=λb q=>⟨(F b q).1,λo e=>by
 cases e1:s.heap.get? b with
 |none=>exact bx e1 (aW b q)
 |some o1=>
  have h1:=(F b q).2 o1 e1;exact av ((g.keep b o1 e1 λh=>I.tK h λps e2 z=>(av (e1.symm.trans e2)▸h1).elim (λr=>r _ rfl) λr=>r.1 rfl).symm.trans e)▸h1⟩
theorem cu.grow(g:bc G s s')(I:Inv G s)(x:cu G μ sc env l s.heap):cu G μ sc env l s'.heap:=
 ⟨x.ok.grow g I,x.hL,x.hC,λb q=>g.there b (x.aW b q),x.soft.grow g I x.aW,x.cq,x.slots.imp λz=>.imp (g.ns I) λh y p hp=>(h y p hp).imp λz=>.imp (·.grow g I) (·.mono (aq.grow g I))⟩
end
noncomputable abbrev KV(G:bE)(s:aB)(μ:al)(p:PV)(Q:ar->ak):Prop :=∀v s',bc G s s'->Inv G s'->RelV G (aq s'.heap μ) p v->Q v s'
noncomputable abbrev WP(G:bE)(A:dQ)(c:Sem α)(Q:α->ak)(s:aB):Prop :=bt (bp G.prog G.w) A c Q (λz z=>False) s
def ca(G:bE)(n:Nat)(f:aH->Loc->Expr->ag):Prop :=
 ∀(A:dQ)(μ:al)(sc:aH)(env:Env)(l:Loc)(e:Expr)(p:PV)(s:aB)(Q:ar->ak),
  f sc l e=some p->a_ A n->Inv G s->cu G μ sc env l s.heap->
  (KV G s μ p Q)->WP G A (bQ e env) Q s
section
variable{A:dQ}{sc:aH}
theorem Sq{c:Const}{k:Nat}{pos:Pos}(e:MR c=some p)(I:Inv G s)
  (h:KV G s μ p Q):WP G A (bQ (.Constant c k pos) env) Q s:=by
 refine eT (xh ..) ?_;induction c with
 |none=>exact bz (h _ _ .refl I (av e▸ .mkNone))
 |bool b=>exact bz (h _ _ .refl I (av e▸ .Bu b))
 |int i=>exact wpAny_mkInt (h _ _ (.tok _) (I.tok _) (av e▸ .mkInt _ i _))
 |str x=>exact DX (h _ _ (.tok _) (I.tok _) (av e▸ .mkStr _ x _))
 |_=>exact aK e
theorem tW{o:Option rs}(h:kc o=1):o=some .cell\/o=some .free:=by
 induction o with
 |none=>cases h
 |some k=>induction k with
  |cell=>exact .inl rfl
  |free=>exact .inr rfl
  |_=>cases h
theorem Au(ok:lY sc env s.heap)(hn:s.heap.Ns env.locals m)(h:bA s.heap env m x v)(hq:Q v s)(hx:x≠"__classdict__"):
  WP G A (loadName env x) Q s:=by
 rcases h with⟨h1,h2⟩|⟨h1,c,h2,h3⟩
 ·exact wpAny_loadName_local ok.kind h1 hn h2 hq
 ·rcases tW h1 with q|q
  ·exact wpAny_loadName_cell ok.kind q h2 h3 hq
  ·exact wpAny_loadName_free ok.kind q h2 h3 hq (dq hx)
end
section
variable{n k w:Nat}{sc cs:aH}{A:dQ}{pos:Pos}{r:Rec}{st:St}{a:aw}{P:Prop}{own:al}{fl:bG}{d:FD}{c:Bool}{body:ad}{E:ar->ak}{b:Int}{nm:Str}{ns:af}{it:ar}{M:Model}
theorem oB{a:Int}(h:a.natAbs<n): -(n:Int)<a/\a<n:=by omega
theorem UZ{a b:Int}(h:(small a&&small b)=true):IntMulOk a b:=be h λh1 z=>IntMulOk.of_left (intBits_le_64 (oB (bu h1)).1 (oB (bu h1)).2)
theorem Kl(l:Array α):∀(n:Nat)(acc:Array α),(ag8 (λx1 x2=>x1++x2) acc (cC n l)).toList=acc.toList++Mine.Internal.dK l.toList n:=by
 intro n;induction n with
 |zero=>intro acc;simp [Mine.Internal.dK]
 |succ n ih=>intro acc;rw[af3,to,ih,Mine.Internal.dK];simp
theorem KS:∀n,Mine.Internal.dK ([]:List α) n=[]:=by
 intro n;induction n with
 |zero=>exact rfl
 |succ n ih=>simp [Mine.Internal.dK,ih]
theorem SY(items:aj)(k:Nat):(ag8 (λx1 x2=>x1++x2) #[] (cC (if items.isEmpty=true then 0 else k) items)).toList=Mine.Internal.dK items.toList k:=by
 refine ao (Kl ..) ?_;by_cases h:items.isEmpty=true
 ·have :items= #[]:=by simpa using h
  subst this;simp [KS,Mine.Internal.dK]
 ·simp [h]
theorem Ws(x:Str)(n:Int):Txt.mul x n=⟨(Mine.Internal.dK x.cps.toList n.toNat).toArray⟩:=by
 have key:∀k:Nat,((cC k x.cps).foldl (· ++ ·) #[])=(Mine.Internal.dK x.cps.toList k).toArray:=λk=>by apply Rx.mp;refine ao (Kl ..) ?_;simp
 unfold Txt.mul;by_cases h1:n<1
 ·refine ao (aA h1) ?_;have :n.toNat=0:=by lia
  rw[this];rfl
 ·refine ao (aJ h1) ?_;by_cases h2:(n==1||x.length==0)=true
  ·refine ao (aA h2) ?_;rw[RK,beq_iff_eq,beq_iff_eq]at h2;rcases h2 with h2|h2
   ·subst h2;simp [Mine.Internal.dK]
   ·have e:=Array.eq_empty_of_size_eq_zero h2;induction x with |mk c=>simp only at e;subst e;simp [KS]
  ·refine ao (aJ h2) ?_;rw[key]
theorem mulOk_of{x:Str}{n:Int}(h:bo (x.length*n.toNat)=true)(hn:n<2^62)(wB: -(2^62)<n):MulOk x n:=by
 have h:=bu (show decide (x.length*n.toNat<=1000000)=true from h);refine⟨?_,λh1 h2=>?_,λh1 h2=>?_⟩
 ·rw[Dl];exact⟨cA (by lia),cA (by lia)⟩
 ·have e:n=(n.toNat:Int):=by lia
  have hp:0<n:=by lia
  rw[gt_iff_lt,pE,afT hp];have h3:=eP.mpr h;rw[rm,<-e]at h3;generalize (x.length:Int)*n=k at h3;lia
 ·refine cA ?_;rw[gt_iff_lt,jV,lN];generalize x.length*n.toNat=k at h;lia
theorem yb(h:bT):h.get? h.objs.size=none:=by
 cases e:h.get? h.objs.size with
 |none=>rfl
 |some o=>exact bx (fQ e) (mL _)
section
variable{op:ja}{x y:PV}{a b:ar}
theorem bU:∀b o',h.get? b=some o'->(h.push o).get? b=some o':=λz z e=>iJ _ e
theorem vF(hf:o.isFreed=false)(hc:NT o)(Hv:¬μ h.objs.size):aq (h.push o) μ h.objs.size o:=⟨eF _ hf,Hv,hc⟩
theorem ol(h:bo n=true):n<=rr:=by have h:=bu (show decide (n<=1000000)=true from h);rw[lN];lia
theorem Hid.fresh(H:Hid h μ):¬μ h.objs.size:=λq=>H _ q (n_ (eI _))
theorem Hid.uh(H:Hid s.heap μ)(g:bc G s s'):Hid s'.heap μ:=λb q=>g.there b (H b q)
theorem Ew(h:small i=true):i.natAbs<2^64:=bu h
theorem MX{b:Int}(h:t_ n b=true)(k:bo (n*b.toNat)=true-> -(2^62)<b->b<2^62->P):P:=by simp only[t_,lI,decide_eq_true_eq]at h;exact k h.1 h.2.1 h.2.2
theorem MY{j:Int}{t u:Tok}(e:cQ op i j=some p)(hi:∀{i:Int},p=.int i->Q (.int i s.toks) {s with toks:=s.toks+1}):WP G A (binaryOp op (.int i t) (.int j u)) Q s:=by
 induction op with
 |Add=>exact ahY (hi (av e).symm)
 |Sub=>exact ahI (hi (av e).symm)
 |Mult=>exact aZ e λhs e=>ahN (hi (av e).symm) (UZ hs)
 |FloorDiv=>exact GN e λhs e=>ahV (λq=>hs (.inl q)) (hi (av e).symm) (.inl (Q6 (by omega)))
 |Mod=>exact GN e λhs e=>ahO hs (hi (av e).symm)
 |Pow=>exact aZ e λhs e=>gg hs λh1 h2 h3=>ahL (bu h2) (by have :=bu h3;omega) (Ew h1) (hi (av e).symm)
 |LShift=>exact aZ e λhs e=>gg hs λh1 h2 h3=>ahP (bu h2) (bu h3) (Ew h1) (hi (av e).symm)
 |RShift=>exact aZ e λhs e=>ahK (bu hs) (hi (av e).symm)
 |BitXor=>exact ahH (hi (av e).symm)
 |_=>exact aK e
theorem Yl{x y:Str}{t u:Tok}(e:OH op x y=some p)(hi:∀i t' tk,p=.str i->Q (.str i t') {s with toks:=tk}):WP G A (binaryOp op (.str x t) (.str y u)) Q s:=
 aZ e λhs e=>be hs λh1 hs=>KQ h1▸ahX (λt' tk=>hi _ _ _ (av e).symm) (ol hs)
theorem Ym{x:Str}{y:Int}{t u:Tok}(e:OI op x y=some p)(hi:∀i t' tk,p=.str i->Q (.str i t') {s with toks:=tk}):WP G A (binaryOp op (.str x t) (.int y u)) Q s:=
 aZ e λhs e=>be hs λh0 hs=>MX hs λh1 h2 h3=>KR h0▸SB.mul (mulOk_of h1 h3 h2) λt' tk=>hi _ _ _ ((av e).symm.trans (aR PV.str (Ws x y).symm))
theorem Yn{ys:ab}{la lb:aw}{vs us:aj}(e:OJ op xs ys=some p)(I:Inv G s)(H:Hid s.heap μ)(e1:aq s.heap μ la (bR vs n))(e2:aN G (aq s.heap μ) xs vs.toList)(e3:aq s.heap μ lb (bR us k))(e4:aN G (aq s.heap μ) ys us.toList)
  (h:∀v s',bc G s s'->Inv G s'->RelV G (aq s'.heap μ) p v->(∀a,v=.ref a->s.heap.get? a=none)->Q v s'):WP G A (binaryOp op (.ref la) (.ref lb)) Q s:=
 aZ e λhs e=>be hs λh1 hs=>KQ h1▸PySem.P.add_list e1.1 e3.1 (h _ _ (.of bU) (I.of bU) (av e▸ .ou (vF rfl (.inl (λh=>bS h)) H.fresh) (afZ.symm▸(aN.append e2 e4).mono (aq.keeps bU))) (λa w=>DH w▸yb _))
  (ol (by rw[show vs.size=_ from e2.length.symm,show us.size=_ from e4.length.symm];exact hs))
theorem Wt{x:Int}(h: -(2^62)<x)(h2:x<2^62):¬(!De x)=true:=by simp [De];lia
theorem Z0{x:Int}(h:k*x.toNat<=2^24):¬k*x.toNat>(2^63-1)/8:=jV.mpr (aD h (by decide))
theorem U1(h:n<=2^24):¬afn n=true:=by simp [afn,rr];omega
theorem Yo{x:Int}{t:Tok}{la:aw}{vs:aj}(e:OK op xs x=some p)(I:Inv G s)(H:Hid s.heap μ)(e1:aq s.heap μ la (bR vs n))(e2:aN G (aq s.heap μ) xs vs.toList)
  (h:∀v s',bc G s s'->Inv G s'->RelV G (aq s'.heap μ) p v->(∀a,v=.ref a->s.heap.get? a=none)->Q v s'):WP G A (binaryOp op (.ref la) (.int x t)) Q s:=
 aZ e λhs e=>be hs λh1 hs=>MX hs λl3 l5 l6=>by
  have l4:vs.size*x.toNat<=2^24:=by rw[show vs.size=_ from e2.length.symm];exact aD (bu l3) (by decide)
  rw[KR h1];exact wpAny_binaryOp_repeat_ref (by decide) ⟨_,e1.1,rfl⟩ (λs'=>typeIs_int s' x t) noFill_list_mul F.fills_int_mul agZ repeat_list F.slot_int_index.lookup
    (call_meets agZ (typeIs_int s x t) F.entry_int_rmul (F.args_int_rmul_2 _ _) (int___rmul___int_list x t la vs n)
     ⟨e1.1,rfl,⟨_,e1.1,rfl⟩,call_meets F.slot_list_mul ⟨_,e1.1,rfl⟩ F.entry_list_mul (F.args_list_mul_2 _ _)
      (AutoListH.list___mul___list_int_3 la vs n x t (Wt l5 l6) (Z0 l4) (U1 l4))
      ⟨e1.1,h _ _ (.of bU) (I.of bU) (av e▸ .ou (vF rfl (.inl (λh=>bS h)) H.fresh) (SY vs _▸(e2.dK _).mono (aq.keeps bU))) (λa w=>DH w▸yb _)⟩⟩)
set_option maxHeartbeats 1000000 in
theorem EQ(e:bj op x y=some p)(I:Inv G s)(H:Hid s.heap μ)(hx:RelV G (aq s.heap μ) x a)(hy:RelV G (aq s.heap μ) y b)
  (h:∀v s',bc G s s'->Inv G s'->RelV G (aq s'.heap μ) p v->(∀a,v=.ref a->s.heap.get? a=none)->Q v s'):WP G A (binaryOp op a b) Q s:=by
 have hs:∀i t' tk,p=.str i->Q (.str i t') {s with toks:=tk}:=λi t' tk q=>h _ _ (.tok _) (I.tok _) (q▸ .mkStr _ _ _) (λa w=>bS<|w);refine rL e (λi q e=>?_) λe=>tT e (λxs q e=>?_) λe=>vU e (λx q e=>?_) aK
 ·refine aF e λj e2 e=>oE (hx.kX q) λt bb=>?_;subst bb;refine oE (hy.kX (jv e2)) λu bb=>?_;subst bb;exact MY e λq=>h _ _ (.tok _) (I.tok _) (q▸ .mkInt _ _ _) (λa w=>bS<|w)
 ·obtain⟨la,vs,n,rfl,e1,e2⟩:=hx.yt q;refine tT e (λys q e=>?_) λe=>rL e (λy q e=>?_) aK
  ·obtain⟨lb,us,k,rfl,e3,e4⟩:=hy.yt q;exact Yn e I H e1 e2 e3 e4 h
  ·refine oE (hy.kX q) λu bb=>?_;subst bb;exact Yo e I H e1 e2 h
 ·refine oE (hx.ut q) λt bb=>?_;subst bb;refine vU e (λy q e=>?_) λe=>rL e (λy q e=>?_) aK
  ·refine oE (hy.ut q) λu bb=>?_;subst bb;exact Yl e hs
  ·refine oE (hy.kX q) λu bb=>?_;subst bb;exact Ym e hs
end
theorem J3(h:kg sc=true):sc.names.lookup ("__debug__":Str)=none/\sc.names.lookup ("__classdict__":Str)=none:=be h λh z=>be h λh h2=>be h λz h1=>⟨jp.mp h1,jp.mp h2⟩
theorem vW(ok:lY sc env h)(hx:kc (sc.names.lookup x)≠3):x≠"__debug__"/\x≠"__classdict__":=
 ⟨λq=>hx (q▸aR kc (J3 ok.uG).1),λq=>hx (q▸aR kc (J3 ok.uG).2)⟩
theorem KT(p):∀{v:ar}{d:PyData},RelV G (aq h μ) p v->so p=some d->∃as,Reads h v d as:=
 PV.rec (motive_1 :=λp=>∀{v:ar}{d:PyData},RelV G (aq h μ) p v->so p=some d->∃as,Reads h v d as)
  (motive_2 :=λps=>∀{vs:List ar}{ds:List PyData},aN G (aq h μ) ps vs->hZ ps=some ds->∃as,ReadsAll h vs ds as)
  (motive_3 :=λz=>True) (motive_4 :=λz=>True)
  (λz e=>aK e) (λz z z z e=>aK e) (λz z d r e=>r.ji (P:=λv=>∃as,Reads h v d as) λt=>av e▸⟨_,Reads.int _ _⟩)
  (λz z d r e=>r.wd (P:=λv=>∃as,Reads h v d as) λt=>av e▸⟨_,Reads.str _ _⟩)
  (λz ih z d r e=>cj e λds e1 e2=>r.listE (P:=λv=>∃as,Reads h v d as) λa vs n h1 h4=>(ih h4 e1).elim λz q=>e2▸⟨_,reads_list_at h1.1 rfl rfl q⟩)
  (λz ih z d r e=>cj e λds e1 e2=>r.kh (P:=λv=>∃as,Reads h v d as) λa o vs n h1 h2 h3 h4=>(ih h4 e1).elim λz q=>e2▸⟨_,reads_tuple_at h1.1 h2 h3 q⟩)
  (λz z z z z z e=>aK e) (λz z z z e=>aK e) (λz e=>aK e) (λz z z z e=>aK e) (λz z z z z e=>aK e) (λz z z z z z z z e=>aK e) (λz z z z z z e=>aK e) (λz z z z e=>aK e)
  (λ{_ ds} r e=>r.fW (P:=λvs=>∃as,ReadsAll h vs ds as) (av e▸⟨_,.nil⟩))
  (λ_ _ ih sp {_ ds} r e=>aF e λx h1 e=>cj e λy h2 e=>r.fJ (P:=λvs=>∃as,ReadsAll h vs ds as) λv us r1 r2=>(ih r1 h1).elim λz q1=>(sp r2 h2).elim λz q2=>e▸⟨_,.cons q1 q2⟩)
  trivial (λz z z z=>trivial) (λz z z=>trivial) p
section
variable{x y:PV}{a b:ar}
theorem N1(R:a_ A n):A.units+64<cLine:=im (ir (lK _ _) (by decide)) R.units
theorem Ga(e:kf x y=some c)(hx:RelV G (aq s.heap μ) x a)(hy:RelV G (aq s.heap μ) y b)(k1:∀i j t u,a=.int i t->b=.int j u->(i==j)=c->P)(k2:∀i j t u,a=.str i t->b=.str j u->(i.cps.toList==j.cps.toList)=c->P)
  (k3:∀d1 d2 as bs,Reads s.heap a d1 as->Reads s.heap b d2 bs->gX d1=true->gX d2=true->i9 d1 d2=c->P):P:=by
 refine rL e (λi q e=>cj e λj q2 e=>?_) λe=>vU e (λi q e=>cj e λj q2 e=>?_) λe=>aF e λd1 e1 e=>aF e λd2 e2 e=>aZ e λhs e=>be hs λh1 h2=>?_
 ·refine oE (hx.kX q) λt h1=>oE (hy.kX (jv q2)) λu h2=>k1 i j t u h1 h2 e
 ·refine oE (hx.ut q) λt h1=>oE (hy.ut (vE q2)) λu h2=>k2 i j t u h1 h2 e
 ·refine oE (KT _ hx e1) λas r1=>oE (KT _ hy e2) λbs r2=>k3 d1 d2 as bs r1 r2 h1 h2 (av e)
theorem Yp(e:kf x y=some c)(R:a_ A n)(hx:RelV G (aq s.heap μ) x a)(hy:RelV G (aq s.heap μ) y b)
  (h:Q (.bool c) s):WP G A (compareOp .Eq a b) Q s:=
 Ga e hx hy (λi j t u q1 q2 q3=>q1▸q2▸afv (q3▸h)) (λi j t u q1 q2 q3=>q1▸q2▸RC (q3▸h)) λd1 d2 as bs r1 r2 h1 h2 q=>eq_dataH r1 r2 h1 h2 (N1 R) (q▸h)
theorem Yq(e:kf x y=some c)(R:a_ A n)(hx:RelV G (aq s.heap μ) x a)(hy:RelV G (aq s.heap μ) y b)
  (h:Q (.bool (!c)) s):WP G A (compareOp .NotEq a b) Q s:=
 Ga e hx hy (λi j t u q1 q2 q3=>q1▸q2▸ahM (show Q (.bool (!(i==j))) s from q3▸h)) (λi j t u q1 q2 q3=>q1▸q2▸PySem.P.ne_str (show Q (.bool (!(i.cps.toList==j.cps.toList))) s from q3▸h)) λd1 d2 as bs r1 r2 h1 h2 q=>ne_dataH r1 r2 h1 h2 (N1 R) (q▸h)
theorem Bv(e:GH x y=some c)(hx:RelV G (aq s.heap μ) x a)(hy:RelV G (aq s.heap μ) y b):plainIs a b=true/\(a==b)=c:=by
 refine Fi e (λu q e=>Fi e (λw q2 e=>?_) aK) λe=>aZ e λhn e=>?_
 ·obtain rfl:=hx.F9 q;obtain rfl:=hy.F9 q2;exact⟨rfl,ao (by induction u<;>induction w<;>rfl) (av e)⟩
 ·obtain rfl:=hy.F8 (Kk hn);refine MN e (λq e=>?_) λe=>rL e (λi q e=>?_) λe=>NM e (λz z z z q e=>?_) aK
  ·obtain rfl:=hx.F8 q;exact⟨rfl,av e⟩
  ·refine oE (hx.kX q) λt bb=>?_;subst bb;exact⟨rfl,av e⟩
  ·obtain⟨f,_,_,rfl,_⟩:=hx.abJ q;exact⟨rfl,av e⟩
theorem Wu(c)(l):hasChar l c=decide (c∈l):=by
 induction l with
 |nil=>rfl
 |cons a r ih=>refine ao (show hasChar (a::r) c=(a==c||hasChar r c) from rfl) ?_;rw[ih,Ad,RK,beq_iff_eq,decide_eq_true_eq,decide_eq_true_eq,cc,eq_comm]
theorem Cb{f:Int->Int->Bool}(e:yo f x y=some c)(hx:RelV G (aq s.heap μ) x a)(hy:RelV G (aq s.heap μ) y b)(k:∀i j t u,a=.int i t->b=.int j u->c=f i j->P):P:=by refine aF e λi q e=>cj e λj q2 e=>?_;obtain⟨t,ha⟩:=hx.kX (jv q);refine oE (hy.kX (jv q2)) λu hb=>k i j t u ha hb e.symm
theorem U2{l:aa}{w:Str}(h:MP l w=some c)(k:∀d,l=[d]->c= !hasChar w.cps.toList d->P):P:=by
 induction l with
 |nil=>exact aK h
 |cons d r _=>induction r with
  |nil=>exact k d rfl (av h).symm
  |cons=>exact aK h
theorem Yr(e:LB x y=some c)(hx:RelV G (aq s.heap μ) x a)(hy:RelV G (aq s.heap μ) y b)(k:∀d w t u,a=.str ⟨#[d]⟩ t->b=.str w u->c= !hasChar w.cps.toList d->P):P:=by refine aF e λi q e=>aF e λj q2 e=>U2 e λd e1 e=>?_;obtain⟨t,ha⟩:=hx.ut (vE q);refine oE (hy.ut (vE q2)) λu hb=>k d j t u ((show i=⟨#[d]⟩ from aR Str.mk (Rx.mp e1))▸ha) hb e
theorem ER{op:CmpOp}(e:fU op x y=some c)(R:a_ A n)(hx:RelV G (aq s.heap μ) x a)(hy:RelV G (aq s.heap μ) y b)
  (h:Q (.bool c) s):WP G A (compareOp op a b) Q s:=by
 induction op with
 |Eq=>exact Yp e R hx hy h
 |NotEq=>exact cj e λd e1 q=>Yq e1 R hx hy (q▸h)
 |Lt=>exact Cb e hx hy λi j t u q1 q2 q3=>q1▸q2▸agg (q3▸h)
 |LtE=>exact Cb e hx hy λi j t u q1 q2 q3=>q1▸q2▸PySem.P.le_int (q3▸h)
 |Gt=>exact Cb e hx hy λi j t u q1 q2 q3=>q1▸q2▸PySem.P.gt_int (q3▸h)
 |GtE=>exact Cb e hx hy λi j t u q1 q2 q3=>q1▸q2▸PySem.P.ge_int (q3▸h)
 |Is=>exact wpAny_is_plain (Bv e hx hy).1 ((Bv e hx hy).2▸h)
 |IsNot=>exact cj e λd e1 q=>wpAny_isNot_plain (Bv e1 hx hy).1 ((Bv e1 hx hy).2▸q▸h)
 |NotIn=>exact Yr e hx hy λd w t u q1 q2 q3=>q1▸q2▸PySem.P.notIn_str (by rw[PySem.StrLaws.found_one,<-Wu,<-q3];exact h)
 |_=>exact aK e
theorem AH{Q:Bool->ak}(e:truth x=some c)(hx:RelV G (aq s.heap μ) x a)(h:∀tk,Q c {s with toks:=tk}):WP G A (truthy a) Q s:=by
 refine Fi e (λb q e=>?_) λe=>rL e (λi q e=>?_) λe=>tT e (λps q e=>?_) λe=>MN e (λq e=>?_) aK
 ·obtain rfl:=hx.F9 q;exact Dz (av e▸h s.toks)
 ·refine oE (hx.kX q) λt bb=>?_;subst bb;exact PySem.P.truthy_int (show Q (!(i==0)) _ from av e▸h s.toks)
 ·obtain⟨l,vs,k,rfl,h1,h2⟩:=hx.yt q;refine aZ e λhl e=>wpAny_truthy_list ⟨_,h1.1,rfl,_,rfl⟩ (td (eP.mpr (aD (ej h2.length.symm) (bu hl))) (by decide)) ?_;have e3:vs.isEmpty=ps.isEmpty:=by rw[Ad,List.isEmpty_iff_length_eq_zero,h2.length,Array.isEmpty_iff_size_eq_zero];rfl
  rw[e3,av e];exact h _
 ·obtain rfl:=hx.F8 q;exact bz (av e▸h s.toks)
end
end
def h_(G:bE)(n:Nat)(f:aH->Loc->Expr->ag):Prop :=
 ∀(A:dQ)(μ:al)(sc:aH)(env:Env)(l:Loc)(e:Expr)(p:PV)(c:Bool)(s:aB)(Q:Bool->ak),
  f sc l e=some p->truth p=some c->a_ A n->Inv G s->cu G μ sc env l s.heap->
  (∀s',bc G s s'->Inv G s'->Q c s')->WP G A (isTrue e env (bQ e env)) Q s
structure om(s:aB)(d:FD)(fd:tF)(t:Tok):Prop where
 par:fd.params=d.args
 plain:d.args.kwonlyargs=[]->fd.defaults=.none
 bis:ua d.args=true->∀(a x:ar)(more:List ar)(kw:List (Str×ar))(lh:ar×ar)(key:ar),oN (.int 0 t) .none more=some lh->keyOf .none kw=some key->lQ s fd ⟨a::x::more,kw⟩ [("a",a),("x",x),("lo",lh.1),("hi",lh.2),("key",key)]
structure FnAt(G:bE)(d:FD)(q:Str)(f:aw)(o:Obj)(fd:tF)(c:aw):Prop where
 ho:G.hb.get? f=some o
 hc:o.cls=.type "function"
 hd:o.data=.func fd
 pre:∃t,∀s:aB,(∀b o,G.hb.get? b=some o->s.heap.get? b=some o)->om s d fd t
 body:fd.body=.stmts d.body
 sc:fd.scope=d.scope
 gl:fd.globals=fS
 bi:fd.builtins=fZ
 Pp:fd.closure=[]
 code:fd.code=.ref c
 oQ:G.hb.CodeRec fd.code fd.qualname
 qual:fd.qualname=q
 Hw:∀mk∈G.makers,(fnOf mk.fn).map (·.scope.names)=some d.scope.names->c=mk.c/\q++".<locals>."++mk.nm=mk.qual
structure l9(G:bE)(d:FD)(q:Str)(f:aw):Prop where
 ex:∃o fd c,FnAt G d q f o fd c
def oR(n:Str):ar:=if n=("len":Str)then .builtin "len" else if n=("range":Str)then .type "range" else if n=("list":Str)then .type "list" else if n=("tuple":Str)then .type "tuple" else if n=("sum":Str)then .builtin "sum"
 else if n=("max":Str)then .builtin "max" else if n=("divmod":Str)then .builtin "divmod" else if n=("sorted":Str)then .builtin "sorted" else .type "str"
structure bY(G:bE):Prop extends wA G where
 y8:∀mk∈G.makers,mk.fn∈tJ
 mkP:∀m∈G.makers,∀m'∈G.makers,m.P=m'.P->m=m'
 site:∀q∈BK,∃mk∈G.makers,mk.fn=q.1/\mk.line=q.2.1/\mk.col=q.2.2.1/\mk.nm=q.2.2.2
 heads:∀mk∈G.makers,G.hb.get? mk.c≠none
 gl:∀x p,glob x=some p->∃v,(G.mg x=some v\/(G.mg x=none/\G.mb x=some v))/\∀V,RelV G V p v
 fns:∀n d,fnOf n=some d->∃a,G.mg n=some (.ref a)/\l9 G d n a
 OS:∀n d,lV n=some d->∃a,findIn G.K (.ref G.C) n=some (some (.ref a))/\typeIn G.K (.ref a)=some (.type "function")/\l9 G d ("Whitespace."++n) a
 hC:G.mg "Whitespace"=some (.ref G.C)
 blt:∀n∈rZ,G.mb n=some (oR n)
 enum:G.mg "enumerate"=none/\G.mb "enumerate"=some (.type "enumerate")
 rev:G.mg "reversed"=none/\G.mb "reversed"=some (.type "reversed")
 makes:makesIn G.K G.C=true
 kept:keepIn G.K (.ref G.C)=true
 abL:findIn G.K (.ref G.C) "__setattr__"=some (some (.builtin "object.__setattr__"))
 over:plainOver G.K G.C=true
 Z1:∀n,fields.contains n=true->takerIn G.K G.C n=some none
 OT:plainGet G.K G.C ""=true
 N2:hasDictIn G.K G.C=true
 fld:∀n,fields.contains n=true->findIn G.K (.ref G.C) n=some none
 abM:∃mc t,readsIn G.K G.C mc=true/\DB G.K (.ref G.C) mc "S"=some (.val (.str " " t))
 abN:∃mc t,readsIn G.K G.C mc=true/\DB G.K (.ref G.C) mc "T"=some (.val (.str "\t" t))
section
variable{A:dQ}{sc:aH}{n:Nat}{r:Rec}
variable(S:bY G)(aM:ca G n r.E)(cT:h_ G n r.E)
theorem Bw(h:kc k=2):k=some .globalImplicit:=by
 induction k with
 |none=>cases h
 |some k=>induction k<;>first |rfl|cases h
include S in
theorem xU(e:eName sc l x=some p)(I:Inv G s)(X:cu G μ sc env l s.heap)
  (h:KV G s μ p Q):WP G A (bQ (.Name x pos) env) Q s:=by
 have ok:=X.ok;refine dU e (λhk e=>?_) λz e=>aZ e λhk e=>?_
 ·have hk:=bu hk;obtain⟨n1,n2⟩:=vW ok (eO (ag2 hk (by decide)));refine aF e λq h2 e=>aZ e λhq e=>?_;rw[av e]at hq h2;refine br X.slots λm hn hs=>br (hs x p h2) λv h4 h5=>wpAny_Name (Au ok hn h4 (h v s .refl I (h5.rel hq)) n2) (by simpa using n1)
 ·have hk:=bu hk;have hg:=Bw ((ok.names x).trans hk);obtain⟨n1,n2⟩:=vW ok (by rw[hk];decide);refine br (S.gl x p e) λv h1 h2=>?_;have iA:s.heap.Ns env.globals G.mg:=by rw[ok.globals];exact I.mg S.towA
  refine Df ok.kind hg ?_ (by simpa using n1);rcases h1 with h1|⟨h1,h3⟩
  ·exact afH iA h1 (h v s .refl I (h2 _))
  ·exact Di iA h1 (by rw[ok.builtins];exact I.mb S.towA) h3 (h v s .refl I (h2 _))
include aM in
theorem TE(e:iQ r sc l (.BinOp a op b pos)=some p)(R:a_ A n)(I:Inv G s)(X:cu G μ sc env l s.heap)
  (h:KV G s μ p Q):WP G A (bQ (.BinOp a op b pos) env) Q s:=
 aF e λx e1 e=>aF e λy e2 e=>wpAny_BinOp (aM _ _ _ _ _ _ _ _ _ e1 R I X λv s1 g1 I1 r1=>aM _ _ _ _ _ _ _ _ _ e2 R I1 (X.grow g1 I) λu s2 g2 I2 r2=>
  EQ e I2 ((X.aW.uh g1).uh g2) (r1.mono (aq.grow g2 I1)) r2 λv s3 g3 I3 r3 z=>h _ _ ((g1.trans g2).trans g3) I3 r3)
end
section
open PySem.Calls
noncomputable abbrev PP:Program:=PySem.Challenge.pw_tc0082_01
def qq:Program:={PP with main:={PP.main with body:=PP.main.body.drop 31}}
def qe:Program:={PP with main:={PP.main with body:=[]}}
def lo:af:=["_wall","_DIV_LIMIT","_div2n1n","_div3n2n","_int2digits","_digits2int","_divmod_pos","int_divmod","insort_right","bisect_right","insort_left","bisect_left","_iter_escaped_chars","_strip_quoted_realnames",
 "_check_parenthesis","_pre_parse_validation","Whitespace","_law_cells","_law_laid","_law_units","_law_lead","_law_column","_law_rank","_law_told","_law_by_taking","_law_run"]
def Xq(s:aB):Bool:=xlAt qq [] s&&recOk (RowW.records PySem.Challenge.rw_tc0082_01.row.toRowW) s
def gi:List Maker:=[⟨41,37,35,4,"_int2digits.<locals>.inner","_int2digits","inner"⟩,⟨48,44,50,4,"_digits2int.<locals>.inner","_digits2int","inner"⟩,⟨206,202,254,26,"_law_laid.<locals>.<lambda>","_law_laid","<lambda>"⟩,⟨250,248,317,39,"law.<locals>.<lambda>","law","<lambda>"⟩]
def CA:aw:=189
def wC:List aw:=[2,189,188,144,151,158,165,172,179,186]
def o6(h:bT):List aw->Frag
 |[]=>[]
 |a::r=>match h.get? a with
  |some o=>(a,o)::o6 h r
  | .none=>o6 h r
def er(h:bT):List Maker->bT
 |[]=>h
 |m::r=>(er h r).update m.P λo=>{o with data:=.freed}
def qk:List (Str×FD):=Cw top
def ni:List (Str×FD):=match findCls top "Whitespace" with
 |some b=>Cw b
 | .none=>[]
def codeOk(h:bT)(q:Str)(d:FD):ar->Bool
 | .ref c=>(match h.get? c with
  |some ⟨_,_,.fields vs,_⟩=>(match(vs[1]? :ai)with
   |some (.str x _)=>decide (x=q)
   |_=>false)
  |_=>false)&&gi.all λm=> !decide ((fnOf m.fn).map (·.scope.names)=some d.scope.names)||(c==m.c&&decide (q++".<locals>."++m.nm=m.qual))
 |_=>false
def we:ar->Bool
 | .none=>true
 |_=>false
def Hx:ar->Bool
 | .int i _=>decide (i=0)
 |_=>false
def dfltOk(h:bT)(d:FD)(fd:tF):Bool:=if ua d.args then(match fd.defaults,fd.kwdefaults with
  | .ref T,.ref Kd=>(match h.get? T with
   |some ⟨_,_,.seq vs _,_⟩=>decide (vs.size=2)&&Hx (vs.getD 0 .none)&&we (vs.getD 1 (.bool true))
   |_=>false)&&h.isNs Kd&&(h.nsMap Kd "key").any we
  |_,_=>false)else we fd.defaults
def vR(h:bT)(q:Str)(d:FD)(v:ai):Option (cH×FuncBody×aH×Bool):=match v with
 |some (.ref a)=>(match h.get? a with
  |some ⟨c,_,.func fd,_⟩=>some (fd.params,fd.body,fd.scope,c== .type "function"&&fd.globals==fS&&fd.builtins==fZ&&fd.closure.isEmpty&&decide (fd.qualname=q)&&codeOk h q d fd.code&&dfltOk h d fd)
  |_=>.none)
 |_=>.none
def Gb(h:bT)(n:Str):ai:=match findIn (o6 h wC) (.ref CA) n with
 |some (some (.ref a))=>if typeIn (o6 h wC) (.ref a)==some (D2 "function")then some (.ref a)else .none
 |_=>.none
def N3(ps:List (Str×FD)):List (Option (cH×FuncBody×aH×Bool)):=ps.map λq=>some (q.2.args,.stmts q.2.body,q.2.scope,true)
def N4:ai->Bool
 |some (.int i _)=>decide (i=4000)
 |_=>false
def Gc(x:Str):Option CFound->Bool
 |some (.val (.str y _))=>decide (y=x)
 |_=>false
def Z2(K:Frag):Bool:=makesIn K CA&&(keepIn K (.ref CA)&&(findIn K (.ref CA) "__setattr__"==some (some (.builtin "object.__setattr__"))&&(plainOver K CA&&(plainGet K CA ""&&(hasDictIn K CA&&(fields.all (λn=>takerIn K CA n==some none&&findIn K (.ref CA) n==some none)&&
 (readsIn K CA (.type "type")&&(Gc " " (DB K (.ref CA) (.type "type") "S")&&Gc "\t" (DB K (.ref CA) (.type "type") "T")))))))))
def sa:af:="ValueError"::"enumerate"::"reversed"::rZ
def abO:List ai:=(some (.type "ValueError"))::(some (.type "enumerate"))::(some (.type "reversed"))::rZ.map λn=>some (oR n)
def Bx(h:bT):Bool:=h.isNs fS&&(h.isNs fZ&&(sa.all (λn=>(h.nsMap fS n).isNone)&&(N4 (h.nsMap fS "_DIV_LIMIT")&&(h.nsMap fS "Whitespace"==some (.ref CA)&&(Z2 (o6 h wC)&&gi.all λm=>(h.get? m.c).isSome&&codeHdIn (o6 h [m.c]) m.c m.P)))))
noncomputable abbrev Look:=List (Option (cH×FuncBody×aH×Bool))×List (Option (cH×FuncBody×aH×Bool))×Bool×List ai
def look(h:bT):Look:=(qk.map (λq=>vR h q.1 q.2 (h.nsMap fS q.1)),ni.map (λq=>vR h ("Whitespace."++q.1) q.2 (Gb h q.1)),Bx h,sa.map (h.nsMap fZ))
def want:Look:=(N3 qk,N3 ni,true,abO)
def Pq(s:aB):aB:={s with heap:=er s.heap gi,gens:= #[]}
def LJ(s:aB):=(seen ((recsOf qe).map (·.name)) (ownsOf qe) [] s,s.heap.bltView,s.heap.keysOk ("law"::lo) ((recsOf qe).map (·.name)) ((litsOf qe).map (·.1)) ((clssOf qe ("law"::lo)).map (·.name)),tabsOk qe s)
def LK:=(expectedOf qe,bltViewBooted,true,true)
def yI(s:aB):=(LJ (Pq s),look (er s.heap gi),gi.map λm=>s.heap.get? m.P)
def vX:=(LK,want,gi.map λz=>some (is #[]))
theorem Z3{α β γ:Type}{X:Option α}{f:α->β}{g:α->γ}{b:β}{c:γ}(h:X.map f=some b)(k:X.map g=some c):X.map (λs=>(f s,g s))=some (b,c):=by
 cases X with
 |none=>exact nomatch h
 |some s=>exact aR some (Prod.ext (av h) (av k))
def OU(b:Bool)(w:World):=(fencedOpening treeTable PP w 3000).map λs=>(topFrom treeTable PP (w.withFollow "special-get-raises" b) 3000 s).map λs=>(openSeen qq lo (importedModules PP.main.body) Xq true s,yI s)
theorem Z4(w:World):OU false w=some (some (openGood qq lo,vX)):=⋯
theorem Z5(w:World):OU true w=some (some (openGood qq lo,vX)):=⋯
theorem Ys:LeftO PP qq lo Xq yI (λz=>vX) 3000:=.of_split "special-get-raises" λw=>Z3 (Z4 w) (Z5 w)
end
section
variable{n k w:Nat}{sc cs:aH}{A:dQ}{pos:Pos}{r:Rec}{st:St}{a:aw}{P:Prop}{own:al}{fl:bG}{d:FD}{c:Bool}{body:ad}{E:ar->ak}{b:Int}{nm:Str}{ns:af}{it:ar}{M:Model}
section
variable(S:bY G)(aM:ca G n r.E)(cT:h_ G n r.E)
theorem JP(h:j8 e=true):behindInMarks op e=false:=by induction e using jU<;>first |rfl|cases h
include aM in
theorem SD{a:Expr}{op:UnaryOp}(e:iQ r sc l (.UnaryOp op a pos)=some p)(R:a_ A n)(I:Inv G s)(X:cu G μ sc env l s.heap)
  (h:KV G s μ p Q):WP G A (bQ (.UnaryOp op a pos) env) Q s:=by
 refine aF e λv e1 e=>wpAny_UnaryOp (aM _ _ _ _ _ _ _ _ _ e1 R I X λu s1 g1 I1 r1=>?_);induction op with
 |Not=>exact cj e λb e2 e=>not_value (AH e2 r1 λtk=>h _ _ (g1.trans (.tok _)) (I1.tok _) (e▸ .Bu _))
 |USub=>refine cj e λi q e=>oE (r1.kX (jv q)) λt bb=>?_;subst bb;exact PySem.P.neg_int (h _ _ (g1.trans (.tok _)) (I1.tok _) (e▸ .mkInt _ _ _))
 |Invert=>refine cj e λi q e=>oE (r1.kX (jv q)) λt bb=>?_;subst bb;exact ahS (h _ _ (g1.trans (.tok _)) (I1.tok _) (e▸ .mkInt _ _ _))
 |_=>exact aK e
theorem Km{ops:List CmpOp}{bs:ah}{a:Expr}{P:Expr->Prop}(e:iQ r sc l (.Compare a ops bs pos)=some p)
  (k:∀op b x y c,j8 b=true->r.E sc l a=some x->r.E sc l b=some y->fU op x y=some c->p=.bool c->P (.Compare a [op] [b] pos)):P (.Compare a ops bs pos):=
 aF e λop q1 e=>aF e λb q2 e=>aZ e λhn e=>aF e λx e1 e=>aF e λy e2 e=>cj e λc e3 e=>(by rw[fH q1,fH q2];exact k op b x y c hn e1 e2 e3 e.symm)
include aM in
theorem SE{a:Expr}{ops:List CmpOp}{bs:ah}(e:iQ r sc l (.Compare a ops bs pos)=some p)(R:a_ A n)(I:Inv G s)(X:cu G μ sc env l s.heap)
  (h:KV G s μ p Q):WP G A (bQ (.Compare a ops bs pos) env) Q s:=
 Km (P:=λx=>WP G A (bQ x env) Q s) e λop b x y c hn e1 e2 e3 hp=>wpAny_Compare1 (aM _ _ _ _ _ _ _ _ _ e1 R I X λv s1 g1 I1 r1=>aM _ _ _ _ _ _ _ _ _ e2 R I1 (X.grow g1 I) λu s2 g2 I2 r2=>
  ER e3 R (r1.mono (aq.grow g2 I1)) r2 (h _ _ (g1.trans g2) I2 (hp▸ .Bu _))) (JP hn)
theorem N5{a b:α}{P:α->Prop}(h:P (if c=true then a else b)):if c=true then P a else P b:=by induction c<;>exact h
include aM cT in
theorem TF{a b:Expr}(e:iQ r sc l (.IfExp t a b pos)=some p)(R:a_ A n)(I:Inv G s)(X:cu G μ sc env l s.heap)
  (h:KV G s μ p Q):WP G A (bQ (.IfExp t a b pos) env) Q s:=
 aF e λv e1 e=>aF e λc e2 e=>wpAny_IfExp (cT _ _ _ _ _ _ _ _ _ _ e1 e2 R I X λs1 g1 I1=>
  N5 (P:=λx=>WP G A (bQ x env) Q s1) (aM _ _ _ _ _ _ _ _ _ e R I1 (X.grow g1 I) λv s2 g2 I2 r2=>h _ _ (g1.trans g2) I2 r2))
theorem JQ{op:BoolOp}{a b:Expr}(h:bt M A (bQ a env) (λv s1=>bt M A (truthy v) (λt s2=>if yq op t=true then Q v s2 else bt M A (bQ (.BoolOp op (b::es) pos) env) Q EE s2) EE s1) EE s):
  bt M A (bQ (.BoolOp op (a::b::es) pos) env) Q EE s:=
 aP (db h (λv s1 h1=>aP (kL (aP (iL (db h1 (λt s2 h2=>by
  induction op<;>induction t<;>first |exact bz h2|exact h2) λz z x=>x))))) λz z x=>x)
include aM in
theorem SZ(e:iQ r sc l (.BoolOp op es pos)=some p)(R:a_ A n)(I:Inv G s)(X:cu G μ sc env l s.heap)
  (h:KV G s μ p Q):WP G A (bQ (.BoolOp op es pos) env) Q s:=by
 refine aF e λq q1 e=>aF e λv e1 e=>?_;rw[gZ q1];generalize q.2=es at *;induction es with
 |nil=>exact(show WP G A (bQ q.1 env) Q s from aM _ _ _ _ _ _ _ _ _ e1 R I X (av e▸h))
 |cons b es=>
  exact JQ (aM _ _ _ _ _ _ _ _ _ e1 R I X λv' s1 g1 I1 r1=>aF e λt e2 e=>AH e2 r1 λtk=>dU e (λhs e=>(aA hs).mpr (h _ _ (g1.trans (.tok tk)) (I1.tok tk) (av e▸r1)))
   λhs e=>(aJ hs).mpr (aM _ _ _ _ _ _ _ _ Q e R (I1.tok tk) (X.grow (g1.trans (.tok tk)) I) λv s2 g2 I2 r2=>h _ _ ((g1.trans (.tok tk)).trans g2) I2 r2))
theorem JL{Q:Bool->ak}(he:isTrue e env (bQ e env)=(do let v <-bQ e env;standAt e.pos;holding [v] (truthy v)))
  (ht:truth p=some c) (hE:∀Q:ar->ak,(KV G s μ p Q)->WP G A (bQ e env) Q s)
  (h:∀s',bc G s s'->Inv G s'->Q c s'):WP G A (isTrue e env (bQ e env)) Q s:=
 wpAny_isTrue_value (hE _ λv s1 g1 I1 r1=>AH ht r1 λtk=>h _ (g1.trans (.tok _)) (I1.tok _)) he
theorem Sr{op:BoolOp}{a:Expr}{Q:Bool->ak}(h:bt M A (isTrue a env (bQ a env)) (λt s1=>if yq op t=true then Q t s1 else bt M A (allTrue op es env) Q EE s1) EE s):bt M A (allTrue op (a::es) env) Q EE s:=by
 induction op with
 |And=>exact wpAny_allTrue_And_cons (db h (λt s1 q=>by induction t<;>exact q) λz z x=>x)
 |Or=>exact wpAny_allTrue_Or_cons (db h (λt s1 q=>by induction t<;>exact q) λz z x=>x)
theorem SF{op:BoolOp}{Q:Bool->ak}(h:Q c s):if yq op c=true then Q c s else bt M A (allTrue op [] env) Q EE s:=by induction op<;>induction c<;>first |exact h|exact wpAny_allTrue_And_nil h|exact wpAny_allTrue_Or_nil h
include aM cT in
theorem S0{Q:Bool->ak}(e1:iQ r sc l e=some p)(ht:truth p=some c)(R:a_ A n)(I:Inv G s)(X:cu G μ sc env l s.heap)
  (hE:∀Q:ar->ak,(KV G s μ p Q)->WP G A (bQ e env) Q s)
  (h:∀s',bc G s s'->Inv G s'->Q c s'):WP G A (isTrue e env (bQ e env)) Q s:=by
 induction e using jU with
 |UnaryOp op a pos=>
  induction op with
  |Not=>exact aF e1 λv e2 e1=>cj e1 λb e3 e1=>wpAny_isTrue_Not (cT _ _ _ _ _ _ _ _ _ _ e2 e3 R I X λs1 g1 I1=>av ((e1▸ht:truth (.bool !b)=some c))▸h s1 g1 I1)
  |_=>exact JL rfl ht hE h
 |BoolOp op es pos=>
  refine wpAny_isTrue_BoolOp (aF e1 λq q1 e1=>aF e1 λv e2 e1=>?_);rw[gZ q1];clear hE;generalize q.2=es at *;refine Sr ?_;induction es with
  |nil=>exact cT _ _ _ _ _ _ _ _ _ _ e2 (av e1▸ht) R I X λs1 g1 I1=>SF (h _ g1 I1)
  |cons b es=>
   exact aF e1 λt h3 e1=>cT _ _ _ _ _ _ _ _ _ _ e2 h3 R I X λs1 g1 I1=>dU e1 (λhs e1=>(aA hs).mpr (av (h3.symm.trans (av e1▸ht))▸h _ g1 I1))
    λhs e1=>(aJ hs).mpr (cT _ _ _ _ _ _ _ _ _ Q e1 ht R I1 (X.grow g1 I) λs2 g2 I2=>h _ (g1.trans g2) I2)
 |IfExp t a b pos=>
  exact aF e1 λv e2 e1=>aF e1 λd e3 e1=>aP (cT _ _ _ _ _ _ _ _ _ _ e2 e3 R I X λs1 g1 I1=>by
   have k:=cT _ _ _ _ _ _ _ _ _ Q e1 ht R I1 (X.grow g1 I) λs2 g2 I2=>h _ (g1.trans g2) I2;induction d<;>exact k)
 |Compare a ops bs pos=>
  exact Km (P:=λx=>WP G A (isTrue x env (bQ x env)) Q s) e1 λop b x y d hn e2 e3 e4 hp=>wpAny_isTrue_Compare1 (aM _ _ _ _ _ _ _ _ _ e2 R I X λv s1 g1 I1 r1=>aM _ _ _ _ _ _ _ _ _ e3 R I1 (X.grow g1 I) λu s2 g2 I2 r2=>
   ER e4 R (r1.mono (aq.grow g2 I1)) r2 (Dz (av ((hp▸ht:truth (.bool d)=some c))▸h _ (g1.trans g2) I2))) (JP hn)
 |_=>exact JL rfl ht hE h
end
theorem g_{rest:ah}(h:notStar e=true):jX (e::rest) env=(false,bQ e env)::jX rest env:=by induction e using jU<;>first |rfl|cases h
section
variable(S:bY G)(aM:ca G n r.E)(cT:h_ G n r.E)
theorem bc.fresh(g:bc G s s'):s.heap.get? s'.heap.objs.size=none:=QZ λq=>g.there _ q (yb _)
include aM in
theorem AQ{Q:List ar->ak}(e:dG r sc l es=some ps)(R:a_ A n)(I:Inv G s)(X:cu G μ sc env l s.heap)
  (h:∀vs s',bc G s s'->Inv G s'->aN G (aq s'.heap μ) ps vs->Q vs s'):WP G A (spliced (backTo pos (jX es env))) Q s:=by
 induction es generalizing ps s Q with
 |nil=>exact og (h _ _ .refl I (av e▸ .mkNil))
 |cons a es ih=>exact aZ e λhn e=>aF e λv e1 e=>cj e λvs e2 e=>iK (aM _ _ _ _ _ _ _ _ _ e1 R I X λu s1 g1 I1 r1=>ih e2 I1 (X.grow g1 I) λus s2 g2 I2 r2=>h _ _ (g1.trans g2) I2 (e▸ .mkCons (r1.mono (aq.grow g2 I1)) r2)) (g_ hn)
theorem AA(e:dG r sc l es=some ps):(backTo pos (jX es env)).any (·.1)=false:=by
 induction es generalizing ps with
 |nil=>rfl
 |cons a es ih=>refine aZ e λhn e=>aF e λv e1 e=>cj e λvs e2 e=>?_;rw[g_ hn];exact ih e2
include aM in
theorem LL{f:ab->PV}(e:yG f r sc l es=some p)(R:a_ A n)(I:Inv G s)(X:cu G μ sc env l s.heap){o:List ar->Obj}
  (hf:∀{V:Vw}{vs:List ar}{ps:ab}{a:aw},V a (o vs)->aN G V ps vs->RelV G V (f ps) (.ref a)) (ho:∀vs,(o vs).isFreed=false/\NT (o vs))
  (h:∀v s',bc G s s'->Inv G s'->RelV G (aq s'.heap μ) p v->(∀a,v=.ref a->s.heap.get? a=none)->Q v s'):WP G A (spliced (backTo pos (jX es env))) (λvs s'=>vs.length<=rr/\Q (.ref s'.heap.objs.size) {s' with heap:=s'.heap.push (o vs)}) s:=
 aF e λps e1 e=>aZ e λhl e=>AQ aM e1 R I X λvs s1 g1 I1 r1=>⟨r1.length▸ol hl,h _ _ (g1.trans (.of bU)) (I1.of bU)
  (av e▸hf (vF (ho vs).1 (ho vs).2 (X.aW.uh g1).fresh) (r1.mono (aq.keeps bU))) λa w=>DH w▸g1.fresh⟩
theorem U3(h:V a (bR vs.toArray 0))(r:aN G V ps vs):RelV G V (.list ps) (.ref a):=.ou h r
theorem U4{vs:List ar}{ps:ab}(h:V a {cls:=.type "tuple",data:=.seq vs.toArray})(r:aN G V ps vs):RelV G V (.tup ps) (.ref a):=.F_ h rfl rfl r
include aM in
theorem KU(e:yG .list r sc l es=some p)(R:a_ A n)(I:Inv G s)(X:cu G μ sc env l s.heap)
  (h:∀v s',bc G s s'->Inv G s'->RelV G (aq s'.heap μ) p v->(∀a,v=.ref a->s.heap.get? a=none)->Q v s'):WP G A (bQ (.List es pos) env) Q s:=
 wpAny_List (LL aM (o:=λvs=>bR vs.toArray 0) e R I X U3 (λz=>⟨rfl,.inl (λh=>bS h)⟩) h)
include aM in
theorem TG(e:yG .tup r sc l es=some p)(R:a_ A n)(I:Inv G s)(X:cu G μ sc env l s.heap)
  (h:KV G s μ p Q):WP G A (bQ (.Tuple es k pos) env) Q s:=
 wpAny_Tuple (LL aM e R I X U4 (λz=>⟨rfl,.inl (λh=>bS h)⟩) λv s' g I' r z=>h v s' g I' r)
theorem AR{value slice:Expr}{o i:ar}{T id:String}(hT:s.TypeIs o T)
  (hl:typeLookup (.type T) "__getitem__"=pure (some (.builtin id))) (h:WP G A (getItem o i) Q s)
  (vs:List ar) (hs:subscripted slice false o i=operate vs (getItem o i)):
  WP G A (Ak value slice o i) Q s:=by
 delta Ak;refine aP ?_;refine eT (getitemInPython_of_ne hT.not_modules) ?_;exact aP (wpAny_specialOf hT hl (bz (aP (hs▸wpAny_operating (db h (λr GS GT=>aP (wpAny_letTemporaryGo (bz GT))) λz z x=>x)))))
theorem JK{slice:Expr}{o i:ar}(h:¬jb slice.ctorIdx 26=true):subscripted slice false o i=operate [o,i] (getItem o i):=by induction slice using jU<;>first |rfl|exact bx rfl h
theorem U5{k:Int}(h:bJ k=true):De k=true:=
 have h:=oB (bu h)
 rh.mpr ⟨bh (cD (by decide) (kM h.1)),bh (xy h.2 (by decide))⟩
theorem ES{l:List α}{j:Nat}{x:α}(h:l[j]? =some x):j<l.length:=(afB.mp h).1
theorem sq_pos{k:Int}(h:0<=k)(hj:k.toNat<n):rq k n=some k.toNat:=by simp only[rq,aJ (pE.mpr h)];exact aA (by simp;lia)
theorem Yt{k:Int}(h:¬0<=k)(h1:0<=k+n)(hj:(k+n).toNat<n):rq k n=some (k+n).toNat:=by simp only[rq,aA (xC.mp h)];exact aA (by simp;lia)
theorem ET{l:List α}{k:Int}{x:α}(h:b0 l k=some x)(c:∀j,rq k l.length=some j->l[j]? =some x->P):P:=
 dU h (λh0 h=>c k.toNat (sq_pos h0 (ES h)) h) λh0 h=>dU h (λh1 h=>c (k+l.length).toNat (Yt h0 h1 (ES h)) h) λz h=>aK h
theorem Sd{la:aw}{items:aj}{k:Int}{t:Tok}{x:ar}(hl:s.heap.IsList la items)(hf:bJ k=true)
  (hx:b0 items.toList k=some x) (h:Q x s):WP G A (getItem (.ref la) (.int k t)) Q s:=by
 by_cases h0:0<=k
 ·exact wpAny_getItem_list hl h0 (xy (oB (bu hf)).2 (by decide)) (re.symm.trans ((aA h0).symm.trans hx)) h
 ·refine ET hx λj hj hv=>?_;obtain⟨o,ho,hc,ne,hd⟩:=id hl;refine getItem_slot hl.typeIs (by decide) slot_list_getitem (xp slot_list_getitem hl.typeIs entry_list_getitem ?_ (args_list_getitem _ _));show bt _ _ (afl (.int k t)>>=_) _ _ s;refine aP (wpAny_listSubscript_int (U5 hf) ?_);obtain⟨m,rfl⟩:=Int.eq_negSucc_of_lt_zero (xC.mp h0);refine aP (aP (aP (wpAny_seqItems ho hd (bz (bz ?_)))));rw[show rq (ag' m) items.size=some j from hj,Ro,show items[j]? =some x from re.symm.trans hv];exact bz ⟨x,rfl,h⟩
end
def hJ(n:Nat)(o:Option Int)(d:Int):Int:=match o with
 |none=>d
 |some i=>if i<0 then max 0 (i+n)else min i n
theorem LM(n:Nat)(i:Int):max 0 (min (if i<0 then i+n else i) n)=(if i<0 then max 0 (i+n)else min i n):=by
 by_cases h:i<0
 ·rw[aA h,aA h,Int.min_eq_left (afD (ag4 (n:Int)▸kM h))]
 ·rw[aJ h,aJ h,agF (Int.le_min.mpr ⟨pE.mp h,cz _⟩)]
theorem TH(lo hi:Option Int)(n:Nat):sliceBounds lo hi none n=(hJ n lo 0,hJ n hi n,1):=by induction lo<;>induction hi<;>simp only[sliceBounds,hJ,af_,LM,show(1:Int)>0 from by decide,if_true]
theorem A_(n:Nat)(o:Option Int)(d:Int)(h0:0<=d)(h1:d<=n):0<=hJ n o d/\hJ n o d<=n:=by
 induction o with
 |none=>exact⟨h0,h1⟩
 |some i=>
  by_cases h:i<0
  ·rw[show hJ n (some i) d=max 0 (i+n) from aA h];exact⟨Int.le_max_left ..,Int.max_le.mpr ⟨cz _,afD (ag4 (n:Int)▸kM h)⟩⟩
  ·rw[show hJ n (some i) d=min i n from aJ h];exact⟨Int.le_min.mpr ⟨pE.mp h,cz _⟩,Int.min_le_right ..⟩
theorem KW(xs:Array α)(lo hi):((sliceRange (hJ xs.size lo 0) (hJ xs.size hi xs.size) 1).filterMap (xs[·]?))=cut xs.toList (hJ xs.size lo 0) (hJ xs.size hi xs.size):=by obtain⟨a1,a2⟩:=A_ xs.size lo 0 (Ji 0) (cz xs.size);obtain⟨b1,b2⟩:=A_ xs.size hi xs.size (cz xs.size) (vv ↑xs.size);generalize hJ xs.size lo 0=a at *;generalize hJ xs.size hi xs.size=b at *;obtain⟨a,rfl⟩:=sX a1;obtain⟨b,rfl⟩:=sX b1;rw[sliceRange_one,pick_run];simp [cut]
theorem Se(items)(lo hi):(slicePick items lo hi none).toList=cut items.toList (hJ items.size lo 0) (hJ items.size hi items.size):=by unfold slicePick;rw[TH];exact KW items lo hi
theorem TI(lo hi:Option Int)(n:Nat):QY lo hi 1 n=sliceRange (hJ n lo 0) (hJ n hi n) 1:=by induction lo<;>induction hi<;>simp only[QY,hJ,LM,show(1:Int)>0 from by decide,if_true]
theorem S1(l:List α)(a b):(cut l a b).length=min (b.toNat-a.toNat) (l.length-a.toNat):=by simp [cut]
theorem Wv(l:List α)(a b:Int)(hb:b<=l.length)(h:b.toNat-a.toNat=l.length):cut l a b=l:=by
 have h1:=aD (ej h.symm) (z0 (Int.toNat_le.mpr hb) a.toNat);delta cut;by_cases e:l.length=0
 ·rw[IH e,RQ,List.take_nil]
 ·refine ao (xb (aD (ej (jR ..)) (aD (i_ ..) (ej h.symm)))) ?_;exact(Nat.eq_zero_of_not_pos λh2=>mL _ (im h1 (D3 (agi e) h2)))▸rfl
def ql(G:bE)(V:Vw):ag->ar->Prop
 | .none,v=>v=.none
 |some p,v=>RelV G V p v
theorem ql.mono(k:∀b o,V b o->V' b o){p:ag}(h:ql G V p v):ql G V' p v:=by
 induction p with
 |none=>exact h
 |some _=>exact RelV.mono k _ h
theorem BM{o:ag}{d:Int}{P:ar->Prop}(h:ql G V o v)(e:jx n o d=some i)(k:∀q:Option (Int×Tok),hJ n (q.map (·.1)) d=i->IsPart (lO q) (q.map (·.1))->P (lO q)):P v:=by
 induction o with
 |none=>exact(show v=.none from h)▸k none (av e) .none
 |some p=>refine cj e λj q e=>oE (RelV.kX h (jv q)) λt bb=>?_;subst bb;exact k (some (j,t)) e (.int _ _)
section
variable(S:bY G)(aM:ca G n r.E)(cT:h_ G n r.E)
include aM in
theorem KX{a:Option Expr}{o:ag}(e:GI r sc l a=some o)(R:a_ A n)(I:Inv G s)(X:cu G μ sc env l s.heap)
  (h:∀v s',bc G s s'->Inv G s'->ql G (aq s'.heap μ) o v->Q v s'):WP G A (evalPart a env) Q s:=by
 induction a with
 |none=>exact bz (h _ _ .refl I (av e▸rfl))
 |some a=>exact cj e λq e1 e=>aM _ _ _ _ _ _ _ _ _ e1 R I X λv s' g I' rv=>h v s' g I' (e▸rv)
theorem S2(h:Q .none s):WP G A (evalPart none env) Q s:=bz h
noncomputable abbrev abP(va vb:ar):Obj:={cls:=.type "slice",data:=.fields #[va,vb,.none]}
noncomputable abbrev pushS(s:aB)(va vb:ar):aB:={s with heap:=s.heap.push (abP va vb)}
theorem U6{pa pb:ag}{value:Expr}{a b:Option Expr}{q:Pos}{ov va vb:ar}(e:jB xs pa pb=some p)(I:Inv G s)(H:Hid s.heap μ)(r1:RelV G (aq s.heap μ) (.list xs) ov)(r2:ql G (aq s.heap μ) pa va)(r3:ql G (aq s.heap μ) pb vb)
  (h:KV G s μ p Q):WP G A (Ak value (.Slice a b none q) ov (.ref s.heap.objs.size)) Q (pushS s va vb):=by
 refine aF e λi e4 e=>aF e λj e5 e=>aZ e λhl e=>BM (P:=λva=>WP G A _ Q (pushS s va vb)) r2 e4 λqa c1 p1=>BM (P:=λvb=>WP G A _ Q (pushS s _ vb)) r3 e5 λqb c2 p2=>r1.listE (P:=λov=>WP G A (Ak value (.Slice a b none q) ov (.ref s.heap.objs.size)) Q (pushS s _ _)) λla items k v1 v2=>?_;have sz:xs.length=items.size:=v2.length.trans pu;have IL:(pushS s (lO qa) (lO qb)).heap.IsList la items:=Heap.IsList.push ⟨_,v1.1,rfl,_,rfl⟩ _;have g2:bc G s (pushS s (lO qa) (lO qb)):=.of bU;have I2:Inv G (pushS s (lO qa) (lO qb)):=I.of bU;refine AR IL.typeIs list_getitem_lookup (wpAny_getItem_list_slice IL (Heap.IsSliceOf.new ..) p1 p2 .none (by simp) (h _ _ (g2.trans (.of bU)) (I2.of bU) ?_) (sz▸ol hl)) _ rfl;rw[<-av e];refine .ou (vF rfl (.inl (λh=>bS h)) (H.uh g2).fresh) ?_;rw[Se,<-sz,c1,c2];exact(v2.cut i j).mono λb o hv=>aq.keeps bU b o (aq.grow g2 I b o hv)
theorem cut_str{pa pb:ag}{value:Expr}{a b:Option Expr}{q:Pos}{ov va vb:ar}(e:B9 x pa pb=some p)(I:Inv G s)(r1:RelV G (aq s.heap μ) (.str x) ov)(r2:ql G (aq s.heap μ) pa va)(r3:ql G (aq s.heap μ) pb vb)
  (h:KV G s μ p Q):WP G A (Ak value (.Slice a b none q) ov (.ref s.heap.objs.size)) Q (pushS s va vb):=by
 refine aF e λi e4 e=>aF e λj e5 e=>aZ e λhl e=>BM (P:=λva=>WP G A _ Q (pushS s va vb)) r2 e4 λqa c1 p1=>BM (P:=λvb=>WP G A _ Q (pushS s _ vb)) r3 e5 λqb c2 p2=>r1.wd (P:=λov=>WP G A (Ak value (.Slice a b none q) ov (.ref s.heap.objs.size)) Q (pushS s _ _)) λt=>?_;have g2:bc G s (pushS s (lO qa) (lO qb)):=.of bU;have I2:Inv G (pushS s (lO qa) (lO qb)):=I.of bU;have IS:(pushS s (lO qa) (lO qb)).heap.IsSlice s.heap.objs.size qa qb none:=⟨_,eF _ rfl,rfl,rfl⟩;have sz:x.length=x.cps.size:=rfl;have pick:QY (qa.map (·.1)) (qb.map (·.1)) 1 x.length=sliceRange i j 1:=by refine ao (TI ..) ?_;rw[c1,c2]
 have Pr:=A_ x.length (qa.map (·.1)) 0 (Ji 0) (cz x.length);have wD:=A_ x.length (qb.map (·.1)) x.length (cz x.length) (vv ↑x.length);rw[c1]at Pr;rw[c2]at wD;have pk:(slicePicked x qa qb none).filterMap (x.cps[·]?)=cut x.cps.toList i j:=by have :=KW x.cps (qa.map (·.1)) (qb.map (·.1));rw[<-sz,c1,c2]at this;rw[<-this];exact aR (agK _) pick
 have ln:(slicePicked x qa qb none).length=j.toNat-i.toNat:=by refine(aR xA pick).trans ?_;refine oE (sX Pr.1) λi' bb=>?_;subst bb;refine oE (sX wD.1) λj' bb=>?_;subst bb;rw[sliceRange_one];simp
 refine AR (typeIs_str _ x t) PySem.F.slot_str_getitem.lookup (wpAny_getItem_str_slice IS rfl ?_) _ rfl;unfold sliceMade
 split
 ·rename_i hc;have hn:=be hc λ_ h2=>beq_iff_eq.mp h2;have e7:=Wv _ _ _ wD.2 (ln.symm.trans hn);refine h _ _ g2 I2 ?_;rw[<-av e,e7];exact .mkStr _ _ _
 ·rw[pk];refine⟨?_,h _ _ (g2.trans (.tok _)) (I2.tok _) (av e▸ .mkStr _ _ _)⟩;show(List.toArray _).size<=rr;rw[vn,S1];exact aD (agA ..) (aD (i_ ..) (ol hl))
include aM in
theorem TJ{o:Expr}{a b:Option Expr}{q:Pos}(e:MU r sc l o a b=some p)(R:a_ A n)(I:Inv G s)(X:cu G μ sc env l s.heap)
  (h:KV G s μ p Q):WP G A (bQ (.Subscript o (.Slice a b none q) pos) env) Q s:=by
 refine aF e λpo e1 e=>aF e λpa e2 e=>aF e λpb e3 e=>Subscript_ (aM _ _ _ _ _ _ _ _ _ e1 R I X λov s1 g1 I1 r1=>?_);refine wpAny_Slice (KX aM e2 R I1 (X.grow g1 I) λva s2 g2 I2 r2=>KX aM e3 R I2 (X.grow (g1.trans g2) I) λvb s3 g3 I3 r3=>S2 ?_);have r1:=r1.mono (aq.grow (g2.trans g3) I1);have r2:=r2.mono (aq.grow g3 I2);have g:=(g1.trans g2).trans g3;exact tT e (λxs q e=>U6 e I3 (X.aW.uh g) (q▸r1) r2 r3 λv s' g' I' rv=>h v s' (g.trans g') I' rv) λe=>vU e (λx q e=>cut_str e I3 (q▸r1) r2 r3 λv s' g' I' rv=>h v s' (g.trans g') I' rv) aK
theorem Ww{l:List α}{u:List β}{k:Int}{j:Nat}{x:β}(hl:l.length=u.length)(h:rq k l.length=some j)(hx:u[j]? =some x):b0 u k=some x:=by
 have hj:=ES hx;delta b0;by_cases h0:0<=k
 ·refine ao (aA h0) ?_;simp only[rq,aJ (pE.mpr h0)]at h;exact dU h (λz h=>av h▸hx) λz h=>aK h
 ·refine ao (aJ h0) ?_;simp only[rq,aA (xC.mp h0)]at h;refine dU h (λh1 h=>?_) λz h=>aK h;refine ao (aA (hl▸(be h1 λh1 z=>bu h1))) ?_;rw[<-hl];exact av h▸hx
include aM in
theorem TK{o i:Expr}(hi:¬jb i.ctorIdx 26=true)(e:MV r sc l o i=some p)(R:a_ A n)(I:Inv G s)(X:cu G μ sc env l s.heap)
  (h:KV G s μ p Q):WP G A (bQ (.Subscript o i pos) env) Q s:=by
 refine aF e λv e1 e=>aF e λk e2 e=>aZ e λhs e=>Subscript_ (aM _ _ _ _ _ _ _ _ _ e1 R I X λov s1 g1 I1 r1=>aM _ _ _ _ _ _ _ _ _ (GP e2) R I1 (X.grow g1 I) λiv s2 g2 I2 r2=>?_);replace r1:=r1.mono (aq.grow g2 I1);refine oE r2.int λt bb=>?_;subst bb;refine tT e (λvs q e=>?_) λe=>FT e (λvs q e=>?_) aK
 ·obtain⟨la,items,m,rfl,v1,v2⟩:=r1.yt q;refine ET e λj j1 j2=>br (v2.get j2) λv q1 q2=>?_;have IL:s2.heap.IsList la items:=⟨_,v1.1,rfl,_,rfl⟩;exact AR IL.typeIs list_getitem_lookup (Sd IL hs (Ww v2.length j1 q1) (h _ _ (g1.trans g2) I2 q2)) _ (JK hi)
 ·obtain⟨la,ob,items,m,rfl,v1,v2,v3,v4⟩:=r1.tupQ q;have y9:=oB (bu hs);refine ET e λj j1 j2=>br (v4.get j2) λv q1 q2=>?_;have IT:IsTup s2.heap la items:=⟨_,v1.1,v2,_,v3⟩;exact AR IT.typeIs slot_tuple_getitem.lookup (ahU IT (cD (by decide) (kM y9.1)) (xy y9.2 (by decide)) (v4.length▸j1:rq k items.toList.length=some j) (re.symm.trans q1) (h _ _ (g1.trans g2) I2 q2)) _ (JK hi)
include aM in
theorem Sf{o i:Expr}(e:iQ r sc l (.Subscript o i pos)=some p)(R:a_ A n)(I:Inv G s)(X:cu G μ sc env l s.heap)
  (h:KV G s μ p Q):WP G A (bQ (.Subscript o i pos) env) Q s:=
 dU e (λz e=>aF e λq q1 e=>Yj q1 λz=>TJ aM e R I X h) λhi e=>TK aM hi e R I X h
end
theorem KY{k:ar}(h:∃t,k=.str y t):k.isStr x=(x==y):=by obtain⟨t,rfl⟩:=h;exact Bool.beq_comm
theorem gh.find{es:List kQ}(h:gh G V fs es)(hl:fs.lookup x=some p):∃e,es.find? (λe=>e.key.isStr x)=some e/\RelV G V p e.val:=by
 induction fs generalizing es with
 |nil=>exact aK hl
 |cons q fs ih=>induction es with
  |nil=>exact tA h
  |cons e es _=>
   rw[dp]at hl;rw[xq,KY h.1];cases hb:x==q.1 with
   |true=>rw[hb]at hl;exact⟨e,rfl,av hl▸h.2.1⟩
   |false=>rw[hb]at hl;exact ih h.2.2 hl
theorem J4{o:Expr}{n:Str}{m:Sem ar}(h:xS o=true):attributeBase o n env m=m:=by
 induction o using jU with
 |Call f as ks p=>
  exact be h λh1 h2=>Jo f (rg h1) λx q=>by
   induction as with
   |nil=>cases h2
   |cons=>rfl
 |_=>rfl
theorem TL(hp:LF p=true)(h:RelV G V p v):handedIn v=true:=by
 induction p using PV.casesOn with
 |none=>exact h.ZY (P:=λv=>handedIn v=true) rfl
 |bool b=>exact h.ZZ (P:=λv=>handedIn v=true) rfl
 |int i=>exact h.ji (P:=λv=>handedIn v=true) λz=>rfl
 |str i=>exact h.wd (P:=λv=>handedIn v=true) λz=>rfl
 |list ps=>exact h.listE (P:=λv=>handedIn v=true) λz z z z z=>rfl
 |tup ps=>exact h.kh (P:=λv=>handedIn v=true) λz z z z z z z z=>rfl
 |_=>cases hp
section
variable(S:bY G)(aM:ca G n r.E)(cT:h_ G n r.E)
theorem RelV.N6{P:ar->Prop}(h:RelV G (aq s.heap μ) (.inst fs) v)(k:∀x ox od es n,InstAt s.heap x ox G.C (some od)->od.data=.dict es n->gh G (aq s.heap μ) fs es.toList->P (.ref x)):P v:=by obtain⟨x,ox,_,od,es,n,rfl,h1,h2,h3,h4,h5,h6,h7⟩:=(h:tV _ _ _ v);exact k x ox od es n ⟨h1.1,h2,by delta notCls;rw[h3],by rw[h4];exact h5.1⟩ h6 h7
include S aM in
theorem Sg{o:Expr}{a:Str}(e:NS r sc l o a=some p)(R:a_ A n)(I:Inv G s)(X:cu G μ sc env l s.heap)
  (h:KV G s μ p Q):WP G A (bQ (.Attribute o a pos) env) Q s:=by
 refine aZ e λwB e=>aF e λq e1 e=>Attribute_any_ (aM _ _ _ _ _ _ _ _ _ e1 R I X λov s1 g1 I1 r1=>?_) (by refine ao (arm_eval_Attribute ..) ?_;rw[J4 wB]);have X1:=I1.K S.towA;refine Fj e (λfs q0 e=>?_) λe=>ZN e (λq0 e=>?_) aK
 ·refine aZ e λhf e=>aF e λq hq e=>aZ e λhp e=>RelV.N6 (q0▸r1) (P:=λov=>WP G A (getAttr ov a true) Q s1) λx ox od es k IA hd rf=>?_;rw[av e]at hp hq;refine br (rf.find hq) λen h4 h5=>?_;have hl:lookIn a od=some (some en.val):=by delta lookIn;rw[hd];dsimp only;rw[h4]
  exact get_value X1 IA (plainGet_of S.OT).1 (findObj_own S.N2 (S.fld a hf) rfl hl) (TL hp h5) (h _ _ (g1.trans (.tok _)) (I1.tok _) h5)
 ·have hv:=av ((show G.mg "Whitespace"=some ov from(q0▸r1:RelV G (aq s1.heap μ) .cls ov)).symm.trans S.hC);have key:∀(x:Str),(∃mc t,readsIn G.K G.C mc=true/\DB G.K (.ref G.C) mc a=some (.val (.str x t)))->some (PV.str x)=some p->WP G A (getAttr ov a true) Q s1:=λx q hp=>by refine gb q λmc t h1 h2=>?_;rw[hv];exact cls_value X1 h1 h2 rfl (h _ _ (g1.trans (.tok _)) (I1.tok _) (av hp▸ .mkStr _ _ _))
  exact dU e (λq e=>key _ (q▸S.abM) e) λz e=>dU e (λq e=>key _ (q▸S.abN) e) λz e=>aK e
end
structure aV(G:bE)(φ:al)(γ:Nat->Prop)(s s':aB):Prop where
 keep:∀b o,s.heap.get? b=some o->¬G.tab b->¬φ b->s'.heap.get? b=some o
 there:∀b,s.heap.get? b≠none->¬φ b->s'.heap.get? b≠none
 gens:∀(i:Nat)(g:ru),s.gens[i]? =some g->¬γ i->s'.gens[i]? =some g
 os:s'.os=s.os
noncomputable abbrev dv:al :=λz=>False
section
variable{aS:aB}{cU:Nat->Prop}
theorem bc.aU(g:bc G s s'):aV G φ γ s s':=⟨λb o e n z=>g.keep b o e n,λb h z=>g.there b h,λi x e z=>g.gens i x e,g.os⟩
theorem aV.refl:aV G φ γ s s:=bc.refl.aU
theorem aV.trans(a:aV G φ γ s s')(b:aV G φ γ s' aS):aV G φ γ s aS:=
 ⟨λc o e n m=>b.keep c o (a.keep c o e n m) n m,λc h n=>b.there c (a.there c h n) n,λi g h n=>b.gens i g (a.gens i g h n) n,b.os.trans a.os⟩
theorem aV.mono(a:aV G φ γ s s')(h:∀b,φ b->a9 b)(k:∀i,γ i->cU i):aV G a9 cU s s':=
 ⟨λb o e n m=>a.keep b o e n λq=>m (h b q),λb q n=>a.there b q λr=>n (h b r),λi g e n=>a.gens i g e λq=>n (k i q),a.os⟩
theorem aV.grow(a:aV G φ γ s s')(h:∀b,φ b->s.heap.get? b=none)(k:∀i,γ i->s.gens[i]? =none):bc G s s':=
 ⟨λb o e n=>a.keep b o e n (λq=>(by replace e:=ao (aT (h b q)) e;exact aK e)),λb q=>a.there b q (λr=>q (h b r)),λi g e=>a.gens i g e (λq=>(by replace e:=ao (aT (k i q)) e;exact aK e)),a.os⟩
theorem aV.after(g:bc G s s')(a:aV G φ γ s' aS)(h:∀b,φ b->s.heap.get? b=none\/a9 b)(k:∀i,γ i->s.gens[i]? =none\/cU i):aV G a9 cU s aS:=
 ⟨λb o e n m=>a.keep b o (g.keep b o e n) n λq=>(h b q).elim (λq=>(aK (q.symm.trans e))) m,
  λb q n=>a.there b (g.there b q) (λr=>(h b r).elim q n),λi x e n=>a.gens i x (g.gens i x e) λq=>(k i q).elim (λq=>(aK (q.symm.trans e))) n,a.os.trans g.os⟩
theorem aV.of_same(h:∀b o,s.heap.get? b=some o->¬φ b->s'.heap.get? b=some o)(g:s'.gens=s.gens)(o:s'.os=s.os):aV G φ γ s s':=
 ⟨λb x e z n=>h b x e n,λb q n=>λr=>q (by
  cases e:s.heap.get? b with
  |none=>rfl
  |some o=>exact aK<|aT<|(h b o e n).symm.trans r),λi x e z=>by rw[g];exact e,o⟩
theorem aq.aU(a:aV G φ γ s s')(I:Inv G s)(h:∀b,φ b->μ b):∀b o,aq s.heap μ b o->aq s'.heap μ b o:=
 λb o q=>⟨a.keep b o q.1 (I.ct q.1 q.2.2) λr=>q.2.1 (h b r),q.2⟩
theorem aq.hide(k:∀b,ν b->h.get? b=none)(e:∀b o,aq h μ b o->aq h' μ b o):∀b o,aq h μ b o->aq h' (λb=>μ b\/ν b) b o:=
 λb o q=>⟨(e b o q).1,λx=>vx x q.2.1 (λx=>(by have q1:=q.1;replace q1:=ao (aT (k b x)) q1;exact aK q1)),q.2.2⟩
def Gd:List String:=["list_iterator","tuple_iterator","range_iterator","str_iterator","str_ascii_iterator","list_reverseiterator","generator"]
def mV(h:bT)(I:aw):Prop :=∃o n,h.get? I=some o/\o.cls=.type n/\n∈Gd
def Ge(h:bT)(I:aw):Prop :=∀o vs q t,h.get? I=some o->o.data=.fields vs->vs[1]? ≠some (.str q t)
theorem mV.ok{I:aw}(x:mV h I):∃o,h.get? I=some o/\o.cls≠.none/\o.cls≠.type "code":=by refine oG x λo n e hc hn=>⟨o,e,hc▸(λh=>bS h),λq=>bx (Ab (hc.symm.trans q)▸hn) (by decide)⟩
theorem KZ{I:aw}(x:mV s.heap I){Q:Unit->ak}(h:Q () s):bt M A (Jw t (.ref I) v) Q E s:=by
 refine oG x λo n e hc hn=>?_;have key:bt M A (do
   let(.ref r,.ref a):=((.ref I:ar),v)|return
   let o <-load r
   match o.cls,o.data with
   | .type n,.fields vs=>
    if["enumerate","zip","dict_itemiterator","dict_reverseitemiterator","odict_iterator","itertools.zip_longest","itertools.pairwise"].contains n&&vs[0]? ==some (dc a)then
     rule "for.unpacks-the-owned-tuple"
     updateField r 0 .none
   |_,_=>pure ()) Q E s:=by
  induction v<;>first
   |exact bz h
   |(refine aP (wpAny_load e ?_)
     rw[hc];generalize o.data=d;induction d<;>first
      |exact bz h
      |(dsimp only;rw[(by decide :∀n∈Gd,["enumerate","zip","dict_itemiterator","dict_reverseitemiterator","odict_iterator","itertools.zip_longest","itertools.pairwise"].contains n=false) n hn];exact bz h))
 induction t using jU<;>first |exact bz h|exact key
def It(G:bE)(μ own:al)(γ:Nat->Prop)(it:ar):ab->ak
 |[],s=>∀(φ:al)(cU:Nat->Prop)(s':aB),aV G φ cU s s'->(∀b,φ b->μ b/\¬own b)->(∀i,cU i->¬γ i)->Inv G s'->∀(A:dQ),a_ A 0->
   (∀Q:ar->ak,Q it s'->WP G A (pyIter it) Q s')/\∀(Q:ai->ak),
   (∀aS,aV G own γ s' aS->Inv G aS->Q none aS)->WP G A (iM it) Q s'
 |p::ps,s=>∀(φ:al)(cU:Nat->Prop)(s':aB),aV G φ cU s s'->(∀b,φ b->μ b/\¬own b)->(∀i,cU i->¬γ i)->Inv G s'->∀(A:dQ),a_ A 0->
   (∀Q:ar->ak,Q it s'->WP G A (pyIter it) Q s')/\∀(Q:ai->ak),
   (∀v aS,aV G own γ s' aS->Inv G aS->(∀b,own b->aS.heap.get? b≠none)->bL G aS.heap own->(∃I,it=.ref I/\mV aS.heap I)->RelV G (aq aS.heap μ) p v->It G μ own γ it ps aS->Q (some v) aS)->WP G A (iM it) Q s'
theorem It.aU(x:It G μ own γ it ps s)(a:aV G φ cU s s')(h:∀b,φ b->μ b/\¬own b)(k:∀i,cU i->¬γ i):It G μ own γ it ps s':=by
 induction ps<;>exact λψ δ s2 b hb hd I A R=>x (λb=>φ b\/ψ b) (λi=>cU i\/δ i) s2
   ((a.mono (λz=>.inl) λz=>.inl).trans (b.mono (λz=>.inr) λz=>.inr)) (λb q=>q.elim (h b) (hb b)) (λi q=>q.elim (k i) (hd i)) I A R
theorem It.self(x:It G μ own γ it ps s)(I:Inv G s)(R:a_ A 0)(h:Q it s):
  WP G A (pyIter it) Q s:=by
 induction ps<;>exact(x dv (λz=>False) s .refl (λz q=>q.elim) (λz q=>q.elim) I A R).1 Q h
theorem It.done(x:It G μ own γ it [] s)(I:Inv G s)(R:a_ A 0){Q:ai->ak}(h:∀s',aV G own γ s s'->Inv G s'->Q none s'):
  WP G A (iM it) Q s:=(x dv (λz=>False) s .refl (λz q=>q.elim) (λz q=>q.elim) I A R).2 Q h
theorem It.next(x:It G μ own γ it (p::ps) s)(I:Inv G s)(R:a_ A 0){Q:ai->ak}
  (h:∀v s',aV G own γ s s'->Inv G s'->(∀b,own b->s'.heap.get? b≠none)->bL G s'.heap own->(∃I,it=.ref I/\mV s'.heap I)->RelV G (aq s'.heap μ) p v->It G μ own γ it ps s'->Q (some v) s'):
  WP G A (iM it) Q s:=(x dv (λz=>False) s .refl (λz q=>q.elim) (λz q=>q.elim) I A R).2 Q h
theorem iw.Z6{b:aw}(h:iw o)(I:Inv G s)(e:s.heap.get? b=some o):¬G.tab b:=λq=>I.tK q λps e2 z=>(av (e.symm.trans e2)▸h).elim (λr=>r _ rfl) λr=>r.1 rfl
theorem bL.aU(F:bL G s.heap φ)(a:aV G ψ γ s s')(I:Inv G s)(aW:∀b,φ b->s.heap.get? b≠none)(k:∀b,φ b->ψ b->∀o,s'.heap.get? b=some o->iw o):
  bL G s'.heap φ:=λb q=>⟨(F b q).1,λo e=>(lM (ψ b)).elim (λh=>k b q h o e) λh=>by
 cases e1:s.heap.get? b with
 |none=>exact bx e1 (aW b q)
 |some o1=>
  have h1:=(F b q).2 o1 e1;exact av ((a.keep b o1 e1 (h1.Z6 I e1) h).symm.trans e)▸h1⟩
theorem Wx{c P:aw}{ps:aj}(a:CodeHd h c P)(e:h.get? P=some (is ps))(k:∀o vs,h.get? c=some o->o.cls=.type "code"->o.data=.fields vs->h'.get? c=some o):CodeHd h' c P:=by refine oA (a.tab e) λbb z=>?_;obtain⟨o,vs,h1,h2,h3,_⟩:=bb;delta CodeHd at a⊢;rw[k o vs h1 h2 h3,<-h1];exact a
theorem Inv.aU(I:Inv G s)(k:∀b o,s.heap.get? b=some o->¬φ b->h'.get? b=some o)(dm:bL G s.heap φ):Inv G {s with heap:=h',toks:=tk}:=by
 have hP:∀b ps,s.heap.get? b=some (is ps)->h'.get? b=some (is ps):=λz ps e=>k _ _ e λq=>((dm _ q).2 _ e).elim (λr=>r _ rfl) λr=>r.1 rfl;refine⟨λb o e=>k b o (I.old b o e) λq=>(aK<|(dm b q).1.symm.trans e),λm hm=>?_,I.bare⟩;refine oA (I.tabs m hm) λa b=>?_;have hd:∀ps,s.heap.get? m.P=some (is ps)->CodeHd h' m.c m.P:=λps e=>Wx a e λo vs h1 h2 h3=>k _ _ h1 λq=>((dm _ q).2 _ h1).elim (λr=>r _ h3) λr=>r.2.1 h2;rcases b with b|⟨c',b,o,vs,t,h1,h2,h3⟩
 ·exact⟨hd _ b,.inl (hP _ _ b)⟩
 ·exact⟨hd _ b,.inr ⟨c',hP _ _ b,o,vs,t,k _ _ h1 λq=>((dm _ q).2 _ h1).elim (λr=>r _ h2) λr=>r.2.2 _ _ _ h2 h3,h2,h3⟩⟩
theorem It.K2{I:aw}{fp:List aw}{P:Nat->ar->Prop}{St:Nat->bT->Prop}(W:∀A:dQ,A.handled=none->Walks G.prog G.w A I fp [I] n P St)
  (hS:∀i h,St i h->mV h I/\Ge h I) (hb:G.hb.get? I=none) (Hv:μ I):∀(ps:ab)(i:Nat)(s:aB),i+ps.length=n->St i s.heap->Inv G s->(∀b∈fp,b≠I->∃o,aq s.heap μ b o)->(∀b∈fp,¬G.tab b)->
  (∀j p v,ps[j]? =some p->P (i+j) v->RelV G (aq s.heap μ) p v)->It G μ (λb=>b=I) (λz=>False) (.ref I) ps s:=by
 have soft:∀{i:Nat}{h:bT},St i h->bL G h (λb=>b=I):=λ{i h} st b q=>by refine eW ((hS i h st).1.ok) λo e e1 e2=>?_;have e3:=(hS i h st).2 o;refine⟨by rw[q];exact hb,λo' e'=>?_⟩;rw[q,e]at e';obtain rfl:=av e';exact .inr ⟨e1,e2,λvs q t=>e3 vs q t e⟩
 intro ps;induction ps with
 |nil=>
  intro i s e st Is hf ht hv φ cU s' a dm _ I' A R;simp only[Ac,ag3]at e;subst e;have aO:=(W A R.hh).frame i s.heap s'.heap st λb hb o ho=>a.keep b o ho (ht b hb) λx=>by refine oA (dm b x) λh1 h2=>eW (hf b hb h2) λo' z h3 z=>h3 h1
  refine⟨λQ q=>(W A R.hh).self i s' Q _ aO q,λQ q=>(W A R.hh).done s' Q _ aO λh' tk k=>?_⟩;have k':∀b o,s'.heap.get? b=some o->¬b=I->h'.get? b=some o:=λb o e n=>k b o (by simpa using n) e;exact q _ (aV.of_same k' rfl rfl) (I'.aU k' (soft aO))
 |cons p ps ih=>
  intro i s e st Is hf ht hv φ cU s' a dm _ I' A R;have aO:=(W A R.hh).frame i s.heap s'.heap st λb hb o ho=>a.keep b o ho (ht b hb) λx=>by refine oA (dm b x) λh1 h2=>eW (hf b hb h2) λo' z h3 z=>h3 h1
  refine⟨λQ q=>(W A R.hh).self i s' Q _ aO q,λQ q=>(W A R.hh).item i s' Q _ (by simp at e;lia) aO λv h' tk hp bw k=>?_⟩;have k':∀b o,s'.heap.get? b=some o->¬b=I->h'.get? b=some o:=λb o e n=>k b o (by simpa using n) e;have b8:∀b o,aq s.heap μ b o->aq h' μ b o:=λb o q=>⟨k' b o (a.keep b o q.1 (Is.ct q.1 q.2.2) λx=>q.2.1 (dm b x).1) λx=>q.2.1 (x▸Hv),q.2.1,q.2.2⟩;have I2:Inv G {s' with heap:=h',toks:=tk}:=I'.aU k' (soft aO);refine q v _ (aV.of_same k' rfl rfl) I2 (λb hb=>by refine gb ((hS _ _ bw).1) λo z e z=>?_;rw[hb];rw[e];simp) (soft bw) ⟨I,rfl,(hS _ _ bw).1⟩ ?_ ?_
  ·exact(hv 0 p v rfl hp).mono b8
  ·refine ih (i+1) _ (by simp at e;lia) bw I2 (λb hb n=>(hf b hb n).imp λo=>b8 b o) ht λj p' v' hj wE=>?_;exact(hv (j+1) p' v' (by simpa using hj) (by rwa [show i+(j+1)=i+1+j by exact aT (Nat.succ_add_eq_add_succ i j)])).mono b8
end
theorem j0(h:bT):h.get? h.objs.size=none:=yb h
theorem AS(I:Inv G s):G.hb.get? s.heap.objs.size=none:=by
 cases e:G.hb.get? s.heap.objs.size with
 |none=>rfl
 |some o=>exact bx (fQ (I.old _ _ e)) (mL _)
theorem aq.push:∀b x,aq h μ b x->aq (h.push o) (λb=>μ b\/h.get? b=none) b x:=
 aq.hide (λb q=>q) (aq.keeps bU)
theorem TM(a b c:Int):b-a+c-1=b-a-1+c:=Jb (b-a) c (-1)
theorem A'{a c:Int}(hc:0<c):sW a b c=(((iO a b c).length:Nat):Int):=by
 delta sW iO;refine ao (aA hc) ?_;rw[aA hc,ba,cV,TM];refine oE (sX (kM hc)) λd bb=>?_;subst bb;by_cases h:a<b
 ·refine oE (sX (Do (afG h):0<=b-a-1)) λk hk=>ao (aA h) ?_;rw[hk];exact aR At (Nat.add_div_right k (gI.mp hc)).symm
 ·refine ao (aJ h) ?_;rw[Jm ((Int.toNat_lt_toNat hc).mpr (by lia))];rfl
theorem EU{a c:Int}{j:Nat}(e:((iO a b c).map PV.int)[j]? =some p):p=.int (a+(j:Int)*c):=by
 rw[i7]at e;refine cj e λi e1 e=>e▸aR PV.int ?_;by_cases h:0<c
 ·rw[show iO a b c=_ from aA h,i7]at e1;exact cj e1 λk e2 e1=>e1▸(afB.mp e2).elim λz q=>q▸by rw[IZ]
 ·rw[show iO a b c=_ from aJ h]at e1;exact aK e1
theorem Fr(h: -(2^63)<=i)(k:i<2^63):afi i=true:=gq (bh h) (bh k)
theorem Gf(h:i.natAbs<2^62):afi i=true:=Fr (cD (by decide) (kM (oB h).1)) (xy (oB h).2 (by decide))
theorem TN{a c:Int}(ha:a.natAbs<2^62)(hb:b.natAbs<2^62)(hc:c.natAbs<2^62)(h:0<c):Q7 a b c=true:=by
 have a1:=oB ha;have b1:=oB hb;have c1:=oB hc;have hz:sW a b c<2^63:=by
  delta sW;rw[aA h];by_cases q:a<b
  ·rw[aA q];exact td (Dp (Int.ediv_le_self c (Do (afG q))) 1) (td (ag6 (Du (b-a) 1)) (z6 (agR b1.2 (Int.neg_lt_of_neg_lt a1.1)) (by decide)))
  ·rw[aJ q];decide
 delta Q7;refine gq (gq (gq (gq (Gf ha) (Gf hb)) (Gf hc)) (Fr (cD (by decide) (A' h▸cz _)) hz)) (af8.mpr (.inr ?_));refine ao (aA h) ?_;exact Fr (cD (by decide) (agS (kM b1.1) (Do h))) (z6 (agR b1.2 (td (Js c (by decide)) c1.2)) (by decide))
theorem yh{I:aw}{n:String}(e1:h.get? I=some o)(e2:o.cls=.type n)(hn:n∈Gd)(e3:∀vs q t,o.data=.fields vs->vs[1]? ≠some (.str q t)):mV h I/\Ge h I:=
 ⟨⟨o,n,e1,e2,hn⟩,λo' vs q t e4=>e3 vs q t∘(av (e1.symm.trans e4)▸id)⟩
theorem EV{a b:α}(h:b∈[a])(n:b≠a):P:=bx (cW h) n
theorem LN{items:aj}(h:aN G V ps items.toList):ps.length=items.size:=h.length
theorem MZ{items:aj}(h:aN G V ps items.toList){j:Nat}(e1:ps[j]? =some p)(e2:items[j]? =some v):RelV G V p v:=by refine br (h.get e1) λv' e3 e4=>av (e3.symm.trans (re.trans e2))▸e4
theorem Ex(e:itemsOf p=some xs)(I:Inv G s)(hv:RelV G (aq s.heap μ) p v)
  (h:∀it s' own,bc G s s'->Inv G s'->It G (λb=>μ b\/s.heap.get? b=none) own (λz=>False) it xs s'->(∀b,own b->s.heap.get? b=none/\s'.heap.get? b≠none)->bL G s'.heap own->Q it s'):
  WP G A (pyIter v) Q s:=by
 have fin:∀(o:Obj)(fp:List aw)(k:Nat)(P:Nat->ar->Prop)(St:Nat->bT->Prop),o.isFreed=false->(o.cls≠.none/\o.cls≠.type "code"/\∀vs q t,o.data=.fields vs->vs[1]? ≠some (.str q t))->
   (∀A:dQ,A.handled=none->Walks G.prog G.w A s.heap.objs.size fp [s.heap.objs.size] k P St)->(∀i h,St i h->mV h s.heap.objs.size/\Ge h s.heap.objs.size)->
   xs.length=k->St 0 (s.heap.push o)->(∀b∈fp,b≠s.heap.objs.size->∃o,aq s.heap μ b o)->(∀j p v,xs[j]? =some p->P j v->RelV G (aq s.heap μ) p v)->
   Q (.ref s.heap.objs.size) {s with heap:=s.heap.push o}:=λo fp k P St ez ku W hS hl st hf hv=>by
  have self:(s.heap.push o).get? s.heap.objs.size=some o:=eF _ ez;refine h _ _ (λb=>b=s.heap.objs.size) (.of bU) (I.of bU) (It.K2 W hS (AS I) (.inr (j0 _)) xs 0 _ ((i8 _).trans hl) st (I.of bU) (λb hb q=>(hf b hb q).imp λz=>aq.push b _) (λb hb=>?_) (λj p v h1 h2=>(hv j p v h1 (i8 j▸h2)).mono aq.push))
   (λb q=>q▸⟨j0 _,λr=>aK<|aT<|self.symm.trans r⟩) λb q=>q▸⟨AS I,λo' e=>av (self.symm.trans e)▸ .inr ku⟩
  by_cases q:b=s.heap.objs.size
  ·exact q▸λht=>I.tK ht λps e z=>aK<|(j0 _).symm.trans e
  ·refine oE (hf b hb q) λx y=>I.ct y.1 y.2.2
 refine tT e (λvs q e=>?_) λe=>FT e (λvs q e=>?_) λe=>ZM e (λa b c q e=>?_) λe=>vU e (λx q e=>?_) aK
 ·have w:=av e;obtain⟨la,items,k,rfl,h1,h2⟩:=hv.yt q;have IL:s.heap.IsList la items:=⟨_,h1.1,rfl,_,rfl⟩;refine wpAny_pyIter_list IL (fin _ _ _ _ _ rfl ⟨(λh=>bS h),λh=>bx (Ab h) (by decide),λvs q t e=>pB e▸λh=>bS (av h)⟩ (λA hA=>Walks.list hA _ la (eO (fQ h1.1)) items) (λi h st=>?_) (w▸LN h2) ⟨⟨_,eF _ rfl,rfl,rfl⟩,IL.push _⟩ (λb hb q=>?_) λj p v r=>MZ h2 (w▸r))
  ·refine oA st λbb z=>?_;obtain⟨o,e1,e2,e3⟩:=bb;exact yh e1 e2 (by decide) λvs q t e=>pB (e3.symm.trans e)▸λh=>bS (av h)
  ·exact(cc.mp hb).elim (λhb=>bx hb q) λhb=>⟨_,cW hb▸h1⟩
 ·have w:=av e;obtain⟨la,o,items,k,rfl,h1,h3,h4,h2⟩:=hv.tupQ q;refine wpAny_pyIter_tuple ⟨_,h1.1,h3,_,h4⟩ (fin _ _ _ _ _ rfl ⟨(λh=>bS h),λh=>bx (Ab h) (by decide),λvs q t e=>pB e▸λh=>bS (av h)⟩ (λA hA=>Walks.tuple hA _ la (eO (fQ h1.1)) items) (λi h st=>?_) (w▸LN h2) ⟨⟨_,eF _ rfl,rfl,rfl⟩,⟨o,bU _ _ h1.1,h3,_,h4⟩⟩ (λb hb q=>?_) λj p v r=>MZ h2 (w▸r))
  ·refine oA st λbb z=>?_;obtain⟨o,e1,e2,e3⟩:=bb;exact yh e1 e2 (by decide) λvs q t e=>pB (e3.symm.trans e)▸λh=>bS (av h)
  ·exact(cc.mp hb).elim (λhb=>bx hb q) λhb=>⟨_,cW hb▸h1⟩
 ·refine aZ e λhg e=>r7 hg λg1 g2 g3 g4=>?_;have w:=av e;obtain⟨ra,t1,t2,t3,rfl,h1⟩:=hv.abK q;have g4:=bu g4;refine wpAny_pyIter_range h1.1 (TN (bu g1) (bu g2) (bu g3) g4) (fin _ _ _ _ _ rfl ⟨(λh=>bS h),λh=>bx (Ab h) (by decide),λvs q t e=>pB e▸λh=>bS (av h)⟩ (λA hA=>Walks.range hA _ a c _) (λi h st=>yh st rfl (by decide) λvs q t e=>pB e▸λh=>bS (av h)) (aR xA w.symm) ?_ (λb hb q=>EV hb q) λj p v e1 e2=>?_)
  ·refine ao (eF _ rfl) ?_;rw[A' g4];simp
  ·refine oE e2 λt bb=>?_;subst bb;exact EU (w▸e1)▸ .mkInt _ _ t
 ·have w:=av e;obtain⟨t,rfl⟩:=hv.ut q;have hl:(x.cps.toList.map chr).length=x.cps.size:=ba ..;have hx:∀j p v,(x.cps.toList.map chr)[j]? =some p->SignAt x j v->RelV G (aq s.heap μ) p v:=λj p v e1 e=>by refine gb e λc u e2 e3=>?_;replace e1:=ao (aT i7) e1;rw[re,e2]at e1;exact av e1▸e3▸ .mkStr _ _ u
  cases ha:x.cps.all (· <128)
  ·refine wpAny_pyIter_wide ha (fin _ _ _ _ _ rfl ⟨(λh=>bS h),λh=>bx (Ab h) (by decide),λvs q t e=>pB e▸λh=>bS (av h)⟩ (λA hA=>Walks.strWide hA _ x t) (λi h st=>?_) (w▸hl) ⟨_,eF _ rfl,rfl,rfl⟩ (λb hb q=>EV hb q) (w▸hx));refine eW st λo e1 e2 e3=>yh e1 e2 (by decide) λvs q t e=>pB (e3.symm.trans e)▸λh=>bS (av h)
  ·refine wpAny_pyIter_ascii ha (fin _ _ _ _ _ rfl ⟨(λh=>bS h),λh=>bx (Ab h) (by decide),λvs q t e=>pB e▸λh=>bS (av h)⟩ (λA hA=>Walks.strAscii hA _ x t) (λi h st=>?_) (w▸hl) ⟨_,eF _ rfl,rfl,rfl⟩ (λb hb q=>EV hb q) (w▸hx));refine eW st λo e1 e2 e3=>yh e1 e2 (by decide) λvs q t e=>pB (e3.symm.trans e)▸λh=>bS (av h)
end
structure bM(G:bE)(μ φ:al)(sc:aH)(env:Env)(l:Loc)(h:bT)(m:am):Prop where
 ok:lY sc env h
 ck:∀x,sc.names.lookup x=some .cell->env.kindOf x=some .cell
 hL:φ env.locals
 own:∀x c,sc.names.lookup x=some .cell->env.cells.lookup x=some c->φ c
 lj:∀x c,sc.names.lookup x=some .free->env.cells.lookup x=some c->¬φ c
 hC:∀x c,kc (sc.names.lookup x)=1->env.cells.lookup x=some c->¬μ c
 inj:∀x y c,sc.names.lookup x=some .cell->sc.names.lookup y=some .cell->env.cells.lookup x=some c->env.cells.lookup y=some c->x=y
 aW:∀b,μ b\/φ b->h.get? b≠none
 soft:bL G h φ
 dM:∀b,φ b->¬μ b
 iP:bL G h μ
 cq:CQ G sc env
 ns:h.Ns env.locals m
 slots:∀x p,l.lookup x=some p->∃v,bA h env m x v/\jg G (aq h λb=>μ b\/φ b) env p v
def bv(sc:aH)(env:Env)(b:aw):Prop :=∃x,sc.names.lookup x=some .cell/\env.cells.lookup x=some b
section
variable{A:dQ}{sc:aH}{n:Nat}
theorem pM(h:sc.names.lookup x=some .cell):kc (sc.names.lookup x)=1:=by rw[h];rfl
theorem Ba(h:sc.names.lookup x=some .free):kc (sc.names.lookup x)=1:=by rw[h];rfl
theorem LO{k:Option rs}(h:kc k=0):k=some .local:=by
 induction k with
 |none=>cases h
 |some k=>induction k<;>first |rfl|cases h
theorem AB{c L:aw}{v:ai}(x:h.IsCell c v)(y:h.Ns L m):c≠L:=λq=>by obtain⟨o,ho,hd⟩:=x;refine je y λo' es ep uH eM z=>?_;rw[q,uH]at ho;obtain rfl:=av ho;replace eM:=ao (aT hd) eM;exact jS<|eM
theorem bM.Yu(F:bM G μ φ sc env l s.heap m):¬bv sc env env.locals:=λ⟨x,h1,h2⟩=>by refine gb (F.ok.cells x ((F.ok.names _).trans (pM h1))) λc cv h3 h4=>?_;obtain rfl:=av (h2.symm.trans h3);exact AB h4 F.ns rfl
noncomputable abbrev uI(μ φ:al)(sc:aH)(env:Env):al :=λb=>μ b\/(φ b/\¬bv sc env b)
theorem bM.fo(F:bM G μ φ sc env l s.heap m):cu G (uI μ φ sc env) sc env l s.heap:=by
 refine⟨F.ok,.inr ⟨F.hL,F.Yu⟩,λx c hk hx q=>?_,λb q=>F.aW b (q.elim .inl λq=>.inr q.1),λb q=>q.elim (F.iP b) λq=>F.soft b q.1,F.cq,m,F.ns,λx p hp=>?_⟩
 ·replace hk:=ao (aT (F.ok.names ..)) hk;rcases q with q|⟨q,q2⟩
  ·exact F.hC x c hk hx q
  ·rcases tW hk with h|h
   ·exact q2 ⟨x,h,hx⟩
   ·exact F.lj x c h hx q
 ·refine br (F.slots x p hp) λv h1 h2=>⟨v,h1,h2.mono (aq.less λb q=>q.elim .inl λq=>.inr q.1)⟩
theorem bM.y_(F:bM G μ φ sc env l s.heap m)(hn:dS p=true)(h:RelV G (aq s.heap (uI μ φ sc env)) p v):RelV G (aq s.heap λb=>μ b\/φ b) p v:=by
 refine RelV.Fq (λb o q hd=>⟨q.1,λx=>q.2.1 ?_,q.2.2⟩) p hn h;refine vx x (λx=>?_) λx=>?_
 ·exact .inl x
 ·refine .inr ⟨x,λ⟨y,h1,h2⟩=>?_⟩;obtain⟨c,cv,h3,o',ho,eM⟩:=F.ok.cells y ((F.ok.names _).trans (pM h1));obtain rfl:=av (h2.symm.trans h3);obtain rfl:=av (q.1.symm.trans ho);exact hd _ eM
theorem bM.step(F:bM G μ φ sc env l s.heap m)(I:Inv G s)(a:aV G ψ γ s s')(kx:∀b,ψ b->φ b/\b≠env.locals/\¬bv sc env b)
  (h1:∀b,a9 b->φ b\/s.heap.get? b=none) (hL:a9 env.locals) (hc:∀b,bv sc env b->a9 b) (aW:∀b,a9 b->s'.heap.get? b≠none) (hs:bL G s'.heap a9):
  bM G μ a9 sc env l s'.heap m:=by
 have b8:∀b o,aq s.heap (λb=>μ b\/φ b) b o->aq s'.heap (λb=>μ b\/a9 b) b o:=λb o q=>
  ⟨a.keep b o q.1 (I.ct q.1 q.2.2) λx=>q.2.1 (.inr (kx b x).1),λx=>x.elim (λx=>q.2.1 (.inl x)) λx=>(h1 b x).elim (λx=>q.2.1 (.inr x)) λx=>(by have q1:=q.1;exact aK (x.symm.trans q1)),q.2.2⟩
 have cell:∀{y:Str}{c:aw}{v:ai},kc (sc.names.lookup y)=1->env.cells.lookup y=some c->s.heap.IsCell c v->s'.heap.IsCell c v:=λ{y c v} hk hy hc=>by
  have nt:=I.rE hc;refine br hc λo ho hd=>⟨o,a.keep _ _ ho nt λq=>?_,hd⟩;refine c_ (kx _ q) λq1 q2 q3=>?_;rcases tW hk with h|h
  ·exact q3 ⟨y,h,hy⟩
  ·exact F.lj y c h hy q1
 have ns:s'.heap.Ns env.locals m:=by have nt:=I.yu F.ns;refine j_ F.ns λo es ep ho r=>⟨o,es,ep,a.keep _ _ ho nt λq=>(kx _ q).2.1 rfl,r⟩
 refine⟨⟨F.ok.uG,F.ok.kind,F.ok.globals,F.ok.builtins,F.ok.names,λy hy=>?_⟩,F.ck,hL,λx c h1 h2=>hc c ⟨x,h1,h2⟩,λx c h2 h3 q=>?_,F.hC,F.inj,λb q=>?_,hs,λb q r=>?_,F.iP.aU a I (λb q=>F.aW b (.inl q)) (λb q r=>bx q (F.dM b (kx b r).1)),F.cq,ns,λx p hp=>?_⟩
 ·refine gb (F.ok.cells y hy) λc cv h1 h2=>⟨c,cv,h1,cell ((F.ok.names _).symm.trans (hy)) h1 h2⟩
 ·rcases h1 c q with q|q
  ·exact F.lj x c h2 h3 q
  ·obtain⟨c',cv,h4,o,ho,_⟩:=F.ok.cells x ((F.ok.names _).trans (Ba h2));obtain rfl:=av (h3.symm.trans h4);exact aK<|(q.symm.trans ho)
 ·refine vx q (λq=>?_) λq=>?_
  ·refine a.there b (F.aW b (.inl q)) λr=>F.dM b (kx b r).1 q
  ·exact aW b q
 ·rcases h1 b q with q|q
  ·exact F.dM b q r
  ·exact F.aW b (.inl r) q
 ·refine br (F.slots x p hp) λv h1 h2=>⟨v,?_,h2.mono b8⟩;rcases h1 with h1|⟨h1,c,h3,h4⟩
  ·exact .inl h1
  ·exact .inr ⟨h1,c,h3,cell ((F.ok.names _).symm.trans (h1)) h3 h4⟩
theorem fw:(bq l x p).lookup y=if y=x then some p else l.lookup y:=by
 induction l with
 |nil=>
  simp only[bq,dp,List.lookup_nil];by_cases h:y=x
  ·subst h;simp
  ·rw[aJ h];simp [dq h]
 |cons q r ih=>
  obtain⟨z,w⟩:=q;simp only[bq];by_cases hz:z=x
  ·subst hz;rw[aA rfl];simp only[dp];by_cases h:y=z
   ·subst h;simp
   ·rw[aJ h];simp [dq h]
  ·rw[aJ hz];simp only[dp,ih];by_cases h:y=z
   ·subst h;simp [hz]
   ·simp [dq h]
theorem bM.M0(F:bM G μ φ sc env l s.heap m)(I:Inv G s)(hx:sc.names.lookup x=some .local\/sc.names.lookup x=some .cell)(hv:∀y q,l'.lookup y=some q->(y=x/\jg G (aq s.heap λb=>μ b\/φ b) env q v)\/(y≠x/\l.lookup y=some q))
  {Q:Unit->ak} (h:∀s' m',aV G (λb=>b=env.locals\/bv sc env b) (λz=>False) s s'->Inv G s'->(∀b,b=env.locals\/bv sc env b->s'.heap.get? b≠none)->
   bM G μ φ sc env l' s'.heap m'->bA s'.heap env m' x v->(∀y w,y≠x->bA s.heap env m y w->bA s'.heap env m' y w)->Q () s'):WP G A (pF env x v) Q s:=by
 have key:∀(h':bT)(m':am)(tk:Nat)(a:aw),xu a s.heap h'->(a=env.locals\/bv sc env a)->(∃o',h'.get? a=some o'/\∀vs,o'.data≠.fields vs)->h'.Ns env.locals m'->
   bA h' env m' x v->(∀y w,y≠x->bA s.heap env m y w->bA h' env m' y w)->(∀y,kc (env.kindOf y)=1->∃c cv,env.cells.lookup y=some c/\h'.IsCell c cv)->Q () {s with heap:=h',toks:=tk}:=λh' m' tk a sb ha ⟨o',e2,e3⟩ hn hh hk hc=>by
  have GU:φ a:=by
   rcases ha with ha|⟨y,q1,q2⟩
   ·rw[ha];exact F.hL
   ·exact F.own y a q1 q2
  have kp:∀b o,s.heap.get? b=some o->¬b=a->h'.get? b=some o:=λb o e n=>(sb.2 b n).trans e;have Z7:bL G s.heap (λb=>b=a):=λb q=>by rw[q];exact F.soft a GU
  have I':Inv G {s with heap:=h',toks:=tk}:=I.aU kp Z7;have ex:∀b,s.heap.get? b≠none->h'.get? b≠none:=λb q=>by
   by_cases e:b=a
   ·rw[e,e2];simp
   ·rw[sb.2 b e];exact q
  have b8:∀b o,aq s.heap (λb=>μ b\/φ b) b o->aq h' (λb=>μ b\/φ b) b o:=λb o q=>⟨kp b o q.1 λx=>q.2.1 (.inr (x▸GU)),q.2⟩;refine h _ m' (aV.of_same (λb o e n=>kp b o e λq=>n (q▸ha)) rfl rfl) I' (λb q=>ex b (F.aW b (.inr ?_))) ?_ hh hk
  ·rcases q with q|⟨y,q1,q2⟩
   ·rw[q];exact F.hL
   ·exact F.own y b q1 q2
  ·refine⟨⟨F.ok.uG,F.ok.kind,F.ok.globals,F.ok.builtins,F.ok.names,hc⟩,F.ck,F.hL,F.own,F.lj,F.hC,F.inj,λb q=>ex b (F.aW b q),λb q=>⟨(F.soft b q).1,λob eb=>?_⟩,F.dM,λb q=>⟨(F.iP b q).1,λob eb=>(F.iP b q).2 ob (by rwa [show h'.get? b=s.heap.get? b from sb.2 b λw=>F.dM b (w▸GU) q]at eb)⟩,F.cq,hn,λy q hq=>?_⟩
   ·by_cases e:b=a
    ·rw[e]at eb;obtain rfl:=av ((show h'.get? a=some o' from e2).symm.trans eb);exact .inl e3
    ·replace eb:=ao (aT (show h'.get? b=s.heap.get? b from sb.2 b e)) eb;exact(F.soft b q).2 ob eb
   ·rcases hv y q hq with⟨e,w⟩|⟨e,w⟩
    ·subst e;exact⟨v,hh,w.mono b8⟩
    ·refine br (F.slots y q w) λw' h1 h2=>⟨w',hk y w' e h1,h2.mono b8⟩
 rcases hx with hx|hx
 ·have hl:env.kindOf x=some .local:=LO (by refine ao (F.ok.names ..) ?_;rw[hx];rfl);refine IV hl F.ns (λh' gy ll=>?_) (F.ok.kind▸rfl);refine je (id gy) λo' sr ep' uH eM z=>key h' _ _ env.locals ll (.inl rfl) ⟨o',uH,λvs=>by rw[eM];nofun⟩ gy (.inl ⟨hl,by simp⟩) (λy w hy q=>?_) λy hy=>?_
  ·rcases q with⟨q1,q2⟩|⟨q1,c,q2,q3⟩
   ·exact .inl ⟨q1,by simp only[hy,if_false];exact q2⟩
   ·exact .inr ⟨q1,c,q2,q3.sameBut ll (AB q3 F.ns)⟩
  ·refine gb (F.ok.cells y hy) λc cv q2 q3=>⟨c,cv,q2,q3.sameBut ll (AB q3 F.ns)⟩
 ·have hl:=F.ck x hx;refine gb (F.ok.cells x (aR _ hl)) λc cv h1 h2=>wpAny_storeName_cell F.ok.kind hl h1 h2 λh' su ll=>?_;have hcL:=AB h2 F.ns;refine br (id su) λo' uH eM=>?_;have other:∀y c',y≠x->kc (env.kindOf y)=1->env.cells.lookup y=some c'->c'≠c:=λy c' hy hk hc q=>by
   replace hk:=ao (aT (F.ok.names ..)) hk;rcases tW hk with k|k
   ·exact hy (F.inj y x c' k hx hc (q▸h1))
   ·exact F.lj y c' k hc (q▸F.own x c hx h1)
  refine key h' m _ c ll (.inr ⟨x,hx,h1⟩) ⟨o',uH,λvs=>by rw[eM];nofun⟩ (F.ns.sameBut ll (lP hcL)) (.inr ⟨by rw[hl];rfl,c,h1,su⟩) (λy w hy q=>?_) λy hy=>?_
  ·rcases q with⟨q1,q2⟩|⟨q1,c',q2,q3⟩
   ·exact .inl ⟨q1,q2⟩
   ·exact .inr ⟨q1,c',q2,q3.sameBut ll (other y c' hy q1 q2)⟩
  ·refine gb (F.ok.cells y hy) λc' cv' q2 q3=>?_;by_cases e:y=x
   ·subst e;obtain rfl:=av (h1.symm.trans q2);exact⟨_,_,h1,su⟩
   ·exact⟨c',cv',q2,q3.sameBut ll (other y c' e hy q2)⟩
theorem bM.store(F:bM G μ φ sc env l s.heap m)(I:Inv G s)(hx:sc.names.lookup x=some .local\/sc.names.lookup x=some .cell)(hv:jg G (aq s.heap λb=>μ b\/φ b) env p v)
  {Q:Unit->ak} (h:∀s' m',aV G (λb=>b=env.locals\/bv sc env b) (λz=>False) s s'->Inv G s'->(∀b,b=env.locals\/bv sc env b->s'.heap.get? b≠none)->
   bM G μ φ sc env (bq l x p) s'.heap m'->bA s'.heap env m' x v->(∀y w,y≠x->bA s.heap env m y w->bA s'.heap env m' y w)->Q () s'):WP G A (pF env x v) Q s:=
 F.M0 I hx (l':=bq l x p) (λy q hq=>by
  rw[fw]at hq;by_cases e:y=x
  ·rw[aA e]at hq;obtain rfl:=av hq;exact .inl ⟨e,hv⟩
  ·rw[aJ e]at hq;exact .inr ⟨e,hq⟩) h
end
section
variable{n k w:Nat}{sc cs:aH}{A:dQ}{pos:Pos}{r:Rec}{st:St}{a:aw}{P:Prop}{own:al}{fl:bG}{d:FD}{c:Bool}{body:ad}{E:ar->ak}{b:Int}{nm:Str}{ns:af}{it:ar}{M:Model}
theorem slot_of(h:RelV G V p v):jg G V env p v:=.inl h
theorem tL(h:gf sc x=true):sc.names.lookup x=some .local\/sc.names.lookup x=some .cell:=by simpa [gf]using h
structure nE(G:bE)(μ φ:al)(sc:aH)(env:Env)(l':Loc)(s s':aB)(m m':am)(ns:af):Prop where
 aU:aV G (λb=>b=env.locals\/bv sc env b) (λz=>False) s s'
 inv:Inv G s'
 ex:∀b,b=env.locals\/bv sc env b->s'.heap.get? b≠none
 aI:bM G μ φ sc env l' s'.heap m'
 rest:∀y w,y∉ns->bA s.heap env m y w->bA s'.heap env m' y w
theorem bM.grow(F:bM G μ φ sc env l s.heap m)(g:bc G s s')(I:Inv G s)(hs:bL G s'.heap φ):bM G μ φ sc env l s'.heap m:=
 F.step I (ψ:=dv) (γ:=λz=>False) g.aU (λz q=>q.elim) (λz=>.inl) F.hL (λb ⟨x,h1,h2⟩=>F.own x b h1 h2) (λb q=>g.there b (F.aW b (.inr q))) hs
theorem bM.grown(F:bM G μ φ sc env l s.heap m)(g:bc G s s')(I:Inv G s):bM G μ φ sc env l s'.heap m:=
 F.grow g I (F.soft.grow g I λb q=>F.aW b (.inr q))
theorem bM.bind1(F:bM G μ φ sc env l s.heap m)(I:Inv G s)(hx:gf sc x=true)(hv:jg G (aq s.heap λb=>μ b\/φ b) env p v)
 {Q:Unit->ak} (h:∀s' m',nE G μ φ sc env (bq l x p) s s' m m' [x]->bA s'.heap env m' x v->Q () s'):WP G A (assign (.Name x pos) env v) Q s:=
 pw (F.store I (tL hx) hv λs' m' a b c d e f=>h s' m' ⟨a,b,c,d,λy w hy q=>f y w (by simpa using hy) q⟩ e)
theorem nE.trans{l1 l2:Loc}{m1 m2:am}{a b:af}(x:nE G μ φ sc env l1 s s1 m m1 a)(y:nE G μ φ sc env l2 s1 s2 m1 m2 b):nE G μ φ sc env l2 s s2 m m2 (a++b):=
 ⟨x.aU.trans y.aU,y.inv,y.ex,y.aI,λz w hz q=>y.rest z w (λr=>hz (by simp [r])) (x.rest z w (λr=>hz (by simp [r])) q)⟩
theorem U7(e:mR ts ps l=some l'):(assignEach ts env).length=ps.length/\(assignEach ts env).findIdx? (·.1)=none:=by
 induction ts generalizing ps l with
 |nil=>exact aZ e λh z=>dd h▸⟨rfl,rfl⟩
 |cons t ts ih=>refine aF e λx hx e1=>aF e1 λq hq e2=>?_;rw[gZ hq];exact ka hx λpos=>⟨aR (· +1) (ih e2).1,(List.findIdx?_cons ..).trans (by simp [(ih e2).2])⟩
theorem bM.lZ(F:bM G μ φ sc env l s.heap m):∀b,b=env.locals\/bv sc env b->φ b:=λb q=>q.elim (λq=>q▸F.hL) λ⟨x,h1,h2⟩=>F.own x b h1 h2
theorem bM.binds(F:bM G μ φ sc env l s.heap m)(I:Inv G s)(hn:(namesOf ts).all (gf sc)=true)(e:mR ts ps l=some l')
  (r:aN G (aq s.heap λb=>μ b\/φ b) ps vs) {Q:Unit->ak} (h:∀s' m',nE G μ φ sc env l' s s' m m' (namesOf ts)->Q () s'):
  WP G A (Am ((assignEach ts env).map (·.2)) vs) Q s:=by
 induction ts generalizing ps vs l s m Q with
 |nil=>refine aZ e λhp e=>?_;rw[dd hp]at r;exact r.fW (P:=λvs=>WP G A (Am ((assignEach [] env).map (·.2)) vs) Q s) (bz (h s m ⟨.refl,I,λb q=>F.aW b (.inr (F.lZ b q)),av e▸F,λz z z q=>q⟩))
 |cons t ts ih=>
  refine aF e λx hx e1=>aF e1 λq hq e2=>?_;rw[gZ hq]at r;revert hn h;refine ka hx λpos hn h=>be hn λn1 n2=>r.fJ (P:=λvs=>WP G A (Am ((assignEach (.Name x pos::ts) env).map (·.2)) vs) Q s) λv vs r1 r2=>
   aP (iL (F.bind1 I n1 (slot_of r1) λs1 m1 P1 z=>ih P1.aI P1.inv n2 e2 (r2.mono (aq.aU P1.aU I λb q=>.inr (F.lZ b q))) λs2 m2 P2=>h s2 m2 (P1.trans P2)))
theorem bM.bind(F:bM G μ φ sc env l s.heap m)(I:Inv G s)(hh:A.handled=none)(ht:Bn sc t=true)(e:fz t l p=some l')(hv:RelV G (aq s.heap λb=>μ b\/φ b) p v)
  {Q:Unit->ak} (h:∀s0 s' m',bc G s s0->Inv G s0->nE G μ φ sc env l' s0 s' m m' (gp t)->Q () s'):WP G A (assign t env v) Q s:=by
 revert ht h;refine rG e (λx pos e ht h=>?_) λe=>?_
 ·exact F.bind1 I (be ht λq z=>q) (slot_of hv) λs' m' P z=>h s s' m' .refl I (av e▸P)
 ·refine yn e (λts k pos e ht h=>?_) aK;refine aF e λps hp e=>?_;obtain⟨a,o,vs,k',rfl,h1,h2,h3,h4⟩:=hv.tupQ (KO hp);obtain⟨g2,g3⟩:=U7 e;refine assign_Tuple_tuple hh ⟨_,h1.1,h2,_,h3⟩ (g2.trans h4.length) g3 λh' hx=>?_;have k:∀b o,s.heap.get? b=some o->h'.get? b=some o:=λb o e=>hx b o (eO (fQ e)) e;have g:bc G s {s with heap:=h'}:=.of k;exact bM.binds (F.grown g I) (I.of k) ht e (h4.mono (aq.keeps k)) λs' m' P=>h _ s' m' g (I.of k) P
end
theorem Av{l:List (Str×α)}(h:x∉l.map (·.1)):l.lookup x=none:=by
 induction l with
 |nil=>rfl
 |cons a r ih=>obtain⟨y,v⟩:=a;simp only[cO,cc,not_or]at h;refine ao dp ?_;rw[dq h.1];exact ih h.2
theorem S3:∀(names:List (Str×rs))(h:bT)(n:Nat)(acc:List (Str×aw)),h.objs.size=n->(names.map (·.1)).Nodup->
  (∀x,names.lookup x=some .cell->∃c,(fT n names acc).lookup x=some c/\n<=c/\(xD h names).IsCell c none)/\
  (∀x,names.lookup x≠some .cell->(fT n names acc).lookup x=acc.lookup x)/\
  (∀x y c,names.lookup x=some .cell->names.lookup y=some .cell->(fT n names acc).lookup x=some c->(fT n names acc).lookup y=some c->x=y):=by
 intro names;induction names with
 |nil=>exact λh n acc z z=>⟨λx q=>aK q,λx z=>rfl,λx y c q=>aK q⟩
 |cons q r ih=>
  induction q with
  |mk k kind=>
  intro h n acc hn hd;refine oA (tn.mp hd) λhk hd2=>?_;have Ps:r.lookup k=none:=Av hk;have other:∀x,x≠k->((k,kind)::r).lookup x=r.lookup x:=λx q=>by refine ao dp ?_;rw[dq q]
  have self:((k,kind)::r).lookup k=some kind:=by simp [dp]
  by_cases e:kind=.cell
  ·subst e;have gy:(h.push {cls:=.type "cell",data:=.cell none}).objs.size=n+1:=by refine ao (Ah ..) ?_;rw[hn]
   refine c_ (ih (h.push {cls:=.type "cell",data:=.cell none}) (n+1) ((k,n)::acc) gy hd2) λi1 i2 i3=>?_;have e1:fT n ((k,.cell)::r) acc=fT (n+1) r ((k,n)::acc):=rfl;have e2:xD h ((k,.cell)::r)=xD (h.push {cls:=.type "cell",data:=.cell none}) r:=rfl;have Hy:(fT (n+1) r ((k,n)::acc)).lookup k=some n:=by refine ao (i2 k (by rw[Ps];simp)) ?_;simp [dp]
   rw[e1,e2];refine⟨λx q=>?_,λx q=>?_,λx y c q1 q2 q3 q4=>?_⟩
   ·by_cases hx:x=k
    ·subst hx;refine⟨n,Hy,eI _,Heap.IsCell.keeps (⟨{cls:=.type "cell",data:=.cell none},?_,rfl⟩:Heap.IsCell (h.push {cls:=.type "cell",data:=.cell none}) n none) (pushCells_keeps _ _)⟩;rw[<-hn];exact eF _ rfl
    ·replace q:=ao (aT (other x hx)) q;refine eW (i1 x q) λc c1 c2 c3=>⟨c,c1,th c2,c3⟩
   ·by_cases hx:x=k
    ·subst hx;rw[self]at q;exact bx rfl q
    ·rw[other x hx]at q;refine ao (i2 x q) ?_;rw[dp,dq hx]
   ·by_cases hx:x=k<;>by_cases hy:y=k
    ·refine ao hx ?_;rw[hy]
    ·exfalso;subst hx;replace q3:=ao (aT Hy) q3;obtain rfl:=av q3;replace q2:=ao (aT (other y hy)) q2;refine eW (i1 y q2) λc c1 c2 z=>?_;replace c1:=ao (aT q4) c1;obtain rfl:=av c1;exact af0 _ c2
    ·exfalso;subst hy;replace q4:=ao (aT Hy) q4;obtain rfl:=av q4;replace q1:=ao (aT (other x hx)) q1;refine eW (i1 x q1) λc c1 c2 z=>?_;replace c1:=ao (aT q3) c1;obtain rfl:=av c1;exact af0 _ c2
    ·replace q1:=ao (aT (other x hx)) q1;replace q2:=ao (aT (other y hy)) q2;exact i3 x y c q1 q2 q3 q4
  ·have hb:(kind==RH)=false:=by simpa using e
   refine c_ (ih h n acc hn hd2) λi1 i2 i3=>?_;have e1:fT n ((k,kind)::r) acc=fT n r acc:=by simp [fT,hb]
   have e2:xD h ((k,kind)::r)=xD h r:=by simp [xD,hb]
   have oc:∀x,((k,kind)::r).lookup x=some .cell->r.lookup x=some .cell:=λx q=>by
    by_cases hx:x=k
    ·subst hx;replace q:=ao (aT self) q;obtain rfl:=av q;exact bx rfl e
    ·rwa [other x hx]at q
   rw[e1,e2];refine⟨λx q=>i1 x (oc x q),λx q=>i2 x λq2=>?_,λx y c q1 q2=>i3 x y c (oc x q1) (oc y q2)⟩;by_cases hx:x=k
   ·subst hx;replace q2:=ao (aT Ps) q2;exact aK q2
   ·rw[other x hx]at q;exact q q2
section
variable{A:dQ}{sc:aH}{n:Nat}
def rP(scope:aH)(globals:aw)(closure:List (Str×aw))(qual:Str)(func:Option aw)(code:ar)(around:Option Env)(builtins:aw)(L:aw):Env:=
 newEnv scope L globals (fT (L+1) scope.names closure) qual func code around builtins
def gJ(M:Model)(A:dQ)(E:ar->ak)(env:Env):List (Str×ar)->ak->ak
 |[],Q,s=>Q s
 |(x,v)::r,Q,s=>bt M A (pF env x v) (λz s'=>gJ M A E env r Q s') E s
theorem gJ.mono{M:Model}{E:ar->ak}{Q Q':ak}(k:∀s,Q s->Q' s):∀{binds:List (Str×ar)}{s:aB},gJ M A E env binds Q s->gJ M A E env binds Q' s
 |[],s,h=>k s h
 |(_,_)::_,_,h=>db h (λz z q=>gJ.mono k q) λz z x=>x
theorem D8{M:Model}{E:ar->ak}{Q:PUnit->ak}{f:Str×ar->PUnit->Sem (ForInStep PUnit)}(hf:∀n v u,f (n,v) u=(do pF env n v;pure (.yield ⟨⟩))):
  ∀{binds:List (Str×ar)}{s:aB},gJ M A E env binds (Q ⟨⟩) s->bt M A (forIn binds ⟨⟩ f) Q E s
 |[],s,h=>by refine eT (agJ ..) ?_;exact bz h
 |(x,v)::r,s,h=>by refine eT (DE ..) ?_;rw[hf];exact aP (aP (db h (λz s' h'=>bz (D8 hf h')) λz z x=>x))
structure Fs(s cn:aB)(scope:aH)(closure:List (Str×aw))(env:Env):Prop where
 same:∃h',cn={s with heap:=h'}
 keep:∀b o,s.heap.get? b=some o->cn.heap.get? b=some o
 new:s.heap.get? env.locals=none
 ns:cn.heap.Ns env.locals λz=>none
 cells:∀x,scope.names.lookup x=some .cell->∃c,env.cells.lookup x=some c/\s.heap.get? c=none/\cn.heap.IsCell c none
 other:∀x,scope.names.lookup x≠some .cell->env.cells.lookup x=closure.lookup x
 inj:∀x y c,scope.names.lookup x=some .cell->scope.names.lookup y=some .cell->env.cells.lookup x=some c->env.cells.lookup y=some c->x=y
theorem xF{scope:aH}{L globals:aw}{cells:List (Str×aw)}{qual:Str}{func:Option aw}{code:ar}{around:Option Env}{builtins:aw}:
  (newEnv scope L globals cells qual func code around builtins).locals=L/\(newEnv scope L globals cells qual func code around builtins).cells=cells/\(newEnv scope L globals cells qual func code around builtins).scope=scope/\
  (newEnv scope L globals cells qual func code around builtins).globals=globals/\(newEnv scope L globals cells qual func code around builtins).builtins=(match around with |some o=>o.builtins|none=>builtins):=by
 induction around<;>exact⟨rfl,rfl,rfl,rfl,rfl⟩
theorem Cz{M:Model}{E:ar->ak}{scope:aH}{globals:aw}{closure:List (Str×aw)}{binds:List (Str×ar)}{qual:Str}{func:Option aw}{code:ar}{around:Option Env}{builtins:aw}{Q:Env->ak}
  (hd:(scope.names.map (·.1)).Nodup)
  (h:∀cn,Fs s cn scope closure (rP scope globals closure qual func code around builtins s.heap.objs.size)->
   gJ M A E (rP scope globals closure qual func code around builtins s.heap.objs.size) binds (Q (rP scope globals closure qual func code around builtins s.heap.objs.size)) cn):
  bt M A (newFunctionEnv scope globals closure binds qual func code around builtins) Q E s:=by
 have main:∀(cl:String),gJ M A E (rP scope globals closure qual func code around builtins s.heap.objs.size) binds (Q (rP scope globals closure qual func code around builtins s.heap.objs.size))
   {s with heap:=xD (s.heap.push {cls:=.type cl,data:=.dict #[]}) scope.names}:=λcl=>by
  have sz:(s.heap.push {cls:=.type cl,data:=.dict #[]}).objs.size=s.heap.objs.size+1:=Ah ..;refine c_ (S3 scope.names (s.heap.push {cls:=.type cl,data:=.dict #[]}) (s.heap.objs.size+1) closure sz hd) λc1 c2 c3=>v_ (@xF scope s.heap.objs.size globals (fT (s.heap.objs.size+1) scope.names closure) qual func code around builtins) λe1 e2 e3 z=>h _ ⟨⟨_,rfl⟩,λb o e=>pushCells_keeps _ _ b o (bU b o e),?_,?_,λx q=>?_,λx q=>?_,λx y c q1 q2 q3 q4=>?_⟩
  ·show s.heap.get? (newEnv ..).locals=none;rw[e1];exact j0 _
  ·show Heap.Ns _ (newEnv ..).locals _;rw[e1];exact(Heap.Ns.new s.heap (.type cl)).keeps (pushCells_keeps _ _)
  ·refine eW (c1 x q) λc d1 d2 d3=>⟨c,?_,?_,d3⟩
   ·show(newEnv ..).cells.lookup x=_;rw[e2];exact d1
   ·cases e:s.heap.get? c with
    |none=>rfl
    |some o=>exact bx (fQ e) (jV.mpr (th d2))
  ·show(newEnv ..).cells.lookup x=_;rw[e2];exact c2 x q
  ·have q3:(newEnv scope s.heap.objs.size globals (fT (s.heap.objs.size+1) scope.names closure) qual func code around builtins).cells.lookup x=some c:=q3;have q4:(newEnv scope s.heap.objs.size globals (fT (s.heap.objs.size+1) scope.names closure) qual func code around builtins).cells.lookup y=some c:=q4;rw[e2]at q3 q4;exact c3 x y c q1 q2 q3 q4
 induction around with
 |none=>have main:=main "frame";simp only[newFunctionEnv,Option.isSome_none,kJ,if_false];refine aP (wpAny_alloc ?_);refine aP (wpAny_layCells _ (λname kind cells=>by cases Hz:kind==RH<;>simp [Hz]) _ _ _ _ ?_);rw[show({s with heap:=s.heap.push {cls:=.type "frame",data:=.dict #[]}}:aB).heap.objs.size=s.heap.objs.size+1 from Ah ..];refine aP (D8 (λz z z=>rfl) ?_);exact gJ.mono (λz q=>bz q) main
 |some outer=>have main:=main "dict";simp only[newFunctionEnv,Option.isSome_some,if_true];refine aP (wpAny_alloc ?_);refine aP (wpAny_layCells _ (λname kind cells=>by cases Hz:kind==RH<;>simp [Hz]) _ _ _ _ ?_);rw[show({s with heap:=s.heap.push {cls:=.type "dict",data:=.dict #[]}}:aB).heap.objs.size=s.heap.objs.size+1 from Ah ..];refine aP (D8 (λz z z=>rfl) ?_);exact gJ.mono (λz q=>bz q) main
theorem xK(h:kg sc=true):(sc.names.map (·.1)).Nodup:=by simp only[kg,lI,decide_eq_true_eq]at h;exact h.2
theorem AI(h:kg sc=true):sc.kind=.function/\sc.isCoroutine=false/\sc.isGenerator=false:=by simp only[kg,lI,beq_iff_eq,vo]at h;exact⟨h.1.1.1.1.1,h.1.1.1.1.2,h.1.1.1.2⟩
structure oI(G:bE)(μ:al)(sc:aH)(cl:List (Str×aw))(ew:Env)(fr:Loc)(h:bT):Prop where
 free:∀x,sc.names.lookup x=some .free->∃c cv,cl.lookup x=some c/\h.IsCell c cv/\¬μ c
 val:∀x p,fr.lookup x=some p->sc.names.lookup x=some .free/\∃c v,cl.lookup x=some c/\h.IsCell c (some v)/\jg G (aq h μ) ew p v
theorem bM.enter{cn:aB}{cl:List (Str×aw)}{ew:Env}{fr:Loc}(N:Fs s cn sc cl env)(I:Inv G s)(aW:Hid s.heap μ)(hsf:bL G s.heap μ)(qA:CQ G sc ew)(hs:kg sc=true)(T:oI G μ sc cl ew fr s.heap)
  (el:ew.locals=env.locals) (ec:ew.cells=env.cells) (ek:ew.scope.kind=.function) (eg:ew.globals=fS) (eb:ew.builtins=fZ)
  (en:∀x,kc (ew.kindOf x)=kc (sc.names.lookup x)) (eck:∀x,sc.names.lookup x=some .cell->ew.kindOf x=some .cell):
  bc G s cn/\Inv G cn/\bM G μ (λb=>b=env.locals\/bv sc ew b) sc ew fr cn.heap (λz=>none):=by
 obtain⟨h',rfl⟩:=N.same;have g:bc G s {s with heap:=h'}:=.of N.keep;have I1:Inv G {s with heap:=h'}:=I.of N.keep;have nk:∀{x:Str},sc.names.lookup x=some .free->sc.names.lookup x≠some .cell:=λh=>by rw[h];nofun
 have Cc:∀b,bv sc ew b->s.heap.get? b=none/\h'.IsCell b none:=λb ⟨x,h1,h2⟩=>by rw[ec]at h2;refine eW (N.cells x h1) λc c1 c2 c3=>?_;rw[h2]at c1;obtain rfl:=av c1;exact⟨c2,c3⟩
 have pZ:∀b,(b=env.locals\/bv sc ew b)->s.heap.get? b=none:=λb q=>q.elim (λq=>q▸N.new) λq=>(Cc b q).1;have Pt:∀{x:Str}{c:aw},sc.names.lookup x=some .free->ew.cells.lookup x=some c->cl.lookup x=some c:=λ{x c} h1 h2=>by rw[ec]at h2;rw[<-N.other x (nk h1)];exact h2
 refine⟨g,I1,⟨hs,ek,eg,eb,en,λy hy=>?_⟩,eck,.inl el,λx c h1 h2=>.inr ⟨x,h1,h2⟩,λx c h1 h2 q=>?_,λx c h1 h2 q=>?_,λx y c h1 h2 h3 h4=>?_,λb q=>?_,λb q=>?_,λb q r=>?_,hsf.grow g I aW,qA,by rw[el];exact N.ns,λx p hp=>?_⟩
 ·replace hy:=ao (aT (en ..)) hy;rcases tW hy with h|h
  ·refine eW (N.cells y h) λc c1 c2 c3=>⟨c,none,by rw[ec];exact c1,c3⟩
  ·refine oG (T.free y h) λc cv c1 c2 z=>⟨c,cv,by rw[ec,N.other y (nk h)];exact c1,c2.keeps N.keep⟩
 ·refine oG (T.free x h1) λc' cv c1 bb z=>?_;obtain⟨o,c2,_⟩:=bb;replace c1:=ao (aT (Pt h1 h2)) c1;obtain rfl:=av c1;replace c2:=ao (aT (pZ c q)) c2;exact nomatch c2
 ·rcases tW h1 with h|h
  ·have :=(Cc c ⟨x,h,h2⟩).1;exact aW c q this
  ·refine oG (T.free x h) λc' cv c1 z c3=>?_;replace c1:=ao (aT (Pt h h2)) c1;obtain rfl:=av c1;exact c3 q
 ·rw[ec]at h3 h4;exact N.inj x y c h1 h2 h3 h4
 ·rcases q with q|q|q
  ·exact g.there b (aW b q)
  ·subst q;refine j_ N.ns λo es ep ho z=>?_;rw[show h'.get? _=some o from ho];simp
  ·refine br ((Cc b q).2) λo ho z=>?_;rw[ho];simp
 ·refine⟨?_,λo e=>.inl ?_⟩
  ·cases e:G.hb.get? b with
   |none=>rfl
   |some o=>have :=I.old b o e;replace this:=ao (aT (pZ b q)) this;exact aK this
  ·rcases q with q|q
   ·subst q;refine je N.ns λo' es ep ho hd z=>?_;replace e:=ao (aT (show h'.get? _=some o' from ho)) e;obtain rfl:=av e;intro vs;rw[hd];nofun
   ·refine br ((Cc b q).2) λo' ho hd=>?_;replace ho:=ao (aT (show h'.get? b=some o from e)) ho;obtain rfl:=av ho;intro vs;rw[hd];nofun
 ·exact aW b r (pZ b q)
 ·obtain⟨h1,c,v,h2,h3,h4⟩:=T.val x p hp;refine⟨v,.inr ⟨by refine ao (en ..) ?_;exact Ba h1,c,by rw[ec,N.other x (nk h1)];exact h2,h3.keeps N.keep⟩,h4.mono ?_⟩;exact λb o q=>⟨N.keep b o q.1,λr=>r.elim q.2.1 λr=>(by have q1:=q.1;replace q1:=ao (aT (pZ b r)) q1;exact aK q1),q.2.2⟩
end
section
variable{n k w:Nat}{sc cs:aH}{A:dQ}{pos:Pos}{r:Rec}{st:St}{a:aw}{P:Prop}{own:al}{fl:bG}{d:FD}{c:Bool}{body:ad}{E:ar->ak}{b:Int}{nm:Str}{ns:af}{it:ar}{M:Model}
noncomputable abbrev EE:ar->ak :=λz z=>False
def Fu(env:Env)(ifs:ah):Sem Bool:=forIn ifs true λc r=>if r=true then do let ok <-isTrue c env (bQ c env);pure (Jj ok)else pure (Jj r)
theorem AT(h:j8 e=true)(env)(x):foldedSetIterable e env x=pure x:=by induction e using jU<;>first |rfl|cases h
theorem By{R:mQ->ak}{t:Sem α}{Q:α->ak}(h:WP G A t Q s):bt (bp G.prog G.w) A t Q (notedBy (bp G.prog G.w) A env λe s'=>R (.error e) s') s:=
 db h (λz z q=>q) λz z q=>q.elim
theorem Kn{gens:List fG}{scope:aH}{d:Nat}{acc:ar}{g:fG}{R:mQ->ak}(hg:gens[d]? =some g)(ha:(g.is_async != 0)=false)
  (h:bt (bp G.prog G.w) A (iM it) (λr cn=>match r with
   |none=>R (.ok .next) cn
   |some v=>bt (bp G.prog G.w) A (Jw g.target it v) (λz GV=>bt (bp G.prog G.w) A (assign g.target env v) (λz GS=>bt (bp G.prog G.w) A (Fu env g.ifs) (λok qm=>
     if ok then(match gens[d+1]? with
      |some g'=>(g'.is_async != 0)=false/\j8 g'.iter=true/\bt (bp G.prog G.w) A (bQ g'.iter env) (λx qo=>bt (bp G.prog G.w) A (pyIter x) (λnG qp=>
        eV (bp G.prog G.w) A (.compStart (.ListComp elt gens scope pos) (d+1) nG acc env) (λr wg=>match r with | .ok _=>eV (bp G.prog G.w) A (.compLoop (.ListComp elt gens scope pos) d it acc env) R wg| .error _=>False) qp) EE qo) EE qm
      |none=>WP G A (bQ elt env) (λx qo=>WP G A (call (.builtin "list.append") [acc,x]) (λz qp=>eV (bp G.prog G.w) A (.compLoop (.ListComp elt gens scope pos) d it acc env) R qp) qo) qm)
     else eV (bp G.prog G.w) A (.compLoop (.ListComp elt gens scope pos) d it acc env) R qm) EE GS) EE GV) EE cn) EE s):
  eV (bp G.prog G.w) A (.compLoop (.ListComp elt gens scope pos) d it acc env) R s:=by
 refine Jx ?_;show bt _ (A.under _) ((compTurn (.ListComp elt gens scope pos) d it acc env).onRaise (λx=>do tE x env;Ag x)) _ _ s;rw[show A.under (.compLoop (.ListComp elt gens scope pos) d it acc env)=A from IM rfl];refine wpAny_noted (By ?_);unfold compTurn;dsimp only;rw[hg];dsimp only;rw[ha];simp only[kJ,if_false];refine aP (kL (aP (db h (λr cn kY=>?_) λz z q=>q)));induction r with
 |none=>exact bz kY
 |some v=>
  refine aP (db kY (λz GV GW=>aP (db GW (λz GS GT=>aP (db GT (λok qm nj=>?_) λz z q=>q)) λz z q=>q)) λz z q=>q);induction ok with
  |false=>simp only[kJ,if_false]at nj⊢;exact bz ⟨rfl,nj⟩
  |true=>
   simp only[if_true]at nj⊢;cases hn:gens[d+1]? with
   |none=>rw[hn]at nj;dsimp only at nj⊢;refine aP (aP (db nj (λx qo GX=>aP (db GX (λz qp GZ=>bz (bz ⟨rfl,GZ⟩)) λz z q=>q)) λz z q=>q))
   |some g'=>
    rw[hn]at nj;dsimp only at nj⊢;refine c_ nj λa1 a2 nj=>?_;rw[a1];simp only[kJ,if_false];refine aP (db nj (λx qo GX=>aP (kL (aP (Aq (AT a2 env x) (aP (iL (db GX (λnG qp GZ=>?_) λz z q=>q))))))) λz z q=>q);refine aP (wpAny_runOwn (codeAny_mono GZ λr wg OV=>?_));induction r with
    |ok f=>exact bz ⟨rfl,OV⟩
    |error x=>exact OV.elim
theorem J5{gens:List fG}{scope:aH}{d:Nat}{acc:ar}{g:fG}{R:mQ->ak}(hg:gens[d]? =some g)(ha:(g.is_async != 0)=false)
  (h0:eV (bp G.prog G.w) A (.compLoop (.ListComp elt gens scope pos) d it acc env) R s)
  (h:WP G A (pyIter it) (λnG s'=>eV (bp G.prog G.w) A (.compLoop (.ListComp elt gens scope pos) d nG acc env) R s') s):
  eV (bp G.prog G.w) A (.compStart (.ListComp elt gens scope pos) d it acc env) R s:=by
 refine Jx ?_;show bt _ (A.under _) ((compStart (.ListComp elt gens scope pos) d it acc env).onRaise (λx=>do tE x env;standAt theWindowsPlace)) _ _ s;rw[show A.under (.compStart (.ListComp elt gens scope pos) d it acc env)=A from IM rfl];refine wpAny_notedAt (By ?_);unfold compStart;rw[show clausesOf (.ListComp elt gens scope pos)=gens from rfl,hg];refine eT (aJ (by show¬(g.is_async != 0)=true;rw[ha];nofun)) ?_;refine aP (wpAny_askSetting (wpAny_ite ?_))
 split
 ·exact bz ⟨rfl,h0⟩
 ·refine aP (As ?_);exact aP (kL (aP (db h (λnG s' h'=>bz ⟨rfl,h'⟩) λz z q=>q)))
end
section
variable{A:dQ}{own:al}{sc:aH}{n:Nat}{r:Rec}
theorem bM.sub(F:bM G μ φ sc env l' s.heap m)(h:∀x p,l.lookup x=some p->l'.lookup x=some p):bM G μ φ sc env l s.heap m:=
 ⟨F.ok,F.ck,F.hL,F.own,F.lj,F.hC,F.inj,F.aW,F.soft,F.dM,F.iP,F.cq,F.ns,λx p q=>F.slots x p (h x p q)⟩
theorem SG(ifs:ah):forIn ifs false (λc r=>if r=true then(do let ok <-isTrue c env (bQ c env);pure (Jj ok):Sem (ForInStep Bool))else pure (Jj r))=pure false:=by
 induction ifs with
 |nil=>rfl
 |cons c ifs ih=>refine ao (DE ..) ?_;simp only[kJ,if_false];exact ih
theorem TO(cT:h_ G n r.E)(R:a_ A n){ifs:ah}{b:Bool}{Q:Bool->ak}(e:Fm r sc l ifs=some b)(I:Inv G s)(X:cu G μ sc env l s.heap)
  (h:∀s',bc G s s'->Inv G s'->Q b s'):WP G A (Fu env ifs) Q s:=by
 induction ifs generalizing s Q with
 |nil=>exact bz (av e▸h s .refl I)
 |cons c ifs ih=>
  refine aF e λv e1 e=>aF e λt e2 e=>?_;delta Fu;refine eT (DE ..) ?_;refine aP (aP (cT _ _ _ _ _ _ _ _ _ _ e1 e2 R I X λs1 g1 I1=>bz ?_));induction t with
  |true=>exact ih e I1 (X.grow g1 I) λs2 g2 I2=>h s2 (g1.trans g2) I2
  |false=>exact Aq (SG ifs) (av e▸h s1 g1 I1)
structure LS(G:bE)(μ φ own cS:al)(sc:aH)(env:Env)(l:Loc)(a:aw)(ps:ab)(it:ar)(xs:ab)(s:aB):Prop where
 inv:Inv G s
 aI:∃m,bM G μ (λb=>φ b\/own b) sc env l s.heap m
 acc:∃vs k,s.heap.get? a=some (bR vs k)/\aN G (aq s.heap λb=>μ b\/(φ b\/own b)) ps vs.toList
 hL:φ env.locals
 hc:∀b,bv sc env b->φ b
 ha:φ a
 it:It G cS own (λz=>False) it xs s
 off:∀b,own b->¬φ b
 big:∀b,μ b\/(φ b\/own b)->cS b
structure LD(G:bE)(μ φ own:al)(sc:aH)(env:Env)(l:Loc)(a:aw)(ps:ab)(s s':aB):Prop where
 aU:aV G (λb=>(b=env.locals\/bv sc env b\/b=a)\/own b) (λz=>False) s s'
 inv:Inv G s'
 aI:∃m,bM G μ φ sc env l s'.heap m
 acc:∃vs k,s'.heap.get? a=some (bR vs k)/\aN G (aq s'.heap λb=>μ b\/φ b) ps vs.toList
theorem Aw(h:fI t=some x):namesOf (t::ts)=x::namesOf ts:=by simp only[namesOf,h]
theorem JN(e:mR ts ps l=some l')(h:x∉namesOf ts):l'.lookup x=l.lookup x:=by
 induction ts generalizing ps l with
 |nil=>exact aZ e λz e=>av e▸rfl
 |cons t ts ih=>refine aF e λy hy e=>aF e λq z e=>?_;rw[Aw hy,cc,not_or]at h;refine ao (ih e h.2) ?_;rw[fw,aJ h.1]
theorem D9(e:fz t l p=some l')(hx:x∉gp t):l'.lookup x=l.lookup x:=by revert hx;exact rG e (λy q e hx=>by rw[<-av e,fw,aJ λw=>hx (vj.mpr w)]) λe=>yn e (λts k q e hx=>aF e λps z e=>JN e hx) aK
theorem S4(h:ub sc t l=true)(e:fz t l p=some l'):∀x q,l.lookup x=some q->l'.lookup x=some q:=λx q hq=>by
 rw[D9 e λhx=>?_]
 ·exact hq
 ·simp only[ub,lI,cF]at h;have :=h.2 x hx;rw[hq]at this;cases this
theorem rA{a L:aw}{vs:aj}{k:Nat}(e:h.get? a=some (bR vs k))(y:h.Ns L m):a≠L:=λq=>by refine je y λo es ep ho hd z=>?_;rw[q,ho]at e;obtain rfl:=av e;exact jS<|hd
theorem ry{a:aw}{vs:aj}{k:Nat}(ok:lY sc env h)(e:h.get? a=some (bR vs k)):¬bv sc env a:=λ⟨x,h1,h2⟩=>by obtain⟨c,cv,h3,o,ho,hd⟩:=ok.cells x (by refine ao (ok.names ..) ?_;exact pM h1);replace h3:=ao (aT h2) h3;obtain rfl:=av h3;replace ho:=ao (aT e) ho;obtain rfl:=av ho;exact jS<|hd
theorem LS.next{a:aw}{it:ar}{x:PV}(L:LS G μ φ own cS sc env l a ps it (x::xs) s)(R:a_ A 0){Q:ai->ak}
  (h:∀v s',aV G own (λz=>False) s s'->(∃I,it=.ref I/\mV s'.heap I)->RelV G (aq s'.heap λb=>μ b\/(φ b\/own b)) x v->LS G μ φ own cS sc env l a ps it xs s'->Q (some v) s'):
  WP G A (iM it) Q s:=by
 refine L.it.next L.inv R λv s' st I' ex sf io rv nG=>h v s' st io (rv.mono (aq.less L.big)) ?_;obtain⟨m,F⟩:=L.aI;refine gb L.acc λvs k ea ra=>?_;have aW:∀b,(φ b\/own b)->s'.heap.get? b≠none:=λb q=>(lM (own b)).elim (ex b) λn=>st.there b (F.aW b (.inr q)) n;have hs:=F.soft.aU st L.inv (λb q=>F.aW b (.inr q)) λb z q o e=>(sf b q).2 o e;have b8:=aq.aU (μ:=λb=>μ b\/(φ b\/own b)) st L.inv λb q=>.inr (.inr q);refine⟨I',⟨m,F.step L.inv st (λb q=>⟨.inr q,λe=>L.off b q (e▸L.hL),λe=>L.off b q (L.hc b e)⟩) (λb q=>.inl q) (.inl L.hL) (λb q=>.inl (L.hc b q)) aW hs⟩,⟨vs,k,?_,ra.mono b8⟩,L.hL,L.hc,L.ha,nG,L.off,L.big⟩;exact st.keep _ _ ea (L.inv.ct ea (.inl (λh=>bS h))) λq=>L.off a q L.ha
theorem LS.done{a:aw}{it:ar}(L:LS G μ φ own cS sc env l a ps it [] s)(R:a_ A 0){Q:ai->ak}
  (h:∀s',LD G μ φ own sc env l a ps s s'->Q none s'):WP G A (iM it) Q s:=by
 refine L.it.done L.inv R λs' st I'=>h s' ?_;obtain⟨m,F⟩:=L.aI;refine gb L.acc λvs k ea ra=>?_;have b8:∀b o,aq s.heap (λb=>μ b\/(φ b\/own b)) b o->aq s'.heap (λb=>μ b\/φ b) b o:=λb o q=>
  aq.less (λb q=>q.elim .inl λq=>.inr (.inl q)) b o (aq.aU st L.inv (λb q=>.inr (.inr q)) b o q)
 refine⟨st.mono (λb q=>.inr q) λz q=>q,I',⟨m,F.step L.inv st (λb q=>⟨.inr q,λe=>L.off b q (e▸L.hL),λe=>L.off b q (L.hc b e)⟩) (λb q=>.inl (.inl q)) L.hL L.hc (λb q=>st.there b (F.aW b (.inr (.inl q))) λr=>L.off b r q) ?_⟩,⟨vs,k,?_,ra.mono b8⟩⟩
 ·exact bL.aU (λb q=>F.soft b (.inl q)) st L.inv (λb q=>F.aW b (.inr (.inl q))) λb q r=>bx q (L.off b r)
 ·exact st.keep _ _ ea (L.inv.ct ea (.inl (λh=>bS h))) λq=>L.off a q L.ha
end
section
variable{n k w:Nat}{sc cs:aH}{A:dQ}{pos:Pos}{r:Rec}{st:St}{a:aw}{P:Prop}{own:al}{fl:bG}{d:FD}{c:Bool}{body:ad}{E:ar->ak}{b:Int}{nm:Str}{ns:af}{it:ar}{M:Model}
theorem LS.move(L:LS G μ φ own cS sc env l a ps it xs s)(st:aV G (λb=>b=env.locals\/bv sc env b\/b=a) (λz=>False) s s')(I':Inv G s')
  (F':bM G μ (λb=>φ b\/own b) sc env l' s'.heap m') (acc:∃vs k,s'.heap.get? a=some (bR vs k)/\aN G (aq s'.heap λb=>μ b\/(φ b\/own b)) fO vs.toList):LS G μ φ own cS sc env l' a fO it xs s':=by
 have ia:∀b,(b=env.locals\/bv sc env b\/b=a)->φ b:=λb q=>by
  rcases q with q|q|q
  ·rw[q];exact L.hL
  ·exact L.hc b q
  ·rw[q];exact L.ha
 exact⟨I',⟨m',F'⟩,acc,L.hL,L.hc,L.ha,L.it.aU st (λb q=>⟨L.big b (.inr (.inl (ia b q))),λr=>L.off b r (ia b q)⟩) (λz q=>q.elim),L.off,L.big⟩
theorem LP(I:Inv G s)(st:aV G ψ γ s s')(h:∀b,ψ b->(φ b\/own b)/\b≠a)(acc:∃vs k,s.heap.get? a=some (bR vs k)/\aN G (aq s.heap λb=>μ b\/(φ b\/own b)) ps vs.toList):
  ∃vs k,s'.heap.get? a=some (bR vs k)/\aN G (aq s'.heap λb=>μ b\/(φ b\/own b)) ps vs.toList:=by
 refine gb acc λvs k e ra=>⟨vs,k,st.keep _ _ e (I.ct e (.inl (λh=>bS h))) λq=>(h a q).2 rfl,ra.mono (aq.aU st I λb q=>.inr (h b q).1)⟩
theorem LS.append(L:LS G μ φ own cS sc env l a ps it xs s)(hv:RelV G (aq s.heap λb=>μ b\/(φ b\/own b)) p v)(ie:ps.length<=rr)
  (h:∀s',aV G (λb=>b=a) (λz=>False) s s'->LS G μ φ own cS sc env l a (ps++[p]) it xs s'->Q .none s'):WP G A (call (.builtin "list.append") [.ref a,v]) Q s:=by
 obtain⟨vs,k,e,ra⟩:=L.acc;obtain⟨m,F⟩:=L.aI;have hl:=ra.length;refine wpAny_list_append_plain ⟨k,e⟩ (λh' ⟨k',e'⟩ sb=>?_) (by have e9:vs.toList.length=vs.size:=pu;lia);have kp:∀b o,s.heap.get? b=some o->¬b=a->h'.get? b=some o:=λb o e n=>(sb.2 b n).trans e;have st:aV G (λb=>b=a) (λz=>False) s {s with heap:=h'}:=aV.of_same kp rfl rfl;have I':Inv G {s with heap:=h',toks:=s.toks}:=L.inv.aU kp λb q=>by rw[q];exact F.soft a (.inl L.ha)
 have na:=rA e F.ns;have nc:=ry F.ok e;have aW:∀b,(φ b\/own b)->h'.get? b≠none:=λb q=>by
  by_cases q2:b=a
  ·rw[q2,e'];simp
  ·rw[sb.2 b q2];exact F.aW b (.inr q)
 have F':=F.step L.inv st (λb q=>by rw[q];exact⟨.inl L.ha,na,nc⟩) (λb q=>.inl q) (.inl L.hL) (λb q=>.inl (L.hc b q)) aW
  (F.soft.aU st L.inv (λb q=>F.aW b (.inr q)) λb z q o eo=>by
   rw[q,show h'.get? a=_ from e']at eo;obtain rfl:=av eo;exact .inl λvs=>by nofun)
 have b8:=aq.aU (μ:=λb=>μ b\/(φ b\/own b)) st L.inv λb q=>by rw[q];exact .inr (.inl L.ha)
 refine h _ st (L.move (st.mono (λb q=>.inr (.inr q)) λz q=>q) I' F' ⟨_,k',e',?_⟩);rw[agf];refine aN.append (ra.mono b8) ?_;exact⟨hv.mono b8,trivial⟩
def Fv(G:bE)(A:dQ)(μ:al)(sc:aH)(env:Env)(r:Rec)(elt:Expr)(gens:List fG)(scope:aH)(pos:Pos)(a:aw)(gs:List fG)(d:Nat):Prop :=
 ∀(l1:Loc)(ys:ab)(φ own cS:al)(ps:ab)(it:ar)(xs:ab)(qm:aB)(Rr:mQ->ak),
  oq r sc elt gs l1=some ys->LS G μ φ own cS sc env l1 a ps it xs qm->(ps++ys).length<=rr->
  (∀s',aV G (λb=>b=env.locals\/bv sc env b\/b=a) (λz=>False) qm s'->LS G μ φ own cS sc env l1 a (ps++ys) it xs s'->eV (bp G.prog G.w) A (.compLoop (.ListComp elt gens scope pos) d it (.ref a) env) Rr s')->
  (match gens[d+1]? with
   |some g'=>(g'.is_async != 0)=false/\j8 g'.iter=true/\bt (bp G.prog G.w) A (bQ g'.iter env) (λx qo=>bt (bp G.prog G.w) A (pyIter x) (λnG qp=>
     eV (bp G.prog G.w) A (.compStart (.ListComp elt gens scope pos) (d+1) nG (.ref a) env) (λr wg=>match r with | .ok _=>eV (bp G.prog G.w) A (.compLoop (.ListComp elt gens scope pos) d it (.ref a) env) Rr wg| .error _=>False) qp) EE qo) EE qm
   |none=>WP G A (bQ elt env) (λx qo=>WP G A (call (.builtin "list.append") [.ref a,x]) (λz qp=>eV (bp G.prog G.w) A (.compLoop (.ListComp elt gens scope pos) d it (.ref a) env) Rr qp) qo) qm)
section
variable{gens gs:List fG}{scope:aH}{g:fG}{d:Nat}
theorem LS.grow(L:LS G μ φ own cS sc env l a ps it xs s)(g3:bc G s s')(I3:Inv G s'):LS G μ φ own cS sc env l a ps it xs s':=by refine oE L.aI λm3 F3=>L.move g3.aU I3 (F3.grown g3 L.inv) (LP (ψ:=dv) (γ:=λz=>False) L.inv g3.aU (λz q=>q.elim) L.acc)
theorem LQ(cT:h_ G n r.E)(R:a_ A n)(hg:gens[d]? =some g)(ha:(g.is_async != 0)=false)(H:Fv G A μ sc env r elt gens scope pos a gs d)(ht0:∀l:Loc,True):∀(xs:ab)(l:Loc)(zs:ab)(φ own cS:al)(ps:ab)(it:ar)(s:aB)(Rr:mQ->ak),
  lR (l8 r sc g.ifs λl1=>oq r sc elt gs l1) g.target l xs=some zs->ub sc g.target l=true->
  LS G μ φ own cS sc env l a ps it xs s->(ps++zs).length<=rr->
  (∀s',LD G μ φ own sc env l a (ps++zs) s s'->Rr (.ok .next) s')->eV (bp G.prog G.w) A (.compLoop (.ListComp elt gens scope pos) d it (.ref a) env) Rr s:=by
 have R0:=R.less (du _);intro xs;induction xs with
 |nil=>intro l zs φ own cS ps it s Rr e ht L hz h;refine Kn hg ha (L.done R0 λs' D=>h s' ?_);rw[<-av e,gW];exact D
 |cons x xs ihx=>
  intro l zs φ own cS ps it s Rr e ht L hz h;refine aF e λl1 el e=>aF e λys ef e=>cj e λHA er e=>?_;rw[<-e]at hz h;refine Kn hg ha (L.next R0 λv s1 aE io rv L1=>?_);obtain⟨Ia,rfl,io⟩:=io;refine KZ io ?_;obtain⟨m1,F1⟩:=L1.aI;have wF:=(rh.mp ht).1;refine F1.bind L1.inv R.hh wF el rv λs0 s2 m2 g0 I0 P=>?_;have G0:=g0.aU.trans P.aU;have na:∀b,(b=env.locals\/bv sc env b)->(φ b\/own b)/\b≠a:=λb q=>by
   refine gb L1.acc λvs k e z=>?_;rcases q with q|q
   ·rw[q];exact⟨.inl L.hL,(rA e F1.ns).symm⟩
   ·exact⟨.inl (L.hc b q),λw=>ry F1.ok e (w▸q)⟩
  have L2:=L1.move (G0.mono (λb q=>q.elim .inl λq=>.inr (.inl q)) λz q=>q) P.inv P.aI (LP L1.inv G0 na L1.acc);have again:∀{s4:aB},aV G (λb=>b=env.locals\/bv sc env b\/b=a) (λz=>False) s2 s4->LS G μ φ own cS sc env l1 a (ps++ys) (.ref Ia) xs s4->
    eV (bp G.prog G.w) A (.compLoop (.ListComp elt gens scope pos) d (.ref Ia) (.ref a) env) Rr s4:=λ{s4} w L4=>by
   refine oE L4.aI λm F=>ihx l HA φ own cS (ps++ys) (.ref Ia) s4 Rr er ht ⟨L4.inv,⟨m,F.sub (S4 ht el)⟩,L4.acc,L4.hL,L4.hc,L4.ha,L4.it,L4.off,L4.big⟩ (by rwa [gE]) λs' D=>h s' ?_;rw[<-gE];exact⟨(((aE.mono (λb q=>.inr q) λz q=>q).trans (G0.mono (λb q=>.inl (q.elim .inl λq=>.inr (.inl q))) λz q=>q)).trans (w.mono (λb q=>.inl q) λz q=>q)).trans D.aU,D.inv,D.aI,D.acc⟩
  refine oE L2.aI λm3 F3=>aF ef λb et ef=>TO cT R et L2.inv F3.fo λs3 g3 I3=>?_;induction b with
  |true=>exact H l1 ys φ own cS ps (.ref Ia) xs s3 Rr ef (L2.grow g3 I3) (by simp only[cb]at hz⊢;lia) λs4 w L4=>again (g3.aU.trans w) L4
  |false=>refine again g3.aU ?_;rw[<-av ef,gW];exact L2.grow g3 I3
theorem U8(aM:ca G n r.E)(R:a_ A n)(hn:gens[d+1]? =none):Fv G A μ sc env r elt gens scope pos a [] d:=by intro l1 ys φ own cS ps it xs s Rr e L hz h;rw[hn];obtain⟨m,F⟩:=L.aI;refine aF e λq eq e=>aZ e λeU e=>aM _ _ _ _ _ _ _ _ _ eq R L.inv F.fo λv5 s5 g5 I5 r5=>?_;rw[<-av e]at hz h;have L5:=L.grow g5 I5;obtain⟨m5,F5⟩:=L5.aI;exact L5.append (F5.y_ eU r5) (by simp only[cb]at hz;exact th hz) λs6 CB L6=>h s6 (g5.aU.trans (CB.mono (λb q=>.inr (.inr q)) λz q=>q)) L6
theorem TP(aM:ca G n r.E)(R:a_ A n)(hn:gens[d+1]? =some g2)
  (H:(g2.is_async != 0)=false->∀l:Loc,ub sc g2.target l=true->∀(xs:ab)(zs:ab)(φ own cS:al)(ps:ab)(it:ar)(s:aB)(Rr:mQ->ak),
   lR (l8 r sc g2.ifs λl1=>oq r sc elt HB l1) g2.target l xs=some zs->
   LS G μ φ own cS sc env l a ps it xs s->(ps++zs).length<=rr->
   (∀s',LD G μ φ own sc env l a (ps++zs) s s'->Rr (.ok .next) s')->eV (bp G.prog G.w) A (.compLoop (.ListComp elt gens scope pos) (d+1) it (.ref a) env) Rr s):
  Fv G A μ sc env r elt gens scope pos a (g2::HB) d:=by
 intro l1 ys φ own cS ps it xs s Rr e L hz h;rw[hn];have R0:a_ A 0:=R.less (du _);obtain⟨m,F⟩:=L.aI;refine aZ e λhc e=>gg hc λc1 c2 c3=>aF e λitp e1 e=>aZ e λeU e=>aF e λitems e2 e=>?_;have c2:=ud c2;refine⟨c2,c1,aM _ _ _ _ _ _ _ _ _ e1 R L.inv F.fo λx s5 g5 I5 r5=>?_⟩;have L5:=L.grow g5 I5;obtain⟨m5,F5⟩:=L5.aI;refine Ex e2 I5 (F5.y_ eU r5) λy' s6 oU g6 I6 uJ fb mW=>?_;have L6:=L5.grow g6 I6;refine oE L6.aI λm6 F6=>?_;have lZ:∀b,(μ b\/(φ b\/own b))->¬oU b:=λb q r=>F5.aW b q (fb b r).1;have F6':bM G μ (λb=>(φ b\/own b)\/oU b) sc env l1 s6.heap m5:=F5.step (ψ:=dv) (γ:=λz=>False) I5 g6.aU (λz q=>q.elim) (λb q=>q.elim .inl λq=>.inr (fb b q).1) (.inl (.inl L5.hL)) (λb q=>.inl (.inl (L5.hc b q)))
  (λb q=>q.elim (λq=>F6.aW b (.inr q)) λq=>(fb b q).2) (λb q=>q.elim (λq=>F6.soft b q) λq=>mW b q)
 have yJ:∃vs k,s6.heap.get? a=some (bR vs k)/\aN G (aq s6.heap λb=>μ b\/((φ b\/own b)\/oU b)) ps vs.toList:=by refine gb L5.acc λvs k ea ra=>⟨vs,k,g6.keep _ _ ea (I5.ct ea (.inl (λh=>bS h))),ra.mono λb o q=>?_⟩;have :=aq.hide (λb q=>(fb b q).1) (aq.grow g6 I5) b o q;exact⟨this.1,λw=>this.2.1 (w.elim (λw=>.inl (.inl w)) λw=>w.elim (λw=>.inl (.inr w)) .inr),this.2.2⟩
 have LI:LS G μ (λb=>φ b\/own b) oU (λb=>(μ b\/(φ b\/own b))\/s5.heap.get? b=none) sc env l1 a ps y' items s6:=
  ⟨I6,⟨_,F6'⟩,yJ,.inl L5.hL,λb q=>.inl (L5.hc b q),.inl L5.ha,uJ,λb q r=>lZ b (.inr r) q,λb q=>q.elim (λq=>.inl (.inl q)) λq=>q.elim (λq=>.inl (.inr q)) λq=>.inr (fb b q).1⟩
 have fin:eV (bp G.prog G.w) A (.compLoop (.ListComp elt gens scope pos) (d+1) y' (.ref a) env) (λr wg=>match r with | .ok _=>eV (bp G.prog G.w) A (.compLoop (.ListComp elt gens scope pos) d it (.ref a) env) Rr wg| .error _=>False) s6:=by
  refine H c2 l1 c3 items ys _ oU _ ps y' s6 _ e LI hz λs7 D=>?_;have OW:aV G (λb=>b=env.locals\/bv sc env b\/b=a) (λz=>False) s5 s7:=
   aV.after g6 D.aU (λb q=>q.elim .inr λq=>.inl (fb b q).1) λz q=>q.elim
  refine oE D.aI λm7 F7=>h s7 (g5.aU.trans OW) (L5.move OW D.inv F7 D.acc)
 exact J5 hn c2 fin (LI.it.self I6 R0 fin)
theorem Ko(aM:ca G n r.E)(cT:h_ G n r.E)(R:a_ A n):∀(gs pre:List fG)(g:fG),gens=pre++g::gs->(g.is_async != 0)=false->∀l:Loc,ub sc g.target l=true->
  ∀(xs:ab)(zs:ab)(φ own cS:al)(ps:ab)(it:ar)(s:aB)(Rr:mQ->ak),
   lR (l8 r sc g.ifs λl1=>oq r sc elt gs l1) g.target l xs=some zs->
   LS G μ φ own cS sc env l a ps it xs s->(ps++zs).length<=rr->
   (∀s',LD G μ φ own sc env l a (ps++zs) s s'->Rr (.ok .next) s')->eV (bp G.prog G.w) A (.compLoop (.ListComp elt gens scope pos) pre.length it (.ref a) env) Rr s
 |[],pre,g,e,ha,l,ht,xs,zs,φ,own,cS,ps,it,s,Rr,e1,L,hz,h=>
  LQ cT R (by rw[e];simp) ha (U8 aM R (by rw[e];simp)) (λz=>trivial) xs l zs φ own cS ps it s Rr e1 ht L hz h
 |g2::HB,pre,g,e,ha,l,ht,xs,zs,φ,own,cS,ps,it,s,Rr,e1,L,hz,h=>
  LQ cT R (by rw[e];simp) ha (TP aM R (by rw[e];simp) λha2 l2 wG xs2 HA fe oU μ2 ps2 y' s2 Rr2 q1 q2 q3 q4=>by
   have :=Ko aM cT R HB (pre++[g]) g2 (by refine ao e ?_;simp) ha2 l2 wG xs2 HA fe oU μ2 ps2 y' s2 Rr2 q1 q2 q3 q4
   rwa [cb]at this) (λz=>trivial) xs l zs φ own cS ps it s Rr e1 ht L hz h
end
def fK(cells:List (Str×aw)):List (Str×rs)->List (Str×aw)->List (Str×aw)
 |[],acc=>acc
 |(x,k)::r,acc=>fK cells r (if k== .free then(x,(cells.lookup x).getD 0)::acc else acc)
theorem Ss(h:∀x∈names,x.2=.free->∃c,env.cells.lookup x.1=some c){f:Str×rs->List (Str×aw)->Sem (ForInStep (List (Str×aw)))}
  (hf:∀x k cs,f (x,k) cs=if k== .free then(do let c <-cellOf env x;pure (.yield ((x,c)::cs)))else pure (.yield cs)):∀acc,forIn names acc f=pure (fK env.cells names acc):=by
 induction names with
 |nil=>intro acc;rfl
 |cons x r ih=>
  intro acc;obtain⟨x,k⟩:=x;refine ao (DE ..) ?_;rw[hf];unfold fK;induction hk:(k==tq)with
  |true=>
   have gz:k=.free:=by simpa using hk
   refine oE (h (x,k) ch gz) λc hc=>?_;simp only[if_true];have e1:cellOf env x=pure c:=by unfold cellOf;rw[show env.cells.lookup x=some c from hc]
   rw[e1,show env.cells.lookup x=some c from hc];exact ih (λy hy=>h y (cf _ hy)) _
  |false=>simp only[kJ,if_false];exact ih (λy hy=>h y (cf _ hy)) _
theorem Sh(h:∀x∈scope.names,x.2=.free->∃c,env.cells.lookup x.1=some c):closureFor scope env=pure (fK env.cells scope.names []):=by simp only[closureFor];rw[Ss h λx k cs=>rfl];rfl
theorem D5{cells:List (Str×aw)}{names:List (Str×rs)}{acc:List (Str×aw)}{c:aw}(hd:(names.map (·.1)).Nodup)(e:names.lookup x=some .free)(hc:cells.lookup x=some c):(fK cells names acc).lookup x=some c:=by
 induction names generalizing acc with
 |nil=>exact aK e
 |cons q r ih=>induction q with
  |mk y k=>
  have hd:=tn.mp hd;show(fK cells r (if k== .free then(y,(cells.lookup y).getD 0)::acc else acc)).lookup x=some c;have keep:∀{r:List (Str×rs)}{acc:List (Str×aw)},x∉r.map (·.1)->(fK cells r acc).lookup x=acc.lookup x:=by
   intro r;induction r with
   |nil=>intro acc _;rfl
   |cons z r ih=>
    intro acc hx;obtain⟨z,k⟩:=z;simp only[cO,cc,not_or]at hx;refine ao (ih hx.2) ?_;by_cases hk:(k==tq)=true
    ·rw[aA hk,dp,dq hx.1]
    ·rw[aJ hk]
  by_cases hx:x=y
  ·subst hx;simp only[dp,beq_self_eq_true,afE]at e;subst e;rw[keep hd.1];simp [dp,hc]
  ·rw[dp,dq hx]at e;exact ih hd.2 e
theorem TQ{cells:List (Str×aw)}{names:List (Str×rs)}{acc:List (Str×aw)}{c:aw}(e:(fK cells names acc).lookup x=some c):acc.lookup x=some c\/((x,tq)∈names/\(cells.lookup x).getD 0=c):=by
 induction names generalizing acc with
 |nil=>exact .inl e
 |cons q r ih=>induction q with
  |mk y k=>
  refine(ih e).elim (λh=>?_) λh=>.inr ⟨cf _ h.1,h.2⟩;by_cases hk:(k==tq)=true
  ·rw[aA hk,dp]at h;by_cases hb:x=y
   ·rw[hb,beq_self_eq_true]at h;rw[hb,show k=.free by simpa using hk];exact .inr ⟨ch,av h⟩
   ·rw[dq hb]at h;exact .inl h
  ·rw[aJ hk]at h;exact .inl h
theorem rz{l:List (Str×α)}{v:α}(hd:(l.map (·.1)).Nodup)(h:(x,v)∈l):l.lookup x=some v:=by
 induction l with
 |nil=>cases h
 |cons a r ih=>
  obtain⟨y,w⟩:=a;simp only[cO,tn]at hd;rcases cc.mp h with e|h
  ·cases e;simp [dp]
  ·have :x≠y:=λq=>hd.1 (q▸eH.mpr ⟨(x,v),h,rfl⟩);refine ao dp ?_;rw[dq this];exact ih hd.2 h
theorem D_(h:(free cs l).lookup x=some p):cs.names.lookup x=some .free/\l.lookup x=some p:=by
 induction l with
 |nil=>simp [free]at h
 |cons a r ih=>
  obtain⟨y,w⟩:=a;unfold free at h ih;rw[pA]at h;by_cases hf:(cs.names.lookup y==some .free)=true
  ·rw[aA hf,dp]at h;by_cases hx:x=y
   ·subst hx;simp only[beq_self_eq_true,afE]at h;subst h;exact⟨by simpa using hf,by simp [dp]⟩
   ·rw[dq hx]at h;refine oA (ih h) λh1 h2=>⟨h1,by refine ao dp ?_;rw[dq hx];exact h2⟩
  ·rw[aJ hf]at h;refine oA (ih h) λh1 h2=>⟨h1,?_⟩;have hx:x≠y:=λq=>hf (by rw[<-q,h1];rfl);refine ao dp ?_;rw[dq hx];exact h2
theorem bM.shift(F:bM G (λb=>μ b\/ν b) φ sc env l s.heap m)(hs:bL G s.heap ν)(hd:∀b,ν b->¬μ b):bM G μ (λb=>φ b\/ν b) sc env l s.heap m:=
 ⟨F.ok,F.ck,.inl F.hL,λx c h1 h2=>.inl (F.own x c h1 h2),λx c h1 h2 q=>q.elim (F.lj x c h1 h2) λq=>F.hC x c (Ba h1) h2 (.inr q),λx c h1 h2 q=>F.hC x c h1 h2 (.inl q),F.inj,
  λb q=>F.aW b (q.elim (λq=>.inl (.inl q)) λq=>q.elim .inr λq=>.inl (.inr q)),λb q=>q.elim (F.soft b) (hs b),λb q r=>q.elim (λq=>F.dM b q (.inl r)) λq=>hd b q r,λb q=>F.iP b (.inl q),F.cq,F.ns,
  λx p hp=>let⟨v,h1,h2⟩:=F.slots x p hp;⟨v,h1,h2.mono λb o q=>⟨q.1,λw=>q.2.1 (w.elim (λw=>.inl (.inl w)) λw=>w.elim .inr λw=>.inl (.inr w)),q.2.2⟩⟩⟩
theorem AJ(h:freeOk cs sc=true)(hx:(x,tq)∈cs.names):kc (sc.names.lookup x)=1:=bu (cF.mp h _ hx)
theorem xV{ew:Env}(X:cu G μ sc env l s.heap)(I:Inv G s)(g:bc G s s')(nH:∀b,ν b->s.heap.get? b=none)(hs:kg cs=true)(hf:freeOk cs sc=true)(hn:(free cs l).all (λp=>pL p.2)=true):
  closureFor cs env=pure (fK env.cells cs.names [])/\oI G (λb=>μ b\/ν b) cs (fK env.cells cs.names []) ew (free cs l) s'.heap:=by
 have hd:=xK hs;have cell:∀x,(x,tq)∈cs.names->∃c cv,env.cells.lookup x=some c/\s.heap.IsCell c cv/\kc (env.kindOf x)=1:=λx hx=>by have hk:=AJ hf hx;replace hk:=ao (X.ok.names ..) hk;refine gb (X.ok.cells x hk) λc cv h1 h2=>⟨c,cv,h1,h2,hk⟩
 have Z8:∀{c:aw}{cv:ai},s.heap.IsCell c cv->¬ν c:=λ{c cv} ⟨o,ho,_⟩ q=>by replace ho:=ao (aT (nH c q)) ho;exact aK ho
 refine⟨Sh λx hx hk=>?_,λx hx=>?_,λx p hp=>?_⟩
 ·obtain⟨y,k⟩:=x;dsimp only at hk;subst hk;refine gb (cell y hx) λc z h1 z=>⟨c,h1⟩
 ·refine oG (cell x (lL hx)) λc cv h1 h2 h3=>⟨c,cv,D5 hd hx h1,g.cell I h2,λq=>q.elim (X.hC x c h3 h1) (Z8 h2)⟩
 ·refine oA (D_ hp) λh1 h2=>oG (cell x (lL h1)) λc cv h3 h4 h5=>br X.slots λm gy ll=>br (ll x p h2) λv h6 h7=>?_;rcases h6 with⟨q,_⟩|⟨_,c',q2,q3⟩
  ·rw[q]at h5;exact nomatch h5
  ·replace q2:=ao (aT h3) q2;obtain rfl:=av q2;refine⟨h1,c,v,D5 hd h1 h3,g.cell I q3,?_⟩;have nc:pL p=true:=by rw[cF]at hn;exact hn (x,p) (lL hp)
   exact slot_of ((h7.rel nc).mono (aq.hide nH (aq.grow g I)))
theorem JM:kc ((pG cs env).names.lookup x)=kc (cs.names.lookup x)/\(cs.names.lookup x=some .cell->(pG cs env).names.lookup x=some .cell):=by
 unfold pG;dsimp only;generalize cs.names=names;induction names with
 |nil=>exact⟨rfl,λh=>by simp at h⟩
 |cons a r ih=>
  obtain⟨y,k⟩:=a;simp only[cO];by_cases hx:x=y
  ·subst hx;by_cases hc:(k==tq&&env.scope.kind== .function&&env.kindOf x==some .cell)=true
   ·rw[aA hc];simp only[lI,beq_iff_eq]at hc;obtain⟨⟨rfl,_⟩,_⟩:=hc;refine⟨by rw[dp,dp,beq_self_eq_true];rfl,λh=>by simp [dp]at h⟩
   ·rw[aJ hc];refine⟨by simp [dp],λh=>by simpa [dp]using h⟩
  ·by_cases hc:(k==tq&&env.scope.kind== .function&&env.kindOf y==some .cell)=true
   ·rw[aA hc];simp only[dp,dq hx];exact ih
   ·rw[aJ hc];simp only[dp,dq hx];exact ih
theorem Ax(uK:∀mk∈G.makers,mk.fn∈tJ)(h:rC sc=true):CQ G sc env:=λmk hm e=>by simp only[rC,cF,decide_eq_true_eq]at h;exact bx e (h _ (uK mk hm))
theorem Kq(uK:∀mk∈G.makers,mk.fn∈tJ)(aM:ca G n r.E)(cT:h_ G n r.E)(R:a_ A n)
  (e:comp r sc l elt cs (g::gs)=some p) (I:Inv G s) (X:cu G μ sc env l s.heap)
  (K:∀a C s' m,bc G s s'->Inv G s'->s.heap.get? C=none->C≠a->s'.heap.Ns C m->bL G s'.heap (λb=>b=C)->RelV G (aq s'.heap λb=>μ b\/b=C) p (.ref a)->compPost (bp G.prog G.w) A EE use Q (.ref a) C (.ok .next) s'):
  WP G A (comprehension (.ListComp elt (g::gs) cs pos) cs env pos' (newList []) false (bQ g.iter env) use) Q s:=by
 refine aZ e λhc e=>yH hc λc1 c0 c2 c3 c4 c5 c6=>aF e λitp e1 e=>aF e λxs e2 e=>aF e λzs e3 e=>aZ e λhl e=>?_;have c6:=ud c6;have hp:=av e;clear e;rw[<-hp]at K;have R0:a_ A 0:=R.less (du _);have hd:=xK c1;obtain⟨CC,_⟩:=xV (s':=s) (ν:=dv) (ew:=env) X I .refl (λz q=>q.elim) c1 c2 c3;refine wpAny_comprehension_free (cl:=fK env.cells cs.names []) rfl (AT c5 env) CC (AI c1).1 (λx hx hk=>?_) ?_
 ·obtain⟨y,k⟩:=x;dsimp only at hk;subst hk;exact rz hd hx
 refine aM _ _ _ _ _ _ _ _ _ e1 R I X λx s1 g1 I1 r1=>Ex e2 I1 r1 λit s2 own g2 I2 uJ fb mW=>wpAny_newList ?_ (du _);refine Cz hd λs4 N=>?_;generalize ha:s2.heap.objs.size=a at *;have HC:=ha▸j0 _;have ga:(s2.heap.push {cls:=.type "list",data:=.seq ([]:List ar).toArray}).get? a=some (bR #[] 0):=by rw[<-ha];exact eF _ rfl
 have g3:bc G s2 {s2 with heap:=s2.heap.push {cls:=.type "list",data:=.seq ([]:List ar).toArray}}:=.of (tk:=s2.toks) bU;have I3:Inv G {s2 with heap:=s2.heap.push {cls:=.type "list",data:=.seq ([]:List ar).toArray}}:=I2.of (tk:=s2.toks) bU;generalize wH:({s2 with heap:=s2.heap.push {cls:=.type "list",data:=.seq ([]:List ar).toArray}}:aB)=s3 at *;have za:s3.heap.get? a=some (bR #[] 0):=by rw[<-wH];exact ga
 have X1:=X.grow g1 I;have jC:∀b,(own b\/b=a)->s1.heap.get? b=none:=λb q=>q.elim (λq=>(fb b q).1) λq=>g2.Cy (q▸HC);obtain⟨ky,nI,gA,nJ,nM⟩:= @xF cs s3.heap.objs.size env.globals (fT (s3.heap.objs.size+1) cs.names (fK env.cells cs.names [])) env.qual none .none (some env) fZ;change Fs s3 s4 cs (fK env.cells cs.names []) (newEnv cs s3.heap.objs.size env.globals (fT (s3.heap.objs.size+1) cs.names (fK env.cells cs.names [])) env.qual none .none (some env) fZ)at N;show eV (bp G.prog G.w) A (.compStart (.ListComp elt (g::gs) cs pos) 0 it (.ref a) {newEnv cs s3.heap.objs.size env.globals (fT (s3.heap.objs.size+1) cs.names (fK env.cells cs.names [])) env.qual none .none (some env) fZ with scope:=pG cs env})
  (compPost (bp G.prog G.w) A EE use Q (.ref a) (newEnv cs s3.heap.objs.size env.globals (fT (s3.heap.objs.size+1) cs.names (fK env.cells cs.names [])) env.qual none .none (some env) fZ).locals) s4
 generalize newEnv cs s3.heap.objs.size env.globals (fT (s3.heap.objs.size+1) cs.names (fK env.cells cs.names [])) env.qual none .none (some env) fZ=jD at N ky nI gA nJ nM⊢;obtain⟨_,T⟩:=xV (ν:=λb=>own b\/b=a) (ew:={jD with scope:=pG cs env}) X1 I1 (g2.trans g3) jC c1 c2 c3;have HD:∀b,(own b\/b=a)->s3.heap.get? b≠none:=λb q=>q.elim (λq=>g3.there b (fb b q).2) λq=>by rw[q,za];simp
 have X3:=(X1.grow g2 I1).grow g3 I2;have N7:bL G s3.heap (λb=>own b\/b=a):=λb q=>by
  rcases q with q|q
  ·exact bL.grow mW g3 I2 (λb q=>(fb b q).2) b q
  ·subst q;refine⟨?_,λo eo=>?_⟩
   ·cases e:G.hb.get? b with
    |none=>rfl
    |some o=>have :=I2.old b o e;replace this:=ao (aT HC) this;exact aK this
   ·replace eo:=ao (aT za) eo;obtain rfl:=av eo;exact .inl λvs=>by nofun
 obtain⟨g4,I4,F4⟩:=bM.enter N I3 (λb q=>q.elim (X3.aW b) (HD b)) (λb q=>q.elim (X3.soft b) (N7 b)) (Ax uK c0) c1 T rfl rfl (AI c1).1 (by refine ao nJ ?_;exact X.ok.globals) (by refine ao nM ?_;exact X.ok.builtins)
  (λx=>JM.1) (λx h=>JM.2 h)
 have dM:∀b,(own b\/b=a)->¬μ b:=λb q r=>X1.aW b r (jC b q);have F5:=F4.shift (N7.grow g4 I3 HD) dM;have oV:=N.new;have Cd:∀{b:aw},s3.heap.get? b=none->s1.heap.get? b=none:=λ{b} q=>(g2.trans g3).Cy q;have pZ:∀b,(b=jD.locals\/bv cs {jD with scope:=pG cs env} b)->s3.heap.get? b=none:=λb q=>q.elim (λq=>q▸oV) λ⟨x,h1,h2⟩=>by refine eW (N.cells x h1) λc d1 d2 z=>?_;replace d1:=ao (aT (show jD.cells.lookup x=some b from h2)) d1;obtain rfl:=av d1;exact d2
 have aL:a≠jD.locals:=λq=>by rw[<-q,za]at oV;exact aK<|aT<|oV
 have Pu:LS G μ (λb=>(b=jD.locals\/bv cs {jD with scope:=pG cs env} b)\/b=a) own (λb=>μ b\/s1.heap.get? b=none) cs {jD with scope:=pG cs env} (free cs l) a [] it xs s4:=by
  refine⟨I4,⟨λz=>none,?_⟩,⟨#[],0,g4.keep _ _ za (I3.ct za (.inl (λh=>bS h))),trivial⟩,.inl (.inl rfl),λb q=>.inl (.inr q),.inr rfl,
   uJ.aU (φ:=dv) (cU:=λz=>False) ((g3.trans g4).aU) (λz q=>q.elim) (λz q=>q.elim),λb q r=>?_,λb q=>?_⟩
  ·have :(λb=>((b=jD.locals\/bv cs {jD with scope:=pG cs env} b)\/b=a)\/own b)=(λb=>(b=jD.locals\/bv cs {jD with scope:=pG cs env} b)\/(own b\/b=a)):=by funext b;exact propext ⟨λq=>by rcases q with(q|q)|q<;>simp [q],λq=>by rcases q with q|q|q<;>simp [q]⟩
   rw[this];exact F5
  ·rcases r with r|r
   ·exact HD b (.inl q) (pZ b r)
   ·rw[r]at q;exact(fb a q).2 HC
  ·rcases q with q|(q|q)|q
   ·exact .inl q
   ·exact .inr (Cd (pZ b q))
   ·exact .inr (jC b (.inr q))
   ·exact .inr (jC b (.inl q))
 have oW:∀{b:aw},s1.heap.get? b=none->s.heap.get? b=none:=λ{b} q=>g1.Cy q;have fin:eV (bp G.prog G.w) A (.compLoop (.ListComp elt (g::gs) cs pos) ([]:List fG).length it (.ref a) {jD with scope:=pG cs env}) (compPost (bp G.prog G.w) A EE use Q (.ref a) jD.locals) s4:=by
  refine Ko aM cT R gs [] g rfl c6 (free cs l) c4 xs zs _ own _ [] it s4 _ e3 Pu (by rw[rj];exact ol hl) λs5 D=>?_;have abQ:aV G dv (λz=>False) s s5:=aV.after (g1.trans (g2.trans (g3.trans g4))) D.aU (λb q=>.inl (by
    rcases q with(q|q|q)|q
    ·exact oW (Cd (pZ b (.inl q)))
    ·exact oW (Cd (pZ b (.inr q)))
    ·exact oW (jC b (.inr q))
    ·exact oW (jC b (.inl q)))) λz q=>q.elim
  have HE:=abQ.grow (λz q=>q.elim) λz q=>q.elim;refine oE D.aI λm5 F=>gb D.acc λvs k ea ra=>K a jD.locals s5 m5 HE D.inv (oW (Cd oV)) aL.symm F.ns (λb q=>F.soft b (.inl (.inl q))) ?_;refine⟨a,vs,k,rfl,⟨ea,λq=>?_,.inl (λh=>bS h)⟩,ra.mono (aq.less λb q=>q.elim .inl λq=>.inr (.inl (.inl q)))⟩;rcases q with q|q
  ·exact dM a (.inr rfl) q
  ·exact aL q
 exact J5 rfl c6 fin (Pu.it.self I4 R0 fin)
theorem Su(uK:∀mk∈G.makers,mk.fn∈tJ)(aM:ca G n r.E)(cT:h_ G n r.E)(e:iQ r sc l (.ListComp elt gs cs pos)=some p)(R:a_ A n)(I:Inv G s)(X:cu G μ sc env l s.heap)
  (h:KV G s μ p Q):WP G A (bQ (.ListComp elt gs cs pos) env) Q s:=by
 induction gs with
 |nil=>exact aK e
 |cons g gs=>refine eT (eval_ListComp ..) ?_;obtain⟨t,i,ifs,as⟩:=g;have ha:firstAsync (⟨t,i,ifs,as⟩::gs)=false:=aZ e λhc z=>yH hc λz z z z z z q=>ud q;rw[ha];refine Kq uK aM cT R e I X λa C s' m g1 I1 hC fC hn sf rv=>⟨m,hn,λh' sb=>?_⟩;have kp:∀b o,s'.heap.get? b=some o->¬b=C->h'.get? b=some o:=λb o e n=>(sb.2 b n).trans e;have st:aV G (λb=>b=C) (λz=>False) s' {s' with heap:=h'}:=aV.of_same kp rfl rfl;have I2:Inv G {s' with heap:=h',toks:=s'.toks}:=I1.aU kp sf;have bw:aV G dv (λz=>False) s {s' with heap:=h'}:=aV.after g1 st (λb q=>.inl (q▸hC)) λz q=>q.elim;refine h _ _ (bw.grow (λz q=>q.elim) λz q=>q.elim) I2 ?_;exact(rv.mono (aq.aU st I1 λb q=>.inr q)).mono (aq.less λb q=>.inl q)
theorem Kr(S:bY G)(h:Bo sc pos nm=true):∃mk∈G.makers,(fnOf mk.fn).map (·.scope.names)=some sc.names/\mk.line=pos.line/\mk.col=pos.col/\mk.nm=nm:=by simp only[Bo,List.any_eq_true,lI,decide_eq_true_eq,beq_iff_eq]at h;obtain⟨q,hq,⟨⟨h1,h2⟩,h3⟩,h4⟩:=h;obtain⟨mk,hm,e1,e2,e3,e4⟩:=S.site q hq;exact⟨mk,hm,by rw[e1];exact h1,e2.trans h2,e3.trans h3,e4.trans h4⟩
theorem BN(S:bY G)(I:Inv G s){P:aw}{ps:aj}(hP:s.heap.get? P=some (is ps)):s.heap.BuiltinsAt G.mg P:=by
 obtain⟨p,loose,mean,T⟩:=S.T;refine KK T.bmain λbm ob b1 b2 b3 b4 b5 b6=>⟨bm,ob,b1,b2,λq=>?_,λq=>?_,I.old _ _ b3,b4,b5,b6⟩
 ·refine je T.g λo es ep e hd z=>?_;rw[q,e]at b3;obtain rfl:=av b3;rw[hd]at b6;cases b6
 ·have e:=I.old _ _ b3;rw[q,hP]at e;obtain rfl:=av e;cases b4
theorem K3(S:bY G)(I:Inv G s){mk:Maker}(hm:mk∈G.makers){c':aw}{f:Obj}{tk:Nat}(h0:s.heap.get? mk.P=some (is #[]))(hx:JG mk.P s.heap h')(hc:h'.CodeRec (.ref c') mk.qual)
  (ht:h'.get? mk.P=some (is #[dc mk.line,dc mk.col,.ref c'])):bc G s {s with heap:=h'.push f,toks:=tk}/\Inv G {s with heap:=h'.push f,toks:=tk}:=by
 have kp:∀b o,s.heap.get? b=some o->b≠mk.P->(h'.push f).get? b=some o:=λb o e n=>iJ _ (hx b o n e);have abR:∀b o,s.heap.get? b=some o->(∀ps,o≠is ps)->b≠mk.P:=λb o e n q=>by rw[q,h0]at e;obtain rfl:=av e;exact n _ rfl
 refine Et hc λc₂ oc vs t e2 hoc hd hv=>?_;cases e2;refine⟨⟨λb o e n=>kp b o e λq=>n ⟨mk,hm,q⟩,λb q=>?_,λz z h=>h,rfl⟩,⟨λb o e=>kp b o (I.old b o e) λq=>?_,λm2 Pv=>?_,I.bare⟩⟩
 ·cases e:s.heap.get? b with
  |none=>exact bx e q
  |some o=>
   by_cases w:b=mk.P
   ·rw[w,iJ _ ht];simp
   ·rw[kp b o e w];simp
 ·have :=S.tabs b ⟨mk,hm,q⟩;rw[this]at e;exact aK e
 ·refine oA (I.tabs m2 Pv) λa1 a2=>⟨?_,?_⟩
  ·obtain⟨o,vs,file,tf,flags,tg,CD,text,tt,h1,h2,r⟩:=a1;exact⟨o,vs,file,tf,flags,tg,CD,text,tt,kp _ _ h1 (abR _ _ h1 λps q=>by rw[q]at h2;exact bS<|h2),h2,r⟩
  ·by_cases w:m2.P=mk.P
   ·have :=S.mkP m2 Pv mk hm w;subst this;exact .inr ⟨c',iJ _ ht,oc,vs,t,iJ _ hoc,hd,hv⟩
   ·rcases a2 with a2|⟨c2,a2,o2,iB,t2,h1,h2,h3⟩
    ·exact .inl (kp _ _ a2 w)
    ·refine .inr ⟨c2,kp _ _ a2 w,o2,iB,t2,kp _ _ h1 (λq=>?_),h2,h3⟩;rw[q,h0]at h1;obtain rfl:=av h1;cases h2;simp at h3
theorem LR:∀{cJ:Loc},(∀x p,(x,p)∈cJ->ur V (RelV G V p) cl x)->qj G V cJ cl
 |[],_=>trivial
 |(x,p)::r,h=>oj (h x p ch) (LR λy q hq=>h y q (cf _ hq))
theorem SH{a:cH}(h1:a.defaults=[])(h2:a.kw_defaults=[]):defaultsOf a env=([],[]):=by cases a;cases h1;cases h2;rfl
theorem S5(S:bY G){a:cH}{b:Expr}{ls:aH}(e:ON sc l a b ls pos=some p)(I:Inv G s)(X:cu G μ sc env l s.heap)
  (h:KV G s μ p Q):WP G A (bQ (.Lambda a b ls pos) env) Q s:=by
 refine aZ e λhc e=>yH hc λc1 c2 c3 c4 c5 c6 c7=>?_;have hp:=av e;clear e hc;rw[<-hp]at h;have c4:=dd c4;have c5:=dd c5;have c7:=bu c7;obtain⟨mk,hm,e1,e2,e3,e4⟩:=Kr S c1;obtain⟨q1,q2⟩:=X.cq mk hm e1;rw[e4]at q2;obtain⟨ku,_⟩:=xV (s':=s) (ν:=dv) (ew:=env) X I .refl (λz q=>q.elim) c2 c3 c6;obtain⟨C,tb⟩:=I.tabs mk hm;have iA:=I.mg S.towA;have done:∀(s':aB)(f c':aw)(jL pm:ar),bc G s s'->Inv G s'->s.heap.get? f=none->s'.heap.get? f=some (kla_obj "<lambda>" (env.qual++"<lambda>") a b ls (fK env.cells ls.names []) pm c' jL)->oz s'.heap c' (env.qual++"<lambda>")->¬μ c'->Q (.ref f) s':=λs' f c' jL pm g' I' hf zb ⟨oc,vs,t,h1,h2,h3⟩ G1=>by
  refine h _ _ g' I' ?_;have X':=X.grow g' I;obtain⟨_,T⟩:=xV (s':=s') (ν:=dv) (ew:=env) X I g' (λz q=>q.elim) c2 c3 c6;refine⟨f,_,_,rfl,⟨zb,λq=>X.aW f q hf,.inl (by nofun)⟩,rfl,rfl,rfl,rfl,rfl,rfl,rfl,rfl,⟨c',oc,vs,t,rfl,⟨h1,G1,.inr (.inl ⟨vs,_,_,h2,h3⟩)⟩,h2,h3⟩,LR λx p hp=>?_⟩;have wE:=rz c7 hp;obtain⟨h4,c,v,h5,⟨o,h6,Pw⟩,h7⟩:=T.val x p wE;refine oG (T.free x h4) λHF cv2 h8 z h9=>?_;replace h8:=ao (aT h5) h8;obtain rfl:=av h8;have nc:pL p=true:=by rw[cF]at c6;exact c6 (x,p) hp
  have rv:=h7.rel nc;exact⟨c,o,v,h5,⟨h6,λw=>h9 (.inl w),.inr (.inr λvs=>by rw[Pw];nofun)⟩,Pw,rv.mono (aq.less λb q=>.inl q)⟩
 have Fw:∀c',oz s.heap c' (env.qual++"<lambda>")->¬μ c':=λc' ⟨oc,vs,t,h1,h2,h3⟩ q=>((X.soft c' q).2 oc h1).elim (λw=>w _ h2) λw=>w.2.2 _ _ _ h2 h3;refine kla_eval (SH c4 c5) ?_;rcases tb with tb|⟨c',tb,cr⟩
 ·refine kla_makeFunction ku X.ok.globals iA q1 C tb trivial rfl ?_ (BN S I tb) λc' jL h' tk hx zc qB yK G2=>?_
  ·intro w;refine je iA λo es ep e hd z=>?_;rw[w,tb]at e;obtain rfl:=av e;cases hd
  ·have wG:h'.get? mk.P=some (is #[dc mk.line,dc mk.col,.ref c']):=by rw[e2,e3,G2];rfl
   obtain⟨g',I'⟩:=K3 S I hm tb hx (by rw[<-q2];exact yK) wG;refine Et yK λc₂ oc vs t w1 w2 w3 w4=>?_;cases w1;have fr:∀b,s.heap.objs.size<=b->s.heap.get? b=none:=λb hb=>by
    cases e:s.heap.get? b with
    |none=>rfl
    |some o=>exact bx (fQ e) (jV.mpr hb)
   exact done _ _ c' jL _ g' I' (fr _ (aD zc (cG qB))) (eF _ rfl) ⟨oc,vs,t,iJ _ w2,w3,w4⟩ λq=>X.aW c' q (fr c' zc)
 ·have hf:codeAmong pos (#[dc mk.line,dc mk.col,.ref c']:aj).toList=some (.ref c'):=by simp [codeAmong,dc,e2,e3]
  refine kla_makeFunctionHit ku X.ok.globals iA q1 C tb trivial hf (BN S I tb) λjL h' tk hk ie=>?_;have kp:∀y o,s.heap.get? y=some o->(h'.push (kla_obj "<lambda>" (env.qual++"<lambda>") a b ls (fK env.cells ls.names []) ((G.mg "__name__").getD .none) c' jL)).get? y=some o:=λy o e=>iJ _ (hk y o e);refine done _ h'.objs.size c' jL _ (.of kp) (I.of kp) ?_ (eF _ rfl) ((by rw[q2];exact cr:oz s.heap c' (env.qual++"<lambda>")).keeps kp) (Fw c' (by rw[q2];exact cr));cases e:s.heap.get? h'.objs.size with
  |none=>rfl
  |some o=>exact bx (fQ e) (jV.mpr ie)
theorem SJ{vs:List α}(h:ns.length=vs.length)(hd:ns.Nodup):(ns.filterMap λn=>((ns.zip vs).lookup n).map (n,·))=ns.zip vs:=by
 have key:∀l:List (Str×α),(∀q∈l,(ns.zip vs).lookup q.1=some q.2)->((l.map (·.1)).filterMap λn=>((ns.zip vs).lookup n).map (n,·))=l:=λl hl=>by
  induction l with
  |nil=>rfl
  |cons q l ih=>rw[cO,af5,hl q ch,ih λx hx=>hl x (cf _ hx)];rfl
 have hm:=xi (ej h);have :=key (ns.zip vs) λq hq=>rz (by rw[hm];exact hd) hq
 rwa [hm]at this
theorem U9{p:cH}(h1:p.posonlyargs=[])(h3:p.kwonlyargs=[])(h4:p.vararg=none)(h5:p.kwarg=none):p=⟨[],p.args,none,[],p.kw_defaults,none,p.defaults⟩:=by obtain⟨a,b,c,d,e,f,g⟩:=p;obtain rfl:=(h1:a=_);obtain rfl:=(h3:d=_);obtain rfl:=(h4:c=_);obtain rfl:=(h5:f=_);rfl
theorem U_{as:List Arg}{kd:List (Option Expr)}{df:ah}(hp:fd.params=⟨[],as,none,[],kd,none,df⟩)(hd:fd.defaults=.none)
  (hl:vs.length=as.length) (hn:(as.map (·.arg)).Nodup):lQ s fd ⟨vs,[]⟩ ((as.map (·.arg)).zip vs):=by
 refine BindsTo.of_eq ?_;have len:(as.map (·.arg)).length=vs.length:=(ba ..).trans hl.symm;have miss:∀k,((as.map (·.arg)).take k).filter (λn=>(((as.map (·.arg)).zip vs).lookup n).isNone)=[]:=λk=>by rw[afN];intro x hx;have hm:=xi (ej len);refine br (eH.mp (hm▸sZ hx)) λq hq bb=>?_;subst bb;rw[rz (by rw[hm];exact hn) hq];exact Rn
 have c1:¬((decide (vs.length>(as.map (·.arg)).length)&&true)=true):=by rw[len,cA (mL _)];exact Rn
 have c2:∀k,¬((!(((as.map (·.arg)).take k).filter (λn=>(((as.map (·.arg)).zip vs).lookup n).isNone)).isEmpty)=true):=λk=>by rw[miss];exact Rn
 induction fd with
 |mk _ _ params _ _ _ _ defaults=>obtain rfl:=(hp:params=_);obtain rfl:=(hd:defaults=_);refine(aJ c1).trans ((aJ (c2 _)).trans ?_);dsimp only[af_,RQ];rw[RQ,List.zip_nil_right];exact aR (λl=>(pure l:Sem (List (Str×ar)))) ((aR (agK _) (gW _)).trans (SJ len hn))
theorem Ea(h1:fd.params.posonlyargs=[])(h3:fd.params.kwonlyargs=[])(h4:fd.params.vararg=none)(h5:fd.params.kwarg=none)(hd:fd.defaults=.none)
  (hl:vs.length=fd.params.args.length) (hn:(fd.params.args.map (·.arg)).Nodup):lQ s fd ⟨vs,[]⟩ ((fd.params.args.map (·.arg)).zip vs):=U_ (U9 h1 h3 h4 h5) hd hl hn
end
inductive abS(G:bE)(μ φ:al)(env:Env)(h:bT)(m:am)(x:Str)(ps:ab):Prop
 |mk (a:aw) (vs:aj) (k:Nat) (hh:bA h env m x (.ref a)) (ha:φ a) (ea:h.get? a=some (bR vs k)) (r:aN G (aq h λb=>μ b\/φ b) ps vs.toList)
inductive abT(G:bE)(μ φ:al)(env:Env)(h:bT)(m:am)(x:Str)(fs:List (Str×PV)):Prop
 |mk (a dx:aw) (es:List kQ) (k:Nat) (hh:bA h env m x (.ref a)) (ha:φ a) (hd:φ dx) (ea:h.get? a=some ⟨.ref G.C,some dx,.plain,#[]⟩) (ed:h.get? dx=some (dictOf es k)) (r:gh G (aq h λb=>μ b\/φ b) fs es) (nL:dx≠env.locals)
def yL(G:bE)(μ φ:al)(env:Env)(h:bT)(m:am)(x:Str):PV->Prop
 | .list ps=>abS G μ φ env h m x ps
 | .inst fs=>abT G μ φ env h m x fs
 |_=>False
structure RelM(G:bE)(μ φ:al)(pa:Str->aw)(sc:aH)(env:Env)(st:St)(h:bT)(m:am):Prop where
 aI:bM G μ φ sc env (hide st.own st.loc) h m
 own:∀x∈st.own,∀p,st.loc.lookup x=some p->yL G μ φ env h m x p
 inj:∀x∈st.own,∀y∈st.own,∀p q,st.loc.lookup x=some p->st.loc.lookup y=some q->∀a,bA h env m x (.ref a)->bA h env m y (.ref a)->x=y
 one:∀x∈st.own,∀y∈st.own,∀fs jm,st.loc.lookup x=some (.inst fs)->st.loc.lookup y=some (.inst jm)->x=y
 pin:∀x∈st.pin,bA h env m x (.ref (pa x))
def cw(G:bE)(μ φ:al)(pa:Str->aw)(sc:aH)(env:Env)(st:St)(h:bT):Prop :=∃m,RelM G μ φ pa sc env st h m
def N8(G:bE)(V:Vw):bG->dk->Prop
 | .next,f=>f=.next
 | .brk,f=>f=.brk
 | .ret p,f=>∃v,f=.ret v/\RelV G V p v
structure fL(G:bE)(μ φ a9:al)(pa:Str->aw)(sc:aH)(env:Env)(aO:St)(fl:bG)(fv:dk)(s s':aB):Prop where
 aU:aV G φ (λz=>False) s s'
 inv:Inv G s'
 sub:∀b,a9 b->φ b\/s.heap.get? b=none
 rel:cw G μ a9 pa sc env aO s'.heap
 nn:N8 G (aq s'.heap λb=>μ b\/a9 b) fl fv
noncomputable abbrev KP(G:bE)(μ φ:al)(pa:Str->aw)(sc:aH)(env:Env)(aO:St)(fl:bG)(s:aB)(Q:dk->ak):Prop :=∀fv s' a9,fL G μ φ a9 pa sc env aO fl fv s s'->Q fv s'
def G3(G:bE)(n:Nat)(f:aH->St->Stmt->Option (bG×St)):Prop :=
 ∀(A:dQ)(μ φ:al)(pa:Str->aw)(sc:aH)(env:Env)(st:St)(b:Stmt)(fl:bG)(aO:St)(s:aB)(Q:dk->ak),
  f sc st b=some (fl,aO)->a_ A n->Inv G s->cw G μ φ pa sc env st s.heap->(KP G μ φ pa sc env aO fl s Q)->WP G A (exec b env) Q s
def gv(G:bE)(n:Nat)(f:aH->St->ad->Option (bG×St)):Prop :=
 ∀(A:dQ)(μ φ:al)(pa:Str->aw)(sc:aH)(env:Env)(st:St)(b:ad)(fl:bG)(aO:St)(s:aB)(Q:dk->ak),
  f sc st b=some (fl,aO)->a_ A n->Inv G s->cw G μ φ pa sc env st s.heap->(KP G μ φ pa sc env aO fl s Q)->WP G A (execs b env) Q s
section
variable{A:dQ}{abU:al}{sc cs:aH}{st abV:St}{aS:aB}{n:Nat}{r:Rec}
theorem eQ:(hide own l).lookup x=if own.contains x then none else l.lookup x:=by
 unfold hide;induction l with
 |nil=>simp
 |cons q r ih=>
  obtain⟨y,w⟩:=q;rw[pA];by_cases hf:own.contains y=true
  ·simp only[hf,DM,kJ,if_false];refine ao ih ?_;rw[dp];by_cases hx:x=y
   ·subst hx;refine ao (aA hf) ?_;rw[aA hf]
   ·rw[dq hx]
  ·have zb:own.contains y=false:=by simpa using hf
   simp only[zb,RO,if_true];refine ao dp ?_;rw[dp,ih];by_cases hx:x=y
   ·subst hx;simp only[beq_self_eq_true];rw[aJ hf]
   ·rw[dq hx]
theorem bA.det(a:bA h env m x v)(b:bA h env m x w):v=w:=by
 rcases a with⟨a1,a2⟩|⟨a1,c,a2,o,a3,a4⟩<;>rcases b with⟨b1,b2⟩|⟨b1,c',b2,o',b3,b4⟩
 ·replace b2:=ao (aT a2) b2;exact av b2
 ·rw[a1]at b1;exact nomatch b1
 ·rw[b1]at a1;exact nomatch a1
 ·replace b2:=ao (aT a2) b2;obtain rfl:=av b2;replace b3:=ao (aT a3) b3;obtain rfl:=av b3;replace b4:=ao (aT a4) b4;cases b4;rfl
theorem RelM.keep(X:RelM G μ φ pa sc env st s.heap m)(F':bM G μ a9 sc env (hide st.own st.loc) s'.heap m)(hk:∀x v,bA s.heap env m x v->bA s'.heap env m x v)(gz:∀x v,bA s'.heap env m x v->bA s.heap env m x v)
  (dm:∀x∈st.own,∀a,bA s.heap env m x (.ref a)->φ a->a9 a) (hd:∀b o,φ b->(∃es k,o=dictOf es k)->s.heap.get? b=some o->a9 b) (kp:∀b o,φ b->NT o->s.heap.get? b=some o->(∃x∈st.own,bA s.heap env m x (.ref b))\/(∃es k,o=dictOf es k)->s'.heap.get? b=some o)
  (b8:∀b o,aq s.heap (λb=>μ b\/φ b) b o->aq s'.heap (λb=>μ b\/a9 b) b o):RelM G μ a9 pa sc env st s'.heap m:=by
 refine⟨F',λx hx p hp=>?_,λx hx y hy p q hp hq a h1 h2=>X.inj x hx y hy p q hp hq a (gz _ _ h1) (gz _ _ h2),X.one,λx hx=>hk _ _ (X.pin x hx)⟩;have :=X.own x hx p hp;induction p using PV.casesOn with
 |list ps=>obtain⟨a,vs,k,h1,h2,h3,h4⟩:=this;exact⟨a,vs,k,hk _ _ h1,dm x hx a h1 h2,kp a _ h2 (.inl (λh=>bS h)) h3 (.inl ⟨x,hx,h1⟩),h4.mono b8⟩
 |inst fs=>obtain⟨a,dx,es,k,h1,h2,h3,h4,h5,h6,h7⟩:=this;exact⟨a,dx,es,k,hk _ _ h1,dm x hx a h1 h2,hd dx _ h3 ⟨es,k,rfl⟩ h5,kp a _ h2 (.inl (λh=>bS h)) h4 (.inl ⟨x,hx,h1⟩),kp dx _ h3 (.inl (by nofun)) h5 (.inr ⟨es,k,rfl⟩),h6.mono b8,h7⟩
 |_=>exact this.elim
theorem bA.back(ok:lY sc env s.heap)(keep:∀x c v,kc (env.kindOf x)=1->env.cells.lookup x=some c->s.heap.IsCell c v->s'.heap.IsCell c v)(h:bA s'.heap env m x v):bA s.heap env m x v:=by
 rcases h with h|⟨h1,c,h2,h3⟩
 ·exact .inl h
 ·refine gb (ok.cells x h1) λc' cv h4 h5=>?_;replace h4:=ao (aT h2) h4;obtain rfl:=av h4;have h6:=keep x c cv h1 h2 h5;refine br h3 λo e1 e2=>br h6 λo' e3 e4=>?_;replace e3:=ao (aT e1) e3;obtain rfl:=av e3;replace e4:=ao (aT e2) e4;cases e4;exact .inr ⟨h1,c,h2,h5⟩
theorem RelM.grow(X:RelM G μ φ pa sc env st s.heap m)(g:bc G s s')(I:Inv G s):RelM G μ φ pa sc env st s'.heap m:=by refine X.keep (X.aI.grown g I) (λx v h=>h.grow g I) (λx v h=>h.back X.aI.ok λz z z z z q=>g.cell I q) (λz z z z q=>q) (λz z q z z=>q) (λb o z hn e z=>g.keep b o e (I.ct e hn)) (aq.grow g I)
theorem RelM.yv(X:RelM G μ φ pa sc env st s.heap m)(g:bc G s s')(I:Inv G s)(nH:∀b,ν b->s.heap.get? b=none/\s'.heap.get? b≠none)(hs:bL G s'.heap ν):RelM G μ (λb=>φ b\/ν b) pa sc env st s'.heap m:=by
 have F:=X.aI;have sf:=(F.soft.grow g I λb q=>F.aW b (.inr q));refine X.keep (F.step I (ψ:=dv) (γ:=λz=>False) g.aU (λz q=>q.elim) (λb q=>q.elim .inl λq=>.inr (nH b q).1) (.inl F.hL) (λb ⟨x,h1,h2⟩=>.inl (F.own x b h1 h2)) (λb q=>q.elim (λq=>g.there b (F.aW b (.inr q))) λq=>(nH b q).2) (λb q=>q.elim (sf b) (hs b)))
  (λx v h=>h.grow g I) (λx v h=>h.back X.aI.ok λz z z z z q=>g.cell I q) (λz z z z q=>.inl q) (λz z q z z=>.inl q) (λb o z hn e z=>g.keep b o e (I.ct e hn)) λb o q=>?_
 have :=aq.hide (λb q=>(nH b q).1) (aq.grow g I) b o q;exact⟨this.1,λw=>this.2.1 (w.elim (λw=>.inl (.inl w)) λw=>w.elim (λw=>.inl (.inr w)) .inr),this.2.2⟩
theorem cw.grow(X:cw G μ φ pa sc env st s.heap)(g:bc G s s')(I:Inv G s):cw G μ φ pa sc env st s'.heap:=let⟨m,X⟩:=X;⟨m,X.grow g I⟩
theorem bM.less(F:bM G μ φ sc env l s.heap m)(h:∀b,a9 b->φ b)(hL:a9 env.locals)(hc:∀b,bv sc env b->a9 b):bM G μ a9 sc env l s.heap m:=
 ⟨F.ok,F.ck,hL,λx c h1 h2=>hc c ⟨x,h1,h2⟩,λx c h1 h2 q=>F.lj x c h1 h2 (h c q),F.hC,F.inj,λb q=>F.aW b (q.elim .inl λq=>.inr (h b q)),λb q=>F.soft b (h b q),λb q=>F.dM b (h b q),F.iP,F.cq,F.ns,
  λx p hp=>let⟨v,h1,h2⟩:=F.slots x p hp;⟨v,h1,h2.mono (aq.less λb q=>q.elim .inl λq=>.inr (h b q))⟩⟩
theorem RelM.N9(X:RelM G μ φ pa sc env st s.heap m)(y):∃a9,(∀b,a9 b->φ b)/\RelM G μ a9 pa sc env {st with own:=st.own.filter (· ≠y)} s.heap m:=by
 by_cases hy:y∈st.own
 rotate_left
 ·refine⟨φ,λ_ q=>q,?_⟩;have :st.own.filter (· ≠y)=st.own:=by rw[IW];intro z hz;simp;intro q;exact hy (q▸hz)
  rw[this];exact X
 have nv:∀{x},x∈st.own.filter (· ≠y)->x∈st.own/\x≠y:=λ{x} h=>by simpa using jT.mp h
 have lk:∀x q,(hide (st.own.filter (· ≠y)) st.loc).lookup x=some q->x≠y->(hide st.own st.loc).lookup x=some q:=λx q h hx=>by
  rw[eQ]at h⊢
  split at h
  ·exact aK h
  ·rename_i hc;rw[aJ (λw=>hc ?_)]
   ·exact h
   ·simp only[cN,jT]at w⊢;exact⟨w,by simpa using hx⟩
 induction hp:st.loc.lookup y with
 |none=>
  refine⟨φ,λ_ q=>q,⟨⟨X.aI.ok,X.aI.ck,X.aI.hL,X.aI.own,X.aI.lj,X.aI.hC,X.aI.inj,X.aI.aW,X.aI.soft,X.aI.dM,X.aI.iP,X.aI.cq,X.aI.ns,λx q hq=>X.aI.slots x q (lk x q hq λw=>?_)⟩,
   λx hx q hq=>X.own x (nv hx).1 q hq,λx hx z hz=>X.inj x (nv hx).1 z (nv hz).1,λx hx z hz=>X.one x (nv hx).1 z (nv hz).1,X.pin⟩⟩
  subst w;rw[eQ]at hq
  split at hq
  ·exact aK hq
  ·rw[hp]at hq;exact aK hq
 |some p=>
  have O:=X.own y hy p hp;have fin:∀(a9:al)(v:ar),(∀b,a9 b->φ b)->a9 env.locals->(∀b,bv sc env b->a9 b)->bA s.heap env m y v->RelV G (aq s.heap λb=>μ b\/a9 b) p v->(∀x∈st.own,x≠y->∀q,st.loc.lookup x=some q->yL G μ a9 env s.heap m x q)->
    ∃a9,(∀b,a9 b->φ b)/\RelM G μ a9 pa sc env {st with own:=st.own.filter (· ≠y)} s.heap m:=λa9 v h1 h2 h3 h4 h5 h6=>by
   have F':=X.aI.less h1 h2 h3;refine⟨a9,h1,⟨⟨F'.ok,F'.ck,F'.hL,F'.own,F'.lj,F'.hC,F'.inj,F'.aW,F'.soft,F'.dM,F'.iP,F'.cq,F'.ns,λx q hq=>?_⟩,
    λx hx q hq=>h6 x (nv hx).1 (nv hx).2 q hq,λx hx z hz=>X.inj x (nv hx).1 z (nv hz).1,λx hx z hz=>X.one x (nv hx).1 z (nv hz).1,X.pin⟩⟩
   by_cases hx:x=y
   ·subst hx;rw[eQ]at hq
    split at hq
    ·exact aK<|hq
    ·rw[hp]at hq;obtain rfl:=av hq;exact⟨v,h4,slot_of h5⟩
   ·exact F'.slots x q (lk x q hq hx)
  induction p using PV.casesOn with
  |list ps=>
   obtain⟨a,vs,k,h1,h2,h3,h4⟩:=O;refine fin (λb=>φ b/\b≠a) (.ref a) (λb q=>q.1) ⟨X.aI.hL,(rA h3 X.aI.ns).symm⟩ (λb hb=>⟨let⟨x,q1,q2⟩:=hb;X.aI.own x b q1 q2,λw=>ry X.aI.ok h3 (w▸hb)⟩) h1 ?_ λx hx nN q hq=>?_
   ·exact⟨a,vs,k,rfl,⟨h3,λw=>w.elim (λw=>X.aI.dM a h2 w) λw=>w.2 rfl,.inl (λh=>bS h)⟩,h4.mono (aq.less λb q=>q.elim .inl λq=>.inr q.1)⟩
   ·have O2:=X.own x hx q hq;have ls:∀b o,aq s.heap (λb=>μ b\/φ b) b o->aq s.heap (λb=>μ b\/(φ b/\b≠a)) b o:=aq.less λb q=>q.elim .inl λq=>.inr q.1;induction q using PV.casesOn with
    |list qs=>obtain⟨a2,iB,k2,e1,e2,e3,e4⟩:=O2;exact⟨a2,iB,k2,e1,⟨e2,λw=>nN (X.inj x hx y hy _ _ hq hp a (w▸e1) h1)⟩,e3,e4.mono ls⟩
    |inst fs=>obtain⟨a2,dx,es,k2,e1,e2,e3,e4,e5,e6,e7⟩:=O2;exact⟨a2,dx,es,k2,e1,⟨e2,λw=>nN (X.inj x hx y hy _ _ hq hp a (w▸e1) h1)⟩,⟨e3,λw=>by rw[w,h3]at e5;exact nomatch aR (mO D4) e5⟩,e4,e5,e6.mono ls,e7⟩
    |_=>exact O2.elim
  |inst fs=>
   obtain⟨a,dx,es,k,h1,h2,h3,h4,h5,h6,h7⟩:=O;have aL:a≠env.locals:=λw=>by refine je X.aI.ns λo sr ep ho hd _=>?_;rw[w,ho]at h4;obtain rfl:=av h4;exact jS<|hd
   have nc:∀b o,s.heap.get? b=some o->(∀v,o.data≠.cell v)->¬bv sc env b:=λb o e hn ⟨x,q1,q2⟩=>by obtain⟨c,cv,q3,o',ho,hd⟩:=X.aI.ok.cells x (by rw[X.aI.ok.names];exact pM q1);rw[q2]at q3;obtain rfl:=av q3;rw[e]at ho;obtain rfl:=av ho;exact hn _ hd
   refine fin (λb=>φ b/\b≠a/\b≠dx) (.ref a) (λb q=>q.1) ⟨X.aI.hL,aL.symm,h7.symm⟩ (λb hb=>⟨let⟨x,q1,q2⟩:=hb;X.aI.own x b q1 q2,λw=>nc a _ h4 (λ_ h=>jS h) (w▸hb),λw=>nc dx _ h5 (by intro v;nofun) (w▸hb)⟩) h1 ?_ λx hx nN q hq=>?_
   ·exact⟨a,_,dx,_,es.toArray,k,rfl,⟨h4,λw=>w.elim (λw=>X.aI.dM a h2 w) λw=>w.2.1 rfl,.inl (λh=>bS h)⟩,rfl,rfl,rfl,⟨h5,λw=>w.elim (λw=>X.aI.dM dx h3 w) λw=>w.2.2 rfl,.inl (by nofun)⟩,rfl,
     gh.mono (aq.less λb q=>q.elim .inl λq=>.inr q.1) fs h6⟩
   ·have O2:=X.own x hx q hq;have ls:∀b o,aq s.heap (λb=>μ b\/φ b) b o->aq s.heap (λb=>μ b\/(φ b/\b≠a/\b≠dx)) b o:=aq.less λb q=>q.elim .inl λq=>.inr q.1;induction q using PV.casesOn with
    |list qs=>obtain⟨a2,iB,k2,e1,e2,e3,e4⟩:=O2;exact⟨a2,iB,k2,e1,⟨e2,λw=>nN (X.inj x hx y hy _ _ hq hp a (w▸e1) h1),λw=>by rw[w,h5]at e3;exact nomatch aR (mO D4) e3⟩,e3,e4.mono ls⟩
    |inst gs=>exact bx (X.one x hx y hy gs fs hq hp) nN
    |_=>exact O2.elim
  |_=>exact O.elim
end
section
variable{n k w:Nat}{sc cs:aH}{A:dQ}{pos:Pos}{r:Rec}{st:St}{a:aw}{P:Prop}{own:al}{fl:bG}{d:FD}{c:Bool}{body:ad}{E:ar->ak}{b:Int}{nm:Str}{ns:af}{it:ar}{M:Model}
section
variable{abU:al}{abV:St}{aS:aB}
theorem RelM.LU(X:RelM G μ φ pa sc env st s.heap m)(ho:st.own=[]):∃a9,(∀b,a9 b->φ b)/\RelM G μ a9 pa sc env {st with own:=[]} s.heap m:=⟨φ,λz q=>q,(show st=({st with own:=[]}:St) by rw[<-ho])▸X⟩
theorem RelM.xW(k)(hk:st.own.length<=k)(X:RelM G μ φ pa sc env st s.heap m):∃a9,(∀b,a9 b->φ b)/\RelM G μ a9 pa sc env {st with own:=[]} s.heap m:=by
 induction k generalizing φ st with
 |zero=>exact RelM.LU X (IK.mp (Nat.le_zero.mp hk))
 |succ k ih=>
  cases ho:st.own with
  |nil=>exact X.LU ho
  |cons y ys=>
   refine br (X.N9 y) λbF h1 X1=>?_;have hl:({st with own:=st.own.filter (· ≠y)}:St).own.length<=k:=by rw[ho]at hk⊢;rw[pA];simp only[ne_eq,not_true_eq_false,decide_false,kJ,if_false];have :=sY (λx=>decide (¬x=y)) ys;simp only[ff]at hk;lia
   refine br (ih hl X1) λfe h2 X2=>⟨fe,λb q=>h1 b (h2 b q),X2⟩
structure Px(G:bE)(μ φ:al)(pa:Str->aw)(sc:aH)(env:Env)(st aO:St)(r:Rec)(e:Expr)(p:PV)(s:aB)(a9 lm:al)(l:Loc):Prop where
 sub:∀b,a9 b->φ b
 ev:r.E sc l e=some p
 rel:cu G lm sc env l s.heap
 Py:∀s',bc G s s'->Inv G s'->cw G μ a9 pa sc env aO s'.heap/\∀v,RelV G (aq s'.heap lm) p v->RelV G (aq s'.heap λb=>μ b\/a9 b) p v
 afh:∀s' (ν:al),bc G s s'->Inv G s'->(∀b,ν b->s.heap.get? b=none/\s'.heap.get? b≠none)->bL G s'.heap ν->
  cw G μ (λb=>a9 b\/ν b) pa sc env aO s'.heap/\∀v,RelV G (aq s'.heap λb=>lm b\/ν b) p v->RelV G (aq s'.heap λb=>μ b\/(a9 b\/ν b)) p v
 lam:dS p=true
 loc:aO.loc=st.loc
 pins:aO.pin=st.pin
 wh:∀x,x∈aO.own->x∈st.own
theorem vK(I:Inv G s)(X:cw G μ φ pa sc env st s.heap)(h:ci r sc st e=some (p,aO)):∃a9 lm l,Px G μ φ pa sc env st aO r e p s a9 lm l:=by
 refine aF h λq h1 h=>aZ h λhl h=>?_;rw[av h]at h1 hl;clear h;refine oE X λm X=>?_;have mk:∀(a9:al)(gj:af),(∀b,a9 b->φ b)->RelM G μ a9 pa sc env {st with own:=gj} s.heap m->r.E sc (hide gj st.loc) e=some p->(∀x,x∈gj->x∈st.own)->{st with own:=gj}=aO->
   ∃a9 lm l,Px G μ φ pa sc env st aO r e p s a9 lm l:=λa9 gj h1 X' h2 h3 h4=>h4▸
  ⟨a9,_,_,h1,h2,X'.aI.fo,λs' g I'=>⟨⟨m,X'.grow g I⟩,λv hv=>(X'.aI.grown g I).y_ hl hv⟩,λs' ν g I' nH hs=>⟨⟨m,X'.yv g I nH hs⟩,λv hv=>(X'.yv g I nH hs).aI.y_ hl (hv.mono (aq.less λb q=>q.elim (λq=>.inl (.inl q)) λq=>q.1.elim (λw=>.inl (.inr ⟨w,q.2⟩)) .inr))⟩,hl,rfl,rfl,h3⟩
 refine GO h1 (λh2=>cj h2 λv h2 e=>mk φ st.own (λz q=>q) X (h2.trans (aR (some ·.1) e)) (λz q=>q) (aR (·.2) e)) λh2=>aF h2 λv h2 h3=>dU h3 (λhf e=>?_) λz h3=>GO h3 (λh3=>?_) λe=>?_
 ·have e:=av e;rw[<-show st=aO from aR (·.2) e];rw[show v=p from aR (·.1) e]at hf h2;refine br (X.xW _ (eI _)) λfe k1 X2=>⟨φ,_,_,λz q=>q,h2,X2.aI.fo,λs' g I'=>⟨⟨m,X.grow g I⟩,λv hv=>hv.flat hf⟩,λs' ν g I' nH hs=>⟨⟨m,X.yv g I nH hs⟩,λv hv=>hv.flat hf⟩,hl,rfl,rfl,λz q=>q⟩
 ·revert h3;generalize st.own=ys;intro h3;induction ys with
  |nil=>exact aK h3
  |cons y ys ih=>exact GO h3 (λh4=>cj h4 λv h4 e=>let⟨bF,k1,X1⟩:=X.N9 y;mk bF _ k1 X1 (h4.trans (aR (some ·.1) e)) (λx hx=>(jT.mp hx).1) (aR (·.2) e)) ih
 ·refine br (X.xW _ (eI _)) λfe k1 X2=>?_;have e:=av e;exact mk fe [] k1 X2 (h2.trans (aR (some ·.1) e)) (λx hx=>nomatch hx) (aR (·.2) e)
theorem jw(aM:ca G n r.E)(R:a_ A n)(I:Inv G s)(X:cw G μ φ pa sc env st s.heap)(h:ci r sc st e=some (p,aO))
  (k:∀v s' a9,bc G s s'->Inv G s'->(∀b,a9 b->φ b)->cw G μ a9 pa sc env aO s'.heap->RelV G (aq s'.heap λb=>μ b\/a9 b) p v->dS p=true->aO.loc=st.loc->aO.pin=st.pin->(∀x,x∈aO.own->x∈st.own)->Q v s'):
  WP G A (bQ e env) Q s:=by
 refine oM (vK I X h) λa9 lm l E=>aM _ _ _ _ _ _ _ _ _ E.ev R I E.rel λv s' g I' hv=>let⟨a,b⟩:=E.Py s' g I';k v s' a9 g I' E.sub a (b v hv) E.lam E.loc E.pins E.wh
theorem K4(cT:h_ G n r.E)(R:a_ A n)(I:Inv G s)(X:cw G μ φ pa sc env st s.heap)(h:ci r sc st e=some (p,aO))(ht:truth p=some c){Q:Bool->ak}
  (k:∀s' a9,bc G s s'->Inv G s'->(∀b,a9 b->φ b)->cw G μ a9 pa sc env aO s'.heap->aO.loc=st.loc->aO.pin=st.pin->(∀x,x∈aO.own->x∈st.own)->Q c s'):
  WP G A (isTrue e env (bQ e env)) Q s:=by
 refine oM (vK I X h) λa9 lm l E=>cT _ _ _ _ _ _ _ _ _ _ E.ev ht R I E.rel λs' g I'=>k s' a9 g I' E.sub (E.Py s' g I').1 E.loc E.pins E.wh
end
section
theorem aV.comp(a:aV G φ (λz=>False) s s1)(b:aV G bF (λz=>False) s1 s2)(h:∀x,bF x->φ x\/s.heap.get? x=none):aV G φ (λz=>False) s s2:=
 ⟨λx o e n m=>b.keep x o (a.keep x o e n m) n λq=>(h x q).elim m λq=>(by replace e:=ao (aT q) e;exact aK e),λx e m=>b.there x (a.there x e m) λq=>(h x q).elim m e,
  λi g e n=>b.gens i g (a.gens i g e n) n,b.os.trans a.os⟩
theorem fL.after(a:aV G φ (λz=>False) s s1)(h:∀x,bF x->φ x\/s.heap.get? x=none)(P:fL G μ bF a9 pa sc env aO fl fv s1 s2):fL G μ φ a9 pa sc env aO fl fv s s2:=
 ⟨a.comp P.aU h,P.inv,λb q=>(P.sub b q).elim (h b) λq=>(lM (φ b)).imp_right λw=>(II λe=>a.there b e w q),P.rel,P.nn⟩
theorem fL.grow(g:bc G s s1)(h:∀x,bF x->φ x)(P:fL G μ bF a9 pa sc env aO fl fv s1 s2):fL G μ φ a9 pa sc env aO fl fv s s2:=P.after g.aU λx q=>.inl (h x q)
def G4(G:bE)(n:Nat)(f:aH->St->Expr->ad->Option (bG×St)):Prop :=
 ∀(A:dQ)(μ φ:al)(pa:Str->aw)(sc:aH)(env:Env)(st:St)(t:Expr)(b:ad)(fl:bG)(aO:St)(s:aB)(Rr:mQ->ak),
  f sc st t b=some (fl,aO)->a_ A n->Inv G s->cw G μ φ pa sc env st s.heap->(∀fv s' a9,fL G μ φ a9 pa sc env aO fl fv s s'->Rr (.ok fv) s')->eV (bp G.prog G.w) A (.whileLoop t b [] env) Rr s
variable(aM:ca G n r.E)(cT:h_ G n r.E)(Pz:G3 G n r.S)(cx:gv G n r.B)(wI:G4 G n r.W)
include Pz cx in
theorem Z9{Q:dk->ak}{b:ad}(e:NY r sc st b=some (fl,aO))(R:a_ A n)(I:Inv G s)(X:cw G μ φ pa sc env st s.heap)
  (h:KP G μ φ pa sc env aO fl s Q):WP G A (execs b env) Q s:=by
 induction b with
 |nil=>exact f9 (P:=λfl aO=>(KP G μ φ pa sc env aO fl s Q)->WP G A (execs [] env) Q s) e (λh=>wpAny_execs_nil (h _ _ φ ⟨.refl,I,λz q=>.inl q,X,rfl⟩)) h
 |cons x xs=>
  refine aF e λq e1 e=>tm (Pz _ _ _ _ _ _ _ _ _ _ _ _ e1 R I X λfv s1 bF P1=>?_);obtain⟨uL,aE⟩:=q;have F:=P1.nn;induction uL with
  |next =>exact(show fv=.next from F)▸cx _ _ _ _ _ _ _ _ _ _ _ _ e R P1.inv P1.rel λCE s2 fe P2=>h _ _ _ (P2.after P1.aU P1.sub)
  |brk=>exact(show fv=.brk from F)▸h .brk _ _ ((show fv=.brk from F)▸av e▸P1:fL G μ φ bF pa sc env (fl,aO).2 (fl,aO).1 .brk s s1)
  |ret p=>refine br F λv hv z=>hv▸h (.ret v) _ _ (hv▸av e▸P1:fL G μ φ bF pa sc env (fl,aO).2 (fl,aO).1 (.ret v) s s1)
include aM in
theorem S6{Q:dk->ak}{o:Option Expr}(e:OP r sc st o=some (fl,aO))(R:a_ A n)(I:Inv G s)(X:cw G μ φ pa sc env st s.heap)
  (h:KP G μ φ pa sc env aO fl s Q):WP G A (exec (.Return o pos) env) Q s:=by
 induction o with
 |none=>exact f9 (P:=λfl aO=>(KP G μ φ pa sc env aO fl s Q)->WP G A (exec (.Return none pos) env) Q s) e (λh=>wpAny_Return_none (h _ _ φ ⟨.refl,I,λz q=>.inl q,X,⟨.none,rfl,.mkNone⟩⟩)) h
 |some x=>refine cj e λq e1 e=>?_;rw[<-show q.2=aO from aR (·.2) e,<-show bG.ret q.1=fl from aR (·.1) e]at h;exact wpAny_Return_some (jw aM R I X e1 λv s1 bF g1 I1 h1 X1 r1 z z z z=>h _ _ bF ⟨g1.aU,I1,λb q=>.inl (h1 b q),X1,⟨v,rfl,r1⟩⟩)
include cT cx in
theorem Yv{Q:dk->ak}{a b:ad}(e:Po r sc st t a b=some (fl,aO))(R:a_ A n)(I:Inv G s)(X:cw G μ φ pa sc env st s.heap)
  (h:KP G μ φ pa sc env aO fl s Q):WP G A (exec (.If t a b pos) env) Q s:=
 aF e λq e1 e=>aF e λc e2 e=>wpAny_If (K4 cT R I X e1 e2 λs1 bF g1 I1 h1 X1 z z z=>N5 (P:=λx=>WP G A (execs x env) Q s1)
  (cx _ _ _ _ _ _ _ _ _ _ _ _ e R I1 X1 λCE s2 fe P2=>h _ _ _ (P2.grow g1 h1)))
include cT cx wI in
theorem Z_{Rr:mQ->ak}{b:ad}(e:NZ r sc st t b=some (fl,aO))(R:a_ A n)(I:Inv G s)(X:cw G μ φ pa sc env st s.heap)
  (h:∀fv s' a9,fL G μ φ a9 pa sc env aO fl fv s s'->Rr (.ok fv) s'):eV (bp G.prog G.w) A (.whileLoop t b [] env) Rr s:=by
 refine Jx ?_;show bt _ (A.under _) ((whileTurn t b [] env).onRaise (λx=>do tE x env;Ag x)) _ _ s;rw[show A.under (.whileLoop t b [] env)=A from IM rfl];refine wpAny_noted (By ?_);unfold whileTurn;refine aF e λq e1 e=>aF e λc e2 e=>aP (K4 cT R I X e1 e2 λs1 bF g1 I1 h1 X1 z z z=>?_);induction c with
 |true=>
  refine aF e λq e3 e=>aP (cx _ _ _ _ _ _ _ _ _ _ _ _ e3 R I1 X1 λCE s2 fe P2=>?_);obtain⟨uL,bw⟩:=q;have F:=P2.nn;induction uL with
  |next =>rw[show CE=.next from F]at P2⊢;exact bz ⟨rfl,wI _ _ _ _ _ _ _ _ _ _ _ _ _ e R P2.inv P2.rel λHG s3 nO P3=>h _ _ nO ((P3.after P2.aU P2.sub).grow g1 h1)⟩
  |brk=>rw[show CE=.brk from F];exact f9 (P:=λfl aO=>(∀fv s' a9,fL G μ φ a9 pa sc env aO fl fv s s'->Rr (.ok fv) s')->_) e (λh=>bz (h .next _ fe ((⟨P2.aU,P2.inv,P2.sub,P2.rel,rfl⟩:fL G μ bF fe pa sc env bw .next .next s1 s2).grow g1 h1))) h
  |ret p=>refine br F λv hv z=>?_;rw[hv]at P2⊢;exact f9 (P:=λfl aO=>(∀fv s' a9,fL G μ φ a9 pa sc env aO fl fv s s'->Rr (.ok fv) s')->_) e (λh=>bz (h _ _ fe (P2.grow g1 h1))) h
 |false=>exact f9 (P:=λfl aO=>(∀fv s' a9,fL G μ φ a9 pa sc env aO fl fv s s'->Rr (.ok fv) s')->_) e (λh=>aP (wpAny_execs_nil (bz (h _ _ bF ⟨g1.aU,I1,λb q=>.inl (h1 b q),X1,rfl⟩)))) h
include wI in
theorem TR{Q:dk->ak}{a:ad}(e:r.W sc st t a=some (fl,aO))(R:a_ A n)(I:Inv G s)(X:cw G μ φ pa sc env st s.heap)
  (h:KP G μ φ pa sc env aO fl s Q):WP G A (exec (.While t a [] pos) env) Q s:=
 wpAny_While (wI _ _ _ _ _ _ _ _ _ _ _ _ _ e R I X λfv s' a9 P=>h fv s' a9 P)
end
theorem J6:∀{ts:ah}{ps:ab}{l l':Loc}(k:Loc),mR ts ps l=some l'->∃k',mR ts ps k=some k'/\∀y,k'.lookup y=if y∈namesOf ts then l'.lookup y else k.lookup y
 |[],_,_,_,k,e=>aZ e λh z=>⟨k,aA h,λy=>(aJ gG).symm⟩
 |t::ts,ps,l,l',k,e=>aF e λx hx e1=>aF e1 λq hq e2=>by
  refine br (J6 (bq k x q.1) e2) λk' h1 h2=>⟨k',by simp only[mR,hx,hq,Ro];exact h1,λy=>?_⟩;refine ao (h2 y) ?_;rw[Aw hx];by_cases hy:y∈namesOf ts
  ·refine ao (aA hy) ?_;rw[aA (cf _ hy)]
  ·refine ao (aJ hy) ?_;rw[fw];by_cases nN:y=x
   ·refine ao (aA nN) ?_;rw[aA (nN▸ch),JN e2 hy,fw,aA nN]
   ·refine ao (aJ nN) ?_;rw[aJ (λw=>(cc.mp w).elim nN hy)]
theorem TS(e:fz t l p=some l')(k):∃k',fz t k p=some k'/\∀y,k'.lookup y=if y∈gp t then l'.lookup y else k.lookup y:=by
 refine rG e (λx q e=>?_) λe=>yn e (λts kk q e=>aF e λps hp e=>let⟨k',h1,h2⟩:=J6 k e;⟨k',show(FV p).bind (λvs=>mR ts vs k)=some k' from(aR (·.bind λvs=>mR ts vs k) hp).trans h1,h2⟩) aK
 ·refine⟨bq k x p,rfl,λy=>?_⟩;rw[<-av e,fw,fw];by_cases h:y=x
  ·refine ao (aA h) ?_;rw[aA h];exact(aA (vj.mpr h)).symm
  ·refine ao (aJ h) ?_;exact(aJ λw=>h (cW w)).symm
theorem jY:x∈b9 st ns↔x∈st.own/\x∉ns:=by simp [b9,jT]
theorem RelM.put(X:RelM G μ φ pa sc env st s.heap m)(I:Inv G s)(P:nE G μ φ sc env l' s s' m m' ns)(yM:∀x∈ns,x∉st.pin)(h1:∀y q,(hide (b9 st ns) nw).lookup y=some q->l'.lookup y=some q)
  (h2:∀y,y∉ns->nw.lookup y=st.loc.lookup y):RelM G μ φ pa sc env {st with loc:=nw,own:=b9 st ns} s'.heap m':=by
 have ia:∀b,(b=env.locals\/bv sc env b)->φ b:=λb q=>q.elim (λq=>q▸X.aI.hL) λ⟨x,q1,q2⟩=>X.aI.own x b q1 q2;have b8:=aq.aU (μ:=λb=>μ b\/φ b) P.aU I λb q=>.inr (ia b q);have nc:∀b o,s.heap.get? b=some o->(∀v,o.data≠.cell v)->¬bv sc env b:=λb o e hn ⟨x,q1,q2⟩=>by obtain⟨c,cv,q3,o',ho,hd⟩:=X.aI.ok.cells x (by refine ao (X.aI.ok.names ..) ?_;exact pM q1);replace q3:=ao (aT q2) q3;obtain rfl:=av q3;replace ho:=ao (aT e) ho;obtain rfl:=av ho;exact hn _ hd
 have kp:∀b o,s.heap.get? b=some o->NT o->b≠env.locals->(∀v,o.data≠.cell v)->s'.heap.get? b=some o:=λb o e hn hL hc=>P.aU.keep b o e (I.ct e hn) λq=>q.elim hL (nc b o e hc);have back:∀y∈b9 st ns,∀q,nw.lookup y=some q->∀w,bA s'.heap env m' y w->bA s.heap env m y w:=λy hy q hq w hw=>by
  refine oA (jY.mp hy) λy1 y2=>?_;replace hq:=ao (aT (h2 y y2)) hq;have O:=X.own y y1 q hq;induction q using PV.casesOn with
  |list ps=>obtain⟨a,vs,k,e1,_⟩:=O;exact(P.rest y _ y2 e1).det hw▸e1
  |inst fs=>obtain⟨a,dx,es,k,e1,_⟩:=O;exact(P.rest y _ y2 e1).det hw▸e1
  |_=>exact O.elim
 refine⟨P.aI.sub h1,λx hx q hq=>?_,λx hx y hy px py CF ig a ha hb=>?_,λx hx y hy fs jm CF ig=>?_,λx hx=>?_⟩
 ·refine oA (jY.mp hx) λx1 x2=>?_;have HH:st.loc.lookup x=some q:=by refine ao (aT (h2 x x2 ..)) ?_;exact hq
  have O:=X.own x x1 q HH;induction q using PV.casesOn with
  |list ps=>obtain⟨a,vs,k,e1,e2,e3,e4⟩:=O;exact⟨a,vs,k,P.rest x _ x2 e1,e2,kp a _ e3 (.inl (λh=>bS h)) (rA e3 X.aI.ns) (by intro v;nofun),e4.mono b8⟩
  |inst fs=>
   obtain⟨a,dx,es,k,e1,e2,e3,e4,e5,e6,e7⟩:=O;have aL:a≠env.locals:=λw=>by refine je X.aI.ns λo sr ep ho hd z=>?_;rw[w,ho]at e4;obtain rfl:=av e4;exact jS<|hd
   exact⟨a,dx,es,k,P.rest x _ x2 e1,e2,e3,kp a _ e4 (.inl (λh=>bS h)) aL (by intro v;nofun),kp dx _ e5 (.inl (by nofun)) e7 (by intro v;nofun),e6.mono b8,e7⟩
  |_=>exact O.elim
 ·refine oA (jY.mp hx) λx1 x2=>oA (jY.mp hy) λy1 y2=>X.inj x x1 y y1 px py (by refine ao (aT (h2 x x2)) ?_;exact CF) (by refine ao (aT (h2 y y2)) ?_;exact ig) a (back x hx px CF _ ha) (back y hy py ig _ hb)
 ·refine oA (jY.mp hx) λx1 x2=>oA (jY.mp hy) λy1 y2=>X.one x x1 y y1 fs jm (by refine ao (aT (h2 x x2)) ?_;exact CF) (by refine ao (aT (h2 y y2)) ?_;exact ig)
 ·exact P.rest x _ (λq=>yM x q hx) (X.pin x hx)
theorem RelM.assign(X:RelM G μ φ pa sc env st s.heap m)(I:Inv G s)(hh:A.handled=none)(ht:(gp t).all (cm sc st)=true)(e:fz t st.loc p=some nw)(hv:RelV G (aq s.heap λb=>μ b\/φ b) p v)
  {Q:Unit->ak} (h:∀s' m',aV G φ (λ_=>False) s s'->Inv G s'->RelM G μ φ pa sc env {st with loc:=nw,own:=b9 st (gp t)} s'.heap m'->Q () s'):WP G A (assign t env v) Q s:=by
 have wF:Bn sc t=true:=by simp only[Bn,cF]at ht⊢;intro x hx;have :=ht x hx;simp only[cm,lI]at this;exact this.1
 have yM:∀x∈gp t,x∉st.pin:=λx hx=>by simp only[cF]at ht;have :=ht x hx;simp only[cm,lI,vo]at this;intro q;have :=this.2;replace this:=ao (aT (afW ..)) this;simp [q]at this
 refine br (TS e (hide st.own st.loc)) λl' h1 h2=>X.aI.bind I hh wF h1 hv λs0 s' m' g I0 P=>?_;have X0:=X.grow g I;have ia:∀b,(b=env.locals\/bv sc env b)->φ b:=λb q=>q.elim (λq=>q▸X.aI.hL) λ⟨x,q1,q2⟩=>X.aI.own x b q1 q2;refine h s' m' (g.aU.trans (P.aU.mono ia λ_ q=>q)) P.inv (X0.put I0 P yM (λy q hq=>?_) λy hy=>D9 e hy);replace hq:=ao (aT eQ) hq
 split at hq
 ·exact aK hq
 ·rename_i hc;refine ao (h2 y) ?_
  split
  ·exact hq
  ·rename_i hy;refine ao eQ ?_;rw[aJ]
   ·replace hq:=ao (aT (D9 e hy)) hq;exact hq
   ·intro w;refine hc ?_;rw[cN]at w⊢;exact jY.mpr ⟨w,hy⟩
def wi(G:bE)(n:Nat)(f:aH->Loc->Expr->ag):Prop :=
 ∀(A:dQ)(μ:al)(sc:aH)(env:Env)(l:Loc)(elt:Expr)(gens:List fG)(cs:aH)(pos pos':Pos)(use:Option (ar->Sem Unit))(p:PV)(s:aB)(Q:ar->ak),
  f sc l (.ListComp elt gens cs pos)=some p->a_ A n->Inv G s->cu G μ sc env l s.heap->
  (∀a C s' m,bc G s s'->Inv G s'->s.heap.get? C=none->C≠a->s'.heap.Ns C m->bL G s'.heap (λb=>b=C)->RelV G (aq s'.heap λb=>μ b\/b=C) p (.ref a)->compPost (bp G.prog G.w) A EE use Q (.ref a) C (.ok .next) s')->
  WP G A (comprehension (.ListComp elt gens cs pos) cs env pos' (newList []) (firstAsync gens) (firstIter gens env) use) Q s
theorem aaa(uK:∀mk∈G.makers,mk.fn∈tJ)(aM:ca G n r.E)(cT:h_ G n r.E)(e:iQ r sc l (.ListComp elt gs cs pos)=some p)(R:a_ A n)(I:Inv G s)(X:cu G μ sc env l s.heap)
  (h:∀a C s' m,bc G s s'->Inv G s'->s.heap.get? C=none->C≠a->s'.heap.Ns C m->bL G s'.heap (λb=>b=C)->RelV G (aq s'.heap λb=>μ b\/b=C) p (.ref a)->compPost (bp G.prog G.w) A EE use Q (.ref a) C (.ok .next) s'):
  WP G A (comprehension (.ListComp elt gs cs pos) cs env pos' (newList []) (firstAsync gs) (firstIter gs env) use) Q s:=by
 induction gs with
 |nil=>exact aK e
 |cons g gs=>obtain⟨t,i,ifs,as⟩:=g;have ha:firstAsync (⟨t,i,ifs,as⟩::gs)=false:=aZ e λhc z=>yH hc λz z z z z z q=>ud q;rw[ha];exact Kq uK aM cT R e I X h
theorem S7{value:Expr}(h:yr value=true){p:Pos}{line:Nat}:swapsWith value (some (.Name x p)) line env=pure false\/(swapsWith value (some (.Name x p)) line env=pure true/\∃elt gens cs pos,value=.ListComp elt gens cs pos):=by
 induction value using jU with
 |ListComp elt gens cs pos=>
  have key:∃b,swapsWith (.ListComp elt gens cs pos) (some (.Name x p)) line env=pure b:=⟨_,rfl⟩;refine oE key λb hb=>?_;cases b
  ·exact .inl hb
  ·exact .inr ⟨hb,_,_,_,_,rfl⟩
 |SetComp a b c d=>cases h
 |DictComp a b c d e=>cases h
 |_=>exact .inl rfl
theorem RelM.ia(X:RelM G μ φ pa sc env st s.heap m):∀b,(b=env.locals\/bv sc env b)->φ b:=λb q=>q.elim (λq=>q▸X.aI.hL) λ⟨x,q1,q2⟩=>X.aI.own x b q1 q2
theorem AK(h:cm sc st x=true):gf sc x=true/\x∉st.pin:=be h λh1 h2=>⟨h1,λq=>by rw[cN.mpr q]at h2;exact xm<|h2⟩
theorem RelM.M1(X:RelM G μ φ pa sc env st s.heap m)(I:Inv G s)(hx:cm sc st x=true)(hv:jg G (aq s.heap λb=>μ b\/φ b) env p v)
  {Q:Unit->ak} (h:∀s' m',aV G (λb=>b=env.locals\/bv sc env b) (λ_=>False) s s'->Inv G s'->RelM G μ φ pa sc env {st with loc:=bq st.loc x p,own:=b9 st [x]} s'.heap m'->Q () s'):WP G A (pF env x v) Q s:=by
 refine oA (AK hx) λhx yM=>X.aI.store I (tL hx) hv λs' m' a b c d e f=>?_;have P:nE G μ φ sc env (bq (hide st.own st.loc) x p) s s' m m' [x]:=⟨a,b,c,d,λy w hy q=>f y w (by simpa using hy) q⟩;refine h s' m' a b (X.put I P (λy hy=>cW hy▸yM) (λy q hq=>?_) λy hy=>?_)
 ·rw[eQ]at hq
  split at hq
  ·exact aK hq
  ·rename_i hc;rw[fw]at hq⊢
   split
   ·rename_i hyx;rw[aA hyx]at hq;exact hq
   ·rename_i hy;rw[aJ hy]at hq;rw[eQ,aJ]
    ·exact hq
    ·intro w;refine hc ?_;rw[cN]at w⊢;exact jY.mpr ⟨w,by simpa using hy⟩
 ·rw[fw,aJ (by simpa using hy)]
def yi(st:St):Prop :=∀x∈st.own,∀fs,st.loc.lookup x≠some (.inst fs)
theorem RelM.store(X:RelM G μ φ pa sc env st s.heap m)(I:Inv G s)(hx:cm sc st x=true)(hv:RelV G (aq s.heap λb=>μ b\/φ b) p v)
  {Q:Unit->ak} (h:∀s' m',aV G (λb=>b=env.locals\/bv sc env b) (λz=>False) s s'->Inv G s'->RelM G μ φ pa sc env {st with loc:=bq st.loc x p,own:=b9 st [x]} s'.heap m'->Q () s'):WP G A (pF env x v) Q s:=
 X.M1 I hx (slot_of hv) h
theorem RelM.Yw(X:RelM G μ (λb=>φ b\/b=C) pa sc env st s.heap m)(I:Inv G s)(hn:yi st)(hC:s.heap.Ns C mC)(aE:aV G (λb=>b=C) (λz=>False) s s')(h1:¬φ C)(hL:φ env.locals)(hc:∀b,bv sc env b->φ b):RelM G μ φ pa sc env st s'.heap m:=by
 have F:=X.aI;have nC:∀b,φ b->b≠C:=λb q w=>h1 (w▸q);have F':=F.step I aE (λb q=>⟨.inr q,λw=>h1 (by rw[<-q,w];exact hL),λw=>h1 (by rw[<-q];exact hc b w)⟩) (λb q=>.inl (.inl q)) hL hc
  (λb q=>aE.there b (F.aW b (.inr (.inl q))) λw=>h1 (w▸q)) (bL.aU (λb q=>F.soft b (.inl q)) aE I (λb q=>F.aW b (.inr (.inl q))) λb q w=>bx w (nC b q))
 have mX:∀{x c v},kc (env.kindOf x)=1->env.cells.lookup x=some c->s.heap.IsCell c v->s'.heap.IsCell c v:=λ{x c v} hk hx su=>by
  have nt:=I.rE su;refine br su λo uH eM=>⟨o,aE.keep _ _ uH nt λq=>?_,eM⟩;rw[F.ok.names]at hk;rcases tW hk with w|w
  ·exact h1 (q▸hc c ⟨x,w,hx⟩)
  ·exact F.lj x c w hx (.inr q)
 have hk:∀x v,bA s.heap env m x v->bA s'.heap env m x v:=λx v h=>by
  rcases h with h|⟨h2,c,h3,h4⟩
  ·exact .inl h
  ·exact .inr ⟨h2,c,h3,mX h2 h3 h4⟩
 have gz:∀x v,bA s'.heap env m x v->bA s.heap env m x v:=λx v h=>h.back F.ok λz z z=>mX;have b8:∀b o,aq s.heap (λb=>μ b\/(φ b\/b=C)) b o->aq s'.heap (λb=>μ b\/φ b) b o:=λb o q=>⟨aE.keep b o q.1 (I.ct q.1 q.2.2) λw=>q.2.1 (.inr (.inr w)),λw=>q.2.1 (w.elim .inl λw=>.inr (.inl w)),q.2.2⟩;refine⟨F',λx hx p hp=>?_,λx hx y hy p q hp hq a e1 e2=>X.inj x hx y hy p q hp hq a (gz _ _ e1) (gz _ _ e2),X.one,λx hx=>hk _ _ (X.pin x hx)⟩;have O:=X.own x hx p hp;induction p using PV.casesOn with
 |list ps=>obtain⟨a,vs,k,e1,e2,e3,e4⟩:=O;have aC:=rA e3 hC;exact⟨a,vs,k,hk _ _ e1,e2.resolve_right aC,aE.keep _ _ e3 (I.ct e3 (.inl (λh=>bS h))) aC,e4.mono b8⟩
 |inst fs=>exact bx hp (hn x hx fs)
 |_=>exact O.elim
theorem R_(aM:ca G n r.E)(uM:wi G n r.E)(R:a_ A n)(I:Inv G s)(X:cw G μ φ pa sc env st s.heap){q:Pos}(hx:cm sc st x=true)(hn:yr e=true)
  (CG:(∃elt gens cs pos,e=.ListComp elt gens cs pos)->yi st) (h0:ci r sc st e=some (p,aE)) {Q:dk->ak}
  (h:KP G μ φ pa sc env {aE with loc:=bq aE.loc x p,own:=b9 aE [x]} .next s Q):WP G A (exec (.Assign [.Name x q] e pos) env) Q s:=by
 have sw:∀{aE:St},aE.pin=st.pin->cm sc aE x=true:=λ{aE} e=>by simpa only[cm,e]using hx
 rcases S7 (env:=env) (x:=x) (p:=q) (line:=pos.line) hn with hs|⟨hs,elt,gens,cs,ahd,rfl⟩
 ·refine z_ (jw aM R I X h0 λv s1 bF g1 I1 h1 X1 r1 nl e1 e2 e3=>?_) hs;refine oE X1 λm1 X1=>X1.store I1 (sw e2) r1 λs2 m2 a b c=>h _ _ bF ((⟨a.mono X1.ia λz q=>q,b,λy q=>.inl q,⟨m2,c⟩,rfl⟩:fL G μ bF bF pa sc env _ .next .next s1 s2).grow g1 h1)
 ·refine eT (exec_Assign_Name_used _ _ _ _ hs) ?_;refine aP (kL (aP ?_));refine oM (vK I X h0) λa9 lm l E=>aP (db (uM _ _ _ _ _ _ _ _ _ _ (some (assign (.Name x q) env)) _ _ (λz s'=>Q .next s') E.ev R I E.rel λa C s1 mC g1 I1 hC fC gB sf rv=>?_) (λz s' hq=>bz (bz hq)) λz z e=>e);have exC:s1.heap.get? C≠none:=by refine j_ gB λo es ep ho z=>?_;rw[ho];simp
  obtain⟨⟨m1,X1⟩,conv⟩:=E.afh s1 (λb=>b=C) g1 I1 (λb w=>by rw[w];exact⟨hC,exC⟩) sf;have no1:yi aE:=λy hy fs w=>CG ⟨_,_,_,_,rfl⟩ y (E.wh y hy) fs (by rw[<-E.loc];exact w);have HI:¬a9 C:=λw=>by
   obtain⟨m0,X0⟩:=X;exact X0.aI.aW C (.inr (E.sub C w)) hC
  refine pw (X1.store I1 (sw E.pins) (conv _ rv) λs2 m2 bw I2 X2=>?_);have G5:=X1.aI.hL.resolve_right λw=>by
   refine oE X λm0 X0=>j_ X0.aI.ns λo es ep ho z=>?_;rw[w,hC]at ho;exact aK<|ho
  have G6:∀b,bv sc env b->a9 b:=λb w=>(X1.ia b (.inr w)).resolve_right λw2=>by refine oE X λm0 X0=>br w λy y1 y2=>?_;obtain⟨c,cv,y3,o,ho,_⟩:=X0.aI.ok.cells y (by refine ao (X0.aI.ok.names ..) ?_;exact pM y1);replace y3:=ao (aT y2) y3;obtain rfl:=av y3;rw[w2,hC]at ho;exact aK<|ho
  have nC:¬(C=env.locals\/bv sc env C):=λw=>w.elim (λw=>HI (w▸G5)) λw=>HI (G6 C w);have wj:s2.heap.Ns C mC:=by have nt:=I1.yu gB;refine j_ gB λo es ep ho r=>⟨o,es,ep,bw.keep _ _ ho nt nC,r⟩
  refine⟨mC,wj,λh' sb=>?_⟩;have kp:∀b o,s2.heap.get? b=some o->¬b=C->h'.get? b=some o:=λb o e n=>(sb.2 b n).trans e;have mh:aV G (λb=>b=C) (λz=>False) s2 {s2 with heap:=h'}:=aV.of_same kp rfl rfl;have I3:Inv G {s2 with heap:=h',toks:=s2.toks}:=I2.aU kp λb w=>X2.aI.soft b (.inr w);have no2:yi {aE with loc:=bq aE.loc x p,own:=b9 aE [x]}:=λy hy fs w=>by
   refine oA (jY.mp hy) λy1 y2=>no1 y y1 fs ?_;have w:=w
   rwa [fw,aJ (by simpa using y2)]at w
  have X3:=X2.Yw I2 no2 wj mh HI G5 G6;have s12:=g1.aU.trans (bw.mono (λb w=>E.sub b (w.elim (λw=>w▸G5) (G6 b))) λz q=>q);exact h .next _ a9 ⟨s12.comp mh λb w=>.inr (w▸hC),I3,λb w=>.inl (E.sub b w),⟨m2,X3⟩,rfl⟩
def wk(G:bE)(n:Nat)(f:aH->Loc->Expr->ag):Prop :=
 ∀(A:dQ)(μ:al)(sc:aH)(env:Env)(l:Loc)(e:Expr)(p:PV)(s:aB)(Q:ar->ak),
  f sc l e=some p->vQ e=true->a_ A n->Inv G s->cu G μ sc env l s.heap->
  (∀v s',bc G s s'->Inv G s'->RelV G (aq s'.heap μ) p v->(∀a,v=.ref a->s.heap.get? a=none)->Q v s')->WP G A (bQ e env) Q s
theorem lS(g:bc G s s1)(h:s1.heap.get? a=none):s.heap.get? a=none:=g.Cy h
theorem TT{o:Option Bool}(h:o.getD false=true):o=some true:=by
 cases o with
 |none=>cases h
 |some b=>exact aR some h
theorem aab(aM:ca G n r.E)(h0:iQ r sc l e=some p)(hf:vQ e=true)(R:a_ A n)(I:Inv G s)(X:cu G μ sc env l s.heap)
  (h:∀v s',bc G s s'->Inv G s'->RelV G (aq s'.heap μ) p v->(∀a,v=.ref a->s.heap.get? a=none)->Q v s'):WP G A (bQ e env) Q s:=by
 refine(af8.mp hf).elim (λd=>DD e (rg d) (λes pos h0=>KU aM h0 R I X h) h0) λd=>NH (TT d) (λa op b pos z h0=>?_) aK h0;exact aF h0 λx e1 h0=>aF h0 λy e2 h0=>wpAny_BinOp (aM _ _ _ _ _ _ _ _ _ e1 R I X λv s1 g1 I1 r1=>aM _ _ _ _ _ _ _ _ _ e2 R I1 (X.grow g1 I) λu s2 g2 I2 r2=>
   EQ h0 I2 ((X.aW.uh g1).uh g2) (r1.mono (aq.grow g2 I1)) r2 λv s3 g3 I3 r3 w=>h _ _ ((g1.trans g2).trans g3) I3 r3 λa q=>lS (g1.trans g2) (w a q))
theorem aN.flat:∀{ps:ab}{vs:List ar},ps.all Mine.Internal.flat=true->aN G V ps vs->aN G V' ps vs
 |[],vs,_,h=>h.fW .mkNil
 |p::ps,vs,e,h=>h.fJ λv us h1 h2=>be e λe1 e2=>.mkCons (h1.flat e1) (aN.flat e2 h2)
theorem S8{own:af}(h:∀y,l.lookup y=l'.lookup y)(y):(hide own l).lookup y=(hide own l').lookup y:=by refine ao eQ ?_;rw[eQ,h]
theorem bM.congr(F:bM G μ φ sc env l h m)(e:∀y,l'.lookup y=l.lookup y):bM G μ φ sc env l' h m:=
 ⟨F.ok,F.ck,F.hL,F.own,F.lj,F.hC,F.inj,F.aW,F.soft,F.dM,F.iP,F.cq,F.ns,λx p hp=>F.slots x p (by rw[<-e];exact hp)⟩
theorem RelM.congr(X:RelM G μ φ pa sc env st h m)(e:∀y,nw.lookup y=st.loc.lookup y):RelM G μ φ pa sc env {st with loc:=nw} h m:=
 ⟨X.aI.congr (S8 e),λx hx p hp=>X.own x hx p (by rw[<-e];exact hp),λx hx y hy p q hp hq=>X.inj x hx y hy p q (by rw[<-e];exact hp) (by rw[<-e];exact hq),
  λx hx y hy f f' hp hq=>X.one x hx y hy f f' (by rw[<-e];exact hp) (by rw[<-e];exact hq),X.pin⟩
theorem LW(O:yL G μ φ env h m x p):∃a,bA h env m x (.ref a)/\φ a:=by
 induction p using PV.casesOn with
 |list qs=>obtain⟨a,_,_,e,h,_⟩:=O;exact⟨a,e,h⟩
 |inst fs=>obtain⟨a,_,_,_,e,h,_⟩:=O;exact⟨a,e,h⟩
 |_=>exact O.elim
theorem RelM.add(X:RelM G μ φ pa sc env st s.heap m)(nx:x∉st.own)(O:yL G μ φ env s.heap m x p)(ne:∀y∈st.own,∀q,st.loc.lookup y=some q->∀a,bA s.heap env m x (.ref a)->¬bA s.heap env m y (.ref a))(no:∀fs,p=.inst fs->st.own=[]):
  RelM G μ φ pa sc env {st with loc:=bq st.loc x p,own:=x::st.own} s.heap m:=by
 have lk:∀y∈st.own,(bq st.loc x p).lookup y=st.loc.lookup y:=λy hy=>by refine ao fw ?_;rw[aJ λw:y=x=>nx (w▸hy)]
 have ls:(bq st.loc x p).lookup x=some p:=by refine ao fw ?_;rw[aA rfl]
 refine⟨X.aI.sub λy q hq=>?_,λy hy q hq=>?_,λy hy z hz py pz ig kz b h1 h2=>?_,λy hy z hz fs jm ig kz=>?_,X.pin⟩
 ·rw[eQ]at hq⊢;refine dU hq (λv e=>aK e) λhc hq=>?_;rw[cN,cc,not_or]at hc;replace hq:=ao (aT fw) hq;rw[aJ hc.1]at hq;refine ao (aJ λw=>hc.2 (cN.mp w)) ?_;exact hq
 ·rcases cc.mp hy with w|hy
  ·rw[w]at hq⊢;exact av (ls.symm.trans hq)▸O
  ·exact X.own y hy q ((lk y hy).symm.trans hq)
 ·rcases cc.mp hy with w|hy<;>rcases cc.mp hz with w2|hz
  ·refine ao w ?_;rw[w2]
  ·exact bx h2 (ne z hz pz ((lk z hz).symm.trans kz) b (w▸h1))
  ·exact bx h1 (ne y hy py ((lk y hy).symm.trans ig) b (w2▸h2))
  ·exact X.inj y hy z hz py pz ((lk y hy).symm.trans ig) ((lk z hz).symm.trans kz) b h1 h2
 ·rcases cc.mp hy with w|hy<;>rcases cc.mp hz with w2|hz
  ·refine ao w ?_;rw[w2]
  ·rw[w]at ig;rw[no fs (av (ls.symm.trans ig))]at hz;exact nomatch hz
  ·rw[w2]at kz;rw[no jm (av (ls.symm.trans kz))]at hy;exact nomatch hy
  ·exact X.one y hy z hz fs jm ((lk y hy).symm.trans ig) ((lk z hz).symm.trans kz)
theorem TU:(hide (b9 st [x]) (hide [x] st.loc)).lookup y=(hide (x::st.own) st.loc).lookup y:=by
 refine ao eQ ?_;rw[eQ,eQ];by_cases w:y=x
 ·rw[aA (show Jy [x] y=true from cN.mpr (w▸ch)),aA (show(x::st.own).contains y=true from cN.mpr (w▸ch))]
  split <;>rfl
 ·rw[aJ (show¬Jy [x] y=true from λq=>w (cW (cN.mp q)))];by_cases hy:y∈st.own
  ·refine ao (aA (cN.mpr (jY.mpr ⟨hy,λq=>w (cW q)⟩))) ?_;rw[aA (cN.mpr (cf _ hy))]
  ·refine ao (aJ λq=>hy (jY.mp (cN.mp q)).1) ?_;rw[aJ λq=>(cc.mp (cN.mp q)).elim w hy]
theorem RelM.K5{m1:am}(X1:RelM G μ φ pa sc env st s1.heap m1)(I1:Inv G s1)(hx:cm sc st x=true)(HJ:∀y∈st.own,y≠x->∀q,st.loc.lookup y=some q->¬bA s1.heap env m1 y (.ref a))(no:∀fs,p=.inst fs->b9 st [x]=[])
  (O:∀s2 m2,aV G (λb=>b=env.locals\/bv sc env b) (λz=>False) s1 s2->bA s2.heap env m2 x (.ref a)->yL G μ φ env s2.heap m2 x p) {Q:Unit->ak}
  (h:∀s2 m2,aV G (λb=>b=env.locals\/bv sc env b) (λz=>False) s1 s2->Inv G s2->RelM G μ φ pa sc env {st with loc:=bq st.loc x p,own:=x::b9 st [x]} s2.heap m2->bA s2.heap env m2 x (.ref a)->Q () s2):WP G A (pF env x (.ref a)) Q s1:=by
 refine oA (AK hx) λhm hp=>X1.aI.M0 I1 (tL hm) (l':=hide (x::st.own) st.loc) (λy q hq=>.inr ?_) λs2 m2 bw I2 o7 F2 nP mj=>?_
 ·rw[eQ]at hq⊢;refine dU hq (λz e=>aK e) λhc hq=>?_;rw[cN,cc,not_or]at hc;exact⟨hc.1,(aJ λw=>hc.2 (cN.mp w)).trans hq⟩
 have X2:=X1.put I1 ⟨bw,I2,o7,F2,λy w hy q=>mj y w (λq=>hy (vj.mpr q)) q⟩ (λy hy=>cW hy▸hp) (λy q hq=>TU▸hq)
  λy hy=>by refine ao eQ ?_;rw[aJ λq=>hy (cN.mp q)]
 have lx:∀y,y≠x->(hide [x] st.loc).lookup y=st.loc.lookup y:=λy hy=>by refine ao eQ ?_;rw[aJ λq=>hy (cW (cN.mp q))]
 refine h s2 m2 bw I2 ((X2.add (λq=>(jY.mp q).2 ch) (O s2 m2 bw nP) (λy hy q hq b hb qC=>?_) no).congr λy=>?_) nP
 ·refine oA (jY.mp hy) λy1 y2=>?_;have y2:y≠x:=λq=>y2 (vj.mpr q);have hq:=(lx y y2).symm.trans hq;refine br (LW (X1.own y y1 q hq)) λc hc z=>?_;have e1:=(mj y _ y2 hc).det (hb.det nP▸qC);exact HJ y y1 y2 q hq (e1▸hc)
 ·refine ao fw ?_;rw[fw];by_cases w:y=x
  ·refine ao (aA w) ?_;rw[aA w]
  ·refine ao (aJ w) ?_;rw[aJ w,lx y w]
theorem RelM.AU{m1:am}{vs:aj}(X1:RelM G μ φ pa sc env st s1.heap m1)(I1:Inv G s1)(hx:cm sc st x=true)(ha:φ a)(ea:s1.heap.get? a=some (bR vs k))(ra:aN G (aq s1.heap λb=>μ b\/φ b) ps vs.toList)
  (HJ:∀y∈st.own,y≠x->∀q,st.loc.lookup y=some q->¬bA s1.heap env m1 y (.ref a)) {Q:Unit->ak}
  (h:∀s2 m2,aV G (λb=>b=env.locals\/bv sc env b) (λz=>False) s1 s2->Inv G s2->RelM G μ φ pa sc env {st with loc:=bq st.loc x (.list ps),own:=x::b9 st [x]} s2.heap m2->bA s2.heap env m2 x (.ref a)->Q () s2):WP G A (pF env x (.ref a)) Q s1:=
 X1.K5 (p:=.list ps) I1 hx HJ (λz q=>nomatch q) (λs2 m2 bw nP=>⟨a,vs,k,nP,ha,bw.keep _ _ ea (I1.ct ea (.inl (by nofun))) λw=>w.elim (rA ea X1.aI.ns) (ry X1.aI.ok ea),
  ra.mono (aq.aU bw I1 λb q=>.inr (X1.ia b q))⟩) h
theorem yw(I:Inv G s)(h:s.heap.get? a=none):G.hb.get? a=none:=by
 cases e:G.hb.get? a with
 |none=>rfl
 |some o=>have :=I.old a o e;replace this:=ao (aT h) this;exact aK this
theorem R7(uN:wk G n r.E)(R:a_ A n)(I:Inv G s)(X:cw G μ φ pa sc env st s.heap){q pos:Pos}(hx:cm sc st x=true)(hf:vQ e=true)
  (h0:r.E sc (hide [] st.loc) e=some (.list ps)) (ml:ps.all Mine.Internal.flat=true) {Q:dk->ak}
  (h:KP G μ φ pa sc env {st with loc:=bq st.loc x (.list ps),own:=x::b9 st [x]} .next s Q):WP G A (exec (.Assign [.Name x q] e pos) env) Q s:=by
 have hs:swapsWith e (some (.Name x q)) pos.line env=pure false:=by induction e using jU<;>first |rfl|exact nomatch hf
 obtain⟨m,X⟩:=X;obtain⟨fe,k1,X2⟩:=X.xW _ (eI _);refine z_ (uN _ _ _ _ _ _ _ _ _ h0 hf R I X2.aI.fo λv s1 g1 I1 r1 ez=>?_) hs;obtain⟨a,vs,k,hv,ea,ra⟩:=r1.list;have fa:=ez a hv;have exa:s1.heap.get? a≠none:=by rw[ea.1];nofun
 have X1:=X.yv (ν:=λb=>b=a) g1 I (λb w=>by rw[w];exact⟨fa,exa⟩) λb w=>by rw[w];exact⟨yw I fa,λo eo=>av (ea.1.symm.trans eo)▸ .inl λvs=>by nofun⟩
 rw[hv];refine X1.AU I1 hx (.inr rfl) ea.1 (aN.flat ml ra) (λy hy z q hq hh=>?_) λs2 m2 bw I2 X2 z=>h .next _ (λb=>φ b\/b=a) ⟨g1.aU.trans (bw.mono X.ia λz q=>q),I2,λb q=>q.elim .inl λq=>.inr (q▸fa),⟨m2,X2⟩,rfl⟩;refine br (LW (X.own y hy q hq)) λb hb pb=>?_;cases(hb.grow g1 I).det hh;exact X.aI.aW _ (.inr pb) fa
theorem Si{a b:Str}(h:([a,b].eraseDups.length !=[a,b].length)=false):[a,b].Nodup:=by
 by_cases e:a=b
 ·subst e;simp [Dt]at h
 ·simp [e]
theorem Sa{a b c:Str}(h:([a,b,c].eraseDups.length !=[a,b,c].length)=false):[a,b,c].Nodup:=by
 by_cases e:b=a
 ·subst e;exfalso;simp [Dt]at h;by_cases e2:c=b
  ·subst e2;simp [RW]at h
  ·have :(c==b)=false:=dq e2;simp [RW,this,Dt]at h
 ·by_cases e2:c=a
  ·subst e2;exfalso;simp [Dt,e]at h
  ·by_cases e3:c=b
   ·subst e3;exfalso;simp [Dt,e]at h
   ·have n1:¬a=b:=λw=>e w.symm;have n2:¬a=c:=λw=>e2 w.symm;have n3:¬b=c:=λw=>e3 w.symm;simp [n1,n2,n3]
theorem TV{f:Expr->Option Str}(hf:∀e x,f e=some x->∃pos,e=.Name x pos):∀{ts:ah},(ts.filterMap f).length=ts.length->namesOf ts=ts.filterMap f:=by
 intro ts;induction ts with
 |nil=>exact λz=>rfl
 |cons t ts ih=>
  intro h;rw[af5]at h⊢;induction e:f t with
  |none=>rw[e]at h;have :=List.length_filterMap_le f ts;simp only[ff]at h;lia
  |some x=>rw[e]at h;refine oE (hf t x e) λpos bb=>?_;subst bb;simp only[ff,Nat.add_right_cancel_iff]at h;refine ao (Aw (x:=x) rfl) ?_;rw[ih h]
theorem abW{l:af}{P:af->Prop}(h:l.length=1)(k:∀a,P [a]):P l:=by
 induction l with
 |nil=>cases h
 |cons a l=>rw[IK.mp (mM h)];exact k a
theorem OX{l:af}{P:af->Prop}(h:l.length=2)(k:∀a b,P [a,b]):P l:=by
 induction l with
 |nil=>cases h
 |cons a l=>exact abW (P:=λl=>P (a::l)) (mM h) (k a)
theorem abX{l:af}{P:af->Prop}(h:l.length=3)(k:∀a b c,P [a,b,c]):P l:=by
 induction l with
 |nil=>cases h
 |cons a l=>exact OX (P:=λl=>P (a::l)) (mM h) (k a)
theorem swO{P:α->Prop}{c1 c2 c3 c4 c5:Bool}{N X Y:α}(hN:P N)(h5:(c4|| !c5)=true)(hY:c1=false->c3=false->P Y):P (if c1=true then N else if c2=true then N else if c3=true then N else if c4=true then N else if c5=true then X else Y):=by
 cases c1 with
 |true=>exact hN
 |false=>cases c2 with
  |true=>exact hN
  |false=>cases c3 with
   |true=>exact hN
   |false=>cases c4 with
    |true=>exact hN
    |false=>cases c5 with
     |true=>cases h5
     |false=>exact hY rfl rfl
def PA(ts:ah)(t:Sem (Option af)):Prop :=t=pure none\/∃names:af,t=pure (some names)/\namesOf ts=names/\names.length=ts.length/\names.Nodup
theorem Sv{p:Pos}{value:Expr}(h:Bs value=true):PA ts (swappedStores [.Tuple ts k p] value env):=by
 have hN:PA ts (pure none):=.inl rfl;induction value using jU with
 |Tuple vs k2 p2=>
  refine swO hN (show(vs.all (foldedForSure 8)|| !vs.all (constantsAlone 8))=true from h) λc1 c3=>?_
  ·refine .inr ⟨_,rfl,?_⟩;replace c1:=(Dl.mp (Dl.mp c1).1).1;have PB:=(Dl.mp c3).2;replace c3:=(Dl.mp c3).1;have len:=bne_eq_false_iff_eq.mp c3;refine⟨TV (λe x q=>?_) len,len,?_⟩
   ·induction e using jU with
    |Name id pos=>exact aZ q λz q=>av q▸⟨_,rfl⟩
    |_=>exact aK q
   ·have l23:ts.length=2\/ts.length=3:=by
     rcases lM (ts.length=2)with w|w
     ·exact .inl w
     ·exact .inr ((by simpa using c1:¬ts.length=2->ts.length=3) w)
    exact l23.elim (λw=>OX (P:=λnames=>(names.eraseDups.length != names.length)=false->names.Nodup) (len.trans w) (λz z=>Si) PB) λw=>abX (P:=λnames=>(names.eraseDups.length != names.length)=false->names.Nodup) (len.trans w) (λz z z=>Sa) PB
 |_=>exact hN
def wm(l:Loc)(ns:af)(ps:ab):Loc:=(ns.zip ps).foldl (λl q=>bq l q.1 q.2) l
theorem S9(e:mR ts ps l=some l'):l'=wm l (namesOf ts) ps/\(namesOf ts).length=ps.length:=by
 induction ts generalizing ps l with
 |nil=>exact aZ e λh e=>dd h▸⟨(av e).symm,rfl⟩
 |cons t ts ih=>refine aF e λx hx e1=>aF e1 λq hq e2=>?_;rw[gZ hq,Aw hx];exact⟨(ih e2).1,aR (· +1) (ih e2).2⟩
theorem xI(h:ns.length=ps.length)(hd:ns.Nodup):(wm l ns ps).lookup y=(match(ns.zip ps).lookup y with |some p=>some p|none=>l.lookup y):=by
 induction ns generalizing ps l with
 |nil=>exact rfl
 |cons n ns ih=>
  induction ps with
  |nil=>cases h
  |cons p ps _=>
   have hd:=tn.mp hd;show(wm (bq l n p) ns ps).lookup y=(match((n,p)::ns.zip ps).lookup y with |some p=>some p|none=>l.lookup y);refine ao (ih (mM h) hd.2) ?_;rw[dp];by_cases hy:y=n
   ·subst hy;have :(ns.zip ps).lookup y=none:=Av λq=>hd.1 (by
     refine br (eH.mp q) λbb h1 HK=>?_;obtain⟨a,b⟩:=bb;subst HK;exact(List.of_mem_zip h1).1)
    rw[this];simp [fw]
   ·rw[dq hy];cases(ns.zip ps).lookup y with
    |none=>simp [fw,hy]
    |some q=>rfl
theorem Ks{l:List α}(h:l.Nodup):l.reverse.Nodup:=List.pairwise_reverse.mpr (List.Pairwise.imp (λw=>lP w) h)
theorem U'(h:ns.length=ps.length)(hd:ns.Nodup):(wm l ns.reverse ps.reverse).lookup y=(wm l ns ps).lookup y:=by
 have keys:∀{a:af}{b:ab},a.length=b.length->(a.zip b).map (·.1)=a:=λe=>xi (by lia);refine ao (xI (by simp [h]) (Ks hd) ..) ?_;rw[xI h hd,show ns.reverse.zip ps.reverse=(ns.zip ps).reverse from(List.reverse_zipWith (f:=Prod.mk) h).symm];have e:((ns.zip ps).reverse).lookup y=(ns.zip ps).lookup y:=by
  have nd:((ns.zip ps).map (·.1)).Nodup:=by rw[keys h];exact hd
  cases q:(ns.zip ps).lookup y with
  |some p=>exact rz (by rw[RA];exact Ks nd) (z'.mpr (lL q))
  |none=>
   cases q2:((ns.zip ps).reverse).lookup y with
   |none=>rfl
   |some p=>replace q:=ao (aT (rz nd (z'.mp (lL q2)))) q;exact nomatch q
 rw[e]
theorem bM.row:∀{ns:af}{ps:ab}{vs:List ar}{l:Loc}{s:aB}{m:am},bM G μ φ sc env l s.heap m->Inv G s->ns.all (gf sc)=true->ns.length=ps.length->aN G (aq s.heap λb=>μ b\/φ b) ps vs->
  ∀{Q:Unit->ak},(∀s' m',nE G μ φ sc env (wm l ns ps) s s' m m' ns->Q () s')->WP G A (Am (ns.map λx=>bindName env x) vs) Q s:=by
 intro ns;induction ns with
 |nil=>intro ps vs l s m F I _ e r Q h;obtain rfl:=IK.mp e.symm;exact r.fW (P:=λvs=>WP G A (Am (([]:af).map λx=>bindName env x) vs) Q s) (bz (h s m ⟨.refl,I,λb q=>F.aW b (.inr (F.lZ b q)),F,λz z z q=>q⟩))
 |cons x ns ih=>
  intro ps vs l s m F I hn e r Q h;induction ps with
  |nil=>cases e
  |cons p ps _=>refine be (a:=gf sc x) hn λn1 n2=>r.fJ (P:=λvs=>WP G A (Am ((x::ns).map λx=>bindName env x) vs) Q s) λv vs r1 r2=>aP (iL (wpAny_bindName (F.store I (tL n1) (slot_of r1) λs1 m1 a b c d e' f=>?_)));have P1:nE G μ φ sc env (bq l x p) s s1 m m1 [x]:=⟨a,b,c,d,λy w hy q=>f y w (λq=>hy (vj.mpr q)) q⟩;exact ih P1.aI P1.inv n2 (mM e) (r2.mono (aq.aU P1.aU I λb q=>.inr (F.lZ b q))) λs2 m2 P2=>h s2 m2 (P1.trans P2)
theorem R8(aM:ca G n r.E)(R:a_ A n)(I:Inv G s)(X:cw G μ φ pa sc env st s.heap){pos:Pos}(ht:(namesOf ts).all (cm sc st)=true)(zd:Bs e=true)
  (h0:ci r sc st e=some (p,aE)) (hb:fz (.Tuple ts k p0) aE.loc p=some nw) {Q:dk->ak}
  (h:KP G μ φ pa sc env {aE with loc:=nw,own:=b9 aE (namesOf ts)} .next s Q):WP G A (exec (.Assign [.Tuple ts k p0] e pos) env) Q s:=by
 have hs:swapsWithSole [.Tuple ts k p0] e pos.line env=pure false:=by induction e using jU<;>rfl
 have PC:aE.pin=st.pin->(namesOf ts).all (cm sc aE)=true:=λe=>by rw[show cm sc aE=cm sc st from funext λx=>by simp only[cm,e]];exact ht
 rcases Sv (env:=env) (ts:=ts) (k:=k) (p:=p0) zd with hw|⟨names,hw,e1,e2,e3⟩
 ·refine Assign_Tuple (jw aM R I X h0 λv s1 bF g1 I1 h1 X1 r1 nl q1 q2 q3=>?_) hs hw;refine oE X1 λm1 X1=>X1.assign (t:=.Tuple ts k p0) I1 R.hh (PC q2) hb r1 λs2 m2 a b c=>h _ _ bF ((⟨a,b,λy q=>.inl q,⟨m2,c⟩,rfl⟩:fL G μ bF bF pa sc env _ .next .next s1 s2).grow g1 h1)
 ·refine Assign_Tuple_swapped (jw aM R I X h0 λv s1 bF g1 I1 h1 X1 r1 nl q1 q2 q3=>?_) hs hw;refine oE X1 λm1 X1=>aF hb λps hp hb=>?_;rw[KO hp]at r1;refine oA (S9 hb) λHL qC=>?_;have wF:=PC q2;rw[e1]at HL qC wF h;refine r1.kh (P:=λv=>WP G A (unpackItems v names.length none) _ s1) λa o vs k' v1 v2 v3 v4=>?_;rw[qC.trans (v4.length.trans pu)];have ok:∀x∈names.reverse,gf sc x=true/\x∉aE.pin:=λx hx=>AK (cF.mp wF x (z'.mp hx));refine unpackItems_tuple R.hh ⟨_,v1.1,v2,_,v3⟩ λh' hx=>?_;have kk:∀b o,s1.heap.get? b=some o->h'.get? b=some o:=λb o e=>hx b o (eO (fQ e)) e;have g2:bc G s1 {s1 with heap:=h'}:=.of (tk:=s1.toks) kk;have I2:Inv G {s1 with heap:=h',toks:=s1.toks}:=I1.of kk;have X2:=X1.grow g2 I1;refine bM.row X2.aI I2 (cF.mpr λx hx=>(ok x hx).1) (by simp [qC]) (v4.mono (aq.keeps kk)).reverse λs3 m3 P3=>?_;have X3:=X2.put (ns:=names.reverse) (nw:=nw) I2 P3 (λx hx=>(ok x hx).2) (λy q hq=>?_) λy hy=>?_
  ·have ow:b9 aE names.reverse=b9 aE names:=by unfold b9;congr 1;funext y;rw[List.contains_reverse]
   rw[ow]at X3;exact h _ _ bF ((⟨(P3.aU.mono X1.ia λz q=>q),P3.inv,λy q=>.inl q,⟨m3,X3⟩,rfl⟩:fL G μ bF bF pa sc env _ .next .next {s1 with heap:=h'} s3).after (φ:=bF) g2.aU (λz q=>.inl q)|>.grow g1 h1)
  ·replace hq:=ao (aT eQ) hq;refine dU hq (λz e=>aK e) λhc hq=>ao (U' qC e3) ?_;rw[xI qC e3];rw[HL,xI qC e3]at hq;cases w:(names.zip ps).lookup y with
   |some q'=>rw[w]at hq;exact hq
   |none=>
    rw[w]at hq;show(hide aE.own aE.loc).lookup y=some q;refine ao eQ ?_;rw[aJ λw2=>hc (cN.mpr (jY.mpr ⟨cN.mp w2,λhy=>?_⟩))]
    ·exact hq
    ·have nm:(names.zip ps).map (·.1)=names:=xi (by lia);have :y∈(names.zip ps).map (·.1):=nm.symm▸z'.mp hy;refine br (eH.mp this) λbb w3 HK=>?_;obtain⟨a1,b1⟩:=bb;subst HK;replace w:=ao (aT (rz (nm.symm▸e3) w3)) w;exact nomatch w
  ·rw[HL,xI qC e3,Av λq=>hy (z'.mpr (by rw[xi (by lia)]at q;exact q))]
theorem Va{op:ja}{u v:Int}{t1 t2:Tok}{q:PV}(ho:FX op=true)(e:bj op (.int u) (.int v)=some q)
  (h:∀w tk,(∀V,RelV G V q w)->Q w {s with toks:=tk}):WP G A (inplaceOp op (.int u t1) (.int v t2)) Q s:=by
 induction op with
 |Add=>exact PySem.P.iadd_int (h _ _ λV=>av e▸ .mkInt _ _ _)
 |Sub=>exact PySem.P.isub_int (h _ _ λV=>av e▸ .mkInt _ _ _)
 |LShift=>refine aZ (show cQ .LShift u v=some q from e) λhs e=>gg hs λh1 h2 h3=>?_;have h1:=Ew h1;have h3:=bu h3;have hb:lG u<=64:=intBits_le_64 (by omega) (by omega);exact ahT (bu h2) (bits_add_le h1 h3) (h _ _ λV=>av e▸ .mkInt _ _ _)
 |RShift=>exact aZ (show cQ .RShift u v=some q from e) λhs e=>ahR (bu hs) (h _ _ λV=>av e▸ .mkInt _ _ _)
 |_=>exact bx ho (by decide)
theorem Sj(aM:ca G n r.E)(R:a_ A n)(I:Inv G s)(X:cw G μ φ pa sc env st s.heap){op:ja}{p0 pos:Pos}{u v:Int}{q:PV}(hl:st.loc.lookup x=some (.int u))(h0:ci r sc st e=some (.int v,aE))
  (hc:cm sc aE x=true) (ho:FX op=true) (hn:aE.own.contains x=false) (hb:bj op (.int u) (.int v)=some q) {Q:dk->ak}
  (h:KP G μ φ pa sc env {aE with loc:=bq aE.loc x q} .next s Q):WP G A (exec (.AugAssign (.Name x p0) op e pos) env) Q s:=by
 obtain⟨m,X⟩:=X;have hx:(hide st.own st.loc).lookup x=some (.int u):=by
  refine ao (eQ ..) ?_;rw[aJ]
  ·exact hl
  ·intro w;exact(X.own x (cN.mp w) _ hl).elim
 obtain⟨w,h1,h2⟩:=X.aI.slots x _ hx;obtain⟨t,rfl⟩:=(h2.rel rfl).int;have hcm:gf sc x=true:=by simp only[cm,lI]at hc;exact hc.1
 have hk:kc (sc.names.lookup x)≠3:=by rcases tL hcm with w|w<;>rw[w]<;>simp [kc]
 refine wpAny_AugAssign_Name (Au X.aI.ok X.aI.ns h1 ?_ (vW X.aI.ok hk).2);refine jw aM R I ⟨m,X⟩ h0 λw s1 bF g1 I1 k1 X1 r1 nl q1 q2 q3=>?_;obtain⟨t2,rfl⟩:=r1.int;refine Va ho hb λw tk hw=>?_;have X2:=X1.grow (.tok tk) I1;refine oE X2 λm2 X2=>X2.store (I1.tok tk) hc (hw _) λs3 m3 a b c=>?_;have :b9 aE [x]=aE.own:=by unfold b9;rw[IW];intro y hy;simp only[agd,agk,Jz,vo,beq_eq_false_iff_ne,ne_eq];intro w;have PD:=cN.mpr hy;rw[w,hn]at PD;exact xm<|PD
 rw[this]at c;exact h _ _ bF ((⟨a.mono X2.ia λz q=>q,b,λy q=>.inl q,⟨m3,c⟩,rfl⟩:fL G μ bF bF pa sc env _ .next .next {s1 with toks:=tk} s3).after (bc.tok tk).aU (λz q=>.inl q)|>.grow g1 k1)
theorem aac{x y z:Str}:b9 {st with loc:=l,own:=b9 {st with loc:=l',own:=b9 st [x]} [y]} [z]=b9 st [x,y,z]:=by simp only[b9,List.filter_filter];congr 1;funext w;simp only[agd,agk,Jz];cases(w==x)<;>cases(w==y)<;>cases(w==z)<;>rfl
theorem R9(aM:ca G n r.E)(R:a_ A n)(I:Inv G s)(X:cw G μ φ pa sc env st s.heap){z:Str}{p1 p2 p3 pos:Pos}(hx:cm sc st x=true)(hy:cm sc st y=true)(hz:cm sc st z=true)
  (h0:ci r sc st e=some (p,aE)) (hf:flat p=true) {Q:dk->ak}
  (h:KP G μ φ pa sc env {aE with loc:=bq (bq (bq aE.loc x p) y p) z p,own:=b9 aE [x,y,z]} .next s Q):WP G A (exec (.Assign [.Name x p1,.Name y p2,.Name z p3] e pos) env) Q s:=by
 have cp:∀{bw:St}{w:Str},bw.pin=st.pin->cm sc st w=true->cm sc bw w=true:=λ{bw w} e hw=>by simpa only[cm,e]using hw
 refine wpAny_Assign_three (jw aM R I X h0 λv s1 bF g1 I1 k1 X1 r1 nl q1 q2 q3=>?_) rfl (by induction e using jU<;>rfl);refine oE X1 λm1 X1=>pw (X1.store I1 (cp q2 hx) r1 λs2 m2 a2 b2 c2=>?_);refine pw (c2.store b2 (cp q2 hy) (r1.flat hf) λs3 m3 a3 b3 c3=>?_);refine pw (c3.store b3 (cp q2 hz) (r1.flat hf) λs4 m4 a4 b4 c4=>?_);have e3:b9 {aE with loc:=bq (bq aE.loc x p) y p,own:=b9 {aE with loc:=bq aE.loc x p,own:=b9 aE [x]} [y]} [z]=b9 aE [x,y,z]:=aac;have c4:RelM G μ bF pa sc env {aE with loc:=bq (bq (bq aE.loc x p) y p) z p,own:=b9 aE [x,y,z]} s4.heap m4:=by rw[<-e3];exact c4
 have up:=λb (w:b=env.locals\/bv sc env b)=>X1.ia b w;exact h _ _ bF ((⟨((a2.mono up λu q=>q).trans (a3.mono up λu q=>q)).trans (a4.mono up λu q=>q),b4,λy q=>.inl q,⟨m4,c4⟩,rfl⟩:fL G μ bF bF pa sc env _ .next .next s1 s4).grow g1 k1)
theorem Ey:hide [] l=l:=by simp [hide]
theorem Kt(I:Inv G s){vs:aj}(f:s.heap.get? a=none)(e:h.get? a=some (bR vs k)):G.hb.get? a=none/\∀o,h.get? a=some o->iw o:=by
 refine⟨?_,λo eo=>?_⟩
 ·cases q:G.hb.get? a with
  |none=>rfl
  |some o=>have :=I.old a o q;rw[f]at this;exact aK this
 ·rw[e]at eo;obtain rfl:=av eo;exact .inl λvs=>by nofun
theorem Fx(I:Inv G s)(h:∀a s1,bc G s s1->Inv G s1->s1.heap.get? a=some (bR #[] 0)->s.heap.get? a=none->Q (.ref a) s1):WP G A (bQ (.List [] q) env) Q s:=
 wpAny_List (og ⟨du _,h _ _ (.of bU) (I.of bU) (eF _ rfl) (yb _)⟩)
theorem Sb(aM:ca G n r.E)(R:a_ A n)(I:Inv G s)(X:cw G μ φ pa sc env st s.heap){a b c d:Str}{PE PF PG PH q1 q2 q3 qt pt pos:Pos}{k kt:Nat}{v:PV}(ho:st.own=[])
  (ha:cm sc st a=true) (hb:cm sc st b=true) (hc:cm sc st c=true) (hd:cm sc st d=true) (gB:notStar e=true) (nd:[a,b,c,d].Nodup) (h0:r.E sc st.loc e=some v) (eU:dS v=true) {Q:dk->ak}
  (h:KP G μ φ pa sc env {st with loc:=bq (bq (bq (bq st.loc a (.list [])) b (.list [])) c (.list [])) d v,own:=[b,a]} .next s Q):
  WP G A (exec (.Assign [.Tuple [.Name a PE,.Name b PF,.Name c PG,.Name d PH] k pt] (.Tuple [.List [] q1,.List [] q2,.List [] q3,e] kt qt) pos) env) Q s:=by
 obtain⟨m,X⟩:=X;refine Assign_Tuple (wpAny_Tuple ?_) rfl rfl;refine iK (Fx I λa1 s1 g1 I1 e1 f1=>?_) rfl;refine iK (Fx I1 λa2 s2 g2 I2 e2 f2=>?_) rfl;refine iK (Fx I2 λa3 s3 g3 I3 e3 f3=>?_) rfl;have CH:=lS g1 f2;have PI:=lS (g1.trans g2) f3;have HM:a1≠a2:=λw=>by rw[w,f2]at e1;exact aK e1
 have n13:a1≠a3:=λw=>by have :=g2.keep _ _ e1 (I1.ct e1 (.inl (λh=>bS h)));rw[w,f3]at this;exact aK this
 have n23:a2≠a3:=λw=>by rw[w,f3]at e2;exact aK e2
 have ky:=(g2.trans g3).keep _ _ e1 (I1.ct e1 (.inl (λh=>bS h)));have nI:=g3.keep _ _ e2 (I2.ct e2 (.inl (λh=>bS h)));have X3:=X.yv (ν:=λy=>y=a1\/y=a2) (g1.trans (g2.trans g3)) I (λy w=>w.elim (λw=>by rw[w];exact⟨f1,by rw[ky];simp⟩) λw=>by rw[w];exact⟨CH,by rw[nI];simp⟩)
  (λy w=>w.elim (λw=>by rw[w];exact Kt I f1 ky) λw=>by rw[w];exact Kt I CH nI)
 have hl:hide st.own st.loc=st.loc:=by rw[ho];exact Ey
 refine iK (aM _ _ _ _ _ _ _ _ _ (by rw[hl];exact h0) R I3 X3.aI.fo λw s4 g4 I4 r4=>?_) (g_ gB);refine og ?_;have X4:=X3.grow g4 I3;have r4':=X4.aI.y_ eU r4;have k4:∀{y},s3.heap.get? y=some (bR #[] 0)->s4.heap.get? y=some (bR #[] 0):=λe=>g4.keep _ _ e (I3.ct e (.inl (λh=>bS h)));have ea1:=k4 ky;have CI:=k4 nI;have HN:=k4 e3;have na3:¬(μ a3\/(φ a3\/(a3=a1\/a3=a2))):=λw=>by
  rcases w with w|w|w|w
  ·exact X.aI.aW a3 (.inl w) PI
  ·exact X.aI.aW a3 (.inr w) PI
  ·exact n13 w.symm
  ·exact n23 w.symm
 refine⟨by simp [lN],?_⟩;have IT:IsTup (s4.heap.push {cls:=.type "tuple",data:=.seq [tC a1,.ref a2,.ref a3,w].toArray}) s4.heap.objs.size [tC a1,.ref a2,.ref a3,w].toArray:=⟨_,eF _ rfl,rfl,_,rfl⟩;refine assign_Tuple_tuple (s:={s4 with heap:=s4.heap.push {cls:=.type "tuple",data:=.seq [tC a1,.ref a2,.ref a3,w].toArray}}) R.hh IT rfl rfl λh' hx=>?_;have kk:∀y o,s4.heap.get? y=some o->h'.get? y=some o:=λy o e=>hx y o (eO (fQ (bU y o e))) (bU y o e);have g5:bc G s4 {s4 with heap:=h'}:=.of (tk:=s4.toks) kk;have I5:=I4.of (tk:=s4.toks) kk;have X5:=X4.grow g5 I4;have rw5:=r4'.mono (aq.grow g5 I4);have r35:RelV G (aq h' λy=>μ y\/(φ y\/(y=a1\/y=a2))) (.list []) (.ref a3):=by exact⟨a3,#[],0,rfl,⟨kk _ _ HN,na3,.inl (λh=>bS h)⟩,trivial⟩
 have HO:∀{bw:St}{x:Str},bw.pin=st.pin->cm sc st x=true->cm sc bw x=true:=λ{bw x} e hw=>by simpa only[cm,e]using hw
 simp only[tn,cc,gG,or_false,not_or,not_false_eq_true,agI,and_true]at nd;obtain⟨⟨uO,nac,nad⟩,⟨nbc,nbd⟩,ncd⟩:=nd;refine aP (iL (pw (X5.AU (a:=a1) (k:=0) (vs:= #[]) (ps:=[]) I5 ha (.inr (.inl rfl)) (kk _ _ ea1) trivial (λy hy=>by rw[ho]at hy;exact nomatch hy) λs6 m6 t6 I6 X6 h6=>?_)));have d1:a::b9 st [a]=[a]:=by simp [b9,ho]
 rw[d1]at X6;have i6:=X5.ia;have PJ:=aq.aU (μ:=λy=>μ y\/(φ y\/(y=a1\/y=a2))) t6 I5 λy q=>.inr (i6 y q);have abY:∀{y},h'.get? y=some (bR #[] 0)->s6.heap.get? y=some (bR #[] 0):=λe=>t6.keep _ _ e (I5.ct (s:={s4 with heap:=h'}) e (.inl (λh=>bS h))) λq=>q.elim (rA e X5.aI.ns) (ry X5.aI.ok e);refine aP (iL (pw (X6.AU (a:=a2) (k:=0) (vs:= #[]) (ps:=[]) I6 (HO rfl hb) (.inr (.inr rfl)) (abY (kk _ _ CI)) trivial (λy hy hyb q hq hh=>?_) λs7 m7 t7 I7 X7 h7=>?_)))
 ·have :y=a:=by simpa using hy
  subst this;have :=h6.det hh;cases this;exact HM rfl
 have d2:b::b9 {st with loc:=bq st.loc a (.list []),own:=[a]} [b]=[b,a]:=by simp [b9,uO]
 rw[d2]at X7;have PK:=aq.aU (μ:=λy=>μ y\/(φ y\/(y=a1\/y=a2))) t7 I6 λy q=>.inr (i6 y q);refine aP (iL (pw (X7.store I7 (HO rfl hc) ((r35.mono PJ).mono PK) λs8 m8 t8 I8 X8=>?_)));have d3:b9 {st with loc:=bq (bq st.loc a (.list [])) b (.list []),own:=[b,a]} [c]=[b,a]:=by simp [b9,nbc,nac]
 rw[d3]at X8;have s8':=aq.aU (μ:=λy=>μ y\/(φ y\/(y=a1\/y=a2))) t8 I7 λy q=>.inr (i6 y q);refine aP (iL (pw (X8.store I8 (HO rfl hd) (((rw5.mono PJ).mono PK).mono s8') λs9 m9 t9 I9 X9=>?_)));have d4:b9 {st with loc:=bq (bq (bq st.loc a (.list [])) b (.list [])) c (.list []),own:=[b,a]} [d]=[b,a]:=by simp [b9,nbd,nad]
 rw[d4]at X9;have chg:=((t6.trans (t7.trans (t8.trans t9))).mono i6 λz q=>q);have HE:=(g1.trans (g2.trans g3)).trans (g4.trans g5);refine bz (h .next _ (λy=>φ y\/(y=a1\/y=a2)) ⟨aV.after HE chg (λy q=>q.elim .inr λq=>.inl (q.elim (λq=>q▸f1) λq=>q▸CH)) λz q=>q.elim,I9,λy q=>q.elim .inl λq=>.inr (q.elim (λq=>q▸f1) λq=>q▸CH),⟨m9,X9⟩,rfl⟩)
theorem J7(items)(k n)(v):dj (·.setIfInBounds k v) (bR items n)=bR (items.setIfInBounds k v) n:=by simp [dj]
theorem SL{la:aw}{items:aj}{c:Nat}{k:Int}{t:Tok}{Q:Unit->ak}(ho:s.heap.get? la=some (bR items c))(h0:0<=k)(hf:k<2^63)(hk:k.toNat<items.size)
  (hQ:∀h',h'.get? la=some (bR (items.setIfInBounds k.toNat v) c)->xu la s.heap h'->Q () {s with heap:=h'}):WP G A (setItem (.ref la) (.int k t) v) Q s:=by
 have IL:s.heap.IsList la items:=⟨_,ho,rfl,_,rfl⟩;unfold setItem;refine iL (aP (wpAny_sequenceKey IL.typeIs (by decide) ?_));refine aP (zY IL.typeIs slot_list_setitem (xp slot_list_setitem IL.typeIs entry_list_setitem ?_ (args_list_setitem _ _ _)));show bt _ _ (afl (.int k t)>>=_) _ _ s;refine aP (wpAny_listSubscript_int (fitsIndex_of h0 hf) ?_);clear hf;obtain⟨j,rfl⟩:=sX h0;have gz:j<items.size:=hk;refine aP (aP (wpAny_seqItemAt ho rfl (bz ?_)));rw[Array.getElem?_eq_getElem gz];refine aP (wpAny_setSeqItemAt ho rfl ?_);have fin:=hQ (s.heap.update la (dj (·.setIfInBounds j v))) (by refine ao (pq _ ho (by rw[J7];rfl)) ?_;rw[J7];rfl) (pr ..);exact bz ⟨.none,rfl,bz fin⟩
theorem Ns.det(x:h.Ns a m)(y:h.Ns a m'):m=m':=by obtain⟨o,es,ep,h1,h2,_,h4⟩:=x;refine EO y λo' sr ep' k1 k2 z k4=>?_;replace k1:=ao (aT h1) k1;obtain rfl:=av k1;replace k2:=ao (aT h2) k2;cases k2;funext x;refine ao (aT (h4 x)) ?_;rw[<-k4 x]
theorem RelM.LX{fO:ab}{vs mn:aj}{k':Nat}(X:RelM G μ φ pa sc env st s.heap m)(I:Inv G s)(hx:x∈st.own)(hl:st.loc.lookup x=some (.list ps))(hh:bA s.heap env m x (.ref a))(ha:φ a)
  (ea:s.heap.get? a=some (bR vs k)) (bC:aV G (λb=>b=a) (λ_=>False) s s') (sy:s'.heap.get? a=some (bR mn k')) (rl:aN G (aq s'.heap λb=>μ b\/φ b) fO mn.toList):
  RelM G μ φ pa sc env {st with loc:=bq st.loc x (.list fO)} s'.heap m:=by
 have kp:∀b o,s.heap.get? b=some o->NT o->¬b=a->s'.heap.get? b=some o:=λb o e nt n=>bC.keep b o e (I.ct e nt) n;have na:=rA ea X.aI.ns;have nc:=ry X.aI.ok ea;have aW:∀b,φ b->s'.heap.get? b≠none:=λb q=>by
  by_cases q2:b=a
  ·rw[q2,sy];simp
  ·exact bC.there b (X.aI.aW b (.inr q)) q2
 have F':=X.aI.step I bC (λb q=>by rw[q];exact⟨ha,na,nc⟩) (λb q=>.inl q) X.aI.hL (λb q=>X.ia b (.inr q)) aW
  (X.aI.soft.aU bC I (λb q=>X.aI.aW b (.inr q)) λb _ q o eo=>by
   rw[q,sy]at eo;obtain rfl:=av eo;exact .inl λvs=>by nofun)
 have b8:=aq.aU (μ:=λb=>μ b\/φ b) bC I λb q=>by rw[q];exact .inr ha
 have mX:∀{y c v},kc (env.kindOf y)=1->env.cells.lookup y=some c->s.heap.IsCell c v->s'.heap.IsCell c v:=λ{y c v} hk hy hc=>by have nt:=I.rE hc;refine br hc λo ho hd=>⟨o,bC.keep _ _ ho nt (λw=>by rw[w,ea]at ho;obtain rfl:=av ho;cases hd),hd⟩
 have hk:∀y v,bA s.heap env m y v->bA s'.heap env m y v:=λy v h=>by
  rcases h with h|⟨h1,c,h2,h3⟩
  ·exact .inl h
  ·exact .inr ⟨h1,c,h2,mX h1 h2 h3⟩
 have gz:∀y v,bA s'.heap env m y v->bA s.heap env m y v:=λy v h=>h.back X.aI.ok (λ_ _ _=>mX);have lk:∀y,y≠x->(bq st.loc x (.list fO)).lookup y=st.loc.lookup y:=λy hy=>by refine ao fw ?_;rw[aJ hy]
 refine⟨F'.sub λy q hq=>?_,λy hy q hq=>?_,λy hy z hz py pz ig kz b h1 h2=>?_,λy hy z hz fs jm ig kz=>?_,λy hy=>hk _ _ (X.pin y hy)⟩
 ·rw[eQ]at hq⊢
  split at hq
  ·exact aK hq
  ·rename_i hc;refine ao (aJ hc) ?_;replace hq:=ao (aT fw) hq
   split at hq
   ·rename_i w;exact bx (cN.mpr hx) (w▸hc)
   ·exact hq
 ·by_cases w:y=x
  ·subst w;replace hq:=ao (aT fw) hq;rw[aA rfl]at hq;obtain rfl:=av hq;exact⟨a,mn,k',hk _ _ hh,ha,sy,rl⟩
  ·replace hq:=ao (aT (lk y w)) hq;have O:=X.own y hy q hq;induction q using PV.casesOn with
   |list qs=>obtain⟨a2,iB,k2,e1,e2,e3,e4⟩:=O;exact⟨a2,iB,k2,hk _ _ e1,e2,kp _ _ e3 (.inl (λh=>bS h)) λw2=>w (X.inj y hy x hx _ _ hq hl a (w2▸e1) hh),e4.mono b8⟩
   |inst fs=>obtain⟨a2,dx,es,k2,e1,e2,e3,e4,e5,e6,e7⟩:=O;exact⟨a2,dx,es,k2,hk _ _ e1,e2,e3,kp _ _ e4 (.inl (λh=>bS h)) (λw2=>w (X.inj y hy x hx _ _ hq hl a (w2▸e1) hh)),kp _ _ e5 (.inl (by nofun)) (λw2=>by rw[w2,ea]at e5;exact nomatch aR (mO D4) e5),e6.mono b8,e7⟩
   |_=>exact O.elim
 ·have up:∀y q,(bq st.loc x (.list fO)).lookup y=some q->∃q',st.loc.lookup y=some q':=λy q hq=>by
   by_cases w:y=x
   ·subst w;exact⟨_,hl⟩
   ·replace hq:=ao (aT (lk y w)) hq;exact⟨q,hq⟩
  refine oE (up y py ig) λq1 e1=>oE (up z pz kz) λq2 e2=>X.inj y hy z hz q1 q2 e1 e2 b (gz _ _ h1) (gz _ _ h2)
 ·have up:∀y fs,(bq st.loc x (.list fO)).lookup y=some (.inst fs)->st.loc.lookup y=some (.inst fs):=λy fs hq=>by
   by_cases w:y=x
   ·subst w;replace hq:=ao (aT fw) hq;rw[aA rfl]at hq;exact nomatch hq
   ·replace hq:=ao (aT (lk y w)) hq;exact hq
  exact X.one y hy z hz fs jm (up y fs ig) (up z jm kz)
theorem RelM.change{fO:ab}{vs mn:aj}{k':Nat}(X:RelM G μ φ pa sc env st s.heap m)(I:Inv G s)(hx:x∈st.own)(hl:st.loc.lookup x=some (.list ps))(hh:bA s.heap env m x (.ref a))(ha:φ a)
  (ea:s.heap.get? a=some (bR vs k)) (sy:h'.get? a=some (bR mn k')) (sb:xu a s.heap h') (rl:aN G (aq s.heap λb=>μ b\/φ b) fO mn.toList):
  aV G φ (λz=>False) s {s with heap:=h'}/\Inv G {s with heap:=h'}/\RelM G μ φ pa sc env {st with loc:=bq st.loc x (.list fO)} h' m:=by
 have kp:∀b o,s.heap.get? b=some o->¬b=a->h'.get? b=some o:=λb o e n=>(sb.2 b n).trans e;have bC:aV G (λb=>b=a) (λz=>False) s {s with heap:=h'}:=aV.of_same kp rfl rfl;have I':Inv G {s with heap:=h',toks:=s.toks}:=I.aU kp λb q=>by rw[q];exact X.aI.soft a ha
 have b8:=aq.aU (μ:=λb=>μ b\/φ b) bC I λb q=>by rw[q];exact .inr ha
 exact⟨bC.mono (λb q=>by rw[q];exact ha) λz q=>q,I',X.LX (s':={s with heap:=h'}) I hx hl hh ha ea bC sy (rl.mono b8)⟩
theorem RelM.load(X:RelM G μ φ pa sc env st s.heap m)(hh:bA s.heap env m x v)(h:Q v s):WP G A (bQ (.Name x q) env) Q s:=by
 have hk:kc (sc.names.lookup x)≠3:=by
  rw[<-X.aI.ok.names];rcases hh with⟨w,_⟩|⟨w,_⟩
  ·rw[w];simp [kc]
  ·lia
 refine oA (vW X.aI.ok hk) λn1 n2=>wpAny_Name (Au X.aI.ok X.aI.ns hh h n2) (by simpa using n1)
theorem R5(aM:ca G n r.E)(R:a_ A n)(I:Inv G s)(X:cw G μ φ pa sc env st s.heap){i:Expr}{p0 p1 pos:Pos}{v:PV}{k:Int}{vs:ab}(h0:ci r sc st e=some (v,aE))(h1:ci r sc aE i=some (.int k,bw))(hf:flat v=true)
  (hn:bw.own.contains x=true) (hl:bw.loc.lookup x=some (.list vs)) (k0:0<=k) (k1:k.toNat<vs.length) (k2:bJ k=true) {Q:dk->ak}
  (h:KP G μ φ pa sc env {bw with loc:=bq bw.loc x (.list (vs.set k.toNat v))} .next s Q):WP G A (exec (.Assign [.Subscript (.Name x p0) i p1] e pos) env) Q s:=by
 have y9:=bu (show decide (k.natAbs<2^62)=true from k2);refine wpAny_Assign_Subscript (jw aM R I X h0 λw s1 bF g1 I1 iS X1 r1 nl q1 q2 q3=>?_) (by induction e using jU<;>rfl);obtain⟨m1,X1⟩:=X1;have nQ:=cN.mp hn;obtain⟨OY,lm,l2,E⟩:=vK I1 ⟨m1,X1⟩ h1;have sw:=E.wh x nQ;have kA:aE.loc.lookup x=some (.list vs):=by rw[<-E.loc];exact hl
 obtain⟨a,us,c,b1,b2,b3,b4⟩:=X1.own x sw _ kA;refine X1.load b1 ?_;refine jw aM R I1 ⟨m1,X1⟩ h1 λw2 s2 fe g2 I2 Ce X2 r2 nl2 t1 t2 t3=>?_;obtain⟨tk,rfl⟩:∃t,w2=.int _ t:=r2;obtain⟨m2,X2⟩:=X2;have X12:=X1.grow g2 I1;have me:=Ns.det X12.aI.ns X2.aI.ns;subst me;obtain⟨a',dy,c',d1,d2,d3,d4⟩:=X2.own x nQ _ hl;have ae:a'=a:=by have :=d1.det (b1.grow g2 I1);cases this;rfl
 subst ae;have lz:vs.length=dy.size:=by have :=d4.length;simpa using this
 refine SL d3 k0 (by lia) (xf k1 lz) λh' eh sb=>?_;have rl:aN G (aq s2.heap λb=>μ b\/fe b) (vs.set k.toNat v) (dy.setIfInBounds k.toNat w).toList:=by rw[Array.toList_setIfInBounds];exact d4.set _ (r1.flat hf)
 refine c_ (X2.change I2 nQ hl d1 d2 d3 eh sb rl) λz1 z2 z3=>h _ _ fe ((((⟨z1,z2,λy q=>.inl q,⟨m1,z3⟩,rfl⟩:fL G μ fe fe pa sc env _ .next .next s2 _).grow g2 Ce)).grow g1 iS)
theorem xX(ok:lY sc env h):Ar env=false:=by unfold Ar;rw[ok.kind];rfl
theorem S_(aM:ca G n r.E)(R:a_ A n)(I:Inv G s)(X:cw G μ φ pa sc env st s.heap){p0 apos pos:Pos}{v:PV}{vs:ab}(ze:(apos.endLine==fA.line)=true)(gB:notStar e=true)
  (hl:st.loc.lookup x=some (.list vs)) (h0:ci r sc st e=some (v,aE)) (hn:aE.own.contains x=true) (hz:bo vs.length=true) {Q:dk->ak}
  (h:KP G μ φ pa sc env {aE with loc:=bq aE.loc x (.list (vs++[v]))} .next s Q):WP G A (exec (.Expr (.Call (.Attribute (.Name x p0) "append" apos) [e] [] fA) pos) env) Q s:=by
 obtain⟨m,X⟩:=X;have sw:=cN.mp hn;obtain⟨OY,lm,l2,E⟩:=vK I ⟨m,X⟩ h0;have hx:=E.wh x sw;have kA:aE.loc.lookup x=some (.list vs):=by rw[E.loc];exact hl
 obtain⟨a,us,c,b1,b2,b3,b4⟩:=X.own x hx _ hl;refine wpAny_Expr (wpAny_Call_append rfl (by rw[g_ gB];rfl) ze (by rw[g_ gB];rfl) (X.load b1 ⟨a,us,rfl,⟨_,c,b3,rfl,rfl,rfl⟩,jw aM R I ⟨m,X⟩ h0 λw s1 bF g1 I1 iS X1 r1 nl q1 q2 q3=>?_⟩)) (xX X.aI.ok) rfl;obtain⟨m1,X1⟩:=X1;have me:=Ns.det (X.grow g1 I).aI.ns X1.aI.ns;subst me;obtain⟨a',dy,c',d1,d2,d3,d4⟩:=X1.own x sw _ kA;have ae:a'=a:=by have :=d1.det (b1.grow g1 I);cases this;rfl
 subst ae;have lz:vs.length=dy.size:=by have :=d4.length;simpa using this
 refine wpAny_list_append_plain ⟨c',d3⟩ (λh' ⟨k',e'⟩ sb=>?_) (by rw[<-lz];exact ol hz);have rl:aN G (aq s1.heap λb=>μ b\/bF b) (vs++[v]) (dy.push w).toList:=by rw[agf];refine d4.append ?_;exact⟨r1,trivial⟩
 refine c_ (X1.change I1 sw kA d1 d2 d3 e' sb rl) λz1 z2 z3=>h _ _ bF ((⟨z1,z2,λy q=>.inl q,⟨m,z3⟩,rfl⟩:fL G μ bF bF pa sc env _ .next .next s1 _).grow g1 iS)
theorem JR(items)(n):dj (λx=>x.reverse) (bR items n)=bR items.reverse n:=by simp [dj]
theorem S'(f:aj->aj)(items)(n):∃k,dj f (bR items n)=bR (f items) k:=⟨_,rfl⟩
theorem SM(I:Inv G s)(X:cw G μ φ pa sc env st s.heap){p0 apos pos:Pos}{vs:ab}(ze:(apos.endLine==fA.line)=true)(hn:st.own.contains x=true)
  (hl:st.loc.lookup x=some (.list vs)) (hz:bo vs.length=true) {Q:dk->ak}
  (h:KP G μ φ pa sc env {st with loc:=bq st.loc x (.list vs.reverse)} .next s Q):WP G A (exec (.Expr (.Call (.Attribute (.Name x p0) "reverse" apos) [] [] fA) pos) env) Q s:=by
 obtain⟨m,X⟩:=X;have hx:=cN.mp hn;obtain⟨a,us,c,b1,b2,b3,b4⟩:=X.own x hx _ hl;have lz:vs.length=us.size:=by have :=b4.length;simpa using this
 have IL:s.heap.IsList a us:=⟨_,b3,rfl,_,rfl⟩;refine wpAny_Expr (wpAny_Call_method rfl rfl ze afy afr PySem.F.type_list_reverse (X.load b1 ⟨IL.typeIs,λa' e=>by cases e;exact⟨_,b3,rfl⟩,?_⟩)) (xX X.aI.ok) rfl;refine afJ rfl (ahW (call_meets afr IL.typeIs PySem.F.entry_list_reverse (PySem.F.args_list_reverse_1 _) (AutoSeq1.list_reverse_list_0 a us c (by rw[<-lz];exact ol hz)) ⟨b3,?_⟩));have e':(s.heap.update a (dj λx=>x.reverse)).get? a=some (bR us.reverse c):=by refine ao (pq _ b3 (by rw[JR];rfl)) ?_;rw[JR]
 have rl:aN G (aq s.heap λb=>μ b\/φ b) vs.reverse us.reverse.toList:=by rw[Array.toList_reverse];exact b4.reverse
 refine c_ (X.change I hx hl b1 b2 b3 e' (pr ..) rl) λz1 z2 z3=>h _ _ φ ⟨z1,z2,λy q=>.inl q,⟨m,z3⟩,rfl⟩
def wn(k:Int)(w:ar):aj->aj:=λxs=>have k:=if k<0 then(k+(xs.size:Int)).toNat else min k.toNat xs.size;(xs.extract 0 k).push w++xs.extract k
theorem Ta(aM:ca G n r.E)(R:a_ A n)(I:Inv G s)(X:cw G μ φ pa sc env st s.heap){i:Expr}{p0 apos pos:Pos}{v:PV}{vs:ab}{k:Int}(hx:x∈st.own)(ze:(apos.endLine==fA.line)=true)(gB:notStar i=true)(wj:notStar e=true)
  (hl:st.loc.lookup x=some (.list vs)) (h0:ci r sc st i=some (.int k,aE)) (h1:ci r sc aE e=some (v,bw)) (hn:bw.own.contains x=true) (k0:0<=k) (k1:k.toNat<=vs.length) (hz:bo vs.length=true) {Q:dk->ak}
  (h:KP G μ φ pa sc env {bw with loc:=bq bw.loc x (.list (vs.take k.toNat++v::vs.drop k.toNat))} .next s Q):WP G A (exec (.Expr (.Call (.Attribute (.Name x p0) "insert" apos) [i,e] [] fA) pos) env) Q s:=by
 obtain⟨m,X⟩:=X;obtain⟨OY,lm,l2,E⟩:=vK I ⟨m,X⟩ h0;have nQ:=cN.mp hn;have hkz:=bu (show decide (vs.length<=1000000)=true from hz);have abZ:=E.loc;have uu:=E.wh;have key:∀(a:aw),bA s.heap env m x (.ref a)->WP G A (spliced (backTo fA (jX [i,e] env))) (λws s'=>WP G A (call (.builtin "list.insert") (.ref a::ws)) (λv s'=>match v with | .ref _=>False|_=>Q .next s') s') s:=λa b1=>by
  refine iK (jw aM R I ⟨m,X⟩ h0 λw1 s1 bF g1 I1 iS X1 r1 nl q1 q2 q3=>?_) (g_ gB);refine iK (jw aM R I1 X1 h1 λw2 s2 fe g2 I2 Ce X2 r2 nl2 t1 t2 t3=>?_) (g_ wj);refine og ?_;obtain⟨tk,rfl⟩:∃t,w1=.int _ t:=r1;obtain⟨m2,X2⟩:=X2;have me:=Ns.det ((X.grow g1 I).grow g2 I1).aI.ns X2.aI.ns;subst me;have cY:bw.loc.lookup x=some (.list vs):=by rw[t1,abZ];exact hl
  obtain⟨a',dy,c',d1,d2,d3,d4⟩:=X2.own x nQ _ cY;have ae:a'=a:=by have :=d1.det ((b1.grow g1 I).grow g2 I1);cases this;rfl
  subst ae;have lz:vs.length=dy.size:=by have :=d4.length;simpa using this
  have IL:s2.heap.IsList a' dy:=⟨_,d3,rfl,_,rfl⟩;have ab0:De k=true:=by simp only[De,lI,decide_eq_true_eq];lia
  refine call_meets afu IL.typeIs PySem.F.entry_list_insert (PySem.F.args_list_insert_3 _ _ _) (AutoSeq1.list_insert_list_int_val_1 a' dy c' k tk w2 (by rw[ab0];simp) (by rw[<-lz];exact ol hz)) ⟨d3,?_⟩;refine oE (S' (wn k w2) dy c') λk' gz=>?_;have e':(s2.heap.update a' (dj (wn k w2))).get? a'=some (bR (wn k w2 dy) k'):=by refine ao (pq _ d3 (by rw[gz];rfl)) ?_;rw[gz]
  have rl:aN G (aq s2.heap λb=>μ b\/fe b) (vs.take k.toNat++v::vs.drop k.toNat) (wn k w2 dy).toList:=by
   have e9:(wn k w2 dy).toList=dy.toList.take k.toNat++w2::dy.toList.drop k.toNat:=by
    have :¬k<0:=Int.not_lt_of_ge k0;have h2:min k.toNat dy.size=k.toNat:=by lia
    simp [wn,this,h2,xb]
   rw[e9];refine(d4.take _).append ?_;exact⟨r2,d4.drop _⟩
  refine c_ (X2.change I2 nQ cY d1 d2 d3 e' (pr ..) rl) λz1 z2 z3=>h _ _ fe (((⟨z1,z2,λy q=>.inl q,⟨m,z3⟩,rfl⟩:fL G μ fe fe pa sc env _ .next .next s2 _).grow g2 Ce).grow g1 iS)
 obtain⟨a,us,c,b1,b2,b3,b4⟩:=X.own x hx _ hl;have IL:s.heap.IsList a us:=⟨_,b3,rfl,_,rfl⟩;refine wpAny_Expr (wpAny_Call_method rfl (by rw[g_ gB,g_ wj];rfl) ze afy afu PySem.F.type_list_insert (X.load b1 ⟨IL.typeIs,λa' e=>by cases e;exact⟨_,b3,rfl⟩,?_⟩)) (xX X.aI.ok) rfl;have pl:(backTo fA (jX [i,e] env)).any (·.1)=false:=by rw[g_ gB,g_ wj];rfl
 refine afJ pl ?_;have k:=key a b1;rw[g_ gB]at k⊢;exact Calls.evalArgs_plain k
theorem bM.rH(F:bM G μ φ sc env l s.heap m)(I:Inv G s)(a:aV G ψ γ s s')(kx:∀b,ψ b->μ b)(h1:∀b,cS b->μ b\/s.heap.get? b=none)(aW:∀b,cS b->s'.heap.get? b≠none)(hs:bL G s'.heap cS):bM G cS φ sc env l s'.heap m:=by
 have yx:∀b,φ b->¬ψ b:=λb q w=>F.dM b q (kx b w);have b8:∀b o,aq s.heap (λb=>μ b\/φ b) b o->aq s'.heap (λb=>cS b\/φ b) b o:=λb o q=>
  ⟨a.keep b o q.1 (I.ct q.1 q.2.2) λx=>q.2.1 (.inl (kx b x)),λx=>x.elim (λx=>(h1 b x).elim (λx=>q.2.1 (.inl x)) λx=>(by have q1:=q.1;replace q1:=ao (aT x) q1;exact aK q1)) λx=>q.2.1 (.inr x),q.2.2⟩
 have cell:∀{y:Str}{c:aw}{v:ai},kc (sc.names.lookup y)=1->env.cells.lookup y=some c->s.heap.IsCell c v->s'.heap.IsCell c v:=λ{y c v} hk hy hc=>by have nt:=I.rE hc;refine br hc λo ho hd=>⟨o,a.keep _ _ ho nt λq=>F.hC y c hk hy (kx _ q),hd⟩
 have ns:s'.heap.Ns env.locals m:=by have nt:=I.yu F.ns;refine j_ F.ns λo es ep ho r=>⟨o,es,ep,a.keep _ _ ho nt (yx _ F.hL),r⟩
 have aad:∀b,φ b->s'.heap.get? b≠none:=λb q=>a.there b (F.aW b (.inr q)) (yx b q);refine⟨⟨F.ok.uG,F.ok.kind,F.ok.globals,F.ok.builtins,F.ok.names,λy hy=>?_⟩,F.ck,F.hL,F.own,F.lj,λx c h2 h3 q=>?_,F.inj,λb q=>q.elim (aW b) (aad b),F.soft.aU a I (λb q=>F.aW b (.inr q)) (λb q w=>bx w (yx b q)),λb q w=>?_,hs,F.cq,ns,λx p hp=>?_⟩
 ·refine gb (F.ok.cells y hy) λc cv h1 h2=>⟨c,cv,h1,cell (by refine ao (aT (F.ok.names ..)) ?_;exact hy) h1 h2⟩
 ·rcases h1 c q with w|w
  ·exact F.hC x c h2 h3 w
  ·obtain⟨c',cv,h4,o,ho,_⟩:=F.ok.cells x (by refine ao (F.ok.names ..) ?_;exact h2);replace h4:=ao (aT h3) h4;obtain rfl:=av h4;replace ho:=ao (aT w) ho;exact aK<|ho
 ·rcases h1 b w with w|w
  ·exact F.dM b q w
  ·exact F.aW b (.inr q) w
 ·refine br (F.slots x p hp) λv h1 h2=>⟨v,?_,h2.mono b8⟩;rcases h1 with h1|⟨h1,c,h3,h4⟩
  ·exact .inl h1
  ·exact .inr ⟨h1,c,h3,cell (by refine ao (aT (F.ok.names ..)) ?_;exact h1) h3 h4⟩
theorem RelM.rH(X:RelM G μ φ pa sc env st s.heap m)(I:Inv G s)(a:aV G ψ γ s s')(kx:∀b,ψ b->μ b)(h1:∀b,cS b->μ b\/s.heap.get? b=none)(aW:∀b,cS b->s'.heap.get? b≠none)(hs:bL G s'.heap cS):RelM G cS φ pa sc env st s'.heap m:=by
 have F':=X.aI.rH I a kx h1 aW hs;have yx:∀b,φ b->¬ψ b:=λb q w=>X.aI.dM b q (kx b w);have b8:∀b o,aq s.heap (λb=>μ b\/φ b) b o->aq s'.heap (λb=>cS b\/φ b) b o:=λb o q=>
  ⟨a.keep b o q.1 (I.ct q.1 q.2.2) λx=>q.2.1 (.inl (kx b x)),λx=>x.elim (λx=>(h1 b x).elim (λx=>q.2.1 (.inl x)) λx=>(by have q1:=q.1;replace q1:=ao (aT x) q1;exact aK q1)) λx=>q.2.1 (.inr x),q.2.2⟩
 have mX:∀{y c v},kc (env.kindOf y)=1->env.cells.lookup y=some c->s.heap.IsCell c v->s'.heap.IsCell c v:=λ{y c v} hk hy hc=>by have nt:=I.rE hc;refine br hc λo ho hd=>⟨o,a.keep _ _ ho nt λq=>X.aI.hC y c (by refine ao (aT (X.aI.ok.names ..)) ?_;exact hk) hy (kx _ q),hd⟩
 have hk:∀y v,bA s.heap env m y v->bA s'.heap env m y v:=λy v h=>by
  rcases h with h|⟨h1,c,h2,h3⟩
  ·exact .inl h
  ·exact .inr ⟨h1,c,h2,mX h1 h2 h3⟩
 have gz:∀y v,bA s'.heap env m y v->bA s.heap env m y v:=λy v h=>h.back X.aI.ok λz z z=>mX;refine⟨F',λx hx q hq=>?_,λx hx y hy p q hp hq a e1 e2=>X.inj x hx y hy p q hp hq a (gz _ _ e1) (gz _ _ e2),X.one,λx hx=>hk _ _ (X.pin x hx)⟩;have O:=X.own x hx q hq;have kp:∀b o,φ b->s.heap.get? b=some o->NT o->s'.heap.get? b=some o:=λb o q e nt=>a.keep b o e (I.ct e nt) (yx b q);induction q using PV.casesOn with
 |list qs=>obtain⟨a2,iB,k2,e1,e2,e3,e4⟩:=O;exact⟨a2,iB,k2,hk _ _ e1,e2,kp _ _ e2 e3 (.inl (λh=>bS h)),e4.mono b8⟩
 |inst fs=>obtain⟨a2,dx,es,k2,e1,e2,e3,e4,e5,e6,e7⟩:=O;exact⟨a2,dx,es,k2,hk _ _ e1,e2,e3,kp _ _ e2 e4 (.inl (λh=>bS h)),kp _ _ e3 e5 (.inl (by nofun)),e6.mono b8,e7⟩
 |_=>exact O.elim
theorem K6
  (h:bt (bp G.prog G.w) A (iM it) (λr s1=>match r with
   |none=>Rr (.ok .next) s1
   |some v=>bt (bp G.prog G.w) A (Jw t it v) (λz s2=>bt (bp G.prog G.w) A (assign t env v) (λz s3=>bt (bp G.prog G.w) A (execs body env) (λf s4=>match f with
     | .next| .cont=>eV (bp G.prog G.w) A (.forLoop t it body [] env) Rr s4
     | .brk=>Rr (.ok .next) s4
     | .ret v=>Rr (.ok (.ret v)) s4) EE s3) EE s2) EE s1) EE s):eV (bp G.prog G.w) A (.forLoop t it body [] env) Rr s:=by
 refine Jx ?_;show bt _ (A.under _) ((forTurn t it body [] env).onRaise (λx=>do tE x env;Ag x)) _ _ s;rw[show A.under (.forLoop t it body [] env)=A from IM rfl];refine wpAny_noted (By ?_);unfold forTurn;refine aP (kL (aP (wpAny_onRaise (db h (λr s1 h1=>?_) λz z q=>q.elim))));induction r with
 |none=>exact bz ⟨rfl,codeAny_block (wpAny_execs_nil h1)⟩
 |some v=>
  refine aP (db h1 (λz s2 h2=>aP (db h2 (λz s3 h3=>aP (db h3 (λf s4 h4=>?_) λz z q=>q)) λz z q=>q)) λz z q=>q);induction f with
  |next =>exact bz ⟨rfl,h4⟩
  |cont=>exact bz ⟨rfl,h4⟩
  |brk=>exact bz h4
  |ret v=>exact bz h4
section
variable{cU:Nat->Prop}
theorem aV.aae(a:aV G φ γ s s1)(b:aV G bF γ s1 s2)(h:∀x,bF x->φ x\/s.heap.get? x=none):aV G φ γ s s2:=
 ⟨λx o e n m=>b.keep x o (a.keep x o e n m) n λq=>(h x q).elim m λq=>(by replace e:=ao (aT q) e;exact aK e),λx e m=>b.there x (a.there x e m) λq=>(h x q).elim m e,
  λi g e n=>b.gens i g (a.gens i g e n) n,b.os.trans a.os⟩
structure Cf(G:bE)(μ φ own a9:al)(γ:Nat->Prop)(pa:Str->aw)(sc:aH)(env:Env)(aO:St)(fl:bG)(fv:dk)(s s':aB):Prop where
 aU:aV G (λb=>φ b\/own b) γ s s'
 inv:Inv G s'
 sub:∀b,a9 b->φ b\/s.heap.get? b=none
 rel:cw G μ a9 pa sc env aO s'.heap
 nn:N8 G (aq s'.heap λb=>μ b\/a9 b) fl fv
theorem cw.M2(X:cw G (λb=>μ b\/own b) φ pa sc env st s.heap)(I:Inv G s):cw G μ φ pa sc env st s.heap:=by refine oE X λm X=>⟨m,X.rH (ψ:=dv) (γ:=λz=>False) I .refl (λz q=>q.elim) (λb q=>.inl (.inl q)) (λb q=>X.aI.aW b (.inl (.inl q))) λb q=>X.aI.iP b (.inl q)⟩
def o8(G:bE)(A:dQ)(μ:al)(γ:Nat->Prop)(it:ar):ab->al->ak
 |[],own,s=>∀(φ:al)(cU:Nat->Prop)(s':aB),aV G φ cU s s'->(∀b,φ b->μ b/\¬own b)->(∀i,cU i->¬γ i)->Inv G s'->∀(Q:ai->ak),
   (∀aS,aV G own γ s' aS->Inv G aS->Q none aS)->WP G A (iM it) Q s'
 |p::ps,own,s=>∀(φ:al)(cU:Nat->Prop)(s':aB),aV G φ cU s s'->(∀b,φ b->μ b/\¬own b)->(∀i,cU i->¬γ i)->Inv G s'->∀(Q:ai->ak),
   (∀v aS gj,aV G own γ s' aS->Inv G aS->(∀b,own b->gj b)->(∀b,gj b->own b\/s'.heap.get? b=none)->(∀b,gj b->aS.heap.get? b≠none)->bL G aS.heap gj->(∃I,it=.ref I/\mV aS.heap I)->
    RelV G (aq aS.heap λb=>(μ b/\s'.heap.get? b≠none)\/gj b) p v->o8 G A μ γ it ps gj aS->Q (some v) aS)->WP G A (iM it) Q s'
theorem o8.aU:∀{ps:ab},o8 G A μ γ it ps own s->aV G φ cU s s'->(∀b,φ b->μ b/\¬own b)->(∀i,cU i->¬γ i)->o8 G A μ γ it ps own s'
 |[],x,a,h,k=>λψ δ s2 b hb hd I=>x (λb=>φ b\/ψ b) (λi=>cU i\/δ i) s2
   ((a.mono (λz=>.inl) λz=>.inl).trans (b.mono (λz=>.inr) λz=>.inr)) (λb q=>q.elim (h b) (hb b)) (λi q=>q.elim (k i) (hd i)) I
 |p::ps,x,a,h,k=>λψ δ s2 b hb hd I=>x (λb=>φ b\/ψ b) (λi=>cU i\/δ i) s2
   ((a.mono (λz=>.inl) λz=>.inl).trans (b.mono (λz=>.inr) λz=>.inr)) (λb q=>q.elim (h b) (hb b)) (λi q=>q.elim (k i) (hd i)) I
theorem It.toA(hs:∀b,own b->μ b)(R:a_ A 0):∀{ps:ab}{s:aB},It G μ own γ it ps s->o8 G A μ γ it ps own s
 |[],s,x=>λφ cU s' st h k I Q hQ=>(x φ cU s' st h k I A R).2 Q hQ
 |p::ps,s,x=>λφ cU s' st h k I Q hQ=>(x φ cU s' st h k I A R).2 Q λv aS st qD ex sf io rv nG=>hQ v aS own st qD (λz q=>q) (λz q=>.inl q) ex sf io (rv.mono (aq.less λb q=>q.elim (λq=>q.1) (hs b))) (It.toA hs R nG)
theorem EW(cx:gv G n r.B)(R:a_ A n):∀(xs:ab)(st:St)(fl:bG)(aO:St)(φ own:al)(s:aB)(Rr:mQ->ak),
  dT r sc t body xs st=some (fl,aO)->cw G (λb=>μ b\/own b) φ pa sc env st s.heap->Inv G s->o8 G A HP γ it xs own s->(∀b,φ b\/s.heap.get? b=none->HP b/\¬own b)->(∀b,μ b\/own b->HP b)->(∀b,own b->¬μ b)->
  (∀fv s' a9,Cf G μ φ own a9 γ pa sc env aO fl fv s s'->Rr (.ok fv) s')->eV (bp G.prog G.w) A (.forLoop t it body [] env) Rr s:=by
 intro xs;induction xs with
 |nil=>intro st fl aO φ own s Rr e X I T big BO dM h;refine oE X λm X=>K6 (T dv (λz=>False) s .refl (λz q=>q.elim) (λz q=>q.elim) I _ λs1 aE I1=>f9 (P:=λfl aO=>(∀fv s' a9,Cf G μ φ own a9 γ pa sc env aO fl fv s s'->Rr (.ok fv) s')->Rr (.ok .next) s1) e (λh=>h .next s1 φ ⟨aE.mono (λb q=>.inr q) λz q=>q,I1,λb q=>.inl q,⟨m,?_⟩,rfl⟩) h);refine X.rH I aE (λb q=>.inr q) (λb q=>.inl (.inl q)) (λb q=>aE.there b (X.aI.aW b (.inl (.inl q))) λw=>dM b w q) ?_;exact bL.aU (λb q=>X.aI.iP b (.inl q)) aE I (λb q=>X.aI.aW b (.inl (.inl q))) λb q w=>bx q (dM b w)
 |cons x xs ih=>
  intro st fl aO φ own s Rr e X I T big BO dM h;refine aZ e λhp e=>aF e λl1 el e=>aF e λq e3 e=>oE X λm X=>K6 (T dv (λz=>False) s .refl (λz q=>q.elim) (λz q=>q.elim) I _ λv s1 uu aE I1 up1 jC uP sf1 io rv T1=>?_);refine br io λIa hI io=>?_;have old:∀b,μ b->s1.heap.get? b≠none:=λb q=>aE.there b (X.aI.aW b (.inl (.inl q))) λw=>dM b w q;have X1:RelM G (λb=>μ b\/uu b) φ pa sc env st s1.heap m:=by refine X.rH I aE (λb q=>.inr q) (λb q=>q.elim (λq=>.inl (.inl q)) λq=>(jC b q).imp_left .inr) (λb q=>q.elim (old b) (uP b)) λb q=>(lM (uu b)).elim (sf1 b) λw=>bL.aU (λb (q:μ b)=>X.aI.iP b (.inl q)) aE I (λb q=>X.aI.aW b (.inl (.inl q))) (λb q w=>bx q (dM b w)) b (q.resolve_right w)
  have PL:∀b,φ b->s.heap.get? b≠none:=λb q=>X.aI.aW b (.inr q);have rv1:RelV G (aq s1.heap λb=>(μ b\/uu b)\/φ b) x v:=rv.mono (aq.less λb q=>
   q.elim (λq=>q.elim (λq=>.inl ⟨BO b (.inl q),X.aI.aW b (.inl (.inl q))⟩) .inr) λq=>.inl ⟨(big b (.inl q)).1,PL b q⟩)
  rw[hI]at T1 ih⊢;refine KZ io (X1.assign I1 R.hh hp el rv1 λs2 m2 bw I2 X2=>?_);have M3:∀b,s2.heap.get? b=none->φ b\/s.heap.get? b=none:=λb q=>(lM (φ b)).imp_right λw=>II λe=>
   (lM (own b)).elim (λwo=>bw.there b (uP b (up1 b wo)) w q) λwo=>bw.there b (aE.there b e wo) w q
  have yN:∀b,φ b->HP b/\¬uu b:=λb q=>⟨(big b (.inl q)).1,λw=>(jC b w).elim (big b (.inl q)).2 (PL b q)⟩;obtain⟨uL,mh⟩:=q;refine cx _ _ _ _ _ _ _ _ _ _ _ _ e3 R I2 ⟨m2,X2⟩ λHG s3 nO P3=>?_;have F:=P3.nn;have yO:∀b,nO b->φ b\/s.heap.get? b=none:=λb q=>(P3.sub b q).elim .inl (M3 b);have G7:aV G (λb=>φ b\/own b) γ s s3:=((aE.mono (λb q=>.inr q) λz q=>q).trans (bw.mono (λb q=>.inl q) λz q=>q.elim)).trans (P3.aU.mono (λb q=>.inl q) λz q=>q.elim);have oU:∀b,uu b->s2.heap.get? b≠none:=λb w=>bw.there b (uP b w) λq=>(yN b q).2 w;induction uL with
  |next =>
   rw[show HG=.next from F];have N_:∀b,s3.heap.get? b=none->φ b\/s.heap.get? b=none:=λb q=>(lM (φ b)).elim .inl λw=>M3 b (II λe=>P3.aU.there b e w q);refine ih mh fl aO nO uu s3 Rr e P3.rel P3.inv ((T1.aU bw yN λz q=>q.elim).aU P3.aU yN λz q=>q.elim)
    (λb q=>q.elim (λq=>⟨(big b (yO b q)).1,λw=>(P3.sub b q).elim (λq=>(yN b q).2 w) (oU b w)⟩) λq=>⟨(big b (N_ b q)).1,λw=>P3.aU.there b (oU b w) (λq=>(yN b q).2 w) q⟩)
    (λb q=>q.elim (λq=>BO b (.inl q)) λq=>(jC b q).elim (λq=>BO b (.inr q)) λq=>(big b (.inr q)).1)
    (λb q w=>(jC b q).elim (λq=>dM b q w) λq=>X.aI.aW b (.inl (.inl w)) q) λfv4 s4 φ4 D=>h fv4 s4 φ4 ?_
   exact⟨G7.aae D.aU λb q=>q.elim (λq=>(yO b q).imp_left .inl) λq=>(jC b q).imp_left .inr,D.inv,λb q=>(D.sub b q).elim (yO b) (N_ b),D.rel,D.nn⟩
  |brk=>rw[show HG=.brk from F];exact f9 (P:=λfl aO=>(∀fv s' a9,Cf G μ φ own a9 γ pa sc env aO fl fv s s'->Rr (.ok fv) s')->Rr (.ok .next) s3) e (λh=>h .next s3 nO ⟨G7,P3.inv,yO,P3.rel.M2 P3.inv,rfl⟩) h
  |ret q=>refine br F λv3 hf hv3=>?_;rw[hf];exact f9 (P:=λfl aO=>(∀fv s' a9,Cf G μ φ own a9 γ pa sc env aO fl fv s s'->Rr (.ok fv) s')->Rr (.ok (.ret v3)) s3) e (λh=>h (.ret v3) s3 nO ⟨G7,P3.inv,yO,P3.rel.M2 P3.inv,⟨v3,rfl,hv3.mono (aq.less λb q=>q.elim (λq=>.inl (.inl q)) .inr)⟩⟩) h
end
theorem Ez{Q:dk->ak}(hn:j8 e=true)
  (h:WP G A (bQ e env) (λx s1=>WP G A (pyIter x) (λit s2=>eV (bp G.prog G.w) A (.forLoop t it body [] env) (λr s'=>match r with | .ok f=>Q f s'| .error _=>False) s2) s1) s):
  WP G A (exec (.For t e body [] pos) env) Q s:=by
 refine eT (arm_exec_For ..) ?_;refine aP (kL (aP (db h (λx s1 h1=>aP (Aq (AT hn env x) (aP (kL (aP (iL (db h1 (λit s2 h2=>?_) λz z q=>q))))))) λz z q=>q)));refine wpAny_runOwn (codeAny_mono h2 λr s' q=>?_);induction r with
 |ok f=>exact q
 |error x=>exact q.elim
theorem Sk(aM:ca G n r.E)(cx:gv G n r.B)(R:a_ A n)(I:Inv G s)(X:cw G μ φ pa sc env st s.heap)(hn:j8 e=true)
  (h0:ci r sc st e=some (p,aE)) (hi:itemsOf p=some xs) (hg:dT r sc t body xs aE=some (fl,aO)) {Q:dk->ak}
  (h:KP G μ φ pa sc env aO fl s Q):WP G A (exec (.For t e body [] pos) env) Q s:=by
 refine Ez hn (jw aM R I X h0 λv s1 bF g1 I1 iS X1 r1 nl q1 q2 q3=>?_);refine Ex hi I1 r1 λit s2 own g2 I2 uJ fb mW=>oE X1 λm1 X1=>?_;have lZ:∀b,(μ b\/bF b)->¬own b:=λb q w=>X1.aI.aW b q (fb b w).1;have X2:RelM G (λb=>μ b\/own b) bF pa sc env aE s2.heap m1:=by refine X1.rH (ψ:=dv) (γ:=λz=>False) I1 g2.aU (λz q=>q.elim) (λb q=>q.imp_right λw=>(fb b w).1) (λb q=>q.elim (λq=>g2.there b (X1.aI.aW b (.inl q))) λq=>(fb b q).2) ?_;exact λb q=>q.elim (λq=>X1.aI.iP.grow g2 I1 (λb q=>X1.aI.aW b (.inl q)) b q) (mW b)
 refine EW cx R xs aE fl aO bF own s2 _ hg ⟨m1,X2⟩ I2 (uJ.toA (λb q=>.inr (fb b q).1) (R.less (du _))) (λb q=>?_) (λb q=>q.elim (λq=>.inl (.inl q)) λq=>.inr (fb b q).1) (λb q w=>lZ b (.inl w) q) λfv s' a9 D=>h fv s' a9 ?_
 ·refine vx q (λq=>?_) λq=>?_
  ·exact⟨.inl (.inr q),lZ b (.inr q)⟩
  ·exact⟨.inr (lS g2 q),λw=>(fb b w).2 q⟩
 ·refine⟨aV.after (g1.trans g2) D.aU (λb q=>q.elim (λq=>.inr (iS b q)) λq=>.inl (lS g1 (fb b q).1)) (λz q=>q.elim),D.inv,λb q=>(D.sub b q).elim (λq=>.inl (iS b q)) λq=>.inr (lS (g1.trans g2) q),D.rel,D.nn⟩
theorem K7(h:lX sc x e0=some e):∃np pos,e0=.Call (.Name x np) [e] [] pos/\sc.names.lookup x=some .globalImplicit/\notStar e=true:=by
 refine vM h (λf as ks pos h=>?_) aK
 ·refine aF h λy h1 h=>aF h λe' h2 h=>aZ h λhc h=>r7 hc λc1 c2 c3 c4=>oE (xT h1) λnp hf=>?_;have e1:=av h;have e2:=bu c3;rw[hf,fH h2,dd c1,<-e1,<-e2];exact⟨np,pos,rfl,bu c2,c4⟩
theorem TW(ok:lY sc env h)(e:sc.names.lookup x=some .globalImplicit):env.kindOf x=some .globalImplicit:=by exact Bw ((ok.names x).trans (aR kc e))
theorem JS(S:wA G)(I:Inv G s)(ok:lY sc env s.heap)(e:sc.names.lookup x=some .globalImplicit)(hv:G.mg x=some v\/(G.mg x=none/\G.mb x=some v))(h:Q v s):
  WP G A (bQ (.Name x pos) env) Q s:=by
 have hk:=TW ok e;have n1:=(vW ok (by rw[e];decide)).1;have iA:s.heap.Ns env.globals G.mg:=by rw[ok.globals];exact I.mg S
 have HQ:s.heap.Ns env.builtins G.mb:=by rw[ok.builtins];exact I.mb S
 refine Df ok.kind hk ?_ (by simpa using n1);rcases hv with h1|⟨h1,h3⟩
 ·exact afH iA h1 h
 ·exact Di iA h1 HQ h3 h
theorem aN.Vb(h:aN G V ps vs){j:Nat}(e1:ps.reverse[j]? =some p)(e2:vs.reverse[j]? =some v):RelV G V p v:=by refine br (h.reverse.get e1) λv' e3 e4=>?_;replace e3:=ao (aT e2) e3;obtain rfl:=av e3;exact e4
theorem SN(S:bY G)(aM:ca G n r.E)(cx:gv G n r.B)(R:a_ A n)(I:Inv G s)(X:cw G μ φ pa sc env st s.heap){e0:Expr}
  (ha:lX sc "reversed" e0=some e) (h0:ci r sc st e=some (.list xs,aE)) (hg:dT r sc t body xs.reverse aE=some (fl,aO)) {Q:dk->ak}
  (h:KP G μ φ pa sc env aO fl s Q):WP G A (exec (.For t e0 body [] pos) env) Q s:=by
 obtain⟨np,fA,rfl,hk,hs⟩:=K7 ha;have ok:=(let⟨m,X⟩:=X;X.aI.ok);refine Ez rfl (wpAny_Call_NameR (JS S.towA I ok hk (.inr S.rev) ?_));refine afk (iK (jw aM R I X h0 λv s1 bF g1 I1 iS X1 r1 nl q1 q2 q3=>?_) (g_ hs)) (g_ hs);refine og ?_;obtain⟨la,items,k,rfl,hl,rl⟩:=r1.list;refine call_reversed_list ⟨_,hl.1,rfl,k,rfl⟩ ?_;have fC:la≠s1.heap.objs.size:=eO (fQ hl.1);have hit:(s1.heap.push (revObj la ((items.size:Int)-1))).IsRevIter s1.heap.objs.size la ((items.size:Int)-1):=⟨_,eF _ rfl,rfl,rfl⟩;refine wpAny_pyIter_revIter hit ?_;refine oE X1 λm1 X1=>?_
 let s2:aB:={s1 with heap:=s1.heap.push (revObj la ((items.size:Int)-1))}
 have g2:bc G s1 s2:=.of bU;have I2:Inv G s2:=I1.of bU
 let own:al :=λb=>b=s1.heap.objs.size
 have fb:∀b,own b->s1.heap.get? b=none/\s2.heap.get? b≠none:=λb q=>by rw[show b=s1.heap.objs.size from q];exact⟨j0 _,by rw[eF _ rfl];simp⟩
 have mW:bL G s2.heap own:=λb q=>by rw[show b=s1.heap.objs.size from q];refine⟨AS I1,λo' e=>?_⟩;replace e:=ao (aT (show s2.heap.get? _=some _ from eF _ rfl)) e;obtain rfl:=av e;exact .inr ⟨by simp [revObj],by simp [revObj],λvs q t e=>by cases e;simp [dc]⟩
 have uJ:It G (λb=>(μ b\/bF b)\/s1.heap.get? b=none) own (λz=>False) (.ref s1.heap.objs.size) xs.reverse s2:=by
  have hlen:xs.reverse.length=items.size:=by have :=rl.length;simpa using this
  refine It.K2 (λA hA=>Walks.listRev hA _ la fC items) (λi h st=>?_) (AS I1) (.inr (j0 _)) _ 0 s2 (by lia) ⟨du _,?_,⟨_,bU _ _ hl.1,rfl,k,rfl⟩⟩ I2 (λb hb q=>?_) (λb hb=>?_) (λj p v e1 e2=>?_)
  ·refine c_ st λz bb z=>?_;obtain⟨o,e1,e2,e3⟩:=bb;exact⟨⟨o,_,e1,e2,by decide⟩,λo' vs q t e4 e5=>by replace e4:=ao (aT e1) e4;obtain rfl:=av e4;replace e5:=ao (aT e3) e5;cases e5;simp [dc]⟩
  ·rw[show((0:Nat):Int)=0 from rfl,DU];exact hit
  ·simp only[cc,gG,or_false]at hb;rcases hb with hb|hb
   ·exact bx hb q
   ·exact⟨_,aq.push b _ (hb▸hl)⟩
  ·by_cases q:b=s1.heap.objs.size
   ·exact q▸λht=>I1.tK ht λps e z=>aK ((j0 _).symm.trans e)
   ·simp only[cc,gG,or_false]at hb;rcases hb with hb|hb
    ·exact bx hb q
    ·rw[hb];exact I1.ct hl.1 hl.2.2
  ·refine(rl.Vb e1 ?_).mono aq.push;have hj:j<items.size:=by
    rcases Nat.lt_or_ge j xs.reverse.length with q|q
    ·lia
    ·replace e1:=ao (aT (vi q)) e1;exact aK e1
   refine ao (List.getElem?_reverse (by simpa using hj)) ?_;rw[re];simpa using e2
 have lZ:∀b,(μ b\/bF b)->¬own b:=λb q w=>X1.aI.aW b q (fb b w).1;have X2:RelM G (λb=>μ b\/own b) bF pa sc env aE s2.heap m1:=by refine X1.rH (ψ:=dv) (γ:=λz=>False) I1 g2.aU (λz q=>q.elim) (λb q=>q.imp_right λw=>(fb b w).1) (λb q=>q.elim (λq=>g2.there b (X1.aI.aW b (.inl q))) λq=>(fb b q).2) ?_;exact λb q=>q.elim (λq=>X1.aI.iP.grow g2 I1 (λb q=>X1.aI.aW b (.inl q)) b q) (mW b)
 refine EW cx R xs.reverse aE fl aO bF own s2 _ hg ⟨m1,X2⟩ I2 (uJ.toA (λb q=>.inr (fb b q).1) (R.less (du _))) (λb q=>?_) (λb q=>q.elim (λq=>.inl (.inl q)) λq=>.inr (fb b q).1) (λb q w=>lZ b (.inl w) q) λfv s' a9 D=>h fv s' a9 ?_
 ·rcases q with q|q
  ·exact⟨.inl (.inr q),lZ b (.inr q)⟩
  ·exact⟨.inr (lS g2 q),λw=>(fb b w).2 q⟩
 ·refine⟨aV.after (g1.trans g2) D.aU (λb q=>q.elim (λq=>.inr (iS b q)) λq=>.inl (lS g1 (fb b q).1)) (λz q=>q.elim),D.inv,λb q=>(D.sub b q).elim (λq=>.inl (iS b q)) λq=>.inr (lS (g1.trans g2) q),D.rel,D.nn⟩
end
def yy:Loc->Loc->Loc
 |l,[]=>l
 |l,(x,p)::r=>yy (bq l x p) r
theorem xG:∀{bs l:Loc}{y:Str},(bs.map (·.1)).Nodup->(yy l bs).lookup y=(bs++l).lookup y
 |[],l,y,_=>rfl
 |(x,p)::r,l,y,hd=>by
  simp only[cO,tn]at hd;have ih:=xG (bs:=r) (l:=bq l x p) (y:=y) hd.2;rw[yy,ih,Dy,agb,dp,fw];by_cases h:y=x
  ·subst h;rw[Av hd.1];simp
  ·rw[aJ h,dq h,<-agb]
section
variable{A:dQ}{own:al}{sc cs:aH}{st:St}{n:Nat}{r:Rec}{fl:bG}{ns:af}
theorem Sw(h:∀x∈ns,x∉st.own):b9 st ns=st.own:=by unfold b9;rw[IW];intro y hy;simp only[vo,afW,decide_eq_false_iff_not];exact λq=>h y q hy
theorem xN:∀(bs:Loc)(binds:List (Str×ar))(st:St)(m:am)(s:aB)(Q:ak),bs.map (·.1)=binds.map (·.1)->(∀x∈bs.map (·.1),gf sc x=true/\x∉st.own/\x∉st.pin)->
  aN G (aq s.heap λb=>μ b\/φ b) (bs.map (·.2)) (binds.map (·.2))->RelM G μ φ pa sc env st s.heap m->Inv G s->
  (∀s' m',aV G (λb=>b=env.locals\/bv sc env b) (λz=>False) s s'->Inv G s'->RelM G μ φ pa sc env {st with loc:=yy st.loc bs} s'.heap m'->Q s')->gJ (bp G.prog G.w) A EE env binds Q s:=by
 intro bs;induction bs with
 |nil=>intro binds st m s Q e _ _ X I h;obtain rfl:=oa.mp e.symm;exact h s m .refl I X
 |cons b bs ih=>
  intro binds st m s Q e hx hv X I h;induction b with
  |mk x p=>induction binds with
   |nil=>cases e
   |cons b binds _=>induction b with
    |mk x' v=>
    refine oA (DI e) λe1 e2=>?_;have h1:=hx x ch;have hp:cm sc st x=true:=by unfold cm;rw[h1.1,DL,vo];exact Bool.eq_false_iff.mpr λq=>h1.2.2 (cN.mp q)
    rw[<-show x=x' from e1];refine X.store I (p:=p) hp hv.1 λs1 m1 aE I1 X1=>?_;rw[show b9 st [x]=st.own from Sw λy hy=>cW hy▸h1.2.1]at X1;exact ih binds {st with loc:=bq st.loc x p} m1 s1 Q e2 (λy hy=>hx y (cf _ hy)) (hv.2.mono (aq.aU (μ:=λb=>μ b\/φ b) aE I λb q=>.inr (X.ia b q))) X1 I1 λs2 m2 bw I2 X2=>h s2 m2 (aE.trans bw) I2 X2
theorem a_.call(R:a_ A (n+1))(env):a_ (A.deeper env) n:=⟨R.hh,by have :=R.depth;show A.depth+1+2*n+60<1000;lia,by have :=R.units;show A.units+3+20*n+600<9900;lia⟩
theorem Wy(h:ng d=true):kg d.scope=true:=by exact be h λh z=>be h λh z=>be h λh z=>be h λh z=>be h λh z=>h
theorem LY{own:af}{s:St}(h:pP own s=true):∀y∈own,y∈s.own/\y∈s.pin:=λy hy=>be (cF.mp h y hy) λh1 h2=>⟨cN.mp h1,cN.mp h2⟩
theorem yc{d:FD}{own:af}(e:iR r d bs own=some (p,aO)):ng d=true/\∃fl,r.B d.scope ⟨bs,own,own⟩ d.body=some (fl,aO)/\(fl=.ret p\/fl=.next/\p=.none)/\∀y∈own,y∈aO.own/\y∈aO.pin:=by
 refine aZ e λhf e=>aF e λq e1 e=>⟨hf,?_⟩;obtain⟨fl,s1⟩:=q;induction fl with
 |ret v=>exact aZ e λhc e=>by cases e;exact⟨_,e1,.inl rfl,LY hc⟩
 |next =>exact aZ e λhc e=>by cases e;exact⟨_,e1,.inr ⟨rfl,rfl⟩,LY hc⟩
 |brk=>exact aK e
theorem gJ.conv:∀{binds:List (Str×ar)}{s:aB}{Q:ak},gJ (bp G.prog G.w) A EE env binds Q s->gJ (bp G.prog G.w) A E env binds Q s
 |[],_,_,h=>h
 |(_,_)::_,_,_,h=>db h (λz z q=>gJ.conv q) λz z q=>q.elim
structure wp(h:bT)(d:FD)(f:aw)(o:Obj)(fd:tF):Prop where
 ho:h.get? f=some o
 hd:o.data=.func fd
 body:fd.body=.stmts d.body
 sc:fd.scope=d.scope
 gl:fd.globals=fS
 bi:fd.builtins=fZ
 oQ:h.CodeRec fd.code fd.qualname
theorem K8(S:bY G)(dep:A.depth<1000)(I:Inv G s){d:FD}{args:Args}{binds:List (Str×ar)}{fr:Loc}{own:af}(hf:ng d=true)
  (O:wp s.heap d f o fd) (hB:lQ s fd args binds) (qA:∀env:Env,env.code=fd.code->env.qual=fd.qualname++".<locals>."->CQ G d.scope env)
  (aW:Hid s.heap λb=>μ b\/ν b) (dh:bL G s.heap μ) (wJ:bL G s.heap ν) (dM:∀b,ν b->¬μ b)
  (T:∀env:Env,(∀x,d.scope.names.lookup x≠some .cell->env.cells.lookup x=fd.closure.lookup x)->oI G (λb=>μ b\/ν b) d.scope fd.closure env fr s.heap)
  (start:∀(env:Env)(s1:aB),bc G s s1->Inv G s1->bM G μ (λb=>(b=env.locals\/bv d.scope env b)\/ν b) d.scope env fr s1.heap (λz=>none)->(∀b,(b=env.locals\/bv d.scope env b)->s.heap.get? b=none)->(∀x,d.scope.names.lookup x≠some .cell->env.cells.lookup x=fd.closure.lookup x)->
   gJ (bp G.prog G.w) A.in1 EE env binds (λs2=>∃m2,aV G (λb=>(b=env.locals\/bv d.scope env b)\/ν b) (λz=>False) s1 s2/\Inv G s2/\RelM G μ (λb=>(b=env.locals\/bv d.scope env b)\/ν b) pa d.scope env ⟨bs,own,own⟩ s2.heap m2) s1)
  {Rr:mQ->ak}
  (h:∀env s2 m2,env.frame=some env.locals->env.scope=d.scope->(∀b,((b=env.locals\/bv d.scope env b)\/ν b)->s.heap.get? b=none\/ν b)->aV G (λb=>(b=env.locals\/bv d.scope env b)\/ν b) (λz=>False) s s2->Inv G s2->RelM G μ (λb=>(b=env.locals\/bv d.scope env b)\/ν b) pa d.scope env ⟨bs,own,own⟩ s2.heap m2->
   bt (bp G.prog G.w) (A.deeper env) (execs d.body env) (λf s'=>Rr (.ok (.ret (match f with | .ret v=>v|_=>.none))) s') (λe s'=>bt (bp G.prog G.w) (A.deeper env) (leaving env e) (λz aS=>Rr (.error e) aS) (λe' aS=>Rr (.error e') aS) s') s2):
  eV (bp G.prog G.w) A (.call (.ref f) args) Rr s:=by
 have sA:=O.sc;have hs:=Wy hf;obtain⟨k1,k2,k3⟩:=AI hs;refine codeAny_call_function dep O.ho O.hd (by rw[sA];exact k2) (by rw[sA];exact k3) O.body O.oQ (hB _ _ _ _ (Cz (by rw[sA];exact xK hs) λs1 N=>?_));obtain⟨ky,nI,gA,nJ,nM⟩:= @xF d.scope s.heap.objs.size fd.globals (fT (s.heap.objs.size+1) d.scope.names fd.closure) (fd.qualname++".<locals>.") (some f) fd.code none fd.builtins;generalize yP:rP fd.scope fd.globals fd.closure (fd.qualname++".<locals>.") (some f) fd.code none fd.builtins s.heap.objs.size=env at N⊢;have rQ:newEnv d.scope s.heap.objs.size fd.globals (fT (s.heap.objs.size+1) d.scope.names fd.closure) (fd.qualname++".<locals>.") (some f) fd.code none fd.builtins=env:=by rw[<-yP,sA];rfl
 rw[rQ]at ky nI gA nJ nM;rw[sA]at N;have aaf:env.code=fd.code:=by rw[<-rQ];rfl
 have equal:env.qual=fd.qualname++".<locals>.":=by rw[<-rQ];rfl
 obtain⟨g1,I1,F1⟩:=bM.enter N I aW (λb q=>q.elim (dh b) (wJ b)) (qA env aaf equal) hs (T env λx hx=>N.other x hx) rfl rfl (by rw[gA];exact k1) (by rw[nJ];exact O.gl) (by rw[nM];exact O.bi)
  (λx=>by show kc (env.scope.names.lookup x)=_;rw[gA]) (λx q=>by show env.scope.names.lookup x=_;rw[gA];exact q)
 have F2:=F1.shift (wJ.grow g1 I λb q=>aW b (.inr q)) dM;have new:∀b,(b=env.locals\/bv d.scope env b)->s.heap.get? b=none:=λb q=>q.elim (λq=>q▸N.new) λ⟨x,h1,h2⟩=>by refine eW (N.cells x h1) λc c1 c2 z=>?_;rw[h2]at c1;obtain rfl:=av c1;exact c2
 exact(gJ.conv (start env s1 g1 I1 F2 new λx hx=>N.other x hx)).mono λs2 ⟨m2,bw,I2,X2⟩=>⟨I2.lim S.towA,codeAny_func (h env s2 m2 (by rw[<-rQ];rfl) gA (λb q=>q.imp_left (new b)) (g1.aU.trans bw) I2 X2)⟩
theorem AV(S:bY G)(cx:gv G n r.B)(R:∀env,a_ (A.deeper env) n)(I:Inv G s){d:FD}{args:Args}{binds:List (Str×ar)}{fr:Loc}{own:af}
  (O:wp s.heap d f o fd) (hB:lQ s fd args binds) (qA:∀env:Env,env.code=fd.code->env.qual=fd.qualname++".<locals>."->CQ G d.scope env)
  (aW:Hid s.heap λb=>μ b\/ν b) (dh:bL G s.heap μ) (wJ:bL G s.heap ν) (dM:∀b,ν b->¬μ b) (e:iR r d bs own=some (p,aO))
  (T:∀env:Env,(∀x,d.scope.names.lookup x≠some .cell->env.cells.lookup x=fd.closure.lookup x)->oI G (λb=>μ b\/ν b) d.scope fd.closure env fr s.heap)
  (start:∀(env:Env)(s1:aB),bc G s s1->Inv G s1->bM G μ (λb=>(b=env.locals\/bv d.scope env b)\/ν b) d.scope env fr s1.heap (λz=>none)->(∀b,(b=env.locals\/bv d.scope env b)->s.heap.get? b=none)->(∀x,d.scope.names.lookup x≠some .cell->env.cells.lookup x=fd.closure.lookup x)->
   gJ (bp G.prog G.w) A.in1 EE env binds (λs2=>∃m2,aV G (λb=>(b=env.locals\/bv d.scope env b)\/ν b) (λz=>False) s1 s2/\Inv G s2/\RelM G μ (λb=>(b=env.locals\/bv d.scope env b)\/ν b) pa d.scope env ⟨bs,own,own⟩ s2.heap m2) s1)
  {Rr:mQ->ak}
  (h:∀env v s' a9 m',aV G ν (λz=>False) s s'->Inv G s'->(∀b,a9 b->ν b\/s.heap.get? b=none)->RelM G μ a9 pa d.scope env aO s'.heap m'->(∀y∈own,y∈aO.own/\y∈aO.pin)->RelV G (aq s'.heap λb=>μ b\/a9 b) p v->Rr (.ok (.ret v)) s'):
  eV (bp G.prog G.w) A (.call (.ref f) args) Rr s:=by
 obtain⟨hf,fl,e1,efl,fM⟩:=yc e;refine K8 S (by have :A.depth+1+2*n+60<1000:=(R default).depth;lia) I hf O hB qA aW dh wJ dM T start λenv s2 m2 z z lr bw I2 X2=>
  db (cx _ _ _ _ _ _ _ _ _ _ _ (λfv s3=>Rr (.ok (.ret (match fv with | .ret v=>v|_=>.none))) s3) e1 (R env) I2 ⟨m2,X2⟩ λfv s3 nO P3=>?_) (λz z q=>q) λz z q=>q.elim
 obtain⟨m3,X3⟩:=P3.rel;have aU:aV G ν (λz=>False) s s3:=aV.after .refl (bw.trans P3.aU) lr λz q=>q.elim;have sub:∀b,nO b->ν b\/s.heap.get? b=none:=λb q=>by
  rcases P3.sub b q with q|q
  ·exact(lr b q).symm
  ·rcases lM ((b=env.locals\/bv d.scope env b)\/ν b)with w|w
   ·exact(lr b w).symm
   ·exact .inr (II λx=>bw.there b x w q)
 have F3:=P3.nn;rcases efl with rfl|⟨rfl,rfl⟩
 ·obtain⟨v,rfl,hv⟩:=F3;exact h env v s3 nO m3 aU P3.inv sub X3 fM hv
 ·rw[show fv=.next from F3];exact h env .none s3 nO m3 aU P3.inv sub X3 fM .mkNone
end
def RelK(G:bE)(V:Vw)(kw:Loc)(ks:List (Str×ar)):Prop :=kw.map (·.1)=ks.map (·.1)/\aN G V (kw.map (·.2)) (ks.map (·.2))
section
variable{A:dQ}{own:al}{sc cs:aH}{st:St}{n:Nat}{r:Rec}{fl:bG}{ns:af}
theorem vA{ns:List α}{vs:List β}(h:ns.length=vs.length):(ns.zip vs).map (·.1)=ns/\(ns.zip vs).map (·.2)=vs:=⟨xi (by lia),List.map_snd_zip (by lia)⟩
structure wq(d:FD):Prop where
 sc:kg d.scope=true
 pos:d.args.posonlyargs=[]
 va:d.args.vararg=none
 CJ:d.args.kwarg=none
 mi:∀q∈d.args.args++d.args.kwonlyargs,gf d.scope q.arg=true
 nd:((d.args.args++d.args.kwonlyargs).map (·.arg)).Nodup
theorem rF{d:FD}(h:ng d=true):wq d:=
 be h λh h6=>be h λh h5=>be h λh h4=>be h λh h3=>be h λh1 h2=>⟨h1,dd h2,jp.mp h3,jp.mp h4,cF.mp h5,bu h6⟩
theorem D6{n:α}{a:cH}{ps:List α}{kw:List (Str×α)}{q:Str×List (Str×α)}(e:tU z n a ps kw=some q):q.1::q.2.map (·.1)=(a.args++a.kwonlyargs).map (·.arg):=by
 refine dU e (λhk e=>aZ e λy e=>aF e λw hw e=>aZ e λhl e=>?_) λy e=>aZ e λhb e=>aF e λk y e=>aF e λu y e=>cj e λw y e=>?_
 ·rw[<-av e,dd hk,gW,gZ hw,cO,xi (by have :=bu hl;simp only[ba];lia)]
 ·refine be hb λh1 h2=>?_;rw[<-e,ei,bu h1,bu h2];rfl
theorem TX{k:PV}(rk:RelK G V kw cE)(e:keyOf .none kw=some k):∃kv,keyOf .none cE=some kv/\RelV G V k kv:=by
 obtain⟨k1,k2⟩:=rk;induction kw with
 |nil=>
  induction cE with
  |nil=>exact⟨.none,rfl,av e▸ .mkNone⟩
  |cons _ _=>cases k1
 |cons q r=>
  induction cE with
  |nil=>cases k1
  |cons q' r'=>
   obtain⟨e1,e2⟩:=DI k1;refine aZ e λhc e=>be hc λh1 h2=>⟨q'.2,?_,av e▸k2.1⟩;rw[dd h1]at e2;have h3:r'.isEmpty=true:=by rw[oa.mp e2.symm];rfl
   simp only[keyOf];rw[h3,<-show q.1=q'.1 from e1,h2];rfl
theorem Vc{t:Tok}{more:ab}{mv:List ar}{w:PV×PV}(rl:aN G V more mv)(e:oN (.int 0) .none more=some w):∃w',oN (.int 0 t) .none mv=some w'/\RelV G V w.1 w'.1/\RelV G V w.2 w'.2:=by
 induction more with
 |nil=>exact rl.fW (P:=λmv=>∃w',oN (.int 0 t) .none mv=some w'/\RelV G V w.1 w'.1/\RelV G V w.2 w'.2) ⟨_,rfl,av e▸⟨.mkInt _ _ _,.mkNone⟩⟩
 |cons lo r=>
  refine rl.fJ (P:=λmv=>∃w',oN (.int 0 t) .none mv=some w'/\RelV G V w.1 w'.1/\RelV G V w.2 w'.2) λv us h1 h2=>?_;induction r with
  |nil=>exact h2.fW (P:=λus=>∃w',oN (.int 0 t) .none (v::us)=some w'/\RelV G V w.1 w'.1/\RelV G V w.2 w'.2) ⟨_,rfl,av e▸⟨h1,.mkNone⟩⟩
  |cons hi r=>refine aZ e λhr e=>?_;rw[dd hr]at h2;exact h2.ki (P:=λus=>∃w',oN (.int 0 t) .none (v::us)=some w'/\RelV G V w.1 w'.1/\RelV G V w.2 w'.2) λv2 h3=>⟨_,rfl,av e▸⟨h1,h3⟩⟩
structure M4(G:bE)(V:Vw)(s:aB)(fd:tF)(vs:List ar)(cE:List (Str×ar))(x0:Str)(bs:Loc)(binds:List (Str×ar)):Prop where
 b:∀v,lQ s fd ⟨v::vs,cE⟩ ((x0,v)::binds)
 n:bs.map (·.1)=binds.map (·.1)
 r:aN G V (bs.map (·.2)) (binds.map (·.2))
theorem Ec{d:FD}{t:Tok}(P:om s d fd t)(F:wq d){q:Str×Loc}(e:tU (.int 0) .none d.args ps kw=some q)(rl:aN G V ps vs)(rk:RelK G V kw cE):
  ∃binds,M4 G V s fd vs cE q.1 q.2 binds:=by
 refine dU e (λhk e=>aZ e λzf e=>aF e λw hw e=>aZ e λhl e=>?_) λhk e=>aZ e λhb e=>aF e λk h1 e=>aF e λu h2 e=>cj e λw h3 e=>?_
 ·have hk:=dd hk;have ha:=gZ hw;have hl:=bu hl;have cY:=rl.length;have HR:cE=[]:=by rw[dd zf]at rk;exact oa.mp rk.1.symm
  have lw:(w.2.map (·.arg)).length=ps.length:=by refine ao (ba ..) ?_;exact hl.symm
  have z1:=vA lw;have z2:=vA (lw.trans cY);rw[<-av e];refine⟨(w.2.map (·.arg)).zip vs,λv=>?_,z1.1.trans z2.1.symm,z1.2.symm▸z2.2.symm▸rl⟩;have :=Ea (s:=s) (fd:=fd) (vs:=v::vs) (by rw[P.par];exact F.pos) (by rw[P.par];exact hk) (by rw[P.par];exact F.va) (by rw[P.par];exact F.CJ) (P.plain hk) (by rw[P.par,ha,ff,ff];lia) (by
   have :=F.nd;rw[hk,gW]at this;rw[P.par];exact this)
  rw[P.par,ha]at this;rw[HR];exact this
 ·rw[gZ h2]at rl;refine rl.fJ (P:=λvs=>∃binds,M4 G V s fd vs cE q.1 q.2 binds) λx us rx rl=>br (TX rk h1) λkv k1 k2=>eW (Vc (t:=t) rl h3) λw' w1 w2 w3=>?_;rw[<-e];exact⟨_,λv=>P.bis hb v x us cE w' kv w1 k1,rfl,.mkCons rx (.mkCons w2 (.mkCons w3 (.mkCons k2 .mkNil)))⟩
theorem TY{d:FD}{t:Tok}(P:om s d fd t)(F:wq d)(hk:d.args.kwonlyargs=[])(ha:d.args.args=[]):lQ s fd ⟨[],[]⟩ []:=by have :=Ea (s:=s) (fd:=fd) (vs:=[]) (by rw[P.par];exact F.pos) (by rw[P.par];exact hk) (by rw[P.par];exact F.va) (by rw[P.par];exact F.CJ) (P.plain hk) (by rw[P.par,ha];rfl) (by rw[P.par,ha];exact .nil);rw[P.par,ha]at this;exact this
theorem Ed{d:FD}(F:wq d){ns:af}(h:ns=(d.args.args++d.args.kwonlyargs).map (·.arg)):(∀y∈ns,gf d.scope y=true)/\ns.Nodup:=by rw[h];exact⟨λy hy=>let⟨q,hq,e⟩:=eH.mp hy;e▸F.mi q hq,F.nd⟩
theorem AW{d:FD}{t:Tok}(P:om s d fd t)(F:wq d)(e:bindAll d.args ps kw=some bs)(rl:aN G V ps vs)(rk:RelK G V kw cE):
  (∀y∈bs.map (·.1),gf d.scope y=true)/\(bs.map (·.1)).Nodup/\∃binds,lQ s fd ⟨vs,cE⟩ binds/\bs.map (·.1)=binds.map (·.1)/\aN G V (bs.map (·.2)) (binds.map (·.2)):=by
 induction ps with
 |cons u ps=>refine cj e λq e1 e=>rl.fJ (P:=λvs=>(∀y∈bs.map (·.1),gf d.scope y=true)/\(bs.map (·.1)).Nodup/\∃binds,lQ s fd ⟨vs,cE⟩ binds/\bs.map (·.1)=binds.map (·.1)/\aN G V (bs.map (·.2)) (binds.map (·.2))) λv vs rv rl=>?_;obtain⟨binds,B⟩:=Ec P F e1 rl rk;obtain⟨n1,n2⟩:=Ed F (D6 e1);rw[<-e];exact⟨n1,n2,_,B.b v,aR (q.1:: ·) B.n,.mkCons rv B.r⟩
 |nil=>refine aZ e λhc e=>gg hc λh1 h2 h3=>rl.fW (P:=λvs=>(∀y∈bs.map (·.1),gf d.scope y=true)/\(bs.map (·.1)).Nodup/\∃binds,lQ s fd ⟨vs,cE⟩ binds/\bs.map (·.1)=binds.map (·.1)/\aN G V (bs.map (·.2)) (binds.map (·.2))) ?_;rw[dd h2]at rk;rw[<-av e,oa.mp rk.1.symm];exact⟨λy hy=>(gG hy).elim,agI,[],TY P F (dd h1) (dd h3),rfl,.mkNil⟩
end
section
variable{n k w:Nat}{sc cs:aH}{A:dQ}{pos:Pos}{r:Rec}{st:St}{a:aw}{P:Prop}{own:al}{fl:bG}{d:FD}{c:Bool}{body:ad}{E:ar->ak}{b:Int}{nm:Str}{ns:af}{it:ar}{M:Model}
theorem AX:(λb=>μ b\/dv b)=μ:=funext λb=>propext ⟨λq=>q.elim id λq=>q.elim,.inl⟩
theorem JT(I:Inv G s)(hm:∀y∈bs.map (·.1),gf sc y=true)(fY:(bs.map (·.1)).Nodup)(hn:bs.map (·.1)=binds.map (·.1))(hv:aN G (aq s.heap μ) (bs.map (·.2)) (binds.map (·.2)))
  (g1:bc G s s1) (I1:Inv G s1) (F:bM G μ (λb=>(b=env.locals\/bv sc env b)\/dv b) sc env fr s1.heap (λz=>none)) (new:∀b,(b=env.locals\/bv sc env b)->s.heap.get? b=none):
  gJ (bp G.prog G.w) A EE env binds (λs2=>∃m2,aV G (λb=>(b=env.locals\/bv sc env b)\/dv b) (λz=>False) s1 s2/\Inv G s2/\RelM G μ (λb=>(b=env.locals\/bv sc env b)\/dv b) (λz=>0) sc env ⟨bs++fr,[],[]⟩ s2.heap m2) s1:=by
 have b8:∀b o,aq s.heap μ b o->aq s1.heap (λb=>μ b\/((b=env.locals\/bv sc env b)\/dv b)) b o:=λb o q=>
  ⟨(aq.grow g1 I b o q).1,λw=>w.elim q.2.1 λw=>w.elim (λw=>(by have q1:=q.1;replace q1:=ao (aT (new b w)) q1;exact aK q1)) λw=>w.elim,q.2.2⟩
 have X0:RelM G μ (λb=>(b=env.locals\/bv sc env b)\/dv b) (λz=>0) sc env ⟨fr,[],[]⟩ s1.heap (λz=>none):=
  ⟨F.congr λy=>by refine ao eQ ?_;rfl,λx hx=>(nomatch hx),λx hx=>(nomatch hx),λx hx=>(nomatch hx),λx hx=>(nomatch hx)⟩
 refine xN bs binds ⟨fr,[],[]⟩ _ s1 _ hn (λx hx=>⟨hm x hx,(λq=>nomatch q),λq=>nomatch q⟩) (hv.mono b8) X0 I1 λs2 m2 bw I2 X2=>⟨m2,bw.mono (λb q=>.inl q) λz q=>q,I2,?_⟩;exact X2.congr λy=>(xG fY).symm
theorem Ee(S:bY G)(dep:A.depth<1000)(I:Inv G s)
  {t:Tok} (hf:ng d=true) (O:wp s.heap d f o fd) (P:om s d fd t)
  (qA:∀env:Env,env.code=fd.code->env.qual=fd.qualname++".<locals>."->CQ G d.scope env)
  (aW:Hid s.heap μ) (dh:bL G s.heap μ) (eb:bindAll d.args ps kw=some bs)
  (T:∀env:Env,(∀x,d.scope.names.lookup x≠some .cell->env.cells.lookup x=fd.closure.lookup x)->oI G μ d.scope fd.closure env fr s.heap)
  (rl:aN G (aq s.heap μ) ps vs) (rk:RelK G (aq s.heap μ) kw cE)
  (h:∀env s2 m2,env.frame=some env.locals->env.scope=d.scope->(∀b,((b=env.locals\/bv d.scope env b)\/dv b)->s.heap.get? b=none\/dv b)->aV G (λb=>(b=env.locals\/bv d.scope env b)\/dv b) (λz=>False) s s2->Inv G s2->RelM G μ (λb=>(b=env.locals\/bv d.scope env b)\/dv b) (λz=>0) d.scope env ⟨bs++fr,[],[]⟩ s2.heap m2->
   bt (bp G.prog G.w) (A.deeper env) (execs d.body env) (λf s'=>Rr (.ok (.ret (match f with | .ret v=>v|_=>.none))) s') (λe s'=>bt (bp G.prog G.w) (A.deeper env) (leaving env e) (λz aS=>Rr (.error e) aS) (λe' aS=>Rr (.error e') aS) s') s2):
  eV (bp G.prog G.w) A (.call (.ref f) ⟨vs,cE⟩) Rr s:=by
 refine Bk (AW P (rF hf) eb rl rk) λhm fY binds hB hn hv=>K8 S dep I hf O hB qA (by rw[AX];exact aW) dh (λb q=>q.elim) (λb q=>q.elim) (λenv q=>by rw[AX];exact T env q) (λenv s1 g1 I1 F new z=>JT I hm fY hn hv g1 I1 F new) h
theorem run_plain(S:bY G)(cx:gv G n r.B)(R:a_ A (n+1))(I:Inv G s)
  {t:Tok} (O:wp s.heap d f o fd) (P:om s d fd t)
  (qA:∀env:Env,env.code=fd.code->env.qual=fd.qualname++".<locals>."->CQ G d.scope env)
  (aW:Hid s.heap μ) (dh:bL G s.heap μ) (eb:bindAll d.args ps kw=some bs) (e:iR r d (bs++fr) []=some (p,aO))
  (T:∀env:Env,(∀x,d.scope.names.lookup x≠some .cell->env.cells.lookup x=fd.closure.lookup x)->oI G μ d.scope fd.closure env fr s.heap)
  (rl:aN G (aq s.heap μ) ps vs) (rk:RelK G (aq s.heap μ) kw cE)
  (h:KV G s μ p Q):WP G A (call (.ref f) vs cE) Q s:=by
 refine Bk (AW P (rF (yc e).1) eb rl rk) λhm fY binds hB hn hv=>tB (AV S cx R.call I O hB qA (by rw[AX];exact aW) dh (λb q=>q.elim) (λb q=>q.elim) e (λenv q=>by rw[AX];exact T env q) (λenv s1 g1 I1 F new z=>JT I hm fY hn hv g1 I1 F new) λenv v s' a9 m' aU I' sub X z hv=>
  h v s' (aU.grow (λb q=>q.elim) λz q=>q.elim) I' (hv.mono (aq.less λb q=>.inl q)))
theorem PM{k:gY}{ks:List gY}{P:gY->Loc->Prop}(e:oO r sc l (k::ks)=some kw)(h:∀x v q p1 ps,r.E sc l v=some p1->oO r sc l ks=some ps->P ⟨some x,v,q⟩ ((x,p1)::ps)):P k kw:=by obtain⟨a,v,q⟩:=k;exact aF e λx hx e=>aF e λp1 e1 e=>cj e λps e2 e=>by rw[show a=some x from hx,<-e];exact h x v q p1 ps e1 e2
theorem Bb(aM:ca G n r.E):∀{ks:List gY}{kw:Loc}{s:aB}{Q:List ar->ak},oO r sc l ks=some kw->a_ A n->Inv G s->cu G μ sc env l s.heap->
  (∀vs s',bc G s s'->Inv G s'->aN G (aq s'.heap μ) (kw.map (·.2)) vs->Q vs s')->WP G A (evalAll ((kR pos (kP ks env)).map (·.2))) Q s
 |[],kw,s,Q,e,R,I,X,h=>PySem.wpAny_evalAll_nil (h _ _ .refl I (av e▸ .mkNil))
 |k::ks,kw,s,Q,e,R,I,X,h=>PM (P:=λk kw=>(∀vs s',bc G s s'->Inv G s'->aN G (aq s'.heap μ) (kw.map (·.2)) vs->Q vs s')->WP G A (evalAll ((kR pos (kP (k::ks) env)).map (·.2))) Q s) e
  (λx v q p1 ps e1 e2 h=>kws_cons (aM _ _ _ _ _ _ _ _ _ e1 R I X λu s1 g1 I1 r1=>Bb aM e2 R I1 (X.grow g1 I) λus s2 g2 I2 r2=>h _ _ (g1.trans g2) I2 (.mkCons (r1.mono (aq.grow g2 I1)) r2))) h
theorem Ej:∀{ks:List gY}{kw:Loc},oO r sc l ks=some kw->(kR pos (kP ks env)).all (·.1.isSome)=true/\(kR pos (kP ks env)).any (·.1.isNone)=false/\(kR pos (kP ks env)).filterMap (·.1)=kw.map (·.1)
 |[],kw,e=>av e▸⟨rfl,rfl,rfl⟩
 |k::ks,kw,e=>PM (P:=λk kw=>(kR pos (kP (k::ks) env)).all (·.1.isSome)=true/\(kR pos (kP (k::ks) env)).any (·.1.isNone)=false/\(kR pos (kP (k::ks) env)).filterMap (·.1)=kw.map (·.1)) e
  λx v q p1 ps e1 e2=>let⟨h1,h2,h3⟩:=Ej e2;⟨h1,h2,aR (x:: ·) h3⟩
theorem xH(aM:ca G n r.E){f:ar}{first :List ar}{ks:List gY}(ea:dG r sc l es=some ps)(ek:oO r sc l ks=some kw)(R:a_ A n)(I:Inv G s)(X:cu G μ sc env l s.heap)
  (hk:∀s',bc G s s'->Inv G s'->∃k,(k=DR\/k=DG\/k=Dv)/\Looks (bp G.prog G.w) s'.heap (keeperOf f) k)
  (h:∀vs cE s',bc G s s'->Inv G s'->aN G (aq s'.heap μ) ps vs->RelK G (aq s'.heap μ) kw cE->WP G A (call f (first ++vs) cE) Q s'):
  WP G A (callWith pos f first (backTo pos (jX es env)) (kR pos (kP ks env))) Q s:=by
 refine c_ (Ej (pos:=pos) (env:=env) ek) λk1 k2 k3=>?_;have fin:∀(vs ws:List ar)(s1 s2:aB),bc G s s1->Inv G s1->bc G s1 s2->Inv G s2->aN G (aq s1.heap μ) ps vs->aN G (aq s2.heap μ) (kw.map (·.2)) ws->
   (∃s',bc G s s'/\Inv G s'/\s2.heap=s'.heap)/\WP G A (call f (first ++vs) (((kR pos (kP ks env)).filterMap (·.1)).zip ws)) Q s2:=λvs ws s1 s2 g1 I1 g2 I2 r1 r2=>by
  refine⟨⟨s2,g1.trans g2,I2,rfl⟩,h vs _ s2 (g1.trans g2) I2 (r1.mono (aq.grow g2 I1)) ?_⟩;have hl:(kw.map (·.1)).length=ws.length:=by refine ao (ba ..) ?_;rw[<-ba (f:=(·.2)),r2.length]
  rw[k3];exact⟨(vA hl).1.symm,by rw[(vA hl).2];exact r2⟩
 refine callWith_of (P:=λh=>∃s',bc G s s'/\Inv G s'/\h=s'.heap) (by rw[AA (l:=l) (r:=r) ea,k2];rfl) (λh ⟨s',g',I',e'⟩=>by rw[e'];exact hk s' g' I') ?_;induction es with
 |nil=>exact evalArgs_kw2_nil k1 (Bb aM ek R I X λws s2 g2 I2 r2=>fin [] ws s s2 .refl I g2 I2 (av ea▸ .mkNil) r2)
 |cons a es=>have hn:=aZ ea λh z=>h;exact DY k1 (AQ aM ea R I X λvs s1 g1 I1 r1=>Bb aM ek R I1 (X.grow g1 I) λws s2 g2 I2 r2=>fin vs ws s1 s2 g1 I1 g2 I2 r1 r2) (g_ hn)
theorem rB(ho:h.get? f=some o)(hd:o.data=.func fd):∃k,(k=DR\/k=DG\/k=Dv)/\Looks (bp G.prog G.w) h (keeperOf (.ref f)) k:=by obtain⟨oc,od,dt,sl⟩:=o;simp only at hd;subst hd;exact⟨.frame,.inl rfl,(Looks.ld ho).andThen .now⟩
theorem xJ:∃k,(k=DR\/k=DG\/k=Dv)/\Looks (bp G.prog G.w) h (keeperOf (.type T)) k:=⟨.machine,.inr (.inl rfl),.now⟩
theorem vy:∃k,(k=DR\/k=DG\/k=Dv)/\Looks (bp G.prog G.w) h (keeperOf (.builtin T)) k:=⟨.machine,.inr (.inl rfl),.now⟩
def Callee(G:bE)(n:Str)(a:aw):Prop :=(n≠"Whitespace"/\∀d,A9 n=some d->l9 G d n a)\/(n="Whitespace"/\a=G.C)
def uv(G:bE)(n:Nat)(f:Str->ab->Loc->ag):Prop :=
 ∀(A:dQ)(μ:al)(nm:Str)(ps:ab)(kw:Loc)(p:PV)(s:aB)(a:aw)(vs:List ar)(cE:List (Str×ar))(Q:ar->ak),
  f nm ps kw=some p->a_ A n->Inv G s->Hid s.heap μ->bL G s.heap μ->Callee G nm a->aN G (aq s.heap μ) ps vs->RelK G (aq s.heap μ) kw cE->
  (KV G s μ p Q)->WP G A (call (.ref a) vs cE) Q s
theorem TZ(h:pO sc=true):sc.names.lookup x≠some .free:=λq=>by simp only[pO,cF,bne_iff_ne,ne_eq]at h;exact h _ (lL q) rfl
theorem vz(hn:pO sc=true):oI G μ sc cl env [] h:=
 ⟨λx q=>bx q (TZ hn),λx p q=>aK<|q⟩
theorem CodeRec.M5{c:ar}{q:Str}(x:h.CodeRec c q)(k:∀b o,h.get? b=some o->h'.get? b=some o):h'.CodeRec c q:=
 let⟨c',o,vs,t,e,a,r⟩:=x;⟨c',o,vs,t,e,k _ _ a,r⟩
theorem FnAt.fun{q:Str}{c:aw}(F:FnAt G d q f o fd c)(I:Inv G s):wp s.heap d f o fd:=⟨I.old _ _ F.ho,F.hd,F.body,F.sc,F.gl,F.bi,CodeRec.M5 F.oQ I.old⟩
theorem FnAt.cq{q:Str}{c:aw}(F:FnAt G d q f o fd c)(env)(ec:env.code=fd.code)(eq:env.qual=fd.qualname++".<locals>."):CQ G d.scope env:=λmk hm hq=>
 let⟨q1,q2⟩:=F.Hw mk hm hq;⟨by refine ao ec ?_;rw[F.code,q1],by rw[eq,F.qual];exact q2⟩
theorem Yx(S:bY G)(cx:gv G n r.B)(R:a_ A (n+1))(I:Inv G s)(Fn:l9 G d nm f)(aW:Hid s.heap μ)(dh:bL G s.heap μ)
  (ii:pO d.scope=true) (eb:bindAll d.args ps kw=some bs) (e:iR r d bs []=some (p,aO)) (rl:aN G (aq s.heap μ) ps vs) (rk:RelK G (aq s.heap μ) kw cE)
  (h:KV G s μ p Q):WP G A (call (.ref f) vs cE) Q s:=by
 obtain⟨o,fd,c,F⟩:=Fn.ex;refine oE F.pre λt P=>run_plain S cx R I (F.fun I) (P s I.old) F.cq aW dh eb (by rw[gW];exact e) (λenv z=>vz ii) rl rk h
theorem RelM.T6{m1:am}{dx:aw}(X1:RelM G μ φ pa sc env st s1.heap m1)(I1:Inv G s1)(hx:gf sc x=true)(h0:st.own=[])(hp:st.pin=[])(ha:φ a)(zg:φ dx)(ea:s1.heap.get? a=some ⟨.ref G.C,some dx,.plain,#[]⟩)
  (ed:s1.heap.get? dx=some (dictOf [] k)) (nL:dx≠env.locals) {Q:Unit->ak}
  (h:∀s2 m2,aV G (λb=>b=env.locals\/bv sc env b) (λz=>False) s1 s2->Inv G s2->RelM G μ φ pa sc env {st with loc:=bq st.loc x (.inst []),own:=[x]} s2.heap m2->bA s2.heap env m2 x (.ref a)->Q () s2):WP G A (pF env x (.ref a)) Q s1:=by
 have nc:∀b o,s1.heap.get? b=some o->(∀v,o.data≠.cell v)->¬bv sc env b:=λb o e hn ⟨x,q1,q2⟩=>by obtain⟨c,cv,q3,o',ho,hd⟩:=X1.aI.ok.cells x (by refine ao (X1.aI.ok.names ..) ?_;exact pM q1);replace q3:=ao (aT q2) q3;obtain rfl:=av q3;rw[e]at ho;obtain rfl:=av ho;exact hn _ hd
 have aL:a≠env.locals:=λw=>by refine je X1.aI.ns λo sr ep ho hd z=>?_;rw[w,ho]at ea;obtain rfl:=av ea;exact nomatch hd
 have d0:b9 st [x]=[]:=by unfold b9;rw[h0];rfl
 have wE:cm sc st x=true:=by unfold cm;rw[hx,hp];rfl
 refine X1.K5 (p:=.inst []) I1 wE (λy hy=>by rw[h0]at hy;exact nomatch hy) (λz z=>d0) (λs2 m2 bw nP=>⟨a,dx,[],k,nP,ha,zg,bw.keep _ _ ea (I1.ct ea (.inl (by nofun))) λw=>w.elim aL (nc a _ ea (by intro v;nofun)),bw.keep _ _ ed (I1.ct ed (.inl (by nofun))) λw=>w.elim nL (nc dx _ ed (by intro v;nofun)),trivial,nL⟩) λs2 m2 bw I2 X2 nP=>h s2 m2 bw I2 (by rw[d0]at X2;exact X2) nP
theorem JU{q:Str×Loc}(fY:q.1∉q.2.map (·.1)/\(q.2.map (·.1)).Nodup)(y):List.lookup y ((q.1,p)::q.2)=(yy (bq [] q.1 p) q.2).lookup y:=by have :=xG (bs:=(q.1,p)::q.2) (l:=[]) (y:=y) (tn.mpr fY);rw[gW]at this;exact this.symm
theorem RelM.seen(X:RelM G μ φ pa sc env st s.heap m)(hx:x∈st.own)(hl:st.loc.lookup x=some p)(hh:bA s.heap env m x (.ref a)):RelV G (aq s.heap μ) p (.ref a):=by
 have O:=X.own _ hx _ hl;have ls:∀b o,aq s.heap (λb=>μ b\/φ b) b o->aq s.heap μ b o:=aq.less λb q=>.inl q;induction p using PV.casesOn with
 |inst fs=>obtain⟨b,dx,es,k,e1,e2,e3,e4,e5,e6,e7⟩:=O;exact DH (e1.det hh)▸(⟨b,_,dx,_,es.toArray,k,rfl,⟨e4,X.aI.dM _ e2,.inl (λh=>bS h)⟩,rfl,rfl,rfl,⟨e5,X.aI.dM _ e3,.inl (by nofun)⟩,rfl,gh.mono ls fs e6⟩:tV _ _ _ (.ref b))
 |list us=>obtain⟨b,dy,k,e1,e2,e3,e4⟩:=O;exact DH (e1.det hh)▸ .ou ⟨e3,X.aI.dM _ e2,.inl (λh=>bS h)⟩ (e4.mono ls)
 |_=>exact O.elim
theorem Fy{hp:bT}{C:aw}:∀b o,hp.get? b=some o->((hp.push emptyDict).push (instObj C hp.objs.size)).get? b=some o:=λb o e=>bU _ _ (bU _ _ e)
noncomputable abbrev sd(s:aB)(C:aw):aB:={s with heap:=(s.heap.push emptyDict).push (instObj C s.heap.objs.size)}
noncomputable abbrev uw(s:aB):al :=λb=>b=s.heap.objs.size+1\/b=s.heap.objs.size
theorem T7(s:aB):∀b,uw s b->s.heap.get? b=none:=λb q=>q.elim (λq=>by rw[q];exact n_ (dX _)) λq=>by rw[q];exact j0 _
theorem Yy(s:aB)(C:aw):(sd s C).heap.get? s.heap.objs.size=some (dictOf [] 0):=bU _ _ (eF _ rfl)
theorem Yz(s:aB)(C:aw):(sd s C).heap.get? (s.heap.objs.size+1)=some ⟨.ref C,some s.heap.objs.size,.plain,#[]⟩:=by have :=eF (s.heap.push emptyDict) (o:=instObj C s.heap.objs.size) rfl;rw[Ah]at this;exact this
theorem Wz(S:bY G)(cx:gv G n r.B)(R:a_ A (n+1))(I:Inv G s)(hd:lV "__init__"=some d)(aW:Hid s.heap μ)(dh:bL G s.heap μ)
  (ii:pO d.scope=true) (eb:tU (.int 0) .none d.args ps kw=some q) (e:iR r d ((q.1,.inst [])::q.2) [q.1]=some (.none,aO)) (el:aO.loc.lookup q.1=some p) (rl:aN G (aq s.heap μ) ps vs) (rk:RelK G (aq s.heap μ) kw cE)
  (h:KV G s μ p Q):WP G A (call (.ref G.C) vs cE) Q s:=by
 obtain⟨f,Ff,Ft,Fn⟩:=S.OS _ _ hd;have X:=I.K S.towA;refine tB (make_core (makes_of X S.makes) (looks_findIn X Ff) (λself=>bind_fn X self Ft) (.inl rfl) ?_);have ed:=Yy s G.C;have ex:=Yz s G.C;have g1:bc G s (sd s G.C):=.of (tk:=s.toks) Fy;have I1:Inv G (sd s G.C):=I.of (tk:=s.toks) Fy;have oW:=T7 s;have ab1:∀b,uw s b->(sd s G.C).heap.get? b≠none:=λb q=>q.elim (λq=>by rw[q,ex];nofun) λq=>by rw[q,ed];nofun
 have wJ:bL G (sd s G.C).heap (uw s):=λb q=>⟨yw I (oW b q),λo e=>q.elim (λq=>by rw[q,ex]at e;obtain rfl:=av e;exact .inl λvs=>by nofun) λq=>by rw[q,ed]at e;obtain rfl:=av e;exact .inl λvs=>by nofun⟩;obtain⟨o,fd,c,F⟩:=Fn.ex;obtain⟨t,P⟩:=F.pre;have FO:=rF (yc e).1;refine oA (Ed FO (D6 eb)) λnR fY=>?_;have fY:=tn.mp fY;refine oE (Ec (P (sd s G.C) I1.old) FO eb rl rk) λFz B=>AV (A:=A.under (.builtin "type.__call__" ⟨.ref G.C::vs,cE⟩)) (ν:=uw s) (fr:=[]) (pa:=λz=>s.heap.objs.size+1) S cx (λenv=>⟨R.hh,(by have :=R.depth;show A.depth+1+1+2*n+60<1000;lia),(by have :=R.units;show A.units+1+3+20*n+600<9900;lia)⟩) I1 (F.fun I1) (B.b _) F.cq
  (λb q=>q.elim (λq=>g1.there b (aW b q)) (ab1 b)) (dh.grow g1 I aW) wJ (λb q w=>aW b w (oW b q)) e (λenv z=>vz ii) (λenv s2 g2 I2 F2 new z=>?_) λenv v s' a9 m' aU I' sub X' fM hv=>?_
 ·have sB:∀b,(sd s G.C).heap.get? b≠none->¬(b=env.locals\/bv d.scope env b):=λb q w=>q (new b w);have b8:∀b o,aq s.heap μ b o->aq s2.heap (λb=>μ b\/((b=env.locals\/bv d.scope env b)\/uw s b)) b o:=λb o q=>
   ⟨(aq.grow (g1.trans g2) I b o q).1,λw=>w.elim q.2.1 λw=>w.elim (sB b (by rw[Fy b o q.1];nofun)) λw=>(by have q1:=q.1;rw[oW b w]at q1;exact aK q1),q.2.2⟩
  have X0:RelM G μ (λb=>(b=env.locals\/bv d.scope env b)\/uw s b) (λz=>s.heap.objs.size+1) d.scope env ⟨[],[],[]⟩ s2.heap (λz=>none):=
   ⟨F2,λx hx=>(nomatch hx),λx hx=>(nomatch hx),λx hx=>(nomatch hx),λx hx=>(nomatch hx)⟩
  refine X0.T6 I2 (nR _ ch) rfl rfl (.inr (.inl rfl)) (.inr (.inr rfl)) (g2.keep _ _ ex (I1.ct ex (.inl (by nofun)))) (g2.keep _ _ ed (I1.ct ed (.inl (by nofun)))) (λw=>sB _ (by rw[ed];nofun) (.inl w)) λs3 m3 mh I3 X3 hh3=>?_;have X3':RelM G μ (λb=>(b=env.locals\/bv d.scope env b)\/uw s b) (λz=>s.heap.objs.size+1) d.scope env ⟨bq [] q.1 (.inst []),[q.1],[q.1]⟩ s3.heap m3:=
   ⟨X3.aI,X3.own,X3.inj,X3.one,λy hy=>by rw[cW hy];exact hh3⟩
  exact xN q.2 Fz ⟨bq [] q.1 (.inst []),[q.1],[q.1]⟩ _ s3 _ B.n (λx hx=>⟨nR x (cf _ hx),λw=>fY.1 (cW w▸hx),λw=>fY.1 (cW w▸hx)⟩) (B.r.mono λb o q=>aq.aU mh I2 (λb q=>.inr (.inl q)) b o (b8 b o q)) X3' I3
   λs4 m4 HS I4 X4=>⟨m4,(mh.trans HS).mono (λb q=>.inl q) λz q=>q,I4,X4.congr (JU fY)⟩
 ·refine oA (fM q.1 ch) λo1 o2=>?_;have hh:=X'.pin _ o2;have g':=(aV.after g1 aU (a9:=dv) (cU:=λz=>False) (λb q=>.inl (oW b q)) λz q=>q.elim).grow (λz q=>q.elim) λz q=>q.elim;exact⟨hv,h _ s' g' I' (X'.seen o1 el hh)⟩
theorem aag(S:bY G)(cx:gv G n r.B):uv G (n+1) (N0 r):=by
 intro A μ nm ps kw p s a vs cE Q e R I aW dh hc rl rk h;refine dU e (λhq e=>?_) λhq e=>?_
 ·rcases hc with hc|hc
  ·exact bx hq hc.1
  ·rw[hc.2];exact aF e λd hd e=>aZ e λii e=>aF e λq eb e=>aF e λs2 e1 e=>Wz S cx R I hd aW dh ii eb (GR e1) e rl rk h
 ·rcases hc with hc|hc
  ·exact aF e λd hd e=>aZ e λii e=>aF e λb eb e=>cj e λq e1 e=>Yx S cx R I (hc.2 d hd) aW dh ii eb e1 rl rk λv s' g I' hv=>h v s' g I' (e▸hv)
  ·exact bx hc.1 hq
theorem Ku(lt:α->α->Bool)(x:α):∀l:List α,(cX lt x l).Perm (x::l):=by
 intro l;induction l with
 |nil=>exact .refl _
 |cons y r ih=>
  simp only[cX]
  split
  ·exact((ih).cons y).trans (List.Perm.swap x y r)
  ·exact .refl _
theorem Ef(lt:α->α->Bool):∀l:List α,(dE lt l).Perm l:=by
 intro l;induction l with
 |nil=>exact .refl _
 |cons x r ih=>simp only[dE];exact(Ku lt x _).trans ((ih).cons x)
theorem SO(x):∀l:ac,l.Pairwise (· <= ·)->(cX (λa b=>decide (a<b)) x l).Pairwise (· <= ·):=by
 intro l;induction l with
 |nil=>intro _;simp [cX]
 |cons y r ih=>
  intro h;rw[IY]at h;simp only[cX]
  split
  ·rename_i hc;rw[IY];refine⟨λz hz=>?_,ih h.2⟩;rcases cc.mp ((Ku _ x r).mem_iff.mp hz)with q|q
   ·have :y<x:=by simpa using hc
    lia
   ·exact h.1 z q
  ·rename_i hc;rw[IY];have hc:¬y<x:=by simpa using hc
   refine⟨λz hz=>?_,IY.mpr h⟩;rcases cc.mp hz with q|q
   ·lia
   ·have :=h.1 z q;lia
theorem Sx:∀l:ac,(dE (λa b=>decide (a<b)) l).Pairwise (· <= ·):=by
 intro l;induction l with
 |nil=>exact .nil
 |cons x r ih=>exact SO x _ (ih)
theorem T8:∀(r:ac)(a:Int),(l7 a r=a\/l7 a r∈r)/\a<=l7 a r/\∀x∈r,x<=l7 a r:=by
 intro r;induction r with
 |nil=>exact λa=>⟨.inl rfl,by simp [l7],λx hx=>nomatch hx⟩
 |cons b r ih=>
  intro a;simp only[l7];refine c_ (ih (if a<b then b else a)) λh1 h2 h3=>?_;have e1:a<=if a<b then b else a:=by split <;>lia
  have e2:b<=if a<b then b else a:=by split <;>lia
  refine⟨?_,cD e1 h2,λx hx=>?_⟩
  ·refine vx h1 (λh1=>?_) λh1=>?_
   ·rw[h1];by_cases h:a<b
    ·rw[aA h];exact .inr (by simp)
    ·rw[aJ h];exact .inl rfl
   ·exact .inr (cf _ h1)
  ·rcases cc.mp hx with q|q
   ·subst q;exact cD e2 h2
   ·exact h3 x q
theorem Ek(h:bo k=true):k<=1000000:=by simpa [bo]using h
theorem aN.all_ints(h:aN G V ps items.toList)(e:intsOf ps=some li):AllInts items/\numsOf items.toList=li/\IntsAre items.toList li:=by have hi:=h.ints e;exact⟨by have :=hi.allInts;simpa using this,hi.numsOf,hi⟩
noncomputable abbrev WC(G:bE)(A:dQ)(f:ar)(Q:ar->ak)(s:aB)(vs:List ar):Prop :=WP G A (call f vs) Q s
theorem WA(e:NN ps=some p)(I:Inv G s)(rl:aN G (aq s.heap μ) ps vs)(h:KV G s μ p Q):
  WC G A (.builtin "len") Q s vs:=by
 refine aF e λq h1 e=>aF e λn h2 e=>aZ e λhz e=>?_;rw[fH h1]at rl;have fin:∀(k:Nat)(t:Tok)(tk:Nat),k=n->Q (.int k t) {s with toks:=tk}:=λk t tk hk=>h _ _ (.tok _) (I.tok _) (hk▸av e▸ .mkInt _ _ _);have hz:=Ek hz;refine rl.ki λv r1=>?_;induction q using PV.casesOn with
 |list xs=>refine r1.listE (P:=λv=>WC G A (.builtin "len") Q s [v]) λa items c ha r2=>?_;have hn:=(r2.length.trans pu).symm.trans (av h2);exact ah0 ⟨_,ha.1,rfl,c,rfl⟩ (by lia) (fin _ _ _ hn)
 |tup xs=>refine r1.kh (P:=λv=>WC G A (.builtin "len") Q s [v]) λa o items c ha hc hd r2=>?_;have hn:=(r2.length.trans pu).symm.trans (av h2);exact ahQ ⟨_,ha.1,hc,c,hd⟩ (by lia) (fin _ _ _ hn)
 |str x=>exact r1.wd (P:=λv=>WC G A (.builtin "len") Q s [v]) λt=>len_str (by have :=av h2;lia) (fin _ _ _ (av h2))
 |_=>exact aK h2
theorem Kv(e:vJ ps=some p)(I:Inv G s)(H:Hid s.heap μ)(rl:aN G (aq s.heap μ) ps vs)(h:KV G s μ p Q):
  WC G A (.type "range") Q s vs:=by
 have fin:∀(a b c:Int)(t1 t2 t3:Tok)(tk:Nat),PV.ey a b c=p->Q (.ref s.heap.objs.size) {s with heap:=s.heap.push {cls:=.type "range",data:=.fields #[.int a t1,.int b t2,.int c t3]},toks:=tk}:=λa b c t1 t2 t3 tk hp=>
  h _ _ (.of bU) (I.of bU) (hp▸(⟨_,t1,t2,t3,rfl,vF rfl (.inl (λh=>bS h)) H.fresh⟩:pX _ a b c _))
 refine aF e λq h1 e=>aF e λa h2 e=>?_;rw[gZ h1,jv h2]at rl;refine rl.fJ λv vs r1 rl=>r1.ji (P:=λv=>WC G A (.type "range") Q s (v::vs)) λt=>?_;generalize q.2=r at rl e;induction r with
 |nil=>exact rl.fW (P:=λvs=>WC G A (.type "range") Q s (_::vs)) (call_range_1 (fin _ _ _ _ _ _ _ (av e)))
 |cons b r=>
  refine aF e λb' h3 e=>rl.fJ (P:=λvs=>WC G A (.type "range") Q s (_::vs)) λv2 vs r2 rl=>?_;rw[jv h3]at r2;refine r2.ji (P:=λv2=>WC G A (.type "range") Q s (_::v2::vs)) λt2=>?_;induction r with
  |nil=>exact rl.fW (P:=λvs=>WC G A (.type "range") Q s (_::_::vs)) (call_range_2 (fin _ _ _ _ _ _ _ (av e)))
  |cons c r=>
   refine aF e λc' h4 e=>aZ e λhc e=>be hc λc1 c2=>?_;rw[Bt h4]at rl;have c1:=bu c1;have c2:=bu c2;exact rl.ki (P:=λvs=>WC G A (.type "range") Q s (_::_::vs)) λv3 r3=>r3.ji (P:=λv3=>WC G A (.type "range") Q s (_::_::[v3])) λt3=>
    call_range_3 (lP (ag5 c1)) (fin _ _ _ _ _ _ _ (av e)) (.inl (Q6 (by omega)))
theorem K9{q:PV}{w:Int×Int}(h:NO q=some w):q=.ey w.1 w.2 1:=by
 induction q using PV.casesOn with
 |ey a b c=>exact aZ h λhc e=>by rw[<-av e,bu hc]
 |_=>exact aK h
theorem Vd(e:vN ps=some p)(hh:A.handled=none)(I:Inv G s)(H:Hid s.heap μ)(rl:aN G (aq s.heap μ) ps vs)(h:KV G s μ p Q):
  WC G A (.type "list") Q s vs:=by
 refine aF e λq h1 e=>aZ e λhc e=>gg hc λc1 c2 c3=>?_;rw[fH (oP K9 h1)]at rl;have c1:=bu (show decide (q.1.natAbs<2^62)=true from c1);have c2:=bu (show decide (q.2.natAbs<2^62)=true from c2);have c3:=Ek c3;refine rl.ki λv r1=>?_;obtain⟨ra,t1,t2,t3,hv,h1⟩:=(r1:pX _ _ _ _ v);rw[hv];refine call_list_range hh h1.1 (small_one (by lia) (by lia) (by lia) (by lia)) (A' (by decide)) (by lia) λh' tk yJ c' hk ha hi=>h _ _ (.of hk) (I.of hk) (av e▸ .ou ⟨ha,λq=>(H _ q) (j0 _),.inl (λh=>bS h)⟩ ?_);obtain⟨i1,i2⟩:=hi;refine aN.of_get (by simpa using i1.symm) λj p v e1 e2=>?_;rw[re]at e2;refine oE (i2 j v e2) λt hv=>?_;rw[EU e1,hv];exact .mkInt _ _ _
theorem T9(e:LC ps=some p)(I:Inv G s)(H:Hid s.heap μ)(rl:aN G (aq s.heap μ) ps vs)(h:KV G s μ p Q):
  WC G A (.type "tuple") Q s vs:=by
 refine aF e λxs h1 e=>aZ e λhz e=>?_;rw[ya h1]at rl;refine rl.ki λv r1=>r1.listE (P:=λv=>WC G A (.type "tuple") Q s [v]) λa items c ha rl=>?_;have hl:=rl.length.trans pu;refine call_tuple_list ⟨_,ha.1,rfl,c,rfl⟩ (λh' hk=>?_) (hl▸ol hz);have kp:∀b o,s.heap.get? b=some o->(h'.push {cls:=.type "tuple",data:=.seq items}).get? b=some o:=λb o e=>bU _ _ (hk b o e);refine h _ _ (.of kp) (I.of kp) (av e▸ .F_ ⟨eF _ rfl,λq=>H _ q ?_,.inl (λh=>bS h)⟩ rfl rfl (rl.mono (aq.keeps kp)));cases q:s.heap.get? h'.objs.size with
 |none=>rfl
 |some o=>exact bx (fQ (hk _ _ q)) (mL _)
theorem WB(e:mU ps=some p)(hh:A.handled=none)(I:Inv G s)(rl:aN G (aq s.heap μ) ps vs)(h:KV G s μ p Q):
  WC G A (.builtin "sum") Q s vs:=by
 refine aF e λxs h1 e=>cj e λli qE e=>?_;rw[ya h1]at rl;refine rl.ki λv r1=>r1.listE (P:=λv=>WC G A (.builtin "sum") Q s [v]) λa items c ha rl=>?_;obtain⟨a1,a2,a3⟩:=rl.all_ints qE;refine oE a1.items λys bb=>?_;subst bb;rw[nums_intItems]at a2;refine sum_intListG hh ⟨_,ha.1,rfl,c,rfl⟩ λh' tk t' hk=>h _ _ (.of hk) (I.of hk) ?_;rw[preSum_eq,xb (by simp),a2,<-e];exact .mkInt _ _ _
theorem Ve{xs:Array (Int×Tok)}{r:ac}(a2:xs.toList.map (·.1)=i::r):numAt xs (argBest (λi j=>decide (numAt xs i>numAt xs j)) (xs.size-1))=l7 i r:=by
 have ie:0<xs.size:=by have :=aR xA a2;simp at this;exact Re this
 refine oA (argBest_gt (numAt xs) (xs.size-1)) λh1 h2=>c_ (T8 r i) λm1 m2 m3=>?_;generalize argBest (λi j=>decide (numAt xs i>numAt xs j)) (xs.size-1)=k at h1 h2;have inl:numAt xs k∈i::r:=by rw[<-a2,numAt_eq];exact getD_mem (by rw[ba,pu];exact Nat.lt_of_le_pred ie h1)
 have ge:l7 i r<=numAt xs k:=by have hm:=m1.elim (λq=>by rw[q];exact ch) (cf _);rw[<-a2]at hm;refine br (mem_getD hm) λj hj hjj=>?_;rw[ba,pu]at hj;have :=h2 j ((Nat.le_sub_one_iff_lt ie).mpr hj);rw[numAt_eq xs j]at this;rw[<-hjj];exact this
 have le:=(cc.mp inl).elim (λq=>q▸m2) (m3 _);exact agM le ge
theorem WD(e:BJ ps=some p)(hh:A.handled=none)(I:Inv G s)(rl:aN G (aq s.heap μ) ps vs)(h:KV G s μ p Q):
  WC G A (.builtin "max") Q s vs:=by
 refine aF e λq h1 e=>?_;rw[gZ h1]at rl;generalize q.1=a at rl e;generalize q.2=r at rl e;induction r with
 |cons b r=>
  refine aF e λi h2 e=>cj e λj h3 e=>?_;rw[jv h2,Bt h3]at rl;refine rl.Ca λv u r1 r2=>r1.ji (P:=λv=>WC G A (.builtin "max") Q s [v,u]) λt=>r2.ji (P:=λu=>WC G A (.builtin "max") Q s [_,u]) λt2=>max_two_ints hh λh' tk hk=>h _ _ (.of hk) (I.of hk) ?_;rw[<-e];by_cases hc:i<j
  ·rw[aA hc,aA (Int.lt_of_add_one_le hc)];exact .mkInt _ _ _
  ·rw[aJ hc,aJ (Not.imp hc λa=>a)];exact .mkInt _ _ _
 |nil=>
  refine aF e λxs h2 e=>aF e λli qE e=>?_;rw[AG h2]at rl;induction li with
  |nil=>exact aK e
  |cons i r=>
   refine rl.ki λv r1=>r1.listE (P:=λv=>WC G A (.builtin "max") Q s [v]) λa items c ha rl=>c_ (rl.all_ints qE) λa1 a2 a3=>oE a1.items λys bb=>?_;subst bb;replace a2:=ao (aT (nums_intItems ..)) a2;have ie:0<ys.size:=by have :=aR xA a2;simp at this;exact Re this
   refine max_intList hh ⟨_,ha.1,rfl,c,rfl⟩ ie λv h' tk hv hk=>h _ _ (.of hk) (I.of hk) ?_;refine oE (intItems_at hv) λt hv=>?_;rw[hv,Ve a2,<-av e];exact .mkInt _ _ _
theorem Tc(e:KL ps=some p)(I:Inv G s)(H:Hid s.heap μ)(rl:aN G (aq s.heap μ) ps vs)(h:KV G s μ p Q):
  WC G A (.builtin "divmod") Q s vs:=by
 refine aF e λq h1 e=>aF e λa h2 e=>aF e λb h3 e=>GN e λhc e=>?_;rw[gZ h1,jv h2,Bt h3]at rl;have hc:¬b=0/\¬1000000000<b.natAbs:=by simpa using hc
 refine rl.Ca λv u r1 r2=>r1.ji (P:=λv=>WC G A (.builtin "divmod") Q s [v,u]) λt=>r2.ji (P:=λu=>WC G A (.builtin "divmod") Q s [_,u]) λt2=>divmod_int hc.1 (h _ _ (.of bU) (I.of bU) (av e▸ .F_ (vF rfl (.inl (λh=>bS h)) H.fresh) rfl rfl (.mkCons (.mkInt _ _ _) (.mkCons (.mkInt _ _ _) .mkNil)))) (.inl (Q6 (by omega)))
theorem Td(e:tI ps=some p)(I:Inv G s)(H:Hid s.heap μ)(rl:aN G (aq s.heap μ) ps vs)(h:KV G s μ p Q):
  WC G A (.builtin "sorted") Q s vs:=by
 refine aF e λxs h1 e=>aF e λli qE e=>aZ e λhz e=>?_;rw[ya h1]at rl;refine rl.ki λv r1=>r1.listE (P:=λv=>WC G A (.builtin "sorted") Q s [v]) λa items c ha rl=>?_;obtain⟨a1,a2,a3⟩:=rl.all_ints qE;refine ahJ ⟨_,ha.1,rfl,c,by simp⟩ a3 (by rw[<-rl.length];exact bu hz) λout ns' b1 b2 b3=>?_;have hk:∀b o,s.heap.get? b=some o->(sortedAll s.heap items.toList out).get? b=some o:=λb o e=>sortedAll_old e;obtain⟨ee,he⟩:=sortedAll_at s.heap items.toList out;have gB:=List.Perm.eq_of_pairwise (λa b z z h1 h2=>agM h1 h2) b3 (Sx li) (b2.trans (Ef _ li).symm);exact h _ _ (.of hk) (I.of hk) (av e▸ .ou ⟨he,λq=>H _ q (n_ (dX _)),.inl (λh=>bS h)⟩ (gB▸aN.Wq b1))
theorem qj.get:∀{cJ:Loc}{cl:List (Str×aw)}{x:Str}{p:PV},qj G V cJ cl->cJ.lookup x=some p->ur V (RelV G V p) cl x
 |[],_,_,_,_,e=>aK e
 |(y,q)::r,cl,x,p,h,e=>by
  rw[dp]at e;by_cases hx:x=y
  ·rw[hx,beq_self_eq_true]at e;exact hx▸av e▸h.1
  ·rw[dq hx]at e;exact qj.get h.2 e
theorem M6{a:cH}(h:a.kwonlyargs=[])(q:ua a=true):False:=be q λz q2=>by have :=bu q2;rw[h]at this;cases this
theorem El(par:fd.params=d.args)(hd:fd.defaults=.none)(hk:d.args.kwonlyargs=[]):om s d fd 0:=⟨par,λz=>hd,λq=>(M6 hk q).elim⟩
theorem uf.oQ{w:ar}{q:Str}(c:uf (aq h μ) w q):h.CodeRec w q:=let⟨c,oc,wz,t,q1,q2,q3,q4⟩:=c;⟨c,oc,wz,t,q1,q2.1,q3,q4⟩
theorem LZ(S:bY G)(aM:ca G n r.E)(R:∀env,a_ (A.deeper env) n)(I:Inv G s){a:cH}{b:Expr}{ls:aH}{cJ:Loc}{fv:ar}(hv:RelV G (aq s.heap μ) (.lam a b ls cJ) fv)(aW:Hid s.heap μ)(dh:bL G s.heap μ)
  (e:j5 r a b ls cJ ps=some p) (rl:aN G (aq s.heap μ) ps vs) (h:KV G s μ p Q):WP G A (call fv vs []) Q s:=by
 refine aZ e λhc e=>r7 hc λc1 c2 c3 c4=>aF e λbs eb e=>be c3 λc5 c6=>?_;have F:=rF c1;have hs:kg ls=true:=F.sc;obtain⟨k1,k2,k3⟩:=AI hs;obtain⟨f,o,fd,iV,ho,hd,h1,h2,h3,h4,h5,h6,h7,yz,rc⟩:=(hv:pY _ _ _ _ _ fv);refine Bk (AW (s:=s) (fd:=fd) (cE:=[]) (El h1 h6 (dd c4)) F eb rl ⟨rfl,.mkNil⟩) λnR fY binds hB hn hvb=>?_;rw[iV];refine tB (kla_callFunE (by show A.depth<1000;have :A.depth+1+2*n+60<1000:=(R default).depth;lia) ho.1 hd (by rw[h3];exact k2) (by rw[h3];exact k3) h2 yz.oQ (hB _ _ _ _ (Cz (by rw[h3];exact xK hs) λs1 N=>?_)));refine NG (@xF ls s.heap.objs.size fd.globals (fT (s.heap.objs.size+1) ls.names fd.closure) (fd.qualname++".<locals>.") (some f) fd.code none fd.builtins) λky nI gA nJ nM=>?_;generalize yP:rP fd.scope fd.globals fd.closure (fd.qualname++".<locals>.") (some f) fd.code none fd.builtins s.heap.objs.size=env at N⊢;have rQ:newEnv ls s.heap.objs.size fd.globals (fT (s.heap.objs.size+1) ls.names fd.closure) (fd.qualname++".<locals>.") (some f) fd.code none fd.builtins=env:=by rw[<-yP,h3];rfl
 rw[rQ]at ky nI gA nJ nM;rw[h3]at N;have T:oI G μ ls fd.closure env cJ s.heap:=by
  refine⟨λx hx=>?_,λx p hp=>?_⟩
  ·refine oE (Dh.mp (show(cJ.lookup x).isSome=true from cF.mp c5 _ (lL hx))) λp hp=>?_;obtain⟨c,o,v,d1,d2,d3,d4⟩:=rc.get hp;exact⟨c,some v,d1,⟨o,d2.1,d3⟩,d2.2.1⟩
  ·obtain⟨c,o,v,d1,d2,d3,d4⟩:=rc.get hp;exact⟨beq_iff_eq.mp (cF.mp c6 _ (lL hp)),c,v,d1,⟨o,d2.1,d3⟩,slot_of d4⟩
 obtain⟨g1,I1,F1⟩:=bM.enter N I aW dh (Ax S.y8 c2) hs T rfl rfl (by rw[gA];exact k1) (by rw[nJ];exact h4) (by rw[nM];exact h5)
  (λx=>by show kc (env.scope.names.lookup x)=_;rw[gA]) (λx q=>by show env.scope.names.lookup x=_;rw[gA];exact q)
 have new:∀b,(b=env.locals\/bv ls env b)->s.heap.get? b=none:=λb q=>q.elim (λq=>q▸N.new) λ⟨x,h1,h2⟩=>by refine eW (N.cells x h1) λc c1 c2 z=>?_;replace c1:=ao (aT h2) c1;obtain rfl:=av c1;exact c2
 have b8:∀b o,aq s.heap μ b o->aq s1.heap (λb=>μ b\/(b=env.locals\/bv ls env b)) b o:=λb o q=>
  ⟨(aq.grow g1 I b o q).1,λw=>w.elim q.2.1 λw=>(by have q1:=q.1;replace q1:=ao (aT (new b w)) q1;exact aK q1),q.2.2⟩
 have X0:RelM G μ (λb=>b=env.locals\/bv ls env b) (λz=>0) ls env ⟨cJ,[],[]⟩ s1.heap (λz=>none):=
  ⟨F1.congr λy=>by refine ao eQ ?_;rfl,λx hx=>(nomatch hx),λx hx=>(nomatch hx),λx hx=>(nomatch hx),λx hx=>(nomatch hx)⟩
 refine gJ.conv ?_;refine xN bs binds ⟨cJ,[],[]⟩ _ s1 _ hn (λx hx=>⟨nR x hx,(λq=>nomatch q),λq=>nomatch q⟩) (hvb.mono b8) X0 I1 λs2 m2 bw I2 X2=>⟨I2.lim S.towA,kla_codeExpr ?_⟩;have F2:bM G μ (λb=>b=env.locals\/bv ls env b) ls env (bs++cJ) s2.heap m2:=X2.aI.congr λy=>by rw[eQ];exact(xG fY).symm
 refine db (aM _ _ _ _ _ _ _ _ _ e (R env) I2 F2.fo λv s3 g3 I3 r3=>?_) (λz z q=>q) λz z q=>q.elim;have aU:aV G dv (λz=>False) s s3:=aV.after g1 (bw.trans g3.aU) (λb q=>.inl (new b q)) λz q=>q.elim;exact h v s3 (aU.grow (λz q=>q.elim) λz q=>q.elim) I3 (r3.mono (aq.less λb q=>.inl q))
theorem Em(h:pQ sc l cs=true):rC cs=true/\freeOk cs sc=true/\∀x a b c2,(free cs l).lookup x=some (.gc a b c2)->c2.names=cs.names:=
 gg h λh1 h2 h3=>⟨h1,h2,λx a b c2 hx=>bu (cF.mp h3 _ (lL hx))⟩
theorem SP{own:af}(h:pQ sc l cs=true):pQ sc (hide own l) cs=true:=by simp only[pQ,lI,cF]at h⊢;refine⟨h.1,λq hq=>h.2 q ?_⟩;simp only[free,hide,jT]at hq⊢;exact⟨hq.1.1,hq.2⟩
theorem J8(X:cu G μ sc env l h){a:cH}{b:ad}{f:aw}{o:Obj}(sA:fd.scope=cs)(h1:∀x,cs.names.lookup x=some .free->∃c,fd.closure.lookup x=some c/\env.cells.lookup x=some c)(uQ:pQ sc l cs=true)
  (ew:Env) (he:∀x,cs.names.lookup x≠some .cell->ew.cells.lookup x=fd.closure.lookup x):oI G μ cs fd.closure ew (free cs l) h:=by
 refine c_ (Em uQ) λk1 k2 k3=>?_;have kc:∀{x:Str},cs.names.lookup x=some .free->kc (env.kindOf x)=1:=λ{x} hx=>by have :=AJ k2 (lL hx);refine ao (X.ok.names ..) ?_;exact this
 refine⟨λx hx=>?_,λx p hp=>?_⟩
 ·refine br (h1 x hx) λc c1 c2=>gb (X.ok.cells x (kc hx)) λc' cv c3 c4=>?_;replace c3:=ao (aT c2) c3;obtain rfl:=av c3;exact⟨c,cv,c1,c4,X.hC x c (kc hx) c2⟩
 ·refine oA (D_ hp) λhx wE=>br (h1 x hx) λc c1 c2=>br X.slots λm z hs=>br (hs x p wE) λv w1 w2=>⟨hx,c,v,c1,?_,?_⟩
  ·rcases w1 with⟨w,_⟩|⟨_,c',w3,w4⟩
   ·have :=kc hx;rw[w]at this;exact nomatch this
   ·replace w3:=ao (aT c2) w3;obtain rfl:=av w3;exact w4
  ·rcases w2 with w2|⟨a2,b2,HF,rfl,f2,o2,fd2,d1,d2,d3,d4,d5,d6,d7,d8,d9,HT,d11,wK,HU⟩
   ·exact .inl w2
   ·have hn:=k3 x a2 b2 HF hp;refine .inr ⟨a2,b2,HF,rfl,ug.mk f2 o2 fd2 d1 d2 d3 d4 d5 d6 d7 d8 d9 HT d11 (λy hy=>?_) HU⟩;refine br (wK y hy) λc' e1 e2=>?_;have PN:cs.names.lookup y=some .free:=by rw[<-hn];exact hy
    refine br (h1 y PN) λc'' e3 e4=>?_;replace e4:=ao (aT e2) e4;obtain rfl:=av e4;exact⟨c',e1,by refine ao (he y (by rw[PN];nofun)) ?_;exact e3⟩
theorem Vf(S:bY G)(aM:ca G n r.E)(cx:gv G n r.B){np:Pos}{as:ah}{c:cH×ad×aH}(hc:vO sc l x=some c)(ea:dG r sc l as=some ps)(e:Eu r l c.1 c.2.1 c.2.2 ps=some p)
  (R:a_ A (n+1)) (I:Inv G s) (X:cu G μ sc env l s.heap) (h:KV G s μ p Q):
  WP G A (bQ (.Call (.Name x np) as [] pos) env) Q s:=by
 refine aZ hc λhk hc=>aF hc λq hl hc=>?_;have hk:=bu hk;have hq:q=.gc c.1 c.2.1 c.2.2/\pQ sc l c.2.2=true:=MO hc (λa b cs q e=>aZ e λho e=>av e▸⟨q,ho⟩) aK;obtain⟨hq,uQ⟩:=hq;rw[hq]at hl;obtain⟨n1,n2⟩:=vW X.ok (x:=x) (eO (ag2 hk (by decide)));obtain⟨m,hn,hs⟩:=X.slots;refine br (hs x _ hl) λv w1 w2=>?_;obtain⟨f,o,fd,hv,d2,d3,d4,d5,d6,d7,d8,d9,HT,yz,wK,HU⟩:=w2.gc;refine aZ e λzf e=>aF e λbs eb e=>cj e λw e1 e2=>z9 (wpAny_Name (Au X.ok hn w1 ?_ n2) (by simpa using n1));rw[hv];refine xH (first :=[]) (ks:=[]) (kw:=[]) aM ea rfl (R.less (dX n)) I X (λs' g' I'=>rB (g'.keep _ _ d2.1 (I.ct d2.1 d2.2.2)) d3) λvs cE s1 qF I1 rl rk=>?_;have X1:=X.grow qF I;have b8:=aq.grow qF I (μ:=μ);have HR:=oa.mp rk.1.symm;subst HR;exact run_plain (d:=⟨c.1,c.2.1,c.2.2⟩) S cx R I1 ⟨(b8 _ _ d2).1,d3,d5,d6,d7,d8,(yz.mono b8).oQ⟩ (El d4 d9 (dd zf)) (λenv z z=>Ax S.y8 (Em uQ).1) X1.aW X1.soft eb e1
  (λew he=>J8 (a:=c.1) (b:=c.2.1) (f:=f) (o:=o) X1 d6 wK uQ ew he) rl rk λv s' g' I' hv=>h v s' (qF.trans g') I' (e2▸hv)
def yA(G:bE)(n:Nat)(r:Rec):Prop :=
 ∀(A:dQ)(μ:al)(a:cH)(b:Expr)(ls:aH)(cJ:Loc)(xs:ab)(ps:List (ac×PV))(p:PV)(lv fv:ar)(s:aB)(Q:ar->ak),
  a_ A (n+1)->Inv G s->Hid s.heap μ->bL G s.heap μ->qi (λv=>j5 r a b ls cJ [v]) xs=some ps->xM ps=some p->RelV G (aq s.heap μ) (.list xs) lv->RelV G (aq s.heap μ) (.lam a b ls cJ) fv->
  (KV G s μ p Q)->WP G A (call (.builtin "sorted") [lv] [(("key":Str),fv)]) Q s
theorem WE(e:NP ps=some p)(R:a_ A n)(I:Inv G s)(rl:aN G (aq s.heap μ) ps vs)(h:KV G s μ p Q):WC G A (.type "str") Q s vs:=by refine cj e λx h1 e=>?_;rw[Yk h1]at rl;refine rl.ki λv r1=>?_;obtain⟨ea,o,t,eb,eo,k,hv,h1,h2,⟨ws,h3,h4⟩,h5,h6,h7⟩:=(r1:rO _ _ v);rw[hv];exact P.str_of_exc_one F.excStr_ValueError (by have :=R.units;show A.units+2<9900;lia) ⟨o,ws,h1.1,h2,h3,h4⟩ ⟨eo,k,h5.1,h6,h7⟩ (h _ _ .refl I (e▸ .mkStr _ _ _))
theorem WF(S:bY G)(e:FU nm ps=some p)(R:a_ A n)(I:Inv G s)(H:Hid s.heap μ)(rl:aN G (aq s.heap μ) ps vs)
  (h:KV G s μ p Q):WC G A (oR nm) Q s vs:=
 dU e (λq e=>q▸WA e I rl h) λz e=>dU e (λq e=>q▸Kv e I H rl h) λz e=>dU e (λq e=>q▸Vd e R.hh I H rl h) λz e=>dU e (λq e=>q▸T9 e I H rl h) λz e=>
 dU e (λq e=>q▸WB e R.hh I rl h) λz e=>dU e (λq e=>q▸WD e R.hh I rl h) λz e=>dU e (λq e=>q▸Tc e I H rl h) λz e=>dU e (λq e=>q▸Td e I H rl h) λz e=>
 dU e (λq e=>q▸WE e R I rl h) λz e=>aK e
theorem WG(h:(fnOf nm).isSome=true):nm≠"Whitespace":=λq=>by subst q;revert h;decide +kernel
theorem AL(S:bY G){f:ar}(h:(fnOf nm).isSome=true)(hf:G.mg nm=some f):∃a d,f=.ref a/\fnOf nm=some d/\l9 G d nm a/\Callee G nm a:=by obtain⟨d,hd⟩:=Dh.mp h;refine br (S.fns nm d hd) λa h1 h2=>?_;rw[hf]at h1;obtain rfl:=av h1;refine⟨a,d,rfl,hd,h2,.inl ⟨WG h,λd' eM=>?_⟩⟩;unfold A9 at eM;rw[hd]at eM;cases eM;exact h2
theorem Te(S:bY G)(aM:ca G n r.E)(nS:uv G n r.C)(SK:yA G n r){f:PV}{fv:ar}(e:yg r f ps kw=some p)(R:a_ A (n+1))(I:Inv G s)(H:Hid s.heap μ)(dh:bL G s.heap μ)
  (hf:RelV G (aq s.heap μ) f fv) (rl:aN G (aq s.heap μ) ps vs) (rk:RelK G (aq s.heap μ) kw cE) (h:KV G s μ p Q):
  WP G A (call fv vs cE) Q s:=by
 induction f using PV.casesOn with
 |fn nm=>refine aZ e λhs e=>Fe (AL S hs hf) λa d iV hd z hc=>?_;rw[iV];exact nS _ _ _ _ _ _ _ _ _ _ _ e (R.less (dX n)) I H dh hc rl rk h
 |cls=>refine aZ e λhk e=>?_;rw[dd hk]at rk;rw[av ((show G.mg "Whitespace"=some fv from hf).symm.trans S.hC)];exact nS _ _ _ _ _ _ _ _ _ _ _ e (R.less (dX n)) I H dh (.inr ⟨rfl,rfl⟩) rl rk h
 |blt nm=>
  refine aZ e λhb e=>?_;rw[av ((show G.mg nm=none/\G.mb nm=some fv from hf).2.symm.trans (S.blt nm (cN.mp hb)))];induction kw with
  |nil=>rw[show cE=[] from oa.mp rk.1.symm];exact WF S e R I H rl h
  |cons q ks=>
   refine aZ e λhk e=>aZ e λhc e=>be hc λhn hq=>aF e λL hL e=>aF e λxs hx e=>aF e λqs e1 e2=>?_;rw[ya hx]at rl;refine oA rk λk1 k2=>?_;rw[dd hk]at k1 k2;induction cE with
   |nil=>cases k1
   |cons q' r'=>refine oA (DI k1) λw1 w2=>?_;rw[show nm="sorted" from bu hn,show r'=[] from oa.mp w2.symm,show q'=(("key":Str),q'.2) from Prod.ext ((show q.1=q'.1 from w1).symm.trans (bu hq)) rfl];exact rl.ki (P:=λvs=>WP G A (call (oR "sorted") vs [(("key":Str),q'.2)]) Q s) λlv rl=>SK _ _ _ _ _ _ _ _ _ _ _ _ _ R I H dh e1 e2 rl (UY hL▸k2.1) h
 |lam a b ls cJ=>refine aZ e λhk e=>?_;rw[dd hk]at rk;rw[show cE=[] from oa.mp rk.1.symm];exact LZ S aM R.call I hf H dh e rl h
 |_=>exact aK e
theorem se{c:Prop}[Decidable c]{a b:α}{P:α->Prop}(ha:P a)(hb:P b):P (if c then a else b):=by
 by_cases h:c
 ·rw[aA h];exact ha
 ·rw[aJ h];exact hb
noncomputable abbrev Kp(G:bE)(h:bT)(f:ar):Prop :=∃k,(k=DR\/k=DG\/k=Dv)/\Looks (bp G.prog G.w) h (keeperOf f) k
theorem Tf:Kp G h (oR nm):=
 se vy (se xJ (se xJ (se xJ (se vy (se vy (se vy (se vy xJ)))))))
theorem T_(S:bY G)(I:Inv G s){f:PV}{fv:ar}(e:yg r f ps kw=some p)(hf:RelV G (aq s.heap μ) f fv)(s':aB)(g':bc G s s')(I':Inv G s'):Kp G s'.heap fv:=by
 induction f using PV.casesOn with
 |fn nm=>refine aZ e λhs e=>Fe (AL S hs hf) λa d iV hd Fn hc=>oM Fn.ex λo fd c F=>?_;rw[iV];exact rB (I'.old _ _ F.ho) F.hd
 |cls=>rw[av ((show G.mg "Whitespace"=some fv from hf).symm.trans S.hC)];exact keeps_K S.kept _ (I'.K S.towA)
 |blt nm=>refine aZ e λhb e=>?_;rw[av ((show G.mg nm=none/\G.mb nm=some fv from hf).2.symm.trans (S.blt nm (cN.mp hb)))];exact Tf
 |lam a b ls cJ=>obtain⟨f,o,fd,hv,ho,hd,_⟩:=(hf:pY _ _ _ _ _ fv);rw[hv];exact rB (g'.keep _ _ ho.1 (I.ct ho.1 ho.2.2)) hd
 |_=>exact aK e
theorem Sl(S:bY G)(aM:ca G n r.E)(cx:gv G n r.B)(nS:uv G n r.C)(SK:yA G n r)(e:vP r sc l x np as ks=some p)(R:a_ A (n+1))(I:Inv G s)(X:cu G μ sc env l s.heap)
 (h:KV G s μ p Q):WP G A (bQ (.Call (.Name x np) as ks pos) env) Q s:=by
 unfold vP at e;induction hc:vO sc l x with
 |some c=>rw[hc]at e;exact aZ e λhk e=>aF e λps ea e=>dd hk▸Vf S aM cx hc ea e R I X h
 |none=>rw[hc]at e;refine aF e λf ef e=>aF e λps ea e=>aF e λkw ek e=>?_;have R':=R.less (dX n);refine z9 (aM _ _ _ _ _ _ _ _ _ ef R' I X λfv s1 g1 I1 r1=>?_);have X1:=X.grow g1 I;refine xH aM ea ek R' I1 X1 (λs' g' I'=>T_ S I1 e r1 s' g' I') λvs cE s2 g2 I2 rl rk=>?_;have X2:=X1.grow g2 I1;exact Te S aM nS SK e R I2 X2.aW X2.soft (r1.mono (aq.grow g2 I1)) rl rk λv s' g' I' hv=>h v s' ((g1.trans g2).trans g') I' hv
theorem L0{a b:Str}(h:a.cps.toList=b.cps.toList):a=b:=aR Str.mk (Rx.mp h)
theorem EX(a b:Str):(a++b).cps.toList=a.cps.toList++b.cps.toList:=afZ
theorem Vg(sep:Str)(l:af):(Str.join sep l).cps.toList=rM sep.cps.toList l:=by
 induction l with
 |nil=>rfl
 |cons x r ih=>induction r with
  |nil=>rfl
  |cons y r _=>refine ao (EX ..) ?_;rw[EX,ih];rfl
theorem Vh(sep:Str)(l:af):Txt.join sep l=⟨(rM sep.cps.toList l).toArray⟩:=by refine L0 ?_;show(ah1 sep l).cps.toList=_;rw[PySem.StrLaws.glued_eq_join,Vg]
theorem aN.strs{l:af}(h:aN G V ps vs)(e:strsOf ps=some l):StrsAre vs l:=by
 induction ps generalizing vs l with
 |nil=>exact av e▸h.fW (P:=λvs=>StrsAre vs []) .nil
 |cons p ps ih=>refine aF e λi e1 e=>cj e λl' e2 e=>?_;subst e;rw[vE e1]at h;exact h.fJ (P:=λvs=>StrsAre vs _) λv us h1 h2=>h1.wd (P:=λv=>StrsAre (v::us) _) λt=>.cons _ _ (ih h2 e2)
theorem Tg{e:kQ}(h:∃t,e.key=.str y t):e.refKey=false:=by refine oE h λt hk=>?_;unfold DictEntry.refKey;rw[hk]
theorem gh.miss{es:List kQ}(h:gh G V fs es)(hl:fs.lookup x=none):es.find? (λe=>e.key.isStr x)=none/\es.any (·.refKey)=false:=by
 induction fs generalizing es with
 |nil=>induction es with
  |nil=>exact⟨rfl,rfl⟩
  |cons=>exact tA h
 |cons q fs ih=>induction es with
  |nil=>exact tA h
  |cons e es _=>
   rw[dp]at hl;rw[xq,KY h.1,List.any_cons,Tg h.1];cases hb:x==q.1 with
   |true=>rw[hb]at hl;exact aK hl.symm
   |false=>rw[hb]at hl;exact ih h.2.2 hl
theorem Ua{o:Expr}{name:Str}{apos:Pos}{args:ah}(hb:xS o=true)(hl:(apos.endLine==pos.line)=true)(h30:args.length<30)(ea:dG r sc l args=some ps)
  (h:WP G A (bQ o env) (λov s1=>∀pl,WP G A (getMethod ov name pl) (λfx s2=>WP G A (callWith pos fx.1 fx.2 (backTo pos (jX args env)) (kR pos (kP [] env))) Q s2) s1) s):
  WP G A (bQ (.Call (.Attribute o name apos) args [] pos) env) Q s:=by
 have BP:methodCallForm (args.length+([]:List gY).length) (backTo pos (jX args env)) (kR pos (kP [] env))=true:=by delta methodCallForm;have :=AA (env:=env) (pos:=pos) ea;rw[lI,lI];refine⟨⟨?_,rfl⟩,bh h30⟩;rw[cF];intro x hx;rw[List.any_eq_false]at this;simpa using this x hx
 have Cg:methodCallPos true o env apos pos=pure pos:=by delta methodCallPos;simp [hl]
 rw[arm_eval_Call,J4 hb];refine aP (db h (λov cn kY=>aP (kL ?_)) λz z x=>x);delta methodCall calleeOf;rw[BP];simp only[if_true];refine aP (iL (db (kY _) (λfx GV GW=>?_) λz z x=>x));obtain⟨f,first⟩:=fx;rw[Cg];exact aP (bz GW)
theorem SQ:∀nm∈AF,("Whitespace."++nm:Str)≠"Whitespace"/\A9 ("Whitespace."++nm)=lV nm/\(lV nm).isSome=true:=by intro nm h;simp only[AF,cc,gG,or_false]at h;rcases h with rfl|rfl|rfl|rfl|rfl<;>exact⟨by decide,⋯,by decide +kernel⟩
noncomputable abbrev WM(G:bE)(A:dQ)(env:Env)(name:Str)(pl:Sem Bool)(pos:Pos)(args:ah)(Q:ar->ak)(s:aB)(ov:ar):Prop :=
 WP G A (getMethod ov name pl) (λfx s2=>WP G A (callWith pos fx.1 fx.2 (backTo pos (jX args env)) (kR pos (kP [] env))) Q s2) s
theorem EY(aM:ca G n r.E)(ea:dG r sc l args=some ps)(R:a_ A n)(I:Inv G s)(X:cu G μ sc env l s.heap)(id)(first)
  (hq:∀vs s2,bc G s s2->Inv G s2->aN G (aq s2.heap μ) ps vs->WP G A (call (.builtin id) (first ++vs)) Q s2):
  WP G A (callWith pos (.builtin id) first (backTo pos (jX args env)) (kR pos (kP [] env))) Q s:=
 xH aM ea rfl R I X (λs' g' I'=>vy) λvs cE s2 g2 I2 rl rk=>by rw[show cE=[] from oa.mp rk.1.symm];exact hq vs s2 g2 I2 rl
theorem Th(aM:ca G n r.E)(ea:dG r sc l args=some ps)(e:MQ q name ps=some p)(R:a_ A n)(I:Inv G s)(X:cu G μ sc env l s.heap)(r1:RelV G (aq s.heap μ) q ov)
 (h:KV G s μ p Q):WM G A env name pl pos args Q s ov:=by
 refine dU e (λhn e=>?_) λz e=>dU e (λhn e=>?_) λz e=>dU e (λhn e=>?_) λz e=>aK e
 ·refine aZ e λh0 e=>cj e λi hi e=>?_;rw[jv hi]at r1;rw[dd h0]at ea;refine r1.ji λt=>?_;rw[hn];exact getMethod_int_bit_length (EY aM ea R I X "int.bit_length" [.int i t] λvs s2 g2 I2 rl=>rl.fW (P:=λvs=>WP G A (call (.builtin "int.bit_length") (.int i t::vs)) Q s2)
   (call_int_bit_length (h _ _ (g2.trans (.tok _)) (I2.tok _) (e▸ .mkInt _ _ _))))
 ·refine aF e λx hx e=>aF e λus hu e=>aF e λli qE e=>aZ e λhz e=>?_;rw[vE hx]at r1;rw[ya hu]at ea;refine r1.wd λt=>?_;rw[hn];exact PySem.GM.join (EY aM ea R I X "str.join" [.str x t] λvs s2 g2 I2 rl=>rl.ki (P:=λvs=>WP G A (call (.builtin "str.join") (.str x t::vs)) Q s2) λlv rl=>
   rl.listE (P:=λlv=>WP G A (call (.builtin "str.join") [.str x t,lv]) Q s2) λa items c ha rl=>join_list ⟨_,ha.1,rfl,c,rfl⟩ (rl.strs qE) (bu hz) λt' k=>h _ _ (g2.trans (.tok _)) (I2.tok _)
    (av e▸Vh _ _▸ .mkStr _ _ _))
 ·refine aF e λus hu e=>aF e λi hi e=>cj e λli qE e=>?_;rw[AG hu]at r1;rw[Bt hi]at ea;refine r1.listE λa items c ha rl1=>?_;rw[hn];exact getMethod_list_of PySem.F.slot_list_count PySem.F.type_list_count ⟨_,ha.1,rfl,c,rfl⟩ ⟨_,ha.1,rfl⟩ (EY aM ea R I X "list.count" [.ref a] λvs s2 g2 I2 rl=>rl.ki (P:=λvs=>WP G A (call (.builtin "list.count") (.ref a::vs)) Q s2) λlv rl=>
   rl.ji (P:=λlv=>WP G A (call (.builtin "list.count") [.ref a,lv]) Q s2) λt=>count_list_ints ⟨_,(aq.grow g2 I _ _ ha).1,rfl,c,by simp⟩ ((rl1.mono (aq.grow g2 I)).ints qE) (h _ _ (g2.trans (.tok _)) (I2.tok _) (e▸ .mkInt _ _ _)))
theorem Ub(S:bY G)(aM:ca G n r.E)(nS:uv G n r.C)(ea:dG r sc l args=some ps)(hm:AF.contains name=true)(Gg:fs.lookup name=none)
  (e:r.C ("Whitespace."++name) (.inst fs::ps) []=some p) (R:a_ A n) (I:Inv G s) (X:cu G μ sc env l s.heap) (r1:RelV G (aq s.heap μ) (.inst fs) ov)
 (h:KV G s μ p Q):WP G A (getMethod ov name pl) (λfx s2=>WP G A (callWith pos fx.1 fx.2 (backTo pos (jX args env)) (kR pos (kP [] env))) Q s2) s:=by
 obtain⟨m1,m2,m3⟩:=SQ name (cN.mp hm);obtain⟨d,hd⟩:=Dh.mp m3;obtain⟨f,Ff,Ft,Fn⟩:=S.OS _ _ hd;refine oM Fn.ex λo' fd c F=>?_;have r0:=r1;revert r0;refine r1.N6 (P:=λov=>RelV G (aq s.heap μ) (.inst fs) ov->WM G A env name pl pos args Q s ov) λx ox od es k IA ab2 rf r0=>?_;have lu:shadowIn (some od) name=some false:=by refine oA (rf.miss Gg) λm1 m2=>?_;show mO _ (lookIn name od)=_;unfold lookIn;rw[ab2];simp only[m1,m2];rfl
 refine be S.OT λg1 g2=>method_fn (I.K S.towA) IA (beq_iff_eq.mp g1) (beq_iff_eq.mp g2) Ff Ft lu ?_;refine xH aM ea rfl R I X (λs' g' I'=>rB (I'.old _ _ F.ho) F.hd) λvs cE s2 g2 I2 rl rk=>?_;have X2:=X.grow g2 I;refine nS _ _ _ _ _ _ _ _ _ _ _ e R I2 X2.aW X2.soft (.inl ⟨m1,λd' eM=>?_⟩) (.mkCons ?_ rl) rk λv s' g' I' hv=>h v s' (g2.trans g') I' hv
 ·rw[m2,hd]at eM;obtain rfl:=av eM;exact Fn
 ·exact r0.mono (aq.grow g2 I)
theorem Sm(S:bY G)(aM:ca G n r.E)(nS:uv G n r.C){o:Expr}{name:Str}{apos:Pos}{args:ah}(e:MT r sc l o name apos args pos=some p)(R:a_ A n)(I:Inv G s)(X:cu G μ sc env l s.heap)
 (h:KV G s μ p Q):WP G A (bQ (.Call (.Attribute o name apos) args [] pos) env) Q s:=by
 refine aZ e λhc e=>gg hc λc1 c2 c3=>aF e λq eo e=>aF e λps ea e=>Ua c1 c2 (bu c3) ea (aM _ _ _ _ _ _ _ _ _ eo R I X λv s1 g1 I1 r1 pl=>?_);have X1:=X.grow g1 I;have h1:∀v s',bc G s1 s'->Inv G s'->RelV G (aq s'.heap μ) p v->Q v s':=λv s' g' I' hv=>h v s' (g1.trans g') I' hv;exact Fj e (λfs q e=>aZ e λhm e=>be hm λhm Gg=>Ub S aM nS ea hm (jp.mp Gg) e R I1 X1 (q▸r1) h1) λe=>Th aM ea e R I1 X1 r1 h1
theorem aah(S:bY G)(aM:ca G n r.E)(cT:h_ G n r.E)(cx:gv G n r.B)(nS:uv G n r.C)(SK:yA G n r):ca G (n+1) (iQ r):=by intro A μ sc env l e p s Q he R I X h;have R':=R.less (dX n);refine rG he (λx pos he=>xU S he I X h) λhe=>Wj he (λc k pos he=>Sq he I h) λhe=>NH he (λa op b pos he=>TE aM he R' I X h) λhe=>vM he (λf as ks pos he=>rG he (λx np he=>Sl S aM cx nS SK he R I X h) λhe=>ye he (λo nm apos he=>aZ he λhk he=>dd hk▸Sm S aM nS he R' I X h) aK) λhe=>NJ he (λo i pos he=>Sf aM he R' I X h) λhe=>ye he (λo a pos he=>Sg S aM he R' I X h) λhe=>NI he (λa ops bs pos he=>SE aM he R' I X h) λhe=>yn he (λes k pos he=>TG aM he R' I X h) λhe=>MJ he (λes pos he=>KU aM he R' I X λv s' g I' r z=>h v s' g I' r) λhe=>abw he (λop a pos he=>SD aM he R' I X h) λhe=>Fg he (λop es pos he=>SZ aM he R' I X h) λhe=>abx he (λt a b pos he=>TF aM cT he R' I X h) λhe=>GC he (λelt gs cs pos he=>Su S.y8 aM cT he R' I X h) λhe=>ZK he (λa b ls pos he=>S5 S he I X h) aK
theorem aai(S:bY G)(aM:ca G n r.E)(cT:h_ G n r.E)(ab3:ca G (n+1) (iQ r)):h_ G (n+1) (iQ r):=by intro A μ sc env l e p c s Q he ht R I X h;exact S0 aM cT he ht (R.less (dX n)) I X (λQ h'=>ab3 _ _ _ _ _ _ _ _ _ he R I X h') h
theorem YA(S:bY G)(aM:ca G n r.E)(cT:h_ G n r.E):wi G (n+1) (iQ r):=by intro A μ sc env l elt gens cs pos pos' use p s Q he R I X h;exact aaa S.y8 aM cT he (R.less (dX n)) I X h
theorem YB(aM:ca G n r.E):wk G (n+1) (iQ r):=by intro A μ sc env l e p s Q he hf R I X h;exact aab aM he hf (R.less (dX n)) I X h
theorem Vi{Q:dk->ak}(I:Inv G s)(X:cw G μ φ pa sc env st s.heap)(h:KP G μ φ pa sc env st .next s Q):WP G A (exec (.Pass pos) env) Q s:=by refine eT (arm_exec_Pass ..) ?_;exact aP (kL (bz (h _ _ φ ⟨.refl,I,λz q=>.inl q,X,rfl⟩)))
theorem Uc{Q:dk->ak}(I:Inv G s)(X:cw G μ φ pa sc env st s.heap)(h:KP G μ φ pa sc env st .brk s Q):WP G A (exec (.Break pos) env) Q s:=by refine eT (arm_exec_Break ..) ?_;exact aP (kL (bz (h _ _ φ ⟨.refl,I,λz q=>.inl q,X,rfl⟩)))
theorem Kw:∀{as:List Arg},as.all (λq=>q.annotation.isNone)=true->annotationsOf as env=[]
 |[],_=>rfl
 |⟨x,none,q⟩::r,h=>by
  simp only[List.all_cons,lI]at h;show annotationsOf r env=[];exact Kw h.2
 |⟨x,some a,q⟩::r,h=>by simp at h
theorem Ti{cells:List (Str×aw)}{names:List (Str×rs)}{c:aw}(hd:(names.map (·.1)).Nodup)(h:(fK cells names []).lookup x=some c):names.lookup x=some .free:=by
 rcases TQ h with h|⟨h,_⟩
 ·exact aK h
 ·exact rz hd h
theorem Vj{a:cH}(a1:a.posonlyargs=[])(a2:a.vararg=none)(a3:a.kwarg=none)(c9:a.kwonlyargs=[])(zh:a.args.all (λq=>q.annotation.isNone)=true):annTrees a none env=[]:=by cases a;cases a1;cases a2;cases a3;cases c9;unfold annTrees;simp only[Option.toList,gW];rw[Kw zh];rfl
theorem Sc(S:bY G){bn:Str}{a:cH}{b:ad}{fs:aH}(e:OQ sc st nm a b fs bn pos=some (fl,aO))(I:Inv G s)(X:cw G μ φ pa sc env st s.heap){Q:dk->ak}
  (h:KP G μ φ pa sc env aO fl s Q):WP G A (exec (.FunctionDef nm a b [] none [] fs none bn pos) env) Q s:=by
 refine aZ e λhc e=>be hc λc2 hc=>yH hc λc1 c3 c4 c5 c6 PO PQ=>r7 PO λc7 c8 c9 zh=>?_;have c2:bn=nm:=bu c2;rw[<-c2]at c3 c4 e⊢;clear hc PO;have e:=av e;rw[<-show _=fl from aR (·.1) e,<-show _=aO from aR (·.2) e]at h;clear e;have c7:=dd c7;have c8:=dd c8;have c9:=dd c9;have FO:=rF c1;have hs:=FO.sc;obtain⟨m,X⟩:=X;obtain⟨mk,hm,e1,e2,e3,e4⟩:=Kr S c4;refine oA (X.aI.cq mk hm e1) λq1 q2=>?_;rw[e4]at q2;refine br (X.xW _ (eI _)) λfe k1 X2=>?_;have XE:=X2.aI.fo;have ku:closureFor fs env=pure (fK env.cells fs.names []):=(xV (s':=s) (ν:=dv) (ew:=env) XE I .refl (λz q=>q.elim) hs c5 (by
  rw[cF]at PQ⊢;intro q hq;simp only[free,hide,jT]at hq;exact PQ q (by simp only[free,jT];exact⟨hq.1.1,hq.2⟩))).1
 refine oA (I.tabs mk hm) λC tb=>?_;have iA:=I.mg S.towA;have hd:=xK hs;have aaj:gf sc bn=true:=(AK c3).1;have N':kc (env.kindOf bn)<2:=by rw[X.aI.ok.names];rcases tL aaj with q|q<;>rw[q]<;>decide
 have hqn:qualnameIn env bn bn=env.qual++bn:=by
  unfold qualnameIn;rw[aJ];intro q;have :env.kindOf bn=some .globalExplicit:=by simpa using q
  rw[this]at N';exact bx N' (by decide)
 have aak:∀x,fs.names.lookup x=some .free->∃c,(fK env.cells fs.names []).lookup x=some c/\env.cells.lookup x=some c:=λx hx=>by have hk:=AJ c5 (lL hx);obtain⟨c,cv,h1,h2⟩:=X.aI.ok.cells x (by refine ao (X.aI.ok.names ..) ?_;exact hk);exact⟨c,D5 hd hx h1,h1⟩
 have done:∀(s1:aB)(f c':aw)(jL doc pm:ar),bc G s s1->Inv G s1->s.heap.get? f=none->s1.heap.get? f=some (fnMade bn (env.qual++bn) a b fs (fK env.cells fs.names []) doc pm c' jL)->oz s1.heap c' (env.qual++bn)->¬(μ c'\/φ c')->
   WP G A (pF env bn (.ref f)) (λz aS=>Q .next aS) s1:=λs1 f c' jL doc pm g1 I1 hf zb ⟨oc,vs,t,h1,h2,h3⟩ G1=>by
  have X1:=X.grow g1 I;refine X1.M1 I1 c3 ?_ λs2 m2 bw I2 X3=>h .next s2 φ ⟨g1.aU.trans (bw.mono (λb q=>X.ia b q) λz q=>q),I2,λb q=>.inl q,⟨m2,X3⟩,rfl⟩;exact .inr ⟨_,_,_,rfl,f,_,_,rfl,⟨zb,λq=>X.aI.aW f q hf,.inl λh=>bS h⟩,rfl,rfl,rfl,rfl,rfl,rfl,rfl,rfl,⟨c',oc,vs,t,rfl,⟨h1,G1,.inr (.inl ⟨vs,_,_,h2,h3⟩)⟩,h2,h3⟩,aak,λx c hx=>Ti hd hx⟩
 have Fw:∀c',oz s.heap c' (env.qual++bn)->¬(μ c'\/φ c'):=λc' ⟨oc,vs,t,h1,h2,h3⟩ q=>by have sf:iw oc:=q.elim (λq=>(X.aI.iP c' q).2 oc h1) λq=>(X.aI.soft c' q).2 oc h1;exact sf.elim (λw=>w _ h2) λw=>w.2.2 _ _ _ h2 h3
 refine nestDef_K c7 c8 ?_ ?_
 ·exact Vj FO.pos FO.va FO.CJ c9 zh
 ·rw[hqn];rcases tb with tb|⟨c',tb,cr⟩
  ·refine makeFunction_K ku X.aI.ok.globals iA q1 C tb trivial rfl ?_ (BN S I tb) λc' jL doc h' tk hx zc qB yK G2=>?_
   ·intro w;refine je iA λo es ep e hd z=>?_;rw[w,tb]at e;obtain rfl:=av e;cases hd
   ·have wG:h'.get? mk.P=some (is #[dc mk.line,dc mk.col,.ref c']):=by rw[e2,e3,G2];rfl
    obtain⟨g',I'⟩:=K3 S I hm tb hx (by rw[<-q2];exact yK) wG;refine Et yK λc₂ oc vs t w1 w2 w3 w4=>?_;cases w1;have fr:∀b,s.heap.objs.size<=b->s.heap.get? b=none:=λb hb=>n_ hb;exact done _ _ c' jL doc _ g' I' (fr _ (aD zc (cG qB))) (eF _ rfl) ⟨oc,vs,t,iJ _ w2,w3,w4⟩ λq=>X.aI.aW c' q (fr c' zc)
  ·have hf:codeAmong pos (#[dc mk.line,dc mk.col,.ref c']:aj).toList=some (.ref c'):=by simp [codeAmong,dc,e2,e3]
   refine makeFunction_hit ku X.aI.ok.globals iA q1 C tb trivial hf (BN S I tb) λjL doc h' tk hk ie=>?_;have kp:∀y o,s.heap.get? y=some o->(h'.push (fnMade bn (env.qual++bn) a b fs (fK env.cells fs.names []) doc ((G.mg "__name__").getD .none) c' jL)).get? y=some o:=λy o e=>iJ _ (hk y o e);refine done _ h'.objs.size c' jL doc _ (.of kp) (I.of kp) (n_ ie) (eF _ rfl) ((by rw[q2];exact cr:oz s.heap c' (env.qual++bn)).keeps kp) (Fw c' (by rw[q2];exact cr))
end
section
open Builtin Builtin.ObjectAttr Builtin.Getset_descriptor
variable{n k w:Nat}{sc cs:aH}{A:dQ}{pos:Pos}{r:Rec}{st:St}{a:aw}{P:Prop}{own:al}{fl:bG}{d:FD}{c:Bool}{body:ad}{E:ar->ak}{b:Int}{nm:Str}{ns:af}{it:ar}{M:Model}
theorem putL_new:∀{es:List kQ},es.find? (λe=>e.key.isStr name)=none->putL name lu key v es=es++[⟨lu,key,v⟩]:=by
 intro es;induction es with
 |nil=>exact λ_=>rfl
 |cons e r ih=>
  intro h;rw[xq]at h
  split at h
  ·cases h
  ·rename_i he;simp only[putL];rw[he,ih h];rfl
theorem Vk(S:bY G)(I:Inv G s){x dx:aw}{es:List kQ}{name:Str}{Q:Unit->ak}(ex:s.heap.get? x=some ⟨.ref G.C,some dx,.plain,#[]⟩)(ed:s.heap.get? dx=some (dictOf es k))(hf:fields.contains name=true)
  (hm:es.find? (λe=>e.key.isStr name)=none) (hr:es.any (·.refKey)=false) (hz:es.length<=100)
  (h:∀h' t lu k' tk,h'.get? dx=some (dictOf (es++[⟨lu,.str name t,v⟩]) k')->xu dx s.heap h'->Q () {s with heap:=h',toks:=tk}):WP G A (setAttr (.ref x) name v) Q s:=by
 have X:=I.K S.towA;have IA:InstAt s.heap x ⟨.ref G.C,some dx,.plain,#[]⟩ G.C (some (dictOf es k)):=⟨ex,rfl,rfl,ed⟩;refine set_plain X IA S.abL (osa_open X IA S.over (S.Z1 name hf) λb=>?_);refine br (any_some S.N2) λcd hc eM=>aP (bz (aP (aP (wpAny_loadPart ex (aP (looks_clsIn X hc _ _ _ _ (λz z e=>e) ?_))))));rw[eM];refine bz (aP (bz (aP ?_)));unfold nsSet;refine aP (aP (wpAny_askSetting (bz (aP (DX (aP (wpAny_loadPart ed ?_)))))));dsimp only;have c:(!es.toArray.any (·.key.isStr name)&&es.toArray.any (·.refKey))=false:=by rw[ags,ags,hr,DK]
 rw[aRefKeyMayBeTheName_at,c];refine wpAny_updatePart ed ?_;have D':∀(lu:Int)(t:Tok),(s.heap.update dx (Obj.putName name lu (.str name t) v)).get? dx=some (dictOf (es++[⟨lu,.str name t,v⟩]) (putN name es k)):=λlu t=>by rw[pq _ ed (by rw[putName_dict];rfl)];rw[putName_dict,putL_new hm]
 refine aP (wpAny_lookBehind (D' _ _) (pastItsLine_dict (by rw[vn,cb,lN];simp;lia)) ?_);exact bz (h _ _ _ _ _ (D' _ _) (pr ..))
theorem Vl(h:l.lookup x=none):bq l x p=l++[(x,p)]:=by
 induction l with
 |nil=>rfl
 |cons q r ih=>
  obtain⟨y,w⟩:=q;rw[dp]at h;by_cases hx:x=y
  ·subst hx;simp at h
  ·rw[dq hx]at h;simp only[bq];rw[aJ (lP hx),ih h];rfl
theorem gh.snoc{es:List kQ}{e:kQ}(h:gh G V fs es)(h1:∃t,e.key=.str x t)(h2:RelV G V p e.val):gh G V (fs++[(x,p)]) (es++[e]):=by
 induction fs generalizing es with
 |nil=>induction es with
  |nil=>exact oj h1 (oj h2 trivial)
  |cons=>exact tA h
 |cons f fs ih=>induction es with
  |nil=>exact tA h
  |cons e es _=>exact oj h.1 (oj h.2.1 (ih h.2.2))
theorem gh.length{es:List kQ}(h:gh G V fs es):fs.length=es.length:=by
 induction fs generalizing es with
 |nil=>induction es with
  |nil=>rfl
  |cons=>exact tA h
 |cons f fs ih=>induction es with
  |nil=>exact tA h
  |cons e es _=>exact aR (· +1) (ih h.2.2)
theorem RelM.WH{dx:aw}{jm:List (Str×PV)}{es sr:List kQ}{k':Nat}(X:RelM G μ φ pa sc env st s.heap m)(I:Inv G s)(hx:x∈st.own)(hl:st.loc.lookup x=some (.inst fs))(hh:bA s.heap env m x (.ref a))(ha:φ a)(zg:φ dx)
  (ea:s.heap.get? a=some ⟨.ref G.C,some dx,.plain,#[]⟩) (ed:s.heap.get? dx=some (dictOf es k)) (nL:dx≠env.locals) (bC:aV G (λb=>b=dx) (λ_=>False) s s') (HV:s'.heap.get? dx=some (dictOf sr k')) (rf:gh G (aq s'.heap λb=>μ b\/φ b) jm sr):
  RelM G μ φ pa sc env {st with loc:=bq st.loc x (.inst jm)} s'.heap m:=by
 have kp:∀b o,s.heap.get? b=some o->NT o->¬b=dx->s'.heap.get? b=some o:=λb o e nt n=>bC.keep b o e (I.ct e nt) n;have nc:¬bv sc env dx:=λ⟨y,q1,q2⟩=>by obtain⟨c,cv,q3,o',ho,hd⟩:=X.aI.ok.cells y (by refine ao (X.aI.ok.names ..) ?_;exact pM q1);replace q3:=ao (aT q2) q3;obtain rfl:=av q3;replace ho:=ao (aT ed) ho;obtain rfl:=av ho;cases hd
 have aW:∀b,φ b->s'.heap.get? b≠none:=λb q=>by
  by_cases q2:b=dx
  ·rw[q2,HV];simp
  ·exact bC.there b (X.aI.aW b (.inr q)) q2
 have F':=X.aI.step I bC (λb q=>by rw[q];exact⟨zg,nL,nc⟩) (λb q=>.inl q) X.aI.hL (λb q=>X.ia b (.inr q)) aW
  (X.aI.soft.aU bC I (λb q=>X.aI.aW b (.inr q)) λb _ q o eo=>by
   rw[q,HV]at eo;obtain rfl:=av eo;exact .inl λvs=>by nofun)
 have b8:=aq.aU (μ:=λb=>μ b\/φ b) bC I λb q=>by rw[q];exact .inr zg
 have mX:∀{y c v},kc (env.kindOf y)=1->env.cells.lookup y=some c->s.heap.IsCell c v->s'.heap.IsCell c v:=λ{y c v} hk hy hc=>by have nt:=I.rE hc;refine br hc λo ho hd=>⟨o,bC.keep _ _ ho nt (λw=>by rw[w,ed]at ho;obtain rfl:=av ho;cases hd),hd⟩
 have hk:∀y v,bA s.heap env m y v->bA s'.heap env m y v:=λy v h=>by
  rcases h with h|⟨h1,c,h2,h3⟩
  ·exact .inl h
  ·exact .inr ⟨h1,c,h2,mX h1 h2 h3⟩
 have gz:∀y v,bA s'.heap env m y v->bA s.heap env m y v:=λy v h=>h.back X.aI.ok (λ_ _ _=>mX);have lk:∀y,y≠x->(bq st.loc x (.inst jm)).lookup y=st.loc.lookup y:=λy hy=>by refine ao fw ?_;rw[aJ hy]
 have ada:a≠dx:=λw=>by rw[w,ed]at ea;exact nomatch aR (mO D4) ea
 have up:∀y q,(bq st.loc x (.inst jm)).lookup y=some q->∃q',st.loc.lookup y=some q':=λy q hq=>by
  by_cases w:y=x
  ·subst w;exact⟨_,hl⟩
  ·replace hq:=ao (aT (lk y w)) hq;exact⟨q,hq⟩
 have PR:∀y gs,(bq st.loc x (.inst jm)).lookup y=some (.inst gs)->∃gS,st.loc.lookup y=some (.inst gS):=λy gs hq=>by
  by_cases w:y=x
  ·subst w;exact⟨_,hl⟩
  ·replace hq:=ao (aT (lk y w)) hq;exact⟨gs,hq⟩
 refine⟨F'.sub λy q hq=>?_,λy hy q hq=>?_,λy hy z hz py pz ig kz b h1 h2=>?_,λy hy z hz g1 g2 ig kz=>?_,λy hy=>hk _ _ (X.pin y hy)⟩
 ·rw[eQ]at hq⊢
  split at hq
  ·exact aK hq
  ·rename_i hc;refine ao (aJ hc) ?_;replace hq:=ao (aT fw) hq
   split at hq
   ·rename_i w;exact bx (cN.mpr hx) (w▸hc)
   ·exact hq
 ·by_cases w:y=x
  ·subst w;replace hq:=ao (aT fw) hq;rw[aA rfl]at hq;obtain rfl:=av hq;exact⟨a,dx,sr,k',hk _ _ hh,ha,zg,kp _ _ ea (.inl (λh=>bS h)) ada,HV,rf,nL⟩
  ·replace hq:=ao (aT (lk y w)) hq;have O:=X.own y hy q hq;induction q using PV.casesOn with
   |list qs=>obtain⟨a2,iB,k2,e1,e2,e3,e4⟩:=O;exact⟨a2,iB,k2,hk _ _ e1,e2,kp _ _ e3 (.inl (λh=>bS h)) (λw2=>by rw[w2,ed]at e3;exact nomatch aR (mO D4) e3),e4.mono b8⟩
   |inst gs=>exact bx (X.one y hy x hx _ _ hq hl) w
   |_=>exact O.elim
 ·refine oE (up y py ig) λq1 e1=>oE (up z pz kz) λq2 e2=>X.inj y hy z hz q1 q2 e1 e2 b (gz _ _ h1) (gz _ _ h2)
 ·refine oE (PR y g1 ig) λq1 e1=>oE (PR z g2 kz) λq2 e2=>X.one y hy z hz q1 q2 e1 e2
theorem R6(S:bY G)(aM:ca G n r.E)(R:a_ A n)(I:Inv G s)(X:cw G μ φ pa sc env st s.heap){p1:Pos}{v:PV}(hsd:swapsWith e (some (.Attribute (.Name x p0) nm p1)) pos.line env=pure false)
  (h0:ci r sc st e=some (v,aE)) (hn:aE.own.contains x=true) (hl:aE.loc.lookup x=some (.inst fs)) (hf:fields.contains nm=true) (hm:fs.lookup nm=none) (hz:fs.length<=10) {Q:dk->ak}
  (h:KP G μ φ pa sc env {aE with loc:=bq aE.loc x (.inst (bq fs nm v))} .next s Q):WP G A (exec (.Assign [.Attribute (.Name x p0) nm p1] e pos) env) Q s:=by
 refine plainObj_wpAny_Assign_Attribute (jw aM R I X h0 λw s1 bF g1 I1 iS X1 r1 nl q1 q2 q3=>?_) hsd;refine oE X1 λm1 X1=>?_;have hx:x∈aE.own:=cN.mp hn;obtain⟨a,dx,es,k,e1,e2,e3,e4,e5,e6,e7⟩:=X1.own x hx _ hl;refine oA (e6.miss hm) λm1' m2'=>X1.load e1 (Vk S I1 e4 e5 hf m1' m2' (by rw[<-e6.length];lia) λh' t lu k' tk eM sb=>?_);have kp:∀b o,s1.heap.get? b=some o->¬b=dx->h'.get? b=some o:=λb o e n=>(sb.2 b n).trans e;have bC:aV G (λb=>b=dx) (λz=>False) s1 {s1 with heap:=h',toks:=tk}:=aV.of_same kp rfl rfl;have I2:Inv G {s1 with heap:=h',toks:=tk}:=I1.aU (φ:=λb=>b=dx) kp λb q=>by rw[q];exact X1.aI.soft dx e3
 have b8:=aq.aU (μ:=λb=>μ b\/bF b) bC I1 λb q=>by rw[q];exact .inr e3
 have X2:=X1.WH I1 hx hl e1 e2 e3 e4 e5 e7 bC eM (jm:=bq fs nm v) (by
  rw[Vl hm];exact(gh.mono b8 fs e6).snoc ⟨t,rfl⟩ (r1.mono b8))
 exact h .next _ bF ⟨g1.aU.trans (bC.mono (λb q=>by rw[q];exact iS _ e3) λz q=>q),I2,λb q=>.inl (iS b q),⟨m1,X2⟩,rfl⟩
end
section
variable{n k w:Nat}{sc cs:aH}{A:dQ}{pos:Pos}{r:Rec}{st:St}{a:aw}{P:Prop}{own:al}{fl:bG}{d:FD}{c:Bool}{body:ad}{E:ar->ak}{b:Int}{nm:Str}{ns:af}{it:ar}{M:Model}
section
variable{ew:Env}
theorem Kx(X:RelM G μ φ (λz=>a) sc env st s.heap m)(h1:y∈st.own)(h2:y∈st.pin)(hl:st.loc.lookup y=some (.list us)):
  ∃vs k,s.heap.get? a=some (bR vs k)/\φ a/\aN G (aq s.heap λb=>μ b\/φ b) us vs.toList:=by
 obtain⟨a',vs,k,e1,e2,e3,e4⟩:=X.own y h1 _ hl;have hp:=X.pin y h2;cases e1.det hp;exact⟨vs,k,e3,e2,e4⟩
theorem JV{us dy:ab}{vs:aj}{mn:aj}{k':Nat}(X:RelM G μ φ pa sc env st s.heap m)(I:Inv G s)(hy:y∈st.own)(hl:st.loc.lookup y=some (.list us))(hh:bA s.heap env m y (.ref a))(ha:φ a)(ea:s.heap.get? a=some (bR vs k))
  (bC:aV G (λb=>b=a) (λx=>False) s s') (I':Inv G s') (sy:s'.heap.get? a=some (bR mn k')) (hn:b_ dy=true) (rl:aN G (aq s'.heap (uI μ φ sc env)) dy mn.toList):
  RelM G μ φ pa sc env {st with loc:=bq st.loc y (.list dy)} s'.heap m:=by
 refine X.LX I hy hl hh ha ea bC sy (aN.Fq (λb o q hd=>⟨q.1,λw=>q.2.1 ?_,q.2.2⟩) dy hn rl);refine vx w (λw=>?_) λw=>?_
 ·exact .inl w
 ·refine .inr ⟨w,λ⟨z,h1,h2⟩=>?_⟩;obtain⟨c,cv,h3,hc⟩:=X.aI.ok.cells z (by refine ao (X.aI.ok.names ..) ?_;exact pM h1);replace h3:=ao (aT h2) h3;obtain rfl:=av h3;have nt:=I.rE hc;refine br hc λo' ho eM=>?_;have :=bC.keep _ _ ho nt λw=>by rw[w,ea]at ho;obtain rfl:=av ho;cases eM
  replace this:=ao (aT q.1) this;obtain rfl:=av this;exact hd _ eM
noncomputable abbrev qG(μ:al)(a:aw):al :=λb=>μ b/\b≠a
theorem M7(h:μ a):(λb=>qG μ a b\/b=a)=μ:=funext λb=>propext ⟨λq=>q.elim (λq=>q.1) λq=>q▸h,λq=>(lM (b=a)).elim .inr λw=>.inl ⟨q,w⟩⟩
theorem L3(ha:a9 a):∀b o,aq h (λb=>qG μ a b\/a9 b) b o->aq h μ b o:=aq.less λb q=>(lM (b=a)).elim (λw=>.inr (w▸ha)) λw=>.inl ⟨q,w⟩
theorem Ud(S:bY G)(cx:gv G n r.B)(R:a_ A (n+1))(I:Inv G s)(Fn:l9 G d nm f){us dy:ab}{q:Str×Loc}{ws:aj}(aW:Hid s.heap μ)(dh:bL G s.heap μ)(ha:μ a)
  (ii:pO d.scope=true) (eb:tU (.int 0) .none d.args ps kw=some q) (e:iR r d ((q.1,.list us)::q.2) [q.1]=some (.none,aO)) (el:aO.loc.lookup q.1=some (.list dy)) (ea:s.heap.get? a=some (bR ws k)) (ra:aN G (aq s.heap μ) us ws.toList)
  (rl:aN G (aq s.heap μ) ps vs) (rk:RelK G (aq s.heap μ) kw cE)
  (h:∀s' nT k',aV G (λb=>b=a) (λz=>False) s s'->Inv G s'->s'.heap.get? a=some (bR nT k')->aN G (aq s'.heap μ) dy nT.toList->Q .none s'):WP G A (call (.ref f) (.ref a::vs) cE) Q s:=by
 obtain⟨o,fd,c,F⟩:=Fn.ex;obtain⟨t,P⟩:=F.pre;have FO:=rF (yc e).1;refine oA (Ed FO (D6 eb)) λnR fY=>?_;have fY:=tn.mp fY;refine oE (Ec (P s I.old) FO eb rl rk) λFz B=>?_;have Ch:=M7 (a:=a) ha;refine tB (AV (μ:=qG μ a) (ν:=λb=>b=a) (fr:=[]) (pa:=λz=>a) S cx R.call I (F.fun I) (B.b _) F.cq (by rw[Ch];exact aW) (λb q=>dh b q.1) (λb q=>by rw[q];exact dh a ha) (λb q w=>w.2 q) e (λenv z=>vz ii)
  (λenv s1 g1 I1 F1 new z=>?_) λenv v s2 a9 m' aU I' sub X' fM hv=>?_)
 ·have sB:∀b,s.heap.get? b≠none->¬(b=env.locals\/bv d.scope env b):=λb q w=>q (new b w);have b8:∀b o,aq s.heap μ b o->aq s1.heap (λb=>qG μ a b\/((b=env.locals\/bv d.scope env b)\/b=a)) b o:=λb o q=>
   ⟨(aq.grow g1 I b o q).1,λw=>w.elim (λw=>q.2.1 w.1) λw=>w.elim (sB b (by rw[q.1];nofun)) λw=>q.2.1 (w▸ha),q.2.2⟩
  have X0:RelM G (qG μ a) (λb=>(b=env.locals\/bv d.scope env b)\/b=a) (λz=>a) d.scope env ⟨[],[],[]⟩ s1.heap (λz=>none):=
   ⟨F1,λx hx=>(nomatch hx),λx hx=>(nomatch hx),λx hx=>(nomatch hx),λx hx=>(nomatch hx)⟩
  refine X0.AU I1 (show(gf d.scope q.1&&true)=true by rw[nR _ ch];rfl) (.inr rfl) (g1.keep _ _ ea (I.ct ea (.inl (by nofun)))) (ra.mono b8) (λy hy=>nomatch hy) λs2 m2 bw I2 X2 nP=>?_;have X2':RelM G (qG μ a) (λb=>(b=env.locals\/bv d.scope env b)\/b=a) (λz=>a) d.scope env ⟨bq [] q.1 (.list us),[q.1],[q.1]⟩ s2.heap m2:=
   ⟨X2.aI,X2.own,X2.inj,X2.one,λy hy=>by rw[cW hy];exact nP⟩
  exact xN q.2 Fz ⟨bq [] q.1 (.list us),[q.1],[q.1]⟩ _ s2 _ B.n (λx hx=>⟨nR x (cf _ hx),λw=>fY.1 (cW w▸hx),λw=>fY.1 (cW w▸hx)⟩) (B.r.mono λb o q=>aq.aU bw I1 (λb q=>.inr (.inl q)) b o (b8 b o q)) X2' I2
   λs3 m3 mh I3 X3=>⟨m3,(bw.trans mh).mono (λb q=>.inl q) λz q=>q,I3,X3.congr (JU fY)⟩
 ·refine oA (fM q.1 ch) λo1 o2=>oG (Kx X' o1 o2 el) λnT k' q1 q2 q3=>?_;rw[show v=.none from hv];exact h s2 nT k' aU I' q1 (q3.mono (L3 q2))
theorem Oa{o:ag}{P:bG->St->Prop}(h:uc st y o=some (fl,aO))(k:∀us,o=some (.list us)->b_ us=true->P .next {st with loc:=bq st.loc y (.list us)}):P fl aO:=
 aF h λus h1 h=>aZ h λhn h=>f9 h (k us (ue h1) hn)
theorem WI(X:RelM G μ φ pa sc env st s.heap m)(hl:st.loc.lookup x=some (.fn nm)):∃v,bA s.heap env m x v/\G.mg nm=some v:=by have hn:¬st.own.contains x=true:=λq=>X.own x (cN.mp q) _ hl;obtain⟨v,h1,h2⟩:=X.aI.slots x (.fn nm) (by refine ao eQ ?_;rw[aJ hn];exact hl);exact⟨v,h1,h2.rel rfl⟩
theorem Sn(S:bY G)(aM:ca G n r.E)(cx:gv G n r.B)(R:a_ A (n+1))(I:Inv G s)(X:cw G μ φ pa sc env st s.heap){f:Str}{fp yp:Pos}{ks:List gY}(hf:st.loc.lookup f=some (.fn nm))
  (e:Kj r sc st y es ks nm=some (fl,aO)) {Q:dk->ak} (h:KP G μ φ pa sc env aO fl s Q):
  WP G A (exec (.Expr (.Call (.Name f fp) (.Name y yp::es) ks fA) pos) env) Q s:=by
 refine aZ e λfM e=>aF e λus hl e=>aF e λps ea e=>aF e λkw ek e=>aF e λd hd e=>aZ e λii e=>aF e λq eb e=>aF e λs2 er e=>Oa (P:=λfl aO=>(KP G μ φ pa sc env aO fl s Q)->WP G A (exec (.Expr (.Call (.Name f fp) (.Name y yp::es) ks fA) pos) env) Q s) e (λdy el hn h=>?_) h;have hl:=ue hl;have er:=GR er;have hy:y∈st.own:=cN.mp fM;obtain⟨m,X⟩:=X;obtain⟨fv0,iV,hg⟩:=WI X hf;obtain⟨fa,d',ez,eM,Fn,_⟩:=AL S (by rw[hd];rfl) hg;rw[ez]at iV;rw[<-av (hd.symm.trans eM)]at Fn;obtain⟨a,ws,k,e1,e2,e3,e4⟩:=X.own y hy _ hl;refine oM Fn.ex λo fd c F=>?_;have XE:=X.aI.fo;have G8:uI μ φ sc env a:=.inr ⟨e2,ry X.aI.ok e3⟩;have R':=R.less (dX n);refine wpAny_Expr (z9 (X.load iV ?_)) (xX X.aI.ok) rfl;refine c_ (Ej (pos:=fA) (env:=env) ek) λk1 k2 k3=>?_;have pl:(backTo fA (jX (.Name y yp::es) env)).any (·.1)=false:=AA (env:=env) (pos:=fA) (es:=es) ea;refine callWith_of (P:=λh=>∃s',bc G s s'/\Inv G s'/\h=s'.heap) (by rw[pl,k2];rfl) (λh ⟨s',g',I',e'⟩=>by rw[e'];exact rB (I'.old _ _ F.ho) F.hd) ?_;refine DY k1 (iK (X.load e1 (AQ aM ea R' I XE λvs s1 g1 I1 r1=>Bb aM ek R' I1 (XE.grow g1 I) λwsk PS g2 I2 r2=>⟨⟨PS,g1.trans g2,I2,rfl⟩,?_⟩)) rfl) rfl;have wL:=g1.trans g2;have CK:=XE.grow wL I;have X2:=X.grow wL I;have lk:(kw.map (·.1)).length=wsk.length:=by refine ao (ba ..) ?_;rw[<-ba,r2.length]
 have CI:=wL.keep _ _ e3 (I.ct e3 (.inl (λh=>bS h)));have ra:aN G (aq PS.heap (uI μ φ sc env)) us ws.toList:=(e4.mono (aq.less λb q=>q.elim .inl λq=>.inr q.1)).mono (aq.grow wL I);refine Ud S cx R I2 Fn CK.aW CK.soft G8 ii eb er el CI ra (r1.mono (aq.grow g2 I1)) ⟨by rw[k3];exact(vA lk).1.symm,by rw[k3,(vA lk).2];exact r2⟩ λs3 nT k' mh I3 HN r3=>?_;have X3:=JV X2 I2 hy hl (e1.grow wL I) e2 CI mh I3 HN hn r3;exact h .next s3 φ ⟨wL.aU.trans (mh.mono (λb q=>by rw[q];exact e2) λz q=>q),I3,λb q=>.inl q,⟨m,X3⟩,rfl⟩
theorem Ue{a:cH}{b:ad}{fs:aH}(X:RelM G μ φ pa sc env st s.heap m)(hl:st.loc.lookup x=some (.gc a b fs)):∃v,bA s.heap env m x v/\ug G (aq s.heap λb=>μ b\/φ b) env a b fs v:=by have hn:¬st.own.contains x=true:=λq=>X.own x (cN.mp q) _ hl;exact(X.aI.slots x (.gc a b fs) (by refine ao eQ ?_;rw[aJ hn];exact hl)).imp λz=>.imp_right (·.gc)
theorem D7:(free cs l).lookup x=if cs.names.lookup x=some .free then l.lookup x else none:=by
 cases h:(free cs l).lookup x with
 |some p=>refine oA (D_ h) λh1 h2=>?_;rw[aA h1,h2]
 |none=>
  split
  ·rename_i hf;induction hl:l.lookup x with
   |none=>rfl
   |some p=>
    exfalso;induction l with
    |nil=>exact aK hl
    |cons q r ih=>
     obtain⟨y,w⟩:=q;unfold free at h ih;rw[pA]at h;rw[dp]at hl;by_cases hx:x=y
     ·subst hx;have :(cs.names.lookup x==some tq)=true:=by rw[hf];rfl
      rw[aA this,dp]at h;simp at h
     ·rw[dq hx]at hl
      split at h
      ·rw[dp,dq hx]at h;exact ih h hl
      ·exact ih h hl
  ·rfl
theorem Uf{fs:aH}(Gh:∀z,z∈st.own->fs.names.lookup z=some .free->z=y)(mo:fs.names.lookup y=some .free)(hy:y∈st.own)(z):(hide [y] (free fs st.loc)).lookup z=(free fs (hide st.own st.loc)).lookup z:=by
 refine ao eQ ?_;rw[D7,D7,eQ];by_cases hz:fs.names.lookup z=some .free
 ·rw[aA hz];by_cases CL:z=y
  ·refine ao (aA (show Jy [y] z=true from cN.mpr (CL▸ch))) ?_;rw[aA (show st.own.contains z=true from cN.mpr (CL▸hy))]
   split <;>rfl
  ·refine ao (aJ (show¬Jy [y] z=true from λq=>CL (cW (cN.mp q)))) ?_;rw[aJ (show¬st.own.contains z=true from λq=>CL (Gh z (cN.mp q) hz)),aA hz]
 ·rw[aJ hz,aJ hz];split <;>rfl
theorem Ug(S:bY G)(cx:gv G n r.B)(R:a_ A (n+1))(I:Inv G s){us dy:ab}{lc fh:Loc}{ws:aj}{t:Tok}{cy:aw}(O:wp s.heap d f o fd)(P:om s d fd t)(hnm:rC d.scope=true)
  (aW:Hid s.heap μ) (dh:bL G s.heap μ) (ha:μ a) (eb:bindAll d.args ps []=some bs) (e:iR r d (bs++free d.scope lc) [y]=some (.none,aO)) (el:aO.loc.lookup y=some (.list dy))
  (T:∀env:Env,(∀x,d.scope.names.lookup x≠some .cell->env.cells.lookup x=fd.closure.lookup x)->oI G μ d.scope fd.closure env fh s.heap) (hfh:∀z,(hide [y] (free d.scope lc)).lookup z=fh.lookup z) (hl:lc.lookup y=some (.list us)) (mo:d.scope.names.lookup y=some .free)
  (HW:fd.closure.lookup y=some cy) (hc:s.heap.IsCell cy (some (.ref a))) (ea:s.heap.get? a=some (bR ws k)) (ra:aN G (aq s.heap μ) us ws.toList) (rl:aN G (aq s.heap μ) ps vs)
  (h:∀s' nT k',aV G (λb=>b=a) (λu=>False) s s'->Inv G s'->s'.heap.get? a=some (bR nT k')->aN G (aq s'.heap μ) dy nT.toList->Q .none s'):WP G A (call (.ref f) vs []) Q s:=by
 have Ch:=M7 (a:=a) ha;refine Bk (AW (cE:=[]) P (rF (yc e).1) eb rl ⟨rfl,.mkNil⟩) λnR fY binds hB HY hbv=>tB (AV (μ:=qG μ a) (ν:=λb=>b=a) (fr:=fh) (pa:=λu=>a) S cx R.call I O hB (λenv u u=>Ax S.y8 hnm) (by rw[Ch];exact aW) (λb q=>dh b q.1) (λb q=>by rw[q];exact dh a ha) (λb q w=>w.2 q) e (λenv he=>by rw[Ch];exact T env he)
  (λenv s1 g1 I1 F new YC=>?_) λenv v s2 a9 m' aU I' sub X' fM hv=>?_)
 ·have sB:∀b,s.heap.get? b≠none->¬(b=env.locals\/bv d.scope env b):=λb q w=>q (new b w);have b8:∀b o,aq s.heap μ b o->aq s1.heap (λb=>qG μ a b\/((b=env.locals\/bv d.scope env b)\/b=a)) b o:=λb o q=>
   ⟨(aq.grow g1 I b o q).1,λw=>w.elim (λw=>q.2.1 w.1) λw=>w.elim (sB b (by rw[q.1];nofun)) λw=>q.2.1 (w▸ha),q.2.2⟩
  have hh:bA s1.heap env (λu=>none) y (.ref a):=.inr ⟨by refine ao (F.ok.names ..) ?_;exact Ba mo,cy,by rw[YC y (by rw[mo];nofun)];exact HW,g1.cell I hc⟩;have X0:RelM G (qG μ a) (λb=>(b=env.locals\/bv d.scope env b)\/b=a) (λu=>a) d.scope env ⟨free d.scope lc,[y],[y]⟩ s1.heap (λu=>none):=
   ⟨F.congr hfh,λx hx q hq=>by
    rw[cW hx]at hq⊢;replace hq:=ao (aT D7) hq;rw[aA mo,hl]at hq;exact av hq▸⟨a,ws,k,hh,.inr rfl,g1.keep _ _ ea (I.ct ea (.inl (λh=>bS h))),ra.mono b8⟩,λx hx z hz u u u u u u u=>(cW hx).trans (cW hz).symm,
    λx hx z hz u u u u=>(cW hx).trans (cW hz).symm,λx hx=>by rw[cW hx];exact hh⟩
  have PT:∀x,gf d.scope x=true->x∉[y]:=λx hx q=>by rw[cW q]at hx;rcases tL hx with w|w<;>rw[mo]at w<;>exact nomatch w
  exact xN bs binds ⟨free d.scope lc,[y],[y]⟩ _ s1 _ HY (λx hx=>⟨nR x hx,PT x (nR x hx),PT x (nR x hx)⟩) (hbv.mono b8) X0 I1 λs4 m4 HS I4 X4=>⟨m4,HS.mono (λb q=>.inl q) λu q=>q,I4,X4.congr λy=>(xG fY).symm⟩
 ·refine oA (fM y ch) λo1 o2=>oG (Kx X' o1 o2 el) λnT k' q1 q2 q3=>?_;rw[show v=.none from hv];exact h s2 nT k' aU I' q1 (q3.mono (L3 q2))
theorem Sy(S:bY G)(aM:ca G n r.E)(cx:gv G n r.B)(R:a_ A (n+1))(I:Inv G s)(X:cw G μ φ pa sc env st s.heap){f:Str}{fp:Pos}{as:ah}{a:cH}{b:ad}{fs:aH}(hf:st.loc.lookup f=some (.gc a b fs))
  (e:KM r sc st a b fs as=some (fl,aO)) {Q:dk->ak} (h:KP G μ φ pa sc env aO fl s Q):
  WP G A (exec (.Expr (.Call (.Name f fp) as [] fA) pos) env) Q s:=by
 refine aF e λps ea e=>aZ e λhc e=>gg hc λml uQ zf=>aF e λbs eb e=>aF e λy PU e=>aF e λus hl e=>aF e λs2 er e=>Oa (P:=λfl aO=>(KP G μ φ pa sc env aO fl s Q)->WP G A (exec (.Expr (.Call (.Name f fp) as [] fA) pos) env) Q s) e (λdy el hn h=>?_) h;have hl:=ue hl;have er:=GR er;obtain⟨m,X⟩:=X;have Gh:∀z,z∈st.own->fs.names.lookup z=some .free->z=y:=λz h1 h2=>by have :z∈st.own.filter (λy=>fs.names.lookup y==some .free):=jT.mpr ⟨h1,by rw[h2];rfl⟩;rw[fH PU]at this;exact cW this
 obtain⟨hy,mo⟩:=jT.mp (show y∈st.own.filter (λy=>fs.names.lookup y==some .free) by rw[fH PU];exact ch);have mo:=beq_iff_eq.mp mo;obtain⟨v,w1,w2⟩:=Ue X hf;obtain⟨f0,o,fd,hv,d2,d3,d4,d5,d6,d7,d8,d9,HT,yz,wK,HU⟩:=w2;rw[hv]at w1;obtain⟨kk1,kk2,kk3⟩:=Em uQ;obtain⟨a0,ws,k,e1,e2,e3,e4⟩:=X.own y hy _ hl;obtain⟨fe,Ce,X2⟩:=X.xW _ (eI _);have CK:cu G (uI μ fe sc env) sc env st.loc s.heap:=by have :=X2.aI.fo;simp only[Ey]at this;exact this
 have R':=R.less (dX n);refine wpAny_Expr (z9 (X.load w1 ?_)) (xX X.aI.ok) rfl;refine xH (first :=[]) (ks:=[]) (kw:=[]) aM ea rfl R' I CK (λs' g' I'=>rB (g'.keep _ _ d2.1 (I.ct d2.1 d2.2.2)) d3) λvs cE s1 qF I1 rl rk=>?_;rw[show cE=[] from oa.mp rk.1.symm];have X1:=X.grow qF I;have G9:=aq.grow qF I (μ:=λb=>μ b\/φ b);have ky:=e1.grow qF I;have gA:=qF.keep _ _ e3 (I.ct e3 (.inl (λh=>bS h)));have G8:uI μ φ sc env a0:=.inr ⟨e2,ry X.aI.ok e3⟩;refine br (wK y mo) λcy HW cy2=>?_;have aal:s1.heap.IsCell cy (some (.ref a0)):=by
  have hk:kc (env.kindOf y)=1:=by refine ao (X.aI.ok.names ..) ?_;exact AJ kk2 (lL mo)
  rcases ky with⟨q,_⟩|⟨_,c',q2,q3⟩
  ·rw[q]at hk;exact nomatch hk
  ·replace q2:=ao (aT cy2) q2;obtain rfl:=av q2;exact q3
 refine Ug S cx R I1 (d:=⟨a,b,fs⟩) ⟨(G9 _ _ d2).1,d3,d5,d6,d7,d8,(yz.mono G9).oQ⟩ (El d4 d9 (dd zf)) kk1 X1.aI.fo.aW X1.aI.fo.soft G8 eb er el (λew he=>J8 (a:=a) (b:=b) (f:=f0) (o:=o) X1.aI.fo d6 wK (SP uQ) ew he)
  (Uf Gh mo hy) hl mo HW aal gA ((e4.mono G9).mono (aq.less λb q=>q.elim .inl λq=>.inr q.1)) (aN.flat ml rl) λs3 nT k' aU I' q1 q3=>?_
 have X3:=JV X1 I1 hy hl ky e2 gA aU I' q1 hn q3;exact h .next s3 φ ⟨qF.aU.trans (aU.mono (λb q=>by rw[q];exact e2) λx q=>q),I',λb q=>.inl q,⟨m,X3⟩,rfl⟩
end
theorem EZ(h:∀a b:Obj,((s.heap.push a).push b).get? (s.heap.push a).objs.size=some b->b.cls=.type "StopIteration"->Q (.ref (s.heap.push a).objs.size) {s with heap:=(s.heap.push a).push b}):bt M A (newExc (.type "StopIteration") []) Q E s:=by simp only[newExc,newTuple];refine aP (DA ?_ (by size_fits));refine aP (m:=firstArgMember _ _) (Aq (a:=Value.none) (by first |rfl|(simp only[firstArgMember];rfl)) ?_);exact DA (h _ _ (eF _ rfl) rfl) (by size_fits)
section
variable{R:GenEnd}{Y:Protocol}{bV:aB}{c:Code}{fs:List Frame}{K:dk->Sem jW}{H:ar->Sem jW}{gd:Bool->Bool}{lv:List ar->List ar}
theorem En{b:Stmt}(h:bt M (A.over c fs) (exec b env) (λf s'=>Seg M A R Y n bV c (K f) fs s') EE s):Seg M A R Y n bV c ((exec b env).wrap K H gd lv) fs s:=
 seg_wrap (db h (λz z q=>q) λz z q=>q.elim)
noncomputable abbrev M8(env:Env)(K:dk->Sem jW)(H:ar->Sem jW)(gd:Bool->Bool)(lv:List ar->List ar)(c:Code)(p:Pos):Frame:=
 .ret (λr=>((match r with | .ok f=>(.pure f:Sem dk)| .error e=>.raise e).onRaise λ(x:ar)=>do
    if(<-field x 1)==Value.none then unsupported "frame.own-activation:exception-without-traceback"
    setFlight x env.frame).wrap K H gd lv) none (gd false) (lv []) c p []
theorem WJ(hn:j8 e=true)
  (h:bt M (A.over c fs) (bQ e env) (λx s1=>bt M (A.over c fs) (pyIter x) (λit s2=>∀p,Seg M A R Y n bV (.forLoop t it body [] env) (M.den (.forLoop t it body [] env)) (M8 env K H gd lv c p::fs) s2) EE s1) EE s):
  Seg M A R Y n bV c ((exec (.For t e body [] pos) env).wrap K H gd lv) fs s:=by
 rw[arm_exec_For];refine pD (kL (pD (db h (λx s1 h1=>?_) λz z q=>q.elim)));refine pD (Aq (AT hn env x) (pD (kL (pD (iL (db h1 (λit s2 h2=>?_) λz z q=>q.elim))))));exact seg_call h2
theorem Gi(hfs:splitAtGen fs=none)(hgd:gd false=false)(hfg:fs.any Frame.guarded=false)
  (h:bt M (A.over c fs) (bQ e env) (λv s'=>∀ly:Resume->ak,(∀x aS,(match x with | .ref _=>False|_=>Seg M A R Y n aS c (K .next) fs aS)->ly (.send x) aS)->Y n bV v s' ly) EE s)
  (hco:env.scope.isCoroutine=false) (hi:Ar env=false):Seg M A R Y (n+1) bV c ((exec (.Expr (.Yield (some e) ahe) pos) env).wrap K H gd lv) fs s:=
 seg_Expr_Yield hfs hgd hfg (db h (λz z q=>q) λz z q=>q.elim) hco hi
theorem FA{a b:ad}(h:bt M (A.over c fs) (isTrue t env (bQ t env)) (λv s1=>Seg M A R Y n bV c ((execs (if v then a else b) env).wrap K H gd lv) fs s1) EE s):
  Seg M A R Y n bV c ((exec (.If t a b pos) env).wrap K H gd lv) fs s:=by
 rw[arm_exec_If];refine pD (kL (pD (db h (λv s1 h1=>?_) λz z q=>q.elim)));induction v<;>exact h1
end
section
variable{prog:Program}{w:World}{R:GenEnd}{Y:Protocol}{bV:aB}{fs:List Frame}
noncomputable abbrev Gj(env:Env):ar->Sem jW:=λe=>(do tE e env;Ag e:Sem Unit).wrap (λz=>.raise e) .raise id id
noncomputable abbrev Ob(t:Expr)(it:ar)(body:ad)(env:Env):dk->Sem jW:=λf=>match f with
 | .next| .cont=>.pure (.again (.forLoop t it body [] env))
 | .brk=>.pure (.done .next)
 | .ret v=>.pure (.done (.ret v))
theorem JW
  (h:bt (bp prog w) (A.over (.forLoop t it body [] env) fs) (iM it) (λr s1=>match r with
   |none=>Seg (bp prog w) A R Y n bV (.block [] env) ((bp prog w).den (.block [] env)) fs s1
   |some v=>bt (bp prog w) (A.over (.forLoop t it body [] env) fs) (Jw t it v) (λz s2=>bt (bp prog w) (A.over (.forLoop t it body [] env) fs) (assign t env v) (λz s3=>
     Seg (bp prog w) A R Y n bV (.forLoop t it body [] env) ((execs body env).wrap (Ob t it body env) (Gj env) id id) fs s3) EE s2) EE s1) EE s):
  Seg (bp prog w) A R Y n bV (.forLoop t it body [] env) ((bp prog w).den (.forLoop t it body [] env)) fs s:=by
 show Seg _ A R Y n bV _ ((forTurn t it body [] env).onRaise (λx=>do tE x env;Ag x)) fs s;unfold forTurn;rw[Sem.onRaise_eq_wrap];refine pD (kL (pD (wpAny_onRaise (db h (λr s1 h1=>?_) λz z q=>q.elim))));induction r with
 |none=>exact seg_again rfl h1
 |some v=>
  refine pD (db h1 (λz s2 h2=>pD (db h2 (λz s3 h3=>?_) λz z q=>q.elim)) λz z q=>q.elim);rw[Sem.bind_eq_wrap',Sem.wrap_wrap];rw[Sem.wrap_congr (execs body env) _ _ (K':=Ob t it body env) (H':=Gj env) (λf=>by induction f<;>rfl)
   (λe=>by first |exact Sem.bind_eq_wrap _ _|(show(do tE e env;Ag e:Sem Unit).bind (λz=>.raise e)=_;rw[Sem.bind_eq_wrap]))]
  exact h3
theorem So{k:mQ->Sem jW}{hd:ai}{g:Bool}{l:List ar}{c₁:Code}{ab4:Pos}{kp:List ar}(h:Seg (bp prog w) A R Y n bV c₁ (k (.ok .next)) fs s):
  Seg (bp prog w) A R Y n bV (.block [] env) ((bp prog w).den (.block [] env)) (.ret k hd g l c₁ ab4 kp::fs) s:=by
 exact seg_leaf (.ok .next) h
end
section
variable{prog:Program}{w:World}
theorem SR{g:Nat}{gs:ru}{P:Nat->aB->ak}{Y:Protocol}{Q:ai->ak}(hh:A.handled=none)
  (hl:s.heap.NoLimit) (aam:A.depth<recursionLimit)
  (hg:s.heap.IsGen a g) (nU:s.gens[g]? =some gs)
  (qH:gs.Goes (bp prog w) A.in1 (λn bV r cn=>r=.ok (.ret .none)/\P n bV cn) Y n (.send .none) (s.setGen g .running))
  (hY:∀v cn gS,gS.bare=true->Y (n-1) (s.setGen g .running) v cn (λr' aS=>match n with
    |0=>False
    |m+1=>gS.Goes (bp prog w) A.in1 (λn bV r cn=>r=.ok (.ret .none)/\P n bV cn) Y m r' aS)->Q (some v) (cn.setGen g gS))
  (hP:∀cn,P n (s.setGen g .running) cn->∀h',(∀b o,cn.heap.get? b=some o->h'.get? b=some o)->Q none {cn.setGen g .finished with heap:=h'}):
  bt (bp prog w) A (iM (.ref a)) Q E s:=by
 unfold iM;refine aP (wpAny_attempt (zY (name:=DT "__next__") hg.typeIs slot_gen_next
  (xp slot_gen_next hg.typeIs entry_gen_next ?_ (args_gen_next _))))
 show bt _ A.in1 (Builtin.Generator.genWake (.ref a) (.send .none)) _ _ s;unfold Builtin.Generator.genWake;refine aP (iL (wpAny_genNumber hg (aP (wpAny_genState nU ?_))));induction gs with
 |running=>exact qH.elim
 |finished=>exact qH.elim
 |_=>
  refine aP (wpAny_roomToWake hl aam ?_);refine wpAny_resumeQ nU qH (λx cn hx=>?_) (λv cn gS hb hv=>?_)
  ·refine oA hx λbb hp=>?_;subst bb;show bt _ A.in1 (newExc (.type "StopIteration") []>>=_) _ _ _;refine aP (EZ λa b e1 e2=>aP (wpAny_raiseNew_none hh ?_));refine aP (wpAny_isInstance (T:="StopIteration") (b:=true) ⟨_,e1,e2⟩ isSubtype_stop ?_);exact bz (hP cn hp _ λb o hb=>iJ _ (iJ _ hb))
  ·exact bz ⟨v,rfl,bz (hY v cn gS hb hv)⟩
end
structure ux(G:bE)(env:Env)(L:aw):Prop where
 loc:env.locals=L
 kind:env.scope.kind=.function
 co:env.scope.isCoroutine=false
 k1:env.kindOf "addr"=some .local
 k2:env.kindOf "pos"=some .local
 k3:env.kindOf "escape"=some .local
 k4:env.kindOf "ch"=some .local
 ke:env.kindOf "enumerate"=some .globalImplicit
 gl:env.globals=fS
 bi:env.builtins=fZ
structure GK(G:bE)(own:al)(bV s:aB):Prop where
 aU:aV G own (λz=>False) bV s
 inv:Inv G s
 soft:bL G s.heap own
def qr(G:bE)(own:al):GenEnd:=λn bV r cn=>r=.ok (.ret .none)/\(n=0/\GK G own bV cn)
def oX(G:bE)(own:al)(dA:ab):Protocol:=λn bV v s ly=>
 ∃p ps,p::ps=dA.drop (dA.length-(n+1))/\n+1<=dA.length/\RelV G (aq s.heap λb=>bV.heap.get? b≠none\/own b) p v/\GK G own bV s/\(∀b,own b->s.heap.get? b≠none)/\
  ∀(φ:al)(aS:aB),aV G φ (λz=>True) s aS->(∀b,φ b->¬own b)->Inv G aS->ly (.send .none) aS
section
variable{bV:aB}{L E SI:aw}{t:Tok}{dA:ab}
theorem GK.refl(I:Inv G s)(hs:bL G s.heap own):GK G own s s:=⟨.refl,I,hs⟩
theorem GK.step(k:GK G own bV s)(kp:∀b o,s.heap.get? b=some o->¬own b->h'.get? b=some o)(sf:∀b,own b->∀o,h'.get? b=some o->iw o):GK G own bV {s with heap:=h',toks:=tk}:=
 ⟨k.aU.trans (aV.of_same kp rfl rfl),k.inv.aU kp k.soft,λb q=>⟨(k.soft b q).1,sf b q⟩⟩
theorem GK.tok(k:GK G own bV s)(tk):GK G own bV {s with toks:=tk}:=k.step (λz z e z=>e) λb q o e=>(k.soft b q).2 o e
theorem GK.grow(k:GK G own bV s)(g:bc G s s')(I':Inv G s')(ex:∀b,own b->s.heap.get? b≠none):GK G own bV s':=⟨k.aU.trans g.aU,I',k.soft.grow g k.inv ex⟩
theorem pK(GE:ux G env L)(hn:s.heap.Ns L m)(hk:env.kindOf y=some .local)(hv:m y=some v)(hd:(y==("__debug__":Str))=false)(h:Q v s):WP G A (bQ (.Name y q) env) Q s:=
 wpAny_Name (wpAny_loadName_local GE.kind hk (by rw[GE.loc];exact hn) hv h) hd
theorem xO(GE:ux G env L)(k:GK G own bV s)(hL:own L)(hn:s.heap.Ns L m)(hk:env.kindOf y=some .local){Q:Unit->ak}
  (h:∀s',s'.heap.Ns L (λz=>if z=y then some v else m z)->GK G own bV s'->xu L s.heap s'.heap->s'.gens=s.gens->Q () s'):WP G A (pF env y v) Q s:=by
 refine IV hk (by rw[GE.loc];exact hn) (λh' gy sb=>?_) (by rw[GE.kind];rfl);rw[GE.loc]at gy sb;refine h _ gy (k.step (λb o e q=>(sb.2 b λw=>q (w▸hL)).trans e) λb q o e=>?_) sb rfl;by_cases w:b=L
 ·rw[w]at e;refine je gy λo' es ep ho hd x=>?_;replace ho:=ao (aT e) ho;obtain rfl:=av ho;exact .inl λvs=>hd▸λh=>jS h
 ·replace e:=ao (aT (show h'.get? b=s.heap.get? b from sb.2 b w)) e;exact(k.soft b q).2 o e
theorem E0(k:GK G own bV s)(ex:∀b,own b->s.heap.get? b≠none){t1 t2:Tok}(hp:p=.tup [.int i,.str y])(hd:p::ps=dA.drop (dA.length-(n+1)))(hl:n+1<=dA.length){ly:Resume->ak}
  (hk:∀(φ:al)(aS:aB),aV G φ (λz=>True) {s with heap:=s.heap.push {cls:=.type "tuple",data:=.seq [tD i t1,.str y t2].toArray}} aS->(∀b,φ b->¬own b)->Inv G aS->ly (.send .none) aS):
  oX G own dA n bV (.ref s.heap.objs.size) {s with heap:=s.heap.push {cls:=.type "tuple",data:=.seq [tD i t1,.str y t2].toArray}} ly:=by
 have g:bc G s {s with heap:=s.heap.push {cls:=.type "tuple",data:=.seq [tD i t1,.str y t2].toArray}}:=.of bU;refine⟨p,ps,hd,hl,?_,k.grow g (k.inv.of bU) ex,λb q=>g.there b (ex b q),hk⟩;subst hp;refine⟨_,_,_,_,rfl,⟨eF _ rfl,λq=>?_,.inl (λh=>bS h)⟩,rfl,rfl,?_⟩
 ·have CG:¬own s.heap.objs.size:=λq=>ex _ q (j0 _);refine vx q (λq=>?_) λq=>?_
  ·exact k.aU.there _ q CG (j0 _)
  ·exact CG q
 ·exact⟨⟨_,rfl⟩,⟨_,rfl⟩,trivial⟩
end
section
variable{prog:Program}{w:World}
theorem K_{it:aw}{w:ar}{ty:String}(ho:h.get? it=some o)(hc:o.cls=.type ty)(hty:ty≠"code")(hd:o.data=.fields #[v,w])(hw:∀q t,w≠.str q t)(u){a b:Obj}:
  ∃o',(((h.update it (DO (·.setIfInBounds 0 u))).push a).push b).get? it=some o'/\iw o':=by
 have eM:=I_ hd (·.setIfInBounds 0 u);refine⟨_,bU _ _ (bU _ _ (pq _ ho (Rc eM))),.inr ⟨?_,?_,λvs q t e=>?_⟩⟩
 ·rw[Rs,hc];nofun
 ·rw[Rs,hc];intro q;cases q;exact hty rfl
 ·replace e:=ao (aT eM) e;cases e;intro q2;simp at q2;exact hw _ _ q2
theorem Tj{it:aw}{t:Tok}{i:Nat}{Q:ar->ak}(hh:A.handled=none)(hit:s.heap.IsStrIter it (fR x) x t i)(hx:x.cps[i]? =none)
  (hE:∀h' e,JG it s.heap h'->(∃o,h'.get? it=some o/\iw o)->(∃o,h'.get? e=some o/\o.cls=.type "StopIteration")->E (.ref e) {s with heap:=h'}):
  bt (bp prog w) A (QX (.ref it)) Q E s:=by
 cases ha:x.cps.all (· <128)
 ·rw[show fR x="str_iterator" from by simp [fR,ha]]at hit;refine eW (id hit) λo ho hc hd=>?_;unfold QX;refine aP (zY (name:=DT "__next__") hit.typeIs afU (xp afU hit.typeIs F.entry_str_iterator_next ?_ (F.args_str_iterator_next_1 _)));show bt _ _ (field (.ref it) 0>>=_) _ _ s;refine aP (mN ho hd (x:=.str x t) rfl ?_);show bt _ _ (field (.ref it) 1>>=_) _ _ s;refine aP (mN ho hd (x:=.int i 0) rfl ?_);simp only[ip,hx];refine aP (As (aP (DN ho hd (by simp) (aP (wpAny_letGo ?_)))));exact aP (EZ λa b e1 e2=>wpAny_raiseNew_none hh (hE _ _ (((pr ..).extBut.push _).push _) (K_ ho hc (by decide) hd (by intro q t;nofun) _) ⟨_,e1,e2⟩))
 ·rw[show fR x="str_ascii_iterator" from by simp [fR,ha]]at hit;refine eW (id hit) λo ho hc hd=>?_;unfold QX;refine aP (zY (name:=DT "__next__") hit.typeIs afw (xp afw hit.typeIs F.entry_str_ascii_iterator_next ?_ (F.args_str_ascii_iterator_next_1 _)));show bt _ _ (field (.ref it) 0>>=_) _ _ s;refine aP (mN ho hd (x:=.str x t) rfl ?_);show bt _ _ (field (.ref it) 1>>=_) _ _ s;refine aP (mN ho hd (x:=.int i 0) rfl ?_);simp only[ip,hx];refine aP (As (aP (DN ho hd (by simp) (aP (wpAny_letGo ?_)))));exact aP (EZ λa b e1 e2=>wpAny_raiseNew_none hh (hE _ _ (((pr ..).extBut.push _).push _) (K_ ho hc (by decide) hd (by intro q t;nofun) _) ⟨_,e1,e2⟩))
theorem Vm{e it:aw}{t:Tok}{i:Nat}{j:Int}{old:ar}{Q:ai->ak}(hh:A.handled=none)(he:IsEnum s.heap e it j old)(hit:s.heap.IsStrIter it (fR x) x t i)(hx:x.cps[i]? =none)
  (hQ:∀h',JG it s.heap h'->(∃o,h'.get? it=some o/\iw o)->Q none {s with heap:=h'}):bt (bp prog w) A (iM (.ref e)) Q E s:=by
 have hT:s.TypeIs (.ref e) "enumerate":=⟨_,he,rfl⟩;unfold iM;refine aP (wpAny_attempt (zY (name:=DT "__next__") hT age
  (xp age hT F.entry_enumerate_next ?_ (F.args_enumerate_next_1 _))))
 show bt _ _ (field (.ref e) 2>>=_) _ _ _;refine aP (mN he rfl (x:=.ref it) rfl ?_);refine aP (Tj (A:=A.in1) hh hit hx λh' x he' hs hx'=>?_);refine br hx' λo ho hc=>aP (wpAny_isInstance (T:="StopIteration") (b:=true) ⟨o,ho,hc⟩ isSubtype_stop ?_);exact bz (hQ _ he' hs)
end
end
section
variable(P:Nat->Pos)
noncomputable abbrev OZ:Expr:=.Tuple [.Name "pos" (P 0),.Name "ch" (P 1)] 0 (P 2)
noncomputable abbrev gYE:Stmt:=.Expr (.Yield (some (.Tuple [.Name "pos" (P 3),.BinOp (.Constant (.str "\\") 0 (P 4)) .Add (.Name "ch" (P 5)) (P 6)] 0 (P 7))) (P 8)) (P 9)
noncomputable abbrev gYC:Stmt:=.Expr (.Yield (some (.Tuple [.Name "pos" (P 10),.Name "ch" (P 11)] 0 (P 12))) (P 13)) (P 14)
noncomputable abbrev Oc:ad:=[.If (.Name "escape" (P 15)) [gYE P,.Assign [.Name "escape" (P 16)] (.Constant (.bool false) 0 (P 17)) (P 18)]
 [.If (.Compare (.Name "ch" (P 19)) [.Eq] [.Constant (.str "\\") 0 (P 20)] (P 21)) [.Assign [.Name "escape" (P 22)] (.Constant (.bool true) 0 (P 23)) (P 24)] [gYC P] (P 25)] (P 26)]
noncomputable abbrev aan:Stmt:=.If (.Name "escape" (P 27)) [.Expr (.Yield (some (.Tuple [.Name "pos" (P 28),.Constant (.str "\\") 0 (P 29)] 0 (P 30))) (P 31)) (P 32)] [] (P 33)
noncomputable abbrev ab5:Stmt:=.For (OZ P) (.Call (.Name "enumerate" (P 34)) [.Name "addr" (P 35)] [] (P 36)) (Oc P) [] (P 37)
noncomputable abbrev kj:ad:=[.Assign [.Name "pos" (P 38)] (.Constant (.int 0) 0 (P 39)) (P 40),.Assign [.Name "escape" (P 41)] (.Constant (.bool false) 0 (P 42)) (P 43),ab5 P,aan P]
end
section
variable{B:dQ}{own:al}{bV:aB}{L E SI:aw}{t:Tok}{dA:ab}{P:Nat->Pos}
theorem Eo(GE:ux G env L):Ar env=false:=by unfold Ar;rw[GE.kind];rfl
theorem M9:("\\":Str).cps.toList=[92]:=by decide
theorem Ui{i:Nat}{dZ:Bool}:(eJ i dZ []).length=if dZ then 1 else 0:=by induction dZ<;>rfl
theorem Ns.zi(I:Inv G s)(hn:s.heap.Ns L m)(a:aV G φ γ s s')(h:¬φ L):s'.heap.Ns L m:=by have nt:=I.yu hn;refine j_ hn λo es ep ho r=>⟨o,es,ep,a.keep _ _ ho nt h,r⟩
theorem zj(I:Inv G s)(e:s.heap.get? b=some o)(h:o.cls=.type n):¬G.tab b:=I.ct e (.inl (by rw[h];nofun))
structure GAt(G:bE)(own:al)(L E SI:aw)(x:Str)(t:Tok)(i:Nat)(dZ:Bool)(s:aB):Prop where
 ns:∃m pv tp,s.heap.Ns L m/\m "pos"=some (.int pv tp)/\m "escape"=some (.bool dZ)/\(dZ=true->pv=((i-1:Nat):Int))
 en:∃old,IsEnum s.heap E SI i old
 si:s.heap.IsStrIter SI (fR x) x t i
 ex:∀b,own b->s.heap.get? b≠none
theorem SS:fR x="str_ascii_iterator"\/fR x="str_iterator":=by unfold fR;split;exact .inl rfl;exact .inr rfl
theorem draws(hh:A.handled=none):Draws G.prog G.w A SI [SI] x.cps.size (λi v=>∃c u,x.cps[i]? =some c/\v=.str ⟨#[c]⟩ u) (λi h=>h.IsStrIter SI (fR x) x t i):=by
 cases ha:x.cps.all (· <128)
 ·have :=Draws.strWide (prog:=G.prog) (w:=G.w) hh SI x t;rw[show fR x="str_iterator" from by simp [fR,ha]];exact this
 ·have :=Draws.strAscii (prog:=G.prog) (w:=G.w) hh SI x t;rw[show fR x="str_ascii_iterator" from by simp [fR,ha]];exact this
theorem Ky(e:h.get? E=some {cls:=.type "enumerate",dict:=none,data:=.fields #[v,.bool false,.ref it,dc i,.none,w],slots:= #[]})(hb:b=E)(ho:h.get? b=some o):iw o:=by rw[hb,e]at ho;obtain rfl:=av ho;exact .inr ⟨by nofun,by simp,λvs q t e=>by cases e;simp⟩
theorem Kz{b:aw}{i:Nat}(e:h.IsStrIter SI (fR x) x t i)(hb:b=SI)(ho:h.get? b=some o):iw o:=by refine eW e λo' e1 e2 e3=>?_;rw[hb,e1]at ho;obtain rfl:=av ho;refine .inr ⟨by rw[e2];nofun,?_,λvs q t e=>by rw[e3]at e;cases e;simp⟩;rw[e2];rcases@SS x with w|w<;>rw[w]<;>simp
variable(GE:ux G env L)(d1:L≠E)(d2:L≠SI)(d3:E≠SI)
noncomputable abbrev gM(G:bE):Model:=bp G.prog G.w
noncomputable abbrev gF(P:Nat->Pos)(env:Env)(K:dk->Sem jW)(H:ar->Sem jW)(p:Pos):Frame:=M8 env K H id id (.func (kj P) env) p
noncomputable abbrev gC(P:Nat->Pos)(env:Env)(E:aw):Code:=.forLoop (OZ P) (.ref E) (Oc P) [] env
theorem Uj{i:Nat}{c:Nat}{cs:aa}:(eJ i true (c::cs)).length=(eJ (i+1) false cs).length+1:=rfl
theorem YD(c):(("\\":Str)++(⟨#[c]⟩:Str))=⟨#[92,c]⟩:=by refine L0 ?_;refine ao (EX ..) ?_;rw[M9];rfl
theorem drop_tail{l r:List α}{p:α}(h:p::r=l.drop (l.length-(r.length+1)))(hl:r.length+1<=l.length):r=l.drop (l.length-r.length):=by have e:l.length-r.length=(l.length-(r.length+1))+1:=(vl (z8 hl)).symm;rw[e,<-DJ,<-h];rfl
include GE in
theorem WK(hn:s.heap.Ns L m)(I:Inv G s)(hv:m "ch"=some (.str ⟨#[c]⟩ u))(h:∀u' s',bc G s s'->Inv G s'->Q (.str ⟨#[92,c]⟩ u') s'):
  WP G A (bQ (.BinOp (.Constant (.str "\\") 0 p1) .Add (.Name "ch" p2) p3) env) Q s:=by
 refine wpAny_BinOp ?_;refine eT (xh ..) ?_;refine DX (pK (s:={s with toks:=s.toks+1}) GE hn GE.k4 hv rfl ?_);have hb:bj .Add (.str "\\") (.str ⟨#[c]⟩)=some (.str ⟨#[92,c]⟩):=aR (λz=>some (PV.str z)) (YD c);refine EQ (μ:=dv) hb (I.tok _) (λy q=>q.elim) (.mkStr _ _ _) (.mkStr _ _ _) λv s6 g6 I6 r6 y=>?_;obtain⟨u',rfl⟩:=r6.str;exact h u' s6 ((bc.tok _).trans g6) I6
theorem FB:[v,w].length<=rr:=by rw[lN];simp
def ab6(own:al)(L:aw)(i:Nat)(dZ:Bool)(s:aB):Prop :=
 (∃m pv tp,s.heap.Ns L m/\m "pos"=some (.int pv tp)/\m "escape"=some (.bool dZ)/\(dZ=true->pv=((i-1:Nat):Int)))/\∀b,own b->s.heap.get? b≠none
theorem cps{G:Prop}(h:∀P:Prop,(G->P)->P):G:=h G id
theorem AY{D:al}(hs:∀b,own b->∀o,h.get? b=some o->iw o)(ex:∀b,own b->h.get? b≠none)(kp:∀b o,¬D b->h.get? b=some o->h'.get? b=some o)(hD:∀b,D b->∀o,h'.get? b=some o->iw o):∀b,own b->∀o,h'.get? b=some o->iw o:=λb q o e=>(lM (D b)).elim (λd=>hD b d o e) λd=>by
 cases e0:h.get? b with
 |none=>exact bx e0 (ex b q)
 |some o0=>exact av ((kp b o0 d e0).symm.trans e)▸hs b q o0 e0
theorem FC{D:al}(ex:∀b,own b->h.get? b≠none)(kp:∀b o,¬D b->h.get? b=some o->h'.get? b=some o)(hD:∀b,D b->h'.get? b≠none):∀b,own b->h'.get? b≠none:=λb q r=>(lM (D b)).elim (λd=>hD b d r) λd=>ex b q (by
 cases e0:h.get? b with
 |none=>rfl
 |some o0=>exact aK (r.symm.trans (kp b o0 d e0)))
theorem Eg(e:h.get? b=some o):h.get? b≠none:=λr=>aK (r.symm.trans e)
noncomputable abbrev yQ(E SI:aw):al :=λb=>b=E\/b=SI
theorem La{i:Nat}{v w:ar}{k:Int}{it:aw}(e:h.get? E=some {cls:=.type "enumerate",dict:=none,data:=.fields #[v,.bool false,.ref it,dc k,.none,w],slots:= #[]})(si:h.IsStrIter SI (fR x) x t i):∀b,yQ E SI b->∀o,h.get? b=some o->iw o:=λz q z ho=>q.elim (λw=>Ky e w ho) λw=>Kz si w ho
theorem M_{i:Nat}(e:h.get? E=some o)(si:h.IsStrIter SI (fR x) x t i):∀b,yQ E SI b->h.get? b≠none:=λb q=>q.elim (λw=>w▸Eg e) λw=>w▸(by refine br si λo m z=>?_;exact Eg m)
include GE d1 d2 d3 in
theorem Vn(hh:B.handled=none){K:dk->Sem jW}{H:ar->Sem jW}(fM:own=λb=>b=L\/b=E\/b=SI)
  (hR:a_ (B.over (gC P env E) [gF P env K H p0]) 0)
  (fin:∀(dZ:Bool)(bV s:aB),GK G own bV s->ab6 own L x.cps.size dZ s->(eJ x.cps.size dZ [])=dA.drop (dA.length-(if dZ then 1 else 0))->(if dZ then 1 else 0)<=dA.length->
   Seg (gM G) B (qr G own) (oX G own dA) (if dZ then 1 else 0) bV (.func (kj P) env) (K .next) [] s):
  ∀(cs:aa)(i:Nat)(dZ:Bool)(bV s:aB),i+cs.length=x.cps.size->x.cps.toList.drop i=cs->GK G own bV s->GAt G own L E SI x t i dZ s->
   eJ i dZ cs=dA.drop (dA.length-(eJ i dZ cs).length)->(eJ i dZ cs).length<=dA.length->
   Seg (gM G) B (qr G own) (oX G own dA) (eJ i dZ cs).length bV (gC P env E) ((gM G).den (gC P env E)) [gF P env K H p0] s:=by
 have oL:own L:=by rw[fM];exact .inl rfl
 have oE:own E:=by rw[fM];exact .inr (.inl rfl)
 have oS:own SI:=by rw[fM];exact .inr (.inr rfl)
 have HZ:=hR.hh;have W:=WalksT.enumerateD (prog:=G.prog) (w:=G.w) (A:=B.over (gC P env E) [gF P env K H p0]) (draws (G:=G) (SI:=SI) (x:=x) (t:=t) HZ) E d3 (by simpa using d3) (by simp);have G_:∀b,b∉[E,SI]↔b≠E/\b≠SI:=λb=>by simp
 have O0:∀b,¬own b->b∉[E,SI]:=λb q=>(G_ b).mpr ⟨λw=>q (w▸oE),λw=>q (w▸oS)⟩;intro cs;induction cs with
 |nil=>
  intro i dZ bV s hi hd k g hits hlen;simp only[Ac,ag3]at hi;subst hi;refine EO g.ns λm pv tp n1 n2 n3 n4=>Mine.Internal.oE g.en λold en=>?_;have si:=g.si;have ex:=g.ex;refine(JW (Vm HZ en si (Q9 (eI _)) λh' hx hs=>So ?_));rw[Ui]at hits hlen⊢;refine fin dZ bV {s with heap:=h'} (k.step (λb o e q=>hx b o (λw=>q (w▸oS)) e) (AY (λb q=>(k.soft b q).2) ex hx λb w o e=>?_)) ⟨⟨m,pv,tp,n1.imp λo=>.imp λes=>.imp λep=>.imp_left (hx L o d2),n2,n3,n4⟩,FC ex hx λb w=>?_⟩ hits hlen
  ·refine br hs λo' e1 e2=>av (e1.symm.trans (w▸e))▸e2
  ·refine br hs λo' e1 v=>w▸Eg e1
 |cons c cs ih=>
  intro i dZ bV s hi hd k g hits hlen;simp only[ff]at hi;refine EO g.ns λm pv tp n1 n2 n3 n4=>?_;have en:=g.en;have si:=g.si;have ex:=g.ex;have hci:x.cps[i]? =some c:=by refine ao (aT (re ..)) ?_;have :=aR (λl=>l[0]?) hd;simpa using this
  have zk:x.cps.toList.drop (i+1)=cs:=by have :=aR (λl=>l.drop 1) hd;simpa [DJ]using this
  refine JW (W.item i s _ _ (by lia) ⟨en,si⟩ λT vals h1 CC hv ie hT G' PW=>?_);refine gb hv λti xv bb q2=>gb bb λc' u su q1=>?_;obtain rfl:=av (hci.symm.trans su);subst q1 q2;have hm:=G';refine c_ hm λbb m2 v=>Mine.Internal.oE bb λxo m1=>(W.go _ _ _ _ _ _ _ _ G' λh2 ab7 mj=>?_);have CM:∀b o,¬yQ E SI b->s.heap.get? b=some o->h1.get? b=some o:=λb o d=>PW b o ((G_ b).mpr (not_or.mp d));have CN:∀b o,¬yQ E SI b->h1.get? b=some o->h2.get? b=some o:=λb o d=>mj b o ((G_ b).mpr (not_or.mp d));have dL:¬yQ E SI L:=λw=>w.elim d1 d2;have Gk:=AY (λb q=>(k.soft b q).2) ex CM (La m1 m2);have uP:=FC ex CM (M_ m1 m2);clear m1 m2;refine oA ab7 λbb H0=>Mine.Internal.oE bb λwr H1=>?_;have mW:=AY Gk uP CN (La H1 H0);have o7:=FC uP CN (M_ H1 H0);have HM:h2.Ns L m:=n1.imp λo=>.imp λes=>.imp λep=>.imp_left λho=>CN L o dL (CM L o dL ho);refine(wpAny_assign_Tuple HZ (hT.imp λo=>.imp_left (mj T o (W.apart _ _ _ G')):h2.IsTuple T #[.int i ti,.str ⟨#[c]⟩ u]) rfl rfl λh3 (H2:JG h2.objs.size h2 h3)=>?_);have qI:∀b o,h2.get? b=some o->h3.get? b=some o:=λb o e=>H2 b o (eO (fQ e)) e;have k3:GK G own bV {s with heap:=h3,toks:=CC}:=((k.step (λb o e q=>PW b o (O0 b q) e) Gk).step (h':=h2) (tk:=CC) (λb o e q=>mj b o (O0 b q) e) mW).step (λb o e v=>qI b o e) (AY (D:=λv=>False) mW o7 (λb o v=>qI b o) λv q=>q.elim);clear uP o7 Gk mW CM CN dL;show bt _ _ (do holding [.str ⟨#[c]⟩ u] (assign (.Name "pos" (P 0)) env (.int i ti));do holding [] (assign (.Name "ch" (P 1)) env (.str ⟨#[c]⟩ u));pure ()) _ _ _;refine aP (iL (pw (xO GE k3 oL (HM.keeps qI) GE.k2 λs4 n4' k4 sb4 v=>?_)));refine aP (iL (pw (xO GE k4 oL n4' GE.k4 λs5 n5 k5 sb5 v=>bz ?_)));have O1:∀b,b≠L->s5.heap.get? b=h3.get? b:=λb q=>(sb5.2 b q).trans (sb4.2 b q);have uR:=(O1 E (lP d1)).trans (qI _ _ H1);have wM:s5.heap.IsStrIter SI (fR x) x t (i+1):=by refine br H0 λo e1 r=>⟨o,(O1 SI (lP d2)).trans (qI _ _ e1),r⟩
  have uS:∀{s5:aB}{mm:am},s5.heap.Ns L mm->IsEnum s5.heap E SI (((i+1:Nat)):Int) wr->s5.heap.IsStrIter SI (fR x) x t (i+1)->∀b,own b->s5.heap.get? b≠none:=λ{s5 mm} a1 a2 a3 b q=>by
   rw[fM]at q;rcases q with q|q|q
   ·refine j_ a1 λo es ep ho v=>?_;rw[q,ho];simp
   ·rw[q,a2];simp
   ·refine br a3 λo ho v=>?_;rw[q,ho];simp
  generalize H3:(λz=>if z=("ch":Str)then some (Value.str ⟨#[c]⟩ u)else if z=("pos":Str)then some (tD i ti)else m z)=m5 at n5;have v1:m5 "pos"=some (.int i ti):=by rw[<-H3];rfl
  have v2:m5 "ch"=some (.str ⟨#[c]⟩ u):=by rw[<-H3];rfl
  have v3:m5 "escape"=some (.bool dZ):=by rw[<-H3];exact n3
  have again:∀(jE:Bool)(p_ s':aB)(m':am),GK G own p_ s'->s'.heap.Ns L m'->m' "pos"=some (.int i ti)->m' "escape"=some (.bool jE)->IsEnum s'.heap E SI (((i+1:Nat)):Int) wr->s'.heap.IsStrIter SI (fR x) x t (i+1)->
    eJ (i+1) jE cs=dA.drop (dA.length-(eJ (i+1) jE cs).length)->(eJ (i+1) jE cs).length<=dA.length->
    Seg (gM G) B (qr G own) (oX G own dA) (eJ (i+1) jE cs).length p_ (gC P env E) (.pure (.again (gC P env E))) [gF P env K H p0] s':=λjE p_ s' m' a1 a2 a3 a4 a5 a6 a7 a8=>
   seg_again rfl (ih (i+1) jE p_ s' (by lia) zk a1 ⟨⟨m',_,_,a2,a3,a4,λv=>by simp⟩,⟨wr,a5⟩,a6,uS a2 a5 a6⟩ a7 a8)
  have L7:∀(jE:Bool)(p1 p2 p3:Pos)(K1:dk->Sem jW)(p_ s':aB)(m':am),K1 .next=.pure (.again (gC P env E))->GK G own p_ s'->s'.heap.Ns L m'->m' "pos"=some (.int i ti)->IsEnum s'.heap E SI (((i+1:Nat)):Int) wr->s'.heap.IsStrIter SI (fR x) x t (i+1)->
    eJ (i+1) jE cs=dA.drop (dA.length-(eJ (i+1) jE cs).length)->(eJ (i+1) jE cs).length<=dA.length->
    Seg (gM G) B (qr G own) (oX G own dA) (eJ (i+1) jE cs).length p_ (gC P env E) ((execs [.Assign [.Name "escape" p1] (.Constant (.bool jE) 0 p2) p3] env).wrap K1 (Gj env) id id) [gF P env K H p0] s':=λjE p1 p2 p3 K1 p_ s' m' hK a1 a2 a3 a5 a6 a7 a8=>by
   refine rn (En (z_ ?_));refine eT (xh ..) ?_;refine bz (xO GE a1 oL a2 GE.k3 λs6 n6 k6 PX v=>?_);show Seg _ _ _ _ _ _ _ (K1 .next) _ _;rw[hK];refine again jE p_ s6 _ k6 n6 (by simp only[aJ (show("pos":Str)≠"escape" by decide)];exact a3) (by simp) ((PX.2 E (lP d1)).trans a5) ?_ a7 a8;refine br a6 λo e1 r=>⟨o,(PX.2 SI (lP d2)).trans e1,r⟩
  have zi:∀{φ:al}{s6 aS:aB},GK G own bV s6->s6.heap.Ns L m5->IsEnum s6.heap E SI (((i+1:Nat)):Int) wr->s6.heap.IsStrIter SI (fR x) x t (i+1)->aV G φ (λv=>True) s6 aS->(∀b,φ b->¬own b)->Inv G aS->
    GK G own aS aS/\aS.heap.Ns L m5/\IsEnum aS.heap E SI (((i+1:Nat)):Int) wr/\aS.heap.IsStrIter SI (fR x) x t (i+1):=λ{φ s6 aS} a1 a2 a3 a4 st dm qD=>by
   refine⟨.refl qD (bL.aU a1.soft st a1.inv (uS a2 a3 a4) λb q w=>bx q (dm b w)),Ns.zi a1.inv a2 st λq=>dm L q oL,st.keep _ _ a3 (zj a1.inv a3 rfl) λq=>dm E q oE,?_⟩;refine eW a4 λo e1 e2 r=>⟨o,st.keep _ _ e1 (zj a1.inv e1 e2) λq=>dm SI q oS,e2,r⟩
  refine rn (FA (wpAny_isTrue_value (pK GE n5 GE.k3 v3 rfl (Dz ?_))));induction dZ with
  |true=>
   simp only[if_true];rw[Uj]at hits hlen⊢;have Gl:=drop_tail hits hlen;refine rn (Gi rfl rfl rfl ?_ GE.co (Eo GE));refine wpAny_Tuple (iK (pK GE n5 GE.k2 v1 rfl (iK (WK GE n5 k5.inv v2 λu' s6 g6 I6=>og ⟨FB,λly hk=>?_⟩))));have k6:=k5.grow g6 I6 (uS n5 uR wM);have n6:=g6.ns k5.inv n5;have H4:=g6.keep _ _ uR (zj k5.inv uR rfl);have H5:s6.heap.IsStrIter SI (fR x) x t (i+1):=by refine eW wM λo e1 e2 r=>⟨o,g6.keep _ _ e1 (zj k5.inv e1 e2),e2,r⟩
   refine E0 k6 (uS n6 H4 H5) rfl hits hlen λφ aS st dm qD=>hk .none aS ?_;have g7:bc G s6 {s6 with heap:=s6.heap.push {cls:=.type "tuple",data:=.seq [tD i ti,.str ⟨#[92,c]⟩ u'].toArray}}:=.of bU;have I7:Inv G {s6 with heap:=s6.heap.push {cls:=.type "tuple",data:=.seq [tD i ti,.str ⟨#[92,c]⟩ u'].toArray}}:=I6.of bU;have k7:=k6.grow g7 I7 (uS n6 H4 H5);refine v_ (zi k7 (n6.keeps bU) (bU _ _ H4) (H5.imp λo=>.imp_left (bU _ _)) st dm qD) λf1 f2 f3 f4=>L7 false _ _ _ _ aS aS m5 rfl f1 f2 v1 f3 f4 Gl (by lia)
  |false=>
   simp only[kJ,if_false];refine rn (FA ?_);refine wpAny_isTrue_Compare1 (pK GE n5 GE.k4 v2 rfl ?_) rfl;refine eT (xh ..) ?_;refine DX ?_;refine ER (μ:=dv) (x:=.str ⟨#[c]⟩) (y:=.str "\\") (c:=c==92) ?_ (n:=0) hR (.mkStr _ _ _) (.mkStr _ _ _) (Dz ?_)
   ·show some ((⟨#[c]⟩:Str).cps.toList==("\\":Str).cps.toList)=_;rw[M9];rw[List.cons_beq_cons];simp
   ·have CO:({s5 with toks:=s5.toks+1}:aB).heap.Ns L m5:=n5;have H6:=k5.tok (s5.toks+1);by_cases Ha:c=92
    ·subst Ha;simp only[beq_self_eq_true,if_true];have e1:eJ i false (92::cs)=eJ (i+1) true cs:=by simp [eJ]
     rw[e1]at hits hlen⊢;exact L7 true _ _ _ _ bV _ m5 rfl H6 CO v1 uR wM hits hlen
    ·rw[dq Ha];simp only[kJ,if_false];have e1:eJ i false (c::cs)=.tup [.int (i:Nat),.str ⟨#[c]⟩]::eJ (i+1) false cs:=by simp [eJ,Ha]
     rw[e1,ff]at hits hlen⊢;have Gl:=drop_tail hits hlen;refine rn (Gi rfl rfl rfl ?_ GE.co (Eo GE));refine wpAny_Tuple (iK (pK GE CO GE.k2 v1 rfl (iK (pK GE CO GE.k4 v2 rfl (og ⟨FB,λly hk=>?_⟩)))));refine E0 H6 (uS CO uR wM) rfl hits hlen λφ aS st dm qD=>hk .none aS ?_;have g7:bc G {s5 with toks:=s5.toks+1} {s5 with toks:=s5.toks+1,heap:=s5.heap.push {cls:=.type "tuple",data:=.seq [tD i ti,.str ⟨#[c]⟩ u].toArray}}:=.of bU;have I7:Inv G {s5 with toks:=s5.toks+1,heap:=s5.heap.push {cls:=.type "tuple",data:=.seq [tD i ti,.str ⟨#[c]⟩ u].toArray}}:=k5.inv.of bU;have k7:=H6.grow g7 I7 (uS n5 uR wM);refine v_ (zi k7 (n5.keeps bU) (bU _ _ uR) (wM.imp λo=>.imp_left (bU _ _)) st dm qD) λf1 f2 f3 f4=>again false aS aS m5 f1 f2 v1 v3 f3 f4 Gl (by lia)
end
section
variable{n k w:Nat}{sc cs:aH}{A:dQ}{pos:Pos}{r:Rec}{st:St}{a:aw}{P:Prop}{own:al}{fl:bG}{d:FD}{c:Bool}{body:ad}{E:ar->ak}{b:Int}{nm:Str}{ns:af}{it:ar}{M:Model}
section
variable{B:dQ}{bV:aB}{L E SI:aw}{t:Tok}{dA:ab}{P:Nat->Pos}
theorem WN(S:bY G)(GE:ux G env L)(hh:B.handled=none)(I:Inv G s)(sL:bL G s.heap λb=>b=L)(hn:s.heap.Ns L m)(hx:m "addr"=some (.str x t))(hE:E=s.heap.objs.size+1)(uT:SI=s.heap.objs.size)(fM:own=λb=>b=L\/b=E\/b=SI)
  (hR:∀c fs,a_ (B.over c fs) 0\/True) (PY:a_ (B.over (.func (kj P) env) []) 0) (sC:∀K H p,a_ (B.over (gC P env E) [gF P env K H p]) 0):
  Seg (gM G) B (qr G own) (oX G own (jd x)) (jd x).length s (.func (kj P) env) ((gM G).den (.func (kj P) env)) [] s:=by
 have hL:L<s.heap.objs.size:=hn.lt;have d1:L≠E:=by rw[hE];exact eO (Jg hL)
 have d2:L≠SI:=by rw[uT];exact eO hL
 have d3:E≠SI:=by rw[hE,uT];exact Nat.succ_ne_self _
 have oL:own L:=by rw[fM];exact .inl rfl
 have O3:∀b,b=E\/b=SI->s.heap.get? b=none:=λb q=>n_ (by rcases q with q|q;exact q▸hE▸dX _;exact q▸uT▸eI _);have HY:∀b,s.heap.get? b=none->G.hb.get? b=none:=λb q=>by
  cases e:G.hb.get? b with
  |none=>rfl
  |some o=>have :=I.old b o e;rw[q]at this;exact aK this
 have k0:GK G own s s:=.refl I λb q=>by
  rw[fM]at q;rcases q with q|q
  ·exact sL b q
  ·exact⟨HY b (O3 b q),λo e=>by replace e:=ao (aT (O3 b q ..)) e;exact aK e⟩
 have ended:∀(bV s':aB)(K0:dk->Sem jW),K0 .next=.pure (.done (.ret .none))->GK G own bV s'->Seg (gM G) B (qr G own) (oX G own (jd x)) 0 bV (.func (kj P) env) (K0 .next) [] s':=λbV s' K0 hK k=>by rw[hK];exact seg_end (.ok (.ret .none)) ⟨rfl,rfl,k⟩
 refine seg_func (rn (En (z_ ?_)));refine eT (xh ..) ?_;refine wpAny_mkInt (xO (s:={s with toks:=s.toks+1}) GE (k0.tok _) oL hn GE.k2 λs1 n1 k1 sb1 z=>?_);refine rn (En (z_ ?_));refine eT (xh ..) ?_;refine bz (xO GE k1 oL n1 GE.k3 λs2 n2 k2 sb2 z=>?_);have ie:s2.heap.objs.size=s.heap.objs.size:=by refine ao sb2.1 ?_;rw[sb1.1]
 have I2:=k2.inv;have iA:s2.heap.Ns env.globals G.mg:=by rw[GE.gl];exact I2.mg S.towA
 have HQ:s2.heap.Ns env.builtins G.mb:=by rw[GE.bi];exact I2.mb S.towA
 refine rn (WJ rfl (wpAny_Call_NameR (Df GE.kind GE.ke (Di iA S.enum.1 HQ S.enum.2 ?_) rfl)));have va:=hx;refine afk (iK (pK GE n2 GE.k1 va rfl (og ?_)));refine call_enumerate_str λh' he hs hz hk=>wpAny_pyIter_enum he λp=>?_;rw[ie]at he hs⊢;rw[<-hE]at he⊢;rw[<-uT]at he hs;have k3:GK G own s {s2 with heap:=h'}:=k2.step (λb o e z=>hk b o e) λb q o e=>by
  rw[fM]at q;rcases q with q|q|q
  ·cases e0:s2.heap.get? b with
   |none=>refine j_ n2 λo' es ep ho z=>?_;rw[q,ho]at e0;exact aK<|aT<|e0
   |some o0=>have e2:=hk b o0 e0;have h1:=(k2.soft b (by rw[fM];exact .inl q)).2 o0 e0;replace e2:=ao (aT e) e2;obtain rfl:=av e2;exact h1
  ·exact Ky he q e
  ·exact Kz hs q e
 refine Vn GE d1 d2 d3 hh fM (sC _ _ p) (λdZ bV s' k g hits hlen=>?_) x.cps.toList 0 false s _ (by simp) rfl k3 ⟨⟨_,_,_,n2.keeps hk,rfl,rfl,λq=>xm<|q⟩,⟨_,he⟩,hs,λb q=>?_⟩ (by simp [jd]) (eI _)
 ·refine oA g λbb ex=>?_;obtain⟨mm,pv,tp,g1,g2,g3,g4⟩:=bb;refine rn (FA (wpAny_isTrue_value (pK GE g1 GE.k3 g3 rfl (Dz ?_))));induction dZ with
  |false=>simp only[kJ,if_false];exact ended bV s' (λf=>.pure (.done (.ret (match f with | .ret v=>v|_=>.none)))) rfl k
  |true=>
   simp only[if_true];simp only[if_true]at hits hlen;have hpv:=g4 rfl;subst hpv;refine rn (Gi rfl rfl rfl ?_ GE.co (Eo GE));refine wpAny_Tuple (iK (pK GE g1 GE.k2 g2 rfl (iK ?_)));refine eT (xh ..) ?_;refine DX (og ⟨FB,λly hkp=>?_⟩);refine E0 (s:={s' with toks:=s'.toks+1}) (k.tok _) ex rfl hits hlen λφ aS st dm qD=>hkp .none aS ?_;refine ended aS aS (λf=>.pure (.done (.ret (match f with | .ret v=>v|_=>.none)))) rfl (.refl qD ?_);have k7:=(k.tok (s'.toks+1)).grow (s':={s' with heap:=s'.heap.push {cls:=.type "tuple",data:=.seq [tD ((x.cps.size-1:Nat):Int) tp,.str "\\" s'.toks].toArray},toks:=s'.toks+1}) (.of (tk:=s'.toks+1) bU) (k.inv.of (tk:=s'.toks+1) bU) ex;exact bL.aU k7.soft st k7.inv (λb q=>by
    show(s'.heap.push _).get? b≠none;cases e:s'.heap.get? b with
    |none=>exact bx e (ex b q)
    |some o=>rw[bU _ _ e];simp) λb q w=>bx q (dm b w)
 ·rw[fM]at q;show h'.get? b≠none;rcases q with q|q|q
  ·refine j_ n2 λo' es ep ho z=>?_;rw[q,hk _ _ ho];simp
  ·rw[q,he];simp
  ·refine br hs λo ho z=>?_;rw[q,ho];simp
end
section
variable{bV:aB}{L E SI:aw}{g:Nat}{t:Tok}{dA:ab}{P:Nat->Pos}
theorem Inv.gen(I:Inv G s)(h:AllBare gens):Inv G {s with gens:=gens}:=⟨I.old,I.tabs,h⟩
theorem Vo{gens:Array ru}{y:ru}(h:AllBare gens)(hy:y.bare=true):AllBare (gens.setIfInBounds g y):=λz hz=>by
 obtain⟨i,hi,rfl⟩:=Array.mem_iff_getElem.mp hz;rw[Array.getElem_setIfInBounds (by simpa using hi)]
 split
 ·exact hy
 ·exact h _ (Array.getElem_mem _)
theorem Inv.setGen{y:ru}(I:Inv G s)(hy:y.bare=true):Inv G (s.setGen g y):=I.gen (Vo I.bare hy)
theorem AC{y:ru}(hg:γ g):aV G φ γ s (s.setGen g y):=⟨λz z e z z=>e,λz h z=>h,λi x e n=>by
 refine ao (afp (λw=>n (by rw[<-w];exact hg))) ?_;exact e,rfl⟩
theorem Lb(a:aV G φ γ s s'):aV G φ (λz=>True) s s':=⟨a.keep,a.there,λz z z n=>bx trivial n,a.os⟩
theorem Vp(h:s.heap=s'.heap)(ho:s.os=s'.os)(a:aV G φ (λz=>True) s' aS):aV G φ (λz=>True) s aS:=⟨λb o e n m=>a.keep b o (h▸e) n m,λb e m=>a.there b (h▸e) m,λz z z n=>bx trivial n,a.os.trans ho.symm⟩
theorem Bc{b:aw}(h:s.heap.IsGen b g)(I:Inv G s)(a:aV G φ γ s s')(n:¬φ b):s'.heap.IsGen b g:=by refine je h λo nm qn ho hc r=>⟨o,nm,qn,a.keep _ _ ho (zj I ho hc) n,hc,r⟩
theorem EA(S:bY G)(R0:a_ A 0){gs:ru}{uy:al}(I':Inv G s')(hg:s'.heap.IsGen a g)(nU:s'.gens[g]? =some gs)(na:¬own a)(h0:∀b,uy b->own b)(h1:∀b,own b->uy b\/s'.heap.get? b=none)
  (qH:gs.Goes (gM G) A.in1 (qr G own) (oX G own dA) ps.length (.send .none) (s'.setGen g .running)) (uU:ps=dA.drop (dA.length-ps.length)) (hlen:ps.length<=dA.length) {Q:ai->ak}
  (aao:ps=[]->∀aS,aV G uy (λi=>i=g) s' aS->Inv G aS->Q none aS)
  (aap:∀p fO v aS gS,ps=p::fO->aV G uy (λi=>i=g) s' aS->Inv G aS->(∀b,own b->aS.heap.get? b≠none)->bL G aS.heap own->aS.heap.IsGen a g->aS.gens[g]? =some gS->RelV G (aq aS.heap λb=>(μ b/\s'.heap.get? b≠none)\/own b) p v->
   (∀(φ:al)(s3:aB),aV G φ (λz=>True) aS s3->(∀b,φ b->¬own b)->Inv G s3->gS.Goes (gM G) A.in1 (qr G own) (oX G own dA) fO.length (.send .none) s3)->Q (some v) aS):
  WP G A (iM (.ref a)) Q s':=by
 have back:∀{sx:aB},aV G own (λz=>False) (s'.setGen g .running) sx->aV G uy (λi=>i=g) s' sx:=λ{sx} st=>⟨λb o e n m=>st.keep b o e n λq=>(h1 b q).elim m λq=>(by replace e:=ao (aT q) e;exact aK e),λb e m=>st.there b e λq=>(h1 b q).elim m e,
  λi y e n=>st.gens i y (by
   refine ao (afp (λw=>n w.symm)) ?_;exact e) (λq=>q),st.os⟩
 refine SR R0.hh (I'.lim S.towA) (by have :=R0.depth;exact afQ this) hg nU qH (λv cn gS hb hy=>?_) λcn hp h' hk=>?_
 ·refine KK hy λp fO hd hl rv k ex ly=>?_;cases ps with
  |nil=>exact(ly dv cn .refl (λz q=>q.elim) k.inv).elim
  |cons q qs=>simp only[ff,Ja]at hd hl;simp only[ff]at uU;rw[<-uU]at hd;cases hd;have aE:aV G uy (λi=>i=g) s' (cn.setGen g gS):=(back k.aU).trans (AC rfl);refine aap p fO v (cn.setGen g gS) gS rfl aE (k.inv.setGen hb) ex k.soft (Bc hg (s':=cn) I' (back k.aU) λq=>na (h0 a q)) (setGen_self (gs:=.running) ?_) (rv.mono (aq.less λb q=>q.imp_left λq=>q.2)) λφ s3 st dm I3=>ly φ s3 (Vp (s:=cn) (s':=cn.setGen g gS) rfl rfl st) dm I3;exact k.aU.gens g _ (setGen_self nU) (λq=>q)
 ·refine oA hp λhn k=>?_;have ab8:=IK.mp hn;have I2:Inv G {cn with heap:=h',toks:=cn.toks}:=k.inv.of hk;have bw:aV G uy (λi=>i=g) cn {cn.setGen g .finished with heap:=h'}:=(AC (γ:=λi=>i=g) rfl).trans (aV.of_same (λb o e z=>hk b o e) rfl rfl);exact aao ab8 _ ((back k.aU).trans bw) (I2.setGen rfl)
theorem Vq(S:bY G)(R0:a_ A 0):∀(ps:ab)(gs:ru)(s:aB),s.heap.IsGen a g->s.gens[g]? =some gs->¬μ a->¬own a->(∀b,own b->s.heap.get? b≠none)->Inv G s->
  (∀(φ:al)(s3:aB),aV G φ (λz=>True) s s3->(∀b,φ b->¬own b)->Inv G s3->gs.Goes (gM G) A.in1 (qr G own) (oX G own dA) ps.length (.send .none) s3)->ps=dA.drop (dA.length-ps.length)->ps.length<=dA.length->
  o8 G A μ (λi=>i=g) (.ref a) ps own s:=by
 intro ps;induction ps with
 |nil=>intro gs s hg nU uV na ex I qH uU hlen φ cU s' st dm qJ I' Q hQ;refine EA (μ:=μ) S R0 I' (Bc hg I st λq=>uV (dm a q).1) (st.gens g gs nU λq=>qJ g q rfl) na (λz q=>q) (λz q=>.inl q) (qH φ _ ((Lb st).trans (AC (g:=g) trivial)) (λb q=>(dm b q).2) (I'.setGen rfl)) uU hlen (λz=>hQ) λp fO v aS gS e=>nomatch e
 |cons p ps ih=>intro gs s hg nU uV na ex I qH uU hlen φ cU s' st dm qJ I' Q hQ;refine EA (μ:=μ) S R0 I' (Bc hg I st λq=>uV (dm a q).1) (st.gens g gs nU λq=>qJ g q rfl) na (λz q=>q) (λz q=>.inl q) (qH φ _ ((Lb st).trans (AC (g:=g) trivial)) (λb q=>(dm b q).2) (I'.setGen rfl)) uU hlen (λe=>nomatch e) λp' fO v aS gS e bw I2 o7 H7 zl Hb H8 Hc=>?_;cases e;refine hQ v aS own bw I2 (λz q=>q) (λb q=>.inl q) o7 H7 ⟨a,rfl,?_⟩ H8 (ih gS aS zl Hb uV na o7 I2 Hc (drop_tail uU hlen) (by simp only[ff]at hlen;exact th hlen));refine je zl λo nm qn ho hc z=>⟨o,_,ho,hc,by decide⟩
theorem WO(S:bY G)(GE:ux G env L)(R0:a_ A 0)(PY:a_ (A.in1.over (.func (kj P) env) []) 0)(sC:∀E K H p,a_ (A.in1.over (gC P env E) [gF P env K H p]) 0)(hg:s.heap.IsGen a g)(nU:s.gens[g]? =some (.fresh (.func (kj P) env)))(uV:¬μ a)(naL:a≠L)(I:Inv G s)
  (sL:bL G s.heap λb=>b=L) (hn:s.heap.Ns L m) (hx:m "addr"=some (.str x t)):o8 G A μ (λi=>i=g) (.ref a) (jd x) (λb=>b=L) s:=by
 have core:∀(φ:al)(cU:Nat->Prop)(s':aB),aV G φ cU s s'->(∀b,φ b->μ b/\¬b=L)->(∀i,cU i->¬i=g)->Inv G s'->∀{Q:ai->ak},
   (jd x=[]->∀aS,aV G (λb=>b=L) (λi=>i=g) s' aS->Inv G aS->Q none aS)->
   (∀p ps v aS gj,jd x=p::ps->aV G (λb=>b=L) (λi=>i=g) s' aS->Inv G aS->(∀b,b=L->gj b)->(∀b,gj b->b=L\/s'.heap.get? b=none)->(∀b,gj b->aS.heap.get? b≠none)->bL G aS.heap gj->(∃I,(tC a)=.ref I/\mV aS.heap I)->
    RelV G (aq aS.heap λb=>(μ b/\s'.heap.get? b≠none)\/gj b) p v->o8 G A μ (λi=>i=g) (.ref a) ps gj aS->Q (some v) aS)->
   WP G A (iM (.ref a)) Q s':=λφ cU s' st dm qJ I' Q hd hq=>by
  have PZ:=Bc hg I st λq=>uV (dm a q).1;have gy:=Ns.zi I hn st λq=>(dm L q).2 rfl;have sL':=bL.aU sL st I (λb q=>by refine j_ hn λo es ep ho z=>?_;rw[q,ho];simp) λb q w=>bx q (dm b w).2;have Od:s'.heap.get? a≠none:=by refine j_ PZ λo nm qn ho z=>?_;rw[ho];simp
  have na:¬(a=L\/a=s'.heap.objs.size+1\/a=s'.heap.objs.size):=λq=>by
   rcases q with q|q|q
   ·exact naL q
   ·exact Od (n_ (q▸dX _))
   ·exact Od (n_ (q▸eI _))
  have jC:∀b,(b=L\/b=s'.heap.objs.size+1\/b=s'.heap.objs.size)->b=L\/s'.heap.get? b=none:=λb q=>by
   rcases q with q|q|q
   ·exact .inl q
   ·exact .inr (n_ (q▸dX _))
   ·exact .inr (n_ (q▸eI _))
  refine EA (μ:=μ) S R0 I' PZ (st.gens g _ nU λq=>qJ g q rfl) na (λz q=>.inl q) jC
   ⟨rfl,WN (s:=s'.setGen g .running) S GE R0.hh (I'.setGen rfl) sL' gy hx rfl rfl rfl (λz z=>.inr trivial) PY (sC _)⟩ (by simp) (eI _) (λe=>hd e) λp fO v aS gS e bw I2 o7 H7 zl Hb H8 Hc=>?_
  have hl:(jd x).length=fO.length+1:=by rw[e];rfl
  refine hq p fO v aS _ e bw I2 (λz q=>.inl q) jC o7 H7 ⟨a,rfl,?_⟩ H8 (Vq S R0 fO gS aS zl Hb uV na o7 I2 Hc (drop_tail (by rw[hl,RT,e];rfl) (ej (id (aT hl)))) (Nat.le.intro (id (aT hl))));refine je zl λo nm qn ho hc z=>⟨o,_,ho,hc,by decide⟩
 induction hi:jd x with
 |nil=>exact λφ cU s' st dm qJ I' Q hQ=>core φ cU s' st dm qJ I' (λz=>hQ) λp ps v aS gj e=>by replace e:=ao (aT hi) e;exact nomatch e
 |cons p ps=>intro φ cU s' st dm qJ I' Q hQ;refine core φ cU s' st dm qJ I' (λe=>by replace e:=ao (aT hi) e;exact nomatch e) λp' fO v aS gj e=>?_;replace e:=ao (aT hi) e;cases e;exact hQ v aS gj
end
theorem Uk:∃P:Nat->Pos,(fnOf "_iter_escaped_chars").map (·.body)=some (kj P):=by
 have :∃l:List Pos,(fnOf "_iter_escaped_chars").map (·.body)=some (kj λn=>l.getD n default):=
  ⟨[_,_,_,_,_,_,_,_,_,_,_,_,_,_,_,_,_,_,_,_,_,_,_,_,_,_,_,_,_,_,_,_,_,_,_,_,_,_,_,_,_,_,_,_],rfl⟩
 obtain⟨l,h⟩:=this;exact⟨_,h⟩
structure ab9(d:FD):Prop where
 k1:d.args.posonlyargs=[]
 k2:d.args.kwonlyargs=[]
 k3:d.args.vararg=none
 k4:d.args.kwarg=none
 k5:d.args.args.map (·.arg)=[("addr":Str)]
 k6:d.scope.kind=.function
 k7:d.scope.isCoroutine=false
 k8:d.scope.isGenerator=true
 k9:(d.scope.names.map (·.1)).Nodup
 lo:∀x∈(["addr","pos","escape","ch"]:af),d.scope.names.lookup x=some .local
 k14:d.scope.names.lookup ("enumerate":Str)=some .globalImplicit
theorem Ul(h:fnOf "_iter_escaped_chars"=some d):ab9 d:=by
 have k:∀p:FD->Bool,(fnOf "_iter_escaped_chars").any p=true->p d=true:=λp hp=>by rw[h]at hp;exact hp
 exact⟨dd (k (λd=>d.args.posonlyargs.isEmpty) (by decide +kernel)),dd (k (λd=>d.args.kwonlyargs.isEmpty) (by decide +kernel)),jp.mp (k (λd=>d.args.vararg.isNone) (by decide +kernel)),jp.mp (k (λd=>d.args.kwarg.isNone) (by decide +kernel)),
  bu (k (λd=>decide (d.args.args.map (·.arg)=[("addr":Str)])) (by decide +kernel)),beq_iff_eq.mp (k (λd=>d.scope.kind== .function) (by decide +kernel)),ud (k (λd=> !d.scope.isCoroutine) (by decide +kernel)),k (λd=>d.scope.isGenerator) (by decide +kernel),
  bu (k (λd=>decide (d.scope.names.map (·.1)).Nodup) (by decide +kernel)),λx hx=>beq_iff_eq.mp (cF.mp (k (λd=>(["addr","pos","escape","ch"]:af).all λx=>d.scope.names.lookup x==some .local) (by decide +kernel)) x hx),beq_iff_eq.mp (k (λd=>d.scope.names.lookup ("enumerate":Str)==some .globalImplicit) (by decide +kernel))⟩
theorem SU(S:bY G)(aM:ca G n r.E)(cx:gv G n r.B)(R1:a_ A (n+1))(I:Inv G s)(X:cw G μ φ pa sc env st s.heap){e0:Expr}
  (ha:lX sc "_iter_escaped_chars" e0=some e) (h0:ci r sc st e=some (.str x,aE)) (hg:dT r sc t body (jd x) aE=some (fl,aO)) {Q:dk->ak}
  (h:KP G μ φ pa sc env aO fl s Q):WP G A (exec (.For t e0 body [] pos) env) Q s:=by
 have R:=R1.less (dX n);obtain⟨np,fA,rfl,hk,hs⟩:=K7 ha;have ok:=(let⟨m,X⟩:=X;X.aI.ok);obtain⟨d,hd⟩:=Dh.mp (show(fnOf "_iter_escaped_chars").isSome=true by decide +kernel);obtain⟨f,ab_,Fn⟩:=S.fns _ _ hd;obtain⟨P,hP⟩:=Uk;have aaq:d.body=kj P:=by rw[hd]at hP;simpa using hP
 have K:=Ul hd;obtain⟨o,fd,c,F⟩:=Fn.ex;obtain⟨tk0,Pre⟩:=F.pre;have ho:=F.ho;have p3:=F.sc;have R0:a_ A 0:=R.less (du _);refine Ez rfl (wpAny_Call_NameR (JS S.towA I ok hk (.inl ab_) ?_));refine callWith_of (P:=λh=>G.hb.get? f=some o/\∀b o,G.hb.get? b=some o->h.get? b=some o) (by rw[g_ hs];rfl) (λh hh=>rB (hh.2 _ _ hh.1) F.hd) ?_;refine DY rfl (iK (jw aM R I X h0 λv s1 bF g1 I1 iS X1 r1 nl q1 q2 q3=>og (kwAll_nil ⟨⟨ho,I1.old⟩,?_⟩)) (g_ hs)) (g_ hs);obtain⟨tx,hv⟩:=r1.str;rw[hv];have hB:lQ s1 fd ⟨[.str x tx],[]⟩ [(("addr":Str),.str x tx)]:=by have p1:=(Pre s1 I1.old).par;have :=Ea (s:=s1) (fd:=fd) (vs:=[.str x tx]) (by rw[p1];exact K.k1) (by rw[p1];exact K.k2) (by rw[p1];exact K.k3) (by rw[p1];exact K.k4) ((Pre s1 I1.old).plain K.k2) (by rw[p1];exact(aR xA K.k5).symm.trans (ba _)) (by rw[p1,K.k5];simp);rw[p1,K.k5]at this;exact this
 refine tB (codeAny_call_generator (by show A.depth<1000;have :=R.depth;lia) (I1.old _ _ ho) F.hd (by rw[p3];exact K.k7) (by rw[p3];exact K.k8) (by rw[F.body,aaq]) (CodeRec.M5 F.oQ I1.old) (hB _ _ _ _ (Cz (by rw[p3];exact K.k9) λs2 N=>?_)));obtain⟨ky,nI,gA,nJ,nM⟩:= @xF d.scope s1.heap.objs.size fd.globals (fT (s1.heap.objs.size+1) d.scope.names fd.closure) (fd.qualname++".<locals>.") (some f) fd.code none fd.builtins;generalize yP:rP fd.scope fd.globals fd.closure (fd.qualname++".<locals>.") (some f) fd.code none fd.builtins s1.heap.objs.size=gO at N⊢;have rQ:newEnv d.scope s1.heap.objs.size fd.globals (fT (s1.heap.objs.size+1) d.scope.names fd.closure) (fd.qualname++".<locals>.") (some f) fd.code none fd.builtins=gO:=by rw[<-yP,p3];rfl
 rw[rQ]at ky nI gA nJ nM;have GE:ux G gO gO.locals:=by
  have lo:∀x∈(["addr","pos","escape","ch"]:af),gO.kindOf x=some .local:=λx hx=>by show gO.scope.names.lookup x=_;rw[gA];exact K.lo x hx
  exact⟨rfl,by rw[gA];exact K.k6,by rw[gA];exact K.k7,lo _ (by decide),lo _ (by decide),lo _ (by decide),lo _ (by decide),by show gO.scope.names.lookup _=_;rw[gA];exact K.k14,by rw[nJ];exact F.gl,by rw[nM];exact F.bi⟩
 obtain⟨h2,rfl⟩:=N.same;have g2:bc G s1 {s1 with heap:=h2}:=.of N.keep;have I2:Inv G {s1 with heap:=h2}:=I1.of N.keep;refine IV GE.k1 N.ns (λh3 n3 sb3=>?_) (by rw[GE.kind];rfl);have ab':∀b,b≠gO.locals->h3.get? b=h2.get? b:=sb3.2;have oV:=N.new;have qI:∀b o,s1.heap.get? b=some o->h3.get? b=some o:=λb o e=>(ab' b λw=>by rw[w,oV]at e;exact aK e).trans (N.keep b o e);have I3:Inv G {s1 with heap:=h3,toks:=s1.toks+1}:=I1.of qI;refine⟨I3.lim S.towA,?_⟩;dsimp only;generalize CP:({s1 with gens:=s1.gens.push (.fresh (.func (kj P) gO)),toks:=s1.toks+1+1+1,heap:=h3.push {cls:=.type "generator",data:=.fields #[.int (s1.gens.size:Int) 0,.str fd.name (s1.toks+1),.str fd.qualname (s1.toks+1+1)]}}:aB)=s4;have H9:s4.heap=h3.push {cls:=.type "generator",data:=.fields #[.int (s1.gens.size:Int) 0,.str fd.name (s1.toks+1),.str fd.qualname (s1.toks+1+1)]}:=by rw[<-CP]
 have H_:s4.gens=s1.gens.push (.fresh (.func (kj P) gO)):=by rw[<-CP]
 have ho4:s4.os=s1.os:=by rw[<-CP]
 have Ib:∀b o,s1.heap.get? b=some o->s4.heap.get? b=some o:=λb o e=>by rw[H9];exact bU _ _ (qI b o e)
 have I4:Inv G s4:=by
  have :=(I1.of (h':=s4.heap) (tk:=s4.toks) Ib).gen (gens:=s4.gens) (by rw[H_];exact I1.bare.push rfl);have e:({{s1 with heap:=s4.heap,toks:=s4.toks}with gens:=s4.gens}:aB)=s4:=by rw[<-CP]
  rw[e]at this;exact this
 have th4:∀b,s1.heap.get? b≠none->s4.heap.get? b≠none:=λb e=>by
  cases e1:s1.heap.get? b with
  |none=>exact bx e1 e
  |some o=>rw[Ib b o e1];nofun
 have ge4:∀(i:Nat)(y:ru),s1.gens[i]? =some y->s4.gens[i]? =some y:=λi y e=>by rw[H_,Array.getElem?_push,aJ,e];intro w;rw[w,Q9 (eI _)]at e;exact aK e
 have g4:bc G s1 s4:=⟨λb o e u=>Ib b o e,th4,ge4,ho4⟩;have Hd:s4.heap.IsGen h3.objs.size s1.gens.size:=⟨_,_,_,by rw[H9];exact eF _ rfl,rfl,rfl,rfl⟩;have gs4:s4.gens[s1.gens.size]? =some (.fresh (.func (kj P) gO)):=by rw[H_];simp
 have n4:s4.heap.Ns gO.locals (λz=>if z=("addr":Str)then some (.str x tx)else none):=by rw[H9];exact n3.push _
 refine wpAny_pyIter_gen Hd ?_;obtain⟨m1,X1⟩:=X1;have aca:s1.heap.get? h3.objs.size=none:=by
  cases e:s1.heap.get? h3.objs.size with
  |none=>rfl
  |some o=>exact bx (qI _ _ e) (by rw[j0];nofun)
 have old:∀b,μ b\/bF b->s1.heap.get? b≠none:=λb q=>X1.aI.aW b q;have aL:h3.objs.size≠gO.locals:=λw=>by have :=n3.lt;rw[<-w]at this;exact mL _ this
 have sL:bL G s4.heap λb=>b=gO.locals:=λb q=>by
  rw[q];refine⟨?_,λo' e=>?_⟩
  ·cases e:G.hb.get? gO.locals with
   |none=>rfl
   |some o=>have :=I1.old _ _ e;replace this:=ao (aT oV) this;exact aK this
  ·obtain⟨o,es,ep,ho,hd,_⟩:=n4;replace ho:=ao (aT e) ho;obtain rfl:=av ho;exact .inl λvs=>by rw[hd];nofun
 have P0:s4.heap.get? gO.locals≠none:=by obtain⟨o,es,ep,ho,_⟩:=n4;rw[ho];simp
 have P4:∀b,μ b\/bF b->b≠gO.locals:=λb q w=>old b q (w▸oV);have X4:RelM G (λb=>μ b\/b=gO.locals) bF pa sc env aE s4.heap m1:=by refine X1.rH (ψ:=dv) (γ:=λu=>False) I1 g4.aU (λu q=>q.elim) (λb q=>q.imp_right λw=>by rw[w];exact oV) (λb q=>q.elim (λq=>g4.there b (X1.aI.aW b (.inl q))) λq=>by rw[q];exact P0) ?_;exact λb q=>q.elim (λq=>X1.aI.iP.grow g4 I1 (λb q=>X1.aI.aW b (.inl q)) b q) (sL b)
 have hu:=R1.units;have hdp:=R1.depth;have IT:o8 G A (λb=>((μ b\/bF b)\/b=gO.locals)\/s4.heap.get? b=none) (λi=>i=s1.gens.size) (.ref h3.objs.size) (jd x) (λb=>b=gO.locals) s4:=by
  refine WO S GE R0 ⟨R.hh,?_,?_⟩ (λE K H p=>⟨R.hh,?_,?_⟩) Hd gs4 (λq=>?_) aL I4 sL n4 rfl
  ·show A.depth+0+1+2*0+60<1000;lia
  ·show A.units+1+0+3+20*0+600<9900;lia
  ·show A.depth+1+0+2*0+60<1000;lia
  ·show A.units+1+3+0+20*0+600<9900;lia
  ·rcases q with(q|q)|q
   ·exact old _ q aca
   ·exact aL q
   ·obtain⟨o,nm,qn,ho,_⟩:=Hd;replace q:=ao (aT ho) q;exact nomatch q
 refine EW cx R (jd x) aE fl aO bF (λb=>b=gO.locals) s4 _ hg ⟨m1,X4⟩ I4 IT (λb q=>?_) (λb q=>q.elim (λq=>.inl (.inl (.inl q))) λq=>.inl (.inr q)) (λb q w=>P4 b (.inl w) q) λfv s' a9 D=>h fv s' a9 ?_
 ·refine vx q (λq=>?_) λq=>?_
  ·exact⟨.inl (.inl (.inr q)),P4 b (.inr q)⟩
  ·exact⟨.inr q,λw=>P0 (w▸q)⟩
 ·refine⟨aV.after (g1.trans g4) D.aU (λb q=>q.elim (λq=>.inr (iS b q)) λq=>.inl (by rw[q];exact lS g1 oV)) (λi q=>.inl ?_),D.inv,λb q=>(D.sub b q).elim (λq=>.inl (iS b q)) λq=>.inr (lS (g1.trans g4) q),D.rel,D.nn⟩;rw[q];cases e:s.gens[s1.gens.size]? with
  |none=>rfl
  |some y=>have :=g1.gens _ _ e;replace this:=ao (aT (Q9 (eI _))) this;exact aK this
theorem Um(h:A8 st=true):yi st:=λx hx fs q=>by have :=cF.mp h x hx;rw[q]at this;cases this
noncomputable abbrev Goal(G:bE)(A:dQ)(μ φ:al)(pa:Str->aw)(sc:aH)(env:Env)(aO:St)(fl:bG)(s:aB)(b:Stmt):Prop :=
 ∀Q:dk->ak,(KP G μ φ pa sc env aO fl s Q)->WP G A (exec b env) Q s
theorem WQ(S:bY G)(aM:ca G n r.E)(cx:gv G n r.B)(R:a_ A (n+1))(I:Inv G s)(X:cw G μ φ pa sc env st s.heap)(he:wc r sc st t e body=some (fl,aO)):
  Goal G A μ φ pa sc env aO fl s (.For t e body [] pos):=by
 intro Q h;have R':=R.less (dX n);unfold wc at he;cases ha:lX sc "reversed" e with
 |some e1=>rw[ha]at he;exact aF he λq h0 he=>SN S aM cx R' I X ha (ZX h0) he h
 |none=>
  rw[ha]at he;cases ha:lX sc "_iter_escaped_chars" e with
  |some e1=>rw[ha]at he;exact aF he λq h0 he=>SU S aM cx R I X ha (abI h0) he h
  |none=>rw[ha]at he;exact aZ he λhn he=>aF he λq h0 he=>aF he λxs h1 he=>Sk aM cx R' I X hn h0 h1 he h
theorem Un(aM:ca G n r.E)(uM:wi G n r.E)(uN:wk G n r.E)(R:a_ A n)(I:Inv G s)(X:cw G μ φ pa sc env st s.heap)(he:NV r sc st x e=some (fl,aO)):Goal G A μ φ pa sc env aO fl s (.Assign [.Name x q] e pos):=by
 refine aZ he λhc he=>gg hc λc1 c2 c3=>dU he (λhf he=>?_) λz he=>cj he λq h0 he=>?_
 ·exact aF he λvs h0 he=>aZ he λml he=>f9 (P:=λfl aO=>Goal G A μ φ pa sc env aO fl s (.Assign [.Name x q] e pos)) he λQ h=>be hf λhf z=>R7 uN R I X c1 hf (by rw[Ey];exact ue h0) ml h
 ·refine f9 (P:=λfl aO=>Goal G A μ φ pa sc env aO fl s (.Assign [.Name x _] e pos)) (aR some he) λQ h=>R_ aM uM R I X c1 c2 (λ⟨elt,gens,cs,p2,hq⟩=>Um ?_) h0 h;rw[hq]at c3;exact c3
theorem Vr(aM:ca G n r.E)(R:a_ A n)(I:Inv G s)(X:cw G μ φ pa sc env st s.heap)(he:OR r sc st (.Tuple ts k q) ts e=some (fl,aO)):Goal G A μ φ pa sc env aO fl s (.Assign [.Tuple ts k q] e pos):=by
 refine aZ he λht he=>?_;induction ho:Br ts e with
 |some w=>rw[ho]at he;refine aZ he λfM he=>aF he λv h0 he=>aZ he λhc he=>be hc λhc eU=>aF ho λt4 h4 ho=>aF ho λa ha ho=>aF ho λb hb ho=>aF ho λc Ic ho=>aF ho λd hd ho=>aF ho λv4 hv ho=>aZ ho λhg ho=>be hg λhg gB=>be hg λhg z=>be hg λhg z=>gg hg λn1 n2 n3=>?_;have ho:=av ho;obtain⟨es,wN,hv4⟩:∃es,kh e=some es/\four es=some v4:=aF hv λes q1 q2=>⟨es,q1,q2⟩;refine oE (xT ha) λPE ha=>oE (xT hb) λPF hb=>oE (xT Ic) λPG Ic=>oE (xT hd) λPH hd=>wx (Wp wN) λkt qt wN=>oE (Ev n1) λq1 n1=>oE (Ev n2) λq2 n2=>oE (Ev n3) λq3 n3=>?_;have P5:=LH h4;rw[ha,hb,Ic,hd]at P5;have P6:=LH hv4;rw[n1,n2,n3]at P6;rw[P6]at wN;rw[wN];rw[P5]at ht⊢;rw[<-ho]at he h0 hc;have ht:∀x∈[a,b,c,d],cm sc st x=true:=cF.mp ht;exact f9 (P:=λfl aO=>Goal G A μ φ pa sc env aO fl s _) he λQ h=>Sb aM R I X (dd fM) (ht _ (by simp)) (ht _ (by simp)) (ht _ (by simp)) (ht _ (by simp)) gB (bu hc) h0 eU h
 |none=>rw[ho]at he;exact aZ he λhs he=>aF he λw h0 he=>cj he λl hl he=>f9 (P:=λfl aO=>Goal G A μ φ pa sc env aO fl s (.Assign [.Tuple ts k q] e pos)) (aR some he) λQ h=>R8 aM R I X ht hs h0 hl h
theorem Uo(aM:ca G n r.E)(R:a_ A n)(I:Inv G s)(X:cw G μ φ pa sc env st s.heap)(he:MW r sc st x nm apos as fA=some (fl,aO)):
  Goal G A μ φ pa sc env aO fl s (.Expr (.Call (.Attribute (.Name x p0) nm apos) as [] fA) pos):=by
 refine aZ he λhc he=>be hc λc1 c2=>aF he λvs hl he=>?_;have hl:=ue hl;refine dU he (λhn he=>?_) λz he=>dU he (λhn he=>?_) λz he=>dU he (λhn he=>?_) λz he=>aK he
 ·rw[hn];exact aF he λe h1 he=>aZ he λgB he=>aF he λq h0 he=>aZ he λhz he=>be hz λz1 z2=>by rw[fH h1];exact f9 (P:=λfl aO=>Goal G A μ φ pa sc env aO fl s _) he λQ h=>S_ aM R I X c2 gB hl h0 z1 z2 h
 ·rw[hn];exact aF he λw h1 he=>aF he λe h2 he=>aZ he λgB he=>be gB λs1 s2=>aF he λk h0 he=>aF he λq h3 he=>aZ he λhz he=>r7 hz λz1 z2 z3 z4=>by rw[gZ h1,fH h2];exact f9 (P:=λfl aO=>Goal G A μ φ pa sc env aO fl s _) he λQ h=>Ta aM R I X (cN.mp c1) c2 s1 s2 hl (GQ h0) h3 z1 (bu z2) (bu z3) z4 h
 ·rw[hn];exact aZ he λhz he=>be hz λz1 z2=>by rw[dd z1];exact f9 (P:=λfl aO=>Goal G A μ φ pa sc env aO fl s _) he λQ h=>SM I X c2 c1 hl z2 h
theorem Sz(S:bY G)(aM:ca G n r.E)(uM:wi G n r.E)(uN:wk G n r.E)(R:a_ A n)(I:Inv G s)(X:cw G μ φ pa sc env st s.heap)(he:KN r sc st t e=some (fl,aO)):Goal G A μ φ pa sc env aO fl s (.Assign [t] e pos):=by
 induction t using jU with
 |Name x q=>exact Un aM uM uN R I X he
 |Tuple us k q=>exact Vr aM R I X he
 |Subscript o i p1=>refine aF he λx hx he=>aF he λq h0 he=>aF he λk h1 he=>aZ he λhc he=>be hc λc1 c2=>aF he λvs hl he=>aZ he λhk he=>gg hk λk0 k1 k2=>ka hx λp0=>f9 (P:=λfl aO=>Goal G A μ φ pa sc env aO fl s _) he λQ h=>R5 aM R I X h0 (GQ h1) c1 c2 (ue hl) (bu k0) (bu k1) k2 h
 |Attribute o nm p1=>refine aF he λx hx he=>aF he λq h0 he=>aZ he λhc he=>aF he λfs hl he=>aZ he λhk he=>gg hk λk0 k1 k2=>ka hx λp0=>f9 (P:=λfl aO=>Goal G A μ φ pa sc env aO fl s _) he λQ h=>R6 S aM R I X (by induction e using jU<;>rfl) h0 hc (ZW hl) k0 (jp.mp k1) (bu k2) h
 |_=>exact aK he
theorem Up(S:bY G)(aM:ca G n r.E)(cx:gv G n r.B)(R:a_ A (n+1))(I:Inv G s)(X:cw G μ φ pa sc env st s.heap){f:Expr}{as:ah}{ks:List gY}(he:FY r sc st f as ks fA=some (fl,aO)):
  Goal G A μ φ pa sc env aO fl s (.Expr (.Call f as ks fA) pos):=by
 refine rG he (λf fp he=>?_) λhe=>ye he (λo nm apos he=>?_) aK
 ·refine aF he λq hf he=>MO he (λa b fs q he=>?_) λhe=>aby he (λnm q he=>?_) aK
  ·exact aZ he λhk he Q h=>dd hk▸Sy S aM cx R I X (q▸hf) he h
  ·refine aF he λw hw he=>aF he λy hy he=>?_;rw[gZ hw];exact ka hy λyp Q h=>Sn S aM cx R I X (q▸hf) he h
 ·refine aF he λx hx he=>aZ he λhk he=>?_;rw[dd hk];exact ka hx λp0=>Uo aM (R.less (dX n)) I X he
theorem aar(S:bY G)(aM:ca G n r.E)(cT:h_ G n r.E)(uM:wi G n r.E)(uN:wk G n r.E)(cx:gv G n r.B)(wI:G4 G n r.W):G3 G (n+1) (NX r):=by
 intro A μ φ pa sc env st b fl aO s Q he R I X h;have R':=R.less (dX n);refine yf he (λts e pos he=>?_) λhe=>?_
 ·induction ts with
  |nil=>exact aK he
  |cons t ts=>induction ts with
   |nil=>exact Sz S aM uM uN R' I X he Q h
   |cons b ts=>
    refine aF he λx hx he=>aF he λy hy he=>aF he λc h1 he=>aF he λz hz he=>aZ he λhc he=>gg hc λc1 c2 c3=>aF he λq h0 he=>aZ he λhf he=>?_;rw[fH h1];exact ka hx λp1=>ka hy λp2=>ka hz λp3=>
     f9 (P:=λfl aO=>Goal G A μ φ pa sc env aO fl s (.Assign [.Name x p1,.Name y p2,.Name z p3] e pos)) he (λQ h=>R9 aM R' I X c1 c2 c3 h0 hf h) Q h
 refine ZL he (λt a b pos he=>Yv cT cx he R' I X h) λhe=>X_ he (λe pos he=>vM he (λf as ks fA he=>Up S aM cx R I X he Q h) aK) λhe=>ML he (λo pos he=>S6 aM he R' I X h) λhe=>XZ he (λt op e pos he=>?_) λhe=>?_
 ·refine aF he λx hx he=>aF he λu hl he=>aF he λq h0 he=>aZ he λhc he=>gg hc λc1 c2 c3=>cj he λw hb he=>ka hx λp0=>f9 (P:=λfl aO=>Goal G A μ φ pa sc env aO fl s (.AugAssign (.Name x p0) op e pos)) (aR some he) (λQ h=>Sj aM R' I X (GP hl) (GQ h0) c2 c3 (ud c1) hb h) Q h
 refine Bl he (λt e body o pos he=>aZ he λhk he=>dd hk▸WQ S aM cx R I X he Q h) λhe=>UU he (λt a b pos he=>aZ he λhk he=>dd hk▸TR wI he R' I X h) λhe=>Ya he (λpos he=>f9 (P:=λfl aO=>Goal G A μ φ pa sc env aO fl s (.Break pos)) he (λQ h=>Uc I X h) Q h) λhe=>Wl he (λpos he=>f9 (P:=λfl aO=>Goal G A μ φ pa sc env aO fl s (.Pass pos)) he (λQ h=>Vi I X h) Q h) λhe=>XY he (λnm a b ds rt tp fs ts bn pos he=>?_) aK;refine aZ he λhk he=>r7 hk λk1 k2 k3 k4=>?_;rw[dd k1,jp.mp k2,dd k3,jp.mp k4];exact Sc S he I X h
end
structure O4(G:bE)(n:Nat)(r:Rec):Prop where
 E:ca G n r.E
 T:h_ G n r.E
 U:wi G n r.E
 F:wk G n r.E
 S:G3 G n r.S
 B:gv G n r.B
 W:G4 G n r.W
 C:uv G n r.C
theorem Bd(S:bY G)(SK:∀n r,ca G n r.E->yA G n r):∀n,O4 G n (ev n):=by
 intro n;induction n with
 |zero=>
  refine⟨?_,?_,?_,?_,?_,?_,?_,?_⟩
  ·intro A μ sc env l e p s Q h;exact aK h
  ·intro A μ sc env l e p c s Q h;exact aK h
  ·intro A μ sc env l elt gens cs pos pos' use p s Q h;exact aK h
  ·intro A μ sc env l e p s Q h;exact aK h
  ·intro A μ φ pa sc env st b fl aO s Q h;exact aK h
  ·intro A μ φ pa sc env st b fl aO s Q h;exact aK h
  ·intro A μ φ pa sc env st t b fl aO s Rr h;exact aK h
  ·intro A μ nm ps kw p s a vs cE Q h;exact aK h
 |succ n lA=>
  have ih:=lA;have E1:=aah S ih.E ih.T ih.B ih.C (SK n (ev n) ih.E);refine⟨E1,aai S ih.E ih.T E1,YA S ih.E ih.T,YB ih.E,aar S ih.E ih.T ih.U ih.F ih.B ih.W,?_,?_,aag S ih.B⟩
  ·intro A μ φ pa sc env st b fl aO s Q h R I X hQ;exact Z9 ih.S ih.B h (R.less (dX n)) I X hQ
  ·intro A μ φ pa sc env st t b fl aO s Rr h R I X hQ;exact Z_ ih.T ih.B ih.W h (R.less (dX n)) I X hQ
section
variable{n k w:Nat}{sc cs:aH}{A:dQ}{pos:Pos}{r:Rec}{st:St}{a:aw}{P:Prop}{own:al}{fl:bG}{d:FD}{c:Bool}{body:ad}{E:ar->ak}{b:Int}{nm:Str}{ns:af}{it:ar}{M:Model}
def sg(g:Nat->Nat->Bool):KasT α->α
 | .ret a=>a
 | .ask i j k=>sg g (k (g i j))
def qu(n:Nat):KasT α->Bool
 | .ret _=>true
 | .ask i j k=>decide (i<n)&&(decide (j<n)&&(qu n (k true)&&qu n (k false)))
theorem L8{k:Bool->KasT α}(h:(qu n (k true)&&qu n (k false))=true)(b):qu n (k b)=true:=be h λh1 h2=>by induction b<;>assumption
theorem Lc{cmp:Nat->Nat->(Bool->ak)->ak}{g:Nat->Nat->Bool}{Q:α->ak}(CR:∀i j C,i<n->j<n->C (g i j) s->cmp i j C s):∀(t:KasT α),qu n t=true->Q (sg g t) s->t.kasWp cmp Q s
 | .ret _,_,h=>h
 | .ask i j k,hb,h=>be hb λh1 hb=>be hb λh2 hb=>CR i j _ (bu h1) (bu h2) (Lc CR (k (g i j)) (L8 hb _) h)
theorem J9{g g':Nat->Nat->Bool}(h:∀i j,i<n->j<n->g i j=g' i j):∀(t:KasT α),qu n t=true->sg g t=sg g' t
 | .ret _,_=>rfl
 | .ask i j k,hb=>be hb λh1 hb=>be hb λh2 hb=>by show sg g (k (g i j))=sg g' (k (g' i j));rw[h i j (bu h1) (bu h2)];exact J9 h (k _) (L8 hb _)
theorem Tk{f g:α->α->Bool}{x:α}:∀{l:List α},(∀y∈l,f y x=g y x)->cX f x l=cX g x l:=by
 intro l;induction l with
 |nil=>exact λw=>rfl
 |cons y r ih=>intro h;rw[cX,cX,h y ch,ih λz hz=>h z (cf _ hz)]
theorem SV{f g:α->α->Bool}:∀{l:List α},(∀x∈l,∀y∈l,f x y=g x y)->dE f l=dE g l:=by
 intro l;induction l with
 |nil=>exact λz=>rfl
 |cons x r ih=>intro h;rw[dE,dE,ih λa ha b hb=>h a (cf _ ha) b (cf _ hb)];exact Tk λy hy=>h y (cf _ ((Ef g r).mem_iff.mp hy)) x ch
theorem Vs{lt:β->β->Bool}{f:α->β}{x:α}:∀{l:List α},cX lt (f x) (l.map f)=(cX (λa b=>lt (f a) (f b)) x l).map f:=by
 intro l;induction l with
 |nil=>exact rfl
 |cons y r ih=>
  rw[cO,cX,cX];by_cases h:lt (f y) (f x)=true
  ·refine ao (aA h) ?_;rw[aA h,cO,ih]
  ·refine ao (aJ h) ?_;rw[aJ h];rfl
theorem Uq{lt:β->β->Bool}{f:α->β}:∀{l:List α},dE lt (l.map f)=(dE (λa b=>lt (f a) (f b)) l).map f:=by
 intro l;induction l with
 |nil=>exact rfl
 |cons x r ih=>rw[cO,dE,dE,ih,Vs]
def sD(P7 P8 P9 wD P_ Qa:Bool)(i j:Nat):Bool:=match i with
 |0=>(match j with |0=>false|1=>P7|2=>P8|_=>P9)
 |1=>(match j with |0=> !P7|1=>false|2=>wD|_=>P_)
 |2=>(match j with |0=> !P8|1=> !wD|2=>false|_=>Qa)
 |_=>(match j with |0=> !P9|1=> !P_|2=> !Qa|_=>false)
def Qb(n:Nat)(t:Nat->Nat->Bool):Bool:=(aG n).all λi=>(aG n).all λj=>(aG n).all λk=> !(t i j&&t j k)||t i k
def Oe(n:Nat)(t:Nat->Nat->Bool):Bool:= !(Qb n t)||decide ((sg t (kas_sort n)).toList=dE t (aG n))
theorem Vt:∀n∈[2,3,4],(qu n (kas_sort n)&&(([false,true].all λa=>[false,true].all λb=>[false,true].all λc=>[false,true].all λd=>[false,true].all λe=>[false,true].all λf=>Oe n (sD a b c d e f))))=true:=by decide +kernel
end
theorem vG{p:Bool->Bool}(h:[false,true].all p=true)(b:Bool):p b=true:=cF.mp h b (by induction b<;>simp)
theorem yR{P:Nat->Prop}(h0:P 0)(h1:P 1)(h2:P 2)(h3:P 3):∀i,i<4->P i
 |0,_=>h0
 |1,_=>h1
 |2,_=>h2
 |3,_=>h3
 |i+4,h=>bx h (jV.mpr (Ae 4 i))
theorem WR{n:Nat}(hn:n∈[2,3,4]){g:Nat->Nat->Bool}(CS:∀i,g i i=false)(sE:∀i j,i<n->j<n->i<j->g j i= !g i j)(tr:∀i j k,i<n->j<n->k<n->g i j=true->g j k=true->g i k=true):
  qu n (kas_sort n)=true/\(sg g (kas_sort n)).toList=dE g (aG n):=by
 have D:=Vt n hn;have n4:n<=4:=by simp only[cc,gG,or_false]at hn;lia
 refine be D λhb D=>⟨hb,?_⟩;have same:∀i j,i<n->j<n->g i j=sD (g 0 1) (g 0 2) (g 0 3) (g 1 2) (g 1 3) (g 2 3) i j:=λi j hi hj=>
  yR (P:=λi=>i<n->g i j=sD (g 0 1) (g 0 2) (g 0 3) (g 1 2) (g 1 3) (g 2 3) i j)
   (λhi=>yR (P:=λj=>j<n->g 0 j=sD (g 0 1) (g 0 2) (g 0 3) (g 1 2) (g 1 3) (g 2 3) 0 j) (λz=>CS 0) (λz=>rfl) (λz=>rfl) (λz=>rfl) j (cZ hj n4) hj)
   (λhi=>yR (P:=λj=>j<n->g 1 j=sD (g 0 1) (g 0 2) (g 0 3) (g 1 2) (g 1 3) (g 2 3) 1 j) (λh=>sE 0 1 h hi (by decide)) (λz=>CS 1) (λz=>rfl) (λz=>rfl) j (cZ hj n4) hj)
   (λhi=>yR (P:=λj=>j<n->g 2 j=sD (g 0 1) (g 0 2) (g 0 3) (g 1 2) (g 1 3) (g 2 3) 2 j) (λh=>sE 0 2 h hi (by decide)) (λh=>sE 1 2 h hi (by decide)) (λz=>CS 2) (λz=>rfl) j (cZ hj n4) hj)
   (λhi=>yR (P:=λj=>j<n->g 3 j=sD (g 0 1) (g 0 2) (g 0 3) (g 1 2) (g 1 3) (g 2 3) 3 j) (λh=>sE 0 3 h hi (by decide)) (λh=>sE 1 3 h hi (by decide)) (λh=>sE 2 3 h hi (by decide)) (λz=>CS 3) j (cZ hj n4) hj) i (cZ hi n4) hi
 have S:=vG (vG (vG (vG (vG (vG D (g 0 1)) (g 0 2)) (g 0 3)) (g 1 2)) (g 1 3)) (g 2 3);generalize sD (g 0 1) (g 0 2) (g 0 3) (g 1 2) (g 1 3) (g 2 3)=T at same S;have lt:∀{i},i∈aG n->i<n:=λh=>bI.mp h;have ht:Qb n T=true:=cF.mpr λi hi=>cF.mpr λj hj=>cF.mpr λk hk=>by
  rw[<-same i j (lt hi) (lt hj),<-same j k (lt hj) (lt hk),<-same i k (lt hi) (lt hk)];have :=tr i j k (lt hi) (lt hj) (lt hk);induction h1:g i j with
  |false=>rfl
  |true=>induction h2:g j k with
   |false=>rfl
   |true=>refine ao (this h1 h2 ..) ?_;rfl
 unfold Oe at S;rw[ht,DM,Bool.false_or]at S;rw[J9 same _ hb,bu S];exact(SV λi hi j hj=>same i j (lt hi) (lt hj)).symm
theorem Ci(a b c d):lexLt [a,b] [c,d]=if a==c then decide (b<d)else decide (a<c):=by
 simp only[lexLt];by_cases h:a=c
 ·subst h;simp only[beq_self_eq_true,if_true];by_cases h2:b=d
  ·subst h2;simp
  ·simp [h2]
 ·simp [h]
theorem WS(h:([a,b]:ac)≠[c,d]):lexLt [c,d] [a,b]= !lexLt [a,b] [c,d]:=by
 refine ao (Ci ..) ?_;rw[Ci];by_cases h1:a=c
 ·subst h1;have h2:b≠d:=λe=>h (by rw[e]);simp only[beq_self_eq_true,if_true];rw[<-decide_not];exact decide_eq_decide.mpr (by lia)
 ·have h1':¬c=a:=λe=>h1 e.symm;simp only[dq h1,dq h1',kJ,if_false];rw[<-decide_not];exact decide_eq_decide.mpr (by lia)
theorem YE{a b c d e f:Int}(h1:lexLt [a,b] [c,d]=true)(h2:lexLt [c,d] [e,f]=true):lexLt [a,b] [e,f]=true:=by
 rw[Ci]at h1 h2⊢;by_cases e1:a=c
 ·subst e1;rw[aA (beq_self_eq_true _)]at h1;by_cases e2:a=e
  ·subst e2;rw[aA (beq_self_eq_true _)]at h2⊢;have h1:=bu h1;have h2:=bu h2;exact bh (xy h1 h2)
  ·rw[aJ (λq=>e2 (beq_iff_eq.mp q))]at h2⊢;exact h2
 ·rw[aJ (λq=>e1 (beq_iff_eq.mp q))]at h1;have h1:=bu h1;by_cases e2:c=e
  ·subst e2;rw[aJ (λq=>e1 (beq_iff_eq.mp q))];exact bh h1
  ·rw[aJ (λq=>e2 (beq_iff_eq.mp q))]at h2;have h2:=bu h2;rw[aJ (λq=>(by have :=beq_iff_eq.mp q;omega))];exact bh (xy h1 h2)
theorem rI(h:k.length=2):∃a b,k=[a,b]:=by
 match k,h with
 |[a,b],_=>exact⟨a,b,rfl⟩
section
open PySem.Calls
noncomputable abbrev qv(q:ac):PV:=.tup (q.map .int)
theorem Tl{vs:ab}{q:ac}(e:intsOf vs=some q):vs=q.map .int:=by
 induction vs generalizing q with
 |nil=>exact av e▸rfl
 |cons v r ih=>exact aF e λi h1 e=>cj e λl h e=>e▸rL h1 (λj h2 h3=>by rw[h2,av h3,ih h];rfl) aK
theorem SW{k:PV}{q:ac}(e:EP k=some q)(h:q.length=2):k=qv q:=by
 induction k using PV.casesOn with
 |int i=>rw[<-av e]at h;exact nomatch h
 |tup vs=>exact aR PV.tup (Tl e)
 |_=>exact aK e
section
variable{A:dQ}{E:ar->ak}{n e1 e:Nat}{r:Rec}{D kS:aw}{qs:List ac}{ks:List ar}
theorem aas{q q':ac}{x y:ar}{Q:Bool->ak}(l1:q.length=2)(l2:q'.length=2)(hx:RelV G (aq s.heap μ) (qv q) x)(hy:RelV G (aq s.heap μ) (qv q') y)(h:Q (lexLt q q') s):bt (bp G.prog G.w) A (keyLt' (tuples' true) x y) Q E s:=by
 obtain⟨a,b,rfl⟩:=rI l1;obtain⟨c,d,rfl⟩:=rI l2;rw[Ci]at h;refine hx.kh (P:=λx=>bt (bp G.prog G.w) A (keyLt' (tuples' true) x y) Q E s) λax ox xs k h1 z h2 h3=>hy.kh (P:=λy=>bt (bp G.prog G.w) A (keyLt' (tuples' true) _ y) Q E s) λay oy ys k' g1 z g2 g3=>kat_lt h1.1 h2 g1.1 g2 ?_;rw[show xs.size=2 from pu.symm.trans h3.length.symm,show ys.size=2 from pu.symm.trans g3.length.symm];generalize xs.toList=xl at h3;generalize ys.toList=yl at g3;refine h3.Ca (P:=λxl=>KatLex G.prog G.w A true _ Q (xl.zip yl) 0 s) λv w r1 r2=>g3.Ca (P:=λyl=>KatLex G.prog G.w A true _ Q ([v,w].zip yl) 0 s) λv' w' r3 r4=>r1.ji (P:=λv=>KatLex G.prog G.w A true _ Q ([v,w].zip [v',w']) 0 s) λt1=>r2.ji (P:=λw=>KatLex G.prog G.w A true _ Q ([_,w].zip [v',w']) 0 s) λt2=>r3.ji (P:=λv'=>KatLex G.prog G.w A true _ Q ([_,_].zip [v',w']) 0 s) λt3=>r4.ji (P:=λw'=>KatLex G.prog G.w A true _ Q ([_,_].zip [_,w']) 0 s) λt4=>kat_cons (wpAny_eqBool_int ?_);cases h1:a==c with
 |true=>
  rw[aA h1]at h;refine kat_yes (kat_cons (wpAny_eqBool_int ?_));cases h2:b==d with
  |true=>rw[beq_iff_eq.mp h2,show decide (d<d)=false from cA (RR d)]at h;exact kat_yes (kat_nil h)
  |false=>exact kat_no (kat_one _ _ (agg h))
 |false=>rw[aJ (by rw[h1];nofun)]at h;exact kat_no (oneLt_int h)
structure iW(G:bE)(μ:al)(D kS:aw)(e1:Nat)(s s':aB)(qs:List ac)(ks:List ar)(e:Nat):Prop where
 g:bc G s s'
 inv:Inv G s'
 d:s'.heap.get? D=some (bR #[] e1)
 k:s'.heap.get? kS=some (bR ks.toArray e)
 r:aN G (aq s'.heap λb=>μ b\/(b=D\/b=kS)) (qs.map qv) ks
theorem E2(I:Inv G s)(g:bc G s s1)(I1:Inv G s1)(na:s.heap.get? a=none)(sf:∀o,s1.heap.get? a=some o->iw o)(sb:xu a s1.heap h')(sy:h'.get? a=some (bR mn k')):
  bc G s {s1 with heap:=h'}/\Inv G {s1 with heap:=h'}:=by
 have kp:∀b o,s1.heap.get? b=some o->¬b=a->h'.get? b=some o:=λb o e n=>(sb.2 b n).trans e;have st:aV G (λb=>b=a) (λz=>False) s1 {s1 with heap:=h'}:=aV.of_same kp rfl rfl;exact⟨(aV.after g st (a9:=dv) (cU:=λz=>False) (λb q=>.inl (q▸na)) λz q=>q.elim).grow (λz q=>q.elim) λz q=>q.elim,
  I1.aU kp λb q=>by rw[q];exact⟨yw I na,sf⟩⟩
theorem xY{vs:aj}{k:Nat}{a:aw}(e:h.get? a=some (bR vs k)):∀o,h.get? a=some o->iw o:=λo eo=>av (e.symm.trans eo)▸ .inl λvs=>by nofun
theorem iW.b8(X:iW G μ D kS e1 s s' qs ks e)(I:Inv G s)(nD:s.heap.get? D=none)(nK:s.heap.get? kS=none):∀b o,aq s.heap μ b o->aq s'.heap (λb=>μ b\/(b=D\/b=kS)) b o:=λb o q=>
 ⟨(aq.grow X.g I b o q).1,λw=>w.elim q.2.1 λw=>w.elim (λw=>(by have :=q.1;rw[w,nD]at this;exact aK this)) λw=>(by have :=q.1;rw[w,nK]at this;exact aK this),q.2.2⟩
theorem iW.aW(X:iW G μ D kS e1 s s' qs ks e)(H:Hid s.heap μ):Hid s'.heap λb=>μ b\/(b=D\/b=kS):=λb q=>q.elim (λq=>X.g.there b (H b q)) λq=>q.elim (λq=>by rw[q,X.d];nofun) λq=>by rw[q,X.k];nofun
theorem iW.soft(X:iW G μ D kS e1 s s' qs ks e)(I:Inv G s)(H:Hid s.heap μ)(dh:bL G s.heap μ)(nD:s.heap.get? D=none)(nK:s.heap.get? kS=none):bL G s'.heap λb=>μ b\/(b=D\/b=kS):=λb q=>
 q.elim (dh.grow X.g I H b) λq=>q.elim (λq=>by rw[q];exact⟨yw I nD,xY X.d⟩) λq=>by rw[q];exact⟨yw I nK,xY X.k⟩
theorem iW.grow(X:iW G μ D kS e1 s s' qs ks e)(g:bc G s' s1)(I1:Inv G s1):iW G μ D kS e1 s s1 qs ks e:=
 ⟨X.g.trans g,I1,g.keep _ _ X.d (X.inv.ct X.d (.inl (by nofun))),g.keep _ _ X.k (X.inv.ct X.k (.inl (by nofun))),X.r.mono (aq.grow g X.inv)⟩
theorem iW.upd(X:iW G μ D kS e1 s s' qs ks e)(I:Inv G s)(nK:s.heap.get? kS=none)(mq:D≠kS)(f:aj->aj){CT:List ac}{nV:List ar}(hf:f ks.toArray=nV.toArray)(r':aN G (aq s'.heap λb=>μ b\/(b=D\/b=kS)) (CT.map qv) nV):
  ∃e',iW G μ D kS e1 s {s' with heap:=s'.heap.update kS (dj f)} CT nV e':=by
 have sb:=pr s'.heap kS (dj f);obtain⟨e',he⟩:∃e',(s'.heap.update kS (dj f)).get? kS=some (bR nV.toArray e'):=⟨_,hf▸get?_update_seq X.k f⟩;refine oA (E2 I X.g X.inv nK (xY X.k) sb he) λg I2=>⟨e',g,I2,(sb.2 D mq).trans X.d,he,r'.mono λb o q=>⟨(sb.2 b λw=>q.2.1 (.inr (.inr w))).trans q.1,q.2⟩⟩
theorem L9(S:bY G)(aM:ca G n r.E)(R:∀env,a_ (A.deeper env) n)(I:Inv G s)(H:Hid s.heap μ)(dh:bL G s.heap μ)(nD:s.heap.get? D=none)(nK:s.heap.get? kS=none)(mq:D≠kS){a:cH}{b:Expr}{ls:aH}{cJ:Loc}{fv:ar}(hf:RelV G (aq s.heap μ) (.lam a b ls cJ) fv)
  {body:ar->PUnit->Sem (ForInStep PUnit)} (hb:∀x (s':aB) (R':ForInStep PUnit->ak),WP G A (call fv [x]) (λk aS=>bt (bp G.prog G.w) A (ahZ (.ref kS) (·.push k)) (λz s3=>R' (.yield ⟨⟩) s3) E aS) s'->bt (bp G.prog G.w) A (body x ⟨⟩) R' E s')
  {Q:PUnit->ak}:∀(xs:ab)(vs:List ar)(ps:List (ac×PV))(qs:List ac)(ks:List ar)(e:Nat)(s':aB),qi (λv=>j5 r a b ls cJ [v]) xs=some ps->(∀q∈ps,q.1.length=2)->iW G μ D kS e1 s s' qs ks e->
   aN G (aq s'.heap λb=>μ b\/(b=D\/b=kS)) xs vs->ks.length+xs.length<64->(∀aS nV e',iW G μ D kS e1 s aS (qs++ps.map (·.1)) nV e'->bc G s aS->aN G (aq aS.heap λb=>μ b\/(b=D\/b=kS)) (qs.map qv++ps.map λq=>qv q.1) nV->Q ⟨⟩ aS)->bt (bp G.prog G.w) A (forIn vs PUnit.unit body) Q E s'
 |[],vs,ps,qs,ks,e,s',em,_,X,rl,_,h=>rl.fW (P:=λvs=>bt (bp G.prog G.w) A (forIn vs PUnit.unit body) Q E s') (by
   rw[agJ];rw[<-av em]at h;exact bz (h s' ks e (by rw[DS,gW];exact X) X.g (by rw[DS,gW];exact X.r)))
 |x::xs,vs,ps,qs,ks,e,s',em,hl,X,rl,hz,h=>aF em λk e2 em=>aF em λq e3 em=>cj em λfO e4 em=>by
   refine rl.fJ (P:=λvs=>bt (bp G.prog G.w) A (forIn vs PUnit.unit body) Q E s') λv vs r1 rl=>eT (DE ..) ?_;rw[<-em]at hl h;have X':=X;refine aP (hb v s' _ (LZ S aM R X.inv (hf.mono (X.b8 I nD nK)) (X.aW H) (X.soft I H dh nD nK) e2 (.mkCons r1 .mkNil) λkv s1 g1 I1 rk=>?_));rw[SW e3 (hl _ ch)]at rk;have X1:=X.grow g1 I1;have hz:ks.length+(xs.length+1)<64:=hz;refine listUpdate_at X1.k rfl ?_ (by rw[vn,lN];lia) (aD (ej (Array.size_push ..)) (by rw[vn,lN];lia));obtain⟨e',X2⟩:=X1.upd I nK mq (·.push kv) (CT:=qs++[q]) (nV:=ks++[kv]) (by simp) (by rw[ei];exact X1.r.append (.mkCons rk .mkNil));refine L9 S aM R I H dh nD nK mq hf hb xs vs fO (qs++[q]) (ks++[kv]) e' _ e4 (λq hq=>hl q (cf _ hq)) X2 ?_ (by rw[cb,List.length_singleton];lia) λaS nV e'' X3 g3 r3=>h aS nV e'' ?_ g3 ?_
   ·exact(rl.mono (aq.grow g1 X.inv)).mono λb o q=>⟨((pr s1.heap kS (dj (·.push kv))).2 b λw=>q.2.1 (.inr (.inr w))).trans q.1,q.2⟩
   ·rw[gE]at X3;exact X3
   ·rw[ei,gE]at r3;exact r3
end
end
section
open PySem.Calls
variable{n k w:Nat}{sc cs:aH}{A:dQ}{pos:Pos}{r:Rec}{st:St}{a:aw}{P:Prop}{own:al}{fl:bG}{d:FD}{c:Bool}{body:ad}{E:ar->ak}{b:Int}{nm:Str}{ns:af}{it:ar}{M:Model}
theorem Vu:∀l:ac,lexLt l l=false:=by
 intro l;induction l with
 |nil=>exact rfl
 |cons a r ih=>rw[lexLt,aA (beq_self_eq_true a)];exact ih
theorem AZ{f:PV->ag}:∀{xs:ab}{ps:List (ac×PV)},qi f xs=some ps->ps.map (·.2)=xs
 |[],_,e=>av e▸rfl
 |x::xs,_,e=>aF e λk z e=>aF e λq z e=>cj e λr h e=>e▸aR (x:: ·) (AZ h)
theorem Ur(l:List α)(d:α):(aG l.length).map (λi=>l.getD i d)=l:=by
 refine List.ext_getElem? λi=>ao i7 ?_;by_cases h:i<l.length
 ·rw[Ds h,agh,dD,gU h];rfl
 ·rw[vi (by simpa using h),vi (jV.mp h)];rfl
theorem lU{l:List α}{d:α}{i:Nat}(h:i<l.length):l[i]? =some (l.getD i d):=by rw[dD,gU h];rfl
section
variable{D kS:aw}{e1 e:Nat}{qs:List ac}{ks:List ar}
theorem aN.acb{f:Nat->PV}{g:Nat->ar}:∀{l:aa},(∀i∈l,RelV G V (f i) (g i))->aN G V (l.map f) (l.map g):=by
 intro l;induction l with
 |nil=>exact λz=>.mkNil
 |cons i l ih=>exact λh=>.mkCons (h i ch) (ih λj hj=>h j (cf _ hj))
theorem WT(I:Inv G s)(nD:s.heap.get? D=none)(nK:s.heap.get? kS=none)(mq:D≠kS)(X:iW G μ D kS e1 s s' qs ks e){st:SortSt}{out:List ar}{P:jW->ak}(acd:(arrOf st).map (·.2)=out.toArray)(hz:out.length<64)(hkz:ks.length<64)(hf:failedOf st=none)
  (h:∀aS k,bc G s aS->Inv G aS->aS.heap.get? D=some (bR out.toArray k)->(∀b o,aq s'.heap (λb=>μ b\/(b=D\/b=kS)) b o->aq aS.heap (λb=>μ b\/(b=D\/b=kS)) b o)->P (.done (.ret .none)) aS):bt (bp G.prog G.w) A (ksk_tail D false e1 (.ref kS) st) P E s':=by
 unfold ksk_tail
 try dsimp only
 rw[acd];refine aP (listUpdate_at X.k rfl ?_ (by rw[vn,lN];lia) (du _));obtain⟨e',X1⟩:=X.upd I nK mq (λz=> #[]) (CT:=[]) rfl .mkNil;refine aP (wpAny_letGo (aP (seqEpoch_at X1.d rfl ?_)));refine aP (listUpdate_at X1.d rfl ?_ (du _) (by show out.toArray.size<=_;rw[vn,lN];lia));rw[hf];simp only[bne_self_eq_false,kJ,if_false];refine bz ?_;have sb:=pr (s'.heap.update kS (dj λz=> #[])) D (dj λz=>out.toArray);obtain⟨k,hk⟩:∃k,((s'.heap.update kS (dj λz=> #[])).update D (dj λz=>out.toArray)).get? D=some (bR out.toArray k):=⟨_,get?_update_seq X1.d λz=>out.toArray⟩;refine oA (E2 I X1.g X1.inv nD (xY X1.d) sb hk) λg I2=>h _ k g I2 hk λb o q=>⟨(sb.2 b λw=>q.2.1 (.inr (.inl w))).trans (((pr s'.heap kS (dj λz=> #[])).2 b λw=>q.2.1 (.inr (.inr w))).trans q.1),q.2⟩
theorem L_:∀{qs:List ac}{ks:List ar},(∀q∈qs,q.length=2)->aN G (aq h μ) (qs.map qv) ks->∃fs,KatTups h ks fs/\fs.length=ks.length/\∀v∈fs,∃i t,v=.int i t
 |[],ks,_,r=>r.fW (P:=λks=>∃fs,KatTups h ks fs/\fs.length=ks.length/\∀v∈fs,∃i t,v=.int i t) ⟨[],.nil,rfl,λv h=>nomatch h⟩
 |q::qs,ks,hl,r=>by refine r.fJ (P:=λks=>∃fs,KatTups h ks fs/\fs.length=ks.length/\∀v∈fs,∃i t,v=.int i t) λv us r1 r2=>?_;obtain⟨fs,k1,k2,k3⟩:=L_ (λq hq=>hl q (cf _ hq)) r2;obtain⟨a,b,hq⟩:=rI (hl q ch);rw[hq]at r1;refine r1.kh (P:=λv=>∃fs,KatTups h (v::us) fs/\fs.length=(v::us).length/\∀v∈fs,∃i t,v=.int i t) λx o vs k h1 h2 h3 h4=>?_;obtain⟨w,e1,e2⟩:=h4.get (i:=0) rfl;refine⟨w::fs,.cons h1.1 h2 h3 (by refine ao (aT re) ?_;exact e1) k1,aR (· +1) k2,λv hv=>(cc.mp hv).elim (λq=>?_) (k3 v)⟩;refine oE e2.int λt hw=>⟨a,t,q.trans hw⟩
theorem YF(I:Inv G s)(nD:s.heap.get? D=none)(nK:s.heap.get? kS=none)(mq:D≠kS){ps:List (ac×PV)}(X:iW G μ D kS e1 s s' (ps.map (·.1)) ks e)(hn:ps.length∈[2,3,4])(cY:∀q∈ps,q.1.length=2)(nd:(ps.map (·.1)).Nodup)(hv:vs.length=ps.length){P:jW->ak}
  (h:∀aS k,bc G s aS->Inv G aS->aS.heap.get? D=some (bR ((dE (λi j=>lexLt (ps.getD i ([],.none)).1 (ps.getD j ([],.none)).1) (aG ps.length)).map λi=>vs.getD i Value.none).toArray k)->(∀b o,aq s'.heap (λb=>μ b\/(b=D\/b=kS)) b o->aq aS.heap (λb=>μ b\/(b=D\/b=kS)) b o)->P (.done (.ret .none)) aS):
  bt (bp G.prog G.w) A (ksk_end D false vs.toArray e1 (.ref kS) ks.toArray) P E s':=by
 have n64:2<=ps.length/\ps.length<64:=by simp only[cc,gG,or_false]at hn;lia
 have hk:ks.length=ps.length:=by have :=X.r.length;replace this:=ao (aT (ba ..)) this;rw[ba]at this;exact this.symm
 obtain⟨fs,t1,t2,t3⟩:=L_ (qs:=ps.map (·.1)) (λq hq=>let⟨w,h1,h2⟩:=eH.mp hq;h2▸cY w h1) X.r;have sE:∀i j,i<ps.length->j<ps.length->i<j->lexLt (ps.getD j ([],.none)).1 (ps.getD i ([],.none)).1= !lexLt (ps.getD i ([],.none)).1 (ps.getD j ([],.none)).1:=λi j hi hj hij=>by
  have fC:(ps.getD i ([],.none)).1≠(ps.getD j ([],.none)).1:=λq=>by
   have h1:(ps.map (·.1))[i]'(by rw[ba];exact hi)=(ps.map (·.1))[j]'(by rw[ba];exact hj):=by have g1:=lU (d:=(([],.none):ac×PV)) hi;have g2:=lU (d:=(([],.none):ac×PV)) hj;rw[xk,xk,afF g1|>.2,afF g2|>.2];exact q
   exact List.pairwise_iff_getElem.mp nd i j _ _ hij h1
  obtain⟨a,b,e1⟩:=rI (cY _ (xd (lU (d:=(([],.none):ac×PV)) hi)));obtain⟨c,d,e2⟩:=rI (cY _ (xd (lU (d:=(([],.none):ac×PV)) hj)));rw[e1,e2]at fC⊢;exact WS fC
 have tr:∀i j k,i<ps.length->j<ps.length->k<ps.length->lexLt (ps.getD i ([],.none)).1 (ps.getD j ([],.none)).1=true->lexLt (ps.getD j ([],.none)).1 (ps.getD k ([],.none)).1=true->lexLt (ps.getD i ([],.none)).1 (ps.getD k ([],.none)).1=true:=λi j k hi hj hk h1 h2=>by refine wx (rI (cY _ (xd (lU (d:=(([],.none):ac×PV)) hi)))) λa b e1=>wx (rI (cY _ (xd (lU (d:=(([],.none):ac×PV)) hj)))) λc d e2=>wx (rI (cY _ (xd (lU (d:=(([],.none):ac×PV)) hk)))) λu w e3=>?_;have h1:=h1;have h2:=h2;rw[e1,e2]at h1;rw[e2,e3]at h2;rw[e1,e3];exact YE h1 h2
 obtain⟨B,srt⟩:=WR (n:=ps.length) hn (g:=λi j=>lexLt (ps.getD i ([],.none)).1 (ps.getD j ([],.none)).1) (λi=>Vu _) sE tr;have CR:∀i j (C:Bool->ak),i<ps.length->j<ps.length->C (lexLt (ps.getD i ([],.none)).1 (ps.getD j ([],.none)).1) s'->kas_ask G.prog G.w A (tuples' true) ks i j C s':=λi j C hi hj hc=>by
  have g1:=lU (d:=(([],.none):ac×PV)) hi;have g2:=lU (d:=(([],.none):ac×PV)) hj;have r1:∀i,ps[i]? =some (ps.getD i ([],.none))->i<ps.length->RelV G (aq s'.heap λb=>μ b\/(b=D\/b=kS)) (qv (ps.getD i ([],.none)).1) (ks.getD i Value.none):=λi g hi=>by obtain⟨v,e1,e2⟩:=X.r.get (i:=i) (by refine ao i7 ?_;rw[i7,g];rfl);replace e1:=ao (aT (lU (d:=Value.none) (hk▸hi))) e1;exact av e1▸e2
  exact aas (cY _ (xd g1)) (cY _ (xd g2)) (r1 i g1 hi) (r1 j g2 hj) hc
 unfold ksk_end
 try dsimp only
 simp only[kJ,if_false];have wO:¬vs.toArray.size<2:=by rw[vn];lia
 refine eT (aJ wO) ?_;rw[aJ wO];refine aP (kat_kind (T:=.type "int") t1 (by lia) (λv hv=>?_) (by decide) ?_)
 ·refine wx (t3 v hv) λi t bb=>?_;subst bb;exact .now
 refine aP (db (kat_run (Q:=λaO aS=>∃p:Array Nat,p.size=vs.length/\arrOf aO=p.map (kas_item (ks.toArray.zip vs.toArray))/\failedOf aO=none/\p.toList=dE (λi j=>lexLt (ps.getD i ([],.none)).1 (ps.getD j ([],.none)).1) (aG ps.length)/\aS=s')
  (G:=λp aS=>p.toList=dE (λi j=>lexLt (ps.getD i ([],.none)).1 (ps.getD j ([],.none)).1) (aG ps.length)/\aS=s') (hk.trans hv.symm) (tj wO) (by lia) (λp' aO aS a1 a2 a3 a4=>⟨p',a1,a2,a3,a4⟩) ?_) ?_ λz z x=>x)
 ·rw[hv];exact Lc CR _ B ⟨srt,rfl⟩
 ·rintro ⟨⟨⟩,aO⟩ aS ⟨p,hp,har,hf,hs,qK⟩;rw[qK]
  try dsimp only
  have ho:=kat_snds (hk.trans hv.symm) har;rw[hs]at ho;exact WT I nD nK mq X ho (by rw[ba,<-hs,pu,hp];lia) (by lia) hf h
end
section
variable{D kS:aw}{e1 e:Nat}{qs:List ac}{ks:List ar}
theorem WU(S:bY G)(aM:ca G n r.E)(R:∀env,a_ (A.deeper env) n)(I:Inv G s)(H:Hid s.heap μ)(dh:bL G s.heap μ)(g1:bc G s s1)(I1:Inv G s1)(nD:s.heap.get? D=none){a:cH}{b:Expr}{ls:aH}{cJ:Loc}{fv:ar}(hf:RelV G (aq s.heap μ) (.lam a b ls cJ) fv)
 {ps:List (ac×PV)} {c:Nat} (hD:s1.heap.get? D=some (bR vs.toArray c)) (em:qi (λv=>j5 r a b ls cJ [v]) xs=some ps) (rl:aN G (aq s.heap μ) xs vs) (hn:ps.length∈[2,3,4]) (cY:∀q∈ps,q.1.length=2) (nd:(ps.map (·.1)).Nodup) {P:jW->ak}
  (h:∀aS k,bc G s aS->Inv G aS->aS.heap.get? D=some (bR ((dE (λi j=>lexLt (ps.getD i ([],.none)).1 (ps.getD j ([],.none)).1) (aG ps.length)).map λi=>vs.getD i Value.none).toArray k)->P (.done (.ret .none)) aS):
  bt (bp G.prog G.w) A (ksk_tree D fv false) P E s1:=by
 have hx:xs.length=ps.length:=by rw[<-AZ em,ba]
 have hv:vs.length=ps.length:=rl.length.symm.trans hx;have n64:2<=ps.length/\ps.length<6:=by simp only[cc,gG,or_false]at hn;lia
 have sb:=pr s1.heap D (dj λz=>(#[]:aj));obtain⟨e1,sF⟩:∃e1,(s1.heap.update D (dj λz=>(#[]:aj))).get? D=some (bR #[] e1):=⟨_,get?_update_seq hD λz=> #[]⟩;obtain⟨g2,I2⟩:=E2 I g1 I1 nD (xY hD) sb sF;unfold ksk_tree;refine aP (listItems_at hD rfl ?_);refine aP (listUpdate_at hD rfl ?_ (by rw[vn,lN];lia) (du _));refine aP (seqEpoch_at sF rfl ?_);refine aP (wpAny_newTuple ?_ (by show vs.length<=_;rw[lN];lia));refine aP (wpAny_newList ?_ (du _));refine iL ?_;have kp:∀b o,(s1.heap.update D (dj λz=>(#[]:aj))).get? b=some o->(((s1.heap.update D (dj λz=>(#[]:aj))).push (f8 "tuple" vs.toArray 0)).push (f8 "list" #[] 0)).get? b=some o:=λb o e=>bU _ _ (bU _ _ e);have g3:bc G s {s1 with heap:=((s1.heap.update D (dj λz=>(#[]:aj))).push (f8 "tuple" vs.toArray 0)).push (f8 "list" #[] 0)}:=g2.trans (.of kp);have I3:Inv G {s1 with heap:=((s1.heap.update D (dj λz=>(#[]:aj))).push (f8 "tuple" vs.toArray 0)).push (f8 "list" #[] 0)}:=I2.of kp;have sz:((s1.heap.update D (dj λz=>(#[]:aj))).push (f8 "tuple" vs.toArray 0)).objs.size=(s1.heap.update D (dj λz=>(#[]:aj))).objs.size+1:=Ah ..;have mq:D≠((s1.heap.update D (dj λz=>(#[]:aj))).push (f8 "tuple" vs.toArray 0)).objs.size:=by rw[sz];exact eO (Jg (fQ sF))
 have nK:s.heap.get? ((s1.heap.update D (dj λz=>(#[]:aj))).push (f8 "tuple" vs.toArray 0)).objs.size=none:=lS g2 (n_ (by rw[sz];exact dX _));have X0:iW G μ D ((s1.heap.update D (dj λz=>(#[]:aj))).push (f8 "tuple" vs.toArray 0)).objs.size e1 s {s1 with heap:=((s1.heap.update D (dj λz=>(#[]:aj))).push (f8 "tuple" vs.toArray 0)).push (f8 "list" #[] 0)} [] [] 0:=
  ⟨g3,I3,kp _ _ sF,eF _ rfl,.mkNil⟩
 show bt (bp G.prog G.w) A (ksk_rest D fv false vs.toArray e1 (.ref ((s1.heap.update D (dj λz=>(#[]:aj))).push (f8 "tuple" vs.toArray 0)).objs.size)) P E {s1 with heap:=((s1.heap.update D (dj λz=>(#[]:aj))).push (f8 "tuple" vs.toArray 0)).push (f8 "list" #[] 0)};generalize ({s1 with heap:=((s1.heap.update D (dj λz=>(#[]:aj))).push (f8 "tuple" vs.toArray 0)).push (f8 "list" #[] 0)}:aB)=s3 at X0;generalize ((s1.heap.update D (dj λz=>(#[]:aj))).push (f8 "tuple" vs.toArray 0)).objs.size=kS at X0 nK mq;unfold ksk_rest;refine aP (As ?_)
 first
  |rw[List.forIn_toArray]
  |(rw[<-af9];simp only[List.toList_toArray])
  |rw[<-af9]
 refine aP (L9 S aM R I H dh nD nK mq hf (λx s' R' hx=>?_) xs vs ps [] [] 0 s3 em cY X0 (rl.mono (X0.b8 I nD nK)) (by rw[Ac];lia) λaS nV e' X' z z=>?_)
 ·refine aP (wpAny_attempt (db hx (λk aS hk=>?_) λz z hF=>hF.elim))
  try dsimp only
  exact aP (db hk (λz s3 q=>bz q) λz z x=>x)
 ·try dsimp only
  rw[rj]at X';exact aP (listItems_at X'.k rfl (YF I nD nK mq X' hn cY nd hv λs3 k g4 I4 hk z=>h s3 k g4 I4 hk))
theorem Bz(S:bY G)(aM:ca G n r.E):yA G n r:=by
 intro A μ a b ls cJ xs ps p lv fv s Q R I H dh em ek hl hf h;refine aZ ek λhc ek=>r7 hc λc1 c2 c3 c4=>?_;have c1:=bu c1;have c2:=bu c2;have hn:ps.length∈[2,3,4]:=by simp only[cc,gG,or_false];lia
 have cY:∀q∈ps,q.1.length=2:=λq hq=>beq_iff_eq.mp (cF.mp c3 q hq);obtain⟨f,iV⟩:∃f,fv=.ref f:=by obtain⟨f,_,_,e,_⟩:=(id hf:pY _ _ _ _ _ fv);exact⟨f,e⟩
 rw[iV]at hf⊢;refine hl.listE (P:=λlv=>WP G A (call (.builtin "sorted") [lv] [(("key":Str),.ref f)]) Q s) λla items c ha rl=>?_;have hv:items.toList.length=ps.length:=rl.length.symm.trans (by rw[<-AZ em,ba]);have hl:s.heap.IsList la items.toList.toArray:=⟨_,ha.1,rfl,c,by simp⟩;generalize items.toList=vs at rl hv hl;refine call_function_entry_kw kind_sorted plain_sorted entry_sorted (ksk_s1 _ _) ?_;unfold Builtin.«sorted»;refine aP (m:=checkCount "sorted" 1 1 _) (bz ?_);refine aP (collect_list hl ?_ (by rw[lN];lia));refine aP (wpAny_newList ?_ (by rw[lN];lia));have ie:((s.heap.push (f8 "list" #[] 0)).update s.heap.objs.size (dj (· ++vs.toArray))).objs.size=s.heap.objs.size+1:=by refine ao (Heap.size_update ..) ?_;rw[size_push']
 have CU:(((s.heap.push (f8 "list" #[] 0)).update s.heap.objs.size (dj (· ++vs.toArray))).push (f8 "list" vs.toArray 0)).get? (s.heap.objs.size+1)=some (f8 "list" vs.toArray 0):=by rw[<-ie];exact eF _ rfl
 have keep:∀b o,s.heap.get? b=some o->(((s.heap.push (f8 "list" #[] 0)).update s.heap.objs.size (dj (· ++vs.toArray))).push (f8 "list" vs.toArray 0)).get? b=some o:=λb o q=>by have qB:=fQ q;refine ao (agm _ _ _ (by rw[ie];exact eO (Jg qB))) ?_;rw[Heap.get?_update_ne _ _ _ _ (eO qB),agm _ _ _ (eO qB)];exact q
 rw[ie];have nD:s.heap.get? (s.heap.objs.size+1)=none:=n_ (dX _);refine aP (iL (wpAny_call_entry_kw slot_list_sort ⟨_,CU,rfl⟩ entry_list_sort ?_ (ksk_l1 _ _)));refine eT (show Builtin.«list.sort» ⟨[.ref (s.heap.objs.size+1)],[(("key":Str),.ref f)]⟩=ksk_tree (s.heap.objs.size+1) (.ref f) false from ksk_t1 _ _) ?_;refine WU (A:=A.in1.in1) S aM (λenv=>⟨R.hh,by have :=R.depth;show A.depth+1+2*n+60<1000;lia,by have :=R.units;show A.units+1+1+3+20*n+600<9900;lia⟩) I H dh (.of (tk:=s.toks) keep) (I.of (tk:=s.toks) keep) nD hf CU em rl hn cY (bu c4) λaS k g I' hk=>⟨_,rfl,bz ⟨_,rfl,h _ aS g I' ?_⟩⟩;have hD:=hk;rw[<-av ek];refine .ou ⟨hD,λq=>H _ q nD,.inl (by nofun)⟩ ?_;have e1:dE (λx y=>lexLt x.1 y.1) ps=(dE (λi j=>lexLt (ps.getD i ([],.none)).1 (ps.getD j ([],.none)).1) (aG ps.length)).map λi=>ps.getD i ([],.none):=by have :=Uq (lt:=λ(x y:ac×PV)=>lexLt x.1 y.1) (f:=λi=>ps.getD i ([],.none)) (l:=aG ps.length);rw[Ur]at this;exact this
 rw[e1,cP];refine aN.acb λi hi=>?_;have hi:=bI.mp ((Ef _ _).mem_iff.mp hi);obtain⟨v,q1,q2⟩:=rl.get (i:=i) (by rw[<-AZ em,i7,lU (d:=(([],.none):ac×PV)) hi];rfl);replace q1:=ao (aT (lU (d:=Value.none) (hv▸hi))) q1;exact(av q1▸q2).mono (aq.grow g I)
end
theorem E3{k:Option aj->Sem (List (Str×ar))}(hd:fd.defaults=.ref T)(ho:s.heap.get? T=some o)(hs:o.data=.seq items n)
  (h1:bindArgs fd args=seqItems? fd.defaults>>=k) (h:∀(M:Model)(A:dQ)(E:ar->ak)(Q:List (Str×ar)->ak),Q binds s->bt M A (k (some items)) Q E s):lQ s fd args binds:=λM A E Q hq=>by
 refine eT h1 ?_;rw[hd];exact aP (wpAny_seqItems ho hs (h M A E Q hq))
theorem Ie{Kd:aw}{mk:am}{γ:Type}{Q:γ->ak}{f:ai->Sem α}{g:α->Sem β}{h:β->Sem γ}{nk:Str}(hK:s.heap.Ns Kd mk)(hq:bt M A ((f (mk nk)>>=g)>>=h) Q E s):bt M A (((nsGet Kd nk>>=f)>>=g)>>=h) Q E s:=by rw[bind_assoc,bind_assoc];refine aP (wpAny_nsGet hK ?_);refine eT (aT (bind_assoc ..)) ?_;exact hq
section
variable{T Kd:aw}{oT:Obj}{t:Tok}{mk:am}
theorem WW(f)(n1 n2 n3 n4 n5 p1 p2 p3 p4 p5)(kd ds)(hd:f.defaults=.ref T)(hT:s.heap.get? T=some oT)(hs:oT.data=.seq #[.int 0 t,.none] n)(hp:f.params=⟨[],[⟨"a",n1,p1⟩,⟨"x",n2,p2⟩,⟨"lo",n3,p3⟩,⟨"hi",n4,p4⟩],none,[⟨"key",n5,p5⟩],kd,none,ds⟩)
  (a x) (more) (lh:ar×ar) (key) (h1:oN (.int 0 t) .none more=some lh):lQ s f ⟨a::x::more,[("key",key)]⟩ [("a",a),("x",x),("lo",lh.1),("hi",lh.2),("key",key)]:=by
 cases f;cases hp;cases hd;cases more with
 |nil=>rw[<-av h1];exact Rg rfl hT hs rfl rfl
 |cons lo r=>cases r with
  |nil=>rw[<-av h1];exact Rg rfl hT hs rfl rfl
  |cons hi r=>exact aZ h1 λhr h1=>by rw[dd hr,<-av h1];exact Rg rfl hT hs rfl rfl
theorem YG(f:tF)(n1 n2 n3 n4 n5 p1 p2 p3 p4 p5)(kd ds)(hd:f.defaults=.ref T)(hT:s.heap.get? T=some oT)(hs:oT.data=.seq #[.int 0 t,.none] n)(hk:f.kwdefaults=.ref Kd)(hK:s.heap.Ns Kd mk)(hm:mk "key"=some .none)(hp:f.params=⟨[],[⟨"a",n1,p1⟩,⟨"x",n2,p2⟩,⟨"lo",n3,p3⟩,⟨"hi",n4,p4⟩],none,[⟨"key",n5,p5⟩],kd,none,ds⟩)
  (a x:ar) (more:List ar) (lh:ar×ar) (h1:oN (.int 0 t) .none more=some lh):lQ s f ⟨a::x::more,[]⟩ [("a",a),("x",x),("lo",lh.1),("hi",lh.2),("key",.none)]:=by
 cases f;cases hp;cases hd;cases hk;cases more with
 |nil=>rw[<-av h1];exact E3 rfl hT hs rfl λM A E Q hq=>Ie hK (by rw[hm];exact bz hq)
 |cons lo r=>cases r with
  |nil=>rw[<-av h1];exact E3 rfl hT hs rfl λM A E Q hq=>Ie hK (by rw[hm];exact bz hq)
  |cons hi r=>exact aZ h1 λhr h1=>by rw[dd hr,<-av h1];exact E3 rfl hT hs rfl λM A E Q hq=>Ie hK (by rw[hm];exact bz hq)
theorem yj{a:Arg}(h:a.arg=x):a=⟨x,a.annotation,a.pos⟩:=by cases a;cases h;rfl
theorem WX(F:wq d)(hb:ua d.args=true)(par:fd.params=d.args)(hd:fd.defaults=.ref T)(hT:s.heap.get? T=some oT)(hs:oT.data=.seq #[.int 0 t,.none] n)(hk:fd.kwdefaults=.ref Kd)(hK:s.heap.Ns Kd mk)(hm:mk "key"=some .none):om s d fd t:=by
 have key:∃n1 n2 n3 n4 n5 p1 p2 p3 p4 p5 kd ds,fd.params=⟨[],[⟨"a",n1,p1⟩,⟨"x",n2,p2⟩,⟨"lo",n3,p3⟩,⟨"hi",n4,p4⟩],none,[⟨"key",n5,p5⟩],kd,none,ds⟩:=be hb λh1 h2=>by have h1:=bu h1;have h2:=bu h2;have f1:=F.pos;have f2:=F.va;have f3:=F.CJ;rw[par];generalize d.args=da at h1 h2 f1 f2 f3;obtain⟨b1,b2,b3,b4,b5,b6,b7⟩:=da;obtain⟨x1,l,q1,e1,h1⟩:=Dj.mp h1;obtain⟨x2,l,q2,e2,h1⟩:=Dj.mp h1;obtain⟨x3,l,q3,e3,h1⟩:=Dj.mp h1;obtain⟨x4,l,q4,e4,h1⟩:=Dj.mp h1;obtain⟨x5,l',q5,e5,h2⟩:=Dj.mp h2;rw[q4,oa.mp h1]at q3;rw[q3]at q2;rw[q2]at q1;rw[oa.mp h2]at q5;rw[yj e1,yj e2,yj e3,yj e4]at q1;rw[yj e5]at q5;cases f1;cases f2;cases f3;cases q1;cases q5;exact⟨_,_,_,_,_,_,_,_,_,_,_,_,rfl⟩
 obtain⟨n1,n2,n3,n4,n5,p1,p2,p3,p4,p5,kd,ds,hp⟩:=key;refine⟨par,λq=>(M6 q hb).elim,λz a x more kw lh key h1 h2=>?_⟩;induction kw with
 |nil=>rw[<-av h2];exact YG fd n1 n2 n3 n4 n5 p1 p2 p3 p4 p5 kd ds hd hT hs hk hK hm hp a x more lh h1
 |cons q r=>refine aZ h2 λhc h2=>be hc λc1 c2=>?_;rw[dd c1,<-av h2,show q=(("key":Str),q.2) from Prod.ext (bu c2) rfl];exact WW fd n1 n2 n3 n4 n5 p1 p2 p3 p4 p5 kd ds hd hT hs hp a x more lh q.2 h1
end
end
section
variable{n k w:Nat}{sc cs:aH}{A:dQ}{pos:Pos}{r:Rec}{st:St}{a:aw}{P:Prop}{own:al}{fl:bG}{d:FD}{c:Bool}{body:ad}{E:ar->ak}{b:Int}{nm:Str}{ns:af}{it:ar}{M:Model}
def D(f:Str):FD:=(fnOf f).getD ⟨default,[],default⟩
def Mt(f:Str):FD:=(lV f).getD ⟨default,[],default⟩
def bd(s:Stmt):ad:=(rK s (λz z b z z=>some b) (x9 s (λz b z z=>some b) (vT s (λz z b z z z z z z z=>some b) .none))).getD []
def dH(s:Stmt):Expr:=(rK s (λt z z z z=>some t) (x9 s (λt z z z=>some t) .none)).getD default
def bC(l:Loc):St:=⟨l,[],[]⟩
def au(b:ad)(k:Nat):Stmt:=b.getD k default
def oL(x:Str):ag->Loc
 | .none=>[]
 |some v=>[(x,v)]
def eN(r:Rec)(sc:aH)(t:Expr)(body:ad)(x:PV)(st:St):Option (bG×St):=if(gp t).all (cm sc st)then(fz t st.loc x).bind λl=>r.B sc {st with loc:=l,own:=b9 st (gp t)} body else .none
theorem EB{x:PV}:dT r sc t body (x::xs) st=vV (eN r sc t body x st) λst=>dT r sc t body xs st:=by
 show(if(gp t).all (cm sc st)then(fz t st.loc x).bind λl=>vV (r.B sc {st with loc:=l,own:=b9 st (gp t)} body) λst=>dT r sc t body xs st else .none)=vV (if(gp t).all (cm sc st)then(fz t st.loc x).bind λl=>r.B sc {st with loc:=l,own:=b9 st (gp t)} body else .none) λst=>dT r sc t body xs st;generalize (gp t).all (cm sc st)=c,fz t st.loc x=o;induction c with
 |false=>rfl
 |true=>induction o<;>rfl
theorem lT{x:PV}(h:eN r sc t body x st=some (.next,aE)):dT r sc t body (x::xs) st=dT r sc t body xs aE:=by refine ao EB ?_;rw[h];rfl
theorem L'{x:PV}(h:eN r sc t body x st=some (.brk,aE)):dT r sc t body (x::xs) st=some (.next,aE):=by refine ao EB ?_;rw[h];rfl
theorem vL{x v:PV}(h:eN r sc t body x st=some (.ret v,aE)):dT r sc t body (x::xs) st=some (.ret v,aE):=by refine ao EB ?_;rw[h];rfl
theorem bind_eq{o:Option α}{f:α->Option β}{a:α}{r:Option β}(h:o=some a)(k:f a=r):o.bind f=r:=h▸k
theorem aY{v:PV}(h:r.E sc (hide st.own st.loc) e=some v)(hn:dS v=true):ci r sc st e=some (v,st):=by delta ci B_;rw[h];exact aA hn
theorem Tm{v:PV}(h:flat v=true):dS v=true:=PV.casesOn v (λz=>rfl) (λz z=>rfl) (λz z=>rfl) (λz z=>rfl) (λz h=>nomatch h) (λz h=>nomatch h) (λz z z h=>nomatch h) (λz h=>nomatch h) (λh=>nomatch h) (λz h=>nomatch h) (λz h=>nomatch h) (λz z z z h=>nomatch h) (λz z z h=>nomatch h) (λz h=>nomatch h) h
theorem rD{v:PV}(h0:r.E sc (hide st.own st.loc) e=.none)(h:r.E sc (hide [] st.loc) e=some v)(hf:flat v=true):ci r sc st e=some (v,st):=by delta ci B_;rw[h0,h];exact bind_eq (aA hf) (aA (Tm hf))
theorem tM{v:PV}(h0:r.E sc (hide st.own st.loc) e=.none)(h:r.E sc (hide [] st.loc) e=some v)(hf:flat v=false)(h1:Bq r sc st e st.own=some (v,aE))(hn:dS v=true):ci r sc st e=some (v,aE):=by delta ci B_;rw[h0,h];exact bind_eq ((aJ (ne_true_of_eq_false hf)).trans (aR (wy · _) h1)) (aA hn)
theorem jZ:(l:ac)->b_ (l.map .int)=true:=by
 intro l;induction l with
 |nil=>exact rfl
 |cons a l ih=>exact ih
def aX(s:Stmt):Expr:=(pU s (λz e z=>some e) (uq s (λe z z z=>some e) (BF s (λo z=>o) (FR s (λe z=>some e) (FQ s (λz z e z=>some e) (rK s (λz e z z z=>some e) (x9 s (λe z z z=>some e) .none))))))).getD default
def dW(s:Stmt):ad:=(uq s (λz a z z=>some a) .none).getD []
def fD(s:Stmt):ad:=(uq s (λz z a z=>some a) .none).getD []
def aat(sc:aH)(s:Stmt):Bool:=(rK s (λz e z jK z=>some (jK.isEmpty&&(lX sc "reversed" e).isNone&&(lX sc "_iter_escaped_chars" e).isNone&&j8 e)) .none).getD false
def isIf(s:Stmt):Bool:=jb s.ctorIdx 12
def aau(s:Stmt):Bool:=(BF s (λo z=>some o.isSome) .none).getD false
def Gm(s:Stmt):Option (ah×Expr×Pos):=pU s (λts e p=>some (ts,e,p)) .none
def isSet(x:Str)(s:Stmt):Bool:=((Gm s).bind λq=>(one q.1).bind fI).any (λy=>decide (y=x))&&yr (aX s)&& !(vQ (aX s)&&x_.contains x)
theorem M'{s:Stmt}{q:ah×Expr×Pos}(h:Gm s=some q):s=.Assign q.1 q.2.1 q.2.2:=yf h (λz z z h=>av h▸rfl) aK
theorem Na{o:Option α}{f:α->Bool}(h:o.any f=true)(k:∀a,o=some a->f a=true->P):P:=by
 induction o with
 |some a=>exact k a rfl h
 |none=>cases h
theorem map_eq{o:Option α}{f:α->β}{a:α}(h:o=some a):o.map f=some (f a):=h▸rfl
theorem jh{s:Stmt}{v:PV}(hs:aat sc s=true)(hx:ci (ev n) sc st (aX s)=some (v,aE))(hi:itemsOf v=some xs):(ev (n+1)).S sc st s=dT (ev n) sc (dH s) (bd s) xs aE:=
 Bl (Hu hs) (λt e body jK z h hx=>r7 (av h) λh1 h2 h3 h4=>(aA h1).trans (by
  delta wc;rw[jp.mp h2,jp.mp h3];exact(aA h4).trans (bind_eq hx (bind_eq hi rfl)))) aK hx
theorem cK{s:Stmt}{v:PV}(hs:isIf s=true)(hx:ci (ev n) sc st (aX s)=some (v,aE))(hc:truth v=some c):(ev (n+1)).S sc st s=(ev n).B sc aE (if c=true then dW s else fD s):=
 Stmt.If.elim s (rg hs) (λz z z z hx=>bind_eq hx (bind_eq hc rfl)) hx
theorem gu{s:Stmt}{v:PV}(hs:aau s=true)(hx:ci (ev n) sc st (aX s)=some (v,aE)):(ev (n+1)).S sc st s=some (.ret v,aE):=
 ML (Hu hs) (λo z h hx=>by
  induction o with
  |some e=>exact map_eq hx
  |none=>cases h) aK hx
theorem dr{s:Stmt}{v:PV}(hs:isSet x s=true)(hc:(cm sc st x&&(!GL (aX s)||A8 st))=true)(hx:ci (ev n) sc st (aX s)=some (v,aE)):(ev (n+1)).S sc st s=some (.next,{aE with loc:=bq aE.loc x v,own:=b9 aE [x]}):=
 gg hs λh1 h2 h3=>be hc λh4 h5=>Na h1 λy e1 e2=>by
 obtain rfl:=bu e2;refine aF e1 λq e3 e4=>aF e4 λt e5 e6=>?_;rw[M' e3]at h2 h3 h5 hx⊢;rw[fH e5];exact ka e6 λz=>(aA (gq (gq h4 h2) h5)).trans ((aJ (λh=>nomatch h.symm.trans (ud h3))).trans (map_eq hx))
theorem Vv[Inhabited α](b:List α)(k)(h:k<b.length):b.drop k=b.getD k default ::b.drop (k+1):=(afC h).trans (aR (· ::_) (List.getElem_eq_getD default))
theorem oY{b:ad}(k)(hk:xE k b.length=true):(ev (n+1)).B sc st (b.drop k)=FW ((ev n).S sc st (au b k)) λst=>(ev n).B sc st (b.drop (k+1)):=by rw[Vv b k (Nat.le_of_ble_eq_true hk)];rfl
theorem bf{b:ad}(k)(hk:xE k b.length=true)(h:(ev n).S sc st (au b k)=some (.next,aE)):(ev (n+1)).B sc st (b.drop k)=(ev n).B sc aE (b.drop (k+1)):=by refine ao (oY k hk) ?_;rw[h];rfl
theorem de{b:ad}{v:PV}(k)(hk:xE k b.length=true)(h:(ev n).S sc st (au b k)=some (.ret v,aE)):(ev (n+1)).B sc st (b.drop k)=some (.ret v,aE):=by refine ao (oY k hk) ?_;rw[h];rfl
theorem fi{o:Option (bG×St)}{own:af}{v:PV}(h:o=some (.ret v,st))(hb:pP own st=true):(o.bind (eK own)).map (·.1)=some v:=by rw[h];show(if pP own st=true then some (v,st)else none).map (·.1)=_;rw[aA hb];rfl
theorem uO{a:Int}(h: -n<=a/\a<=n):a.natAbs<=n:=by omega
theorem BQ{a:Int}(h:1<=b/\b<=1000000000):cQ .FloorDiv a b=some (.int (a.fdiv b)):=aJ λh1=>h1.elim (Ap h.1) λh1=>mL _ (cZ h1 (uO ⟨cD (by decide) h.1,h.2⟩))
theorem mS{a:Int}(h:1<=b):cQ .Mod a b=some (.int (a.fmod b)):=aJ (Ap h)
theorem nb(h:n<=2000000000): -(2^63)<=(n:Int)/\(n:Int)<=2^63:=⟨cD (by decide) (cz n),cD (eP.mpr h) (by decide)⟩
theorem ib{a:Int}(h: -2000000000<=a/\a<=2000000000): -(2^63)<=a/\a<=2^63:=⟨cD (by decide) h.1,cD h.2 (by decide)⟩
theorem nW{a:Int}(h: -(2^63)<=a/\a<=2^63):small a=true:=bh (im (uO h) (by decide))
theorem lW{a:Int}(ha: -(2^63)<=a/\a<=2^63)(hb: -(2^63)<=b/\b<=2^63):cQ .Mult a b=some (.int (a*b)):=
 aA (rh.mpr ⟨nW ha,nW hb⟩)
def WY(x:Str)(s:Stmt):Bool:=((Gm s).bind λq=>(one q.1).bind fI).any (λy=>decide (y=x))&&yr (aX s)&&(vQ (aX s)&&x_.contains x)
theorem Ma{s:Stmt}{vs:ab}(hs:WY x s=true)(hc:(cm sc st x&&(!GL (aX s)||A8 st))=true)(hx:(ev n).E sc st.loc (aX s)=some (.list vs))(hf:vs.all flat=true):(ev (n+1)).S sc st s=some (.next,{st with loc:=bq st.loc x (.list vs),own:=x::b9 st [x]}):=
 gg hs λh1 h2 h3=>be hc λh4 h5=>Na h1 λy e1 e2=>by
 obtain rfl:=bu e2;refine aF e1 λq e3 e4=>aF e4 λt e5 e6=>?_;rw[M' e3]at h2 h3 h5 hx⊢;rw[fH e5];exact ka e6 λz=>(aA (gq (gq h4 h2) h5)).trans ((aA h3).trans (bind_eq (bind_eq hx rfl) (aA hf)))
def FE(e:Expr):ah:=(oH e (λz as z z=>some as) .none).getD []
def ace(e:Expr):Option Str:=oH e (λf z ks z=>if ks.isEmpty then fI f else .none) .none
def aav(s:Stmt):Bool:=jb s.ctorIdx 24
def Of(r:Rec)(sc:aH)(st:St)(a:cH)(b:ad)(fs:aH)(vs:ab):Option (bG×St):=
 if vs.all flat&&pQ sc st.loc fs&&a.kwonlyargs.isEmpty then(bindAll a vs []).bind λbs=>(one (st.own.filter (λy=>fs.names.lookup y==some .free))).bind λy=>((st.loc.lookup y).bind iu).bind λz=>
  ((iR r ⟨a,b,fs⟩ (bs++free fs st.loc) [y]).bind nh).bind λs2=>uc st y (s2.loc.lookup y)else .none
theorem YH{s:Stmt}{f:Str}{a:cH}{b:ad}{fs:aH}{vs:ab}(h0:aav s=true)(hs:ace (aX s)=some f)(hl:st.loc.lookup f=some (.gc a b fs))(ha:dG (ev n) sc st.loc (FE (aX s))=some vs):
  (ev (n+1)).S sc st s=Of (ev n) sc st a b fs vs:=
 Jl s (rg h0) (λe z hs ha=>
  vM (C:=λe=>dG (ev n) sc st.loc (FE e)=some vs->NW (ev n) sc st e=Of (ev n) sc st a b fs vs) hs (λg as ks q h ha=>aZ h λh1 h2=>ka (C:=λg=>FY (ev n) sc st g as ks q=_) h2 λz=>bind_eq hl ((aA h1).trans (bind_eq ha rfl))) aK ha) hs ha
def ifT(e:Expr):Expr:=(y6 e (λt a b z=>some t) .none).getD default
def Qc(e:Expr):Expr:=(y6 e (λt a b z=>some a) .none).getD default
def ifB(e:Expr):Expr:=(y6 e (λt a b z=>some b) .none).getD default
def aaw(e:Expr):Bool:=jb e.ctorIdx 5
def bK(e:Expr):Option (Str×Pos×ah×List gY):=oH e (λf as ks z=>pT f (λx p=>some (x,p,as,ks)) .none) .none
theorem yS{v:PV}(hs:aaw e=true)(hx:(ev n).E sc l (ifT e)=some v)(hc:truth v=some c):(ev (n+1)).E sc l e=(ev n).E sc l (if c=true then Qc e else ifB e):=
 Jd e (rg hs) (λz z z z hx=>bind_eq hx (bind_eq hc rfl)) hx
theorem Nb(hs:bK e=some q):(ev (n+1)).E sc l e=vP (ev n) sc l q.1 q.2.1 q.2.2.1 q.2.2.2:=
 vM hs (λz as ks p h=>rG h (λz z h=>av h▸rfl) aK) aK
theorem YI{q:Str×Pos×ah×List gY}{c:cH×ad×aH}{vs:ab}(hs:bK e=some q)(hc:vO sc l q.1=some c)(hk:q.2.2.2.isEmpty=true)(ha:dG (ev n) sc l q.2.2.1=some vs):(ev (n+1)).E sc l e=Eu (ev n) l c.1 c.2.1 c.2.2 vs:=by rw[Nb hs];delta vP;rw[hc];exact(aA hk).trans (bind_eq ha rfl)
theorem fk{q:Str×Pos×ah×List gY}{f:PV}{vs:ab}(hs:bK e=some q)(hc:vO sc l q.1=.none)(hf:(ev n).E sc l (.Name q.1 q.2.1)=some f)(ha:dG (ev n) sc l q.2.2.1=some vs)(hk:oO (ev n) sc l q.2.2.2=some kw):
  (ev (n+1)).E sc l e=yg (ev n) f vs kw:=by
 rw[Nb hs];delta vP;rw[hc];exact bind_eq hf (bind_eq ha (bind_eq hk rfl))
theorem oo(g:β->PV)(f:α->β->α)(F:α->St)(P:Nat->α->Prop)(xs:List β)(a:α)(h0:P xs.length a)
  (h:∀k a,P (k+1) a->∀x∈xs,eN r sc t body (g x) (F a)=some (.next,F (f a x))/\P k (f a x)):dT r sc t body (xs.map g) (F a)=some (.next,F (xs.foldl f a))/\P 0 (xs.foldl f a):=by
 induction xs generalizing a with
 |nil=>exact⟨rfl,h0⟩
 |cons x xs ih=>have h1:=h xs.length a h0 x (ch ..);have h2:=ih (f a x) h1.2 λk a ha y hy=>h k a ha y (cf _ hy);exact⟨(lT h1.1).trans h2.1,h2.2⟩
def kl(s:Stmt):Option (Expr×ah):=pU s (λts z z=>(one ts).bind λt=>(kh t).map λes=>(t,es)) .none
theorem kT{s:Stmt}{v:PV}{q:Expr×ah}(hs:kl s=some q)(hc:(gp q.1).all (cm sc st)=true)(ho:(Br q.2 (aX s)).isNone=true)(hw:Bs (aX s)=true)(hx:ci (ev n) sc st (aX s)=some (v,aE))(hb:fz q.1 aE.loc v=some l):
  (ev (n+1)).S sc st s=some (.next,{aE with loc:=l,own:=b9 aE (gp q.1)}):=
 yf hs (λts e p h ho hw hx=>aF h λt e1 e2=>cj e2 λes e3 e4=>by
  subst e4;rw[fH e1];refine FZ e3 (λk p2 hc hb=>(aA hc).trans ?_) hc hb;rw[show Br es e=.none from jp.mp ho];exact(aA hw).trans (bind_eq hx (map_eq hb))) aK ho hw hx
def O5(sc:aH)(s:Stmt):Option Expr:=rK s (λz e z jK z=>if jK.isEmpty then lX sc "reversed" e else .none) .none
theorem YJ{s:Stmt}{vs:ab}(hs:O5 sc s=some e)(hx:ci (ev n) sc st e=some (.list vs,aE)):(ev (n+1)).S sc st s=dT (ev n) sc (dH s) (bd s) vs.reverse aE:=
 Bl hs (λt e2 body jK p h=>aZ h λh1 h2=>(aA h1).trans (by
  delta wc;rw[h2];exact bind_eq (bind_eq hx rfl) rfl)) aK
def Gn(s:Stmt):Option (Str×Expr×Expr):=pU s (λts e z=>(one ts).bind λt=>B7 t (λo i z=>(fI o).map λx=>(x,i,e)) .none) .none
theorem Og{s:Stmt}{q:Str×Expr×Expr}{v:PV}{k:Int}{vs:ab}(hs:Gn s=some q)(hx:ci (ev n) sc st q.2.2=some (v,aE))(hi:ci (ev n) sc aE q.2.1=some (.int k,bw))(hf:flat v=true)(ho:bw.own.contains q.1=true)(hl:bw.loc.lookup q.1=some (.list vs))
  (hk:0<=k/\k.toNat<vs.length/\k<=1000000):(ev (n+1)).S sc st s=some (.next,{bw with loc:=bq bw.loc q.1 (.list (vs.set k.toNat v))}):=
 yf hs (λts e p h=>aF h λt h1 h2=>by
  rw[fH h1];refine NJ h2 (λo i p2 h=>cj h λx h3 h4=>?_) aK;subst h4;exact bind_eq h3 (bind_eq hx (bind_eq (bind_eq hi rfl) ((aA (gq hf ho)).trans (bind_eq (bind_eq hl rfl) (aA (gq (gq (bh hk.1) (bh hk.2.1)) (bh (im (uO ⟨cD (by decide) hk.1,hk.2.2⟩) (by decide)))))))))) aK
def FF(s:Stmt):Option (Str×Str×Expr):=pU s (λts e z=>(one ts).bind λt=>t0 t (λo n z=>(fI o).map λx=>(x,n,e)) .none) .none
theorem Nc{s:Stmt}{q:Str×Str×Expr}{v:PV}(hs:FF s=some q)(hx:ci (ev n) sc st q.2.2=some (v,aE))(ho:aE.own.contains q.1=true)(hl:aE.loc.lookup q.1=some (.inst fs))(hk:(fields.contains q.2.1&&(fs.lookup q.2.1).isNone&&decide (fs.length<=10))=true):
  (ev (n+1)).S sc st s=some (.next,{aE with loc:=bq aE.loc q.1 (.inst (bq fs q.2.1 v))}):=
 yf hs (λts e p h=>aF h λt h1 h2=>by
  rw[fH h1];refine ye h2 (λo m p2 h=>cj h λx h3 h4=>?_) aK;subst h4;exact bind_eq h3 (bind_eq hx ((aA ho).trans (bind_eq (bind_eq hl rfl) (aA hk))))) aK
theorem ui{aE:St}{s:Stmt}{vs:ab}{v:PV}(h:(ev (n+1)).S sc st s=(ci (ev n) sc st e).bind λq=>if q.2.own.contains x&&bo vs.length then some (.next,{q.2 with loc:=bq q.2.loc x (.list (vs++[q.1]))})else .none)
  (hx:ci (ev n) sc st e=some (v,aE)) (ho:aE.own.contains x=true) (hl:vs.length<=1000000):(ev (n+1)).S sc st s=some (.next,{aE with loc:=bq aE.loc x (.list (vs++[v]))}):=
 h.trans (bind_eq hx (aA (gq ho (bh hl))))
def dw(e:Expr):Option (Expr×CmpOp×Expr):=GD e (λa ops bs z=>(one ops).bind λop=>(one bs).map λb=>(a,op,b)) .none
theorem f_{q:Expr×CmpOp×Expr}{x y:PV}{b:Bool}(hs:dw e=some q)(hn:j8 q.2.2=true)(h1:(ev n).E sc l q.1=some x)(h2:(ev n).E sc l q.2.2=some y)(h:fU q.2.1 x y=some b):(ev (n+1)).E sc l e=some (.bool b):=
 NI hs (λa ops bs p e=>aF e λop h3 h4=>cj h4 λc h5 h6=>by
  subst h6;rw[fH h3,fH h5];exact(aA hn).trans (bind_eq h1 (bind_eq h2 (map_eq h)))) aK
def He(sc:aH)(s:Stmt):Option Expr:=rK s (λz e z jK z=>if jK.isEmpty&&(lX sc "reversed" e).isNone then lX sc "_iter_escaped_chars" e else .none) .none
theorem Nd{s:Stmt}(hs:He sc s=some e)(hx:ci (ev n) sc st e=some (.str x,aE)):(ev (n+1)).S sc st s=dT (ev n) sc (dH s) (bd s) (jd x) aE:=
 Bl hs (λt e2 body jK p h=>aZ h λh1 h2=>be h1 λh3 h4=>(aA h3).trans (by
  delta wc;rw[jp.mp h4,h2];exact bind_eq (bind_eq hx rfl) rfl)) aK
theorem O6{a:Int}(h: -1000000000<=a/\a<=1000000000):bJ a=true:=bh (im (uO h) (by decide))
theorem Ld(c:α)(k):dK [c] k=cC k c:=by
 induction k with
 |zero=>rfl
 |succ k ih=>exact aR (c:: ·) ih
theorem Mb{b:Nat}(h:n*b<=1000000)(h2:b<=1000000):t_ n b=true:=gq (bh h) (gq (bh (z6 (by decide) (cz b))) (bh (td (eP.mpr h2) (by decide))))
theorem add_list{a b:ab}(h:a.length+b.length<=1000000):bj .Add (.list a) (.list b)=some (.list (a++b)):=aA (show(isAdd .Add&&bo (a.length+b.length))=true from bh h)
theorem Mc{c:PV}(h:k<=1000):bj .Mult (.list [c]) (.int k)=some (.list (dK [c] k)):=by show(if(isMul .Mult&&t_ 1 k)=true then some (PV.list (dK [c] (k:Int).toNat))else none)=_;rw[Mb (aD (ej (JH k)) (aD h (by decide))) (aD h (by decide)),ip];rfl
theorem E4{c:PV}(h:k<=1000):bj .Mult (.list [c]) (.int k)=some (.list (cC k c)):=(Mc h).trans (by rw[Ld])
theorem WZ(X s:Nat):RF (X:Int) (((X/2^s*2^s:Nat)):Int)=((X%2^s:Nat):Int):=by
 have h1:∀a b:Nat,RG (a:Int) (b:Int)=((a&&&b:Nat):Int):=λa b=>by delta RG;rfl
 have h2:∀a b:Nat,agw (a:Int) (b:Int)=((a|||b:Nat):Int):=λa b=>by
  delta agw RG Builtin.bitNot;have neg:∀c:Nat,decide (0<= -(c:Int)-1)=false:=λc=>cA (by lia);rw[neg,neg];have inv:∀c:Int,-(-c-1)-1=c:=λc=>by lia
  refine ao (inv ..) ?_;rw[inv,inv];rfl
 have h3:X&&&(X/2^s*2^s)=X/2^s*2^s:=by
  apply af1;intro i;refine ao (Nat.testBit_and ..) ?_;rw[afK,afL];by_cases h:s<=i
  ·rw[vl h,bh h,DL,Bool.and_self]
  ·rw[cA h,RP,DK]
 have h4:X|||(X/2^s*2^s)=X:=by
  apply af1;intro i;refine ao (Nat.testBit_or ..) ?_;rw[afK,afL];by_cases h:s<=i
  ·rw[vl h,bh h,DL,Bool.or_self]
  ·rw[cA h,RP,Jz]
 delta RF;rw[h1,h2,h3,h4];exact IR.mpr (aR At ((agG X (2^s)).symm.trans (aR _ (tv ..))))
def gk(s x:Nat):Nat->ab
 |0=>[]
 |k+1=>.int ((x%2^s:Nat):Int)::gk s (x/2^s) k
theorem Vx(s k x):(gk s x k).length=k:=by
 induction k generalizing x with
 |zero=>rfl
 |succ k ih=>exact aR (· +1) (ih _)
theorem Vy(s m k x):gk s (x%2^(s*m)) m++gk s (x/2^(s*m)) k=gk s x (m+k):=by
 induction m generalizing x with
 |zero=>rw[xw,JC,ag7,i8];rfl
 |succ m ih=>rw[jq];show(PV.int ((x%2^(s*(m+1))%2^s:Nat):Int)::gk s (x%2^(s*(m+1))/2^s) m)++_=PV.int ((x%2^s:Nat):Int)::gk s (x/2^s) (m+k);rw[oh,xB,D0,tv,Nat.mod_mul_right_mod,Nat.mod_mul_right_div_self,<-Nat.div_div_eq_div_mul,Dy,ih]
theorem AM(s k x):(gk s x k).all flat=true/\b_ (gk s x k)=true:=by
 induction k generalizing x with
 |zero=>exact⟨rfl,rfl⟩
 |succ k ih=>exact ih _
theorem AD{a b:ab}(ha:b_ a=true)(hb:b_ b=true):b_ (a++b)=true:=by
 induction a with
 |nil=>exact hb
 |cons v a ih=>exact be ha λh1 h2=>show(dS v&&b_ (a++b))=true by rw[h1,ih h2];rfl
theorem JX{a:ab}(ha:b_ a=true)(k):b_ (a.take k)=true:=by
 induction a generalizing k with
 |nil=>induction k<;>rfl
 |cons v a ih=>induction k with
  |zero=>rfl
  |succ k=>exact be ha λh1 h2=>show(dS v&&b_ (a.take k))=true by rw[h1,ih h2];rfl
theorem JY{a:ab}(ha:b_ a=true)(k):b_ (a.drop k)=true:=by
 induction a generalizing k with
 |nil=>induction k<;>rfl
 |cons v a ih=>induction k with
  |zero=>exact ha
  |succ k=>exact be ha λh1 h2=>ih h2 k
theorem Go{a:Int}(ha: -(2^63)<=a/\a<=2^63)(hb:0<=b/\b<=1000):cQ .LShift a b=some (.int (a*2^b.toNat)):=
 aA (gq (gq (nW ha) (bh hb.1)) (bh (cD hb.2 (by decide))))
theorem YK{a:Int}(hb:0<=b):cQ .RShift a b=some (.int (a.fdiv (2^b.toNat))):=aA (bh hb)
def wP(s:Stmt):cH:=(vT s (λz a z z z z z z z z=>some a) .none).getD default
def mr(s:Stmt):aH:=(vT s (λz z z z z z c z z z=>some c) .none).getD default
def wQ:ad:=(D "_int2digits").body
def yT:Stmt:=au wQ 1
def km:ad:=bd yT
def jF:aH:=mr yT
def qw:PV:=.gc (wP yT) km jF
def gP(x L R n:Int)(vs:ab)(r:Loc):St:=⟨[(("x":Str),PV.int x),("L",.int L),("R",.int R),("n",.int n),("a_digits",.list vs),("inner",qw)]++r,["a_digits"],["a_digits"]⟩
def ny(n:Nat)(x L R s:Int)(vs:ab):Option St:=(iR (ev n) ⟨wP yT,km,jF⟩ (gP x L R s vs []).loc ["a_digits"]).bind nh
theorem Vz(n)(x L s)(vs)(hL:0<=L)(hl:L.toNat<vs.length)(y9:L<=1000):ny (n+8) x L (L+1) s vs=some (gP x L (L+1) s (vs.set L.toNat (.int x)) []):=by
 have e1:(ev (n+5)).S jF (gP x L (L+1) s vs []) (au (dW (au km 0)) 0)=some (.next,gP x L (L+1) s (vs.set L.toNat (.int x)) []):=by refine .trans (b:=if decide (0<=L)&&decide (L.toNat<vs.length)&&bJ L then some (bG.next,gP x L (L+1) s (vs.set L.toNat (.int x)) [])else none) ⋯ ?_;exact aA (gq (gq (bh hL) (bh hl)) (bh (im (uO (n:=1000) ⟨cD (by decide) hL,y9⟩) (by decide))))
 have e2:(ev (n+7)).S jF (gP x L (L+1) s vs []) (au km 0)=some (.ret .none,gP x L (L+1) s (vs.set L.toNat (.int x)) []):=by refine(cK ⋯ (aY (.trans (b:=some (.bool (L+1==L+1))) ⋯ (by rw[beq_self_eq_true])) rfl) rfl).trans ?_;exact(bf 0 ⋯ e1).trans ⋯
 refine .trans (b:=(((ev (n+8)).B jF (gP x L (L+1) s vs []) (km.drop 0)).bind (eK ["a_digits"])).bind nh) ⋯ ?_;rw[de 0 ⋯ (show(ev (n+7)).S jF _ _=_ from e2)];rfl
def sG(x L R s M sh u lo:Int)(vs:ab):St:=gP x L R s vs [("mid",.int M),("shift",.int sh),("upper",.int u),("lower",.int lo)]
theorem EC{m:Nat}{x L R s:Int}{vs o9:ab}{s1:St}(h1:ny m x L R s vs=some s1)(h2:s1.loc.lookup ("a_digits":Str)=some (.list o9))(h3:b_ o9=true):(ny m x L R s vs).bind (λs2=>uc st "a_digits" (s2.loc.lookup ("a_digits":Str)))=some (.next,{st with loc:=bq st.loc "a_digits" (.list o9)}):=
 bind_eq h1 (bind_eq (bind_eq h2 rfl) (aA h3))
theorem YL(n:Nat)(x L R s M sh u lo:Int)(vs o9 iB:ab)(s1 s2:St)(fC:(L+1==R)=false)(hM:(L+R).fdiv 2=M)(hs:cQ .Mult (M-L) s=some (.int sh))(hu:cQ .RShift x sh=some (.int u))
  (mu:(cQ .LShift u sh).bind (λy=>bj .BitXor (.int x) y)=some (.int lo)) (h1:ny (n+9) lo L M s vs=some s1) (k1:s1.loc.lookup ("a_digits":Str)=some (.list o9)) (l1:b_ o9=true)
  (h2:ny (n+8) u M R s o9=some s2) (k2:s2.loc.lookup ("a_digits":Str)=some (.list iB)) (l2:b_ iB=true):∃s3,ny (n+16) x L R s vs=some s3/\s3.loc.lookup ("a_digits":Str)=some (.list iB):=by
 refine⟨sG x L R s M sh u lo iB,?_,rfl⟩;subst hM;refine .trans (b:=(((ev (n+16)).B jF (gP x L R s vs []) (km.drop 0)).bind (eK ["a_digits"])).bind nh) ⋯ ?_;have e0:(ev (n+15)).S jF (gP x L R s vs []) (au km 0)=some (.next,gP x L R s vs []):=
  (cK (v:=.bool false) (aE:=gP x L R s vs []) (c:=false) ⋯ (aY (.trans (b:=some (.bool (L+1==R))) ⋯ (by rw[fC])) rfl) rfl).trans ⋯
 have e1:(ev (n+14)).S jF (gP x L R s vs []) (au km 1)=some (.next,gP x L R s vs [("mid",.int ((L+R).fdiv 2))]):=⋯
 have e2:(ev (n+13)).S jF (gP x L R s vs [("mid",.int ((L+R).fdiv 2))]) (au km 2)=some (.next,gP x L R s vs [("mid",.int ((L+R).fdiv 2)),("shift",.int sh)]):=
  (dr (x:="shift") ⋯ ⋯ (aY (.trans ⋯ hs) rfl)).trans ⋯
 have e3:(ev (n+12)).S jF (gP x L R s vs [("mid",.int ((L+R).fdiv 2)),("shift",.int sh)]) (au km 3)=some (.next,gP x L R s vs [("mid",.int ((L+R).fdiv 2)),("shift",.int sh),("upper",.int u)]):=
  (dr (x:="upper") ⋯ ⋯ (aY (.trans ⋯ hu) rfl)).trans ⋯
 have e4:(ev (n+11)).S jF (gP x L R s vs [("mid",.int ((L+R).fdiv 2)),("shift",.int sh),("upper",.int u)]) (au km 4)=some (.next,sG x L R s ((L+R).fdiv 2) sh u lo vs):=
  (dr (x:="lower") ⋯ ⋯ (aY (.trans ⋯ mu) rfl)).trans ⋯
 have e5:(ev (n+10)).S jF (sG x L R s ((L+R).fdiv 2) sh u lo vs) (au km 5)=some (.next,sG x L R s ((L+R).fdiv 2) sh u lo o9):=
  .trans ⋯ (EC h1 k1 l1 (st:=sG x L R s ((L+R).fdiv 2) sh u lo vs))
 have e6:(ev (n+9)).S jF (sG x L R s ((L+R).fdiv 2) sh u lo o9) (au km 6)=some (.next,sG x L R s ((L+R).fdiv 2) sh u lo iB):=
  .trans ⋯ (EC h2 k2 l2 (st:=sG x L R s ((L+R).fdiv 2) sh u lo o9))
 rw[bf 0 ⋯ e0,bf 1 ⋯ e1,bf 2 ⋯ e2,bf 3 ⋯ e3,bf 4 ⋯ e4,bf 5 ⋯ e5,bf 6 ⋯ e6];kernel_rfl
theorem KA(h:k<=30):2^k<=1073741824:=Dm (by decide) h
theorem Md(n s x L:Nat)(vs:ab)(hR:L+1<=vs.length)(fX:L+1<=10)(hx:x<2^(s*(L+1-L))):
  ∃s2,ny (n+8) x L ((L+1:Nat):Int) s vs=some s2/\s2.loc.lookup ("a_digits":Str)=some (.list (vs.take L++gk s x (L+1-L)++vs.drop (L+1))):=by
 refine⟨_,Vz n x L s vs (cz L) hR (eP.mpr (aD (th fX) (by decide))),?_⟩;show some (PV.list (vs.set (L:Int).toNat (.int x)))=_;rw[Q8]at hx⊢;rw[xB]at hx;rw[show gk s x 1=[.int x] by show[PV.int ((x%2^s:Nat):Int)]=_;rw[agz hx],ip,List.set_eq_take_append_cons_drop,aA (show L<vs.length from hR),gE];rfl
theorem Nf{L R M:Nat}(h:L<R)(h1:¬R=L+1)(hm:(L+R)/2=M):L<M/\M<R:=by subst hm;exact⟨(Rf (by decide)).mpr (JI (L+1)▸gH L 1 (L+1)▸oe (jt 1 (L+1)▸agj h (lP h1)) L),xe (DZ R▸Rj h R)⟩
theorem Le{L R M:Nat}(hm:(L+R)/2=M)(h:R-L<=k*2):M-L<=k/\R-M<=k:=by
 have h:=IP.mp h;subst hm;constructor
 ·refine IP.mpr (Nat.div_le_of_le_mul (aD (oe h L) (ej ?_)));rw[oh,DZ L,tv k,Dx]
 ·refine afP.mpr (IP.mp ((Rf (by decide)).mpr ?_));rw[Nat.sub_mul,JI];exact IP.mpr (aD (oe h R) (ej (by rw[jt L R,gH,jt (k*2)])))
theorem Us(n d):n+8+8*(d+1)=n+8*(d+1)+8:=jq ..
theorem Me(n d):n+8+8*(d+1)=n+8*d+16:=(jq ..).trans (gH (n+8*d) 8 8)
theorem J_(h:L<R)(h1:R-L<=1):R=L+1:=DF (afP.mp h1) h
theorem E5{L R M:Nat}(hm:(L+R)/2=M):((L:Int)+R).fdiv 2=M:=(pp _ (by decide)).trans (aR At hm)
theorem Ng{L R:Nat}(h:¬R=L+1):((L:Int)+1==R)=false:=dq λq=>h (Jt q).symm
theorem YM(d n s x L R:Nat)(vs:ab)(hs:s<=3)(zm:L<R)(hR:R<=vs.length)(fX:R<=10)(hd:R-L<=2^d)(hx:x<2^(s*(R-L)))(hn:b_ vs=true):
  ∃s2,ny (n+8+8*d) x L R s vs=some s2/\s2.loc.lookup ("a_digits":Str)=some (.list (vs.take L++gk s x (R-L)++vs.drop R)):=by
 induction d generalizing n x L R vs with
 |zero=>obtain rfl:=J_ zm hd;exact Md n s x L vs hR fX hx
 |succ d ih=>
  by_cases h1:R=L+1
  ·subst h1;rw[Us];exact Md (n+8*(d+1)) s x L vs hR fX hx
  ·generalize hm:(L+R)/2=M;refine oA (Nf zm h1 hm) λmw mx=>oA (Le hm (hd:R-L<=2^d*2)) λzk hd2=>?_;have wt:=aD (cG mx) fX;have wR:=aD (cG mx) hR;have Ig:s*(M-L)<=30:=Ai hs (aD (i_ ..) wt);have my:s*(R-L)<=30:=Ai hs (aD (i_ ..) fX);have O7:=(jt ..).trans (Q_ (cG mx) (cG mw));have hpp:2^(s*(R-L))=2^(s*(M-L))*2^(s*(R-M)):=by rw[<-O7,oh,D0]
   have H2:x/2^(s*(M-L))<=x:=Jr ..;refine br (ih (n+1) (x%2^(s*(M-L))) L M vs mw wR wt zk (mP _ (RL _)) hn) λs1 a1 b1=>?_;have CV:(vs.take L++gk s (x%2^(s*(M-L))) (M-L)).length=M:=by refine ao (cb ..) ?_;rw[mK,Vx,iq (aD (cG mw) wR),kK (cG mw)]
   have CW:=AD (AD (JX hn L) (AM s (M-L) (x%2^(s*(M-L)))).2) (JY hn M);obtain⟨s2,a2,b2⟩:=ih n (x/2^(s*(M-L))) M R (vs.take L++gk s (x%2^(s*(M-L))) (M-L)++vs.drop M) mx (by rw[cb,CV,jR,kK wR];exact hR) fX hd2 (xe (hpp▸hx)) CW;obtain⟨s3,a3,b3⟩:=YL (n+8*d) x L R s M ((s*(M-L):Nat):Int) ((x/2^(s*(M-L)):Nat):Int) ((x%2^(s*(M-L)):Nat):Int) vs _ _ s1 s2
    (Ng h1) (E5 hm)
    ((lW (ib ⟨cD (by decide) (Do (eP.mpr (cG mw))),cD (Js _ (cz L)) (cD (eP.mpr wt) (by decide))⟩) (nb (aD hs (by decide)))).trans (by rw[RU,rm,ro (cG mw)]))
    ((YK (cz _)).trans (by rw[ip,pp _ (kM (Int.pow_pos (by decide)))];congr 2))
    (by
     rw[Go (nb (aD H2 (cG (cZ hx (aD (KA my) (by decide)))))) ⟨cz _,eP.mpr (aD Ig (by decide))⟩,ip];rw[<-WZ];congr 3)
    ((aR (ny · _ _ _ _ _) ((jq (n+1) 8 (8*d)).trans (aR (· +8) (jq n 1 (8*d))))).symm.trans a1) b1 CW ((aR (ny · _ _ _ _ _) (jq n 8 (8*d))).symm.trans a2) b2 (AD (AD (JX CW M) (AM s (R-M) (x/2^(s*(M-L)))).2) (JY CW R))
   refine⟨s3,Me n d▸a3,b3.trans ?_⟩;congr 2;rw[List.take_left' CV,List.drop_append,afO (aD (ej CV) (cG mx)),rj,CV,DJ,kK (cG mx),gE (vs.take L),Vy,O7]
theorem VA{p:PV->Bool}{a:PV}(h:p a=true)(k):(dK [a] k).all p=true:=by
 induction k with
 |zero=>rfl
 |succ k ih=>exact gq h ih
theorem A0(a:α)(k):(dK [a] k).length=k:=by
 induction k with
 |zero=>rfl
 |succ k ih=>exact aR (· +1) ih
theorem To{a:PV}(h:dS a=true)(k):b_ (dK [a] k)=true:=by
 induction k with
 |zero=>rfl
 |succ k ih=>exact gq h ih
def mz(a s:Int)(r:Loc)(own:af):St:=⟨[(("a":Str),PV.int a),("n",.int s)]++r,own,[]⟩
theorem aax(n a s k:Nat)(hs:1<=s/\s<=3)(hk:(lG (a:Int)+s-1)/s=k)(fX:k<=10)(ha:a<2^(s*k)):(ev (n+59)).C "_int2digits" [.int a,.int s] []=some (.list (gk s a k)):=by
 have e0:(ev (n+57)).S (D "_int2digits").scope (mz a s [] []) (au wQ 0)=some (.next,mz a s [("a_digits",.list (dK [.int 0] k))] ["a_digits"]):=by
  refine(Ma (x:="a_digits") (vs:=dK [.int 0] k) ⋯ ⋯ (.trans (b:=(cQ .FloorDiv ((lG (a:Int):Int)+s-1) s).bind λy=>bj .Mult (.list [.int 0]) y) ⋯ ?_) (VA rfl k)).trans ⋯;rw[BQ ⟨eP.mpr hs.1,cD (eP.mpr hs.2) (by decide)⟩];have :((lG (a:Int):Int)+s-1).fdiv s=k:=by refine ao (pp _ (cz s)) ?_;rw[<-hk,Jn,ro (aD hs.1 (Ae ..)),fg];rfl
  rw[this];exact Mc (aD fX (by decide))
 have e1:(ev (n+56)).S (D "_int2digits").scope (mz a s [("a_digits",.list (dK [.int 0] k))] ["a_digits"]) (au wQ 1)=some (.next,mz a s [("a_digits",.list (dK [.int 0] k)),("inner",qw)] ["a_digits"]):=⋯
 have e2:(ev (n+55)).S (D "_int2digits").scope (mz a s [("a_digits",.list (dK [.int 0] k)),("inner",qw)] ["a_digits"]) (au wQ 2)=some (.next,mz a s [("a_digits",.list (gk s a k)),("inner",qw)] ["a_digits"]):=by
  refine(cK (v:=.int a) ⋯ (aY ⋯ rfl) rfl).trans ?_;by_cases h0:a=0
  ·subst h0;have :k=0:=by refine ao (aT hk) ?_;show(0+s-1)/s=0;exact Jm (by rw[i8];exact D3 hs.1 RX)
   subst this;kernel_rfl
  ·rw[show((a:Int)==0)=false from dq λq=>h0 (Jt q)];have hk0:0<k:=by
    rcases Nat.eq_zero_or_pos k with h|h
    ·rw[h,xw,JC]at ha;exact bx (agN.mp ha) h0
    ·exact h
   obtain⟨s2,a2,b2⟩:=YM 4 (n+12) s a 0 k (dK [.int 0] k) hs.2 hk0 (by rw[A0];exact eI _) fX (aD fX (by decide)) (by rw[An];exact ha) (To rfl k);replace a2:ny (n+52) _ _ _ _ _=_:=a2;rw[agH,rj,An,afO (by rw[A0];exact eI _),gW]at b2;have hl:bo (dK [PV.int 0] k).length=true:=by rw[A0];exact bh (aD fX (by decide))
   refine(bf (aE:=mz a s [("a_digits",.list (gk s a k)),("inner",qw)] ["a_digits"]) 0 ⋯ ?_).trans ⋯;refine(YH (f:="inner") (a:=wP yT) (b:=km) (fs:=jF) ⋯ ⋯ ⋯ (.trans (b:=((((if bo (dK [PV.int 0] k).length then some (PV.int ((dK [PV.int 0] k).length:Nat))else none).bind λv=>some [v]).map (PV.int 0:: ·)).map (PV.int a:: ·))) ⋯ (by rw[hl,A0];rfl))).trans ?_;exact .trans ⋯ ((EC a2 b2 (AM s k a).2 (st:=mz a s [("a_digits",.list (dK [.int 0] k)),("inner",qw)] ["a_digits"])).trans ⋯)
 have e3:(ev (n+54)).S (D "_int2digits").scope (mz a s [("a_digits",.list (gk s a k)),("inner",qw)] ["a_digits"]) (au wQ 3)=some (.ret (.list (gk s a k)),mz a s [("a_digits",.list (gk s a k)),("inner",qw)] []):=
  gu ⋯ (tM ⋯ ⋯ rfl ⋯ (AM s k a).2)
 refine .trans (b:=(((ev (n+58)).B (D "_int2digits").scope (mz a s [] []) (wQ.drop 0)).bind (eK [])).map (·.1)) ⋯ (fi (st:=mz a s [("a_digits",.list (gk s a k)),("inner",qw)] []) ?_ rfl);refine ao (bf 0 ⋯ e0) ?_;rw[bf 1 ⋯ e1,bf 2 ⋯ e2,de 3 ⋯ e3]
end
def eR(s:Nat):aa->Nat
 |[]=>0
 |d::r=>d+2^s*eR s r
theorem VB(s)(a b):eR s (a++b)=eR s a+2^(s*a.length)*eR s b:=by
 induction a with
 |nil=>rw[rj,Ac,xw,JC,JH];exact(i8 _).symm
 |cons d a ih=>show d+2^s*eR s (a++b)=d+2^s*eR s a+2^(s*(a.length+1))*eR s b;rw[ih,oh,oh,xB,D0,tv (2^(s*a.length)) (2^s),Nat.mul_assoc,gH]
theorem W0(s)(a)(h:∀d∈a,d<2^s):eR s a<2^(s*a.length):=by
 induction a with
 |nil=>exact RL _
 |cons d a ih=>show d+2^s*eR s a<2^(s*(a.length+1));rw[oh,xB,D0,tv (2^(s*a.length))];exact cZ (Rj (h d (ch ..)) _) (aD (ej (jt ..)) (IX _ (ih λx hx=>h x (cf _ hx))))
def ap(l:aa):ab:=l.map λ(d:Nat)=>PV.int (d:Int)
theorem hH(l:aa):b_ (ap l)=true:=by
 induction l with
 |nil=>rfl
 |cons _ l ih=>exact ih
def zn:ad:=(D "_digits2int").body
def dF:Stmt:=au zn 0
def dB:ad:=bd dF
def dC:PV:=.gc (wP dF) dB (mr dF)
def dL(L R s:Int)(vs:ab)(r:Loc):St:=⟨[(("L":Str),PV.int L),("R",.int R),("digits",.list vs),("n",.int s),("inner",dC)]++r,[],[]⟩
def dR(n:Nat)(L R s:Int)(vs:ab):ag:=(iR (ev n) ⟨wP dF,dB,mr dF⟩ (dL L R s vs []).loc []).map (·.1)
theorem Nh(n)(L s v)(vs)(hL:0<=L/\L<=1000)(hl:b0 vs L=some (.int v)):dR (n+9) L (L+1) s vs=some (.int v):=by
 have e1:(ev (n+6)).S (mr dF) (dL L (L+1) s vs []) (au (dW (au dB 0)) 0)=some (.ret (.int v),dL L (L+1) s vs []):=
  gu ⋯ (aY (.trans (b:=if bJ L then b0 vs L else none) ⋯ ((aA (O6 ⟨cD (by decide) hL.1,cD hL.2 (by decide)⟩)).trans hl)) rfl)
 have e2:(ev (n+8)).S (mr dF) (dL L (L+1) s vs []) (au dB 0)=some (.ret (.int v),dL L (L+1) s vs []):=by refine(cK ⋯ (aY (.trans (b:=some (.bool (L+1==L+1))) ⋯ (by rw[beq_self_eq_true])) rfl) rfl).trans ?_;exact de 0 ⋯ e1
 exact .trans (b:=(((ev (n+9)).B (mr dF) (dL L (L+1) s vs []) (dB.drop 0)).bind (eK [])).map (·.1)) ⋯ (fi (de 0 ⋯ e2) rfl)
theorem acf(n)(L R s M sh u lo v)(vs)(fC:(L+1==R)=false)(hM:(L+R).fdiv 2=M)(hs:cQ .Mult (M-L) s=some (.int sh))(h1:dR (n+8) M R s vs=some (.int u))(h2:dR (n+9) L M s vs=some (.int lo))
  (hv:(cQ .LShift u sh).bind (λx=>bj .Add x (.int lo))=some (.int v)):dR (n+16) L R s vs=some (.int v):=by
 subst hM;have e0:(ev (n+15)).S (mr dF) (dL L R s vs []) (au dB 0)=some (.next,dL L R s vs []):=
  (cK (v:=.bool false) ⋯ (aY (.trans (b:=some (.bool (L+1==R))) ⋯ (by rw[fC])) rfl) rfl).trans ⋯
 have e1:(ev (n+14)).S (mr dF) (dL L R s vs []) (au dB 1)=some (.next,dL L R s vs [("mid",.int ((L+R).fdiv 2))]):=⋯
 have e2:(ev (n+13)).S (mr dF) (dL L R s vs [("mid",.int ((L+R).fdiv 2))]) (au dB 2)=some (.next,dL L R s vs [("mid",.int ((L+R).fdiv 2)),("shift",.int sh)]):=
  (dr (x:="shift") ⋯ ⋯ (aY (.trans ⋯ hs) rfl)).trans ⋯
 have e3:(ev (n+12)).S (mr dF) (dL L R s vs [("mid",.int ((L+R).fdiv 2)),("shift",.int sh)]) (au dB 3)=some (.ret (.int v),dL L R s vs [("mid",.int ((L+R).fdiv 2)),("shift",.int sh)]):=by refine gu ⋯ (aY (.trans (b:=(((dR (n+8) ((L+R).fdiv 2) R s vs).bind λx=>(some (PV.int sh)).bind λy=>bj .LShift x y)).bind λx=>(dR (n+9) L ((L+R).fdiv 2) s vs).bind λy=>bj .Add x y) ⋯ ?_) rfl);rw[h1,h2];exact hv
 refine .trans (b:=(((ev (n+16)).B (mr dF) (dL L R s vs []) (dB.drop 0)).bind (eK [])).map (·.1)) ⋯ (fi (st:=dL L R s vs [("mid",.int ((L+R).fdiv 2)),("shift",.int sh)]) ?_ rfl);refine ao (bf 0 ⋯ e0) ?_;rw[bf 1 ⋯ e1,bf 2 ⋯ e2,de 3 ⋯ e3]
theorem Be{vs:aa}{L:Nat}(h:L<vs.length):b0 (ap vs) L=some (.int (vs[L]:Int)):=by refine(aA (cz L)).trans ?_;rw[ip];delta ap;refine ao i7 ?_;rw[gU h];rfl
theorem Mf{vs:aa}{L:Nat}(h:L<vs.length):(vs.drop L).take (L+1-L)=[vs[L]]:=by rw[Q8,afC h];rfl
theorem acg(d n s L R:Nat)(vs:aa)(hs:s<=3)(zm:L<R)(hR:R<=vs.length)(fX:R<=10)(hd:R-L<=2^d)(hx:∀x∈vs,x<2^s):dR (n+9+8*d) L R s (ap vs)=some (.int (eR s ((vs.drop L).take (R-L)))):=by
 have BR:(R:Int)<=1000:=eP.mpr (aD fX (by decide));induction d generalizing n L R with
 |zero=>obtain rfl:=J_ zm hd;rw[Mf hR];exact Nh n L s _ (ap vs) ⟨cz L,cD (eP.mpr (dX L)) BR⟩ (Be hR)
 |succ d ih=>
  by_cases h1:R=L+1
  ·subst h1;rw[Mf hR,show n+9+8*(d+1)=n+8*(d+1)+9 from jq ..];exact Nh _ L s _ (ap vs) ⟨cz L,cD (eP.mpr (dX L)) BR⟩ (Be hR)
  ·generalize hm:(L+R)/2=M;refine oA (Nf zm h1 hm) λmw mx=>oA (Le hm (hd:R-L<=2^d*2)) λzk hd2=>?_;have wt:=aD (cG mx) fX;have wR:=aD (cG mx) hR;have Qd:=cD (eP.mpr (cG mx)) BR;have i1:=ih n M R mx hR fX hd2 BR;have i2:=ih (n+1) L M mw wR wt zk Qd;have Ig:s*(M-L)<=30:=Ai hs (aD (i_ ..) wt);have Hf:(vs.drop L).take (R-L)=(vs.drop L).take (M-L)++(vs.drop M).take (R-M):=by rw[<-Q_ (cG mx) (cG mw),jt,agO,DJ,kK (cG mw)]
   have hlen:=mK.trans (iq (aD (z0 wR L) (ej (jR ..).symm)));have qB:=W0 s ((vs.drop M).take (R-M)) λx h=>hx x (zZ (sZ h));have hb:=KA (k:=s*((vs.drop M).take (R-M)).length) (Ai hs (aD (ta ..) (aD (i_ ..) fX)));rw[Hf,VB,hlen];generalize eR s ((vs.drop M).take (R-M))=u at *;generalize eR s ((vs.drop L).take (M-L))=lo at *;refine(aR (dR · _ _ _ _) (show n+9+8*(d+1)=n+8*d+1+16 from(jq n 9 (8*(d+1))).trans rfl)).trans (acf (n+8*d+1) L R s M ((s*(M-L):Nat):Int) u lo _ (ap vs) (Ng h1) (E5 hm)
    ((lW (ib ⟨cD (by decide) (Do (eP.mpr (cG mw))),cD (Js _ (cz L)) (cD Qd (by decide))⟩) (nb (aD hs (by decide)))).trans (by rw[RU,rm,ro (cG mw)]))
    ((aR (dR · _ _ _ _) (jq n 9 (8*d))).symm.trans i1) ((aR (dR · _ _ _ _) ((jq (n+1) 9 (8*d)).trans (aR (· +9) (jq n 1 (8*d))))).symm.trans i2) ?_)
   rw[Go (nb (aD (cG (cZ qB hb)) (by decide))) ⟨cz _,eP.mpr (aD Ig (by decide))⟩,ip];show some (PV.int (_+_))=_;congr 2;refine ao (fg ..) ?_;rw[rm,agL,DW,RU];rfl
def zo(s:Int)(vs:ab)(r:Loc):St:=⟨[(("digits":Str),PV.list vs),("n",.int s)]++r,[],[]⟩
theorem aay(n s:Nat)(vs:aa)(hs:s<=3)(fX:vs.length<=10)(hx:∀x∈vs,x<2^s):(ev (n+60)).C "_digits2int" [.list (ap vs),.int s] []=some (.int (eR s vs)):=by
 have hl:(ap vs).length=vs.length:=ba ..;have e0:(ev (n+58)).S (D "_digits2int").scope (zo s (ap vs) []) (au zn 0)=some (.next,zo s (ap vs) [("inner",dC)]):=⋯
 have e1:(ev (n+57)).S (D "_digits2int").scope (zo s (ap vs) [("inner",dC)]) (au zn 1)=some (.ret (.int (eR s vs)),zo s (ap vs) [("inner",dC)]):=by
  induction vs with
  |nil=>kernel_rfl
  |cons x r=>have hd:=acg 4 (n+13) s 0 (x::r).length (x::r) hs (RS _) (eI _) fX (by lia) hx;rw[Jv,An,List.take_length,show n+13+9+8*4=n+54 by exact Me (n+14) 3]at hd;refine gu ⋯ (aY ((yS (v:=.list (ap (x::r))) ⋯ ⋯ (.trans (b:=if decide ((ap (x::r)).length<=1000000)then some true else none) ⋯ (by rw[hl,bh (by lia)];rfl))).trans ?_) rfl);refine(YI (q:=("inner",(bK (Qc (aX (au zn 1)))).get!.2)) (c:=(wP dF,dB,mr dF)) (vs:=[.int 0,.int (x::r).length]) ⋯ ⋯ ⋯ ?_).trans (.trans ⋯ hd);exact .trans (b:=((if bo (ap (x::r)).length then some (PV.int ((ap (x::r)).length:Nat))else none).bind λv=>some [v]).map (PV.int 0:: ·)) ⋯ (by rw[hl,show bo (x::r).length=true from bh (by lia)];rfl)
 exact .trans (b:=(((ev (n+59)).B (D "_digits2int").scope (zo s (ap vs) []) (zn.drop 0)).bind (eK [])).map (·.1)) ⋯ (fi ((bf 0 ⋯ e0).trans (de 1 ⋯ e1)) rfl)
theorem aaz(n)(a b s)(ha:(lG a:Int)-s<=4000)(hb:1<=b/\b<=1000000000):(ev (n+12)).C "_div2n1n" [.int a,.int b,.int s] []=some (.tup [.int (a.fdiv b),.int (a.fmod b)]):=by
 have e0:(ev (n+10)).S (D "_div2n1n").scope (bC [("a",.int a),("b",.int b),("n",.int s)]) (au (D "_div2n1n").body 0)=some (.ret (.tup [.int (a.fdiv b),.int (a.fmod b)]),bC [("a",.int a),("b",.int b),("n",.int s)]):=by refine(cK (v:=.bool (decide ((lG a:Int)-s<=4000))) ⋯ (aY ⋯ rfl) (by rw[bh ha];rfl)).trans ?_;refine de 0 ⋯ (gu ⋯ (aY (.trans (b:=if decide (b=0)||decide (1000000000<b.natAbs)then none else some (.tup [.int (a.fdiv b),.int (a.fmod b)])) ⋯ (by rw[cA (by omega),cA (by omega)];rfl)) rfl))
 exact .trans (b:=(((ev (n+11)).B (D "_div2n1n").scope (bC [("a",.int a),("b",.int b),("n",.int s)]) ((D "_div2n1n").body.drop 0)).bind (eK [])).map (·.1)) ⋯ (fi (de 0 ⋯ e0) rfl)
def uj(s x:Nat):Nat->aa
 |0=>[]
 |k+1=>x%2^s::uj s (x/2^s) k
theorem VC(s):(k x:Nat)->gk s x k=ap (uj s x k):=by
 intro k;induction k with
 |zero=>exact λz=>rfl
 |succ k ih=>exact λx=>aR (PV.int ((x%2^s:Nat):Int):: ·) (ih (x/2^s))
theorem Ut(s):(k x:Nat)->(uj s x k).length=k:=by
 intro k;induction k with
 |zero=>exact λz=>rfl
 |succ k ih=>exact λx=>aR (· +1) (ih (x/2^s))
theorem Lf(s):(k x:Nat)->∀d∈uj s x k,d<2^s
 |0,_,_,h=>nomatch h
 |k+1,x,d,h=>by
  rcases cc.mp h with h|h
  ·rw[h];exact mP _ (RL _)
  ·exact Lf s k _ d h
theorem Uu(s):(k x:Nat)->x<2^(s*k)->eR s (uj s x k)=x:=by
 intro k;induction k with
 |zero=>intro x h;rw[xw,JC]at h;show 0=x;lia
 |succ k ih=>intro x h;rw[oh,xB,jt,D0]at h;show x%2^s+2^s*eR s (uj s (x/2^s) k)=x;rw[ih _ (xe h),agG]
def qL(B b:Nat)(a:Nat×aa)(d:Nat):Nat×aa:=((a.1*B+d)%b,a.2++[(a.1*B+d)/b])
theorem aaA(s b)(hb:0<b)(hB:b<=2^s):(ds:aa)->(∀d∈ds,d<2^s)->eR s ds=b*eR s (ds.reverse.foldl (qL (2^s) b) (0,[])).2.reverse+(ds.reverse.foldl (qL (2^s) b) (0,[])).1/\(ds.reverse.foldl (qL (2^s) b) (0,[])).1<b
  /\(∀q∈(ds.reverse.foldl (qL (2^s) b) (0,[])).2.reverse,q<2^s)/\(ds.reverse.foldl (qL (2^s) b) (0,[])).2.reverse.length=ds.length:=by
 intro ds;induction ds with
 |nil=>exact λz=>⟨rfl,hb,λz h=>(nomatch h),rfl⟩
 |cons d ds lA=>
  intro h;have ih:=lA λx hx=>h x (cf _ hx);have hd:=h d (ch ..);rw[Rq,xg];generalize ds.reverse.foldl (qL (2^s) b) (0,[])=a at ih⊢;refine v_ ih λi1 i2 i3 i4=>?_;show d+2^s*eR s ds=b*eR s (a.2++[(a.1*2^s+d)/b]).reverse+(a.1*2^s+d)%b/\(a.1*2^s+d)%b<b/\(∀q∈(a.2++[(a.1*2^s+d)/b]).reverse,q<2^s)/\(a.2++[(a.1*2^s+d)/b]).reverse.length=ds.length+1;rw[List.reverse_append];refine⟨?_,mP _ hb,?_,?_⟩
  ·show d+2^s*eR s ds=b*((a.1*2^s+d)/b+2^s*eR s a.2.reverse)+(a.1*2^s+d)%b;have :=RM (a.1*2^s+d) b;rw[i1,oh b,oh (2^s),Nat.mul_left_comm b,tv a.1]at *;lia
  ·intro q hq;rcases cc.mp hq with hq|hq
   ·rw[hq];refine xe ?_;have :(a.1+1)*2^s<=b*2^s:=s_ _ i2;rw[RY]at this;lia
   ·exact i3 q hq
  ·exact aR (· +1) i4
theorem bits_le{a k:Nat}(h:a<2^k):lG (a:Int)<=k:=by
 unfold lG;by_cases h0:a=0
 ·subst h0;exact du _
 ·rw[aJ (by rw[beq_iff_eq];lia),agl];exact(Nat.log2_lt h0).mpr h
theorem Mg(a:Nat):a<2^lG (a:Int):=by
 unfold lG;by_cases h0:a=0
 ·subst h0;decide
 ·rw[aJ (by rw[beq_iff_eq];lia),agl];exact Nat.lt_log2_self
def iC:ad:=(D "_divmod_pos").body
def jn:aH:=(D "_divmod_pos").scope
def iX(a b s:Int)(r:Loc)(own:af):St:=⟨[(("a":Str),PV.int a),("b",.int b),("n",.int s)]++r,own,[]⟩
def iY(a b s:Int)(ds:ab)(c:(Nat×aa)×Loc):St:=iX a b s ([(("a_digits":Str),PV.list ds),("r",.int c.1.1),("q_digits",.list (ap c.1.2))]++c.2) ["q_digits"]
def o_(d q:Nat):Loc:=[(("a_digit":Str),PV.int d),("q_digit",.int q)]
def uW(B b:Nat)(c:(Nat×aa)×Loc)(d:Nat):(Nat×aa)×Loc:=(qL B b c.1 d,o_ d ((c.1.1*B+d)/b))
theorem A1(a b:aa):ap (a++b)=ap a++ap b:=ei
theorem aaB(n a b s:Nat)(ds:ab)(c:(Nat×aa)×Loc)(d:Nat)(hb:1<=b/\b<=8)(hs:s<=3)(hd:d<8)(hq:c.1.2.length<=100)(h:c.1.1<b)(hc:c.2=[]\/∃x y,c.2=o_ x y):
  eN (ev (n+20)) jn (dH (au iC 4)) (bd (au iC 4)) (.int d) (iY a b s ds c)=some (.next,iY a b s ds (uW (2^s) b c d)):=by
 obtain⟨⟨r,qs⟩,l⟩:=c;have hr:r<b:=h;have CX:(ap qs).length<=100:=by rw[show(ap qs).length=qs.length from ba ..];exact hq
 have hp:2^s<=8:=Dm (n:=2) (by decide) hs;have Qe:r<=8:=aD (cG hr) hb.2;have hm:r*2^s<=8*8:=Ai Qe hp;have aaC:=bits_le (a:=r*2^s+d) (k:=10) (im (ir hm (cG hd)) (by decide));have key:∀l2:Loc,(l2=[(("a_digit":Str),PV.int d)]\/∃y,l2=o_ d y)->(ev (n+20)).B jn (iY a b s ds ((r,qs),l2)) ((bd (au iC 4)).drop 0)=some (.next,iY a b s ds (uW (2^s) b ((r,qs),l) d)):=by
  intro l2 cY;have ha:dG (ev (n+17)) jn (hide ["q_digits"] (iY a b s ds ((r,qs),l2)).loc) (bK (aX (au (bd (au iC 4)) 0))).get!.2.2.1=some [.int ((r*2^s+d:Nat):Int),.int b,.int s]:=by
   refine .trans (b:=((cQ .LShift (r:Int) (s:Int)).bind λx=>(some (PV.int d)).bind λy=>bj .Add x y).bind λv=>(some [PV.int b,.int s]).map (v:: ·)) ?_ ?_
   ·rcases cY with h|⟨y,h⟩<;>subst h<;>kernel_rfl
   ·rw[Go (nb (aD Qe (by decide))) ⟨cz s,eP.mpr (aD hs (by decide))⟩,ip];rw[fg,rm,agL];rfl
  have hE:(ev (n+18)).E jn (hide ["q_digits"] (iY a b s ds ((r,qs),l2)).loc) (aX (au (bd (au iC 4)) 0))=some (.tup [.int (((r*2^s+d)/b:Nat):Int),.int (((r*2^s+d)%b:Nat):Int)]):=by
   refine(fk (f:=.fn "_div2n1n") (kw:=[]) ⋯ ?_ ?_ ha ⋯).trans ?_
   ·rcases cY with h|⟨y,h⟩<;>subst h<;>kernel_rfl
   ·rcases cY with h|⟨y,h⟩<;>subst h<;>kernel_rfl
   ·refine .trans ⋯ ((aaz (n+5) _ b s (cD (Js _ (cz s)) (cD (eP.mpr aaC) (by decide))) ⟨eP.mpr hb.1,cD (eP.mpr hb.2) (by decide)⟩).trans ?_);rw[pp _ (cz b),kH _ (cz b),Jn,vp]
  have e0:(ev (n+19)).S jn (iY a b s ds ((r,qs),l2)) (au (bd (au iC 4)) 0)=some (.next,iX a b s ([(("a_digits":Str),PV.list ds),("r",.int ((r*2^s+d)%b:Nat)),("q_digits",.list (ap qs))]++o_ d ((r*2^s+d)/b)) ["q_digits"]):=by
   refine(kT (q:=(kl (au (bd (au iC 4)) 0)).get!) (aE:=iY a b s ds ((r,qs),l2)) (l:=(iX a b s ([(("a_digits":Str),PV.list ds),("r",.int ((r*2^s+d)%b:Nat)),("q_digits",.list (ap qs))]++o_ d ((r*2^s+d)/b)) []).loc) ⋯ ?_ ⋯ ⋯ (aY hE rfl) ?_).trans ⋯
   ·rcases cY with h|⟨y,h⟩<;>subst h<;>kernel_rfl
   ·rcases cY with h|⟨y,h⟩<;>subst h<;>kernel_rfl
  have e1:(ev (n+18)).S jn (iX a b s ([(("a_digits":Str),PV.list ds),("r",.int ((r*2^s+d)%b:Nat)),("q_digits",.list (ap qs))]++o_ d ((r*2^s+d)/b)) ["q_digits"]) (au (bd (au iC 4)) 1)=some (.next,iY a b s ds (uW (2^s) b ((r,qs),l) d)):=by refine .trans (b:=if bo (ap qs).length then some (bG.next,iX a b s ([(("a_digits":Str),PV.list ds),("r",.int ((r*2^s+d)%b:Nat)),("q_digits",.list (ap qs++[.int ((r*2^s+d)/b:Nat)]))]++o_ d ((r*2^s+d)/b)) ["q_digits"])else none) ⋯ ?_;rw[show bo (ap qs).length=true from bh (aD CX (by decide))];show _=some (bG.next,iX a b s ([(("a_digits":Str),PV.list ds),("r",.int ((r*2^s+d)%b:Nat)),("q_digits",.list (ap (qs++[(r*2^s+d)/b])))]++o_ d ((r*2^s+d)/b)) ["q_digits"]);rw[A1];rfl
  refine ao (bf 0 ⋯ e0) ?_;rw[bf 1 ⋯ e1];kernel_rfl
 rcases hc with h|⟨x,y,h⟩
 ·subst h;exact .trans ⋯ (key [(("a_digit":Str),.int d)] (.inl rfl))
 ·subst h;exact .trans ⋯ (key (o_ d y) (.inr ⟨y,rfl⟩))
theorem W1(B b:Nat)(ds:aa)(c:(Nat×aa)×Loc):(ds.foldl (uW B b) c).1=ds.foldl (qL B b) c.1:=by
 induction ds generalizing c with
 |nil=>rfl
 |cons d ds ih=>exact ih _
theorem aaD(n a b:Nat)(hb:2<=b/\b<=5)(ha:a<2^20):(ev (n+70)).C "_divmod_pos" [.int a,.int b] []=some (.tup [.int ((a/b:Nat):Int),.int ((a%b:Nat):Int)]):=by
 obtain⟨s,hs⟩:∃s,lG (b:Int)=s:=⟨_,rfl⟩;have wH:s<=3:=hs▸bits_le (k:=3) (im hb.2 (by decide));have Qf:b<2^s:=hs▸Mg b;have sH:2<=s:=jV.mp λh=>mL _ (im hb.1 (cZ Qf (Dm (n:=2) (by decide) (Rv h))));have zd:0<s:=cZ (by decide) sH;have qM:0<b:=cZ (by decide) hb.1;obtain⟨k,hk⟩:∃k,(lG (a:Int)+s-1)/s=k:=⟨_,rfl⟩;have hba:=bits_le ha;have Hg:k<=10:=by rw[<-hk];exact Rv (xe (cZ (D3 (ago _ zd) RX) (aD (lF hba s) (by rw[Nat.mul_succ];exact lF (s_ 10 sH) s))))
 have Qg:a<2^(s*k):=cZ (Mg a) (Dm (by decide) (by
  have h1:=af' (lG (a:Int)+s-1) zd;rw[hk,oh,xB]at h1;exact Nat.le_of_add_le_add_right (Nat.le_of_pred_lt h1)))
 have hp:2^s<=8:=Dm (by decide) wH;have Qh:=Lf s k a;have hlen:=Ut s k a;have ach:=Uu s k a Qg;have hi:=aax (n+6) a s k ⟨zd,wH⟩ hk Hg Qg;rw[VC]at hi;generalize uj s a k=ds at *;have Qi:=aaA s b qM (cG Qf) ds Qh;have e0:(ev (n+68)).S jn (bC [("a",.int a),("b",.int b)]) (au iC 0)=some (.next,iX a b s [] []):=by rw[<-hs];kernel_rfl
 have e1:(ev (n+67)).S jn (iX a b s [] []) (au iC 1)=some (.next,iX a b s [("a_digits",.list (ap ds))] []):=
  (dr (x:="a_digits") ⋯ ⋯ (aY (.trans (b:=(ev (n+65)).C "_int2digits" [.int a,.int s] []) ⋯ hi) (hH ds))).trans ⋯
 have e2:(ev (n+66)).S jn (iX a b s [("a_digits",.list (ap ds))] []) (au iC 2)=some (.next,iX a b s [("a_digits",.list (ap ds)),("r",.int 0)] []):=⋯
 have e3:(ev (n+65)).S jn (iX a b s [("a_digits",.list (ap ds)),("r",.int 0)] []) (au iC 3)=some (.next,iY a b s (ap ds) ((0,[]),[])):=⋯
 have fm:=oo (λd:Nat=>PV.int d) (uW (2^s) b) (iY a b s (ap ds)) (λk c=>c.1.1<b/\c.1.2.length+k<=100/\(c.2=[]\/∃x y,c.2=o_ x y)) ds.reverse ((0,[]),[]) ⟨qM,by rw[Rl,hlen];exact aD (ej (i8 k)) (aD Hg (by decide)),.inl rfl⟩
  λk c hc x hx=>⟨aaB (n+43) a b s (ap ds) c x ⟨qM,aD hb.2 (by decide)⟩ wH (cZ (Qh x (z'.mp hx)) hp) (aD (lK _ _) hc.2.1) hc.1 hc.2.2,mP _ qM,by show(c.1.2++[_]).length+k<=100;rw[cb,gH,jt [_].length];exact hc.2.1,.inr ⟨_,_,rfl⟩⟩
 have e4:(ev (n+64)).S jn (iY a b s (ap ds) ((0,[]),[])) (au iC 4)=some (.next,iY a b s (ap ds) (ds.reverse.foldl (uW (2^s) b) ((0,[]),[]))):=by refine(YJ (aE:=iY a b s (ap ds) ((0,[]),[])) (e:=(O5 jn (au iC 4)).get!) ⋯ (aY ⋯ (hH ds))).trans ?_;rw[show(ap ds).reverse=ds.reverse.map λd:Nat=>PV.int d from RA.symm];exact fm.1
 have hl:=fm.2.2.2;have hf:=W1 (2^s) b ds.reverse ((0,[]),[]);generalize ds.reverse.foldl (uW (2^s) b) ((0,[]),[])=c at e4 hl hf;obtain⟨⟨r,qs⟩,l⟩:=c;rw[show ds.reverse.foldl (qL (2^s) b) (0,[])=(r,qs) from hf.symm]at Qi;refine v_ Qi λl1 l2 l3 l4=>?_;have CX:qs.length<=10:=aD (ej ((Rl ..).symm.trans (l4.trans hlen))) Hg;have hd2:=aay n s qs.reverse wH (by rw[Rl];exact CX) l3;have eU:(ap qs).length=qs.length:=ba ..;have Qj:a/b=eR s qs.reverse/\a%b=r:=by
  have h1:a=r+b*eR s qs.reverse:=by refine ao (aT ach) ?_;rw[l1];exact jt ..
  have h2:r<b:=l2;constructor
  ·rw[h1,Nat.add_mul_div_left _ _ qM,Jm h2,i8]
  ·rw[h1,Nat.add_mul_mod_self_left,agz h2]
 rw[Qj.1,Qj.2];have e5:(ev (n+63)).S jn (iY a b s (ap ds) ((r,qs),l)) (au iC 5)=some (.next,iY a b s (ap ds) ((r,qs.reverse),l)):=by
  refine .trans (b:=if bo (ap qs).length then some (bG.next,iX a b s ([(("a_digits":Str),PV.list (ap ds)),("r",.int r),("q_digits",.list (ap qs).reverse)]++l) ["q_digits"])else none) ?_ ?_
  ·rcases hl with h|⟨x,y,h⟩<;>(dsimp only at h;subst h;kernel_rfl)
  ·rw[show bo (ap qs).length=true from bh (by rw[eU];exact aD CX (by decide)),show(ap qs).reverse=ap qs.reverse from RA.symm];rfl
 have e6:(ev (n+62)).S jn (iY a b s (ap ds) ((r,qs.reverse),l)) (au iC 6)=some (.next,iX a b s ([(("a_digits":Str),PV.list (ap ds)),("r",.int r),("q_digits",.list (ap qs.reverse))]++l++[(("q":Str),.int (eR s qs.reverse))]) ["q_digits"]):=by
  refine(dr (x:="q") ⋯ ⋯ (rD ?_ (.trans (b:=(ev (n+60)).C "_digits2int" [.list (ap qs.reverse),.int s] []) ?_ hd2) rfl)).trans ?_
  all_goals rcases hl with h|⟨x,y,h⟩<;>(dsimp only at h;subst h;kernel_rfl)
 have e7:(ev (n+61)).S jn (iX a b s ([(("a_digits":Str),PV.list (ap ds)),("r",.int r),("q_digits",.list (ap qs.reverse))]++l++[(("q":Str),.int (eR s qs.reverse))]) ["q_digits"]) (au iC 7)=some (.ret (.tup [.int (eR s qs.reverse),.int r]),iX a b s ([(("a_digits":Str),PV.list (ap ds)),("r",.int r),("q_digits",.list (ap qs.reverse))]++l++[(("q":Str),.int (eR s qs.reverse))]) ["q_digits"]):=by rcases hl with h|⟨x,y,h⟩<;>(dsimp only at h;subst h;kernel_rfl)
 refine .trans (b:=(((ev (n+69)).B jn (bC [("a",.int a),("b",.int b)]) (iC.drop 0)).bind (eK [])).map (·.1)) ⋯ (fi (st:=iX a b s ([(("a_digits":Str),PV.list (ap ds)),("r",.int r),("q_digits",.list (ap qs.reverse))]++l++[(("q":Str),.int (eR s qs.reverse))]) ["q_digits"]) ?_ rfl);refine ao (bf 0 ⋯ e0) ?_;rw[bf 1 ⋯ e1,bf 2 ⋯ e2,bf 3 ⋯ e3,bf 4 ⋯ e4,bf 5 ⋯ e5,bf 6 ⋯ e6,de 7 ⋯ e7]
def uX:aH:=(D "int_divmod").scope
def qN:ad:=(D "int_divmod").body
def iE(a b:Int)(r:Loc):St:=bC ([(("a":Str),PV.int a),("b",.int b)]++r)
def nX(s:Stmt):Stmt:=au (fD s) 0
theorem Gp(n:Nat)(a b:Int)(hb:(b==0)=false){v:PV}{st:St}(h:(ev (n+4)).S uX (iE a b []) (nX (au qN 0))=some (.ret v,st))(ho:pP [] st=true):(ev (n+8)).C "int_divmod" [.int a,.int b] []=some v:=by
 have e0:(ev (n+6)).S uX (iE a b []) (au qN 0)=some (.ret v,st):=by refine(cK (v:=.bool (b==0)) ⋯ (aY ⋯ rfl) (by rw[hb];rfl)).trans ?_;exact .trans ⋯ (de 0 ⋯ h)
 exact .trans ⋯ (fi (de 0 ⋯ e0) ho)
theorem nz{b:Int}(h:b≠0):(b==0)=false:=dq h
theorem Ni(n a b:Nat)(hb:2<=b/\b<=5)(ha:a<2^20):(ev (n+80)).C "int_divmod" [.int a,.int b] []=some (.tup [.int ((a/b:Nat):Int),.int ((a%b:Nat):Int)]):=by refine Gp (n+72) a b (nz (Ap (gI.mpr (cZ (by decide) hb.1)))) (st:=iE a b []) ?_ rfl;refine(cK (v:=.bool (decide ((b:Int)<0))) (aE:=iE a b []) (c:=false) ⋯ (aY ⋯ rfl) (by rw[cA (pE.mpr (cz b))];rfl)).trans ?_;refine .trans (b:=(ev (n+75)).B uX (iE a b []) ((fD (nX (au qN 0))).drop 0)) ⋯ (de 0 ⋯ ?_);refine(cK (v:=.bool (decide ((a:Int)<0))) (aE:=iE a b []) ⋯ (aY ⋯ rfl) (by rw[cA (pE.mpr (cz a))];rfl)).trans ?_;refine .trans (b:=(ev (n+73)).B uX (iE a b []) ((fD (nX (nX (au qN 0)))).drop 0)) ⋯ (de 0 ⋯ (gu ⋯ (aY (.trans (b:=(ev (n+70)).C "_divmod_pos" [.int a,.int b] []) ⋯ (aaD n a b hb ha)) rfl)))
theorem Mh(x b:Nat)(hb:0<b):(-(x:Int)-1)/(b:Int)= -(((x/b:Nat):Int))-1/\(-(x:Int)-1)%(b:Int)=b+(-((x%b:Nat):Int)-1):=by
 have h2:=gI.mpr (mP x hb);have h3: -(x:Int)-1=(b+(-((x%b:Nat):Int)-1))+b*(-(((x/b:Nat):Int))-1):=by have :(x:Int)=b*(x/b:Nat)+(x%b:Nat):=aR At (RM x b).symm;generalize ((x/b:Nat):Int)=q at *;generalize ((x%b:Nat):Int)=r at *;rw[R3,aha,this];lia
 have h4:0<=(b:Int)+(-((x%b:Nat):Int)-1):=by lia
 have h5:(b:Int)+(-((x%b:Nat):Int)-1)<b:=by lia
 constructor
 ·rw[h3,Int.add_mul_ediv_left _ _ (Ap (gI.mpr hb)),Int.ediv_eq_zero_of_lt h4 h5,Ao]
 ·rw[h3,IJ,agu h4 h5]
theorem Oh(n:Nat)(a:Int)(b:Nat)(hb:2<=b/\b<=5)(ha: -(2^20)<=a/\a<2^20):(ev (n+90)).C "int_divmod" [.int a,.int b] []=some (.tup [.int (a.fdiv b),.int (a.fmod b)]):=by
 have qM:0<b:=cZ (by decide) hb.1;rw[pp _ (cz b),kH _ (cz b)];induction a with
 |ofNat x=>exact Ni (n+10) x b hb (gI.mp ha.2)
 |negSucc x=>
  have e:ag' x= -(x:Int)-1:=(Int.negSucc_eq x).trans R2;have hx:x<2^20:=gI.mp (by lia);rw[e,(Mh x b qM).1,(Mh x b qM).2];refine Gp (n+82) (-(x:Int)-1) b (nz (Ap (gI.mpr qM))) (st:=iE (-(x:Int)-1) b [("q",.int ((x/b:Nat):Int)),("r",.int ((x%b:Nat):Int))]) ?_ rfl;refine(cK (v:=.bool (decide ((b:Int)<0))) ⋯ (aY ⋯ rfl) (by rw[cA (pE.mpr (cz b))];rfl)).trans ?_;refine .trans (b:=(ev (n+85)).B uX (iE (-(x:Int)-1) b []) ((fD (nX (au qN 0))).drop 0)) ⋯ (de 0 ⋯ ?_);refine(cK (v:=.bool (decide (-(x:Int)-1<0))) ⋯ (aY ⋯ rfl) (by rw[<-e,bh (Int.negSucc_lt_zero x)];rfl)).trans ?_;have e0:(ev (n+82)).S uX (iE (-(x:Int)-1) b []) (au (dW (nX (nX (au qN 0)))) 0)=some (.next,iE (-(x:Int)-1) b [("q",.int ((x/b:Nat):Int)),("r",.int ((x%b:Nat):Int))]):=by refine(kT (q:=(kl (au (dW (nX (nX (au qN 0)))) 0)).get!) (aE:=iE (-(x:Int)-1) b []) (l:=(iE (-(x:Int)-1) b [("q",.int ((x/b:Nat):Int)),("r",.int ((x%b:Nat):Int))]).loc) ⋯ ⋯ ⋯ ⋯ (aY (v:=.tup [.int ((x/b:Nat):Int),.int ((x%b:Nat):Int)]) (.trans (b:=(ev (n+80)).C "int_divmod" [.int (-(-(x:Int)-1)-1),.int b] []) ⋯ ?_) rfl) ⋯).trans ⋯;rw[show -(-(x:Int)-1)-1=x by lia];exact Ni n x b hb hx
  exact .trans ⋯ ((bf 0 ⋯ e0).trans (de 1 ⋯ (gu ⋯ (aY ⋯ rfl))))
theorem Oi(n:Nat)(a b:Int)(hb:2<=b.natAbs/\b.natAbs<=5)(ha: -(2^19)<=a/\a<=2^19):(ev (n+98)).C "int_divmod" [.int a,.int b] []=some (.tup [.int (a.fdiv b),.int (a.fmod b)]):=by
 by_cases h:0<=b
 ·refine oE (sX h) λx bb=>?_;subst bb;exact Oh (n+8) a x hb ⟨cD (by decide) ha.1,td ha.2 (by decide)⟩
 ·refine oE (sX (Int.neg_nonneg_of_nonpos (kM (xC.mp h)))) λx hx=>?_;obtain rfl:b= -(x:Int):=hx▸(JJ b).symm;rw[agQ]at hb;have h1:a.fdiv (-(x:Int))=(-a).fdiv x:=by refine ao (aT (RE ..)) ?_;rw[JJ]
  have h4:a.fmod (-(x:Int))= -((-a).fmod x):=by have h2:=xc a (-(x:Int));have h3:=xc (-a) (x:Int);rw[h1,RZ]at h2;generalize (x:Int)*(-a).fdiv x=u at *;generalize (-a).fmod x=v at *;generalize a.fmod (-(x:Int))=w at *;lia
  rw[h1,h4];have Qk:=xC.mp h;refine Gp (n+90) a (-(x:Int)) (nz (ag5 Qk)) (st:=iE a (-(x:Int)) [("q",.int ((-a).fdiv x)),("r",.int ((-a).fmod x))]) ?_ rfl;refine(cK (v:=.bool (decide (-(x:Int)<0))) ⋯ (aY ⋯ rfl) (by rw[bh Qk];rfl)).trans ?_;have e0:(ev (n+92)).S uX (iE a (-(x:Int)) []) (au (dW (nX (au qN 0))) 0)=some (.next,iE a (-(x:Int)) [("q",.int ((-a).fdiv x)),("r",.int ((-a).fmod x))]):=by refine(kT (q:=(kl (au (dW (nX (au qN 0))) 0)).get!) (aE:=iE a (-(x:Int)) []) (l:=(iE a (-(x:Int)) [("q",.int ((-a).fdiv x)),("r",.int ((-a).fmod x))]).loc) ⋯ ⋯ ⋯ ⋯ (aY (v:=.tup [.int ((-a).fdiv x),.int ((-a).fmod x)]) (.trans (b:=(ev (n+90)).C "int_divmod" [.int (-a),.int (- -(x:Int))] []) ⋯ ?_) rfl) ⋯).trans ⋯;rw[JJ];exact Oh n (-a) x hb ⟨cD (by decide) (agP ha.2),td (af7 ha.1) (by decide)⟩
  exact .trans ⋯ ((bf 0 ⋯ e0).trans (de 1 ⋯ (gu ⋯ (aY ⋯ rfl))))
section
variable{n k w:Nat}{sc cs:aH}{A:dQ}{pos:Pos}{r:Rec}{st:St}{a:aw}{P:Prop}{own:al}{fl:bG}{d:FD}{c:Bool}{body:ad}{E:ar->ak}{b:Int}{nm:Str}{ns:af}{it:ar}{M:Model}
def dz(c:Nat->Bool):Nat->Nat->Nat->Nat
 |0,lo,_=>lo
 |f+1,lo,hi=>if lo<hi then(if c ((lo+hi)/2)then dz c f ((lo+hi)/2+1) hi else dz c f lo ((lo+hi)/2))else lo
theorem Uv(c:Nat->Bool)(f lo hi)(h:hi<=lo):dz c f lo hi=lo:=by
 induction f with
 |zero=>rfl
 |succ f=>exact aJ (jV.mpr h)
def qx(m:Nat):Loc:=[(("mid":Str),.int m)]
def BS(r:Loc):Prop :=r=[]\/∃m:Nat,r=qx m
theorem YN(lo hi:Nat):((lo:Int)+hi).fdiv 2=((lo+hi)/2:Nat):=E5 rfl
theorem Nj(h:ci (ev n) sc st t=some (.bool c,st)):(ev (n+1)).W sc st t body=if c=true then vV ((ev n).B sc st body) λst=>(ev n).W sc st t body else some (.next,st):=bind_eq h rfl
theorem tX{lo hi m:Nat}(h:lo<hi)(hm:(lo+hi)/2=m):lo<=m/\m<hi:=hm▸⟨(Rf (by decide)).mpr (JI lo▸oe (cG h) lo),xe (DZ hi▸Rj h hi)⟩
theorem Tp{lo hi m K:Nat}(h:lo<hi)(h2:hi-lo<K*2)(hm:(lo+hi)/2=m):m-lo<K/\hi-(m+1)<K:=by
 have h1:=(Rd (cG h)).mp h2;have h3:=af' (lo+hi) (show 0<2 by decide);have wS:=tX h hm;rw[hm]at h3;refine⟨(Rd wS.1).mpr (hm▸xe ?_),(Rd wS.2).mpr (Nat.lt_of_mul_lt_mul_right (a:=2) ?_)⟩
 ·rw[oh,DZ lo,tv 2 K,Dx];exact aga h1 lo
 ·rw[JI,RY];refine cZ (aga h1 hi) ?_;rw[Dx,jt hi lo];exact oe (tv 2 _▸cG h3) _
def vY(sc:aH)(t:Expr)(body:ad)(F:Nat->Nat->Loc->St)(c:Nat->Bool)(len:Nat):Prop :=∀f n lo hi r,lo<=hi->hi-lo<2^f->hi<=len->BS r->∃r',BS r'/\(ev (n+f+13)).W sc (F lo hi r) t body=some (.next,F (dz c f lo hi) (dz c f lo hi) r')
theorem ED(F:Nat->Nat->Loc->St)(c:Nat->Bool)(len:Nat)(ht:∀n lo hi r,BS r->ci (ev (n+12)) sc (F lo hi r) t=some (.bool (decide ((lo:Int)<hi)),F lo hi r))
  (hb:∀n lo hi r m,lo<hi->hi<=len->BS r->(lo+hi)/2=m->(ev (n+12)).B sc (F lo hi r) body=some (.next,if c m=true then F (m+1) hi (qx m)else F lo m (qx m))):
  vY sc t body F c len:=by
 intro f;induction f with
 |zero=>intro n lo hi r h1 h2 h3 hr;obtain rfl:hi=lo:=DF (Nat.sub_eq_zero_iff_le.mp (agN.mp h2)) h1;refine⟨r,hr,?_⟩;refine ao (Nj (n:=n+12) (ht n hi hi r hr)) ?_;rw[cA (RR _)];rfl
 |succ f ih=>
  intro n lo hi r h1 h2 h3 hr;rw[show n+(f+1)+13=n+f+13+1 from jq (n+f) 1 13,Nj (n:=n+f+13) (ht (n+f+1) lo hi r hr)];by_cases h:lo<hi
  ·obtain⟨m,hm⟩:∃m,(lo+hi)/2=m:=⟨_,rfl⟩;have wS:=tX h hm;have lu:=Tp (K:=2^f) h h2 hm;rw[bh (gI.mpr h),aA rfl,hb (n+f+1) lo hi r m h h3 hr hm,show dz c (f+1) lo hi=if c m then dz c f (m+1) hi else dz c f lo m by rw[<-hm];exact aA h];induction c m with
   |true=>exact ih n (m+1) hi (qx m) wS.2 lu.2 h3 (.inr ⟨m,rfl⟩)
   |false=>exact ih n lo m (qx m) wS.1 lu.1 (aD (cG wS.2) h3) (.inr ⟨m,rfl⟩)
  ·obtain rfl:hi=lo:=DF (jV.mp h) h1;refine⟨r,hr,?_⟩;rw[cA (RR _),Uv _ _ _ _ (eI _)];rfl
def gw:Expr:=match(bK (aX (au (bd (au (D "_law_laid").body 1)) 0))).get!.2.2.2 with
 |k::_=>k.value
 |[]=>default
def oZ(e:Expr):cH:=(yF e (λa z z z=>some a) .none).getD default
def o3(e:Expr):Expr:=(yF e (λz b z z=>some b) .none).getD default
def o4(e:Expr):aH:=(yF e (λz z s z=>some s) .none).getD default
def uk(ws:aa):Loc:=[(("wishes":Str),.list (ap ws))]
def fB(ws:aa):PV:=.lam (oZ gw) (o3 gw) (o4 gw) (uk ws)
theorem VD{vs:aa}{L:Nat}(h:L<vs.length):b0 (ap vs) L=some (.int (vs.getD L 0:Nat)):=by refine ao (Be h) ?_;rw[dD,gU h];rfl
theorem tY{vs:aa}{L:Nat}(h:L<vs.length)(h2:vs.length<=1000000):(if bJ (L:Int)then b0 (ap vs) L else .none)=some (.int (vs.getD L 0:Nat)):=
 (aA (O6 ⟨cD (by decide) (cz L),eP.mpr (aD (cG h) (aD h2 (by decide)))⟩)).trans (VD h)
theorem FG(n:Nat)(ws:aa)(i:Nat)(h:i<ws.length)(h2:ws.length<=1000000):j5 (ev (n+3)) (oZ gw) (o3 gw) (o4 gw) (uk ws) [.int i]=some (.int (ws.getD i 0:Nat)):=
 .trans ⋯ (tY h h2)
def gD(vs x:PV)(k:PV)(lo hi:Nat)(r:Loc):St:=bC ([(("a":Str),vs),("x",x),("lo",.int lo),("hi",.int hi),("key",k)]++r)
def Ql:aH:=(D "bisect_right").scope
def blS:aH:=(D "bisect_left").scope
def Ih:Stmt:=au (fD (au (D "bisect_right").body 2)) 0
def Ii:Stmt:=au (fD (au (D "bisect_left").body 2)) 0
def Ij:Stmt:=au (dW (au (D "bisect_right").body 2)) 0
theorem Ep{w:Stmt}{F:Nat->Nat->Loc->St}{lo hi m:Nat}{r:Loc}{b:Bool}{x y:St}(hm:(lo+hi)/2=m)(h0:xE 1 (bd w).length=true)(h1:isIf (au (bd w) 1)=true)(hl:((bd w).drop 2)=[])
  (s0:(ev (n+11)).S sc (F lo hi r) (au (bd w) 0)=some (.next,F lo hi [(("mid":Str),.int (((lo:Int)+hi).fdiv 2))])) (hx:ci (ev (n+9)) sc (F lo hi (qx m)) (aX (au (bd w) 1))=some (.bool b,F lo hi (qx m)))
  (hs:(ev (n+9)).B sc (F lo hi (qx m)) (if b=true then dW (au (bd w) 1)else fD (au (bd w) 1))=some (.next,if c=true then x else y)):(ev (n+12)).B sc (F lo hi r) (bd w)=some (.next,if c=true then x else y):=by
 show(ev (n+12)).B sc (F lo hi r) ((bd w).drop 0)=_;rw[YN,hm]at s0;rw[bf 0 (Nat.ble_eq.mpr (th (Nat.ble_eq.mp h0))) (aE:=F lo hi (qx m)) s0,oY 1 h0,cK h1 hx rfl,show(ev (n+9)).B sc _ _=_ from hs];rw[hl];rfl
theorem VE(ws:aa)(vs:aa)(x:Nat)(hv:vs.length<=1000000)(hw:ws.length<=1000000)(hi:∀m,m<vs.length->vs.getD m 0<ws.length):vY Ql (aX Ih) (bd Ih) (gD (.list (ap vs)) (.int x) (fB ws)) (λm=> !decide (x<ws.getD (vs.getD m 0) 0)) vs.length:=
 ED (gD (.list (ap vs)) (.int x) (fB ws)) (λm=> !decide (x<ws.getD (vs.getD m 0) 0)) vs.length
 (λn lo hi r hr=>aY (by rcases hr with h|⟨m,h⟩<;>subst h<;>kernel_rfl) rfl) (by
  intro n lo wT r m h1 h2 hr hm;refine Ep (w:=Ih) (F:=(gD (.list (ap vs)) (.int x) (fB ws))) (b:=decide ((x:Int)<(ws.getD (vs.getD m 0) 0:Nat))) hm ⋯ ⋯ ⋯ (by rcases hr with h|⟨m,h⟩<;>subst h<;>kernel_rfl) (aY ?_ rfl) ?_
  ·refine .trans (b:=(((if bJ (m:Int)then b0 (ap vs) m else .none).bind λv=>some [v]).bind λvs=>j5 (ev (n+7)) (oZ gw) (o3 gw) (o4 gw) (uk ws) vs).bind λy=>(fU .Lt (.int x) y).map PV.bool) ⋯ ?_;rw[tY (cZ (tX h1 hm).2 h2) hv];show((j5 (ev (n+7)) (oZ gw) (o3 gw) (o4 gw) (uk ws) [.int (vs.getD m 0:Nat)]).bind λy=>(fU .Lt (.int x) y).map PV.bool)=_;rw[FG (n+4) ws _ (hi m (cZ (tX h1 hm).2 h2)) hw];rfl
  ·by_cases hc:x<ws.getD (vs.getD m 0) 0
   ·rw[bh (gI.mpr hc),bh hc];kernel_rfl
   ·rw[cA (λq=>hc (gI.mp q)),cA hc];kernel_rfl)
theorem VF(ws:aa)(vs:aa)(x:Nat)(hv:vs.length<=1000000)(hw:ws.length<=1000000)(hi:∀m,m<vs.length->vs.getD m 0<ws.length):vY blS (aX Ii) (bd Ii) (gD (.list (ap vs)) (.int x) (fB ws)) (λm=>decide (ws.getD (vs.getD m 0) 0<x)) vs.length:=
 ED (gD (.list (ap vs)) (.int x) (fB ws)) (λm=>decide (ws.getD (vs.getD m 0) 0<x)) vs.length
 (λn lo hi r hr=>aY (by rcases hr with h|⟨m,h⟩<;>subst h<;>kernel_rfl) rfl) (by
  intro n lo wT r m h1 h2 hr hm;refine Ep (w:=Ii) (F:=(gD (.list (ap vs)) (.int x) (fB ws))) (b:=decide (((ws.getD (vs.getD m 0) 0:Nat):Int)<x)) hm ⋯ ⋯ ⋯ (by rcases hr with h|⟨m,h⟩<;>subst h<;>kernel_rfl) (aY ?_ rfl) ?_
  ·refine .trans (b:=(((if bJ (m:Int)then b0 (ap vs) m else .none).bind λv=>some [v]).bind λvs=>j5 (ev (n+7)) (oZ gw) (o3 gw) (o4 gw) (uk ws) vs).bind λy=>(some (PV.int x)).bind λz=>(fU .Lt y z).map PV.bool) ⋯ ?_;rw[tY (cZ (tX h1 hm).2 h2) hv];show((j5 (ev (n+7)) (oZ gw) (o3 gw) (o4 gw) (uk ws) [.int (vs.getD m 0:Nat)]).bind λy=>(some (PV.int x)).bind λz=>(fU .Lt y z).map PV.bool)=_;rw[FG (n+4) ws _ (hi m (cZ (tX h1 hm).2 h2)) hw];rfl
  ·by_cases hc:ws.getD (vs.getD m 0) 0<x
   ·rw[bh (gI.mpr hc),bh hc];kernel_rfl
   ·rw[cA (λq=>hc (gI.mp q)),cA hc];kernel_rfl)
theorem VG(vs:aa)(x:Nat)(hv:vs.length<=1000000):vY Ql (aX Ij) (bd Ij) (gD (.list (ap vs)) (.int x) .none) (λm=> !decide (x<vs.getD m 0)) vs.length:=
 ED (gD (.list (ap vs)) (.int x) .none) (λm=> !decide (x<vs.getD m 0)) vs.length
 (λn lo hi r hr=>aY (by rcases hr with h|⟨m,h⟩<;>subst h<;>kernel_rfl) rfl) (by
  intro n lo wT r m h1 h2 hr hm;refine Ep (w:=Ij) (F:=(gD (.list (ap vs)) (.int x) .none)) (b:=decide ((x:Int)<(vs.getD m 0:Nat))) hm ⋯ ⋯ ⋯ (by rcases hr with h|⟨m,h⟩<;>subst h<;>kernel_rfl) (aY ?_ rfl) ?_
  ·refine .trans (b:=(if bJ (m:Int)then b0 (ap vs) m else .none).bind λy=>(fU .Lt (.int x) y).map PV.bool) ⋯ ?_;rw[tY (cZ (tX h1 hm).2 h2) hv];rfl
  ·by_cases hc:x<vs.getD m 0
   ·rw[bh (gI.mpr hc),bh hc];kernel_rfl
   ·rw[cA (λq=>hc (gI.mp q)),cA hc];kernel_rfl)
end
def O8(len hi:Nat)(p:PV):Prop :=p=.int hi\/(p=.none/\hi=len)
def zp(vs x k:PV)(lo:Nat)(hi:PV):St:=bC [(("a":Str),vs),("x",x),("lo",.int lo),("hi",hi),("key",k)]
def sI(n:Nat)(d:FD)(vs x k:PV)(lo:Nat)(hi:PV):ag:=(iR (ev n) d (zp vs x k lo hi).loc []).map (·.1)
def bD(b:Bool):FD:=cond b (D "bisect_left") (D "bisect_right")
def kO(o:Option aa):PV:=o.elim .none fB
def bB(b:Bool)(o:Option aa):ad:=cond o.isNone (dW (au (bD b).body 2)) (fD (au (bD b).body 2))
def bW(b:Bool)(o:Option aa):Stmt:=au (bB b o) 0
theorem Oj(b)(o:Option aa){F:Nat->Bool}(f n)(vs)(x lo hi)(p)(hv:vs.length<=1000000)(hp:O8 vs.length hi p)(L:vY (bD b).scope (aX (bW b o)) (bd (bW b o)) (gD (.list (ap vs)) (.int x) (kO o)) F vs.length)(h1:lo<=hi)(h2:hi-lo<2^f)(h3:hi<=vs.length):
  sI (n+f+20) (bD b) (.list (ap vs)) (.int x) (kO o) lo p=some (.int (dz F f lo hi)):=by
 have hl:(ap vs).length=vs.length:=ba ..;have e0:(ev (n+f+19)).S (bD b).scope (zp (.list (ap vs)) (.int x) (kO o) lo p) (au (bD b).body 0)=some (.next,zp (.list (ap vs)) (.int x) (kO o) lo p):=by refine(cK (v:=.bool (decide ((lo:Int)<0))) (by induction b<;>kernel_rfl) (aY ?_ rfl) (by rw[cA (by lia)];rfl)).trans (by induction b<;>induction o<;>kernel_rfl);rcases hp with h|⟨h,_⟩<;>subst h<;>induction b<;>kernel_rfl
 have e1:(ev (n+f+18)).S (bD b).scope (zp (.list (ap vs)) (.int x) (kO o) lo p) (au (bD b).body 1)=some (.next,gD (.list (ap vs)) (.int x) (kO o) lo hi []):=by
  rcases hp with h|⟨h,h'⟩
  ·subst h;induction b<;>induction o<;>kernel_rfl
  ·subst h;subst h';refine(cK (v:=.bool true) (by induction b<;>kernel_rfl) (aY (by induction b<;>induction o<;>kernel_rfl) rfl) rfl).trans ?_;refine(bf (aE:=gD (.list (ap vs)) (.int x) (kO o) lo vs.length []) 0 (by induction b<;>kernel_rfl) ?_).trans (by induction b<;>kernel_rfl);exact(dr (x:="hi") (by induction b<;>kernel_rfl) (by induction b<;>kernel_rfl) (aY (.trans (b:=if bo (ap vs).length then some (.int (ap vs).length)else .none) (by induction b<;>induction o<;>kernel_rfl) (by rw[hl,show bo vs.length=true from bh hv];rfl)) rfl)).trans (by induction b<;>induction o<;>kernel_rfl)
 refine br (L f (n+1) lo hi [] h1 h2 h3 (.inl rfl)) λr' hr' el=>?_;have e2:(ev (n+f+17)).S (bD b).scope (gD (.list (ap vs)) (.int x) (kO o) lo hi []) (au (bD b).body 2)=some (.next,gD (.list (ap vs)) (.int x) (kO o) (dz F f lo hi) (dz F f lo hi) r'):=by refine(cK (v:=.bool o.isNone) (by induction b<;>kernel_rfl) (aY (by induction b<;>induction o<;>kernel_rfl) rfl) rfl).trans ?_;refine .trans (b:=(ev (n+f+16)).B (bD b).scope (gD (.list (ap vs)) (.int x) (kO o) lo hi []) ((bB b o).drop 0)) (by induction o<;>rfl) ((bf (n:=n+f+15) (aE:=gD (.list (ap vs)) (.int x) (kO o) (dz F f lo hi) (dz F f lo hi) r') 0 (by induction b<;>induction o<;>kernel_rfl) ?_).trans (by induction b<;>induction o<;>kernel_rfl));refine .trans (b:=(ev (n+f+14)).W (bD b).scope (gD (.list (ap vs)) (.int x) (kO o) lo hi []) (aX (bW b o)) (bd (bW b o))) (by induction b<;>induction o<;>kernel_rfl) ?_;rw[show n+f+14=n+1+f+13 by lia];exact el
 have e3:(ev (n+f+16)).S (bD b).scope (gD (.list (ap vs)) (.int x) (kO o) (dz F f lo hi) (dz F f lo hi) r') (au (bD b).body 3)=some (.ret (.int (dz F f lo hi)),gD (.list (ap vs)) (.int x) (kO o) (dz F f lo hi) (dz F f lo hi) r'):=by rcases hr' with h|⟨m,h⟩<;>subst h<;>induction b<;>kernel_rfl
 refine .trans (b:=(((ev (n+f+20)).B (bD b).scope (zp (.list (ap vs)) (.int x) (kO o) lo p) ((bD b).body.drop 0)).bind (eK [])).map (·.1)) (by induction b<;>kernel_rfl) (fi (st:=gD (.list (ap vs)) (.int x) (kO o) (dz F f lo hi) (dz F f lo hi) r') ?_ rfl);refine ao (bf 0 (by induction b<;>kernel_rfl) e0) ?_;rw[bf 1 (by induction b<;>kernel_rfl) e1,bf 2 (by induction b<;>kernel_rfl) e2,de 3 (by induction b<;>kernel_rfl) e3]
theorem Nk(f n:Nat)(vs:aa)(x lo hi:Nat)(p:PV)(hv:vs.length<=1000000)(hp:O8 vs.length hi p)(h1:lo<=hi)(h2:hi-lo<2^f)(h3:hi<=vs.length):
  sI (n+f+20) (D "bisect_right") (.list (ap vs)) (.int x) .none lo p=some (.int (dz (λm=> !decide (x<vs.getD m 0)) f lo hi)):=Oj false .none f n vs x lo hi p hv hp (VG vs x hv) h1 h2 h3
theorem pH(h: -1000000<=i/\i<=1000000):bJ i=true:=bh (by omega)
theorem JZ(a b):iO a b 1=(aG (b-a).toNat).map λk:Nat=>a+k:=by unfold iO;refine ao (aA (by decide)) ?_;rw[show b-a+1-1=b-a by exact vm (b-a) 1,show(1:Int).toNat=1 from rfl,ag7];exact lH λk z=>by rw[Int.mul_one]
theorem pR(a b)(h: -1000000<=a/\a<=1000000/\ -1000000<=b/\b<=1000000):itemsOf (.ey a b 1)=some ((aG (b-a).toNat).map λk:Nat=>PV.int (a+k)):=by show(if(bJ a&&bJ b&&true&&true)=true then some ((iO a b 1).map PV.int)else none)=_;rw[pH ⟨h.1,h.2.1⟩,pH h.2.2,JZ,cP];rfl
theorem j6(n:Nat)(h:n<=1000000):itemsOf (.ey 0 n 1)=some ((aG n).map λk:Nat=>PV.int k):=by refine ao (pR 0 n (by lia)) ?_;rw[DU,ip];exact aR some (lH λk z=>by rw[Ao])
def l_(c:Nat->Bool)(vs:aa)(x:Nat):aa:=vs.take (dz c 3 0 vs.length)++x::vs.drop (dz c 3 0 vs.length)
def cR(ws vs:aa)(x:Nat)(m:Nat):Bool:= !decide (x<ws.getD (vs.getD m 0) 0)
def cL(ws vs:aa)(x:Nat)(m:Nat):Bool:=decide (ws.getD (vs.getD m 0) 0<x)
theorem Mi(c:Nat->Bool):(f lo hi:Nat)->lo<=hi->dz c f lo hi<=hi:=by
 intro f;induction f with
 |zero=>exact λz z h=>h
 |succ f ih=>
  intro lo hi h;unfold dz;by_cases h1:lo<hi
  ·rw[aA h1];cases c ((lo+hi)/2)with
   |true=>exact ih _ _ (by lia)
   |false=>exact aD (ih lo ((lo+hi)/2) (by lia)) (by lia)
  ·rw[aJ h1];exact h
def lB(vs x:PV)(k:PV)(r:Loc)(lo:Int):St:=⟨[(("a":Str),vs),("x",x),("lo",.int lo),("hi",.none),("key",k)]++r,["a"],["a"]⟩
def inR(n:Nat)(d:FD)(vs x k:PV):Option St:=(iR (ev n) d (lB vs x k [] 0).loc ["a"]).bind nh
theorem VH(vs:aa)(p x:Nat):(ap vs).take p++PV.int x::(ap vs).drop p=ap (vs.take p++x::vs.drop p):=by unfold ap;rw[ei,tu,cO,xt]
def cB(b:Bool)(ws vs:aa)(x:Nat):Nat->Bool:=cond b (cL ws vs x) (cR ws vs x)
def iD(b:Bool):FD:=cond b (D "insort_left") (D "insort_right")
def bN(b:Bool):Str:=cond b "bisect_left" "bisect_right"
theorem YO(b:Bool)(n:Nat)(ws vs:aa)(x:Nat)(hw:ws.length<=7)(hv:vs.length<=7)(hx:x<ws.length)(hi:∀m,m<vs.length->vs.getD m 0<ws.length):∃s2,inR (n+30) (iD b) (.list (ap vs)) (.int x) (fB ws)=some s2/\s2.loc.lookup ("a":Str)=some (.list (ap (l_ (cB b ws vs (ws.getD x 0)) vs x))):=by
 have hl:(ap vs).length=vs.length:=ba ..;have hL:vY (bD b).scope (aX (bW b (some ws))) (bd (bW b (some ws))) (gD (.list (ap vs)) (.int (ws.getD x 0:Nat)) (kO (some ws))) (cB b ws vs (ws.getD x 0)) vs.length:=by
  induction b with
  |true=>exact VF ws vs _ (by lia) (by lia) hi
  |false=>exact VE ws vs _ (by lia) (by lia) hi
 have hb:=Oj b (some ws) 3 (n+1) vs (ws.getD x 0) 0 vs.length .none (by lia) (.inr ⟨rfl,rfl⟩) hL (du _) (Ru hv) (eI _);have hp:l_ (cB b ws vs (ws.getD x 0)) vs x=vs.take (dz (cB b ws vs (ws.getD x 0)) 3 0 vs.length)++x::vs.drop (dz (cB b ws vs (ws.getD x 0)) 3 0 vs.length):=rfl;have aci:=Mi (cB b ws vs (ws.getD x 0)) 3 0 vs.length (by exact du vs.length);rw[hp];replace hb:sI (n+24) (bD b) (.list (ap vs)) (.int (ws.getD x 0:Nat)) (fB ws) 0 .none=some (.int (dz (cB b ws vs (ws.getD x 0)) 3 0 vs.length:Nat)):=hb;generalize dz (cB b ws vs (ws.getD x 0)) 3 0 vs.length=p at *;refine⟨lB (.list (ap (vs.take p++x::vs.drop p))) (.int x) (fB ws) [] p,?_,rfl⟩;have ha:dG (ev (n+25)) (iD b).scope (hide [] (lB (.list (ap vs)) (.int x) (fB ws) [] 0).loc) (bK (aX (au (fD (au (iD b).body 0)) 0))).get!.2.2.1=some [.list (ap vs),.int (ws.getD x 0:Nat),.int 0,.none]:=by refine .trans (b:=((j5 (ev (n+24)) (oZ gw) (o3 gw) (o4 gw) (uk ws) [.int x]).bind λv=>(some [.int 0,.none]).map λvs=>v::vs).map λus=>.list (ap vs)::us) (by induction b<;>kernel_rfl) ?_;rw[FG (n+21) ws x hx (by lia)];rfl
 have e0:(ev (n+29)).S (iD b).scope (lB (.list (ap vs)) (.int x) (fB ws) [] 0) (au (iD b).body 0)=some (.next,lB (.list (ap vs)) (.int x) (fB ws) [] p):=by refine(cK (v:=.bool false) (aE:=lB (.list (ap vs)) (.int x) (fB ws) [] 0) (c:=false) (by induction b<;>kernel_rfl) (aY (by induction b<;>kernel_rfl) rfl) rfl).trans ?_;refine .trans (b:=(ev (n+28)).B (iD b).scope (lB (.list (ap vs)) (.int x) (fB ws) [] 0) ((fD (au (iD b).body 0)).drop 0)) (by induction b<;>kernel_rfl) ((bf (n:=n+27) (aE:=lB (.list (ap vs)) (.int x) (fB ws) [] p) 0 (by induction b<;>kernel_rfl) ?_).trans (by induction b<;>kernel_rfl));refine(dr (n:=n+26) (x:="lo") (aE:=lB (.list (ap vs)) (.int x) (fB ws) [] 0) (v:=.int p) (by induction b<;>kernel_rfl) (by induction b<;>kernel_rfl) (rD (by induction b<;>kernel_rfl) ?_ rfl)).trans (by induction b<;>kernel_rfl);refine(fk (f:=.fn (bN b)) (kw:=[(("key":Str),fB ws)]) (q:=(bK (aX (au (fD (au (iD b).body 0)) 0))).get!) (by induction b<;>kernel_rfl) (by induction b<;>kernel_rfl) (by induction b<;>kernel_rfl) ha (by induction b<;>kernel_rfl)).trans ?_;exact .trans (b:=sI (n+24) (bD b) (.list (ap vs)) (.int (ws.getD x 0:Nat)) (fB ws) 0 .none) (by induction b<;>kernel_rfl) hb
 have e1:(ev (n+28)).S (iD b).scope (lB (.list (ap vs)) (.int x) (fB ws) [] p) (au (iD b).body 1)=some (.next,lB (.list (ap (vs.take p++x::vs.drop p))) (.int x) (fB ws) [] p):=by refine .trans (b:=if(decide (0<=(p:Int))&&decide ((p:Int).toNat<=(ap vs).length)&&bo (ap vs).length)=true then some (.next,lB (.list ((ap vs).take p++ .int x::(ap vs).drop p)) (.int x) (fB ws) [] p)else .none) (by induction b<;>kernel_rfl) ?_;rw[VH,hl,bh (show 0<=(p:Int) by exact cz p),bh (show(p:Int).toNat<=vs.length by exact String.Pos.Raw.mk_le_mk.mp aci),show bo vs.length=true from bh (by lia)];rfl
 refine .trans (b:=((((ev (n+30)).B (iD b).scope (lB (.list (ap vs)) (.int x) (fB ws) [] 0) ((iD b).body.drop 0)).bind (eK ["a"])).bind nh)) (by induction b<;>kernel_rfl) ?_;rw[bf 0 (by induction b<;>kernel_rfl) e0,bf 1 (by induction b<;>kernel_rfl) e1];induction b<;>kernel_rfl
theorem VI{c:Nat->Bool}{vs:aa}{x y:Nat}(h:y∈l_ c vs x):y=x\/y∈vs:=by
 rcases jr.mp h with h|h
 ·exact .inr (sZ h)
 ·rcases cc.mp h with h|h
  ·exact .inl h
  ·exact .inr (zZ h)
theorem VJ(c:Nat->Bool)(vs)(x):(l_ c vs x).length=vs.length+1:=by have :=Mi c 3 0 vs.length (du _);delta l_;refine ao cb ?_;rw[ff,mK,jR,iq this,<-gH,kK this]
theorem getD_mem{vs:aa}{m:Nat}(h:m<vs.length):vs.getD m 0∈vs:=by rw[dD,gU h];exact xj h
def rS(c:aa->aa->Nat->Nat->Bool)(ws:aa):aa:=(aG ws.length).foldl (λos j=>l_ (c ws os (ws.getD j 0)) os j) []
def nY(ws:aa)(put:Str)(os:aa)(o:ag):St:=⟨[(("wishes":Str),PV.list (ap ws)),("put",.fn put),("order",.list (ap os))]++oL "j" o,["order"],[]⟩
def zq:aH:=(D "_law_laid").scope
def sJ:ad:=(D "_law_laid").body
def iN(b:Bool):Str:=cond b "insort_left" "insort_right"
theorem aaE(b:Bool)(n:Nat)(ws os:aa)(j:Nat)(o:ag)(hw:ws.length<=7)(hv:os.length<=7)(hx:j<ws.length)(hi:∀v∈os,v<ws.length):
  eN (ev (n+35)) zq (dH (au sJ 1)) (bd (au sJ 1)) (.int j) (nY ws (iN b) os o)=some (.next,nY ws (iN b) (l_ (cB b ws os (ws.getD j 0)) os j) (some (.int j))):=by
 obtain⟨s2,e1,e2⟩:=YO b (n+3) ws os j hw hv hx λm hm=>hi _ (getD_mem hm);have hS:(ev (n+34)).S zq (nY ws (iN b) os (some (.int j))) (au (bd (au sJ 1)) 0)=some (.next,nY ws (iN b) (l_ (cB b ws os (ws.getD j 0)) os j) (some (.int j))):=by refine .trans (b:=(inR (n+33) (iD b) (.list (ap os)) (.int j) (fB ws)).bind λs2=>uc (nY ws (iN b) os (some (.int j))) "order" (s2.loc.lookup ("a":Str))) (by induction b<;>kernel_rfl) ?_;rw[show inR (n+33) (iD b) (.list (ap os)) (.int j) (fB ws)=some s2 from e1];show uc _ "order" (s2.loc.lookup ("a":Str))=_;rw[e2];exact(aA (hH _)).trans (by induction b<;>kernel_rfl)
 refine .trans (by induction b<;>induction o<;>kernel_rfl) ((bf 0 (by induction b<;>kernel_rfl) hS).trans (by induction b<;>kernel_rfl))
theorem Mj(b:Bool)(n:Nat)(ws:aa)(hw:ws.length<=7):(ev (n+40)).C "_law_laid" [.list (ap ws),.fn (iN b)] []=some (.list (ap (rS (cB b) ws))):=by
 have hl:(ap ws).length=ws.length:=ba ..;have fm:=oo (r:=ev (n+36)) (sc:=zq) (t:=dH (au sJ 1)) (body:=bd (au sJ 1)) (λj:Nat=>PV.int j) (λ(a:aa×ag) j=>(l_ (cB b ws a.1 (ws.getD j 0)) a.1 j,some (.int j))) (λa=>nY ws (iN b) a.1 a.2) (λk a=>a.1.length+k<=ws.length/\∀v∈a.1,v<ws.length) (aG ws.length) ([],.none) ⟨by show 0+_<=_;rw[cV];lia,λz h=>(nomatch h)⟩
  λk a ha j hj=>⟨aaE b (n+1) ws a.1 j a.2 hw (by lia) (bI.mp hj) ha.2,by rw[VJ];lia,λv hv=>by
   rcases VI hv with h|h
   ·rw[h];exact bI.mp hj
   ·exact ha.2 v h⟩
 have jG:∀(l:aa)(a:aa×ag),(l.foldl (λ(a:aa×ag) j=>(l_ (cB b ws a.1 (ws.getD j 0)) a.1 j,some (.int j))) a).1=l.foldl (λos j=>l_ (cB b ws os (ws.getD j 0)) os j) a.1:=by
  intro l;induction l with
  |nil=>intro a;rfl
  |cons x l ih=>intro a;exact ih _
 have hA:=jG (aG ws.length) ([],.none);replace hA:_=rS (cB b) ws:=hA;have hF:=fm.1;generalize (aG ws.length).foldl (λ(a:aa×ag) j=>(l_ (cB b ws a.1 (ws.getD j 0)) a.1 j,some (.int j))) ([],.none)=a at hA hF;have e1:(ev (n+37)).S zq (nY ws (iN b) [] .none) (au sJ 1)=some (.next,nY ws (iN b) (rS (cB b) ws) a.2):=by refine(jh (aE:=nY ws (iN b) [] .none) (v:=.ey 0 ws.length 1) (by induction b<;>kernel_rfl) (aY ?_ rfl) (j6 _ (by lia))).trans (hF.trans (by rw[hA]));refine(fk (f:=.blt "range") (kw:=[]) (vs:=[.int ws.length]) (q:=(bK (aX (au sJ 1))).get!) (by induction b<;>kernel_rfl) (by induction b<;>kernel_rfl) (by induction b<;>kernel_rfl) ?_ (by induction b<;>kernel_rfl)).trans (by induction b<;>kernel_rfl);refine .trans (b:=(if bo (ap ws).length then some (PV.int (ap ws).length)else .none).bind λv=>some [v]) (by induction b<;>kernel_rfl) ?_;rw[hl,show bo ws.length=true from bh (by lia)];rfl
 refine .trans (b:=(((ev (n+38)).B zq (nY ws (iN b) [] .none) (sJ.drop 1)).bind (eK [])).map (·.1)) (by induction b<;>kernel_rfl) ?_;obtain⟨os,o⟩:=a;refine fi (st:=⟨(nY ws (iN b) (rS (cB b) ws) o).loc,[],[]⟩) ?_ rfl;refine ao (bf 1 (by induction b<;>kernel_rfl) e1) ?_;refine de 2 (by induction b<;>kernel_rfl) (gu (by induction b<;>kernel_rfl) (tM ?_ ?_ rfl ?_ (hH _)))
 all_goals induction b<;>induction o<;>kernel_rfl
theorem W2(n)(ws)(hw:ws.length<=7):(ev (n+40)).C "_law_laid" [.list (ap ws),.fn "insort_right"] []=some (.list (ap (rS cR ws))):=Mj false n ws hw
theorem W3(n)(ws)(hw:ws.length<=7):(ev (n+40)).C "_law_laid" [.list (ap ws),.fn "insort_left"] []=some (.list (ap (rS cL ws))):=Mj true n ws hw
section
variable{n k w:Nat}{sc cs:aH}{A:dQ}{pos:Pos}{r:Rec}{st:St}{a:aw}{P:Prop}{own:al}{fl:bG}{d:FD}{c:Bool}{body:ad}{E:ar->ak}{b:Int}{nm:Str}{ns:af}{it:ar}{M:Model}
def dN(l:aa):Str:=⟨l.toArray⟩
def pS(l:aa):PV:=.str (dN l)
theorem W4(a b:aa):dN a++dN b=dN (a++b):=aR Str.mk (List.append_toArray a b)
theorem add_str{a b:aa}(h:a.length+b.length<=1000000):bj .Add (pS a) (pS b)=some (pS (a++b)):=
 (aA (show(isAdd .Add&&bo (a.length+b.length))=true from bh h)).trans (aR (λz=>some (PV.str z)) (W4 a b))
theorem Mk{c:Nat}{b:Nat}(h:b<=1000):bj .Mult (pS [c]) (.int b)=some (pS (cC b c)):=by show(if(isMul .Mult&&t_ 1 b)=true then some (PV.str (dN (dK [c] (b:Int).toNat)))else none)=_;rw[Mb (aD (ej (JH b)) (aD h (by decide))) (aD h (by decide)),ip,Ld];rfl
theorem W5(ls:List aa):strsOf (ls.map pS)=some (ls.map dN):=by
 induction ls with
 |nil=>rfl
 |cons l ls ih=>exact bind_eq rfl ((aR (mO _) ih).trans rfl)
theorem KB:(ls:List aa)->rM [] (ls.map dN)=ls.flatten
 |[]=>rfl
 |[l]=>(gW l).symm
 |l::m::ls=>by show l++[]++rM [] ((m::ls).map dN)=l++(m::ls).flatten;rw[gW,KB (m::ls)]
theorem Bf(ls:List aa)(h:ls.flatten.length<=1000000):pW (.str (dN [])) [.list (ls.map pS)]=some (pS ls.flatten):=by
 show((strsOf (ls.map pS)).bind λl=>if decide ((l.map (·.length)).sum+l.length*0<=16777216)then some (PV.str ⟨(rM [] l).toArray⟩)else none)=_;rw[W5];show(if decide (((ls.map dN).map (·.length)).sum+(ls.map dN).length*0<=16777216)then some (PV.str ⟨(rM [] (ls.map dN)).toArray⟩)else none)=_;rw[KB,bh]
 ·rfl
 ·rw[cP,show((λx:Str=>x.length)∘dN)=xA from rfl,<-List.length_flatten];lia
def cM(e:Expr):Option (Expr×aH×fG):=Cv e (λelt gs cs z=>(one gs).map λg=>(elt,cs,g)) .none
theorem fV{f:Loc->Option ab}{g:β->PV}(h:β->ab)(xs:List β)(hx:∀x∈xs,(fz t l (g x)).bind f=some (h x)):lR f t l (xs.map g)=some (xs.flatMap h):=by
 induction xs with
 |nil=>rfl
 |cons x xs ih=>refine aF (hx x (ch ..)) λl1 h1 h2=>bind_eq h1 (bind_eq h2 (map_eq (ih λy hy=>hx y (cf _ hy))))
theorem gx{q:Expr×aH×fG}{it:PV}{vs:ab}(hs:cM e=some q)(hc:Fp sc l q.2.1 q.2.2=true)(hi:(ev n).E sc l q.2.2.iter=some it)(hx:itemsOf it=some xs)
  (hv:lR (l8 (ev n) q.2.1 q.2.2.ifs λl1=>((ev n).E q.2.1 l1 q.1).bind λv=>if dS v then some [v]else .none) q.2.2.target (free q.2.1 l) xs=some vs) (hl:vs.length<=1000000):(ev (n+1)).E sc l e=some (.list vs):=
 GC hs (λelt gs cs p hs=>cj hs λg h1 h2=>by
  subst h2;rw[fH h1];exact(aA hc).trans (bind_eq hi (bind_eq hx (bind_eq hv (aA (bh hl)))))) aK
theorem jy{l1:Loc}{x v:PV}(hb:fz t l x=some l1)(hE:r.E cs l1 elt=some v)(hn:dS v=true):(fz t l x).bind (l8 r cs [] λl1=>(r.E cs l1 elt).bind λv=>if dS v then some [v]else .none)=some [v]:=
 bind_eq hb (bind_eq (a:=v) hE (aA hn))
theorem tZ{c:Expr}{l1:Loc}{x w v:PV}{b:Bool}(hb:fz t l x=some l1)(hc:r.E cs l1 c=some w)(ht:truth w=some b)(hE:b=true->r.E cs l1 elt=some v)(hn:dS v=true):(fz t l x).bind (l8 r cs [c] λl1=>(r.E cs l1 elt).bind λv=>if dS v then some [v]else .none)=some (if b=true then[v]else[]):=by
 refine bind_eq hb (bind_eq (a:=b) (bind_eq hc (bind_eq ht (by induction b<;>rfl))) ?_);induction b with
 |true=>exact bind_eq (hE rfl) (aA hn)
 |false=>rfl
theorem jc(f:α->β)(l:List α):(l.flatMap λx=>[f x])=l.map f:=List.map_eq_flatMap.symm
theorem xP:(ls:List aa)->b_ (ls.map pS)=true:=by
 intro ls;induction ls with
 |nil=>exact rfl
 |cons _ ls ih=>exact ih
def kn(low w:Nat):aa:=cC (low+w) 32++[9]
def vZ(ws:aa)(low blanks:Nat):aa:=(ws.map (kn low)).flatten++cC blanks 32++[120,9,32]
def uY:Expr:=aX (au (D "_law_lead").body 0)
def v0(ws:aa)(low blanks:Nat):Loc:=[(("wishes":Str),.list (ap ws)),("low",.int low),("blanks",.int blanks)]
def eZ(e:Expr):Expr:=(uo e (λa z b z=>some a) .none).getD default
def uz(e:Expr):Expr:=(uo e (λa z b z=>some b) .none).getD default
def acj(e:Expr):ja:=(uo e (λz o z z=>some o) .none).getD .Add
def aaF(e:Expr):Bool:=jb e.ctorIdx 2
theorem kU{x y v:PV}(hs:aaF e=true)(h1:(ev n).E sc l (eZ e)=some x)(h2:(ev n).E sc l (uz e)=some y)(h:bj (acj e) x y=some v):(ev (n+1)).E sc l e=some v:=
 Je e (rg hs) (λz z z z h1 h2 h=>bind_eq h1 (bind_eq h2 h)) h1 h2 h
def oJ(e:Expr):ah:=FE e
def wu(e:Expr):Option (Expr×Str×Pos×ah×Pos):=oH e (λf as ks pos=>t0 f (λo n p=>if ks.isEmpty then some (o,n,p,as,pos)else .none) .none) .none
theorem Nl{q:Expr×Str×Pos×ah×Pos}{vs:ab}(hs:wu e=some q)(hc:(xS q.1&&(q.2.2.1.endLine==q.2.2.2.2.line)&&decide (q.2.2.2.1.length<30))=true)(ho:(ev n).E sc l q.1=some p)(ha:dG (ev n) sc l q.2.2.2.1=some vs):(ev (n+1)).E sc l e=NR (ev n) q.2.1 vs p:=
 vM hs (λf as ks pos hs=>ye hs (λo m p2 hs=>aZ hs λh1 h2=>by
  obtain rfl:=av h2;exact(aA h1).trans ((aA hc).trans (bind_eq ho (bind_eq ha rfl)))) aK) aK
theorem vH{ls:List aa}{b:Nat}(h:∀l∈ls,l.length<=b):ls.flatten.length<=ls.length*b:=by
 induction ls with
 |nil=>exact du _
 |cons l ls ih=>have h1:=h l (ch ..);have h2:=ih λx hx=>h x (cf _ hx);rw[Dw,cb,ff,RY];lia
theorem yd(n:Nat)(ws:aa)(low blanks:Nat)(hl:ws.length<=100)(hw:∀w∈ws,low+w<=100)(hb:blanks<=100):(ev (n+19)).C "_law_lead" [.list (ap ws),.int low,.int blanks] []=some (pS (vZ ws low blanks)):=by
 have ml:(ws.map (kn low)).flatten.length<=100*101:=by refine aD (vH ?_) (by rw[ba];exact s_ _ hl);intro l hl;refine br (eH.mp hl) λw qO bb=>?_;subst bb;have :=hw w qO;unfold kn;rw[cb,gV];exact lJ (hw w qO)
 have aaG:(ev (n+13)).E (D "_law_lead").scope (v0 ws low blanks) (oJ (eZ (eZ uY))).head!=some (.list ((ws.map (kn low)).map pS)):=by
  refine(gx (q:=(cM (oJ (eZ (eZ uY))).head!).get!) (it:=.list (ap ws)) ⋯ ⋯ ⋯ rfl (fV (g:=λw:Nat=>PV.int w) (λw=>[pS (kn low w)]) ws λw qO=>?_) ?_).trans ?_
  ·have :=hw w qO;refine jy (l1:=[(("low":Str),.int low),("wish",.int w)]) ⋯ (.trans (b:=(bj .Mult (pS [32]) (.int (low+w))).bind λx=>bj .Add x (pS [9])) ⋯ ?_) rfl;rw[show(low:Int)+w=((low+w:Nat):Int) from(fg ..).symm,Mk (by lia)];exact add_str (by rw[gV];show _+1<=_;lia)
  ·rw[jc,ba];lia
  ·rw[jc,cP];rfl
 have aaH:(ev (n+14)).E (D "_law_lead").scope (v0 ws low blanks) (eZ (eZ uY))=some (pS (ws.map (kn low)).flatten):=by refine(Nl (q:=(wu (eZ (eZ uY))).get!) (p:=.str (dN [])) ⋯ ⋯ ⋯ (.trans (b:=((ev (n+13)).E (D "_law_lead").scope (v0 ws low blanks) (oJ (eZ (eZ uY))).head!).bind λv=>some [v]) ⋯ (by rw[aaG];rfl))).trans ?_;exact .trans ⋯ (Bf (ws.map (kn low)) (by lia))
 have hE:(ev (n+16)).E (D "_law_lead").scope (v0 ws low blanks) uY=some (pS (vZ ws low blanks)):=by
  have h1:(ev (n+15)).E (D "_law_lead").scope (v0 ws low blanks) (eZ uY)=some (pS ((ws.map (kn low)).flatten++cC blanks 32)):=
   kU ⋯ aaH (.trans (b:=bj .Mult (pS [32]) (.int blanks)) ⋯ (Mk (by lia))) (.trans ⋯ (add_str (by rw[gV];lia)))
  exact kU ⋯ h1 (y:=pS [120,9,32]) ⋯ (.trans ⋯ (add_str (by rw[cb,gV];show _+3<=_;lia)))
 exact .trans (b:=(((ev (n+18)).B (D "_law_lead").scope (bC (v0 ws low blanks)) ((D "_law_lead").body.drop 0)).bind (eK [])).map (·.1)) ⋯ (fi (de 0 ⋯ (gu ⋯ (aY hE rfl))) rfl)
end
theorem VK(g:β->PV)(f:α->β->α)(F:α->St)(P:Nat->α->Prop)(rest)(xs:List β)(a:α)(h0:P xs.length a)
  (h:∀k a,P (k+1) a->∀x∈xs,eN r sc t body (g x) (F a)=some (.next,F (f a x))/\P k (f a x)):dT r sc t body (xs.map g++rest) (F a)=dT r sc t body rest (F (xs.foldl f a))/\P 0 (xs.foldl f a):=by
 induction xs generalizing a with
 |nil=>exact⟨rfl,h0⟩
 |cons x xs ih=>have h1:=h xs.length a h0 x (ch ..);have h2:=ih (f a x) h1.2 λk a ha y hy=>h k a ha y (cf _ hy);exact⟨(lT h1.1).trans h2.1,h2.2⟩
def iz(cnt:aa)(b:Nat):aa:=if cnt.length<=b then cnt++cC (b-cnt.length+1) 0 else cnt
def bump(cnt:aa)(b:Nat):aa:=(iz cnt b).set b ((iz cnt b).getD b 0+1)
structure qP where
 cnt:aa
 b:Nat
 n:Nat
 nt:Nat
 r:Loc
def iF:aH:=(Mt "__init__").scope
def pc:ad:=(Mt "__init__").body
def Ik(raw:aa)(fs:List (Str×PV)):PV:=.inst ((("raw":Str),pS raw)::fs)
def fE(raw:aa)(a:qP):St:=⟨[(("self":Str),Ik raw []),("ws",pS raw),("S",pS [32]),("T",pS [9]),("count",.list (ap a.cnt)),("b",.int a.b),("n",.int a.n),("nt",.int a.nt)]++a.r,["count","self"],["self"]⟩
def d_(c:Nat):Loc:=[(("ch":Str),pS [c])]
def mA(a:qP)(c:Nat):qP:=if c=32 then⟨a.cnt,a.b+1,a.n+1,a.nt,d_ c⟩else⟨bump a.cnt a.b,0,a.n+1,a.nt+1,d_ c⟩
def Cj(r:Loc):Prop :=r=[]\/∃c,r=d_ c
def pd:Stmt:=au pc 4
def uZ:Stmt:=au (fD (au (bd pd) 0)) 0
theorem VL(vs:aa)(k x:Nat):(ap vs).set k (PV.int x)=ap (vs.set k x):=agW.symm
theorem Uw(l):(ap l).all flat=true:=by
 induction l with
 |nil=>rfl
 |cons _ l ih=>exact ih
theorem YP(n:Nat)(raw:aa)(a:qP)(hr:Cj a.r):eN (ev (n+20)) iF (dH pd) (bd pd) (pS [32]) (fE raw a)=some (.next,fE raw (mA a 32)):=by obtain⟨cnt,b,m,nt,r⟩:=a;rcases hr with h|⟨c,h⟩<;>(dsimp only at h;subst h;kernel_rfl)
theorem YQ(n:Nat)(raw:aa)(a:qP)(hr:Cj a.r)(hb:a.b<=900)(hc:a.cnt.length<=2000):eN (ev (n+20)) iF (dH pd) (bd pd) (pS [9]) (fE raw a)=some (.next,fE raw (mA a 9)):=by
 obtain⟨cnt,b,m,nt,r⟩:=a;dsimp only at hr hb hc;have hl:(ap cnt).length=cnt.length:=ba ..;have wU:bo cnt.length=true:=bh (aD hc (by decide));have sK:b<(iz cnt b).length/\(iz cnt b).length<=3002:=by
  delta iz;by_cases h:cnt.length<=b
  ·rw[aA h,cb,gV,<-gH,kK h];exact⟨agB b,aD (lJ hb) (by decide)⟩
  ·rw[aJ h];exact⟨Nat.not_le.mp h,aD hc (by decide)⟩
 have Qm:(ap (iz cnt b)).length=(iz cnt b).length:=ba ..;have sif:(ev (n+13)).S iF (fE raw ⟨cnt,b,m+1,nt+1,d_ 9⟩) (au (dW uZ) 2)=some (.next,fE raw ⟨iz cnt b,b,m+1,nt+1,d_ 9⟩):=by
  refine(cK (v:=.bool (decide ((cnt.length:Int)<=b))) ⋯ (rD ⋯ ?_ rfl) rfl).trans ?_
  ·refine .trans (b:=(if bo (ap cnt).length then some (PV.int (ap cnt).length)else .none).bind λy=>(fU .GtE (.int b) y).map .bool) ⋯ ?_;rw[hl,wU];rfl
  ·delta iz;by_cases h:cnt.length<=b
   ·rw[bh (eP.mpr h),aA h];refine(bf (n:=n+11) (aE:=fE raw ⟨cnt++cC (b-cnt.length+1) 0,b,m+1,nt+1,d_ 9⟩) 0 ⋯ ?_).trans ⋯;refine(Ma (x:="count") (vs:=ap (cnt++cC (b-cnt.length+1) 0)) ⋯ ⋯ ?_ (Uw _)).trans ⋯;refine .trans (b:=((((if bo (ap cnt).length then some (PV.int (ap cnt).length)else .none).bind λy=>bj .Sub (.int b) y).bind λx=>bj .Add x (.int 1)).bind λy=>bj .Mult (.list [.int 0]) y).bind λy=>bj .Add (.list (ap cnt)) y) ⋯ ?_;rw[hl,wU];have hk:b-cnt.length+1<=1000:=aD (lJ (aD (i_ ..) hb)) (by decide);refine bind_eq ((aR (λz=>bj .Mult (.list [.int 0]) (.int (z+1))) (ro h).symm).trans (E4 hk)) ((add_list ?_).trans (by rw[A1];delta ap;rw[Rm];rfl));rw[hl,gV];exact aD (ir hc hk) (by decide)
   ·rw[cA (λq=>h (eP.mp q)),aJ h];kernel_rfl
 have s3:(ev (n+12)).S iF (fE raw ⟨iz cnt b,b,m+1,nt+1,d_ 9⟩) (au (dW uZ) 3)=some (.next,fE raw ⟨bump cnt b,b,m+1,nt+1,d_ 9⟩):=by
  unfold bump;generalize iz cnt b=q at sK Qm⊢;refine(Og (q:=(Gn (au (dW uZ) 3)).get!) (aE:=fE raw ⟨q,b,m+1,nt+1,d_ 9⟩) (bw:=fE raw ⟨q,b,m+1,nt+1,d_ 9⟩) (v:=.int ((q.getD b 0+1:Nat):Int)) ⋯ (rD ⋯ (.trans (b:=(if bJ (b:Int)then b0 (ap q) b else .none).bind λx=>bj .Add x (.int 1)) ⋯ ?_) rfl) ⋯ rfl ⋯ ⋯ ⟨cz b,by rw[Qm];exact sK.1,cD (eP.mpr hb) (by decide)⟩).trans ?_
  ·rw[tY sK.1 (aD sK.2 (by decide))];rfl
  ·rw[ip,VL];kernel_rfl
 have s4:(ev (n+11)).S iF (fE raw ⟨bump cnt b,b,m+1,nt+1,d_ 9⟩) (au (dW uZ) 4)=some (.next,fE raw ⟨bump cnt b,0,m+1,nt+1,d_ 9⟩):=⋯
 have hB:(ev (n+16)).B iF (fE raw ⟨cnt,b,m,nt,d_ 9⟩) ((dW uZ).drop 0)=some (.next,fE raw ⟨bump cnt b,0,m+1,nt+1,d_ 9⟩):=by refine .trans (b:=(ev (n+14)).B iF (fE raw ⟨cnt,b,m+1,nt+1,d_ 9⟩) ((dW uZ).drop 2)) ⋯ ?_;refine ao (bf 2 ⋯ sif) ?_;rw[bf 3 ⋯ s3,bf 4 ⋯ s4];kernel_rfl
 have hT:(ev (n+17)).S iF (fE raw ⟨cnt,b,m,nt,d_ 9⟩) uZ=some (.next,fE raw ⟨bump cnt b,0,m+1,nt+1,d_ 9⟩):=
  (cK (v:=.bool true) ⋯ ⋯ rfl).trans hB
 have hF:(ev (n+19)).S iF (fE raw ⟨cnt,b,m,nt,d_ 9⟩) (au (bd pd) 0)=some (.next,fE raw ⟨bump cnt b,0,m+1,nt+1,d_ 9⟩):=
  (cK (v:=.bool false) ⋯ ⋯ rfl).trans ((bf (n:=n+17) (b:=fD (au (bd pd) 0)) 0 ⋯ hT).trans ⋯)
 refine .trans ?_ ((bf 0 ⋯ hF).trans ⋯);rcases hr with h|⟨c,h⟩<;>(subst h;kernel_rfl)
def Qn(raw cnt:aa)(b n nt:Nat):PV:=Ik raw [(("n":Str),.int n),("nt",.int nt),("norm",.tup [.tup (ap cnt),.int b]),("is_simple",.bool (decide (cnt.length<=1)))]
def pe(raw:aa)(a:qP)(fs:List (Str×PV))(own:af):St:=⟨[(("self":Str),Ik raw fs),("ws",pS raw),("S",pS [32]),("T",pS [9]),("count",.list (ap a.cnt)),("b",.int a.b),("n",.int a.n),("nt",.int a.nt)]++a.r,own,["self"]⟩
theorem VM(cnt)(b)(hc:cnt.length<=1001)(hb:b<=900):(iz cnt b).length<=1001:=by
 delta iz;by_cases h:cnt.length<=b
 ·rw[aA h,cb,gV];exact aD (ej ((gH ..).symm.trans (aR (· +1) (kK h)))) (lJ (aD hb (by decide)))
 ·rw[aJ h];exact hc
theorem YR(a)(c k)(hb:a.b+(k+1)<=900)(hc:a.cnt.length<=1001):(mA a c).b+k<=900/\(mA a c).cnt.length<=1001/\Cj (mA a c).r:=by
 unfold mA;by_cases h:c=32
 ·rw[aA h];exact⟨by show a.b+1+k<=900;lia,hc,.inr ⟨c,rfl⟩⟩
 ·rw[aJ h];exact⟨by show 0+k<=900;lia,by show(bump _ _).length<=_;unfold bump;rw[RJ];exact VM _ _ hc (IN hb),.inr ⟨c,rfl⟩⟩
theorem aaI(n:Nat)(A rest:aa)(hA:∀c∈A,c=32\/c=9)(hl:A.length<=900)(cnt:aa)(b m nt:Nat)(r:Loc)(hf:A.foldl mA ⟨[],0,0,0,[]⟩=⟨cnt,b,m,nt,r⟩):
  (ev (n+40)).C "Whitespace" [pS (A++120::rest)] []=some (Qn (A++120::rest) cnt b m nt):=by
 have fm:=VK (r:=ev (n+33)) (sc:=iF) (t:=dH pd) (body:=bd pd) (λc=>pS [c]) mA (fE (A++120::rest)) (λk a=>a.b+k<=900/\a.cnt.length<=1001/\Cj a.r) ((120::rest).map chr) A ⟨[],0,0,0,[]⟩ ⟨by show 0+_<=_;lia,by show 0<=_;exact du 1001,.inl rfl⟩
  λk a ha c hc=>⟨by
   rcases hA c hc with h|h
   ·subst h;exact YP (n+13) _ a ha.2.2
   ·subst h;exact YQ (n+13) _ a ha.2.2 (by lia) (by lia),YR a c k ha.1 ha.2.1⟩
 rw[hf]at fm;obtain⟨hF,hP⟩:=fm;obtain⟨hb,hc,hr⟩:=hP;dsimp only at hb hc hr;generalize ack:A++120::rest=raw at hF⊢;have YS:(raw.map chr)=A.map (λc=>pS [c])++(120::rest).map chr:=by rw[<-ack,ei];rfl
 have eU:(ap cnt).length=cnt.length:=ba ..;have e4:(ev (n+34)).S iF (fE raw ⟨[],0,0,0,[]⟩) pd=some (.next,fE raw ⟨cnt,b,m,nt,d_ 120⟩):=by refine(jh (aE:=fE raw ⟨[],0,0,0,[]⟩) (v:=pS raw) (xs:=raw.map chr) ⋯ (rD ⋯ ⋯ rfl) rfl).trans ?_;rw[YS,hF];refine L' (x:=chr 120) ?_;rcases hr with h|⟨c,h⟩<;>(subst h;kernel_rfl)
 have mu:bo (ap cnt).length=true:=by rw[eU];exact bh (by lia)
 have BP:(((if bo (ap cnt).length then some (PV.tup (ap cnt))else .none).bind λv=>(some [PV.int b]).map λvs=>v::vs).bind λvs=>if bo vs.length then some (PV.tup vs)else .none)=some (.tup [.tup (ap cnt),.int b]):=by rw[mu];rfl
 have e7:(ev (n+31)).S iF (pe raw ⟨cnt,b,m,nt,d_ 120⟩ [(("n":Str),.int m),("nt",.int nt)] ["count","self"]) (au pc 7)=some (.next,pe raw ⟨cnt,b,m,nt,d_ 120⟩ [(("n":Str),.int m),("nt",.int nt),("norm",.tup [.tup (ap cnt),.int b])] ["self"]):=by
  refine(Nc (q:=(FF (au pc 7)).get!) (v:=.tup [.tup (ap cnt),.int b]) (aE:=pe raw ⟨cnt,b,m,nt,d_ 120⟩ [(("n":Str),.int m),("nt",.int nt)] ["self"]) (fs:=[(("raw":Str),pS raw),("n",.int m),("nt",.int nt)]) ⋯ (tM ⋯ (.trans ⋯ BP) rfl ?_ ?_) ⋯ ⋯ ⋯).trans ⋯
  ·refine .trans (b:=wy ((((if bo (ap cnt).length then some (PV.tup (ap cnt))else .none).bind λv=>(some [PV.int b]).map λvs=>v::vs).bind λvs=>if bo vs.length then some (PV.tup vs)else .none).map λv=>(v,pe raw ⟨cnt,b,m,nt,d_ 120⟩ [(("n":Str),.int m),("nt",.int nt)] ["self"])) (Bq (ev (n+30)) iF (pe raw ⟨cnt,b,m,nt,d_ 120⟩ [(("n":Str),.int m),("nt",.int nt)] ["count","self"]) (aX (au pc 7)) ["self"])) ⋯ ?_;rw[BP];rfl
  ·show(b_ (ap cnt)&&(true&&true))=true;rw[hH];rfl
 have e8:(ev (n+30)).S iF (pe raw ⟨cnt,b,m,nt,d_ 120⟩ [(("n":Str),.int m),("nt",.int nt),("norm",.tup [.tup (ap cnt),.int b])] ["self"]) (au pc 8)=some (.next,pe raw ⟨cnt,b,m,nt,d_ 120⟩ [(("n":Str),.int m),("nt",.int nt),("norm",.tup [.tup (ap cnt),.int b]),("is_simple",.bool (decide (cnt.length<=1)))] ["self"]):=by
  refine(Nc (q:=(FF (au pc 8)).get!) (v:=.bool (decide (cnt.length<=1))) (aE:=pe raw ⟨cnt,b,m,nt,d_ 120⟩ [(("n":Str),.int m),("nt",.int nt),("norm",.tup [.tup (ap cnt),.int b])] ["self"]) (fs:=[(("raw":Str),pS raw),("n",.int m),("nt",.int nt),("norm",.tup [.tup (ap cnt),.int b])]) ⋯ (aY (.trans (b:=(if bo (ap cnt).length then some (PV.int (ap cnt).length)else .none).bind λx=>(some (PV.int 1)).bind λy=>(fU .LtE x y).map .bool) ⋯ ?_) rfl) ⋯ ⋯ ⋯).trans ⋯;rw[mu,eU];show some (PV.bool (decide ((cnt.length:Int)<=1)))=_;congr 2;by_cases h:cnt.length<=1
  ·rw[bh h,bh (by exact Nat.ToInt.of_le rfl rfl h)]
  ·rw[cA h,cA (by lia)]
 have hB:(ev (n+39)).B iF ⟨[(("self":Str),.inst []),("ws",pS raw)],["self"],["self"]⟩ (pc.drop 0)=some (.next,pe raw ⟨cnt,b,m,nt,d_ 120⟩ [(("n":Str),.int m),("nt",.int nt),("norm",.tup [.tup (ap cnt),.int b]),("is_simple",.bool (decide (cnt.length<=1)))] ["self"]):=by refine .trans (b:=(ev (n+35)).B iF (fE raw ⟨[],0,0,0,[]⟩) (pc.drop 4)) ⋯ ?_;refine ao (bf 4 ⋯ e4) ?_;refine .trans (b:=(ev (n+32)).B iF (pe raw ⟨cnt,b,m,nt,d_ 120⟩ [(("n":Str),.int m),("nt",.int nt)] ["count","self"]) (pc.drop 7)) ⋯ ?_;refine ao (bf 7 ⋯ e7) ?_;rw[bf 8 ⋯ e8];kernel_rfl
 refine .trans (b:=((((ev (n+39)).B iF ⟨[(("self":Str),.inst []),("ws",pS raw)],["self"],["self"]⟩ (pc.drop 0)).bind (eK ["self"])).bind nh).bind λs=>s.loc.lookup ("self":Str)) ⋯ ?_;rw[hB];kernel_rfl
theorem J0:(l:List PyData)->(∀x∈l,i9 x x=true)->pC l l=true:=by
 intro l;induction l with
 |nil=>intro _;rw[pC]
 |cons x l ih=>intro h;rw[pC,h x (ch ..),ih λy hy=>h y (cf _ hy)];rfl
theorem AN:(l:List PyData)->(∀x∈l,x.canLay0=true)->z7 l=true:=by
 intro l;induction l with
 |nil=>intro _;rw[z7]
 |cons x l ih=>intro h;rw[z7,h x (ch ..),ih λy hy=>h y (cf _ hy)];rfl
theorem Ay(k):(l:List PyData)->(∀x∈l,x.depth<=k)->Aa l<=k:=by
 intro l;induction l with
 |nil=>intro _;rw[Aa];exact du _
 |cons x l ih=>intro h;rw[Aa];exact oi.mpr ⟨h x (ch ..),ih λy hy=>h y (cf _ hy)⟩
theorem E6(a b):i9 (.int a) (.int b)=decide (a=b):=by rw[i9];first |rfl|exact Bool.beq_eq_decide_eq a b
theorem Eh(a):(vw a).canLay0=true:=by rw[Af]
theorem Er(a):(vw a).depth=0:=by rw[Aj]
def dI(l:aa):List PyData:=l.map λk:Nat=>vw k
theorem Gq:(a b:aa)->pC (dI a) (dI b)=decide (a=b)
 |[],[]=>by rw[show dI []=[] from rfl,pC];rfl
 |[],y::b=>by rw[show dI []=[] from rfl,show dI (y::b)=.int y::dI b from rfl,pC];rfl
 |x::a,[]=>by rw[show dI []=[] from rfl,show dI (x::a)=.int x::dI a from rfl,pC];rfl
 |x::a,y::b=>by
  rw[show dI (x::a)=.int x::dI a from rfl,show dI (y::b)=.int y::dI b from rfl,pC,Gq a b,E6];by_cases h:x=y
  ·subst h;rw[bh rfl,DL];by_cases h2:a=b
   ·subst h2;refine ao (bh rfl) ?_;rw[bh rfl]
   ·refine ao (cA h2) ?_;rw[cA λh=>h2 (DI h).2]
  ·rw[cA (show¬(x:Int)=y by exact IU rfl rfl h),RP,cA λh2=>h (DI h2).1]
theorem FH(l:aa):z7 (dI l)=true:=AN _ λx hx=>by refine br (eH.mp hx) λk z bb=>?_;subst bb;exact Eh _
theorem FI(l:aa):Aa (dI l)<=0:=Ay 0 _ λx hx=>by refine br (eH.mp hx) λk z bb=>?_;subst bb;exact ej (Er _)
theorem E7:(l:aa)->hZ (ap l)=some (dI l):=by
 intro l;induction l with
 |nil=>exact rfl
 |cons x l ih=>show(some (vw x)).bind (λx=>(hZ (ap l)).map (x:: ·))=_;rw[ih];rfl
theorem E8{l:List PyData}(h:z7 l=true)(h2:Aa l<=60):gX (.list l)=true:=by unfold gX;rw[Af,Aj,h,bh (by lia)];rfl
theorem YT{l:List PyData}(h:z7 l=true)(h2:Aa l<=60):gX (.tuple l)=true:=by unfold gX;rw[Af,Aj,h,bh (by lia)];rfl
theorem tN(a b:aa):kf (.list (ap a)) (.list (ap b))=some (decide (a=b)):=by show(((hZ (ap a)).map JB).bind λx=>((hZ (ap b)).map JB).bind λy=>if gX x&&gX y then some (i9 x y)else .none)=_;rw[E7,E7];show(if gX (.list (dI a))&&gX (.list (dI b))then some (i9 (.list (dI a)) (.list (dI b)))else .none)=_;rw[E8 (FH a) (aD (FI a) (du 60)),E8 (FH b) (aD (FI b) (du 60)),i9,Gq];rfl
def qQ(a:aa)(b:Nat):PV:=.tup [.tup (ap a),.int b]
theorem eq_norm(a b:aa)(c d:Nat):kf (qQ a c) (qQ b d)=some (decide (a=b)&&decide (c=d)):=by
 have hd:∀a c,so (qQ a c)=some (.tuple [.tuple (dI a),.int c]):=λa c=>by show(((hZ (ap a)).map JA).bind λx=>(some [vw c]).map (x:: ·)).map JA=_;rw[E7];rfl
 have hs:∀a c,gX (.tuple [.tuple (dI a),.int c])=true:=λa c=>by
  refine YT (AN _ λx hx=>?_) (Ay 60 _ λx hx=>?_)
  ·rcases cc.mp hx with h|h
   ·rw[h,Af,FH]
   ·rw[cW h,Eh]
  ·rcases cc.mp hx with h|h
   ·rw[h,Aj];have :=FI a;lia
   ·rw[cW h,Er];exact du 60
 show((so (qQ a c)).bind λx=>(so (qQ b d)).bind λy=>if gX x&&gX y then some (i9 x y)else .none)=_;rw[hd,hd];show(if gX (.tuple [.tuple (dI a),.int c])&&gX (.tuple [.tuple (dI b),.int d])then some (i9 (.tuple [.tuple (dI a),.int c]) (.tuple [.tuple (dI b),.int d]))else .none)=_;rw[hs,hs,aA (show(true&&true)=true from rfl),i9,pC,i9,Gq,pC,E6,pC,vt];congr 2;by_cases h:c=d
 ·rw[bh h,bh (by exact Int.ofNat_inj.mpr h)]
 ·rw[cA h,cA (by exact IU rfl rfl h)]
theorem Ml{vs:ab}{l:List PyData}(h:hZ vs=some l)(h1:∀x∈l,x.canLay0=true/\x.depth<=60/\i9 x x=true):kf (.list vs) (.list vs)=some true:=by show(((hZ vs).map JB).bind λx=>((hZ vs).map JB).bind λy=>if gX x&&gX y then some (i9 x y)else .none)=_;rw[h];show(if gX (.list l)&&gX (.list l)then some (i9 (.list l) (.list l))else .none)=_;rw[E8 (AN l λx hx=>(h1 x hx).1) (Ay 60 l λx hx=>(h1 x hx).2.1),i9,J0 l λx hx=>(h1 x hx).2.2];rfl
theorem W6(ls:List aa)(hk:∀l∈ls,DQ (dN l)=true):kf (.list (ls.map pS)) (.list (ls.map pS))=some true:=by
 have hd:(ls:List aa)->hZ (ls.map pS)=some (ls.map λl=>agT (dN l)):=λls=>by
  induction ls with
  |nil=>rfl
  |cons l ls ih=>show(some (agT (dN l))).bind (λx=>(hZ (ls.map pS)).map (x:: ·))=_;rw[ih];rfl
 refine Ml (hd ls) λx hx=>br (eH.mp hx) λl hl bb=>?_;subst bb;refine⟨by rw[Af];exact hk l hl,by rw[Aj];lia,by rw[i9];exact beq_self_eq_true _⟩
def tupI(t:ac):PV:=.tup (t.map .int)
theorem E9(ls:List ac):kf (.list (ls.map tupI)) (.list (ls.map tupI))=some true:=by
 have h0:(t:ac)->hZ (t.map .int)=some (t.map .int):=λt=>by
  induction t with
  |nil=>rfl
  |cons x t ih=>show(some (vw x)).bind (λx=>(hZ (t.map .int)).map (x:: ·))=_;rw[ih];rfl
 have hd:(ls:List ac)->hZ (ls.map tupI)=some (ls.map λt=>JA (t.map .int)):=λls=>by
  induction ls with
  |nil=>rfl
  |cons l ls ih=>show((hZ (l.map .int)).map JA).bind (λx=>(hZ (ls.map tupI)).map (x:: ·))=_;rw[ih,h0];rfl
 refine Ml (hd ls) λx hx=>?_;obtain⟨t,_,rfl⟩:=eH.mp hx;have hm:∀y∈t.map vw,∃i,y=vw i:=λy hy=>by refine br (eH.mp hy) λi z bb=>?_;subst bb;exact⟨i,rfl⟩
 have h1:=AN _ λy hy=>by refine oE (hm y hy) λi bb=>?_;subst bb;exact Eh _
 have h2:=Ay 0 _ λy hy=>by refine oE (hm y hy) λi bb=>?_;subst bb;exact ej (Er _)
 have h3:=J0 _ λy hy=>by refine oE (hm y hy) λi bb=>?_;subst bb;refine ao (E6 ..) ?_;rw[bh rfl]
 exact⟨by rw[Af];exact h1,by rw[Aj];lia,by rw[i9];exact h3⟩
structure WV where
 raw:aa
 cnt:aa
 b:Nat
 n:Nat
 nt:Nat
def WV.pv(w:WV):PV:=Qn w.raw w.cnt w.b w.n w.nt
def WV.ok(w:WV):Prop :=1<=w.cnt.length/\w.cnt.length<=900/\w.b<=900/\(∀c∈w.cnt,c<=1000)/\w.nt<=1000
def WV.lg(w:WV):Nat:=max (w.cnt.length-1) w.b
def jH(ts:Nat)(cnt:aa)(il k:Nat):Nat:=il+(ts+k)/ts*cnt.getD (ts+k) 0
def WV.mB(w:WV)(ts:Nat):Nat:=w.b+ts*((aG (w.cnt.length-ts)).foldl (jH ts w.cnt) 0+w.nt)
def Il:aH:=(Mt "longest_run_of_spaces").scope
def zr:ad:=(Mt "longest_run_of_spaces").body
def sM:aH:=(Mt "indent_level").scope
def mD:ad:=(Mt "indent_level").body
theorem Ol(n:Nat)(w:WV)(h:w.ok):(ev (n+20)).C "Whitespace.longest_run_of_spaces" [w.pv] []=some (.int w.lg):=by
 have eU:(ap w.cnt).length=w.cnt.length:=ba ..;have e0:(ev (n+18)).S Il (bC [("self",w.pv)]) (au zr 0)=some (.next,bC [("self",w.pv),("count",.tup (ap w.cnt)),("trailing",.int w.b)]):=
  (kT (q:=(kl (au zr 0)).get!) (aE:=bC [("self",w.pv)]) (v:=qQ w.cnt w.b) (l:=[(("self":Str),w.pv),("count",.tup (ap w.cnt)),("trailing",.int w.b)]) ⋯ ⋯ ⋯ ⋯ (aY ⋯ (show(b_ (ap w.cnt)&&(true&&true))=true by rw[hH];rfl)) ⋯).trans ⋯
 have e1:(ev (n+17)).S Il (bC [("self",w.pv),("count",.tup (ap w.cnt)),("trailing",.int w.b)]) (au zr 1)=some (.ret (.int w.lg),bC [("self",w.pv),("count",.tup (ap w.cnt)),("trailing",.int w.b)]):=by
  refine gu ⋯ (aY ((fk (f:=.blt "max") (kw:=[]) (vs:=[.int ((w.cnt.length:Int)-1),.int w.b]) (q:=(bK (aX (au zr 1))).get!) ⋯ ⋯ ⋯ ?_ ⋯).trans ?_) rfl)
  ·refine .trans (b:=((if bo (ap w.cnt).length then some (PV.int (ap w.cnt).length)else .none).bind λx=>(some (PV.int 1)).bind λy=>bj .Sub x y).bind λv=>(some [PV.int w.b]).map (v:: ·)) ⋯ ?_;rw[eU,show bo w.cnt.length=true from bh (by have :=h.2.1;lia)];rfl
  ·refine .trans (b:=some (.int (if((w.cnt.length:Int)-1)<w.b then(w.b:Int)else(w.cnt.length:Int)-1))) ⋯ ?_;have :=h.1;unfold WV.lg;by_cases h2:((w.cnt.length:Int)-1)<w.b
   ·rw[aA h2,DC (by lia)]
   ·rw[aJ h2,Jq (by lia)];congr 2;lia
 exact .trans (b:=(((ev (n+19)).B Il (bC [("self",w.pv)]) (zr.drop 0)).bind (eK [])).map (·.1)) ⋯ (fi ((bf 0 ⋯ e0).trans (de 1 ⋯ e1)) rfl)
def mE(w:WV)(ts il:Nat)(o:ag):St:=bC ([(("self":Str),w.pv),("tabsize",.int ts),("count",.tup (ap w.cnt)),("trailing",.int w.b),("il",.int il)]++oL "i" o)
theorem Mm{l:aa}{b:Nat}(h:∀c∈l,c<=b)(k):l.getD k 0<=b:=by
 by_cases hk:k<l.length
 ·exact h _ (getD_mem hk)
 ·rw[dD,vi (tj hk)];exact du _
theorem aaJ(n:Nat)(w:WV)(h:w.ok)(ts il k:Nat)(o:ag)(ht:1<=ts/\ts<=1000)(hk:ts+k<w.cnt.length):
  eN (ev (n+15)) sM (dH (au mD 2)) (bd (au mD 2)) (.int (ts+k)) (mE w ts il o)=some (.next,mE w ts (jH ts w.cnt il k) (some (.int (ts+k)))):=by
 have hc:=Mm h.2.2.2.1 (ts+k);have hd:(ts+k)/ts<=ts+k:=Jr ..;have h2:=h.2.1;have hS:(ev (n+14)).S sM (mE w ts il (some (.int (ts+k)))) (au (bd (au mD 2)) 0)=some (.next,mE w ts (jH ts w.cnt il k) (some (.int (ts+k)))):=by refine(dr (x:="il") (aE:=mE w ts il (some (.int (ts+k)))) (v:=.int (jH ts w.cnt il k)) ⋯ ⋯ (aY (.trans (b:=(((cQ .FloorDiv ((ts:Int)+k) ts).bind λx=>(if bJ ((ts:Int)+k)then b0 (ap w.cnt) ((ts:Int)+k)else .none).bind λy=>bj .Mult x y).bind λy=>bj .Add (.int il) y)) ⋯ ?_) rfl)).trans ⋯;rw[BQ (by lia),<-fg,tY hk (by lia),pp _ (cz ts),<-Jn];show((cQ .Mult ((((ts+k)/ts:Nat):Int)) _).bind λy=>bj .Add (.int il) y)=_;unfold jH;generalize (ts+k)/ts=d at hd⊢;rw[lW (by lia) (by lia)];show some (PV.int ((il:Int)+_))=_;rw[<-rm,<-fg]
 exact .trans (by induction o<;>kernel_rfl) ((bf 0 ⋯ hS).trans ⋯)
theorem BT(n:Nat)(w:WV)(h:w.ok)(ts:Nat)(ht:1<=ts/\ts<=1000):(ev (n+25)).C "Whitespace.indent_level" [w.pv,.int ts] []=some (.int (w.mB ts)):=by
 have eU:(ap w.cnt).length=w.cnt.length:=ba ..;have h2:=h.2.1;have fm:=oo (r:=ev (n+20)) (sc:=sM) (t:=dH (au mD 2)) (body:=bd (au mD 2)) (λk:Nat=>PV.int (ts+k)) (λ(a:Nat×ag) k=>(jH ts w.cnt a.1 k,some (PV.int (ts+k)))) (λa=>mE w ts a.1 a.2) (λk a=>a.1+k*1000000<=900*1000000) (aG (w.cnt.length-ts)) (0,.none) (by rw[cV];show 0+_<=_;lia)
  λk a ha j hj=>⟨aaJ (n+5) w h ts a.1 j a.2 ht (by have :=bI.mp hj;exact IQ this),by
   have hj:=bI.mp hj;show jH ts w.cnt a.1 j+k*1000000<=_;unfold jH;have h3:(ts+j)/ts*w.cnt.getD (ts+j) 0<=900*1000:=Ai (aD (Jr ..) (by lia)) (Mm h.2.2.2.1 _);lia⟩
 have jG:∀(l:aa)(a:Nat×ag),(l.foldl (λ(a:Nat×ag) k=>(jH ts w.cnt a.1 k,some (PV.int (ts+k)))) a).1=l.foldl (jH ts w.cnt) a.1:=by
  intro l;induction l with
  |nil=>intro a;rfl
  |cons x l ih=>intro a;exact ih _
 have hA:=jG (aG (w.cnt.length-ts)) (0,.none);obtain⟨hF,hP⟩:=fm;unfold WV.mB;rw[<-show _=(aG (w.cnt.length-ts)).foldl (jH ts w.cnt) 0 from hA];generalize (aG (w.cnt.length-ts)).foldl (λ(a:Nat×ag) k=>(jH ts w.cnt a.1 k,some (PV.int (ts+k)))) (0,.none)=a at hF hP;obtain⟨il,o⟩:=a;dsimp only at hP hF⊢;have h5:=h.2.2.2.2;have e0:(ev (n+23)).S sM (bC [("self",w.pv),("tabsize",.int ts)]) (au mD 0)=some (.next,bC [("self",w.pv),("tabsize",.int ts),("count",.tup (ap w.cnt)),("trailing",.int w.b)]):=
  (kT (q:=(kl (au mD 0)).get!) (aE:=bC [("self",w.pv),("tabsize",.int ts)]) (v:=qQ w.cnt w.b) (l:=[(("self":Str),w.pv),("tabsize",.int ts),("count",.tup (ap w.cnt)),("trailing",.int w.b)]) ⋯ ⋯ ⋯ ⋯ (aY ⋯ (show(b_ (ap w.cnt)&&(true&&true))=true by rw[hH];rfl)) ⋯).trans ⋯
 have e1:(ev (n+22)).S sM (bC [("self",w.pv),("tabsize",.int ts),("count",.tup (ap w.cnt)),("trailing",.int w.b)]) (au mD 1)=some (.next,mE w ts 0 .none):=⋯
 have e2:(ev (n+21)).S sM (mE w ts 0 .none) (au mD 2)=some (.next,mE w ts il o):=by
  refine(jh ⋯ (aY ?_ rfl) (pR ts w.cnt.length (by lia))).trans ?_
  ·refine(fk (f:=.blt "range") (kw:=[]) (vs:=[.int ts,.int w.cnt.length]) (q:=(bK (aX (au mD 2))).get!) ⋯ ⋯ ⋯ ?_ ⋯).trans ⋯;refine .trans (b:=((if bo (ap w.cnt).length then some (PV.int (ap w.cnt).length)else .none).bind λv=>some [v]).map (PV.int ts:: ·)) ⋯ ?_;rw[eU,show bo w.cnt.length=true from bh (by lia)];rfl
  ·rw[show((w.cnt.length:Int)-ts).toNat=w.cnt.length-ts by exact agY w.cnt.length ts];exact hF
 have e3:(ev (n+20)).S sM (mE w ts il o) (au mD 3)=some (.ret (.int (w.b+ts*(il+w.nt):Nat)),mE w ts il o):=by refine gu ⋯ (aY (.trans (b:=(cQ .Mult (ts:Int) ((il:Int)+w.nt)).bind λy=>bj .Add (.int w.b) y) (by induction o<;>kernel_rfl) ?_) rfl);rw[lW (by lia) (by lia)];show some (PV.int ((w.b:Int)+_))=_;rw[<-fg,<-rm,<-fg]
 refine .trans (b:=(((ev (n+24)).B sM (bC [("self",w.pv),("tabsize",.int ts)]) (mD.drop 0)).bind (eK [])).map (·.1)) ⋯ (fi (st:=mE w ts il o) ?_ rfl);refine ao (bf 0 ⋯ e0) ?_;rw[bf 1 ⋯ e1,bf 2 ⋯ e2,de 3 ⋯ e3]
theorem Om(n:Nat)(v w:WV):(ev (n+12)).C "Whitespace.equal" [v.pv,w.pv] []=some (.bool (decide (v.cnt=w.cnt)&&decide (v.b=w.b))):=by
 have e0:(ev (n+10)).S (Mt "equal").scope (bC [("self",v.pv),("other",w.pv)]) (au (Mt "equal").body 0)=some (.ret (.bool (decide (v.cnt=w.cnt)&&decide (v.b=w.b))),bC [("self",v.pv),("other",w.pv)]):=by refine gu ⋯ (aY (.trans (b:=(kf (qQ v.cnt v.b) (qQ w.cnt w.b)).map .bool) ⋯ ?_) rfl);rw[eq_norm];rfl
 exact .trans (b:=(((ev (n+11)).B (Mt "equal").scope (bC [("self",v.pv),("other",w.pv)]) ((Mt "equal").body.drop 0)).bind (eK [])).map (·.1)) ⋯ (fi (de 0 ⋯ e0) rfl)
section
variable{n k w:Nat}{sc cs:aH}{A:dQ}{pos:Pos}{r:Rec}{st:St}{a:aw}{P:Prop}{own:al}{fl:bG}{d:FD}{c:Bool}{body:ad}{E:ar->ak}{b:Int}{nm:Str}{ns:af}{it:ar}{M:Model}
theorem W7(g:β->PV)(p:β->Bool)(v)(F:ag->St):(xs:List β)->(o:ag)->
  (∀o,∀x∈xs,eN r sc t body (g x) (F o)=some (if p x=true then .next else .ret v,F (some (g x))))->∃o',dT r sc t body (xs.map g) (F o)=some (if xs.all p=true then .next else .ret v,F o'):=by
 intro xs;induction xs with
 |nil=>exact λo z=>⟨o,rfl⟩
 |cons x xs ih=>
  intro o h;have h1:=h o x (ch ..);show ∃o',dT r sc t body (g x::xs.map g) (F o)=some (if(p x&&xs.all p)=true then .next else .ret v,F o');induction hp:p x with
  |true=>rw[hp]at h1;rw[lT h1,DL];exact ih _ λo y hy=>h o y (cf _ hy)
  |false=>rw[hp]at h1;exact⟨some (g x),vL h1⟩
theorem xZ(a b:Nat):decide ((a:Int)<=b)=decide (a<=b):=by
 by_cases h:a<=b
 ·rw[bh h,bh (eP.mpr h)]
 ·rw[cA h,cA (by lia)]
def qR:aH:=(Mt "less").scope
def pf:ad:=(Mt "less").body
def jo(v w:WV)(r:Loc)(own:af):St:=⟨[(("self":Str),v.pv),("other",w.pv)]++r,own,[]⟩
def iG(v w:WV)(ts:Nat):Bool:=decide (v.mB ts<w.mB ts)
def qc(v w:WV):Bool:=if w.n<=v.n then false else if(decide (v.cnt.length<=1)&&decide (w.cnt.length<=1))=true then decide (v.nt<=w.nt)else(aG (max v.lg w.lg)).all λk=>iG v w (2+k)
theorem Nm(n:Nat)(v w:WV)(hv:v.ok)(hw:w.ok)(ts:Nat)(ht:1<=ts/\ts<=1000)(h:(ev (n+28)).E sc l e=(((ev (n+26)).C "Whitespace.indent_level" [v.pv,.int ts] []).bind λx=>((ev (n+26)).C "Whitespace.indent_level" [w.pv,.int ts] []).bind λy=>(fU .GtE x y).map .bool)):
  (ev (n+28)).E sc l e=some (.bool !iG v w ts):=by
 rw[h,BT (n+1) v hv ts ht,BT (n+1) w hw ts ht];show some (PV.bool (decide ((w.mB ts:Int)<=v.mB ts)))=_;rw[xZ];unfold iG;by_cases h:w.mB ts<=v.mB ts
 ·rw[bh h,cA (jV.mpr h)];rfl
 ·rw[cA h,bh (agC h)];rfl
theorem BU(w:WV)(h:w.ok):w.lg<=900:=oi.mpr ⟨aD (i_ ..) h.2.1,h.2.2.1⟩
theorem Nn(n:Nat)(v w:WV)(hv:v.ok)(hw:w.ok)(h:(ev (n+26)).E sc l e=(((((ev (n+23)).C "Whitespace.longest_run_of_spaces" [v.pv] []).bind λx=>(((ev (n+23)).C "Whitespace.longest_run_of_spaces" [w.pv] []).bind λy=>some [y]).map (x:: ·)).bind λvs=>FU "max" vs).bind λx=>bj .Add x (.int 1))):
  (ev (n+26)).E sc l e=some (.int ((max v.lg w.lg+1:Nat):Int)):=by
 refine ao h ?_;rw[Ol (n+3) v hv,Ol (n+3) w hw];show(rp (some (PV.int (if(v.lg:Int)<w.lg then(w.lg:Int)else v.lg))) λx=>bj .Add x (.int 1))=_;by_cases h:(v.lg:Int)<w.lg
 ·rw[aA h,DC (by lia)];rfl
 ·rw[aJ h,Jq (by lia)];rfl
def mF(v w:WV)(o:ag):St:=jo v w ([(("n":Str),PV.int ((max v.lg w.lg+1:Nat):Int))]++oL "ts" o) []
theorem aaK(n:Nat)(v w:WV)(hv:v.ok)(hw:w.ok)(k:Nat)(o:ag)(hk:2+k<=1000):eN (ev (n+30)) qR (dH (au pf 3)) (bd (au pf 3)) (.int (2+k)) (mF v w o)=some (if iG v w (2+k)=true then .next else .ret (.bool false),mF v w (some (.int (2+k)))):=by have hE:=Nm n v w hv hw (2+k) (by lia) (sc:=qR) (l:=(mF v w (some (.int ((2+k:Nat):Int)))).loc) (e:=aX (au (bd (au pf 3)) 0)) ⋯;rw[fg]at hE;have hS:=cK (aE:=mF v w (some (.int (2+k)))) (c:= !iG v w (2+k)) ⋯ (aY hE rfl) rfl;refine .trans (b:=(ev (n+30)).B qR (mF v w (some (.int (2+k)))) ((bd (au pf 3)).drop 0)) (by induction o<;>kernel_rfl) ?_;refine ao (oY 0 ⋯) ?_;rw[hS];cases iG v w (2+k)<;>kernel_rfl
theorem BV(n:Nat)(v w:WV)(hv:v.ok)(hw:w.ok):(ev (n+37)).C "Whitespace.less" [v.pv,w.pv] []=some (.bool (qc v w)):=by
 have hvl:=BU v hv;have qS:=BU w hw;have eA:=oi.mpr ⟨hvl,qS⟩
 suffices h:∃st,(ev (n+36)).B qR (jo v w [] []) (pf.drop 0)=some (.ret (.bool (qc v w)),st)/\pP [] st=true by refine br h λst h hb=>.trans (b:=(((ev (n+36)).B qR (jo v w [] []) (pf.drop 0)).bind (eK [])).map (·.1)) ⋯ (fi h hb)
 unfold qc;have h0:=cK (n:=n+34) (sc:=qR) (st:=jo v w [] []) (v:=.bool (decide ((w.n:Int)<=v.n))) (aE:=jo v w [] []) (c:=decide ((w.n:Int)<=v.n)) (s:=au pf 0) ⋯ ⋯ rfl;rw[xZ]at h0;by_cases c0:w.n<=v.n
 ·rw[bh c0]at h0;rw[aA c0];exact⟨jo v w [] [],de 0 ⋯ (h0.trans ⋯),rfl⟩
 rw[cA c0]at h0;rw[aJ c0,bf (aE:=jo v w [] []) 0 ⋯ (h0.trans ⋯)];have h1:=cK (n:=n+33) (sc:=qR) (st:=jo v w [] []) (v:=.bool (decide (v.cnt.length<=1)&&decide (w.cnt.length<=1))) (aE:=jo v w [] []) (c:=decide (v.cnt.length<=1)&&decide (w.cnt.length<=1)) (s:=au pf 1) ⋯ (aY (.trans (b:=if yq .And (decide (v.cnt.length<=1))=true then some (.bool (decide (v.cnt.length<=1)))else some (.bool (decide (w.cnt.length<=1)))) ⋯ (by cases decide (v.cnt.length<=1)<;>rfl)) rfl) rfl;cases c1:(decide (v.cnt.length<=1)&&decide (w.cnt.length<=1))with
 |true=>rw[c1]at h1;rw[aA rfl];refine⟨jo v w [] [],de 1 ⋯ (h1.trans (de 0 ⋯ (gu ⋯ (aY (.trans (b:=some (.bool (decide ((v.nt:Int)<=w.nt)))) ⋯ (by rw[xZ])) rfl)))),rfl⟩
 |false=>
  rw[c1]at h1;rw[aJ (by decide),bf 1 ⋯ (h1.trans ⋯)];have h2:(ev (n+33)).S qR (jo v w [] []) (au pf 2)=some (.next,mF v w .none):=
   (dr (x:="n") ⋯ ⋯ (aY (Nn (n+6) v w hv hw ⋯) rfl)).trans ⋯
  rw[bf 2 ⋯ h2];obtain⟨o,hf⟩:=W7 (λk:Nat=>PV.int (2+k)) (λk=>iG v w (2+k)) (.bool false) (mF v w) (aG (max v.lg w.lg)) .none
   λo k hk=>aaK (n+1) v w hv hw k o (by have :=bI.mp hk;lia)
  have h3:(ev (n+32)).S qR (mF v w .none) (au pf 3)=some (if((aG (max v.lg w.lg)).all λk=>iG v w (2+k))=true then .next else .ret (.bool false),mF v w o):=by refine(jh (aE:=mF v w .none) (v:=.ey 2 ((max v.lg w.lg+1:Nat)+1:Int) 1) ⋯ (aY ⋯ rfl) (pR 2 _ (by lia))).trans ?_;rw[show(((max v.lg w.lg+1:Nat):Int)+1-2).toNat=max v.lg w.lg by lia];exact hf
  cases c2:(aG (max v.lg w.lg)).all λk=>iG v w (2+k)with
  |true=>rw[c2]at h3;rw[bf 3 ⋯ h3];refine⟨mF v w o,?_,rfl⟩;induction o<;>kernel_rfl
  |false=>rw[c2]at h3;exact⟨mF v w o,de 3 ⋯ h3,rfl⟩
def qT:aH:=(Mt "not_less_witness").scope
def mG:ad:=(Mt "not_less_witness").body
def sN(v w:WV)(ts:Nat):ac:=[ts,v.mB ts,w.mB ts]
def iZ(v w:WV)(a:List ac)(o:ag):St:=jo v w ([(("n":Str),PV.int ((max v.lg w.lg+1:Nat):Int)),("a",.list (a.map tupI))]++oL "ts" o) ["a"]
def mH(v w:WV)(a:List ac)(k:Nat):List ac:=if iG v w (1+k)=true then a else a++[sN v w (1+k)]
theorem aaL(n:Nat)(v w:WV)(hv:v.ok)(hw:w.ok)(k:Nat)(a:List ac)(o:ag)(hk:1+k<=1000)(ha:a.length<=100000):eN (ev (n+33)) qT (dH (au mG 2)) (bd (au mG 2)) (.int (1+k)) (iZ v w a o)=some (.next,iZ v w (mH v w a k) (some (.int (1+k)))):=by
 have hE:=Nm (n+3) v w hv hw (1+k) (by lia) (sc:=qT) (l:=hide ["a"] (iZ v w a (some (.int ((1+k:Nat):Int)))).loc) (e:=aX (au (bd (au mG 2)) 0)) ⋯;have hc:=(fg 1 k);rw[hc]at hE;have hS:=cK (st:=iZ v w a (some (.int (1+k)))) (aE:=iZ v w a (some (.int (1+k)))) ⋯ (aY hE rfl) rfl;refine .trans (b:=(ev (n+33)).B qT (iZ v w a (some (.int (1+k)))) ((bd (au mG 2)).drop 0)) (by induction o<;>kernel_rfl) ?_;have CY:(ev (n+32)).S qT (iZ v w a (some (.int (1+k)))) (au (bd (au mG 2)) 0)=some (.next,iZ v w (mH v w a k) (some (.int (1+k)))):=by
  refine hS.trans ?_;unfold mH;induction iG v w (1+k)with
  |true=>kernel_rfl
  |false=>
   refine(bf (n:=n+30) (b:=dW (au (bd (au mG 2)) 0)) (aE:=iZ v w (a++[sN v w (1+k)]) (some (.int (1+k)))) 0 ⋯ ?_).trans ⋯;have hv2:((((ev (n+27)).C "Whitespace.indent_level" [v.pv,.int (1+k)] []).bind λx=>(((ev (n+27)).C "Whitespace.indent_level" [w.pv,.int (1+k)] []).bind λy=>some [y]).map (x:: ·)).map (PV.int (1+k):: ·)).bind (λvs=>if bo vs.length then some (PV.tup vs)else .none)=some (tupI (sN v w (1+k))):=by rw[show(1:Int)+k=((1+k:Nat):Int) from hc.symm,BT (n+2) v hv _ (by lia),BT (n+2) w hw _ (by lia)];rfl
   have qU:(a.map tupI).length=a.length:=ba ..;refine(ui (n:=n+29) (e:=(oJ (aX (au (dW (au (bd (au mG 2)) 0)) 0))).head!) (x:="a") (vs:=a.map tupI) ⋯ (aY (.trans ⋯ hv2) rfl) ⋯ (by lia)).trans ?_;rw[show a.map tupI++[tupI (sN v w (1+k))]=(a++[sN v w (1+k)]).map tupI by rw[ei];rfl];kernel_rfl
 refine ao (bf 0 ⋯ CY) ?_;kernel_rfl
def CZ(v w:WV):List ac:=(aG (max v.lg w.lg+1)).foldl (mH v w) []
theorem Eb:(l:List ac)->b_ (l.map tupI)=true:=by
 intro l;induction l with
 |nil=>exact rfl
 |cons t l ih=>show(b_ (t.map .int)&&b_ (l.map tupI))=true;rw[jZ,ih];rfl
theorem W8(v w:WV)(a:List ac)(k:Nat):(mH v w a k).length<=a.length+1:=by
 unfold mH;induction iG v w (1+k)with
 |true=>exact dX _
 |false=>show(a++[_]).length<=_;rw[cb];exact eI _
theorem On(n:Nat)(v w:WV)(hv:v.ok)(hw:w.ok):(ev (n+38)).C "Whitespace.not_less_witness" [v.pv,w.pv] []=some (.list ((CZ v w).map tupI)):=by
 have eA:=oi.mpr ⟨BU v hv,BU w hw⟩;have fm:=oo (r:=ev (n+33)) (λk:Nat=>PV.int (1+k)) (λ(a:List ac×ag) k=>(mH v w a.1 k,some (PV.int (1+k)))) (λa=>iZ v w a.1 a.2) (λk a=>a.1.length+k<=1000) (aG (max v.lg w.lg+1)) ([],.none) (by rw[cV];show 0+_<=_;lia)
  λk a ha j hj=>⟨aaL n v w hv hw j a.1 a.2 (by have :=bI.mp hj;lia) (by lia),by have :=W8 v w a.1 j;lia⟩
 have jG:∀(l:aa)(a:List ac×ag),(l.foldl (λ(a:List ac×ag) k=>(mH v w a.1 k,some (PV.int (1+k)))) a).1=l.foldl (mH v w) a.1:=by
  intro l;induction l with
  |nil=>intro a;rfl
  |cons x l ih=>intro a;exact ih _
 have hA:=jG (aG (max v.lg w.lg+1)) ([],.none);have hF:=fm.1;replace hA:_=CZ v w:=hA;rw[<-hA];generalize (aG (max v.lg w.lg+1)).foldl (λ(a:List ac×ag) k=>(mH v w a.1 k,some (PV.int (1+k)))) ([],.none)=a at hF;obtain⟨a,o⟩:=a;dsimp only at hF⊢;have e0:(ev (n+36)).S qT (jo v w [] []) (au mG 0)=some (.next,jo v w [(("n":Str),PV.int ((max v.lg w.lg+1:Nat):Int))] []):=
  (dr (x:="n") ⋯ ⋯ (aY (Nn (n+9) v w hv hw ⋯) rfl)).trans ⋯
 have e1:(ev (n+35)).S qT (jo v w [(("n":Str),PV.int ((max v.lg w.lg+1:Nat):Int))] []) (au mG 1)=some (.next,iZ v w [] .none):=⋯
 have e2:(ev (n+34)).S qT (iZ v w [] .none) (au mG 2)=some (.next,iZ v w a o):=by refine(jh (aE:=iZ v w [] .none) (v:=.ey 1 ((max v.lg w.lg+1:Nat)+1:Int) 1) ⋯ (aY ⋯ rfl) (pR 1 _ (by lia))).trans ?_;rw[show(((max v.lg w.lg+1:Nat):Int)+1-1).toNat=max v.lg w.lg+1 by lia];exact hF
 have e3:(ev (n+33)).S qT (iZ v w a o) (au mG 3)=some (.ret (.list (a.map tupI)),⟨(iZ v w a o).loc,[],[]⟩):=by
  refine gu ⋯ (tM ?_ ?_ rfl ?_ (Eb a))
  all_goals induction o<;>kernel_rfl
 refine .trans (b:=(((ev (n+37)).B qT (jo v w [] []) (mG.drop 0)).bind (eK [])).map (·.1)) ⋯ (fi (st:=⟨(iZ v w a o).loc,[],[]⟩) ?_ rfl);refine ao (bf 0 ⋯ e0) ?_;rw[bf 1 ⋯ e1,bf 2 ⋯ e2,de 3 ⋯ e3]
end
def u0:ad:=(D "_law_column").body
def zt:aH:=(D "_law_column").scope
def sj(ws:aa)(low bl sz c:Nat)(o:ag):St:=bC ([(("wishes":Str),PV.list (ap ws)),("low",.int low),("blanks",.int bl),("size",.int sz),("column",.int c)]++oL "wish" o)
def ko(low sz c w:Nat):Nat:=((c+low+w)/sz+1)*sz
theorem YU(n:Nat)(o:ag)(ws:aa)(low bl sz c w:Nat)(h0:1<=sz/\sz<=1000)(h1:c+low+w<=100000000):
  eN (ev (n+8)) zt (dH (au u0 1)) (bd (au u0 1)) (.int w) (sj ws low bl sz c o)=some (.next,sj ws low bl sz (ko low sz c w) (some (.int w))):=by
 have e:(((cQ .FloorDiv ((c:Int)+low+w) sz).bind λx=>(some (PV.int 1)).bind λy=>bj .Add x y).bind λx=>(some (PV.int sz)).bind λy=>bj .Mult x y)=some (.int (ko low sz c w)):=by have hd:(c+low+w)/sz<=c+low+w:=Jr ..;delta ko;rw[BQ ⟨eP.mpr h0.1,cD (eP.mpr h0.2) (by decide)⟩,pp _ (cz _),<-fg,<-fg,<-Jn];generalize (c+low+w)/sz=d at hd⊢;exact(lW (a:=(d:Int)+1) (nb (n:=d+1) (aD (lJ (aD hd h1)) (by decide))) (nb (aD h0.2 (by decide)))).trans (by rw[rm,fg];rfl)
 have hE:(ev (n+6)).E zt (sj ws low bl sz c (some (.int w))).loc (aX (au (bd (au u0 1)) 0))=some (.int (ko low sz c w)):=by refine .trans ?_ e;kernel_rfl
 refine .trans (?_:_=(ev (n+8)).B zt (sj ws low bl sz c (some (.int w))) ((bd (au u0 1)).drop 0)) ((bf 0 ⋯ (dr (x:="column") ⋯ ⋯ (aY hE rfl))).trans ⋯);induction o<;>kernel_rfl
def gQ(ws:aa)(low bl sz:Nat):Nat:=ws.foldl (ko low sz) 0+bl
theorem No(ha:a+(k+1)*10000<=1000000)(hw:low+w<=1000):a+low+w<=100000000/\a+low+w+1000+k*10000<=1000000:=by
 have h:a+low+w+1000+k*10000<=1000000:=by rw[gH a,gH a,gH a];refine aD (oe ?_ _) ha;rw[ag0,jt];exact oe (aD (lF hw _) (by decide)) _
 exact⟨aD (aD (lK _ 1000) (lK _ (k*10000))) (aD h (by decide)),h⟩
theorem Np(n:Nat)(ws:aa)(low bl sz:Nat)(h0:1<=sz/\sz<=1000)(hl:ws.length<=100)(hw:∀w∈ws,low+w<=1000):(ev (n+13)).C "_law_column" [.list (ap ws),.int low,.int bl,.int sz] []=some (.int (gQ ws low bl sz)):=by
 have fm:=oo (r:=ev (n+9)) (sc:=zt) (t:=dH (au u0 1)) (body:=bd (au u0 1)) (λw:Nat=>PV.int w) (λ(a:Nat×ag) w=>(ko low sz a.1 w,some (PV.int w))) (λa=>sj ws low bl sz a.1 a.2) (λk a=>a.1+k*10000<=1000000) ws (0,.none) (aD (ej (i8 _)) (aD (s_ _ hl) (by decide)))
  λk a ha w qO=>⟨YU (n+1) a.2 ws low bl sz a.1 w h0 (No ha (hw w qO)).1,by
   delta ko;exact aD (lF (aD (ej (ag0 _ sz)) (ir (Nat.div_mul_le_self (a.1+low+w) sz) h0.2)) _) (No ha (hw w qO)).2⟩
 have jG:∀(l:aa)(a:Nat×ag),(l.foldl (λ(a:Nat×ag) w=>(ko low sz a.1 w,some (PV.int w))) a).1=l.foldl (ko low sz) a.1:=by
  intro l;induction l with
  |nil=>intro a;rfl
  |cons x l ih=>intro a;exact ih _
 have hA:=jG ws (0,.none);have hF:=fm.1;unfold gQ;rw[<-show _=ws.foldl (ko low sz) 0 from hA];generalize ws.foldl (λ(a:Nat×ag) w=>(ko low sz a.1 w,some (PV.int w))) (0,.none)=a at hF;obtain⟨c,o⟩:=a;refine .trans (b:=(((ev (n+11)).B zt (sj ws low bl sz 0 .none) (u0.drop 1)).bind (eK [])).map (·.1)) ⋯ (fi (st:=sj ws low bl sz c o) ((bf 1 ⋯ ((jh (aE:=sj ws low bl sz 0 .none) (v:=.list (ap ws)) ⋯ (aY ⋯ (hH ws)) rfl).trans hF)).trans ?_) rfl);induction o<;>kernel_rfl
def i0(q r:Int)(k:Nat):Int:=q+(if(k:Int)<r then 1 else 0)
def pg(row:aa)(q r:Int)(k:Nat):Int:=if 0<i0 q r k-k+row.getD k 0 then i0 q r k-k+row.getD k 0 else 0
def BW(row:aa)(q r:Int):Int:=((aG row.length).map (pg row q r)).sum-1
def dJ(row:aa)(over:Int):Int:=BW row ((over+1).fdiv row.length) ((over+1).fmod row.length)
def kB:ad:=(D "_law_rank").body
def nZ:aH:=(D "_law_rank").scope
def lC(row:aa)(over side:Int)(r:Loc):St:=bC ([(("row":Str),PV.list (ap row)),("over",.int over),("side",.int side)]++r)
theorem vB(l):intsOf (l.map .int)=some l:=by
 induction l with
 |nil=>rfl
 |cons a l ih=>exact map_eq ih
theorem VN{s:Int}(hs:s=1\/s= -1):s.natAbs=1:=hs.elim (λh=>h▸rfl) λh=>h▸rfl
theorem W9{s:Int}(hs:s=1\/s= -1)(a:Int):s*(s*a)=a:=(Int.mul_assoc s s a).symm.trans ((aR (· *a) (by obtain h|h:=hs<;>rw[h]<;>rfl:s*s=1)).trans (ju a))
theorem Nq{s a:Int}{n:Nat}(hs:s=1\/s= -1)(h: -n<=a/\a<=n): -n<=s*a/\s*a<=n:=hs.elim (λe=>by rw[e,ju];exact h) λe=>by rw[e,Ju];exact⟨agP h.2,af7 h.1⟩
theorem YV{s:Int}(hs:s=1\/s= -1)(a b:Int):(s*a).fdiv (s*b)=a.fdiv b/\s*(s*a).fmod (s*b)=a.fmod b:=
 hs.elim (λe=>by rw[e,ju,ju,ju];exact⟨rfl,rfl⟩) λe=>by rw[e,Ju,Ju,Ju,RE];refine⟨rfl,?_⟩;rw[RV,RV,RE,RZ,ag9,R2,JJ];rfl
theorem Gr(n:Nat)(row:aa)(over side:Int)(hl:2<=row.length/\row.length<=5)(ho: -400000<=over/\over<=400000)(hs:side=1\/side= -1):(ev (n+105)).C "_law_rank" [.list (ap row),.int over,.int side] []=some (.int (dJ row over)):=by
 have eU:(ap row).length=row.length:=ba ..;delta dJ;obtain⟨R,hR⟩:∃R,(side*(over+1)).fmod (side*row.length)=R:=⟨_,rfl⟩;have hq:=YV hs (over+1) row.length;rw[hR]at hq;have hlen:(row.length:Int)<=1000:=eP.mpr (aD hl.2 (by decide));have Qo: -(1:Nat)<=side/\side<=(1:Nat):=by obtain h|h:=hs<;>rw[h]<;>decide
 have Im: -2000000000<=side/\side<=2000000000:=⟨cD (by decide) Qo.1,cD Qo.2 (by decide)⟩;have sF: -(400001:Nat)<=over+1/\over+1<=(400001:Nat):=⟨cD (by decide) (Dp ho.1 1),Dp ho.2 1⟩;have Cg:=vr.mpr (cZ (by decide) hl.1);have Qp: -(1000:Nat)<=R/\R<=(1000:Nat):=by rw[<-W9 hs R,hq.2];exact Nq hs ⟨cD (by decide) (jQ _ Cg),cD (kM (mJ _ Cg)) hlen⟩
 rw[<-hq.1,<-hq.2];have aW:=Oi (n+3) (side*(over+1)) (side*row.length) (by rw[Int.natAbs_mul,VN hs,JH];exact hl) (have h:=Nq hs sF;⟨cD (by decide) h.1,cD h.2 (by decide)⟩);rw[hR]at aW;generalize (side*(over+1)).fdiv (side*row.length)=Q at aW⊢;have e0:(ev (n+103)).S nZ (lC row over side []) (au kB 0)=some (.next,lC row over side [("quotient",.int Q),("rest",.int R)]):=by refine(kT (q:=(kl (au kB 0)).get!) (aE:=lC row over side []) (v:=.tup [.int Q,.int R]) (l:=(lC row over side [("quotient",.int Q),("rest",.int R)]).loc) ⋯ ⋯ ⋯ ⋯ (aY ?_ rfl) ⋯).trans ⋯;refine(fk (n:=n+101) (f:=.fn "int_divmod") (kw:=[]) (vs:=[.int (side*(over+1)),.int (side*row.length)]) (q:=(bK (aX (au kB 0))).get!) ⋯ ⋯ ⋯ ?_ ⋯).trans (.trans ⋯ aW);refine .trans (b:=(cQ .Mult side (over+1)).bind λv=>(((if bo (ap row).length then some (PV.int (ap row).length)else .none).bind λy=>bj .Mult (.int side) y).bind λv=>some [v]).map (v:: ·)) ⋯ ?_;rw[eU,show bo row.length=true from bh (aD hl.2 (by decide)),lW (ib Im) (ib ⟨cD (by decide) sF.1,cD sF.2 (by decide)⟩)];show((cQ .Mult side row.length).bind λv=>some [v]).map _=_;rw[lW (ib Im) (nb (aD hl.2 (by decide)))];rfl
 have Nr:∀m (l:Loc) (e:Expr) q,bK e=some q->vO nZ l q.1=.none->(ev m).E nZ l (.Name q.1 q.2.1)=some (.blt "range")->dG (ev m) nZ l q.2.2.1=((if bo (ap row).length then some (PV.int (ap row).length)else .none).bind λv=>some [v])->oO (ev m) nZ l q.2.2.2=some []->(ev (m+1)).E nZ l e=some (.ey 0 row.length 1):=λm l e q h1 h2 h3 h4 h5=>by refine(fk (f:=.blt "range") (kw:=[]) (vs:=[.int row.length]) h1 h2 h3 ?_ h5).trans ⋯;refine ao h4 ?_;rw[eU,show bo row.length=true from bh (aD hl.2 (by decide))];rfl
 have e1:(ev (n+102)).S nZ (lC row over side [("quotient",.int Q),("rest",.int R)]) (au kB 1)=some (.next,lC row over side [("quotient",.int Q),("rest",.int R),("shares",.list ((aG row.length).map λk=>PV.int (i0 Q (side*R) k)))]):=by
  refine(dr (x:="shares") (aE:=lC row over side [("quotient",.int Q),("rest",.int R)]) (v:=.list ((aG row.length).map λk=>PV.int (i0 Q (side*R) k))) ⋯ ⋯ (aY (gx (n:=n+100) (q:=(cM (aX (au kB 1))).get!) (it:=.ey 0 row.length 1) ⋯ ⋯ (Nr (n+99) _ _ (bK (cM (aX (au kB 1))).get!.2.2.iter).get! ⋯ ⋯ ⋯ ⋯ ⋯) (j6 _ (aD hl.2 (by decide))) ((fV (λk=>[PV.int (i0 Q (side*R) k)]) (aG row.length) λk hk=>?_).trans (by rw[jc])) (by rw[ba,cV];exact aD hl.2 (by decide))) ?_)).trans ⋯
  ·have hk:=bI.mp hk;refine jy (l1:=[(("side":Str),.int side),("quotient",.int Q),("rest",.int R),("k",.int k)]) ⋯ (kU (n:=n+99) (x:=.int Q) (y:=.int (if(k:Int)<side*R then 1 else 0)) ⋯ ⋯ ((yS (n:=n+98) (v:=.bool (decide ((k:Int)<side*R))) (c:=decide ((k:Int)<side*R)) ⋯ (.trans (b:=(cQ .Mult side R).bind λy=>(fU .Lt (.int k) y).map .bool) ⋯ ?_) rfl).trans ?_) ⋯) rfl
   ·rw[lW (ib Im) (ib ⟨cD (by decide) Qp.1,cD Qp.2 (by decide)⟩)];rfl
   ·by_cases h:(k:Int)<side*R
    ·rw[bh h,aA h];kernel_rfl
    ·rw[cA h,aJ h];kernel_rfl
  ·rw[show((aG row.length).map λk=>PV.int (i0 Q (side*R) k))=((aG row.length).map (i0 Q (side*R))).map .int from(cP ..).symm];exact jZ _
 have acl:∀k:Nat,k<row.length->(if bJ (k:Int)then b0 ((aG row.length).map λk=>PV.int (i0 Q (side*R) k)) k else .none)=some (.int (i0 Q (side*R) k)):=λk hk=>by refine(aA (pH ⟨cD (by decide) (cz k),eP.mpr (aD (cG hk) (aD hl.2 (by decide)))⟩)).trans ((aA (cz k)).trans ?_);rw[ip,i7,Ds hk];rfl
 have e2:(ev (n+101)).S nZ (lC row over side [("quotient",.int Q),("rest",.int R),("shares",.list ((aG row.length).map λk=>PV.int (i0 Q (side*R) k)))]) (au kB 2)=some (.ret (.int (BW row Q (side*R))),lC row over side [("quotient",.int Q),("rest",.int R),("shares",.list ((aG row.length).map λk=>PV.int (i0 Q (side*R) k)))]):=by
  have wU:(ev (n+98)).E nZ (lC row over side [("quotient",.int Q),("rest",.int R),("shares",.list ((aG row.length).map λk=>PV.int (i0 Q (side*R) k)))]).loc (bK (eZ (aX (au kB 2)))).get!.2.2.1.head!=some (.list ((aG row.length).map λk=>PV.int (pg row Q (side*R) k))):=by refine gx (n:=n+97) (q:=(cM (bK (eZ (aX (au kB 2)))).get!.2.2.1.head!).get!) (it:=.ey 0 row.length 1) ⋯ ⋯ (Nr (n+96) _ _ (bK (cM (bK (eZ (aX (au kB 2)))).get!.2.2.1.head!).get!.2.2.iter).get! ⋯ ⋯ ⋯ ⋯ ⋯) (j6 _ (aD hl.2 (by decide))) ((fV (λk=>[PV.int (pg row Q (side*R) k)]) (aG row.length) λk hk=>?_).trans (by rw[jc])) (by rw[ba,cV];exact aD hl.2 (by decide));have hk:=bI.mp hk;refine jy (l1:=[(("row":Str),.list (ap row)),("shares",.list ((aG row.length).map λk=>PV.int (i0 Q (side*R) k))),("k",.int k)]) ⋯ ((fk (n:=n+96) (f:=.blt "max") (kw:=[]) (vs:=[.int 0,.int (i0 Q (side*R) k-k+row.getD k 0)]) (q:=(bK (cM (bK (eZ (aX (au kB 2)))).get!.2.2.1.head!).get!.1).get!) ⋯ ⋯ ⋯ ?_ ⋯).trans ⋯) rfl;refine .trans (b:=(((((if bJ (k:Int)then b0 ((aG row.length).map λk=>PV.int (i0 Q (side*R) k)) k else .none).bind λx=>(some (PV.int k)).bind λy=>bj .Sub x y).bind λx=>(if bJ (k:Int)then b0 (ap row) k else .none).bind λy=>bj .Add x y).bind λv=>some [v]).map (PV.int 0:: ·))) ⋯ ?_;rw[acl k hk,tY hk (aD hl.2 (by decide))];rfl
  refine gu ⋯ (aY (kU (n:=n+99) (x:=.int ((aG row.length).map (pg row Q (side*R))).sum) (y:=.int 1) ⋯ ((fk (n:=n+98) (f:=.blt "sum") (kw:=[]) (vs:=[.list ((aG row.length).map λk=>PV.int (pg row Q (side*R) k))]) (q:=(bK (eZ (aX (au kB 2)))).get!) ⋯ ⋯ ⋯ (.trans (b:=((ev (n+98)).E nZ (lC row over side [("quotient",.int Q),("rest",.int R),("shares",.list ((aG row.length).map λk=>PV.int (i0 Q (side*R) k)))]).loc (bK (eZ (aX (au kB 2)))).get!.2.2.1.head!).bind λv=>some [v]) ⋯ (by rw[wU];rfl)) ⋯).trans ?_) ⋯ ⋯) rfl);rw[show((aG row.length).map λk=>PV.int (pg row Q (side*R) k))=((aG row.length).map (pg row Q (side*R))).map .int from(cP ..).symm];refine .trans (b:=(intsOf (((aG row.length).map (pg row Q (side*R))).map .int)).map λl=>PV.int l.sum) ⋯ ?_;rw[vB];rfl
 refine .trans (b:=(((ev (n+104)).B nZ (lC row over side []) (kB.drop 0)).bind (eK [])).map (·.1)) ⋯ (fi (st:=lC row over side [("quotient",.int Q),("rest",.int R),("shares",.list ((aG row.length).map λk=>PV.int (i0 Q (side*R) k)))]) ?_ rfl);refine ao (bf 0 ⋯ e0) ?_;rw[bf 1 ⋯ e1,de 2 ⋯ e2]
section
variable{n k w:Nat}{sc cs:aH}{A:dQ}{pos:Pos}{r:Rec}{st:St}{a:aw}{P:Prop}{own:al}{fl:bG}{d:FD}{c:Bool}{body:ad}{E:ar->ak}{b:Int}{nm:Str}{ns:af}{it:ar}{M:Model}
theorem Lg(g:β->PV)(p:β->Bool)(v:β->PV)(R:Loc->Prop)(F:Loc->St)(k:β->Loc)(hk:∀x,R (k x)):(xs:List β)->(l:Loc)->R l->
  (∀l,R l->∀x∈xs,eN r sc t body (g x) (F l)=some (if p x=true then .ret (v x)else .next,F (k x)))->∃l',R l'/\dT r sc t body (xs.map g) (F l)=some ((xs.find? p).elim .next λx=>.ret (v x),F l'):=by
 intro xs;induction xs with
 |nil=>exact λl hl z=>⟨l,hl,rfl⟩
 |cons x xs ih=>
  intro l hl h;have h1:=h l hl x (ch ..);show ∃l',R l'/\dT r sc t body (g x::xs.map g) (F l)=some (((x::xs).find? p).elim .next λx=>.ret (v x),F l');rw[xq];induction hp:p x with
  |true=>rw[hp]at h1;exact⟨k x,hk x,vL h1⟩
  |false=>rw[hp]at h1;rw[lT h1];exact ih _ (hk x) λl hl y hy=>h l hl y (cf _ hy)
def aQ(l:ac):ab:=l.map .int
def bP(l:aa):aa:=dE (λa b=>decide (a<b)) l
theorem Ux(x:Nat):(l:aa)->cX (λa b:Int=>decide (a<b)) (x:Int) (l.map λk:Nat=>(k:Int))=(cX (λa b=>decide (a<b)) x l).map λk:Nat=>(k:Int):=by
 intro l;induction l with
 |nil=>exact rfl
 |cons y l ih=>
  show(if decide ((y:Int)<x)then(y:Int)::cX _ (x:Int) (l.map λk:Nat=>(k:Int))else(x:Int)::(y:Int)::l.map λk:Nat=>(k:Int))=(if decide (y<x)then y::cX _ x l else x::y::l).map _;rw[ih];by_cases h:y<x
  ·rw[bh h,bh (show(y:Int)<x by exact gI.mpr h)];rfl
  ·rw[cA h,cA (show¬(y:Int)<x by lia)];rfl
theorem Tq:(l:aa)->dE (λa b:Int=>decide (a<b)) (l.map λk:Nat=>(k:Int))=(bP l).map λk:Nat=>(k:Int):=by
 intro l;induction l with
 |nil=>exact rfl
 |cons x l ih=>show cX _ (x:Int) (dE _ (l.map λk:Nat=>(k:Int)))=_;rw[ih,Ux];rfl
theorem VO(lt:α->α->Bool)(x:α):(l:List α)->(cX lt x l).length=l.length+1:=by
 intro l;induction l with
 |nil=>exact rfl
 |cons y l ih=>
  unfold cX;induction lt y x with
  |true=>exact aR (· +1) (ih)
  |false=>rfl
theorem KC(lt:α->α->Bool):(l:List α)->(dE lt l).length=l.length:=by
 intro l;induction l with
 |nil=>exact rfl
 |cons x l ih=>exact(VO lt x _).trans (aR (· +1) (ih))
theorem xQ(l):ap l=(l.map λk:Nat=>(k:Int)).map .int:=(cP ..).symm
theorem Az(l)(h:l.length<64):tI [.list (ap l)]=some (.list (ap (bP l))):=by show(intsOf (ap l)).bind (λq=>if decide ((ap l).length<64)then some (PV.list ((dE (λa b=>decide (a<b)) q).map .int))else .none)=_;rw[xQ l,vB];show(if decide (((l.map λk:Nat=>(k:Int)).map PV.int).length<64)then some (PV.list ((dE _ (l.map λk:Nat=>(k:Int))).map .int))else .none)=_;rw[bh (by rw[ba,ba];exact h),Tq,xQ];rfl
theorem xL(l:ac):mU [.list (aQ l)]=some (.int l.sum):=by show(intsOf (l.map .int)).map (λl=>PV.int l.sum)=_;rw[vB];rfl
theorem Ei(l:aa):mU [.list (ap l)]=some (.int (l.map λk:Nat=>(k:Int)).sum):=by rw[xQ];exact xL _
def BX(row:aa)(s:Nat):Bool:=dz (λm=> !decide (s<row.getD m 0)) 3 0 (s+1)==s+1
def j4(row:aa):aa:=(aG row.length).filter λs=> !BX row s
def bZ(l:aa):Int:=(l.map λk:Nat=>(k:Int)).sum
def resT(an:ac)(t place:Nat):Nat:=((an.getD place 0+t).fmod an.length).toNat
def fc(an:ac)(az t:Nat):aa:=bP (((aG an.length).filter λp=> !(p==az)).map (resT an t))
def kb(an:ac)(az:Nat):Int:=match(aG an.length).find? λt=>(j4 (fc an az t)).isEmpty with
 |some t=>dJ (fc an az t) (an.sum-bZ (fc an az t))
 |none=> -2
def Io:ad:=(D "_law_told").body
def jM:aH:=(D "_law_told").scope
def sO:Stmt:=au Io 0
def fF(an:ac)(az:Nat)(side:Int)(l:Loc):St:=bC ([(("chips":Str),PV.list (aQ an)),("home",.int az),("side",.int side)]++l)
def jN(t:Nat)(row:aa):Loc:=[(("turn":Str),PV.int t),("row",.list (ap row))]
def O9(l:Loc):Prop :=l=[]\/∃t r,l=jN t r
theorem tG(f:α->β)(p:α->Bool):(l:List α)->(l.flatMap λx=>if p x=true then[f x]else[])=(l.filter p).map f:=by
 intro l;induction l with
 |nil=>exact rfl
 |cons x l ih=>refine ao List.flatMap_cons ?_;rw[ih,pA];cases p x<;>rfl
theorem pN{vs:ac}{L:Nat}(h:L<vs.length)(h2:vs.length<=1000000):(if bJ (L:Int)then b0 (aQ vs) L else .none)=some (.int (vs.getD L 0)):=by rw[pH (by lia)];unfold b0;refine ao (aA rfl) ?_;rw[aA (cz L),ip];unfold aQ;refine ao i7 ?_;rw[dD,gU h];rfl
def sP:Stmt:=au (bd sO) 0
def sQ:Stmt:=au (bd sO) 1
def C0:Expr:=(dw (aX sQ)).get!.1
theorem tO(an:ac)(t p:Nat)(hp:0<an.length):(an.getD p 0+t).fmod an.length=(resT an t p:Nat):=by unfold resT;have :=jQ (an.getD p 0+t) (show(0:Int)<an.length by exact vr.mpr hp);exact Int.eq_natCast_toNat.mpr this
theorem aaM(n:Nat)(an:ac)(az t:Nat)(side:Int)(l:Loc)(hl:O9 l)(hc:3<=an.length/\an.length<=5)(hh:az<an.length)(hs:side=1\/side= -1)(hb: -350000<=an.sum/\an.sum<=350000)
  (C1:(fc an az t).length+1=an.length) (hrb:0<=bZ (fc an az t)/\bZ (fc an az t)<=100):
  eN (ev (n+111)) jM (dH sO) (bd sO) (.int t) (fF an az side l)=some (if(j4 (fc an az t)).isEmpty=true then .ret (.int (dJ (fc an az t) (an.sum-bZ (fc an az t))))else .next,fF an az side (jN t (fc an az t))):=by
 have ku:(aQ an).length=an.length:=ba ..;generalize ce:fc an az t=row at C1 hrb⊢;have eU:(ap row).length=row.length:=ba ..;have key:∀l2:Loc,(l2=[(("turn":Str),PV.int t)]\/∃r,l2=jN t r)->(ev (n+111)).B jM (fF an az side l2) ((bd sO).drop 0)=some (if(j4 row).isEmpty=true then .ret (.int (dJ row (an.sum-bZ row)))else .next,fF an az side (jN t row)):=by
  intro l2 cY;have wU:(ev (n+108)).E jM (fF an az side l2).loc (bK (aX sP)).get!.2.2.1.head!=some (.list (ap (((aG an.length).filter λp=> !(p==az)).map (resT an t)))):=by
   have Gs:(ev (n+107)).E jM (fF an az side l2).loc (cM (bK (aX sP)).get!.2.2.1.head!).get!.2.2.iter=some (.ey 0 an.length 1):=by
    refine(fk (n:=n+106) (f:=.blt "range") (kw:=[]) (vs:=[.int an.length]) (q:=(bK (cM (bK (aX sP)).get!.2.2.1.head!).get!.2.2.iter).get!) ⋯ ?_ ?_ (.trans (b:=(if bo (aQ an).length then some (PV.int (aQ an).length)else .none).bind λv=>some [v]) ?_ (by rw[ku,show bo an.length=true from bh (by lia)];rfl)) ⋯).trans ⋯
    all_goals rcases cY with h|⟨r,h⟩<;>subst h<;>kernel_rfl
   refine(gx (n:=n+107) (q:=(cM (bK (aX sP)).get!.2.2.1.head!).get!) (it:=.ey 0 an.length 1) (vs:=((aG an.length).filter λp=> !(p==az)).map λp=>PV.int (resT an t p)) ⋯ ?_ Gs (j6 _ (by lia)) ((fV (λp=>if(!(p==az))=true then[PV.int (resT an t p)]else[]) (aG an.length) λp hp=>?_).trans (by rw[tG])) (by rw[ba];exact aD (sY ..) (by rw[cV];lia))).trans (by unfold ap;rw[cP];rfl)
   ·rcases cY with h|⟨r,h⟩<;>subst h<;>kernel_rfl
   ·have hp:=bI.mp hp;have Hh:free (cM (bK (aX sP)).get!.2.2.1.head!).get!.2.1 (fF an az side l2).loc=[(("chips":Str),PV.list (aQ an)),("home",.int az),("turn",.int t)]:=by rcases cY with h|⟨r,h⟩<;>subst h<;>kernel_rfl
    rw[Hh];refine tZ (l1:=[(("chips":Str),PV.list (aQ an)),("home",.int az),("turn",.int t),("place",.int p)]) (w:=.bool (!((p:Int)==az))) (b:= !(p==az)) ⋯ ⋯ ?_ (λz=>.trans (b:=((if bJ (p:Int)then b0 (aQ an) p else .none).bind λx=>(some (PV.int t)).bind λy=>bj .Add x y).bind λx=>(if bo (aQ an).length then some (PV.int (aQ an).length)else .none).bind λy=>bj .Mod x y) ⋯ ?_) rfl
    ·by_cases h:p=az
     ·subst h;rw[beq_self_eq_true,beq_self_eq_true];rfl
     ·rw[dq h,dq (show(p:Int)≠az by exact IU rfl rfl h)];rfl
    ·rw[pN hp (by lia),ku,show bo an.length=true from bh (by lia)];refine ao (mS (by lia)) ?_;rw[tO _ _ _ (Rt hh)]
  have acm:yg (ev (n+108)) (.blt "sorted") [.list (ap (((aG an.length).filter λp=> !(p==az)).map (resT an t)))] []=some (.list (ap row)):=by refine .trans (b:=tI [.list (ap (((aG an.length).filter λp=> !(p==az)).map (resT an t)))]) ⋯ ?_;refine ao (Az _ (by rw[ba];exact im (sY ..) (by rw[cV];lia))) ?_;exact aR (λl=>some (PV.list (ap l))) ce
  have s0:(ev (n+110)).S jM (fF an az side l2) sP=some (.next,fF an az side (jN t row)):=by
   refine(dr (n:=n+109) (x:="row") (aE:=fF an az side l2) (v:=.list (ap row)) ⋯ ?_ (aY ((fk (n:=n+108) (f:=.blt "sorted") (kw:=[]) (vs:=[.list (ap (((aG an.length).filter λp=> !(p==az)).map (resT an t)))]) (q:=(bK (aX sP)).get!) ⋯ ?_ ?_ (.trans (b:=((ev (n+108)).E jM (fF an az side l2).loc (bK (aX sP)).get!.2.2.1.head!).bind λv=>some [v]) ?_ (by rw[wU];rfl)) ⋯).trans acm) (hH row))).trans ?_
   all_goals (rcases cY with h|⟨r,h⟩<;>subst h<;>kernel_rfl)
  have lD:(ev (n+107)).E jM (fF an az side (jN t row)).loc C0=some (.list (ap (j4 row))):=by
   have Gs:(ev (n+106)).E jM (fF an az side (jN t row)).loc (cM C0).get!.2.2.iter=some (.ey 0 row.length 1):=
    (fk (n:=n+105) (f:=.blt "range") (kw:=[]) (vs:=[.int row.length]) (q:=(bK (cM C0).get!.2.2.iter).get!) ⋯ ⋯ ⋯ (.trans (b:=(if bo (ap row).length then some (PV.int (ap row).length)else .none).bind λv=>some [v]) ⋯ (by rw[eU,show bo row.length=true from bh (by lia)];rfl)) ⋯).trans ⋯
   refine(gx (n:=n+106) (q:=(cM C0).get!) (it:=.ey 0 row.length 1) (vs:=(j4 row).map λs:Nat=>PV.int s) ⋯ ⋯ Gs (j6 _ (by lia)) ((fV (λs=>if(!BX row s)=true then[PV.int (s:Nat)]else[]) (aG row.length) λs hs=>?_).trans (by rw[tG];rfl)) (by rw[ba];exact aD (sY ..) (by rw[cV];lia))).trans rfl;have hs:=bI.mp hs;refine tZ (l1:=[(("row":Str),.list (ap row)),("spot",.int s)]) (w:=.bool (!((dz (λm=> !decide (s<row.getD m 0)) 3 0 (s+1):Nat)==((s:Int)+1)))) (b:= !BX row s) ⋯ (.trans (b:=(sI (n+103) (D "bisect_right") (.list (ap row)) (.int s) .none 0 (.int ((s:Int)+1))).bind λx=>(some (PV.int ((s:Int)+1))).bind λy=>(fU .NotEq x y).map .bool) ⋯ ?_) ?_ (λz=>⋯) rfl
   ·have hb:=Nk 3 (n+80) row s 0 (s+1) (.int ((s:Int)+1)) (by lia) (.inl rfl) (by lia) (by lia) (by lia);rw[show sI (n+103) (D "bisect_right") (.list (ap row)) (.int s) .none 0 (.int ((s:Int)+1))=_ from hb];rfl
   ·unfold BX;generalize dz (λm=> !decide (s<row.getD m 0)) 3 0 (s+1)=x;by_cases h:x=s+1
    ·rw[h,show((s+1:Nat):Int)=(s:Int)+1 from rfl,beq_self_eq_true,beq_self_eq_true];rfl
    ·rw[dq h,dq (show(x:Int)≠(s:Int)+1 by lia)];rfl
  have Hi:(ev (n+108)).E jM (fF an az side (jN t row)).loc (aX sQ)=some (.bool (decide (j4 row=[]))):=f_ (n:=n+107) (q:=(dw (aX sQ)).get!) (y:=.list []) ⋯ ⋯ lD ⋯ (tN (j4 row) []);have s1:=cK (n:=n+108) (aE:=fF an az side (jN t row)) (s:=sQ) ⋯ (aY Hi rfl) rfl;refine ao (bf (n:=n+110) 0 ⋯ s0) ?_;rw[oY (n:=n+109) 1 ⋯,show(ev (n+109)).S jM (fF an az side (jN t row)) (au (bd sO) 1)=_ from s1];induction ahf:j4 row with
  |cons a b=>rw[cA (by intro h;cases h)];kernel_rfl
  |nil=>
   rw[bh rfl];have hr:=Gr n row (an.sum-bZ row) side (by lia) (by lia) hs;have s2:(ev (n+107)).S jM (fF an az side (jN t row)) (au (dW sQ) 0)=some (.ret (.int (dJ row (an.sum-bZ row))),fF an az side (jN t row)):=by refine gu (n:=n+106) ⋯ (aY ((fk (n:=n+105) (f:=.fn "_law_rank") (kw:=[]) (vs:=[.list (ap row),.int (an.sum-bZ row),.int side]) (q:=(bK (aX (au (dW sQ) 0))).get!) ⋯ ⋯ ⋯ (.trans (b:=((((mU [.list (aQ an)]).bind λx=>(mU [.list (ap row)]).bind λy=>bj .Sub x y).bind λv=>(some [PV.int side]).map (v:: ·)).map (PV.list (ap row):: ·))) ⋯ (by rw[xL,Ei];rfl)) ⋯).trans (.trans ⋯ hr)) rfl)
   rw[aA rfl,show(ev (n+108)).B jM (fF an az side (jN t row)) (dW sQ)=_ from de (b:=dW sQ) 0 ⋯ s2];rfl
 rcases hl with h|⟨t',r,h⟩
 ·subst h;exact .trans ⋯ (key [(("turn":Str),PV.int t)] (.inl rfl))
 ·subst h;exact .trans ⋯ (key (jN t r) (.inr ⟨r,rfl⟩))
end
theorem VP{lt:α->α->Bool}{x y:α}:{l:List α}->y∈cX lt x l->y=x\/y∈l:=by
 intro l;induction l with
 |nil=>exact λh=>.inl (cW h)
 |cons z l ih=>
  intro h;unfold cX at h;induction hz:lt z x with
  |true=>
   rw[hz,aA rfl]at h;rcases cc.mp h with h|h
   ·exact .inr (h▸ch ..)
   ·exact(ih h).imp_right (cf _)
  |false=>rw[hz,aJ (by decide)]at h;exact cc.mp h
theorem KD{lt:α->α->Bool}{y:α}:{l:List α}->y∈dE lt l->y∈l:=by
 intro l;induction l with
 |nil=>exact λh=>h
 |cons x l ih=>
  intro h;rcases VP (show y∈cX lt x (dE lt l) from h)with h|h
  ·exact h▸ch ..
  ·exact cf _ (ih h)
theorem W_(b):(l:aa)->(∀x∈l,x<=b)->0<=bZ l/\bZ l<=l.length*b:=by
 intro l;induction l with
 |nil=>intro _;constructor <;>show(0:Int)<=_<;>exact(by decide :(0:Int)<=0)|>λh=>by first |exact h|(show(0:Int)<=((0:Nat):Int)*b;rw[tl,vu];exact vv 0)
 |cons x l ih=>
  intro h;have h1:=ih λy hy=>h y (cf _ hy);have h2:=h x (ch ..);have e:bZ (x::l)=x+bZ l:=cg;have e2:((x::l).length:Int)*b=b+l.length*b:=by rw[ff,fg,tz,DW];show 1*(b:Int)+_=_;rw[ju]
  rw[e,e2];lia
theorem Bg(an)(t p)(h:0<an.length):resT an t p<an.length:=by have h1:=mJ (an.getD p 0+t) (show(0:Int)<an.length by exact vr.mpr h);rw[tO an t p h]at h1;exact gI.mp h1
theorem VQ{an:ac}{az t x:Nat}(h:0<an.length)(hx:x∈fc an az t):x<an.length:=by refine br (eH.mp (KD hx)) λp z bb=>?_;subst bb;exact Bg an t p h
theorem EF(k az)(h:az<k):((aG k).filter λp=> !(p==az)).length+1=k:=by
 induction k with
 |zero=>lia
 |succ k ih=>
  rw[vq,agc,cb];by_cases h2:k=az
  ·subst h2;rw[IW.mpr λp hp=>by rw[dq (eO (bI.mp hp))];rfl,cV];rw[pA,beq_self_eq_true];rfl
  ·have :=ih (by lia);rw[show([k].filter λp=> !(p==az))=[k] by rw[pA,dq h2];rfl];exact Nat.add_left_inj.mpr this
theorem Lh(an)(az t)(h:az<an.length):(fc an az t).length+1=an.length:=by delta fc bP;rw[KC,ba,EF _ _ h]
theorem Oo(n:Nat)(an:ac)(az:Nat)(side:Int)(hc:3<=an.length/\an.length<=5)(hh:az<an.length)(hs:side=1\/side= -1)(hb: -350000<=an.sum/\an.sum<=350000):
  (ev (n+114)).C "_law_told" [.list (aQ an),.int az,.int side] []=some (.int (kb an az)):=by
 have ku:(aQ an).length=an.length:=ba ..;obtain⟨l,hl,hf⟩:=Lg (λt:Nat=>PV.int t) (λt=>(j4 (fc an az t)).isEmpty) (λt=>.int (dJ (fc an az t) (an.sum-bZ (fc an az t)))) O9 (fF an az side) (λt=>jN t (fc an az t)) (λt=>.inr ⟨_,_,rfl⟩) (aG an.length) [] (.inl rfl)
  λl hl t z=>aaM n an az t side l hl hc hh hs hb (Lh _ _ _ hh) (by
   have h1:=W_ 5 (fc an az t) λx hx=>cG (cZ (VQ (Rt hh) hx) (by lia));have h2:=Lh an az t hh;lia)
 have e0:(ev (n+112)).S jM (fF an az side []) sO=some (((aG an.length).find? λt=>(j4 (fc an az t)).isEmpty).elim .next λt=>.ret (.int (dJ (fc an az t) (an.sum-bZ (fc an az t)))),fF an az side l):=by refine(jh ⋯ (aY ((fk (n:=n+110) (f:=.blt "range") (kw:=[]) (vs:=[.int an.length]) (q:=(bK (aX sO)).get!) ⋯ ⋯ ⋯ (.trans (b:=(if bo (aQ an).length then some (PV.int (aQ an).length)else .none).bind λv=>some [v]) ⋯ (by rw[ku,show bo an.length=true from bh (by lia)];rfl)) ⋯).trans ⋯) rfl) (j6 _ (by lia))).trans hf
 unfold kb;cases Qq:(aG an.length).find? λt=>(j4 (fc an az t)).isEmpty with
 |some t=>rw[Qq]at e0;exact .trans (b:=(((ev (n+113)).B jM (fF an az side []) (Io.drop 0)).bind (eK [])).map (·.1)) ⋯ (fi (de 0 ⋯ e0) rfl)
 |none=>rw[Qq]at e0;refine .trans (b:=(((ev (n+113)).B jM (fF an az side []) (Io.drop 0)).bind (eK [])).map (·.1)) ⋯ (fi (st:=fF an az side l) ?_ rfl);refine ao (bf 0 ⋯ e0) ?_;rcases hl with h|⟨t',r,h⟩<;>subst h<;>kernel_rfl
def eL:Nat->Bool->aa->List (Nat×aa)
 |pos,dZ,[]=>if dZ then[(pos-1,[92])]else[]
 |pos,true,c::r=>(pos,[92,c])::eL (pos+1) false r
 |pos,false,c::r=>if c=92 then eL (pos+1) true r else(pos,[c])::eL (pos+1) false r
def iT(q:Nat×aa):PV:=.tup [.int q.1,pS q.2]
theorem yk:(l:aa)->(pos:Nat)->(e:Bool)->eJ pos e l=(eL pos e l).map iT
 |[],pos,e=>by induction e<;>rfl
 |c::r,pos,true=>by
  show PV.tup [.int pos,.str ⟨#[92,c]⟩]::eJ (pos+1) false r=_;rw[yk r];rfl
 |c::r,pos,false=>by
  show(if c=92 then eJ (pos+1) true r else PV.tup [.int pos,.str ⟨#[c]⟩]::eJ (pos+1) false r)=(if c=92 then eL (pos+1) true r else(pos,[c])::eL (pos+1) false r).map iT;rw[yk r,yk r];by_cases h:c=92
  ·refine ao (aA h) ?_;rw[aA h]
  ·refine ao (aJ h) ?_;rw[aJ h];rfl
structure SA where
 start:Nat
 op:Option Nat
 res:List aa
def dY(l:aa)(i j:Nat):aa:=(l.drop (min i l.length)).take (min j l.length-min i l.length)
def iy(l:aa)(a:SA)(q:Nat×aa):SA:=if(q.2==[34])=true then(match a.op with
 | .none=>⟨a.start,some q.1,a.res⟩
 |some o=>⟨q.1+1,.none,if(!(a.start==o))=true then a.res++[dY l a.start o]else a.res⟩)else a
def opV:Option Nat->PV
 | .none=>.none
 |some o=>.int o
def kC:aH:=(D "_strip_quoted_realnames").scope
def qV:ad:=(D "_strip_quoted_realnames").body
def zu:Stmt:=au qV 4
def di(q:Nat×aa):Loc:=[(("pos":Str),.int q.1),("ch",pS q.2)]
def yU(l:Loc):Prop :=l=[]\/∃q,l=di q
def fq(l:aa)(a:SA)(r:Loc):St:=⟨[(("addr":Str),pS l),("start",.int a.start),("open_pos",opV a.op),("result",.list (a.res.map pS))]++r,["result"],[]⟩
theorem E_(a b:Nat):((a:Int)==b)=(a==b):=by
 by_cases h:a=b
 ·subst h;refine ao (beq_self_eq_true ..) ?_;rw[beq_self_eq_true]
 ·rw[dq h,dq (show(a:Int)≠b by exact IU rfl rfl h)]
theorem pI(n i:Nat)(d:Int):jx n (some (.int i)) d=some ((min i n:Nat):Int):=by show some (if(i:Int)<0 then max 0 ((i:Int)+n)else min (i:Int) n)=_;rw[aJ (Int.not_ofNat_neg i)];congr 1;omega
theorem W'(l:aa)(i j:Nat)(h:l.length<=1000000):B9 (dN l) (some (.int i)) (some (.int j))=some (pS (dY l i j)):=by show((jx l.length (some (.int i)) 0).bind λa=>(jx l.length (some (.int j)) l.length).bind λb=>if bo l.length then some (PV.str ⟨(cut l a b).toArray⟩)else .none)=_;rw[pI,pI];exact aA (bh h)
theorem VR(l:aa)(i:Nat)(h:l.length<=1000000):B9 (dN l) (some (.int i)) .none=some (pS (dY l i l.length)):=by show((jx l.length (some (.int i)) 0).bind λa=>(some (l.length:Int)).bind λb=>if bo l.length then some (PV.str ⟨(cut l a b).toArray⟩)else .none)=_;rw[pI];rw[show bo l.length=true from bh h];unfold dY;rw[JD];rfl
def Ip:Stmt:=au (bd zu) 0
def wV:Stmt:=au (dW Ip) 0
theorem aaN(n:Nat)(l:aa)(a:SA)(q:Nat×aa)(r:Loc)(hr:yU r)(hl:l.length<=1000)(ha:a.res.length<=10000):eN (ev (n+20)) kC (dH zu) (bd zu) (iT q) (fq l a r)=some (.next,fq l (iy l a q) (di q)):=by
 have qU:(a.res.map pS).length=a.res.length:=ba ..;have key:(ev (n+19)).S kC (fq l a (di q)) Ip=some (.next,fq l (iy l a q) (di q)):=by
  have h1:=cK (n:=n+18) (sc:=kC) (st:=fq l a (di q)) (aE:=fq l a (di q)) (s:=Ip) (v:=.bool (q.2==[34])) ⋯ ⋯ rfl;refine ao h1 ?_;unfold iy;cases q.2==[34]with
  |false=>kernel_rfl
  |true=>
   rw[aA rfl,aA rfl];obtain⟨start,op,res⟩:=a;induction op with
   |none=>kernel_rfl
   |some o=>
    have h2:=cK (n:=n+14) (sc:=kC) (st:=fq l ⟨start,some o,res⟩ (di q)) (aE:=fq l ⟨start,some o,res⟩ (di q)) (s:=au (fD wV) 0) (v:=.bool (!((start:Int)==o))) ⋯ ⋯ rfl;rw[E_]at h2;have h3:(ev (n+15)).S kC (fq l ⟨start,some o,res⟩ (di q)) (au (fD wV) 0)=some (.next,fq l ⟨start,some o,if(!(start==o))=true then res++[dY l start o]else res⟩ (di q)):=by
     refine ao h2 ?_;cases start==o with
     |true=>kernel_rfl
     |false=>refine(bf (n:=n+13) (b:=dW (au (fD wV) 0)) (aE:=fq l ⟨start,some o,res++[dY l start o]⟩ (di q)) 0 ⋯ ?_).trans ⋯;refine(ui (n:=n+12) (e:=(oJ (aX (au (dW (au (fD wV) 0)) 0))).head!) (x:="result") (vs:=res.map pS) ⋯ (aY (.trans ⋯ (W' l start o (by lia))) rfl) ⋯ (by dsimp only at qU ha;lia)).trans ?_;rw[show res.map pS++[pS (dY l start o)]=(res++[dY l start o]).map pS by rw[ei];rfl];kernel_rfl
    have h4:(ev (n+17)).S kC (fq l ⟨start,some o,res⟩ (di q)) wV=some (.next,fq l ⟨q.1+1,.none,if(!(start==o))=true then res++[dY l start o]else res⟩ (di q)):=by refine(cK (n:=n+16) (v:=.bool false) ⋯ ⋯ rfl).trans ((bf (n:=n+15) (b:=fD wV) (aE:=fq l ⟨start,some o,if(!(start==o))=true then res++[dY l start o]else res⟩ (di q)) 0 ⋯ h3).trans ⋯)
    exact(bf 0 ⋯ h4).trans ⋯
 refine .trans ?_ ((bf 0 ⋯ key).trans ⋯);rcases hr with h|⟨q',h⟩<;>subst h<;>kernel_rfl
theorem Ts(l:aa)(a:SA)(q:Nat×aa):(iy l a q).res.length<=a.res.length+1:=by
 unfold iy;cases q.2==[34]with
 |false=>exact dX _
 |true=>
  rw[aA rfl];obtain⟨start,op,res⟩:=a;induction op with
  |none=>exact dX _
  |some o=>
   show(if(!(start==o))=true then res++[dY l start o]else res).length<=res.length+1;cases start==o with
   |true=>exact dX _
   |false=>show(res++[_]).length<=_;rw[cb];exact eI _
theorem A2:(l:aa)->(pos:Nat)->(e:Bool)->(eL pos e l).length<=l.length+1
 |[],pos,e=>by
  induction e with
  |true=>exact eI 1
  |false=>exact du 1
 |c::r,pos,true=>lJ (A2 r _ _)
 |c::r,pos,false=>by
  unfold eL;by_cases hc:c=92
  ·rw[aA hc];exact Jh (A2 r _ _)
  ·rw[aJ hc];exact lJ (A2 r _ _)
theorem Tt(l:aa)(a:SA)(q:Nat×aa)(h:∀x∈a.res,x.length<=l.length):∀x∈(iy l a q).res,x.length<=l.length:=by
 unfold iy;cases q.2==[34]with
 |false=>exact h
 |true=>
  rw[aA rfl];obtain⟨start,op,res⟩:=a;induction op with
  |none=>exact h
  |some o=>
   show ∀x∈(if(!(start==o))=true then res++[dY l start o]else res),x.length<=l.length;cases start==o with
   |true=>exact h
   |false=>
    intro x hx;rcases jr.mp hx with hx|hx
    ·exact h x hx
    ·rw[cW hx];unfold dY;rw[mK,jR];exact aD (agA ..) (i_ ..)
def Nt(l:aa):SA:=(eL 0 false l).foldl (iy l) ⟨0,.none,[]⟩
def oC(l:aa)(a:SA):List aa:=if a.start<l.length then a.res++[dY l a.start l.length]else a.res
def gK(l:aa):aa:=if hasChar l 34 then(oC l (Nt l)).flatten else l
theorem aaO(n:Nat)(l:aa)(hl:l.length<=400):(ev (n+28)).C "_strip_quoted_realnames" [pS l] []=some (pS (gK l)):=by
 suffices h:∃st,(ev (n+27)).B kC (bC [("addr",pS l)]) (qV.drop 0)=some (.ret (pS (gK l)),st)/\pP [] st=true by obtain⟨st,h,hb⟩:=h;exact .trans ⋯ (fi h hb)
 unfold gK;have h0:=cK (n:=n+25) (sc:=kC) (st:=bC [("addr",pS l)]) (aE:=bC [("addr",pS l)]) (s:=au qV 0) (v:=.bool (!hasChar l 34)) ⋯ ⋯ rfl;induction hq:hasChar l 34 with
 |false=>refine⟨bC [("addr",pS l)],de 0 ⋯ ?_,rfl⟩;rw[hq]at h0;exact h0.trans ⋯
 |true=>
  rw[hq]at h0;rw[aA rfl];have fm:=oo iT (λ(a:SA×Loc) q=>(iy l a.1 q,di q)) (λa=>fq l a.1 a.2) (λk a=>yU a.2/\a.1.res.length+k<=402/\∀x∈a.1.res,x.length<=l.length) (eL 0 false l) (⟨0,.none,[]⟩,[]) ⟨.inl rfl,by have :=A2 l 0 false;show 0+_<=_;lia,λz h=>(nomatch h)⟩
   λk a ha q z=>⟨aaN (n+1) l a.1 q a.2 ha.1 (by lia) (by lia),.inr ⟨q,rfl⟩,by have :=Ts l a.1 q;lia,Tt l a.1 q ha.2.2⟩
  have jG:∀(xs:List (Nat×aa))(a:SA×Loc),(xs.foldl (λ(a:SA×Loc) q=>(iy l a.1 q,di q)) a).1=xs.foldl (iy l) a.1:=by
   intro xs;induction xs with
   |nil=>intro a;rfl
   |cons x xs ih=>intro a;exact ih _
  have hA:=jG (eL 0 false l) (⟨0,.none,[]⟩,[]);replace hA:_=Nt l:=hA;obtain⟨hF,hP⟩:=fm;rw[<-hA];generalize (eL 0 false l).foldl (λ(a:SA×Loc) q=>(iy l a.1 q,di q)) (⟨0,.none,[]⟩,[])=a at hF hP;obtain⟨⟨start,op,res⟩,r⟩:=a;obtain⟨hr,hk,hc⟩:=hP;dsimp only at hF hr hk hc⊢;have e4:(ev (n+22)).S kC (fq l ⟨0,.none,[]⟩ []) zu=some (.next,fq l ⟨start,op,res⟩ r):=by refine(Nd (n:=n+21) (e:=(He kC zu).get!) (x:=dN l) ⋯ (aY ⋯ rfl)).trans ?_;rw[show jd (dN l)=(eL 0 false l).map iT from yk l 0 false];exact hF
  have Hf:(dY l start l.length).length<=l.length:=by unfold dY;rw[mK,jR];lia
  have C1:(res.map pS).length=res.length:=ba ..;have e5:(ev (n+21)).S kC (fq l ⟨start,op,res⟩ r) (au qV 5)=some (.next,fq l ⟨start,op,oC l ⟨start,op,res⟩⟩ r):=by
   have h5:=cK (n:=n+20) (sc:=kC) (st:=fq l ⟨start,op,res⟩ r) (aE:=fq l ⟨start,op,res⟩ r) (s:=au qV 5) (v:=.bool (decide ((start:Int)<l.length))) ⋯ (aY (.trans (b:=(if bo l.length then some (PV.int l.length)else .none).bind λy=>(fU .Lt (.int start) y).map .bool) (by rcases hr with h|⟨q,h⟩<;>subst h<;>kernel_rfl) (by rw[show bo l.length=true from bh (by lia)];rfl)) rfl) rfl;refine ao h5 ?_;unfold oC;dsimp only;by_cases h:start<l.length
   ·rw[bh (show(start:Int)<l.length by lia),aA h];refine(bf (n:=n+19) (b:=dW (au qV 5)) (aE:=fq l ⟨start,op,res++[dY l start l.length]⟩ r) 0 ⋯ ?_).trans ⋯;refine(ui (n:=n+18) (e:=(oJ (aX (au (dW (au qV 5)) 0))).head!) (x:="result") (vs:=res.map pS) ⋯ (aY (.trans ?_ (VR l start (by lia))) rfl) ⋯ (by lia)).trans ?_
    ·rcases hr with h|⟨q,h⟩<;>subst h<;>kernel_rfl
    ·rw[show res.map pS++[pS (dY l start l.length)]=(res++[dY l start l.length]).map pS by rw[ei];rfl];kernel_rfl
   ·rw[cA (show¬(start:Int)<l.length by lia),aJ h];kernel_rfl
  have hE:(∀x∈oC l ⟨start,op,res⟩,x.length<=l.length)/\(oC l ⟨start,op,res⟩).length<=403:=by
   unfold oC;dsimp only;by_cases h:start<l.length
   ·rw[aA h];refine⟨λx hx=>?_,by rw[cb];show res.length+1<=_;lia⟩;rcases jr.mp hx with hx|hx
    ·exact hc x hx
    ·rw[cW hx];exact Hf
   ·rw[aJ h];exact⟨hc,by lia⟩
  generalize oC l ⟨start,op,res⟩=R at e5 hE;have ml:R.flatten.length<=1000000:=by exact aD (vH λx hx=>aD (hE.1 x hx) hl) (aD (s_ _ hE.2) (by lia))
  have e6:(ev (n+20)).S kC (fq l ⟨start,op,R⟩ r) (au qV 6)=some (.ret (pS R.flatten),fq l ⟨start,op,R⟩ r):=by
   refine gu ⋯ (rD ?_ (.trans ?_ (Bf R ml)) rfl)
   ·rcases hr with h|⟨q,h⟩<;>subst h<;>kernel_rfl
   ·rcases hr with h|⟨q,h⟩<;>subst h<;>kernel_rfl
  refine⟨fq l ⟨start,op,R⟩ r,?_,rfl⟩;refine ao (bf (aE:=bC [("addr",pS l)]) 0 ⋯ (h0.trans ⋯)) ?_;refine .trans (b:=(ev (n+23)).B kC (fq l ⟨0,.none,[]⟩ []) (qV.drop 4)) ⋯ ?_;refine ao (bf 4 ⋯ e4) ?_;rw[bf 5 ⋯ e5,de 6 ⋯ e6]
def mY:Int->List (Nat×aa)->Option Int
 |o,[]=>some o
 |o,q::r=>if(q.2==[40])=true then mY (o+1) r else if(q.2==[41])=true then(if o-1<0 then .none else mY (o-1) r)else mY o r
def ma(l:aa):Bool:=match mY 0 (eL 0 false (gK l))with
 | .none=>false
 |some o=>o==0
def gT:aH:=(D "_check_parenthesis").scope
def zv:ad:=(D "_check_parenthesis").body
def n7:Stmt:=au zv 2
def e_(l:aa)(o:Int)(r:Loc):St:=bC ([(("addr":Str),pS l),("opens",.int o)]++r)
def zw:Stmt:=au (bd n7) 0
def wW:Stmt:=au (fD zw) 0
theorem aaP(n:Nat)(l:aa)(o:Int)(q:Nat×aa)(r:Loc)(hr:yU r):eN (ev (n+20)) gT (dH n7) (bd n7) (iT q) (e_ l o r)=
  if(q.2==[40])=true then some (.next,e_ l (o+1) (di q))else if(q.2==[41])=true then(if o-1<0 then some (.ret (.bool false),e_ l (o-1) (di q))else some (.next,e_ l (o-1) (di q)))else some (.next,e_ l o (di q)):=by
 have h1:=cK (n:=n+18) (sc:=gT) (st:=e_ l o (di q)) (aE:=e_ l o (di q)) (s:=zw) (v:=.bool (q.2==[40])) (c:=q.2==[40]) ⋯ ⋯ rfl;have h2:=cK (n:=n+16) (sc:=gT) (st:=e_ l o (di q)) (aE:=e_ l o (di q)) (s:=wW) (v:=.bool (q.2==[41])) (c:=q.2==[41]) ⋯ ⋯ rfl;have h3:=cK (n:=n+13) (sc:=gT) (st:=e_ l (o-1) (di q)) (aE:=e_ l (o-1) (di q)) (s:=au (dW wW) 1) (v:=.bool (decide (o-1<0))) (c:=decide (o-1<0)) ⋯ ⋯ rfl;refine .trans (b:=(ev (n+20)).B gT (e_ l o (di q)) ((bd n7).drop 0)) (by rcases hr with h|⟨q',h⟩<;>subst h<;>kernel_rfl) ?_;refine ao (oY 0 ⋯) ?_;rw[show(ev (n+19)).S gT (e_ l o (di q)) (au (bd n7) 0)=_ from h1];cases q.2==[40]with
 |true=>kernel_rfl
 |false=>
  rw[aJ (by decide),aJ (by decide),show(ev (n+18)).B gT (e_ l o (di q)) (fD zw)=FW ((ev (n+17)).S gT (e_ l o (di q)) wW) (λst=>(ev (n+17)).B gT st ((fD zw).drop 1)) from oY (b:=fD zw) 0 ⋯,h2];cases q.2==[41]with
  |false=>kernel_rfl
  |true=>
   have h4:(ev (n+15)).B gT (e_ l (o-1) (di q)) ((dW wW).drop 1)=if o-1<0 then some (.ret (.bool false),e_ l (o-1) (di q))else some (.next,e_ l (o-1) (di q)):=by
    refine ao (oY 1 ⋯) ?_;rw[h3];by_cases h:o-1<0
    ·rw[bh h,aA h];kernel_rfl
    ·rw[cA h,aJ h];kernel_rfl
   rw[aA rfl,aA rfl,show(ev (n+16)).B gT (e_ l o (di q)) (dW wW)=(ev (n+15)).B gT (e_ l (o-1) (di q)) ((dW wW).drop 1) from⋯,h4];by_cases h:o-1<0
   ·rw[aA h];rfl
   ·rw[aJ h];kernel_rfl
theorem Xa(n:Nat)(l:aa):(qs:List (Nat×aa))->(o:Int)->(r:Loc)->yU r->∃r' o',yU r'/\dT (ev (n+20)) gT (dH n7) (bd n7) (qs.map iT) (e_ l o r)=(match mY o qs with
  | .none=>some (.ret (.bool false),e_ l o' r')
  |some v=>some (.next,e_ l v r')):=by
 intro qs;induction qs with
 |nil=>exact λo r hr=>⟨r,o,hr,rfl⟩
 |cons q qs ih=>
  intro o r hr;have h:=aaP n l o q r hr;unfold mY;cases hq:q.2==[40]with
  |true=>rw[hq,aA rfl]at h;rw[aA rfl,show(q::qs).map iT=iT q::qs.map iT from rfl,lT h];exact ih (o+1) (di q) (.inr ⟨q,rfl⟩)
  |false=>
   rw[hq,aJ (by decide)]at h;rw[aJ (by decide)];cases wX:q.2==[41]with
   |false=>rw[wX,aJ (by decide)]at h;rw[aJ (by decide),show(q::qs).map iT=iT q::qs.map iT from rfl,lT h];exact ih o (di q) (.inr ⟨q,rfl⟩)
   |true=>
    rw[wX,aA rfl]at h;rw[aA rfl];by_cases h3:o-1<0
    ·rw[aA h3]at h⊢;exact⟨di q,o-1,.inr ⟨q,rfl⟩,vL h⟩
    ·rw[aJ h3]at h⊢;rw[show(q::qs).map iT=iT q::qs.map iT from rfl,lT h];exact ih (o-1) (di q) (.inr ⟨q,rfl⟩)
theorem Op(n)(l)(hl:l.length<=400):(ev (n+33)).C "_check_parenthesis" [pS l] []=some (.bool (ma l)):=by
 suffices h:∃st,(ev (n+32)).B gT (bC [("addr",pS l)]) (zv.drop 0)=some (.ret (.bool (ma l)),st)/\pP [] st=true by refine br h λst h hb=>.trans (b:=(((ev (n+32)).B gT (bC [("addr",pS l)]) (zv.drop 0)).bind (eK [])).map (·.1)) ⋯ (fi h hb)
 unfold ma;have e0:(ev (n+31)).S gT (bC [("addr",pS l)]) (au zv 0)=some (.next,bC [("addr",pS (gK l))]):=
  (dr (n:=n+30) (x:="addr") ⋯ ⋯ (aY (.trans (b:=(ev (n+29)).C "_strip_quoted_realnames" [pS l] []) ⋯ (aaO (n+1) l hl)) rfl)).trans ⋯
 have e1:(ev (n+30)).S gT (bC [("addr",pS (gK l))]) (au zv 1)=some (.next,e_ (gK l) 0 []):=⋯
 refine gb (Xa (n+8) (gK l) (eL 0 false (gK l)) 0 [] (.inl rfl)) λr o hr hf=>?_;have e2:(ev (n+29)).S gT (e_ (gK l) 0 []) n7=dT (ev (n+28)) gT (dH n7) (bd n7) ((eL 0 false (gK l)).map iT) (e_ (gK l) 0 []):=by refine(Nd (n:=n+28) (e:=(He gT n7).get!) (x:=dN (gK l)) ⋯ (aY ⋯ rfl)).trans ?_;rw[show jd (dN (gK l))=_ from yk (gK l) 0 false]
 rw[hf]at e2;rw[bf 0 ⋯ e0,bf 1 ⋯ e1];cases hc:mY 0 (eL 0 false (gK l))with
 |none=>rw[hc]at e2;exact⟨e_ (gK l) o r,de 2 ⋯ e2,rfl⟩
 |some v=>rw[hc]at e2;rw[bf 2 ⋯ e2];refine⟨e_ (gK l) v r,?_,rfl⟩;rcases hr with h|⟨q,h⟩<;>subst h<;>kernel_rfl
def kZ:aa:=[40,39,39,44,32,39,39,41]
def eB(l:aa):aa:=if ma l then l else kZ
def sR:aH:=(D "_pre_parse_validation").scope
def Iq:ad:=(D "_pre_parse_validation").body
def qW:Stmt:=au Iq 1
def iH(ls acc:List aa)(o:ag):St:=⟨[(("email_header_fields":Str),.list (ls.map pS)),("accepted_values",.list (acc.map pS))]++oL "v" o,["accepted_values"],[]⟩
theorem aaQ(n)(ls acc:List aa)(o)(l)(hl:l.length<=400)(ha:acc.length<=1000):eN (ev (n+40)) sR (dH qW) (bd qW) (pS l) (iH ls acc o)=some (.next,iH ls (acc++[eB l]) (some (pS (eB l)))):=by
 have hE:(ev (n+38)).E sR (hide ["accepted_values"] (iH ls acc (some (pS l))).loc) (aX (au (bd qW) 0))=some (.bool (!ma l)):=by refine .trans (b:=((ev (n+36)).C "_check_parenthesis" [pS l] []).bind (y7 .Not)) ⋯ ?_;rw[Op (n+3) l hl];rfl
 have e0:(ev (n+39)).S sR (iH ls acc (some (pS l))) (au (bd qW) 0)=some (.next,iH ls acc (some (pS (eB l)))):=by refine ao (cK (n:=n+38) (aE:=iH ls acc (some (pS l))) (c:= !ma l) (s:=au (bd qW) 0) ⋯ (aY hE rfl) rfl) ?_;unfold eB;cases ma l<;>kernel_rfl
 have e1:(ev (n+38)).S sR (iH ls acc (some (pS (eB l)))) (au (bd qW) 1)=some (.next,iH ls (acc++[eB l]) (some (pS (eB l)))):=by have qU:(acc.map pS).length=acc.length:=ba ..;refine(ui (n:=n+37) (e:=(oJ (aX (au (bd qW) 1))).head!) (x:="accepted_values") (vs:=acc.map pS) (v:=pS (eB l)) (aE:=iH ls acc (some (pS (eB l)))) ⋯ (aY ⋯ rfl) ⋯ (by lia)).trans ?_;rw[show acc.map pS++[pS (eB l)]=(acc++[eB l]).map pS by rw[ei];rfl];kernel_rfl
 refine .trans (b:=(ev (n+40)).B sR (iH ls acc (some (pS l))) ((bd qW).drop 0)) (by induction o<;>kernel_rfl) ?_;refine ao (bf 0 ⋯ e0) ?_;rw[bf 1 ⋯ e1];kernel_rfl
theorem Tu(f:α->β):(l:List α)->(a:List β)->l.foldl (λa x=>a++[f x]) a=a++l.map f:=by
 intro l;induction l with
 |nil=>exact λa=>(gW a).symm
 |cons x l ih=>intro a;refine ao to ?_;rw[ih,gE];rfl
theorem aaR(n)(ls:List aa)(hl:∀l∈ls,l.length<=400)(hn:ls.length<=100):(ev (n+44)).C "_pre_parse_validation" [.list (ls.map pS)] []=some (.list ((ls.map eB).map pS)):=by
 have fm:=oo pS (λ(a:List aa×ag) l=>(a.1++[eB l],some (pS (eB l)))) (λa=>iH ls a.1 a.2) (λk a=>a.1.length+k<=1000) ls ([],.none) (by show 0+_<=_;lia)
  λk a ha l n8=>⟨aaQ n ls a.1 a.2 l (hl l n8) (IN ha),by rw[cb];show a.1.length+1+k<=_;lia⟩
 have jG:∀(xs:List aa)(a:List aa×ag),(xs.foldl (λ(a:List aa×ag) l=>(a.1++[eB l],some (pS (eB l)))) a).1=xs.foldl (λa l=>a++[eB l]) a.1:=by
  intro xs;induction xs with
  |nil=>intro a;rfl
  |cons x xs ih=>intro a;exact ih _
 have hA:=jG ls ([],.none);rw[Tu,rj]at hA;have hF:=fm.1;generalize ls.foldl (λ(a:List aa×ag) l=>(a.1++[eB l],some (pS (eB l)))) ([],.none)=a at hA hF;obtain⟨acc,o⟩:=a;dsimp only at hA hF;subst hA;have e1:(ev (n+41)).S sR (iH ls [] .none) qW=some (.next,iH ls (ls.map eB) o):=
  (jh (n:=n+40) (aE:=iH ls [] .none) (v:=.list (ls.map pS)) ⋯ (aY ⋯ (xP ls)) rfl).trans hF
 have e2:(ev (n+40)).S sR (iH ls (ls.map eB) o) (au Iq 2)=some (.ret (.list ((ls.map eB).map pS)),⟨(iH ls (ls.map eB) o).loc,[],[]⟩):=by
  refine gu ⋯ (tM ?_ ?_ rfl ?_ (xP _))
  all_goals induction o<;>kernel_rfl
 refine .trans (b:=(((ev (n+42)).B sR (iH ls [] .none) (Iq.drop 1)).bind (eK [])).map (·.1)) ⋯ (fi (st:=⟨(iH ls (ls.map eB) o).loc,[],[]⟩) ?_ rfl);refine ao (bf 1 ⋯ e1) ?_;rw[de 2 ⋯ e2]
def fy(ws:aa)(s:Nat):Nat:=ws.countP (· ==s)
def dl(ws:aa):List aa:=(aG (ws.length+1)).foldl (λm s=>m++cC (fy ws s) [40]++[[41]]) []
def qd:List aa:=[[],[34,41,34],[92,40],[97],[34,40,34],[92,41],[92,92],[92,34],[],[],[],[],[],[],[],[]]
def yB(hide:Int)(j:Nat):Nat:=((hide+5*j).fmod 16).toNat
def Oq(marks:List aa)(hide:Int)(j:Nat):aa:=marks.getD j []++qd.getD (yB hide j) []
def j9(ws:aa)(hide:Int):List aa:=(aG ((dl ws).length-1)).map (Oq (dl ws) hide)
def zx:aH:=(D "_law_units").scope
def wY:ad:=(D "_law_units").body
def zy:Stmt:=au wY 2
def kD(ws:aa)(hide:Int)(ms:List aa)(o:ag):St:=bC ([(("wishes":Str),PV.list (ap ws)),("hide",.int hide),("menu",.list (qd.map pS)),("marks",.list (ms.map pS))]++oL "spot" o)
theorem count_cast(s:Nat)(ws:aa):(ws.map λk:Nat=>(k:Int)).countP (· ==(s:Int))=fy ws s:=by
 induction ws with
 |nil=>rfl
 |cons w ws ih=>rw[cO,agr,ih,E_];delta fy;rw[agr]
theorem Uy(ws:aa)(s:Nat):Fl (.list (ap ws)) [.int s]=some (.int (fy ws s)):=by show(intsOf (ap ws)).map (λl=>PV.int (l.countP (· ==(s:Int))))=_;rw[xQ,vB];show some (PV.int _)=_;rw[count_cast]
theorem Es(ws:aa)(s:Nat):fy ws s<=ws.length:=List.countP_le_length
theorem EG(l:aa)(k:Nat)(h:k<=1000):bj .Mult (.list [pS l]) (.int k)=some (.list ((cC k l).map pS)):=(E4 h).trans (by rw[Rm])
theorem aaS(n:Nat)(ws:aa)(hide:Int)(ms:List aa)(o:ag)(s:Nat)(hw:ws.length<=100)(hm:ms.length<=100000):
  eN (ev (n+15)) zx (dH zy) (bd zy) (.int s) (kD ws hide ms o)=some (.next,kD ws hide (ms++cC (fy ws s) [40]++[[41]]) (some (.int s))):=by
 have hc:=Es ws s;have eA:(ms.map pS).length=ms.length:=ba ..;have C1:((cC (fy ws s) [40]).map pS).length=fy ws s:=by refine ao (ba ..) ?_;rw[gV]
 have hS:(ev (n+14)).S zx (kD ws hide ms (some (.int s))) (au (bd zy) 0)=some (.next,kD ws hide (ms++cC (fy ws s) [40]++[[41]]) (some (.int s))):=by refine(dr (x:="marks") (aE:=kD ws hide ms (some (.int s))) (v:=.list ((ms++cC (fy ws s) [40]++[[41]]).map pS)) ⋯ ⋯ (aY (.trans (b:=(((Fl (.list (ap ws)) [.int s]).bind λy=>bj .Mult (.list [pS [40]]) y).bind λy=>bj .Add (.list (ms.map pS)) y).bind λx=>bj .Add x (.list [pS [41]])) ⋯ ?_) (show b_ _=true from xP _))).trans ⋯;rw[Uy];show(((bj .Mult (.list [pS [40]]) (.int (fy ws s:Nat))).bind λy=>bj .Add (.list (ms.map pS)) y).bind λx=>bj .Add x (.list [pS [41]]))=_;rw[EG _ _ (by lia)];show((bj .Add (.list (ms.map pS)) (.list ((cC (fy ws s) [40]).map pS))).bind λx=>bj .Add x (.list [pS [41]]))=_;rw[add_list (by lia),Ro,add_list (by rw[cb,eA,C1];show _+1<=_;lia),ei,ei];rfl
 refine .trans (by induction o<;>kernel_rfl) ((bf 0 ⋯ hS).trans ⋯)
theorem yC{ls:List aa}{k:Nat}(h:k<ls.length)(h2:ls.length<=1000000):(if bJ (k:Int)then b0 (ls.map pS) k else .none)=some (pS (ls.getD k [])):=by rw[pH (by lia)];unfold b0;refine ao (aA rfl) ?_;rw[aA (cz k),ip,i7,dD,gU h];rfl
theorem Uz(ws:aa)(hw:ws.length<=100):∀(l:aa)(m:List aa),l.length+m.length<=(l.foldl (λm s=>m++cC (fy ws s) [40]++[[41]]) m).length/\(l.foldl (λm s=>m++cC (fy ws s) [40]++[[41]]) m).length<=m.length+l.length*101:=by
 intro l;induction l with
 |nil=>exact λm=>⟨by show 0+m.length<=m.length;lia,lK ..⟩
 |cons s l ih=>
  intro m;have h:=ih (m++cC (fy ws s) [40]++[[41]]);have hc:=Es ws s;have e:(m++cC (fy ws s) [40]++[[41]]).length=m.length+fy ws s+1:=by refine ao cb ?_;rw[cb,gV];rfl
  rw[e]at h;rw[to,ff];lia
theorem VS(ws:aa)(hw:ws.length<=100):1<=(dl ws).length/\(dl ws).length<=10201:=by have h:=Uz ws hw (aG (ws.length+1)) [];rw[cV]at h;refine⟨aD (Ae 1 ws.length) h.1,aD h.2 (by show 0+(ws.length+1)*101<=_;lia)⟩
theorem Mn(hide:Int)(j:Nat):(hide+5*j).fmod 16=(yB hide j:Nat)/\yB hide j<16:=
 have h1:=jQ (hide+5*j) (show(0:Int)<16 by decide)
 ⟨(ri h1).symm,(xx h1).mpr (mJ _ (by decide))⟩
theorem KE(ws:aa):∀(l:aa)(m:List aa),(∀x∈m,x.length=1)->∀x∈l.foldl (λm s=>m++cC (fy ws s) [40]++[[41]]) m,x.length=1
 |[],m,h=>h
 |s::l,m,h=>KE ws l _ λx hx=>by
  rcases jr.mp hx with hx|hx
  ·rcases jr.mp hx with hx|hx
   ·exact h x hx
   ·rw[List.eq_of_mem_replicate hx];rfl
  ·rw[cW hx];rfl
theorem Gu(n:Nat)(ws:aa)(hide:Int)(hw:ws.length<=100):(ev (n+20)).C "_law_units" [.list (ap ws),.int hide] []=some (.list ((j9 ws hide).map pS)):=by
 have eU:(ap ws).length=ws.length:=ba ..;have fm:=oo (λs:Nat=>PV.int s) (λ(a:List aa×ag) s=>(a.1++cC (fy ws s) [40]++[[41]],some (PV.int s))) (λa=>kD ws hide a.1 a.2) (λk a=>a.1.length+k*101<=20000) (aG (ws.length+1)) ([],.none) (by rw[cV];show 0+_<=_;lia)
  λk a ha s z=>⟨aaS n ws hide a.1 a.2 s hw (by lia),by
   have hc:=Es ws s;rw[cb,cb,gV];show a.1.length+fy ws s+1+k*101<=_;lia⟩
 have jG:∀(xs:aa)(a:List aa×ag),(xs.foldl (λ(a:List aa×ag) s=>(a.1++cC (fy ws s) [40]++[[41]],some (PV.int s))) a).1=xs.foldl (λm s=>m++cC (fy ws s) [40]++[[41]]) a.1:=by
  intro xs;induction xs with
  |nil=>intro a;rfl
  |cons x xs ih=>intro a;exact ih _
 have hA:=jG (aG (ws.length+1)) ([],.none);replace hA:_=dl ws:=hA;have hF:=fm.1;generalize (aG (ws.length+1)).foldl (λ(a:List aa×ag) s=>(a.1++cC (fy ws s) [40]++[[41]],some (PV.int s))) ([],.none)=a at hA hF;obtain⟨ms,o⟩:=a;dsimp only at hA hF;subst hA;have hm:=VS ws hw;have eA:((dl ws).map pS).length=(dl ws).length:=ba ..;have e2:(ev (n+16)).S zx (kD ws hide [] .none) zy=some (.next,kD ws hide (dl ws) o):=by refine(jh ⋯ (aY ((fk (n:=n+14) (f:=.blt "range") (kw:=[]) (vs:=[.int (ws.length+1:Nat)]) (q:=(bK (aX zy)).get!) ⋯ ⋯ ⋯ (.trans (b:=((if bo (ap ws).length then some (PV.int (ap ws).length)else .none).bind λx=>(some (PV.int 1)).bind λy=>bj .Add x y).bind λv=>some [v]) ⋯ (by rw[eU,show bo ws.length=true from bh (by lia)];rfl)) ⋯).trans ⋯) rfl) (j6 _ (by lia))).trans hF
 have e3:(ev (n+15)).S zx (kD ws hide (dl ws) o) (au wY 3)=some (.ret (.list ((j9 ws hide).map pS)),kD ws hide (dl ws) o):=by
  refine gu ⋯ (aY ((gx (n:=n+13) (q:=(cM (aX (au wY 3))).get!) ⋯ (by induction o<;>kernel_rfl) ((fk (n:=n+12) (f:=.blt "range") (kw:=[]) (vs:=[.int ((dl ws).length-1:Nat)]) (q:=(bK (cM (aX (au wY 3))).get!.2.2.iter).get!) ⋯ (by induction o<;>kernel_rfl) (by induction o<;>kernel_rfl) (.trans (b:=((if bo ((dl ws).map pS).length then some (PV.int ((dl ws).map pS).length)else .none).bind λx=>(some (PV.int 1)).bind λy=>bj .Sub x y).bind λv=>some [v]) (by induction o<;>kernel_rfl) ?_) ⋯).trans ⋯) (j6 _ (by lia)) ((fV (λj=>[pS (Oq (dl ws) hide j)]) (aG ((dl ws).length-1)) λj hj=>?_).trans (by rw[jc])) (by rw[ba,cV];lia)).trans (by unfold j9;rw[cP];rfl)) (xP _))
  ·rw[eA,show bo (dl ws).length=true from bh (by lia)];rw[ro hm.1];rfl
  ·have hj:=bI.mp hj;have Gv:=Mn hide j;have Hh:free (cM (aX (au wY 3))).get!.2.1 (Mine.Internal.hide (kD ws hide (dl ws) o).own (kD ws hide (dl ws) o).loc)=[(("hide":Str),.int hide),("menu",.list (qd.map pS)),("marks",.list ((dl ws).map pS))]:=by induction o<;>kernel_rfl
   rw[Hh];refine jy (l1:=[(("hide":Str),.int hide),("menu",.list (qd.map pS)),("marks",.list ((dl ws).map pS)),("j",.int j)]) ⋯ (.trans (b:=(if bJ (j:Int)then b0 ((dl ws).map pS) j else .none).bind λx=>(((((cQ .Mult 5 (j:Int)).bind λy=>bj .Add (.int hide) y).bind λx=>bj .Mod x (.int 16)).bind fj).bind λk=>if bJ k then b0 (qd.map pS) k else .none).bind λy=>bj .Add x y) ⋯ ?_) rfl;rw[yC (by lia) (by lia),lW (by lia) (by lia)];show((((cQ .Mod (hide+5*j) 16)).bind fj).bind λk=>if bJ k then b0 (qd.map pS) k else .none).bind (λy=>bj .Add (pS ((dl ws).getD j [])) y)=_;rw[mS (by lia),Gv.1];show(if bJ ((yB hide j:Nat):Int)then b0 (qd.map pS) (yB hide j:Nat)else .none).bind (λy=>bj .Add (pS ((dl ws).getD j [])) y)=_;rw[yC Gv.2 (by show 16<=1000000;lia)];refine add_str ?_;have hA1:((dl ws).getD j []).length=1:=by rw[dD,gU (show j<(dl ws).length by lia)];exact KE ws _ [] (λz h=>nomatch h) _ (xj _)
   have hA2:∀k,k<16->(qd.getD k []).length<=3:=by decide
   have :=hA2 _ Gv.2;lia
 refine .trans (b:=(((ev (n+17)).B zx (kD ws hide [] .none) (wY.drop 2)).bind (eK [])).map (·.1)) ⋯ (fi (st:=kD ws hide (dl ws) o) ?_ rfl);refine ao (bf 2 ⋯ e2) ?_;rw[de 3 ⋯ e3]
def C2:ad:=(D "_law_cells").body
def u_:aH:=(D "_law_cells").scope
def vc:Stmt:=au C2 2
def kE(sc nu cs:ac)(o:ag):St:=⟨[(("script":Str),PV.list (aQ sc)),("cells",.list (aQ cs)),("numbers",.list (aQ nu))]++oL "i" o,["cells"],[]⟩
def qX(v:Int):Int:=if 0<=v then v.fmod 1000000 else -((-v).fmod 1000000)
def zz(nu cs:ac)(i:Nat):ac:=cs.set (i%7) (cs.getD (i%7) 0+qX (nu.getD i 0))
theorem YW(v): -1000000<=qX v/\qX v<=1000000:=by
 unfold qX;have h1:=jQ v (show(0:Int)<1000000 by exact zX.mp rfl);have h2:=mJ v (show(0:Int)<1000000 by exact zX.mp rfl);have h3:=jQ (-v) (show(0:Int)<1000000 by exact zX.mp rfl);have h4:=mJ (-v) (show(0:Int)<1000000 by exact zX.mp rfl);by_cases h:0<=v
 ·rw[aA h];omega
 ·rw[aJ h];omega
theorem aaT(n:Nat)(sc nu cs:ac)(o:ag)(i:Nat)(hi:i<nu.length)(hn:nu.length<=60)(hc:cs.length=7):eN (ev (n+20)) u_ (dH vc) (bd vc) (.int i) (kE sc nu cs o)=some (.next,kE sc nu (zz nu cs i) (some (.int i))):=by
 have h7:(i:Int).fmod 7=(i%7:Nat):=by refine ao (kH _ (Ji 7)) ?_;exact(vp i 7).symm
 have hl7:i%7<cs.length:=by rw[hc];exact mP _ (RD 6)
 have ku:(aQ cs).length=cs.length:=ba ..;have hx:(ev (n+18)).E u_ (hide [] (kE sc nu cs (some (.int i))).loc) (aX (au (bd vc) 0))=some (.int (cs.getD (i%7) 0+qX (nu.getD i 0))):=by
  refine kU (n:=n+17) (x:=.int (cs.getD (i%7) 0)) (y:=.int (qX (nu.getD i 0))) ⋯ (.trans (b:=if bJ ((i:Int).fmod 7)then b0 (aQ cs) ((i:Int).fmod 7)else .none) ⋯ (by rw[h7];exact pN hl7 (by lia))) ((yS (n:=n+16) (v:=.bool (decide (0<=nu.getD i 0))) (c:=decide (0<=nu.getD i 0)) ⋯ (.trans (b:=(if bJ (i:Int)then b0 (aQ nu) i else .none).bind λx=>(some (PV.int 0)).bind λy=>(fU .GtE x y).map .bool) ⋯ (by rw[pN hi (by lia)];rfl)) rfl).trans ?_) ⋯;unfold qX;by_cases h:0<=nu.getD i 0
  ·rw[bh h,aA h];refine .trans (b:=(if bJ (i:Int)then b0 (aQ nu) i else .none).bind λx=>bj .Mod x (.int 1000000)) ⋯ ?_;rw[pN hi (by lia)];show cQ .Mod (nu.getD i 0) 1000000=_;exact mS (Int.le.intro_sub (1000000-Nat.succ 0) rfl)
  ·rw[cA h,aJ h];refine .trans (b:=((((if bJ (i:Int)then b0 (aQ nu) i else .none).bind (y7 .USub)).bind λx=>bj .Mod x (.int 1000000)).bind (y7 .USub))) ⋯ ?_;rw[pN hi (by lia)];show((cQ .Mod (-nu.getD i 0) 1000000).bind (y7 .USub))=_;rw[mS (Int.le.intro_sub (1000000-Nat.succ 0) rfl)];rfl
 have hS:(ev (n+19)).S u_ (kE sc nu cs (some (.int i))) (au (bd vc) 0)=some (.next,kE sc nu (zz nu cs i) (some (.int i))):=by refine(Og (n:=n+18) (q:=(Gn (au (bd vc) 0)).get!) (aE:=kE sc nu cs (some (.int i))) (bw:=kE sc nu cs (some (.int i))) (v:=.int (cs.getD (i%7) 0+qX (nu.getD i 0))) (k:=(i:Int).fmod 7) ⋯ (rD ⋯ hx rfl) ⋯ rfl ⋯ ⋯ (by rw[h7,ip,ku];lia)).trans ?_;rw[h7,ip,show(aQ cs).set (i%7) (.int (cs.getD (i%7) 0+qX (nu.getD i 0)))=aQ (zz nu cs i) from agW.symm];kernel_rfl
 exact .trans (by induction o<;>kernel_rfl) ((bf 0 ⋯ hS).trans ⋯)
theorem aaU(n:Nat)(sc:ac)(hs:sc.length<=63):∃cs:ac,cs.length=7/\(∀c∈cs,-100000000<=c/\c<=100000000)/\(ev (n+30)).C "_law_cells" [.list (aQ sc)] []=some (.list (aQ cs)):=by
 have hsl:(aQ sc).length=sc.length:=ba ..;have eU:(aQ (sc.take 60)).length=(sc.take 60).length:=ba ..;have hn:(sc.take 60).length<=60:=ta ..;have fm:=oo (λs:Nat=>PV.int s) (λ(a:ac×ag) i=>(zz (sc.take 60) a.1 i,some (PV.int i))) (λa=>kE sc (sc.take 60) a.1 a.2) (λk a=>a.1.length=7/\∀c∈a.1,-100000000<=c-k*1000000/\c+k*1000000<=100000000) (aG (sc.take 60).length) ([112,7,-6,9,30,-11,5137],.none)
  ⟨rfl,by rw[cV];intro c hc;have : -11<=c/\c<=5137:=(by revert c;decide);lia⟩
  λk a ha i hi=>⟨aaT (n+5) sc (sc.take 60) a.1 a.2 i (bI.mp hi) hn ha.1,by
   have hm:i%7<a.1.length:=by rw[ha.1];exact mP _ (RD 6)
   refine⟨by refine ao RJ ?_;exact ha.1,λc hc=>?_⟩;have hd:=YW ((sc.take 60).getD i 0);rcases List.mem_or_eq_of_mem_set hc with h|h
   ·have :=ha.2 c h;lia
   ·have h2:=ha.2 (a.1.getD (i%7) 0) (by rw[dD,gU hm];exact xj _);lia⟩
 generalize (aG (sc.take 60).length).foldl (λ(a:ac×ag) i=>(zz (sc.take 60) a.1 i,some (PV.int i))) ([112,7,-6,9,30,-11,5137],.none)=a at fm;obtain⟨cs,o⟩:=a;obtain⟨hF,hP⟩:=fm;dsimp only at hF hP;refine⟨cs,hP.1,λc hc=>by have :=hP.2 c hc;lia,?_⟩;have mu:∀k,k<=1000->bo k=true:=λk h=>bh (by lia);have e1:(ev (n+27)).S u_ ⟨[(("script":Str),PV.list (aQ sc)),("cells",.list (aQ [112,7,-6,9,30,-11,5137]))],["cells"],[]⟩ (au C2 1)=some (.next,kE sc (sc.take 60) [112,7,-6,9,30,-11,5137] .none):=by
  refine(dr (x:="numbers") (aE:=⟨[(("script":Str),PV.list (aQ sc)),("cells",.list (aQ [112,7,-6,9,30,-11,5137]))],["cells"],[]⟩) (v:=.list (aQ (sc.take 60))) ⋯ ⋯ (aY (.trans (b:=if bo (aQ sc).length then some (.list (cut (aQ sc) 0 (min 60 ((aQ sc).length:Int))))else .none) ⋯ ?_) (jZ _))).trans ⋯;rw[hsl,mu _ (by lia)];show some (PV.list (((aQ sc).drop 0).take ((min 60 (sc.length:Int)).toNat-0)))=_;rw[Jv,An];unfold aQ;rw[tu];congr 2;by_cases h:sc.length<=60
  ·refine ao (xb (by rw[ba];lia)) ?_;rw[xb (by rw[ba];exact String.Pos.Raw.mk_le_mk.mp h)]
  ·congr 1;lia
 have e2:(ev (n+26)).S u_ (kE sc (sc.take 60) [112,7,-6,9,30,-11,5137] .none) vc=some (.next,kE sc (sc.take 60) cs o):=by refine(jh ⋯ (aY ((fk (n:=n+24) (f:=.blt "range") (kw:=[]) (vs:=[.int (sc.take 60).length]) (q:=(bK (aX vc)).get!) ⋯ ⋯ ⋯ (.trans (b:=(if bo (aQ (sc.take 60)).length then some (PV.int (aQ (sc.take 60)).length)else .none).bind λv=>some [v]) ⋯ (by rw[eU,mu _ (by lia)];rfl)) ⋯).trans ⋯) rfl) (j6 _ (by lia))).trans hF
 have e3:(ev (n+25)).S u_ (kE sc (sc.take 60) cs o) (au C2 3)=some (.ret (.list (aQ cs)),⟨(kE sc (sc.take 60) cs o).loc,[],[]⟩):=by
  refine gu ⋯ (tM ?_ ?_ rfl ?_ (jZ _))
  all_goals induction o<;>kernel_rfl
 refine .trans (b:=(((ev (n+28)).B u_ ⟨[(("script":Str),PV.list (aQ sc)),("cells",.list (aQ [112,7,-6,9,30,-11,5137]))],["cells"],[]⟩ (C2.drop 1)).bind (eK [])).map (·.1)) ⋯ (fi (st:=⟨(kE sc (sc.take 60) cs o).loc,[],[]⟩) ?_ rfl);refine ao (bf 1 ⋯ e1) ?_;rw[bf 2 ⋯ e2,de 3 ⋯ e3]
theorem lo_le(h:k<=1000):bo k=true:=bh (aD h (by decide))
theorem vI(l):(aQ l).length=l.length:=ba ..
def fsum(n:Nat)(T:ac)(f:Nat):Int:=(T.map λc:Int=>(c+(f:Int)).fdiv (n:Int)).sum
def Os(n:Nat)(T:ac)(f:Nat):Bool:=decide ((f:Int)<=fsum n T f)
def vS(n:Nat)(T:ac):aa:=(aG n).filter (Os n T)
def ic(n:Nat)(T:ac):Bool:= !(vS n T).isEmpty
def C3:ad:=(D "_law_by_taking").body
def ij:aH:=(D "_law_by_taking").scope
def mI:Stmt:=au C3 2
def sS:Stmt:=au (bd mI) 0
def Qr:Stmt:=au (bd sS) 0
def iI(q:ac×Nat):PV:=.tup [.list (aQ q.1),.int q.2]
def eC(an:ac)(most:Int)(tabs:List (ac×Nat))(r:Loc):St:=bC ([(("chips":Str),PV.list (aQ an)),("most",.int most),("size",.int an.length),("tables",.list (tabs.map iI))]++r)
def ph(k:Nat)(q:ac×Nat):Loc:=[(("taken":Str),PV.int k),("table",.list (aQ q.1)),("first",.int q.2)]
def sk(k:Nat)(l:Loc):Prop :=l=[(("taken":Str),.int k)]\/∃q,l=ph k q
def Qs:Expr:=(dw (aX Qr)).get!.1
def wZ:Expr×aH×fG:=(cM Qs).get!
def Hj:Expr:=(dw wZ.2.2.ifs.head!).get!.1
def Hk:Expr:=(bK Hj).get!.2.2.1.head!
theorem aaV(m n f:Nat)(T:ac)(hn:1<=n/\n<=5)(hT:T.length<=5):(ev (m+14)).E wZ.2.1 [(("size":Str),PV.int n),("table",.list (aQ T)),("fired",.int f)] Hj=some (.int (fsum n T f)):=by
 have hA:(ev (m+13)).E wZ.2.1 [(("size":Str),PV.int n),("table",.list (aQ T)),("fired",.int f)] Hk=some (.list (aQ (T.map λc:Int=>(c+(f:Int)).fdiv (n:Int)))):=by refine(gx (n:=m+12) (q:=(cM Hk).get!) (it:=.list (aQ T)) (vs:=T.map λc:Int=>PV.int ((c+(f:Int)).fdiv (n:Int))) ⋯ ⋯ ⋯ rfl ((fV (g:=PV.int) (λc:Int=>[PV.int ((c+(f:Int)).fdiv (n:Int))]) T λc hc=>?_).trans (by rw[jc])) (by rw[ba];exact aD hT (by decide))).trans (by unfold aQ;rw[cP];rfl);refine jy (l1:=[(("size":Str),PV.int n),("fired",.int f),("chip",.int c)]) ⋯ (.trans (b:=cQ .FloorDiv (c+f) n) ⋯ (BQ (by lia))) rfl
 refine(fk (n:=m+13) (f:=.blt "sum") (kw:=[]) (vs:=[.list (aQ (T.map λc:Int=>(c+(f:Int)).fdiv (n:Int)))]) (q:=(bK Hj).get!) ⋯ ⋯ ⋯ (.trans (b:=((ev (m+13)).E wZ.2.1 [(("size":Str),PV.int n),("table",.list (aQ T)),("fired",.int f)] Hk).bind λv=>some [v]) ⋯ (by rw[hA];rfl)) ⋯).trans (.trans (b:=mU [.list (aQ (T.map λc:Int=>(c+(f:Int)).fdiv (n:Int)))]) ⋯ (xL _))
theorem aaW(n k:Nat)(an:ac)(most:Int)(tabs:List (ac×Nat))(q:ac×Nat)(l:Loc)(hl:sk k l)(hc:1<=an.length/\an.length<=5)(hq:q.1.length<=5):
  eN (ev (n+20)) ij (dH sS) (bd sS) (iI q) (eC an most tabs l)=some (if(!ic an.length q.1)=true then .ret (.int ((k:Int)-1))else .next,eC an most tabs (ph k q)):=by
 have hi:(ev (n+16)).E ij (eC an most tabs (ph k q)).loc wZ.2.2.iter=some (.ey 0 an.length 1):=⋯
 have hv:(ev (n+17)).E ij (eC an most tabs (ph k q)).loc Qs=some (.list (ap (vS an.length q.1))):=by refine(gx (n:=n+16) (q:=wZ) (it:=.ey 0 an.length 1) (vs:=(vS an.length q.1).map λs:Nat=>PV.int s) ⋯ ⋯ hi (j6 _ (aD hc.2 (by decide))) ((fV (λs=>if Os an.length q.1 s=true then[PV.int (s:Nat)]else[]) (aG an.length) λs hs=>?_).trans (by rw[tG];rfl)) (by rw[ba];exact aD (sY ..) (by rw[cV];exact aD hc.2 (by decide)))).trans rfl;refine tZ (l1:=[(("size":Str),PV.int an.length),("table",.list (aQ q.1)),("fired",.int s)]) ⋯ (f_ ⋯ ⋯ (aaV (n+1) an.length s q.1 hc hq) (y:=.int s) ⋯ rfl) rfl (λz=>⋯) rfl
 have Hi:(ev (n+18)).E ij (eC an most tabs (ph k q)).loc (aX Qr)=some (.bool (decide (vS an.length q.1=[]))):=f_ ⋯ ⋯ hv ⋯ (tN _ []);have s1:=cK (n:=n+18) (aE:=eC an most tabs (ph k q)) ⋯ (aY Hi rfl) rfl;refine .trans (b:=(ev (n+20)).B ij (eC an most tabs (ph k q)) ((bd sS).drop 0)) (by rcases hl with h|⟨q',h⟩<;>subst h<;>kernel_rfl) ?_;refine ao (oY 0 ⋯) ?_;rw[show(ev (n+19)).S ij (eC an most tabs (ph k q)) (au (bd sS) 0)=_ from s1];unfold ic;induction vS an.length q.1 with
 |nil=>rw[bh rfl];kernel_rfl
 |cons a b=>rw[cA (by intro h;cases h)];kernel_rfl
section
variable{n k w:Nat}{sc cs:aH}{A:dQ}{pos:Pos}{r:Rec}{st:St}{a:aw}{P:Prop}{own:al}{fl:bG}{d:FD}{c:Bool}{body:ad}{E:ar->ak}{b:Int}{nm:Str}{ns:af}{it:ar}{M:Model}
def down(T:ac)(v:Nat):ac:=T.take v++[T.getD v 0-1]++T.drop (v+1)
def jz(n:Nat)(tabs:List (ac×Nat)):List (ac×Nat):=tabs.flatMap λq=>(aG (n-q.2)).map λk=>(down q.1 (q.2+k),q.2+k)
def Qt(e:Expr):Option (Expr×aH×fG×List fG):=Cv e (λelt gs cs z=>(jf gs).map λg=>(elt,cs,g)) .none
theorem aaX{q:Expr×aH×fG×List fG}{it:PV}{vs:ab}(hs:Qt e=some q)(hc:Fp sc l q.2.1 q.2.2.1=true)(hi:(ev n).E sc l q.2.2.1.iter=some it)(hx:itemsOf it=some xs)
  (hv:lR (l8 (ev n) q.2.1 q.2.2.1.ifs λl1=>oq (ev n) q.2.1 q.1 q.2.2.2 l1) q.2.2.1.target (free q.2.1 l) xs=some vs) (hl:vs.length<=1000000):(ev (n+1)).E sc l e=some (.list vs):=by
 refine GC hs (λelt gs cs p hs=>?_) aK
 ·refine cj hs λg h1 h2=>?_;subst h2;rw[gZ h1];refine ao (aA hc) ?_;rw[show(ev n).E sc l g.1.iter=_ from hi];show(rp (itemsOf it) _)=_;rw[hx];show(rp (lR (l8 (ev n) cs g.1.ifs λl1=>oq (ev n) cs elt g.2 l1) g.1.target (free cs l) xs) _)=_;rw[show lR (l8 (ev n) cs g.1.ifs λl1=>oq (ev n) cs elt g.2 l1) g.1.target (free cs l) xs=some vs from hv];exact aA (bh hl)
theorem Nu(T:ac)(v:Nat)(h:T.length<=1000)(hv:v<=T.length):jB (aQ T) .none (some (.int v))=some (.list (aQ (T.take v))):=by show((some (0:Int)).bind λi=>(jx (aQ T).length (some (.int v)) (aQ T).length).bind λj=>if bo (aQ T).length then some (PV.list (cut (aQ T) i j))else .none)=_;rw[pI,vI,iq hv,lo_le h];show some (PV.list (((aQ T).drop 0).take (v-0)))=_;unfold aQ;rw[Jv,An,tu]
theorem Li(T:ac)(v:Nat)(h:T.length<=1000)(hv:v<=T.length):jB (aQ T) (some (.int v)) .none=some (.list (aQ (T.drop v))):=by show((jx (aQ T).length (some (.int v)) 0).bind λi=>(some ((aQ T).length:Int)).bind λj=>if bo (aQ T).length then some (PV.list (cut (aQ T) i j))else .none)=_;rw[pI,vI,iq hv,lo_le h];show some (PV.list (((aQ T).drop v).take (T.length-v)))=_;unfold aQ;rw[xt,xb (by rw[jR,ba];exact eI _)]
theorem Ck{a b:ac}(ha:a.length<=1000)(hb:b.length<=1000):bj .Add (.list (aQ a)) (.list (aQ b))=some (.list (aQ (a++b))):=by rw[add_list (by rw[vI,vI];exact aD (ir ha hb) (by decide))];unfold aQ;rw[ei]
theorem VT{T:ac}{v:Nat}(h:v<T.length):(down T v).length=T.length:=by unfold down;refine ao cb ?_;rw[cb,mK,jR,iq (cG h)];exact kK h
def Qu:Expr:=aX (au (bd mI) 1)
def zA:Expr×aH×fG×List fG:=(Qt Qu).get!
def Ir(T:ac)(v:Nat):ag:=(((jB (aQ T) .none (some (.int v))).bind λx=>((((if bJ v then b0 (aQ T) v else .none).bind λx=>(some (PV.int 1)).bind λy=>bj .Sub x y).bind λv=>some [v]).bind λvs=>if bo vs.length then some (PV.list vs)else .none).bind λy=>bj .Add x y).bind λx=>(jB (aQ T) (some (.int ((v:Int)+1))) .none).bind λy=>bj .Add x y)
theorem YX(T:ac)(v:Nat)(hT:T.length<=5)(hv:v<T.length):Ir T v=some (.list (aQ (down T v))):=by have h:=aD hT (show 5<=1000 by decide);unfold Ir;rw[Nu T v h (cG hv),pN hv (aD hT (by decide)),show(v:Int)+1=((v+1:Nat):Int) from rfl,Li T (v+1) h hv];show((bj .Add (.list (aQ (T.take v))) (.list (aQ [T.getD v 0-1]))).bind λx=>bj .Add x (.list (aQ (T.drop (v+1)))))=_;have h1:(T.take v).length<=5:=aD (ta ..) (aD (cG hv) hT);rw[Ck (b:=[T.getD v 0-1]) (aD h1 (by decide)) (show 1<=1000 by decide)];refine Ck (aD (m:=6) ?_ (by decide)) (aD (by rw[jR];exact i_ ..) h);rw[cb];exact lF h1 1
theorem YY(n k:Nat)(an:ac)(most:Int)(tabs:List (ac×Nat))(l:Loc)(hl:sk k l)(hc:an.length<=5)(hq:∀q∈tabs,q.1.length=an.length/\q.2<=an.length)(ht:(jz an.length tabs).length<=1000000):
  (ev (n+15)).S ij (eC an most tabs l) (au (bd mI) 1)=some (.next,eC an most (jz an.length tabs) l):=by
 have hE:(ev (n+14)).E ij (eC an most tabs l).loc Qu=some (.list ((jz an.length tabs).map iI)):=by
  have hm:(tabs.flatMap λq=>(aG (an.length-q.2)).map λk=>iI (down q.1 (q.2+k),q.2+k))=(jz an.length tabs).map iI:=by unfold jz;rw[agq];exact aR (λf=>agX f tabs) (funext λq=>by rw[cP];rfl)
  refine aaX (n:=n+13) (q:=zA) (it:=.list (tabs.map iI)) (xs:=tabs.map iI) ⋯ ?_ ?_ rfl ((fV (g:=iI) (λq=>(aG (an.length-q.2)).map λk=>iI (down q.1 (q.2+k),q.2+k)) tabs λq HH=>?_).trans (aR some hm)) (by rw[ba];exact ht)
  ·rcases hl with h|⟨q',h⟩<;>subst h<;>kernel_rfl
  ·rcases hl with h|⟨q',h⟩<;>subst h<;>kernel_rfl
  ·refine oA (hq q HH) λh1 h2=>?_;have h3:=aD h2 hc;refine .trans (b:=(itemsOf (.ey q.2 an.length 1)).bind λxs=>lR (l8 (ev (n+13)) zA.2.1 [] λl1=>oq (ev (n+13)) zA.2.1 zA.1 [] l1) zA.2.2.2.head!.target [(("size":Str),PV.int an.length),("table",.list (aQ q.1)),("first",.int q.2)] xs) ?_ ?_
   ·rcases hl with h|⟨q',h⟩<;>subst h<;>kernel_rfl
   ·rw[pR _ _ (by lia),show((an.length:Int)-q.2).toNat=an.length-q.2 by exact agY an.length q.snd];refine(fV (λk=>[iI (down q.1 (q.2+k),q.2+k)]) (aG (an.length-q.2)) λv hv=>?_).trans (by rw[jc]);have hv:=IQ (bI.mp hv);refine jy (l1:=[(("size":Str),PV.int an.length),("table",.list (aQ q.1)),("first",.int q.2),("v",.int (q.2+v))]) ⋯ (.trans (b:=((Ir q.1 (q.2+v)).bind λa=>(some [PV.int (q.2+v)]).map (a:: ·)).bind λvs=>if bo vs.length then some (.tup vs)else .none) ⋯ ?_) ?_
    ·rw[YX _ _ (by rw[h1];exact hc) (by rw[h1];exact hv)];rfl
    ·show(b_ (aQ _)&&true)=true;rw[show b_ (aQ (down q.1 (q.2+v)))=true from jZ _];rfl
 have eU:b_ ((jz an.length tabs).map iI)=true:=by
  induction jz an.length tabs with
  |nil=>rfl
  |cons q r ih=>show((b_ (aQ q.1)&&true)&&b_ (r.map iI))=true;rw[show b_ (aQ q.1)=true from jZ _,ih];rfl
 refine(dr (n:=n+14) (x:="tables") (aE:=eC an most tabs l) (v:=.list ((jz an.length tabs).map iI)) ⋯ ?_ (aY ?_ eU)).trans ?_
 ·rcases hl with h|⟨q',h⟩<;>subst h<;>kernel_rfl
 ·rcases hl with h|⟨q',h⟩<;>subst h<;>exact hE
 ·rcases hl with h|⟨q',h⟩<;>subst h<;>kernel_rfl
def ym(n:Nat):Nat->aa
 |0=>[0]
 |k+1=>(ym n k).flatMap λf=>(aG (n-f)).map λk=>f+k
theorem KF:∀n∈[3,4,5],∀k∈aG 10,((ym n k).length<=1000000/\∀f∈ym n k,f<=n):=by decide +kernel
def BY(n k:Nat)(tabs:List (ac×Nat)):Prop :=tabs.map (·.2)=ym n k/\∀q∈tabs,q.1.length=n
theorem J'(h:BY n k tabs):BY n (k+1) (jz n tabs):=by
 refine⟨?_,λq hq=>?_⟩
 ·show _=(ym n k).flatMap _;rw[<-h.1];unfold jz;refine ao agq ?_;rw[List.flatMap_map];exact aR (λf=>agX f tabs) (funext λq=>by refine ao cP ?_;rfl)
 ·refine br (Jk.mp hq) λp hp hq=>br (eH.mp hq) λv hv bb=>?_;subst bb;have h1:=h.2 p hp;exact(VT (by rw[h1];exact IQ (bI.mp hv))).trans h1
def mT(n:Nat):Nat->Nat->List (ac×Nat)->Option Int
 |0,_,_=>.none
 |r+1,k,tabs=>if tabs.all (λq=>ic n q.1)=true then mT n r (k+1) (jz n tabs)else some ((k:Int)-1)
def rT(an:ac)(most:Int):Int:=(mT an.length (most+2).toNat 0 [(an,0)]).getD (most+1)
theorem find_none{p:β->Bool}:{xs:List β}->xs.all p=true->xs.find? (λx=> !p x)=.none:=by
 intro xs;induction xs with
 |nil=>exact λz=>rfl
 |cons x xs ih=>exact λh=>be h λh1 h2=>by refine ao xq ?_;rw[h1];exact ih h2
theorem find_some{p:β->Bool}:{xs:List β}->¬xs.all p=true->∃x,xs.find? (λx=> !p x)=some x:=by
 intro xs;induction xs with
 |nil=>exact λh=>bx rfl h
 |cons x xs ih=>
  intro h;rw[xq];induction hp:p x with
  |false=>exact⟨x,rfl⟩
  |true=>exact ih λh2=>h (by show(p x&&xs.all p)=true;rw[hp,h2];rfl)
def Gw(l:Loc):Prop :=l=[]\/∃k,sk k l
theorem Xb(n r k:Nat)(an:ac)(most:Int)(tabs:List (ac×Nat))(l:Loc)(hl:Gw l)(hn:an.length∈[3,4,5])(hk:k<9)(ht:BY an.length k tabs):
  ∃l',sk k l'/\eN (ev (n+25)) ij (dH mI) (bd mI) (.int k) (eC an most tabs l)=(if tabs.all (λq=>ic an.length q.1)=true then some (.next,eC an most (jz an.length tabs) l')else some (.ret (.int ((k:Int)-1)),eC an most tabs l')):=by
 have C4:3<=an.length/\an.length<=5:=by simp only[cc,gG,or_false]at hn;lia
 have hf:=KF _ hn k (bI.mpr (Jg hk));have hf1:=KF _ hn (k+1) (bI.mpr (agy hk));have eU:∀tabs:List (ac×Nat),b_ (tabs.map iI)=true:=λtabs=>by
  induction tabs with
  |nil=>rfl
  |cons q r ih=>show((b_ (aQ q.1)&&true)&&b_ (r.map iI))=true;rw[show b_ (aQ q.1)=true from jZ _,ih];rfl
 have key:∀l2,sk k l2->∃l',sk k l'/\(ev (n+25)).B ij (eC an most tabs l2) ((bd mI).drop 0)=(if tabs.all (λq=>ic an.length q.1)=true then some (.next,eC an most (jz an.length tabs) l')else some (.ret (.int ((k:Int)-1)),eC an most tabs l')):=λl2 cY=>by
  obtain⟨l',n8,fm⟩:=Lg (r:=ev (n+23)) (sc:=ij) (t:=dH sS) (body:=bd sS) iI (λq=> !ic an.length q.1) (λz=>.int ((k:Int)-1)) (sk k) (eC an most tabs) (ph k) (λq=>.inr ⟨q,rfl⟩) tabs l2 cY
   λl hl q hq=>aaW (n+3) k an most tabs q l hl ⟨aD (by decide) C4.1,C4.2⟩ (by rw[ht.2 q hq];exact C4.2)
  have e0:(ev (n+24)).S ij (eC an most tabs l2) sS=some ((tabs.find? λq=> !ic an.length q.1).elim .next λz=>.ret (.int ((k:Int)-1)),eC an most tabs l'):=by refine(jh (n:=n+23) (aE:=eC an most tabs l2) (v:=.list (tabs.map iI)) ⋯ (aY ?_ (eU tabs)) rfl).trans fm;rcases cY with h|⟨q',h⟩<;>subst h<;>kernel_rfl
  refine⟨l',n8,?_⟩;by_cases hs:tabs.all (λq=>ic an.length q.1)=true
  ·rw[find_none hs]at e0;rw[aA hs,bf (n:=n+24) 0 ⋯ e0,bf (n:=n+23) 1 ⋯ (YY (n+8) k an most tabs l' n8 C4.2 (λq hq=>⟨ht.2 q hq,hf.2 _ (by rw[<-ht.1];exact Dr hq)⟩) (by
    have :=aR xA (J' ht).1;rw[ba]at this;rw[this];exact hf1.1))]
   rfl
  ·refine oE (find_some hs) λx hx=>?_;rw[hx]at e0;rw[aJ hs,de (n:=n+24) 0 ⋯ e0]
 obtain⟨l',h1,h2⟩:∃l2,sk k l2/\eN (ev (n+25)) ij (dH mI) (bd mI) (.int k) (eC an most tabs l)=(ev (n+25)).B ij (eC an most tabs l2) ((bd mI).drop 0):=by
  rcases hl with h|⟨j,h|⟨q,h⟩⟩<;>subst h
  ·exact⟨_,.inl rfl,⋯⟩
  ·exact⟨_,.inl rfl,⋯⟩
  ·exact⟨ph k q,.inr ⟨q,rfl⟩,⋯⟩
 rw[h2];exact key l' h1
theorem Xc(n:Nat)(an:ac)(most:Int)(hn:an.length∈[3,4,5]):(r k:Nat)->(tabs:List (ac×Nat))->(l:Loc)->Gw l->k+r<=9->BY an.length k tabs->
  ∃l' BZ,Gw l'/\dT (ev (n+25)) ij (dH mI) (bd mI) ((JF k r).map λk:Nat=>PV.int k) (eC an most tabs l)=some ((mT an.length r k tabs).elim .next λi=>.ret (.int i),eC an most BZ l'):=by
 intro r;induction r with
 |zero=>exact λk tabs l hl z z=>⟨l,tabs,hl,rfl⟩
 |succ r ih=>
  intro k tabs l hl hk ht;obtain⟨l',n8,h⟩:=Xb n r k an most tabs l hl hn (afQ hk) ht;rw[agp,cO,show mT an.length (r+1) k tabs=if tabs.all (λq=>ic an.length q.1)=true then mT an.length r (k+1) (jz an.length tabs)else some ((k:Int)-1) from rfl];by_cases hs:tabs.all (λq=>ic an.length q.1)=true
  ·rw[aA hs]at h⊢;rw[lT h];exact ih (k+1) _ l' (.inr ⟨k,n8⟩) (by lia) (J' ht)
  ·rw[aJ hs]at h⊢;exact⟨l',tabs,.inr ⟨k,n8⟩,vL h⟩
theorem aaY(n)(an)(most)(hn:an.length∈[3,4,5])(hm: -1<=most/\most<=7):(ev (n+30)).C "_law_by_taking" [.list (aQ an),.int most] []=some (.int (rT an most)):=by
 have mu:bo (aQ an).length=true:=lo_le (by rw[vI];simp only[cc,gG,or_false]at hn;lia);obtain⟨l',BZ,n8,hf⟩:=Xc n an most hn (most+2).toNat 0 [(an,0)] [] (.inl rfl) (by lia) ⟨rfl,λq hq=>by rw[cW hq]⟩;have e0:(ev (n+28)).S ij (bC [("chips",.list (aQ an)),("most",.int most)]) (au C3 0)=some (.next,bC [("chips",.list (aQ an)),("most",.int most),("size",.int an.length)]):=by refine(dr (n:=n+27) (x:="size") (aE:=bC [("chips",.list (aQ an)),("most",.int most)]) (v:=.int an.length) ⋯ ⋯ (aY (.trans (b:=if bo (aQ an).length then some (.int (aQ an).length)else .none) ⋯ (by rw[mu,vI];rfl)) rfl)).trans ⋯
 have e1:(ev (n+27)).S ij (bC [("chips",.list (aQ an)),("most",.int most),("size",.int an.length)]) (au C3 1)=some (.next,eC an most [(an,0)] []):=
  (dr (n:=n+26) (x:="tables") (aE:=bC [("chips",.list (aQ an)),("most",.int most),("size",.int an.length)]) (v:=.list [iI (an,0)]) ⋯ ⋯ (aY ⋯ (by show((b_ (aQ an)&&true)&&true)=true;rw[show b_ (aQ an)=true from jZ _];rfl))).trans ⋯
 have e2:(ev (n+26)).S ij (eC an most [(an,0)] []) mI=some ((mT an.length (most+2).toNat 0 [(an,0)]).elim .next λi=>.ret (.int i),eC an most BZ l'):=by refine(jh (n:=n+25) (aE:=eC an most [(an,0)] []) (v:=.ey 0 (most+2) 1) ⋯ (aY ⋯ rfl) ?_).trans hf;refine ao (pR 0 _ (by lia)) ?_;rw[DU,afV];exact aR some (lH λk z=>by rw[Ao])
 unfold rT;refine .trans (b:=(((ev (n+29)).B ij (bC [("chips",.list (aQ an)),("most",.int most)]) (C3.drop 0)).bind (eK [])).map (·.1)) ⋯ (fi (st:=eC an most BZ l') ?_ rfl);refine ao (bf 0 ⋯ e0) ?_;rw[bf 1 ⋯ e1];generalize mT an.length (most+2).toNat 0 [(an,0)]=o at e2⊢;induction o with
 |some i=>exact de 2 ⋯ e2
 |none=>refine ao (bf 2 ⋯ e2) ?_;rcases n8 with h|⟨j,h|⟨q,h⟩⟩<;>subst h<;>kernel_rfl
theorem UA(g:β->PV)(p:β->Bool)(R:Loc->Prop)(F:Loc->St)(k:β->Loc)(hk:∀x,R (k x))(y:β):(xs:List β)->(l:Loc)->R l->xs.find? p=some y->
  (∀l,R l->∀x∈xs,eN r sc t body (g x) (F l)=some (if p x=true then .brk else .next,F (k x)))->dT r sc t body (xs.map g) (F l)=some (.next,F (k y)):=by
 intro xs;induction xs with
 |nil=>exact λl hl h0 z=>aK h0
 |cons x xs ih=>
  intro l hl h0 h;have h1:=h l hl x (ch ..);rw[xq]at h0;induction hp:p x with
  |true=>rw[hp]at h1 h0;rw[<-show x=y from av h0];exact L' h1
  |false=>rw[hp]at h1 h0;exact(lT h1).trans (ih _ (hk x) h0 λl hl y hy=>h l hl y (cf _ hy))
theorem Xd(vs:ab)(v:Nat)(h:vs.length<=1000)(hv:v<=vs.length):jB vs .none (some (.int v))=some (.list (vs.take v)):=by show((some (0:Int)).bind λi=>(jx vs.length (some (.int v)) vs.length).bind λj=>if bo vs.length then some (PV.list (cut vs i j))else .none)=_;rw[pI,iq hv,lo_le h];rfl
theorem Lj(vs:ab)(u v:Nat)(h:vs.length<=1000)(hu:u<=vs.length)(hv:v<=vs.length):jB vs (some (.int u)) (some (.int v))=some (.list ((vs.drop u).take (v-u))):=by show((jx vs.length (some (.int u)) 0).bind λi=>(jx vs.length (some (.int v)) vs.length).bind λj=>if bo vs.length then some (PV.list (cut vs i j))else .none)=_;rw[pI,pI,iq hv,iq hu,lo_le h];rfl
theorem UB(vs:ab)(v:Nat)(h:vs.length<=1000)(hv:v<=vs.length):jB vs (some (.int v)) .none=some (.list (vs.drop v)):=by show((jx vs.length (some (.int v)) 0).bind λi=>(some (vs.length:Int)).bind λj=>if bo vs.length then some (PV.list (cut vs i j))else .none)=_;rw[pI,iq hv,lo_le h];show some (PV.list ((vs.drop v).take (vs.length-v)))=_;rw[xb (by rw[jR];exact eI _)]
def Qv:ad:=(D "_law_run").body
def jO:aH:=(D "_law_run").scope
def jP:Stmt:=au Qv 0
def zB:Stmt:=au (bd jP) 1
def dO(us:List aa)(o:Int)(r:Loc):St:=bC ([(("units":Str),PV.list (us.map pS)),("over",.int o)]++r)
def ft(s:Nat)(k:ag):Loc:=(("steps":Str),PV.int s)::oL "k" k
def kI(i:Nat):Int:=2+(i:Int)*2
def kN(i:Nat):Nat:=2*i+2
theorem Gx(i:Nat):kI i=(kN i:Nat):=by delta kI kN;lia
def heads(us:List aa)(i:Nat):Bool:=ma (us.take (kN i)).flatten
def uA(us:List aa):Prop :=us.length<=40/\∀u∈us,u.length<=4
theorem aaZ(n:Nat)(us:List aa)(o:Int)(s i:Nat)(l:Loc)(hl:∃k,l=ft s k)(hu:uA us)(hi:kN i<=us.length):
  eN (ev (n+45)) jO (dH zB) (bd zB) (.int (kI i)) (dO us o l)=some (if heads us i=true then .brk else .next,dO us o (ft s (some (.int (kI i))))):=by
 have eA:(us.map pS).length=us.length:=ba ..;have hj:pW (.str (dN [])) [.list ((us.map pS).take (kN i))]=some (pS (us.take (kN i)).flatten):=by rw[<-tu];refine Bf _ (aD (vH (b:=4) λu h=>hu.2 u (sZ h)) (aD (s_ 4 (aD (ta ..) (aD hi hu.1))) (by decide)))
 have ml:(us.take (kN i)).flatten.length<=400:=aD (vH λu h=>hu.2 u (sZ h)) (aD (s_ 4 (aD (ta ..) (aD hi hu.1))) (by decide));have hE:(ev (n+43)).E jO (dO us o (ft s (some (.int (kI i))))).loc (aX (au (bd zB) 0))=some (.bool (heads us i)):=by refine .trans (b:=(((((jB (us.map pS) .none (some (.int (kI i)))).bind λv=>some [v]).bind λvs=>pW (.str (dN [])) vs).bind λv=>some [v]).bind λvs=>(ev (n+41)).C "_check_parenthesis" vs []).bind λx=>(fU .Is x (.bool true)).map .bool) ⋯ ?_;rw[Gx,Xd _ _ (by rw[eA];exact aD hu.1 (by decide)) (by rw[eA];exact hi)];show((((pW (.str (dN [])) [.list ((us.map pS).take (kN i))]).bind λv=>some [v]).bind λvs=>(ev (n+41)).C "_check_parenthesis" vs []).bind λx=>(fU .Is x (.bool true)).map PV.bool)=_;rw[hj];show(((ev (n+8+33)).C "_check_parenthesis" [pS (us.take (kN i)).flatten] []).bind λx=>(fU .Is x (.bool true)).map PV.bool)=_;rw[Op (n+8) _ ml];show some (PV.bool (ma _==true))=_;rw[beq_true];rfl
 have s0:=cK (n:=n+43) (aE:=dO us o (ft s (some (.int (kI i))))) ⋯ (aY hE rfl) rfl;refine .trans (b:=(ev (n+45)).B jO (dO us o (ft s (some (.int (kI i))))) ((bd zB).drop 0)) (by obtain⟨k,rfl⟩:=hl;induction k<;>kernel_rfl) ?_;refine ao (oY 0 ⋯) ?_;rw[s0];cases heads us i<;>kernel_rfl
def jj(us:List aa)(k:Nat):List aa:=us.drop k++[us.getD 0 [],us.getD (k-1) []]++(us.drop 1).take (k-1-1)
theorem YZ(us:List aa)(i:Nat)(hu:us.length<=40)(hi:kN i<=us.length):(((jB (us.map pS) (some (.int (kN i))) .none).bind λx=>((((if bJ 0 then b0 (us.map pS) 0 else .none).bind λv=>(((if bJ ((kN i:Int)-1)then b0 (us.map pS) ((kN i:Int)-1)else .none).bind λv=>some [v]).map λvs=>v::vs)).bind λvs=>if bo vs.length then some (PV.list vs)else .none).bind λy=>bj .Add x y)).bind λx=>(jB (us.map pS) (some (.int 1)) (some (.int ((kN i:Int)-1)))).bind λy=>bj .Add x y)=some (.list ((jj us (kN i)).map pS)):=by
 have eA:(us.map pS).length=us.length:=ba ..;have h1:us.length<=1000:=aD hu (by decide);have hk:(kN i:Int)-1=((kN i-1:Nat):Int):=by unfold kN;exact IR.mpr rfl
 have mj:2<=kN i:=Ae ..;have hm:us.length<=1000000:=aD hu (by decide);rw[hk,UB _ _ (by rw[eA];exact h1) (by rw[eA];exact hi),show(if bJ 0 then b0 (us.map pS) 0 else .none)=some (pS (us.getD 0 [])) from yC (k:=0) (cZ (cZ (by decide) mj) hi) hm,yC (cZ (D3 (cZ (by decide) mj) (by decide)) hi) hm,show jB (us.map pS) (some (.int 1)) (some (.int (kN i-1:Nat)))=_ from Lj _ 1 _ (by rw[eA];exact h1) (by rw[eA];exact aD (th mj) hi) (by rw[eA];exact aD (i_ ..) hi)];show((bj .Add (.list ((us.map pS).drop (kN i))) (.list [pS (us.getD 0 []),pS (us.getD (kN i-1) [])])).bind λx=>bj .Add x (.list (((us.map pS).drop 1).take (kN i-1-1))))=_;have hd:((us.map pS).drop (kN i)).length<=40:=by rw[jR,eA];exact aD (i_ ..) hu
 have ht:(((us.map pS).drop 1).take (kN i-1-1)).length<=40:=aD (ta ..) (aD (aD (i_ ..) (i_ ..)) (aD hi hu));rw[add_list (b:=[pS (us.getD 0 []),pS (us.getD (kN i-1) [])]) (aD (lF hd _) (show 40+2<=1000000 by decide))];show bj .Add (.list ((us.map pS).drop (kN i)++[pS (us.getD 0 []),pS (us.getD (kN i-1) [])])) (.list (((us.map pS).drop 1).take (kN i-1-1)))=_;rw[add_list (by rw[cb];exact aD (ir (lF hd _) ht) (show 40+2+40<=1000000 by decide))];unfold jj;rw[ei,ei,xt,tu,xt];rfl
end
def rU:Nat->Nat->List aa->Int->Option Int
 |0,_,_,_=>some (-1)
 |r+1,s,us,o=>if o<0 then some s else((aG (us.length/2)).find? (heads us)).bind λi=>rU r (s+1) (jj us (kN i)) (o-(i+1))
def Hl(l:Loc):Prop :=l=[]\/∃s k,l=ft s k
theorem Nv{us:List aa}{k:Nat}(h:∀u∈us,u.length<=4):(us.getD k []).length<=4:=by
 by_cases hk:k<us.length
 ·rw[dD,gU hk];exact h _ (xj _)
 ·rw[dD,vi (tj hk)];exact du _
theorem Xe{us:List aa}{i:Nat}(hu:uA us)(hi:kN i<=us.length):uA (jj us (kN i))/\(jj us (kN i)).length=us.length:=by
 have hl:(jj us (kN i)).length=us.length:=by unfold jj;refine ao cb ?_;rw[cb,jR,mK,jR];exact(aR (us.length-kN i+2+ ·) (iq (Dn (th hi)))).trans ((gH ..).trans ((aR (us.length-kN i+ ·) (jt 2 (2*i))).trans (vl hi)))
 refine⟨⟨by rw[hl];exact hu.1,λu h=>?_⟩,hl⟩;rcases jr.mp h with h|h
 ·rcases jr.mp h with h|h
  ·exact hu.2 u (zZ h)
  ·rcases cc.mp h with h|h
   ·rw[h];exact Nv hu.2
   ·rw[cW h];exact Nv hu.2
 ·exact hu.2 u (zZ (sZ h))
theorem VU(us:List aa):b_ (us.map pS)=true:=xP us
theorem Xf(n s i:Nat)(us:List aa)(o:Int)(l:Loc)(hl:Hl l)(hu:uA us)(h0:¬o<0)(hi:(aG (us.length/2)).find? (heads us)=some i):
  eN (ev (n+52)) jO (dH jP) (bd jP) (.int s) (dO us o l)=some (.next,dO (jj us (kN i)) (o-(i+1)) (ft s (some (.int (kI i))))):=by
 have eA:(us.map pS).length=us.length:=ba ..;have mu:bo (us.map pS).length=true:=lo_le (by rw[eA];exact aD hu.1 (by decide));have Qw:∀j∈aG (us.length/2),kN j<=us.length:=λj hj=>by have :=bI.mp hj;unfold kN;lia
 have wT:=Qw i (Dg hi);have key:∀k,(ev (n+52)).B jO (dO us o (ft s k)) ((bd jP).drop 0)=some (.next,dO (jj us (kN i)) (o-(i+1)) (ft s (some (.int (kI i))))):=λk=>by
  have e0:(ev (n+51)).S jO (dO us o (ft s k)) (au (bd jP) 0)=some (.next,dO us o (ft s k)):=by refine(cK (n:=n+50) (aE:=dO us o (ft s k)) (v:=.bool (decide (o<0))) (c:=decide (o<0)) ⋯ (aY (by induction k<;>kernel_rfl) rfl) rfl).trans ?_;rw[cA h0];induction k<;>kernel_rfl
  have e1:(ev (n+50)).S jO (dO us o (ft s k)) zB=some (.next,dO us o (ft s (some (.int (kI i))))):=by refine(jh (n:=n+49) ⋯ (aY (.trans (b:=((((if bo (us.map pS).length then some (PV.int (us.map pS).length)else .none).bind λx=>(some (PV.int 1)).bind λy=>bj .Add x y).bind λv=>(some [PV.int 2]).map λvs=>v::vs).map λvs=>PV.int 2::vs).bind λvs=>vJ vs) (by induction k<;>kernel_rfl) (by rw[mu,eA];rfl)) rfl) ?_).trans (UA (λi=>PV.int (kI i)) (heads us) (λl=>∃k,l=ft s k) (dO us o) (λi=>ft s (some (.int (kI i)))) (λz=>⟨_,rfl⟩) i _ _ ⟨k,rfl⟩ hi λl hl j hj=>aaZ (n+4) us o s j l hl hu (Qw j hj));show(if(bJ 2&&bJ ((us.length:Int)+1)&&bJ 2&&decide ((0:Int)<2))=true then some ((iO 2 ((us.length:Int)+1) 2).map PV.int)else none)=_;rw[show bJ ((us.length:Int)+1)=true from pH (by have :=hu.1;lia)];show some ((iO 2 ((us.length:Int)+1) 2).map PV.int)=_;unfold iO;rw[aA (by decide),show((us.length:Int)+1-2+2-1).toNat=us.length by lia,cP];rfl
  have e2:(ev (n+49)).S jO (dO us o (ft s (some (.int (kI i))))) (au (bd jP) 2)=some (.next,dO (jj us (kN i)) o (ft s (some (.int (kI i))))):=by rw[Gx];exact(dr (n:=n+48) (x:="units") ⋯ ⋯ (aY (.trans ⋯ (YZ us i hu.1 wT)) (VU _))).trans ⋯
  have e3:(ev (n+48)).S jO (dO (jj us (kN i)) o (ft s (some (.int (kI i))))) (au (bd jP) 3)=some (.next,dO (jj us (kN i)) (o-(i+1)) (ft s (some (.int (kI i))))):=by refine(dr (n:=n+47) (x:="over") (aE:=dO (jj us (kN i)) o (ft s (some (.int (kI i))))) (v:=.int (o-(i+1))) ⋯ ⋯ (aY (.trans (b:=some (.int (o-(kI i).fdiv 2))) ⋯ ?_) rfl)).trans ⋯;rw[Gx,pp _ (by exact Ji 2)];congr 3;unfold kN;lia
  rw[bf (n:=n+51) 0 ⋯ e0,bf (n:=n+50) 1 ⋯ e1,bf (n:=n+49) 2 ⋯ e2,bf (n:=n+48) 3 ⋯ e3];kernel_rfl
 rcases hl with h|⟨s',k,h⟩<;>subst h
 ·exact .trans ⋯ (key .none)
 ·exact .trans (by induction k<;>kernel_rfl) (key k)
theorem Xg(n:Nat):(r s:Nat)->(us:List aa)->(o v:Int)->(l:Loc)->Hl l->uA us->rU r s us o=some v->
  ∃dy o' l',Hl l'/\(dT (ev (n+52)) jO (dH jP) (bd jP) ((JF s r).map λk:Nat=>PV.int k) (dO us o l)=some (.ret (.int v),dO dy o' l')\/v= -1/\dT (ev (n+52)) jO (dH jP) (bd jP) ((JF s r).map λk:Nat=>PV.int k) (dO us o l)=some (.next,dO dy o' l')):=by
 intro r;induction r with
 |zero=>exact λs us o v l hl z hr=>⟨us,o,l,hl,.inr ⟨(av hr).symm,rfl⟩⟩
 |succ r ih=>
  intro s us o v l hl hu hr;rw[agp,cO];unfold rU at hr;by_cases h0:o<0
  ·rw[aA h0]at hr;obtain rfl:=av hr;have key:∀k,(ev (n+52)).B jO (dO us o (ft s k)) ((bd jP).drop 0)=some (.ret (.int s),dO us o (ft s k)):=λk=>by refine de 0 ⋯ ((cK (n:=n+50) (aE:=dO us o (ft s k)) (v:=.bool (decide (o<0))) ⋯ (aY (by induction k<;>kernel_rfl) rfl) rfl).trans ?_);rw[bh h0];induction k<;>kernel_rfl
   rcases hl with h|⟨s',k,h⟩<;>subst h
   ·exact⟨us,o,ft s .none,.inr ⟨_,_,rfl⟩,.inl (vL (.trans ⋯ (key .none)))⟩
   ·exact⟨us,o,ft s k,.inr ⟨_,_,rfl⟩,.inl (vL (.trans (by induction k<;>kernel_rfl) (key k)))⟩
  ·rw[aJ h0]at hr;refine aF hr λi hi hr=>?_;have wT:kN i<=us.length:=by have :=bI.mp (Dg hi);unfold kN;lia
   rw[lT (Xf n s i us o l hl hu h0 hi)];exact ih (s+1) _ _ v _ (.inr ⟨_,_,rfl⟩) (Xe hu wT).1 hr
theorem aa0(n:Nat)(us:List aa)(o v:Int)(ho: -1<=o/\o<=100)(hu:uA us)(hr:rU (o+2).toNat 0 us o=some v):(ev (n+56)).C "_law_run" [.list (us.map pS),.int o] []=some (.int v):=by
 refine j_ (Xg (n+1) (o+2).toNat 0 us o v [] (.inl rfl) hu hr) λdy o' l' n8 hf=>?_;have e0:∀f,dT (ev (n+53)) jO (dH jP) (bd jP) ((JF 0 (o+2).toNat).map λk:Nat=>PV.int k) (dO us o [])=some (f,dO dy o' l')->(ev (n+54)).S jO (dO us o []) jP=some (f,dO dy o' l'):=λf hf=>by refine(jh (n:=n+53) (aE:=dO us o []) (v:=.ey 0 (o+2) 1) ⋯ (aY ⋯ rfl) ?_).trans hf;refine ao (pR 0 _ (by lia)) ?_;rw[DU,afV];exact aR some (lH λk z=>by rw[Ao])
 refine .trans (b:=(((ev (n+55)).B jO (dO us o []) (Qv.drop 0)).bind (eK [])).map (·.1)) ⋯ (fi (st:=dO dy o' l') ?_ rfl);rcases hf with hf|⟨rfl,hf⟩
 ·exact de 0 ⋯ (e0 _ hf)
 ·refine ao (bf 0 ⋯ (e0 _ hf)) ?_;rcases n8 with h|⟨s',k,h⟩<;>subst h
  ·kernel_rfl
  ·induction k<;>kernel_rfl
section
variable{n k w:Nat}{sc cs:aH}{A:dQ}{pos:Pos}{r:Rec}{st:St}{a:aw}{P:Prop}{own:al}{fl:bG}{d:FD}{c:Bool}{body:ad}{E:ar->ak}{b:Int}{nm:Str}{ns:af}{it:ar}{M:Model}
def jk(n:Nat):Nat->List aa
 |0=>[[]]
 |m+1=>(jk n m).flatMap λl=>(aG n).map (· ::l)
theorem Mo:{l:aa}->{m:Nat}->l.length=m->(∀x∈l,x<n)->l∈jk n m
 |[],0,_,_=>vj.mpr rfl
 |a::l,m+1,h,hx=>Jk.mpr ⟨l,Mo (mM h) λx h=>hx x (cf _ h),eH.mpr ⟨a,bI.mpr (hx a (ch ..)),rfl⟩⟩
theorem UC(x y):(l:aa)->cX (λa b=>decide (a<b)) x (cX (λa b=>decide (a<b)) y l)=cX (λa b=>decide (a<b)) y (cX (λa b=>decide (a<b)) x l):=by
 intro l;induction l with
 |nil=>
  simp only[cX,decide_eq_true_eq];rcases agn x y with h|h|h
  ·refine ao (aJ (JE h)) ?_;rw[aA h]
  ·subst h;rfl
  ·refine ao (aA h) ?_;rw[aJ (JE h)]
 |cons z l lA=>
  have ih:=lA;simp only[cX,decide_eq_true_eq];by_cases h1:z<y<;>by_cases h2:z<x
  ·rw[aA h1,aA h2];simp only[cX,decide_eq_true_eq];rw[aA h1,aA h2,ih]
  ·rw[aA h1,aJ h2];simp only[cX,decide_eq_true_eq];refine ao (aJ h2) ?_;rw[aA (im (tj h2) h1),aA h1]
  ·rw[aJ h1,aA h2];simp only[cX,decide_eq_true_eq];refine ao (aA (im (tj h1) h2)) ?_;rw[aA h2,aJ h1]
  ·rw[aJ h1,aJ h2];simp only[cX,decide_eq_true_eq];rcases agn x y with h|h|h
   ·refine ao (aJ (JE h)) ?_;rw[aA h,aJ h1]
   ·subst h;rfl
   ·refine ao (aA h) ?_;rw[aJ (JE h),aJ h2]
theorem JO{a b:aa}(h:a.Perm b):bP a=bP b:=by
 induction h with
 |nil=>rfl
 |cons x _ ih=>exact aR (cX (λa b=>decide (a<b)) x) ih
 |swap x y l=>exact UC y x (bP l)
 |trans _ _ h1 h2=>exact h1.trans h2
theorem UD(x):(l:aa)->(cX (λa b=>decide (a<b)) x l).Perm (x::l):=by
 intro l;induction l with
 |nil=>exact .refl _
 |cons z l ih=>
  unfold cX;by_cases h:decide (z<x)=true
  ·rw[aA h];exact((ih).cons z).trans (.swap x z l)
  ·rw[aJ h]
theorem j3:(l:aa)->(bP l).Perm l:=by
 intro l;induction l with
 |nil=>exact .refl _
 |cons x l ih=>exact(UD x (bP l)).trans ((ih).cons x)
theorem pJ(l:aa):bP (bP l)=bP l:=JO (j3 l)
def bO(row:aa):Bool:=(aG row.length).all λs=>decide (row.getD s 0<=s)
def eD(n t:Nat)(R:aa):aa:=R.map λr=>(r+t)%n
def Ot(n:Nat)(R:aa):aa:=(aG n).filter λt=>bO (bP (eD n t R))
def cI:aa:=[3,4,5]
theorem VV:∀n∈cI,∀R∈jk n (n-1),(Ot n R).length=1:=by decide +kernel
def eu(n:Nat)(X:aa):aa:=match(aG n).find? λt=>bO (bP (eD n t X))with
 |some t=>bP (eD n t X)
 |none=>[]
theorem A3{t:Nat}{X Y:aa}(h:X.Perm Y):(eD n t X).Perm (eD n t Y):=h.map _
theorem tP(h:X.Perm Y):eu n X=eu n Y:=by
 have :(λt=>bP (eD n t X))=λt=>bP (eD n t Y):=funext λt=>JO (A3 h);unfold eu;rw[show(λt=>bO (bP (eD n t X)))=λt=>bO (bP (eD n t Y)) from funext λt=>aR bO (congrFun this t)];cases(aG n).find? λt=>bO (bP (eD n t Y))with
 |none=>rfl
 |some t=>exact congrFun this t
theorem UE:∀n∈cI,∀X∈jk n (n-1),bP X=X->∀u∈aG n,eu n (eD n u X)=eu n X:=by decide +kernel
theorem Lk:∀n∈cI,∀X∈jk n (n-1),bP X=X->((eu n X).length=n-1/\bO (eu n X)=true/\(j4 X).isEmpty=bO X)/\((∀x∈eu n X,x<n)/\bP (eu n X)=eu n X):=by decide +kernel
theorem size_le(h:n∈cI):3<=n/\n<=5:=by unfold cI at h;simp only[cc,gG,or_false]at h;lia
structure Res(n:Nat)(X:aa):Prop where
 len:X.length=n-1
 lt:∀x∈X,x<n
theorem Res.sort(h:Res n X):Res n (bP X):=⟨(j3 X).length_eq.trans h.len,λx hx=>h.lt x ((j3 X).mem_iff.mp hx)⟩
theorem Res.mem(h:Res n X):X∈jk n (n-1):=Mo h.len h.lt
theorem Res.sh{X:aa}(h:Res n X)(hn:n∈cI)(t):Res n (eD n t X):=⟨(ba ..).trans h.len,λx hx=>by
 refine br (eH.mp hx) λr z bb=>?_;subst bb;exact mP _ (cZ (by decide) (size_le hn).1)⟩
theorem Ll{X:aa}(hn:n∈cI)(hX:Res n X)(hu:u<n):eu n (eD n u X)=eu n X:=by rw[<-tP (j3 X),<-tP (A3 (j3 X))];exact UE n hn _ hX.sort.mem (pJ X) u (bI.mpr hu)
theorem tQ{X:aa}(hn:n∈cI)(hX:Res n X):Res n (eu n X)/\bO (eu n X)=true/\bP (eu n X)=eu n X:=by rw[<-tP (j3 X)];refine c_ (Lk n hn _ hX.sort.mem (pJ X)) λbb h4 h5=>?_;obtain⟨h1,h2,_⟩:=bb;exact⟨⟨h1,h4⟩,h2,h5⟩
theorem UF{X:aa}(hn:n∈cI)(hX:Res n X):(j4 (bP X)).isEmpty=bO (bP X):=(Lk n hn _ hX.sort.mem (pJ X)).1.2.2
end
def dP(an:ac)(az:Nat):aa:=((aG an.length).filter λp=> !(p==az)).map (resT an 0)
theorem Nw(an)(t p)(h:0<an.length):resT an t p=(resT an 0 p+t)%an.length:=by
 unfold resT;rw[tl,tw];have h0:=vr.mpr h;have h1:=jQ (an.getD p 0) h0;have :(((an.getD p 0+t).fmod an.length).toNat:Int)=((((an.getD p 0).fmod an.length).toNat+t)%an.length:Nat):=by refine ao (ri (jQ _ h0)) ?_;rw[vp,fg,ri h1,kH _ (kM h0),kH _ (kM h0),Rw]
 exact Jt this
theorem tR(hh:az<an.length):Res an.length (dP an az):=by
 refine⟨?_,λx hx=>?_⟩
 ·unfold dP;refine ao (ba ..) ?_;exact Nat.eq_sub_of_add_eq (EF _ _ hh)
 ·refine br (eH.mp hx) λp z bb=>?_;subst bb;exact Bg an 0 p (im (du _) hh)
theorem Lm(an)(az t)(h:az<an.length):fc an az t=bP (eD an.length t (dP an az)):=by delta fc eD dP;rw[cP];exact aR bP (lH λp z=>Nw an t p (im (du _) h))
theorem Mp(hn:an.length∈cI)(h:az<an.length):kb an az=dJ (eu an.length (dP an az)) (an.sum-bZ (eu an.length (dP an az))):=by
 have hX:=tR h;delta kb eu;rw[show(λt=>(j4 (fc an az t)).isEmpty)=λt=>bO (bP (eD an.length t (dP an az))) from funext λt=>by rw[Lm _ _ _ h];exact UF hn (hX.sh hn t)];cases hf:(aG an.length).find? λt=>bO (bP (eD an.length t (dP an az)))with
 |some t=>show dJ (fc an az t) _=_;rw[Lm _ _ _ h]
 |none=>have :=(tQ hn hX).1.len;rw[eu,hf]at this;replace this:0=an.length-1:=this;exact bx this (eO (z8 (cZ (by decide) (size_le hn).1)))
def gm(n:Nat):Int:=((aG n).map λk:Nat=>(k:Int)).sum
def aa1(m:Nat)(r:Int):Int:=((aG m).map λk:Nat=>if(k:Int)<r then(1:Int)else 0).sum
theorem VW:∀m∈[2,3,4],∀r∈aG m,aa1 m r=r:=by decide +kernel
theorem sum_add(f g:α->Int)(l:List α):(l.map λx=>f x+g x).sum=(l.map f).sum+(l.map g).sum:=by
 induction l with
 |nil=>rfl
 |cons x l ih=>exact(aR (f x+g x+ ·) ih).trans ((DP ..).trans ((aR (f x+ ·) (agv ..)).trans (DP ..).symm))
theorem KG(q:Int)(m:Nat):((aG m).map λz=>q).sum=m*q:=by
 induction m with
 |zero=>exact(vu q).symm
 |succ m ih=>rw[vq,ei,RI,ih,agE,tz,ju];exact aR (_+ ·) (tw q)
theorem Ln(l):((aG l.length).map λk=>(l.getD k 0:Int)).sum=bZ l:=by
 induction l with
 |nil=>rfl
 |cons x l ih=>rw[ff,List.range_succ_eq_map,cO,cg,cP];exact aR ((x:Int)+ ·) ih
theorem O_:∀m∈[2,3,4],2<=m/\m<=4:=by decide
theorem gt0{a k x:Int}(h:k<a)(hx:0<=x):0<a-k+x:=Int.add_pos_of_pos_of_nonneg (agt h) hx
theorem le0{a k x:Int}(h:a<=0)(hx:x<=k):¬0<a-k+x:=pE.mpr (cD (agS (af6 h k) hx) (ag6 (Du 0 k)))
theorem aa2(p:Prop)[Decidable p]:(0:Int)<=if p then 1 else 0:=by by_cases h:p<;>simp only[aA,aJ,h,not_false_eq_true]<;>decide
theorem A4{row:aa}{over:Int}(hm:row.length∈[2,3,4])(ho:(row.length:Int)*row.length<=over+1):dJ row over=over+bZ row-gm row.length:=by
 have h0:(0:Int)<row.length:=vr.mpr (cZ (by decide) (O_ _ hm).1);have hd:=xc (over+1) row.length;have Qx:=jQ (over+1) h0;have Qy:=mJ (over+1) h0;delta dJ BW;have hs:=VW _ hm ((over+1).fmod row.length).toNat (bI.mpr ((xx Qx).mpr Qy));rw[ri Qx]at hs;have hq:(row.length:Int)<=(over+1).fdiv row.length:=pp (over+1) (kM h0)▸(afT h0).mpr ho;generalize (over+1).fdiv row.length=q at hq hd⊢;generalize (over+1).fmod row.length=r at hs Qy hd⊢;have ht:(aG row.length).map (pg row q r)=(aG row.length).map λk:Nat=>(((λz=>q) k+(λk:Nat=>if(k:Int)<r then(1:Int)else 0) k)+(row.getD k 0:Int))+(λk:Nat=> -(k:Int)) k:=lH λk hk=>by have hk:=z6 (gI.mpr (bI.mp hk)) hq;have e:0<q+(if(k:Int)<r then 1 else 0)-k+row.getD k 0:=gt0 (z6 hk (Int.le_add_of_nonneg_right (aa2 _))) (cz _);exact(aA e).trans (Jb ..)
 have acn (m:Nat):((aG m).map λk:Nat=> -(k:Int)).sum= -gm m:=by
  delta gm;induction m with
  |zero=>rfl
  |succ m ih=>rw[vq,ei,RI,ei,RI,ih,R2];exact aR (_+ ·) ((tw _).trans (aR (- ·) (tw (m:Int)).symm))
 rw[ht,sum_add,sum_add,sum_add,KG,Ln,acn,show((aG row.length).map λk:Nat=>if(k:Int)<r then(1:Int)else 0).sum=r from hs,hd,Jb over 1,Jb (over+_) 1,vm];rfl
theorem A5{row:aa}{over:Int}(hm:row.length∈[2,3,4])(hp:bO row=true)(ho:over<= -1):dJ row over= -1:=by
 have h0:(0:Int)<row.length:=vr.mpr (cZ (by decide) (O_ _ hm).1);have hd:=xc (over+1) row.length;replace ho:over+1<=0:=Dp ho 1;have hq:(over+1).fdiv row.length<=0:=pp (over+1) (kM h0)▸Int.le_of_lt_add_one ((Int.ediv_lt_iff_lt_mul h0).mpr (td ho ((ju _).symm▸h0)));delta dJ BW;generalize (over+1).fdiv row.length=q at hq hd⊢;generalize (over+1).fmod row.length=r at hd⊢;have ht:(aG row.length).map (pg row q r)=(aG row.length).map λz=>(0:Int):=lH λk hk=>by
  have mj:=eP.mpr (bu (cF.mp hp k hk));refine aJ (le0 (a:=q+if(k:Int)<r then 1 else 0) ?_ mj);by_cases h:(k:Int)<r
  ·rw[aA h];refine(Int.lt_or_eq_of_le hq).elim id λe=>?_;rw[e,DV,Ao]at hd;exact bx (td (cz k) h) (pE.mpr (hd▸ho))
  ·rw[aJ h,tw];exact hq
 rw[ht,KG,DV];rfl
def Qz(n c:Nat):ac:=(aG 6).map λj:Nat=>(n:Int)*j+c-6
def O'(n:Nat)(s:aa)(x c:Nat):Bool:=(λs'=>(Qz n ((c+6)%n)).all λo=>dJ s' (o+bZ s-bZ s')==dJ s o) (eu n (c::s.erase x))
theorem rk2:∀n∈cI,∀s∈jk n (n-1),bP s=s->bO s=true->∀x∈s,∀c∈aG n,O' n s x c=true:=by decide +kernel
def zC(n:Nat)(s:aa):aa:=eu n (s.map λw=>(2*n-3-w)%n)
def Pa(n:Nat)(s:aa):Bool:=(aG 40).all λk:Nat=>dJ s ((k:Int)-20)-dJ (zC n s) ((n:Int)*(n-3)-((k:Int)-20)-bZ s-bZ (zC n s))==(k:Int)-20+bZ s-gm (n-1)+1
theorem rk3:∀n∈cI,∀s∈jk n (n-1),bP s=s->bO s=true->Pa n s=true:=by decide +kernel
theorem A6{a b:ac}(h:a.Perm b):a.sum=b.sum:=by
 induction h with
 |nil=>rfl
 |cons x _ ih=>refine ao cg ?_;rw[cg,ih]
 |swap x y l=>refine ao cg ?_;rw[cg,cg,cg];exact agv y x l.sum
 |trans _ _ h1 h2=>exact h1.trans h2
theorem AO{a b:aa}(h:a.Perm b):bZ a=bZ b:=A6 (h.map _)
theorem vC(x)(l):bZ (x::l)=x+bZ l:=cg
theorem KH:∀n∈cI,gm (n-1)=((n:Int)-1)*(n-2)/2/\(n:Int)-1=(n-1:Nat)/\(0<=gm (n-1)/\gm (n-1)<=6):=by decide
theorem vD{l:aa}(h:bO l=true):0<=bZ l/\bZ l<=gm l.length:=by
 rw[<-Ln];unfold bO gm at *;have :∀ks:aa,(∀k∈ks,l.getD k 0<=k)->0<=(ks.map λk=>(l.getD k 0:Int)).sum/\(ks.map λk=>(l.getD k 0:Int)).sum<=(ks.map λk:Nat=>(k:Int)).sum:=λks=>by
  induction ks with
  |nil=>exact λz=>⟨vv _,vv _⟩
  |cons k ks ih=>intro h;have h1:=h k (ch ..);have h2:=ih λx hx=>h x (cf _ hx);rw[cO,cO,cg,cg];lia
 exact this _ λk hk=>bu (cF.mp h k hk)
theorem Xh(an):(ps:aa)->∃Q:Int,(ps.map λp=>an.getD p 0).sum=an.length*Q+bZ (ps.map (resT an 0))\/an.length=0:=by
 intro ps;induction ps with
 |nil=>exact⟨0,.inl (by rw[DV];rfl)⟩
 |cons p ps ih=>
  refine oE ih λQ h=>⟨(an.getD p 0).fdiv an.length+Q,?_⟩;rcases h with h|h
  ·by_cases h0:an.length=0
   ·exact .inr h0
   ·refine .inl ?_;have hd:=xc (an.getD p 0) an.length;rw[cO,cO,cg,vC,h,<-show _=(resT an 0 p:Int) from tO an 0 p (agi h0),tl,tw,D1];omega
  ·exact .inr h
theorem Y0(n t):(X:aa)->∃Q:Int,bZ (eD n t X)+n*Q=bZ X+X.length*t:=by
 intro X;induction X with
 |nil=>exact⟨0,by rw[DV];show(0:Int)+0=0+0*_;rw[vu]⟩
 |cons x X ih=>
  obtain⟨Q,h⟩:=ih;refine⟨((x+t)/n:Nat)+Q,?_⟩;show bZ ((x+t)%n::eD n t X)+_=_;have hd:=RM (x+t) n;have hd:(n:Int)*((x+t)/n:Nat)+((x+t)%n:Nat)=(x:Int)+t:=by rw[<-rm,<-fg,hd,fg]
  rw[vC,vC,ff,D1,fg,tz,show((1:Nat):Int)*t=t from ju _];omega
theorem KI(k az)(h:az<k):(az::(aG k).filter λp=> !(p==az)).Perm (aG k):=by
 have h1:=(afI (λp=>p==az) (aG k));have h2:(aG k).filter (λp=>p==az)=[az]:=by
  induction k with
  |zero=>exact bx h (Jp _)
  |succ k ih=>
   rw[vq,agc];by_cases hk:az<k
   ·rw[ih hk (afI _ _),pA,aJ (by rw[beq_iff_eq];exact agU hk)];rfl
   ·obtain rfl:az=k:=Nat.eq_of_lt_succ_of_not_lt h hk;rw[afN.mpr (λx hx=>by have :=bI.mp hx;rw[beq_iff_eq];exact eO this),pA,aA (beq_self_eq_true _)];rfl
 rw[h2]at h1;exact h1
def ce(an:ac)(az:Nat):aa:=eu an.length (dP an az)
def jA(an:ac)(az:Nat):Int:=an.sum-bZ (ce an az)
theorem Ka(an:ac):((aG an.length).map λp=>an.getD p 0)=an:=by refine RB (by refine ao (ba ..) ?_;rw[cV]) λi h1 h2=>?_;refine ao (xk ..) ?_;rw[IZ,dD,gU h2];rfl
theorem EH{an:ac}{az:Nat}(h:az<an.length):(resT an 0 az::dP an az).Perm ((aG an.length).map (resT an 0)):=(KI _ _ h).map (resT an 0)
theorem UG{an:ac}{az:Nat}(h:az<an.length):∃Q:Int,an.sum=an.length*Q+(resT an 0 az+bZ (dP an az)):=by refine oE (Xh an (aG an.length)) λQ h1=>h1.elim (λh1=>?_) λh1=>bx h1 (ag1 (im (du _) h));rw[Ka,<-AO (EH h),vC]at h1;exact⟨Q,h1⟩
theorem Mq{n:Nat}{X:aa}(hn:n∈cI)(hX:Res n X):∃t,t<n/\eu n X=bP (eD n t X):=by
 have h:=(tQ hn hX).1.len;unfold eu at h⊢;cases hf:(aG n).find? λt=>bO (bP (eD n t X))with
 |some t=>exact⟨t,bI.mp (Dg hf),rfl⟩
 |none=>rw[hf]at h;replace h:0=n-1:=h;exact bx h (eO (z8 (cZ (by decide) (size_le hn).1)))
theorem Bh{n:Nat}{s:aa}(hn:n∈cI)(hs:Res n s):s.length∈[2,3,4]:=hs.len▸(by decide :∀n∈cI,n-1∈[2,3,4]) n hn
theorem Y1{n:Nat}{o z:Int}{a:Nat}(h:o=n*z+a):o.emod n=((a%n:Nat):Int):=by rw[h,vp];exact Int.mul_add_emod_self_left ..
theorem Tv{an:ac}{az other:Nat}(hn:an.length∈cI)(hh:az<an.length)(ho:other<an.length)(fC:other≠az):kb an other=dJ (ce an az) (jA an az):=by
 have gy:=size_le hn;have hX:=tR hh;refine br (Mq hn hX) λt ht hs=>c_ (tQ hn hX) λmy lD qK=>?_;have zD:resT an 0 other∈dP an az:=Dr (jT.mpr ⟨bI.mpr ho,by rw[vo,beq_eq_false_iff_ne];exact fC⟩);have Iu:(dP an other).Perm (resT an 0 az::(dP an az).erase (resT an 0 other)):=by have h1:=(EH ho).trans (EH hh).symm;exact(h1.trans (((Rh zD).cons _).trans (.swap _ _ _))).cons_inv
 generalize resT an 0 other=x at zD Iu;have w0:(ce an az).Perm (eD an.length t (dP an az)):=by show(eu _ _).Perm _;rw[hs];exact j3 _
 have Iv:(x+t)%an.length∈ce an az:=w0.mem_iff.mpr (Dr zD);have zE:(eD an.length t ((dP an az).erase x)).Perm ((ce an az).erase ((x+t)%an.length)):=
  (((A3 (Rh zD)).symm.trans w0.symm).trans (Rh Iv)).cons_inv
 have Ou:ce an other=eu an.length (((resT an 0 az+t)%an.length)::(ce an az).erase ((x+t)%an.length)):=by unfold ce at zE⊢;rw[<-Ll hn (tR ho) ht,tP (A3 Iu)];exact tP (zE.cons _)
 have sC:Res an.length (ce an other):=(tQ hn (tR ho)).1;have QA:bO (ce an other)=true:=(tQ hn (tR ho)).2.1;have aco:(jA an az).emod an.length=((resT an 0 az+t)%an.length:Nat):=by refine oE (UG hh) λQ h1=>oE (Y0 an.length t (dP an az)) λQ2 h2=>?_;rw[<-AO w0,hX.len,ro (aD (by decide) gy.1),ag_]at h2;refine Y1 (z:=Q+Q2-t) ?_;delta jA;rw[h1,R3,D1,fg];rw[show((1:Nat):Int)*t=t from ju _]at h2;lia
 have hc:=rk2 _ hn _ my.mem qK lD _ Iv ((resT an 0 az+t)%an.length) (bI.mpr (mP _ (im (du _) hh)));refine ao (Mp hn ho ..) ?_;have zF:an.sum=jA an az+bZ (ce an az):=(Du ..).symm;unfold O' at hc;replace hc:(Qz an.length (((resT an 0 az+t)%an.length+6)%an.length)).all (λo=>dJ (eu an.length (((resT an 0 az+t)%an.length)::(ce an az).erase ((x+t)%an.length))) (o+bZ (ce an az)-bZ (eu an.length (((resT an 0 az+t)%an.length)::(ce an az).erase ((x+t)%an.length))))==dJ (ce an az) o)=true:=hc;rw[<-Ou]at hc;rw[zF];have kA:=Bh hn my;have cY:=Bh hn sC;have zG:=vD lD;have sH:=vD QA;have e1:(eu an.length (dP an az)).length=an.length-1:=my.len;rw[e1]at zG;rw[sC.len]at sH;have w5:=sC.len;have w6:(ce an az).length=an.length-1:=my.len;replace kA:(ce an az).length∈[2,3,4]:=kA;replace lD:bO (ce an az)=true:=lD;replace zG:0<=bZ (ce an az)/\bZ (ce an az)<=gm (an.length-1):=zG;show dJ (ce an other) (jA an az+bZ (ce an az)-bZ (ce an other))=dJ (ce an az) (jA an az);clear Ou zF zE Iv w0 qK my e1 hs sC Iu zD hX;generalize jA an az=o at *;generalize ce an az=s at *;generalize ce an other=s' at *;generalize (resT an 0 az+t)%an.length=c at *;generalize an.length=n at *;have ht3:gm (n-1)<=6/\((n-1:Nat):Int)*(n-1:Nat)+gm (n-1)<=6*n-5:=by unfold cI at hn;simp only[cc,gG,or_false]at hn;rcases hn with h|h|h<;>rw[h]<;>decide
 by_cases h1:o<= -7
 ·rw[A5 kA lD (by lia),A5 cY QA (by lia)]
 by_cases h2:6*(n:Int)-6<=o
 ·rw[A4 kA (by rw[w6];lia),A4 cY (by rw[w5];lia),w5,w6];lia
 have h5:0<=(o+6)/n:=Int.ediv_nonneg (by lia) (cz _);refine beq_iff_eq.mp (cF.mp hc o (eH.mpr ⟨((o+6)/n).toNat,bI.mpr ?_,?_⟩))
 ·exact(xx h5).mpr (Int.ediv_lt_of_lt_mul (vr.mpr (cZ (by decide) gy.1)) (by lia))
 ·have h6:=afX (o+6) n;have h7:((c+6)%n:Nat)=(o+6)%n:=by refine ao (vp ..) ?_;rw[fg,<-aco,show o.emod n=o%n from rfl];exact Rw ..
  rw[h7,ri h5];exact IR.mpr h6
theorem Xi:∀n∈cI,∀r∈aG n,∀t∈aG n,((2*n-3-(r+t)%n)%n+t)%n=(2*n-3-r)%n:=by decide
theorem VX{an:ac}{az:Nat}(hn:an.length∈cI)(hh:az<an.length):dJ (ce an az) (jA an az)-kb (an.map λc=>(an.length:Int)-3-c) az=an.sum-gm (an.length-1)+1:=by
 have gy:=size_le hn;have hX:=tR hh;obtain⟨t,ht,hs⟩:=Mq hn hX;obtain⟨my,lD,qK⟩:=tQ hn hX;have C5:0<an.length:=im (du _) hh;have eA:(an.map λc=>(an.length:Int)-3-c).length=an.length:=ba ..;have Hm:(an.map λc=>(an.length:Int)-3-c).sum=an.length*(an.length-3)-an.sum:=by
  have :∀(k:Int)(l:ac),(l.map λc=>k-c).sum=l.length*k-l.sum:=λk l=>by
   induction l with
   |nil=>rw[Ac,tl,vu];rfl
   |cons x l ih=>rw[cO,cg,cg,ih,ff,fg,tz,show((1:Nat):Int)*k=k from ju _];lia
  exact this _ _
 have ho:dP (an.map λc=>(an.length:Int)-3-c) az=(dP an az).map λr=>(2*an.length-3-r)%an.length:=by delta dP;rw[eA,cP];refine lH λp hp=>?_;have hp:=bI.mp (jT.mp hp).1;have hr:=Bg an 0 p C5;have h1:=tO (an.map λc=>(an.length:Int)-3-c) 0 p (xf C5 eA.symm);have h2:=tO an 0 p C5;rw[eA,tl,tw,show(an.map λc=>(an.length:Int)-3-c).getD p 0=an.length-3-an.getD p 0 by rw[dD,dD,i7,gU hp];rfl,kH _ (cz _)]at h1;rw[tl,tw,kH _ (cz _)]at h2;refine Jt (h1.symm.trans ?_);show _=(((2*an.length-3-resT an 0 p)%an.length:Nat):Int);rw[vp,ro (Dn (aD (ir (cG hr) gy.1) (ej (DZ _).symm))),ro (aD gy.1 (Nat.le_mul_of_pos_left _ (by decide))),rm,<-h2,show((2:Nat):Int)*an.length-(3:Nat)-an.getD p 0%an.length=an.length-3-an.getD p 0+an.length*(1+an.getD p 0/an.length) by rw[Int.emod_def,D1];lia,IJ]
 have hM:ce (an.map λc=>(an.length:Int)-3-c) az=zC an.length (ce an az):=by
  delta ce zC;rw[eA,ho,hs];have w0:=(j3 (eD an.length t (dP an az))).map λw=>(2*an.length-3-w)%an.length;rw[tP w0];have :(dP an az).map (λr=>(2*an.length-3-r)%an.length)=eD an.length t ((eD an.length t (dP an az)).map λw=>(2*an.length-3-w)%an.length):=by delta eD;rw[cP,cP];exact lH λr hr=>(Xi _ hn r (bI.mpr (hX.lt r hr)) t (bI.mpr ht)).symm
  rw[this];exact Ll hn ⟨by rw[ba];exact(hX.sh hn t).len,λx hx=>by
   refine br (eH.mp hx) λr z bb=>?_;subst bb;exact mP _ C5⟩ ht
 have hm:=tQ (by rw[eA];exact hn) (tR (by rw[eA];exact hh));refine c_ hm λw7 zH z=>?_;replace zH:bO (ce (an.map λc=>(an.length:Int)-3-c) az)=true:=zH;replace w7:Res _ (ce (an.map λc=>(an.length:Int)-3-c) az):=w7;rw[eA,hM]at w7;rw[hM]at zH;rw[Mp (by rw[eA];exact hn) (by rw[eA];exact hh)];show _-dJ (ce _ az) (_-bZ (ce _ az))=_;rw[hM,Hm];have kA:(ce an az).length∈[2,3,4]:=Bh hn my;have cY:=Bh hn w7;replace lD:bO (ce an az)=true:=lD;have zG:=vD lD;have sH:=vD zH;have w5:=w7.len;have w6:(ce an az).length=an.length-1:=my.len;rw[w5]at sH;rw[w6]at zG;have hc:=rk3 _ hn _ (show ce an az∈_ from my.mem) qK lD;have zF:an.sum=jA an az+bZ (ce an az):=(Du ..).symm;rw[zF];unfold Pa at hc;clear Hm ho hM w7 qK my hs hX;generalize jA an az=o at *;generalize ce an az=s at *;generalize zC an.length s=s' at *;clear zF eA;generalize an.length=n at *;have ht3:((n-1:Nat):Int)*(n-1:Nat)<=16/\(n:Int)*(n-3)-15<0/\((n-1:Nat):Int)*(n-1:Nat)+2*gm (n-1)<=(n:Int)*(n-3)+20/\2*gm (n-1)=(n:Int)*(n-3)+2:=by delta cI at hn;simp only[cc,gG,or_false]at hn;rcases hn with h|h|h<;>rw[h]<;>decide
 generalize (n:Int)*(n-3)=w at *;by_cases h1:o<= -20
 ·rw[A5 kA lD (by lia),A4 cY (by rw[w5];lia),w5];lia
 by_cases h2:19<=o
 ·rw[A4 kA (by rw[w6];lia),A5 cY zH (by lia),w6];exact ag9 (o+bZ s-gm (n-1)) 1
 have h0:0<=o+20:=Dp (kM (xC.mp h1)) 20;have h3:=beq_iff_eq.mp (cF.mp hc (o+20).toNat (bI.mpr ((xx h0).mpr (xy (Int.add_lt_add_right (xC.mp h2) 20) (by decide)))));rw[ri h0,vm]at h3;rw[show w-(o+bZ s)-bZ s'=w-o-bZ s-bZ s' by lia];exact h3
def ul(n:Nat)(s:aa):Nat:=(gm (n-1)-bZ s).toNat
def acp(n:Nat)(s:aa):Bool:=(aG (ul n s+3)).all λk:Nat=>rT (((k:Int)-1)::s.map λx:Nat=>(x:Int)) ((k:Int)-1)==dJ s ((k:Int)-1)
theorem rk4:∀n∈cI,∀s∈jk n (n-1),bP s=s->bO s=true->acp n s=true:=by decide +kernel
def sub(T:ac)(E:aa):ac:=agV (λ(c:Int) (e:Nat)=>c-e) T E
def up(E:aa)(v:Nat):aa:=E.take v++[E.getD v 0+1]++E.drop (v+1)
theorem sub_len:{T:ac}->{E:aa}->E.length=T.length->(sub T E).length=T.length
 |T,E,h=>by unfold sub;refine ao Rk ?_;rw[h,JD]
theorem EI:(T:ac)->(E:aa)->(v:Nat)->E.length=T.length->v<T.length->down (sub T E) v=sub T (up E v)
 |[],_,_,_,h=>bx h (Jp _)
 |c::T,e::E,0,_,_=>by
  show(c-(e:Int)-1)::sub T E=(c-((e+1:Nat):Int))::sub T E;congr 1;lia
 |c::T,e::E,v+1,h,hv=>aR ((c-(e:Int)):: ·) (EI T E v (mM h) (Ra hv))
theorem Nx:(E:aa)->(v:Nat)->v<E.length->(up E v).length=E.length/\(up E v).sum=E.sum+1
 |[],_,h=>bx h (Jp _)
 |e::E,0,_=>⟨rfl,by show((e+1)::E).sum=_;refine ao cg ?_;rw[cg];exact jq e 1 E.sum⟩
 |e::E,v+1,h=>by obtain⟨h1,h2⟩:=Nx E v (Ra h);exact⟨aR (· +1) h1,by show(e::up E v).sum=_;refine ao cg ?_;rw[cg,h2];exact aT (gH e E.sum 1)⟩
def zero(E:aa):Bool:=E.all (· ==0)
def mZ:aa->Nat
 |[]=>0
 |_::E=>if zero E=true then 0 else mZ E+1
def nA:aa->aa
 |[]=>[]
 |e::E=>if zero E=true then(e-1)::E else e::nA E
theorem Mr:{E:aa}->zero E=true->E.sum=0/\mZ E=0:=by
 intro E;induction E with
 |nil=>exact λz=>⟨rfl,rfl⟩
 |cons e E ih=>exact λh=>be h λh1 h2=>⟨by refine ao cg ?_;rw[(ih h2).1,beq_iff_eq.mp h1],aA h2⟩
theorem Ms:{E:aa}->¬zero E=true->0<E.sum:=by
 intro E;induction E with
 |nil=>exact λh=>bx rfl h
 |cons e E ih=>
  intro h;rw[cg];by_cases h1:e=0
  ·have :=ih λh2=>h (by show(e==0&&zero E)=true;rw[h1,h2];rfl);exact ago e this
  ·lia
theorem Y2:(E:aa)->0<E.sum->(nA E).length=E.length/\(nA E).sum+1=E.sum/\mZ (nA E)<=mZ E/\mZ E<E.length/\up (nA E) (mZ E)=E:=by
 intro E;induction E with
 |nil=>exact λh=>bx h (mL _)
 |cons e E ih=>
  intro h;unfold nA mZ;by_cases hz:zero E=true
  ·rw[aA hz,aA hz];rw[cg,(Mr hz).1]at h;refine⟨rfl,by rw[cg,cg];lia,ej (aA hz),RS _,?_⟩;show(e-1+1)::E=_;rw[vl (show 1<=e from h)]
  ·rw[aJ hz,aJ hz];refine NG (ih (Ms hz)) λh1 h2 h3 h4 h5=>⟨aR (· +1) h1,by rw[cg,cg];lia,?_,agy h4,aR (e:: ·) h5⟩;show(if zero (nA E)=true then 0 else mZ (nA E)+1)<=_;by_cases QB:zero (nA E)=true
   ·rw[aA QB];exact du _
   ·rw[aJ QB];exact lJ h3
def rV(n:Nat)(T:ac):Nat->List (ac×Nat)
 |0=>[(T,0)]
 |k+1=>jz n (rV n T k)
theorem sub_zero:(T:ac)->(E:aa)->E.length=T.length->zero E=true->sub T E=T
 |[],[],_,_=>rfl
 |c::T,e::E,h,hz=>be hz λh1 h2=>by show(c-(e:Int))::sub T E=_;rw[sub_zero T E (mM h) h2,beq_iff_eq.mp h1,tl,DU]
theorem Mu(T:ac):(k:Nat)->∀q∈rV T.length T k,∃E:aa,E.length=T.length/\E.sum=k/\q.1=sub T E
 |0,q,h=>by
  rw[cW h];exact⟨cC T.length 0,gV,by refine ao List.sum_replicate_nat ?_;rw[xw],(sub_zero _ _ gV (cF.mpr λx hx=>by rw[(z5.mp hx).2];rfl)).symm⟩
 |k+1,q,h=>by obtain⟨p,hp,hq⟩:=Jk.mp h;obtain⟨v,hv,rfl⟩:=eH.mp hq;refine eW (Mu T k p hp) λE h1 h2 h3=>?_;have hv:=IQ (bI.mp hv);obtain⟨h4,h5⟩:=Nx E (p.2+v) (by rw[h1];exact hv);exact⟨up E (p.2+v),h4.trans h1,by refine ao h5 ?_;rw[h2],by rw[h3];exact EI T E _ h1 hv⟩
theorem VY(T:ac):(k:Nat)->(E:aa)->E.length=T.length->E.sum=k->(sub T E,mZ E)∈rV T.length T k:=by
 intro k;induction k with
 |zero=>
  intro E h hs;have hz:zero E=true:=QZ λhz=>by have :=Ms hz;lia
  rw[sub_zero T E h hz,(Mr hz).2];exact vj.mpr rfl
 |succ k ih=>intro E h hs;obtain⟨h1,h2,h3,h4,h5⟩:=Y2 E (Re hs);refine Jk.mpr ⟨_,ih (nA E) (h1.trans h) (by lia),eH.mpr ⟨mZ E-mZ (nA E),bI.mpr (by dsimp only;lia),?_⟩⟩;dsimp only;rw[kK h3,EI T _ _ (h1.trans h) (xf h4 h),h5]
def nB(T:ac)(k:Nat):Bool:=(rV T.length T k).all λq=>ic T.length q.1
theorem EJ:nB T k=true↔∀E:aa,E.length=T.length->E.sum=k->ic T.length (sub T E)=true:=by
 constructor
 ·intro h E h1 h2;exact cF.mp h _ (VY T k E h1 h2)
 ·intro h;refine cF.mpr λq hq=>eW (Mu T k q hq) λE h1 h2 h3=>?_;rw[h3];exact h E h1 h2
theorem Kb(hl:T.length=T'.length)(h:∀k,nB T k=nB T' k)(m):rT T m=rT T' m:=by
 have key:∀r k,mT T.length r k (rV T.length T k)=mT T'.length r k (rV T'.length T' k):=λr=>by
  induction r with
  |zero=>intro k;rfl
  |succ r ih=>intro k;show(if nB T k=true then mT T.length r (k+1) (rV T.length T (k+1))else some ((k:Int)-1))=(if nB T' k=true then mT T'.length r (k+1) (rV T'.length T' (k+1))else some ((k:Int)-1));rw[h k,ih]
 unfold rT;exact aR (λo:Option Int=>o.getD (m+1)) (key _ 0)
def lE(n:Nat)(T:ac)(z:Int):Int:=(T.map λc=>(c+z).fdiv n).sum
theorem EK{n:Nat}{T:ac}:ic n T=true↔∃f:Nat,f<n/\(f:Int)<=lE n T f:=by
 delta ic vS;rw[vo,List.isEmpty_eq_false_iff_exists_mem];constructor
 ·rintro ⟨f,hf⟩;refine oA (jT.mp hf) λh1 h2=>⟨f,bI.mp h1,bu h2⟩
 ·rintro ⟨f,h1,h2⟩;exact⟨f,jT.mpr ⟨bI.mpr h1,bh h2⟩⟩
theorem Xj{n:Nat}(hn:0<n)(T)(hT:T.length=n)(z q):lE n T (z+n*q)=lE n T z+n*q:=by
 have h:(l:ac)->lE n l (z+n*q)=lE n l z+l.length*q:=λl=>by
  induction l with
  |nil=>show(0:Int)=0+0*q;rw[vu];rfl
  |cons c l ih=>show(c+(z+n*q)).fdiv n+lE n l (z+n*q)=(c+z).fdiv n+lE n l z+_;rw[ih,show c+(z+n*q)=c+z+n*q by exact aT (DP c z (↑n*q)),afY _ _ (show(n:Int)≠0 by exact afA.mpr hn),ff,fg,tz,show((1:Nat):Int)*q=q from ju _];lia
 refine ao (h T) ?_;rw[hT]
theorem Lo{n:Nat}(hn:0<n){T:ac}(hT:T.length=n):ic n T=true↔∃z:Int,z<=lE n T z:=by
 rw[EK];constructor
 ·rintro ⟨f,_,h⟩;exact⟨f,h⟩
 ·rintro ⟨z,h⟩;have h0:=Int.emod_nonneg z (show(n:Int)≠0 by exact afA.mpr hn);have h1:=Int.emod_lt_of_pos z (show(0:Int)<n by exact vr.mpr hn);have h2:=afX z n;refine⟨(z%n).toNat,(xx h0).mpr h1,?_⟩;rw[ri h0];have :=Xj hn T hT (z%n) (z/n);rw[show z%n+n*(z/n)=z by exact Int.emod_add_mul_ediv z ↑n]at this;lia
def ik(n:Nat)(t:Int)(T U:ac):ac:=agV (λc u=>c+n*u-t) T U
theorem Mv(n)(t):(T U:ac)->(E:aa)->sub (ik n t T U) E=ik n t (sub T E) U
 |[],_,_=>rfl
 |c::T,[],E=>by induction E<;>rfl
 |c::T,u::U,[]=>rfl
 |c::T,u::U,e::E=>by show(c+n*u-t-(e:Int))::sub (ik n t T U) E=(c-(e:Int)+n*u-t)::ik n t (sub T E) U;rw[Mv n t T U E];congr 1;lia
theorem FJ{n:Nat}(hn:0<n)(t z):(T U:ac)->U.length=T.length->lE n (ik n t T U) z=lE n T (z-t)+U.sum
 |[],[],_=>rfl
 |c::T,u::U,h=>by show(c+n*u-t+z).fdiv n+lE n (ik n t T U) z=(c+(z-t)).fdiv n+lE n T (z-t)+(u::U).sum;rw[FJ hn t z T U (mM h),show c+n*u-t+z=c+(z-t)+n*u by lia,afY _ _ (by lia),cg];lia
theorem Fa{n:Nat}{t:Int}{T U:ac}(h:U.length=T.length):(ik n t T U).length=T.length:=by unfold ik;refine ao Rk ?_;rw[h,JD]
theorem VZ{n:Nat}(hn:0<n){T U:ac}(hT:T.length=n)(hU:U.length=T.length):ic n (ik n U.sum T U)=ic n T:=by
 rw[Ad,Lo hn hT,Lo hn ((Fa hU).trans hT)];constructor
 ·rintro ⟨z,h⟩;rw[FJ hn _ _ _ _ hU]at h;exact⟨z-U.sum,Int.sub_right_le_iff_le_add.mpr h⟩
 ·rintro ⟨z,h⟩;refine⟨z+U.sum,?_⟩;rw[FJ hn _ _ _ _ hU,vm];exact(Int.add_le_add_iff_right U.sum).mpr h
theorem Xk(hn:0<T.length)(hU:U.length=T.length)(k):nB (ik T.length U.sum T U) k=nB T k:=by have hl:(ik T.length U.sum T U).length=T.length:=Fa hU;rw[Ad,EJ,EJ,hl];refine forall_congr' λE=>forall_congr' λh1=>forall_congr' λz=>?_;rw[Mv,VZ hn (sub_len h1) (by rw[sub_len h1];exact hU)]
theorem UH{n:Nat}{T T':ac}(h:T.Perm T'):ic n T=ic n T':=by rw[Ad,EK,EK];refine exists_congr λf=>and_congr_right λz=>?_;unfold lE;rw[A6 (h.map λc=>(c+(f:Int)).fdiv n)]
theorem V0(h:T.Perm T'):∀E':aa,E'.length=T'.length->∃E:aa,E.length=T.length/\E.sum=E'.sum/\(sub T E).Perm (sub T' E'):=by
 induction h with
 |nil=>intro E' h;exact⟨[],rfl,by rw[IH h],.refl _⟩
 |cons c _ ih=>
  intro E' h
  match E',h with
  |e::E',h=>refine eW (ih E' (mM h)) λE h1 h2 h3=>⟨e::E,aR (· +1) h1,by refine ao cg ?_;rw[cg,h2],h3.cons _⟩
 |swap x y l=>
  intro E' h
  match E',h with
  |a::b::E',h=>exact⟨b::a::E',h,by refine ao cg ?_;rw[cg,cg,cg];exact Dx b a E'.sum,.swap _ _ _⟩
 |trans _ _ ih1 sp=>intro E' h;refine eW (sp E' h) λE h1 h2 h3=>eW (ih1 E h1) λF h4 h5 h6=>⟨F,h4,h5.trans h2,h6.trans h3⟩
theorem V1(h:T.Perm T')(k):nB T k=nB T' k:=by
 have key:∀{T T':ac},T.Perm T'->nB T k=true->nB T' k=true:=λ{T T'} h h0=>by rw[EJ]at h0⊢;intro E' h1 h2;refine eW (V0 h E' h1) λE h3 h4 h5=>?_;rw[<-h.length_eq,<-UH h5];exact h0 E h3 (h4.trans h2)
 rw[Ad];exact⟨key h,key h.symm⟩
theorem UI{n:Nat}{s:aa}{left:Int}{T' U:ac}(hn:n∈cI)(hs:Res n s)(qK:bP s=s)(hp:bO s=true)(hl: -1<=left/\left<=ul n s+1)(hT:T'.Perm (left::s.map λx:Nat=>(x:Int)))(hU:U.length=T'.length):rT (ik T'.length U.sum T' U) left=dJ s left:=by have gy:=size_le hn;have hlen:T'.length=n:=hT.length_eq.trans (by rw[ff,ba,hs.len];lia);refine ao (Kb (Fa hU) (λk=>Xk (by lia) hU k) ..) ?_;rw[Kb hT.length_eq λk=>V1 hT k];have h:=beq_iff_eq.mp (cF.mp (rk4 n hn s hs.mem qK hp) (left+1).toNat (bI.mpr (by lia)));rw[ri (by lia),vm]at h;exact h
def um:List aa:=[[],[34,41,34],[92,40],[97],[34,40,34],[92,41],[92,92],[92,34]]
def un:List aa:=[[],[34],[92],[34,40,41],[34,40]]
def j7:List aa:=um.map (40:: ·)++um.map (41:: ·)
def oF(u:aa):aa:=if(u.getD 1 0==34)=true then u.take 1 else u
def jI(u:aa):Bool:=u.getD 0 0==40
theorem V2{u:aa}(hu:u∈j7)(pos:Nat)(rest:aa):eL pos false (u++rest)=eL pos false u++eL (pos+u.length) false rest:=by revert u;simp only[j7,um,cO,DS,Dy,rj,Dk];refine⟨?_,?_,?_,?_,?_,?_,?_,?_,?_,?_,?_,?_,?_,?_,?_,?_,λz h=>(nomatch h)⟩<;>rfl
theorem EL{l:aa}{i j k:Nat}(h1:i<=j)(h2:j<=k)(h3:k<=l.length):dY l i k=dY l i j++dY l j k:=by unfold dY;rw[iq h3,iq (aD h2 h3),iq (aD h1 (aD h2 h3)),show k-i=(j-i)+(k-j) by rw[jt,Q_ h2 h1],agO,DJ,kK h1]
theorem EM(P u R):dY (P++(u++R)) P.length (P.length+u.length)=u:=by unfold dY;rw[iq (by rw[cb,cb];lia),iq (by rw[cb];exact lK P.length (u++R).length),List.drop_left,Q8,List.take_left]
theorem Lp(l)(i):dY l i i=[]:=by unfold dY;rw[RT,agH]
def m_(l:aa)(a:SA)(pos:Nat):aa:=a.res.flatten++dY l a.start pos
theorem Tw{P u R:aa}(hu:u∈j7){a:SA}(ho:a.op=.none)(hs:a.start<=P.length):
  ∃a',(eL P.length false u).foldl (iy (P++(u++R))) a=a'/\a'.op=.none/\a'.start<=(P++u).length/\m_ (P++(u++R)) a' (P++u).length=m_ (P++(u++R)) a P.length++oF u:=by
 have hlen:P.length+u.length<=(P++(u++R)).length:=by rw[cb,cb];lia
 have hm:=EM P u R;obtain⟨start,op,res⟩:=a;obtain rfl:op=.none:=ho;dsimp only at hs;have plain:oF u=u->(eL P.length false u).foldl (iy (P++(u++R))) ⟨start,.none,res⟩=⟨start,.none,res⟩->∃a',(eL P.length false u).foldl (iy (P++(u++R))) ⟨start,.none,res⟩=a'/\a'.op=.none/\a'.start<=(P++u).length/\m_ (P++(u++R)) a' (P++u).length=m_ (P++(u++R)) ⟨start,.none,res⟩ P.length++oF u:=λh1 h2=>by refine⟨_,h2,rfl,by rw[cb];exact aD hs (lK ..),?_⟩;unfold m_;rw[h1,cb,EL hs (lK ..) hlen,hm,gE]
 have quoted:∀b c,u=[b,34,c,34]->(eL P.length false u).foldl (iy (P++(u++R))) ⟨start,.none,res⟩=⟨P.length+3+1,.none,if(!(start==P.length+1))=true then res++[dY (P++(u++R)) start (P.length+1)]else res⟩->∃a',(eL P.length false u).foldl (iy (P++(u++R))) ⟨start,.none,res⟩=a'/\a'.op=.none/\a'.start<=(P++u).length/\m_ (P++(u++R)) a' (P++u).length=m_ (P++(u++R)) ⟨start,.none,res⟩ P.length++oF u:=λb c Iw h2=>by
  have QC:u.length=4:=by rw[Iw];rfl
  rw[aA (by rw[dq (show start≠P.length+1 by lia)];rfl)]at h2;refine⟨_,h2,rfl,by rw[cb,QC];exact eI _,?_⟩;have hb:dY (P++(u++R)) P.length (P.length+1)=[b]:=by rw[Iw];exact EM P [b] ([34,c,34]++R)
  unfold m_;rw[cb,QC,Lp,gW,af4,afM,EL hs (lK ..) (aD (by lia) hlen),hb,gE,Iw];rfl
 clear hm hlen;revert u;simp only[j7,um,cO,DS,Dy,rj,Dk];refine⟨?_,?_,?_,?_,?_,?_,?_,?_,?_,?_,?_,?_,?_,?_,?_,?_,λz h=>(nomatch h)⟩
 all_goals intro plain quoted;first |exact plain rfl rfl|exact quoted _ _ rfl rfl
theorem J1{e:aa}(he:e∈un):(ls:List aa)->(∀u∈ls,u∈j7)->(P:aa)->(a:SA)->a.op=.none->a.start<=P.length->
  (oC (P++(ls.flatten++e)) ((eL P.length false (ls.flatten++e)).foldl (iy (P++(ls.flatten++e))) a)).flatten=m_ (P++(ls.flatten++e)) a P.length++((ls.map oF).flatten++e)
 |[],_,P,⟨start,op,res⟩,ho,hs=>by
  obtain rfl:op=.none:=ho;dsimp only at hs;have ahg:∀o,(oC (P++e) ⟨start,o,res⟩).flatten=m_ (P++e) ⟨start,.none,res⟩ P.length++e:=λo=>by
   have h2:dY (P++e) start (P++e).length=dY (P++e) start P.length++e:=by rw[EL hs (by rw[cb];exact lK P.length e.length) (eI _)];have :=EM P e [];rw[gW]at this;rw[cb,this]
   delta oC m_;dsimp only;rw[gE,<-h2];by_cases h:start<(P++e).length
   ·rw[aA h,af4,afM]
   ·rw[aJ h];rw[show start=(P++e).length by rw[cb]at h⊢;lia,Lp,gW]
  revert e;simp only[un,Dk];exact⟨λh=>h _,λh=>h _,λh=>h _,λh=>h _,λh=>h _,λz h=>(nomatch h)⟩
 |u::ls,hu,P,a,ho,hs=>by rw[Dw,gE,V2 (hu u (ch ..)),xg];obtain⟨a',h1,h2,h3,h4⟩:=Tw (P:=P) (R:=ls.flatten++e) (hu u (ch ..)) ho hs;rw[h1];have ih:=J1 he ls (λx hx=>hu x (cf _ hx)) (P++u) a' h2 h3;rw[gE P u,cb]at ih;rw[cb]at h4;refine ao ih ?_;rw[h4,cO,Dw,gE,gE]
theorem J2:{l:aa}->{c:Nat}->c∈l->hasChar l c=true
 |a::l,c,h=>by
  show(a==c||hasChar l c)=true;rcases cc.mp h with h|h
  ·rw[h,beq_self_eq_true];rfl
  ·rw[J2 h,Bool.or_true]
theorem SC{ls:List aa}{e:aa}(hu:∀u∈ls,u∈j7)(he:e∈un):gK (ls.flatten++e)=(ls.map oF).flatten++e:=by
 unfold gK;induction hc:hasChar (ls.flatten++e) 34 with
 |true=>exact J1 he ls hu [] ⟨0,.none,[]⟩ rfl (eI _)
 |false=>
  have :ls.map oF=ls:=by
   refine(lH λu h=>?_).trans (List.map_id _);unfold oF;by_cases h2:(u.getD 1 0==34)=true
   ·have hm:34∈u:=by
     rw[<-beq_iff_eq.mp h2];by_cases hk:1<u.length
     ·exact getD_mem hk
     ·rw[dD,vi (tj hk)]at h2;exact xm<|h2
    replace hc:=ao (aT (J2 (Ri _ (Ry.mpr ⟨u,h,hm⟩)))) hc;exact xm<|hc
   ·refine ao (aJ h2) ?_;rfl
  rw[this];rfl
def n9:Int->List Bool->Option Int
 |o,[]=>some o
 |o,true::r=>n9 (o+1) r
 |o,false::r=>if o-1<0 then .none else n9 (o-1) r
theorem FK:(bs:List Bool)->(o v:Int)->0<=o->n9 o bs=some v->0<=v
 |[],o,v,h,e=>by rw[<-av e];exact h
 |true::r,o,v,h,e=>FK r (o+1) v (Int.le_add_one h) e
 |false::r,o,v,h,e=>by
  unfold n9 at e;by_cases h1:o-1<0
  ·rw[aA h1]at e;exact aK e
  ·rw[aJ h1]at e;exact FK r (o-1) v (pE.mp h1) e
theorem UJ{e:aa}:(ls:List aa)->(∀u∈ls,u∈j7)->(pos:Nat)->(o:Int)->∃p,mY o (eL pos false ((ls.map oF).flatten++e))=(n9 o (ls.map jI)).bind λo=>mY o (eL p false e):=by
 intro ls;induction ls with
 |nil=>exact λz pos o=>⟨pos,rfl⟩
 |cons u ls lA=>
  intro hu pos o;have ih:=λp o=>lA (λx hx=>hu x (cf _ hx)) p o;replace hu:=hu u (ch ..);rw[cO,cO,Dw,gE];generalize (ls.map oF).flatten++e=R at *;generalize ls.map jI=bs at *;have dn:∀p,∃q,(if o-1<0 then none else mY (o-1) (eL p false R))=(if o-1<0 then none else n9 (o-1) bs).bind λo=>mY o (eL q false e):=λp=>by
   by_cases h:o-1<0
   ·rw[aA h,aA h];exact⟨0,rfl⟩
   ·rw[aJ h,aJ h];exact ih p (o-1)
  revert u;simp only[j7,um,cO,DS,Dy,rj,Dk];refine⟨ih _ _,ih _ _,ih _ _,ih _ _,ih _ _,ih _ _,ih _ _,ih _ _,dn _,dn _,dn _,dn _,dn _,dn _,dn _,dn _,λz h=>(nomatch h)⟩
theorem Kc{ls:List aa}{e:aa}(hu:∀u∈ls,u∈j7)(he:e∈un):ma (ls.flatten++e)=(n9 0 (ls.map jI)==some 0&& !(e==[34,40])):=by
 refine oE (UJ (e:=e) ls hu 0 0) λp h=>?_;unfold ma;rw[SC hu he,h];have hn:=λv=>FK (ls.map jI) 0 v (vv _);revert hn;induction n9 0 (ls.map jI)with
 |none=>exact λz=>rfl
 |some v=>
  intro hn;have hv:=hn v rfl;have h1:¬v+1-1<0:=by lia
  have h2:(v+1==0)=false:=by rw[beq_eq_false_iff_ne];lia
  have h3:(some v==some (0:Int))=(v==0):=rfl;rw[h3];revert e;simp only[un,Dk];refine⟨?_,?_,?_,?_,?_,λz h=>(nomatch h)⟩
  ·intro _;exact(vt _).symm
  ·intro _;exact(vt _).symm
  ·intro _;exact(vt _).symm
  ·intro _;show(match(if v+1-1<0 then none else some (v+1-1))with |none=>false|some o=>o==0)=(v==0&&true);rw[aJ h1,vm,vt]
  ·intro _;show(v+1==0)=(v==0&&false);refine ao h2 ?_;rw[DK]
section
variable{n k w:Nat}{sc cs:aH}{A:dQ}{pos:Pos}{r:Rec}{st:St}{a:aw}{P:Prop}{own:al}{fl:bG}{d:FD}{c:Bool}{body:ad}{E:ar->ak}{b:Int}{nm:Str}{ns:af}{it:ar}{M:Model}
def qY(ws:aa):List Bool:=((dl ws).take ((dl ws).length-1)).map jI
theorem Y3:∀n∈cI,∀s∈jk n (n-1),bP s=s->(n9 0 (qY s)==some 0)=bO s/\(dl s).length=2*(n-1)+1/\(dl s).all (λm=>m==[40]||m==[41])=true:=by decide +kernel
theorem Ke(h:X.Perm Y):dl X=dl Y:=by have hc:fy X=fy Y:=funext λs=>h.countP_eq _;unfold dl;rw[h.length_eq,hc]
theorem Kf(hn:n∈cI)(hw:Res n ws):(n9 0 (qY ws)==some 0)=bO (bP ws)/\(dl ws).length=2*(n-1)+1/\∀m∈dl ws,m=[40]\/m=[41]:=by have h:=Y3 n hn _ hw.sort.mem (pJ ws);unfold qY at h⊢;rw[Ke (j3 ws)]at h;refine⟨h.1,h.2.1,λm hm=>?_⟩;have :=cF.mp h.2.2 m hm;rw[RK,beq_iff_eq,beq_iff_eq]at this;exact this
theorem Xl:∀k∈aG 16,qd.getD k []∈um:=by decide
theorem Xm{m p:aa}(hm:m=[40]\/m=[41])(hp:p∈um):m++p∈j7:=by
 rcases hm with h|h<;>rw[h]
 ·exact Ri _ (Dr hp)
 ·exact afR _ (Dr hp)
theorem UK{m p:aa}(hm:m=[40]\/m=[41]):jI (m++p)=jI m:=by rcases hm with h|h<;>rw[h]<;>rfl
theorem AE(hn:n∈cI)(hw:Res n ws)(hide:Int):(∀u∈j9 ws hide,u∈j7)/\(j9 ws hide).map jI=qY ws/\(j9 ws hide).length=2*(n-1):=by
 refine c_ (Kf hn hw) λz h2 h3=>?_;have hm:∀j∈aG ((dl ws).length-1),(dl ws).getD j []∈dl ws:=λj hj=>by have hj:=cZ (bI.mp hj) (i_ ..);rw[dD,gU hj];exact xj _
 refine⟨λu hu=>?_,?_,by delta j9;refine ao (ba ..) ?_;rw[cV,h2];rfl⟩
 ·refine br (eH.mp hu) λj hj bb=>?_;subst bb;exact Xm (h3 _ (hm j hj)) (Xl _ (bI.mpr (Mn hide j).2))
 ·delta j9 qY;refine ao cP ?_;refine RB (by refine ao (ba ..) ?_;rw[cV,ba,mK];exact(iq (i_ ..)).symm) λi h4 h5=>?_;have hi:i<(dl ws).length-1:=by rw[ba,cV]at h4;exact h4
  refine ao (xk ..) ?_;rw[xk,IZ,List.getElem_take];refine ao (UK (h3 _ (hm i (bI.mpr hi)))) ?_;rw[dD,gU (cZ hi (i_ ..))];rfl
theorem Xn:∀u∈j7,u.length<=4:=by decide
theorem Kg(hn:n∈cI)(hw:Res n ws)(hide):uA (j9 ws hide):=by refine c_ (AE hn hw hide) λh1 z h3=>⟨by rw[h3];exact aD (IX 2 (z0 (size_le hn).2 1)) (by decide),λu hu=>Xn u (h1 u hu)⟩
def B0(bs:List Bool)(i:Nat):Bool:=n9 0 (bs.take (kN i))==some 0
def Hn(bs:List Bool)(k:Nat):List Bool:=bs.drop k++[bs.getD 0 true,bs.getD (k-1) true]++(bs.drop 1).take (k-1-1)
def yD:Nat->Nat->List Bool->Int->Option Int
 |0,_,_,_=>some (-1)
 |r+1,s,bs,o=>if o<0 then some s else((aG (bs.length/2)).find? (B0 bs)).bind λi=>yD r (s+1) (Hn bs (kN i)) (o-(i+1))
def acq(n:Nat)(s:aa):Bool:=(aG (ul n s+3)).all λk:Nat=>yD (k+1) 0 (qY s) ((k:Int)-1)==some (dJ s ((k:Int)-1)+1)
theorem rk6:∀n∈cI,∀s∈jk n (n-1),bP s=s->bO s=true->acq n s=true:=by decide +kernel
theorem getD_map{us:List aa}(h:k<us.length):(us.map jI).getD k true=jI (us.getD k []):=by refine ao dD ?_;rw[dD,i7,gU h];rfl
theorem Y4:(r s:Nat)->(us:List aa)->(o:Int)->(∀u∈us,u∈j7)->rU r s us o=yD r s (us.map jI) o:=by
 intro r;induction r with
 |zero=>exact λz z z z=>rfl
 |succ r ih=>
  intro s us o hu;unfold rU yD;have hh:heads us=B0 (us.map jI):=funext λi=>by have h:=Kc (ls:=us.take (kN i)) (e:=[]) (λu h=>hu u (sZ h)) (by decide);rw[gW]at h;unfold heads B0;refine ao h ?_;rw[<-tu];exact vt _
  rw[hh,ba];by_cases h0:o<0
  ·refine ao (aA h0) ?_;rw[aA h0]
  ·refine ao (aJ h0) ?_;rw[aJ h0];cases hf:(aG (us.length/2)).find? (B0 (us.map jI))with
   |none=>rfl
   |some i=>
    have hi:kN i<=us.length:=by have :=bI.mp (Dg hf);delta kN;lia
    have hk:2<=kN i:=Ae ..;have h1:0<us.length:=Rt hi;have h2:kN i-1<us.length:=Nat.lt_of_succ_le hi;have hg:∀k,k<us.length->us.getD k []∈us:=λk hk=>by rw[dD,gU hk];exact xj _
    show rU r (s+1) (jj us (kN i)) _=yD r (s+1) (Hn (us.map jI) (kN i)) _;rw[ih (s+1) (jj us (kN i)) (o-(i+1)) ?_]
    ·delta jj Hn;rw[ei,ei,xt,tu,xt,getD_map h1,getD_map h2];rfl
    ·intro u h;rcases jr.mp h with h|h
     ·rcases jr.mp h with h|h
      ·exact hu u (zZ h)
      ·rcases cc.mp h with h|h
       ·rw[h];exact hu _ (hg _ h1)
       ·rw[cW h];exact hu _ (hg _ h2)
     ·exact hu u (zZ (sZ h))
theorem V3{left:Int}(hn:n∈cI)(hw:Res n ws)(hp:bO (bP ws)=true)(hl: -1<=left/\left<=ul n (bP ws)+1)(hide:Int):rU (left+2).toNat 0 (j9 ws hide) left=some (dJ (bP ws) left+1):=by
 refine c_ (AE hn hw hide) λh1 h2 z=>?_;have hb:qY ws=qY (bP ws):=by unfold qY;rw[Ke (j3 ws)]
 refine ao (Y4 _ _ _ _ h1) ?_;rw[h2,hb];have h:=beq_iff_eq.mp (cF.mp (rk6 n hn _ hw.sort.mem (pJ ws) hp) (left+1).toNat (bI.mpr (by lia)));rw[ri (by lia),vm,show(left+1).toNat+1=(left+2).toNat by lia]at h;exact h
theorem Mw{e:aa}(hn:n∈cI)(hw:Res n ws)(hide)(he:e∈un):ma ((j9 ws hide).flatten++e)=(bO (bP ws)&& !(e==[34,40])):=by refine c_ (AE hn hw hide) λh1 h2 z=>ao (Kc h1 he) ?_;rw[h2,(Kf hn hw).1]
end
def md(ws:aa)(low:Nat)(c:aa):aa:=ws.foldl (λc w=>bump c (low+w)) c
def nF(ws:aa)(low bl:Nat):Nat:=(ws.map λw=>low+w+1).sum+bl
def WL(ws:aa)(low bl:Nat):WV:=⟨vZ ws low bl,md ws low [],bl,nF ws low bl,ws.length⟩
theorem Ny:(k:Nat)->(a:qP)->∃r,(cC k 32).foldl mA a=⟨a.cnt,a.b+k,a.n+k,a.nt,r⟩:=by
 intro k;induction k with
 |zero=>exact λa=>⟨a.r,rfl⟩
 |succ k ih=>intro a;obtain⟨r,h⟩:=ih (mA a 32);refine⟨r,?_⟩;rw[af3,to,h];show qP.mk a.cnt (a.b+1+k) (a.n+1+k) a.nt r=_;rw[gH,gH,jt 1 k]
theorem Y5(low w)(a)(h:a.b=0):(kn low w).foldl mA a=⟨bump a.cnt (low+w),0,a.n+(low+w+1),a.nt+1,d_ 9⟩:=by unfold kn;refine ao (xg ..) ?_;refine oE (Ny (low+w) a) λr e=>?_;rw[e,h,i8];rfl
theorem Mx(low:Nat):(ws:aa)->(a:qP)->a.b=0->∃r,((ws.map (kn low)).flatten).foldl mA a=⟨md ws low a.cnt,0,a.n+(ws.map λw=>low+w+1).sum,a.nt+ws.length,r⟩
 |[],⟨cnt,b,n,nt,r⟩,h=>⟨r,by obtain rfl:b=0:=h;rfl⟩
 |w::ws,a,h=>by rw[cO,Dw,xg,Y5 low w a h];refine oE (Mx low ws ⟨bump a.cnt (low+w),0,a.n+(low+w+1),a.nt+1,d_ 9⟩ rfl) λr e=>⟨r,e.trans ?_⟩;rw[cO,cg,ff];rw[gH a.n,gH a.nt,jt 1 ws.length];rfl
theorem x6(n:Nat)(ws:aa)(low bl:Nat)(hl:ws.length<=4)(hw:∀w∈ws,low+w<=30)(hb:bl<=30):(ev (n+40)).C "Whitespace" [pS (vZ ws low bl)] []=some (WL ws low bl).pv:=by
 refine oE (Mx low ws ⟨[],0,0,0,[]⟩ rfl) λr e=>?_;obtain⟨r2,e2⟩:=Ny bl ⟨md ws low [],0,0+(ws.map λw=>low+w+1).sum,0+ws.length,r⟩;rw[i8,i8]at e e2;rw[i8]at e2;have ml:((ws.map (kn low)).flatten++cC bl 32).length<=900:=by rw[cb,gV];refine aD (ir (vH ?_) hb) (aD (lF (s_ 31 (by rw[ba];exact hl)) 30) (by decide));intro l hl;refine br (eH.mp hl) λw qO bb=>?_;subst bb;unfold kn;rw[cb,gV];exact lJ (hw w qO)
 have hc:∀c∈(ws.map (kn low)).flatten++cC bl 32,c=32\/c=9:=λc hc=>by
  rcases jr.mp hc with h|h
  ·refine br (Ry.mp h) λl hl hc=>br (eH.mp hl) λw z bb=>?_;subst bb;rcases jr.mp hc with h|h
   ·exact .inl (z5.mp h).2
   ·exact .inr (cW h)
  ·exact .inl (z5.mp h).2
 exact aaI n _ [9,32] hc ml (md ws low []) bl (nF ws low bl) ws.length r2 (by refine ao xg ?_;rw[e,e2];rfl)
def qZ(ws:aa)(low:Nat):Nat:=ws.foldl (λm w=>max m (low+w+1)) 0
theorem My(c)(b i):(iz c b).getD i 0=c.getD i 0:=by
 unfold iz;by_cases h:c.length<=b
 ·rw[aA h,dD,dD];by_cases hi:i<c.length
  ·rw[Q1 hi]
  ·rw[afz (tj hi),vi (tj hi)];rw[List.getElem?_replicate];by_cases h2:i-c.length<b-c.length+1
   ·rw[aA h2];rfl
   ·rw[aJ h2]
 ·rw[aJ h]
theorem Mz(c)(b):(iz c b).length=max c.length (b+1):=by
 delta iz;by_cases h:c.length<=b
 ·rw[aA h,cb,gV];exact((gH ..).symm.trans (aR (· +1) (kK h))).trans (DC (Jh h)).symm
 ·rw[aJ h];exact(Jq (agC h)).symm
theorem V4(c)(b):(bump c b).length=max c.length (b+1):=by unfold bump;refine ao RJ ?_;rw[Mz]
theorem Lq(c)(b i):(bump c b).getD i 0=c.getD i 0+if i=b then 1 else 0:=by
 unfold bump;have hb:b<(iz c b).length:=by rw[Mz];lia
 by_cases h:i=b
 ·subst h;rw[aA rfl,<-My c i i,dD,List.getElem?_set_self hb];rfl
 ·rw[aJ h,<-My c b i,dD,List.getElem?_set_ne (lP h),<-dD];rfl
theorem x7(low:Nat):(ws:aa)->(c:aa)->(md ws low c).length=ws.foldl (λm w=>max m (low+w+1)) c.length:=by
 intro ws;induction ws with
 |nil=>exact λz=>rfl
 |cons w ws ih=>intro c;show(md ws low (bump c (low+w))).length=ws.foldl _ (max c.length (low+w+1));refine ao (ih ..) ?_;rw[V4]
theorem Xo(low i:Nat):(ws:aa)->(c:aa)->(md ws low c).getD i 0<=c.getD i 0+ws.length:=by
 intro ws;induction ws with
 |nil=>exact λz=>eI _
 |cons w ws ih=>
  intro c;have h:=ih (bump c (low+w));rw[Lq]at h;refine aD h ?_;rw[ff];by_cases h2:i=low+w
  ·rw[aA h2];lia
  ·rw[aJ h2];exact dX (c.getD i 0+0+ws.length)
def gs(ts:Nat)(c:aa)(N:Nat):Nat:=((aG N).map λi=>i/ts*c.getD i 0).sum
theorem Xp(ts:Nat)(c:aa)(b:Nat):(N:Nat)->gs ts (bump c b) N=gs ts c N+if b<N then b/ts else 0:=by
 intro N;induction N with
 |zero=>exact rfl
 |succ N lA=>
  have ih:=lA;unfold gs at ih⊢;rw[vq,ei,ei,Dq,Dq,ih];show _+(N/ts*(bump c b).getD N 0+0)=_+(N/ts*c.getD N 0+0)+_;rw[Lq,oh];by_cases h:b<N
  ·rw[aA h,aJ (agU h),aA (agD 1 h)];exact jq (R4 (λi=>i/ts*c.getD i 0) (aG N)).sum (b/ts) (N/ts*c.getD N 0+N/ts*0+0)
  ·by_cases h2:N=b
   ·subst h2;rw[aJ h,aA rfl,aA (Nat.lt_add_one N),xB];exact aT (gH (R4 (λi=>i/ts*c.getD i 0) (aG N)).sum (N/ts*c.getD N 0+0) (N/ts))
   ·rw[aJ h,aJ h2,aJ (by lia),xw];rfl
def sq(ws:aa)(low ts:Nat):Nat:=(ws.map λw=>(low+w)/ts).sum
theorem Y6(ts low N:Nat):(ws:aa)->(c:aa)->(∀w∈ws,low+w<N)->gs ts (md ws low c) N=gs ts c N+sq ws low ts:=by
 intro ws;induction ws with
 |nil=>exact λz z=>rfl
 |cons w ws ih=>intro c h;refine ao (ih _ λx hx=>h x (cf _ hx)) ?_;rw[Xp,aA (h w (ch ..))];unfold sq;rw[cO,cg,gH]
theorem Y7(ts:Nat):(N:Nat)->gs ts [] N=0:=by
 intro N;induction N with
 |zero=>exact rfl
 |succ N lA=>have ih:=lA;unfold gs at ih⊢;rw[vq,ei,Dq,ih];exact i8 (N/ts*0+0)
theorem V5(ts)(c):(K:aa)->(a:Nat)->K.foldl (jH ts c) a=a+(K.map λk=>(ts+k)/ts*c.getD (ts+k) 0).sum:=by
 intro K;induction K with
 |nil=>exact λz=>rfl
 |cons k K ih=>intro a;refine ao to ?_;rw[ih,cO,cg];unfold jH;exact gH ..
theorem Nz(ts:Nat)(c:aa):(N:Nat)->N<=ts->gs ts c N=0:=by
 intro N;induction N with
 |zero=>exact λz=>rfl
 |succ N lA=>intro h;have ih:=lA (th h);unfold gs at ih⊢;rw[vq,ei,Dq,ih];show 0+(N/ts*_+0)=0;rw[Jm h,Nat.zero_mul]
theorem Y8(ts:Nat)(c:aa):(aG (c.length-ts)).foldl (jH ts c) 0=gs ts c c.length:=by
 refine ao (V5 ..) ?_;rw[i8];by_cases h:ts<=c.length
 ·have :=Nz ts c ts (eI _);unfold gs at this⊢;rw[show(aG c.length)=aG (ts+(c.length-ts)) by rw[kK h],RN,ei,Dq,this,cP,i8];rfl
 ·rw[Nz ts c _ (Nat.le_of_not_ge h),show c.length-ts=0 by lia];rfl
def gR(ws:aa)(low bl ts:Nat):Nat:=bl+ts*(sq ws low ts+ws.length)
theorem BA(low):(ws:aa)->(m:Nat)->m<=ws.foldl (λm w=>max m (low+w+1)) m/\∀w∈ws,low+w<ws.foldl (λm w=>max m (low+w+1)) m:=by
 intro ws;induction ws with
 |nil=>exact λm=>⟨eI _,λz h=>(nomatch h)⟩
 |cons w ws ih=>
  intro m;refine oA (ih (max m (low+w+1))) λh1 h2=>?_;rw[to];refine⟨aD (xr ..) h1,λx hx=>?_⟩;rcases cc.mp hx with h|h
  ·rw[h];exact aD (xn ..) h1
  ·exact h2 x h
theorem FL(low b):(ws:aa)->(m:Nat)->m<=b->(∀w∈ws,low+w<b)->ws.foldl (λm w=>max m (low+w+1)) m<=b:=by
 intro ws;induction ws with
 |nil=>exact λz h z=>h
 |cons w ws ih=>exact λm h hw=>ih _ (oi.mpr ⟨h,hw w (ch ..)⟩) λx hx=>hw x (cf _ hx)
theorem BB(ws:aa)(low bl ts:Nat):(WL ws low bl).mB ts=gR ws low bl ts:=by delta WV.mB gR WL;dsimp only;rw[Y8,Y6 ts low _ ws [] λw hw=>by rw[x7];exact(BA low ws 0).2 w hw,Y7,i8]
theorem B1(ws:aa)(low bl:Nat):(WL ws low bl).lg=max (qZ ws low-1) bl:=by delta WV.lg WL;dsimp only;rw[x7];rfl
theorem Gy(h0:0<ws.length)(hl:ws.length<=4)(hw:∀w∈ws,low+w<=30)(hb:bl<=30):(WL ws low bl).ok:=by
 delta WV.ok WL;dsimp only;rw[x7];have h1:=BA low ws 0;refine⟨?_,aD (FL low 31 ws 0 (du _) λw h=>Ru (hw w h)) (by decide),aD hb (by decide),λc hc=>?_,aD hl (by decide)⟩
 ·match ws,h0,h1 with
  |w::ws,_,h1=>exact im (du _) (h1.2 w (ch ..))
 ·obtain⟨i,hi,rfl⟩:=List.getElem_of_mem hc;have :=Xo low i ws [];rw[dD,gU hi]at this;refine aD this (aD (oe hl _) ?_);rw[dD];exact(by decide :0+4<=1000)
def q8(ws:aa)(low bl:Nat):Nat:=max (qZ ws low-1) bl
def l0(ws:aa)(low bl:Nat)(us:aa)(lw bk:Nat):Bool:=if nF us lw bk<=nF ws low bl then false else if(decide (qZ ws low<=1)&&decide (qZ us lw<=1))=true then decide (ws.length<=us.length)else(aG (max (q8 ws low bl) (q8 us lw bk))).all λk=>decide (gR ws low bl (2+k)<gR us lw bk (2+k))
theorem NA(ws us)(low bl lw bk ts):iG (WL ws low bl) (WL us lw bk) ts=decide (gR ws low bl ts<gR us lw bk ts):=by unfold iG;rw[BB,BB]
theorem Bi(ws us)(low bl lw bk):qc (WL ws low bl) (WL us lw bk)=l0 ws low bl us lw bk:=by delta qc l0;rw[show(λk=>iG (WL ws low bl) (WL us lw bk) (2+k))=λk=>decide (gR ws low bl (2+k)<gR us lw bk (2+k)) from funext λk=>NA ..];rw[B1,B1];show(if nF us lw bk<=nF ws low bl then false else if(decide ((md ws low []).length<=1)&&decide ((md us lw []).length<=1))=true then _ else _)=_;rw[x7,x7];rfl
theorem AP{a b:aa}(h:a.Perm b):a.sum=b.sum:=by
 induction h with
 |nil=>rfl
 |cons x _ ih=>refine ao cg ?_;rw[cg,ih]
 |swap x y l=>refine ao cg ?_;rw[cg,cg,cg];exact Dx y x l.sum
 |trans _ _ h1 h2=>exact h1.trans h2
theorem Lr(h:a.Perm b)(low:Nat):qZ a low=qZ b low:=by have hb:∀x∈a,low+x<qZ b low:=λx hx=>(BA low b 0).2 x (h.mem_iff.mp hx);have ha:∀x∈b,low+x<qZ a low:=λx hx=>(BA low a 0).2 x (h.mem_iff.mpr hx);exact DF (FL low _ a 0 (du _) hb) (FL low _ b 0 (du _) ha)
theorem Tx{a b:aa}(h:a.Perm b)(low bl:Nat)(us:aa)(lw bk:Nat):l0 a low bl us lw bk=l0 b low bl us lw bk:=by delta l0 q8;rw[show nF a low bl=nF b low bl from aR (· +bl) (AP (h.map _)),Lr h,h.length_eq,show(λk=>decide (gR a low bl (2+k)<gR us lw bk (2+k)))=λk=>decide (gR b low bl (2+k)<gR us lw bk (2+k)) from funext λk=>by delta gR sq;rw[AP (h.map _),h.length_eq]]
theorem SX{a b:aa}(h:a.Perm b)(low bl:Nat)(us:aa)(lw bk:Nat):l0 us lw bk a low bl=l0 us lw bk b low bl:=by delta l0 q8;rw[show nF a low bl=nF b low bl from aR (· +bl) (AP (h.map _)),Lr h,h.length_eq,show(λk=>decide (gR us lw bk (2+k)<gR a low bl (2+k)))=λk=>decide (gR us lw bk (2+k)<gR b low bl (2+k)) from funext λk=>by delta gR sq;rw[AP (h.map _),h.length_eq]]
def bX(n:Nat):aa:=aG (n-1)
def acr(n:Nat)(s:aa):Bool:=[n,n+1].all λlow=>(aG 3).all λbl=>(aG (low+1)).all λex=>l0 s low bl (bX n) low (bl+(ex+1))==bO s
theorem rk1:∀n∈cI,∀s∈jk n (n-1),bP s=s->acr n s=true:=by decide +kernel
def gL(n a:Nat):aa:=a::cC (n-2) 0
theorem rk0:∀n∈cI,∀bl∈aG 3,l0 (gL n 0) 0 bl (gL n 0) 0 (bl+1)=true/\l0 (gL n 1) 0 bl (gL n 0) 0 (bl+1)=false:=by decide +kernel
theorem rk7:∀n∈cI,∀s∈jk n (n-1),bP s=s->bO s=true->∀low∈[n,n+1],∀bl∈aG 3,l0 (gL n 0) 0 bl s low bl=false:=by decide +kernel
def grow(n:Nat)(W:aa):aa:=W.take (n-2)++[W.getD (n-2) 0+ul n (bP W)]
theorem rk8:∀n∈cI,∀W∈jk n (n-1),bO (bP W)=true->∀low∈[n,n+1],decide (md (grow n W) low []=md (bX n) low [])=decide (bP (grow n W)=bX n):=by decide +kernel
theorem UL{n low bl ex:Nat}{W:aa}(hn:n∈cI)(hW:Res n W)(hl:low=n\/low=n+1)(hb:bl<3)(he:ex<=low):qc (WL W low bl) (WL (bX n) low (bl+(ex+1)))=bO (bP W):=by refine ao (Bi ..) ?_;rw[<-Tx (j3 W)];have h:=cF.mp (rk1 n hn _ hW.sort.mem (pJ W)) low (by rcases hl with h|h<;>rw[h]<;>simp);exact beq_iff_eq.mp (cF.mp (cF.mp h bl (bI.mpr hb)) ex (bI.mpr (Ru he)))
theorem UM{n low bl:Nat}{W:aa}(hn:n∈cI)(hW:Res n W)(hp:bO (bP W)=true)(hl:low=n\/low=n+1)(hb:bl<3):qc (WL (gL n 0) 0 bl) (WL W low bl)=false:=by refine ao (Bi ..) ?_;rw[<-SX (j3 W)];exact rk7 n hn _ hW.sort.mem (pJ W) hp low (by rcases hl with h|h<;>rw[h]<;>simp) bl (bI.mpr hb)
theorem KJ(hn:n∈cI)(hb:bl<3):qc (WL (gL n 0) 0 bl) (WL (gL n 0) 0 (bl+1))=true/\qc (WL (gL n 1) 0 bl) (WL (gL n 0) 0 (bl+1))=false:=by rw[Bi,Bi];exact rk0 n hn bl (bI.mpr hb)
theorem Xr(low sz)(h:0<sz):(ws:aa)->(k:Nat)->ws.foldl (ko low sz) (sz*k)=sz*(k+(sq ws low sz+ws.length)):=by
 intro ws;induction ws with
 |nil=>exact λk=>rfl
 |cons w ws ih=>
  intro k;have e:ko low sz (sz*k) w=sz*(k+(low+w)/sz+1):=by unfold ko;rw[gH,Nat.mul_add_div h,tv]
  refine ao to ?_;rw[e,ih];unfold sq;rw[cO,cg,ff];congr 1;lia
theorem Bj(ws)(low bl sz)(h:0<sz):gR ws low bl sz=gQ ws low bl sz:=by have :=Xr low sz h ws 0;rw[xw,i8]at this;delta gR gQ;rw[this,jt]
def yV(ws:aa)(low bl:Nat)(us:aa)(lw bk:Nat)(k:Nat):ac:=[((1+k:Nat):Int),(gQ ws low bl (1+k):Nat),(gQ us lw bk (1+k):Nat)]
theorem aa3(v w):(K:aa)->(a:List ac)->K.foldl (mH v w) a=a++(K.filter λk=> !iG v w (1+k)).map λk=>sN v w (1+k):=by
 intro K;induction K with
 |nil=>exact λa=>(gW a).symm
 |cons k K ih=>
  intro a;refine ao to ?_;rw[ih,pA];unfold mH;induction iG v w (1+k)with
  |true=>rfl
  |false=>refine ao (gE ..) ?_;rfl
theorem Ov(ws us)(low bl lw bk):CZ (WL ws low bl) (WL us lw bk)=((aG (max (q8 ws low bl) (q8 us lw bk)+1)).filter λk=>decide (gQ us lw bk (1+k)<=gQ ws low bl (1+k))).map (yV ws low bl us lw bk):=by
 delta CZ;rw[aa3,rj,B1,B1];have h1:(λk=> !iG (WL ws low bl) (WL us lw bk) (1+k))=λk=>decide (gQ us lw bk (1+k)<=gQ ws low bl (1+k)):=funext λk=>by rw[NA,Bj _ _ _ _ (Jf (1+k)),Bj _ _ _ _ (Jf (1+k)),<-decide_not];exact decide_eq_decide.mpr jV
 have h2:(λk=>sN (WL ws low bl) (WL us lw bk) (1+k))=yV ws low bl us lw bk:=funext λk=>by delta sN yV;rw[BB,BB,Bj _ _ _ _ (Jf (1+k)),Bj _ _ _ _ (Jf (1+k))]
 rw[h1,h2];rfl
def sm(b:Nat)(ws:aa)(j:Nat):ac:=[(ws.getD j 0:Int),(j:Int)-2*j*b]
def Cl(b:Nat)(ws:aa):aa:=(dE (λx y=>lexLt x.1 y.1) ((aG ws.length).map λj=>(sm b ws j,j))).map (·.2)
def B2(b:Nat)(ws:aa):aa:=if b=1 then rS cL ws else rS cR ws
def B3(row:aa):aa:=(aG row.length).filter λs=>decide (s<row.getD s 0)
def Gz(row:aa):aa:=(aG row.length).filter λs=>dz (λm=> !decide (s<row.getD m 0)) 3 s row.length==s
def Pb(b:Nat)(ws:aa):Bool:=decide (B2 b ws=Cl b ws)&&decide ((B2 b ws).map (λj=>ws.getD j 0)=bP ws)&&decide (((aG ws.length).map λj=>sm b ws j).Nodup)
theorem rk9:∀n∈cI,∀ws∈jk n (n-1),∀b∈aG 2,Pb b ws=true:=by decide +kernel
theorem acs:∀n∈cI,∀s∈jk n (n-1),bP s=s->Gz s=B3 s/\(B3 s).isEmpty=bO s:=by decide +kernel
def kq(e:Expr):ah:=(rY e (λes z z=>some es) (BE e (λes z=>some es) .none)).getD []
def isTup(e:Expr):Bool:=(kh e).isSome
theorem args_nil:dG r sc l []=some []:=rfl
theorem args_cons{r:Rec}{sc:aH}{v:PV}{vs:ab}(hs:notStar e=true)(h:r.E sc l e=some v)(h2:dG r sc l es=some vs):dG r sc l (e::es)=some (v::vs):=by refine ao (aA hs) ?_;rw[h,h2];rfl
theorem v6{n:Nat}{sc:aH}{vs:ab}(hs:isTup e=true)(h:dG (ev n) sc l (kq e)=some vs)(hl:bo vs.length=true):(ev (n+1)).E sc l e=some (.tup vs):=by refine Exists.elim (Dh.mp hs) λes h2=>FZ h2 (λk p h=>?_) h;show(rp (dG (ev n) sc l es) _)=_;rw[show dG (ev n) sc l es=_ from h];exact aA hl
structure LV where
 sc:ac
 c0:Int
 c1:Int
 c2:Int
 c3:Int
 c4:Int
 c5:Int
 c6:Int
 n:Nat
 az:Nat
 other:Nat
 low:Nat
 bl:Nat
 ex:Nat
 side:Int
 en:aa
def LV.cs(V:LV):ac:=[V.c0,V.c1,V.c2,V.c3,V.c4,V.c5,V.c6]
def ck(c:Int):Int:=(c+50000).fmod 100000-50000
def LV.an(V:LV):ac:=((V.cs.drop 1).take V.n).map ck
def gN(n p:Nat):Int:=if p%2=0 then n else -n
def LV.bases(V:LV):ac:=(aG V.n).map (gN V.n)
def LV.q(V:LV)(p:Nat):Int:=(V.an.getD p 0).fdiv (gN V.n p)
def LV.r(V:LV)(p:Nat):Int:=(V.an.getD p 0).fmod (gN V.n p)
def LV.told(V:LV):List ac:=(aG V.n).map λp=>[V.q p,V.r p]
def LV.oK(V:LV):WV:=WL (bX V.n) V.low (V.bl+(V.ex+1))
def qf:List aa:=[[],[34],[92],[34,40,41]]
structure LV.Ok(V:LV):Prop where
 n:V.n∈cI
 n0:(3:Int)+(V.c0.fmod 5).fdiv 2=V.n
 az:(V.c0.fdiv 5).fmod V.n=V.az
 rJ:V.az<V.n
 other:(V.c0.fdiv 5+1+V.c6.fmod (V.n-1)).fmod V.n=V.other
 MA:V.other<V.n
 Xs:V.other≠V.az
 low:(V.n:Int)+(V.c6.fdiv 16).fmod 2=V.low
 yW:V.low=V.n\/V.low=V.n+1
 bl:(V.c6.fdiv 32).fmod 3=V.bl
 q9:V.bl<3
 side:1-2*(V.c6.fdiv 960).fmod 2=V.side
 B4:V.side=1\/V.side= -1
 ex:(V.c6.fdiv 96).fmod (V.low+1)=V.ex
 Pc:V.ex<=V.low
 en:qf.getD ((V.c6.fdiv 1920).fmod 4).toNat []=V.en
 Ow:∀c∈V.an,-50000<=c/\c<50000
def bH:ad:=(D "law").body
def bg:aH:=(D "law").scope
def LV.full(V:LV):Loc:=[(("script":Str),PV.list (aQ V.sc)),("cells",.list (aQ V.cs)),("size",.int V.n),("home",.int V.az),("other",.int V.other),("chips",.list (aQ V.an)),("low",.int V.low),("blanks",.int V.bl),("side",.int V.side),
 ("extra",.int ((V.ex:Int)+1)),("end",pS V.en),("bases",.list (aQ V.bases)),("told",.list (V.told.map tupI)),("stairs",.list (ap (bX V.n))),("stair",V.oK.pv)]
def LV.L(V:LV)(k:Nat):Loc:=V.full.take k
def LV.H(V:LV)(k:Nat):Loc:=hide [] (V.L k)
def LV.st(V:LV)(k:Nat):St:=⟨V.L k,[],[]⟩
theorem LV.Ok.le{V:LV}(O:V.Ok):3<=V.n/\V.n<=5:=size_le O.n
theorem LV.Ok.fu{V:LV}(O:V.Ok):V.an.length=V.n:=by have :=O.le;unfold LV.an;refine ao (ba ..) ?_;rw[mK,jR];exact iq (show V.n<=6 by lia)
theorem aa4(n:Nat){V:LV}(O:V.Ok):(ev (n+30)).S bg (V.st 2) (au bH 1)=some (.next,V.st 3):=
 (dr (n:=n+29) (x:="size") ⋯ ⋯ (aY (.trans (b:=some (.int (3+(V.c0.fmod 5).fdiv 2))) ⋯ (by rw[O.n0])) rfl)).trans ⋯
theorem aa5(n:Nat){V:LV}(O:V.Ok):(ev (n+30)).S bg (V.st 3) (au bH 2)=some (.next,V.st 6):=by
 have hn:=O.le;have a0:(ev (n+28)).E bg (V.H 3) ((kq (aX (au bH 2))).getD 0 default)=some (.int V.az):=.trans (b:=cQ .Mod (V.c0.fdiv 5) V.n) ⋯ ((mS (by lia)).trans (by rw[O.az]));have a1:(ev (n+28)).E bg (V.H 3) ((kq (aX (au bH 2))).getD 1 default)=some (.int V.other):=by refine .trans (b:=((cQ .Mod V.c6 ((V.n:Int)-1)).bind λy=>bj .Add (.int (V.c0.fdiv 5+1)) y).bind λx=>(some (PV.int V.n)).bind λy=>bj .Mod x y) ⋯ ?_;rw[mS (by lia)];exact(mS (by lia)).trans (by rw[O.other])
 have a2:(ev (n+28)).E bg (V.H 3) ((kq (aX (au bH 2))).getD 2 default)=some (.list (aQ V.an)):=by
  refine(gx (n:=n+27) (q:=(cM ((kq (aX (au bH 2))).getD 2 default)).get!) (it:=.list (aQ ((V.cs.drop 1).take V.n))) (vs:=((V.cs.drop 1).take V.n).map λc=>PV.int (ck c)) ⋯ ⋯ (.trans (b:=jB (aQ V.cs) (some (.int 1)) (some (.int ((V.n:Int)+1)))) ⋯ ?_) rfl ((fV (g:=PV.int) (λc=>[PV.int (ck c)]) _ λc z=>?_).trans (by rw[jc])) ?_).trans ?_
  ·refine(Lj _ 1 (V.n+1) (by show 7<=1000;decide) (by show 1<=7;decide) (by show V.n+1<=7;lia)).trans ?_;rw[Ja];delta aQ;rw[tu,xt]
  ·exact jy (l1:=[(("cell":Str),PV.int c)]) ⋯ ⋯ rfl
  ·rw[ba];exact aD (ta ..) (aD hn.2 (by decide))
  ·delta LV.an aQ;rw[cP];rfl
 exact(kT (n:=n+29) (q:=(kl (au bH 2)).get!) (aE:=V.st 3) (v:=.tup [.int V.az,.int V.other,.list (aQ V.an)]) (l:=V.L 6) ⋯ ⋯ ⋯ ⋯ (aY (v6 (n:=n+28) ⋯ (args_cons ⋯ a0 (args_cons ⋯ a1 (args_cons ⋯ a2 args_nil))) rfl) (by show(true&&(true&&(b_ (aQ V.an)&&true)))=true;rw[show b_ (aQ V.an)=true from jZ _];rfl)) ⋯).trans ⋯
section
variable{V:LV}{n k w:Nat}{sc cs:aH}{A:dQ}{pos:Pos}{r:Rec}{st:St}{a:aw}{P:Prop}{own:al}{fl:bG}{d:FD}{c:Bool}{body:ad}{E:ar->ak}{b:Int}{nm:Str}{ns:af}{it:ar}{M:Model}
theorem act{vs:ab}(hs:Bp e=true)(h:dG (ev n) sc l (kq e)=some vs)(hl:bo vs.length=true):(ev (n+1)).E sc l e=some (.list vs):=
 DD e (rg hs) (λes p h=>by
  show(rp (dG (ev n) sc l es) _)=_;rw[show dG (ev n) sc l es=_ from h];exact aA hl) h
theorem Xt{k:Int}(h:0<=k/\k<4):(if bJ k then b0 [pS [],pS [34],pS [92],pS [34,40,41]] k else .none)=some (pS (qf.getD k.toNat [])):=by
 have :k=0\/k=1\/k=2\/k=3:=by lia
 rcases this with h|h|h|h<;>subst h<;>rfl
theorem aa6(n:Nat)(O:V.Ok):(ev (n+30)).S bg (V.st 6) (au bH 3)=some (.next,V.st 9):=by
 have a0:(ev (n+28)).E bg (V.H 6) ((kq (aX (au bH 3))).getD 0 default)=some (.int V.low):=.trans (b:=some (.int ((V.n:Int)+(V.c6.fdiv 16).fmod 2))) ⋯ (by rw[O.low]);have a1:(ev (n+28)).E bg (V.H 6) ((kq (aX (au bH 3))).getD 1 default)=some (.int V.bl):=.trans (b:=some (.int ((V.c6.fdiv 32).fmod 3))) ⋯ (by rw[O.bl]);have a2:(ev (n+28)).E bg (V.H 6) ((kq (aX (au bH 3))).getD 2 default)=some (.int V.side):=by refine .trans (b:=(cQ .Mult 2 ((V.c6.fdiv 960).fmod 2)).bind λy=>bj .Sub (.int 1) y) ⋯ ?_;have h0:=jQ (V.c6.fdiv 960) (show(0:Int)<2 by decide);have h1:=mJ (V.c6.fdiv 960) (show(0:Int)<2 by decide);rw[lW (by decide) (by omega)];show some (PV.int (1-2*_))=_;rw[O.side]
 exact(kT (n:=n+29) (q:=(kl (au bH 3)).get!) (aE:=V.st 6) (v:=.tup [.int V.low,.int V.bl,.int V.side]) (l:=V.L 9) ⋯ ⋯ ⋯ ⋯ (aY (v6 (n:=n+28) ⋯ (args_cons ⋯ a0 (args_cons ⋯ a1 (args_cons ⋯ a2 args_nil))) rfl) rfl) ⋯).trans ⋯
theorem aa7(n:Nat)(O:V.Ok):(ev (n+30)).S bg (V.st 9) (au bH 4)=some (.next,V.st 11):=by
 have a0:(ev (n+28)).E bg (V.H 9) ((kq (aX (au bH 4))).getD 0 default)=some (.int ((V.ex:Int)+1)):=by refine .trans (b:=(cQ .Mod (V.c6.fdiv 96) ((V.low:Int)+1)).bind λy=>bj .Add (.int 1) y) ⋯ ?_;rw[mS ((W.Z.leB_iff 1 (↑V.low+1)).mp rfl),O.ex];show some (PV.int (1+_))=_;rw[DW]
 have a1:(ev (n+28)).E bg (V.H 9) ((kq (aX (au bH 4))).getD 1 default)=some (pS V.en):=by refine .trans (b:=if bJ ((V.c6.fdiv 1920).fmod 4)then b0 [pS [],pS [34],pS [92],pS [34,40,41]] ((V.c6.fdiv 1920).fmod 4)else .none) ⋯ ?_;refine ao (Xt ⟨jQ _ (by decide),mJ _ (by decide)⟩) ?_;rw[O.en]
 exact(kT (n:=n+29) (q:=(kl (au bH 4)).get!) (aE:=V.st 9) (v:=.tup [.int ((V.ex:Int)+1),pS V.en]) (l:=V.L 11) ⋯ ⋯ ⋯ ⋯ (aY (v6 (n:=n+28) ⋯ (args_cons ⋯ a0 (args_cons ⋯ a1 args_nil)) rfl) rfl) ⋯).trans ⋯
theorem aa8(n:Nat)(O:V.Ok):(ev (n+30)).S bg (V.st 11) (au bH 5)=some (.next,V.st 12):=by
 have hn:=O.le;refine(dr (n:=n+29) (x:="bases") (aE:=V.st 11) (v:=.list (aQ V.bases)) ⋯ ⋯ (aY ?_ (jZ _))).trans ⋯;refine(gx (n:=n+28) (q:=(cM (aX (au bH 5))).get!) ⋯ ⋯ ⋯ (j6 _ (aD hn.2 (by decide))) ((fV (λp=>[PV.int (gN V.n p)]) (aG V.n) λp z=>?_).trans (by rw[jc])) ?_).trans ?_
 ·refine jy (l1:=[(("size":Str),PV.int V.n),("place",.int p)]) ⋯ ((yS (n:=n+27) (v:=.bool ((p:Int).fmod 2==0)) (c:=(p:Int).fmod 2==0) ⋯ ⋯ rfl).trans ?_) rfl;have h:((p:Int).fmod 2==0)=decide (p%2=0):=by
   rw[kH _ (by decide)];by_cases h:p%2=0
   ·rw[bh h,beq_iff_eq];exact Int.natAbs_eq_zero.mp h
   ·rw[cA h,beq_eq_false_iff_ne];exact Int.natAbs_ne_zero.mp h
  rw[h];delta gN;by_cases h:p%2=0
  ·rw[bh h,aA h];kernel_rfl
  ·rw[cA h,aJ h];kernel_rfl
 ·rw[ba,cV];exact aD hn.2 (by decide)
 ·delta LV.bases aQ;rw[cP];rfl
theorem LV.Xu{p:Nat}(hp:p<V.n):V.bases.getD p 0=gN V.n p:=by unfold LV.bases;refine ao dD ?_;rw[i7,Ds hp];rfl
theorem Ls{p:Nat}(hn:3<=n/\n<=5):3<=(gN n p).natAbs/\(gN n p).natAbs<=5:=by
 delta gN;by_cases h:p%2=0
 ·rw[aA h];exact hn
 ·rw[aJ h,agQ];exact hn
theorem LV.Ok.acu(O:V.Ok)(p:Nat): -50000<=V.an.getD p 0/\V.an.getD p 0<50000:=by
 by_cases h:p<V.an.length
 ·rw[dD,gU h];exact O.Ow _ (xj _)
 ·rw[dD,vi (tj h)];exact(by decide :(-50000:Int)<=0/\(0:Int)<50000)
theorem LV.Ok.at2(O:V.Ok){p:Nat}(hp:p<V.n):(if bJ (p:Int)then b0 (aQ V.an) p else .none)=some (.int (V.an.getD p 0))/\(if bJ (p:Int)then b0 (aQ V.bases) p else .none)=some (.int (gN V.n p)):=by
 have hn:=O.le;have hb:V.bases.length=V.n:=by unfold LV.bases;refine ao (ba ..) ?_;rw[cV]
 exact⟨pN (by rw[O.fu];exact hp) (by rw[O.fu];exact aD hn.2 (by decide)),(pN (by rw[hb];exact hp) (by rw[hb];exact aD hn.2 (by decide))).trans (by rw[LV.Xu hp])⟩
theorem aa9(n:Nat)(O:V.Ok):(ev (n+110)).S bg (V.st 12) (au bH 6)=some (.next,V.st 13):=by
 have hn:=O.le;refine(dr (n:=n+109) (x:="told") (aE:=V.st 12) (v:=.list (V.told.map tupI)) ⋯ ⋯ (aY ?_ (Eb _))).trans ⋯;refine(gx (n:=n+108) (q:=(cM (aX (au bH 6))).get!) ⋯ ⋯ ⋯ (j6 _ (aD hn.2 (by decide))) ((fV (λp=>[tupI [V.q p,V.r p]]) (aG V.n) λp hp=>?_).trans (by rw[jc])) ?_).trans ?_
 ·refine oA (O.at2 (bI.mp hp)) λh1 h2=>?_;have hb:=Ls (p:=p) hn;have hc:=O.acu p;refine jy (l1:=[(("chips":Str),PV.list (aQ V.an)),("bases",.list (aQ V.bases)),("place",.int p)]) ⋯ (.trans (b:=((if bJ (p:Int)then b0 (aQ V.an) p else .none).bind λv=>((if bJ (p:Int)then b0 (aQ V.bases) p else .none).bind λv=>some [v]).map λvs=>v::vs).bind λvs=>(ev (n+107)).C "int_divmod" vs []) ⋯ ?_) rfl;rw[h1,h2];exact Oi (n+9) _ _ ⟨aD (by decide) hb.1,hb.2⟩ (by lia)
 ·rw[ba,cV];exact aD hn.2 (by decide)
 ·unfold LV.told;rw[cP];rfl
theorem aa_(n:Nat)(O:V.Ok):(ev (n+30)).S bg (V.st 13) (au bH 7)=some (.next,V.st 13):=by
 have hn:=O.le;have hE:(ev (n+28)).E bg (V.H 13) (dw (aX (au bH 7))).get!.2.2=some (.list (V.told.map tupI)):=by
  refine(gx (n:=n+27) (q:=(cM (dw (aX (au bH 7))).get!.2.2).get!) ⋯ ⋯ ⋯ (j6 _ (aD hn.2 (by decide))) ((fV (λp=>[tupI [V.q p,V.r p]]) (aG V.n) λp hp=>?_).trans (by rw[jc])) ?_).trans ?_
  ·refine oA (O.at2 (bI.mp hp)) λh1 h2=>?_;have hb:=Ls (p:=p) hn;refine jy (l1:=[(("chips":Str),PV.list (aQ V.an)),("bases",.list (aQ V.bases)),("place",.int p)]) ⋯ (.trans (b:=((((if bJ (p:Int)then b0 (aQ V.an) p else .none).bind λx=>(if bJ (p:Int)then b0 (aQ V.bases) p else .none).bind λy=>bj .FloorDiv x y).bind λv=>(((if bJ (p:Int)then b0 (aQ V.an) p else .none).bind λx=>(if bJ (p:Int)then b0 (aQ V.bases) p else .none).bind λy=>bj .Mod x y).bind λv=>some [v]).map λvs=>v::vs).bind λvs=>if bo vs.length then some (PV.tup vs)else .none)) ⋯ ?_) rfl;rw[h1,h2];show(((cQ .FloorDiv (V.an.getD p 0) (gN V.n p)).bind λv=>((cQ .Mod (V.an.getD p 0) (gN V.n p)).bind λv=>some [v]).map λvs=>v::vs).bind λvs=>if bo vs.length then some (PV.tup vs)else .none)=_;rw[show cQ .FloorDiv (V.an.getD p 0) (gN V.n p)=_ from aJ (by lia),show cQ .Mod (V.an.getD p 0) (gN V.n p)=_ from aJ (by lia)];rfl
  ·rw[ba,cV];exact aD hn.2 (by decide)
  ·unfold LV.told;rw[cP];rfl
 have hx:(ev (n+29)).E bg (V.H 13) (aX (au bH 7))=some (.bool false):=f_ ⋯ ⋯ ⋯ hE (aR (mO (!·)) (E9 V.told));exact(cK ⋯ (aY hx rfl) rfl).trans ⋯
theorem tH(n):(bX n).length=n-1:=cV
theorem aa'(n:Nat)(O:V.Ok):(ev (n+30)).S bg (V.st 13) (au bH 8)=some (.next,V.st 14):=by
 have hn:=O.le;refine(dr (n:=n+29) (x:="stairs") (aE:=V.st 13) (v:=.list (ap (bX V.n))) ⋯ ⋯ (aY (.trans (b:=if bJ 0&&bJ ((V.n:Int)-1)&&bo (iO 0 ((V.n:Int)-1) 1).length then some (.list ((iO 0 ((V.n:Int)-1) 1).map .int))else .none) ⋯ ?_) (hH _))).trans ⋯;have hr:iO 0 ((V.n:Int)-1) 1=(bX V.n).map λk:Nat=>(k:Int):=by rw[JZ,show((V.n:Int)-1-0).toNat=V.n-1 by lia];exact lH λk z=>Ao _
 rw[hr,pH (i:=(V.n:Int)-1) (by lia),ba,tH,lo_le (by lia)];unfold ap;rw[cP];rfl
theorem LV.Ok.yX(O:V.Ok):V.low<=6:=O.yW.elim (λe=>aD (ej e) (Jh O.le.2)) λe=>aD (ej e) (lJ O.le.2)
theorem LV.Ok.n1(O:V.Ok):V.n-1<=4:=z0 O.le.2 1
theorem LV.Ok.zI(O:V.Ok):(bX V.n).length<=4/\(∀w∈bX V.n,V.low+w<=30)/\V.bl+(V.ex+1)<=30:=
 ⟨by rw[tH];exact O.n1,λz h=>aD (ir O.yX (aD (cG (bI.mp h)) O.n1)) (by decide),aD (ir (cG O.q9) (lJ (aD O.Pc O.yX))) (by decide)⟩
theorem aba(n:Nat)(O:V.Ok):(ev (n+70)).S bg (V.st 14) (au bH 9)=some (.next,V.st 15):=by
 refine c_ O.zI λh1 h2 h3=>(dr (n:=n+69) (x:="stair") (aE:=V.st 14) (v:=V.oK.pv) ⋯ ⋯ (aY ?_ ?_)).trans ⋯
 ·refine .trans (b:=(((ev (n+67)).C "_law_lead" [.list (ap (bX V.n)),.int V.low,.int ((V.bl:Int)+((V.ex:Int)+1))] []).bind λv=>some [v]).bind λvs=>(ev (n+68)).C "Whitespace" vs []) ?_ ?_
  ·kernel_rfl
  ·rw[show(V.bl:Int)+((V.ex:Int)+1)=((V.bl+(V.ex+1):Nat):Int) from rfl,yd (n+48) _ _ _ (aD h1 (by decide)) (λw h=>aD (h2 w h) (by decide)) (aD h3 (by decide))];exact x6 (n+28) _ _ _ h1 h2 h3
 ·show(true&&(true&&(true&&((b_ (ap _)&&(true&&true))&&(true&&true)))))=true;rw[hH];rfl
end
section
variable{V:LV}
def LV.pl(V:LV)(j:Nat):Nat:=(V.az+(j+1))%V.n
def LV.R(V:LV):aa:=(aG (V.n-1)).map λj=>resT V.an 0 (V.pl j)
def LV.W(V:LV)(t:Nat):aa:=eD V.n t V.R
def LV.ord(V:LV)(t:Nat):aa:=B2 (t%2) (V.W t)
def LV.row(V:LV)(t:Nat):aa:=bP (V.W t)
def LV.kr(V:LV)(t:Nat):aa:=B3 (V.row t)
def LV.lead(V:LV)(t:Nat):WV:=WL (V.W t) V.low V.bl
def LV.six(V:LV)(t:Nat):Loc:=[(("turn":Str),PV.int t),("wishes",.list (ap (V.W t))),("order",.list (ap (V.ord t))),("row",.list (ap (V.row t))),("late",.list (ap (V.kr t))),("lead",(V.lead t).pv)]
structure LA where
 texts:List aa
 found:aa
 qg:aa
 wide:WV
def LV.pi(V:LV)(t:Nat):PV:=.tup [.int t,.list (ap (V.W t)),(V.lead t).pv]
def LV.lp(V:LV)(a:LA)(r:Loc):St:=⟨V.full++([(("texts":Str),PV.list (a.texts.map pS)),("found",.list (a.found.map V.pi)),("worse",.list (ap a.qg)),("wide",a.wide.pv)]++r),["found","texts"],[]⟩
def LV.rk(V:LV)(t k:Nat)(old:Loc):Loc:=(V.six t).take k++old.drop k
def LV.kW(V:LV)(old:Loc):Prop :=old=[]\/∃t,old=V.six t
def C6:Stmt:=au bH 11
def eE(k:Nat):Stmt:=au (bd C6) k
theorem LV.Ok.res(O:V.Ok):Res V.n V.R:=by
 have hn:=O.le;refine⟨by unfold LV.R;refine ao (ba ..) ?_;rw[cV],λx hx=>?_⟩;refine br (eH.mp hx) λj z bb=>?_;subst bb;have :=Bg V.an 0 (V.pl j) (by rw[O.fu];lia)
 rwa [O.fu]at this
theorem LV.Ok.iU(O:V.Ok)(t:Nat):Res V.n (V.W t):=O.res.sh O.n t
theorem LV.Ok.wl(O:V.Ok)(t:Nat):(V.W t).length=V.n-1/\(V.W t).length<=4:=
 ⟨(O.iU t).len,aD (ej (O.iU t).len) O.n1⟩
theorem LV.Ok.fact(O:V.Ok)(t:Nat):V.ord t=Cl (t%2) (V.W t)/\(V.ord t).map (λj=>(V.W t).getD j 0)=V.row t/\((aG (V.W t).length).map λj=>sm (t%2) (V.W t) j).Nodup/\Gz (V.row t)=V.kr t/\(V.kr t).isEmpty=bO (V.row t):=by have h:=rk9 _ O.n _ (O.iU t).mem (t%2) (bI.mpr (mP _ (by decide)));refine oA (acs _ O.n _ (O.iU t).sort.mem (pJ _)) λh4 h5=>?_;unfold Pb at h;refine gg h λh1 h2 h3=>⟨bu h1,bu h2,bu h3,h4,h5⟩
theorem LV.Ok.acv(O:V.Ok)(t p:Nat):(V.r p+t).fmod V.n=((resT V.an 0 p+t)%V.n:Nat):=by
 have hn:=O.le;have h0:(0:Int)<=V.n:=by exact cz V.n
 have h2:=tO V.an 0 p (by rw[O.fu];lia);rw[O.fu,tl,tw,kH _ h0]at h2;refine ao (kH _ h0) ?_;rw[vp,fg,<-h2,Rw];have hd:=xc (V.an.getD p 0) (gN V.n p);unfold LV.r;rw[show(V.an.getD p 0).fmod (gN V.n p)=V.an.getD p 0-gN V.n p*(V.an.getD p 0).fdiv (gN V.n p) by exact RV (V.an.getD p 0) (gN V.n p)];unfold gN;by_cases h:p%2=0
 ·rw[aA h,show V.an.getD p 0-(V.n:Int)*(V.an.getD p 0).fdiv V.n+t=V.an.getD p 0+t+V.n* -(V.an.getD p 0).fdiv V.n by rw[aha];lia,IJ]
 ·rw[aJ h,show V.an.getD p 0- -(V.n:Int)*(V.an.getD p 0).fdiv (-(V.n:Int))+t=V.an.getD p 0+t+V.n*(V.an.getD p 0).fdiv (-(V.n:Int)) by rw[RZ];lia,IJ]
theorem abb(n:Nat)(O:V.Ok)(a:LA)(t:Nat)(ho:V.kW old):(ev (n+30)).S bg (V.lp a (V.rk t 1 old)) (eE 0)=some (.next,V.lp a (V.rk t 2 old)):=by
 have hn:=O.le;refine(dr (n:=n+29) (x:="wishes") (aE:=V.lp a (V.rk t 1 old)) (v:=.list (ap (V.W t))) ⋯ ?_ (aY ?_ (hH _))).trans ?_
 ·rcases ho with h|⟨u,h⟩<;>subst h<;>kernel_rfl
 ·refine(gx (n:=n+28) (q:=(cM (aX (eE 0))).get!) ⋯ ?_ ?_ ((pR 1 V.n (by lia)).trans (by rw[show((V.n:Int)-1).toNat=V.n-1 by lia])) ((fV (λj=>[PV.int (((resT V.an 0 (V.pl j))+t)%V.n:Nat)]) (aG (V.n-1)) λj hj=>?_).trans (by rw[jc])) ?_).trans ?_
  ·rcases ho with h|⟨u,h⟩<;>subst h<;>kernel_rfl
  ·rcases ho with h|⟨u,h⟩<;>subst h<;>kernel_rfl
  ·have ez:free (cM (aX (eE 0))).get!.2.1 (hide ["found","texts"] (V.lp a (V.rk t 1 old)).loc)=[(("size":Str),PV.int V.n),("home",.int V.az),("told",.list (V.told.map tupI)),("turn",.int t)]:=by rcases ho with h|⟨u,h⟩<;>subst h<;>kernel_rfl
   have sK:V.pl j<V.n:=mP _ (by lia);refine .trans (aR (λl=>rp (fz (cM (aX (eE 0))).get!.2.2.target l (.int (1+j))) _) ez) ?_;refine jy (l1:=[(("size":Str),PV.int V.n),("home",.int V.az),("told",.list (V.told.map tupI)),("turn",.int t),("j",.int (1+j))]) ⋯ (.trans (b:=(((((cQ .Mod ((V.az:Int)+(1+j)) V.n).bind fj).bind λk=>if bJ k then b0 (V.told.map tupI) k else .none).bind λv=>GJ v 1).bind λx=>bj .Add x (.int t)).bind λx=>bj .Mod x (.int V.n)) ⋯ ?_) rfl;rw[mS (by lia),show((V.az:Int)+(1+j)).fmod V.n=(V.pl j:Nat) by
    rw[kH _ (cz V.n)];delta LV.pl;rw[vp];congr 1;lia]
   show((((if bJ (V.pl j:Int)then b0 (V.told.map tupI) (V.pl j)else .none).bind λv=>GJ v 1).bind λx=>bj .Add x (.int t)).bind λx=>bj .Mod x (.int V.n))=_;rw[pH (by lia),aA rfl];delta b0;rw[aA (cz (V.pl j)),ip];delta LV.told;rw[i7,i7,Ds sK];refine ao (mS (by lia)) ?_;rw[O.acv]
  ·rw[ba,cV];exact aD (i_ ..) (aD hn.2 (by decide))
  ·delta LV.W LV.R eD ap;rw[cP,cP];rfl
 ·rcases ho with h|⟨u,h⟩<;>subst h<;>kernel_rfl
end
section
variable{V:LV}{n k w:Nat}{sc cs:aH}{A:dQ}{pos:Pos}{r:Rec}{st:St}{a:aw}{P:Prop}{own:al}{fl:bG}{d:FD}{c:Bool}{body:ad}{E:ar->ak}{b:Int}{nm:Str}{ns:af}{it:ar}{M:Model}
theorem LV.Ok.vd(O:V.Ok)(t:Nat):∀w∈V.W t,w<5:=λw h=>cZ ((O.iU t).lt w h) O.le.2
theorem Fb{vs:aa}(h:k<vs.length)(h2:vs.length<=4):(if bJ (k:Int)then b0 (ap vs) k else .none)=some (.int (vs.getD k 0)):=by rw[show bJ (k:Int)=true from pH (by lia),aA rfl,Be h,dD,gU h];rfl
theorem abc(n:Nat)(O:V.Ok)(a:LA)(t:Nat)(ho:V.kW old):(ev (n+50)).S bg (V.lp a (V.rk t 2 old)) (eE 1)=some (.next,V.lp a (V.rk t 3 old)):=by
 have qS:(V.W t).length<=7:=aD (O.wl t).2 (by decide);have hE:(ev (n+49)).E bg (hide ["found","texts"] (V.lp a (V.rk t 2 old)).loc) (aX (eE 1))=some (.list (ap (V.ord t))):=by
  have key:∀f,(ev (n+48)).E bg (hide ["found","texts"] (V.lp a (V.rk t 2 old)).loc) ((bK (aX (eE 1))).get!.2.2.1.getD 1 default)=some (.fn f)->(ev (n+48)).C "_law_laid" [.list (ap (V.W t)),.fn f] []=some (.list (ap (V.ord t)))->(ev (n+49)).E bg (hide ["found","texts"] (V.lp a (V.rk t 2 old)).loc) (aX (eE 1))=some (.list (ap (V.ord t))):=λf h1 h2=>by
   refine(fk (n:=n+48) (f:=.fn "_law_laid") (kw:=[]) (vs:=[.list (ap (V.W t)),.fn f]) (q:=(bK (aX (eE 1))).get!) ⋯ ?_ ?_ ?_ ⋯).trans (.trans (b:=(ev (n+48)).C "_law_laid" [.list (ap (V.W t)),.fn f] []) ⋯ h2)
   ·rcases ho with h|⟨u,h⟩<;>subst h<;>kernel_rfl
   ·rcases ho with h|⟨u,h⟩<;>subst h<;>kernel_rfl
   ·refine args_cons ⋯ ?_ (args_cons ⋯ h1 args_nil);rcases ho with h|⟨u,h⟩<;>subst h<;>kernel_rfl
  have hc:((t:Int).fmod 2==0)= !decide (t%2=1):=by
   rw[kH _ (by decide)];by_cases h:t%2=1
   ·rw[bh h,DM,beq_eq_false_iff_ne];lia
   ·rw[cA h,RO,beq_iff_eq];lia
  have hi:=yS (n:=n+47) (sc:=bg) (l:=hide ["found","texts"] (V.lp a (V.rk t 2 old)).loc) (e:=(bK (aX (eE 1))).get!.2.2.1.getD 1 default) (v:=.int ((t:Int).fmod 2)) ⋯ (by rcases ho with h|⟨u,h⟩<;>subst h<;>kernel_rfl) rfl;rw[hc,Bool.not_not]at hi;delta LV.ord B2 at key⊢;by_cases h:t%2=1
  ·rw[aA h]at key⊢;rw[bh h]at hi;refine key "insort_left" (hi.trans ?_) (W3 (n+8) _ qS);rcases ho with h|⟨u,h⟩<;>subst h<;>kernel_rfl
  ·rw[aJ h]at key⊢;rw[cA h]at hi;refine key "insort_right" (hi.trans ?_) (W2 (n+8) _ qS);rcases ho with h|⟨u,h⟩<;>subst h<;>kernel_rfl
 refine(dr (n:=n+49) (x:="order") (aE:=V.lp a (V.rk t 2 old)) ⋯ ?_ (aY hE (hH _))).trans ?_
 ·rcases ho with h|⟨u,h⟩<;>subst h<;>kernel_rfl
 ·rcases ho with h|⟨u,h⟩<;>subst h<;>kernel_rfl
theorem LV.Ok.abd(O:V.Ok)(t:Nat):(∀j∈V.ord t,j<(V.W t).length)/\(V.ord t).length=(V.W t).length:=by rw[(O.fact t).1];unfold Cl;refine⟨λj hj=>?_,by refine ao (ba ..) ?_;rw[KC,ba,cV]⟩;obtain⟨p,hp,rfl⟩:=eH.mp hj;refine br (eH.mp (KD hp)) λi hi bb=>?_;subst bb;exact bI.mp hi
theorem abe(n:Nat)(O:V.Ok)(a:LA)(t:Nat)(ho:V.kW old):(ev (n+30)).S bg (V.lp a (V.rk t 3 old)) (eE 2)=some (.next,V.lp a (V.rk t 4 old)):=by
 have hw:=(O.wl t).2;refine oA (O.abd t) λh1 h2=>(dr (n:=n+29) (x:="row") (aE:=V.lp a (V.rk t 3 old)) (v:=.list (ap (V.row t))) ⋯ ?_ (aY ?_ (hH _))).trans ?_
 ·rcases ho with h|⟨u,h⟩<;>subst h<;>kernel_rfl
 ·refine(gx (n:=n+28) (q:=(cM (aX (eE 2))).get!) (it:=.list (ap (V.ord t))) ⋯ ?_ ?_ rfl ((fV (g:=λj:Nat=>PV.int j) (λj=>[PV.int ((V.W t).getD j 0:Nat)]) (V.ord t) λj hj=>?_).trans (by rw[jc])) ?_).trans ?_
  ·rcases ho with h|⟨u,h⟩<;>subst h<;>kernel_rfl
  ·rcases ho with h|⟨u,h⟩<;>subst h<;>kernel_rfl
  ·have ez:free (cM (aX (eE 2))).get!.2.1 (hide ["found","texts"] (V.lp a (V.rk t 3 old)).loc)=[(("wishes":Str),PV.list (ap (V.W t)))]:=by rcases ho with h|⟨u,h⟩<;>subst h<;>kernel_rfl
   refine .trans (aR (λl=>rp (fz (cM (aX (eE 2))).get!.2.2.target l (.int (j:Nat))) _) ez) ?_;exact jy (l1:=[(("wishes":Str),PV.list (ap (V.W t))),("j",.int j)]) ⋯ (.trans ⋯ (Fb (h1 j hj) hw)) rfl
  ·rw[ba,h2];exact aD hw (by decide)
  ·rw[<-(O.fact t).2.1];unfold ap;rw[cP];rfl
 ·rcases ho with h|⟨u,h⟩<;>subst h<;>kernel_rfl
theorem LV.Ok.wv(O:V.Ok)(t:Nat):(V.row t).length=V.n-1/\(V.row t).length<=4:=by have :=(O.iU t).sort.len;have :=O.le;exact⟨(O.iU t).sort.len,by unfold LV.row;lia⟩
theorem abf(n:Nat)(O:V.Ok)(a:LA)(t:Nat)(ho:V.kW old):(ev (n+30)).S bg (V.lp a (V.rk t 4 old)) (eE 3)=some (.next,V.lp a (V.rk t 5 old)):=by
 refine oA (O.wv t) λh1 h2=>(dr (n:=n+29) (x:="late") (aE:=V.lp a (V.rk t 4 old)) (v:=.list (ap (V.kr t))) ⋯ ?_ (aY ?_ (hH _))).trans ?_
 ·rcases ho with h|⟨u,h⟩<;>subst h<;>kernel_rfl
 ·refine(gx (n:=n+28) (q:=(cM (aX (eE 3))).get!) (it:=.list (ap (bX V.n))) (vs:=(V.kr t).map λj:Nat=>PV.int j) ⋯ ?_ ?_ rfl ((fV (g:=λj:Nat=>PV.int j) (λj=>if decide (j<(V.row t).getD j 0)=true then[PV.int j]else[]) (bX V.n) λj hj=>?_).trans (by rw[tG];delta LV.kr B3 bX;rw[h1])) ?_).trans rfl
  ·rcases ho with h|⟨u,h⟩<;>subst h<;>kernel_rfl
  ·rcases ho with h|⟨u,h⟩<;>subst h<;>kernel_rfl
  ·have hj:=bI.mp hj;have ez:free (cM (aX (eE 3))).get!.2.1 (hide ["found","texts"] (V.lp a (V.rk t 4 old)).loc)=[(("row":Str),PV.list (ap (V.row t)))]:=by rcases ho with h|⟨u,h⟩<;>subst h<;>kernel_rfl
   refine .trans (aR (λl=>rp (fz (cM (aX (eE 3))).get!.2.2.target l (.int (j:Nat))) _) ez) ?_;refine tZ (l1:=[(("row":Str),PV.list (ap (V.row t))),("spot",.int j)]) (w:=.bool (decide (j<(V.row t).getD j 0))) ⋯ (.trans (b:=(if bJ (j:Int)then b0 (ap (V.row t)) j else .none).bind λx=>(fU .Gt x (.int j)).map .bool) ⋯ ?_) rfl (λz=>⋯) rfl;rw[Fb (by rw[h1];exact hj) h2];show some (PV.bool (decide ((j:Int)<((V.row t).getD j 0:Nat))))=_;congr 2;exact decide_eq_decide.mpr gI
  ·rw[ba];exact aD (sY ..) (by rw[cV];exact aD h2 (by decide))
 ·rcases ho with h|⟨u,h⟩<;>subst h<;>kernel_rfl
theorem rW(w:WV):dS w.pv=true:=by show(true&&(true&&(true&&((b_ (ap _)&&(true&&true))&&(true&&true)))))=true;rw[hH];rfl
theorem LV.Ok.Cm(O:V.Ok)(t:Nat):(∀w∈V.W t,V.low+w<=30)/\V.bl<=30:=
 ⟨λw h=>aD (ir O.yX (cG (O.vd t w h))) (by decide),aD (cG O.q9) (by decide)⟩
theorem abg(n:Nat)(O:V.Ok)(a:LA)(t:Nat)(ho:V.kW old):(ev (n+70)).S bg (V.lp a (V.rk t 5 old)) (eE 4)=some (.next,V.lp a (V.rk t 6 old)):=by
 refine oA (O.Cm t) λh2 h3=>?_;have h1:=(O.wl t).2;refine(dr (n:=n+69) (x:="lead") (aE:=V.lp a (V.rk t 5 old)) (v:=(V.lead t).pv) ⋯ ?_ (aY (.trans (b:=(((ev (n+67)).C "_law_lead" [.list (ap (V.W t)),.int V.low,.int V.bl] []).bind λv=>some [v]).bind λvs=>(ev (n+68)).C "Whitespace" vs []) ?_ ?_) (rW _))).trans ?_
 ·rcases ho with h|⟨u,h⟩<;>subst h<;>kernel_rfl
 ·rcases ho with h|⟨u,h⟩<;>subst h<;>kernel_rfl
 ·rw[yd (n+48) _ _ _ (aD h1 (by decide)) (λw h=>aD (h2 w h) (by decide)) (aD h3 (by decide))];exact x6 (n+28) _ _ _ h1 h2 h3
 ·rcases ho with h|⟨u,h⟩<;>subst h<;>kernel_rfl
theorem UN{lt:β->β->Bool}{f:α->β}{x:α}:∀{l:List α},cX lt (f x) (l.map f)=(cX (λa b=>lt (f a) (f b)) x l).map f:=by
 intro l;induction l with
 |nil=>exact rfl
 |cons y r ih=>
  rw[cO,cX,cX];by_cases h:lt (f y) (f x)=true
  ·refine ao (aA h) ?_;rw[aA h,cO,ih]
  ·refine ao (aJ h) ?_;rw[aJ h];rfl
theorem Ty{lt:β->β->Bool}{f:α->β}:∀{l:List α},dE lt (l.map f)=(dE (λa b=>lt (f a) (f b)) l).map f:=by
 intro l;induction l with
 |nil=>exact rfl
 |cons x r ih=>rw[cO,dE,dE,ih,UN]
def orOf(e:Expr):Option (Expr×Expr×Expr):=BD e (λop es z=>match op with
 | .Or=>(jf es).bind λa=>(jf a.2).bind λb=>(one b.2).map λc=>(a.1,b.1,c)
 | .And=>.none) .none
theorem Pd{q:Expr×Expr×Expr}{b:Bool}(hs:orOf e=some q)(h1:(ev (n+2)).E sc l q.1=some (.bool false))(h2:(ev (n+1)).E sc l q.2.1=some (.bool false))(h3:(ev n).E sc l q.2.2=some (.bool b)):(ev (n+3)).E sc l e=some (.bool b):=by
 refine Fg hs (λop es p hs=>?_) aK
 ·induction op with
  |Or=>refine aF hs λa e1 hs=>aF hs λc e2 hs=>cj hs λd e3 hs=>?_;subst hs;rw[gZ e1,gZ e2,fH e3];show((ev (n+2)).E sc l a.1).bind (BL (ev (n+2)) sc l .Or p [c.1,d])=_;rw[h1];show((ev (n+1)).E sc l c.1).bind (BL (ev (n+1)) sc l .Or p [d])=_;rw[h2];show((ev n).E sc l d).bind (BL (ev n) sc l .Or p [])=_;rw[h3];rfl
  |And=>exact aK hs
def o5:Expr×Expr×Expr:=(orOf (aX (eE 5))).get!
def FM:Expr:=(dw o5.1).get!.2.2
def qh:Expr:=(bK FM).get!.2.2.2.head!.value
def LV.cJ(V:LV)(t:Nat):Loc:=[(("turn":Str),PV.int t),("wishes",.list (ap (V.W t)))]
def LV.lam(V:LV)(t:Nat):PV:=.lam (oZ qh) (o3 qh) (o4 qh) (V.cJ t)
theorem Xv(n:Nat)(O:V.Ok)(t j:Nat)(hj:j<V.n-1):j5 (ev (n+10)) (oZ qh) (o3 qh) (o4 qh) (V.cJ t) [.int j]=some (tupI (sm (t%2) (V.W t) j)):=by
 have hn:=O.le;refine oA (O.wl t) λh1 h2=>.trans (b:=(((if bJ (j:Int)then b0 (ap (V.W t)) j else .none).bind λv=>(((((cQ .Mult 2 (j:Int)).bind λx=>bj .Mult x (.int ((t:Int).fmod 2))).bind λy=>bj .Sub (.int j) y)).bind λv=>some [v]).map λvs=>v::vs).bind λvs=>if bo vs.length then some (PV.tup vs)else .none)) ⋯ ?_;have ht:(t:Int).fmod 2=((t%2:Nat):Int):=by rw[kH _ (by decide)];rfl
 have wG:=mP t (show 0<2 by decide);rw[Fb (by rw[h1];exact hj) h2,lW (by decide) (by lia),ht];show((((cQ .Mult (2*(j:Int)) (t%2:Nat)).bind λy=>bj .Sub (.int j) y).bind λv=>some [v]).map λvs=>PV.int ((V.W t).getD j 0:Nat)::vs).bind (λvs=>if bo vs.length then some (PV.tup vs)else .none)=_;rw[lW (by lia) (by lia)];rfl
theorem Xw{f:PV->ag}{k:Nat->ac}:(js:aa)->(∀j∈js,f (.int j)=some (tupI (k j)))->qi f (ap js)=some (js.map λj:Nat=>(k j,PV.int j)):=by
 intro js;induction js with
 |nil=>exact λz=>rfl
 |cons j js ih=>intro h;show((f (.int j)).bind λx=>(EP x).bind λq=>(qi f (ap js)).map λr=>(q,PV.int j)::r)=_;rw[h j (ch ..),ih λx hx=>h x (cf _ hx)];show((intsOf ((k j).map .int)).bind λq=>some ((q,PV.int j)::_))=_;rw[vB];rfl
theorem V6(O:V.Ok)(t:Nat):xM ((bX V.n).map λj:Nat=>(sm (t%2) (V.W t) j,PV.int j))=some (.list (ap (V.ord t))):=by have hn:=O.le;refine oA (O.wl t) λh1 h2=>v_ (O.fact t) λe1 z e3 z=>?_;delta xM;rw[ba,tH,bh (Dn hn.1:2<=V.n-1),bh (O.n1),cP,show((bX V.n).map λj:Nat=>(sm (t%2) (V.W t) j,PV.int j)).all (λq=>q.1.length==2)=true from cF.mpr λq hq=>by refine br (eH.mp hq) λj z bb=>?_;subst bb;rfl,bh (show((bX V.n).map _).Nodup by rw[h1]at e3;exact e3),aA (show(true&&true&&true&&true)=true from rfl),e1];delta Cl ap;rw[h1,cP];have :=Ty (lt:=λx y:ac×PV=>lexLt x.1 y.1) (f:=λp:ac×Nat=>(p.1,PV.int p.2)) (l:=(aG (V.n-1)).map λj=>(sm (t%2) (V.W t) j,j));rw[cP]at this;exact aR (λl:List (ac×PV)=>some (PV.list (l.map (·.2)))) this|>.trans (by rw[cP])
def Cn:Expr:=(dw o5.2.1).get!.1
def LV.HX(V:LV)(a:LA)(t:Nat)(old:Loc):Loc:=hide ["found","texts"] (V.lp a (V.rk t 6 old)).loc
theorem abh(n:Nat)(O:V.Ok)(a:LA)(t:Nat)(ho:V.kW old):(ev (n+20)).E bg (V.HX a t old) o5.1=some (.bool false):=by
 have hs:(ev (n+19)).E bg (V.HX a t old) FM=some (.list (ap (V.ord t))):=by
  refine(fk (n:=n+18) (f:=.blt "sorted") (kw:=[(("key":Str),V.lam t)]) (vs:=[.list (ap (bX V.n))]) (q:=(bK FM).get!) ⋯ ?_ ?_ ?_ ?_).trans ?_
  ·rcases ho with h|⟨u,h⟩<;>subst h<;>kernel_rfl
  ·rcases ho with h|⟨u,h⟩<;>subst h<;>kernel_rfl
  ·rcases ho with h|⟨u,h⟩<;>subst h<;>kernel_rfl
  ·rcases ho with h|⟨u,h⟩<;>subst h<;>kernel_rfl
  ·refine .trans (b:=(qi (λv=>j5 (ev (n+18)) (oZ qh) (o3 qh) (o4 qh) (V.cJ t) [v]) (ap (bX V.n))).bind xM) ⋯ ?_;rw[Xw (k:=sm (t%2) (V.W t)) (bX V.n) λj hj=>Xv (n+8) O t j (bI.mp hj)];exact V6 O t
 have h:=f_ (n:=n+19) (sc:=bg) (l:=V.HX a t old) (e:=o5.1) ⋯ ⋯ (by rcases ho with h|⟨u,h⟩<;>subst h<;>kernel_rfl) hs (aR (mO (!·)) (tN (V.ord t) (V.ord t)));rw[bh rfl]at h;exact h
theorem abi(n:Nat)(O:V.Ok)(a:LA)(t:Nat)(ho:V.kW old):(ev (n+40)).E bg (V.HX a t old) o5.2.1=some (.bool false):=by
 have hn:=O.le;refine oA (O.wv t) λh1 h2=>?_;have hv:(ev (n+39)).E bg (V.HX a t old) Cn=some (.list (ap (V.kr t))):=by
  refine(gx (n:=n+38) (q:=(cM Cn).get!) (it:=.list (ap (bX V.n))) (vs:=(V.kr t).map λj:Nat=>PV.int j) ⋯ ?_ ?_ rfl ((fV (g:=λj:Nat=>PV.int j) (λj=>if(dz (λm=> !decide (j<(V.row t).getD m 0)) 3 j (V.row t).length==j)=true then[PV.int j]else[]) (bX V.n) λj hj=>?_).trans (by rw[tG,<-(O.fact t).2.2.2.1];delta Gz bX;rw[h1])) ?_).trans rfl
  ·rcases ho with h|⟨u,h⟩<;>subst h<;>kernel_rfl
  ·rcases ho with h|⟨u,h⟩<;>subst h<;>kernel_rfl
  ·have hj:=bI.mp hj;have ez:free (cM Cn).get!.2.1 (V.HX a t old)=[(("row":Str),PV.list (ap (V.row t)))]:=by rcases ho with h|⟨u,h⟩<;>subst h<;>kernel_rfl
   refine .trans (aR (λl=>rp (fz (cM Cn).get!.2.2.target l (.int (j:Nat))) _) ez) ?_;refine tZ (l1:=[(("row":Str),PV.list (ap (V.row t))),("spot",.int j)]) (w:=.bool (dz (λm=> !decide (j<(V.row t).getD m 0)) 3 j (V.row t).length==j)) ⋯ (.trans (b:=(sI (n+35) (D "bisect_right") (.list (ap (V.row t))) (.int j) .none j .none).bind λx=>(fU .Eq x (.int j)).map .bool) ⋯ ?_) rfl (λz=>⋯) rfl;rw[show sI (n+35) (D "bisect_right") (.list (ap (V.row t))) (.int j) .none j .none=_ from Nk 3 (n+12) (V.row t) j j (V.row t).length .none (aD h2 (by decide)) (.inr ⟨rfl,rfl⟩) (by lia) (by lia) (eI _)];show some (PV.bool (((dz _ 3 j _:Nat):Int)==(j:Int)))=_;rw[E_]
  ·rw[ba];exact aD (sY ..) (by rw[cV];exact aD h2 (by decide))
 have h:=f_ (n:=n+39) (sc:=bg) (l:=V.HX a t old) (e:=o5.2.1) ⋯ ⋯ hv (by rcases ho with h|⟨u,h⟩<;>subst h<;>kernel_rfl) (aR (mO (!·)) (tN (V.kr t) (V.kr t)));rw[bh rfl]at h;exact h
theorem LV.Ok.empty(O:V.Ok)(t:Nat):decide (V.kr t=[])=bO (V.row t):=by
 rw[<-(O.fact t).2.2.2.2];induction V.kr t with
 |nil=>rfl
 |cons a b=>refine ao (cA (by intro h;cases h)) ?_;rfl
theorem LV.Ok.Ho(O:V.Ok):V.oK.ok:=by refine c_ O.zI λh1 h2 h3=>?_;have :=O.le;exact Gy (by rw[tH];lia) h1 h2 h3
theorem LV.Ok.Co(O:V.Ok)(t:Nat):(V.lead t).ok:=by refine oA (O.Cm t) λh1 h2=>?_;have :=O.le;exact Gy (by rw[(O.wl t).1];lia) (O.wl t).2 h1 h2
theorem abj(n:Nat)(O:V.Ok)(a:LA)(t:Nat)(ho:V.kW old):(ev (n+50)).E bg (V.HX a t old) o5.2.2=some (.bool false):=by
 have h1:(ev (n+49)).E bg (V.HX a t old) (dw o5.2.2).get!.1=some (.bool (bO (V.row t))):=by refine .trans (b:=(ev (n+48)).C "Whitespace.less" [(V.lead t).pv,V.oK.pv] []) (by rcases ho with h|⟨u,h⟩<;>subst h<;>kernel_rfl) ?_;refine ao (BV (n+11) _ _ (O.Co t) O.Ho ..) ?_;exact aR (λb=>some (PV.bool b)) (UL O.n (O.iU t) O.yW O.q9 O.Pc)
 have h2:(ev (n+49)).E bg (V.HX a t old) (dw o5.2.2).get!.2.2=some (.bool (bO (V.row t))):=by
  refine(f_ (n:=n+48) (q:=(dw (dw o5.2.2).get!.2.2).get!) ⋯ ⋯ ?_ ?_ (tN (V.kr t) [])).trans (by rw[O.empty])
  ·rcases ho with h|⟨u,h⟩<;>subst h<;>kernel_rfl
  ·rcases ho with h|⟨u,h⟩<;>subst h<;>kernel_rfl
 refine f_ ⋯ ⋯ h1 h2 ?_;show some (!(bO (V.row t)==bO (V.row t)))=_;rw[beq_self_eq_true];rfl
theorem abk(n:Nat)(O:V.Ok)(a:LA)(t:Nat)(ho:V.kW old):(ev (n+60)).S bg (V.lp a (V.rk t 6 old)) (eE 5)=some (.next,V.lp a (V.rk t 6 old)):=by have hE:(ev (n+59)).E bg (V.HX a t old) (aX (eE 5))=some (.bool false):=Pd ⋯ (abh (n+38) O a t ho) (abi (n+17) O a t ho) (abj (n+6) O a t ho);refine(cK ⋯ (aY hE rfl) rfl).trans ?_;rcases ho with h|⟨u,h⟩<;>subst h<;>kernel_rfl
end
section
variable{V:LV}
def LV.text(V:LV)(t:Nat):aa:=(j9 (V.W t) V.c6).flatten++V.en
def LV.step(V:LV)(a:LA)(t:Nat):LA:=if bO (V.row t)=true then⟨a.texts++[V.text t],a.found++[t],a.qg,a.wide⟩else⟨a.texts++[V.text t],a.found,V.W t,V.lead t⟩
theorem LV.Ok.C7(O:V.Ok):V.en∈qf:=by
 rw[<-O.en];have h0:=jQ (V.c6.fdiv 1920) (show(0:Int)<4 by decide);have h1:=mJ (V.c6.fdiv 1920) (show(0:Int)<4 by decide);have :∀k∈aG 4,qf.getD k []∈qf:=by decide
 exact this _ (bI.mpr ((xx h0).mpr h1))
theorem Lu:∀e∈qf,e.length<=3:=by decide
theorem LV.Ok.C8(O:V.Ok)(t:Nat):(j9 (V.W t) V.c6).flatten.length<=160:=by refine oA (Kg O.n (O.iU t) V.c6) λh1 h2=>aD (vH h2) (s_ 4 h1)
theorem Lv{l:aa}(e){ls:List aa}(hl:ls.flatten=l)(h1:l.length<=160)(h2:e.length<=3):((((some (PV.list (ls.map pS))).bind λv=>some [v]).bind λvs=>pW (.str (dN [])) vs).bind λx=>bj .Add x (pS e))=some (pS (l++e)):=by show((pW (.str (dN [])) [.list (ls.map pS)]).bind λx=>bj .Add x (pS e))=_;rw[Bf ls (by rw[hl];exact aD h1 (by decide)),hl];exact add_str (aD (ir h1 h2) (by decide))
theorem abl(n:Nat)(O:V.Ok)(a:LA)(t:Nat)(ho:V.kW old)(hk:a.texts.length<=1000):(ev (n+50)).S bg (V.lp a (V.rk t 6 old)) (eE 6)=some (.next,V.lp ⟨a.texts++[V.text t],a.found,a.qg,a.wide⟩ (V.rk t 6 old)):=by
 have qU:(a.texts.map pS).length=a.texts.length:=ba ..;refine(ui (n:=n+49) (e:=(oJ (aX (eE 6))).head!) (x:="texts") (vs:=a.texts.map pS) (v:=pS (V.text t)) ?_ (aY (.trans (b:=((((ev (n+46)).C "_law_units" [.list (ap (V.W t)),.int V.c6] []).bind λv=>some [v]).bind λvs=>pW (.str (dN [])) vs).bind λx=>bj .Add x (pS V.en)) ?_ ?_) rfl) ⋯ (by rw[qU];exact aD hk (by decide))).trans ?_
 ·rcases ho with h|⟨u,h⟩<;>subst h<;>kernel_rfl
 ·rcases ho with h|⟨u,h⟩<;>subst h<;>kernel_rfl
 ·rw[Gu (n+26) _ _ (aD (O.wl t).2 (by decide))];exact Lv V.en rfl (O.C8 t) (Lu _ O.C7)
 ·rw[show a.texts.map pS++[pS (V.text t)]=(a.texts++[V.text t]).map pS by rw[ei];rfl];rcases ho with h|⟨u,h⟩<;>subst h<;>kernel_rfl
theorem NB(t):dS (V.pi t)=true:=by show(true&&(b_ (ap _)&&(dS (V.lead t).pv&&true)))=true;rw[hH,rW];rfl
theorem abm(n:Nat)(O:V.Ok)(a:LA)(t:Nat)(ho:V.kW old)(hk:a.found.length<=1000):(ev (n+30)).S bg (V.lp a (V.rk t 6 old)) (eE 7)=some (.next,V.lp (if bO (V.row t)=true then⟨a.texts,a.found++[t],a.qg,a.wide⟩else⟨a.texts,a.found,V.W t,V.lead t⟩) (V.rk t 6 old)):=by
 have hE:(ev (n+29)).E bg (V.HX a t old) (aX (eE 7))=some (.bool (bO (V.row t))):=by
  refine(f_ (n:=n+28) (q:=(dw (aX (eE 7))).get!) ⋯ ⋯ ?_ ?_ (tN (V.kr t) [])).trans (by rw[O.empty])
  ·rcases ho with h|⟨u,h⟩<;>subst h<;>kernel_rfl
  ·rcases ho with h|⟨u,h⟩<;>subst h<;>kernel_rfl
 refine(cK ⋯ (aY hE rfl) rfl).trans ?_;induction bO (V.row t)with
 |true=>
  have qU:(a.found.map V.pi).length=a.found.length:=ba ..;rw[aA rfl,aA rfl];refine(bf (n:=n+28) (b:=dW (eE 7)) (aE:=V.lp ⟨a.texts,a.found++[t],a.qg,a.wide⟩ (V.rk t 6 old)) 0 ⋯ ?_).trans ⋯;refine(ui (n:=n+27) (e:=(oJ (aX (au (dW (eE 7)) 0))).head!) (x:="found") (vs:=a.found.map V.pi) (v:=V.pi t) ?_ (aY ?_ (NB t)) ⋯ (by rw[qU];exact aD hk (by decide))).trans ?_
  ·rcases ho with h|⟨u,h⟩<;>subst h<;>kernel_rfl
  ·rcases ho with h|⟨u,h⟩<;>subst h<;>kernel_rfl
  ·rw[show a.found.map V.pi++[V.pi t]=(a.found++[t]).map V.pi by rw[ei];rfl];rcases ho with h|⟨u,h⟩<;>subst h<;>kernel_rfl
 |false=>
  rw[aJ (by decide),aJ (by decide)];refine(bf (n:=n+28) (b:=fD (eE 7)) (aE:=V.lp ⟨a.texts,a.found,V.W t,V.lead t⟩ (V.rk t 6 old)) 0 ⋯ ?_).trans ⋯;refine(kT (n:=n+27) (q:=(kl (au (fD (eE 7)) 0)).get!) (aE:=V.lp a (V.rk t 6 old)) (v:=.tup [.list (ap (V.W t)),(V.lead t).pv]) (l:=(V.lp ⟨a.texts,a.found,V.W t,V.lead t⟩ (V.rk t 6 old)).loc) ⋯ ?_ ⋯ ⋯ (aY ?_ ?_) ?_).trans ?_
  ·rcases ho with h|⟨u,h⟩<;>subst h<;>kernel_rfl
  ·rcases ho with h|⟨u,h⟩<;>subst h<;>kernel_rfl
  ·show(b_ (ap _)&&(dS (V.lead t).pv&&true))=true;rw[hH,rW];rfl
  ·rcases ho with h|⟨u,h⟩<;>subst h<;>kernel_rfl
  ·rcases ho with h|⟨u,h⟩<;>subst h<;>kernel_rfl
theorem Xx(n:Nat)(O:V.Ok)(a:LA)(t:Nat)(ho:V.kW old)(hk:a.texts.length<=1000/\a.found.length<=1000):eN (ev (n+80)) bg (dH C6) (bd C6) (.int t) (V.lp a old)=some (.next,V.lp (V.step a t) (V.six t)):=by
 refine .trans (b:=(ev (n+80)).B bg (V.lp a (V.rk t 1 old)) ((bd C6).drop 0)) ?_ ?_
 ·rcases ho with h|⟨u,h⟩<;>subst h<;>kernel_rfl
 ·refine ao (bf 0 ⋯ (abb (n+49) O a t ho)) ?_;rw[bf 1 ⋯ (abc (n+28) O a t ho),bf 2 ⋯ (abe (n+47) O a t ho),bf 3 ⋯ (abf (n+46) O a t ho),bf 4 ⋯ (abg (n+5) O a t ho),bf 5 ⋯ (abk (n+14) O a t ho),bf 6 ⋯ (abl (n+23) O a t ho hk.1),bf 7 ⋯ (abm (n+42) O ⟨a.texts++[V.text t],a.found,a.qg,a.wide⟩ t ho hk.2)];unfold LV.step;have h6:V.rk t 6 old=V.six t:=by rcases ho with h|⟨u,h⟩<;>subst h<;>rfl
  rw[h6];cases bO (V.row t)<;>rfl
theorem LV.fold(V:LV):(ts:aa)->(a:LA)->(ts.foldl V.step a).texts=a.texts++ts.map V.text/\(ts.foldl V.step a).found=a.found++ts.filter (λt=>bO (V.row t))/\((ts.foldl V.step a).qg=a.qg/\(ts.foldl V.step a).wide=a.wide/\(∀t∈ts,bO (V.row t)=true)\/∃t∈ts,(ts.foldl V.step a).qg=V.W t/\(ts.foldl V.step a).wide=V.lead t)
 |[],a=>⟨(gW _).symm,(gW _).symm,.inl ⟨rfl,rfl,λz h=>(nomatch h)⟩⟩
 |t::ts,a=>by
  refine c_ (V.fold ts (V.step a t)) λh1 h2 h3=>?_;rw[to,h1,h2,pA,cO];have ht:(V.step a t).texts=a.texts++[V.text t]:=by unfold LV.step;cases bO (V.row t)<;>rfl
  rw[ht,gE];unfold LV.step at h3⊢;induction hp:bO (V.row t)with
  |true=>
   rw[hp,aA rfl]at h3;refine⟨rfl,by rw[aA rfl,aA rfl,gE];rfl,?_⟩;rcases h3 with⟨h4,h5,h6⟩|⟨u,hu,h4⟩
   ·exact .inl ⟨h4,h5,λx hx=>by
     rcases cc.mp hx with h|h
     ·rw[h,hp]
     ·exact h6 x h⟩
   ·exact .inr ⟨u,cf _ hu,h4⟩
  |false=>
   rw[hp,aJ (by decide)]at h3;refine⟨rfl,by rw[aJ (by decide),aJ (by decide)],?_⟩;rcases h3 with⟨h4,h5,_⟩|⟨u,hu,h4⟩
   ·exact .inr ⟨t,ch ..,h4,h5⟩
   ·exact .inr ⟨u,cf _ hu,h4⟩
def LV.a0(V:LV):LA:=⟨[],[],[],V.oK⟩
theorem Y9(n:Nat)(V:LV):(ev (n+30)).S bg (V.st 15) (au bH 10)=some (.next,V.lp V.a0 []):=
 .trans (b:=if dS V.oK.pv=true then some (.next,V.lp V.a0 [])else .none) ⋯ (aA (rW _))
structure LV.Tn(V:LV)(w u:Nat):Prop where
 vd:w<V.n
 ult:u<V.n
 sn:bO (V.row w)=true
 only :∀t,t<V.n->t≠w->bO (V.row t)=false
theorem V7(O:V.Ok):∃w u,V.Tn w u/\(aG V.n).foldl V.step V.a0=⟨(aG V.n).map V.text,[w],V.W u,V.lead u⟩:=by
 have hn:=O.le;obtain⟨h1,h2,h3⟩:=V.fold (aG V.n) V.a0;have ho:=VV _ O.n _ O.res.mem;unfold Ot at ho;replace ho:((aG V.n).filter λt=>bO (V.row t)).length=1:=ho;obtain⟨w,hw⟩:=List.length_eq_one_iff.mp ho;have Cp:∀t,t<V.n/\bO (V.row t)=true↔t=w:=λt=>by have h:=jT (p:=λt=>bO (V.row t)) (as:=aG V.n) (x:=t);rw[hw,bI,vj]at h;exact h.symm
 have QD:=(Cp w).mpr rfl;have abn:∀t,t<V.n->t≠w->bO (V.row t)=false:=λt h1 h2=>by
  induction hp:bO (V.row t)with
  |false=>rfl
  |true=>exact bx ((Cp t).mp ⟨h1,hp⟩) h2
 rw[hw]at h2;rcases h3 with⟨_,_,h6⟩|⟨u,hu,h4,h5⟩
 ·have e1:=(Cp 0).mp ⟨by lia,h6 0 (bI.mpr (by lia))⟩;have e2:=(Cp 1).mp ⟨by lia,h6 1 (bI.mpr (by lia))⟩;lia
 ·refine⟨w,u,⟨QD.1,bI.mp hu,QD.2,abn⟩,?_⟩;generalize (aG V.n).foldl V.step V.a0=F at h1 h2 h4 h5;obtain⟨a,b,c,d⟩:=F;dsimp only at h1 h2 h4 h5;rw[h1,h2,h4,h5];rfl
theorem Y_(n:Nat)(O:V.Ok):∃w u z,V.Tn w u/\(ev (n+90)).S bg (V.lp V.a0 []) (au bH 11)=some (.next,V.lp ⟨(aG V.n).map V.text,[w],V.W u,V.lead u⟩ (V.six z)):=by
 have hn:=O.le;obtain⟨w,u,hT,hF⟩:=V7 O;have fm:=oo (λt:Nat=>PV.int t) (λ(a:LA×Loc) t=>(V.step a.1 t,V.six t)) (λa=>V.lp a.1 a.2) (λk a=>a.1.texts.length+k<=100/\a.1.found.length+k<=100/\V.kW a.2) (aG V.n) (V.a0,[]) ⟨by rw[cV];show 0+_<=_;lia,by rw[cV];show 0+_<=_;lia,.inl rfl⟩
  λk a ha t y=>⟨Xx (n+9) O a.1 t ha.2.2 ⟨by lia,by lia⟩,by
   have e1:(V.step a.1 t).texts.length=a.1.texts.length+1:=by unfold LV.step;cases bO (V.row t)<;>exact cb
   have e2:(V.step a.1 t).found.length<=a.1.found.length+1:=by
    unfold LV.step;induction bO (V.row t)with
    |true=>exact ej cb
    |false=>exact dX _
   exact⟨by show(V.step a.1 t).texts.length+k<=_;lia,by show(V.step a.1 t).found.length+k<=_;lia,.inr ⟨t,rfl⟩⟩⟩
 have jG:∀(l:aa)(a:LA×Loc),(l.foldl (λ(a:LA×Loc) t=>(V.step a.1 t,V.six t)) a).1=l.foldl V.step a.1:=by
  intro l;induction l with
  |nil=>intro a;rfl
  |cons x l ih=>intro a;exact ih _
 have hz:∃z,((aG V.n).foldl (λ(a:LA×Loc) t=>(V.step a.1 t,V.six t)) (V.a0,[])).2=V.six z:=by refine⟨V.n-1,?_⟩;rw[show V.n=(V.n-1)+1 by lia,vq,xg];rfl
 obtain⟨z,hz⟩:=hz;have hA:=jG (aG V.n) (V.a0,[]);have hG:=fm.1;generalize (aG V.n).foldl (λ(a:LA×Loc) t=>(V.step a.1 t,V.six t)) (V.a0,[])=a at hA hG hz;obtain⟨a,r⟩:=a;dsimp only at hA hG hz;refine⟨w,u,z,hT,(jh ⋯ (aY ⋯ rfl) (j6 _ (by lia))).trans (hG.trans ?_)⟩;rw[hA,hF,hz]
def LV.lq(V:LV)(w u z:Nat)(texts:List aa)(r:Loc):St:=⟨V.full++([(("texts":Str),PV.list (texts.map pS)),("found",.list [V.pi w]),("worse",.list (ap (V.W u))),("wide",(V.lead u).pv)]++(V.six z++([(("where":Str),PV.int w),("best",.list (ap (V.W w))),("kept",(V.lead w).pv)]++r))),["texts"],[]⟩
def LV.i5(V:LV):List aa:=(aG V.n).map V.text
def LV.last(V:LV)(w:Nat):aa:=(j9 (V.W w) V.c6).flatten++[34,40]
theorem Y'(n:Nat)(V:LV)(w u z:Nat):(ev (n+30)).S bg (V.lp ⟨V.i5,[w],V.W u,V.lead u⟩ (V.six z)) (au bH 12)=some (.next,V.lq w u z V.i5 []):=
 (kT (n:=n+29) (q:=(kl (au bH 12)).get!) (aE:={V.lp ⟨V.i5,[w],V.W u,V.lead u⟩ (V.six z)with own:=["texts"]}) (v:=V.pi w) (l:=(V.lq w u z V.i5 []).loc) ⋯ ⋯ ⋯ ⋯ (tM ⋯ ⋯ rfl ⋯ (NB w)) ⋯).trans ⋯
theorem Za(n:Nat)(O:V.Ok)(w u z:Nat):(ev (n+50)).S bg (V.lq w u z V.i5 []) (au bH 13)=some (.next,V.lq w u z (V.i5++[V.last w]) []):=by
 have qU:(V.i5.map pS).length=V.n:=by unfold LV.i5;refine ao (ba ..) ?_;rw[ba,cV]
 refine(ui (n:=n+49) (e:=(oJ (aX (au bH 13))).head!) (x:="texts") (vs:=V.i5.map pS) (v:=pS (V.last w)) ⋯ (aY (.trans (b:=((((ev (n+46)).C "_law_units" [.list (ap (V.W w)),.int V.c6] []).bind λv=>some [v]).bind λvs=>pW (.str (dN [])) vs).bind λx=>bj .Add x (pS [34,40])) ⋯ ?_) rfl) ⋯ (by rw[qU];exact aD O.le.2 (by decide))).trans ?_
 ·rw[Gu (n+26) _ _ (aD (O.wl w).2 (by decide))];exact Lv [34,40] rfl (O.C8 w) (by decide)
 ·rw[show V.i5.map pS++[pS (V.last w)]=(V.i5++[V.last w]).map pS by rw[ei];rfl];kernel_rfl
theorem MB(p q:Nat):(if(p:Int)<q then(q:Int)else p)=(max p q:Nat):=by
 by_cases h:p<q
 ·exact(aA (gI.mpr h)).trans (aR At (DC (cG h)).symm)
 ·exact(aJ λh'=>h (gI.mp h')).trans (aR At (Jq (jV.mp h)).symm)
theorem UO(l:aa)(a:Nat):l7 (a:Int) (l.map λk:Nat=>(k:Int))=((l.foldl max a:Nat):Int):=by
 induction l generalizing a with
 |nil=>rfl
 |cons b l ih=>exact(aR (l7 · _) (MB a b)).trans (ih _)
theorem V8(low:Nat)(l:aa)(k:Nat):l.foldl (λm w=>max m (low+w+1)) (low+k+1)=low+l.foldl max k+1:=by
 induction l generalizing k with
 |nil=>rfl
 |cons w l ih=>exact(aR (l.foldl _) ((Nat.add_max_add_right ..).trans (aR (· +1) (af2 ..)))).trans (ih (max k w))
def k_:aa->Nat
 |[]=>0
 |a::l=>l.foldl max a
theorem MC(low:Nat)(h:0<ws.length):qZ ws low=low+k_ ws+1:=by
 induction ws with
 |nil=>exact bx h (mL _)
 |cons a l=>exact(aR (l.foldl _) (DC (du _))).trans (V8 low l a)
theorem fold_max(l:aa)(a b:Nat):l.foldl max (max a b)=max a (l.foldl max b):=by
 induction l generalizing b with
 |nil=>rfl
 |cons c l ih=>exact(aR (l.foldl _) (Nat.max_assoc ..)).trans (ih _)
theorem V9{a b:aa}(ha:0<a.length)(hb:0<b.length):k_ (a++b)=max (k_ a) (k_ b):=by
 induction a with
 |nil=>exact bx ha (mL _)
 |cons x a=>
  induction b with
  |nil=>exact bx hb (mL _)
  |cons y b=>exact(xg ..).trans (fold_max b _ y)
theorem Tz{l:aa}(h:0<l.length):BJ [.list (ap l)]=some (.int (k_ l)):=by
 induction l with
 |nil=>exact bx h (mL _)
 |cons a l=>exact(bind_eq (f:=OL) ((aR intsOf (xQ (a::l))).trans (vB _)) (aR (λx=>some (PV.int x)) (UO l a)):)
def LV.M(V:LV)(u:Nat):Nat:=max (V.low+k_ (bX V.n++V.W u)) (V.bl+(V.ex+1))
theorem LV.Ok.pos(O:V.Ok):0<V.n-1:=z8 (cZ (by decide) O.le.1)
theorem LV.Ok.QE(O:V.Ok)(u:Nat):max (q8 (V.W u) V.low V.bl) (q8 (bX V.n) V.low (V.bl+(V.ex+1)))=V.M u:=by
 have h1:=(O.wl u).1▸O.pos;have h2:=xf O.pos (tH _).symm;delta q8 LV.M;rw[MC _ h1,MC _ h2,V9 h2 h1,<-af2,Ja,Ja];generalize V.low+k_ (V.W u)=B;generalize V.low+k_ (bX V.n)=A;exact DF (oi.mpr ⟨oi.mpr ⟨aD (xn A B) (xr ..),aD (lK ..) (xn ..)⟩,oi.mpr ⟨aD (xr A B) (xr ..),xn ..⟩⟩)
  (oi.mpr ⟨oi.mpr ⟨aD (xr ..) (xn ..),aD (xr ..) (xr ..)⟩,aD (xn ..) (xn ..)⟩)
theorem Zb(l)(h:∀x∈l,x<=b):k_ l<=b:=by
 have key (l:aa):∀a≤b,(∀x∈l,x<=b)->l.foldl max a<=b:=by
  induction l with
  |nil=>exact λa h z=>h
  |cons c l ih=>exact λa h hx=>ih (max a c) (oi.mpr ⟨h,hx c ch⟩) λx h=>hx x (cf _ h)
 induction l with
 |nil=>exact du _
 |cons a l=>exact key l a (h a ch) λx hx=>h x (cf _ hx)
theorem LV.Ok.Ix(O:V.Ok)(u:Nat):V.M u<=60:=by refine c_ O.zI λz h2 h3=>?_;have hl:V.low<=30:=aD (O.yW.elim (λe=>e▸dX _) ej) (aD (lJ O.le.2) (by decide));exact oi.mpr ⟨ir hl (Zb _ λx hx=>aD (Ae ..) ((jr.mp hx).elim (h2 x) ((O.Cm u).1 x))),aD h3 (by decide)⟩
def LV.col(V:LV)(u k:Nat):ac:=yV (V.W u) V.low V.bl (bX V.n) V.low (V.bl+(V.ex+1)) k
def LV.cols(V:LV)(u:Nat):List ac:=(aG (V.M u+1)).map (V.col u)
def LV.all(V:LV)(w:Nat):List aa:=V.i5++[V.last w]
def LV.ve(V:LV)(u:Nat):Loc:=[(("columns":Str),.list ((V.cols u).map tupI))]
def sT:Expr:=(cM (aX (au bH 14))).get!.2.2.iter
def zJ:Expr:=(bK (eZ ((bK sT).get!.2.2.1.getD 1 default))).get!.2.2.1.head!
theorem Zc(n:Nat)(O:V.Ok)(w u z:Nat):(ev (n+40)).S bg (V.lq w u z (V.all w) []) (au bH 14)=some (.next,V.lq w u z (V.all w) (V.ve u)):=by
 have hM:=O.Ix u;have hs:=tH V.n;have hw:=(O.wl u).1;refine c_ O.zI λg1 g2 g3=>oA (O.Cm u) λg4 g5=>?_;have kA:(ap (bX V.n)).length=V.n-1:=(ba ..).trans hs;have cY:(ap (V.W u)).length=V.n-1:=(ba ..).trans hw;have hE:(ev (n+39)).E bg (hide ["texts"] (V.lq w u z (V.all w) []).loc) (aX (au bH 14))=some (.list ((V.cols u).map tupI)):=by
  refine(gx (n:=n+38) (q:=(cM (aX (au bH 14))).get!) (it:=.ey 1 ((V.M u:Int)+2) 1) (xs:=(aG (V.M u+1)).map λk:Nat=>PV.int (1+k)) (vs:=(aG (V.M u+1)).map λk=>tupI (V.col u k)) ⋯ ⋯ ?_ ((pR 1 ((V.M u+2:Nat):Int) ⟨by decide,by decide,cD (by decide) (cz _),eP.mpr (aD (lF hM 2) (by decide))⟩).trans (by rw[show(((V.M u+2:Nat):Int)-1).toNat=V.M u+1 by rw[fg,Int.add_sub_assoc];rfl])) ((fV (λk=>[tupI (V.col u k)]) (aG (V.M u+1)) λk hk=>?_).trans (by rw[jc])) ?_).trans ?_
  ·have m1:(ev (n+34)).E bg (hide ["texts"] (V.lq w u z (V.all w) []).loc) (uz zJ)=some (.int (k_ (bX V.n++V.W u))):=by refine(fk (n:=n+33) (f:=.blt "max") (kw:=[]) (vs:=[.list (ap (bX V.n++V.W u))]) (q:=(bK (uz zJ)).get!) ⋯ ⋯ ⋯ (args_cons (e:=(bK (uz zJ)).get!.2.2.1.head!) ⋯ (.trans (b:=bj .Add (.list (ap (bX V.n))) (.list (ap (V.W u)))) ⋯ ((add_list (by rw[kA,cY];exact aD (ir (aD (ej hs.symm) g1) (aD (ej hw.symm) (O.wl u).2)) (by decide))).trans (by rw[A1]))) args_nil) ⋯).trans (.trans (b:=BJ [.list (ap (bX V.n++V.W u))]) ⋯ (Tz (by rw[cb,hs];exact cZ O.pos (lK ..))))
   have m2:(ev (n+35)).E bg (hide ["texts"] (V.lq w u z (V.all w) []).loc) zJ=some (.int (V.low+k_ (bX V.n++V.W u))):=kU (n:=n+34) (x:=.int V.low) ⋯ ⋯ m1 ⋯;have m3:(ev (n+36)).E bg (hide ["texts"] (V.lq w u z (V.all w) []).loc) (eZ ((bK sT).get!.2.2.1.getD 1 default))=some (.int (V.M u)):=by refine(fk (n:=n+35) (f:=.blt "max") (kw:=[]) (vs:=[.int (V.low+k_ (bX V.n++V.W u)),.int ((V.bl:Int)+((V.ex:Int)+1))]) (q:=(bK (eZ ((bK sT).get!.2.2.1.getD 1 default))).get!) ⋯ ⋯ ⋯ (args_cons (e:=zJ) ⋯ m2 (args_cons (e:=(bK (eZ ((bK sT).get!.2.2.1.getD 1 default))).get!.2.2.1.getD 1 default) ⋯ ⋯ args_nil)) ⋯).trans ?_;exact aR (λx=>some (PV.int x)) (MB (V.low+k_ (bX V.n++V.W u)) (V.bl+(V.ex+1)))
   have m4:(ev (n+37)).E bg (hide ["texts"] (V.lq w u z (V.all w) []).loc) ((bK sT).get!.2.2.1.getD 1 default)=some (.int ((V.M u:Int)+2)):=kU (n:=n+36) (y:=.int 2) ⋯ m3 ⋯ ⋯;exact(fk (n:=n+37) (f:=.blt "range") (kw:=[]) (vs:=[.int 1,.int ((V.M u:Int)+2)]) (q:=(bK sT).get!) ⋯ ⋯ ⋯ (args_cons (e:=(bK sT).get!.2.2.1.getD 0 default) ⋯ ⋯ (args_cons (e:=(bK sT).get!.2.2.1.getD 1 default) ⋯ m4 args_nil)) ⋯).trans ⋯
  ·have QF:1<=1+k/\1+k<=1000:=⟨lK ..,aD (oe (cG (bI.mp hk)) 1) (aD (oe (lF hM 1) 1) (by decide))⟩;refine jy (l1:=[(("low":Str),PV.int V.low),("blanks",.int V.bl),("extra",.int ((V.ex:Int)+1)),("stairs",.list (ap (bX V.n))),("worse",.list (ap (V.W u))),("t",.int (1+k))]) ⋯ (.trans (b:=((((ev (n+36)).C "_law_column" [.list (ap (V.W u)),.int V.low,.int V.bl,.int (1+k)] []).bind λv=>(((ev (n+36)).C "_law_column" [.list (ap (bX V.n)),.int V.low,.int ((V.bl:Int)+((V.ex:Int)+1)),.int (1+k)] []).bind λv=>some [v]).map λvs=>v::vs).map λvs=>PV.int (1+k)::vs).bind λvs=>if bo vs.length then some (PV.tup vs)else .none) ⋯ ?_) rfl;rw[show(V.bl:Int)+((V.ex:Int)+1)=((V.bl+(V.ex+1):Nat):Int) from rfl,show(1:Int)+k=((1+k:Nat):Int) from(fg 1 k).symm,Np (n+23) _ _ _ _ QF (aD (O.wl u).2 (by decide)) (λx h=>aD (g4 x h) (by decide)),Np (n+23) _ _ _ _ QF (aD g1 (by decide)) (λx h=>aD (g2 x h) (by decide))];rfl
  ·rw[ba,cV];exact aD (lF hM 1) (by decide)
  ·delta LV.cols;rw[cP];rfl
 refine(dr (n:=n+39) (x:="columns") (aE:=V.lq w u z (V.all w) []) (v:=.list ((V.cols u).map tupI)) ⋯ ⋯ (aY hE (Eb _))).trans ⋯
end
section
variable{V:LV}{n k w:Nat}{sc cs:aH}{A:dQ}{pos:Pos}{r:Rec}{st:St}{a:aw}{P:Prop}{own:al}{fl:bG}{d:FD}{c:Bool}{body:ad}{E:ar->ak}{b:Int}{nm:Str}{ns:af}{it:ar}{M:Model}
def q_:Expr×Expr×Expr:=(orOf (aX (au bH 15))).get!
def LV.kF(V:LV)(w u z:Nat):Loc:=hide [] (V.lq w u z (V.all w) (V.ve u)).loc
theorem LV.Ok.ppt(O:V.Ok)(T:V.Tn w u):(∀t,t<V.n->eB (V.text t)=if t=w then V.text w else kZ)/\eB (V.last w)=kZ:=by
 have h4:∀e∈qf,e∈un/\(e==[34,40])=false:=by decide
 refine oA (h4 _ O.C7) λh5 h6=>⟨λt ht=>?_,?_⟩
 ·delta eB LV.text;rw[Mw O.n (O.iU t) V.c6 h5,h6,RO,vt];by_cases h:t=w
  ·subst h;rw[aA rfl,show bO (bP (V.W t))=true from T.sn];rfl
  ·rw[aJ h,show bO (bP (V.W t))=false from T.only t ht h];rfl
 ·delta eB LV.last;rw[Mw O.n (O.iU w) V.c6 (by decide),show(([34,40]:aa)==[34,40])=true from rfl,DM,DK];rfl
def LV.kept(V:LV)(w:Nat):List aa:=cC w kZ++[V.text w]++cC (V.n-w) kZ
theorem map_one{f:Nat->α}{a c:α}:(k:Nat)->(∀t,t<w+(1+k)->f t=if t=w then a else c)->(aG (w+(1+k))).map f++[c]=cC w c++[a]++cC (k+1) c
 |k,h=>by
  have e1:(aG w).map f=cC w c:=afS.mpr ⟨by rw[ba,cV],λb hb=>by
   refine br (eH.mp hb) λt ht bb=>?_;subst bb;have ht:=bI.mp ht;exact(h t (agD (1+k) ht)).trans (aJ (eO ht))⟩
  have e2:(aG k).map (λx=>f (w+(1+x)))=cC k c:=afS.mpr ⟨by refine ao (ba ..) ?_;rw[cV],λb hb=>by
   refine br (eH.mp hb) λt ht bb=>?_;subst bb;have ht:=bI.mp ht;exact(h _ (by lia)).trans (aJ (by lia))⟩
  have e3:f (w+0)=a:=(h w (by lia)).trans (aA rfl);rw[RN,RN,ei,ei,ei,cP,cP,e1,show(aG 1).map (f∘λx=>w+x)=[f (w+0)] from rfl,e3,cP,show(aG k).map ((f∘λx=>w+x)∘λx=>1+x)=cC k c from e2,List.replicate_succ',gE,gE,gE]
theorem LV.Ok.keep(O:V.Ok)(T:V.Tn w u):(V.all w).map eB=V.kept w:=by
 refine oA (O.ppt T) λh1 h2=>?_;have hw:=T.vd;delta LV.all LV.i5 LV.kept;rw[ei,cP,List.map_singleton,h2];have h4:∀t,t<V.n->(eB∘V.text) t=if t=w then V.text w else kZ:=λt ht=>by refine ao (Function.comp_apply ..) ?_;exact h1 t ht
 generalize eB∘V.text=f at h4⊢;generalize V.text w=a at h4⊢;generalize kZ=c at h4⊢;generalize V.n=n at hw h4⊢;have e:n-w-1+1=n-w:=vl (z8 hw);have e2:w+(1+(n-w-1))=n:=by rw[jt 1,e,kK (cG hw)]
 have h3:=map_one (n-w-1) λt ht=>h4 t (xf ht e2);rw[e2,e]at h3;exact h3
theorem LV.Ok.acw(O:V.Ok)(w:Nat):(V.all w).length=V.n+1/\∀l∈V.all w,l.length<=400:=by
 refine⟨by delta LV.all LV.i5;refine ao cb ?_;rw[ba,cV];rfl,λl hl=>?_⟩;rcases jr.mp hl with h|h
 ·refine br (eH.mp h) λt z bb=>?_;subst bb;delta LV.text;rw[cb];exact aD (ir (O.C8 t) (Lu _ O.C7)) (by decide)
 ·rw[cW h];delta LV.last;rw[cb];exact aD (lF (O.C8 w) _) (by decide)
theorem MD:(∀u∈j7,∀c∈u,c<1114112)/\(∀e∈qf,∀c∈e,c<1114112)/\∀c∈kZ,c<1114112:=by decide
theorem LV.Ok.strs(O:V.Ok)(w:Nat):∀l∈V.kept w,DQ (dN l)=true:=by
 have hb:DQ (dN kZ)=true:=by decide +kernel
 have ht:DQ (dN (V.text w))=true:=by
  delta DQ dN;refine ao List.all_toArray ?_;refine cF.mpr λc hc=>bh ?_;rcases jr.mp hc with h|h
  ·refine br (Ry.mp h) λu hu hc=>MD.1 u ((AE O.n (O.iU w) V.c6).1 u hu) c hc
  ·exact MD.2.1 _ O.C7 c h
 intro l hl;rcases jr.mp hl with h|h
 ·rcases jr.mp h with h|h
  ·rw[(z5.mp h).2];exact hb
  ·rw[cW h];exact ht
 ·rw[(z5.mp h).2];exact hb
theorem Pe{a b:List aa}(ha:a.length<=1000)(hb:b.length<=1000):bj .Add (.list (a.map pS)) (.list (b.map pS))=some (.list ((a++b).map pS)):=by refine ao (add_list (by rw[ba,ba];exact aD (ir ha hb) (by decide))) ?_;rw[ei]
def zK:Expr:=(dw q_.1).get!.2.2
theorem Zd(n:Nat)(O:V.Ok)(z:Nat)(T:V.Tn w u):(ev (n+50)).E bg (V.kF w u z) q_.1=some (.bool false):=by
 have hn:=O.le;have hw:=T.vd;refine oA (O.acw w) λhl cY=>?_;have hx:(ev (n+49)).E bg (V.kF w u z) (dw q_.1).get!.1=some (.list ((V.kept w).map pS)):=by refine .trans (b:=(ev (n+48)).C "_pre_parse_validation" [.list ((V.all w).map pS)] []) ⋯ ?_;refine ao (aaR (n+4) _ cY (by lia)) ?_;rw[O.keep T]
 have y1:(ev (n+47)).E bg (V.kF w u z) (eZ (eZ zK))=some (.list ((cC w kZ).map pS)):=.trans ⋯ (EG _ _ (by lia));have y2:(ev (n+47)).E bg (V.kF w u z) (uz (eZ zK))=some (.list ([V.text w].map pS)):=by
  refine .trans (b:=((if bJ (w:Int)then b0 ((V.all w).map pS) w else .none).bind λv=>some [v]).bind λvs=>if bo vs.length then some (PV.list vs)else .none) ⋯ ?_;have h2:(V.all w).getD w []=V.text w:=by delta LV.all LV.i5;refine ao dD ?_;rw[Q1 (by rw[ba,cV];exact hw),i7,Ds hw];rfl
  rw[yC (by lia) (by lia),h2];rfl
 have y3:(ev (n+48)).E bg (V.kF w u z) (eZ zK)=some (.list ((cC w kZ++[V.text w]).map pS)):=kU ⋯ y1 y2 (.trans ⋯ (Pe (by rw[gV];lia) (by show 1<=1000;decide)));have y4:(ev (n+48)).E bg (V.kF w u z) (uz zK)=some (.list ((cC (V.n-w) kZ).map pS)):=by refine .trans (b:=bj .Mult (.list [pS kZ]) (.int ((V.n:Int)-w))) ⋯ ?_;rw[<-ro (by lia)];exact EG _ _ (by lia)
 have hy:(ev (n+49)).E bg (V.kF w u z) zK=some (.list ((V.kept w).map pS)):=kU ⋯ y3 y4 (.trans ⋯ (Pe (by rw[cb,gV];show w+1<=_;lia) (by rw[gV];lia)));exact f_ ⋯ ⋯ hx hy (aR (mO (!·)) (W6 (V.kept w) (O.strs w)))
def Pf:Expr:=(dw q_.2.1).get!.2.2
def Pg:Expr:=(dw q_.2.2).get!.2.2
def LV.C9(V:LV)(u:Nat)(k:Nat):Bool:=decide (gQ (bX V.n) V.low (V.bl+(V.ex+1)) (1+k)<=gQ (V.W u) V.low V.bl (1+k))
def LV.Cq(V:LV)(u:Nat)(k:Nat):Bool:=decide (gQ (V.W u) V.low V.bl (1+k)<=gQ (bX V.n) V.low (V.bl+(V.ex+1)) (1+k))
def LV.Hp(V:LV)(u k:Nat):ac:=yV (bX V.n) V.low (V.bl+(V.ex+1)) (V.W u) V.low V.bl k
theorem Ze(n:Nat)(O:V.Ok)(z:Nat):(ev (n+50)).E bg (V.kF w u z) q_.2.1=some (.bool false):=by
 have hM:=O.Ix u;have hx:(ev (n+49)).E bg (V.kF w u z) (dw q_.2.1).get!.1=some (.list ((((aG (V.M u+1)).filter (V.C9 u)).map (V.col u)).map tupI)):=by refine .trans (b:=(ev (n+48)).C "Whitespace.not_less_witness" [(V.lead u).pv,V.oK.pv] []) ⋯ ?_;refine ao (On (n+10) _ _ (O.Co u) O.Ho) ?_;delta LV.lead LV.oK;rw[Ov,O.QE];rfl
 have hy:(ev (n+49)).E bg (V.kF w u z) Pf=some (.list ((((aG (V.M u+1)).filter (V.C9 u)).map (V.col u)).map tupI)):=by
  refine(gx (n:=n+48) (q:=(cM Pf).get!) (it:=.list ((V.cols u).map tupI)) ⋯ ⋯ ⋯ (by delta LV.cols;rw[cP];rfl) ((fV (λk=>if V.C9 u k=true then[tupI (V.col u k)]else[]) (aG (V.M u+1)) λk y=>?_).trans (by rw[tG])) ?_).trans (by rw[cP];rfl)
  ·refine tZ (l1:=[(("one":Str),tupI (V.col u k))]) (w:=.bool (V.C9 u k)) ⋯ (.trans (b:=some (.bool (decide (((gQ (bX V.n) V.low (V.bl+(V.ex+1)) (1+k):Nat):Int)<=(gQ (V.W u) V.low V.bl (1+k):Nat))))) ⋯ ?_) rfl (λy=>⋯) rfl;rw[xZ];rfl
  ·rw[ba];exact aD (sY ..) (by rw[cV];lia)
 exact f_ ⋯ ⋯ hx hy (aR (mO (!·)) (E9 _))
theorem Zf(n:Nat)(O:V.Ok)(z:Nat):(ev (n+50)).E bg (V.kF w u z) q_.2.2=some (.bool false):=by
 have hM:=O.Ix u;have hx:(ev (n+49)).E bg (V.kF w u z) (dw q_.2.2).get!.1=some (.list ((((aG (V.M u+1)).filter (V.Cq u)).map (V.Hp u)).map tupI)):=by refine .trans (b:=(ev (n+48)).C "Whitespace.not_less_witness" [V.oK.pv,(V.lead u).pv] []) ⋯ ?_;refine ao (On (n+10) _ _ O.Ho (O.Co u)) ?_;delta LV.lead LV.oK;rw[Ov,Nat.max_comm,O.QE];rfl
 have hy:(ev (n+49)).E bg (V.kF w u z) Pg=some (.list ((((aG (V.M u+1)).filter (V.Cq u)).map (V.Hp u)).map tupI)):=by
  refine(gx (n:=n+48) (q:=(cM Pg).get!) (it:=.list ((V.cols u).map tupI)) ⋯ ⋯ ⋯ (by delta LV.cols;rw[cP];rfl) ((fV (λk=>if V.Cq u k=true then[tupI (V.Hp u k)]else[]) (aG (V.M u+1)) λk y=>?_).trans (by rw[tG])) ?_).trans (by rw[cP];rfl)
  ·refine tZ (l1:=[(("t":Str),PV.int ((1+k:Nat):Int)),("a",.int (gQ (V.W u) V.low V.bl (1+k):Nat)),("b",.int (gQ (bX V.n) V.low (V.bl+(V.ex+1)) (1+k):Nat))]) (w:=.bool (V.Cq u k)) ⋯ (.trans (b:=some (.bool (decide (((gQ (V.W u) V.low V.bl (1+k):Nat):Int)<=(gQ (bX V.n) V.low (V.bl+(V.ex+1)) (1+k):Nat))))) ⋯ ?_) rfl (λy=>⋯) rfl;rw[xZ];rfl
  ·rw[ba];exact aD (sY ..) (by rw[cV];lia)
 exact f_ ⋯ ⋯ hx hy (aR (mO (!·)) (E9 _))
theorem Zg(n:Nat)(O:V.Ok)(z:Nat)(T:V.Tn w u):(ev (n+60)).S bg (V.lq w u z (V.all w) (V.ve u)) (au bH 15)=some (.next,V.lq w u z (V.all w) (V.ve u)):=by have hE:(ev (n+59)).E bg (V.kF w u z) (aX (au bH 15))=some (.bool false):=Pd ⋯ (Zd (n+8) O z T) (Ze (n+7) O z) (Zf (n+6) O z);exact(cK ⋯ (rD ⋯ hE rfl) rfl).trans ⋯
end
section
variable{V:LV}
def C_(e:Expr):Option ah:=BD e (λop es z=>match op with
 | .Or=>some es
 | .And=>.none) .none
theorem GA(hs:C_ e=some es)(h0:es.isEmpty=false)(h:∀c∈es,∀i,(ev (n+i)).E sc l c=some (.bool false)):(ev (n+es.length)).E sc l e=some (.bool false):=by
 refine Fg hs (λop fs p hs=>?_) aK;induction op with
 |And=>exact aK hs
 |Or=>
  obtain rfl:=av hs;clear hs;clear hs;induction fs with
  |nil=>exact nomatch h0
  |cons a es ih=>
   refine bind_eq (h a (ch ..) es.length) ?_;induction es with
   |nil=>rfl
   |cons b es=>exact ih rfl λc hc=>h c (cf _ hc)
theorem NC(low bl)(ws):(nF ws low bl:Int)=ws.length*(low+1)+bZ ws+bl:=by
 have key:(ws:aa)->(((ws.map λw=>low+w+1).sum:Nat):Int)=ws.length*(low+1)+bZ ws:=λws=>by
  induction ws with
  |nil=>show(0:Int)=0*_+0;rw[vu];rfl
  |cons w ws ih=>rw[cO,cg,ff,vC,fg,ih,show((ws.length+1:Nat):Int)=ws.length+1 from rfl,tz,ju];lia
 unfold nF;refine ao (fg ..) ?_;rw[key]
def LV.A(V:LV)(w:Nat):Nat:=ul V.n (V.row w)
theorem LV.Ok.uB(O:V.Ok)(T:V.Tn w u):((V.A w:Nat):Int)=gm (V.n-1)-bZ (V.row w)/\V.A w<=6/\bZ (V.row w)=bZ (V.W w):=by have h1:=vD T.sn;have h2:=KH _ O.n;rw[(O.wv w).1]at h1;delta LV.A ul;exact⟨by lia,by lia,AO (j3 _)⟩
def LV.w8(V:LV)(w u:Nat):Loc:=V.ve u++[(("area":Str),.int (V.A w))]
theorem Zh(n:Nat)(O:V.Ok)(z:Nat)(T:V.Tn w u):(ev (n+30)).S bg (V.lq w u z (V.all w) (V.ve u)) (au bH 16)=some (.next,V.lq w u z (V.all w) (V.w8 w u)):=by refine(dr (n:=n+29) (x:="area") (aE:=V.lq w u z (V.all w) (V.ve u)) (v:=.int (V.A w)) ⋯ ⋯ (aY (.trans (b:=some (.int ((nF (bX V.n) V.low (V.bl+(V.ex+1)):Int)-nF (V.W w) V.low V.bl-((V.ex:Int)+1)))) ⋯ ?_) rfl)).trans ⋯;refine c_ (O.uB T) λh1 y h3=>?_;rw[NC,NC,h1,h3,tH,(O.wl w).1,show bZ (bX V.n)=gm (V.n-1) from rfl];congr 2;lia
def LV.gr(V:LV)(w:Nat):aa:=grow V.n (V.W w)
def LV.fl(V:LV)(q:Nat×Nat):WV:=WL (gL V.n q.1) 0 (V.bl+q.2)
def vf:List (Nat×Nat):=[(0,0),(1,0),(0,1)]
def LV.pj(V:LV)(w u:Nat):Loc:=V.w8 w u++[(("grown":Str),.list (ap (V.gr w))),("flat",.list (vf.map λq=>(V.fl q).pv))]
theorem UP(l)(k):(ap l).take k=ap (l.take k):=tu.symm
theorem ND(h:1<=n):(-1:Int)+n=(n-1:Nat):=by rw[ro h,DW];rfl
theorem V_{l:aa}(h1:1<=l.length)(h2:l.length<=1000):jB (ap l) .none (some (.int (-1)))=some (.list (ap (l.take (l.length-1)))):=by have hl:(ap l).length=l.length:=ba ..;show((some (0:Int)).bind λi=>(some (if(-1:Int)<0 then max 0 (-1+((ap l).length:Int))else min (-1) (ap l).length)).bind λj=>if bo (ap l).length then some (PV.list (cut (ap l) i j))else .none)=_;rw[hl,aA (by decide),lo_le h2];show some (PV.list (((ap l).drop 0).take ((max 0 (-1+(l.length:Int))).toNat-0)))=_;rw[Jv,An,show(max 0 (-1+(l.length:Int))).toNat=l.length-1 by rw[ND h1,agF (cz _),ip],UP]
theorem Wa{l:aa}(h1:1<=l.length):(if bJ (-1)then b0 (ap l) (-1)else .none)=some (.int (l.getD (l.length-1) 0)):=by have hl:(ap l).length=l.length:=ba ..;show b0 (ap l) (-1)=_;delta b0;refine ao (aJ (by decide)) ?_;rw[hl,ND h1,aA (cz _),ip];delta ap;refine ao i7 ?_;rw[dD,gU (D3 h1 RX)];rfl
theorem Ph(ha:a.length<=1000)(hb:b.length<=1000):bj .Add (.list (ap a)) (.list (ap b))=some (.list (ap (a++b))):=by refine ao (add_list (by unfold ap;rw[ba,ba];exact aD (ir ha hb) (by decide))) ?_;rw[A1]
theorem LV.Ok.tabs(O:V.Ok)(a:Nat)(ha:a<=1):(gL V.n a).length=V.n-1/\(gL V.n a).length<=4/\∀w∈gL V.n a,0+w<=30:=by delta gL;refine⟨by refine ao ff ?_;rw[gV];exact vl (Dn (aD (by decide) O.le.1):1<=V.n-1),by rw[ff,gV];exact lJ (z0 O.le.2 2),λw h=>?_⟩;rw[i8];exact(cc.mp h).elim (λh=>aD (ej h) (aD ha (by decide))) λh=>by rw[(z5.mp h).2];decide
theorem Xy(c k:Nat)(h:k<=1000):bj .Mult (.list (ap [c])) (.int k)=some (.list (ap (cC k c))):=(E4 h).trans (by delta ap;rw[Rm])
def uC(k:Nat):Expr:=(kq (aX (au bH 17))).getD k default
def Ox:Expr:=(cM (uC 1)).get!.1
def v7:Expr:=(bK Ox).get!.2.2.1.head!
theorem Zi(n:Nat)(O:V.Ok)(z:Nat):(ev (n+80)).S bg (V.lq w u z (V.all w) (V.w8 w u)) (au bH 17)=some (.next,V.lq w u z (V.all w) (V.pj w u)):=by
 have hn:=O.le;have qS:=O.wl w;have hb:=O.q9;have g1:(ev (n+78)).E bg (hide ["texts"] (V.lq w u z (V.all w) (V.w8 w u)).loc) (uC 0)=some (.list (ap (V.gr w))):=by refine kU (n:=n+77) (x:=.list (ap ((V.W w).take (V.n-2)))) (y:=.list (ap [(V.W w).getD (V.n-2) 0+V.A w])) ⋯ (.trans ⋯ ((V_ (l:=V.W w) (by lia) (by lia)).trans (by rw[qS.1];rfl))) (.trans (b:=((((if bJ (-1)then b0 (ap (V.W w)) (-1)else .none).bind λx=>bj .Add x (.int (V.A w))).bind λv=>some [v]).bind λvs=>if bo vs.length then some (PV.list vs)else .none)) ⋯ ?_) (.trans ⋯ (Ph (a:=(V.W w).take (V.n-2)) (b:=[(V.W w).getD (V.n-2) 0+V.A w]) (aD (ta ..) (by lia)) (by show 1<=1000;decide)));rw[Wa (by lia),qS.1];rfl
 have g2:(ev (n+78)).E bg (hide ["texts"] (V.lq w u z (V.all w) (V.w8 w u)).loc) (uC 1)=some (.list (vf.map λq=>(V.fl q).pv)):=by
  refine gx (n:=n+77) (q:=(cM (uC 1)).get!) (it:=.list (vf.map λq=>.tup [.int q.1,.int q.2])) (xs:=vf.map λq=>.tup [.int q.1,.int q.2]) ⋯ ⋯ ⋯ rfl ((fV (g:=λq:Nat×Nat=>PV.tup [.int q.1,.int q.2]) (λq=>[(V.fl q).pv]) vf λq hq=>?_).trans (by rw[jc])) (by show 3<=1000000;decide);have wX:q.1<=1/\q.2<=1:=by revert q;decide
  refine c_ (O.tabs q.1 wX.1) λt1 t2 t3=>jy (l1:=[(("size":Str),PV.int V.n),("blanks",.int V.bl),("ahead",.int q.1),("behind",.int q.2)]) ⋯ (fk (n:=n+76) (f:=.cls) (kw:=[]) (vs:=[pS (vZ (gL V.n q.1) 0 (V.bl+q.2))]) (q:=(bK Ox).get!) ⋯ ⋯ ⋯ (args_cons (e:=v7) ⋯ ?_ args_nil) ⋯|>.trans (.trans (b:=(ev (n+76)).C "Whitespace" [pS (vZ (gL V.n q.1) 0 (V.bl+q.2))] []) ⋯ (x6 (n+36) _ _ _ t2 t3 (by lia)))) (rW _);have a0:(ev (n+75)).E (cM (uC 1)).get!.2.1 [(("size":Str),PV.int V.n),("blanks",.int V.bl),("ahead",.int q.1),("behind",.int q.2)] ((bK v7).get!.2.2.1.getD 0 default)=some (.list (ap (gL V.n q.1))):=by refine kU (n:=n+74) (x:=.list (ap [q.1])) (y:=.list (ap (cC (V.n-2) 0))) ⋯ ⋯ (.trans (b:=bj .Mult (.list (ap [0])) (.int ((V.n:Int)-2))) ⋯ ?_) (.trans ⋯ (Ph (a:=[q.1]) (b:=cC (V.n-2) 0) (by show 1<=1000;decide) (by rw[gV];lia)));rw[show(V.n:Int)-2=((V.n-2:Nat):Int) by lia];exact Xy 0 _ (by lia)
  refine(fk (n:=n+75) (f:=.fn "_law_lead") (kw:=[]) (vs:=[.list (ap (gL V.n q.1)),.int (0:Nat),.int ((V.bl+q.2:Nat):Int)]) (q:=(bK v7).get!) ⋯ ⋯ ⋯ (args_cons (e:=(bK v7).get!.2.2.1.getD 0 default) ⋯ a0 (args_cons (e:=(bK v7).get!.2.2.1.getD 1 default) ⋯ ⋯ (args_cons (e:=(bK v7).get!.2.2.1.getD 2 default) ⋯ ⋯ args_nil))) ⋯).trans (.trans (b:=(ev (n+75)).C "_law_lead" [.list (ap (gL V.n q.1)),.int (0:Nat),.int ((V.bl+q.2:Nat):Int)] []) ⋯ (yd (n+56) _ _ _ (by lia) (λx h=>aD (t3 x h) (by decide)) (by lia)))
 exact(kT (n:=n+79) (q:=(kl (au bH 17)).get!) (aE:=V.lq w u z (V.all w) (V.w8 w u)) (v:=.tup [.list (ap (V.gr w)),.list (vf.map λq=>(V.fl q).pv)]) (l:=(V.lq w u z (V.all w) (V.pj w u)).loc) ⋯ ⋯ ⋯ ⋯ (aY (v6 (n:=n+78) ⋯ (args_cons (e:=uC 0) ⋯ g1 (args_cons (e:=uC 1) ⋯ g2 args_nil)) rfl) (by show(b_ (ap _)&&((dS (V.fl (0,0)).pv&&(dS (V.fl (1,0)).pv&&(dS (V.fl (0,1)).pv&&true)))&&true))=true;rw[hH,rW,rW,rW];rfl)) ⋯).trans ⋯
end
section
variable{V:LV}{n k w:Nat}{sc cs:aH}{A:dQ}{pos:Pos}{r:Rec}{st:St}{a:aw}{P:Prop}{own:al}{fl:bG}{d:FD}{c:Bool}{body:ad}{E:ar->ak}{b:Int}{nm:Str}{ns:af}{it:ar}{M:Model}
def Cr:ah:=(C_ (aX (au bH 18))).get!
def gn(k:Nat):Expr:=Cr.getD k default
def LV.pn(V:LV)(w u z:Nat):Loc:=hide ["texts"] (V.lq w u z (V.all w) (V.pj w u)).loc
theorem LV.Ok.yY(O:V.Ok):∀q∈vf,(V.fl q).ok:=λq hq=>by
 have wX:q.1<=1/\q.2<=1:=by revert q;decide
 refine c_ (O.tabs q.1 wX.1) λt1 t2 t3=>?_;have :=O.le;have :=O.q9;exact Gy (RD (cC (V.n-2) 0).length) t2 t3 (by lia)
theorem x8(b):fU .IsNot (.bool b) (.bool b)=some false:=by show some (!(b==b))=_;rw[beq_self_eq_true];rfl
theorem Zj(n:Nat)(O:V.Ok)(w u z:Nat):(ev (n+60)).E bg (V.pn w u z) (gn 0)=some (.bool false):=by refine f_ (n:=n+59) (q:=(dw (gn 0)).get!) ⋯ ⋯ (.trans (b:=(ev (n+58)).C "Whitespace.less" [(V.fl (0,0)).pv,(V.fl (0,1)).pv] []) ⋯ ?_) ⋯ (x8 true);refine ao (BV (n+21) _ _ (O.yY _ (by decide)) (O.yY _ (by decide))) ?_;exact aR (λb=>some (PV.bool b)) (KJ O.n O.q9).1
theorem Zk(n:Nat)(O:V.Ok)(w u z:Nat):(ev (n+60)).E bg (V.pn w u z) (gn 1)=some (.bool false):=by refine f_ (n:=n+59) (q:=(dw (gn 1)).get!) ⋯ ⋯ (.trans (b:=(ev (n+58)).C "Whitespace.less" [(V.fl (1,0)).pv,(V.fl (0,1)).pv] []) ⋯ ?_) ⋯ (x8 false);refine ao (BV (n+21) _ _ (O.yY _ (by decide)) (O.yY _ (by decide))) ?_;exact aR (λb=>some (PV.bool b)) (KJ O.n O.q9).2
theorem Zl(n:Nat)(O:V.Ok)(z:Nat)(T:V.Tn w u):(ev (n+60)).E bg (V.pn w u z) (gn 2)=some (.bool false):=by refine f_ (n:=n+59) (q:=(dw (gn 2)).get!) ⋯ ⋯ (.trans (b:=(ev (n+58)).C "Whitespace.less" [(V.fl (0,0)).pv,(V.lead w).pv] []) ⋯ ?_) ⋯ (x8 false);refine ao (BV (n+21) _ _ (O.yY _ (by decide)) (O.Co w)) ?_;exact aR (λb=>some (PV.bool b)) (UM O.n (O.iU w) T.sn O.yW O.q9)
theorem Zm(n:Nat)(w u z:Nat):(ev (n+60)).E bg (V.pn w u z) (gn 3)=some (.bool false):=by refine f_ (n:=n+59) (q:=(dw (gn 3)).get!) ⋯ ⋯ (.trans (b:=(ev (n+58)).C "Whitespace.equal" [(V.fl (0,0)).pv,(V.fl (0,1)).pv] []) ⋯ ?_) ⋯ (x8 false);refine ao (Om (n+46) ..) ?_;rw[cA (show¬(V.fl (0,0)).b=(V.fl (0,1)).b from λh=>eO (agB V.bl) h),DK]
theorem LV.Ok.grw(O:V.Ok)(T:V.Tn w u):(V.gr w).length<=4/\(∀x∈V.gr w,V.low+x<=30):=by refine c_ (O.uB T) λz ha z=>?_;delta LV.gr grow;refine⟨by rw[cb,mK];exact lJ (aD (Nat.min_le_left ..) (z0 O.le.2 2)),λx hx=>?_⟩;refine(jr.mp hx).elim (λh=>aD (ir O.yX (cG (O.vd w x (sZ h)))) (by decide)) λh=>?_;rw[cW h];exact aD (ir O.yX (ir (cG (O.vd w _ (getD_mem (xf (Nat.sub_lt_sub_left (cZ (by decide) O.le.1) (by decide)) (O.wl w).1.symm)))) ha)) (by decide)
theorem Zn(n:Nat)(O:V.Ok)(z:Nat)(T:V.Tn w u):(ev (n+60)).E bg (V.pn w u z) (gn 4)=some (.bool false):=by
 obtain⟨h1,h2⟩:=O.grw T;obtain⟨h3,h4,_⟩:=O.zI;have hb:=O.q9;have eG:(ev (n+58)).E bg (V.pn w u z) (wu (dw (gn 4)).get!.1).get!.1=some (WL (V.gr w) V.low V.bl).pv:=by refine .trans (b:=(((ev (n+56)).C "_law_lead" [.list (ap (V.gr w)),.int V.low,.int V.bl] []).bind λv=>some [v]).bind λvs=>(ev (n+57)).C "Whitespace" vs []) ⋯ ?_;rw[yd (n+37) _ _ _ (by lia) (λx h=>aD (h2 x h) (by decide)) (by lia)];exact x6 (n+17) _ _ _ h1 h2 (IN right)
 have eS:(ev (n+58)).E bg (V.pn w u z) (wu (dw (gn 4)).get!.1).get!.2.2.2.1.head!=some (WL (bX V.n) V.low V.bl).pv:=by refine .trans (b:=(((ev (n+56)).C "_law_lead" [.list (ap (bX V.n)),.int V.low,.int V.bl] []).bind λv=>some [v]).bind λvs=>(ev (n+57)).C "Whitespace" vs []) ⋯ ?_;rw[yd (n+37) _ _ _ (by lia) (λx h=>aD (h4 x h) (by decide)) (by lia)];exact x6 (n+17) _ _ _ h3 h4 (IN right)
 have eX:(ev (n+59)).E bg (V.pn w u z) (dw (gn 4)).get!.1=some (.bool (decide (bP (V.gr w)=bX V.n))):=by refine(Nl (n:=n+58) (q:=(wu (dw (gn 4)).get!.1).get!) (p:=(WL (V.gr w) V.low V.bl).pv) (vs:=[(WL (bX V.n) V.low V.bl).pv]) ⋯ ⋯ eG (args_cons (e:=(wu (dw (gn 4)).get!.1).get!.2.2.2.1.head!) ⋯ eS args_nil)).trans (.trans (b:=(ev (n+58)).C "Whitespace.equal" [(WL (V.gr w) V.low V.bl).pv,(WL (bX V.n) V.low V.bl).pv] []) ⋯ ?_);refine ao (Om (n+46) ..) ?_;rw[bh (show(WL (V.gr w) V.low V.bl).b=(WL (bX V.n) V.low V.bl).b from rfl),vt];exact aR (λb=>some (PV.bool b)) (rk8 _ O.n _ (O.iU w).mem T.sn V.low (by rcases O.yW with h|h<;>rw[h]<;>simp))
 have eY:(ev (n+59)).E bg (V.pn w u z) (dw (gn 4)).get!.2.2=some (.bool (decide (bP (V.gr w)=bX V.n))):=by refine f_ (n:=n+58) (q:=(dw (dw (gn 4)).get!.2.2).get!) (x:=.list (ap (bP (V.gr w)))) (y:=.list (ap (bX V.n))) ⋯ ⋯ (.trans (b:=tI [.list (ap (V.gr w))]) ⋯ (Az _ (by lia))) ⋯ (tN _ _)
 exact f_ (n:=n+59) (q:=(dw (gn 4)).get!) ⋯ ⋯ eX eY (x8 _)
theorem Zo(n:Nat)(O:V.Ok)(z:Nat)(T:V.Tn w u):(ev (n+70)).S bg (V.lq w u z (V.all w) (V.pj w u)) (au bH 18)=some (.next,V.lq w u z (V.all w) (V.pj w u)):=by
 have hE:(ev (n+64+Cr.length)).E bg (V.pn w u z) (aX (au bH 18))=some (.bool false):=GA ⋯ ⋯ λc hc i=>by
  have h5:Cr=[gn 0,gn 1,gn 2,gn 3,gn 4]:=⋯
  rw[h5]at hc;simp only[cc,gG,or_false]at hc;rw[show n+64+i=n+(i+4)+60 by exact jq n 64 i];rcases hc with h|h|h|h|h<;>rw[h]
  ·exact Zj _ O w u z
  ·exact Zk _ O w u z
  ·exact Zl _ O z T
  ·exact Zm _ w u z
  ·exact Zn _ O z T
 rw[show Cr.length=5 by kernel_rfl]at hE;exact(cK ⋯ (aY hE rfl) rfl).trans ⋯
theorem UQ:∀n∈cI,∀az∈aG n,((aG (n-1)).map λj=>(az+(j+1))%n).Perm ((aG n).filter λp=> !(p==az)):=by decide
theorem LV.Ok.Rp(O:V.Ok):V.R.Perm (dP V.an V.az):=by have h:=(UQ _ O.n V.az (bI.mpr O.rJ)).map (resT V.an 0);rw[cP]at h;unfold dP;rw[O.fu];exact h
theorem LV.Ok.ce(O:V.Ok)(T:V.Tn w u):ce V.an V.az=V.row w:=by
 unfold Mine.Internal.ce;rw[O.fu,<-tP O.Rp];unfold eu;have hw:(aG V.n).find? (λt=>bO (bP (eD V.n t V.R)))=some w:=by
  cases hf:(aG V.n).find? λt=>bO (bP (eD V.n t V.R))with
  |none=>exact bx T.sn (List.find?_eq_none.mp hf w (bI.mpr T.vd))
  |some t=>
   have h1:=bI.mp (Dg hf);have h2:=List.find?_some hf;by_cases h:t=w
   ·rw[h]
   ·have :=T.only t h1 h;unfold LV.row LV.W at this;replace h2:=ao (aT (this ..)) h2;exact nomatch h2
 rw[hw];rfl
def LV.over(V:LV)(w:Nat):Int:=V.an.sum-bZ (V.row w)
def LV.left(V:LV)(w:Nat):Int:=(V.c0.fdiv 25).fmod ((V.A w:Int)+3)-1
theorem LV.yE(V:LV)(w:Nat): -1<=V.left w/\V.left w<=V.A w+1:=by have h0:=jQ (V.c0.fdiv 25) (show(0:Int)<(V.A w:Int)+3 by exact zX.mp rfl);have h1:=mJ (V.c0.fdiv 25) (show(0:Int)<(V.A w:Int)+3 by exact zX.mp rfl);unfold LV.left;omega
def LV.small(V:LV)(w:Nat):ac:=V.an.take V.az++[V.an.getD V.az 0+V.left w-V.over w]++V.an.drop (V.az+1)
def LV.sU(V:LV)(w u:Nat):Loc:=V.pj w u++[(("over":Str),PV.int (V.over w)),("left",.int (V.left w))]
def LV.C'(V:LV)(w u:Nat):Loc:=V.sU w u++[(("small":Str),PV.list (aQ (V.small w)))]
def LV.rank(V:LV)(w:Nat):Int:=dJ (V.row w) (V.left w)
def LV.fP(V:LV)(w u:Nat):Loc:=V.C' w u++[(("rank":Str),PV.int (V.rank w))]
theorem Zp(n:Nat)(O:V.Ok)(z:Nat)(T:V.Tn w u):(ev (n+40)).S bg (V.lq w u z (V.all w) (V.pj w u)) (au bH 19)=some (.next,V.lq w u z (V.all w) (V.sU w u)):=by
 refine c_ (O.uB T) λh1 t t=>?_;have a0:(ev (n+38)).E bg (hide ["texts"] (V.lq w u z (V.all w) (V.pj w u)).loc) ((kq (aX (au bH 19))).getD 0 default)=some (.int (V.over w)):=by refine .trans (b:=(((mU [.list (aQ V.an)]).bind λx=>(mU [.list (ap (bX V.n))]).bind λy=>bj .Sub x y).bind λx=>bj .Add x (.int (V.A w)))) ⋯ ?_;rw[xL,Ei];show some (PV.int (V.an.sum-gm (V.n-1)+(V.A w:Nat)))=_;unfold LV.over;congr 2;lia
 have a1:(ev (n+38)).E bg (hide ["texts"] (V.lq w u z (V.all w) (V.pj w u)).loc) ((kq (aX (au bH 19))).getD 1 default)=some (.int (V.left w)):=by refine .trans (b:=(cQ .Mod (V.c0.fdiv 25) ((V.A w:Int)+3)).bind λx=>bj .Sub x (.int 1)) ⋯ ?_;rw[mS ((Int.zero_eq_toNat_sub_iff 1 (↑(V.A w)+3)).mp rfl)];rfl
 exact(kT (n:=n+39) (q:=(kl (au bH 19)).get!) (aE:=V.lq w u z (V.all w) (V.pj w u)) (v:=.tup [.int (V.over w),.int (V.left w)]) (l:=(V.lq w u z (V.all w) (V.sU w u)).loc) ⋯ ⋯ ⋯ ⋯ (aY (v6 (n:=n+38) ⋯ (args_cons ⋯ a0 (args_cons ⋯ a1 args_nil)) rfl) rfl) ⋯).trans ⋯
theorem LV.Ok.nW(O:V.Ok)(w:Nat):(V.small w).length=V.n:=by have hh:=O.rJ;delta LV.small;refine ao cb ?_;rw[cb,mK,jR,O.fu];exact(aR (· +1+_) (iq (cG hh))).trans (kK hh)
theorem Zq(n:Nat)(O:V.Ok)(z:Nat):(ev (n+40)).S bg (V.lq w u z (V.all w) (V.sU w u)) (au bH 20)=some (.next,V.lq w u z (V.all w) (V.C' w u)):=by
 have hn:=O.le;have hh:=O.rJ;have hc:=O.fu;have y1:(ev (n+37)).E bg (hide ["texts"] (V.lq w u z (V.all w) (V.sU w u)).loc) (uz (eZ (aX (au bH 20))))=some (.list (aQ [V.an.getD V.az 0+V.left w-V.over w])):=by refine .trans (b:=(((((if bJ (V.az:Int)then b0 (aQ V.an) V.az else .none).bind λx=>bj .Add x (.int (V.left w))).bind λx=>bj .Sub x (.int (V.over w))).bind λv=>some [v]).bind λvs=>if bo vs.length then some (PV.list vs)else .none)) ⋯ ?_;rw[pN (xf hh (id (aT hc))) (by lia)];rfl
 have y2:(ev (n+38)).E bg (hide ["texts"] (V.lq w u z (V.all w) (V.sU w u)).loc) (eZ (aX (au bH 20)))=some (.list (aQ (V.an.take V.az++[V.an.getD V.az 0+V.left w-V.over w]))):=
  kU (n:=n+37) ⋯ (.trans ⋯ (Nu V.an V.az (by lia) (by lia))) y1 (.trans ⋯ (Ck (aD (ta ..) (by lia)) (by show 1<=1000;decide)))
 have y3:(ev (n+39)).E bg (hide ["texts"] (V.lq w u z (V.all w) (V.sU w u)).loc) (aX (au bH 20))=some (.list (aQ (V.small w))):=
  kU ⋯ y2 (.trans ⋯ (Li V.an (V.az+1) (by lia) (le_of_le_of_eq hh (id (aT hc))))) (.trans ⋯ (Ck (by rw[cb,mK];show _+1<=1000;lia) (by rw[jR];lia)))
 exact(dr (n:=n+39) (x:="small") (aE:=V.lq w u z (V.all w) (V.sU w u)) ⋯ ⋯ (aY y3 (jZ _))).trans ⋯
def LV.T'(V:LV)(w:Nat)(p:Nat):Int:=if p=V.az then V.left w else((resT V.an 0 p+w)%V.n:Nat)
def LV.U0(V:LV)(w:Nat)(p:Nat):Int:=(V.an.getD p 0+w).fdiv V.n
def LV.Uh(V:LV)(w:Nat):Int:=w-(((aG V.n).filter λp=> !(p==V.az)).map (V.U0 w)).sum
def LV.U(V:LV)(w:Nat)(p:Nat):Int:=if p=V.az then V.Uh w else V.U0 w p
theorem Fc{az p:Nat}(h:p∈(aG n).filter λp=> !(p==az)):p≠az:=λe=>by have :=(jT.mp h).2;rw[e,beq_self_eq_true]at this;exact nomatch this
theorem LV.Ok.div(O:V.Ok)(w p:Nat):V.an.getD p 0+w=((resT V.an 0 p+w)%V.n:Nat)+V.n*V.U0 w p:=by have hn:=O.le;have h1:=xc (V.an.getD p 0+w) V.n;have h2:=tO V.an w p (by rw[O.fu];omega);rw[Nw _ _ _ (by rw[O.fu];omega),O.fu]at h2;unfold LV.U0;omega
theorem Kh{l:ac}{x:Int}{p:Nat}(hk:k<l.length)(hp:p<l.length):(l.take k++[x]++l.drop (k+1)).getD p 0=if p=k then x else l.getD p 0:=by
 have ht:(l.take k).length=k:=by refine ao mK ?_;exact iq (cG hk)
 refine ao dD ?_;rw[gE];by_cases h:p<k
 ·rw[Q1 (by rw[ht];exact h),List.getElem?_take_of_lt h,aJ (eO h),dD]
 ·rw[afz (by rw[ht];exact jV.mp h),ht];by_cases h2:p=k
  ·rw[aA h2,h2,RT];rfl
  ·have h3:=agj (jV.mp h) (lP h2);rw[aJ h2,show p-k=(p-(k+1))+1 from(vl (z8 h3)).symm];show((l.drop (k+1))[p-(k+1)]?).getD 0=_;rw[List.getElem?_drop,kK (Nat.succ_le_of_lt h3),dD]
theorem Xz{p:Nat}{t:Int}{T U:ac}(h:p<(ik n t T U).length)(h1:p<T.length)(h2:p<U.length):(ik n t T U)[p]=T[p]+n*U[p]-t:=List.getElem_zipWith ..
theorem LV.Ok.ik(O:V.Ok)(T:V.Tn w u):V.small w=Mine.Internal.ik V.n w ((aG V.n).map (V.T' w)) ((aG V.n).map (V.U w))/\((aG V.n).map (V.U w)).sum=w/\((aG V.n).map (V.T' w)).Perm (V.left w::(V.row w).map λx:Nat=>(x:Int)):=by
 have hn:=O.le;have hh:=O.rJ;have hP:=KI V.n V.az hh;have hU:((aG V.n).map (V.U w)).sum=w:=by rw[<-A6 (hP.map (V.U w)),cO,cg,lH (f:=V.U w) (g:=V.U0 w) λp hp=>aJ (Fc hp)];delta LV.U LV.Uh;rw[aA rfl];exact Du (↑w) (R4 (V.U0 w) (RW (λp=> !p==V.az) (aG V.n))).sum
 have ce:(((aG V.n).filter λp=> !(p==V.az)).map λp=>((resT V.an 0 p+w)%V.n:Nat)).Perm (V.row w):=by have h1:=(O.Rp.map λr=>(r+w)%V.n).symm;unfold dP at h1;rw[cP,O.fu]at h1;exact h1.trans (j3 (V.W w)).symm
 have hT:((aG V.n).map (V.T' w)).Perm (V.left w::(V.row w).map λx:Nat=>(x:Int)):=by refine(hP.map (V.T' w)).symm.trans ?_;rw[cO,lH (f:=V.T' w) λp hp=>aJ (Fc hp),show V.T' w V.az=V.left w from aA rfl];have :=ce.map λx:Nat=>(x:Int);rw[cP]at this;exact this.cons _
 refine⟨?_,hU,hT⟩;have hs:(((aG V.n).filter λp=> !(p==V.az)).map λp=>V.an.getD p 0+w).sum=bZ (V.row w)+V.n*(((aG V.n).filter λp=> !(p==V.az)).map (V.U0 w)).sum:=by
  rw[<-AO ce];induction (aG V.n).filter λp=> !(p==V.az)with
  |nil=>show(0:Int)=0+V.n*0;rw[DV];rfl
  |cons p ps ih=>rw[cO,cO,cO,cg,cg,vC,ih,O.div w p,D1];lia
 have sH:(((aG V.n).filter λp=> !(p==V.az)).map λp=>V.an.getD p 0+w).sum=V.an.sum-V.an.getD V.az 0+(V.n-1)*w:=by
  have hc:=Ka V.an;rw[O.fu]at hc;have h1:=A6 (hP.map λp=>V.an.getD p 0);rw[hc,cO,cg]at h1;have h2:∀l:aa,(l.map λp=>V.an.getD p 0+w).sum=(l.map λp=>V.an.getD p 0).sum+l.length*w:=λl=>by
   induction l with
   |nil=>show(0:Int)=0+0*_;rw[vu];rfl
   |cons p l ih=>rw[cO,cO,cg,cg,ih,ff,show((l.length+1:Nat):Int)=l.length+1 from rfl,tz,ju];lia
  have h3:=EF V.n V.az hh;rw[h2,<-h1,show(((aG V.n).filter λp=> !(p==V.az)).length:Int)=V.n-1 by lia];lia
 have hlen:(Mine.Internal.ik V.n w ((aG V.n).map (V.T' w)) ((aG V.n).map (V.U w))).length=V.n:=by delta Mine.Internal.ik;rw[Rk,ba,ba,cV,JD]
 refine RB (by rw[O.nW,hlen]) λp h1 h2=>?_;have hp:p<V.n:=by rw[hlen]at h2;exact h2
 have e1:=Kh (x:=V.an.getD V.az 0+V.left w-V.over w) (by rw[O.fu];exact hh) (by rw[O.fu];exact hp);rw[show V.an.take V.az++[V.an.getD V.az 0+V.left w-V.over w]++V.an.drop (V.az+1)=V.small w from rfl,dD,gU h1]at e1;replace e1:(V.small w)[p]=_:=e1;rw[e1];rw[Xz h2 (by rw[ba,cV];exact hp) (by rw[ba,cV];exact hp),xk,xk,IZ];delta LV.T' LV.U;by_cases h:p=V.az
 ·rw[aA h,aA h,aA h];delta LV.Uh LV.over;rw[sH,ag_,ju]at hs;rw[R3];lia
 ·rw[aJ h,aJ h,aJ h];have :=O.div w p;exact aT ((λ{b a c}=>IR.mpr) (id (aT this)))
theorem LV.Ok.take(O:V.Ok)(T:V.Tn w u):rT (V.small w) (V.left w)=V.rank w:=by
 refine c_ (O.ik T) λh1 h2 h3=>?_;have hl:((aG V.n).map (V.T' w)).length=V.n:=by refine ao (ba ..) ?_;rw[cV]
 have h:=UI (n:=V.n) (s:=V.row w) (left:=V.left w) (T':=(aG V.n).map (V.T' w)) (U:=(aG V.n).map (V.U w)) O.n (O.iU w).sort (pJ _) T.sn (V.yE w) h3 (by rw[hl,ba,cV]);rw[hl,h2,<-h1]at h;exact h
theorem Zr(n:Nat)(O:V.Ok)(z:Nat)(T:V.Tn w u):(ev (n+40)).S bg (V.lq w u z (V.all w) (V.C' w u)) (au bH 21)=some (.next,V.lq w u z (V.all w) (V.fP w u)):=by refine c_ (O.uB T) λy ha y=>?_;have hb:=V.yE w;have hn:=O.n;refine(dr (n:=n+39) (x:="rank") (aE:=V.lq w u z (V.all w) (V.C' w u)) (v:=.int (V.rank w)) ⋯ ⋯ (aY (.trans (b:=(ev (n+38)).C "_law_by_taking" [.list (aQ (V.small w)),.int (V.left w)] []) ⋯ ?_) rfl)).trans ⋯;refine ao (aaY (n+8) _ _ (by rw[O.nW];exact hn) (by lia)) ?_;rw[O.take T]
theorem A7(h:i=j):fU .NotEq (.int i) (.int j)=some false:=by subst h;show some (!(i==i))=_;rw[beq_self_eq_true];rfl
def qy:ah:=(C_ (aX (au bH 22))).get!
def LV.Iy(V:LV)(w u z:Nat):Loc:=hide ["texts"] (V.lq w u z (V.all w) (V.fP w u)).loc
theorem LV.Ok.Pi(O:V.Ok)(w:Nat):2<=(V.row w).length/\(V.row w).length<=5:=⟨aD (Dn O.le.1) (ej (O.wv w).1.symm),Jh (O.wv w).2⟩
theorem Zs(n:Nat)(O:V.Ok)(z:Nat)(T:V.Tn w u):(ev (n+120)).E bg (V.Iy w u z) (qy.getD 0 default)=some (.bool false):=by have hb:=V.yE w;refine c_ (O.uB T) λy ha y=>f_ (n:=n+119) (q:=(dw (qy.getD 0 default)).get!) (x:=.int (V.rank w+1)) ⋯ ⋯ (.trans (b:=((((ev (n+117)).C "_law_units" [.list (ap (V.W w)),.int V.c6] []).bind λv=>(some [PV.int (V.left w)]).map λvs=>v::vs).bind λvs=>(ev (n+118)).C "_law_run" vs [])) ⋯ ?_) ⋯ (A7 rfl);rw[Gu (n+97) _ _ (aD (O.wl w).2 (by decide))];exact aa0 (n+62) _ _ _ (by lia) (Kg O.n (O.iU w) V.c6) (V3 O.n (O.iU w) T.sn hb V.c6)
theorem Zt(n:Nat)(O:V.Ok)(z:Nat)(T:V.Tn w u):(ev (n+120)).E bg (V.Iy w u z) (qy.getD 1 default)=some (.bool false):=by have hb:=V.yE w;have hw:=(O.wl w).2;refine c_ (O.uB T) λy ha y=>f_ (n:=n+119) (q:=(dw (qy.getD 1 default)).get!) (x:=.int (V.rank w)) ⋯ ⋯ (.trans (b:=((((tI [.list (ap (V.W w))]).bind λv=>(some [PV.int (V.left w),.int V.side]).map λvs=>v::vs).bind λvs=>(ev (n+118)).C "_law_rank" vs []))) ⋯ ?_) ⋯ (A7 rfl);rw[Az _ (by lia)];exact Gr (n+13) _ _ _ (O.Pi w) (by lia) O.B4
theorem Zu(n:Nat)(O:V.Ok)(z:Nat)(T:V.Tn w u):(ev (n+130)).S bg (V.lq w u z (V.all w) (V.fP w u)) (au bH 22)=some (.next,V.lq w u z (V.all w) (V.fP w u)):=by
 have hE:(ev (n+127+qy.length)).E bg (V.Iy w u z) (aX (au bH 22))=some (.bool false):=GA ⋯ ⋯ λc hc i=>by
  have h5:qy=[qy.getD 0 default,qy.getD 1 default]:=⋯
  rw[h5]at hc;simp only[cc,gG,or_false]at hc;rw[show n+127+i=n+(i+7)+120 by exact jq n 127 i];rcases hc with h|h<;>rw[h]
  ·exact Zs _ O z T
  ·exact Zt _ O z T
 rw[show qy.length=2 by kernel_rfl]at hE;exact(cK ⋯ (aY hE rfl) rfl).trans ⋯
def zL:Stmt:=au bH 23
def Hq:Stmt:=au (bd zL) 0
def Hr:Stmt:=au (bd zL) 1
def yZ:Expr:=(bK (aX Hq)).get!.2.2.1.head!
def uD:ah:=(C_ (aX Hr)).get!
def rb(T:ac)(k m:Int):Loc:=[(("table":Str),PV.list (aQ T)),("ranked",.int k),("mirror",.int m)]
def QG(q:ac×Int):PV:=.tup [.list (aQ q.1),.int q.2]
def Cs(r:Loc):Prop :=r=[]\/∃T k m,r=rb T k m
def lf(n:Nat)(T:ac):ac:=T.map λc=>(n:Int)-3-c
theorem Oy(n:Nat)(O:V.Ok)(w u z:Nat){r:Loc}(hr:Cs r)(q:ac×Int)(hl:q.1.length=V.n)(h1:kb q.1 V.other=q.2)(h2:q.2-kb (lf V.n q.1) V.az=q.1.sum-gm (V.n-1)+1)(hs: -260000<=q.1.sum/\q.1.sum<=260000):
  eN (ev (n+130)) bg (dH zL) (bd zL) (QG q) (V.lq w u z (V.all w) (V.fP w u++r))=some (.next,V.lq w u z (V.all w) (V.fP w u++rb q.1 q.2 (kb (lf V.n q.1) V.az))):=by
 have hn:=O.le;obtain⟨Tb,k⟩:=q;dsimp only at hl h1 h2 hs⊢;have eA:(lf V.n Tb).length=V.n:=(ba ..).trans hl;have Hm:(lf V.n Tb).sum=V.n*(V.n-3)-Tb.sum:=by
  have :∀(k:Int)(l:ac),(l.map λc=>k-c).sum=l.length*k-l.sum:=λk l=>by
   induction l with
   |nil=>rw[Ac,tl,vu];rfl
   |cons x l ih=>rw[cO,cg,cg,ih,ff,fg,tz,show((1:Nat):Int)*k=k from ju _];lia
  exact(this _ _).trans (by rw[hl])
 have hnn:0<=(V.n:Int)*(V.n-3)/\(V.n:Int)*(V.n-3)<=10:=by
  have :V.n=3\/V.n=4\/V.n=5:=by lia
  rcases this with h|h|h<;>rw[h]<;>decide
 generalize hm:kb (lf V.n Tb) V.az=m at h2⊢;have key:∀m0,(m0=[]\/∃i,m0=[(("mirror":Str),PV.int i)])->(ev (n+130)).B bg (V.lq w u z (V.all w) (V.fP w u++([(("table":Str),PV.list (aQ Tb)),("ranked",.int k)]++m0))) ((bd zL).drop 0)=some (.next,V.lq w u z (V.all w) (V.fP w u++rb Tb k m)):=λm0 sV=>by
  have e0:(ev (n+129)).S bg (V.lq w u z (V.all w) (V.fP w u++([(("table":Str),PV.list (aQ Tb)),("ranked",.int k)]++m0))) Hq=some (.next,V.lq w u z (V.all w) (V.fP w u++rb Tb k m)):=by
   have hA:(ev (n+127)).E bg (hide ["texts"] (V.lq w u z (V.all w) (V.fP w u++([(("table":Str),PV.list (aQ Tb)),("ranked",.int k)]++m0))).loc) yZ=some (.list (aQ (lf V.n Tb))):=by
    refine(gx (n:=n+126) (q:=(cM yZ).get!) (it:=.list (aQ Tb)) (vs:=Tb.map λc=>PV.int ((V.n:Int)-3-c)) ⋯ ?_ ?_ rfl ((fV (g:=PV.int) (λc=>[PV.int ((V.n:Int)-3-c)]) Tb λc v=>?_).trans (by rw[jc])) (by rw[ba];lia)).trans (by delta lf aQ;rw[cP];rfl)
    ·rcases sV with h|⟨i,h⟩<;>subst h<;>kernel_rfl
    ·rcases sV with h|⟨i,h⟩<;>subst h<;>kernel_rfl
    ·have ez:free (cM yZ).get!.2.1 (hide ["texts"] (V.lq w u z (V.all w) (V.fP w u++([(("table":Str),PV.list (aQ Tb)),("ranked",.int k)]++m0))).loc)=[(("size":Str),PV.int V.n)]:=by rcases sV with h|⟨i,h⟩<;>subst h<;>kernel_rfl
     refine .trans (aR (λl=>rp (fz (cM yZ).get!.2.2.target l (.int c)) _) ez) ?_;exact jy (l1:=[(("size":Str),PV.int V.n),("chip",.int c)]) ⋯ ⋯ rfl
   refine(dr (n:=n+128) (x:="mirror") (aE:=V.lq w u z (V.all w) (V.fP w u++([(("table":Str),PV.list (aQ Tb)),("ranked",.int k)]++m0))) ⋯ ?_ (aY ((fk (n:=n+127) (f:=.fn "_law_told") (kw:=[]) (vs:=[.list (aQ (lf V.n Tb)),.int V.az,.int V.side]) (q:=(bK (aX Hq)).get!) ⋯ ?_ ?_ (args_cons (e:=yZ) ⋯ hA ?_) ⋯).trans (.trans (b:=(ev (n+127)).C "_law_told" [.list (aQ (lf V.n Tb)),.int V.az,.int V.side] []) ⋯ ((Oo (n+13) (lf V.n Tb) V.az V.side (by lia) (by rw[eA];exact O.rJ) O.B4 (by lia)).trans (by rw[hm])))) rfl)).trans ?_
   ·rcases sV with h|⟨i,h⟩<;>subst h<;>kernel_rfl
   ·rcases sV with h|⟨i,h⟩<;>subst h<;>kernel_rfl
   ·rcases sV with h|⟨i,h⟩<;>subst h<;>kernel_rfl
   ·rcases sV with h|⟨i,h⟩<;>subst h<;>kernel_rfl
   ·rcases sV with h|⟨i,h⟩<;>subst h<;>kernel_rfl
  have e1:(ev (n+128)).S bg (V.lq w u z (V.all w) (V.fP w u++rb Tb k m)) Hr=some (.next,V.lq w u z (V.all w) (V.fP w u++rb Tb k m)):=by
   have hE:(ev (n+125+uD.length)).E bg (hide ["texts"] (V.lq w u z (V.all w) (V.fP w u++rb Tb k m)).loc) (aX Hr)=some (.bool false):=GA ⋯ ⋯ λc hc i=>by
    have h5:uD=[uD.getD 0 default,uD.getD 1 default]:=⋯
    rw[h5]at hc;simp only[cc,gG,or_false]at hc;rw[show n+125+i=n+i+125 by exact jq n 125 i];rcases hc with h|h<;>rw[h]
    ·refine f_ (n:=n+i+124) (q:=(dw (uD.getD 0 default)).get!) (x:=.int k) ⋯ ⋯ (.trans (b:=(ev (n+i+123)).C "_law_told" [.list (aQ Tb),.int V.other,.int (-V.side)] []) ⋯ ?_) ⋯ (A7 rfl);refine ao (Oo (n+i+9) Tb V.other (-V.side) (by lia) (by rw[hl];exact O.MA) (by have :=O.B4;lia) (by lia)) ?_;rw[h1]
    ·refine f_ (n:=n+i+124) (q:=(dw (uD.getD 1 default)).get!) ⋯ ⋯ ⋯ (.trans (b:=(((mU [.list (aQ Tb)]).bind λx=>(mU [.list (ap (bX V.n))]).bind λy=>bj .Sub x y).bind λx=>bj .Add x (.int 1))) ⋯ ?_) (A7 h2);rw[xL,Ei];rfl
   rw[show uD.length=2 by kernel_rfl]at hE;exact(cK ⋯ (aY hE rfl) rfl).trans ⋯
  refine ao (bf (n:=n+129) 0 ⋯ e0 ..) ?_;rw[bf (n:=n+128) 1 ⋯ e1];kernel_rfl
 rcases hr with h|⟨T',k',m',h⟩
 ·subst h;exact .trans ⋯ (key [] (.inl rfl))
 ·subst h;exact .trans ⋯ (key [(("mirror":Str),.int m')] (.inr ⟨m',rfl⟩))
theorem LV.Ok.acx(O:V.Ok): -250000<=V.an.sum/\V.an.sum<=250000:=by
 have h:(l:ac)->(∀c∈l,-50000<=c/\c<50000)-> -50000*(l.length:Int)<=l.sum/\l.sum<=50000*(l.length:Int):=λl=>by
  induction l with
  |nil=>exact λz=>⟨vv _,vv _⟩
  |cons c l ih=>intro h;have h1:=h c (ch ..);have h2:=ih λx hx=>h x (cf _ hx);rw[cg,ff];lia
 have h1:=h _ O.Ow;have :=O.le;rw[O.fu]at h1;lia
theorem LV.Ok.over(O:V.Ok)(T:V.Tn w u):V.over w=jA V.an V.az:=by delta LV.over jA;rw[O.ce T]
theorem LV.Ok.Hs(O:V.Ok)(w:Nat):(V.small w).sum=bZ (V.row w)+V.left w:=by
 have h:(l:ac)->(k:Nat)->(x:Int)->k<l.length->(l.take k++[x]++l.drop (k+1)).sum=l.sum-l.getD k 0+x:=λl=>by
  induction l with
  |nil=>intro k x h;exact bx h (Jp _)
  |cons c l ih=>
   intro k x h;induction k with
   |zero=>show(x::l).sum=(c::l).sum-c+x;refine ao cg ?_;rw[cg];lia
   |succ k=>show(c::(l.take k++[x]++l.drop (k+1))).sum=(c::l).sum-l.getD k 0+x;refine ao cg ?_;rw[cg,ih k x (Ra h)];lia
 unfold LV.small;refine ao (h _ _ _ (by rw[O.fu];exact O.rJ)) ?_;unfold LV.over;lia
theorem LV.Ok.acy(O:V.Ok)(w:Nat):dP (V.small w) V.az=dP V.an V.az:=by unfold dP;rw[O.nW,O.fu];refine lH λp hp=>?_;have zE:=bI.mp (jT.mp hp).1;unfold resT;rw[O.nW,O.fu];have e1:=Kh (l:=V.an) (x:=V.an.getD V.az 0+V.left w-V.over w) (by rw[O.fu];exact O.rJ) (by rw[O.fu];exact zE);rw[show(V.small w).getD p 0=V.an.getD p 0 from e1.trans (aJ (Fc hp))]
theorem LV.Ok.Oz(O:V.Ok)(T:V.Tn w u):Mine.Internal.ce (V.small w) V.az=V.row w/\jA (V.small w) V.az=V.left w:=by
 have h1:Mine.Internal.ce (V.small w) V.az=V.row w:=by rw[<-O.ce T];unfold Mine.Internal.ce;rw[O.nW,O.fu,O.acy]
 refine⟨h1,?_⟩;unfold jA;rw[h1,O.Hs];exact Int.sub_eq_iff_eq_add'.mpr rfl
theorem OA(O:V.Ok){Tb:ac}(hl:Tb.length=V.n){k:Int}(h:dJ (Mine.Internal.ce Tb V.az) (jA Tb V.az)=k):kb Tb V.other=k/\k-kb (lf V.n Tb) V.az=Tb.sum-gm (V.n-1)+1:=by have hn:=O.n;rw[<-hl]at hn;have h1:=O.rJ;have h2:=O.MA;rw[<-hl]at h1 h2;refine⟨(Tv hn h1 h2 O.Xs).trans h,?_⟩;have :=VX hn h1;rw[h,hl]at this;exact this
def LV.tbs(V:LV)(w:Nat):List (ac×Int):=[(V.an,dJ (V.row w) (V.over w)),(V.small w,V.rank w)]
theorem Zv(n:Nat)(O:V.Ok)(z:Nat)(T:V.Tn w u):∃r,(ev (n+140)).S bg (V.lq w u z (V.all w) (V.fP w u)) (au bH 23)=some (.next,V.lq w u z (V.all w) (V.fP w u++r))/\Cs r:=by
 have hw:=(O.wl w).2;have hcs:=O.acx;have hrs:=vD T.sn;have htr:=KH _ O.n;rw[(O.wv w).1]at hrs;obtain⟨h1,h2⟩:=OA O O.fu (by rw[O.ce T,<-O.over T]);obtain⟨h3,h4⟩:=OA (k:=V.rank w) O (O.nW w) (by rw[(O.Oz T).1,(O.Oz T).2];rfl);have hlb:=V.yE w;refine c_ (O.uB T) λy ha y=>?_;have i1:=Oy (n+9) O w u z (r:=[]) (.inl rfl) (V.an,dJ (V.row w) (V.over w)) O.fu h1 h2 ⟨by dsimp only;lia,by dsimp only;lia⟩;have i2:=Oy (n+9) O w u z (r:=rb V.an (dJ (V.row w) (V.over w)) (kb (lf V.n V.an) V.az)) (.inr ⟨_,_,_,rfl⟩) (V.small w,V.rank w) (O.nW w) h3 h4 ⟨by dsimp only;rw[O.Hs];lia,by dsimp only;rw[O.Hs];lia⟩;refine⟨rb (V.small w) (V.rank w) (kb (lf V.n (V.small w)) V.az),?_,.inr ⟨_,_,_,rfl⟩⟩;have hE:(ev (n+139)).E bg (hide ["texts"] (V.lq w u z (V.all w) (V.fP w u)).loc) (aX (au bH 23))=some (.list ((V.tbs w).map QG)):=by refine act ⋯ (args_cons ⋯ (v6 ⋯ (args_cons ⋯ ⋯ (args_cons ⋯ ?_ args_nil)) rfl) (args_cons ⋯ ⋯ args_nil)) rfl;refine .trans (b:=((((tI [.list (ap (V.W w))]).bind λv=>(some [PV.int (V.over w),.int V.side]).map λvs=>v::vs).bind λvs=>(ev (n+136)).C "_law_rank" vs []))) ⋯ ?_;rw[Az _ (by lia)];exact Gr (n+31) _ _ _ (O.Pi w) (by unfold LV.over;lia) O.B4
 refine(jh ⋯ (aY hE ?_) rfl).trans ?_
 ·show(b_ (aQ _)&&true&&((b_ (aQ _)&&true)&&true))=true;rw[show b_ (aQ V.an)=true from jZ _,show b_ (aQ (V.small w))=true from jZ _];rfl
 ·exact(lT i1).trans (lT i2)
theorem fN{b:ad}(k:Nat)(s:Stmt)(hk:xE k b.length=true)(hs:au b k=s)(h:(ev n).S sc st s=some (.next,aE)):(ev (n+1)).B sc st (b.drop k)=(ev n).B sc aE (b.drop (k+1)):=bf k hk (by rw[hs];exact h)
def Da:ad:=bH.take (bH.length-2)
theorem XA(n:Nat)(O:V.Ok)(hc:(ev (n+197)).C "_law_cells" [.list (aQ V.sc)] []=some (.list (aQ V.cs))):∃w u z r,V.Tn w u/\Cs r/\(ev (n+200)).B bg ⟨[("script",.list (aQ V.sc))],[],[]⟩ Da=some (.next,V.lq w u z (V.all w) (V.fP w u++r)):=by
 obtain⟨w,u,z,T,uF⟩:=Y_ (n+98) O;refine br (Zv (n+36) O z T) λr h23 hr=>?_;have h0:(ev (n+199)).S bg ⟨[("script",.list (aQ V.sc))],[],[]⟩ (au bH 0)=some (.next,V.st 2):=
  (dr (n:=n+198) (x:="cells") ⋯ ⋯ (aY (.trans (b:=(ev (n+197)).C "_law_cells" [.list (aQ V.sc)] []) ⋯ hc) (jZ _))).trans ⋯
 replace uF:(ev (n+188)).S bg (V.lp V.a0 []) (au bH 11)=some (.next,V.lp ⟨V.i5,[w],V.W u,V.lead u⟩ (V.six z)):=uF;have h13:(ev (n+186)).S bg (V.lq w u z V.i5 []) (au bH 13)=some (.next,V.lq w u z (V.all w) []):=Za (n+136) O w u z;refine⟨w,u,z,r,T,hr,?_⟩;refine ao (fN 0 _ ⋯ ⋯ h0) ?_;rw[fN 1 _ ⋯ ⋯ (aa4 (n+168) O),fN 2 _ ⋯ ⋯ (aa5 (n+167) O),fN 3 _ ⋯ ⋯ (aa6 (n+166) O),fN 4 _ ⋯ ⋯ (aa7 (n+165) O),fN 5 _ ⋯ ⋯ (aa8 (n+164) O),fN 6 _ ⋯ ⋯ (aa9 (n+83) O),fN 7 _ ⋯ ⋯ (aa_ (n+162) O),fN 8 _ ⋯ ⋯ (aa' (n+161) O),fN 9 _ ⋯ ⋯ (aba (n+120) O),fN 10 _ ⋯ ⋯ (Y9 (n+159) V),fN 11 _ ⋯ ⋯ uF,fN 12 _ ⋯ ⋯ (Y' (n+157) V w u z),fN 13 _ ⋯ ⋯ h13,fN 14 _ ⋯ ⋯ (Zc (n+145) O w u z),fN 15 _ ⋯ ⋯ (Zg (n+124) O z T),fN 16 _ ⋯ ⋯ (Zh (n+153) O z T),fN 17 _ ⋯ ⋯ (Zi (n+102) O z),fN 18 _ ⋯ ⋯ (Zo (n+111) O z T),fN 19 _ ⋯ ⋯ (Zp (n+140) O z T),fN 20 _ ⋯ ⋯ (Zq (n+139) O z),fN 21 _ ⋯ ⋯ (Zr (n+138) O z T),fN 22 _ ⋯ ⋯ (Zu (n+47) O z T),fN 23 _ ⋯ ⋯ h23];kernel_rfl
theorem tS{l:List α}(h:l.length=n+1){P:List α->Prop}(k:∀a r,r.length=n->P (a::r)):P l:=by
 induction l with
 |nil=>exact bx h.symm (agx n)
 |cons a r=>exact k a r (mM h)
@[elab_as_elim] theorem abo {l:List α} (h:l.length=7) {P:List α->Prop} (k:∀a b c d e f g,P [a,b,c,d,e,f,g]):P l:=
 tS h λa r h=>tS (P:=λr=>P (a::r)) h λb r h=>tS (P:=λr=>P (a::b::r)) h λc r h=>tS (P:=λr=>P (a::b::c::r)) h λd r h=>tS (P:=λr=>P (a::b::c::d::r)) h λe r h=>
  tS (P:=λr=>P (a::b::c::d::e::r)) h λf r h=>tS (P:=λr=>P (a::b::c::d::e::f::r)) h λg r h=>IH h▸k a b c d e f g
theorem vg(a:Int){b:Nat}(h:0<b):∃k:Nat,a.fmod b=k/\k<b:=
 have hb:=gI.mpr h
 ⟨(a.fmod b).toNat,(ri (jQ a hb)).symm,(xx (jQ a hb)).mpr (mJ a hb)⟩
theorem XB{a d:Int}{h o:Nat}(hn:0<n)(h0:0<=d)(h1:d<(n:Int)-1)(e1:a.fmod n=h)(e2:(a+1+d).fmod n=o):o≠h:=λe=>by have e3:=e2.trans ((aR _ e).trans e1.symm);rw[kH _ (cz n),kH _ (cz n),Int.emod_eq_emod_iff_emod_sub_eq_zero,DP,DW a,vm,agu (Int.add_nonneg (by decide) h0) (Int.add_lt_of_lt_sub_left h1)]at e3;exact Ap (z6 (by decide) (Int.add_le_add_left h0 1)) e3
theorem XC(n:Nat)(sc:ac)(hs:sc.length<=63):∃(V:LV) (w u z:Nat) (r:Loc),V.sc=sc/\V.Ok/\Cs r/\(ev (n+200)).B bg ⟨[("script",.list (aQ sc))],[],[]⟩ Da=some (.next,V.lq w u z (V.all w) (V.fP w u++r)):=by
 obtain⟨cs,hl,_,hc⟩:=aaU (n+167) sc hs;revert hc;refine abo hl λc0 c1 c2 c3 c4 c5 c6 hc=>?_;obtain⟨m5,h5,l5⟩:=vg c0 (b:=5) (by decide);have gy:(3:Int)+(c0.fmod 5).fdiv 2=(3+m5/2:Nat):=by rw[show c0.fmod 5=m5 from h5,pp _ (by decide)];rfl
 have hn:3+m5/2∈cI:=(by decide :∀m<5,3+m/2∈cI) m5 l5;have h3:3<=3+m5/2:=lK ..;generalize 3+m5/2=n' at gy hn h3;have wB:0<n':=cZ (by decide) h3;obtain⟨az,OB,lh⟩:=vg (c0.fdiv 5) wB;have hd:(0:Int)<(n':Int)-1:=agt (gI.mpr (cZ (by decide) h3));obtain⟨other,NE,lo⟩:=vg (c0.fdiv 5+1+c6.fmod ((n':Int)-1)) wB;have fC:=XB wB (jQ c6 hd) (mJ c6 hd) OB NE;obtain⟨Iz,h16,l16⟩:=vg (c6.fdiv 16) (b:=2) (by decide);obtain⟨bl,hbl,lb⟩:=vg (c6.fdiv 32) (b:=3) (by decide);obtain⟨Pj,acz,acA⟩:=vg (c6.fdiv 960) (b:=2) (by decide);obtain⟨ex,hex,lx⟩:=vg (c6.fdiv 96) (RS (n'+Iz))
 let V:LV:=⟨sc,c0,c1,c2,c3,c4,c5,c6,n',az,other,n'+Iz,bl,ex,1-2*(c6.fdiv 960).fmod 2,qf.getD ((c6.fdiv 1920).fmod 4).toNat []⟩
 have O:V.Ok:=⟨hn,gy,OB,lh,NE,lo,fC,aR ((n':Int)+ ·) h16,((by decide :∀m<2,m=0\/m=1) Iz l16).imp (aR (n'+ ·)) (aR (n'+ ·)),hbl,lb,rfl,by
   show 1-2*(c6.fdiv 960).fmod 2=1\/1-2*(c6.fdiv 960).fmod 2= -1;rw[show(c6.fdiv 960).fmod 2=Pj from acz];exact(by decide :∀m<2,(1:Int)-2*(m:Nat)=1\/(1:Int)-2*(m:Nat)= -1) Pj acA,hex,Rv lx,rfl,λc hc=>by
  refine br (eH.mp hc) λx y bb=>?_;subst bb;exact⟨af6 (jQ (x+50000) (by decide)) 50000,Int.sub_lt_sub_right (mJ (x+50000) (by decide)) 50000⟩⟩
 obtain⟨w,u,z,r,_,hr,h⟩:=XA n O hc;exact⟨V,w,u,z,r,rfl,O,hr,h⟩
end
section
open PySem.Calls
structure FN(h:bT)(q:Str)(d:FD)(a:aw)(o:Obj)(fd:tF)(c:aw):Prop where
 ho:h.get? a=some o
 hc:o.cls=.type "function"
 hd:o.data=.func fd
 par:fd.params=d.args
 body:fd.body=.stmts d.body
 sc:fd.scope=d.scope
 gl:fd.globals=fS
 bi:fd.builtins=fZ
 Pp:fd.closure=[]
 qual:fd.qualname=q
 code:fd.code=.ref c
 oQ:h.CodeRec fd.code fd.qualname
 Hw:∀mk∈gi,(fnOf mk.fn).map (·.scope.names)=some d.scope.names->c=mk.c/\q++".<locals>."++mk.nm=mk.qual
 dfl:dfltOk h d fd=true
theorem UR{q:Str}{d:FD}(e:codeOk h q d v=true):∃c,v=.ref c/\h.CodeRec v q/\∀mk∈gi,(fnOf mk.fn).map (·.scope.names)=some d.scope.names->c=mk.c/\q++".<locals>."++mk.nm=mk.qual:=by
 induction v with
 |ref c=>
  refine be e λe1 e2=>⟨c,rfl,?_,λmk hm hs=>?_⟩
  ·cases ho:h.get? c with
   |none=>rw[ho]at e1;cases e1
   |some o=>
    obtain⟨oc,od,dt,sl⟩:=o;rw[ho]at e1;induction dt with
    |fields vs=>
     dsimp only at e1;induction hv:(vs[1]? :ai)with
     |none=>rw[hv]at e1;cases e1
     |some w=>
      rw[hv]at e1;induction w with
      |str x t=>exact⟨c,_,vs,t,rfl,ho,rfl,by refine ao hv ?_;rw[bu e1]⟩
      |_=>cases e1
    |_=>cases e1
  ·have e3:=cF.mp e2 mk hm;rw[bh hs]at e3;exact be e3 λa b=>⟨beq_iff_eq.mp a,bu b⟩
 |_=>cases e
theorem ME{q:Str}{d:FD}{v:ai}(e:vR h q d v=some (d.args,.stmts d.body,d.scope,true)):∃a o fd c,v=some (.ref a)/\FN h q d a o fd c:=by
 unfold vR at e;induction v with
 |none=>exact aK e
 |some w=>
  induction w with
  |ref a=>
   dsimp only at e;cases ho:h.get? a with
   |none=>rw[ho]at e;exact aK e
   |some o=>
    obtain⟨oc,od,dt,sl⟩:=o;rw[ho]at e;induction dt with
    |func fd=>have e:=av e;have e1:=aR Prod.fst e;have e2:=aR (λx=>x.2.1) e;have e3:=aR (λx=>x.2.2.1) e;have e4:=aR (λx=>x.2.2.2) e;dsimp only at e1 e2 e3 e4;refine be e4 λe4 f7=>be e4 λe4 f6=>be e4 λe4 f5=>be e4 λe4 f4=>be e4 λe4 f3=>be e4 λf1 f2=>eW (UR f6) λc k1 k2 k3=>?_;have hq:=bu f5;exact⟨a,_,fd,c,rfl,⟨ho,beq_iff_eq.mp f1,rfl,e1,e2,e3,beq_iff_eq.mp f2,beq_iff_eq.mp f3,dd f4,hq,k1,hq▸k2,k3,f7⟩⟩
    |_=>exact aK e
  |_=>exact aK e
theorem XD:(qk++ni).all (λq=> !ua q.2.args||ng q.2)=true:=⋯
theorem Fd(h:we v=true):v=.none:=by induction v with |none=>rfl|_=>cases h
theorem Zw(h:Hx v=true):∃t,v=.int 0 t:=by
 induction v with
 |int i t=>exact⟨t,by rw[bu h]⟩
 |_=>cases h
theorem Lw{n:Nat}{l:List α}(h:l.length=n+1):∃x r,l=x::r/\r.length=n:=by
 induction l with
 |nil=>exact bx h.symm (agx n)
 |cons a r=>exact⟨a,r,rfl,mM h⟩
theorem XF{l:List α}(h:l.length=2):∃x y,l=[x,y]:=
 let⟨x,r,e,h⟩:=Lw h;let⟨y,r',e',h⟩:=Lw h;⟨x,y,by refine ao e ?_;rw[e',IH h]⟩
theorem pre_of{q:Str}{d:FD}{a c:aw}(F:FN h q d a o fd c)(hm:(q,d)∈qk++ni\/∃q',(q',d)∈qk++ni):∃t,∀s:aB,(∀b o,h.get? b=some o->s.heap.get? b=some o)->om s d fd t:=by
 have hd:=F.dfl;unfold dfltOk at hd;induction hb:ua d.args with
 |false=>rw[hb,aJ (by decide)]at hd;exact⟨0,λs z=>⟨F.par,λz=>Fd hd,λw=>by rw[hb]at w;cases w⟩⟩
 |true=>
  rw[hb,aA rfl]at hd;have hF:ng d=true:=by
   have key:∀q',(q',d)∈qk++ni->ng d=true:=λq' hq=>by have :=cF.mp XD _ hq;dsimp only at this;rw[hb]at this;exact this
   rcases hm with w|⟨q',w⟩
   ·exact key _ w
   ·exact key _ w
  cases hT:fd.defaults with
  |ref T=>
   cases hK:fd.kwdefaults with
   |ref Kd=>
    rw[hT,hK]at hd;refine be hd λhd h3=>be hd λh1 h2=>?_;cases IB:h.get? T with
    |none=>rw[IB]at h1;cases h1
    |some oT=>
     obtain⟨oc,od,dt,sl⟩:=oT;rw[IB]at h1;induction dt with
     |seq vs n=>
      refine gg h1 λg1 g2 g3=>?_;obtain⟨vs⟩:=vs;refine wx (XF (show vs.length=2 from bu g1)) λx y bb=>?_;subst bb
      ·refine oE (Zw (show Hx x=true from g2)) λt ht=>?_;have hy:=Fd (show we y=true from g3);subst ht hy;refine⟨t,λs k=>WX (rF hF) hb F.par hT (k _ _ IB) rfl hK ((Heap.Ns.of_isNs h2).keeps k) ?_⟩;cases zM:h.nsMap Kd "key" with
       |none=>rw[zM]at h3;cases h3
       |some v=>rw[zM]at h3;rw[Fd (show we v=true from h3)]
     |_=>cases h1
   |_=>rw[hT,hK]at hd;cases hd
  |_=>rw[hT]at hd;cases hd
theorem Lx{l:ad}{n:Str}{d:FD}(e:Fk l n=some d):(n,d)∈Cw l:=lL e
theorem BC:(as:List aw)->(o6 h as).In h
 |[],a,o,e=>aK e
 |b::as,a,o,e=>by
  unfold o6 at e;cases hb:h.get? b with
  |none=>rw[hb]at e;exact BC as a o e
  |some ob=>
   rw[hb]at e;dsimp only at e;rw[dp]at e;cases hq:a==b with
   |true=>rw[hq]at e;rw[beq_iff_eq.mp hq,hb];exact e
   |false=>rw[hq]at e;exact BC as a o e
theorem US:top.filterMap constOf=[(("_DIV_LIMIT":Str),PV.int 4000)]:=⋯
noncomputable abbrev GY(w:World)(hb:bT):bE:=⟨PP,w,hb,hb.nsMap fS,hb.nsMap fZ,o6 hb wC,CA,gi⟩
theorem MF{w:World}{hb:bT}{q:Str}{d:FD}{a c:aw}(F:FN hb q d a o fd c)(hm:∃q',(q',d)∈qk++ni):l9 (GY w hb) d q a:=
 ⟨o,fd,c,F.ho,F.hc,F.hd,pre_of F (.inr hm),F.body,F.sc,F.gl,F.bi,F.Pp,F.code,F.oQ,F.qual,F.Hw⟩
theorem Zx:∀m∈gi,∀m'∈gi,m.P=m'.P->m=m':=by intro m hm m' zM h;simp only[gi,cc,gG,or_false]at hm zM;rcases hm with e|e|e|e<;>subst e<;>rcases zM with e|e|e|e<;>subst e<;>first |rfl|exact bx h (by decide)
theorem XG:∀q∈BK,∃mk∈gi,mk.fn=q.1/\mk.line=q.2.1/\mk.col=q.2.2.1/\mk.nm=q.2.2.2:=by
 intro q hq;simp only[BK,cc,gG,or_false]at hq;rcases hq with e|e|e|e<;>subst e
 ·exact⟨_,ch ..,rfl,rfl,rfl,rfl⟩
 ·exact⟨_,cf _ (ch ..),rfl,rfl,rfl,rfl⟩
 ·exact⟨_,cf _ (cf _ (ch ..)),rfl,rfl,rfl,rfl⟩
 ·exact⟨_,cf _ (cf _ (cf _ (ch ..))),rfl,rfl,rfl,rfl⟩
theorem Wb{o:ai}(h:N4 o=true):∃t,o=some (.int 4000 t):=by
 induction o with
 |none=>cases h
 |some v=>induction v with
  |int i t=>exact⟨t,by rw[show i=4000 from bu h]⟩
  |_=>cases h
theorem Ly{o:Option CFound}(h:Gc x o=true):∃t,o=some (.val (.str x t)):=by
 induction o with
 |none=>cases h
 |some v=>induction v with
  |val v=>induction v with
   |str y t=>exact⟨t,by rw[show y=x from bu h]⟩
   |_=>cases h
  |_=>cases h
theorem NF{hb:bT}(L:look hb=want):∀n∈sa,hb.nsMap fZ n=if n="enumerate" then some (.type "enumerate")else if n="reversed" then some (.type "reversed")else if n="ValueError" then some (.type "ValueError")else some (oR n):=by have l4:=aR (λx=>x.2.2.2) L;exact Jc.mp (show sa.map (hb.nsMap fZ)=sa.map λn:Str=>if n="enumerate" then some (.type "enumerate")else if n="reversed" then some (.type "reversed")else if n="ValueError" then some (.type "ValueError")else some (oR n) from l4.trans ⋯)
theorem Zy{hb:bT}(L:look hb=want):hb.nsMap fS "ValueError"=none/\hb.nsMap fZ "ValueError"=some (.type "ValueError"):=by have l3:Bx hb=true:=aR (λx=>x.2.2.1) L;refine be l3 λz l3=>be l3 λz l3=>be l3 λm3 z=>⟨jp.mp (cF.mp m3 _ (by decide)),(NF L _ (by decide)).trans ((aJ (by decide)).trans ((aJ (by decide)).trans (aA rfl)))⟩
theorem Zz(w:World){hb:bT}(L:look hb=want){p:Program}{loose:af}{mean:ExcName->ai}(T:Top p loose mean (hb.nsMap fS) (hb.nsMap fZ) hb)(tb:∀m∈gi,hb.get? m.P=none):bY (GY w hb):=by
 have l1:=Jc.mp (show qk.map (λq=>vR hb q.1 q.2 (hb.nsMap fS q.1))=qk.map (λq=>some (q.2.args,.stmts q.2.body,q.2.scope,true)) from aR Prod.fst L);have l2:=Jc.mp (show ni.map (λq=>vR hb ("Whitespace."++q.1) q.2 (Gb hb q.1))=ni.map (λq=>some (q.2.args,.stmts q.2.body,q.2.scope,true)) from aR (λx=>x.2.1) L);have l3:Bx hb=true:=aR (λx=>x.2.2.1) L;have l4:=NF L;refine be l3 λz l3=>be l3 λz l3=>be l3 λm3 l3=>be l3 λm4 l3=>be l3 λm5 l3=>be l3 λm6 m7=>?_;have no:∀n∈sa,hb.nsMap fS n=none:=λn hn=>jp.mp (cF.mp m3 n hn);have hC:hb.nsMap fS "Whitespace"=some (.ref CA):=beq_iff_eq.mp m5;have Pk:∀n d,fnOf n=some d->∃a,hb.nsMap fS n=some (.ref a)/\l9 (GY w hb) d n a:=λn d e=>by have hm:=Lx e;refine MI (ME (l1 (n,d) hm)) λa o fd c hv F=>⟨a,hv,MF F ⟨n,Ri _ hm⟩⟩
 refine be m6 λc1 m6=>be m6 λc2 m6=>be m6 λc3 m6=>be m6 λc4 m6=>be m6 λc5 m6=>be m6 λc6 m6=>be m6 λc7 m6=>gg (show(_&&_&&_)=true from(Bool.and_assoc ..).trans m6) λc8 c9 zh=>?_;have c7:=λn hn=>be (cF.mp c7 n hn) λa b=>(⟨beq_iff_eq.mp a,beq_iff_eq.mp b⟩:_/\_);have Pl:∀n∈rZ,n∈sa/\hb.nsMap fZ n=some (oR n):=λn hn=>by
  have wO:n∈sa:=cf _ (cf _ (cf _ hn));have h:=l4 n wO;have e1:n≠"enumerate":=λe=>by rw[e]at hn;exact bx hn (by decide)
  have e2:n≠"reversed":=λe=>by rw[e]at hn;exact bx hn (by decide)
  have e3:n≠"ValueError":=λe=>by rw[e]at hn;exact bx hn (by decide)
  rw[aJ e1,aJ e2,aJ e3]at h;exact⟨wO,h⟩
 refine⟨⟨⟨_,_,_,T⟩,BC wC,λb ⟨m,hm,e⟩=>e▸tb m hm⟩,?_,Zx,XG,λmk hm=>?_,λx p e=>?_,Pk,λn d e=>?_,hC,λn hn=>(Pl n hn).2,?_,?_,c1,c2,beq_iff_eq.mp c3,c4,
  λn hn=>(c7 n (cN.mp hn)).1,c5,c6,λn hn=>(c7 n (cN.mp hn)).2,?_,?_⟩
 ·show ∀mk∈gi,mk.fn∈tJ;decide
 ·exact be (cF.mp m7 mk hm) λa z q=>by rw[show hb.get? mk.c=none from q]at a;exact nomatch a
 ·unfold glob at e;by_cases hc:rZ.contains x=true
  ·replace e:=ao (aT (aA hc)) e;have hm:=cN.mp hc;refine oA (Pl x hm) λh1 h2=>?_;rw[<-av e];exact⟨oR x,.inr ⟨no x h1,h2⟩,λV=>⟨no x h1,h2⟩⟩
  ·replace e:=ao (aT (aJ hc)) e;induction hf:fnOf x with
   |some d=>rw[hf]at e;refine br (Pk x d hf) λa h1 z=>?_;rw[<-av e];exact⟨.ref a,.inl h1,λV=>h1⟩
   |none=>
    rw[hf]at e;dsimp only at e;by_cases hw:x="Whitespace"
    ·replace e:=ao (aT (aA hw)) e;rw[<-av e,hw];exact⟨.ref CA,.inl hC,λV=>hC⟩
    ·replace e:=ao (aT (aJ hw)) e;have hm:=lL e;rw[US]at hm;cases cW hm;refine oE (Wb m4) λt ht=>⟨.int 4000 t,.inl ht,λV=>⟨t,rfl⟩⟩
 ·have hm:(n,d)∈ni:=by
   unfold lV at e;unfold ni;cases hc:Mine.Internal.findCls top "Whitespace" with
   |none=>rw[hc]at e;exact aK e
   |some b=>rw[hc]at e;exact Lx e
  refine MI (ME (l2 (n,d) hm)) λa o fd c hv F=>?_;unfold Gb at hv;induction h1:findIn (o6 hb wC) (.ref CA) n with
  |none=>rw[h1]at hv;exact aK hv
  |some r=>
   rw[h1]at hv;induction r with
   |none=>exact aK hv
   |some v=>
    induction v with
    |ref a'=>refine aZ hv λh2 hv=>?_;cases av hv;exact⟨a,rfl,beq_iff_eq.mp h2,MF F ⟨n,afR _ hm⟩⟩
    |_=>exact aK hv
 ·exact⟨no _ (by decide),(l4 "enumerate" (by decide)).trans (aA rfl)⟩
 ·exact⟨no _ (by decide),(l4 "reversed" (by decide)).trans ((aJ (by decide)).trans (aA rfl))⟩
 ·refine oE (Ly c9) λt ht=>⟨_,t,c8,ht⟩
 ·refine oE (Ly zh) λt ht=>⟨_,t,c8,ht⟩
theorem Lz(h:bT)(a b:aw)(e:h.get? b=none\/b=a):(h.update a λo=>{o with data:=.freed}).get? b=none:=by
 by_cases q:a=b
 ·subst q;delta Heap.update Heap.get?;dsimp only;rw[Array.getElem?_modify,aA rfl];cases h.objs[a]? <;>rfl
 ·refine ao (rd h _ q) ?_;exact e.resolve_right λw=>q w.symm
theorem abp(l:List Maker)(h:bT)(x:Maker)(hx:x∈l):(er h l).get? x.P=none:=by
 induction l with
 |nil=>exact bx hx gG
 |cons m r ih=>exact Lz _ _ _ ((cc.mp hx).elim (λe=>.inr (aR Maker.P e)) λe=>.inl (ih e))
theorem ZA(l:List Maker)(h:bT)(b:aw)(o:Obj)(e:(er h l).get? b=some o):h.get? b=some o:=by
 induction l with
 |nil=>exact e
 |cons m r ih=>exact(lM (m.P=b)).elim (λq=>bx ((Lz (er h r) _ _ (.inr q.symm)).symm.trans e) nofun) λq=>ih ((rd (er h r) _ q).symm.trans e)
def B5(w:World)(h:bT):Prop :=∃hb,(∀b o,hb.get? b=some o->h.get? b=some o)/\look hb=want/\(∃p loose mean,Top p loose mean (hb.nsMap fS) (hb.nsMap fZ) hb)/\(∀m∈gi,hb.get? m.P=none)/\∀m∈gi,h.get? m.P=some (is #[])
theorem hY(w:World)(s:aB)(e:yI s=vX):B5 w s.heap:=by unfold yI vX at e;refine oA (xz e) λe1 e=>oA (xz e) λe2 e3=>?_;have e3:=Jc.mp e3;unfold LJ LK at e1;refine oA (xz e1) λa1 e1=>oA (xz e1) λa2 e1=>oA (xz e1) λa3 a4=>?_;have l3:=aR (λx=>x.2.2.1) e2;refine be l3 λz l3=>be l3 λm2 z=>⟨_,ZA gi s.heap,e2,⟨_,_,_,top_of_seenO (s:=Pq s) a1 a2 a3 m2 a4 (by decide +kernel)⟩,abp gi s.heap,e3⟩
theorem hYk(w:World)(h h':bT)(x:B5 w h)(k:∀b o,h.get? b=some o->h'.get? b=some o):B5 w h':=
 let⟨hb,a,b,c,d,e⟩:=x;⟨hb,λz z q=>k _ _ (a _ _ q),b,c,d,λm hm=>k _ _ (e m hm)⟩
theorem XH(k:∀b o,hb.get? b=some o->h.get? b=some o)(L:look hb=want):∀m∈gi,CodeHd h m.c m.P:=λm hm=>by have l3:Bx hb=true:=aR (λx=>x.2.2.1) L;refine be l3 λz l3=>be l3 λz l3=>be l3 λz l3=>be l3 λz l3=>be l3 λz l3=>be l3 λz l3=>be (cF.mp l3 m hm) λz q=>(codeHd_of_K (BC [m.c]) q).keeps k
theorem ZB(k:∀b o,hb.get? b=some o->s.heap.get? b=some o)(L:look hb=want)(tb:∀m∈gi,s.heap.get? m.P=some (is #[]))(g:AllBare s.gens):Inv (GY w hb) s:=
 ⟨k,λm hm=>⟨XH k L m hm,.inl (tb m hm)⟩,g⟩
end
section
open PySem.Calls
variable{n k w:Nat}{sc cs:aH}{A:dQ}{pos:Pos}{r:Rec}{st:St}{a:aw}{P:Prop}{own:al}{fl:bG}{d:FD}{c:Bool}{body:ad}{E:ar->ak}{b:Int}{nm:Str}{ns:af}{it:ar}{M:Model}
noncomputable abbrev jJ(t:aw)(T:ar):Obj:={cls:=.type "ValueError",data:=.fields #[.ref t,T,.none,.none,.bool false,.none]}
def Tr(base h:bT)(e t:aw)(fl:ar):Prop :=∃T oT ts,h.get? e=some (jJ t (.ref T))/\base.get? T=none/\T≠e/\h.get? T=some oT/\oT.data=.fields ts/\ts[3]? =some fl
structure kG(base:bT)(l:List Env)(e t:aw)(h:bT):Prop where
 y0:base.StaysIn h
 new:base.get? e=none
 fr:h.FunFrames base l
section
variable{base:bT}{outer l:List Env}{L e t:aw}{Q:Unit->ak}
theorem kG.upd(F:kG base l e t h){b:aw}{ob:Obj}{vs:aj}(f:aj->aj)(hb:h.get? b=some ob)(hd:ob.data=.fields vs)(hn:base.get? b=none):
  kG base l e t (h.update b (DO f))/\h.UpToSlots (h.update b (DO f)):=by
 have nr:∀c o,h.get? c=some o->(∀ws,o.data≠.fields ws)->b≠c:=λc o hc ii q=>by rw[<-q,hb]at hc;obtain rfl:=av hc;exact ii vs hd
 have dP:∀c o,h.get? c=some o->b≠c->(h.update b (DO f)).get? c=some o:=λc o hc q=>(rd _ _ q).trans hc;exact⟨⟨λc o hc=>dP c o (F.y0 c o hc) λq=>(by rw[<-q,hn]at hc;exact aK hc),F.new,F.fr.of_keeps λc o hc ii=>⟨o,dP c o hc (nr c o hc ii),rfl⟩⟩,
  λc o hc ii=>⟨o.slots,dP c o hc (nr c o hc ii)⟩⟩
theorem FP(F:kG base l e t s.heap){fl:ar}(T:Tr base s.heap e t fl)(h:∀h',kG base l e t h'->Tr base h' e t .none->s.heap.UpToSlots h'->Q () {s with heap:=h'}):bt M A (setFlight (.ref e) none) Q E s:=by obtain⟨T,oT,ts,he,hn,fC,hT,hd,h3⟩:=T;have ie:=(afx.mp h3).1;unfold setFlight;refine aP (mN he rfl (x:=.ref T) rfl ?_);refine eT (aA (show(tC T != Value.none)=true from by simp)) ?_;obtain⟨F',u⟩:=F.upd (·.setIfInBounds 3 ((none:Option aw).elim Value.none λf=>dc f)) hT hd hn;exact DN hT hd ie (h _ F' ⟨T,_,_,(rd _ _ fC).trans he,hn,fC,pq _ hT (Rc (I_ hd _)),I_ hd _,by simp [ie]⟩ u)
theorem entry{head:ar}{T0:ar}{b:Bool}(ez:A.frames=some (env::outer))(F:kG base (env::outer) e t s.heap)(hf:env.frame=some L)(he:s.heap.get? e=some (jJ t T0))
  (h:∀h',kG base (env::outer) e t h'->Tr base h' e t (dc L)->s.heap.UpToSlots h'->Q () {s with heap:=h'}):
  bt M A (do let a <-frameOf env;let pl <-entryPlaceOf L b;let b <-EntryCells.newEntry head a .none (dc L) .none pl;setField (.ref e) 1 b) Q E s:=by
 have acB:e∉(env::outer).filterMap (·.frame):=λhm=>by refine OE (F.fr.mem hm) λz o ho ii=>?_;replace ho:=ao (aT he) ho;obtain rfl:=av ho;exact ii _ rfl
 refine aP (wpAny_frameOf_fun ez F.fr hf λkY B6=>?_);refine aP (wpAny_entryPlaceOf λpl sK=>?_);delta EntryCells.newEntry newFields;refine aP (DA ?_ (sK.sizeOk5 _ _ _ _ _));have OC:=(B6.2.1 e acB).trans he;have OD:base.StaysIn kY:=λb o w9=>(B6.2.1 b λhm=>by replace w9:=ao (aT ((F.fr.mem hm).1)) w9;exact aK w9).trans (F.y0 b o w9);generalize hO:({cls:=.type "traceback",dict:=none,data:=.fields ([head,.ref L,.none,dc L,.none]++(if pl.isEmpty then cC 6 Value.none else pl)).toArray}:Obj)=O;have hOd:O.data=.fields ([head,.ref L,.none,dc L,.none]++(if pl.isEmpty then cC 6 Value.none else pl)).toArray:=by rw[<-hO]
 have hOf:O.isFreed=false:=by rw[<-hO];rfl
 have k2:∀b o,kY.get? b=some o->(kY.push O).get? b=some o:=λb o hb=>iJ _ hb;have F2:kG base (env::outer) e t (kY.push O):=⟨λb o hb=>k2 b o (OD b o hb),F.new,F.fr.of_keeps λb o hb z=>let⟨_,q⟩:=B6.2.2 b o hb;⟨_,k2 _ _ q,rfl⟩⟩;have GB:=k2 _ _ OC;refine oA (F2.upd (·.setIfInBounds 1 (tC kY.objs.size)) GB rfl F.new) λF3 u=>?_;have QH:=eO (fQ OC);refine DN GB rfl (show 1<6 by decide) (h _ F3 ⟨kY.objs.size,O,_,pq _ GB rfl,OD.fresh,QH.symm,(rd _ _ QH).trans (eF _ hOf),hOd,by simp⟩ ?_);exact Heap.UpToSlots.trans (λb o hb z=>let⟨sl,q⟩:=B6.2.2 b o hb;⟨sl,k2 _ _ q⟩) u
theorem note(ez:A.frames=some (env::outer))(F:kG base (env::outer) e t s.heap)(hf:env.frame=some L)(he:s.heap.get? e=some (jJ t .none)\/Tr base s.heap e t .none)
  (h:∀h',kG base (env::outer) e t h'->Tr base h' e t (dc L)->s.heap.UpToSlots h'->Q () {s with heap:=h'}):bt M A (tE (.ref e) env) Q E s:=by
 unfold tE;simp only[hf];rcases he with he|⟨T,oT,ts,he,hn,fC,hT,hd,h3⟩
 ·refine aP (mN he rfl (x:=.none) rfl ?_);refine eT (aJ (by decide)) ?_;exact entry ez F hf he h
 ·refine aP (mN he rfl (x:=.ref T) rfl ?_);refine eT (aA (show(tC T != Value.none)=true from by simp)) ?_;refine aP (mN hT hd h3 ?_);refine eT (aJ (show¬((Value.none==dc L)=true) from by simp [dc])) ?_;refine aP (DN hT hd (afx.mp h3).1 ?_);refine oA (F.upd (·.setIfInBounds 3 Value.none) hT hd hn) λF' u=>entry ez F' hf ((rd _ _ fC).trans he) λh' F3 T3 u3=>h h' F3 T3 (u.trans u3)
theorem leave(ez:A.frames=some (env::outer))(F:kG base (env::outer) e t s.heap)(hf:env.frame=some L)(he:s.heap.get? e=some (jJ t .none)\/Tr base s.heap e t .none)
  (h:∀h',kG base outer e t h'->Tr base h' e t .none->s.heap.UpToSlots h'->Q () {s with heap:=h'}):bt M A (leaving env (.ref e)) Q E s:=by
 unfold leaving;refine aP (note ez F hf he λh1 F1 T1 u1=>FP F1 T1 λh2 F2 T2 u2=>h h2 ⟨F2.y0,F2.new,F2.fr.2.2⟩ T2 (u1.trans u2))
end
theorem fo{t:Sem α}{Q:α->ak}(h:bt M A t Q EE s):bt M A t Q E s:=db h (λz z q=>q) λz z q=>q.elim
noncomputable abbrev vh(l:List Env):List aw:=l.filterMap (·.frame)
def Frs(G:bE)(h:bT)(l:List Env):Prop :=∀env∈l,env.scope.kind≠.module/\∃L o,env.frame=some L/\G.hb.get? L=none/\h.get? L=some o/\∀vs,o.data≠.fields vs
section
variable{base:bT}{l outer:List Env}{e t:aw}
theorem Frs.mem(F:Frs G h l){b:aw}(hb:b∈vh l):G.hb.get? b=none/\∃o,h.get? b=some o/\∀vs,o.data≠.fields vs:=by obtain⟨v,hv,hf⟩:=vk.mp hb;obtain⟨_,L,o,h1,h2,h3,h4⟩:=F v hv;rw[hf]at h1;obtain rfl:=av h1;exact⟨h2,o,h3,h4⟩
theorem Frs.keep(F:Frs G h l)(k:∀b o,h.get? b=some o->(∀vs,o.data≠.fields vs)->∃sl,h'.get? b=some {o with slots:=sl}):Frs G h' l:=λv hv=>
 let⟨h0,L,o,h1,h2,h3,h4⟩:=F v hv;let⟨_,q⟩:=k L o h3 h4;⟨h0,L,_,h1,h2,q,h4⟩
theorem Frs.run(F:Frs G h l):∀k:List Env,(∀v∈k,v∈l)->h.FunFrames (hideAll h (vh l)) k
 |[],_=>trivial
 |v::k,m=>by obtain⟨h0,L,o,h1,h2,h3,h4⟩:=F v (m v (.head _));exact⟨h0,⟨L,o,h1,hideAll_none _ (vk.mpr ⟨v,m v (.head _),h1⟩),h3,h4⟩,F.run k λw hw=>m w (.tail _ hw)⟩
theorem Inv.part(I:Inv G s)(k1:∀b o,G.hb.get? b=some o->h'.get? b=some o)(k2:∀b o vs,s.heap.get? b=some o->o.data=.fields vs->h'.get? b=some o):Inv G {s with heap:=h'}:=
 ⟨k1,λm hm=>by
  refine oA (I.tabs m hm) λbb b=>?_;obtain⟨o,vs,file,tf,flags,tg,CD,text,tt,e,r⟩:=bb;refine⟨⟨o,vs,file,tf,flags,tg,CD,text,tt,k2 _ _ _ e r.2.1,r⟩,?_⟩;rcases b with b|⟨c',b,o',mn,t',c1,c2,c3⟩
  ·exact .inl (k2 _ _ _ b rfl)
  ·exact .inr ⟨c',k2 _ _ _ b rfl,o',mn,t',k2 _ _ _ c1 c2,c2,c3⟩,I.bare⟩
theorem Inv.hide(I:Inv G s)(F:Frs G s.heap l):Inv G {s with heap:=hideAll s.heap (vh l)}:=
 I.part (λb o e=>hideAll_get _ (I.old b o e) λq=>by have w:=(F.mem q).1;rw[e]at w;exact nomatch w) λb o vs e d=>hideAll_get _ e λq=>by refine OE (F.mem q) λz o' w d'=>?_;rw[e]at w;obtain rfl:=av w;exact d' _ d
structure Rz(G:bE)(s:aB)(l:List Env)(e t:aw)(msg:Str)(base:bT)(s':aB):Prop where
 inv:Inv G {s' with heap:=base}
 os:s'.os=s.os
 keep:∀b o,s.heap.get? b=some o->¬G.tab b->b∉vh l->base.get? b=some o
 QI:kG base l e t s'.heap
 tr:s'.heap.get? e=some (jJ t .none)\/Tr base s'.heap e t .none
 tup:∃k,s'.heap.TupAt t [.str msg k]
 up:∀b o,s.heap.get? b=some o->(∀vs,o.data≠.fields vs)->∃sl,s'.heap.get? b=some {o with slots:=sl}
theorem Rz.leave{msg:Str}{Q:Unit->ak}(ez:A.frames=some (env::l))(hf:env.frame=some env.locals)(R:Rz G s1 (env::l) e t msg base s2)
  (I:Inv G s) (g:∀b o,s.heap.get? b=some o->¬G.tab b->s1.heap.get? b=some o) (os:s1.os=s.os) (new:s.heap.get? env.locals=none) (h:∀s',Rz G s l e t msg base s'->Tr base s'.heap e t .none->Q () s'):bt M A (leaving env (.ref e)) Q E s2:=by
 refine Mine.Internal.leave ez R.QI hf R.tr λh' F T u=>h _ ⟨R.inv,R.os.trans os,λb o ho nt=>?_,F,.inr T,let⟨k,q⟩:=R.tup;⟨k,q.of_slots u⟩,λb o ho nf=>?_⟩ T
 ·intro nl;refine R.keep b o (g b o ho nt) nt λq=>br (vk.mp q) λv hv iV=>?_;rcases cc.mp hv with w|w
  ·rw[w,hf]at iV;obtain rfl:=av iV;rw[new]at ho;cases ho
  ·exact nl (vk.mpr ⟨v,w,iV⟩)
 ·refine oE (R.up b o (g b o ho (I.ct ho (.inr (.inr nf)))) nf) λsl q=>oE (u b _ q nf) λsl' w=>⟨sl',w⟩
theorem Rz.made{msg:Str}{k:Tok}(I:Inv G s)(F:Frs G s.heap l)(m:Heap.MadeExc s.heap h' e "ValueError" [.str msg k]):∃t,Rz G s l e t msg (hideAll s.heap (vh l)) {s with heap:=h'}:=by
 refine eW m.there λt ht z hu=>⟨t,I.hide F,rfl,λb o ho z nl=>hideAll_get _ ho nl,⟨λb o ho=>m.keeps _ _ (of_hideAll _ ho),?_,?_⟩,.inl ht,⟨k,_,_,hu,rfl,rfl⟩,λb o ho z=>⟨o.slots,m.keeps _ _ ho⟩⟩
 ·cases q:(hideAll s.heap (vh l)).get? e with
  |none=>rfl
  |some o=>have w:=of_hideAll _ q;rw[m.new]at w;exact aK w
 ·exact(F.run l λz q=>q).of_keeps λb o ho z=>⟨o,m.keeps _ _ ho,rfl⟩
end
def qz:Str:="lo must be non-negative"
def Ct(e:Stmt):Expr:=(uq e (λt z z z=>some t) .none).getD default
theorem XI:∃p1 p2 p3 p4 p5 k r,(D "bisect_left").body=.If (Ct (au (D "bisect_left").body 0)) [.Raise (some (.Call (.Name "ValueError" p1) [.Constant (.str qz) k p2] [] p3)) .none p4] [] p5::r:=⟨_,_,_,_,_,_,_,rfl⟩
noncomputable abbrev ww(xs:ab)(x:Int):Loc:=[("a",.list xs),("x",.int x),("lo",.int (-1)),("hi",.none),("key",.none)]
theorem XJ(n)(xs)(x):(ev (n+5)).E (D "bisect_left").scope (hide [] (ww xs x++[])) (Ct (au (D "bisect_left").body 0))=some (.bool true):=⋯
section
variable{l:List Env}
theorem Frs.enter{s3:aB}(F:Frs G s.heap l)(I:Inv G s)(I2:Inv G s2)(ns:s2.heap.Ns env.locals m)(hk:env.scope.kind=.function)(hf:env.frame=some env.locals)(fresh:s.heap.get? env.locals=none)
  (st:∀b o,s.heap.get? b=some o->¬G.tab b->s2.heap.get? b=some o) (g3:bc G s2 s3):Frs G s3.heap (env::l):=λv hv=>by
 rcases cc.mp hv with q|q
 ·rw[q];refine je ns λoL es ep ho hd z=>?_;have nf:∀vs,oL.data≠.fields vs:=λvs w=>by rw[hd]at w;exact nomatch w
  refine⟨by rw[hk];decide,env.locals,oL,hf,?_,g3.keep _ _ ho (I2.ct ho (.inr (.inr nf))),nf⟩;cases q:G.hb.get? env.locals with
  |none=>rfl
  |some o=>have w:=I.old _ _ q;rw[fresh]at w;exact aK w
 ·obtain⟨h0,L,o,h1,h2,h3,h4⟩:=F v q;have nt:NT o:=.inr (.inr h4);have e2:=st _ _ h3 (I.ct h3 nt);exact⟨h0,L,o,h1,h2,g3.keep _ _ e2 (I2.ct e2 nt),h4⟩
theorem Wc(S:bY G)(hV:G.mg "ValueError"=none/\G.mb "ValueError"=some (.type "ValueError"))(R:a_ A (n+6))(I:Inv G s)(H:Hid s.heap μ)(dh:bL G s.heap μ)(ez:A.frames=some l)(F:Frs G s.heap l)
  (Fn:l9 G (D "bisect_left") "bisect_left" f) {x:Int} (rl:aN G (aq s.heap μ) [.list xs,.int x,.int (-1),.none] vs)
  (h:∀e t base s',Rz G s l e t qz base s'->Tr base s'.heap e t .none->E (.ref e) s'):bt (bp G.prog G.w) A (call (.ref f) vs []) Q E s:=by
 obtain⟨o,fd,c,F0⟩:=Fn.ex;obtain⟨t,P⟩:=F0.pre;obtain⟨p1,p2,p3,p4,p5,k,r,hb⟩:=XI;have Al:=Bd S (λn r=>Bz S) (n+5);have R':∀env,a_ (A.deeper env) (n+5):=R.call;refine tB (Ee (fr:=[]) (kw:=[]) (bs:=ww xs x) S (by have :A.depth+1+2*(n+5)+60<1000:=(R' default).depth;lia) I ⋯ (F0.fun I) (P s I.old) F0.cq H dh ⋯ (λenv z=>vz ⋯) rl ⟨rfl,.mkNil⟩ λenv s2 m2 hf hs lr st I2 X2=>?_);rw[hb];refine tm (wpAny_If (fo (Al.T _ _ _ _ _ _ _ _ _ _ (XJ n xs x) rfl (R' env) I2 X2.aI.fo λs3 g3 I3=>?_)));have X3:=X2.aI.fo.grow g3 I2;have ok:=X3.ok;have fresh:s.heap.get? env.locals=none:=(lr _ (.inl (.inl rfl))).resolve_right id;have F3:=F.enter I I2 X2.aI.ns ok.kind hf fresh (λb o ho nt=>st.keep _ _ ho nt λw=>(lr _ w).elim (λw=>by rw[ho]at w;exact nomatch w) id) g3;have Cu:(A.deeper env).frames=some (env::l):=Rb ez;have hg:env.kindOf "ValueError"=some .globalImplicit:=Bw ((ok.names _).trans ⋯);refine tm (wpAny_Raise_call PySem.F.excCall_ValueError PySem.F.excRaise_ValueError (R' env).hh rfl (Df ok.kind hg (Di (by rw[ok.globals];exact I3.mg S.towA) hV.1 (by rw[ok.builtins];exact I3.mb S.towA) hV.2 ⟨rfl,evalArgs_plain (iK (wpAny_Constant_str (og ⟨rfl,by size_fits,λh' e m=>?_⟩)) rfl)⟩)));refine oE (Rz.made (s:={s3 with toks:=s3.toks+1}) (I3.tok _) F3 m) λt Z=>Z.leave Cu hf I (λb o ho nt=>g3.keep _ _ (st.keep _ _ ho nt λw=>(lr _ w).elim (λw=>by rw[ho]at w;exact nomatch w) id) nt) (g3.os.trans st.os) fresh λs' Z' T'=>h _ _ _ s' Z' T'
end
def QJ:ah:=(uq (au (D "insort_left").body 0) (λz b z z=>pU (au b 0) (λz v z=>oH v (λz as z z=>some as) .none) .none) .none).getD []
theorem XK:∃p1 p2 p3 p4 p5 jK r,(D "insort_left").body=.If (Ct (au (D "insort_left").body 0)) [.Assign [.Name "lo" p1] (.Call (.Name "bisect_left" p2) QJ [] p3) p4] jK p5::r:=⟨_,_,_,_,_,_,_,rfl⟩
theorem XM(n)(xs)(x):(ev (n+5)).E (D "insort_left").scope (hide [] (ww xs x++[])) (Ct (au (D "insort_left").body 0))=some (.bool true):=⋯
theorem abq(n)(xs)(x)(p):(ev (n+5)).E (D "insort_left").scope (hide [] (ww xs x++[])) (.Name "bisect_left" p)=some (.fn "bisect_left"):=⋯
theorem XN(n)(xs)(x):dG (ev (n+5)) (D "insort_left").scope (hide [] (ww xs x++[])) QJ=some [.list xs,.int x,.int (-1),.none]:=⋯
section
variable{l:List Env}{loc:Loc}
theorem Ki(S:bY G)(aM:ca G n r.E){np:Pos}{a:Expr}{as:ah}(hx:(fnOf x).isSome=true)(ef:r.E sc loc (.Name x np)=some (.fn x))(ea:dG r sc loc (a::as)=some ps)(R:a_ A n)(I:Inv G s)(X:cu G μ sc env loc s.heap)
 (h:∀f d vs s',bc G s s'->Inv G s'->fnOf x=some d->l9 G d x f->aN G (aq s'.heap μ) ps vs->bt (bp G.prog G.w) A (call (.ref f) vs []) Q E s'):
  bt (bp G.prog G.w) A (bQ (.Call (.Name x np) (a::as) [] pos) env) Q E s:=by
 refine z9 (fo (aM _ _ _ _ _ _ _ _ _ ef R I X λfv s1 g1 I1 r1=>?_));obtain⟨f,d,hf,hd,F,_⟩:=AL S hx r1;rw[hf];refine oM F.ex λo fd c F0=>?_;have X1:=X.grow g1 I;refine callWith_of (P:=λh=>∃s',Inv G s'/\h=s'.heap) (by rw[AA (l:=loc) ea];rfl) (λh ⟨s',I',e'⟩=>by rw[e'];exact rB (I'.old _ _ F0.ho) F0.hd) ?_;exact DY rfl (fo (AQ aM ea R I1 X1 λvs s2 g2 I2 r2=>bz ⟨⟨s2,I2,rfl⟩,h f d vs s2 (g1.trans g2) I2 hd F r2⟩)) (g_ (aZ ea λh z=>h))
theorem Wd(S:bY G)(hV:G.mg "ValueError"=none/\G.mb "ValueError"=some (.type "ValueError"))(R:a_ A (n+7))(I:Inv G s)(H:Hid s.heap μ)(dh:bL G s.heap μ)(ez:A.frames=some l)(F:Frs G s.heap l)
  (Fn:l9 G (D "insort_left") "insort_left" f) {x:Int} (rl:aN G (aq s.heap μ) [.list xs,.int x,.int (-1)] vs)
  (h:∀e t base s',Rz G s l e t qz base s'->Tr base s'.heap e t .none->E (.ref e) s'):bt (bp G.prog G.w) A (call (.ref f) vs []) Q E s:=by
 obtain⟨o,fd,c,F0⟩:=Fn.ex;obtain⟨t,P⟩:=F0.pre;obtain⟨p1,p2,p3,p4,p5,jK,r,hb⟩:=XK;have Al:=Bd S (λn r=>Bz S) (n+6);have R':∀env,a_ (A.deeper env) (n+6):=R.call;refine tB (Ee (fr:=[]) (kw:=[]) (bs:=ww xs x) S (by have :A.depth+1+2*(n+6)+60<1000:=(R' default).depth;lia) I ⋯ (F0.fun I) (P s I.old) F0.cq H dh ⋯ (λenv z=>vz ⋯) rl ⟨rfl,.mkNil⟩ λenv s2 m2 hf hs lr st I2 X2=>?_);rw[hb];refine tm (wpAny_If (fo (Al.T _ _ _ _ _ _ _ _ _ _ (XM (n+1) xs x) rfl (R' env) I2 X2.aI.fo λs3 g3 I3=>?_)));have X3:=X2.aI.fo.grow g3 I2;have fresh:s.heap.get? env.locals=none:=(lr _ (.inl (.inl rfl))).resolve_right id;have Cu:(A.deeper env).frames=some (env::l):=Rb ez;refine tm (z_ (Ki S Al.E ⋯ (abq (n+1) xs x p2) (XN (n+1) xs x) (R' env) I3 X3 λf2 d2 iB s4 g4 I4 hd2 Fn2 rl2=>?_));have kp:∀b o,s.heap.get? b=some o->¬G.tab b->s2.heap.get? b=some o:=λb o ho nt=>st.keep _ _ ho nt λw=>(lr _ w).elim (λw=>by replace w:=ao (aT ho) w;cases w) id;have X4:=X3.grow g4 I3;have F4:=F.enter I I2 X2.aI.ns X3.ok.kind hf fresh kp (g3.trans g4);have e2:d2=D "bisect_left":=by unfold D;rw[hd2];rfl
 refine Wc S hV (R' env) I4 X4.aW X4.soft Cu F4 (e2▸Fn2) rl2 λe t base s5 Z z=>Z.leave Cu hf I (λb o ho nt=>(g3.trans g4).keep _ _ (kp b o ho nt) nt) ((g3.trans g4).os.trans st.os) fresh λs' Z' T'=>h _ _ _ s' Z' T'
end
theorem Sp:entryFor table "proto.unchain"=some Builtin.«proto.unchain» :=entryFor_of_fast ⋯
section
variable{prog:Program}{w:World}
theorem XO{Q:α->ak}{e ea t:aw}{T:ar}{vs:aj}(hh:A.handled=some (.ref ea))(hx:s.heap.get? ea=some (jJ t T))(fC:ea≠e)(he:s.heap.get? e=some o)(hd:o.data=.fields vs)(hz:2<vs.size)
  (h:E (.ref e) {s with heap:=s.heap.update e (DO (·.setIfInBounds 2 (.ref ea)))}):bt (bp prog w) A (raiseNew (.ref e):Sem α) Q E s:=by
 unfold raiseNew;refine aP (wpAny_handled ?_);rw[hh];dsimp only;rw[aA (show(tC ea != tC e)=true from by simp [fC])];refine aP (iL (wpAny_runValue (codeAny_builtin Sp ?_)));refine aP (m:=field (.ref ea) 2) (mN hx rfl (x:=.none) rfl ?_);dsimp only;refine eT (aA (show(Value.none==Value.none)=true from rfl)) ?_;refine aP (bz (bz ?_));refine aP ?_;unfold updateField;refine aP (wpAny_load he ?_);rw[hd];dsimp only;refine eT (aA hz) ?_;exact wpAny_update he (wpAny_throw h)
theorem UT{it ea te:aw}{T:ar}{x left step:Int}{Q:ai->ak}(hh:A.handled=some (.ref ea))(hx:s.heap.get? ea=some (jJ te T))(hit:IsRangeIter s.heap it x left step)(hl:left<=0)
  (hQ:∀h',(∀b o,s.heap.get? b=some o->h'.get? b=some o)->Q none {s with heap:=h'}):bt (bp prog w) A (iM (.ref it)) Q E s:=by
 have hT:s.TypeIs (.ref it) "range_iterator":=⟨_,hit,rfl⟩;unfold iM;refine aP (wpAny_attempt (zY (name:=DT "__next__") hT afj (xp afj hT PySem.F.entry_range_iterator_next ?_ (PySem.F.args_range_iterator_next_1 _))));refine aP (m:=field (.ref it) 0) (mN hit rfl (x:=dc x) rfl ?_);refine aP (m:=field (.ref it) 1) (mN hit rfl (x:=dc left) rfl ?_);refine aP (m:=field (.ref it) 2) (mN hit rfl (x:=dc step) rfl ?_);show bt _ _ (if left<=0 then _ else _) _ _ s;refine eT (aA hl) ?_;refine aP (As (aP ?_));refine aP (m:=newExc (.type "StopIteration") []) ?_;simp only[newExc,newTuple];refine aP (DA ?_ (by size_fits));refine aP (m:=firstArgMember _ _) (Aq (a:=Value.none) (by first |rfl|(simp only[firstArgMember];rfl)) ?_);refine DA ?_ (by size_fits);have nQ:=iJ {cls:=.type "tuple",data:=.seq ([]:List ar).toArray} hx;have fC:ea≠_:=eO (fQ nQ);refine XO (A:=A.in1) hh (iJ _ nQ) fC (eF _ rfl) rfl (by simp;lia) ?_;refine aP (wpAny_isInstance (T:="StopIteration") (b:=true) ⟨_,pq _ (eF _ rfl) (Rc (I_ rfl _)),Rs _ _⟩ isSubtype_stop ?_);refine bz (hQ _ λb o ho=>?_);have h2:=iJ {cls:=.type "tuple",data:=.seq ([]:List ar).toArray} ho;exact(rd _ _ (ag1 (fQ h2))).trans (iJ _ h2)
theorem XP{ea te:aw}{T:ar}(hh:A.handled=some (.ref ea))(I)(a c)(n):
  Walks prog w A I [I,ea] [I] n (λi v=>∃t,v=.int (a+i*c) t) (λi h=>IsRangeIter h I (a+(i:Nat)*c) ((n:Int)-(i:Nat)) c/\h.get? ea=some (jJ te T)) where
 sub:=λb hb=>by rw[cW hb];exact .head _
 frame:=λz z z st hk=>⟨hk I (.head _) _ st.1,hk ea (.tail _ (.head _)) _ st.2⟩
 item:=λi s Q E hi st hQ=>by
  have fC:ea≠I:=λq=>by have w:=st.2;rw[q,st.1]at w;exact bx (aR Obj.cls (av w)) (by simp)
  refine wpAny_pyNext_range_item st.1 (by lia) λh' acC ll=>hQ _ h' _ ⟨_,rfl⟩ ⟨?_,(ll.2 ea fC).trans st.2⟩ λb o hb e=>ll.extBut b o (λh=>hb (h▸ .head _)) e;have e1:a+((i+1:Nat):Int)*c=a+(i:Int)*c+c:=by rw[agE,tz,ju,DP]
  have e2:(n:Int)-((i+1:Nat):Int)=(n:Int)-(i:Int)-1:=by lia
  rw[e1,e2];exact acC
 done:=λs Q E st hQ=>UT hh st.2 st.1 (by lia) λh' k=>hQ h' s.toks λb o z e=>k b o e
 self:=λz z z z st hQ=>wpAny_pyIter_rangeiter st.1 hQ
theorem TA{r ea te:aw}{T:ar}{a c:Int}{t u v:Tok}(hh:A.handled=some (.ref ea))(hx:s.heap.get? ea=some (jJ te T))(hr:IsRange s.heap r a b c t u v)(ZC:Q7 a b c=true)
  (hn:sW a b c=n) (hlen:n<=2^24)
  (hQ:∀h' tk acc c',(∀b o,s.heap.get? b=some o->h'.get? b=some o)->h'.get? s.heap.objs.size=some (bR acc c')->ItemsOf (λi v=>∃t,v=.int (a+i*c) t) acc n->Q (.ref s.heap.objs.size) {s with heap:=h',toks:=tk}):
  bt (bp prog w) A (call (.type "list") [.ref r]) Q E s:=by
 refine callType_codes (Q₁ :=λobj cn=>obj=.ref s.heap.objs.size/\cn={s with heap:=s.heap.push {cls:=.type "list",data:=.seq #[]}}) PySem.F.called_list (PySem.F.typeCall_list_1 _) PySem.F.entry_list_init (code_list_new _ ⟨rfl,rfl⟩) λobj cn kY=>?_;obtain⟨rfl,rfl⟩:=kY;generalize w_:s.heap.objs.size=S at *;have hS:(s.heap.push {cls:=.type "list",data:=.seq #[]}).get? S=some {cls:=.type "list",data:=.seq #[]}:=w_▸eF _ rfl;have k0:∀b o,s.heap.get? b=some o->(s.heap.push {cls:=.type "list",data:=.seq #[]}).get? b=some o:=λb o e=>iJ _ e;have hSr:S≠r:=λe=>eO (fQ hr) (e.symm.trans w_.symm);have QK:S≠ea:=λe=>eO (fQ hx) (e.symm.trans w_.symm);refine⟨⟨_,hS,rfl⟩,PySem.F.args_list_init_2 _ _,?_⟩;refine aP (m:=afq (.ref S)) ?_;unfold afq;refine aP (wpAny_seqItems hS rfl (bz ?_));refine aP (m:=updateSeq S (λz=> #[])) (wpAny_updateSeq hS rfl ?_);have CY:=pq (dj (λz=>(#[]:aj))) hS rfl;have k2:∀b o,s.heap.get? b=some o->_:=λb o e=>(rd _ (dj (λz=>(#[]:aj))) (show S≠b from λq=>eO (fQ e) (q.symm.trans w_.symm))).trans (k0 b o e);refine aP (m:=letGo (#[]:aj).toList.reverse) (wpAny_letGo ?_);show bt _ _ (afm (.ref S) (.ref r) .none) _ _ _;have IC:=k2 _ _ hr;have nQ:=k2 _ _ hx;generalize hh1:(s.heap.push {cls:=.type "list",data:=.seq #[]}).update S (dj λz=>(#[]:aj))=h1 at *;unfold afm;refine aP (wpAny_typeOf (T:="range") ⟨_,IC,rfl⟩ ?_);have g1:afo (.ref S) (.ref r)=false:=by simp [afo,hSr]
 have g2:(D2 "range"==D2 "list")=false:=by decide
 have g3:(D2 "range"==D2 "tuple")=false:=by decide
 simp only[g1,g2,g3,Jz,kJ,if_false];refine aP (wpAny_pyIter_range IC ZC ?_);have ID:=iJ {cls:=.type "range_iterator",data:=.fields #[dc a,dc (sW a b c),dc c]} CY;have k3:∀b' o,h1.get? b'=some o->(h1.push {cls:=.type "range_iterator",data:=.fields #[dc a,dc (sW a b c),dc c]}).get? b'=some o:=λb' o e=>iJ _ e;have hI:(h1.push {cls:=.type "range_iterator",data:=.fields #[dc a,dc (sW a b c),dc c]}).get? h1.objs.size=_:=eF _ rfl;refine aP (iL (wpAny_hint_range (n:=n) (k3 _ _ IC) hn hlen ?_));generalize QL:h1.objs.size=I at *;have uT:S≠I:=λq=>eO (fQ CY) (q.trans QL.symm);have W:=(XP (prog:=prog) (w:=w) (A:=A.in1.in1) (te:=te) (T:=T) hh I a c n).toS;have key:∀(h:bT)(c₁ tk:Nat),(∀b' o,b'≠S->(h1.push {cls:=.type "range_iterator",data:=.fields #[dc a,dc (sW a b c),dc c]}).get? b'=some o->h.get? b'=some o)->h.get? S=some {cls:=.type "list",data:=.seq #[] c₁}->
   eV (bp prog w) A.in1 (.builtin "list.extend.loop" ⟨[.ref S,.ref I,.none],[]⟩) (λr s'=>match r with | .ok (.ret v)=>v=.none/\Q (.ref S) s'| .ok _=>False| .error e=>E e s') {s with heap:=h,toks:=tk}:=λh c₁ tk k abr=>by
  refine codeAny_extend_loopS W (by rw[lN];omega) S (λq=>?_) .none n 0 _ #[] c₁ rfl (du _) ⟨?_,k _ _ QK.symm (k3 _ _ nQ)⟩ abr (ItemsOf.nil _) λs' yJ c' hm hS' acD=>?_
  ·rcases cc.mp q with q|q
   ·exact uT q
   ·exact QK (cW q)
  ·refine(k _ _ (lP uT) hI).trans ?_;rw[hn];simp
  ·rw[Moved.eq_with hm];refine⟨rfl,hQ s'.heap s'.toks yJ c' (λb' o e=>hm.heap b' o (λq=>?_) (k b' o (λq=>?_) (k3 _ _ (k2 _ _ e)))) hS' acD⟩
   ·rcases cc.mp q with q|q
    ·exact eO (fQ e) (q.trans w_.symm)
    ·exact eO (fQ (k2 _ _ e)) ((cW q).trans QL.symm)
   ·exact eO (fQ e) (q.trans w_.symm)
 refine wpAny_ite_split (λz=>?_) (λz=>bz ⟨plainId_quiet afs _,key _ _ _ (λb' o z e=>e) ID⟩);refine aP (As ?_);refine aP ?_;show bt _ _ (updateSeq S (·.push .none)>>=λz=>updateSeq S (·.pop)) _ _ _;refine aP (wpAny_updateSeq ID rfl ?_);have QM:=pq (dj (·.push Value.none)) ID rfl;refine wpAny_updateSeq QM rfl ?_;refine bz ⟨plainId_quiet afs _,key _ _ _ (λb' o hb e=>?_) (pq (dj (·.pop)) QM rfl)⟩;exact(rd _ _ (lP hb)).trans ((rd _ _ (lP hb)).trans e)
end
noncomputable abbrev jl:aH:=(D "law").scope
theorem xR(hk:decide (kc (jl.names.lookup x)<2)=true)(h:loc.lookup x=some p)(hn:MS p=some p):eName jl loc x=some p:=by unfold eName;refine ao (aA hk) ?_;rw[h];exact hn
section
variable{l:List Env}{loc:Loc}{ea te:aw}{T:ar}
theorem TB(e:vN ps=some p)(hh:A.handled=some (.ref ea))(hx:s.heap.get? ea=some (jJ te T))(I:Inv G s)(H:Hid s.heap μ)(rl:aN G (aq s.heap μ) ps vs)(h:KV G s μ p Q):
  WC G A (.type "list") Q s vs:=by
 refine aF e λq h1 e=>aZ e λhc e=>gg hc λc1 c2 c3=>?_;rw[fH (oP K9 h1)]at rl;have c1:=bu (show decide (q.1.natAbs<2^62)=true from c1);have c2:=bu (show decide (q.2.natAbs<2^62)=true from c2);have c3:=Ek c3;refine rl.ki λv r1=>?_;obtain⟨ra,t1,t2,t3,hv,h1⟩:=(r1:pX _ _ _ _ v);rw[hv];refine TA hh hx h1.1 (small_one (by lia) (by lia) (by lia) (by lia)) (A' (by decide)) (by lia) λh' tk yJ c' hk ha hi=>h _ _ (.of hk) (I.of hk) (av e▸ .ou ⟨ha,λq=>(H _ q) (j0 _),.inl (by nofun)⟩ ?_);obtain⟨i1,i2⟩:=hi;refine aN.of_get (by simpa using i1.symm) λj p v e1 e2=>?_;rw[re]at e2;refine oE (i2 j v e2) λt hv=>?_;rw[EU e1,hv];exact .mkInt _ _ _
theorem EN(S:bY G){T:String}{np:Pos}{a:Expr}(hx:rZ.contains x=true)(ht:oR x=.type T)(he:eName jl loc x=some (.blt x))(hs:jX [a] env=(false,bQ a env)::jX [] env)(I:Inv G s)(X:cu G μ jl env loc s.heap)
  (h:∀s1,bc G s s1->Inv G s1->WP G A (bQ a env) (λv s2=>WC G A (.type T) Q s2 [v]) s1):WP G A (bQ (.Call (.Name x np) [a] [] pos) env) Q s:=by
 refine z9 (xU S he I X λfv s1 g1 I1 r1=>?_);rw[av ((show G.mg x=none/\G.mb x=some fv from r1).2.symm.trans (S.blt x (cN.mp hx))),ht];refine callWith_of (P:=λz=>True) (by rw[hs];rfl) (λz z=>xJ) ?_;exact DY rfl (iK (db (h s1 g1 I1) (λv s2 q=>og (bz ⟨trivial,q⟩)) λz z q=>q) hs) hs
theorem We(S:bY G)(hu:A.units+70<cLine)(hh:A.handled=some (.ref ea))(I:Inv G s)(X:cu G μ jl env loc s.heap)(hx:s.heap.get? ea=some (jJ te T))(hnt:¬G.tab ea)(hf:loc.lookup ("fault":Str)=some (.exc qz)){ys:ab}{z:Int}(hs:loc.lookup ("stairs":Str)=some (.list xs))
  (hz:loc.lookup ("size":Str)=some (.int z)) (e1:vJ [.int (z-1)]=some p) (e2:vN [p]=some (.list ys)) (e3:kf (.list xs) (.list ys)=some true) (e4:cQ .Sub z 1=some (.int (z-1))) (h:∀s',bc G s s'->Inv G s'->Q (.bool true) s')
  {p5 p6 p7 p8 p9 zN zO zP zQ zR zS zT zU zV Db:Pos} {k2:Nat}:
  WP G A (bQ (.BoolOp .And [.Compare (.Call (.Name "str" p5) [.Name "fault" p6] [] p7) [.Eq] [.Constant (.str qz) k p8] p9,.Compare (.Name "stairs" zN) [.Eq] [.Call (.Name "list" zO) [.Call (.Name "range" zP) [.BinOp (.Name "size" zQ) .Sub (.Constant (.int 1) k2 zR) zS] [] zT] [] zU] zV] Db) env) Q s:=by
 refine JQ (wpAny_Compare1 (EN S (T:="str") (by decide) ⋯ ⋯ rfl I X λs1 g1 I1=>?_) rfl);refine xU S (xR ⋯ hf rfl) I1 (X.grow g1 I) λv s2 g2 I2 r2=>?_;obtain⟨e',o,t,eb,eo,kk,hv,q1,q2,⟨ws,q3,q4⟩,q5,q6,q7⟩:=(r2:rO _ _ v);rw[hv];refine PySem.P.str_of_exc_one PySem.F.excStr_ValueError (by lia) ⟨o,ws,q1.1,q2,q3,q4⟩ ⟨eo,kk,q5.1,q6,q7⟩ (wpAny_Constant_str (RC ?_));rw[beq_self_eq_true];refine AH (G:=G) (μ:=μ) (x:=.bool true) rfl (.Bu _) λtk=>?_;rw[aJ (by decide)];have X2:=(X.grow g1 I).grow g2 I1;have g02:bc G s {s2 with toks:=tk}:=(g1.trans g2).trans (.tok _);have I3:Inv G {s2 with toks:=tk}:=I2.tok _;refine(show WP G A (bQ (.Compare (.Name "stairs" zN) [.Eq] [.Call (.Name "list" zO) [.Call (.Name "range" zP) [.BinOp (.Name "size" zQ) .Sub (.Constant (.int 1) k2 zR) zS] [] zT] [] zU] zV) env) Q {s2 with toks:=tk} from wpAny_Compare1 ?_ rfl);refine xU S (xR ⋯ hs rfl) I3 X2 λa s4 g4 I4 ra=>?_;have X4:=X2.grow g4 I3;refine EN S (T:="list") (by decide) ⋯ ⋯ rfl I4 X4 λs5 g5 I5=>EN S (T:="range") (by decide) ⋯ ⋯ rfl I5 (X4.grow g5 I4) λs6 g6 I6=>wpAny_BinOp ?_;have X6:=(X4.grow g5 I4).grow g6 I5;refine xU S (xR ⋯ hz rfl) I6 X6 λv s7 g7 I7 rv=>?_;obtain⟨t7,hv7⟩:=rv.int;rw[hv7];have X7:=X6.grow g7 I6;refine wpAny_Constant_int (MY e4 λq=>?_);have e5:=PV.int.inj q;have QN:Inv G {s7 with toks:=s7.toks+1+1}:=I7.tok _;refine Kv e1 QN X7.aW (e5▸ .mkCons (.mkInt _ _ _) .mkNil) λv8 s8 g8 I8 r8=>?_;have X8:=cu.grow (s:={s7 with toks:=s7.toks+1+1}) g8 QN X7;have QO:=((g5.trans g6).trans g7).trans (bc.trans (.tok _) g8);have QP:=(g02.trans g4).trans QO;refine TB e2 hh (QP.keep _ _ hx hnt) I8 X8.aW (.mkCons r8 .mkNil) λv9 s9 g9 I9 r9=>?_;have fin:=h s9 (QP.trans g9) I9;exact Ga e3 (ra.mono (aq.grow (QO.trans g9) I4)) r9 (λi j t u w1 w2 w3=>w1▸w2▸afv (w3▸fin)) (λi j t u w1 w2 w3=>w1▸w2▸RC (w3▸fin)) λd1 d2 as bs w1 w2 h1 h2 w=>eq_dataH w1 w2 h1 h2 (by lia) (w▸fin)
end
theorem XQ:∃p1 p2 p3 p4 p5 p6 p7 p8 p9 zN zO zP zQ zR zS zT zU zV Db QQ QR QS q1 q2 q3 q4 k k2 k3,au (D "law").body 24=.Try [.Expr (.Call (.Name "insort_left" p1) [.Name "stairs" q1,.Name "home" q2,.UnaryOp .USub (.Constant (.int 1) k3 q3) q4] [] p2) p3]
  [.ExceptHandler (some (.Name "ValueError" p4)) (some "fault") [.Return (some (.BoolOp .And [.Compare (.Call (.Name "str" p5) [.Name "fault" p6] [] p7) [.Eq] [.Constant (.str qz) k p8] p9,
   .Compare (.Name "stairs" zN) [.Eq] [.Call (.Name "list" zO) [.Call (.Name "range" zP) [.BinOp (.Name "size" zQ) .Sub (.Constant (.int 1) k2 zR) zS] [] zT] [] zU] zV] Db)) QQ] QR] [] [] QS:=
 ⟨_,_,_,_,_,_,_,_,_,_,_,_,_,_,_,_,_,_,_,_,_,_,_,_,_,_,_,_,_,rfl⟩
theorem Wf{loc:Loc}{y:Int}(hs:loc.lookup ("stairs":Str)=some (.list xs))(hh:loc.lookup ("home":Str)=some (.int y))(q1 q2 q3 q4)(k):
  dG (ev (n+3)) jl loc [.Name "stairs" q1,.Name "home" q2,.UnaryOp .USub (.Constant (.int 1) k q3) q4]=some [.list xs,.int y,.int (-1)]:=by
 have a1:(ev (n+3)).E jl loc (.Name "stairs" q1)=some (.list xs):=xR ⋯ hs rfl;have a2:(ev (n+3)).E jl loc (.Name "home" q2)=some (.int y):=xR ⋯ hh rfl;have a3:(ev (n+3)).E jl loc (.UnaryOp .USub (.Constant (.int 1) k q3) q4)=some (.int (-1)):=⋯
 show(if true then((ev (n+3)).E jl loc (.Name "stairs" q1)).bind λv=>((if true then((ev (n+3)).E jl loc (.Name "home" q2)).bind λv=>((if true then((ev (n+3)).E jl loc (.UnaryOp .USub (.Constant (.int 1) k q3) q4)).bind λv=>(some []).map (v:: ·)else none)).map (v:: ·)else none)).map (v:: ·)else none)=_;rw[a1,a2,a3];rfl
section
variable{l:List Env}{loc:Loc}
structure Hnd(G:bE)(s1 s2:aB)(env:Env)(loc:Loc)(e t:aw)(h6:bT):Prop where
 exc:∃T',h6.get? e=some (jJ t (.ref T'))
 nt:¬G.tab e
 inv:Inv G {s2 with heap:=h6,toks:=s2.toks+1}
 rel:cu G (λb=>b=env.locals) jl env (("fault",.exc qz)::loc) h6
 kp:∀b o,s1.heap.get? b=some o->¬G.tab b->b≠env.locals->h6.get? b=some o
theorem XR{base h5 h6:bT}{e t:aw}(I1:Inv G s1)(X1:cu G μ jl env loc s1.heap)(F1:Frs G s1.heap [env])(hf:env.frame=some env.locals)(Z:Rz G s1 [env] e t qz base s2)(u:s2.heap.UpToSlots h5)(F5:kG base [env] e t h5)(T5:Tr base h5 e t .none)
  (hl:env.kindOf "fault"=some .local) (ns:s1.heap.Ns env.locals m) (slots:∀x p,loc.lookup x=some p->∃v,bA s1.heap env m x v/\jg G (aq s1.heap μ) env p v) (Dc:h5.Ns env.locals m) (xa:h6.Ns env.locals λx=>if x="fault" then some (.ref e)else m x) (sb:xu env.locals h5 h6):Hnd G s1 s2 env loc e t h6:=by
 have ok:=X1.ok;obtain⟨bn,oL,CU,nfL⟩:=F5.fr.mem (vk.mpr ⟨env,.head _,hf⟩);obtain⟨oD,es,ep,hoD,hdD,_⟩:=id Dc;obtain⟨oD1,es1,ep1,acE,acF,_⟩:=id ns;obtain⟨QT,es6,ep6,uE,y5,_⟩:=id xa;obtain⟨T',oT',ts',IE,_⟩:=T5;have QU:e≠env.locals:=λq=>by rw[q,CU]at IE;obtain rfl:=av IE;exact nfL _ rfl
 have zW:h6.get? e=some (jJ t (.ref T')):=(sb.2 e QU).trans IE;have CB:base.StaysIn h6:=λb o ho=>(sb.2 b λq=>by rw[q,bn]at ho;exact aK ho).trans (F5.y0 b o ho);have I6:Inv G {s2 with heap:=h6,toks:=s2.toks+1}:=Inv.of Z.inv CB;obtain⟨kt,tp⟩:=Z.tup;obtain⟨ot,nt,t1,t2,t3⟩:=tp.of_slots u;have t6:=(sb.2 t λq=>by rw[q,hoD]at t1;obtain rfl:=av t1;rw[hdD]at t3;cases t3).trans t1;have sB:∀b,b≠env.locals->b∉vh [env]:=λb nb q=>by obtain⟨v,hv,iV⟩:=vk.mp q;rw[cW hv,hf]at iV;obtain rfl:=av iV;exact nb rfl
 have kp:∀b o,s1.heap.get? b=some o->¬G.tab b->b≠env.locals->h6.get? b=some o:=λb o ho nt nb=>CB b o (Z.keep b o ho nt (sB b nb));have b8:∀b o,aq s1.heap μ b o->aq h6 (λb=>b=env.locals) b o:=λb o ⟨q,nq,nt⟩=>⟨kp b o q (I1.ct q nt) λw=>nq (w▸X1.hL),λw=>nq (w▸X1.hL),nt⟩;have cell:∀c cv,s1.heap.IsCell c cv->h6.IsCell c cv:=λc cv ⟨o,ho,hd⟩=>⟨o,kp c o ho (I1.ct ho (.inr (.inr λvs w=>by replace w:=ao (aT hd) w;exact nomatch w))) λw=>(by rw[w,acE]at ho;cases ho;rw[acF]at hd;cases hd),hd⟩;have Dd:NT (jJ t (.ref T')):=.inl (by nofun);have X6:cu G (λb=>b=env.locals) jl env (("fault",.exc qz)::loc) h6:=by
  refine⟨⟨ok.uG,ok.kind,ok.globals,ok.builtins,ok.names,λx hx=>let⟨c,cv,a,b⟩:=X1.ok.cells x hx;⟨c,cv,a,cell c cv b⟩⟩,rfl,λx c hk hc w=>X1.hC x c hk hc (w▸X1.hL),λb w=>by rw[w,uE];nofun,
   λb w=>⟨(F1.mem (w▸vk.mpr ⟨env,.head _,hf⟩)).1,λo ho=>?_⟩,X1.cq,_,xa,λx p hx=>?_⟩
  ·rw[w,uE]at ho;obtain rfl:=av ho;exact .inl λvs w=>by replace w:=ao (aT y5) w;exact nomatch w
  ·replace hx:=ao (aT dp) hx;cases hq:x==("fault":Str)with
   |true=>rw[hq]at hx;cases hx;refine⟨.ref e,.inl ⟨beq_iff_eq.mp hq▸hl,aA (beq_iff_eq.mp hq)⟩,?_⟩;have q1:aq h6 (λb=>b=env.locals) e (jJ t (.ref T')):=⟨zW,QU,Dd⟩;have q2:aq h6 (λb=>b=env.locals) t ot:=⟨t6,λw=>(by rw[w,uE]at t6;obtain rfl:=av t6;rw[y5]at t3;cases t3),.inl (by rw[t2];nofun)⟩;exact .inl<|rO.mk e _ kt t ot nt rfl q1 rfl ⟨_,rfl,rfl⟩ q2 t2 t3
   |false=>
    rw[hq]at hx;obtain⟨v,hv,sv⟩:=slots x p hx;refine⟨v,?_,sv.mono b8⟩;rcases hv with⟨a,b⟩|⟨a,c,b,d⟩
    ·exact .inl ⟨a,(aJ λw=>by rw[w]at hq;exact nomatch hq).trans b⟩
    ·exact .inr ⟨a,c,b,cell c _ d⟩
 exact⟨⟨T',zW⟩,I6.ct zW Dd,I6,X6,kp⟩
theorem ZD(S:bY G)(hV:G.mg "ValueError"=none/\G.mb "ValueError"=some (.type "ValueError"))(R:a_ A (n+8))(I:Inv G s)(X:cu G μ jl env loc s.heap)(ez:A.frames=some [env])(hf:env.frame=some env.locals)(F:Frs G s.heap [env])
 {ys:ab} {y z:Int} (hs:loc.lookup ("stairs":Str)=some (.list xs)) (hh:loc.lookup ("home":Str)=some (.int y)) (hz:loc.lookup ("size":Str)=some (.int z)) (e1:vJ [.int (z-1)]=some p) (e2:vN [p]=some (.list ys)) (e3:kf (.list xs) (.list ys)=some true)
  (e4:cQ .Sub z 1=some (.int (z-1))) {Q:dk->ak} (h:∀s',(∀b o,s.heap.get? b=some o->¬G.tab b->b≠env.locals->s'.heap.get? b=some o)->Inv G s'->s'.os=s.os->Q (.ret (.bool true)) s'):
  WP G A (exec (au (D "law").body 24) env) Q s:=by
 obtain⟨p1,p2,p3,p4,p5,p6,p7,p8,p9,zN,zO,zP,zQ,zR,zS,zT,zU,zV,Db,QQ,QR,QS,q1,q2,q3,q4,k,k2,k3,hb⟩:=XQ;rw[hb];have Al:=Bd S (λn r=>Bz S) (n+8);have ok:=X.ok;refine wpAny_Try_except (tm (wpAny_Expr_any (Ki S Al.E ⋯ ⋯ (Wf hs hh q1 q2 q3 q4 k3) R I X λf d vs s1 g1 I1 hd Fn rl=>?_) (by unfold Ar;rw[ok.kind];rfl) rfl));have X1:=X.grow g1 I;have F1:Frs G s1.heap [env]:=F.keep λb o ho nf=>⟨o.slots,g1.keep _ _ ho (I.ct ho (.inr (.inr nf)))⟩;have d2:d=D "insort_left":=by unfold D;rw[hd];rfl
 refine Wd S hV (R.less (dX _)) I1 X1.aW X1.soft ez F1 (d2▸Fn) rl λe t base s2 Z T2=>note ez Z.QI hf (.inr T2) λh3 F3 T3 u3=>FP F3 T3 λh4 F4 T4 u4=>?_;have I4:Inv G {s2 with heap:=h4}:=Inv.of (s:={s2 with heap:=base}) (tk:=s2.toks) Z.inv F4.y0;have hg:env.kindOf "ValueError"=some .globalImplicit:=Bw ((ok.names _).trans ⋯);obtain⟨T0,oT,ts,wN,_⟩:=id T4;refine wpAny_handleBy_builtin_as (X:="ValueError") (T:="ValueError") (b:=true) (by refine ao (isSubtype_type ..) ?_;kernel_rfl) (by rw[isSubtype_type];kernel_rfl) (by rw[isSubtype_type];kernel_rfl)
  (Df ok.kind hg (Di (by rw[ok.globals];exact I4.mg S.towA) hV.1 (by rw[ok.builtins];exact I4.mb S.towA) hV.2 ⟨rfl,⟨_,wN,rfl⟩,?_⟩))
 rw[aA rfl];refine FP F4 T4 λh5 F5 T5 u5=>?_;obtain⟨m,ns,slots⟩:=X1.slots;have up:=Heap.UpToSlots.trans Z.up (u3.trans (u4.trans u5));have Dc:=up.ns ns;have hl:env.kindOf "fault"=some .local:=LO ((ok.names _).trans ⋯);have hp:(env.scope.kind== .class||(env.scope.kind== .module&&env.locals != env.globals))=false:=by rw[ok.kind];rfl
 refine IV hl Dc (λh6 xa sb=>?_) hp;obtain⟨⟨T',zW⟩,Dd,I6,X6,kp⟩:=XR I1 X1 F1 hf Z (u3.trans (u4.trans u5)) F5 T5 hl ns slots Dc xa sb;refine tm (wpAny_Return_some (fo (We S (by have :=R.units;show A.units+70<9900;omega) rfl I6 X6 zW Dd rfl hs hz e1 e2 e3 e4 λs7 g7 I7=>?_)));obtain⟨QT,es6,ep6,uE,y5,_⟩:=id xa;have ntD:NT QT:=.inr (.inr λvs w=>by replace w:=ao (aT y5) w;exact nomatch w);have QV:=g7.keep _ _ uE (I6.ct uE ntD);refine wpAny_nameGoes hl (Heap.Ns.at' xa λo ho=>by replace ho:=ao (aT uE) ho;obtain rfl:=av ho;exact QV) hp λh8 m8 ns8 IF=>?_;have I8:=I7.part (λb o ho=>(IF.2 b λq=>by rw[q,(F1.mem (vk.mpr ⟨env,.head _,hf⟩)).1]at ho;exact aK ho).trans (I7.old b o ho))
  λb o vs ho hd=>(IF.2 b λq=>by rw[q,QV]at ho;obtain rfl:=av ho;rw[y5]at hd;cases hd).trans ho
 exact h _ (λb o ho nt nb=>(IF.2 b nb).trans (g7.keep _ _ (kp b o (g1.keep _ _ ho nt) nt nb) nt)) (I8.tok _) (g7.os.trans (Z.os.trans g1.os))
end
theorem Wg:∀n∈cI,∃p ys,vJ [.int ((n:Int)-1)]=some p/\vN [p]=some (.list ys)/\kf (.list (ap (bX n))) (.list ys)=some true/\cQ .Sub n 1=some (.int ((n:Int)-1)):=by intro n hn;simp only[cI,cc,gG,or_false]at hn;rcases hn with e|e|e<;>subst e<;>exact⟨_,_,rfl,rfl,⋯,rfl⟩
theorem XS(V:LV)(w u z:Nat)(r:Loc):(hide ["texts"] (V.lq w u z (V.all w) (V.fP w u++r)).loc).lookup ("stairs":Str)=some (.list (ap (bX V.n)))/\(hide ["texts"] (V.lq w u z (V.all w) (V.fP w u++r)).loc).lookup ("home":Str)=some (.int V.az)/\(hide ["texts"] (V.lq w u z (V.all w) (V.fP w u++r)).loc).lookup ("size":Str)=some (.int V.n):=by refine⟨?_,?_,?_⟩<;>(refine ao eQ ?_;kernel_rfl)
theorem ZE(Al:∀n,O4 G n (ev n)){k:ad}:∀(c:ad)(n:Nat)(st aO:St)(φ:al)(s:aB)(Q:dk->ak),(ev n).B sc st c=some (.next,aO)->a_ A n->Inv G s->cw G μ φ pa sc env st s.heap->
  (∀s' a9,fL G μ φ a9 pa sc env aO .next .next s s'->WP G A (execs k env) Q s')->WP G A (execs (c++k) env) Q s:=by
 intro c;induction c with
 |nil=>
  intro n st aO φ s Q e R I X h;induction n with
  |zero=>exact aK e
  |succ n _=>have e:=aR Prod.snd (av (show some (bG.next,st)=some (bG.next,aO) from e));exact h s φ ⟨.refl,I,λz q=>.inl q,(show st=aO from e)▸X,rfl⟩
 |cons x xs ih=>
  intro n st aO φ s Q e R I X h;induction n with
  |zero=>exact aK e
  |succ n _=>
   have R':=R.less (dX n);have e:=e;refine aF e λq e1 e=>tm ((Al n).S _ _ _ _ _ _ _ _ _ _ _ _ e1 R' I X λfv s1 bF P1=>?_);obtain⟨uL,aE⟩:=q;have F:=P1.nn;induction uL with
   |next =>exact(show fv=.next from F)▸ih n aE aO bF s1 Q e R' P1.inv P1.rel λs2 fe P2=>h _ _ (P2.after P1.aU P1.sub)
   |brk=>cases av e
   |ret p=>cases av e
theorem Wh:∃x,(D "law").body=Da++[au (D "law").body 24,x]:=⟨au (D "law").body 25,⋯⟩
theorem Wi(S:bY G)(hV:G.mg "ValueError"=none/\G.mb "ValueError"=some (.type "ValueError"))(I:Inv G s)(Fn:l9 G (D "law") "law" f)(sA:IG.length<=63)(rl:aN G (aq s.heap λy=>False) [.list (aQ IG)] vs)
 (h:∀s',(∀b o,s.heap.get? b=some o->¬G.tab b->s'.heap.get? b=some o)->Inv G s'->s'.os=s.os->Q (.bool true) s'):bt (bp G.prog G.w) callerA (call (.ref f) vs []) Q E s:=by
 obtain⟨o,fd,c,F0⟩:=Fn.ex;obtain⟨t,P⟩:=F0.pre;obtain⟨V,w,u,z,r,_,O,_,hB⟩:=XC 20 IG sA;obtain⟨x,hb⟩:=Wh;refine tB (Ee (μ:=λy=>False) (fr:=[]) (kw:=[]) (bs:=[("script",.list (aQ IG))]) S (by decide) I ⋯ (F0.fun I) (P s I.old) F0.cq (λy q=>q.elim) (λy q=>q.elim) ⋯ (λenv y=>vz ⋯) rl ⟨rfl,.mkNil⟩ λenv s2 m2 hf hs lr st I2 X2=>?_);have R:a_ (callerA.deeper env) 220:=⟨rfl,by show 1+claimMargin+1+2*220+60<1000;decide,by show 4+3+20*220+600<9900;decide⟩;rw[hb];refine fo (ZE (λn=>Bd S (λn r=>Bz S) n) Da 220 _ _ _ s2 _ hB R I2 ⟨m2,X2⟩ λs3 nO P3=>?_);obtain⟨m3,X3⟩:=P3.rel;refine c_ (XS V w u z r) λl1 l2 l3=>Fe (Wg V.n O.n) λp ys e1 e2 e3 e4=>?_;have fresh:=(lr _ (.inl (.inl rfl))).resolve_right id;have kp:∀b o,s.heap.get? b=some o->¬G.tab b->s3.heap.get? b=some o:=λb o ho nt=>by have nf:¬((b=env.locals\/bv (D "law").scope env b)\/dv b):=λq=>(lr b q).elim (λw=>by rw[ho]at w;exact nomatch w) id;exact P3.aU.keep b o (st.keep b o ho nt nf) nt nf
 refine tm (ZD S hV R P3.inv X3.aI.fo (Rb rfl) hf (Frs.enter (λy q=>nomatch q) I P3.inv X3.aI.ns X3.aI.ok.kind hf fresh kp .refl) l1 l2 l3 e1 e2 e3 e4 λs4 k4 I4 os4=>?_);exact h s4 (λb o ho nt=>k4 b o (kp b o ho nt) nt λq=>by rw[q,fresh]at ho;exact aK ho) I4 (os4.trans (P3.aU.os.trans st.os))
end
section
open PySem.Calls
theorem ZF{xs:List WData}(h:(WTm.and (.not (.lt (.lit (.int 63)) (.len (.arg 0)))) (.lit (.bool true))).holds [] {args:=[.list xs]}=true):xs.length<=63:=by refine jV.mp λhc=>?_;have hd:decide ((63:Int)<xs.length)=true:=bh (by omega);unfold WTm.holds at h;simp only[WTm.value,less?,Num.less?,List.getElem?_cons_zero,agh,hd,DM]at h;cases h
theorem MG{G:bE}{V:Vw}{P:Params}{h:bT}:∀{xs:List WData}{vs:List ar},WShape.hasItems [] xs .int=true->WellAll P h vs xs->∃sc:ac,sc.length=xs.length/\aN G V (aQ sc) vs
 |[],vs,_,w=>by cases w;exact⟨[],rfl,.mkNil⟩
 |x::xs,vs,e,w=>by
  refine be e λe1 e2=>?_;obtain⟨i,rfl⟩:=hasW_int e1;cases w with
  |cons w1 w2=>cases w1;obtain⟨sc,h1,h2⟩:=MG (G:=G) (V:=V) e2 w2;exact⟨i::sc,aR (· +1) h1,.mkCons (.mkInt _ _ _) h2⟩
theorem XT{G:bE}{V:Vw}{P:Params}{h:bT}{args:List WData}{vals:List ar}(p1:WShape.hasAll [] args [.list .int]=true)(p2:(WTm.and (.not (.lt (.lit (.int 63)) (.len (.arg 0)))) (.lit (.bool true))).holds [] {args:=args}=true)(w:WellAll P h vals args):
  ∃(sc:ac) (a:aw) (vs:List ar),sc.length<=63/\vals=[.ref a]/\h.get? a=some (bR vs.toArray 0)/\aN G V (aQ sc) vs:=by
 obtain⟨d,r,rfl,h1,h2⟩:=hasAllW_cons p1;obtain rfl:=hasAllW_nil h2;obtain⟨xs,rfl,h3⟩:=hasW_list h1;have hl:=ZF p2;cases w with
 |cons w1 w2=>
  cases w2;cases w1 with
  |list ha wa=>obtain⟨sc,e1,e2⟩:=MG (G:=G) (V:=V) h3 wa;exact⟨sc,_,_,e1▸hl,rfl,ha,e2⟩
theorem ZG{w:World}{hb:bT}{s s':aB}(I:Inv (GY w hb) s)(tb:∀m∈gi,s.heap.get? m.P=some (is #[]))(k:∀b o,s.heap.get? b=some o->¬(GY w hb).tab b->s'.heap.get? b=some o)(I':Inv (GY w hb) s'):OldK s.heap s'.heap:=by
 have key:∀b o,s.heap.get? b=some o->asItWas s.heap s'.heap b o/\∃o',s'.heap.get? b=some o':=λb o ho=>by
  by_cases ht:(GY w hb).tab b
  ·obtain⟨m,hm,e⟩:=ht;obtain⟨oc,vs,file,tf,flags,tg,CD,text,tt,c1,c2,c3,c4,_⟩:=(I.tabs m hm).1;have :=tb m hm;rw[<-e,ho]at this;cases this;rcases(I'.tabs m hm).2 with q|⟨c',q,_⟩
   ·rw[<-e]at q;exact⟨.inl q,_,q⟩
   ·rw[<-e]at q;exact⟨.inr (.inl ⟨⟨m.c,oc,vs,c1,c2,c3,e▸c4⟩,rfl,#[],_,rfl,by simpa using q⟩),_,q⟩
  ·exact⟨.inl (k b o ho ht),_,k b o ho ht⟩
 exact⟨λb o e=>(key b o e).1,λb o e=>(key b o e).2⟩
noncomputable abbrev rR:OpenRow:=PySem.Challenge.rw_tc0082_01.row
def rX:DefRec:=⟨"law",(D "law").args,(D "law").body,(D "law").scope,match qq.main.body with | .FunctionDef _ _ _ _ _ _ _ _ _ p::_=>p|_=>default⟩
theorem MH:rR.prog=PP:=⋯
theorem ZH:defOf qq rR.name=some (rX,[]):=⋯
theorem ZI:rR.prog.theDef rR.name=some (rX.params,rX.body,rX.scope):=⋯
theorem abt:kwWritten? rX.params.kwonlyargs rX.params.kw_defaults=some []:=⋯
theorem abu:(chainsOk qq&&opensWell rR.prog&&(frees rR.toRowW&&rR.within.isEmpty))=true:=⋯
theorem ZJ(s)(e:Xq s=true):RecFacts rR.records s.heap:=recFacts_of (rh.mp e).2
theorem XU:rR.prog.bare:=⟨rfl,rfl,rfl,rfl,rfl,by decide +kernel⟩
theorem XV:rR.toRowW.promised:=⟨[.list [.int 3,.int 1]],by decide +kernel,by decide +kernel⟩
theorem XW:LeftO rR.prog qq lo Xq yI (λz=>vX) 3000:=MH▸Ys
theorem abv:fnOf "law"=some (D "law"):=⋯
theorem XX:WalkO qq lo (XL qq []) B5 rR.toRowW rX [] λf vs=>PySem.call f vs:=by intro w bV cn mg mb G Y a o pm cd doc dV kV ho hd hcd hD iA hg args vals as Pm ahh hrd qS mu;obtain⟨hb,k,L,⟨p,loose,mean,T⟩,tb,QW⟩:=Y;have S:bY (GY w hb):=Zz w L T tb;have I:Inv (GY w hb) cn:=ZB k L QW (.of_eq hg);obtain⟨a',h1,Fn⟩:=S.fns "law" (D "law") abv;have e1:mg=hb.nsMap fS:=G.T.g.eq_nsMap.trans (Heap.Ns.eq_nsMap (I.mg S.towA)).symm;rw[e1,show rX.name="law" from rfl,show hb.nsMap fS "law"=some (.ref a') from h1]at iA;cases iA;obtain⟨sc,b,vs,hl,hv,w9,rl⟩:=XT (G:=GY w hb) (V:=aq cn.heap λz=>False) (pre_splitW Pm).1 (pre_splitW Pm).2 qS;rw[hv,show rR.toRowW.prog=PP from MH];have nt:NT (bR vs.toArray 0):=.inl (by nofun);refine Wi (G:=GY w hb) S (Zy L) I Fn hl (.mkCons (.ou ⟨w9,id,nt⟩ (by simpa using rl)) .mkNil) λs' k' I' os'=>⟨.inl ⟨_,.bool true,[],rfl,λz=>rfl,.bool true,⋯,λz=>⟨.nil,λz q=>nomatch q⟩⟩,ZG I QW k' I',os',I'.bare⟩
theorem final:PySem.Challenge.rw_tc0082_01.Holds:=
 holds_law ⋯ λacG=>holds_open XW hY hYk (λs e=>xl_of s (rh.mp e).1) XL.keeps ZH ZI abt ZJ rfl acG abu XU XV XX
end
end Mine.Internal
theorem PySem.Challenge.cw_tc0082_01_holds : PySem.Challenge.rw_tc0082_01.Holds :=
 Mine.Internal.final
